import PyProof.Rows.All
import KE.KLam
import KE.LcTurns
import KE.KDictIter
import KE.KStar
import KE.KNestM
import OpenK.KFacts
import OpenK.KMore
import OpenK.KMake
import OpenK.KEqL
import OpenK.KOwn
import OpenK.KDescr
import OpenK.TopRead
import OpenK.KCls
import OpenK.KList
import OpenK.KGet
import OpenK.KWalk
import KE.KBoundM
import KE.KSortAsk
import PySem.Challenge.RW_rx0023_01
open PySem PySem.W PyProof.Rows PySem.Calls PySem.Spec PyProof.Rows.LCg PySem.SeqAt
set_option Elab.async false
set_option autoImplicit true
set_option maxRecDepth 100000
set_option linter.all false
set_option linter.unusedVariables false
set_option linter.unusedSimpArgs false
set_option maxHeartbeats 0
set_option genSizeOf false
set_option genInjectivity false
set_option bootstrap.genMatcherCode false
set_option tactic.hygienic false
set_option compiler.extract_closed false
set_option genCtorIdx false
open And renaming intro->x1
open _root_.Array renaming replicate->qG,getD_eq_getD_getElem?->rd,length_toList->rR,empty_append->uH,perm_iff_toList_perm->v0,toList_map->Fd,getElem?_eq_some_iff->Jp,append_empty->Jv,isEmpty->KA,toList_append->LJ
open _root_.Array.Perm renaming refl->O1
open Bool renaming true->z,false->aj,and_eq_true->i7,false_eq_true->o4,false_ne_true->pk,eq_iff_iff->sT,true_and->us,and_eq_true_iff->wP,or_eq_false_iff->B7,false_or->KG,noConfusion->Lb,or_false->Ot,and_true->Qe
open Classical renaming not_not->LZ
open False renaming elim->vt
open ForInStep renaming yield->Bw
open Function renaming comp->pj
open Int renaming le_of_eq->c4,ofNat_le->dH,ofNat_lt->el,natCast_nonneg->f2,le_antisymm->gr,toNat_of_nonneg->gx,fmod->i9,self_le_toNat->kl,fdiv->lx,not_lt->oQ,eq_ofNat_of_zero_le->py,add_zero->rA,lt_or_gt_of_ne->sX,le_refl->tG,toNat_natCast->vz,lt_trans->v5,le_max_left->we,lt_irrefl->Ai,zero_add->AT,add_assoc->AU,zero_mul->AV,max_eq_right->Fs,neg_one_mul->Hm,max_eq_left->Pw
open Int.ofNat renaming inj->jn
open LE renaming le->m5
open _root_.List renaming mem_cons_self->ap,length_map->a7,map_cons->b8,length_append->dF,mem_map_of_mem->dI,map_map->d9,length_cons->eC,map_append->eX,getElem?_map->e8,mem_filter->e9,append_nil->fk,lookup_cons->fz,length->fL,getElem?_eq_getElem->gm,pairwise_cons->gq,length_singleton->gw,nodup_append->gz,getElem?_eq_some_iff->gG,length_take->g8,map_congr_left->hD,mem_cons->hQ,foldl_cons->hV,sum_cons->hW,append_assoc->hX,mem_of_getElem?->ib,pairwise_append->ih,mem_map->iv,rec->iw,take_length->iU,mem_range->iW,foldl_append->iX,range->jc,length_pos_iff->jm,length_range->jQ,nodup_cons->ka,any_eq_true->ko,replicate->kA,mem_singleton->kF,length_drop->k7,filter_sublist->lS,mem_append->lY,not_mem_nil->mL,map_nil->m9,nil_append->nv,getElem?_eq_none->nW,length_eq_zero_iff->n6,getD_eq_getElem?_getD->ow,getElem_mem->ox,size_toArray->o1,take_of_length_le->o5,filter_congr->pn,take_append_drop->p2,drop_zero->qa,take_add_one->qe,length_filter_le->qf,cons_append->qN,length_tail->ra,getLast?_concat->rj,drop_eq_getElem_cons->rK,getElem?_range->rP,filter_append->rQ,filterMap_cons->r3,mem_of_mem_take->sk,getLast?_map->sm,filter_cons->sM,idxOf_cons->sN,getElem?_append_right->sU,getElem?_append_left->sV,map_eq_nil_iff->s6,flatMap_cons->td,lookup->tO,any_cons->tQ,mem_of_getLast?->uS,getElem?_drop->uZ,mem_filterMap->vh,exists_mem_of_ne_nil->vq,perm_middle->vK,mem_singleton_self->vV,flatMap_append->vW,mapM_cons->wa,count_eq_zero->wE,drop_nil->w5,any_map->xI,mem_iff_getElem?->xL,length_eq_one_iff->xO,filter_eq_self->xY,length_nil->yv,all_eq_true->yC,map->yJ,filter_map->yR,sublist_append_right->zv,toArray->zy,foldl->zW,filter_eq_nil_iff->zX,replicate_succ->z6,getLast?_cons_cons->z7,count_pos_iff->Ay,getElem?_toArray->Bi,getElem?_eq_none_iff->Bl,drop->Bu,idxOf->BY,getElem_idxOf->BZ,drop_of_length_le->Cb,take_zero->Cg,mem_of_mem_drop->CL,pairwise_map->Dn,filter_cons_of_neg->Do,filter_cons_of_pos->Dp,range'->EJ,sublist_cons_self->E0,pairwise_iff_getElem->E8,zip_cons_cons->Fi,flatten->FC,flatten_cons->FD,foldl_nil->FE,flatMap_assoc->FI,mem_flatMap->Gn,count_cons->Gz,mem_replicate->GC,mem_of_mem_head?->GP,take_nil->Hx,getLast?_eq_getElem?->HM,filterMap_cons_some->HN,filterMap_cons_none->HO,take_succ_cons->HV,forIn_nil->H7,getElem?_zip_eq_some->Ip,forall_mem_cons->Iq,length_pos_of_mem->Iz,idxOf_lt_length_iff->IE,singleton_append->IR,any_toArray->Jt,getLast?_eq_some_getLast->JP,dropLast_eq_take->JQ,sum_append->JV,drop_succ_cons->JX,drop_eq_nil_iff->J5,drop_drop->J6,perm_append_comm->Kx,length_take_le'->KN,append_of_mem->KZ,length_erase_of_mem->LO,ne_nil_of_mem->LU,eraseIdx_append_of_length_le->MT,filter_nil->Nb,map_drop->No,drop_eq_nil_of_le->Nr,ext_getElem?->NK,mem_range'_1->NM,getElem_drop->N3,getElem?_take_of_lt->N5,getLast?_eq_none_iff->OF,getElem?_cons_succ->OG,nodup_range->OU,mapM_toArray->Pg,drop_one->PK,mem_of_mem_tail->PL,range_succ->PT,lookup_append->Q6,flatMap_nil->Rg,count_append->Rk
open _root_.List.Pairwise renaming sublist->Rr
open _root_.List.Perm renaming refl->eJ,swap->u3,of_eq->L3
open _root_.List.Sublist renaming cons->Nl,refl->Nm
open _root_.List.cons renaming inj->p3,injEq->Ou
open Nat renaming le_of_eq->aA,le_trans->a6,le_refl->cg,le_antisymm->c1,zero_le->ey,le_add_of_sub_le->e0,sub_add_cancel->fa,lt_succ_self->fy,sub_le->fC,le_of_ble_eq_true->fR,ne_of_lt->g6,not_lt->g7,le_of_lt->iC,lt_of_succ_lt_succ->lr,le_succ->lB,min_le_right->ml,lt_irrefl->mP,add_zero->nN,lt_of_lt_of_le->nO,min_le_left->ol,ble->oN,succ_pos->oO,le_add_right->oU,add_le_add_left->pV,lt_succ_of_lt->qc,min_eq_left->qz,succ_le_succ->qB,zero_add->rz,not_lt_zero->rC,lt_or_ge->r7,succ_mul->sB,pos_of_ne_zero->sK,lt_of_le_of_lt->tx,sub_zero->uy,add_assoc->vb,lt_trans->vL,lt_succ_iff_lt_or_eq->v4,le_of_lt_succ->v9,rec->wQ,add_le_add->wR,mul_le_mul_right->wS,mul_zero->yy,sub_self->zH,pow_succ->z0,zero_mul->AN,add_comm->AR,add_le_add_right->AW,sub_lt_sub_left->By,ne_of_gt->BU,max_le->B0,le_total->B9,min_eq_right->Ca,le_of_succ_le_succ->CN,lt_of_lt_of_eq->Dg,eq_or_lt_of_le->Fb,lt_or_gt_of_ne->LP,le_of_not_lt->NL,lt_succ_of_le->OY,max_eq_left->O2,pow_le_pow_right->PQ
open Ne renaming symm->mo
open Option renaming some->J,none->ah,map_eq_some_iff->gl,elim->uw,isSome_iff_exists->xC,none_or->DX,some_or->LK
open Option.some renaming inj->fS
open Or renaming elim->ay
open PUnit renaming unit->vu
open PyProof.Rows renaming Call_->jb,arrOf->jv,MethodCall_->jP,callWith_method1->mh,assignInOrder_cons->n1,seqObj->pF,IntsAre->rH,joinParts_cons->sc,listItems_at->s3,listUpdate_at->s5,append_at->uf,bubble->v8,Subscript_->xd,assignInOrder_nil->xv,oneType'->zP,get?_update_seq->Fj,seqEpoch_at->Fk,callWith_type1->HU,assign_Tuple_tuple->Pu
open PyProof.Rows.SortSt renaming mk'->Fc
open PySem renaming Str->v,Addr->T,wpAny_bind->ar,wpAny->au,sizeLine->aD,Shared->aS,Heap->aX,Value->ba,wpAny_pure->bc,starEach->bh,callEnvC->bV,model->b2,Env->b3,Stmt->cC,Around->cW,backTo->cY,Expr->c6,wpAny_mono->dr,Pos->dy,callWith->dP,call->dV,rawInt->d4,Obj->eg,standAt->es,holding->e7,Tok->fh,swapsWith->f6,getMethod->gK,reprText->gO,wpAny_holding->g5,World->hu,bindArgs->hE,codeAny->hR,wpAny_call->hS,Sem->ia,wpAny_assign_Name->iz,cellsFrom->iA,foldedSetIterable->iB,FuncData->iG,mainGlobals->iH,closureFor->iT,Program->i5,sysModules->i8,backToKw->jI,keywordEach->jJ,wpAny_standAt->jK,Scope->jN,compEnvC->jO,typeLookup_type->kd,builtinLookup_eq_fast->ke,getAttr->kf,strLen_append->kh,DictEntry->kG,wpAny_items_cons->kQ,PyData->kS,codeAmong->lv,wpAny_items_nil->ly,typeLookup->lz,assign->lA,isSubtype_type->lF,wpAny_truthy_bool->ma,wpAny_execs_cons->mn,interactive->mq,intKind->mS,relabel->mZ,argsOk->nb,recursionLimit->nR,cLine->nS,isTrue->nT,sliceBounds->nV,compTurn->nY,pushCells->n4,typeIs_str->n8,wpAny_Expr_any->oa,Meets->oc,wpAny_Constant_str->oV,strKind_is->o2,letOwnedTupleGo->o7,wpAny_Assign_Name->o9,codeAny_builtin->pc,Model->p1,TriplesOk->p4,slicePick->p8,leaving->qb,typeOf->qr,getMethod_builtin->qs,behindInMarks->rF,pyNext->rJ,wpAny_execs_nil->rS,wpAny_If->rT,clipAt->r5,wpAny_rule->r8,codeAny_call_builtin->sa,wpAny_load->sb,newTuple->sx,valueAt->tN,wpAny_loadName_local->tS,wpAny_List->tT,wpAny_specialOf->tW,intKind_is->tY,Result->t2,noteFrame->t3,pyIter->t6,IsRangeIter->t9,lookup_relabel_local->ua,newList->uc,wpAny_newObj_type->ud,eval_ListComp->uj,clipAt_nat->ux,entryFor->uA,entryFor_of_tree->uB,isSubtype->uC,evalArgs->uE,plainId_quiet->uF,swappedStores->uI,wpAny_seqItems->vx,wpAny_field->vy,wpAny_Name->w7,wpAny_isTrue_Compare1->w9,letTemporaryGo->xc,slot_list_getitem->xe,unpackItems->xk,wpAny_pyIter_list->xl,assignInOrder->xm,assignEach->xn,wpAny_storeName_local->xu,compPost->xy,comprehension->xz,wpAny_Return_some->xD,builtinsNs->xN,call_meets->xP,call_meetsIn->xQ,checkBoundCall->x5,keeperOf->x6,wpAny_ite_true->x7,swapsWithSole->yd,defaultsOf->y6,scanBound->zj,wpAny_Constant_none->A8,wpAny_loadName_cell->A9,wpAny_loadName_free->Ba,is_none->Be,wpAny_isTrue_BoolOp->Bf,wpAny_allTrue_Or_cons->Bg,subscripted->Bh,wpAny_getItem_of->Bj,sliceRange->Bk,wpAny_Slice->Bm,wpAny_tests_nil->BB,pushCells_keeps->BF,compTurn_list->BG,exec_Assign_Name_used->BM,assign->BN,wpAny_Dict_empty->BQ,wpAny_Assign_Subscript->B2,wpAny_setItem_pairs->B3,codeAny_of_tree->Ce,wpAny_of_eq->Cf,cameBackBy->Ch,plainObj_wpAny_Assign_Attribute->Ct,wpAny_mkStr->CX,wpAny_typeOf->DQ,wpAny_ite_false->DR,slot_listiter_next->Ek,excClassObj->ED,wpAny_fieldsOf->EH,wpAny_Constant_int->HE,wpAny_isTrue_value->HG,wpAny_allTrue_And_cons->HH,wpAny_allTrue_Or_nil->HI,wpAny_getItem_list_slice->HP,wpAny_pyIter_range->H4,wpAny_storeName_cell->H9,wpAny_AugAssign_AttributeAny->Jw,codeAny_forLoop_any->JF,wpAny_newFunctionEnv->Lm,wpAny_callSpecial?_slot->MV,wpAny_deleteEach_cons->M5,wpAny_delete_Subscript->M6,wpAny_deleteEach_nil->M7
open PySem.Around renaming frames_deeper->rX,under_plainId->zh
open PySem.Bind renaming checkArgs->Jd
open PySem.Builtin renaming divisionGoesByPylong->w8
open PySem.Builtin.Getset_descriptor renaming descrSet->Sa,descrStoreThrough->Sb,descrCheckInstance->Sc,descrNameAndClass->Sd,descrItself->Se
open PySem.Builtin.List renaming listUpdate->s4,listFitsIndex->NZ
open PySem.Builtin.Range renaming rangeSize->BA,small->NX
open PySem.Builtin.Re renaming reTurnSteps->ze,reNoCollectionInside->Mn
open PySem.Builtin.Str renaming occurrences->px,tableLookup->J8
open PySem.Calls renaming evalArgs_plain->t0,Name_function_global->xb,callWith_function->xi,getMethod_list_append->B4,loadGlobal_builtin->HL
open PySem.Challenge renaming rw_rx0023_01->ry,pw_rx0023_01->R9
open PySem.Code renaming compLoop->jL,quiet_builtin->Cs
open PySem.Expr renaming Tuple->od
open PySem.F renaming slot_dict_get->qt,slot_str_join->so,type_str_join->sp,type_dict_get->uQ,excCall_ValueError->vj,excRaise_ValueError->vk,attr_ValueError->y3,slot_list_index->BX,slot_list_getattribute->Ck,slot_str_getitem->Co,slot_gs_get->DO,typeOf_object_class->DP,slot_str_replace->EL,plainAttrs_str->IB,plainAttrs_list->IC,plainAttrs_dict->ID,entry_dict_get->IG,type_list_append->I8,slot_list_append->Ja,slot_str_translate->Ka,isExc_ValueError->LC,notTuple_ValueError->LD,type_list_index->LY,slot_dict_delitem->MW,slot_dict_values->Nw,slot_str_find->NP,type_str_replace->NS,slot_list_setitem->N0,slot_list_lt->Pa,slot_list_sort->Pq
open PySem.Heap renaming get?_push_size->dM,get?_push_of_some->gj,lt_size->gk,SameBut->h9,size_push->mi,get?_update_self->nc,get?_none_of_le->qg,ExtBut->xj,MadeExcOf->yX,dictOf_iff->Nc
open PySem.Heap.DictOf renaming new->BR
open PySem.Heap.IsSliceOf renaming new->HQ
open PySem.Heap.SameBut renaming update->ji
open PySem.Heap.UpToSlots renaming of_keeps->Ld
open PySem.Manifest renaming signature?->x4
open PySem.Meets renaming of_wp->uD
open PySem.MeetsSeq3 renaming plain_eq_loop->s2,entry_eq_loop->Ff
open PySem.Obj renaming mapSeq->jo,mapFields->qZ,isFreed_of_fields->Em,data_mapFields->MR
open PySem.P renaming iadd_int->Jj,getItem_str->Jo
open PySem.PyData renaming strOk->fx,canLay0->n9,canLayAll0->qu,depthAll->qv,depth->r0,keyHash->tt,int->ut,str->wn
open PySem.SeqAt renaming shaped->jG,noMix->me,noMixAll->qw
open PySem.Sre renaming M->oq,forSearch->zd,Seen->Eb,header->Ec
open PySem.Stmt renaming casesOn->wM
open PySem.Str renaming ofString->js,empty->kg
open PySem.StrLaws renaming sliceText->jZ,glued_eq_join->PV
open PySem.Txt renaming join->dD
open PySem.Value renaming ref->na,none->nU,type->ob,isInt->rM,builtin->r9,str->sL,isStrOf->H2,casesOn->Ph
open PySem.Value.ref renaming inj->t7
open PySem.W renaming hideAll_get->cb,hideAll->cq,hideAll_none->cU,instObj->c3,CodeHd->di,of_hideAll->ff,emptyDict->f5,Frag->ht,dictOf->j7,plainGet_of->k6,getL->nP,kla_fn->oo,tabObj->oT,kas_item->re,findIn->sf,typeIn->sg,hasDictIn->uK,Looks->uL,lookIn->uO,lookIn_dict->uP,looks_field->yj,shadowIn->yo,method_fn->yp,callWith_K->Cw,callWith_K0->Cx
open PySem.W.KF renaming slot_mset->yk
open PySem.Walks renaming dictKeys->H3
namespace Mine
open _root_.List renaming toArray→aRR
local macro_rules |`(term|#[$t,*])=>`(term|⟨$t,*⟩)
local macro_rules |`(tactic|show $t)=>`(tactic|refine $t)
local macro_rules |`(tactic|room)=>`(tactic|kernel_rfl)
def V {b:Sort _}{a:b}:a=a:=rfl
noncomputable abbrev bY:=ba->aS->Prop
noncomputable abbrev lp:=Unit->aS->Prop
noncomputable abbrev s:=List Int
noncomputable abbrev h:=List v
noncomputable abbrev aZ:=List T
noncomputable abbrev cv:=List ba
noncomputable abbrev bQ:=List Nat
noncomputable abbrev h6:=List c6
def g {a:Type _}{b d:a}{c:List a}(e:b∈c):b∈d::c:=List.mem_cons_of_mem _ e
def bJ {a:Type _}{b:a}{c d:List a}(e:b∈c):b∈c++d:=List.mem_append_left _ e
def bB {a:Type _}{b:a}{d c:List a}(e:b∈c):b∈d++c:=List.mem_append_right _ e
def d2 {b:Type _}{a c:b}{d:List b}(e:a∈c::d):a=c\/a∈d:=hQ.mp e
def jz {b:Type _}{a:b}{c d:List b}(e:a∈c++d):a∈c\/a∈d:=lY.mp e
def bX {c:Type _}{a b:c}(d:a∈[b]):a=b:=kF.mp d
def ck {a b:Type _}{c:a->b}{d:b}{e:List a}(g:d∈e.map c):∃f,f∈e/\c f=d:=iv.mp g
noncomputable abbrev pQ:i5:=R9
noncomputable def dK (L:Nat):cC:=(pQ.main.body[L]?).getD<| .Pass default
noncomputable def mM (L cD:Nat):cC:=wM (dK L) (λa a a a a a a a a a=>dK L) (λa a a a a a a a a a=>dK L) (λa a a al a a a a a a a=>(al[cD]?).getD<| .Pass default) (λa a=>dK L) (λa a=>dK L) (λa a a=>dK L) (λa a a a a a a=>dK L) (λa a a a=>dK L) (λa a a a a=>dK L) (λa a a a a=>dK L) (λa a a a a=>dK L) (λa a a a=>dK L) (λa a a a=>dK L) (λa a a=>dK L) (λa a a=>dK L) (λa a a=>dK L) (λa a a=>dK L) (λa a a a a=>dK L) (λa a a a a=>dK L) (λa a a=>dK L) (λa a=>dK L) (λa a a a=>dK L) (λa a=>dK L) (λa a=>dK L) (λa a=>dK L) (λa=>dK L) (λa=>dK L)<|λa=>dK L
noncomputable def f0 (c:v)(af:ba)(d:v)(a2 b:Nat)(ae:cC):eg:={cls:=.type "function",data:=.func<|wM ae (λn ac al a a a aa a a a=>{name:=n,qualname:=c,params:=ac,body:=.stmts al,scope:=aa,globals:=3,closure:=[],defaults:=af,kwdefaults:=.none,pyModule:=.str d a2,code:=.ref b}) (λa a a a a a a a a a=>default) (λa a a a a a a a a a a=>default) (λa a=>default) (λa a=>default) (λa a a=>default) (λa a a a a a a=>default) (λa a a a=>default) (λa a a a a=>default) (λa a a a a=>default) (λa a a a a=>default) (λa a a a=>default) (λa a a a=>default) (λa a a=>default) (λa a a=>default) (λa a a=>default) (λa a a=>default) (λa a a a a=>default) (λa a a a a=>default) (λa a a=>default) (λa a=>default) (λa a a a=>default) (λa a=>default) (λa a=>default) (λa a=>default) (λa=>default) (λa=>default)<|λa=>default}
noncomputable def cK (aM:Params)(am:v)(a2:Nat)(aq:ba):kG:=#[tt aM am,.str am a2,aq]
noncomputable def AJ (n:Nat):ba:=match n with
 |0=>.none|n=>.ref n
noncomputable def f1 (n:v)(a:Nat)(c:v)(d e f ac al pR aT ak aq b ae g h i:Nat):eg:={cls:=.type "code",data:=.fields (aRR [.str n a,.str c d,.str "/claim/cut.py" e,.int f 0,.int ac 0,.int 0 0,.int 0 0,.int al 0,.ref pR,.bool z,.int aT 0,.ref ak,.none,AJ aq,AJ b,.ref ae,.int g 0,.int h 0,.str "/claim/cut.py" i])}
noncomputable def wN:Array kG:=(aRR [#[40,.int 40 341,.str "\\(" 345],#[41,.int 41 347,.str "\\)" 351],#[91,.int 91 353,.str "\\[" 357],#[93,.int 93 359,.str "\\]" 363],#[123,.int 123 365,.str "\\{" 369],#[125,.int 125 371,.str "\\}" 375],#[63,.int 63 377,.str "\\?" 381],#[42,.int 42 383,.str "\\*" 387],#[43,.int 43 389,.str "\\+" 393],#[45,.int 45 395,.str "\\-" 399],#[124,.int 124 401,.str "\\|" 405],#[94,.int 94 407,.str "\\^" 411],#[36,.int 36 413,.str "\\$" 417],#[92,.int 92 419,.str "\\\\" 423],#[46,.int 46 425,.str "\\." 429],#[38,.int 38 431,.str "\\&" 435],#[126,.int 126 437,.str "\\~" 441],#[35,.int 35 443,.str "\\#" 447],#[32,.int 32 449,.str "\\ " 453],#[9,.int 9 455,.str "\\\t" 459],#[10,.int 10 461,.str "\\\n" 465],#[13,.int 13 467,.str "\\\x0d" 471],#[11,.int 11 473,.str "\\\x0b" 477],#[12,.int 12 479,.str "\\\x0c" 483]])
noncomputable def tu (aM:Params):ht:=[
(3,{cls:=.type "dict",data:=.dict (aRR [cK aM "__name__" 165 (.str "law_rx0023_01" 709),cK aM "__doc__" 166 .none,cK aM "__package__" 167 .none,cK aM "__loader__" 168 (.builtin "__main__.__loader__#opaque"),cK aM "__spec__" 169 .none,cK aM "__annotations__" 170 (.ref 6),cK aM "__builtins__" 171 (.ref 4),cK aM "__file__" 173 (.str "/claim/cut.py" 172),cK aM "__cached__" 174 .none,cK aM "_sre" 275 (.ref 12),cK aM "_wall" 288 (.ref 38),cK aM "_twin_re_1" 328 (.ref 43),cK aM "translate" 337 (.ref 50),cK aM "_special_chars_map" 485 (.ref 52),cK aM "escape" 492 (.ref 62),cK aM "_translate" 513 (.ref 69),cK aM "_join_translated_parts" 526 (.ref 76),cK aM "_NODE_OUT" 531 (.int (-1) 530),cK aM "_NODE_DONE" 534 (.int (-2) 533),cK aM "_NodeInfo" 571 (.ref 95),cK aM "CycleError" 589 (.ref 110),cK aM "TopologicalSorter" 708 (.ref 192),cK aM "_law_items" 716 (.ref 203),cK aM "_law_rule" 722 (.ref 208),cK aM "_law_single" 728 (.ref 213),cK aM "_law_uses" 734 (.ref 218),cK aM "_law_ring" 740 (.ref 223),cK aM "_law_rounds" 746 (.ref 228),cK aM "_law_flat" 752 (.ref 233),cK aM "_law_text" 758 (.ref 238),cK aM "_law_words" 766 (.ref 245),cK aM "_law_refuses" 780 (.ref 252),cK aM "_law_grows" 786 (.ref 257),cK aM "law" 792 (.ref 262)]) 34}),
(42,{cls:=.type "tuple",data:=.seq (aRR [.int 14 0,.int 14 0,.int 4 0,.int 1 0,.int 1 0,.int 9 0,.int 0 0,.int 64 0,.int 0 0,.int 1342177280 0,.int 0 0,.int 0 0,.int 0 0,.int 0 0,.int 0 0,.int 17 0,.int 0 0,.int 13 0,.int 11 0,.int 9 0,.int 0 0,.int 64 0,.int 0 0,.int 1342177280 0,.int 0 0,.int 0 0,.int 0 0,.int 0 0,.int 0 0,.int 17 0,.int 1 0,.int 1 0])}),
(43,{cls:=.type "re.Pattern",data:=.fields (aRR [.str "([&~|])" 292,.int 32 327,.int 1 0,.none,.none,.ref 42,.int 0 0])}),
(49,f1 "translate" 329 "translate" 330 331 7 1 3 44 276 45 46 47 48 335 7 336),
(50,f0 "translate" .none "cpy313.fnmatch" 289 49 (dK 4)),
(52,{cls:=.type "dict",data:=.dict wN 24}),
(61,f1 "escape" 486 "escape" 487 488 13 1 3 56 276 57 58 59 60 490 13 491),
(62,f0 "escape" .none "re" 338 61 (dK 7)),
(68,f1 "_translate" 495 "_translate" 496 497 20 3 3 63 276 64 65 66 67 511 20 512),
(69,f0 "_translate" .none "cpy313.fnmatch" 493 68 (dK 9)),
(75,f1 "_join_translated_parts" 514 "_join_translated_parts" 515 516 82 2 3 70 276 71 72 73 74 524 82 525),
(76,f0 "_join_translated_parts" .none "cpy313.fnmatch" 493 75 (dK 10)),
(90,f1 "__init__" 551 "_NodeInfo.__init__" 552 553 115 2 3 85 276 86 87 88 89 556 115 557),
(91,f0 "_NodeInfo.__init__" .none "cpy313.graphlib" 527 90 (mM 14 1)),
(94,{cls:=.type "dict",data:=.dict (aRR [cK aM "__module__" 542 (.str "cpy313.graphlib" 527),cK aM "__firstlineno__" 546 (.int 112 545),cK aM "__slots__" 550 (.ref 84),cK aM "__init__" 558 (.ref 91),cK aM "__static_attributes__" 562 (.ref 92),cK aM "node" 564 (.ref 96),cK aM "npredecessors" 566 (.ref 97),cK aM "successors" 568 (.ref 98),cK aM "__doc__" 569 .none]) 5}),
(95,{cls:=.type "type",data:=.cls {name:="_NodeInfo",bases:=[.type "object"],mro:=[.ref 95,.type "object"],ns:=94,qualname:="_NodeInfo",hasDict:=aj,slotNames:=["node","npredecessors","successors"]},slots:=(aRR [ah,ah,J (.str "_NodeInfo" 535),J (.str "_NodeInfo" 543),J (.builtin "object.__new__"),J (.bool aj)])}),
(96,{cls:=.type "member_descriptor",data:=.fields (aRR [.str "node" 563,.ref 95,.builtin "proto.slot",.builtin "proto.slot#set",.int 2 0])}),
(97,{cls:=.type "member_descriptor",data:=.fields (aRR [.str "npredecessors" 565,.ref 95,.builtin "proto.slot",.builtin "proto.slot#set",.int 1 0])}),
(98,{cls:=.type "member_descriptor",data:=.fields (aRR [.str "successors" 567,.ref 95,.builtin "proto.slot",.builtin "proto.slot#set",.int 0 0])}),
(109,{cls:=.type "dict",data:=.dict (aRR [cK aM "__module__" 579 (.str "cpy313.graphlib" 527),cK aM "__firstlineno__" 583 (.int 119 582),cK aM "__static_attributes__" 584 (.ref 108),cK aM "__weakref__" 586 (.ref 111),cK aM "__doc__" 587 .none]) 3}),
(110,{cls:=.type "type",data:=.cls {name:="CycleError",bases:=[.type "ValueError"],mro:=[.ref 110,.type "ValueError",.type "Exception",.type "BaseException",.type "object"],ns:=109,qualname:="CycleError"},slots:=(aRR [J (.ref 101),ah,J (.str "CycleError" 572),J (.str "CycleError" 580),J (.builtin "ValueError.__new__"),J (.bool z)])}),
(121,{cls:=.type "tuple",data:=.seq (aRR [.none])}),
(127,f1 "__init__" 602 "TopologicalSorter.__init__" 603 604 123 2 3 122 276 123 124 125 126 609 123 610),
(128,f0 "TopologicalSorter.__init__" (.ref 121) "cpy313.graphlib" 527 127 (mM 16 0)),
(134,f1 "_get_nodeinfo" 612 "TopologicalSorter._get_nodeinfo" 613 614 132 2 3 129 276 130 131 132 133 618 132 619),
(135,f0 "TopologicalSorter._get_nodeinfo" .none "cpy313.graphlib" 527 134 (mM 16 1)),
(141,f1 "add" 621 "TopologicalSorter.add" 622 623 137 2 7 136 276 137 138 139 140 630 137 631),
(142,f0 "TopologicalSorter.add" .none "cpy313.graphlib" 527 141 (mM 16 2)),
(146,f1 "prepare" 633 "TopologicalSorter.prepare" 634 635 146 1 3 143 276 144 0 0 145 636 146 637),
(147,f0 "TopologicalSorter.prepare" .none "cpy313.graphlib" 527 146 (mM 16 3)),
(153,f1 "get_ready" 639 "TopologicalSorter.get_ready" 640 641 154 1 3 148 276 149 150 151 152 646 154 647),
(154,f0 "TopologicalSorter.get_ready" .none "cpy313.graphlib" 527 153 (mM 16 4)),
(160,f1 "is_active" 649 "TopologicalSorter.is_active" 650 651 165 1 3 155 276 156 157 158 159 653 165 654),
(161,f0 "TopologicalSorter.is_active" .none "cpy313.graphlib" 527 160 (mM 16 5)),
(174,f1 "done" 663 "TopologicalSorter.done" 664 665 173 1 7 169 276 170 171 172 173 674 173 675),
(175,f0 "TopologicalSorter.done" .none "cpy313.graphlib" 527 174 (mM 16 7)),
(181,f1 "_find_cycle" 677 "TopologicalSorter._find_cycle" 678 679 196 1 3 176 276 177 178 179 180 687 196 688),
(182,f0 "TopologicalSorter._find_cycle" .none "cpy313.graphlib" 527 181 (mM 16 8)),
(191,{cls:=.type "dict",data:=.dict (aRR [cK aM "__module__" 597 (.str "cpy313.graphlib" 527),cK aM "__firstlineno__" 601 (.int 121 600),cK aM "__init__" 611 (.ref 128),cK aM "_get_nodeinfo" 620 (.ref 135),cK aM "add" 632 (.ref 142),cK aM "prepare" 638 (.ref 147),cK aM "get_ready" 648 (.ref 154),cK aM "is_active" 655 (.ref 161),cK aM "__bool__" 662 (.ref 168),cK aM "done" 676 (.ref 175),cK aM "_find_cycle" 689 (.ref 182),cK aM "static_order" 696 (.ref 189),cK aM "__static_attributes__" 701 (.ref 190),cK aM "__dict__" 703 (.ref 193),cK aM "__weakref__" 705 (.ref 194),cK aM "__doc__" 706 .none]) 4}),
(192,{cls:=.type "type",data:=.cls {name:="TopologicalSorter",bases:=[.type "object"],mro:=[.ref 192,.type "object"],ns:=191,qualname:="TopologicalSorter"},slots:=(aRR [ah,ah,J (.str "TopologicalSorter" 590),J (.str "TopologicalSorter" 598),J (.builtin "object.__new__"),J (.bool z)])}),
(202,f1 "_law_items" 711 "_law_items" 712 713 228 0 3 197 276 198 199 200 201 714 228 715),
(203,f0 "_law_items" .none "law_rx0023_01" 709 202 (dK 18)),
(207,f1 "_law_rule" 717 "_law_rule" 718 719 230 2 3 204 276 205 0 0 206 720 230 721),
(208,f0 "_law_rule" .none "law_rx0023_01" 709 207 (dK 19)),
(212,f1 "_law_single" 723 "_law_single" 724 725 235 1 3 209 276 210 0 0 211 726 235 727),
(213,f0 "_law_single" .none "law_rx0023_01" 709 212 (dK 20)),
(217,f1 "_law_uses" 729 "_law_uses" 730 731 237 1 3 214 276 215 0 0 216 732 237 733),
(218,f0 "_law_uses" .none "law_rx0023_01" 709 217 (dK 21)),
(222,f1 "_law_ring" 735 "_law_ring" 736 737 244 2 3 219 276 220 0 0 221 738 244 739),
(223,f0 "_law_ring" .none "law_rx0023_01" 709 222 (dK 22)),
(227,f1 "_law_rounds" 741 "_law_rounds" 742 743 255 1 3 224 276 225 0 0 226 744 255 745),
(228,f0 "_law_rounds" .none "law_rx0023_01" 709 227 (dK 23)),
(232,f1 "_law_flat" 747 "_law_flat" 748 749 263 2 3 229 276 230 0 0 231 750 263 751),
(233,f0 "_law_flat" .none "law_rx0023_01" 709 232 (dK 24)),
(237,f1 "_law_text" 753 "_law_text" 754 755 265 1 3 234 276 235 0 0 236 756 265 757),
(238,f0 "_law_text" .none "law_rx0023_01" 709 237 (dK 25)),
(244,f1 "_law_words" 759 "_law_words" 760 761 271 1 3 239 276 240 241 242 243 764 271 765),
(245,f0 "_law_words" .none "law_rx0023_01" 709 244 (dK 26)),
(251,f1 "_law_refuses" 767 "_law_refuses" 768 769 276 4 3 246 276 247 248 249 250 778 276 779),
(252,f0 "_law_refuses" .none "law_rx0023_01" 709 251 (dK 27)),
(256,f1 "_law_grows" 781 "_law_grows" 782 783 282 4 3 253 276 254 0 0 255 784 282 785),
(257,f0 "_law_grows" .none "law_rx0023_01" 709 256 (dK 28)),
(261,f1 "law" 787 "law" 788 789 298 1 3 258 276 259 0 0 260 790 298 791),
(262,f0 "law" .none "law_rx0023_01" 709 261 (dK 29))]
noncomputable def mO:i5:=view pQ [0,1,3,4,6,7,9,10,12,13,14,15,16,18,19,20,21,22,23,24,25,26,27,28,29]
noncomputable def oK:h:=["_twin_re_1","_special_chars_map","_NodeInfo"]
noncomputable def AK:aZ:=[3,42,43,49,50,52,61,62,68,69,75,76,90,91,94,95,96,97,98,109,110,121,127,128,134,135,141,142,146,147,153,154,160,161,174,175,181,182,191,192,202,203,207,208,212,213,217,218,222,223,227,228,232,233,237,238,244,245,251,252,256,257,261,262]
noncomputable def Ha:aZ:=[247,225,254,64,259]
def Hb:∀a,AK=(tu a).map (·.1):=λa=>by room
noncomputable def lZ:Hook:=kmHook tu AK Hb Ha
def oL:OpenLaw.wellSaid ry=z:=by room
noncomputable def wO (aa:aS):Bool:=xlAt mO [] aa&&recOk ry.row.toRowW.records aa
abbrev oM (cl:hu):Prop:=(openEnds treeTable pQ cl 5876).map (λaa=>(openSeen mO oK (importedModules pQ.main.body) wO z aa,lZ.obs aa))=J (openGood mO oK,lZ.val cl)
noncomputable abbrev tv (cl:hu)(ac al:Bool):hu:=(cl.withFollow "comprehension-iter-twice" ac).withFollow "special-get-raises" al
def Hc (a:hu):oM (tv a aj aj):=by room
def Hd (a:hu):oM (tv a aj z):=by room
def He (a:hu):oM (tv a z aj):=by room
def Hf (a:hu):oM (tv a z z):=by room
def Hg:LeftO pQ mO oK wO lZ.obs lZ.val 5876:=λa=>
 byRow2 "special-get-raises" (P:=oM) (byRow2 "comprehension-iter-twice" (P:=λa=>oM<|a.withFollow "special-get-raises" aj) Hc He) (byRow2 "comprehension-iter-twice" (P:=λa=>oM<|a.withFollow "special-get-raises" z) Hd Hf) a
noncomputable def AL:DefRec:=((defOf mO "law").map (·.1)).getD #["",{posonlyargs:=[],args:=[],vararg:=ah,kwonlyargs:=[],kw_defaults:=[],kwarg:=ah,defaults:=[]},[],pQ.main.scope,default]
def Hh (walk:WalkO mO oK (XL mO []) lZ.says ry.row.toRowW AL [] λa b=>PySem.call a b):ry.Holds:=
 holds_law oL λc=>by
  show holds_open (q:=mO) (loose:=oK) (Xt:=wO) (XP:=XL mO []) (Yf:=lZ.obs) (Ya:=lZ.val) (YP:=lZ.says) (N:=5876) Hg lZ.of lZ.keeps (λb a=>xl_of b (wP.mp a).1) XL.keeps (by room) (by room) (by room) (λb a=>recFacts_of (wP.mp a).2) (by rfl) c (by room) #[V,V,V,V,V,by decide+kernel] ?hw walk
  w_witness2
def a5 {b:Type _}{a c:b}{d:List b}(e:a∈c::d):c=a\/a∈d:=(d2 e).imp Eq.symm id
def bC {a:Prop}(c:∀b:Prop,(a->b)->b):a:=c a id
def eO {c:Type _}{a b:c}(d:a≠b):a∉[b]:=λa=>d<|bX a
def h7 {a:Type _}{b:a}{c:List a}(d:b∈c):∀e∈[b],e∈c:=λb a=>bX a▸d
def l0 {a:Type _}{b c:a}{d:List a}:b∈c::b::d:=.tail _<| .head _
def i6 {a:Type _}{b c d:a}{e:List a}:b∈c::d::b::e:=.tail _ l0
def tw {a:Type _}{b c d e:a}{f:List a}:b∈c::d::e::b::f:=.tail _ i6
def b6 {a:Type _}{b:Option a}{c:a}{d:Prop}(e:b=ah)(f:b=J c):d:=(nomatch e.symm.trans f)
def jA {c:Type _}{a b:Option c}(d:∀o,a=J o->b=J o)(e:b=ah):a=ah:=by
 cases a with
 |none=>rfl|some o=>show b6 e<|d o V
def f {a:Prop}[c:Decidable a](b:decide a=z):a:=of_decide_eq_true b
def D:z=z:=rfl
def c:aj=aj:=rfl
def b1 {a b c:Nat}(d:a<=b:=by assumption)(e:oN b c=z:=by show Mine.D):a<=c:=a6 d<|fR e
def gu {a b c:Nat}(d:a<=b:=by assumption)(e:Nat.blt b c=z:=by show Mine.D):a<c:=tx d<|fR e
inductive ek
 |iP (L:Nat)|O (am:Nat)|S (ag r:ek)|cT (am:Nat) (H:ek)|w (H:ek) (am:Nat)
noncomputable def ty (b:bQ)(L:Nat):Nat:=iw (λa=>0) (λae a c L=>wQ ae (λcD a=>c cD) L) b L
noncomputable def ek.den (b:bQ)(H:ek):Nat:=ek.rec (λL=>ty b L) (λam=>am) (λa a ae bx=>ae+bx) (λam a ae=>am*ae) (λa am ae=>ae*am) H
noncomputable def tz (ak a:bQ):bQ:=iw (λa=>a) (λae ak b a=>iw (ae::ak) (λbx a c=>(ae+bx)::b a) a) ak a
noncomputable def gY (ak b:bQ):Nat:=iw (λa=>0) (λae a c b=>iw 0 (λbx b a=>ae*bx+c b) b) ak b
noncomputable def pS (ak a:bQ):Bool:=iw (λb=>z) (λae b c a=>iw (oN ae 0&&c []) (λbx a b=>oN ae bx&&c a) a) ak a
noncomputable def tA (L:Nat):bQ:=wQ [1] (λb a=>0::a) L
noncomputable def ek.fm (H:ek):bQ:=ek.rec (λL=>0::tA L) (λam=>[am]) (λa a ae bx=>tz ae bx) (λam a ae=>ae.map (am*·)) (λa am ae=>ae.map (am*·)) H
def Hi (c:bQ):∀b a,gY (tz c b) a=gY c a+gY b a:=by
 induction c with
 |nil=>intro b a;show(rz _).symm|cons e c g=>
  intro b a;cases b with
  |nil=>rfl|cons f b=>cases a with
   |nil=>rfl|cons d a=>
    show(?_:(e+f)*d+gY (tz c b) a=(e*d+gY c a)+(f*d+gY b a));rw[g,Nat.add_mul,Nat.add_add_add_comm]
def AM (c:Nat)(b:bQ):∀a,gY (b.map (c*·)) a=c*gY b a:=by
 induction b with
 |nil=>intro a;rfl|cons d b f=>intro a;cases a with
  |nil=>rfl|cons e a=>
   show(?_:c*d*e+gY (b.map (c*·)) a=c*(d*e+gY b a));rw[f,Nat.mul_add,Nat.mul_assoc]
def Hj (b:Nat):∀a,gY (tA b) a=ty a b:=by
 induction b with
 |zero=>intro a;cases a with
  |nil=>rfl|cons c a=>show(nN _).trans<|Nat.one_mul c
 |succ b d=>intro a;cases a with
  |nil=>rfl|cons c a=>
   show(?_:0*c+gY (tA b) a=ty a b);rw[AN,rz,d]
def ek.pT (a:bQ)(b:ek):b.den a=gY b.fm (1::a):=by
 induction b with
 |iP f=>
  show(?_:ty a f=0*1+gY (tA f) a);rw[Hj,AN,rz]
 |O c=>show(Nat.mul_one c).symm|S g r h i=>
  show(?_:g.den a+r.den a=gY (tz g.fm r.fm) (1::a));rw[Hi,h,i]
 |cT c b d=>
  show(?_:c*b.den a=gY (b.fm.map (c*·)) (1::a));rw[AM,d]
 |w b c d=>
  show(?_:b.den a*c=gY (b.fm.map (c*·)) (1::a));rw[AM,d,Nat.mul_comm]
def Hk (b:bQ):pS b []=z->∀a,gY b a<=0:=by
 induction b with
 |nil=>intro _ a;show cg _|cons c b d=>intro e a;cases a with
  |nil=>show cg _|cons f a=>
   have h':(oN c 0&&pS b [])=z:=e;rw[i7]at h';have e:=Nat.le_zero.mp<|fR h'.1;show(?_:c*f+gY b a<=0);rw[e,AN,rz];show d h'.2 a
def AO (c:bQ):∀a,pS c a=z->∀b,gY c b<=gY a b:=by
 induction c with
 |nil=>intro a _ b;show ey _|cons d c f=>intro a e b;cases a with
  |nil=>show a6 (Hk (d::c) e b)<|ey _
  |cons g a=>cases b with
   |nil=>show cg _|cons h b=>
    have h':(oN d g&&pS c a)=z:=e;rw[i7]at h';show wR (wS h<|fR h'.1)<|f a h'.2 b
structure hx where
 k:Nat
 l1:ek
 l2:ek
noncomputable abbrev y:ek:=.iP 0
noncomputable abbrev C:ek:=.iP 1
noncomputable abbrev t:ek:=.iP 2
noncomputable abbrev aV:ek:=.iP 3
noncomputable abbrev dx:ek:=.iP 4
noncomputable abbrev gZ:ek:=.iP 5
noncomputable abbrev kH:ek:=.iP 6
noncomputable abbrev tB:ek:=.iP 7
noncomputable abbrev AP:ek:=.iP 8
noncomputable abbrev AQ:ek:=.iP 9
noncomputable abbrev ek.e (ac:ek):ek:=.S ac<| .O 1
noncomputable abbrev hx.j (ac al:ek):hx:=#[1,ac,al]
noncomputable abbrev hx.aL (ac al:ek):hx:=#[1,.S ac<| .O 1,al]
def pU (b:bQ)(a:List hx)(aM:Prop):Prop:=iw aM (λan d c=>an.l1.den b<=an.l2.den b->c) a
noncomputable def l3 (aT:hx->ek)(a:List hx):ek:=iw (.O 0) (λan c b=>.S (.cT an.k<|aT an) b) a
def pU.of {b:bQ}{c:Prop}(a:List hx):((l3 hx.l1 a).den b<=(l3 hx.l2 a).den b->c)->pU b a c:=by
 induction a generalizing c with
 |nil=>show λd=>d<|cg _
 |cons d a e=>show λa b=>e λc=>a<|wR (Nat.mul_le_mul_left d.k b) c
def lq (a:bQ)(b:List hx)(c:Nat)(e r:ek)(f:pS (ek.fm<| .S (.cT (c+1) e)<|l3 hx.l2 b) (ek.fm<| .S (.cT (c+1) r)<|l3 hx.l1 b)=z):pU a b (e.den a<=r.den a):=pU.of b λg=>by
 have d:=AO _ _ f<|1::a;rw[<-ek.pT,<-ek.pT]at d;have d:(c+1)*e.den a+(l3 hx.l2 b).den a<=(c+1)*r.den a+(l3 hx.l1 b).den a:=d;show Nat.le_of_mul_le_mul_left (Nat.le_of_add_le_add_right<|a6 d<|pV g _)<|oO c
def wT (b:bQ)(a:List hx)(d:pS (ek.fm<| .S (.O 1)<|l3 hx.l2 a) (l3 hx.l1 a).fm=z):pU b a False:=pU.of a λe=>by
 have c:=AO _ _ d<|1::b;rw[<-ek.pT,<-ek.pT]at c;have c:1+(l3 hx.l2 a).den b<=(l3 hx.l1 a).den b:=c;show mP _<|nO (nO (nO (fy _)<|aA<|AR _ 1) c) e
def dL {ac:Nat}:=@lq [ac]
def b9 {ac al:Nat}:=@lq [ac,al]
def bd {ac al b:Nat}:=@lq [ac,al,b]
def c7 {ac al b af:Nat}:=@lq [ac,al,b,af]
def jB {ac al b af H:Nat}:=@lq [ac,al,b,af,H]
def pW {ac al b af H aT:Nat}:=@lq [ac,al,b,af,H,aT]
def tC {ac al b af H aT bu:Nat}:=@lq [ac,al,b,af,H,aT,bu]
def oP {ac:Nat}:=@wT [ac]
def pX {ac al:Nat}:=@wT [ac,al]
def wU {ac al b:Nat}:=@wT [ac,al,b]
def gg {b:Type _}{a d:b}{e:List b}{c:b->Prop}(f:a∈d::e)(g:c d)(h:a∈e->c a):c a:=(d2 f).elim (λa=>a▸g) h
def g0 {c a:Type _}{d:c->a}{e:List c}{f:a}{g:a->Prop}(h:f∈e.map d)(i:∀b∈e,g (d b)):g f:=by
 obtain⟨b,j,rfl⟩:=ck h;show i b j
def cL {c:Type _}{a:c}{d e:List c}{b:Prop}(f:a∈d++e)(g:a∈d->b)(h:a∈e->b):b:=(jz f).elim g h
def kI {a:Type _}{b c:a}{d:a->Prop}(e:b∈[c])(f:d c):d b:=bX e▸f
@[elab_as_elim] def aJ {α:Sort _}{a b:α}{P:α->Prop}(h:a=b)(k:P b):P a:=h▸k
@[elab_as_elim] def ch {α:Sort _}{a b:α}{P:α->Prop}(h:b=a)(k:P b):P a:=h▸k
inductive e6
 |iP (L:Nat)|O (am:Int)|S (ag r:e6)|cT (am:Int) (H:e6)|c8 (ag r:e6)|w (H:e6) (am:Int)
noncomputable def tD (b:s)(L:Nat):Int:=iw (λa=>0) (λae a c L=>wQ ae (λcD a=>c cD) L) b L
noncomputable def e6.den (b:s)(H:e6):Int:=e6.rec (λL=>tD b L) (λam=>am) (λa a ae bx=>ae+bx) (λam a ae=>am*ae) (λa a ae bx=>ae - bx) (λa am ae=>ae*am) H
noncomputable def pY (ak a:s):s:=iw (λa=>a) (λae ak b a=>iw (ae::ak) (λbx a c=>(ae+bx)::b a) a) ak a
noncomputable def g1 (ak b:s):Int:=iw (λa=>0) (λae a c b=>iw 0 (λbx b a=>ae*bx+c b) b) ak b
noncomputable def tE (L:Nat):s:=wQ [1] (λb a=>0::a) L
noncomputable def e6.fm (H:e6):s:=e6.rec (λL=>0::tE L) (λam=>[am]) (λa a ae bx=>pY ae bx) (λam a ae=>ae.map (am*·)) (λa a ae bx=>pY ae (bx.map (-1*·))) (λa am ae=>ae.map (am*·)) H
noncomputable def tF (ak:s):Bool:=iw z (λae b a=>decide (ae=0)&&a) ak
noncomputable def wV (ak:s):Bool:=iw z (λae ak a=>decide (0<=ae)&&tF ak) ak
def AS (c:s):∀b a,g1 (pY c b) a=g1 c a+g1 b a:=by
 induction c with
 |nil=>intro b a;show(AT _).symm|cons f c g=>
  intro b a;cases b with
  |nil=>show(rA _).symm|cons e b=>cases a with
   |nil=>rfl|cons d a=>
    show(?_:(f+e)*d+g1 (pY c b) a=(f*d+g1 c a)+(e*d+g1 b a));rw[g,Int.add_mul,AU,AU,Int.add_left_comm<|e*d]
def wW (b:Int)(c:s):∀a,g1 (c.map (b*·)) a=b*g1 c a:=by
 induction c with
 |nil=>intro a;show(Int.mul_zero b).symm|cons d c f=>intro a;cases a with
  |nil=>show(Int.mul_zero b).symm|cons e a=>
   show(?_:b*d*e+g1 (c.map (b*·)) a=b*(d*e+g1 c a));rw[f,Int.mul_add,Int.mul_assoc]
def Hl (b:Nat):∀a,g1 (tE b) a=tD a b:=by
 induction b with
 |zero=>intro a;cases a with
  |nil=>rfl|cons c a=>show(rA _).trans<|Int.one_mul c
 |succ b d=>intro a;cases a with
  |nil=>rfl|cons c a=>
   show(?_:0*c+g1 (tE b) a=tD a b);rw[AV,AT,d]
def e6.pT (a:s)(b:e6):b.den a=g1 b.fm (1::a):=by
 induction b with
 |iP i=>
  show(?_:tD a i=0*1+g1 (tE i) a);rw[Hl,AV,AT]
 |O c=>show((rA _).trans<|Int.mul_one c).symm
 |S d r f g=>
  show(?_:d.den a+r.den a=g1 (pY d.fm r.fm) (1::a));rw[AS,f,g]
 |cT c b h=>
  show(?_:c*b.den a=g1 (b.fm.map (c*·)) (1::a));rw[wW,h]
 |c8 d r f g=>
  show(?_:d.den a - r.den a=g1 (pY d.fm (r.fm.map (-1*·))) (1::a));rw[AS,wW,f,g,Hm,Int.sub_eq_add_neg]
 |w b c h=>
  show(?_:b.den a*c=g1 (b.fm.map (c*·)) (1::a));rw[wW,h,Int.mul_comm]
def Hn (a:s):tF a=z->∀b,g1 a b=0:=by
 induction a with
 |nil=>intro _ b;rfl|cons c a d=>intro e b;cases b with
  |nil=>rfl|cons g b=>
   have h':(decide (c=0)&&tF a)=z:=e;rw[i7]at h';show(?_:c*g+g1 a b=0);rw[d h'.2,f h'.1,AV,rA]
def e6.pos {c:s}{a:e6}(d:wV a.fm=z):0<=a.den c:=by
 rw[e6.pT];cases q:a.fm with
 |nil=>show tG 0|cons g b=>
  rw[q]at d;have h':(decide (0<=g)&&tF b)=z:=d;rw[i7]at h';show(?_:0<=g*1+g1 b c);rw[Hn b h'.2,rA,Int.mul_one];show f h'.1
structure mQ where
 k:Nat
 l1:e6
 l2:e6
noncomputable abbrev A:e6:=.iP 0
noncomputable abbrev aC:e6:=.iP 1
noncomputable abbrev d7:e6:=.iP 2
noncomputable abbrev e6.e (ac:e6):e6:=.S ac<| .O 1
noncomputable abbrev mQ.j (ac al:e6):mQ:=#[1,ac,al]
noncomputable abbrev mQ.aL (ac al:e6):mQ:=#[1,.S ac<| .O 1,al]
def pZ (b:s)(a:List mQ)(aM:Prop):Prop:=iw aM (λan d c=>an.l1.den b<=an.l2.den b->c) a
noncomputable def rB (a:List mQ):e6:=iw (.O 0) (λan c b=>.S (.cT an.k<| .S an.l2<| .cT (-1) an.l1) b) a
def pZ.of {b:s}{d:Prop}(c:List mQ):(0<=(rB c).den b->d)->pZ b c d:=by
 induction c generalizing d with
 |nil=>show λa=>a<|tG 0
 |cons a c e=>show λc d=>e λf=>c (Int.add_nonneg (Int.mul_nonneg (f2 a.k) (by
  show(?_:0<=a.l2.den b+ -1*a.l1.den b);rw[Hm];show Int.sub_nonneg_of_le d)) f)
def bj (a:s)(c:List mQ)(b:Nat)(d r:e6)(e:wV (e6.fm<| .S (.S (.cT (b+1:Nat)<| .S r<| .cT (-1) d)<| .O b)<| .cT (-1)<|rB c)=z):pZ a c (d.den a<=r.den a):=pZ.of c λf=>by
 have f:0<=((b+1:Nat):Int)*(r.den a+ -1*d.den a)+(b:Int)+ -1*(rB c).den a:=e6.pos e;show oQ.mp λc=>?_;have c:r.den a+ -1*d.den a<= -1:=by omega
 have:=Int.mul_le_mul_of_nonneg_left c<|f2<|b+1;omega
def kJ (b:s)(a:List mQ)(c:wV (e6.fm<| .S (.O<| -1)<| .cT (-1)<|rB a)=z):pZ b a False:=pZ.of a λd=>by
 have d:0<=(-1:Int)+ -1*(rB a).den b:=e6.pos c;omega
def dG {a b c:Nat}(d:a<=b)(e:oN b c=z):a<=c:=a6 d<|fR e
def p0 {b c d a:Nat}(e:b<=c)(f:oN (c+a) d=z):b+a<=d:=a6 (AW e a)<|fR f
def jC {b:Nat->Prop}{n:Nat}(c:b 0)(d:∀a,a<n->b (a+1)):∀a,a<n+1->b a:=λa=>Nat.casesOn (motive:=λa=>a<n+1->b a) a (λe=>c) λa b=>d a<|lr b
def wX {b:Nat->Prop}:∀a,a<0->b a:=λa b=>absurd b<|rC a
def AX {gC:Nat->Prop}(b:gC 0)(c:gC 1)(d:gC 2)(e:gC 3)(f:gC 4):∀a,a<5->gC a:=jC b<|jC c<|jC d<|jC e<|jC f wX
def tH {a:Nat->Prop}(c:a 0)(d:a 1)(e:a 2)(f:a 3)(g:a 4)(h:a 5)(i:a 6)(j:a 7):∀b,b<8->a b:=jC c<|jC d<|jC e<|AX (gC:=λb=>a<|b+3) f g h i j
section
set_option autoImplicit true
variable {aF:Prop}
@[elab_as_elim] def bw {F1:m}{v1:m}{M:m->Prop}(h:v1=F1)(k:M F1):M v1:=h▸k
@[elab_as_elim] def ci {F1:m}{p:Prop}{v1:m}{M:m->Prop}(h:v1=F1/\p)(k:p->M F1):M v1:=by obtain⟨rfl,h0⟩:=h;show k h0
@[elab_as_elim] def j4 {F1:m}{F2:n}{v1:m}{v2:n}{M:m->n->Prop}(h:v1=F1/\v2=F2)(k:M F1 F2):M v1 v2:=by obtain⟨rfl,rfl⟩:=h;show k
@[elab_as_elim] def kK {F1:m}{p:Prop}{v1:m}{M:m->Prop}(h:p/\v1=F1)(k:p->M F1):M v1:=by obtain⟨h0,rfl⟩:=h;show k h0
@[elab_as_elim] def eP {F1:m}{p q:Prop}{v1:m}{M:m->Prop}(h:v1=F1/\p/\q)(k:p->q->M F1):M v1:=by obtain⟨rfl,h0,a⟩:=h;show k h0 a
@[elab_as_elim] def rD {F1:m}{F2:n}{p:Prop}{v1:m}{v2:n}{M:m->n->Prop}(h:v1=F1/\v2=F2/\p)(k:p->M F1 F2):M v1 v2:=by obtain⟨rfl,rfl,h0⟩:=h;show k h0
@[elab_as_elim] def tI {F1:m}{F2:n}{F3:o}{v1:m}{v2:n}{v3:o}{M:m->n->o->Prop}(h:v1=F1/\v2=F2/\v3=F3)(k:M F1 F2 F3):M v1 v2 v3:=by obtain⟨rfl,rfl,rfl⟩:=h;show k
@[elab_as_elim] def AY {F1:m}{p q:Prop}{v1:m}{M:m->Prop}(h:p/\v1=F1/\q)(k:p->q->M F1):M v1:=by obtain⟨h0,rfl,a⟩:=h;show k h0 a
@[elab_as_elim] def Ho {F1:m}{F2:n}{p:Prop}{v1:m}{v2:n}{M:m->n->Prop}(h:p/\v1=F1/\v2=F2)(k:p->M F1 F2):M v1 v2:=by obtain⟨h0,rfl,rfl⟩:=h;show k h0
@[elab_as_elim] def wY {F1:m}{p q r:Prop}{v1:m}{M:m->Prop}(h:v1=F1/\p/\q/\r)(k:p->q->r->M F1):M v1:=by obtain⟨rfl,h0,a,b⟩:=h;show k h0 a b
@[elab_as_elim] def AZ {F1:m}{p q r s:Prop}{v1:m}{M:m->Prop}(h:v1=F1/\p/\q/\r/\s)(k:p->q->r->s->M F1):M v1:=by obtain⟨rfl,h0,a,b,c⟩:=h;show k h0 a b c
@[elab_as_elim] def wZ {F1:m}{F2:n}{F3:o}{p q:Prop}{v1:m}{v2:n}{v3:o}{M:m->n->o->Prop}(h:p/\q/\v1=F1/\v2=F2/\v3=F3)(k:p->q->M F1 F2 F3):M v1 v2 v3:=by obtain⟨h0,a,rfl,rfl,rfl⟩:=h;show k h0 a
@[elab_as_elim] def Hp {F1:m}{F2:n}{F3:o}{p q r:Prop}{v1:m}{v2:n}{v3:o}{M:m->n->o->Prop}(h:p/\q/\v1=F1/\v2=F2/\v3=F3/\r)(k:p->q->r->M F1 F2 F3):M v1 v2 v3:=by obtain⟨h0,a,rfl,rfl,rfl,b⟩:=h;show k h0 a b
def A0 {a:Prop}(b:a)(c:a->aF):aF:=c b
def ao {b c:Prop}(a:b/\c)(d:b->c->aF):aF:=a.elim λb a=>A0 a<|d b
def cd {b c r:Prop}(a:b/\c/\r)(d:b->c->r->aF):aF:=a.elim λb a=>ao a<|d b
def iQ {b c r d:Prop}(a:b/\c/\r/\d)(e:b->c->r->d->aF):aF:=a.elim λb a=>cd a<|e b
def oR {b c r d e:Prop}(a:b/\c/\r/\d/\e)(f:b->c->r->d->e->aF):aF:=a.elim λb a=>iQ a<|f b
def w0 {b c r d e f:Prop}(a:b/\c/\r/\d/\e/\f)(g:b->c->r->d->e->f->aF):aF:=a.elim λb a=>oR a<|g b
def tJ {b c r d e f g:Prop}(a:b/\c/\r/\d/\e/\f/\g)(h:b->c->r->d->e->f->g->aF):aF:=a.elim λb a=>w0 a<|h b
def p {c:k->Prop}(b:∃a,c a)(d:∀a,c a->aF):aF:=b.elim λa b=>A0 b<|d a
def cm {d:k->m->Prop}(b:∃a c,d a c)(e:∀a c,d a c->aF):aF:=b.elim λa b=>p b<|e a
def kL {e:k->m->n->Prop}(b:∃a c d,e a c d)(f:∀a c d,e a c d->aF):aF:=b.elim λa b=>cm b<|f a
def j5 {f:k->m->n->o->Prop}(b:∃a c d e,f a c d e)(g:∀a c d e,f a c d e->aF):aF:=b.elim λa b=>kL b<|g a
def hy {g:k->m->n->o->r->Prop}(b:∃a c d e f,g a c d e f)(h:∀a c d e f,g a c d e f->aF):aF:=b.elim λa b=>j5 b<|h a
def aY {c d:k->Prop}(b:∃a,c a/\d a)(e:∀a,c a->d a->aF):aF:=b.elim λa b=>ao b<|e a
def gh {d e:k->m->Prop}(c:∃a b,d a b/\e a b)(f:∀a b,d a b->e a b->aF):aF:=c.elim λa c=>aY c<|f a
def eY {e f:k->m->n->Prop}(d:∃a b c,e a b c/\f a b c)(g:∀a b c,e a b c->f a b c->aF):aF:=d.elim λa d=>gh d<|g a
def A1 {e f:k->m->n->o->Prop}(g:∃a b c d,e a b c d/\f a b c d)(h:∀a b c d,e a b c d->f a b c d->aF):aF:=by obtain⟨a,b,c,d,h0,i⟩:=g;show h a b c d h0 i
def g2 {c d r:k->Prop}(b:∃a,c a/\d a/\r a)(e:∀a,c a->d a->r a->aF):aF:=b.elim λa b=>cd b<|e a
def f3 {d e r:k->m->Prop}(c:∃a b,d a b/\e a b/\r a b)(f:∀a b,d a b->e a b->r a b->aF):aF:=c.elim λa c=>g2 c<|f a
def l4 {e f r:k->m->n->Prop}(d:∃a b c,e a b c/\f a b c/\r a b c)(g:∀a b c,e a b c->f a b c->r a b c->aF):aF:=d.elim λa d=>f3 d<|g a
def oS {e f r:k->m->n->o->Prop}(g:∃a b c d,e a b c d/\f a b c d/\r a b c d)(h:∀a b c d,e a b c d->f a b c d->r a b c d->aF):aF:=by obtain⟨a,b,c,d,h0,i,j⟩:=g;show h a b c d h0 i j
def gi {c d r e:k->Prop}(b:∃a,c a/\d a/\r a/\e a)(f:∀a,c a->d a->r a->e a->aF):aF:=b.elim λa b=>iQ b<|f a
def l5 {d e r f:k->m->Prop}(c:∃a b,d a b/\e a b/\r a b/\f a b)(g:∀a b,d a b->e a b->r a b->f a b->aF):aF:=c.elim λa c=>gi c<|g a
def A2 {e f r g:k->m->n->Prop}(d:∃a b c,e a b c/\f a b c/\r a b c/\g a b c)(h:∀a b c,e a b c->f a b c->r a b c->g a b c->aF):aF:=d.elim λa d=>l5 d<|h a
def w1 {e f r g:m->n->o->w->Prop}(h:∃a b c d,e a b c d/\f a b c d/\r a b c d/\g a b c d)(i:∀a b c d,e a b c d->f a b c d->r a b c d->g a b c d->aF):aF:=by obtain⟨a,b,c,d,h0,j,k,l⟩:=h;show i a b c d h0 j k l
def Hq {c d r e f:k->Prop}(b:∃a,c a/\d a/\r a/\e a/\f a)(g:∀a,c a->d a->r a->e a->f a->aF):aF:=b.elim λa b=>oR b<|g a
def Hr {c d r e f g:k->Prop}(b:∃a,c a/\d a/\r a/\e a/\f a/\g a)(h:∀a,c a->d a->r a->e a->f a->g a->aF):aF:=b.elim λa b=>w0 b<|h a
def tK {d e r f g h:k->m->Prop}(c:∃a b,d a b/\e a b/\r a b/\f a b/\g a b/\h a b)(i:∀a b,d a b->e a b->r a b->f a b->g a b->h a b->aF):aF:=c.elim λa c=>Hr c<|i a
def Ht {c d r e f g h:k->Prop}(b:∃a,c a/\d a/\r a/\e a/\f a/\g a/\h a)(i:∀a,c a->d a->r a->e a->f a->g a->h a->aF):aF:=b.elim λa b=>tJ b<|i a
def A3 {d e r f g h i:k->m->Prop}(c:∃a b,d a b/\e a b/\r a b/\f a b/\g a b/\h a b/\i a b)(j:∀a b,d a b->e a b->r a b->f a b->g a b->h a b->i a b->aF):aF:=c.elim λa c=>Ht c<|j a
def dn {a:m->Prop}(k)(h0:a k):∃k,a k:=#[k,h0]
def dN {a:n->o->Prop}(k m)(h0:a k m):∃k m,a k m:=#[k,m,h0]
def av {a b:m->Prop}(k)(h0:a k)(c:b k):∃k,a k/\b k:=#[k,h0,c]
def ix {a b:n->o->Prop}(k m)(h0:a k m)(c:b k m):∃k m,a k m/\b k m:=#[k,m,h0,c]
def j6 {a b:o->r->w->Prop}(k m n)(h0:a k m n)(c:b k m n):∃k m n,a k m n/\b k m n:=#[k,m,n,h0,c]
def Hu {a b:r->w->x->B->Prop}(k m n o)(h0:a k m n o)(c:b k m n o):∃k m n o,a k m n o/\b k m n o:=#[k,m,n,o,h0,c]
def cH {a b r:Prop}(h0:a)(c:b)(d:r):a/\b/\r:=#[h0,c,d]
def fo {a b r:m->Prop}(k)(h0:a k)(c:b k)(d:r k):∃k,a k/\b k/\r k:=#[k,h0,c,d]
def f4 {a b r:n->o->Prop}(k m)(h0:a k m)(c:b k m)(d:r k m):∃k m,a k m/\b k m/\r k m:=#[k,m,h0,c,d]
def kM {a b r:o->w->x->Prop}(k m n)(h0:a k m n)(c:b k m n)(d:r k m n):∃k m n,a k m n/\b k m n/\r k m n:=#[k,m,n,h0,c,d]
def A4 {a b r:x->B->M->Sf->Sg->Prop}(k m n o w)(h0:a k m n o w)(c:b k m n o w)(d:r k m n o w):∃k m n o w,a k m n o w/\b k m n o w/\r k m n o w:=#[k,m,n,o,w,h0,c,d]
def l6 {a b r c:Prop}(h0:a)(d:b)(e:r)(f:c):a/\b/\r/\c:=#[h0,d,e,f]
def l7 {a b r c:m->Prop}(k)(h0:a k)(d:b k)(e:r k)(f:c k):∃k,a k/\b k/\r k/\c k:=#[k,h0,d,e,f]
def kN {a b r c:n->o->Prop}(k m)(h0:a k m)(d:b k m)(e:r k m)(f:c k m):∃k m,a k m/\b k m/\r k m/\c k m:=#[k,m,h0,d,e,f]
def A5 {a b r c:o->w->x->Prop}(k m n)(h0:a k m n)(d:b k m n)(e:r k m n)(f:c k m n):∃k m n,a k m n/\b k m n/\r k m n/\c k m n:=#[k,m,n,h0,d,e,f]
def w2 {a b r c:w->x->B->M->Prop}(k m n o)(h0:a k m n o)(d:b k m n o)(e:r k m n o)(f:c k m n o):∃k m n o,a k m n o/\b k m n o/\r k m n o/\c k m n o:=#[k,m,n,o,h0,d,e,f]
def w3 {a b r c d:m->Prop}(k)(h0:a k)(e:b k)(f:r k)(g:c k)(h:d k):∃k,a k/\b k/\r k/\c k/\d k:=#[k,h0,e,f,g,h]
def tL {a b r c d:n->o->Prop}(k m)(h0:a k m)(e:b k m)(f:r k m)(g:c k m)(h:d k m):∃k m,a k m/\b k m/\r k m/\c k m/\d k m:=#[k,m,h0,e,f,g,h]
def A6 {a b r c d:o->w->x->Prop}(k m n)(h0:a k m n)(e:b k m n)(f:r k m n)(g:c k m n)(h:d k m n):∃k m n,a k m n/\b k m n/\r k m n/\c k m n/\d k m n:=#[k,m,n,h0,e,f,g,h]
def tM {a b r c d e:n->o->Prop}(k m)(h0:a k m)(f:b k m)(g:r k m)(h:c k m)(i:d k m)(j:e k m):∃k m,a k m/\b k m/\r k m/\c k m/\d k m/\e k m:=#[k,m,h0,f,g,h,i,j]
def A7 {a b r c d e f:Prop}(h0:a)(g:b)(h:r)(i:c)(j:d)(k:e)(l:f):a/\b/\r/\c/\d/\e/\f:=#[h0,g,h,i,j,k,l]
def eQ {a b r c d e f:o->w->Prop}(k m)(h0:a k m)(g:b k m)(h:r k m)(i:c k m)(j:d k m)(l:e k m)(n:f k m):∃k m,a k m/\b k m/\r k m/\c k m/\d k m/\e k m/\f k m:=#[k,m,h0,g,h,i,j,l,n]
def Hv {a b r c d e f:w->x->B->Prop}(k m n)(h0:a k m n)(g:b k m n)(h:r k m n)(i:c k m n)(j:d k m n)(l:e k m n)(o:f k m n):∃k m n,a k m n/\b k m n/\r k m n/\c k m n/\d k m n/\e k m n/\f k m n:=#[k,m,n,h0,g,h,i,j,l,o]
def Hw {a b r c d e f:w->x->B->M->Prop}(k m n o)(h0:a k m n o)(g:b k m n o)(h:r k m n o)(i:c k m n o)(j:d k m n o)(l:e k m n o)(p:f k m n o):∃k m n o,a k m n o/\b k m n o/\r k m n o/\c k m n o/\d k m n o/\e k m n o/\f k m n o:=#[k,m,n,o,h0,g,h,i,j,l,p]
end
local macro_rules |`(tactic| mspec $t:term)=>`(tactic| refine aJ $t ?_)
structure aW where
 prog:i5
 w:hu
 B:aX
noncomputable abbrev aW.M (U:aW):p1:=b2 U.prog U.w
def Q (h':aX)(an:aX):Prop:=∀ac o,an.get? ac=J o->h'.get? ac=J o
def Q.bf (a:aX):Q a a:=λa a b=>b
def Q.trans {a h' b:aX}(c:Q h' a)(d:Q b h'):Q b a:=λa o b=>d a o<|c a o b
def ls (a:Q m h0)(b:m.get? k=ah):h0.get? k=ah:=jA (a k) b
def Q.push (a:aX)(o:eg):Q (a.push o) a:=λa a b=>gj _ b
noncomputable abbrev l (an:aX)(X:aZ):aX:=cq an X
def l.keep {a h':aX}(X:aZ)(d:Q h' a):Q (l h' X) (l a X):=λa o b=>by
 by_cases c:a∈X
 .show b6 (cU X c) b
 .show cb X (d a o<|ff X b) c
def l.of:Q k (l k X):=λa a b=>ff X b
def l.mR {b h':aX}(d:∀a o,a∉X->b.get? a=J o->h'.get? a=J o):Q (l h' X) (l b X):=λa o c=>by
 by_cases b:a∈X
 .show b6 (cU X b) c
 .show cb X (d a o b<|ff X c) b
def l.sub (d:∀a∈X,a∈k):Q (l m X) (l m k):=λa o b=>by
 by_cases c:a∈X
 .show b6 (cU k<|d a c) b
 .show cb X (ff k b) c
set_option genCtorIdx true
inductive i where
 |none|bool (al:Bool)|int (L:Int)|str (aa:v)|list (ds:List i)|bR (ds:List i)|dict (bF:List (Int×i))|bN (bF:List (v×i))|iy (ac al b:Int)|val (aq:ba)|aG (o:eg)|ns (bF:List (v×i))|slots (b:T) (ds:List i)|frame (o:eg)|tab (dk:List (dy×v))
noncomputable abbrev w4:=v×i
noncomputable abbrev bg:=List w4
noncomputable abbrev dp:=List i
set_option genCtorIdx false
mutual
inductive bb (U:aW)(aF:aX):ba->i->Prop
 |none:bb U aF .none .none|bool (al):bb U aF (.bool al) (.bool al)|int (L a2):bb U aF (.int L a2) (.int L)|str (aa a2):bb U aF (.str aa a2) (.str aa)|list {ac a3 ds}:aF.PlainList ac a3.toArray->aO U aF a3 ds->bb U aF (.ref ac) (.list ds)|bR {ac a3 ds}:IsTup aF ac a3.toArray->aO U aF a3 ds->bb U aF (.ref ac) (.bR ds)|dict {ac a bF}:(ac==i8)=aj->aF.DictOf (mS U.prog U.w) ac a->a.map (·.1)=bF.map (·.1)->aO U aF (a.map (·.2)) (bF.map (·.2))->bb U aF (.ref ac) (.dict bF)|bN {ac a bF}:(ac==i8)=aj->aF.DictOf (strKind U.prog U.w) ac a->a.map (·.1)=bF.map (·.1)->aO U aF (a.map (·.2)) (bF.map (·.2))->bb U aF (.ref ac) (.bN bF)|iy {r ac al b a2 a9 aq}:IsRange aF r ac al b a2 a9 aq->bb U aF (.ref r) (.iy ac al b)|val (aq):bb U aF aq (.val aq)
inductive aO (U:aW)(aF:aX):cv->dp->Prop
 |nil:aO U aF [] []|cons {aq a3 af ds}:bb U aF aq af->aO U aF a3 ds->aO U aF (aq::a3) (af::ds)
end
def aO.l8 {aM:cv->dp->Prop}(nil:aM [] [])(cons:∀{a b k ds},bb m n a b->aO m n k ds->aM k ds->aM (a::k) (b::ds))(c:aO m n k ds):aM k ds:=
 aO.rec (motive_1:=λa a a=>True) (motive_2:=λk ds a=>aM k ds) trivial (λa=>trivial) (λa a=>trivial) (λa a=>trivial) (λa a a=>trivial) (λa a a=>trivial) (λa a a a a=>trivial) (λa a a a a=>trivial) (λa=>trivial) (λa=>trivial) nil (λb r a d=>cons b r d) c
def bb.keep {a d:aX}(e:Q d a)(g:bb k a m o):bb k d m o:=
 bb.rec (motive_1:=λm o a=>bb k d m o) (motive_2:=λf ds a=>aO k d f ds) .none .bool .int .str (λb a c=>.list (b.elim λn d=>#[n,e _ _ d]) c) (λb a c=>.bR (b.keeps e) c) (λf b d a c=>.dict f (b.keep e) d c) (λf b d a c=>.bN f (b.keep e) d c) (λd=>.iy<|e _ _ d) .val .nil (λa a b r=>.cons b r) g
def aO.keep {a:aW}{b c:aX}(d:Q c b)(e:aO a b k ds):aO a c k ds:=e.l8 .nil λa c b=>.cons (a.keep d) b
section
variable {U:aW}{aF:aX}{a3:cv}{ds:dp}
def aO.length (a:aO U aF a3 ds):a3.length=ds.length:=a.l8 (aM:=λa3 ds=>a3.length=ds.length) V λa a b=>congrArg Nat.succ b
def aO.get (c:aO U aF a3 ds):∀{L:Nat}{af:i},ds[L]?=J af->∃a,a3[L]?=J a/\bb U aF a af:=
 c.l8 (aM:=λa3 ds=>∀{L:Nat}{af:i},ds[L]?=J af->∃a,a3[L]?=J a/\bb U aF a af) (λb=>nomatch b) λ{a _ _ _} d _ e {L af} b=>by
  cases L with
  |zero=>show av a V<|fS b▸d
  |succ L=>show e b
def aO.append (a:aO U aF a3 ds){k m}(b:aO U aF k m):aO U aF (a3++k) (ds++m):=a.l8 (aM:=λa3 ds=>aO U aF (a3++k)<|ds++m) b λa d c=>.cons a c
def aO.take (a:aO U aF a3 ds):∀n,aO U aF (a3.take n) (ds.take n):=a.l8 (aM:=λa3 ds=>∀n,aO U aF (a3.take n) (ds.take n)) (λn=>by mspec Hx;mspec Hx;show .nil) λb a c n=>by
 cases n with
 |zero=>show .nil|succ n=>show .cons b<|c n
def aO.drop (a:aO U aF a3 ds):∀n,aO U aF (a3.drop n) (ds.drop n):=a.l8 (aM:=λa3 ds=>∀n,aO U aF (a3.drop n) (ds.drop n)) (λn=>by mspec w5;mspec w5;show .nil) λb r c n=>by
 cases n with
 |zero=>show .cons b r|succ n=>show c n
end
noncomputable def aO.iR (U:aW)(aF:aX)(a3:cv):dp->Prop
 |[]=>a3=[]|af::ds=>∃aq a,a3=aq::a/\bb U aF aq af/\aO U aF a ds
def aO.hA {a:cv}(b:aO k m a ds):aO.iR k m a ds:=b.l8 V λa r c=>#[_,_,V,a,r]
def aO.one (r:aO k m n [o]):∃a,n=[a]/\bb k m a o:=by
 show cm r.hA λa d b=>?_;show eP b λc r=>?_;obtain rfl:=r.hA;show av a V c
def aO.eV (r:aO k m n [o,w]):∃a b,n=[a,b]/\bb k m a o/\bb k m b w:=by
 show cm r.hA λa d c=>?_;show eP c λd r=>?_;show p r.one λb c=>?_;show ci c λe=>?_;show f4 a b V d e
def aO.split (a:aO m n k (ds++o)):∃b c,k=b++c/\aO m n b ds/\aO m n c o:=
 (f4 (k.take ds.length) (k.drop ds.length) ((p2 ..).symm) (by have:=a.take ds.length;rwa[List.take_left]at this) (by have:=a.drop ds.length;rwa[List.drop_left]at this))
noncomputable def Hy (U:aW)(aF:aX):Option i->Option ba->Prop
 |ah,bx=>bx=ah|some af,bx=>∃aq,bx=J aq/\bb U aF aq af
def aO.Hz {b:Type}[DecidableEq b](e:b)(c:List (b×ba)):∀(a:List (b×i)),c.map (·.1)=a.map (·.1)->aO k m (c.map (·.2)) (a.map (·.2))->Hy k m (a.lookup e) (tN c e):=by
 unfold tN
 induction c with
 |nil=>show λa d f=>by cases a with
  |nil=>rfl|cons _ _=>cases d
 |cons h c j=>show λa d r=>by cases a with
  |nil=>cases d
  |cons g a=>
   show ao (p3 d) λk l=>?_;show bC λb c=>?_;show cm r.hA λf f d=>?_;show cd d λf m r=>?_;show c ?_;clear c b;show ao (p3 f) λc d=>?_;rw[tO,List.find?];mspec show h.1=g.1 from k
   by_cases b:e=g.1
   .mspec b;rw[beq_self_eq_true];mspec decide_eq_true V;show av _ (congrArg _ c) m
   .mspec beq_eq_false_iff_ne.mpr b;mspec decide_eq_false λc=>b c.symm;show(j a l<|d▸r)
def aO.lookup {d:Type}[DecidableEq d]{a:List (d×ba)}{b:List (d×i)}(j:a.map (·.1)=b.map (·.1))(r:aO k m (a.map (·.2)) (b.map (·.2)))(c:d):(b.lookup c=ah->tN a c=ah)/\(∀e,b.lookup c=J e->∃g,tN a c=J g/\bb k m g e):=by
 have h:=r.Hz c a b j;show#[λf=>by rwa[f]at h,λe f=>by rwa[f]at h]
def bb.Is (U:aW)(aF:aX)(aq:ba)(af:i):Prop:=i.casesOn af (aq=.none) (λal=>aq=.bool al) (λL=>∃a2,aq=.int L a2) (λaa=>∃a2,aq=.str aa a2) (λds=>∃ac a3,aq=.ref ac/\aF.PlainList ac a3.toArray/\aO U aF a3 ds) (λds=>∃ac a3,aq=.ref ac/\IsTup aF ac a3.toArray/\aO U aF a3 ds) (λbF=>∃ac a,aq=.ref ac/\(ac==i8)=aj/\aF.DictOf (mS U.prog U.w) ac a/\a.map (·.1)=bF.map (·.1)/\aO U aF (a.map (·.2)) (bF.map (·.2))) (λbF=>∃ac a,aq=.ref ac/\(ac==i8)=aj/\aF.DictOf (strKind U.prog U.w) ac a/\a.map (·.1)=bF.map (·.1)/\aO U aF (a.map (·.2)) (bF.map (·.2))) (λac al b=>∃r a2 a9 cl,aq=.ref r/\IsRange aF r ac al b a2 a9 cl) (λa9=>aq=a9) (λa=>False) (λa=>False) (λa a=>False) (λa=>False)<|λa=>False
def bb.is (r:bb m n k o):bb.Is m n k o:=by
 cases r with
 |none=>rfl|bool e=>rfl|int e c=>show dn c V|str e c=>show dn c V|list a r=>show f4 _ _ V a r|bR a r=>show f4 _ _ V a r|dict d a b r=>show tL _ _ V d a b r|bN d a b r=>show tL _ _ V d a b r|iy b=>show Hu _ _ _ _ V b|val k=>rfl
inductive h8 (U:aW)(aF:aX):List kG->bg->Prop
 |nil:h8 U aF [] []|cons {a am a2 aq af dz bF}:bb U aF aq af->h8 U aF dz bF->h8 U aF (#[a,.str am a2,aq]::dz) ((am,af)::bF)
def h8.keep {a b:aX}(e:Q b a){c:List kG}{d:bg}(f:h8 k a c d):h8 k b c d:=by
 induction f with
 |nil=>show .nil|cons r _ g=>show .cons (r.keep e) g
noncomputable def mT:bg->v->i->bg
 |[],a,af=>[(a,af)]|(am,tP)::r,a,af=>if am=a then(am,af)::r else(am,tP)::mT r a af
def h8.length (a:h8 n o k m):k.length=m.length:=by
 induction a with
 |nil=>rfl|cons _ _ b=>simp[b]
def HA {a:kG}{b:List kG}{n:v}(c:a.key.isStr n=z):nP n (a::b)=J (J a.val):=by
 delta nP;mspec List.find?_cons_of_pos (p:=λa:kG=>a.key.isStr n) c;rfl
def HB {a:kG}{b:List kG}{n:v}(c:¬a.key.isStr n=z)(d:a.refKey=aj):nP n (a::b)=nP n b:=by
 delta nP;mspec List.find?_cons_of_neg (p:=λa:kG=>a.key.isStr n) c;mspec tQ ..;mspec d;rfl
def h8.get (d:h8 n o k m){b:v}:(∀af,m.lookup b=J af->∃c,nP b k=J (J c)/\bb n o c af)/\(m.lookup b=ah->nP b k=J ah):=by
 induction d with
 |nil=>show#[λaf a=>(by cases a),λd=>rfl]
 |@cons l e p c af k m r _ h=>
  by_cases g:e=b
  .subst g;show#[λi a=>av c (HA<|decide_eq_true V) ?_,λa=>by simp at a];simp at a;subst a;show r
  .have j:(b==e)=aj:=by simpa using λd:b=e=>g d.symm
   have d:nP b (#[l,.str e p,c]::k)=nP b k:=by
    show HB (λd=>g<|f d) V
   mspec d;show#[λi a=>h.1 i (by simpa[fz,j]using a),λa=>h.2<|by simpa[fz,j]using a]
def h8.gD (d:h8 o w n m){c:ba}{b:i}(r:bb o w c b):h8 o w (putL k x (.str k B) c n) (mT m k b):=by
 induction d with
 |nil=>show .cons r .nil|@cons h a j l e n m p d q=>
  by_cases g:a=k
  .subst g;mspec show mT ((a,e)::m) a b=(a,b)::m from if_pos V;mspec show putL a x (.str a B) c (#[h,.str a j,l]::n)=_ from if_pos<|decide_eq_true V
   show .cons r d
  .mspec show mT ((a,e)::m) k b=(a,e)::mT m k b from if_neg g;mspec show putL k x (.str k B) c (#[h,.str a j,l]::n)=_ from if_neg λb=>g<|f b
   show .cons p q
inductive bH (U:aW)(aF an:aX)(ac:T):i->Prop
 |list {a3 ds}:an.PlainList ac a3.toArray->aO U aF a3 ds->bH U aF an ac (.list ds)|bR {a3 ds}:IsTup an ac a3.toArray->aO U aF a3 ds->bH U aF an ac (.bR ds)|dict {a bF}:(ac==i8)=aj->an.DictOf (mS U.prog U.w) ac a->a.map (·.1)=bF.map (·.1)->aO U aF (a.map (·.2)) (bF.map (·.2))->bH U aF an ac (.dict bF)|bN {a bF}:(ac==i8)=aj->an.DictOf (strKind U.prog U.w) ac a->a.map (·.1)=bF.map (·.1)->aO U aF (a.map (·.2)) (bF.map (·.2))->bH U aF an ac (.bN bF)|aG {o}:an.get? ac=J o->bH U aF an ac (.aG o)|ns {dz n bF}:an.get? ac=J (j7 dz n)->h8 U aF dz bF->bH U aF an ac (.ns bF)|slots {b lu a3 ds}:an.get? ac=J {cls:=.ref b,dict:=J lu,data:=.plain,slots:=(a3.map J).toArray}->aF.get? lu=J f5->aO U aF a3 ds->bH U aF an ac (.slots b ds)|frame {o gE}:an.get? ac=J {o with slots:=gE}->bH U aF an ac (.frame o)|tab {fp dk}:an.get? ac=J (oT fp)->p4 fp.toList->(∀a∈dk,lv a.1 fp.toList=ah\/∃c,lv a.1 fp.toList=J c/\aF.CodeRec c a.2)->bH U aF an ac (.tab dk)
def bH.HC (r:bH n w k m (.aG o)):k.get? m=J o:=by cases r with|aG a=>show a
def bH.lw (r:bH w x B k m)(c:Q M x)(b:∀o,B.get? k=J o->h'.get? k=J o):bH w M h' k m:=by
 cases r with
 |list d r=>show p d λn a=>?_;show .list #[n,b _ a]<|r.keep c
 |bR d r=>show p d λo f=>?_;show ao f λa e=>?_;show .bR #[o,b _ a,e]<|r.keep c
 |dict h d a r=>show kL d λo i j f=>?_;show ao f λg e=>?_;show .dict h #[o,i,j,b _ g,e] a<|r.keep c
 |bN h d a r=>show kL d λo i j f=>?_;show ao f λg e=>?_;show .bN h #[o,i,j,b _ g,e] a<|r.keep c
 |aG a=>show .aG<|b _ a
 |ns a r=>show .ns (b _ a)<|r.keep c
 |slots a m r=>show .slots (b _ a) (c _ _ m)<|r.keep c
 |frame a=>show .frame<|b _ a
 |tab a l r=>show .tab (b _ a) l λg d=>(r g d).imp id λb=>aY b λd a e=>#[d,a,e.keeps c]
def bH.keep (r:bH m n o k w)(a:Q x n)(b:Q h' o):bH m x h' k w:=r.lw a<|b k
def bH.cw (r:bH w x k m n):∃o,k.get? m=J o:=by
 cases r with
 |list b r=>show#[_,b.choose_spec]|bR b r=>show#[_,b.choose_spec.1]|dict e b a r=>show kL b λo c c d=>?_;show ao d λa c=>?_;show#[o,a]|bN e b a r=>show kL b λo c c d=>?_;show ao d λa c=>?_;show#[o,a]|aG a=>show#[_,a]|ns a r=>show#[_,a]|slots a n r=>show#[_,a]|frame a=>show#[_,a]|tab a b r=>show#[_,a]
structure be where
 d:aW
 O:Nat
 I:b3
 X:aZ
 q:bg
 G:List (T×i)
def nQ (aq:ba)(an:aX)(ae:v)(env:b3):Prop:=
 (env.kindOf ae=J .local/\∃aH,an.Ns env.locals aH/\aH ae=J aq)\/
 (∃b,(env.kindOf ae=J .cell\/env.kindOf ae=J .free)/\env.cells.lookup ae=J b/\an.IsCell b (J aq))
def nQ.keep {a h':aX}{b:ba}(c:Q h' a)(d:nQ b a k env):nQ b h' k env:=
 d.imp (λa=>#[a.1,a.2.imp λb a=>#[a.1.keeps c,a.2]]) λa=>a.imp λb a=>cH a.1 a.2.1<|a.2.2.imp λo a=>#[c _ _ a.1,a.2]
structure cV (Y:be)(an:aX):Prop where
 base:Q (l an Y.X) Y.d.B
 cw:∀ac∈Y.X,∃o,an.get? ac=J o
 d8:∀ak∈Y.q,∃aq,nQ aq an ak.1 Y.I/\bb Y.d (l an Y.X) aq ak.2
 G:∀ak∈Y.G,ak.1∈Y.X/\bH Y.d (l an Y.X) an ak.1 ak.2
 kind:Y.I.scope.kind=.function
def cV.keep (b:cV k m)(a:Q h' m):cV k h' where
 base:=b.base.trans (l.keep _ a)
 cw:=λd c=>let#[o,e]:=b.cw d c;#[o,a _ _ e]
 d8:=λf c=>let#[g,e,r]:=b.d8 f c;(av g (e.keep a)<|r.keep<|l.keep _ a)
 G:=λf c=>let#[d,r]:=b.G f c;#[d,r.keep (l.keep _ a) a]
 kind:=b.kind
def cV.new (a:cV k m):m.objs.size∉k.X:=λb=>by
 show p (a.cw _ b) λo c=>?_;show mP _<|gk c
def l.l9 (a:cV Y k)(o:eg)(b:o.isFreed=aj):(l (k.push o) Y.X).get? k.objs.size=J o:=
 cb _ (dM k b) a.new
structure dA (aK:cW)(n:Nat):Prop where
 handled:aK.handled=ah
 depth:aK.depth+n<nR
 units:aK.units+8*n+200<nS
def dA.w6 (r:dA k n):k.depth<nR:=tx (oU _ _) r.depth
def dA.rE {n:Nat}(r:dA k (n+1))(b:m.handled=k.handled)(c:m.depth=k.depth+1){a:Nat}(d:m.units=k.units+a)(f:a<=3):dA m n:=#[b.trans r.handled,by have:=r.depth;mspec c;show b9 [.aL (.S y<| .e C)<| .O nR] 0 (.e<| .S (.e y) C) (.O nR) D this,by have:=r.units;show d▸bd [.aL (.S (.S y<| .cT 8<| .e C)<| .O 200)<| .O nS,.j t<| .O 3] 0 (.e<| .S (.S (.S y t)<| .cT 8 C)<| .O 200) (.O nS) D this f]
def dA.tR (r:dA k n)(a:Nat)(b:a<=200):k.units+a<nS:=tx (wR (oU ..) b) r.3
structure R (Y:be)(H:c6)(af:i):Prop where
 go:∀(aK:cW)(aa:aS)(bM:bY)(bv:bY),dA aK Y.O->cV Y aa.heap->
  (∀aq h' a,Q h' aa.heap->bb Y.d (l h' Y.X) aq af->bM aq {aa with heap:=h',toks:=a})->au Y.d.M aK (eval H Y.I) bM bv aa
structure a1 (Y:be)(H:c6)(al:Bool):Prop where
 go:∀(aK:cW)(aa:aS)(bM:Bool->aS->Prop)(bv:bY),dA aK Y.O->cV Y aa.heap->
  (∀h' a,Q h' aa.heap->bM al {aa with heap:=h',toks:=a})->au Y.d.M aK (nT H Y.I<|eval H Y.I) bM bv aa
section
variable {Y:be}
def bb.dh (r:bb n o k (.int m)):∃a,k=.int m a:=r.is
def bb.dO (r:bb n o k (.str m)):∃a,k=.str m a:=r.is
def bb.HD (r:bb n o k (.bool m)):k=.bool m:=r.is
def R.of_eq (a:R Y k af)(b:af=ez):R Y k ez:=b▸a
def R.gF {k pos}:R Y (.Constant .none k pos) .none:=.mk λc a d e f g b=>A8<|b .none a.heap a.toks (Q.bf _) .none
def R.p5 {k m pos}:R Y (.Constant (.bool k) m pos) (.bool k):=.mk λc a d e f g b=>wpAny_Constant_bool<|b _ a.heap a.toks (Q.bf _)<| .bool k
def R.bK {k m pos}:R Y (.Constant (.int k) m pos) (.int k):=.mk λc a d e f g b=>HE<|b _ a.heap _ (Q.bf _)<| .int k _
def R.cy {k m pos}:R Y (.Constant (.str k) m pos) (.str k):=.mk λc a d e f g b=>oV<|b _ a.heap _ (Q.bf _)<| .str k _
def R.name {pos}(e:(k,af)∈Y.q)(hd:(k==("__debug__":v))=aj)(h:(k==("__classdict__":v))=aj):R Y (.Name k pos) af:=.mk λj f k m n c i=>by
 show p (c.d8 _ e) λj k=>?_;show ao k λa r=>?_;have d:=i j f.heap f.toks (Q.bf _) r;show w7 ?_ hd;rcases a with⟨b,e,l,a⟩|⟨f,b|b,a,g⟩
 .show tS c.kind b l a d
 .show A9 c.kind b a g d
 .show Ba c.kind b a g d h
def R.oW {j k m:i}(n:R Y o j)(p:R Y r k)
 (q:∀(b:cW)(a:aS)(g:bY)(c:bY)(d e:ba),dA b Y.O->cV Y a.heap->bb Y.d (l a.heap Y.X) d j->bb Y.d (l a.heap Y.X) e k->
  (∀f h' h,Q h' a.heap->bb Y.d (l h' Y.X) f m->g f {a with heap:=h',toks:=h})->au Y.d.M b (binaryOp w d e) g c a):R Y (.BinOp o w r pos) m:=.mk λb a g c j k m=>by
 show wpAny_BinOp<|n.go b a _ c j k λd s t g o=>p.go b _ _ c j (k.keep g) λe s t a n=>?_;show q b _ _ c d e j ((k.keep g).keep a) (o.keep<|l.keep _ a) n λf h' h p s=>m f h' h ((g.trans a).trans p) s
def R.add {k r pos}(a:R Y k (.int m))(b:R Y r (.int n)):R Y (.BinOp k .Add r pos) (.int<|m+n):=
 R.oW a b λg c h i j k l m d e f=>by
  show p d.dh λb a=>?_;show bw a ?_;show p e.dh λb a=>?_;show bw a ?_;show add_int<|f _ c.heap _ (Q.bf _)<| .int _ _
def R.sub {k r pos}(a:R Y k (.int m))(b:R Y r (.int n)):R Y (.BinOp k .Sub r pos) (.int<|m - n):=
 R.oW a b λg c h i j k l m d e f=>by
  show p d.dh λb a=>?_;show bw a ?_;show p e.dh λb a=>?_;show bw a ?_;show sub_int<|f _ c.heap _ (Q.bf _)<| .int _ _
def R.p6 {k r pos}(a:R Y k (.int n))(b:R Y r (.int m))(c:m≠0):R Y (.BinOp k .Mod r pos) (.int<|i9 n m):=
 R.oW a b λh d i j k l m n e f g=>by
  show p e.dh λb a=>?_;show bw a ?_;show p f.dh λb a=>?_;show bw a ?_;show mod_int c<|g _ d.heap _ (Q.bf _)<| .int _ _
def R.fdiv {m r pos}(a:R Y m (.int n))(b:R Y r (.int k))(c:k≠0)(d:w8 n k=aj):R Y (.BinOp m .FloorDiv r pos) (.int<|lx n k):=
 R.oW a b λi e j k l m n o f g h=>by
  show p f.dh λb a=>?_;show bw a ?_;show p g.dh λb a=>?_;show bw a ?_;show floordiv_int c (h _ e.heap _ (Q.bf _)<| .int _ _)<| .inl d
def R.Bb {k r pos}{n:Nat}(a:R Y k (.int m))(b:R Y r (.int n))(c:n<=1000000)(d:m.natAbs<2^64):R Y (.BinOp k .Pow r pos) (.int<|m^n):=
 R.oW a b λi e j k l m o q f g h=>by
  show p f.dh λb a=>?_;show bw a ?_;show p g.dh λb a=>?_;show bw a ?_;show pow_int_small (f2 _) (dH.mpr c) d<|h _ e.heap _ (Q.bf _)<| .int _ _
def R.jD {k r pos}(a:R Y k (.str ac))(b:R Y r (.str al))(c:ac.length+al.length<=aD):R Y (.BinOp k .Add r pos) (.str<|ac++al):=
 R.oW a b λh d i j k l m n e f g=>by
  show p e.dO λb a=>?_;show bw a ?_;show p f.dO λb a=>?_;show bw a ?_;show PyProof.Rows.add_str (λb a=>g _ d.heap a (Q.bf _)<| .str _ _) c
structure ax (Y:be)(a:CmpOp)(ac al:i)(b:Bool):Prop where
 go:∀(aK:cW)(aa:aS)(bM:bY)(bv:bY)(ae bx:ba),dA aK Y.O->cV Y aa.heap->bb Y.d (l aa.heap Y.X) ae ac->bb Y.d (l aa.heap Y.X) bx al->
  (∀h' c,Q h' aa.heap->bM (.bool b) {aa with heap:=h',toks:=c})->au Y.d.M aK (compareOp a ae bx) bM bv aa
def R.bL {ac al:i}(g:R Y m ac)(h:R Y r al)(j:ax Y k ac al b)(n:rF k r=aj):R Y (.Compare m [k] [r] pos) (.bool b):=.mk λa k f c d e m=>by
 show wpAny_Compare1 (g.go a k _ c d e λo q s f p=>h.go a _ _ c d (e.keep f) λk s t g q=>?_) n;show j.go a _ _ c o k d ((e.keep f).keep g) (p.keep<|l.keep _ g) q λh' h n=>m _ h' h ((f.trans g).trans n)<| .bool b
def a1.bL (g:R Y m ac)(h:R Y r al)(i:ax Y k ac al b)(j:rF k r=aj):a1 Y (.Compare m [k] [r] pos) b:=.mk λa k f c d e m=>by
 show w9 (g.go a k _ c d e λn p q f o=>h.go a _ _ c d (e.keep f) λk q s g p=>?_) j;show i.go a _ _ c n k d ((e.keep f).keep g) (o.keep<|l.keep _ g) p λh' h j=>ma<|m h' h<|(f.trans g).trans j
def ax.eq:ax Y .Eq (.int ac) (.int al) (ac==al):=.mk λa b f g h i j k c d e=>by
 show p c.dh λf a=>?_;show bw a ?_;show p d.dh λc a=>?_;show bw a ?_;show eq_int<|e b.heap b.toks<|Q.bf _
def ax.kO:ax Y .NotEq (.int ac) (.int al) (ac !=al):=.mk λa b f g h i j k c d e=>by
 show p c.dh λf a=>?_;show bw a ?_;show p d.dh λc a=>?_;show bw a ?_;show ne_int<|e b.heap b.toks<|Q.bf _
def ax.lt:ax Y .Lt (.int k) (.int m) (decide (k<m)):=.mk λa b f g h i j k c d e=>by
 show p c.dh λf a=>?_;show bw a ?_;show p d.dh λc a=>?_;show bw a ?_;show lt_int<|e b.heap b.toks<|Q.bf _
def ax.HF:ax Y .Gt (.int k) (.int m) (decide (m<k)):=.mk λa b f g h i j k c d e=>by
 show p c.dh λf a=>?_;show bw a ?_;show p d.dh λc a=>?_;show bw a ?_;show gt_int<|e b.heap b.toks<|Q.bf _
def ax.xa:ax Y .GtE (.int k) (.int m) (decide (m<=k)):=.mk λa b f g h i j k c d e=>by
 show p c.dh λf a=>?_;show bw a ?_;show p d.dh λc a=>?_;show bw a ?_;show ge_int<|e b.heap b.toks<|Q.bf _
def ax.Bc:ax Y .Eq (.str ac) (.str al) (ac==al):=.mk λa b f g h i j k c d e=>by
 show p c.dO λf a=>?_;show bw a ?_;show p d.dO λc a=>?_;show bw a ?_;show eq_str<|e b.heap b.toks<|Q.bf _
def ax.Bd:ax Y .NotEq (.str ac) (.str al) (ac !=al):=.mk λa b f g h i j k c d e=>by
 show p c.dO λf a=>?_;show bw a ?_;show p d.dO λc a=>?_;show bw a ?_;show ne_str<|e b.heap b.toks<|Q.bf _
noncomputable def i.isNone (af:i):Bool:=i.casesOn af z (λa=>aj) (λa=>aj) (λa=>aj) (λa=>aj) (λa=>aj) (λa=>aj) (λa=>aj) (λa a a=>aj) (λaq=>aq==.none) (λa=>aj) (λa=>aj) (λa a=>aj) (λa=>aj)<|λa=>aj
def bb.isNone (r:bb n o k m):(k==nU)=m.isNone:=by cases r<;>rfl
def ax.oX:ax Y .Is k .none k.isNone:=.mk λe a f g h i j k b c d=>by
 obtain rfl:=c.is;show Be<|b.isNone▸d a.heap a.toks (Q.bf _)
def ax.p7:ax Y .IsNot k .none (!k.isNone):=.mk λe a f g h i j k b c d=>by
 obtain rfl:=c.is;show PySem.isNot_none<|b.isNone▸d a.heap a.toks (Q.bf _)
def R.kP {al:Bool}(l:a1 Y m al)(n:al=z->R Y o k)(p:al=aj->R Y w k):R Y (.IfExp m o w pos) k:=.mk λb k i c d e j=>by
 show wpAny_IfExp<|l.go b k _ c d e λm o a=>?_;cases al with
 |true=>show(n V).go b _ i c d (e.keep a) λf h' g h r=>j f h' g (a.trans h) r|false=>show(p V).go b _ i c d (e.keep a) λf h' g h r=>j f h' g (a.trans h) r
structure eH (Y:be)(ac:i)(al:Bool):Prop where
 go:∀(aK:cW)(aa:aS)(bM:Bool->aS->Prop)(bv:bY)(ae:ba),dA aK Y.O->cV Y aa.heap->bb Y.d (l aa.heap Y.X) ae ac->
  (∀a,bM al {aa with toks:=a})->au Y.d.M aK (truthy ae) bM bv aa
def eH.bool:eH Y (.bool k) k:=.mk λc a d e f g h r b=>by obtain rfl:=r.is;show ma<|b a.toks
def eH.none:eH Y .none aj:=.mk λc a d e f g h r b=>by obtain rfl:=r.is;show truthy_none<|b a.toks
def eH.str (a:(ae.length:Int)<9223372036854775808):eH Y (.str ae) ((ae.length:Int)!=0):=.mk λc d e f g h i r b=>by
 show p r.dO λd c=>?_;show bw c ?_;show SBL.truthy a<|b _
def a1.j8 (f:R Y m af)(g:eH Y af n)(h:∀a,nT m Y.I a=(do let k <-a;es m.pos;e7 [k] (truthy k))):a1 Y m n:=.mk λa i e b c d j=>
 HG (f.go a i _ b c d λk h' l e r=>g.go a _ _ b k c (d.keep e) r λf=>j h' f e) (h _)
def R.or (j:R Y m ac)(l:eH Y ac al)(n:al=aj->R Y o k)(p:al=z->ac=k):R Y (.BoolOp .Or [m,o] pos) k:=.mk λc k q d e f h=>by
 show wpAny_Or2<|j.go c k _ d e f λa s m b i=>l.go c _ _ d a e (f.keep b) i λg=>?_;cases al with
 |false=>show(n V).go c _ q d e (f.keep b) λa h' g j r=>h a h' g (b.trans j) r|true=>show h a s g b<|p V▸i
def a1.oY (j:a1 Y k al)(l:al=z->a1 Y m b):a1 Y (.BoolOp .And [k,m] pos) (al&&b):=.mk λd k m e f g c=>by
 show Bf<|HH<|j.go d k _ e f g λn o a=>?_;cases al with
 |true=>show HH ((l V).go d _ _ e f (g.keep a) λh' h i=>by
  cases b with
  |true=>show wpAny_allTrue_And_nil<|c h' h<|a.trans i
  |false=>show c h' h<|a.trans i)
 |false=>show c n o a
def a1.or (j:a1 Y k al)(l:al=aj->a1 Y m b):a1 Y (.BoolOp .Or [k,m] pos) (al||b):=.mk λd k m e f g c=>by
 show Bf<|Bg<|j.go d k _ e f g λn o a=>?_;cases al with
 |false=>show Bg ((l V).go d _ _ e f (g.keep a) λh' h i=>by
  cases b with
  |false=>show HI<|c h' h<|a.trans i
  |true=>show c h' h<|a.trans i)
 |true=>show c n o a
def a1.rG {al:Bool}(a:a1 Y k al):a1 Y (.UnaryOp .Not k pos) (!al):=.mk λb c h d e f g=>
 wpAny_isTrue_Not (a.go b c _ d e f λh i j=>g h i j)
structure W (Y:be)(pos:dy)(dz:h6)(ds:dp):Prop where
 go:∀(aK:cW)(aa:aS)(bM:cv->aS->Prop)(bv:bY),dA aK Y.O->cV Y aa.heap->
  (∀a3 h' a,Q h' aa.heap->aO Y.d (l h' Y.X) a3 ds->bM a3 {aa with heap:=h',toks:=a})->au Y.d.M aK (spliced<|cY pos<|bh dz Y.I) bM bv aa
def W.nil {pos}:W Y pos [] []:=.mk λc a d e f g b=>ly<|b [] a.heap a.toks (Q.bf _) .nil
def W.cons {pos}{af:i}{ds:dp}(f:R Y k af)(r:W Y pos m ds)(g:bh (k::m) Y.I=(aj,eval k Y.I)::bh m Y.I):W Y pos (k::m) (af::ds):=.mk λa h e b c d j=>
 kQ (f.go a h _ b c d λm n o e k=>r.go a _ _ b c (d.keep e) λo h m f n=>j _ h m (e.trans f)<| .cons (k.keep<|l.keep _ f) n) g
def R.list (e:W Y pos k ds)(f:ds.length<=aD):R Y (.List k pos) (.list ds):=.mk λg h b i j a k=>
 tT (e.go g h _ i j a λn o m b d=>#[by show d.length▸f,k _ _ m (b.trans<|Q.push _ _)<| .list #[_,l.l9 (a.keep b) _ c]<|d.keep<|l.keep _<|Q.push _ _])
def R.tuple (e:W Y pos k ds)(f:ds.length<=aD):R Y (.Tuple k m pos) (.bR ds):=.mk λg h b i j a k=>
 wpAny_Tuple (e.go g h _ i j a λn o m b d=>#[by show d.length▸f,k _ _ m (b.trans<|Q.push _ _)<| .bR #[_,l.l9 (a.keep b) _ c,V,_,V]<|d.keep<|l.keep _<|Q.push _ _])
def i.HJ (af:i):Prop:=i.casesOn af False (λa=>False) (λa=>False) (λa=>False) (λa=>True) (λa=>True) (λa=>True) (λa=>True) (λa a a=>False) (λa=>False) (λa=>False) (λa=>False) (λa a=>False) (λa=>False)<|λa=>False
def as (Y:be)(r af:i):Prop:=(r=af/\af.HJ)\/(∃ac,r=.val (.ref ac)/\(ac,af)∈Y.G)\/∃ac o,r=.val (.ref ac)/\(ac,.aG o)∈Y.G/\∀aF an:aX,an.get? ac=J o->bH Y.d aF an ac af
def as.list:as Y (.list ds) (.list ds):=.inl #[V,trivial]
def as.dict {ds}:as Y (.dict ds) (.dict ds):=.inl #[V,trivial]
def as.G (a:(k,m)∈Y.G):as Y (.val<| .ref k) m:=.inr<| .inl<|av k V a
def as.aG (b:(k,.aG o)∈Y.G)(c:∀d a:aX,a.get? k=J o->bH Y.d d a k m):as Y (.val<| .ref k) m:=.inr<| .inr<|f4 k o V b c
def as.obj (a:as Y r w)(m:cV Y k)(g:bb Y.d (l k Y.X) x r):∃d,x=.ref d/\bH Y.d (l k Y.X) k d w:=by
 rcases a with⟨rfl,q⟩|⟨d,rfl,i⟩|⟨d,o,rfl,i,e⟩
 .have h:=g.is;clear g;cases r with
  |list _=>show f3 h λb b c k r=>?_;show p k λn a=>?_;show av _ c<| .list #[n,l.of _ _ a] r
  |bR _=>show cm h λb b f=>?_;show cd f λc a r=>?_;show av _ c<| .bR (a.keeps l.of) r
  |dict _=>show cm h λb b f=>?_;show oR f λc j a e r=>?_;show av _ c<| .dict j (a.keep l.of) e r
  |bN _=>show cm h λb b f=>?_;show oR f λc j a e r=>?_;show av _ c<| .bN j (a.keep l.of) e r
  |_=>show q.elim
 .obtain rfl:=g.is;show av d V<|(m.G _ i).2
 .obtain rfl:=g.is;show av d V<|e _ _ (m.G _ i).2.HC
def PlainList.fT {a:aX}(b:a.PlainList k m):a.IsList k m:=let#[n,a]:=b;#[_,a,V,n,V]
end
section
variable {Y:be}
def cV.fq (a:cV Y k):Q k Y.d.B:=a.base.trans l.of
def R.eW {pos}(c:Y.I.kindOf k=J .globalImplicit)(d:Y.d.B.Ns Y.I.globals oZ)(e:oZ k=J m)(hd:(k==("__debug__":v))=aj):R Y (.Name k pos) (.val m):=.mk λg a h i j b f=>
 xb b.kind c (loadGlobal_global (d.keeps b.fq) e<|f m a.heap a.toks (Q.bf _)<| .val m) hd
def R.HK {pos}(c:Y.I.kindOf k=J .globalImplicit)(d:Y.d.B.Ns Y.I.globals oZ)(e:oZ k=ah)(f:Y.d.B.Ns Y.I.builtins tU)(g:tU k=J m)(hd:(k==("__debug__":v))=aj):R Y (.Name k pos) (.val m):=.mk λi b j k l a h=>
 xb a.kind c (HL (d.keeps a.fq) e (f.keeps a.fq) g<|h m b.heap b.toks (Q.bf _)<| .val m) hd
def tV {b id:String}(c:m.TypeIs o b)
 (e:lz (.type b) "__getitem__"=pure (J<| .builtin id)) (f:au (b2 n w) x (getItem o k) M B m)
 (a:∃d,Bh Sf aj o k=operate d (getItem o k)):
 au (b2 n w) x (subscriptTail Sg Sf o k) M B m:=by
 show p a λd a=>?_;unfold subscriptTail;show ar ?_;mspec getitemInPython_of_ne c.not_modules;show ar<|tW c e ?_;have b:au (b2 n w) x (Bh Sf aj o k) (λr c=>au (b2 n w) x (xc Sg o r >>= λd=>pure r) M B c) B m:=by
  mspec a;show wpAny_operating<|dr f (λr c a=>ar<|wpAny_letTemporaryGo<|bc a) λd d c=>c
 first
  |show bc<|ar b
  |show ar<|bc<|ar b
  |show ar b
def tX (b:c6)(o a:ba):∃c,Bh b aj o a=operate c (getItem o a):=by
 cases b with
 |Slice b c d e=>cases d with
  |none=>show#[[a,o],V]|some=>show#[[o,a],V]
 |_=>show#[[o,a],V]
structure b7 (Y:be)(r L af:i):Prop where
 go:∀(aK:cW)(aa:aS)(bM:bY)(bv:bY)(ae bx:ba),dA aK Y.O->cV Y aa.heap->bb Y.d (l aa.heap Y.X) ae r->bb Y.d (l aa.heap Y.X) bx L->
  (∀aq h' b,Q h' aa.heap->bb Y.d (l h' Y.X) aq af->bM aq {aa with heap:=h',toks:=b})->∃a id,aa.TypeIs ae a/\lz (.type a) "__getitem__"=pure (J<| .builtin id)/\au Y.d.M aK (getItem ae bx) bM bv aa
def R.item {r L af:i}(f:R Y k r)(h:R Y jE L)(j:b7 Y r L af):R Y (.Subscript k jE pos) af:=.mk λa g k b c d m=>by
 show xd<|f.go a g _ b c d λn p q e o=>h.go a _ _ b c (d.keep e) λp q s f t=>?_;show cm (j.go a {g with heap:=q,toks:=s} k b n p c ((d.keep e).keep f) (o.keep<|l.keep _ f) t λa h' g h j=>m a h' g ((e.trans f).trans h) j) λc id b=>?_;show cd b λa c d=>?_;show tV a c d<|tX _ _ _
def bH.Is (U:aW)(aF an:aX)(ac:T)(af:i):Prop:=i.casesOn af False (λc=>False) (λc=>False) (λc=>False) (λds=>∃a3,an.PlainList ac a3.toArray/\aO U aF a3 ds) (λds=>∃a3,IsTup an ac a3.toArray/\aO U aF a3 ds) (λds=>∃a,(ac==i8)=aj/\an.DictOf (mS U.prog U.w) ac a/\a.map (·.1)=ds.map (·.1)/\aO U aF (a.map (·.2)) (ds.map (·.2))) (λds=>∃a,(ac==i8)=aj/\an.DictOf (strKind U.prog U.w) ac a/\a.map (·.1)=ds.map (·.1)/\aO U aF (a.map (·.2)) (ds.map (·.2))) (λc c c=>False) (λc=>False) (λo=>an.get? ac=J o) (λbF=>∃dz n,an.get? ac=J (j7 dz n)/\h8 U aF dz bF) (λb ds=>∃lu a3,an.get? ac=J {cls:=.ref b,dict:=J lu,data:=.plain,slots:=(a3.map J).toArray}/\aF.get? lu=J f5/\aO U aF a3 ds) (λo=>∃gE,an.get? ac=J {o with slots:=gE}) (λdk=>∃fp,an.get? ac=J (oT fp)/\p4 fp.toList/\∀a∈dk,lv a.1 fp.toList=ah\/∃c,lv a.1 fp.toList=J c/\aF.CodeRec c a.2)
def bH.is (r:bH m n o w k):bH.Is m n o w k:=by
 cases r with
 |list b r=>show av _ b r|bR b r=>show av _ b r|dict c b a r=>show l7 _ c b a r|bN c b a r=>show l7 _ c b a r|aG a=>show a|ns a r=>show ix _ _ a r|slots a k r=>show f4 _ _ a k r|frame a=>show dn _ a|tab a d r=>show fo _ a d r
section
variable {U:aW}{aF an:aX}{ac:T}
def bH.eA (r:bH U aF an ac (.list ds)):bH.Is U aF an ac (.list ds):=r.is
def bH.o0 (r:bH U aF an ac (.dict ds)):bH.Is U aF an ac (.dict ds):=r.is
def bH.mc (r:bH U aF an ac (.bN ds)):bH.Is U aF an ac (.bN ds):=r.is
end
def kR (a:Nat):((-1:Int)+((a+1:Nat):Int)).toNat=a:=by rw[Int.natCast_succ,Int.add_comm,Int.add_neg_cancel_right];rfl
def b7.list {cD:Nat}(c:as Y r (.list ds))(d:ds[cD]?=J k)(e:cD<2^63):b7 Y r (.int cD) k:=.mk λa b j k l m n f g h i=>by
 show p (c.obj f g) λj a=>?_;show ci a λc=>?_;show p c.eA λf a=>?_;show ao a λc f=>?_;show p h.dh λg a=>?_;show bw a ?_;show p (f.get d) λg a=>?_;show ao a λd f=>?_;show f4 ("list") _ ((PlainList.fT c).typeIs) xe.lookup (wpAny_getItem_list (PlainList.fT c) (f2 _) (el.mpr e) (by mspec Bi;show d)<|i g b.heap b.toks (Q.bf _) f)
def b7.em {ds:dp}(k:as Y r (.list ds))(b:ds.getLast?=J af):b7 Y r (.int<| -1) af:=.mk λs c t u v w y l m n o=>by
 show p (k.obj l m) λs a=>?_;show ci a λk=>?_;show p k.eA λd a=>?_;show ao a λe g=>?_;show p n.dh λk a=>?_;show bw a ?_;rw[HM]at b;show p (g.get b) λh a=>?_;show ao a λi q=>?_;show p (Nat.exists_eq_add_of_lt (gG.mp b).1) λa j=>?_;rw[<-g.length]at j i;have a:d.length=d.length - 1+1:=by mspec j;rfl
 show f4 ("list") _ ((PlainList.fT e).typeIs) xe.lookup (wpAny_getItem_list_neg (x:=h) (PlainList.fT e) (f D) (Int.neg_le_neg<|dH.mpr (by mspec o1;mspec a;show oO _)) (f D) (by mspec o1;mspec a;rw[kR];mspec Bi;show i)<|o h c.heap c.toks (Q.bf _) q)
def b7.dict (b:as Y r (.dict ds))(c:ds.lookup k=J m):b7 Y r (.int k) m:=.mk λa d i j l n o e f g h=>by
 show p (b.obj e f) λi a=>?_;show ci a λb=>?_;show p b.o0 λe a=>?_;show iQ a λi b e f=>?_;show p g.dh λi a=>?_;show bw a ?_;show p ((aO.lookup e f k).2 m c) λg a=>?_;show ao a λc e=>?_;show f4 ("dict") _ b.typeIs slot_dict_getitem.lookup<|Bj (tY _ _ _ _) b.mapOf c<|h g d.heap _ (Q.bf _) e
def b7.bN (b:as Y r (.bN ds))(c:ds.lookup k=J m):b7 Y r (.str k) m:=.mk λa d i j l n o e f g h=>by
 show p (b.obj e f) λi a=>?_;show ci a λb=>?_;show p b.mc λe a=>?_;show iQ a λi b e f=>?_;show p g.dO λi a=>?_;show bw a ?_;show p ((aO.lookup e f k).2 m c) λg a=>?_;show ao a λc e=>?_;show f4 ("dict") _ b.typeIs slot_dict_getitem.lookup<|Bj (o2 _ _ _ _) b.mapOf c<|h g d.heap _ (Q.bf _) e
inductive jF:i->Option Int->Prop
 |none:jF .none none|int (L):jF (.int L) (J L)
noncomputable def md (Y:be)(H:Option c6)(af:i):Prop:=match H with
 |none=>af=.none|some H=>R Y H af
noncomputable def fg (ds:List α)(a b c:Option Int):List α:=
 (Bk (nV a b c ds.length).1 (nV a b c ds.length).2.1 (nV a b c ds.length).2.2).filterMap (ds[·]?)
def md.run (a:md Y m n)(d:dA o Y.O)(e:cV Y k.heap)
 (b:∀c h' f,Q h' k.heap->bb Y.d (l h' Y.X) c n->r c {k with heap:=h',toks:=f}):au Y.d.M o (evalPart m Y.I) r w k:=by
 cases m with
 |none=>have h':n=.none:=a;subst h';rw[evalPart_none];show bc<|b .none k.heap k.toks (Q.bf _) .none
 |some m=>rw[evalPart_some];show a.go o k r w d e b
def aO.filterMap (r:aO k m n ds)(a:bQ):aO k m (a.filterMap (n[·]?)) (a.filterMap (ds[·]?)):=by
 induction a with
 |nil=>show .nil|cons c a b=>
  cases e:ds[c]? with
  |some a=>
   show p (r.get e) λc a=>?_;show ao a λc d=>?_;mspec HN c;mspec HN e;show .cons d b
  |none=>
   mspec HO e;mspec HO<|nW<|r.length▸Bl.mp e;show b
def jF.g3 (a:jF k m)(r:bb o w n k):IsPart n m:=by
 cases a with
 |none=>obtain rfl:=r.is;show .none|int b=>show p r.dh λa c=>?_;show bw c ?_;show .int b a
def R.jE {b:c6}{d e f:Option c6}{g pos:dy}{r xf xg xh:i}{mU nX a:Option Int}{ds:dp}(h:R Y b r)(j:as Y r (.list ds))(k:md Y d xf)(m:md Y e xg)(n:md Y f xh)
 (o:jF xf mU) (q:jF xg nX) (s:jF xh a) (h0:a≠J 0) (t:ds.length<=aD):R Y (.Subscript b (.Slice d e f g) pos) (.list<|fg ds mU nX a):=.mk λf g d u e b v=>by
 show xd<|h.go f g _ u e b λy w A d x=>Bm<|k.run e (b.keep d) λh g y f u=>m.run e ((b.keep d).keep f) λk A B g y=>n.run e (((b.keep d).keep f).keep g) λm A B C D=>?_;have e:Q (A.push {cls:=.type "slice",data:=.fields (aRR [h,k,m])}) w:=((f.trans g).trans C).trans<|Q.push _ _;have h:=(b.keep d).keep e;show p (j.obj h<|x.keep<|l.keep _ e) λb f=>?_;show ci f λg=>?_;show p g.eA λb f=>?_;show ao f λj g=>?_;show tV (PlainList.fT j).typeIs xe.lookup (HP (PlainList.fT j) (HQ _ _ _ _) (o.g3 u) (q.g3 y) (s.g3 D) h0 ?_<|by simpa[g.length]using t)<|tX _ _ _;show v _ _ B ((d.trans e).trans<|Q.push _ _) ?_;show bb.list (a3:=(Bk (nV mU nX a b.length).1 (nV mU nX a b.length).2.1 (nV mU nX a b.length).2.2).filterMap (b[·]?)) #[0,?_] ?_
 .simpa[p8]using(l.l9 (Y:=Y) h {cls:=.type "list",data:=.seq<|p8 b.toArray mU nX a} c)
 .mspec g.length;show(g.keep<|l.keep _<|Q.push _ _).filterMap _
def R.o3 {k r pos}(b:R Y k m)(a:R Y r o)(e:as Y m (.list ac))(f:as Y o (.list al))(j:ac.length+al.length<=aD):R Y (.BinOp k .Add r pos) (.list<|ac++al):=
 R.oW b a λi k o q s t u d g h m=>by
  show p (e.obj d g) λi a=>?_;show ci a λe=>?_;show p (f.obj d h) λg a=>?_;show ci a λi=>?_;show p e.eA λf a=>?_;show ao a λe g=>?_;show p e λn b=>?_;show p i.eA λh a=>?_;show ao a λe i=>?_;show p e λa o=>?_;show PySem.P.add_list (n:=n) (n2:=a) b o (m _ _ k.toks (Q.push _ _)<| .list (a3:=f++h) #[0,?_]<|(g.append i).keep<|l.keep _<|Q.push _ _) (by simpa[g.length,i.length]using j);simpa using(l.l9 (Y:=Y) d {cls:=.type "list",data:=.seq<|f.toArray++h.toArray} c)
mutual
inductive i.ja:i->kS->Prop
 |none:i.ja .none .none|bool (al):i.ja (.bool al) (.bool al)|int (L):i.ja (.int L) (.int L)|str (aa):i.ja (.str aa) (.str aa)|list {ds fp}:i.mV ds fp->i.ja (.list ds) (.list fp)|bR {ds fp}:i.mV ds fp->i.ja (.bR ds) (.tuple fp)
inductive i.mV:dp->List kS->Prop
 |nil:i.mV [] []|cons {af ak ds fp}:i.ja af ak->i.mV ds fp->i.mV (af::ds) (ak::fp)
end
section
variable {U:aW}{aF:aX}
abbrev tZ (U:aW)(aF:aX)(af:i)(ak:kS):Prop:=∀aq,bb U aF aq af->∃a,Reads aF aq ak a
abbrev p9 (U:aW)(aF:aX)(ds:dp)(fp:List kS):Prop:=∀a3,aO U aF a3 ds->∃a,ReadsAll aF a3 fp a
def HR (a:p9 U aF ds k):tZ U aF (.list ds) (.list k):=λb r=>by
 show cm r.is λd b c=>?_;show eP c λd r=>?_;show p d λn c=>?_;show(a b r).elim λe d=>#[_,.list c V rfl d]
def HS (a:p9 U aF ds k):tZ U aF (.bR ds) (.tuple k):=λb r=>by
 show cm r.is λd b c=>?_;show eP c λd r=>?_;show p d λo c=>?_;show cd c λd e f=>?_;show p f λn hd=>?_;show(a b r).elim λf c=>#[_,.tuple d e hd c]
def Bn (a:tZ U aF k m)(b:p9 U aF ds n):p9 U aF (k::ds) (m::n):=λc r=>by
 show cm r.hA λc d e=>?_;show eP e λf r=>?_;show p (a c f) λg e=>?_;show(b d r).elim λc a=>#[_,.cons e a]
def bb.mW (r:bb U aF k m)(d:i.ja m n):∃b,Reads aF k n b:=
 i.ja.rec (motive_1:=λm n a=>tZ U aF m n) (motive_2:=λds b a=>p9 U aF ds b) (λk r=>by obtain rfl:=r.is;show dn _ .none) (λc k r=>by obtain rfl:=r.is;show dn _<| .bool c) (λe k r=>by show p r.is λb c=>?_;show bw c ?_;show dn _<| .int e b) (λf k r=>by show p r.is λb c=>?_;show bw c ?_;show dn _<| .str f b) (λa c=>HR c) (λa c=>HS c) (λb r=>by obtain rfl:=r.hA;show dn _ .nil) (λa a=>Bn) d k r
def aO.mW (r:aO U aF k ds)(b:i.mV ds m):∃c,ReadsAll aF k m c:=
 i.mV.rec (motive_1:=λa a a=>True) (motive_2:=λds m a=>p9 U aF ds m) trivial (λa=>trivial) (λa=>trivial) (λa=>trivial) (λa a=>trivial) (λa a=>trivial) (λk r=>by obtain rfl:=r.hA;show dn _ .nil) (λc a a d=>Bn (λa r=>r.mW c) d) b k r
end
def iS (Y:be)(r:i)(ak:kS):Prop:=i.ja r ak\/∃ds fp,as Y r (.list ds)/\i.mV ds fp/\ak=.list fp
def iS.mW {a:aX}(b:iS Y r k)(f:cV Y a)(d:bb Y.d (l a Y.X) m r):∃e,Reads a m k e:=by
 rcases b with c|⟨ds,a,b,c,rfl⟩
 .show(d.keep l.of).mW c
 .show p (b.obj f d) λg a=>?_;show ci a λb=>?_;show p b.eA λd a=>?_;show ao a λb d=>?_;show p b λn a=>?_;show p ((d.keep l.of).mW c) λe b=>?_;show dn _<| .list a V rfl b
def ax.Bo {a b:kS}(d:iS Y k a)(e:iS Y m b)(f:jG a=z)(g:jG b=z)(h:me a b=z):ax Y .Eq k m (same a b):=.mk λk c m n o q b a i j l=>by
 show p (d.mW a i) λm k=>?_;show p (e.mW a j) λi d=>?_;show eq_dataH_same k d f g (b.tR 64<|by simp+arith) h<|l c.heap c.toks<|Q.bf _
def ax.Bp {a b:kS}(c:iS Y k a)(d:iS Y m b)(e:jG a=z)(f:jG b=z)(g:me a b=z):ax Y .NotEq k m (!same a b):=.mk λl a m n o q h b i j k=>by
 show p (c.mW b i) λm l=>?_;show p (d.mW b j) λi c=>?_;show ne_dataH_same l c e f (h.tR 64<|lq [] [] 0 (.O 64) (.O 200) D) g<|k a.heap a.toks<|Q.bf _
def aO.mf (r:aO o w m (k.map .int)):rH m k:=by
 induction k generalizing m with
 |nil=>obtain rfl:=r.hA;show .nil|cons n k b=>show cm r.hA λc d a=>?_;show eP a λc d=>?_;show p c.is λe a=>?_;show bw a ?_;show .cons n e<|b d
def aO.HT {a:cv}{b:s}(r:rH a b):aO k m a (b.map .int):=by
 induction r with
 |nil=>show .nil|cons n c _ d=>show .cons (.int n c) d
def aO.strs (r:aO o w m (k.map .str)):StrsAre m k:=by
 induction k generalizing m with
 |nil=>obtain rfl:=r.hA;show .nil|cons n k b=>show cm r.hA λc d a=>?_;show eP a λc d=>?_;show p c.is λe a=>?_;show bw a ?_;show .cons n e<|b d
def ax.rI {a:s}(c:as Y r (.list<|a.map .int)):ax Y .In (.int k) r (a.any (·==k)):=.mk λa b h i j k l d e f g=>by
 show p e.dh λh a=>?_;show bw a ?_;show p (c.obj d f) λe a=>?_;show ci a λc=>?_;show p c.eA λd a=>?_;show ao a λc d=>?_;show in_list_ints (PlainList.fT c) d.mf<|g b.heap b.toks<|Q.bf _
def ax.Bq {a:s}(c:as Y r (.list<|a.map .int)):ax Y .NotIn (.int k) r (!a.any (·==k)):=.mk λa b h i j k l d e f g=>by
 show p e.dh λh a=>?_;show bw a ?_;show p (c.obj d f) λe a=>?_;show ci a λc=>?_;show p c.eA λd a=>?_;show ao a λc d=>?_;show notin_list_ints (PlainList.fT c) d.mf<|g b.heap b.toks<|Q.bf _
def aO.isSome {a:Type}[DecidableEq a]{d:List (a×ba)}{b:List (a×i)}(e:d.map (·.1)=b.map (·.1))(r:aO k m (d.map (·.2)) (b.map (·.2)))(c:a):
 (tN d c).isSome=(b.lookup c).isSome:=by
 show ao (aO.lookup e r c) λf g=>?_;cases q:b.lookup c with
 |none=>rw[f q];rfl|some h=>show p (g h q) λb a=>?_;show ao a λb c=>?_;rw[b];rfl
def ax.Br {a:Int}{b:List (Int×i)}(c:as Y r (.dict b)):ax Y .In (.int a) r (b.lookup a).isSome:=.mk λa b h j k l m d e f g=>by
 show p e.dh λh a=>?_;show bw a ?_;show p (c.obj d f) λe a=>?_;show ci a λc=>?_;show p c.o0 λd a=>?_;show iQ a λc d e f=>?_;show wpAny_in_of (tY _ _ _ _) c d.mapOf (by rw[aO.isSome e f];show g b.heap _<|Q.bf _)
def ax.Bs {a:v}{b:bg}(c:as Y r (.bN b)):ax Y .In (.str a) r (b.lookup a).isSome:=.mk λa b h i j k l d e f g=>by
 show p e.dO λh a=>?_;show bw a ?_;show p (c.obj d f) λe a=>?_;show ci a λc=>?_;show p c.mc λd a=>?_;show iQ a λc d e f=>?_;show wpAny_in_of (o2 _ _ _ _) c d.mapOf (by rw[aO.isSome e f];show g b.heap _<|Q.bf _)
structure bO (Y:be)(aT:ba)(ds:dp)(af:i):Prop where
 go:∀(aK:cW)(aa:aS)(bM:bY)(bv:bY)(a3:cv),dA aK Y.O->cV Y aa.heap->aO Y.d (l aa.heap Y.X) a3 ds->
  (∀aq h' a,Q h' aa.heap->bb Y.d (l h' Y.X) aq af->bM aq {aa with heap:=h',toks:=a})->au Y.d.M aK (dV aT a3) bM bv aa
def R.jH {id:String}(h:R Y (.Name n o) (.val<| .builtin id))(i:W Y pos (m::k) ds)(j:bO Y (.builtin id) ds w)
 (l:bh (m::k) Y.I=(aj,eval m Y.I)::bh k Y.I) (p:(cY pos<|bh k Y.I).any (·.1)=aj)
 (q:eval (.Call (.Name n o) (m::k) [] pos) Y.I=(do dP pos (<-eval (.Name n o) Y.I) [] (cY pos<|bh (m::k) Y.I) (jI pos<|jJ [] Y.I))):R Y (.Call (.Name n o) (m::k) [] pos) w:=.mk λa f s b c d t=>
 jb (h.go a f _ b c d λg k m e u=>by
  obtain rfl:=u.is;show mh (first:=[]) (i.go a _ _ b c (d.keep e) λk m n h o=>j.go a {f with heap:=m,toks:=n} s b k c ((d.keep e).keep h) o λg h' a f r=>t g h' a ((e.trans h).trans f) r) l p) q
def R.mX (h:R Y (.Name n o) (.val<| .type w))(i:W Y pos (m::k) ds)(j:bO Y (.type w) ds x)
 (l:bh (m::k) Y.I=(aj,eval m Y.I)::bh k Y.I) (p:(cY pos<|bh k Y.I).any (·.1)=aj)
 (q:eval (.Call (.Name n o) (m::k) [] pos) Y.I=(do dP pos (<-eval (.Name n o) Y.I) [] (cY pos<|bh (m::k) Y.I) (jI pos<|jJ [] Y.I))):R Y (.Call (.Name n o) (m::k) [] pos) x:=.mk λa f s b c d t=>
 jb (h.go a f _ b c d λg k m e u=>by
  obtain rfl:=u.is;show HU (i.go a _ _ b c (d.keep e) λk m n h o=>j.go a {f with heap:=m,toks:=n} s b k c ((d.keep e).keep h) o λg h' a f r=>t g h' a ((e.trans h).trans f) r) l p) q
def R.g4 (c:R Y (.Name n B) (.val<| .ref k))(t:Y.d.B.get? k=J o)(hd:o.data=.func Sf)(u:W Y pos (w::m) ds)(v:bO Y (.ref k) ds Sg)
 (y:bh (w::m) Y.I=(aj,eval w Y.I)::bh m Y.I) (H:(cY pos<|bh m Y.I).any (·.1)=aj)
 (C:eval (.Call (.Name n B) (w::m) [] pos) Y.I=(do dP pos (<-eval (.Name n B) Y.I) [] (cY pos<|bh (w::m) Y.I) (jI pos<|jJ [] Y.I))):R Y (.Call (.Name n B) (w::m) [] pos) Sg:=.mk λa d h b i e D=>
 jb (c.go a d _ b i e λp j l g F=>by
  obtain rfl:=F.is;have G:=t0 (M:=Y.d.M) (A:=a) (E:=b) (f:=.ref k) (x:=eval w Y.I) (rest:=cY pos<|bh m Y.I)
   (Q:=λn c=>(c.heap.get? k=J o/\o.data=.func Sf)/\au Y.d.M a (dV (.ref k) ([]++n.pos) n.kw) h b c) (s:={d with heap:=j,toks:=l})
  have q:=u.go a {d with heap:=j,toks:=l} (λj c=>(c.heap.get? k=J o/\o.data=.func Sf)/\au Y.d.M a (dV (.ref k) ([]++j) []) h b c) b i (e.keep g) λj m n l u=>
   #[#[((e.keep g).keep l).fq _ _ t,hd],v.go a {d with heap:=m,toks:=n} h b j i ((e.keep g).keep l) u λp h' a c r=>D p h' a ((g.trans l).trans c) r]
  rw[y]at q ⊢;show xi<|G q) C
end
section
variable {cZ:i5}{cl:hu}{aK:cW}{bv:bY}{aa:aS}
theorem Bt {it d:T}{b:Array ba}(h:d≠it):∀(n a:Nat)(aa:aS)(c:cv->aS->Prop),aa.heap.IsListIter it d a->aa.heap.IsList d b->a+n<=b.size->
 (∀h',h'.IsListIter it d (a+n)->h9 it aa.heap h'->c ((b.toList.drop a).take n) {aa with heap:=h'})->au (b2 cZ cl) aK (draw (.ref it) n) c bv aa
 |0,a,aa,c,f,_,_,g=>by
  show(?_:au _ _ (pure []) c bv aa);show bc (by simpa using g aa.heap f (h9.refl ..))
 |n+1,a,aa,c,f,i,k,g=>by
  have l:a<b.size:=by show bd [.j (.S y<| .e t) C] 0 (.e y) C V k
  show(?_:au _ _ (rJ (.ref it) >>= _) c bv aa);show ar (wpAny_pyNext_list_item f i (x:=b[a]) (by simp[l]) λd c m=>?_);show ar (g5<|Bt h n (a+1) _ _ c (i.extBut m.extBut h) (by show bd [.j (.S y<| .e C) t] 0 (.S (.e y) C) t V k) λo p q=>bc ?_);have hd:b.toList.drop a=b[a]::b.toList.drop (a+1):=by simp[rK,l]
  have:=g o (by rw[show a+(n+1)=a+1+n by simp+arith];show p)<|m.trans q;rw[hd,HV]at this;show this
def HW {c:T}{a:Array ba}{d:cv->aS->Prop}(g:aK.handled=ah)(b:aa.heap.IsList c a)
 (h:∀h',xj aa.heap.objs.size aa.heap h'->d a.toList {aa with heap:=h'}):au (b2 cZ cl) aK (xk (.ref c) a.size ah) d bv aa:=by
 have e:c≠aa.heap.objs.size:=by obtain⟨o,i,_⟩:=b;show g6<|gk i
 unfold xk;show ar ?_
 .unfold notIterableAtAll;show ar<|tW b.typeIs slot_list_iter.lookup ?_;show bc ?_;simp only[o4,if_false];show ar<|g5<|xl b ?_;show ar (g5<|Bt e a.size 0 _ _ #[_,dM _ V,V,V] (b.push _) (by simp+arith) λj k f=>?_);have l:List.take a.size (Bu 0 a.toList)=a.toList:=by
   rw[qa];show o5 (by simp)
  rw[l];rw[if_neg<|by simp];have d:j.IsList c a:=(b.push _).extBut f.extBut e;show ar (g5<|wpAny_pyNext_list_end g k d (by simp) λm n=>?_);simp only[Option.isSome_none,o4,if_false];show bc<|h m λa o b c=>n a o b<|f.extBut a o b<|gj _ c
def HX {c:T}{b:Array ba}{a:List (Bool×(ba->ia Unit))}{d:lp}(e:aK.handled=ah)(f:aa.heap.IsList c b)
 (g:a.length=b.size) (h:a.findIdx? (·.1)=ah)
 (i:∀h',xj aa.heap.objs.size aa.heap h'->au (b2 cZ cl) aK (xm (a.map (·.2)) b.toList) d bv {aa with heap:=h'}):
 au (b2 cZ cl) aK (unpack (.ref c) a) d bv aa:=by
 unfold unpack;rw[g,h];show ar<|g5<|HW e f i
def Bv {env:b3}{a:h6}{k}{pos:dy}{c:T}{b:Array ba}{d:lp}(e:aK.handled=ah)(f:aa.heap.IsList c b)
 (g:(xn a env).length=b.size) (h:(xn a env).findIdx? (·.1)=ah)
 (i:∀h',xj aa.heap.objs.size aa.heap h'->au (b2 cZ cl) aK (xm ((xn a env).map (·.2)) b.toList) d bv {aa with heap:=h'}):
 au (b2 cZ cl) aK (lA (.Tuple a k pos) env<| .ref c) d bv aa:=by
 rw[assign_Tuple];show ar<|jK<|HX e f g h i
end
noncomputable abbrev t1 (c:h6)(a:b3):ia Bool:=forIn c z λb r=>if r=z then do let c <-nT b a (eval b a);pure (Bw c)else pure (Bw r)
section
variable {cZ:i5}{cl:hu}{aK:cW}{bv:bY}{aa:aS}{o6:aX}{ca:T}{aH:v->Option ba}{env:b3}
def HY {target:c6}(p:(∃g h,target=.Name g h)\/(∃i j k,target=.Tuple i j k)){l m:T}{n:Array ba}:
 ∀(d:Nat)(a:aX)(b:ba),(a.IsListIter l m d/\a.IsList m n)->n[d - 1]?=J b->∀(c:aS)(e:lp)(o:bY),c.heap=a->e () c->au (b2 cZ cl) aK (o7 target (.ref l) b) e o c:=by
 intro d a b q _ c e o r f;subst r;rcases p with⟨g,h,rfl⟩|⟨i,j,k,rfl⟩
 .show bc f
 .cases b with
  |ref a=>show wpAny_letOwnedTupleGo_listiter q.1 f|_=>show bc f
end
abbrev cO (dB:aZ)(an h':aX):Prop:=∀(al:T)(o:eg),al∉dB->an.get? al=J o->h'.get? al=J o
def cO.trans (b:cO k m h')(c:cO k h' r):cO k m r:=λa o n d=>c a o n<|b a o n d
def cO.dQ {a h':aX}(b:cO dB a h')(c:∀d∈dB,d∈k):cO k a h':=λa o n d=>b a o (λe=>n<|c a e) d
def Q.fK (a:Q h' k)(b:aZ):cO b k h':=λb o d c=>a b o c
def l.fK {b Z:aZ}(c:cO b k h')(d:∀a∈b,a∈Z):Q (l h' Z) (l k Z):=l.mR λa o n b=>c a o (λe=>n<|d a e) b
inductive fA (fs:aW)(Z:aZ)(an:aX)(a:T)(ds:dp):Prop
 |mk (j9:Array ba) (n:Nat) (b:an.get? a=J {cls:=.type "list",data:=.seq j9 n}) (r:aO fs (l an Z) j9.toList ds):fA fs Z an a ds
section
variable {cZ:i5}{cl:hu}{aK:cW}
inductive mY (fs:aW)(dB Z:aZ)(a:aX->Prop)(b:T)(aa:aS)(ds:dp)(c:aS):Prop
 |mk (h':aX) (d:fh) (e:c={aa with heap:=h',toks:=d}) (aw:cO dB aa.heap h') (e:a h') (f:fA fs Z h' b ds):mY fs dB Z a b aa ds c
def HZ (fs:aW)(aK:cW)(dB Z:aZ)(a:aX->Prop)(d:b3)(b cz:T)(o6:aX)(target:c6)(f:h6)(g:ia Unit)(n:Nat)(aM:Nat->ba->Prop)(o:Nat->dp):Prop:=
 ∀(L:Nat)(aq:ba)(aa:aS)(c:bY),L<n->aM L aq->cO (cz::dB) o6 aa.heap->(∃e,aa.heap.get? cz=J e)->a aa.heap->fA fs Z aa.heap b (o L)->
  au fs.M aK (lA target d aq) (λh i=>au fs.M aK (t1 f d) (λj e=>if j=z then au fs.M aK g (λh d=>mY fs dB Z a b aa (o<|L+1) d) c e else mY fs dB Z a b aa (o<|L+1) e) c i) c aa
inductive xo (fs:aW)(dB Z:aZ)(a:aX->Prop)(cz b:T)(u:Nat->aX->Prop)(n:Nat)(o:Nat->dp)(aa:aS)(cD:Nat)(bS:aS):Prop
 |mk (h':aX) (c:fh) (L:Nat) (d:bS={aa with heap:=h',toks:=c}) (d:L<=n) (e:cD=n+1 - L) (f:u L h') (aw:cO (cz::dB) aa.heap h') (g:a h') (h:fA fs Z h' b (o L)):xo fs dB Z a cz b u n o aa cD bS
def Bx {fs:aW}{i:Nat->aX->Prop}{C:t2->aS->Prop}(f:aZ)(e:aX->Prop)
 (P:nY m Sf (.ref k) (.ref w) x=(do
  es SD
  match <-rJ (.ref k)with
  |none=>pure<| .done .next
  |some M=>
   o7 target (.ref k) M
   lA target x M
   let mut Sg:=z
   for Sh in Sj do
    if Sg then Sg <-nT Sh x (eval Sh x)
   if Sg then Sk
   again (.compLoop m Sf (.ref k) (.ref w) x)))
 (Q:(jL m Sf (.ref k) (.ref w) x).isFrame=aj) (R:aK.under (.compLoop m Sf (.ref k) (.ref w) x)=aK)
 (q:Walks fs.prog fs.w aK k Sl [k] n Si i) (S:∀a b,i a b->∃o,b.get? k=J o)
 (T:∀a b M,i a b->Si (a - 1) M->∀(s:aS)(E:lp)(U:bY),s.heap=b->E () s->au fs.M aK (o7 target (.ref k) M) E U s)
 (F:∀W∈f,W∉Sl) (X:k∈Z) (Y:w∈f) (Sm:∀b h',e b->cO [k] b h'->e h')
 (Sn:i 0 B.heap) (So:e B.heap) (Sp:fA fs Z B.heap w (o 0))
 (Sq:HZ fs aK f Z e x w k B.heap target Sj Sk n Si o)
 (Sr:∀b G,cO (k::f) B.heap b->e b->fA fs Z b w (o n)->C (.ok .next) {B with heap:=b,toks:=G}):
 hR fs.M aK (.compLoop m Sf (.ref k) (.ref w) x) C B:=by
 show codeAny_loop D (xo fs f Z e k w i n o B) ?_ (n+1) #[B.heap,B.toks,0,V,ey _,V,Sn,λd d d m=>m,So,Sp];rintro b s ⟨h',G,a,rfl,Ss,rfl,H,St,Su,Sv⟩;mspec R;show au _ aK (if(jL m Sf (.ref k) (.ref w) x).isFrame then(nY m Sf (.ref k) (.ref w) x).onRaise (qb x)else(nY m Sf (.ref k) (.ref w) x).onRaise (λb=>do t3 b x;theTreesLotGoes b)) _ _ _;mspec Q;show wpAny_noted ?_;mspec P;show ar<|jK<|ar ?_;have I:∀c,(∀j o,j∉[k]->h'.get? j=J o->c.get? j=J o)->cO (k::f) B.heap c/\e c/\fA fs Z c w (o a):=λc t=>#[St.trans<|cO.dQ (dB:=[k]) t<|h7 ap,Sm _ _ Su t,by
  obtain⟨Sw,u,m,r⟩:=Sv;show#[Sw,u,t _ _ (eO<|λu=>F _ Y<|u▸q.sub k (kF.mpr V)) m,r.keep<|l.fK t<|h7 X]]
 by_cases p:a<n
 .show q.item a _ _ _ p H λM c v K y A=>?_;show ar<|T (a+1) c M y K _ _ _ V<|ar ?_;have h:=I c A;have L:∀b:aS,mY fs f Z e w {B with heap:=c,toks:=v} (o<|a+1) b->∃s,s<n+1 - a/\xo fs f Z e k w i n o B s b:=by
   rintro b ⟨Sx,Sy,rfl,N,Sz,SA⟩;show#[n+1 - (a+1),By (qc p)<|fy a,Sx,Sy,a+1,V,p,V,q.frame _ _ _ y λj e o m=>N j o (λb=>F j b e) m,h.1.trans<|N.dQ λd b=>g b,Sz,SA]
  show dr (Sq a M _ _ p K h.1 (S _ _ y) h.2.1 h.2.2) (λd e b=>ar<|dr b (λSg SB O=>?_) λd d m=>m) λd d m=>m;cases Sg with
  |true=>show ar<|dr O (λd b e=>bc #[V,L b e]) λd d m=>m
  |false=>show ar<|bc<|bc #[V,L SB O]
 .obtain rfl:a=n:=c1 Ss<|g7.mp p;show q.done _ _ _ H λc v A=>bc ?_;have h:=I c A;show Sr c v h.1 h.2.1 h.2.2
end
def xp {b:Type}{ds:List b}{c:b->i}{d:Nat}{e:Prop}(f:∃a,(ds.map c)[d]?=J a/\bb k m n a)(g:∀a,ds[d]?=J a->a∈ds->bb k m n (c a)->e):e:=by
 obtain⟨b,hd,h⟩:=f;rw[e8,gl]at hd;obtain⟨a,hd,rfl⟩:=hd;show g a hd (ib hd) h
def t4 {a:ScopeKind}{b:Bool}(c:a=.function):(a==.class||a==.module&&b)=aj:=by subst c;rfl
structure t5 (Y:be)(b:c6)(ds:dp)(cl:T->Prop)(al:aX)(cz:T)(a:aZ)(aM:Nat->ba->Prop)(ce:Nat->aX->Prop)(an:aX):Prop where
 nZ:al.get? cz=ah
 W:∀qd,qd.handled=ah->Walks Y.d.prog Y.d.w qd cz a [cz] ds.length aM ce
 xq:ce 0 an
 rL:∀L an,ce L an->∃o,an.get? cz=J o
 lt:∀ac∈a,ac<an.objs.size/\(ac=cz\/∃o,al.get? ac=J o)
 Bz:∀ac∈a,ac=cz\/ac∉Y.X\/cl ac
 k:Q an al
 val:∀L aq,aM L aq->L<ds.length->∃af,ds[L]?=J af/\bb Y.d (l al Y.X) aq af
 xr:∀qd L an aq,ce L an->aM (L - 1) aq->∀(bS:aS)(a:lp)(c:bY),bS.heap=an->a () bS->au Y.d.M qd (o7 b (.ref cz) aq) a c bS
structure cA (Y:be)(a:c6)(r:i)(ds:dp):Prop where
 go:∀(aK:cW)(aa:aS)(bM:bY)(bv:bY)(ae:ba),dA aK Y.O->cV Y aa.heap->bb Y.d (l aa.heap Y.X) ae r->
  (∀cz b aM ce h',t5 Y a ds (λac=>r=.val (.ref ac)) aa.heap cz b aM ce h'->bM (.ref cz) {aa with heap:=h'})->au Y.d.M aK (t6 ae) bM bv aa
def H0 (a:(rM m k)=z):∃b,k=.int m b:=by
 cases k<;>simp[rM]at a
 subst a;show#[_,V]
def H1 (a:(H2 m k)=z):∃b,k=.str m b:=by
 cases k<;>simp[H2]at a
 subst a;show#[_,V]
def d3 {an:aX}:an.get? an.objs.size=ah:=by
 cases e:an.get? an.objs.size with
 |none=>rfl|some o=>show absurd (gk e)<|mP _
section
variable {Y:be}
def as.xt (b:as Y r n)(f:bb Y.d (l m Y.X) (.ref k) r):k∉Y.X\/r=.val (.ref k):=by
 have d:=f.is;rcases b with⟨rfl,h⟩|⟨g,rfl,_⟩|⟨g,o,rfl,_⟩
 .show .inl λg=>?_;have e:(l m Y.X).get? k=ah:=cU _ g;clear f g;cases r with
  |list _=>show f3 d λa a c f a=>?_;show p f λa b=>?_;show b6 e<|t7 c▸b
  |bR _=>show f3 d λa a c f a=>?_;show aY f λa b a=>?_;show b6 e<|t7 c▸b
  |dict _=>show l5 d λa a c a f a=>?_;show eY f λa a a b a=>?_;show b6 e<|t7 c▸b
  |bN _=>show l5 d λa a c a f a=>?_;show eY f λa a a b a=>?_;show b6 e<|t7 c▸b
  |_=>show h.elim
 .show .inr<|congrArg i.val d.symm
 .show .inr<|congrArg i.val d.symm
def rN {a:aX}(b:∃o,a.get? k=J o):∀c∈[a.objs.size,k],c<(a.push n).objs.size/\(c=a.objs.size\/∃o,a.get? c=J o):=λc d=>by
 rw[mi];show ay (a5 d) (λe=>?_) λd=>?_
 .obtain rfl:=e;show#[fy _,.inl V]
 .mspec bX d;show#[qc (by show p b λa b=>?_;show gk b),.inr b]
def t8 {X:aZ}{c:T->Prop}(d:k∉X\/c k):∀a∈[m,k],a=m\/a∉X\/c a:=λa b=>by
 show ay (a5 b) (λe=>?_) λb=>?_
 .obtain rfl:=e;show .inl V
 .show(bX b)▸ .inr d
def cA.list {f:c6}{r:i}(v:(∃g h,f=.Name g h)\/(∃j n q,f=.Tuple j n q))(k:as Y r (.list ds)):cA Y f r ds:=.mk λf d h j g n s l x=>by
 obtain⟨e,rfl,y⟩:=k.obj s l;show p y.eA λb g=>?_;show ao g λh m=>?_;have n:=PlainList.fT h;have y:e<d.heap.objs.size:=by show p h λB f=>?_;show gk f
 show xl n ?_;show x d.heap.objs.size [d.heap.objs.size,e] (λa q=>b.toArray[a]?=J q) (λa j=>j.IsListIter d.heap.objs.size e a/\j.IsList e b.toArray) _ #[d3,(λs x=>?_),#[(fo _ (dM _ c) V rfl),n.push _],
  (λa j n=>by show p n.1 λo g=>?_;show ao g λf B=>?_;show dn o f),rN (let#[_,f]:=h;#[_,f]),t8<|k.xt l,(Q.push _ _),(λa q t u=>?_),(λs=>HY v)]
 .have:=Walks.list (prog:=Y.d.prog) (w:=Y.d.w) (A:=s) x d.heap.objs.size e (g6 y) b.toArray;rw[(by simpa using m.length:b.toArray.size=ds.length)]at this;show this
 .obtain⟨d,C,D⟩:=m.get<|gm u;rw[show b.toArray[a]?=b[a]? by simp,C]at t;cases t;show av _ (gm u) D
def cA.dict {a:v}{b:dy}(n:as Y r (.dict bF)):cA Y (.Name a b) r (bF.map λe=>.int e.1):=.mk λa h b l q m f s j=>by
 obtain⟨k,rfl,g⟩:=n.obj f s;show p g.o0 λf a=>?_;show iQ a λb t u g=>?_;show p t.dictAt λw l=>?_;show wpAny_pyIter_dict b l ?_;have x:f.length=(bF.map λe=>i.int e.1).length:=by have:=congrArg fL u;simpa using this
 show j h.heap.objs.size [h.heap.objs.size,k] (λb m=>∃d q,f[b]?=J (d,q)/\(mS Y.d.prog Y.d.w).is d m=z) (λb g=>g.IsKeyIter h.heap.objs.size k b f.length w/\g.DictAt (mS Y.d.prog Y.d.w) k f w) _ #[d3,(λq y=>?_),
  #[(fo _ (dM _ c) V rfl),l.push _],(λb g f=>by show p f.1 λo a=>?_;show ao a λf h=>?_;show dn o f),rN (let#[o,_,_,f,_]:=t;#[o,f]),t8<|n.xt s,(Q.push _ _),(λb m k t=>?_),(λq b g m h h f n s h j=>bc j)]
 .show x▸H3 y _ _ (g6 l.lt_size) _ _
 .show cm k λd f a=>?_;show ao a λA k=>?_;show p (H0 k) λB a=>?_;show bw a ?_;have:(bF.map (·.1))[b]?=J d:=by show ch u ?_;simp[A]
  show av (.int d) ?_<| .int d B;simp only[e8,gl]at this ⊢;obtain⟨e,C,rfl⟩:=this;show av e C V
noncomputable def en (ac al:Int):s:=(jc (al - ac).toNat).map λ(L:Nat)=>ac+(L:Int)
def cA.rO {a b:Int}(k: -(2^62)<=a)(n:a<2^62)(f: -(2^62)<=b)(s:b<2^62):cA Y (.Name w x) (.iy a b 1) ((en a b).map .int):=.mk λv g w x y A B t h=>by
 show j5 t.is λe e e e j=>?_;show ci j λt=>?_
 .show H4 (l.of _ _ t) (small_one k n f s) ?_;have q:((en a b).map i.int).length=(b - a).toNat:=by simp[en]
  have u:BA a b 1=(((b - a).toNat:Nat):Int):=by rw[rangeSize_one];split<;>grind
  show h g.heap.objs.size [g.heap.objs.size] (λd k=>∃m,k=.int (a+d*1) m) (λd n=>t9 n g.heap.objs.size (a+(d:Nat)*1) (((b - a).toNat:Int) - (d:Nat)) 1) _ #[d3,(λs t=>?_),
   ?_,(λd n v=>#[_,v]),(λb f=>?_),(λb f=>.inl<|bX f),(Q.push _ _),(λd k v r=>?_),(λs d n k e e w x y e h=>bc h)]
  .show q▸Walks.range t _ _ _ _
  .mspec u;simpa[t9]using(dM g.heap (o:={cls:=.type "range_iterator",data:=.fields (aRR [d4 a,d4 (((b - a).toNat:Nat):Int),d4 1])}) c)
  .rw[mi];mspec bX f;show#[fy _,.inl V]
  .show p v λm j=>?_;show bw j ?_;rw[q]at r;show av (.int<|a+d*1) ?_<| .int _ m;simp[en,rP r]
inductive jM:c6->i->bg->Prop
 |name (ae a af):jM (.Name ae a) af [(ae,af)]|n0 {ae bx a b am c ac al}:ae≠bx->jM (.Tuple [.Name ae a,.Name bx b] am c) (.list [ac,al]) [(ae,ac),(bx,al)]
def jM.assign {s:c6}{af:i}{j:bg}(G:jM s af j){c:aS}{m:ba}{t:v->Option ba}
 (H:M.handled=ah) (a:(env.scope.kind==.class||(env.scope.kind==.module&&env.locals !=env.globals))=aj) (p:∀e∈j,env.kindOf e.1=J .local) (u:env.locals∈Z) (w:bb x (l c.heap Z) m af) (y:c.heap.Ns env.locals t)
 (A:∀h' I q,cO [env.locals] c.heap h'->h'.Ns env.locals q->(∀e∈j,∃B,q e.1=J B/\bb x (l h' Z) B e.2)->(∀f,f∉j.map (·.1)->q f=t f)->Sf () {c with heap:=h',toks:=I}):au x.M M (lA s env m) Sf Sg c:=by
 cases G with
 |name f K af=>
  show iz<|xu (p _ ap) y (λk j q=>?_) a;have h:cO [env.locals] c.heap k:=λb o n d=>q.extBut b o (by simpa using n) d;show A k _ _ h j (λe a=>?_) λC D=>by simp at D;simp[D]
  mspec bX a;show av m (by simp)<|w.keep<|l.fK h<|h7 u
 |@n0 f C K j m q s b L=>
  show cm w.is λf f j=>?_;show eP j λN r=>?_;obtain⟨_,_,rfl,O,R⟩:=r.eV;show Bv H (PlainList.fT (let#[n,d]:=N;#[n,l.of _ _ d])) V rfl λk j=>?_;have f:Q k c.heap:=λb o d=>j b o (g6<|gk d) d;show n1<|iz<|xu (p _ ap) (y.keeps f) (λj k m=>?_) a;show n1<|iz<|xu (p (C,b)<|g ap) k (λj q s=>?_) a;show xv ?_;have h:cO [env.locals] c.heap j:=λb o n d=>s.extBut b o (by simpa using n) (m.extBut b o (by simpa using n)<|f b o d);show A j _ _ h q (λe a=>?_) λb E=>by simp at E;simp[E]
  have F:=l.fK (Z:=Z) h<|h7 u;rcases a5 a with rfl|a
  .show av _ (by simp[L])<|O.keep F
  .mspec bX a;show av _ (by simp)<|R.keep F
noncomputable def mj (Y:be)(a:h6)(al:Bool):Prop:=match a with
 |[]=>al=z|[b]=>a1 Y b al|_=>False
def mj.run (a:mj Y m n)(c:dA o Y.O)(d:cV Y k.heap)
 (b:∀h' e,Q h' k.heap->r n {k with heap:=h',toks:=e}):au Y.d.M o (t1 m Y.I) r w k:=by
 match m,a with
 |[],a=>have h':n=z:=a;subst h';show BB<|b k.heap k.toks<|Q.bf _
 |[e],a=>show wpAny_tests_one<|a.go o k r w c d b
def hB (env:b3)(a:jN)(b:List (v×T))(ae:v):Prop:=
 env.cells.lookup ae=b.lookup ae/\(env.kindOf ae=J .cell\/env.kindOf ae=J .free)/\((mZ a env).names.lookup ae=J .cell\/(mZ a env).names.lookup ae=J .free)
def nQ.H5 (b:hB env n m k)(c:nQ o r k env):nQ o r k (jO n m w env):=by
 show cd b λd a e=>?_;show ay c (λf=>?_) λg=>?_
 .show ao f λc h=>?_;rcases a with a|a<;>rw[c]at a<;>cases a
 .show p g λb a=>?_;show cd a λh c f=>?_;show .inr (fo b e (by show d▸c:m.lookup k=J b) f)
noncomputable abbrev eR (Y:be)(a:jN)(b:List (v×T))(U:T)(Z:aZ)(Γ:bg):be:=#[Y.d,Y.O,jO a b U Y.I,Z,Γ,Y.G]
def cV.eR (d:cV Y o6)(e:Q m o6)(h:∀a∈dB,o6.get? a=ah/\∃o,m.get? a=J o)(j:n.kind=.function)
 (q:m.Ns w k) (s:∀c∈cP,n.names.lookup c.1=J .local) (t:∀b∈cP,∃f,k b.1=J f/\bb Y.d (l m<|dB++Y.X) f b.2) (u:∀c∈x,c∈Y.q/\hB Y.I n B c.1):cV (eR Y n B w (dB++Y.X)<|cP++x) m:=by
 have g:Q (l m<|dB++Y.X) (l o6 Y.X):=λa o c=>by
  have i:=l.of _ _ c;show cb _ (e a o i) λk=>?_;show cL k (λk=>?_) λk=>?_
  .show b6 ((h a k).1) i
  .show b6 (cU _ k) c
 show{
  base:=d.base.trans g
  cw:=λa k=>by
   show cL k (λk=>?_) λk=>?_
   .show(h a k).2
   .show p (d.cw a k) λo c=>?_;show dn o (e _ _ c)
  d8:=λb c=>by
   show cL c (λc=>?_) λc=>?_
   .show p (t b c) λf h=>?_;show ao h λi m=>?_;show av f (.inl #[ua<|s b c,k,q,i]) m
   .show ao (u b c) λf i=>?_;show p (d.d8 b f) λk h=>?_;show ao h λf m=>?_;show av k ((f.H5 i).keep e) (m.keep g)
  G:=λb c=>by
   show ao (d.G b c) λa r=>?_;show#[bB a,r.keep g e]
  kind:=j}
def aO.push {a:Array ba}(r:aO k m a.toList ds)(b:bb k m n o):aO k m (a.push n).toList (ds++[o]):=by
 mspec Array.toList_push;show r.append<| .cons b .nil
noncomputable def kT {a:Type}(ak:a->Bool)(n3:a->i)(ds:List a)(L:Nat):dp:=((ds.take L).filter ak).map n3
def BC (a:ds[m]?=J n):kT k o ds (m+1)=if k n then kT k o ds m++[o n]else kT k o ds m:=by
 unfold kT;mspec qe;mspec a;cases h:k n<;>simp[rQ,h]
def BD:(kT m n ds k).length<=ds.length:=by
 unfold kT;rw[a7];show a6 (qf _ _) (by mspec g8;show(ml k ds.length))
structure jd (Y:be)(b iter:c6)(ds:dp)(cl:T->Prop):Prop where
 go:∀(aK:cW)(aa:aS)(bM:bY)(bv:bY),dA aK Y.O->cV Y aa.heap->
  (∀dR c cz d aM ce a,Q dR aa.heap->t5 Y b ds cl dR cz d aM ce a->bM (.ref cz) {aa with heap:=a,toks:=c})->au Y.d.M aK (eval iter Y.I) (λae a=>au Y.d.M aK (t6 ae) bM bv a) bv aa
def jd.of (i:R Y iter r)(j:cA Y k r ds):jd Y k iter ds λa=>r=.val (.ref a):=.mk λa b f c d e k=>
 i.go a b _ c d e λl f g h m=>j.go a {b with heap:=f,toks:=g} _ c l d (e.keep h) m λa b i j n it=>k f g a b i j n h it
def H6
 (a:o {scope:=m,locals:=k.heap.objs.size,globals:=globals,cells:=iA (k.heap.objs.size+1) m.names r,qual:=w,func:=ah,code:=n.code,frame:=n.frame,builtins:=n.builtins}
  {k with heap:=n4 (k.heap.push {cls:=.type "dict",data:=.dict (aRR [])}) m.names}):
 au (b2 x B) M (newFunctionEnv m globals r [] w ah .none<|J n) o Sf k:=by
 simp only[newFunctionEnv,Option.isSome_some,if_true];show ar<|wpAny_alloc ?_;show ar (wpAny_layCells _ (λc b m=>by cases hkc:b==NameKind.cell<;>simp[hkc]) _ _ _ _ ?_);mspec show({k with heap:=k.heap.push {cls:=.type "dict",data:=.dict (aRR [])}}:aS).heap.objs.size=k.heap.objs.size+1 from mi ..
 show ar ?_;mspec H7;show bc<|bc a
def xw (b:∀a∈k,a.2≠ .cell)(n:Nat)(c:List (v×T)):iA n k c=c:=by
 induction k with
 |nil=>rfl|cons a r d=>
  have e:=b a ap;obtain⟨c,f⟩:=a;cases f with
  |cell=>show absurd V e|_=>show d λa c=>b a<|g c
structure BE (dR:aX)(cz:T)(b:aZ)(U a:T)(an:aX):Prop where
 kU:∀al,a<=al->dR.get? al=ah/\al∉b/\cz≠al
 kV:U=a+1
 k:Q an dR
 ns:an.Ns U λb=>ah
 xx:an.get? a=J {cls:=.type "list",data:=.seq (aRR [])}
def ub {p:Nat->List (v×T)}
 (u:iT m Y.I=pure B) (y:∀n,iA n m.names B=p n) (A:m.kind=.function) (C:∀q∈m.names,q.2=.local->m.names.lookup q.1=J .local)
 (D:jd Y target iter ds M) (E:∀s,iB iter Y.I s=pure s)
 (t:dA r Y.O) (F:cV Y w.heap)
 (body:∀e i a f j g d h b l,Q e w.heap->h.objs.size=b+1->t5 Y target ds M e a f j g d->BE e a f b l (n4 h m.names)->g 0 (n4 h m.names)->
  hR Y.d.M r (.compLoop (.ListComp Sf (#[target,iter,Sg,0]::Sh) m pos) 0 (.ref a) (.ref l)<|jO m (p<|b+1) b Y.I) (xy Y.d.M r x ic Si (.ref l) b) {w with heap:=n4 h m.names,toks:=i}):
 au Y.d.M r (xz (.ListComp Sf (#[target,iter,Sg,0]::Sh) m pos) m Y.I Sj (uc []) aj (eval iter Y.I) ic) Si x w:=by
 show wpAny_comprehension_free (use:=ic) V E u A C<|D.go r w _ x t F λe i a f j g d q it=>ud<|H6 ?_;rw[y];have h:=it.W r t.handled;have p:Q (n4 ((d.push {cls:=.type "list",dict:=ah,data:=.seq ([]:cv).toArray}).push {cls:=.type "dict",data:=.dict (aRR [])}) m.names) d:=λb o l=>BF _ _ _ _<|gj _<|gj _ l;have m:=h.frame _ _ _ it.xq λb r o l=>p b o l;have b:=body e i a f j g d _ _ d.objs.size q (mi _ _) it {
  kU:=λb d=>cH (ls it.k<|qg d) (λe=>g7.mpr d (it.lt b e).1) (g6<|nO (it.lt a<|h.sub a<|kF.mpr V).1 d)
  kV:=mi _ _
  k:=it.k.trans p
  ns:=(aX.Ns.new _<| .type "dict").keeps (BF _ _)
  xx:=BF _ _ _ _<|gj _<|dM _ c} m
 show codeAny_compStart_list b<|h.self 0 _ _ _ m b
def fA.fK {b h':aX}(a:fA o Z b k ds)(c:cO m b h')(n:k∉m)(d:∀a∈m,a∈Z):fA o Z h' k ds:=by
 obtain⟨e,f,g,r⟩:=a;show#[e,f,c _ _ n g,r.keep<|l.fK c d]
def fA.sub (a:fA k Z m n ds)(b:∀a∈o,a∈Z):fA k o m n ds:=by
 obtain⟨c,d,e,r⟩:=a;show#[c,d,e,r.keep<|l.sub b]
def ue {c:aZ}{d:T->Prop}{e h':aX}{b:T}(f:∀a∈c,d a/\∃o,e.get? a=J o)(g:cO [b] e h')(h:∃o,h'.get? b=J o):∀a∈c,d a/\∃o,h'.get? a=J o:=λa c=>#[(f a c).1,by
 by_cases d:a=b
 .show d▸h
 .show(f a c).2.imp λo b=>g _ _ (eO d) b]
def xA {q:aS}{E:t2->aS->Prop}{F:Type}{ds:List F}{G:F->i}{P:T->Prop}{j R:aX}{d H a:T}{I:aZ}{S:Nat->ba->Prop}{K:Nat->aX->Prop}
 (it:t5 Y target (ds.map G) P j d I S K R) (t:BE j d I H a q.heap) (U:K 0 q.heap) (V:n.handled=ah) (f:aZ) (W:∀w∈f,H<=w) (h:aX->Prop) (s:h q.heap) (X:∀e h',h e->cO [d] e h'->h h') (Sf:∀e,h e->∀w∈f,∃o,e.get? w=J o) {o:Nat->dp} (Sg:o 0=[])
 (Sh:nY k 0 (.ref d) (.ref a) m=(do
  es Ss
  match <-rJ (.ref d)with
  |none=>pure<| .done .next
  |some r=>
   o7 target (.ref d) r
   lA target m r
   let mut x:=z
   for w in Si do
    if x then x <-nT w m (eval w m)
   if x then Sj
   again (.compLoop k 0 (.ref d) (.ref a) m)))
 (Sk:(jL k 0 (.ref d) (.ref a) m).isFrame=aj) (Sl:n.under (.compLoop k 0 (.ref d) (.ref a) m)=n)
 (Sm:∀p u r(g:aS)(v:bY),ds[p]?=J u->u∈ds->Q g.heap j->h g.heap->(∀c∈d::a::f,j.get? c=ah/\∃o,g.heap.get? c=J o)->bb Y.d (l g.heap<|(d::a::f)++Y.X) r (G u)->fA Y.d ((d::a::f)++Y.X) g.heap a (o p)->
  au Y.d.M n (lA target m r) (λSn So=>au Y.d.M n (t1 Si m) (λx L=>if x=z then au Y.d.M n Sj (λSn Sp=>mY Y.d (a::f) ((d::a::f)++Y.X) h a g (o<|p+1) Sp) v L else mY Y.d (a::f) ((d::a::f)++Y.X) h a g (o<|p+1) L) v So) v g)
 (Sq:∀e B,Q e j->h e->fA Y.d ((d::a::f)++Y.X) e a (o ds.length)->E (.ok .next) {q with heap:=e,toks:=B}):
 hR Y.d.M n (.compLoop k 0 (.ref d) (.ref a) m) E q:=by
 have M:∀c∈a::f,a<=c:=λc b=>by
  show gg b ?_ λb=>?_
  .show cg _
  .show a6 (iC<|t.kV▸fy _)<|W c b
 have C:∀c∈d::a::f,j.get? c=ah:=λc b=>by
  show ay (a5 b) (λD=>?_) λb=>?_
  .obtain rfl:=D;show it.nZ
  .show(t.kU c<|M c b).1
 have N:∀e,cO (d::a::f) q.heap e->Q e j:=λe y j o k=>y j o (λb=>b6 (C j b) k)<|t.k j o k;show Bx (fs:=Y.d) (Z:=(d::a::f)++Y.X) (a::f) h (o:=o) Sh Sk Sl (it.W n V) it.rL (it.xr n) (λc b=>(t.kU c<|M c b).2.1) ap ap X U s (Sg▸#[(aRR []),0,t.xx,.nil]) ?_ ?_
 .intro p r g v a d y Sr s A;have O:=N _ y;show xp (it.val p r d a) λu hd f h=>Sm p u r g v hd f O s (λc b=>#[C c b,?_]) (h.keep λc o k=>?_) A
  .show ay (a5 b) (λD=>?_) λb=>?_
   .obtain rfl:=D;show Sr
   .rcases a5 b with rfl|b
    .obtain⟨_,_,k,_⟩:=A;show dn _ k
    .show Sf _ s c b
  .have a:=l.of _ _ k;show cb _ (O c o a) λb=>cL b (λb=>b6 (C c b) a) λb=>b6 (cU _ b) k
 .intro e B y s A;rw[a7]at A;show Sq e B (N _ y) s A
def xB (c:cV Y m)(e:dA w Y.O)(j:mj Y Sh al)(p:al=z->R Y Si Sj)(q:fA Y.d Y.X m k ds)(s:ds.length<=aD)
 (t:k∈x) (u:k∈Y.X) (f:∀h',cO [k] m h'->M h') (g:cO x B.heap m) (hd:Sf=if al then ds++[Sj]else ds):
 au Y.d.M w (t1 Sh Y.I) (λc h=>if c=z then au Y.d.M w (do let _ <-dV (.builtin "list.append") [.ref k,<-eval Si Y.I]) (λK v=>mY Y.d x Y.X M k B Sf v) Sg h else mY Y.d x Y.X M k B Sf h) Sg {B with heap:=m,toks:=Sk}:=by
 obtain⟨y,n,a,r⟩:=q;show j.run e c λA C b=>?_;cases al with
 |false=>show#[A,C,V,λal o n a=>b al o<|g al o n a,f _<|b.fK _,hd▸#[y,n,b _ _ a,r.keep<|l.keep _ b]]
 |true=>
  show ar<|(p D).go w _ _ Sg e (c.keep b) λj E F h G=>ar ?_;have d:=b.trans h;show uf (d _ _ a) (λi H I=>bc ?_) (by have:=r.length;rw[rR]at this;show this▸s);have b:cO [k] E i:=λal o n a=>H.extBut al o (λc=>n<|c▸kF.mpr V) a;have c:=l.fK b<|h7 u;show#[i,F,V,λal o n a=>b al o (λe=>n<|bX e▸t)<|d al o<|g al o n a,f _ λal o n a=>b al o n<|d al o a,hd▸#[_,_,I,aO.push ((r.keep<|l.keep _ d).keep c)<|G.keep c]]
def ug {h:h6}{d:jN}{k:List (v×T)}{c:Type}{ds:List c}{j:c->i}{r:c->bg}(x:bg)(s:c->Bool)(y:c->i)
 (q:iT d Y.I=pure k) (F:∀e∈d.names,e.2≠ .cell) (C:d.kind=.function) (G:∀e∈d.names,e.2=.local->d.names.lookup e.1=J .local)
 (H:jd Y target iter (ds.map j) Sg) (N:ds.length<=aD) (I:∀a∈ds,jM target (j a) (r a)) (K:∀a∈ds,∀l∈r a,d.names.lookup l.1=J .local)
 (O:∀l∈x,l∈Y.q/\hB Y.I d k l.1)
 (P:∀b Z a,a∈ds->mj (eR Y d k b Z<|r a++x) h (s a))
 (S:∀b Z a,a∈ds->s a=z->R (eR Y d k b Z<|r a++x) B (y a))
 (U:∀m,iB iter Y.I m=pure m) (W:∀t it u env,(jL (.ListComp B [#[target,iter,h,0]] d pos) t it u env).isFrame=aj)
 {bM:bY} (A:dA M Y.O) (L:cV Y w.heap)
 (X:∀f D E g b,w.heap.get? b=ah->w.heap.get? g=ah->g≠b->Q f w.heap->f.Ns b E->fA Y.d (b::g::Y.X) f g ((ds.filter s).map y)->xy Y.d.M M Sf ic bM (.ref g) b (.ok .next) {w with heap:=f,toks:=D}):
 au Y.d.M M (xz (.ListComp B [#[target,iter,h,0]] d pos) d Y.I Sh (uc []) aj (eval iter Y.I) ic) bM Sf w:=by
 show ub q (λn=>xw F n k) C G H U A L λc h M B Sf Sg Sh Si b g w j it q e=>?_;have F:=q.kU b<|q.kV▸lB _;have G:g≠b:=q.kV▸g6 (fy _);show xA it q e A.handled [b] (λB c=>aA (bX c).symm) (λf=>∃c,f.Ns b c) #[_,q.ns] (λf h' m t=>m.imp λc e=>e.at' λo h=>t _ o (eO F.2.2.symm) h) (λf m B c=>by mspec bX c;show p m λc e=>?_;show kL e λo j j H=>?_;show ao H λh j=>?_;show dn o h) (o:=kT s y ds) V (BG _ _ _ _ _ _ _ _ _) (W _ _ _ _) V (λB a Sh Si Sj hd m U e Sf Sg u=>?_) λf D t e u=>?_
 .show p e λc e=>?_;show(I a m).assign A.handled (t4 C) (λl W=>ua<|K a m l W) i6 Sg e λSj Sk Sh B I Si j=>?_;show xB (Y:=eR Y d k b ([M,g,b]++Y.X)<|r a++x) ((L.keep w).eR (λl o h=>B l o (eO λd=>b6 F.1<|d▸h)<|U l o h) (ue Sf B (by show kL I λo j j H=>?_;show ao H λh j=>?_;show dn o h)) C I (K a m) Si O) A (P b _ a m) (S b _ a m) (u.fK B (eO G)<|h7 i6) (a6 BD N) ap l0 (λh' d=>#[Sh,I.at' λo h=>d _ o (eO G.symm) h]) (B.dQ<|h7 l0)<|BC hd
 .show p e λE e=>?_;show X f D E g b (ls w F.1) (ls w (q.kU g<|cg _).1) G (w.trans t) e ((by unfold kT;show aJ iU V:kT s y ds ds.length=_)▸u.sub λa c=>gg c i6 λc=>gg c l0 λc=>bB c)
def fA.dW (a:fA k (m::x::X) o w ds):fA k (m::X) o w ds:=by
 obtain⟨b,n,c,r⟩:=a;show#[b,n,c,r.keep<|l.sub λa d=>(d2 d).elim (λa=>a▸ap) λa=>g<|g a]
def fA.uh {a b:T}{ds:dp}(d:fA w (a::X) k b ds)(f:h9 a k m)(h:b≠a)(i:b∉X):bb w (l m X) (.ref b) (.list ds):=by
 obtain⟨j,n,c,r⟩:=d;have e:cO [a] k m:=λa o n c=>f.extBut a o (by simpa using n) c;show bb.list (a3:=j.toList) #[n,?_] ((r.keep<|l.fK e<|by simp).keep<|l.sub (by intro d a;show g a));show cb _ (by simpa using e _ _ (eO h) c) i
def mm (a:cV Y k)(b:k.get? m=ah):m∉Y.X:=λc=>by
 show p (a.cw _ c) λo d=>?_;show b6 b d
def ui (c:Q h' k)(d:h9 m h' n)(e:k.get? m=ah):Q n k:=λb o a=>
 d.extBut b o (λf=>by rw[f,e]at a;cases a) (c b o a)
def R.iD {c:Type}{ds:List c}{dE:c->i}{cP:c->bg}(d:bg)(e:c->Bool)(h:c->i)
 (q:iT k Y.I=pure m) (s:∀f∈k.names,f.2≠ .cell) (t:k.kind=.function) (u:∀f∈k.names,f.2=.local->k.names.lookup f.1=J .local)
 (v:R Y iter r) (w:cA Y target r (ds.map dE)) (x:ds.length<=aD) (y:∀a∈ds,jM target (dE a) (cP a)) (A:∀a∈ds,∀b∈cP a,k.names.lookup b.1=J .local)
 (B:∀b∈d,b∈Y.q/\hB Y.I k m b.1)
 (C:∀g Z a,a∈ds->mj (eR Y k m g Z<|cP a++d) n (e a))
 (D:∀g Z a,a∈ds->e a=z->R (eR Y k m g Z<|cP a++d) o (h a))
 (E:∀p,iB iter Y.I p=pure p) (F:∀j it l env,(jL (.ListComp o [#[target,iter,n,0]] k pos) j it l env).isFrame=aj):
 R Y (.ListComp o [#[target,iter,n,0]] k pos) (.list<|(ds.filter e).map h):=.mk λf k m n c a b=>by
 rw[uj];show ug (ic:=ah) d e h q s t u (.of v w) x y A B C D E F c a ?_;intro c d e n g f h k j m l;show av e m<|λg c=>b _ g d (ui j c f)<|l.dW.uh c k<|mm a h
end
noncomputable def bl (ae:v)(af:i)(Γ:bg):bg:=(ae,af)::Γ.filter λak=>ak.1≠ae
def BH (a:k∈bl m n Γ):k=(m,n)\/(k∈Γ/\k.1≠m):=by
 unfold bl at a;show ay (a5 a) (λb=>?_) λa=>?_
 .obtain rfl:=b;show .inl V
 .have:=e9.mp a;show .inr #[this.1,by simpa using this.2]
structure aP where
 cM:aX
 cB:aZ
 cR:Option (List b3):=ah
 bZ:Bool:=aj
noncomputable abbrev aP.at (H:aP)(m0:aX):aP:=#[m0,H.cB,H.cR,H.bZ]
structure je (aK:cW)(n:Nat)(env:b3)(fr:Option (List b3)):Prop extends dA aK n where
 o8:∀ag,fr=J ag->aK.frames=J (env::ag)
structure u (H:aP)(Y:be)(an:aX):Prop extends cV Y an where
 de:Q an H.cM
 ns:∃aH,an.Ns Y.I.locals aH
 cells:∀ak∈Y.I.cells,∃aq,an.IsCell ak.2 aq
 apart:Y.I.cells.Pairwise λae bx=>ae.2≠bx.2
 cn:Y.I.locals∈Y.X/\∀ak∈Y.I.cells,ak.2∈Y.X
 ft:∀ak∈Y.I.cells,ak.2≠Y.I.locals
 new:H.cM.get? Y.I.locals=ah/\∀ak∈Y.I.cells,H.cM.get? ak.2=ah
 cN:∀ak∈Y.G,H.cM.get? ak.1=ah/\ak.1≠Y.I.locals/\∀a∈Y.I.cells,ak.1≠a.2
 dt:Y.G.Pairwise λae bx=>ae.1≠bx.1
 sub:∀ac∈H.cB,ac∈Y.X
def u.keep (a:u k m n)(b:Q h' n):u k m h':=
 {a with
  tocV:=a.tocV.keep b
  de:=a.de.trans b
  ns:=let#[c,d]:=a.ns;#[c,d.keeps b]
  cells:=λd c=>let#[e,o,k,hd]:=a.cells d c;#[e,o,b _ _ k,hd]}
def Ns.H8 {c:aX}(d:c.Ns k m)(e:c.Ns k r):m=r:=by
 show A2 d λo i j f hd c g=>?_;show A2 e λd i j a b c h=>?_;replace a:=f▸a;obtain rfl:=fS a;replace b:=hd▸b;cases b;funext n;rw[<-g,<-h]
noncomputable abbrev db:=Flow->aX->Prop
noncomputable def c2 (aw:aX->Prop)(bU:db):db:=λaT an=>match aT with
 | .next=>aw an|aT=>bU aT an
structure cs (aa:aS)(bS:aS)(al:Bool):Prop where
 drawn:bS.drawn=aa.drawn
 os:bS.os=aa.os
 gens:AllBare aa.gens->AllBare bS.gens
 same:al=aj->bS.gens=aa.gens
def cs.bf (a:aS):cs a a k:=#[V,V,id,λa=>rfl]
def cs.trans {c d e:aS}(a:cs c d k)(b:cs d e k):cs c e k:=#[b.drawn.trans a.drawn,b.os.trans a.os,λc=>b.gens<|a.gens c,λc=>(b.same c).trans<|a.same c]
def cs.up {a:aS}{b:aX}{c:fh}:cs a {a with heap:=b,toks:=c} k:=#[V,V,id,λa=>rfl]
def cs.gH (a:cs k m n):cs k {m with heap:=o,toks:=r} n:=a.trans .up
def cs.le (a:cs m n k)(b:k=z->o=z):cs m n o:=#[a.drawn,a.os,a.gens,λb=>a.same (by cases k<;>simp_all)]
def cs.eq (d:cs m k aj):k={m with heap:=k.heap,toks:=k.toks}:=by
 obtain⟨f,g,h,i,o⟩:=k;obtain⟨a,b,f,e⟩:=d;have c:=e V;dsimp only at a b c;subst a b c;rfl
structure E (Y:be)(H:aP)(a:cC)(bU:db):Prop where
 go:∀(aK:cW)(aa:aS)(bv:bY),je aK Y.O Y.I H.cR->u H Y aa.heap->
 au Y.d.M aK (exec a Y.I) (λaT bS=>cs aa bS H.bZ/\bU aT bS.heap) bv aa
structure N (H:aP)(Y:be)(al:List cC)(bU:db):Prop where
 go:∀(aK:cW)(aa:aS)(bv:bY),je aK Y.O Y.I H.cR->u H Y aa.heap->
 au Y.d.M aK (execs al Y.I) (λaT bS=>cs aa bS H.bZ/\bU aT bS.heap) bv aa
def uk (Y:be)(H:aP)(aw:aX->Prop)(al:List cC)(bU:db):Prop:=∀an,aw an->∃(a:be) (m3:aP),a.d=Y.d/\a.O=Y.O/\a.I=Y.I/\m3.cR=H.cR/\m3.bZ=H.bZ/\u m3 a an/\N m3 a al bU
section
variable {Y:be}{H:aP}
def N.nil (a:∀a,u H Y a->k .next a):N H Y [] k:=.mk λd b e f c=>rS #[cs.bf b,a _ c]
def N.cons {e:cC}{aw:aX->Prop}(j:E Y H e (c2 aw k))(l:uk Y H aw m k):N H Y (e::m) k:=.mk λf e g h k=>
 mn (dr (j.go f e g h k) (λi c a=>by
  show ao a λb r=>?_;cases i with
  |next=>
   show A3 (l c.heap r) λq s j k e m n o p=>?_;have:=p.go f c g (by mspec k;mspec e;mspec m;show h) o;rw[e,j,n]at this;show dr this (λi c a=>#[b.trans a.1,a.2]) λd d H=>H
  |brk=>show#[b,r]|cont=>show#[b,r]|ret a=>show#[b,r]) λd d H=>H)
def N.br {a:cC}{Γ:bg}(b:E Y H a (c2 (u H #[Y.d,Y.O,Y.I,X,Γ,own]) k))(c:N H #[Y.d,Y.O,Y.I,X,Γ,own] m k):N H Y (a::m) k:=
 N.cons b λb a=>eQ #[Y.d,Y.O,Y.I,X,Γ,own] H V rfl rfl rfl rfl a c
def uk.of (a:N H #[Y.d,Y.O,Y.I,X,Γ,own] al k):uk Y H (u H #[Y.d,Y.O,Y.I,X,Γ,own]) al k:=λc b=>eQ #[Y.d,Y.O,Y.I,X,Γ,own] H V rfl rfl rfl rfl b a
def E.dQ {c:cC}{d e:db}(a:E Y H c d)(f:∀b a,d b a->e b a):E Y H c e:=.mk λd e g h i=>
 dr (a.go d e g h i) (λb j c=>#[c.1,f _ _ c.2]) λa a H=>H
def N.dQ (a:N H Y k m)(d:∀b a,m b a->n b a):N H Y k n:=.mk λe f g h i=>
 dr (a.go e f g h i) (λb j c=>#[c.1,d _ _ c.2]) λa a H=>H
def N.qh (b:∀a,u H Y a->u H #[Y.d,Y.O,Y.I,X,Γ,own] a)(a:N H #[Y.d,Y.O,Y.I,X,Γ,own] k m):N H Y k m:=.mk λc d e f g=>a.go c d e f<|b _ g
def E.qh (b:∀a,u H Y a->u H #[Y.d,Y.O,Y.I,X,Γ,own] a)(a:E #[Y.d,Y.O,Y.I,X,Γ,own] H k m):E Y H k m:=.mk λc d e f g=>a.go c d e f<|b _ g
def u.eh (a:u H Y k)(c:∀b∈Γ,b∈Y.q):u H #[Y.d,Y.O,Y.I,Y.X,Γ,Y.G] k:=
 {a with base:=a.base,cw:=a.cw,d8:=λb d=>a.d8 b<|c b d,G:=a.G,kind:=a.kind}
def u.change (b:u H Y m)(i:k∈Y.X)(j:∃o,h'.get? k=J o)(n:H.cM.get? k=ah)(h:cO [k] m h')(p:∃d,h'.Ns Y.I.locals d)(q:∀a∈Y.I.cells,∃f,h'.IsCell a.2 f)
 (r:∀a∈Γ,∃f,nQ f h' a.1 Y.I/\bb Y.d (l h' Y.X) f a.2) (s:∀a∈own,a.1∈Y.X/\bH Y.d (l h' Y.X) h' a.1 a.2)
 (t:∀a∈own,H.cM.get? a.1=ah/\a.1≠Y.I.locals/\∀g∈Y.I.cells,a.1≠g.2) (v:own.Pairwise λw x=>w.1≠x.1):u H #[Y.d,Y.O,Y.I,Y.X,Γ,own] h':=
 {base:=b.base.trans (l.fK h<|h7 i)
  cw:=λe d=>by
   by_cases g:e=k
   .subst g;show j
   .obtain⟨o,H⟩:=b.cw e d;show#[o,h _ _ (eO g) H]
  d8:=r
  G:=s
  kind:=b.kind
  de:=λe o c=>h e o (λd=>by replace c:=(bX d)▸c;replace c:=n▸c;cases c) (b.de e o c)
  ns:=p,cells:=q,apart:=b.apart,cn:=b.cn,ft:=b.ft,new:=b.new,cN:=t,dt:=v,sub:=b.sub}
def u.frame (b:u H Y m)(i:Q (l h' k) (l m Y.X))(d:∀c∈k,∃o,h'.get? c=J o)(h:Y.I.locals∈k)(q:∀a∈Y.I.cells,a.2∈k)(h0:∀c∈H.cB,c∈k)
 (j:∀f,m.Ns Y.I.locals f->h'.Ns Y.I.locals f) (p:∀a∈Y.I.cells,∀o,m.get? a.2=J o->h'.get? a.2=J o) (r:Q h' H.cM) (own:∀a∈n,a.1∈k/\bH Y.d (l h' k) h' a.1 a.2)
 (s:∀a∈n,H.cM.get? a.1=ah/\a.1≠Y.I.locals/\∀g∈Y.I.cells,a.1≠g.2) (t:n.Pairwise λv e=>v.1≠e.1):u H #[Y.d,Y.O,Y.I,k,Y.q,n] h':=
 {base:=b.base.trans i,cw:=d,G:=own,kind:=b.kind,de:=r,apart:=b.apart,cn:=#[h,q],ft:=b.ft,new:=b.new,cN:=s,dt:=t,sub:=h0
  d8:=λa h=>(b.d8 a h).imp λk e=>#[e.1.imp (λc=>#[c.1,c.2.imp λf d=>#[j f d.1,d.2]])<|λc=>c.imp λf d=>cH d.1 d.2.1<|d.2.2.imp λo g=>#[p (a.1,f) (mem_of_lookup d.2.1) o g.1,g.2],e.2.keep i]
  ns:=b.ns.imp j
  cells:=λa h=>(b.cells a h).imp λk e=>e.imp λo c=>#[p a h o c.1,c.2]}
def u.gn (a:u H Y aa.heap)(h:Y.I.kindOf ae=J .local\/(Y.I.kindOf ae=J .cell/\(Y.I.cells.lookup ae).isSome=z))(K:bb Y.d (l aa.heap Y.X) aq af)
 (L:∀h' N d,d∈Y.X->(d=Y.I.locals\/∃b∈Y.I.cells,d=b.2)->h9 d aa.heap h'->u H #[Y.d,Y.O,Y.I,Y.X,bl ae af Y.q,Y.G] h'->Sf () {aa with heap:=h',toks:=N}):au Y.d.M Sg (storeName Y.I ae aq) Sf Sh aa:=by
 show ay h (λh=>?_) λm=>?_
 .show p a.ns λw s=>?_;show xu h s (λi t j=>?_) (by mspec a.kind;rfl);have e:cO [Y.I.locals] aa.heap i:=λx o n H=>j.extBut x o (by simpa using n) H;have k:Q (l i Y.X) (l aa.heap Y.X):=l.fK e<|h7 a.cn.1;show L i _ Y.I.locals a.cn.1 (.inl V) j (a.change a.cn.1 (by show eY t λo y y H y=>?_;show dn o H) a.new.1 e #[_,t] (λb c=>?_) (λb c=>?_) (λb c=>?_) a.cN a.dt)
  .show gh (a.cells b c) λaq o H hd=>?_;show ix aq o (e _ _ (by simpa using a.ft b c) H) hd
  .rcases BH c with rfl|⟨c,A⟩
   .show av aq (.inl #[h,_,t,by simp])<|K.keep k
   .show aY (a.d8 b c) λB C D=>?_;show av B ?_<|D.keep k;rcases C with⟨d,M,E,v⟩|⟨f,d,H,o,F,hd⟩
    .rw[Ns.H8 E s]at v;show .inl #[d,_,t,by simpa[A]using v]
    .show .inr #[f,d,H,o,e _ _ (by simpa using a.ft (b.1,f) (mem_of_lookup H)) F,hd]
  .show ao (a.G b c) λd r=>?_;show#[d,r.lw k λo H=>e _ _ (by simpa using(a.cN b c).2.1) H]
 .show ao m λh q=>?_;show p (xC.mp q) λf q=>?_;have g:(ae,f)∈Y.I.cells:=mem_of_lookup q;show p (a.cells _ g) λN t=>?_;show H9 a.kind h q t λi G j=>?_;have e:cO [f] aa.heap i:=λx o n H=>j.extBut x o (by simpa using n) H;have t:=a.cn.2 _ g;have k:Q (l i Y.X) (l aa.heap Y.X):=l.fK e<|h7 t;show p a.ns λw s=>?_;show L i _ f t (.inr<|av _ g V) j (a.change t (by show aY G λo H y=>?_;show dn o H) (a.new.2 _ g) e #[_,(s.sameBut j<|mo<|a.ft _ g)] (λb c=>?_) (λb c=>?_) (λb c=>?_) a.cN a.dt)
  .by_cases i:b.2=f
   .show i▸#[_,G]
   .show gh (a.cells b c) λaq o H hd=>?_;show ix aq o (e _ _ (eO i) H) hd
  .show ay (BH c) (λI=>?_) λm=>?_
   .obtain rfl:=I;show av aq (.inr<|fo f (.inl h) q G)<|K.keep k
   .show ao m λc A=>?_;show aY (a.d8 b c) λB C D=>?_;show av B ?_<|D.keep k;show ay C (λI=>?_) λm=>?_
    .show ao I λd f=>?_;show p f λM h=>?_;show ao h λE v=>?_;show .inl #[d,M,E.sameBut j<|mo<|a.ft _ g,v]
    .show p m λi h=>?_;show cd h λd H f=>?_;show p f λo h=>?_;show ao h λF hd=>?_;show .inr #[i,d,H,o,e _ _ ?_ F,hd];intro w;rw[bX w]at H;show A<|name_of_addr a.apart (mem_of_lookup H) g
  .show ao (a.G b c) λd r=>?_;show#[d,r.lw k λo H=>e _ _ (by simpa using(a.cN b c).2.2 _ g) H]
abbrev fM (env:b3)(ae:v):Prop:=env.kindOf ae=J .local\/(env.kindOf ae=J .cell/\(env.cells.lookup ae).isSome=z)
def E.assign (a:R Y m af)(c:fM Y.I k)(d:f6 m (J<| .Name k n) pos.line Y.I=pure aj):
 E Y H (.Assign [.Name k n] m pos) (c2 (u H #[Y.d,Y.O,Y.I,Y.X,bl k af Y.q,Y.G]) o):=.mk λe f g h b=>
 o9 (a.go e f _ g h.todA b.tocV λj h' k i r=>(b.keep i).gn c r λf g a a a a e=>#[.up,e]) d
def E.ret (c:R Y k af)(d:∀b a,u H Y b->bb Y.d (l b Y.X) a af->m (.ret a) b):E Y H (.Return (J k) pos) m:=.mk λe f g h b=>
 xD (c.go e f _ g h.todA b.tocV λa h' j i r=>#[.up,d h' a (b.keep i) r])
def E.dC {aq:Bool}(j:a1 Y m aq)(l:aq=z->N H Y n k)(o:aq=aj->N H Y r k):E Y H (.If m n r pos) k:=.mk λb c d e f=>
 rT (j.go b c _ d e.todA f.tocV λh' h i=>by
  cases aq with
  |true=>show dr ((l V).go b {c with heap:=h',toks:=h} d e<|f.keep i) (λp q a=>#[cs.up.trans a.1,a.2]) λg g H=>H
  |false=>show dr ((o V).go b {c with heap:=h',toks:=h} d e<|f.keep i) (λp q a=>#[cs.up.trans a.1,a.2]) λg g H=>H)
def E.brk (b:∀a,u H Y a->k .brk a):E Y H (.Break pos) k:=.mk λd a e f c=>wpAny_Break #[cs.bf a,b _ c]
def E.cont (b:∀a,u H Y a->k .cont a):E Y H (.Continue pos) k:=.mk λd a e f c=>wpAny_Continue #[cs.bf a,b _ c]
noncomputable def rU (aw:aX->Prop)(bU:db):db:=λaT an=>match aT with
 | .next=>aw an| .cont=>aw an| .brk=>bU .next an| .ret aq=>bU (.ret aq) an
noncomputable abbrev iR:=bg->List (T×i)->Prop
inductive ul (Y:be)(H:aP)(ce:iR)(an:aX):Prop
 |Ia (Γ:bg) (own:List (T×i)) (cD:ce Γ own) (a:u H #[Y.d,Y.O,Y.I,Y.X,Γ,own] an):ul Y H ce an
inductive qi (ce:Nat->iR)(n:Nat)(Γ:bg)(own:List (T×i)):Prop
 |mk (aH:Nat) (an:aH<n) (cD:ce aH Γ own):qi ce n Γ own
inductive xE (Y:be)(H:aP)(a:c6)(body:List cC)(b:db)(bP:Bool->Prop):Prop
 |mk (al:Bool) (a2:a1 Y a al) (bx:al=z->N H Y body b) (n:bP al):xE Y H a body b bP
inductive xF (Y:be)(H:aP)(ce:Nat->iR)(aa:aS)(n:Nat)(bS:aS):Prop
 |mk (Γ:bg) (own:List (T×i)) (a:cs aa bS H.bZ) (cD:ce n Γ own) (b:u H #[Y.d,Y.O,Y.I,Y.X,Γ,own] bS.heap):xF Y H ce aa n bS
def E.um {b:db}(ce:Nat->iR)(g:Nat)(h0:ce g Y.q Y.G)
 (o:∀n Γ own,ce n Γ own->xE #[Y.d,Y.O,Y.I,Y.X,Γ,own] H r body (rU (ul Y H<|qi ce n) b) λc=>c=aj->∀h,u H #[Y.d,Y.O,Y.I,Y.X,Γ,own] h->b .next h):E Y H (.While r body [] pos) b:=.mk λi d h j b=>by
 show wpAny_While<|codeAny_whileLoop (xF Y H ce d) ?_ g #[Y.q,Y.G,cs.bf d,h0,b];rintro n p ⟨Γ,own,k,q,e⟩;cases o n Γ own q with|mk c s t v=>
 show s.go i _ _ _ j.todA e.tocV λw x l=>?_;cases c with
 |false=>show rS #[k.gH,v V _<|e.keep l]
 |true=>
  show dr ((t V).go i {p with heap:=w,toks:=x} _ j<|e.keep l) (λy c a=>?_) λb b H=>H;have f:=k.gH.trans a.1;have m:ul Y H (qi ce n) c.heap->∃b,b<n/\xF Y H ce d b c:=λ#[c,d,#[b,e,g],h]=>#[b,e,c,d,f,g,h];cases y with
  |next=>show m a.2|cont=>show m a.2|brk=>show#[f,a.2]|ret b=>show#[f,a.2]
noncomputable def BI (aT:v->α)(bu:h6->α)(c0:α)(H:c6):α:=c6.casesOn H (λa a a=>c0) (λa a a=>c0) (λa a a a=>c0) (λa a a=>c0) (λa a a a=>c0) (λa a a a=>c0) (λa a a=>c0) (λa a a=>c0) (λa a a a=>c0) (λa a a a=>c0) (λa a a a a=>c0) (λa a a a=>c0) (λa a=>c0) (λa a=>c0) (λa a=>c0) (λa a a a=>c0) (λa a a a=>c0) (λa a a a=>c0) (λa a=>c0) (λa a a=>c0) (λa a a=>c0) (λa a a=>c0) (λa a=>c0) (λae a=>aT ae) (λa a=>c0) (λdz a a=>bu dz)<|λa a a a=>c0
noncomputable def i.items (af:i):dp:=i.casesOn af [] (λa=>[]) (λa=>[]) (λa=>[]) (λds=>ds) (λa=>[]) (λa=>[]) (λa=>[]) (λa a a=>[]) (λa=>[]) (λa=>[]) (λa=>[]) (λa a=>[]) (λa=>[])<|λa=>[]
noncomputable def Ib (H:c6)(af:i):bg:=BI (λae=>[(ae,af)]) (λdz=>(dz.map<|BI (λae=>ae) (λa=>"") "").zip af.items) [] H
noncomputable def gp (a2:c6)(af:i)(Γ:bg):bg:=(Ib a2 af).foldl (λΓ ak=>bl ak.1 ak.2 Γ) Γ
inductive qj (env:b3):c6->i->Prop
 |name {ae a af}:fM env ae->qj env (.Name ae a) af|n0 {ae bx a b am c ac al}:fM env ae->fM env bx->qj env (.Tuple [.Name ae a,.Name bx b] am c) (.list [ac,al])
def u.BJ {b:aS}{h:lp}{j:ba}{e:i}(t:w.handled=ah)(k:u H Y b.heap)(v:qj Y.I m e)(p:bb Y.d (l b.heap Y.X) j e)
 (q:∀h' f,(∀a o,a∉Y.X->b.heap.get? a=J o->h'.get? a=J o)->u H #[Y.d,Y.O,Y.I,Y.X,gp m e Y.q,Y.G] h'->h () {b with heap:=h',toks:=f}):au Y.d.M w (lA m Y.I j) h M b:=by
 cases v with
 |name g=>show iz<|k.gn g p λh' f s e d h j=>q h' f (λa o n H=>h.extBut a o (λc=>n<|c▸e) H) j
 |@n0 x e f h j m s a g y=>
  show cm p.is λd d e=>?_;show eP e λA r=>?_;obtain⟨_,_,rfl,B,C⟩:=r.eV;show Bv t (PlainList.fT (let#[n,H]:=A;#[n,l.of _ _ H])) V rfl λf h=>?_;have e:Q f b.heap:=λa o H=>h a o (g6<|gk H) H;show n1<|iz<|(k.keep e).gn g (B.keep<|l.keep _ e) λh f t j d m p=>?_;have f:∀a o,a∉Y.X->b.heap.get? a=J o->h.get? a=J o:=λa o n H=>m.extBut a o (λc=>n<|c▸j)<|e a o H;show n1<|iz<|u.gn (Y:=#[Y.d,Y.O,Y.I,Y.X,bl x s Y.q,Y.G]) p y (C.keep<|l.mR f) λb e k g d h j=>?_;show xv<|q b e (λa o n H=>h.extBut a o (λc=>n<|c▸g)<|f a o n H) j
noncomputable def d5 (Y:be):aZ:=Y.I.locals::(Y.I.cells.map (·.2)++Y.G.map (·.1))
def iE (a:k∈d5 Y):k=Y.I.locals\/(∃b∈Y.I.cells,k=b.2)\/∃b∈Y.G,k=b.1:=by
 show ay (d2 a) (λa=>?_) λa=>?_
 .show .inl a
 .show cL a (λa=>?_) λa=>?_
  .obtain⟨b,c,rfl⟩:=ck a;show .inr<| .inl<|av b c V
  .obtain⟨b,c,rfl⟩:=ck a;show .inr<| .inr<|av b c V
def u.hC (a:u H Y k):∀d∈d5 Y,d∈Y.X:=λd e=>by
 rcases iE e with rfl|⟨b,c,rfl⟩|⟨b,c,rfl⟩
 .show a.cn.1
 .show a.cn.2 b c
 .show(a.G b c).1
def u.Ic (a:u H Y k):∀d∈d5 Y,H.cM.get? d=ah:=λd e=>by
 rcases iE e with rfl|⟨b,c,rfl⟩|⟨b,c,rfl⟩
 .show a.new.1
 .show a.new.2 b c
 .show(a.cN b c).1
def u.BK (a:u (H.at k) Y m)(c:Q k H.cM):u H Y m:=
 have n:∀b,k.get? b=ah->H.cM.get? b=ah:=λb d=>by
  show jA (c b) d
 {a with
  tocV:=a.tocV
  de:=c.trans a.de
  new:=#[n _ a.new.1,λb c=>n _<|a.new.2 b c]
  cN:=λb c=>#[n _ (a.cN b c).1,(a.cN b c).2]
  sub:=a.sub}
def u.xG (a:u H Y k):u (H.at<|cq k<|d5 Y) Y k/\Q (cq k<|d5 Y) H.cM:=
 #[{a with
  tocV:=a.tocV
  de:=l.of
  new:=#[cU _ ap,λc b=>cU _<|g<|bJ<|dI b]
  cN:=λc b=>#[cU _<|g<|bB<|dI b,(a.cN c b).2]
  sub:=a.sub},λb o c=>cb _ (a.de b o c) λd=>by show b6 (a.Ic b d) c]
noncomputable def rV (aw a:aX->Prop)(bU:db):db:=λaT an=>match aT with
 | .next=>aw an| .cont=>aw an| .brk=>a an| .ret aq=>bU (.ret aq) an
def u.n5 {c:aX}(a:u H Y c)(e:∀b∈X,b∈Y.X)(d:∀b∈d5 Y,b∈X)(h0:∀b∈H.cB,b∈X):u H #[Y.d,Y.O,Y.I,X,Y.q,Y.G] c:=
 have f:Q (l c X) (l c Y.X):=l.sub e
 {base:=a.base.trans f
  cw:=λb d=>a.cw b (e b d)
  d8:=λe c=>let#[h,b,r]:=a.d8 e c;(av h b<|r.keep f)
  G:=λe c=>#[d _<|g<|bB<|dI c,(a.G e c).2.keep f<|Q.bf _]
  kind:=a.kind
  de:=a.de,ns:=a.ns,cells:=a.cells,apart:=a.apart
  cn:=#[d _ ap,λe c=>d _<|g<|bJ<|dI c]
  ft:=a.ft,new:=a.new,cN:=a.cN,dt:=a.dt,sub:=h0}
def u.BL {b h':aX}(a:u H Y b)(d:∀c∈dB,b.get? c=ah/\∃o,h'.get? c=J o)(e:Q h' b):u H #[Y.d,Y.O,Y.I,dB++Y.X,Y.q,Y.G] h':=
 have g:Q (l h'<|dB++Y.X) (l b Y.X):=λc o f=>by
  have h:=l.of _ _ f;show cb _ (e c o h) λb=>cL b (λb=>b6 (d c b).1 h) λb=>b6 (cU _ b) f
 {base:=a.base.trans g
  cw:=λc b=>cL b (λb=>(d c b).2) λb=>(a.cw c b).imp λo H=>e _ _ H
  d8:=λd f=>let#[h,c,r]:=a.d8 d f;(av h (c.keep e)<|r.keep g)
  G:=λd f=>#[bB (a.G d f).1,(a.G d f).2.keep g e]
  kind:=a.kind
  de:=a.de.trans e
  ns:=let#[b,g]:=a.ns;#[b,g.keeps e]
  cells:=λd b=>let#[h,o,H,hd]:=a.cells d b;#[h,o,e _ _ H,hd]
  apart:=a.apart
  cn:=#[bB a.cn.1,λd f=>bB<|a.cn.2 d f]
  ft:=a.ft,new:=a.new,cN:=a.cN,dt:=a.dt,sub:=λc b=>bB<|a.sub c b}
def u.gI {a h':aX}(b:u H Y a)(c:a.get? cz=ah)(d:∃o,h'.get? cz=J o)(e:Q h' a):u H #[Y.d,Y.O,Y.I,cz::Y.X,Y.q,Y.G] h':=b.BL (dB:=[cz]) (λb a=>(bX a).symm▸#[c,d]) e
def u.other (d:u H Y m)(j:k∈Y.X)(f:k∉d5 Y)(s:H.cM.get? k=ah)(t:∃o,h'.get? k=J o)(e:cO [k] m h'):u H Y h':=by
 have n:Q (l h' Y.X) (l m Y.X):=l.fK e<|h7 j;have m:Y.I.locals≠k:=λa=>f<|a▸ap;have q:∀b∈Y.I.cells,b.2≠k:=λb c a=>f<|a▸g (bJ<|dI c);have v:∀b∈Y.G,b.1≠k:=λb c a=>f<|a▸g (bB<|dI c);show d.change j t s e (let#[h,i]:=d.ns;#[h,i.at' λo a=>e _ o (eO m) a]) (λb c=>?_) (λb c=>?_) (λb c=>?_) d.cN d.dt
 .show gh (d.cells b c) λj o a hd=>?_;show ix j o (e _ _ (by simpa using q b c) a) hd
 .show aY (d.d8 b c) λj f r=>?_;show av j ?_<|r.keep n;show ay f (λk=>?_) λs=>?_
  .show ao k λf j=>?_;show p j λh k=>?_;show ao k λi a=>?_;show .inl #[f,h,i.at' λo a=>e _ o (eO m) a,a]
  .show p s λh k=>?_;show cd k λf a j=>?_;show p j λo i=>?_;show ao i λj hd=>?_;show .inr #[h,f,a,o,e _ _ (by simpa using q (b.1,h) (mem_of_lookup a)) j,hd]
 .show ao (d.G b c) λf r=>?_;show#[f,r.lw n λo a=>e _ _ (by simpa using v b c) a]
def u.drop (f:u H #[Y.d,Y.O,Y.I,cz::Y.X,Y.q,Y.G] k)(h:∀c∈d5 Y,c∈Y.X)(q:cz∉Y.X)(j:cz∉d5 Y)(r:H.cM.get? cz=ah)(h0:∀c∈H.cB,c∈Y.X)(i:cO [cz] k h'):u H Y h':=by
 have m:Q (l h' Y.X) (l k<|cz::Y.X):=λc o a=>by
  have n:c∉cz::Y.X:=λh=>by show b6 (cU _ h) a
  show cb _ (i c o (λe=>n<|kI e ap)<|l.of _ _ a) λe=>n<|g e
 have s:∀b∈Y.I.cells,b.2≠cz:=λb d a=>j<|a▸g (bJ<|dI d);have t:∀b∈Y.G,b.1≠cz:=λb d a=>j<|a▸g (bB<|dI d);show u.frame (Y:=#[Y.d,Y.O,Y.I,cz::Y.X,Y.q,Y.G]) f m (λc k=>(f.cw c<|g k).imp λo a=>i _ _ (eO λe:c=cz=>q<|e▸k) a)
  (h _ ap) (λb c=>h _<|g<|bJ<|dI c) h0 (λh k=>k.at' λo a=>i _ o (eO (λa=>j (a▸ap):Y.I.locals≠cz)) a) (λb d o a=>i _ o (eO<|s b d) a)
  (λp o a=>i p o (λe=>by replace a:=(bX e)▸a;replace a:=r▸a;cases a)<|f.de p o a) (λb d=>#[h _<|g<|bB<|dI d,(f.G b d).2.lw m λo a=>i _ _ (eO<|t b d) a]) f.cN f.dt
def E.xH {h:Type}{ds:List h}{dE:h->i}{cP:h->bg}{y:db}(j:bg)(e:h->Bool)(g:h->i)(D:fM Y.I k)
 (F:f6 (.ListComp w [#[target,iter,x,0]] m pos) (J<| .Name k M) Sf.line Y.I=pure z)
 (G:iT m Y.I=pure B) (I:∀k∈m.names,k.2≠ .cell) (K:m.kind=.function) (L:∀k∈m.names,k.2=.local->m.names.lookup k.1=J .local)
 (N:R Y iter r) (O:cA Y target r (ds.map dE)) (P:ds.length<=aD) (Q:∀a∈ds,jM target (dE a) (cP a)) (S:∀a∈ds,∀b∈cP a,m.names.lookup b.1=J .local)
 (T:∀b∈j,b∈Y.q/\hB Y.I m B b.1)
 (U:∀c Z a,a∈ds->mj (eR Y m B c Z<|cP a++j) x (e a))
 (V:∀c Z a,a∈ds->e a=z->R (eR Y m B c Z<|cP a++j) w (g a))
 (W:∀A,iB iter Y.I A=pure A) (X:∀s it t env,(jL (.ListComp w [#[target,iter,x,0]] m pos) s it t env).isFrame=aj):
 E Y H (.Assign [.Name k M] (.ListComp w [#[target,iter,x,0]] m pos) Sf) (c2 (u H #[Y.d,Y.O,Y.I,Y.X,bl k (.list<|(ds.filter e).map g) Y.q,Y.G]) y):=.mk λa h w m d=>by
 mspec BM _ _ _ _ F;show ar<|jK<|ar ?_;show ar (dr (ug (ic:=J<|BN (.Name k M) Y.I) (bM:=λf a=>cs h a H.bZ/\c2 (u H #[Y.d,Y.O,Y.I,Y.X,bl k (.list<|(ds.filter e).map g) Y.q,Y.G]) y .next a.heap)
  j e g G I K L (.of N O) P Q S T U V W X m.todA d.tocV ?_) (λf a h=>bc<|bc h) λf f H=>H)
 intro a j Sg h c v Sh Si s C t;have q:=mm d.tocV v;have Sj:∃o,a.get? c=J o:=by show eY C λo f f H f=>?_;show dn o H
 have Sk:bb Y.d (l a<|c::Y.X) (.ref h) (.list<|(ds.filter e).map g):=by
  obtain⟨Sl,n,H,r⟩:=t.dW;show bb.list (a3:=Sl.toList) #[n,cb _ H λa=>?_] r;show ay (d2 a) (λb=>?_) λa=>?_
  .show Si b
  .show(mm d.tocV Sh) a
 show iz<|u.gn (Y:=#[Y.d,Y.O,Y.I,c::Y.X,Y.q,Y.G]) (d.gI v Sj s) D Sk λw x j f h m t=>?_;have f:c≠j:=λb=>by
  show ay h (λh=>?_) λs=>?_
  .show q (by mspec b;mspec h;show d.cn.1)
  .show p s λe w=>?_;show ao w λs h=>?_;show q (by mspec b;mspec h;show d.cn.2 e s)
 show av Sg (C.sameBut m f)<|λh' h=>#[.up,?_];show u.drop (Y:=#[Y.d,Y.O,Y.I,Y.X,bl k (.list<|(ds.filter e).map g) Y.q,Y.G]) t (λj a=>d.hC j a) q (λa=>q<|d.hC c a) ?_ d.sub λe o n b=>h.extBut e o (by simpa using n) b;show jA (d.de c) v
end
noncomputable def ie {aw:Type}[DecidableEq aw](bF:List (aw×i))(am:aw)(af:i):List (aw×i):=
 if bF.any (λa=>a.1=am)then bF.map (λa=>if a.1=am then(a.1,af)else a)else bF++[(am,af)]
def BO {b:Type}[DecidableEq b]{a:List (b×ba)}{d:List (b×i)}(e:a.map (·.1)=d.map (·.1))(c:b):a.any (λa=>decide (a.1=c))=d.any (λa=>decide (a.1=c)):=by
 have:=congrArg (λa=>a.any λb=>decide (b=c)) e;rwa[xI,xI]at this
def BP {b c:Type}[DecidableEq b](d:List (b×c))(e:b)(f:c):(d.map λa=>if a.1=e then(a.1,f)else a).map (·.1)=d.map (·.1):=by
 mspec d9;show hD λa b=>by show(?_:(if a.1=e then(a.1,f)else a).1=a.1);split<;>rfl
def xJ {a:Type}[DecidableEq a]{c:List (a×ba)}{d:List (a×i)}(b:c.map (·.1)=d.map (·.1))(e:a)(f:ba)(g:i):(stored c e f).map (·.1)=(ie d e g).map (·.1):=by
 unfold stored ie;rw[BO b];split
 .rw[BP,BP];show aJ b V
 .mspec eX;mspec eX;mspec b;rfl
def aO.Id {d:Type}[DecidableEq d](h:bb k m n o)(f:d){c:List (d×ba)}:∀{a:List (d×i)},c.map (·.1)=a.map (·.1)->aO k m (c.map (·.2)) (a.map (·.2))->
 aO k m ((c.map λb=>if b.1=f then(b.1,n)else b).map (·.2)) ((a.map λb=>if b.1=f then(b.1,o)else b).map (·.2)):=by
 induction c with
 |nil=>intro a e _;cases a with
  |nil=>show .nil|cons _ _=>cases e
 |cons g c j=>intro a e r;cases a with
  |nil=>cases e
  |cons l a=>
   show ao (p3 e) λa b=>?_;show f3 r.hA λc c d p r=>?_;show ao (p3 d) λq c=>?_;rw[b8,b8,b8,b8,show g.1=l.1 from a];show .cons ?_<|j b<|c▸r;split
   .show h
   .show(show g.2=_ from q).symm▸p
def aO.xK {b:aW}{a:Type}[DecidableEq a]{c:List (a×ba)}{d:List (a×i)}{f:ba}{g:i}(h:bb b k f g)(e:a)(j:c.map (·.1)=d.map (·.1))(r:aO b k (c.map (·.2)) (d.map (·.2))):
 aO b k ((stored c e f).map (·.2)) ((ie d e g).map (·.2)):=by
 unfold PySem.stored ie;rw[BO j];split
 .show aO.Id h e j r
 .mspec eX;mspec eX;show r.append<| .cons h .nil
section
variable {Y:be}{H:aP}
def u.ig (a:u H Y k)(d:ac∈Y.X)(r:bH Y.d (l k Y.X) k ac af)(h0:H.cM.get? ac=ah)(e:ac∉d5 Y):u H #[Y.d,Y.O,Y.I,Y.X,Y.q,(ac,af)::Y.G] k:=
 {base:=a.base,cw:=a.cw,d8:=a.d8
  G:=λc b=>by
   rcases a5 b with rfl|b
   .show#[d,r]
   .show a.G c b
  kind:=a.kind
  de:=a.de,ns:=a.ns,cells:=a.cells,apart:=a.apart,cn:=a.cn,ft:=a.ft,new:=a.new
  cN:=λc b=>by
   rcases a5 b with rfl|b
   .show cH h0 (λd=>e ?_)<|λf h d=>e ?_
    .show(show ac=Y.I.locals from d)▸ap
    .show(show ac=f.2 from d)▸g (bJ<|dI h)
   .show a.cN c b
  dt:=gq.mpr #[λc b d=>e (by have f:ac=c.1:=d;show f▸g (bB<|dI b)),a.dt]
  sub:=a.sub}
def u.iF (b:u H Y m)(d:m.get? k=ah):k∉d5 Y/\k∉Y.X/\H.cM.get? k=ah/\k∉H.cB:=by
 have c:k∉Y.X:=λa=>by show p (b.cw k a) λo e=>?_;show b6 d e
 show l6 (λa=>c<|b.hC k a) c ?_<|λa=>c<|b.sub k a;show jA (b.de k) d
def N.m4 (f:fM Y.I k)(h:∀a,a∉Y.X->a∉H.cB->N H #[Y.d,Y.O,Y.I,a::Y.X,bl k (.val<| .ref a) Y.q,(a,.list [])::Y.G] m n):
 N H Y (.Assign [.Name k r] (.List [] w) pos::m) n:=
 N.cons (aw:=λg=>∃a,a∉Y.X/\a∉H.cB/\u H #[Y.d,Y.O,Y.I,a::Y.X,bl k (.val<| .ref a) Y.q,(a,.list [])::Y.G] g)
  (.mk λe b i j d=>o9 (tT<|ly #[ey _,by
   have e:=d.iF d3;have i:=(d.gI d3 #[_,dM b.heap (o:={cls:=.type "list",data:=.seq ([]:cv).toArray}) c]<|Q.push _ _).ig (af:=.list []) ap (.list #[0,dM _ c] .nil) e.2.2.1 (e.1:b.heap.objs.size∉d5 #[Y.d,Y.O,Y.I,b.heap.objs.size::Y.X,Y.q,Y.G]);show u.gn (Y:=#[Y.d,Y.O,Y.I,b.heap.objs.size::Y.X,Y.q,(b.heap.objs.size,.list [])::Y.G]) i f (af:=.val<| .ref b.heap.objs.size) (.val _) λh' j f f f f i=>#[.up,b.heap.objs.size,e.2.1,e.2.2.2,i]]) V)
  λg b=>g2 b λa e f d=>eQ #[Y.d,Y.O,Y.I,a::Y.X,_,_] H V rfl rfl rfl rfl d (h a e f)
def N.Ie (h:fM Y.I m)(i:∃k o,@m5 Nat _ i8 k/\Y.d.B.get? k=J o)(j:∀a,a∉Y.X->a∉H.cB->N H #[Y.d,Y.O,Y.I,a::Y.X,bl m (.val<| .ref a) Y.q,(a,.dict [])::Y.G] k n):
 N H Y (.Assign [.Name m r] (.Dict [] [] w) pos::k) n:=
 N.cons (aw:=λg=>∃a,a∉Y.X/\a∉H.cB/\u H #[Y.d,Y.O,Y.I,a::Y.X,bl m (.val<| .ref a) Y.q,(a,.dict [])::Y.G] g)
  (.mk λm b n r d=>o9 (BQ (by
   have e:=d.iF d3;have l:(b.heap.objs.size==i8)=aj:=by
    show beq_eq_false_iff_ne.mpr λp=>?_;show cm i λk o m=>?_;show ao m λf q=>?_;replace f:=p▸f;show mP _<|nO (gk<|d.tocV.fq _ _ q) f
   show u.gn (Y:=#[Y.d,Y.O,Y.I,b.heap.objs.size::Y.X,Y.q,(b.heap.objs.size,.dict [])::Y.G]) ((d.gI d3 #[_,dM b.heap (o:={cls:=.type "dict",data:=.dict (aRR [])}) c]<|Q.push _ _).ig (af:=.dict []) ap (.dict l (BR _) V .nil) e.2.2.1 (e.1:b.heap.objs.size∉d5 #[Y.d,Y.O,Y.I,b.heap.objs.size::Y.X,Y.q,Y.G])) h (af:=.val<| .ref b.heap.objs.size) (.val _) λh' i f f f f h=>#[.up,b.heap.objs.size,e.2.1,e.2.2.2,h])) V)
  λg b=>g2 b λa e f d=>eQ #[Y.d,Y.O,Y.I,a::Y.X,_,_] H V rfl rfl rfl rfl d (j a e f)
def u.qk (d:u H #[Y.d,Y.O,Y.I,Y.X,Y.q,m++(k,w)::n] x)(e:cO [k] x h')(r:bH Y.d (l h' Y.X) h' k ez):u H #[Y.d,Y.O,Y.I,Y.X,Y.q,m++(k,ez)::n] h':=by
 have v:(k,w)∈m++(k,w)::n:=bB ap;have t:=(d.G _ v).1;have h:=d.cN _ v;have C:Q (l h' Y.X) (l x Y.X):=l.fK e<|h7 t;have F:∀b,b∈m++n->b.1≠k:=λb a=>by
  have i:=d.dt;replace i:=(ih).mp i;show cd i λv j q=>?_;show cL a (λa=>?_) λa=>?_
  .show q b a _ ap
  .show λc=>(gq.mp j).1 b a c.symm
 have D:∀b,b∈m++(k,ez)::n->b=(k,ez)\/b∈m++n:=λb a=>by
  show cL a (λa=>?_) λa=>?_
  .show .inr<|bJ a
  .show ay (d2 a) (λa=>?_) λa=>?_
   .show .inl a
   .show .inr<|bB a
 have E:∀b,b∈m++n->b∈m++(k,w)::n:=λb a=>by
  show cL a (λa=>?_) λa=>?_
  .show bJ a
  .show bB<|g a
 show u.change (Y:=#[Y.d,Y.O,Y.I,Y.X,Y.q,m++(k,w)::n]) d t r.cw h.1 e (let#[v,x]:=d.ns;#[v,x.at' λo c=>e _ o (by simpa using mo h.2.1) c]) (λb a=>?_) (λb a=>?_) (λb a=>?_) (λb a=>?_) ?_
 .show gh (d.cells b a) λn o c hd=>?_;show ix n o (e _ _ (by simpa using mo (h.2.2 b a)) c) hd
 .show aY (d.d8 b a) λn m y=>?_;show av n ?_<|y.keep C;show ay m (λf=>?_) λG=>?_
  .show ao f λm n=>?_;show p n λv y=>?_;show ao y λx c=>?_;show .inl #[m,v,x.at' λo c=>e _ o (by simpa using mo h.2.1) c,c]
  .show p G λv y=>?_;show cd y λm c n=>?_;show p n λo x=>?_;show ao x λn hd=>?_;show .inr #[v,m,c,o,e _ _ (by simpa using mo (h.2.2 (b.1,v)<|mem_of_lookup c)) n,hd]
 .show ay (D b a) (λf=>?_) λs=>?_
  .obtain rfl:=f;show#[t,r]
  .show ao (d.G b<|E b s) λA j=>?_;show#[A,j.lw C λo c=>e _ _ (by simpa using F b s) c]
 .show ay (D b a) (λf=>?_) λs=>?_
  .obtain rfl:=f;show h
  .show d.cN b<|E b s
 .have i:=d.dt;rw[ih]at i ⊢;show cd i λA j q=>?_;show cH A (gq.mpr #[(gq.mp j).1,(gq.mp j).2])<|λb a c B=>?_;show ay (a5 B) (λf=>?_) λB=>?_
  .obtain rfl:=f;show q b a (k,w) ap
  .show q b a c<|g B
def u.kW (a:u H #[Y.d,Y.O,Y.I,Y.X,Y.q,m++(k,M)::w] x)(b:h9 k x h')(r:bH Y.d (l h' Y.X) h' k B):u H #[Y.d,Y.O,Y.I,Y.X,Y.q,m++(k,B)::w] h':=a.qk (λc o n d=>b.extBut c o (by simpa using n) d) r
def u.BS (b:u H #[Y.d,Y.O,Y.I,k::m,Y.q,(k,w)::x] r)(A:k∉m)(B:k∉H.cB)(C:∀h r,bH Y.d h r k w->Q r h->(∀o,r.get? k=J o->h.get? k=J o)->bb Y.d h (.ref k) w)
 (D:∀c∈eI,c∈Y.q\/(c.2=w/\(c.1,.val (.ref k))∈Y.q)):u H #[Y.d,Y.O,Y.I,m,eI,x] r:=by
 have i:Q (l r m) (l r<|k::m):=l.sub λe f=>g f;have j:∀e,e∈d5 #[Y.d,Y.O,Y.I,k::m,Y.q,x]->e∈m:=λe f=>by
  have E:e∈d5 #[Y.d,Y.O,Y.I,k::m,Y.q,(k,w)::x]:=by
   show ay (iE f) (λd=>?_) λh=>ay h (λq=>?_) λx=>?_
   .show d▸ap
   .show p q λc h=>?_;show ao h λa d=>?_;show d▸g (bJ<|dI a)
   .show p x λc h=>?_;show ao h λa d=>?_;show d▸g (bB<|dI<|g a)
  show ay (a5<|b.hC e E) (λs=>?_) λt=>?_
  .obtain rfl:=s;exfalso;have n:=b.cN (_,w) ap;rcases iE f with d|⟨c,a,d⟩|⟨c,a,d⟩
   .show n.2.1 d
   .show n.2.2 c a d
   .show(gq.mp b.dt).1 c a d
  .show t
 show{
  base:=b.base.trans i
  cw:=λe f=>b.cw e (g f)
  d8:=λc a=>by
   show ay (D c a) (λa=>?_) λq=>?_
   .show aY (b.d8 c a) λh v y=>?_;show av h v<|y.keep i
   .show ao q λhd a=>?_;show aY (b.d8 _ a) λh v y=>?_;obtain rfl:=y.is;show av _ v (hd▸(C _ _ (((b.G (k,w) ap).2).keep i<|Q.bf _) l.of λo d=>cb _ d A:bb Y.d (l r m) (.ref k) w))
  G:=λc a=>#[j _<|g<|bB<|dI a,(b.G c<|g a).2.keep i<|Q.bf _]
  kind:=b.kind
  de:=b.de,ns:=b.ns,cells:=b.cells,apart:=b.apart
  cn:=#[j _ ap,λc a=>j _<|g<|bJ<|dI a]
  ft:=b.ft,new:=b.new
  cN:=λc a=>b.cN c (g a)
  dt:=(gq.mp b.dt).2
  sub:=λe f=>by
   show ay (a5<|b.sub e f) (λs=>?_) λt=>?_
   .obtain rfl:=s;show(B f).elim
   .show t}
def bH.toList (r:bH w m x k (.list ds))(a:∀o,x.get? k=J o->m.get? k=J o):bb w m (.ref k) (.list ds):=by
 show aY r.eA λc b r=>?_;show p b λn c=>?_;show .list #[n,a _ c] r
def bH.Ig {ds}(r:bH n m w k (.dict ds))(a:∀o,w.get? k=J o->m.get? k=J o):bb n m (.ref k) (.dict ds):=by
 show gi r.o0 λe b c d r=>?_;show eY c λo e f g h=>?_;show .dict b (j6 o e f (a _ g) h) d r
noncomputable def kX (U:aW)(H:aP)(af:i):db:=λaT an=>∃aq,aT=.ret aq/\Q an H.cM/\bb U (l an H.cB) aq af
def E.Ih {a:aX->Prop}(b:R Y m n)(c:H.cB=k.cB)(d:Q H.cM k.cM):E Y H (.Return (J m) pos) (c2 a<|kX Y.d k n):=
 E.ret b λf e a r=>fo e V (d.trans a.de)<|r.keep<|l.sub λb f=>a.sub b<|c▸f
def N.ret (a:R Y k af):N H Y (.Return (J k) pos::m) (kX Y.d H af):=
 N.cons (aw:=λb=>False) (E.Ih a V<|Q.bf _) λb c=>c.elim
def N.Ii (b:(k,.val (.ref m))∈Y.q)(c:(m,.dict n)∈Y.G)(d:m∉H.cB)(hd:(k==("__debug__":v))=aj)(e:(k==("__classdict__":v))=aj):N H Y (.Return (J<| .Name k w) pos::x) (kX Y.d H<| .dict n):=
 N.cons (aw:=λf=>False) (E.ret (R.name b hd e) λg h a r=>by
  obtain rfl:=r.is;show fo _ V a.de<|((a.G _ c).2.keep (l.sub a.sub)<|Q.bf _).Ig λo b=>cb _ b d) λf a=>a.elim
def Ij:∀{b:v->Option ba},k∉m.map (·.1)->bindL n m b k=b k:=by
 induction m with
 |nil=>show λd=>rfl|cons d r c=>
  intro b a;have a:=not_or.mp<|mt hQ.mpr a;show(c a.2).trans ?_;split
  .show if_neg a.1
  .rfl
def Ik:∀{b:v->Option ba},k∉m.map (·.1)->bindC n m b k=b k:=by
 induction m with
 |nil=>show λd=>rfl|cons d r c=>
  intro b a;have a:=not_or.mp<|mt hQ.mpr a;show(c a.2).trans ?_;split
  .rfl
  .show if_neg a.1
def Il {c:v}{e:ba}{a:List (v×ba)}:∀{f:v->Option ba},(a.map (·.1)).Nodup->(c,e)∈a->k c=J .local->bindL k a f c=J e:=by
 induction a with
 |nil=>show λc a=>nomatch a|cons a r h=>
  intro f b d g;have b:=ka.mp b;show ay (a5 d) (λi=>?_) λd=>?_
  .obtain rfl:=i;show(Ij b.1).trans ?_;mspec if_pos g;show if_pos V
  .show h b.2 d g
def Im {a:List (v×ba)}:∀{d:v->Option ba},(a.map (·.1)).Nodup->(k,n)∈a->m k=J .cell->bindC m a d k=J n:=by
 induction a with
 |nil=>show λh a=>nomatch a|cons a r f=>
  intro d b c e;have b:=ka.mp b;show ay (a5 c) (λg=>?_) λc=>?_
  .obtain rfl:=g;show(Ik b.1).trans ?_;mspec if_neg (λa=>nomatch e.symm.trans a:¬m k=J .local);show if_pos V
  .show f b.2 c e
def Io {b:h}(r:aO k m n ds)(c:(ae,af)∈b.zip ds):∃a,(ae,a)∈b.zip n/\bb k m a af:=by
 show p (xL.mp c) λd b=>?_;show ao (Ip.mp b) λc d=>?_;show aY (r.get d) λa b e=>?_;show av a (ib<|Ip.mpr #[c,b]) e
structure eB (U:aW)(aT:T)(a8:iG)(dX:h)(body:List cC):Prop where
 at_:∃o,U.B.get? aT=J o/\o.data=.func a8
 lim:U.B.NoLimit
 m6:U.B.CodeRec a8.code a8.qualname
 pa:a8.body=.stmts body
 jf:a8.closure=[]
 rW:∀a3:cv,a3.length=dX.length->hE a8 #[a3,[]]=pure (dX.zip a3)
 un:∀ae∈dX,a8.scope.names.lookup ae=J .local\/(a8.scope.names.lookup ae=J .cell/\∀am,((iA am a8.scope.names []).lookup ae).isSome=z)
 bA:dX.Nodup
 xM:((iA 0 a8.scope.names []).map (·.1)).Nodup
 fm:a8.scope.isCoroutine=aj
 bZ:a8.scope.isGenerator=aj
 kind:a8.scope.kind=.function
structure g9 (U:aW)(aT:T)(a8:iG)(dX:h)(body:List cC):Prop where
 at_:∃o,U.B.get? aT=J o/\o.data=.func a8
 lim:U.B.NoLimit
 m6:U.B.CodeRec a8.code a8.qualname
 pa:a8.body=.stmts body
 jf:a8.closure=[]
 un:∀ae∈dX,a8.scope.names.lookup ae=J .local\/(a8.scope.names.lookup ae=J .cell/\∀am,((iA am a8.scope.names []).lookup ae).isSome=z)
 bA:dX.Nodup
 xM:((iA 0 a8.scope.names []).map (·.1)).Nodup
 fm:a8.scope.isCoroutine=aj
 bZ:a8.scope.isGenerator=aj
 kind:a8.scope.kind=.function
def eB.def (a:eB k m n o body):g9 k m n o body:=#[a.at_,a.lim,a.m6,a.pa,a.jf,a.un,a.bA,a.xM,a.fm,a.bZ,a.kind]
structure gJ (U:aW)(a8:iG)(args:Args)(dX:h)(X:aZ)(ds:dp)(aa:aS):Prop where
 go:∀(aK:cW)(bM:List (v×ba)->aS->Prop)(bv:bY),(∀a3 dR a,Q dR aa.heap->aO U (l dR X) a3 ds->bM (dX.zip a3) {aa with heap:=dR,toks:=a})->au U.M aK (hE a8 args) bM bv aa
def eB.ql (b:eB n w r o body)(a:aO n (l k.heap X) m ds)(c:o.length=ds.length):gJ n r #[m,[]] o X ds k:=.mk λe f g d=>by
 mspec b.rW m (by rw[a.length,c]);show bc<|d m k.heap k.toks (Q.bf _) a
def g9.BT (e:g9 w m k x body)
 (Si:dA B (n+1)) (Sj:Q (l r.heap X) w.B) (I:∀b∈X,∃o,r.heap.get? b=J o) (Sr:gJ w k args x X ds r) (Ss:x.length=ds.length) {h0:aX} (Sk:Q r.heap h0)
 (K:∀a∈own,a.1∈X/\bH w (l r.heap X) r.heap a.1 a.2) (St:∀a∈own,h0.get? a.1=ah) (Su:own.Pairwise λh Sv=>h.1≠Sv.1) {fr:Option (List b3)} {gen:Bool} (Sw:∀L,fr=J L->B.frames=J L)
 (Sx:∀q s i Sy,je (B.deeper<|bV k q m) n (bV k q m) fr->u #[h0,X,fr,gen] #[w,n,bV k q m,s,x.zip ds,own] i->Q i r.heap->(∀b∈s,b∈X\/r.heap.get? b=ah)->
  au w.M (B.deeper<|bV k q m) (execs body<|bV k q m) (λSz P=>Sf (.ok<| .ret (match Sz with| .ret Sg=>Sg|_=>.none)) P)
   (λH P=>au w.M (B.deeper<|bV k q m) (qb (bV k q m) H) (λA R=>Sf (.error H) R) (λSA R=>Sf (.error SA) R) P) {r with heap:=i,toks:=Sy}):hR w.M B (.call (.ref m) args) Sf r:=by
 show aY e.at_ λo q hd=>?_;have S:Q r.heap w.B:=Sj.trans l.of;show codeAny_call_function Si.w6 (S _ _ q) hd e.fm e.bZ e.pa (e.m6.keeps S)<|Sr.go _ _ _ λT C B t Sl=>?_;have U:((x.zip T).map (·.1))=x:=by show aJ (List.map_fst_zip<|aA (by rw[Sl.length,Ss]:T.length=x.length).symm) V
 mspec e.jf;show wpAny_newFunctionEnv_cells e.kind (λh q=>?_)<|λenv SB B h=>?_
 .show ay (e.un h.1<|U▸dI q) (λj=>?_) λW=>?_
  .show .inl j
  .show ao W λj h'=>?_;show .inr #[j,h' _]
 .subst SB;show#[((e.lim.keeps S).keeps t).keeps h.toInCall.keep,codeAny_func ?_];obtain⟨i,SD,rfl,_⟩:=h.done;have D:Q i C:=h.toInCall.keep;generalize SE:C.objs.size=LL at*;have Y:∀a∈(bV k LL m).cells,i.IsCell a.2 (bindC (bV k LL m).kindOf (x.zip T) (λA=>ah) a.1):=λa d=>
   h.cell a.1 a.2 (lookup_of_mem_nodup (cellsFrom_names k.scope.names 0 (LL+1) [] [] rfl▸e.xM) d)
  have Z:∀b,@m5 Nat _ LL b->C.get? b=ah:=λb v=>by
   cases f:C.get? b with
   |none=>rfl|some o=>show absurd (gk f)<|SE▸g7.mpr v
  have M:∀b,@m5 Nat _ LL b->r.heap.get? b=ah:=λb v=>by
   cases f:r.heap.get? b with
   |none=>rfl|some o=>have:=t b o f;show b6 (Z b v) this
  have Sm:∀b,@m5 Nat _ LL b->b∉X:=λb v c=>by show p (I b c) λo f=>?_;show b6 (M b v) f
  have Sn:∀b,@m5 Nat _ LL b->h0.get? b=ah:=λb v=>by
   cases f:h0.get? b with
   |none=>rfl|some o=>have:=Sk b o f;show b6 (M b v) this
  have E:∀a∈(bV k LL m).cells,@LT.lt Nat _ LL a.2:=λa d=>h.above a.1 a.2 d;generalize y:(LL::((bV k LL m).cells.map (·.2)))++X=s;have So:Q (l i s) (l C X):=λb o f=>by
   have Sh:=l.of _ _ f;show cb _ (D b o Sh) λc=>?_;replace c:=y▸c;show cL c (λc=>?_) λc=>?_
   .show ay (a5 c) (λF=>?_) λc=>?_
    .obtain rfl:=F;show b6 (Z _<|cg _) Sh
    .obtain⟨a,d,rfl⟩:=ck c;show b6 (Z _<|iC<|E a d) Sh
   .show b6 (cU _ c) f
  have Sp:Q (l i s) (l r.heap X):=(l.keep _ t).trans So;have SF:u #[h0,X,fr,gen] #[w,n,bV k LL m,s,x.zip ds,own] i:=
   {base:=Sj.trans Sp
    cw:=λb c=>by
     replace c:=y▸c;show cL c (λc=>?_) λc=>?_
     .show ay (a5 c) (λF=>?_) λc=>?_
      .obtain rfl:=F;show eY h.toInCall.ns λo A A H A=>?_;show dn o H
      .obtain⟨a,d,rfl⟩:=ck c;show aY (Y a d) λo H A=>?_;show dn o H
     .show p (I b c) λo H=>?_;show dn o (D _ _<|t _ _ H)
    d8:=λa d=>by
     show aY (Io Sl (ae:=a.1) (af:=a.2) d) λSg Sq k=>?_;show av Sg ?_<|k.keep So;have k:a.1∈x:=(List.of_mem_zip d).1;show ay (e.un a.1 k) (λj=>?_) λW=>?_
     .show .inl #[j,_,h.toInCall.ns,Il (by mspec U;show e.bA) Sq j]
     .show ao W λj h'=>?_;show p (xC.mp<|h'<|LL+1) λN O=>?_;show .inr<|fo N (.inl j) O ?_;have:=Y (a.1,N)<|mem_of_lookup O;rwa[Im (by mspec U;show e.bA) Sq j]at this
    G:=λa d=>#[y▸bB (K a d).1,(K a d).2.keep Sp<|t.trans D]
    kind:=e.kind
    de:=(Sk.trans t).trans D
    ns:=#[_,h.toInCall.ns]
    cells:=λa d=>#[_,Y a d]
    apart:=h.apart
    cn:=#[y▸bJ ap,λa d=>y▸bJ (g<|dI d)]
    ft:=λa d=>BU (E a d)
    new:=#[Sn _<|cg _,λa d=>Sn _<|iC<|E a d]
    cN:=λa d=>cH (St a d) (λf=>Sm _ (aA f.symm) (K a d).1) (λN O f=>Sm _ (iC<|f▸E N O) (K a d).1)
    dt:=Su
    sub:=λb c=>y▸bB c}
  show Sx LL s i SD #[Si.rE V rfl rfl (cg _),λL I=>rX<|Sw L I] SF (t.trans D) λb c=>by
   replace c:=y▸c;show cL c (λc=>?_) λc=>?_
   .show ay (a5 c) (λF=>?_) λc=>?_
    .obtain rfl:=F;show .inr<|M _<|cg _
    .obtain⟨a,d,rfl⟩:=ck c;show .inr<|M _<|iC<|E a d
   .show .inl c
def g9.uo (i:g9 w k m B body)
 (j:dA x (n+1)) (p:Q (l r.heap X) w.B) (q:∀s∈X,∃o,r.heap.get? s=J o) (t:gJ w m args B X ds r) (v:B.length=ds.length) (y:Q r.heap h0)
 (A:∀b∈own,b.1∈X/\bH w (l r.heap X) r.heap b.1 b.2) (C:∀b∈own,h0.get? b.1=ah) (D:own.Pairwise λE F=>E.1≠F.1) {gen:Bool} (G:∀h,fr=J h->x.frames=J h)
 (I:∀a d c e,je (x.deeper<|bV m a k) n (bV m a k) fr->u #[h0,X,fr,gen] #[w,n,bV m a k,d,B.zip ds,own] c->Q c r.heap->
  au w.M (x.deeper<|bV m a k) (execs body<|bV m a k) (λK f=>M (.ok<| .ret (match K with| .ret Sf=>Sf|_=>.none)) f)
   (λH f=>au w.M (x.deeper<|bV m a k) (qb (bV m a k) H) (λL g=>M (.error H) g) (λN g=>M (.error N) g) f) {r with heap:=c,toks:=e}):hR w.M x (.call (.ref k) args) M r:=
 i.BT j p q t v y A C D G λa d c e b f g L=>I a d c e b f g
def eB.call (f:eB m r M w body)
 (i:dA x (n+1)) (j:Q (l k.heap X) m.B) (p:∀q∈X,∃o,k.heap.get? q=J o) (s:aO m (l k.heap X) B ds) (g:w.length=ds.length) (t:Q k.heap h0)
 (u:∀a∈own,a.1∈X/\bH m (l k.heap X) k.heap a.1 a.2) (v:∀a∈own,h0.get? a.1=ah) (y:own.Pairwise λA C=>A.1≠C.1)
 {gen:Bool} (D:∀h,fr=J h->x.frames=J h) (E:∀d e,N #[h0,X,fr,gen] #[m,n,bV M d r,e,w.zip ds,own] body Sf)
 (F:∀c b,cs k b gen->Sf c b.heap->Sg (match c with| .ret Sh=>Sh|_=>.none) b):au m.M x (dV (.ref r) B) Sg Si k:=
 hS (f.def.uo (args:=#[B,[]]) i j p (f.ql s g) g t u v y D λd e h m q r a=>dr ((E d e).go _ {k with heap:=h,toks:=m} _ q r) (λc b d=>F c b (cs.up.trans d.1) d.2) λa a H=>H)
def eB.m7 {b:h}{body:List cC}{a:aW}(f:eB a k m b body){n:Nat}{e:i}(g:b.length=ds.length)
 (j:∀c d H,N H #[a,n,bV m c k,d,b.zip ds,[]] body (kX a H e)) {env:b3} {X:aZ} {Γ:bg} {own:List (T×i)}:bO #[a,n+1,env,X,Γ,own] (.ref k) ds e:=.mk λm b o q s e a k l=>
 f.call e a.base a.cw k g (h0:=b.heap) (Q.bf _) (own:=[]) (λb a=>nomatch a) (λb a=>nomatch a) (fr:=ah) (gen:=aj) .nil (λb a=>nomatch a) (λc d=>j c d _) λe a b r=>by
  show p r λc d=>?_;show eP d λe f=>?_;mspec b.eq;show l c a.heap a.toks e f
end
noncomputable abbrev a (U:aW):ht:=tu U.w.params
structure aR (U:aW):Prop where
 bD:(a U).In U.B
 kb:∃ak oK b oZ tU,Top ak oK b oZ tU U.B
noncomputable def bk (aT:T)(aw:ht):iG:=match aw.lookup aT with
 |J #[_,_,.func a8,_]=>a8|_=>default
noncomputable def cf (aT:T)(aw:ht):List cC:=match(bk aT aw).body with
 | .stmts al=>al|_=>[]
noncomputable def hT (al:List cC)(am:Nat):cC:=match al[am]? with
 |some aa=>aa|none=>.Pass default
noncomputable def qm (aT:c6->c6->List cC->dy->α)(bu:List cC->α)(an:List cC->List cC->α)(c0:α)(aa:cC):α:=wM aa (λa a a a a a a a a a=>c0) (λa a a a a a a a a a=>c0) (λa a a a a a a a a a a=>c0) (λa a=>c0) (λa a=>c0) (λa a a=>c0) (λa a a a a a a=>c0) (λa a a a=>c0) (λa a a a a=>c0) (λa2 L al a ak=>aT a2 L al ak) (λa a a a a=>c0) (λa al a a=>bu al) (λa al b a=>an al b) (λa a a=>c0) (λa a a=>c0) (λa a a=>c0) (λa a a=>c0) (λa a a a a=>c0) (λa a a a a=>c0) (λa a a=>c0) (λa a=>c0) (λa a a a=>c0) (λa a=>c0) (λa a=>c0) (λa a=>c0) (λa=>c0) (λa=>c0)<|λa=>c0
noncomputable def lC (al:List cC)(am:Nat):List cC:=qm (λa a al a=>al) (λal=>al) (λal a=>al) []<|hT al am
section
variable {U:aW}(aF:aR U)
include aF
def aR.eW (c:k.d=U)(d:nsIn (a U) iH m=J (J n))(e:k.I.kindOf m=J .globalImplicit)(f:k.I.globals=iH)(hd:(m==("__debug__":v))=aj):R k (.Name m pos) (.val n):=by
 show hy aF.kb λh i j g k b=>?_;show R.eW (oZ:=g) e (by mspec c;mspec f;show b.g) (mg_of aF.bD b.g d) hd
def aR.eZ (c:m.d=U)(d:nsIn (a U) iH k=J ah)(e:bootBuiltins k=J n)(f:k≠"__name__")(g:m.I.kindOf k=J .globalImplicit)(h:m.I.globals=iH)(i:m.I.builtins=xN)(hd:(k==("__debug__":v))=aj):R m (.Name k pos) (.val n):=by
 show hy aF.kb λm n o j l b=>?_;show R.HK (oZ:=j) (tU:=l) g (by mspec c;mspec h;show b.g) (mg_none_of aF.bD b.g d) (by mspec c;mspec i;show b.b) ((b.builtins k f).trans e) hd
def aR.fn (d:(a U).lookup k=J o)(hd:o.data=.func (bk k<|a U))(e:codeIn (a U) (bk k<|a U).code (bk k<|a U).qualname=z)(f:(bk k<|a U).body=.stmts body)(g:(bk k<|a U).closure=[])
 (h:∀b:cv,b.length=m.length->hE (bk k<|a U) #[b,[]]=pure (m.zip b))
 (i:∀c∈m,(bk k<|a U).scope.names.lookup c=J .local\/((bk k<|a U).scope.names.lookup c=J .cell/\∀j,((iA j (bk k<|a U).scope.names []).lookup c).isSome=z)) (l:m.Nodup)
 (n:((iA 0 (bk k<|a U).scope.names []).map (·.1)).Nodup) (p:(bk k<|a U).scope.isCoroutine=aj) (gen:(bk k<|a U).scope.isGenerator=aj) (q:(bk k<|a U).scope.kind=.function):eB U k (bk k<|a U) m body:=by
 show hy aF.kb λc j k m r b=>?_;show#[(av o (aF.bD _ _ d) hd),b.nolimit,codeRec_of aF.bD e,f,g,h,i,l,n,p,gen,q]
end
inductive qn (Y:be)(H:aP)(an:aX):Prop
 |mk (a:aZ) (b:∀al∈Y.X,al∈a) (c:u H #[Y.d,Y.O,Y.I,a,Y.q,Y.G] an):qn Y H an
abbrev rY (a8:iG)(ae:v):Prop:=a8.scope.names.lookup ae=J .local\/(a8.scope.names.lookup ae=J .cell/\∀am,((iA am a8.scope.names []).lookup ae).isSome=z)
section
variable {a8:iG}{ae bx c0 a9:v}{ag:h}
def hc:∀bx∈([]:h),rY a8 bx:=λb a=>nomatch a
def fi (a:a8.scope.names.lookup ae=J .local)(b:∀bx∈ag,rY a8 bx):∀bx∈ae::ag,rY a8 bx:=Iq.mpr #[.inl a,b]
def qo (a:a8.scope.names.lookup ae=J .cell)(b:∀c,((iA c a8.scope.names []).lookup ae).isSome=z)(d:∀bx∈ag,rY a8 bx):∀bx∈ae::ag,rY a8 bx:=Iq.mpr #[.inr #[a,b],d]
def Ir (b:hE a8 #[[],[]]=pure [])(a:cv)(c:a.length=([]:h).length):hE a8 #[a,[]]=pure (([]:h).zip a):=by
 cases n6.mp c;show b
def kY (c:∀a,hE a8 #[[a],[]]=pure [(ae,a)])(b:cv)(d:b.length=[ae].length):hE a8 #[b,[]]=pure ([ae].zip b):=by
 show p (xO.mp d) λa b=>?_;show bw b ?_;show c a
def qp {a:cv}(c:a.length=n+1):∃b r,a=b::r/\r.length=n:=by
 cases a with
 |nil=>cases c
 |cons b r=>show ix b r V<|Nat.succ.inj c
def qq (d:∀a b,hE a8 #[[a,b],[]]=pure [(ae,a),(bx,b)])(c:cv)(e:c.length=[ae,bx].length):hE a8 #[c,[]]=pure ([ae,bx].zip c):=by
 show cm (qp e) λa r c=>?_;show ci c λe=>?_;show p (xO.mp e) λb c=>?_;show bw c ?_;show d a b
def It (e:∀b c d,hE a8 #[[b,c,d],[]]=pure [(ae,b),(bx,c),(c0,d)])(a:cv)(f:a.length=[ae,bx,c0].length):hE a8 #[a,[]]=pure ([ae,bx,c0].zip a):=by
 show cm (qp f) λb g a=>?_;show ci a λf=>?_;show cm (qp f) λc g a=>?_;show ci a λf=>?_;show p (xO.mp f) λd a=>?_;show bw a ?_;show e b c d
def BV (f:∀b c d e,hE a8 #[[b,c,d,e],[]]=pure [(ae,b),(bx,c),(c0,d),(a9,e)])(a:cv)(g:a.length=[ae,bx,c0,a9].length):hE a8 #[a,[]]=pure ([ae,bx,c0,a9].zip a):=by
 show cm (qp g) λb h a=>?_;show ci a λg=>?_;show cm (qp g) λc h a=>?_;show ci a λg=>?_;show cm (qp g) λd h a=>?_;show ci a λg=>?_;show p (xO.mp g) λe a=>?_;show bw a ?_;show f b c d e
end
local macro_rules |`(tactic| mexact $t)=>`(tactic| (refine $t;all_goals try(with_reducible show N _ _ _ _);with_reducible dsimp only))
noncomputable def item (a2:v)(a:h):i:=.list [.str a2,.list<|a.map .str]
noncomputable def hU:List (v×h):=[("*",["*","**","***"]),(".",["?","[!b-a]","[z-y!]"]),("(?!)",["[b-a]","[c-ab-a]","[9-0]"]),("\\.",[".",".","."]),("[]]",["[]]","[]b-a]","[]z-y]"]),
 ("[^a-a]",["[!a-a]","[b-a!a-a]","[!b-aa-a]"]),("[a-c]",["[a-c]","[z-ya-c]","[a-cz-y]"]),("[\\^]",["[^]","[b-a^]","[^b-a]"])]
noncomputable abbrev fj:i:=.list<|hU.map λak=>item ak.1 ak.2
def du {n:Nat}(a:oN n 1000=z):n<=aD:=a6 (fR a) (by decide)
def n7 {k m n o}:R M (.List [.Constant (.str r) k Sf,.List [.Constant (.str w) m Sg,.Constant (.str x) n Sh,.Constant (.str B) o Si] Sj] Sk) (item r [w,x,B]):=
 R.list (W.cons R.cy (W.cons (R.list (W.cons R.cy (W.cons R.cy (W.cons R.cy W.nil V) V) V)<|du D) W.nil V) V) (du D)
section
variable {U:aW}
def Iu (b:aR U):eB U 203 (bk 203<|a U) [] (cf 203<|a U):=
 b.fn V rfl D V rfl (Ir<|by room) hc .nil .nil c c V
def Iv (n:Nat)(c:T)(X:aZ)(b:aP):N b #[U,n,bV (bk 203<|a U) c 203,X,[],[]] (cf 203<|a U) (kX U b fj):=by
 mexact N.ret<|R.of_eq (R.list (W.cons n7 (W.cons n7 (W.cons n7 (W.cons n7 (W.cons n7 (W.cons n7 (W.cons n7 (W.cons n7 W.nil V) V) V) V) V) V) V) V)<|du D) V
def Iw (a:aR U):bO #[U,n+1,env,X,Γ,own] (.ref 203) [] fj:=
 (Iu a).m7 V (λb c d=>Iv n b c d)
end
section
variable {cZ:i5}{cl:hu}{aK:cW}{bv:bY}{aa:aS}
def Ix (g:aK.handled=ah)(c:aa.heap.IsList n k.toArray)(d:rH k m)
 (h:∀h' a b,Q h' aa.heap->o (.int m.sum b) {aa with heap:=h',toks:=a}):au (b2 cZ cl) aK (dV (.builtin "sum") [.ref n]) o bv aa:=by
 show p d.allInts.items λe f=>?_;have i:m.sum=preSum (numAt e) e.size:=by
  show ch d.numsOf ?_;mspec show k=k.toArray.toList from rfl;mspec f;rw[nums_intItems,preSum_eq];show aJ (o5<|by simp) V
 rw[f]at c;show sum_intListG g c λh' a b d=>by show i▸h h' a b d
def Iy (u:aK.handled=ah)(i:aa.heap.IsList w x.toArray)(l:rH x k)(v:0<k.length)
 (A:∀h' b c d,Q h' aa.heap->b∈k->(∀f,f∈k->f<=b)->B (.int b c) {aa with heap:=h',toks:=d}):au (b2 cZ cl) aK (dV (.builtin "max") [.ref w]) B bv aa:=by
 show p l.allInts.items λa o=>?_;have g:k=a.toList.map (·.1):=by show ch l.numsOf ?_;rw[<-nums_intItems];show ch o V
 have q:0<a.size:=by have r:=v;rw[g,a7,rR]at r;show r
 rw[o]at i;show max_intList u i q λl h' d b k=>?_;show p (intItems_at b) λc i=>?_;show bw i ?_;show ao (argBest_gt (numAt a)<|a.size - 1) λb E=>?_;show A h' _ c d k ?_ λf h=>?_
 .mspec g;rw[numAt_eq];show getD_mem (by rw[a7];mspec rR;show bd [.j y t,.aL t C] 0 (.e y) C D b<|aA<|fa (n:=a.size) (m:=1)<|dL [.aL (.O 0) y] 0 (.O 1) y D q)
 .replace h:=g▸h;obtain⟨F,s,rfl⟩:=mem_getD h;rw[a7,rR]at s;rw[<-numAt_eq];show E F<|bd [.aL y t,.j t<| .e C] 0 y C D s<|e0<|cg<|a.size - 1
end
section
variable {Y:be}
def bO.len (b:as Y r (.list ds))(c:ds.length<2^62):bO Y (.builtin "len") [r] (.int ds.length):=.mk λa d i j k l f g h=>by
 show p g.one λi a=>?_;show ci a λg=>?_;show p (b.obj f g) λi a=>?_;show ci a λb=>?_;show aY b.eA λf g i=>?_;have a:f.toArray.size=ds.length:=by simpa using i.length
 show len_list (PlainList.fT g) (by mspec a;show bj [↑ds.length] [.aL A<| .O 4611686018427387904] 0 (.e A) (.O 9223372036854775808) D (el.mpr c:))<|a▸h _ d.heap _ (Q.bf _) (.int _ _)
def bO.sum {a:s}(b:as Y r (.list<|a.map .int)):bO Y (.builtin "sum") [r] (.int a.sum):=.mk λa g h i j c d e f=>by
 show p e.one λg a=>?_;show ci a λe=>?_;show p (b.obj d e) λg a=>?_;show ci a λb=>?_;show aY b.eA λe a d=>?_;show Ix c.handled (PlainList.fT a) d.mf λh' b g e=>f _ h' b e<| .int _ _
def bO.max {a:s}(d:as Y r (.list<|a.map .int))(b:k∈a)(e:∀c∈a,c<=k):bO Y (.builtin "max") [r] (.int k):=.mk λa o q t u f g h i=>by
 show p h.one λo a=>?_;show ci a λh=>?_;show p (d.obj g h) λc a=>?_;show ci a λc=>?_;show aY c.eA λg a d=>?_;show Iy f.handled (PlainList.fT a) d.mf (Iz b) λh' c g j l m n=>?_;obtain rfl:c=k:=gr (e _ m)<|n _ b;show i _ h' j l<| .int _ _
def bO.uq:bO Y (.type "range") [.int k] (.iy 0 k 1):=.mk λa b g h i j d e f=>by
 show p e.one λg a=>?_;show ci a λe=>?_;show p e.dh λg a=>?_;show bw a ?_;show call_range_1<|f _ _ _ (Q.push _ _)<| .iy (a2:=b.toks) (a9:=g) (aq:=b.toks+1) ?_;show l.l9 d _ c
def bO.IA:bO Y (.type "range") [.int k,.int m] (.iy k m 1):=.mk λa b g h i j d e f=>by
 show cm e.eV λg h a=>?_;show eP a λe g=>?_;show p e.dh λh a=>?_;show bw a ?_;show p g.dh λe a=>?_;show bw a ?_;show call_range_2<|f _ _ _ (Q.push _ _)<| .iy (a2:=h) (a9:=e) (aq:=b.toks) ?_;show l.l9 d _ c
def bO.tuple (e:as Y r (.list ds))(g:ds.length<=aD):bO Y (.type "tuple") [r] (.bR ds):=.mk λa b i j k m d f h=>by
 show p f.one λi a=>?_;show ci a λf=>?_;show p (e.obj d f) λi a=>?_;show ci a λf=>?_;show aY f.eA λa i e=>?_;show call_tuple_list (PlainList.fT i) (λh' f=>?_) (by simpa[e.length]using g);have g:Q (h'.push {cls:=.type "tuple",data:=.seq a.toArray}) b.heap:=Q.trans f<|Q.push _ _;show h _ _ b.toks g<| .bR (a3:=a) #[{cls:=.type "tuple",data:=.seq a.toArray},?_,V,0,V]<|e.keep<|l.keep _ g;show l.l9 (d.keep f) _ c
def fB (Y:be)(r:i)(a:v)(id:String):Prop:=
 ∀(aK:cW)(aa:aS)(bM:ba×cv->aS->Prop)(bv:bY)(aq:ba)(ii:ia Bool),cV Y aa.heap->bb Y.d (l aa.heap Y.X) aq r->bM (.builtin id,[aq]) aa->au Y.d.M aK (gK aq a ii) bM bv aa
def fB.str {id:String}(a:Slot "str" k id)(b:qr (.builtin id)=pure (.type "method_descriptor")):fB Y (.str ae) k id:=λe f g h i j k r c=>by
 obtain⟨e,rfl⟩:=r.dO;show qs (n8 _ _ _) IB a b (λe d=>by cases d) c
def fB.list {id:String}(a:as Y r (.list ds))(b:Slot "list" k id)(c:qr (.builtin id)=pure (.type "method_descriptor")):fB Y r k id:=λi j k l m o d r e=>by
 obtain⟨i,rfl,f⟩:=a.obj d r;show aY f.eA λd a i=>?_;have d:=a;show p d λn g=>?_;show qs (PlainList.fT a).typeIs IC b c (λd h=>by cases h;show av _ g V) e
def fB.dict {ds}{a:v}{id:String}(b:as Y r (.dict ds))(c:Slot "dict" a id)(d:qr (.builtin id)=pure (.type "method_descriptor")):fB Y r a id:=λa h i j k l e r f=>by
 obtain⟨a,rfl,g⟩:=b.obj e r;show gi g.o0 λb e a h i=>?_;show qs a.typeIs ID c d a.mapOf.noDict f
def R.jg {a:v}{id:String}{r b:i}(h:R Y o r)(p:fB Y r a id)(q:W Y pos (m::k) ds)(s:bO Y (.builtin id) (r::ds) b)
 (t:bh (m::k) Y.I=(aj,eval m Y.I)::bh k Y.I) (u:(cY pos<|bh k Y.I).any (·.1)=aj)
 (y:eval (.Call (.Attribute o a n) (m::k) [] pos) Y.I=(do
  let w <-eval o Y.I
  es n.atName
  let(B,first) <-e7 [w] (gK w a x)
  dP pos B first (cY pos<|bh (m::k) Y.I) [])):R Y (.Call (.Attribute o a n) (m::k) [] pos) b:=.mk λb f k c g d m=>
 jP (pl:=x) (h.go b f _ c g d λa n w e j=>p b {f with heap:=n,toks:=w} _ c a x (d.keep e) j
  (mh (first:=[a]) (q.go b _ _ c g (d.keep e) λn p w h x=>s.go b {f with heap:=p,toks:=w} k c (a::n) g ((d.keep e).keep h) (.cons (j.keep<|l.keep _ h) x) λa h' b f r=>m a h' b ((e.trans h).trans f) r) t u)) y
def bO.rZ (b:as Y r (.list<|j9.map .str))(c:(j9.map (·.length)).sum+j9.length*k.length<=16777216):bO Y (.builtin "str.join") [.str k,r] (.str<|dD k j9):=.mk λa d h i j k e f g=>by
 show cm f.eV λh i a=>?_;show eP a λf h=>?_;show p f.dO λi a=>?_;show bw a ?_;show p (b.obj e h) λf a=>?_;show ci a λb=>?_;show aY b.eA λf a e=>?_;show join_list (PlainList.fT a) e.strs c λf b=>g _ d.heap b (Q.bf _)<| .str _ _
def bO.BW {he:s}(h:as Y r (.list<|he.map .int))(i:k∈he)(j:he.length<2^62):bO Y (.builtin "list.index") [r,.int k] (.int (he.idxOf k:Nat)):=.mk λb l q u v w m f o=>by
 show cm f.eV λq u b=>?_;show eP b λq u=>?_;show p u.dh λf b=>?_;show bw b ?_;show p (h.obj m q) λu b=>?_;show ci b λh=>?_;show aY h.eA λd m q=>?_;show p m λn b=>?_;have c:=q.mf;have g:=c.length;have a:he.idxOf k<he.length:=IE.mpr i;show xP BX (av _ b V) PySem.F.entry_list_index (PySem.F.args_list_index_2 _ _)
  (list_indexAt u d.toArray n ah (aRR []) (.int k f) (isInt k) (he.idxOf k) (by simpa[g]using a) (bj [↑(BY k he),↑he.length] [.aL aC<| .O 4611686018427387904,.aL A aC] 0 (.e A) (.O 9223372036854775807) D (el.mpr j:) (el.mpr a:)) ?_ ?_) (cH b (λh i=>(eq_isInt k f c h<|by simpa using i).at _ _)<|o _ l.heap _ (Q.bf _)<| .int _ _)
 .show(?_:isInt k d[he.idxOf k]=z);mspec isInt_at k c _ (a6 a<|aA (g).symm) a;simpa using BZ a
 .intro b g f;show(?_:isInt k d[b]=aj);mspec isInt_at k c b g<|bd [.aL t C,.aL y t] 0 (.e y) C D a f;show ne_of_lt_idxOf f _
def bO.IF (c:as Y r (.dict m)):bO Y (.builtin "dict.get") [r,.int k,n] ((m.lookup k).getD n):=.mk λa d h j l n e b f=>by
 cases b with
 |cons g b=>
  show cm b.eV λj h a=>?_;show eP a λb i=>?_;show p b.dh λj a=>?_;show bw a ?_;show p (c.obj e g) λb a=>?_;show ci a λc=>?_;show gi c.o0 λn e a g l=>?_;show ao (aO.lookup g l k) λo q=>?_;show xQ qt a.typeIs IG (PySem.F.args_dict_get_3 _ _ _) (meets_dict_get_default (mS Y.d.prog Y.d.w) b (tY _ _ k j) e h)<|av _ a.mapOf<|f _ d.heap _ (Q.bf _) ?_;cases z:m.lookup k with
  |none=>show(o z)▸i|some s=>show aY (q s z) λc a b=>?_;show a▸b
end
def ur {c:Type}{d:c->i}{e:c->kS}(f:∀a,i.ja (d a) (e a))(b:List c):i.mV (b.map d) (b.map e):=by
 induction b with
 |nil=>show .nil|cons a b g=>show .cons (f a) g
def IH {c:Type}{d:c->kS}(e:∀a,(d a).canLay0=z)(b:List c):qu (b.map d)=z:=by
 induction b with
 |nil=>rfl|cons a b f=>rw[b8,qu,e a,f];rfl
def II {c:Type}{d:c->kS}{e:Nat}(f:∀a,(d a).depth<=e)(b:List c):qv (b.map d)<=e:=by
 induction b with
 |nil=>show ey _|cons a b g=>rw[b8,qv];show B0.mpr #[f a,g]
def IJ {d:Type}{a:d->kS}{am:Nat}(e:∀b,(a b).canLay0=z)(hd:∀b,(a b).depth<=am)(f:am<=60)(c:List d):jG (.list<|c.map a)=z:=by
 unfold jG;rw[n9];mspec IH e c;rw[us];show decide_eq_true ?_;rw[r0];show p0 (a6 (II hd c) f) D
theorem xR:∀a b:s,qw (a.map ut) (b.map ut)=z
 |[],[]=>rfl|[],_::_=>rfl|_::_,[]=>rfl|n::a,c::b=>by rw[b8,b8,qw,xR a b];rfl
section
variable {Y:be}
def iS.mf {b:i}{a:s}(c:as Y b (.list<|a.map .int)):iS Y b (.list<|a.map .int):=.inr<|f4 _ _ c (ur .int a) V
def uu (a:s):jG (.list<|a.map .int)=z:=IJ (am:=0) (λb=>rfl) (λb=>by rw[r0];show cg _) (by show ey _) a
def ax.B1 {b c:i}{a iI:s}(d:as Y b (.list<|a.map .int))(e:as Y c (.list<|iI.map .int)):ax Y .Eq b c (decide (a=iI)):=by
 have:=ax.Bo (iS.mf d) (iS.mf e) (uu a) (uu iI) (by rw[me];show xR a iI);rwa[Spec.same,same_ints]at this
def ax.r1 {a b:i}{he iI:s}(c:as Y a (.list<|he.map .int))(d:as Y b (.list<|iI.map .int)):ax Y .NotEq a b (decide (he≠iI)):=by
 have:=ax.Bp (iS.mf c) (iS.mf d) (uu he) (uu iI) (by rw[me];show xR he iI);rw[Spec.same,same_ints]at this;simpa[decide_not]using this
def R.kR {k pos m}:R Y (.UnaryOp .USub (.Constant (.int 1) k pos) m) (.int<| -1):=.mk λc a d e f g b=>
 wpAny_UnaryOp (HE<|by
  show PyProof.Rows.neg_int ?_;show b _ a.heap _ (Q.bf _)<| .int _ _)
end
section
variable {Y:be}{H:aP}
def E.xS {a:T}{am:Int}{bF:List (Int×i)}{bE b4:List (T×i)}{c:db}(q:R Y m af)(s:R Y r (.int am))(t:(k,.val (.ref a))∈Y.q)(hd:(k==("__debug__":v))=aj)(w:(k==("__classdict__":v))=aj)
 (h:Y.G=bE++(a,.dict bF)::b4) (x:bF.length<=aD) (y:f6 m (J<| .Subscript (.Name k B) r M) pos.line Y.I=pure aj):
 E Y H (.Assign [.Subscript (.Name k B) r M] m pos) (c2 (u H #[Y.d,Y.O,Y.I,Y.X,Y.q,bE++(a,.dict (ie bF am af))::b4]) c):=.mk λc k d e b=>by
 show B2 (q.go c k _ d e.todA b.tocV λA m r f C=>(R.name t hd w).go c _ _ d e.todA (b.tocV.keep f) λo k m g D=>s.go c _ _ d e.todA ((b.tocV.keep f).keep g) λk j m p F=>?_) y;obtain rfl:=D.is;obtain⟨G,rfl⟩:=F.dh;have c:=((b.keep f).keep g).keep p;show ao (c.G _ (show(a,.dict bF)∈Y.G from h▸bB ap)) λf d=>?_;show gi d.o0 λe k m b q=>?_;have r:e.length=bF.length:=by have:=congrArg fL b;simpa using this
 show B3 (tY _ _ am G) m (λh' s d=>#[.up,?_])<|r▸x;have e:Q (l h' Y.X) (l j Y.X):=l.mR λm o n r=>d.extBut m o (λt=>n<|t▸f) r;show(show u H #[Y.d,Y.O,Y.I,Y.X,Y.q,bE++(a,.dict bF)::b4] j from by show h▸c).kW d<| .dict k s (xJ b am A af)<|aO.xK ((C.keep<|l.keep _<|g.trans p).keep e) am b<|q.keep e
def E.append (s:R Y arg af)(a:(k,.val (.ref m))∈Y.q)(hd:(k==("__debug__":v))=aj)(d:(k==("__classdict__":v))=aj)
 (e:Y.G=bE++(m,.list ds)::b4) (t:ds.length<=aD) (j:mq Y.I=aj) (q:f6 (.Call (.Attribute (.Name k w) "append" x) [arg] [] r) ah pos.line Y.I=pure aj)
 (f:bh [arg] Y.I=(aj,eval arg Y.I)::bh [] Y.I)
 (y:eval (.Call (.Attribute (.Name k w) "append" x) [arg] [] r) Y.I=(do
  let B <-eval (.Name k w) Y.I
  es x.atName
  let(M,first) <-e7 [B] (gK B "append" Sf)
  dP r M first (cY r<|bh [arg] Y.I) [])):
 E Y H (.Expr (.Call (.Attribute (.Name k w) "append" x) [arg] [] r) pos) (c2 (u H #[Y.d,Y.O,Y.I,Y.X,Y.q,bE++(m,.list (ds++[af]))::b4]) Sg):=.mk λg k h i b=>by
 show oa (jP (pl:=Sf) ((R.name a hd d).go g k _ h i.todA b.tocV λo r w A C=>?_) y) j q;obtain rfl:=C.is;have a:=b.keep A;have j:(m,.list ds)∈Y.G:=e▸bB ap;show aY ((a.G _ j).2.eA) λk q b=>?_;show p q λn d=>?_;show B4 d V rfl (mh (first:=[.ref m]) ((W.cons s W.nil f).go g _ _ h i.todA a.tocV λx q y r w=>?_) f c);show p w.one λg f=>?_;show ci f λh=>?_;have f:=a.keep r;show ao (f.G _ j) λi a=>?_;show aY a.eA λk j b=>?_;show p j λn d=>?_;show uf d (λh' a j=>#[.up,?_]) (by simpa[b.length]using t);have d:u H #[Y.d,Y.O,Y.I,Y.X,Y.q,bE++(m,.list ds)::b4] q:=e▸f;have e:Q (l h' Y.X) (l q Y.X):=l.mR λf o n m=>a.extBut f o (λq=>n<|q▸i) m;show d.kW a (.list (a3:=k++[g]) #[n+1,by simpa using j]<|(b.append<| .cons h .nil).keep e)
def aN (Γ:bg)(eI:bg):Prop:=∀ak∈eI,ak∈Γ
def aN.nil:aN Γ []:=λb a=>nomatch a
def aN.cons (b:(k,af)∈Γ)(r:aN Γ m):aN Γ ((k,af)::m):=λc a=>by
 show gg a ?_ λa=>?_
 .show b
 .show r c a
def aN.bf (Γ:bg):aN Γ Γ:=λb a=>a
def aN.bl (d:aN Γ k)(b:v)(c:i):aN (bl b c Γ) (bl b c k):=λe a=>by
 unfold Mine.bl at a ⊢;show gg a ?_ λa=>?_
 .show ap
 .show ao (e9.mp a) λb c=>?_;show g<|e9.mpr #[d e b,c]
def aN.IK {b:bg}:∀{d Γ:bg},aN Γ d->aN (b.foldl (λΓ a=>Mine.bl a.1 a.2 Γ) Γ) (b.foldl (λΓ a=>Mine.bl a.1 a.2 Γ) d):=by
 induction b with
 |nil=>show λc=>c|cons a b e=>show λc=>e<|c.bl a.1 a.2
def aN.gp {a Γ:bg}(d:aN Γ a)(b:c6)(c:i):aN (gp b c Γ) (gp b c a):=d.IK
def N.dW (a:aN Y.q eI)(r:N H #[Y.d,Y.O,Y.I,Y.X,eI,Y.G] k m):N H Y k m:=N.qh (λc b=>b.eh a) r
def N.qx (a:aN Y.q k)(b:Y.G=m):N H Y [] (rV (u H #[Y.d,Y.O,Y.I,Y.X,k,m]) n o):=N.nil λh' c=>by
 subst b;show c.eh a
def N.xT (a:aN Y.q k)(b:Y.G=m):N H Y [] (rU (u H #[Y.d,Y.O,Y.I,Y.X,k,m]) n):=N.nil λh' c=>by
 subst b;show c.eh a
inductive xU (bP:Nat)(a:Nat->bg)(b:Nat->List (T×i)):Nat->bg->List (T×i)->Prop
 |mk (L:Nat) (c:L<=bP):xU bP a b (bP - L) (a L) (b L)
def E.xV (b:Nat)(c:Nat->bg)(d:Nat->List (T×i))(k:aN Y.q (c 0))(n:Y.G=d 0)
 (o:∀a,a<=b->a1 #[Y.d,Y.O,Y.I,Y.X,c a,d a] r (decide (a<b)))
 (p:∀a,a<b->N H #[Y.d,Y.O,Y.I,Y.X,c a,d a] body (rU (u H #[Y.d,Y.O,Y.I,Y.X,c<|a+1,d<|a+1])<|c2 (u H #[Y.d,Y.O,Y.I,Y.X,c b,d b]) w)):
 E Y H (.While r body [] pos) (c2 (u H #[Y.d,Y.O,Y.I,Y.X,c b,d b]) w):=by
 show E.qh (X:=Y.X) (Γ:=c 0) (own:=d 0) (λg e=>by show n▸e.eh k)<|E.um (Y:=#[Y.d,Y.O,Y.I,Y.X,c 0,d 0]) (ce:=xU b c d) b #[0,ey _] ?_;rintro k Γ own ⟨a,l⟩;show#[_,o a l,λj=>?_,λj g e=>?_]
 .have k:=f j;show(p a k).dQ λq g h=>?_;have m:u H #[Y.d,Y.O,Y.I,Y.X,c<|a+1,d<|a+1] g->ul #[Y.d,Y.O,Y.I,Y.X,c 0,d 0] H (qi (xU b c d)<|b - a) g:=λe=>#[_,_,#[_,By k<|fy a,#[a+1,k]],e];cases q with
  |next=>show m h|cont=>show m h|brk=>show h|ret c=>show h
 .obtain rfl:a=b:=c1 l<|g7.mp<|of_decide_eq_false j;show e
end
inductive B5 (Y:be)(H:aP)(al:List cC)(bU:db)(an:aX):Prop
 |mk {X:aZ} {Γ:bg} {own:List (T×i)} (a:u H #[Y.d,Y.O,Y.I,X,Γ,own] an) (bu:N H #[Y.d,Y.O,Y.I,X,Γ,own] al bU):B5 Y H al bU an
section
variable {Y:be}{H:aP}
def N.seq {a:cC}(b:E Y H a (c2 (B5 Y H m k) k)):N H Y (a::m) k:=N.cons b λb c=>by
 cases c with|@mk X Γ own a d=>show eQ #[Y.d,Y.O,Y.I,X,Γ,own] H V rfl rfl rfl rfl a d
def N.r2 (d:∀a:db,(∀b c,k b c->a b c)->N H Y m a):N H Y m k:=d k λa a b=>b
end
noncomputable def qy:Nat->bg->Option w4
 |_,[]=>ah|0,ak::_=>J ak|n+1,_::ag=>qy n ag
def bo {Γ:bg}{c:v×i}(b:Nat)(a:qy b Γ=J c):c∈Γ:=by
 induction b generalizing Γ with
 |zero=>match Γ,a with|_::_,a=>injection a with a;rw[<-a];show ap
 |succ b d=>match Γ,a with|_::_,a=>show g<|d a
noncomputable def xW (Γ:bg):bQ->bg
 |[]=>[]|L::a=>match qy L Γ with
  |some ak=>ak::xW Γ a|none=>[]
def aN.cI {Γ b:bg}(a:bQ)(d:b=xW Γ a):aN Γ b:=by
 subst d
 induction a with
 |nil=>show aN.nil|cons c a e=>
  show(?_:aN Γ (match qy c Γ with|some f=>f::xW Γ a|none=>[]));split
  .show aN.cons (bo c<|by assumption) e
  .show aN.nil
noncomputable def B6 (L:Nat)(Γ:bg):Option w4:=(qy L Γ).elim ah λak=>bif ak.1==("__debug__":v)||ak.1==("__classdict__":v)then ah else J ak
def R.K (g:Nat){c:v}{h:be}{d:i}{pos}(a:B6 g h.q=J (c,d)):R h (.Name c pos) d:=by
 unfold B6 at a;cases e:qy g h.q with
 |none=>rw[e]at a;cases a
 |some f=>
  rw[e]at a;cases b:f.1==("__debug__":v)||f.1==("__classdict__":v)with
  |true=>show nomatch (b▸a:(bif z then ah else J f)=J (c,d))|false=>
   obtain rfl:=fS (b▸a:(bif aj then ah else J f)=J (c,d));show ao (B7.mp b) λa c=>?_;show R.name (bo g e) a c
def xX {a:v}:(a,k)∈bl a k Γ:=ap
def IL:k∈k::Γ:=ap
def f7 {b:be}:∀a∈([]:bg),a∈b.q/\hB b.I k m a.1:=λa b=>nomatch b
def gv {a:be}(d:(k,o)∈a.q)(e:a.I.cells.lookup k=n.lookup k)(f:a.I.kindOf k=J .cell\/a.I.kindOf k=J .free)(g:(mZ m a.I).names.lookup k=J .cell\/(mZ m a.I).names.lookup k=J .free)
 (r:∀b∈w,b∈a.q/\hB a.I m n b.1):∀b∈(k,o)::w,b∈a.q/\hB a.I m n b.1:=λb c=>by
 show ay (a5 c) (λh=>?_) λc=>?_
 .obtain rfl:=h;show l6 d e f g
 .show r b c
def hg {a:Type}{ds:List a}{b:v}{f:a->i}{c:List (v×NameKind)}(g:c.lookup b=J .local):∀d∈ds,∀e∈[(b,f d)],c.lookup e.1=J .local:=λd b e a=>by show(bX a)▸g
def uv {d:Type}{ds:List d}{e f:v}{h j:d->i}{a:List (v×NameKind)}(k:a.lookup e=J .local)(h':a.lookup f=J .local):∀b∈ds,∀g∈[(e,h b),(f,j b)],a.lookup g.1=J .local:=λb a g c=>by
 show ay (a5 c) (λl=>?_) λc=>?_
 .obtain rfl:=l;show k
 .show(bX c)▸h'
def B8 (ds:List k)(c a d:Option Int):(fg ds c a d).length<=ds.length:=by
 unfold fg;have:=slicePick_size_le (ds.map λf=>nU).toArray c a d;unfold p8 at this;simp only[o1,a7]at this;show a6 (aA ?_) this;have g:∀b:bQ,(b.filterMap (ds[·]?)).length=(b.filterMap ((ds.map λf=>nU).toArray[·]?)).length:=by
  intro b
  induction b with
  |nil=>rfl|cons h b e=>
   by_cases a:h<ds.length
   .simp[r3,a,e]
   .simp[r3,a,e]
 show g _
def jh {c:Type}(a:List c):a.filter (λb=>z)=a:=xY.mpr λb b=>D
def kZ (a:k->m)(ds:List k)(b c d:Option Int):fg (ds.map a) b c d=(fg ds b c d).map a:=by
 unfold fg;rw[a7];mspec List.map_filterMap;congr 1;funext i;simp
def r4 {d:Type}(a:List d)(b c:Option Int):fg a b c ah=(a.drop<|b.elim 0<|r5 a.length).take (c.elim a.length (r5 a.length) - b.elim 0 (r5 a.length)):=by
 unfold fg;rw[sliceBounds_plain];simp only[sliceRange_one];simpa using(pick_run a.toArray (b.elim 0<|r5 a.length)<|c.elim a.length (r5 a.length) - b.elim 0 (r5 a.length))
def r6 {d:Type}(b:List d)(c:Nat):fg b (J (c:Int)) ah ah=b.drop c:=by
 rw[r4];simp only[uw,ux];show ay (B9 c b.length) (λa=>?_) λa=>?_
 .mspec qz a;show aJ (o5<|by simp) V
 .mspec Ca a;mspec Cb (by simp);mspec Cb a;simp
def Cc {b:Type}(a:List b):fg a (J 1) ah ah=a.drop 1:=r6 a 1
def xZ {d:Type}(b:List d)(c:Nat):fg b ah (J (c:Int)) ah=b.take c:=by
 rw[r4];simp only[uw,ux,qa,uy];show ay (B9 c b.length) (λa=>?_) λa=>?_
 .show aJ (qz a) V
 .mspec Ca a;mspec o5 (by simp);show aJ (o5 a) V
def IM {b:Type}(a:List b):fg a ah (J<| -1) ah=a.take (a.length - 1):=by
 rw[r4];simp only[uw,qa,uy];mspec(V:((-1:Int))= -((1:Nat):Int));show aJ (clipAt_neg a.length 1<|by simp+arith) V
def IN {c:Type}(a:List c):fg a (J 1) (J<| -1) ah=(a.drop 1).take (a.length - 2):=by
 rw[r4];have d:=ux a.length 1;simp only[uw];mspec(V:((-1:Int))= -((1:Nat):Int));mspec clipAt_neg a.length 1<|lq [] [] 0 (.O 1) (.O 1) D;mspec(V:((1:Int))=((1:Nat):Int));mspec d;show ay (r7 a.length 1) (λb=>?_) λb=>?_
 .have:a=[]:=n6.mp<|c1 (dL [.aL y<| .O 1] 0 y (.O 0) D b)<|ey _;subst this;simp
 .mspec qz b;congr 1
noncomputable abbrev bG:=List<|Int×Int
noncomputable abbrev iV (ak:Int×Int):i:=.list [.int ak.1,.int ak.2]
noncomputable abbrev eo (r:bG):i:=.list<|r.map iV
noncomputable def m8 (a:s)(am:Nat):Int:=[14988,48492,9652,5096,232].getD am 0+((fg a (J (am:Int)) ah<|J 5).map λae=>i9 ae<|10^12).sum
noncomputable def kc (a:s)(am:Nat):Int:=if i9 (m8 a am) 4=3 then 8 else 3+am
noncomputable def lD (a:s)(am:Nat):s:=(en 0 (if am<3 then 3 else 2)).map λb=>i9 (lx (lx (m8 a am) 12)<|24^b.toNat) 24
noncomputable def qA (a:s)(am:Nat):bG:=(3+(am:Int),i9 (lx (m8 a am) 4) 3)::(lD a am).map λb=>(i9 (lx b 3)<|kc a am,i9 b 3)
section
variable {U:aW}
def x0 (b:aR U):eB U 208 (bk 208<|a U) ["script","k"] (cf 208<|a U):=
 b.fn V rfl D V rfl (qq λd e=>by room)
  (fi V<|fi V hc) (f D) (by decide:(["kinds","n"]:h).Nodup) c c V
def IO (a:k<5):(([.int 14988,.int 48492,.int 9652,.int 5096,.int 232]:dp))[k]?=J (.int<|[14988,48492,9652,5096,232].getD k 0):=
 (AX V rfl rfl rfl rfl:∀k:Nat,k<5->(([.int 14988,.int 48492,.int 9652,.int 5096,.int 232]:dp))[k]?=J (.int<|[14988,48492,9652,5096,232].getD k 0)) k a
def uz (c:k.natAbs<2^30):w8 m k=aj:=by
 unfold w8;have b:k.natAbs.log2<30\/k.natAbs=0:=by
  by_cases a:k.natAbs=0
  .show .inr a
  .show .inl<|(Nat.log2_lt a).mpr c
 have:¬((if(k==0)=z then 0 else k.natAbs.log2/30+1)>300):=by
  split
  .decide
  .show ay b (λb=>?_) λb=>?_
   .lia
   .rename_i a;simp at a;(exfalso;lia)
 show(?_:(decide (_>300)&&_)=aj);mspec decide_eq_false this;rfl
noncomputable abbrev IP:=λ(a:s) (am:Nat)=>([("script",.list (a.map .int)),("k",.int am)]:bg)
def IQ (q:aR U)(n:Nat)(t:T)(X:aZ)(h:aP)(e:s)(d:Nat)(u:d<5)(v:e.length<=1000):
 N h #[U,n,bV (bk 208<|a U) t 208,X,IP e d,[]] (cf 208<|a U) (kX U h<|eo<|qA e d):=by
 mexact N.br (E.assign (af:=.int<|m8 e d) ?_ (.inr #[V,D]) V) ?_
 .show R.add (R.item (R.list (W.cons R.bK (W.cons R.bK (W.cons R.bK (W.cons R.bK (W.cons R.bK W.nil V) V) V) V) V)<|du D) (R.K 1 V)<|b7.list as.list (IO u)<|by show b1) ?_;show R.jH (ds:=[_]) (q.eZ V rfl (by room) (f D) V rfl rfl (f D)) (W.cons ?_ W.nil V) (bO.sum as.list) V c V;show R.of_eq (af:=.list<|((fg e (J (d:Int)) ah<|J 5).filter λb=>z).map λk=>i.int<|i9 k<|10^12) ?_ (by rw[jh];mspec d9;rfl);show R.iD (dE:=i.int) (cP:=λk=>[("x",.int k)]) [] (λb=>z) _ V (f D) V (f D) (r:=.list<|(fg e (J (d:Int)) ah<|J 5).map .int) ?_ (cA.list (.inl<|dN _ _ V) as.list) ?_ (λl b=>.name _ _ _) (hg V) f7 ?_ ?_ (λb=>rfl)<|λb b b b=>c
  .rw[<-kZ];show R.jE (R.K 0 V) as.list (R.K 1 V) V R.bK (.int _) .none (.int _) (f D) (by rw[a7];unfold aD;show b1)
  .unfold aD;show dG (a6 (B8 e (J (d:Int)) ah<|J 5) v) D
  .show λo Z l b=>rfl
  .show λo Z l b b=>R.p6 (R.K 0 V) (R.Bb (n:=12) R.bK R.bK (by simp+arith)<|f D)<|f D
 mexact N.br (E.assign (af:=.int<|kc e d) ?_ (.inr #[V,D]) V) ?_
 .show R.kP (al:=decide (i9 (m8 e d) 4=3)) (a1.bL (R.p6 (R.K 0 V) R.bK<|f D) R.bK ax.eq c) (λh=>?_)<|λh=>?_
  .show R.of_eq R.bK (by rw[kc];show aJ (if_pos<|f h) V)
  .show R.of_eq (R.add R.bK<|R.K 2 V) (by rw[kc];show aJ (if_neg<|of_decide_eq_false h) V)
 mexact N.br (E.xH (ds:=en 0 (if d<3 then 3 else 2)) (dE:=i.int) (cP:=λk=>[("place",.int k)]) [("n",.int (m8 e d))] (λb=>z)
  (λp=>.int<|i9 (lx (lx (m8 e d) 12)<|24^p.toNat) 24) (.inl V) V rfl (f D) V (f D) (r:=.iy 0 (if d<3 then 3 else 2) 1) ?_ ?_ ?_ (λl b=>.name _ _ _) (hg V)
  (gv (bo 1 V) V (.inl V) (.inl V) f7) (λb b b b=>rfl) (λo Z l hd b=>?_) (λb=>rfl) (λb b b b=>c)) ?_
 .show R.mX (ds:=[.int (if d<3 then 3 else 2)]) (q.eZ V rfl (by room) (f D) V rfl rfl (f D)) (W.cons ?_ W.nil V) bO.uq V c V;show R.kP (al:=decide ((d:Int)<3)) (a1.bL (R.K 3 V) R.bK ax.lt c) (λh=>?_)<|λh=>?_
  .show R.of_eq R.bK (by show aJ (if_pos (by have:=f h;show el.mp ‹_›)) V)
  .show R.of_eq R.bK (by show aJ (if_neg (by have:=of_decide_eq_false h;show λq=>oP [.j (.O 3) y,.aL y<| .O 3] D (dH.mp<|oQ.mp<|of_decide_eq_false h) q)) V)
 .show cA.rO (by show f2 _) (by show f2 _) (by split<;>show f2 _) (by split<;>show f2 _)
 .simp only[en,a7,jQ];unfold aD;split<;>decide
 .obtain⟨g,m,rfl⟩:∃g:Nat,g<3/\l=(g:Int):=by
   simp only[en,iv,iW]at hd;obtain⟨g,m,rfl⟩:=hd;show av g ?_ (by simp+arith);split at m<;>show b1
  have h:(24:Int)^g≠0:=(jC (by decide) (jC (by decide)<|jC (by decide) wX):∀g:Nat,g<3->(24:Int)^g≠0) g m;have q:((24:Int)^g).natAbs<2^30:=(jC (by decide) (jC (by decide)<|jC (by decide) wX):∀g:Nat,g<3->((24:Int)^g).natAbs<2^30) g m;show R.p6 (R.fdiv (R.fdiv (R.K 1 V) R.bK (f D)<|uz<|f D) (R.Bb (n:=g) R.bK (R.K 0 V) (dL [.aL y<| .O 3] 0 y (.O 1000000) D m)<|f D) h<|uz q) R.bK<|f D
 rw[jh];mspec(by rw[lD,d9];rfl:(en 0 (if d<3 then 3 else 2)).map (λp=>i.int<|i9 (lx (lx (m8 e d) 12)<|24^p.toNat) 24)=(lD e d).map i.int);mexact N.ret<|R.of_eq (R.o3 (ac:=[iV (3+(d:Int),i9 (lx (m8 e d) 4) 3)]) (al:=((lD e d).filter λb=>z).map λg=>iV (i9 (lx g 3)<|kc e d,i9 g 3)) ?_ ?_ as.list as.list ?_) ?_
 .show R.list (W.cons (R.list (W.cons (R.add R.bK<|R.K 4 V) (W.cons (R.p6 (R.fdiv (R.K 2 V) R.bK (f D)<|uz<|f D) R.bK<|f D) W.nil V) V)<|du D) W.nil V)<|du D
 .show R.iD (dE:=i.int) (cP:=λk=>[("digit",.int k)]) [("kinds",.int (kc e d))] (λb=>z) _ V (f D) V (f D) (r:=.list<|(lD e d).map .int) (R.K 0 V) (cA.list (.inl<|dN _ _ V) as.list) ?_ (λl b=>.name _ _ _) (hg V)
   (gv (bo 1 V) V (.inl V) (.inl V) f7) (λb b b b=>rfl) (λo Z l hd b=>?_) (λb=>rfl) (λb b b b=>c)
  .have:(lD e d).length<=3:=by simp only[lD,en,a7,jQ];split<;>decide
   unfold aD;show b1
  .have w:kc e d≠0:=by unfold kc;split<;>simp+arith
   show R.list (W.cons (R.p6 (R.fdiv (R.K 0 V) R.bK (f D)<|uz<|f D) (R.K 1 V) w) (W.cons (R.p6 (R.K 0 V) R.bK<|f D) W.nil V) V)<|du D
 .have:(lD e d).length<=3:=by simp only[lD,en,a7,jQ];split<;>omega
  rw[jh,a7];unfold aD;simp only[gw];show dL [.j y<| .O 3] 0 (.S (.O 1) y) (.O<|2^24) D this
 .rw[jh];simp only[eo,qA,b8,d9,IR];rfl
def IS (c:aR U)(a:s)(b:Nat)(d:b<5)(e:a.length<=1000):bO #[U,n+1,env,X,Γ,own] (.ref 208) [.list<|a.map .int,.int b] (eo<|qA a b):=
 (x0 c).m7 V (λf g h=>IQ c n f g h a b d e)
end
section
variable {Y:be}
def cV.cell {b:jN}{f:List (v×T)}{o g:T}{Z:aZ}{j:bg}{h:aX}{c:v}{k:ba}{q:i}(d:cV (Mine.eR Y b f o Z<|[]++j) h)(s:(mZ b Y.I).names.lookup c=J .cell)(t:h.IsCell g (J k))(u:bb Y.d (l h Z) k q)
 (r:∀a∈j,hB Y.I b f a.1/\a.1≠c):cV (Mine.eR Y b ((c,g)::f) o Z<|(c,q)::j) h:=
 {base:=d.base,cw:=d.cw,G:=d.G,kind:=d.kind
  d8:=λa e=>by
   rcases a5 e with rfl|e
   .show av k (.inr<|fo g (.inl s) (by simp[jO]) t) u
   .show(d.d8 a e).imp λj h=>#[?_,h.2];show ay h.1 (λd=>?_) λw=>?_
    .show ao d λm h=>?_;rcases(r a e).1.2.2 with n|n<;>rw[(show(mZ b Y.I).names.lookup a.1=J .local from m)]at n<;>cases n
    .show p w λb d=>?_;show cd d λm h j=>?_;show .inr<|fo b m ?_ j;show(?_:tO a.1 ((c,g)::f)=J b);mspec fz;mspec beq_eq_false_iff_ne.mpr (r a e).2;show h}
def IT {H iter:c6}{b:v}{I:dy}{K:h6}{f:jN}{pos:dy}{q:List (v×T)}{r:i}{B:Type}{ds:List B}{C:B->i}(D:bg)(y:B->Bool)(E:B->i)
 (Sp:iT f Y.I=pure q) (Sq:∀n,iA n f.names q=(b,n)::q) (Sr:∀d,n4 d f.names=d.push {cls:=.type "cell",data:=.cell ah}) (W:(mZ f Y.I).names.lookup b=J .cell) (L:f.kind=.function) (Ss:∀X∈f.names,X.2=.local->f.names.lookup X.1=J .local)
 (St:R Y iter r) (Su:cA Y (.Name b I) r (ds.map C)) (Sv:ds.length<=aD)
 (M:∀s∈D,s∈Y.q/\hB Y.I f q s.1/\s.1≠b)
 (Sw:∀a h Z j,j∈ds->mj (eR Y f ((b,h)::q) a Z<|(b,C j)::D) K (y j))
 (Sx:∀a h Z j,j∈ds->y j=z->R (eR Y f ((b,h)::q) a Z<|(b,C j)::D) H (E j))
 (Sy:∀b,iB iter Y.I b=pure b) (Sz:∀u it A env,(jL (.ListComp H [#[.Name b I,iter,K,0]] f pos) u it A env).isFrame=aj) {SA:dy}
 {N:cW} {w:aS} {Sf:bY} {ic:Option (ba->ia Unit)} {Sg:bY} (O:dA N Y.O) (Sh:cV Y w.heap)
 (SB:∀d P S k a,w.heap.get? a=ah->w.heap.get? k=ah->k≠a->Q d w.heap->d.Ns a S->fA Y.d (a::Y.X) d k ((ds.filter y).map E)->xy Y.d.M N Sf ic Sg (.ref k) a (.ok .next) {w with heap:=d,toks:=P}):
 au Y.d.M N (xz (.ListComp H [#[.Name b I,iter,K,0]] f pos) f Y.I SA (uc []) aj (eval iter Y.I) ic) Sg Sf w:=by
 show ub Sp Sq L Ss (.of St Su) Sy O Sh λH I Si K N X Sf w a k F B it m SD=>?_;have Sj:=m.kU a<|m.kV▸lB _;have SE:=m.kU k<|cg _;have Sk:=m.kU (a+1)<|m.kV▸Nat.le_succ_of_le (lB _);have Sl:k≠a:=m.kV▸g6 (fy _);have Sm:k≠a+1:=m.kV▸g6 (qc<|fy _);have SF:a≠a+1:=g6<|fy _;have SG:a<=a+1:=lB _;have SH:(n4 w f.names).IsCell (a+1) ah:=by rw[Sr];show ch B ?_;show av _ (dM _ c) V
 generalize a+1=h at*;show xA it m SD O.handled [a,h] (λSn e=>by rcases a5 e with rfl|e;show cg _;show kI e SG) (λd=>(∃e,d.Ns a e)/\∃G,d.IsCell h G) #[#[_,m.ns],#[_,SH]]
  (λd h' b u=>#[b.1.imp λe t=>t.at' λo g=>u _ o (eO Sj.2.2.symm) g,b.2.imp λG b=>b.imp λo b=>#[u _ _ (eO Sk.2.2.symm) b.1,b.2]])
  (λd b Sn e=>by
   show ay (a5 e) (λSI=>?_) λe=>?_
   .obtain rfl:=SI;show p b.1 λe t=>?_;show eY t λo x x g x=>?_;show dn o g
   .mspec bX e;show gh b.2 λG o g x=>?_;show dn o g) (o:=kT y E ds) V (BG _ _ _ _ _ _ _ _ _) (Sz _ _ _ _) V (λm j w SJ B hd So SK U SL SM A=>?_) λd P u U A=>?_
 .show ao U λm w=>?_;show p w λG SN=>?_;show p m λe t=>?_;show iz (H9 (env:=jO f ((b,h)::q) a Y.I) L W (by simp[jO]) SN λH B I=>?_);have m:cO [h] SJ.heap H:=λw o n g=>I.extBut w o (λG=>n<|G▸kF.mpr V) g;have K:H.Ns a e:=t.sameBut I SF;have H:=l.fK (Z:=[Si,k,a,h]++Y.X) m<|h7 tw;show xB (Y:=eR Y f ((b,h)::q) a ([Si,k,a,h]++Y.X)<|(b,C j)::D) (cV.cell ((Sh.keep F).eR (cP:=[]) (λw o g=>m w o (eO λG=>b6 Sk.1<|G▸g)<|SK w o g) (ue SL m (by show aY B λo g x=>?_;show dn o g)) L K (λx d=>nomatch d) (λx d=>nomatch d) λs b=>#[(M s b).1,(M s b).2.1]) W B (SM.keep H) λs b=>(M s b).2) O (Sw a h _ j So) (Sx a h _ j So) (A.fK m (eO Sm)<|h7 tw) (a6 BD Sv) ap l0
   (λh' b=>#[#[e,K.at' λo g=>b _ o (eO Sl.symm) g],#[_,by show aY B λo g hd=>?_;show av o (b _ _ (eO Sm.symm) g) hd]]) (m.dQ<|h7 i6) (BC hd)
 .show p U.1 λS t=>?_;show SB d P S k a (ls F Sj.1) (ls F SE.1) Sl (F.trans u) t ((show kT y E ds ds.length=_ from by unfold kT;show aJ iU V)▸A.sub λSn e=>gg e i6 λe=>bB e)
def R.IU {k iter:c6}{a:v}{l:dy}{m:h6}{b:jN}{pos:dy}{d:List (v×T)}{r:i}{f:Type}{ds:List f}{dE:f->i}(g:bg)(h:f->Bool)(o:f->i)
 (w:iT b Y.I=pure d) (x:∀n,iA n b.names d=(a,n)::d) (y:∀p,n4 p b.names=p.push {cls:=.type "cell",data:=.cell ah}) (A:(mZ b Y.I).names.lookup a=J .cell)
 (B:b.kind=.function) (C:∀u∈b.names,u.2=.local->b.names.lookup u.1=J .local)
 (D:R Y iter r) (E:cA Y (.Name a l) r (ds.map dE)) (F:ds.length<=aD)
 (G:∀e∈g,e∈Y.q/\hB Y.I b d e.1/\e.1≠a)
 (H:∀j q Z c,c∈ds->mj (eR Y b ((a,q)::d) j Z<|(a,dE c)::g) m (h c))
 (I:∀j q Z c,c∈ds->h c=z->R (eR Y b ((a,q)::d) j Z<|(a,dE c)::g) k (o c))
 (L:∀a,iB iter Y.I a=pure a) (M:∀s it t env,(jL (.ListComp k [#[.Name a l,iter,m,0]] b pos) s it t env).isFrame=aj):
 R Y (.ListComp k [#[.Name a l,iter,m,0]] b pos) (.list<|(ds.filter h).map o):=.mk λc d f k b a e=>by
 rw[uj];show IT (ic:=ah) g h o w x y A B C D E F G H I L M b a ?_;intro p c d b j f g h s k t;show av d k<|λj b=>e _ j c (ui s b f)<|t.uh b h<|mm a g
def N.IV {h:aP}{j:v}{M O:dy}{k:c6}{q x f:Option c6}{P pos:dy}{n:List cC}{y:db}{r A B C:i}{d e b:Option Int}{ds:dp}(S:R Y k r)(T:as Y r (.list ds))(U:md Y q A)(W:md Y x B)(X:md Y f C)
 (Z:jF A d) (Sf:jF B e) (Sg:jF C b) (h0:b≠J 0) (Sh:ds.length<=aD) (Si:fM Y.I j)
 (Sj:∀a,a∉Y.X->a∉h.cB->N h #[Y.d,Y.O,Y.I,a::Y.X,bl j (.val<| .ref a) Y.q,(a,.list (fg ds d e b))::Y.G] n y):
 N h Y (.Assign [.Name j M] (.Subscript k (.Slice q x f P) pos) O::n) y:=
 N.cons (aw:=λD=>∃a,a∉Y.X/\a∉h.cB/\u h #[Y.d,Y.O,Y.I,a::Y.X,bl j (.val<| .ref a) Y.q,(a,.list (fg ds d e b))::Y.G] D)
  (.mk λq x y j f=>by
   show o9 (xd<|S.go q x _ y j.todA f.tocV λC A M k B=>Bm<|U.run j.todA (f.tocV.keep k) λE x C q y=>W.run j.todA ((f.tocV.keep k).keep q) λF M O x C=>X.run j.todA (((f.tocV.keep k).keep q).keep x) λG H P M O=>?_) V;have j:Q (H.push {cls:=.type "slice",data:=.fields (aRR [E,F,G])}) A:=((q.trans x).trans M).trans<|Q.push _ _;have s:=(f.keep k).keep j;show p (T.obj s.tocV<|B.keep<|l.keep _ j) λa k=>?_;show ci k λq=>?_;show aY q.eA λg j t=>?_;show tV (PlainList.fT j).typeIs xe.lookup (HP (PlainList.fT j) (HQ _ _ _ _) (Z.g3 y) (Sf.g3 C) (Sg.g3 O) h0 ?_<|by simpa[t.length]using Sh)<|tX _ _ _;dsimp only;generalize j:H.push {cls:=.type "slice",data:=.fields (aRR [E,F,G])}=Hs at*;have m:=s.iF d3;have I:(Hs.push {cls:=.type "list",data:=.seq<|p8 g.toArray d e b}).get? Hs.objs.size=J {cls:=.type "list",data:=.seq<|p8 g.toArray d e b}:=dM _ c;have Sk:Q (l (Hs.push {cls:=.type "list",data:=.seq<|p8 g.toArray d e b})<|Hs.objs.size::Y.X) (l Hs Y.X):=λn o K=>by
    have L:=l.of _ _ K;show cb _ (gj _ L) λw=>?_;show ay (a5 w) (λSl=>?_) λw=>?_
    .obtain rfl:=Sl;show b6 d3 L
    .show b6 (cU _ w) K
   have Sm:=(s.gI d3 #[_,I]<|Q.push _ _).ig (af:=.list<|fg ds d e b) ap (.list (a3:=(Bk (nV d e b g.length).1 (nV d e b g.length).2.1 (nV d e b g.length).2.2).filterMap (g[·]?)) #[0,by mspec I;simp[p8]]<|by
    mspec t.length;show(t.keep Sk).filterMap _) m.2.2.1 (show Hs.objs.size∉d5 #[Y.d,Y.O,Y.I,Hs.objs.size::Y.X,Y.q,Y.G]from m.1)
   show u.gn (Y:=#[Y.d,Y.O,Y.I,Hs.objs.size::Y.X,Y.q,(Hs.objs.size,.list (fg ds d e b))::Y.G]) Sm Si (af:=.val<| .ref Hs.objs.size) (.val _) λh' e b b b b d=>#[.up,Hs.objs.size,m.2.1,m.2.2.2,d])
  λD b=>g2 b λa d e f=>eQ #[Y.d,Y.O,Y.I,a::Y.X,_,_] h V rfl rfl rfl rfl f (Sj a d e)
end
noncomputable def lE {a:Type}(n3:a->dp)(ds:List a)(L:Nat):dp:=((ds.take L).map n3).flatten
def Cd {a:Type}{n3:a->dp}{ds:List a}{b:Nat}{c:a}(d:ds[b]?=J c):lE n3 ds (b+1)=lE n3 ds b++n3 c:=by
 unfold lE;mspec qe;mspec d;simp
def IW (d b e c a:c6)(f:jN)(pos:dy)(it g:ba)(env:b3):
 nY (.ListComp d [#[b,c,[],0],#[e,a,[],0]] f pos) 0 it g env=(do
  es c.pos
  match <-rJ it with
  |none=>pure<| .done .next
  |some n=>
   o7 b it n
   lA b env n
   let mut m:=z
   for o in([]:h6) do
    if m then m <-nT o env (eval o env)
   if m then
    let k <-eval a env
    es a.pos
    let k <-iB a env k;let _ <-runOwn (.compStart (.ListComp d [#[b,c,[],0],#[e,a,[],0]] f pos) 1 (<-e7 [k] (t6 k)) g env) env
   again (.compLoop (.ListComp d [#[b,c,[],0],#[e,a,[],0]] f pos) 0 it g env)):=by rfl
def IX (d b e c a:c6)(f:jN)(pos:dy)(it g:ba)(env:b3):
 nY (.ListComp d [#[b,c,[],0],#[e,a,[],0]] f pos) 0 it g env=(do
  es c.pos
  match <-rJ it with
  |none=>pure<| .done .next
  |some n=>
   o7 b it n
   lA b env n
   let mut m:=z
   for o in([]:h6) do
    if m then m <-nT o env (eval o env)
   if m then(do
    let k <-eval a env
    es a.pos
    let k <-iB a env k;let _ <-runOwn (.compStart (.ListComp d [#[b,c,[],0],#[e,a,[],0]] f pos) 1 (<-e7 [k] (t6 k)) g env) env
    pure ():ia Unit)
   again (.compLoop (.ListComp d [#[b,c,[],0],#[e,a,[],0]] f pos) 0 it g env)):=by
 rw[IW];simp only[H7,pure_bind,if_true,bind_assoc]
def IY (b e a f c:c6)(g:jN)(pos:dy)(it d:ba)(env:b3):
 nY (.ListComp b [#[e,f,[],0],#[a,c,[],0]] g pos) 1 it d env=(do
  es c.pos
  match <-rJ it with
  |none=>pure<| .done .next
  |some m=>
   o7 a it m
   lA a env m
   let mut k:=z
   for n in([]:h6) do
    if k then k <-nT n env (eval n env)
   if k then(do let _ <-dV (.builtin "list.append") [d,<-eval b env])
   again (.compLoop (.ListComp b [#[e,f,[],0],#[a,c,[],0]] g pos) 1 it d env)):=by rfl
def IZ {b:i5}{c:hu}{d:cW}{h:t2->aS->Prop}{e:aS}{i j k l f:c6}{m:jN}{pos:dy}{it n:ba}{env:b3}
 (h0:hR (b2 b c) d (.compLoop (.ListComp i [#[j,l,[],0],#[k,f,[],0]] m pos) 1 it n env) h e)
 (p:au (b2 b c) d (t6 it) (λo g=>hR (b2 b c) d (.compLoop (.ListComp i [#[j,l,[],0],#[k,f,[],0]] m pos) 1 o n env) h g)
  (notedBy (b2 b c) d env λa g=>h (.error a) g) e):
 hR (b2 b c) d (.compStart (.ListComp i [#[j,l,[],0],#[k,f,[],0]] m pos) 1 it n env) h e:=by
 show Ce ?_;show au _ _ ((compStart (.ListComp i [#[j,l,[],0],#[k,f,[],0]] m pos) 1 it n env).onRaise (λa=>do t3 a env;es theWindowsPlace)) _ _ e;show wpAny_notedAt ?_;unfold compStart;show ar<|wpAny_askSetting<|wpAny_ite ?_;split
 .first
   |show ar<|bc<|bc<|x1 rfl h0
   |show bc<|x1 rfl h0
 .first
   |show ar<|r8<|ar<|jK<|ar<|dr p (λo g h'=>bc<|x1 D h') λb b a=>a
   |(show ar<|r8 ?_;show(?_:au _ _ (es f.pos >>= _) _ _ e);show ar<|jK<|ar<|dr p (λo g h'=>bc<|x1 rfl h') λb b a=>a)
section
variable {Y:be}
def R.I0 {Ss Sh Si Sj:c6}{I:v}{Sk:dy}{m:jN}{pos:dy}{A:List (v×T)}{x2:i}{Sf SB:Type}{ds:List Sf}{x3:Sf->i}{cP:Sf->bg}{pR:Sf->i}(dz:Sf->List SB){pb:SB->i}(P:bg)(B:SB->i)
 (S5:iT m Y.I=pure A) (S6:∀St∈m.names,St.2≠ .cell) (Sl:m.kind=.function) (S7:∀St∈m.names,St.2=.local->m.names.lookup St.1=J .local)
 (S8:R Y Si x2) (S9:cA Y Sh x2 (ds.map x3)) (Ta:((ds.map λb=>(dz b).map B).flatten).length<=aD) (Tb:∀b∈ds,jM Sh (x3 b) (cP b)) (SJ:∀b∈ds,∀E∈cP b,m.names.lookup E.1=J .local) (SK:m.names.lookup I=J .local)
 (SL:∀E∈P,E∈Y.q/\hB Y.I m A E.1)
 (Tc:∀e Z b,b∈ds->R (eR Y m A e Z<|cP b++P) Sj (pR b)) (Td:∀b SM,pR b≠ .val SM)
 (Te:∀e Z b,b∈ds->cA (eR Y m A e Z<|cP b++P) (.Name I Sk) (pR b) ((dz b).map pb))
 (Tf:∀e Z b q,b∈ds->q∈dz b->R (eR Y m A e Z<|[(I,pb q)]++P) Ss (B q))
 (Tg:∀F,iB Si Y.I F=pure F) (Th:∀e F,iB Sj (jO m A e Y.I) F=pure F)
 (SN:∀U it Sm env,(jL (.ListComp Ss [#[Sh,Si,[],0],#[.Name I Sk,Sj,[],0]] m pos) U it Sm env).isFrame=aj):
 R Y (.ListComp Ss [#[Sh,Si,[],0],#[.Name I Sk,Sj,[],0]] m pos) (.list<|(ds.map λb=>(dz b).map B).flatten):=.mk λW Sf St SB L Su E=>by
 rw[uj];have Ti:∀M,(lE (λb=>(dz b).map B) ds M).length<=aD:=λM=>by
  show a6 ?_ Ta;unfold lE;conv=>rhs;rw[<-p2 M ds]
  mspec eX;mspec List.flatten_append;mspec dF;show b9 [] 0 y (.S y C) D
 show ub (ic:=ah) S5 (λn=>xw S6 n A) Sl S7 (.of S8 S9) Tg L Su λX SB w S5 Ta Tz TA TB e k Sn u it Sf St=>?_;have So:=Sf.kU e<|Sf.kV▸lB _;have SO:=Sf.kU k<|cg _;have Sv:k≠e:=Sf.kV▸g6 (fy _);show xA it Sf St L.handled [e] (λSB a=>aA (bX a).symm) (λG=>∃a,G.Ns e a) #[_,Sf.ns] (λG h' F U=>F.imp λa x=>x.at' λo d=>U _ o (eO So.2.2.symm) d) (λG F SB a=>by mspec bX a;show p F λa x=>?_;show eY x λo u u d u=>?_;show dn o d) (o:=lE (λb=>(dz b).map B) ds) V (IX _ _ _ _ _ _ _ _ _ _) (SN _ _ _ _) V (λM b SM SP Sw hd Sg Sf x S5 SB Sm=>?_) λG SD U x Sm=>?_
 .show p x λa x=>?_;show(Tb b Sg).assign L.handled (t4 Sl) (λE Sp=>ua<|SJ b Sg E Sp) i6 SB x λSt SM S7 Sx SE S6 u=>?_;have SB:Q St X:=λq o d=>Sx q o (eO λf=>b6 So.1<|f▸d)<|Sf q o d;have Sf:=ue S5 Sx (by show eY SE λo u u d u=>?_;show dn o d);have SM:cV (eR Y m A e ([w,k,e]++Y.X)<|cP b++P) St:=(Su.keep Sn).eR SB Sf Sl SE (SJ b Sg) S6 SL;show BB ?_;show ar<|(Tc e _ b Sg).go W _ _ Sw L SM λSt SQ Tj N SJ=>ar<|jK<|ar<|Cf (Th e St) ?_;show ar<|g5<|(Te e _ b Sg).go W _ _ Sw St L (SM.keep N) SJ λO S5 S6 S7 SF s=>ar<|wpAny_runOwn (h:=ah) ?_;have SR:=s.W W L.handled;have SS:=SB.trans N;have Tk:X.get? O=ah:=ls SS s.nZ;have Sy:∀c∈[w,k,e],c≠O:=λc a E=>by
   show p (Sf c a).2 λo d=>?_;show b6 s.nZ<|E▸N _ _ d
  have Tl:∀c∈[w,k,e],c∉S5:=λc a St=>by
   show ay (s.Bz c St) (λf=>?_) λSt=>ay St (λf=>?_) λf=>?_
   .show Sy c a f
   .show f<|bJ a
   .show Td b _ f
  have SG:∀c∈[w,k,e],X.get? c=ah:=λc a=>(Sf c a).1;have Tm:∀c∈[w,k,e],X.get? c=ah/\∃o,SF.get? c=J o:=λc a=>#[SG c a,(Sf c a).2.imp λo d=>s.k _ _<|N _ _ d];have Tn:fA Y.d (O::([w,k,e]++Y.X)) SF k (lE (λb=>(dz b).map B) ds M++((dz b).take 0).map B):=by
   obtain⟨To,n,d,r⟩:=(Sm.fK Sx (eO Sv)<|h7 i6);show#[To,n,s.k _ _<|N _ _ d,?_];rw[Cg,m9,fk];show(r.keep<|l.keep _ N).keep λq o f=>?_;have ST:=l.of _ _ f;show cb _ (s.k q o ST) λa=>?_;show ay (a5 a) (λH=>?_) λa=>?_
   .obtain rfl:=H;show b6 s.nZ ST
   .show b6 (cU _ a) f
  have SU:hR Y.d.M W (.compLoop (.ListComp Ss [#[Sh,Si,[],0],#[.Name I Sk,Sj,[],0]] m pos) 1 (.ref O) (.ref k)<|jO m A e Y.I)
   (λr SV=>match r with
    | .ok Sf=>au Y.d.M W (pure ()) (λu Sf=>mY Y.d [k,e] ([w,k,e]++Y.X) (λG=>∃a,G.Ns e a) k SP (lE (λb=>(dz b).map B) ds<|M+1) Sf) Sw SV
    | .error d=>Ch Y.d.M W (jO m A e Y.I) Sw d SV) {SP with heap:=SF,toks:=Tj}:=by
   show Bx (fs:=Y.d) (Z:=O::([w,k,e]++Y.X)) [k,e] (λG=>∃a,G.Ns e a) (o:=λSz=>lE (λb=>(dz b).map B) ds M++((dz b).take Sz).map B) (IY _ _ _ _ _ _ _ _ _ _) (SN _ _ _ _) V SR s.rL (s.xr W) (λc a=>Tl c<|g a) ap ap (λG h' F U=>F.imp λa x=>x.at' λo d=>U _ o (eO<|Sy e i6) d) s.xq #[_,(SE.keeps N).keeps s.k] Tn ?_ ?_
   .intro Sz SW SX Sf F W SY Tp SA SZ;show p SA λSf SA=>?_;show xp (s.val Sz SW W F) λq Tq Tr Ts=>?_;have S0:∀c o,c∉[w,k,e]->SQ.get? c=J o->SX.heap.get? c=J o:=λc o n d=>SY c o (λa=>by
     show ay (a5 a) (λH=>?_) λa=>?_
     .obtain rfl:=H;show b6 s.nZ d
     .show n<|g a)<|s.k c o d
    have Tt:bb Y.d (l SX.heap<|O::([w,k,e]++Y.X)) SW (pb q):=by
     show Ts.keep λc o d=>?_;have S1:=l.of _ _ d;have S2:c∉[w,k,e]++Y.X:=λa=>by show b6 (cU _ a) d
     show cb _ (S0 c o (λa=>S2<|bJ a) S1) λa=>?_;show ay (a5 a) (λH=>?_) λa=>?_
     .obtain rfl:=H;show b6 s.nZ S1
     .show S2 a
    show(jM.name I Sk<|pb q).assign L.handled (t4 Sl) (λE Sp=>by show(bX Sp)▸ua SK) tw Tt SA λSH F Tu Sq SI Tv u=>?_;have Tw:Q SH X:=λc o d=>Sq c o (eO λf=>b6 So.1<|f▸d)<|S0 c o (λa=>b6 (SG c a) d)<|SS c o d;have Tx:∀c∈[w,k,e],X.get? c=ah/\∃o,SH.get? c=J o:=ue (λc a=>#[SG c a,by
     show ay (a5 a) (λH=>?_) λSr=>?_
     .obtain rfl:=H;show(Tm _ a).2.imp λo d=>SY _ _ (λf=>by
       show ay (a5 f) (λf=>?_) λf=>?_
       .show Sy _ a f.symm
       .show ay (a5 f) (λf=>?_) λf=>?_
        .show SO.2.2 f.symm
        .show So.2.2<|bX f) d
     .rcases a5 Sr with rfl|Sr
      .obtain⟨_,_,d,_⟩:=SZ;show dn _ d
      .mspec bX Sr;show eY SA λo u u d u=>?_;show dn o d]) Sq (by show eY SI λo u u d u=>?_;show dn o d)
    have Ty:cV (eR Y m A e ([O,w,k,e]++Y.X)<|[(I,pb q)]++P) SH:=(Su.keep Sn).eR Tw (λc a=>by
     show ay (a5 a) (λH=>?_) λa=>?_
     .obtain rfl:=H;show#[Tk,Tp.imp λo d=>Sq _ _ (eO (Sy e i6).symm) d]
     .show Tx c a) Sl SI (λE Sp=>by show(bX Sp)▸SK) Tv SL
    show xB (Y:=eR Y m A e ([O,w,k,e]++Y.X)<|[(I,pb q)]++P) (al:=z) Ty L V (λu=>Tf e _ b q Sg Tr) (SZ.fK Sq (eO Sv)<|h7 tw) ?_ ap i6 (λh' k=>#[Tu,SI.at' λo d=>k _ o (eO Sv.symm) d]) (Sq.dQ<|h7 l0) (by dsimp only;mspec if_pos D;mspec qe;mspec Tq;simp);show a6 ?_<|Ti<|M+1;rw[Cd hd,dF,dF,a7,a7,g8];show bd [.j C t] 0 (.S y C) (.S y t) D<|ml Sz<|(dz b).length
   .intro G SD e k S3;show bc #[G,SD,V,λq o n d=>?_,k,?_]
    .have S4:SQ.get? q=J o:=N q o<|Sx q o (λf=>n<|kI f l0) d;show e q o (λf=>?_)<|s.k q o S4;show ay (a5 f) (λH=>?_) λf=>?_
     .obtain rfl:=H;show b6 s.nZ S4
     .show n f
    .rw[a7,iU,<-Cd (n3:=λb=>(dz b).map B) hd]at S3;show S3.sub λc a=>g a
  show IZ SU<|SR.self 0 _ _ _ s.xq SU
 .show p x λSr x=>?_;show av Sr x (λe d=>E _ e SD (ui (Sn.trans U) d<|ls Sn So.1)<|((show lE (λb=>(dz b).map B) ds ds.length=_ from by unfold lE;show aJ iU V)▸Sm.sub λc a=>gg a i6 λa=>bB a).uh d Sv<|mm Su<|ls Sn SO.1)
end
noncomputable abbrev e1 (id:String)(ac:T):eg:={cls:=.type "builtin_function_or_method",data:=.fields (aRR [.builtin id,.ref ac])}
def I1:uA table "method_descriptor.__get__"=J Builtin.«method_descriptor.__get__»:=uB (by room)
def Ci:lz (.type "method_descriptor") "__get__"=pure (J<| .builtin "method_descriptor.__get__"):=by rw[kd];mspec ke;room
def I2:lz (.type "method_descriptor") "__set__"=pure ah:=by rw[kd];mspec ke;room
def I3:lz (.type "method_descriptor") "__delete__"=pure ah:=by rw[kd];mspec ke;room
def I4:Manifest.toldItsClass.contains "list.append"=aj:=by decide+kernel
def I5 (a:k.TypeIs (.ref m) "list")(b:bM (.done (.ret<| .ref k.heap.objs.size)) {k with heap:=k.heap.push<|e1 "list.append" m}):
 au (b2 n o) r (Builtin.«method_descriptor.__get__» #[[.builtin "list.append",.ref m,.type "list"],[]]) bM w k:=by
 unfold Builtin.«method_descriptor.__get__»;show ar ?_;show au _ _ (pure (r9 "list.append",J (na m),J (ob "list"))) _ _ _;show bc ?_;dsimp only;mspec I4;simp only[o4,if_false];show au _ _ (do _;ret (<-newFields "builtin_function_or_method" [.builtin "list.append",.ref m])) _ _ _;show ar ?_;show au _ _ (do let(a,b) <-pure (("append":v),ob "list");_) _ _ _;show ar<|bc ?_;have a:uC (.type "list") (.type "list")=pure z:=by rw[lF];room
 repeat(any_goals (first|assumption|wp_step))
def Cj:Slot "method_descriptor" "__get__" "method_descriptor.__get__":=
 .of (owner:="method_descriptor") (n:="__get__") Ci (by decide+kernel) (by decide+kernel) (by decide+kernel)
  (by first|show .inl (by decide+kernel)|show .inr<|by decide+kernel) (by rw[lF];room)
def I6 (a b c:ba):nb "method_descriptor.__get__" #[[a,b,c],[]]:=by unfold nb;room
def I7 (a:aS):a.TypeIs (.builtin "list.append") "method_descriptor":=I8
def I9 (b:T)(j:Array ba)(k:Nat)(l:fh):
 oc (Builtin.«object.__getattribute__» #[[.ref b,.str "append" l],[]]) (λm e a=>a.heap.get? b=J {cls:=.type "list",dict:=ah,data:=.seq j k}/\e (.ok<| .ret<| .ref a.heap.objs.size) {a with heap:=a.heap.push<|e1 "list.append" b}):=
 uD λj k m e a c=>by
  obtain⟨d,f,g,h,i⟩:=a;show ao c λa c=>?_;have e:(#[d,f,g,h,i]:aS).TypeIs (.ref b) "list":=av _ a V;have a:=Ja.lookup;have a:=I8;have a:=Ci;have a:=I2;have a:=I3;unfold Builtin.«object.__getattribute__»
  repeat(any_goals (first|assumption|wp_step))
  show sa Cj.plain I1<|Cj.check _ _ _ _ _ _ _ _ (I7 _) (I6 _ _ _) ?_;show dr (I5 e (bM:=λa e=>a=.done (.ret<| .ref d.objs.size)/\e=#[d.push<|e1 "list.append" b,f,g,h,i]) #[V,V]) ?_<|λj j k=>k;intro a e b;show j4 b ?_
  repeat(any_goals (first|assumption|wp_step))
  show av _ V c
def Jb
 (b:k.heap.get? m=J {cls:=.type "list",data:=.seq n o})
 (d:∀a,r (.ref k.heap.objs.size) {k with heap:=k.heap.push<|e1 "list.append" m,toks:=a}):
 au (b2 w x) B (kf (.ref m) "append" z) r M k:=by
 obtain⟨e,f,g,a,h⟩:=k;have c:∀i,(#[e,f,g,i,h]:aS).TypeIs (.ref m) "list":=λe=>av _ b V;have e:=Ck.lookup;have e:=Ck.bind<| .ref m;have e:=am_list_getattr_none;unfold kf getAttrBy
 repeat(any_goals (first|assumption|show c _|((with_reducible show au _ _ (dV (r9 "list.__getattribute__") _ _) _ _ _);show xP Ck (c _) am_entry_list_getattribute (PySem.F.args_list_getattribute_2 _ _) (I9 m n o _) #[b,?_])|wp_step))
 have h':=d<|a+1;unfold handedOut
 repeat(any_goals (first|assumption|wp_step))
def Jc:(match x4 "list.append" with|some k=>∀a b,Jd "list.append" {k with full:=s!"{Bind.lastOf "list"}.{Bind.lastOf "list.append"}"} #[[a,b],[]]=pure ()|none=>True):=by
 intro a b;room
def Je:Manifest.varargsMethods.contains "list.append"=aj:=by decide+kernel
def Jf:builtinKind "list.append"=J .method:=by decide+kernel
def Jg {a:T}{b:ba}(d:k.heap.get? a=J {cls:=.type "list",data:=.seq n o})(e:m () k):
 au (b2 r w) x (x5 "list.append" #[[.ref a,b],[]]) m B k:=by
 have c:=Jc;have f:k.TypeIs (.ref a) "list":=av _ d V;unfold x5;cases hs:x4 "list.append" with
 |none=>show bc e|some d=>
  rw[hs]at c;mspec Jf;mspec Je;have d:uC (.type "list") (.type "module")=pure aj:=by rw[lF];room
  have d:=c (.ref a) b
  repeat(any_goals (first|assumption|wp_step))
section
variable {cZ:i5}{cl:hu}{aK:cW}{bv:bY}{aa:aS}
def Jh {id:String}(d:args.any (·.1)=aj)
 (e:au (b2 cZ cl) aK (uE (.ref k) z args []) (λa b=>b.heap.get? k=J (e1 id o)/\au (b2 cZ cl) aK (dV (.ref k) (first++a.pos) a.kw) n bv b) bv aa):
 au (b2 cZ cl) aK (dP pos (.ref k) first args []) n bv aa:=by
 unfold dP;show ar<|g5<|dr e (λa b c=>ar<|jK ?_) λb b a=>a;mspec d;show ar (m:=x6<| .ref k) ?_;unfold x6;show ar<|sb c.1 ?_;show bc ?_;show ar<|dr c.2 (λr e d=>ar<|g5<|wpAny_point<|bc d) λb b a=>a
def Ji (b:aa.heap.get? n=J (e1 "list.append" k))(a:aa.heap.get? k=J {cls:=.type "list",data:=.seq o r})
 (c:∀h',h9 k aa.heap h'->h'.get? k=J {cls:=.type "list",data:=.seq (o.push m)<|r+1}->w .none {aa with heap:=h'}) (d:o.size<=aD):
 au (b2 cZ cl) aK (dV (.ref n) [m]) w bv aa:=by
 show hS<|Ce ?_;show(?_:au _ aK.in1 (callAny (.ref n) #[[m],[]]) _ _ aa);unfold callAny;show ar<|sb b ?_;show x7 D ?_;show x7 D ?_;show ar ?_;show Jg a<|bc #[uF Ja.plain _,pc entry_list_append ?_];show(?_:au _ _ (updateSeq k (·.push m) >>= λb=>ret .none) _ _ _);show ar (wpAny_updateSeq (f:=(·.push m)) a V (bc<|c _ (ji ..) (by mspec nc _ a (by rw[mapSeq_push];rfl);rw[mapSeq_push])) d (by rw[Array.size_push];show qB ‹_›))
end
section
variable {Y:be}{H:aP}
def N.Cl (e:(r,.val (.ref ac))∈Y.q)(hd:(r==("__debug__":v))=aj)(h:(r==("__classdict__":v))=aj)(i:(ac,.list ds)∈Y.G)(j:fM Y.I k)
 (l:eval (.Attribute (.Name r m) "append" w) Y.I=(do
  let o <-eval (.Name r m) Y.I
  es w.atName
  let x <-e7 [o] (kf o "append" z)
  xc (.Name r m) o x
  pure x))
 (q:f6 (.Attribute (.Name r m) "append" w) (J<| .Name k B) pos.line Y.I=pure aj)
 (s:∀a,a∉Y.X->a∉H.cB->N H #[Y.d,Y.O,Y.I,a::Y.X,bl k (.val<| .ref a) Y.q,(a,.aG (e1 "list.append" ac))::Y.G] M Sf):
 N H Y (.Assign [.Name k B] (.Attribute (.Name r m) "append" w) pos::M) Sf:=
 N.cons (aw:=λf=>∃a,a∉Y.X/\a∉H.cB/\u H #[Y.d,Y.O,Y.I,a::Y.X,bl k (.val<| .ref a) Y.q,(a,.aG (e1 "list.append" ac))::Y.G] f)
  (.mk λa g k m d=>o9 (Attribute_Name_ ((R.name e hd h).go a g _ k m.todA d.tocV λx b w t y=>by
   obtain rfl:=y.is;have e:=d.keep t;show aY ((e.G _ i).2.eA) λh a k=>?_;show p a λn i=>?_;show Jb i λh=>?_;have a:=e.iF<|d3 (an:=b);have i:=(e.gI d3 #[_,dM b (o:=e1 "list.append" ac) c]<|Q.push _ _).ig (af:=.aG<|e1 "list.append" ac) ap (.aG<|dM _ c) a.2.2.1 (show b.objs.size∉d5 #[Y.d,Y.O,Y.I,b.objs.size::Y.X,Y.q,Y.G]from a.1);show u.gn (aa:={g with heap:=b.push<|e1 "list.append" ac,toks:=h}) (Y:=#[Y.d,Y.O,Y.I,b.objs.size::Y.X,Y.q,(b.objs.size,.aG (e1 "list.append" ac))::Y.G]) i j (af:=.val<| .ref b.objs.size) (.val _) λh' h e e e e g=>#[.up,b.objs.size,a.2.1,a.2.2.2,g]) l) q)
  λf a=>g2 a λac b e d=>eQ #[Y.d,Y.O,Y.I,ac::Y.X,_,_] H V rfl rfl rfl rfl d (s ac b e)
def E.qC (t:R Y arg af)(y:(m,.val (.ref w))∈Y.q)(hd:(m==("__debug__":v))=aj)(A:(m==("__classdict__":v))=aj)
 (B:(w,.aG (e1 "list.append" k))∈Y.G) (e:Y.G=bE++(k,.list ds)::b4) (C:ds.length<=aD) (D:mq Y.I=aj) (F:f6 (.Call (.Name m x) [arg] [] r) ah pos.line Y.I=pure aj)
 (f:bh [arg] Y.I=(aj,eval arg Y.I)::bh [] Y.I)
 (G:eval (.Call (.Name m x) [arg] [] r) Y.I=(do dP r (<-eval (.Name m x) Y.I) [] (cY r<|bh [arg] Y.I) (jI r<|jJ [] Y.I))):
 E Y H (.Expr (.Call (.Name m x) [arg] [] r) pos) (c2 (u H #[Y.d,Y.O,Y.I,Y.X,Y.q,bE++(k,.list (ds++[af]))::b4]) bU):=.mk λa b c g h=>by
 show oa (jb ((R.name y hd A).go a b _ c g.todA h.tocV λo I K L M=>?_) G) D F;obtain rfl:=M.is;have i:=h.keep L;have j:=(W.cons (pos:=r) t W.nil f).go a {b with heap:=I,toks:=K} (λd h=>h.heap.get? w=J (e1 "list.append" k)/\au Y.d.M a (dV (.ref w) ([]++d) []) (λq m=>cs b m H.bZ/\c2 (u H #[Y.d,Y.O,Y.I,Y.X,Y.q,bE++(k,.list (ds++[af]))::b4]) bU .next m.heap) c h) c g.todA i.tocV λa s r N O=>?_
 .rw[f]at j ⊢;show Jh (by rfl)<|t0 j
 .show p O.one λq a=>?_;show ci a λg=>?_;have a:=i.keep N;have b:s.get? w=J (e1 "list.append" k):=by
   show(a.G _ B).2.is
  show ao (a.G _ (show(k,.list ds)∈Y.G from e▸bB ap)) λh f=>?_;show aY f.eA λd i c=>?_;show p i λn j=>?_;show#[b,Ji b j (λh' f i=>#[.up,?_])<|by simpa[c.length]using C];show(show u H #[Y.d,Y.O,Y.I,Y.X,Y.q,bE++(k,.list ds)::b4] s from by show e▸a).kW f (.list (a3:=d++[q]) #[n+1,by simpa using i]<|(c.append<| .cons g .nil).keep<|l.mR λa o n b=>f.extBut a o (λc=>n<|c▸h) b)
def E.x8 {ac al:Int}(f:(k,.int ac)∈Y.q)(c:Y.I.kindOf k=J .local)(g:R Y m (.int al)):
 E Y H (.AugAssign (.Name k r) .Add m pos) (c2 (u H #[Y.d,Y.O,Y.I,Y.X,bl k (.int<|ac+al) Y.q,Y.G]) w):=.mk λh e i j b=>by
 show wpAny_AugAssign_Name ?_;show aY (b.d8 _ f) λl d n=>?_;obtain⟨f,rfl⟩:=n.dh;rcases d with⟨_,f,o,d⟩|⟨k,a,_⟩
 .show tS b.kind c o d<|g.go h e _ i j.todA b.tocV λl f k m n=>?_;show p n.dh λg d=>?_;show bw d ?_;show Jj<|(b.keep m).gn (aa:={e with heap:=f,toks:=k+1}) (.inl c) (af:=.int<|ac+al) (.int _ _) λe f b b b b d=>#[.up,d]
 .rcases a with a|a<;>replace a:=c▸a<;>cases a
def E.uG (b:a1 Y k z):E Y H (.Assert k ah pos) (c2 (u H Y) m):=.mk λc d e f a=>
 wpAny_Assert_holds (b.go c d _ e f.todA a.tocV λh' h g=>cH D .up<|a.keep g)
inductive pd:i->i->Bool->Prop
 |x9 (ae):pd (.str ae) .none aj|ya (ae o):pd (.str ae) (.val<| .ref o) aj
 |none:pd .none .none z|obj (o):pd (.val<| .ref o) (.val<| .ref o) z
def ax.Jk (g:pd k m n):ax Y .Is k m n:=.mk λk f l m n q r s a b h=>by
 have c:=h f.heap f.toks<|Q.bf _;cases g with
 |x9 i=>show p a.dO λj d=>?_;show bw d ?_;obtain rfl:=b.is;show wpAny_is_other V (by intro e;cases e) c
 |ya i o=>show p a.dO λj d=>?_;show bw d ?_;obtain rfl:=b.is;show wpAny_is_other V (by intro e;cases e) c
 |none=>obtain rfl:=a.is;obtain rfl:=b.is;show wpAny_is_self V c|obj o=>obtain rfl:=a.is;obtain rfl:=b.is;show wpAny_is_ref_self c
def ax.yb (g:pd k m n):ax Y .IsNot k m (!n):=.mk λk f l m n q r s a b h=>by
 have c:=h f.heap f.toks<|Q.bf _;cases g with
 |x9 i=>show p a.dO λj d=>?_;show bw d ?_;obtain rfl:=b.is;show wpAny_isNot_other V (by intro e;cases e) c
 |ya i o=>show p a.dO λj d=>?_;show bw d ?_;obtain rfl:=b.is;show wpAny_isNot_other V (by intro e;cases e) c
 |none=>obtain rfl:=a.is;obtain rfl:=b.is;show wpAny_isNot_self V c|obj o=>obtain rfl:=a.is;obtain rfl:=b.is;show wpAny_isNot_ref_self c
def R.yc (c:R Y n (.str ae))(a:k.length+ae.length+m.length<=aD):
 R Y (.JoinedStr [.Constant (.str k) o r,.FormattedValue n (-1) ah w,.Constant (.str m) x B] pos) (.str<|k++ae++m):=.mk λd b i e f g h=>by
 have i:(kg++k).length<=aD:=by rw[kh];show bd [.j (.S (.S y C) t)<| .O aD] 0 (.S (.O 0) y) (.O aD) D a
 have l:(kg++k++ae).length<=aD:=by rw[kh,kh];show bd [.j (.S (.S y C) t)<| .O aD] 0 (.S (.S (.O 0) y) C) (.O aD) D a
 have b:(kg++k++ae++m).length<=aD:=by rw[kh,kh,kh];show bd [.j (.S (.S y C) t)<| .O aD] 0 (.S (.S (.S (.O 0) y) C) t) (.O aD) D a
 show JoinedStr_many<|sc<|oV #[i,?_];show sc<|FormattedValue_plain<|c.go d _ _ e f (g.keep<|Q.bf _) λn i r o q=>?_;show p q.dO λd c=>?_;show bw c ?_;show formatField_str (λc d=>#[l,?_])<|bd [.j (.S (.S C y) t)<| .O aD] 0 y (.O aD) D a;show sc<|oV #[b,joinParts_nil ?_ b];have a:kg++k++ae++m=k++ae++m:=by
  have:kg++k=k:=by show(?_:(#[(aRR [])++k.cps]:v)=k);show aJ uH V
  show aJ this V
 mspec a;show h _ i _ o<| .str _ _
end
section
variable {Y:be}{H:aP}
def bb.Jl (r:bb k m n (.bR ds)):bb.Is k m n (.bR ds):=r.is
def Jm (a:o.handled=ah)(b:IsTup k.heap r [m,n].toArray)
 (c:∀h',xj k.heap.objs.size k.heap h'->w [m,n] {k with heap:=h'}):au (b2 x B) o (xk (.ref r) 2 ah) w M k:=
 unpackItems_tuple (items:=[m,n].toArray) a b c
def u.Cm {a e:v}{b c:ba}{f d:i}{h j:ba->ia Unit}(p:u H Y aa.heap)(q:fM Y.I a)(s:fM Y.I e)(t:bb Y.d (l aa.heap Y.X) b f)(w:bb Y.d (l aa.heap Y.X) c d)
 (x:∀(aa:aS)(k:lp),au Y.d.M m (storeName Y.I a b) k r aa->au Y.d.M m (h b) k r aa) (y:∀(aa:aS)(k:lp),au Y.d.M m (storeName Y.I e c) k r aa->au Y.d.M m (j c) k r aa)
 (g:∀h' A,u H #[Y.d,Y.O,Y.I,Y.X,bl e d<|bl a f Y.q,Y.G] h'->k () {aa with heap:=h',toks:=A}):au Y.d.M m (xm [h,j] [b,c]) k r aa:=by
 show n1<|x _ _<|p.gn q t λc e m h b j k=>?_;show n1<|y _ _<|u.gn (aa:={aa with heap:=c,toks:=e}) (Y:=#[Y.d,Y.O,Y.I,Y.X,bl a f Y.q,Y.G]) k s (w.keep<|l.mR<|λd o n g=>j.extBut d o (λa=>n<|a▸h) g) λc d b b b b e=>?_;show xv<|g c d e
def Jn
 (a:au k m (eval n env) (λb c=>au k m (xk b 2 ah) (λd e=>au k m (xm [bindName env r,bindName env w] d.reverse) (λh=>Sf .next) o e) o c) o Sg)
 (f:yd [.Tuple x B M] n pos.line env=pure aj)
 (g:uI [.Tuple x B M] n env=pure (J [w,r])):
 au k m (exec (.Assign [.Tuple x B M] n pos) env) Sf o Sg:=Assign_Tuple_swapped (names:=[w,r]) a f g
def E.Cn (c:R Y k (.bR [ac,al]))(e:fM Y.I ae)(f:fM Y.I bx)
 (g:yd [od m n r] k pos.line Y.I=pure aj) (h:uI [od m n r] k Y.I=pure (J [ae,bx])):
 E Y H (.Assign [od m n r] k pos) (c2 (u H #[Y.d,Y.O,Y.I,Y.X,bl ae ac<|bl bx al Y.q,Y.G]) B):=.mk λi b j a d=>by
 show Jn (c.go i b _ j a.todA d.tocV λm p q s k=>?_) g h;show cm k.Jl λg h c=>?_;show eP c λt v=>?_;obtain⟨c,g,rfl,w,x⟩:=v.eV;show Jm a.handled (t.keeps l.of) λh' g=>?_;have a:Q h' p:=λal o c=>g al o (g6<|gk c) c;show u.Cm (aa:={b with heap:=h',toks:=q}) ((d.keep s).keep a) f e (x.keep<|l.keep _ a) (w.keep<|l.keep _ a) (λb b c=>bindName_ c) (λb b c=>bindName_ c) λb d a=>#[.up,a]
def b7.str {a:Nat}(H:ae.cps[a]?=J k)(d:a<2^63):b7 Y (.str ae) (.int a) (.str #[(aRR [k])]):=.mk λb e j l m n o q f g h=>by
 show p f.dO λj b=>?_;show bw b ?_;show p g.dh λf b=>?_;show bw b ?_;show f4 ("str") _ (n8 _ _ _) Co.lookup (Jo (c:=k) (by simp;show el.mpr<|dG d D) ?_<|h _ e.heap _ (Q.bf _)<| .str _ _);mspec show ae.length=ae.cps.size from rfl
 unfold seqIndex?;have i:¬((a:Int)<0):=by simp+arith
 simp only[i,if_false];mspec if_pos (by simp;show((Jp.mp H).1));simpa using H
end
noncomputable abbrev aE:=List<|T×i
noncomputable abbrev aI (o:aE):aZ:=o.map (·.1)
noncomputable abbrev lG:=aZ->aE->i->Prop
inductive nd (aq:ba)(an:aX)(H:aP)(Y:be)(ki:lG):Prop
 |mk (a:aZ) (bi:aE) (af:i) (b:ki a bi af) (c:∀ac∈Y.X,ac∈a) (d:u H #[Y.d,Y.O,Y.I,a,Y.q,bi] an) (r:bb Y.d (l an a) aq af):nd aq an H Y ki
structure aU (Y:be)(H:aP)(a:c6)(ki:lG):Prop where
 go:∀(aK:cW)(aa:aS)(bM:bY)(bv:bY),je aK Y.O Y.I H.cR->u H Y aa.heap->
  (∀aq bS,cs aa bS H.bZ->nd aq bS.heap H Y ki->bM aq bS)->au Y.d.M aK (eval a Y.I) bM bv aa
structure dY (Y:be)(H:aP)(aT:ba)(ds:dp)(ki:lG):Prop where
 go:∀(aK:cW)(aa:aS)(bM:bY)(bv:bY)(a3:cv),je aK Y.O Y.I H.cR->u H Y aa.heap->aO Y.d (l aa.heap Y.X) a3 ds->
  (∀aq bS,cs aa bS H.bZ->nd aq bS.heap H Y ki->bM aq bS)->au Y.d.M aK (dV aT a3) bM bv aa
structure qD (U:aW)(H:aP)(ai:aE)(bi:aE)(an:aX):Prop where
 keep:Q an H.cM
 hF:∀ak∈bi,bH U (l an<|H.cB++aI bi) an ak.1 ak.2
 new:∀ak∈bi,H.cM.get? ak.1=ah
 apart:bi.Pairwise λae bx=>ae.1≠bx.1
 all:∀ak∈ai,ak.1∈aI bi
inductive et (U:aW)(H:aP)(ai:aE)(co:aE->i->Prop)(aT:Flow)(an:aX):Prop
 |mk (aq:ba) (af:i) (bi:aE) (a:aT=.ret aq\/(aT=.next/\aq=.none)) (b:co bi af) (o:qD U H ai bi an) (r:bb U (l an<|H.cB++aI bi) aq af):et U H ai co aT an
section
variable {Y:be}{H:aP}
def ij:aI (k++m)=aI k++aI m:=eX
def c9 (a:k∈m):k.1∈aI m:=dI a
def u.pe (c:u H Y k)(f:∀b∈ai,b.1∈aI Y.G){bi:aE}(d:Y.G.Perm bi):qD Y.d H ai bi k:=
 have g:∀e∈H.cB++aI bi,e∈Y.X:=λe a=>by
  show cL a (λa=>?_) λa=>?_
  .show c.sub e a
  .show g0 a λb e=>?_;show(c.G b<|d.mem_iff.mpr e).1
 {keep:=c.de
  hF:=λb a=>(c.G b<|d.mem_iff.mpr a).2.keep (l.sub g) (Q.bf _)
  new:=λb a=>(c.cN b<|d.mem_iff.mpr a).1
  apart:=d.pairwise c.dt (λk e=>k e.symm)
  all:=λb a=>by
   show aY (ck<|f b a) λe c H=>?_;show iv.mpr<|av e (d.mem_iff.mp c) H}
def u.Cp {t keep h:aE}(f:u H Y k)(C:Y.G.Perm (t++keep))(g:aZ)(A:∀c,c∈g->c∈aI t\/c=Y.I.locals)(Sj:∀c∈aI t,c∈g)
 (P:Q h' (cq k g)) (D:∀a∈h,bH Y.d (l h'<|Y.X++aI h) h' a.1 a.2) (R:∀a∈h,(cq k g).get? a.1=ah) (S:h.Pairwise λT U=>T.1≠U.1) (W:∀a∈t,a.1∈aI h)
 (X:∀a∈h,a.1≠Y.I.locals) (L:∀b,k.Ns Y.I.locals b->h'.Ns Y.I.locals b):u H #[Y.d,Y.O,Y.I,Y.X++aI h,Y.q,h++keep] h':=by
 show cd (ih.mp<|(C.pairwise f.dt<|λk d=>k d.symm)) λq Z Sf=>?_;have M:∀a∈t,a∈Y.G:=λa b=>C.mem_iff.mpr<|bJ b;have mk:∀a∈keep,a∈Y.G:=λa b=>C.mem_iff.mpr<|bB b;have Sg:∀c∈g,c∈Y.X:=λc b=>by
  show ay (A c b) (λb=>?_) λE=>?_
  .show g0 b λa e=>?_;show(f.G a<|M a e).1
  .obtain rfl:=E;show f.cn.1
 have v:∀c o,c∉g->k.get? c=J o->h'.get? c=J o:=λc o n d=>P c o<|cb _ d n;have F:∀c∈g,(∃a∈Y.G,c=a.1)\/c=Y.I.locals:=λc b=>by
  show ay (A c b) (λb=>?_) λSh=>?_
  .obtain⟨a,e,rfl⟩:=ck b;show .inl<|av a (M a e) V
  .show .inr Sh
 have Si:∀s∈Y.I.cells,s.2∉g:=λs B b=>by
  show ay (F _ b) (λw=>?_) λH=>?_
  .show p w λa x=>?_;show ao x λe H=>?_;show(f.cN a e).2.2 s B H.symm
  .show f.ft s B H
 have N:∀a∈keep,a.1∉g:=λa e b=>by
  show ay (A _ b) (λb=>?_) λb=>?_
  .show aY (ck b) λd i H=>?_;show Sf d i a e H
  .show(f.cN a<|mk a e).2.1 b
 have G:∀c∈aI h,c∉g->k.get? c=ah:=λc b n=>by
  obtain⟨a,e,rfl⟩:=ck b;have:=R a e;cases d:k.get? a.1 with
  |none=>rfl|some o=>replace this:=(cb _ d n:(cq k g).get? a.1=J o)▸this;cases this
 have O:Q (l h'<|Y.X++aI h) (l k Y.X):=λc o d=>by
  have h:=l.of _ _ d;have k:c∉Y.X:=λb=>by show b6 (cU _ b) d
  have t:c∉g:=λb=>k<|Sg c b;show cb _ (v c o t h) λb=>?_;show cL b (λb=>?_) λb=>?_
  .show k b
  .show b6 (G c b t) h
 show u.frame f O (λc b=>by
  show cL b (λb=>?_) λb=>?_
  .by_cases j:c∈g
   .show ay (A c j) (λj=>?_) λE=>?_
    .obtain⟨a,e,rfl⟩:=ck j;show aY (ck<|W a e) λd i H=>?_;show p ((D d i).cw) λo m=>?_;show#[o,by show H▸m]
    .obtain rfl:=E;show p f.ns λb y=>?_;show eY (L b y) λo q q m q=>?_;show#[o,m]
   .show p (f.cw c b) λo d=>?_;show#[o,v c o j d]
  .obtain⟨d,i,rfl⟩:=ck b;show(D d i).cw) (bJ f.cn.1) (λa e=>bJ<|f.cn.2 a e) (λc b=>bJ<|f.sub c b) L (λa e o d=>v _ o (Si a e) d) (λc o d=>by
  show v c o (λb=>?_)<|f.de c o d;show ay (F _ b) (λw=>?_) λI=>?_
  .show p w λa x=>?_;show ao x λe I=>?_;replace d:=I▸d;replace d:=((f.cN a e).1)▸d;cases d
  .replace d:=I▸d;replace d:=f.new.1▸d;cases d) (λa e=>by
  show cL e (λe=>?_) λe=>?_
  .show#[bB<|c9 e,D a e]
  .show ao (f.G a<|mk a e) λc h=>?_;show#[bJ c,h.lw O λo d=>v _ o (N a e) d]) (λa e=>by
  show cL e (λe=>?_) λe=>?_
  .by_cases j:a.1∈g
   .show ay (F _ j) (λw=>?_) λH=>?_
    .show p w λd x=>?_;show ao x λi H=>?_;have:=f.cN d i;replace this:=H▸this;show this
    .show(X a e H).elim
   .have r:=G _ (c9 e) j;show cH ?_ (λd=>?_)<|λs B d=>?_
    .show jA (f.de _) r
    .show A1 f.ns λb o q q y q=>?_;replace r:=d▸r;show b6 r y
    .show gh (f.cells s B) λb o y q=>?_;replace r:=d▸r;show b6 r y
  .show f.cN a<|mk a e) (ih.mpr #[S,Z,λa e d i j=>by
  have K:=N d i;replace K:=j▸K;show p ((f.G d<|mk d i).2.cw) λo m=>?_;replace m:=j▸m;replace m:=(G _ (c9 e) K)▸m;cases m])
def u.after {e h':aX}{b keep a:aE}(d:u H Y e)(h:Y.G.Perm (b++keep))(r:qD Y.d #[cq e<|aI b,Y.X,fr,gen] b a h'):u H #[Y.d,Y.O,Y.I,Y.X++aI a,Y.q,a++keep] h':=by
 have i:Y.I.locals∉aI b:=λa=>by
  show aY (ck a) λe f c=>?_;show(d.cN e<|h.mem_iff.mpr<|bJ f).2.1 c
 show d.Cp h (aI b) (λj a=>.inl a) (λj a=>a) r.keep r.hF r.new r.apart r.all (λe f c=>?_)<|λa g=>g.at' λo c=>r.keep _ o<|cb _ c i;show A1 d.ns λa o b b g b=>?_;have:=r.new e f;replace this:=c▸this;replace this:=(cb _ g i)▸this;cases this
def u.uJ {e h':aX}{ai keep bi:aE}(h:u H Y e)(i:Y.G.Perm (ai++keep))(n:e.get? Y.I.locals=J k)
 (r:qD Y.d #[cq e<|Y.I.locals::aI ai,Y.X,fr,gen] ((Y.I.locals,.frame k)::ai) ((Y.I.locals,.frame k)::bi) h'):u H #[Y.d,Y.O,Y.I,Y.X++aI bi,Y.q,bi++keep] h':=by
 have e:=gq.mp r.apart;have fr:=r.hF _ ap;show h.Cp i (Y.I.locals::aI ai) (λj a=>?_) (λj a=>g a) r.keep (λb c=>(r.hF b<|g c).keep (l.sub λj a=>?_)<|Q.bf _) (λb c=>r.new b<|g c) e.2 (λb c=>?_)
  (λb c d=>e.1 b c d.symm) (λa q=>?_)
 .rcases d2 a with a|a
  .show .inr a
  .show .inl a
 .rcases jz a with a|a
  .show bJ a
  .show bB<|g a
 .have:=r.all b<|g c;rcases d2 this with d|d
  .show((h.cN b<|i.mem_iff.mpr<|bJ c).2.1 d).elim
  .show d
 .show l4 q λo s t f hd v=>?_;replace f:=n▸f;cases f;have w:∃m,h'.get? Y.I.locals=J {k with slots:=m}:=by cases fr with|frame H=>show dn _ H
  show p w λm a=>?_;show kM _ s t a hd v
def eB.mr (f:eB Y.d k w m body)(j:Y.O=n+1)(l:m.length=ds.length)(g:Y.G.Perm (ai++keep))
 (p:∀h i h0,N #[h0,Y.X,ah,H.bZ] #[Y.d,n,bV w h k,i,m.zip ds,ai] body (et Y.d #[h0,Y.X,ah,H.bZ] ai x)) (q:∀b c,x b c->B (Y.X++aI b) (b++keep) c):dY Y H (.ref k) ds B:=.mk λk m w x B s d t e=>by
 show f.call (j▸s.todA:dA k (n+1)) d.base d.cw t l (h0:=cq m.heap<|aI ai) (λu o e=>ff _ e) (own:=ai) (λf a=>d.G f<|(λf a=>g.mem_iff.mpr<|bJ a) f a) (λf a=>cU _<|c9 a) (fr:=ah) (ih.mp<|(g.pairwise d.dt<|λf e=>f e.symm)).1 (λj f=>nomatch f)
  (λh i=>p h i _) λf v y r=>?_
 obtain⟨A,c,b,C,D,E,F⟩:=r;have f:=e A v y #[_,_,c,q b c D,λu a=>bJ a,d.after g E,F];rcases C with rfl|⟨rfl,rfl⟩<;>show f
def eB.ye (B:eB Y.d w M x body){co:aE->i->Prop}{j:List b3}(C:H.cR=J j)(D:Y.O=n+1)(E:x.length=ds.length)(m:Y.G.Perm (ai++keep))
 (F:∀p q h0 c,(∃s G,c.data=.dict s G)->N #[h0,Y.X,J<|Y.I::j,H.bZ] #[Y.d,n,bV M p w,q,x.zip ds,(Y.I.locals,.frame c)::ai] body (et Y.d #[h0,Y.X,J<|Y.I::j,H.bZ] ((Y.I.locals,.frame c)::ai) λh e=>∃k,h=(Y.I.locals,.frame c)::k/\co k e))
 (I:∀h e,co h e->Sf (Y.X++aI h) (h++keep) e):dY Y H (.ref w) ds Sf:=.mk λw x M V W u d G f=>by
 have v:∀b∈ai,b∈Y.G:=λb a=>m.mem_iff.mpr<|bJ a;show oS d.ns λa c s K y hd M=>?_;show B.call (D▸u.todA:dA w (n+1)) d.base d.cw G E (h0:=cq x.heap<|Y.I.locals::aI ai) (λA o f=>ff _ f) (own:=(Y.I.locals,.frame c)::ai) (λb a=>?_) (λb a=>cU _ ?_) (fr:=J<|Y.I::j) (gq.mpr #[λb a f=>(d.cN b<|v b a).2.1 f.symm,(ih.mp<|(m.pairwise d.dt<|λt f=>t f.symm)).1])
  (λw t=>by cases t;show u.o8 j C) (λp q=>F p q _ c<|dN s K hd) λj L O r=>?_
 .rcases a5 a with rfl|a
  .show#[d.cn.1,.frame (gE:=c.slots) y]
  .show d.G b<|v b a
 .rcases a5 a with rfl|a
  .show ap
  .show g<|c9 a
 obtain⟨P,e,h,Q,⟨k,rfl,R⟩,S,T⟩:=r;have U:=f P L O #[_,_,e,I k e R,λA a=>bJ a,d.uJ m y S,T.keep (l.sub λA a=>by
  rcases jz a with a|a
  .show bJ a
  .show bB<|g a)]
 rcases Q with rfl|⟨rfl,rfl⟩<;>show U
def N.qE (a:R Y m af)(e:H.cB=k.cB)(f:Q H.cM k.cM)(b:∀c∈n,c.1∈aI Y.G)(g:Y.G.Perm bi)(h:w bi af):N H Y (.Return (J m) pos::x) (et Y.d k n w):=
 N.cons (aw:=λi=>False) (E.ret a λm j d r=>by
  have o:=d.pe b g;have m:∀a∈H.cB++aI bi,a∈Y.X:=λa b=>by
   show cL b (λb=>?_) λb=>?_
   .show d.sub a b
   .show g0 b λc n=>?_;show(d.G c<|g.mem_iff.mpr n).1
  show#[j,af,bi,.inl V,h,?_,?_]
  .have d:∀a,H.cM.get? a=ah->k.cM.get? a=ah:=λa g=>by
    show jA (f a) g
   show#[f.trans o.keep,e▸o.hF,λc b=>d _<|o.new c b,o.apart,o.all]
  .show e▸r.keep (l.sub m)) λi a=>a.elim
def N.sd {a bi:aE}{c:aE->i->Prop}(e:H.cB=k.cB)(d:Q H.cM k.cM)(f:∀b∈a,b.1∈aI Y.G)(g:Y.G.Perm bi)(h:c bi .none):N H Y [] (et Y.d k a c):=
 N.nil λc a=>by
  have o:=a.pe f g;have c:∀a,H.cM.get? a=ah->k.cM.get? a=ah:=λa f=>by
   show jA (d a) f
  show#[.none,.none,bi,.inr #[V,V],h,#[d.trans o.keep,e▸o.hF,λb a=>c _<|o.new b a,o.apart,o.all],.none]
def nd.dQ (o:nd k m H Y n)(d:∀a b c,n a b c->w a b c):nd k m H Y w:=by
 cases o with|mk a b c e f g r=>show#[a,b,c,d _ _ _ e,f,g,r]
def aU.dQ (d:aU Y H k m)(e:∀a b c,m a b c->n a b c):aU Y H k n:=.mk λa b c f g h i=>d.go a b c f g h λj k l o=>i j k l<|o.dQ e
def dY.dQ (d:dY Y H k ds m)(e:∀a b c,m a b c->n a b c):dY Y H k ds n:=.mk λa b c f g h i j k=>d.go a b c f g h i j λl m n o=>k l m n<|o.dQ e
noncomputable abbrev iJ (Y:be)(af:i):lG:=λa bi ez=>a=Y.X/\bi=Y.G/\ez=af
def aU.of (b:R Y k m):aU Y H k (iJ Y m):=.mk λc d e f g a h=>b.go c d e f g.todA a.tocV λi h' k j r=>h i _ .up #[_,_,_,(cH V rfl rfl),λc b=>b,a.keep j,r]
def dY.of (b:bO Y k ds m):dY Y H k ds (iJ Y m):=.mk λc d e f g h a i j=>b.go c d e f g h.todA a.tocV i λk h' m l r=>j k _ .up #[_,_,_,(cH V rfl rfl),λc b=>b,a.keep l,r]
def aU.g4 (c:R Y (.Name n B) (.val<| .ref k))(t:Y.d.B.get? k=J o)(hd:o.data=.func Sf)(u:W Y pos (w::m) ds)(v:dY Y H (.ref k) ds Sg)
 (y:bh (w::m) Y.I=(aj,eval w Y.I)::bh m Y.I) (I:(cY pos<|bh m Y.I).any (·.1)=aj)
 (C:eval (.Call (.Name n B) (w::m) [] pos) Y.I=(do dP pos (<-eval (.Name n B) Y.I) [] (cY pos<|bh (w::m) Y.I) (jI pos<|jJ [] Y.I))):aU Y H (.Call (.Name n B) (w::m) [] pos) Sg:=.mk λa d g b h e D=>
 jb (c.go a d _ b h.todA e.tocV λl j p i F=>by
  obtain rfl:=F.is;have G:=t0 (M:=Y.d.M) (A:=a) (E:=b) (f:=.ref k) (x:=eval w Y.I) (rest:=cY pos<|bh m Y.I)
   (Q:=λn c=>(c.heap.get? k=J o/\o.data=.func Sf)/\au Y.d.M a (dV (.ref k) ([]++n.pos) n.kw) g b c) (s:={d with heap:=j,toks:=p})
  have q:=u.go a {d with heap:=j,toks:=p} (λj c=>(c.heap.get? k=J o/\o.data=.func Sf)/\au Y.d.M a (dV (.ref k) ([]++j) []) g b c) b h.todA (e.tocV.keep i) λj n p m u=>
   #[#[((e.tocV.keep i).keep m).fq _ _ t,hd],v.go a {d with heap:=n,toks:=p} g b j h ((e.keep i).keep m) u λl a c r=>D l a (cs.up.trans c) r]
  rw[y]at q ⊢;show xi<|G q) C
def N.kj {d:c6}{e:lG}(g:aU Y H d e)(i:fM Y.I k)(j:f6 d (J<| .Name k m) pos.line Y.I=pure aj)
 (l:∀a b c,e a b c->(∀f∈Y.X,f∈a)->N H #[Y.d,Y.O,Y.I,a,bl k c Y.q,b] n bU):N H Y (.Assign [.Name k m] d pos::n) bU:=
 N.cons (aw:=λh=>∃a b c,e a b c/\(∀f∈Y.X,f∈a)/\u H #[Y.d,Y.O,Y.I,a,bl k c Y.q,b] h)
  (.mk λm n o p d=>o9 (g.go m n _ o p d λv q s #[a,b,c,e,f,t,r]=>u.gn (aa:=q) (Y:=#[Y.d,Y.O,Y.I,a,Y.q,b]) t i r λn o g g g g m=>#[s.gH,a,b,c,e,f,m]) j)
  λh #[a,b,c,e,f,d]=>eQ #[Y.d,Y.O,Y.I,a,bl k c Y.q,b] H V rfl rfl rfl rfl d (l a b c e f)
def N.Cq {d:lG}(h:aU Y H k d)(i:mq Y.I=aj)(j:f6 k ah pos.line Y.I=pure aj)
 (l:∀a b c,d a b c->(∀e∈Y.X,e∈a)->N H #[Y.d,Y.O,Y.I,a,Y.q,b] m n):N H Y (.Expr k pos::m) n:=
 N.cons (aw:=λg=>∃a b c,d a b c/\(∀e∈Y.X,e∈a)/\u H #[Y.d,Y.O,Y.I,a,Y.q,b] g)
  (.mk λk m n o d=>oa (h.go k m _ n o d λs t p #[a,b,c,e,f,q,r]=>#[p,a,b,c,e,f,q]) i j)
  λg #[a,b,c,e,f,d]=>eQ #[Y.d,Y.O,Y.I,a,Y.q,b] H V rfl rfl rfl rfl d (l a b c e f)
end
inductive ne:i->Prop
 |none:ne .none|int (L):ne (.int L)|str (aa):ne (.str aa)|ref (ac):ne (.val<| .ref ac)
def ne.handed {b:i}(c:ne b)(r:bb m n k b):handedIn k=z:=by
 cases c with
 |none=>obtain rfl:=r.is;rfl|int b=>show p r.is λd a=>?_;show bw a ?_;rfl|str b=>show p r.is λd a=>?_;show bw a ?_;rfl|ref a=>obtain rfl:=r.is;rfl
structure se (aw:ht)(b:T)(a:v):Prop where
 plain:plainGet aw b a=z
 has:uK aw b=z
 no:sf aw (.ref b) a=J ah
structure pf (aw:ht)(b ak:T)(a:v)(L:Nat):Prop where
 plain:plainGet aw b a=z
 is:(clsIn aw b).isSome=z
 at_:sf aw (.ref b) a=J (J<| .ref ak)
 get:specialIn aw (.ref ak) "__get__"=J (J<| .builtin "member_descriptor.__get__")
 yf:takesIn aw (.ref ak)=J z
 slot:slotIn aw ak b=J L
 oe:sg aw (.ref ak)=J (.type "member_descriptor")
 small:L<1000
structure k4 (aw:ht)(b:T)(a:v)(r:Option ba):Prop where
 set:sf aw (.ref b) "__setattr__"=J (J<| .builtin "object.__setattr__")
 yg:plainOver aw b=z
 yh:takerIn aw b a=J r
def h8.Jq (a:h8 m n k o):k.any (·.refKey)=aj:=by
 induction a with
 |nil=>rfl|cons _ _ b=>rw[tQ,b];rfl
def Jr (b:v)(c:Int)(d e:ba)(a:List kG):(putL b c d e a).length<=a.length+1:=by
 induction a with
 |nil=>show cg _|cons b a f=>
  rw[putL];split
  .show lB _
  .show qB f
section
variable {Y:be}{H:aP}{aw:ht}
def cV.bD (a:cV Y k)(X:aw.In Y.d.B):aw.In k:=λb o c=>a.fq _ _<|X b o c
def bH.kk (r:bH k m n w (.aG o)):bH.Is k m n w (.aG o):=r.is
def bH.Js (r:bH k m n o (.ns w)):bH.Is k m n o (.ns w):=r.is
def bH.yi (r:bH k m n o (.slots w ds)):bH.Is k m n o (.slots w ds):=r.is
def pg (c:bH Y.d o k w (.aG<|c3 r m))(d:bH Y.d o k m (.ns x)):∃a n,InstAt k w (c3 r m) r (J<|j7 a n)/\k.get? m=J (j7 a n)/\h8 Y.d o a x:=by
 show gh d.Js λa n b e=>?_;show f4 a n #[c.kk,V,D,b] b e
structure f8 (Y:be)(r:i)(a:v)(af:i):Prop where
 go:∀(aK:cW)(aa:aS)(bM:bY)(bv:bY)(ae:ba)(b:Bool),dA aK Y.O->cV Y aa.heap->bb Y.d (l aa.heap Y.X) ae r->
  (∀aq c,bb Y.d (l aa.heap Y.X) aq af->bM aq {aa with toks:=c})->au Y.d.M aK (kf ae a b) bM bv aa
def f8.dict (X:aw.In Y.d.B)(d:(ae,.aG (c3 o w))∈Y.G)(e:(w,.ns bF)∈Y.G)(f:bF.lookup m=J k)(g:ne k)(a:se aw o m):f8 Y (.val<| .ref ae) m k:=.mk λi j l m c o p b r h=>by
 obtain rfl:=r.is;show f3 (pg (b.G _ d).2 (b.G _ e).2) λl n i m j=>?_;show aY (j.get.1 k f) λc e d=>?_;show get_value (b.bD X) i (k6 a.plain).1 (findObj_own a.has a.no D e) (g.handed d)<|h c _ d
def f8.slot (X:aw.In Y.d.B)(f:(ac,.slots b ds)∈Y.G)(g:ds[k]?=J af)(h:ne af)(a:pf aw b n m k):f8 Y (.val<| .ref ac) m af:=.mk λj c k m d n o e r i=>by
 obtain rfl:=r.is;show f3 ((e.G _ f).2.yi) λj k m n o=>?_;show aY (o.get g) λd p f=>?_;have g:InstAt c.heap ac {cls:=.ref b,dict:=J j,data:=.plain,slots:=(k.map J).toArray} b (J f5):=#[m,V,D,l.of _ _ n];show get_bind (e.bD X) g (k6 a.plain).1 (findObj_data a.is a.at_ a.get a.yf) (k6 a.plain).2<|hS<|slot_get (s:={c with toks:=c.toks+1}) (e.bD X) g a.slot (v:=d) ?_<|handed_on (h.handed f)<|i d _ f;simp[p]
def R.fl {a:v}(h:R Y o r)(i:f8 Y r a af)(j:eval (.Attribute o a pos) Y.I=(do
 let m <-eval o Y.I
 es pos.atName
 let k <-e7 [m] (kf m a z)
 xc o m k
 pure k)):R Y (.Attribute o a pos) af:=.mk λa b f c d e l=>
 Attribute_any_ (h.go a b _ c d e λm f n g p=>i.go a {b with heap:=f,toks:=n} _ c m z d (e.keep g) p λk a b=>l k f a g b) j
structure fb (Y:be)(H:aP)(r:i)(a:v)(af:i)(bi:aE):Prop where
 go:∀(aK:cW)(aa:aS)(bM:lp)(bv:bY)(ae aq:ba),dA aK Y.O->u H Y aa.heap->bb Y.d (l aa.heap Y.X) ae r->bb Y.d (l aa.heap Y.X) aq af->
  (∀h' b,u H #[Y.d,Y.O,Y.I,Y.X,Y.q,bi] h'->bM () {aa with heap:=h',toks:=b})->au Y.d.M aK (setAttr ae a aq) bM bv aa
def qF {a:T}(b:h9 a k h')(c:a∈Y.X):Q (l h' Y.X) (l k Y.X):=l.mR λa o n d=>b.extBut a o (λe=>n<|e▸c) d
def fb.dict (X:aw.In Y.d.B){bF:bg}{bE b4:aE}(q:(ae,.aG (c3 o m))∈Y.G)(v:Y.G=bE++(m,.ns bF)::b4)(K:bF.length<=100)(L:uK aw o=z)(l:k4 aw o k ah):fb Y H (.val<| .ref ae) k M (bE++(m,.ns (mT bF k M))::b4):=.mk λM N Q R S g T b r w x=>by
 obtain rfl:=r.is;have A:(m,.ns bF)∈Y.G:=v▸bB ap;show f3 (pg (b.G _ q).2 (b.G _ A).2) λf n p h i=>?_;obtain⟨c,B,E,d,F⟩:=N;dsimp only at b p h w x i;show set_plain (s:=#[c,B,E,d,F]) (b.tocV.bD X) p l.set ?_;show osa_open (s:=#[c,B,E,d+1,F]) (b.tocV.bD X) p l.yg l.yh λM=>?_;show aY (any_some L) λp l P=>?_;have G:h9 m c (c.update m<|eg.putName k (tt Y.d.w.params k) (.str k<|d+1) g):=ji ..;have I:(c.update m<|eg.putName k (tt Y.d.w.params k) (.str k<|d+1) g).get? m=J (j7 (putL k (tt Y.d.w.params k) (.str k<|d+1) g f)<|putN k f n):=by
  mspec nc _ h (by rw[putName_dict];rfl);rw[putName_dict]
 show ar<|bc<|ar<|ar<|wpAny_loadPart ((b.G _ q).2.kk)<|ar<|(looks_clsIn (b.tocV.bD X) l).at ?_;mspec P;show bc (a:=J m)<|ar<|bc<|ar ?_;unfold nsSet;show ar<|ar<|wpAny_askSetting<|bc<|ar<|wpAny_mkText<|ar<|wpAny_loadPart h ?_;dsimp only;have o:(!f.toArray.any (·.key.isStr k)&&f.toArray.any (·.refKey))=aj:=by
  mspec Jt;mspec Jt;mspec i.Jq;rw[Bool.and_false]
 rw[aRefKeyMayBeTheName_at];mspec o;show wpAny_updatePart h ?_;show ar<|wpAny_lookBehind I (pastItsLine_dict ?_) ?_
 .mspec o1;mspec sizeLine_eq;show bd [.j C<| .O 100,.j y<| .e t,.j t C] 0 y (.e<| .O 16777216) D K (Jr k (tt Y.d.w.params k) (.str k<|d+1) g f)<|aA i.length
 .show bc<|x _ _ ?_;have d:=qF (Y:=Y) G (b.G _ A).1;show(by show v▸b:u H #[Y.d,Y.O,Y.I,Y.X,Y.q,bE++(m,.ns bF)::b4] c).kW G<| .ns I<|(i.keep d).gD<|w.keep d
def Ju {a3:cv}(a:L<a3.length):((a3.map J).toArray++qG (L+1 - (a3.map J).toArray.size) ah).setIfInBounds L (J aq)=((a3.set L aq).map J).toArray:=by
 mspec o1;rw[a7];mspec Nat.sub_eq_zero_of_le a;mspec Array.replicate_zero;mspec Jv;rw[List.setIfInBounds_toArray];show aJ List.map_set V
def aO.set (b:bb k m o w)(r:aO k m n ds):∀a,aO k m (n.set a o) (ds.set a w):=r.l8 (aM:=λn ds=>∀a,aO k m (n.set a o) (ds.set a w)) (λe=>.nil) λc r d a=>by
 cases a with
 |zero=>show .cons b r|succ a=>show .cons c<|d a
def Cr {b c:Nat}(X:aw.In aa.heap)(d:InstAt aa.heap r Sf w Sg)(g:slotIn aw b w=J c)(h:c<1000)
 (i:x (.ok<| .ret .none) {aa with heap:=aa.heap.update r<|λo=>{o with slots:=(o.slots++qG (c+1 - o.slots.size) ah).setIfInBounds c<|J B}}):
 hR (b2 k m) Sh (.call (.builtin "member_descriptor.__set__") #[[.ref b,.ref r,B],[]]) x aa:=by
 obtain⟨n,l,p,q,s,c,r,t,a,u,A,C,rfl⟩:=slot_of X g;obtain⟨e,c,g,r,x⟩:=aa;have E:=d.type (M:=b2 k m);have F:=looks_mroIn (M:=b2 k m) X A;have c:uL (b2 k m) e (Builtin.Slots.slotNamesOf<| .ref w) t.slotNames:=(looks_clsIn X u).andThen .now;have f:=d.at_;dsimp only at a f E F;have c:=yj (M:=b2 k m) a 0 (v:=.str n l) V;have c:=yj (M:=b2 k m) a 1 (v:=p) V;have c:=yj (M:=b2 k m) a 3 (v:=.builtin "proto.slot#set") V;have c:=yj (M:=b2 k m) a 4 (v:=.int q s) V;show sa yk.plain KF.entry_mset<|yk.check _ _ _ _ _ _ _ _ (av _ a V) (KF.args_mset _ _ _) ?_;unfold Builtin.«member_descriptor.__set__» Sa Sb Sc Sd isInstance;have c:uL (b2 k m) e (Se<| .ref b) [.ref b]:=((Looks.ld (part:=ah) a).andThen .now).andThen (Looks.of_pure<|by room)
 repeat lk
 show#[Cs _ (by decide+kernel),pc KF.entry_slotset ?_];unfold Builtin.«proto.slot#set» Builtin.Slots.target
 repeat lk
 mspec if_neg C;show bc<|ar ?_;unfold setSlotAt;dsimp only;mspec if_neg (by show sizeLine_eq▸λa=>oP [.aL y<| .O 1000,.j (.O 16777216) y] D h a);show wpAny_updatePart f<|bc i
def fb.slot (X:aw.In Y.d.B){ds:dp}{bE b4:aE}{a:Nat}(v:Y.G=bE++(ac,.slots b ds)::b4)(C:a<ds.length)(f:pf aw b M w a)(g:k4 aw b w (J<| .ref M)):fb Y H (.val<| .ref ac) w af (bE++(ac,.slots b (ds.set a af))::b4):=.mk λw t E F G e I d r x y=>by
 obtain rfl:=r.is;have A:(ac,.slots b ds)∈Y.G:=v▸bB ap;show f3 ((d.G _ A).2.yi) λB h i j k=>?_;obtain⟨c,m,n,p,q⟩:=t;dsimp only at d i j k x y;have t:InstAt c ac {cls:=.ref b,dict:=J B,data:=.plain,slots:=(h.map J).toArray} b (J f5):=#[i,V,D,l.of _ _ j];show set_plain (s:=#[c,m,n,p,q]) (d.tocV.bD X) t g.set ?_;show osa_descr (s:=#[c,m,n,p+1,q]) yk (d.tocV.bD X) t g.yg g.yh f.oe ?_;show Cr (aa:=#[c,m,n,p+1,q]) (d.tocV.bD X) t f.slot f.small ?_;have f:h9 ac c (c.update ac<|λo=>{o with slots:=(o.slots++qG (a+1 - o.slots.size) ah).setIfInBounds a<|J e}):=ji ..;have g:(c.update ac<|λo=>{o with slots:=(o.slots++qG (a+1 - o.slots.size) ah).setIfInBounds a<|J e}).get? ac=J {cls:=.ref b,dict:=J B,data:=.plain,slots:=((h.set a e).map J).toArray}:=by
  mspec nc _ i V;show ch (Ju (a3:=h) (L:=a) (aq:=e)<|k.length▸C) V
 have e:u H #[Y.d,Y.O,Y.I,Y.X,Y.q,bE++(ac,.slots b ds)::b4] c:=v▸d;have c:=qF (Y:=Y) f (d.G _ A).1;show y _ _<|e.kW f<| .slots g (c _ _ j)<|(k.keep c).set (x.keep c) a
def N.ph (g:R Y k af)(h:R Y o r)(i:fb Y H r m af bi)(j:f6 k (J<| .Attribute o m n) pos.line Y.I=pure aj)
 (p:N H #[Y.d,Y.O,Y.I,Y.X,Y.q,bi] w x):N H Y (.Assign [.Attribute o m n] k pos::w) x:=
 N.br (X:=Y.X) (Γ:=Y.q) (own:=bi) (.mk λa e b c d=>Ct (g.go a e _ b c.todA d.tocV λk n q f m=>h.go a _ _ b c.todA (d.tocV.keep f) λn q s g t=>
  i.go a {e with heap:=q,toks:=s} _ b n k c.todA ((d.keep f).keep g) t (m.keep<|l.keep _ g) λh' e a=>#[.up,a]) j) p
def N.yl {ac b:Int}(h:R Y o r)(m:f8 Y r k (.int ac))(n:R Y w (.int b))(q:fb Y H r k (.int<|ac+b) bi)
 (s:N H #[Y.d,Y.O,Y.I,Y.X,Y.q,bi] x B):N H Y (.AugAssign (.Attribute o k M) .Add w pos::x) B:=
 N.br (X:=Y.X) (Γ:=Y.q) (own:=bi) (.mk λa c d e f=>Jw (h.go a c _ d e.todA f.tocV λi j t g k=>m.go a {c with heap:=j,toks:=t} _ d i z e.todA (f.tocV.keep g) k λh m u=>by
  show p u.dh λt h=>?_;show bw h ?_;show n.go a {c with heap:=j,toks:=m} _ d e.todA (f.tocV.keep g) λv n t j u=>?_;show p u.dh λm h=>?_;show bw h ?_;show Jj<|q.go a {c with heap:=n,toks:=t+1} _ d i _ e.todA ((f.keep g).keep j) (k.keep<|l.keep _ j) (.int _ _) λh' c a=>#[.up,a])) s
def N.Jx {ac b:Int}(h:R Y o r)(n:f8 Y r k (.int ac))(q:R Y w (.int b))(s:fb Y H r k (.int<|ac - b) m)
 (t:N H #[Y.d,Y.O,Y.I,Y.X,Y.q,m] x B):N H Y (.AugAssign (.Attribute o k M) .Sub w pos::x) B:=
 N.br (X:=Y.X) (Γ:=Y.q) (own:=m) (.mk λa c d e f=>Jw (h.go a c _ d e.todA f.tocV λi j m g k=>n.go a {c with heap:=j,toks:=m} _ d i z e.todA (f.tocV.keep g) k λh n u=>by
  show p u.dh λm h=>?_;show bw h ?_;show q.go a {c with heap:=j,toks:=n} _ d e.todA (f.tocV.keep g) λv m q j u=>?_;show p u.dh λn h=>?_;show bw h ?_;show PySem.P.isub_int<|s.go a {c with heap:=m,toks:=q+1} _ d i _ e.todA ((f.keep g).keep j) (k.keep<|l.keep _ j) (.int _ _) λh' c a=>#[.up,a])) t
end
section
variable {Y:be}{H:aP}
structure og (Y:be)(H:aP)(aT:ba)(args:cv)(an:aX)(ki:lG):Prop where
 go:∀(aK:cW)(aa:aS)(a:t2->aS->Prop),je aK Y.O Y.I H.cR->aa.heap=an->u H Y an->(∀aq bS,cs aa bS H.bZ->nd aq bS.heap H Y ki->a (.ok<| .ret aq) bS)->hR Y.d.M aK (.call aT #[args,[]]) a aa
def g9.mr (g:g9 Y.d r w m body)(p:Y.O=n+1)(q:m.length=ds.length)(h:Y.G.Perm (ai++keep))
 (s:∀b:aS,b.heap=k->u H Y k->gJ Y.d w #[args,[]] m Y.X ds b)
 (t:∀i j h0,N #[h0,Y.X,ah,H.bZ] #[Y.d,n,bV w i r,j,m.zip ds,ai] body (et Y.d #[h0,Y.X,ah,H.bZ] ai x)) (v:∀d e,x d e->B (Y.X++aI d) (d++keep) e):og Y H (.ref r) args k B:=.mk λy b m A C c f=>by
 subst C;have m:=(h.pairwise c.dt<|λk f=>k f.symm);show g.uo (show dA y (n+1)from p▸A.todA) c.base c.cw (s b V c) q (h0:=cq b.heap<|aI ai) (λD o f=>ff _ f) (own:=ai) (λg a=>c.G g<|(λg a=>h.mem_iff.mpr<|bJ a) g a) (λg a=>cU _<|c9 a) (ih.mp m).1 (fr:=ah) (gen:=H.bZ) (λg k=>nomatch k)
  λi j k m p q g=>?_
 show dr ((t i j _).go _ {b with heap:=k,toks:=m} _ p q) (λb E l=>?_) λg g b=>b;obtain⟨F,G,e,d,l,I,K,L⟩:=l;have b:=f G E (cs.up.trans F) #[_,_,e,v d e I,λD a=>bJ a,c.after h K,L];rcases l with rfl|⟨rfl,rfl⟩<;>show b
def og.call (d:∀a(b:aX),u H Y b->aO Y.d (l b Y.X) a ds->og Y H k a b m):dY Y H k ds m:=.mk λe b i j a f c g h=>
 hS ((d a b.heap c g).go e b _ f V c λi j k o=>h i j k o)
end
section
variable {Y:be}{H:aP}{aw:ht}
def aU.m4 (f:∀a,a∉Y.X->a∉H.cB->k (a::Y.X) ((a,.list [])::Y.G) (.val<| .ref a)):aU Y H (.List [] m) k:=.mk λd b i j k e h=>
 tT (ly #[ey _,by
  have d:=e.iF d3;have i:=e.gI d3 #[_,dM b.heap (o:={cls:=.type "list",data:=.seq ([]:cv).toArray}) c]<|Q.push _ _;show h _ _ .up #[_,_,_,f b.heap.objs.size d.2.1 d.2.2.2,λa e=>g e,i.ig (af:=.list []) ap (.list #[0,dM _ c] .nil) d.2.2.1 (show b.heap.objs.size∉d5 #[Y.d,Y.O,Y.I,b.heap.objs.size::Y.X,Y.q,Y.G]from d.1),.val _]])
def Cu (c:∃a o,@m5 Nat _ i8 a/\Y.d.B.get? a=J o)(d:cV Y k):(k.objs.size==i8)=aj:=by
 show beq_eq_false_iff_ne.mpr λe=>?_;show gh c λa o b f=>?_;have g:=gk<|d.fq _ _ f;rw[<-e]at b;show mP _<|nO g b
def aU.Cv (f:∃b o,@m5 Nat _ i8 b/\Y.d.B.get? b=J o):aU Y H (.Dict [] [] k) (λd e h=>∃a,a∉Y.X/\a∉H.cB/\d=a::Y.X/\e=(a,.bN [])::Y.G/\h=.val (.ref a)):=.mk λd b i j k e h=>
 BQ (by
  have d:=e.iF d3;have i:=e.gI d3 #[_,dM b.heap (o:={cls:=.type "dict",data:=.dict (aRR [])}) c]<|Q.push _ _;show h _ _ .up #[_,_,_,(w3 b.heap.objs.size d.2.1 d.2.2.2 V rfl rfl),λa j=>g j,i.ig (af:=.bN []) ap (.bN (Cu f e.tocV) (BR _) V .nil) d.2.2.1 (show b.heap.objs.size∉d5 #[Y.d,Y.O,Y.I,b.heap.objs.size::Y.X,Y.q,Y.G]from d.1),.val _])
def Jy {aq:ba}:((a3.map J).toArray++qG (a3.length+1 - (a3.map J).toArray.size) ah).setIfInBounds a3.length (J aq)=((a3++[aq]).map J).toArray:=by
 mspec(show a3.length+1 - (a3.map J).toArray.size=1 from by simp);simp[List.set_append]
def fb.ym (X:aw.In Y.d.B){a b t:T}{bE b4:aE}(v:Y.G=bE++(a,.slots b ds)::b4)(g:pf aw b t w ds.length)(h:k4 aw b w (J<| .ref t)):fb Y H (.val<| .ref a) w M (bE++(a,.slots b (ds++[M]))::b4):=.mk λt C w E F f G d r x y=>by
 obtain rfl:=r.is;have A:(a,.slots b ds)∈Y.G:=v▸bB ap;show f3 ((d.G _ A).2.yi) λB e i j k=>?_;obtain⟨c,m,n,p,q⟩:=C;dsimp only at d i j k x y;have t:InstAt c a {cls:=.ref b,dict:=J B,data:=.plain,slots:=(e.map J).toArray} b (J f5):=#[i,V,D,l.of _ _ j];show set_plain (s:=#[c,m,n,p,q]) (d.tocV.bD X) t h.set ?_;show osa_descr (s:=#[c,m,n,p+1,q]) yk (d.tocV.bD X) t h.yg h.yh g.oe ?_;show Cr (aa:=#[c,m,n,p+1,q]) (d.tocV.bD X) t g.slot g.small ?_;have g:=k.length;show ch g ?_;have g:h9 a c (c.update a<|λo=>{o with slots:=(o.slots++qG (e.length+1 - o.slots.size) ah).setIfInBounds e.length<|J f}):=ji ..;have h:(c.update a<|λo=>{o with slots:=(o.slots++qG (e.length+1 - o.slots.size) ah).setIfInBounds e.length<|J f}).get? a=J {cls:=.ref b,dict:=J B,data:=.plain,slots:=((e++[f]).map J).toArray}:=by
  mspec nc _ i V;show ch (Jy (a3:=e) (aq:=f)) V
 have e:u H #[Y.d,Y.O,Y.I,Y.X,Y.q,bE++(a,.slots b ds)::b4] c:=by show ch v ?_;show d
 have a:=qF (Y:=Y) g (d.G _ A).1;show y _ _<|e.kW g<| .slots h (a _ _ j)<|(k.keep a).append<| .cons (x.keep a) .nil
def N.uM (i:aU Y H k w)(p:f6 k (J<| .Attribute o m x) pos.line Y.I=pure aj)
 (q:∀a c d,w a c d->(∀e∈Y.X,e∈a)->∃b,R #[Y.d,Y.O,Y.I,a,Y.q,c] o r/\fb #[Y.d,Y.O,Y.I,a,Y.q,c] H r m d b/\N H #[Y.d,Y.O,Y.I,a,Y.q,b] n bU):N H Y (.Assign [.Attribute o m x] k pos::n) bU:=
 N.cons (aw:=λj=>∃a b,u H #[Y.d,Y.O,Y.I,a,Y.q,b] j/\N H #[Y.d,Y.O,Y.I,a,Y.q,b] n bU)
  (.mk λe n f g h=>Ct (i.go e n _ f g h λs k t #[a,c,d,v,w,m,x]=>by
   show g2 (q a c d v w) λb n y i=>?_;show n.go e k _ f g.todA m.tocV λd q v c w=>?_;show y.go e {k with heap:=q,toks:=v} _ f d s g.todA (m.keep c) w (x.keep<|l.keep _ c) λh' k e=>#[t.gH,a,b,e,i]) p)
  λj c=>gh c λa b h i=>eQ #[Y.d,Y.O,Y.I,a,Y.q,b] H V rfl rfl rfl rfl h i
def dY.Jz (X:aw.In Y.d.B){b oh:T}{n:Nat}(G:makesIn aw b=z)(I:sf aw (.ref b) "__init__"=J (J<| .ref oh))(K:sg aw (.ref oh)=J (.type "function"))(L:Y.O=n+1)
 (first:∀(u a:aX)(d m:T),a.get? d=J (c3 b m)->a.get? m=J f5->u.get? m=J f5->∃p:i,bH Y.d u a d p/\p=.slots b [])
 (M:∀d j a,d∉Y.X->d∉H.cB->aO Y.d (l a<|d::Y.X) j ds->og #[Y.d,n,Y.I,d::Y.X,Y.q,(d,.slots b [])::Y.G] H (.ref oh) (.ref d::j) a (λq r s=>s=.none/\Sf q r (.val<| .ref d))):dY Y H (.ref b) ds Sf:=.mk λv N d m j w h x e=>by
 obtain⟨a,O,s,P,R⟩:=N;dsimp only at h x e;show hS<|make_core (makes_of (h.tocV.bD X) G) (looks_findIn (h.tocV.bD X) I) (λd=>bind_fn (h.tocV.bD X) d K) (.inl D) ?_;have d:(a.push f5).objs.size=a.objs.size+1:=mi ..;have m:=h.keep<|Q.push a f5;have u:(a.push f5).get? (a.objs.size+1)=ah:=by show ch d ?_;show d3
 have y:((a.push f5).push<|c3 b a.objs.size).get? (a.objs.size+1)=J (c3 b a.objs.size):=by show ch d ?_;show dM _ c
 have A:((a.push f5).push<|c3 b a.objs.size).get? a.objs.size=J f5:=gj _<|dM _ c;have k:=m.iF u;have S:=m.gI u #[_,y]<|Q.push _ _;have U:(l ((a.push f5).push<|c3 b a.objs.size)<|(a.objs.size+1)::Y.X).get? a.objs.size=J f5:=cb _ A λf=>by
  show ay (d2 f) (λe=>?_) λf=>?_
  .show absurd e<|g6<|fy _
  .show(h.tocV.new) f
 obtain⟨p,W,rfl⟩:=first _ _ _ _ y A U;have B:=S.ig (af:=.slots b []) ap W k.2.2.1 k.1;have Z:Q (l ((a.push f5).push<|c3 b a.objs.size)<|(a.objs.size+1)::Y.X) (l a Y.X):=λC o e=>by
  have E:=l.of _ _ e;show cb _ (gj _<|gj _ E) λf=>?_;show ay (a5 f) (λSg=>?_) λf=>?_
  .obtain rfl:=Sg;have d:=gk E;show absurd d<|g7.mpr<|lB _
  .replace e:=(cU _ f)▸e;cases e
 show(M (a.objs.size+1) j _ k.2.1 k.2.2.2<|x.keep Z).go _ #[(a.push f5).push<|c3 b a.objs.size,O,s,P,R] _ ?_ V ?_ λd Sh Si #[q,r,h,#[hd,Sj],Sk,F,Sl]=>?_
 .have t:=w.todA;replace t:=L▸t;show#[t.rE V rfl rfl (by decide:1<=3),λa d=>(show(v.under<|Code.builtin "type.__call__" #[.ref b::j,[]]).frames=v.frames from rfl).trans<|w.o8 a d]
 .show{B with tocV:={B.tocV with}}
 .subst hd;obtain rfl:=Sl.is;show#[V,e _ Sh (cs.up.trans Si) #[q,r,_,Sj,λC f=>Sk C<|g f,{F with tocV:={F.tocV with}},.val _]]
end
structure jR (aw:ht)(b aT:T)(a:v):Prop where
 plain:plainGet aw b a=z
 at_:sf aw (.ref b) a=J (J<| .ref aT)
 oe:sg aw (.ref aT)=J (.type "function")
 kept:keepIn aw (.ref aT)=z
section
variable {Y:be}{H:aP}{aw:ht}
def E.sh (o:R Y r af)(p:fM Y.I k)
 (q:af.isNone=z->N H #[Y.d,Y.O,Y.I,Y.X,bl k af Y.q,Y.G] w m) (s:af.isNone=aj->N H #[Y.d,Y.O,Y.I,Y.X,bl k af Y.q,Y.G] x m):E Y H (.If (.Compare (.NamedExpr (.Name k B) r M) [.Is] [.Constant .none Sf Sg] Sh) w x pos) m:=.mk λe d f g h=>by
 show rT<|w9 (wpAny_NamedExpr<|o.go e d _ f g.todA h.tocV λv k m r i=>iz<|(h.keep r).gn (aa:={d with heap:=k,toks:=m}) p i λj l h a a a n=>?_) c;show A8<|Be<|ma ?_;mspec i.isNone;cases hd:af.isNone with
 |true=>show dr ((q hd).go e {d with heap:=j,toks:=l} f g n) (λt u b=>#[cs.up.trans b.1,b.2]) λa a H=>H|false=>show dr ((s hd).go e {d with heap:=j,toks:=l} f g n) (λt u b=>#[cs.up.trans b.1,b.2]) λa a H=>H
def fB.bN {ds}{a:v}{id:String}(b:as Y r (.bN ds))(c:Slot "dict" a id)(d:qr (.builtin id)=pure (.type "method_descriptor")):fB Y r a id:=λa h i j k l e r f=>by
 obtain⟨a,rfl,g⟩:=b.obj e r;show gi g.mc λb e a h i=>?_;show qs a.typeIs ID c d a.mapOf.noDict f
def bO.uN (b:as Y r (.bN m)):bO Y (.builtin "dict.get") [r,.str k] ((m.lookup k).getD .none):=.mk λa c g h i o d e f=>by
 show cm e.eV λg h a=>?_;show eP a λe g=>?_;show p g.dO λh a=>?_;show bw a ?_;show p (b.obj d e) λg a=>?_;show ci a λb=>?_;show gi b.mc λo d a e i=>?_;show ao (aO.lookup e i k) λj l=>?_;show xQ qt a.typeIs IG (PySem.F.args_dict_get_2 _ _) (meets_dict_get (strKind Y.d.prog Y.d.w) g (o2 _ _ k h) d)<|av _ a.mapOf<|f _ c.heap _ (Q.bf _) ?_;cases z:m.lookup k with
 |none=>show(j z)▸ .none|some n=>show aY (l n z) λc a b=>?_;show a▸b
def N.JA {B:lG}(F:aU Y H M B)(G:fM Y.I k)(I:(xn [.Subscript o m w,.Name k x] Y.I).map (·.2)=[lA (.Subscript o m w) Y.I,lA (.Name k x) Y.I])(K:uI [.Subscript o m w,.Name k x] M Y.I=pure ah)
 (L:∀a f c,B a f c->(∀b∈Y.X,b∈a)->∃b d e g h,f=g++(b,.bN e)::h/\e.length<=aD/\R #[Y.d,Y.O,Y.I,a,Y.q,f] o (.val<| .ref b)/\R #[Y.d,Y.O,Y.I,a,Y.q,f] m (.str d)/\
  N H #[Y.d,Y.O,Y.I,a,bl k c Y.q,g++(b,.bN (ie e d c))::h] r Sf):N H Y (.Assign [.Subscript o m w,.Name k x] M pos::r) Sf:=
 N.cons (aw:=λC=>∃a i j,u H #[Y.d,Y.O,Y.I,a,i,j] C/\N H #[Y.d,Y.O,Y.I,a,i,j] r Sf)
  (.mk λp k q s t=>wpAny_Assign_two (F.go p k _ q s t λO D P #[a,f,c,S,T,v,U]=>by
   obtain⟨b,d,e,g,h,rfl,W,X,Z,y⟩:=L a f c S T;rw[assign_Subscript];show ar<|g5<|X.go p D _ q s.todA v.tocV λm f k A Sg=>ar<|g5<|Z.go p {D with heap:=f,toks:=k} _ q s.todA (v.tocV.keep A) λf Sh m E Si=>?_;obtain rfl:=Sg.is;obtain⟨Sj,rfl⟩:=Si.dO;have k:=(v.keep A).keep E;show ao (k.G (b,.bN e)<|bB ap) λq m=>?_;show gi m.mc λp s v f w=>?_;have x:p.length=e.length:=by have:=congrArg fL f;simpa using this
   show ar<|jK<|ar<|g5<|B3 (o2 _ _ d Sj) v (λh' B m=>?_)<|x▸W;show wpAny_release ?_;have p:Q (l h' a) (l Sh a):=l.mR λr o n v=>m.extBut r o (λx=>n<|x▸q) v;have q:=((U.keep<|l.keep _<|A.trans E).keep p);show iz<|u.gn (Y:=#[Y.d,Y.O,Y.I,a,Y.q,g++(b,.bN (ie e d c))::h]) (u.kW (Y:=#[Y.d,Y.O,Y.I,a,Y.q,[]]) k m<| .bN s B (xJ f d O c)<|aO.xK q d f<|w.keep p) G q λg h b b b b e=>#[P.gH,a,_,_,e,y]) I K)
  λC b=>eY b λa i j t y=>eQ #[Y.d,Y.O,Y.I,a,i,j] H V rfl rfl rfl rfl t y
def aU.yn (X:aw.In Y.d.B)(l:(x,.aG (c3 Sg Sh))∈Y.G)(p:(Sh,.ns Si)∈Y.G)(q:Si.lookup k=ah)(b:jR aw Sg B k)
 (a:R Y o (.val<| .ref x)) (t:W Y pos (w::m) ds) (u:dY Y H (.ref B) (.val (.ref x)::ds) Sj) (v:bh (w::m) Y.I=(aj,eval w Y.I)::bh m Y.I) (y:(cY pos<|bh m Y.I).any (·.1)=aj)
 (A:eval (.Call (.Attribute o k M) (w::m) [] pos) Y.I=(do
  let Sf <-eval o Y.I
  es M.atName
  let(B,first) <-e7 [Sf] (gK Sf k Sk)
  dP pos B first (cY pos<|bh (w::m) Y.I) [])):aU Y H (.Call (.Attribute o k M) (w::m) [] pos) Sj:=.mk λd c C e f g D=>
 jP (pl:=Sk) (a.go d c _ e f.todA g.tocV λh i j E F=>by
  obtain rfl:=F.is;have a:=g.keep E;show f3 (pg (a.G _ l).2 (a.G _ p).2) λg n m B w=>?_;have l:yo (J<|j7 g n) k=J aj:=by
   show(?_:(uO k<|j7 g n).map _=_);rw[uP];mspec w.get.2 q;rfl
  show yp (s:={c with heap:=i,toks:=j}) (a.tocV.bD X) m (k6 b.plain).1 (k6 b.plain).2 b.at_ b.oe l ?_;show Cw (a.tocV.bD X) b.kept (t.go d {c with heap:=i,toks:=j} _ e f.todA a.tocV λg i k b l=>#[(a.keep b).tocV.bD X,u.go d {c with heap:=i,toks:=k} C e (.ref x::g) f (a.keep b) (.cons (.val _) l) λh c d r=>D h c (cs.up.trans d) r]) v y) A
def aU.si (X:aw.In Y.d.B)(l:(m,.aG (c3 M Sf))∈Y.G)(p:(Sf,.ns Sg)∈Y.G)(q:Sg.lookup k=ah)(a:jR aw M w k)
 (b:R Y o (.val<| .ref m)) (t:dY Y H (.ref w) [.val<| .ref m] Sh)
 (u:eval (.Call (.Attribute o k x) [] [] pos) Y.I=(do
  let B <-eval o Y.I
  es x.atName
  let(w,first) <-e7 [B] (gK B k Si)
  dP pos w first (cY pos<|bh [] Y.I) [])):aU Y H (.Call (.Attribute o k x) [] [] pos) Sh:=.mk λf c v g h i y=>
 jP (pl:=Si) (b.go f c _ g h.todA i.tocV λj d e A C=>by
  obtain rfl:=C.is;have b:=i.keep A;show f3 (pg (b.G _ l).2 (b.G _ p).2) λi n w A x=>?_;have l:yo (J<|j7 i n) k=J aj:=by
   show(?_:(uO k<|j7 i n).map _=_);rw[uP];mspec x.get.2 q;rfl
  show yp (s:={c with heap:=d,toks:=e}) (b.tocV.bD X) w (k6 a.plain).1 (k6 a.plain).2 a.at_ a.oe l ?_;show Cx (s:={c with heap:=d,toks:=e}) (b.tocV.bD X) a.kept<|t.go f {c with heap:=d,toks:=e} v g [.ref m] h b (.cons (.val _) .nil) λj a c r=>y j a (cs.up.trans c) r) u
def aU.JB (X:aw.In Y.d.B)(h:R Y (.Name n o) (.val<| .ref w))(i:keepIn aw (.ref w)=z)(j:W Y pos (m::k) ds)(l:dY Y H (.ref w) ds x)
 (p:bh (m::k) Y.I=(aj,eval m Y.I)::bh k Y.I) (q:(cY pos<|bh k Y.I).any (·.1)=aj)
 (s:eval (.Call (.Name n o) (m::k) [] pos) Y.I=(do dP pos (<-eval (.Name n o) Y.I) [] (cY pos<|bh (m::k) Y.I) (jI pos<|jJ [] Y.I))):aU Y H (.Call (.Name n o) (m::k) [] pos) x:=.mk λc d t e f a u=>
 jb (h.go c d _ e f.todA a.tocV λg v y b A=>by
  obtain rfl:=A.is;show Cw ((a.keep b).tocV.bD X) i (j.go c {d with heap:=v,toks:=y} _ e f.todA (a.keep b).tocV λi j k h m=>#[((a.keep b).keep h).tocV.bD X,l.go c {d with heap:=j,toks:=k} t e i f ((a.keep b).keep h) m λg c d r=>u g c (cs.up.trans d) r]) p q) s
def aU.Cy (X:aw.In Y.d.B)(j:R Y (.Name k m) (.val<| .ref n))(l:keepIn aw (.ref n)=z)(o:dY Y H (.ref n) [] w)
 (p:eval (.Call (.Name k m) [] [] pos) Y.I=(do dP pos (<-eval (.Name k m) Y.I) [] (cY pos<|bh [] Y.I) (jI pos<|jJ [] Y.I))):aU Y H (.Call (.Name k m) [] [] pos) w:=.mk λc a q d e b t=>
 jb (j.go c a _ d e.todA b.tocV λf g h i u=>by
  obtain rfl:=u.is;show Cx (s:={a with heap:=g,toks:=h}) ((b.keep i).tocV.bD X) l<|o.go c {a with heap:=g,toks:=h} q d [] e (b.keep i) .nil λf a c r=>t f a (cs.up.trans c) r) p
end
inductive nf (Y:be)(H:aP)(ce:iR)(an:aX):Prop
 |Ia (a:aZ) (Γ:bg) (own:aE) (b:∀ac∈Y.X,ac∈a) (cD:ce Γ own) (c:u H #[Y.d,Y.O,Y.I,a,Γ,own] an):nf Y H ce an
section
variable {Y:be}{H:aP}
def u.Cz (e:u H Y k)(g:∀b∈dB,b∈Y.X)(h0:∀b∈H.cB,b∈dB)(f:Y.I.locals∈dB/\∀c∈Y.I.cells,c.2∈dB):u H #[Y.d,Y.O,Y.I,dB++aI Y.G,Y.q,Y.G] k:=
 e.n5 (λb a=>by
  show cL a (λa=>?_) λa=>?_
  .show g b a
  .show g0 a λc d=>?_;show(e.G c d).1) (λb a=>by
  rcases iE a with rfl|⟨c,d,rfl⟩|⟨c,d,rfl⟩
  .show bJ f.1
  .show bJ<|f.2 c d
  .show bB<|c9 d) λb a=>bJ<|h0 b a
def u.CA (a:u H #[Y.d,Y.O,Y.I,Y.X,Y.q,ng++own] k):u H #[Y.d,Y.O,Y.I,Y.X,Y.q,own] k:=
 {base:=a.base,cw:=a.cw,d8:=a.d8,kind:=a.kind,de:=a.de,ns:=a.ns,cells:=a.cells,apart:=a.apart,cn:=a.cn,ft:=a.ft,new:=a.new,sub:=a.sub
  G:=λb c=>a.G b (bB c)
  cN:=λb c=>a.cN b (bB c)
  dt:=(ih.mp a.dt).2.1}
def u.JC (a:u H #[Y.d,Y.O,Y.I,Y.X,Y.q,own] k)(d:u H #[Y.d,Y.O,Y.I,yq,JD,m++JE] dR)(f:∀c∈m,∀o,dR.get? c.1=J o->k.get? c.1=J o)(g:Q (l k Y.X) (l dR yq))(h:∀e∈yq,e∈Y.X)
 (i:∀c∈m,∀b∈own,c.1≠b.1):u H #[Y.d,Y.O,Y.I,Y.X,Y.q,m++own] k:=
 {base:=a.base,cw:=a.cw,d8:=a.d8,kind:=a.kind,de:=a.de,ns:=a.ns,cells:=a.cells,apart:=a.apart,cn:=a.cn,ft:=a.ft,new:=a.new,sub:=a.sub
  G:=λc b=>by
   show cL b (λb=>?_) λb=>?_
   .show ao (d.G c<|bJ b) λe r=>?_;show#[h _ e,r.lw g<|f c b]
   .show a.G c b
  cN:=λc b=>by
   show cL b (λb=>?_) λb=>?_
   .show d.cN c<|bJ b
   .show a.cN c b
  dt:=ih.mpr<|cH ((ih.mp d.dt).1) a.dt i}
def nd.eq (a:nd m k H Y (iJ Y n)):u H Y k/\bb Y.d (l k Y.X) m n:=by
 obtain⟨_,_,_,⟨rfl,rfl,rfl⟩,_,b,r⟩:=a;show#[b,r]
inductive yr (Y:be)(H:aP)(ce:Nat->iR)(ng:aE)(cz:T)(a:Nat->aX->Prop)(dR:aX)(bP:Nat)(aa:aS)(am:Nat)(bS:aS):Prop
 |mk (L:Nat) (Γ:bg) (own:aE) (b:cs aa bS H.bZ) (c:L<=bP) (d:am=bP+1 - L) (e:a L bS.heap) (cD:ce L Γ own) (f:u H #[Y.d,Y.O,Y.I,cz::(Y.X++aI own),Γ,own] bS.heap) (aw:cO Y.X dR bS.heap)
  (b:∀ak∈own,ak.1≠cz/\ak.1∉aI ng/\(ak.1∈Y.X\/dR.get? ak.1=ah)) (c:∀al∈aI ng,∀o,dR.get? al=J o->bS.heap.get? al=J o):yr Y H ce ng cz a dR bP aa am bS
inductive CB (Y:be)(H:aP)(b:iR)(ng:aE)(cz:T)(dR c:aX)(gC:aZ)(a:aX):Prop
 |mk (Γ:bg) (own:aE) (cD:b Γ own) (d:u H #[Y.d,Y.O,Y.I,cz::(Y.X++aI own),Γ,own] a) (e:∀ak∈own,ak.1≠cz/\ak.1∉aI ng/\(ak.1∈Y.X\/dR.get? ak.1=ah)) (aw:cO gC c a):CB Y H b ng cz dR c gC a
def E.ms (ce:Nat->iR)(SI:iR)(v F:aE)(Ss:Y.G=v++F)(S6:aU Y H iter (iJ Y r))(S7:∀c,r=.val (.ref c)->c∈aI v\/∃o,∀q Γ own,ce q Γ own->(c,i.aG o)∈own)(S8:cA Y target r ds)(h0:ce 0 Y.q F)(S9:∀G∈ds,qj Y.I target G)
 (Ta:∀q G O Γ own St,ds[q]?=J G->ce q Γ own->Q St H.cM->(∀j∈Y.X,j∈O)->
  N (H.at St) #[Y.d,Y.O,Y.I,O,gp target G Γ,own] body (rV (nf #[Y.d,Y.O,Y.I,O,[],[]] (H.at St)<|ce<|q+1) (nf #[Y.d,Y.O,Y.I,O,[],[]] (H.at St) SI) SJ))
 (Tb:∀O Γ own C,(∀j∈Y.X,j∈O)->(ce ds.length Γ own\/SI Γ own)->u H #[Y.d,Y.O,Y.I,O,Γ,v++own] C->SJ .next C) (Tc:∀Si,iB iter Y.I Si=pure Si):E Y H (.For target iter body [] pos) SJ:=.mk λP Su SQ R O=>by
 show wpAny_For (S6.go P Su _ SQ R O λSi SR Td Sv=>?_) Tc;obtain⟨t,Sw⟩:∃t,SR.heap=t:=#[_,V];replace Sv:=Sw▸Sv;have I:=Sv.eq.1;have k:u H #[Y.d,Y.O,Y.I,Y.X,Y.q,F] t:=u.CA (Y:=Y) (ng:=v)<|Ss▸I;show S8.go P SR _ SQ Si R.todA (Sw▸I.tocV) (Sw▸Sv.eq.2) λh O St SS S6 it=>?_;rw[Sw]at it;obtain⟨S,SK,ST,SL,Te,Tf,SM,Tg,Th⟩:=it;have SU:H.cM.get? h=ah:=by
  show jA (k.de h) S
 have Sx:h∉Y.X:=λb=>by
  show p (k.cw h b) λo a=>?_;show b6 S a
 have Ti:h≠Y.I.locals:=λa=>Sx<|a▸k.cn.1;have Tj:∀d∈Y.I.cells,h≠d.2:=λd e a=>Sx<|a▸k.cn.2 d e;have Sy:∀c∈aI v,c∈Y.X/\(∃o,t.get? c=J o)/\c≠Y.I.locals/\(∀d∈Y.I.cells,c≠d.2):=λc b=>by
  obtain⟨d,e,rfl⟩:=ck b;have x:d∈Y.G:=Ss▸bJ e;show l6 ((I.G d x).1) ((I.G d x).2.cw) ((I.cN d x).2.1)<|(I.cN d x).2.2
 have Tk:∀c∈aI v,∀d∈F,d.1≠c:=λc b d e a=>by
  obtain⟨T,x,rfl⟩:=ck b;have SV:=I.dt;rw[Ss,ih]at SV;show SV.2.2 T x d e a.symm
 have SW:∀Γ own C,(ce ds.length Γ own\/SI Γ own)->(∀d∈own,d.1≠h/\d.1∉aI v/\(d.1∈Y.X\/t.get? d.1=ah))->u H #[Y.d,Y.O,Y.I,Y.X++aI own,Γ,own] C->cO Y.X t C->(∀c∈aI v,∀o,t.get? c=J o->C.get? c=J o)->SJ .next C:=λΓ own C Sk y Sz SA SB=>by
  show Tb (Y.X++aI own) Γ own C (λj b=>bJ b) Sk ?_;show u.JC (Y:=#[Y.d,Y.O,Y.I,Y.X++aI own,Γ,[]]) (yq:=Y.X) (JD:=Y.q) (JE:=F) (dR:=t) Sz (Ss▸I) (λd e o a=>SB _ (c9 e) o a) (λj o a=>?_) (λj b=>bJ b)<|λd e a C f=>(y a C).2.1<|f▸c9 e;have s:=l.of _ _ a;have U:j∉Y.X:=λb=>by show b6 (cU _ b) a
  show cb _ (SA j o U s) λb=>?_;show cL b (λb=>?_) λb=>?_
  .show U b
  .obtain⟨d,e,rfl⟩:=ck b;show ay ((y d e).2.2) (λf=>?_) λf=>?_
   .show U f
   .show b6 f s
 show JF (yr Y H ce v h SS t ds.length Su) ?_ (ds.length+1)
  #[0,Y.q,F,Td.gH,ey _,V,ST,h0,(u.gI (Y:=#[Y.d,Y.O,Y.I,Y.X++aI F,Y.q,F]) (cz:=h) (k.Cz (dB:=Y.X) (λj b=>b) k.sub k.cn) S (SL _ _ ST) SM),SM.fK _,λd e=>cH (λa=>Sx<|a▸(k.G d e).1) (λb=>Tk _ b d e V)<| .inl (k.G d e).1,λc SX o a=>SM c o a]
 rintro C Tl ⟨q,Γ,own,SY,Tm,rfl,SZ,Sk,Sz,SA,y,SB⟩;have SD:h∉d5 #[Y.d,Y.O,Y.I,h::(Y.X++aI own),Γ,own]:=λb=>by
  show ay (iE b) (λa=>?_) λD=>ay D (λW=>?_) λZ=>?_
  .show Ti a
  .show p W λd w=>?_;show ao w λe a=>?_;show Tj d e a
  .show p Z λd w=>?_;show ao w λe a=>?_;show(y d e).1 a.symm
 have SE:∀c∈aI v,c∉d5 #[Y.d,Y.O,Y.I,h::(Y.X++aI own),Γ,own]:=λc m b=>by
  show ay (iE b) (λa=>?_) λD=>ay D (λW=>?_) λZ=>?_
  .show(Sy c m).2.2.1 a
  .show p W λd w=>?_;show ao w λe a=>?_;show(Sy c m).2.2.2 d e a
  .show p Z λd w=>?_;show ao w λe a=>?_;show(y d e).2.1<|a▸m
 have S0:∀c∈aI v,c≠h:=λc m a=>by
  show p ((Sy c m).2.1) λo f=>?_;replace f:=a▸f;replace f:=S▸f;cases f
 by_cases Sl:q<ds.length
 .show(SK P R.handled).item q _ _ _ Sl SZ λSF B Tn C SG Sf=>?_;show aY (Tg q SF C Sl) λG hd To=>?_;show Th P (q+1) B SF SG C _ _ _ V ?_;have S1:=Sz.other ap SD SU (SL _ _ SG)<|λc o n a=>Sf c o n a;have SH:cO Y.X t B:=λc o n a=>Sf c o (λb=>by replace a:=(bX b)▸a;replace a:=S▸a;cases a)<|SA c o n a;have SN:∀c∈aI v,∀o,t.get? c=J o->B.get? c=J o:=λc m o a=>Sf c o (λb=>S0 c m<|bX b)<|SB c m o a;show ao S1.xG λTp S2=>?_;have Tq:bb Y.d (l B<|h::(Y.X++aI own)) SF G:=To.keep λj o a=>by
   have s:=l.of _ _ a;have U:j∉Y.X:=λb=>by show b6 (cU _ b) a
   show cb _ (SH j o U s) λb=>?_;show ay (a5 b) (λTr=>?_) λb=>?_
   .obtain rfl:=Tr;show b6 S s
   .show cL b (λb=>?_) λb=>?_
    .show U b
    .obtain⟨d,e,rfl⟩:=ck b;show ay ((y d e).2.2) (λf=>?_) λf=>?_
     .show U f
     .show b6 f s
  show u.BJ (Y:=#[Y.d,Y.O,Y.I,h::(Y.X++aI own),Γ,own]) R.handled Tp (S9 G<|ib hd) Tq λTs Tt C Tu=>?_;have S3:∀Sm C,nf #[Y.d,Y.O,Y.I,h::(Y.X++aI own),[],[]] (H.at<|cq B<|d5 #[Y.d,Y.O,Y.I,h::(Y.X++aI own),Γ,own]) C Sm->CB Y H C v h t B (d5 #[Y.d,Y.O,Y.I,h::(Y.X++aI own),Γ,own]) Sm:=by
   rintro Sm C ⟨F,Sn,Sg,Tv,Sj,K⟩;have So:∀d∈Sg,d.1≠h/\d.1∉aI v/\(d.1∈Y.X\/t.get? d.1=ah):=λd e=>by
    have A:=(K.cN d e).1;show cH (λa=>?_) (λb=>?_) ?_
    .show p (SL _ _ SG) λo s=>?_;replace A:=a▸A;replace A:=((λo a=>cb _ a SD) o s)▸A;cases A
    .show p ((Sy _ b).2.1) λo s=>?_;replace A:=((λc m o a=>cb _ a<|SE c m) _ b o<|SN _ b o s)▸A;cases A
    .by_cases f:d.1∈d5 #[Y.d,Y.O,Y.I,h::(Y.X++aI own),Γ,own]
     .show ay (iE f) (λa=>?_) λD=>ay D (λW=>?_) λZ=>?_
      .show .inl<|a▸k.cn.1
      .obtain⟨Sp,Sq,a⟩:=W;show .inl<|a▸k.cn.2 Sp Sq
      .show p Z λT w=>?_;show ao w λx a=>?_;show a▸(y T x).2.2
     .cases a:t.get? d.1 with
      |none=>show .inr V|some o=>
       by_cases S4:d.1∈Y.X
       .show .inl S4
       .replace A:=(cb _ (SH _ o S4 a) f:(H.at<|cq B<|d5 #[Y.d,Y.O,Y.I,h::(Y.X++aI own),Γ,own]).cM.get? d.1=J o)▸A;cases A
   show#[Sn,Sg,Sj,?_,So,λc o n a=>K.de c o<|cb _ a n];have A:=(K.BK S2).Cz (dB:=h::Y.X) (λj b=>Tv j (by
    show gg b ?_ λb=>?_
    .show ap
    .show g<|bJ b)) (λj b=>g<|k.sub j b) #[g k.cn.1,λd e=>g<|k.cn.2 d e]
   show A
  have SO:∀c,c∈d5 #[Y.d,Y.O,Y.I,h::(Y.X++aI own),Γ,own]->c∈Y.X\/t.get? c=ah:=λc b=>by
   show ay (iE b) (λa=>?_) λD=>ay D (λW=>?_) λZ=>?_
   .show .inl<|a▸k.cn.1
   .show p W λSp w=>?_;show ao w λSq a=>?_;show .inl<|a▸k.cn.2 Sp Sq
   .show p Z λT w=>?_;show ao w λx a=>?_;show a▸(y T x).2.2
  have next:∀(Sh:aS),cs Su Sh H.bZ->nf #[Y.d,Y.O,Y.I,h::(Y.X++aI own),[],[]] (H.at<|cq B<|d5 #[Y.d,Y.O,Y.I,h::(Y.X++aI own),Γ,own]) (ce<|q+1) Sh.heap->∃b,b<ds.length+1 - q/\yr Y H ce v h SS t ds.length Su b Sh:=λSh L Si=>by
   obtain⟨Sn,Sg,Sj,K,So,M⟩:=S3 _ _ Si;show#[ds.length+1 - (q+1),By (qc Sl)<|fy q,q+1,Sn,Sg,L,Sl,V,?_,Sj,K,λc o n a=>M c o (λb=>?_)<|SH c o n a,So,λc m o a=>M c o (SE c m)<|SN c m o a]
   .show(SK P R.handled).frame _ _ _ SG λc S5 o a=>?_;show ay (Tf c S5) (λs=>?_) λD=>ay D (λs=>?_) λs=>?_
    .show M c o (λb=>SD<|s▸b) a
    .show M c o (λb=>?_) a;show ay (SO c b) (λf=>?_) λf=>?_
     .show s f
     .rcases iE b with Sr|⟨Sp,Sq,Sr⟩|⟨T,x,Sr⟩
      .show s<|Sr▸k.cn.1
      .show s<|Sr▸k.cn.2 Sp Sq
      .rcases(Te c S5).2 with SP|⟨o,SP⟩
       .show(y T x).1<|Sr▸SP
       .show b6 f SP
    .rcases S7 c s with f|⟨t,f⟩
     .show M c o (λb=>SE c f b) a
     .replace a:=((S1.G _<|f q Γ own Sk).2.kk)▸a;cases a;show(K.G _<|f _ _ _ Sj).2.kk
   .show ay (SO c b) (λf=>?_) λf=>?_
    .show n f
    .show b6 f a
  show dr ((Ta q G (h::(Y.X++aI own)) Γ own _ hd Sk S2<|λj b=>g<|bJ b).go P {Tl with heap:=Ts,toks:=Tt} _ R Tu) (λTw Sh Sm=>?_) λSX SX H=>H;show ao Sm λL r=>?_;have L:=SY.gH.trans L;cases Tw with
  |next=>show next Sh L r|cont=>show next Sh L r|brk=>
   obtain⟨Sn,Sg,Sj,K,So,M⟩:=S3 _ _ r;show#[L,?_];show SW Sn Sg _ (.inr Sj) So ?_ (λc o n a=>M c o (λb=>?_)<|SH c o n a)<|λc m o a=>M c o (SE c m)<|SN c m o a
   .have:=K.n5 (X:=Y.X++aI Sg) (λj b=>g b) (λj b=>?_)<|λj b=>bJ<|k.sub j b
    .show this
    .rcases iE b with rfl|⟨d,e,rfl⟩|⟨d,e,rfl⟩
     .show bJ k.cn.1
     .show bJ<|k.cn.2 d e
     .show bB<|c9 e
   .show ay (SO c b) (λf=>?_) λf=>?_
    .show n f
    .show b6 f a
  |ret SF=>show#[L,r]
 .obtain rfl:q=ds.length:=c1 Tm<|g7.mp Sl;show(SK P R.handled).done _ _ _ SZ λB Tn Sf=>rS #[SY.gH,?_];show SW Γ own B (.inl Sk) y ?_ (λc o n a=>Sf c o (λb=>by replace a:=(bX b)▸a;replace a:=S▸a;cases a)<|SA c o n a)<|λc m o a=>Sf c o (λb=>S0 c m<|bX b)<|SB c m o a;show u.drop (Y:=#[Y.d,Y.O,Y.I,Y.X++aI own,Γ,own]) Sz (λj b=>?_) (λb=>?_) SD SU (λj b=>bJ<|k.sub j b) λc o n a=>Sf c o n a
  .rcases iE b with rfl|⟨d,e,rfl⟩|⟨d,e,rfl⟩
   .show bJ k.cn.1
   .show bJ<|k.cn.2 d e
   .show bB<|c9 e
  .show cL b (λb=>?_) λb=>?_
   .show Sx b
   .show aY (ck b) λd e a=>?_;show(y d e).1 a
def E.qH {a:cC}{aM:Prop}(b:∀c,u H Y c->aM)(r:aM->E Y H a k):E Y H a k:=.mk λc d e f a=>(r<|b _ a).go c d e f a
def E.pi (f:Nat->bg)(c:Nat->List (T×i))(v:R Y iter r)(w:∀q,r≠ .val q)(x:cA Y target r ds)(y:aN Y.q (f 0))(A:Y.G=c 0)(B:∀d∈ds,qj Y.I target d)
 (C:∀a d b g,ds[a]?=J d->Q g H.cM->(∀e∈Y.X,e∈b)->N (H.at g) #[Y.d,Y.O,Y.I,b,Mine.gp target d<|f a,c a] body (rV (u (H.at g) #[Y.d,Y.O,Y.I,b,f<|a+1,c<|a+1]) (λh=>False) bU))
 (D:∀s,iB iter Y.I s=pure s) (F:(c ds.length).map (·.1)=Y.G.map (·.1):=by rfl):E Y H (.For target iter body [] pos) (c2 (u H #[Y.d,Y.O,Y.I,Y.X,f ds.length,c ds.length]) bU):=
 E.qH (aM:=(∀e∈d5 Y,e∈Y.X)/\∀e∈H.cB,e∈Y.X) (λj k=>#[k.hC,k.sub]) λt=>by
 show E.ms (ce:=λa Γ own=>aN Γ (f a)/\own=c a) (λh h=>False) [] Y.G V (aU.of v) (λs j=>absurd j<|w _) x #[y,A] B ?_ ?_ D
 .intro a d b Γ own g hd s;show kK s λm=>?_;intro s n;mexact N.dW (Y:=#[Y.d,Y.O,Y.I,b,Mine.gp target d Γ,c a]) (m.gp target d)<|(C a d b g hd s n).dQ λo j l=>?_;cases o with
  |next=>show#[b,_,_,λh p=>p,#[aN.bf _,V],l]|cont=>show#[b,_,_,λh p=>p,#[aN.bf _,V],l]|brk=>show l.elim|ret q=>show l
 .rintro b Γ own j n (⟨m,rfl⟩|o) k
  .show u.n5 (Y:=#[Y.d,Y.O,Y.I,b,f ds.length,c ds.length]) (X:=Y.X) (u.eh (Y:=#[Y.d,Y.O,Y.I,b,Γ,c ds.length]) k m) n ?_ t.2;show(?_:∀e∈Y.I.locals::(Y.I.cells.map (·.2)++(c ds.length).map (·.1)),e∈Y.X);mspec F;show t.1
  .show o.elim
end
def ax.JG {c:be}{a b:Int}:ax c .NotEq (.int a) (.int b) (decide (a≠b)):=by
 have:=ax.kO (Y:=c) (ac:=a) (al:=b);rwa[show(a !=b)=decide (a≠b) by show(?_:(!(a==b))=decide (¬a=b));mspec decide_not;rfl]at this
noncomputable def gL (a:s):s:=((en 0 a.length).filter λam=>decide (a.getD am.toNat 0≠0)||decide (fg a (J<|am - 1) (J am) ah≠[0])).map λam=>a.getD am.toNat 0
section
variable {U:aW}
def sj (d:aR U):eB U 213 (bk 213<|a U) ["row"] (cf 213<|a U):=
 d.fn V rfl D V rfl (kY λe=>by room)
  (λd b=>by
   rcases a5 b with rfl|b
   .show .inr #[V,λd=>D]
   .cases b) (by decide) (by decide:(["row"]:h).Nodup) c c V
def JH {b c a:Int}(d:a∈en b c):b<=a/\a<c:=by
 simp only[en,iv,iW]at d;obtain⟨a,b,rfl⟩:=d;lia
def CC {b:s}{a:Int}(g:a∈en 0 b.length):∃c:Nat,a=c/\c<b.length/\(b.map i.int)[c]?=J (i.int<|b.getD a.toNat 0):=by
 show ao (JH g) λd f=>?_;show fo a.toNat (gr (bj [a,↑a.toNat] [.j A aC] 0 A aC D (kl a:))<|bj [↑a.toNat,a] [.j A aC] 0 A aC D (c4 (gx<|bj [a] [.j (.O 0) A] 0 (.O 0) A D d):)) (dH.mp<|bj [↑a.toNat,↑b.length,a] [.aL d7 aC,.j A d7] 0 (.e A) aC D f (c4 (gx<|bj [a] [.j (.O 0) A] 0 (.O 0) A D d):)) ?_;simp[(show a.toNat<b.length from by show dH.mp<|bj [↑a.toNat,↑b.length,a] [.aL d7 aC,.j A d7] 0 (.e A) aC D f (c4 (gx<|bj [a] [.j (.O 0) A] 0 (.O 0) A D d):))]
def JI (u:aR U)(n:Nat)(w:T)(X:aZ)(v:aP)(g:s)(o:g.length<=1000):
 N v #[U,n,bV (bk 213<|a U) w 213,X,[("row",.list (g.map .int))],[]] (cf 213<|a U) (kX U v<| .list<|(gL g).map .int):=by
 mexact N.ret (R.of_eq (R.iD (ds:=en 0 g.length) (dE:=i.int) (cP:=λd=>[("k",.int d)]) [("row",.list (g.map .int))]
  (λd=>decide (g.getD d.toNat 0≠0)||decide (fg g (J<|d - 1) (J d) ah≠[0])) (λd=>.int<|g.getD d.toNat 0) V (f D) V (f D) (r:=.iy 0 g.length 1) ?_ (cA.rO (by show f2 _) (by show f2 _) (by show f2 _)<|bj [↑g.length] [.j A<| .O 1000] 0 (.e A) (.O 4611686018427387904) D (dH.mpr o:)) ?_ (λv h=>.name _ _ _) (hg V)
  (gv (bo 0 V) V (.inl V) (.inl V) f7) (λv Z d p=>?_) (λv Z d p h=>?_) (λh=>rfl) (λh h h h=>c)) (by rw[gL];mspec d9;rfl))
 .show R.mX (ds:=[.int g.length]) (u.eZ V rfl (by room) (f D) V rfl rfl (f D)) (W.cons ?_ W.nil V) bO.uq V c V;show R.of_eq (R.jH (ds:=[_]) (u.eZ V rfl (by room) (f D) V rfl rfl (f D)) (W.cons (R.K 0 V) W.nil V) (bO.len as.list (by rw[a7];show gu)) V c V) (by rw[a7])
 .simp only[en,a7,jQ];unfold aD;show b1
 .show bC λq k=>?_;show g2 (CC p) λx l t m=>?_;show k ?_;clear k q;show a1.or (al:=decide (g.getD d.toNat 0≠0)) (b:=decide (fg g (J<|d - 1) (J d) ah≠[0])) (a1.bL (R.item (L:=.int d) (af:=.int<|g.getD d.toNat 0) (R.K 1 V) (R.K 0 V) ?_) R.bK ax.JG c)<|λh=>?_
  .mspec l;rw[l]at m;show b7.list as.list m<|dG (a6 t o) D
  .show a1.bL (R.jE (R.K 1 V) as.list (R.sub (R.K 0 V) R.bK) (R.K 0 V) V (.int _) (.int _) .none (f D) (by rw[a7];unfold aD;show b1)) (R.list (W.cons R.bK W.nil V)<|du D) ?_ c;rw[kZ];show ax.r1 (iI:=[0]) as.list as.list
 .show bC λq k=>?_;show g2 (CC p) λx l t m=>?_;show k ?_;clear k q;show R.item (L:=.int d) (R.K 1 V) (R.K 0 V) ?_;mspec l;rw[l]at m;show b7.list as.list m<|dG (a6 t o) D
def CD (b:aR U){n:Nat}{env:b3}{X:aZ}{Γ:bg}{own:List (T×i)}(a:s)(c:a.length<=1000):bO #[U,n+1,env,X,Γ,own] (.ref 213) [.list<|a.map .int] (.list<|(gL a).map .int):=
 (sj b).m7 V (λd e f=>JI b n d e f a c)
noncomputable def jj {a:Type}(ag:List (Int×a))(am:Int)(aq:a):List (Int×a):=if ag.any (λa=>a.1=am)then ag.map (λa=>if a.1=am then(a.1,aq)else a)else ag++[(am,aq)]
noncomputable def cS {a b:Type}(aT:a->b)(ag:List (Int×a)):List (Int×b):=ag.map λa=>(a.1,aT a.2)
def CE {c:Type}(d:c->i)(e:List (Int×c))(b:Int)(f:c):ie (cS d e) b (d f)=cS d (jj e b f):=by
 unfold ie jj cS;mspec xI;mspec show((λf:Int×i=>decide (f.1=b))∘λa:Int×c=>(a.1,d a.2))=λa=>decide (a.1=b)from rfl
 cases e.any λa=>decide (a.1=b)with
 |true=>
  simp only[if_true,d9];congr 1;funext a;simp only[pj];split<;>rfl
 |false=>simp
def CF {c f:Type}(d:c->f)(a:List (Int×c))(b:Int):(cS d a).lookup b=(a.lookup b).map d:=by
 induction a with
 |nil=>rfl|cons g a e=>
  unfold cS at e ⊢;mspec b8;mspec fz;mspec fz;cases b==g.1 with
  |true=>rfl|false=>show e
def CG {a:Type}(b:List (Int×a))(c:Int)(d:a):(jj b c d).length<=b.length+1:=by
 unfold jj;split
 .rw[a7];simp+arith
 .mspec dF;simp
noncomputable abbrev b5:=List<|Int×s
noncomputable abbrev bp (ag:s):i:=.list<|ag.map .int
noncomputable def jk (a9:b5)(r:bG):b5:=r.foldl (λa9 ak=>jj a9 ak.1<|(a9.lookup ak.1).getD []) a9
noncomputable def oi (a9:b5)(r:bG):b5:=jj (jk a9 r) (r.head?.map (·.1) |>.getD 0) (gL (r.tail.map (·.1)))
noncomputable def bn (a:List bG):b5:=a.foldl oi []
def yt (r:bG):∀a:b5,(jk a r).length<=a.length+r.length:=by
 unfold jk
 induction r with
 |nil=>intro a;simp|cons b r c=>
  intro a;mspec hV;show a6 (c _) ?_;show eC▸bd [.j y<| .e t] 0 (.S y C) (.S t<| .e C) D (CG a b.1<|(a.lookup b.1).getD [])
def JJ (r:bG)(a:b5)(b:r.length<=10):(oi a r).length<=a.length+11:=by
 unfold oi;have c:=CG (jk a r) (r.head?.map (·.1) |>.getD 0) (gL (r.tail.map (·.1)));show c7 [.j t<| .O 10,.j y<| .e aV,.j aV<| .S C t] 0 y (.S C<| .O 11) D b c<|yt r a
theorem CH:∀(b:List bG)(a:b5),(∀r∈b,r.length<=10)->(b.foldl oi a).length<=a.length+11*b.length
 |[],a,_=>by simp|r::b,a,c=>by
  mspec hV;mspec eC;show c7 [.j y<| .S aV<| .cT 11 t,.j aV<| .S C<| .O 11] 0 y (.S C<| .cT 11<| .e t) D (CH b (oi a r) λd f=>c d<|g f)<|JJ r a<|c r ap
def nh {c:Type}{a:List c}{b:Nat}{d:c}(e:a[b]?=J d):a.take (b+1)=a.take b++[d]:=by
 mspec qe;mspec e;rfl
def yu (b:aR U):eB U 218 (bk 218<|a U) ["rules"] (cf 218<|a U):=
 b.fn V rfl D V rfl (kY λd=>by room)
  (fi V hc) (f D) (by decide:([]:h).Nodup) c c V
def aR.CI (b:aR U):∃a o,@m5 Nat _ i8 a/\U.B.get? a=J o:=ix 262 _ (by decide)<|b.bD 262 _ V
def JK (a:b5)(r:bG)(b:Int×Int):jk a (r++[b])=jj (jk a r) b.1 (((jk a r).lookup b.1).getD []):=by
 unfold jk;mspec iX;rfl
def JL (a:List bG)(r:bG):bn (a++[r])=oi (bn a) r:=by
 unfold bn;mspec iX;rfl
noncomputable abbrev CJ:=λ(U:aW) (ca:T)=>(bV (bk 218<|a U) ca 218:b3)
def JM (m:aR U)(n:Nat)(x:T)(X:aZ)(A:aP)(d:List bG)(B:∀r∈d,r≠[]/\r.length<=10)(I:d.length<=10):
 N A #[U,n+1,CJ U x,X,[("rules",.list (d.map eo))],[]] (cf 218<|a U) (kX U A<| .dict<|cS bp<|bn d):=by
 have K:∀h,(bn<|d.take h).length<=200:=λh=>by
  have:=CH (d.take h) [] λr A=>(B r<|sk A).2;unfold bn;rw[g8]at this;simp only[yv]at this;show bd [#[11,C,.O 10],.j y<| .S (.O 0)<| .cT 11 t,#[11,t,C]] 0 y (.O 200) D I this<|ml h d.length
 mexact N.Ie (.inl V) m.CI λk A M=>?_;mexact N.br (E.pi (Y:=#[U,n+1,CJ U x,k::X,bl "uses" (.val<| .ref k) [("rules",.list (d.map eo))],[(k,.dict [])]]) (λh=>[("uses",.val (.ref k))]) (λh=>[(k,.dict (cS bp<|bn<|d.take h))]) (r:=.list<|d.map eo) (ds:=d.map eo) (R.K 1 V) (λo s=>by cases s)
  (cA.list (.inl<|dN _ _ V) as.list) (aN.cI [0] rfl) V (λp b=>.name<| .inl V) ?_ (λb=>rfl)) ?_
 .intro h p x A hd I Q;rw[e8,gl]at hd;obtain⟨r,F,rfl⟩:=hd;have v:=B r<|ib F;have G:=K h;mspec nh F;rw[JL];generalize x:bn (d.take h)=u at*;mexact N.br (E.pi (λl=>[("uses",.val (.ref k)),("rule",eo r)]) (λl=>[(k,.dict (cS bp<|jk u<|r.take l))]) (r:=eo r) (ds:=r.map iV) (R.K 0 V) (λo s=>by cases s)
   (cA.list (.inr #[_,_,_,V]) as.list) (aN.cI [1,0] rfl) V (λp hd=>?_) ?_ (λb=>rfl)) ?_
  .show g0 hd λg b=>?_;show .n0 (.inl V)<| .inl V
  .intro l p h k H s x;rw[e8,gl]at H;obtain⟨g,P,rfl⟩:=H;mspec nh P;rw[JK];have q:=yt (r.take l) u;have w:(r.take l).length<=10:=by mspec g8;show a6 (ml l<|fL r) v.2
   generalize h:jk u (r.take l)=o at*;mexact N.br (E.xS (bE:=[]) (b4:=[]) (bF:=cS bp o) (am:=g.1) (af:=bp<|(o.lookup g.1).getD []) ?_ (R.K 1 V) (bo 2 V) (f D) (f D) V ?_ V) ?_
   .show R.of_eq (R.jg (ds:=[.int g.1,.list []]) (R.K 2 V) (fB.dict (as.G ap) qt uQ) (W.cons (R.K 1 V) (W.cons (R.list W.nil<|du D) W.nil V) V) (bO.IF<|as.G ap) V c V) ?_;rw[CF];cases o.lookup g.1<;>rfl
   .simp only[cS,a7];unfold aD;show bd [.j C<| .O 200,.j t<| .O 10,.j y<| .S C t] 0 y (.O<|2^24) D G w q
   .mexact N.qx (aN.cI [2,3] rfl) ?_;rw[CE];rfl
  .mspec(by rw[a7];show aJ iU V:r.take (r.map iV).length=r);have q:=yt r u;obtain⟨g,i,rfl⟩:∃g i,r=g::i:=by
    cases r with
    |nil=>show absurd V v.1|cons g i=>show dN g i V
   have w:i.length<=10:=by have:=v.2;rw[eC]at this;show iC ‹_›
   mexact N.br (E.xS (bE:=[]) (b4:=[]) (bF:=cS bp<|jk u<|g::i) (am:=g.1) (af:=bp (gL (i.map (·.1)))) ?_ ?_ (bo 0 V) (f D) (f D) V ?_ V) ?_
   .show R.g4 (ds:=[.list ((i.map (·.1)).map .int)]) (m.eW V (by room) V rfl (f D)) (sj m).at_.choose_spec.1 (sj m).at_.choose_spec.2 (W.cons ?_ W.nil V) (CD m _ (by rw[a7];show b1)) V c V;show R.of_eq (R.iD (ds:=i) (dE:=iV) (cP:=λh=>[("x",.int h.1),("dress",.int h.2)]) [] (λb=>z) (λh=>.int h.1) V (f D) V (f D) (r:=.list<|i.map iV) ?_ (cA.list (.inr #[_,_,_,V]) as.list) ?_ (λp b=>.n0<|f D) (uv V rfl) f7 (λb b b b=>rfl) (λi Z h b b=>by show R.K 0 V) (λb=>rfl)<|λb b b b=>c) ?_
    .show R.of_eq (R.jE (R.K 1 V) as.list R.bK V rfl (.int _) .none .none (f D) ?_) ?_
     .rw[a7];mspec eC;unfold aD;show gu
     .rw[kZ,Cc];rfl
    .unfold aD;show b1
    .rw[jh];mspec d9;rfl
   .show R.item (L:=.int 0) (r:=.list [.int g.1,.int g.2]) (R.item (L:=.int 0) (R.K 1 V) R.bK<|b7.list (cD:=0) as.list V<|by simp+arith) R.bK (b7.list (cD:=0) as.list V<|by simp+arith)
   .simp only[cS,a7];rw[eC]at q;unfold aD;show bd [.j C<| .O 200,.j y<| .S C<| .e t,.j t<| .O 10] 0 y (.O<|2^24) D G q w
   .mexact N.qx (aN.cI [0] rfl) ?_;rw[CE];rfl
 .mspec(by rw[a7];show aJ iU V:d.take (d.map eo).length=d);show N.Ii (bo 0 V) ap M (f D)<|f D
def JN (b:aR U){n:Nat}{env:b3}{X:aZ}{Γ:bg}{own:List (T×i)}(a:List bG)(c:∀r∈a,r≠[]/\r.length<=10)(d:a.length<=10):bO #[U,n+2,env,X,Γ,own] (.ref 218) [.list<|a.map eo] (.dict<|cS bp<|bn a):=
 (yu b).m7 V (λe f g=>JM b n e f g a c d)
end
noncomputable abbrev bT:=Option v
noncomputable abbrev oj:bT->i
 |none=>.none|some aa=>.str aa
noncomputable def iY:bT->Nat
 |none=>0|some aa=>aa.length
noncomputable def hG (a:h):v:=a.getLast?.getD ""
noncomputable def hH (a:h):bT->h
 |none=>a++[("":v)]|some aa=>a.take (a.length - 1)++[hG a++aa]
noncomputable def km (a:List bT):h:=a.foldl hH [""]
noncomputable def eS (a:h):Nat:=(a.map (·.length)).sum
def lH (a b:v):(a++b).length=a.length+b.length:=by
 show(?_:(a.cps++b.cps).size=a.cps.size+b.cps.size);simp
noncomputable def jl (a:v):v:="(?>.*?"++a++")"
def CK (a:v):(jl a).length=a.length+7:=by
 have a:(("(?>.*?":v)).length=6:=by decide
 have b:((")":v)).length=1:=by decide
 unfold jl;rw[lH,lH];show c1 (bd [.j y<| .O 6,.j t<| .O 1] 0 (.S (.S y C) t) (.S C<| .O 7) D (aA a)<|aA b)<|bd [.j (.O 6) C,.j (.O 1) t] 0 (.S y<| .O 7) (.S (.S C y) t) D (aA (a).symm)<|aA (b).symm
noncomputable def sl (a:h):v:=dD ""<|((a.drop 1).take<|a.length - 2).map jl
noncomputable def ni (b:List bT):v:=
 let a:=km b
 "(?s:"++a.headD ""++sl a++(if 1<a.length then ".*"++hG a else "")++")\\Z"
def JO (a:List bT):∀b:h,b≠[]->a.foldl hH b≠[]:=by
 induction a with
 |nil=>show λf c=>c|cons d a e=>show λb c=>e _ (by cases d<;>simp[hH])
def yw (a:h)(b:a≠[]):a=a.take (a.length - 1)++[hG a]/\a.getLast?=J (hG a):=by
 have c:a.getLast?=J (a.getLast b):=JP b;have d:hG a=a.getLast b:=by unfold hG;mspec c;rfl
 show#[?_,by mspec c;show aJ d V];mspec d;show ch JQ ?_;show(List.dropLast_concat_getLast b).symm
def qI (a b:h):eS (a++b)=eS a+eS b:=by unfold eS;simp
def JR (a:h)(b:bT)(c:a≠[]):eS (hH a b)=eS a+iY b:=by
 cases b with
 |none=>rw[hH,qI];rfl|some b=>
  conv=>rhs;rw[(yw a c).1]
  rw[hH,qI,qI];simp only[eS,b8,m9,hW,List.sum_nil,lH,iY];show c1 (bd [] 0 (.S y<| .S (.S C t)<| .O 0) (.S (.S y<| .S C<| .O 0) t) D)<|bd [] 0 (.S (.S y<| .S C<| .O 0) t) (.S y<| .S (.S C t)<| .O 0) D
def JS (b:List bT):∀a:h,a≠[]->eS (b.foldl hH a)=eS a+(b.map iY).sum:=by
 induction b with
 |nil=>intro a _;simp|cons c b d=>
  intro a e;mspec hV;mspec d _ (by cases c<;>simp[hH]);mspec JR _ _ e;mspec b8;mspec hW;simp+arith
def JT (b:List bT):∀a:h,a≠[]->(b.foldl hH a).length<=a.length+b.length:=by
 induction b with
 |nil=>intro a _;simp|cons c b d=>
  intro a e;mspec hV;show a6 (d _ (by cases c<;>simp[hH])) ?_;have b:0<a.length:=jm.mpr e;cases c with
  |none=>simp[hH];simp+arith|some a=>simp[hH];simp+arith
def uR (a:r∈k):r.length<=eS k:=by
 unfold eS
 induction k with
 |nil=>cases a
 |cons d e b=>
  mspec b8;mspec hW;show ay (a5 a) (λc=>?_) λa=>?_
  .obtain rfl:=c;simp+arith
  .have:=b a;show bd [.j y t] 0 y (.S C t) D this
section
variable {U:aW}
def yx (b:aR U):eB U 238 (bk 238<|a U) ["parts"] (cf 238<|a U):=
 b.fn V rfl D V rfl (kY λd=>by room)
  (fi V hc) (f D) (by decide:([]:h).Nodup) c c V
def JU (Sj:aR U)(n:Nat)(Sk:T)(X:aZ)(M:aP)(b:List bT)(Sl:(b.map iY).sum<=100000)(Sm:b.length<=1000):
 N M #[U,n+1,bV (bk 238<|a U) Sk 238,X,[("parts",.list (b.map oj))],[]] (cf 238<|a U) (kX U M<| .str<|ni b):=by
 have P:∀d,km (b.take d)≠[]/\(km<|b.take d).length<=1001/\eS (km<|b.take d)<=100000:=λd=>by
  show cH (JO _ _<|by simp) ?_ ?_
  .have:=JT (b.take d) [("":v)] (by simp);unfold km;rw[g8]at this;simp only[gw]at this;show bd [.j C<| .O 1000,.j y<| .S (.O 1) t,.j t C] 0 y (.O 1001) D Sm this<|ml d b.length
  .have s:((b.take d).map iY).sum<=(b.map iY).sum:=by
    conv=>rhs;rw[<-p2 d b]
    mspec eX;mspec JV;simp+arith
   unfold km;mspec JS (b.take d) [("":v)] (by simp);show bd [.j t<| .O 100000,.j C t,.j y<| .O 0] 0 (.S y C) (.O 100000) D Sl s (aA (by decide:eS [("":v)]=0))
 mexact N.br (E.assign (af:=.list [.str ""]) (R.list (W.cons R.cy W.nil V)<|du D) (.inl V) V) ?_;mexact N.br (E.pi (λd=>[("runs",.list ((km<|b.take d).map .str))]) (λg=>[]) (r:=.list<|b.map oj) (ds:=b.map oj) (R.K 1 V) (λM e=>by cases e)
  (cA.list (.inl<|dN _ _ V) as.list) (aN.cons xX aN.nil) V (λQ g=>.name<| .inl V) ?_ (λg=>rfl)) ?_
 .intro d Q M Y hd Sk Sl;rw[e8,gl]at hd;obtain⟨l,Sf,rfl⟩:=hd;show bC λH w=>?_;show cd (P d) λx u q=>?_;show w ?_;clear w H;mspec nh Sf;mspec(by unfold km;rw[iX];rfl:km (b.take d++[l])=hH (km<|b.take d) l);have Sn:iY l<=100000:=by
   have:iY l∈b.map iY:=dI<|ib Sf;have s:∀(k:bQ)(m:Nat),m∈k->m<=k.sum:=by
    intro k;induction k with
    |nil=>intro m e;cases e
    |cons B k I=>
     intro m e;mspec hW;show ay (a5 e) (λSo=>?_) λe=>?_
     .obtain rfl:=So;simp+arith
     .have:=I m e;show bd [.j y t] 0 y (.S C t) D this
   have:=s _ _ this;show a6 ‹_› ‹_›
  generalize km (b.take d)=runs at*;mexact N.br (E.assign (af:=.list<|(hH runs l).map .str) (R.kP (al:=l.isNone) (a1.bL (ac:=oj l) (R.K 0 V) R.gF ?_ c) (λe=>?_)<|λe=>?_) (.inl V) V) ?_
  .cases l with
   |none=>show ax.oX|some F=>show ax.oX
  .cases l with
   |some F=>cases e
   |none=>
    show R.of_eq (R.o3 (ac:=runs.map .str) (al:=[.str ""]) (R.K 1 V) (R.list (W.cons R.cy W.nil V)<|du D) as.list as.list ?_) ?_
    .rw[a7,gw];unfold aD;show gu
    .simp[hH]
  .cases l with
   |none=>cases e
   |some F=>
    show ao (yw runs x) λSp A=>?_;show R.of_eq (R.o3 (ac:=(runs.take<|runs.length - 1).map .str) (al:=[.str<|hG runs++F]) (R.of_eq (R.jE (ds:=runs.map .str) (R.K 1 V) as.list V R.kR V .none (.int _) .none (f D) ?_) ?_)
     (R.list (W.cons (R.jD (R.item (L:=.int<| -1) (af:=.str<|hG runs) (R.K 1 V) R.kR<|b7.em (ds:=runs.map .str) as.list ?_) (R.K 0 V) ?_) W.nil V)<|du D) as.list as.list ?_) ?_
    .rw[a7];unfold aD;show b1
    .rw[kZ,IM]
    .mspec sm;mspec A;rfl
    .unfold aD;show bd [.j t<| .O 100000,.j y t,.j C<| .O 100000] 0 (.S y C) (.O<|2^24) D q (uR<|uS A) (Sn:F.length<=100000)
    .rw[a7,g8,gw];unfold aD;show p0 (a6 (ml (runs.length - 1) runs.length) u) D
    .simp[hH]
  .show N.qx (aN.cI [0] rfl) V
 .mspec(by rw[a7,iU]:b.take (b.map oj).length=b);show bC λH w=>?_;show cd (P b.length) λx u q=>?_;show w ?_;clear w H;rw[iU]at x u q;unfold ni;generalize km b=runs at*
  try dsimp only
  have Sq:(((((runs.drop 1).take<|runs.length - 2).map jl).map (·.length)).sum<=100000+7*1001):=by
   have Sr:∀k:h,((k.map jl).map (·.length)).sum=eS k+7*k.length:=by
    intro k
    induction k with
    |nil=>rfl|cons m k I=>
     rw[b8,b8,hW,I];simp only[eS,b8,hW,CK,eC];simp+arith
   rw[Sr];have Y:eS ((runs.drop 1).take<|runs.length - 2)<=eS runs:=by
    conv=>rhs;rw[<-p2 1 runs]
    rw[qI];show c7 [.j (.S y aV) t] 0 y (.S C t) D (aA ((by rw[<-qI,p2]:eS (runs.drop 1)=eS ((runs.drop 1).take<|runs.length - 2)+eS ((runs.drop 1).drop<|runs.length - 2))).symm)
   have s:((runs.drop 1).take<|runs.length - 2).length<=1001:=by mspec g8;mspec k7;show a6 (a6 (ol (runs.length - 2)<|runs.length - 1)<|fC runs.length 2) u
   show bd [.j t<| .O 100000,.j y t,#[7,C,.O 1001]] 0 (.S y<| .cT 7 C) (.S (.O 100000)<| .cT 7<| .O 1001) D q Y s
  mexact N.br (E.assign (af:=.str<|sl runs) ?_ (.inl V) V) ?_
  .show R.jg (ds:=[_]) R.cy (fB.str so sp) (W.cons (R.of_eq (R.iD (ds:=(runs.drop 1).take<|runs.length - 2) (dE:=i.str) (cP:=λb=>[("run",.str b)]) [] (λg=>z) (λb=>.str<|jl b) V (f D) V (f D) (r:=.list<|((runs.drop 1).take<|runs.length - 2).map .str) ?_ (cA.list (.inl<|dN _ _ V) as.list) ?_ (λQ g=>.name _ _ _) (hg V) f7 (λg g g g=>rfl) (λd Z r b g=>?_) (λg=>rfl)<|λg g g g=>c) ?_) W.nil V)
    (bO.rZ (j9:=((runs.drop 1).take<|runs.length - 2).map jl) as.list ?_) V c V
   .show R.of_eq (R.jE (ds:=runs.map .str) (R.K 0 V) as.list R.bK R.kR V (.int _) (.int _) .none (f D) ?_) ?_
    .rw[a7];unfold aD;show b1
    .rw[kZ,IN]
   .mspec g8;mspec k7;unfold aD;show dG (a6 (a6 (ol (runs.length - 2)<|runs.length - 1)<|fC runs.length 2) u) D
   .have:=(λr d=>a6 (uR<|CL<|sk d) q) r b;show R.jD (R.jD R.cy (R.K 0 V) ?_) R.cy ?_
    .unfold aD;show b9 [.j C<| .O 100000,.j y<| .O 6] 0 (.S y C) (.O<|2^24) D this (aA (by decide:(("(?>.*?":v)).length=6))
    .rw[lH];unfold aD;show bd [.j C<| .O 100000,.j y<| .O 6,.j t<| .O 1] 0 (.S (.S y C) t) (.O<|2^24) D this (aA (by decide:(("(?>.*?":v)).length=6)) (aA (by decide:((")":v)).length=1))
   .rw[jh,d9];rfl
   .have s:((runs.drop 1).take<|runs.length - 2).length<=1001:=by rw[g8,k7];show a6 (a6 (ol (runs.length - 2)<|runs.length - 1)<|fC runs.length 2) u
    rw[(by decide:(("":v)).length=0)];show b1
  have K:(sl runs).length<=100000+7*1001:=by
   unfold sl dD;rw[size_glued];rw[(by decide:(("":v)).length=0),yy];show dL [.j y<| .S (.O 100000)<| .cT 7<| .O 1001] 0 (.S y<| .O 0) (.S (.O 100000)<| .cT 7<| .O 1001) D Sq
  obtain⟨o,p,rfl⟩:∃m B,runs=m::B:=by
   cases runs with
   |nil=>show absurd V x|cons m B=>show dN m B V
  have h0:o.length<=100000:=a6 (uR ap) q;show ao (yw (o::p) x) λSp A=>?_;have Sg:(hG<|o::p).length<=100000:=a6 (uR<|uS A) q;have G:(("(?s:":v)).length=4:=by decide
  have Sh:((".*":v)).length=2:=by decide
  have b:(("":v)).length=0:=by decide
  have Si:(if 1<(o::p).length then ".*"++hG (o::p)else("":v)).length<=100002:=by
   split
   .rw[lH];show b9 [.j C<| .O 100000,.j y<| .O 2] 0 (.S y C) (.O 100002) D Sg<|aA Sh
   .show ey _
  mexact N.ret (R.jD (R.jD (R.jD (R.jD R.cy (R.item (L:=.int 0) (R.K 1 V) R.bK<|b7.list (cD:=0) (ds:=(o::p).map .str) as.list V<|by simp+arith) ?_) (R.K 0 V) ?_) ?_ ?_) R.cy ?_)
  .unfold aD;show b9 [.j C<| .O 100000,.j y<| .O 4] 0 (.S y C) (.O<|2^24) D h0<|aA G
  .rw[lH];unfold aD;show bd [.j t<| .S (.O 100000)<| .cT 7<| .O 1001,.j C<| .O 100000,.j y<| .O 4] 0 (.S (.S y C) t) (.O<|2^24) D K h0<|aA G
  .show R.kP (al:=decide (1<((o::p).length:Int))) (a1.bL (R.of_eq (R.jH (ds:=[_]) (Sj.eZ V rfl (by room) (f D) V rfl rfl (f D)) (W.cons (R.K 1 V) W.nil V) (bO.len (ds:=(o::p).map .str) as.list (by rw[a7];show gu)) V c V)<|by rw[a7]) R.bK ax.HF c) (λe=>?_)<|λe=>?_
   .show R.of_eq (R.jD R.cy (R.item (L:=.int<| -1) (af:=.str<|hG<|o::p) (R.K 1 V) R.kR<|b7.em (ds:=(o::p).map .str) as.list (by rw[sm,A];rfl)) ?_) ?_
    .unfold aD;show b9 [.j C<| .O 100000,.j y<| .O 2] 0 (.S y C) (.O<|2^24) D Sg<|aA Sh
    .rw[if_pos (by have:=f e;show el.mp ‹_›)]
   .show R.of_eq R.cy ?_;rw[if_neg (by have:=of_decide_eq_false e;show λb=>oP [.j y<| .O 1,.aL (.O 1) y] D (dH.mp<|oQ.mp<|of_decide_eq_false e) b)]
  .rw[lH,lH];unfold aD;show c7 [.j t<| .S (.O 100000)<| .cT 7<| .O 1001,.j C<| .O 100000,.j y<| .O 4,.j aV<| .O 100002] 0 (.S (.S (.S y C) t) aV) (.O<|2^24) D K h0 (aA G) Si
  .rw[lH,lH,lH];unfold aD;show jB [.j t<| .S (.O 100000)<| .cT 7<| .O 1001,.j C<| .O 100000,.j y<| .O 4,.j dx<| .O 3,.j aV<| .O 100002] 0 (.S (.S (.S (.S y C) t) aV) dx) (.O<|2^24) D K h0 (aA G) (aA (by decide:((")\\Z":v)).length=3)) Si
def JW (b:aR U)(a:List bT)(c:(a.map iY).sum<=100000)(d:a.length<=1000):bO #[U,n+2,env,X,Γ,own] (.ref 238) [.list<|a.map oj] (.str<|ni a):=
 (yx b).m7 V (λe f g=>JU b n e f g a c d)
end
noncomputable abbrev c5 (a:i):bT->i
 |none=>a|some aa=>.str aa
inductive nj:i->Prop
 |none:nj .none|obj (o):nj (.val<| .ref o)
def uT {a:i}(c:nj a)(b:bT):pd (c5 a b) a b.isNone:=by
 cases b with
 |none=>cases c with
  |none=>show .none|obj o=>show .obj o
 |some d=>cases c with
  |none=>show .x9 d|obj o=>show .ya d o
noncomputable def lI (a:List bT)(am:Nat):Bool:=match a[am]? with
 |J (J _)=>z|_=>aj
noncomputable def cX (ag:List bT):h:=(ag.takeWhile (·.isSome)).map (·.getD "")
noncomputable def gy (ag:List bT):List bT:=ag.dropWhile (·.isSome)
noncomputable def lJ:Nat->List bT->h
 |0,_=>[]|_+1,[]=>[]|am+1,_::ag=>if ag=[]then[".*"]else if gy ag=[]then[".*",dD ""<|cX ag]else jl (dD ""<|cX ag)::lJ am (gy ag)
def sq {b:Nat}{c:bT}{a:List bT}:lJ (b+1) (c::a)=(if a=[]then[".*"]else if gy a=[]then[".*",dD ""<|cX a]else jl (dD ""<|cX a)::lJ b (gy a):h):=rfl
def CM (a:Nat):lJ a []=[]:=by cases a<;>rfl
noncomputable def jS (a:List bT):h:=cX a++lJ a.length (gy a)
noncomputable def f9 (a:List bT):v:="(?s:"++dD "" (jS a)++")\\Z"
noncomputable def apart:List bT->Bool
 |[]=>z|ak::ag=>!(ak.isNone&&ag.head?.any Option.isNone)&&apart ag
noncomputable def gb (ag:List bT):Nat:=(ag.map iY).sum
def sr (a:v)(b:List bT):cX (J a::b)=a::cX b:=rfl
def yz (b:v)(a:List bT):gy (J b::a)=gy a:=rfl
def uU (a:List bT):cX (ah::a)=[]:=rfl
def uV (a:List bT):gy (ah::a)=ah::a:=rfl
theorem qJ:∀a:List bT,a.drop (cX a).length=gy a/\(cX a).length+(gy a).length=a.length/\eS (cX a)+gb (gy a)=gb a
 |[]=>#[V,V,V]|none::a=>#[V,by rw[uU,uV];simp,by rw[uU,uV];simp[eS]]|some d::a=>by
  show cd (qJ a) λd c b=>?_;rw[sr,yz];show cH (by mspec eC;mspec JX;show d) (by simp only[eC];show c1 (bd [.j (.S y C) t] 0 (.S (.e y) C) (.e t) D<|aA c)<|bd [.j y<| .S C t] 0 (.e y) (.S (.e C) t) D<|aA (c).symm) ?_;simp only[eS,gb,b8,hW,iY]at b ⊢;show c1 (c7 [.j (.S C t) aV] 0 (.S (.S y C) t) (.S y aV) D<|aA b)<|c7 [.j C<| .S t aV] 0 (.S y C) (.S (.S y t) aV) D<|aA (b).symm
theorem uW:∀(a:List bT)(b:Nat),b<(cX a).length->∃c,a[b]?=J (J c)/\(cX a)[b]?=J c
 |none::a,b,d=>absurd d<|rC _
 |some c::a,0,d=>#[c,V,V]|some c::a,b+1,d=>by
  rw[sr,eC]at d;show aY (uW a b<|by show CN ‹_›) λc d e=>?_;show av c d (by rw[sr];simpa using e)
def uX (a:List bT):gy a=[]\/∃r,gy a=ah::r:=by
 induction a with
 |nil=>show .inl V|cons b a c=>cases b with
  |none=>show .inr #[a,V]|some a=>show c
def CO (a:List bT)(b:Nat)(c:b<=(cX a).length):lI a b=decide (b<(cX a).length):=by
 show ay (r7 b (cX a).length) (λd=>?_) λd=>?_
 .show aY (uW a b d) λg e h=>?_;simp[lI,e,d]
 .obtain rfl:b=(cX a).length:=c1 (c)<|d;have f:a[(cX a).length]?=(gy a)[0]?:=by show ch ((qJ a).1) ?_;simp
  simp only[mP,decide_false];unfold lI;mspec f;rcases uX a with c|⟨r,c⟩<;>show aJ c ?_<;>rfl
theorem CP:∀{a:List bT},apart a=z->∀n,apart (a.drop n)=z
 |[],b,n=>by mspec w5;rfl|c::a,b,0=>b|c::a,b,n+1=>by
  have:apart a=z:=by
   cases c with
   |some d=>show b|none=>cases a with
    |nil=>rfl|cons e a=>cases e with
     |none=>show(pk b).elim|some d=>show b
  show CP this n
def uY (a:h):(dD "" a).length=eS a:=by
 unfold dD;rw[size_glued];mspec(by decide:(("":v)).length=0);rw[yy];rfl
theorem CQ:∀(b:Nat)(a:List bT),(lJ b a).length<=2*a.length/\eS (lJ b a)<=gb a+7*a.length
 |0,a=>#[ey _,ey _]|b+1,[]=>#[ey _,ey _]|b+1,f::a=>by
  show cd (qJ a) λm g d=>?_;have h:((".*":v)).length=2:=by decide
  rw[sq];mspec(by simp[gb]:gb (f::a)=iY f+gb a);mspec eC;split
  .simp[eS,h];simp+arith
  .split
   .next f=>
    rw[f]at d;have c:=uY<|cX a;have i:eS (cX a)=gb a:=by simpa[gb]using d
    simp only[eC,yv,eS,b8,m9,hW,List.sum_nil,h]at c ⊢;unfold eS at i;show#[dL [] 0 (.e<| .e<| .O 0) (.cT 2<| .e y) D,jB [.j y dx,.j dx t] 0 (.S (.O 2)<| .S y<| .O 0) (.S (.S C t)<| .cT 7<| .e aV) D (aA c)<|aA i]
   .show ao (CQ b<|gy a) λl k=>?_;have c:=uY<|cX a;simp only[eC,eS,b8,hW]at k d c ⊢;show#[c7 [#[2,.S t aV,C],.j y<| .cT 2 aV] 0 (.e y) (.cT 2<| .e C) D (aA g) l,lq [_,_,_,_,_,_,_,_,_,_] [#[7,.S gZ kH,dx],.j (.S tB AP) aV,.j C<| .S AP<| .cT 7 kH,.j AQ tB,.j y<| .S AQ<| .O 7] 0 (.S y C) (.S (.S t aV)<| .cT 7<| .e dx) D (aA g) (aA d) k (aA c)<|aA<|CK<|dD ""<|cX a]
def JY (a:List bT):(jS a).length<=2*a.length/\eS (jS a)<=gb a+7*a.length:=by
 show cd (qJ a) λd b c=>?_;show ao (CQ a.length<|gy a) λd e=>?_;unfold jS;mspec dF;rw[qI];show#[c7 [#[2,.S y aV,t],.j C<| .cT 2 aV] 0 (.S y C) (.cT 2 t) D (aA b) d,tC [#[7,.S dx gZ,aV],.j (.S y kH) t,.j C<| .S kH<| .cT 7 gZ] 0 (.S y C) (.S t<| .cT 7 aV) D (aA b) (aA c) e]
section
variable {U:aW}
def ss (b:aR U):eB U 76 (bk 76<|a U) ["inp","STAR"] (cf 76<|a U):=
 b.fn V rfl D V rfl (qq λd e=>by room)
  (fi V<|fi V hc) (f D) (by decide:([]:h).Nodup) c c V
def su {a:List bT}{b:i}(c:R k n (.list<|a.map<|c5 b))(d:R k o (.int (m:Nat)))(e:a[m]?=J r)(f:m<2^62):R k (.Subscript n o w) (c5 b r):=
 R.item c d (b7.list as.list (by mspec e8;mspec e;rfl)<|by show b1)
def CR {a:List bT}{d:i}(q:n=a.length)(l:R m x (.int (k:Nat)))(s:R m B (.int (k:Nat)))(o:R m r (.int (n:Nat)))(t:R m M (.list<|a.map<|c5 d))(u:R m w d)(v:nj d)(A:a.length<=1000)
 (p:rF .Lt r=aj) (E:rF .IsNot w=aj):a1 m (.BoolOp .And [.Compare x [.Lt] [r] Sf,.Compare (.Subscript M B Sg) [.IsNot] [w] Sh] Si) (lI a k):=by
 subst q;cases h:a[k]? with
 |none=>
  have c:¬k<a.length:=λb=>by rw[gm b]at h;cases h
  have e:lI a k=(decide ((k:Int)<(a.length:Int))&&z):=by
   unfold lI;mspec h;mspec decide_eq_false (by show λd=>pX [.j y C,.aL C y] D (g7.mp c)<|el.mp d);rfl
  mspec e;show a1.oY (a1.bL l o ax.lt p) λb=>absurd (f b)<|λd=>pX [.j y C,.aL C y] D (g7.mp c)<|el.mp<|f b
 |some g=>
  have c:k<a.length:=(gG.mp h).1;have e:lI a k=(decide ((k:Int)<(a.length:Int))&&!g.isNone):=by
   unfold lI;mspec h;mspec decide_eq_true (by show el.mpr ‹_›);cases g<;>rfl
  mspec e;show a1.oY (a1.bL l o ax.lt p) λb=>a1.bL (su t s h<|dG (a6 c A) D) u (ax.yb<|uT v g) E
def N.em {b:cC}(c:E m k b n):N k m [b] n:=.mk λb d e f g=>
 mn (dr (c.go b d e f g) (λh j i=>by
  obtain⟨a,r⟩:=i;cases h with
  |next=>show rS #[a,r]|brk=>show#[a,r]|cont=>show#[a,r]|ret b=>show#[a,r]) λb b k=>k)
def N.JZ {b:cC}(Γ:bg)(own:List (T×i))(a:E k m b (c2 (λa=>aM/\u m #[k.d,k.O,k.I,X,Γ,own] a) n))(c:aM->N m #[k.d,k.O,k.I,X,Γ,own] o n):N m k (b::o) n:=
 N.cons a λa #[b,d]=>eQ #[k.d,k.O,k.I,X,Γ,own] m V rfl rfl rfl rfl d (c b)
def N.J0 {b:cC}(c:iR)(a:E k m b (c2 (λa=>∃Γ own,c Γ own/\u m #[k.d,k.O,k.I,X,Γ,own] a) n))(d:∀Γ own,c Γ own->N m #[k.d,k.O,k.I,X,Γ,own] o n):N m k (b::o) n:=
 N.cons a λa b=>gh b λΓ own a c=>eQ #[k.d,k.O,k.I,X,Γ,own] m V rfl rfl rfl rfl c (d Γ own a)
noncomputable abbrev yA:=λ(aT:T) (ds:dp) (bi:List (T×i))=>((aT,.list ds)::bi:aE)
def N.J1 (a:k∉sv)(b:k∉o.cB)(c:aN Γ eI)(d:N o #[U,n,env,sv,eI,m] w x):
 N o #[U,n,env,k::sv,Γ,yA k ds m] w x:=
 N.qh (Y:=#[U,n,env,k::sv,Γ,yA k ds m]) (λe f=>u.BS (Y:=#[U,n,env,k::sv,Γ,yA k ds m]) f a b (λh e r i g=>r.toList g) λa b=>.inl<|c a b) d
def J2 (a:List bT)(b c:Nat):lI (a.drop b) c=lI a (b+c):=by
 unfold lI;show aJ (uZ) V
noncomputable abbrev yB (a:List bT)(c:i)(ac b:T)(L:i):bg:=[("inp",.list (a.map<|c5 c)),("STAR",c),("res",.val (.ref ac)),("add",.val (.ref b)),("i",L),("n",.int a.length)]
noncomputable abbrev CS (a:List bT)(c:i)(ac b:T)(L aT:i):bg:=[("inp",.list (a.map<|c5 c)),("STAR",c),("res",.val (.ref ac)),("add",.val (.ref b)),("i",L),("n",.int a.length),("fixed",aT)]
noncomputable abbrev u0 (ac b:T)(a:h):aE:=[(b,.aG (e1 "list.append" ac)),(ac,.list (a.map .str))]
inductive CT (a:List bT)(c:i)(ac b:T)(am:Nat)(Γ:bg)(own:aE):Prop
 |mk (L:Nat) (d:h) (e:aN Γ (yB a c ac b<| .int (L:Nat))) (f:own=(u0 ac b d))
  (e:L<=a.length) (f:(a.drop L).length<=am) (hd:a.drop L=[]\/∃ag,a.drop L=ah::ag) (g:d++lJ am (a.drop L)=jS a):CT a c ac b am Γ own
noncomputable abbrev J3:=λ(b:List bT) (a:i)=>([("inp",.list (b.map<|c5 a)),("STAR",a)]:bg)
noncomputable abbrev u1:=λ(U:aW) (ca:T)=>(bV (bk 76<|a U) ca 76:b3)
def J4 (Sy:aR U)(n:Nat)(Sh:T)(X:aZ)(St:aP)(d:List bT)(H:i)(Si:nj H)(Sz:apart d=z)(Sl:gb d<=100000)(p:d.length<=1000):
 N St #[U,n,u1 U Sh,X,J3 d H,[]] (cf 76<|a U) (kX U St<| .str<|f9 d):=by
 show ao (JY d) λSA Sm=>?_;show cd (qJ d) λSu Sn St=>?_;mexact N.m4 (.inl V) λl St SR=>?_;mexact N.Cl (ac:=l) (ds:=[]) (bo 0 V) (f D) (f D) ap (.inl V) V rfl λo St SR=>?_;mexact N.br (E.Cn (ae:="i") (bx:="n") (ac:=.int 0) (al:=.int d.length) (R.tuple (W.cons R.bK (W.cons (R.of_eq (R.jH (ds:=[_]) (Sy.eZ V rfl (by room) (f D) V rfl rfl (f D)) (W.cons (R.K 2 V) W.nil V) (bO.len as.list (by rw[a7];show gu)) V c V)<|by rw[a7]) W.nil V) V)<|du D) (.inl V) (.inl V) V rfl) ?_;mexact N.br (E.xV (cX d).length (λh=>(yB d H l o<| .int (h:Nat))) (λh=>[(o,.aG (e1 "list.append" l)),(l,.list (((cX d).take h).map .str))])
  (aN.cI [4,5,3,2,0,1] rfl) V (λh x=>?_) (λh x=>?_)) ?_
 .show ch (CO d h x) ?_;show CR V (R.K 4 V) (R.K 4 V) (R.K 5 V) (R.K 0 V) (R.K 1 V) Si p c c
 .show aY (uW d h x) λSo I Z=>?_;mexact N.br (E.qC (bE:=[(o,.aG (e1 "list.append" l))]) (b4:=[]) (af:=.str So) (su (R.K 0 V) (R.K 4 V) I<|c7 [.j C<| .O 1000,.j (.S t aV) C,.aL y t] 0 (.e y) (.O<|2^62) D p (aA Sn) x) (bo 3 V) (f D) (f D) ap V ?_ c V rfl rfl) ?_
  .rw[a7];mspec g8;unfold aD;show c7 [.j C<| .O 1000,.j (.S t aV) C,.j y t] 0 y (.O<|2^24) D p (aA Sn)<|ml h<|(cX d).length
  mexact N.br (E.x8 (ac:=(h:Int)) (al:=1) (bo 4 V) V R.bK) ?_;mexact N.xT (aN.cI [1,2,3,4,0,5] rfl) ?_;mspec nh Z;simp
 mspec iU;mexact N.J0 (X:=o::l::X) (λΓ own=>aN Γ [("res",.val (.ref l)),("i",.int d.length),("n",.int d.length)]/\own=[(o,.aG (e1 "list.append" l)),(l,.list ((jS d).map .str))])
  (E.um (ce:=CT d H l o) d.length
   #[(cX d).length,cX d,aN.bf _,V,(by show bd [.j (.S y t) C] 0 y C D (aA Sn):(cX d).length<=d.length),by mspec k7;simp+arith,by mspec Su;show uX d,by mspec Su;rfl] ?_) ?_
 .rintro Sf Γ own ⟨h,q,B,rfl,x,Sp,hd,s⟩;show#[decide ((h:Int)<(d.length:Int)),?_,λF=>?_,λF=>?_]
  .show a1.bL (R.name (B _<|bo 4 V) (f D)<|f D) (R.name (B _<|bo 5 V) (f D)<|f D) ax.lt c
  .have Sn:h<d.length:=by have:=f F;show el.mp ‹_›
   mexact N.dW (Y:=#[U,n,u1 U Sh,o::l::X,Γ,(u0 l o q)]) B ?_;obtain⟨k,P⟩:∃k,d.drop h=ah::k:=by
    show ay (hd) (λhd=>?_) λhd=>?_
    .rw[J5]at hd;show absurd ‹_› (g7.mpr ‹_›)
    .show hd
   have Sg:d.drop (h+1)=k:=by show ch J6 ?_;mspec P;rfl
   have SB:d[h]?=J ah:=by
    have:(d.drop h)[0]?=J ah:=by mspec P;rfl
    simpa using this
   have G:k.length+h+1=d.length:=by
    have:=congrArg fL P;rw[k7,eC]at this;show c1 (c7 [.aL y aV,.j (.S aV C) t] 0 (.e<| .S y C) t D (aA (this).symm)<|aA<|fa (n:=d.length) (m:=h)<|x)<|c7 [.j aV<| .e C,.j y<| .S aV t] 0 y (.e<| .S C t) D (aA this)<|e0<|cg<|d.length - h
   cases Sf with
   |zero=>show absurd (P▸Sp)<|Nat.not_succ_le_zero _
   |succ Sf=>
   rw[P]at s Sp;have SD:q.length<=2000:=by
    have:=congrArg fL s;rw[dF]at this;show c7 [#[2,C,.O 1000],.j t<| .cT 2 C,.j (.S y aV) t] 0 y (.O 2000) D p SA<|aA this
   have Sv:k.length<=Sf:=by rw[eC]at Sp;show CN ‹_›
   mexact N.br (E.uG<|a1.bL (b:=z) (su (R.K 0 V) (R.K 4 V) SB<|b9 [.j C<| .O 1000,.j y C] 0 (.e y) (.O<|2^62) D p x) (R.K 1 V) (ax.Jk<|uT Si ah) c) ?_;mexact N.br (E.x8 (ac:=(h:Int)) (al:=1) (bo 4 V) V R.bK) ?_;mspec(by simp+arith:((h:Int)+1)=((h+1:Nat):Int));mexact N.JZ (aM:=k≠[]) (X:=o::l::X) (yB d H l o<| .int (h+1:Nat)) (u0 l o q)
    (E.dC (aq:=(((h+1:Nat):Int)==(d.length:Int))) (a1.bL (R.K 0 V) (R.K 5 V) ax.eq c) (λr=>?_)<|λr=>N.nil λh' A=>#[λK=>?_,A.eh<|aN.cI [1,2,3,4,0,5] rfl]) ?_
   .have Sq:h+1=d.length:=by have:=beq_iff_eq.mp r;show c1 ((el.mp<|f F))<|(aA (jn<|eq_of_beq r).symm)
    have SE:k=[]:=n6.mp<|c1 (bd [.aL (.S y C) t,.j t<| .e C] 0 y (.O 0) D (aA G)<|aA (Sq).symm)<|ey _;subst SE;mexact N.br (E.qC (bE:=[(o,.aG (e1 "list.append" l))]) (b4:=[]) (af:=.str ".*") (ds:=q.map .str) R.cy (bo 4 V) (f D) (f D) ap V ?_ c V rfl rfl) ?_
    .rw[a7];unfold aD;show b1
    mexact N.em<|E.brk λh' A=>ix _ _ #[?_,?_] A
    .show ch Sq ?_;show aN.cons (bo 3 V) (aN.cons (bo 0 V)<|aN.cons (by show Sq▸bo 5 V) aN.nil)
    .show ch s ?_;simp[sq]
   .subst K;have:¬(((h+1:Nat):Int)==(d.length:Int))=z:=by mspec r;decide
    apply this;rw[beq_iff_eq];simp at G;show congrArg Int.ofNat<|c1 ((el.mp<|f F))<|(aA (G).symm)
   intro Sw;obtain⟨L,Sj,SF⟩:∃L Sj,J L::Sj=k:=by
    cases k with
    |nil=>show absurd V Sw|cons SG Sj=>cases SG with
     |some L=>show dN L Sj V|none=>
      have:=CP Sz h;rw[P]at this;show(pk this).elim
   show cd (qJ k) λSH M SI=>?_;have P:d[h+1]?=J (J L):=by
    have:(d.drop<|h+1)[0]?=J (J L):=by mspec Sg;show ch SF ?_;rfl
    simpa using this
   mexact N.br (E.uG<|a1.bL (b:=z) (su (R.K 0 V) (R.K 4 V) P<|b9 [.j C<| .O 1000,.j y C] 0 (.e<| .e y) (.O<|2^62) D p x) (R.K 1 V) (ax.yb<|uT Si<|J L) c) ?_;mexact N.m4 (.inl V) λSr SJ SK=>?_;mexact N.br (E.xV (cX k).length (λu=>(CS d H l o (.int (h+1+u:Nat))<| .val<| .ref Sr)) (λu=>[(Sr,.list (((cX k).take u).map .str)),(o,.aG (e1 "list.append" l)),(l,.list (q.map .str))])
    (aN.cI [1,2,3,4,5,6,0] rfl) V (λu Sk=>?_) (λu Sk=>?_)) ?_
   .show ch (CO k u Sk) ?_;show ch Sg ?_;rw[J2];show CR V (R.K 4 V) (R.K 4 V) (R.K 5 V) (R.K 0 V) (R.K 1 V) Si p c c
   .show aY (uW k u Sk) λSo I Z=>?_;rw[<-Sg,uZ]at I;mexact N.br (E.append (bE:=[]) (b4:=(u0 l o q)) (af:=.str So) (ds:=((cX k).take u).map .str) (su (R.K 0 V) (R.K 4 V) I<|pW [.j t<| .O 1000,.aL (.S aV y) t,.j (.S dx gZ) aV,.aL C dx] 0 (.e<| .S (.e y) C) (.O<|2^62) D p (aA G) (aA M) Sk) (bo 6 V) (f D) (f D) V ?_ c V rfl rfl) ?_
    .rw[a7];mspec g8;unfold aD;show pW [.j C<| .O 1000,.aL (.S t aV) C,.j (.S dx gZ) t,.j y dx] 0 y (.O<|2^24) D p (aA G) (aA M)<|ml u<|(cX k).length
    mexact N.br (E.x8 (ac:=((h+1+u:Nat):Int)) (al:=1) (bo 4 V) V R.bK) ?_;mexact N.xT (aN.cI [1,2,3,4,0,5,6] rfl) ?_;mspec nh Z;simp
   mspec iU;have u:(cX k).length<=1000:=jB [.j C<| .O 1000,.aL (.S t aV) C,.j (.S y dx) t] 0 y (.O 1000) D p (aA G)<|aA M;have Sx:eS (cX k)<=100000:=by
    have I:gb (d.drop<|h+1)<=gb d:=by
     have Z:gb d=gb (d.take<|h+1)+gb (d.drop<|h+1):=by
      conv=>lhs;rw[<-p2 (h+1) d]
      unfold gb;rw[eX,JV]
     show bd [.j (.S t y) C] 0 y C D<|aA (Z).symm
    rw[Sg]at I;show c7 [.j C<| .O 100000,.j (.S y t) aV,.j aV C] 0 y (.O 100000) D Sl (aA SI) I
   have SL:=uY<|cX k;mexact N.br (E.assign (af:=.str<|dD ""<|cX k) (R.jg (ds:=[.val<| .ref Sr]) R.cy (fB.str so sp) (W.cons (R.K 6 V) W.nil V) (bO.rZ (j9:=cX k) (as.G ap) ?_) V c V) (.inl V) V) ?_
   .unfold eS at Sx;rw[(by decide:(("":v)).length=0)];show b1
   mexact N.J1 (sv:=o::l::X) (eI:=(CS d H l o (.int (h+1+(cX k).length:Nat))<| .str<|dD ""<|cX k)) SJ SK (aN.cI [1,2,3,4,5,6,0] rfl) ?_;have Ss:∀K,(((h+1+(cX k).length:Nat):Int)==(d.length:Int))=K->(gy k=[]↔K=z):=λK p=>by
    subst p;rw[beq_iff_eq,<-n6];lia
   have Q:d.drop (h+1+(cX k).length)=gy k:=by rw[<-SH,<-Sg,J6]
   rw[sq,if_neg Sw]at s;mexact N.em<|E.dC (aq:=(((h+1+(cX k).length:Nat):Int)==(d.length:Int))) (a1.bL (R.K 4 V) (R.K 5 V) ax.eq c) (λr=>?_)<|λr=>?_
   .rw[if_pos<|(Ss _ V).mpr r]at s;mexact N.br (E.qC (bE:=[(o,.aG (e1 "list.append" l))]) (b4:=[]) (af:=.str ".*") (ds:=q.map .str) R.cy (bo 3 V) (f D) (f D) ap V ?_ c V rfl rfl) ?_
    .rw[a7];unfold aD;show b1
    mexact N.br (E.qC (bE:=[(o,.aG (e1 "list.append" l))]) (b4:=[]) (af:=.str<|dD ""<|cX k) (ds:=q.map .str++[.str ".*"]) (R.K 6 V) (bo 3 V) (f D) (f D) ap V ?_ c V rfl rfl) ?_
    .rw[dF,a7,gw];unfold aD;show gu
    mexact N.nil λh' A=>#[_,_,#[Sf,fy _,h+1+(cX k).length,q++[(".*":v),dD ""<|cX k],?_,?_,by show jB [.aL (.S aV y) t,.j (.S C dx) aV] 0 (.S (.e y) C) t D (aA G)<|aA M,?_,?_,?_],A]
    .show aN.cI [0,1,2,3,4,5] rfl
    .simp
    .show Q▸c7 [.j t C,.j (.S aV y) t] 0 y C D Sv (aA M)
    .show Q▸uX k
    .rw[Q,(Ss _ V).mpr r];simpa[CM]using s
   .have SM:¬gy k=[]:=λK=>by rw[(Ss _ V).mp K]at r;cases r
    rw[if_neg SM]at s;mexact N.br (E.qC (bE:=[(o,.aG (e1 "list.append" l))]) (b4:=[]) (af:=.str<|jl<|dD ""<|cX k) (ds:=q.map .str) (R.yc (R.K 6 V) ?_) (bo 3 V) (f D) (f D) ap V ?_ c V rfl rfl) ?_
    .rw[(by decide:(("(?>.*?":v)).length=6),(by decide:((")":v)).length=1),SL];unfold aD;show dL [.j y<| .O 100000] 0 (.e<| .S (.O 6) y) (.O<|2^24) D Sx
    .rw[a7];unfold aD;show dG SD D
    mexact N.nil λh' A=>#[_,_,#[Sf,fy _,h+1+(cX k).length,q++[jl<|dD ""<|cX k],?_,?_,by show jB [.aL (.S aV y) t,.j (.S C dx) aV] 0 (.S (.e y) C) t D (aA G)<|aA M,?_,?_,?_],A]
    .show aN.cI [0,1,2,3,4,5] rfl
    .simp
    .show Q▸c7 [.j t C,.j (.S aV y) t] 0 y C D Sv (aA M)
    .show Q▸uX k
    .rw[Q];simpa using s
  .intro r A;have k:d.drop h=[]:=by rw[J5];have:=of_decide_eq_false F;show(dH.mp<|oQ.mp<|of_decide_eq_false F)
   have SN:h=d.length:=by have:=of_decide_eq_false F;show c1 (x)<|(dH.mp<|oQ.mp<|of_decide_eq_false F)
   rw[k]at s;have SO:q=jS d:=by simpa[CM]using s
   subst SN SO;show ix Γ _ #[aN.cons (B _<|bo 2 V)<|aN.cons (B _<|bo 4 V)<|aN.cons (B _<|bo 5 V) aN.nil,V] A
 .intro Γ own h;show kK h λB=>?_;mexact N.dW (Y:=#[U,n,u1 U Sh,o::l::X,Γ,[(o,.aG (e1 "list.append" l)),(l,.list ((jS d).map .str))]]) B ?_;have SP:(("(?s:":v)).length=4:=by decide
  have SQ:((")\\Z":v)).length=3:=by decide
  mexact N.br (E.uG<|a1.bL (b:=z) (R.K 1 V) (R.K 2 V) (by have:=ax.eq (Y:=#[U,n,u1 U Sh,o::l::X,[("res",.val (.ref l)),("i",.int d.length),("n",.int d.length)],[(o,.aG (e1 "list.append" l)),(l,.list ((jS d).map .str))]]) (ac:=(d.length:Int)) (al:=(d.length:Int));rwa[beq_self_eq_true]at this) c) ?_;mexact N.br (E.assign (af:=.str<|dD ""<|jS d) (R.jg (ds:=[.val<| .ref l]) R.cy (fB.str so sp) (W.cons (R.K 0 V) W.nil V) (bO.rZ (j9:=jS d) (as.G<|g ap) ?_) V c V) (.inl V) V) ?_
  .unfold eS at Sm;show(by decide:(("":v)).length=0)▸c7 [.j t<| .O 100000,#[7,aV,.O 1000],.j y<| .S t<| .cT 7 aV] 0 (.S y<| .w C 0) (.O 16777216) D Sl p Sm
  show N.ret (R.yc (R.K 0 V) (by rw[SP,SQ,(uY<|jS d)];unfold aD;show bd [.j C<| .O 100000,#[7,t,.O 1000],.j y<| .S C<| .cT 7 t] 0 (.S (.S (.O 4) y)<| .O 3) (.O<|2^24) D Sl p Sm))
def CU (c:aR U)(a:List bT)(b:i)(d:nj b)(e:apart a=z)(f:gb a<=100000)(g:a.length<=1000):bO #[U,n+1,env,X,Γ,own] (.ref 76) [.list<|a.map<|c5 b,b] (.str<|f9 a):=
 (ss c).m7 V (λh j k=>J4 c n h j k a b d e f g)
end
noncomputable def CV (dz:List kG):Bool:=dz.all λH=>match H.key with
 | .int am _=>H.hash==hashInt am|_=>aj
def J7 {c:aW}{d:aX}{e:T}{f:ht}{b:Array kG}(h:f.In d){n:Nat}(i:f.lookup e=J {cls:=.type "dict",data:=.dict b n})(j:CV b.toList=z):d.MapOf (mS c.prog c.w) e (λa=>findBy rM b a):=by
 show A6 _ b n (h _ _ i) (cH V rfl rfl) V (λg c=>?_)<|λa=>rfl;have:=yC.mp j g<|Array.mem_toList_iff.mpr c;cases hk:g.key with
 |int a k=>rw[hk]at this;show av a (by show(?_:rM a (ba.int a k)=z);simp[rM])<|eq_of_beq this
 |_=>rw[hk]at this;cases this
section
variable {cZ:i5}{cl:hu}{aK:cW}{bv:bY}{aa:aS}
def CW {a:T}{b:Int->Option ba}{c:Nat}{d:v}{f:fh}{e:Builtin.Str.Mapped->aS->Prop}(g:aa.heap.MapOf (mS cZ cl) a b)(h:b (c:Int)=J (.str d f))
 (i:∀j,e (.text d) {aa with toks:=j}):au (b2 cZ cl) aK (J8 (.ref a) c) e bv aa:=by
 unfold J8;show ar<|wpAny_attempt<|ar<|wpAny_mkInt<|Bj (tY _ _ _ _) g h ?_;have h':=i<|aa.toks+1+1
 repeat(any_goals (first|assumption|wp_step))
def J9 {f:T}{g:Int->Option ba}{b:Nat}{a:v}{k l:fh}{h:bY}(i:aa.heap.MapOf (mS cZ cl) f g)(j:g (b:Int)=J (.str a l))(e:a.length=2)(p:b<128)
 (m:∀n d,h (.str a n) {aa with toks:=d}):au (b2 cZ cl) aK (dV (.builtin "str.translate") [.str #[(aRR [b])] k,.ref f]) h bv aa:=by
 show wpAny_call_entry Ka (n8 _ _ _) PySem.F.entry_str_translate ?_<|PySem.F.args_str_translate_2 _ _;unfold Builtin.«str.translate»;have f:((#[(aRR [b])]:v).length==0)=aj:=c
 repeat(any_goals (first|assumption|(show CW i j λd=>?_)|wp_step))
 have f:(if(a.length==1&&a.cps.all λg=>decide (g<128))=z then J a.cps[0]? else ah)=ah:=by mspec e;rfl
 dsimp only;mspec f
 repeat(any_goals (first|assumption|(show CW (aa:={aa with toks:=d}) i j λd=>?_)|wp_step))
 have d:¬(Builtin.Str.tooLong (0+a.length)=z):=by mspec e;decide
 mspec if_neg d;show(?_:au _ _ (retStr #[(aRR [])++a.cps]) _ _ _);mspec uH;have o:a.length<=aD:=by mspec e;unfold aD;simp+arith
 unfold retStr;show ar<|CX (bc<|av _ V<|m _ _) o
end
section
variable {U:aW}
def yD (b:aR U):eB U 62 (bk 62<|a U) ["pattern"] (cf 62<|a U):=
 b.fn V rfl D V rfl (kY λd=>by room)
  (fi V hc) (by decide) (show([]:h).Nodup by decide) c c V
def bO.Kb:bO k (.builtin "isinstance") [.str m,.val<| .type "str"] (.bool z):=.mk λa b f g h i j c d=>by
 show cm c.eV λf g a=>?_;show eP a λc e=>?_;show p c.dO λf a=>?_;show bw a ?_;obtain rfl:=e.is;show call_isinstance_yes (n8 _ _ _) (by rfl) isSubtype_str_str<|d _ b.heap b.toks (Q.bf _)<| .bool _
def Kc:CV wN.toList=z:=by room
def Kd:∃a,findBy rM wN (46:Nat)=J (.str "\\." a):=#[429,by room]
def bO.Ke (c:aR U):bO #[U,n,env,X,Γ,own] (.builtin "str.translate") [.str ".",.val<| .ref 52] (.str "\\."):=.mk λa d i j k l e f g=>by
 show cm f.eV λi j a=>?_;show eP a λf h=>?_;show p f.dO λi a=>?_;show bw a ?_;obtain rfl:=h.is;show p Kd λf a=>?_;show J9 (b:=46) (J7 (λf o h=>e.fq _ _<|c.bD f o h) V Kc) a (by decide) (by decide) λj i=>?_;show g _ d.heap i (Q.bf _)<| .str _ _
def Kf (b:aR U)(n:Nat)(e:T)(X:aZ)(d:aP):N d #[U,n,bV (bk 62<|a U) e 62,X,[("pattern",.str ".")],[]] (cf 62<|a U) (kX U d<| .str "\\."):=by
 mexact N.em (E.dC (aq:=z) (a1.j8 (R.jH (ds:=[_,_]) (b.eZ V rfl (by room) (by decide) V rfl rfl (by decide)) (W.cons (R.K 0 V) (W.cons (b.eZ V rfl (by room) (by decide) V rfl rfl (by decide)) W.nil V) V) bO.Kb V c V) eH.bool<|λd=>rfl) (λd=>?_)<|λf=>by cases f);show N.ret (R.jg (ds:=[.val<| .ref 52]) (R.K 0 V) (fB.str Ka PySem.F.type_str_translate) (W.cons (b.eW V (by room) V rfl (by decide)) W.nil V) (bO.Ke b) V c V)
def Kg (a:aR U):bO #[U,n+1,env,X,Γ,own] (.ref 62) [.str "."] (.str "\\."):=
 (yD a).m7 V (λb c d=>Kf a n b c d)
end
section
variable {U:aW}
def CY:pf (a U) 95 96 "node" 0:=#[by room,by room,by room,by room,by room,by room,by room,by decide]
def lK:pf (a U) 95 97 "npredecessors" 1:=#[by room,by room,by room,by room,by room,by room,by room,by decide]
def u2:pf (a U) 95 98 "successors" 2:=#[by room,by room,by room,by room,by room,by room,by room,by decide]
def Kh:k4 (a U) 95 "node" (J<| .ref 96):=#[by room,by room,by room]
def sw:k4 (a U) 95 "npredecessors" (J<| .ref 97):=#[by room,by room,by room]
def Ki:k4 (a U) 95 "successors" (J<| .ref 98):=#[by room,by room,by room]
def lL:uK (a U) 192=z:=by room
def Kj:se (a U) 192 "_node2info":=#[by room,lL,by room]
def Kk:se (a U) 192 "_ready_nodes":=#[by room,lL,by room]
def Kl:se (a U) 192 "_npassedout":=#[by room,lL,by room]
def Km:se (a U) 192 "_nfinished":=#[by room,lL,by room]
def Kn:k4 (a U) 192 "_node2info" ah:=#[by room,by room,by room]
def CZ:k4 (a U) 192 "_ready_nodes" ah:=#[by room,by room,by room]
def C0:k4 (a U) 192 "_npassedout" ah:=#[by room,by room,by room]
def C1:k4 (a U) 192 "_nfinished" ah:=#[by room,by room,by room]
def C2:jR (a U) 192 135 "_get_nodeinfo":=#[by room,by room,by room,by room]
def yE:jR (a U) 192 142 "add":=#[by room,by room,by room,by room]
def yF:jR (a U) 192 147 "prepare":=#[by room,by room,by room,by room]
def Ko:jR (a U) 192 154 "get_ready":=#[by room,by room,by room,by room]
def Kp:jR (a U) 192 161 "is_active":=#[by room,by room,by room,by room]
def C3:jR (a U) 192 175 "done":=#[by room,by room,by room,by room]
def yG:jR (a U) 192 182 "_find_cycle":=#[by room,by room,by room,by room]
def C4 (b:aR U):eB U 91 (bk 91<|a U) ["self","node"] (cf 91<|a U):=
 b.fn V rfl D V rfl (qq λd e=>by room)
  (fi V<|fi V hc) (by decide) (show([]:h).Nodup by decide) c c V
def Kq (c:aR U)(n:Nat)(h b:T)(X:aZ)(e:aP)(d:v):
 N e #[U,n,bV (bk 91<|a U) h 91,X,[("self",.val (.ref b)),("node",.str d)],[(b,.slots 95 [])]] (cf 91<|a U) (et U e [(b,.slots 95 [])] λi j=>j=.none/\∃f,i=[(b,.slots 95 [.str d,.int 0,.val<| .ref f]),(f,.list [])]):=by
 mexact N.ph (r:=.val<| .ref b) (af:=.str d) (R.K 1 V) (R.K 0 V) (fb.ym (aw:=a U) c.bD (bE:=[]) (b4:=[]) V CY Kh) V ?_;mexact N.ph (r:=.val<| .ref b) (af:=.int 0) R.bK (R.K 0 V) (fb.ym (aw:=a U) c.bD (bE:=[]) (b4:=[]) V lK sw) V ?_;mexact N.uM (r:=.val<| .ref b) (aU.m4 λg d e f=>fo _ (by show R.K 0 V) (fb.ym (aw:=a U) c.bD (bE:=[(g,.list [])]) (b4:=[]) V u2 Ki) ?_) V λb b b c=>c;show N.sd V (Q.bf _) (λc b=>by mspec bX b;simp) (u3 _ _ _) #[V,g,V]
def Kr (e:aR U){b:be}{l:aP}{n:Nat}(m:b.d=U)(o:b.O=n+2)(f:v):dY b l (.ref 95) [.str f] (λh j k=>∃g d,h=g::b.X++[g,d]/\j=(g,.slots 95 [.str f,.int 0,.val<| .ref d])::(d,.list [])::b.G/\k=.val (.ref g)):=by
 subst m;show dY.Jz (aw:=a b.d) (n:=n+1) (oh:=91) e.bD (by room) (by room) (by room) o (λs l c t g u m=>av _ (.slots (a3:=[]) g m .nil) V) λc s l g t o=>?_;show p o.one λg i=>?_;show ci i λr=>?_;show(C4 e).def.mr (Y:=#[b.d,n+1,b.I,c::b.X,b.q,(c,.slots 95 [])::b.G]) (n:=n) (ai:=[(c,.slots 95 [])]) (keep:=b.G) (ds:=[.val<| .ref c,.str f]) V rfl (eJ _) (λb q g=>by
  subst q;show(C4 e).ql (.cons (.val _)<| .cons r .nil) V) (λb h h0=>Kq e n b c h _ f) λj k g=>?_
 show ci g λi=>?_;show p i λd b=>?_;show bw b ?_;show#[V,c,d,V,V,V]
end
structure gc where
 name:v
 S:T
 cE:T
 cx:Int
 succ:h
noncomputable abbrev lM (dS:gc):aE:=[(dS.S,.slots 95 [.str dS.name,.int dS.cx,.val<| .ref dS.cE]),(dS.cE,.list (dS.succ.map .str))]
noncomputable def ea:List gc->aE
 |[]=>[]|dS::r=>lM dS++ea r
def Ks (a:gc):ea [a]=lM a:=fk _
def u4 (a b:List gc):ea (a++b)=ea a++ea b:=by
 induction a with
 |nil=>rfl|cons c a d=>show lM c++ea (a++b)=(lM c++ea a)++ea b;mspec d;show(hX ..).symm
def C5 (a b:List gc)(c:gc):ea (a++c::b)=ea a++(lM c++ea b):=u4 a<|c::b
noncomputable abbrev eD (ag:List gc):bg:=ag.map λdS=>(dS.name,.val (.ref dS.S))
structure az where
 x:T
 df:T
 cp:T
 bt:List gc
 bq:Option (T×h)
 bW:Int
 bI:Int
noncomputable def mu:Option (T×h)->i
 |none=>.none|some r=>.val<| .ref r.1
noncomputable def kn:Option (T×h)->aE
 |none=>[]|some r=>[(r.1,.list (r.2.map .str))]
noncomputable abbrev az.attrs (ai:az):bg:=[("_node2info",.val (.ref ai.cp)),("_ready_nodes",mu ai.bq),("_npassedout",.int ai.bW),("_nfinished",.int ai.bI)]
noncomputable abbrev az.G (ai:az):aE:=(ai.x,.aG (c3 192 ai.df))::(ai.df,.ns ai.attrs)::(ai.cp,.bN (eD ai.bt))::(kn ai.bq++ea ai.bt)
def az.eK (a:az):(a.x,i.aG (c3 192 a.df))∈a.G:=ap
def az.eT (a:az):(a.df,i.ns a.attrs)∈a.G:=g ap
def az.lN (a:az):(a.cp,i.bN (eD a.bt))∈a.G:=g<|g ap
def Kt (r:Option (T×h)):ne (mu r):=by cases r<;>constructor
def u5 (b:List gc)(c:v):((eD b).lookup c=ah/\∀a∈b,a.name≠c)\/∃e a f,b=e++a::f/\a.name=c/\(eD b).lookup c=J (.val<| .ref a.S):=by
 induction b with
 |nil=>show .inl #[V,λo k=>nomatch k]|cons a b l=>
  by_cases d:a.name=c
  .show .inr (kM [] a b V d (by subst d;simp[eD]))
  .have g:(eD<|a::b).lookup c=(eD b).lookup c:=by simp[eD,fz,(show(c==a.name)=aj from by simpa using λg:c=a.name=>d g.symm)]
   mspec g;rcases l with⟨m,h⟩|⟨e,i,f,rfl,h,n⟩
   .show .inl #[m,λi j=>?_];rcases a5 j with rfl|j
    .show d
    .show h i j
   .show .inr<|kM (a::e) i f V h n
def Ku (c:∀a∈k,a.name≠m)(b:i):ie (eD k) m b=eD k++[(m,b)]:=by
 unfold ie;rw[if_neg];rw[ko];intro b;show aY b λg d e=>?_;obtain⟨a,f,rfl⟩:=ck d;show c a f (by simpa using e)
def mv (ai:az)(a:v)(b:az)(ac:T):Prop:=
 (∃bE dS b4,ai.bt=bE++dS::b4/\dS.name=a/\dS.S=ac/\b=ai)\/((∀dS∈ai.bt,dS.name≠a)/\∃gE,b={ai with bt:=ai.bt++[#[a,ac,gE,0,[]]]})
section
variable {U:aW}
def Kv (b:aR U):eB U 135 (bk 135<|a U) ["self","node"] (cf 135<|a U):=
 b.fn V rfl D V rfl (qq λd e=>by room)
  (fi V<|fi V hc) (by decide) (show([]:h).Nodup by decide) c c V
def az.ik (c:aR U)(e:Y.d=U)(b:az)(d:(b.x,.aG (c3 192 b.df))∈Y.G)(hd:(b.df,.ns b.attrs)∈Y.G):f8 Y (.val<| .ref b.x) "_node2info" (.val<| .ref b.cp)/\f8 Y (.val<| .ref b.x) "_ready_nodes" (mu b.bq)/\f8 Y (.val<| .ref b.x) "_npassedout" (.int b.bW)/\f8 Y (.val<| .ref b.x) "_nfinished" (.int b.bI):=by
 subst e;show l6 (f8.dict (aw:=a Y.d) c.bD d hd (by rfl) (.ref _) Kj) (f8.dict (aw:=a Y.d) c.bD d hd (by rfl) (Kt _) Kk) (f8.dict (aw:=a Y.d) c.bD d hd (by rfl) (.int _) Kl) (f8.dict (aw:=a Y.d) c.bD d hd (by rfl) (.int _) Km)
def Kw (o:aR U)(n:Nat)(B:T)(X:aZ)(s:aP)(b:az)(e:v)(S:b.bt.length<=1000):
 N s #[U,n+2,bV (bk 135<|a U) B 135,X,[("self",.val (.ref b.x)),("node",.str e)],b.G] (cf 135<|a U) (et U s b.G λl y=>∃f d,l=f.G/\y=.val (.ref d)/\mv b e f d):=by
 have G:∀f d,mv b e f d->∀t∈b.G,t.1∈aI f.G:=λf d h t j=>by
  rcases h with⟨_,_,_,_,_,_,rfl⟩|⟨_,k,rfl⟩
  .show c9 j
  .simp only[az.G,b8,eX,u4,hQ,lY]at j ⊢;rcases j with rfl|rfl|rfl|j|j
   .show .inl V
   .show .inr<| .inl V
   .show .inr<| .inr<| .inl V
   .show .inr<| .inr<| .inr<| .inl<|c9 j
   .show .inr<| .inr<| .inr<| .inr<| .inl<|c9 j
 mexact N.cons (aw:=λh=>∃p f d l,(∀m∈X,m∈p)/\mv b e f d/\l.Perm f.G/\u s #[U,n+2,bV (bk 135<|a U) B 135,p,[("self",.val (.ref b.x)),("node",.str e),("result",.val (.ref d))],l] h)
  (E.sh (af:=((eD b.bt).lookup e).getD .none) (R.jg (ds:=[.str e]) (r:=.val<| .ref b.cp) (R.fl (r:=.val<| .ref b.x) (R.K 0 V) (az.ik o V b b.eK b.eT).1 V) (fB.bN (as.G b.lN) qt uQ) (W.cons (R.K 1 V) W.nil V) (bO.uN<|as.G b.lN) V c V) (.inl V) (λx=>?_)<|λC=>?_) ?_
 .
  have A:∀w∈b.bt,w.name≠e:=by
   rcases u5 b.bt e with⟨_,h⟩|⟨_,_,_,_,_,h⟩
   .show h
   .replace x:=h▸x;cases x
  mexact N.JA (aU.JB (aw:=a U) (ds:=[.str e]) o.bD (o.eW V (by room) V rfl (by decide)) (by room) (W.cons (R.K 2 V) W.nil V) (Kr o (n:=n) V rfl e) V c V) (.inl V) V rfl λp l y H F=>?_;obtain⟨d,k,rfl,rfl,rfl⟩:=H;have x:(b.df,i.ns b.attrs)∈(d,i.slots 95 [.str e,.int 0,.val<| .ref k])::(k,.list [])::b.G:=g<|g b.eT;show#[b.cp,e,eD b.bt,[(d,.slots 95 [.str e,.int 0,.val<| .ref k]),(k,.list []),(b.x,.aG (c3 192 b.df)),(b.df,.ns b.attrs)],kn b.bq++ea b.bt,V,by rw[a7];unfold aD;show b1,
   R.fl (r:=.val<| .ref b.x) (R.K 1 V) (az.ik o V b (g<|g b.eK) x).1 V,by show R.K 2 V,N.nil λh q=>?_]
  show w2 _ ({b with bt:=b.bt++[#[e,d,k,0,[]]]}) d _ F (.inr #[A,k,V]) ?_<|q.eh<|aN.cI [1,2,0] rfl;rw[Ku A];have H:∀(o x r:aE)(y A m:T×i),(o++y::A::m::(r++x)).Perm (y::A::m::(r++(x++o))):=λo x r y A m=>by
   simpa using(Kx (l₁:=o) (l₂:=y::A::m::(r++x)))
  simpa[az.G,u4,Ks,eD,az.attrs,lM]using(H [(d,.slots 95 [.str e,.int 0,.val<| .ref k]),(k,.list [])] (ea b.bt) (kn b.bq) (b.x,.aG (c3 192 b.df)) (b.df,.ns b.attrs) (b.cp,.bN (eD b.bt++[(e,.val (.ref d))])))
 .rcases u5 b.bt e with⟨h,_⟩|⟨I,w,K,L,M,O⟩
  .replace C:=h▸C;cases C
  .mspec O;show N.nil λh q=>#[_,b,w.S,_,λm D=>D,.inl<|A5 I w K L M V rfl,eJ _,q.eh<|aN.cI [1,2,0] rfl]
 .rintro h P;show bC λm h=>?_;show w1 P λp f d l F k j q=>?_;show h ?_;clear h m;show eQ #[U,n+2,bV (bk 135<|a U) B 135,p,[("self",.val (.ref b.x)),("node",.str e),("result",.val (.ref d))],l] s V rfl rfl rfl rfl q ?_;mexact N.qE (bi:=f.G) (af:=.val<| .ref d) (R.K 2 V) V (Q.bf _) (λt D=>?_) j<|f4 f d V rfl k;show aY (ck<|G f d k t D) λb e h=>?_;show iv.mpr<|av b (j.mem_iff.mpr e) h
def C6 (f:aR U){b:be}{j:aP}{n:Nat}{keep:aE}(k:b.d=U)(l:b.O=n+3)(a:az)(e:v)(m:a.bt.length<=1000)(o:b.G.Perm (a.G++keep)):
 dY b j (.ref 135) [.val<| .ref a.x,.str e] (λg h i=>∃c d,h=c.G++keep/\i=.val (.ref d)/\mv a e c d):=by
 subst k;show(Kv f).mr (n:=n+2) (ai:=a.G) (keep:=keep) l V o (λb g h0=>Kw f n b g _ a e m) λh i j=>f3 j λc d a b e=>f4 c d (by show aJ a V) b e
end
def gJ.Ky (e:hE x #[n::r::m,[]]=(sx m >>= λf=>pure [(B,n),(M,r),(Sf,f)]))
 (g:bb w (l k.heap X) n Sg) (h:bb w (l k.heap X) r Sh) (d:aO w (l k.heap X) m ds) (a:ds.length<=aD) (i:∀j∈X,∃o,k.heap.get? j=J o):gJ w x #[n::r::m,[]] [B,M,Sf] X [Sg,Sh,.bR ds] k:=.mk λf j q b=>by
 mspec e;unfold sx;show ar (ud ?_ (by replace a:=d.length▸a;show a));have a:=Q.push k.heap {cls:=.type "tuple",data:=.seq m.toArray};have e:k.heap.objs.size∉X:=λf=>by show p (i _ f) λo b=>?_;show mP _<|gk b
 show bc<|b [n,r,.ref k.heap.objs.size] _ k.toks a<| .cons (g.keep<|l.keep _ a)<| .cons (h.keep<|l.keep _ a)<| .cons (.bR (a3:=m) #[_,cb _ (dM k.heap c) e,V,0,V]<|d.keep<|l.keep _ a) .nil
def gJ.Kz (e:hE w #[n::m,[]]=(sx m >>= λf=>pure [(x,n),(B,f)]))
 (g:bb r (l k.heap X) n M) (d:aO r (l k.heap X) m ds) (a:ds.length<=aD) (h:∀i∈X,∃o,k.heap.get? i=J o):gJ r w #[n::m,[]] [x,B] X [M,.bR ds] k:=.mk λf i j b=>by
 mspec e;unfold sx;show ar (ud ?_ (by replace a:=d.length▸a;show a));have a:=Q.push k.heap {cls:=.type "tuple",data:=.seq m.toArray};have e:k.heap.objs.size∉X:=λf=>by show p (h _ f) λo b=>?_;show mP _<|gk b
 show bc<|b [n,.ref k.heap.objs.size] _ k.toks a<| .cons (g.keep<|l.keep _ a)<| .cons (.bR (a3:=m) #[_,cb _ (dM k.heap c) e,V,0,V]<|d.keep<|l.keep _ a) .nil
section
variable {Y:be}{H:aP}
inductive yH (Y:be)(H:aP)(ce:Nat->iR)(aa:aS)(n:Nat)(bS:aS):Prop
 |mk (a:aZ) (Γ:bg) (own:aE) (b:cs aa bS H.bZ) (c:∀ac∈Y.X,ac∈a) (cD:ce n Γ own) (d:u H #[Y.d,Y.O,Y.I,a,Γ,own] bS.heap):yH Y H ce aa n bS
def E.u6 (ce:Nat->iR)(l:Nat)(h0:ce l Y.q Y.G)
 (w:∀n c Γ own,(∀m∈Y.X,m∈c)->ce n Γ own->xE #[Y.d,Y.O,Y.I,c,Γ,own] H x body (rU (nf Y H<|qi ce n) o) λd=>d=aj->N H #[Y.d,Y.O,Y.I,c,Γ,own] B o):E Y H (.While x body B pos) o:=.mk λe f x g o=>by
 show wpAny_While<|codeAny_whileLoop (yH Y H ce f) ?_ l #[Y.X,Y.q,Y.G,cs.bf f,λm b=>b,h0,o];rintro n p ⟨c,Γ,own,q,y,A,h⟩;cases w n c Γ own y A with|mk d C F G=>
 show C.go e _ _ _ g.todA h.tocV λr s t=>?_;cases d with
 |false=>show dr ((G V).go e {p with heap:=r,toks:=s} _ g<|h.keep t) (λu i a=>#[q.gH.trans a.1,a.2]) λj j H=>H
 |true=>
  show dr ((F D).go e {p with heap:=r,toks:=s} _ g<|h.keep t) (λu i a=>?_) λj j H=>H;have k:=q.gH.trans a.1;have v:nf Y H (qi ce n) i.heap->∃b,b<n/\yH Y H ce f b i:=λ#[c,d,e,f,#[b,g,h],i]=>#[b,g,c,d,e,k,f,h,i];cases u with
  |next=>show v a.2|cont=>show v a.2|brk=>show#[k,a.2]|ret b=>show#[k,a.2]
def N.u7 {b:cC}(c:iR)(d:E Y H b (c2 (nf Y H c) k))(e:∀a Γ own,(∀f∈Y.X,f∈a)->c Γ own->N H #[Y.d,Y.O,Y.I,a,Γ,own] m k):N H Y (b::m) k:=
 N.cons d λd #[a,Γ,own,b,c,f]=>eQ #[Y.d,Y.O,Y.I,a,Γ,own] H V rfl rfl rfl rfl f (e a Γ own b c)
def bb.yI (r:bb m (l k X) n (.bR ds)):∃a b,n=.ref a/\IsTup k a b.toArray/\aO m (l k X) b ds/\a∉X:=by
 show cm r.is λa a c=>?_;show eP c λb r=>?_
 .show kN _ _ V (b.keeps l.of) r<|λc=>?_;show aY b λo d a=>?_;show b6 (cU _ c) d
def bO.C7 (a:ds.length<2^62):bO Y (.builtin "len") [.bR ds] (.int ds.length):=.mk λa b e f g h i c d=>by
 show p c.one λe a=>?_;show ci a λc=>?_;show cm c.yI λf e a=>?_;show wY a λc f g=>?_;have a:e.toArray.size=ds.length:=by simpa using f.length
 show PyProof.Rows.len_tuple c (by mspec a;omega)<|a▸d _ b.heap _ (Q.bf _) (.int _ _)
def cA.bR:cA Y (.Name k m) (.bR ds) ds:=.mk λd b h i k m n g j=>by
 show cm g.yI λd e h=>?_;show wY h λg l q=>?_;have i:b.heap.IsTuple d e.toArray:=g;have r:d<b.heap.objs.size:=by show aY g λo H h=>?_;show gk H
 show wpAny_pyIter_tuple i ?_;have s:e.toArray.size=ds.length:=by simpa using l.length
 have m:=Q.push b.heap {cls:=.type "tuple_iterator",data:=.fields (aRR [.ref d,.int 0 0])};show j b.heap.objs.size [b.heap.objs.size,d] (λa k=>e.toArray[a]?=J k) (λa i=>i.IsTupleIter b.heap.objs.size d a/\i.IsTuple d e.toArray) _ #[d3,(λn t=>?_),#[(fo _ (dM _ c) V rfl),IsTup.keeps g m],
  (λa i u=>by show aY u.1 λo H h=>?_;show dn o H),rN (let#[o,H,_]:=g;#[o,H]),t8<| .inl q,m,(λa k f p=>?_),(λn a i k h h g m q h j=>bc j)]
 .have:=Walks.tuple (prog:=Y.d.prog) (w:=Y.d.w) (A:=n) t b.heap.objs.size d (g6 r) e.toArray;replace this:=s▸this;show this
 .show aY (l.get<|gm p) λb v x=>?_;replace f:=(show e.toArray[a]?=e[a]? by simp)▸f;replace f:=v▸f;cases f;show av _ (gm p) x
def cA.bN {e:bg}(a:as Y r (.bN e)):cA Y (.Name m w) r (e.map λd=>.str d.1):=.mk λm h q s n t g f j=>by
 obtain⟨k,rfl,l⟩:=a.obj g f;have u:=a.xt f;show gi l.mc λf a q s g=>?_;show p q.dictAt λt l=>?_;have v:=l.lt_size;show wpAny_pyIter_dict a l ?_;have w:f.length=(e.map λd=>i.str d.1).length:=by have:=congrArg fL s;simpa using this
 show j h.heap.objs.size [h.heap.objs.size,k] (λa m=>∃b n,f[a]?=J (b,n)/\(strKind Y.d.prog Y.d.w).is b m=z) (λa g=>g.IsKeyIter h.heap.objs.size k a f.length t/\g.DictAt (strKind Y.d.prog Y.d.w) k f t) _ #[d3,(λn x=>?_),
  #[(fo _ (dM _ c) V rfl),l.push _],(λa g h=>by show aY h.1 λo H f=>?_;show dn o H),rN (let#[o,_,_,H,_]:=q;#[o,H]),t8 u,(Q.push _ _),(λa m h k=>?_),(λn a g m f f k l q f j=>bc j)]
 .show w▸H3 x _ _ (g6 v) _ _
 .show gh h λb f y h=>?_;show p (H1 h) λA f=>?_;show bw f ?_;have:(e.map (·.1))[a]?=J b:=by show ch s ?_;simp[y]
  show av (.str b) ?_<| .str b A;simp only[e8,gl]at this ⊢;obtain⟨d,B,rfl⟩:=this;show av d B V
def C8 {a:Array ba}{n:Nat}(b:a.size=n):(!a.isEmpty)=decide (0<n):=by
 subst b;cases hs:a.size with
 |zero=>simp[KA,hs]|succ n=>simp[KA,hs]
def eH.list {r:i}(a:as Y r (.list ds))(b:ds.length<2^62):eH Y r (decide (0<ds.length)):=.mk λe f g h j k b c d=>by
 show p (a.obj b c) λf e=>?_;show ci e λa=>?_;show aY a.eA λb c e=>?_;have a:b.toArray.size=ds.length:=by simpa using e.length
 show wpAny_truthy_list (PlainList.fT c) (by mspec a;omega) ?_;mspec C8 a;show d _
def KB (d:T)(c:Array ba)(g:(c.size:Int)<2^63):
 oc (Builtin.«bool.__new__» #[[.type "bool",.ref d],[]]) (λh e a=>a.heap.IsList d c/\∀f,e (.ok<| .ret<| .bool<|!c.isEmpty) {a with toks:=f}):=
 uD λc d h e a b=>by
  obtain⟨c,d,e,f,h⟩:=a;show ao b λa b=>?_;have c:=F.conv_sub_bool
  repeat(any_goals (first|assumption|(with_reducible show wpAny_truthy_list a g ?_)|wp_step))
  all_goals first|show av _ rfl (b _)|show b _|skip
def bO.KC {r:i}(b:as Y r (.list ds))(a:ds.length<2^62):bO Y (.type "bool") [r] (.bool<|decide (0<ds.length)):=.mk λa d e f j k c g h=>by
 show p g.one λj a=>?_;show ci a λg=>?_;show p (b.obj c g) λj a=>?_;show ci a λb=>?_;show aY b.eA λa g c=>?_;have b:a.toArray.size=ds.length:=by simpa using c.length
 have k:=C8 b;show call_bool_1 (KB j a.toArray (by mspec b;omega)) (show _/\∀a,wants (λb c=>c.TypeIs b "bool"/\e b c) f _ _ from#[PlainList.fT g,λa=>#[V,?_]]);mspec k;show h _ d.heap a (Q.bf _)<| .bool _
def E.C9 (q:R Y arg af)(a:R Y o (.val<| .ref ac))
 (e:Y.G=bE++(ac,.list ds)::b4) (s:ds.length<=aD) (d:mq Y.I=aj) (j:f6 (.Call (.Attribute o "append" m) [arg] [] k) ah pos.line Y.I=pure aj)
 (f:bh [arg] Y.I=(aj,eval arg Y.I)::bh [] Y.I)
 (t:eval (.Call (.Attribute o "append" m) [arg] [] k) Y.I=(do
  let r <-eval o Y.I
  es m.atName
  let(w,first) <-e7 [r] (gK r "append" x)
  dP k w first (cY k<|bh [arg] Y.I) [])):
 E Y H (.Expr (.Call (.Attribute o "append" m) [arg] [] k) pos) (c2 (u H #[Y.d,Y.O,Y.I,Y.X,Y.q,bE++(ac,.list (ds++[af]))::b4]) B):=.mk λg k h i b=>by
 show oa (jP (pl:=x) (a.go g k _ h i.todA b.tocV λo m r v y=>?_) t) d j;obtain rfl:=y.is;have a:=b.keep v;have j:(ac,.list ds)∈Y.G:=e▸bB ap;show aY ((a.G _ j).2.eA) λk m b=>?_;show p m λn d=>?_;show B4 d V rfl (mh (first:=[.ref ac]) ((W.cons q W.nil f).go g _ _ h i.todA a.tocV λv m w r t=>?_) f c);show p t.one λg f=>?_;show ci f λh=>?_;have f:=a.keep r;show ao (f.G _ j) λi a=>?_;show aY a.eA λk j b=>?_;show p j λn d=>?_;show uf d (λh' a j=>#[.up,?_]) (by simpa[b.length]using s);have d:u H #[Y.d,Y.O,Y.I,Y.X,Y.q,bE++(ac,.list ds)::b4] m:=e▸f;have e:Q (l h' Y.X) (l m Y.X):=l.mR λf o n m=>a.extBut f o (λq=>n<|q▸i) m;show d.kW a (.list (a3:=k++[g]) #[n+1,by simpa using j]<|(b.append<| .cons h .nil).keep e)
end
noncomputable abbrev dl:=List<|v×Int×h
noncomputable abbrev az.P (ai:az):dl:=ai.bt.map λdS=>(dS.name,dS.cx,dS.succ)
noncomputable def iZ (b0:dl)(a:v):dl:=if b0.any (λa2=>a2.1==a)then b0 else b0++[(a,0,[])]
noncomputable def u8 (b0:dl)(a:v)(am:Int):dl:=b0.map λa2=>if a2.1=a then(a2.1,a2.2.1+am,a2.2.2)else a2
noncomputable def pm (b0:dl)(a b:v):dl:=b0.map λa2=>if a2.1=a then(a2.1,a2.2.1,a2.2.2++[b])else a2
noncomputable def mw (b0:dl)(a:v)(b:h):dl:=b.foldl (λb0 ak=>pm (iZ b0 ak) ak a)<|u8 (iZ b0 a) a b.length
structure fU (ai a:az):Prop where
 x:a.x=ai.x
 df:a.df=ai.df
 cp:a.cp=ai.cp
 qK:∀ak∈ai.G,ak.1∈aI a.G
def fU.bf (a:az):fU a a:=#[V,V,V,λb a=>c9 a]
def fU.trans (a:fU k m)(b:fU m n):fU k n:=#[b.x.trans a.x,b.df.trans a.df,b.cp.trans a.cp,λc d=>by
 show aY (ck<|a.qK c d) λe f g=>?_;show ch g ?_;show b.qK e f]
abbrev az.bA (ai:az):Prop:=(ai.bt.map (·.name)).Nodup
noncomputable abbrev az.mx (ai:az)(bE:List gc):aE:=(ai.x,.aG (c3 192 ai.df))::(ai.df,.ns ai.attrs)::(ai.cp,.bN (eD ai.bt))::(kn ai.bq++ea bE)
def az.split {ai:az}{a:gc}(b:ai.bt=k++a::m):ai.G=ai.mx k++(a.S,.slots 95 [.str a.name,.int a.cx,.val<| .ref a.cE])::(a.cE,.list (a.succ.map .str))::ea m:=by
 unfold az.G az.mx;mspec(show ea ai.bt=ea k++(lM a++ea m)from by show aJ b ?_;rw[C5]);simp[lM]
noncomputable abbrev az.gD (ai:az)(bE:List gc)(dS:gc)(b4:List gc):az:={ai with bt:=bE++dS::b4}
def az.u9 {a:az}(b:a.bt=k++m::n)(c:eb.name=m.name)(d:eb.S=m.S):(a.gD k eb n).mx k=a.mx k:=by
 unfold az.mx az.gD;simp[eD,b,c,d,az.attrs]
def fU.gD {b:az}{d e:List gc}{c eb:gc}(f:b.bt=d++c::e)(i:eb.name=c.name)(h:eb.S=c.S)(j:eb.cE=c.cE):fU b (b.gD d eb e):=#[V,V,V,λc a=>by
 replace a:=(az.split f)▸a;mspec az.split (ai:=b.gD d eb e) V;mspec az.u9 f i h;mspec ij;show cL a (λa=>?_) λa=>?_
 .show bJ<|c9 a
 .show bB ?_;show ay (a5 a) (λk=>?_) λa=>?_
  .obtain rfl:=k;show ch h ?_;show ap
  .rcases a5 a with rfl|a
   .show ch j ?_;show g ap
   .show g<|g<|c9 a]
def mv.eu (b:mv k n m o):fU k m:=by
 rcases b with⟨_,_,_,_,_,_,rfl⟩|⟨_,c,rfl⟩
 .show fU.bf _
 .show#[V,V,V,λb a=>?_];simp only[az.G,b8,eX,u4,hQ,lY]at a ⊢;rcases a with rfl|rfl|rfl|a|a
  .show .inl V
  .show .inr<| .inl V
  .show .inr<| .inr<| .inl V
  .show .inr<| .inr<| .inr<| .inl<|c9 a
  .show .inr<| .inr<| .inr<| .inr<| .inl<|c9 a
def mv.hF (i:mv k n m o)(e:k.bA):(∃b a c,m.bt=b++a::c/\a.name=n/\a.S=o)/\m.bA/\m.P=iZ k.P n/\m.bq=k.bq/\m.bW=k.bW/\m.bI=k.bI/\m.bt.length<=k.bt.length+1:=by
 rcases i with⟨b,a,c,f,g,j,rfl⟩|⟨h,m,rfl⟩
 .show A7 (kM b a c f g j) e ?_ V rfl rfl (lB _);unfold iZ;rw[if_pos];show(ko).mpr ?_;show av (a.name,a.cx,a.succ) (iv.mpr<|av a (by mspec f;simp) V) (by simp[g])
 .show A7 (kM k.bt _ [] rfl rfl rfl) ?_ ?_ V rfl rfl (by simp)
  .show(?_:(yJ _<|k.bt++[_]).Nodup);mspec eX;rw[gz];show cH e (by simp)<|λb l c p=>?_;obtain⟨a,d,rfl⟩:=ck l;mspec bX p;show h a d
  .unfold iZ;rw[if_neg]
   .simp[az.P]
   .rw[ko];intro b;show aY b λc q r=>?_;obtain⟨a,d,rfl⟩:=ck q;show h a d (by simpa using r)
def yK {b:az}{g i:List gc}{a eb:gc}(j:b.bt=g++a::i)(c:b.bA)(k:v×Int×h->v×Int×h)(l:(eb.name,eb.cx,eb.succ)=k (a.name,a.cx,a.succ)):(b.gD g eb i).P=b.P.map λd=>if d.1=a.name then k d else d:=by
 unfold az.bA at c;rw[j]at c;simp only[eX,b8,gz,ka]at c;show cd c λb d m=>?_;show ao d λn b=>?_;unfold az.P az.gD;simp only[j,eX,b8,d9];congr 1
 .show hD λe f=>?_;have:e.name≠a.name:=m _ (dI f) _ ap;simp[this]
 .simp only[if_true,<-l];congr 1;show hD λe f=>?_;have:e.name≠a.name:=λa=>n<|a▸dI f;simp[this]
def yL {a:az}{b eb:gc}(d:a.bt=k++b::m)(c:a.bA)(e:eb.name=b.name):(a.gD k eb m).bA:=by
 unfold az.bA az.gD at*;rw[d]at c;simpa[e]using c
section
variable {U:aW}
def KD (b:aR U):eB U 161 (bk 161<|a U) ["self"] (cf 161<|a U):=
 b.fn V rfl D V rfl (kY λd=>by room)
  (fi V hc) (by decide) (show([]:h).Nodup by decide) c c V
def KE (k:aR U)(n:Nat)(j:T)(X:aZ)(l:aP)(d:az)(r:T×h)(m:d.bq=J r)(s:r.2.length<=1000):
 N l #[U,n,bV (bk 161<|a U) j 161,X,[("self",.val (.ref d.x))],d.G] (cf 161<|a U) (et U l d.G λp q=>p=d.G/\q=.bool (decide (d.bI<d.bW)||decide (0<r.2.length))):=by
 have e:=az.ik (Y:=#[U,n,bV (bk 161<|a U) j 161,X,[("self",.val (.ref d.x))],d.G]) k V d d.eK d.eT;have j:mu d.bq=.val (.ref r.1):=by mspec m;rfl
 have f:=e.2.1;rw[j]at f;mexact N.br (X:=X) (Γ:=[("self",.val (.ref d.x))]) (own:=d.G) (E.dC (aq:=aj) (a1.bL (b:=aj) (ac:=.val<| .ref r.1) (R.fl (R.K 0 V) f V) R.gF ax.oX c) (λo=>by cases o)<|λj=>N.nil λo j=>j) ?_;mexact N.qE (R.or (ac:=.bool<|decide (d.bI<d.bW)) (R.bL (R.fl (R.K 0 V) e.2.2.2 V) (R.fl (R.K 0 V) e.2.2.1 V) ax.lt c) eH.bool (λj=>?_)<|λj=>?_) V (Q.bf _) (λl e=>c9 e) (eJ _) #[V,V]
 .mspec j;rw[KG];show R.of_eq (R.mX (ds:=[_]) (k.eZ V rfl (by room) (by decide) V rfl rfl (by decide)) (W.cons (R.fl (R.K 0 V) f V) W.nil V) (bO.KC (as.G (show(r.1,i.list (r.2.map .str))∈d.G from g<|g<|g<|bJ (by mspec m;show ap))) (by rw[a7];show gu)) V c V) ?_;rw[a7]
 .mspec j;rw[Bool.true_or]
def KH (c:aR U){b:be}{g:aP}{n:Nat}{keep:aE}(i:b.d=U)(j:b.O=n+1)(a:az)(r:T×h)(k:a.bq=J r)(l:r.2.length<=1000)(m:b.G.Perm (a.G++keep)):
 dY b g (.ref 161) [.val<| .ref a.x] (λd e f=>e=a.G++keep/\f=.bool (decide (a.bI<a.bW)||decide (0<r.2.length))):=by
 subst i;show(KD c).mr (n:=n) (ai:=a.G) (keep:=keep) j V m (λb d h0=>KE c n b d _ a r k l) λe f g=>ao g λa b=>#[by show aJ a V,b]
end
section
variable {U:aW}
def aR.yM (b:aR U)(d:(a U).lookup k=J o)(hd:o.data=.func (bk k<|a U))(e:codeIn (a U) (bk k<|a U).code (bk k<|a U).qualname=z)(f:(bk k<|a U).body=.stmts body)(g:(bk k<|a U).closure=[])
 (h:∀c∈m,(bk k<|a U).scope.names.lookup c=J .local\/((bk k<|a U).scope.names.lookup c=J .cell/\∀i,((iA i (bk k<|a U).scope.names []).lookup c).isSome=z)) (j:m.Nodup)
 (l:((iA 0 (bk k<|a U).scope.names []).map (·.1)).Nodup) (n:(bk k<|a U).scope.isCoroutine=aj) (gen:(bk k<|a U).scope.isGenerator=aj) (p:(bk k<|a U).scope.kind=.function):g9 U k (bk k<|a U) m body:=by
 show bC λi c=>?_;show hy b.kb λm q r s t k=>?_;show c ?_;clear c i;show#[(av o (b.bD _ _ d) hd),k.nolimit,codeRec_of b.bD e,f,g,h,j,l,n,gen,p]
def Da (b:aR U):g9 U 142 (bk 142<|a U) ["self","node","predecessors"] (cf 142<|a U):=
 b.yM V rfl D V rfl (fi V<|fi V<|fi V hc) (f D) (by decide:([]:h).Nodup) c c V
def Db (b:bb U (l k.heap X) n r)(c:bb U (l k.heap X) w x)(d:aO U (l k.heap X) m ds)(e:ds.length<=aD)(f:∀g∈X,∃o,k.heap.get? g=J o):
 gJ U (bk 142<|a U) #[n::w::m,[]] ["self","node","predecessors"] X [r,x,.bR ds] k:=
 gJ.Ky (by cases m<;>room) b c d e f
structure kp (ai:az)(b0:dl)(am:Nat)(a:az):Prop where
 eu:fU ai a
 bA:a.bA
 P:a.P=b0
 bq:a.bq=ah
 bW:a.bW=ai.bW
 bI:a.bI=ai.bI
 len:a.bt.length<=ai.bt.length+am
def fD (aH:Nat)(b0:dl):Prop:=∀a2∈b0,a2.2.2.length<=aH
def va (b:fD k m)(a:v):fD k (iZ m a):=by
 unfold iZ;split
 .show b
 .intro c a;show cL a (λa=>?_) λa=>?_
  .show b c a
  .mspec bX a;simp
def Dc (a:fD k m)(b:v)(c:Int):fD k (u8 m b c):=λb d=>by
 obtain⟨e,f,rfl⟩:=ck d;have:=a e f;split<;>show this
def KI (a:fD k m)(b c:v):fD (k+1) (pm m b c):=λb d=>by
 obtain⟨f,g,rfl⟩:=ck d;have:=a f g;split
 .simp;show this
 .show b9 [.j y C] 0 y (.e C) D this
theorem yN (d:v):∀(b:h){a:dl},fD aH a->fD (aH+b.length) (b.foldl (λa c=>pm (iZ a c) c d) a)
 |[],a,e=>e|c::b,a,e=>by
  have:=yN (aH:=aH+1) d b<|KI (va e c) c d;mspec hV;mspec eC;mspec AR b.length 1;rw[<-vb];show this
noncomputable abbrev qL (U:aW)(ca:T):b3:=bV (bk 142<|a U) ca 142
noncomputable abbrev vc (ae:T)(a:v):bg:=[("self",.val (.ref ae)),("node",.str a)]
noncomputable abbrev KJ (U:aW):List cC:=lC (cf 142<|a U) 3
def kp.trans {f c:dl}{d e:Nat}(b:kp k f d m)(a:kp m c e n):kp k c (d+e) n:=
 #[b.eu.trans a.eu,a.bA,a.P,a.bq,a.bW.trans b.bW,a.bI.trans b.bI,a6 a.len<|a6 (AW b.len _)<|aA (vb ..)]
def mv.Dd (d:mv k m n o)(f:k.bA)(g:k.bq=ah):∃b a c,n.bt=b++a::c/\a.name=m/\a.S=o/\kp k (iZ k.P m) 1 n:=by
 show bC λh e=>?_;show tJ (d.hF f) λi j k l m n o=>?_;show l4 i λb a c f p q=>?_;show e ?_;clear e h;show#[b,a,c,f,p,q,d.eu,j,k,l.trans g,m,n,o]
def De {a eb:gc}(b:k.bt=m++a::n)(f:k.bA)(j:k.bq=ah)(c:eb.name=a.name)(g:eb.S=a.S)(l:eb.cE=a.cE)(d:v×Int×h->v×Int×h)(o:(eb.name,eb.cx,eb.succ)=d (a.name,a.cx,a.succ)):
 ∃i,kp k (k.P.map λe=>if e.1=a.name then d e else e) 0 i/\i.G=k.mx m++(eb.S,.slots 95 [.str eb.name,.int eb.cx,.val<| .ref eb.cE])::(eb.cE,.list (eb.succ.map .str))::ea n:=
 (av (k.gD m eb n) #[fU.gD b c g l,yL b f c,yK b f d o,j,V,V,by mspec b;simp[az.gD]] (by mspec az.split (ai:=k.gD m eb n) V;show aJ (az.u9 b c g) V))
def KK (l:aR U)(n:Nat)(p:T)(X:aZ)(q:aP)(e:az){m:T}(F:e.x=m)(f g:v)(G:e.bq=ah)(H:e.bA)(I:e.bt.length<=1000)(K:fD 1000 (iZ e.P g))(s:db)
 (L:∀t w j,(∀M∈X,M∈t)->kp e (pm (iZ e.P g) g f) 1 w->u q #[U,n+3,qL U p,t,vc m f,w.G] j->s .next j):
 N q #[U,n+3,qL U p,X,bl "pred" (.str g)<|vc m f,e.G] (KJ U) s:=by
 subst F;mexact N.kj (aU.yn (aw:=a U) (ds:=[.str g]) l.bD e.eK e.eT (by rfl) C2 (R.K 1 V) (W.cons (R.K 0 V) W.nil V) (C6 l (n:=n) (keep:=[]) V rfl e g I (by rw[fk])) V c V) (.inl V) V λO p q m P=>?_;show cm m λo g e=>?_;show rD e λQ=>?_;show bC λS x=>?_;obtain⟨y,d,A,k,rfl,rfl,h⟩:=Q.Dd H G;show x ?_;clear x S;rw[fk];have Y:(d.S,i.slots 95 [.str d.name,.int d.cx,.val<| .ref d.cE])∈o.G:=az.split k▸bB ap;have Z:=K (d.name,d.cx,d.succ)<|h.P▸iv.mpr (av d (k▸bB ap) V);show aY (De (eb:={d with succ:=d.succ++[f]}) k h.bA h.bq V rfl rfl (λe=>(e.1,e.2.1,e.2.2++[f])) V) λB C Sf=>?_;rw[h.P]at C;mexact N.cons (E.C9 (af:=.str f) (ac:=d.cE) (ds:=d.succ.map .str) (bE:=o.mx y++[(d.S,.slots 95 [.str d.name,.int d.cx,.val<| .ref d.cE])]) (b4:=ea A) (R.K 3 V)
  (R.fl (r:=.val<| .ref d.S) (R.K 0 V) (f8.slot (aw:=a U) l.bD (ac:=d.S) (b:=95) (ds:=[.str d.name,.int d.cx,.val<| .ref d.cE]) Y V (.ref _) u2) V) (by rw[hX];show az.split k) (by rw[a7];show a6 Z<|fR D) c V rfl rfl)<|uk.of ?_
 mspec(by show aJ Sf ?_;rw[hX];show aJ eX ?_;rfl:o.mx y++[(d.S,i.slots 95 [.str d.name,.int d.cx,.val<| .ref d.cE])]++(d.cE,.list (d.succ.map .str++[.str f]))::ea A=B.G);show N.nil λj d=>L O B j P (h.trans C)<|d.eh<|aN.cI [2,3] rfl
inductive Df (ai:az)(a:v)(b0:dl)(am:Nat)(Γ:bg)(own:aE):Prop
 |mk (b:az) (c:aN Γ (vc ai.x a)) (d:own=b.G) (aK:kp ai b0 am b):Df ai a b0 am Γ own
noncomputable abbrev yO:=λ(ai:az) (a:v) (b:h)=>([("self",.val (.ref ai.x)),("node",.str a),("predecessors",.bR (b.map .str))]:bg)
def KL (k:aR U)(n:Nat)(t:T)(X:aZ)(B:aP)(e:az)(p:v)(g:h)(Sg:e.bq=ah)(Sr:e.bA)(K:e.bt.length+g.length<=900)(Sh:Nat)(Ss:fD Sh e.P)(St:Sh+g.length<=900):
 N B #[U,n+3,qL U t,X,yO e p g,e.G] (cf 142<|a U) (et U B e.G λSu L=>L=.none/\∃u,Su=u.G/\kp e (mw e.P p g) (1+g.length) u):=by
 have Si:=(az.ik (Y:=#[U,n+3,qL U t,X,yO e p g,e.G]) k V e e.eK e.eT).2.1;rw[Sg]at Si;have Sv:e.bt.length<=1000:=a6 (oU ..)<|a6 K<|fR D;have Sw:g.length<=900:=a6 (Nat.le_add_left ..) K;mexact N.br (X:=X) (Γ:=yO e p g) (own:=e.G) (E.dC (aq:=aj) (a1.bL (b:=aj) (ac:=.none) (R.fl (R.K 0 V) Si V) R.gF ax.p7 c) (λq=>by cases q)<|λF=>N.nil λq w=>w) ?_;mexact N.kj (aU.yn (aw:=a U) (ds:=[.str p]) k.bD e.eK e.eT (by rfl) C2 (R.K 0 V) (W.cons (R.K 1 V) W.nil V) (C6 k (n:=n) (keep:=[]) V rfl e p Sv (by rw[fk])) V c V) (.inl V) V λSx Si Su Sh SI=>?_;show cm Sh λM Si p=>?_;show rD p λSy=>?_;show bC λSz Sj=>?_;obtain⟨SA,d,SB,P,rfl,rfl,G⟩:=Sy.Dd Sr Sg;show Sj ?_;clear Sj Sz;rw[fk];have SD:(d.S,i.slots 95 [.str d.name,.int d.cx,.val<| .ref d.cE])∈M.G:=az.split P▸bB ap;show aY (De (eb:={d with cx:=d.cx+g.length}) P G.bA G.bq V rfl rfl (λx=>(x.1,x.2.1+g.length,x.2.2)) V) λZ Sk SE=>?_;rw[G.P]at Sk;mexact N.yl (o:=.Name "nodeinfo" _) (r:=.val<| .ref d.S) (ac:=d.cx) (b:=g.length) (bi:=Z.G) (R.K 0 V)
  (f8.slot (aw:=a U) k.bD (ac:=d.S) (b:=95) (ds:=[.str d.name,.int d.cx,.val<| .ref d.cE]) SD V (.int _) lK)
  (R.of_eq (R.jH (ds:=[_]) (k.eZ V rfl (by room) (f D) V rfl rfl (f D)) (W.cons (R.K 3 V) W.nil V) (bO.C7 (by rw[a7];show tx Sw<|Dg (Nat.lt_of_sub_eq_succ V) V)) V c V)<|by rw[a7]) ?_ ?_
 .mspec SE;show fb.slot (Y:=#[U,n+3,qL U t,Sx,bl "nodeinfo" (.val<| .ref d.S) [("self",.val (.ref e.x)),("node",.str d.name),("predecessors",.bR (g.map .str))],M.G]) (H:=B) (aw:=a U) k.bD (af:=.int<|d.cx+g.length) (bE:=M.mx SA) (b4:=(d.cE,.list (d.succ.map .str))::ea SB) (az.split P) (fR V) lK sw
 mexact N.seq (E.ms (ce:=λA Γ own=>Df e d.name ((g.take A).foldl (λp l=>pm (iZ p l) l d.name)<|u8 (iZ e.P d.name) d.name g.length) (1+A) Γ own) (λF F=>False) [] Z.G V (aU.of<|R.K 3 V) (λp q=>by cases q) cA.bR #[Z,aN.cI [1,2] rfl,V,G.trans Sk] (λL F=>.name<| .inl V) ?_ ?_<|λF=>rfl)
 .intro A L I Γ own SF hd s _ SG;cases s with|mk Sl Sm Sf m=>
  subst Sf;rw[e8,gl]at hd;obtain⟨l,Sn,rfl⟩:=hd;have p:A<g.length:=(gG.mp Sn).1;mexact N.dW (Y:=#[U,n+3,qL U t,I,gp (.Name "pred" #[_,_,_,_]) (.str l) Γ,Sl.G]) (eI:=bl "pred" (.str l)<|vc e.x d.name) (Sm.bl _ _)<|KK k n t I (B.at SF) Sl m.eu.x d.name l m.bq m.bA ?_ ?_ _ λF G q L So w=>#[F,_,_,L,#[G,aN.bf _,V,?_],w]
  .show a6 m.len<|a6 (pV (pV (iC p) 1) _)<|b9 [.j (.S y C)<| .O 900] 0 (.S y<| .S (.O 1) C) (.O 1000) D K
  .have Sp:=yN d.name (g.take A)<|Dc (va Ss d.name) d.name g.length;rw[<-m.P]at Sp;show λx d=>a6 (va Sp l x d)<|a6 (pV (KN ..) _)<|a6 St<|fR D
  .mspec nh Sn;mspec iX;rw[m.P]at So;show m.trans So
 .intro I Γ own q SG s w;rcases s with s|SH
  .rw[a7,iU]at s;cases s with|mk u Sm Sf Sq=>
   subst Sf;show .mk (X:=I) (Γ:=Γ) (own:=u.G) w<|N.sd V (Q.bf _) Sq.eu.qK (eJ _) #[V,u,V,Sq]
  .show SH.elim
def Dh (i:aR U)(t:k.d=U)(w:k.O=n+4)(a:az)(d:v)(b:h)(x:a.bq=ah)(A:a.bA)(m:a.bt.length+b.length<=900)(f:Nat)(B:fD f a.P)(E:f+b.length<=900)(F:k.G.Perm (a.G++keep))
 (o:cv) (g:aX) (_:u M k g) (c:aO k.d (l g k.X) o (.val (.ref a.x):: .str d::b.map .str)):
 og k M (.ref 142) o g (λq r s=>s=.none/\∃e,r=e.G++keep/\kp a (mw a.P d b) (1+b.length) e):=by
 subst t;cases c with
 |cons G c=>
  cases c with
  |cons H c=>
   show(Da i).mr (n:=n+3) (ai:=a.G) (keep:=keep) (ds:=[.val<| .ref a.x,.str d,.bR<|b.map .str]) w V F (λg I K=>?_) (λg q h0=>KL i n g q _ a d b x A m f B E) λr s L=>?_
   .subst I;show Db G H c (by rw[a7];unfold aD;show b9 [.j (.S C y)<| .O 900] 0 y (.O<|2^24) D m) K.cw
   .show ao L λa b=>?_;show p b λe c=>?_;show ci c λb=>?_;show#[a,e,V,b]
def KO (f:aR U)(g:k.d=U)(i:k.O=n+4)(a:az)(c:v)(b:h)(j:a.bq=ah)(l:a.bA)(m:a.bt.length+b.length<=900)(d:Nat)(o:fD d a.P)(p:d+b.length<=900)(q:k.G.Perm (a.G++keep)):
 dY k w (.ref 142) (.val (.ref a.x):: .str c::b.map .str) (λt r s=>s=.none/\∃e,r=e.G++keep/\kp a (mw a.P c b) (1+b.length) e):=
 og.call (Dh f g i a c b j l m d o p q)
end
noncomputable def KP (aH:ia α):eg->ia α:=ia.casesOn aH (λa=>λa=>aH) (λa=>λa=>aH) (λa=>λa=>aH) (λa=>λa=>aH) (λa a=>λa=>aH) (λa a=>λa=>aH) (λa a am=>am) (λa a a a=>λa=>aH) (λa a=>λa=>aH) (λa a=>λa=>aH) (λa a=>λa=>aH) (λa a=>λa=>aH) (λa=>λa=>aH) (λa=>λa=>aH) (λa a a=>λa=>aH) (λa a a=>λa=>aH) (λa a a a a=>λa=>aH) (λa a=>λa=>aH) (λa a=>λa=>aH) (λa a=>λa=>aH) (λa a a a=>λa=>aH) (λa a a a=>λa=>aH) (λa=>λa=>aH) (λa a=>λa=>aH) (λa=>λa=>aH)<|λa a a a a=>λa=>aH
def gJ.KQ (a:hE n #[[k],[]]=(load ac >>= am))(b:m.heap.get? ac=J o)(c:am o=pure [(r,k),(w,.none)])
 (d:bb x (l m.heap X) k B):gJ x n #[[k],[]] [r,w] X [B,.none] m:=.mk λf g h e=>by
 mspec a;show ar (sb b (by mspec c;show bc<|e [k,.none] m.heap m.toks (Q.bf _)<| .cons d<| .cons .none .nil))
section
variable {Y:be}{H:aP}{aw:ht}
def R.sy (a:R Y m (.val<| .int k a2)):R Y m (.int k):=.mk λb c d e f g h=>a.go b c d e f g λi h' j l r=>h i h' j l (by obtain rfl:=r.is;show .int k a2)
def u.lO (a:u H Y k)(c:Y.G.Perm bi):u H #[Y.d,Y.O,Y.I,Y.X,Y.q,bi] k:=
 {base:=a.base,cw:=a.cw,d8:=a.d8,kind:=a.kind,de:=a.de,ns:=a.ns,cells:=a.cells,apart:=a.apart,cn:=a.cn,ft:=a.ft,new:=a.new,sub:=a.sub
  G:=λb d=>a.G b (c.mem_iff.mpr d)
  cN:=λb d=>a.cN b (c.mem_iff.mpr d)
  dt:=c.pairwise a.dt<|λk b=>k b.symm}
def N.lO (a:Y.G.Perm bi)(r:N H #[Y.d,Y.O,Y.I,Y.X,Y.q,bi] k m):N H Y k m:=N.qh (λc b=>b.lO a) r
def N.qH {aM:Prop}(b:∀a,u H Y a->aM)(r:aM->N H Y k m):N H Y k m:=.mk λc d e f a=>(r<|b _ a).go c d e f a
def E.KR (h:R Y o (.val<| .ref ac))
 (b:Y.G=r++(ac,.list ds)::w) (i:ds.length<=aD) (j:mq Y.I=aj) (l:f6 (.Call (.Attribute o "clear" m) [] [] k) ah pos.line Y.I=pure aj)
 (q:eval (.Call (.Attribute o "clear" m) [] [] k) Y.I=(do
  let x <-eval o Y.I
  es m.atName
  let(B,first) <-e7 [x] (gK x "clear" M)
  dP k B first (cY k<|bh [] Y.I) [])):
 E Y H (.Expr (.Call (.Attribute o "clear" m) [] [] k) pos) (c2 (u H #[Y.d,Y.O,Y.I,Y.X,Y.q,r++(ac,.list [])::w]) Sf):=.mk λk d m t e=>by
 show oa (jP (pl:=M) (h.go k d _ m t.todA e.tocV λo f v y A=>?_) q) j l;obtain rfl:=A.is;have g:=e.keep y;show ao (g.G _ (show(ac,.list ds)∈Y.G from b▸bB ap)) λh e=>?_;show aY e.eA λj h C=>?_;show p h λn a=>?_;show qs (PlainList.fT #[n,a]).typeIs IC PySem.F.slot_list_clear PySem.F.type_list_clear (λe H=>by cases H;show av _ a V) ?_;show PySem.P.clear_list (s:={d with heap:=f,toks:=v}) a #[.up,?_] (by simpa[C.length]using i);show(show u H #[Y.d,Y.O,Y.I,Y.X,Y.q,r++(ac,.list ds)::w] f from by show b▸g).kW (ji ..)<| .list (a3:=[]) ?_ .nil;have:=nc (jo λb=>(aRR [])) a c;show dn _ this
def dY.KS (X:aw.In Y.d.B)(x:makesIn aw k=z)(y:sf aw (.ref k) "__init__"=J (J<| .ref oh))(G:sg aw (.ref oh)=J (.type "function"))(I:Y.O=n+1)
 (K:∀e h i a,e∉Y.X->h∉Y.X->aO Y.d (l a<|e::h::Y.X) i ds->og #[Y.d,n,Y.I,e::h::Y.X,Y.q,(e,.aG (c3 k h))::(h,.ns [])::Y.G] H (.ref oh) (.ref e::i) a (λq r s=>s=.none/\M q r (.val<| .ref e))):dY Y H (.ref k) ds M:=.mk λu L e h i v f w b=>by
 obtain⟨a,N,s,O,P⟩:=L;dsimp only at f w b;show hS<|make_core (makes_of (f.tocV.bD X) x) (looks_findIn (f.tocV.bD X) y) (λe=>bind_fn (f.tocV.bD X) e G) (.inl D) ?_;have e:(a.push f5).objs.size=a.objs.size+1:=mi ..;have t:=f.iF d3;have h:(a.push f5).get? a.objs.size=J f5:=dM _ c;have x:=f.gI d3 #[_,h]<|Q.push _ _;have f:(a.push f5).get? (a.objs.size+1)=ah:=e▸d3;have y:((a.push f5).push<|c3 k a.objs.size).get? (a.objs.size+1)=J (c3 k a.objs.size):=e▸dM _ c;have j:=x.iF f;have e:=x.gI f #[_,y]<|Q.push _ _;have R:a.objs.size+1≠a.objs.size:=Nat.succ_ne_self _;have f:=e.ig (ac:=a.objs.size) (af:=.ns []) (g ap) (.ns (dz:=[]) (n:=0) (show((a.push f5).push<|c3 k a.objs.size).get? a.objs.size=J f5 from gj _ h) .nil) t.2.2.1 t.1;have A:=f.ig (ac:=a.objs.size+1) (af:=.aG<|c3 k a.objs.size) ap (.aG y) j.2.2.1 (λd=>by
  show ay (iE d) (λb=>?_) λe=>ay e (λf=>?_) λS=>?_
  .show j.1<|b▸ap
  .show p f λe h=>?_;show ao h λm b=>?_;show j.1<|b▸g (bJ<|dI m)
  .obtain⟨e,m,b⟩:=S;rcases a5 m with rfl|m
   .show R b
   .show j.1<|b▸g (bB<|dI m))
 have T:Q (l ((a.push f5).push<|c3 k a.objs.size)<|(a.objs.size+1)::a.objs.size::Y.X) (l a Y.X):=λB o b=>by
  have e:=l.of _ _ b;show cb _ (gj _<|gj _ e) λd=>?_;have C:=gk e;show ay (a5 d) (λU=>?_) λd=>?_
  .obtain rfl:=U;show absurd C<|g7.mpr<|lB _
  .rcases a5 d with rfl|d
   .show absurd C<|mP _
   .show b6 (cU _ d) b
 show(K (a.objs.size+1) a.objs.size i _ (λd=>j.2.1<|g d) t.2.1<|w.keep T).go _ #[(a.push f5).push<|c3 k a.objs.size,N,s,O,P] _ ?_ V ?_ λe W Z #[q,r,f,#[hd,Sf],Sg,E,Sh]=>?_
 .have F:=v.todA;rw[I]at F;show#[F.rE V rfl rfl (by decide:1<=3),λa e=>(show(u.under<|Code.builtin "type.__call__" #[.ref k::i,[]]).frames=u.frames from rfl).trans<|v.o8 a e]
 .show{A with tocV:={A.tocV with}}
 .subst hd;obtain rfl:=Sh.is;show#[V,b _ W (cs.up.trans Z) #[q,r,_,Sf,λB d=>Sg B<|g<|g d,{E with tocV:={E.tocV with}},.val _]]
end
section
variable {U:aW}
def Di (b:aR U):g9 U 128 (bk 128<|a U) ["self","graph"] (cf 128<|a U):=
 b.yM V rfl D V rfl (fi V<|fi V hc) (by decide) (show([]:h).Nodup by decide) c c V
noncomputable abbrev nk (ae lu a:T):az:=#[ae,lu,a,[],ah,0,0]
def Dj (b:aR U):∃a o,@m5 Nat _ i8 a/\U.B.get? a=J o:=by
 show aY ((Di b).at_) λo a c=>?_;show ix 128 o (by decide) a
def KT (g:aR U)(n:Nat)(j d e:T)(X:aZ)(h:aP):
 N h #[U,n,bV (bk 128<|a U) j 128,X,[("self",.val (.ref d)),("graph",.none)],[(d,.aG (c3 192 e)),(e,.ns [])]] (cf 128<|a U) (et U h [(d,.aG (c3 192 e)),(e,.ns [])] λl m=>m=.none/\∃f,l=(nk d e f).G):=by
 mexact N.uM (r:=.val<| .ref d) (aU.Cv<|Dj g) V λm q s l t=>?_;show p l λf m=>?_;show wZ m λl q=>?_;show fo _ (R.K 0 V) (fb.dict (aw:=a U) g.bD (ae:=d) (bE:=[(f,.bN []),(d,.aG (c3 192 e))]) (b4:=[]) (by simp) V (by simp) lL Kn) ?_;mexact N.ph (r:=.val<| .ref d) (af:=.none) R.gF (R.K 0 V) (fb.dict (aw:=a U) g.bD (ae:=d) (bE:=[(f,.bN []),(d,.aG (c3 192 e))]) (b4:=[]) (by simp) V (fR D) lL CZ) V ?_;mexact N.ph (r:=.val<| .ref d) (af:=.int 0) R.bK (R.K 0 V) (fb.dict (aw:=a U) g.bD (ae:=d) (bE:=[(f,.bN []),(d,.aG (c3 192 e))]) (b4:=[]) (by simp) V (fR D) lL C0) V ?_;mexact N.ph (r:=.val<| .ref d) (af:=.int 0) R.bK (R.K 0 V) (fb.dict (aw:=a U) g.bD (ae:=d) (bE:=[(f,.bN []),(d,.aG (c3 192 e))]) (b4:=[]) (by simp) V (fR D) lL C1) V ?_;show N h #[U,n,bV (bk 128<|a U) j 128,f::X,[("self",.val (.ref d)),("graph",.none)],[(f,.bN []),(d,.aG (c3 192 e)),(e,.ns (nk d e f).attrs)]] _ _;mexact N.br (X:=f::X) (Γ:=[("self",.val (.ref d)),("graph",.none)]) (own:=[(f,.bN []),(d,.aG (c3 192 e)),(e,.ns (nk d e f).attrs)]) (E.dC (aq:=aj) (a1.bL (b:=aj) (ac:=.none) (R.K 1 V) R.gF ax.p7 c) (λk=>by cases k)<|λg=>N.nil λk g=>g) ?_;mexact N.sd (bi:=(nk d e f).G) V (Q.bf _) (λg i=>?_) ?_ #[V,f,V]
 .show ay (a5 i) (λo=>?_) λi=>?_
  .obtain rfl:=o;simp
  .mspec bX i;simp
 .show(u3 _ _ _).trans<|List.Perm.cons _<|u3 _ _ _
def KU (e:aR U){b:be}(j:b.d=U)(k:b.O=n+2):dY b w (.ref 192) [] (λg h i=>∃c d f,h=(nk c d f).G++b.G/\i=.val (.ref c)):=by
 subst j;show dY.KS (aw:=a b.d) (n:=n+1) (oh:=128) e.bD (by room) (by room) (by room) k λc d j s t u l=>?_;cases l;show(Di e).mr (Y:=#[b.d,n+1,b.I,c::d::b.X,b.q,(c,.aG (c3 192 d))::(d,.ns [])::b.G]) (n:=n) (ai:=[(c,.aG (c3 192 d)),(d,.ns [])]) (keep:=b.G) (ds:=[.val<| .ref c,.none]) V rfl (eJ _) (λj m q=>?_) (λj g h0=>KT e n j c d g _) λh i r=>?_
 .subst m;show gJ.KQ (ac:=121) (o:=((a b.d).lookup 121).getD default) (am:=KP<|hE (bk 128<|a b.d) #[[.ref c],[]]) (by room) (q.tocV.bD e.bD _ _<|by room) (by room)<| .val _
 .show ci r λb=>?_;show p b λf e=>?_;show bw e ?_;show#[V,c,d,f,V,V]
end
noncomputable def eL (b0:dl)(dX:h)(aq:Int):dl:=b0.map λa2=>if a2.1∈dX then(a2.1,aq,a2.2.2)else a2
def KV (g:dl)(d:h)(e:v)(f:Int):(eL g d f).map (λa=>if a.1=e then(a.1,f,a.2.2)else a)=eL g (d++[e]) f:=by
 unfold eL;mspec d9;show hD λa f=>?_;obtain⟨i,f,g⟩:=a;simp only[pj,lY,kF];by_cases b:i∈d<;>by_cases c:i=e
 .subst c;simp[b]
 .simp[b,c]
 .subst c;simp[b]
 .simp[b,c]
def vd (a:dl)(b:h)(c:Int):(eL a b c).map (·.1)=a.map (·.1):=by
 unfold eL;mspec d9;show hD λa b=>?_;simp only[pj];split<;>rfl
def yP (a:az):a.P.map (·.1)=a.bt.map (·.name):=by unfold az.P;mspec d9;rfl
def ve {b:az}(d:k∈b.P.map (·.1)):∃e a f,b.bt=e++a::f/\a.name=k/\(eD b.bt).lookup k=J (.val<| .ref a.S):=by
 show ay (u5 b.bt k) (λe=>?_) λc=>?_
 .show ao e λb c=>?_;rw[yP]at d;show aY (ck d) λa b e=>?_;show absurd e<|c a b
 .show c
structure gM (a:az)(ai:az)(bI:Int)(bW:Int)(r:T×h)(b0:dl):Prop where
 eu:fU ai a
 bA:a.bA
 P:a.P=b0
 bq:a.bq=J r
 bW:a.bW=bW
 bI:a.bI=bI
def az.Dk {a:az}{r:T×h}(b:a.bq=J r):(r.1,i.list (r.2.map .str))∈a.G:=g<|g<|g<|bJ<|b▸ap
def az.sz {ai:az}(a:ai.bq=J r):ai.G=[(ai.x,i.aG (c3 192 ai.df)),(ai.df,.ns ai.attrs),(ai.cp,.bN (eD ai.bt))]++(r.1,.list (r.2.map .str))::ea ai.bt:=by
 unfold az.G;mspec a;rfl
def fU.bq (c:k.bq=J (r,n)):fU k {k with bq:=J (r,m),bW:=ak,bI:=aT}:=#[V,V,V,λd a=>by
 rw[az.sz c]at a;mspec az.sz (ai:={k with bq:=J (r,m),bW:=ak,bI:=aT}) V;mspec ij;show cL a (λa=>?_) λa=>?_
 .show bJ ?_;show ay (a5 a) (λb=>?_) λa=>?_
  .obtain rfl:=b;show ap
  .rcases a5 a with rfl|a
   .show g ap
   .mspec bX a;show g<|g ap
 .show bB ?_;show ay (a5 a) (λb=>?_) λa=>?_
  .obtain rfl:=b;show ap
  .show g<|c9 a]
section
variable {U:aW}
def KW (b:aR U):eB U 154 (bk 154<|a U) ["self"] (cf 154<|a U):=
 b.fn V rfl D V rfl (kY λd=>by room)
  (fi V hc) (f D) (show([]:h).Nodup by decide) c c V
def KX (l:aR U)(n:Nat)(m:T)(X:aZ)(y:aP)(d:az)(r:T)(e:h)(I:d.bq=J (r,e))(Sm:d.bA)(Sn:∀So∈e,So∈d.P.map (·.1))(Sp:e.length<=900):
 N y #[U,n,bV (bk 154<|a U) m 154,X,[("self",.val (.ref d.x))],d.G] (cf 154<|a U) (et U y d.G λSq K=>K=.bR (e.map .str)/\∃g,Sq=g.G/\gM g d d.bI (d.bW+e.length) (r,[]) (eL d.P e<| -1)):=by
 have M:=(az.ik (Y:=#[U,n,bV (bk 154<|a U) m 154,X,[("self",.val (.ref d.x))],d.G]) l V d d.eK d.eT).2.1;rw[show mu d.bq=.val (.ref r) by mspec I;rfl]at M;mexact N.br (X:=X) (Γ:=[("self",.val (.ref d.x))]) (own:=d.G) (E.dC (aq:=aj) (a1.bL (b:=aj) (ac:=.val<| .ref r) (R.fl (R.K 0 V) M V) R.gF ax.oX c) (λq=>by cases q)<|λC=>N.nil λq v=>v) ?_;mexact N.br (E.assign (af:=.bR<|e.map .str) (R.mX (ds:=[_]) (l.eZ V rfl (by room) (f D) V rfl rfl (f D)) (W.cons (R.fl (R.K 0 V) M V) W.nil V) (bO.tuple (as.G<|az.Dk I) (by rw[a7];unfold aD;show b1)) V c V) (.inl V) V) ?_;mexact N.br (E.assign (af:=.val<| .ref d.cp) (R.fl (r:=.val<| .ref d.x) (R.K 1 V) (az.ik (Y:=#[U,n,bV (bk 154<|a U) m 154,X,bl "result" (.bR<|e.map .str) [("self",.val (.ref d.x))],d.G]) l V d d.eK d.eT).1 V) (.inl V) V) ?_;mexact N.cons (aw:=λq=>∃k g O,aN O [("self",.val (.ref d.x)),("result",.bR (e.map .str))]/\gM g d d.bI d.bW (r,e) (eL d.P e<| -1)/\u y #[U,n,bV (bk 154<|a U) m 154,k,O,g.G] q)
  (E.ms (ce:=λSf Γ own=>aN Γ [("self",.val (.ref d.x)),("result",.bR (e.map .str)),("n2i",.val (.ref d.cp))]/\∃g,own=g.G/\gM g d d.bI d.bW (r,e) (eL d.P (e.take Sf)<| -1)) (λC C=>False) [] d.G V (aU.of<|R.K 1 V) (λM q=>by cases q) cA.bR #[aN.cI [2,1,0] rfl,d,V,#[fU.bf d,Sm,by simp[eL],I,V,V]] (λK C=>.name<| .inl V) ?_ ?_<|λC=>rfl) ?_
 .intro Sf K k Γ own Sr hd P;show ao P λF C=>?_;show p C λw I=>?_;show ci I λs=>?_;intro C Ss;rw[e8,gl]at hd;show bC λS A=>?_;obtain⟨x,Sg,rfl⟩:=hd;show A ?_;clear A S;mexact N.dW (Y:=#[U,n,bV (bk 154<|a U) m 154,k,gp (.Name "node" #[_,_,_,_]) (.str x) Γ,w.G]) (eI:=bl "node" (.str x) [("self",.val (.ref d.x)),("result",.bR (e.map .str)),("n2i",.val (.ref d.cp))]) (F.bl _ _) ?_;have K:x∈w.P.map (·.1):=by mspec s.P;rw[vd];show Sn x<|ib Sg
  show bC λS A=>?_;show l4 (ve K) λC t I B St M=>?_;show A ?_;clear A S;have A:=az.split B;mexact N.ph (r:=.val<| .ref t.S) (af:=.int<| -1) (bi:=(w.gD C {t with cx:= -1} I).G) (R.sy (a2:=530)<|l.eW V (by room) V rfl (f D)) (R.item (L:=.str x) (R.K 3 V) (R.K 0 V)<|b7.bN (as.G<|s.eu.cp▸w.lN) M) ?_ V ?_
  .mspec az.split (ai:=w.gD C {t with cx:= -1} I) V;mspec az.u9 (eb:={t with cx:= -1}) B V rfl;show(fb.slot (Y:=#[U,n,bV (bk 154<|a U) m 154,k,bl "node" (.str x) [("self",.val (.ref d.x)),("result",.bR (e.map .str)),("n2i",.val (.ref d.cp))],w.G]) (H:=y.at Sr) (aw:=a U) l.bD (af:=.int<| -1) (bE:=w.mx C) (b4:=(t.cE,.list (t.succ.map .str))::ea I) A (by simp) lK sw)
  .mexact N.nil λq v=>#[_,_,_,λx w=>w,#[aN.cI [1,2,3] rfl,_,V,?_],v];show#[s.eu.trans<|fU.gD (eb:={t with cx:= -1}) B V rfl rfl,yL (eb:={t with cx:= -1}) B s.bA V,?_,s.bq,s.bW,s.bI];mspec yK (eb:={t with cx:= -1}) B s.bA (λt=>(t.1, -1,t.2.2)) V;mspec St;mspec s.P;rw[KV];show aJ (nh Sg) V
 .rintro k Γ own q Ss (⟨F,g,rfl,j⟩|Su) v
  .rw[a7,iU]at j;show kM k g Γ (aN.cons (F _<|bo 0 V)<|aN.cons (F _<|bo 1 V) aN.nil) j (by simpa using v)
  .show Su.elim
 .intro q P;show l4 P λk g O q j v=>?_;show eQ #[U,n,bV (bk 154<|a U) m 154,k,[("self",.val (.ref d.x)),("result",.bR (e.map .str))],g.G] y V rfl rfl rfl rfl (v.eh q) ?_;have Sh:g.x=d.x:=j.eu.x;have Si:=(az.ik (Y:=#[U,n,bV (bk 154<|a U) m 154,k,[("self",.val (.ref d.x)),("result",.bR (e.map .str))],g.G]) l V g g.eK g.eT).2.1;rw[Sh,show mu g.bq=.val (.ref r) by mspec j.bq;rfl]at Si;mexact N.br (E.KR (ac:=r) (R.fl (r:=.val<| .ref d.x) (R.K 0 V) Si V) (az.sz j.bq) (by show(e.map i.str).length<=_;rw[a7];unfold aD;show dG Sp D) c V rfl) ?_;have q:([(g.x,i.aG (c3 192 g.df)),(g.df,.ns g.attrs),(g.cp,.bN (eD g.bt))]++(r,.list [])::ea g.bt:aE)={g with bq:=J (r,[])}.G:=by
   unfold az.G az.attrs;mspec j.bq;rfl
  try dsimp only
  mspec q;generalize Z:({g with bq:=J (r,[])}:az)=σ4;have Sj:σ4.x=d.x:=Z▸Sh;have Sk:=(az.ik (Y:=#[U,n,bV (bk 154<|a U) m 154,k,[("self",.val (.ref d.x)),("result",.bR (e.map .str))],σ4.G]) l V σ4 σ4.eK σ4.eT).2.2.1;rw[Sj,(show σ4.bW=d.bW from by show Z▸j.bW)]at Sk;mexact N.yl (o:=.Name "self" _) (r:=.val<| .ref d.x) (ac:=d.bW) (b:=e.length) (bi:={σ4 with bW:=d.bW+e.length}.G) (R.K 0 V) Sk
   (R.of_eq (R.jH (ds:=[_]) (l.eZ V rfl (by room) (f D) V rfl rfl (f D)) (W.cons (R.K 1 V) W.nil V) (bO.C7 (by rw[a7];show gu)) V c V)<|by rw[a7]) ?_ ?_
  .show ch Sj ?_;show fb.dict (aw:=a U) l.bD (ae:=σ4.x) (bF:=σ4.attrs) (bE:=[(σ4.x,.aG (c3 192 σ4.df))]) (b4:=(σ4.cp,.bN (eD σ4.bt))::(kn σ4.bq++ea σ4.bt)) σ4.eK V (fR D) lL C0
  .have Sl:gM {σ4 with bW:=d.bW+e.length} d d.bI (d.bW+e.length) (r,[]) (eL d.P e<| -1):=by
    subst Z;show#[j.eu.trans<|fU.bq (ak:=d.bW+e.length) (aT:=g.bI) j.bq,j.bA,j.P,V,V,j.bI]
   show N.qE (bi:={σ4 with bW:=d.bW+e.length}.G) (af:=.bR<|e.map .str) (R.K 1 V) V (Q.bf _) Sl.eu.qK (eJ _) #[V,_,V,Sl]
def KY (d:aR U){i:aP}{n:Nat}{keep:aE}(j:k.d=U)(l:k.O=n+1)(a:az)(r:T)(b:h)(m:a.bq=J (r,b))(o:a.bA)(p:∀q∈b,q∈a.P.map (·.1))(s:b.length<=900)(t:k.G.Perm (a.G++keep)):
 dY k i (.ref 154) [.val<| .ref a.x] (λe f g=>g=.bR (b.map .str)/\∃c,f=c.G++keep/\gM c a a.bI (a.bW+b.length) (r,[]) (eL a.P b<| -1)):=by
 subst j;show(KW d).mr (n:=n) (ai:=a.G) (keep:=keep) l V t (λi e h0=>KX d n i e _ a r b m o p s) λf g #[j,c,k,l]=>#[j,c,by show aJ k V,l]
end
noncomputable def cj (ag:aE)(ac:T)(af:i):aE:=ag.map λak=>if ak.1=ac then(ac,af)else ak
def sA (a:aE)(b:T)(c:i):aI (cj a b c)=aI a:=by
 unfold cj aI;mspec d9;show hD λa b=>?_;simp only[pj];split
 .next a=>show a.symm
 .rfl
def yQ (b:∀a∈ag,a.1≠k):cj ag k m=ag:=by
 unfold cj;conv=>rhs;rw[<-List.map_id ag]
 show hD λa c=>?_;mspec if_neg<|b a c;rfl
def Dl (c d:aE)(a:T)(b:i):cj (c++d) a b=cj c a b++cj d a b:=eX
def om (b:(aI<|n++(k,r)::m).Nodup):cj (n++(k,r)::m) k o=n++(k,o)::m:=by
 rw[ij,gz]at b;show cd b λc a e=>?_;have a:(k::aI m).Nodup:=a;replace a:=(ka).mp a;rw[Dl];show(?_:cj n k o++(if k=k then(k,o)else(k,r))::cj m k o=_);mspec if_pos V;mspec yQ (ag:=n) λd b c=>e d.1 (c9 b) k (ap) c;show aJ (yQ (ag:=m) λd b c=>a.1 (by have:=c9 b;rw[c]at this;show this)) V
def Dm (b:aE)(c:T)(d:i)(e:T->Bool):cj (b.filter λa=>e a.1) c d=(cj b c d).filter λa=>e a.1:=by
 unfold cj;mspec yR;congr 1;show pn λa b=>?_;simp only[pj];split
 .next a=>show aJ a V
 .rfl
def qM (a:k.Pairwise λb c=>b.1≠c.1):(aI k).Nodup:=by
 unfold aI List.Nodup;show(Dn).mpr ?_;show a
def nl (a:k∈m)(n:k.1≠o):k∈cj m o r:=by
 show iv.mpr<|av k a ?_;show aJ (if_neg n) V
def yS (a:(aI k).Nodup)(c:(m,n)∈k):k.Perm ((m,n)::k.filter λb=>decide (b.1≠m)):=by
 induction k with
 |nil=>cases c
 |cons b k e=>
  have a:(b.1::aI k).Nodup:=a;replace a:=(ka).mp a;show ay (a5 c) (λf=>?_) λc=>?_
  .obtain rfl:=f;have:(((m,n)::k).filter λb=>decide (b.1≠m))=k:=by
    mspec Do (by simp);show xY.mpr λg f=>by
     simpa using(λd=>a.1 (by have:=c9 f;rw[d]at this;show this))
   rw[this]
  .mspec Dp (by simpa using(λd=>a.1 (by have:=c9 c;show d▸this)));show((e a.2 c).cons b).trans<|u3 _ _ _
section
variable {Y:be}{H:aP}{aw:ht}
def u.vf (d:u H Y n)(e:(k,m)∈Y.G):∃a b,Y.G=a++(k,m)::b/\cj Y.G k ez=a++(k,ez)::b:=by
 show cm (KZ e) λa b c=>?_;have:=qM d.dt;rw[c]at this;show ix a b c (by mspec c;show aJ (om this) V)
def fb.Dq (X:aw.In Y.d.B)(c:(n,.slots k ds)∈Y.G)(d:m<ds.length)(e:pf aw k x o m)(f:k4 aw k o (J<| .ref x)):fb Y H (.val<| .ref n) o w (cj Y.G n<| .slots k<|ds.set m w):=.mk λg h i j l p q a r s b=>by
 show gh (a.vf (ez:=.slots k<|ds.set m w) c) λo u t n=>?_;rw[n]at b;show(fb.slot X t d e f).go g h i j l p q a r s b
def fb.Dr (X:aw.In Y.d.B)(d:(ae,.aG (c3 b lu))∈Y.G)(hd:(lu,.ns bF)∈Y.G)(e:bF.length<=100)(f:uK aw b=z)(g:k4 aw b k ah):fb Y H (.val<| .ref ae) k af (cj Y.G lu<| .ns<|mT bF k af):=.mk λh i j l m n o a r p c=>by
 show gh (a.vf (ez:=.ns<|mT bF k af) hd) λt u q s=>?_;rw[s]at c;show(fb.dict X d q e f g).go h i j l m n o a r p c
def E.Ds (b:R Y arg af)(c:R Y o (.val<| .ref ac))
 (d:(ac,.list ds)∈Y.G) (e:ds.length<=aD) (f:mq Y.I=aj) (g:f6 (.Call (.Attribute o "append" m) [arg] [] k) ah pos.line Y.I=pure aj)
 (h:bh [arg] Y.I=(aj,eval arg Y.I)::bh [] Y.I)
 (i:eval (.Call (.Attribute o "append" m) [arg] [] k) Y.I=(do
  let n <-eval o Y.I
  es m.atName
  let(r,first) <-e7 [n] (gK n "append" w)
  dP k r first (cY k<|bh [arg] Y.I) [])):
 E Y H (.Expr (.Call (.Attribute o "append" m) [arg] [] k) pos) (c2 (u H #[Y.d,Y.O,Y.I,Y.X,Y.q,cj Y.G ac<| .list<|ds++[af]]) bU):=.mk λj k l m a=>by
 show gh (a.vf (ez:=.list<|ds++[af]) d) λq r n p=>?_;mspec p;show(E.C9 b c n e f g h i).go j k l m a
end
def Dt (a:(k,o)∈m):(k,n)∈cj m k n:=iv.mpr<|av _ a<|if_pos V
noncomputable abbrev il:=dl×h
noncomputable def my (b0:dl)(aa:v):dl:=b0.map λa2=>if a2.1=aa then(a2.1,a2.2.1 - 1,a2.2.2)else a2
noncomputable def i1 (b0:dl)(aa:v):Int:=((b0.lookup aa).map (·.1)).getD 0
noncomputable def ev (b0:dl)(aa:v):h:=((b0.lookup aa).map (·.2)).getD []
noncomputable def fV (a:il)(aa:v):il:=(my a.1 aa,if i1 (my a.1 aa) aa=0 then a.2++[aa]else a.2)
noncomputable def iK (a:il)(b:v):il:=(ev a.1 b).foldl fV (eL a.1 [b]<| -2,a.2)
noncomputable def fu (a:il)(b:h):il:=b.foldl iK a
noncomputable abbrev cQ (b0:dl):h:=b0.map (·.1)
def K0 (a:dl)(b:v):cQ (my a b)=cQ a:=by
 unfold my cQ;mspec d9;show hD λa b=>?_;simp only[pj];split<;>rfl
theorem yT:∀(b:h)(a:il),cQ (b.foldl fV a).1=cQ a.1
 |[],a=>rfl|c::b,a=>by rw[hV,yT b];show K0 _ _
def K1 (a:il)(b:v):cQ (iK a b).1=cQ a.1:=by
 unfold iK;rw[yT];show vd _ _ _
theorem Du:∀(b:h)(a:il),cQ (fu a b).1=cQ a.1
 |[],a=>rfl|c::b,a=>by show(?_:cQ (fu (iK a c) b).1=_);rw[Du b];show K1 _ _
noncomputable def im (b0:dl):List h:=b0.map (·.2.2)
def K2 (a:dl)(b:v):im (my a b)=im a:=by
 unfold my im;mspec d9;show hD λa b=>?_;simp only[pj];split<;>rfl
def K3 (a:dl)(b:h)(c:Int):im (eL a b c)=im a:=by
 unfold eL im;mspec d9;show hD λa b=>?_;simp only[pj];split<;>rfl
theorem Dv:∀(b:h)(a:il),im (b.foldl fV a).1=im a.1
 |[],a=>rfl|c::b,a=>by rw[hV,Dv b];show K2 _ _
def Dw (a:il)(b:v):im (iK a b).1=im a.1:=by
 unfold iK;rw[Dv];show K3 _ _ _
theorem Dx:∀(b:h)(a:il),im (fu a b).1=im a.1
 |[],a=>rfl|c::b,a=>by show(?_:im (fu (iK a c) b).1=_);rw[Dx b];show Dw _ _
theorem yU:∀(a:h)(b:il),(a.foldl fV b).2.length<=b.2.length+a.length
 |[],b=>by simp|c::a,b=>by
  mspec hV;show a6 (yU a _) ?_;mspec eC;unfold fV
  try dsimp only
  split
  .mspec dF;mspec gw;simp+arith
  .simp+arith
def K4:ev b0 aa=[]\/ev b0 aa∈im b0:=by
 unfold ev;cases h:b0.lookup aa with
 |none=>show .inl V|some a=>show .inr<|iv.mpr #[(aa,a),mem_of_lookup h,V]
def vg {c:az}{a e:List gc}{dS:gc}(f:c.bt=a++dS::e)(d:c.bA):c.P.lookup dS.name=J (dS.cx,dS.succ):=by
 have h:∀(a:List gc),(∀b∈a,b.name≠dS.name)->((a++dS::e).map λdS=>(dS.name,dS.cx,dS.succ)).lookup dS.name=J (dS.cx,dS.succ):=λa=>by
  induction a with
  |nil=>intro _;simp|cons b a i=>
   intro c;mspec qN;mspec b8;mspec fz;mspec(by simpa using λe:dS.name=b.name=>c b ap e.symm:(dS.name==b.name)=aj);show i λe j=>c e<|g j
 unfold az.P;mspec f;show h a λb k l=>?_;unfold az.bA at d;rw[f,eX,b8,gz]at d;show d.2.2 _ (dI k) _ ap l
abbrev gN (ai:az):Prop:=(aI ai.G).Nodup
def Dy (c:m.bt=n++k::o)(e:gN m)(a:Int):(m.gD n {k with cx:=a} o).G=cj m.G k.S (.slots 95 [.str k.name,.int a,.val<| .ref k.cE]):=by
 have d:=az.split c;have b:=e;unfold gN at b;rw[d]at b;mspec d;mspec om b;mspec az.split (ai:=m.gD n {k with cx:=a} o) V;show aJ (az.u9 (eb:={k with cx:=a}) c V rfl) V
def K5 (b:k.bq=J (r,m))(d:gN k):{k with bq:=J (r,Dz)}.G=cj k.G r (.list<|Dz.map .str):=by
 have c:=az.sz b;have a:=d;unfold gN at a;rw[c]at a;mspec c;mspec om a;unfold az.G az.attrs;simp only[b,mu,kn];rfl
def K6 (d:gN k)(b:Int):{k with bI:=b}.G=cj k.G k.df (.ns {k with bI:=b}.attrs):=by
 have c:k.G=[(k.x,i.aG (c3 192 k.df))]++(k.df,.ns k.attrs)::(k.cp,.bN (eD k.bt))::(kn k.bq++ea k.bt):=rfl;have a:=d;unfold gN at a;rw[c]at a;mspec c;mspec om a;rfl
def gN.cj (a:gN k){b:T}{c:i}(d:m.G=cj k.G b c):gN m:=by unfold gN;mspec d;rw[sA];show a
def qO (a:(aI k).Nodup)(e:(ac,af)∈k)(f:(ac,ez)∈k):af=ez:=by
 induction k with
 |nil=>cases e
 |cons c k i=>
  have a:(c.1::aI k).Nodup:=a;rw[ka]at a;show ay (d2 e) (λg=>?_) λh=>?_
  .show ay (d2 f) (λb=>?_) λd=>?_
   .rw[<-g]at b;cases b;rfl
   .show absurd (by have:=c9 d;show g▸this:c.1∈aI k) a.1
  .show ay (d2 f) (λb=>?_) λd=>?_
   .show absurd (by have:=c9 h;show b▸this:c.1∈aI k) a.1
   .show i a.2 h d
section
variable {U:aW}
def DA (b:aR U):g9 U 175 (bk 175<|a U) ["self","nodes"] (cf 175<|a U):=
 b.yM V rfl D V rfl (fi V<|fi V hc) (f D) (by decide:([]:h).Nodup) c c V
def DB (b:bb U (l k.heap X) n r)(c:aO U (l k.heap X) m ds)(d:ds.length<=aD)(e:∀f∈X,∃o,k.heap.get? f=J o):
 gJ U (bk 175<|a U) #[n::m,[]] ["self","nodes"] X [r,.bR ds] k:=
 gJ.Kz (by cases m<;>room) b c d e
noncomputable def nn (a:il):h->Prop
 |[]=>True|ak::ag=>ak∈cQ a.1/\i1 a.1 ak= -1/\nn (iK a ak) ag
theorem nn.at_:∀{a:h}{b:il},nn b a->∀{L:Nat}{c:v},a[L]?=J c->c∈cQ (fu b<|a.take L).1/\i1 (fu b<|a.take L).1 c= -1
 |f::a,b,d,0,c,e=>by cases e;show#[d.1,d.2.1]
 |f::a,b,d,L+1,c,e=>nn.at_ d.2.2 (L:=L) (by simpa using e)
noncomputable abbrev jT (U:aW)(ca:T):b3:=bV (bk 175<|a U) ca 175
noncomputable abbrev jp (ae a:T):bg:=[("self",.val (.ref ae)),("n2i",.val (.ref a))]
noncomputable abbrev kq (ai:az)(ac:T):aE:=ai.G.filter λa=>decide (a.1≠ac)
noncomputable abbrev DC (U:aW):List cC:=lC (cf 175<|a U) 2
noncomputable abbrev K7 (U:aW):List cC:=lC (DC U) 4
def gM.step {d b e:az}(c:gM b d k m r w)(a:gM e b b.bI b.bW n o):gM e d k m n o:=#[c.eu.trans a.eu,a.bA,a.P,a.bq,a.bW.trans c.bW,a.bI.trans c.bI]
def qP (e:gN k){c b:i}(f:(m,c)∈k.G)(d:(n,b)∈k.G)(a:b≠c\/n≠m):(n,b)∈kq k m:=e9.mpr #[d,decide_eq_true λc=>a.elim (λa=>a<|qO e (c▸d:(m,b)∈k.G) f) λa=>a c]
def DD {a:gc}(c:k.bt=m++a::n)(e:gN k)(i:k.bA){r:T×h}(j:k.bq=J r)(b:Int)(f:v×Int×h->v×Int×h)(l:(a.name,b,a.succ)=f (a.name,a.cx,a.succ)):
 ∃d,gN d/\gM d k k.bI k.bW r (k.P.map λg=>if g.1=a.name then f g else g)/\d.G=cj k.G a.S (.slots 95 [.str a.name,.int b,.val<| .ref a.cE])/\d.P.lookup a.name=J (b,a.succ):=
 have d:=yL (eb:={a with cx:=b}) c i V
 (l7 (k.gD m {a with cx:=b} n) (e.cj<|Dy c e b) #[fU.gD (eb:={a with cx:=b}) c V rfl rfl,d,yK c i f l,j,V,V] (Dy c e b)<|vg (dS:={a with cx:=b}) V d)
def K8 (w:aR U)(n:Nat)(F:T)(X:aZ)(H:aP)(e:az)(Sh:e.x=Sf)(Si:e.cp=Sg)(f r:T)(x k:h)(l:v)(y:gN e)(Sj:e.bA)(A:(f,i.list (x.map .str))∈e.G)(Sk:e.bq=J (r,k))(O:r≠f)(Sl:l∈cQ e.P)(Sm:k.length<=900)(P:db)
 (Q:∀B p,gN B->(f,i.list (x.map .str))∈B.G->gM B e e.bI e.bW (r,(fV (e.P,k) l).2) (fV (e.P,k) l).1->u H #[U,n,jT U F,X,jp Sf Sg,kq B f] p->P .next p):
 N H #[U,n,jT U F,X,bl "successor" (.str l)<|jp Sf Sg,kq e f] (K7 U) P:=by
 subst Sh Si;show bC λG s=>?_;obtain⟨l,d,B,S,rfl,Sn⟩:=ve Sl;show s ?_;clear s G;have B:(d.S,i.slots 95 [.str d.name,.int d.cx,.val<| .ref d.cE])∈e.G:=az.split S▸bB ap;have P:=qP y A B<| .inl nofun;show bC λG s=>?_;show gi (DD S y Sj Sk (d.cx - 1) (λl=>(l.1,l.2.1 - 1,l.2.2)) V) λg m j H S=>?_;show s ?_;clear s G;have q:(f,i.list (x.map .str))∈g.G:=H▸nl A λt=>nomatch qO y (t▸A:(d.S,i.list (x.map .str))∈e.G) B;have W:i1 (my e.P d.name) d.name=d.cx - 1:=by
  show(?_:i1 (e.P.map λl=>if l.1=d.name then(l.1,l.2.1 - 1,l.2.2)else l) d.name=_);show ch j.P ?_;unfold i1;mspec S;rfl
 mexact N.br (E.assign (af:=.val<| .ref d.S) (R.item (L:=.str d.name) (R.K 2 V) (R.K 0 V)<|b7.bN (as.G<|qP y A e.lN<| .inl nofun) Sn) (.inl V) V) ?_;mexact N.Jx (o:=.Name "successor_info" _) (r:=.val<| .ref d.S) (ac:=d.cx) (b:=1) (R.K 0 V) (f8.slot (aw:=a U) w.bD (ac:=d.S) (b:=95) (ds:=[.str d.name,.int d.cx,.val<| .ref d.cE]) P V (.int _) lK) R.bK (fb.Dq (aw:=a U) w.bD P (fR V) lK sw) ?_;mspec((Dm e.G d.S _ λI=>decide (I≠f)).trans (by rw[kq,H];rfl):cj (kq e f) d.S (.slots 95<|[i.str d.name,.int d.cx,.val<| .ref d.cE].set 1 (.int<|d.cx - 1))=kq g f);mexact N.em<|E.dC (aq:=(d.cx - 1==0)) (a1.bL (R.fl (r:=.val<| .ref d.S) (R.K 0 V) (f8.slot (aw:=a U) w.bD (ac:=d.S) (b:=95) (ds:=[.str d.name,.int<|d.cx - 1,.val<| .ref d.cE]) (qP m q (H▸Dt B)<| .inl nofun) V (.int _) lK) V) R.bK ax.eq c) (λC=>?_)<|λC=>?_
 .have K:fV (e.P,k) d.name=(my e.P d.name,k++[d.name]):=by unfold fV;show aJ (if_pos<|W.trans<|beq_iff_eq.mp C) V
  have Z:=(az.ik (Y:=#[U,n,jT U F,X,bl "successor_info" (.val<| .ref d.S)<|bl "successor" (.str d.name)<|jp e.x e.cp,kq g f]) w V g (qP m q g.eK<| .inl nofun)<|qP m q g.eT<| .inl nofun).2.1;rw[j.eu.x,j.bq]at Z;mexact N.br (E.Ds (af:=.str d.name) (ac:=r) (R.K 1 V) (R.fl (r:=.val<| .ref e.x) (R.K 2 V) Z V) (qP m q (az.Dk j.bq)<| .inr O) (by rw[a7];show a6 Sm<|fR D) c V rfl rfl) ?_;have l:=K5 (Dz:=k++[d.name]) j.bq m;mspec((Dm g.G r _ λI=>decide (I≠f)).trans (by rw[kq,l,eX];rfl):cj (kq g f) r (.list<|k.map .str++[.str d.name])=kq {g with bq:=J (r,k++[d.name])} f);show N.nil λp M=>Q _ p (m.cj l) (l▸nl q λt=>O t.symm) (K▸#[j.eu.trans<|fU.bq (ak:=g.bW) (aT:=g.bI) j.bq,j.bA,j.P,V,j.bW,j.bI])<|M.eh<|aN.cI [2,3] rfl
 .have K:fV (e.P,k) d.name=(my e.P d.name,k):=by unfold fV;show aJ (if_neg λt=>by rw[W.symm.trans t]at C;cases C) V
  show N.nil λp M=>Q g p m q (K▸j)<|M.eh<|aN.cI [2,3] rfl
def DE {aM:v->Prop}(c:im k=im m)(f:fD n m)(g:∀a∈m,∀d∈a.2.2,aM d)(e:v):(ev k e).length<=n/\∀d∈ev k e,aM d:=by
 show ay (K4 (b0:=k) (aa:=e)) (λb=>?_) λb=>?_
 .show b▸#[ey _,nofun]
 .rw[c]at b;show aY (ck b) λa d c=>?_;show c▸#[f a d,g a d]
def K9 {e:Nat}(f:fD e k)(d:h):∀a:il,im a.1=im k->(fu a d).2.length<=a.2.length+d.length*e:=by
 induction d with
 |nil=>show λa b=>oU _ _|cons c d g=>
  intro a d;have i:=(DE (aM:=λb=>True) d f (λb b b b=>trivial) c).1;mspec eC;rw[sB];show a6 (g (iK a c)<|(Dw a c).trans d) (a6 (AW (a6 (yU (ev a.1 c) (eL a.1 [c]<| -2,a.2))<|pV i _) _)<|aA<|by rw[vb,AR e])
inductive DF (ai:az)(r gE:T)(c:h)(b:il)(Γ:bg)(own:aE):Prop
 |mk (a:az) (d:aN Γ (jp ai.x ai.cp)) (e:own=kq a gE) (f:gN a) (iI:(gE,i.list (c.map .str))∈a.G) (aK:gM a ai ai.bI ai.bW (r,b.2) b.1):DF ai r gE c b Γ own
def La (q:aR U)(n:Nat)(m:T)(X:aZ)(C:aP)(d:az){O P:T}(SE:d.x=O)(SF:d.cp=P)(r:T)(s:h)(x:v)(Q:gN d)(Sm:d.bA)(Sn:d.bq=J (r,s))(SG:x∈cQ d.P)(SH:i1 d.P x= -1)(So:∀A∈ev d.P x,A∈cQ d.P)(Sp:s.length+(ev d.P x).length<=900)(Sq:db)
 (Sr:∀Ss S l,(∀SI∈X,SI∈Ss)->gN S->gM S d (d.bI+1) d.bW (r,(iK (d.P,s) x).2) (iK (d.P,s) x).1->u C #[U,n,jT U m,Ss,jp O P,S.G] l->Sq .next l):
 N C #[U,n,jT U m,X,bl "node" (.str x)<|jp O P,d.G] (DC U) Sq:=by
 subst SE SF;show bC λF t=>?_;obtain⟨x,e,O,I,rfl,SJ⟩:=ve SG;show t ?_;clear t F;have x:=vg I Sm;have SK:e.cx= -1:=by show ch SH ?_;unfold i1;mspec x;rfl
 have O:ev d.P e.name=e.succ:=by unfold ev;mspec x;rfl
 have SL:iK (d.P,s) e.name=e.succ.foldl fV (eL d.P [e.name]<| -2,s):=by unfold iK;show aJ O V
 rw[O]at So Sp;rw[SL]at Sr;have L:(e.S,i.slots 95 [.str e.name,.int e.cx,.val<| .ref e.cE])∈d.G:=az.split I▸bB ap;have St:(e.cE,i.list (e.succ.map .str))∈d.G:=az.split I▸bB (g ap);have SM:r≠e.cE:=λZ=>by
  have Sf:gN d:=Q;unfold gN at Sf;rw[az.sz Sn,ij,gz]at Sf;have Su:(r::aI (ea d.bt)).Nodup:=Sf.2.1;rw[ka]at Su;show Su.1 ?_;mspec I;rw[C5];mspec Z;simp[aI]
 mexact N.br (X:=X) (Γ:=bl "nodeinfo" (.val<| .ref e.S)<|bl "node" (.str e.name)<|jp d.x d.cp) (own:=d.G) (E.sh (af:=.val<| .ref e.S) (R.of_eq (R.jg (ds:=[.str e.name]) (r:=.val<| .ref d.cp) (R.K 2 V) (fB.bN (as.G d.lN) qt uQ) (W.cons (R.K 0 V) W.nil V) (bO.uN<|as.G d.lN) V c V) (by mspec SJ;rfl)) (.inl V) (λl=>Lb (l:aj=z))<|λw=>N.nil λl p=>p) ?_;mexact N.br (E.assign (af:=.int<| -1) (R.fl (r:=.val<| .ref e.S) (R.K 0 V) (f8.slot (aw:=a U) q.bD (ac:=e.S) (b:=95) (ds:=[.str e.name,.int e.cx,.val<| .ref e.cE]) L (by mspec SK;rfl) (.int _) lK) V) (.inl V) V) ?_;mexact N.br (X:=X) (Γ:=bl "stat" (.int<| -1)<|bl "nodeinfo" (.val<| .ref e.S)<|bl "node" (.str e.name)<|jp d.x d.cp) (own:=d.G) (E.dC (aq:=((-1:Int)!= -1)) (a1.bL (R.K 0 V) (R.sy (a2:=530)<|q.eW V (by room) V rfl (f D)) ax.kO c) (λl=>absurd l<|f D)<|λw=>N.nil λl p=>p) ?_;mexact N.ph (r:=.val<| .ref e.S) (af:=.int<| -2) (R.sy (a2:=533)<|q.eW V (by room) V rfl (f D)) (R.K 1 V) (fb.Dq (aw:=a U) q.bD L (fR V) lK sw) V ?_;show bC λF t=>?_;show gi (DD I Q Sm Sn (-2) (λx=>(x.1, -2,x.2.2)) V) λM Sg Sv Sh w=>?_;show t ?_;clear t F;rw[show(d.P.map λx=>if x.1=e.name then(x.1, -2,x.2.2)else x)=eL d.P [e.name] (-2)from hD λx w=>by simp only[kF]]at Sv;mspec(Sh.symm:cj d.G e.S (.slots 95<|[i.str e.name,.int e.cx,.val<| .ref e.cE].set 1 (.int<| -2))=M.G);have Si:(e.cE,i.list (e.succ.map .str))∈M.G:=Sh▸nl St λZ=>nomatch qO Q (Z▸St:(e.S,i.list (e.succ.map .str))∈d.G) L;mexact N.lO (yS Sg Si) (N.seq<|E.ms (ce:=λSw Γ own=>DF d r e.cE e.succ ((e.succ.take Sw).foldl fV (eL d.P [e.name]<| -2,s)) Γ own) (λw w=>False) [(e.cE,.list (e.succ.map .str))] (kq M e.cE) V
  (aU.of<|R.fl (r:=.val<| .ref e.S) (af:=.val<| .ref e.cE) (R.K 1 V) (f8.slot (aw:=a U) q.bD (ac:=e.S) (b:=95) (ds:=[.str e.name,.int<| -2,.val<| .ref e.cE]) ((yS Sg Si).mem_iff.mp<|Sh▸Dt L) V (.ref _) u2) V) (λx l=>by cases l;show .inl ap) (cA.list (.inl<|dN _ _ V)<|as.G ap)
  #[M,aN.cI [3,4] rfl,V,Sg,Si,Sv] (λx w=>.name<| .inl V) ?_ ?_ (λw=>rfl))
 .intro Sw x Sj SN own SO Sx B _ I;cases B with|mk j SP Sk K Sl k=>
  subst Sk;rw[e8,gl]at Sx;show bC λF t=>?_;obtain⟨A,Sy,rfl⟩:=Sx;show t ?_;clear t F;mexact N.dW (Y:=#[U,n,jT U m,Sj,gp (.Name "successor" #[_,_,_,_]) (.str A) SN,kq j e.cE]) (eI:=bl "successor" (.str A)<|jp d.x d.cp) (SP.bl _ _)<|K8 q n m Sj (C.at SO) j k.eu.x k.eu.cp e.cE r e.succ _ A K k.bA Sl k.bq SM ?_ ?_ _ λt l x F Sz p=>#[Sj,_,_,λw I=>I,#[t,aN.bf _,V,x,F,?_],p]
  .mspec k.P;rw[yT];show(show cQ (eL d.P [e.name]<| -2,s).1=cQ d.P from vd _ _ _)▸So A (ib Sy)
  .show a6 (yU _ _)<|a6 (pV (KN ..) _) Sp
  .mspec nh Sy;mspec iX;rw[k.P]at Sz;show k.step Sz
 .intro y SA own l SQ B p;rcases B with B|SR
  .rw[a7,iU]at B;cases B with|mk j SS Sk K Sl k=>
   subst Sk;show .mk (X:=y) (Γ:=jp d.x d.cp) (own:=j.G) (u.eh (Y:=#[U,n,jT U m,y,SA,j.G]) (u.lO (Y:=#[U,n,jT U m,y,SA,_]) p (yS K Sl).symm) SS) ?_;show(?_:N C #[U,n,jT U m,y,jp d.x d.cp,j.G] _ _);have SB:=(az.ik (Y:=#[U,n,jT U m,y,jp d.x d.cp,j.G]) q V j j.eK j.eT).2.2.2;have SD:=fb.Dr (Y:=#[U,n,jT U m,y,jp d.x d.cp,j.G]) (H:=C) (af:=.int<|d.bI+1) (aw:=a U) q.bD (ae:=j.x) (bF:=j.attrs) j.eK j.eT (fR D) lL C1;rw[k.eu.x,k.bI]at SB;rw[k.eu.x]at SD;have e:=K6 K<|d.bI+1;show N.yl (o:=.Name "self" _) (r:=.val<| .ref d.x) (ac:=d.bI) (b:=1) (bi:={j with bI:=d.bI+1}.G) (R.K 0 V) SB R.bK (e▸SD) (N.nil λl p=>Sr y {j with bI:=d.bI+1} l SQ (K.cj e) #[k.eu.trans #[V,V,V,λm j=>by mspec e;rw[sA];show c9 j],k.bA,k.P,k.bq,k.bW,V] p)
  .show SR.elim
inductive DG (ai:az)(r:T)(L:Nat)(a:il)(Γ:bg)(own:aE):Prop
 |mk (b:az) (c:aN Γ (jp ai.x ai.cp)) (d:own=b.G) (e:gN b) (aK:gM b ai (ai.bI+L) ai.bW (r,a.2) a.1):DG ai r L a Γ own
noncomputable abbrev yV:=λ(ai:az) (a:h)=>([("self",.val (.ref ai.x)),("nodes",.bR (a.map .str))]:bg)
def Lc (B:aR U)(n:Nat)(s:T)(X:aZ)(w:aP)(d:az)(r:T)(g e:h)(C:d.bq=J (r,g))(P:d.bA)(t:Nat)(D:fD t d.P)(S:∀W∈d.P,∀Z∈W.2.2,Z∈cQ d.P)(Sf:nn (d.P,g) e)(Sg:g.length+e.length*t<=900)(Sp:e.length<=900):
 N w #[U,n,jT U s,X,yV d e,d.G] (cf 175<|a U) (et U w d.G λSh x=>x=.none/\∃o,Sh=o.G/\gM o d (d.bI+e.length) d.bW (r,(fu (d.P,g) e).2) (fu (d.P,g) e).1):=by
 have F:=az.ik (Y:=#[U,n,jT U s,X,yV d e,d.G]) B V d d.eK d.eT;have G:=F.2.1;rw[C]at G;mexact N.qH (aM:=gN d) (λj k=>qM k.dt) λSi=>?_;mexact N.br (X:=X) (Γ:=yV d e) (own:=d.G) (E.dC (aq:=aj) (a1.bL (b:=aj) (ac:=.val<| .ref r) (R.fl (R.K 0 V) G V) R.gF ax.oX c) (λj=>by cases j)<|λu=>N.nil λj k=>k) ?_;mexact N.br (E.assign (af:=.val<| .ref d.cp) (R.fl (r:=.val<| .ref d.x) (R.K 0 V) F.1 V) (.inl V) V) ?_;mexact N.seq (E.ms (ce:=λi Γ own=>DG d r i (fu (d.P,g)<|e.take i) Γ own) (λu u=>False) [] d.G V (aU.of<|R.K 2 V) (λF j=>by cases j) cA.bR
  #[d,aN.cI [1,0] rfl,V,Si,#[fU.bf d,P,V,C,V,(rA _).symm]] (λx u=>.name<| .inl V) ?_ ?_ (λu=>rfl))
 .intro i x v Γ own Sj hd l _ Sk;cases l with|mk p H y Sl f=>
  subst y;rw[e8,gl]at hd;obtain⟨q,A,rfl⟩:=hd;obtain⟨Sm,Sn⟩:=Sf.at_ A;have I:i<e.length:=(gG.mp A).1;have K:=DE (aM:=(·∈cQ p.P)) (f.P▸Dx _ _) D ((f.P▸Du _ _:cQ p.P=cQ d.P)▸S) q;have L:=K9 D (e.take i) (d.P,g) V;rw[g8,qz<|iC I]at L;mexact N.dW (Y:=#[U,n,jT U s,v,gp (.Name "node" #[_,_,_,_]) (.str q) Γ,p.G]) (eI:=bl "node" (.str q)<|jp d.x d.cp) (H.bl _ _)<|La B n s v (w.at Sj) p f.eu.x f.eu.cp r _ q Sl f.bA f.bq (f.P▸Sm) (f.P▸Sn) K.2 ?_ _ λu x j C D m k=>#[u,_,_,C,#[x,aN.bf _,V,D,?_],k]
  .have M:(i+1)*t<=e.length*t:=wS _ I;rw[sB]at M;show a6 (wR L K.1)<|a6 (aA (vb ..))<|a6 (pV M _) Sg
  .have s:fu (d.P,g) (e.take<|i+1)=iK (p.P,(fu (d.P,g)<|e.take i).2) q:=by mspec nh A;mspec f.P;unfold fu;mspec iX;rfl
   mspec s;show#[f.eu.trans m.eu,m.bA,m.P,m.bq,m.bW.trans f.bW,by mspec m.bI;mspec f.bI;rw[AU];rfl]
 .intro v Γ own j Sk l k;rcases l with l|So
  .rw[a7,iU]at l;cases l with|mk o H y d O=>
   subst y;show .mk (X:=v) (Γ:=Γ) (own:=o.G) k<|N.sd V (Q.bf _) O.eu.qK (eJ _) #[V,o,V,O]
  .show So.elim
end
noncomputable abbrev da (ag:List b3):aZ:=ag.filterMap (·.frame)
def jq (an:aX)(ag:List b3):Prop:=∀env∈ag,env.scope.kind≠ .module/\∃ca o dz am,env.frame=J ca/\an.get? ca=J o/\o.data=.dict dz am
theorem jq.yW:∀{a:List b3},jq k a->(∀b∈da a,m.get? b=ah)->k.FunFrames m a
 |[],_,_=>trivial|env::a,f,h=>by
  show ao (f env ap) λh0 i=>?_;show j5 i λa o k m j=>?_;show cd j λi k l=>?_;show#[h0,#[a,o,i,h a<|vh.mpr<|av env ap i,k,λj c=>by replace c:=l▸c;cases c],jq.yW (λd e=>f d<|g e) λb n=>h b<|by
   show aY (vh.mp n) λd e a=>?_;show vh.mpr<|av d (g e) a]
def jq.keep (c:jq m k)(e:∀a∈da k,∀o,m.get? a=J o->∃b,h'.get? a=J {o with slots:=b}):jq h' k:=λenv a=>by
 show ao (c env a) λh0 d=>?_;show j5 d λc o f n g=>?_;show cd g λd h i=>?_;show p (e c (vh.mpr<|av env a d) o h) λb g=>?_;show#[h0,c,_,f,n,d,g,i]
structure lP (U:aW)(X:aZ)(ag:List b3)(ai bi:aE)(h0 dR kr h':aX)(Z:aZ)(ae a2:T)(fN:ba)(a3:cv):Prop where
 keep:Q dR h0
 hF:∀ak∈bi,bH U (l dR Z) dR ak.1 ak.2
 new:∀ak∈bi,h0.get? ak.1=ah
 apart:bi.Pairwise λae bx=>ae.1≠bx.1
 all:∀ak∈ai,ak.1∈aI bi
 po:∀ac∈X,ac∈Z
 qQ:∀ac∈aI bi,ac∈Z
 qR:∀ac o,ac∉Z->dR.get? ac=J o->kr.get? ac=J o
 np:∀ac o,ac∉da ag->((∃a,h0.get? ac=J a)\/ac∈aI bi)->dR.get? ac=J o->kr.get? ac=J o
 qS:aX.FlyingW kr ag ae fN (.ref a2) h'
 bR:h'.TupAt a2 a3
 sC:kr.get? a2=ah
 slots:dR.UpToSlots h'
inductive qT (U:aW)(X:aZ)(ag:List b3)(ai bi:aE)(h0 h':aX)(ae:T)(fN:ba)(a3:cv):Prop
 |mk (dR kr:aX) (Z:aZ) (a2:T) (al:lP U X ag ai bi h0 dR kr h' Z ae a2 fN a3):qT U X ag ai bi h0 h' ae fN a3
section
variable {Y:be}{H:aP}
def u.DH (b:u H Y dR)(s:Y.I.scope.kind≠ .module)(i:Y.I.frame=J Y.I.locals)(t:w.frames=J (Y.I::k))(v:jq dR k)
 (f:H.cM=h0) (x:H.cB=X) (y:∀d∈da k,d∈X) (g:Y.G.Perm m) (A:∀e∈B,e.1∈aI m) (p:yX dR bS.heap r M Sf)
 (c:∀h',qT Y.d X k B m h0 h' r M Sf->Sg () {bS with heap:=h'}):au Sh w (qb Y.I<| .ref r) Sg Si bS:=by
 subst f;subst x;have q:da (Y.I::k)=Y.I.locals::da k:=by unfold da;mspec r3;show aJ i V
 have C:jq dR (Y.I::k):=λenv f=>by
  show ay (a5 f) (λj=>?_) λf=>?_
  .obtain rfl:=j;show oS b.ns λa o m r w hd x=>?_;show#[s,_,o,m,r,i,w,hd]
  .show v env f
 have f:∀d∈da (Y.I::k),(cq dR<|da<|Y.I::k).get? d=ah:=λd a=>cU _ a;show wpAny_leaves_madeW (base:=cq dR<|da<|Y.I::k) t i (λd o c=>ff _ c) (C.yW f) p λh' i m r s D=>?_;show c h' #[dR,cq dR<|da<|Y.I::k,Y.X,i,?_];show#[b.de,λe a=>(b.G e<|g.mem_iff.mpr a).2,λe a=>(b.cN e<|g.mem_iff.mpr a).1,g.pairwise b.dt<|λf c=>f c.symm,A,b.sub,λd a=>?_,λd o n c=>?_,λd o n a c=>?_,m,r,s,?_]
 .show g0 a λe l=>?_;show(b.G e<|g.mem_iff.mpr l).1
 .show cb _ c λa=>n ?_;replace a:=q▸a;show gg a ?_ λa=>?_
  .show b.cn.1
  .show b.sub d<|y d a
 .show cb _ c λh=>?_;replace h:=q▸h;show ay (a5 h) (λj=>?_) λh=>?_
  .obtain rfl:=j;rcases a with⟨d,E⟩|a
   .show b6 b.new.1 E
   .show aY (ck a) λe l c=>?_;show(b.cN e<|g.mem_iff.mpr l).2.1 c
  .show n h
 .show(Ld p.keeps).trans D
def lP.up {X m:aZ}{env:b3}{f e:T}{g:ba}{h:cv}(a:lP B m (env::r) M w h0 Sf x h' Z f e g h)(t:env.frame=J env.locals)(u:∀d∈X,d∈m)(i:Q h0 vi)(v:vi.get? env.locals=ah)(y:env.locals∉aI w)
 (A:aX.FlyingW x r f g (.ref e) k) (C:k.TupAt e h) (D:h'.UpToSlots k):lP B X r M w vi Sf x k Z f e g h where
 keep:=i.trans a.keep
 hF:=a.hF
 new:=λq b=>by
  cases j:vi.get? q.1 with
  |none=>rfl|some o=>have:=i _ _ j;show b6 (a.new q b) this
 apart:=a.apart
 all:=a.all
 po:=λd b=>a.po d (u d b)
 qQ:=a.qQ
 qR:=a.qR
 np:=λd o n b j=>a.np d o (λc=>by
  unfold da at c;replace c:=r3▸c;replace c:=t▸c;show ay (a5 c) (λE=>?_) λc=>?_
  .obtain rfl:=E;rcases b with⟨s,l⟩|b
   .show b6 v l
   .show y b
  .show n c) (b.imp (λd=>p d λs l=>#[s,i _ _ l]) id) j
 qS:=A
 bR:=C
 sC:=a.sC
 slots:=a.slots.trans D
def lP.Le {cF h i:aE}(c:lP r X w h i h0 k x h' Z m B M Sf)(p:∀b∈cF,bH r (l k Z) k b.1 b.2)(j:∀b∈cF,∃o,h0.get? b.1=J o)(hd:cF.Pairwise λm q=>m.1≠q.1)(s:∀d∈aI cF,d∈Z):
 lP r X w (cF++h) (cF++i) (cq h0<|aI cF) k x h' Z m B M Sf where
 keep:=λd o e=>c.keep d o (ff _ e)
 hF:=λb a=>(jz a).elim (p b) (c.hF b)
 new:=λb a=>(jz a).elim (λa=>cU _<|c9 a) λa=>by
  cases e:(cq h0<|aI cF).get? b.1 with
  |none=>rfl|some o=>have:=ff _ e;show b6 (c.new b a) this
 apart:=ih.mpr #[hd,c.apart,λb f e t g=>by
  obtain⟨o,H⟩:=j b f;replace H:=g▸H;replace H:=(c.new e t)▸H;cases H]
 all:=λb a=>by
  mspec ij;show(jz a).elim (λa=>bJ<|c9 a) λa=>bB (c.all b a)
 po:=c.po
 qQ:=λd a=>by
  replace a:=ij▸a;show(jz a).elim (s d) (c.qQ d)
 qR:=c.qR
 np:=λd o n a e=>c.np d o n (by
  rcases a with⟨u,g⟩|a
  .show .inl #[u,ff _ g]
  .replace a:=ij▸a;show(jz a).elim (λa=>?_) .inr;obtain⟨b,f,rfl⟩:=ck a;show .inl<|j b f) e
 qS:=c.qS
 bR:=c.bR
 sC:=c.sC
 slots:=c.slots
def u.Lf {ai keep bi:aE}{m s:aX}{y:T}{j:eg}(A:u H Y x)(B:Y.I.frame=J Y.I.locals)(C:x.get? Y.I.locals=J j)(hd:∃f h,j.data=.dict f h)(D:Y.G.Perm (ai++keep))(E:∀d∈bi,d.1∈da ag->∃o f h,d.2=.frame o/\o.data=.dict f h)(F:∀e∈da ag,e∈aI ai)
 (c:lP Y.d Y.X (Y.I::ag) ((Y.I.locals,.frame j)::ai) ((Y.I.locals,.frame j)::bi) (cq x<|Y.I.locals::aI ai) m s h' Z Sf y Sg M) (n:s.StaysIn w) (G:h'.UpToSlots w):u H #[Y.d,Y.O,Y.I,Y.X++aI bi,Y.q,bi++keep] w:=by
 have t:da (Y.I::ag)=Y.I.locals::da ag:=by unfold da;mspec r3;show aJ B V
 have I:=c.slots.trans G;have K:Q (l w<|Y.X++aI ((Y.I.locals,.frame j)::bi)) (l m Z):=λe o b=>by
  have s:e∉Z:=λa=>by show b6 (cU _ a) b
  show cb _ (n _ _<|c.qR e o s<|l.of _ _ b) λa=>s ?_;show cL a (λa=>?_) λa=>?_
  .show c.po e a
  .show c.qQ e a
 show A.uJ (fr:=ah) (gen:=aj) D C #[λe o b=>?_,λd k=>?_,c.new,c.apart,c.all]
 .show n _ _ (c.np e o (λa=>(λa=>by show b6 (cU _ a) b) ?_) (.inl #[o,b])<|c.keep _ _ b);replace a:=t▸a;show gg a ?_ λa=>?_
  .show ap
  .show g<|F e a
 .by_cases i:d.1∈da (Y.I::ag)
  .obtain⟨o,f,h,L,N⟩:∃o f h,d.2=.frame o/\o.data=.dict f h:=by
    show ay (a5 k) (λO=>?_) λv=>?_
    .obtain rfl:=O;show cm hd λf h hd=>?_;show j6 j f h V hd
    .replace i:=t▸i;show ay (d2 i) (λi=>?_) λi=>?_
     .show absurd i.symm<|(gq.mp c.apart).1 d v
     .show E d v i
   have r:=c.hF d k;rw[L]at r ⊢;have:∃q,m.get? d.1=J {o with slots:=q}:=r.is;show p this λq P=>?_;obtain⟨a,R⟩:=I _ _ P λM b=>by replace b:=(show({o with slots:=q}:eg).data=o.data from rfl)▸b;replace b:=N▸b;cases b
   show .frame R
  .show(c.hF d k).lw K λo b=>n _ _<|c.np _ o i (.inr<|c9 k) b
end
structure qU (dT:aP)(ag:List b3):Prop where
 frames:jq dT.cM ag
 cn:∀ac∈da ag,ac∈dT.cB
def nq (U:aW)(env:b3)(dT:aP)(ag:List b3)(ai:aE)(co:aE->ba->cv->Prop)(aK:cW)(aa:aS)(ae:T)(bS:aS):Prop:=
 au U.M aK (qb env<| .ref ae) (λa b=>∃bi fN a3,cs aa b dT.bZ/\co bi fN a3/\qT U dT.cB ag ai bi dT.cM b.heap ae fN a3) (λa a=>False) bS
structure fE (Y:be)(H dT:aP)(ag:List b3)(ai:aE)(co:aE->ba->cv->Prop)(a:cC):Prop where
 go:∀(aK:cW)(aa:aS)(bM:Flow->aS->Prop)(bv:bY),je aK Y.O Y.I H.cR->aK.frames=J (Y.I::ag)->u H Y aa.heap->
  (∀ae bS,nq Y.d Y.I dT ag ai co aK aa ae bS->bv (.ref ae) bS)->au Y.d.M aK (exec a Y.I) bM bv aa
structure dZ (Y:be)(H dT:aP)(ag:List b3)(ai:aE)(co:aE->ba->cv->Prop)(al:List cC):Prop where
 go:∀(aK:cW)(aa:aS)(bM:Flow->aS->Prop)(bv:bY),je aK Y.O Y.I H.cR->aK.frames=J (Y.I::ag)->u H Y aa.heap->
  (∀ae bS,nq Y.d Y.I dT ag ai co aK aa ae bS->bv (.ref ae) bS)->au Y.d.M aK (execs al Y.I) bM bv aa
section
variable {Y:be}{H dT:aP}{ag:List b3}{ai:aE}{co:aE->ba->cv->Prop}
def nq.DI {a:T}{b:aS}(o:nq k env dT ag ai co m n a b)(c:cs w n dT.bZ):nq k env dT ag ai co m w a b:=dr o (λb b d=>eY d λe f g h r=>j6 e f g (c.trans h) r) λb b a=>a
def nq.toks (o:nq k env dT ag ai co m {n with heap:=x,toks:=B} r w):nq k env dT ag ai co m n r w:=o.DI .up
def dZ.head {a:cC}(b:fE Y H dT ag ai co a):dZ Y H dT ag ai co (a::k):=.mk λa c i d e f g h=>
 mn (b.go a c _ d e f g h)
def dZ.cons {f:cC}{aw:aX->Prop}(c:E Y H f (c2 aw λd d=>False))(n:H.bZ=z->dT.bZ=z)(p:∀c,aw c->∃(a:be) (b:aP),a.d=Y.d/\a.O=Y.O/\a.I=Y.I/\b.cR=H.cR/\b.bZ=H.bZ/\u b a c/\dZ a b dT ag ai co w):dZ Y H dT ag ai co (f::w):=.mk λg f v h i q e s=>
 mn (dr (c.go g f h i e) (λt j v=>by
  show ao v λx r=>?_;cases t with
  |next=>
   show A3 (p j.heap r) λa b k l m y c A B=>?_;obtain⟨b,c,f,p,t,v⟩:=a;dsimp only at k l m;subst k;subst l;subst m;show B.go g j _ h (y▸i) q A λe a o=>s e a<|o.DI<|x.le n
  |_=>show r.elim) λd d H=>H)
def fE.qV (f:a1 Y k z)(g:dZ Y H dT ag ai co m):fE Y H dT ag ai co (.If k m n pos):=.mk λa b h c d i e j=>
 rT (f.go a b _ c d.todA e.tocV λh' k l=>g.go a {b with heap:=h',toks:=k} h c d i (e.keep l) λa b o=>j a b o.toks)
def fE.Lg (f:a1 Y k aj)(g:dZ Y H dT ag ai co m):fE Y H dT ag ai co (.If k n m pos):=.mk λa b h c d i e j=>
 rT (f.go a b _ c d.todA e.tocV λh' k l=>g.go a {b with heap:=h',toks:=k} h c d i (e.keep l) λa b o=>j a b o.toks)
def fE.sD (i:ExcCallFacts fN M Sf)(j:ExcRaiseFacts fN){b:aE}(f:qU dT ag)(h0:H.cM=dT.cM)(l:H.cB=dT.cB)(p:Y.I.frame=J Y.I.locals)
 (q:R Y (.Name r w) (.val<| .type fN)) (s:W Y n (m::k) ds) (t:ds.length<=aD) (v:Y.G.Perm b) (x:∀y∈ai,y.1∈aI b) (A:∀(a:cv)(B:aX),aO Y.d B a ds->co b (.type fN) a)
 (C:bh (m::k) Y.I=(aj,eval m Y.I)::bh k Y.I:=by rfl) (D:(cY n<|bh k Y.I).any (·.1)=aj:=by rfl):fE Y H dT ag ai co (.Raise (J<| .Call (.Name r w) (m::k) [] n) ah pos):=.mk λg c k h d E e F=>by
 show Raise_madeB i j d.handled ?_ C D;show q.go g c _ h d.todA e.tocV λi G I K L=>?_;obtain rfl:=L.is;show#[V,?_];have i:=e.keep K;show s.go g {c with heap:=G,toks:=I} _ h d.todA i.tocV λa j k m g=>?_;have d:=i.keep m;show#[by show g.length▸t,λh' h i=>F h _ ?_];show u.DH (dR:=j) (bS:={c with heap:=h',toks:=k}) d (by mspec e.kind;decide) p E (f.frames.keep λe h o c=>#[o.slots,d.de _ _<|h0▸c]) h0 l f.cn v x i.of λh e=>kM b _ a .up (A a _ g) e
def fE.Lh (s:R Y iter r)(h:∀k,r≠ .val k)(y:cA Y target r (af::ds))(O:qj Y.I target af)
 (P:∀b,dZ #[Y.d,Y.O,Y.I,b::Y.X,gp target af Y.q,Y.G] H dT ag ai co body) (A:∀f,iB iter Y.I f=pure f):fE Y H dT ag ai co (.For target iter body [] pos):=.mk λd t T m q Q h a=>by
 show wpAny_For (s.go d t _ m q.todA h.tocV λf B S T U=>?_) A;have g:=h.keep T;show y.go d _ _ m f q.todA g.tocV U λb h s A w it=>?_;obtain⟨i,W,C,D,h,s,x,E,X⟩:=it;dsimp only at i x E ⊢;have Z:H.cM.get? b=ah:=by
  show jA (g.de b) i
 have y:b∉Y.X:=λe=>by
  show p (g.cw b e) λo a=>?_;show b6 i a
 have A:b≠Y.I.locals:=λa=>y<|a▸g.cn.1;have T:∀h∈Y.I.cells,b≠h.2:=λh s a=>y<|a▸g.cn.2 h s;have Sf:b∉d5 #[Y.d,Y.O,Y.I,b::Y.X,Y.q,Y.G]:=λe=>by
  show ay (iE e) (λa=>?_) λU=>ay U (λSg=>?_) λU=>?_
  .show A a
  .show p Sg λh A=>?_;show ao A λs a=>?_;show T h s a
  .show p U λh A=>?_;show ao A λs a=>?_;show y<|a▸(g.G h s).1
 have Sh:∀j c,nq Y.d Y.I dT ag ai co d t j c->notedBy Y.d.M d Y.I (λH c=>Ch Y.d.M d Y.I m H c) (.ref j) c:=λj c o=>by
  have:=wpAny_leaving_again (what:="frame.own-activation:exception-without-traceback") (E₂:=m) (E₃:=λH c=>Ch Y.d.M d Y.I m H c) (SameStack.refl d) (A'':=d) o;show dr this (λh m B=>?_) λh h f=>f;show dr B (λh m w=>a j m w) λh h f=>f
 show JF (λf c=>f=0/\c={t with heap:=w,toks:=S}) ?_ 0 #[V,V];intro f c h;show j4 h ?_;show(W d q.handled).item 0 _ _ _ (oO _) C λk F f G I K=>?_;show aY (E 0 k G<|oO _) λf hd Si=>?_;obtain rfl:=fS hd;show X d 1 F k I G _ _ _ V ?_;have Sj:=(g.gI i (D _ _ C) x).other ap Sf Z (D _ _ I)<|λv o n a=>K v o n a;have Sk:bb Y.d (l F<|b::Y.X) k af:=Si.keep λL o a=>by
  have M:=l.of _ _ a;have N:L∉Y.X:=λe=>by show b6 (cU _ e) a
  show cb _ ((λv o n a=>K v o (λe=>by replace a:=(bX e)▸a;replace a:=i▸a;cases a)<|x v o a) L o N M) λe=>?_;show ay (a5 e) (λSl=>?_) λe=>?_
  .obtain rfl:=Sl;show b6 i M
  .show N e
 show u.BJ (Y:=#[Y.d,Y.O,Y.I,b::Y.X,Y.q,Y.G]) q.handled Sj O Sk λa e g f=>?_;show(P b).go d {t with heap:=a,toks:=e} _ _ q Q f λj c o=>Sh j c o.toks
end
section
variable {U:aW}
def nr (aH:v)(a:aE):aE->ba->cv->Prop:=λbi fN a3=>bi=a/\fN=.type "ValueError"/\∃a9,a3=[.str aH a9]
def sE (r:aO U o k [.str m]):nr m n n (.type "ValueError") k:=by
 cases r with
 |cons r a=>cases a;cases r;show#[V,V,_,V]
def Li (g:aR U)(n:Nat)(i:T)(X:aZ)(f e:aP)(j:List b3)(o:qU e j)(h0:f.cM=e.cM)(p:f.cB=e.cB)(d:az)(k:v)(l:dp)(r:T×h)(q:d.bq=J r):
 dZ #[U,n,bV (bk 142<|a U) i 142,X,[("self",.val (.ref d.x)),("node",.str k),("predecessors",.bR l)],d.G] f e j d.G (nr "Nodes cannot be added after a call to prepare()" d.G) (cf 142<|a U):=by
 have m:=(az.ik (Y:=#[U,n,bV (bk 142<|a U) i 142,X,[("self",.val (.ref d.x)),("node",.str k),("predecessors",.bR l)],d.G]) g V d d.eK d.eT).2.1;rw[show mu d.bq=.val (.ref r.1) by mspec q;rfl]at m;show dZ.head<|fE.qV (a1.bL (b:=z) (ac:=.val<| .ref r.1) (R.fl (R.K 0 V) m V) R.gF ax.p7 c)<|dZ.head ?_;show fE.sD (fN:="ValueError") vj vk (ds:=[.str "Nodes cannot be added after a call to prepare()"]) o h0 p V (g.eZ V rfl (by room) (by decide) V rfl rfl (by decide)) (W.cons R.cy W.nil V) (by decide) (eJ _) (λe d=>c9 d)<|λe f r=>sE r
def qW (b:aR U):eB U 147 (bk 147<|a U) ["self"] (cf 147<|a U):=
 b.fn V rfl D V rfl (kY λd=>by room)
  (fi V hc) (by decide) (show([]:h).Nodup by decide) c c V
def Lj (g:aR U)(n:Nat)(i:T)(X:aZ)(f e:aP)(j:List b3)(l:qU e j)(h0:f.cM=e.cM)(m:f.cB=e.cB)(d:az)(r:T×h)(o:d.bq=J r):
 dZ #[U,n,bV (bk 147<|a U) i 147,X,[("self",.val (.ref d.x))],d.G] f e j d.G (nr "cannot prepare() more than once" d.G) (cf 147<|a U):=by
 have k:=(az.ik (Y:=#[U,n,bV (bk 147<|a U) i 147,X,[("self",.val (.ref d.x))],d.G]) g V d d.eK d.eT).2.1;rw[show mu d.bq=.val (.ref r.1) by mspec o;rfl]at k;show dZ.head<|fE.qV (a1.bL (b:=z) (ac:=.val<| .ref r.1) (R.fl (R.K 0 V) k V) R.gF ax.p7 c)<|dZ.head ?_;show fE.sD (fN:="ValueError") vj vk (ds:=[.str "cannot prepare() more than once"]) l h0 m V (g.eZ V rfl (by room) (by decide) V rfl rfl (by decide)) (W.cons R.cy W.nil V) (by decide) (eJ _) (λe d=>c9 d)<|λe f r=>sE r
end
section
variable {Y:be}{H dT:aP}{ag:List b3}{ai:aE}{co:aE->ba->cv->Prop}
def R.yY {b c:Nat}{d e f pos:dy}(g:R Y o (.str m))(a:k.length+(gO m).length+n.length<=aD):
 R Y (.JoinedStr [.Constant (.str k) b d,.FormattedValue o 114 ah f,.Constant (.str n) c e] pos) (.str<|k++gO m++n):=.mk λc b i d e f h=>by
 have i:(kg++k).length<=aD:=by rw[kh];show bd [.j (.S (.S y C) t)<| .O aD] 0 (.S (.O 0) y) (.O aD) D a
 have l:(kg++k++gO m).length<=aD:=by rw[kh,kh];show(?_:0+k.length+(gO m).length<=_);show bd [.j (.S (.S y C) t)<| .O aD] 0 (.S (.S (.O 0) y) C) (.O aD) D a
 have b:(kg++k++gO m++n).length<=aD:=by rw[kh,kh,kh];show(?_:0+k.length+(gO m).length+n.length<=_);show bd [.j (.S (.S y C) t)<| .O aD] 0 (.S (.S (.S (.O 0) y) C) t) (.O aD) D a
 show JoinedStr_many<|sc<|oV #[i,?_];show sc<|wpAny_FormattedValue_repr<|g.go c _ _ d e (f.keep<|Q.bf _) λo i s q r=>?_;show p r.dO λd c=>?_;show bw c ?_;show wpAny_pyReprObj_str ?_<|bd [.j (.S (.S C y) t)<| .O aD] 0 y (.O aD) D a;show formatField_str (λc d=>#[l,?_])<|bd [.j (.S (.S C y) t)<| .O aD] 0 y (.O aD) D a;show sc<|oV #[b,joinParts_nil ?_ b];have a:kg++k++gO m++n=k++gO m++n:=by
  have:kg++k=k:=by show(?_:(#[(aRR [])++k.cps]:v)=k);show aJ uH V
  show aJ this V
 mspec a;show h _ i _ q<| .str _ _
def bO.Lk (b:(gO k).length<=aD):bO Y (.builtin "repr") [.str k] (.str<|gO k):=.mk λa c f g h i j d e=>by
 show p d.one λf a=>?_;show ci a λd=>?_;show p d.dO λf a=>?_;show bw a ?_;show P.repr_of_str (e _ c.heap _ (Q.bf _)<| .str _ _) b
def dZ.br {a:cC}{own:aE}(c:H.bZ=z->dT.bZ=z)(b:E Y H a (c2 (u H #[Y.d,Y.O,Y.I,X,Γ,own]) λd d=>False))(e:dZ #[Y.d,Y.O,Y.I,X,Γ,own] H dT ag ai co k):dZ Y H dT ag ai co (a::k):=
 dZ.cons b c λb a=>eQ #[Y.d,Y.O,Y.I,X,Γ,own] H V rfl rfl rfl rfl a e
def fE.sh (h:R Y m af)(i:fM Y.I k)(hd:af.isNone=z)
 (j:dZ #[Y.d,Y.O,Y.I,Y.X,bl k af Y.q,Y.G] H dT ag ai co n):fE Y H dT ag ai co (.If (.Compare (.NamedExpr (.Name k r) m w) [.Is] [.Constant .none x B] M) n Sf pos):=.mk λb a l d e m f n=>by
 show rT<|w9 (wpAny_NamedExpr<|h.go b a _ d e.todA f.tocV λs p q r g=>iz<|(f.keep r).gn (aa:={a with heap:=p,toks:=q}) i g λh p s f f f r=>?_) c;show A8<|Be<|ma ?_;mspec g.isNone;mspec hd;show j.go b {a with heap:=h,toks:=p} l d e m r λk a o=>n k a o.toks
end
section
variable {U:aW}
def ax.of_eq (a:ax k m n o r)(b:r=w):ax k m n o w:=b▸a
noncomputable def nt (b0:dl)(ak:v):v:=
 ("node ":v)++gO ak++(if ak∈cQ b0 then(if i1 b0 ak= -2 then " was already marked done" else " was not passed out (still not ready)")else " was not added using add()":v)
def qX (b0:dl)(ak:v):Prop:=ak∉cQ b0\/i1 b0 ak= -2\/0<=i1 b0 ak
def Ll (l:aR U)(n:Nat)(K:T)(X:aZ)(t m:aP)(L:List b3)(B:qU m L)(h0:t.cM=m.cM)(C:t.cB=m.cB)(u:t.bZ=m.bZ)(d:az)(g:v)(r:T×h)(Sg:d.bq=J r)(Sh:d.bA)(F:(gO g).length<=900)(M:qX d.P g):
 dZ #[U,n,bV (bk 175<|a U) K 175,X,[("self",.val (.ref d.x)),("nodes",.bR [.str g])],d.G] t m L d.G (nr (nt d.P g) d.G) (cf 175<|a U):=by
 have P:=az.ik (Y:=#[U,n,bV (bk 175<|a U) K 175,X,[("self",.val (.ref d.x)),("nodes",.bR [.str g])],d.G]) l V d d.eK d.eT;have Q:=P.2.1;rw[show mu d.bq=.val (.ref r.1) by mspec Sg;rfl]at Q;show dZ.br (by mspec u;show id) (X:=X) (Γ:=[("self",.val (.ref d.x)),("nodes",.bR [.str g])]) (own:=d.G) (E.dC (aq:=aj) (a1.bL (b:=aj) (ac:=.val<| .ref r.1) (R.fl (R.K 0 V) Q V) R.gF ax.oX c) (λe=>by cases e)<|λZ=>N.nil λe G=>G) ?_;show dZ.br (by mspec u;show id) (E.assign (af:=.val<| .ref d.cp) (R.fl (r:=.val<| .ref d.x) (R.K 0 V) P.1 V) (.inl V) V) ?_;show dZ.head (fE.Lh (af:=.str g) (ds:=[]) (R.K 2 V) (λm e=>by cases e) cA.bR (.name<| .inl V) (λSi=>?_)<|λZ=>rfl);have w:nt d.P g=("node ":v)++gO g++(if g∈cQ d.P then(if i1 d.P g= -2 then " was already marked done" else " was not passed out (still not ready)")else " was not added using add()":v):=rfl;show ay (u5 d.bt g) (λm=>?_) λSj=>?_
 .show ao m λo x=>?_;have Sk:g∉cQ d.P:=λk=>by
   unfold cQ at k;rw[yP]at k;show aY (ck k) λf m t=>?_;show x f m t
  rw[if_neg Sk]at w;mspec w;show dZ.head (fE.sh (af:=.none) (R.of_eq (R.jg (ds:=[.str g]) (r:=.val<| .ref d.cp) (R.K 1 V) (fB.bN (as.G d.lN) qt uQ) (W.cons (R.K 0 V) W.nil V) (bO.uN<|as.G d.lN) V c V) (by mspec o;rfl)) (.inl V) D<|dZ.head ?_);show fE.sD (fN:="ValueError") vj vk (ds:=[.str _]) B h0 C V (l.eZ V rfl (by room) (by decide) V rfl rfl (by decide)) (W.cons (R.yY (R.K 1 V) (by mspec show("node ":v).length=5 from rfl;mspec show(" was not added using add()":v).length=26 from rfl;unfold aD;show dL [.j y<| .O 900] 0 (.S (.S (.O 5) y)<| .O 26) (.O<|2^24) D F)) W.nil V) (fR D) (eJ _) (λg k=>c9 k)<|λSf e r=>sE r
 .show kL Sj λt f K m=>?_;show cd m λo x Sl=>?_;have H:g∈cQ d.P:=by unfold cQ;rw[yP];show iv.mpr (av f (by mspec o;simp) x)
  have Sm:(f.S,i.slots 95 [.str f.name,.int f.cx,.val<| .ref f.cE])∈d.G:=by mspec az.split o;simp
  have p:i1 d.P g=f.cx:=by unfold i1;show ch x ?_;mspec vg o Sh;rfl
  rw[if_pos H,p]at w;mspec w;show dZ.br (by mspec u;show id) (X:=Si::X) (Γ:=bl "nodeinfo" (.val<| .ref f.S)<|bl "node" (.str g)<|bl "n2i" (.val<| .ref d.cp) [("self",.val (.ref d.x)),("nodes",.bR [.str g])]) (own:=d.G) (E.sh (af:=.val<| .ref f.S) (R.of_eq (R.jg (ds:=[.str g]) (r:=.val<| .ref d.cp) (R.K 1 V) (fB.bN (as.G d.lN) qt uQ) (W.cons (R.K 0 V) W.nil V) (bO.uN<|as.G d.lN) V c V) (by mspec Sl;rfl)) (.inl V) (λe=>Lb (show aj=z from e))<|λZ=>N.nil λe G=>G) ?_;show dZ.br (by mspec u;show id) (E.assign (af:=.int f.cx) (R.fl (r:=.val<| .ref f.S) (R.K 0 V) (f8.slot (aw:=a U) l.bD (ac:=f.S) (b:=95) (ds:=[.str f.name,.int f.cx,.val<| .ref f.cE]) Sm V (.int _) lK) V) (.inl V) V) ?_;have Sn:f.cx≠ -1:=by
   show ay M (λe=>?_) λI=>ay I (λe=>?_) λe=>?_
   .show absurd H e
   .rw[p]at e;show λq=>kJ [f.cx] [.j A<| .O<| -2,.j (.O<| -1) A] rfl (c4 e:) (c4 (q).symm:)
   .rw[p]at e;show λq=>kJ [f.cx] [.j (.O 0) A,.j A<| .O<| -1] rfl e (c4 q:)
  show dZ.head (fE.qV (a1.bL (ac:=.int f.cx) (al:=.int<| -1) (R.K 0 V) (R.sy (a2:=530)<|l.eW V (by room) V rfl (by decide)) (ax.of_eq ax.kO<|by simpa using Sn) c)<|dZ.head ?_);by_cases s:f.cx= -2
  .mspec if_pos s;show fE.Lg (a1.bL (ac:=.int f.cx) (al:=.int 0) (R.K 0 V) R.bK (ax.of_eq ax.xa<|decide_eq_false<|λq=>kJ [f.cx] [.j A<| .O<| -2,.j (.O 0) A] rfl (c4 s:) q) c)<|dZ.head ?_;show fE.qV (a1.bL (ac:=.int f.cx) (al:=.int<| -2) (R.K 0 V) (R.sy (a2:=533)<|l.eW V (by room) V rfl (by decide)) (ax.of_eq ax.eq<|by simpa using s) c)<|dZ.head ?_;show fE.sD (fN:="ValueError") vj vk (ds:=[.str _]) B h0 C V (l.eZ V rfl (by room) (by decide) V rfl rfl (by decide)) (W.cons (R.yY (R.K 2 V) (by mspec show("node ":v).length=5 from rfl;mspec show(" was already marked done":v).length=24 from rfl;unfold aD;show dL [.j y<| .O 900] 0 (.S (.S (.O 5) y)<| .O 24) (.O<|2^24) D F)) W.nil V) (fR D) (eJ _) (λg k=>c9 k)<|λSf e r=>sE r
  .mspec if_neg s;have So:0<=f.cx:=by
    show ay M (λe=>?_) λI=>ay I (λe=>?_) λe=>?_
    .show absurd H e
    .rw[p]at e;show absurd e s
    .rw[p]at e;show e
   show fE.qV (a1.bL (ac:=.int f.cx) (al:=.int 0) (R.K 0 V) R.bK (ax.of_eq ax.xa<|decide_eq_true So) c)<|dZ.head ?_;show fE.sD (fN:="ValueError") vj vk (ds:=[.str _]) B h0 C V (l.eZ V rfl (by room) (by decide) V rfl rfl (by decide)) (W.cons (R.yY (R.K 2 V) (by mspec show("node ":v).length=5 from rfl;mspec show(" was not passed out (still not ready)":v).length=37 from rfl;unfold aD;show dL [.j y<| .O 900] 0 (.S (.S (.O 5) y)<| .O 37) (.O<|2^24) D F)) W.nil V) (fR D) (eJ _) (λg k=>c9 k)<|λSf e r=>sE r
end
noncomputable abbrev eE (a8:iG)(ca aT:T):b3:=newEnv a8.scope ca a8.globals a8.closure (a8.qualname++".<locals>.") (J aT) a8.code ah a8.builtins
structure iL (an:aX)(aT:T)(a8:iG)(body:c6):Prop where
 at_:∃o,an.get? aT=J o/\o.data=.func a8
 m6:an.CodeRec a8.code a8.qualname
 pa:a8.body=.expr body
 rW:hE a8 #[[],[]]=pure []
 yZ:∀ae∈a8.scope.names,ae.2≠ .cell
 fm:a8.scope.isCoroutine=aj
 bZ:a8.scope.isGenerator=aj
 kind:a8.scope.kind=.function
def iL.keep {b:T}{c:iG}(a:iL k b c body)(d:Q h' k):iL h' b c body:=
 {a with at_:=let#[o,b,c]:=a.at_;#[o,d _ _ b,c],m6:=a.m6.keeps d}
def hY (U:aW)(a8:iG)(an aF:aX)(Γ:bg):Prop:=∀ak∈Γ,∃b aq,a8.scope.names.lookup ak.1=J .free/\a8.closure.lookup ak.1=J b/\an.IsCell b (J aq)/\bb U aF aq ak.2
def vl (b:iL k.heap r w body)(L:m.B.NoLimit)(E:dA x (n+1))
 (F:Q (l k.heap X) m.B) (H:∀j∈X,∃o,k.heap.get? j=J o) (M:hY m w k.heap (l k.heap X) Γ) (I:∀f∈own,f.1∈X/\bH m (l k.heap X) k.heap f.1 f.2)
 (N:∀c d O,k.heap.get? c=ah->dA (x.deeper<|eE w c r) n->cV #[m,n,eE w c r,c::X,Γ,own] d->Q d k.heap->(∃o q u,d.get? c=J o/\o.data=.dict q u)->
  au m.M (x.deeper<|eE w c r) (eval body<|eE w c r) (λv y=>B (.ok<| .ret v) y)
   (λa y=>au m.M (x.deeper<|eE w c r) (qb (eE w c r) a) (λs A=>B (.error a) A) (λP A=>B (.error P) A) y) {k with heap:=d,toks:=O}):hR m.M x (.call (.ref r) #[[],[]]) B k:=by
 show aY b.at_ λo c hd=>?_;show kla_callFunE E.w6 c hd b.fm b.bZ b.pa b.m6 ?_;mspec b.rW;show bc (Lm b.yZ (λr c=>nomatch c) (λd R r=>?_) b.kind);have i:Q d k.heap:=λc o a=>r.extBut c o (g6<|gk a)<|gj _ a;show#[(L.keeps (show Q k.heap m.B from F.trans l.of)).keeps i,kla_codeExpr ?_];have C:k.heap.get? k.heap.objs.size=ah:=d3;have c:k.heap.objs.size∉X:=λe=>by show p (H _ e) λo h=>?_;replace h:=C▸h;cases h
 have D:Q (l d<|k.heap.objs.size::X) (l k.heap X):=λj o h=>by
  have t:=l.of _ _ h;show cb _ (i j o t) λe=>?_;show ay (a5 e) (λS=>?_) λe=>?_
  .obtain rfl:=S;replace t:=C▸t;cases t
  .replace h:=(cU _ e)▸h;cases h
 have K:∃o q u,d.get? k.heap.objs.size=J o/\o.data=.dict q u:=by
  show l4 R λo q c a hd s=>?_;show j6 o q c a hd
 show N k.heap.objs.size d _ C (E.rE V rfl rfl (cg _)) ?_ i K;show
  {base:=F.trans D
   cw:=λj e=>by
    rcases a5 e with rfl|e
    .show eY K λo s s a s=>?_;show dn o a
    .show p (H j e) λo a=>?_;show dn o (i _ _ a)
   d8:=λf c=>by
    show l5 (M f c) λd v e h j k=>?_;show aY j λo a hd=>?_;show av v (.inr #[d,.inr e,h,o,i _ _ a,hd]) (k.keep D)
   G:=λf c=>#[g (I f c).1,(I f c).2.keep D i]
   kind:=b.kind}
section
variable {Y:be}{aw:ht}
def DJ (X:aw.In Y.d.B)(d:dA x Y.O)(e:cV Y k.heap)(i:(Sf,.aG (c3 Si Sj))∈Y.G)(j:(Sj,.ns Sk)∈Y.G)(p:Sk.lookup m=ah)(b:jR aw Si B m)
 (a:R Y o (.val<| .ref Sf)) (q:W Y pos (w::r) ds) (t:bh (w::r) Y.I=(aj,eval w Y.I)::bh r Y.I) (u:(cY pos<|bh r Y.I).any (·.1)=aj)
 (v:eval (.Call (.Attribute o m Sg) (w::r) [] pos) Y.I=(do
  let Sh <-eval o Y.I
  es Sg.atName
  let(B,first) <-e7 [Sh] (gK Sh m ii)
  dP pos B first (cY pos<|bh (w::r) Y.I) []))
 (y:∀c h' A,Q h' k.heap->aO Y.d (l h' Y.X) c ds->au Y.d.M x (dV (.ref B)<| .ref Sf::c) Sl M {k with heap:=h',toks:=A}):au Y.d.M x (eval (.Call (.Attribute o m Sg) (w::r) [] pos) Y.I) Sl M k:=
 jP (pl:=ii) (a.go x k _ M d e λr f g h C=>by
  obtain rfl:=C.is;have a:=e.keep h;show f3 (pg (a.G _ i).2 (a.G _ j).2) λe n r A w=>?_;have i:yo (J<|j7 e n) m=J aj:=by
   show(?_:(uO m<|j7 e n).map _=_);rw[uP];mspec w.get.2 p;rfl
  show yp (s:={k with heap:=f,toks:=g}) (a.bD X) r (k6 b.plain).1 (k6 b.plain).2 b.at_ b.oe i ?_;show Cw (a.bD X) b.kept (q.go x {k with heap:=f,toks:=g} _ M d a λc e f b i=>#[(a.keep b).bD X,y c e f (h.trans b) i]) t u) v
def y0 (X:aw.In Y.d.B)(b:dA r Y.O)(e:cV Y k.heap)(g:(x,.aG (c3 Sg Sh))∈Y.G)(h:(Sh,.ns Si)∈Y.G)(i:Si.lookup m=ah)(a:jR aw Sg w m)
 (j:R Y o (.val<| .ref x))
 (l:eval (.Call (.Attribute o m B) [] [] pos) Y.I=(do
  let M <-eval o Y.I
  es B.atName
  let(w,first) <-e7 [M] (gK M m ii)
  dP pos w first (cY pos<|bh [] Y.I) []))
 (p:∀h' q,Q h' k.heap->au Y.d.M r (dV (.ref w) [.ref x]) Sj Sf {k with heap:=h',toks:=q}):au Y.d.M r (eval (.Call (.Attribute o m B) [] [] pos) Y.I) Sj Sf k:=
 jP (pl:=ii) (j.go r k _ Sf b e λq c d f t=>by
  obtain rfl:=t.is;have b:=e.keep f;show f3 (pg (b.G _ g).2 (b.G _ h).2) λe n j r q=>?_;have g:yo (J<|j7 e n) m=J aj:=by
   show(?_:(uO m<|j7 e n).map _=_);rw[uP];mspec q.get.2 i;rfl
  show yp (s:={k with heap:=c,toks:=d}) (b.bD X) j (k6 a.plain).1 (k6 a.plain).2 a.at_ a.oe g ?_;show Cx (s:={k with heap:=c,toks:=d}) (b.bD X) a.kept<|p c d f) l
end
def g9.DK (q:g9 m w x r body)
 (s:dA B (n+1)) (t:B.frames=J ag) (u:Q (l k.heap X) m.B) (v:∀p∈X,∃o,k.heap.get? p=J o) (y:gJ m x args r X ds k) (A:r.length=ds.length)
 (C:∀b∈ai,b.1∈X/\bH m (l k.heap X) k.heap b.1 b.2) (D:ai.Pairwise λa E=>a.1≠E.1)
 {gen:Bool} (F:∀g h,dZ #[m,n,bV x g w,h,r.zip ds,ai] #[cq k.heap<|aI ai,X,J ag,gen] #[cq k.heap<|aI ai,X,J ag,gen] ag ai co body)
 (i:∀a c d e f,cs k c gen->co d e f->qT m X ag ai d (cq k.heap<|aI ai) c.heap a e f->M (.error<| .ref a) c):hR m.M B (.call (.ref w) args) M k:=by
 show q.uo s u v y A (h0:=cq k.heap<|aI ai) (λp o i=>ff _ i) (own:=ai) C (λb m=>cU _<|c9 m) D (fr:=J ag) (gen:=gen) (λb j=>by cases j;show t) λg h p q m r b=>?_;show(F g h).go _ {k with heap:=p,toks:=q} _ _ m (m.o8 _ V) r λa c o=>?_;show dr o (λb c j=>by
  show l4 j λd e f g h k=>?_;show i a c d e f (cs.up.trans g) h k) λb b a=>a.elim
def g9.Ln (s:g9 m w x r body){X:aZ}{n:Nat}{args:Args}{ds:dp}{ai:aE}{ag:List b3}{co:aE->ba->cv->Prop}{i:t2->aS->Prop}
 (t:dA B (n+1)) (u:B.frames=J ag) (v:jq k.heap ag) (y:∀a∈da ag,a∈X) (A:∀a∈da ag,a∉aI ai) (C:Q (l k.heap X) m.B) (D:∀a∈X,∃o,k.heap.get? a=J o) (E:gJ m x args r X ds k) (F:r.length=ds.length)
 (G:∀e∈ai,e.1∈X/\bH m (l k.heap X) k.heap e.1 e.2) (H:ai.Pairwise λc I=>c.1≠I.1)
 {gen:Bool} (K:∀f g d b,qU b ag->d.cM=b.cM->d.cB=b.cB->d.bZ=b.bZ->b.bZ=gen->dZ #[m,n,bV x f w,g,r.zip ds,ai] d b ag ai co body)
 (L:∀c h j p q,cs k h gen->co j p q->qT m X ag ai j (cq k.heap<|aI ai) h.heap c p q->i (.error<| .ref c) h):hR m.M B (.call (.ref w) args) i k:=
 s.DK t u C D E F G H (λf g=>K f g _ _ #[v.keep λa b o c=>#[o.slots,cb _ c<|A a b],y] V rfl rfl rfl) L
def g9.DL (s:g9 m w x r body){ds:dp}
 (t:dA B (n+1)) {fr:Option (List b3)} (u:∀p,fr=J p->B.frames=J p) (v:Q (l k.heap X) m.B) (y:∀q∈X,∃o,k.heap.get? q=J o) (A:gJ m x args r X ds k) (C:r.length=ds.length)
 (D:∀c∈ai,c.1∈X/\bH m (l k.heap X) k.heap c.1 c.2) (E:ai.Pairwise λf F=>f.1≠F.1)
 {gen:Bool} (G:∀g h h0,N #[h0,X,fr,gen] #[m,n,bV x g w,h,r.zip ds,ai] body (et m #[h0,X,fr,gen] ai co))
 (i:∀d a b e,cs k a gen->co b e->qD m #[cq k.heap<|aI ai,X,fr,gen] ai b a.heap->bb m (l a.heap<|X++aI b) d e->M (.ok<| .ret d) a):hR m.M B (.call (.ref w) args) M k:=by
 show s.uo t v y A C (h0:=cq k.heap<|aI ai) (λq o i=>ff _ i) (own:=ai) D (λc m=>cU _<|c9 m) E (fr:=fr) (gen:=gen) u λg h m p q r c=>?_;show dr ((G g h _).go _ {k with heap:=m,toks:=p} _ q r) (λg a j=>?_) λc c f=>f;obtain⟨H,d,e,b,j,I,K,L⟩:=j;have c:=i d a b e (cs.up.trans H) I K L;rcases j with rfl|⟨rfl,rfl⟩<;>show c
def y1 {b h':aX}{ag:aZ}(d:Q h' b):Q (cq h' ag) (cq b ag):=λb o a=>by
 by_cases c:b∈ag
 .rw[cU _ c]at a;cases a
 .show cb _ (d _ _<|ff _ a) c
def ec (cF:aE)(ag:List b3):Prop:=∀env∈ag,env.scope.kind≠ .module/\∃ca o dz am,env.frame=J ca/\(ca,i.frame o)∈cF/\o.data=.dict dz am
def ew (cF:aE):Prop:=∀ak∈cF,∃o dz am,ak.2=.frame o/\o.data=.dict dz am
def bH.vm (r:bH k m n w (.frame o)):bH.Is k m n w (.frame o):=r.is
def ec.da (c:ec k m):∀a∈da m,a∈aI k:=λa d=>by
 show aY (vh.mp d) λenv a b=>?_;show ao (c env a) λd e=>?_;show j5 e λc o g h a=>?_;show cd a λc f d=>?_;rw[c]at b;obtain rfl:=fS b;show c9 f
def ec.frames (b:ec k m)(r:∀a∈k,bH w x n a.1 a.2):jq n m:=λenv a=>by
 show ao (b env a) λh0 c=>?_;show j5 c λa o b d e=>?_;show cd e λc f g=>?_;show p ((r _ f).vm) λh e=>?_;show#[h0,a,_,b,d,c,e,g]
def y2 (b:aX)(c d:aZ)(a:T):(cq b<|c++d).get? a=(cq (cq b d) c).get? a:=by
 by_cases e:a∈c
 .mspec cU _ e;show aJ (cU _<|bJ e) V
 .by_cases f:a∈d
  .mspec cU _<|bB f;cases q:(cq (cq b d) c).get? a with
   |none=>rfl|some o=>have:=ff _ q;rw[cU _ f]at this;cases this
  .cases q:b.get? a with
   |some o=>mspec cb _ q (by simp[e,f]);show aJ (cb _ (cb _ q f) e) V|none=>
    cases q1:(cq b<|c++d).get? a with
    |some o=>rw[ff _ q1]at q;cases q
    |none=>
     cases q2:(cq (cq b d) c).get? a with
     |some o=>rw[ff _<|ff _ q2]at q;cases q
     |none=>rfl
def lP.congr {h0 d e f h':aX}(b:lP k X m r w h0 e f h' Z x B M Sf)(c:∀a,d.get? a=h0.get? a):lP k X m r w d e f h' Z x B M Sf:=
 {b with
  keep:=λa o d=>b.keep a o (by rw[<-c];show d)
  new:=λf e=>by rw[c];show b.new f e
  np:=λa o n e d=>b.np a o n (e.imp (λf=>p f λa b=>#[a,by rw[<-c];show b]) id) d}
structure mz (U:aW)(n:Nat)(h0:aX)(fW:aZ)(aT:T)(ai:aE)(pp:aE->ba->cv->Prop)(a:aE->i->Prop):Prop where
 go:∀(aK:cW)(aa:aS)(X:aZ)(ag:List b3)(cF:aE)(bM:bY)(bv:bY),dA aK n->aK.frames=J ag->ec cF ag->ew cF->Q (l aa.heap X) U.B->(∀ac∈X,∃o,aa.heap.get? ac=J o)->
  Q aa.heap h0->Q (l aa.heap X) (l h0 fW)->(∀ak∈cF++ai,ak.1∈X/\bH U (l aa.heap X) aa.heap ak.1 ak.2)->((cF++ai).Pairwise λae bx=>ae.1≠bx.1)->
  (∀aq bS bi af,cs aa bS aj->a bi af->qD U #[cq aa.heap<|aI<|cF++ai,X,ah,aj] (cF++ai) (cF++bi) bS.heap->bb U (l bS.heap<|X++aI (cF++bi)) aq af->bM aq bS)->
  (∀ae bS bi fN a3,cs aa bS aj->pp bi fN a3->qT U X ag (cF++ai) (cF++bi) (cq aa.heap<|aI<|cF++ai) bS.heap ae fN a3->bv (.ref ae) bS)->au U.M aK (dV (.ref aT) []) bM bv aa
abbrev ks (U:aW)(n:Nat)(h0:aX)(fW:aZ)(aT:T)(ai:aE)(co:aE->ba->cv->Prop):Prop:=mz U n h0 fW aT ai co λa a=>False
abbrev on (U:aW)(n:Nat)(h0:aX)(fW:aZ)(aT:T)(ai:aE)(co:aE->i->Prop):Prop:=mz U n h0 fW aT ai (λa a a=>False) co
def mz.dQ (a:mz k n h0 m w x B M)(g:∀o b c,B o b c->Sf o b c)(h:∀o a,M o a->Sg o a):mz k n h0 m w x Sf Sg:=.mk λi j X k l m p q s b t u v w x y A B r=>a.go i j X k l m p q s b t u v w x y A (λc d o a e f=>B c d o a e<|h _ _ f) λe d o b c f i=>r e d o b c f<|g _ _ _ i
def DM {b c:aE}(d:∀a∈b,∃o,k.get? a.1=J o)(e:∀a∈b,∀f∈c,a.1≠f.1):∀a∈b,∃o,(cq k<|aI c).get? a.1=J o:=λa b=>by
 show p (d a b) λo c=>?_;show#[o,cb _ c λd=>?_];show aY (ck d) λc f g=>?_;show e a b c f g.symm
def DN (d:ew k)(e:∀a∈k,bH m r n a.1 a.2)(f:∀a∈k,∀o,n.get? a.1=J o->h'.get? a.1=J o):∀a∈k,bH m w h' a.1 a.2:=λa b=>by
 show eY (d a b) λo g h c i=>?_;show p (((c▸e a b:bH m _ n a.1 (.frame o))).vm) λd g=>?_;mspec c;show .frame (gE:=d)<|f a b _ g
section
variable {U:aW}{n:Nat}{h0:aX}{fW:aZ}{aT:T}{a8:iG}{body:c6}{ai:aE}{Γ:bg}{ae aH:T}{kt:iG}{dX:h}{nu:List cC}{ds gA:dp}
def hY.keep (a:hY U a8 k m Γ)(b:Q h' k)(c:Q r m):hY U a8 h' r Γ:=λd e=>by
 show cm (a d e) λf g h=>?_;show iQ h λa d e i=>?_;show p e λo h=>?_;show ao h λe hd=>?_;show kN f g a d (av o (b _ _ e) hd)<|i.keep c
def ks.of {v:aE->ba->cv->Prop}(G:iL h0 aT a8 body)(Si:U.B.NoLimit)(Sj:hY U a8 h0 (l h0 fW) Γ)
 (Sk:∀(d:T)(X:aZ)(s:cW)(c:aS)(w:bY)(x:bY),dA s (n+1)->cV #[U,n+1,eE a8 d aT,X,Γ,ai] c.heap->(∀j h' y,Q h' c.heap->aO U (l h' X) j ds->au U.M s (dV (.ref aH)<| .ref ae::j) w x {c with heap:=h',toks:=y})->au U.M s (eval body<|eE a8 d aT) w x c)
 (Sl:g9 U aH kt dX nu) (Sm:dX.length=gA.length) (Sn:∀(c:aS)(X:aZ)(j:cv),aO U (l c.heap X) j ds->(∀e∈X,∃o,c.heap.get? e=J o)->gJ U kt #[.ref ae::j,[]] dX X gA c)
 (So:∀d A m k h,qU k h->m.cM=k.cM->m.cB=k.cB->m.bZ=k.bZ->dZ #[U,n,bV kt d aH,A,dX.zip gA,ai] m k h ai v nu):ks U (n+2) h0 fW aT ai v:=.mk λs c X h H w x Sp I B Sq Sr C K Ss M St Su Sv=>by
 show cd (ih.mp St) λSw Sx N=>?_;have O:∀a∈ai,a.1∈X/\bH U (l c.heap X) c.heap a.1 a.2:=λa aH=>M a<|bB aH;have r:∀a∈H,a.1∈X/\bH U (l c.heap X) c.heap a.1 a.2:=λa aH=>M a<|bJ aH;have Sy:jq c.heap h:=B.frames λa aH=>(r a aH).2;have Sz:∀e∈da h,e∈X:=λe f=>by
  show g0 (B.da e f) λa i=>?_;show(r a i).1
 have SA:∀e∈da h,e∉aI ai:=λe f SB=>by
  obtain⟨a,i,rfl⟩:=ck<|B.da e f;show aY (ck SB) λs w b=>?_;show N a i s w b.symm
 show hS<|vl (n:=n+1) (G.keep K) Si Sp Sr C (Sj.keep K Ss) O λd s y P R w x B=>?_;show Sk d (d::X) _ {c with heap:=s,toks:=y} _ _ R w λj S K s SD=>?_;have t:=w.keep s;show eY B λSE SF SG w SH=>?_;have W:=s _ _ w;have Y:Q S c.heap:=x.trans s;have Sf:d∉aI ai:=λD=>by
  obtain⟨a,i,rfl⟩:=ck D;show p (C _ (O a i).1) λo b=>?_;rw[P]at b;cases b
 have SI:jq S (eE a8 d aT::h):=λenv E=>by
  show ay (a5 E) (λSJ=>?_) λE=>?_
  .obtain rfl:=SJ;show#[?_,d,SE,SF,SG,V,W,SH];show(?_:a8.scope.kind≠ .module);mspec G.kind;decide
  .show(Sy.keep λe f o b=>#[o.slots,Y _ _ b]) env E
 have Sg:da (eE a8 d aT::h)=d::da h:=rfl;show hS<|Sl.Ln (ag:=eE a8 d aT::h) (X:=d::X) (ai:=ai) (co:=v) (ds:=gA) R (rX I) SI (λe f=>?_) (λe f=>?_) t.base t.cw (Sn _ _ j SD t.cw) Sm t.G Sx (gen:=aj) (λh A m k j h0 s t Su=>So h A m k _ j h0 s t) λSK v SL SM SN SO SP q=>?_
 .rw[Sg]at f;show(d2 f).elim (λb=>b▸ap) λb=>g<|Sz e b
 .rw[Sg]at f;show(d2 f).elim (λb=>b▸Sf) λb=>SA e b
 obtain⟨SQ,SR,Z,SS,q⟩:=q;show wpAny_leaves_onW (rX I) (L:=d) V q.qS λk j h=>?_;have F:=q.up (X:=X) (vi:=cq c.heap<|aI ai) V (λe f=>g f) (y1 Y) ?_ ?_ j (q.bR.of_slots h) h
 .have Sh:=DM (λa aH=>C _ (r a aH).1) N;have ST:=F.Le (cF:=H) (DN Sq (λa aH=>(r a aH).2) λa aH o b=>F.keep _ _ (by
   show p (Sh a aH) λh u=>?_;have:=ff _ u;rw[b]at this;cases this;show u)) Sh Sw (λe f=>by
   show g0 f λa i=>?_;show F.po _ (r a i).1)
  show Sv SK _ SL SM SN (cs.up.trans<|SO.trans .up) SP #[SQ,SR,Z,SS,ST.congr λe=>by mspec ij;rw[y2]]
 .show(?_:(cq c.heap<|aI ai).get? d=ah);cases b:(cq c.heap<|aI ai).get? d with
  |none=>rfl|some o=>have:=ff _ b;rw[P]at this;cases this
 .intro D;show aY (ck D) λa i b=>?_;have:=q.new a i;have u:a.1=d:=b;rw[u,cb _ W Sf]at this;cases this
def on.Lo {s:aE->i->Prop}(P:iL h0 aT a8 body)(R:U.B.NoLimit)(S:hY U a8 h0 (l h0 fW) Γ)
 (V:∀(e:T)(X:aZ)(m:cW)(c:aS)(t:bY)(u:bY),dA m (n+1)->cV #[U,n+1,eE a8 e aT,X,Γ,ai] c.heap->(∀f h' v,Q h' c.heap->aO U (l h' X) f ds->hR U.M m (.call (.ref aH) #[.ref ae::f,[]]) (λr C=>match r with| .ok (.ret x)=>t x C| .ok _=>False| .error w=>u w C) {c with heap:=h',toks:=v})->au U.M m (eval body<|eE a8 e aT) t u c)
 (W:g9 U aH kt dX nu) (Y:dX.length=gA.length) (Z:∀(c:aS)(X:aZ)(f:cv),aO U (l c.heap X) f ds->(∀h∈X,∃o,c.heap.get? h=J o)->gJ U kt #[.ref ae::f,[]] dX X gA c)
 (Sf:∀e y fW h0,N #[h0,fW,ah,aj] #[U,n,bV kt e aH,y,dX.zip gA,ai] nu (et U #[h0,fW,ah,aj] ai s)):on U (n+2) h0 fW aT ai s:=.mk λm c X Sn j t u Sg So Sp Sh Si C D Sj E Sk A Sl=>by
 show cd (ih.mp Sk) λSm Sn So=>?_;have m:∀a∈ai,a.1∈X/\bH U (l c.heap X) c.heap a.1 a.2:=λa aH=>E a<|bB aH;have B:∀a∈j,a.1∈X/\bH U (l c.heap X) c.heap a.1 a.2:=λa aH=>E a<|bJ aH;show hS<|vl (n:=n+1) (P.keep D) R Sg Si C (S.keep D Sj) m λe t v Sv u E Sk Sp=>?_;show V e (e::X) _ {c with heap:=t,toks:=v} _ _ u E λf F m t D=>?_;have m:=E.keep t;show eY Sp λE P R v S=>?_;have E:=t _ _ v;have G:Q F c.heap:=Sk.trans t;show(W.DL (X:=e::X) (ai:=ai) (co:=s) (ds:=gA) u (fr:=ah) (λSl s=>nomatch s) m.base m.cw (Z _ _ f D m.cw) Y m.G Sn (gen:=aj) (λf y h0=>Sf f y _ h0) λx H q Sq Sr Ss k St=>?_);have I:=DM (λa aH=>C _ (B a aH).1) So;have K:Q H.heap (cq c.heap<|aI ai):=(y1 G).trans k.keep;have L:∀a∈q,(cq c.heap<|aI ai).get? a.1=ah:=λa b=>by
  cases d:(cq c.heap<|aI ai).get? a.1 with
  |none=>rfl|some o=>have:=y1 (ag:=aI ai) G _ _ d;have f:(cq F<|aI ai).get? a.1=ah:=k.new a b;rw[f]at this;cases this
 have M:∀h∈X++aI (j++q),h∈(e::X)++aI q:=λh e=>by
  show cL e (λaH=>?_) λaH=>?_
  .show bJ<|g aH
  .rw[ij]at aH;show cL aH (λaH=>?_) λaH=>?_
   .show g0 aH λa b=>?_;show bJ<|g (B a b).1
   .show bB aH
 show A x H q Sq (cs.up.trans Sr) Ss #[λh o d=>K _ _ ?_,λa b=>?_,λa b=>?_,ih.mpr<|cH Sm k.apart<|λa b A Su d=>?_,λa b=>?_]<|St.keep<|l.sub M
 .rw[show(cq c.heap<|aI<|j++ai).get? h=_ from by mspec ij;rw[y2]]at d;show ff _ d
 .show cL b (λb=>?_) λb=>?_
  .show DN Sh (λa aH=>(B a aH).2) (λa aH o d=>K _ _ (by
    show p (I a aH) λe O=>?_;have:=ff _ O;rw[d]at this;cases this;show O)) a b
  .show(k.hF a b).keep (l.sub M)<|Q.bf _
 .show(?_:(cq c.heap<|aI<|j++ai).get? a.1=ah);mspec ij;rw[y2];show cL b (λb=>?_) λb=>?_
  .show cU _<|c9 b
  .cases d:(cq (cq c.heap<|aI ai)<|aI j).get? a.1 with
   |none=>rfl|some o=>have:=ff _ d;rw[L a b]at this;cases this
 .show p (I a b) λo w=>?_;rw[d,L A Su]at w;cases w
 .mspec ij;show cL b (λb=>?_) λb=>?_
  .show bJ<|c9 b
  .show bB<|k.all a b
end
def Lp:lz (.type "ValueError") "__class__"=pure (J<| .builtin "object.__class__"):=by rw[kd];mspec ke;room
def Lq:uC (.type "ValueError") (.type<|".".intercalate ("object.__class__".cutAt '.').dropLast)=pure z:=by
 mspec F.owner_object_class;rw[lF];room
section
variable {cZ:i5}{cl:hu}{aK:cW}{bv:bY}{an:aX}{bu:Array GenState}{af:Drawn}{a2:Nat}{io:OsState}{ac:T}{o:eg}
def Lr (a:an.get? ac=J o)(b:o.cls=.type "ValueError")(c:k (.ok<| .ret<| .type "ValueError") #[an,bu,af,a2,io]):
 hR (b2 cZ cl) aK (.call (.builtin "getset_descriptor.__get__") #[[.builtin "object.__class__",.ref ac,.type "ValueError"],[]]) k #[an,bu,af,a2,io]:=by
 have c:(#[an,bu,af,a2,io]:aS).TypeIs (.ref ac) "ValueError":=av _ a b;have a:=Lq;show sa DO.plain F.entry_gs_get<|DO.check _ _ _ _ _ _ _ _ DP (F.args_gs_get _ _ _) ?_
 repeat(any_goals (first|assumption|wp_step))
 show#[Cs _ (by decide+kernel),pc F.entry_object_class ?_]
 repeat(any_goals (first|assumption|wp_step))
def Ls (a:an.get? ac=J o)(b:o.cls=.type "ValueError")(c:k (.done (.ret<| .type "ValueError")) #[an,bu,af,a2,io]):
 au (b2 cZ cl) aK (Builtin.«object.__getattribute__» #[[.ref ac,.str "__class__" m],[]]) k bv #[an,bu,af,a2,io]:=by
 have c:(#[an,bu,af,a2,io]:aS).TypeIs (.ref ac) "ValueError":=av _ a b;have c:(#[an,bu,af,a2,io]:aS).TypeIs (.builtin "object.__class__") "getset_descriptor":=DP;have c:=Lp;have c:=DP;have c:=DO.lookup;have c:=F.slot_gs_set.lookup
 repeat(any_goals (first|assumption|wp_step))
 show Lr a b ?_
 repeat(any_goals (first|assumption|wp_step))
def Lu (a:an.get? ac=J o)(b:o.cls=.type "ValueError")(c:k (.ok<| .ret<| .type "ValueError") #[an,bu,af,a2,io]):
 hR (b2 cZ cl) aK (.call (.builtin "BaseException.__getattribute__") #[[.ref ac,.str "__class__" m],[]]) k #[an,bu,af,a2,io]:=
 sa y3.ga.plain F.entry_bexc_ga (y3.ga.check _ _ _ _ _ _ _ _ (show(#[an,bu,af,a2,io]:aS).TypeIs (.ref ac) "ValueError" from(av _ a b)) (F.args_bexc_ga _ _)<|Ls a b c)
def Lv (a:an.get? ac=J o)(b:o.cls=.type "ValueError")(c:k (.type "ValueError") #[an,bu,af,a2,io]):au (b2 cZ cl) aK (getAttrBy (.ref ac) (.str "__class__" m) aj) k bv #[an,bu,af,a2,io]:=by
 have c:(#[an,bu,af,a2,io]:aS).TypeIs (.ref ac) "ValueError":=av _ a b;have c:=y3.ga.lookup;have c:=y3.ga.bind<| .ref ac
 repeat(any_goals (first|assumption|wp_step))
 show Lu a b ?_
 repeat(any_goals (first|assumption|wp_step))
def Lw (a:an.get? ac=J o)(b:o.cls=.type "ValueError")(c:k (J<| .type "ValueError") #[an,bu,af,a2+1,io]):au (b2 cZ cl) aK (getAttr? (.ref ac) "__class__") k bv #[an,bu,af,a2,io]:=by
 unfold getAttr? getAttrBy?
 repeat(any_goals (first|assumption|with_reducible apply Lv a b|wp_step))
def Lx {b:ht}{c:T}(a:(clsIn b c).isSome=z):∃o,b.lookup c=J o/\∃d,o.data=.cls d:=by
 delta clsIn at a
 cases q:b.lookup c with
 |none=>rw[q]at a;show(pk a).elim|some o=>
  rw[q]at a;obtain⟨b,c,af,d⟩:=o;cases af<;>first|show#[_,rfl,_,rfl]|show(pk a).elim
def Ly {a:ht}(X:a.In an)(d:an.get? ac=J o)(e:o.cls=.type "ValueError")(h:(clsIn a k).isSome=z)(i:sg a (.ref k)=J (.type "type"))(j:instIn a (.ref k) (.type "type")=J z)
 (l:m (.done (.ret<| .bool aj)) #[an,bu,af,a2+1,io]):au (b2 cZ cl) aK (Builtin.«isinstance.nested» #[[.ref ac,.ref k,.int n r],[]]) m bv #[an,bu,af,a2,io]:=by
 have f:∀{a:p1},uL a an (qr<| .ref ac) (.type "ValueError"):=λ{a} aK m bv q n b=>DQ (T:="ValueError") (av _ (n _ _ d) e) b;have a:=looks_instIn (M:=b2 cZ cl) X j;have g:uL (b2 cZ cl) an (uC (.type "ValueError")<| .ref k) aj:=looks_subIn X (by
  show(fastBuiltinMro "ValueError").map (·.contains (.ref k))=J aj;mspec(show fastBuiltinMro "ValueError"=J [.type "ValueError",.type "Exception",.type "BaseException",.type "object"] by room);rfl)
 unfold Builtin.«isinstance.nested»;show ar<|f.at ?_;mspec if_neg (by intro b;cases eq_of_beq b);show ar<|(looks_typeIn (M:=b2 cZ cl) X i).at ?_;mspec if_pos (by decide)
 k_delta "plainIsInstance"
 unfold isType
 repeat lk
 show aY (Lx h) λi a b=>?_;show p b λh hd=>?_;show nd_load (X _ _ a)<|nd_pure<|bc ?_;mspec hd;show DR c ?_;show ar<|(show uL (b2 cZ cl) an (isInstance (.ref ac)<| .ref k) aj from f.andThen g).at ?_;show DR c ?_;show ar<|Lw d e ?_;show ar<|bc ?_;show DR c ?_;show ar<|r8 ?_;show g.at ?_;show bc l
def Lz {a:aS}{aw:ht}(X:aw.In a.heap)(d:a.heap.get? ac=J o)(e:o.cls=.type "ValueError")(f:(clsIn aw k).isSome=z)(g:sg aw (.ref k)=J (.type "type"))(h:instIn aw (.ref k) (.type "type")=J z)
 (i:m (.bool aj) {a with toks:=a.toks+1}):au (b2 cZ cl) aK (dV (.builtin "isinstance") [.ref ac,.ref k]) m bv a:=
 call_isinstance (S:=λb j a=>(aw.In a.heap/\a.heap.get? ac=J o)/\j (.ok<| .ret<| .bool aj) {a with toks:=a.toks+1}) (λb b b b a c=>by
  obtain⟨an,bu,af,a2,io⟩:=a;show isinstance_outer (Ly c.1.1 c.1.2 e f g h c.2) (by intro l;cases l)) #[#[X,d],i]
end
section
variable {U:aW}
def LA (b:aR U):eB U 245 (bk 245<|a U) ["deed"] (cf 245<|a U):=
 b.fn V rfl D V rfl (kY λd=>by room)
  (fi V hc) (by decide) (show([]:h).Nodup by decide) c c V
def sF (aH:v)(fN:ba)(a3:cv):Prop:=(fN=.type "ValueError"/\∃a9,a3=[.str aH a9])\/(fN=.ref 110/\aH="ring")
def LB (a:aR U)(f:sF w m B)(g:Q k.heap U.B)(c:k.heap.get? n=J o)(d:o.cls=m)(e:r z k):au M Sf (excMatches (.ref n)<| .type "ValueError") r Sg k:=by
 rcases f with⟨rfl,_⟩|⟨rfl,_⟩
 .show wpAny_excMatches_type (X:="ValueError") (b:=z) (av _ c d) LC LD F.self_ValueError e
 .show hy a.kb λj l m n o f=>?_;show hy ((own_of_in (bmB:=[.type "ValueError",.type "Exception",.type "BaseException",.type "object"]) (newId:="ValueError.__new__") a.bD (topRead_of f) (x:="CycleError") (C:=110) (by room)<|by room).keeps g).obj λf j l m n a=>?_;show hy a λg j l m n f=>?_;show hy f λg j l m n a=>?_;show cm a λg j f=>?_;show iQ f λh a g i=>?_;obtain⟨a,f,g,j,l⟩:=k;show wpAny_excMatches_sub_type h c d LC LD ?_;mspec i.hasType (b:=z) (by decide+kernel);show e
def u.LE (a:u k m w)(e:h'.Ns m.I.locals x)(b:h9 m.I.locals w h'):u k #[m.d,m.O,m.I,m.X,[],m.G] h':=by
 have d:cO [m.I.locals] w h':=λc o n k=>b.extBut c o (by simpa using n) k;show a.change a.cn.1 (by show eY e λo b b k b=>?_;show dn o k) a.new.1 d #[_,e] (λc b=>?_) (λc b=>nomatch b) (λc b=>?_) a.cN a.dt
 .show gh (a.cells c b) λe o k hd=>?_;show ix e o (d _ _ (by simpa using a.ft c b) k) hd
 .show ao (a.G c b) λe r=>?_;show#[e,r.lw (l.fK d<|by simpa using a.cn.1) λo k=>d _ _ (by simpa using(a.cN c b).2.1) k]
end
section
variable {U:aW}
def aR.vn (f:aR U){Y:be}{h:p1}{i:cW}{d:aS}{b:v}{aq:ba}{pos:dy}{g:bY}{j:bY}(k:Y.d=U)(e:cV Y d.heap)(l:nsIn (a U) iH b=J ah)(m:bootBuiltins b=J aq)(n:b≠"__name__")(o:Y.I.kindOf b=J .globalImplicit)(p:Y.I.globals=iH)(q:Y.I.builtins=xN)(hd:(b==("__debug__":v))=aj)(r:g aq d):au h i (eval (.Name b pos) Y.I) g j d:=by
 show hy f.kb λd g h s t c=>?_;subst k;show xb e.kind o (HL (mg:=s) (mb:=t) (by mspec p;show c.g.keeps e.fq) (mg_none_of f.bD c.g l) (by mspec q;show c.b.keeps e.fq) ((c.builtins b n).trans m) r) hd
def aR.LF (d:aR U){Y:be}{h:p1}{i:cW}{c:aS}{b:v}{aq:ba}{pos:dy}{e:bY}{j:bY}(k:Y.d=U)(f:cV Y c.heap)(l:nsIn (a U) iH b=J (J aq))(m:Y.I.kindOf b=J .globalImplicit)(n:Y.I.globals=iH)(hd:(b==("__debug__":v))=aj)(o:e aq c):au h i (eval (.Name b pos) Y.I) e j c:=by
 show hy d.kb λb c e p h g=>?_;subst k;show xb f.kind m (loadGlobal_global (mg:=p) (n▸g.g.keeps f.fq) (mg_of d.bD g.g l) o) hd
def DS (d:cV Y k.heap)(f:(m,n)∈Y.q)(hd:(m==("__debug__":v))=aj)(h:(m==("__classdict__":v))=aj)(e:∀a,bb Y.d (l k.heap Y.X) a n->o a k):au w x (eval (.Name m pos) Y.I) o B k:=by
 show aY (d.d8 _ f) λa b r=>?_;show w7 ?_ hd;rcases b with⟨c,f,i,b⟩|⟨j,c|c,b,g⟩
 .show tS d.kind c i b<|e a r
 .show A9 d.kind c b g<|e a r
 .show Ba d.kind c b g (e a r) h
def DT (a:cV Y m.heap)(b:(k,.val a9)∈Y.q)(hd:(k==("__debug__":v))=aj)(c:(k==("__classdict__":v))=aj)(d:n a9 m):au o w (eval (.Name k pos) Y.I) n x m:=
 DS a b hd c λe r=>by
  obtain rfl:=r.is;show d
def DU (d:∀a:x->aS->Prop,(∀b c,k b c->a b c)->au m n o a r w):au m n o k r w:=d k λa a b=>b
def DV (d:∀a:ba->aS->Prop,(∀b c,k b c->a b c)->au m n o r a w):au m n o r k w:=d k λa a b=>b
def N.de (g:∀(b:cW)(a:aS)(c:bY),je b k.O k.I m.cR->u m k a.heap->au k.d.M b (execs n k.I) (λd e=>∃h' f,e={a with heap:=h',toks:=f}/\o d h') c a):N m k n o:=
 .mk λb a c h i=>dr (g b a c h i) (λd e j=>gh j λh' f a r=>#[by mspec a;show .up,by mspec a;show r]) λa a b=>b
def LG (Sf:aR U)(n:Nat)(j:T)(X:aZ)(h0:aX)(A:aZ)(B:List b3)(b r:aE)(v:T)(SR:aE->ba->cv->Prop)(SS Sq:aE->i->Prop)(S7:mz U n h0 A v r SR SS)(S8:∃o S9,h0.get? v=J o/\o.data=.func S9)
 (Ta:∀d Sr Ss,SR d Sr Ss->∃Sm,sF Sm Sr Ss/\Sq d (.str Sm)) (Tb:∀d E,SS d E->Sq d (.list [E])) (Sx:ec b B) (ST:ew b) (Tc:∀k∈X,k∈A\/h0.get? k=ah):
 N #[h0,A,J B,aj] #[U,n,bV (bk 245<|a U) j 245,X,[("deed",.val (.ref v))],b++r] (cf 245<|a U) (et U #[h0,A,J B,aj] (b++r) λd E=>∃Sn,d=b++Sn/\Sq Sn E):=.de λSy C Td St Sg=>by
 dsimp only;show(DU λSU SV=>?_:);have SW:=St.o8 B V;show(mn (wpAny_Try_except ?_):);show mn<|xD ?_;have Te:Q (l C.heap X) (l h0 A):=λk o q=>by
  have SR:=l.of _ _ q;show cb _ (Sg.de _ _ SR) λe=>?_;show ay (Tc k e) (λw=>?_) λw=>?_
  .show b6 (cU _ w) q
  .show b6 w SR
 show tT<|kQ (jb<|(R.name (af:=.val<| .ref v) (IL) (f V)<|f V).go Sy C _ _ St.todA Sg.tocV λM Tf Tg Sz Th=>?_) V;obtain rfl:=Th.is;have x:=Sg.keep Sz;show gh S8 λS9 Tc SR SS=>?_;show callWith_meth0 SS (x.de _ _ SR) ?_;show oS x.ns λG H Su Sv Sh Si G=>?_;have SA:∀h∈b++r,h.1≠j:=λh e=>(x.cN h e).2.1;have Ti:ec ((j,.frame H)::b) (bV (bk 245<|a U) j 245::B):=λenv SB=>by
  rcases a5 SB with rfl|SB
  .show#[by mspec Sg.kind;decide,j,H,Su,Sv,V,ap,Si]
  .show ao (Sx env SB) λSR O=>?_;show j5 O λSB SS S8 S9 Tc=>?_;show cd Tc λTh Tj Tk=>?_;show#[SR,SB,SS,S8,S9,Th,g Tj,Tk]
 have Tl:ew ((j,.frame H)::b):=λh S=>by
  show ay (a5 S) (λSD=>?_) λS=>?_
  .obtain rfl:=SD;show j6 H Su Sv V Si
  .show ST h S
 show S7.go Sy {C with heap:=Tf,toks:=Tg} X _ ((j,.frame H)::b) _ _ St.todA SW Ti Tl x.base x.cw (Sg.de.trans Sz) (Te.trans<|l.keep _ Sz) (λh e=>?_) (gq.mpr #[λh e q=>SA h e q.symm,x.dt]) (λM SE d E SF SG SX Tm=>?_) λy SE d Sr Ss SF SG I=>?_
 .show ay (a5 e) (λSD=>?_) λe=>?_
  .obtain rfl:=SD;show#[x.cn.1,.frame (gE:=H.slots) Sh]
  .show x.G h e
 .obtain⟨h',Sj,rfl⟩:∃h' Sj,SE={C with heap:=h',toks:=Sj}:=dN _ _ SF.eq;show ly #[fR D,?_];have Sk:=u.uJ (Y:=#[U,n,bV (bk 245<|a U) j 245,X,[("deed",.val (.ref v))],b++r]) (ai:=b++r) (keep:=[]) (bi:=b++d) x (by rw[fk]) Sh SX;rw[fk]at Sk;have Sz:∀k∈A++aI (b++d),k∈X++aI (b++d):=λk e=>by
   show ay (jz e) (λe=>?_) λe=>?_
   .show bJ<|Sg.sub k e
   .show bB e
  have SB:∀k∈A++aI (b++d),k∈X++aI (((j,.frame H)::b)++d):=λk e=>by
   show ay (jz<|Sz k e) (λe=>?_) λe=>?_
   .show bJ e
   .show bB<|g e
  have SD:∀o:eg,et U #[h0,A,J B,aj] (b++r) (λd E=>∃Sn,d=b++Sn/\Sq Sn E) (.ret<| .ref h'.objs.size) (h'.push {cls:=.type "list",data:=.seq [M].toArray 0}):=λG=>by
   have Sg:Q (h'.push {cls:=.type "list",data:=.seq [M].toArray 0}) h':=Q.push _ _;show#[_,.list [E],b++d,.inl V,(av d V<|Tb _ _ SG),?_,.list #[0,cb _ (dM _ c) λe=>?_]<| .cons ((Tm.keep<|l.keep _ Sg).keep<|l.sub SB) .nil]
   .show(Sk.keep Sg).pe (ai:=b++r) (bi:=b++d) (λh e=>(d2<|SX.all h<|g e).elim (λw=>absurd w<|SA h e) id)<|eJ _
   .show p (Sk.cw _<|Sz _ e) λo w=>?_;show b6 d3 w
  show SV _ _<|ix _ _ V<|SD default
 obtain⟨h',Sj,rfl⟩:∃h' Sj,SE={C with heap:=h',toks:=Sj}:=dN _ _ SF.eq;show p (Ta _ _ _ SG) λSm O=>?_;show ao O λSY Tn=>?_;obtain⟨E,To,Z,Tp,I⟩:=I;dsimp only at I;show wpAny_looks_onW SW (L:=j) V I.qS λSn E Sg=>?_;show wpAny_landsW E λSZ SH Sn=>?_;show aY SH.there λE Tq Tr=>?_;have SI:h'.UpToSlots SZ:=Sg.trans Sn;have S:(b++r).Perm ((b++r)++[]):=by rw[fk]
 have Sg:∀h∈b++d,h.1∈da B->∃o So W,h.2=.frame o/\o.data=.dict So W:=λh e w=>by
  show ay (jz e) (λe=>?_) λe=>?_
  .show ST h e
  .show aY (ck<|Sx.da _ w) λE Sn q=>?_;show absurd q<|(ih.mp I.apart).2.2 E (g Sn) h e
 have Ts:∀h∈b++r,h.1∈aI (b++d):=λh e=>(d2<|I.all h<|g e).elim (λw=>absurd w<|SA h e) id;have S0:∀E,To.StaysIn E->h'.UpToSlots E->u #[h0,A,J B,aj] #[U,n,bV (bk 245<|a U) j 245,X++aI (b++d),[("deed",.val (.ref v))],b++d] E:=λE A Sn=>by
  have:=u.Lf (Y:=#[U,n,bV (bk 245<|a U) j 245,X,[("deed",.val (.ref v))],b++r]) (ai:=b++r) (keep:=[]) (bi:=b++d) (ag:=B) x V Sh (dN Su Sv Si) S Sg (λk e=>by show ij▸bJ (Sx.da k e)) I A Sn;rw[fk]at this;show this
 have S1:=S0 SZ SH.1 SI;show wpAny_handleBy_cons (codeAny_handlers_test<|Sf.vn (aq:=.type "ValueError") (Y:=#[U,n,bV (bk 245<|a U) j 245,X++aI (b++d),[("deed",.val (.ref v))],b++d]) V S1.tocV (by room) (f D) (f D) V rfl rfl (f D) ?_) (by intro q;cases q);show LB Sf SY S1.tocV.fq Tq Tr ?_;show codeAny_handlers_suite_as ?_;show lands_againW SH λSJ e S2=>?_;have Sk:=S0 SJ e.1<|SI.trans S2;show l5 e.first λSw Tt SK Tu SL Tv=>?_;show u.gn (Y:=#[U,n,bV (bk 245<|a U) j 245,X++aI (b++d),[("deed",.val (.ref v))],b++d]) (aa:={C with heap:=SJ,toks:=Sj}) (ae:="error") (aq:=.ref y) (af:=.val<| .ref y) Sk (.inl V) (.val _) λSp x k A e S3 SM=>?_;show DV λx G=>?_;have Tw:j=k:=by
  show ay e (λw=>?_) λe=>?_
  .show w.symm
  .show p e λh O=>?_;show ao O λS G=>?_;show nomatch S
 subst Tw;obtain⟨H,Su,Sv,Sh,Si⟩:∃o So W,SJ.get? j=J o/\o.data=.dict So W:=by
  show oS Sk.ns λG o So e h hd G=>?_;show j6 o So e h hd
 have SN:Sp.get? y=J Sw:=S3.extBut _ _ (λq=>by rw[q,Sh]at SK;cases SK;rw[Si]at SL;cases SL) SK;have Tx:Sp.TupAt Tp Ss:=by
  show f3 (I.bR.of_slots<|SI.trans S2) λo W SO Ty SP=>?_;show f4 o W (S3.extBut _ _ (λq=>by rw[q,Sh]at SO;cases SO;rw[Si]at SP;cases SP) SO) Ty SP
 have Sl:=SM.tocV;have S4:∀(e:fh)(pos:dy)(M:ba)(w:cW)(x:bY),(∃h,M=.str Sm h)->au U.M w (do bindName (bV (bk 245<|a U) j 245) "error" .none;unbindBehindTheSuite (bV (bk 245<|a U) j 245) "error" pos) (λG A=>SU (.ret M) A) x {C with heap:=Sp,toks:=e}:=λe pos M w x A=>by
  show p SM.ns λw x=>?_;show wpAny_nameGoes (s:={C with heap:=Sp,toks:=e}) (m:=w) V x c λe H B E=>?_;show p A λh O=>?_;show bw O ?_;show SV _ _ #[e,_,V,_,.str Sm,b++d,.inl V,(av d V Tn),?_,.str _ _];show(u.LE SM B E).pe (ai:=b++r) (bi:=b++d) Ts<|eJ _
 show mn<|xD ?_;show DV λe G=>DU λe S5=>?_;show wpAny_IfExp (HG<|jb<|Sf.vn (Y:=#[U,n,bV (bk 245<|a U) j 245,X++aI (b++d),bl "error" (.val<| .ref y) [("deed",.val (.ref v))],b++d]) (aq:=.builtin "isinstance") V Sl (by room) (f D) (f D) V rfl rfl (f D) ?_);show mh (first:=[]) (kQ (DT (Y:=#[U,n,bV (bk 245<|a U) j 245,X++aI (b++d),bl "error" (.val<| .ref y) [("deed",.val (.ref v))],b++d]) (a9:=.ref y) Sl xX (f D) (f D) ?_) V) V c;show kQ (Sf.LF (Y:=#[U,n,bV (bk 245<|a U) j 245,X++aI (b++d),bl "error" (.val<| .ref y) [("deed",.val (.ref v))],b++d]) (aq:=.ref 110) V Sl (by room) V rfl (f D) ?_) V;show ly ?_;have S6:(a U).In Sp:=λk o q=>Sl.fq _ _<|Sf.bD k o q;have SQ:Sw.cls=Sr:=Tu;rcases SY with⟨rfl,h,rfl⟩|⟨rfl,rfl⟩
 .show Lz (aw:=a U) (o:=Sw) S6 SN SQ (by room) (by room) (by room)<|ma ?_;mspec if_neg<|f V;show jb (Sf.vn (Y:=#[U,n,bV (bk 245<|a U) j 245,X++aI (b++d),bl "error" (.val<| .ref y) [("deed",.val (.ref v))],b++d]) (aq:=.type "str") V Sl (by room) (f D) (f D) V rfl rfl (f D) ?_);show HU (kQ (DT (Y:=#[U,n,bV (bk 245<|a U) j 245,X++aI (b++d),bl "error" (.val<| .ref y) [("deed",.val (.ref v))],b++d]) (a9:=.ref y) Sl xX (f D) (f D) ?_) V) V c;show ly ?_;show P.str_of_exc_one F.excStr_ValueError (by show St.tR 2<|f D) (kN Sw Tt SN SQ SL Tv) Tx ?_;show S5 _ _<|S4 _ _ _ _ _ #[_,V]
 .show isi_call (K:=a U) (t:=.ref 110) S6 (λb Sy SU Td C W q=>?_) (by room) (by intro q;cases q)<|ma ?_
  .show wpAny_typeOf_ref (W _ _ SN)<|SQ▸q
  mspec if_pos<|f V;show oV<|S5 _ _<|S4 _ _ _ _ _ #[_,V]
end
section
variable {U:aW}
structure LH (U:aW)(a8:iG)(body:List cC):Prop where
 fn:eB U 245 a8 ["deed"] body
 run:∀(n:Nat)(ca:T)(X:aZ)(h0:aX)(fW:aZ)(a:List b3)(cF ai:aE)(aT:T)(pp:aE->ba->cv->Prop)(c b:aE->i->Prop),mz U n h0 fW aT ai pp c->(∃o a8,h0.get? aT=J o/\o.data=.func a8)->(∀bi fN a3,pp bi fN a3->∃aH,sF aH fN a3/\b bi (.str aH))->(∀bi af,c bi af->b bi (.list [af]))->ec cF a->ew cF->(∀ac∈X,ac∈fW\/h0.get? ac=ah)->
  N #[h0,fW,J a,aj] #[U,n,bV a8 ca 245,X,[("deed",.val (.ref aT))],cF++ai] body (et U #[h0,fW,J a,aj] (cF++ai) λbi af=>∃a,bi=cF++a/\b a af)
def LI (b:aR U):∃c body,LH U c body:=#[bk 245<|a U,cf 245<|a U,LA b,LG b]
end
def DW:∀{a:cv},p4 a->lv k (a++[d4 m,d4 n,o])=(lv k a).or (if(m==k.line&&n==k.col)=z then J o else ah):=by
 intro a b
 fun_induction p4 a with
 |case1=>
  simp only[nv,lv,d4,DX]
 |case2 d e f g h i c=>
  simp only[qN,lv];split
  .rfl
  .show c b
 |case3 a c d=>show b.elim
def DY:∀{a:cv},p4 a->p4 (a++[d4 k,d4 m,n]):=by
 intro a b
 fun_induction p4 a with
 |case1=>show trivial|case2 d e f g h i c=>show c b|case3 a c d=>show b.elim
section
variable {U:aW}
def bH.y4 (r:bH U k m n (.tab o)):bH.Is U k m n (.tab o):=r.is
def aR.y5 (Sg:aR U)(Sh:Y.d=U)(g:u H Y aa.heap)(Si:Y.G=Sj++(k,.tab x)::Sk)
 (Sl:(pos,Y.I.qual++"<lambda>")∈x) (Sm:∀a∈x,(pos.line==a.1.line&&pos.col==a.1.col)=z->a.2=Y.I.qual++"<lambda>") (I:Y.I.code=.ref M) (Sn:di U.B M k) (So:y6 r Y.I=([],[])) (K:iT w Y.I=pure B) (L:Y.I.globals=iH)
 (N:∀C h Sp d h' t,u H Y h'->(∀b o,b≠k->aa.heap.get? b=J o->h'.get? b=J o)->aa.heap.get? C=ah->h'.get? C=J {cls:=.type "function",data:=.func<|oo "<lambda>" (Y.I.qual++"<lambda>") r body w B Sp h d}->(l h' Y.X).CodeRec h (Y.I.qual++"<lambda>")->Sq (.ref C) {aa with heap:=h',toks:=t}):
 au SP SQ (eval (.Lambda r body w pos) Y.I) Sq SR aa:=by
 obtain⟨Sr,Ss,env,X,Γ,own⟩:=Y;dsimp only at*;subst Sh;subst Si;show hy Sg.kb λC Sh Si f Sp D=>?_;show ao (g.G _ (show(k,i.tab x)∈(Sj++(k,i.tab x)::Sk:aE)from by simp)) λSt C=>?_;show g2 C.y4 λSu v y O=>?_;have E:aa.heap.Ns iH f:=D.g.keeps g.fq;have P:di aa.heap M k:=Sn.keeps g.fq;have Sv:iH≠k:=λa=>by
  show l4 E λo Sw Sx H hd R=>?_;replace H:=a▸H;replace H:=v▸H;cases H;cases hd
 show tK D.bmain λF Sy Sz SA q S SB A=>?_;have s:=g.fq _ _ q;have SD:F≠k:=λa=>by
  replace s:=a▸s;replace s:=v▸s;cases s;cases S
 have SE:F≠iH:=λa=>by
  show l4 D.g λo Sw Sx H hd R=>?_;replace q:=a▸q;replace q:=H▸q;cases q;replace A:=hd▸A;cases A
 have T:aa.heap.BuiltinsAt f k:=#[F,Sy,Sz,SA,SE,SD,s,S,SB,A];show kla_eval So ?_;show ay (O _ Sl) (λq=>?_) λSF=>?_
 .show kla_makeFunction (mg:=f) K L E I P v y q Sv T λe d h' t s W SG A SH=>?_;have G:cO [k] aa.heap (h'.push<|kla_obj "<lambda>" (env.qual++"<lambda>") r body w B ((f "__name__").getD .none) e d):=λb o n a=>gj _ (s b o (by simpa using n) a);have Z:(l (h'.push<|kla_obj "<lambda>" (env.qual++"<lambda>") r body w B ((f "__name__").getD .none) e d) X).CodeRec (.ref e) (env.qual++"<lambda>"):=by
   show w1 A λk SI SJ SK SL SM hd SN=>?_;cases SL;show w2 e SI SJ SK V (cb _ (gj _ SM) λk=>?_) hd SN;show p (g.cw _ k) λo j=>?_;replace j:=(qg W)▸j;cases j
  have k:=u.qk (Y:=#[Sr,Ss,env,X,Γ,[]]) (ez:=.tab x) g G (.tab (fp:=Su++(aRR [d4 pos.line,d4 pos.col,.ref e])) (gj _ SH) (by mspec LJ;show DY y) λa Sf=>?_)
  .show N h'.objs.size (.ref e) _ d _ t k (λb o n a=>G b o (by simpa using n) a) ?_ (dM _ c) Z;show qg<|iC<|tx W SG
  .mspec LJ;mspec show((aRR [d4 pos.line,d4 pos.col,na e]):Array ba).toList=[d4 pos.line,d4 pos.col,.ref e]from rfl;mspec DW y
   rcases O _ Sf with j|⟨h,j,SO⟩
   .mspec j;mspec DX;by_cases m:((pos.line:Int)==a.1.line&&(pos.col:Int)==a.1.col)=z
    .mspec if_pos m;show .inr<|av _ V ?_;mspec Sm a Sf (by simp at m ⊢;show#[c1 ((aA<|jn m.1))<|(aA (jn m.1).symm),c1 ((aA<|jn m.2))<|(aA (jn m.2).symm)]);show Z
    .mspec if_neg m;show .inl V
   .mspec j;mspec LK;show .inr (av h V<|SO.keeps (show Q (l (h'.push<|kla_obj "<lambda>" (env.qual++"<lambda>") r body w B ((f "__name__").getD .none) e d) X) (l aa.heap X)from l.fK G<|by simpa using St))
 .show p SF λh e=>?_;show ao e λj k=>?_;show kla_makeFunctionHit (mg:=f) K L E I P v y j T λd h' t m q=>?_;have e:Q (h'.push {cls:=.type "function",data:=.func<|oo "<lambda>" (env.qual++"<lambda>") r body w B ((f "__name__").getD .none) h d}) aa.heap:=λb o a=>gj _<|m b o a;show N h'.objs.size h _ d _ t (g.keep e) (λb o R a=>e b o a) (qg q) (dM _ c)<|k.keeps<|l.keep _ e
end
section
variable {U:aW}
def y7 (a:jN)(nw:List (v×T))(env:b3)(Γ lQ:bg):Prop:=∀ak∈lQ,ak∈Γ/\a.names.lookup ak.1=J .free/\env.kindOf ak.1=J .cell/\∃b,nw.lookup ak.1=J b/\env.cells.lookup ak.1=J b
def DZ (d:u M k m)(t:y7 a8.scope a8.closure k.I k.q w)(n:∀a∈ag,a=k.I.locals\/∃e∈k.G,e.1=a):hY k.d a8 (cq m ag) (l (cq m ag) k.X) w:=λe m=>by
 show iQ (t e m) λv x y g=>?_;show p g λh m=>?_;show ao m λA q=>?_;show aY (d.d8 e v) λB C D=>?_;have r:(e.1,h)∈k.I.cells:=mem_of_lookup q;have E:∀a∈ag,a∈k.X:=λa c=>by
  show ay (n a c) (λi=>?_) λf=>?_
  .obtain rfl:=i;show d.cn.1
  .obtain⟨b,j,rfl⟩:=f;show(d.G b j).1
 show ay C (λi=>?_) λf=>?_
 .obtain⟨a,_⟩:=i;rw[y]at a;cases a
 .obtain⟨e,a,s,o,F,hd⟩:=f;rw[q]at s;obtain rfl:=fS s;show kN h B x A (av o (cb _ F λc=>?_) hd)<|D.keep λa o b=>?_
  .show ay (n h c) (λe=>?_) λf=>?_
   .show d.ft _ r e
   .show p f λb g=>?_;show ao g λj e=>?_;show(d.cN b j).2.2 _ r e
  .show cb _ (cb _ (l.of _ _ b) λc=>?_) λc=>?_
   .rw[cU _<|E a c]at b;cases b
   .rw[cU _ c]at b;cases b
def LM (Sj:aR U){b:be}{x:aP}{M:cW}{aa:aS}{N:bY}{Sk:bY}{n:Nat}{r:List b3}{c f keep:aE}{j:T}{D:aE->ba->cv->Prop}{E y:aE->i->Prop}(O:b.d=U)(P:b.O=n+1)(Sl:x.cR=J r)(Q:je M b.O b.I x.cR)(R:b.I.frame=J b.I.locals)(e:u x b aa.heap)(F:b.G.Perm ((c++f)++keep))(Sm:ec c r)(Sn:ew c)
 (So:∃o s,aa.heap.get? j=J o/\o.data=.func s) (Sp:j∉b.X) (Sq:mz U n (cq aa.heap<|b.I.locals::aI (c++f)) b.X j f D E) (Sr:∀t S W,D t S W->∃a,sF a S W/\y t (.str a)) (Ss:∀t k,E t k->y t (.list [k]))
 (m:∀A h' G p k,y p k->u x #[b.d,b.O,b.I,b.X++aI (c++p),b.q,(c++p)++keep] h'->bb b.d (l h'<|b.X++aI (c++p)) A k->N A {aa with heap:=h',toks:=G}):au U.M M (dV (.ref 245) [.ref j]) N Sk aa:=by
 obtain⟨St,x,env,X,Γ,own⟩:=b;dsimp only at O P R;subst O;subst P;have H:∀d∈c++f,d∈own:=λd b=>F.mem_iff.mpr<|bJ b;show oS e.ns λb q Z Sf Sg hd Sh=>?_;show cm (LI Sj) λs body Si=>?_;have b:=Si.fn;show hS ((b.def).BT (n:=n) (X:=X) (ds:=[.val<| .ref j]) Q.todA e.base e.cw (b.ql (.cons (.val _) .nil) V) V (h0:=cq aa.heap<|env.locals::aI (c++f)) (λB o m=>ff _ m) (own:=(env.locals,.frame q)::(c++f)) (λd a=>?_) (λd a=>cU _ ?_) (gq.mpr #[λd a m=>(e.cN d<|H d a).2.1 m.symm,(ih.mp<|(F.pairwise e.dt<|λI m=>I m.symm)).1]) (fr:=J<|env::r) (gen:=aj) (λb I=>by cases I;show Q.o8 r Sl) λSu Sv Sw G Sx Sy b Sz=>?_)
 .show ay (a5 a) (λh=>?_) λa=>?_
  .obtain rfl:=h;show#[e.cn.1,.frame (gE:=q.slots) Sg]
  .show e.G d<|H d a
 .show ay (a5 a) (λh=>?_) λa=>?_
  .obtain rfl:=h;show ap
  .show g<|c9 a
 have SA:∃o s,(cq aa.heap<|env.locals::aI (c++f)).get? j=J o/\o.data=.func s:=by
  show gh So λo s b x=>?_;show ix o s (cb _ b λa=>Sp ?_) x;show ay (a5 a) (λh=>?_) λa=>?_
  .obtain rfl:=h;show e.cn.1
  .obtain⟨d,v,rfl⟩:=ck a;show(e.G d<|H d v).1
 have SB:ec ((env.locals,.frame q)::c) (env::r):=λSD K=>by
  show ay (a5 K) (λh=>?_) λK=>?_
  .obtain rfl:=h;show#[by have:=e.kind;dsimp only at this;mspec this;decide,_,q,Z,Sf,R,ap,hd]
  .show ao (Sm SD K) λb s=>?_;show j5 s λx H I K M=>?_;show cd M λs N O=>?_;show#[b,x,H,I,K,s,g N,O]
 have SE:ew ((env.locals,.frame q)::c):=λd v=>by
  show ay (a5 v) (λh=>?_) λv=>?_
  .obtain rfl:=h;show j6 q Z Sf V hd
  .show Sn d v
 show dr ((Si.run n Su Sv _ X (env::r) ((env.locals,.frame q)::c) f j D E y Sq SA Sr Ss SB SE λB b=>?_).go _ {aa with heap:=Sw,toks:=G} _ Sx Sy) (λd SF w=>?_) λSh Sh d=>d
 .rcases Sz B b with C|C
  .show .inl C
  .show .inr ?_;cases z2:(cq aa.heap<|env.locals::aI (c++f)).get? B with
   |none=>rfl|some o=>rw[ff _ z2]at C;cases C
 obtain⟨SG,w⟩:=w;obtain⟨h',L,rfl⟩:∃h' L,SF={aa with heap:=h',toks:=L}:=dN _ _ SG.eq;obtain⟨A,k,t,w,⟨p,rfl,SH⟩,SI,SJ⟩:=w;have SK:=m A h' L p k SH (u.uJ (Y:=#[St,n+1,env,X,Γ,own]) e F Sg (bi:=c++p) SI) (SJ.keep (l.sub λB a=>by
  rcases jz a with a|a
  .show bJ a
  .show bB<|g a))
 rcases w with rfl|⟨rfl,rfl⟩<;>show SK
end
section
variable {U:aW}
def aU.vo (B:aR U){c:be}{Si:aP}{cF ai keep:aE}(Y:aE->i->Prop)(N:c.d=U)(Ss:c.O=n+1)(St:Si.cR=J ag)(Su:c.I.frame=J c.I.locals)(O:c.G.Perm ((cF++ai)++keep))(Sv:ec cF ag)(Sw:ew cF)(Sx:c.G=bE++(aM,.tab dk)::b4)
 (Sy:(r,c.I.qual++"<lambda>")∈dk) (Sz:∀C∈dk,(r.line==C.1.line&&r.col==C.1.col)=z->C.2=c.I.qual++"<lambda>") (SA:c.I.code=.ref b) (SB:di U.B b aM) (SD:y6 m c.I=([],[])) (SE:iT k c.I=pure nw) (Sj:c.I.globals=iH)
 (SF:c.I.kindOf "_law_words"=J .globalImplicit) (SG:y7 k nw c.I c.q lQ) (SH:∀u h v,hE (oo "<lambda>" (c.I.qual++"<lambda>") m body k nw u h v) #[[],[]]=pure []) (SI:∀P∈k.names,P.2≠ .cell) (SJ:k.isCoroutine=aj) (SK:k.isGenerator=aj) (SL:k.kind=.function)
 (SM:∀h0 j S,S.scope=k->S.closure=nw->iL h0 j S body->hY U S h0 (l h0 c.X) lQ->mz U n h0 c.X j ai pp SN) (SO:∀q Sk T,pp q Sk T->∃Sl,sF Sl Sk T/\Y q (.str Sl)) (SP:∀q D,SN q D->Y q (.list [D]))
 (SQ:eval (.Call (.Name "_law_words" Sf) [.Lambda m body k r] [] pos) c.I=(do dP pos (<-eval (.Name "_law_words" Sf) c.I) [] (cY pos<|bh [.Lambda m body k r] c.I) (jI pos<|jJ [] c.I))) (Z:bh [.Lambda m body k r] c.I=(aj,eval (.Lambda m body k r) c.I)::bh [] c.I):
 aU c Si (.Call (.Name "_law_words" Sf) [.Lambda m body k r] [] pos) (λS1 q D=>∃W,q=(cF++W)++keep/\Y W D):=.mk λF G Sm H Sn So C=>by
 show hy B.kb λg q S Y Si Sk=>?_;show aY (show ∃o,(a U).lookup 245=J o/\o.data=.func (bk 245<|a U)from(av _ V rfl)) λo SR hd=>?_;show jb ((show R c (.Name "_law_words" Sf) (.val<| .ref 245)from B.eW N (by room) SF Sj<|by decide).go F G _ H Sn.todA So.tocV λSp X Sg SS ST=>?_) SQ;obtain rfl:=ST.is;have Sq:=So.keep SS;have S:=t0 (M:=c.d.M) (A:=F) (E:=H) (f:=.ref 245) (x:=eval (.Lambda m body k r) c.I) (rest:=cY pos<|bh [] c.I)
  (Q:=λP q=>(q.heap.get? 245=J o/\o.data=.func (bk 245<|a U))/\au c.d.M F (dV (.ref 245) ([]++P.pos) P.kw) Sm H q) (s:={G with heap:=X,toks:=Sg})
 mspec Z;show xi<|S ?_;have:=kQ (M:=c.d.M) (A:=F) (E:=H) (s:={G with heap:=X,toks:=Sg}) (env:=c.I) (pos:=pos) (e:=.Lambda m body k r) (rest:=[]) (Q:=λT q=>(q.heap.get? 245=J o/\o.data=.func (bk 245<|a U))/\au c.d.M F (dV (.ref 245) ([]++T) []) Sm H q)
  (B.y5 N (aa:={G with heap:=X,toks:=Sg}) Sq Sx Sy Sz SA SB SD SE Sj λj h u v h' SU t q SV Sr SW=>ly ?_) Z
 .rw[Z]at this;show this
 have Sh:j∉c.X:=λd=>by
  show p (Sq.cw _ d) λo w=>?_;rw[(show X.get? j=ah from SV)]at w;cases w
 show#[#[t.fq _ _ (by mspec N;show B.bD _ _ SR),hd],?_];subst N;have SX:(cq h'<|c.I.locals::aI (cF++ai)).get? j=J {cls:=.type "function",data:=.func<|oo "<lambda>" (c.I.qual++"<lambda>") m body k nw u h v}:=cb _ Sr λd=>by
  show ay (a5 d) (λI=>?_) λd=>?_
  .obtain rfl:=I;show Sh t.cn.1
  .obtain⟨g,K,rfl⟩:=ck d;show Sh (t.G g<|O.mem_iff.mpr<|bJ K).1
 have SY:∀y∈c.I.locals::aI (cF++ai),y=c.I.locals\/∃g∈c.G,g.1=y:=λy L=>by
  show ay (a5 L) (λI=>?_) λL=>?_
  .obtain rfl:=I;show .inl V
  .obtain⟨g,K,rfl⟩:=ck L;show .inr<|av g (O.mem_iff.mpr<|bJ K) V
 have SZ:(cq h'<|c.I.locals::aI (cF++ai)).CodeRec h (c.I.qual++"<lambda>"):=SW.keeps λy o w=>cb _ (l.of _ _ w) λd=>by
  have S0:y∈c.X:=by
   show ay (a5 d) (λI=>?_) λd=>?_
   .obtain rfl:=I;show t.cn.1
   .obtain⟨g,K,rfl⟩:=ck d;show(t.G g<|O.mem_iff.mpr<|bJ K).1
  rw[cU _ S0]at w;cases w
 show LM B (aa:={G with heap:=h',toks:=SU}) V Ss St Sn Su t O Sv Sw (ix _ _ Sr V) Sh (SM _ j (oo "<lambda>" (c.I.qual++"<lambda>") m body k nw u h v) V rfl #[(av _ SX V),SZ,V,SH u h v,SI,SJ,SK,SL] (DZ t (a8:=oo "<lambda>" (c.I.qual++"<lambda>") m body k nw u h v) SG SY)) SO SP
  λSp h j W D c d g=>C Sp _ .up #[_,_,_,(av W V c),λy L=>bJ L,d,g]
end
structure i2 (Y:be)(H:aP)(b:c6)(co:aZ->aE->Bool->Prop):Prop where
 go:∀(aK:cW)(aa:aS)(bM:Bool->aS->Prop)(bv:bY),je aK Y.O Y.I H.cR->u H Y aa.heap->
  (∀al bS a bi,cs aa bS H.bZ->co a bi al->(∀ac∈Y.X,ac∈a)->u H #[Y.d,Y.O,Y.I,a,Y.q,bi] bS.heap->bM al bS)->au Y.d.M aK (nT b Y.I<|eval b Y.I) bM bv aa
section
variable {Y:be}{H:aP}
def i2.bL {h:lG}(n:aU Y H o h)(p:∀a c d,h a c d->(∀ac∈Y.X,ac∈a)->∃al b,R #[Y.d,Y.O,Y.I,a,Y.q,c] r al/\ax #[Y.d,Y.O,Y.I,a,Y.q,c] k d al b/\co a c b)(q:rF k r=aj):i2 Y H (.Compare o [k] [r] pos) co:=.mk λe h o f g k s=>by
 show w9 (n.go e h _ f g k λt i u v=>?_) q;obtain⟨a,c,d,w,j,m,x⟩:=v;show f3 (p a c d w j) λal b h k n=>?_;show h.go e i _ f g.todA m.tocV λo p q d v=>?_;have h:=m.keep d;show k.go e {i with heap:=p,toks:=q} _ f t o g.todA h.tocV (x.keep<|l.keep _ d) v λh' i e=>ma<|s b _ a c u.gH n j<|h.keep e
def N.sG (e:i2 Y H n o)(g:∀a b c,o a b c->(∀d∈Y.X,d∈a)->c=aj/\N H #[Y.d,Y.O,Y.I,a,Y.q,b] k m):N H Y (.If n r [] pos::k) m:=
 N.cons (aw:=λf=>∃a b,u H #[Y.d,Y.O,Y.I,a,Y.q,b] f/\N H #[Y.d,Y.O,Y.I,a,Y.q,b] k m) (.mk λh i j l d=>
  rT (e.go h i _ j l d λc p a b k m n o=>by
   show ci (g a b c m n) λe=>?_;mspec if_neg (by decide);show rS #[k,a,b,o,e])) λf c=>gh c λa b d e=>eQ #[Y.d,Y.O,Y.I,a,Y.q,b] H V rfl rfl rfl rfl d e
end
def LN {b:be}:∀a∈([]:bg),a∈b.q/\hB b.I k m a.1/\a.1≠n:=λa b=>nomatch b
def D0 {a:be}(d:(k,w)∈a.q)(e:a.I.cells.lookup k=n.lookup k)(f:a.I.kindOf k=J .cell\/a.I.kindOf k=J .free)(g:(mZ m a.I).names.lookup k=J .cell\/(mZ m a.I).names.lookup k=J .free)(h:k≠o)
 (r:∀b∈x,b∈a.q/\hB a.I m n b.1/\b.1≠o):∀b∈(k,w)::x,b∈a.q/\hB a.I m n b.1/\b.1≠o:=λb c=>by
 show ay (a5 c) (λi=>?_) λc=>?_
 .obtain rfl:=i;show cH d (cH e f g) h
 .show r b c
noncomputable def dg (a9:b5)(ae:Int):s:=(a9.lookup ae).getD []
noncomputable def dj (a9:b5):s:=a9.map (·.1)
noncomputable def hh (a9:b5)(left:s):s:=left.filter λaq=>decide ((left.filter λae=>(dg a9 ae).any (·==aq))≠[])
noncomputable def ep (a9:b5):Nat->s
 |0=>dj a9|n+1=>hh a9<|ep a9 n
noncomputable def cJ (a9:b5):s:=ep a9 a9.length
noncomputable def hI (a9:b5)(left:s)(cl:Int):s:=(en 3 8).filter λae=>left.any (·==ae)&&(dg a9 ae).any (·==cl)
noncomputable def k8 (a9:b5)(left:s):Nat->s->Option s
 |0,_=>ah|n+1,fv=>match fv.getLast? with
  |none=>ah|some cl=>match(hI a9 left cl).head? with
   |none=>ah|some aq=>if aq∈fv then J (fv.drop (fv.idxOf aq)++[aq])else k8 a9 left n (fv++[aq])
def sH {b:b5}{left a:s}{n:Nat}:k8 b left (n+1) a=(match a.getLast? with|none=>ah|some m=>match(hI b left m).head? with|none=>ah|some k=>if k∈a then J (a.drop (a.idxOf k)++[k])else k8 b left n (a++[k])):=rfl
noncomputable def hJ (a9:b5):Option s:=k8 a9 (cJ a9) ((cJ a9).length+1)<|(cJ a9).take 1
noncomputable def a4 (ae:Int):v:=((hU[ae.toNat]?).map (·.1)).getD ""
noncomputable def ku:Option s->i
 |none=>.none|some ag=>.list<|ag.map λae=>.str<|a4 ae
structure iM (a9:b5):Prop where
 jr:∀ae∈dj a9,0<=ae/\ae<8
 bA:(dj a9).Nodup
 vp:∀a∈a9,a.2.length<=10/\(a.2≠[]->3<=a.1)/\∀bx∈a.2,bx∈dj a9
theorem y8 (b:b5):∀n a,a∈ep b n->a∈dj b
 |0,_,c=>c|n+1,a,c=>y8 b n a (e9.mp c).1
def D1 (a:b5)(n:Nat):(ep a n).length<=a.length:=by
 induction n with
 |zero=>show aA (a7 ..)|succ n b=>show a6 (qf _ _) b
def qY (b:b5)(c:Int)(a:c∈dj b):(cS bp b).lookup c=J (bp<|dg b c):=by
 rw[CF];unfold dg;have:∃e,b.lookup c=J e:=by
  unfold dj at a
  induction b with
  |nil=>cases a
  |cons f b g=>
   mspec fz;by_cases d:c=f.1
   .subst d;simp
   .mspec(beq_eq_false_iff_ne.mpr d:(c==f.1)=aj);rcases d2 a with a|a
    .show absurd a d
    .show g a
 show p this λe a=>?_;mspec a;rfl
theorem lR:∀(d a:s),a.Nodup->(∀f∈a,f∈d)->a.length<=d.length
 |[],a,_,h=>by
  cases a with
  |nil=>simp|cons g a=>cases h g ap
 |g::d,a,k,h=>by
  by_cases l:g∈a
  .have i:=lR d (a.erase g) (k.erase g) λf c=>by
    rw[k.mem_erase_iff]at c;show ay (d2<|h f c.2) (λb=>?_) λb=>?_
    .show absurd b c.1
    .show b
   rw[LO l]at i;mspec eC;show bd [.j t C,.j y<| .e t] 0 y (.e C) D i<|e0<|cg<|a.length - 1
  .have i:=lR d a k λf c=>by
    show ay (d2<|h f c) (λb=>?_) λb=>?_
    .show absurd (b▸c) l
    .show b
   mspec eC;show b9 [.j y C] 0 y (.e C) D i
def iM.len (b:iM k):k.length<=8:=by
 have c:(dj k).length<=(en 0 8).length:=lR _ _ b.bA λa d=>by
  show ao (b.jr a d) λe f=>?_;simp only[en,iv,iW];show av a.toNat (by omega)<|gr (bj [↑a.toNat,a] [.j A aC] 0 (.S (.O 0) A) aC D (c4 (gx<|bj [a] [.j (.O 0) A] 0 (.O 0) A D e):))<|bj [a,↑a.toNat] [.j A aC] 0 A (.S (.O 0) aC) D (kl a:)
 simpa[dj,en]using c
theorem D2 (a:b5):∀n,hh a (ep a n)=ep a n\/(ep a n).length+n<=a.length
 |0=>.inr<|aA (a7 ..)
 |n+1=>by
  rcases D2 a n with b|b
  .left;show(?_:hh a (hh a<|ep a n)=hh a (ep a n));mspec b;show b
  .by_cases c:hh a (ep a n)=ep a n
   .left;show(?_:hh a (hh a<|ep a n)=hh a (ep a n));mspec c;show c
   .right;show(LP<|λf=>c<|List.Sublist.eq_of_length lS f).elim (λd=>c7 [.j (.S aV C) t,.aL y aV] 0 (.S y<| .e C) t D b d) λd=>c7 [.j (.S aV C) t,#[2,y,aV],.aL aV y] 0 (.S y<| .e C) t D b (qf _ _:(hh a<|ep a n).length<=(ep a n).length) d
def LQ (a:b5):hh a (cJ a)=cJ a:=by
 show ay (D2 a a.length) (λb=>?_) λb=>?_
 .show b
 .mspec(n6.mp (by unfold cJ;show c1 (b9 [.j (.S y C) C] 0 y (.O 0) D b)<|ey _):cJ a=[]);rfl
def LR (a:n∈dg k m):∃b,(m,b)∈k/\n∈b:=by
 unfold dg at a;cases hl:k.lookup m with
 |none=>rw[hl]at a;cases a
 |some b=>
  rw[hl]at a;show av b ?_ a
  induction k with
  |nil=>cases hl
  |cons c k e=>
   rw[fz]at hl;by_cases d:m=c.1
   .subst d;simp at hl;subst hl;show ap
   .rw[(beq_eq_false_iff_ne.mpr d:(m==c.1)=aj)]at hl;show g<|e hl
def pq {a:s}:a.any (·==k)=z↔k∈a:=by simp
def LS {a:b5}(d:iM a)(i:k∈cJ a):∃c,(hI a (cJ a) k).head?=J c/\c∈cJ a:=by
 have l:k∈hh a (cJ a):=by rw[LQ];show i
 show p (vq _<|f (e9.mp l).2) λb i=>?_;show ao (e9.mp i) λm e=>?_;show aY (LR<|pq.mp e) λi g n=>?_;have i:=(d.jr b<|dI g).2;have h:b∈hI a (cJ a) k:=e9.mpr #[by
  simp only[en,iv,iW];show av ((b - 3).toNat) (by lia) (by show gr (bj [↑(b - 3).toNat,b] [.j A<| .c8 aC<| .O 3] 0 (.S (.O 3) A) aC D (c4 (gx<|bj [b] [.j (.O 3) A] 0 (.O 0) (.c8 A<| .O 3) D<|(d.vp _ g).2.1<|LU n):))<|bj [b,↑(b - 3).toNat] [.j (.c8 A<| .O 3) aC] 0 A (.S (.O 3) aC) D (kl (b - 3):)),by mspec pq.mpr m;mspec e;rfl]
 cases hn:hI a (cJ a) k with
 |nil=>rw[hn]at h;cases h
 |cons c r=>
  show av c V ?_;have:c∈hI a (cJ a) k:=by mspec hn;show ap
  have:=(e9.mp this).2;rw[i7]at this;show pq.mp this.1
def LV (a:k.getLast?=J n)(b:(hI a9 left n).head?=J m):k8 a9 left (am+1) k=if m∈k then J (k.drop (k.idxOf m)++[m])else k8 a9 left am (k++[m]):=by
 rw[sH];mspec a;simp only[b]
section
variable {U:aW}
def y9 (d:aR U):eB U 223 (bk 223<|a U) ["uses","items"] (cf 223<|a U):=
 d.fn V rfl D V rfl (qq λg i=>by room)
  (λd b=>by
   rcases a5 b with rfl|b
   .show .inr #[V,λe=>D]
   .rcases a5 b with rfl|b
    .show .inr #[V,λe=>D]
    .cases b) (f D) (by decide:(["way","left","items","uses"]:h).Nodup) c c V
noncomputable abbrev D3 (a9:b5)(left:s)(ac:T):bg:=[("uses",.dict (cS bp a9)),("items",fj),("left",.list (left.map .int)),("way",.val (.ref ac))]
inductive sI (a9:b5)(left:s)(ac:T)(am:Nat)(Γ:bg)(own:aE):Prop
 |mk (fv:s) (a:aN Γ (D3 a9 left ac)) (b:own=[(ac,.list (fv.map .int))]) (c:fv=[]->hJ a9=ah) (d:fv≠[]->fv.Nodup/\(∀ae∈fv,ae∈left)/\am=left.length+2 - fv.length/\k8 a9 left am fv=hJ a9):sI a9 left ac am Γ own
@[elab_as_elim] def sI.LW {P:aE->Prop}(j:sI m left n o Γ own)(q:∀(k:s)(a:aN Γ (D3 m left n))(b:k=[]->hJ m=ah)(c:k≠[]->k.Nodup/\(∀r∈k,r∈left)/\o=left.length+2 - k.length/\k8 m left o k=hJ m),P ([(n,.list (k.map .int))])):P own:=by
 cases j with
 |mk k a d b c=>show d▸q k a b c
noncomputable abbrev D4:=λ(a9:b5)=>([("uses",.dict (cS bp a9)),("items",fj)]:bg)
noncomputable abbrev pr:=λ(U:aW) (ca:T)=>(bV (bk 223<|a U) ca 223:b3)
def LX (SG:aR U)(n:Nat)(I:T)(X:aZ)(K:aP)(g:b5)(Sj:iM g):
 N K #[U,n+1,pr U I,X,D4 g,[]] (cf 223<|a U) (kX U K<|ku<|hJ g):=by
 have Ss:=Sj.len;mexact N.br (E.assign (af:=.list<|(dj g).map .int) (R.of_eq (R.iD (ds:=dj g) (dE:=i.int) (cP:=λd=>[("x",.int d)]) [] (λh=>z) (λd=>.int d) V (f D) V (f D) (r:=.dict<|cS bp g) (R.K 0 V) ?_ ?_ (λQ h=>.name _ _ _) (hg V) f7 (λh h h h=>rfl) (λSf Z d q h=>by show R.K 0 V) (λh=>rfl)<|λh h h h=>c)<|by rw[jh]) (.inr #[V,D]) V) ?_
 .have:cA #[U,n+1,pr U I,X,D4 g,[]] (.Name "x" default) (.dict<|cS bp g) ((cS bp g).map λx=>.int x.1):=cA.dict as.dict;mspec(by simp[dj,cS]:(dj g).map i.int=(cS bp g).map λx=>.int x.1);show cA.dict as.dict
 .simp only[dj,a7];unfold aD;show b1
 mexact N.br (E.pi (λM=>[("uses",.dict (cS bp g)),("items",fj),("left",.list ((ep g M).map .int))]) (λh=>[]) (r:=.dict<|cS bp g) (ds:=(cS bp g).map λx=>.int x.1) (R.K 1 V) (λk s=>by cases s)
  (cA.dict as.dict) (aN.cI [1,2,0] rfl) V (λQ h=>.name<| .inl V) ?_ (λh=>rfl)) ?_
 .intro M Q SH SQ hd Sy SR;rw[e8,gl]at hd;show bC λH v=>?_;show p hd λSH St=>?_;show kK St λSH=>?_;show v ?_;clear v H;have Sk:=y8 g M;have Sl:=D1 g M;show(?_:N _ _ _ (rV (u _ #[_,_,_,_,[("uses",.dict (cS bp g)),("items",fj),("left",.list ((hh g<|ep g M).map .int))],_]) _ _));generalize ep g M=left at*;mexact N.br (E.assign (af:=.list<|(hh g left).map .int) ?_ (.inr #[V,D]) V)<|N.qx (aN.cI [2,3,0] rfl) V;show R.IU (ds:=left) (dE:=i.int) [("left",.list (left.map .int)),("uses",.dict (cS bp g))] (λk=>decide ((left.filter λd=>(dg g d).any (·==k))≠[])) (λd=>.int d) V (λh=>rfl) (λh=>rfl) V rfl (f D) (r:=.list<|left.map .int) (R.K 3 V) (cA.list (.inl<|dN _ _ V) as.list) ?_ ?_ ?_ (λSf M Z k Sm h=>by show R.K 0 V) (λh=>rfl) (λh h h h=>c)
  .unfold aD;show dG (a6 Sl Ss) D
  .show D0 (bo 3 V) V (.inl V) (.inl V) (f D)<|D0 (bo 1 V) V (.inl V) (.inl V) (f D) LN
  .intro Sf M Z k Sm;show a1.bL (R.of_eq (ez:=.list ((left.filter λd=>(dg g d).any (·==k)).map .int)) (R.iD (ds:=left) (dE:=i.int) (cP:=λd=>[("x",.int d)]) [("u",.int k),("uses",.dict (cS bp g))] (λd=>(dg g d).any (·==k)) (λd=>.int d) V (f D) V (f D) (r:=.list<|left.map .int) (R.K 1 V) (cA.list (.inl<|dN _ _ V) as.list) ?_ (λQ h=>.name _ _ _) (hg V) ?_ (λM SH d q=>?_) (λM SH d q h=>by show R.K 0 V) (λh=>rfl)<|λh h h h=>c) V) (R.list W.nil<|du D) (ax.r1 (iI:=[]) as.list as.list) c
   .unfold aD;show dG (a6 Sl Ss) D
   .show gv (bo 0 V) V (.inl V) (.inl V)<|gv (bo 2 V) V (.inl V) (.inl V) f7
   .show a1.bL (R.K 1 V) (R.item (L:=.int d) (af:=bp<|dg g d) (R.K 2 V) (R.K 0 V)<|b7.dict as.dict<|qY g d<|Sk d q) (ax.rI as.list) c
 mspec(by simp[cS,cJ]:ep g ((cS bp g).map λx=>i.int x.1).length=cJ g);have Sk:∀d∈cJ g,d∈dj g:=y8 g g.length;have Sl:=D1 g g.length;have SI:(cJ g).Nodup:=by
  have:∀n,(ep g n).Nodup:=λn=>by
   induction n with
   |zero=>show Sj.bA|succ n SJ=>show SJ.sublist lS
  show this _
 have Sg:(cJ g).length<=8:=a6 Sl Ss;mexact N.IV (R.K 2 V) as.list V R.bK V .none (.int _) .none (f D) (by rw[a7];unfold aD;show b1) (.inr #[V,D]) λB M Sl=>?_;rw[kZ];mspec(xZ _ 1:fg (cJ g) ah (J 1) ah=(cJ g).take 1);have Sz:hJ g=k8 g (cJ g) ((cJ g).length+1) ((cJ g).take 1):=rfl;have SK:∀F∈cJ g,∃k,(hI g (cJ g) F).head?=J k/\k∈cJ g:=λF s=>LS Sj s;generalize M:cJ g=left at*;mexact N.cons (aw:=λs=>hJ g=ah/\∃Γ own,u K #[U,n+1,pr U I,B::X,Γ,own] s) (E.um (ce:=sI g left B) (left.length+1) #[left.take 1,aN.cI [1,2,3,0] rfl,V,?_,?_] ?_) ?_
 .intro s;mspec Sz;mspec s;rw[sH];rfl
 .intro s;have SL:(left.take 1).length=1:=by
   cases left with
   |nil=>show absurd V s|cons d M=>rfl
  show l6 (SI.sublist<|List.take_sublist _ _) (λd q=>sk q) (by mspec SL;simp+arith) Sz.symm
 .intro Sn Γ own Sh;show sI.LW Sh λo M SM Sl=>?_;show#[decide (o≠[]),?_,λSu=>?_,λSu=>?_]
  .show a1.bL (R.name (M _<|bo 3 V) (f D)<|f D) (R.list W.nil<|du D) (ax.r1 (he:=o) (iI:=[]) (as.G ap) as.list) c
  .have Sv:=f Su;show bC λH v=>?_;show iQ (Sl Sv) λSA So Sy SN=>?_;show v ?_;clear v H;mexact N.dW (Y:=#[U,n+1,pr U I,B::X,Γ,[(B,.list (o.map .int))]]) M ?_;have P:=lR left o SA So;obtain⟨F,Sw⟩:∃F,o.getLast?=J F:=#[o.getLast Sv,JP Sv];show bC λH v=>?_;show aY (SK F<|So F<|uS Sw) λk Sm SB=>?_;show v ?_;clear v H;obtain⟨Sp,SD⟩:∃Sp,Sn=Sp+1:=#[Sn - 1,by show c1 ((e0<|cg<|Sn - 1))<|(aA<|fa (n:=Sn) (m:=1)<|c7 [.j C y,.j t aV,.j (.S aV<| .O 2)<| .S C t] 1 (.O 1) y D (aA (Sy).symm) P<|e0<|cg<|left.length+2 - o.length)];have Si:=LV (a9:=g) (left:=left) (am:=Sp) Sw Sm;rw[<-SD,SN]at Si;have SE:∀d∈left,0<=d/\d<8:=λd q=>Sj.jr d<|Sk d q;mexact N.br (E.assign (af:=.int k) (R.item (L:=.int 0) (r:=.list<|(hI g left F).map .int) (R.iD (ds:=en 3 8) (dE:=i.int) (cP:=λd=>[("x",.int d)]) [("left",.list (left.map .int)),("way",.val (.ref B)),("uses",.dict (cS bp g))] (λd=>left.any (·==d)&&(dg g d).any (·==F)) (λd=>.int d) V (f D) V (f D) (r:=.iy 3 8 1) ?_ (cA.rO (f D) (f D) (f D)<|f D) (f D) (λQ h=>.name _ _ _) (hg V) ?_ (λSf Z d q=>?_) (λSf Z d q h=>by show R.K 0 V) (λh=>rfl)<|λh h h h=>c) R.bK<|b7.list (cD:=0) as.list ?_<|by simp+arith) (.inl V) V) ?_
   .show R.mX (ds:=[.int 3,.int 8]) (SG.eZ V rfl (by room) (f D) V rfl rfl (f D)) (W.cons R.bK (W.cons R.bK W.nil V) V) bO.IA V c V
   .show gv (bo 2 V) V (.inl V) (.inl V)<|gv (bo 3 V) V (.inl V) (.inl V)<|gv (bo 0 V) V (.inl V) (.inl V) f7
   .show a1.oY (al:=left.any (·==d)) (b:=(dg g d).any (·==F)) (a1.bL (R.K 0 V) (R.K 1 V) (ax.rI as.list) c)<|λM=>?_;show a1.bL (R.item (L:=.int<| -1) (af:=.int F) (R.K 2 V) R.kR<|b7.em (ds:=o.map .int) (as.G ap) (by mspec sm;mspec Sw;rfl)) (R.item (L:=.int d) (af:=bp<|dg g d) (R.K 3 V) (R.K 0 V)<|b7.dict as.dict<|(λd q=>qY g d (Sk d q):∀d,d∈left->(cS bp g).lookup d=J (bp<|dg g d)) d<|pq.mp M) (ax.rI as.list) c
   .mspec e8;show ch (List.head?_eq_getElem?) ?_;mspec Sm;rfl
   mexact N.cons (aw:=λs=>k∉o/\u K #[U,n+1,pr U I,B::X,[("uses",.dict (cS bp g)),("items",fj),("left",.list (left.map .int)),("way",.val (.ref B)),("u",.int k)],[(B,.list (o.map .int))]] s)
    (E.dC (aq:=o.any (·==k)) (a1.bL (R.K 0 V) (R.K 4 V) (ax.rI<|as.G ap) c) (λs=>?_)<|λs=>N.nil λh' G=>#[λSq=>(by rw[pq.mpr Sq]at s;cases s),G.eh<|aN.cI [1,2,3,4,0] rfl]) ?_
   .have Sq:=pq.mp s;rw[if_pos Sq]at Si;mexact N.cons (aw:=λh=>False) (E.ret (af:=ku<|hJ g) ?_ λs k G r=>fo k V G.de<|r.keep<|l.sub G.sub) λh F=>F.elim;mspec Si;have SO:∀d∈o.drop (o.idxOf k)++[k],0<=d/\d<8:=λd q=>by
     show cL q (λq=>?_) λq=>?_
     .show SE d<|So d<|CL q
     .show(bX q)▸SE k SB
    show R.of_eq (R.iD (ds:=o.drop (o.idxOf k)++[k]) (dE:=i.int) (cP:=λd=>[("x",.int d)]) [("items",fj)] (λh=>z) (λd=>.str<|a4 d) V (f D) V (f D) (r:=.list<|(o.drop (o.idxOf k)++[k]).map .int) ?_ (cA.list (.inl<|dN _ _ V) as.list) ?_ (λQ h=>.name _ _ _) (hg V) (gv (bo 2 V) V (.inl V) (.inl V) f7) (λh h h h=>rfl) (λSf Z d q h=>?_) (λh=>rfl)<|λh h h h=>c) (by rw[jh];rfl)
    .show R.of_eq (R.o3 (ac:=(o.drop<|o.idxOf k).map .int) (al:=[.int k]) (R.of_eq (R.jE (mU:=J ((o.idxOf k:Nat):Int)) (R.K 4 V) (as.G ap) (R.jg (ds:=[.int k]) (R.K 4 V) (fB.list (as.G ap) BX LY) (W.cons (R.K 0 V) W.nil V) (bO.BW (he:=o) (as.G ap) Sq<|b9 [.j C<| .O 8,.j y C] 0 (.e y) (.O<|2^62) D Sg P) V c V) V rfl (.int _) .none .none (f D) ?_) ?_) (R.list (W.cons (R.K 0 V) W.nil V)<|du D) as.list as.list ?_) (by simp)
     .rw[a7];unfold aD;show dG (a6 P Sg) D
     .rw[kZ,r6]
     .rw[a7];mspec k7;mspec gw;unfold aD;show p0 (a6 (a6 (fC o.length<|BY k o) P) Sg) D
    .mspec dF;mspec k7;mspec gw;unfold aD;show p0 (a6 (a6 (fC o.length<|BY k o) P) Sg) D
    .show ao (SO d q) λh0 F=>?_;have Sr:∃w:Nat,d=w/\w<8:=av d.toNat (by show gr (bj [d,↑d.toNat] [.j A aC] 0 A aC D (kl d:))<|bj [↑d.toNat,d] [.j A aC] 0 A aC D (c4 (gx<|bj [d] [.j (.O 0) A] 0 (.O 0) A D h0):)) (by show dH.mp<|bj [↑d.toNat,d] [.aL aC<| .O 8,.j A aC] 0 (.e A) (.O 8) D F (c4 (gx<|bj [d] [.j (.O 0) A] 0 (.O 0) A D h0):));show bC λH v=>?_;obtain⟨w,rfl,Sr⟩:=Sr;show v ?_;clear v H;have F:(hU.map λx=>item x.1 x.2)[w]?=J (item ((hU[w]?).map (·.1) |>.getD "") ((hU[w]?).map (·.2) |>.getD [])):=by
      show(tH V rfl rfl rfl rfl rfl rfl rfl:∀w:Nat,w<8->(hU.map λx=>item x.1 x.2)[w]?=J (item ((hU[w]?).map (·.1) |>.getD "") ((hU[w]?).map (·.2) |>.getD []))) w Sr
     show R.item (L:=.int 0) (R.item (L:=.int w) (R.K 1 V) (R.K 0 V)<|b7.list (cD:=w) as.list F<|dG Sr D) R.bK (b7.list (cD:=0) as.list V<|by simp+arith)
   .intro s Sh;show ao Sh λSF G=>?_;rw[if_neg SF]at Si;show eQ #[U,n+1,pr U I,B::X,[("uses",.dict (cS bp g)),("items",fj),("left",.list (left.map .int)),("way",.val (.ref B)),("u",.int k)],[(B,.list (o.map .int))]] K V rfl rfl rfl rfl G (N.br (E.append (bE:=[]) (b4:=[]) (af:=.int k) (ds:=o.map .int) (R.K 4 V) (bo 3 V) (f D) (f D) V (by rw[a7];unfold aD;show dG (a6 P Sg) D) c V rfl rfl)<|N.nil λh' SP=>?_);show#[_,_,#[Sp,by show(aA (SD).symm),o++[k],?_,?_,λSx=>by simp at Sx,λh=>l6 ?_ ?_ ?_ Si.symm],SP]
    .show aN.cI [0,1,2,3] rfl
    .simp
    .show(gz).mpr ?_;show cH SA (by simp) (λd q h g=>by show kI g λSx=>SF<|Sx▸q)
    .intro d q;show cL q (λq=>?_) λq=>?_
     .show So d q
     .show kI q SB
    .mspec dF;mspec gw;grind
  .intro s G;show#[SM<|LZ.mp<|of_decide_eq_false Su,_,_,G]
 .rintro s Sh;show bC λH v=>?_;show ao Sh λd St=>?_;show cm St λΓ own G=>?_;show v ?_;clear v H;show eQ #[U,n+1,pr U I,B::X,Γ,own] K V rfl rfl rfl rfl G ?_;mspec d;show N.ret R.gF
def L0 (b:aR U)(a:b5)(c:iM a):bO #[U,n+2,env,X,Γ,own] (.ref 223) [.dict<|cS bp a,fj] (ku<|hJ a):=
 (y9 b).m7 V (λd e f=>LX b n d e f a c)
end
section
variable {U:aW}
def aR.lim (a:aR U):U.B.NoLimit:=by show hy a.kb λc d e f g b=>?_;show b.nolimit
def op (o:c6)(a:v)(b pos:dy)(dz:h6)(env:b3):Prop:=∃ii:ia Bool,eval (.Call (.Attribute o a b) dz [] pos) env=(do
 let c <-eval o env
 es b.atName
 let(aT,first) <-e7 [c] (gK c a ii)
 dP pos aT first (cY pos<|bh dz env) [])
def L1 (e:aR U){b:az}{d:Nat}(j:hU[d]?=J (k,w))(r:T×h)(p:b.bq=J r)(q:b.bA)(s:(gO k).length<=900)(t:qX b.P k)
 (i:∀env,op (.Name "sorter" x) "done" B M [.Subscript (.Subscript (.Name "items" Sf) (.Name "x" Sg) Sh) (.Constant (.int 0) Si Sj) Sk] env)
 (u:iL h0 m o (.Call (.Attribute (.Name "sorter" x) "done" B) [.Subscript (.Subscript (.Name "items" Sf) (.Name "x" Sg) Sh) (.Constant (.int 0) Si Sj) Sk] [] M)) (v:hY U o h0 (l h0 Sl) [("sorter",.val (.ref b.x)),("items",fj),("x",.int d)]):ks U (n+2) h0 Sl m b.G (nr (nt b.P k) b.G):=by
 have x:d<8:=(gG.mp j).1;show ks.of (ae:=b.x) (aH:=175) (Γ:=[("sorter",.val (.ref b.x)),("items",fj),("x",.int d)]) (dX:=["self","nodes"]) (ds:=[.str k]) (gA:=[.val<| .ref b.x,.bR [.str k]]) u e.lim v (λg X B x G H y A C=>?_) (DA e) V (λx X u E F=>?_) λg u v x B G h0 H I=>Ll e n g u v x B G h0 H I b k r p q s t
 .obtain⟨K,i⟩:=i<|eE o g m;show DJ (ii:=K) (Y:=#[U,n+1,eE o g m,X,[("sorter",.val (.ref b.x)),("items",fj),("x",.int d)],b.G]) (aw:=a U) e.bD y A b.eK b.eT (by rfl) C3 (R.K 0 V) (W.cons (R.item (r:=item k w) (R.item (L:=.int d) (R.K 1 V) (R.K 2 V)<|b7.list as.list (by mspec e8;mspec j;rfl)<|by show b1) R.bK<|b7.list (cD:=0) as.list V<|f D) W.nil V) V c i C
 .show DB (.val _) E (fR D) F
def D5 {a:Nat}(b:(en k m)[a]?=J n):n=k+a/\n<m:=by
 unfold en at b;rw[e8,gl]at b;obtain⟨e,c,rfl⟩:=b;have d:a<(jc (m - k).toNat).length:=(gG.mp c).1;rw[jQ]at d;rw[rP d]at c;obtain rfl:=fS c;show#[V,by omega]
def D6 (c:k->i)(a:List (Int×k))(b:Int):((cS c a).lookup b).isSome=(a.lookup b).isSome:=by
 induction a with
 |nil=>rfl|cons e a f=>
  obtain⟨d,g⟩:=e;show(?_:(tO b<|(d,c g)::cS c a).isSome=_);mspec fz;mspec fz;cases b==d<;>first|rfl|show f
noncomputable def lT (a:s)(a9:b5)(L:Int):v:=if a.any (·==L)then "was already marked done" else if(a9.lookup L).isSome then "was not passed out (still not ready)" else "was not added using add()"
noncomputable abbrev hj:List (dy×v):=[(#[279,22,279,54],"_law_refuses.<locals>.<lambda>")]
def D7 (b:T):(bV (bk 252<|a U) b 252).qual++("<lambda>":v)="_law_refuses.<locals>.<lambda>":=by room
def za (b:aR U):eB U 252 (bk 252<|a U) ["sorter","out","uses","items"] (cf 252<|a U):=
 b.fn V rfl D V rfl (BV λd e g i=>by room)
  (qo V (λb=>D)<|fi V<|fi V<|qo V (λb=>D) hc) (f D) (by mspec(show((iA 0 (bk 252<|a U).scope.names []).map (·.1))=(["x","items","sorter"]:h)from by room);decide) c c V
noncomputable abbrev zb:=λ(ai:az) (a:s) (a9:b5)=>([("sorter",.val (.ref ai.x)),("out",.list (a.map .int)),("uses",.dict (cS bp a9)),("items",fj)]:bg)
noncomputable abbrev nx:=λ(cF:aE) (ai:az)=>(cF++(ai.G++[(247,.tab hj)]):aE)
noncomputable abbrev vr:=λ(U:aW) (ca:T)=>(bV (bk 252<|a U) ca 252:b3)
def L2 (P:aR U)(Ss:di U.B 251 247)(n:Nat)(t:T)(X:aZ)(H:aP)(Sg:List b3)(k:aE)(e:az)(w:s)(x:b5)(St:H.cR=J Sg)(Su:ec k Sg)(Sv:ew k)(r:T×h)(Sw:e.bq=J r)(Sx:e.bA)
 (Sl:∀(d:Nat)(g:v)(o:h),hU[d]?=J (g,o)->qX e.P g/\nt e.P g=("node ":v)++gO g++(" ":v)++lT w x d):
 N H #[U,n+4,vr U t,X,zb e w x,nx k e] (cf 252<|a U) (et U H ((nx k e)) λB F=>B=(nx k e)/\F=.bool z):=by
 mexact N.cons (aw:=λl=>∃q,u H #[U,n+4,vr U t,q,[],nx k e] l)
  (E.ms (ce:=λd Γ own=>aN Γ (zb e w x)/\own=(nx k e)) (λI I=>False) [] ((nx k e)) V
   (aU.of<|R.mX (ds:=[.int 8]) (P.eZ V rfl (by room) (f D) V rfl rfl (f D)) (W.cons R.bK W.nil V) bO.uq V c V) (λSg l=>by cases l) (cA.rO (f D) (f D) (f D)<|f D) #[aN.bf _,V] (λF I=>.name<| .inr #[V,D]) ?_ ?_ (λI=>rfl)) ?_
 .intro d F q Γ own Sh hd K;show kK K λSj=>?_;intro Sg Sy;obtain⟨g,o,Z,Sk,rfl⟩:∃(g:v) (o:h),hU[d]?=J (g,o)/\(gO g).length<=100/\F=.int d:=by
   rw[e8,gl]at hd;obtain⟨G,Sh,rfl⟩:=hd;show ao (D5 Sh) λSf Sz=>?_;obtain rfl:G=d:=gr (bj [G,↑d] [.j A<| .S (.O 0) aC] 0 A aC D (c4 Sf:))<|bj [↑d,G] [.j (.S (.O 0) A) aC] 0 A aC D (c4 (Sf).symm:);have:d<8:=by show el.mp ‹_›
   show(show ∀d:Nat,d<8->∃(g:v) (o:h),hU[d]?=J (g,o)/\(gO g).length<=100/\i.int d=.int d from by show tH ?_ ?_ ?_ ?_ ?_ ?_ ?_ ?_<;>show f4 _ _ V (by decide+kernel) V) d this
  have SA:d<8:=(gG.mp Z).1;show ao (Sl d g o Z) λSB SD=>?_;mexact N.dW (Y:=#[U,n+4,vr U t,q,gp (.Name "x" #[_,_,_,_]) (.int d) Γ,nx k e]) (eI:=bl "x" (.int d)<|zb e w x) (Sj.bl _ _) ?_;mexact N.br (E.assign (af:=.str<|lT w x d) ?_ (.inl V) V) ?_
  .show R.kP (a1.bL (R.K 0 V) (R.K 2 V) (ax.rI as.list) c) (λSg=>R.of_eq R.cy ?_) λSg=>R.kP (a1.bL (R.K 0 V) (R.K 3 V) (ax.Br as.dict) c) (λSh=>R.of_eq R.cy ?_) λSh=>R.of_eq R.cy ?_
   .unfold lT;show aJ (if_pos Sg) V
   .unfold lT;mspec if_neg (by rw[Sg];decide);show aJ (if_pos (by rw[<-D6];show Sh)) V
   .unfold lT;mspec if_neg (by rw[Sg];decide);show aJ (if_neg (by rw[<-D6,Sh];decide)) V
  have SE:∀{Sg:be},(("items":v),fj)∈Sg.q->(("x":v),i.int d)∈Sg.q->∀{Sh Sl Sm Sn So:dy}{G:Nat},R Sg (.Subscript (.Subscript (.Name "items" Sh) (.Name "x" Sl) Sm) (.Constant (.int 0) G Sn) So) (.str g):=λ{Sg} SF SG {Sh Sl Sm Sn So G}=>
   R.item (r:=item g o) (R.item (L:=.int d) (R.name SF (f D)<|f D) (R.name SG (f D)<|f D)<|b7.list as.list (by mspec e8;mspec Z;rfl)<|dG SA D) R.bK (b7.list (cD:=0) as.list V<|f D)
  mexact N.sG (i2.bL (co:=λq B Sp=>B=(nx k e)/\Sp=aj) (aU.vo P (pp:=nr (nt e.P g) e.G) (cF:=k) (ai:=e.G) (keep:=[(247,.tab hj)]) (λB F=>B=e.G/\F=.str (nt e.P g)) (b:=251) (aM:=247) (dk:=hj) (bE:=k++e.G) (b4:=[]) (nw:=[("x",t+1+1+1),("sorter",t+1),("items",t+1+1)]) (lQ:=[("sorter",.val (.ref e.x)),("items",fj),("x",.int d)])
   rfl rfl St V (L3<|by simp) Su Sv (by simp) ?_ ?_ ?_ Ss ?_ ?_ ?_ ?_ ?_ ?_ ?_ ?_ ?_ ?_ ?_ ?_ (λI I=>vt) ?_ ?_) ?_ c) ?_
  .rw[D7];show kF.mpr V
  .rw[D7];intro o m _;show aJ (bX m) V
  .room
  .rfl
  .rfl
  .rfl
  .rfl
  .intro o m;show ay (a5 m) (λSi=>?_) λm=>?_
   .obtain rfl:=Si;show#[by show bo 2 V,V,V,_,V,V]
   .rcases a5 m with rfl|m
    .show#[by show bo 5 V,V,V,_,V,V]
    .show ay (a5 m) (λSi=>?_) λm=>?_
     .obtain rfl:=Si;show#[by show bo 1 V,V,V,_,V,V]
     .cases m
  .intro m o F;rfl
  .decide
  .rfl
  .rfl
  .rfl
  .intro h0 Sq F G I m o;show L1 P Z r Sw Sx (by show b1) SB (λenv=>#[_,V]) m o
  .intro B m o l;show fo _ (.inl #[l.2.1,l.2.2]) l.1 V
  .rfl
  .rfl
  .rintro SH SI m ⟨o,rfl,rfl,rfl⟩ Sr;have Sf:(lT w x d).length<=40:=by unfold lT;split<;>first|show fR D|(split<;>show fR D)
   have Sz:(("node ":v)++gO g).length<=105:=by rw[kh];mspec show("node ":v).length=5 from rfl;show dL [.j y<| .O 100] 0 (.S (.O 5) y) (.O 105) D Sk
   have m:(("node ":v)++gO g++(" ":v)).length<=106:=by rw[kh];mspec show(" ":v).length=1 from rfl;show qB ‹_›
   show kN (.str<|("node ":v)++gO g++(" ":v)++lT w x d) aj (R.jD (R.jD (R.jD R.cy (R.jH (ds:=[.str g]) (P.eZ V rfl (by room) (f D) V rfl rfl (f D)) (W.cons (SE (bo 5 V)<|bo 1 V) W.nil V) (bO.Lk (by unfold aD;show b1)) V c V) ?_) R.cy ?_) (R.K 0 V) ?_) (ax.of_eq ax.Bd ?_) ?_ c
   .mspec show("node ":v).length=5 from rfl;unfold aD;show dL [.j y<| .O 100] 0 (.S (.O 5) y) (.O<|2^24) D Sk
   .mspec show(" ":v).length=1 from rfl;unfold aD;show gu
   .unfold aD;show b9 [.j C<| .O 40,.j y<| .O 106] 0 (.S y C) (.O<|2^24) D Sf m
   .mspec SD;simp
   .simp
  .intro SH SI Sp K;show j4 K ?_;intro Sr;show#[c,N.nil λl M=>?_];show#[_,_,_,λd m=>Sr d m,#[aN.cI [2,3,4,5] rfl,V],M]
 .rintro q Γ own l Sy (⟨Sj,rfl⟩|Sq) M
  .show dn q<|M.eh aN.nil
  .show Sq.elim
 .intro l K;show p K λq M=>?_;show eQ #[U,n+4,vr U t,q,[],nx k e] H V rfl rfl rfl rfl M (N.qE (af:=.bool z) R.p5 V (Q.bf _) (λg d=>c9 d) (eJ _) #[V,V])
def ec.cons (f:ec m n)(h:env.scope.kind=.function)(i:env.frame=J env.locals)(hd:∃b c,k.data=.dict b c):ec ((env.locals,.frame k)::m) (env::n):=λj d=>by
 show bC λe a=>?_;show cm hd λb c hd=>?_;show a ?_;clear a e;rcases a5 d with rfl|d
 .show#[by mspec h;decide,_,k,b,c,i,ap,hd]
 .show bC λe a=>?_;show ao (f j d) λb c=>?_;show j5 c λd f h i j=>?_;show cd j λc k l=>?_;show a ?_;clear a e;show#[b,d,f,h,i,c,g k,l]
def ew.cons (f:ew k){a:eg}(hd:∃b c,a.data=.dict b c):ew ((m,.frame a)::k):=λg d=>by
 show bC λh e=>?_;show cm hd λb c hd=>?_;show e ?_;clear e h;show ay (a5 d) (λi=>?_) λd=>?_
 .obtain rfl:=i;show j6 a b c V hd
 .show f g d
def L4 (o:aR U)(t:di U.B 251 247){a:be}{i:aP}{n:Nat}{keep:aE}{f:List b3}(u:a.d=U)(w:a.O=n+5)(x:i.cR=J f)(y:a.I.frame=J a.I.locals)(A:a.I.scope.kind=.function)(c:aE)(b:az)(j:s)(k:b5)(B:ec c f)(C:ew c)(r:T×h)(l:b.bq=J r)(D:b.bA)
 (E:∀(p:Nat)(g:v)(F:h),hU[p]?=J (g,F)->qX b.P g/\nt b.P g=("node ":v)++gO g++(" ":v)++lT j k p) (G:a.G.Perm ((c++(b.G++[(247,.tab hj)]))++keep)):
 dY a i (.ref 252) [.val<| .ref b.x,.list<|j.map .int,.dict<|cS bp k,fj] (λq d e=>d=(c++(b.G++[(247,.tab hj)]))++keep/\e=.bool z):=by
 subst u;show(za o).ye (n:=n+4) (ai:=c++(b.G++[(247,.tab hj)])) (keep:=keep) x w V G (co:=λd e=>d=c++(b.G++[(247,.tab hj)])/\e=.bool z)
  (λg q h0 p hd=>by
   mexact N.dQ (L2 o t n g q #[h0,a.X,J<|a.I::f,i.bZ] (a.I::f) ((a.I.locals,.frame p)::c) b j k V (B.cons A y hd) (C.cons hd) r l D E) λu w l=>?_;obtain⟨H,e,d,m,I,K,L⟩:=l;show ao I λa b=>?_;show#[H,e,d,m,(fo _ a V b),K,L]) λd e c=>ao c λm a=>#[by show aJ m V,a]
end
section
variable {U:aW}
def L5 (d:aR U){b:az}(r:T×h)(i:b.bq=J r)
 (f:∀env,op (.Name "sorter" w) "add" x B [.Constant (.str k) M Sf] env)
 (j:iL h0 m o (.Call (.Attribute (.Name "sorter" w) "add" x) [.Constant (.str k) M Sf] [] B)) (p:hY U o h0 (l h0 Sg) [("sorter",.val (.ref b.x))]):ks U (n+2) h0 Sg m b.G (nr "Nodes cannot be added after a call to prepare()" b.G):=by
 show ks.of (ae:=b.x) (aH:=142) (Γ:=[("sorter",.val (.ref b.x))]) (dX:=["self","node","predecessors"]) (ds:=[.str k]) (gA:=[.val<| .ref b.x,.str k,.bR []]) j d.lim p (λe X w q x y s t u=>?_) (Da d) V (λq X j g v=>?_) λe j p q w x h0 y B=>Li d n e j p q w x h0 y b k [] r i
 .obtain⟨A,f⟩:=f<|eE o e m;show DJ (ii:=A) (Y:=#[U,n+1,eE o e m,X,[("sorter",.val (.ref b.x))],b.G]) (aw:=a U) d.bD s t b.eK b.eT (by rfl) yE (R.K 0 V) (W.cons R.cy W.nil V) V c f u
 .cases g with
  |cons C g=>cases g;show Db (.val _) C .nil (ey _) v
def L6 (c:aR U){b:az}(r:T×h)(f:b.bq=J r)
 (e:∀env,op (.Name "sorter" o) "prepare" w x [] env)
 (g:iL h0 k m (.Call (.Attribute (.Name "sorter" o) "prepare" w) [] [] x)) (i:hY U m h0 (l h0 B) [("sorter",.val (.ref b.x))]):ks U (n+2) h0 B k b.G (nr "cannot prepare() more than once" b.G):=by
 show ks.of (ae:=b.x) (aH:=147) (Γ:=[("sorter",.val (.ref b.x))]) (dX:=["self"]) (ds:=[]) (gA:=[.val<| .ref b.x]) g c.lim i (λd X o j u v p q s=>?_) (qW c).def rfl (λj X g t i=>?_) λd g i j o u h0 v w=>Lj c n d g i j o u h0 v b r f
 .obtain⟨y,e⟩:=e<|eE m d k;show y0 (ii:=y) (Y:=#[U,n+1,eE m d k,X,[("sorter",.val (.ref b.x))],b.G]) (aw:=a U) c.bD p q b.eK b.eT (by rfl) yF (R.K 0 V) e λh' d f=>s [] h' d f .nil
 .show(qW c).ql (.cons (.val _) t) V
end
structure mA (Y:be)(r:i)(ds:dp):Prop where
 go:∀(aK:cW)(aa:aS)(bM:cv->aS->Prop)(bv:bY)(aq:ba),cV Y aa.heap->bb Y.d (l aa.heap Y.X) aq r->(∀a3 h',Q h' aa.heap->aO Y.d (l h' Y.X) a3 ds->bM a3 {aa with heap:=h'})->StarOf Y.d.M aK bv aq bM aa
section
variable {Y:be}{aw:ht}
def D8 (a:k.heap.get? m=J o)(b:o.cls=.type r)(hd:o.data=.seq w n)(d:r="list"\/r="tuple")
 (g:w.size<=aD) (h:∀h',Q h' k.heap->x w.toList {k with heap:=h'}):StarOf (b2 B M) Sf Sg (.ref m) x k:=by
 have e:k.TypeIs (.ref m) r:=av o a b;have f:au (b2 B M) Sf (collect<| .ref m) x Sg k:=wpAny_collect_seq m d a b hd (λh' i=>h h' i) g;unfold StarOf notIterableAtAll;rcases d with rfl|rfl
 .show ar<|tW e PySem.F.slot_list_iter.lookup<|bc #[c,f]
 .show ar<|tW e PySem.F.slot_tuple_iter.lookup<|bc #[c,f]
def mA.list (c:ds.length<=aD):mA Y (.list ds) ds:=.mk λa b e f g h r d=>by
 show cm r.is λa e b=>?_;show eP b λe a=>?_
 .show p e λn b=>?_;show D8 (l.of _ _ b) V rfl (.inl V) (by mspec o1;mspec a.length;show c) λh' b=>d _ h' b<|a.keep<|l.keep _ b
def mA.bR (c:ds.length<=aD):mA Y (.bR ds) ds:=.mk λa b e f g h r d=>by
 show cm r.is λb e a=>?_;show eP a λe b=>?_
 .show p e λo f=>?_;show cd f λe g a=>?_;show p a λn hd=>?_;show D8 (l.of _ _ e) g hd (.inr V) (by mspec o1;mspec b.length;show c) λh' a=>d _ h' a<|b.keep<|l.keep _ a
structure sJ (aw:ht)(b aT:T)(a:v):Prop where
 has:uK aw b=z
 get:specialIn aw (.ref aT) "__get__"=J (J<| .builtin "function.__get__")
 yf:takesIn aw (.ref aT)=J aj
 L7:copiedNames.contains a=aj
 fn:fnIn aw aT=z
def D9 (X:aw.In Y.d.B){f i g h:T}{a:v}{l:cW}{aa:aS}{j:bY}{m:bY}(b:cV Y aa.heap)(o:(f,.aG (c3 g i))∈Y.G)(p:(i,.ns r)∈Y.G)(q:r.lookup a=ah)(d:jR aw g h a)(e:sJ aw g h a)
 (t:∀k h' u,Q h' aa.heap->h'.get? k=J (methodObj (.ref h)<| .ref f)->j (.ref k) {aa with heap:=h',toks:=u}):au Y.d.M l (kf (.ref f) a w) j m aa:=by
 show f3 (pg (b.G _ o).2 (b.G _ p).2) λf n g i h=>?_;show get_bind (b.bD X) g (k6 d.plain).1 (findObj_fn e.has d.at_ e.get e.yf e.L7 (by show(?_:uO a (j7 f n)=_);rw[uP];show aJ (h.get.2 q) V)) (k6 d.plain).2
  (hS<|fn_get (s:={aa with toks:=aa.toks+1}) (b.bD X) d.oe<|handed_on D<|t aa.heap.objs.size _ _ (Q.push _ _)<|aX.get?_push_at V c)
def Ea
 (c:au n r (eval o env) (λk a=>au n r (kf k w z) (λm b=>au n r (dP pos m [] (cY pos<|bh args env) []) M x b) x a) x Sf)
 (d:eval (.Call (.Attribute o w B) args [] pos) env=(do
  let k <-eval o env
  es B.atName
  let(m,first) <-e7 [k] (do pure (<-kf k w z,[]));let Sg <-pure pos
  dP Sg m first (cY pos<|bh args env) [])):
 au n r (eval (.Call (.Attribute o w B) args [] pos) env) M x Sf:=by
 mspec d;show ar<|dr c (λk a d=>ar<|jK<|ar<|g5<|ar<|dr d (λm b c=>bc<|ar<|bc c) λa a b=>b) λa a b=>b
def L8 (X:aw.In Y.d.B)(d:dA m Y.O)(b:cV Y k.heap)(j:(Sf,.aG (c3 Sh Sk))∈Y.G)(p:(Sk,.ns Sl)∈Y.G)(s:Sl.lookup n=ah)(t:jR aw Sh w n)(e:sJ aw Sh w n)
 (h:R Y o (.val<| .ref Sf)) (u:R Y x r) (v:mA Y r ds) (y:bh [.Starred x Sg] Y.I=[(z,eval x Y.I)])
 (A:eval (.Call (.Attribute o n Si) [.Starred x Sg] [] pos) Y.I=(do
  let Sj <-eval o Y.I
  es Si.atName
  let(w,first) <-e7 [Sj] (do pure (<-kf Sj n z,[]));let Sm <-pure pos
  dP Sm w first (cY pos<|bh [.Starred x Sg] Y.I) []))
 (C:∀a h' i,Q h' k.heap->aO Y.d (l h' Y.X) a ds->hR Y.d.M m (.call (.ref w) #[.ref Sf::a,[]]) (λr c=>match r with| .ok (.ret B)=>Sn B c| .ok _=>False| .error So=>M So c) {k with heap:=h',toks:=i}):au Y.d.M m (eval (.Call (.Attribute o n Si) [.Starred x Sg] [] pos) Y.I) Sn M k:=
 Ea (h.go m k _ M d b λB E F g G=>by
  obtain rfl:=G.is;have h:=b.keep g;show D9 (aa:={k with heap:=E,toks:=F}) X h j p s t e λb n x i E=>?_;have c:=h.keep i;mspec y;show ks_call D (keeps_M (K:=aw) (q:=b) (f:=w) (self:=.ref Sf) e.fn)<|ks_lone ?_;show u.go m {k with heap:=n,toks:=x} _ M d c λB h e b j=>?_;show v.go m {k with heap:=h,toks:=e} _ M B (c.keep b) j λa k d m=>?_;have h:=d _ _<|b _ _ E;show#[#[h,((c.keep b).keep d).bD X],hS<|method_call h<|C a k e (((g.trans i).trans b).trans d) m]) A
def L9
 (c:au m n (spliced<|k::o::r) (λa b=>w #[a,[]] b) x B):au m n (uE M z (k::o::r) []) w x B:=by
 unfold uE;obtain⟨d,k⟩:=k;cases d<;>(
  show ar<|dr c (λa b h'=>?_) λa a k=>k;show g5 ?_;show ar<|bc<|ar<|bc<|bc h')
def aU.Ma (X:aw.In Y.d.B){k G y d:T}{H:bg}{o g a:c6}{m:v}{B pos t h:dy}{r I:i}{ds zc:dp}{L:lG}(W:(k,.aG (c3 y G))∈Y.G)(Z:(G,.ns H)∈Y.G)(Sh:H.lookup m=ah)(Si:jR aw y d m)(N:sJ aw y d m)
 (Sj:R Y o (.val<| .ref k)) (Sk:R Y g r) (Sl:mA Y r ds) (Sm:R Y a I) (Sn:mA Y I zc) (So:∀n C,u Sf Y C->aO Y.d (l C Y.X) n (.val (.ref k)::(ds++zc))->og Y Sf (.ref d) n C L) (O:bh [.Starred g t,.Starred a h] Y.I=(z,eval g Y.I)::bh [.Starred a h] Y.I) (P:bh [.Starred a h] Y.I=(z,eval a Y.I)::bh [] Y.I)
 (Sp:eval (.Call (.Attribute o m B) [.Starred g t,.Starred a h] [] pos) Y.I=(do
  let Sg <-eval o Y.I
  es B.atName
  let(d,first) <-e7 [Sg] (do pure (<-kf Sg m z,[]));let Sq <-pure pos
  dP Sq d first (cY pos<|bh [.Starred g t,.Starred a h] Y.I) [])):aU Y Sf (.Call (.Attribute o m B) [.Starred g t,.Starred a h] [] pos) L:=.mk λb c Sr j w S Ss=>
 Ea (Sj.go b c _ j w.todA S.tocV λx St Su Sv Sw=>by
  obtain rfl:=Sw.is;have m:=S.keep Sv;show D9 (aa:={c with heap:=St,toks:=Su}) X m.tocV W Z Sh Si N λF y B G H=>?_;have C:=m.keep G;have U:=items_star (M:=Y.d.M) (A:=b) (E:=j) (s:={c with heap:=y,toks:=B}) (env:=Y.I) (pos:=pos) (p:=t) (e:=g) (rest:=[.Starred a h]) (Q:=λn a=>MethP aw F d (.ref k) a.heap/\au Y.d.M b (dV (.ref F)<|[]++n) Sr j a) (by
   show Sk.go b {c with heap:=y,toks:=B} _ j w.todA C.tocV λx h g m y=>?_;have a:=C.keep m;show Sl.go b {c with heap:=h,toks:=g} _ j x a.tocV y λn B t G=>?_;have h:=a.keep t;show items_star ?_ P;show Sm.go b {c with heap:=B,toks:=g} _ j w.todA h.tocV λI C y a L=>?_;have B:=h.keep a;show Sn.go b {c with heap:=C,toks:=y} _ j I B.tocV L λS C g W=>?_;have h:=B.keep g;have j:=g _ _<|a _ _<|t _ _<|m _ _ H;show ly #[#[j,h.tocV.bD X],?_];rw[fk];show hS<|method_call j ?_;show(So (.ref k::(n++S)) C h<| .cons (.val _)<|(G.keep<|l.keep _<|a.trans g).append W).go b {c with heap:=C,toks:=y} _ w V h λx a b r=>Ss x a (cs.up.trans b) r) O
  rw[O,P]at U ⊢;show ks_call D (keeps_M (K:=aw) (q:=F) (f:=d) (self:=.ref k) N.fn)<|L9 U) Sp
end
section
variable {U:aW}
def Mb:sJ (a U) 192 175 "done":=#[by room,by room,by room,by decide+kernel,by room]
def Mc:sJ (a U) 192 142 "add":=#[by room,by room,by room,by decide+kernel,by room]
def Md (o:c6)(a:v)(b pos:dy)(dz:h6)(env:b3):Prop:=eval (.Call (.Attribute o a b) dz [] pos) env=(do
 let c <-eval o env
 es b.atName
 let(aT,first) <-e7 [c] (do pure (<-kf c a z,[]));let ak <-pure pos
 dP ak aT first (cY pos<|bh dz env) [])
def Me (d:aR U)(r:T)(c b:h)(i:k.bq=J (r,c))(j:k.bA)(e:Nat)(p:fD e k.P)(q:∀s∈k.P,∀f∈s.2.2,f∈cQ k.P)(t:nn (k.P,c) b)(u:c.length+b.length*e<=900)(v:b.length<=900)
 (x:∀env,Md (.Name "sorter" B) "done" M Sf [.Starred (.Name "given" Sg) Sh] env)
 (y:iL h0 m o (.Call (.Attribute (.Name "sorter" B) "done" M) [.Starred (.Name "given" Sg) Sh] [] Sf)) (A:hY U o h0 (l h0 w) [("sorter",.val (.ref k.x)),("given",.bR (b.map .str))]):
 on U (n+2) h0 w m k.G (λC D=>D=.none/\∃g,C=g.G/\gM g k (k.bI+b.length) k.bW (r,(fu (k.P,c) b).2) (fu (k.P,c) b).1):=by
 show on.Lo (ae:=k.x) (aH:=175) (Γ:=[("sorter",.val (.ref k.x)),("given",.bR (b.map .str))]) (dX:=["self","nodes"]) (ds:=b.map .str) (gA:=[.val<| .ref k.x,.bR<|b.map .str]) y d.lim A (λg X D f E F s B C=>?_) (DA d) V (λf X D y A=>?_) λg f w h0=>Lc d n g f _ k r c b i j e p q t u v
 .show L8 (Y:=#[U,n+1,eE o g m,X,[("sorter",.val (.ref k.x)),("given",.bR (b.map .str))],k.G]) (aw:=a U) d.bD s B k.eK k.eT (by rfl) C3 Mb (R.K 0 V) (R.K 1 V) (mA.bR (by rw[a7];unfold aD;show b1)) V (x _) C
 .show DB (.val _) y (by rw[a7];unfold aD;omega) A
end
section
open PySem.Builtin.Re
noncomputable abbrev hK:Array Nat:=(aRR [14,14,4,1,1,9,0,64,0,1342177280,0,0,0,0,0,17,0,13,11,9,0,64,0,1342177280,0,0,0,0,0,17,1,1])
def mB (b:Nat):Prop:=b≠38/\b≠124/\b≠126
def Mf:∀a<256,a≠38->a≠124->a≠126->(hK.getD (5+(1+a/32)) 0).testBit (a%32)=aj:=by decide+kernel
def Mg (a n:Nat)(b:Eb):Sre.inSet hK a (n+2) 5 z b=if(decide (a<256)&&(hK.getD (5+(1+a/32)) 0).testBit (a%32))=z then .ok (z,b.add (hK.getD (5+0) 0))else .ok (aj,(b.add<|hK.getD (5+0) 0).add (hK.getD (5+9+0) 0)):=by room
def Mh {b:Nat}(c:mB b)(n:Nat)(a:Eb):∃d,Sre.inSet hK b (n+2) 5 z a=.ok (aj,d):=by
 rw[Mg,if_neg λa=>by
  have a:=wP.mp a;show pk<|(Mf b (f a.1) c.1 c.2.1 c.2.2).symm.trans a.2]
 show#[_,V]
def Mi {b:oq}(f:b.code=hK)(g:∀h<b.lim,mB (b.text.getD h 0))(d:Nat):∀(a:Nat)(c:Eb),∃e,b.admitted d a c=.ok (ah,e):=by
 induction d with
 |zero=>show λa c=>#[c,V]|succ d i=>
  intro a c;by_cases d:a>=b.lim
  .show#[_,if_pos d]
  .show p (Mh (g a<|Nat.lt_of_not_le d) 30 c) λe b=>p (i (a+1) e) λc g=>#[c,(if_neg d).trans ?_];mspec f;mspec show hK.size=30+2 from rfl;mspec b
   show g
def Mj {a:oq}(c:a.code=hK)(d:∀e<a.lim,mB (a.text.getD e 0))(b:Nat)(first:Bool):(a.attemptFrom b first).answer=J aj/\(a.attemptFrom b first).frames=a.frames/\(a.attemptFrom b first).outcome=a.outcome:=by
 have e:a.hasFirstSet=z:=by unfold oq.hasFirstSet;mspec c;room
 show p (Mi c d (a.lim+1 - b) b a.seen) λg f=>?_;unfold oq.attemptFrom;mspec e;mspec f;show cH V rfl rfl
def Mk {a:Array Nat}(c:∀d<a.size,mB (a.getD d 0)):(zd hK a 1 0 a.size aj).answer=J aj/\(zd hK a 1 0 a.size aj).frames=[]/\(zd hK a 1 0 a.size aj).outcome=ah:=by
 have b:(Ec hK).1=1:=by room
 unfold zd;by_cases h0:a.size=0
 .have:(decide (0>a.size)||decide (a.size - 0<(Ec hK).1))=z:=by
   mspec b;mspec h0;rfl
  simp only[this,if_true];show cH V rfl rfl
 .have:(decide (0>a.size)||decide (a.size - 0<(Ec hK).1))=aj:=by
   mspec b;rw[B7];show#[decide_eq_false (by simp+arith),decide_eq_false<|λb=>pX [.j (.O 1) y,.j y<| .S C<| .O 0,.aL C<| .O 1] D (sK h0) (e0<|cg<|a.size - 0) b]
  simp only[this,o4,if_false];have d:∀b:oq,b.code=hK->b.text=a->b.lim=a.size->b.frames=[]->b.outcome=ah->(b.attemptFrom 0 z).answer=J aj/\(b.attemptFrom 0 z).frames=[]/\(b.attemptFrom 0 z).outcome=ah:=λb a e f g h=>by
   show cd (Mj a (by mspec e;mspec f;show c) 0 z) λa b e=>?_;show cH a (b.trans g)<|e.trans h
  show d _ V rfl rfl rfl rfl
section
variable {gC:p1}{aK:cW}{bv:bY}{aa:aS}
theorem Ed {d:Type}{e:d->PUnit->ia (ForInStep PUnit)}(f:∀b(a:ForInStep PUnit->aS->Prop) aa,a (Bw vu) aa->au gC aK (e b vu) a bv aa){a:PUnit->aS->Prop}:∀{g:List d}{aa:aS},a vu aa->au gC aK (forIn g vu e) a bv aa
 |[],aa,c=>bc c|b::g,aa,c=>by
  rw[List.forIn_cons];show ar<|f b _ aa<|Ed f c
def Ml {a:oq}(e:a.answer=J aj)(f:a.frames=[])(d:a.outcome=ah){c:Option oq->aS->Prop}(b:c ah aa):au gC aK (reRunToEnd a) c bv aa:=by
 have g:a.step={a with outcome:=J .failed}:=by
  unfold oq.step;mspec d;mspec e;mspec f;rfl
 have e:a.runFor ze={a with outcome:=J .failed}:=by
  show(?_:(if a.outcome.isSome then a else oq.runFor 3 a.step)=_);mspec d;mspec g;rfl
 have hd:reDrive (2^64) a=pure {a with outcome:=J .failed}:=by
  show(if(a.runFor ze).outcome.isSome then pure (a.runFor ze)else(rule "sre.turn" >>= λd=>reDrive (2^64 - 1)<|a.runFor ze))=_;mspec e;rfl
 unfold reRunToEnd;mspec hd;show ar<|bc ?_;show ar<|Ed (λa c aa b=>?_) ?_
 .split
  .show ar<|r8<|bc b
  .show bc b
 .show bc b
end
end
section
open PySem.Builtin.Re
noncomputable abbrev vv:Array ba:=hK.map λ(n:Nat)=>ba.int (n:Int) 0
noncomputable abbrev Ee:Array ba:=(aRR [.str #[(aRR [40,91,38,126,124,93,41])] 292,.int 32 327,.int 1 0,.none,.none,.ref 42,.int 0 0])
structure mC (an:aX):Prop where
 vw:∃o,an.get? 43=J o/\o.cls=.type "re.Pattern"/\o.data=.fields Ee/\o.dict=ah
 code:∃o n,an.get? 42=J o/\o.data=.seq vv n
def mC.keep (b:mC k)(c:Q h' k):mC h':=#[let#[o,a,r]:=b.vw;#[o,c _ _ a,r],let#[o,n,a,r]:=b.code;#[o,n,c _ _ a,r]]
section
variable {gC:p1}{aK:cW}{bv:bY}{aa:aS}
def Mm:(vv.map reRawOf).map (·.toNat)=hK:=by room
def Ef (a:mC aa.heap)(b:m {pattern:=.ref 43,string:=.str k r,code:=hK,text:=k.cps,kind:=0,groups:=1,pos:=0,lim:=k.cps.size} aa):au gC aK (reWholeTarget (.ref 43)<| .str k r) m bv aa:=by
 show gi a.vw λo c d hd e=>?_;show gh a.code λf n d e=>?_;unfold reWholeTarget fieldsOf;show ar ?_;show ar<|sb c ?_;mspec hd;show bc ?_;show ar ?_;unfold reTextOf;show bc ?_;show au gC aK (do Mn (.str k r) 0;_) m bv aa;unfold Mn;show ar<|bc ?_;show ar ?_;unfold reRawItems;show ar<|vx d e ?_;show bc<|bc ?_;show(?_:m {pattern:=.ref 43,string:=.str k r,code:=(vv.map reRawOf).map (·.toNat),text:=k.cps,kind:=0,groups:=1,pos:=0,lim:=k.cps.size} aa);mspec Mm;show b
end
section
variable {cZ:i5}{cl:hu}{aK:cW}{bv:bY}{aa:aS}
def Mo (a:k.length<=aD)(b:m (.str k aa.toks) {aa with toks:=aa.toks+1}):au (b2 cZ cl) aK (reSlice k.cps 0 0 k.cps.size) m bv aa:=by
 unfold reSlice;mspec if_pos (by decide);mspec(show(#[k.cps.extract 0 k.cps.size]:v)=k from by show aJ Array.extract_size V);show CX b a
def Eg {a:v}(b:k (.str kg aa.toks) {aa with toks:=aa.toks+1}):au (b2 cZ cl) aK (reSlice a.cps 0 0 0) k bv aa:=by
 unfold reSlice;mspec if_pos (by decide);have c:(#[a.cps.extract 0 0]:v)=kg:=by
  mspec(show a.cps.extract 0 0=(aRR [])from by simp);rfl
 mspec c;show CX b (by decide)
def Mp (l:mC aa.heap)(m:∀p<k.cps.size,mB (k.cps.getD p 0))(f:k.length<=aD)(v:k.length<=16777216)(b:aa.heap.get? ca=J {cls:=.type "list",data:=.seq (aRR [])})
 (g:∀h q h',cO [ca] aa.heap h'->bM (.done (.ret<| .str k h)) {aa with heap:=h',toks:=q}):
 au (b2 cZ cl) aK (Builtin.«re.Pattern.sub.loop» #[[.ref 43,.str k w,.ref aT,d4 1,d4 0,d4 0,d4 0,d4 0,.bool aj,.ref ca,.bool aj],[]]) bM bv aa:=by
 unfold Builtin.«re.Pattern.sub.loop» d4;show ar<|Ef l ?_;mspec if_neg (by decide);show ar ?_;mspec if_neg (by decide);unfold reNextFound;show cd (Mk m) λl p q=>?_;show Ml l p q ?_;dsimp only;by_cases h0:k.cps.size=0
 .have r:k=kg:=by
   obtain⟨⟨t⟩⟩:=k;have:t=[]:=n6.mp h0;subst this;rfl
  mspec if_neg (by show aJ h0 ?_;decide);show ar<|Eg ?_;show ar<|vx b V ?_;mspec if_pos (show((J ((aRR []):Array ba)).getD (aRR [])).isEmpty=z from D);show ar<|bc ?_;mspec if_neg (by decide);show bc ?_;show ch r ?_;show g _ _ aa.heap λu o l a=>a
 .mspec if_pos (by show 0<_;show dL [.j (.O 1) y] 0 (.e<| .O 0) y D<|sK h0);show ar<|Mo f ?_;show ar<|wpAny_updateSeq (s:={aa with toks:=aa.toks+1}) b V ?_;show ar<|Eg ?_;obtain⟨l,i⟩:∃n,(aa.heap.update ca<|jo λd=>d.push<| .str k aa.toks).get? ca=J {cls:=.type "list",data:=.seq (aRR [.str k aa.toks]) n}:=#[_,(nc (jo λd=>d.push<|sL k aa.toks) b c).trans V];show ar<|vx i V ?_;mspec if_neg (show ¬((J ((aRR [sL k aa.toks]):Array ba)).getD (aRR [])).isEmpty=z from by simp);show ar ?_;mspec if_pos (by decide);show PyProof.Rows.join_list (ys:=[k]) #[_,i,V,_,V] (.cons _ _ .nil) ?_ λh b=>?_
  .show dL [.j y<| .O aD] 0 (.S (.S y<| .O 0)<| .cT 1<| .O 0) (.O 16777216) D f
  mspec if_neg (by decide);show bc ?_;have a:dD kg [k]=k:=by rfl
  mspec a;show g _ _ _ λu o n a=>aX.get?_update_other _ _ (λb=>n (by show ch b ?_;show kF.mpr V)) |>.trans a
def Mq:lz (.type "function") (js "__call__")=pure (J<| .builtin "function.__call__"):=by rw[kd];mspec ke;room
def Mr:uA table "re.Pattern.sub.loop"=J Builtin.«re.Pattern.sub.loop»:=uB (by room)
def Ms:uA table "re.Pattern.sub"=J Builtin.«re.Pattern.sub»:=uB (by room)
def Mt:reNamed "re.Pattern.sub" "sub" ["repl","string","count"] 2 [k,m] []=pure [J k,J m,ah]:=by rfl
def Mu {a:v}{p:fh}{bM:Fin->aS->Prop}(i:mC aa.heap)(q:∀s<a.cps.size,mB (a.cps.getD s 0))(t:a.length<=aD)(u:a.length<=16777216)(w:aa.TypeIs (.ref k) "function")
 (x:∀g h h',Q h' aa.heap->bM (.done (.ret<| .str a g)) {aa with heap:=h',toks:=h}):
 au (b2 cZ cl) aK (Builtin.«re.Pattern.sub» #[[.ref 43,.ref k,.str a p],[]]) (λf d=>match f with| .done k=>bM (.done k) d| .again m=>m.quiet=z/\hR (b2 cZ cl) qd m (λr d=>match r with| .ok k=>bM (.done k) d| .error _=>False) d) bv aa:=by
 unfold Builtin.«re.Pattern.sub» reSubstitute;dsimp only;mspec Mt;show ar<|bc ?_;show ar<|bc ?_;show ar<|tW (name:=js "__call__") w Mq ?_;mspec if_pos (show(J<|r9 "function.__call__").isSome=z from D);show ar<|bc ?_;mspec if_pos (show(J<|r9 "function.__call__").isSome=z from D);show ar<|bc ?_;show ar<|g5<|Ef i ?_;dsimp only;mspec if_pos (by decide);show ar ?_;unfold reNotHeld;show ar (wpAny_isInstance (T:="str") (b:=aj) V (by rw[lF];room) ?_);simp only[o4,if_false];show bc ?_;show ar<|wpAny_newList ?_<|ey _;show bc ?_;show#[Cs _ (by decide+kernel),pc Mr ?_];have j:Q (aa.heap.push {cls:=.type "list",data:=.seq ([]:cv).toArray}) aa.heap:=Q.push _ _;show dr (Mp (ca:=aa.heap.objs.size) (aT:=k) (i.keep j) q t u (dM _ c) (bM:=λf d=>match f with| .done k=>bM (.done k) d| .again _=>False) λg h h' i=>?_) (λf d l=>?_) λd d a=>a
 .show x g h h' λn o e=>i n o (by rw[kF];intro y;replace e:=y▸e;replace e:=d3▸e;cases e)<|j n o e
 .cases f with
  |done k=>show l|again a=>show l.elim
end
end
section
open PySem.Builtin.Re
def zf:Slot "re.Pattern" "sub" "re.Pattern.sub":=
 .of (owner:="re.Pattern") (n:="sub") (by rw[kd];mspec ke;room) (by decide+kernel) (by decide+kernel) (by decide+kernel)
  (by first|show .inl (by decide+kernel)|show .inr<|by decide+kernel) (by rw[lF];room)
def Mv (a b c:ba):nb "re.Pattern.sub" #[[a,b,c],[]]:=by unfold nb;room
def Mw:PlainAttrs "re.Pattern":=
 #[(av ("object.__getattribute__") (by rw[kd];mspec ke;room)<|by decide+kernel),by rw[kd];mspec ke;room]
def Mx:qr (.builtin "re.Pattern.sub")=pure (.type "method_descriptor"):=by room
section
variable {cZ:i5}{cl:hu}{aK:cW}{bv:bY}{aa:aS}
def My (f:mC aa.heap)(i:∀j<k.cps.size,mB (k.cps.getD j 0))(l:k.length<=aD)(p:k.length<=16777216)(q:aa.TypeIs (.ref m) "function")
 (s:∀b c h',Q h' aa.heap->n (.str k b) {aa with heap:=h',toks:=c}):au (b2 cZ cl) aK (dV (.builtin "re.Pattern.sub") [.ref 43,.ref m,.str k w]) n bv aa:=by
 show gi f.vw λo j t hd g=>?_;show hS<|sa zf.plain Ms<|zf.check _ _ _ _ _ _ _ _ (show aa.TypeIs (.ref 43) "re.Pattern" from(av _ j t)) (Mv _ _ _) ?_;show dr (Mu (qd:=aK) (bM:=λd h=>match d with| .done (.ret u)=>n u h|_=>False) f i l p q λb c h' j=>s b c h' j) (λd h a=>?_) λg g k=>k;cases d with
 |done m=>cases m<;>first|show a|show a.elim
 |again b=>
  show#[a.1,codeAny_mono a.2 λr b e=>?_];cases r with
  |ok m=>cases m<;>first|show e|show e.elim
  |error a=>show e.elim
def Mz (b:mC aa.heap)(c:k (.builtin "re.Pattern.sub",[.ref 43]) aa):au (b2 cZ cl) aK (gK (.ref 43) "sub" m) k bv aa:=by
 show gi b.vw λo a d hd e=>?_;show qs (T:="re.Pattern") (av _ a d) Mw zf Mx (λb f=>by cases f;show av o a e) c
end
end
def MA (a:aR k){b:aX}(c:Q b k.B):mC b:=
 #[(l7 ({cls:=.type "re.Pattern",data:=.fields Ee}) (c _ _<|a.bD _ _<|by room) V rfl rfl),(ix ({cls:=.type "tuple",data:=.seq vv 0}) 0 (c _ _<|a.bD _ _<|by room) V)]
noncomputable abbrev fc (ag:T)(L:Nat):eg:={cls:=.type "list_iterator",data:=.fields (aRR [.ref ag,.int L 0])}
noncomputable abbrev gd (cz:T):eg:={cls:=.type "method-wrapper",data:=.fields (aRR [.builtin "list_iterator.__next__",.ref cz])}
def MB:uA table "wrapper_descriptor.__get__"=J Builtin.«wrapper_descriptor.__get__»:=uB (by room)
def Eh:lz (.type "wrapper_descriptor") "__get__"=pure (J<| .builtin "wrapper_descriptor.__get__"):=by rw[kd];mspec ke;room
def MC:lz (.type "wrapper_descriptor") "__set__"=pure ah:=by rw[kd];mspec ke;room
def MD:lz (.type "wrapper_descriptor") "__delete__"=pure ah:=by rw[kd];mspec ke;room
def ME (a:k.TypeIs (.ref m) "list_iterator")(b:bM (.done (.ret<| .ref k.heap.objs.size)) {k with heap:=k.heap.push<|gd m}):
 au (b2 n o) r (Builtin.«wrapper_descriptor.__get__» #[[.builtin "list_iterator.__next__",.ref m,.type "list_iterator"],[]]) bM w k:=by
 unfold Builtin.«wrapper_descriptor.__get__»;show ar ?_;show au _ _ (pure (r9 "list_iterator.__next__",J (na m),J (ob "list_iterator"))) _ _ _;show bc ?_;show au _ _ (do _;ret (<-newFields "method-wrapper" [.builtin "list_iterator.__next__",.ref m])) _ _ _;show ar ?_;show au _ _ (do let(a,b) <-pure (("__next__":v),ob "list_iterator");_) _ _ _;show ar<|bc ?_;have a:uC (.type "list_iterator") (.type "list_iterator")=pure z:=by rw[lF];room
 repeat(any_goals (first|assumption|wp_step))
def Ei:Slot "wrapper_descriptor" "__get__" "wrapper_descriptor.__get__":=
 .of (owner:="wrapper_descriptor") (n:="__get__") Eh (by decide+kernel) (by decide+kernel) (by decide+kernel)
  (by first|show .inl (by decide+kernel)|show .inr<|by decide+kernel) (by rw[lF];room)
def MF (a b c:ba):nb "wrapper_descriptor.__get__" #[[a,b,c],[]]:=by unfold nb;room
def Ej:qr (.builtin "list_iterator.__next__")=pure (.type "wrapper_descriptor"):=by show builtinType _=_;mspec builtinType_eq_fast;room
def MG (a:aS):a.TypeIs (.builtin "list_iterator.__next__") "wrapper_descriptor":=Ej
def MH (b:T)(j:T)(k:Nat)(l:fh):
 oc (Builtin.«object.__getattribute__» #[[.ref b,.str "__next__" l],[]]) (λm e a=>a.heap.get? b=J (fc j k)/\e (.ok<| .ret<| .ref a.heap.objs.size) {a with heap:=a.heap.push<|gd b}):=
 uD λj k m e a c=>by
  obtain⟨d,f,g,h,i⟩:=a;show ao c λa c=>?_;have e:(#[d,f,g,h,i]:aS).TypeIs (.ref b) "list_iterator":=av _ a V;have a:=Ek.lookup;have a:=Ej;have a:=Eh;have a:=MC;have a:=MD;unfold Builtin.«object.__getattribute__»
  repeat(any_goals (first|assumption|wp_step))
  show sa Ei.plain MB<|Ei.check _ _ _ _ _ _ _ _ (MG _) (MF _ _ _) ?_;show dr (ME e (bM:=λa e=>a=.done (.ret<| .ref d.objs.size)/\e=#[d.push<|gd b,f,g,h,i]) #[V,V]) ?_<|λj j k=>k;intro a e b;show j4 b ?_
  repeat(any_goals (first|assumption|wp_step))
  show av _ V c
def zg:Slot "list_iterator" "__getattribute__" "object.__getattribute__":=
 .of (owner:="object") (n:="__getattribute__") (by rw[kd];mspec ke;room) (by decide+kernel) (by decide+kernel) (by decide+kernel)
  (by first|show .inl (by decide+kernel)|show .inr<|by decide+kernel) (by rw[lF];room)
def MI:lz (.type "list_iterator") "__getattr__"=pure ah:=by rw[kd];mspec ke;room
def MJ:uA table "object.__getattribute__"=J Builtin.«object.__getattribute__»:=uB (by room)
def MK (a b:ba):nb "object.__getattribute__" #[[a,b],[]]:=by unfold nb;room
def ML
 (b:k.heap.get? m=J (fc ag L))
 (d:∀a,n (.ref k.heap.objs.size) {k with heap:=k.heap.push<|gd m,toks:=a}):
 au (b2 o r) w (kf (.ref m) "__next__" z) n x k:=by
 obtain⟨e,f,g,a,h⟩:=k;have c:∀i,(#[e,f,g,i,h]:aS).TypeIs (.ref m) "list_iterator":=λe=>av _ b V;have e:=zg.lookup;have e:=zg.bind<| .ref m;have e:=MI;unfold kf getAttrBy
 repeat(any_goals (first|assumption|show c _|((with_reducible show au _ _ (dV (r9 "object.__getattribute__") _ _) _ _ _);show xP zg (c _) MJ (MK _ _) (MH m ag L _) #[b,?_])|wp_step))
 have h':=d<|a+1;show(?_:au (b2 o r) w (handedOut _) n x _);unfold handedOut
 repeat(any_goals (first|assumption|wp_step))
section
variable {cZ:i5}{cl:hu}{aK:cW}{bv:bY}{aa:aS}
def MM (b:aa.heap.IsList k o)
 (c:n (.ref aa.heap.objs.size) {aa with heap:=aa.heap.push<|fc k 0}):au (b2 cZ cl) aK (dV (.builtin "iter") [.ref k]) n bv aa:=by
 show call_function_entry (by decide+kernel) (by decide+kernel) kdk_entry_iter (kdk_args_iter _) ?_;unfold Builtin.«iter»;show ar (m:=someArgs "iter" 1 2 _) (Cf (a:=[na k]) (by first|rfl|kernel_rfl!) ?_);show ar<|xl b<|bc<|av _ V c
def MN:(match x4 "list_iterator.__next__" with|some k=>∀a,Jd "list_iterator.__next__" k #[[a],[]]=pure ()|none=>True):=by
 intro a;room
def MO:builtinKind "list_iterator.__next__"=J .slot:=by decide+kernel
def MP {b:lp}(c:b () aa):au (b2 cZ cl) aK (x5 "list_iterator.__next__" #[[.ref k],[]]) b bv aa:=by
 have a:=MN;unfold x5;cases hs:x4 "list_iterator.__next__" with
 |none=>show bc c|some b=>
  rw[hs]at a;dsimp only at a ⊢;mspec MO;dsimp only;mspec if_pos (by decide);mspec a<| .ref k;show ar<|bc<|bc c
def El (d:aa.heap.get? k=J (gd m))
 (e:au (b2 cZ cl) aK.in1 (Builtin.«list_iterator.__next__» #[[.ref m],[]]) (λb c=>∃a,b=.done (.ret a)/\n a c) bv aa):
 au (b2 cZ cl) aK (dV (.ref k) []) n bv aa:=by
 show hS<|Ce ?_;show(?_:au _ aK.in1 (callAny (.ref k) #[[],[]]) _ _ aa);unfold callAny;show ar<|sb d ?_;show x7 D ?_;show x7 D ?_;show ar ?_;show MP<|bc #[uF Ek.plain _,pc entry_listiter_next ?_];rw[zh Ek.plain];show dr e (λb c d=>aY d λa f g=>?_) λa a b=>b;subst f;show g
def MQ (b:aa.heap.get? o=J (gd k))(a:aa.heap.get? k=J (fc m n))(c:aa.heap.IsList m r)(d:r[n]?=J ae)
 (e:∀h',h'.get? k=J (fc m<|n+1)->h9 k aa.heap h'->w ae {aa with heap:=h'}):au (b2 cZ cl) aK (dV (.ref o) []) w bv aa:=by
 show El b ?_;show p c λf b=>?_;show cd b λc g f=>?_;show p f λg b=>?_;show(?_:au _ _ (field (.ref k) 0 >>= _) _ _ aa);show ar<|vy a V (x:=.ref m) V ?_;mspec if_neg (show ¬((na m==nU)=z)from pk);show ar<|vy a V (x:=.int n 0) V ?_;show ar<|vx c b ?_;dsimp only;mspec vz _;mspec d;dsimp only;show ar (wpAny_setField a V (by simp)<|bc<|av ae V<|e _ ?_ (ji ..));mspec nc _ a<|Em<|MR V _;simp[d4,qZ]
def MS (f:aK.handled=ah)(g:aa.heap.get? w=J (gd k))(b:aa.heap.get? k=J (fc n r))(h:aa.heap.IsList n B)(i:B[r]?=ah)
 (j:∀d h' e,h9 k aa.heap d->(∃o,d.get? k=J o)->yX d h' e (.type "StopIteration") []->bv (.ref e) {aa with heap:=h'}):au (b2 cZ cl) aK (dV (.ref w) []) M bv aa:=by
 show El g ?_;show p h λe d=>?_;show cd d λe h g=>?_;show p g λh d=>?_;show(?_:au _ _ (field (.ref k) 0 >>= _) _ _ aa);show ar<|vy b V (x:=.ref n) V ?_;mspec if_neg (show ¬((na n==nU)=z)from pk);show ar<|vy b V (x:=.int r 0) V ?_;show ar<|vx e d ?_;dsimp only;mspec vz _;mspec i;dsimp only;show ar (r8<|ar<|wpAny_setField b V (by simp) ?_);show ar ?_;simp only[newExc,sx];show ar (ud ?_<|by size_fits);show ar (m:=firstArgMember _ _) (Cf (a:=nU) (by first|rfl|(simp only[firstArgMember];rfl)) ?_);show ud ?_ (by size_fits);show ar<|wpAny_handled ?_;mspec show aK.in1.handled=ah from f
 show ar<|bc<|wpAny_throw ?_;show j (aa.heap.update k<|qZ<|λd=>d.setIfInBounds 0 nU) _ _ (ji ..) #[_,(nc (qZ<|λd=>d.setIfInBounds 0 nU) b<|Em<|MR (vs:=(aRR [.ref n,.int r 0])) V _)] #[λd o b=>gj _<|gj _ b,?_,_,dM _ c,d3,gj _<|dM _ c];show qg (by simp[aX.push])
end
section
variable {Y:be}{H:aP}
def u.pt (a:u H Y m)(b:(k,n)∈Y.G)(c:h9 k m h')(r:bH Y.d (l h' Y.X) h' k ez):u H #[Y.d,Y.O,Y.I,Y.X,Y.q,cj Y.G k ez] h':=by
 show gh (a.vf (ez:=ez) b) λd e f g=>?_;mspec g;have b:u H #[Y.d,Y.O,Y.I,Y.X,Y.q,d++(k,n)::e] m:=by show ch f ?_;show a
 show b.kW c r
def u.pu (a:u H Y k)(b:(m,n)∈Y.G)(c:h9 m k h'):Q (l h' Y.X) (l k Y.X):=qF c (a.G _ b).1
def En (a:u H Y m.heap)(s:(k,.val (.ref ac))∈Y.q)(hd:(k==("__debug__":v))=aj)(t:(k==("__classdict__":v))=aj)
 (e:(ac,.list (ds++[af]))∈Y.G) (I:ds.length<aD)
 (A:eval (.Call (.Attribute (.Name k B) "pop" M) [] [] o) Y.I=(do
  let Sf <-eval (.Name k B) Y.I
  es M.atName
  let(Sh,first) <-e7 [Sf] (gK Sf "pop" ii)
  dP o Sh first (cY o<|bh [] Y.I) []))
 (C:∀c h',u H #[Y.d,Y.O,Y.I,Y.X,Y.q,cj Y.G ac<| .list ds] h'->bb Y.d (l h' Y.X) c af->Sg c {m with heap:=h'}):au Y.d.M w (eval (.Call (.Attribute (.Name k B) "pop" M) [] [] o) Y.I) Sg x m:=by
 show aY (a.d8 _ s) λc b i=>?_;show jP (pl:=ii) (w7 ?_ hd) A;have g:au Y.d.M w (gK c "pop" ii) (λk s=>au Y.d.M w (dP o k.1 k.2 (cY o<|bh [] Y.I) []) Sg x s) x m:=by
  show fB.list (Y:=Y) (r:=.val<| .ref ac) (ds:=ds++[af]) (as.G e) PySem.F.slot_list_pop PySem.F.type_list_pop w m _ x c ii a.tocV i ?_;obtain rfl:=i.is;obtain⟨c,⟨n,j⟩,D⟩:=(a.G _ e).2.eA;obtain⟨h,c,rfl,p,E⟩:=D.split;obtain⟨f,rfl,F⟩:=E.one;show PySem.P.pop_list (items:=(h++[f]).toArray) (n:=n) (y:=f) j (by simp) ?_ (by simp;mspec p.length;assumption);have c:h9 ac m.heap (m.heap.update ac<|jo λi=>i.eraseIdxIfInBounds<|(h++[f]).toArray.size - 1):=ji ..;have i:=a.pu e c;show C f _ (a.pt e c<| .list (a3:=h) #[n+1,?_]<|p.keep i)<|F.keep i;mspec nc _ j V;simp[jo,MT]
 rcases b with⟨d,c,G,b⟩|⟨e,d|d,b,q⟩
 .show tS a.kind d G b g
 .show A9 a.kind d b q g
 .show Ba a.kind d b q g t
noncomputable def ny (bF:bg)(am:v):bg:=bF.filter λa=>decide (a.1≠am)
def Eo (c:v){b:List (v×ba)}:∀{a:bg},b.map (·.1)=a.map (·.1)->aO k m (b.map (·.2)) (a.map (·.2))->
 (without b c).map (·.1)=(ny a c).map (·.1)/\aO k m ((without b c).map (·.2)) ((ny a c).map (·.2)):=by
 unfold without ny
 induction b with
 |nil=>intro a H _;cases a with
  |nil=>show#[V,.nil]|cons _ _=>cases H
 |cons d b h=>intro a H r;cases a with
  |nil=>cases H
  |cons e a=>
   show ao (p3 H) λg a=>?_;show f3 r.hA λb b c i r=>?_;show ao (p3 c) λj b=>?_;have f:=h a<|b▸r;mspec sM;mspec sM;mspec show d.1=e.1 from g
   split
   .show#[by mspec b8;mspec b8;mspec f.1;show aJ (show d.1=e.1 from g) V,.cons (show bb k m d.2 e.2 from(show d.2=_ from j).symm▸i) f.2]
   .show f
def MU {a:T}(d:u H Y m.heap)(e:(a,.bN bF)∈Y.G)(h:bF.length<=aD)(i:(bF.lookup k).isSome=z)
 (j:∀h' b,u H #[Y.d,Y.O,Y.I,Y.X,Y.q,cj Y.G a<| .bN<|ny bF k] h'->n () {m with heap:=h',toks:=b}):au Y.d.M r (delItem (.ref a)<| .str k o) n w m:=by
 show gi ((d.G _ e).2.mc) λl p b c f=>?_;unfold delItem
 try with_reducible show g5 ?_
 show ar (wpAny_sequenceKey b.typeIs (by decide) ?_);show ar (MV (name:=js "__delitem__") b.typeIs MW
  (xQ MW b.typeIs PySem.F.entry_dict_delitem (PySem.F.args_dict_delitem_2 _ _) (meets_dict_delitem_pairs (strKind Y.d.prog Y.d.w) a<|o2 Y.d.prog Y.d.w k o)<|l7 l b ?_ ?_<|λh' q g=>?_))
 .have:=congrArg fL c;simp at this;show a6 (aA this) h
 .rw[aO.isSome c f];show i
 .show bc<|j h' _<|d.pt e g<| .bN p q ?_ ?_
  .show(Eo k c f).1
  .show((Eo k c f).2).keep<|d.pu e g
end
section
variable {Y:be}{H:aP}
abbrev jU (U:aW)(o:eg)(aM:v->Bool)(n:Nat):Prop:=o.SetObjOf (strKind U.prog U.w) aM n
def aU.MX (e:R Y (.Name k m) (.val<| .type "set"))
 (h:eval (.Call (.Name k m) [] [] pos) Y.I=(do dP pos (<-eval (.Name k m) Y.I) [] (cY pos<|bh [] Y.I) (jI pos<|jJ [] Y.I))):
 aU Y H (.Call (.Name k m) [] [] pos) (λf i j=>∃a o,a∉Y.X/\a∉H.cB/\f=a::Y.X/\i=(a,.aG o)::Y.G/\j=.val (.ref a)/\jU Y.d o (λq=>aj) 0):=.mk λf i m j k d l=>
 jb (e.go f i _ j k.todA d.tocV λm b q n p=>by
  obtain rfl:=p.is;have e:=d.keep n;show callWith_type0<|call_set_0 λf=>?_;have d:=e.iF<|d3 (an:=b);have i:=(e.gI d3 #[_,dM b (o:={cls:=.type "set",dict:=ah,data:=.set (aRR []) 0<| .fresh 0 0 f}) c]<|Q.push _ _).ig (af:=.aG _) ap (.aG<|dM _ c) d.2.2.1 (show b.objs.size∉d5 #[Y.d,Y.O,Y.I,b.objs.size::Y.X,Y.q,Y.G]from d.1);show l _ _ .up #[_,_,_,(tM b.objs.size _ d.2.1 d.2.2.2 V rfl rfl (setObjOf_fresh f)),λa e=>g e,i,.val _]) h
def Ep (a:v)(b:fh):(sL a b).scannable=z:=D
def ax.zi (b:(k,.aG o)∈Y.G)(c:jU Y.d o aM n)(f:n<4000):ax Y .In (.str am) (.val<| .ref k) (aM am):=.mk λi d j k l m q e f g h=>by
 show p f.dO λa i=>?_;show bw i ?_;obtain rfl:=g.is;show wpAny_inSet_of (o2 _ _ am a) (Ep am a) (c.setOf ((e.G _ b).2.kk) (by unfold zj;show b1))<|h d.heap _<|Q.bf _
def N.MY (t:R Y arg (.str am))(v:R Y o (.val<| .ref ac))
 (e:(ac,.aG Er)∈Y.G) (g:jU Y.d Er aM n) (i:n<4000) (w:mq Y.I=aj) (x:f6 (.Call (.Attribute o "add" m) [arg] [] k) ah pos.line Y.I=pure aj)
 (f:bh [arg] Y.I=(aj,eval arg Y.I)::bh [] Y.I)
 (y:eval (.Call (.Attribute o "add" m) [arg] [] k) Y.I=(do
  let r <-eval o Y.I
  es m.atName
  let(B,first) <-e7 [r] (gK r "add" M)
  dP k B first (cY k<|bh [arg] Y.I) []))
 (A:∀a,jU Y.d a (λb=>aM b||decide (b=am)) (if aM am then n else n+1)->N H #[Y.d,Y.O,Y.I,Y.X,Y.q,cj Y.G ac<| .aG a] Sf Sg):
 N H Y (.Expr (.Call (.Attribute o "add" m) [arg] [] k) pos::Sf) Sg:=
 N.cons (aw:=λj=>∃a,jU Y.d a (λb=>aM b||decide (b=am)) (if aM am then n else n+1)/\u H #[Y.d,Y.O,Y.I,Y.X,Y.q,cj Y.G ac<| .aG a] j) (.mk λl k q s d=>by
  show oa (jP (pl:=M) (v.go l k _ q s.todA d.tocV λo C b E F=>?_) y) w x;obtain rfl:=F.is;have b:=d.keep E;show getMethod_set_add (g.setOf (h:=C) (b.G _ e).2.kk (by unfold zj;show dG i D))<|mh (first:=[.ref ac]) ((W.cons t W.nil f).go l _ _ q s.todA b.tocV λv m w r k=>?_) f c;show p k.one λl f=>?_;show ci f λl=>?_;show p l.dO λk f=>?_;show bw f ?_;have f:=b.keep r;show call_set_add (o2 _ _ am k) (Ep am k) (g.setOf (h:=m) (f.G _ e).2.kk (by unfold zj;show dG i D)) (by unfold zj;show gu) λh' g i=>#[.up,?_];show aY i.objOf λa k b=>?_;show av a b<|f.pt e g<| .aG k) λj i=>aY i λa b d=>eQ #[Y.d,Y.O,Y.I,Y.X,Y.q,cj Y.G ac<| .aG a] H V rfl rfl rfl rfl d (A a b)
def aU.MZ (t:R Y (.Name m n) (.val<| .builtin "iter"))(u:R Y arg (.val<| .ref ag))(v:(ag,.list ds)∈Y.G)
 (e:bh [arg] Y.I=(aj,eval arg Y.I)::bh [] Y.I)
 (x:eval (.Call (.Name m n) [arg] [] k) Y.I=(do dP k (<-eval (.Name m n) Y.I) [] (cY k<|bh [arg] Y.I) (jI k<|jJ [] Y.I)))
 (y:eval (.Attribute (.Call (.Name m n) [arg] [] k) "__next__" w) Y.I=(do
  let o <-eval (.Call (.Name m n) [arg] [] k) Y.I
  es w.atName
  let r <-e7 [o] (kf o "__next__" z)
  xc (.Call (.Name m n) [arg] [] k) o r
  pure r)):
 aU Y H (.Attribute (.Call (.Name m n) [arg] [] k) "__next__" w) (λA B C=>∃b d,A=d::b::Y.X/\B=(d,.aG (gd b))::(b,.aG (fc ag 0))::Y.G/\C=.val (.ref d)):=.mk λf h b i j l D=>
 Attribute_any_ (jb (t.go f h _ i j.todA l.tocV λr E F G I=>by
  obtain rfl:=I.is;have q:=l.keep G;show mh (first:=[]) ((W.cons u W.nil e).go f {h with heap:=E,toks:=F} _ i j.todA q.tocV λd a f K b=>?_) e c;show p b.one λr d=>?_;show ci d λM=>?_;obtain rfl:=M.is;have b:=q.keep K;show aY ((b.G _ v).2.eA) λe d f=>?_;show MM (PlainList.fT d) ?_;have d:=b.iF<|d3 (an:=a);have s:=(b.gI d3 #[_,dM a (o:=fc ag 0) c]<|Q.push _ _).ig (af:=.aG<|fc ag 0) ap (.aG<|dM _ c) d.2.2.1 (show a.objs.size∉d5 #[Y.d,Y.O,Y.I,a.objs.size::Y.X,Y.q,Y.G]from d.1);show ML (ag:=ag) (L:=0) (dM _ c) λb=>?_;generalize b:a.push (fc ag 0)=h₃ at*;have b:=s.iF<|d3 (an:=h₃);have d:=(s.gI d3 #[_,dM h₃ (o:=gd a.objs.size) c]<|Q.push _ _).ig (af:=.aG<|gd a.objs.size) ap (.aG<|dM _ c) b.2.2.1 (show h₃.objs.size∉d5 #[Y.d,Y.O,Y.I,h₃.objs.size::a.objs.size::Y.X,Y.q,(a.objs.size,.aG (fc ag 0))::Y.G]from b.1);show D _ _ .up #[_,_,_,(f4 a.objs.size h₃.objs.size V rfl rfl),λe b=>g<|g b,d,.val _]) x) y
end
def M0 {e:aS}{kr an:aX}{env:b3}{g b:T}{args:cv}{h:lp}
 (n:r.frames=J (env::k)) (i:env.frame=J g) (j:kr.StaysIn an) (p:an.FunFrames kr (env::k)) (c:yX an e.heap b w args)
 (q:∀h' f,aX.HeldW kr (env::k) b w (.ref f) g h'->e.heap.UpToSlots h'->h () {e with heap:=h'}):au B r (t3 (.ref b) env) h M e:=by
 show g2 c.there λf l e g=>?_;have m:∀a,an.get? a=ah->kr.get? a=ah:=λa d=>by
  cases hq:kr.get? a with
  |none=>rfl|some s=>have:=j a s hq;replace this:=d▸this;cases this
 unfold t3;simp only[i];show ar<|vy l V (x:=.none) V ?_;mspec if_neg (by decide);show wpAny_entryW n (p.of_keeps λa o d e=>av o (c.keeps a o d) V) i l (λa o d=>c.keeps a o<|j a o d) (m b c.new) V (by simp) (a0:=.ref f) V λh' a=>?_;show iQ a λd e g h=>?_;show q h' f (l6 d (m b c.new) e g) h
section
variable {Y:be}{H:aP}
def N.M1 (B:aU Y H arg r)(C:R Y o (.val<| .ref ac))
 (D:(ac,.list ds)∈Y.G) (E:ds.length<=aD) (F:mq Y.I=aj) (G:f6 (.Call (.Attribute o "append" m) [arg] [] k) ah pos.line Y.I=pure aj)
 (l:bh [arg] Y.I=(aj,eval arg Y.I)::bh [] Y.I)
 (I:eval (.Call (.Attribute o "append" m) [arg] [] k) Y.I=(do
  let w <-eval o Y.I
  es m.atName
  let(M,first) <-e7 [w] (gK w "append" Sf)
  dP k M first (cY k<|bh [arg] Y.I) []))
 (q:∀a b d,r a b d->(∀ac∈Y.X,ac∈a)->(ac,.list ds)∈b/\N H #[Y.d,Y.O,Y.I,a,Y.q,cj b ac<| .list<|ds++[d]] Sg Sh):
 N H Y (.Expr (.Call (.Attribute o "append" m) [arg] [] k) pos::Sg) Sh:=
 N.cons (aw:=λs=>∃a b d,r a b d/\(∀ac∈Y.X,ac∈a)/\u H #[Y.d,Y.O,Y.I,a,Y.q,cj b ac<| .list<|ds++[d]] s) (.mk λt v x y e=>by
  show oa (jP (pl:=Sf) (C.go t v _ x y.todA e.tocV λo K L O P=>?_) I) F G;obtain rfl:=P.is;have k:=e.keep O;show aY ((k.G _ D).2.eA) λA m h=>?_;show p m λn i=>?_;show B4 i V rfl (mh (first:=[.ref ac]) (kQ (B.go t {v with heap:=K,toks:=L} _ x y k λQ m S T=>ly ?_) l) l c);obtain⟨a,b,d,f,g,j,U⟩:=T;show ao (q a b d f g) λk l=>?_;show aY ((j.G _ k).2.eA) λA l h=>?_;show p l λn i=>?_;show uf i (λh' l m=>#[(cs.up.trans S).trans .up,a,b,d,f,g,?_]) (by simpa[h.length]using E);show j.pt k l<| .list (a3:=A++[Q]) #[n+1,by simpa using m]<|(h.append<| .cons U .nil).keep<|j.pu k l) λs i=>l4 i λa b d f g e=>eQ #[Y.d,Y.O,Y.I,a,Y.q,cj b ac<| .list<|ds++[d]] H V rfl rfl rfl rfl e ((q a b d f g).2)
end
def M2 (d:n.heap.get? k=J (gd Sg))(e:au (b2 o w) x (dV (.ref k) []) Sf B n):
 au (b2 o w) x (dP pos (.ref k) [] (cY pos<|bh [] env) []) Sf B n:=by
 unfold dP;show ar<|g5<|dr (evalArgs_nil3 (M:=b2 o w) (A:=x) (E:=B) (s:=n) (f:=.ref k) (Q:=λa b=>b.heap.get? k=J (gd Sg)/\au (b2 o w) x (dV (.ref k) ([]++a.pos) a.kw) Sf B b) #[d,e]) (λa b c=>ar<|jK ?_) λb b a=>a;show ar (m:=x6<| .ref k) ?_;unfold x6;show ar<|sb c.1 ?_
 try dsimp only
 show bc ?_;show ar<|dr c.2 (λr e d=>ar<|g5<|wpAny_point<|bc d) λb b a=>a
section
variable {Y:be}{H:aP}
def q0 (c:u H Y o){a b:i}(d:(k,a)∈Y.G)(e:(m,b)∈Y.G)(n:a≠b):k≠m:=λf=>by
 subst f;show n<|qO (qM c.dt) d e
def u.slots {q keep:aE}(e:u H Y w)(L:Y.I.frame=J Y.I.locals)(M:Y.G.Perm (q++keep))(v:ec q k)(G:ew q)(s:∀b o,b∉da (Y.I::k)->w.get? b=J o->B.get? b=J o)(A:w.UpToSlots B):u H Y B:=by
 have x:da (Y.I::k)=Y.I.locals::da k:=by unfold da;mspec r3;show aJ L V
 have y:∀d∈q,d∈Y.G:=λd a=>M.mem_iff.mpr<|bJ a;have N:∀b∈da (Y.I::k),b∈Y.X:=λb a=>by
  replace a:=x▸a;show gg a ?_ λa=>?_
  .show e.cn.1
  .show bC λj g=>?_;obtain⟨d,h,rfl⟩:=ck<|v.da b a;show g ?_;clear g j;show(e.G d<|y d h).1
 have O:∀b∈da (Y.I::k),∀o,w.get? b=J o->∃m n,o.data=.dict m n:=λb a o i=>by
  replace a:=x▸a;show ay (a5 a) (λP=>?_) λa=>?_
  .obtain rfl:=P;show bC λj g=>?_;show oS e.ns λL R m S C hd L=>?_;show g ?_;clear g j;replace C:=i▸C;obtain rfl:=fS C;show dN m S hd
  .obtain⟨d,h,rfl⟩:=ck<|v.da b a;show eY (G d h) λR m n D E=>?_;have r:=(e.G d<|y d h).2;replace r:=D▸r;show p r.vm λF t=>?_;replace t:=i▸t;obtain rfl:=fS t;show dN m n E
 have I:Q (l B Y.X) (l w Y.X):=λb o c=>by
  have w:b∉Y.X:=λa=>by show b6 (cU _ a) c
  show cb _ (s b o (λa=>w<|N b a)<|l.of _ _ c) w
 have K:∀b,b≠Y.I.locals->(∀d∈Y.G,d.1≠b)->b∉da (Y.I::k):=λb T U a=>by
  replace a:=x▸a;show ay (d2 a) (λa=>?_) λa=>?_
  .show T a
  .show aY (ck<|v.da b a) λd h c=>?_;show U d (y d h) c
 show u.frame e I (λb a=>by
  show p (e.cw b a) λo i=>?_;by_cases f:b∈da (Y.I::k)
  .show bC λj g=>?_;show cm (O b f o i) λm n hd=>?_;show g ?_;clear g j;obtain⟨F,W⟩:=A b o i λX c=>by replace c:=hd▸c;cases c
   show dn _ W
  .show dn o<|s b o f i) e.cn.1 e.cn.2 e.sub (λa w=>A.ns w) (λd h o i=>s _ o (K _ (e.ft d h) λc w=>(e.cN c w).2.2 d h) i) (λb o c=>s b o (K b (λf=>by replace c:=f▸c;replace c:=e.new.1▸c;cases c) λd h f=>by replace c:=f▸c;replace c:=((e.cN d h).1)▸c;cases c)<|e.de b o c) (λd a=>by
  show ao (e.G d a) λb r=>?_;show#[b,?_];by_cases f:d.1∈da (Y.I::k)
  .have Z:d∈q:=by
    replace f:=x▸f;show ay (d2 f) (λf=>?_) λf=>?_
    .show absurd f (e.cN d a).2.1
    .show bC λj g=>?_;show aY (ck<|v.da _ f) λb h c=>?_;show g ?_;clear g j;show(show d=b from Prod.ext c.symm<|qO (ac:=d.1) (af:=d.2) (ez:=b.2) (qM e.dt) a<|c▸y b h)▸h
   show bC λj g=>?_;show eY (G d Z) λo m n D E=>?_;show g ?_;clear g j;rw[D]at r ⊢;show p r.vm λF t=>?_;obtain⟨a,Sf⟩:=A _ _ t λX c=>by replace c:=(show({o with slots:=F}:eg).data=o.data from rfl)▸c;replace c:=E▸c;cases c
   show .frame Sf
  .show r.lw I λo i=>s _ o f i) e.cN e.dt
def M3 (c:own.Perm (k++keep))(g:ew k)(h:own.Pairwise λj l=>j.1≠l.1){a:T}{b ez:i}(m:(a,b)∈own)(hd:∀o,b≠ .frame o):(cj own a ez).Perm (k++cj keep a ez):=by
 have d:(cj own a ez).Perm (cj (k++keep) a ez):=c.map _;rw[Dl,yQ (ag:=k) λe f n=>?_]at d
 .show d
 .show eY (g e f) λo d j a k=>?_;have:=qO (af:=e.2) (ez:=b) (qM h) (c.mem_iff.mpr<|bJ f)<|n▸m;rw[a]at this;show hd o this.symm
def E.M4 (Su:aR Sv)(Sw:Y.d=Sv){ag:List b3}{cF keep:aE}(Sx:H.cR=J ag)(C:Y.I.frame=J Y.I.locals)(Sy:Y.G.Perm (cF++keep))(S:ec cF ag)(U:ew cF)
 {bF:bg} {W Z:ia Bool} (q:fM Y.I M) (Sz:R Y x (.val<| .ref gC))
 (SA:(gC,.aG (gd cz))∈Y.G) (e:(cz,.aG (fc gE L))∈Y.G) (SB:(gE,.list vA)∈Y.G) (F:(nz,.list (dX++[.str ot]))∈Y.G) (s:(q3,.bN bF)∈Y.G) (G:(ge,.list (vB++[.val<| .ref gC]))∈Y.G)
 (SD:nz≠ge) (Tc:nz≠gE) (Td:ge≠gE) (SE:(m,.val (.ref nz))∈Y.q) (SF:(Sf,.val (.ref q3))∈Y.q) (SG:(k,.val (.ref ge))∈Y.q)
 (SH:(m==("__debug__":v))=aj) (SI:(m==("__classdict__":v))=aj) (SJ:(Sf==("__debug__":v))=aj) (SK:(Sf==("__classdict__":v))=aj) (SL:(k==("__debug__":v))=aj) (SM:(k==("__classdict__":v))=aj)
 (Te:dX.length<1000) (Tf:vB.length<1000) (Tg:bF.length<=1000) (SN:(bF.lookup ot).isSome=z) (SO:mq Y.I=aj)
 (SP:Y.I.kindOf "StopIteration"=J .globalImplicit) (SQ:Y.I.globals=iH) (SR:Y.I.builtins=xN)
 (SS:eval (.Call x [] [] r) Y.I=(do dP r (<-eval x Y.I) [] (cY r<|bh [] Y.I) (jI r<|jJ [] Y.I)))
 (ST:eval (.Call (.Attribute (.Name m Sk) "pop" Sl) [] [] Sg) Y.I=(do
  let w <-eval (.Name m Sk) Y.I
  es Sl.atName
  let(Sh,first) <-e7 [w] (gK w "pop" W)
  dP Sg Sh first (cY Sg<|bh [] Y.I) []))
 (SU:eval (.Call (.Attribute (.Name k Si) "pop" Sj) [] [] B) Y.I=(do
  let w <-eval (.Name k Si) Y.I
  es Sj.atName
  let(Sh,first) <-e7 [w] (gK w "pop" Z)
  dP B Sh first (cY B<|bh [] Y.I) []))
 (SV:f6 (.Call x [] [] r) (J<| .Name M SW) SX.line Y.I=pure aj) (SY:f6 (.Call (.Attribute (.Name k Si) "pop" Sj) [] [] B) ah S0.line Y.I=pure aj)
 (SZ:∀t c,vA[L]?=J t->u H #[Y.d,Y.O,Y.I,Y.X,bl M t Y.q,cj Y.G cz<| .aG<|fc gE<|L+1] c->Sm .brk c)
 (S1:∀a c,vA[L]?=ah->u H #[Y.d,Y.O,Y.I,Y.X,Y.q,cj (cj (cj (cj Y.G cz<| .aG a) nz<| .list dX) q3<| .bN<|ny bF ot) ge<| .list vB] c->Sm .next c):
 E Y H (.Try [.Assign [.Name M SW] (.Call x [] [] r) SX,.Break Th] [.ExceptHandler (J<| .Name "StopIteration" Ti) ah [.Delete [.Subscript (.Name Sf Tj) (.Call (.Attribute (.Name m Sk) "pop" Sl) [] [] Sg) Tk] Tl,.Expr (.Call (.Attribute (.Name k Si) "pop" Sj) [] [] B) S0] Tn] [] [] pos) Sm:=by
 subst Sw;show .mk λSn So m I d=>?_;show wpAny_Try_except ?_;show mn<|o9 (jb (Sz.go Sn So _ _ I.todA d.tocV λK m S2 S3 S4=>?_) SS) SV;obtain rfl:=S4.is;have i:=d.keep S3;have N:=(i.G _ SA).2.kk;have Sp:=(i.G _ e).2.kk;show aY ((i.G _ SB).2.eA) λS5 Sq Sr=>?_;show M2 N ?_;cases hi:vA[L]? with
 |some t=>
  show bC λl g=>?_;show aY (Sr.get hi) λm O r=>?_;show g ?_;clear g l;show MQ N Sp (PlainList.fT Sq) (ae:=m) (by simpa using O) λh' w j=>?_;show u.gn (Y:=#[Y.d,Y.O,Y.I,Y.X,Y.q,cj Y.G cz<| .aG<|fc gE<|L+1]) (aa:={So with heap:=h',toks:=S2}) (i.pt e j (ez:=.aG<|fc gE<|L+1)<| .aG w) q (r.keep<|i.pu e j) λm B y y y y x=>?_;show mn<|wpAny_Break #[.up,SZ t m hi x]
 |none=>
  have S6:S5.toArray[L]?=ah:=by
   simp only[Bi,Bl];show Sr.length▸(Bl.mp hi)
  show MS (aK:=Sn) I.todA.handled N Sp (PlainList.fT Sq) S6 λh r t j m=>p m λa r q=>?_;have P:u H #[Y.d,Y.O,Y.I,Y.X,Y.q,cj Y.G cz<| .aG a] h:=(i.pt e j (ez:=.aG a)<| .aG r);have Ss:=M3 Sy U d.dt (ez:=.aG a) e (by intro o k;cases k);have S7:jq h (Y.I::ag):=λenv Q=>by
   show ay (a5 Q) (λS8=>?_) λQ=>?_
   .obtain rfl:=S8;show bC λl g=>?_;show oS P.ns λi o m r t hd y=>?_;show g ?_;clear g l;show#[by have:=d.kind;mspec this;decide,_,o,m,r,C,t,hd]
   .show(S.frames λm i=>(P.G m<|(λm i=>Ss.mem_iff.mpr<|bJ i) m i).2) env Q
  have r:∀m∈da (Y.I::ag),(cq h<|da<|Y.I::ag).get? m=ah:=λm i=>cU _ i;have i:∀c,(cq h<|da<|Y.I::ag).StaysIn c->h.UpToSlots c->u H #[Y.d,Y.O,Y.I,Y.X,Y.q,cj Y.G cz<| .aG a] c:=λc j O=>
   P.slots C Ss S U (λm o n k=>j _ _<|cb _ k n) O
  show M0 (kr:=cq h<|da<|Y.I::ag) (an:=h) (I.o8 ag Sx) C (λm o k=>ff _ k) (S7.yW r) q λc j m t=>?_;show wpAny_landsW m λj c r=>?_;have m:h.UpToSlots j:=((Ld q.keeps).trans t).trans r;show bC λl g=>?_;show aY c.there λh q r=>?_;show g ?_;clear g l;show wpAny_handleBy_builtin (X:="StopIteration") (T:="StopIteration") (b:=z) (by rw[lF];room) (by rw[lF];room) isSubtype_stop (Su.vn (Y:=#[Y.d,Y.O,Y.I,Y.X,Y.q,cj Y.G cz<| .aG a]) V (i j c.1 m).tocV (by room) (by decide+kernel) (f D) SP SQ SR (f D) #[V,(av h q r),?_]);mspec if_pos D;show lands_againW c λg h j=>?_;have St:=i g h.1<|m.trans j;have S9:cz≠ge:=q0 d e G (by intro k;cases k);have Ta:nz≠q3:=q0 d F s (by intro k;cases k);have Tb:ge≠q3:=q0 d G s (by intro k;cases k);show mn<|wpAny_Delete<|M5<|M6<|DS (Y:=#[Y.d,Y.O,Y.I,Y.X,Y.q,cj Y.G cz<| .aG a]) St.tocV SF SJ SK λK A=>?_;obtain rfl:=A.is;show En (Y:=#[Y.d,Y.O,Y.I,Y.X,Y.q,cj Y.G cz<| .aG a]) (H:=H) (ii:=W) (ds:=dX) (af:=.str ot) (ac:=nz) St SE SH SI (nl F (q0 d e F (by intro k;cases k)).symm) (by unfold aD;show b1) ST λK g c A=>?_;show p A.dO λh g=>?_;show bw g ?_;show MU (Y:=#[Y.d,Y.O,Y.I,Y.X,Y.q,cj (cj Y.G cz<| .aG a) nz<| .list dX]) (H:=H) (bF:=bF) c (nl (nl s (q0 d e s (by intro k;cases k)).symm) Ta.symm) (by unfold aD;show b1) SN λd e c=>?_;show M7 (mn<|oa (En (Y:=#[Y.d,Y.O,Y.I,Y.X,Y.q,cj (cj (cj Y.G cz<| .aG a) nz<| .list dX) q3<| .bN<|ny bF ot]) (H:=H) (ii:=Z) (ds:=vB) (af:=.val<| .ref gC) (ac:=ge) c SG SL SM (nl (nl (nl G S9.symm) SD.symm) Tb) (by unfold aD;show b1) SU λK c d A=>?_) SO SY);show rS #[.up,S1 a c hi d]
end
noncomputable abbrev hZ:=List<|v×Nat
noncomputable def ip (b0:dl):hZ->Option (v×hZ)
 |[]=>ah|(ot,L)::r=>match(ev b0 ot)[L]? with
  |some af=>J (af,(ot,L+1)::r)|none=>ip b0 r
def zk {d:dl}{a b:v}{c:Nat}{r:hZ}(e:(ev d a)[c]?=J b):ip d ((a,c)::r)=J (b,(a,c+1)::r):=
 congrArg (λf:Option v=>(match f with|some b=>J (b,(a,c+1)::r)|none=>ip d r:Option (v×hZ))) e
def zl {a:dl}{b:v}{c:Nat}{r:hZ}(d:(ev a b)[c]?=ah):ip a ((b,c)::r)=ip a r:=
 congrArg (λe:Option v=>(match e with|some f=>J (f,(b,c+1)::r)|none=>ip a r:Option (v×hZ))) d
noncomputable def cr (a:hZ):h:=a.reverse.map (·.1)
noncomputable def zm (b0:dl)(aT:v->hZ->h->Option (h ⊕h))(a:v)(b:hZ)(c:h):Option (h ⊕h):=
 if a∈c then
  if a∈cr b then J (.inl<|(cr b).drop ((cr b).idxOf a)++[a])
  else match ip b0 b with
   |none=>J<| .inr c
   |J (af,d)=>aT af d c
 else match ip b0 ((a,0)::b)with
  |none=>J<| .inr<|a::c
  |J (af,d)=>aT af d<|a::c
noncomputable def jV (b0:dl):Nat->v->hZ->h->Option (h ⊕h)
 |0,_,_,_=>ah|am+1,b,c,a=>zm b0 (λaf d a=>jV b0 am af d a) b c a
noncomputable def lU (b0:dl)(am:Nat):h->h->Option (Option h)
 |[],_=>J ah|n::r,a=>if n∈a then lU b0 am r a else match jV b0 am n [] a with
  |none=>ah|J (.inl b)=>J<|J b
  |J (.inr c)=>lU b0 am r c
noncomputable def k9 (b0:dl):Option (Option h):=lU b0 1000 (cQ b0) []
noncomputable def ou:Option h->i
 |none=>.none|some ag=>.list<|ag.map .str
structure jW where
 K:v
 la:Nat
 M:T
 jt:T
 cE:T
noncomputable abbrev ct (a:List jW):hZ:=a.map λaT=>(aT.K,aT.la)
noncomputable def jX:List jW->aE
 |[]=>[]|aT::r=>(aT.M,.aG (gd aT.jt))::(aT.jt,.aG (fc aT.cE aT.la))::jX r
def Es {a:jW}{r:List jW}:jX (a::r)=(a.M,.aG (gd a.jt))::(a.jt,.aG (fc a.cE a.la))::jX r:=rfl
noncomputable def fO (he:h):bg:=he.zipIdx.map λak=>(ak.1,.int ak.2)
structure lb where
 ju:T
 fP:T
 iN:T
 lc:T
noncomputable abbrev ov (aM:lb)(a:List jW)(o:eg)(b:aE):aE:=(aM.ju,.list ((cr<|ct a).map .str))::(aM.fP,.list (a.reverse.map λaT=>.val<| .ref aT.M))::(aM.iN,.aG o)::(aM.lc,.bN (fO<|cr<|ct a))::b
noncomputable abbrev ei (aM:lb)(a:List jW)(o:eg)(b:aE):aE:=jX a++ov aM a o b
noncomputable abbrev az.dv (ai:az)(a:eg):aE:=(ai.x,.aG (c3 192 ai.df))::(ai.df,.ns ai.attrs)::(ai.cp,.aG a)::(kn ai.bq++ea ai.bt)
noncomputable abbrev fX (ai:az)(aM:lb):bg:=[("n2i",.val (.ref ai.cp)),("stack",.val (.ref aM.ju)),("itstack",.val (.ref aM.fP)),("seen",.val (.ref aM.iN)),("node2stacki",.val (.ref aM.lc))]
def lf (a:v)(b:Nat)(r:hZ):cr ((a,b)::r)=cr r++[a]:=by simp[cr]
def Et (a:h)(b:v):fO (a++[b])=fO a++[(b,.int (a.length:Nat))]:=by simp[fO,List.zipIdx_append]
def zn (a:h):(fO a).map (·.1)=a:=by
 unfold fO;mspec d9;show List.zipIdx_map_fst 0 a
def Eu (a:h):(fO a).length=a.length:=by simp[fO]
def M8 (b:h)(a:v):(fO b).any (λd=>d.1=a)=decide (a∈b):=by
 mspec(show((fO b).any λd=>decide (d.1=a))=((fO b).map (·.1)).any (λe=>decide (e=a))from by rw[xI];rfl);rw[zn];by_cases c:a∈b
 .mspec decide_eq_true c;show ko.mpr (av a c<|by simp)
 .mspec decide_eq_false c;show(List.any_eq_false).mpr ?_;intro e f;simp;rintro rfl;show c f
def M9 (a:h)(b:v)(c:b∉a):ie (fO a) b (.int (a.length:Nat))=fO (a++[b]):=by
 unfold ie;rw[M8];mspec if_neg (by simp[c]);rw[Et]
def Na (a:h)(b:v)(c:b∉a):ny (fO<|a++[b]) b=fO a:=by
 rw[Et];unfold ny;rw[rQ];mspec Do (by simp);mspec Nb;rw[fk];show xY.mpr λb d=>?_;have:b.1∈a:=by show ch (zn a) ?_;show dI d
 simp;rintro rfl;show c this
theorem zo (a:v):∀(b:h)(c:Nat),a∈b->((b.zipIdx c).map λg=>((g.1,.int g.2):v×i)).lookup a=J (.int<|(c+b.idxOf a:Nat))
 |[],_,f=>by cases f
 |d::b,c,f=>by
  mspec List.zipIdx_cons;mspec b8;mspec fz;by_cases e:a=d
  .subst e;simp
  .mspec(show(a==d)=aj from by simpa using e);dsimp only;mspec zo a b (c+1)<|(d2 f).resolve_left e;mspec sN;mspec(show(d==a)=aj from by simpa using λb:d=a=>e b.symm);simp;simp+arith
def zp (a:h)(b:v):((fO a).lookup b).isSome=decide (b∈a):=by
 by_cases c:b∈a
 .unfold fO;mspec zo b a 0 c;simp[c]
 .mspec decide_eq_false c;cases q:(fO a).lookup b with
  |none=>rfl|some b=>show absurd (by show ch (zn a) ?_;show dI (f:=(·.1))<|mem_of_lookup q) c
theorem vC {l:Type}[DecidableEq l]:∀(c a:List l),a.Nodup->(∀d∈a,d∈c)->a.length<=c.length
 |[],a,_,g=>by
  cases a with
  |nil=>simp|cons f a=>cases g f ap
 |f::c,a,i,g=>by
  by_cases k:f∈a
  .have h:=vC c (a.erase f) (i.erase f) λd b=>by
    rw[i.mem_erase_iff]at b;show(d2<|g d b.2).resolve_left b.1
   rw[LO k]at h;have:0<a.length:=Iz k;simp;show bd [.j t C,.j y<| .e t] 0 y (.e C) D h<|e0<|cg<|a.length - 1
  .have h:=vC c a i λd b=>(d2<|g d b).resolve_left λa=>k<|a▸b;simp;show b9 [.j y C] 0 y (.e C) D h
def zq (a:m∈k)(b:T×i)(c:b∈lM m):b∈ea k:=by
 induction k with
 |nil=>cases a
 |cons b k d=>show(d2 a).elim (λb=>bJ<|b▸c) λa=>bB<|d a
section
variable {Y:be}{H:aP}
def aO.vp (r:aO k n m ds):(∀a∈ds,∃b,a=.val b)->aO k o m ds:=
 r.l8 (aM:=λm ds=>(∀a∈ds,∃b,a=.val b)->aO k o m ds) (λc=>.nil) λ{c a _ _} e _ f d=>.cons ((d _ ap).elim λb H=>by
  have h:c=b:=(show bb k n c (.val b)from H▸e).is;show H▸h▸ .val c)<|f λa hd=>d a<|g hd
def N.dv (b:Y.G=k++(ac,.bN bF)::m)(f:∀d∈bF.map (·.2),∃e,d=.val e)
 (g:∀o,(∀c a:aX,a.get? ac=J o->bH Y.d c a ac (.bN bF))->N H #[Y.d,Y.O,Y.I,Y.X,Y.q,k++(ac,.aG o)::m] n r):N H Y n r:=.mk λh d i j e=>by
 show gi ((e.G (ac,.bN bF)<|b▸bB ap).2.mc) λr l n p q=>?_;show aY (Nc.mp n) λo r hd=>?_;show(g o λc a n=>.bN l (Nc.mpr<|av o n hd) p<|q.vp f).go h d i j ?_;have c:u H #[Y.d,Y.O,Y.I,Y.X,Y.q,k++(ac,.bN bF)::m] d.heap:=by show ch b ?_;show e
 show c.qk (λb b b a=>a)<| .aG r
def u.q4 (a:u H Y k)(b:sO.Sublist Y.G):u H #[Y.d,Y.O,Y.I,Y.X,Y.q,sO] k:=
 {a with G:=λc d=>a.G c<|b.subset d,cN:=λc d=>a.cN c<|b.subset d,dt:=a.dt.sublist b}
def N.Nd (b:R Y k af)(f:H.cB=m3.cB)(g:Q H.cM m3.cM)(h:∀a,u H Y a->u H #[Y.d,Y.O,Y.I,Y.X,Y.q,bi] a)(i:∀c∈ai,c.1∈aI bi)(j:co bi af)(e:∀d a,et Y.d m3 ai co (.ret d) a->m (.ret d) a):N H Y (.Return (J k) pos::n) m:=
 N.cons (aw:=λk=>False) (E.ret b λa d m r=>e d a (by
  have e:=h a m;have o:=e.pe i<|eJ _;show#[d,af,bi,.inl V,j,?_,r.keep<|l.sub λb a=>?_]
  .have d:∀b,H.cM.get? b=ah->m3.cM.get? b=ah:=λb h=>by
    show jA (g b) h
   show#[g.trans o.keep,f▸o.hF,λc a=>d _<|o.new c a,o.apart,o.all]
  .show cL a (λa=>?_) λa=>?_
   .show e.sub b<|f▸a
   .show g0 a λc b=>?_;show(e.G c b).1)) λk a=>a.elim
def E.Ne (i:R Y k af)(j:R Y o (.val<| .ref m))(p:R Y n (.str am))(b:(m,.bN bF)∈Y.G)(q:bF.length<=aD)(r:f6 k (J<| .Subscript o n w) pos.line Y.I=pure aj):
 E Y H (.Assign [.Subscript o n w] k pos) (c2 (u H #[Y.d,Y.O,Y.I,Y.X,Y.q,cj Y.G m<| .bN<|ie bF am af]) B):=.mk λc k d e a=>by
 show B2 (i.go c k _ d e.todA a.tocV λs m n f t=>j.go c _ _ d e.todA (a.tocV.keep f) λo i k g v=>p.go c _ _ d e.todA ((a.tocV.keep f).keep g) λi j k h x=>?_) r;obtain rfl:=v.is;obtain⟨y,rfl⟩:=x.dO;have c:=((a.keep f).keep g).keep h;show gi ((c.G _ b).2.mc) λd f e a i=>?_;have j:d.length=bF.length:=by have:=congrArg fL a;simpa using this
 show B3 (o2 _ _ am y) e (λh' k d=>#[.up,?_]) (by mspec j;show q);have e:=c.pu b d;show c.pt b d<| .bN f k (xJ a am s af)<|aO.xK ((t.keep<|l.keep _<|g.trans h).keep e) am a<|i.keep e
end
section
variable {U:aW}
def Nf (b:aR U):eB U 182 (bk 182<|a U) ["self"] (cf 182<|a U):=
 b.fn V rfl D V rfl (kY λd=>by room)
  (fi V hc) (f D) (by decide:([]:h).Nodup) c c V
structure gP (ai:az)(a:List jW)(b:h):Prop where
 cR:∀aT∈a,∃dS∈ai.bt,dS.name=aT.K/\dS.cE=aT.cE
 pv:(cr<|ct a).Nodup
 pw:∀am∈cr (ct a),am∈b
 q5:b.Nodup
 iN:∀am∈b,am∈cQ ai.P
def gP.sP {a:h}(b:gP k m a):a.length<=k.bt.length:=by
 simpa[az.P]using(vC (cQ k.P) a b.q5 b.iN)
def gP.len {b:h}(a:gP m k b):k.length<=m.bt.length:=by
 have c:=vC b (cr<|ct k) a.pv a.pw;have b:=a.sP;simp[cr]at c;show a6 ‹_› ‹_›
def gP.tail {c:h}(a:gP k (n::m) c):gP k m c where
 cR:=λc b=>a.cR c (g b)
 pv:=by have:=a.pv;rw[ct,b8,lf]at this;show(gz.mp this).1
 pw:=λc b=>a.pw c (by rw[ct];mspec b8;rw[lf];show bJ b)
 q5:=a.q5
 iN:=a.iN
def gP.Ng {c:h}(a:gP m (k::n) c)(d:Nat):gP m ({k with la:=d}::n) c where
 cR:=λe b=>by
  show ay (a5 b) (λf=>?_) λb=>?_
  .obtain rfl:=f;show a.cR k ap
  .show a.cR e (g b)
 pv:=by have:=a.pv;rw[ct,b8,lf]at this ⊢;show this
 pw:=λc b=>a.pw c (by rw[ct,b8,lf]at b ⊢;show b)
 q5:=a.q5
 iN:=a.iN
def gP.kb {a:h}(b:gP n (k::m) a):k.K∉cr (ct m):=by
 have:=b.pv;rw[ct,b8,lf]at this;show λa=>(gz.mp this).2.2 _ a _ (kF.mpr V) V
def Nh {a:az}(c:a.bA){b:gc}(d:b∈a.bt):ev a.P b.name=b.succ:=by
 show cm (KZ d) λb e a=>?_;unfold ev;mspec vg a c;rfl
theorem Ev (c:∀d∈k,∀h∈d.2.2,h∈cQ k):∀(i:hZ){b:v}{e:hZ},ip k i=J (b,e)->b∈cQ k
 |(f,j)::r,b,e,g=>by
  cases q:(ev k f)[j]? with
  |some b=>
   cases(zk q).symm.trans g;have a:=ib q;unfold ev at a;cases z:k.lookup f with
   |none=>rw[z]at a;cases a
   |some d=>rw[z]at a;show c _ (mem_of_lookup z) _ a
  |none=>show Ev c r<|(zl q).symm.trans g
def vD (a:(aI<|bE++(ac,tP)::b4).Nodup):cj (bE++(ac,tP)::b4) ac af=bE++(ac,af)::b4:=om a
def zr (a:(aI<|bE++n::(k,r)::o).Nodup):cj (bE++n::(k,r)::o) k m=bE++n::(k,m)::o:=by
 have b:∀m,bE++n::(k,m)::o=(bE++[n])++(k,m)::o:=λm=>by simp
 rw[b]at a ⊢;rw[b];show om a
def Ni (a:(aI<|bE++n::o::(k,w)::r).Nodup):cj (bE++n::o::(k,w)::r) k m=bE++n::o::(k,m)::r:=by
 have b:∀m,bE++n::o::(k,m)::r=(bE++[n,o])++(k,m)::r:=λm=>by simp
 rw[b]at a ⊢;rw[b];show om a
def Ew (a:(aI<|bE++n::o::r::(k,x)::w).Nodup):cj (bE++n::o::r::(k,x)::w) k m=bE++n::o::r::(k,m)::w:=by
 have b:∀m,bE++n::o::r::(k,m)::w=(bE++[n,o,r])++(k,m)::w:=λm=>by simp
 rw[b]at a ⊢;rw[b];show om a
def vE (a:u m k n):(aI k.G).Nodup:=qM a.dt
def sQ (a:k∈m):k∈ei n r o m:=
 bB (g<|g<|g<|g a)
def u.Ex {a:az}(e:∀b k:aX,k.get? a.cp=J o->bH U b k a.cp (.bN<|eD a.bt))(d:u r #[U,n,env,X,Γ,m++a.dv o] k):u r #[U,n,env,X,Γ,m++a.G] k:=by
 have c:∀b:i,m++(a.x,i.aG (c3 192 a.df))::(a.df,.ns a.attrs)::(a.cp,b)::(kn a.bq++ea a.bt)=(m++[(a.x,i.aG (c3 192 a.df)),(a.df,.ns a.attrs)])++(a.cp,b)::(kn a.bq++ea a.bt):=λb=>by simp
 have b:u r #[U,n,env,X,Γ,(m++[(a.x,i.aG (c3 192 a.df)),(a.df,.ns a.attrs)])++(a.cp,.aG o)::(kn a.bq++ea a.bt)] k:=by rw[<-c];show d
 have:=b.qk (Y:=#[U,n,env,X,Γ,[]]) (ez:=.bN<|eD a.bt) (λd d d k=>k)<|e _ _ (b.G (a.cp,.aG o)<|bB ap).2.kk;rw[<-c]at this;show this
def zs:(k.ju,i.list ((cr<|ct m).map .str))∈ei k m o n:=bB ap
def vF:(k.fP,i.list (m.reverse.map λa=>.val<| .ref a.M))∈ei k m o n:=bB<|g ap
def vG:(k.iN,i.aG o)∈ei k m o n:=bB<|g<|g ap
def vH:(k.lc,i.bN (fO<|cr<|ct m))∈ei k m o n:=bB<|g<|g<|g ap
def zt:aN (bl "node" n<|fX k m) (fX k m):=aN.cI [1,2,3,4,5] rfl
noncomputable abbrev hM (U:aW)(ca:T):b3:=bV (bk 182<|a U) ca 182
noncomputable abbrev zu (U:aW):List cC:=lC (cf 182<|a U) 5
noncomputable abbrev Nj (U:aW):List cC:=lC (zu U) 1
def vI (a:(aI<|k++m).Nodup)(b:aI m=aI n):(aI<|k++n).Nodup:=by
 mspec ij;show ch b ?_;show ch ij ?_;show a
inductive Ey (ai:az)(aM:lb)(b:aE)(c:eg)(d:h)(e:List jW)(aH:Nat)(Γ:bg)(own:aE):Prop
 |mk (a:List jW) (f:aH=a.length) (g:aN Γ (fX ai aM)) (i:own=ei aM a c b) (cz:gP ai a d) (j:ip ai.P (ct a)=ip ai.P (ct e)):Ey ai aM b c d e aH Γ own
inductive Ez (U:aW)(ai:az)(aM:lb)(d:aE)(r:h ⊕h)(am:Nat)(Γ:bg)(own:aE):Prop
 |mk (b:List jW) (a:h) (c:v) (o:eg) (e:aN Γ (bl "node" (.str c)<|fX ai aM)) (f:own=ei aM b o d) (g:jU U o (λam=>decide (am∈a)) a.length) (cz:gP ai b a) (e:c∈cQ ai.P) (f:jV ai.P am c (ct b) a=J r):Ez U ai aM d r am Γ own
inductive EA (Y:be)(H:aP)(ai:az)(aM:lb)(c:aE)(r:h ⊕h)(am:Nat)(an:aX):Prop
 |mk (d:aZ) (b:List jW) (a:h) (e:eg) (g:∀ac∈Y.X,ac∈d) (i:jU Y.d e (λam=>decide (am∈a)) a.length) (cz:gP ai b a) (g:(match ip ai.P (ct b)with|none=>J (.inr a)|J (af,f)=>jV ai.P am af f a)=J r) (g:u H #[Y.d,Y.O,Y.I,d,fX ai aM,ei aM b e c] an):EA Y H ai aM c r am an
def Nk (K:aR U)(n:Nat)(F:T)(M:List b3)(l:aE)(d:az)(Su:ec l M)(Sv:ew l)(Sw:d.bA)(SI:∀Sx∈d.P,∀s∈Sx.2.2,s∈cQ d.P)(Sk:d.bt.length<=900)(k:lb)(m:eg)(SJ:∀K p:aX,p.get? d.cp=J m->bH U K p d.cp (.bN<|eD d.bt))(x:aP)(Sy:x.cR=J M)(P:aZ)(t:List jW)(G:h)(o:eg)(Sz:gP d t G)(Q:db)
 (SA:∀q b s p,(∀A∈P,A∈q)->gP d b G->ip d.P (ct t)=J (s,ct b)->u x #[U,n+1,hM U F,q,bl "node" (.str s)<|fX d k,ei k b o<|l++d.dv m] p->Q .next p)
 (SB:∀q p,(∀A∈P,A∈q)->gP d [] G->ip d.P (ct t)=ah->u x #[U,n+1,hM U F,q,fX d k,ei k [] o<|l++d.dv m] p->Q .brk p):
 N x #[U,n+1,hM U F,P,fX d k,ei k t o<|l++d.dv m] ((Nj U).drop 1) Q:=by
 mexact N.em<|E.u6 (ce:=Ey d k (l++d.dv m) o G t) t.length #[t,V,aN.bf _,V,Sz,V] ?_;rintro Sl q t G S ⟨b,rfl,W,rfl,w,X⟩;have Y:=w.len;have Z:((cr<|ct b).map i.str).length<1000:=by simp[cr];show b9 [.j C<| .O 900,.j y C] 0 (.e y) (.O 1000) D Sk Y
 show#[decide (0<((cr<|ct b).map i.str).length),a1.j8 (af:=.val<| .ref k.ju) (R.name (W _<|bo 1 V) (f D)<|f D) (eH.list (as.G zs)<|by show b1)<|λt=>rfl,λSf=>?_,λSf=>?_]
 .cases b with
  |nil=>simp[cr]at Sf|cons a b=>
   show bC λSg B=>?_;show g2 (w.cR a ap) λSh Sm SD SE=>?_;show B ?_;clear B Sg;have Sn:(cr<|ct<|a::b).map i.str=(cr<|ct b).map i.str++[.str a.K]:=by simp[ct,lf]
   have So:((a::b).reverse.map λa=>i.val<| .ref a.M)=(b.reverse.map λa=>i.val<| .ref a.M)++[.val<| .ref a.M]:=by simp
   have Sp:ev d.P a.K=Sh.succ:=SD▸Nh Sw Sm;have Sq:(a.cE,i.list (Sh.succ.map .str))∈l++d.dv m:=SE▸bB (g<|g<|g<|bB<|zq Sm _<|g ap);mexact N.dW (eI:=fX d k) W ?_;mexact N.qH (aM:=(aI<|ei k (a::b) o<|l++d.dv m).Nodup) (λp v=>vE v) λH=>?_;have Sr:=H;rw[ij,gz]at Sr;have Si:=ka.mp Sr.2.1;have Ss:a.cE∈aI (l++d.dv m):=c9 Sq;have SF:((cr<|ct b).map i.str).length<1000:=by rw[Sn,dF]at Z;show iC ‹_›
   mexact N.em (E.M4 K V (cF:=l) (keep:=(jX (a::b)++ov k (a::b) o [])++d.dv m) (ag:=M) Sy V ?_ Su Sv (gC:=a.M) (cz:=a.jt) (gE:=a.cE) (L:=a.la) (nz:=k.ju) (q3:=k.lc) (ge:=k.fP) (vA:=Sh.succ.map .str) (dX:=(cr<|ct b).map .str) (ot:=a.K) (vB:=b.reverse.map λa=>.val<| .ref a.M) (bF:=fO<|cr<|ct<|a::b) (.inl V)
    (R.item (r:=.val<| .ref k.fP) (R.K 2 V) R.kR<|b7.em (as.G vF) (by mspec So;simp)) ap (g ap) (sQ Sq) (Sn▸zs) vH (So▸vF) (λt=>Si.1<|t▸ap) (λt=>Si.1 (g<|g<|g<|t.symm▸Ss):k.ju≠a.cE) (λt=>(ka.mp Si.2).1 (g<|g<|t.symm▸Ss):k.fP≠a.cE) (bo 1 V) (bo 4 V) (bo 2 V) (f D) (f D) (f D) (f D) (f D) (f D)
    SF (by simp at Y ⊢;show dG (a6 Y Sk) D) (by rw[Eu];simp[ct,cr]at Z ⊢;show dL [.aL (.e y)<| .O 1000] 0 y (.O 999) D Z) (by rw[zp];simp[ct,lf]) c V rfl rfl rfl rfl rfl rfl rfl ?_ ?_)
   .show(?_:(ei k (a::b) o<|l++d.dv m).Perm _);mspec(by simp:ei k (a::b) o (l++d.dv m)=(jX (a::b)++ov k (a::b) o [])++(l++d.dv m));rw[<-hX,<-hX];show Kx.append_right _
   .rintro t p hd v;rw[e8,gl]at hd;show bC λSg B=>?_;obtain⟨s,SG,rfl⟩:=hd;show B ?_;clear B Sg;have Sj:ip d.P (ct<|a::b)=J (s,(a.K,a.la+1)::ct b):=zk (by mspec Sp;show SG);have SH:ei k ({a with la:=a.la+1}::b) o (l++d.dv m)=cj (ei k (a::b) o<|l++d.dv m) a.jt (.aG<|fc a.cE<|a.la+1):=by
     mspec(vD (bE:=[(a.M,i.aG (gd a.jt))]) H:cj (ei k (a::b) o<|l++d.dv m) a.jt (.aG<|fc a.cE<|a.la+1)=_);simp[ei,ov,Es,ct,lf]
    show SA q ({a with la:=a.la+1}::b) s p S (w.Ng _) (X.symm.trans Sj) (by mspec SH;show v)
   .rintro I p hd v;have Sj:ip d.P (ct<|a::b)=ip d.P (ct b):=by
     show zl (by mspec Sp;simpa using hd)
    have t:cj (ei k (a::b) o<|l++d.dv m) a.jt (.aG I)=((a.M,i.aG (gd a.jt))::(a.jt,.aG I)::jX b)++ov k (a::b) o (l++d.dv m):=vD (bE:=[(a.M,i.aG (gd a.jt))]) H;have s:(aI<|((a.M,i.aG (gd a.jt))::(a.jt,.aG I)::jX b)++ov k (a::b) o (l++d.dv m)).Nodup:=by show ch t ?_;rw[sA];show H
    have St:u x #[U,n+1,hM U F,q,fX d k,cj (cj (cj (cj (ei k (a::b) o<|l++d.dv m) a.jt<| .aG I) k.ju<| .list<|(cr<|ct b).map .str) k.lc<| .bN<|ny (fO<|cr<|ct<|a::b) a.K) k.fP<| .list<|b.reverse.map λa=>.val<| .ref a.M] p:=v;rw[t,vD s,Ew (by show vI s V),zr (by show vI s V),show cr (ct<|a::b)=cr (ct b)++[a.K]from lf _ _ _,Na _ _ w.kb]at St;show#[q,_,_,λA Sl=>S A Sl,#[b.length,fy _,b,V,aN.bf _,V,w.tail,Sj.symm.trans X],St.q4 (sO:=ei k b o<|l++d.dv m)<|Nl _<|Nl _<|Nm _]
 .cases b with
  |cons a b=>simp[cr]at Sf|nil=>
   mexact N.dW (eI:=fX d k) W<|N.em<|E.brk λp v=>?_;show SB q p S w (by show ch X ?_;rfl) v
def Nn (Sh:aR U)(n:Nat)(X:T)(Sw:List b3)(q:aE)(k:az)(SZ:ec q Sw)(S0:ew q)(S1:k.bA)(SL:∀S2∈k.P,∀Sx∈S2.2.2,Sx∈cQ k.P)(So:k.bt.length<=900)(m:lb)(t:eg)(Sy:∀Sh p:aX,p.get? k.cp=J t->bH U Sh p k.cp (.bN<|eD k.bt))(Sp I:aP)(S3:I.cR=J Sw)(S4:I.cB=Sp.cB)(K:Q I.cM Sp.cM)(SM:aZ)(Sq:v)(Sj:h)(Sz:eg)(S5:jU U Sz (λs=>decide (s∈Sj)) Sj.length)(S6:gP k [] Sj)(S7:Sq∈cQ k.P)(r:h ⊕h)(S8:jV k.P 1000 Sq [] Sj=J r)(SA:db)
 (S9:∀SN Sr p,r=.inl SN->et U Sp (q++k.G) (λSB Sk=>SB=q++k.G/\Sk=.list (SN.map .str)) (.ret Sr) p->SA (.ret Sr) p)
 (Ta:∀Si p o w,(∀M∈SM,M∈Si)->r=.inr w->jU U o (λs=>decide (s∈w)) w.length->gP k [] w->u I #[U,n+1,hM U X,Si,fX k m,ei m [] o<|q++k.dv t] p->SA .next p):
 N I #[U,n+1,hM U X,SM,bl "node" (.str Sq)<|fX k m,ei m [] Sz<|q++k.dv t] ((zu U).drop 1) SA:=by
 have Tb:∀{d:List jW}{o:eg},(k.cp,i.aG t)∈ei m d o (q++k.dv t):=sQ<|bB<|g<|g ap;mexact N.em<|E.u6 (ce:=Ez U k m (q++k.dv t) r) 1000 #[[],Sj,Sq,Sz,aN.bf _,V,S5,S6,S7,S8] ?_;rintro s Sf Sj Sq SO ⟨d,w,A,o,Tc,rfl,SD,F,SP,P⟩;show#[z,a1.j8 R.p5 eH.bool<|λSl=>rfl,λSl=>?_,λp=>by cases p];cases s with
 |zero=>show nomatch (P:(ah:Option (h ⊕h))=J r)|succ s=>
  have SQ:w.length<4000:=by have:=F.sP;show b9 [.j C<| .O 900,.j y C] 0 (.e y) (.O 4000) D So this
  have SR:=F.len;mexact N.dW (eI:=bl "node" (.str A)<|fX k m) Tc ?_;mexact N.qH (aM:=(aI<|ei m d o<|q++k.dv t).Nodup) (λp G=>vE G) λTd=>?_;replace P:zm k.P (λSk Sj w=>jV k.P s Sk Sj w) A (ct d) w=J r:=P;unfold zm at P;mexact N.cons (aw:=EA #[U,n+1,hM U X,Sf,[],[]] I k m (q++k.dv t) r s)
   (E.dC (aq:=decide (A∈w)) (a1.bL (R.K 0 V) (R.K 4 V) (ax.zi (aM:=λs=>decide (s∈w)) (am:=A) vG SD SQ) c) (λSm=>?_)<|λSm=>?_) ?_
  .rw[if_pos<|f Sm]at P;by_cases Sn:A∈cr (ct d)
   .rw[if_pos Sn]at P;obtain rfl:=fS P;have Te:(fO<|cr<|ct d).lookup A=J (.int ((cr<|ct d).idxOf A:Nat)):=by have:=zo A (cr<|ct d) 0 Sn;simpa[fO]using this
    have Tf:((cr<|ct d).map i.str).length<=900:=by simp[cr];show a6 ‹_› ‹_›
    mexact N.em (E.dC (aq:=z) (a1.bL (R.K 0 V) (R.K 5 V) (ax.of_eq (ax.Bs<|as.G vH) (by rw[zp];show decide_eq_true Sn)) c) (λSl=>?_)<|λp=>by cases p);mexact N.Nd (m3:=Sp) (ai:=q++k.G) (bi:=q++k.G) (co:=λSB Sk=>SB=q++k.G/\Sk=.list (((cr<|ct d).drop ((cr<|ct d).idxOf A)++[A]).map .str)) (af:=.list<|((cr<|ct d).drop ((cr<|ct d).idxOf A)++[A]).map .str) ?_ S4 K (λp G=>u.Ex Sy<|G.q4 (sO:=q++k.dv t)<|List.sublist_append_of_sublist_right<|zv [(m.ju,i.list ((cr<|ct d).map .str)),(m.fP,i.list (d.reverse.map λH=>.val<| .ref H.M)),(m.iN,i.aG o),(m.lc,i.bN (fO<|cr<|ct d))]<|q++k.dv t) (λSs Y=>c9 Y) #[V,V]<|λSr p r=>S9 _ Sr p V r;show R.of_eq (R.o3 (R.jE (ds:=(cr<|ct d).map .str) (xf:=.int ((cr<|ct d).idxOf A:Nat)) (xg:=.none) (xh:=.none) (R.K 2 V) (as.G zs) (R.item (r:=.val<| .ref m.lc) (L:=.str A) (R.K 5 V) (R.K 0 V)<|b7.bN (as.G vH) Te) V rfl (.int _) .none .none (f D) (by unfold aD;show b1)) (R.list (W.cons (af:=.str A) (R.K 0 V) W.nil V)<|du D) as.list as.list ?_) ?_
    .unfold aD;simp only[eC,yv];show b9 [.j C<| .O 900,.j y C] 0 (.S y<| .e<| .O 0) (.O<|2^24) D Tf<|B8 ((cr<|ct d).map i.str) (J ((cr<|ct d).idxOf A:Int)) ah ah
    .rw[r6];simp[No]
   .rw[if_neg Sn]at P;mexact N.em (E.dC (aq:=aj) (a1.bL (R.K 0 V) (R.K 5 V) (ax.of_eq (ax.Bs<|as.G vH) (by rw[zp];show decide_eq_false Sn)) c) (λp=>by cases p)<|λSl=>N.nil λp G=>?_);show#[Sf,d,w,o,λM Y=>Y,SD,F,P,G.eh zt]
  .have St:A∉w:=of_decide_eq_false Sm;rw[if_neg St]at P;obtain⟨A,l,Sj,Tg,rfl,Th⟩:=ve SP;have SS:l∈k.bt:=by mspec Tg;simp
   have ST:∀Ss∈lM l,Ss∈q++k.dv t:=λSs A=>bB<|g<|g<|g<|bB<|zq SS Ss A;have SU:l.name∉cr (ct d):=λp=>St<|F.pw _ p;mexact N.MY (ac:=m.iN) (am:=l.name) (Er:=o) (aM:=λs=>decide (s∈w)) (n:=w.length) (R.K 0 V) (R.K 4 V) vG SD SQ c V rfl rfl λZ SE=>?_;rw[if_neg<|by simp[St]]at SE;have Ti:jU U Z (λs=>decide (s∈l.name::w)) (l.name::w).length:=by
    have:(λA=>decide (A∈w)||decide (A=l.name))=λs=>decide (s∈l.name::w):=by funext A;simp[Bool.or_comm]
    rw[this]at SE;show SE
   mspec Ni (bE:=jX d) Td;show(?_:N I #[U,n+1,hM U X,Sf,bl "node" (.str l.name)<|fX k m,ei m d Z<|q++k.dv t] _ _);mexact N.M1 (ac:=m.fP) (ds:=d.reverse.map λH=>.val<| .ref H.M) (aU.MZ (ag:=l.cE) (ds:=l.succ.map .str) (Sh.eZ V (by room) (by decide+kernel) (f D) V rfl rfl (f D)) (R.fl (r:=.val<| .ref l.S) (af:=.val<| .ref l.cE) (R.item (r:=.val<| .ref k.cp) (L:=.str l.name) (R.K 1 V) (R.K 0 V)<|b7.bN (as.aG Tb Sy) Th) (f8.slot (aw:=a U) Sh.bD (ac:=l.S) (b:=95) (ds:=[.str l.name,.int l.cx,.val<| .ref l.cE]) (sQ<|ST _ ap) V (.ref _) u2) V) (sQ<|ST _<|g ap) V rfl rfl) (R.K 3 V) vF (by simp;unfold aD;show dG (a6 SR So) D) c V rfl rfl ?_;intro _ _ _ A;show cm A λx B Sj=>?_;show tI Sj ?_;intro SF;show#[g<|g vF,?_];mexact N.qH (aM:=(aI<|(B,i.aG (gd x))::(x,.aG (fc l.cE 0))::ei m d Z (q++k.dv t)).Nodup) (λp G=>by have:=vE G;rwa[sA]at this) λSG=>?_;show(?_:N I #[U,n+1,hM U X,B::x::Sf,bl "node" (.str l.name)<|fX k m,cj (((B,i.aG (gd x))::(x,.aG (fc l.cE 0))::jX d)++ov m d Z (q++k.dv t)) m.fP<| .list<|(d.reverse.map λH=>.val<| .ref H.M)++[.val<| .ref B]] _ _);mspec zr (bE:=(B,i.aG (gd x))::(x,.aG (fc l.cE 0))::jX d) SG;have SH:((cr<|ct d).map i.str).length<1000:=by simp[cr];show b9 [.j C<| .O 900,.j y C] 0 (.e y) (.O 1000) D So SR
   mexact N.br (E.Ne (bF:=fO<|cr<|ct d) (am:=l.name) (af:=.int (((cr<|ct d).map i.str).length:Nat)) (R.jH (ds:=[.val<| .ref m.ju]) (Sh.eZ V (by room) (by decide+kernel) (f D) V rfl rfl (f D)) (W.cons (R.K 2 V) W.nil V) (bO.len (as.G<|bB ap)<|by show b1) V c V) (R.K 5 V) (R.K 0 V) (bB<|g<|g<|g ap) (by rw[Eu];simp at SH;unfold aD;show dL [.aL y<| .O 1000] 0 y (.O<|2^24) D SH) V) ?_;mspec Ew (bE:=(B,i.aG (gd x))::(x,.aG (fc l.cE 0))::jX d) (by show vI SG V);mexact N.em (E.dQ (E.Ds (bU:=λSl Sl=>False) (af:=.str l.name) (ds:=(cr<|ct d).map .str) (ac:=m.ju) (R.K 0 V) (R.K 2 V) (bB ap) (by unfold aD;show dL [.aL y<| .O 1000] 0 y (.O<|2^24) D SH) c V rfl rfl) λH p r=>?_);cases H with
   |next=>
    have Tj:=vD (bE:=(B,i.aG (gd x))::(x,.aG (fc l.cE 0))::jX d) (ac:=m.ju) (tP:=i.list<|(cr<|ct d).map .str) (af:=.list<|(cr<|ct d).map .str++[.str l.name]) (b4:=(m.fP,i.list ((d.reverse.map λH=>.val<| .ref H.M)++[.val<| .ref B]))::(m.iN,i.aG Z)::(m.lc,i.bN (ie (fO<|cr<|ct d) l.name<| .int (((cr<|ct d).map i.str).length:Nat)))::(q++k.dv t))<|vI SG V;have Tk:(B,i.aG (gd x))::(x,.aG (fc l.cE 0))::(jX d++(m.ju,i.list ((cr<|ct d).map .str++[.str l.name]))::(m.fP,i.list ((d.reverse.map λH=>.val<| .ref H.M)++[.val<| .ref B]))::(m.iN,i.aG Z)::(m.lc,i.bN (ie (fO<|cr<|ct d) l.name<| .int (((cr<|ct d).map i.str).length:Nat)))::(q++k.dv t))=ei m (#[l.name,0,B,x,l.cE]::d) Z (q++k.dv t):=by
     rw[a7];mspec M9 _ _ SU;simp[ei,ov,Es,ct,lf]
    have A:u I #[U,n+1,hM U X,B::x::Sf,bl "node" (.str l.name)<|fX k m,ei m (#[l.name,0,B,x,l.cE]::d) Z<|q++k.dv t] p:=by show ch Tk ?_;show(congrArg (λo=>u I #[U,n+1,hM U X,B::x::Sf,bl "node" (.str l.name)<|fX k m,o] p) Tj).mp r
    show#[B::x::Sf,#[l.name,0,B,x,l.cE]::d,l.name::w,Z,λM Y=>g<|g Y,Ti,#[λH SI=>?_,?_,λs K=>?_,ka.mpr #[St,F.q5],λs K=>?_],P,A.eh zt]
    .show ay (a5 SI) (λTl=>?_) λSI=>?_
     .obtain rfl:=Tl;show fo l SS V rfl
     .show F.cR H SI
    .rw[ct];mspec b8;rw[lf];show gz.mpr (cH F.pv (by simp) (λM Sg l Sm SV=>by rw[bX Sm]at SV;rw[SV]at Sg;show SU Sg))
    .rw[ct,b8,lf]at K;show cL K (λK=>?_) λK=>?_
     .show g<|F.pw s K
     .mspec bX K;show ap
    .show gg K ?_ λK=>?_
     .show SP
     .show F.iN s K
   |_=>show r.elim
  .rintro p ⟨SW,SX,SJ,Su,SF,SY,Tm,Sv,G⟩;show eQ #[U,n+1,hM U X,SW,fX k m,ei m SX Su<|q++k.dv t] I V rfl rfl rfl rfl G (Nk Sh n X Sw q k SZ S0 S1 SL So m t Sy I S3 SW SX SJ Su Tm _ (λSi d Sx p SK F Sg G=>?_) λSi p SK F Sg G=>?_)
   .rw[Sg]at Sv;show#[Si,_,_,λM Y=>SK M<|SF M<|SO M Y,#[s,fy _,d,SJ,Sx,Su,aN.bf _,V,SY,F,Ev SL _ Sg,Sv],G]
   .rw[Sg]at Sv;show Ta Si p Su SJ (λM Y=>SK M<|SF M<|SO M Y) (fS Sv).symm SY F G
end
section
variable {U:aW}
noncomputable abbrev EB (U:aW)(ai:az)(aM:lb)(b:aE)(c:Option h)(L:Nat):iR:=λΓ own=>aN Γ (fX ai aM)/\∃o a,own=ei aM [] o b/\jU U o (λam=>decide (am∈a)) a.length/\gP ai [] a/\lU ai.P 1000 ((cQ ai.P).drop L) a=J c
def Np (K:aR U)(n:Nat)(L:T)(M:List b3)(i:aE)(a:az)(Sj:ec i M)(Sk:ew i)(Sl:a.bA)(Sm:∀Sn∈a.P,∀So∈Sn.2.2,So∈cQ a.P)(Z:a.bt.length<=900)(k:lb)(q:eg)(Sp:∀K b:aX,b.get? a.cp=J q->bH U K b a.cp (.bN<|eD a.bt))(x l:aP)(Sq:l.cR=J M)(Sr:l.cB=x.cB)(Ss:Q l.cM x.cM)(s:aZ)(A:Nat)(g:v)(Sf:(cQ a.P)[A]?=J g)(f:h)(o:eg)(B:jU U o (λt=>decide (t∈f)) f.length)(P:gP a [] f)(m:Option h)(d:lU a.P 1000 ((cQ a.P).drop A) f=J m)(F:db)
 (St:∀G b,et U x (i++a.G) (λSu Sv=>Su=i++a.G/\Sv=ou m) (.ret G) b->F (.ret G) b) (Sg:∀b,nf #[U,n+1,hM U L,s,[],[]] l (EB U a k (i++a.dv q) m<|A+1) b->F .next b/\F .cont b):
 N l #[U,n+1,hM U L,s,bl "node" (.str g)<|fX a k,ei k [] o<|i++a.dv q] (zu U) F:=by
 show p (gG.mp Sf) λSw Sx=>?_;replace d:=(rK Sw)▸d;replace d:=Sx▸d;have Sh:f.length<4000:=by have:=P.sP;show b9 [.j C<| .O 900,.j y C] 0 (.e y) (.O 4000) D Z this
 by_cases H:g∈f
 .replace d:=(if_pos H).symm.trans d;mexact N.cons (aw:=λu=>False) (E.dC (aq:=z) (a1.bL (R.K 0 V) (R.K 4 V) (ax.of_eq (ax.zi (aM:=λt=>decide (t∈f)) (am:=g) vG B Sh)<|decide_eq_true H) c) (λu=>N.cons (aw:=λu=>False) (E.cont λb w=>?_) λu S=>S.elim)<|λb=>by cases b) λu S=>S.elim;show(Sg b #[s,_,_,λS F=>F,#[zt,o,f,V,B,P,d],w]).2
 .replace d:=(if_neg H).symm.trans d;mexact N.br (X:=s) (Γ:=bl "node" (.str g)<|fX a k) (own:=ei k [] o<|i++a.dv q) (E.dC (aq:=aj) (a1.bL (R.K 0 V) (R.K 4 V) (ax.of_eq (ax.zi (aM:=λt=>decide (t∈f)) (am:=g) vG B Sh)<|decide_eq_false H) c) (λb=>by cases b)<|λu=>N.nil λb w=>w) ?_;obtain⟨r,I,Si⟩:∃r,jV a.P 1000 g [] f=J r/\(match r with| .inl W=>m=J W| .inr Sy=>lU a.P 1000 ((cQ a.P).drop<|A+1) Sy=J m):=by
   cases I:jV a.P 1000 g [] f with
   |none=>replace d:=I▸d;cases d
   |some r=>show av r V (by cases r<;>(replace d:=I▸d;first|(obtain rfl:=fS d;rfl)|show d))
  show Nn K n L M i a Sj Sk Sl Sm Z k q Sp x l Sq Sr Ss s g f o B P (ib Sf) r I _ (λW G b Y Sz=>by
   subst Y;show St G b ?_;show(show m=J W from Si)▸Sz) λSA b SB SD SE Y SF SG w=>by
   subst Y;show(Sg b #[SA,_,_,SE,#[aN.bf _,SB,SD,V,SF,SG,Si],w]).1
def Nq (x:aR U)(n:Nat)(s:T)(y:List b3)(d:aE)(b:az)(L:ec d y)(M:ew d)(O:b.bA)(P:∀S∈b.P,∀W∈S.2.2,W∈cQ b.P)(Y:b.bt.length<=900)(e:lb)(f:eg)(A:∀x c:aX,c.get? b.cp=J f->bH U x c b.cp (.bN<|eD b.bt))(k:aP)(Z:k.cR=J y)(X:aZ)(o:eg)(t:jU U o (λm=>aj) 0)(p:Option h)(Sf:k9 b.P=J p):
 N k #[U,n+1,hM U s,X,fX b e,ei e [] o<|d++b.dv f] ((cf 182<|a U).drop 5) (et U k (d++b.G) λSg v=>Sg=d++b.G/\v=ou p):=by
 have G:∀{S:List jW}{o:eg},(b.cp,i.aG f)∈ei e S o (d++b.dv f):=sQ<|bB<|g<|g ap;mexact N.cons (aw:=λc=>∃l,u k #[U,n+1,hM U s,l,[],d++b.G] c/\p=ah)
  (E.ms (ce:=EB U b e (d++b.dv f) p) (λm m=>False) [] (ei e [] o<|d++b.dv f) V (aU.of<|R.K 0 V)
   (λS c=>by cases c;show .inr #[f,λB Γ own S=>by show ao S λm W=>?_;show cm W λo C S=>?_;show ci S λm=>?_;show G]) (cA.bN<|as.aG G A) #[aN.bf _,o,[],V,by simpa using t,#[λH c=>(by cases c),.nil,λSh c=>(by cases c),.nil,λSh c=>(by cases c)],Sf] (λv m=>.name<| .inl V) ?_ ?_ (λm=>rfl)) ?_
 .rintro B v l Γ own Si hd D Sj Sk;show bC λq j=>?_;obtain⟨I,o,C,rfl,t,K,w⟩:=D;show j ?_;clear j q;obtain⟨r,Sl,rfl⟩:∃r,(cQ b.P)[B]?=J r/\v=.str r:=by
   simp only[e8,gl]at hd;show bC λq j=>?_;obtain⟨Sm,⟨Sn,So,rfl⟩,rfl⟩:=hd;show j ?_;clear j q;show av Sn.name (by simp[az.P,So]) V
  show N.dW (eI:=bl "node" (.str r)<|fX b e) (I.bl _ _)<|Np x n s y d b L M O P Y e f A k (k.at Si) Z V Sj l B r Sl C o t K p w _ (λm c v=>v) λc m=>#[m,m]
 .rintro l Γ own c Sk (⟨I,o,C,rfl,t,K,w⟩|H) F
  .show av l (u.Ex A<|(F.eh aN.nil).q4 (sO:=d++b.dv f) ?_) ?_
   .show zv [(e.ju,i.list []),(e.fP,i.list []),(e.iN,i.aG o),(e.lc,i.bN [])]<|d++b.dv f
   .rw[Nr<|by simp[az.P]]at w;obtain rfl:=fS (w:J ah=J p);rfl
  .show H.elim
 .rintro c D;show bC λq j=>?_;show aY D λl F c=>?_;show j ?_;clear j q;show eQ #[U,n+1,hM U s,l,[],d++b.G] k V rfl rfl rfl rfl F (N.qE (af:=.none) R.gF V (Q.bf _) (λSm b=>c9 b) (eJ _) #[V,by mspec c;rfl])
def EC (a b r c:aE):(a++(b++r))++c=a++(b++(r++c)):=(hX ..).trans (congrArg (a++·) (hX ..))
def Nt (m:aR U)(n:Nat)(j:T)(X:aZ)(e:aP)(f:List b3)(d:aE)(b:az)(p:e.cR=J f)(q:ec d f)(r:ew d)(s:b.bA)(t:∀u∈b.P,∀v∈u.2.2,v∈cQ b.P)(w:b.bt.length<=900)(g:Option h)(x:k9 b.P=J g)(c:lb)(o:eg)(y:jU U o (λD=>aj) 0):
 N e #[U,n+1,hM U j,X,fX b c,ei c [] o<|d++b.G] ((cf 182<|a U).drop 5) (et U e (d++b.G) λA k=>A=d++b.G/\k=ou g):=by
 mexact N.dv (ac:=b.cp) (bF:=eD b.bt) (EC [(c.ju,i.list []),(c.fP,i.list []),(c.iN,i.aG o),(c.lc,i.bN [])] d [(b.x,i.aG (c3 192 b.df)),(b.df,.ns b.attrs)]<|(b.cp,i.bN (eD b.bt))::(kn b.bq++ea b.bt)).symm (λk hd=>?_) λl B=>?_
 .obtain⟨k,C,rfl⟩:=ck hd;obtain⟨k,_,rfl⟩:=ck C;show#[_,V]
 mspec EC [(c.ju,i.list []),(c.fP,i.list []),(c.iN,i.aG o),(c.lc,i.bN [])] d [(b.x,i.aG (c3 192 b.df)),(b.df,.ns b.attrs)]<|(b.cp,.aG l)::(kn b.bq++ea b.bt);show Nq m n j f d b q r s t w c l B e p _ o y g x
def Nu (d:aR U)(n:Nat)(l:T)(X:aZ)(e:aP)(m:List b3)(c:aE)(b:az)(v:e.cR=J m)(w:ec c m)(x:ew c)(y:b.bA)(A:∀f∈b.P,∀g∈f.2.2,g∈cQ b.P)(B:b.bt.length<=900)(q:Option h)(C:k9 b.P=J q):
 N e #[U,n+1,hM U l,X,[("self",.val (.ref b.x))],c++b.G] (cf 182<|a U) (et U e (c++b.G) λj k=>j=c++b.G/\k=ou q):=by
 have f:=b.ik (Y:=#[U,n+1,hM U l,X,[("self",.val (.ref b.x))],c++b.G]) d V (bB b.eK) (show(b.df,i.ns b.attrs)∈c++b.G from bB b.eT);mexact N.br (E.assign (af:=.val<| .ref b.cp) (R.fl (r:=.val<| .ref b.x) (R.K 0 V) f.1 V) (.inl V) V) ?_;mexact N.m4 (.inl V) λf g j=>?_;mexact N.m4 (.inl V) λg j k=>?_;mexact N.kj (aU.MX (d.eZ V (by room) (by decide+kernel) (by decide) V rfl rfl (by decide)) V) (.inl V) V ?_;intro _ _ _ s;show cm s λj o t=>?_;show Hp t λu u D=>?_;intro k;mexact N.kj (aU.Cv<|Dj d) (.inl V) V ?_;intro _ _ _ s;show p s λk t=>?_;show wZ t λu u=>?_;intro s;show N.dW (eI:=fX b #[f,g,j,k]) (aN.cI [4,3,2,1,0] rfl)<|N.lO (bi:=ei #[f,g,j,k] [] o<|c++b.G) (List.Perm.append_right (c++b.G) (List.reverse_perm [(k,i.bN []),(j,i.aG o),(g,i.list []),(f,i.list [])]).symm)<|Nt d n l _ e m c b v w x y A B q C #[f,g,j,k] o D
end
section
variable {Y:be}{H:aP}
def jd.Nv {ac:T}{h:ia Bool}(I:R Y o (.val<| .ref ac))(q:(ac,.bN bF)∈Y.G)
 (K:eval (.Call (.Attribute o "values" w) [] [] k) Y.I=(do
  let x <-eval o Y.I
  es w.atName
  let(M,first) <-e7 [x] (gK x "values" h)
  dP k M first (cY k<|bh [] Y.I) [])):jd Y (.Name Sf Sg) (.Call (.Attribute o "values" w) [] [] k) (bF.map (·.2)) λd=>True:=.mk λk s x t w u i=>by
 show jP (pl:=h) (I.go k s _ t w u λe a v y A=>?_) K;have B:=u.keep y;show fB.bN (Y:=Y) (r:=.val<| .ref ac) (as.G q) Nw PySem.F.type_dict_values k {s with heap:=a,toks:=v} _ t e h B A ?_;obtain rfl:=A.is;show gi ((B.G _ q).2.mc) λf h g L N=>?_;show callWith_method0<|xQ Nw g.typeIs PySem.F.entry_dict_values (PySem.F.args_dict_values_1 _) (meets_dict_values (strKind Y.d.prog Y.d.w) ac h) #[#[_,g],?_];show p g.dictAt λC h=>?_;have O:=h.lt_size;have D:=h.push {cls:=.type "dict_values",data:=.fields (aRR [.ref ac])};have j:Q (a.push {cls:=.type "dict_values",data:=.fields (aRR [.ref ac])}) a:=Q.push _ _;have m:(a.push {cls:=.type "dict_values",data:=.fields (aRR [.ref ac])}).IsValuesView a.objs.size ac:=fo _ (dM a c) V rfl;have P:(a.push {cls:=.type "dict_values",data:=.fields (aRR [.ref ac])}).objs.size=a.objs.size+1:=mi _ _;generalize a.push {cls:=.type "dict_values",data:=.fields (aRR [.ref ac])}=h₂ at*;show wpAny_pyIter_values m D ?_;have n:f.length=(bF.map (·.2)).length:=by have:=congrArg fL L;simpa using this
 have k:ac<h₂.objs.size:=P▸qc O;show i h₂ v h₂.objs.size [h₂.objs.size,ac] (λb e=>∃h,f[b]?=J (h,e)) (λb a=>a.IsValIter h₂.objs.size ac b f.length C/\a.DictAt (strKind Y.d.prog Y.d.w) ac f C) _ (y.trans j) #[d3,(λq s=>?_),
  #[(fo _ (dM _ c) V rfl),D.push _],(λb a t=>by show aY t.1 λo H d=>?_;show dn o H),rN (let#[o,_,_,H,_]:=g;#[o,j _ _ H]),(λd d=>.inr<| .inr trivial),(Q.push _ _),(λb e m E=>?_),(λq b a e d d g t u d i=>bc i)]
 .show ch n ?_;show Walks.dictValues s _ _ (show ac≠h₂.objs.size from g6 k) _ _
 .show p m λh S=>?_;rw[<-n]at E;have F:b<(bF.map (·.2)).length:=by show ch n ?_;show E
  show aY (N.get<|gm F) λa G r=>?_;rw[(show(f.map (·.2))[b]?=J e from by simp[S])]at G;obtain rfl:=fS G;show av _ (gm F)<|r.keep<|l.keep _ j
def aU.Nx {e:Type}{ds:List e}{dE:e->i}{cP:e->bg}(p:bg)(d:e->Bool)(f:e->i)
 (G:iT k Y.I=pure w) (I:∀q∈k.names,q.2≠ .cell) (K:k.kind=.function) (L:∀q∈k.names,q.2=.local->k.names.lookup q.1=J .local)
 (N:jd Y target iter (ds.map dE) So) (O:ds.length<=aD) (P:∀a∈ds,jM target (dE a) (cP a)) (Q:∀a∈ds,∀b∈cP a,k.names.lookup b.1=J .local)
 (S:∀b∈p,b∈Y.q/\hB Y.I k w b.1)
 (T:∀h Z a,a∈ds->mj (eR Y k w h Z<|cP a++p) B (d a))
 (U:∀h Z a,a∈ds->d a=z->R (eR Y k w h Z<|cP a++p) M (f a))
 (W:∀A,iB iter Y.I A=pure A) (X:∀t it u env,(jL (.ListComp M [#[target,iter,B,0]] k pos) t it u env).isFrame=aj):
 aU Y H (.ListComp M [#[target,iter,B,0]] k pos) (λSf Sg a=>∃c,c∉Y.X/\c∉H.cB/\Sf=c::Y.X/\Sg=(c,.list ((ds.filter d).map f))::Y.G/\a=.val (.ref c)):=.mk λe k q w a v b=>by
 rw[uj];show ug (ic:=ah) p d f G I K L N O P Q S T U W X a.todA v.tocV ?_;intro k p a j h Sh C Si t e u;show av a e<|λD x=>?_;have r:=v.iF C;obtain⟨y,n,Sj,Sk⟩:=u;have E:D.get? j=J {cls:=.type "list",data:=.seq y n}:=x.extBut _ _ Si Sj;have a:=ui t x Sh;have Sl:=v.gI C #[_,E] a;have Sm:aO Y.d (l D<|j::Y.X) y.toList ((ds.filter d).map f):=Sk.keep λc o s=>by
  have Sn:=l.of _ _ s;have F:c∉h::j::Y.X:=λm=>by replace s:=(cU _ m)▸s;cases s
  show cb _ (x.extBut _ _ (λb=>F<|b▸ap) Sn) λm=>F<|g m
 have a:=Sl.ig (ac:=j) (af:=.list<|(ds.filter d).map f) ap (.list (a3:=y.toList) #[n,by simpa using E] Sm) r.2.2.1 r.1;show b _ _ .up #[_,_,_,(w3 j r.2.1 r.2.2.2 V rfl rfl),λc m=>g m,a,.val _]
def jd.of_eq (a:jd Y k iter ds m)(b:ds=n):jd Y k iter n m:=b▸a
def E.uM {co:aZ->aE->Prop}(n:aU Y H k w)(p:f6 k (J<| .Attribute o m x) pos.line Y.I=pure aj)
 (q:∀a c d,w a c d->(∀e∈Y.X,e∈a)->∃b,R #[Y.d,Y.O,Y.I,a,Y.q,c] o r/\fb #[Y.d,Y.O,Y.I,a,Y.q,c] H r m d b/\co a b):
 E Y H (.Assign [.Attribute o m x] k pos) (c2 (λf=>∃a b,co a b/\(∀e∈Y.X,e∈a)/\u H #[Y.d,Y.O,Y.I,a,Y.q,b] f) bU):=
 .mk λe k f g m=>Ct (n.go e k _ f g m λs h t #[a,c,d,v,i,j,w]=>by
  show g2 (q a c d v i) λb k m n=>?_;show k.go e h _ f g.todA j.tocV λd q v c x=>?_;show m.go e {h with heap:=q,toks:=v} _ f d s g.todA (j.keep c) x (w.keep<|l.keep _ c) λh' h e=>#[t.gH,a,b,n,i,e]) p
def E.kj (d:aU Y H m n)(e:fM Y.I k)(f:f6 m (J<| .Name k o) pos.line Y.I=pure aj):
 E Y H (.Assign [.Name k o] m pos) (c2 (λg=>∃a b c,n a b c/\(∀h∈Y.X,h∈a)/\u H #[Y.d,Y.O,Y.I,a,bl k c Y.q,b] g) bU):=
 .mk λg h i j k=>o9 (d.go g h _ i j k λq r l #[a,b,c,m,n,o,p]=>
  u.gn (Y:=#[Y.d,Y.O,Y.I,a,Y.q,b]) o e p λh' h d d d d g=>#[l.gH,a,b,c,m,n,g]) f
def R.Ny:R Y (.JoinedStr [.Constant (.str k) m n] pos) (.str k):=.mk λa b c d e f g=>JoinedStr_one<|R.cy.go a b c d e f g
end
section
variable {U:aW}{n:Nat}{h0:aX}{fW:aZ}{aT:T}{a8:iG}{body:c6}{ai:aE}{Γ:bg}{ae aH:T}{kt:iG}{dX:h}{nu:List cC}{ds gA:dp}
structure vJ (U:aW)(a8:iG)(ca aT:T)(ag:List b3)(cF ai:aE)(X:aZ)(an b:aX)(a:eg):Prop where
 bI:ec ((ca,.frame a)::cF) (eE a8 ca aT::ag)
 all:ew ((ca,.frame a)::cF)
 G:∀ak∈((ca,i.frame a)::cF)++ai,ak.1∈ca::X/\bH U (l b<|ca::X) b ak.1 ak.2
 apart:(((ca,i.frame a)::cF)++ai).Pairwise λae bx=>ae.1≠bx.1
 up:∀ac o,(cq an<|aI<|cF++ai).get? ac=J o->ac≠ca/\(cq b<|aI<|((ca,i.frame a)::cF)++ai).get? ac=J o
 cw:∀ak∈cF++ai,ak.1≠ca
def vJ.of (B:a8.scope.kind=.function)(C:ec k M)(D:ew k)(E:∀h∈X,∃o,m.get? h=J o)(s:∀a∈k++ai,a.1∈X/\bH U (l m X) m a.1 a.2)(F:(k++ai).Pairwise λae H=>ae.1≠H.1)(t:m.get? r=ah)(u:Q x m)(I:x.get? r=J w)(j:∃q n,w.data=.dict q n):vJ U a8 r aT M k ai X m x w:=by
 show cm j λq n j=>?_;have y:∀a∈k++ai,a.1≠r:=λa b c=>by
  show p (E _ (s a b).1) λo f=>?_;rw[c,t]at f;cases f
 have K:Q (l x<|r::X) (l m X):=λh o c=>by
  have d:=l.of _ _ c;show cb _ (u _ _ d) λe=>?_;show ay (a5 e) (λi=>?_) λe=>?_
  .obtain rfl:=i;rw[t]at d;cases d
  .rw[cU _ e]at c;cases c
 show#[λenv v=>?_,λa b=>?_,λa b=>?_,gq.mpr #[λa b c=>y a b c.symm,F],λh o c=>?_,y]
 .rcases a5 v with rfl|v
  .show#[by show(?_:a8.scope.kind≠ .module);mspec B;decide,r,w,q,n,V,ap,j]
  .show ao (C env v) λm x=>?_;show j5 x λv y B C E=>?_;show cd E λx F H=>?_;show#[m,v,y,B,C,x,g F,H]
 .show ay (a5 b) (λi=>?_) λb=>?_
  .obtain rfl:=i;show j6 w q n V j
  .show D a b
 .show ay (a5 b) (λi=>?_) λb=>?_
  .obtain rfl:=i;show#[ap,.frame (gE:=w.slots) I]
  .show#[g (s a b).1,(s a b).2.keep K u]
 .have d:=ff _ c;have A:h≠r:=λf=>by rw[f,t]at d;cases d
  show#[A,cb _ (u _ _ d) λe=>?_];show ay (d2 e) (λf=>?_) λe=>?_
  .show A f
  .rw[cU _ (show h∈aI (k++ai)from e)]at c;cases c
def on.zw (C:iL h0 aT a8 body)(G:U.B.NoLimit)(H:hY U a8 h0 (l h0 fW) Γ)
 (I:∀(a:T)(X:aZ)(s:cW)(b:aS)(v:bY)(w:bY),dA s (n+1)->cV #[U,n+1,eE a8 a aT,X,Γ,ai] b.heap->(∀f h' x,Q h' b.heap->aO U (l h' X) f ds->au U.M s (dV (.ref aH)<| .ref ae::f) v w {b with heap:=h',toks:=x})->au U.M s (eval body<|eE a8 a aT) v w b)
 (K:g9 U aH kt dX nu) (L:dX.length=gA.length) (O:∀(b:aS)(X:aZ)(f:cv),aO U (l b.heap X) f ds->(∀j∈X,∃o,b.heap.get? j=J o)->gJ U kt #[.ref ae::f,[]] dX X gA b)
 (P:∀a y fW h0 k d,ec d k->ew d->N #[h0,fW,J k,aj] #[U,n,bV kt a aH,y,dX.zip gA,d++ai] nu (et U #[h0,fW,J k,aj] (d++ai) λt p=>∃e,t=d++e/\M e p)):on U (n+2) h0 fW aT ai M:=.mk λs b X k d v w R S V W Y D E Z F Sf Sg Sh=>by
 show hS<|vl (n:=n+1) (C.keep E) G R Y D (H.keep E Z) (show ∀c∈ai,c.1∈X/\bH U (l b.heap X) b.heap c.1 c.2 from λc aH=>F c<|bB aH) λa s x E v w G H=>?_;show I a (a::X) _ {b with heap:=s,toks:=x} _ _ v w λf I R s Si=>?_;have A:=w.keep s;show eY H λu R Y w x=>?_;have h:vJ U a8 a aT k d ai X b.heap I u:=.of C.kind V W D F Sf E (G.trans s) (s _ _ w)<|dN _ _ x;show hS (K.DL (fr:=J<|eE a8 a aT::k) (X:=a::X) (ai:=((a,.frame u)::d)++ai) (co:=λt p=>∃e,t=((a,.frame u)::d)++e/\M e p) (ds:=gA) v (λSh Sj=>by cases Sj;show rX S) A.base A.cw (O _ _ f Si A.cw) L h.G h.apart (gen:=aj) (λf y h0=>P f y _ h0 _ _ h.bI h.all) λSk Sl t p Sm B q Sn=>?_);obtain⟨e,rfl,B⟩:=B;have f:∀j∈X++aI (d++e),j∈(a::X)++aI (((a,i.frame u)::d)++e):=λj a=>by
  show cL a (λaH=>?_) λaH=>?_
  .show bJ<|g aH
  .show bB<|g aH
 show Sg Sk Sl e p (cs.up.trans Sm) B #[λj o r=>q.keep _ _ (h.up j o r).2,λc m=>(q.hF c<|g m).keep (l.sub f)<|Q.bf _,λc m=>?_,(gq.mp q.apart).2,λc m=>?_]<|Sn.keep<|l.sub f
 .cases r:(cq b.heap<|aI<|d++ai).get? c.1 with
  |none=>rfl|some o=>have:=q.new c<|g m;rw[(h.up _ o r).2]at this;cases this
 .show(d2<|q.all c<|g m).elim (λr=>absurd r<|h.cw c m) id
def ks.zw (E:iL h0 aT a8 body)(N:U.B.NoLimit)(O:hY U a8 h0 (l h0 fW) Γ)
 (P:∀(b:T)(X:aZ)(t:cW)(f:aS)(x:bY)(y:bY),dA t (n+1)->cV #[U,n+1,eE a8 b aT,X,Γ,ai] f.heap->(∀h h' A,Q h' f.heap->aO U (l h' X) h ds->au U.M t (dV (.ref aH)<| .ref ae::h) x y {f with heap:=h',toks:=A})->au U.M t (eval body<|eE a8 b aT) x y f)
 (R:g9 U aH kt dX nu) (S:dX.length=gA.length) (W:∀(f:aS)(X:aZ)(h:cv),aO U (l f.heap X) h ds->(∀a∈X,∃o,f.heap.get? a=J o)->gJ U kt #[.ref ae::h,[]] dX X gA f)
 (Y:∀b B u m j,ec j m->ew j->u.cR=J m->(∀a∈da m,a∈u.cB)->dZ #[U,n,bV kt b aH,B,dX.zip gA,j++ai] u u m (j++ai) (λv r h=>∃q,v=j++q/\M q r h) nu):ks U (n+2) h0 fW aT ai M:=.mk λt f X m j x y Sf F Sg Sh Si G u Sj H Sk Sr C=>by
 show hS<|vl (n:=n+1) (E.keep u) N Sf Si G (O.keep u Sj) (show ∀c∈ai,c.1∈X/\bH U (l f.heap X) f.heap c.1 c.2 from λc aH=>H c<|bB aH) λb t A N y x O Sf=>?_;show P b (b::X) _ {f with heap:=t,toks:=A} _ _ y x λh P u t Si=>?_;have u:=x.keep t;show eY Sf λx Sr I A Sj=>?_;have i:vJ U a8 b aT m j ai X f.heap P x:=.of E.kind Sg Sh G H Sk N (O.trans t) (t _ _ A)<|dN _ _ Sj;have t:∀a∈da (eE a8 b aT::m),a∈b::X:=λa s=>by
  show g0 (i.bI.da a s) λc k=>?_;show(i.G c<|bJ k).1
 show hS<|R.DK (ag:=eE a8 b aT::m) (X:=b::X) (ai:=((b,.frame x)::j)++ai) (co:=λv r h=>∃q,v=((b,.frame x)::j)++q/\M q r h) (ds:=gA) y (rX F) u.base u.cw (W _ _ h Si u.cw) S i.G i.apart (gen:=aj) (λh B=>Y h B _ _ _ i.bI i.all V t) λSl u v r Sm Sn D d=>?_;obtain⟨q,rfl,D⟩:=D;obtain⟨So,Sp,Z,Sq,d⟩:=d;show wpAny_leaves_onW (rX F) (L:=b) V d.qS λu t h=>?_;have K:=gq.mp d.apart;show C Sl _ q r Sm (cs.up.trans<|Sn.trans .up) D #[So,Sp,Z,Sq,#[λa o e=>d.keep _ _ (i.up a o e).2,λc k=>d.hF c<|g k,λc k=>?_,K.2,λc k=>?_,λa s=>d.po a<|g s,λa s=>d.qQ a<|g s,d.qR,λa o n aH C=>?_,t,d.bR.of_slots h,d.sC,d.slots.trans h]]
 .cases e:(cq f.heap<|aI<|j++ai).get? c.1 with
  |none=>rfl|some o=>have:=d.new c<|g k;rw[(i.up _ o e).2]at this;cases this
 .show(d2<|d.all c<|g k).elim (λe=>absurd e<|i.cw c k) id
 .have I:a≠b:=by
   rcases aH with⟨w,e⟩|aH
   .show(i.up a w e).1
   .obtain⟨c,k,rfl⟩:=ck aH;show λe=>K.1 c k e.symm
  show d.np a o (λc=>?_) (aH.imp (λd=>p d λw e=>#[w,(i.up a w e).2]) λaH=>g aH) C;show ay (d2 (show a∈b::da m from c)) (λe=>?_) λe=>?_
  .show I e
  .show n e
end
section
variable {Y:be}{H dT:aP}{ag:List b3}{ai:aE}{co:aE->ba->cv->Prop}
def fE.Nz {aw:ht}(l:ExcBaseFacts SE x SF n){f:cv}
 (X:aw.In Y.d.B) (A:aw.lookup k=J (ED B M k bP Sf n Sg Sh f Si Sj Sk Sl Sm Sn So Sp x)) (D:Y.d.B.Ns bP o) (E:o "__init__"=ah)
 (F:ec Sq ag) (G:∀c∈Sq,c∈Y.G) (h0:H.cM=dT.cM) (I:H.cB=dT.cB) (K:∀L∈da ag,L∈dT.cB) (O:Y.I.frame=J Y.I.locals)
 (P:R Y (.Name Sr Ss) (.val<| .ref k)) (Q:W Y r (w::m) ds) (S:ds.length<=aD) (T:Y.G.Perm bi) (U:∀c∈ai,c.1∈aI bi) (Z:∀(a:cv)(St:aX),aO Y.d St a ds->co bi (.ref k) a)
 (p:bh (w::m) Y.I=(aj,eval w Y.I)::bh m Y.I:=by rfl) (Su:(cY r<|bh m Y.I).any (·.1)=aj:=by rfl):fE Y H dT ag ai co (.Raise (J<| .Call (.Name Sr Ss) (w::m) [] r) ah pos):=.mk λs g w h i Sv j Sw=>by
 show wpAny_Raise_call_subT (C:=k) (nm:=B) (q:=M) (N:=bP) (bs:=Sf) (bm:=n) (hdct:=Sg) (sn:=Sh) (sub:=f) (ab:=Si) (col:=Sj) (dd:=Sk) (k0:=Sl) (k1:=Sm) (k2:=Sn) (k3:=So) (k5:=Sp) l (mN:=o) l.hasBase i.handled (by mspec p;show(?_:(aj||(cY r<|bh m Y.I).any (·.1))=aj);mspec Su;rfl) E ?_;show P.go s g _ h i.todA j.tocV λl Sx Sy Sz SA=>?_;obtain rfl:=SA.is;show#[V,?_];have t:=j.keep Sz;have v:=Q.go s {g with heap:=Sx,toks:=Sy} (λa d=>a.length<=aD/\d.heap.get? k=J (ED B M k bP Sf n Sg Sh f Si Sj Sk Sl Sm Sn So Sp x)/\d.heap.Ns bP o/\∀h' e,yX d.heap h' e (.ref k) a->h (.ref e) {d with heap:=h'}) h i.todA t.tocV λa b SB SD y=>?_
 .rw[p]at v ⊢;show Calls.evalArgs_plain<|dr v (λa d b=>#[V,b.1,b.2.1,b.2.2.1,.base,b.2.2.2]) λd d f=>f
 .have d:=t.keep SD;show l6 (by mspec y.length;show S) (d.fq _ _<|X _ _ A) (D.keeps d.fq)<|λh' e f=>Sw e _ ?_;show u.DH (dR:=b) (bS:={g with heap:=h',toks:=SB}) d (by mspec j.kind;decide) O Sv (show jq b ag from F.frames λc e=>(d.G c<|G c e).2) h0 I K T U f λg b=>kM bi _ a .up (Z a _ y) b
end
section
variable {U:aW}
def zx (g:aR U)(j:k.d=U)(l:k.O=n+2)(o:m.cR=J ag)(p:k.I.frame=J k.I.locals)(q:k.I.scope.kind=.function)(b:aE)(a:az)(r:ec b ag)(s:ew b)(t:a.bA)(u:∀v∈a.P,∀w∈v.2.2,w∈cQ a.P)(x:a.bt.length<=900)(e:Option h)(y:k9 a.P=J e)(A:k.G.Perm ((b++a.G)++keep)):
 dY k m (.ref 182) [.val<| .ref a.x] (λi c d=>c=(b++a.G)++keep/\d=ou e):=by
 subst j;show(Nf g).ye (n:=n+1) (ai:=b++a.G) (keep:=keep) o l V A (co:=λc d=>c=b++a.G/\d=ou e)
  (λj i h0 l hd=>by
   mexact N.dQ (Nu g n j i #[h0,k.X,J<|k.I::ag,m.bZ] (k.I::ag) ((k.I.locals,.frame l)::b) a V (r.cons q p hd) (s.cons hd) t u x e y) λo v B=>?_;obtain⟨C,d,c,f,D,E,F⟩:=B;show ao D λa b=>?_;show#[C,d,c,f,(fo _ a V b),E,F]) λc d e=>ao e λf a=>#[by show aJ f V,a]
noncomputable def jY (b0:dl):h:=(b0.filter λa2=>a2.2.1==0).map (·.1)
noncomputable abbrev az.ej (ai:az)(ac:T):az:={ai with bq:=J (ac,jY ai.P)}
noncomputable abbrev kv (U:aW)(ca:T):b3:=bV (bk 147<|a U) ca 147
abbrev NA (U:aW)(n:Nat)(ca:T)(cF:aE)(ai:az)(X:aZ)(Γ:bg)(H:aP)(an:aX):Prop:=∃a ac,(∀al∈X,al∈a)/\u H #[U,n+3,kv U ca,a,Γ,cF++(ai.ej ac).G] an
def EE (m:aR U)(n:Nat)(q:T)(X:aZ)(t:aP)(j:aE)(d:az)(F:d.bq=ah)(G:d.bt.length<=900)(v:db):
 E #[U,n+3,kv U q,X,[("self",.val (.ref d.x))],j++d.G] t (hT (cf 147<|a U) 1) (c2 (NA U n q j d X [("self",.val (.ref d.x))] t) v):=by
 have w:(d.x,i.aG (c3 192 d.df))∈j++d.G:=bB d.eK;have x:(d.df,i.ns d.attrs)∈j++d.G:=bB d.eT;have y:∀e∈d.bt,∀v∈lM e,v∈j++d.G:=λe l v G=>bB<|g<|g<|g<|bB<|zq l v G;show E.dQ (E.uM (bU:=λk k=>False) (r:=.val<| .ref d.x) (co:=λs v=>∃h,v=cj ((h,i.list ((jY d.P).map .str))::(j++d.G)) d.df (.ns<|mT d.attrs "_ready_nodes"<| .val<| .ref h))
  (aU.Nx (ds:=d.bt) (dE:=λe=>.val<| .ref e.S) (cP:=λe=>[("i",.val (.ref e.S))]) [] (λe=>e.cx==0) (λe=>.str e.name) V (f D) V (f D)
   (jd.of_eq (jd.Nv (ac:=d.cp) (bF:=eD d.bt) (R.fl (r:=.val<| .ref d.x) (R.K 0 V) (d.ik (Y:=#[U,n+3,kv U q,X,[("self",.val (.ref d.x))],j++d.G]) m V w x).1 V) (bB d.lN) V)<|by simp[eD]) (by unfold aD;show b1) (λv k=>.name _ _ _) (hg V) f7
   (λG Z e l=>a1.bL (R.fl (r:=.val<| .ref e.S) (R.K 0 V) (f8.slot (aw:=a U) m.bD (ac:=e.S) (b:=95) (ds:=[.str e.name,.int e.cx,.val<| .ref e.cE]) (y e l _ ap) V (.int _) lK) V) R.bK ax.eq c)
   (λG Z e l k=>R.fl (r:=.val<| .ref e.S) (R.K 0 V) (f8.slot (aw:=a U) m.bD (ac:=e.S) (b:=95) (ds:=[.str e.name,.int e.cx,.val<| .ref e.cE]) (y e l _ ap) V (.str _) CY) V) (λk=>rfl) (λk k k k=>c)) V ?_) ?_
 .intro s y v l;show p l λh v=>?_;show wZ v λk k=>?_;intro A;mspec(by simp[jY,az.P,yR,Function.comp_def]:(d.bt.filter λe=>e.cx==0).map (λe=>i.str e.name)=(jY d.P).map .str);show#[_,by show R.K 0 V,fb.Dr (aw:=a U) m.bD (ae:=d.x) (lu:=d.df) (b:=192) (bF:=d.attrs) (g w) (g x) (fR D) lL CZ,h,V]
 .intro H I r;cases H with
  |next=>
   obtain⟨s,_,⟨h,rfl⟩,A,B⟩:=r;show ix s h A ?_;have C:=vE B;rw[sA]at C;show((congrArg (λo=>u t #[U,n+3,kv U q,s,[("self",.val (.ref d.x))],o] I)<|zr (bE:=(h,i.list ((jY d.P).map .str))::j) C).mp B).lO ?_;mspec F;show(?_:((h,i.list ((jY d.P).map .str))::(j++(d.x,i.aG (c3 192 d.df))::(d.df,.ns (d.ej h).attrs)::(d.cp,.bN (eD d.bt))::ea d.bt)).Perm (j++(d.x,i.aG (c3 192 d.df))::(d.df,.ns (d.ej h).attrs)::(d.cp,.bN (eD d.bt))::(h,.list ((jY d.P).map .str))::ea d.bt));mspec(by simp:j++(d.x,i.aG (c3 192 d.df))::(d.df,.ns (d.ej h).attrs)::(d.cp,.bN (eD d.bt))::(h,.list ((jY d.P).map .str))::ea d.bt=(j++[(d.x,i.aG (c3 192 d.df)),(d.df,.ns (d.ej h).attrs),(d.cp,.bN (eD d.bt))])++(h,.list ((jY d.P).map .str))::ea d.bt);show List.Perm.trans (L3<|by simp) (vK (l₁:=j++[(d.x,i.aG (c3 192 d.df)),(d.df,.ns (d.ej h).attrs),(d.cp,.bN (eD d.bt))])).symm
  |_=>show r.elim
def NB (U:aW):∃b c d e f g h i j k l m n o,(a U).lookup 110=J (ED b c 110 109 d [.type "ValueError",.type "Exception",.type "BaseException",.type "object"] e f g h i j k l m n o "ValueError.__new__"):=#[_,_,_,_,_,_,_,_,_,_,_,_,_,_,V]
def EF (U:aW):nsOkIn (a U) 109=z:=by room
def NC (U:aW):nsIn (a U) 109 "__init__"=J ah:=by room
def ND (b:az)(e:T)(f:b.bq=ah):∀d∈b.G,d.1∈aI (b.ej e).G:=λd a=>by
 show ay (a5 a) (λc=>?_) λa=>?_
 .obtain rfl:=c;show ap
 .rcases a5 a with rfl|a
  .show g ap
  .show ay (a5 a) (λc=>?_) λa=>?_
   .obtain rfl:=c;show g<|g ap
   .replace a:=f▸a;show g<|g<|g<|g<|c9 a
def EG (b:az)(d:T)(e:b.bq=ah):∀c∈k++b.G,c.1∈aI (k++(b.ej d).G):=λc a=>by
 mspec ij;show cL a (λa=>?_) λa=>?_
 .show bJ<|c9 a
 .show bB<|ND b d e c a
def NE (l:aR U)(n:Nat)(i:T)(X:aZ)(g:aP)(q:List b3)(e:aE)(d:az)(v:g.cR=J q)(w:ec e q)(x:ew e)(m:d.bq=ah)(y:d.bA)(A:∀B∈d.P,∀C∈B.2.2,C∈cQ d.P)(s:d.bt.length<=900)(D:k9 d.P=J ah):
 N g #[U,n+3,kv U i,X,[("self",.val (.ref d.x))],e++d.G] (cf 147<|a U) (et U g (e++d.G) λo p=>∃j,o=e++j/\p=.none/\∃f,j=(d.ej f).G):=by
 have t:=(d.ik (Y:=#[U,n+3,kv U i,X,[("self",.val (.ref d.x))],e++d.G]) l V (bB d.eK)<|bB d.eT).2.1;rw[m]at t;mexact N.br (X:=X) (Γ:=[("self",.val (.ref d.x))]) (own:=e++d.G) (E.dC (aq:=aj) (a1.bL (b:=aj) (ac:=.none) (R.fl (r:=.val<| .ref d.x) (R.K 0 V) t V) R.gF ax.p7 c) (λh=>by cases h)<|λu=>N.nil λh k=>k) ?_;mexact N.cons (EE l n i X g e d m s (et U g (e++d.G) λo p=>∃j,o=e++j/\p=.none/\∃f,j=(d.ej f).G)) ?_;intro h j;show gh j λo f p k=>?_;show eQ #[U,n+3,kv U i,o,[("self",.val (.ref d.x))],e++(d.ej f).G] g V rfl rfl rfl rfl k ?_;mexact N.kj (aU.si (aw:=a U) l.bD (bB (d.ej f).eK) (bB (d.ej f).eT) (by rfl) yG (R.K 0 V) (zx l (keep:=[]) V rfl v V rfl e (d.ej f) w x y A s ah D (by rw[fk])) V) (.inl V) V ?_;intro l o p j;show j4 j ?_;intro j;rw[fk];show(?_:N g #[U,n+3,kv U i,l,bl "cycle" .none [("self",.val (.ref d.x))],e++(d.ej f).G] _ _);mexact N.br (X:=l) (Γ:=bl "cycle" .none [("self",.val (.ref d.x))]) (own:=e++(d.ej f).G) (E.dC (aq:=aj) (a1.j8 (af:=.none) (R.K 0 V) eH.none<|λu=>rfl) (λh=>by cases h)<|λu=>N.nil λh k=>k) ?_;show N.sd V (Q.bf _) (EG d f m) (eJ _) #[_,V,V,f,V]
def NF (j:aR U)(n:Nat)(l:T)(X:aZ)(k:aP)(q:List b3)(e:aE)(d:az)(C:k.cR=J q)(w:ec e q)(F:ew e)(H:∀g∈da q,g∈k.cB)(s:d.bq=ah)(I:d.bA)(K:∀L∈d.P,∀M∈L.2.2,M∈cQ d.P)(x:d.bt.length<=900)(i:h)(O:i≠[])(Sf:i.length<=1000)(P:k9 d.P=J (J i)):
 dZ #[U,n+3,kv U l,X,[("self",.val (.ref d.x))],e++d.G] k k q (e++d.G) (λQ S Z=>∃y,Q=e++y/\S=.ref 110/\∃g,y=(d.ej g).G) (cf 147<|a U):=by
 have A:=(d.ik (Y:=#[U,n+3,kv U l,X,[("self",.val (.ref d.x))],e++d.G]) j V (bB d.eK)<|bB d.eT).2.1;rw[s]at A;show dZ.br id (X:=X) (Γ:=[("self",.val (.ref d.x))]) (own:=e++d.G) (E.dC (aq:=aj) (a1.bL (b:=aj) (ac:=.none) (R.fl (r:=.val<| .ref d.x) (R.K 0 V) A V) R.gF ax.p7 c) (λo=>by cases o)<|λt=>N.nil λo m=>m) ?_;show dZ.cons (EE j n l X k e d s x<|λt t=>False) id ?_;rintro o u;show bC λv p=>?_;show gh u λq g y m=>?_;show p ?_;clear p v;show eQ #[U,n+3,kv U l,q,[("self",.val (.ref d.x))],e++(d.ej g).G] k V rfl rfl rfl rfl m ?_;show dZ.cons (E.kj (aU.si (aw:=a U) j.bD (bB (d.ej g).eK) (bB (d.ej g).eT) (by rfl) yG (R.K 0 V) (zx j (keep:=[]) V rfl C V rfl e (d.ej g) w F I K x (J i) P (by rw[fk])) V) (.inl V) V) id ?_;rintro o u;show bC λv p=>?_;obtain⟨B,q,x,⟨rfl,rfl⟩,y,m⟩:=u;show p ?_;clear p v;rw[fk]at m;show eQ #[U,n+3,kv U l,B,bl "cycle" (.list<|i.map .str) [("self",.val (.ref d.x))],e++(d.ej g).G] k V rfl rfl rfl rfl m ?_;show dZ.head (fE.qV (a1.j8 (af:=.list<|i.map .str) (R.K 0 V) (by
  have:=eH.list (Y:=#[U,n+3,kv U l,B,bl "cycle" (.list<|i.map .str) [("self",.val (.ref d.x))],e++(d.ej g).G]) (as.list (ds:=i.map .str)) (by simp;show gu);rwa[decide_eq_true<|by simpa using jm.mpr O]at this)<|λt=>rfl)<|dZ.head ?_)
 show hy (NB U) λl m p q t k=>?_;show hy k λm p q t u l=>?_;show j5 l λm p q t k=>?_;show fE.Nz (aw:=a U) (ds:=[.str "nodes are in a cycle",.list<|i.map .str]) (bi:=e++(d.ej g).G) (bP:=109) PySem.F.excBase_ValueError j.bD k (.of_isNs<|isNs_of_in j.bD<|EF U) (nsMap_none_of_in j.bD (EF U)<|NC U) w (λi e=>bJ e) V rfl H V (j.eW V (by room) V rfl (f D)) (W.cons R.Ny (W.cons (R.K 0 V) W.nil V) V) (du D) (eJ _) (EG d g s) (λZ o r=>#[_,V,V,g,V])
def NG (c:aR U){b:az}(g:b.bq=ah)(h:b.bA)(i:∀j∈b.P,∀e∈j.2.2,e∈cQ b.P)(p:b.bt.length<=900)(q:k9 b.P=J ah)
 (f:∀env,op (.Name "sorter" r) "prepare" w x [] env)
 (s:iL h0 k m (.Call (.Attribute (.Name "sorter" r) "prepare" w) [] [] x)) (t:hY U m h0 (l h0 o) [("sorter",.val (.ref b.x))]):on U (n+5) h0 o k b.G (λu v=>v=.none/\∃y,u=(b.ej y).G):=by
 show on.zw (ae:=b.x) (aH:=147) (Γ:=[("sorter",.val (.ref b.x))]) (dX:=["self"]) (ds:=[]) (gA:=[.val<| .ref b.x]) s c.lim t (λd X j e r u A B C=>?_) (qW c).def rfl (λe X j D r=>?_) λd e o h0 j r s t=>NE c n d e _ j r b V s t g h i p q
 .obtain⟨E,f⟩:=f<|eE m d k;show y0 (ii:=E) (Y:=#[U,n+4,eE m d k,X,[("sorter",.val (.ref b.x))],b.G]) (aw:=a U) c.bD A B b.eK b.eT (by rfl) yF (R.K 0 V) f λh' d e=>C [] h' d e .nil
 .show(qW c).ql (.cons (.val _) D) V
def NH (c:aR U){b:az}(i:b.bq=ah)(j:b.bA)(o:∀p∈b.P,∀f∈p.2.2,f∈cQ b.P)(q:b.bt.length<=900)(d:h)(r:d≠[])(s:d.length<=1000)(t:k9 b.P=J (J d))
 (g:∀env,op (.Name "sorter" w) "prepare" x B [] env)
 (u:iL h0 k m (.Call (.Attribute (.Name "sorter" w) "prepare" x) [] [] B)) (v:hY U m h0 (l h0 M) [("sorter",.val (.ref b.x))]):ks U (n+5) h0 M k b.G (λy A C=>A=.ref 110/\∃D,y=(b.ej D).G):=by
 show ks.zw (ae:=b.x) (aH:=147) (Γ:=[("sorter",.val (.ref b.x))]) (dX:=["self"]) (ds:=[]) (gA:=[.val<| .ref b.x]) u c.lim v (λe X p f w x E F H=>?_) (qW c).def rfl (λf X C I p=>?_) λe f p u v w x y A=>NF c n e f p u v b y w x A i j o q d r s t
 .obtain⟨K,g⟩:=g<|eE m e k;show y0 (ii:=K) (Y:=#[U,n+4,eE m e k,X,[("sorter",.val (.ref b.x))],b.G]) (aw:=a U) c.bD E F b.eK b.eT (by rfl) yF (R.K 0 V) g λh' d e=>H [] h' d e .nil
 .show(qW c).ql (.cons (.val _) I) V
end
section
variable {U:aW}
def aR.NI (Sy:aR U)(K:Y.d=U)(j:u H Y aa.heap)(L:Y.G=Sz++(k,.tab w)::SA)
 (N:∀a∈w,(pos.line==a.1.line&&pos.col==a.1.col)=z->a.2=Y.I.qual++"<genexpr>") (O:Y.I.code=.ref M) (P:di U.B M k)
 (C:∀Q h' v,u H Y h'->(∀e o,e≠k->aa.heap.get? e=J o->h'.get? e=J o)->Sf Q {aa with heap:=h',toks:=v}):
 au SD SE (genexprCode Y.I pos (Y.I.qual++"<genexpr>") SF) Sf SG aa:=by
 show bC λc d=>?_;obtain⟨R,S,env,X,Γ,own⟩:=Y;show d ?_;clear d c;dsimp only at*;subst K;subst L;show ao (j.G (k,i.tab w)<|by simp) λT K=>?_;show bC λc d=>?_;show g2 K.y4 λm q x W=>?_;show d ?_;clear d c;have K:=(P.keeps j.fq).code q x;show bC λc d=>?_;show hy (id K) λo b P Q Sf L=>?_;show hy L λP Q Sf Sy Sz K=>?_;show oR K λSg hd Sh Si L=>?_;show oR L λSj Sk Sl y K=>?_;show cd K λD Sm L=>?_;show d ?_;clear d c;replace y:=q▸y;obtain rfl:=fS y;unfold genexprCode codeAt;mspec O;mspec if_neg (show ¬((na M==nU)=z)from pk);show ar<|EH Sg hd ?_;mspec Sh;show ar<|EH q D ?_;cases D;cases hnf:lv pos m.toList with
 |some A=>show bc<|C A aa.heap aa.toks j λe o y a=>a
 |none=>
  mspec Si;mspec Sj;mspec Sk;mspec Sl;show ar<|wpAny_newCode λf y h' v E s D K Sn=>?_;have F:=E _ _ q;show ar<|wpAny_updateFieldsOfTheText F V ?_;have G:(qZ (λb=>if(lv pos b.toList).isSome=z then b else b++(aRR [d4 pos.line,d4 pos.col,.ref f]))<|oT m)=oT (m++(aRR [d4 pos.line,d4 pos.col,.ref f])):=by
   simp[qZ,hnf]
  have t:=nc (h:=h') (λo=>qZ (λb=>if(lv pos b.toList).isSome=z then b else
   b++(aRR [d4 pos.line,d4 pos.col,.ref f])) o) F (Em<|by show aJ G V)
  replace t:=G▸t;show ar<|EH t V ?_;have B:(m++(aRR [d4 pos.line,d4 pos.col,na f])).toList=m.toList++[d4 pos.line,d4 pos.col,.ref f]:=by simp
  mspec B;mspec codeAmong_snoc _ Sm hnf;have c:cO [k] aa.heap (h'.update k<|λo=>qZ (λb=>if(lv pos b.toList).isSome=z then b else b++(aRR [d4 pos.line,d4 pos.col,.ref f])) o):=λe o n a=>(ji ..).extBut e o (by simpa using n)<|E e o a;have So:=l.fK (Z:=X) c (by simpa using T);show bc (C _ _ v (u.qk (Y:=#[R,S,env,X,Γ,[]]) (ez:=.tab w) j c<| .tab t (by mspec B;show DY x) λa I=>?_) λe o n a=>c e o (eO n) a);mspec B;mspec DW x;rcases W _ I with r|⟨A,r,Sp⟩
  .mspec r;mspec DX;by_cases g:((pos.line:Int)==a.1.line&&(pos.col:Int)==a.1.col)=z
   .mspec if_pos g;show .inr<|av _ V ?_;mspec N a I (by simp at g ⊢;show#[c1 ((aA<|jn g.1))<|(aA (jn g.1).symm),c1 ((aA<|jn g.2))<|(aA (jn g.2).symm)]);show bC λc d=>?_;show w1 Sn λb Sq Sr Ss St Su Sv Sw=>?_;show d ?_;clear d c;cases St;have Sx:f≠k:=λa=>by replace s:=a▸s;show absurd (gk q)<|g7.mpr s
    show w2 f Sq Sr Ss V (cb _ ((ji ..).extBut _ _ Sx Su) λa=>?_) Sv Sw;show p (j.cw _ a) λo r=>?_;show b6 (qg s) r
   .mspec if_neg g;show .inl V
  .mspec r;mspec LK;show .inr<|av A V<|Sp.keeps So
def aU.NJ (SM:aR U){SN Sp kx:T}{bE b4:aE}{i3:h}(Tb:Y.d=U)(Tc:Sq.bZ=z)(SO:Y.G=bE++(Sp,.tab dk)::b4)
 (Td:∀B∈dk,(M.line==B.1.line&&M.col==B.1.col)=z->B.2=Y.I.qual++"<genexpr>") (Te:Y.I.code=.ref SN) (Tf:di U.B SN Sp) (Tg:Y.I.globals=iH)
 (Th:(x,.val (.ref kx))∈Y.q) (hd:(x==("__debug__":v))=aj) (Ti:(x==("__classdict__":v))=aj) (SP:(kx,.list (i3.map .str))∈Y.G) (TO:i3.length<=1000) (Tj:JoinOk Sf i3=z)
 (Tk:m.isCoroutine=aj) (Tl:iT m Y.I=pure []) (Tm:∀K∈m.names,K.2≠ .cell) (h0:m.names.lookup (".0":v)=J NameKind.local) (Tn:m.names.lookup w=J .local) (To:m.kind=.function)
 (Tp:∀(G:cW)(Sr:bY)(SQ:T)(SR:ba)(Tq:T)(s:aS)(N:v->Option ba)(SB:v)(j:fh),G.handled=ah->SB∈i3->s.heap.Ns SQ N->N w=J (.str SB j)->au (b2 U.prog U.w) G (eval Sg<|genEnv m [] SQ SR Tq Y.I) (λK Tr=>(∃Ts,K=sL SB Ts)/\Keeps s Tr) Sr s)
 (SS:bh [.GeneratorExp Sg [#[.Name w Ss,.Name x Sh,[],0]] m M] Y.I=(aj,eval (.GeneratorExp Sg [#[.Name w Ss,.Name x Sh,[],0]] m M) Y.I)::bh [] Y.I) (Tt:∀w,genFold (.Name x Sh) Y.I w=pure w)
 (SD:∃St:ia Bool,eval (.Call (.Attribute (.Constant (.str Sf) SU SV) "join" SW) [.GeneratorExp Sg [#[.Name w Ss,.Name x Sh,[],0]] m M] [] SE) Y.I=(do
  let SX <-eval (.Constant (.str Sf) SU SV) Y.I
  es SW.atName
  let(Tu,first) <-e7 [SX] (gK SX "join" St)
  dP SE Tu first (cY SE<|bh [.GeneratorExp Sg [#[.Name w Ss,.Name x Sh,[],0]] m M] Y.I) [])):
 aU Y Sq (.Call (.Attribute (.Constant (.str Sf) SU SV) "join" SW) [.GeneratorExp Sg [#[.Name w Ss,.Name x Sh,[],0]] m M] [] SE) (iJ Y<| .str<|dD Sf i3):=.mk λSF Su m SG Sv t B=>by
 show p SD λSt SD=>?_;subst Tb;show jP (pl:=St) (R.cy.go SF Su _ SG Sv.todA t.tocV λq m w M x=>?_) SD;have SH:=t.keep M;show fB.str so sp SF {Su with heap:=m,toks:=w} _ SG q St SH.tocV x ?_;show p x.dO λM P=>?_;show bw P ?_;show mh (first:=[.str Sf M]) (kQ ?_ SS) SS c;show bC λE l=>?_;show hy SM.kb λx M Sf Sg Sh W=>?_;show l ?_;clear l E;show wpAny_GeneratorExp_walksQD Sv.handled Tk Tl Tm h0 Tn To (by have:=Sv.depth;show b9 [.aL (.S y C)<| .O nR] 0 (.e y) (.O nR) D this) ((R.name Th hd Ti).go SF {Su with heap:=m,toks:=w} _ SG Sv.todA SH.tocV λm b Tv Tw Tx=>?_) Tt;obtain rfl:=Tx.is;have Sw:=SH.keep Tw;show bC λE l=>?_;show aY ((Sw.G _ SP).2.eA) λF m ST=>?_;show l ?_;clear l E;have w:=PlainList.fT m;show xl w ?_;have Sx:=Sw.iF<|d3 (an:=b);have SY:(b.push<|fc kx 0).get? b.objs.size=J (fc kx 0):=dM _ c;have SZ:=Sw.gI d3 #[_,SY]<|Q.push _ _;have Ty:=w.push<|fc kx 0;have Tz:kx≠b.objs.size:=λk=>by show p m λa o=>?_;have X:b.get? kx=_:=o;replace X:=k▸X;replace X:=d3▸X;cases X
 have m:(b.push<|fc kx 0).objs.size=b.objs.size+1:=mi _ _;have TA:∀A o,Y.d.B.get? A=J o->A≠b.objs.size:=λA o k B=>by
  have:=Sw.fq _ _ k;replace this:=B▸this;replace this:=d3▸this;cases this
 generalize m:b.push (fc kx 0)=h₃ at*;show#[W.nolimit.keeps SZ.fq,?_];show aR.NI SM (Y:=#[Y.d,Y.O,Y.I,b.objs.size::Y.X,Y.q,Y.G]) (H:=Sq) (aa:={Su with heap:=h₃,toks:=Tv}) V SZ SO Td Te Tf λSR SI m Sy S0=>?_;have S1:(Sp,i.tab dk)∈Y.G:=by mspec SO;simp
 show bC λE l=>?_;show tK W.bmain λSg Sh m w x M X Sf=>?_;show l ?_;clear l E;show wpAny_builtinsFor (Tg▸W.g.keeps Sy.fq) m w (Sy.fq _ _ x) M X Sf ?_;have S2:SI.get? b.objs.size=J (fc kx 0):=S0 _ _ (show Sp≠b.objs.size from λk=>Sx.2.1<|k▸(t.G _ S1).1).symm SY;have S3:SI.IsList kx F.toArray:=by show aY Ty λo Z TB=>?_;show av o (S0 _ _ ((q0 t S1 SP (by intro k;cases k))).symm Z) TB
 have SJ:F.length=i3.length:=by have:=ST.length;simpa using this
 have TC:∀f q,F.toArray[f]?=J q->∃j,q=sL (i3.getD f "") j:=λf q Si=>by
  have S4:F[f]?=J q:=by simpa using Si
  have Sz:f<i3.length:=SJ▸(gG.mp S4).1;show aY (ST.get (L:=f) (af:=.str i3[f])<|by simp[Sz]) λm Sj r=>?_;replace Sj:=S4▸Sj;obtain rfl:=fS Sj;show p r.dO λj P=>?_;show bw P ?_;show dn j (by simp[ow,Sz])
 show#[b.objs.size,[b.objs.size,kx],[b.objs.size],F.toArray.size,_,_,λa=>z,λf K=>∃j,K=sL (i3.getD f "") j,V,λG SK=>Walks.list SK _ _ Tz F.toArray,#[(fo _ S2 V rfl),S3],?_,W.nolimit.keeps Sy.fq,?_,?_,?_]
 .intro A d;show ay (a5 d) (λSk=>?_) λd=>?_
  .obtain rfl:=Sk;show gk S2
  .mspec bX d;show aY S3 λo Z a=>?_;show gk Z
 .intro d;show bC λE l=>?_;show aY W.nodigits λw m a=>?_;show eY m λo a a Z a=>?_;show l ?_;clear l E;show TA _ _ Z<|bX d
 .intro l m;show#[λG Sr f q s N a a a a a a a=>bc #[D,s.heap,s.toks,V,λa a k=>k],λG Sr f q s N SK a a S5 a TD TE a=>?_];obtain⟨j,rfl⟩:=TC f q S5;have Sz:f<i3.length:=by show ch SJ ?_;simpa using(Jp.mp S5).1
  show Tp G Sr _ _ _ s N _ j SK (by mspec ow;mspec gm Sz;show ox _) TD TE
 .intro TF l m TG TH S6 TI TJ TK TL;show ly ?_;have SL:passing (λa=>z) F.toArray.size 0=jc i3.length:=by
   unfold passing;simp[SJ]
  show SC.joinGen TK.in4_2 (λf S7 t=>t.1.typeIs) TL (λA d=>?_) ap (λI q Si=>?_) (λS7 Sl SA S8=>?_) (by mspec SL;mspec jQ;unfold aD;show b1)
  .mspec TI;show ay (a5 d) (λSk=>?_) λd=>?_
   .obtain rfl:=Sk;show fy _
   .rcases a5 d with rfl|d
    .show qc S6
    .show qc<|vL (iW.mp d) S6
  .show p Si λf l=>?_;show ao l λa P=>?_;show p P λj Sq=>?_;show dN _ j Sq
  .have TM:Sl.map (·.1)=i3:=by
    have S9:Sl.length=i3.length:=by have:=S8.1;replace this:=SL▸this;replace this:=jQ▸this;simpa[strValues]using this
    apply NK;intro I;by_cases Sm:I<i3.length
    .have Ta:I<Sl.length:=S9▸Sm;obtain⟨f,Sn,j,Si⟩:=S8.2 I (.str Sl[I].1 Sl[I].2) (by simp[strValues,gm Ta]);replace Sn:=SL▸Sn;replace Sn:=(rP Sm)▸Sn;obtain rfl:=fS Sn;injection Si with Sj _
     simp[gm Ta,Sm,Sj,ow]
    .mspec nW (by simpa[S9]using NL Sm);show aJ (nW<|NL Sm) V
   mspec TM;show#[Tj,λa f=>?_];have TN:cO [b.objs.size] SI S7.heap:=λA o n k=>SA.heap A o (λSo=>by
    show ay (a5 So) (λSk=>?_) λSo=>?_
    .obtain rfl:=Sk;show mP _<|gk k
    .show n So)<|TJ A o k
   have a:=u.drop (Y:=Y) (cz:=b.objs.size) Sy (t.hC) Sx.2.1 Sx.1 Sx.2.2.1 t.sub TN;show B _ _ #[SA.drawn,SA.os,λd=>SA.gens.bare<|AllBare.push (g:=TG) d TH,λd=>?_] #[Y.X,Y.G,_,(cH V rfl rfl),λTF So=>So,a,.str _ _];replace d:=Tc▸d;cases d
end
section
open PySem.StrLaws PySem.Builtin PySem.Builtin.Str
noncomputable abbrev aB (ag:bQ):v:=#[ag.toArray]
def gB (a:bQ):(aB a).length=a.length:=rfl
def EI (d e:v)(b a g:Nat)(i:1<=g):
 (px d e b a g=[]/\∀c,b<=c->¬At d e a c)\/
 ∃c r,px d e b a g=c::r/\b<=c/\At d e a c/\∀h,b<=h->h<c->¬At d e a h:=by
 rw[occ_eq];rcases occ_first d e a g i (EJ b<|a+1 - b) b (λc a=>by have:=NM.mp a;show this.1)with⟨h0,i⟩|⟨m,j,n,k,h0,l,i⟩
 .show .inl #[by show aJ h0 V,λc m a=>?_];show i c (by have:=a.1;show(NM).mpr ?_;lia) a
 .have c:=range'_split_from k;show .inr<|kN j (((forIn (EJ b<|a+1 - b) (((aRR []):Array Nat),b)<|occBody d e a g).run.fst.toList).tail) ?_ c.1 l<|λh k m=>i h<|c.2 h k m;generalize(forIn (EJ b<|a+1 - b) (((aRR []):Array Nat),b)<|occBody d e a g).run.fst=arr at h0;have f:arr.toList[0]?=J j:=by simpa using h0
  cases hL:arr.toList with
  |nil=>replace f:=hL▸f;cases f
  |cons a b=>replace f:=hL▸f;simp at f;mspec f;rfl
def vM (a:o<=k.length):At (aB k) (aB [n]) o m↔m<o/\k[m]?=J n:=by
 have c:=subAt_one (aB k) n m;have a:(aB [n]).length=1:=rfl;unfold At;constructor
 .intro a;show ao a λd b=>?_;show#[by assumption,c.mp #[by show(?_:m+1<=k.length);show a6 ‹_› ‹_›,b]]
 .intro a;show ao a λd b=>?_;show#[by assumption,(c.mpr b).2]
inductive vN (ag:bQ)(b c d:Nat):Int->Prop
 |nA (ak:Nat):c<=ak->ak<d->ag[ak]?=J b->(∀a,c<=a->a<ak->ag[a]?≠J b)->vN ag b c d ak|no:(∀a,c<=a->a<d->ag[a]?≠J b)->vN ag b c d (-1)
section
variable {Y:be}{H:aP}
def NN (a d:v)(c b:Nat)(e f g h:fh)(l:b<=a.length):Gives («str.find» #[[.str a e,.str d f,.int c g,.int b h],[]]) (.int (match px a d c b 1 with|k::_=>(k:Int)|[]=> -1)):=by
 have i:(max (0:Int) (if(c:Int)<0 then(c:Int)+a.length else c)).toNat=c:=by mspec if_neg (by simp+arith);simp+arith
 have j:min (max (0:Int) (if(b:Int)<0 then(b:Int)+a.length else b)).toNat a.length=b:=by mspec if_neg (by simp+arith);grind
 show Gives (match px a d (max (0:Int) (if(c:Int)<0 then(c:Int)+a.length else c)).toNat (min (max (0:Int) (if(b:Int)<0 then(b:Int)+a.length else b)).toNat a.length) 1 with|k::_=>retInt k|[]=>(do rule "str.find.not-found";retInt (-1))) _;mspec i;mspec j;cases px a d c b 1 with
 |nil=>show .rule<| .of_eq V
 |cons k _=>show .of_eq V
def bO.NO {g d c:Nat}(h:c<=k.length)(t:vN k g d c r):bO Y (.builtin "str.find") [.str<|aB k,.str<|aB [g],.int d,.int c] (.int r):=.mk λj v x y B C D e w=>by
 show cm e.hA λj j a=>?_;show eP a λx e=>?_;show cm e.hA λj j a=>?_;show eP a λj e=>?_;show cm e.eV λy B a=>?_;show eP a λe y=>?_;show p x.dO λB a=>?_;show bw a ?_;show p j.dO λx a=>?_;show bw a ?_;show p e.dh λj a=>?_;show bw a ?_;show p y.dh λe a=>?_;show bw a ?_;show call_gives NP (n8 _ _ _) PySem.F.entry_str_find (PySem.F.args_str_find_4 _ _ _ _) (NN _ _ d c _ _ _ _ h) ?_;have H:(match px (aB k) (aB [g]) d c 1 with|b::_=>(b:Int)|[]=> -1)=r:=by
  show ay (EI (aB k) (aB [g]) d c 1<|cg 1) (λe=>?_) λA=>?_
  .show ao e λh0 l=>?_;mspec h0;cases t with
   |no=>rfl|nA f m n o _=>show absurd ((vM h).mpr #[n,o])<|l f m
  .show cm A λi c a=>?_;show iQ a λh0 u c l=>?_;mspec h0;have q:=(vM h).mp c;cases t with
   |no s=>show absurd q.2<|s i u q.1
   |nA f m n o s=>
    show(?_:(i:Int)=f);show ay (Nat.lt_trichotomy i f) (λb=>?_) λa=>ay a (λb=>?_) λb=>?_
    .show absurd q.2<|s i u b
    .show aJ b V
    .show absurd ((vM h).mpr #[n,o])<|l f m b
 mspec H;show w _ v.heap _ (Q.bf _)<| .int _ _
def bO.sP (b:(ae.length:Int)<2^63):bO Y (.builtin "len") [.str ae] (.int ae.length):=.mk λa c f g h i k d e=>by
 show p d.one λf a=>?_;show ci a λd=>?_;show p d.dO λf a=>?_;show bw a ?_;show P.len_str (λa=>kJ [↑ae.length] [.aL A<| .O 9223372036854775808,.j (.O 9223372036854775808) A] D b a)<|e _ c.heap _ (Q.bf _)<| .int _ _
def ax.NQ:ax Y .NotIn (.str<|aB [k]) (.str<|aB m) (!decide (k∈m)):=.mk λa b f g h i j k c d e=>by
 show p c.dO λf a=>?_;show bw a ?_;show p d.dO λc a=>?_;show bw a ?_;show P.notIn_str ?_;rw[found_one];show e b.heap b.toks<|Q.bf _
def EK {a:bQ}{b:Nat}(f:b∉a)(g:m (.str (aB a) n) o):au (b2 r w) x (dV (.builtin "str.replace") [.str (aB a) n,.str (aB [b]) B,.str k M]) m Sf o:=by
 have H:px (aB a) (aB [b]) 0 (aB a).length ((aB a).length+1)=[]:=by
  show ay (EI (aB a) (aB [b]) 0 (aB a).length ((aB a).length+1)<|by simp+arith) (λh=>?_) λi=>?_
  .show ao h λh0 d=>?_;show h0
  .show cm i λj l h=>?_;show iQ h λh0 d i d=>?_;show absurd (ib ((vM<|cg _).mp i).2) f
 have e:((px (aB a) (aB [b]) 0 (aB a).length<|(aB a).length+1).isEmpty||((aB [b]).length==0&&k.length==0))=z:=by mspec H;rfl
 show call_gives EL (n8 _ _ _) PySem.F.entry_str_replace (PySem.F.args_str_replace_3 _ _ _) (gives_str_replace (aB a) (aB [b]) k _ _ _ λc=>by replace c:=e▸c;cases c) ?_;mspec if_pos e;show g
def bO.NR (c:m∉k):bO Y (.builtin "str.replace") [.str<|aB k,.str<|aB [m],.str n] (.str<|aB k):=.mk λa d f g h i j b e=>by
 show cm b.hA λf f a=>?_;show eP a λf b=>?_
 .show cm b.eV λg h a=>?_;show eP a λb g=>?_;show p f.dO λh a=>?_;show bw a ?_;show p b.dO λf a=>?_;show bw a ?_;show p g.dO λb a=>?_;show bw a ?_;show EK c<|e _ d.heap _ (Q.bf _)<| .str _ _
def EM {d a:v}{e c h f:dy}{ag:bQ}(q:b∉ag)(s:d=aB [b])
 (t:au (b2 w x) B (eval o env) (λi j=>∃g,i=.str (aB ag) g/\∀u,M (.str (aB ag) g) {j with toks:=u}) Sf Sg)
 (l:bh [.Constant (.str d) m e,.Constant (.str a) k c] env=(aj,eval (.Constant (.str d) m e) env)::bh [.Constant (.str a) k c] env) (n:bh [.Constant (.str a) k c] env=(aj,eval (.Constant (.str a) k c) env)::bh [] env)
 (y:eval (.Call (.Attribute o "replace" h) [.Constant (.str d) m e,.Constant (.str a) k c] [] f) env=(do
  let r <-eval o env
  es h.atName
  let(Sh,first) <-e7 [r] (gK r "replace" Si)
  dP f Sh first (cY f<|bh [.Constant (.str d) m e,.Constant (.str a) k c] env) [])):
 au (b2 w x) B (eval (.Call (.Attribute o "replace" h) [.Constant (.str d) m e,.Constant (.str a) k c] [] f) env) M Sf Sg:=by
 subst s;show jP (pl:=Si) (dr t (λi j a=>?_) λc c H=>H) y;show p a λg c=>?_;show ci c λA=>?_;show qs (n8 _ _ _) IB EL NS (λa H=>by cases H) ?_;show mh (first:=[.str (aB ag) g]) (kQ (oV<|kQ (oV<|ly ?_) n) l) l (by mspec n;rfl);show EK q<|A _
def ax.NT:ax Y .Gt (.str<|aB [k]) (.str<|aB [m]) (decide (m<k)):=.mk λa b f g h i j l c d e=>by
 show p c.dO λf a=>?_;show bw a ?_;show p d.dO λc a=>?_;show bw a ?_;show P.gt_str ?_;have H:decide ((aB [m]).cps.toList<(aB [k]).cps.toList)=decide (m<k):=by
  show(?_:decide ([m]<[k])=_);rw[lt_cons_cons];mspec lt_nil_nil;simp
 mspec H;show e b.heap b.toks<|Q.bf _
def b7.NU (H:ae.cps.toList.getLast?=J b):b7 Y (.str ae) (.int<| -1) (.str #[(aRR [b])]):=.mk λj e k l m n o q g h i=>by
 obtain⟨j,rfl⟩:=g.dO;show p h.dh λj g=>?_;show bw g ?_;have d:0<ae.length:=by
  obtain⟨⟨a⟩⟩:=ae;cases a with
  |nil=>simp at H|cons g a=>show oO _
 show f4 ("str") _ (n8 _ _ _) Co.lookup<|Jo (c:=b) (f D) ?_<|i _ e.heap _ (Q.bf _)<| .str _ _;mspec StrLaws.seqIndex_neg (f V) (by lia);obtain⟨⟨a⟩⟩:=ae;have d:0<a.length:=d;show(?_:(zy a)[((-1:Int)+(a.length:Int)).toNat]?=J b);mspec(show((-1:Int)+(a.length:Int)).toNat=a.length - 1 from by lia);show ch H ?_;mspec HM;simp
def jF.made {a:i}{b:Option Int}(d:jF a b)(r:bb m n k a):∃c:Option (Int×fh),k=partValue c/\c.map (·.1)=b:=by
 cases d with
 |none=>obtain rfl:=r.is;show av Option.none V rfl|int e=>show p r.dh λa b=>?_;show bw b ?_;show av (J (e,a)) V rfl
def NV (a:v)(b c:Option Int):(jZ a b c).length<=a.length:=by
 unfold jZ;split
 .show cg _
 .show(?_:(zy _).size<=_);mspec o1;show a6 (List.length_filterMap_le _ _)<|sliceIndices_le b c a.length
def R.q6 {f g:Option c6}{j k:i}{a:v}(r:R Y w (.str a))(s:md Y f j)(t:md Y g k)(x:jF j B)(y:jF k M)(A:a.length<=aD):
 R Y (.Subscript w (.Slice f g ah Sf) pos) (.str<|jZ a B M):=.mk λj k B w f g m=>by
 show xd<|r.go j k _ w f g λo L M h B=>Bm<|s.run f (g.keep h) λj k r n C=>t.run f ((g.keep h).keep n) λj D k E F=>?_;show p B.dO λe f=>?_;show bw f ?_;obtain⟨b,rfl,rfl⟩:=x.made C;obtain⟨d,rfl,rfl⟩:=y.made F;rw[evalPart_none];show bc<|tV (n8 _ a e) Co.lookup (wpAny_getItem_str_slice (l:=b) (u:=d) (st:=ah) (fo _ (dM _ c) V rfl) c ?_)<|tX _ _ _;have q:=((h.trans n).trans E).trans<|Q.push D {cls:=.type "slice",data:=.fields (aRR [partValue b,partValue d,.none])};have G:sliceMade a e b d ah=.val (.str a e)/\jZ a (b.map (·.1)) (d.map (·.1))=a\/sliceMade a e b d ah=.str (jZ a (b.map (·.1)) (d.map (·.1))):=by
  unfold sliceMade jZ slicePicked;dsimp only[Option.map_none,Option.getD_none];split
  .show .inl #[V,V]
  .show .inr V
 rcases G with⟨H,I⟩|H
 .mspec H;show m _ _ _ q (by mspec I;show .str _ _)
 .mspec H;show#[a6 (NV a (b.map (·.1)) (d.map (·.1))) A,m _ _ _ q<| .str _ _]
def bO.NW {b d a:Int}(e:a≠0)(f:w8 (d - b) a=aj):bO Y (.type "range") [.int b,.int d,.int a] (.iy b d a):=.mk λa h i j k m d b g=>by
 show cm b.hA λh h a=>?_;show eP a λh b=>?_
 .show cm b.eV λi j a=>?_;show eP a λb i=>?_;show p h.dh λj a=>?_;show bw a ?_;show p b.dh λh a=>?_;show bw a ?_;show p i.dh λb a=>?_;show bw a ?_;show call_range_3 e (g _ _ _ (Q.push _ _)<| .iy (a2:=j) (a9:=h) (aq:=b)<|l.l9 d _ c)<| .inl f
def aO.erase (r:aO m n k ds):∀a,aO m n (k.eraseIdx a) (ds.eraseIdx a):=r.l8 (aM:=λk ds=>∀a,aO m n (k.eraseIdx a) (ds.eraseIdx a)) (λd=>.nil) λb r c a=>by
 cases a with
 |zero=>show r|succ a=>show .cons b<|c a
def EN {n:Nat}:BA n 0 (-1)=(n:Int):=by
 unfold BA;simp
 try lia
def cA.down {n:Nat}(h:n<=1000):cA Y (.Name x B) (.iy n 0<| -1) ((jc n).map λa=>.int ((n - a:Nat):Int)):=.mk λv d x B E F G q f=>by
 show j5 q.is λb b b b g=>?_;show ci g λr=>?_
 .have u:NX n 0 (-1)=z:=by
   unfold NX;mspec EN;simp[Builtin.Range.rangeFitsLong];show el.mpr<|dL [.j y<| .O 1000] 0 (.e y) (.O 9223372036854775808) D h
  show H4 (l.of _ _ r) u ?_;have t:((jc n).map λa=>i.int ((n - a:Nat):Int)).length=n:=by simp
  show f d.heap.objs.size [d.heap.objs.size] (λa h=>∃k,h=.int (n+a*(-1)) k) (λa q=>t9 q d.heap.objs.size (n+(a:Nat)*(-1)) ((n:Int) - (a:Nat))<| -1) _ #[d3,(λu v=>?_),
   ?_,(λa q x=>#[_,x]),(λB r=>?_),(λB r=>.inl<|bX r),(Q.push _ _),(λa h x s=>?_),(λu a q h b b B E F b f=>bc f)]
  .mspec t;show Walks.range v _ _ _ _
  .show(?_:t9 _ _ _ _ _);mspec EN;simpa[t9]using(dM d.heap (o:={cls:=.type "range_iterator",data:=.fields (aRR [d4 n,d4 (n:Int),d4 (-1)])}) c)
  .rw[mi];mspec bX r;show#[fy _,.inl V]
  .show p x λk g=>?_;show bw g ?_;rw[t]at s;show av (.int<|n+a*(-1)) ?_<| .int _ k;mspec e8;mspec rP s;show(?_:J (i.int ((n - a:Nat):Int))=J (i.int _));show congrArg (λb=>J<|i.int b)<|gr (bj [↑(n - a),↑n,↑a] [.j (.S A d7) aC] 0 A (.S aC<| .w d7<| -1) D (dH.mpr (aA<|fa (n:=n) (m:=a)<|b9 [.aL y C] 0 y C D s):))<|bj [↑n,↑a,↑(n - a)] [.j A<| .S d7 aC] 0 (.S A<| .w aC<| -1) d7 D (dH.mpr (e0<|cg<|n - a):)
def NY {a:T}(c:IsL k.heap a o n)(e:NZ m=z)(h0:0<=m)(g:m<o.size)
 (h:x () {k with heap:=k.heap.update a<|jo λd=>d.setIfInBounds m.toNat w}):au (b2 M Sf) Sg (setItem (.ref a) (.int m B) w) x Sh k:=by
 have d:k.TypeIs (.ref a) "list":=av _ c V;unfold setItem
 try with_reducible show g5 ?_
 show ar (wpAny_sequenceKey d (f D)<|ar<|MV (name:=js "__setitem__") d N0
  (wpAny_call_entry N0 d PySem.F.entry_list_setitem ?_<|PySem.F.args_list_setitem_3 _ _ _))
 show(?_:au _ _ (Builtin.List.listSubscript? (.int m B) >>= _) _ _ k);show ar<|wpAny_listSubscript_int e ?_;clear e;obtain⟨b,rfl⟩:=py h0;have g:b<o.size:=by show el.mp ‹_›
 show(?_:au _ _ ((seqItemAt a b >>= λr=>pure (r.map (b,·))) >>= _) _ _ k);show ar<|ar<|wpAny_seqItemAt c V<|bc ?_;mspec Array.getElem?_eq_getElem g;show(?_:au _ _ (setSeqItemAt a b w >>= _) _ _ k);show ar<|wpAny_setSeqItemAt c V ?_;show bc<|av .none V<|bc h
def E.N1 {a:T}{am:Nat}{af:i}{ds:dp}{bE b4:List (T×i)}(M:R Y w af)(N:R Y x (.int (am:Nat)))(P:(k,.val (.ref a))∈Y.q)(hd:(k==("__debug__":v))=aj)(Q:(k==("__classdict__":v))=aj)
 (t:Y.G=bE++(a,.list ds)::b4) (y:am<ds.length) (S:ds.length<=100000) (U:f6 w (J<| .Subscript (.Name k Sf) x Sg) pos.line Y.I=pure aj):
 E Y H (.Assign [.Subscript (.Name k Sf) x Sg] w pos) (c2 (u H #[Y.d,Y.O,Y.I,Y.X,Y.q,bE++(a,.list (ds.set am af))::b4]) Sh):=.mk λd k f g c=>by
 show B2 (M.go d k _ f g.todA c.tocV λb w x h V=>(R.name P hd Q).go d _ _ f g.todA (c.tocV.keep h) λo k w m W=>N.go d _ _ f g.todA ((c.tocV.keep h).keep m) λk q w B X=>?_) U;obtain rfl:=W.is;obtain⟨d,rfl⟩:=X.dh;have r:=((c.keep h).keep m).keep B;have C:(a,.list ds)∈Y.G:=t▸bB ap;show bC λd c=>?_;show aY ((r.G _ C).2.eA) λs f F=>?_;show p f λn G=>?_;show c ?_;clear c d;show NY (n:=n) G (fitsIndex_of (by show f2 _)<|bj [↑am,↑ds.length] [.aL A aC,.j aC<| .O 100000] 0 (.e A) (.O 9223372036854775808) D (el.mpr y:) (dH.mpr S:)) (by show f2 _) (by simp;show a6 y<|aA (F.length).symm) #[.up,?_];mspec show((am:Nat):Int).toNat=am from rfl
 have I:h9 a q (q.update a<|jo λc=>c.setIfInBounds am b):=ji ..;have Z:u H #[Y.d,Y.O,Y.I,Y.X,Y.q,bE++(a,.list ds)::b4] q:=t▸r;have K:=r.pu C I;have L:=IsL.update (n:=n) G<|λc=>c.setIfInBounds am b;rw[show s.toArray.setIfInBounds am b=(s.set am b).toArray by simp]at L;show Z.kW I<| .list (a3:=s.set am b) #[_,L]<|aO.set ((V.keep<|l.keep _<|m.trans B).keep K) (F.keep K) am
def E.N2 (A:R Y B (.int (am:Nat)))(C:(r,.val (.ref m))∈Y.q)(hd:(r==("__debug__":v))=aj)(F:(r==("__classdict__":v))=aj)
 (e:Y.G=bE++(m,.list ds)::b4) (f:am<ds.length) (g:ds.length<=100000):
 E Y H (.Delete [.Subscript (.Name r M) B Sf] pos) (c2 (u H #[Y.d,Y.O,Y.I,Y.X,Y.q,bE++(m,.list (ds.eraseIdx am))::b4]) Sg):=.mk λh r i j a=>by
 show wpAny_Delete<|M5<|M6<|(R.name C hd F).go h _ _ i j.todA a.tocV λo r B l G=>A.go h _ _ i j.todA (a.tocV.keep l) λr b B I K=>?_;obtain rfl:=G.is;obtain⟨h,rfl⟩:=K.dh;have c:=(a.keep l).keep I;have q:(m,.list ds)∈Y.G:=e▸bB ap;show aY ((c.G _ q).2.eA) λd a s=>?_;show p a λn t=>?_;have w:=s.length;show PySem.P.delItem_list (n:=n) (k:=am) t (by simp[NZ];show el.mpr<|dG (a6 f g) D) (by mspec StrLaws.seqIndex_nonneg (by show f2 _) (by simp;show a6 f<|aA (w).symm);rfl) (M7 #[.up,?_]) (by simp[aD];show dG (a6 (aA w) g) D);have x:h9 m b (b.update m<|jo λa=>a.eraseIdxIfInBounds am):=ji ..;have y:=IsL.update (n:=n) t<|λa=>a.eraseIdxIfInBounds am;rw[show d.toArray.eraseIdxIfInBounds am=(d.eraseIdx am).toArray by simp]at y;show(show u H #[Y.d,Y.O,Y.I,Y.X,Y.q,bE++(m,.list ds)::b4] b from e▸c).kW x<| .list (a3:=d.eraseIdx am) #[_,y]<|aO.erase (s.keep<|c.pu q x) am
end
end
section
open PySem.StrLaws
inductive ed|q7|vO|vP|brk (ag:bQ)
noncomputable def ed.lg:ed->bQ
 | .q7=>[42]| .vO=>[63]| .vP=>[46]| .brk ag=>91::(ag++[93])
noncomputable def q8 (ag:bQ):bQ:=if ag.headD 0=33 then ag.tail else ag
noncomputable def zz (ag:bQ):bQ:=if ag.headD 0=93 then ag.tail else ag
noncomputable def lh (ag:bQ)(al:Nat):Option Nat:=((ag.drop al).findIdx? (·==45)).map (al+·)
noncomputable def nB:Nat->bQ->Nat->Nat->List bQ
 |0,ag,ac,_=>[ag.drop ac]|am+1,ag,ac,al=>match lh ag al with
  |none=>[ag.drop ac]|some ak=>(ag.drop ac).take (ak - ac)::nB am ag (ak+1) (ak+3)
def vQ {c:Nat}{a:bQ}{b d:Nat}:nB (c+1) a b d=(match lh a d with|none=>[a.drop b]|some k=>(a.drop b).take (k - b)::nB c a (k+1) (k+3)):=rfl
noncomputable def mD (ag:bQ):Nat:=if ag.head?=J 33 then 2 else 1
noncomputable def hN (ag:bQ):List bQ:=nB (ag.length+1) ag 0<|mD ag
noncomputable def fF:List bQ->List bQ
 |[]=>[]|b::r=>match fF r with
  |[]=>[b]|af::ds=>if af.headD 0<b.getLastD 0 then(b.dropLast++af.tail)::ds else b::af::ds
def vR {a:bQ}{r:List bQ}:fF (a::r)=(match fF r with|[]=>[a]|k::ds=>if k.headD 0<a.getLastD 0 then(a.dropLast++k.tail)::ds else a::k::ds):=rfl
noncomputable def oy:List bQ->Bool
 |[]=>z|b::r=>oy r&&(match fF r with
  |[]=>z|af::_=>!b.isEmpty&&!af.isEmpty)
def EO {a:bQ}{r:List bQ}:oy (a::r)=(oy r&&(match fF r with|[]=>z|k::_=>!a.isEmpty&&!k.isEmpty)):=rfl
noncomputable def li (ag:bQ):bQ:=if 45∈ag then(dD (aB [45])<|(fF<|hN ag).map aB).cps.toList else ag
noncomputable def EP (ag:bQ):Bool:=ag.all λb=>b !=38&&b !=124&&b !=126
noncomputable def vS (ag:bQ):Bool:=(hN ag).getLast? !=J []&&oy (hN ag)&&(fF<|hN ag).all (λb=>!b.contains 45&&!b.contains 92)&&JoinOk (aB [45]) ((fF<|hN ag).map aB)&&decide ((hN ag).length<=100)&&decide (((hN ag).map (·.length)).sum<=1000)
noncomputable def sR (ag:bQ):Bool:=!(q8 ag).isEmpty&&!(zz<|q8 ag).contains 93&&!ag.contains 92&&decide (ag.length<=100)&&(!ag.contains 45||vS ag)&&EP (li ag)&&decide ((li ag).length<=100)
noncomputable def lV (aa:bQ):bQ:=if aa.headD 0=33 then 94::aa.tail else if aa.headD 0=94\/aa.headD 0=91 then 92::aa else aa
noncomputable def pz (aa:bQ):bQ:=if aa=[]then[40,63,33,41]else if aa=[33]then[46]else 91::(lV aa++[93])
noncomputable def ed.ok:ed->Bool
 | .brk ag=>sR ag|_=>z
noncomputable def ed.g3:ed->bT
 | .q7=>ah| .vO=>J<|aB [46]
 | .vP=>J<|aB [92,46]
 | .brk ag=>J<|aB<|pz<|li ag
noncomputable def h2 (a:List bT):bT->List bT
 |none=>if a.getLast?=J ah then a else a++[ah]|some aa=>a++[J aa]
noncomputable def dw (ge:List ed):List bT:=ge.foldl (λa it=>h2 a it.g3) []
noncomputable def cc (ge:List ed):bQ:=ge.flatMap ed.lg
def EQ (b:lh r k=J o):k<=o/\o<r.length/\r[o]?=J 45/\∀a,k<=a->a<o->r[a]?≠J 45:=by
 unfold lh at b;rw[gl]at b;obtain⟨o,g,rfl⟩:=b;rw[List.findIdx?_eq_some_iff_getElem]at g;show aY g λl h p=>?_;rw[k7]at l;show l6 (by simp+arith) (by grind) ?_<|λa i q=>?_
 .rw[N3]at h;mspec gm (by omega);show congrArg J (by simpa using h)
 .have c:=p (a - k) (by show c7 [.aL t<| .S aV C,.j (.S y aV) t] 0 (.e y) C D q<|aA<|fa (n:=a) (m:=k)<|i);rw[N3]at c;mspec gm (by grind);intro d;injection d with d
  simp only[(show k+(a - k)=a from by show c1 (bd [.j (.S C y) t] 0 (.S y C) t D<|aA<|fa (n:=a) (m:=k)<|i)<|bd [.j y<| .S t C] 0 y (.S C t) D<|e0<|cg<|a - k),d]at c;show absurd c<|f D
def N4 (b:lh o k=ah):∀a,k<=a->o[a]?≠J 45:=by
 unfold lh at b;rw[Option.map_eq_none_iff,List.findIdx?_eq_none_iff]at b;intro a c d;have e:(o.drop k)[a - k]?=J 45:=by mspec uZ;mspec(show k+(a - k)=a by show c1 (bd [.j (.S C y) t] 0 (.S y C) t D<|aA<|fa (n:=a) (m:=k)<|c)<|bd [.j y<| .S t C] 0 y (.S C t) D<|e0<|cg<|a - k);show d
 show absurd (b _<|ib e)<|f D
structure nC (ca ag:bQ)(L:Nat):Prop where
 len:L+ag.length<ca.length
 at_:∀a,a<ag.length->ca[L+a]?=ag[a]?
def nC.zA {c ac a:Nat}(d:nC m k c)(b:a<=k.length):(m.drop<|c+ac).take (a - ac)=(k.drop ac).take (a - ac):=by
 apply NK;intro e;by_cases b:e<a - ac
 .mspec N5 b;mspec N5 b;mspec uZ;mspec uZ;rw[vb];show aJ (d.at_ _<|by omega) V
 .mspec nW (by show aJ g8 ?_;show a6 (ol (a - ac)<|(Bu (c+ac) m).length)<|g7.mp b);show aJ (nW (by mspec g8;show a6 (ol (a - ac)<|(Bu ac k).length)<|g7.mp b)) V
def nC.N6 (d:nC x o k):vN x 45 (k+w) (k+o.length) (match lh o w with|some r=>((k+r:Nat):Int)|none=> -1):=by
 cases h:lh o w with
 |none=>show .no λa b c f=>N4 h (a - k) (by show c7 [.j (.S t y) aV,.j aV<| .S C t] 0 y C V b<|e0<|cg<|a - k) (by rw[<-d.at_ _ (by show c7 [.aL t<| .S aV C,.j (.S y aV) t] 0 (.e y) C V c<|aA<|fa (n:=a) (m:=k)<|bd [.j (.S y t) C] 0 y C V b),show k+(a - k)=a by show c1 (bd [.j (.S C y) t] 0 (.S y C) t V<|aA<|fa (n:=a) (m:=k)<|bd [.j (.S y t) C] 0 y C V b)<|bd [.j y<| .S t C] 0 y (.S C t) V<|e0<|cg<|a - k];show f)
 |some r=>
  show bC λi g=>?_;show iQ (EQ h) λb c l o=>?_;show g ?_;clear g i;show .nA (k+r) (bd [.j C t] 0 (.S y C) (.S y t) D b) (bd [.aL C t] 0 (.e<| .S y C) (.S y t) D c) (by mspec d.at_ _ c;show l) λa b g f=>o (a - k) (c7 [.j (.S t y) aV,.j aV<| .S C t] 0 y C D b<|e0<|cg<|a - k) (c7 [.aL t<| .S aV C,.j (.S y aV) t] 0 (.e y) C D g<|aA<|fa (n:=a) (m:=k)<|bd [.j (.S y t) C] 0 y C D b) (by show ch (d.at_ _<|by show jB [.aL t C,.aL aV<| .S dx t,.j (.S y dx) aV] 0 (.e y) C D c g<|aA<|fa (n:=a) (m:=k)<|bd [.j (.S y t) C] 0 y C D b) ?_;mspec(show k+(a - k)=a by show c1 (bd [.j (.S C y) t] 0 (.S y C) t D<|aA<|fa (n:=a) (m:=k)<|bd [.j (.S y t) C] 0 y C D b)<|bd [.j y<| .S t C] 0 y (.S C t) D<|e0<|cg<|a - k);show f)
def sS (a:bQ)(b:k<=m)(c:m<=a.length):jZ (aB a) (J (k:Int)) (J (m:Int))=aB ((a.drop k).take<|m - k):=sliceText_nat (aB a) b c
def N7 (a:bQ)(b:a≠[]):jZ (aB a) ah (J<| -1)=aB a.dropLast:=by
 have c:0<a.length:=jm.mpr b;have b:jZ (aB a) ah (J<| -1)=jZ (aB a) (J ((0:Nat):Int)) (J ((a.length - 1:Nat):Int)):=by
  unfold jZ;rw[sliceIdx_none_lo];mspec sliceIdx_neg_hi _ _ (f V) (by rw[gB];lia);mspec(show((-1:Int)+((aB a).length:Nat))=((a.length - 1:Nat):Int) by rw[gB];show gr (bj [↑a.length,↑(a.length - 1)] [.j A<| .e aC] 0 (.S (.O<| -1) A) aC D (dH.mpr (e0<|cg<|a.length - 1):))<|bj [↑(a.length - 1),↑a.length] [.aL A aC] 0 A (.S (.O<| -1) aC) D (dH.mpr (aA<|fa (n:=a.length) (m:=1)<|dL [.aL (.O 0) y] 0 (.O 1) y D c):));rfl
 mspec b;mspec sS a (by show ey _) (by simp+arith);mspec qa;rw[uy];show aJ JQ V
def ER (a:bQ)(b:a≠[]):jZ (aB a) (J 1) ah=aB a.tail:=by
 have c:0<a.length:=jm.mpr b;have b:jZ (aB a) (J 1) ah=jZ (aB a) (J ((1:Nat):Int)) (J ((a.length:Nat):Int)):=by
  unfold jZ;rw[sliceIdx_none_hi];rfl
 mspec b;mspec sS a (by assumption) (by simp+arith);mspec o5 (by simp);simp
def N8 (b:r≠[]):∃a ds,fF r=a::ds:=by
 cases r with
 |nil=>show absurd V b|cons b r=>
  rw[vR];cases fF r with
  |nil=>show dN _ _ V|cons a ds=>dsimp only;split<;>show dN _ _ V
theorem ES:∀{r:List bQ}(b:Nat),oy r=z->oy (r.drop b)=z
 |[],b,a=>by rw[w5];rfl|c::r,0,a=>a|c::r,b+1,a=>by
  rw[EO,i7]at a;show ES b a.1
theorem zB:∀r:List bQ,(fF r).length<=r.length
 |[]=>cg _|a::r=>by
  have:=zB r;rw[vR];cases h:fF r with
  |nil=>simp|cons a ds=>
   replace this:=h▸this
   try dsimp only
   split<;>simp at this ⊢<;>omega
theorem ET:∀r:List bQ,((fF r).map (·.length)).sum<=(r.map (·.length)).sum
 |[]=>cg _|a::r=>by
  have:=ET r;rw[vR];cases h:fF r with
  |nil=>simp|cons a ds=>
   replace this:=h▸this
   try dsimp only
   split<;>simp at this ⊢<;>omega
theorem zC:∀{r:List bQ},ae∈r->ae.length<=(r.map (·.length)).sum
 |c::r,a=>by
  mspec b8;mspec hW;show ay (a5 a) (λb=>?_) λa=>?_
  .obtain rfl:=b;simp+arith
  .have:=zC a;show bd [.j y t] 0 y (.S C t) D this
theorem zD:∀(r:List bQ)(a:Nat),((r.drop a).map (·.length)).sum<=(r.map (·.length)).sum
 |[],a=>by simp|b::r,0=>cg _|b::r,a+1=>by have:=zD r a;simp at this ⊢;show bd [.j y t] 0 y (.S C t) V this
def pA (a b:bQ):aB a++aB b=aB (a++b):=by
 show(?_:(#[a.toArray++b.toArray]:v)=#[(a++b).toArray]);rw[List.append_toArray]
def N9 (a:k≠[]):k.getLast?=J (k.getLastD 0):=by
 cases k with
 |nil=>show absurd V a|cons a k=>rfl
def vT (a:k≠[]):k[0]?=J (k.headD 0):=by
 cases k with
 |nil=>show absurd V a|cons a k=>rfl
theorem zE:∀(a:Nat)(b:bQ)(d c:Nat),(nB a b d c).length<=a+1
 |0,_,_,_=>cg _|a+1,b,d,c=>by
  rw[vQ];cases lh b c with
  |none=>simp|some e=>have:=zE a b (e+1)<|e+3;simp;omega
section
variable {Y:be}{H:aP}
def b7.oz (a:k[cD]?=J b)(c:cD<2^62):b7 Y (.str<|aB k) (.int (cD:Nat)) (.str<|aB [b]):=b7.str (by simpa using a) (by show b1)
def b7.Oa (a:k≠[]):b7 Y (.str<|aB k) (.int<| -1) (.str<|aB [k.getLastD 0]):=b7.NU (ae:=aB k) (b:=k.getLastD 0)<|N9 a
def ax.q9:ax Y .Eq (.str<|aB [k]) (.str<|aB [m]) (k==m):=by
 have a:=ax.Bc (Y:=Y) (ac:=aB [k]) (al:=aB [m]);have H:(aB [k]==aB [m])=(k==m):=by
  rw[sT,beq_iff_eq,beq_iff_eq];constructor
  .intro a;injection a with a;simpa using a
  .rintro rfl;rfl
 rwa[H]at a
def ax.Ob:ax Y .NotEq (.str<|aB [k]) (.str<|aB [m]) (k !=m):=by
 have a:=ax.Bd (Y:=Y) (ac:=aB [k]) (al:=aB [m]);have H:(aB [k]!=aB [m])=(k !=m):=by
  rw[sT,bne_iff_ne,bne_iff_ne];constructor
  .rintro a rfl;show a V
  .intro a b;apply a;injection b with b;simpa using b
 rwa[H]at a
end
end
section
open PySem.StrLaws
noncomputable def EU (aa:Option cC):List cC:=qm (λa a a a=>[]) (λa=>[]) (λal a=>al) []<|aa.getD<| .Pass default
noncomputable def vU (aa:Option cC):List cC:=qm (λa a a a=>[]) (λa=>[]) (λa b=>b) []<|aa.getD<| .Pass default
noncomputable abbrev e2 (U:aW)(ca:T):b3:=bV (bk 69<|a U) ca 69
noncomputable abbrev zF (U:aW):List cC:=lC (cf 69<|a U) 3
noncomputable abbrev EV (U:aW):List cC:=EU (vU (vU (zF U)[2]?)[0]?)[0]?
noncomputable abbrev zG (U:aW):List cC:=vU (EV U)[4]?
noncomputable abbrev pB (U:aW):List cC:=vU (zG U)[1]?
noncomputable abbrev d0 (ac:T)(b:T)(a:i)(ca:bQ):bg:=[("pat",.str (aB ca)),("STAR",a),("QUESTION_MARK",.str (aB [46])),("res",.val (.ref ac)),("add",.val (.ref b)),("n",.int ca.length)]
noncomputable abbrev eM (dk:List (dy×v))(ac:T)(b:T)(a:i)(fp:List bT):aE:=[(b,.aG (e1 "list.append" ac)),(ac,.list (fp.map<|c5 a)),(64,.tab dk)]
noncomputable abbrev fw (ag:bQ):i:=.str<|aB ag
noncomputable def pi (aa:Option cC):c6:=qm (λa2 L a ak=>a2) (λa=>(.Name "" default)) (λa a=>(.Name "" default)) (.Name "" default)<|aa.getD<| .Pass default
noncomputable def Oc (aa:Option cC):c6:=qm (λa2 L a ak=>L) (λa=>(.Name "" default)) (λa a=>(.Name "" default)) (.Name "" default)<|aa.getD<| .Pass default
noncomputable def Od (aa:Option cC):dy:=qm (λa2 L a ak=>ak) (λa=>default) (λa a=>default) default<|aa.getD<| .Pass default
noncomputable abbrev Oe (U:aW):=pi (pB U)[5]?
noncomputable abbrev Of (U:aW):=Oc (pB U)[5]?
noncomputable abbrev Og (U:aW):=Od (pB U)[5]?
noncomputable abbrev EW (U:aW):=lC (pB U) 5
section
variable {U:aW}
inductive EX (ca ag:bQ)(L:Nat)(d:i)(ac b aT:T)(e:aE)(am:Nat)(Γ:bg)(own:aE):Prop
 |mk (f:List bQ) (a c:Nat) (g:aN Γ (("i",.int (L+a:Nat))::("k",.int (L+c:Nat))::("j",.int (L+ag.length:Nat))::("chunks",.val (.ref aT))::d0 ac b d ca)) (h:own=(aT,.list (f.map fw))::e) (j:f++nB am ag a c=hN ag) (k:a<=c) (l:ag.length<c+am) (m:a<=ag.length):EX ca ag L d ac b aT e am Γ own
inductive EY (Y:be)(H:aP)(ca ag:bQ)(L:Nat)(c:i)(ac b aT:T)(d:aE)(an:aX):Prop
 |mk (Γ:bg) (e:List bQ) (a:Nat) (f:aN Γ (("i",.int (L+a:Nat))::("j",.int (L+ag.length:Nat))::("chunks",.val (.ref aT))::d0 ac b c ca)) (g:e++[ag.drop a]=hN ag) (h:a<=ag.length) (j:u H #[Y.d,Y.O,Y.I,Y.X,Γ,(aT,.list (e.map fw))::d] an):EY Y H ca ag L c ac b aT d an
def Oh (n:Nat)(v:T)(X:aZ)(I:aP)(q a:bQ)(d:Nat)(w:nC q a d)(M:a.length<=100)(Si:q.length<=100000)(m:i)(x A h:T)(r:aE)(o:Nat)(P:db):
 E #[U,n,e2 U v,h::X,("k",.int (d+mD a:Nat))::("chunks",.val (.ref h))::("i",.int (d:Nat))::("j",.int (d+a.length:Nat))::d0 x A m q,(h,.list [])::r] I (hT (pB U) 2)
  (c2 (EY #[U,n,e2 U v,h::X,[],[]] I q a d m x A h r) P):=by
 show E.um (ce:=EX q a d m x A h r) (a.length+1)
  #[[],0,mD a,aN.cons (by rw[nN];show bo 2 V)<|aN.cons (bo 0 V)<|aN.cons (bo 3 V)<|aN.cons (bo 1 V)<|λb l=>g<|g<|g<|g l,V,V,ey _,by simp+arith,ey _] ?_
 rintro o Γ own ⟨s,k,u,Q,rfl,B,Z,F,Sf⟩;show#[z,a1.j8 R.p5 eH.bool<|λp=>rfl,λp=>?_,λl=>by cases l];mexact N.dW (Y:=#[U,n,e2 U v,h::X,Γ,(h,.list (s.map fw))::r]) Q ?_;have Sg:=w.len;mexact N.br (E.assign (af:=.int (match lh a u with|some b=>((d+b:Nat):Int)|none=> -1)) (R.jg (ds:=[.str<|aB [45],.int (d+u:Nat),.int (d+a.length:Nat)]) (R.K 4 V) (fB.str NP PySem.F.type_str_find) (W.cons (R.of_eq R.cy<|by room) (W.cons (R.K 1 V) (W.cons (R.K 2 V) W.nil V) V) V) (bO.NO (by show iC ‹_›) w.N6) V c V) (.inl V) V) ?_;cases hf:lh a u with
 |none=>
  have Sh:nB o a k u=[a.drop k]:=by
   cases o with
   |zero=>rfl|succ o=>rw[vQ];show aJ hf V
  mexact N.cons (aw:=λp=>False) (E.dC (aq:=z) (a1.bL (R.K 0 V) R.bK ax.lt c) (λp=>N.cons (aw:=λp=>False) (E.brk λl m=>?_) λp h=>h.elim)<|λl=>by cases l) λp h=>h.elim;show#[_,s,k,aN.cI [1,2,3,4,5,6,7,8,9] rfl,Sh▸B,Sf,m]
 |some b=>
  show iQ (EQ hf) λG K h v=>?_;cases o with
  |zero=>show absurd F<|λL=>wU [.j y C,.aL C t,.aL t<| .S y<| .O 0] D G K F
  |succ o=>
  have h:s.length<=200:=by
   have H:=congrArg fL B;unfold hN at H;rw[dF]at H;show c7 [.j C<| .O 100,.j (.S y t) aV,.j aV<| .e<| .e C] 0 y (.O 200) D M (aA H)<|zE (a.length+1) a 0<|mD a
  mexact N.br (E.dC (aq:=aj) (a1.bL (R.K 0 V) R.bK (ax.of_eq ax.lt<|decide_eq_false<|λL=>pX [.aL (.S y C)<| .O 0] D<|el.mp L) c) (λl=>by cases l)<|λp=>N.nil λl m=>m) ?_;mexact N.br (E.append (bE:=[]) (b4:=r) (af:=fw<|(a.drop k).take<|b - k) (ds:=s.map fw) (R.of_eq (R.q6 (R.K 4 V) (R.K 1 V) (R.K 0 V) (.int _) (.int _) (by rw[gB];unfold aD;show b1)) (by mspec sS q (by show c7 [.j C aV,.j aV t] 0 (.S y C) (.S y t) D Z G) (by show c7 [.aL (.S y aV) t,.aL C aV] 0 (.S y C) t D Sg K);mspec(by lia:d+b - (d+k)=b - k);show aJ (w.zA<|by show iC ‹_›) V)) (bo 3 V) (f D) (f D) V (by rw[a7];unfold aD;show b1) c V rfl rfl) ?_;mexact N.br (E.assign (af:=.int ((d+(b+1):Nat):Int)) (R.of_eq (R.add (R.K 0 V) R.bK)<|congrArg i.int<|by simp+arith) (.inl V) V) ?_;mexact N.br (E.assign (af:=.int ((d+(b+3):Nat):Int)) (R.of_eq (R.add (R.K 1 V) R.bK)<|congrArg i.int<|by simp+arith) (.inl V) V) ?_;mexact N.nil λl m=>#[_,_,#[o,fy _,s++[(a.drop k).take<|b - k],b+1,b+3,aN.cI [1,0,2,3,4,5,6,7,8,9] rfl,?_,?_,by simp+arith,(c7 [.j aV C,.aL y<| .S aV<| .e t] 0 (.e y) (.S (.S C<| .O 3) t) D G F),by assumption],m]
  .simp
  .show ch B ?_;mspec(by rw[vQ];show aJ hf V:nB (o+1) a k u=(a.drop k).take (b - k)::nB o a (b+1) (b+3));simp
def Oi (a:k≠[]):k.take (k.length - 1)++fF (k.drop<|k.length - 1)=k:=by
 have b:fF (k.drop<|k.length - 1)=k.drop (k.length - 1):=by
  have c:=jm.mpr a;mspec rK<|(aA<|fa (n:=k.length) (m:=1)<|dL [.aL (.O 0) y] 0 (.O 1) y D c);mspec Nr<|(e0<|cg<|k.length - 1);rfl
 mspec b;rw[p2]
def Oj {a:Nat}(p:a<k.length - 1)(q:oy k=z):∃g h b ds,g.length=k.length - 1 - (a+1)/\k.take (k.length - 1 - (a+1))=g/\k.take (k.length - 1 - a)++fF (k.drop<|k.length - 1 - a)=g++h::b::ds/\fF (k.drop<|k.length - 1 - a)=b::ds/\k.drop (k.length - 1 - (a+1))=h::k.drop (k.length - 1 - a)/\h≠[]/\b≠[]:=by
 have l:k.length - 1 - (a+1)<k.length:=(bd [.j y t,.aL t C] 0 (.e y) C D (fC (k.length - 1)<|a+1)<|aA<|fa (n:=k.length) (m:=1)<|bd [.aL C t,.j t y] 0 (.O 1) y D p<|fC k.length 1);show cm (N8 (r:=k.drop<|k.length - 1 - a) (by intro c;have:=congrArg fL c;rw[k7]at this;simp at this;omega)) λb ds i=>?_;have o:k.drop (k.length - 1 - (a+1))=k[k.length - 1 - (a+1)]::k.drop (k.length - 1 - a):=by
  mspec rK l;show aJ (by lia:k.length - 1 - (a+1)+1=k.length - 1 - a) V
 have d:=ES (k.length - 1 - (a+1)) q;rw[o,EO,i,i7,i7]at d;show Hw (k.take<|k.length - 1 - (a+1)) (k[k.length - 1 - (a+1)]) b ds (by mspec g8;simp+arith) V ?_ i o ?_ ?_
 .mspec i;mspec(by lia:k.length - 1 - a=(k.length - 1 - (a+1))+1);mspec List.take_succ_eq_append_getElem l;rw[hX];show aJ IR V
 .intro c;rw[c]at d;show absurd d.2.1<|f D
 .intro c;rw[c]at d;show absurd d.2.2<|f D
def Ok (P:aR U)(n:Nat)(B:T)(X:aZ)(F:aP)(q:bQ)(s:Nat)(v:i)(w x h:T)(l:aE)(a:List bQ)(Q:a≠[])(Sr:oy a=z)(Z:a.length<=100)(Ss:(a.map (·.length)).sum<=1000)(Sf:i)(Sg:db):
 E #[U,n,e2 U B,X,("chunk",Sf)::("j",.int (s:Nat))::("chunks",.val (.ref h))::d0 w x v q,(h,.list (a.map fw))::l] F (hT (pB U) 5)
  (c2 (u F #[U,n,e2 U B,X,("j",.int (s:Nat))::("chunks",.val (.ref h))::d0 w x v q,(h,.list ((fF a).map fw))::l]) Sg):=by
 have St:0<a.length:=jm.mpr Q;have Sh:=E.pi (Y:=#[U,n,e2 U B,X,("chunk",Sf)::("j",.int (s:Nat))::("chunks",.val (.ref h))::d0 w x v q,(h,.list (a.map fw))::l]) (H:=F) (bU:=Sg) (r:=.iy (a.length - 1:Nat) 0<| -1) (ds:=(jc<|a.length - 1).map λb=>.int ((a.length - 1 - b:Nat):Int))
  (λo=>("j",.int (s:Nat))::("chunks",.val (.ref h))::d0 w x v q) (λb=>(h,.list ((a.take (a.length - 1 - b)++fF (a.drop<|a.length - 1 - b)).map fw))::l)
  (target:=Oe U) (iter:=Of U) (body:=EW U) (pos:=Og U)
  (R.mX (ds:=[.int (a.length - 1:Nat),.int 0,.int<| -1]) (P.eZ V rfl (by room) (f D) V rfl rfl (f D)) (W.cons (R.of_eq (R.sub (R.jH (ds:=[_]) (P.eZ V rfl (by room) (f D) V rfl rfl (f D)) (W.cons (R.K 2 V) W.nil V) (bO.len (as.G ap) (by rw[a7];show gu)) V c V) R.bK)<|congrArg i.int (by rw[a7];show gr (bj [↑a.length,↑(a.length - 1)] [.j A<| .e aC] 0 (.c8 A<| .O 1) aC D (dH.mpr (e0<|cg<|a.length - 1):))<|bj [↑(a.length - 1),↑a.length] [.aL A aC] 0 A (.c8 aC<| .O 1) D (dH.mpr (aA<|fa (n:=a.length) (m:=1)<|dL [.aL (.O 0) y] 0 (.O 1) y D St):))) (W.cons R.bK (W.cons R.kR W.nil V) V) V) (bO.NW (f D)<|PyProof.noPylong_small<|by decide) V c V)
  (λP=>by intro Su;cases Su) (cA.down<|dG (a6 (fC a.length 1) Z) D) (λP G=>g G) ?_ (λSv o=>.name<| .inl V) ?_ (λo=>rfl)
 .rw[a7,jQ,zH,Cg,qa,nv]at Sh;show Sh
 .rw[uy];show aJ (Oi Q) V
 .intro b Sv I Si hd P Q;have Sj:b<a.length - 1:=by have:=(gG.mp hd).1;simpa using this
  rw[e8,rP Sj]at hd;obtain rfl:=fS hd;show bC λQ P=>?_;show j5 (Oj Sj Sr) λd p k ds Sf=>?_;show tJ Sf λSw Sx Sk Sl Sm Sn So=>?_;show P ?_;clear P Q;have Sy:p.length<=1000:=by
   have:=zC (ae:=p) (r:=a.drop<|a.length - 1 - (b+1))<|Sm▸ap;have:=zD a<|a.length - 1 - (b+1);lia
  have Sz:k.length<=1000:=by
   have P:=zC (ae:=k) (r:=fF<|a.drop<|a.length - 1 - b)<|Sl▸ap;have:=zD a<|a.length - 1 - b;show a6 (a6 (a6 P<|ET<|a.drop<|a.length - 1 - b) this) Ss
  have Sp:(d++p::k::ds).length<=100:=by
   show ch Sk ?_;mspec dF;mspec g8;have:=zB<|a.drop<|a.length - 1 - b;rw[k7]at this;show jB [.j t<| .O 100,.j C aV,.j y dx,.j (.S aV dx) t] 0 (.S y C) (.O 100) D Z this (ol (a.length - 1 - b) a.length)<|aA<|fa (n:=a.length) (m:=a.length - 1 - b)<|a6 (fC (a.length - 1) b)<|fC a.length 1
  show(?_:N (F.at Si) #[U,n,e2 U B,I,bl "k" (.int ((a.length - 1 - b:Nat):Int))<|("j",.int (s:Nat))::("chunks",.val (.ref h))::d0 w x v q,(h,i.list ((a.take (a.length - 1 - b)++fF (a.drop<|a.length - 1 - b)).map fw))::l] (EW U) (rV (u (F.at Si) #[U,n,e2 U B,I,("j",.int (s:Nat))::("chunks",.val (.ref h))::d0 w x v q,(h,i.list ((a.take (a.length - 1 - (b+1))++fF (a.drop<|a.length - 1 - (b+1))).map fw))::l]) (λo=>False) _));mspec(by show aJ Sk V:(h,i.list ((a.take (a.length - 1 - b)++fF (a.drop<|a.length - 1 - b)).map fw))::l=(h,i.list ((d++p::k::ds).map fw))::l);mspec Sm;rw[vR];mspec Sl;have F:a.length - 1 - (b+1)=d.length:=by show aJ Sw V
  mspec Sx;mspec(by grind:a.length - 1 - b=d.length+1);have SA:d.length<=100:=by rw[dF]at Sp;show a6 (oU _ _) ‹_›
  have Sq:∀K L M a b F,R #[U,n,e2 U B,I,bl "k" (.int ((d.length+1:Nat):Int))<|("j",.int (s:Nat))::("chunks",.val (.ref h))::d0 w x v q,(h,i.list ((d++p::k::ds).map fw))::l] (.Subscript (.Name "chunks" K) (.BinOp (.Name "k" L) .Sub (.Constant (.int 1) F M) a) b) (fw p):=λo o o o o o=>
   R.item (R.K 2 V) (R.of_eq (R.sub (R.K 0 V) R.bK)<|congrArg i.int (by simp+arith:((d.length+1:Nat):Int) - 1=((d.length:Nat):Int))) (b7.list (as.G ap) (by simp)<|by show gu)
  have hd:∀K L M,R #[U,n,e2 U B,I,bl "k" (.int ((d.length+1:Nat):Int))<|("j",.int (s:Nat))::("chunks",.val (.ref h))::d0 w x v q,(h,i.list ((d++p::k::ds).map fw))::l] (.Subscript (.Name "chunks" K) (.Name "k" L) M) (fw k):=λo o o=>
   R.item (R.K 2 V) (R.K 0 V) (b7.list (as.G ap) (by simp)<|dL [.j y<| .O 100] 0 (.e<| .e y) (.O<|2^63) D SA)
  mexact N.em (E.dC (aq:=decide (k.headD 0<p.getLastD 0)) (a1.bL (R.item (Sq _ _ _ _ _ _) R.kR<|b7.Oa Sn) (R.item (hd _ _ _) R.bK<|b7.oz (cD:=0) (vT So)<|by simp+arith) ax.NT c) (λG=>?_)<|λG=>?_)
  .mexact N.br (E.N1 (am:=d.length) (bE:=[]) (b4:=l) (ds:=(d++p::k::ds).map fw) (af:=fw<|p.dropLast++k.tail) (R.of_eq (R.jD (R.of_eq (R.q6 (Sq _ _ _ _ _ _) V R.kR .none (.int _) (by rw[gB];unfold aD;show b1))<|by show aJ (N7 _ Sn) V) (R.of_eq (R.q6 (hd _ _ _) R.bK V (.int _) .none (by rw[gB];unfold aD;show b1))<|by show aJ (ER _ So) V) (by rw[gB,gB];mspec List.length_dropLast;mspec ra;unfold aD;show c7 [.j t<| .O 1000,.j aV<| .O 1000,.j y t,.j C aV] 0 (.S y C) (.O<|2^24) D Sy Sz (fC p.length 1)<|fC k.length 1))<|by rw[pA]) (R.of_eq (R.sub (R.K 0 V) R.bK)<|congrArg i.int (by show gr (bj [↑d.length] [] 0 (.c8 (.e A)<| .O 1) A D) (bj [↑d.length] [] 0 A (.c8 (.e A)<| .O 1) D):((d.length+1:Nat):Int) - 1=((d.length:Nat):Int))) (bo 2 V) (f D) (f D) V (by simp) (by rw[a7];show b1) V) ?_;mexact N.br (E.N2 (am:=d.length+1) (bE:=[]) (b4:=l) (ds:=(d++(p.dropLast++k.tail)::k::ds).map fw) (R.K 0 V) (bo 2 V) (f D) (f D) (by simp) (by simp) (by rw[a7];simp at Sp ⊢;show b1)) ?_;mexact N.qx (aN.cI [1,2,3,4,5,6,7,8] rfl) ?_;simp only[];mspec if_pos<|f G;simp[MT]
  .mexact N.qx (aN.cI [1,2,3,4,5,6,7,8] rfl) ?_;simp only[];show aJ (if_neg<|of_decide_eq_false G) V
end
end
section
open PySem.StrLaws
noncomputable abbrev cu:List (dy×v):=[(#[66,39,66,76],"_translate.<locals>.<lambda>")]
def EZ (a:aW)(b:T):(e2 a b).qual++("<lambda>":v)="_translate.<locals>.<lambda>":=by room
def zI:js "-"=aB [45]:=by room
def Ol:js "\\"=aB [92]:=by room
section
variable {U:aW}
def Om (Z:aR U)(Sj:di U.B 68 64)(n:Nat)(s:T)(X:aZ)(v:aP)(Sk:v.bZ=z)(q a:bQ)(l:Nat)(A:nC q a l)(hd:45∈a)(G:vS a=z)(Sf:a.length<=100)(Sg:q.length<=100000)(f:i)(d h:T)(r:List bT)(Sl:i)(Sm:db):
 N v #[U,n,e2 U s,X,("i",.int (l:Nat))::("j",.int (l+a.length:Nat))::("stuff",Sl)::d0 d h f q,eM cu d h f r] (pB U) (c2 (qn #[U,n,e2 U s,X,("stuff",.str (aB<|li a))::("j",.int (l+a.length:Nat))::d0 d h f q,eM cu d h f r] v) Sm):=by
 mexact N.r2 λSh Sn=>?_;unfold vS at G;simp only[i7,decide_eq_true_eq,bne_iff_ne,yC]at G;show bC λH w=>?_;obtain⟨⟨⟨⟨⟨So,I⟩,Sp⟩,Sq⟩,K⟩,Sr⟩:=G;show w ?_;clear w H;have Ss:=A.len;have h0:a≠[]:=by rintro rfl;cases hd
 have St:hN a≠[]:=by
  intro m;have:=zE (a.length+1) a 0<|mD a;unfold hN at m;rw[vQ]at m;cases p:lh a (mD a)<;>replace m:=p▸m<;>cases m
 mexact N.m4 (.inl V) λk G Sl=>?_;mexact N.br (E.assign (af:=.int ((l+mD a:Nat):Int)) (R.kP (al:=(a.headD 0==33)) (a1.bL (R.item (R.K 4 V) (R.K 1 V)<|b7.oz (b:=a.headD 0) (by mspec show l=l+0 from rfl;mspec A.at_ 0<|jm.mpr h0;show vT h0)<|bd [.j C<| .O 100000,.aL (.S y t) C] 0 (.e y) (.O<|2^62) D Sg Ss) (R.of_eq R.cy<|by room) ax.q9 c)
  (λp=>R.of_eq (R.add (R.K 1 V) R.bK)<|congrArg i.int (by mspec show mD a=2 from if_pos (by cases a with|nil=>show absurd V h0|cons Su a=>simpa using p);simp+arith))
  (λp=>R.of_eq (R.add (R.K 1 V) R.bK)<|congrArg i.int (by mspec show mD a=1 from if_neg (by cases a with|nil=>show absurd V h0|cons Su a=>simpa using p);simp+arith))) (.inl V) V) ?_
 mexact N.dW (eI:=("k",.int (l+mD a:Nat))::("chunks",.val (.ref k))::("i",.int (l:Nat))::("j",.int (l+a.length:Nat))::d0 d h f q) (aN.cI [0,1,2,3,5,6,7,8,9,10] rfl) ?_;mexact N.cons (Oh (U:=U) n s X v q a l A Sf Sg f d h k (eM cu d h f r) 0 Sh) ?_;rintro p ⟨Γ,B,o,Sv,L,Sw,Sx⟩;show eQ #[U,n,e2 U s,k::X,Γ,(k,.list (B.map fw))::eM cu d h f r] v V rfl rfl rfl rfl Sx (N.dW Sv ?_);have G:B.length<=100:=by have:=congrArg fL L;replace this:=dF▸this;show bd [.j C<| .O 100,.j (.S y t) C] 0 y (.O 100) D K<|aA this
 have M:∀G:be,eH G (.str<|aB<|a.drop o) z:=λG=>by
  have Sy:=eH.str (Y:=G) (ae:=aB<|a.drop o) (by rw[gB];mspec k7;show el.mpr<|b9 [.j C<| .O 100,.j y C] 0 (.e y) (.O 9223372036854775808) D Sf<|fC a.length<|o);rwa[show(((aB<|a.drop o).length:Int)!=0)=z by rw[gB,bne_iff_ne];show λSz=>oP [.aL (.O 0) y,.j y<| .O 0] D (jm.mpr (show a.drop o≠[]from λm=>So (by show ch L ?_;mspec m;simp)))<|aA<|jn Sz]at Sy
 mexact N.br (E.assign (af:=.str<|aB<|a.drop o) (R.of_eq (R.q6 (R.K 3 V) (R.K 0 V) (R.K 1 V) (.int _) (.int _) (by rw[gB];unfold aD;show b1)) (by mspec sS q (by show bd [.j C t] 0 (.S y C) (.S y t) D Sw) (by show iC ‹_›);mspec(show l+a.length - (l+o)=a.length - o by lia);mspec A.zA<|cg _;show aJ (o5 (by mspec k7;simp+arith)) V)) (.inl V) V) ?_;mexact N.br (X:=k::X) (Γ:=("chunk",.str (aB<|a.drop o))::("j",.int (l+a.length:Nat))::("chunks",.val (.ref k))::d0 d h f q) (own:=(k,.list ((hN a).map fw))::eM cu d h f r) (E.dC (aq:=z) (a1.j8 (R.K 0 V) (M _)<|λF=>rfl) (λF=>?_)<|λp=>by cases p) ?_
 .mexact N.br (E.append (bE:=[]) (b4:=eM cu d h f r) (af:=fw<|a.drop o) (ds:=B.map fw) (R.K 0 V) (bo 3 V) (by decide) (by decide) V (by rw[a7];unfold aD;show b1) c V rfl rfl) ?_;mexact N.nil λp P=>?_;have A:B.map fw++[fw<|a.drop o]=(hN a).map fw:=by show ch L ?_;mspec eX;rfl
  show(congrArg (λm=>u v #[U,n,e2 U s,k::X,_,[]++(k,i.list m)::eM cu d h f r] p) A).mp<|P.eh (Γ:=("chunk",.str (aB<|a.drop o))::("j",.int (l+a.length:Nat))::("chunks",.val (.ref k))::d0 d h f q)<|aN.cI [0,2,3,4,5,6,7,8,9] rfl
 mexact N.br (Ok Z n s (k::X) v q (l+a.length) f d h k (eM cu d h f r) (hN a) St I K Sr (.str<|aB<|a.drop o) Sh) ?_;mexact N.kj (aU.NJ Z (Y:=#[U,n,e2 U s,k::X,("j",.int (l+a.length:Nat))::("chunks",.val (.ref k))::d0 d h f q,(k,.list ((fF<|hN a).map fw))::eM cu d h f r]) (kx:=k) (i3:=(fF<|hN a).map aB) (bE:=[(k,.list ((fF<|hN a).map fw)),(h,.aG (e1 "list.append" d)),(d,.list (r.map<|c5 f))]) (b4:=[]) (dk:=cu) V Sk V
  (λx Q SA=>by cases bX Q;show absurd SA<|by decide) V Sj V (bo 1 V) (by decide) (by decide) (by mspec d9;show ap) (by rw[a7];show dG (a6 (zB<|hN a) K) D) (zI▸Sq) c V (by decide) V rfl rfl ?_ V (λF=>rfl) #[_,V]) (.inl V) V ?_
 .intro l o q s v SB A B W G M SD I;show bC λH w=>?_;obtain⟨x,Q,rfl⟩:=ck M;show w ?_;clear w H;have Si:=Sp x Q;have SE:92∉x:=λm=>by simp[m]at Si
  show EM (ag:=x) (b:=45) (λm=>by simp[m]at Si) zI (EM (ag:=x) (b:=92) SE Ol (w7 (tS V rfl SD I #[W,V,λl=>av W V<|λl=>?_]) c) V rfl rfl) V rfl rfl;show#[#[W,V],SB.heap,l,V,λF F m=>m]
 intro m o q l;show tI l ?_;intro l;mexact N.nil λp P=>Sn .next p ?_;show#[k::X,λm l=>g l,?_];have k:aB (li a)=dD (js "-") ((fF<|hN a).map aB):=by
  unfold li;mspec if_pos hd;show aJ zI V
 mspec k;show(P.q4 (sO:=eM cu d h f r)<|E0 _ _).eh<|aN.cI [0,1,3,4,5,6,7,8] rfl
end
end
section
open PySem.StrLaws
def zJ (b c:bQ):(aB b==aB c)=decide (b=c):=by
 rw[sT,beq_iff_eq];mspec decide_eq_true_eq;constructor
 .intro a;injection a with a;simpa using a
 .rintro rfl;rfl
section
variable {Y:be}{H:aP}
def ax.On {j9:h}:ax Y .In (.str k) (.bR<|j9.map .str) (j9.any (·==k)):=.mk λa b f g i j k l c d e=>by
 show p c.dO λf a=>?_;show bw a ?_;show cm d.yI λc f a=>?_;show wY a λc d f=>?_;show in_tuple_strs c d.strs<|e b.heap b.toks<|Q.bf _
def eH.aB (a:k.length<=100000):eH Y (.str<|aB k) (!k.isEmpty):=by
 have b:=eH.str (Y:=Y) (ae:=Mine.aB k) (by rw[gB];show el.mpr<|dL [.j y<| .O 100000] 0 (.e y) (.O 9223372036854775808) D a);have H:(((Mine.aB k).length:Int)!=0)=!k.isEmpty:=by
  rw[gB];cases k with
  |nil=>rfl|cons a k=>simp;show λa=>oP [.aL y<| .O 0] D<|aA<|jn a
 rwa[H]at b
end
section
variable {U:aW}
def aU.Oo (g:aR U){a:be}{h:aP}{b aM:T}(i:a.d=U)(v:a.G=bE++(aM,.tab dk)::b4)
 (y:(pos,a.I.qual++"<lambda>")∈dk) (A:∀c∈dk,(pos.line==c.1.line&&pos.col==c.1.col)=z->c.2=a.I.qual++"<lambda>") (C:a.I.code=.ref b) (D:di U.B b aM) (E:y6 k a.I=([],[])) (F:iT m a.I=pure Sf) (G:a.I.globals=iH)
 (I:R a (.Name "_twin_re_1" o) (.val<| .ref 43)) (K:R a arg (.str n)) (L:∀M<n.cps.size,mB (n.cps.getD M 0)) (X:n.length<=100000)
 (j:bh [.Lambda k body m pos,arg] a.I=(aj,eval (.Lambda k body m pos) a.I)::bh [arg] a.I) (l:bh [arg] a.I=(aj,eval arg a.I)::bh [] a.I)
 (d:∃e:ia Bool,eval (.Call (.Attribute (.Name "_twin_re_1" o) "sub" w) [.Lambda k body m pos,arg] [] r) a.I=(do
  let x <-eval (.Name "_twin_re_1" o) a.I
  es w.atName
  let(B,first) <-e7 [x] (gK x "sub" e)
  dP r B first (cY r<|bh [.Lambda k body m pos,arg] a.I) [])):
 aU a h (.Call (.Attribute (.Name "_twin_re_1" o) "sub" w) [.Lambda k body m pos,arg] [] r) (iJ a<| .str n):=.mk λq f k s t u c=>by
 show p d λe d=>?_;show jP (pl:=e) (I.go q f _ s t.todA u.tocV λN O P S W=>?_) d;obtain rfl:=W.is;have e:=u.keep S;have k:∀d,Q d a.d.B->mC d:=λd m=>MA g<|i▸m;show Mz (k _ e.fq) (mh (first:=[.ref 43]) (kQ ?_ j) j (by mspec l;rfl));show aR.y5 g (Y:=a) (H:=h) (aa:={f with heap:=O,toks:=P}) i e v y A C D E F G λB m n o g h d r u j w=>?_;show kQ (K.go q {f with heap:=g,toks:=h} _ s t.todA d.tocV λN g i e f=>ly ?_) l;show p f.dO λh g=>?_;show bw g ?_;have f:=d.keep e;show My (k _ f.fq) L (by unfold aD;show b1) (by show b1) (av _ (e _ _ j) V) λg h i d=>?_;show c _ _ .up #[a.X,a.G,_,(cH V rfl rfl),λg e=>e,f.keep d,.str _ _]
def pC {a:i}(b:bT)(c:R #[U,n,env,X,Γ,eM r k m a o] arg (c5 a b))(d:(("add":v),i.val (.ref m))∈Γ)(l:o.length<=100000)(e:mq env=aj)(g:f6 (.Call (.Name "add" x) [arg] [] w) ah pos.line env=pure aj)
 (h:bh [arg] env=(aj,eval arg env)::bh [] env)
 (j:eval (.Call (.Name "add" x) [arg] [] w) env=(do dP w (<-eval (.Name "add" x) env) [] (cY w<|bh [arg] env) (jI w<|jJ [] env))):
 E #[U,n,env,X,Γ,eM r k m a o] B (.Expr (.Call (.Name "add" x) [arg] [] w) pos) (c2 (u B #[U,n,env,X,Γ,eM r k m a<|o++[b]]) M):=by
 mspec(show eM r k m a (o++[b])=[(m,.aG (e1 "list.append" k))]++(k,.list (o.map (c5 a)++[c5 a b]))::[(64,.tab r)]from by simp);show(E.qC (Y:=#[U,n,env,X,Γ,eM r k m a o]) (H:=B) (bU:=M) (bE:=[(m,.aG (e1 "list.append" k))]) (b4:=[(64,.tab r)]) (ds:=o.map<|c5 a) c d (f D) (f D) ap V (by rw[a7];unfold aD;show b1) e g h j)
def Op (a:k≠33)(b:k≠94)(c:k≠91):lV (k::r)=k::r:=(if_neg a).trans<|if_neg λd=>d.elim b c
def Oq (a:bQ):(lV a).length<=a.length+1:=by
 by_cases b:a.headD 0=33
 .show a6 (aA<|congrArg fL<|if_pos b)<|qB ?_;show a6 (aA ra)<|fC _ _
 .by_cases c:a.headD 0=94\/a.headD 0=91
  .show aA<|congrArg fL<|(if_neg b).trans<|if_pos c
  .show a6 (aA<|congrArg fL<|(if_neg b).trans<|if_neg c)<|lB _
def Os (L:aR U)(n:Nat)(F:T)(X:aZ)(G:aP)(q o:bQ)(s:Nat)(m:o.length<=100)(g:i)(h k:T)(p:List bT)(t:p.length<=100000)(w:List (dy×v))(H:db):
 E #[U,n,e2 U F,X,("i",.int (s:Nat))::("stuff",.str (aB o))::d0 h k g q,eM w h k g p] G (hT (zG U) 4) (c2 (u G #[U,n,e2 U F,X,("i",.int (s:Nat))::d0 h k g q,eM w h k g<|p++[J<|aB<|pz o]]) H):=by
 cases o with
 |nil=>
  show E.dC (aq:=!(!([]:bQ).isEmpty)) (a1.rG<|a1.j8 (R.K 1 V) (eH.aB<|by simp)<|λx=>rfl) (λx=>?_)<|λb=>absurd b<|f D;mexact N.br (pC (J<|aB<|pz []) (R.of_eq R.cy<|by room) (bo 6 V) t c V rfl rfl) ?_;show N.nil λb d=>d.eh<|aN.cI [0,2,3,4,5,6,7] rfl
 |cons a r=>
  show E.dC (aq:=!(!(a::r).isEmpty)) (a1.rG<|a1.j8 (R.K 1 V) (eH.aB<|by show b1)<|λx=>rfl) (λb=>absurd b<|by simp)<|λx=>?_;mexact N.em (E.dC (aq:=decide (a::r=[33])) (a1.bL (R.K 1 V) (R.of_eq R.cy<|by room) (ax.of_eq ax.Bc<|zJ _ [33]) c) (λb=>?_)<|λb=>?_)
  .have b:=f b;mspec b;mexact N.br (pC (J<|aB<|pz [33]) (R.of_eq R.cy<|by room) (bo 6 V) t c V rfl rfl) ?_;show N.nil λb d=>d.eh<|aN.cI [0,2,3,4,5,6,7] rfl
  .have b:=of_decide_eq_false b;have I:pz (a::r)=91::(lV (a::r)++[93]):=by unfold pz;mspec if_neg (by simp);show aJ (if_neg b) V
   have K:(lV<|a::r).length<=101:=by have:=Oq<|a::r;show b9 [.j C<| .O 100,.j y<| .e C] 0 y (.O 101) D m this
   mspec I;mexact N.br (X:=X) (Γ:=("stuff",.str (aB<|lV<|a::r))::("i",.int (s:Nat))::d0 h k g q) (own:=eM w h k g p) (E.dC (aq:=(a==33)) (a1.bL (R.item (R.K 1 V) R.bK<|b7.oz (cD:=0) V<|by simp+arith) (R.of_eq R.cy<|by room) ax.q9 c) (λA=>?_)<|λA=>?_) ?_
   .obtain rfl:a=33:=by simpa using A
    mexact N.br (E.assign (af:=.str<|aB<|lV<|33::r) (R.of_eq (R.jD (ac:=aB [94]) (al:=aB r) (R.of_eq R.cy<|by room) (R.of_eq (R.q6 (R.K 1 V) R.bK V (.int _) .none (by rw[gB];unfold aD;show b1)) (by mspec ER _ (by simp);rfl)) (by rw[gB,gB];unfold aD;simp at m ⊢;show dL [.j y<| .O 99] 0 (.S (.O 1) y) (.O 16777216) D m)) (by rw[pA];rfl)) (.inl V) V) ?_;show N.nil λb d=>d.eh<|aN.cI [0,1,2,3,4,5,6,7] rfl
   .mexact N.em (E.dC (aq:=[aB [94],aB [91]].any (·==aB [a])) (a1.bL (R.item (R.K 1 V) R.bK<|b7.oz (cD:=0) V<|by simp+arith) (R.tuple (ds:=[.str<|aB [94],.str<|aB [91]]) (W.cons (R.of_eq R.cy<|by room) (W.cons (R.of_eq R.cy<|by room) W.nil V) V)<|du D) (ax.On (j9:=[aB [94],aB [91]])) c) (λl=>?_)<|λl=>?_)
    .have B:lV (a::r)=92::a::r:=by
      simp only[tQ,List.any_nil,zJ,Ot,Bool.or_eq_true,decide_eq_true_eq,Ou,and_true]at l;rcases l with rfl|rfl<;>rfl
     mspec B;mexact N.br (E.assign (af:=.str<|aB<|92::a::r) (R.of_eq (R.jD (ac:=aB [92]) (al:=aB<|a::r) (R.of_eq R.cy<|by room) (R.K 1 V) (by rw[gB,gB];unfold aD;simp at m ⊢;show dL [.j y<| .O 99] 0 (.S (.O 1)<| .e y) (.O 16777216) D m)) (by rw[pA];rfl)) (.inl V) V) ?_;show N.nil λb d=>d.eh<|aN.cI [0,1,2,3,4,5,6,7] rfl
    .have B:lV (a::r)=a::r:=by
      simp only[tQ,List.any_nil,zJ,Ot,B7,decide_eq_false_iff_not,Ou,and_true]at l;show Op (by simpa using A) (λg=>l.1 g.symm)<|λg=>l.2 g.symm
     mspec B;show N.nil λb d=>d.eh<|aN.cI [1,0,2,3,4,5,6,7] rfl
   .mexact N.br (pC (J<|aB<|91::(lV (a::r)++[93])) (R.of_eq (R.yc (ae:=aB<|lV<|a::r) (R.K 0 V) (by rw[gB,show js "["=aB [91] by room,show js "]"=aB [93] by room,gB,gB];unfold aD;simp;show dL [.j y<| .O 101] 0 (.S (.O 1) y) (.O 16777215) D K)) (by rw[show js "["=aB [91] by room,show js "]"=aB [93] by room,pA,pA];rfl)) (bo 6 V) t c V rfl rfl) ?_;show N.nil λb d=>d.eh<|aN.cI [1,2,3,4,5,6,7] rfl
end
end
section
open PySem.StrLaws
def Ov (c:EP k=z):∀a<(aB k).cps.size,mB ((aB k).cps.getD a 0):=λa d=>by
 have b:a<k.length:=by simpa using d
 have e:(aB k).cps.getD a 0=k[a]:=by
  simp[b]
 mspec e;simpa[mB,and_assoc]using(yC.mp c k[a]<|ox b)
abbrev zK (U:aW)(n:Nat)(c:T)(X:aZ)(H:aP)(ca ag:bQ)(L:Nat)(a:i)(ac b:T)(fp:List bT):aX->Prop:=qn #[U,n,e2 U c,X,("i",.int (L+ag.length+1:Nat))::d0 ac b a ca,eM cu ac b a<|fp++[J<|aB<|pz<|li ag]] H
section
variable {U:aW}
def Ow (q:aR U)(u:di U.B 68 64)(n:Nat)(l:T)(X:aZ)(m:aP)(y:m.bZ=z)(j a:bQ)(d:Nat)(s:nC j a d)(t:sR a=z)(A:j.length<=100000)(g:i)(e h:T)(k:List bT)(B:k.length<=100000)(v:db):
 N m #[U,n,e2 U l,X,("i",.int (d:Nat))::("j",.int (d+a.length:Nat))::d0 e h g j,eM cu e h g k] (zG U) (c2 (zK U n l X m j a d g e h k) v):=by
 unfold sR at t;simp only[i7,decide_eq_true_eq]at t;show bC λC w=>?_;show ao t λF G=>?_;show ao F λt H=>?_;show ao t λF I=>?_;show ao F λt K=>?_;show ao t λF L=>?_;show ao F λt Y=>?_;show w ?_;clear w C;have t:=s.len;mexact N.br (E.assign (af:=.str<|aB a) (R.of_eq (R.q6 (R.K 2 V) (R.K 0 V) (R.K 1 V) (.int _) (.int _) (by rw[gB];unfold aD;show b1)) (by
  mspec sS j (by simp+arith) (by show iC ‹_›);have x:=s.zA (ac:=0)<|cg _;rw[nN,uy,qa,iU]at x;mspec(by simp+arith:d+a.length - d=a.length);show aJ x V)) (.inl V) V) ?_
 mexact N.cons (aw:=qn #[U,n,e2 U l,X,("stuff",.str (aB<|li a))::("j",.int (d+a.length:Nat))::d0 e h g j,eM cu e h g k] m)
  (E.dC (aq:=!decide (45∈a)) (a1.bL (R.of_eq R.cy<|by room) (R.K 0 V) ax.NQ c) (λo=>?_)<|λo=>?_) ?_
 .have M:li a=a:=if_neg (by simpa using o:45∉a);mexact N.br (E.assign (af:=.str<|aB a) (R.jg (ds:=[.str<|aB [92],.str<|aB [92,92]]) (R.K 0 V) (fB.str EL NS) (W.cons (R.of_eq R.cy<|by room) (W.cons (R.of_eq R.cy<|by room) W.nil V) V) (bO.NR<|λO=>by simp[O]at L) V c V) (.inl V) V) ?_;mspec M;show N.nil λo p=>#[X,λw t=>t,p.eh<|aN.cI [0,2,3,4,5,6,7,8] rfl]
 .have hd:45∈a:=by simpa using o
  show N.dW (eI:=("i",.int (d:Nat))::("j",.int (d+a.length:Nat))::("stuff",.str (aB a))::d0 e h g j) (aN.cI [1,2,0,3,4,5,6,7,8] rfl) (Om q u n l X m y j a d s hd (by simpa[hd]using I:vS a=z) K A g e h k _ _)
 rintro o ⟨r,P,p⟩;show eQ #[U,n,e2 U l,r,("stuff",.str (aB<|li a))::("j",.int (d+a.length:Nat))::d0 e h g j,eM cu e h g k] m V rfl rfl rfl rfl p ?_;mexact N.kj (aU.Oo q (b:=68) (aM:=64) (dk:=cu) (bE:=[(h,.aG (e1 "list.append" e)),(e,.list (k.map<|c5 g))]) (b4:=[]) V rfl (by rw[EZ];show vV _) (λs Q t=>by cases bX Q;show(EZ U l).symm) V u V rfl rfl (q.eW V (by room) V rfl (f D)) (R.K 0 V) (Ov H) (by rw[gB];show b1) V rfl #[_,V]) (.inl V) V ?_;intro s _ _ t;show Ho t λS=>?_;intro _;obtain rfl:r=s:=S.symm;mexact N.br (E.assign (af:=.int ((d+a.length+1:Nat):Int)) (R.of_eq (R.add (R.K 1 V) R.bK)<|congrArg i.int<|by simp+arith) (.inl V) V) ?_;mexact N.dW (eI:=("i",.int (d+a.length+1:Nat))::("stuff",.str (aB<|li a))::d0 e h g j) (aN.cI [0,1,3,4,5,6,7,8] rfl) ?_;show N.br (Os q n l r m j (li a) (d+a.length+1) G g e h k B cu<|c2 (zK U n l X m j a d g e h k) v)<|N.nil λo p=>#[r,P,p]
def Ox (a:bQ):∃c,a=c++q8 a/\c.length=if a.headD 0==33 then 1 else 0:=by
 cases a with
 |nil=>show av ([]) V rfl|cons d r=>
  by_cases b:d=33
  .subst b;show av ([33]) V rfl
  .show av ([]) (if_neg b).symm (by simp[b])
def Oy (a:bQ):∃c,a=c++zz a/\c.length=if a.headD 0==93 then 1 else 0:=by
 cases a with
 |nil=>show av ([]) V rfl|cons d r=>
  by_cases b:d=93
  .subst b;show av ([93]) V rfl
  .show av ([]) (if_neg b).symm (by simp[b])
def Oz (Sk:aR U)(Sl:di U.B 68 64)(n:Nat)(Q:T)(X:aZ)(L:aP)(Sm:L.bZ=z)(k o:bQ)(a:Nat)(G:nC k o a)(Sn:k[a+o.length]?=J 93)(Sf:sR o=z)(M:k.length<=100000)(p:i)(q r:T)(x:List bT)(So:x.length<=100000)(Sg:db):
 N L #[U,n,e2 U Q,X,("i",.int (a:Nat))::d0 q r p k,eM cu q r p x] (EV U) (c2 (zK U n Q X L k o a p q r x) Sg):=by
 have W:=Sf;unfold sR at W;simp only[i7,decide_eq_true_eq]at W;show bC λH v=>?_;show ao W λSp u=>?_;show ao Sp λW u=>?_;show ao W λSp u=>?_;show ao Sp λW u=>?_;show ao W λSp u=>?_;show ao Sp λY Sq=>?_;show v ?_;clear v H;show bC λH v=>?_;show aY (Ox o) λd Z Sh=>?_;show v ?_;clear v H;show bC λH v=>?_;show aY (Oy<|q8 o) λh Si Sj=>?_;show v ?_;clear v H;have P:=G.len;have I:q8 o≠[]:=by intro s;replace Y:=s▸Y;show absurd Y<|f D
 have h0:o≠[]:=by intro s;replace I:=s▸I;show I V
 generalize q8 o=m1 at*;generalize zz m1=m2 at*;have Sr:93∉m2:=λs=>by simp[s]at Sq
 have w:o.length=d.length+m1.length:=by have:=congrArg fL Z;rw[dF]at this;show this
 have F:m1.length=h.length+m2.length:=by have:=congrArg fL Si;rw[dF]at this;show this
 have v:=jm.mpr I;have Ss:k[a+d.length]?=J (m1.headD 0):=by
  mspec G.at_ _ (by show bd [.j (.S y t) C,.aL (.O 0) t] 0 (.e y) C D (aA (w).symm) v);mspec Z;mspec sU<|cg _;rw[zH];show vT I
 have St:∀g,g<m2.length->k[a+d.length+h.length+g]?=m2[g]?:=λg K=>by
  mspec(by simp+arith:a+d.length+h.length+g=a+(d.length+h.length+g));mspec G.at_ _ (by show pW [.j (.S y dx) aV,.j (.S C gZ) dx,.aL t gZ] 0 (.e<| .S (.S y C) t) aV D (aA (w).symm) (aA (F).symm) K);mspec Z;mspec sU (by simp+arith);mspec Si;mspec sU (by show c7 [.j (.S (.S t y) aV)<| .S C t] 0 y C D<|e0<|cg<|d.length+h.length+g - d.length);congr 1;show c1 (jB [.j (.S t aV)<| .S (.S aV dx) C,.j (.S y dx) t] 0 y C D (aA<|fa (n:=d.length+h.length+g) (m:=d.length)<|bd [] 0 y (.S (.S y C) t) D)<|aA<|fa (n:=d.length+h.length+g - d.length) (m:=h.length)<|c7 [.j (.S (.S t y) aV)<| .S C t] 0 y C D<|e0<|cg<|d.length+h.length+g - d.length)<|jB [.j (.S (.S t aV) y)<| .S dx t,.j dx<| .S C aV] 0 y C D (e0<|cg<|d.length+h.length+g - d.length)<|e0<|cg<|d.length+h.length+g - d.length - h.length
 mexact N.br (E.assign (af:=.int (a:Nat)) (R.K 0 V) (.inl V) V) ?_;mexact N.br (X:=X) (Γ:=("j",.int (a+d.length:Nat))::("i",.int (a:Nat))::d0 q r p k) (own:=eM cu q r p x) (E.dC (aq:=decide ((a:Int)<(k.length:Int))&&(o.headD 0==33)) (a1.oY (a1.bL (R.K 0 V) (R.K 7 V) ax.lt c) λu=>a1.bL (R.item (R.K 2 V) (R.K 0 V)<|b7.oz (b:=o.headD 0) (by mspec(V:a=a+0);mspec G.at_ 0<|jm.mpr h0;show vT h0)<|bd [.j C<| .O 100000,.aL (.S y t) C] 0 (.e y) (.O<|2^62) D M P) (R.of_eq R.cy<|by room) ax.q9 c) (λl=>?_)<|λl=>?_) ?_
 .have A:d.length=1:=by mspec Sh;rw[if_pos];simp at l;simpa using l.2
  mspec A;mexact N.br (E.assign (af:=.int ((a+1:Nat):Int)) (R.of_eq (R.add (R.K 0 V) R.bK)<|congrArg i.int<|by simp+arith) (.inl V) V) ?_;show N.nil λl B=>B.eh<|aN.cI [0,1,2,3,4,5,6,7] rfl
 .have A:d.length=0:=by
   mspec Sh;rw[if_neg];intro s;rw[s,decide_eq_true<|by(exfalso;lia)]at l;cases l
  mspec A;show N.nil λl B=>B.eh (aN.cons (by rw[nN];show bo 0 V)<|aN.cI [1,2,3,4,5,6,7] rfl)
 mexact N.br (X:=X) (Γ:=("j",.int (a+d.length+h.length:Nat))::("i",.int (a:Nat))::d0 q r p k) (own:=eM cu q r p x) (E.dC (aq:=decide (((a+d.length:Nat):Int)<(k.length:Int))&&(m1.headD 0==93)) (a1.oY (a1.bL (R.K 0 V) (R.K 7 V) ax.lt c) λu=>a1.bL (R.item (R.K 2 V) (R.K 0 V)<|b7.oz (b:=m1.headD 0) Ss<|jB [.j t<| .O 100000,.aL (.S y aV) t,.j (.S C dx) aV] 0 (.e<| .S y C) (.O<|2^62) D M P<|aA (w).symm) (R.of_eq R.cy<|by room) ax.q9 c) (λl=>?_)<|λl=>?_) ?_
 .have A:h.length=1:=by mspec Sj;rw[if_pos];simp at l;simpa using l.2
  mspec A;mexact N.br (E.assign (af:=.int ((a+d.length+1:Nat):Int)) (R.of_eq (R.add (R.K 0 V) R.bK)<|congrArg i.int<|by simp+arith) (.inl V) V) ?_;show N.nil λl B=>B.eh<|aN.cI [0,1,2,3,4,5,6,7] rfl
 .have A:h.length=0:=by
   mspec Sj;rw[if_neg];intro s;rw[s,decide_eq_true<|by(exfalso;lia)]at l;cases l
  mspec A;show N.nil λl B=>B.eh (aN.cons (by rw[nN];show bo 0 V)<|aN.cI [1,2,3,4,5,6,7] rfl)
 mexact N.br (E.xV m2.length (λg=>("j",.int (a+d.length+h.length+g:Nat))::("i",.int (a:Nat))::d0 q r p k) (λu=>eM cu q r p x) (aN.bf _) V (λg K=>?_)<|λg K=>?_) ?_
 .have Su:a+d.length+h.length+g<k.length:=lq [_,_,_,_,_,_,_,_] [.aL (.S y gZ) dx,.j (.S C kH) gZ,.j (.S t tB) kH,.j aV tB] 0 (.e<| .S (.S (.S y C) t) aV) dx D P (aA (w).symm) (aA (F).symm) K;obtain⟨v,hd,Sv⟩:∃v,k[a+d.length+h.length+g]?=J v/\decide (g<m2.length)=(decide (((a+d.length+h.length+g:Nat):Int)<(k.length:Int))&&(v !=93)):=by
   mspec decide_eq_true (by show el.mpr ‹_›:((a+d.length+h.length+g:Nat):Int)<(k.length:Int));simp only[us];by_cases v:g<m2.length
   .show av (m2[g]) (by mspec St g v;show aJ (gm v) V) ?_;mspec decide_eq_true v;show(bne_iff_ne.mpr<|λs=>Sr<|by show s▸ox v).symm
   .show av 93 ((by show c1 (tC [.j (.S C gZ) dx,.j (.S t kH) gZ,.j aV kH] 0 (.S (.S (.S y C) t) aV) (.S y dx) D (aA (w).symm) (aA (F).symm) K) (tC [.j C<| .S t gZ,.j gZ<| .S aV kH,.j kH dx] 0 (.S y C) (.S (.S (.S y t) aV) dx) D (aA w) (aA F)<|g7.mp v):a+d.length+h.length+g=a+o.length)▸Sn) ?_;mspec decide_eq_false v;rfl
  mspec Sv;show a1.oY (a1.bL (R.K 0 V) (R.K 7 V) ax.lt c) λu=>a1.bL (R.item (R.K 2 V) (R.K 0 V)<|b7.oz hd<|dG (a6 Su M) D) (R.of_eq R.cy<|by room) ax.Ob c
 .mexact N.br (E.assign (af:=.int ((a+d.length+h.length+(g+1):Nat):Int)) (R.of_eq (R.add (R.K 0 V) R.bK)<|congrArg i.int<|by simp+arith) (.inl V) V) ?_;show N.xT (aN.cI [0,1,2,3,4,5,6,7] rfl) V
 mspec(by show c1 (pW [.j (.S C gZ) dx,.j (.S t aV) gZ] 0 (.S (.S (.S y C) t) aV) (.S y dx) D (aA (w).symm)<|aA (F).symm) (pW [.j C<| .S t gZ,.j gZ<| .S aV dx] 0 (.S y C) (.S (.S (.S y t) aV) dx) D (aA w)<|aA F):a+d.length+h.length+m2.length=a+o.length);mexact N.em (E.dC (aq:=aj) (a1.bL (R.K 0 V) (R.K 7 V) (ax.of_eq ax.xa<|decide_eq_false<|λd=>wU [.aL (.S y C) t,.j t<| .S y C] D P<|dH.mp d) c) (λl=>by cases l)<|λu=>?_);show N.dW (eI:=("i",.int (a:Nat))::("j",.int (a+o.length:Nat))::d0 q r p k) (aN.cI [1,0,2,3,4,5,6,7] rfl)<|Ow Sk Sl n Q X L Sm k o a G Sf M p q r x So Sg
end
end
section
open PySem.StrLaws
section
variable {Y:be}{H:aP}
def N.E1 (a:(m,.val (.ref ac))∈Y.q)(f:(ac,.list bF)∈Y.G)(g:ac∉H.cB)(h:bi.Sublist Y.G)(i:∀c,u H Y c->ac∉aI bi)(j:∀d∈n,d.1∈aI bi)(p:w bi (.list bF))(hd:(m==("__debug__":v))=aj)(e:(m==("__classdict__":v))=aj):N H Y (.Return (J<| .Name m x) pos::k) (et Y.d H n w):=
 N.cons (aw:=λq=>False) (E.ret (R.name a hd e) λc m b r=>by
  obtain rfl:=r.is;have e:=b.q4 h;have o:=e.pe j<|eJ _;have h:∀k∈H.cB++aI bi,k∈Y.X:=λk a=>by
   show cL a (λa=>?_) λa=>?_
   .show b.sub k a
   .show g0 a λd j=>?_;show(e.G d j).1
  show#[_,_,bi,.inl V,p,o,?_];show((b.G _ f).2.keep (l.sub h)<|Q.bf _).toList λo d=>cb _ d λa=>by
   show cL a (λa=>?_) λa=>?_
   .show g a
   .show i c b a) λq d=>d.elim
def ax.zL:ax Y .Eq (.str<|aB [b]) (.str<|aB [b]) z:=ax.of_eq ax.q9<|beq_self_eq_true b
def ax.rb (a:b≠af):ax Y .Eq (.str<|aB [b]) (.str<|aB [af]) aj:=ax.of_eq ax.q9<|beq_eq_false_iff_ne.mpr a
def eH.of_eq (a:eH Y k m)(b:m=n):eH Y k n:=b▸a
end
noncomputable def OA (aa:Option cC):c6:=wM (aa.getD<| .Pass default) (λa a a a a a a a a a=>(.Name "" default)) (λa a a a a a a a a a=>(.Name "" default)) (λa a a a a a a a a a a=>(.Name "" default)) (λa a=>(.Name "" default)) (λa a=>(.Name "" default)) (λa a a=>(.Name "" default)) (λa a a a a a a=>(.Name "" default)) (λa a a a=>(.Name "" default)) (λa a a a a=>(.Name "" default)) (λa a a a a=>(.Name "" default)) (λa a a a a=>(.Name "" default)) (λa a a a=>(.Name "" default)) (λa2 a a a=>a2) (λa a a=>(.Name "" default)) (λa a a=>(.Name "" default)) (λa a a=>(.Name "" default)) (λa a a=>(.Name "" default)) (λa a a a a=>(.Name "" default)) (λa a a a a=>(.Name "" default)) (λa a a=>(.Name "" default)) (λa a=>(.Name "" default)) (λa a a a=>(.Name "" default)) (λa a=>(.Name "" default)) (λa a=>(.Name "" default)) (λa a=>(.Name "" default)) (λa=>(.Name "" default)) (λa=>(.Name "" default))<|λa=>(.Name "" default)
noncomputable def OB (aa:Option cC):Option cC:=(EU aa)[0]?
def E2 (it:ed):0<it.lg.length:=by cases it<;>show oO _
def zM (a b:List ed):cc (a++b)=cc a++cc b:=vW
def OC (a:List ed)(it:ed):dw (a++[it])=h2 (dw a) it.g3:=by simp[dw,iX]
def OD (a:List bT)(b:bT):(h2 a b).length<=a.length+1:=by
 unfold h2;split
 .split<;>simp
 .simp
def vX:∀c:List ed,(dw c).length<=c.length:=by
 intro c;have d:∀(b:List ed)(a:List bT),(b.foldl (λe it=>h2 e it.g3) a).length<=a.length+b.length:=by
  intro b
  induction b with
  |nil=>intro a;simp|cons it b f=>intro a;have:=f<|h2 a it.g3;have:=OD a it.g3;simp only[hV,eC];lia
 unfold dw;simpa using d c []
inductive E3 (ca:bQ)(ge:List ed)(a:i)(ac b:T)(am:Nat)(Γ:bg)(own:aE):Prop
 |mk (done c:List ed) (d:ge=done++c) (e:am=c.length) (f:aN Γ (("i",.int ((cc done).length:Nat))::d0 ac b a ca)) (g:own=eM cu ac b a (dw done)):E3 ca ge a ac b am Γ own
section
variable {U:aW}
def nD (b:aR U):eB U 69 (bk 69<|a U) ["pat","STAR","QUESTION_MARK"] (cf 69<|a U):=
 b.fn V rfl D V rfl (It λd e g=>by room)
  (fi V<|fi V<|fi V hc) (f D) (by decide:([]:h).Nodup) c c V
def OE (H:aR U)(Ss:di U.B 68 64)(n:Nat)(v:T)(X w:aZ)(Sl:∀q∈X,q∈w)(F:aP)(St:F.bZ=z)(done p:List ed)(it:ed)(Su:it.ok=z)(Sm:(cc<|done++it::p).length<=100000)(I:done.length<=90000)(d:i)(Sv:nj d)(h k:T)(Sn:db):
 N F #[U,n+1,e2 U v,w,("i",.int ((cc done).length:Nat))::d0 h k d (cc<|done++it::p),eM cu h k d<|dw done] (zF U) (c2 (λa=>∃x K,(∀q∈X,q∈x)/\K=(cc<|done++[it]).length/\u F #[U,n+1,e2 U v,x,("i",.int (K:Nat))::d0 h k d (cc<|done++it::p),eM cu h k d<|dw<|done++[it]] a) Sn):=by
 have So:cc (done++it::p)=cc done++(it.lg++cc p):=by rw[zM];rfl
 have M:(cc<|done++[it]).length=(cc done).length+it.lg.length:=by rw[zM];mspec dF;simp[cc]
 have Sp:=E2 it;have Sg:(cc<|done++it::p).length=(cc done).length+it.lg.length+(cc p).length:=by mspec So;simp;simp+arith
 have Sh:∀P,P<it.lg.length->(cc<|done++it::p)[(cc done).length+P]?=it.lg[P]?:=λP Si=>by
  mspec So;mspec sU (by simp+arith);mspec sV (by show c7 [.aL t C,.j (.S y aV)<| .S aV t] 0 (.e y) C D Si<|aA<|fa (n:=(cc done).length+P) (m:=(cc done).length)<|b9 [] 0 y (.S y C) D);congr 1;simp+arith
 have Q:=vX done;rw[OC];generalize P:cc (done++it::p)=L at*;generalize p:(cc done).length=i0 at*;generalize dw done=ps at*;obtain⟨Y,Z⟩:∃Y,it.lg[0]?=J Y:=#[_,gm Sp];have Sq:=Sh 0 Sp;rw[nN,Z]at Sq;mexact N.br (E.assign (af:=.str<|aB [Y]) (R.item (R.K 1 V) (R.K 0 V)<|b7.oz Sq<|c7 [.j C<| .O 100000,.j (.S (.S y t) aV) C] 0 (.e y) (.O<|2^62) D Sm<|aA (Sg).symm) (.inl V) V) ?_;mexact N.br (E.assign (af:=.int ((i0+1:Nat):Int)) (R.of_eq (R.add (R.K 1 V) R.bK)<|congrArg i.int<|by simp+arith) (.inl V) V) ?_;mexact N.dW (eI:=("c",.str (aB [Y]))::("i",.int (i0+1:Nat))::d0 h k d L) (aN.cI [1,0,2,3,4,5,6,7] rfl) ?_;have A:∀a,u F #[U,n+1,e2 U v,w,("c",.str (aB [Y]))::("i",.int (i0+1:Nat))::d0 h k d L,eM cu h k d<|h2 ps it.g3] a->it.lg.length=1->∃x K,(∀q∈X,q∈x)/\K=(cc<|done++[it]).length/\u F #[U,n+1,e2 U v,x,("i",.int (K:Nat))::d0 h k d L,eM cu h k d<|h2 ps it.g3] a:=λa o B=>f4 w (i0+1) Sl (by mspec M;show aJ B V)<|o.eh λG Sk=>g Sk;cases it with
 |q7=>
  cases Z;mexact N.em (E.dC (aq:=z) (a1.bL (R.K 0 V) (R.of_eq R.cy<|by room) (ax.zL (b:=42)) c) (λl=>?_)<|λa=>by cases a);cases B:ps.getLast? with
  |none=>
   obtain rfl:ps=[]:=OF.mp B;mexact N.em (E.dC (aq:=z) (a1.or (al:=z) (b:=z) (a1.rG (al:=aj)<|a1.j8 (R.K 5 V) (eH.of_eq (eH.list (ds:=[]) (as.G<|g ap)<|f D) c)<|λl=>rfl)<|λa=>by cases a) (λl=>?_)<|λa=>by cases a);show N.br (pC ah (R.K 3 V) (bo 6 V) (f D) c V rfl rfl)<|N.nil λa o=>A a o V
  |some G=>
   have Sw:ps≠[]:=by rintro rfl;cases B
   have Si:a1 #[U,n+1,e2 U v,w,("c",.str (aB [42]))::("i",.int (i0+1:Nat))::d0 h k d L,eM cu h k d ps] (OA<|OB (zF U)[2]?) (aj||!G.isNone):=
    a1.or (a1.rG (al:=z)<|a1.j8 (R.K 5 V) (eH.of_eq (eH.list (ds:=ps.map<|c5 d) (as.G<|g ap) (by rw[a7];show b9 [.j C<| .O 90000,.j y C] 0 (.e y) (.O<|2^62) D I Q))<|decide_eq_true (by rw[a7];show(jm.mpr Sw)))<|λl=>rfl)
     (λl=>a1.bL (R.item (R.K 5 V) R.kR<|b7.em (ds:=ps.map<|c5 d) (af:=c5 d G) (as.G<|g ap) (by mspec sm;mspec B;rfl)) (R.K 3 V) (ax.yb<|uT Sv G) c)
   cases G with
   |none=>
    have p:h2 ps ed.q7.g3=ps:=if_pos B;rw[p]at A ⊢;show N.em (E.dC (aq:=aj) Si (λa=>by cases a)<|λl=>N.nil λa o=>A a o V)
   |some Sj=>
    rw[(show h2 ps ed.q7.g3=ps++[ah]from if_neg (by mspec B;intro Sx;cases Sx))]at A ⊢;show N.em (E.dC (aq:=z) Si (λl=>N.br (pC ah (R.K 3 V) (bo 6 V) (b9 [.j C<| .O 90000,.j y C] 0 y (.O 100000) D I Q) c V rfl rfl)<|N.nil λa o=>A a o V)<|λa=>by cases a)
 |vO=>
  cases Z;mexact N.em (E.dC (aq:=aj) (a1.bL (R.K 0 V) (R.of_eq R.cy<|by room) (ax.rb (b:=63) (af:=42)<|f D) c) (λa=>by cases a)<|λl=>?_);mexact N.em (E.dC (aq:=z) (a1.bL (R.K 0 V) (R.of_eq R.cy<|by room) (ax.zL (b:=63)) c) (λl=>?_)<|λa=>by cases a);show N.br (pC (J<|aB [46]) (R.K 4 V) (bo 6 V) (b9 [.j C<| .O 90000,.j y C] 0 y (.O 100000) D I Q) c V rfl rfl)<|N.nil λa o=>A a o V
 |vP=>
  cases Z;mexact N.em (E.dC (aq:=aj) (a1.bL (R.K 0 V) (R.of_eq R.cy<|by room) (ax.rb (b:=46) (af:=42)<|f D) c) (λa=>by cases a)<|λl=>?_);mexact N.em (E.dC (aq:=aj) (a1.bL (R.K 0 V) (R.of_eq R.cy<|by room) (ax.rb (b:=46) (af:=63)<|f D) c) (λa=>by cases a)<|λl=>?_);mexact N.em (E.dC (aq:=aj) (a1.bL (R.K 0 V) (R.of_eq R.cy<|by room) (ax.rb (b:=46) (af:=91)<|f D) c) (λa=>by cases a)<|λl=>?_);have Sf:=Kg H (n:=n) (env:=e2 U v) (X:=w) (Γ:=("c",.str (aB [46]))::("i",.int (i0+1:Nat))::d0 h k d L) (own:=eM cu h k d ps);replace Sf:=(by room:js "."=aB [46])▸Sf;replace Sf:=(by room:js "\\."=aB [92,46])▸Sf;show N.br (pC (J<|aB [92,46]) (R.g4 (ds:=[.str<|aB [46]]) (H.eW V (by room) V rfl (f D)) (yD H).at_.choose_spec.1 (yD H).at_.choose_spec.2 (W.cons (R.K 0 V) W.nil V) Sf V c V) (bo 6 V) (b9 [.j C<| .O 90000,.j y C] 0 y (.O 100000) D I Q) c V rfl rfl)<|N.nil λa o=>A a o V
 |brk s=>
  cases Z;rw[(show ed.lg (.brk s)=91::(s++[93])from rfl)]at Sh M Sg;simp only[eC,dF,yv]at M Sg;mexact N.em (E.dC (aq:=aj) (a1.bL (R.K 0 V) (R.of_eq R.cy<|by room) (ax.rb (b:=91) (af:=42)<|f D) c) (λa=>by cases a)<|λl=>?_);mexact N.em (E.dC (aq:=aj) (a1.bL (R.K 0 V) (R.of_eq R.cy<|by room) (ax.rb (b:=91) (af:=63)<|f D) c) (λa=>by cases a)<|λl=>?_);mexact N.em (E.dC (aq:=z) (a1.bL (R.K 0 V) (R.of_eq R.cy<|by room) (ax.zL (b:=91)) c) (λl=>?_)<|λa=>by cases a);have Sy:nC L s (i0+1):=#[by show c7 [.j (.S (.S y<| .e<| .S C<| .e<| .O 0) aV) t] 0 (.e<| .S (.e y) C) t D<|aA (Sg).symm,λSj Sr=>by
   mspec(by simp+arith:i0+1+Sj=i0+(Sj+1));mspec Sh (Sj+1) (by simp;show b9 [.aL y C] 0 (.e y) (.e C) D Sr);mspec OG;show aJ (sV Sr) V]
  have Sz:L[i0+1+s.length]?=J 93:=by
   mspec(by simp+arith:i0+1+s.length=i0+(s.length+1));mspec Sh (s.length+1) (by simp);mspec OG;mspec sU<|cg _;rw[zH];rfl
  mexact N.dQ (N.dW (eI:=("i",.int (i0+1:Nat))::d0 h k d L) (λG Sk=>g Sk)<|Oz H Ss (n+1) v w F St L s (i0+1) Sy Sz Su Sm d h k ps (b9 [.j C<| .O 90000,.j y C] 0 y (.O 100000) D I Q) Sn) λSA a r=>?_;cases SA with
  |next=>
   obtain⟨x,SB,o⟩:=r;show f4 x _ (λq a=>SB q<|Sl q a) (c1 (bd [.j (.S y<| .e<| .S C<| .e<| .O 0) t] 0 (.e<| .S (.e y) C) t D<|aA (M).symm)<|bd [.j y<| .S C<| .e<| .S t<| .e<| .O 0] 0 y (.e<| .S (.e C) t) D<|aA M) o
  |brk=>show r|cont=>show r|ret a=>show r
noncomputable abbrev OH:=λ(ge:List ed) (a:i)=>([("pat",.str (aB<|cc ge)),("STAR",a),("QUESTION_MARK",.str (aB [46]))]:bg)
noncomputable abbrev OI:=λac b done (a:i)=>(eM cu ac b a (dw done):aE)
noncomputable abbrev E4:=λac b (ge:List ed) (a:i)=>(eM cu ac b a (dw ge):aE)
def OJ (H:aR U)(L:di U.B 68 64)(n:Nat)(u:T)(X:aZ)(w:aP)(M:w.bZ=z)(d:List ed)(P:∀it∈d,it.ok=z)(I:(cc d).length<=100000)(Q:d.length<=90000)(h:i)(Z:nj h):
 N w #[U,n+1,e2 U u,X,OH d h,[(64,.tab cu)]] (cf 69<|a U) (et U w [(64,.tab cu)] λSf Sg=>Sf=[(64,.tab cu)]/\Sg=.list ((dw d).map<|c5 h)):=by
 mexact N.m4 (.inl V) λk Sf Sh=>?_;mexact N.Cl (ac:=k) (ds:=[]) (bo 0 V) (f D) (f D) ap (.inl V) V rfl λl Sf Sg=>?_;mexact N.br (E.Cn (ae:="i") (bx:="n") (ac:=.int 0) (al:=.int (cc d).length) (R.tuple (W.cons R.bK (W.cons (R.jH (ds:=[_]) (H.eZ V rfl (by room) (f D) V rfl rfl (f D)) (W.cons (R.K 2 V) W.nil V) (bO.sP (ae:=aB<|cc d) (by rw[gB];show bj [↑(cc d).length] [.j A<| .O 100000] 0 (.e A) (.O 9223372036854775808) D (dH.mpr I:))) V c V) W.nil V) V)<|du D) (.inl V) (.inl V) V rfl) ?_;mexact N.dW (eI:=("i",.int ((cc ([]:List ed)).length:Nat))::d0 k l h (cc d)) (aN.cons (by show(("i":v),i.int 0)∈_;show bo 0 V)<|aN.cI [4,5,6,3,2,1] rfl) ?_;mexact N.u7 (λΓ own=>aN Γ (("i",.int ((cc d).length:Nat))::d0 k l h (cc d))/\own=(E4 k l d h)) (E.u6 (ce:=E3 (cc d) d h k l) d.length #[[],d,V,V,aN.bf _,V] ?_) ?_
 .rintro Sf q Γ own F ⟨done,m,o,rfl,p,rfl⟩;show#[decide (((cc done).length:Int)<((cc d).length:Int)),a1.bL (R.name (p _<|bo 0 V) (f D)<|f D) (R.name (p _<|bo 6 V) (f D)<|f D) ax.lt c,λx=>?_,λx=>?_]
  .have Sf:=f x;cases m with
   |nil=>rw[fk]at o;subst o;(exfalso;show oP [.aL y y] D<|el.mp<|f x)
   |cons it m=>
    subst o;mexact N.dW (Y:=#[U,n+1,e2 U u,q,Γ,OI k l done h]) p ?_;mexact N.dQ (OE H L n u _ q F w M done m it (P _<|by simp) I (by simp at Q;show a6 (oU _ _) ‹_›) h Z k l (λG B=>rU (λw=>False) (λw w=>False) G B)) λG B r=>?_;cases G with
    |next=>
     obtain⟨Si,w,Sj,rfl,s⟩:=r;show#[Si,_,_,Sj,#[m.length,fy _,done++[it],m,by simp,V,aN.bf _,V],s]
    |brk=>show r.elim|cont=>show r.elim|ret w=>show r.elim
  .have K:=of_decide_eq_false x;mexact N.nil λB s=>?_;obtain rfl:m=[]:=by
    cases m with
    |nil=>rfl|cons it m=>
     subst o;rw[zM]at K;exfalso;apply K;simp[cc];show el.mpr<|bd [.aL (.O 0) C] 0 (.e y) (.S y<| .S C t) D<|E2 it
   rw[fk]at o;subst o;show#[q,Γ,_,F,#[p,V],s]
 .intro q Γ own F m;show kK m λp=>?_;mexact N.dW (Y:=#[U,n+1,e2 U u,q,Γ,E4 k l d h]) p ?_;mexact N.br (E.uG<|a1.bL (b:=z) (R.K 0 V) (R.K 6 V) (ax.of_eq ax.eq<|beq_self_eq_true _) c) ?_;mexact N.E1 (ac:=k) (bF:=(dw d).map<|c5 h) (bi:=[(64,.tab cu)]) (bo 4 V) (g ap) Sh (zv [(l,i.aG (e1 "list.append" k)),(k,.list ((dw d).map<|c5 h))] [(64,.tab cu)]) (λB s m=>?_) (λh d=>c9 d) #[V,V] (f D)<|f D;have:=(gq.mp s.dt).2;show(gq.mp this).1 _ (vV _) (by simpa[aI]using m)
def vY (e:aR U)(j:di U.B 68 64){b:be}{d:aP}{n:Nat}{keep:aE}(k:b.d=U)(l:b.O=n+2)(m:d.bZ=z)(a:List ed)(o:∀it∈a,it.ok=z)(p:(cc a).length<=100000)(q:a.length<=90000)(c:i)(r:nj c)(s:b.G.Perm ([(64,.tab cu)]++keep)):
 dY b d (.ref 69) [.str<|aB<|cc a,c,.str<|aB [46]] (λf g h=>g=[(64,.tab cu)]++keep/\h=.list ((dw a).map<|c5 c)):=by
 subst k;show(nD e).mr (n:=n+1) (ai:=[(64,.tab cu)]) (keep:=keep) l V s (λk f h0=>OJ e j n k f #[h0,b.X,ah,d.bZ] m a o p q c r) λg h l=>ao l λa b=>#[by show aJ a V,b]
end
end
def E5:mroOf (.type "object")=pure [.type "object"]:=by rw[mroOf_type];room
def OK:lz (.type "object") "__new__"=pure (J<| .builtin "object.__new__"):=by rw[kd];mspec ke;room
def OL:TypeCalled "object" "object.__new__" "object.__init__":=
 #[by decide+kernel,by decide+kernel,(dN _ _ E5),madeBy_type E5 OK (by decide+kernel),by decide+kernel,by rw[lF];room,PySem.F.slot_object_init]
def OM:checkTypeCall "object" #[[],[]]=pure ():=by room
def ON:checkBuiltinCall "object.__new__" #[[.type "object"],[]]=pure ():=by room
def OO:Bind.madeHere "object.__new__" (.type "object")=pure ():=by room
def OP:oc (Builtin.«object.__new__» #[[.type "object"],[]]) (λc b a=>b (.ok<| .ret<| .ref a.heap.objs.size) {a with heap:=a.heap.push {cls:=.type "object",dict:=ah,data:=.plain}}):=
 uD λd e f b a c=>by
  have a:=OO;unfold Builtin.«object.__new__»
  wp_walk
  show av _ V c
def OQ (c:T):oc (Builtin.«object.__init__» #[[.ref c],[]]) (λd a b=>a (.ok<| .ret .none) b):=uD λd e f a b c=>bc<|av _ V c
section
variable {Y:be}{H:aP}
def aU.OR (e:R Y (.Name k m) (.val<| .type "object"))
 (f:eval (.Call (.Name k m) [] [] pos) Y.I=(do dP pos (<-eval (.Name k m) Y.I) [] (cY pos<|bh [] Y.I) (jI pos<|jJ [] Y.I))):
 aU Y H (.Call (.Name k m) [] [] pos) (λg h i=>g=Y.X/\h=Y.G/\∃o,i=.val (.ref o)):=.mk λg b k h i d j=>
 jb (e.go g b _ h i.todA d.tocV λk a l n p=>by
  obtain rfl:=p.is;have g:=d.keep n;show callWith_type0<|callType_meets (Q₁:=λd e=>d=.ref a.objs.size/\e={({b with heap:=a,toks:=l}:aS)with heap:=a.push {cls:=.type "object",dict:=ah,data:=.plain}}) OL OM ON PySem.F.entry_object_new PySem.F.entry_object_init OP #[V,V] ?_;intro d e a;show j4 a ?_;show#[(av _ (dM _ c) V),PySem.F.args_object_init_1 _,_,OQ _,V,?_];show j _ _ .up #[Y.X,Y.G,_,#[V,V,_,V],λb a=>a,g.keep<|Q.push _ _,.val _]) f
end
section
variable {U:aW}
def zN (b:aR U):eB U 50 (bk 50<|a U) ["pat"] (cf 50<|a U):=
 b.fn V rfl D V rfl (kY λd=>by room)
  (fi V hc) (by decide) (show([]:h).Nodup by decide) c c V
def OS (d:aR U)(h:di U.B 68 64)(n:Nat)(i:T)(X:aZ)(e:aP)(j:e.bZ=z)(b:List ed)(k:∀it∈b,it.ok=z)(l:(cc b).length<=100000)(t:b.length<=1000)(m:apart (dw b)=z)(q:gb (dw b)<=100000):
 N e #[U,n+2,bV (bk 50<|a U) i 50,X,[("pat",.str (aB<|cc b))],[(64,.tab cu)]] (cf 50<|a U) (et U e [(64,.tab cu)] λr f=>r=[(64,.tab cu)]/\f=.str (f9<|dw b)):=by
 mexact N.kj (aU.OR (d.eZ V rfl (by room) (by decide) V rfl rfl (by decide)) V) (.inl V) V ?_;intro e i f g;show AY g λs i=>?_;show p i λo r=>?_;show bw r ?_;intro _;obtain rfl:X=e:=s.symm;mexact N.kj (aU.g4 (ds:=[.str<|aB<|cc b,.val<| .ref o,.str<|aB [46]]) (d.eW V (by room) V rfl (by decide)) (nD d).at_.choose_spec.1 (nD d).at_.choose_spec.2 (W.cons (R.K 1 V) (W.cons (R.K 0 V) (W.cons (R.of_eq R.cy<|by room) W.nil V) V) V) (vY d h V rfl j b k l (by show b1) (.val<| .ref o) (.obj o) (keep:=[]) (eJ _)) V c V) (.inl V) V ?_;intro e h f g;show j4 g ?_;intro _;show N.qE (R.g4 (ds:=[.list<|(dw b).map<|c5<| .val<| .ref o,.val<| .ref o]) (d.eW V (by room) V rfl (by decide)) (ss d).at_.choose_spec.1 (ss d).at_.choose_spec.2 (W.cons (R.K 0 V) (W.cons (R.K 1 V) W.nil V) V) (CU d (dw b) (.val<| .ref o) (.obj o) m q (by have:=vX b;show a6 ‹_› ‹_›)) V c V) V (Q.bf _) (λd b=>c9 b) (eJ _) #[V,V]
def OT (d:aR U)(h:di U.B 68 64){b:be}{c:aP}{n:Nat}{keep:aE}(i:b.d=U)(j:b.O=n+3)(k:c.bZ=z)(a:List ed)(l:∀it∈a,it.ok=z)(m:(cc a).length<=100000)(o:a.length<=1000)(p:apart (dw a)=z)(q:gb (dw a)<=100000)(r:b.G.Perm ([(64,.tab cu)]++keep)):
 dY b c (.ref 50) [.str<|aB<|cc a] (λe f g=>f=[(64,.tab cu)]++keep/\g=.str (f9<|dw a)):=by
 subst i;show(zN d).mr (n:=n+2) (ai:=[(64,.tab cu)]) (keep:=keep) j V r (λi e h0=>OS d h n i e #[h0,b.X,ah,c.bZ] k a l m o p q) λf g j=>ao j λa b=>#[by show aJ a V,b]
end
noncomputable def rc (r:ba->Int)(h4:Array Keyed)(L:Nat):Int:=r ((h4[L]?.map (·.1)).getD .none)
structure vZ (cZ:i5)(cl:hu)(aK:cW)(aa:aS)(fY:Array Keyed)(r:ba->Int):Prop where
 lt:∀(bv:bY)(ae bx:Keyed)(bM:Bool->aS->Prop),ae∈fY.toList->bx∈fY.toList->bM (decide (r ae.1<r bx.1)) aa->au (b2 cZ cl) aK (oneLt' z ae.1 bx.1) bM bv aa
 bA:(fY.toList.map λak=>r ak.1).Nodup
def E6 (r:ba->Int)(h4:Array Keyed)(am:Nat):Prop:=∀L cD,L<cD->cD<am->rc r h4 L<rc r h4 cD
noncomputable abbrev E7:=Nat->Nat->(Bool->aS->Prop)->aS->Prop
structure nE (gs:E7)(aa:aS)(bP:Nat)(bu:Nat->Int):Prop where
 ask:∀L cD U,L<bP->cD<bP->U (decide (bu L<bu cD)) aa->gs L cD U aa
 kO:∀L cD,L<bP->cD<bP->L≠cD->bu L≠bu cD
def gQ (bP:Nat)(ak:Array Nat):Prop:=ak.Perm<|zy<|jc bP
noncomputable def er (bu:Nat->Int)(ak:Array Nat)(L:Nat):Int:=bu<|ak.getD L 0
def j0 (bu:Nat->Int)(ak:Array Nat)(am:Nat):Prop:=∀L cD,L<cD->cD<am->er bu ak L<er bu ak cD
def pD (bu:Nat->Int)(ak:Array Nat)(am:Nat):Prop:=∀L cD,L<cD->cD<am->er bu ak cD<er bu ak L
def sW {a b:Nat}(c:k[a]?=m[b]?):er n k a=er n m b:=by
 unfold er;mspec rd;mspec rd;show aJ c V
def gQ.size (a:gQ k m):m.size=k:=a.size_eq.trans jQ
def gQ.lt (b:gQ k m){a:Nat}(d:a<k):m.getD a 0<k:=by
 have c:a<m.size:=b.size.symm▸d;mspec rd;mspec getElem?_pos _ a c;show iW.mp<|(v0.mp b).mem_iff.mp<|Array.getElem_mem_toList c
def gQ.inj (b:gQ o k)(c:n<m)(e:m<o):k.getD n 0≠k.getD m 0:=by
 have a:m<k.toList.length:=Dg e b.size.symm;have d:n<k.toList.length:=vL c a;have e:k.toList.Nodup:=(v0.mp b).nodup_iff.mpr OU;have b:=E8.mp e n m d a c;rwa[rd,rd,getElem?_pos k n d,getElem?_pos k m a]
section
variable {gs:E7}{aa:aS}{bP:Nat}{bu:Nat->Int}{ak:Array Nat}
def nE.at (h:nE gs aa bP bu)(c:gQ bP ak){i:Type}{d:i->aS->Prop}{e:Bool->KasT i}{a b:Nat}(f:a<bP)(g:b<bP)(n:a<b\/b<a)
 (j:er bu ak a<er bu ak b->(e z).kasWp gs d aa) (k:er bu ak b<er bu ak a->(e aj).kasWp gs d aa):(KasT.ask (ak.getD a 0) (ak.getD b 0) e).kasWp gs d aa:=by
 show h.ask _ _ _ (c.lt f) (c.lt g) ?_;by_cases d:er bu ak a<er bu ak b
 .show(decide_eq_true d).symm▸j d
 .show(decide_eq_false d).symm▸k ((sX<|h.kO _ _ (c.lt f) (c.lt g)<|n.elim (λn=>c.inj n g) λn=>(c.inj n f).symm).resolve_left d)
def j0.snoc (d:j0 bu ak (k+1))(e:er bu ak k<er bu ak (k+1)):j0 bu ak (k+2):=λb c f g=>
 (v4.mp g).elim (λa=>d b c f a) λa=>a▸(v4.mp (a▸f:b<k+1)).elim (λc=>v5 (d b k c<|fy k) e) λc=>c▸e
def pD.snoc (d:pD bu ak (k+1))(e:er bu ak (k+1)<er bu ak k):pD bu ak (k+2):=λb c f g=>
 (v4.mp g).elim (λa=>d b c f a) λa=>a▸(v4.mp (a▸f:b<k+1)).elim (λc=>v5 e<|d b k c<|fy k) λc=>c▸e
def E9 (h:nE gs aa bP bu)(i:gQ bP ak){f:Nat->aS->Prop}(g:∀b,b+1<=bP->j0 bu ak (b+1)->(b+1=bP\/er bu ak (b+1)<er bu ak b)->f (b+1) aa)(c:Nat):∀n,n+1+c=bP->j0 bu ak (n+1)->(kas_asc ak c<|n+1).kasWp gs f aa:=by
 induction c with
 |zero=>show λn a d=>g _ (aA a) d<| .inl a
 |succ c k=>show λn a d=>h.at i (by show bd [.j (.S (.e y)<| .e t) C] 0 (.e<| .e y) C V<|aA a) (show n+1 - 1<bP by show c7 [.j (.S (.e t)<| .e aV) C,.j y<| .e t] 0 (.e y) C V (aA a)<|fC (n+1) 1) (.inr<|fy n) (λb=>g n (by show bd [.j (.S (.e y)<| .e t) C] 0 (.e y) C V<|aA a) d<| .inr b) λb=>k (n+1) (by show c1 (bd [.j (.S (.e y)<| .e C) t] 0 (.S (.e<| .e y) C) t V<|aA a)<|bd [.j y<| .S (.e C)<| .e t] 0 y (.S (.e<| .e C) t) V<|aA (a).symm)<|d.snoc b
def OV (f:nE gs aa bP bu)(g:gQ bP ak)(h:∀d,d+1<=bP->pD bu ak (d+1)->k (ak,d+1,0) aa)(b:Nat):∀n,n+1+b=bP->pD bu ak (n+1)->(kas_desc b ak (n+1) 0).kasWp gs k aa:=by
 induction b with
 |zero=>show λn a c=>h _ (aA a) c|succ b i=>
  show λn a c=>f.at g (by show bd [.j (.S (.e y)<| .e t) C] 0 (.e<| .e y) C D<|aA a) (by show c7 [.j (.S (.e t)<| .e aV) C,.j y<| .e t] 0 (.e y) C D (aA a) (fC (n+1) 1):n+1 - 1<bP) (.inr<|fy n) (λb=>i (n+1) (by show c1 (bd [.j (.S (.e y)<| .e C) t] 0 (.S (.e<| .e y) C) t D<|aA a)<|bd [.j y<| .S (.e C)<| .e t] 0 y (.S (.e<| .e C) t) D<|aA (a).symm)<|c.snoc b) λb=>
   f.at g (by show c7 [.j (.S (.e t)<| .e aV) C,.j y<| .e t] 0 (.e y) C D (aA a) (fC (n+1) 1):n+1 - 1<bP) (by show bd [.j (.S (.e y)<| .e t) C] 0 (.e<| .e y) C D<|aA a) (.inl<|fy n) (λd=>h n (by show bd [.j (.S (.e y)<| .e t) C] 0 (.e y) C D<|aA a) c) λd=>(Int.lt_asymm d b).elim
def gQ.v6 (a:gQ bP ak)(b c:Nat):gQ bP (kas_rev ak b c):=(mirror_perm _ _ _ _).trans a
def Fa (e:gQ bP ak){a:Nat}(f:a<=bP)(b:Nat):er bu (kas_rev ak 0 a) b=if b<a then er bu ak (a - 1 - b)else er bu ak b:=by
 have c:=getElem?_mirror_all (xs:=ak) (i:=0) (j:=a) (e.size.symm▸f) b;by_cases d:b<a
 .rw[if_pos #[ey _,d],rz]at c;mspec if_pos d;show sW c
 .rw[if_neg λa=>d a.2]at c;mspec if_neg d;show sW c
def pD.v6 (b:gQ bP ak)(c:k<=bP)(g:pD bu ak k):j0 bu (kas_rev ak 0 k) k:=λd h f a=>by
 rw[Fa b c,Fa b c];mspec if_pos a;mspec if_pos<|vL f a;show g _ _ (by show jB [.aL t aV,.j dx<| .S C t,.j (.S y aV) dx] 0 (.e y) C D f (e0<|cg<|k - 1 - d)<|aA<|fa (n:=k - 1) (m:=h)<|bd [.aL y t,.j t<| .e C] 0 y C D a<|e0<|cg<|k - 1) (by show bd [.j y t,.aL t C] 0 (.e y) C D (fC (k - 1) d)<|aA<|fa (n:=k) (m:=1)<|b9 [.aL C y] 0 (.O 1) y D a)
def sY {a2:KasT m}{a:n->aS->Prop}(b:a2.kasWp gs (λc d=>(k c).kasWp gs a d) aa):(a2.bind k).kasWp gs a aa:=(KasT.kasWp_bind a2 aa).mpr b
def v7 [Decidable k]{a b:KasT n}(c:k->a.kasWp gs m aa)(d:¬k->b.kasWp gs m aa):(if k then a else b).kasWp gs m aa:=by
 by_cases a:k
 .show(if_pos a).symm▸c a
 .show(if_neg a).symm▸d a
def OW (d:nE gs aa bP bu)(a:gQ bP ak)(h:2<=bP){l:Nat×Array Nat->aS->Prop}(i:∀n k,gQ bP k->n+1<=bP->j0 bu k (n+1)->l (n+1,k) aa):(kas_count bP ak).kasWp gs l aa:=by
 show sY (a2:=kas_asc ak (bP - 1) 1) (E9 d a (λn k b r=>?_) (bP - 1) 0 (by show c1 (b9 [.aL y C] 0 (.S (.e<| .O 0) y) C D<|aA<|fa (n:=bP) (m:=1)<|dL [.j (.O 2) y] 1 (.O 1) y D h)<|b9 [.j y<| .e C] 0 y (.S (.e<| .O 0) C) D<|e0<|cg<|bP - 1) λo p f g=>by show(pX [.aL y C,.aL C<| .e<| .O 0] D f g).elim);show v7 (λq=>i n ak a k b) λs=>v7 (λc=>?_) λc=>?_
 .show d.at a (by show dL [.j (.O 2) y] 1 (.e<| .O 0) y D h) k (.inl<|lr c) (λq=>i _ ak a k b) λl=>(Int.lt_asymm l<|b 0 n (lr c)<|fy _).elim
 .obtain rfl:n=0:=by show c1 (dL [.aL y<| .O 1] 0 y (.O 0) D<|g7.mp c)<|dL [] 0 (.O 0) y D
  show sY (a2:=kas_desc (bP - 2) ak 2 0) (OV d a (λc k l=>sY (a2:=kas_asc (kas_rev ak 0<|c+1) (bP - (c+1))<|c+1)<|E9 d (a.v6 0 _) (λt u b q=>i t _ (a.v6 0 _) u b) (bP - (c+1)) c (by omega)<|l.v6 a k) (bP - 2) 1 (by show c1 (b9 [.j (.S y<| .O 2) C] 0 (.S (.e<| .O 1) y) C D<|aA<|fa (n:=bP) (m:=2)<|dL [.j (.O 2) y] 0 (.O 2) y D h)<|b9 [.j y<| .S C<| .O 2] 0 y (.S (.e<| .O 1) C) D<|e0<|cg<|bP - 2) λo p f g=>?_);have a:o=0:=by show c1 (b9 [.aL y C,.aL C<| .e<| .O 1] 0 y (.O 0) D f g)<|dL [] 0 (.O 0) y D
  have b:p=1:=by show c1 (dL [.aL y<| .e<| .O 1] 0 y (.O 1) D g)<|b9 [.aL C y] 0 (.O 1) y D f
  show a▸b▸r.resolve_left λc=>s<|beq_iff_eq.mpr c
def zO (bu:Nat->Int)(ak:Array Nat)(am ag:Nat):Prop:=(∀L,L<ag->er bu ak L<er bu ak am)/\∀L,ag<=L->L<am->er bu ak am<er bu ak L
def OX (x:nE gs aa bP bu)(A:gQ bP ak){g:Nat}(q:g<bP)(r:j0 bu ak g){s:Nat->aS->Prop}(u:∀a,a<=g->zO bu ak g a->s a aa)(k:Nat):
 ∀a f,f<=g->f<=a+k->a<=f->(∀c,c<a->er bu ak c<er bu ak g)->(∀c,f<=c->c<g->er bu ak g<er bu ak c)->(kas_place ak g k a f).kasWp gs s aa:=by
 induction k with
 |zero=>show λa f h l m n o=>u a (a6 m h) #[n,λc b=>o c<|a6 l b]
 |succ k v=>
  show λa f h l m n o=>v7 (λg=>u a (a6 m h) #[n,λc b=>o c<|a6 g b]) λg=>?_;have p:a<=(a+f)/2:=(Nat.le_div_iff_mul_le Nat.two_pos).mpr (by show b9 [.j y C] 0 (.w y 2) (.S y C) D m);have i:(a+f)/2<f:=Nat.div_lt_of_lt_mul (by show b9 [.aL y C] 0 (.e<| .S y C) (.cT 2 C) D<|Nat.not_le.mp g);generalize(a+f)/2=d at p i;show x.at A q (by show c7 [.aL t C,.j aV t,.aL y aV] 0 (.e y) C D q h i) (.inr<|by show bd [.j t C,.aL y t] 0 (.e y) C D h i) (λg=>v a d (by show bd [.j t C,.aL y t] 0 y C D h i) (by show c7 [.j aV<| .S C<| .e t,.aL y aV] 0 y (.S C t) D l i) p n λc b k=>?_) λg=>v (d+1) f h (by show c7 [.j y<| .S aV<| .e t,.j aV C] 0 y (.S (.e C) t) D l p) i (λc b=>?_) o
  .show(Fb b).elim (λb=>b▸g) λb=>v5 g<|r d c b k
  .show(v4.mp b).elim (λb=>v5 (r c d b<|by show bd [.j t C,.aL y t] 0 (.e y) C D h i) g) λb=>b▸g
def sZ {a b c d:Int}(e:a=c)(f:b=d)(g:c<d):a<b:=e▸f▸g
def zO.bubble (l:gQ bP ak){c d:Nat}(s:c<bP)(q:d<=c)(n:j0 bu ak c)(r:zO bu ak c d):j0 bu (bubble ak c<|c - d) (c+1):=by
 have o:∀a,(v8 ak c<|c - d)[a]?=if a=d then ak[c]? else if d<a/\a<=c then ak[a - 1]? else ak[a]?:=λa=>by
  have h:=getElem?_bubble (xs:=ak) (src:=c) (Dg s l.size.symm) (c - d) (fC _ _) a;rwa[Nat.sub_sub_self q]at h
 have k:∀a,a<d->er bu (v8 ak c<|c - d) a=er bu ak a:=λa l=>sW<|(o a).trans<|(if_neg<|g6 l).trans<|if_neg λh=>Nat.lt_asymm l h.1;have p:er bu (v8 ak c<|c - d) d=er bu ak c:=sW<|(o d).trans<|if_pos V;have m:∀a,d<=a->a<c->er bu (v8 ak c<|c - d) (a+1)=er bu ak a:=λa l s=>sW<|(o<|a+1).trans<|(if_neg<|BU<|OY l).trans<|if_pos #[OY l,s];generalize v8 ak c (c - d)=b at k p m;intro a f i j;show(r7 a d).elim (λg=>?_) λg=>?_
 .show(r7 f d).elim (λe=>sZ (k a g) (k f e)<|n a f i<|nO e q) λe=>?_;show(Fb e).elim (λe=>sZ (k a g) (e▸p)<|r.1 a g) λe=>?_;cases f with
  |zero=>show(rC _ e).elim|succ f=>show sZ (k a g) (m f (v9 e)<|lr j)<|n a f (nO g<|v9 e)<|lr j
 .cases f with
  |zero=>show(rC _ i).elim|succ f=>
   have e:=m f (a6 g<|v9 i)<|lr j;show(Fb g).elim (λh=>sZ (h▸p) e<|r.2 f (a6 g<|v9 i)<|lr j) λh=>?_;cases a with
   |zero=>show(rC _ h).elim|succ a=>show sZ (m a (v9 h)<|vL (lr i)<|lr j) e<|n a f (lr i)<|lr j
def OZ (i:nE gs aa bP bu){h:Array Nat->aS->Prop}(k:∀g,gQ bP g->j0 bu g bP->h g aa)(d:Nat):∀(ak:Array Nat) a,gQ bP ak->a+d=bP->j0 bu ak a->(kas_bin d ak a).kasWp gs h aa:=by
 induction d with
 |zero=>show λak a c b f=>k ak c<|b▸f
 |succ d l=>
  show λak a c b f=>sY (a2:=kas_place ak a a 0 a) (OX i c (by show bd [.j (.S y<| .e t) C] 0 (.e y) C D<|aA b) f (λd g h=>l _ (a+1) ((bubble_perm _ _ _).trans c) (by show c1 (bd [.j (.S y<| .e C) t] 0 (.S (.e y) C) t D<|aA b)<|bd [.j y<| .S C<| .e t] 0 y (.S (.e C) t) D<|aA (b).symm)<|h.bubble c (by show bd [.j (.S y<| .e t) C] 0 (.e y) C D<|aA b) g f) a 0 a (cg a) (by show dL [] 0 y (.S (.O 0) y) D) (ey a) (λd i=>absurd i<|rC d) λd a b=>absurd b<|g7.mpr a)
def O0 (b:nE gs aa bP bu)(h:2<=bP){c:Array Nat->aS->Prop}(d:∀a,gQ bP a->j0 bu a bP->c a aa):(kas_sort bP).kasWp gs c aa:=
 sY (a2:=kas_count bP<|zy<|jc bP) (OW b (O1 _) h λn a c f g=>v7 (λh=>OZ b d _ a _ c (O2 (oO n)▸(by show c1 (bd [.j (.S C<| .e y) t] 0 (.S (.e y) C) t D<|aA<|fa (n:=bP) (m:=n.succ)<|b9 [.aL y C] 0 (.e y) C D f)<|bd [.j y<| .S t<| .e C] 0 y (.S (.e C) t) D<|e0<|cg<|bP - n.succ))<|O2 (oO n)▸g) λh=>d a c<|c1 f (g7.mp h)▸g)
end
section
variable {cZ:i5}{cl:hu}{aK:cW}{bv:bY}{aa:aS}{fY:Array Keyed}{r:ba->Int}
def vZ.O3 (f:vZ cZ cl aK aa fY r):nE (kas_cmp cZ cl aK zP fY) aa fY.size λa=>r (re fY a).1:=by
 have b:∀a(e:a<fY.size),re fY a=fY.toList[a]:=λa e=>by unfold re;mspec rd;mspec getElem?_pos _ a e;rfl
 show#[λa e h c d i=>f.lt _ _ _ h ?_ ?_ i,λa e c d n g=>?_]
 .show b a c▸ox _
 .show b e d▸ox _
 .rw[b a c,b e d]at g;show n ((List.getElem_inj (h₀:=by simpa using c) (h₁:=by simpa using d) f.bA).mp<|by simpa using g)
def O4 (m:vZ cZ cl aK aa fY r)(i:2<=fY.size)(n:fY.size<64)
 (o:∀b,(jv b).Perm fY->failedOf b=ah->E6 r (jv b) fY.size->k ((),b) aa):au (b2 cZ cl) aK (StateT.run sortRuns'<|Fc zP fY (aRR []) 7 ah) k bv aa:=by
 have f:=kas_runs (E:=bv) (it:=fY) (κ:=zP) (prog:=cZ) (w:=cl) (A:=aK) (Q:=λc b d=>k (c,b) d) (G:=λg d=>d=aa/\gQ fY.size g/\j0 (λa=>r (re fY a).1) g fY.size) i n (λe b d p j q s=>?_)<|O0 m.O3 i λg h c=>cH V h c
 .unfold kas_st at f;rw[kas_range]at f;show f
 .show eP s λh c=>?_;have l:∀a,a<fY.size->rc r (jv b) a=er (λa=>r (re fY a).1) e a:=λa d=>by
   have f:a<e.size:=p.symm▸d;unfold rc er;mspec j;mspec Array.getElem?_map;mspec rd;mspec getElem?_pos e a f;rfl
  have t:(e.map<|re fY).Perm fY:=v0.mpr (by
   have:=(v0.mp h).map<|re fY;rwa[<-Fd,<-Fd,kas_range]at this)
  show o b (j▸t) q λa e f d=>by mspec l a<|vL f d;mspec l e d;show c a e f d
end
section
open AutoSeq1 (wpAny_loadPart')
open MeetsSeq3
noncomputable abbrev eV (aH ae:Int)(a2 a9:fh)(n:Nat):eg:={cls:=.type "list",dict:=ah,data:=.seq (aRR [.int aH a2,.int ae a9]) n}
section
variable {ag al:T}{aH ae j1 ky:Int}{a2 a9 s0 pE:fh}{n s1:Nat}
def Fe (c:k (.bool<|decide (ae<ky)) m):au (b2 o r) w (richCompare .Lt (.int ae a9)<| .int ky pE) k x m:=
 PySem.P.lt_int (a:=ae) (b:=ky) (t:=a9) (u:=pE) c
def O5:oc (Builtin.«list.__eq__.loop» #[[.ref ag,.ref al,d4 2,d4 0],[]]) (λd c a=>a.heap.get? ag=J (eV aH ae a2 a9 n)/\a.heap.get? al=J (eV j1 ky s0 pE s1)/\c (.ok<| .ret<| .bool aj) a):=by
 intro g h d c a b;obtain⟨c,d,g,h,i⟩:=a;obtain⟨e,f,b⟩:=b
 wp_walk using wpAny_loadPart' e,wpAny_loadPart' f
 show b
def O6:oc (Builtin.«list.__eq__.loop» #[[.ref ag,.ref al,d4 1,d4 0],[]]) (λf c a=>a.heap.get? ag=J (eV aH ae a2 a9 n)/\a.heap.get? al=J (eV j1 ky s0 pE s1)/\c (.ok<| .ret<| .bool<|decide (ae<ky)) a):=by
 intro h i f c a b;obtain⟨j,k,l,m,o⟩:=a;obtain⟨d,e,b⟩:=b
 wp_walk using wpAny_loadPart' d,wpAny_loadPart' e
 show wpAny_eqBool_int ?_;by_cases g:ae=ky
 .subst g;mspec if_pos (by simp)
  wp_walk
  show#[uF s2 _,pc Ff ?_];mspec zh s2 _;show O5 h i f c _ (cH d e<|by simpa using b)
 .mspec if_neg (by simpa using g);show ar<|s3 d V<|ar<|s3 e V ?_;show ar<|Fe<|bc ?_;show b
def O7:oc (Builtin.«list.__eq__.loop» #[[.ref ag,.ref al,d4 0,d4 0],[]]) (λg c a=>a.heap.get? ag=J (eV aH ae a2 a9 n)/\a.heap.get? al=J (eV j1 ky s0 pE s1)/\c (.ok<| .ret<| .bool<|decide (aH<j1\/(aH=j1/\ae<ky))) a):=by
 intro h i g c a b;obtain⟨j,k,l,m,o⟩:=a;obtain⟨d,e,b⟩:=b
 wp_walk using wpAny_loadPart' d,wpAny_loadPart' e
 show wpAny_eqBool_int ?_;by_cases f:aH=j1
 .subst f;mspec if_pos (by simp)
  wp_walk
  show#[uF s2 _,pc Ff ?_];mspec zh s2 _;show O6 h i g c _ (cH d e<|by simpa using b)
 .mspec if_neg (by simpa using f);show ar<|s3 d V<|ar<|s3 e V ?_;show ar<|Fe<|bc ?_;simpa[f]using b
def O8:oc (Builtin.«list.__lt__» #[[.ref ag,.ref al],[]]) (λd b a=>a.heap.get? ag=J (eV aH ae a2 a9 n)/\a.heap.get? al=J (eV j1 ky s0 pE s1)/\b (.ok<| .ret<| .bool<|decide (aH<j1\/(aH=j1/\ae<ky))) a):=by
 intro g h d b a c;obtain⟨i,j,k,l,m⟩:=a;obtain⟨e,f,c⟩:=c;have a:=AutoSeq1.sub_list_list
 wp_walk using wpAny_loadPart' e,wpAny_loadPart' f
 show#[uF s2 _,pc Ff ?_];mspec zh s2 _;show O7 g h d b _<|cH e f c
def O9 (b:m.units<nS)(a:k.heap.get? ag=J (eV aH ae a2 a9 n))(c:k.heap.get? al=J (eV j1 ky s0 pE s1))(d:o (decide (aH<j1\/(aH=j1/\ae<ky))) k):au (b2 r w) m (oneLt' z (.ref ag)<| .ref al) o x k:=by
 show au _ _ (cRoomFor "comparison" [.ref ag,.ref al] >>= _) _ _ _;show ar<|wpAny_cRoomFor b<|ar<|wpAny_callSpecialIfBound?_slot (T:="list") (av _ a V) Pa<|xP Pa (av _ a V) PySem.F.entry_list_lt (PySem.F.args_list_lt_2 _ _) O8<|cH a c ?_;show ma d
end
end
section
open PySem.Builtin PySem.Builtin.List
def Pb (a c:T):Builtin.«list.sort» #[[.ref a],[(js "key",.ref c)]]=(do
 let k <-listItems (.ref a)
 s4 (.ref a) λb=>(aRR [])
 let w <-seqEpoch a;let x <-sx k.toList;let m <-uc []
 e7 [x,m] do
  rule "list.sort.key"
  for B in k do
   match <-(dV (.ref c) [B]).attempt with
   | .ok M=>s4 m (·.push M)| .error n=>
    rule "list.sort.key-raised"
    let Sf <-listItems m
    s4 m λb=>(aRR [])
    letGo Sf.toList.reverse [n]
    s4 (.ref a) λb=>k;throw n
  let r <-listItems m;let Sg <-if k.size<2 then pure general' else keyKind' r
  let((),o) <-(if k.size<2 then pure ()else sortRuns').run (Fc Sg (r.zip k) (aRR []) 7 ah);let d:=(jv o).map (·.2)
  s4 m λb=>(aRR [])
  letGo ((jv o).map (·.1)).toList (failedOf o).toList
  let Sh:=(<-seqEpoch a)!=w
  s4 (.ref a) λb=>d
  if let J n:=failedOf o then rule "list.sort.comparison-raised";throw n
  if Sh then rule "list.sort.modified";raiseError "ValueError" "list modified during sort"
  ret .none):=rfl
def Pc (a b:ba):nb "list.sort" #[[a],[(js "key",b)]]:=by unfold nb;room
structure Pd (an:aX)(aT:T)(a8:iG)(ae:v)(body:c6):Prop where
 at_:∃o,an.get? aT=J o/\o.data=.func a8
 m6:an.CodeRec a8.code a8.qualname
 pa:a8.body=.expr body
 rW:∀aq,hE a8 #[[aq],[]]=pure [(ae,aq)]
 Fg:a8.scope.names.lookup ae=J .local
 yZ:∀ae∈a8.scope.names,ae.2≠ .cell
 fm:a8.scope.isCoroutine=aj
 bZ:a8.scope.isGenerator=aj
 kind:a8.scope.kind=.function
def Pe (a:Pd k.heap m a8 ae body)(B:U.B.NoLimit)(u:dA M (n+1))
 (v:Q (l k.heap X) U.B) (w:∀e∈X,∃o,k.heap.get? e=J o) (C:hY U a8 k.heap (l k.heap X) Γ) (D:bb U (l k.heap X) r af) (E:∀F H,R #[U,n,eE a8 F m,H,(ae,af)::Γ,[]] body ez)
 (c:∀i h' q,Q h' k.heap->bb U (l h' X) i ez->Sf i {k with heap:=h',toks:=q}):au U.M M (dV (.ref m) [r]) Sf Sg k:=by
 show aY a.at_ λo F hd=>?_;show hS<|kla_callFunE u.w6 F hd a.fm a.bZ a.pa a.m6 ?_;rw[a.rW];show bc (Lm a.yZ (λF I=>by cases bX I;show a.Fg) (λs x F=>?_) a.kind);have f:Q s k.heap:=λH o d=>F.extBut H o (g6<|gk d)<|gj _ d;show#[(B.keeps<|v.trans l.of).keeps f,kla_codeExpr ?_];have y:k.heap.get? k.heap.objs.size=ah:=d3;have B:k.heap.objs.size∉X:=λb=>by show p (w _ b) λo c=>?_;replace c:=y▸c;cases c
 have t:Q (l s<|k.heap.objs.size::X) (l k.heap X):=λe o c=>by
  have j:=l.of _ _ c;show cb _ (f e o j) λb=>?_;show ay (a5 b) (λK=>?_) λb=>?_
  .obtain rfl:=K;replace j:=y▸j;cases j
  .replace c:=(cU _ b)▸c;cases c
 have L:(eE a8 k.heap.objs.size m).kindOf ae=J .local:=a.Fg;have N:cV #[U,n,eE a8 k.heap.objs.size m,k.heap.objs.size::X,(ae,af)::Γ,[]] s:=
  {base:=v.trans t
   cw:=λe b=>by
    rcases a5 b with rfl|b
    .show eY x λo j j d j=>?_;show dn o d
    .show p (w e b) λo d=>?_;show dn o (f _ _ d)
   d8:=λA h=>by
    rcases a5 h with rfl|h
    .show av r (.inl #[L,_,x,by simp])<|D.keep t
    .show l5 (C A h) λj r m s v w=>?_;show aY v λo d hd=>?_;show av r (.inr #[j,.inr m,s,o,f _ _ d,hd]) (w.keep t)
   G:=λA h=>nomatch h
   kind:=a.kind}
 show(E k.heap.objs.size<|k.heap.objs.size::X).go _ _ _ _ (u.rE V rfl rfl (cg _)) N λi h' q a d=>?_;show c i h' q (f.trans a)<|d.keep<|l.sub λe b=>g b
theorem zQ {i d:Type}{j:p1}{k:cW}{l:bY}{e:aS}{m:i->ia d}{b:d}:∀(c:List i){a:List d->aS->Prop},(∀f∈c,∀(a:d->aS->Prop),a b e->au j k (m f) a l e)->a (c.map λo=>b) e->au j k (c.mapM m) a l e
 |[],a,_,h=>by rw[List.mapM_nil];show bc h|f::c,a,n,h=>by
  mspec wa;show ar<|n f ap _<|ar<|zQ c (λa d=>n a<|g d)<|bc h
def Pf (h:n≠[])(g:∀c∈n,m.TypeIs c "list")(d:k zP m):au o r (keyKind' n.toArray) k w m:=by
 obtain⟨c,e,rfl⟩:=List.exists_cons_of_ne_nil h;rw[keyKind'_eq];mspec Pg;have h:∀a∈c::e,∀(k:Option ba->aS->Prop),k ah m->au o r (firstOfTuple' a) k w m:=λa f k d=>by
  show ar<|DQ (g a f) ?_;mspec if_pos (by decide);show bc d
 rw[map_eq_pure_bind];show ar<|ar<|zQ _ h<|bc ?_;mspec if_neg (by simp);mspec if_neg (by simp);rw[oneTypeOnly'_eq];mspec Pg;rw[map_eq_pure_bind];show ar<|ar<|ar<|zQ (b:=ob "list") _ (λa f k d=>DQ (g a f) d)<|bc ?_;have i:((yJ (λj=>ob "list")<|c::e).toArray.all λa=>a==ob "list")=z:=by
  simp only[List.all_toArray,List.all_map,yC];intro _ _;rfl
 mspec(show(yJ (λj=>ob "list")<|c::e).toArray[0]?=J (ob "list")from by simp);dsimp only;mspec i;show bc<|bc d
end
section
open PySem.Builtin PySem.Builtin.List
noncomputable abbrev eU (a:Int×fh):ba:=.int a.1 a.2
noncomputable def Fh (aq:ba):Int:=Ph aq 0 0 0 (λa=>0) (λL a=>L) (λa a=>0) (λa a=>0) (λa a=>0) (λa=>0) (λa=>0) λa=>0
noncomputable def rf (an:aX)(aq:ba):Int:=Ph aq 0 0 0 (λa=>0) (λa a=>0) (λa a=>0) (λa a=>0) (λa a=>0) (λa=>0) (λa=>0) λag=>
 Option.rec 0 (λo=>Data.casesOn o.data 0 (λa=>0) (λa3 a=>1000*Fh (a3.getD 0 .none)+Fh (a3.getD 1 .none)) (λa a=>0) (λa a a=>0) (λa a=>0) (λa=>0) (λa=>0) (λa=>0) (λa=>0) 0) (an.get? ag)
def wb (a:k.get? m=J (eV o r w x n)):rf k (.ref m)=1000*o+r:=by
 delta rf;dsimp only;mspec a;rfl
inductive hO (aH:Int->Int)(an:aX)(ac fG:T):List (Int×fh)->cv->Prop
 |nil:hO aH an ac fG [] []|cons {a dk ag oL a2 a9 n}:an.get? ag=J (eV (aH a.1) a.1 a2 a9 n)->ag≠ac->ag≠fG->hO aH an ac fG dk oL->hO aH an ac fG (a::dk) (.ref ag::oL)
section
variable {aH:Int->Int}{an h':aX}{ac fG:T}{dk:List (Int×fh)}{jw:cv}
def hO.keep (c:cO [ac,fG] an h')(d:hO aH an ac fG dk jw):hO aH h' ac fG dk jw:=by
 induction d with
 |nil=>show .nil|cons e a b _ f=>show .cons (c _ _ (by simp[a,b]) e) a b f
def hO.snoc {a:T}{b c:fh}{n:Nat}(d:hO aH an ac fG dk jw)(e:an.get? a=J (eV (aH k.1) k.1 b c n))(f:a≠ac)(g:a≠fG):hO aH an ac fG (dk++[k]) (jw++[.ref a]):=by
 induction d with
 |nil=>show .cons e f g .nil|cons h i j _ l=>show .cons h i j l
def hO.len (a:hO aH an ac fG dk jw):jw.length=dk.length:=by
 induction a with
 |nil=>rfl|cons _ _ _ _ b=>simp[b]
def hO.Pi {c:aS}(d:c.heap=an)(e:hO aH an ac fG dk jw):∀b∈jw,c.TypeIs b "list":=by
 induction e with
 |nil=>intro b a;cases a
 |cons f _ _ _ g=>
  intro b a;show ay (a5 a) (λh=>?_) λa=>?_
  .obtain rfl:=h;show av _ (d▸f) V
  .show g b a
def hO.zip (h:hO aH an ac fG dk jw):∀c∈jw.zip (dk.map eU),∃b d e f n,b∈dk/\c=(.ref d,eU b)/\an.get? d=J (eV (aH b.1) b.1 e f n):=by
 induction h with
 |nil=>intro c a;cases a
 |@cons b dk d jw e f n i _ _ _ j=>
  intro c a;replace a:=b8▸a;replace a:=Fi▸a;rcases a5 a with rfl|a
  .show A4 b d e f n ap V i
  .show bC λd b=>?_;show hy (j c a) λe f h i k l=>?_;show cd l λa c j=>?_;show b ?_;clear b d;show A4 e f h i k (g a) c j
def hO.Pj (b:hO aH an ac fG dk jw):(jw.zip<|dk.map eU).map (λc=>rf an c.1)=dk.map λa=>1000*aH a.1+a.1:=by
 induction b with
 |nil=>rfl|cons d _ _ _ e=>rw[b8,Fi,b8,b8,wb d,e]
noncomputable def wc:ba->Int×fh
 | .int ae a2=>(ae,a2)|_=>(0,0)
def hO.items (a:hO aH an ac fG dk jw):(jw.zip<|dk.map eU).map (λb=>wc b.2)=dk:=by
 induction a with
 |nil=>rfl|cons a _ _ _ c=>rw[b8,Fi,b8,c];rfl
end
inductive zR (aH:Int->Int)(aa:aS)(ac fG:T)(a:Nat)(dk:List (Int×fh))(b:cv)(bS:aS):Prop
 |mk (done c:List (Int×fh)) (oL:cv) (h':aX) (d:fh) (am:Nat) (e:dk=done++c) (f:b=c.map eU) (g:bS={aa with heap:=h',toks:=d}) (aw:cO [ac] aa.heap h') (c:h'.get? ac=J (pF "list" (aRR []) a)) (e:h'.get? fG=J (pF "list" oL.toArray am)) (f:hO aH h' ac fG done oL):zR aH aa ac fG a dk b bS
def Pk {U:aW}{f SE:T}{a:List (Int×fh)}{aH:Int->Int}
 (Sg:k.heap.get? f=J (pF "list" (a.map eU).toArray Tg)) (M:a.length<=60) (SW:Sr.units<nS) (Ss:∀d∈a,0<=d.1/\d.1<1000) (SX:(a.map (·.1)).Nodup)
 (SY:∀(s:aS)(u:T)(d:Int×fh)(St:bY)(SF:bY),d∈a->cO [f] k.heap s.heap->(∃o,s.heap.get? f=J o)->k.heap.get? u=ah->(∃o,s.heap.get? u=J o)->
  (∀l h' I R W v,Q h' s.heap->h'.get? l=J (eV (aH d.1) d.1 R W v)->l≠u->l≠f->St (.ref l) {s with heap:=h',toks:=I})->au U.M Sr (dV (.ref SE) [eU d]) St SF s)
 (SZ:∀Su I(h:List (Int×fh)) v,cO [f] k.heap Su->Su.get? f=J (pF "list" (h.map eU).toArray v)->h.Perm a->h.Pairwise (λm w=>1000*aH m.1+m.1<1000*aH w.1+w.1)->SG (.done (.ret .none)) {k with heap:=Su,toks:=I}):
 au U.M Sr (Builtin.«list.sort» #[[.ref f],[(js "key",.ref SE)]]) SG Th k:=by
 have Su:(a.map eU).length=a.length:=a7 _;have Sl:(a.map eU).toArray.size=a.length:=by simp
 have Su:f<k.heap.objs.size:=gk Sg;rw[Pb];show ar<|s3 Sg V ?_;show ar (s5 Sg V ?_ (by mspec Sl;unfold aD;show b1)<|by simp);obtain⟨X,SH⟩:∃X,(k.heap.update f<|jo λF=>(aRR [])).get? f=J (pF "list" (aRR []) X):=#[_,Fj Sg<|λF=>(aRR [])];have S0:cO [f] k.heap (k.heap.update f<|jo λF=>(aRR [])):=λg o n b=>(ji ..).extBut g o (by simpa using n) b;have S1:(k.heap.update f<|jo λF=>(aRR [])).objs.size=k.heap.objs.size:=aX.size_update ..;generalize k.heap.update f (jo λF=>(aRR []))=h1 at*;show ar<|Fk SH V ?_;show ar (wpAny_newTuple ?_ (by simp;unfold aD;show b1));show ar (wpAny_newList ?_<|by simp);show g5<|ar<|r8 ?_;dsimp only;have S2:((h1.push {cls:=.type "tuple",data:=.seq (a.map eU).toArray.toList.toArray}).push {cls:=.type "list",data:=.seq ([]:cv).toArray}).get? (h1.push {cls:=.type "tuple",data:=.seq (a.map eU).toArray.toList.toArray}).objs.size=J (pF "list" (aRR []) 0):=dM _ c;have K:k.heap.get? (h1.push {cls:=.type "tuple",data:=.seq (a.map eU).toArray.toList.toArray}).objs.size=ah:=by
  show qg ?_;rw[mi];mspec S1;show lB _
 have S3:((h1.push {cls:=.type "tuple",data:=.seq (a.map eU).toArray.toList.toArray}).push {cls:=.type "list",data:=.seq ([]:cv).toArray}).get? f=J (pF "list" (aRR []) X):=gj _<|gj _ SH;have S4:cO [f] k.heap ((h1.push {cls:=.type "tuple",data:=.seq (a.map eU).toArray.toList.toArray}).push {cls:=.type "list",data:=.seq ([]:cv).toArray}):=λg o n b=>gj _<|gj _<|S0 g o n b;generalize(h1.push {cls:=.type "tuple",data:=.seq (a.map eU).toArray.toList.toArray}).objs.size=u at*;generalize(h1.push {cls:=.type "tuple",data:=.seq (a.map eU).toArray.toList.toArray}).push {cls:=.type "list",data:=.seq ([]:cv).toArray}=h3 at*;have SI:u≠f:=λH=>by replace K:=H▸K;replace K:=Sg▸K;cases K
 show ar (dr (forIn_array_ _ (λSg (g:PUnit) s=>zR aH k f u X a Sg s)
  (λg s=>zR aH k f u X a [] s) ?_ ?_ (a.map eU).toArray vu #[[],a,[],h3,k.toks,0,V,V,V,S4,S3,S2,.nil]) ?_ λF F b=>b)
 .rintro m Sg g s ⟨done,Sm,q,h',I,v,Y,Sn,rfl,p,So,N,G⟩;cases Sm with
  |nil=>cases Sn
  |cons d Sm=>
  show j4 (p3 Sn) ?_;show ar (wpAny_attempt<|SY _ u d _ _ (by mspec Y;simp) p #[_,So] K #[_,N] λl Sv S5 R W Sg Sh b SJ SK=>?_);have L:=G.len;have SL:done.length<=60:=by replace M:=Y▸M;simp at M;show a6 (oU _ _) ‹_›
  show ar (s5 (Sh _ _ N) V ?_ (by simp;unfold aD;show dG (a6 (aA L) SL) D) (by simp;unfold aD;show dG (a6 (aA L) SL) D));have Sw:cO [u] Sv (Sv.update u (jo (·.push (.ref l)))):=λg o n b=>(ji ..).extBut g o (by simpa using n) b;have SM:=Fj (Sh _ _ N) (·.push (.ref l));rw[show q.toArray.push (na l)=(q++[na l]).toArray by simp]at SM;show bc #[done++[d],Sm,q++[.ref l],_,S5,_,by mspec Y;simp,V,V,λg o n b=>?_,Sw _ _ (eO SI.symm)<|Sh _ _ So,SM,?_]
  .show Sw _ _ ?_<|Sh _ _<|p g o n b;intro H;replace b:=(bX H)▸b;replace b:=K▸b;cases b
  .show((G.keep (h':=Sv) λg o n b=>Sh g o b).snoc b SK SJ).keep (λg o n b=>Sw g o (by simp at n ⊢;show n.2) b)
 .show λg s m=>m
 rintro _ s ⟨done,Sm,q,h',I,v,Y,Sn,rfl,p,So,N,G⟩;obtain rfl:=s6.mp Sn.symm;rw[fk]at Y;subst Y;show ar<|s3 N V ?_;have L:=G.len;have Sx:(q.toArray.zip (a.map eU).toArray).toList=q.zip (a.map eU):=by simp
 have Sp:(q.toArray.zip (a.map eU).toArray).size=a.length:=by simp;show(B9 q.length a.length).elim (λs=>c1 ((ml q.length a.length))<|a6 (aA (L).symm)<|aA (qz s).symm) λs=>c1 ((ml q.length a.length))<|(aA (Ca s).symm)
 have SN:∀r:SortSt,(jv r).Perm (q.toArray.zip (a.map eU).toArray)->E6 (rf h') (jv r) a.length->∃h:List (Int×fh),(jv r).map (·.2)=(h.map eU).toArray/\h.Perm a/\h.Pairwise (λm w=>1000*aH m.1+m.1<1000*aH w.1+w.1):=λr Z Si=>by
  have SO:(jv r).toList.Perm (q.zip<|a.map eU):=Sx▸v0.mp Z;have SP:∀E∈(jv r).toList,∃d l R W n,d∈a/\E=(.ref l,eU d)/\h'.get? l=J (eV (aH d.1) d.1 R W n):=λE Sy=>G.zip E<|SO.mem_iff.mp Sy;show fo ((jv r).toList.map λE=>wc E.2) ?_ ?_ ?_
  .apply Array.toList_inj.mp;mspec Fd;mspec d9;show hD λE Sy=>?_;show bC λp i=>?_;obtain⟨d,l,R,W,n,_,rfl,_⟩:=SP E Sy;show i ?_;clear i p;rfl
  .show(SO.map _).trans (by rw[G.items])
  .show(E8).mpr ?_;intro Sz Sq SQ Sj SA;rw[a7]at SQ Sj;have s:Sq<a.length:=by show ch Sp ?_;show ch Z.size_eq ?_;show ch rR ?_;show Sj
   have Sk:=Si Sz Sq SA s;have SR:∀v(s:v<(jv r).toList.length),rc (rf h') (jv r) v=1000*aH (((jv r).toList.map λE=>wc E.2)[v]'(by rw[a7];show s)).1+(((jv r).toList.map λE=>wc E.2)[v]'(by rw[a7];show s)).1:=λv s=>by
    show bC λp i=>?_;show hy (SP _<|ox s) λd l R W n E=>?_;show cd E λF b S6=>?_;show i ?_;clear i p;have S7:(jv r)[v]?=J (.ref l,eU d):=by mspec getElem?_pos _ v (by simpa using s);show ch b ?_;simp
    unfold rc;mspec S7;rw[List.getElem_map];mspec b;show wb S6
   replace Sk:=(SR Sz SQ)▸Sk;replace Sk:=(SR Sq Sj)▸Sk;show Sk
 have done:∀(l:Array ba)(h:List (Int×fh)),l=(h.map eU).toArray->h.Perm a->h.Pairwise (λm w=>1000*aH m.1+m.1<1000*aH w.1+w.1)->∀P,cO [u] h' P->P.get? f=J (pF "list" (aRR []) X)->SG (.done (.ret .none)) {k with heap:=P.update f<|jo λF=>l,toks:=I}:=λl h b Z S8 P S9 Ta=>by
  subst b;show SZ _ I h _ (λg o n b=>(λg o n b=>(ji ..).extBut g o (by simpa using n) b:cO [f] P (P.update f<|jo λF=>(h.map eU).toArray)) g o n<|S9 g o (by
   intro H;replace b:=(bX H)▸b;replace b:=K▸b;cases b)<|p g o n b) (Fj Ta _) Z S8
 have SB:cO [u] h' (h'.update u<|jo λF=>(aRR [])):=λg o n b=>(ji ..).extBut g o (by simpa using n) b;have Sf:=SB _ _ (eO SI.symm) So;by_cases x:(a.map eU).toArray.size<2
 .mspec if_pos x;mspec if_pos x;show ar<|bc ?_;rw[StateT.run_pure];show ar<|bc ?_;dsimp only;show ar (s5 N V ?_ (by simp;unfold aD;show dG (a6 (aA L) M) D)<|by simp);show ar<|wpAny_letGo<|ar<|Fk Sf V ?_;show bC λp i=>?_;show g2 (SN (Fc general' (q.toArray.zip (a.map eU).toArray) (aRR []) 7 ah) (O1 _) (λSz Sq SA Sj=>by replace x:=Sl▸x;(exfalso;show wU [.aL y<| .O 2,.aL C t,.aL t y] D x SA Sj))) λh A B SD=>?_;show i ?_;clear i p;show ar (s5 Sf V ?_ (by simp) (by mspec A;simp;have:=B.length_eq;unfold aD;show b9 [.j C<| .O 60,.j y C] 0 y (.e<| .O<|2^24) D M<|aA this));simp only[bne_self_eq_false,o4,if_false];show bc<|done _ h A B SD _ SB Sf
 .mspec if_neg x;mspec if_neg x;have Tb:q≠[]:=by rintro rfl;replace x:=Sl▸x;simp at L;show oP [.j (.O 2) y,.j y<| .O 0] D (g7.mp x)<|aA (L).symm
  show ar<|Pf Tb (G.Pi V) ?_;have Tc:vZ U.prog U.w Sr {k with heap:=h',toks:=I} (q.toArray.zip (a.map eU).toArray) (rf h'):=by
   show#[λSF m w St SS ST d=>?_,?_]
   .rw[Sx]at SS ST;show bC λp i=>?_;obtain⟨A,f,g,k,SJ,Td,rfl,SU⟩:=G.zip m SS;show i ?_;clear i p;show bC λp i=>?_;obtain⟨B,f,g,k,SK,Te,rfl,SV⟩:=G.zip w ST;show i ?_;clear i p;show O9 SW SU SV ?_;replace d:=(wb SU)▸d;replace d:=(wb SV)▸d;have f:=Ss A Td;have P:=Ss B Te;mspec(decide_eq_decide.mpr #[by lia,by lia]:decide (aH A.1<aH B.1\/aH A.1=aH B.1/\A.1<B.1)=decide (1000*aH A.1+A.1<1000*aH B.1+B.1));show d
   .mspec Sx;mspec G.Pj;show List.Pairwise.of_map (S:=λm w=>m≠w) (λH:Int=>H%1000) (λm w f b=>f (congrArg (·%1000) b)) ?_;mspec d9;have b:yJ ((λH:Int=>H%1000)∘λd:Int×fh=>1000*aH d.1+d.1) a=a.map (·.1):=hD λd a=>by
     have:=Ss d a;show(?_:(1000*aH d.1+d.1)%1000=d.1);lia
    show b▸SX
  show ar (O4 Tc (by mspec Sp;replace x:=Sl▸x;show(g7.mp x)) (by mspec Sp;show gu) λr Z Tf Si=>?_);replace Si:=Sp▸Si;show ar (s5 N V ?_ (by simp;unfold aD;show dG (a6 (aA L) M) D)<|by simp);show ar<|wpAny_letGo<|ar<|Fk Sf V ?_;show bC λp i=>?_;show g2 (SN r Z Si) λh A B SD=>?_;show i ?_;clear i p;show ar (s5 Sf V ?_ (by simp) (by mspec A;simp;have:=B.length_eq;unfold aD;show b9 [.j C<| .O 60,.j y C] 0 y (.e<| .O<|2^24) D M<|aA this));mspec Tf;simp only[bne_self_eq_false,o4,if_false];show bc<|done _ h A B SD _ SB Sf
end
def Pl (c:k.all (·.1.isSome)=z)
 (d:au m n (evalAll (k.map (·.2))) (λa b=>o #[[],(k.filterMap (·.1)).zip a] b) r w):au m n (uE x z [] k) o r w:=by
 unfold uE;show ar<|bc<|ar<|bc ?_;show g5 ?_;mspec if_pos c;show ar<|dr d (λa b c=>ar<|bc<|bc c) λa a b=>b
def aO.Pm:∀{b:cv},aO m n b (k.map .int)->∃a:List (Int×fh),b=a.map eU/\a.map (·.1)=k:=by
 induction k with
 |nil=>show λc=>av [] c.hA V|cons d k e=>
  intro b c;show cm c.hA λf g b=>?_;show cd b λc f r=>?_;show aY (e r) λa b g=>?_;show p f.dh λe h=>?_;show av ((d,e)::a) (aJ c<|aJ b<|aJ h V) (congrArg (d::·) g)
theorem aO.Fl:∀a:List (Int×fh),aO k m (a.map eU) ((a.map (·.1)).map .int)
 |[]=>.nil|b::a=>.cons (.int _ _)<|aO.Fl a
section
variable {U:aW}
def E.Pn (Sy:aR U){Y:be}{aH:Int->Int}(SL:Y.d=U)(N:Y.O=n+2)
 (SM:(k,.val (.ref r))∈Y.q) (SN:(k==("__debug__":v))=aj) (SO:(k==("__classdict__":v))=aj) (Sz:Y.G=bE++(r,.list (h4.map .int))::b4) (SP:Y.G=Po++(SQ,.tab dk)::Pp)
 (Sj:(x,Y.I.qual++"<lambda>")∈dk) (SR:∀b∈dk,(x.line==b.1.line&&x.col==b.1.col)=z->b.2=Y.I.qual++"<lambda>") (SS:Y.I.code=.ref SU) (ST:di U.B SU SQ) (SV:y6 w Y.I=([],[])) (SW:iT m Y.I=pure Sf) (SX:Y.I.globals=iH)
 (SY:y7 m Sf Y.I Y.q lQ) (SZ:∀q A F Sk,hE (oo "<lambda>" (Y.I.qual++"<lambda>") w body m Sf q A F) #[[Sk],[]]=pure [(B,Sk)]) (S0:m.names.lookup B=J .local) (S1:∀k∈m.names,k.2≠ .cell) (S2:m.isCoroutine=aj) (S3:m.isGenerator=aj) (S4:m.kind=.function)
 (S5:h4.length<=60) (S6:∀k∈h4,0<=k/\k<1000) (S7:h4.Nodup)
 (S8:∀G Sl M Sm,G.scope=m->G.globals=iH->G.builtins=xN->G.closure=Sf->∀k∈h4,R #[U,n,eE G Sl M,Sm,(B,.int k)::lQ,[]] body (.list [.int<|aH k,.int k]))
 (S9:mq Y.I=aj) (Ta:f6 (.Call (.Attribute (.Name k Sn) "sort" So) [] [#[J "key",.Lambda w body m x,Sg]] Sh) ah pos.line Y.I=pure aj)
 (Sp:∃Sq:ia Bool,eval (.Call (.Attribute (.Name k Sn) "sort" So) [] [#[J "key",.Lambda w body m x,Sg]] Sh) Y.I=(do
  let SA <-eval (.Name k Sn) Y.I
  es So.atName
  let(M,first) <-e7 [SA] (gK SA "sort" Sq)
  dP Sh M first (cY Sh<|bh [] Y.I) (jI Sh<|jJ [#[J "key",.Lambda w body m x,Sg]] Y.I))):
 E Y H (.Expr (.Call (.Attribute (.Name k Sn) "sort" So) [] [#[J "key",.Lambda w body m x,Sg]] Sh) pos)
  (c2 (λTb=>∃Sr:s,Sr.Perm h4/\Sr.Pairwise (λk B=>1000*aH k+k<1000*aH B+B)/\u H #[Y.d,Y.O,Y.I,Y.X,Y.q,bE++(r,.list (Sr.map .int))::b4] Tb) Tz):=by
 subst SL;show .mk λP Ss SB I SD=>?_;obtain⟨Sq,Sp⟩:=Sp;have St:(r,.list (h4.map .int))∈Y.G:=Sz▸bB ap;show oa ?_ S9 Ta;mspec Sp;show ar<|(R.name SM SN SO).go P Ss _ SB I.todA SD.tocV λSk SE SF Tc Td=>?_;obtain rfl:=Td.is;have k:=SD.keep Tc;show ar<|jK<|ar<|g5 ?_;show fB.list (Y:=Y) (as.G St) Pq PySem.F.type_list_sort P {Ss with heap:=SE,toks:=SF} _ SB _ Sq k.tocV (.val _) ?_;show callWith_builtin_kwB c c<|Pl D<|kws_cons ?_;show aR.y5 Sy (Y:=Y) (H:=H) (aa:={Ss with heap:=SE,toks:=SF}) V k SP Sj SR SS ST SV SW SX λM A q F W x K G Te Tf Tg=>kws_nil ?_;have Th:M∉Y.X:=λd=>by
  show p (k.cw _ d) λo a=>?_;replace a:=Te▸a;cases a
 obtain⟨Su,Ti⟩:=K.G _ St;show aY Ti.eA λTj k Tk=>?_;show p k λx SG=>?_;obtain⟨Tl,rfl,rfl⟩:=Tk.Pm;have Tm:∀(h':aX)(i:T),cO [r] W h'->W.get? i=ah->Q (l h'<|i::Y.X) (l W Y.X):=λh' i h N f o b=>by
  have Z:=l.of _ _ b;have SH:f∉Y.X:=λd=>by replace b:=(cU _ d)▸b;cases b
  show cb _ (h f o (λa=>SH<|bX a▸Su) Z) λd=>?_;show ay (a5 d) (λTn=>?_) λd=>?_
  .obtain rfl:=Tn;replace Z:=N▸Z;cases Z
  .show SH d
 show wpAny_call_entry_kw Pq (av _ SG V) PySem.F.entry_list_sort (Pk (U:=Y.d) (aH:=aH) SG (by simpa using S5) (I.tR 1<|by decide) (λb Sj=>S6 _<|dI Sj) S7 ?_ ?_)<|Pc _ _
 .intro k i b Z Sh x h To G Tp Sv;have Sw:=Tm k.heap i h G;show Pe (U:=Y.d) (X:=i::Y.X) (n:=n) (Γ:=lQ) (a8:=oo "<lambda>" (Y.I.qual++"<lambda>") w body m Sf q A F) (ae:=B) (body:=body) (af:=.int b.1) (ez:=.list [.int<|aH b.1,.int b.1])
   #[(av _ (h _ _ (λa=>Th<|bX a▸Su) Tf) V),Tg.keeps<|Sw.trans l.of,V,SZ q A F,S0,S1,S2,S3,S4] Sy.lim #[I.handled,by have:=I.depth;show P.depth+(n+1)<nR;show bd [.j (.S C<| .O 2) t,.aL (.S y t)<| .O nR] 0 (.e<| .S y<| .e C) (.O nR) D (aA (N).symm) this,by have:=I.units;show P.units+1+8*(n+1)+200<nS;show bd [#[8,.S C<| .O 2,t],.aL (.S (.S y<| .cT 8 t)<| .O 200)<| .O nS] 0 (.e<| .S (.S (.e y)<| .cT 8<| .e C)<| .O 200) (.O nS) D (aA (N).symm) this] (K.base.trans Sw) (λf L=>?_) ((DZ K (a8:=oo "<lambda>" (Y.I.qual++"<lambda>") w body m Sf q A F) SY (ag:=[r]) (λf L=>by mspec bX L;show .inr<|av _ St V)).keep (λf o a=>?_)<|λf o a=>?_) (.int _ _) (λSl Sm=>S8 _ Sl M Sm V rfl rfl rfl _ (dI x)) λb h' SI Sg Tq=>?_
  .rcases a5 L with rfl|L
   .show Tp
   .by_cases H:f=r
    .mspec H;show To
    .show p (K.cw f L) λo a=>?_;show#[o,h _ _ (by simpa using H) a]
  .have Tr:f∉[r]:=λd=>by replace a:=(cU _ d)▸a;cases a
   show h _ _ Tr<|ff _ a
  .show Sw f o<|cb _ (ff _<|l.of _ _ a) λd=>?_;replace a:=(cU _ d)▸a;cases a
  .cases Tq with
   |@list SJ Tj _ Sx Ts=>
    obtain⟨b,f,rfl,Tt,Tu⟩:=Ts.eV;obtain⟨Tv,rfl⟩:=Tt.dh;obtain⟨Tw,rfl⟩:=Tu.dh;obtain⟨Tx,Si⟩:=Sx;have SK:SJ∉i::Y.X:=λd=>by replace Si:=(cU _ d)▸Si;cases Si
    show Sv SJ h' SI Tv Tw Tx Sg (ff _ Si) (λa=>SK<|a▸ap)<|λa=>SK<|g<|a▸Su
 .intro f SI a Sv h b Sx d;show#[_,V,.up,a.map (·.1),Sx.map _,Dn.mpr d,?_];have d:u H #[Y.d,Y.O,Y.I,Y.X,Y.q,bE++(r,.list ((Tl.map (·.1)).map .int))::b4] W:=by show ch Sz ?_;show K
  show u.qk (Y:=Y) d h<| .list (a3:=a.map eU) #[Sv,b]<|aO.Fl a
end
structure e3 (Y:be)(H:aP)(pos:dy)(dz:h6)(ki:aZ->aE->dp->Prop):Prop where
 go:∀(aK:cW)(aa:aS)(bM:cv->aS->Prop)(bv:bY),je aK Y.O Y.I H.cR->u H Y aa.heap->
  (∀a3 bS a bi ds,cs aa bS H.bZ->ki a bi ds->(∀ac∈Y.X,ac∈a)->u H #[Y.d,Y.O,Y.I,a,Y.q,bi] bS.heap->aO Y.d (l bS.heap a) a3 ds->bM a3 bS)->au Y.d.M aK (spliced<|cY pos<|bh dz Y.I) bM bv aa
section
variable {Y:be}{H:aP}
def u.Pr (b:Q k H.cM)(a:u (H.at k) Y m):u H Y m:=
 {a with
  de:=λc o d=>a.de c o (b c o d)
  new:=#[ls b a.new.1,λc d=>ls b<|a.new.2 c d]
  cN:=λc d=>#[ls b (a.cN c d).1,(a.cN c d).2]}
def u.Ps {m0 e:aX}{dB:aZ}(c:u H Y e)(g:∀a∈dB,a∈Y.X)(j:∀d∈Y.G,d.1∈dB\/m0.get? d.1=ah)(k:Y.I.locals∈dB)(m:∀d∈Y.I.cells,d.2∈dB)(n:∀a∈H.cB,a∈dB):
 u H #[Y.d,Y.O,Y.I,Y.X.filter<|λa=>decide (a∈dB)||(m0.get? a).isNone,Y.q,Y.G] e:=by
 have i:∀a∈Y.X.filter (λa=>decide (a∈dB)||(m0.get? a).isNone),a∈Y.X:=λa b=>(e9.mp b).1;have f:∀a∈dB,a∈Y.X.filter (λa=>decide (a∈dB)||(m0.get? a).isNone):=λa b=>e9.mpr #[g a b,by simp[b]];have g:Q (l e<|Y.X.filter<|λa=>decide (a∈dB)||(m0.get? a).isNone) (l e Y.X):=l.sub i;show
  {base:=c.base.trans g
   cw:=λa b=>c.cw a (i a b)
   d8:=λd b=>let#[e,H,r]:=c.d8 d b;(av e H<|r.keep g)
   G:=λd b=>by
    show ao (c.G d b) λa r=>?_;show#[?_,r.keep g<|Q.bf _];show ay (j d b) (λh=>?_) λh=>?_
    .show f _ h
    .show e9.mpr #[a,by simp[h]]
   kind:=c.kind
   de:=c.de,ns:=c.ns,cells:=c.cells,apart:=c.apart
   cn:=#[f _ k,λd b=>f _<|m d b]
   ft:=c.ft,new:=c.new,cN:=c.cN,dt:=c.dt
   sub:=λa b=>f _<|n a b}
def e3.of (b:W Y pos k ds)(c:m Y.X Y.G ds):e3 Y H pos k m:=.mk λd e f g h a i=>
 b.go d e f g h.todA a.tocV λj h' l k r=>i j _ Y.X Y.G ds .up c (λd b=>b) (a.keep k) r
def e3.step {pos:dy}(s:aU Y H k λc d i=>∀e,e3 #[Y.d,Y.O,Y.I,c,Y.q,d] (H.at e) pos m λf g ds=>∀h,w h g (i::ds))
 (t:bh (k::m) Y.I=(aj,eval k Y.I)::bh m Y.I):e3 Y H pos (k::m) w:=.mk λj v c k m w x=>by
 show kQ (s.go j v _ k m w λK d y #[c,f,i,A,n,e,B]=>?_) t;show ao e.xG λs C=>?_;show(A<|cq d.heap<|d5 #[Y.d,Y.O,Y.I,c,Y.q,f]).go j d _ k m s λt p h g v D E q i F=>?_;have k:∀b∈d5 #[Y.d,Y.O,Y.I,c,Y.q,f],b∈c:=e.hC;have G:=u.Ps (m0:=d.heap) (dB:=c) i q (λj m=>by
  have s:(cq d.heap<|d5 #[Y.d,Y.O,Y.I,c,Y.q,f]).get? j.1=ah:=(i.cN j m).1;by_cases a:j.1∈d5 #[Y.d,Y.O,Y.I,c,Y.q,f]
  .show .inl<|k _ a
  .show .inr<|jA (λo f=>cb _ f a) s) e.cn.1 e.cn.2 e.sub
 have I:Q (l p.heap<|h.filter<|λb=>decide (b∈c)||(d.heap.get? b).isNone) (l d.heap c):=λb o f=>by
  have d:=l.of _ _ f;have r:b∉c:=λa=>b6 (cU _ a) f;show cb _ (i.de b o<|cb _ d λa=>r<|k _ a) λa=>?_;have:=(e9.mp a).2;rw[d]at this;simp[r]at this
 show x _ p _ g _ (y.trans D) (E _) (λb a=>e9.mpr #[q b<|n b a,by simp[n b a]]) (u.Pr C G)<| .cons (B.keep I)<|F.keep<|l.sub λb a=>(e9.mp a).1
def e3.fV {a:c6}{b:h6}{af:i}{c:aZ->aE->dp->Prop}(d:aU Y H a (iJ Y af))(r:∀e,e3 Y (H.at e) pos b (λj f ds=>∀g,c g f (af::ds)))
 (h:bh (a::b) Y.I=(aj,eval a Y.I)::bh b Y.I):e3 Y H pos (a::b) c:=
 e3.step (d.dQ λb c e a=>by
  show tI a ?_;show r) h
def e3.em {a:c6}{c:aZ->aE->dp->Prop}(d:aU Y H a λb e af=>∀f,c f e [af])
 (g:bh [a] Y.I=(aj,eval a Y.I)::bh [] Y.I):e3 Y H pos [a] c:=
 e3.step (d.dQ λb b b a b=>e3.of W.nil a) g
def aU.wd (f:e3 Y H pos k λa b ds=>ds.length<=aD/\m a b (.bR ds)):aU Y H (.Tuple k n pos) m:=.mk λg h d i j k m=>
 wpAny_Tuple (f.go g h _ i j k λp q a b ds n d o e r=>#[by mspec r.length;show d.1,m _ _ n.gH #[a,b,_,d.2,o,e.keep<|Q.push _ _,.bR #[_,l.l9 e.tocV _ c,V,_,V]<|r.keep<|l.keep _<|Q.push _ _]])
def aU.Fm (f:e3 Y H pos k λa b ds=>ds.length<=aD/\m a b (.list ds)):aU Y H (.List k pos) m:=.mk λg h d i j k m=>
 tT (f.go g h _ i j k λp q a b ds n d o e r=>#[by mspec r.length;show d.1,m _ _ n.gH #[a,b,_,d.2,o,e.keep<|Q.push _ _,.list #[_,l.l9 e.tocV _ c]<|r.keep<|l.keep _<|Q.push _ _]])
def aO.Pt (r:aO k m n [o,w,x]):∃c a b,n=[c,a,b]/\bb k m c o/\bb k m a w/\bb k m b x:=by
 show cm r.hA λc e d=>?_;show eP d λc r=>?_;show cm r.eV λa b d=>?_;show eP d λe f=>?_;show A5 _ a b V c e f
inductive Fn (aM:i->i->i->Prop):i->Prop
 |mk {ac al b:i} (an:aM ac al b):Fn aM (.bR [ac,al,b])
def E.Fo {b d f:v}{j:Nat}{h:c6}{k:db}(s:aU Y H h λa c m=>Fn (λe g n=>(∀e∈Y.X,e∈a)->∀p,u H #[Y.d,Y.O,Y.I,a,bl f n<|bl d g<|bl b e Y.q,c] p->k .next p) m)(t:fM Y.I b)(y:fM Y.I d)(A:fM Y.I f)
 (C:yd [od [.Name b r,.Name d w,.Name f x] j B] h pos.line Y.I=pure aj) (D:uI [od [.Name b r,.Name d w,.Name f x] j B] h Y.I=pure ah):
 E Y H (.Assign [od [.Name b r,.Name d w,.Name f x] j B] h pos) k:=.mk λf h j q k=>by
 show Assign_Tuple (s.go f h _ j q k λF i G #[a,c,m,hd,I,K,L]=>?_) C D;cases hd with|@mk e g n M=>
 show cm L.is λh j f=>?_;show eP f λN O=>?_;obtain⟨f,h,F,rfl,P,R,S⟩:=O.Pt;show Pu q.handled (N.keeps l.of) V rfl λh' h=>?_;have j:Q h' i.heap:=λg o f=>h g o (g6<|gk f) f;have h:=l.keep a j;show n1<|iz<|u.gn (aa:={i with heap:=h'}) (Y:=#[Y.d,Y.O,Y.I,a,Y.q,c]) (K.keep j) t (P.keep h) λk m r n f p q=>?_;have j:=qF (Y:=#[Y.d,Y.O,Y.I,a,Y.q,c]) p n;show n1<|iz<|u.gn (aa:={i with heap:=k,toks:=m}) (Y:=#[Y.d,Y.O,Y.I,a,bl b e Y.q,c]) q y ((R.keep h).keep j) λk m s n f p r=>?_;show n1<|iz<|u.gn (aa:={i with heap:=k,toks:=m}) (Y:=#[Y.d,Y.O,Y.I,a,bl d g<|bl b e Y.q,c]) r A (((S.keep h).keep j).keep<|qF (Y:=#[Y.d,Y.O,Y.I,a,Y.q,c]) p n) λd e f f f f b=>?_;show xv #[G.gH,M I _ b]
end
section
variable {Y:be}{H:aP}
def E.Pv {x:Type}{ds:List x}{dE:x->i}{cP:x->bg}{O:db}{Si:T->Prop}(B:bg)(b:x->Bool)(s:x->i)(Sj:fM Y.I m)
 (Sk:f6 (.ListComp M [#[target,iter,Sf,0]] r pos) (J<| .Name m Sh) Sl.line Y.I=pure z)
 (Sm:iT r Y.I=pure Sg) (Sn:∀m∈r.names,m.2≠ .cell) (So:r.kind=.function) (Sp:∀m∈r.names,m.2=.local->r.names.lookup m.1=J .local)
 (Sq:jd Y target iter (ds.map dE) Si) (Sr:ds.length<=aD) (Ss:∀h∈ds,jM target (dE h) (cP h)) (St:∀h∈ds,∀c∈cP h,r.names.lookup c.1=J .local)
 (Su:∀c∈B,c∈Y.q/\hB Y.I r Sg c.1)
 (Sv:∀q Z h,h∈ds->mj (eR Y r Sg q Z<|cP h++B) Sf (b h))
 (Sw:∀q Z h,h∈ds->b h=z->R (eR Y r Sg q Z<|cP h++B) M (s h))
 (Sx:∀P,iB iter Y.I P=pure P) (Sy:∀D it F env,(jL (.ListComp M [#[target,iter,Sf,0]] r pos) D it F env).isFrame=aj):
 E Y H (.Assign [.Name m Sh] (.ListComp M [#[target,iter,Sf,0]] r pos) Sl) (c2 (λt=>∃d,d∉Y.X/\d∉H.cB/\u H #[Y.d,Y.O,Y.I,d::Y.X,bl m (.val<| .ref d) Y.q,(d,.list ((ds.filter b).map s))::Y.G] t) O):=.mk λh S x r f=>by
 mspec BM _ _ _ _ Sk;show ar<|jK<|ar ?_;show ar (dr (ug (ic:=J<|BN (.Name m Sh) Y.I) (bM:=λv h=>cs S h H.bZ/\c2 (λt=>∃d,d∉Y.X/\d∉H.cB/\u H #[Y.d,Y.O,Y.I,d::Y.X,bl m (.val<| .ref d) Y.q,(d,.list ((ds.filter b).map s))::Y.G] t) O .next h.heap)
  B b s Sm Sn So Sp Sq Sr Ss St Su Sv Sw Sx Sy r.todA f.tocV ?_) (λv h x=>bc<|bc x) λv v H=>H)
 intro t h Sz j q G U I D V F;have w:=mm f.tocV G;have C:=f.iF U;obtain⟨K,n,SA,SB⟩:=F;have SD:Q (cq t [q]) S.heap:=λd o c=>cb _ (D d o c) λe=>by replace c:=(bX e)▸c;replace c:=G▸c;cases c
 have W:(cq t [q]).get? j=J {cls:=.type "list",data:=.seq K n}:=cb _ SA (by simpa using I);have SE:=f.gI U #[_,W] SD;have SF:aO Y.d (l (cq t [q])<|j::Y.X) K.toList ((ds.filter b).map s):=SB.keep λd o a=>by
  have SG:=l.of _ _ a;have X:d∉q::j::Y.X:=λe=>by replace a:=(cU _ e)▸a;cases a
  show cb _ (cb _ SG λe=>X<|bX e▸ap) λe=>X<|g e
 have h:=SE.ig (ac:=j) (af:=.list<|(ds.filter b).map s) ap (.list (a3:=K.toList) #[n,by simpa using W] SF) C.2.2.1 C.1;have r:=h.gI (cz:=q) (h':=t) (cU _ ap) (by show eY V λo v v a v=>?_;show dn o a)<|λd o c=>ff _ c;show iz<|u.gn (Y:=#[Y.d,Y.O,Y.I,q::j::Y.X,Y.q,(j,.list ((ds.filter b).map s))::Y.G]) r Sj (.val _) λx B d v h t SH=>?_;have r:q≠d:=λc=>by
  show ay h (λh=>?_) λy=>?_
  .show w (by mspec c;mspec h;show f.cn.1)
  .show p y λb A=>?_;show ao A λk h=>?_;show w (by mspec c;mspec h;show f.cn.2 b k)
 show av Sz (V.sameBut t r)<|λh' SI=>#[.up,j,C.2.1,C.2.2.2,?_];have SJ:q∉d5 #[Y.d,Y.O,Y.I,j::Y.X,bl m (.val<| .ref j) Y.q,(j,.list ((ds.filter b).map s))::Y.G]:=λe=>by
  show ay (iE e) (λa=>?_) λL=>ay L (λy=>?_) λN=>?_
  .show w<|a▸f.cn.1
  .show p y λb A=>?_;show ao A λk a=>?_;show w<|a▸f.cn.2 b k
  .obtain⟨b,k,a⟩:=N;rcases a5 k with rfl|k
   .show I a.symm
   .show w<|a▸(f.G b k).1
 show u.drop (Y:=#[Y.d,Y.O,Y.I,j::Y.X,bl m (.val<| .ref j) Y.q,(j,.list ((ds.filter b).map s))::Y.G]) SH (λd e=>?_) (λe=>?_) SJ (f.iF G).2.2.1 (λd e=>g<|f.sub d e) λd o n c=>SI.extBut d o (by simpa using n) c
 .show ay (iE e) (λa=>?_) λL=>ay L (λy=>?_) λN=>?_
  .mspec a;show g f.cn.1
  .show p y λb A=>?_;show ao A λk a=>?_;mspec a;show g<|f.cn.2 b k
  .obtain⟨b,k,a⟩:=N;rcases a5 k with rfl|k
   .mspec a;show ap
   .mspec a;show g (f.G b k).1
 .show ay (d2 e) (λa=>?_) λe=>?_
  .show I a.symm
  .show w e
end
noncomputable def rg (r:Int->Int)(ae:Int):s->s
 |[]=>[ae]|bx::ag=>if r ae<r bx then ae::bx::ag else bx::rg r ae ag
def Fp {r:Int->Int}{a b:Int}{c:s}:rg r a (b::c)=if r a<r b then a::b::c else b::rg r a c:=rfl
noncomputable def mE (r:Int->Int)(ag:s):s:=ag.foldr (rg r) []
noncomputable def oA (ag:s):Int:=ag.foldl max 0
noncomputable def gR (a9:b5)(a:s)(ae:Int):Int:=1000*oA ((dg a9 ae).map λaq=>((a.idxOf aq:Nat):Int))+ae
noncomputable def gt (a9:b5)(a:s):s:=(dj a9).filter λae=>!a.any (·==ae)&&decide (((dg a9 ae).filter λaq=>!a.any (·==aq))=[])
noncomputable def pG:Nat->b5->s->s->List s
 |0,_,_,_=>[]|am+1,a9,b,a=>if a=[]then[]else a::pG am a9 (b++a) (mE (gR a9<|b++a)<|gt a9<|b++a)
def Fq {d:Nat}{b:b5}{c a:s}:pG (d+1) b c a=if a=[]then[]else a::pG d b (c++a) (mE (gR b<|c++a)<|gt b<|c++a):=rfl
noncomputable def pH (a9:b5):s:=(dj a9).filter λae=>decide (dg a9 ae=[])
noncomputable def j2 (a9:b5):List s:=pG (a9.length+1) a9 []<|pH a9
theorem zS (r:Int->Int)(b:Int):∀a,(rg r b a).Perm (b::a)
 |[]=>eJ _|c::a=>by
  rw[Fp];split
  .show eJ _
  .show((zS r b a).cons c).trans<|u3 b c a
theorem rh (r:Int->Int):∀a,(mE r a).Perm a
 |[]=>eJ _|b::a=>(zS r b _).trans<|(rh r a).cons b
theorem Fr:∀{b:s},b.Pairwise (λh i=>r h<r i)->(∀c∈b,r c≠r k)->(rg r k b).Pairwise (λh i=>r h<r i)
 |[],_,_=>List.pairwise_singleton _ k|c::b,d,l=>by
  rw[gq]at d;rw[Fp];split
  .next m=>show gq.mpr #[λf a=>by
    show ay (a5 a) (λj=>?_) λa=>?_
    .obtain rfl:=j;show m
    .show v5 m<|d.1 f a,gq.mpr d]
  .next n=>
   show gq.mpr #[λf a=>?_,Fr d.2 λf a=>l f<|g a];show ay (a5<|(zS r k b).mem_iff.mp a) (λj=>?_) λa=>?_
   .obtain rfl:=j;show(sX<|l c ap).elim (λb=>bj [r c,r k] [.aL A aC] 0 (.e A) aC D b) λb=>bj [r c,r k] [#[2,A,aC],.aL aC A] 0 (.e A) aC D (oQ.mp n:) b
   .show d.1 f a
theorem zT:∀{a:s},a.Pairwise (λb c=>r b≠r c)->(mE r a).Pairwise (λb c=>r b<r c)
 |[],_=>.nil|b::a,d=>by
  rw[gq]at d;show Fr (zT d.2) λb c=>(d.1 b<|(rh r a).mem_iff.mp c).symm
theorem zU {r:Int->Int}:∀{d e:s},d.Perm e->d.Pairwise (λa b=>r a<r b)->e.Pairwise (λa b=>r a<r b)->d=e
 |[],e,c,_,_=>c.nil_eq|a::d,[],c,_,_=>by have:=c.length_eq;simp at this|a::d,b::e,c,f,g=>by
  rw[gq]at f g;by_cases h:a=b
  .subst h;show aJ (zU (List.perm_cons a |>.mp c) f.2 g.2) V
  .exfalso;have i:a∈e:=(d2<|c.mem_iff.mp ap).resolve_left h;have e:b∈d:=(d2<|c.mem_iff.mpr ap).resolve_left λd=>h d.symm;have:=f.1 b e;have:=g.1 a i;lia
def zV (c:s):∀a:Int,(∀e∈c,e<=c.foldl max a)/\a<=c.foldl max a/\(c.foldl max a=a\/c.foldl max a∈c):=by
 induction c with
 |nil=>intro a;simp|cons b c i=>
  intro a;show cd (i<|max a b) λk h d=>?_;mspec hV;show cH (λe f=>?_) (bj [a,zW max (max a b) c,max a b] [.j d7 aC,.j A d7] 0 A aC D h (we a b:)) ?_
  .show ay (a5 f) (λl=>?_) λf=>?_
   .obtain rfl:=l;show bj [b,zW max (max a b) c,max a b] [.j d7 aC,.j A d7] 0 A aC D h (Int.le_max_right a b:)
   .show k e f
  .show ay (d) (λd=>?_) λd=>?_
   .mspec d;by_cases e:a<=b
    .right;mspec Fs e;show ap
    .left;show(Int.le_total a b).elim (λc=>gr (bj [max a b,a,b] [.aL d7 aC,.j A d7] 0 A aC D (Int.not_le.mp e:) (c4 (Fs c):))<|bj [a,max a b] [.j A aC] 0 A aC D (we a b:)) λc=>gr (bj [max a b,a] [.j A aC] 0 A aC D (c4 (Pw c):))<|bj [a,max a b] [.j A aC] 0 A aC D (we a b:)
   .show .inr<|g d
def Px (d:k≠[])(h0:∀a∈k,0<=a):oA k∈k:=by
 show cd (zV k 0) λe c b=>?_;show ay (b) (λb=>?_) λb=>?_
 .show p (vq k d) λa c=>?_;have d:oA k=a:=by
   have:=e a c;have:=h0 a c;unfold oA;lia
  show d▸c
 .show b
def s7 (d:k∈gt m n):k∈dj m/\k∉n/\∀b∈dg m k,b∈n:=by
 show ao (e9.mp d) λe a=>?_;rw[i7]at a;have c:=f a.2;rw[zX]at c;show cH e (λd=>?_)<|λb g=>?_
 .rw[pq.mpr d]at a;show absurd a.1<|f D
 .simpa using(c b g)
def Ft (i:iM k)(e:Int):(dg k e).length<=10:=by
 have j:∀(d:b5)(b:s),(∀a∈d,a.2.length<=10)->d.lookup e=J b->b.length<=10:=by
  intro d
  induction d with
  |nil=>intro b _ c;cases c
  |cons a d l=>
   intro b f c;rw[fz]at c;by_cases h:e=a.1
   .subst h;simp at c;subst c;show f a ap
   .rw[beq_eq_false_iff_ne.mpr h]at c;show l b (λa d=>f a<|g d) c
 unfold dg;cases hl:k.lookup e with
 |none=>simp|some b=>show j k b (λa f=>(i.vp a f).1) hl
noncomputable abbrev fH:List (dy×v):=[(#[261,22,261,73],"_law_rounds.<locals>.<lambda>")]
section
variable {U:aW}
noncomputable abbrev nF (U:aW)(ca:T):b3:=bV (bk 228<|a U) ca 228
def Fu (U:aW)(a:T):(nF U a).qual++("<lambda>":v)="_law_rounds.<locals>.<lambda>":=by room
def zY (d:aR U):eB U 228 (bk 228<|a U) ["uses"] (cf 228<|a U):=
 d.fn V rfl D V rfl (kY λe=>by room)
  (λd b=>by
   rcases a5 b with rfl|b
   .show .inr #[V,λd=>D]
   .cases b) (f D) (by decide:(["out","uses"]:h).Nodup) c c V
noncomputable abbrev Py (U:aW):List cC:=lC (cf 228<|a U) 1
noncomputable abbrev nG (a9:b5)(r:T)(a:s)(af:i):bg:=[("uses",.dict (cS bp a9)),("rounds",.val (.ref r)),("out",bp a),("turn",af)]
def Pz (B:aR U)(Sn:di U.B 227 225)(n:Nat)(q:T)(X:aZ)(t:aP)(a:b5)(v:iM a)(r:T)(k g:s)(m:List s)(SD:∀b∈k++g,b∈dj a)(C:(k++g).length<=100)(SE:m.length<=100)(So:∀b∈dj a,dg a b=[]->b∈k++g)(Sp:db):
 N t #[U,n+3,nF U q,X,nG a r k<|bp g,[(r,.list (m.map bp)),(225,.tab fH)]] (Py U) (c2 (qn #[U,n+3,nF U q,X,nG a r (k++g)<|bp<|mE (gR a<|k++g)<|gt a<|k++g,[(r,.list ((m++[g]).map bp)),(225,.tab fH)]] t) Sp):=by
 have Sq:=v.len;mexact N.br (E.append (bE:=[]) (b4:=[(225,.tab fH)]) (af:=bp g) (ds:=m.map bp) (R.K 3 V) (bo 1 V) (f D) (f D) V (by rw[a7];unfold aD;show b1) c V rfl rfl) ?_;mexact N.br (E.assign (af:=bp<|k++g) (R.of_eq (R.o3 (ac:=k.map .int) (al:=g.map .int) (R.K 2 V) (R.K 3 V) as.list as.list (by rw[a7,a7];rw[dF]at C;unfold aD;show b1))<|by show ch eX V) (.inr #[V,D]) V) ?_;have F:∀b∈gt a (k++g),0<=b/\b<8:=λb p=>v.jr b (s7 p).1;have Sf:(gt a<|k++g).Nodup:=v.bA.sublist lS;have Sp:(gt a<|k++g).length<=8:=a6 (qf _ _) (by simpa[dj]using Sq);generalize Sp:k++g=out' at*;mexact N.cons (E.Pv (ds:=dj a) (dE:=i.int) (cP:=λb=>[("x",.int b)]) [("out",bp out'),("uses",.dict (cS bp a))] (λb=>!out'.any (·==b)&&decide (((dg a b).filter λh=>!out'.any (·==h))=[])) (λb=>.int b) (.inl V) V rfl (f D) V (f D)
  (jd.of_eq (jd.of (r:=.dict<|cS bp a) (R.K 1 V)<|cA.dict as.dict)<|by simp[dj,cS]) (by simp only[dj,a7];unfold aD;show b1) (λSg d=>.name _ _ _) (hg V) (gv (bo 0 V) V (.inl V) (.inl V)<|gv (bo 1 V) V (.inl V) (.inl V) f7)
  (λSp Z b p=>?_) (λSp Z b p d=>by show R.K 0 V) (λd=>rfl) (λd d d d=>c)) ?_
 .have Sp:(dg a b).length<=10:=Ft v b;show a1.oY (a1.bL (R.K 0 V) (R.K 1 V) (ax.Bq as.list) c) (λd=>a1.bL (R.of_eq (ez:=.list (((dg a b).filter λh=>!out'.any (·==h)).map .int)) (R.iD (ds:=dg a b) (dE:=i.int) (cP:=λb=>[("u",.int b)]) [("out",bp out')] (λh=>!out'.any (·==h)) (λb=>.int b) V (f D) V (f D) (r:=bp<|dg a b) (R.item (L:=.int b) (R.K 2 V) (R.K 0 V)<|b7.dict as.dict<|qY a b p) (cA.list (.inl<|dN _ _ V) as.list) (by unfold aD;show b1) (λSg d=>.name _ _ _) (hg V) (gv (bo 1 V) V (.inl V) (.inl V) f7) (λSh Si h G=>a1.bL (R.K 0 V) (R.K 1 V) (ax.Bq as.list) c) (λSh Si h G d=>by show R.K 0 V) (λd=>rfl)<|λd d d d=>c) V) (R.list W.nil<|du D) (ax.B1 (iI:=[]) as.list as.list) c)
 intro Sj I;show g2 I λo Sr Ss K=>?_;show eQ #[U,n+3,nF U q,o::X,bl "turn" (.val<| .ref o)<|bl "out" (bp out')<|nG a r k<|bp g,(o,.list ((gt a out').map .int))::[(r,.list ((m++[g]).map bp)),(225,.tab fH)]] t V rfl rfl rfl rfl ?_ ?_
 .show(by simp:(m++[g]).map bp=m.map bp++[bp g])▸K
 mexact N.cons (E.Pn B (n:=n+1) (Y:=#[U,n+3,nF U q,o::X,bl "turn" (.val<| .ref o)<|bl "out" (bp out')<|nG a r k<|bp g,(o,.list ((gt a out').map .int))::[(r,.list ((m++[g]).map bp)),(225,.tab fH)]]) (H:=t) (aH:=λb=>oA<|(dg a b).map λh=>((out'.idxOf h:Nat):Int)) (h4:=gt a out') (bE:=[]) (b4:=[(r,.list ((m++[g]).map bp)),(225,.tab fH)]) (Po:=[(o,.list ((gt a out').map .int)),(r,.list ((m++[g]).map bp))]) (Pp:=[]) (dk:=fH) (lQ:=[("out",bp out'),("uses",.dict (cS bp a))]) V rfl (bo 0 V) (f D) (f D) V rfl (by rw[Fu];show vV _) (λSp St d=>by cases bX St;show(Fu U q).symm) V Sn V rfl rfl ?_ (λd d d d=>rfl) V (f D) c c V (by show b1) (λb p=>by have:=F b p;show#[bj [b] [.j (.O 0) A] 0 (.O 0) A D this.1,bj [b] [.aL A<| .O 8] 0 (.e A) (.O 1000) D this.2]) Sf ?_ c V #[_,V]) ?_
 .intro Su l;show ay (a5 l) (λw=>?_) λl=>?_
  .obtain rfl:=w;show#[by show bo 1 V,V,V,_,V,V]
  .cases bX l;show#[by show bo 2 V,V,V,_,V,V]
 .intro Sv Sn Sp Sq M P Sk Sl b p;show cd (s7 p) λSm d Sw=>?_;show cd (zV ((dg a b).map λh=>((out'.idxOf h:Nat):Int)) 0) λSx d d=>?_;have Sy:oA ((dg a b).map λh=>((out'.idxOf h:Nat):Int))∈(dg a b).map λh=>((out'.idxOf h:Nat):Int):=Px (by simpa using(λQ=>(s7 p).2.1<|So b Sm Q)) λSp Sn=>by show g0 Sn λh d=>?_;show f2 _
  obtain⟨p,Sn,So,body,Sp,Sq,St,SD,SE,SF,SG,SH,SI,SJ,SK⟩:=Sv;dsimp only at M P Sk Sl;subst M P Sk Sl;have p:out'.length<=100:=C;show R.list (W.cons (R.jH (ds:=[.list<|((dg a b).map λh=>((out'.idxOf h:Nat):Int)).map .int]) (B.eZ V rfl (by room) (f D) V rfl rfl (f D)) (W.cons ?_ W.nil V) (bO.max as.list Sy Sx) V c V) (W.cons (R.K 0 V) W.nil V) V)<|du D;show R.of_eq (R.iD (ds:=dg a b) (dE:=i.int) (cP:=λh=>[("u",.int h)]) [("out",bp out')] (λd=>z) (λh=>.int ((out'.idxOf h:Nat):Int)) V (f D) V (f D) (r:=bp<|dg a b) (R.item (L:=.int b) (R.K 2 V) (R.K 0 V)<|b7.dict as.dict<|qY a b Sm) (cA.list (.inl<|dN _ _ V) as.list) (by unfold aD;show dG (Ft v b:(dg a b).length<=10) D) (λSg d=>.name _ _ _) (hg V) (gv (bo 1 V) V (.inr V) (.inr V) f7) (λd d d d=>rfl)
   (λSh Si h G d=>R.jg (ds:=[.int h]) (R.K 1 V) (fB.list as.list BX LY) (W.cons (R.K 0 V) W.nil V) (bO.BW (he:=out') as.list (Sw h G)<|dL [.j y<| .O 100] 0 (.e y) (.O<|2^62) D C) V c V) (λd=>rfl) (λd d d d=>c)) (by rw[jh];mspec d9;rfl)
 .intro Sj I;show g2 I λSz l SA K=>?_;have SB:(gt a out').Pairwise (λb x=>gR a out' b≠gR a out' x):=by
   show List.Pairwise.imp_of_mem ?_ Sf;intro b x h S p Q;have M:=F b h;have P:=F x S;unfold gR at Q;lia
  obtain rfl:Sz=mE (gR a out') (gt a out'):=zU (r:=gR a out') (l.trans (rh _ _).symm) SA<|zT SB;have b:=u.BS (Y:=#[U,n+3,nF U q,o::X,bl "turn" (.val<| .ref o)<|bl "out" (bp out')<|nG a r k<|bp g,(o,.list ((mE (gR a out')<|gt a out').map .int))::[(r,.list ((m++[g]).map bp)),(225,.tab fH)]]) (eI:=nG a r out'<|bp<|mE (gR a out')<|gt a out') K Sr Ss (λB Sj r d h=>r.toList h)<|λSu l=>?_
  .show eQ #[U,n+3,nF U q,X,nG a r out'<|bp<|mE (gR a out')<|gt a out',[(r,.list ((m++[g]).map bp)),(225,.tab fH)]] t V rfl rfl rfl rfl b (N.nil λh' d=>#[X,λx S=>S,d])
  .show ay (a5 l) (λw=>?_) λl=>?_
   .obtain rfl:=w;show .inl<|bo 2 V
   .rcases a5 l with rfl|l
    .show .inl<|bo 3 V
    .show ay (a5 l) (λw=>?_) λl=>?_
     .obtain rfl:=w;show .inl<|bo 1 V
     .cases bX l;show .inr #[V,by show bo 0 V]
def PA (a:Nat)(b:b5)(c:s):pG a b c []=[]:=by cases a<;>rfl
inductive Fv (a9:b5)(r:T)(am:Nat)(Γ:bg)(own:aE):Prop
 |mk (a b:s) (c:List s) (d:aN Γ (nG a9 r a<|bp b)) (e:own=[(r,.list (c.map bp)),(225,.tab fH)]) (f:c++pG am a9 a b=j2 a9) (g:(a++b).Nodup) (h:∀ae∈a++b,ae∈dj a9) (i:∀ae∈dj a9,dg a9 ae=[]->ae∈a++b) (j:a9.length<a.length+am) (k:c.length<=a.length):Fv a9 r am Γ own
def PB (Sk:aR U)(Sl:di U.B 227 225)(n:Nat)(x:T)(X:aZ)(A:aP)(b:b5)(q:iM b):
 N A #[U,n+3,nF U x,X,[("uses",.dict (cS bp b))],[(225,.tab fH)]] (cf 228<|a U) (et U A [(225,.tab fH)] λSm I=>Sm=[(225,.tab fH)]/\I=.list ((j2 b).map bp)):=by
 have K:=q.len;mexact N.seq<|E.Fo (aU.wd<|e3.step (aU.m4 λr Sm Sn Ss=>e3.of (ds:=[bp [],bp<|pH b]) (W.cons (R.list W.nil<|du D) (W.cons ?_ W.nil V) V) λSm=>#[du D,.mk λSs M Sm=>.mk (Sm.eh (Γ:=nG b r []<|bp<|pH b)<|aN.cI [3,2,1,0] rfl) ?_]) V) (.inl V) (.inr #[V,D]) (.inl V) V rfl
 .show R.iD (ds:=dj b) (dE:=i.int) (cP:=λd=>[("x",.int d)]) [("uses",.dict (cS bp b))] (λd=>decide (dg b d=[])) (λd=>.int d) V (f D) V (f D) (r:=.dict<|cS bp b) (R.K 0 V) ?_ (by simp only[dj,a7];unfold aD;show b1) (λI k=>.name _ _ _) (hg V) (gv (bo 0 V) V (.inl V) (.inl V) f7)
   (λI Z d g=>a1.bL (R.item (L:=.int d) (R.K 1 V) (R.K 0 V)<|b7.dict as.dict<|qY b d g) (R.list W.nil<|du D) (ax.B1 (iI:=[]) as.list as.list) c) (λI Z d g k=>by show R.K 0 V) (λk=>rfl) (λk k k k=>c)
  mspec(by simp[dj,cS]:(dj b).map i.int=(cS bp b).map λP=>.int P.1);show cA.dict as.dict
 mexact N.u7 (λΓ own=>aN Γ [("rounds",.val (.ref r))]/\own=[(r,.list ((j2 b).map bp)),(225,.tab fH)]) (E.u6 (ce:=Fv b r) (b.length+1)
  #[[],pH b,[],aN.bf _,V,V,q.bA.sublist lS,λd g=>(e9.mp g).1,λd g l=>e9.mpr #[g,decide_eq_true l],by simp,cg _] ?_) ?_
 .rintro B s Γ own F ⟨m,h,G,o,rfl,u,Q,H,Sf,Sg,Sh⟩;have v:(m++h).length<=b.length:=by
   simpa[dj]using(lR (dj b) _ Q H)
  rw[dF]at v;show#[decide (h≠[]),a1.bL (R.name (o _<|bo 3 V) (f D)<|f D) (R.list W.nil<|du D) (ax.r1 (he:=h) (iI:=[]) as.list as.list) c,λp=>?_,λp=>?_]
  .have Si:=f p;have Sj:=jm.mpr Si;cases B with
   |zero=>show absurd Sg<|g7.mpr<|a6 (oU _ _) v
   |succ B=>
   mexact N.dW (Y:=#[U,n+3,nF U x,s,Γ,[(r,.list (G.map bp)),(225,.tab fH)]]) o ?_;mexact N.dQ (Pz Sk Sl n x s A b q r m h G H (by mspec dF;show dG (a6 v K) D) (c7 [.j C<| .O 8,.j y t,.j (.S t aV) C] 0 y (.O 100) D K Sh v) Sf<|λk k=>False) λSo M w=>?_;cases So with
   |next=>
    obtain⟨Sp,Sq,Sr⟩:=w;rw[Fq,if_neg Si]at u;have k:=rh (gR b<|m++h)<|gt b<|m++h;show#[Sp,_,_,λv p=>Sq v<|F v p,#[B,fy _,m++h,_,G++[h],aN.bf _,V,by rw[hX];show u,?_,?_,λd g l=>bJ<|Sf d g l,by mspec dF;show c7 [.aL (.O 0) t,.aL y<| .S C<| .e aV] 0 (.e y) (.S (.S C t) aV) D Sj Sg,by mspec dF;mspec dF;mspec gw;show bd [.j y C,.aL (.O 0) t] 0 (.e y) (.S C t) D Sh Sj],Sr]
    .show gz.mpr<|cH Q (k.nodup_iff.mpr<|q.bA.sublist lS)<|λd g v m=>?_;intro q;show(s7<|k.mem_iff.mp m).2.1<|q▸g
    .intro d g;show cL g (λg=>?_) λg=>?_
     .show H d g
     .show(s7<|k.mem_iff.mp g).1
   |brk=>show w.elim|cont=>show w.elim|ret d=>show w.elim
  .have l:h=[]:=LZ.mp<|of_decide_eq_false p;rw[l,PA,fk]at u;show N.nil λh' d=>#[s,Γ,_,F,#[aN.cons (o _<|bo 1 V) aN.nil,by show aJ u V],d]
 .intro s Γ own F g;show kK g λo=>?_;mexact N.E1 (ac:=r) (bF:=(j2 b).map bp) (bi:=[(225,.tab fH)]) (o _<|bo 0 V) ap Sn (E0 _ _) (λM d b=>?_) (λP g=>c9 g) #[V,V] (f D)<|f D;have g:r=225:=by simpa[aI]using b
  show(gq.mp d.dt).1 _ (vV _) g
def PC (c:aR U)(h:di U.B 227 225){a:be}{d:aP}{n:Nat}{keep:aE}(i:a.d=U)(j:a.O=n+4)(b:b5)(k:iM b)(l:a.G.Perm ([(225,.tab fH)]++keep)):
 dY a d (.ref 228) [.dict<|cS bp b] (λe f g=>f=[(225,.tab fH)]++keep/\g=.list ((j2 b).map bp)):=by
 subst i;show(zY c).mr (n:=n+3) (ai:=[(225,.tab fH)]) (keep:=keep) j V l (λi e h0=>PB c h n i e #[h0,a.X,ah,d.bZ] b k) λf g j=>ao j λa b=>#[by show aJ a V,b]
end
section
variable {Y:be}{H:aP}
def i2.of (b:a1 Y k al):i2 Y H k (λa c d=>a=Y.X/\c=Y.G/\d=al):=.mk λc d e f g a h=>
 b.go c d e f g.todA a.tocV λh' j i=>h al _ Y.X Y.G .up (cH V rfl rfl) (λc b=>b)<|a.keep i
structure ho (Y:be)(H:aP)(h4:h6)(ce:aE->Prop):Prop where
 go:∀(aK:cW)(aa:aS)(bM:Bool->aS->Prop)(bv:bY),je aK Y.O Y.I H.cR->u H Y aa.heap->
  (∀bS a bi,cs aa bS H.bZ->ce bi->(∀ac∈Y.X,ac∈a)->u H #[Y.d,Y.O,Y.I,a,Y.q,bi] bS.heap->bM aj bS)->au Y.d.M aK (allTrue .Or h4 Y.I) bM bv aa
def ho.nil:ho Y H [] (λown=>own=Y.G):=.mk λd a e f g b c=>HI<|c a Y.X Y.G (cs.bf a) V (λe d=>d) b
def ho.cons (i:i2 Y H k m)(r:∀a b c,m a b c->(∀d∈Y.X,d∈a)->c=aj/\ho #[Y.d,Y.O,Y.I,a,Y.q,b] H n o):ho Y H (k::n) o:=.mk λe j k f g l m=>
 Bg (i.go e j _ f g l λc n a b o p h q=>by
  show ci (r a b c p h) λi=>?_;mspec if_neg (by decide);show i.go e n k f g q λa b c j l p s=>m a b c (o.trans j) l (λd e=>p d<|h d e) s)
def ho.Fw {ce:aE->Prop}(d:ho Y H k ce):i2 Y H (.BoolOp .Or k pos) (λb a e=>e=aj/\ce a):=.mk λe f k g h i j=>
 Bf (d.go e f _ g h i λk b a l m n o=>j aj k b a l #[c,m] n o)
def aU.Fx (n:aU Y H w x)(p:∀a b c,x a b c->(∀q∈Y.X,q∈a)->∃d e,R #[Y.d,Y.O,Y.I,a,Y.q,b] r d/\ax #[Y.d,Y.O,Y.I,a,Y.q,b] k c d e/\B a b (.bool e))(s:rF k r=aj):aU Y H (.Compare w [k] [r] pos) B:=.mk λf k w g h q t=>
 wpAny_Compare1 (n.go f k _ g h q λu j v o=>by
  cases o with|mk a b c y m i A=>
  show f3 (p a b c y m) λd e k n q=>?_;show k.go f j _ g h.todA i.tocV λd e p c w=>n.go f {j with heap:=e,toks:=p} _ g u d h.todA (i.keep c).tocV (A.keep<|l.keep _ c) w λh' f e=>t _ _ v.gH #[a,b,_,q,m,(i.keep c).keep e,.bool _]) s
def Fy
 (d:au k m (eval o env) (λa c=>a=.bool z/\au k m (boolOp pos .And<|evalEach (r::w) env) x n c) n B):au k m (boolOp pos .And<|evalEach (o::r::w) env) x n B:=by
 show au k m (do
  let a <-eval o env
  es pos
  let b <-e7 [a] (truthy a)
  match BoolOp.And,b with
  | .And,aj| .Or,z=>pure a
  |_,_=>boolOp pos .And<|evalEach (r::w) env) x n B
 show ar<|dr d (λa c b=>?_) λa a H=>H;show ci b λb=>?_;show ar<|jK<|ar<|g5<|ma b
def aU.PD {g:lG}(l:aU Y H m λh i a=>a=.bool z/\aU #[Y.d,Y.O,Y.I,h,Y.q,i] H n λj k a=>a=.bool z/\aU #[Y.d,Y.O,Y.I,j,Y.q,k] H r g):aU Y H (.BoolOp .And [m,n,r] pos) g:=.mk λc g p d e m q=>by
 show Fy<|l.go c g _ d e m λf s t o=>?_;cases o with|mk h i a b u v w=>
 obtain⟨rfl,x⟩:=b;show#[w.is,Fy<|x.go c s _ d e v λf y A o=>?_];cases o with|mk j k a b B C D=>
 obtain⟨rfl,E⟩:=b;show#[D.is,E.go c y p d e C λf F G o=>?_];cases o with|mk I K a b L M N=>
 show q f F ((t.trans A).trans G) #[I,K,a,b,λc d=>L c<|B c<|u c d,M,N]
end
def pI {a:k}{b:m}{c:k->m->o->Prop}(g:c a b n):∀d e f,(d=a/\e=b/\f=n)->c d e f:=by
 intro _ _ _ a;show tI a ?_;show g
section
variable {Y:be}{H:aP}
def ax.Fz:ax Y .IsNot (.bool k) (.bool m) (k !=m):=.mk λe a f g h i j l b c d=>by
 obtain rfl:=b.is;obtain rfl:=c.is;cases k<;>cases m<;>show bc<|d a.heap a.toks<|Q.bf _
def ax.PE:ax Y .Is (.bool k) (.bool m) (k==m):=.mk λe a f g h i j l b c d=>by
 obtain rfl:=b.is;obtain rfl:=c.is;cases k<;>cases m<;>show bc<|d a.heap a.toks<|Q.bf _
def ax.nH (b:iS Y k ak)(c:iS Y m ak)(a:jG ak=z)(d:me ak ak=z):ax Y .NotEq k m aj:=by
 have e:=ax.Bp b c a a d;rwa[show same ak ak=z from same_refl ak]at e
def ax.PF (b:iS Y m k)(c:iS Y n k)(a:jG k=z)(d:me k k=z):ax Y .Eq m n z:=by
 have e:=ax.Bo b c a a d;rwa[show same k k=z from same_refl k]at e
def aU.PG (e:aU Y H k m)(f:∀a b c,m a b c->∃d,b.Perm d/\n a d c):aU Y H k n:=.mk λg h i j k l m=>
 e.go g h i j k l λn o p #[a,b,c,q,s,t,r]=>by
  show aY (f a b c q) λd e g=>?_;show m n o p #[a,d,c,g,s,u.lO (Y:=#[Y.d,Y.O,Y.I,a,Y.q,b]) t e,r]
def aU.same (f:aU Y H k (λa b d=>b.Perm Y.G/\d=r)):aU Y H k (iJ Y r):=.mk λg h i j k c m=>
 f.go g h i j k c λn o p #[a,b,d,#[q,hd],e,s,t]=>by
  subst hd;have g:=u.n5 (Y:=#[Y.d,Y.O,Y.I,a,Y.q,Y.G]) (X:=Y.X) (u.lO (Y:=#[Y.d,Y.O,Y.I,a,Y.q,b]) s q) e (λf d=>c.hC f d) c.sub;show m n o p #[Y.X,Y.G,_,(cH V rfl rfl),λf d=>d,g,t.keep<|l.sub e]
def aU.PH (f:∃b o,@m5 Nat _ i8 b/\Y.d.B.get? b=J o)(h:∀a,a∉Y.X->a∉H.cB->k (a::Y.X) ((a,.dict [])::Y.G) (.val<| .ref a)):aU Y H (.Dict [] [] m) k:=.mk λd b j k l e i=>
 BQ (by
  have d:=e.iF d3;show i _ _ .up #[_,_,_,h b.heap.objs.size d.2.1 d.2.2.2,λa j=>g j,(e.gI d3 #[_,dM b.heap (o:={cls:=.type "dict",data:=.dict (aRR [])}) c]<|Q.push _ _).ig (af:=.dict []) ap (.dict (Cu f e.tocV) (BR _) V .nil) d.2.2.1 (show b.heap.objs.size∉d5 #[Y.d,Y.O,Y.I,b.heap.objs.size::Y.X,Y.q,Y.G]from d.1),.val _])
inductive FA (aM:i->i->Prop):i->Prop
 |mk {ac al:i} (an:aM ac al):FA aM (.bR [ac,al])
def E.FB {b c:v}{d:c6}(q:aU Y H d λe h i=>FA (λf g=>(∀f∈Y.X,f∈e)->∀a,u H #[Y.d,Y.O,Y.I,e,bl c g<|bl b f Y.q,h] a->w .next a) i)(s:fM Y.I b)(t:fM Y.I c)
 (x:yd [od [.Name b k,.Name c m] n r] d pos.line Y.I=pure aj) (y:uI [od [.Name b k,.Name c m] n r] d Y.I=pure ah):
 E Y H (.Assign [od [.Name b k,.Name c m] n r] d pos) w:=.mk λb c d j k=>by
 show Assign_Tuple (q.go b c _ d j k λm p A #[e,h,i,hd,B,C,D]=>?_) x y;cases hd with|@mk f g F=>
 show cm D.is λc d b=>?_;show eP b λG I=>?_;obtain⟨b,c,rfl,K,L⟩:=I.eV;show Pu j.handled (G.keeps l.of) V rfl λh' d=>?_;have b:Q h' p.heap:=λg o c=>d g o (g6<|gk c) c;show u.Cm (aa:={p with heap:=h'}) (Y:=#[Y.d,Y.O,Y.I,e,Y.q,h]) (C.keep b) s t (K.keep<|l.keep _ b) (L.keep<|l.keep _ b) (λc c a=>iz a) (λc c a=>iz a) λc d b=>#[A.gH,F B _ b]
end
noncomputable def lj (ae:Int):h:=((hU[ae.toNat]?).map (·.2)).getD []
def wf {b:Int}(h0:0<=b)(d:b<8):∃a:Nat,b=a/\a<8/\(hU.map λc=>item c.1 c.2)[a]?=J (.list [.str<|a4 b,.list<|(lj b).map .str]):=by
 obtain⟨a,rfl⟩:=py h0;have b:a<8:=by show el.mp ‹_›
 show fo a V b ?_;show(show ∀a:Nat,a<8->(hU.map λc=>item c.1 c.2)[a]?=J (.list [.str<|a4 a,.list<|(lj a).map .str])from tH V rfl rfl rfl rfl rfl rfl rfl) a b
def wg (h0:0<=k)(b:k<8):(lj k).length=3:=by
 obtain⟨a,rfl⟩:=py h0;have c:a<8:=(el.mp b);show(show ∀a:Nat,a<8->(lj a).length=3 from tH V rfl rfl rfl rfl rfl rfl rfl) a c
noncomputable abbrev e4 (eF:List (Int×v)):List (Int×i):=eF.map λak=>(ak.1,.str ak.2)
noncomputable def eN (eF:List (Int×v))(ak:Int×Int):v:=(eF.lookup ak.1).getD<|(lj ak.1).getD ak.2.toNat ""
noncomputable def iq (a:List bG)(ae:Int):bG:=(a[(ae - 3).toNat]?).getD []
noncomputable def kz (a:List bG)(eF:List (Int×v))(ae:Int):v:=dD ""<|(iq a ae).tail.map<|eN eF
def zZ (a:List (Int×v))(b:Int):(e4 a).lookup b=(a.lookup b).map .str:=by
 induction a with
 |nil=>rfl|cons c a d=>
  show(?_:tO b ((c.1,i.str c.2)::e4 a)=_);obtain⟨e,a⟩:=c;mspec fz;mspec fz;cases b==e<;>first|rfl|show d
def PI (a:List (Int×v))(b:Int)(c:v)(e:b∉a.map (·.1)):ie (e4 a) b (.str c)=e4 (a++[(b,c)]):=by
 unfold ie;rw[if_neg]
 .simp
 .intro d;rw[ko]at d;show aY d λa g h=>?_;obtain⟨a,i,rfl⟩:=ck g;show e<|f h▸dI i
section
variable {U:aW}
noncomputable abbrev ee (U:aW)(ca:T):b3:=bV (bk 257<|a U) ca 257
noncomputable abbrev mF (U:aW):List cC:=lC (cf 257<|a U) 1
noncomputable abbrev s8 (U:aW):List cC:=lC (mF U) 2
noncomputable abbrev eG (ae:T)(a9:b5)(a:List bG)(bu:T):bg:=[("sorter",.val (.ref ae)),("rules",.list (a.map eo)),("uses",.dict (cS bp a9)),("items",fj),("grown",.val (.ref bu))]
def PJ (Sm:aR U)(n:Nat)(x:T)(X:aZ)(y:aP)(B:T)(C:b5)(b:List bG)(h:T)(f:List (Int×v))(a:Int)(Γ:bg)(o F:aE)(G:3<=a/\a<3+b.length)(P:b.length<=10)(Q:(iq b a).length<=10)(Y:∀d∈iq b a,(0<=d.1/\d.1<8)/\0<=d.2/\d.2.toNat<(lj d.1).length)(Sf:a∉f.map (·.1))(Sn:f.length<=10)
 (So:(((iq b a).tail.map<|eN f).map (·.length)).sum<=100000) (Sg:db):
 E #[U,n,ee U x,X,("x",.int a)::(eG B C b h++Γ),o++(h,.dict (e4 f))::F] y (hT (s8 U) 0)
  (c2 (u y #[U,n,ee U x,X,("x",.int a)::(eG B C b h++Γ),o++(h,.dict (e4<|f++[(a,kz b f a)]))::F]) Sg):=by
 have H:∀{x:aE},(h,i.dict (e4 f))∈o++(h,.dict (e4 f))::x:=bB ap;obtain⟨k,q⟩:∃k:Nat,a - 3=k:=#[(a - 3).toNat,by show gr (bj [a,↑(a - 3).toNat] [.j (.c8 A<| .O 3) aC] 0 (.c8 A<| .O 3) aC D (kl (a - 3):))<|bj [↑(a - 3).toNat,a] [.j A<| .c8 aC<| .O 3] 0 A (.c8 aC<| .O 3) D (c4 (gx<|bj [a] [.j (.O 3) A] 0 (.O 0) (.c8 A<| .O 3) D G.1):)];have o:k<b.length:=dH.mp<|bj [↑k,↑b.length,a] [.aL d7<| .S (.O 3) aC,.j A<| .c8 d7<| .O 3] 0 (.e A) aC D G.2 (c4 (q).symm:);have x:(b.map eo)[k]?=J (eo<|iq b a):=by
  unfold iq;mspec q;rw[vz];mspec e8;mspec gm o;rfl
 show ch (PI f a _ Sf) ?_;show E.xS (af:=.str<|kz b f a) (R.jg (ds:=[.list<|((iq b a).tail.map<|eN f).map .str]) R.cy (fB.str so sp) (W.cons ?_ W.nil V) (bO.rZ as.list ?_) V c V) (R.K 0 V) (bo 5 V) (by decide) (by decide) V (by rw[a7];unfold aD;show b1) V
 .show R.of_eq (R.iD (ds:=(iq b a).tail) (dE:=iV) (cP:=λd=>[("y",.int d.1),("dress",.int d.2)]) [("grown",.val (.ref h)),("items",fj)] (λg=>z) (λd=>.str<|eN f d) V (by decide) V (by decide) (r:=.list<|(iq b a).tail.map iV) ?_ (cA.list (.inr #[_,_,_,V]) as.list) ?_ (λh g=>.n0<|by decide) (uv V rfl) (gv (bo 5 V) V (.inl V) (.inl V)<|gv (bo 4 V) V (.inl V) (.inl V) f7) (λg g g g=>rfl) (λB Z d y g=>?_) (λg=>rfl)<|λg g g g=>c) (by rw[jh];mspec d9;rfl)
  .show R.of_eq (R.jE (mU:=J 1) (ds:=(iq b a).map iV) (R.item (L:=.int k) (R.K 2 V) (R.of_eq (R.sub (R.K 0 V) R.bK)<|congrArg i.int q)<|b7.list as.list x<|dG (a6 o P) D) as.list R.bK V rfl (.int _) .none .none (by decide) (by rw[a7];unfold aD;show b1)) ?_;rw[kZ];mspec show fg (iq b a) (J 1) ah ah=(iq b a).drop 1 from r6 _ 1;show aJ PK V
  .mspec ra;unfold aD;show dG (a6 (fC (fL<|iq b a) 1) Q) D
  .show cd (Y d<|PL y) λa Sh hd=>?_;show ao a λh0 s=>?_;show R.kP (al:=((e4 f).lookup d.1).isSome) (a1.bL (R.K 0 V) (R.K 2 V) (ax.Br<|as.G H) c) (λl=>?_)<|λl=>?_
   .show p (xC.mp l) λh I=>?_;have K:=I;rw[zZ,gl]at K;obtain⟨Si,Sj,rfl⟩:=K;mspec(show eN f d=Si by unfold eN;show aJ Sj ?_;rfl);show R.item (L:=.int d.1) (R.K 2 V) (R.K 0 V)<|b7.dict (as.G H) I
   .have Sk:f.lookup d.1=ah:=by rw[zZ]at l;simpa using l
    show g2 (wf h0 s) λM N g Sl=>?_;show p (py Sh) λm t=>?_;have w:m<(lj d.1).length:=by rw[t]at hd;simpa using hd
    mspec(show eN f d=(lj d.1)[m] by unfold eN;show aJ Sk ?_;show aJ t ?_;simp[w]);show R.item (L:=.int m) (R.item (L:=.int 1) (R.item (L:=.int M) (R.K 3 V) (R.of_eq (R.K 0 V)<|congrArg i.int N)<|b7.list as.list Sl<|dH.mp<|bj [↑M,d.fst] [.aL aC<| .O 8,.j A aC] 0 (.e A) (.O 9223372036854775808) D s (c4 (N).symm:)) R.bK<|b7.list (cD:=1) as.list V<|by simp+arith) (R.of_eq (R.K 1 V)<|congrArg i.int t) (b7.list (cD:=m) as.list (by mspec e8;mspec gm w;rfl) (by have:=wg h0 s;show dG (a6 (w)<|aA this) D))
 .mspec(show((("":v)).length)=0 by decide);rw[yy];show b1
end
noncomputable def ll (a:List bG)(ae:Int):s:=(((a[(ae - 3).toNat]?).getD []).tail).map (·.1)
noncomputable def nI (a:List bG)(ae:Int):Bool:=decide (2<ae)&&decide (ae<3+(a.length:Int))
noncomputable def fQ (a:List bG):Nat->Int->Option s
 |0,_=>ah|n+1,ae=>if nI a ae then((ll a ae).mapM<|fQ a n).map FC else J [ae]
def ri {a:List bG}{n:Nat}{b:Int}:fQ a (n+1) b=if nI a b then((ll a b).mapM<|fQ a n).map FC else J [b]:=rfl
def PM (b:List bG)(h:∀r∈b,r.length<=10):∀n c f,fQ b n c=J f->f.length<=10^n:=λn=>by
 induction n with
 |zero=>show λc f a=>nomatch a|succ n i=>
  intro c f a;rw[ri]at a;split at a
  .cases hm:(ll b c).mapM (fQ b n)with
   |none=>replace a:=hm▸a;cases a
   |some e=>
    replace a:=hm▸a;cases a;have k:∀(d:s)(e:List s),d.mapM (fQ b n)=J e->e.flatten.length<=d.length*10^n:=by
     intro d
     induction d with
     |nil=>intro e a;simp at a;subst a;simp|cons g d l=>
      intro e a;rw[wa]at a;cases ha:fQ b n g with
      |none=>replace a:=ha▸a;cases a
      |some m=>
       cases hb:d.mapM (fQ b n)with
       |none=>replace a:=ha▸a;replace a:=hb▸a;cases a
       |some o=>
        replace a:=ha▸a;replace a:=hb▸a;cases a;have d:=l o hb;mspec FD;mspec dF;mspec eC;rw[sB];show c7 [.j y aV,.j C t] 0 (.S y C) (.S t aV) D (i g m ha) d
    have p:(ll b c).length<=10:=by
     unfold ll;rw[a7];mspec ra;cases hq:b[(c - 3).toNat]? with
     |none=>simp|some r=>have:=h r<|ib hq;simp;show b1
    rw[z0];show bd [.j y t,.j t<| .cT 10 C] 0 y (.w C 10) D (k _ _ hm) (show(ll b c).length*10^n<=10*10^n from wS _ p)
  .cases a;simp[Nat.one_le_pow]
def a1.PN (g:R k B M)(q:R k n o)(s:m=z->R k r Sf)(t:ax k w M o m)(u:m=z->ax k x o Sf Sg)(v:lastMarks [w,x] [n,r]=aj):a1 k (.Compare B [w,x] [n,r] pos) (m&&Sg):=.mk λa k f b c d h=>by
 show isTrue_chain (g.go a k _ b c d λn r w f o=>test_link<|q.go a _ _ b c (d.keep f) λi k r g j=>t.go a _ _ b n i c ((d.keep f).keep g) (o.keep<|l.keep _ g) j λy A p=>ma ?_) v;have e:=(f.trans g).trans p;cases m with
 |false=>show h y A e|true=>
  simp only[if_true];show test_last<|(s D).go a _ _ b c (d.keep e) λg m n f k=>(u D).go a _ _ b i g c ((d.keep e).keep f) (j.keep<|l.keep _<|p.trans f) k λm n o=>ma<|h m n<|(e.trans f).trans o
def PO {b:s}:∀{d:List s},b.mapM k=J d->d=b.map (λc=>(k c).getD [])/\∀c∈b,k c=J ((k c).getD []):=by
 induction b with
 |nil=>show λa=>#[(fS a).symm,nofun]|cons f b g=>
  intro d a;rw[wa]at a;cases ha:k f with
  |none=>replace a:=ha▸a;cases a
  |some d=>
   cases hb:b.mapM k with
   |none=>replace a:=ha▸a;replace a:=hb▸a;cases a
   |some b=>
    replace a:=ha▸a;replace a:=hb▸a;cases a;show ao (g hb) λa h=>?_;show#[by mspec a;mspec b8;mspec ha;rfl,λc e=>?_];show ay (a5 e) (λi=>?_) λe=>?_
    .obtain rfl:=i;mspec ha;rfl
    .show h c e
section
variable {U:aW}
def s9 (d:aR U):eB U 233 (bk 233<|a U) ["x","rules"] (cf 233<|a U):=
 d.fn V rfl D V rfl (qq λe f=>by room)
  (λd b=>by
   rcases a5 b with rfl|b
   .show .inl V
   .rcases a5 b with rfl|b
    .show .inr #[V,λd=>D]
    .cases b) (by decide) (show(["rules"]:h).Nodup by decide) c c V
def PP (m:aR U)(b:List bG)(u:∀r∈b,r.length<=10)(F:b.length<=10):∀(g:Nat),g<=6->∀(a:Int)(l:s),fQ b g a=J l->
 ∀{n:Nat}{env:b3}{X:aZ}{Γ:bg}{own:List (T×i)},bO #[U,n+g,env,X,Γ,own] (.ref 233) [.int a,.list<|b.map eo] (.list<|l.map .int):=λg=>by
 induction g with
 |zero=>show λk a l h=>nomatch h|succ g G=>
  intro v a l h n env X Γ own;show(s9 m).m7 V<|λQ Y Sf=>?_;have H:=PM b u (g+1) a l h;have I:(10:Nat)^(g+1)<=10^6:=PQ (by decide) v;mexact N.ret (R.kP (al:=decide (2<a)&&decide (a<3+(b.length:Int))) (a1.PN R.bK (R.K 0 V) (λk=>R.add R.bK<|R.of_eq (R.jH (ds:=[_]) (m.eZ V rfl (by room) (by decide) V rfl rfl (by decide)) (W.cons (R.K 1 V) W.nil V) (bO.len (ds:=b.map eo) as.list (by rw[a7];show gu)) V c V)<|by rw[a7]) ax.lt (λk=>ax.lt) c) (λp=>?_)<|λp=>?_)
  .rw[ri,if_pos (show nI b a=z from p)]at h;show ao (wP.mp p) λt v=>?_;have Q:=f t;have Q:=f v;have w:(a - 3).toNat<b.length:=dH.mp<|bj [↑(a - 3).toNat,↑b.length,a] [.aL d7<| .S (.O 3) aC,.j A<| .c8 d7<| .O 3] 0 (.e A) aC D (f v:) (c4 (gx<|bj [a] [.aL (.O 2) A] 0 (.O 0) (.c8 A<| .O 3) D (f t:)):);have q:b[(a - 3).toNat]?=J b[(a - 3).toNat]:=gm w;generalize v:b[(a - 3).toNat]=r at q;have v:=u r<|ib q;cases hm:(ll b a).mapM (fQ b g)with
   |none=>replace h:=hm▸h;cases h
   |some K=>
    replace h:=hm▸h;show ao (PO hm) λx y=>?_;have M:l=K.flatten:=by cases h;rfl
    have P:ll b a=(r.drop 1).map (·.1):=by unfold ll;mspec q;simp
    rw[P]at x y;have B:l.map i.int=(((r.drop 1).map λd=>((fQ b g d.1).getD []).map i.int)).flatten:=by
     mspec M;mspec x;mspec d9;mspec List.map_flatten;mspec d9;rfl
    show R.of_eq (R.I0 (ds:=r.drop 1) (x3:=iV) (cP:=λd=>[("y",.int d.1),("dress",.int d.2)]) (pR:=λd=>.list<|((fQ b g d.1).getD []).map .int) (dz:=λd=>(fQ b g d.1).getD []) (pb:=i.int) [("rules",.list (b.map eo))] (λC=>.int C) V (by decide) V (by decide) (x2:=.list<|(r.drop 1).map iV)
     ?_ (cA.list (.inr #[_,_,_,V]) as.list) ?_ (λl k=>.n0<|by decide) (uv V rfl) V (gv (bo 1 V) V (.inl V) (.inl V) f7) (λE Z d o=>?_) (λk k h=>by cases h) (λE Z d o=>cA.list (.inl<|dN _ _ V) as.list) (λE Z d C o k=>by show R.K 0 V) (λk=>rfl) (λk k=>rfl) (λk k k k=>c)) (by show aJ B V)
    .show R.of_eq (R.jE (ds:=r.map iV) (R.item (L:=.int<|a - 3) (af:=eo r) (R.K 1 V) (R.sub (R.K 0 V) R.bK) ?_) as.list R.bK V rfl (.int _) .none .none (by decide) (by rw[a7];unfold aD;show b1)) (by rw[kZ,Cc]);mspec(show a - 3=(((a - 3).toNat:Nat):Int) by show gr (bj [a,↑(a - 3).toNat] [.j (.c8 A<| .O 3) aC] 0 (.c8 A<| .O 3) aC D (kl (a - 3):))<|bj [↑(a - 3).toNat,a] [.j A<| .c8 aC<| .O 3] 0 A (.c8 aC<| .O 3) D (c4 (gx<|bj [a] [.aL (.O 2) A] 0 (.O 0) (.c8 A<| .O 3) D (f t:)):));show b7.list as.list (by mspec e8;mspec q;rfl)<|dG (a6 w F) D
    .show ch B ?_;rw[a7];unfold aD;show dG (a6 H I) D
    .show R.g4 (ds:=[.int d.1,.list<|b.map eo]) (m.eW V (by room) V rfl (by decide)) (s9 m).at_.choose_spec.1 (s9 m).at_.choose_spec.2 (W.cons (R.K 0 V) (W.cons (R.K 2 V) W.nil V) V) (G (by show iC ‹_›) d.1 _<|(show ∀d∈r.drop 1,fQ b g d.1=J ((fQ b g d.1).getD [])from λd o=>y d.1<|dI o) d o) V c V
  .rw[ri,if_neg (by mspec show nI b a=aj from p;decide)]at h;cases h;show R.list (W.cons (R.K 0 V) W.nil V)<|du D
end
noncomputable def fd (ag:s):List bT:=(gL ag).map λbx=>if bx=0 then ah else J (a4 bx)
section
variable {U:aW}
def PR (f:aR U)(n:Nat)(l:T)(X:aZ)(m:aP)(o:T)(p:b5)(g:List bG)(q:T)(h:Int)(b:s)(Γ:bg)(own:aE)(v:∀r∈g,r.length<=10)(w:g.length<=10)(x:fQ g 6 h=J b)(t:b.length<=1000)(y:∀a∈b,0<=a/\a<8)(B:db):
 E #[U,n+7,ee U l,X,("x",.int h)::(eG o p g q++Γ),own] m (hT (s8 U) 1)
  (c2 (u m #[U,n+7,ee U l,X,bl "parts" (.list<|(fd b).map<|c5 .none)<|("x",.int h)::(eG o p g q++Γ),own]) B):=by
 have C:(gL b).length<=b.length:=by
  unfold gL;rw[a7];show a6 (qf _ _) (by simp[en])
 have F:∀a∈gL b,0<=a/\a<8:=λa k=>by
  unfold gL at k;obtain⟨G,l,rfl⟩:=ck k;mspec ow;cases hq:b[G.toNat]? with
  |none=>show#[tG _,by decide]|some H=>show y H<|ib hq
 have l:(fd b).map (c5 .none)=((gL b).filter λd=>z).map λa=>c5 .none (if a=0 then ah else J (a4 a)):=by
  rw[jh];unfold fd;mspec d9;rfl
 mspec l;show E.xH (ds:=gL b) (dE:=i.int) (cP:=λa=>[("y",.int a)]) [("items",fj)] (λd=>z) (λa=>c5 .none (if a=0 then ah else J (a4 a))) (.inl V) V rfl (by decide) V (by decide) (r:=.list<|(gL b).map .int)
  (R.g4 (ds:=[.list<|b.map .int]) (f.eW V (by room) V rfl (by decide)) (sj f).at_.choose_spec.1 (sj f).at_.choose_spec.2 (W.cons (R.g4 (ds:=[.int h,.list<|g.map eo]) (f.eW V (by room) V rfl (by decide)) (s9 f).at_.choose_spec.1 (s9 f).at_.choose_spec.2 (W.cons (R.K 0 V) (W.cons (R.K 2 V) W.nil V) V) (PP f g v w 6 (by simp+arith) h b x (n:=n+1)) V c V) W.nil V) (CD f b t) V c V)
  (cA.list (.inl<|dN _ _ V) as.list) (by unfold aD;show dG (a6 C t) D) (λb d=>.name _ _ _) (hg V) (gv (bo 4 V) V (.inl V) (.inl V) f7) (λd d d d=>rfl) (λb Z a k d=>?_) (λd=>rfl) (λd d d d=>c)
 show ao (F a k) λh0 f=>?_;show R.kP (al:=(a==0)) (a1.bL (R.K 0 V) R.bK ax.eq c) (λb=>?_)<|λb=>?_
 .mspec if_pos (by simpa using b);show R.gF
 .mspec if_neg (by simpa using b);show g2 (wf h0 f) λb g d h=>?_;show R.item (L:=.int 0) (R.item (L:=.int b) (R.K 1 V) (R.of_eq (R.K 0 V)<|congrArg i.int g)<|b7.list as.list h<|dH.mp<|bj [↑b,a] [.aL aC<| .O 8,.j A aC] 0 (.e A) (.O 9223372036854775808) D f (c4 (g).symm:)) R.bK (b7.list (cD:=0) as.list V<|by simp+arith)
end
def i4 {c:Type}{a:List c->Prop}(nil:a [])(snoc:∀b d,a b->a (b++[d]))(b:List c):a b:=by
 have e:∀r:List c,a r.reverse:=λr=>by
  induction r with
  |nil=>show nil|cons d r f=>mspec List.reverse_cons;show snoc _ _ f
 have:=e b.reverse;rwa[List.reverse_reverse]at this
noncomputable def nJ (a:s)(ac:Int):s:=if ac=0/\a.getLast?=J 0 then a else a++[ac]
noncomputable def ef (ag:s):s:=ag.foldl nJ []
def pJ (a:s)(b:Int):ef (a++[b])=nJ (ef a) b:=by
 unfold ef;mspec iX;mspec hV;show aJ FE V
def z1 (a:s):(ef a).getLast?=a.getLast?:=by
 induction a using i4 with
 |nil=>rfl|snoc a b c=>
  rw[pJ];unfold nJ;split
  .next a=>mspec a.2;mspec rj;show aJ a.1 V
  .mspec rj;show aJ (rj) V
def PS (b:s)(a:Nat)(c:a<b.length):fg b (J<|(a:Int) - 1) (J (a:Int)) ah=if a=0 then[]else[b.getD (a - 1) 0]:=by
 rw[r4];simp only[uw];rw[ux];mspec qz<|iC c;by_cases h0:a=0
 .subst h0;simp
 .mspec if_neg h0;mspec(show((a:Int) - 1)=((a - 1:Nat):Int) by show gr (bj [↑a,↑(a - 1)] [.j A<| .e aC] 0 (.c8 A<| .O 1) aC D (dH.mpr (e0<|cg<|a - 1):))<|bj [↑(a - 1),↑a] [.aL A aC] 0 A (.c8 aC<| .O 1) D (dH.mpr (aA<|fa (n:=a) (m:=1)<|dL [.aL (.O 0) y] 0 (.O 1) y D<|sK h0):));rw[ux];mspec qz (by show bd [.aL t C,.j y t] 0 y C D c<|fC a 1);mspec(show a - (a - 1)=1 by grind);mspec rK (by omega:a - 1<b.length);mspec HV;mspec Cg;simp[ow,show a - 1<b.length by omega]
def z3 (b:s):gL b=((jc b.length).filter λa=>decide (b.getD a 0≠0)||(decide (a=0)||decide (b.getD (a - 1) 0≠0))).map λa=>b.getD a 0:=by
 unfold gL en;mspec(show(((b.length:Int) - 0).toNat)=b.length by simp+arith);mspec yR;mspec d9;have d:((λ(a:Int)=>b.getD a.toNat 0)∘λ(c:Nat)=>(0:Int)+(c:Int))=λa:Nat=>b.getD a 0:=by
  funext c;show(?_:b.getD ((0:Int)+(c:Int)).toNat 0=_);show aJ (show((0:Int)+(c:Int)).toNat=c by simp+arith) V
 mspec d;congr 1;show pn λa e=>?_;show(?_:(decide (b.getD ((0:Int)+(a:Int)).toNat 0≠0)||decide (fg b (J<|((0:Int)+(a:Int)) - 1) (J<|(0:Int)+(a:Int)) ah≠[0]))=_);mspec(show((0:Int)+(a:Int))=(a:Int) by simp+arith);mspec PS b a<|iW.mp e;rw[vz];congr 1;by_cases h0:a=0
 .simp[h0]
 .mspec if_neg h0;simp[h0]
def wh (a:s):gL a=ef a:=by
 induction a using i4 with
 |nil=>rfl|snoc a c h=>
  rw[pJ];show ch h ?_;rw[z3];mspec z3 a;mspec dF;mspec gw;mspec PT;rw[rQ];mspec eX;have l:((jc a.length).filter λb=>decide ((a++[c]).getD b 0≠0)||(decide (b=0)||decide ((a++[c]).getD (b - 1) 0≠0))).map (λb=>(a++[c]).getD b 0)=((jc a.length).filter λb=>decide (a.getD b 0≠0)||(decide (b=0)||decide (a.getD (b - 1) 0≠0))).map (λb=>a.getD b 0):=by
   have g:∀b,b<a.length->(a++[c]).getD b 0=a.getD b 0:=λb d=>by
    mspec ow;mspec ow;show aJ (sV d) V
   rw[pn (q:=λb=>decide (a.getD b 0≠0)||(decide (b=0)||decide (a.getD (b - 1) 0≠0))) λb d=>by
    have i:=iW.mp d;mspec g b i;show aJ (g (b - 1)<|by show bd [.aL t C,.j y t] 0 (.e y) C D i<|fC b 1) V]
   show hD λb d=>?_;show g b<|iW.mp (e9.mp d).1
  mspec l;rw[<-z3];mspec h;unfold nJ;rw[z1];have k:(a++[c]).getD a.length 0=c:=by simp[ow]
  have m:(decide (a.length=0)||decide ((a++[c]).getD (a.length - 1) 0≠0))=decide (a.getLast?≠J 0):=by
   cases a using i4 with
   |nil=>rfl|snoc a d _=>
    mspec rj;simp[ow,List.getElem?_append]
  have n:([a.length].filter λb=>decide ((a++[c]).getD b 0≠0)||(decide (b=0)||decide ((a++[c]).getD (b - 1) 0≠0)))=if c=0/\a.getLast?=J 0 then[]else[a.length]:=by
   mspec sM;mspec Nb;mspec m;mspec k;by_cases o:c=0<;>by_cases p:a.getLast?=J 0<;>simp[o,p]
  mspec n;by_cases f:c=0/\a.getLast?=J 0
  .mspec if_pos f;mspec if_pos f;simp
  .mspec if_neg f;mspec if_neg f;simp[k]
def z4 {a:s}(b:a≠[]):ef a≠[]:=λc=>by
 have:=z1 a;rw[c]at this;show b<|OF.mp this.symm
noncomputable def fI (ak:Int×Int):List ed:=if ak.1=0 then kA (ak.2.toNat+1) .q7 else match(eN [] ak).cps.toList with
 |[63]=>[.vO]|[46]=>[.vP]|ag=>[.brk (ag.drop 1).dropLast]
noncomputable def kB (bx:Int):bT:=if bx=0 then ah else J (a4 bx)
def ir (ak:Int×Int):Prop:=(0<=ak.1/\ak.1<8)/\0<=ak.2/\ak.2<3
def PU:∀(a:Fin 8)(b:Fin 3),(eN [] ((a.val:Int),(b.val:Int))=aB (cc<|fI ((a.val:Int),(b.val:Int)))/\(∀it∈fI ((a.val:Int),(b.val:Int)),it.ok=z)/\(eN [] ((a.val:Int),(b.val:Int))).length<=10/\(fI ((a.val:Int),(b.val:Int))).length<=3/\
 (fI ((a.val:Int),(b.val:Int))).map ed.g3=if a.val=0 then kA (b.val+1) ah else[J<|a4 a.val]):=by
 decide+kernel
def ta (a:v):("":v)++a=a:=by
 show(?_:(#[(aRR [])++a.cps]:v)=a);show aJ uH V
def rk (a:v):a++("":v)=a:=by
 show(?_:(#[a.cps++(aRR [])]:v)=a);show aJ Jv V
def tb (a b c:v):a++b++c=a++(b++c):=by
 show(?_:(#[(a.cps++b.cps)++c.cps]:v)=#[a.cps++(b.cps++c.cps)]);show aJ Array.append_assoc V
def wi:dD "" []="":=rfl
def mG (b:v)(a:h):dD "" (b::a)=b++dD "" a:=by
 unfold dD;rw[PV,PV];cases a with
 |nil=>show(rk b).symm|cons c a=>
  show b++""++v.join "" (c::a)=_;rw[rk]
def PW (a b:h):dD "" (a++b)=dD "" a++dD "" b:=by
 induction a with
 |nil=>rw[nv,wi,ta]|cons b a c=>rw[qN,mG,mG,c,tb]
def PX (a:List bQ):dD "" (a.map aB)=aB a.flatten:=by
 induction a with
 |nil=>rfl|cons c a b=>rw[b8,mG,b,pA,FD]
def PY (a:ir k):∃(b:Fin 8) (c:Fin 3),k=((b.val:Int),(c.val:Int)):=by
 obtain⟨⟨h0,d⟩,f,g⟩:=a;show dN #[k.1.toNat,by show dH.mp<|bj [↑k.fst.toNat,k.fst] [.aL aC<| .O 8,.j A aC] 0 (.e A) (.O 8) D d (c4 (gx<|bj [k.fst] [.j (.O 0) A] 0 (.O 0) A D h0):)] #[k.2.toNat,by show dH.mp<|bj [↑k.snd.toNat,k.snd] [.aL aC<| .O 3,.j A aC] 0 (.e A) (.O 3) D g (c4 (gx<|bj [k.snd] [.j (.O 0) A] 0 (.O 0) A D f):)] ?_;show Prod.ext ?_ ?_<;>simp<;>lia
structure FF (ak:Int×Int):Prop where
 z5:eN [] ak=aB (cc<|fI ak)
 ok:∀it∈fI ak,it.ok=z
 len:(eN [] ak).length<=10
 fP:(fI ak).length<=3
 g3:∃n,(fI ak).map ed.g3=if ak.1=0 then kA (n+1) ah else[J<|a4 ak.1]
def mH (c:ir k):FF k:=by
 show cm (PY c) λb a d=>?_;show bw d ?_;show oR (PU b a) λc d e f g=>?_;show#[c,d,e,f,a.val,?_];mspec g;by_cases a:b.val=0
 .mspec if_pos a;show aJ (if_pos<|by simpa using a) V
 .mspec if_neg a;show aJ (if_neg<|by simpa using a) V
def PZ (b:List bT)(a:bT):(h2 b a).getLast?=J a:=by
 cases a with
 |none=>
  unfold h2;dsimp only;split
  .next a=>show a
  .show aJ (rj) V
 |some a=>show rj
def P0 (n:Nat)(a:List bT):(kA (n+1) (ah:bT)).foldl h2 a=h2 a ah:=by
 have b:∀(n:Nat)(a:List bT),a.getLast?=J ah->(kA n (ah:bT)).foldl h2 a=a:=by
  intro n
  induction n with
  |zero=>intro a _;rfl|succ n c=>
   intro a b;mspec z6;mspec hV;have d:h2 a ah=a:=by unfold h2;show aJ (if_pos b) V
   mspec d;show aJ (c a b) V
 mspec z6;mspec hV;show b n _<|PZ a ah
def wj:kB k=ah↔k=0:=by
 unfold kB;by_cases a:k=0<;>simp[a]
def FG (a:List (Int×Int))(d:∀b∈a,ir b):dw (a.flatMap fI)=(ef (a.map (·.1))).map kB:=by
 induction a using i4 with
 |nil=>rfl|snoc a b f=>
  have g:=d b (by simp);have h:∀c∈a,ir c:=λc i=>d c (by simp[i]);have j:dw ((a++[b]).flatMap fI)=((fI b).map ed.g3).foldl h2 (dw<|a.flatMap fI):=by
   unfold dw;mspec vW;mspec iX;mspec List.foldl_map;simp
  mspec j;mspec f h;mspec eX;mspec b8;mspec m9;rw[pJ];show p (mH g).g3 λn c=>?_;mspec c;have e:((ef (a.map (·.1))).map kB).getLast?=J ah↔(ef (a.map (·.1))).getLast?=J 0:=by
   mspec sm;cases(ef (a.map (·.1))).getLast? with
   |none=>simp|some c=>simp[wj]
  unfold nJ;by_cases c:b.1=0
  .mspec if_pos c;rw[P0];unfold h2;dsimp only;by_cases d:(ef (a.map (·.1))).getLast?=J 0
   .mspec if_pos<|e.mpr d;show aJ (if_pos #[c,d]) V
   .mspec if_neg<|λa=>d<|e.mp a;mspec if_neg<|λa=>d a.2;mspec eX;mspec b8;mspec m9;show aJ (wj.mpr c) V
  .mspec if_neg c;mspec if_neg<|λa=>c a.1;show(?_:_++[J<|a4 b.1]=_);mspec eX;mspec b8;mspec m9;unfold kB;show aJ (if_neg c) V
def rl (a:s):fd a=(ef a).map kB:=by unfold fd kB;rw[wh]
def tc {c f:Type}(d:c->List f)(a:List c)(n:Nat)(e:∀b∈a,(d b).length<=n):(a.flatMap d).length<=a.length*n:=by
 induction a with
 |nil=>simp|cons b a h=>
  mspec td;mspec dF;mspec eC;rw[sB];have:=e b ap;have:=h λa b=>e a<|g b;lia
def FH (b:List ed):∀a:Int×Int,FF a->b=fI a->(cc b).length<=10:=λa c d=>by
 subst d;have:=c.len;rw[c.z5]at this;show this
def P1 (a:List (Int×Int))(c:∀b∈a,ir b):dD "" (a.map<|eN [])=aB (cc<|a.flatMap fI):=by
 have d:a.map (eN [])=(a.map λb=>cc<|fI b).map aB:=by
  mspec d9;show hD λb a=>(mH<|c b a).z5
 mspec d;rw[PX];congr 1;unfold cc;mspec FI;rfl
noncomputable def gS:v->List bT->h
 |ae,[]=>[ae]|ae,J aa::ag=>gS (ae++aa) ag|ae,ah::ag=>ae::gS "" ag
def P2 (c:List bT):∀(a:h)(b:v),c.foldl hH (a++[b])=a++gS b c:=by
 induction c with
 |nil=>intro a b;rfl|cons f c d=>
  intro a b;mspec hV;cases f with
  |none=>
   show c.foldl hH ((a++[b])++[("":v)])=_;rw[d,hX];rfl
  |some e=>
   have g:hH (a++[b]) (J e)=a++[b++e]:=by
    unfold hH hG;simp
   mspec g;rw[d];rfl
def P3 (a:List bT):km a=gS "" a:=P2 a [] ""
noncomputable def P4:List bT->h
 |none::ag=>gS "" ag|_=>[]
def te (a:List bT):∀b,gS b a=(b++dD "" (cX a))::P4 (gy a):=by
 induction a with
 |nil=>intro b;show congrArg (λc=>[c]) (rk b).symm|cons d a e=>
  intro b;cases d with
  |none=>
   rw[uU,uV];show b::gS "" a=_;mspec wi;rw[rk];rfl
  |some f=>
   rw[sr,yz,mG];show(?_:gS (b++f) a=_);rw[e,tb]
def FJ (a:List bT):gy a=[]\/∃r,gy a=ah::r/\r.length<a.length:=by
 induction a with
 |nil=>show .inl V|cons b a c=>
  cases b with
  |none=>show .inr (av a (uV a)<|by simp)
  |some a=>
   rw[yz];show ay c (λa=>?_) λb=>?_
   .show .inl a
   .show p b λr c=>?_;show ao c λa b=>?_;show .inr (av r a (by mspec eC;show b9 [.aL y C] 0 (.e y) (.e C) D b))
noncomputable def tf:h->v
 |[]=>""|r::ag=>if ag.isEmpty then ".*"++r else jl r++tf ag
def P5 (c:Nat):∀a:List bT,a.length<=c->dD "" (lJ (c+1)<|ah::a)=tf (gS "" a):=by
 induction c with
 |zero=>
  intro a d;cases a with
  |nil=>rfl|cons i a=>simp at d
 |succ c g=>
  intro a d;rw[sq];by_cases f:a=[]
  .subst f;rfl
  .mspec if_neg f;rw[te];show ay (FJ a) (λb=>?_) λc=>?_
   .mspec if_pos b;mspec b;show _=tf [("":v)++dD "" (cX a)];show _=(".*":v)++_;rw[ta,mG,mG];mspec wi;rw[rk]
   .show p c λr f=>?_;show ao f λb h=>?_;mspec if_neg (by show aJ b ?_;simp);mspec b;rw[ta];show _=tf (dD "" (cX a)::gS "" r);have a:=g r<|bd [.j t<| .e C,.aL y t] 0 y C D d h;rw[mG];mspec a;show cm (show ∃a b,gS "" r=a::b from(dN _ _<|te r "")) λa b c=>?_;mspec c;rfl
def P6 (a:h)(d:a≠[]):dD "" ((a.take<|a.length - 1).map jl)++(".*"++hG a)=tf a:=by
 induction a with
 |nil=>show absurd V d|cons c a e=>
  cases a with
  |nil=>show ta _|cons b a=>
   have f:=e (by simp);have g:hG (c::b::a)=hG (b::a):=by unfold hG;show aJ (z7) V
   mspec(show(c::b::a).take ((c::b::a).length - 1)=c::(b::a).take ((b::a).length - 1)from by simp);mspec g;mspec b8;rw[mG,tb];mspec f;rfl
def FK (a:List bT):f9 a=ni a:=by
 unfold f9 ni;rw[P3,te,ta];unfold jS sl;rw[PW];show ay (FJ a) (λb=>?_) λh=>?_
 .mspec b;have i:lJ a.length []=[]:=by cases a.length<;>rfl
  mspec i;dsimp only;mspec if_neg (by show ¬1<1;decide);show("(?s:":v)++(dD "" (cX a)++("":v))++")\\Z"=("(?s:":v)++dD "" (cX a)++("":v)++("":v)++")\\Z";simp only[rk]
 .show p h λr i=>?_;show ao i λb d=>?_;mspec b;obtain⟨c,f⟩:∃c,a.length=c+1:=#[a.length - 1,by show c1 ((e0<|cg<|a.length - 1))<|(aA<|fa (n:=a.length) (m:=1)<|b9 [.aL C y] 0 (.O 1) y D d)];mspec f;mspec P5 c r<|bd [.aL y t,.j t<| .e C] 0 y C D d<|aA f;have g:gS "" r≠[]:=by rw[te];simp
  dsimp only;have b:0<(gS "" r).length:=jm.mpr g;mspec if_pos (by show 1<(gS "" r).length+1;show qB ‹_›);show _=("(?s:":v)++dD "" (cX a)++dD "" ((((dD "" (cX a)::gS "" r).drop 1).take<|(dD "" (cX a)::gS "" r).length - 2).map jl)++(".*"++hG (dD "" (cX a)::gS "" r))++")\\Z";mspec JX;mspec qa;mspec eC;mspec(show(gS "" r).length+1 - 2=(gS "" r).length - 1 by simp+arith);have k:hG (dD "" (cX a)::gS "" r)=hG (gS "" r):=by
   obtain⟨a,b,l⟩:∃a b,gS "" r=a::b:=dN _ _<|te r "";unfold hG;mspec l;show aJ (z7) V
  mspec k;show ch (P6 _ g) ?_;simp only[tb]
theorem z8:∀(b:List bT)(a:bT),apart b=z->¬(b.getLast?=J ah/\a=ah)->apart (b++[a])=z
 |[],a,_,_=>by cases a<;>rfl
 |[e],a,_,c=>by
  cases e with
  |none=>
   cases a with
   |none=>show absurd #[V,V] c|some g=>rfl
  |some f=>cases a<;>rfl
 |none::ah::b,a,c,_=>by cases c
 |none::J f::b,a,c,d=>by
  show z8 (J f::b) a c (by replace d:=(z7)▸d;show d)
 |some f::e::b,a,c,d=>by
  show z8 (e::b) a c (by replace d:=(z7)▸d;show d)
def P7 (b:s):apart (fd b)=z:=by
 rw[rl]
 induction b using i4 with
 |nil=>rfl|snoc b d c=>
  rw[pJ];unfold nJ;split
  .show c
  .next d=>
   mspec eX;mspec b8;mspec m9;show z8 _ _ c λe=>ao e λa c=>d #[wj.mp c,?_];replace a:=(sm)▸a;cases hq:(ef b).getLast? with
   |none=>replace a:=hq▸a;cases a
   |some b=>
    replace a:=hq▸a;show congrArg J<|wj.mp<|fS a
def tg (a:fx k=z)(b:fx m=z):fx (k++m)=z:=by
 unfold fx at*;show(?_:(k.cps++m.cps).all _=z);mspec Array.all_append;mspec a;mspec b;rfl
def z9 (b:∀a∈k,fx a=z):fx (dD "" k)=z:=by
 induction k with
 |nil=>rw[wi];decide+kernel|cons c k d=>rw[mG];show tg (b c ap)<|d λa e=>b a<|g e
def pK (ag:List bT):Prop:=∀ak∈ag,∀aa,ak=J aa->fx aa=z
def Aa (c:pK k):∀b∈cX k,fx b=z:=by
 induction k with
 |nil=>intro b a;cases a
 |cons d k e=>
  cases d with
  |none=>intro b a;rw[uU]at a;cases a
  |some d=>
   intro b a;rw[sr]at a;show ay (a5 a) (λf=>?_) λa=>?_
   .obtain rfl:=f;show c _ ap _ V
   .show e (λd f=>c d<|g f) b a
def FL (a:pK k):pK (gy k):=λb c=>a b<|List.dropWhile_sublist _ |>.subset c
def P8 (a:fx k=z):fx (jl k)=z:=tg (tg (by decide+kernel) a) (by decide+kernel)
theorem FM:∀(c:Nat)(d:List bT),pK d->∀b∈lJ c d,fx b=z
 |0,_,_,b,a=>by cases a
 |c+1,[],_,b,a=>by cases a
 |c+1,i::d,h,b,a=>by
  have e:pK d:=λd i=>h d<|g i;rw[sq]at a;split at a
  .mspec bX a;decide+kernel
  .split at a
   .show ay (a5 a) (λf=>?_) λa=>?_
    .obtain rfl:=f;decide+kernel
    .mspec bX a;show z9<|Aa e
   .show ay (a5 a) (λf=>?_) λa=>?_
    .obtain rfl:=f;show P8<|z9<|Aa e
    .show FM c _ (FL e) b a
def P9 (b:pK k):fx (f9 k)=z:=by
 show tg (tg (by decide+kernel)<|z9 λc a=>?_) (by decide+kernel);unfold jS at a;show cL a (λa=>?_) λa=>?_
 .show Aa b c a
 .show FM _ _ (FL b) c a
def Qa:∀a:Fin 8,fx (a4 a.val)=z/\(a4 a.val).length<=8:=by decide+kernel
def FN (h0:0<=k)(a:k<8):fx (a4 k)=z/\(a4 k).length<=8:=by
 have:=Qa #[k.toNat,by show dH.mp<|bj [↑k.toNat,k] [.aL aC<| .O 8,.j A aC] 0 (.e A) (.O 8) D a (c4 (gx<|bj [k] [.j (.O 0) A] 0 (.O 0) A D h0):)];rwa[show(((#[k.toNat,by show dH.mp<|bj [↑k.toNat,k] [.aL aC<| .O 8,.j A aC] 0 (.e A) (.O 8) D a (c4 (gx<|bj [k] [.j (.O 0) A] 0 (.O 0) A D h0):)]:Fin 8).val:Nat):Int)=k from by simp;show(Int.le_total k 0).elim (λa=>gr (bj [max k 0,k] [.j (.O 0) aC,.j A<| .O 0] 0 A aC D h0 (c4 (Fs a):))<|bj [k,max k 0] [.j A aC] 0 A aC D (we k 0:)) λa=>gr (bj [max k 0,k] [.j A aC] 0 A aC D (c4 (Pw a):))<|bj [k,max k 0] [.j A aC] 0 A aC D (we k 0:)]at this
def wk (a:m∈ef k):m∈k:=by
 induction k using i4 with
 |nil=>cases a
 |snoc k c b=>
  rw[pJ]at a;unfold nJ at a;split at a
  .show bJ<|b a
  .show cL a (λa=>?_) λa=>?_
   .show bJ<|b a
   .show bB a
def FO (a:s):(ef a).length<=a.length:=by rw[<-wh];unfold gL;rw[a7];show a6 (qf _ _) (by simp[en])
def FP (d:∀a∈k,0<=a/\a<8):pK (fd k):=λf c g b=>by
 rw[rl]at c;obtain⟨a,e,rfl⟩:=ck c;unfold kB at b;split at b
 .cases b
 .obtain rfl:=fS b;show ao (d a<|wk e) λh0 b=>?_;show(FN h0 b).1
def Qb (f:∀a∈k,0<=a/\a<8):gb (fd k)<=8*k.length:=by
 have h:∀b:s,(∀a∈b,0<=a/\a<8)->gb (b.map kB)<=8*b.length:=by
  intro b
  induction b with
  |nil=>intro _;show cg _|cons d b i=>
   intro b;have:=i λa c=>b a<|g c;show ao (b d ap) λh0 l=>?_;have m:iY (kB d)<=8:=by
    unfold kB;split
    .show ey _
    .show(FN h0 l).2
   mspec b8;mspec eC;unfold gb at this ⊢;mspec b8;mspec hW;show bd [.j C<| .cT 8 t,.j y<| .O 8] 0 (.S y C) (.cT 8<| .e t) D this m
 rw[rl];have:=h (ef k) λa c=>f a<|wk c;have:=FO k;lia
section
variable {Y:be}{H:aP}
def E.FQ (a:aU Y H m (iJ Y af))(b:fM Y.I k)(c:f6 m (J<| .Name k n) pos.line Y.I=pure aj):
 E Y H (.Assign [.Name k n] m pos) (c2 (u H #[Y.d,Y.O,Y.I,Y.X,bl k af Y.q,Y.G]) o):=E.dQ (E.kj (bU:=o) a b c) λd f r=>by
 cases d with
 |next=>obtain⟨a,b,c,⟨rfl,rfl,rfl⟩,_,e⟩:=r;show e|brk=>show r|cont=>show r|ret a=>show r
noncomputable def pL:bT->kS
 |none=>.none|some aa=>.str aa
def Qc (a:bT):i.ja (c5 .none a) (pL a):=by cases a with
 |none=>show .none|some b=>show .str b
theorem FR:∀a:List bT,qw (a.map pL) (a.map pL)=z
 |[]=>rfl|b::a=>by rw[b8,qw,FR a];cases b<;>rfl
theorem FS:∀b:List bT,(∀c∈b,∀a,c=J a->fx a=z)->qu (b.map pL)=z
 |[],_=>rfl|c::b,d=>by
  mspec b8;rw[qu];mspec FS b λe f=>d e<|g f;cases c with
  |none=>rfl|some a=>
   show(?_:(n9 (.str a)&&z)=z);rw[n9];mspec d _ ap a V;rfl
theorem FT:∀a:List bT,qv (a.map pL)<=0
 |[]=>cg _|b::a=>by rw[b8,qv];show B0.mpr #[by cases b<;>show cg _,FT a]
noncomputable abbrev pM (a:List bT)(ac al:v):kS:=.list [.list<|a.map pL,.str ac,.str al]
def FU (a:List bT)(b c:v):i.ja (.list [.list<|a.map<|c5 .none,.str b,.str c]) (pM a b c):=.list<| .cons (.list<|ur Qc a)<| .cons (.str b)<| .cons (.str c) .nil
def Qd (a:List bT)(b c:v)(e:∀f∈a,∀d,f=J d->fx d=z)(g:fx b=z)(h:fx c=z):jG (pM a b c)=z:=by
 unfold jG pM;have d:=FT a;have i:n9 (.list [.list<|a.map pL,.str b,.str c])=z:=by
  simp only[n9,qu,(FS a e),g,h,Qe]
 mspec i;rw[us];show decide_eq_true ?_;simp only[r0,qv]
 grind
def Qf (a:List bT)(b c:v):me (pM a b c) (pM a b c)=z:=by
 unfold pM;simp only[me,qw,FR,Qe]
end
section
variable {U:aW}
def Qg (d:aR U)(s:di U.B 68 64)(n:Nat)(m:T)(X:aZ)(h:aP)(t:h.bZ=z)(o:T)(p:b5)(q:List bG)(b:T)(e:List (Int×v))(j:Int)(a:List ed)(H:e.lookup j=J (aB<|cc a))(w:∀it∈a,it.ok=z)(x:(cc a).length<=100000)(I:a.length<=1000)(y:apart (dw a)=z)(A:gb (dw a)<=100000)(Γ:bg)(f g:aE)(r:db):
 E #[U,n+3,ee U m,X,("parts",.list ((dw a).map<|c5 .none))::("x",.int j)::(eG o p q b++Γ),f++(b,.dict (e4 e))::(64,.tab cu)::g] h (hT (s8 U) 2)
  (c2 (u h #[U,n+3,ee U m,X,bl "told" (.list [.list<|(dw a).map<|c5 .none,.str<|f9<|dw a,.str<|f9<|dw a])<|("parts",.list ((dw a).map<|c5 .none))::("x",.int j)::(eG o p q b++Γ),f++(b,.dict (e4 e))::(64,.tab cu)::g]) r):=by
 have r:=vX a;have l:(f++(b,i.dict (e4 e))::(64,.tab cu)::g).Perm ([(64,.tab cu)]++(f++(b,.dict (e4 e))::g)):=by
  mspec(show f++(b,i.dict (e4 e))::(64,.tab cu)::g=(f++[(b,.dict (e4 e))])++(64,.tab cu)::g by simp);mspec(show f++(b,i.dict (e4 e))::g=(f++[(b,.dict (e4 e))])++g by simp);show vK
 have B:∀(r:aX)(C F G:dy),R #[U,n+3,ee U m,X,("parts",.list ((dw a).map<|c5 .none))::("x",.int j)::(eG o p q b++Γ),f++(b,.dict (e4 e))::(64,.tab cu)::g] (.Subscript (.Name "grown" C) (.Name "x" F) G) (.str<|aB<|cc a):=λr C F G=>
  R.item (L:=.int j) (R.K 6 V) (R.K 1 V) (b7.dict (as.G<|bB ap) (by rw[zZ];mspec H;rfl))
 show E.FQ (aU.same<|aU.Fm<|e3.fV (aU.same<|aU.dQ (aU.g4 (ds:=[.str<|aB<|cc a,.none,.str<|aB [46]]) (d.eW V (by room) V rfl (by decide)) (nD d).at_.choose_spec.1 (nD d).at_.choose_spec.2 (W.cons (B h.cM _ _ _) (W.cons R.gF (W.cons (R.of_eq R.cy<|by room) W.nil V) V) V) (vY d s V rfl t a w x (by show b1) .none .none (keep:=f++(b,.dict (e4 e))::g) l) V c V)<|λK M N k=>#[by mspec k.1;show l.symm,k.2])
  (λr=>e3.fV (aU.of<|R.g4 (ds:=[.list<|(dw a).map<|c5 .none,.none]) (d.eW V (by room) V rfl (by decide)) (ss d).at_.choose_spec.1 (ss d).at_.choose_spec.2 (W.cons (R.K 0 V) (W.cons R.gF W.nil V) V) (CU d (dw a) .none .none y A<|by show a6 ‹_› ‹_›) V c V)
   (λO=>e3.fV (aU.same<|aU.dQ (aU.g4 (ds:=[.str<|aB<|cc a]) (d.eW V (by room) V rfl (by decide)) (zN d).at_.choose_spec.1 (zN d).at_.choose_spec.2 (W.cons (B h.cM _ _ _) W.nil V) (OT d s V rfl (show((h.at r).at O).bZ=z from t) a w x I y A (keep:=f++(b,.dict (e4 e))::g) l) V c V)<|λK M N k=>#[by mspec k.1;show l.symm,k.2]) (λa=>e3.of W.nil λa a a=>cH (du D) (eJ _) V) V) V) V) (.inl V) V
def Qh (b:aR U)(n:Nat)(d:T)(X:aZ)(k:aP)(e:T)(f:b5)(g:List bG)(h:T)(i:Int)(a:List bT)(l:f9 a=ni a)(q:∀j∈a,∀m,j=J m->fx m=z)(r:fx (ni a)=z)(s:(a.map iY).sum<=100000)(t:a.length<=1000)(Γ:bg)(own:aE)(o:db):
 E #[U,n+2,ee U d,X,("told",.list [.list<|a.map<|c5 .none,.str<|f9 a,.str<|f9 a])::("parts",.list (a.map<|c5 .none))::("x",.int i)::(eG e f g h++Γ),own] k (hT (s8 U) 3)
  (c2 (u k #[U,n+2,ee U d,X,("told",.list [.list<|a.map<|c5 .none,.str<|f9 a,.str<|f9 a])::("parts",.list (a.map<|c5 .none))::("x",.int i)::(eG e f g h++Γ),own]) o):=by
 have v:c5 .none=oj:=by funext j;cases j<;>rfl
 have j:∀k m o,R #[U,n+2,ee U d,X,("told",.list [.list<|a.map<|c5 .none,.str<|f9 a,.str<|f9 a])::("parts",.list (a.map<|c5 .none))::("x",.int i)::(eG e f g h++Γ),own] (.Call (.Name "_law_text" k) [.Name "parts" m] [] o) (.str<|f9 a):=λk m o=>by
  mspec l;show R.g4 (ds:=[.list<|a.map oj]) (b.eW V (by room) V rfl (by decide)) (yx b).at_.choose_spec.1 (yx b).at_.choose_spec.2 (W.cons (by show ch v ?_;show R.K 1 V) W.nil V) (JW b (n:=n) a s t) V c V
 have b:fx (f9 a)=z:=by mspec l;show r
 show E.dC (aq:=aj) (a1.bL (R.K 0 V) (R.list (ds:=[.list<|a.map<|c5 .none,.str<|f9 a,.str<|f9 a]) (W.cons (R.K 1 V) (W.cons (j _ _ _) (W.cons (j _ _ _) W.nil V) V) V)<|du D) (ax.nH (ak:=pM a (f9 a)<|f9 a) (.inl<|FU _ _ _) (.inl<|FU _ _ _) (Qd _ _ _ q b b)<|Qf _ _ _) c) (λp=>by cases p)<|λa=>N.nil λp a=>a
end
noncomputable abbrev mI:List (dy×v):=[(#[294,22,294,49],"_law_grows.<locals>.<lambda>")]
noncomputable abbrev rm (bu:T)(eF:List (Int×v)):aE:=[(bu,.dict (e4 eF)),(64,.tab cu),(225,.tab fH),(254,.tab mI)]
noncomputable abbrev fe (cF:aE)(ai:az)(bu:T)(eF:List (Int×v)):aE:=(cF++(ai.G++[(247,.tab hj)]))++rm bu eF
def Ab (a:aE)(b:az)(c:T)(d:List (Int×v)):(fe a b c d).Perm (b.G++(a++([(247,.tab hj)]++rm c d))):=by
 show(?_:((a++(b.G++[(247,i.tab hj)]))++rm c d).Perm _);rw[hX,hX];show List.perm_append_comm_assoc ..
def th (b0:dl)(a:s)(a9:b5):Prop:=∀(L:Nat)(ak:v)(b:h),hU[L]?=J (ak,b)->qX b0 ak/\nt b0 ak=("node ":v)++gO ak++(" ":v)++lT a a9 L
section
variable {U:aW}
def FV (U:aW)(a:T):(ee U a).qual++("<lambda>":v)="_law_grows.<locals>.<lambda>":=by room
def Ac (d:aR U)(f:(("sorter":v),i.val (.ref k.x))∈Γ)(g:k.bq=J r)(h:r.2.length<=1000)(c:op (.Name "sorter" B) "is_active" M Sf [] (ee U m)):
 aU #[U,n+1,ee U m,X,Γ,fe o k w x] H (.Call (.Attribute (.Name "sorter" B) "is_active" M) [] [] Sf) (iJ #[U,n+1,ee U m,X,Γ,fe o k w x]<| .bool<|decide (k.bI<k.bW)||decide (0<r.2.length)):=by
 show p c λb c=>?_;have b:=Ab o k w x;show aU.same (aU.dQ (aU.si (aw:=a U) d.bD (b.mem_iff.mpr<|bJ k.eK) (b.mem_iff.mpr<|bJ k.eT) (by rfl) Kp (R.name f (by decide)<|by decide) (KH d V rfl k r g h b) c) λj l m e=>#[?_,e.2]);mspec e.1;show b.symm
def FW (k:aR U){d:aE}{b:az}{e:T}{f:List (Int×v)}{r:T}{ag:h}(o:(("sorter":v),i.val (.ref b.x))∈Γ)(q:b.bq=J (r,ag))(s:b.bA)(t:∀j∈ag,j∈b.P.map (·.1))(u:ag.length<=900)(g:op (.Name "sorter" w) "get_ready" x B [] (ee U M)):
 aU #[U,n+1,ee U M,X,Γ,fe d b e f] H (.Call (.Attribute (.Name "sorter" w) "get_ready" x) [] [] B) (λy l m=>m=.bR (ag.map .str)/\∃c,l=fe d c e f/\gM c b b.bI (b.bW+ag.length) (r,[]) (eL b.P ag<| -1)):=by
 show p g λj g=>?_;have j:=Ab d b e f;show aU.PG (aU.si (aw:=a U) k.bD (j.mem_iff.mpr<|bJ b.eK) (j.mem_iff.mpr<|bJ b.eT) (by rfl) Ko (R.name o (by decide)<|by decide) (KY k V rfl b r ag q s t u j) g) ?_;intro y l m b;show ci b λg=>?_;show p g λc b=>?_;show ci b λg=>?_;show#[_,(Ab d c e f).symm,V,c,V,g]
def FX (a:aR U)(b:di U.B 251 247)(d:M.cR=J Sf)(e:ec m Sf)(f:ew m)(g:k.bq=J r)(h:k.bA)(j:th k.P o w)
 (l:(("sorter":v),i.val (.ref k.x))∈Γ) (p:(("out":v),i.list (o.map .int))∈Γ) (q:(("uses":v),i.dict (cS bp w))∈Γ) (s:(("items":v),fj)∈Γ):
 aU #[U,n+5,ee U Sg,X,Γ,fe m k x B] M (.Call (.Name "_law_refuses" Sh) [.Name "sorter" Si,.Name "out" Sj,.Name "uses" Sk,.Name "items" Sl] [] Sm) (iJ #[U,n+5,ee U Sg,X,Γ,fe m k x B]<| .bool z):=by
 show aU.same (aU.dQ (aU.g4 (ds:=[.val<| .ref k.x,.list<|o.map .int,.dict<|cS bp w,fj]) (a.eW V (by room) V rfl (by decide)) (za a).at_.choose_spec.1 (za a).at_.choose_spec.2 (W.cons (R.name l (by decide)<|by decide) (W.cons (R.name p (by decide)<|by decide) (W.cons (R.name q (by decide)<|by decide) (W.cons (R.name s (by decide)<|by decide) W.nil V) V) V) V) (L4 a b (keep:=rm x B) V rfl d V rfl m k o w e f r g h j (eJ _)) V c V) λb l p a=>#[?_,a.2]);rw[a.1]
end
inductive FY (a:List bG)(eF:List (Int×v))(ae:Int):Prop
 |mk (ag:s) (ge:List ed) (m0:fQ a 6 ae=J ag) (b:ag.length<=1000) (c:∀bx∈ag,0<=bx/\bx<8) (d:kz a eF ae=aB (cc ge)) (e:∀it∈ge,it.ok=z) (f:(cc ge).length<=100000) (g:ge.length<=1000) (h:dw ge=fd ag)
  (b:apart (fd ag)=z) (c:gb (fd ag)<=100000) (d:f9 (fd ag)=ni (fd ag)) (e:∀ak∈fd ag,∀aa,ak=J aa->fx aa=z) (f:fx (ni<|fd ag)=z):FY a eF ae
structure Ad (a:List bG)(eF:List (Int×v))(ae:Int):Prop where
 Qi:3<=ae/\ae<3+a.length
 Qj:(iq a ae).length<=10
 wl:∀ak∈iq a ae,(0<=ak.1/\ak.1<8)/\0<=ak.2/\ak.2.toNat<(lj ak.1).length
 new:ae∉eF.map (·.1)
 Qk:eF.length<=10
 wm:(((iq a ae).tail.map<|eN eF).map (·.length)).sum<=100000
 Ql:FY a eF ae
noncomputable def iu (a:List bG)(eF:List (Int×v))(h4:s):List (Int×v):=h4.foldl (λeF ae=>eF++[(ae,kz a eF ae)]) eF
def Ae (a:List bG)(eF:List (Int×v))(h4:s):Prop:=∀L ae,h4[L]?=J ae->Ad a (iu a eF<|h4.take L) ae
def FZ (a:List (Int×v))(b:Int)(d:v)(c:b∉a.map (·.1)):(a++[(b,d)]).lookup b=J d:=by
 induction a with
 |nil=>simp|cons e a f=>
  obtain⟨a,b⟩:=e;simp only[b8,hQ,not_or]at c;mspec qN;mspec fz;mspec beq_eq_false_iff_ne.mpr c.1;show f c.2
noncomputable abbrev gT (a b:s)(c:h):bg:=[("turn",bp a),("out",bp b),("given",.bR (c.map .str))]
section
variable {U:aW}
def Qm (w:aR U)(B:di U.B 68 64)(n:Nat)(p:T)(X:aZ)(m:aP)(C:m.bZ=z)(f:T)(g:b5)(b:List bG)(D:∀r∈b,r.length<=10)(y:b.length<=10)(c:T)(d:List (Int×v))(a:Int)(i:Ad b d a)(j k:s)(l:h)(q t:aE)(E:db):
 N m #[U,n+7,ee U p,X,("x",.int a)::(eG f g b c++gT j k l),q++(c,.dict (e4 d))::(64,.tab cu)::t] (s8 U) (c2 (u m #[U,n+7,ee U p,X,eG f g b c++gT j k l,q++(c,.dict (e4<|d++[(a,kz b d a)]))::(64,.tab cu)::t]) E):=by
 mexact N.r2 λx F=>?_;obtain⟨G,e,H,I,K,L,M,O,P,o,Q,A,R,S,W⟩:=i.Ql;mexact N.br (PJ w (n+7) p X m f g b c d a (gT j k l) q ((64,.tab cu)::t) i.Qi y i.Qj i.wl i.new i.Qk i.wm x) ?_;mexact N.br (PR w n p X m f g b c a G (gT j k l) (q++(c,.dict (e4<|d++[(a,kz b d a)]))::(64,.tab cu)::t) D y H I K x) ?_;show ch o ?_;mexact N.dW (eI:=("parts",.list ((dw e).map<|c5 .none))::("x",.int a)::(eG f g b c++gT j k l)) (aN.cI [0,1,2,3,4,5,6,7,8,9] rfl) ?_;mexact N.br (Qg w B (n+4) p X m C f g b c (d++[(a,kz b d a)]) a e (by mspec FZ _ _ _ i.new;show aJ L V) M O P (by mspec o;show Q) (by mspec o;show A) (gT j k l) q t x) ?_;mexact N.dW (eI:=("told",.list [.list<|(dw e).map<|c5 .none,.str<|f9<|dw e,.str<|f9<|dw e])::("parts",.list ((dw e).map<|c5 .none))::("x",.int a)::(eG f g b c++gT j k l)) (aN.cI [0,1,2,3,4,5,6,7,8,9,10] rfl) ?_;have i:((dw e).map iY).sum<=100000:=by mspec o;show A
 mexact N.br (Qh w (n+5) p X m f g b c a (dw e) (by mspec o;show R) (by mspec o;show S) (by mspec o;show W) i (by have:=vX e;show a6 ‹_› ‹_›) (gT j k l) (q++(c,.dict (e4<|d++[(a,kz b d a)]))::(64,.tab cu)::t) x)<|N.nil λe f=>F .next e (f.eh ?_);show aN.cI [3,4,5,6,7,8,9,10] rfl
def Qn (a:List bG)(d:List (Int×v))(b:s)(c:Nat)(e:Int)(f:b[c]?=J e):iu a d (b.take<|c+1)=iu a d (b.take c)++[(e,kz a (iu a d<|b.take c) e)]:=by
 mspec qe;mspec f;unfold iu;mspec iX;rfl
def Qo (K:aR U)(M:di U.B 68 64)(n:Nat)(x:T)(X:aZ)(y:aP)(O:y.bZ=z)(l:T)(b:b5)(Sh:iM b)(e:List bG)(P:∀r∈e,r.length<=10)(Q:e.length<=10)(g:T)(k:List (Int×v))(d m:s)(o:h)(S:∀a∈d,a∈dj b)(Si:d.length<=100)(Sf:Ae e k (d.filter λa=>decide (dg b a≠[])))(p q:aE)(B:db):
 E #[U,n+7,ee U x,X,eG l b e g++gT d m o,p++(g,.dict (e4 k))::(64,.tab cu)::q] y (hT (mF U) 2)
  (c2 (qn #[U,n+7,ee U x,X,eG l b e g++gT d m o,p++(g,.dict (e4<|iu e k<|d.filter λa=>decide (dg b a≠[])))::(64,.tab cu)::q] y) B):=by
 have Sh:∀(B:s),B=d.filter (λa=>decide (dg b a≠[]))->∀a∈B,a∈d:=λB t a j=>by rw[t]at j;show(e9.mp j).1
 show E.ms (ce:=λu Γ own=>aN Γ (eG l b e g++gT d m o)/\own=p++(g,.dict (e4<|iu e k<|(d.filter λa=>decide (dg b a≠[])).take u))::(64,.tab cu)::q) (λf f=>False) [] (p++(g,.dict (e4 k))::(64,.tab cu)::q) V
  (r:=.list<|(d.filter λa=>decide (dg b a≠[])).map .int) (ds:=(d.filter λa=>decide (dg b a≠[])).map .int)
  (aU.of<|R.iD (ds:=d) (dE:=i.int) (cP:=λa=>[("x",.int a)]) [("uses",.dict (cS bp b))] (λa=>decide (dg b a≠[])) (λa=>.int a) V (by decide) V (by decide) (r:=bp d) (R.K 5 V) (cA.list (.inl<|dN _ _ V) as.list) (by unfold aD;show b1) (λG f=>.name _ _ _) (hg V) (gv (bo 2 V) V (.inl V) (.inl V) f7)
   (λB Z a j=>a1.bL (R.item (L:=.int a) (R.K 1 V) (R.K 0 V)<|b7.dict as.dict<|qY b a<|S a j) (R.list W.nil<|du D) (ax.r1 (iI:=[]) as.list as.list) c) (λB Z a j f=>by show R.K 0 V) (λf=>rfl) (λf f f f=>c))
  (λB t=>by cases t) (cA.list (.inl<|dN _ _ V) as.list) #[aN.bf _,V] (λG f=>.name<| .inl V) ?_ ?_ (λf=>rfl)
 .intro u G w Γ own Sg hd B;show kK B λC=>?_;intro B H;rw[e8,gl]at hd;obtain⟨a,j,rfl⟩:=hd;have B:=Sf u a j;mexact N.dW (eI:=("x",.int a)::(eG l b e g++gT d m o)) (Y:=#[U,n+7,ee U x,w,gp (.Name "x" #[_,_,_,_]) (.int a) Γ,p++(g,.dict (e4<|iu e k<|(d.filter λa=>decide (dg b a≠[])).take u))::(64,.tab cu)::q]) (λG S=>?_) ?_
  .have Sf:aN (gp (.Name "x" #[0,0,0,0]) (.int a) Γ) (gp (.Name "x" #[0,0,0,0]) (.int a)<|eG l b e g++gT d m o):=C.gp _ _;show Sf G S
  .mexact N.dQ (Qm K M n x w (y.at Sg) O l b e P Q g _ a B d m o p q<|λf f=>False) λF t A=>?_;cases F with
   |next=>show#[w,_,_,λd b=>b,#[aN.bf _,by show aJ (Qn e k _ u a j) V],A]|brk=>show A.elim|cont=>show A.elim|ret a=>show A.elim
 .rintro w Γ own t H (⟨C,rfl⟩|F) I
  .rw[o5<|by simp]at I;show#[w,H,I.eh C]
  .show F.elim
end
section
variable {U:aW}
def Qp (j:aR U)(A:di U.B 251 247)(n:Nat)(o:T)(X:aZ)(c:aP)(q:List b3)(B:c.cR=J q)(d:aE)(C:ec d q)(F:ew d)(a:az)(k:b5)(t:List bG)(e:T)(w:List (Int×v))(x l:s)(r:T)(b:h)(m:a.bq=J (r,b))(y:a.bA)(G:0<b.length)(I:b.length<=900)(K:∀L∈b,L∈a.P.map (·.1))(M:th a.P l k)(N:db):
 E #[U,n+5,ee U o,X,("turn",bp x)::(eG a.x k t e++[(("out":v),bp l)]),fe d a e w] c (hT (mF U) 0)
  (c2 (λf=>∃g i,(∀O∈X,O∈g)/\gM i a a.bI (a.bW+b.length) (r,[]) (eL a.P b<| -1)/\u c #[U,n+5,ee U o,g,("refused",.bool z)::("active",.bool z)::(eG a.x k t e++gT x l b),fe d i e w] f) N):=by
 show E.Fo (aU.wd<|e3.fV (FX j A B C F m y M (bo 1 V) (bo 6 V) (bo 3 V)<|bo 4 V)
  (λd=>e3.fV (Ac j (n:=n+4) (H:=c.at d) (bo 1 V) m (show b.length<=1000 by show b1) #[_,V])
   (λP=>e3.em (aU.dQ (FW j (n:=n+4) (H:=(c.at d).at P) (bo 1 V) m y K I #[_,V]) λe j k f l o g=>?_) V) V) V) (.inl V) (.inl V) (.inr #[V,D]) V rfl
 show ci f λc=>?_;show p c λi d=>?_;show ci d λc=>?_;mspec(show(decide (a.bI<a.bW)||decide (0<b.length))=z from by show aJ (decide_eq_true G) ?_;rw[Bool.or_true]);show#[du D,.mk λa f b=>f4 g i a c<|b.eh<|aN.cI [2,1,4,5,6,7,8,3,9,0] rfl]
end
theorem Af:∀a:h,(∀b∈a,fx b=z)->qu (a.map wn)=z
 |[],_=>rfl|b::a,c=>by
  show(?_:(n9 (.str b)&&qu (a.map wn))=z);rw[n9];mspec c b ap;mspec Af a λb d=>c b<|g d;rfl
theorem Ag:∀a:h,qv (a.map wn)<=0
 |[]=>cg _|b::a=>by rw[b8,qv];show B0.mpr #[by rw[r0];show cg _,Ag a]
theorem wo:∀a:h,qw (a.map wn) (a.map wn)=z
 |[]=>rfl|b::a=>by rw[b8,qw,wo a];rfl
def wp (a:h):i.ja (.bR<|a.map .str) (.tuple<|a.map .str):=.bR<|ur .str a
def F0 (a:h)(b:∀c∈a,fx c=z):jG (.tuple<|a.map .str)=z:=by
 unfold jG;rw[n9];mspec Af a b;rw[us];show decide_eq_true ?_;have:=Ag a;rw[r0];show gu
section
variable {Y:be}{H:aP}
def ax.Qq {a:h}(b:∀c∈a,fx c=z):ax Y .NotEq (.bR<|a.map .str) (.bR<|a.map .str) aj:=ax.nH (.inl<|wp a) (.inl<|wp a) (F0 a b) (by rw[me];show wo a)
def ax.Qr {ag:h}(a:∀b∈ag,fx b=z):ax Y .Eq (.bR<|ag.map .str) (.bR<|ag.map .str) z:=ax.PF (.inl<|wp ag) (.inl<|wp ag) (F0 ag a) (by rw[me];show wo ag)
end
section
variable {U:aW}
def Qs (q:aR U)(n:Nat)(a:T)(X:aZ)(p:aP)(l:aE)(b:az)(t:b5)(u:List bG)(g:T)(m:List (Int×v))(d w:s)(r:T)(y:b.bq=J (r,[]))(B:b.bI<b.bW)(C:∀f∈d,0<=f/\f<8)(E:d.length<=100)(F:∀G∈d.map a4,fx G=z)(x:db)(o:List cC)
 (H:∀k,(∀I∈X,I∈k)->N p #[U,n+5,ee U a,k,("refused",.bool z)::("active",.bool z)::(eG b.x t u g++gT d w (d.map a4)),fe l b g m] o x):
 N p #[U,n+5,ee U a,X,("refused",.bool z)::("active",.bool z)::(eG b.x t u g++gT d w (d.map a4)),fe l b g m] ((hT (mF U) 1)::o) x:=by
 have u:(decide (b.bI<b.bW)||decide (0<([]:h).length))=z:=by mspec decide_eq_true B;rfl
 mexact N.sG (ho.Fw (ce:=λp=>p=fe l b g m)<|ho.cons (i2.of<|a1.rG<|a1.j8 (R.K 0 V) eH.bool<|λa=>rfl)<|pI λt=>?_) (λk p x t w=>#[t.1,by show kK t λa=>?_;show H k w]);show#[c,ho.cons (i2.of<|a1.bL (R.K 1 V) R.p5 ax.Fz c)<|pI λt=>?_];show#[c,ho.cons (i2.bL (co:=λk p o=>p=fe l b g m/\o=aj) (Ac q (n:=n+4) (bo 2 V) y (ey _) #[_,V]) (pI λg=>?_) c)<|λk l m g o=>?_]
 .show kN (.bool z) _ R.p5 ax.Fz V (by mspec show(decide (b.bI<b.bW)||decide (0<(r,([]:h)).2.length))=z from u;rfl)
 .show j4 g ?_;show#[c,ho.cons (i2.of (al:=aj)<|a1.bL (R.K 9 V) (R.mX (ds:=[.list<|(d.map a4).map .str]) (q.eZ V rfl (by room) (by decide) V rfl rfl (by decide)) (W.cons ?_ W.nil V) (bO.tuple as.list (by rw[a7,a7];unfold aD;show b1)) V c V) (ax.Qq F) c)<|pI λb=>?_]
  .show R.of_eq (R.iD (ds:=d) (dE:=i.int) (cP:=λf=>[("x",.int f)]) [("items",fj)] (λa=>z) (λf=>.str<|a4 f) V (by decide) V (by decide) (r:=bp d) (R.K 7 V) (cA.list (.inl<|dN _ _ V) as.list) (by unfold aD;show dG E D) (λb a=>.name _ _ _) (hg V) (gv (bo 5 V) V (.inl V) (.inl V) f7) (λa a a a=>rfl) (λb Z f d a=>?_) (λa=>rfl)<|λa a a a=>c) (by rw[jh];mspec d9;rfl);show ao (C f d) λh0 b=>?_;show g2 (wf h0 b) λd g a k=>?_;show R.item (L:=.int 0) (R.item (L:=.int d) (R.K 1 V) (R.of_eq (R.K 0 V)<|congrArg i.int g)<|b7.list as.list k<|dH.mp<|bj [↑d,f] [.aL aC<| .O 8,.j A aC] 0 (.e A) (.O 9223372036854775808) D b (c4 (g).symm:)) R.bK (b7.list (cD:=0) as.list V<|by simp+arith)
  .show#[c,ho.nil]
end
section
variable {U:aW}
def Qt (B:aR U)(P:di U.B 256 254)(n:Nat)(t:T)(X:aZ)(u:aP)(w:List b3)(Q:u.cR=J w)(f:aE)(S:ec f w)(Y:ew f)(a:az)(C:b5)(E:List bG)(g:T)(k:List (Int×v))(F G:s)(e:h)(r:T)(Z:a.bq=J (r,[]))(Sf:a.bA)
 (x:Nat) (Sg:fD x a.P) (Sh:∀Si∈a.P,∀Sj∈Si.2.2,Sj∈cQ a.P) (Sk:nn (a.P,[]) e) (Sl:e.length*x<=900) (Sm:e.length<=900) (H:db) (I:List cC)
 (Sn:∀m d,(∀So∈X,So∈m)->gM d a (a.bI+e.length) a.bW (r,(fu (a.P,[]) e).2) (fu (a.P,[]) e).1->N u #[U,n+5,ee U t,m,eG a.x C E g++gT F G e,fe f d g k] I H):
 N u #[U,n+5,ee U t,X,eG a.x C E g++gT F G e,fe f a g k] ((hT (mF U) 3)::I) H:=by
 have K:∀d:az,((f++d.G)++([(247,i.tab hj)]++rm g k))=fe f d g k:=λd=>by simp[fe,hX]
 mexact N.sG (i2.bL (co:=λm q L=>L=aj/\∃d,q=fe f d g k/\gM d a (a.bI+e.length) a.bW (r,(fu (a.P,[]) e).2) (fu (a.P,[]) e).1)
  (aU.vo B (λM y=>y=.list [.none]/\∃d,M=d.G/\gM d a (a.bI+e.length) a.bW (r,(fu (a.P,[]) e).2) (fu (a.P,[]) e).1) (n:=n+4) (ag:=w) (cF:=f) (ai:=a.G) (keep:=[(247,.tab hj)]++rm g k) (b:=256) (aM:=254) (dk:=mI) (bE:=(f++(a.G++[(247,.tab hj)]))++[(g,.dict (e4 k)),(64,.tab cu),(225,.tab fH)]) (b4:=[]) (lQ:=[("sorter",.val (.ref a.x)),("given",.bR (e.map .str))]) V rfl Q V (by dsimp only;rw[K]) S Y (by simp[fe]) (by rw[FV];show vV _) (λa Sp j=>by cases bX Sp;show(FV U t).symm) V P V rfl rfl rfl ?_ (λj j j=>rfl) (by decide) c c V
   (λh0 g k j j a f=>Me B (n:=n+2) r [] e Z Sf x Sg Sh Sk (by simpa using Sl) Sm (λenv=>rfl) a f) (λj j j=>vt) (λq y l=>by show ci l λo=>?_;show p o λd l=>?_;show#[V,d,l]) V rfl) (λm q y l O=>?_) c)<|λm q L l O=>?_
 .intro a A;show ay (a5 A) (λSq=>?_) λA=>?_
  .obtain rfl:=Sq;show#[by show bo 0 V,V,V,_,V,V]
  .cases bX A;show#[by show bo 7 V,V,V,_,V,V]
 .show p l λM a=>?_;show rD a λo=>?_;show p o λd f=>?_;show ci f λe=>?_;show#[.list [.none],_,R.list (W.cons R.gF W.nil V)<|du D,ax.nH (ak:=.list [.none]) (.inl<|by repeat constructor) (.inl<|by repeat constructor) D D,c,d,K d,e]
 .show ci l λo=>?_;show p o λd a=>?_;show ci a λe=>?_;show#[c,Sn m d O e]
end
section
variable {Y:be}{H:aP}
def N.F4 (g:aU Y H m ki)(h:∀b c d,ki b c d->∃e a,c.Perm e/\a.Sublist e/\(∀f∈n,f.1∈aI a)/\w a d):N H Y (.Return (J m) pos::k) (et Y.d H n w):=
 N.cons (aw:=λi=>False) (.mk λj m n p q=>xD (g.go j m _ n p q λs x t #[b,c,d,v,y,w,r]=>by
  show bC λj g=>?_;show l5 (h b c d v) λe a m n p q=>?_;show g ?_;clear g j;have e:=(u.lO (Y:=#[Y.d,Y.O,Y.I,b,Y.q,c]) w m).q4 n;have o:=e.pe p<|eJ _;have c:∀k∈H.cB++aI a,k∈b:=λk b=>by
   show cL b (λb=>?_) λb=>?_
   .show e.sub k b
   .show g0 b λf g=>?_;show(e.G f g).1
  show#[t,s,d,a,.inl V,q,o,r.keep<|l.sub c])) λi b=>b.elim
end
structure lW where
 gU:s
 h5:List (Int×v)
 gV:dl
 ex:h
 bW:Int
 bI:Int
noncomputable abbrev oB (a9:b5)(a:s):s:=a.filter λae=>decide (dg a9 ae≠[])
noncomputable def ti (b:List bG)(a9:b5)(a:s)(aa:lW):lW:=
 #[aa.gU++a,iu b aa.h5<|oB a9 a,(fu (eL aa.gV aa.ex<| -1,[]) aa.ex).1,(fu (eL aa.gV aa.ex<| -1,[]) aa.ex).2,aa.bW+aa.ex.length,aa.bI+aa.ex.length]
structure wq (c:List bG)(a9:b5)(a:s)(aa:lW):Prop where
 ref:th aa.gV aa.gU a9
 ex:aa.ex=a.map a4
 kO:0<a.length
 len:a.length<=30
 mem:∀b∈aa.ex,b∈aa.gV.map (·.1)
 Qu:aa.bI<=aa.bW
 jr:∀ae∈a,ae∈dj a9
 Qv:Ae c aa.h5 (oB a9 a)
 Qw:nn (eL aa.gV aa.ex<| -1,[]) aa.ex
 rn:fD 30 aa.gV
 jf:∀a2∈aa.gV,∀b∈a2.2.2,b∈cQ aa.gV
 Qx:aa.gU.length<=100
noncomputable def lX (a:List bG)(a9:b5):List s->lW->Prop
 |[],aa=>th aa.gV aa.gU a9/\aa.ex=[]/\aa.bI=aa.bW|b::c,aa=>wq a a9 b aa/\lX a a9 c (ti a a9 b aa)
structure wr (a:az)(r:T)(aa:lW)(ai:az):Prop where
 eu:fU a ai
 bA:ai.bA
 P:ai.P=aa.gV
 bq:ai.bq=J (r,aa.ex)
 bW:ai.bW=aa.bW
 bI:ai.bI=aa.bI
def F5 (h0:0<=k)(c:k<8):fx (a4 k)=z:=by
 obtain⟨a,rfl⟩:=py h0;have b:a<8:=by show el.mp ‹_›
 match a,b with
 |0,_=>decide+kernel|1,_=>decide+kernel|2,_=>decide+kernel|3,_=>decide+kernel|4,_=>decide+kernel|5,_=>decide+kernel|6,_=>decide+kernel|7,_=>decide+kernel
def Qy (c:∀b∈k,∀a∈b.2.2,a∈cQ k):∀b∈eL k m n,∀a∈b.2.2,a∈cQ (eL k m n):=λb d a e=>by
 show(?_:a∈(eL k m n).map (·.1));rw[vd];obtain⟨f,g,rfl⟩:=ck d;show c f g a ?_;revert e;split<;>show id
def Qz {a:Nat}(b:fD a k):fD a (eL k m n):=λa c=>by
 obtain⟨d,e,rfl⟩:=ck c;have:=b d e;revert this;split<;>show id
section
variable {U:aW}
def QA (B:aR U)(Sj:di U.B 251 247)(Sk:di U.B 68 64)(Sl:di U.B 256 254)(n:Nat)(l:T)(X:aZ)(j:aP)(Sm:j.bZ=z)(C:List b3)(Q:j.cR=J C)(m:aE)(S:ec m C)(W:ew m)(f:b5)(Y:iM f)(e:List bG)(Sn:∀r∈e,r.length<=10)(So:e.length<=10)(h r:T)(b:s)(A H:az)(a:lW)(i:wr A r a H)(c:wq e f b a)(Sp:db):
 N j #[U,n+7,ee U l,X,("turn",bp b)::(eG A.x f e h++[(("out":v),bp a.gU)]),fe m H h a.h5] (mF U) (c2 (λo=>∃q Z,(∀t∈X,t∈q)/\wr A r (ti e f b a) Z/\u j #[U,n+7,ee U l,q,eG A.x f e h++[(("out":v),bp (a.gU++b))],fe m Z h (ti e f b a).h5] o) Sp):=by
 mexact N.r2 λx Sq=>?_;have I:∀p∈b,0<=p/\p<8:=λp F=>Y.jr p<|c.jr p F;have G:a.ex.length=b.length:=by mspec c.ex;rw[a7]
 have Sf:=i.eu.x;have Sg:=Qp B Sj (n+2) l X j C Q m S W H f e h a.h5 b a.gU r a.ex i.bq i.bA (by have:=c.kO;show a6 this<|aA (G).symm) (by have:=c.len;show dG (a6 (aA G) this) D) (by mspec i.P;show c.mem) (i.P▸c.ref) x;rw[Sf]at Sg;mexact N.cons Sg ?_;intro o H;show f3 H λK d Sr k Z=>?_;have Sh:d.x=A.x:=k.eu.x.trans Sf;show eQ #[U,n+7,ee U l,K,_,_] j V rfl rfl rfl rfl Z ?_;have Ss:d.bI<d.bW:=by mspec k.bW;mspec k.bI;mspec i.bW;mspec i.bI;have:=c.Qu;have:=c.kO;lia
 have H:∀q A o,u j #[U,n+7,ee U l,q,("refused",.bool z)::("active",.bool z)::(eG d.x f e h++gT b a.gU (b.map a4)),A] o->u j #[U,n+7,ee U l,q,eG d.x f e h++gT b a.gU (b.map a4),A] o:=λq A o L=>L.eh λA q=>g<|g q;have St:∀q,(∀M∈K,M∈q)->N j #[U,n+7,ee U l,q,("refused",.bool z)::("active",.bool z)::(eG d.x f e h++gT b a.gU (b.map a4)),fe m d h a.h5] ((mF U).drop 2) x:=λq Su=>by
  mexact N.qh (H q _) ?_;have A:=Qo B Sk n l q j Sm d.x f Y e Sn So h a.h5 b a.gU (b.map a4) c.jr (by have:=c.len;show b1) c.Qv (m++(d.G++[(247,.tab hj)])) [(225,.tab fH),(254,.tab mI)] x;mexact N.cons A ?_;rintro o ⟨P,Sv,Sw⟩;show eQ #[U,n+7,ee U l,P,_,fe m d h<|iu e a.h5<|oB f b] j V rfl rfl rfl rfl Sw ?_;have Y:fD 30 d.P:=by mspec k.P;mspec i.P;show Qz c.rn
  have Z:∀A H,(∀M∈P,M∈A)->gM H d (d.bI+a.ex.length) d.bW (r,(fu (d.P,[]) a.ex).2) (fu (d.P,[]) a.ex).1->N j #[U,n+7,ee U l,A,eG d.x f e h++gT b a.gU a.ex,fe m H h<|iu e a.h5<|oB f b] ((mF U).drop 4) x:=λA H M q=>by
   mspec Sh;mexact N.br (E.assign (af:=bp<|a.gU++b) (R.of_eq (R.o3 (ac:=a.gU.map .int) (al:=b.map .int) (R.K 6 V) (R.K 5 V) as.list as.list (by rw[a7,a7];have:=c.Qx;have:=c.len;unfold aD;lia))<|by show ch eX V) (.inl V) V)<|N.nil λo L=>?_;show Sq .next o ?_;show f4 A H (λt o=>M t<|Sv t<|Su t<|Sr t o) #[(i.eu.trans k.eu).trans q.eu,q.bA,?_,?_,?_,?_]<|L.eh<|aN.cI [1,2,3,4,5,0] rfl
   .mspec q.P;mspec k.P;mspec i.P;rfl
   .mspec q.bq;mspec k.P;mspec i.P;rfl
   .mspec q.bW;mspec k.bW;mspec i.bW;rfl
   .mspec q.bI;mspec k.bI;mspec i.bI;rfl
  have o:=Qt B Sl (n+2) l P j C Q m S W d f e h (iu e a.h5<|oB f b) b a.gU a.ex r k.bq k.bA 30 Y (by mspec k.P;mspec i.P;show Qy c.jf) (by mspec k.P;mspec i.P;show c.Qw) (by mspec G;have:=c.len;show dL [#[30,y,.O 30]] 0 (.w y 30) (.O 900) D this) (by have:=c.len;show dG (a6 (aA G) this) D) x ((mF U).drop 4) Z;show ch c.ex ?_;show o
 have Si:=Qs B (n+2) l K j m d f e h a.h5 b a.gU r k.bq Ss I (by have:=c.len;show dG this D) (λa Sx=>by
  obtain⟨p,F,rfl⟩:=ck Sx;show F5 (I p F).1 (I p F).2) x ((mF U).drop 2) St
 rw[Sh,<-c.ex]at Si;show Si
end
section
variable {U:aW}
noncomputable abbrev jx (cF:aE)(ai:az):aE:=(cF++(ai.G++[(247,.tab hj)]))++[(64,.tab cu),(225,.tab fH),(254,.tab mI)]
def QB (a:aE)(b:az)(c:T)(d:List (Int×v)):(jx a b).Sublist (fe a b c d):=
 List.Sublist.append_left (E0 _ _) _
def F6 (a:aE)(b c d e:T×i):(a++[b,c,d,e]).Perm ([d]++(a++[b,c,e])):=by
 simpa using(show((a++[b,c])++d::[e]).Perm (d::((a++[b,c])++[e]))from vK)
def Ah (b:aR U):eB U 257 (bk 257<|a U) ["sorter","rules","uses","items"] (cf 257<|a U):=
 b.fn V rfl D V rfl (BV λd e f g=>by room)
  (qo V (λb=>D)<|fi V<|qo V (λb=>D)<|qo V (λb=>D) hc) (by decide) (by mspec(show((iA 0 (bk 257<|a U).scope.names []).map (·.1))=(["given","grown","items","uses","sorter"]:h)from by room);decide) c c V
def QC (a:List bG)(b:b5):∀(c:List s)(d:Nat)(e:s)(f:lW),c[d]?=J e->lX a b (c.drop d) f->wq a b e f/\lX a b (c.drop<|d+1) (ti a b e f):=λc d e f h g=>by
 obtain⟨i,rfl⟩:=gG.mp h;rw[rK i]at g;show g
def QD (k:aR U)(x:di U.B 251 247)(n:Nat)(y:T)(X:aZ)(l:aP)(q:List b3)(A:l.cR=J q)(f:aE)(B:ec f q)(C:ew f)(s:b5)(t:List bG)(m r:T)(i u:az)(g:lW)(b:wr i r g u)(E:lX t s [] g):
 N l #[U,n+7,ee U y,X,eG i.x s t m++[(("out":v),bp g.gU)],fe f u m g.h5] ((cf 257<|a U).drop 2) (et U l (jx f i) λo j=>j=.bool z/\∃d,o=jx f d/\fU i d):=by
 show bC λs q=>?_;show cd E λt l u=>?_;show q ?_;clear q s;have q:=b.eu.x;show ch q ?_;mexact N.F4 (ki:=λq o j=>j=.bool z/\∃d,o=fe f d m g.h5/\fU i d) (aU.PD<|aU.dQ (FX k x (n:=n+2) A B C b.bq b.bA (b.P▸t) (bo 0 V) (bo 5 V) (bo 2 V)<|bo 3 V)<|pI ?_) ?_
 .show#[V,aU.Fx (Ac k (n:=n+6) (bo 0 V) b.bq (l▸ey _) #[_,V]) (pI λi=>?_) c];show kN (.bool aj) _ R.p5 ax.PE (by mspec b.bI;mspec b.bW;mspec u;mspec l;mspec decide_eq_false<|Ai _;rfl) (aU.Fx (FW k (n:=n+6) (r:=r) (ag:=[]) (bo 0 V) (by mspec b.bq;show aJ l V) b.bA (λg i=>nomatch i) (ey _) #[_,V]) (λk m o l s=>?_) c);show ci l λk=>?_;show p k λd l=>?_;show ci l λm=>?_;show#[.bR<|([]:h).map .str,_,R.tuple W.nil<|du D,ax.Qr (ag:=[]) (λg i=>nomatch i),V,d,V,b.eu.trans m.eu]
 .intro q g j b;show ci b λk=>?_;show p k λd l=>?_;show ci l λw=>?_;show#[_,jx f d,eJ _,QB ..,λF e=>?_,V,d,V,w];simp only[jx,ij,lY]at e ⊢;rcases e with(e|e|e)|e
  .show .inl<| .inl<|c9 e
  .show .inl<| .inr<| .inl<|w.qK F e
  .show .inl<| .inr<| .inr<|c9 e
  .show .inr<|c9 e
inductive Aj (a:List bG)(a9:b5)(cF:aE)(bu r:T)(b:az)(ag:List s)(Γ:bg)(own:aE):Prop
 |mk (c:az) (aa:lW) (d:aN Γ (eG b.x a9 a bu++[(("out":v),bp aa.gU)])) (e:own=fe cF c bu aa.h5) (f:wr b r aa c) (g:lX a a9 ag aa):Aj a a9 cF bu r b ag Γ own
def QE (i:aR U)(K:di U.B 251 247)(Sf:di U.B 68 64)(Sg:di U.B 227 225)(Sh:di U.B 256 254)(n:Nat)(s:T)(X:aZ)(m:aP)(Si:m.bZ=z)(t:List b3)(L:m.cR=J t)(e:aE)(M:ec e t)(O:ew e)(d:b5)(P:iM d)(f:List bG)(Sj:∀r∈f,r.length<=10)(Sk:f.length<=10)(r:T)(y:h)(b:az)(Sl:b.bq=J (r,y))(Sm:b.bA)(Sn:lX f d (j2 d) #[[],[],b.P,y,b.bW,b.bI]):
 N m #[U,n+7,ee U s,X,[("sorter",.val (.ref b.x)),("rules",.list (f.map eo)),("uses",.dict (cS bp d)),("items",fj)],jx e b] (cf 257<|a U) (et U m (jx e b) λQ w=>w=.bool z/\∃j,Q=jx e j/\fU b j):=by
 mexact N.seq<|E.FB (aU.wd<|e3.step (aU.PH i.CI λg So Ss S=>e3.of (ds:=[bp []]) (W.cons (R.list W.nil<|du D) W.nil V) λSo=>#[du D,.mk λSs k A=>.mk ((u.lO (bi:=fe e b g []) A vK.symm).eh (Γ:=eG b.x d f g++[(("out":v),bp [])])<|aN.cI [2,3,4,5,1,0] rfl) ?_]) V) (.inr #[V,D]) (.inl V) V rfl;mexact N.u7 (Aj f d e g r b []) (E.ms (ce:=λB Γ own=>Aj f d e g r b ((j2 d).drop B) Γ own) (λq q=>False) [] (fe e b g []) V
  (r:=.list<|(j2 d).map bp) (ds:=(j2 d).map bp) (aU.same<|aU.dQ (aU.g4 (ds:=[.dict<|cS bp d]) (i.eW V (by room) V rfl (by decide)) (zY i).at_.choose_spec.1 (zY i).at_.choose_spec.2 (W.cons (R.K 2 V) W.nil V) (PC i Sg (n:=n+3) (keep:=(e++(b.G++[(247,.tab hj)]))++[(g,.dict (e4 [])),(64,.tab cu),(254,.tab mI)]) V rfl d P (F6 _ _ _ _ _)) V c V)<|λSo Q w k=>#[by mspec k.1;show(F6 _ _ _ _ _).symm,k.2])
  (λQ k=>by cases k) (cA.list (.inl<|dN _ _ V) as.list) #[b,#[[],[],b.P,y,b.bW,b.bI],aN.bf _,V,#[fU.bf _,Sm,V,Sl,V,V],Sn] (λw q=>.name<| .inl V) ?_ ?_ (λq=>rfl)) ?_
 .rintro B w o Γ own S hd ⟨j,l,C,rfl,F,G⟩ y H;rw[e8,gl]at hd;obtain⟨p,Sp,rfl⟩:=hd;obtain⟨Sq,Sr⟩:=QC f d _ B p l Sp G;mexact N.dW (eI:=("turn",bp p)::(eG b.x d f g++[(("out":v),bp l.gU)])) (Y:=#[U,n+7,ee U s,o,gp (.Name "turn" #[_,_,_,_]) (bp p) Γ,fe e j g l.h5]) (λw y=>?_) ?_
  .have B:aN (gp (.Name "turn" #[0,0,0,0]) (bp p) Γ) (gp (.Name "turn" #[0,0,0,0]) (bp p)<|eG b.x d f g++[(("out":v),bp l.gU)]):=C.gp _ _;show B w y
  .mexact N.dQ (QA i K Sf Sh n s o (m.at S) Si t L e M O d P f Sj Sk g r p b j l F Sq<|λq q=>False) λI k x=>?_;cases I with
   |next=>
    show bC λq p=>?_;show f3 x λw y B P Q=>?_;show p ?_;clear p q;show#[w,_,_,B,#[y,_,aN.bf _,V,P,Sr],Q]
   |brk=>show x.elim|cont=>show x.elim|ret p=>show x.elim
 .rintro o Γ own k H (Z|I) A
  .rw[Cb<|by simp]at Z;show#[o,Γ,_,H,Z,A]
  .show I.elim
 .rintro o Γ own H ⟨j,l,C,rfl,F,G⟩;show N.dW C<|QD i K n s o m t L e M O d f g r b j l F G
def QF (o:aR U)(t:di U.B 251 247)(u:di U.B 68 64)(v:di U.B 227 225)(w:di U.B 256 254){a:be}{j:aP}{n:Nat}{keep:aE}{ag:List b3}(x:a.d=U)(y:a.O=n+8)(A:j.bZ=z)(B:j.cR=J ag)(C:a.I.frame=J a.I.locals)(D:a.I.scope.kind=.function)(c:aE)(b:az)(E:ec c ag)(F:ew c)(g:b5)(G:iM g)(i:List bG)(H:∀r∈i,r.length<=10)(I:i.length<=10)(r:T)(k:h)(l:b.bq=J (r,k))(K:b.bA)(L:lX i g (j2 g) #[[],[],b.P,k,b.bW,b.bI])
 (M:a.G.Perm (jx c b++keep)):
 dY a j (.ref 257) [.val<| .ref b.x,.list<|i.map eo,.dict<|cS bp g,fj] (λq e f=>f=.bool z/\∃d,e=jx c d++keep):=by
 subst x;show(Ah o).ye (n:=n+7) (ai:=jx c b) (keep:=keep) B y V M (co:=λe f=>f=.bool z/\∃d,e=jx c d)
  (λx q h0 y hd=>by
   have:=QE o t u v w n x q #[h0,a.X,J<|a.I::ag,j.bZ] A (a.I::ag) V ((a.I.locals,.frame y)::c) (E.cons D C hd) (F.cons hd) g G i H I r k b l K L;mexact N.dQ this λa b l=>?_;show bC λO s=>?_;obtain⟨P,f,e,m,Q,R,S⟩:=l;show ao Q λa b=>?_;show p b λd c=>?_;show ao c λb g=>?_;show s ?_;clear s O;show#[P,f,e,m,#[_,b,a,d,V],R,S]) λe f #[m,d,a]=>#[m,d,by show aJ a V]
end
structure pN (Y:be)(a:c6)(aT:ba)(ds:dp):Prop where
 go:∀(aK:cW)(aa:aS)(bM:bY)(bv:bY),dA aK Y.O->cV Y aa.heap->(∀a3 h' b,Q h' aa.heap->aO Y.d (l h' Y.X) a3 ds->au Y.d.M aK (dV aT a3) bM bv {aa with heap:=h',toks:=b})->au Y.d.M aK (eval a Y.I) bM bv aa
section
variable {Y:be}{H:aP}
def pN.g4 {c:v}{h pos:dy}{d:c6}{a:h6}{b:T}{o:eg}{i:iG}{ds:dp}(t:R Y (.Name c h) (.val<| .ref b))(u:Y.d.B.get? b=J o)(hd:o.data=.func i)(w:W Y pos (d::a) ds)
 (y:bh (d::a) Y.I=(aj,eval d Y.I)::bh a Y.I) (G:(cY pos<|bh a Y.I).any (·.1)=aj)
 (B:eval (.Call (.Name c h) (d::a) [] pos) Y.I=(do dP pos (<-eval (.Name c h) Y.I) [] (cY pos<|bh (d::a) Y.I) (jI pos<|jJ [] Y.I))):pN Y (.Call (.Name c h) (d::a) [] pos) (.ref b) ds:=.mk λe j m g n k C=>
 jb (t.go e j _ g n k λh p q l D=>by
  obtain rfl:=D.is;have F:=t0 (M:=Y.d.M) (A:=e) (E:=g) (f:=.ref b) (x:=eval d Y.I) (rest:=cY pos<|bh a Y.I)
   (Q:=λc a=>(a.heap.get? b=J o/\o.data=.func i)/\au Y.d.M e (dV (.ref b) ([]++c.pos) c.kw) m g a) (s:={j with heap:=p,toks:=q})
  have r:=w.go e {j with heap:=p,toks:=q} (λc a=>(a.heap.get? b=J o/\o.data=.func i)/\au Y.d.M e (dV (.ref b) ([]++c) []) m g a) g n (k.keep l) λc h j d p=>
   #[#[((k.keep l).keep d).fq _ _ u,hd],C c h j (l.trans d) p]
  rw[y]at r ⊢;show xi<|F r) B
inductive F7 (Y:be)(H:aP)(dB:aZ)(U a:T)(b:Nat->aX->Prop)(dR:aX)(bP:Nat)(c:Nat->dp)(aa:aS)(cD:Nat)(bS:aS):Prop
 |mk (L:Nat) (j1:v->Option ba) (d:L<=bP) (e:cD=bP+1 - L) (f:cs aa bS H.bZ) (g:b L bS.heap) (h:u H #[Y.d,Y.O,Y.I,dB,Y.q,Y.G] bS.heap) (aw:cO Y.X dR bS.heap) (i:bS.heap.Ns U j1) (j:fA Y.d dB bS.heap a (c L)):F7 Y H dB U a b dR bP c aa cD bS
def F8 {Sr target iter:c6}{q:jN}{pos:dy}{G:List (v×T)}{r:i}{Sv:Type}{ds:List Sv}{SW:Sv->i}{SO:Sv->bg}{SX:ba}(SY:bg)(args:Sv->dp)(Sw:Sv->i)
 (Tu:iT q Y.I=pure G) (Tv:∀Sx∈q.names,Sx.2≠ .cell) (SP:q.kind=.function) (Tw:∀Sx∈q.names,Sx.2=.local->q.names.lookup Sx.1=J .local)
 (Tx:R Y iter r) (Ty:cA Y target r (ds.map SW)) (Tz:∀k,r≠ .val (.ref k)) (TA:ds.length<=aD) (TB:∀s∈ds,jM target (SW s) (SO s)) (SZ:∀s∈ds,∀b∈SO s,q.names.lookup b.1=J .local)
 (TC:∀b∈SY,b∈Y.q/\hB Y.I q G b.1)
 (TD:∀c Z s,s∈ds->pN (eR Y q G c Z<|SO s++SY) Sr SX (args s))
 (TE:∀s∈ds,∀(X:aZ)(own:aE)(SQ:aP),SQ.bZ=H.bZ->SQ.cR=H.cR->dY #[Y.d,Y.O,Y.I,X,Y.q,own++Y.G] SQ SX (args s) (iJ #[Y.d,Y.O,Y.I,X,Y.q,own++Y.G]<|Sw s))
 (TF:∀Sy,iB iter Y.I Sy=pure Sy) (TG:∀TH it TI env,(jL (.ListComp Sr [#[target,iter,[],0]] q pos) TH it TI env).isFrame=aj) {TJ:dy}
 {O:cW} {Sk:aS} {S0:bY} {ic:Option (ba->ia Unit)} {bM:bY} (Sz:je O Y.O Y.I H.cR) (B:u H Y Sk.heap)
 (TK:∀N SR d c,cs Sk N H.bZ->Sk.heap.get? c=ah->Sk.heap.get? d=ah->d≠c->u H #[Y.d,Y.O,Y.I,c::d::Y.X,Y.q,Y.G] N.heap->N.heap.Ns c SR->fA Y.d (c::d::Y.X) N.heap d (ds.map Sw)->xy Y.d.M O S0 ic bM (.ref d) c (.ok .next) N):
 au Y.d.M O (xz (.ListComp Sr [#[target,iter,[],0]] q pos) q Y.I TJ (uc []) aj (eval iter Y.I) ic) bM S0 Sk:=by
 show ub Tu (λn=>xw Tv n G) SP Tw (.of Tx Ty) TF Sz.todA B.tocV λI SO h TL SQ SS SW Sv c d S1 K it P S2=>?_;show cd (P.kU c<|P.kV▸lB _) λU S3 SA=>?_;show cd (P.kU d<|cg _) λW S4 SE=>?_;have SF:d≠c:=P.kV▸g6 (fy _);have Sf:=it.nZ;have Ss:=it.W O Sz.handled;have ST:=B.keep S1;have S5:=P.ns;have S6:=P.xx;have TM:cO Y.X I (n4 Sv q.names):=P.k.fK _;have TN:=ST.BL (dB:=[c,d,h]) (λf a=>by
  show ay (a5 a) (λx=>?_) λa=>?_
  .obtain rfl:=x;show#[U,by show eY S5 λo K K H K=>?_;show dn o H]
  .rcases a5 a with rfl|a
   .show#[W,_,S6]
   .show(bX a)▸#[Sf,it.rL _ _ S2]) P.k
 have P:∀f,I.get? f=ah->f∉Y.X:=λf Sg a=>by show p (ST.cw f a) λo b=>?_;show b6 Sg b
 have Sl:∀f,I.get? f=ah->H.cM.get? f=ah:=λf Sg=>by
  show jA (ST.de f) Sg
 have SG:=P h Sf;have S7:=P d W;have S8:=P c U;have SH:∀f,f∉Y.X->f∉d5 #[Y.d,Y.O,Y.I,c::d::h::Y.X,Y.q,Y.G]:=λf n a=>n<|B.hC f a;have S9:∀f∈Y.X,f∈c::d::h::Y.X:=λf a=>g<|g<|g a;have TO:∀h',cO Y.X I h'->Q (l h'<|c::d::h::Y.X) (l I Y.X):=λh' Sm f o b=>by
  have Sh:=l.of _ _ b;have Ta:f∉Y.X:=λa=>by show b6 (cU _ a) b
  show cb _ (Sm f o Ta Sh) λa=>?_;show ay (a5 a) (λx=>?_) λa=>?_
  .obtain rfl:=x;show b6 U Sh
  .rcases a5 a with rfl|a
   .show b6 W Sh
   .show ay (a5 a) (λx=>?_) λa=>?_
    .obtain rfl:=x;show b6 Sf Sh
    .show Ta a
 show codeAny_loop D
  (F7 Y H (c::d::h::Y.X) c d SS I ds.length (λw=>(ds.take w).map Sw) Sk) ?_ (ds.length+1)
  #[0,_,ey _,V,.up,S2,TN,TM,S5,#[(aRR []),0,S6,.nil]]
 rintro P N ⟨w,SR,Tb,rfl,Tc,Td,Te,TP,Tf,Tg⟩;show au _ O (if(jL (.ListComp Sr [#[target,iter,[],0]] q pos) 0 (.ref h) (.ref d)<|jO q G c Y.I).isFrame then(nY (.ListComp Sr [#[target,iter,[],0]] q pos) 0 (.ref h) (.ref d)<|jO q G c Y.I).onRaise (qb<|jO q G c Y.I)else(nY (.ListComp Sr [#[target,iter,[],0]] q pos) 0 (.ref h) (.ref d)<|jO q G c Y.I).onRaise (λSy=>do t3 Sy (jO q G c Y.I);theTreesLotGoes Sy)) _ _ _;rw[TG];simp only[o4,if_false];show wpAny_noted ?_;rw[BG];show ar<|jK<|ar ?_;by_cases SI:w<ds.length
 .show Ss.item w _ _ _ (by simpa using SI) Td λTh Sn Ti Tj SJ Si=>?_;show ar<|it.xr O (w+1) Sn Th SJ Tj _ _ _ V<|ar ?_;have Tk:cO Y.X I Sn:=λk o n b=>Si k o (λa=>by replace b:=(bX a)▸b;replace b:=Sf▸b;cases b)<|TP k o n b;have TQ:fA Y.d (c::d::h::Y.X) Sn d ((ds.take w).map Sw):=by
   show bC λSm Sj=>?_;obtain⟨E,b,H,r⟩:=Tg;show Sj ?_;clear Sj Sm;show#[E,b,Si _ _ (by simpa using mo SE) H,r.keep<|l.fK Si<|by simp]
  show xp (it.val w Th Tj<|by simpa using SI) λs hd SB P=>?_;show(TB s SB).assign (env:=jO q G c Y.I) (Z:=c::d::h::Y.X) Sz.handled (t4 SP) (λb q=>ua<|SZ s SB b q) ap (P.keep<|TO _ Tk) (Tf.at' λo b=>Si _ o (by simpa using mo SA) b) λSt G Tl q SU TR K=>?_;have Su:cO [c] Sn St:=q;have Tm:=(Te.other i6 (SH h SG) (Sl h Sf) (it.rL _ _ SJ) Si).other ap (SH c S8) (Sl c U) (by show eY SU λo K K H K=>?_;show#[o,H]) Su;have TS:fA Y.d (c::d::h::Y.X) St d ((ds.take w).map Sw):=by
   obtain⟨E,n,H,r⟩:=TQ;show#[E,n,Su _ _ (eO SF) H,r.keep<|l.fK Su<|by simp]
  have TT:cO Y.X I St:=λk o n b=>Su k o (λa=>by replace b:=(bX a)▸b;replace b:=U▸b;cases b)<|Tk k o n b;have q:∃L,St.get? h=J L:=by show p (it.rL _ _ SJ) λL H=>?_;show#[L,Su _ _ (eO SA) H]
  have TU:SS (w+1) St:=Ss.frame _ _ _ SJ λk M o b=>Su k o (λa=>S3<|(bX a)▸M) b;show ar<|BB ?_;show ar (ar<|(TD c _ s SB).go O _ _ _ Sz.todA (cV.eR (Y:=#[Y.d,Y.O,Y.I,c::d::h::Y.X,Y.q,Y.G]) (dB:=[]) (o6:=St) Tm.tocV (Q.bf _) (λf a=>nomatch a) SP SU (SZ s SB) TR TC) λTV So TW Sp TX=>?_);show bC λSm Sj=>?_;show p q λL SK=>?_;have SK:=Sp _ _ SK;have Tn:=SU.keeps Sp;show eY (id Tn) λSq K K SL K=>?_;have SL:So.get? c=J Sq:=SL;obtain⟨E,SM,TY,To⟩:=TS;show Sj ?_;clear Sj Sm;have K:∀(f:T)(own:aE),f∉Y.X->(∀q∈own,q.1≠f)->f∉d5 #[Y.d,Y.O,Y.I,c::d::h::Y.X,Y.q,own++Y.G]:=λf own n P a=>by
   show ay (iE a) (λb=>?_) λG=>ay G (λSr=>?_) λSt=>?_
   .show n<|b▸B.cn.1
   .show p Sr λq G=>?_;show ao G λA b=>?_;show n<|b▸B.cn.2 q A
   .show p St λq G=>?_;show ao G λA b=>?_;show cL A (λA=>?_) λA=>?_
    .show P q A b.symm
    .show n<|b▸(B.G q A).1
  have G:=(Tm.keep Sp).ig (ac:=d) (af:=.aG _) l0 (.aG<|Sp _ _ TY) (Sl d W)<|SH d S7;have Tp:u H #[Y.d,Y.O,Y.I,c::d::h::Y.X,Y.q,[(h,i.aG L),(c,.aG Sq),(d,.aG {cls:=.type "list",data:=.seq E SM})]++Y.G] So:=(G.ig (ac:=c) (af:=.aG _) ap (.aG SL) (Sl c U)<|K c [(d,_)] S8<|λq A=>by show(bX A)▸SF).ig (ac:=h) (af:=.aG _) i6 (.aG SK) (Sl h Sf) (K h [(c,_),(d,_)] SG (λq A=>by
   show ay (a5 A) (λx=>?_) λA=>?_
   .obtain rfl:=x;show SA.symm
   .show(bX A)▸SE.symm))
  show ao Tp.xG λA G=>?_;show(TE s SB (c::d::h::Y.X) [(h,.aG L),(c,.aG Sq),(d,.aG {cls:=.type "list",data:=.seq E SM})] (H.at<|cq So<|d5 #[Y.d,Y.O,Y.I,c::d::h::Y.X,Y.q,[(h,i.aG L),(c,.aG Sq),(d,.aG {cls:=.type "list",data:=.seq E SM})]++Y.G]) V rfl).go O {N with heap:=So,toks:=TW} _ _ TV Sz A TX λSx F TZ q=>?_;have SD:=q.eq.1;have T0:=q.eq.2;have T1:u H #[Y.d,Y.O,Y.I,c::d::h::Y.X,Y.q,Y.G] F.heap:=u.BK (u.CA (Y:=#[Y.d,Y.O,Y.I,c::d::h::Y.X,Y.q,Y.G]) (ng:=[(h,.aG L),(c,.aG Sq),(d,.aG _)]) SD) G;have T2:F.heap.get? h=J L:=(SD.G (h,.aG L) ap).2.kk;have T3:F.heap.get? d=J {cls:=.type "list",data:=.seq E SM}:=(SD.G (d,.aG _) i6).2.kk;have SV:∀k o,k∉c::d::h::Y.X->So.get? k=J o->F.heap.get? k=J o:=λk o n b=>SD.de k o<|cb _ b λa=>n<|Tp.hC k a;have T4:Q (l F.heap<|c::d::h::Y.X) (l So<|c::d::h::Y.X):=λf o b=>by
   have n:f∉c::d::h::Y.X:=λa=>by show b6 (cU _ a) b
   show cb _ (SV f o n<|l.of _ _ b) n
  have T5:F.heap.Ns c Tl:=Tn.at' λo b=>by
   have Sh:So.get? c=J o:=b;replace Sh:=SL▸Sh;cases Sh;show((SD.G (c,.aG Sq) l0).2.kk:F.heap.get? c=J Sq)
  have T6:E.size<=aD:=by
   have:=To.length;replace this:=rR▸this;mspec this;rw[a7];mspec g8;show a6 (ml w ds.length) TA
  have T7:∀k,k∈TL->k≠h->k∉c::d::h::Y.X:=λk M n a=>by
   show ay (a5 a) (λx=>?_) λa=>?_
   .obtain rfl:=x;show S3 M
   .rcases a5 a with rfl|a
    .show S4 M
    .show ay (a5 a) (λx=>?_) λa=>?_
     .obtain rfl:=x;show n V
     .rcases it.Bz k M with b|b|b
      .show n b
      .show b a
      .show Tz k b
  have T8:SS (w+1) F.heap:=Ss.frame _ _ _ (Ss.frame _ _ _ TU λk M o b=>Sp k o b) λk M o b=>by
   by_cases q:k=h
   .show q▸(fS<|SK.symm.trans<|q▸b)▸T2
   .show SV k o (T7 k M q) b
  have T9:cO Y.X I F.heap:=λk o n b=>by
   show SV k o (λa=>?_)<|Sp _ _<|TT k o n b;show ay (a5 a) (λx=>?_) λa=>?_
   .obtain rfl:=x;show b6 U b
   .rcases a5 a with rfl|a
    .show b6 W b
    .show ay (a5 a) (λx=>?_) λa=>?_
     .obtain rfl:=x;show b6 Sf b
     .show n a
  show ar<|uf T3 (λq Tq Tr=>bc<|bc ?_) T6;have SN:cO [d] F.heap q:=λk o n b=>Tq.extBut k o (by simpa using n) b;have Ts:Q (l q<|c::d::h::Y.X) (l F.heap<|c::d::h::Y.X):=l.fK SN (by simp);show#[V,ds.length+1 - (w+1),by show c7 [.aL t<| .S C aV,.j (.S y<| .e aV)<| .e t] 0 (.e y) C D (e0<|cg<|ds.length+1 - w)<|aA<|fa (n:=ds.length+1) (m:=w+1)<|b9 [.j y C] 0 (.e y) (.e C) D Tb,w+1,Tl,SI,V,(Tc.trans<|cs.up.trans TZ).gH,Ss.frame _ _ _ T8 λk M o b=>SN k o (λa=>S4 (by show ch (bX a) ?_;show M)) b,T1.other l0 (SH d S7) (Sl d W) #[_,Tr] SN,λk o n b=>SN k o (λa=>by replace b:=(bX a)▸b;replace b:=W▸b;cases b)<|T9 k o n b,T5.sameBut Tq<|mo SF,?_];mspec qe;mspec hd;simp only[Option.toList_some,eX,b8,m9];show#[_,_,Tr,aO.push (((To.keep<|l.keep _ Sp).keep T4).keep Ts)<|T0.keep Ts]
 .obtain rfl:w=ds.length:=c1 Tb<|g7.mp SI;show Ss.done _ _ _ (by simpa using Td) λSn Ti Si=>bc ?_;have Ua:=Te.n5 (X:=h::c::d::Y.X) (λf a=>by
   show gg a ?_ λa=>?_
   .simp
   .show gg a ?_ λa=>?_
    .simp
    .show gg a ?_ λa=>?_
     .simp
     .show S9 f a) (λf a=>g<|g<|g<|B.hC f a) λf a=>g<|g<|g<|B.sub f a
  have Ub:h∉c::d::Y.X:=λa=>by
   show ay (d2 a) (λb=>?_) λa=>?_
   .show SA b
   .show ay (d2 a) (λb=>?_) λa=>?_
    .show SE b
    .show SG a
  have Tt:∀f,I.get? f=ah->Sk.heap.get? f=ah:=λf Sg=>by
   show jA (S1 f) Sg
  show bC λSm Sj=>?_;obtain⟨E,b,Uc,r⟩:=Tg;show Sj ?_;clear Sj Sm;replace r:=iU▸r;have k:cO [h] N.heap Sn:=Si;show TK {N with heap:=Sn,toks:=Ti} SR d c Tc.gH (Tt _ U) (Tt _ W) SF (u.drop (Y:=#[Y.d,Y.O,Y.I,c::d::Y.X,Y.q,Y.G]) (cz:=h) Ua (λf a=>g<|g<|B.hC f a) Ub (λa=>SG<|B.hC h a) (Sl h Sf) (λf a=>g<|g<|B.sub f a) Si) (Tf.at' λo b=>k _ o (by simpa using mo SA) b) #[E,b,k _ _ (by simpa using mo SE) Uc,r.keep λf o Sg=>?_];have n:f∉c::d::h::Y.X:=λa=>by show b6 (cU _ a) Sg
  show cb _ (k f o (λa=>n (by show kI a ?_;simp))<|l.of _ _ Sg) λa=>n ?_;show gg a ?_ λa=>?_
  .simp
  .show gg a ?_ λa=>?_
   .simp
   .show S9 f a
def aU.QG {m target iter:c6}{c:jN}{pos:dy}{p:List (v×T)}{r:i}{j:Type}{ds:List j}{dE:j->i}{cP:j->bg}{aT:ba}(q:bg)(args:j->dp)(s:j->i)
 (C:iT c Y.I=pure p) (D:∀k∈c.names,k.2≠ .cell) (E:c.kind=.function) (F:∀k∈c.names,k.2=.local->c.names.lookup k.1=J .local)
 (G:R Y iter r) (I:cA Y target r (ds.map dE)) (K:∀t,r≠ .val (.ref t)) (L:ds.length<=aD) (M:∀b∈ds,jM target (dE b) (cP b)) (N:∀b∈ds,∀d∈cP b,c.names.lookup d.1=J .local)
 (O:∀d∈q,d∈Y.q/\hB Y.I c p d.1)
 (P:∀h Z b,b∈ds->pN (eR Y c p h Z<|cP b++q) m aT (args b))
 (Q:∀b∈ds,∀(X:aZ)(own:aE)(w:aP),w.bZ=H.bZ->w.cR=H.cR->dY #[Y.d,Y.O,Y.I,X,Y.q,own++Y.G] w aT (args b) (iJ #[Y.d,Y.O,Y.I,X,Y.q,own++Y.G]<|s b))
 (S:∀y,iB iter Y.I y=pure y) (U:∀W it x env,(jL (.ListComp m [#[target,iter,[],0]] c pos) W it x env).isFrame=aj):aU Y H (.ListComp m [#[target,iter,[],0]] c pos) (iJ Y<| .list<|ds.map s):=.mk λc j k m b e d=>by
 rw[uj];show F8 (ic:=ah) q args s C D E F G I K L M N O P Q S U b e ?_;intro k b Sf h Sg l Sh Si c j x;show av b j<|λSj A=>?_;have B:=mm e.tocV l;have Sk:=c.n5 (X:=h::Y.X) (λf a=>by
  show gg a ?_ λa=>?_
  .simp
  .show g<|g a) (λf a=>g<|e.hC f a) λf a=>g<|e.sub f a
 have Sl:u H Y Sj:=u.drop Sk (λf a=>e.hC f a) B (λa=>B<|e.hC h a) (by
  cases d:H.cM.get? h with
  |none=>rfl|some o=>replace l:=(e.de h o d)▸l;cases l) e.sub λt o n d=>A.extBut t o (by simpa using n) d
 show d (.ref Sf) _ Sg.gH #[_,_,_,(cH V rfl rfl),λf a=>a,Sl,x.dW.uh A Si<|mm e.tocV Sh]
def E.QH {b:v}{x F:dy}{G:db}{s target iter:c6}{c:jN}{pos:dy}{y:List (v×T)}{r:i}{m:Type}{ds:List m}{dE:m->i}{cP:m->bg}{aT:ba}(A:bg)(args:m->dp)(k:m->i)(L:fM Y.I b)
 (M:f6 (.ListComp s [#[target,iter,[],0]] c pos) (J<| .Name b x) F.line Y.I=pure z)
 (N:iT c Y.I=pure y) (O:∀b∈c.names,b.2≠ .cell) (P:c.kind=.function) (Q:∀b∈c.names,b.2=.local->c.names.lookup b.1=J .local)
 (S:R Y iter r) (U:cA Y target r (ds.map dE)) (V:∀B,r≠ .val (.ref B)) (W:ds.length<=aD) (Sf:∀d∈ds,jM target (dE d) (cP d)) (Sg:∀d∈ds,∀e∈cP d,c.names.lookup e.1=J .local)
 (Sh:∀e∈A,e∈Y.q/\hB Y.I c y e.1)
 (Si:∀h Z d,d∈ds->pN (eR Y c y h Z<|cP d++A) s aT (args d))
 (Sj:∀d∈ds,∀(X:aZ)(own:aE)(C:aP),C.bZ=H.bZ->C.cR=H.cR->dY #[Y.d,Y.O,Y.I,X,Y.q,own++Y.G] C aT (args d) (iJ #[Y.d,Y.O,Y.I,X,Y.q,own++Y.G]<|k d))
 (Sk:∀I,iB iter Y.I I=pure I) (Sl:∀Sm it D env,(jL (.ListComp s [#[target,iter,[],0]] c pos) Sm it D env).isFrame=aj):
 E Y H (.Assign [.Name b x] (.ListComp s [#[target,iter,[],0]] c pos) F) (c2 (u H #[Y.d,Y.O,Y.I,Y.X,bl b (.list<|ds.map k) Y.q,Y.G]) G):=.mk λm c s d f=>by
 mspec BM _ _ _ _ M;show ar<|jK<|ar ?_;show ar (dr (F8 (ic:=J<|BN (.Name b x) Y.I) (bM:=λt q=>cs c q H.bZ/\c2 (u H #[Y.d,Y.O,Y.I,Y.X,bl b (.list<|ds.map k) Y.q,Y.G]) G .next q.heap)
  A args k N O P Q S U V W Sf Sg Sh Si Sj Sk Sl d f ?_) (λt q c=>bc<|bc c) λt t H=>H)
 intro q Sn So h Sp K Sq Sr c Ss D;have w:=mm f.tocV K;have St:=c.n5 (X:=h::Y.X) (λj a=>by
  show gg a ?_ λa=>?_
  .simp
  .show g<|g a) (λj a=>g<|f.hC j a) λj a=>g<|f.sub j a
 have Su:bb Y.d (l q.heap<|h::Y.X) (.ref So) (.list<|ds.map k):=by
  obtain⟨Sv,n,H,r⟩:=D.dW;show bb.list (a3:=Sv.toList) #[n,cb _ H λa=>?_] r;show ay (d2 a) (λe=>?_) λa=>?_
  .show Sr e
  .show(mm f.tocV Sq) a
 show iz<|u.gn (Y:=#[Y.d,Y.O,Y.I,h::Y.X,Y.q,Y.G]) St L Su λq s j t c d m=>?_;have q:h≠j:=λe=>by
  show ay c (λc=>?_) λs=>?_
  .show w (by mspec e;mspec c;show f.cn.1)
  .show p s λt x=>?_;show ao x λs c=>?_;show w (by mspec e;mspec c;show f.cn.2 t s)
 show av Sn (Ss.sameBut d q)<|λh' c=>#[Sp.gH,?_];show u.drop (Y:=#[Y.d,Y.O,Y.I,Y.X,bl b (.list<|ds.map k) Y.q,Y.G]) m (λj a=>f.hC j a) w (λa=>w<|f.hC h a) ?_ f.sub λB o n e=>c.extBut B o (by simpa using n) e;show jA (f.de h) K
end
noncomputable abbrev lm:List (dy×v):=[(#[309,0,309,24],"law.<locals>.<lambda>"),(#[312,0,312,23],"law.<locals>.<lambda>"),(#[313,0,313,24],"law.<locals>.<lambda>")]
noncomputable abbrev dJ:aE:=[(247,.tab hj),(64,.tab cu),(225,.tab fH),(254,.tab mI),(259,.tab lm)]
noncomputable def d6 (a:s):List bG:=(en 0<|2+((a.take 3).length:Int)).map λam=>qA a am.toNat
def ws (a:s):(d6 a).length=2+(a.take 3).length:=by
 unfold d6 en;rw[a7,a7];mspec jQ;lia
section
variable {U:aW}
noncomputable abbrev gf (U:aW)(ca aT:T):b3:=bV (bk 262<|a U) ca aT
noncomputable abbrev hP (a:s)(b:i)(ae:T):bg:=[("script",.list (a.map .int)),("rules",.list ((d6 a).map eo)),("items",fj),("uses",.dict (cS bp<|bn<|d6 a)),("ring",b),("sorter",.val (.ref ae))]
def QI (d:aR U)(n:Nat)(e q:T)(X:aZ)(t:aP)(b:s)(L:b.length<=63)(v:∀r∈d6 b,r≠[]/\r.length<=10)(w:iM (bn<|d6 b))(u:db)
 (f:∀l g m o,(∀k∈X,k∈l)->N t #[U,n+12,gf U e q,l,hP b (ku<|hJ<|bn<|d6 b) g,(nk g m o).G++dJ] ((cf 262<|a U).drop 4) u):
 N t #[U,n+12,gf U e q,X,[("script",.list (b.map .int))],dJ] (cf 262<|a U) u:=by
 have e:(b.take 3).length<=3:=by mspec g8;lia
 have x:(d6 b).length<=10:=by rw[ws];show dL [.j y<| .O 3] 0 (.S (.O 2) y) (.O 10) D e
 mexact N.seq (E.FB (aU.wd<|e3.fV (af:=.list<|(d6 b).map eo) (aU.of<|R.of_eq (R.iD (ds:=en 0<|2+((b.take 3).length:Int)) (dE:=i.int) (cP:=λf=>[("k",.int f)]) [("script",.list (b.map .int))] (λe=>z) (λf=>eo<|qA b f.toNat) V (by decide) V (by decide)
  (r:=.iy 0 (2+((b.take 3).length:Int)) 1) (R.mX (ds:=[.int<|2+((b.take 3).length:Int)]) (d.eZ V rfl (by room) (by decide) V rfl rfl (by decide)) (W.cons (R.add R.bK<|R.of_eq (R.jH (ds:=[.list<|(b.take 3).map .int]) (d.eZ V rfl (by room) (by decide) V rfl rfl (by decide)) (W.cons ?_ W.nil V) (bO.len as.list (by rw[a7];show gu)) V c V)<|by rw[a7]) W.nil V) bO.uq V c V)
  (cA.rO (by decide) (by decide) (by show f2 _)<|by omega) (by unfold en;rw[a7];mspec jQ;unfold aD;lia) (λA e=>.name _ _ _) (hg V) (gv (bo 0 V) V (.inl V) (.inl V) f7) (λe e e e=>rfl) (λq Z f B e=>?_) (λe=>rfl) (λe e e e=>c)) ?_)
  (λC=>e3.fV (aU.Cy (aw:=a U) d.bD (d.eW V (by room) V rfl (by decide)) (by room) (dY.of<|Iw d (n:=n+11)) V) (λF=>e3.of W.nil λe l=>#[du D,.mk λH l e=>.mk e ?_]) V) V) (.inl V) (.inr #[V,D]) V rfl)
 .show R.of_eq (R.jE (nX:=J 3) (ds:=b.map .int) (R.K 0 V) as.list V R.bK V .none (.int _) .none (by decide) (by rw[a7];unfold aD;show b1)) ?_;rw[kZ];show aJ (show fg b ah (J 3) ah=b.take 3 from xZ _ 3) V
 .obtain⟨h,I,K⟩:∃h:Nat,f=h/\h<5:=by
   show p (xL.mp B) λl e=>?_;show ao (D5 e) λC F=>?_;show av f.toNat (by lia) (by omega)
  subst I;show R.g4 (ds:=[.list<|b.map .int,.int h]) (d.eW V (by room) V rfl (by decide)) (x0 d).at_.choose_spec.1 (x0 d).at_.choose_spec.2 (W.cons (R.K 1 V) (W.cons (R.K 0 V) W.nil V) V) (IS d (n:=n+11) b h K<|by show b1) V c V
 .rw[jh];unfold d6;rw[d9];rfl
 mexact N.br (E.assign (af:=.dict<|cS bp<|bn<|d6 b) (R.g4 (ds:=[.list<|(d6 b).map eo]) (d.eW V (by room) V rfl (by decide)) (yu d).at_.choose_spec.1 (yu d).at_.choose_spec.2 (W.cons (R.K 1 V) W.nil V) (JN d (n:=n+10) (d6 b) v x) V c V) (.inl V) V) ?_;mexact N.br (E.assign (af:=ku<|hJ<|bn<|d6 b) (R.g4 (ds:=[.dict<|cS bp<|bn<|d6 b,fj]) (d.eW V (by room) V rfl (by decide)) (y9 d).at_.choose_spec.1 (y9 d).at_.choose_spec.2 (W.cons (R.K 0 V) (W.cons (R.K 1 V) W.nil V) V) (L0 d (n:=n+10) _ w) V c V) (.inl V) V) ?_;mexact N.kj (aU.Cy (aw:=a U) d.bD (d.eW V (by room) V rfl (by decide)) (by room) (KU d (n:=n+10) V rfl) V) (.inr #[V,D]) V ?_;intro d h A e;show kL e λg m o h=>?_;show j4 h ?_;intro e;show N.dW (eI:=hP b (ku<|hJ<|bn<|d6 b) g) (aN.cI [5,4,3,2,1,0] rfl)<|f d g m o λk h=>e k<|H k h
end
section
variable {Y:be}{H:aP}
def dY.same (g:dY Y H k ds (λa b e=>b.Perm Y.G/\e=r)):dY Y H k ds (iJ Y r):=.mk λh i j k m n c d o=>
 g.go h i j k m n c d λp q s #[a,b,e,#[t,hd],f,v,d]=>by
  subst hd;have h:=u.n5 (Y:=#[Y.d,Y.O,Y.I,a,Y.q,Y.G]) (X:=Y.X) (u.lO (Y:=#[Y.d,Y.O,Y.I,a,Y.q,b]) v t) f (λg e=>c.hC g e) c.sub;show o p q s #[Y.X,Y.G,_,(cH V rfl rfl),λg e=>e,h,d.keep<|l.sub f]
end
noncomputable def Ak (r:bG):v:=dD ""<|r.map<|eN []
noncomputable abbrev dU (r:bG):s:=r.map (·.1)
structure Al (r:bG):Prop where
 len:r.length<=10
 wl:∀ak∈r,(0<=ak.1/\ak.1<8)/\0<=ak.2/\ak.2.toNat<(lj ak.1).length
 wm:((r.map<|eN []).map (·.length)).sum<=100000
 fP:∃fP:List ed,Ak r=aB (cc fP)/\(∀it∈fP,it.ok=z)/\(cc fP).length<=100000/\fP.length<=1000/\dw fP=fd (dU r)
noncomputable def fZ (r:bG):h:=(fd<|dU r).map λak=>ak.getD "*"
section
variable {U:aW}
noncomputable abbrev tj (U:aW):List cC:=lC (cf 262<|a U) 4
def wt (own a:aE):(own++(a++dJ)).Perm ([(64,i.tab cu)]++(own++(a++[(247,i.tab hj),(225,i.tab fH),(254,i.tab mI),(259,i.tab lm)]))):=by
 have b:((own++(a++[(247,i.tab hj)]))++(64,i.tab cu)::[(225,i.tab fH),(254,i.tab mI),(259,i.tab lm)]).Perm ((64,i.tab cu)::((own++(a++[(247,i.tab hj)]))++[(225,i.tab fH),(254,i.tab mI),(259,i.tab lm)])):=vK;simpa using b
noncomputable abbrev kC (r:bG):i:=.list<|[r.take 1,r.drop 1].map λa=>.list<|(fd<|dU a).map<|c5 .none
def QJ (f:aR U)(M:di U.B 68 64)(n:Nat)(w x:T)(X:aZ)(k:aP)(N:k.bZ=z)(y:s)(B:i)(C:T)(r:bG)(P:r.length<=10)(F:∀b∈[r.take 1,r.drop 1],Al b)(own:aE)(Q:db):
 E #[U,n+12,gf U w x,X,("rule",eo r)::hP y B C,own++dJ] k (hT (tj U) 0)
  (c2 (u k #[U,n+12,gf U w x,X,bl "told" (kC r)<|("rule",eo r)::hP y B C,own++dJ]) Q):=by
 show E.QH (ds:=[r.take 1,r.drop 1]) (dE:=eo) (cP:=λb=>[("pairs",eo b)]) (aT:=.ref 69) [("items",fj)] (λb=>[.str<|Ak b,.none,.str<|aB [46]]) (λb=>.list<|(fd<|dU b).map<|c5 .none) (.inl V) V rfl (by decide) V (by decide) (r:=.list [eo<|r.take 1,eo<|r.drop 1])
  (R.list (W.cons (R.of_eq (R.jE (nX:=J 1) (ds:=r.map iV) (R.K 0 V) as.list V R.bK V .none (.int _) .none (by decide) (by rw[a7];unfold aD;show b1)) (by rw[kZ];show aJ (show fg r ah (J 1) ah=r.take 1 from xZ _ 1) V)) (W.cons (R.of_eq (R.jE (mU:=J 1) (ds:=r.map iV) (R.K 0 V) as.list R.bK V rfl (.int _) .none .none (by decide) (by rw[a7];unfold aD;show dG P D)) (by rw[kZ];show aJ (show fg r (J 1) ah ah=r.drop 1 from r6 _ 1) V)) W.nil V) V)<|du D)
  (cA.list (.inl<|dN _ _ V) as.list) (λk g=>by cases g) (du D) (λG a=>.name _ _ _) (hg V) (gv (bo 3 V) V (.inl V) (.inl V) f7) (λk Z b l=>?_) (λb l k H w S x=>?_) (λa=>rfl) (λa a a a=>c)
 .have m:=F b l;show pN.g4 (ds:=[.str<|Ak b,.none,.str<|aB [46]]) (f.eW V (by room) V rfl (by decide)) (nD f).at_.choose_spec.1 (nD f).at_.choose_spec.2 (W.cons (R.jg (ds:=[.list<|(b.map<|eN []).map .str]) R.cy (fB.str so sp) (W.cons ?_ W.nil V) (bO.rZ as.list ?_) V c V) (W.cons R.gF (W.cons (R.of_eq R.cy<|by room) W.nil V) V) V) V c V
  .show R.of_eq (R.iD (ds:=b) (dE:=iV) (cP:=λd=>[("x",.int d.1),("dress",.int d.2)]) [("items",fj)] (λa=>z) (λd=>.str<|eN [] d) V (by decide) V (by decide) (r:=eo b) (R.K 0 V) (cA.list (.inr #[_,_,_,V]) as.list) (by have:=m.len;unfold aD;show b1) (λG a=>.n0<|by decide) (uv V rfl) (gv (bo 1 V) V (.inl V) (.inl V) f7) (λa a a a=>rfl) (λw x d k a=>?_) (λa=>rfl)<|λa a a a=>c) (by rw[jh];mspec d9;rfl);show cd (m.wl d k) λw x hd=>?_;show ao w λh0 o=>?_;show g2 (wf h0 o) λI K a Y=>?_;show p (py x) λh q=>?_;have t:h<(lj d.1).length:=by rw[q]at hd;simpa using hd
   mspec(show eN [] d=(lj d.1)[h] by unfold eN;show aJ q ?_;simp[t]);show R.item (L:=.int h) (R.item (L:=.int 1) (R.item (L:=.int I) (R.K 2 V) (R.of_eq (R.K 0 V)<|congrArg i.int K)<|b7.list as.list Y<|dH.mp<|bj [↑I,d.fst] [.aL aC<| .O 8,.j A aC] 0 (.e A) (.O 9223372036854775808) D o (c4 (K).symm:)) R.bK<|b7.list (cD:=1) as.list V<|by simp+arith) (R.of_eq (R.K 1 V)<|congrArg i.int q) (b7.list (cD:=h) as.list (by mspec e8;mspec gm t;rfl) (by have:=wg h0 o;show dG (a6 (t)<|aA this) D))
  .mspec(show((("":v)).length)=0 by decide);rw[yy];have:=m.wm;show b1
 .show Hq ((F b l).fP) λa d h k o m=>?_;mspec d;show ch m ?_;show dY.same (dY.dQ (vY f M (n:=n+10) V rfl (by mspec S;show aJ N V) a h k (by show b1) .none .none (wt H own)) λb d G g=>#[by show g.1▸(wt H own).symm,g.2])
end
noncomputable def kD (r:bG):v:=a4<|(dU r).headD 0
noncomputable def wu (b0:dl)(r:bG):dl:=mw (mw b0 (kD r)<|fZ r.tail) (kD r) [(fZ r.tail).headD ""]
structure pO (r:bG):Prop where
 len:r.length<=6
 kO:r.tail≠[]
 head:∃an,(dU<|r.take 1)=[an]/\0<an
 row:∀a∈[r.take 1,r.drop 1],Al a
def F9 (b:pO r):fd (dU<|r.take 1)=[J<|kD r]:=by
 show aY b.head λe f c=>?_;obtain⟨a,d,rfl⟩:∃a d,r=a::d:=by
  cases r with
  |nil=>show absurd V b.kO|cons a r=>show dN a r V
 have g:a.1=e:=by simpa using f
 subst g;have:gL [a.1]=[a.1]:=by
  unfold gL;show(?_:(((en 0 1).filter _).map _)=_);mspec(show en 0 1=[0] by rfl);simp[Int.ne_of_gt c]
 show(?_:fd [a.1]=_);unfold fd;mspec this;simp[kD,Int.ne_of_gt c]
def QK (d:pO r):∃a b,fZ r.tail=a::b:=by
 have e:fZ r.tail≠[]:=λc=>by
  unfold fZ fd at c;rw[s6,s6,wh]at c;show z4 (λf=>d.kO<|s6.mp f) c
 cases hn:fZ r.tail with
 |nil=>show absurd hn e|cons a b=>show dN a b V
def Ga (c:fD k m)(a:v)(b:h):fD (k+b.length) (mw m a b):=yN a b<|Dc (va c a) a _
def Gb (a:s):(gL a).length<=a.length:=by
 unfold gL;rw[a7];show a6 (qf _ _) (by simp[en])
def Am (r:bG):(fZ r).length<=r.length:=by
 unfold fZ fd;rw[a7,a7];show a6 (Gb _) (by simp)
section
variable {U:aW}
def QL (l:aR U)(n:Nat)(a e:T)(X:aZ)(f:aP)(Γ:bg)(r:bG)(h:r.length<=10)(own:aE)(j:db):
 E #[U,n+12,gf U a e,X,("told",kC r)::Γ,own] f (hT (tj U) 1)
  (c2 (u f #[U,n+12,gf U a e,X,bl "names" (.list<|(fZ r.tail).map .str)<|("told",kC r)::Γ,own]) j):=by
 have k:(fd<|dU<|r.drop 1).length<=r.length:=by
  unfold fd;rw[a7];show a6 (Gb _) (by simp)
 have e:((fZ r.tail).map i.str)=((fd<|dU<|r.drop 1).filter λa=>z).map λb=>i.str (b.getD "*"):=by
  rw[jh];unfold fZ;mspec d9;mspec PK;rfl
 mspec e;show E.xH (ds:=fd<|dU<|r.drop 1) (dE:=c5 .none) (cP:=λb=>[("part",c5 .none b)]) [] (λa=>z) (λb=>.str<|b.getD "*") (.inl V) V rfl (by decide) V (by decide) (r:=.list<|(fd<|dU<|r.drop 1).map<|c5 .none)
  (R.item (L:=.int 1) (R.K 0 V) R.bK<|b7.list (cD:=1) as.list V<|by decide)
  (cA.list (.inl<|dN _ _ V) as.list) (by unfold aD;show dG (a6 k h) D) (λe a=>.name _ _ _) (hg V) f7 (λa a a a=>rfl) (λe Z b f a=>?_) (λa=>rfl) (λa a a a=>c)
 show R.kP (al:=(c5 .none b).isNone) (a1.bL (R.K 0 V) R.gF ax.oX c) (λd=>?_)<|λd=>?_
 .cases b with
  |none=>show R.cy|some g=>cases d
 .cases b with
  |none=>cases d
  |some g=>show R.of_eq (af:=c5 .none<|J g) (R.K 0 V) V
def ro {a b:aE}(c:k∈a):k∈a++b:=bJ c
def QM (l:aR U)(n:Nat)(m o:T)(X:aZ)(q:aP)(Γ:bg)(r:bG)(s:pO r)(b:az)(x:b.bq=ah)(A:b.bA)(B:b.bt.length<=800)(h:Nat)(E:fD h b.P)(F:h<=800)(G:(("sorter":v),i.val (.ref b.x))∈Γ)(u:db)(w:List cC)
 (H:∀d e,(∀I∈X,I∈d)->kp b (mw b.P (kD r)<|fZ r.tail) (1+(fZ r.tail).length) e->N q #[U,n+12,gf U m o,d,("names",.list ((fZ r.tail).map .str))::("told",kC r)::Γ,e.G++dJ] w u):
 N q #[U,n+12,gf U m o,X,("names",.list ((fZ r.tail).map .str))::("told",kC r)::Γ,b.G++dJ] ((hT (tj U) 2)::w) u:=by
 have f:=Am r.tail;have k:=s.len;rw[ra]at f;have hd:kC r=.list [.list [.str<|kD r],.list<|(fd<|dU<|r.drop 1).map<|c5 .none]:=by
  unfold kC;mspec b8;mspec F9 s;rfl
 mspec hd;mexact N.Cq (aU.Ma (aw:=a U) (ds:=[.str<|kD r]) (zc:=(fZ r.tail).map .str) l.bD (ro b.eK) (ro b.eT) (by rfl) yE Mc (R.name (g<|g G) (by decide)<|by decide) (R.item (L:=.int 0) (R.K 1 V) R.bK<|b7.list (cD:=0) as.list V<|by decide) (mA.list<|du D) (R.K 0 V) (mA.list (by rw[a7];unfold aD;show dG (a6 (a6 f<|fC (fL r) 1) k) D))
  (Dh l (n:=n+8) (keep:=dJ) V rfl b (kD r) (fZ r.tail) x A (c7 [.j y<| .O 800,.j C t,.j aV<| .O 6,.j t aV] 0 (.S y C) (.O 900) D B f k<|fC (fL r) 1) h E (c7 [.j y<| .O 800,.j C t,.j aV<| .O 6,.j t aV] 0 (.S y C) (.O 900) D F f k<|fC (fL r) 1) (eJ _)) V rfl rfl) c V ?_
 intro d f h b;show ao b λh f=>?_;show p f λe b=>?_;show ci b λf=>?_;intro b;show ch hd ?_;show H d e b f
def QN (l:aR U)(n:Nat)(m o:T)(X:aZ)(q:aP)(Γ:bg)(r:bG)(h:pO r)(b:az)(w:b.bq=ah)(x:b.bA)(C:b.bt.length<=800)(j:Nat)(y:fD j b.P)(D:j<=800)(A:(("sorter":v),i.val (.ref b.x))∈Γ)(s:db)(t:List cC)
 (k:∀d e,(∀f∈X,f∈d)->kp b (mw b.P (kD r) [(fZ r.tail).headD ""]) 2 e->N q #[U,n+12,gf U m o,d,("names",.list ((fZ r.tail).map .str))::("told",kC r)::Γ,e.G++dJ] t s):
 N q #[U,n+12,gf U m o,X,("names",.list ((fZ r.tail).map .str))::("told",kC r)::Γ,b.G++dJ] ((hT (tj U) 3)::t) s:=by
 have hd:kC r=.list [.list [.str<|kD r],.list<|(fd<|dU<|r.drop 1).map<|c5 .none]:=by
  unfold kC;mspec b8;mspec F9 h;rfl
 show cm (QK h) λf m u=>?_;have B:=Am r.tail;have m:=h.len;rw[ra,u,eC]at B;rw[u]at k ⊢;rw[hd]at k ⊢;mexact N.Cq (aU.yn (aw:=a U) (ds:=[.str<|kD r,.str f]) l.bD (ro b.eK) (ro b.eT) (by rfl) yE (R.name (g<|g A) (by decide)<|by decide) (W.cons (R.item (L:=.int 0) (R.item (L:=.int 0) (R.K 1 V) R.bK<|b7.list (cD:=0) as.list V<|by decide) R.bK<|b7.list (cD:=0) as.list V<|by decide) (W.cons (R.item (L:=.int 0) (R.K 0 V) R.bK<|b7.list (cD:=0) as.list V<|by decide) W.nil V) V)
  (KO l (n:=n+8) (keep:=dJ) V rfl b (kD r) [f] w x (by mspec gw;show gu) j y (by mspec gw;show gu) (eJ _)) V c V) c V ?_
 intro d f h b;show ao b λh f=>?_;show p f λe b=>?_;show ci b λf=>?_;intro b;show k d e b f
end
structure Gc (x:T)(a:List bG)(L:Nat)(ai:az):Prop where
 x:ai.x=x
 bA:ai.bA
 bq:ai.bq=ah
 P:ai.P=(a.take L).foldl wu []
 bW:ai.bW=0
 bI:ai.bI=0
 bt:ai.bt.length<=12*L
 rn:fD (12*L) ai.P
inductive An (a:s)(b:i)(ae:T)(L:Nat)(Γ:bg)(own:aE):Prop
 |mk (ai:az) (c:aN Γ (hP a b ae)) (d:own=ai.G++dJ) (e:Gc ae (d6 a) L ai):An a b ae L Γ own
section
variable {U:aW}
def QO (w:aR U)(Sj:di U.B 68 64)(n:Nat)(o k:T)(X:aZ)(p:aP)(Sk:p.bZ=z)(b:s)(Si:(d6 b).length<=10)(Sm:∀r∈d6 b,pO r)(d:i)(c h K:T)(Z:db)(L:List cC)
 (Sn:∀Sg l,(∀x∈X,x∈Sg)->Gc c (d6 b) (d6 b).length l->N p #[U,n+12,gf U o k,Sg,hP b d c,l.G++dJ] L Z):
 N p #[U,n+12,gf U o k,X,hP b d c,(nk c h K).G++dJ] ((hT (cf 262<|a U) 4)::L) Z:=by
 mexact N.u7 (An b d c (d6 b).length) (E.ms (ce:=An b d c) (λM M=>False) [] ((nk c h K).G++dJ) V
  (r:=.list<|(d6 b).map eo) (ds:=(d6 b).map eo) (aU.of<|R.K 1 V)
  (λL A=>by cases A) (cA.list (.inl<|dN _ _ V) as.list) #[nk c h K,aN.bf _,V,V,List.Pairwise.nil,V,V,V,V,ey _,λSh P=>nomatch P] (λSo M=>.name<| .inl V) ?_ ?_ (λM=>rfl)) ?_
 .rintro u So m Γ own B hd ⟨l,Q,rfl,f⟩ h F;rw[e8,gl]at hd;obtain⟨r,W,rfl⟩:=hd;have H:=Sm r<|ib W;have I:u<10:=nO (gG.mp W).1 Si;have q:=Am r.tail;have v:=H.len;replace q:=ra▸q;mexact N.dW (eI:=("rule",eo r)::hP b d c) (Y:=#[U,n+12,gf U o k,m,gp (.Name "rule" #[_,_,_,_]) (eo r) Γ,l.G++dJ]) (λSg L=>?_) ?_
  .show(Q.gp _ _) Sg L
  have M:=f.bt;have Si:=f.rn;mexact N.r2 λK Sm=>?_;mexact N.br (QJ w Sj n o k m (p.at B) Sk b d c r (by show b1) H.row l.G K) ?_;mexact N.dW (eI:=("told",kC r)::hP b d c) (aN.cI [0,2,3,4,5,6,7] rfl) ?_;mexact N.br (QL w n o k m (p.at B) (hP b d c) r (dG v D) (l.G++dJ) K) ?_;mexact N.dW (eI:=("names",.list ((fZ r.tail).map .str))::("told",kC r)::hP b d c) (aN.cI [0,1,2,3,4,5,6,7] rfl) ?_;show QM w n o k m (p.at B) (hP b d c) r H l f.bq f.bA (b9 [#[12,.e C,.O 10],.j y<| .cT 12 C] 0 y (.O 800) D I M) (12*u) Si (dL [#[12,.e y,.O 10]] 0 (.cT 12 y) (.O 800) D I) (by mspec f.x;show bo 5 V) K ((tj U).drop 3) (λSo Z Sp h=>by
   have Sj:fD (12*u+(fZ r.tail).length) Z.P:=by mspec h.P;show Ga Si _ _
   have Si:=h.len;have Sk:Z.x=c:=h.eu.x.trans f.x;show QN w n o k So (p.at B) (hP b d c) r H Z h.bq h.bA (pW [#[12,.e C,.O 10],.j t aV,.j dx<| .O 6,.j gZ<| .cT 12 C,.j y<| .S gZ<| .S (.O 1) t,.j aV dx] 0 y (.O 800) D I q v M Si<|fC (fL r) 1) (12*u+(fZ r.tail).length) Sj (c7 [#[12,.e y,.O 10],.j C t,.j aV<| .O 6,.j t aV] 0 (.S (.cT 12 y) C) (.O 800) D I q v<|fC (fL r) 1) (by mspec Sk;show bo 5 V) K [] (λd c o b=>N.nil λA Sf=>by
    have p:fD (12*u+(fZ r.tail).length+1) c.P:=by mspec b.P;show Ga Sj _ _
    show Sm .next A ?_;show#[d,_,_,λx h=>o x<|Sp x h,#[c,?_,V,b.eu.x.trans Sk,b.bA,b.bq,?_,by mspec b.bW;mspec h.bW;show aJ f.bW V,by mspec b.bI;mspec h.bI;show aJ f.bI V,by show tC [.j t aV,.j dx<| .O 6,.j gZ<| .cT 12 C,.j kH<| .S gZ<| .S (.O 1) t,.j y<| .S kH<| .O 2,.j aV dx] 0 y (.cT 12<| .e C) D q v M Si b.len<|fC (fL r) 1,λSh P=>by have:=p Sh P;show jB [.j t aV,.j dx<| .O 6,.j y<| .e<| .S (.cT 12 C) t,.j aV dx] 0 y (.cT 12<| .e C) D q v this<|fC (fL r) 1],Sf]
    .show λSg L=>g<|g L
    .mspec b.P;mspec h.P;mspec f.P;mspec qe;mspec W;mspec iX;rfl))
 .rintro m Γ own A F (Sl|k) Sf
  .rw[a7]at Sl;show#[m,Γ,_,F,Sl,Sf]
  .show k.elim
 .rintro m Γ own F ⟨l,Q,rfl,f⟩;show N.dW Q<|Sn m l F f
end
section
variable {Y:be}{H:aP}
def ho.dQ (a:ho Y H k m)(b:∀o,m o->n o):ho Y H k n:=.mk λc d e f g h i=>a.go c d e f g h λj k l m n p q=>i j k l m (b _ n) p q
end
def Gd (a:h):i.ja (.list<|a.map .str) (.list<|a.map .str):=.list<|ur .str a
def QP (a:h)(b:∀c∈a,fx c=z):jG (.list<|a.map .str)=z:=by
 unfold jG;rw[n9];mspec Af a b;rw[us];show decide_eq_true ?_;have:=Ag a;rw[r0];show gu
section
variable {U:aW}
def wv:ec [] []:=λenv a=>nomatch a
def ww:ew []:=λb a=>nomatch a
def Ge (U:aW)(a b:T):(gf U a b).qual++("<lambda>":v)="law.<locals>.<lambda>":=by room
noncomputable abbrev Ao (ai:az):aE:=ai.G++[(247,.tab hj),(64,.tab cu),(225,.tab fH),(254,.tab mI)]
def Gf (a:az):a.G++dJ=Ao a++(259,.tab lm)::[]:=by simp
def Gg (U:aW)(a b:T)(pos:dy)(c:pos=#[309,0,309,24]\/pos=#[312,0,312,23]\/pos=#[313,0,313,24]):(pos,(gf U a b).qual++("<lambda>":v))∈lm:=by
 rw[Ge];rcases c with rfl|rfl|rfl
 .show ap
 .show g ap
 .show g<|g ap
def Gh (U:aW)(c d:T):∀b∈lm,b.2=(gf U c d).qual++("<lambda>":v):=λb a=>by
 rw[Ge];show ay (a5 a) (λe=>?_) λa=>?_
 .obtain rfl:=e;rfl
 .rcases a5 a with rfl|a
  .rfl
  .show aJ (bX a) V
noncomputable def wx:Option s->i
 |none=>.list [.none]|some _=>.str "ring"
def QQ (r:aR U)(So:di U.B 261 259)(n:Nat)(A m:T)(X:aZ)(B:aP)(P:B.cR=J [])(Q:s)(C:T)(d:az)(Sp:d.x=C)(S:d.bq=ah)(E:d.bA)(t:∀Sq∈d.P,∀Y∈Sq.2.2,Y∈cQ d.P)(F:d.bt.length<=900)(e:Option s)(Z:∀j,e=J j->j≠[]/\j.length<=1000/\∀u∈j,0<=u/\u<8)(H:k9 d.P=J (e.map (·.map a4)))(Sf:db)(Sg:List cC)
 (Sr:∀o f,(∀f∈X,f∈o)->N B #[U,n+12,gf U A m,o,hP Q (ku e) C,(d.ej f).G++dJ] Sg Sf):
 N B #[U,n+12,gf U A m,X,hP Q (ku e) C,d.G++dJ] ((hT (cf 262<|a U) 5)::Sg) Sf:=by
 subst Sp;have Ss:ku e=ou (e.map (·.map a4)):=by
  cases e with
  |none=>rfl|some j=>show congrArg i.list (d9).symm
 have I:∀B:be,ax B .NotEq (ou (e.map (·.map a4))) (ku e) aj/\ax B .NotEq (wx e) (wx e) aj/\eH B (ku e) e.isSome:=λB=>by
  mspec Ss;cases e with
  |none=>show cH (ax.nH (ak:=.none) (.inl<|by repeat constructor) (.inl<|by repeat constructor) D D) (ax.nH (ak:=.list [.none]) (.inl<|by repeat constructor) (.inl<|by repeat constructor) D D) eH.none
  |some j=>
   show cd (Z j V) λK Sh L=>?_;show cH (ax.nH (ak:=.list<|(j.map a4).map .str) (.inl<|Gd _) (.inl<|Gd _) (QP _ λY t=>?_) (by rw[me];show wo _)) (ax.nH (ak:=.str "ring") (.inl<|by repeat constructor) (.inl<|by repeat constructor) (by decide+kernel)<|by decide+kernel)<|(eH.list as.list ?_).of_eq ?_
   .obtain⟨u,Si,rfl⟩:=ck t;show F5 (L u Si).1 (L u Si).2
   .rw[a7,a7];show gu
   .show decide_eq_true ?_;rw[a7,a7];show jm.mpr K
 have St:∀(u B C:dy),(∀env,op (.Name "sorter" u) "prepare" B C [] env)->∀h0 m v,iL h0 m v (.Call (.Attribute (.Name "sorter" u) "prepare" B) [] [] C)->hY U v h0 (l h0 X) [("sorter",.val (.ref d.x))]->mz U (n+11) h0 X m d.G (λk Sj Su=>(∃j,e=J j)/\Sj=.ref 110/\∃f,k=(d.ej f).G) (λk w=>e=ah/\w=.none/\∃f,k=(d.ej f).G):=λu B C Sk h0 m v Sl Sm=>by
  cases e with
  |none=>show(NG r (n:=n+6) S E t F H Sk Sl Sm).dQ (λh h h=>vt) λh h g=>#[V,g]|some j=>
   show cd (Z j V) λK Sh L=>?_;show(NH r (n:=n+6) S E t F (j.map a4) (by simpa using K) (by rw[a7];show Sh) H Sk Sl Sm).dQ (λh h h g=>#[#[j,V],g]) λh h=>vt
 mexact N.sG (ho.Fw (ce:=λk=>∃f,k=(d.ej f).G++dJ)<|ho.cons (i2.bL (co:=λo k x=>x=aj/\∃f,k=(d.ej f).G++dJ)
  (aU.vo r (λSn w=>w=wx e/\∃f,Sn=(d.ej f).G) (n:=n+11) (ag:=[]) (cF:=[]) (ai:=d.G) (keep:=dJ) (b:=261) (aM:=259) (dk:=lm) (bE:=Ao d) (b4:=[]) (lQ:=[("sorter",.val (.ref d.x))]) V rfl P V (eJ _) wv ww (Gf d) (Gg U A m _<| .inl V) (λu B h=>Gh U A m u B) V So V rfl rfl rfl ?_ (λh h h=>rfl) (by decide) c c V
   (λh0 m v h h=>St _ _ _ (λenv=>#[_,V]) h0 m v) (λk Sj Su g=>by show cd g λm u M=>?_;show p m λj q=>?_;show bw q ?_;show fo _ (.inr #[u,V]) V M) (λk w g=>by show rD g λg=>?_;show#[V,g]) V rfl) (λo k w g O=>?_) c)<|λo k x g O=>?_)<|λo k x g O=>?_
 .intro j Sv;cases bX Sv;show#[by show bo 5 V,V,V,_,V,V]
 .show p g λSn y=>?_;show rD y λq=>?_;show p q λf j=>?_;show bw j ?_;show#[wx e,_,R.kP (al:=e.isSome) (a1.j8 (R.K 4 V) (I _).2.2<|λh=>rfl) (λg=>?_)<|λg=>?_,(I _).2.1,c,f,V]
  .show R.of_eq R.cy (by cases e;show nomatch g;rfl)
  .show R.of_eq (R.list (W.cons R.gF W.nil V)<|du D) (by cases e;rfl;show nomatch g)
 .show ci g λq=>?_;show p q λf y=>?_;show bw y ?_;show#[c,ho.cons (i2.bL (co:=λo k x=>k=(d.ej f).G++dJ/\x=aj) (aU.si (aw:=a U) r.bD (ro (d.ej f).eK) (ro (d.ej f).eT) (by rfl) yG (R.K 5 V) (zx r (n:=n+10) (keep:=dJ) (ag:=[]) V rfl P V rfl [] (d.ej f) wv ww E t F _ H (eJ _)) V) (λh j k M m=>?_) c)<|λh j k d m=>?_]
  .show j4 M ?_;show kN (ku e) _ (R.K 4 V) (I _).1 V c
  .show j4 d ?_;show#[c,ho.dQ ho.nil λown g=>#[f,g]]
 .show ci g λq=>?_;show p q λf y=>?_;show bw y ?_;show#[c,Sr o f O]
end
noncomputable abbrev Ap:v:="Nodes cannot be added after a call to prepare()"
noncomputable abbrev Aq:v:="cannot prepare() more than once"
noncomputable def wy:List (List ed):=[[.brk [33,97,98]],[.brk [33,97,33]],[.brk [97,45,99,122,45,121,100,45,102]]]
section
variable {U:aW}
def Gi (p:aR U)(q:di U.B 261 259)(n:Nat)(f e:T)(X:aZ)(j:aP)(r:j.cR=J [])(Γ:bg)(a:az)(s:(("sorter":v),i.val (.ref a.x))∈Γ)(t:∀h0 k g,iL h0 k g body->hY U g h0 (l h0 X) [("sorter",.val (.ref a.x))]->ks U (n+11) h0 X k a.G (nr m a.G))
 (d:dy) (u:d=#[309,0,309,24]\/d=#[312,0,312,23]\/d=#[313,0,313,24]):
 aU #[U,n+12,gf U f e,X,Γ,a.G++dJ] j (.Call (.Name "_law_words" x) [.Lambda #[[],[],ah,[],[],ah,[]] body {kind:=.function,names:=[("sorter",.free)],isGenerator:=aj,isCoroutine:=aj} d] [] pos) (iJ #[U,n+12,gf U f e,X,Γ,a.G++dJ]<| .str m):=by
 show aU.same (aU.dQ (aU.vo p (λo j=>o=a.G/\j=.str m) (n:=n+11) (ag:=[]) (cF:=[]) (ai:=a.G) (keep:=dJ) (b:=261) (aM:=259) (dk:=lm) (bE:=Ao a) (b4:=[]) (lQ:=[("sorter",.val (.ref a.x))]) V rfl r V (eJ _) wv ww (Gf a) (Gg U f e _ u) (λk m d=>Gh U f e k m) V q V rfl rfl rfl ?_ (λd d d=>rfl) (by decide) c c V
  (λh0 e g d d a f=>t h0 e g a f) (λk m p h=>fo _ (.inl h.2) h.1 V) (λd d=>vt) V rfl) λa k j h=>?_)
 .intro a w;cases bX w;show#[s,V,V,_,V,V]
 .obtain⟨o,rfl,rfl,rfl⟩:=h;show#[eJ _,V]
def QR:(∀a∈wy,(∀it∈a,it.ok=z)/\(cc a).length<=100000/\a.length<=1000):=by decide+kernel
def QS (f:aR U)(v:di U.B 261 259)(C:di U.B 68 64)(n:Nat)(k l:T)(X:aZ)(j:aP)(F:j.bZ=z)(w:j.cR=J [])(q:s)(t:i)(d:az)(r:T×h)(x:d.bq=J r)(y:db)
 (G:∀m,(∀H∈X,H∈m)->N j #[U,n+12,gf U k l,m,hP q t d.x,d.G++dJ] ((cf 262<|a U).drop 9) y):
 N j #[U,n+12,gf U k l,X,hP q t d.x,d.G++dJ] ((cf 262<|a U).drop 6) y:=by
 mexact N.br (E.FQ (af:=.list [.str Ap,.str Aq]) (aU.same<|aU.Fm<|e3.fV (Gi f v n k l X j w _ d (bo 5 V) (λb b b=>L5 f (n:=n+9) r x λenv=>#[_,V]) _<| .inr<| .inl V) (λy=>e3.fV (Gi f v n k l X (j.at y) w _ d (bo 5 V) (λb b b=>L6 f (n:=n+9) r x λenv=>#[_,V]) _<| .inr<| .inr V) (λA=>e3.of W.nil λb b=>cH (du D) (eJ _) V) V) V) (.inl V) V) ?_;mexact N.br (E.dC (aq:=aj) (a1.bL (R.K 0 V) (R.list (ds:=[.str Ap,.str Aq]) (W.cons R.cy (W.cons R.cy W.nil V) V)<|du D) (ax.nH (ak:=.list [.str Ap,.str Aq]) (.inl<|by repeat constructor) (.inl<|by repeat constructor) (by decide+kernel)<|by decide+kernel) c) (λg=>by cases g)<|λb=>N.nil λg j=>j) ?_;mexact N.sG (i2.bL (co:=λm o j=>o=d.G++dJ/\j=aj) (aU.QG (ds:=wy) (dE:=λe=>.str<|aB<|cc e) (cP:=λe=>[("one",.str (aB<|cc e))]) (aT:=.ref 69) [] (λe=>[.str<|aB<|cc e,.none,.str<|aB [46]]) (λe=>.list<|(dw e).map<|c5 .none) V (by decide) V (by decide) (r:=.list<|wy.map λe=>.str<|aB<|cc e)
  (R.list (W.cons (R.of_eq R.cy<|by room) (W.cons (R.of_eq R.cy<|by room) (W.cons (R.of_eq R.cy<|by room) W.nil V) V) V)<|du D)
  (cA.list (.inl<|dN _ _ V) as.list) (λj g=>by cases g) (du D) (λI b=>.name _ _ _) (hg V) f7 (λj Z p B=>?_) (λp B m o j K k=>?_) (λb=>rfl) (λb b b b=>c)) (pI λb=>?_) c)<|λL b j u M=>?_
 .show pN.g4 (ds:=[.str<|aB<|cc p,.none,.str<|aB [46]]) (f.eW V (by room) V rfl (by decide)) (nD f).at_.choose_spec.1 (nD f).at_.choose_spec.2 (W.cons (R.K 0 V) (W.cons R.gF (W.cons (R.of_eq R.cy<|by room) W.nil V) V) V) V c V
 .show cd (QR p B) λA u b=>?_;show dY.same (dY.dQ (vY f C (n:=n+10) V rfl (by mspec K;show aJ F V) p A u (by show b1) .none .none (wt o d.G)) λb f I g=>#[by mspec g.1;show(wt o d.G).symm,g.2])
 .show kN (.list [.list [.str "[^ab]"],.list [.str "[^a!]"],.list [.str "[a-cd-f]"]]) _ (R.list (W.cons (R.list (W.cons R.cy W.nil V)<|du D) (W.cons (R.list (W.cons R.cy W.nil V)<|du D) (W.cons (R.list (W.cons R.cy W.nil V)<|du D) W.nil V) V) V)<|du D) ?_ V c;mspec(show(wy.map λe=>i.list<|(dw e).map<|c5 .none)=[.list [.str "[^ab]"],.list [.str "[^a!]"],.list [.str "[a-cd-f]"]] by room);show ax.nH (ak:=.list [.list [.str "[^ab]"],.list [.str "[^a!]"],.list [.str "[a-cd-f]"]]) (.inl<|by repeat constructor) (.inl<|by repeat constructor) (by decide+kernel) (by decide+kernel)
 .show j4 u ?_;show#[c,N.dW (eI:=hP q t d.x) (aN.cI [1,2,3,4,5,6] rfl)<|G L M]
def Gj (a:az):(a.G++dJ).Perm (jx [] a++[(259,.tab lm)]):=by
 rw[(show a.G++dJ=jx [] a++[(259,.tab lm)]from by simp[jx])]
def QT (e:aR U)(l:di U.B 251 247)(m:di U.B 68 64)(o:di U.B 227 225)(q:di U.B 256 254)(n:Nat)(t u:T)(X:aZ)(f:aP)(v:f.bZ=z)(w:f.cR=J [])(d:s)(x:i)(b:az)(y:b.bA)(r:T)(g:h)(A:b.bq=J (r,g))(B:iM (bn<|d6 d))(C:∀r∈d6 d,r.length<=10)(D:(d6 d).length<=10)
 (E:lX (d6 d) (bn<|d6 d) (j2<|bn<|d6 d) #[[],[],b.P,g,b.bW,b.bI]):
 N f #[U,n+12,gf U t u,X,hP d x b.x,b.G++dJ] ((cf 262<|a U).drop 9) (et U f dJ λj k=>j=dJ/\k=.bool z):=by
 mexact N.F4 (aU.g4 (ds:=[.val<| .ref b.x,.list<|(d6 d).map eo,.dict<|cS bp<|bn<|d6 d,fj]) (e.eW V (by room) V rfl (by decide)) (Ah e).at_.choose_spec.1 (Ah e).at_.choose_spec.2 (W.cons (R.K 5 V) (W.cons (R.K 1 V) (W.cons (R.K 3 V) (W.cons (R.K 2 V) W.nil V) V) V) V)
  (QF e l m o q (n:=n+4) (ag:=[]) (keep:=[(259,.tab lm)]) V rfl v w V rfl [] b wv ww _ B _ C D r g A y E (Gj b)) V c V) ?_
 intro d j k b;show ci b λd=>?_;show p d λb e=>?_;show bw e ?_;show tL _ dJ ((Gj b).symm) (zv _ _) (λe d=>c9 d) V rfl
end
noncomputable abbrev pP (a:s):dl:=(d6 a).foldl wu []
noncomputable abbrev rp (a:s):b5:=bn<|d6 a
structure wz (a:s):Prop where
 Ar:∀r∈d6 a,pO r
 Gk:iM (rp a)
 jf:∀a2∈pP a,∀aa∈a2.2.2,aa∈cQ (pP a)
 QU:k9 (pP a)=J ((hJ<|rp a).map (·.map a4))
 QV:∀ag,hJ (rp a)=J ag->ag≠[]/\ag.length<=1000/\∀bx∈ag,0<=bx/\bx<8
 QW:lX (d6 a) (rp a) (j2<|rp a) #[[],[],pP a,jY<|pP a,0,0]
section
variable {U:aW}
def QX (k:aR U)(F:di U.B 251 247)(p:di U.B 68 64)(H:di U.B 227 225)(I:di U.B 256 254)(A:di U.B 261 259)(n:Nat)(h i:T)(X:aZ)(c:aP)(q:c.bZ=z)(t:c.cR=J [])(b:s)(m:b.length<=63)(e:wz b):
 N c #[U,n+12,gf U h i,X,[("script",.list (b.map .int))],dJ] (cf 262<|a U) (et U c dJ λg o=>g=dJ/\o=.bool z):=by
 mexact N.r2 λl K=>?_;have g:(b.take 3).length<=3:=by mspec g8;show(ol 3 b.length)
 have u:(d6 b).length<=10:=by rw[ws];show dL [.j y<| .O 3] 0 (.S (.O 2) y) (.O 10) D g
 have B:∀r∈d6 b,r.length<=10:=λr g=>by have:=(e.Ar r g).len;show b1
 show QI k n h i X c b m (λr g=>#[λm=>(e.Ar r g).kO (by mspec m;rfl),B r g]) e.Gk _ λm v o L R=>?_;show QO k p n h i m c q b u e.Ar (ku<|hJ<|rp b) v o L l ((cf 262<|a U).drop 5) (λE d g f=>by
  have w:d.P=pP b:=by mspec f.P;show aJ iU V
  have M:∀g∈d.P,∀m∈g.2.2,m∈cQ d.P:=by mspec w;show e.jf
  have P:d.bt.length<=900:=by have:=f.bt;show b9 [#[12,C,.O 10],.j y<| .cT 12 C] 0 y (.O 900) D u this
  have Q:∀m o g,(∀g∈E,g∈o)->N c #[U,n+12,gf U h i,o,hP b m v,(d.ej g).G++dJ] ((cf 262<|a U).drop 6) l:=λm o g L=>by
   have x:=QS k A p n h i o c q t b m (d.ej g) (g,jY d.P) V l λL R=>
    (QT k F p H I n h i L c q t b m (d.ej g) f.bA g (jY d.P) V e.Gk B u (by
     mspec w;mspec f.bW;mspec f.bI;show e.QW)).dQ K
   replace x:=f.x▸x;show x
  have g:=e.QU;show QQ k A n h i E c t b v d f.x f.bq f.bA M P _ e.QV (by mspec w;show g) l ((cf 262<|a U).drop 6)<|Q _)
end
structure dq (bU:List bG):Prop where
 len:bU.length<=5
 row:∀(am:Nat)(r:bG),bU[am]?=J r->∃af body,r=(3+(am:Int),af)::body/\ir (3+(am:Int),af)/\body≠[]/\body.length<=3/\∀ak∈body,ir ak
def As (a:Int)(b:0<k):0<=i9 a k/\i9 a k<k:=#[Int.fmod_nonneg_of_pos a b,Int.fmod_lt_of_pos a b]
def Gl (b:s)(a:Nat):(lD b a).length=if a<3 then 3 else 2:=by
 unfold lD en;rw[a7,a7];mspec jQ;split<;>rfl
def QY (a:s):dq (d6 a):=by
 have i:(a.take 3).length<=3:=by mspec g8;show(ol 3 a.length)
 show#[by rw[ws];show dL [.j y<| .O 3] 0 (.S (.O 2) y) (.O 5) D i,λb r c=>?_];have m:b<5:=by
  have:=(gG.mp c).1;rw[ws]at this;show b9 [.j C<| .O 3,.aL y<| .S (.O 2) C] 0 (.e y) (.O 5) D i this
 have k:r=qA a b:=by
  unfold d6 at c;rw[e8,gl]at c;obtain⟨i,f,rfl⟩:=c;unfold en at f;rw[e8,gl]at f;obtain⟨c,d,rfl⟩:=f;have g:=(gG.mp d).1;replace g:=jQ▸g;replace d:=(rP g)▸d;cases d;show aJ (show((0:Int)+(b:Int)).toNat=b by simp+arith) V
 subst k;have h:0<kc a b/\kc a b<=8:=by
  unfold kc;split<;>lia
 show tL _ _ V #[#[by show f2 _,by lia],As _<|by decide] (λh0=>?_) ?_<|λc l=>?_
 .have:=congrArg fL h0;rw[a7,Gl]at this;split at this<;>cases this
 .rw[a7,Gl];split<;>simp+arith
 .show g0 l λd c=>?_;have c:=As (lx d 3) h.1;show#[#[c.1,by have:=c.2;have:=h.2;show bj [(d.fdiv 3).fmod<|kc a b,kc a b] [.j aC<| .O 8,.aL A aC] 0 (.e A) (.O 8) D h.2 c.2],As _<|by decide]
def Au {c:Type}(d:c->Nat)(a:List c)(n:Nat)(e:∀b∈a,d b<=n):(a.map d).sum<=a.length*n:=by
 induction a with
 |nil=>simp|cons b a f=>
  mspec b8;mspec hW;mspec eC;rw[sB];have:=e b ap;have:=f λa b=>e a<|g b;lia
def Gm (d:ag.length<=10)(c:∀a∈ag,ir a):Al ag where
 len:=d
 wl:=λa b=>by
  show cd (c a b) λf g h=>?_;show cH f g (by mspec wg f.1 f.2;show dH.mp<|bj [↑a.snd.toNat,a.snd] [.aL aC<| .O 3,.j A aC] 0 (.e A) (.O 3) D h (c4 (gx<|bj [a.snd] [.j (.O 0) A] 0 (.O 0) A D g):))
 wm:=by
  mspec d9;show bd [#[10,C,.O 10],.j t<| .w C 10,.j y t] 0 y (.O 100000) D d (Au (λa=>(eN [] a).length) ag 10 λa b=>(mH<|c a b).len) (aA (show((ag.map<|(λf=>f.length)∘eN []).sum)=(ag.map λa=>(eN [] a).length).sum from rfl))
 fP:=by
  show w3 (ag.flatMap fI) (P1 ag c) (λit f=>?_) ?_ ?_ ?_
  .show aY (Gn.mp f) λa b g=>?_;show(mH<|c a b).ok it g
  .unfold cc;mspec FI;show b9 [#[10,C,.O 10],.j y<| .w C 10] 0 y (.O 100000) D d<|tc (λa=>(fI a).flatMap ed.lg) ag 10 λa b=>FH _ a (mH<|c a b) V
  .show b9 [#[3,C,.O 10],.j y<| .w C 3] 0 y (.O 1000) D d<|tc fI ag 3 λa b=>(mH<|c a b).fP
  .mspec FG ag c;rw[rl]
def QZ (c:dq k):∀r∈k,pO r:=λr d=>by
 show p (xL.mp d) λa f=>?_;show cm (c.row a r f) λg body d=>?_;show AZ d λh c f i=>?_;show#[by mspec eC;show gu,c,(av (3+(a:Int)) V<|by show el.mpr<|dL [] 0 (.e<| .O 0) (.S (.O 3) y) D),λd b=>?_];show gg b ?_ λb=>?_
 .show Gm (by simp) λc d=>by
   mspec(show c=(3+(a:Int),g)from by simpa using d);show h
 .mspec bX b;show Gm (ag:=body) (by show b1) i
def d1 (ae:Int):Prop:=0<=ae/\ae<8
def Q0:∀a b:Fin 8,a4 a.val=a4 b.val->a=b:=by decide+kernel
def rq (a:d1 k)(b:d1 m)(e:a4 k=a4 m):k=m:=by
 obtain⟨c,rfl⟩:=py a.1;obtain⟨d,rfl⟩:=py b.1;show aJ (show c=d from congrArg Fin.val<|Q0 #[c,by have:=a.2;show el.mp ‹_›] #[d,by have:=b.2;show(el.mp this)] e) V
noncomputable def e5 (fG:s)(ae:Int):s:=if ae∈fG then fG else fG++[ae]
def rr:k∈e5 m n↔k∈m\/k=n:=by
 unfold e5;split
 .next b=>show#[λa=>.inl a,λa=>a.elim id λa=>a▸b]
 .simp
def Q1 (a:k.Nodup):(e5 k m).Nodup:=by
 unfold e5;split
 .show a
 .next b=>show gz.mpr #[a,by simp,λe c f d=>by
   mspec bX d;intro a;show b<|a▸c]
def oC {a b:s}:k∈a.foldl e5 b↔k∈b\/k∈a:=by
 induction a generalizing b with
 |nil=>simp|cons b a c=>rw[hV,c,rr,hQ,or_assoc]
def Q2 {a:s}:∀{c:s},c.Nodup->(a.foldl e5 c).Nodup:=by
 induction a with
 |nil=>show λb=>b|cons c a d=>show λb=>d<|Q1 b
def Av (a:m∈k):e5 k m=k:=if_pos a
def Q3 {a:s}:∀{b:s},(∀c∈a,c∈b)->a.foldl e5 b=b:=by
 induction a with
 |nil=>show λb=>rfl|cons d a e=>show λa=>by rw[hV,Av<|a d ap];show e λc b=>a c<|g b
def Go (a b:s)(c:Int):(a++[c]).foldl e5 b=e5 (a.foldl e5 b) c:=by mspec iX;rfl
def Q4 (a c:s):(ef a).foldl e5 c=a.foldl e5 c:=by
 induction a using i4 with
 |nil=>rfl|snoc a c d=>
  rw[pJ,Go];unfold nJ;split
  .next b=>
   mspec d;rw[Av];show(oC).mpr ?_;show .inr ?_;mspec b.1;rw[z1]at b;show uS b.2
  .rw[Go];show aJ d V
noncomputable def cG (bU:List bG):s:=bU.foldl (λfG r=>(dU r).foldl e5 fG) []
noncomputable def dc (bU:List bG)(ae:Int):s:=if 3<=ae then ef (dU<|((bU[(ae - 3).toNat]?).getD []).tail)else[]
def Q5 (b:b5)(c:Int)(f:s)(a:Int):(b.map λd=>if d.1=c then(d.1,f)else d).lookup a=if a=c then(b.lookup a).map λi=>f else b.lookup a:=by
 induction b with
 |nil=>split<;>rfl|cons d b g=>
  obtain⟨e,h⟩:=d;by_cases d:e=c
  .mspec b8;mspec if_pos (show(e,h).1=c from d);mspec fz;mspec fz;by_cases b:a=e
   .mspec b;rw[beq_self_eq_true];mspec if_pos d;rfl
   .mspec beq_eq_false_iff_ne.mpr b;show g
  .mspec b8;mspec if_neg (show ¬(e,h).1=c from d);mspec fz;mspec fz;by_cases b:a=e
   .mspec b;rw[beq_self_eq_true];show aJ (if_neg d) V
   .mspec beq_eq_false_iff_ne.mpr b;show g
def Gp (a:b5)(b:Int):(a.lookup b).isSome=a.any (λc=>decide (c.1=b)):=by
 induction a with
 |nil=>rfl|cons c a d=>
  obtain⟨e,a⟩:=c;mspec fz;mspec tQ;by_cases a:b=e
  .mspec a;rw[beq_self_eq_true];mspec decide_eq_true V;rfl
  .mspec beq_eq_false_iff_ne.mpr a;mspec decide_eq_false λb=>a b.symm;rw[KG];show d
def Gq (b:b5)(c:Int)(f:s)(d:Int):(jj b c f).lookup d=if d=c then J f else b.lookup d:=by
 unfold jj;split
 .next e=>
  rw[Q5];split
  .next a=>
   mspec a;show p (xC.mp<|(Gp b c).trans e) λf d=>?_;mspec d;rfl
  .rfl
 .next e=>
  mspec Q6;split
  .next a=>mspec a;mspec show b.lookup c=ah from Option.not_isSome_iff_eq_none.mp (by rw[Gp];show e);mspec fz;rw[beq_self_eq_true];rfl
  .next a=>mspec fz;mspec beq_eq_false_iff_ne.mpr a;show Option.or_none
def Gr (d:b5)(b:Int)(e:s):dj (jj d b e)=e5 (dj d) b:=by
 unfold jj e5 dj;by_cases c:d.any (λa=>decide (a.1=b))=z
 .mspec if_pos c;rw[if_pos]
  .mspec d9;show hD λa d=>?_;show(?_:(if a.1=b then(a.1,e)else a).1=a.1);split<;>rfl
  .show aY (ko.mp c) λa b d=>?_;show iv.mpr<|av a b<|f d
 .mspec if_neg c;rw[if_neg]
  .mspec eX;rfl
  .intro e;show aY (ck e) λa b d=>?_;show c<|ko.mpr<|av a b<|decide_eq_true d
def Q7 (r:bG):∀a:b5,dj (jk a r)=(dU r).foldl e5 (dj a)/\∀c,dg (jk a r) c=dg a c:=by
 induction r with
 |nil=>show λa=>#[V,λe=>rfl]|cons b r d=>
  intro a;show ao (d<|jj a b.1<|(a.lookup b.1).getD []) λe f=>?_;show#[?_,λc=>?_]
  .show(?_:dj (jk (jj a b.1<|(a.lookup b.1).getD []) r)=_);mspec e;rw[Gr];rfl
  .show(?_:dg (jk (jj a b.1<|(a.lookup b.1).getD []) r) c=_);rw[f];unfold dg;rw[Gq];split
   .next g=>subst g;rfl
   .rfl
def dq.init (a:dq (k++[r])):dq k where
 len:=by have:=a.len;rw[dF]at this;show iC ‹_›
 row:=λc d b=>a.row c d (by mspec sV (gG.mp b).1;show b)
def dq.em {r:bG}(a:dq (k++[r])):∃af body,r=(3+(k.length:Int),af)::body/\ir (3+(k.length:Int),af)/\body≠[]/\body.length<=3/\∀b∈body,ir b:=a.row k.length r (by simp)
def Gs (a:Int):dc (k++[r]) a=if a=3+(k.length:Int)then ef (dU r.tail)else dc k a:=by
 unfold dc;by_cases b:3<=a
 .mspec if_pos b;mspec if_pos b;by_cases c:a=3+(k.length:Int)
  .mspec if_pos c;mspec(show(a - 3).toNat=k.length by show c1 (dH.mp<|bj [↑(a - 3).toNat,↑k.length,a] [.j d7<| .S (.O 3) aC,.j A<| .c8 d7<| .O 3] 0 A aC D (c4 c:) (c4 (gx<|bj [a] [.j (.O 3) A] 0 (.O 0) (.c8 A<| .O 3) D b):))<|dH.mp<|bj [↑k.length,↑(a - 3).toNat,a] [.j (.S (.O 3) A) d7,.j (.c8 d7<| .O 3) aC] 0 A aC D (c4 (c).symm:) (kl (a - 3):));simp
  .mspec if_neg c;show ay (r7 (a - 3).toNat k.length) (λd=>?_) λd=>?_
   .show aJ (sV d) V
   .mspec nW (by show aJ dF ?_;show aJ gw ?_;show(sX c).elim (λf=>dH.mp<|bj [↑k.length,↑(a - 3).toNat,a] [#[2,A,aC],.j aC<| .c8 d7<| .O 3,.aL d7<| .S (.O 3) A] 0 (.e A) aC D (dH.mpr d:) (c4 (gx<|bj [a] [.j (.O 3) A] 0 (.O 0) (.c8 A<| .O 3) D b):) f) λf=>dH.mp<|bj [↑k.length,↑(a - 3).toNat,a] [.j (.c8 d7<| .O 3) aC,.aL (.S (.O 3) A) d7] 0 (.e A) aC D (kl (a - 3):) f);show aJ (nW d) V
 .mspec if_neg b;mspec if_neg b;show aJ (if_neg<|by show λc=>kJ [a,↑k.length] [.aL A<| .O 3,.j (.O 0) aC,.j (.S (.O 3) aC) A] D (Int.not_le.mp b:) (f2 k.length:) (c4 (c).symm:)) V
def iO (a:List bG)(d:dq a):dj (bn a)=cG a/\∀b,dg (bn a) b=dc a b:=by
 induction a using i4 with
 |nil=>show#[V,λb=>by unfold dc;split<;>rfl]|snoc a r c=>
  show ao (c d.init) λe f=>?_;show cm d.em λc body g=>?_;show AZ g λd i j k=>?_;have d:bn (a++[(3+(a.length:Int),c)::body])=oi (bn a) ((3+(a.length:Int),c)::body):=by
   unfold bn;mspec iX;rfl
  show ao (Q7 ((3+(a.length:Int),c)::body)<|bn a) λg h=>?_;mspec d;unfold oi;show#[?_,λb=>?_]
  .rw[Gr];mspec g;mspec e;show(?_:e5 _ (3+(a.length:Int))=_);rw[Av]
   .unfold cG;mspec iX;rfl
   .show(oC).mpr ?_;show .inr ap
  .show(?_:((jj _ (3+(a.length:Int)) _).lookup b).getD []=_);rw[Gq,Gs];split
   .rw[wh];rfl
   .rw[<-f,<-h];rfl
def Aw (a:List bG)(r:bG):cG (a++[r])=(dU r).foldl e5 (cG a):=by unfold cG;mspec iX;rfl
def tk (a:List bG):(cG a).Nodup:=by
 induction a using i4 with
 |nil=>show .nil|snoc a r b=>rw[Aw];show Q2 b
def wA (c:List bG)(e:Int):e∈cG c↔∃r∈c,e∈dU r:=by
 induction c using i4 with
 |nil=>simp[cG]|snoc c r f=>
  rw[Aw,oC,f];constructor
  .rintro(⟨d,a,b⟩|b)
   .show av d (by simp[a]) b
   .show av r (by simp) b
  .intro c;show aY c λd a b=>?_;show cL a (λa=>?_) λa=>?_
   .show .inl<|av d a b
   .rw[bX a]at b;show .inr b
def Q8 (c:dq k):∀r∈k,∀b∈dU r,d1 b:=λr d b a=>by
 obtain⟨e,f⟩:=xL.mp d;obtain⟨b,body,rfl,g,d,i,h⟩:=c.row e r f;show gg a ?_ λa=>?_
 .show g.1
 .show g0 a λb c=>?_;show(h b c).1
def hp (b:dq k):∀a∈cG k,d1 a:=λa c=>by
 show aY ((wA k a).mp c) λr d e=>?_;show Q8 b r d a e
def oD (a:n∈dc k m):3<=m/\∃r∈k,n∈dU r.tail/\k[(m - 3).toNat]?=J r:=by
 unfold dc at a;split at a
 .next b=>
  show#[b,?_];cases hq:k[(m - 3).toNat]? with
  |none=>replace a:=hq▸a;cases a
  |some r=>
   replace a:=hq▸a;show fo r (ib hq) (wk a) V
 .cases a
def Gu (a:k∈dc m n):k∈cG m:=by
 show ao (oD a) λb c=>?_;show p c λr a=>?_;show cd a λc d b=>?_;show(wA m k).mpr #[r,c,by
  show g0 d λb a=>?_;show dI<|PL a]
def Gv (c:dq k)(a:Int):(dc k a).length<=3:=by
 unfold dc;split
 .cases hq:k[(a - 3).toNat]? with
  |none=>show ey _|some r=>
   show bC λd b=>?_;obtain⟨a,body,rfl,f,g,e,h⟩:=c.row _ r hq;show b ?_;clear b d;have:=FO<|dU body;rw[a7]at this;show a6 this e
 .show ey _
theorem Gw:∀{a:b5},(dj a).Nodup->∀b∈a,a.lookup b.1=J b.2
 |e::a,f,b,c=>by
  obtain⟨d,h⟩:=e;mspec fz;have h':(d::dj a).Nodup:=f;replace h':=(ka).mp h';show ay (a5 c) (λg=>?_) λc=>?_
  .obtain rfl:=g;simp
  .have a:b.1≠d:=λd=>h'.1<|d▸dI c;mspec beq_eq_false_iff_ne.mpr a;show Gw h'.2 b c
def Q9 (b:dq k):iM (bn k):=by
 show ao (iO k b) λc e=>?_;have d:(dj<|bn k).Nodup:=c▸tk k;show#[λf g=>hp b f<|c▸g,d,λa h=>?_];have f:a.2=dc k a.1:=by
  rw[<-e];unfold dg;mspec Gw d a h;rfl
 mspec f;mspec c;show cH (by have:=Gv b a.1;show b1) (λb=>?_)<|λc a=>Gu a;show p (vq _ b) λc a=>?_;show(oD a).1
noncomputable def mk (fG:s)(mJ:Int->Int)(rs:Int->s):dl:=fG.map λae=>(a4 ae,mJ ae,(rs ae).map a4)
def oE (c:∀a∈k,m a=n a)(d:∀a∈k,o a=r a):mk k m o=mk k n r:=
 hD λa b=>by mspec c a b;show aJ (d a b) V
def rt (a:s)(b:Int->Int)(c:Int->s):cQ (mk a b c)=a.map a4:=by
 show(?_:(a.map _).map _=_);mspec d9;rfl
def wB {b:s}(c:∀a∈b,d1 a){a:Int}(d:d1 a):a4 a∈b.map a4↔a∈b:=by
 constructor
 .intro a;show aY (ck a) λe b f=>?_;show(rq d (c e b) f.symm)▸b
 .show λa=>dI a
def Gx (f:∀a∈k,d1 a){a:Int}(g:d1 a)(h:a∉k->m a=0/\n a=[]):iZ (mk k m n) (a4 a)=mk (e5 k a) m n:=by
 have b:((mk k m n).any λd=>d.1==a4 a)=decide (a∈k):=by
  rw[sT,ko];mspec decide_eq_true_eq;rw[<-wB f g];unfold mk;constructor
  .intro f;show aY f λd i j=>?_;obtain⟨e,c,rfl⟩:=ck i;show iv.mpr (av e c<|by simpa using j)
  .intro d;show aY (ck d) λe c b=>?_;show av _ (dI c) (by simpa using b)
 unfold iZ e5;mspec b;by_cases b:a∈k
 .mspec if_pos (by simpa using b);show aJ (if_pos b) V
 .mspec if_neg (by simpa using b);mspec if_neg b;show ao (h b) λa c=>?_;unfold mk;mspec eX;mspec b8;mspec m9;mspec a;mspec c;rfl
def wC (i:∀a∈k,d1 a){b:Int}(j:d1 b){mJ:Int->Int}{rs:Int->s}(g:v×Int×h->v×Int×h)(c:Int->Int)(d:Int->s)
 (l:g (a4 b,mJ b,(rs b).map a4)=(a4 b,c b,(d b).map a4)) (m:∀a,a≠b->c a=mJ a/\d a=rs a):
 ((mk k mJ rs).map λe=>if e.1=a4 b then g e else e)=mk k c d:=by
 unfold mk;mspec d9;show hD λa n=>?_;show(?_:(if a4 a=a4 b then _ else _)=_);by_cases f:a=b
 .subst f;mspec if_pos V;show l
 .mspec if_neg<|λb=>f<|rq (i a n) j b;show ao (m a f) λb c=>?_;mspec b;show aJ c V
def Ra (e:∀a∈k,d1 a)(f:d1 m){b:Int->Int}{d:Int->s}(c:Int):u8 (mk k b d) (a4 m) c=mk k (λa=>if a=m then b a+c else b a) d:=
 wC e f (λb=>(b.1,b.2.1+c,b.2.2)) _ _ (by simp) λa d=>#[if_neg d,V]
def Rb (f:∀a∈k,d1 a){b c:Int}(g:d1 b){e:Int->Int}{d:Int->s}:pm (mk k e d) (a4 b) (a4 c)=mk k e (λa=>if a=b then d a++[c]else d a):=
 wC f g (λb=>(b.1,b.2.1,b.2.2++[a4 c])) _ _ (by simp) λa d=>#[V,if_neg d]
def wD (b:∀a∈k,d1 a)(c:d1 m):∀a∈e5 k m,d1 a:=λa d=>(rr.mp d).elim (b a) λe=>e▸c
def Rc {b c:s}(d:∀a∈c,d1 a)(e:∀a∈b,d1 a):∀a∈b.foldl e5 c,d1 a:=λa b=>(oC.mp b).elim (d a)<|e a
theorem Gy:∀(c:s)(d:s)(e:Int->Int)(f:Int->s),(∀a∈d,d1 a)->(∀a∈c,d1 a)->(∀a,a∉d->e a=0/\f a=[])->
 (c.map a4).foldl (λn b=>pm (iZ n b) b<|a4 o) (mk d e f)=mk (c.foldl e5 d) e (λa=>f a++kA (c.count a) o)
 |[],d,e,f,_,_,_=>oE (λh h=>rfl) λa h=>by simp|b::c,d,e,f,j,l,m=>by
  have d:=l b ap;rw[b8,hV,Gx j d<|m b,Rb (wD j d) d,Gy c _ _ _ (wD j d) (λa i=>l a<|g i)<|λa i=>?_,hV]
  .show oE (λh h=>rfl) λa h=>?_;mspec Gz;by_cases k:a=b
   .subst k;simp[hX,List.replicate_succ',<-z6]
   .rw[if_neg k,if_neg (by simpa using λc:b=a=>k c.symm),nN]
  .show ao (m a<|λc=>i<|rr.mpr<| .inl c) λd e=>?_;show#[d,by mspec if_neg (λc=>i (rr.mpr<| .inr c):a≠b);show e]
def GA (c:∀a∈n,d1 a)(b:d1 k)(f:∀a∈m,d1 a)(d:∀a,a∉n->o a=0/\r a=[]):
 mw (mk n o r) (a4 k) (m.map a4)=mk ((k::m).foldl e5 n) (λa=>if a=k then o a+m.length else o a) (λa=>r a++kA (m.count a) k):=by
 unfold mw;rw[a7,Gx c b<|d k,Ra (wD c b) b,Gy m _ _ _ (wD c b) f<|λa e=>?_]
 .rfl
 .show ao (d a (λb=>e (rr.mpr<| .inl b):a∉n)) λc d=>?_;show#[by mspec if_neg<|λb=>e<|rr.mpr<| .inr b;show c,d]
noncomputable def fJ (bU:List bG)(ae:Int):s:=dc bU ae++(dc bU ae).take 1
noncomputable def jy (bU:List bG)(ae:Int):Int:=(fJ bU ae).length
noncomputable def dm (bU:List bG)(bx:Int):s:=(jc bU.length).flatMap λ(am:Nat)=>kA ((fJ bU<|3+(am:Int)).count bx)<|3+(am:Int)
def tl (a:Int):fJ (k++[r]) a=if a=3+(k.length:Int)then ef (dU r.tail)++(ef<|dU r.tail).take 1 else fJ k a:=by
 unfold fJ;rw[Gs];split<;>rfl
def Rd (a:3+(m.length:Int)<=k):dc m k=[]:=by
 unfold dc;mspec if_pos (by show bj [k,↑m.length] [.j (.S (.O 3) aC) A,.j (.O 0) aC] 0 (.O 3) A D a (f2 m.length:));mspec nW (by show dH.mp<|bj [↑m.length,↑(k - 3).toNat,k] [.j (.S (.O 3) A) d7,.j (.c8 d7<| .O 3) aC] 0 A aC D a (kl (k - 3):));rfl
def Rf (a:3+(k.length:Int)<=m):fJ k m=[]:=by unfold fJ;mspec Rd a;rfl
theorem GB {c h:Type}{d e:c->List h}:∀{a:List c},(∀b∈a,d b=e b)->a.flatMap d=a.flatMap e
 |[],_=>rfl|b::a,f=>by rw[td,td,f b ap,GB λa c=>f a<|g c]
def Ax (a:Int):dm (k++[r]) a=dm k a++kA ((ef (dU r.tail)++(ef<|dU r.tail).take 1).count a) (3+(k.length:Int)):=by
 unfold dm;mspec dF;mspec gw;mspec PT;mspec vW;congr 1
 .show GB λb a=>?_;have:=iW.mp a;rw[tl];show aJ (if_neg<|by show λa=>pX [.aL y C,.j (.S (.O 3) C)<| .S (.O 3) y] D this<|aA (jn a).symm) V
 .mspec td;mspec Rg;rw[fk,tl];show aJ (if_pos V) V
def nK:k∈dm m n↔(∃b:Nat,b<m.length/\k=3+(b:Int))/\n∈dc m k:=by
 unfold dm;rw[Gn];have d:∀k,n∈fJ m k↔n∈dc m k:=λk=>by
  unfold fJ;rw[lY];show#[λa=>a.elim id λa=>sk a,.inl]
 constructor
 .intro e;show aY e λb c a=>?_;replace a:=(GC).mp a;show kK a λe=>?_;show#[(av b (iW.mp c) V),(d _).mp<|Ay.mp<|sK e]
 .rintro⟨⟨b,c,rfl⟩,a⟩;show av b (iW.mpr c)<|GC.mpr #[BU<|Ay.mpr<|(d _).mpr a,V]
def Rh (c:k∉cG m)(e:dq m):jy m k=0/\dm m k=[]:=by
 have f:dc m k=[]:=by
  cases hq:dc m k with
  |nil=>rfl|cons d g=>
   show bC λb a=>?_;obtain⟨h,r,i,_,l⟩:=oD<|hq▸ap;show a ?_;clear a b;show bC λb a=>?_;obtain⟨n,body,rfl,o,_⟩:=e.row _ r l;show a ?_;clear a b;show absurd ((wA m k).mpr<|av _ i ?_) c;show(?_:k∈(3+(((k - 3).toNat:Nat):Int))::body.map (·.1));show hQ.mpr (.inl<|by show gr (bj [k,↑(k - 3).toNat] [.j (.c8 A<| .O 3) aC] 0 A (.S (.O 3) aC) D (kl (k - 3):))<|bj [↑(k - 3).toNat,k] [.j A<| .c8 aC<| .O 3] 0 (.S (.O 3) A) aC D (c4 (gx<|bj [k] [.j (.O 3) A] 0 (.O 0) (.c8 A<| .O 3) D h):))
 show#[by unfold jy fJ;mspec f;rfl,?_];cases hq:dm m k with
 |nil=>rfl|cons d g=>
  show absurd (Gu (nK.mp (by show hq▸ap:d∈dm m k)).2) c
def Ri (r:bG):fZ r=(ef<|dU r).map a4:=by
 unfold fZ;rw[rl];mspec d9;show hD λa c=>?_;show(?_:(kB a).getD "*"=_);unfold kB;split
 .next b=>subst b;rfl
 .rfl
def Rj (a:List bG)(o:dq a):a.foldl wu []=mk (cG a) (jy a) (dm a):=by
 induction a using i4 with
 |nil=>rfl|snoc a r t=>
  have k:=o.init;show bC λl f=>?_;obtain⟨p,body,rfl,m,u,y,v⟩:=o.em;show f ?_;clear f l;mspec iX;mspec t k;mspec hV;mspec FE;unfold wu;have n:∀b∈ef (dU body),d1 b:=λb c=>by
   show bC λl f=>?_;obtain⟨w,x,rfl⟩:=ck<|wk c;show f ?_;clear f l;show(v w x).1
  have q:∀b,b∉cG a->jy a b=0/\dm a b=[]:=λb c=>Rh c k;have s:=hp k;obtain⟨d,i,h⟩:∃d i,ef (dU body)=d::i:=by
   cases hq:ef (dU body)with
   |nil=>show absurd hq<|z4<|λe=>u<|s6.mp e
   |cons d i=>show dN d i V
  mspec(V:kD ((3+(a.length:Int),p)::body)=a4 (3+(a.length:Int)));mspec Ri body;mspec GA s m.1 n q;have f:[((ef<|dU body).map a4).headD ""]=[d].map a4:=by mspec h;rfl
  have i:∀b,b∉((3+(a.length:Int))::ef (dU body)).foldl e5 (cG a)->(if b=3+(a.length:Int)then jy a b+(ef<|dU body).length else jy a b)=0/\dm a b++kA ((ef<|dU body).count b) (3+(a.length:Int))=[]:=λb c=>by
   show ao (q b<|λe=>c<|oC.mpr<| .inl e) λk l=>?_;mspec if_neg (λe=>c (oC.mpr<| .inr<|e▸ap):b≠3+(a.length:Int));mspec k;mspec l;mspec wE.mpr<|λe=>c<|oC.mpr<| .inr<|g e;show#[V,V]
  have e:∀b∈((3+(a.length:Int))::ef (dU body)),d1 b:=λb c=>by
   show gg c ?_ λc=>?_
   .show m.1
   .show n b c
  mspec f;mspec GA (Rc s e) m.1 (λb c=>by show kI c (n d (by show h▸ap):d1 d)) i;have e:([3+(a.length:Int),d].foldl e5 (((3+(a.length:Int))::ef (dU body)).foldl e5<|cG a))=cG (a++[(3+(a.length:Int),p)::body]):=by
   rw[Q3<|λb c=>?_,Aw]
   .show(?_:(ef<|dU body).foldl e5 (e5 (cG a)<|3+(a.length:Int))=(dU body).foldl e5 (e5 (cG a)<|3+(a.length:Int)));rw[Q4]
   .show(oC).mpr ?_;show .inr ?_;show gg c ?_ λc=>?_
    .show ap
    .mspec bX c;mspec h;show g ap
  mspec e;show oE (λb d=>?_) λb d=>?_
  .unfold jy;rw[tl];by_cases c:b=3+(a.length:Int)
   .mspec if_pos c;mspec if_pos c;mspec if_pos c;mspec Rf (by show bj [↑a.length,b] [.j (.S (.O 3) A) aC] 0 (.S (.O 3) A) aC D (c4 (c).symm:));show(?_:_=(((ef<|dU body)++(ef<|dU body).take 1).length:Int));mspec dF;mspec h;simp
   .mspec if_neg c;mspec if_neg c;show aJ (if_neg c) V
  .rw[Ax];rw[hX];mspec List.replicate_append_replicate;show(?_:_=dm a b++kA ((ef (dU body)++(ef<|dU body).take 1).count b) _);mspec Rk;mspec h;rfl
noncomputable def ln (b0:dl)(am:Nat)(b:hZ)(a:h):Option (h ⊕h):=match ip b0 b with
 |none=>J<| .inr a
 |J (af,c)=>jV b0 am af c a
noncomputable def mK (b0:dl)(aa:v):Nat:=(ev b0 aa).length
noncomputable def gW (b0:dl)(bP:h)(a:h):Nat:=(bP.map λaa=>if aa∈a then 0 else mK b0 aa).sum
def GD {d:v}{b:h}(l:d∉b):∀{a:h},d∈a->gW b0 a (d::b)+mK b0 d<=gW b0 a b:=by
 have m:∀a:h,gW b0 a (d::b)<=gW b0 a b:=by
  intro a
  induction a with
  |nil=>show cg _|cons i a e=>
   unfold gW at e ⊢;mspec b8;mspec b8;mspec hW;mspec hW;by_cases c:i∈b
   .mspec if_pos c;mspec if_pos<|g c;show b9 [.j y C] 0 (.S (.O 0) y) (.S (.O 0) C) D e
   .mspec if_neg c;split<;>lia
 intro a
 induction a with
 |nil=>intro f;cases f
 |cons i a e=>
  intro f;have k:=m a;unfold gW at e k ⊢;mspec b8;mspec b8;mspec hW;mspec hW;rcases a5 f with rfl|f
  .mspec if_pos ap;mspec if_neg l;show bd [.j y t] 0 (.S (.S (.O 0) y) C) (.S C t) D k
  .by_cases c:i∈b
   .mspec if_pos c;mspec if_pos<|g c;show bd [.j (.S y C) t] 0 (.S (.S (.O 0) y) C) (.S (.O 0) t) D<|e f
   .mspec if_neg c;split<;>lia
structure tm (b0:dl)(bP:h)(ca:Nat->v->Prop):Prop where
 zero:∀aa∈bP,ca 0 aa
 down:∀n aa,ca (n+1) aa->ca n aa
 step:∀n aa,ca n aa->¬ca (n+1) aa->∀af∈ev b0 aa,¬ca n af
 jf:∀aa∈bP,∀af∈ev b0 aa,af∈bP
def Az (a:v)(b:Nat)(r:hZ):cr ((a,b)::r)=cr r++[a]:=by simp[cr]
def AA {a:h}(b:(ev k m)[n]?=J o):ln k w ((m,n)::r) a=jV k w o ((m,n+1)::r) a:=by
 unfold ln;show aJ (zk b) V
def Rl {r:hZ}{a:h}(b:(ev k m)[n]?=ah):ln k o ((m,n)::r) a=ln k o r a:=by
 unfold ln;show aJ (zl b) V
def Rm {a:h}(b:k∈a)(c:k∉cr m):jV n (o+1) k m a=ln n o m a:=by
 show(if_pos b).trans<|(if_neg c).trans V
def GE {a:h}(b:k∉a):jV m (n+1) k o a=ln m n ((k,0)::o) (k::a):=by
 show(if_neg b).trans V
def GF (u:tm k w B):∀(n:Nat)(b:v),b∈w->¬B n b->∀(d:Nat)(o:hZ)(i:h)(r:Nat),(∀a∈cr o,B n a)->gW k w i+1+r<=d->
 ∃l f,jV k d b o i=ln k l o f/\l<=d/\gW k w f+r<=l/\(∀a∈i,a∈f)/\b∈f/\∀a∈f,a∈i\/(a∈w/\¬B n a):=by
 intro n
 induction n with
 |zero=>show λb A E=>absurd (u.zero b A) E|succ n Sh=>
  intro b A E d o i r M K;by_cases N:B n b
  .obtain⟨d,rfl⟩:∃Sl,d=Sl+1:=#[d - 1,by show c1 ((e0<|cg<|d - 1))<|(aA<|fa (n:=d) (m:=1)<|bd [.j (.S (.e C) t) y] 0 (.O 1) y D K)];by_cases L:b∈i
   .show tM d i (Rm L (λq=>E (M b q):b∉cr o)) (by simp+arith) (bd [.j (.S (.e y) C)<| .e t] 0 (.S y C) t D K) (λa c=>c) L<|λa c=>.inl c
   .mspec GE L;have iter:∀(q s:Nat),s+q=mK k b->∀(d:Nat)(p:h),gW k w p+q+r<=d->(∀a∈i,a∈p)->b∈p->(∀a∈p,a∈i\/(a∈w/\¬B (n+1) a))->
     ∃l f,ln k d ((b,s)::o) p=ln k l o f/\l<=d/\gW k w f+r<=l/\(∀a∈i,a∈f)/\b∈f/\∀a∈f,a∈i\/(a∈w/\¬B (n+1) a):=by
     intro q
     induction q with
     |zero=>
      intro s x d p P F G H;show tM d p (Rl<|nW (by unfold mK at x;show b9 [.j y<| .S C<| .O 0] 0 y C D<|aA (x).symm)) (cg _) (bd [.j (.S (.S y<| .O 0) C) t] 0 (.S y C) t D P) F G H
     |succ q Sm=>
      intro s x d p P F G H;have Si:s<(ev k b).length:=by unfold mK at x;show bd [.j (.S y<| .e t) C] 0 (.e y) C D<|aA x
      have Sj:(ev k b)[s]∈ev k b:=ox Si;mspec AA<|gm Si;obtain⟨l,f,Q,Sn,So,Sk,w,Sp⟩:=Sh _ (u.jf b A _ Sj) ((u.step n b N E) _ Sj) d ((b,s+1)::o) p (q+r) (λa c=>by
       rw[Az]at c;show cL c (λc=>?_) λc=>?_
       .show u.down n a<|M a c
       .show kI c N)<|c7 [.j (.S (.S y<| .e C) t) aV] 0 (.S (.e y)<| .S C t) aV D P
      mspec Q;show bC λR I=>?_;show f3 (Sm (s+1) (c1 (bd [.j (.S y<| .e C) t] 0 (.S (.e y) C) t D<|aA x)<|bd [.j y<| .S C<| .e t] 0 y (.S (.e C) t) D<|aA (x).symm) l f (c7 [.j (.S y<| .S C t) aV] 0 (.S (.S y C) t) aV D So) (λa c=>Sk a<|F a c) (Sk b G) λa c=>(Sp a c).elim (H a) λT=>ao T λU V=>.inr #[U,λW=>V<|u.down n a W]) λX Y Z Sf Sg=>?_;show I ?_;clear I R;show f4 X Y Z (a6 Sf Sn) Sg
    obtain⟨X,Y,Z,Sf,Sg⟩:=iter (mK k b) 0 (by simp+arith) d (b::i) (jB [.j (.S (.e dx) t)<| .e aV,.j (.S y C) dx] 0 (.S (.S y C) t) aV D K<|GD (b0:=k) L A) (λa c=>g c) ap λa c=>by
     show ay (a5 c) (λSq=>?_) λc=>?_
     .obtain rfl:=Sq;show .inr #[A,E]
     .show .inl c
    show f4 X Y Z (b9 [.j y C] 0 y (.e C) D Sf) Sg
  .show bC λR I=>?_;show tK (Sh b A N d o i r (λa c=>u.down n a<|M a c) K) λl f Q h0 F G H b=>?_;show I ?_;clear I R;show tM l f Q h0 F G H<|λa c=>(b a c).imp id λT=>ao T λU V=>#[U,λW=>V<|u.down n a W]
inductive nL {a:Type}[BEq a](b:a->Option a):List a->a->List a->Prop
 |nA {fv:List a} {aq:a}:aq∈fv->nL b fv aq (fv.drop (fv.idxOf aq)++[aq])|step {fv:List a} {aq c:a} {d:List a}:aq∉fv->b aq=J c->nL b (fv++[aq]) c d->nL b fv aq d
def Rn (K:tm k M r)(l:Nat)(L:v->Option v)
 (Sl:∀F∈M,r l F->∃(A:Nat) (s:v),(ev k F)[A]?=J s/\r l s/\L F=J s/\∀(d:Nat)(Z:v),d<A->(ev k F)[d]?=J Z->¬r l Z):
 ∀(f:Nat)(c:v)(i:hZ)(o:h),c∈M->r l c->(∀a∈cr i,r l a/\a∈o)->(∀a∈o,r l a->a∈cr i)->gW k M o+1<=f->∃u,jV k f c i o=J (.inl u)/\nL L (cr i) c u:=by
 intro f
 induction f using Nat.strongRecOn with
 |ind f Sm=>
  intro c i o G H I Sf Sg;obtain⟨f,rfl⟩:∃d,f=d+1:=#[f - 1,by show c1 ((e0<|cg<|f - 1))<|(aA<|fa (n:=f) (m:=1)<|b9 [.aL C y] 0 (.O 1) y D Sg)];by_cases E:c∈o
  .have B:=Sf c E H;show av _ ((if_pos E).trans<|if_pos B)<| .nA B
  .show bC λZ F=>?_;show l5 (Sl c G H) λA s N hd Sn So=>?_;show F ?_;clear F Z;have Sh:=GD (b0:=k) E G;have Si:=(gG.mp N).1;mspec GE E;have iter:∀(q d:Nat),d+q=A->∀(w:Nat)(p:h),w<=f->gW k M p+q+1<=w->(∀a∈o,a∈p)->c∈p->(∀a∈p,a∈o\/a=c\/¬r l a)->
    ∃u,ln k w ((c,d)::i) p=J (.inl u)/\nL L (cr i) c u:=by
    intro q
    induction q with
    |zero=>
     intro d x w p Sp P Q B R;obtain rfl:d=A:=c1 (b9 [.j (.S y<| .O 0) C] 0 y C D<|aA x)<|b9 [.j y<| .S C<| .O 0] 0 y C D<|aA (x).symm;mspec AA N;have T:cr ((c,d+1)::i)=cr i++[c]:=Az _ _ _;obtain⟨u,U,W⟩:=Sm w (by show qB ‹_›) s ((c,d+1)::i) p (K.jf c G s (ib N):s∈M) hd (λa b=>by
      rw[T]at b;show cL b (λb=>?_) λb=>?_
      .show#[(I a b).1,Q a (I a b).2]
      .show(bX b)▸#[H,B]) (λa b Sj=>by
      mspec T;rcases R a b with X|rfl|X
      .show bJ<|Sf a X Sj
      .simp
      .show absurd Sj X)<|b9 [.aL (.S y<| .O 0) C] 0 (.e y) C D P
     show av u U (.step (λq=>E (I c q).2) Sn (by replace W:=T▸W;show W))
    |succ q Sq=>
     intro d x w p Sp P Q B R;have Y:d<(ev k c).length:=c7 [.aL t C,.j (.S y<| .e aV) t] 0 (.e y) C D Si<|aA x;mspec AA<|gm Y;obtain⟨Sr,Ss,U,s,St,Sk,u,Su⟩:=GF K l _ (K.jf c G _<|ox Y) (So d _ (bd [.j (.S y<| .e t) C] 0 (.e y) C D<|aA x) (gm Y):¬r l (ev k c)[d]) w ((c,d+1)::i) p (q+1) (λa b=>by
      rw[Az]at b;show cL b (λb=>?_) λb=>?_
      .show(I a b).1
      .show(bX b)▸H)<|bd [.aL (.S y<| .e C) t] 0 (.S (.e y)<| .e C) t D P
     mspec U;show Sq (d+1) (c1 (bd [.j (.S y<| .e C) t] 0 (.S (.e y) C) t D<|aA x)<|bd [.j y<| .S C<| .e t] 0 y (.S (.e C) t) D<|aA (x).symm) Sr Ss (by show a6 ‹_› ‹_›) (bd [.j (.S y<| .e C) t] 0 (.e<| .S y C) t D St) (λa b=>Sk a<|Q a b) (Sk c B) λa b=>(Su a b).elim (R a) λd=>ao d λk i=>.inr<| .inr i
   show iter A 0 (by simp+arith) f (c::o) (cg _) (by unfold mK at Sh;show jB [.aL aV<| .e t,.j (.S y dx) aV,.aL C dx] 0 (.e<| .S y C) t D Sg Sh Si) (λa b=>g b) ap λa b=>by
    rcases a5 b with rfl|b
    .show .inr<| .inl V
    .show .inl b
def GG (u:tm m k o)(n:Nat)(v:gW m k []<=900):
 ∀(b c a:h),(∀d∈b,d∈k/\¬o n d)->(∀f∈a,¬o n f)->∃i,lU m 1000 (b++c) a=lU m 1000 c i/\∀f∈i,¬o n f:=by
 have w:∀(k a:h),gW m k a<=gW m k []:=by
  intro k a
  induction k with
  |nil=>show cg _|cons l k p=>
   unfold gW at p ⊢;mspec b8;mspec b8;mspec hW;mspec hW;rw[if_neg (by simp:l∉[])];split<;>lia
 intro b
 induction b with
 |nil=>show λc a q l=>#[a,V,l]|cons d b p=>
  intro c a r s;have t:∀l∈b,l∈k/\¬o n l:=λl o=>r l<|g o;by_cases o:d∈a
  .show aY (p c a t s) λx A B=>#[x,(if_pos o).trans A,B]
  .have x:lU m 1000 (d::b++c) a=_:=if_neg o;mspec x;show ao (r d ap) λx A=>?_;show bC λr o=>?_;show tK (GF u n d x A 1000 [] a 0 (λf b=>nomatch b)<|b9 [.j C<| .O 900,.j y C] 0 (.S (.e y)<| .O 0) (.O 1000) D v<|w k a) λd i n q q x A u=>?_;show o ?_;clear o r;mspec n;mspec(V:ln m d [] i=J (.inr i));show p c i t λf b=>(u f b).elim (s f) λa=>ao a λq l=>l
def Ro (q:tm m k n)(c:Nat)(r:gW m k []<=900)(f:v->Option v)
 (s:∀a∈k,n c a->∃(i:Nat) (g:v),(ev m a)[i]?=J g/\n c g/\f a=J g/\∀(j:Nat)(l:v),j<i->(ev m a)[j]?=J l->¬n c l)
 (a:v) (t b:h) (u:a∈k) (o:n c a) (p:∀d∈b,¬n c d):∃e,lU m 1000 (a::t) b=J (J e)/\nL f [] a e:=by
 have w:∀(k b:h),gW m k b<=gW m k []:=by
  intro k b
  induction k with
  |nil=>show cg _|cons x k y=>
   unfold gW at y ⊢;mspec b8;mspec b8;mspec hW;mspec hW;rw[if_neg (by simp:x∉[])];split<;>lia
 show aY (Rn q c f s 1000 a [] b u o (λd g=>nomatch g) (λd g c=>absurd c<|p d g)<|p0 (a6 (w k b) r) D) λe f i=>?_;show av e ?_ i;show(if_neg<|λb=>p a b o).trans ?_;show aJ f V
def GH (h:∀a∈k,d1 a){a:Int}(i:d1 a)(c:Int->Int)(d:Int->s):(mk k c d).lookup (a4 a)=if a∈k then J (c a,(d a).map a4)else ah:=by
 induction k with
 |nil=>rfl|cons b k e=>
  have e:=e λj l=>h j<|g l;show(?_:tO (a4 a) ((a4 b,c b,(d b).map a4)::mk k c d)=_);mspec fz;by_cases f:a=b
  .subst f;simp
  .mspec(show(a4 a==a4 b)=aj from by simpa using λc=>f<|rq i (h b ap) c);dsimp only;mspec e;simp[f]
def tn (a:∀k∈m,d1 k)(b:k∈m)(d:Int->Int)(c:Int->s):ev (mk m d c) (a4 k)=(c k).map a4:=by
 unfold ev;rw[GH a<|a k b];mspec if_pos b;rfl
def AB (a:∀k∈m,d1 k)(b:k∈m)(c:Int->Int)(d:Int->s):i1 (mk m c d) (a4 k)=c k:=by
 unfold i1;rw[GH a<|a k b];mspec if_pos b;rfl
def GI (b:dq k)(a:m<k.length):3+(m:Int)∈cG k:=by
 show f3 (b.row m k[m]<|gm a) λd body c e f=>?_;show(wA k _).mpr (av (k[m]) (ox a) (by mspec c;show ap))
def ru (a:dq k)(b:m∈dm k n):m∈cG k:=by
 show ao (nK.mp b) λc d=>?_;show p c λd b=>?_;show kK b λc=>?_;show GI a c
theorem to (a:b5):∀n,(ep a n).Sublist (dj a)
 |0=>Nm _|n+1=>lS.trans<|to a n
theorem GJ (a:b5):∀n,hh a (ep a n)=ep a n\/(ep a n).length+n<=a.length
 |0=>.inr<|aA (a7 ..)
 |n+1=>by
  rcases GJ a n with b|b
  .left;mspec show ep a (n+1)=ep a n from b;show aJ b V
  .by_cases c:hh a (ep a n)=ep a n
   .left;mspec show ep a (n+1)=ep a n from c;show aJ c V
   .right;have d:(hh a<|ep a n).Sublist (ep a n):=lS;have f:=d.length_le;show(LP (show(hh a<|ep a n).length≠(ep a n).length from λg=>c<|d.eq_of_length g)).elim (λa=>c7 [.j (.S aV C) t,.aL y aV] 0 (.S y<| .e C) t D b a) λa=>c7 [.j (.S aV C) t,#[2,y,aV],.aL aV y] 0 (.S y<| .e C) t D b f a
def Rp (a:b5):hh a (cJ a)=cJ a:=by
 unfold cJ;show ay (GJ a a.length) (λb=>?_) λb=>?_
 .show b
 .mspec show ep a a.length=[]from n6.mp<|c1 (b9 [.j (.S y C) C] 0 y (.O 0) D b)<|ey _;rfl
def GK:k∈hh n m↔k∈m/\∃a∈m,k∈dg n a:=by
 unfold hh;rw[e9];mspec decide_eq_true_eq;show and_congr_right λb=>#[λc=>?_,λd=>aY d λa b e=>?_]
 .show p (vq _ c) λa b=>?_;show ao (e9.mp b) λc d=>?_;show aY (ko.mp d) λh f g=>?_;show av a c (by show ch (beq_iff_eq.mp g) ?_;show f)
 .show LU<|e9.mpr #[b,ko.mpr<|av k e<|beq_self_eq_true k]
theorem AC {g:Type}[DecidableEq g]:∀{b c:List g},b.Sublist c->c.Nodup->b=c.filter λd=>decide (d∈b)
 |_,_,.slnil,_=>rfl|b,f::c,.cons _ e,a=>by
  replace a:=(ka).mp a;have g:f∉b:=λh=>a.1<|e.subset h;mspec Do (by simpa using g);show AC e a.2
 |f::b,_::c,.cons_cons _ e,a=>by
  replace a:=(ka).mp a;mspec Dp (by simp);congr 1;have c:=AC e a.2;rw[pn (q:=λd=>decide (d∈b)) λd e=>?_]
  .show c
  .have:d≠f:=λb=>a.1<|b▸e;simp[this]
def GL:en 3 8=[3,4,5,6,7]:=by decide
def rv:k∈hI n left m↔(3<=k/\k<8)/\k∈left/\m∈dg n k:=by
 unfold hI;rw[e9];mspec GL;rw[i7,ko,ko];constructor
 .rintro e;show bC λf c=>?_;obtain⟨d,⟨i,a,g⟩,⟨j,b,h⟩⟩:=e;show c ?_;clear c f;rw[beq_iff_eq.mp g]at a;rw[beq_iff_eq.mp h]at b;show cH ?_ a b;simp only[hQ,mL,or_false]at d;lia
 .rintro⟨d,a,b⟩;show cH ?_ (av k a<|beq_self_eq_true k)<|av m b<|beq_self_eq_true m;simp only[hQ,mL,or_false];lia
def Rq (a:b5)(left:s)(b:Int):(hI a left b).Pairwise (·<·):=by
 unfold hI;show Rr lS ?_;mspec GL;decide
def Rs (a:k∈dm m n):k<3+(m.length:Int):=by
 show ao (nK.mp a) λb c=>?_;show p b λc a=>?_;show kK a λb=>?_;show el.mpr<|b9 [.aL y C] 0 (.e<| .S (.O 3) y) (.S (.O 3) C) D b
def Rt (a:List bG)(c:Int):(dm a c).Pairwise (·<=·):=by
 induction a using i4 with
 |nil=>show .nil|snoc a r d=>
  rw[Ax];show ih.mpr<|cH d ?_<|λe c f b=>?_
  .show(List.pairwise_replicate).mpr ?_;show .inr<|tG _
  .have:=Rs c;rw[GC]at b;mspec b.2;show bj [e,↑a.length] [.aL A<| .S (.O 3) aC] 0 A (.S (.O 3) aC) D this
theorem GM:∀{d:s}{a:Nat},a<d.idxOf k->d[a]?≠J k
 |[],a,_,c=>by simp at c|f::d,a,b,c=>by
  rw[sN]at b;by_cases e:f=k
  .subst e;simp at b
  .replace b:=(beq_eq_false_iff_ne.mpr e)▸b;cases a with
   |zero=>simp at c;show e c|succ a=>
    rw[cond_false]at b;show GM (lr b) (by simpa using c)
def Ru (t:dq k){ae:Int}(G:ae∈cJ (bn k)):∃(u:Nat) (a:Int),(dm k ae)[u]?=J a/\a∈cJ (bn k)/\(hI (bn k) (cJ<|bn k) ae).head?=J a/\∀(d:Nat)(b:Int),d<u->(dm k ae)[d]?=J b->b∉cJ (bn k):=by
 show ao (iO k t) λH f=>?_;have u:=Rp<|bn k;have v:=G;rw[<-u]at v;show ao (GK.mp v) λh i=>?_;show p i λl m=>?_;show ao m λw n=>?_;have x:l∈dj (bn k):=(to _ _).subset w;rw[H]at x;rw[f]at n;have u:=(oD n).1;have v:=(hp t l x).2;have y:l∈hI (bn k) (cJ<|bn k) ae:=rv.mpr (cH #[u,v] w (by rw[f];show n));cases hn:hI (bn k) (cJ<|bn k) ae with
 |nil=>rw[hn]at y;cases y
 |cons a l=>
  have hd:a∈hI (bn k) (cJ<|bn k) ae:=by mspec hn;show ap
  show cd (rv.mp hd) λo I q=>?_;rw[f]at q;have l:a∈dm k ae:=by
   show nK.mpr #[(av ((a - 3).toNat) ?_<|by show gr (bj [a,↑(a - 3).toNat] [.j (.c8 A<| .O 3) aC] 0 A (.S (.O 3) aC) D (kl (a - 3):))<|bj [↑(a - 3).toNat,a] [.j A<| .c8 aC<| .O 3] 0 (.S (.O 3) A) aC D (c4 (gx<|bj [a] [.j (.O 3) A] 0 (.O 0) (.c8 A<| .O 3) D o.1):)),q];show ao (oD q) λh i=>?_;show p i λr m=>?_;show cd m λh h i=>?_;show(gG.mp i).1
  have g:(dm k ae).idxOf a<(dm k ae).length:=IE.mpr l;show kN ((dm k ae).idxOf a) a ?_ I V<|λd b B s K=>?_
  .mspec gm g;show aJ (BZ g) V
  .have C:b<=a:=by
    obtain⟨L,rfl⟩:=gG.mp s;have:=E8.mp (Rt k ae) d ((dm k ae).idxOf a) L g B;rwa[BZ g]at this
   have M:b≠a:=λc=>by
    subst c;show GM B s
   show ao (nK.mp (show b∈dm k ae from ib s)) λg h=>?_;show aY g λd l i=>?_;have E:b∈hI (bn k) (cJ<|bn k) ae:=rv.mpr (cH #[by show bj [b,↑d] [.j (.S (.O 3) aC) A,.j (.O 0) aC] 0 (.O 3) A D (c4 (i).symm:) (f2 d:),by have:=o.2;show bj [b,a] [.aL aC<| .O 8,.j A aC] 0 (.e A) (.O 8) D o.2 C] K (by rw[f];show h));rw[hn]at E;have F:=Rq (bn k) (cJ<|bn k) ae;rw[hn,gq]at F;show ay (d2 E) (λc=>?_) λc=>?_
   .show M c
   .have:=F.1 b c;show kJ [b,a] [.j A aC,.aL aC A] D C this
def tp (bU:List bG)(n:Nat)(aa:v):Prop:=∃ae∈ep (bn bU) n,aa=a4 ae
noncomputable abbrev lo (bU:List bG):dl:=mk (cG bU) (jy bU)<|dm bU
def nM (a:dq k)(b:m∈ep (bn k) n):m∈cG k:=by
 have:=(to _ _).subset b;rwa[(iO k a).1]at this
def tq (b:dq k){n:Nat}{a:Int}(d:a∈cG k):tp k n (a4 a)↔a∈ep (bn k) n:=by
 constructor
 .intro e;show aY e λf c g=>?_;show(rq (hp b a d) (hp b f<|nM b c) g)▸c
 .show λb=>av a b V
def Rv (a:dq k):tm (lo k) ((cG k).map a4) (tp k) where
 zero:=λe f=>by
  show bC λj g=>?_;obtain⟨c,b,rfl⟩:=ck f;show g ?_;clear g j;show av c (by show(?_:c∈dj (bn k));show((iO k a).1)▸b) V
 down:=λn e g=>aY g λc b h=>av c ((e9.mp b).1) h
 step:=λn e g=>aY g λc b h l m hd=>by
  subst h;rw[tn (hp a)<|nM a b]at hd;obtain⟨i,d,rfl⟩:=ck hd;rw[tq a<|ru a d];intro g;show l<|av c (GK.mpr #[b,i,g,?_]) V;rw[(iO k a).2];show(nK.mp d).2
 jf:=λe f m hd=>by
  obtain⟨c,b,rfl⟩:=ck f;rw[tn (hp a) b]at hd;show g0 hd λi d=>?_;show dI<|ru a d
noncomputable def oF (bU:List bG)(ae:Int):Option Int:=(hI (bn bU) (cJ<|bn bU) ae).head?
noncomputable def tr (bU:List bG)(aa:v):Option v:=((cG bU).find? λae=>a4 ae==aa).bind λae=>(oF bU ae).map a4
def GN (c:dq k){a:Int}(d:a∈cG k):tr k (a4 a)=(oF k a).map a4:=by
 unfold tr;have:(cG k).find? (λb=>a4 b==a4 a)=J a:=by
  cases h:(cG k).find? (λb=>a4 b==a4 a)with
  |none=>
   have:=List.find?_eq_none.mp h a d;simp at this
  |some b=>
   have e:=List.find?_some h;show aJ (rq (hp c b<|List.mem_of_find?_eq_some h) (hp c a d)<|beq_iff_eq.mp e) V
 mspec this;rfl
def Rw (a:dq k):∀c∈(cG k).map a4,tp k (bn k).length c->∃(d:Nat) (b:v),(ev (lo k) c)[d]?=J b/\tp k (bn k).length b/\tr k c=J b/\∀(e:Nat)(f:v),e<d->(ev (lo k) c)[e]?=J f->¬tp k (bn k).length f:=λc j l=>by
 obtain⟨m,g,rfl⟩:=ck j;have c:=(tq a g).mp l;show l5 (Ru a (ae:=m) c) λd b j k l n=>?_;rw[tn (hp a) g];show kN d (a4 b) (by mspec e8;mspec j;rfl) (av b k V) (by mspec GN a g;unfold oF;mspec l;rfl)<|λe f o h=>?_;rw[e8,gl]at h;obtain⟨p,i,rfl⟩:=h;rw[tq a<|ru a<|ib i];show n e p o i
theorem GO (d:d1 k):∀{fv:s},(∀a∈fv,d1 a)->(fv.map a4).idxOf (a4 k)=fv.idxOf k
 |[],_=>rfl|b::fv,e=>by
  mspec b8;mspec sN;mspec sN;by_cases c:b=k
  .subst c;simp
  .mspec(show(a4 b==a4 k)=aj from by simpa using λf=>c<|rq (e b ap) d f);mspec beq_eq_false_iff_ne.mpr c;show aJ (GO d (fv:=fv) λa b=>e a<|g b) V
def Rx {f:List bG}(b:dq f){i:h}{j:v}{m:h}(u:nL (tr f) i j m):∀(c:s)(d:Int),i=c.map a4->j=a4 d->(∀a∈c,a∈cJ (bn f))->d∈cJ (bn f)->∃k,m=k.map a4/\nL (oF f) c d k:=by
 induction u with
 |@nA i j n=>
  rintro c d rfl rfl l g;have o:∀a∈c,d1 a:=λa e=>hp b a<|nM b<|l a e;have p:=hp b d<|nM b g;mspec GO p o;show av (c.drop (c.idxOf d)++[d]) (by mspec eX;mspec No;rfl)<| .nA<|(wB o p).mp n
 |@step i j u m n q B w=>
  rintro c d rfl rfl l g;have o:∀a∈c,d1 a:=λa e=>hp b a<|nM b<|l a e;have p:=hp b d<|nM b g;rw[GN b<|nM b g,gl]at q;obtain⟨r,t,rfl⟩:=q;have x:r∈cJ (bn f):=(rv.mp<|GP t).2.1;obtain⟨k,y,A⟩:=w (c++[d]) r (by mspec eX;rfl) V (λa e=>by
   show cL e (λe=>?_) λe=>?_
   .show l a e
   .show kI e g) x
  show av k y<| .step (λa=>n<|dI a) t A
def Ry (u:nL (oF o) k r w):∀(a:Nat)(c:Int),k.getLast?=J c->oF o c=J r->k.Nodup->(∀l∈k,l∈cJ (bn o))->(cJ<|bn o).length+2<=a+k.length->k8 (bn o) (cJ<|bn o) a k=J w:=by
 induction u with
 |@nA k r d=>
  intro a c p f g h i;obtain⟨a,rfl⟩:∃q,a=q+1:=#[a - 1,by show c1 ((e0<|cg<|a - 1))<|(aA<|fa (n:=a) (m:=1)<|bd [.j (.S C<| .O 2)<| .S y t,.j t C] 1 (.O 1) y D i<|lR (cJ<|bn o) k g h)];unfold oF at f;rw[sH];mspec p;dsimp only;mspec f;dsimp only;show aJ (if_pos d) V
 |@step k r u w d b x v=>
  intro a c p f g h i;obtain⟨a,rfl⟩:∃q,a=q+1:=#[a - 1,by show c1 ((e0<|cg<|a - 1))<|(aA<|fa (n:=a) (m:=1)<|bd [.j (.S C<| .O 2)<| .S y t,.j t C] 1 (.O 1) y D i<|lR (cJ<|bn o) k g h)];have s:=f;unfold oF at s;rw[sH];mspec p;dsimp only;mspec s;dsimp only;mspec if_neg d;show v a r rj b (gz.mpr<|cH g (by simp)<|λk c p f=>?_) (λl b=>?_) (by mspec dF;mspec gw;show bd [.j (.S y<| .O 2)<| .S (.e C) t] 0 (.S y<| .O 2) (.S C<| .e t) D i)
  .mspec bX f;intro a;show d<|a▸c
  .show cL b (λb=>?_) λb=>?_
   .show h l b
   .show kI b (show r∈cJ (bn o)from(rv.mp<|GP s).2.1)
def Rz (h:b5)(left:s)(d:Nat):∀(b c:s),k8 h left d b=J c->(∀f∈b,f∈left)->c≠[]/\c.length<=b.length+d+1/\∀g∈c,g∈left:=by
 induction d with
 |zero=>show λb c a=>nomatch a|succ d o=>
  intro b c a i;rw[sH]at a;cases hwl:b.getLast? with
  |none=>replace a:=hwl▸a;cases a
  |some p=>
   replace a:=hwl▸a;dsimp only at a;cases hv:(hI h left p).head? with
   |none=>replace a:=hv▸a;cases a
   |some k=>
    rw[hv]at a;dsimp only at a;have l:k∈left:=(rv.mp<|GP hv).2.1;by_cases m:k∈b
    .rw[if_pos m]at a;obtain rfl:=fS a;show cH (by simp) (by mspec dF;mspec k7;mspec gw;simp+arith)<|λg b=>?_;show cL b (λb=>?_) λb=>?_
     .show i g<|CL b
     .show kI b l
    .rw[if_neg m]at a;show cd (o _ c a λf b=>?_) λa n c=>?_
     .show cL b (λb=>?_) λb=>?_
      .show i f b
      .show kI b l
     .show cH a ?_ c;rw[dF,gw]at n;show bd [.j y<| .e<| .S (.e C) t] 0 y (.e<| .S C<| .e t) D n
def AD (a:dq k):(cG k).length<=8:=by
 have:=lR ([0,1,2,3,4,5,6,7]:s) (cG k) (tk k) λb c=>by
  show ao (hp a b c) λh0 d=>?_;simp only[hQ,mL,or_false];lia
 simpa using this
def RA (c:dq k):∀a,hJ (bn k)=J a->a≠[]/\a.length<=1000/\∀b∈a,0<=b/\b<8:=λa d=>by
 unfold hJ at d;show cd (Rz _ _ _ _ _ d λl a=>sk a) λg f h=>?_;have i:(cJ<|bn k).length<=8:=by
  have:=(to (bn k) (bn k).length).length_le;rw[(iO k c).1]at this;have:=AD c;unfold cJ;show a6 ‹_› ‹_›
 show cH g ?_<|λb a=>hp c b<|nM c<|h b a;rw[g8]at f;show bd [.j y<| .e<| .S C<| .e t,.j t<| .O 8,.j C<| .O 1] 0 y (.O 1000) D f i<|ol 1<|(cJ<|bn k).length
def GQ (d:dq k)(c:Int):(dm k c).length<=20:=by
 unfold dm;have:=tc (λ(b:Nat)=>kA ((fJ k<|3+(b:Int)).count c)<|3+(b:Int)) (jc k.length) 4 λb e=>by
  mspec List.length_replicate;have e:=List.count_le_length (a:=c) (l:=fJ k<|3+(b:Int));have c:=Gv d<|3+(b:Int);have c:(fJ k<|3+(b:Int)).length<=4:=by
   unfold fJ;mspec dF;mspec g8;lia
  show a6 ‹_› ‹_›
 rw[jQ]at this;show b9 [.j y<| .w C 4,#[4,C,.O 5]] 0 y (.O 20) D this d.len
def AE (a:dq k):gW (lo k) ((cG k).map a4) []<=900:=by
 unfold gW;mspec d9;have:=Au ((λc=>if c∈([]:h)then 0 else mK (lo k) c)∘a4) (cG k) 20 λb d=>by
  show(?_:(if a4 b∈([]:h)then 0 else mK (lo k) (a4 b))<=20);mspec if_neg (by simp);unfold mK;rw[tn (hp a) d,a7];show GQ a b
 have:=AD a;lia
def RB (d:dq k):k9 (lo k)=J ((hJ<|bn k).map (·.map a4)):=by
 have r:=Rv d;unfold k9;rw[rt];have w:=to (bn k) (bn k).length;rw[(iO k d).1]at w;have B:=AC w<|tk k;have split:∀h:s,(∀a∈h,a∉cJ (bn k))\/∃e c f,h=e++c::f/\(∀a∈e,a∉cJ (bn k))/\c∈cJ (bn k):=by
  intro h
  induction h with
  |nil=>show .inl λa b=>nomatch b|cons i h C=>
   by_cases j:i∈cJ (bn k)
   .show .inr (kM [] i h V (λa b=>nomatch b) j)
   .rcases C with n|⟨e,c,f,rfl,o,l⟩
    .show .inl λa b=>(d2 b).elim (λg=>g▸j)<|n a
    .show .inr<|kM (i::e) c f V (λa b=>(d2 b).elim (λg=>g▸j)<|o a) l
 show ay (split (cG k)) (λn=>?_) λD=>?_
 .have E:cJ (bn k)=[]:=by
   cases m:cJ (bn k)with
   |nil=>rfl|cons i h=>
    have j:i∈cJ (bn k):=m▸ap;show absurd j<|n i<|nM d j
  obtain⟨x,g,_⟩:=GG r (bn k).length (AE d) ((cG k).map a4) [] [] (λF m=>by
   obtain⟨a,b,rfl⟩:=ck m;show#[m,λt=>n a b<|(tq d b).mp t]) (λG u=>nomatch u)
  rw[fk]at g;mspec g;unfold hJ;mspec E;rfl
 .show kL D λe c f v=>?_;show cd v λq o l=>?_;have y:∀a∈e,a∈cG k:=λa b=>by mspec q;simp[b]
  have H:c∈cG k:=by mspec q;simp
  obtain⟨x,g,I⟩:=GG r (bn k).length (AE d) (e.map a4) ((c::f).map a4) [] (λF m=>by
   obtain⟨a,b,rfl⟩:=ck m;show#[dI<|y a b,λt=>o a b<|(tq d<|y a b).mp t]) (λG u=>nomatch u)
  show aY (Ro r (bn k).length (AE d) (tr k) (Rw d) (a4 c) (f.map a4) x (dI H) (av c l V) I) λh i j=>?_;have m:lU (lo k) 1000 ((cG k).map a4) []=J (J h):=by
   mspec(show(cG k).map a4=e.map a4++(c::f).map a4 from by show aJ q ?_;show aJ eX V);mspec g;mspec b8;show aJ i V
  mspec m;show p (Rx d j [] c V rfl (λa b=>nomatch b) l) λK v=>?_;show ci v λL=>?_;have M:(cJ<|bn k).take 1=[c]:=by
   mspec(show cJ (bn k)=(e++c::f).filter λa=>decide (a∈cJ (bn k))from by show q▸B);rw[rQ];mspec zX.mpr (λa b=>by simpa using o a b);rw[nv];mspec Dp (by simpa using l);rfl
  cases L with
  |nA A=>cases A
  |step A N O=>
   have:=Ry O ((cJ<|bn k).length+1) c V N (by simp) (λa b=>by
    show(show a=c from by simpa using b)▸l) (by simp)
   unfold hJ;mspec M;mspec show k8 (bn k) (cJ<|bn k) ((cJ<|bn k).length+1) [c]=J K from this;rfl
noncomputable def oG (mJ:Int->Int):s->s
 |[]=>[]|aa::ag=>(if mJ aa - 1=0 then[aa]else[])++oG (λae=>if ae=aa then mJ ae - 1 else mJ ae) ag
def GR {a:Int->Int}{b:Int}{d:s}:oG a (b::d)=(if a b - 1=0 then[b]else[])++oG (λc=>if c=b then a c - 1 else a c) d:=rfl
def RC (d:∀a∈k,d1 a)(e:d1 m){b:Int->Int}{c:Int->s}:my (mk k b c) (a4 m)=mk k (λa=>if a=m then b a - 1 else b a) c:=
 wC d e (λb=>(b.1,b.2.1 - 1,b.2.2)) _ _ (by simp) λa c=>#[if_neg c,V]
theorem GS (i:∀a∈k,d1 a)(f:Int->s):∀(d:s)(b:Int->Int)(e:s),(∀a∈d,a∈k)->
 (d.map a4).foldl fV (mk k b f,e.map a4)=(mk k (λa=>b a - (d.count a:Nat)) f,(e++oG b d).map a4)
 |[],b,e,_=>by
  mspec m9;mspec FE;have m:oG b []=[]:=rfl;rw[m,fk];congr 1;show oE (λa h=>by simp) λh h=>rfl
 |c::d,b,e,l=>by
  have m:=l c ap;mspec b8;mspec hV;have n:fV (mk k b f,e.map a4) (a4 c)=(mk k (λa=>if a=c then b a - 1 else b a) f,(e++(if b c - 1=0 then[c]else[])).map a4):=by
   unfold fV;mspec RC i<|i c m;rw[AB i m];mspec if_pos V;congr 1;split
   .mspec eX;rfl
   .rw[fk]
  mspec n;mspec GS i f d _ _ λa b=>l a<|g b;rw[GR,hX];congr 1;show oE (λa h=>?_) λh h=>rfl;mspec Gz;by_cases j:a=c
  .subst j;simp;simp+arith
  .mspec if_neg j;mspec if_neg (by simpa using λb:c=a=>j b.symm);rw[nN]
theorem GT (c:Int)(i:s):∀(b:Nat)(a:Int->Int),(0<b->(b:Int)<=a c)->oG a (kA b c++i)=(if 0<b/\a c=b then[c]else[])++oG (λd=>if d=c then a d - b else a d) i
 |0,a,_=>by
  mspec List.replicate_zero;rw[nv];mspec if_neg (by simp+arith);rw[nv];congr 1;funext d;split<;>simp
 |b+1,a,f=>by
  have f:=f (by simp+arith);mspec z6;mspec qN;rw[GR];mspec GT c i b _ (λl=>by show aJ (if_pos V) ?_;show bj [↑b,a c] [.aL A aC] 0 A (.c8 aC<| .O 1) D f);mspec if_pos V;have k:(λd=>if d=c then(if d=c then a d - 1 else a d) - (b:Int)else(if d=c then a d - 1 else a d))=λd=>if d=c then a d - ((b+1:Nat):Int)else a d:=by
   funext d;by_cases g:d=c
   .mspec if_pos g;mspec if_pos g;mspec if_pos g;simp+arith
   .mspec if_neg g;mspec if_neg g;show aJ (if_neg g) V
  mspec k;rw[<-hX];congr 1;by_cases h:a c=((b+1:Nat):Int)
  .mspec if_pos (#[by simp+arith,h]:0<b+1/\a c=((b+1:Nat):Int));by_cases h0:b=0
   .subst h0;mspec if_pos (by show gr (bj [a c] [.j A<| .O 1] 0 (.c8 A<| .O 1) (.O 0) D (c4 h:))<|bj [a c] [.j (.O 1) A] 0 (.O 0) (.c8 A<| .O 1) D f);mspec if_neg (by simp+arith);rw[fk]
   .mspec if_neg (by show λg=>kJ [↑b,a c] [.aL A aC,.aL (.O 0) A,.j (.c8 aC<| .O 1)<| .O 0] D f (el.mpr (sK h0):) (c4 g:));mspec if_pos #[by show dL [.j (.O 1) y] 0 (.e<| .O 0) y D<|sK h0,by show gr (bj [a c,↑b] [.j A<| .e aC] 0 (.c8 A<| .O 1) aC D (c4 h:))<|bj [↑b,a c] [.aL A aC] 0 A (.c8 aC<| .O 1) D f];rw[nv]
  .mspec if_neg (λd=>h d.2:¬(0<b+1/\a c=((b+1:Nat):Int)));mspec if_neg (by show λg=>(sX h).elim (λd=>kJ [↑b,a c] [.aL A aC,.aL aC<| .e A] D f d) λd=>kJ [↑b,a c] [.j (.O 0) A,.j (.c8 aC<| .O 1)<| .O 0,.aL (.e A) aC] D (f2 b:) (c4 g:) d);mspec if_neg (by show λg=>(sX h).elim (λd=>kJ [↑b,a c] [.aL A aC,.aL aC<| .e A] D f d) λd=>kJ [a c,↑b] [.j (.c8 A<| .O 1) aC,.aL (.e aC) A] D (c4 g.2:) d);rfl
theorem GU (c:Nat->Nat):∀(d:bQ)(e:Int->Int),d.Nodup->(∀a∈d,0<c a->(c a:Int)<=e (3+(a:Int)))->
 oG e (d.flatMap λa=>kA (c a)<|3+(a:Int))=(d.filter λa=>decide (0<c a/\e (3+(a:Int))=c a)).map λ(a:Nat)=>3+(a:Int)
 |[],e,_,_=>rfl|a::d,e,h,i=>by
  replace h:=(ka).mp h;mspec td;mspec GT _ _ _ _<|i a ap;have k:∀b∈d,(3+(b:Int))≠3+(a:Int):=λb f l=>h.1 (by
   show(by show c1 (b9 [.j (.S (.O 3) y)<| .S (.O 3) C] 0 y C D<|aA<|jn l) (b9 [.j (.S (.O 3) y)<| .S (.O 3) C] 0 y C D<|aA (jn l).symm):b=a)▸f)
  mspec(GU c d _ h.2 λb f=>by show(if_neg<|k b f)▸i b (g f));mspec sM;have h:(d.filter λb=>decide (0<c b/\(if(3+(b:Int))=3+(a:Int)then e (3+(b:Int)) - (c a:Int)else e (3+(b:Int)))=c b))=d.filter λb=>decide (0<c b/\e (3+(b:Int))=c b):=
   pn λb f=>by show aJ (if_neg<|k b f) V
  mspec h;by_cases b:0<c a/\e (3+(a:Int))=c a
  .mspec if_pos b;mspec if_pos<|decide_eq_true b;rfl
  .mspec if_neg b;mspec if_neg (by simpa using b);rfl
noncomputable def oH (bU:List bG)(a:s)(ae:Int):Nat:=((fJ bU ae).filter λaq=>decide (aq∉a)).length
noncomputable def gX (bU:List bG)(a a2:s)(ae:Int):Int:=if ae∈a then -2 else if ae∈a2 then -1 else oH bU a ae
def ts:k∈fJ m n↔k∈dc m n:=by
 unfold fJ;rw[lY];show#[λa=>a.elim id λa=>sk a,.inl]
def GV:oH k m n=0↔∀a∈dc k n,a∈m:=by
 unfold oH;rw[n6,zX];constructor
 .intro b a c;simpa using(b a<|ts.mpr c)
 .intro b a c;simpa using(b a<|ts.mp c)
def wF {c:s}{ae b:Int}(h:b∉c):oH k c ae=oH k (c++[b]) ae+(fJ k ae).count b:=by
 unfold oH
 induction fJ k ae with
 |nil=>rfl|cons d i a=>
  mspec sM;mspec sM;mspec Gz;by_cases g:d=b
  .subst g;mspec if_pos (by simpa using h);mspec if_neg (by simp);mspec eC;mspec if_pos<|beq_self_eq_true d;show c1 (bd [.j y<| .S C t] 0 (.e y) (.S C<| .e t) D<|aA a)<|bd [.j (.S y C) t] 0 (.S y<| .e C) (.e t) D<|aA (a).symm
  .mspec if_neg (by simpa using g:¬((d==b)=z));by_cases f:d∈c
   .mspec if_neg (by simpa using f);mspec if_neg (by simp[f]);show c1 (bd [.j y<| .S C t] 0 y (.S C<| .S t<| .O 0) D<|aA a)<|bd [.j (.S y C) t] 0 (.S y<| .S C<| .O 0) t D<|aA (a).symm
   .mspec if_pos (by simpa using f);mspec if_pos (by simp[f,g]);mspec eC;mspec eC;show c1 (bd [.j y<| .S C t] 0 (.e y) (.S (.e C)<| .S t<| .O 0) D<|aA a)<|bd [.j (.S y C) t] 0 (.S (.e y)<| .S C<| .O 0) (.e t) D<|aA (a).symm
def RD (b l:Int):(dm k l).count b=if ∃a:Nat,a<k.length/\b=3+(a:Int)then(fJ k b).count l else 0:=by
 induction k using i4 with
 |nil=>simp[dm]|snoc k r m=>
  rw[Ax];mspec Rk;mspec m;mspec List.count_replicate;by_cases d:b=3+(k.length:Int)
  .mspec if_neg (by intro i;show aY i λa g l=>?_;show kJ [↑k.length,b,↑a] [.j (.S (.O 3) A) aC,.aL d7 A,.j aC<| .S (.O 3) d7] D (c4 (d).symm:) (el.mpr g:) (c4 l:));mspec if_pos (by simpa using d.symm);mspec if_pos (av k.length (by show aJ dF ?_;simp) d);rw[tl];mspec if_pos d;rw[rz]
  .mspec if_neg (c:=(3+(k.length:Int)==b)=z) (by simpa using λl:3+(k.length:Int)=b=>d l.symm);rw[nN,tl];mspec if_neg d;by_cases g:∃a:Nat,a<k.length/\b=3+(a:Int)
   .show bC λm l=>?_;show aY g λa h f=>?_;show l ?_;clear l m;mspec if_pos<|av a h f;show aJ (if_pos<|av a (by mspec dF;show bd [.aL y C] 0 (.e y) (.S C t) D h) f) V
   .mspec if_neg g;rw[if_neg];intro i;show aY i λa h f=>?_;rw[dF,gw]at h;show g (av a (by show(sX d).elim (λi=>dH.mp<|bj [↑a,↑k.length,b] [.j (.S (.O 3) A) d7,.aL d7<| .S (.O 3) aC] 0 (.e A) aC D (c4 (f).symm:) i) λi=>dH.mp<|bj [↑a,↑k.length,b] [#[2,.e A,.e aC],.j d7<| .S (.O 3) A,.aL (.S (.O 3) aC) d7] 0 (.e A) aC D (el.mpr h:) (c4 f:) i) f)
def wG (c:dq k)(a b:Int):(dm k b).count a=(fJ k a).count b:=by
 rw[RD];split
 .rfl
 .next b=>
  symm;show(wE).mpr ?_;intro c;show ao (oD<|ts.mp c) λd e=>?_;show p e λr c=>?_;show cd c λe e f=>?_;show b (av ((a - 3).toNat) ((gG.mp f).1)<|by show gr (bj [a,↑(a - 3).toNat] [.j (.c8 A<| .O 3) aC] 0 A (.S (.O 3) aC) D (kl (a - 3):))<|bj [↑(a - 3).toNat,a] [.j A<| .c8 aC<| .O 3] 0 (.S (.O 3) A) aC D (c4 (gx<|bj [a] [.j (.O 3) A] 0 (.O 0) (.c8 A<| .O 3) D d):))
noncomputable def kE (bU:List bG)(a:s)(bx:Int):s:=((jc bU.length).filter λ(am:Nat)=>decide (bx∈dc bU (3+(am:Int))/\∀aq∈dc bU (3+(am:Int)),aq∈a++[bx])).map λ(am:Nat)=>3+(am:Int)
def RE (d:dq k){b:Int}(u:b∈cG k)(h:b∉m)(i:∀a∈dm k b,a∉m/\a≠b/\a∉a2)(v:s):
 iK (mk (cG k) (gX k m<|b::a2)<|dm k,v.map a4) (a4 b)=(mk (cG k) (gX k (m++[b]) a2)<|dm k,(v++kE k m b).map a4):=by
 have l:=hp d;unfold iK;dsimp only;rw[tn l u];have E:eL (mk (cG k) (gX k m<|b::a2)<|dm k) [a4 b] (-2)=mk (cG k) (λa=>if a=b then -2 else gX k m (b::a2) a) (dm k):=by
  unfold eL;show ch (wC l (l b u) (mJ:=gX k m<|b::a2) (rs:=dm k) (λa2=>(a2.1, -2,a2.2.2)) (λa=>if a=b then -2 else gX k m (b::a2) a) (dm k) (by simp) λa n=>#[if_neg n,V]) ?_;show hD λe w=>?_;simp
 mspec E;mspec GS l _ _ _ _ λa n=>ru d n;congr 1
 .show oE (λa n=>?_) λw w=>rfl;rw[wG d];unfold gX;by_cases e:a=b
  .subst e;mspec if_pos V;mspec if_pos (by simp:a∈m++[a]);have:(fJ k a).count a=0:=by
    rw[<-wG d,wE];show λf=>(i a f).2.1 V
   mspec this;rfl
  .mspec if_neg e;have F:(a∈m++[b])↔a∈m:=by simp[e]
   have G:(a∈b::a2)↔a∈a2:=by simp[e]
   simp only[F,G];by_cases e:a∈m
   .mspec if_pos e;mspec if_pos e;have:(fJ k a).count b=0:=by
     rw[<-wG d,wE];show λf=>(i a f).1 e
    mspec this;rfl
   .mspec if_neg e;mspec if_neg e;by_cases e:a∈a2
    .mspec if_pos e;mspec if_pos e;have:(fJ k a).count b=0:=by
      rw[<-wG d,wE];show λf=>(i a f).2.2 e
     mspec this;rfl
    .mspec if_neg e;mspec if_neg e;mspec wF (ae:=a) h;simp+arith
 .congr 1;congr 1;unfold dm;have q:∀c:Nat,c<k.length->0<(fJ k<|3+(c:Int)).count b->(if(3+(c:Int))=b then(-2:Int)else gX k m (b::a2) (3+(c:Int)))=oH k m (3+(c:Int)):=λc g r=>by
   show cd (i _<|nK.mpr #[(av c g V),ts.mp<|Ay.mp r]) λa x H=>?_;mspec if_neg x;unfold gX;mspec if_neg a;show aJ (if_neg<|by simp[x,H]) V
  rw[GU (λ(c:Nat)=>(fJ k<|3+(c:Int)).count b) (jc k.length) _ OU λc g=>?_]
  .unfold kE;congr 1;show pn λc g=>?_;have A:=iW.mp g;show(decide_eq_decide).mpr ?_;have B:0<(fJ k<|3+(c:Int)).count b↔b∈dc k (3+(c:Int)):=by rw[Ay,ts]
   constructor
   .intro t;show ao t λo p=>?_;show#[B.mp o,GV.mp ?_];rw[q c A o,wF (ae:=3+(c:Int)) h]at p;show c1 (b9 [.j (.S y C) C] 0 y (.O 0) D<|aA<|jn p)<|ey _
   .intro t;show ao t λo p=>?_;have a:=B.mpr o;show#[a,?_];mspec q c A a;mspec wF (ae:=3+(c:Int)) h;mspec GV.mpr p;simp+arith
  .intro r;mspec q c (iW.mp g) r;mspec wF (ae:=3+(c:Int)) h;simp+arith
noncomputable def j3 (bU:List bG):s->s->s
 |_,[]=>[]|a,bx::a2=>kE bU a bx++j3 bU (a++[bx]) a2
def AF {a:List bG}{b d:s}{c:Int}:j3 a b (c::d)=kE a b c++j3 a (b++[c]) d:=rfl
theorem GW (h:dq k):∀(a b:s)(e:s),(∀c∈a,c∈cG k)->(b++a).Nodup->(∀c∈a,∀f∈dm k c,f∉b++a)->
 fu (mk (cG k) (gX k b a)<|dm k,e.map a4) (a.map a4)=(mk (cG k) (gX k (b++a) [])<|dm k,(e++j3 k b a).map a4)/\nn (mk (cG k) (gX k b a)<|dm k,e.map a4) (a.map a4)
 |[],b,e,_,_,_=>by
  have m:j3 k b []=[]:=rfl;rw[fk,m,fk];show#[V,trivial]
 |c::a,b,e,n,o,p=>by
  have i:=n c ap;have q:c∉b:=λm=>(gz.mp o).2.2 c m c ap V;have r:=RE h (a2:=a) i q (λf j=>by
   have:=p c ap f j;rw[lY,hQ]at this;show cH (λd=>this<| .inl d) (λd=>this<| .inr<| .inl d)<|λd=>this<| .inr<| .inr d) e
  have l:b++c::a=(b++[c])++a:=by simp
  show ao (GW h a (b++[c]) (e++kE k b c) (λd m=>n d<|g m) (by show ch l ?_;show o)<|λd m f j=>by show l▸p d (g m) f j) λa b=>?_;mspec b8;constructor
  .show(?_:fu (iK _ _) _=_);mspec r;mspec a;rw[AF];mspec l;rw[<-hX e]
  .show cH ?_ ?_ ?_
   .rw[rt];show dI i
   .rw[AB (hp h) i];unfold gX;mspec if_neg q;show aJ (if_pos ap) V
   .mspec r;show b
structure oI (bU:List bG)(a b:s):Prop where
 bA:(a++b).Nodup
 sub:∀ae∈a++b,ae∈cG bU
 wH:∀ae∈cG bU,ae∈b↔ae∉a/\∀aq∈dc bU ae,aq∈a
 jf:∀ae∈a,∀aq∈dc bU ae,aq∈a
def oI.rn (d:oI n k m):∀a∈m,∀c∈dm n a,c∉k++m:=λa f c g b=>by
 have e:a∉k:=λh=>(gz.mp d.bA).2.2 a h a f V;have f:=(nK.mp g).2;show cL b (λb=>?_) λb=>?_
 .show e<|d.jf c b a f
 .show e<|((d.wH c<|d.sub c<|bB b).mp b).2 a f
def wI:k∈kE m o n↔(∃a:Nat,a<m.length/\k=3+(a:Int))/\n∈dc m k/\∀d∈dc m k,d∈o++[n]:=by
 unfold kE;rw[iv];constructor
 .rintro e;show bC λg c=>?_;obtain⟨a,b,rfl⟩:=e;show c ?_;clear c g;show ao (e9.mp b) λc d=>?_;show#[(av a (iW.mp c) V),f d]
 .rintro⟨⟨a,b,rfl⟩,h⟩;show av a (e9.mpr #[iW.mpr b,decide_eq_true h]) V
theorem GX:∀{g d:s},m∈j3 n d g↔∃a c e,g=a++c::e/\m∈kE n (d++a) c
 |[],d=>by
  constructor
  .intro b;cases b
  .rintro h;show bC λi f=>?_;show eY h λa c e b m=>?_;show f ?_;clear f i;cases a<;>cases b
 |c::g,d=>by
  rw[AF,lY,GX];constructor
  .rintro(b|⟨a,j,e,rfl,b⟩)
   .show j6 ([]) c g V (by rw[fk];show b)
   .show j6 (c::a) j e V (by mspec(show d++c::a=(d++[c])++a by simp);show b)
  .rintro h;show bC λi f=>?_;show eY h λa j e k b=>?_;show f ?_;clear f i;cases a with
   |nil=>
    cases k;rw[fk]at b;show .inl b
   |cons f a=>
    injection k with l o
    subst l;show .inr (j6 a j e o (by mspec(show(d++[c])++a=d++c::a by simp);show b))
def RF {j:Type}{ak:j->Prop}[DecidablePred ak](c:List j)(k:∃b∈c,ak b):∃f d e,c=f++d::e/\ak d/\∀b∈e,¬ak b:=by
 induction c using i4 with
 |nil=>show aY k λb a j=>?_;cases a
 |snoc c g l=>
  by_cases h:ak g
  .show kM c g ([]) V h (λb a=>nomatch a)
  .show aY k λb a i=>?_;obtain⟨f,d,e,rfl,m,n⟩:=l #[b,by
    show cL a (λa=>?_) λa=>?_
    .show a
    .rw[bX a]at i;show absurd i h,i]
   show kM f d (e++[g]) (by simp) m<|λb a=>?_;show cL a (λa=>?_) λa=>?_
   .show n b a
   .show(bX a)▸h
def GY {a:s}(b:m∉k):(k++m::a).idxOf m=k.length:=by
 induction k with
 |nil=>simp|cons c k d=>
  mspec qN;mspec sN;mspec beq_eq_false_iff_ne.mpr (show c≠m from λa=>b<|a▸ap);rw[cond_false];mspec d λa=>b<|g a;show aJ eC V
theorem GZ:∀{a:s},k∈a->(a++al).idxOf k<a.length
 |c::a,d=>by
  mspec qN;mspec sN;by_cases b:c=k
  .subst b;simp
  .mspec beq_eq_false_iff_ne.mpr b;rw[cond_false];mspec eC;have:=GZ (al:=al)<|(d2 d).resolve_left λa=>b a.symm;show qB ‹_›
def RG (h0:0<=k)(b:k∈m)(c:∀a∈m,a<=k):oA m=k:=by
 unfold oA;show cd (zV m 0) λd e a=>?_;have:=d k b;show ay a (λa=>?_) λa=>?_
 .show gr (bj [zW max 0 m,k] [.j (.O 0) aC,.j A<| .O 0] 0 A aC D h0 (c4 a:))<|bj [k,zW max 0 m] [.j A aC] 0 A aC D this
 .have:=c _ a;lia
def RH (g:dq k){c e:s}{a d:Int}(f:a∉c)(h:d∈kE k c a):gR (bn k) (c++a::e) d=1000*(c.length:Int)+d:=by
 show bC λd c=>?_;show cd (wI.mp h) λn i j=>?_;show c ?_;clear c d;unfold gR;rw[(iO k g).2];congr 1;congr 1;show RG (by show f2 _) (iv.mpr<|av a i<|by show aJ (GY f) V) λc l=>?_;obtain⟨m,b,rfl⟩:=ck l;show cL (j m b) (λb=>?_) λb=>?_
 .have:=GZ (al:=a::e) b;show dH.mpr<|b9 [.aL y C] 0 y C D this
 .mspec bX b;mspec GY f;simp+arith
def RI (a:List bG)(b:s)(c:Int):(kE a b c).Pairwise (·<·):=by
 unfold kE;show(Dn).mpr ?_;show Rr lS ?_;show List.pairwise_lt_range.imp λa=>by show el.mpr<|b9 [.aL y C] 0 (.e<| .S (.O 3) y) (.S (.O 3) C) D a
theorem AG (m:dq k)(d:s):∀(g b:s),b++g=d->d.Nodup->(j3 k b g).Pairwise (λh n=>gR (bn k) d h<gR (bn k) d n)/\∀a∈j3 k b g,1000*(b.length:Int)<=gR (bn k) d a
 |[],b,_,_=>#[.nil,λa c=>nomatch c]|f::g,b,o,q=>by
  have u:f∉b:=λv=>by
   rw[<-o]at q;show(gz.mp q).2.2 f v f ap V
  show ao (AG m d g (b++[f]) (by show ch o ?_;simp) q) λv r=>?_;have i:∀a∈kE k b f,gR (bn k) d a=1000*(b.length:Int)+a:=λa c=>by show o▸RH m u c
  have t:∀a∈kE k b f,3<=a/\a<8:=λa c=>by
   show ao (wI.mp c) λg o=>?_;show p g λq o=>?_;show kK o λg=>?_;have:=m.len;show#[dH.mpr<|dL [] 0 (.O 3) (.S (.O 3) y) D,el.mpr<|b9 [.aL y C,.j C<| .O 5] 0 (.e<| .S (.O 3) y) (.O 8) D g this]
  rw[AF];show#[ih.mpr<|cH ?_ v<|λh l n g=>?_,λa c=>?_]
  .show(RI k b f).imp_of_mem λl g m=>by mspec i _ l;mspec i _ g;lia
  .mspec i h l;have:=r n g;rw[dF,gw]at this;have:=t h l;lia
  .show cL c (λc=>?_) λc=>?_
   .mspec i a c;have:=t a c;show bj [↑b.length,a] [.j (.O 3) aC] 0 (.cT 1000 A) (.S (.cT 1000 A) aC) D this.1
   .have:=r a c;rw[dF,gw]at this;show bj [↑b.length,gR (bn k) d a] [.j (.cT 1000<| .e A) aC] 0 (.cT 1000 A) aC D this
def G0 (j:dq k){c:s}{b:Int}:b∈gt (bn k) c↔b∈cG k/\b∉c/\∀a∈dc k b,a∈c:=by
 unfold gt;rw[e9];mspec(iO k j).1;rw[(iO k j).2,i7];mspec decide_eq_true_eq;rw[zX];have e:∀a:Int,(c.any (·==a))=z↔a∈c:=λa=>by
  rw[ko];show#[λj=>aY j λn k l=>by show(beq_iff_eq.mp l)▸k,λj=>av a j<|beq_self_eq_true a]
 constructor
 .intro f;show cd f λg d h=>?_;show cH g (λm=>?_)<|λa i=>?_
  .replace d:=((e b).mpr m)▸d;cases d
  .have:=h a i;show(e a).mp (by simpa using this)
 .intro f;show cd f λg d h=>?_;show cH g ?_<|λa i=>?_
  .mspec show(c.any (·==b))=aj from Bool.eq_false_iff.mpr λf=>d<|(e b).mp f;rfl
  .mspec(e a).mpr<|h a i;decide
def G1 (l:dq k){c b:s}(o:oI k c b):j3 k c b=mE (gR (bn k)<|c++b) (gt (bn k)<|c++b):=by
 show ao (AG l (c++b) b c V o.bA) λq w=>?_;have C:(j3 k c b).Nodup:=q.imp λf g=>by rw[g]at f;show absurd f<|Ai _
 have E:(gt (bn k)<|c++b).Nodup:=by
  unfold gt;mspec(iO k l).1;show(tk k).sublist lS
 have x:(j3 k c b).Perm (gt (bn k)<|c++b):=by
  show(List.perm_ext_iff_of_nodup C E).mpr λe=>?_;rw[G0 l,GX];constructor
  .rintro⟨y,t,B,rfl,f⟩;show bC λu i=>?_;obtain⟨⟨F,m,rfl⟩,n,v⟩:=wI.mp f;show i ?_;clear i u;show cH (GI l m) (o.rn t (by simp) _<|nK.mpr #[(av F m V),n])<|λd h=>?_;have:=v d h;simp only[lY,kF,hQ,mL,or_false]at this ⊢;rcases this with(a|a)|a
   .show .inl a
   .show .inr<| .inl a
   .show .inr<| .inr<| .inl a
  .intro E;show cd E λm l C=>?_;have E:∃d∈b,d∈dc k e:=by
    show Classical.byContradiction λF=>(show ¬∀d∈dc k e,d∈c from λa=>l<|bB<|(o.wH e m).mpr #[λG=>l<|bJ G,a]) λd h=>?_;show cL (C d h) (λa=>?_) λa=>?_
    .show a
    .show absurd (av d a h) F
   show l4 (RF (ak:=λd=>d∈dc k e) b E) λy t B g n v=>?_;show j6 y t B g<|wI.mpr<|cH ?_ n<|λd h=>?_
   .show bC λu i=>?_;show ao (oD n) λl m=>?_;show p m λr n=>?_;show cd n λw w m=>?_;show i ?_;clear i u;show av ((e - 3).toNat) ((gG.mp m).1)<|gr (bj [e,↑(e - 3).toNat] [.j (.c8 A<| .O 3) aC] 0 A (.S (.O 3) aC) D (kl (e - 3):))<|bj [↑(e - 3).toNat,e] [.j A<| .c8 aC<| .O 3] 0 (.S (.O 3) A) aC D (c4 (gx<|bj [e] [.j (.O 3) A] 0 (.O 0) (.c8 A<| .O 3) D l):)
   .have:=C d h;rw[g]at this;simp only[lY,kF,hQ,mL,or_false]at this ⊢;show ay this (λa=>?_) λe=>ay e (λa=>?_) λe=>ay e (λa=>?_) λa=>?_
    .show .inl<| .inl a
    .show .inl<| .inr a
    .show .inr a
    .show absurd h<|v d a
 have H:(gt (bn k)<|c++b).Pairwise (λa d=>gR (bn k) (c++b) a≠gR (bn k) (c++b) d):=
  x.pairwise (q.imp λf g=>by rw[g]at f;show absurd f<|Ai _) (λf g=>f g.symm)
 show zU (x.trans (rh _ _).symm) q<|zT H
def RJ (a:m∈k):m∈ef k:=by
 induction k using i4 with
 |nil=>cases a
 |snoc k c b=>
  rw[pJ];unfold nJ;rcases jz a with a|a
  .split
   .show b a
   .show bJ<|b a
  .mspec bX a;split
   .next a=>mspec a.1;show uS a.2
   .simp
theorem G2:∀{b:s}{e:List s},(∀c∈b,∀f,k c=J f->m c=J f)->b.mapM k=J e->b.mapM m=J e
 |[],e,_,a=>by simpa using a|c::b,e,h,a=>by
  rw[wa]at a ⊢;cases ha:k c with
  |none=>replace a:=ha▸a;cases a
  |some i=>
   cases d:b.mapM k with
   |none=>replace a:=ha▸a;replace a:=d▸a;cases a
   |some b=>
    replace a:=ha▸a;replace a:=d▸a;mspec h c ap i ha;mspec G2 (λb d=>h b<|g d) d;show a
theorem AH (c:List bG):∀(n:Nat)(d:Int)(b:s),fQ c n d=J b->fQ c (n+1) d=J b
 |0,d,b,a=>by cases a
 |n+1,d,b,a=>by
  rw[ri]at a ⊢;split
  .next e=>
   replace a:=(if_pos e)▸a;cases hm:(ll c d).mapM (fQ c n)with
   |none=>replace a:=hm▸a;cases a
   |some d=>
    replace a:=hm▸a;mspec G2 (λd g b f=>AH c n d b f) hm;show a
  .next e=>replace a:=(if_neg e)▸a;show a
def RK (a:List bG)(b:n<=o)(c:fQ a n k=J m):fQ a o k=J m:=by
 induction b with
 |refl=>show c|step _ d=>show AH a _ k m d
def G3 (g:dq m)(h:dc m k≠[]):∃(b:Nat) (c:Int) (body:bG),k=3+(b:Int)/\b<m.length/\iq m k=(3+(b:Int),c)::body/\ir (3+(b:Int),c)/\body.length<=3/\(∀i∈body,ir i)/\dc m k=ef (dU body):=by
 show p (vq _ h) λi b=>?_;show bC λe a=>?_;show ao (oD b) λf h=>?_;show p h λr b=>?_;show cd b λh i d=>?_;show a ?_;clear a e;show bC λe a=>?_;obtain⟨c,body,rfl,l,b,n,o⟩:=g.row _ r d;show a ?_;clear a e;show Hv ((k - 3).toNat) c body (by show gr (bj [k,↑(k - 3).toNat] [.j (.c8 A<| .O 3) aC] 0 A (.S (.O 3) aC) D (kl (k - 3):))<|bj [↑(k - 3).toNat,k] [.j A<| .c8 aC<| .O 3] 0 (.S (.O 3) A) aC D (c4 (gx<|bj [k] [.j (.O 3) A] 0 (.O 0) (.c8 A<| .O 3) D f):)) ((gG.mp d).1) ?_ l n o ?_
 .unfold iq;mspec d;rfl
 .unfold dc;mspec if_pos f;mspec d;rfl
def RL (c:dq m)(a:dc m k=[]):nI m k=aj:=by
 cases hr:nI m k with
 |false=>rfl|true=>
  unfold nI at hr;rw[i7,decide_eq_true_eq,decide_eq_true_eq]at hr;have b:(k - 3).toNat<m.length:=dH.mp<|bj [↑(k - 3).toNat,↑m.length,k] [.aL d7<| .S (.O 3) aC,.j A<| .c8 d7<| .O 3] 0 (.e A) aC D hr.2 (c4 (gx<|bj [k] [.aL (.O 2) A] 0 (.O 0) (.c8 A<| .O 3) D hr.1):);show l5 (c.row (k - 3).toNat m[(k - 3).toNat]<|gm b) λg body d h f i=>?_;unfold dc at a;rw[if_pos (by show bj [k] [.aL (.O 2) A] 0 (.O 3) A D hr.1),gm b,d]at a;show absurd a<|z4 λb=>f<|s6.mp b
structure rx (bU:List bG)(bu:s)(eF:List (Int×v)):Prop where
 jr:eF.map (·.1)=bu
 bA:bu.Nodup
 gI:∀ae∈bu,dc bU ae≠[]
 G4:∀ae a2,eF.lookup ae=J a2->∃a:List (Int×Int),fQ bU (bu.length+1) ae=J (a.map (·.1))/\(∀ak∈a,ir ak)/\a.length<=3^bu.length/\a2=aB (cc<|a.flatMap fI)
def G5 {b:List (Int×Int)}(c:∀a∈b,ir a):(cc<|b.flatMap fI).length<=b.length*10:=by
 unfold cc;mspec FI;show tc (λa=>(fI a).flatMap ed.lg) b 10 λa d=>FH _ a (mH<|c a d) V
theorem G6 (n k:Nat):∀d:bG,(∀i∈d,∃c:List (Int×Int),fQ bU n i.1=J (c.map (·.1))/\(∀a∈c,ir a)/\c.length<=k/\eN eF i=aB (cc<|c.flatMap fI))->
 ∃e:List (Int×Int),((d.map (·.1)).mapM<|fQ bU n).map FC=J (e.map (·.1))/\(∀a∈e,ir a)/\e.length<=d.length*k/\dD "" (d.map<|eN eF)=aB (cc<|e.flatMap fI)
 |[],_=>#[[],V,λa f=>(nomatch f),ey _,V]|i::d,l=>by
  show bC λh b=>?_;show gi (l i ap) λc o p q r=>?_;show b ?_;clear b h;show bC λh b=>?_;show gi (G6 n k d λa f=>l a<|g f) λe m d i s=>?_;show b ?_;clear b h;show l7 (c++e) ?_ (λa f=>(jz f).elim (p a)<|d a) (by mspec dF;mspec eC;rw[sB];show c7 [.j y aV,.j C t] 0 (.S y C) (.S t aV) D q i) ?_
  .rw[gl]at m;show bC λh b=>?_;show aY m λa d e=>?_;show b ?_;clear b h;mspec b8;mspec wa;mspec o;mspec d;show(?_:J ((c.map (·.1)::a).flatten)=_);mspec FD;mspec e;show aJ eX V
  .mspec b8;rw[mG];mspec r;mspec s;rw[pA];congr 1;unfold cc;mspec vW;show aJ vW V
def RM {eF:List (Int×v)}(b:ae∈eF.map (·.1)):∃c,eF.lookup ae=J c:=by
 induction eF with
 |nil=>cases b
 |cons d eF e=>
  obtain⟨f,g⟩:=d;mspec fz;by_cases a:ae=f
  .subst a;show#[g,by simp]
  .mspec beq_eq_false_iff_ne.mpr a;show e<|(d2 b).resolve_left a
def RN {a:List (Int×v)}(b:k∉a.map (·.1)):a.lookup k=ah:=by
 induction a with
 |nil=>rfl|cons c a d=>
  obtain⟨e,a⟩:=c;mspec fz;mspec beq_eq_false_iff_ne.mpr (λa=>b (a▸ap):k≠e);show d λa=>b<|g a
def RO (d:dq k){a:s}(e:a.Nodup)(f:∀b∈a,dc k b≠[]):a.length<=5:=by
 have:=lR ((jc k.length).map λ(c:Nat)=>3+(c:Int)) a e λb g=>by
  show kL (G3 d<|f b g) λc e body a=>?_;show eP a λb e=>?_;show iv.mpr<|av c (iW.mpr b) V
 rw[a7,jQ]at this;have:=d.len;show a6 ‹_› ‹_›
def RP {b:List bG}(I:dq b)(l:rx b m n)(K:k∉m)(N:dc b k≠[])(Sk:∀U∈dc b k,U∈m\/dc b U=[]):
 Ad b n k/\rx b (m++[k]) (n++[(k,kz b n k)]):=by
 show bC λh c=>?_;show kL (G3 I N) λr Sl body U=>?_;show tJ U λE W u Sm X L Sn=>?_;show c ?_;clear c h;have Y:(m++[k]).Nodup:=gz.mpr #[l.bA,by simp,λSu U Sv Sh=>by
  mspec bX Sh;intro Sh;show K<|Sh▸U]
 have Z:∀i∈m++[k],dc b i≠[]:=λi g=>by
  show cL g (λg=>?_) λg=>?_
  .show l.gI i g
  .show(bX g)▸N
 have M:m.length<=4:=by
  have:=RO I Y Z;rw[dF,gw]at this;show CN ‹_›
 have Sf:3^m.length<=81:=by
  simpa using(PQ (by decide) M:3^m.length<=3^4)
 have Sg:∀a∈body,∃o:List (Int×Int),fQ b (m.length+1) a.1=J (o.map (·.1))/\(∀U∈o,ir U)/\o.length<=3^m.length/\eN n a=aB (cc<|o.flatMap fI):=λa d=>by
  by_cases N:a.1∈m
  .show p (RM (eF:=n) (ae:=a.1)<|l.jr▸N) λP Sh=>?_;show bC λh c=>?_;show gi (l.G4 _ _ Sh) λo Q v x B=>?_;show c ?_;clear c h;show l7 o Q v x ?_;unfold eN;show Sh▸B
  .show l7 ([a]) ?_ (λU F=>by show(bX F)▸L a d) (Nat.pow_pos (f D):1<=3^m.length) ?_
   .rw[ri];mspec RL I<|(Sk _<|Sn▸RJ (dI d)).resolve_left N;rfl
   .have G:eN n a=eN [] a:=by
     unfold eN;mspec RN (by show aJ l.jr ?_;show N);rfl
    mspec G;mspec(mH<|L a d).z5;mspec td;mspec Rg;rw[fk]
 show gi (G6 (bU:=b) (eF:=n) (m.length+1) (3^m.length) body Sg) λq So s I Sp=>?_;have R:q.length<=3^(m.length+1):=by
  rw[z0];show bd [.j y t,.j t<| .cT 3 C] 0 y (.w C 3) D I (wS _ X:body.length*3^m.length<=3*3^m.length)
 have T:q.length<=243:=by rw[z0]at R;show b9 [#[3,C,.O 81],.j y<| .w C 3] 0 y (.O 243) D Sf R
 have I:ll b k=body.map (·.1):=by
  unfold ll;mspec show((b[(k - 3).toNat]?).getD [])=(3+(r:Int),Sl)::body from u;rfl
 have N:nI b k=z:=by
  unfold nI;rw[i7];mspec decide_eq_true_eq;mspec decide_eq_true_eq;show#[bj [k,↑r] [.j (.S (.O 3) aC) A,.j (.O 0) aC] 0 (.e<| .O 2) A D (c4 (E).symm:) (f2 r:),bj [k,↑b.length,↑r] [.j A<| .S (.O 3) d7,.aL d7 aC] 0 (.e A) (.S (.O 3) aC) D (c4 E:) (el.mpr W:)]
 have Si:fQ b (m.length+2) k=J (q.map (·.1)):=by
  rw[ri];mspec if_pos N;mspec I;show So
 have Sj:kz b n k=aB (cc<|q.flatMap fI):=by
  unfold kz;show u▸Sp
 have H:∀i∈q.map (·.1),0<=i/\i<8:=λi g=>by
  show bC λh c=>?_;obtain⟨a,d,rfl⟩:=ck g;show c ?_;clear c h;show(s a d).1
 have Sq:n.length=m.length:=by have:=congrArg fL l.jr;rw[a7]at this;show this
 constructor
 .show#[by show#[bj [k,↑r] [.j (.S (.O 3) aC) A,.j (.O 0) aC] 0 (.O 3) A D (c4 (E).symm:) (f2 r:),bj [k,↑b.length,↑r] [.j A<| .S (.O 3) d7,.aL d7 aC] 0 (.e A) (.S (.O 3) aC) D (c4 E:) (el.mpr W:)],by mspec u;mspec eC;show gu,λa d=>?_,by mspec l.jr;show K,by show dG (a6 (aA Sq) M) D,?_,q.map (·.1),q.flatMap fI,RK b (p0 M V) Si,by rw[a7];show b1,H,Sj,λit Sr=>?_,?_,?_,?_,P7 _,?_,FK _,FP H,?_]
  .have Ss:ir a:=by
    rw[u]at d;show gg d ?_ λd=>?_
    .show Sm
    .show L a d
   show bC λh c=>?_;show cd Ss λm r E=>?_;show c ?_;clear c h;show cH m r (by mspec wg m.1 m.2;show dH.mp<|bj [↑a.snd.toNat,a.snd] [.aL aC<| .O 3,.j A aC] 0 (.e A) (.O 3) D E (c4 (gx<|bj [a.snd] [.j (.O 0) A] 0 (.O 0) A D r):))
  .mspec u;mspec d9;have:=Au ((λk=>k.length)∘eN n) body 810 λa d=>by
    show bC λh c=>?_;show gi (Sg a d) λo m v x B=>?_;show c ?_;clear c h;show(?_:(eN n a).length<=810);mspec B;show(?_:(cc<|o.flatMap fI).length<=810);show bd [#[10,C,.O 81],#[10,t,C],.j y<| .w t 10] 0 y (.O 810) D Sf x<|G5 v
   show(?_:(((body.map<|(λk=>k.length)∘eN n)).sum)<=100000);show b9 [#[810,C,.O 3],.j y<| .w C 810] 0 y (.O 100000) D X this
  .show bC λh c=>?_;show aY (Gn.mp Sr) λa d m=>?_;show c ?_;clear c h;show(mH<|s a d).ok it m
  .have:=G5 s;show b9 [#[10,C,.O 243],.j y<| .w C 10] 0 y (.O 100000) D T this
  .show b9 [#[3,C,.O 243],.j y<| .w C 3] 0 y (.O 1000) D T<|tc fI q 3 λa d=>(mH<|s a d).fP
  .mspec FG q s;rw[rl]
  .have:=Qb H;rw[a7]at this;show b9 [#[8,C,.O 243],.j y<| .cT 8 C] 0 y (.O 100000) D T this
  .rw[<-FK];show P9<|FP H
 .show#[by mspec eX;mspec l.jr;rfl,Y,Z,λi P g=>?_];mspec dF;mspec gw;by_cases G:i=k
  .subst G;rw[FZ _ _ _ (by mspec l.jr;show K)]at g;obtain rfl:=fS g;show l7 q Si s R Sj
  .have St:n.lookup i=J P:=by
    rw[Q6]at g;cases F:n.lookup i with
    |some a=>rw[F]at g;show g|none=>
     rw[F]at g;simp[fz,beq_eq_false_iff_ne.mpr G]at g
   show bC λh c=>?_;show gi (l.G4 i P St) λo Q v x B=>?_;show c ?_;clear c h;show l7 o (AH b _ _ _ Q) v (by rw[z0];show b9 [.j y C] 0 y (.w C 3) D x) B
def RQ (o:dq k)(p:rx k n m)(a:s)(h:(n++a).Nodup)(l:∀b∈a,dc k b≠[]/\∀f∈dc k b,f∈n\/dc k f=[]):
 Ae k m a/\rx k (n++a) (iu k m a):=by
 induction a using i4 with
 |nil=>show#[λg b q=>by simp at q,by rw[fk];show p]|snoc a b r=>
  rw[<-hX]at h;show ao (r (gz.mp h).1 λi c=>l i<|bJ c) λt u=>?_;have v:b∉n++a:=λn=>(gz.mp h).2.2 b n b (by simp) V;show ao (l b<|by simp) λh n=>?_;show ao (RP o u v h λf l=>(n f l).imp (λh=>bJ h) id) λw x=>?_;show#[λg i c=>?_,?_]
  .rcases r7 g a.length with j|j
   .rw[sV j]at c;mspec List.take_append_of_le_length (by show iC ‹_›);show t g i c
   .have d:=(gG.mp c).1;replace d:=dF▸d;replace d:=gw▸d;have A:g=a.length:=c1 (b9 [.aL y<| .e C] 0 y C D d)<|j;subst A;rw[sU<|cg _,zH]at c;obtain rfl:=fS c;rw[List.take_left']
    .show w
    .rfl
  .rw[<-hX];have:iu k m (a++[b])=iu k m a++[(b,kz k (iu k m a) b)]:=by
    unfold iu;mspec iX;rfl
   mspec this;show x
def RR (g:TabsAt k m.heap)(l:∀h q,r.raises h q=aj)(s:r.post args (.bool z) args=z)
 (t:Q n.heap (ghostOf m.heap k)) (u:n.os=m.os) (v:AllBare n.gens) (w:GrownAll k n.heap):GoodWG r x B args m (.ok<| .ret<| .bool z) n:=by
 have keep:∀a o,a∉k.map (·.2)->m.heap.get? a=J o->n.heap.get? a=J o:=λa o b c=>t a o<|ghost_ne c b;have i:∀a o,a∈k.map (·.2)->m.heap.get? a=J o->isCodeTable m.heap a/\o=oT (aRR [])/\∃d,n.heap.get? a=J (oT d):=λa o b c=>by
  obtain⟨e,f,rfl⟩:=ck b;have j:=(g e f).2;rw[c]at j;show cH (((g e f).1.tab (g e f).2).isCodeTable) (fS j)<|w.get e f
 show l6 (.inl<|A6 (.bool z) (.bool z) [] rfl (l args) (.bool z) s (λg=>#[List.nodup_nil,λh e=>nomatch e])) #[λa o c=>?_,λa o c=>?_] u v
 .by_cases b:a∈k.map (·.2)
  .show AY (i a o b c) λh e=>?_;show p e λd f=>?_;show .inr (.inl #[h,V,(aRR []),d,V,by show uH▸f])
  .show .inl<|keep a o b c
 .by_cases b:a∈k.map (·.2)
  .show cd (i a o b c) λg g e=>?_;show p e λd f=>?_;show dn _ f
  .show dn o<|keep a o b c
def RS (d:Well n o k m):∀a,m=.int a->∃b,k=.int a b:=by
 cases d with
 |int a b=>show λe c=>#[b,WData.int.inj c▸V]|_=>show λe c=>nomatch c
def RT (f:Well m k n o):∀a b,n=.ref a->o=.list b->∃d:cv,k.get? a=J {cls:=.type "list",data:=.seq d.toArray}/\WellAll m k d b:=by
 cases f with
 |list c g=>show λa b e d=>#[_,t7 e▸c,WData.list.inj d▸g]|_=>show λb a e c=>nomatch c
def RU:∀{a:cv},WellAll m n a (ofPys<|k.map ut)->rH a k:=by
 induction k with
 |nil=>
  intro a b;cases a with
  |nil=>show .nil|cons c a=>show nomatch b
 |cons d k e=>
  intro a b;show f3 (wellAll_cons_inv b) λc h a f g=>?_;show p (RS f d V) λc b=>?_;show a▸b▸ .cons _ _ (e g)
def RV (b:Well o m (.ref k) (ofPy<| .list<|n.map ut)):∃a:cv,m.get? k=J {cls:=.type "list",data:=.seq a.toArray}/\rH a n:=
 aY (RT b k _ V rfl) λa c d=>av a c<|RU d
section
variable {U:aW}
def RW (b:aR U):eB U 262 (bk 262<|a U) ["script"] (cf 262<|a U):=
 b.fn V rfl D V rfl (kY λd=>by room)
  (qo V (λb=>D) hc) (by decide) (by mspec(show((iA 0 (bk 262<|a U).scope.names []).map (·.1))=(["sorter","items","script"]:h)from by room);decide) c c V
end
noncomputable abbrev oJ:List (T×T):=[(251,247),(227,225),(256,254),(68,64),(261,259)]
def RX (d:(tu x.params).In (ghostOf k.heap oJ))(H:∃I K B L N,Top I K B L N (ghostOf k.heap oJ))(p:TabsAt oJ k.heap)(O:k.gens=(aRR []))
 (P:∀m R,M.raises m R=aj) (S:M.post args (.bool z) args=z) (T:Well x.params k.heap (.ref m) (ofPy<| .list<|w.map ut)) (U:w.length<=63) (W:wz w):
 au (b2 Sf x) callerA (dV (.ref 262) [.ref m]) (λt q=>GoodWG M Sq B args k (.ok<| .ret t) q) Sr k:=by
 let h:aW:=#[Sf,x,ghostOf k.heap oJ];have u:aR h:=#[d,H];show bC λd c=>?_;show w0 (ghost_code p) λY Z Sg Sh Si v=>?_;show c ?_;clear c d;have i:∀a∈oJ,k.heap.get? a.2=J (oT (aRR [])):=λa b=>(p a b).2;show bC λd c=>?_;show aY (RV T) λx y B=>?_;show c ?_;clear c d;have A:Q (l k.heap [247,225,254,64,259]) h.B:=λC o H=>H;have Sj:aO h (l k.heap [247,225,254,64,259]) [.ref m] [.list<|w.map .int]:=by
  show .cons (.list (a3:=x) #[_,cb _ y λe=>?_]<|aO.HT B) .nil;obtain⟨a,b,rfl⟩:∃a∈oJ,a.2=m:=by
   simp only[hQ,mL,or_false]at e;rcases e with rfl|rfl|rfl|rfl|rfl
   .show av _ ap V
   .show av _ (g ap) V
   .show av _ (g<|g ap) V
   .show av _ (g<|g<|g ap) V
   .show av _ (g<|g<|g<|g ap) V
  have:=i a b;replace this:=y▸this;cases this
 have E:∀m,m∈[247,225,254,64,259]->k.heap.get? m=J (oT (aRR [])):=λm e=>by
  simp only[hQ,mL,or_false]at e;rcases e with rfl|rfl|rfl|rfl|rfl
  .show i (251,247) (by decide)
  .show i (227,225) (by decide)
  .show i (256,254) (by decide)
  .show i (68,64) (by decide)
  .show i (261,259) (by decide)
 have s:∀a∈dJ,a.1∈[247,225,254,64,259]:=λa b=>by
  simp only[hQ,mL,or_false]at b;rcases b with rfl|rfl|rfl|rfl|rfl<;>decide
 have Sk:∀a∈dJ,bH h (l k.heap [247,225,254,64,259]) k.heap a.1 a.2:=λa b=>by
  have f:=E a.1<|s a b;simp only[hQ,mL,or_false]at b;rcases b with rfl|rfl|rfl|rfl|rfl<;>show .tab (fp:=(aRR [])) f trivial λa v=>.inl V
 show(RW u).call (n:=312) (X:=[247,225,254,64,259]) (ds:=[.list<|w.map .int]) (h0:=h.B) (own:=dJ) (fr:=J []) (gen:=z) #[V,by decide,by decide] A (λC e=>#[_,E C e]) Sj V (A.trans l.of) (λa b=>#[s a b,Sk a b]) (λa b=>cU _<|s a b) (by decide) (λe f=>by obtain rfl:=fS f;rfl)
  (λe i=>QX u Y Sh Z Sg Si 300 e 262 i #[h.B,[247,225,254,64,259],J [],z] D V w U W) λSl q F r=>?_
 show bC λd c=>?_;obtain⟨t,e,h,Sm,⟨rfl,rfl⟩,G,Sn⟩:=r;show c ?_;clear c d;have So:=Sn.HD;subst So;obtain rfl:Sl=.ret (.bool z):=by
  rcases Sm with rfl|⟨_,f⟩
  .rfl
  .cases f
 have j:∀a∈dJ,GrownAt a.1 q.heap:=λa b=>by
  have:=G.hF a b;simp only[hQ,mL,or_false]at b;rcases b with rfl|rfl|rfl|rfl|rfl<;>(show aY this.y4 λSp f v=>?_;show dn Sp f)
 show RR p P S G.keep F.os (F.gens<| .of_eq O) #[j _ ap,j _<|g<|g ap,j _<|g<|g<|g ap,j _<|g ap,j _<|g<|g<|g<|g ap,trivial]
def RY (i:∀b:s,b.length<=63->wz b):ry.Holds:=Hh (by
 intro u w j x y b f A o B C D E F G hd H I a k args K L l m p q r;have d:=km_in_of f;have t:=km_tabs_of f;have X:=(Ground.X b).1;have f:=(Ground.X b).2;show Ground.open b ?_;intro g b f u w;have e:TabsAt oJ j.heap:=λb h=>by
  simp only[oJ,hQ,mL,or_false]at h;rcases h with rfl|rfl|rfl|rfl|rfl<;>show#[codeHd_of_K d (by room),t _<|by decide]
 have b:=mg_of d (Top.g g) (n:="law") (v:=.ref 262) (by room);have f:AL.name="law":=by room
 rw[f,b]at a;injection a with a
 injection a with a
 subst a
 wrow_args l m p q r
 rename Well _ _ _ _=>W;rename ¬_<_=>hz;show RX (ghost_K e d<|by room) #[_,_,_,_,_,ghost_top e g] e k (λa a=>c) (by room) W (dH.mp<|oQ.mp hz)<|i _<|dH.mp<|oQ.mp hz)
def RZ:(k.lookup m).isSome=decide (m∈dj k):=by
 induction k with
 |nil=>rfl|cons c k d=>
  obtain⟨b,e⟩:=c;mspec fz;by_cases a:m=b
  .subst a;simp[dj]
  .mspec beq_eq_false_iff_ne.mpr a;dsimp only;mspec d;rw[decide_eq_decide];show(?_:m∈dj k↔m∈b::dj k);simp[a]
def R0 {a:Nat}(b:hU[a]?=J (k,m)):d1 (a:Int)/\a4 (a:Int)=k:=by
 have a:=(gG.mp b).1;have a:hU.length=8:=rfl;show#[#[by show f2 _,by show el.mpr ‹_›],?_];unfold a4;rw[vz];mspec b;rfl
def R1 {a:s}:a.any (·==k)=decide (k∈a):=by
 rw[sT,ko];mspec decide_eq_true_eq;show#[λa=>aY a λd b c=>by show ch (beq_iff_eq.mp c) ?_;show b,λa=>av k a<|beq_self_eq_true k]
def G7 {a:List bG}(f:dq a)(h:∀g∈k,g∈cG a):th (mk (cG a) (gX a k [])<|dm a) k (bn a):=λc g l i=>by
 obtain⟨j,rfl⟩:=R0 i;have g:=hp f;have e:a4 (c:Int)∈cQ (mk (cG a) (gX a k [])<|dm a)↔(c:Int)∈cG a:=by rw[rt];show wB g j
 unfold qX nt lT;mspec R1;mspec RZ;mspec(iO a f).1;rw[tb<|("node ":v)++gO (a4 (c:Int))];by_cases b:(c:Int)∈cG a
 .mspec AB g b (gX a k [])<|dm a;mspec if_pos<|e.mpr b;unfold gX;by_cases d:(c:Int)∈k
  .mspec if_pos d;mspec if_pos V;mspec if_pos<|decide_eq_true d;show#[.inr<| .inl V,V]
  .mspec if_neg d;mspec if_neg (show(c:Int)∉([]:s) by simp);mspec if_neg (by simp+arith);mspec if_neg (by simpa using d);mspec if_pos<|decide_eq_true b;show#[.inr (.inr<|by show f2 _),V]
 .mspec if_neg<|λa=>b<|e.mp a;mspec if_neg (by simpa using(λa=>b<|h _ a));mspec if_neg (by simpa using b);show#[.inl λa=>b<|e.mp a,V]
def R2 {c b:s}(g:∀a∈c,d1 a)(h:∀a∈b,d1 a)(d:Int->Int)(e:Int->s)(f:Int):eL (mk c d e) (b.map a4) f=mk c (λa=>if a∈b then f else d a) e:=by
 unfold eL mk;mspec d9;show hD λa d=>?_;show(?_:(if a4 a∈b.map a4 then _ else _)=_);by_cases c:a∈b
 .mspec if_pos<|dI c;dsimp only;show aJ (if_pos c) V
 .mspec if_neg<|λb=>c<|(wB h<|g a d).mp b;dsimp only;show aJ (if_neg c) V
structure AI (bU:List bG)(a b:s)(aa:lW):Prop where
 wJ:aa.gU=a
 gV:aa.gV=mk (cG bU) (gX bU a []) (dm bU)
 ex:aa.ex=b.map a4
 bI:aa.bI=aa.bW
 h5:rx bU (a.filter λae=>decide (dc bU ae≠[])) aa.h5
def wK (c:dq k)(a:s):oB (bn k) a=a.filter λb=>decide (dc k b≠[]):=
 pn λb a=>by rw[(iO k c).2]
def G8 (b:dq k){a:s}(c:a.Nodup)(d:∀e∈a,e∈cG k):a.length<=8:=by
 have:=lR (cG k) a c d;have:=AD b;show a6 ‹_› ‹_›
def oI.next (f:dq n)(c:oI n k m):oI n (k++m) (j3 n k m):=by
 have g:∀b,b∈j3 n k m↔b∈cG n/\b∉k++m/\∀e∈dc n b,e∈k++m:=λb=>by
  mspec G1 f c;rw[(rh _ _).mem_iff,G0 f]
 show#[gz.mpr<|cH c.bA ?_<|λo j l n h=>((g l).mp n).2.1<|h▸j,λb a=>?_,λb a=>?_,λb a e i=>?_]
 .show ao (AG f (k++m) m k V c.bA) λj l=>?_;show j.imp λd h=>by rw[h]at d;show absurd d<|Ai _
 .show cL a (λa=>?_) λa=>?_
  .show c.sub b a
  .show((g b).mp a).1
 .rw[g];show#[λd=>d.2,λd=>#[a,d]]
 .show cL a (λa=>?_) λa=>?_
  .show bJ<|c.jf b a e i
  .show bJ<|((c.wH b<|c.sub b<|bB a).mp a).2 e i
def R3 (d:dq k)(e:oI k o n)(c:AI k o n m)(s:n≠[]):
 wq k (bn k) n m/\AI k (o++n) (j3 k o n) (ti k (bn k) n m):=by
 have p:=hp d;have h:∀a∈n,a∈cG k:=λa b=>e.sub a<|bB b;have l:eL m.gV m.ex (-1)=mk (cG k) (gX k o n) (dm k):=by
  mspec c.gV;mspec c.ex;rw[R2 p<|λa b=>p a<|e.sub a<|bB b];show oE (λa p=>?_) λp p=>rfl;unfold gX;by_cases b:a∈n
  .mspec if_pos b;mspec if_neg<|λp=>(gz.mp e.bA).2.2 a p a b V;show aJ (if_pos b) V
  .mspec if_neg b;mspec if_neg b;simp
 show ao (GW d n o [] h e.bA e.rn) λhd t=>?_;have o:=G8 d (gz.mp e.bA).2.1 h;have o:=G8 d (gz.mp e.bA).1 λa b=>e.sub a<|bJ b;have q:=RQ d c.h5 (oB (bn k) n) (by
  rw[wK d,<-rQ];show e.bA.sublist lS) λa b=>by
   rw[wK d]at b;show ao (e9.mp b) λo i=>?_;show#[f i,λp u=>?_];by_cases r:dc k p=[]
   .show .inr r
   .show .inl (e9.mpr #[(((e.wH a<|h a o).mp o).2 p u),by simpa using r])
 constructor
 .show#[?_,c.ex,jm.mpr s,by show b1,λo j=>?_,by mspec c.bI;show tG _,λa b=>?_,q.1,?_,λp g=>?_,λp g o j=>?_,by mspec c.wJ;show b1]
  .mspec c.gV;mspec c.wJ;show G7 d λa b=>e.sub a<|bJ b
  .rw[c.ex]at j;show g0 j λa b=>?_;show(?_:a4 a∈cQ m.gV);mspec c.gV;rw[rt];show dI<|h a b
  .mspec(iO k d).1;show h a b
  .mspec l;mspec c.ex;show t
  .replace g:=c.gV▸g;obtain⟨a,b,rfl⟩:=ck g;show(?_:((dm k a).map a4).length<=30);rw[a7];have:=GQ d a;show b1
  .rw[c.gV]at g ⊢;obtain⟨a,b,rfl⟩:=ck g;show g0 j λb a=>?_;rw[rt];show dI<|ru d a
 .show#[by show(?_:m.gU++n=_);show aJ c.wJ V,?_,?_,by show(?_:m.bI+_=m.bW+_);show aJ c.bI V,?_]
  .show(?_:(fu (eL m.gV m.ex<| -1,[]) m.ex).1=_);mspec l;mspec c.ex;show congrArg Prod.fst hd
  .show(?_:(fu (eL m.gV m.ex<| -1,[]) m.ex).2=_);mspec l;mspec c.ex;have:=congrArg Prod.snd hd;rw[nv]at this;show this
  .show(?_:rx k _ (iu k m.h5<|oB (bn k) n));have i:=q.2;rw[wK d,<-rQ]at i;rw[wK d];show i
theorem G9 (f:dq k):∀(g:Nat)(a c:s)(h:lW),oI k a c->AI k a c h->(cG k).length<a.length+g->lX k (bn k) (pG g (bn k) a c) h
 |0,a,c,h,b,d,l=>by
  have:=lR (cG k) a (gz.mp b.bA).1 λi j=>b.sub i<|bJ j;show absurd ‹_› (g7.mpr ‹_›)
 |g+1,a,c,h,b,d,l=>by
  rw[Fq];by_cases a:c=[]
  .mspec if_pos a;show cH ?_ (by mspec d.ex;mspec a;rfl) d.bI;mspec d.gV;mspec d.wJ;show G7 f λi j=>b.sub i<|bJ j
  .mspec if_neg a;show ao (R3 f b d a) λc h=>?_;show#[c,?_];show ch (G1 f b) ?_;show G9 f g _ _ _ (b.next f) h (by mspec dF;show c7 [.aL y<| .S C<| .e aV,.aL (.O 0) t] 0 (.e y) (.S (.S C t) aV) D l<|jm.mpr a)
def R4 (a:Int):gX k [] [] a=jy k a:=by
 unfold gX oH jy;mspec if_neg (by simp);mspec if_neg (by simp);congr 2;show(xY).mpr ?_;intro a _;simp
def R5:jy k m=0↔dc k m=[]:=by
 unfold jy fJ;mspec dF;constructor
 .intro a;show n6.mp<|c1 (b9 [.j (.S y C)<| .O 0] 0 y (.O 0) D<|aA<|jn a)<|ey _
 .intro a;mspec a;rfl
def wL (a:dq k):pH (bn k)=(cG k).filter λb=>decide (dc k b=[]):=by
 unfold pH;mspec(iO k a).1;show pn λb c=>by rw[(iO k a).2]
def R6 (a:dq k):jY (lo k)=(pH<|bn k).map a4:=by
 mspec wL a;show(?_:(((cG k).map λa=>(a4 a,jy k a,(dm k a).map a4)).filter λb=>b.2.1==0).map (·.1)=_);mspec yR;mspec d9;have c:(λb:v×Int×h=>b.2.1==0)∘(λa=>(a4 a,jy k a,(dm k a).map a4))=λa=>decide (dc k a=[]):=by
  funext a;show(?_:(jy k a==0)=_);rw[sT,beq_iff_eq];mspec decide_eq_true_eq;rw[R5]
 mspec c;rfl
def R7 (c:dq k):lX k (bn k) (j2<|bn k) #[[],[],lo k,jY<|lo k,0,0]:=by
 unfold j2;have h:(bn k).length=(cG k).length:=by
  show ch ((iO k c).1) ?_;unfold dj;rw[a7]
 show G9 c _ [] _ _ #[?_,(λb a=>?_),(λb a=>?_),(λb a=>nomatch a)] #[V,?_,R6 c,V,#[V,.nil,(λb a=>nomatch a),(λb j d=>nomatch d)]] (by mspec h;simp)
 .rw[nv];mspec wL c;show(tk k).sublist lS
 .rw[nv,wL c]at a;show(e9.mp a).1
 .mspec wL c;rw[e9];mspec decide_eq_true_eq;constructor
  .intro f;show ao f λe d=>?_;show#[by simp,λc g=>by replace g:=d▸g;cases g]
  .intro f;show ao f λe d=>?_;show#[a,?_];cases hq:dc k b with
   |nil=>rfl|cons i a=>show absurd (d i (by mspec hq;show ap)) (by simp)
 .show oE (λb e=>(R4 b).symm) λe e=>rfl
def R8 (b:s):wz b:=by
 have a:=QY b;have c:pP b=lo (d6 b):=Rj _ a;show#[QZ a,Q9 a,?_,?_,RA a,?_]
 .mspec c;intro b d f e;obtain⟨b,f,rfl⟩:=ck d;show g0 e λd b=>?_;rw[rt];show dI<|ru a b
 .mspec c;show RB a
 .mspec c;show R7 a
def holds:ry.Holds:=RY λa b=>R8 a
end Mine
theorem PySem.Challenge.cw_rx0023_01_holds : PySem.Challenge.rw_rx0023_01.Holds :=
 Mine.holds
