import PyProof.Rows.All
import KE.KLam
import KE.LcTurns
import KE.KDictIter
import KE.KStar
import KE.KNestM
import OpenK.KFacts
import OpenK.KMore
import OpenK.KMake
import OpenK.KEqL
import OpenK.KOwn
import OpenK.KDescr
import OpenK.TopRead
import OpenK.KCls
import OpenK.KList
import OpenK.KGet
import OpenK.KWalk
import KE.KBoundM
import KE.KSortAsk
import PySem.Challenge.RW_rx0023_01
open PySem PySem.W PyProof.Rows PySem.Calls PySem.Spec PyProof.Rows.LCg PySem.SeqAt
set_option Elab.async false
set_option autoImplicit true
set_option maxRecDepth 100000
set_option linter.all false
set_option maxHeartbeats 0
set_option genSizeOf false
set_option genInjectivity false
set_option bootstrap.genMatcherCode false
set_option tactic.hygienic false
set_option compiler.extract_closed false
set_option genCtorIdx false
open And renaming intro->ym
open _root_.Array renaming replicate->qK,getD_eq_getD_getElem?->rh,length_toList->rW,empty_append->uT,perm_iff_toList_perm->wf,toList_map->FN,getElem?_eq_some_iff->Ka,append_empty->Kg,isEmpty->Lp,toList_append->My
open _root_.Array.Perm renaming refl->PO
open Bool renaming true->z,false->aj,and_eq_true->i7,false_eq_true->o6,false_ne_true->pn,eq_iff_iff->sY,true_and->uE,and_eq_true_iff->xb,or_eq_false_iff->CH,false_or->Lv,noConfusion->L1,or_false->Pg,and_true->Q2
open Classical renaming not_not->MM
open False renaming elim->vF
open ForInStep renaming yield->B6
open Function renaming comp->pm
open Int renaming le_of_eq->c2,ofNat_le->dH,ofNat_lt->ej,natCast_nonneg->f3,le_antisymm->gr,toNat_of_nonneg->gx,fmod->i9,self_le_toNat->kl,fdiv->lx,not_lt->oT,eq_ofNat_of_zero_le->pA,add_zero->rF,lt_or_gt_of_ne->s2,le_refl->tS,toNat_natCast->vL,lt_trans->wh,le_max_left->wq,lt_irrefl->AC,zero_add->Bs,add_assoc->Bt,zero_mul->Bu,max_eq_right->F5,neg_one_mul->H8,max_eq_left->Qk
open Int.ofNat renaming inj->jm
open LE renaming le->m5
open _root_.List renaming mem_cons_self->ao,length_map->a6,map_cons->b7,length_append->dE,mem_map_of_mem->dI,map_map->d2,length_cons->eA,map_append->eV,getElem?_map->e6,mem_filter->e7,append_nil->fj,lookup_cons->fB,length->fN,getElem?_eq_getElem->gm,pairwise_cons->gq,length_singleton->gw,nodup_append->gz,getElem?_eq_some_iff->gG,length_take->g9,map_congr_left->hC,mem_cons->hP,foldl_cons->hV,sum_cons->hW,append_assoc->hX,range->h7,mem_of_getElem?->ic,pairwise_append->ii,mem_map->iw,rec->ix,take_length->iU,mem_range->iW,foldl_append->iX,length_pos_iff->jl,length_range->jP,nodup_cons->ka,any_eq_true->ko,replicate->kA,mem_singleton->kF,length_drop->k6,filter_sublist->lS,mem_append->lY,not_mem_nil->mL,map_nil->m9,nil_append->nv,getElem?_eq_none->nZ,length_eq_zero_iff->n9,getD_eq_getElem?_getD->oz,getElem_mem->oA,size_toArray->o3,take_of_length_le->o7,filter_congr->pp,take_append_drop->p7,drop_zero->qe,take_add_one->qi,length_filter_le->qj,cons_append->qR,length_tail->re,getLast?_concat->rn,drop_eq_getElem_cons->rP,getElem?_range->rU,filter_append->rV,filterMap_cons->r8,mem_of_mem_take->sq,getLast?_map->ss,filter_cons->sR,idxOf_cons->sS,getElem?_append_right->sZ,getElem?_append_left->s0,map_eq_nil_iff->tb,flatMap_cons->ti,map->tD,toArray->tF,lookup->t0,any_cons->t2,mem_of_getLast?->u4,getElem?_drop->vb,mem_filterMap->vu,exists_mem_of_ne_nil->vD,perm_middle->vW,mem_singleton_self->wa,flatMap_append->wb,mapM_cons->wm,count_eq_zero->wQ,drop_nil->xq,any_map->x3,mem_iff_getElem?->x6,length_eq_one_iff->x9,filter_eq_self->yj,length_nil->yQ,all_eq_true->yX,filter_map->zb,sublist_append_right->zP,foldl->Ag,filter_eq_nil_iff->Ah,replicate_succ->Ap,getLast?_cons_cons->Aq,count_pos_iff->AR,getElem?_toArray->BR,getElem?_eq_none_iff->BV,drop->B4,idxOf->Cy,getElem_idxOf->Cz,drop_of_length_le->CL,take_zero->CQ,mem_of_mem_drop->Dl,pairwise_map->DX,filter_cons_of_neg->DY,filter_cons_of_pos->DZ,range'->Fj,sublist_cons_self->FA,pairwise_iff_getElem->FI,zip_cons_cons->FS,flatten->Gf,flatten_cons->Gg,foldl_nil->Gh,flatMap_assoc->Gl,mem_flatMap->GY,count_cons->G9,mem_replicate->Hc,mem_of_mem_head?->Hp,take_nil->Ij,getLast?_eq_getElem?->IA,filterMap_cons_some->IB,filterMap_cons_none->IC,take_succ_cons->IJ,forIn_nil->IV,getElem?_zip_eq_some->Jb,forall_mem_cons->Jc,length_pos_of_mem->Jk,idxOf_lt_length_iff->Jp,singleton_append->JC,any_toArray->Ke,getLast?_eq_some_getLast->KA,dropLast_eq_take->KC,sum_append->KI,drop_succ_cons->KL,drop_eq_nil_iff->KU,drop_drop->KV,perm_append_comm->Lm,length_take_le'->LB,append_of_mem->LO,length_erase_of_mem->MC,ne_nil_of_mem->MH,eraseIdx_append_of_length_le->NH,filter_nil->NZ,map_drop->Oc,drop_eq_nil_of_le->Of,ext_getElem?->Oy,mem_range'_1->OA,getElem_drop->OR,getElem?_take_of_lt->OT,getLast?_eq_none_iff->Ps,getElem?_cons_succ->Pt,nodup_range->PH,mapM_toArray->P4,drop_one->Qy,mem_of_mem_tail->Qz,range_succ->QH,lookup_append->RU,flatMap_nil->R3,count_append->R7
open _root_.List.Pairwise renaming sublist->Se
open _root_.List.Perm renaming refl->eH,swap->vf,of_eq->MQ
open _root_.List.Sublist renaming cons->N9,refl->Oa
open _root_.List.cons renaming inj->oP,injEq->Ph
open Nat renaming le_of_eq->ay,le_trans->a5,le_refl->cg,le_antisymm->cZ,zero_le->ew,le_add_of_sub_le->eY,sub_add_cancel->e8,lt_succ_self->fA,sub_le->fE,le_of_ble_eq_true->fT,ne_of_lt->g7,not_lt->g8,le_of_lt->iD,lt_of_succ_lt_succ->lr,le_succ->lB,min_le_right->ml,lt_irrefl->mQ,add_zero->nQ,lt_of_lt_of_le->nR,min_le_left->oo,ble->oQ,succ_pos->oR,le_add_right->oW,add_le_add_left->p0,lt_succ_of_lt->qg,min_eq_left->qD,succ_le_succ->qF,zero_add->rE,not_lt_zero->rH,lt_or_ge->sc,succ_mul->sG,pos_of_ne_zero->sP,rec->tB,lt_of_le_of_lt->tJ,sub_zero->uK,add_assoc->vn,lt_trans->vX,lt_succ_iff_lt_or_eq->wg,le_of_lt_succ->wl,add_le_add->xc,mul_le_mul_right->xd,mul_zero->yT,sub_self->z0,pow_succ->Ak,zero_mul->Bm,add_comm->Bq,add_le_add_right->Bv,sub_lt_sub_left->B8,ne_of_gt->Cu,max_le->CA,le_total->CJ,min_eq_right->CK,le_of_succ_le_succ->Dn,lt_of_lt_of_eq->DQ,eq_or_lt_of_le->FL,lt_or_gt_of_ne->MD,le_of_not_lt->Oz,lt_succ_of_le->PL,max_eq_left->PP,pow_le_pow_right->QE
open Ne renaming symm->mo
open Option renaming some->O,none->c,map_eq_some_iff->f2,elim->uI,bind->xa,isSome_iff_exists->xX,map->Bb,none_or->Ey,some_or->Mz
open Option.some renaming inj->fU
open Or renaming elim->aw
open PUnit renaming unit->vG
open Prod renaming fst->Bc
open PyProof.Rows renaming Call_->jb,arrOf->ju,MethodCall_->jO,callWith_method1->mh,assignInOrder_cons->n5,seqObj->pH,IntsAre->rM,joinParts_cons->sh,listItems_at->s8,listUpdate_at->ta,append_at->us,bubble->wk,Subscript_->xz,assignInOrder_nil->xQ,oneType'->z9,get?_update_seq->FT,seqEpoch_at->FU,callWith_type1->II,assign_Tuple_tuple->Qi
open PyProof.Rows.SortSt renaming mk'->FM
open PySem renaming Str->i,Addr->T,wpAny_bind->ap,wpAny->ar,sizeLine->aC,Shared->aM,Heap->aW,Value->a3,wpAny_pure->ba,starEach->bf,callEnvC->bU,Env->b1,model->b2,Stmt->cl,Around->cV,backTo->cX,Expr->c4,Pos->di,wpAny_mono->dq,Obj->dF,callWith->dO,call->dU,rawInt->d4,standAt->ep,holding->e5,World->fd,Tok->fg,swapsWith->f7,getMethod->gK,reprText->gO,wpAny_holding->g6,bindArgs->hD,mainGlobals->hQ,codeAny->hR,wpAny_call->hS,Sem->ib,wpAny_assign_Name->iA,cellsFrom->iB,foldedSetIterable->iC,FuncData->iH,closureFor->iT,Program->i5,sysModules->i8,backToKw->jH,keywordEach->jI,wpAny_standAt->jJ,Scope->jM,compEnvC->jN,DictEntry->j3,typeLookup_type->kd,builtinLookup_eq_fast->ke,getAttr->kf,strLen_append->kh,wpAny_items_cons->kP,PyData->kR,codeAmong->lv,wpAny_items_nil->ly,typeLookup->lz,assign->lA,isSubtype_type->lF,wpAny_truthy_bool->ma,wpAny_execs_cons->mn,interactive->mq,treeTable->mP,intKind->mT,relabel->mZ,argsOk->nb,recursionLimit->nU,cLine->nV,isTrue->nW,sliceBounds->nY,compTurn->n1,pushCells->n7,typeIs_str->ob,wpAny_Expr_any->od,Meets->og,wpAny_Constant_str->oX,strKind_is->o4,letOwnedTupleGo->o9,wpAny_Assign_Name->pb,codeAny_builtin->pe,Model->p6,TriplesOk->p8,slicePick->qc,leaving->qf,typeOf->qv,getMethod_builtin->qw,behindInMarks->rK,pyNext->rO,wpAny_execs_nil->rX,wpAny_If->rY,clipAt->sa,wpAny_rule->sd,codeAny_call_builtin->sf,wpAny_load->sg,newTuple->sC,Params->ty,valueAt->tZ,wpAny_loadName_local->t4,wpAny_List->t5,wpAny_specialOf->t8,intKind_is->ua,Result->ue,noteFrame->uf,pyIter->ui,IsRangeIter->ul,lookup_relabel_local->um,newList->uo,wpAny_newObj_type->uq,eval_ListComp->uw,clipAt_nat->uJ,entryFor->uM,entryFor_of_tree->uN,isSubtype->uO,evalArgs->uQ,plainId_quiet->uR,swappedStores->uU,wpAny_seqItems->vJ,wpAny_field->vK,wpAny_Name->xt,wpAny_isTrue_Compare1->xv,letTemporaryGo->xy,slot_list_getitem->xA,unpackItems->xG,wpAny_pyIter_list->xH,assignInOrder->xI,assignEach->xJ,wpAny_storeName_local->xP,compPost->xT,comprehension->xU,wpAny_Return_some->xY,builtinsNs->x8,call_meets->ya,call_meetsIn->yb,checkBoundCall->yq,keeperOf->yr,wpAny_ite_true->yt,swapsWithSole->yz,defaultsOf->zq,scanBound->zD,wpAny_Constant_none->BH,wpAny_loadName_cell->BI,wpAny_loadName_free->BJ,is_none->BN,wpAny_isTrue_BoolOp->BO,wpAny_allTrue_Or_cons->BP,subscripted->BQ,wpAny_getItem_of->BS,sliceRange->BU,wpAny_Slice->BW,wpAny_tests_nil->Cb,pushCells_keeps->Cf,compTurn_list->Cg,exec_Assign_Name_used->Cm,assign->Cn,wpAny_Dict_empty->Cq,wpAny_Assign_Subscript->CC,wpAny_setItem_pairs->CD,codeAny_of_tree->CO,wpAny_of_eq->CP,cameBackBy->CR,plainObj_wpAny_Assign_Attribute->C3,wpAny_mkStr->Dx,wpAny_typeOf->Er,wpAny_ite_false->Es,slot_listiter_next->EV,excClassObj->Fd,wpAny_fieldsOf->Fh,wpAny_Constant_int->Ir,wpAny_isTrue_value->Iu,wpAny_allTrue_And_cons->Iv,wpAny_allTrue_Or_nil->Iw,wpAny_getItem_list_slice->ID,wpAny_pyIter_range->IS,wpAny_storeName_cell->IX,wpAny_AugAssign_AttributeAny->Kh,codeAny_forLoop_any->Kq,wpAny_newFunctionEnv->Mc,wpAny_callSpecial?_slot->NJ,wpAny_deleteEach_cons->NT,wpAny_delete_Subscript->NU,wpAny_deleteEach_nil->NV
open PySem.Around renaming frames_deeper->r2,under_plainId->zB
open PySem.Bind renaming checkArgs->JY
open PySem.Builtin renaming divisionGoesByPylong->xu
open PySem.Builtin.Getset_descriptor renaming descrSet->SY,descrStoreThrough->S0,descrCheckInstance->S1,descrNameAndClass->S2,descrItself->S3
open PySem.Builtin.List renaming listUpdate->s9,listFitsIndex->ON
open PySem.Builtin.Range renaming rangeSize->Ca,small->OL
open PySem.Builtin.Re renaming reTurnSteps->zy,reNoCollectionInside->Na
open PySem.Builtin.Str renaming occurrences->pz,tableLookup->KX
open PySem.Calls renaming evalArgs_plain->uc,Name_function_global->xx,callWith_function->xE,getMethod_list_append->CE,loadGlobal_builtin->Iz
open PySem.Challenge renaming rw_rx0023_01->pU,pw_rx0023_01->SX
open PySem.Code renaming compLoop->jK,quiet_builtin->C2
open PySem.Expr renaming Tuple->oh
open PySem.F renaming slot_dict_get->qx,slot_str_join->su,type_str_join->sv,type_dict_get->u2,excCall_ValueError->vw,excRaise_ValueError->vx,attr_ValueError->zn,slot_list_index->Cx,slot_list_getattribute->CU,slot_str_getitem->CY,slot_gs_get->Eo,typeOf_object_class->Ep,slot_str_replace->Fl,plainAttrs_str->Jm,plainAttrs_list->Jn,plainAttrs_dict->Jo,entry_dict_get->Jr,type_list_append->JT,slot_list_append->JV,slot_str_translate->KZ,isExc_ValueError->Mr,notTuple_ValueError->Ms,type_list_index->ML,slot_dict_delitem->NK,slot_dict_values->Oj,slot_str_find->OD,type_str_replace->OG,slot_list_setitem->OO,slot_list_lt->PX,slot_list_sort->Qe
open PySem.Heap renaming get?_push_size->dL,get?_push_of_some->gk,lt_size->gl,SameBut->ia,size_push->mi,get?_update_self->nc,get?_none_of_le->qk,ExtBut->xF,MadeExcOf->zh,dictOf_iff->N0
open PySem.Heap.DictOf renaming new->Cr
open PySem.Heap.IsSliceOf renaming new->IE
open PySem.Heap.SameBut renaming update->jh
open PySem.Heap.UpToSlots renaming of_keeps->L3
open PySem.Manifest renaming signature?->yp
open PySem.Meets renaming of_wp->uP
open PySem.MeetsSeq3 renaming plain_eq_loop->s7,entry_eq_loop->FP
open PySem.Obj renaming mapSeq->jn,mapFields->q5,isFreed_of_fields->EX,data_mapFields->NF
open PySem.P renaming iadd_int->J4,getItem_str->J9
open PySem.PyData renaming strOk->fx,canLay0->oc,canLayAll0->qy,depthAll->qz,depth->r5,keyHash->tz,int->uF,str->wz
open PySem.SeqAt renaming shaped->jF,noMix->me,noMixAll->qA
open PySem.Sre renaming M->ov,forSearch->zx,Seen->EM,header->EN
open PySem.Stmt renaming casesOn->wY
open PySem.Str renaming ofString->jr,empty->kg
open PySem.StrLaws renaming sliceText->jY,glued_eq_join->QJ
open PySem.Txt renaming join->dC
open PySem.Value renaming ref->na,none->nX,type->oe,isInt->rR,builtin->se,str->sQ,isStrOf->IQ,casesOn->P5
open PySem.Value.ref renaming inj->uj
open PySem.W renaming hideAll_get->cb,hideAll->cq,hideAll_none->cT,instObj->c1,CodeHd->dg,of_hideAll->fe,Frag->fl,emptyDict->f6,dictOf->j7,plainGet_of->k4,tabObj->nO,getL->nS,kla_fn->ot,kas_item->ri,findIn->sk,typeIn->sl,hasDictIn->uW,Looks->uX,lookIn->u0,lookIn_dict->u1,topFrame->w3,looks_field->yF,shadowIn->yK,method_fn->yL,callWith_K->C6,callWith_K0->C7
open PySem.W.KF renaming slot_mset->yG
open PySem.W.OpenLaw renaming wellSaid->HN
open PySem.Walks renaming dictKeys->IR
namespace Mine
open _root_.List renaming toArray→aRR
local macro_rules |`(term|#[$t,*])=>`(term|⟨$t,*⟩)
local macro_rules |`(tactic|show $t)=>`(tactic|refine $t)
local macro_rules |`(tactic|room)=>`(tactic|kernel_rfl)
def V {b:Sort _}{a:b}:a=a:=rfl
abbrev bX:=a3->aM->Prop
abbrev lo:=Unit->aM->Prop
abbrev h:=List Int
abbrev ak:=List i
abbrev aY:=List T
abbrev cv:=List a3
abbrev bP:=List Nat
abbrev h6:=List c4
def A {a:Type _}{d b:a}{e:List a}(f:d∈e):d∈b::e:=List.mem_cons_of_mem _ f
def bI {a:Type _}{b:a}{d e:List a}(f:b∈d):b∈d++e:=List.mem_append_left _ f
def bA {a:Type _}{b:a}{e d:List a}(f:b∈d):b∈e++d:=List.mem_append_right _ f
def d1 {d:Type _}{a b:d}{e:List d}(f:a∈b::e):a=b\/a∈e:=hP.mp f
def jy {b:Type _}{a:b}{d e:List b}(f:a∈d++e):a∈d\/a∈e:=lY.mp f
def bW {d:Type _}{a b:d}(e:a∈[b]):a=b:=kF.mp e
def ck {a d:Type _}{e:a->d}{b:d}{f:List a}(h:b∈f.map e):∃g,g∈f/\e g=b:=iw.mp h
noncomputable abbrev gY:i5:=SX
noncomputable def dw (L:Nat):cl:=(gY.main.body[L]?).getD<| .Pass default
noncomputable def lp (L cC:Nat):cl:=wY (dw L) (λa a a a a a a a a a=>dw L) (λa a a a a a a a a a=>dw L) (λa a a b a a a a a a a=>(b[cC]?).getD<| .Pass default) (λa a=>dw L) (λa a=>dw L) (λa a a=>dw L) (λa a a a a a a=>dw L) (λa a a a=>dw L) (λa a a a a=>dw L) (λa a a a a=>dw L) (λa a a a a=>dw L) (λa a a a=>dw L) (λa a a a=>dw L) (λa a a=>dw L) (λa a a=>dw L) (λa a a=>dw L) (λa a a=>dw L) (λa a a a a=>dw L) (λa a a a a=>dw L) (λa a a=>dw L) (λa a=>dw L) (λa a a a=>dw L) (λa a=>dw L) (λa a=>dw L) (λa a=>dw L) (λa=>dw L) (λa=>dw L)<|λa=>dw L
noncomputable def fy (d:i)(af:a3)(e:i)(aT q:Nat)(ae:cl):dF:={cls:=.type "function",data:=.func<|wY ae (λn ac b a a a aa a a a=>{name:=n,qualname:=d,params:=ac,body:=.stmts b,scope:=aa,globals:=3,closure:=[],defaults:=af,kwdefaults:=.none,pyModule:=.str e aT,code:=.ref q}) (λa a a a a a a a a a=>default) (λa a a a a a a a a a a=>default) (λa a=>default) (λa a=>default) (λa a a=>default) (λa a a a a a a=>default) (λa a a a=>default) (λa a a a a=>default) (λa a a a a=>default) (λa a a a a=>default) (λa a a a=>default) (λa a a a=>default) (λa a a=>default) (λa a a=>default) (λa a a=>default) (λa a a=>default) (λa a a a a=>default) (λa a a a a=>default) (λa a a=>default) (λa a=>default) (λa a a a=>default) (λa a=>default) (λa a=>default) (λa a=>default) (λa=>default) (λa=>default)<|λa=>default}
noncomputable def b8 (aB:ty)(s:i)(aT:Nat)(an:a3):j3:=#[tz aB s,.str s aT,an]
noncomputable def A2 (n:Nat):a3:=match n with
 |0=>.none|n=>.ref n
noncomputable def fz (n:i)(a:Nat)(d:i)(e f g ac b pS aQ ai an q ae h j k:Nat):dF:={cls:=.type "code",data:=.fields (aRR [.str n a,.str d e,.str "/claim/cut.py" f,.int g 0,.int ac 0,.int 0 0,.int 0 0,.int b 0,.ref pS,.bool z,.int aQ 0,.ref ai,.none,A2 an,A2 q,.ref ae,.int h 0,.int j 0,.str "/claim/cut.py" k])}
noncomputable def wZ:Array j3:=(aRR [#[40,.int 40 341,.str "\\(" 345],#[41,.int 41 347,.str "\\)" 351],#[91,.int 91 353,.str "\\[" 357],#[93,.int 93 359,.str "\\]" 363],#[123,.int 123 365,.str "\\{" 369],#[125,.int 125 371,.str "\\}" 375],#[63,.int 63 377,.str "\\?" 381],#[42,.int 42 383,.str "\\*" 387],#[43,.int 43 389,.str "\\+" 393],#[45,.int 45 395,.str "\\-" 399],#[124,.int 124 401,.str "\\|" 405],#[94,.int 94 407,.str "\\^" 411],#[36,.int 36 413,.str "\\$" 417],#[92,.int 92 419,.str "\\\\" 423],#[46,.int 46 425,.str "\\." 429],#[38,.int 38 431,.str "\\&" 435],#[126,.int 126 437,.str "\\~" 441],#[35,.int 35 443,.str "\\#" 447],#[32,.int 32 449,.str "\\ " 453],#[9,.int 9 455,.str "\\\t" 459],#[10,.int 10 461,.str "\\\n" 465],#[13,.int 13 467,.str "\\\x0d" 471],#[11,.int 11 473,.str "\\\x0b" 477],#[12,.int 12 479,.str "\\\x0c" 483]])
noncomputable def A3 (aB:ty):List j3:=[b8 aB "__doc__" 166 .none,b8 aB "__package__" 167 .none,b8 aB "__loader__" 168<| .builtin "__main__.__loader__#opaque",b8 aB "__spec__" 169 .none,b8 aB "__annotations__" 170<| .ref 6,b8 aB "__builtins__" 171<| .ref 4,b8 aB "__file__" 173<| .str "/claim/cut.py" 172,b8 aB "__cached__" 174 .none,b8 aB "_sre" 275<| .ref 12,b8 aB "_wall" 288<| .ref 38,b8 aB "_twin_re_1" 328<| .ref 43,b8 aB "translate" 337<| .ref 50,b8 aB "_special_chars_map" 485<| .ref 52,b8 aB "escape" 492<| .ref 62,b8 aB "_translate" 513<| .ref 69,b8 aB "_join_translated_parts" 526<| .ref 76,b8 aB "_NODE_OUT" 531<| .int (-1) 530,b8 aB "_NODE_DONE" 534<| .int (-2) 533,b8 aB "_NodeInfo" 571<| .ref 95,b8 aB "CycleError" 589<| .ref 110,b8 aB "TopologicalSorter" 708<| .ref 192,b8 aB "_law_items" 716<| .ref 203,b8 aB "_law_rule" 722<| .ref 208,b8 aB "_law_single" 728<| .ref 213,b8 aB "_law_uses" 734<| .ref 218,b8 aB "_law_ring" 740<| .ref 223,b8 aB "_law_rounds" 746<| .ref 228,b8 aB "_law_flat" 752<| .ref 233,b8 aB "_law_text" 758<| .ref 238,b8 aB "_law_words" 766<| .ref 245,b8 aB "_law_refuses" 780<| .ref 252,b8 aB "_law_grows" 786<| .ref 257,b8 aB "law" 792<| .ref 262]
noncomputable def pT (aB:ty):fl:=[
(3,{cls:=.type "dict",data:=.dict #[b8 aB "__name__" 165 (.str "law_rx0023_01" 709)::A3 aB] 34}),
(42,{cls:=.type "tuple",data:=.seq (aRR [.int 14 0,.int 14 0,.int 4 0,.int 1 0,.int 1 0,.int 9 0,.int 0 0,.int 64 0,.int 0 0,.int 1342177280 0,.int 0 0,.int 0 0,.int 0 0,.int 0 0,.int 0 0,.int 17 0,.int 0 0,.int 13 0,.int 11 0,.int 9 0,.int 0 0,.int 64 0,.int 0 0,.int 1342177280 0,.int 0 0,.int 0 0,.int 0 0,.int 0 0,.int 0 0,.int 17 0,.int 1 0,.int 1 0])}),
(43,{cls:=.type "re.Pattern",data:=.fields (aRR [.str "([&~|])" 292,.int 32 327,.int 1 0,.none,.none,.ref 42,.int 0 0])}),
(49,fz "translate" 329 "translate" 330 331 7 1 3 44 276 45 46 47 48 335 7 336),
(50,fy "translate" .none "cpy313.fnmatch" 289 49 (dw 4)),
(52,{cls:=.type "dict",data:=.dict wZ 24}),
(61,fz "escape" 486 "escape" 487 488 13 1 3 56 276 57 58 59 60 490 13 491),
(62,fy "escape" .none "re" 338 61 (dw 7)),
(68,fz "_translate" 495 "_translate" 496 497 20 3 3 63 276 64 65 66 67 511 20 512),
(69,fy "_translate" .none "cpy313.fnmatch" 493 68 (dw 9)),
(75,fz "_join_translated_parts" 514 "_join_translated_parts" 515 516 82 2 3 70 276 71 72 73 74 524 82 525),
(76,fy "_join_translated_parts" .none "cpy313.fnmatch" 493 75 (dw 10)),
(90,fz "__init__" 551 "_NodeInfo.__init__" 552 553 115 2 3 85 276 86 87 88 89 556 115 557),
(91,fy "_NodeInfo.__init__" .none "cpy313.graphlib" 527 90 (lp 14 1)),
(94,{cls:=.type "dict",data:=.dict (aRR [b8 aB "__module__" 542 (.str "cpy313.graphlib" 527),b8 aB "__firstlineno__" 546 (.int 112 545),b8 aB "__slots__" 550 (.ref 84),b8 aB "__init__" 558 (.ref 91),b8 aB "__static_attributes__" 562 (.ref 92),b8 aB "node" 564 (.ref 96),b8 aB "npredecessors" 566 (.ref 97),b8 aB "successors" 568 (.ref 98),b8 aB "__doc__" 569 .none]) 5}),
(95,{cls:=.type "type",data:=.cls {name:="_NodeInfo",bases:=[.type "object"],mro:=[.ref 95,.type "object"],ns:=94,qualname:="_NodeInfo",hasDict:=aj,slotNames:=["node","npredecessors","successors"]},slots:=(aRR [c,c,O (.str "_NodeInfo" 535),O (.str "_NodeInfo" 543),O (.builtin "object.__new__"),O (.bool aj)])}),
(96,{cls:=.type "member_descriptor",data:=.fields (aRR [.str "node" 563,.ref 95,.builtin "proto.slot",.builtin "proto.slot#set",.int 2 0])}),
(97,{cls:=.type "member_descriptor",data:=.fields (aRR [.str "npredecessors" 565,.ref 95,.builtin "proto.slot",.builtin "proto.slot#set",.int 1 0])}),
(98,{cls:=.type "member_descriptor",data:=.fields (aRR [.str "successors" 567,.ref 95,.builtin "proto.slot",.builtin "proto.slot#set",.int 0 0])}),
(109,{cls:=.type "dict",data:=.dict (aRR [b8 aB "__module__" 579 (.str "cpy313.graphlib" 527),b8 aB "__firstlineno__" 583 (.int 119 582),b8 aB "__static_attributes__" 584 (.ref 108),b8 aB "__weakref__" 586 (.ref 111),b8 aB "__doc__" 587 .none]) 3}),
(110,{cls:=.type "type",data:=.cls {name:="CycleError",bases:=[.type "ValueError"],mro:=[.ref 110,.type "ValueError",.type "Exception",.type "BaseException",.type "object"],ns:=109,qualname:="CycleError"},slots:=(aRR [O (.ref 101),c,O (.str "CycleError" 572),O (.str "CycleError" 580),O (.builtin "ValueError.__new__"),O (.bool z)])}),
(121,{cls:=.type "tuple",data:=.seq (aRR [.none])}),
(127,fz "__init__" 602 "TopologicalSorter.__init__" 603 604 123 2 3 122 276 123 124 125 126 609 123 610),
(128,fy "TopologicalSorter.__init__" (.ref 121) "cpy313.graphlib" 527 127 (lp 16 0)),
(134,fz "_get_nodeinfo" 612 "TopologicalSorter._get_nodeinfo" 613 614 132 2 3 129 276 130 131 132 133 618 132 619),
(135,fy "TopologicalSorter._get_nodeinfo" .none "cpy313.graphlib" 527 134 (lp 16 1)),
(141,fz "add" 621 "TopologicalSorter.add" 622 623 137 2 7 136 276 137 138 139 140 630 137 631),
(142,fy "TopologicalSorter.add" .none "cpy313.graphlib" 527 141 (lp 16 2)),
(146,fz "prepare" 633 "TopologicalSorter.prepare" 634 635 146 1 3 143 276 144 0 0 145 636 146 637),
(147,fy "TopologicalSorter.prepare" .none "cpy313.graphlib" 527 146 (lp 16 3)),
(153,fz "get_ready" 639 "TopologicalSorter.get_ready" 640 641 154 1 3 148 276 149 150 151 152 646 154 647),
(154,fy "TopologicalSorter.get_ready" .none "cpy313.graphlib" 527 153 (lp 16 4)),
(160,fz "is_active" 649 "TopologicalSorter.is_active" 650 651 165 1 3 155 276 156 157 158 159 653 165 654),
(161,fy "TopologicalSorter.is_active" .none "cpy313.graphlib" 527 160 (lp 16 5)),
(174,fz "done" 663 "TopologicalSorter.done" 664 665 173 1 7 169 276 170 171 172 173 674 173 675),
(175,fy "TopologicalSorter.done" .none "cpy313.graphlib" 527 174 (lp 16 7)),
(181,fz "_find_cycle" 677 "TopologicalSorter._find_cycle" 678 679 196 1 3 176 276 177 178 179 180 687 196 688),
(182,fy "TopologicalSorter._find_cycle" .none "cpy313.graphlib" 527 181 (lp 16 8)),
(191,{cls:=.type "dict",data:=.dict (aRR [b8 aB "__module__" 597 (.str "cpy313.graphlib" 527),b8 aB "__firstlineno__" 601 (.int 121 600),b8 aB "__init__" 611 (.ref 128),b8 aB "_get_nodeinfo" 620 (.ref 135),b8 aB "add" 632 (.ref 142),b8 aB "prepare" 638 (.ref 147),b8 aB "get_ready" 648 (.ref 154),b8 aB "is_active" 655 (.ref 161),b8 aB "__bool__" 662 (.ref 168),b8 aB "done" 676 (.ref 175),b8 aB "_find_cycle" 689 (.ref 182),b8 aB "static_order" 696 (.ref 189),b8 aB "__static_attributes__" 701 (.ref 190),b8 aB "__dict__" 703 (.ref 193),b8 aB "__weakref__" 705 (.ref 194),b8 aB "__doc__" 706 .none]) 4}),
(192,{cls:=.type "type",data:=.cls {name:="TopologicalSorter",bases:=[.type "object"],mro:=[.ref 192,.type "object"],ns:=191,qualname:="TopologicalSorter"},slots:=(aRR [c,c,O (.str "TopologicalSorter" 590),O (.str "TopologicalSorter" 598),O (.builtin "object.__new__"),O (.bool z)])}),
(202,fz "_law_items" 711 "_law_items" 712 713 228 0 3 197 276 198 199 200 201 714 228 715),
(203,fy "_law_items" .none "law_rx0023_01" 709 202 (dw 18)),
(207,fz "_law_rule" 717 "_law_rule" 718 719 230 2 3 204 276 205 0 0 206 720 230 721),
(208,fy "_law_rule" .none "law_rx0023_01" 709 207 (dw 19)),
(212,fz "_law_single" 723 "_law_single" 724 725 235 1 3 209 276 210 0 0 211 726 235 727),
(213,fy "_law_single" .none "law_rx0023_01" 709 212 (dw 20)),
(217,fz "_law_uses" 729 "_law_uses" 730 731 237 1 3 214 276 215 0 0 216 732 237 733),
(218,fy "_law_uses" .none "law_rx0023_01" 709 217 (dw 21)),
(222,fz "_law_ring" 735 "_law_ring" 736 737 244 2 3 219 276 220 0 0 221 738 244 739),
(223,fy "_law_ring" .none "law_rx0023_01" 709 222 (dw 22)),
(227,fz "_law_rounds" 741 "_law_rounds" 742 743 255 1 3 224 276 225 0 0 226 744 255 745),
(228,fy "_law_rounds" .none "law_rx0023_01" 709 227 (dw 23)),
(232,fz "_law_flat" 747 "_law_flat" 748 749 263 2 3 229 276 230 0 0 231 750 263 751),
(233,fy "_law_flat" .none "law_rx0023_01" 709 232 (dw 24)),
(237,fz "_law_text" 753 "_law_text" 754 755 265 1 3 234 276 235 0 0 236 756 265 757),
(238,fy "_law_text" .none "law_rx0023_01" 709 237 (dw 25)),
(244,fz "_law_words" 759 "_law_words" 760 761 271 1 3 239 276 240 241 242 243 764 271 765),
(245,fy "_law_words" .none "law_rx0023_01" 709 244 (dw 26)),
(251,fz "_law_refuses" 767 "_law_refuses" 768 769 276 4 3 246 276 247 248 249 250 778 276 779),
(252,fy "_law_refuses" .none "law_rx0023_01" 709 251 (dw 27)),
(256,fz "_law_grows" 781 "_law_grows" 782 783 282 4 3 253 276 254 0 0 255 784 282 785),
(257,fy "_law_grows" .none "law_rx0023_01" 709 256 (dw 28)),
(261,fz "law" 787 "law" 788 789 298 1 3 258 276 259 0 0 260 790 298 791),
(262,fy "law" .none "law_rx0023_01" 709 261 (dw 29))]
noncomputable def mM:i5:=view gY [0,1,3,4,6,7,9,10,12,13,14,15,16,18,19,20,21,22,23,24,25,26,27,28,29]
noncomputable def oN:ak:=["_twin_re_1","_special_chars_map","_NodeInfo"]
noncomputable def HL:aY:=(pT (aWorld 1).params).foldr (·.1::·) []
noncomputable def lZ:Hook:=kmHook pT HL (λa=>by room) [247,225,254,64,259]
def HM:looksOpen pU.row.prog=z:=by
 delta looksOpen
 show look_both (look_both (by decide+kernel)<|by decide+kernel) (by room)
def oO:HN pU=z:=by
 delta HN OpenRow.wellSaid OpenRow.partSaid
 rw[HM];room
noncomputable def w0 (aa:aM):Bool:=xlAt mM [] aa&&recOk pU.row.toRowW.records aa
noncomputable abbrev pV:Option a3:=O<| .ref 6
noncomputable def w1:List cl:=behindTheImports gY
noncomputable def A4:List cl:=w1.take 5
noncomputable def A5:List cl:=(w1.drop 6).take 8
noncomputable def A6:List cl:=w1.drop 14
noncomputable def tA:b1:={scope:=gY.main.scope,locals:=mainNs,globals:=mainNs,cells:=[],code:=.ref 30,frame:=O 31}
noncomputable def mO:Code:=.body (A4++([dw 6]++(A5++(A6++[])))) tA
abbrev A7:=Flow×aM×Code×di
abbrev nN:=Option A7
noncomputable abbrev w2 (bp:fd)(aa:aM):Option (aM×Thread):=topGo mP gY bp 28 pV 12 aa<|topStub gY
noncomputable def A8 (bp:fd):nN:=((fencedOpening mP gY bp 5876).bind<|w2 bp).bind λae=>segRun mP gY bp 28 pV 1 200 ae.1<|piecesOf A4 tA mO default [w3 default]
noncomputable def HO (aB:ty)(aE:Nat)(an:a3):T×dF:=(3,{cls:=.type "dict",data:=.dict #[b8 aB "__name__" 165 an::(A3 aB).take aE]<|aE+1})
noncomputable def A9 (aB:ty):fl:=[(0,boot_o_0 aB),(1,{cls:=.type "dict",data:=.dict (aRR [b8 aB "builtins" 162 (.ref 4),b8 aB "__main__" 163 (.ref 5),b8 aB "_sre" 244 (.ref 12)]) 3}),(2,{cls:=.none,data:=.dict (aRR [b8 aB "\x69mport.loaded._sre" 183 (.bool z),b8 aB "class._frozen_importlib.BuiltinImporter" 185 (.ref 14),b8 aB "watched.\x69mport" 206 (.ref 18),b8 aB "class._frozen_importlib.ModuleSpec" 216 (.ref 22),b8 aB "sys.modules.booked-epoch" 245 (.int 3 0),b8 aB "\x69mport.later-laid._sre" 270 (.bool z),b8 aB "watched.library" 272 (.ref 27),b8 aB "watched.library-objects" 0 (.str "\x0c" 0),b8 aB "watched.library-deep._sre" 273 (.str #[(aRR [4,0,0,11,4,0,0,11,4,0,0,3,4,0,0,11,8,4,100,105,99,116,2])] 0)]) 9}),(4,boot_o_4 aB),(30,{cls:=.type "code",data:=.fields (aRR [.str "<module>" 277,.str "<module>" 278,.str "/claim/cut.py" 279,.int 1 0,.int 0 0,.int 0 0,.int 0 0,.int 0 0,.ref 28,.bool aj,.int 276 0,.ref 29,.none,.none,.none,.none,.int 280 0,.int 1 0,.str "/claim/cut.py" 281])}),(37,fz "_wall" 282 "_wall" 283 284 2 1 3 32 276 33 34 35 36 286 2 287),(38,fy "_wall" .none "__main__" 164 37 (dw 1)),(167,fz "__bool__" 656 "TopologicalSorter.__bool__" 657 658 170 1 3 162 276 163 164 165 166 660 170 661),(168,fy "TopologicalSorter.__bool__" .none "cpy313.graphlib" 527 167 (lp 16 6)),(188,fz "static_order" 690 "TopologicalSorter.static_order" 691 692 225 1 3 183 276 184 185 186 187 694 225 695),(189,fy "TopologicalSorter.static_order" .none "cpy313.graphlib" 527 188 (lp 16 9))]++[33,45,57,64,71,198,205,210,215,220,225,230,235,240,247,254,259].map (·,nO (aRR []))
noncomputable def w4 (bp:fd)(n aE:Nat)(an:a3)(aT:List (Nat×T)):fl:=(HO bp.params aE an::(29,{cls:=.none,data:=.fields #[((2,37)::(7,49)::aT).flatMap λae=>[.int ae.1 0,.int 0 0,.ref ae.2]]})::A9 bp.params++(pT bp.params).drop 1).filter (Nat.blt ·.1 n)
noncomputable def Ba (aQ:Nat->dF)(n s:Nat):Nat->Nat->BT:=tB (λa a=>.nil) (λa r ac b=>cond (Nat.blt b n) (.node (aQ b) (r (2*ac)<|ac+b)<|r (2*ac)<|2*ac+b) .nil) s
noncomputable def rC (X:fl)(o:nN)(n aT:Nat):SharedT:=#[Ba (λL=>(X.lookup L).getD<|(o.bind λr=>r.2.1.heap.objs.toList[L]?).getD default) n 9 1 0,n,{},(aRR []),{},aT,{}]
noncomputable def w5 (cJ:aM)(ac:Array dF):aM:=#[#[ac,cJ.heap.life],cJ.gens,cJ.drawn,cJ.toks,cJ.os]
noncomputable def w6 (bu:A7)(ac:Array dF):nN:=O (bu.1,w5 bu.2.1 ac,bu.2.2)
abbrev rD (X:fl)(o:nN)(ai:di)(n aT:Nat):Prop:=o.map (λr=>((r.1,w5 r.2.1 (aRR []),r.2.2),r.2.1.heap.objs.toList.length,X.map (r.2.1.heap.objs.toList[·.1]?),λaQ=>(absHeap (Ba aQ n 9 1 0) n {}).objs))=O ((.next,#[{},(aRR []),{},aT,{}],mO,ai),n,X.map (O ·.2),λaQ=>((h7 n).map aQ).toArray)
def tC {d:Prop}(a:Bb m o=O n)(e:∀b,o=O b->m b=n->d):d:=(f2.mp a).elim λb a=>e b a.1 a.2
def HP (a:List dF):(h7 a.length).map (λb=>a[b]?.getD default)=a:=by
 induction a with
 |nil=>rfl|cons d a e=>show(congrArg (tD _) List.range_succ_eq_map).trans (congrArg (d::·)<|(d2 ..).trans e)
def HQ (b:Nat->Option dF)(X:fl):X.map (b ·.1)=X.map (O ·.2)->∀a,(X.lookup a).getD ((b a).getD default)=(b a).getD default:=by
 induction X with
 |nil=>show λb b=>rfl|cons d X f=>
  intro b a;have e:=oP b;show(?_:(match a==d.1 with|true=>O d.2|false=>X.lookup a).getD _=_);cases q:a==d.1 with
  |false=>show f e.2 a|true=>
   obtain rfl:=eq_of_beq q;show(congrArg (λo=>Option.getD o default) e.1).symm
def tE (d:rD X o m n w):o=O (.next,(rC X o n w).abs,mO,m):=by
 show tC d λr b a=>?_;subst b;show(?_:w6 (r.1,w5 r.2.1 (aRR []),r.2.2) r.2.1.heap.objs=w6 (.next,#[{},(aRR []),{},w,{}],mO,m) _);show congr (congrArg w6<|congrArg Bc a) ((congrArg tF<|HP r.2.1.heap.objs.toList).symm.trans ((congr (congrArg (λd e=>((h7 d).map e).toArray) (congrArg (·.2.1) a)) (funext λb=>(HQ (r.2.1.heap.objs.toList[·]?) X (congrArg (·.2.2.1) a) b).symm)).trans (congrFun (congrArg (·.2.2.2) a) _).symm))
noncomputable abbrev tG (bp:fd)(n:Nat)(aa:SharedT)(b:List cl)(ai:di):nN:=(segRunT mP gY bp 28 pV 1 n aa<|piecesOf b tA mO ai [w3 default]).map λr=>(r.1,r.2.1.abs,r.2.2)
noncomputable abbrev Bd (bp:fd):fl:=w4 bp 51 12 (.str "re" 338) []
noncomputable def Be (bp:fd):nN:=tG bp 1300 (rC (Bd bp) (A8 bp) 51 340) [dw 6] #[11,0,11,8]
noncomputable abbrev Bf (bp:fd):fl:=w4 bp 56 13 (.str "re" 338) []
noncomputable def Bg (bp:fd):nN:=tG bp 500 (rC (Bf bp) (Be bp) 56 486) A5 #[12,0,12,18]
noncomputable abbrev Bh (bp:fd):fl:=w4 bp 101 19 (.str "cpy313.graphlib" 527) [(13,61),(20,68),(82,75),(112,82)]
noncomputable def Bi (bp:fd):nN:=tG bp 3860 (rC (Bh bp) (Bg bp) 101 572) A6 #[112,0,118,28]
noncomputable abbrev Bj (bp:fd):fl:=A9 bp.params++pT bp.params
noncomputable def pW (bp:fd):aM:=(rC (Bj bp) (Bi bp) 263 793).abs
noncomputable abbrev tH (bp:fd)(ac b:Bool):fd:=(bp.withFollow "comprehension-iter-twice" ac).withFollow "special-get-raises" b
abbrev nP (bp:fd):Prop:=rD (Bf bp) (Be bp) #[12,0,12,18] 56 486
noncomputable abbrev w7 (bp:fd)(ae aa:aM):Option aM:=cond (staticsOk (importedModules gY.main.body) ae.heap aa.heap&&namesBound gY aa.heap&&gensDone aa&&laidKept ae.heap aa.heap) (O aa) c
def HR b:(fencedOpening mP gY b 5876).map (λa=>((a.heap.isNs hQ&&a.gens.size==0,a.heap.objs.size,a.heap.nsMap hQ "__annotations__"),(w2 b a).map Prod.snd,w7 b a (pW b)))=O ((z,28,pV),O #[denote mP mO,mO,default,[w3 default]],O (pW b)):=by room
def HS b:rD (Bd b) (A8 b) #[11,0,11,8] 51 340:=by room
def HT b:nP (tH b aj aj):=by room
def HU b:nP (tH b aj z):=by room
def HV b:nP (tH b z aj):=by room
def HW b:nP (tH b z z):=by room
def HX b:rD (Bh b) (Bg b) #[112,0,118,28] 101 572:=by room
def HY b:rD (Bj b) (Bi b) #[298,0,318,49] 263 793:=by room
def HZ b:(openSeen mM oN (importedModules gY.main.body) w0 z<|pW b,lZ.obs (pW b))=(openGood mM oN,lZ.val b):=by room
def H0 b:nP b:=
 byRow2 "special-get-raises" (P:=nP) (byRow2 "comprehension-iter-twice" (P:=λb=>nP<|b.withFollow "special-get-raises" aj) HT HV) (byRow2 "comprehension-iter-twice" (P:=λb=>nP<|b.withFollow "special-get-raises" z) HU HW) b
abbrev w8 (bp:fd)(bL:Nat)(aa:aM)(b:List cl)(ai:di)(r:aM):Prop:=topRun mP gY bp 28 pV bL aa (PySem.W.restOf b tA mO ai [w3 default])=O r
def w9 (a:tG m n o b w=O (.next,x,mO,B))(d:w8 m M x S4 B r):w8 m (n+M) (SharedT.abs o) (b++S4) w r:=
 tC a λr e f=>piece_app ((segRun_of e).trans<|congrArg O f) d
def H1 m b:w8 m 3 b [] #[298,0,318,49] b:=by room
def H2:LeftO gY mM oN w0 lZ.obs lZ.val 5876:=λa=>by
 show .trans (b:=Bb _<|O<|pW a) (congrArg (Bb _) ?_)<|congrArg O<|HZ a;show tC (HR a) λd g e=>tC (congrArg (·.2.1) e) λi h j=>(congrArg (λo=>xa o<|topFrom mP gY a 5876) g).trans ?_;show(congrArg (λf:Bool×Nat×Option a3=>cond f.1 ((topRun mP gY a f.2.1 f.2.2 5876 d<|topStub gY).bind<|w7 a d) c)<|congrArg Bc e).trans ((congrArg (λo=>xa o<|w7 a d) (go_top (h.trans<|congrArg (λf=>O (i.1,f)) j) (piece_block (n:=1) (by room)<|piece_app ((congrArg (λo=>xa o _)<|(congrArg (λo=>xa o<|w2 a) g).trans h).symm.trans<|tE<|HS a)<|w9 (tE<|H0 a)<|w9 (tE<|HX a)<|w9 (tE<|HY a)<|H1 a<|pW a):topRun mP gY a 28 pV 5876 d (topStub gY)=_)).trans (congrArg (·.2.2) e))
noncomputable def Bk:DefRec:=((defOf mM "law").map (·.1)).getD #["",{posonlyargs:=[],args:=[],vararg:=c,kwonlyargs:=[],kw_defaults:=[],kwarg:=c,defaults:=[]},[],gY.main.scope,default]
def H3 (walk:WalkO mM oN (XL mM []) lZ.says pU.row.toRowW Bk [] λa b=>PySem.call a b):pU.Holds:=
 holds_law oO λd=>by
  show holds_open (q:=mM) (loose:=oN) (Xt:=w0) (XP:=XL mM []) (Yf:=lZ.obs) (Ya:=lZ.val) (YP:=lZ.says) (N:=5876) H2 lZ.of lZ.keeps (λb a=>xl_of b (xb.mp a).1) XL.keeps (by room) (by room) (by room) (λb a=>recFacts_of (xb.mp a).2) (by rfl) d (by room) #[V,V,V,V,V,by decide+kernel] ?hw walk
  w_witness2
def a4 {d:Type _}{a b:d}{e:List d}(f:a∈b::e):b=a\/a∈e:=(d1 f).imp Eq.symm id
def bB {a:Prop}(d:∀b:Prop,(a->b)->b):a:=d a id
def eM {d:Type _}{a b:d}(e:a≠b):a∉[b]:=λa=>e<|bW a
def h8 {a:Type _}{d:a}{e:List a}(f:d∈e):∀b∈[d],b∈e:=λd a=>bW a▸f
def l0 {a:Type _}{b d:a}{e:List a}:b∈d::b::e:=.tail _<| .head _
def i6 {a:Type _}{b d e:a}{f:List a}:b∈d::e::b::f:=.tail _ l0
def tI {a:Type _}{b d e f:a}{g:List a}:b∈d::e::f::b::g:=.tail _ i6
def b5 {a:Type _}{b:Option a}{d:a}{e:Prop}(f:b=c)(g:b=O d):e:=(nomatch f.symm.trans g)
def jz {d:Type _}{a b:Option d}(e:∀o,a=O o->b=O o)(f:b=c):a=c:=by
 cases a with
 |none=>rfl|some o=>show b5 f<|e o V
def k {a:Prop}[d:Decidable a](b:decide a=z):a:=of_decide_eq_true b
def H:z=z:=rfl
def e:aj=aj:=rfl
def b0 {a b d:Nat}(e:a<=b:=by assumption)(f:oQ b d=z:=by show Mine.H):a<=d:=a5 e<|fT f
def gu {a b d:Nat}(e:a<=b:=by assumption)(f:Nat.blt b d=z:=by show Mine.H):a<d:=tJ e<|fT f
inductive ei
 |iP (L:Nat)|n (s:Nat)|y (ag r:ei)|cS (s:Nat) (I:ei)|w (I:ei) (s:Nat)
noncomputable def tK (q:bP)(L:Nat):Nat:=ix (λa=>0) (λae a b L=>tB ae (λcC a=>b cC) L) q L
noncomputable def ei.den (q:bP)(I:ei):Nat:=ei.rec (λL=>tK q L) (λs=>s) (λa a ae bu=>ae+bu) (λs a ae=>s*ae) (λa s ae=>ae*s) I
noncomputable def tL (ai a:bP):bP:=ix (λa=>a) (λae ai b a=>ix (ae::ai) (λbu a d=>(ae+bu)::b a) a) ai a
noncomputable def gZ (ai q:bP):Nat:=ix (λa=>0) (λae a b q=>ix 0 (λbu q a=>ae*bu+b q) q) ai q
noncomputable def pX (ai a:bP):Bool:=ix (λb=>z) (λae b d a=>ix (oQ ae 0&&d []) (λbu a b=>oQ ae bu&&d a) a) ai a
noncomputable def tM (L:Nat):bP:=tB [1] (λb a=>0::a) L
noncomputable def ei.fm (I:ei):bP:=ei.rec (λL=>0::tM L) (λs=>[s]) (λa a ae bu=>tL ae bu) (λs a ae=>ae.map (s*·)) (λa s ae=>ae.map (s*·)) I
def H4 (d:bP):∀b a,gZ (tL d b) a=gZ d a+gZ b a:=by
 induction d with
 |nil=>intro b a;show(rE _).symm|cons f d h=>
  intro b a;cases b with
  |nil=>rfl|cons g b=>cases a with
   |nil=>rfl|cons e a=>
    show(?_:(f+g)*e+gZ (tL d b) a=(f*e+gZ d a)+(g*e+gZ b a));rw[h,Nat.add_mul,Nat.add_add_add_comm]
def Bl (d:Nat)(b:bP):∀a,gZ (b.map (d*·)) a=d*gZ b a:=by
 induction b with
 |nil=>intro a;rfl|cons e b g=>intro a;cases a with
  |nil=>rfl|cons f a=>
   show(?_:d*e*f+gZ (b.map (d*·)) a=d*(e*f+gZ b a));rw[g,Nat.mul_add,Nat.mul_assoc]
def H5 (b:Nat):∀a,gZ (tM b) a=tK a b:=by
 induction b with
 |zero=>intro a;cases a with
  |nil=>rfl|cons d a=>show(nQ _).trans<|Nat.one_mul d
 |succ b e=>intro a;cases a with
  |nil=>rfl|cons d a=>
   show(?_:0*d+gZ (tM b) a=tK a b);rw[Bm,rE,e]
def ei.pY (a:bP)(b:ei):b.den a=gZ b.fm (1::a):=by
 induction b with
 |iP f=>
  show(?_:tK a f=0*1+gZ (tM f) a);rw[H5,Bm,rE]
 |n d=>show(Nat.mul_one d).symm|y g r h i=>
  show(?_:g.den a+r.den a=gZ (tL g.fm r.fm) (1::a));rw[H4,h,i]
 |cS d b e=>
  show(?_:d*b.den a=gZ (b.fm.map (d*·)) (1::a));rw[Bl,e]
 |w b d e=>
  show(?_:b.den a*d=gZ (b.fm.map (d*·)) (1::a));rw[Bl,e,Nat.mul_comm]
def H6 (b:bP):pX b []=z->∀a,gZ b a<=0:=by
 induction b with
 |nil=>intro _ a;show cg _|cons d b e=>intro f a;cases a with
  |nil=>show cg _|cons g a=>
   have h':(oQ d 0&&pX b [])=z:=f;rw[i7]at h';have f:=Nat.le_zero.mp<|fT h'.1;show(?_:d*g+gZ b a<=0);rw[f,Bm,rE];show e h'.2 a
def Bn (d:bP):∀a,pX d a=z->∀b,gZ d b<=gZ a b:=by
 induction d with
 |nil=>intro a _ b;show ew _|cons e d g=>intro a f b;cases a with
  |nil=>show a5 (H6 (e::d) f b)<|ew _
  |cons h a=>cases b with
   |nil=>show cg _|cons i b=>
    have h':(oQ e h&&pX d a)=z:=f;rw[i7]at h';show xc (xd i<|fT h'.1)<|g a h'.2 b
structure hu where
 k:Nat
 l1:ei
 l2:ei
noncomputable abbrev G:ei:=.iP 0
noncomputable abbrev N:ei:=.iP 1
noncomputable abbrev t:ei:=.iP 2
noncomputable abbrev aU:ei:=.iP 3
noncomputable abbrev dx:ei:=.iP 4
noncomputable abbrev g0:ei:=.iP 5
noncomputable abbrev kG:ei:=.iP 6
noncomputable abbrev tN:ei:=.iP 7
noncomputable abbrev Bo:ei:=.iP 8
noncomputable abbrev Bp:ei:=.iP 9
noncomputable abbrev ei.Q (ac:ei):ei:=.y ac<| .n 1
noncomputable abbrev hu.C (ac b:ei):hu:=#[1,ac,b]
noncomputable abbrev hu.aK (ac b:ei):hu:=#[1,.y ac<| .n 1,b]
def pZ (q:bP)(a:List hu)(aB:Prop):Prop:=ix aB (λal d b=>al.l1.den q<=al.l2.den q->b) a
noncomputable def l3 (aQ:hu->ei)(a:List hu):ei:=ix (.n 0) (λal d b=>.y (.cS al.k<|aQ al) b) a
def pZ.of {b:bP}{d:Prop}(a:List hu):((l3 hu.l1 a).den b<=(l3 hu.l2 a).den b->d)->pZ b a d:=by
 induction a generalizing d with
 |nil=>show λe=>e<|cg _
 |cons e a f=>show λa b=>f λd=>a<|xc (Nat.mul_le_mul_left e.k b) d
def lq (a:bP)(b:List hu)(d:Nat)(f r:ei)(g:pX (ei.fm<| .y (.cS (d+1) f)<|l3 hu.l2 b) (ei.fm<| .y (.cS (d+1) r)<|l3 hu.l1 b)=z):pZ a b (f.den a<=r.den a):=pZ.of b λh=>by
 have e:=Bn _ _ g<|1::a;rw[<-ei.pY,<-ei.pY]at e;have e:(d+1)*f.den a+(l3 hu.l2 b).den a<=(d+1)*r.den a+(l3 hu.l1 b).den a:=e;show Nat.le_of_mul_le_mul_left (Nat.le_of_add_le_add_right<|a5 e<|p0 h _)<|oR d
def xe (b:bP)(a:List hu)(e:pX (ei.fm<| .y (.n 1)<|l3 hu.l2 a) (l3 hu.l1 a).fm=z):pZ b a False:=pZ.of a λf=>by
 have d:=Bn _ _ e<|1::b;rw[<-ei.pY,<-ei.pY]at d;have d:1+(l3 hu.l2 a).den b<=(l3 hu.l1 a).den b:=d;show mQ _<|nR (nR (nR (fA _)<|ay<|Bq _ 1) d) f
def dK {ac:Nat}:=@lq [ac]
def b9 {ac b:Nat}:=@lq [ac,b]
def bb {ac b q:Nat}:=@lq [ac,b,q]
def c5 {ac b q af:Nat}:=@lq [ac,b,q,af]
def jA {ac b q af I:Nat}:=@lq [ac,b,q,af,I]
def p1 {ac b q af I aQ:Nat}:=@lq [ac,b,q,af,I,aQ]
def tO {ac b q af I aQ bt:Nat}:=@lq [ac,b,q,af,I,aQ,bt]
def oS {ac:Nat}:=@xe [ac]
def p2 {ac b:Nat}:=@xe [ac,b]
def xf {ac b q:Nat}:=@xe [ac,b,q]
def gh {d:Type _}{a b:d}{f:List d}{e:d->Prop}(g:a∈b::f)(h:e b)(i:a∈f->e a):e a:=(d1 g).elim (λa=>a▸h) i
def g1 {e a:Type _}{f:e->a}{g:List e}{b:a}{h:a->Prop}(i:b∈g.map f)(j:∀d∈g,h (f d)):h b:=by
 obtain⟨d,k,rfl⟩:=ck i;show j d k
def cK {d:Type _}{a:d}{e f:List d}{b:Prop}(g:a∈e++f)(h:a∈e->b)(i:a∈f->b):b:=(jy g).elim h i
def kH {a:Type _}{d b:a}{e:a->Prop}(f:d∈[b])(g:e b):e d:=bW f▸g
@[elab_as_elim] def aI {α:Sort _}{a b:α}{P:α->Prop}(h:a=b)(k:P b):P a:=h▸k
@[elab_as_elim] def ch {α:Sort _}{a b:α}{P:α->Prop}(h:b=a)(k:P b):P a:=h▸k
inductive e4
 |iP (L:Nat)|n (s:Int)|y (ag r:e4)|cS (s:Int) (I:e4)|c6 (ag r:e4)|w (I:e4) (s:Int)
noncomputable def tP (q:h)(L:Nat):Int:=ix (λa=>0) (λae a b L=>tB ae (λcC a=>b cC) L) q L
noncomputable def e4.den (q:h)(I:e4):Int:=e4.rec (λL=>tP q L) (λs=>s) (λa a ae bu=>ae+bu) (λs a ae=>s*ae) (λa a ae bu=>ae - bu) (λa s ae=>ae*s) I
noncomputable def p3 (ai a:h):h:=ix (λa=>a) (λae ai b a=>ix (ae::ai) (λbu a d=>(ae+bu)::b a) a) ai a
noncomputable def g2 (ai q:h):Int:=ix (λa=>0) (λae a b q=>ix 0 (λbu q a=>ae*bu+b q) q) ai q
noncomputable def tQ (L:Nat):h:=tB [1] (λb a=>0::a) L
noncomputable def e4.fm (I:e4):h:=e4.rec (λL=>0::tQ L) (λs=>[s]) (λa a ae bu=>p3 ae bu) (λs a ae=>ae.map (s*·)) (λa a ae bu=>p3 ae (bu.map (-1*·))) (λa s ae=>ae.map (s*·)) I
noncomputable def tR (ai:h):Bool:=ix z (λae b a=>decide (ae=0)&&a) ai
noncomputable def xg (ai:h):Bool:=ix z (λae ai a=>decide (0<=ae)&&tR ai) ai
def Br (d:h):∀b a,g2 (p3 d b) a=g2 d a+g2 b a:=by
 induction d with
 |nil=>intro b a;show(Bs _).symm|cons g d i=>
  intro b a;cases b with
  |nil=>show(rF _).symm|cons f b=>cases a with
   |nil=>rfl|cons e a=>
    show(?_:(g+f)*e+g2 (p3 d b) a=(g*e+g2 d a)+(f*e+g2 b a));rw[i,Int.add_mul,Bt,Bt,Int.add_left_comm<|f*e]
def xh (b:Int)(d:h):∀a,g2 (d.map (b*·)) a=b*g2 d a:=by
 induction d with
 |nil=>intro a;show(Int.mul_zero b).symm|cons e d g=>intro a;cases a with
  |nil=>show(Int.mul_zero b).symm|cons f a=>
   show(?_:b*e*f+g2 (d.map (b*·)) a=b*(e*f+g2 d a));rw[g,Int.mul_add,Int.mul_assoc]
def H7 (b:Nat):∀a,g2 (tQ b) a=tP a b:=by
 induction b with
 |zero=>intro a;cases a with
  |nil=>rfl|cons d a=>show(rF _).trans<|Int.one_mul d
 |succ b e=>intro a;cases a with
  |nil=>rfl|cons d a=>
   show(?_:0*d+g2 (tQ b) a=tP a b);rw[Bu,Bs,e]
def e4.pY (a:h)(b:e4):b.den a=g2 b.fm (1::a):=by
 induction b with
 |iP j=>
  show(?_:tP a j=0*1+g2 (tQ j) a);rw[H7,Bu,Bs]
 |n d=>show((rF _).trans<|Int.mul_one d).symm
 |y e r f g=>
  show(?_:e.den a+r.den a=g2 (p3 e.fm r.fm) (1::a));rw[Br,f,g]
 |cS d b i=>
  show(?_:d*b.den a=g2 (b.fm.map (d*·)) (1::a));rw[xh,i]
 |c6 e r f g=>
  show(?_:e.den a - r.den a=g2 (p3 e.fm (r.fm.map (-1*·))) (1::a));rw[Br,xh,f,g,H8,Int.sub_eq_add_neg]
 |w b d i=>
  show(?_:b.den a*d=g2 (b.fm.map (d*·)) (1::a));rw[xh,i,Int.mul_comm]
def H9 (a:h):tR a=z->∀b,g2 a b=0:=by
 induction a with
 |nil=>intro _ b;rfl|cons d a e=>intro f b;cases b with
  |nil=>rfl|cons g b=>
   have h':(decide (d=0)&&tR a)=z:=f;rw[i7]at h';show(?_:d*g+g2 a b=0);rw[e h'.2,k h'.1,Bu,rF]
def e4.pos {d:h}{a:e4}(e:xg a.fm=z):0<=a.den d:=by
 rw[e4.pY];cases q:a.fm with
 |nil=>show tS 0|cons f b=>
  rw[q]at e;have h':(decide (0<=f)&&tR b)=z:=e;rw[i7]at h';show(?_:0<=f*1+g2 b d);rw[H9 b h'.2,rF,Int.mul_one];show k h'.1
structure mR where
 k:Nat
 l1:e4
 l2:e4
noncomputable abbrev f:e4:=.iP 0
noncomputable abbrev aA:e4:=.iP 1
noncomputable abbrev d7:e4:=.iP 2
noncomputable abbrev e4.Q (ac:e4):e4:=.y ac<| .n 1
noncomputable abbrev mR.C (ac b:e4):mR:=#[1,ac,b]
noncomputable abbrev mR.aK (ac b:e4):mR:=#[1,.y ac<| .n 1,b]
def p4 (q:h)(a:List mR)(aB:Prop):Prop:=ix aB (λal d b=>al.l1.den q<=al.l2.den q->b) a
noncomputable def rG (a:List mR):e4:=ix (.n 0) (λal d b=>.y (.cS al.k<| .y al.l2<| .cS (-1) al.l1) b) a
def p4.of {b:h}{e:Prop}(d:List mR):(0<=(rG d).den b->e)->p4 b d e:=by
 induction d generalizing e with
 |nil=>show λa=>a<|tS 0
 |cons a d f=>show λd e=>f λg=>d (Int.add_nonneg (Int.mul_nonneg (f3 a.k) (by
  show(?_:0<=a.l2.den b+ -1*a.l1.den b);rw[H8];show Int.sub_nonneg_of_le e)) g)
def bh (a:h)(d:List mR)(b:Nat)(e r:e4)(f:xg (e4.fm<| .y (.y (.cS (b+1:Nat)<| .y r<| .cS (-1) e)<| .n b)<| .cS (-1)<|rG d)=z):p4 a d (e.den a<=r.den a):=p4.of d λg=>by
 have g:0<=((b+1:Nat):Int)*(r.den a+ -1*e.den a)+(b:Int)+ -1*(rG d).den a:=e4.pos f;show oT.mp λd=>?_;have d:r.den a+ -1*e.den a<= -1:=by omega
 have:=Int.mul_le_mul_of_nonneg_left d<|f3<|b+1;omega
def kI (b:h)(a:List mR)(d:xg (e4.fm<| .y (.n<| -1)<| .cS (-1)<|rG a)=z):p4 b a False:=p4.of a λe=>by
 have e:0<=(-1:Int)+ -1*(rG a).den b:=e4.pos d;omega
def dG {a b d:Nat}(e:a<=b)(f:oQ b d=z):a<=d:=a5 e<|fT f
def p5 {d b e a:Nat}(f:d<=b)(g:oQ (b+a) e=z):d+a<=e:=a5 (Bv f a)<|fT g
def jB {b:Nat->Prop}{n:Nat}(d:b 0)(e:∀a,a<n->b (a+1)):∀a,a<n+1->b a:=λa=>Nat.casesOn (motive:=λa=>a<n+1->b a) a (λf=>d) λa b=>e a<|lr b
def xi {b:Nat->Prop}:∀a,a<0->b a:=λa b=>absurd b<|rH a
def Bw {gC:Nat->Prop}(d:gC 0)(b:gC 1)(e:gC 2)(f:gC 3)(g:gC 4):∀a,a<5->gC a:=jB d<|jB b<|jB e<|jB f<|jB g xi
def tT {a:Nat->Prop}(e:a 0)(b:a 1)(f:a 2)(g:a 3)(h:a 4)(i:a 5)(j:a 6)(k:a 7):∀d,d<8->a d:=jB e<|jB b<|jB f<|Bw (gC:=λd=>a<|d+3) g h i j k
section
variable {aF:Prop}
@[elab_as_elim] def bw {F1:b}{v1:b}{M:b->Prop}(h:v1=F1)(k:M F1):M v1:=h▸k
@[elab_as_elim] def ci {F1:b}{p:Prop}{v1:b}{M:b->Prop}(h:v1=F1/\p)(k:p->M F1):M v1:=by obtain⟨rfl,h0⟩:=h;show k h0
@[elab_as_elim] def j4 {F1:b}{F2:m}{v1:b}{v2:m}{M:b->m->Prop}(h:v1=F1/\v2=F2)(k:M F1 F2):M v1 v2:=by obtain⟨rfl,rfl⟩:=h;show k
@[elab_as_elim] def kJ {F1:b}{p:Prop}{v1:b}{M:b->Prop}(h:p/\v1=F1)(k:p->M F1):M v1:=by obtain⟨h0,rfl⟩:=h;show k h0
@[elab_as_elim] def eN {F1:b}{p q:Prop}{v1:b}{M:b->Prop}(h:v1=F1/\p/\q)(k:p->q->M F1):M v1:=by obtain⟨rfl,h0,a⟩:=h;show k h0 a
@[elab_as_elim] def rI {F1:b}{F2:m}{p:Prop}{v1:b}{v2:m}{M:b->m->Prop}(h:v1=F1/\v2=F2/\p)(k:p->M F1 F2):M v1 v2:=by obtain⟨rfl,rfl,h0⟩:=h;show k h0
@[elab_as_elim] def tU {F1:b}{F2:m}{F3:n}{v1:b}{v2:m}{v3:n}{M:b->m->n->Prop}(h:v1=F1/\v2=F2/\v3=F3)(k:M F1 F2 F3):M v1 v2 v3:=by obtain⟨rfl,rfl,rfl⟩:=h;show k
@[elab_as_elim] def Bx {F1:b}{p q:Prop}{v1:b}{M:b->Prop}(h:p/\v1=F1/\q)(k:p->q->M F1):M v1:=by obtain⟨h0,rfl,a⟩:=h;show k h0 a
@[elab_as_elim] def Ia {F1:b}{F2:m}{p:Prop}{v1:b}{v2:m}{M:b->m->Prop}(h:p/\v1=F1/\v2=F2)(k:p->M F1 F2):M v1 v2:=by obtain⟨h0,rfl,rfl⟩:=h;show k h0
@[elab_as_elim] def xj {F1:b}{p q r:Prop}{v1:b}{M:b->Prop}(h:v1=F1/\p/\q/\r)(k:p->q->r->M F1):M v1:=by obtain⟨rfl,h0,a,d⟩:=h;show k h0 a d
@[elab_as_elim] def By {F1:b}{p q r s:Prop}{v1:b}{M:b->Prop}(h:v1=F1/\p/\q/\r/\s)(k:p->q->r->s->M F1):M v1:=by obtain⟨rfl,h0,a,d,e⟩:=h;show k h0 a d e
@[elab_as_elim] def xk {F1:b}{F2:m}{F3:n}{p q:Prop}{v1:b}{v2:m}{v3:n}{M:b->m->n->Prop}(h:p/\q/\v1=F1/\v2=F2/\v3=F3)(k:p->q->M F1 F2 F3):M v1 v2 v3:=by obtain⟨h0,a,rfl,rfl,rfl⟩:=h;show k h0 a
@[elab_as_elim] def Ib {F1:b}{F2:m}{F3:n}{p q r:Prop}{v1:b}{v2:m}{v3:n}{M:b->m->n->Prop}(h:p/\q/\v1=F1/\v2=F2/\v3=F3/\r)(k:p->q->r->M F1 F2 F3):M v1 v2 v3:=by obtain⟨h0,a,rfl,rfl,rfl,d⟩:=h;show k h0 a d
def Bz {a:Prop}(b:a)(d:a->aF):aF:=d b
def am {b d:Prop}(a:b/\d)(e:b->d->aF):aF:=a.elim λb a=>Bz a<|e b
def cd {b d r:Prop}(a:b/\d/\r)(e:b->d->r->aF):aF:=a.elim λb a=>am a<|e b
def iQ {b d r e:Prop}(a:b/\d/\r/\e)(f:b->d->r->e->aF):aF:=a.elim λb a=>cd a<|f b
def oU {b d r e f:Prop}(a:b/\d/\r/\e/\f)(g:b->d->r->e->f->aF):aF:=a.elim λb a=>iQ a<|g b
def xl {b d r e f g:Prop}(a:b/\d/\r/\e/\f/\g)(h:b->d->r->e->f->g->aF):aF:=a.elim λb a=>oU a<|h b
def tV {b d r e f g h:Prop}(a:b/\d/\r/\e/\f/\g/\h)(i:b->d->r->e->f->g->h->aF):aF:=a.elim λb a=>xl a<|i b
def v {d:m->Prop}(b:∃a,d a)(e:∀a,d a->aF):aF:=b.elim λa b=>Bz b<|e a
def cm {e:m->n->Prop}(d:∃a b,e a b)(f:∀a b,e a b->aF):aF:=d.elim λa d=>v d<|f a
def kK {f:m->n->o->Prop}(d:∃a b e,f a b e)(g:∀a b e,f a b e->aF):aF:=d.elim λa d=>cm d<|g a
def j5 {g:m->n->o->r->Prop}(d:∃a b e f,g a b e f)(h:∀a b e f,g a b e f->aF):aF:=d.elim λa d=>kK d<|h a
def hx {h:m->n->o->r->w->Prop}(d:∃a b e f g,h a b e f g)(i:∀a b e f g,h a b e f g->aF):aF:=d.elim λa d=>j5 d<|i a
def aX {d e:m->Prop}(b:∃a,d a/\e a)(f:∀a,d a->e a->aF):aF:=b.elim λa b=>am b<|f a
def gi {e f:m->n->Prop}(d:∃a b,e a b/\f a b)(g:∀a b,e a b->f a b->aF):aF:=d.elim λa d=>aX d<|g a
def eW {f g:m->n->o->Prop}(e:∃a b d,f a b d/\g a b d)(h:∀a b d,f a b d->g a b d->aF):aF:=e.elim λa e=>gi e<|h a
def BA {f g:m->n->o->r->Prop}(h:∃a b d e,f a b d e/\g a b d e)(i:∀a b d e,f a b d e->g a b d e->aF):aF:=by obtain⟨a,b,d,e,h0,j⟩:=h;show i a b d e h0 j
def g3 {d e r:m->Prop}(b:∃a,d a/\e a/\r a)(f:∀a,d a->e a->r a->aF):aF:=b.elim λa b=>cd b<|f a
def f4 {e f r:m->n->Prop}(d:∃a b,e a b/\f a b/\r a b)(g:∀a b,e a b->f a b->r a b->aF):aF:=d.elim λa d=>g3 d<|g a
def l4 {f g r:m->n->o->Prop}(e:∃a b d,f a b d/\g a b d/\r a b d)(h:∀a b d,f a b d->g a b d->r a b d->aF):aF:=e.elim λa e=>f4 e<|h a
def oV {f g r:m->n->o->w->Prop}(h:∃a b d e,f a b d e/\g a b d e/\r a b d e)(i:∀a b d e,f a b d e->g a b d e->r a b d e->aF):aF:=by obtain⟨a,b,d,e,h0,j,k⟩:=h;show i a b d e h0 j k
def gj {d e r f:m->Prop}(b:∃a,d a/\e a/\r a/\f a)(g:∀a,d a->e a->r a->f a->aF):aF:=b.elim λa b=>iQ b<|g a
def l5 {e f r g:m->n->Prop}(d:∃a b,e a b/\f a b/\r a b/\g a b)(h:∀a b,e a b->f a b->r a b->g a b->aF):aF:=d.elim λa d=>gj d<|h a
def BB {f g r h:m->n->o->Prop}(e:∃a b d,f a b d/\g a b d/\r a b d/\h a b d)(i:∀a b d,f a b d->g a b d->r a b d->h a b d->aF):aF:=e.elim λa e=>l5 e<|i a
def xm {f g r h:n->o->w->x->Prop}(i:∃a b d e,f a b d e/\g a b d e/\r a b d e/\h a b d e)(j:∀a b d e,f a b d e->g a b d e->r a b d e->h a b d e->aF):aF:=by obtain⟨a,b,d,e,h0,k,l,m⟩:=i;show j a b d e h0 k l m
def Ic {d e r f g:m->Prop}(b:∃a,d a/\e a/\r a/\f a/\g a)(h:∀a,d a->e a->r a->f a->g a->aF):aF:=b.elim λa b=>oU b<|h a
def Id {d e r f g h:m->Prop}(b:∃a,d a/\e a/\r a/\f a/\g a/\h a)(i:∀a,d a->e a->r a->f a->g a->h a->aF):aF:=b.elim λa b=>xl b<|i a
def tW {e f r g h i:m->n->Prop}(d:∃a b,e a b/\f a b/\r a b/\g a b/\h a b/\i a b)(j:∀a b,e a b->f a b->r a b->g a b->h a b->i a b->aF):aF:=d.elim λa d=>Id d<|j a
def Ie {d e r f g h i:m->Prop}(b:∃a,d a/\e a/\r a/\f a/\g a/\h a/\i a)(j:∀a,d a->e a->r a->f a->g a->h a->i a->aF):aF:=b.elim λa b=>tV b<|j a
def BC {e f r g h i j:m->n->Prop}(d:∃a b,e a b/\f a b/\r a b/\g a b/\h a b/\i a b/\j a b)(k:∀a b,e a b->f a b->r a b->g a b->h a b->i a b->j a b->aF):aF:=d.elim λa d=>Ie d<|k a
def dm {a:m->Prop}(b)(h0:a b):∃b,a b:=#[b,h0]
def dM {a:n->o->Prop}(m b)(h0:a m b):∃m b,a m b:=#[m,b,h0]
def as {a d:m->Prop}(b)(h0:a b)(e:d b):∃b,a b/\d b:=#[b,h0,e]
def iy {a d:n->o->Prop}(m b)(h0:a m b)(e:d m b):∃m b,a m b/\d m b:=#[m,b,h0,e]
def j6 {a d:o->r->w->Prop}(m b n)(h0:a m b n)(e:d m b n):∃m b n,a m b n/\d m b n:=#[m,b,n,h0,e]
def Ig {a d:r->w->x->B->Prop}(m b n o)(h0:a m b n o)(e:d m b n o):∃m b n o,a m b n o/\d m b n o:=#[m,b,n,o,h0,e]
def cG {a b r:Prop}(h0:a)(d:b)(e:r):a/\b/\r:=#[h0,d,e]
def fo {a d r:m->Prop}(b)(h0:a b)(e:d b)(f:r b):∃b,a b/\d b/\r b:=#[b,h0,e,f]
def f5 {a d r:n->o->Prop}(m b)(h0:a m b)(e:d m b)(f:r m b):∃m b,a m b/\d m b/\r m b:=#[m,b,h0,e,f]
def kL {a d r:o->w->x->Prop}(m b n)(h0:a m b n)(e:d m b n)(f:r m b n):∃m b n,a m b n/\d m b n/\r m b n:=#[m,b,n,h0,e,f]
def BD {a d r:x->B->M->S4->S5->Prop}(m b n o w)(h0:a m b n o w)(e:d m b n o w)(f:r m b n o w):∃m b n o w,a m b n o w/\d m b n o w/\r m b n o w:=#[m,b,n,o,w,h0,e,f]
def l6 {a b r d:Prop}(h0:a)(e:b)(f:r)(g:d):a/\b/\r/\d:=#[h0,e,f,g]
def l7 {a d r e:m->Prop}(b)(h0:a b)(f:d b)(g:r b)(h:e b):∃b,a b/\d b/\r b/\e b:=#[b,h0,f,g,h]
def kM {a d r e:n->o->Prop}(m b)(h0:a m b)(f:d m b)(g:r m b)(h:e m b):∃m b,a m b/\d m b/\r m b/\e m b:=#[m,b,h0,f,g,h]
def BE {a d r e:o->w->x->Prop}(m b n)(h0:a m b n)(f:d m b n)(g:r m b n)(h:e m b n):∃m b n,a m b n/\d m b n/\r m b n/\e m b n:=#[m,b,n,h0,f,g,h]
def xn {a d r e:w->x->B->M->Prop}(m b n o)(h0:a m b n o)(f:d m b n o)(g:r m b n o)(h:e m b n o):∃m b n o,a m b n o/\d m b n o/\r m b n o/\e m b n o:=#[m,b,n,o,h0,f,g,h]
def xo {a d r e f:m->Prop}(b)(h0:a b)(g:d b)(h:r b)(i:e b)(j:f b):∃b,a b/\d b/\r b/\e b/\f b:=#[b,h0,g,h,i,j]
def tX {a d r e f:n->o->Prop}(m b)(h0:a m b)(g:d m b)(h:r m b)(i:e m b)(j:f m b):∃m b,a m b/\d m b/\r m b/\e m b/\f m b:=#[m,b,h0,g,h,i,j]
def BF {a d r e f:o->w->x->Prop}(m b n)(h0:a m b n)(g:d m b n)(h:r m b n)(i:e m b n)(j:f m b n):∃m b n,a m b n/\d m b n/\r m b n/\e m b n/\f m b n:=#[m,b,n,h0,g,h,i,j]
def tY {a d r e f g:n->o->Prop}(m b)(h0:a m b)(h:d m b)(i:r m b)(j:e m b)(k:f m b)(l:g m b):∃m b,a m b/\d m b/\r m b/\e m b/\f m b/\g m b:=#[m,b,h0,h,i,j,k,l]
def BG {a b r d e f g:Prop}(h0:a)(h:b)(i:r)(j:d)(k:e)(l:f)(m:g):a/\b/\r/\d/\e/\f/\g:=#[h0,h,i,j,k,l,m]
def eO {a d r e f g h:w->x->Prop}(m b)(h0:a m b)(i:d m b)(j:r m b)(k:e m b)(l:f m b)(n:g m b)(o:h m b):∃m b,a m b/\d m b/\r m b/\e m b/\f m b/\g m b/\h m b:=#[m,b,h0,i,j,k,l,n,o]
def Ih {a d r e f g h:w->x->B->Prop}(m b n)(h0:a m b n)(i:d m b n)(j:r m b n)(k:e m b n)(l:f m b n)(o:g m b n)(p:h m b n):∃m b n,a m b n/\d m b n/\r m b n/\e m b n/\f m b n/\g m b n/\h m b n:=#[m,b,n,h0,i,j,k,l,o,p]
def Ii {a d r e f g h:w->x->B->M->Prop}(m b n o)(h0:a m b n o)(i:d m b n o)(j:r m b n o)(k:e m b n o)(l:f m b n o)(p:g m b n o)(q:h m b n o):∃m b n o,a m b n o/\d m b n o/\r m b n o/\e m b n o/\f m b n o/\g m b n o/\h m b n o:=#[m,b,n,o,h0,i,j,k,l,p,q]
end
local macro_rules |`(tactic| mspec $t:term)=>`(tactic| refine aI $t ?_)
structure aV where
 prog:i5
 w:fd
 B:aW
noncomputable abbrev aV.M (U:aV):p6:=b2 U.prog U.w
def E (h':aW)(al:aW):Prop:=∀ac o,al.get? ac=O o->h'.get? ac=O o
def E.bd (a:aW):E a a:=λa a b=>b
def E.trans {a h' b:aW}(d:E h' a)(e:E b h'):E b a:=λa o b=>e a o<|d a o b
def ls (a:E m h0)(d:m.get? b=c):h0.get? b=c:=jz (a b) d
def E.push (a:aW)(o:dF):E (a.push o) a:=λa a b=>gk _ b
noncomputable abbrev l (al:aW)(X:aY):aW:=cq al X
def l.keep {a h':aW}(X:aY)(e:E h' a):E (l h' X) (l a X):=λa o b=>by
 by_cases d:a∈X
 .show b5 (cT X d) b
 .show cb X (e a o<|fe X b) d
def l.of:E b (l b X):=λa a b=>fe X b
def l.mS {b h':aW}(e:∀a o,a∉X->b.get? a=O o->h'.get? a=O o):E (l h' X) (l b X):=λa o d=>by
 by_cases b:a∈X
 .show b5 (cT X b) d
 .show cb X (e a o b<|fe X d) b
def l.sub (f:∀a∈X,a∈b):E (l m X) (l m b):=λa o d=>by
 by_cases e:a∈X
 .show b5 (cT b<|f a e) d
 .show cb X (fe b d) e
set_option genCtorIdx true
inductive j where
 |none|bool (b:Bool)|int (L:Int)|str (aa:i)|list (ds:List j)|bQ (ds:List j)|dict (bE:List (Int×j))|bN (bE:List (i×j))|iz (ac b q:Int)|val (an:a3)|aG (o:dF)|ns (bE:List (i×j))|slots (q:T) (ds:List j)|frame (o:dF)|tab (dj:List (di×i))
abbrev xp:=i×j
abbrev be:=List xp
abbrev dn:=List j
set_option genCtorIdx false
mutual
inductive a9 (U:aV)(aF:aW):a3->j->Prop
 |none:a9 U aF .none .none|bool (b):a9 U aF (.bool b) (.bool b)|int (L aT):a9 U aF (.int L aT) (.int L)|str (aa aT):a9 U aF (.str aa aT) (.str aa)|list {ac a1 ds}:aF.PlainList ac a1.toArray->aN U aF a1 ds->a9 U aF (.ref ac) (.list ds)|bQ {ac a1 ds}:IsTup aF ac a1.toArray->aN U aF a1 ds->a9 U aF (.ref ac) (.bQ ds)|dict {ac a bE}:(ac==i8)=aj->aF.DictOf (mT U.prog U.w) ac a->a.map (·.1)=bE.map (·.1)->aN U aF (a.map (·.2)) (bE.map (·.2))->a9 U aF (.ref ac) (.dict bE)|bN {ac a bE}:(ac==i8)=aj->aF.DictOf (strKind U.prog U.w) ac a->a.map (·.1)=bE.map (·.1)->aN U aF (a.map (·.2)) (bE.map (·.2))->a9 U aF (.ref ac) (.bN bE)|iz {r ac b q aT a8 an}:IsRange aF r ac b q aT a8 an->a9 U aF (.ref r) (.iz ac b q)|val (an):a9 U aF an (.val an)
inductive aN (U:aV)(aF:aW):cv->dn->Prop
 |nil:aN U aF [] []|cons {an a1 af ds}:a9 U aF an af->aN U aF a1 ds->aN U aF (an::a1) (af::ds)
end
def aN.l8 {aB:cv->dn->Prop}(nil:aB [] [])(cons:∀{a d b ds},a9 m n a d->aN m n b ds->aB b ds->aB (a::b) (d::ds))(e:aN m n b ds):aB b ds:=
 aN.rec (motive_1:=λa a a=>True) (motive_2:=λb ds a=>aB b ds) trivial (λa=>trivial) (λa a=>trivial) (λa a=>trivial) (λa a a=>trivial) (λa a a=>trivial) (λa a a a a=>trivial) (λa a a a a=>trivial) (λa=>trivial) (λa=>trivial) nil (λb r a d=>cons b r d) e
def a9.keep {a e:aW}(f:E e a)(h:a9 m a b o):a9 m e b o:=
 a9.rec (motive_1:=λb o a=>a9 m e b o) (motive_2:=λg ds a=>aN m e g ds) .none .bool .int .str (λb a d=>.list (b.elim λn e=>#[n,f _ _ e]) d) (λb a d=>.bQ (b.keeps f) d) (λg b e a d=>.dict g (b.keep f) e d) (λg b e a d=>.bN g (b.keep f) e d) (λe=>.iz<|f _ _ e) .val .nil (λa a b r=>.cons b r) h
def aN.keep {a:aV}{b d:aW}(e:E d b)(f:aN a b m ds):aN a d m ds:=f.l8 .nil λa d b=>.cons (a.keep e) b
section
variable {U:aV}{aF:aW}{a1:cv}{ds:dn}
def aN.length (a:aN U aF a1 ds):a1.length=ds.length:=a.l8 (aB:=λa1 ds=>a1.length=ds.length) V λa a b=>congrArg Nat.succ b
def aN.get (d:aN U aF a1 ds):∀{L:Nat}{af:j},ds[L]?=O af->∃a,a1[L]?=O a/\a9 U aF a af:=
 d.l8 (aB:=λa1 ds=>∀{L:Nat}{af:j},ds[L]?=O af->∃a,a1[L]?=O a/\a9 U aF a af) (λb=>nomatch b) λ{a _ _ _} e _ f {L af} b=>by
  cases L with
  |zero=>show as a V<|fU b▸e
  |succ L=>show f b
def aN.append (a:aN U aF a1 ds){m n}(b:aN U aF m n):aN U aF (a1++m) (ds++n):=a.l8 (aB:=λa1 ds=>aN U aF (a1++m)<|ds++n) b λa e d=>.cons a d
def aN.take (a:aN U aF a1 ds):∀n,aN U aF (a1.take n) (ds.take n):=a.l8 (aB:=λa1 ds=>∀n,aN U aF (a1.take n) (ds.take n)) (λn=>by mspec Ij;mspec Ij;show .nil) λb a d n=>by
 cases n with
 |zero=>show .nil|succ n=>show .cons b<|d n
def aN.drop (a:aN U aF a1 ds):∀n,aN U aF (a1.drop n) (ds.drop n):=a.l8 (aB:=λa1 ds=>∀n,aN U aF (a1.drop n) (ds.drop n)) (λn=>by mspec xq;mspec xq;show .nil) λb r d n=>by
 cases n with
 |zero=>show .cons b r|succ n=>show d n
end
noncomputable def aN.iR (U:aV)(aF:aW)(a1:cv):dn->Prop
 |[]=>a1=[]|af::ds=>∃an a,a1=an::a/\a9 U aF an af/\aN U aF a ds
def aN.hy {a:cv}(b:aN m n a ds):aN.iR m n a ds:=b.l8 V λa r d=>#[_,_,V,a,r]
def aN.one (r:aN b m n [o]):∃a,n=[a]/\a9 b m a o:=by
 show cm r.hy λa e b=>?_;show eN b λd r=>?_;obtain rfl:=r.hy;show as a V d
def aN.eT (r:aN m n o [w,x]):∃a d,o=[a,d]/\a9 m n a w/\a9 m n d x:=by
 show cm r.hy λa f e=>?_;show eN e λf r=>?_;show v r.one λd e=>?_;show ci e λb=>?_;show f5 a d V f b
def aN.split (a:aN m n b (ds++o)):∃d e,b=d++e/\aN m n d ds/\aN m n e o:=
 (f5 (b.take ds.length) (b.drop ds.length) ((p7 ..).symm) (by have:=a.take ds.length;rwa[List.take_left]at this) (by have:=a.drop ds.length;rwa[List.drop_left]at this))
noncomputable def Ik (U:aV)(aF:aW):Option j->Option a3->Prop
 |c,bu=>bu=c|some af,bu=>∃an,bu=O an/\a9 U aF an af
def aN.Il {b:Type}[DecidableEq b](f:b)(d:List (b×a3)):∀(a:List (b×j)),d.map (·.1)=a.map (·.1)->aN m n (d.map (·.2)) (a.map (·.2))->Ik m n (a.lookup f) (tZ d f):=by
 unfold tZ
 induction d with
 |nil=>show λa e g=>by cases a with
  |nil=>rfl|cons _ _=>cases e
 |cons i d k=>show λa e r=>by cases a with
  |nil=>cases e
  |cons h a=>
   show am (oP e) λl m=>?_;show bB λb d=>?_;show cm r.hy λg g e=>?_;show cd e λg n r=>?_;show d ?_;clear d b;show am (oP g) λd e=>?_;rw[t0,List.find?];mspec show i.1=h.1 from l
   by_cases b:f=h.1
   .mspec b;rw[beq_self_eq_true];mspec decide_eq_true V;show as _ (congrArg _ d) n
   .mspec beq_eq_false_iff_ne.mpr b;mspec decide_eq_false λd=>b d.symm;show(k a m<|e▸r)
def aN.lookup {e:Type}[DecidableEq e]{a:List (e×a3)}{b:List (e×j)}(k:a.map (·.1)=b.map (·.1))(r:aN m n (a.map (·.2)) (b.map (·.2)))(d:e):(b.lookup d=c->tZ a d=c)/\(∀f,b.lookup d=O f->∃h,tZ a d=O h/\a9 m n h f):=by
 have i:=r.Il d a b k;show#[λg=>by rwa[g]at i,λf g=>by rwa[g]at i]
def a9.Is (U:aV)(aF:aW)(an:a3)(af:j):Prop:=j.casesOn af (an=.none) (λb=>an=.bool b) (λL=>∃aT,an=.int L aT) (λaa=>∃aT,an=.str aa aT) (λds=>∃ac a1,an=.ref ac/\aF.PlainList ac a1.toArray/\aN U aF a1 ds) (λds=>∃ac a1,an=.ref ac/\IsTup aF ac a1.toArray/\aN U aF a1 ds) (λbE=>∃ac a,an=.ref ac/\(ac==i8)=aj/\aF.DictOf (mT U.prog U.w) ac a/\a.map (·.1)=bE.map (·.1)/\aN U aF (a.map (·.2)) (bE.map (·.2))) (λbE=>∃ac a,an=.ref ac/\(ac==i8)=aj/\aF.DictOf (strKind U.prog U.w) ac a/\a.map (·.1)=bE.map (·.1)/\aN U aF (a.map (·.2)) (bE.map (·.2))) (λac b q=>∃r aT a8 bp,an=.ref r/\IsRange aF r ac b q aT a8 bp) (λa8=>an=a8) (λa=>False) (λa=>False) (λa a=>False) (λa=>False)<|λa=>False
def a9.is (r:a9 n o m w):a9.Is n o m w:=by
 cases r with
 |none=>rfl|bool b=>rfl|int g e=>show dm e V|str g e=>show dm e V|list a r=>show f5 _ _ V a r|bQ a r=>show f5 _ _ V a r|dict f a d r=>show tX _ _ V f a d r|bN f a d r=>show tX _ _ V f a d r|iz d=>show Ig _ _ _ _ V d|val m=>rfl
inductive h9 (U:aV)(aF:aW):List j3->be->Prop
 |nil:h9 U aF [] []|cons {a s aT an af dy bE}:a9 U aF an af->h9 U aF dy bE->h9 U aF (#[a,.str s aT,an]::dy) ((s,af)::bE)
def h9.keep {a b:aW}(f:E b a){d:List j3}{e:be}(g:h9 m a d e):h9 m b d e:=by
 induction g with
 |nil=>show .nil|cons r _ h=>show .cons (r.keep f) h
noncomputable def mU:be->i->j->be
 |[],a,af=>[(a,af)]|(s,t1)::r,a,af=>if s=a then(s,af)::r else(s,t1)::mU r a af
def h9.length (a:h9 n o b m):b.length=m.length:=by
 induction a with
 |nil=>rfl|cons _ _ d=>simp[d]
def Im {a:j3}{b:List j3}{n:i}(d:a.key.isStr n=z):nS n (a::b)=O (O a.val):=by
 delta nS;mspec List.find?_cons_of_pos (p:=λa:j3=>a.key.isStr n) d;rfl
def Io {a:j3}{b:List j3}{n:i}(d:¬a.key.isStr n=z)(e:a.refKey=aj):nS n (a::b)=nS n b:=by
 delta nS;mspec List.find?_cons_of_neg (p:=λa:j3=>a.key.isStr n) d;mspec t2 ..;mspec e;rfl
def h9.get (e:h9 o w m n){b:i}:(∀af,n.lookup b=O af->∃d,nS b m=O (O d)/\a9 o w d af)/\(n.lookup b=c->nS b m=O c):=by
 induction e with
 |nil=>show#[λaf a=>(by cases a),λe=>rfl]
 |@cons p f q d af m n r _ h=>
  by_cases g:f=b
  .subst g;show#[λj a=>as d (Im<|decide_eq_true V) ?_,λa=>by simp at a];simp at a;subst a;show r
  .have l:(b==f)=aj:=by simpa using λe:b=f=>g e.symm
   have e:nS b (#[p,.str f q,d]::m)=nS b m:=by
    show Io (λe=>g<|k e) V
   mspec e;show#[λj a=>h.1 j (by simpa[fB,l]using a),λa=>h.2<|by simpa[fB,l]using a]
def h9.gD (f:h9 o w n m){e:a3}{d:j}(r:a9 o w e d):h9 o w (putL b x (.str b B) e n) (mU m b d):=by
 induction f with
 |nil=>show .cons r .nil|@cons i a l p g n m q f s=>
  by_cases h:a=b
  .subst h;mspec show mU ((a,g)::m) a d=(a,d)::m from if_pos V;mspec show putL a x (.str a B) e (#[i,.str a l,p]::n)=_ from if_pos<|decide_eq_true V
   show .cons r f
  .mspec show mU ((a,g)::m) b d=(a,g)::mU m b d from if_neg h;mspec show putL b x (.str b B) e (#[i,.str a l,p]::n)=_ from if_neg λd=>h<|k d
   show .cons q s
inductive bG (U:aV)(aF al:aW)(ac:T):j->Prop
 |list {a1 ds}:al.PlainList ac a1.toArray->aN U aF a1 ds->bG U aF al ac (.list ds)|bQ {a1 ds}:IsTup al ac a1.toArray->aN U aF a1 ds->bG U aF al ac (.bQ ds)|dict {a bE}:(ac==i8)=aj->al.DictOf (mT U.prog U.w) ac a->a.map (·.1)=bE.map (·.1)->aN U aF (a.map (·.2)) (bE.map (·.2))->bG U aF al ac (.dict bE)|bN {a bE}:(ac==i8)=aj->al.DictOf (strKind U.prog U.w) ac a->a.map (·.1)=bE.map (·.1)->aN U aF (a.map (·.2)) (bE.map (·.2))->bG U aF al ac (.bN bE)|aG {o}:al.get? ac=O o->bG U aF al ac (.aG o)|ns {dy n bE}:al.get? ac=O (j7 dy n)->h9 U aF dy bE->bG U aF al ac (.ns bE)|slots {q lu a1 ds}:al.get? ac=O {cls:=.ref q,dict:=O lu,data:=.plain,slots:=(a1.map O).toArray}->aF.get? lu=O f6->aN U aF a1 ds->bG U aF al ac (.slots q ds)|frame {o gE}:al.get? ac=O {o with slots:=gE}->bG U aF al ac (.frame o)|tab {fp dj}:al.get? ac=O (nO fp)->p8 fp.toList->(∀a∈dj,lv a.1 fp.toList=c\/∃b,lv a.1 fp.toList=O b/\aF.CodeRec b a.2)->bG U aF al ac (.tab dj)
def bG.Ip (r:bG n w b m (.aG o)):b.get? m=O o:=by cases r with|aG a=>show a
def bG.lw (r:bG x B M m w)(d:E S4 B)(b:∀o,M.get? m=O o->h'.get? m=O o):bG x S4 h' m w:=by
 cases r with
 |list e r=>show v e λn a=>?_;show .list #[n,b _ a]<|r.keep d
 |bQ e r=>show v e λo g=>?_;show am g λa f=>?_;show .bQ #[o,b _ a,f]<|r.keep d
 |dict i e a r=>show kK e λo j k g=>?_;show am g λh f=>?_;show .dict i #[o,j,k,b _ h,f] a<|r.keep d
 |bN i e a r=>show kK e λo j k g=>?_;show am g λh f=>?_;show .bN i #[o,j,k,b _ h,f] a<|r.keep d
 |aG a=>show .aG<|b _ a
 |ns a r=>show .ns (b _ a)<|r.keep d
 |slots a w r=>show .slots (b _ a) (d _ _ w)<|r.keep d
 |frame a=>show .frame<|b _ a
 |tab a l r=>show .tab (b _ a) l λh e=>(r h e).imp id λb=>aX b λe a f=>#[e,a,f.keeps d]
def bG.keep (r:bG m n o b w)(a:E x n)(d:E h' o):bG m x h' b w:=r.lw a<|d b
def bG.cw (r:bG x B m n w):∃o,m.get? n=O o:=by
 cases r with
 |list b r=>show#[_,b.choose_spec]|bQ b r=>show#[_,b.choose_spec.1]|dict f b a r=>show kK b λo d d e=>?_;show am e λa d=>?_;show#[o,a]|bN f b a r=>show kK b λo d d e=>?_;show am e λa d=>?_;show#[o,a]|aG a=>show#[_,a]|ns a r=>show#[_,a]|slots a w r=>show#[_,a]|frame a=>show#[_,a]|tab a b r=>show#[_,a]
structure bc where
 d:aV
 n:Nat
 J:b1
 X:aY
 p:be
 D:List (T×j)
def nT (an:a3)(al:aW)(ae:i)(env:b1):Prop:=
 (env.kindOf ae=O .local/\∃aE,al.Ns env.locals aE/\aE ae=O an)\/
 (∃q,(env.kindOf ae=O .cell\/env.kindOf ae=O .free)/\env.cells.lookup ae=O q/\al.IsCell q (O an))
def nT.keep {a h':aW}{b:a3}(d:E h' a)(e:nT b a m env):nT b h' m env:=
 e.imp (λa=>#[a.1,a.2.imp λb a=>#[a.1.keeps d,a.2]]) λa=>a.imp λb a=>cG a.1 a.2.1<|a.2.2.imp λo a=>#[d _ _ a.1,a.2]
structure cU (Y:bc)(al:aW):Prop where
 base:E (l al Y.X) Y.d.B
 cw:∀ac∈Y.X,∃o,al.get? ac=O o
 d8:∀ai∈Y.p,∃an,nT an al ai.1 Y.J/\a9 Y.d (l al Y.X) an ai.2
 D:∀ai∈Y.D,ai.1∈Y.X/\bG Y.d (l al Y.X) al ai.1 ai.2
 kind:Y.J.scope.kind=.function
def cU.keep (b:cU m n)(a:E h' n):cU m h' where
 base:=b.base.trans (l.keep _ a)
 cw:=λe d=>let#[o,f]:=b.cw e d;#[o,a _ _ f]
 d8:=λg d=>let#[h,f,r]:=b.d8 g d;(as h (f.keep a)<|r.keep<|l.keep _ a)
 D:=λg d=>let#[e,r]:=b.D g d;#[e,r.keep (l.keep _ a) a]
 kind:=b.kind
def cU.new (a:cU b m):m.objs.size∉b.X:=λb=>by
 show v (a.cw _ b) λo d=>?_;show mQ _<|gl d
def l.l9 (a:cU Y b)(o:dF)(d:o.isFreed=aj):(l (b.push o) Y.X).get? b.objs.size=O o:=
 cb _ (dL b d) a.new
structure dz (aJ:cV)(n:Nat):Prop where
 handled:aJ.handled=c
 depth:aJ.depth+n<nU
 units:aJ.units+8*n+200<nV
def dz.xr (r:dz b n):b.depth<nU:=tJ (oW _ _) r.depth
def dz.rJ {n:Nat}(r:dz b (n+1))(d:m.handled=b.handled)(e:m.depth=b.depth+1){a:Nat}(f:m.units=b.units+a)(g:a<=3):dz m n:=#[d.trans r.handled,by have:=r.depth;mspec e;show b9 [.aK (.y G<| .Q N)<| .n nU] 0 (.Q<| .y (.Q G) N) (.n nU) H this,by have:=r.units;show f▸bb [.aK (.y (.y G<| .cS 8<| .Q N)<| .n 200)<| .n nV,.C t<| .n 3] 0 (.Q<| .y (.y (.y G t)<| .cS 8 N)<| .n 200) (.n nV) H this g]
def dz.t3 (r:dz b n)(a:Nat)(d:a<=200):b.units+a<nV:=tJ (xc (oW ..) d) r.3
structure R (Y:bc)(I:c4)(af:j):Prop where
 go:∀(aJ:cV)(aa:aM)(bM:bX)(bv:bX),dz aJ Y.n->cU Y aa.heap->
  (∀an h' a,E h' aa.heap->a9 Y.d (l h' Y.X) an af->bM an {aa with heap:=h',toks:=a})->ar Y.d.M aJ (eval I Y.J) bM bv aa
structure aZ (Y:bc)(I:c4)(b:Bool):Prop where
 go:∀(aJ:cV)(aa:aM)(bM:Bool->aM->Prop)(bv:bX),dz aJ Y.n->cU Y aa.heap->
  (∀h' a,E h' aa.heap->bM b {aa with heap:=h',toks:=a})->ar Y.d.M aJ (nW I Y.J<|eval I Y.J) bM bv aa
section
variable {Y:bc}
def a9.df (r:a9 n o b (.int m)):∃a,b=.int m a:=r.is
def a9.dN (r:a9 n o b (.str m)):∃a,b=.str m a:=r.is
def a9.Iq (r:a9 n o b (.bool m)):b=.bool m:=r.is
def R.of_eq (a:R Y b af)(d:af=ex):R Y b ex:=d▸a
def R.gF {b pos}:R Y (.Constant .none b pos) .none:=.mk λd a e f g h b=>BH<|b .none a.heap a.toks (E.bd _) .none
def R.p9 {b m pos}:R Y (.Constant (.bool b) m pos) (.bool b):=.mk λe a f g h i d=>wpAny_Constant_bool<|d _ a.heap a.toks (E.bd _)<| .bool b
def R.bJ {b m pos}:R Y (.Constant (.int b) m pos) (.int b):=.mk λe a f g h i d=>Ir<|d _ a.heap _ (E.bd _)<| .int b _
def R.cy {b m pos}:R Y (.Constant (.str b) m pos) (.str b):=.mk λe a f g h i d=>oX<|d _ a.heap _ (E.bd _)<| .str b _
def R.name {pos}(f:(m,af)∈Y.p)(hd:(m==("__debug__":i))=aj)(j:(m==("__classdict__":i))=aj):R Y (.Name m pos) af:=.mk λl g m o p d k=>by
 show v (d.d8 _ f) λl m=>?_;show am m λa r=>?_;have e:=k l g.heap g.toks (E.bd _) r;show xt ?_ hd;rcases a with⟨b,f,n,a⟩|⟨g,b|b,a,h⟩
 .show t4 d.kind b n a e
 .show BI d.kind b a h e
 .show BJ d.kind b a h e j
def R.oY {m b n:j}(o:R Y w m)(p:R Y r b)
 (q:∀(d:cV)(a:aM)(i:bX)(e:bX)(f g:a3),dz d Y.n->cU Y a.heap->a9 Y.d (l a.heap Y.X) f m->a9 Y.d (l a.heap Y.X) g b->
  (∀h h' k,E h' a.heap->a9 Y.d (l h' Y.X) h n->i h {a with heap:=h',toks:=k})->ar Y.d.M d (binaryOp x f g) i e a):R Y (.BinOp w x r pos) n:=.mk λd a i e m n s=>by
 show wpAny_BinOp<|o.go d a _ e m n λf u v i t=>p.go d _ _ e m (n.keep i) λg u v a o=>?_;show q d _ _ e f g m ((n.keep i).keep a) (t.keep<|l.keep _ a) o λh h' k p u=>s h h' k ((i.trans a).trans p) u
def R.add {m r pos}(a:R Y m (.int n))(d:R Y r (.int b)):R Y (.BinOp m .Add r pos) (.int<|n+b):=
 R.oY a d λi e j k l m n o f g h=>by
  show v f.df λd a=>?_;show bw a ?_;show v g.df λd a=>?_;show bw a ?_;show add_int<|h _ e.heap _ (E.bd _)<| .int _ _
def R.sub {m r pos}(a:R Y m (.int n))(d:R Y r (.int b)):R Y (.BinOp m .Sub r pos) (.int<|n - b):=
 R.oY a d λi e j k l m n o f g h=>by
  show v f.df λd a=>?_;show bw a ?_;show v g.df λd a=>?_;show bw a ?_;show sub_int<|h _ e.heap _ (E.bd _)<| .int _ _
def R.qa {m r pos}(a:R Y m (.int n))(d:R Y r (.int b))(e:b≠0):R Y (.BinOp m .Mod r pos) (.int<|i9 n b):=
 R.oY a d λj f k l m n o p g h i=>by
  show v g.df λd a=>?_;show bw a ?_;show v h.df λd a=>?_;show bw a ?_;show mod_int e<|i _ f.heap _ (E.bd _)<| .int _ _
def R.fdiv {m r pos}(a:R Y m (.int n))(d:R Y r (.int b))(e:b≠0)(f:xu n b=aj):R Y (.BinOp m .FloorDiv r pos) (.int<|lx n b):=
 R.oY a d λk g l m n o p q h i j=>by
  show v h.df λd a=>?_;show bw a ?_;show v i.df λd a=>?_;show bw a ?_;show floordiv_int e (j _ g.heap _ (E.bd _)<| .int _ _)<| .inl f
def R.BK {b r pos}{n:Nat}(a:R Y b (.int m))(d:R Y r (.int n))(e:n<=1000000)(f:m.natAbs<2^64):R Y (.BinOp b .Pow r pos) (.int<|m^n):=
 R.oY a d λj b k l m o p q g h i=>by
  show v g.df λd a=>?_;show bw a ?_;show v h.df λd a=>?_;show bw a ?_;show pow_int_small (f3 _) (dH.mpr e) f<|i _ b.heap _ (E.bd _)<| .int _ _
def R.jC {m r pos}(a:R Y m (.str ac))(d:R Y r (.str b))(e:ac.length+b.length<=aC):R Y (.BinOp m .Add r pos) (.str<|ac++b):=
 R.oY a d λj f k l m n o p g h i=>by
  show v g.dN λd a=>?_;show bw a ?_;show v h.dN λd a=>?_;show bw a ?_;show PyProof.Rows.add_str (λd a=>i _ f.heap a (E.bd _)<| .str _ _) e
structure av (Y:bc)(a:CmpOp)(ac b:j)(q:Bool):Prop where
 go:∀(aJ:cV)(aa:aM)(bM:bX)(bv:bX)(ae bu:a3),dz aJ Y.n->cU Y aa.heap->a9 Y.d (l aa.heap Y.X) ae ac->a9 Y.d (l aa.heap Y.X) bu b->
  (∀h' d,E h' aa.heap->bM (.bool q) {aa with heap:=h',toks:=d})->ar Y.d.M aJ (compareOp a ae bu) bM bv aa
def R.bK {ac b:j}(h:R Y n ac)(i:R Y r b)(k:av Y m ac b q)(o:rK m r=aj):R Y (.Compare n [m] [r] pos) (.bool q):=.mk λa m g d e f n=>by
 show wpAny_Compare1 (h.go a m _ d e f λp t u g s=>i.go a _ _ d e (f.keep g) λm u v h t=>?_) o;show k.go a _ _ d p m e ((f.keep g).keep h) (s.keep<|l.keep _ h) t λh' i o=>n _ h' i ((g.trans h).trans o)<| .bool q
def aZ.bK (h:R Y n ac)(i:R Y r b)(j:av Y m ac b q)(k:rK m r=aj):aZ Y (.Compare n [m] [r] pos) q:=.mk λa m g d e f n=>by
 show xv (h.go a m _ d e f λo s t g p=>i.go a _ _ d e (f.keep g) λm t u h s=>?_) k;show j.go a _ _ d o m e ((f.keep g).keep h) (p.keep<|l.keep _ h) s λh' i k=>ma<|n h' i<|(g.trans h).trans k
def av.eq:av Y .Eq (.int ac) (.int b) (ac==b):=.mk λa d h i j k l m e f g=>by
 show v e.df λh a=>?_;show bw a ?_;show v f.df λe a=>?_;show bw a ?_;show eq_int<|g d.heap d.toks<|E.bd _
def av.kN:av Y .NotEq (.int ac) (.int b) (ac !=b):=.mk λa d h i j k l m e f g=>by
 show v e.df λh a=>?_;show bw a ?_;show v f.df λe a=>?_;show bw a ?_;show ne_int<|g d.heap d.toks<|E.bd _
def av.lt:av Y .Lt (.int m) (.int b) (decide (m<b)):=.mk λa d h i j k l m e f g=>by
 show v e.df λh a=>?_;show bw a ?_;show v f.df λe a=>?_;show bw a ?_;show lt_int<|g d.heap d.toks<|E.bd _
def av.It:av Y .Gt (.int m) (.int b) (decide (b<m)):=.mk λa d h i j k l m e f g=>by
 show v e.df λh a=>?_;show bw a ?_;show v f.df λe a=>?_;show bw a ?_;show gt_int<|g d.heap d.toks<|E.bd _
def av.xw:av Y .GtE (.int m) (.int b) (decide (b<=m)):=.mk λa d h i j k l m e f g=>by
 show v e.df λh a=>?_;show bw a ?_;show v f.df λe a=>?_;show bw a ?_;show ge_int<|g d.heap d.toks<|E.bd _
def av.BL:av Y .Eq (.str ac) (.str b) (ac==b):=.mk λa d h i j k l m e f g=>by
 show v e.dN λh a=>?_;show bw a ?_;show v f.dN λe a=>?_;show bw a ?_;show eq_str<|g d.heap d.toks<|E.bd _
def av.BM:av Y .NotEq (.str ac) (.str b) (ac !=b):=.mk λa d h i j k l m e f g=>by
 show v e.dN λh a=>?_;show bw a ?_;show v f.dN λe a=>?_;show bw a ?_;show ne_str<|g d.heap d.toks<|E.bd _
noncomputable def j.isNone (af:j):Bool:=j.casesOn af z (λa=>aj) (λa=>aj) (λa=>aj) (λa=>aj) (λa=>aj) (λa=>aj) (λa=>aj) (λa a a=>aj) (λan=>an==.none) (λa=>aj) (λa=>aj) (λa a=>aj) (λa=>aj)<|λa=>aj
def a9.isNone (r:a9 n o b m):(b==nX)=m.isNone:=by cases r<;>rfl
def av.oZ:av Y .Is b .none b.isNone:=.mk λb a g h i j k l d e f=>by
 obtain rfl:=e.is;show BN<|d.isNone▸f a.heap a.toks (E.bd _)
def av.qb:av Y .IsNot b .none (!b.isNone):=.mk λb a g h i j k l d e f=>by
 obtain rfl:=e.is;show PySem.isNot_none<|d.isNone▸f a.heap a.toks (E.bd _)
def R.kO {b:Bool}(n:aZ Y o b)(p:b=z->R Y w m)(q:b=aj->R Y x m):R Y (.IfExp o w x pos) m:=.mk λd m k e f g l=>by
 show wpAny_IfExp<|n.go d m _ e f g λo s a=>?_;cases b with
 |true=>show(p V).go d _ k e f (g.keep a) λh h' i j r=>l h h' i (a.trans j) r|false=>show(q V).go d _ k e f (g.keep a) λh h' i j r=>l h h' i (a.trans j) r
structure eF (Y:bc)(ac:j)(b:Bool):Prop where
 go:∀(aJ:cV)(aa:aM)(bM:Bool->aM->Prop)(bv:bX)(ae:a3),dz aJ Y.n->cU Y aa.heap->a9 Y.d (l aa.heap Y.X) ae ac->
  (∀a,bM b {aa with toks:=a})->ar Y.d.M aJ (truthy ae) bM bv aa
def eF.bool:eF Y (.bool b) b:=.mk λe a f g h i j r d=>by obtain rfl:=r.is;show ma<|d a.toks
def eF.none:eF Y .none aj:=.mk λd a e f g h i r b=>by obtain rfl:=r.is;show truthy_none<|b a.toks
def eF.str (a:(ae.length:Int)<9223372036854775808):eF Y (.str ae) ((ae.length:Int)!=0):=.mk λd e f g h i j r b=>by
 show v r.dN λe d=>?_;show bw d ?_;show SBL.truthy a<|b _
def aZ.j8 (h:R Y n af)(i:eF Y af b)(j:∀a,nW n Y.J a=(do let m <-a;ep n.pos;e5 [m] (truthy m))):aZ Y n b:=.mk λa k g d e f l=>
 Iu (h.go a k _ d e f λm h' n g r=>i.go a _ _ d m e (f.keep g) r λh=>l h' h g) (j _)
def R.or (l:R Y n ac)(o:eF Y ac b)(p:b=aj->R Y w m)(q:b=z->ac=m):R Y (.BoolOp .Or [n,w] pos) m:=.mk λe m s f g h j=>by
 show wpAny_Or2<|l.go e m _ f g h λa t n d k=>o.go e _ _ f a g (h.keep d) k λi=>?_;cases b with
 |false=>show(p V).go e _ s f g (h.keep d) λa h' i l r=>j a h' i (d.trans l) r|true=>show j a t i d<|q V▸k
def aZ.o0 (k:aZ Y m b)(l:b=z->aZ Y n q):aZ Y (.BoolOp .And [m,n] pos) (b&&q):=.mk λe m n f g h d=>by
 show BO<|Iv<|k.go e m _ f g h λo p a=>?_;cases b with
 |true=>show Iv ((l V).go e _ _ f g (h.keep a) λh' i j=>by
  cases q with
  |true=>show wpAny_allTrue_And_nil<|d h' i<|a.trans j
  |false=>show d h' i<|a.trans j)
 |false=>show d o p a
def aZ.or (k:aZ Y m b)(l:b=aj->aZ Y n q):aZ Y (.BoolOp .Or [m,n] pos) (b||q):=.mk λe m n f g h d=>by
 show BO<|BP<|k.go e m _ f g h λo p a=>?_;cases b with
 |false=>show BP ((l V).go e _ _ f g (h.keep a) λh' i j=>by
  cases q with
  |false=>show Iw<|d h' i<|a.trans j
  |true=>show d h' i<|a.trans j)
 |true=>show d o p a
def aZ.rL {b:Bool}(a:aZ Y m b):aZ Y (.UnaryOp .Not m pos) (!b):=.mk λd e j f g h i=>
 wpAny_isTrue_Not (a.go d e _ f g h λj k l=>i j k l)
structure W (Y:bc)(pos:di)(dy:h6)(ds:dn):Prop where
 go:∀(aJ:cV)(aa:aM)(bM:cv->aM->Prop)(bv:bX),dz aJ Y.n->cU Y aa.heap->
  (∀a1 h' a,E h' aa.heap->aN Y.d (l h' Y.X) a1 ds->bM a1 {aa with heap:=h',toks:=a})->ar Y.d.M aJ (spliced<|cX pos<|bf dy Y.J) bM bv aa
def W.nil {pos}:W Y pos [] []:=.mk λd a e f g h b=>ly<|b [] a.heap a.toks (E.bd _) .nil
def W.cons {pos}{af:j}{ds:dn}(g:R Y b af)(r:W Y pos m ds)(h:bf (b::m) Y.J=(aj,eval b Y.J)::bf m Y.J):W Y pos (b::m) (af::ds):=.mk λa i f b d e k=>
 kP (g.go a i _ b d e λn o p f m=>r.go a _ _ b d (e.keep f) λp i n g o=>k _ i n (f.trans g)<| .cons (m.keep<|l.keep _ g) o) h
def R.list (f:W Y pos b ds)(g:ds.length<=aC):R Y (.List b pos) (.list ds):=.mk λh i b j k a m=>
 t5 (f.go h i _ j k a λo p n b d=>#[by show d.length▸g,m _ _ n (b.trans<|E.push _ _)<| .list #[_,l.l9 (a.keep b) _ e]<|d.keep<|l.keep _<|E.push _ _])
def R.tuple (f:W Y pos b ds)(g:ds.length<=aC):R Y (.Tuple b m pos) (.bQ ds):=.mk λh i b j k a m=>
 wpAny_Tuple (f.go h i _ j k a λo p n b d=>#[by show d.length▸g,m _ _ n (b.trans<|E.push _ _)<| .bQ #[_,l.l9 (a.keep b) _ e,V,_,V]<|d.keep<|l.keep _<|E.push _ _])
def j.Ix (af:j):Prop:=j.casesOn af False (λa=>False) (λa=>False) (λa=>False) (λa=>True) (λa=>True) (λa=>True) (λa=>True) (λa a a=>False) (λa=>False) (λa=>False) (λa=>False) (λa a=>False) (λa=>False)<|λa=>False
def aq (Y:bc)(r af:j):Prop:=(r=af/\af.Ix)\/(∃ac,r=.val (.ref ac)/\(ac,af)∈Y.D)\/∃ac o,r=.val (.ref ac)/\(ac,.aG o)∈Y.D/\∀aF al:aW,al.get? ac=O o->bG Y.d aF al ac af
def aq.list:aq Y (.list ds) (.list ds):=.inl #[V,trivial]
def aq.dict {ds}:aq Y (.dict ds) (.dict ds):=.inl #[V,trivial]
def aq.D (a:(b,m)∈Y.D):aq Y (.val<| .ref b) m:=.inr<| .inl<|as b V a
def aq.aG (d:(b,.aG o)∈Y.D)(e:∀f a:aW,a.get? b=O o->bG Y.d f a b m):aq Y (.val<| .ref b) m:=.inr<| .inr<|f5 b o V d e
def aq.obj (a:aq Y r w)(p:cU Y m)(h:a9 Y.d (l m Y.X) x r):∃e,x=.ref e/\bG Y.d (l m Y.X) m e w:=by
 rcases a with⟨rfl,q⟩|⟨e,rfl,j⟩|⟨e,o,rfl,j,f⟩
 .have i:=h.is;clear h;cases r with
  |list _=>show f4 i λb b d m r=>?_;show v m λn a=>?_;show as _ d<| .list #[n,l.of _ _ a] r
  |bQ _=>show cm i λb b g=>?_;show cd g λd a r=>?_;show as _ d<| .bQ (a.keeps l.of) r
  |dict _=>show cm i λb b g=>?_;show oU g λd k a f r=>?_;show as _ d<| .dict k (a.keep l.of) f r
  |bN _=>show cm i λb b g=>?_;show oU g λd k a f r=>?_;show as _ d<| .bN k (a.keep l.of) f r
  |_=>show q.elim
 .obtain rfl:=h.is;show as e V<|(p.D _ j).2
 .obtain rfl:=h.is;show as e V<|f _ _ (p.D _ j).2.Ip
def PlainList.fV {a:aW}(b:a.PlainList m o):a.IsList m o:=let#[n,a]:=b;#[_,a,V,n,V]
end
section
variable {Y:bc}
def cU.fq (a:cU Y b):E b Y.d.B:=a.base.trans l.of
def R.eU {pos}(d:Y.J.kindOf b=O .globalImplicit)(e:Y.d.B.Ns Y.J.globals o1)(f:o1 b=O m)(hd:(b==("__debug__":i))=aj):R Y (.Name b pos) (.val m):=.mk λh a j k l b g=>
 xx b.kind d (loadGlobal_global (e.keeps b.fq) f<|g m a.heap a.toks (E.bd _)<| .val m) hd
def R.Iy {pos}(d:Y.J.kindOf b=O .globalImplicit)(e:Y.d.B.Ns Y.J.globals o1)(f:o1 b=c)(g:Y.d.B.Ns Y.J.builtins t6)(h:t6 b=O m)(hd:(b==("__debug__":i))=aj):R Y (.Name b pos) (.val m):=.mk λk b l n o a j=>
 xx a.kind d (Iz (e.keeps a.fq) f (g.keeps a.fq) h<|j m b.heap b.toks (E.bd _)<| .val m) hd
def t7 {d id:String}(e:m.TypeIs o d)
 (g:lz (.type d) "__getitem__"=pure (O<| .builtin id)) (h:ar (b2 n w) x (getItem o b) M B m)
 (a:∃f,BQ S4 aj o b=operate f (getItem o b)):
 ar (b2 n w) x (subscriptTail S5 S4 o b) M B m:=by
 show v a λf a=>?_;unfold subscriptTail;show ap ?_;mspec getitemInPython_of_ne e.not_modules;show ap<|t8 e g ?_;have d:ar (b2 n w) x (BQ S4 aj o b) (λr e=>ar (b2 n w) x (xy S5 o r >>= λb=>pure r) M B e) B m:=by
  mspec a;show wpAny_operating<|dq h (λr e a=>ap<|wpAny_letTemporaryGo<|ba a) λb b e=>e
 first
  |show ba<|ap d
  |show ap<|ba<|ap d
  |show ap d
def t9 (b:c4)(o a:a3):∃d,BQ b aj o a=operate d (getItem o a):=by
 cases b with
 |Slice b d e f=>cases e with
  |none=>show#[[a,o],V]|some=>show#[[o,a],V]
 |_=>show#[[o,a],V]
structure b6 (Y:bc)(r L af:j):Prop where
 go:∀(aJ:cV)(aa:aM)(bM:bX)(bv:bX)(ae bu:a3),dz aJ Y.n->cU Y aa.heap->a9 Y.d (l aa.heap Y.X) ae r->a9 Y.d (l aa.heap Y.X) bu L->
  (∀an h' b,E h' aa.heap->a9 Y.d (l h' Y.X) an af->bM an {aa with heap:=h',toks:=b})->∃a id,aa.TypeIs ae a/\lz (.type a) "__getitem__"=pure (O<| .builtin id)/\ar Y.d.M aJ (getItem ae bu) bM bv aa
def R.item {r L af:j}(g:R Y b r)(i:R Y jD L)(k:b6 Y r L af):R Y (.Subscript b jD pos) af:=.mk λa h m b d e n=>by
 show xz<|g.go a h _ b d e λo q s f p=>i.go a _ _ b d (e.keep f) λq s t g u=>?_;show cm (k.go a {h with heap:=s,toks:=t} m b o q d ((e.keep f).keep g) (p.keep<|l.keep _ g) u λa h' h i k=>n a h' h ((f.trans g).trans i) k) λd id b=>?_;show cd b λa d e=>?_;show t7 a d e<|t9 _ _ _
def bG.Is (U:aV)(aF al:aW)(ac:T)(af:j):Prop:=j.casesOn af False (λb=>False) (λb=>False) (λb=>False) (λds=>∃a1,al.PlainList ac a1.toArray/\aN U aF a1 ds) (λds=>∃a1,IsTup al ac a1.toArray/\aN U aF a1 ds) (λds=>∃a,(ac==i8)=aj/\al.DictOf (mT U.prog U.w) ac a/\a.map (·.1)=ds.map (·.1)/\aN U aF (a.map (·.2)) (ds.map (·.2))) (λds=>∃a,(ac==i8)=aj/\al.DictOf (strKind U.prog U.w) ac a/\a.map (·.1)=ds.map (·.1)/\aN U aF (a.map (·.2)) (ds.map (·.2))) (λb b b=>False) (λb=>False) (λo=>al.get? ac=O o) (λbE=>∃dy n,al.get? ac=O (j7 dy n)/\h9 U aF dy bE) (λq ds=>∃lu a1,al.get? ac=O {cls:=.ref q,dict:=O lu,data:=.plain,slots:=(a1.map O).toArray}/\aF.get? lu=O f6/\aN U aF a1 ds) (λo=>∃gE,al.get? ac=O {o with slots:=gE}) (λdj=>∃fp,al.get? ac=O (nO fp)/\p8 fp.toList/\∀a∈dj,lv a.1 fp.toList=c\/∃b,lv a.1 fp.toList=O b/\aF.CodeRec b a.2)
def bG.is (r:bG n o w x m):bG.Is n o w x m:=by
 cases r with
 |list b r=>show as _ b r|bQ b r=>show as _ b r|dict d b a r=>show l7 _ d b a r|bN d b a r=>show l7 _ d b a r|aG a=>show a|ns a r=>show iy _ _ a r|slots a m r=>show f5 _ _ a m r|frame a=>show dm _ a|tab a e r=>show fo _ a e r
section
variable {U:aV}{aF al:aW}{ac:T}
def bG.ey (r:bG U aF al ac (.list ds)):bG.Is U aF al ac (.list ds):=r.is
def bG.o2 (r:bG U aF al ac (.dict ds)):bG.Is U aF al ac (.dict ds):=r.is
def bG.mc (r:bG U aF al ac (.bN ds)):bG.Is U aF al ac (.bN ds):=r.is
end
def kQ (a:Nat):((-1:Int)+((a+1:Nat):Int)).toNat=a:=by rw[Int.natCast_succ,Int.add_comm,Int.add_neg_cancel_right];rfl
def b6.list {cC:Nat}(d:aq Y r (.list ds))(e:ds[cC]?=O b)(f:cC<2^63):b6 Y r (.int cC) b:=.mk λa b k l m n o g h i j=>by
 show v (d.obj g h) λk a=>?_;show ci a λd=>?_;show v d.ey λg a=>?_;show am a λd g=>?_;show v i.df λh a=>?_;show bw a ?_;show v (g.get e) λh a=>?_;show am a λe g=>?_;show f5 ("list") _ ((PlainList.fV d).typeIs) xA.lookup (wpAny_getItem_list (PlainList.fV d) (f3 _) (ej.mpr f) (by mspec BR;show e)<|j h b.heap b.toks (E.bd _) g)
def b6.ek {ds:dn}(l:aq Y r (.list ds))(b:ds.getLast?=O af):b6 Y r (.int<| -1) af:=.mk λs d t u w y A m n o p=>by
 show v (l.obj m n) λs a=>?_;show ci a λl=>?_;show v l.ey λe a=>?_;show am a λf g=>?_;show v o.df λl a=>?_;show bw a ?_;rw[IA]at b;show v (g.get b) λh a=>?_;show am a λi q=>?_;show v (Nat.exists_eq_add_of_lt (gG.mp b).1) λa j=>?_;rw[<-g.length]at j i;have a:e.length=e.length - 1+1:=by mspec j;rfl
 show f5 ("list") _ ((PlainList.fV f).typeIs) xA.lookup (wpAny_getItem_list_neg (x:=h) (PlainList.fV f) (k H) (Int.neg_le_neg<|dH.mpr (by mspec o3;mspec a;show oR _)) (k H) (by mspec o3;mspec a;rw[kQ];mspec BR;show i)<|p h d.heap d.toks (E.bd _) q)
def b6.dict (d:aq Y r (.dict ds))(e:ds.lookup b=O m):b6 Y r (.int b) m:=.mk λa f k l n o p g h i j=>by
 show v (d.obj g h) λk a=>?_;show ci a λd=>?_;show v d.o2 λg a=>?_;show iQ a λk d g h=>?_;show v i.df λk a=>?_;show bw a ?_;show v ((aN.lookup g h b).2 m e) λi a=>?_;show am a λb e=>?_;show f5 ("dict") _ d.typeIs slot_dict_getitem.lookup<|BS (ua _ _ _ _) d.mapOf b<|j i f.heap _ (E.bd _) e
def b6.bN (d:aq Y r (.bN ds))(e:ds.lookup b=O m):b6 Y r (.str b) m:=.mk λa f k l n o p g h i j=>by
 show v (d.obj g h) λk a=>?_;show ci a λd=>?_;show v d.mc λg a=>?_;show iQ a λk d g h=>?_;show v i.dN λk a=>?_;show bw a ?_;show v ((aN.lookup g h b).2 m e) λi a=>?_;show am a λb e=>?_;show f5 ("dict") _ d.typeIs slot_dict_getitem.lookup<|BS (o4 _ _ _ _) d.mapOf b<|j i f.heap _ (E.bd _) e
inductive jE:j->Option Int->Prop
 |none:jE .none none|int (L):jE (.int L) (O L)
noncomputable def md (Y:bc)(I:Option c4)(af:j):Prop:=match I with
 |none=>af=.none|some I=>R Y I af
noncomputable def ff (ds:List α)(a b d:Option Int):List α:=
 (BU (nY a b d ds.length).1 (nY a b d ds.length).2.1 (nY a b d ds.length).2.2).filterMap (ds[·]?)
def md.run (a:md Y m n)(f:dz o Y.n)(g:cU Y b.heap)
 (d:∀e h' h,E h' b.heap->a9 Y.d (l h' Y.X) e n->r e {b with heap:=h',toks:=h}):ar Y.d.M o (evalPart m Y.J) r w b:=by
 cases m with
 |none=>have h':n=.none:=a;subst h';rw[evalPart_none];show ba<|d .none b.heap b.toks (E.bd _) .none
 |some m=>rw[evalPart_some];show a.go o b r w f g d
def aN.filterMap (r:aN m n o ds)(a:bP):aN m n (a.filterMap (o[·]?)) (a.filterMap (ds[·]?)):=by
 induction a with
 |nil=>show .nil|cons d a b=>
  cases e:ds[d]? with
  |some a=>
   show v (r.get e) λd a=>?_;show am a λd f=>?_;mspec IB d;mspec IB e;show .cons f b
  |none=>
   mspec IC e;mspec IC<|nZ<|r.length▸BV.mp e;show b
def jE.g4 (a:jE b m)(r:a9 o w n b):IsPart n m:=by
 cases a with
 |none=>obtain rfl:=r.is;show .none|int d=>show v r.df λa b=>?_;show bw b ?_;show .int d a
def R.jD {b:c4}{d f g:Option c4}{h pos:di}{r xB xC xD:j}{mV n0 a:Option Int}{ds:dn}(i:R Y b r)(k:aq Y r (.list ds))(m:md Y d xB)(n:md Y f xC)(o:md Y g xD)
 (p:jE xB mV) (q:jE xC n0) (s:jE xD a) (h0:a≠O 0) (t:ds.length<=aC):R Y (.Subscript b (.Slice d f g h) pos) (.list<|ff ds mV n0 a):=.mk λg h d u f b w=>by
 show xz<|i.go g h _ u f b λA x B d y=>BW<|m.run f (b.keep d) λi h A g u=>n.run f ((b.keep d).keep g) λm B C h A=>o.run f (((b.keep d).keep g).keep h) λn B C D F=>?_;have f:E (B.push {cls:=.type "slice",data:=.fields (aRR [i,m,n])}) x:=((g.trans h).trans D).trans<|E.push _ _;have i:=(b.keep d).keep f;show v (k.obj i<|y.keep<|l.keep _ f) λb g=>?_;show ci g λh=>?_;show v h.ey λb g=>?_;show am g λk h=>?_;show t7 (PlainList.fV k).typeIs xA.lookup (ID (PlainList.fV k) (IE _ _ _ _) (p.g4 u) (q.g4 A) (s.g4 F) h0 ?_<|by simpa[h.length]using t)<|t9 _ _ _;show w _ _ C ((d.trans f).trans<|E.push _ _) ?_;show a9.list (a1:=(BU (nY mV n0 a b.length).1 (nY mV n0 a b.length).2.1 (nY mV n0 a b.length).2.2).filterMap (b[·]?)) #[0,?_] ?_
 .simpa[qc]using(l.l9 (Y:=Y) i {cls:=.type "list",data:=.seq<|qc b.toArray mV n0 a} e)
 .mspec h.length;show(h.keep<|l.keep _<|E.push _ _).filterMap _
def R.o5 {m r pos}(d:R Y m o)(a:R Y r w)(g:aq Y o (.list ac))(h:aq Y w (.list b))(p:ac.length+b.length<=aC):R Y (.BinOp m .Add r pos) (.list<|ac++b):=
 R.oY d a λk m q s t u w f i j o=>by
  show v (g.obj f i) λk a=>?_;show ci a λg=>?_;show v (h.obj f j) λi a=>?_;show ci a λk=>?_;show v g.ey λh a=>?_;show am a λg i=>?_;show v g λn d=>?_;show v k.ey λj a=>?_;show am a λg k=>?_;show v g λa q=>?_;show PySem.P.add_list (n:=n) (n2:=a) d q (o _ _ m.toks (E.push _ _)<| .list (a1:=h++j) #[0,?_]<|(i.append k).keep<|l.keep _<|E.push _ _) (by simpa[i.length,k.length]using p);simpa using(l.l9 (Y:=Y) f {cls:=.type "list",data:=.seq<|h.toArray++j.toArray} e)
mutual
inductive j.ja:j->kR->Prop
 |none:j.ja .none .none|bool (b):j.ja (.bool b) (.bool b)|int (L):j.ja (.int L) (.int L)|str (aa):j.ja (.str aa) (.str aa)|list {ds fp}:j.mW ds fp->j.ja (.list ds) (.list fp)|bQ {ds fp}:j.mW ds fp->j.ja (.bQ ds) (.tuple fp)
inductive j.mW:dn->List kR->Prop
 |nil:j.mW [] []|cons {af ai ds fp}:j.ja af ai->j.mW ds fp->j.mW (af::ds) (ai::fp)
end
section
variable {U:aV}{aF:aW}
abbrev ub (U:aV)(aF:aW)(af:j)(ai:kR):Prop:=∀an,a9 U aF an af->∃a,Reads aF an ai a
abbrev qd (U:aV)(aF:aW)(ds:dn)(fp:List kR):Prop:=∀a1,aN U aF a1 ds->∃a,ReadsAll aF a1 fp a
def IF (a:qd U aF ds b):ub U aF (.list ds) (.list b):=λb r=>by
 show cm r.is λe b d=>?_;show eN d λe r=>?_;show v e λn d=>?_;show(a b r).elim λf e=>#[_,.list d V rfl e]
def IG (a:qd U aF ds b):ub U aF (.bQ ds) (.tuple b):=λb r=>by
 show cm r.is λe b d=>?_;show eN d λe r=>?_;show v e λo d=>?_;show cd d λe f g=>?_;show v g λn hd=>?_;show(a b r).elim λg d=>#[_,.tuple e f hd d]
def BX (a:ub U aF b m)(d:qd U aF ds n):qd U aF (b::ds) (m::n):=λb r=>by
 show cm r.hy λb e f=>?_;show eN f λg r=>?_;show v (a b g) λh f=>?_;show(d e r).elim λb a=>#[_,.cons f a]
def a9.reads (r:a9 U aF m n)(f:j.ja n o):∃d,Reads aF m o d:=
 j.ja.rec (motive_1:=λn o a=>ub U aF n o) (motive_2:=λds d a=>qd U aF ds d) (λm r=>by obtain rfl:=r.is;show dm _ .none) (λb m r=>by obtain rfl:=r.is;show dm _<| .bool b) (λg m r=>by show v r.is λd e=>?_;show bw e ?_;show dm _<| .int g d) (λh m r=>by show v r.is λd e=>?_;show bw e ?_;show dm _<| .str h d) (λa e=>IF e) (λa e=>IG e) (λd r=>by obtain rfl:=r.hy;show dm _ .nil) (λa a=>BX) f m r
def aN.reads (r:aN U aF b ds)(d:j.mW ds m):∃e,ReadsAll aF b m e:=
 j.mW.rec (motive_1:=λa a a=>True) (motive_2:=λds m a=>qd U aF ds m) trivial (λa=>trivial) (λa=>trivial) (λa=>trivial) (λa a=>trivial) (λa a=>trivial) (λb r=>by obtain rfl:=r.hy;show dm _ .nil) (λe a a f=>BX (λa r=>r.reads e) f) d b r
end
def iS (Y:bc)(r:j)(ai:kR):Prop:=j.ja r ai\/∃ds fp,aq Y r (.list ds)/\j.mW ds fp/\ai=.list fp
def iS.reads {a:aW}(b:iS Y r m)(g:cU Y a)(e:a9 Y.d (l a Y.X) o r):∃f,Reads a o m f:=by
 rcases b with d|⟨ds,a,b,d,rfl⟩
 .show(e.keep l.of).reads d
 .show v (b.obj g e) λh a=>?_;show ci a λb=>?_;show v b.ey λe a=>?_;show am a λb e=>?_;show v b λn a=>?_;show v ((e.keep l.of).reads d) λf b=>?_;show dm _<| .list a V rfl b
def av.BY {a d:kR}(f:iS Y m a)(g:iS Y b d)(h:jF a=z)(i:jF d=z)(j:me a d=z):av Y .Eq m b (same a d):=.mk λm e o p q r d a k l n=>by
 show v (f.reads a k) λo m=>?_;show v (g.reads a l) λk f=>?_;show eq_dataH_same m f h i (d.t3 64<|by simp+arith) j<|n e.heap e.toks<|E.bd _
def av.BZ {a d:kR}(e:iS Y m a)(f:iS Y b d)(g:jF a=z)(h:jF d=z)(i:me a d=z):av Y .NotEq m b (!same a d):=.mk λo a p q r s j d k l m=>by
 show v (e.reads d k) λp o=>?_;show v (f.reads d l) λk e=>?_;show ne_dataH_same o e g h (j.t3 64<|lq [] [] 0 (.n 64) (.n 200) H) i<|m a.heap a.toks<|E.bd _
def aN.mf (r:aN o w m (b.map .int)):rM m b:=by
 induction b generalizing m with
 |nil=>obtain rfl:=r.hy;show .nil|cons n b d=>show cm r.hy λb e a=>?_;show eN a λb e=>?_;show v b.is λf a=>?_;show bw a ?_;show .cons n f<|d e
def aN.IH {a:cv}{b:h}(r:rM a b):aN m o a (b.map .int):=by
 induction r with
 |nil=>show .nil|cons n d _ e=>show .cons (.int n d) e
def aN.strs (r:aN o w m (b.map .str)):StrsAre m b:=by
 induction b generalizing m with
 |nil=>obtain rfl:=r.hy;show .nil|cons n b d=>show cm r.hy λb e a=>?_;show eN a λb e=>?_;show v b.is λf a=>?_;show bw a ?_;show .cons n f<|d e
def av.rN {a:h}(d:aq Y r (.list<|a.map .int)):av Y .In (.int b) r (a.any (·==b)):=.mk λa b j k l m n e f g i=>by
 show v f.df λj a=>?_;show bw a ?_;show v (d.obj e g) λf a=>?_;show ci a λd=>?_;show v d.ey λe a=>?_;show am a λd e=>?_;show in_list_ints (PlainList.fV d) e.mf<|i b.heap b.toks<|E.bd _
def av.B0 {a:h}(d:aq Y r (.list<|a.map .int)):av Y .NotIn (.int b) r (!a.any (·==b)):=.mk λa b j k l m n e f g i=>by
 show v f.df λj a=>?_;show bw a ?_;show v (d.obj e g) λf a=>?_;show ci a λd=>?_;show v d.ey λe a=>?_;show am a λd e=>?_;show notin_list_ints (PlainList.fV d) e.mf<|i b.heap b.toks<|E.bd _
def aN.isSome {a:Type}[DecidableEq a]{e:List (a×a3)}{b:List (a×j)}(f:e.map (·.1)=b.map (·.1))(r:aN m n (e.map (·.2)) (b.map (·.2)))(d:a):
 (tZ e d).isSome=(b.lookup d).isSome:=by
 show am (aN.lookup f r d) λg h=>?_;cases q:b.lookup d with
 |none=>rw[g q];rfl|some i=>show v (h i q) λb a=>?_;show am a λb d=>?_;rw[b];rfl
def av.B1 {a:Int}{b:List (Int×j)}(d:aq Y r (.dict b)):av Y .In (.int a) r (b.lookup a).isSome:=.mk λa b i k l m n e f g h=>by
 show v f.df λi a=>?_;show bw a ?_;show v (d.obj e g) λf a=>?_;show ci a λd=>?_;show v d.o2 λe a=>?_;show iQ a λd e f g=>?_;show wpAny_in_of (ua _ _ _ _) d e.mapOf (by rw[aN.isSome f g];show h b.heap _<|E.bd _)
def av.B2 {a:i}{b:be}(d:aq Y r (.bN b)):av Y .In (.str a) r (b.lookup a).isSome:=.mk λa b j k l m n e f g h=>by
 show v f.dN λj a=>?_;show bw a ?_;show v (d.obj e g) λf a=>?_;show ci a λd=>?_;show v d.mc λe a=>?_;show iQ a λd e f g=>?_;show wpAny_in_of (o4 _ _ _ _) d e.mapOf (by rw[aN.isSome f g];show h b.heap _<|E.bd _)
structure bO (Y:bc)(aQ:a3)(ds:dn)(af:j):Prop where
 go:∀(aJ:cV)(aa:aM)(bM:bX)(bv:bX)(a1:cv),dz aJ Y.n->cU Y aa.heap->aN Y.d (l aa.heap Y.X) a1 ds->
  (∀an h' a,E h' aa.heap->a9 Y.d (l h' Y.X) an af->bM an {aa with heap:=h',toks:=a})->ar Y.d.M aJ (dU aQ a1) bM bv aa
def R.jG {id:String}(j:R Y (.Name n o) (.val<| .builtin id))(k:W Y pos (m::b) ds)(l:bO Y (.builtin id) ds w)
 (p:bf (m::b) Y.J=(aj,eval m Y.J)::bf b Y.J) (q:(cX pos<|bf b Y.J).any (·.1)=aj)
 (s:eval (.Call (.Name n o) (m::b) [] pos) Y.J=(do dO pos (<-eval (.Name n o) Y.J) [] (cX pos<|bf (m::b) Y.J) (jH pos<|jI [] Y.J))):R Y (.Call (.Name n o) (m::b) [] pos) w:=.mk λa h t d e f u=>
 jb (j.go a h _ d e f λi b m g v=>by
  obtain rfl:=v.is;show mh (first:=[]) (k.go a _ _ d e (f.keep g) λj m n b o=>l.go a {h with heap:=m,toks:=n} t d j e ((f.keep g).keep b) o λi h' a h r=>u i h' a ((g.trans b).trans h) r) p q) s
def R.mX (j:R Y (.Name n o) (.val<| .type w))(k:W Y pos (m::b) ds)(l:bO Y (.type w) ds x)
 (p:bf (m::b) Y.J=(aj,eval m Y.J)::bf b Y.J) (q:(cX pos<|bf b Y.J).any (·.1)=aj)
 (s:eval (.Call (.Name n o) (m::b) [] pos) Y.J=(do dO pos (<-eval (.Name n o) Y.J) [] (cX pos<|bf (m::b) Y.J) (jH pos<|jI [] Y.J))):R Y (.Call (.Name n o) (m::b) [] pos) x:=.mk λa h t d e f u=>
 jb (j.go a h _ d e f λi b m g v=>by
  obtain rfl:=v.is;show II (k.go a _ _ d e (f.keep g) λj m n b o=>l.go a {h with heap:=m,toks:=n} t d j e ((f.keep g).keep b) o λi h' a h r=>u i h' a ((g.trans b).trans h) r) p q) s
def R.g5 (e:R Y (.Name n B) (.val<| .ref b))(u:Y.d.B.get? b=O o)(hd:o.data=.func S4)(v:W Y pos (w::m) ds)(y:bO Y (.ref b) ds S5)
 (C:bf (w::m) Y.J=(aj,eval w Y.J)::bf m Y.J) (I:(cX pos<|bf m Y.J).any (·.1)=aj)
 (D:eval (.Call (.Name n B) (w::m) [] pos) Y.J=(do dO pos (<-eval (.Name n B) Y.J) [] (cX pos<|bf (w::m) Y.J) (jH pos<|jI [] Y.J))):R Y (.Call (.Name n B) (w::m) [] pos) S5:=.mk λa g j d k h F=>
 jb (e.go a g _ d k h λp l q i G=>by
  obtain rfl:=G.is;have H:=uc (M:=Y.d.M) (A:=a) (E:=d) (f:=.ref b) (x:=eval w Y.J) (rest:=cX pos<|bf m Y.J)
   (Q:=λn e=>(e.heap.get? b=O o/\o.data=.func S4)/\ar Y.d.M a (dU (.ref b) ([]++n.pos) n.kw) j d e) (s:={g with heap:=l,toks:=q})
  have t:=v.go a {g with heap:=l,toks:=q} (λl e=>(e.heap.get? b=O o/\o.data=.func S4)/\ar Y.d.M a (dU (.ref b) ([]++l) []) j d e) d k (h.keep i) λl n q m v=>
   #[#[((h.keep i).keep m).fq _ _ u,hd],y.go a {g with heap:=n,toks:=q} j d l k ((h.keep i).keep m) v λp h' a b r=>F p h' a ((i.trans m).trans b) r]
  rw[C]at t ⊢;show xE<|H t) D
end
section
variable {cY:i5}{bp:fd}{aJ:cV}{bv:bX}{aa:aM}
theorem B3 {it e:T}{b:Array a3}(h:e≠it):∀(n a:Nat)(aa:aM)(d:cv->aM->Prop),aa.heap.IsListIter it e a->aa.heap.IsList e b->a+n<=b.size->
 (∀h',h'.IsListIter it e (a+n)->ia it aa.heap h'->d ((b.toList.drop a).take n) {aa with heap:=h'})->ar (b2 cY bp) aJ (draw (.ref it) n) d bv aa
 |0,a,aa,d,f,_,_,g=>by
  show(?_:ar _ _ (pure []) d bv aa);show ba (by simpa using g aa.heap f (ia.refl ..))
 |n+1,a,aa,d,f,i,j,g=>by
  have k:a<b.size:=by show bb [.C (.y G<| .Q t) N] 0 (.Q G) N V j
  show(?_:ar _ _ (rO (.ref it) >>= _) d bv aa);show ap (wpAny_pyNext_list_item f i (x:=b[a]) (by simp[k]) λe d l=>?_);show ap (g6<|B3 h n (a+1) _ _ d (i.extBut l.extBut h) (by show bb [.C (.y G<| .Q N) t] 0 (.y (.Q G) N) t V j) λm o p=>ba ?_);have hd:b.toList.drop a=b[a]::b.toList.drop (a+1):=by simp[rP,k]
  have:=g m (by rw[show a+(n+1)=a+1+n by simp+arith];show o)<|l.trans p;rw[hd,IJ]at this;show this
def IK {e:T}{a:Array a3}{f:cv->aM->Prop}(i:aJ.handled=c)(d:aa.heap.IsList e a)
 (j:∀h',xF aa.heap.objs.size aa.heap h'->f a.toList {aa with heap:=h'}):ar (b2 cY bp) aJ (xG (.ref e) a.size c) f bv aa:=by
 have g:e≠aa.heap.objs.size:=by obtain⟨o,k,_⟩:=d;show g7<|gl k
 unfold xG;show ap ?_
 .unfold notIterableAtAll;show ap<|t8 d.typeIs slot_list_iter.lookup ?_;show ba ?_;simp only[o6,if_false];show ap<|g6<|xH d ?_;show ap (g6<|B3 g a.size 0 _ _ #[_,dL _ V,V,V] (d.push _) (by simp+arith) λl m h=>?_);have n:List.take a.size (B4 0 a.toList)=a.toList:=by
   rw[qe];show o7 (by simp)
  rw[n];rw[if_neg<|by simp];have f:l.IsList e a:=(d.push _).extBut h.extBut g;show ap (g6<|wpAny_pyNext_list_end i m f (by simp) λp q=>?_);simp only[Option.isSome_none,o6,if_false];show ba<|j p λb o a d=>q b o a<|h.extBut b o a<|gk _ d
def IL {d:T}{b:Array a3}{a:List (Bool×(a3->ib Unit))}{e:lo}(f:aJ.handled=c)(g:aa.heap.IsList d b)
 (h:a.length=b.size) (i:a.findIdx? (·.1)=c)
 (j:∀h',xF aa.heap.objs.size aa.heap h'->ar (b2 cY bp) aJ (xI (a.map (·.2)) b.toList) e bv {aa with heap:=h'}):
 ar (b2 cY bp) aJ (unpack (.ref d) a) e bv aa:=by
 unfold unpack;rw[h,i];show ap<|g6<|IK f g j
def B5 {env:b1}{a:h6}{m}{pos:di}{d:T}{b:Array a3}{e:lo}(f:aJ.handled=c)(g:aa.heap.IsList d b)
 (h:(xJ a env).length=b.size) (i:(xJ a env).findIdx? (·.1)=c)
 (j:∀h',xF aa.heap.objs.size aa.heap h'->ar (b2 cY bp) aJ (xI ((xJ a env).map (·.2)) b.toList) e bv {aa with heap:=h'}):
 ar (b2 cY bp) aJ (lA (.Tuple a m pos) env<| .ref d) e bv aa:=by
 rw[assign_Tuple];show ap<|jJ<|IL f g h i j
end
noncomputable abbrev ud (b:h6)(a:b1):ib Bool:=forIn b z λq r=>if r=z then do let b <-nW q a (eval q a);pure (B6 b)else pure (B6 r)
section
variable {cY:i5}{bp:fd}{aJ:cV}{bv:bX}{aa:aM}{o8:aW}{ca:T}{aE:i->Option a3}{env:b1}
def IM {target:c4}(q:(∃h i,target=.Name h i)\/(∃j k l,target=.Tuple j k l)){m n:T}{o:Array a3}:
 ∀(e:Nat)(a:aW)(b:a3),(a.IsListIter m n e/\a.IsList n o)->o[e - 1]?=O b->∀(d:aM)(f:lo)(p:bX),d.heap=a->f () d->ar (b2 cY bp) aJ (o9 target (.ref m) b) f p d:=by
 intro e a b r _ d f p s g;subst s;rcases q with⟨h,i,rfl⟩|⟨j,k,l,rfl⟩
 .show ba g
 .cases b with
  |ref a=>show wpAny_letOwnedTupleGo_listiter r.1 g|_=>show ba g
end
abbrev cN (dA:aY)(al h':aW):Prop:=∀(b:T)(o:dF),b∉dA->al.get? b=O o->h'.get? b=O o
def cN.trans (a:cN m r h')(d:cN m h' w):cN m r w:=λb o n e=>d b o n<|a b o n e
def cN.dP {a h':aW}(d:cN dA a h')(e:∀f∈dA,f∈m):cN m a h':=λb o n a=>d b o (λf=>n<|e b f) a
def E.fM (a:E h' m)(d:aY):cN d m h':=λb o e d=>a b o d
def l.fM {b Z:aY}(d:cN b m h')(e:∀a∈b,a∈Z):E (l h' Z) (l m Z):=l.mS λa o n b=>d a o (λf=>n<|e a f) b
inductive fC (fs:aV)(Z:aY)(al:aW)(a:T)(ds:dn):Prop
 |mk (j9:Array a3) (n:Nat) (b:al.get? a=O {cls:=.type "list",data:=.seq j9 n}) (r:aN fs (l al Z) j9.toList ds):fC fs Z al a ds
section
variable {cY:i5}{bp:fd}{aJ:cV}
inductive mY (fs:aV)(dA Z:aY)(a:aW->Prop)(b:T)(aa:aM)(ds:dn)(d:aM):Prop
 |mk (h':aW) (e:fg) (f:d={aa with heap:=h',toks:=e}) (au:cN dA aa.heap h') (f:a h') (g:fC fs Z h' b ds):mY fs dA Z a b aa ds d
def IN (fs:aV)(aJ:cV)(dA Z:aY)(a:aW->Prop)(e:b1)(b cz:T)(o8:aW)(target:c4)(g:h6)(h:ib Unit)(n:Nat)(aB:Nat->a3->Prop)(o:Nat->dn):Prop:=
 ∀(L:Nat)(an:a3)(aa:aM)(d:bX),L<n->aB L an->cN (cz::dA) o8 aa.heap->(∃f,aa.heap.get? cz=O f)->a aa.heap->fC fs Z aa.heap b (o L)->
  ar fs.M aJ (lA target e an) (λi j=>ar fs.M aJ (ud g e) (λk f=>if k=z then ar fs.M aJ h (λi e=>mY fs dA Z a b aa (o<|L+1) e) d f else mY fs dA Z a b aa (o<|L+1) f) d j) d aa
inductive xK (fs:aV)(dA Z:aY)(a:aW->Prop)(cz b:T)(u:Nat->aW->Prop)(n:Nat)(o:Nat->dn)(aa:aM)(cC:Nat)(bR:aM):Prop
 |mk (h':aW) (d:fg) (L:Nat) (e:bR={aa with heap:=h',toks:=d}) (e:L<=n) (f:cC=n+1 - L) (g:u L h') (au:cN (cz::dA) aa.heap h') (h:a h') (i:fC fs Z h' b (o L)):xK fs dA Z a cz b u n o aa cC bR
def B7 {fs:aV}{j:Nat->aW->Prop}{C:ue->aM->Prop}(h:aY)(g:aW->Prop)
 (P:n1 w S5 (.ref m) (.ref x) B=(do
  ep Ts
  match <-rO (.ref m)with
  |none=>pure<| .done .next
  |some S4=>
   o9 target (.ref m) S4
   lA target B S4
   let mut S6:=z
   for S7 in S9 do
    if S6 then S6 <-nW S7 B (eval S7 B)
   if S6 then Ta
   again (.compLoop w S5 (.ref m) (.ref x) B)))
 (Q:(jK w S5 (.ref m) (.ref x) B).isFrame=aj) (R:aJ.under (.compLoop w S5 (.ref m) (.ref x) B)=aJ)
 (p:Walks fs.prog fs.w aJ m Tb [m] n S8 j) (S:∀a d,j a d->∃o,d.get? m=O o)
 (T:∀a d S4,j a d->S8 (a - 1) S4->∀(q:aM)(D:lo)(U:bX),q.heap=d->D () q->ar fs.M aJ (o9 target (.ref m) S4) D U q)
 (E:∀W∈h,W∉Tb) (X:m∈Z) (Y:x∈h) (Tc:∀d h',g d->cN [m] d h'->g h')
 (Td:j 0 M.heap) (Te:g M.heap) (Tf:fC fs Z M.heap x (o 0))
 (Tg:IN fs aJ h Z g B x m M.heap target S9 Ta n S8 o)
 (Th:∀d F,cN (m::h) M.heap d->g d->fC fs Z d x (o n)->C (.ok .next) {M with heap:=d,toks:=F}):
 hR fs.M aJ (.compLoop w S5 (.ref m) (.ref x) B) C M:=by
 show codeAny_loop H (xK fs h Z g m x j n o M) ?_ (n+1) #[M.heap,M.toks,0,V,ew _,V,Td,λf f f w=>w,Te,Tf];rintro d q ⟨h',F,a,rfl,Ti,rfl,G,Tj,Tk,Tl⟩;mspec R;show ar _ aJ (if(jK w S5 (.ref m) (.ref x) B).isFrame then(n1 w S5 (.ref m) (.ref x) B).onRaise (qf B)else(n1 w S5 (.ref m) (.ref x) B).onRaise (λd=>do uf d B;theTreesLotGoes d)) _ _ _;mspec Q;show wpAny_noted ?_;mspec P;show ap<|jJ<|ap ?_;have I:∀e,(∀b o,b∉[m]->h'.get? b=O o->e.get? b=O o)->cN (m::h) M.heap e/\g e/\fC fs Z e x (o a):=λe s=>#[Tj.trans<|cN.dP (dA:=[m]) s<|h8 ao,Tc _ _ Tk s,by
  obtain⟨Tm,t,w,r⟩:=Tl;show#[Tm,t,s _ _ (eM<|λt=>E _ Y<|t▸p.sub m (kF.mpr V)) w,r.keep<|l.fM s<|h8 X]]
 by_cases k:a<n
 .show p.item a _ _ _ k G λS4 e u J v y=>?_;show ap<|T (a+1) e S4 v J _ _ _ V<|ap ?_;have i:=I e y;have K:∀d:aM,mY fs h Z g x {M with heap:=e,toks:=u} (o<|a+1) d->∃q,q<n+1 - a/\xK fs h Z g m x j n o M q d:=by
   rintro d ⟨Tn,To,rfl,L,Tp,Tq⟩;show#[n+1 - (a+1),B8 (qg k)<|fA a,Tn,To,a+1,V,k,V,p.frame _ _ _ v λb g o w=>L b o (λd=>E b d g) w,i.1.trans<|L.dP λf d=>A d,Tp,Tq]
  show dq (Tg a S4 _ _ k J i.1 (S _ _ v) i.2.1 i.2.2) (λf g d=>ap<|dq d (λS6 Tr N=>?_) λf f w=>w) λf f w=>w;cases S6 with
  |true=>show ap<|dq N (λf d g=>ba #[V,K d g]) λf f w=>w
  |false=>show ap<|ba<|ba #[V,K Tr N]
 .obtain rfl:a=n:=cZ Ti<|g8.mp k;show p.done _ _ _ G λe u y=>ba ?_;have i:=I e y;show Th e u i.1 i.2.1 i.2.2
end
def xL {b:Type}{ds:List b}{d:b->j}{e:Nat}{f:Prop}(g:∃a,(ds.map d)[e]?=O a/\a9 m n o a)(h:∀a,ds[e]?=O a->a∈ds->a9 m n o (d a)->f):f:=by
 obtain⟨b,hd,i⟩:=g;rw[e6,f2]at hd;obtain⟨a,hd,rfl⟩:=hd;show h a hd (ic hd) i
def ug {a:ScopeKind}{b:Bool}(d:a=.function):(a==.class||a==.module&&b)=aj:=by subst d;rfl
structure uh (Y:bc)(d:c4)(ds:dn)(bp:T->Prop)(b:aW)(cz:T)(a:aY)(aB:Nat->a3->Prop)(ce:Nat->aW->Prop)(al:aW):Prop where
 n3:b.get? cz=c
 W:∀qh,qh.handled=c->Walks Y.d.prog Y.d.w qh cz a [cz] ds.length aB ce
 xM:ce 0 al
 rQ:∀L al,ce L al->∃o,al.get? cz=O o
 lt:∀ac∈a,ac<al.objs.size/\(ac=cz\/∃o,b.get? ac=O o)
 B9:∀ac∈a,ac=cz\/ac∉Y.X\/bp ac
 k:E al b
 val:∀L an,aB L an->L<ds.length->∃af,ds[L]?=O af/\a9 Y.d (l b Y.X) an af
 xN:∀qh L al an,ce L al->aB (L - 1) an->∀(bR:aM)(a:lo)(e:bX),bR.heap=al->a () bR->ar Y.d.M qh (o9 d (.ref cz) an) a e bR
structure cA (Y:bc)(a:c4)(r:j)(ds:dn):Prop where
 go:∀(aJ:cV)(aa:aM)(bM:bX)(bv:bX)(ae:a3),dz aJ Y.n->cU Y aa.heap->a9 Y.d (l aa.heap Y.X) ae r->
  (∀cz b aB ce h',uh Y a ds (λac=>r=.val (.ref ac)) aa.heap cz b aB ce h'->bM (.ref cz) {aa with heap:=h'})->ar Y.d.M aJ (ui ae) bM bv aa
def IO (a:(rR m b)=z):∃d,b=.int m d:=by
 cases b<;>simp[rR]at a
 subst a;show#[_,V]
def IP (a:(IQ m b)=z):∃d,b=.str m d:=by
 cases b<;>simp[IQ]at a
 subst a;show#[_,V]
def d3 {al:aW}:al.get? al.objs.size=c:=by
 cases e:al.get? al.objs.size with
 |none=>rfl|some o=>show absurd (gl e)<|mQ _
section
variable {Y:bc}
def aq.xO (d:aq Y r w)(h:a9 Y.d (l n Y.X) (.ref m) r):m∉Y.X\/r=.val (.ref m):=by
 have f:=h.is;rcases d with⟨rfl,k⟩|⟨b,rfl,_⟩|⟨b,o,rfl,_⟩
 .show .inl λi=>?_;have g:(l n Y.X).get? m=c:=cT _ i;clear h i;cases r with
  |list _=>show f4 f λa a e h a=>?_;show v h λa d=>?_;show b5 g<|uj e▸d
  |bQ _=>show f4 f λa a e h a=>?_;show aX h λa d a=>?_;show b5 g<|uj e▸d
  |dict _=>show l5 f λa a e a h a=>?_;show eW h λa a a d a=>?_;show b5 g<|uj e▸d
  |bN _=>show l5 f λa a e a h a=>?_;show eW h λa a a d a=>?_;show b5 g<|uj e▸d
  |_=>show k.elim
 .show .inr<|congrArg j.val f.symm
 .show .inr<|congrArg j.val f.symm
def rS {a:aW}(d:∃o,a.get? m=O o):∀b∈[a.objs.size,m],b<(a.push n).objs.size/\(b=a.objs.size\/∃o,a.get? b=O o):=λb e=>by
 rw[mi];show aw (a4 e) (λf=>?_) λe=>?_
 .obtain rfl:=f;show#[fA _,.inl V]
 .mspec bW e;show#[qg (by show v d λa d=>?_;show gl d),.inr d]
def uk {X:aY}{d:T->Prop}(e:m∉X\/d m):∀b∈[n,m],b=n\/b∉X\/d b:=λb a=>by
 show aw (a4 a) (λf=>?_) λa=>?_
 .obtain rfl:=f;show .inl V
 .show(bW a)▸ .inr e
def cA.list {g:c4}{r:j}(x:(∃h i,g=.Name h i)\/(∃k p q,g=.Tuple k p q))(l:aq Y r (.list ds)):cA Y g r ds:=.mk λg d i k h p s m y=>by
 obtain⟨f,rfl,B⟩:=l.obj s m;show v B.ey λb h=>?_;show am h λi n=>?_;have p:=PlainList.fV i;have B:f<d.heap.objs.size:=by show v i λC g=>?_;show gl g
 show xH p ?_;show y d.heap.objs.size [d.heap.objs.size,f] (λa q=>b.toArray[a]?=O q) (λa k=>k.IsListIter d.heap.objs.size f a/\k.IsList f b.toArray) _ #[d3,(λs y=>?_),#[(fo _ (dL _ e) V rfl),p.push _],
  (λa k p=>by show v p.1 λo h=>?_;show am h λg C=>?_;show dm o g),rS (let#[_,g]:=i;#[_,g]),uk<|l.xO m,(E.push _ _),(λa q t u=>?_),(λs=>IM x)]
 .have:=Walks.list (prog:=Y.d.prog) (w:=Y.d.w) (A:=s) y d.heap.objs.size f (g7 B) b.toArray;rw[(by simpa using n.length:b.toArray.size=ds.length)]at this;show this
 .obtain⟨d,D,F⟩:=n.get<|gm u;rw[show b.toArray[a]?=b[a]? by simp,D]at t;cases t;show as _ (gm u) F
def cA.dict {a:i}{b:di}(q:aq Y r (.dict bE)):cA Y (.Name a b) r (bE.map λf=>.int f.1):=.mk λa k b n s p g t l=>by
 obtain⟨m,rfl,h⟩:=q.obj g t;show v h.o2 λg a=>?_;show iQ a λb u w h=>?_;show v u.dictAt λx n=>?_;show wpAny_pyIter_dict b n ?_;have y:g.length=(bE.map λf=>j.int f.1).length:=by have:=congrArg fN w;simpa using this
 show l k.heap.objs.size [k.heap.objs.size,m] (λb p=>∃d s,g[b]?=O (d,s)/\(mT Y.d.prog Y.d.w).is d p=z) (λb h=>h.IsKeyIter k.heap.objs.size m b g.length x/\h.DictAt (mT Y.d.prog Y.d.w) m g x) _ #[d3,(λs A=>?_),
  #[(fo _ (dL _ e) V rfl),n.push _],(λb h g=>by show v g.1 λo a=>?_;show am a λg k=>?_;show dm o g),rS (let#[o,_,_,g,_]:=u;#[o,g]),uk<|q.xO t,(E.push _ _),(λb p m u=>?_),(λs b h p k k g q t k l=>ba l)]
 .show y▸IR A _ _ (g7 n.lt_size) _ _
 .show cm m λd g a=>?_;show am a λB m=>?_;show v (IO m) λC a=>?_;show bw a ?_;have:(bE.map (·.1))[b]?=O d:=by show ch w ?_;simp[B]
  show as (.int d) ?_<| .int d C;simp only[e6,f2]at this ⊢;obtain⟨f,D,rfl⟩:=this;show as f D V
noncomputable def el (ac b:Int):h:=(h7 (b - ac).toNat).map λ(L:Nat)=>ac+(L:Int)
def cA.rT {a b:Int}(m: -(2^62)<=a)(p:a<2^62)(g: -(2^62)<=b)(s:b<2^62):cA Y (.Name w x) (.iz a b 1) ((el a b).map .int):=.mk λw h x y A B C t i=>by
 show j5 t.is λf f f f k=>?_;show ci k λt=>?_
 .show IS (l.of _ _ t) (small_one m p g s) ?_;have q:((el a b).map j.int).length=(b - a).toNat:=by simp[el]
  have u:Ca a b 1=(((b - a).toNat:Nat):Int):=by rw[rangeSize_one];split<;>grind
  show i h.heap.objs.size [h.heap.objs.size] (λd m=>∃n,m=.int (a+d*1) n) (λd p=>ul p h.heap.objs.size (a+(d:Nat)*1) (((b - a).toNat:Int) - (d:Nat)) 1) _ #[d3,(λs t=>?_),
   ?_,(λd p w=>#[_,w]),(λb g=>?_),(λb g=>.inl<|bW g),(E.push _ _),(λd m w r=>?_),(λs d p m f f x y A f i=>ba i)]
  .show q▸Walks.range t _ _ _ _
  .mspec u;simpa[ul]using(dL h.heap (o:={cls:=.type "range_iterator",data:=.fields (aRR [d4 a,d4 (((b - a).toNat:Nat):Int),d4 1])}) e)
  .rw[mi];mspec bW g;show#[fA _,.inl V]
  .show v w λn k=>?_;show bw k ?_;rw[q]at r;show as (.int<|a+d*1) ?_<| .int _ n;simp[el,rU r]
inductive jL:c4->j->be->Prop
 |name (ae a af):jL (.Name ae a) af [(ae,af)]|n4 {ae bu a d s e ac b}:ae≠bu->jL (.Tuple [.Name ae a,.Name bu d] s e) (.list [ac,b]) [(ae,ac),(bu,b)]
def jL.assign {t:c4}{af:j}{k:be}(I:jL t af k){d:aM}{p:a3}{u:i->Option a3}
 (J:M.handled=c) (a:(env.scope.kind==.class||(env.scope.kind==.module&&env.locals !=env.globals))=aj) (q:∀f∈k,env.kindOf f.1=O .local) (v:env.locals∈Z) (w:a9 x (l d.heap Z) p af) (y:d.heap.Ns env.locals u)
 (B:∀h' K s,cN [env.locals] d.heap h'->h'.Ns env.locals s->(∀f∈k,∃C,s f.1=O C/\a9 x (l h' Z) C f.2)->(∀g,g∉k.map (·.1)->s g=u g)->S4 () {d with heap:=h',toks:=K}):ar x.M M (lA t env p) S4 S5 d:=by
 cases I with
 |name g L af=>
  show iA<|xP (q _ ao) y (λm k s=>?_) a;have h:cN [env.locals] d.heap m:=λb o n e=>s.extBut b o (by simpa using n) e;show B m _ _ h k (λf a=>?_) λD F=>by simp at F;simp[F]
  mspec bW a;show as p (by simp)<|w.keep<|l.fM h<|h8 v
 |@n4 g D L k p s t b N=>
  show cm w.is λg g k=>?_;show eN k λQ r=>?_;obtain⟨_,_,rfl,R,S⟩:=r.eT;show B5 J (PlainList.fV (let#[n,e]:=Q;#[n,l.of _ _ e])) V rfl λm k=>?_;have g:E m d.heap:=λb o e=>k b o (g7<|gl e) e;show n5<|iA<|xP (q _ ao) (y.keeps g) (λk m p=>?_) a;show n5<|iA<|xP (q (D,b)<|A ao) m (λk s t=>?_) a;show xQ ?_;have h:cN [env.locals] d.heap k:=λb o n e=>t.extBut b o (by simpa using n) (p.extBut b o (by simpa using n)<|g b o e);show B k _ _ h s (λf a=>?_) λd G=>by simp at G;simp[G]
  have H:=l.fM (Z:=Z) h<|h8 v;rcases a4 a with rfl|a
  .show as _ (by simp[N])<|R.keep H
  .mspec bW a;show as _ (by simp)<|S.keep H
noncomputable def mj (Y:bc)(a:h6)(b:Bool):Prop:=match a with
 |[]=>b=z|[q]=>aZ Y q b|_=>False
def mj.run (a:mj Y n b)(e:dz o Y.n)(f:cU Y m.heap)
 (d:∀h' g,E h' m.heap->r b {m with heap:=h',toks:=g}):ar Y.d.M o (ud n Y.J) r w m:=by
 match n,a with
 |[],a=>have h':b=z:=a;subst h';show Cb<|d m.heap m.toks<|E.bd _
 |[g],a=>show wpAny_tests_one<|a.go o m r w e f d
def hA (env:b1)(a:jM)(b:List (i×T))(ae:i):Prop:=
 env.cells.lookup ae=b.lookup ae/\(env.kindOf ae=O .cell\/env.kindOf ae=O .free)/\((mZ a env).names.lookup ae=O .cell\/(mZ a env).names.lookup ae=O .free)
def nT.IT (b:hA env o n m)(d:nT r w m env):nT r w m (jN o n x env):=by
 show cd b λe a f=>?_;show aw d (λg=>?_) λh=>?_
 .show am g λd i=>?_;rcases a with a|a<;>rw[d]at a<;>cases a
 .show v h λb a=>?_;show cd a λi d g=>?_;show .inr (fo b f (by show e▸d:n.lookup m=O b) g)
noncomputable abbrev eP (Y:bc)(a:jM)(b:List (i×T))(U:T)(Z:aY)(Γ:be):bc:=#[Y.d,Y.n,jN a b U Y.J,Z,Γ,Y.D]
def cU.eP (f:cU Y o8)(g:E m o8)(j:∀a∈dA,o8.get? a=c/\∃o,m.get? a=O o)(p:n.kind=.function)
 (q:m.Ns w b) (s:∀e∈cO,n.names.lookup e.1=O .local) (t:∀d∈cO,∃h,b d.1=O h/\a9 Y.d (l m<|dA++Y.X) h d.2) (u:∀e∈x,e∈Y.p/\hA Y.J n B e.1):cU (eP Y n B w (dA++Y.X)<|cO++x) m:=by
 have i:E (l m<|dA++Y.X) (l o8 Y.X):=λa o e=>by
  have k:=l.of _ _ e;show cb _ (g a o k) λb=>?_;show cK b (λb=>?_) λb=>?_
  .show b5 ((j a b).1) k
  .show b5 (cT _ b) e
 show{
  base:=f.base.trans i
  cw:=λa b=>by
   show cK b (λb=>?_) λb=>?_
   .show(j a b).2
   .show v (f.cw a b) λo e=>?_;show dm o (g _ _ e)
  d8:=λd e=>by
   show cK e (λe=>?_) λe=>?_
   .show v (t d e) λh j=>?_;show am j λk m=>?_;show as h (.inl #[um<|s d e,b,q,k]) m
   .show am (u d e) λb h=>?_;show v (f.d8 d b) λk j=>?_;show am j λb m=>?_;show as k ((b.IT h).keep g) (m.keep i)
  D:=λd e=>by
   show am (f.D d e) λa r=>?_;show#[bA a,r.keep i g]
  kind:=p}
def aN.push {a:Array a3}(r:aN b m a.toList ds)(d:a9 b m n o):aN b m (a.push n).toList (ds++[o]):=by
 mspec Array.toList_push;show r.append<| .cons d .nil
noncomputable def kS {a:Type}(ai:a->Bool)(n6:a->j)(ds:List a)(L:Nat):dn:=((ds.take L).filter ai).map n6
def Cc (a:ds[m]?=O n):kS b o ds (m+1)=if b n then kS b o ds m++[o n]else kS b o ds m:=by
 unfold kS;mspec qi;mspec a;cases h:b n<;>simp[rV,h]
def Cd:(kS m n ds b).length<=ds.length:=by
 unfold kS;rw[a6];show a5 (qj _ _) (by mspec g9;show(ml b ds.length))
structure jc (Y:bc)(b iter:c4)(ds:dn)(bp:T->Prop):Prop where
 go:∀(aJ:cV)(aa:aM)(bM:bX)(bv:bX),dz aJ Y.n->cU Y aa.heap->
  (∀dQ d cz e aB ce a,E dQ aa.heap->uh Y b ds bp dQ cz e aB ce a->bM (.ref cz) {aa with heap:=a,toks:=d})->ar Y.d.M aJ (eval iter Y.J) (λae a=>ar Y.d.M aJ (ui ae) bM bv a) bv aa
def jc.of (j:R Y iter r)(k:cA Y b r ds):jc Y b iter ds λa=>r=.val (.ref a):=.mk λa b g d e f l=>
 j.go a b _ d e f λm g h i n=>k.go a {b with heap:=g,toks:=h} _ d m e (f.keep i) n λa b j k o it=>l g h a b j k o i it
def IU
 (a:o {scope:=m,locals:=b.heap.objs.size,globals:=globals,cells:=iB (b.heap.objs.size+1) m.names r,qual:=w,func:=c,code:=n.code,frame:=n.frame,builtins:=n.builtins}
  {b with heap:=n7 (b.heap.push {cls:=.type "dict",data:=.dict (aRR [])}) m.names}):
 ar (b2 x B) M (newFunctionEnv m globals r [] w c .none<|O n) o S4 b:=by
 simp only[newFunctionEnv,Option.isSome_some,if_true];show ap<|wpAny_alloc ?_;show ap (wpAny_layCells _ (λe d m=>by cases hkc:d==NameKind.cell<;>simp[hkc]) _ _ _ _ ?_);mspec show({b with heap:=b.heap.push {cls:=.type "dict",data:=.dict (aRR [])}}:aM).heap.objs.size=b.heap.objs.size+1 from mi ..
 show ap ?_;mspec IV;show ba<|ba a
def xR (b:∀a∈m,a.2≠ .cell)(n:Nat)(d:List (i×T)):iB n m d=d:=by
 induction m with
 |nil=>rfl|cons a r e=>
  have f:=b a ao;obtain⟨d,g⟩:=a;cases g with
  |cell=>show absurd V f|_=>show e λa d=>b a<|A d
structure Ce (dQ:aW)(cz:T)(d:aY)(U a:T)(al:aW):Prop where
 kT:∀b,a<=b->dQ.get? b=c/\b∉d/\cz≠b
 kU:U=a+1
 k:E al dQ
 ns:al.Ns U λd=>c
 xS:al.get? a=O {cls:=.type "list",data:=.seq (aRR [])}
def un {t:Nat->List (i×T)}
 (y:iT m Y.J=pure M) (A:∀n,iB n m.names M=t n) (C:m.kind=.function) (D:∀u∈m.names,u.2=.local->m.names.lookup u.1=O .local)
 (F:jc Y target iter ds S4) (G:∀v,iC iter Y.J v=pure v)
 (x:dz r Y.n) (H:cU Y w.heap)
 (body:∀f p a h q j d l g s,E f w.heap->l.objs.size=g+1->uh Y target ds S4 f a h q j d->Ce f a h g s (n7 l m.names)->j 0 (n7 l m.names)->
  hR Y.d.M r (.compLoop (.ListComp S5 (#[target,iter,S6,0]::S7) m pos) 0 (.ref a) (.ref s)<|jN m (t<|g+1) g Y.J) (xT Y.d.M r B ie S8 (.ref s) g) {w with heap:=n7 l m.names,toks:=p}):
 ar Y.d.M r (xU (.ListComp S5 (#[target,iter,S6,0]::S7) m pos) m Y.J S9 (uo []) aj (eval iter Y.J) ie) S8 B w:=by
 show wpAny_comprehension_free (use:=ie) V G y C D<|F.go r w _ B x H λf p a h q j d s it=>uq<|IU ?_;rw[A];have g:=it.W r x.handled;have r:E (n7 ((d.push {cls:=.type "list",dict:=c,data:=.seq ([]:cv).toArray}).push {cls:=.type "dict",data:=.dict (aRR [])}) m.names) d:=λb o l=>Cf _ _ _ _<|gk _<|gk _ l;have m:=g.frame _ _ _ it.xM λb t o l=>r b o l;have b:=body f p a h q j d _ _ d.objs.size s (mi _ _) it {
  kT:=λb d=>cG (ls it.k<|qk d) (λf=>g8.mpr d (it.lt b f).1) (g7<|nR (it.lt a<|g.sub a<|kF.mpr V).1 d)
  kU:=mi _ _
  k:=it.k.trans r
  ns:=(aW.Ns.new _<| .type "dict").keeps (Cf _ _)
  xS:=Cf _ _ _ _<|gk _<|dL _ e} m
 show codeAny_compStart_list b<|g.self 0 _ _ _ m b
def fC.fM {b h':aW}(a:fC w Z b m ds)(d:cN o b h')(n:m∉o)(e:∀a∈o,a∈Z):fC w Z h' m ds:=by
 obtain⟨f,g,h,r⟩:=a;show#[f,g,d _ _ n h,r.keep<|l.fM d e]
def fC.sub (a:fC b Z m n ds)(d:∀a∈o,a∈Z):fC b o m n ds:=by
 obtain⟨e,f,g,r⟩:=a;show#[e,f,g,r.keep<|l.sub d]
def ur {d:aY}{e:T->Prop}{f h':aW}{b:T}(g:∀a∈d,e a/\∃o,f.get? a=O o)(h:cN [b] f h')(i:∃o,h'.get? b=O o):∀a∈d,e a/\∃o,h'.get? a=O o:=λa d=>#[(g a d).1,by
 by_cases e:a=b
 .show e▸i
 .show(g a d).2.imp λo b=>h _ _ (eM e) b]
def xV {s:aM}{H:ue->aM->Prop}{I:Type}{ds:List I}{J:I->j}{S:T->Prop}{p U:aW}{f K a:T}{L:aY}{V:Nat->a3->Prop}{M:Nat->aW->Prop}
 (it:uh Y target (ds.map J) S p f L V M U) (u:Ce p f L K a s.heap) (W:M 0 s.heap) (X:r.handled=c) (h:aY) (S4:∀x∈h,K<=x) (k:aW->Prop) (t:k s.heap) (S5:∀g h',k g->cN [f] g h'->k h') (S6:∀g,k g->∀x∈h,∃o,g.get? x=O o) {o:Nat->dn} (S7:o 0=[])
 (S8:n1 m 0 (.ref f) (.ref a) n=(do
  ep Tj
  match <-rO (.ref f)with
  |none=>pure<| .done .next
  |some w=>
   o9 target (.ref f) w
   lA target n w
   let mut B:=z
   for x in S9 do
    if B then B <-nW x n (eval x n)
   if B then Ta
   again (.compLoop m 0 (.ref f) (.ref a) n)))
 (Tb:(jK m 0 (.ref f) (.ref a) n).isFrame=aj) (Tc:r.under (.compLoop m 0 (.ref f) (.ref a) n)=r)
 (Td:∀q v w(i:aM)(y:bX),ds[q]?=O v->v∈ds->E i.heap p->k i.heap->(∀e∈f::a::h,p.get? e=c/\∃o,i.heap.get? e=O o)->a9 Y.d (l i.heap<|(f::a::h)++Y.X) w (J v)->fC Y.d ((f::a::h)++Y.X) i.heap a (o q)->
  ar Y.d.M r (lA target n w) (λTe Tf=>ar Y.d.M r (ud S9 n) (λB N=>if B=z then ar Y.d.M r Ta (λTe Tg=>mY Y.d (a::h) ((f::a::h)++Y.X) k a i (o<|q+1) Tg) y N else mY Y.d (a::h) ((f::a::h)++Y.X) k a i (o<|q+1) N) y Tf) y i)
 (Th:∀g D,E g p->k g->fC Y.d ((f::a::h)++Y.X) g a (o ds.length)->H (.ok .next) {s with heap:=g,toks:=D}):
 hR Y.d.M r (.compLoop m 0 (.ref f) (.ref a) n) H s:=by
 have P:∀e∈a::h,a<=e:=λe d=>by
  show gh d ?_ λd=>?_
  .show cg _
  .show a5 (iD<|u.kU▸fA _)<|S4 e d
 have F:∀e∈f::a::h,p.get? e=c:=λe d=>by
  show aw (a4 d) (λG=>?_) λd=>?_
  .obtain rfl:=G;show it.n3
  .show(u.kT e<|P e d).1
 have Q:∀g,cN (f::a::h) s.heap g->E g p:=λg A b o m=>A b o (λd=>b5 (F b d) m)<|u.k b o m;show B7 (fs:=Y.d) (Z:=(f::a::h)++Y.X) (a::h) k (o:=o) S8 Tb Tc (it.W r X) it.rQ (it.xN r) (λe d=>(u.kT e<|P e d).2.1) ao ao S5 W t (S7▸#[(aRR []),0,u.xS,.nil]) ?_ ?_
 .intro q w i y a f A Ti t C;have R:=Q _ A;show xL (it.val q w f a) λv hd h k=>Td q v w i y hd h R t (λe d=>#[F e d,?_]) (k.keep λe o m=>?_) C
  .show aw (a4 d) (λG=>?_) λd=>?_
   .obtain rfl:=G;show Ti
   .rcases a4 d with rfl|d
    .obtain⟨_,_,m,_⟩:=C;show dm _ m
    .show S6 _ t e d
  .have a:=l.of _ _ m;show cb _ (R e o a) λd=>cK d (λd=>b5 (F e d) a) λd=>b5 (cT _ d) m
 .intro g D A t C;rw[a6]at C;show Th g D (Q _ A) t C
def xW (e:cU Y w)(g:dz x Y.n)(p:mj Y S7 b)(q:b=z->R Y S8 S9)(s:fC Y.d Y.X w m ds)(t:ds.length<=aC)
 (u:m∈B) (v:m∈Y.X) (h:∀h',cN [m] w h'->S4 h') (i:cN B M.heap w) (hd:S5=if b then ds++[S9]else ds):
 ar Y.d.M x (ud S7 Y.J) (λe j=>if e=z then ar Y.d.M x (do let _ <-dU (.builtin "list.append") [.ref m,<-eval S8 Y.J]) (λK y=>mY Y.d B Y.X S4 m M S5 y) S6 j else mY Y.d B Y.X S4 m M S5 j) S6 {M with heap:=w,toks:=Ta}:=by
 obtain⟨A,n,a,r⟩:=s;show p.run g e λC D d=>?_;cases b with
 |false=>show#[C,D,V,λb o n a=>d b o<|i b o n a,h _<|d.fM _,hd▸#[A,n,d _ _ a,r.keep<|l.keep _ d]]
 |true=>
  show ap<|(q H).go x _ _ S6 g (e.keep d) λp E F j G=>ap ?_;have f:=d.trans j;show us (f _ _ a) (λk I J=>ba ?_) (by have:=r.length;rw[rW]at this;show this▸t);have d:cN [m] E k:=λb o n a=>I.extBut b o (λe=>n<|e▸kF.mpr V) a;have e:=l.fM d<|h8 v;show#[k,F,V,λb o n a=>d b o (λg=>n<|bW g▸u)<|f b o<|i b o n a,h _ λb o n a=>d b o n<|f b o a,hd▸#[_,_,J,aN.push ((r.keep<|l.keep _ f).keep e)<|G.keep e]]
def ut {l:h6}{f:jM}{p:List (i×T)}{e:Type}{ds:List e}{s:e->j}{t:e->be}(y:be)(u:e->Bool)(A:e->j)
 (C:iT f Y.J=pure p) (D:∀g∈f.names,g.2≠ .cell) (F:f.kind=.function) (I:∀g∈f.names,g.2=.local->f.names.lookup g.1=O .local)
 (J:jc Y target iter (ds.map s) S7) (P:ds.length<=aC) (L:∀a∈ds,jL target (s a) (t a)) (M:∀a∈ds,∀q∈t a,f.names.lookup q.1=O .local)
 (Q:∀q∈y,q∈Y.p/\hA Y.J f p q.1)
 (S:∀d Z a,a∈ds->mj (eP Y f p d Z<|t a++y) l (u a))
 (U:∀d Z a,a∈ds->u a=z->R (eP Y f p d Z<|t a++y) S4 (A a))
 (K:∀r,iC iter Y.J r=pure r) (W:∀w it x env,(jK (.ListComp S4 [#[target,iter,l,0]] f pos) w it x env).isFrame=aj)
 {bM:bX} (B:dz S5 Y.n) (N:cU Y m.heap)
 (X:∀h G H k d,m.heap.get? d=c->m.heap.get? k=c->k≠d->E h m.heap->h.Ns d H->fC Y.d (d::k::Y.X) h k ((ds.filter u).map A)->xT Y.d.M S5 S6 ie bM (.ref k) d (.ok .next) {m with heap:=h,toks:=G}):
 ar Y.d.M S5 (xU (.ListComp S4 [#[target,iter,l,0]] f pos) f Y.J S8 (uo []) aj (eval iter Y.J) ie) bM S6 m:=by
 show un C (λn=>xR D n p) F I J K B N λe l S4 S5 S6 S7 S8 S9 d k C m it s g=>?_;have I:=s.kT d<|s.kU▸lB _;have J:k≠d:=s.kU▸g7 (fA _);show xV it s g B.handled [d] (λD e=>ay (bW e).symm) (λh=>∃e,h.Ns d e) #[_,s.ns] (λh h' r w=>r.imp λe g=>g.at' λo l=>w _ o (eM I.2.2.symm) l) (λh r D e=>by mspec bW e;show v r λe g=>?_;show kK g λo m m K=>?_;show am K λl m=>?_;show dm o l) (o:=kS u A ds) V (Cg _ _ _ _ _ _ _ _ _) (W _ _ _ _) V (λD a S8 S9 Ta hd r S5 g S6 S7 x=>?_) λh G w g x=>?_
 .show v g λe g=>?_;show(L a r).assign B.handled (ug F) (λq W=>um<|M a r q W) i6 S7 g λTa Tb S8 D L S9 m=>?_;show xW (Y:=eP Y f p d ([S4,k,d]++Y.X)<|t a++y) ((N.keep C).eP (λb o l=>D b o (eM λf=>b5 I.1<|f▸l)<|S5 b o l) (ur S6 D (by show kK L λo m m K=>?_;show am K λl m=>?_;show dm o l)) F L (M a r) S9 Q) B (S d _ a r) (U d _ a r) (x.fM D (eM J)<|h8 i6) (a5 Cd P) ao l0 (λh' f=>#[S8,L.at' λo l=>f _ o (eM J.symm) l]) (D.dP<|h8 l0)<|Cc hd
 .show v g λH g=>?_;show X h G H k d (ls C I.1) (ls C (s.kT k<|cg _).1) J (C.trans w) g ((by unfold kS;show aI iU V:kS u A ds ds.length=_)▸x.sub λa e=>gh e i6 λe=>gh e l0 λe=>bA e)
def fC.dV (a:fC b (m::x::X) o w ds):fC b (m::X) o w ds:=by
 obtain⟨d,n,e,r⟩:=a;show#[d,n,e,r.keep<|l.sub λa b=>(d1 b).elim (λa=>a▸ao) λa=>A<|A a]
def fC.uu {a d:T}{ds:dn}(f:fC x (a::X) m d ds)(h:ia a m w)(i:d≠a)(j:d∉X):a9 x (l w X) (.ref d) (.list ds):=by
 obtain⟨k,n,e,r⟩:=f;have g:cN [a] m w:=λb o n e=>h.extBut b o (by simpa using n) e;show a9.list (a1:=k.toList) #[n,?_] ((r.keep<|l.fM g<|by simp).keep<|l.sub (by intro f a;show A a));show cb _ (by simpa using g _ _ (eM i) e) j
def mm (a:cU Y b)(d:b.get? m=c):m∉Y.X:=λb=>by
 show v (a.cw _ b) λo e=>?_;show b5 d e
def uv (d:E h' m)(e:ia n h' r)(f:m.get? n=c):E r m:=λb o a=>
 e.extBut b o (λg=>by rw[g,f]at a;cases a) (d b o a)
def R.iE {e:Type}{ds:List e}{dD:e->j}{cO:e->be}(f:be)(g:e->Bool)(k:e->j)
 (q:iT b Y.J=pure m) (s:∀h∈b.names,h.2≠ .cell) (t:b.kind=.function) (u:∀h∈b.names,h.2=.local->b.names.lookup h.1=O .local)
 (v:R Y iter r) (x:cA Y target r (ds.map dD)) (y:ds.length<=aC) (A:∀a∈ds,jL target (dD a) (cO a)) (B:∀a∈ds,∀d∈cO a,b.names.lookup d.1=O .local)
 (C:∀d∈f,d∈Y.p/\hA Y.J b m d.1)
 (D:∀i Z a,a∈ds->mj (eP Y b m i Z<|cO a++f) o (g a))
 (E:∀i Z a,a∈ds->g a=z->R (eP Y b m i Z<|cO a++f) w (k a))
 (F:∀p,iC iter Y.J p=pure p) (G:∀l it n env,(jK (.ListComp w [#[target,iter,o,0]] b pos) l it n env).isFrame=aj):
 R Y (.ListComp w [#[target,iter,o,0]] b pos) (.list<|(ds.filter g).map k):=.mk λe h m o b a d=>by
 rw[uw];show ut (ie:=c) f g k q s t u (.of v x) y A B C D E F G b a ?_;intro b e f o i g h k l m n;show as f m<|λi b=>d _ i e (uv l b g)<|n.dV.uu b k<|mm a h
end
noncomputable def bj (ae:i)(af:j)(Γ:be):be:=(ae,af)::Γ.filter λai=>ai.1≠ae
def Ch (a:b∈bj m n Γ):b=(m,n)\/(b∈Γ/\b.1≠m):=by
 unfold bj at a;show aw (a4 a) (λd=>?_) λa=>?_
 .obtain rfl:=d;show .inl V
 .have:=e7.mp a;show .inr #[this.1,by simpa using this.2]
structure aO where
 cL:aW
 cB:aY
 cQ:Option (List b1):=c
 bY:Bool:=aj
noncomputable abbrev aO.at (I:aO)(m0:aW):aO:=#[m0,I.cB,I.cQ,I.bY]
structure jd (aJ:cV)(n:Nat)(env:b1)(fr:Option (List b1)):Prop extends dz aJ n where
 pa:∀ag,fr=O ag->aJ.frames=O (env::ag)
structure u (I:aO)(Y:bc)(al:aW):Prop extends cU Y al where
 db:E al I.cL
 ns:∃aE,al.Ns Y.J.locals aE
 cells:∀ai∈Y.J.cells,∃an,al.IsCell ai.2 an
 apart:Y.J.cells.Pairwise λae bu=>ae.2≠bu.2
 cn:Y.J.locals∈Y.X/\∀ai∈Y.J.cells,ai.2∈Y.X
 ft:∀ai∈Y.J.cells,ai.2≠Y.J.locals
 new:I.cL.get? Y.J.locals=c/\∀ai∈Y.J.cells,I.cL.get? ai.2=c
 cM:∀ai∈Y.D,I.cL.get? ai.1=c/\ai.1≠Y.J.locals/\∀a∈Y.J.cells,ai.1≠a.2
 dr:Y.D.Pairwise λae bu=>ae.1≠bu.1
 sub:∀ac∈I.cB,ac∈Y.X
def u.keep (a:u m n r)(b:E h' r):u m n h':=
 {a with
  tocU:=a.tocU.keep b
  db:=a.db.trans b
  ns:=let#[d,e]:=a.ns;#[d,e.keeps b]
  cells:=λe d=>let#[f,o,m,hd]:=a.cells e d;#[f,o,b _ _ m,hd]}
def Ns.IW {d:aW}(e:d.Ns m r)(f:d.Ns m w):r=w:=by
 show BB e λo j k g hd d h=>?_;show BB f λe j k a b d i=>?_;replace a:=g▸a;obtain rfl:=fU a;replace b:=hd▸b;cases b;funext n;rw[<-h,<-i]
abbrev c9:=Flow->aW->Prop
noncomputable def c0 (au:aW->Prop)(bT:c9):c9:=λaQ al=>match aQ with
 | .next=>au al|aQ=>bT aQ al
structure cs (aa:aM)(bR:aM)(b:Bool):Prop where
 drawn:bR.drawn=aa.drawn
 os:bR.os=aa.os
 gens:AllBare aa.gens->AllBare bR.gens
 same:b=aj->bR.gens=aa.gens
def cs.bd (a:aM):cs a a b:=#[V,V,id,λa=>rfl]
def cs.trans {e b f:aM}(a:cs e b m)(d:cs b f m):cs e f m:=#[d.drawn.trans a.drawn,d.os.trans a.os,λe=>d.gens<|a.gens e,λe=>(d.same e).trans<|a.same e]
def cs.up {a:aM}{d:aW}{e:fg}:cs a {a with heap:=d,toks:=e} b:=#[V,V,id,λa=>rfl]
def cs.gH (a:cs m n b):cs m {n with heap:=o,toks:=r} b:=a.trans .up
def cs.le (a:cs m n b)(d:b=z->o=z):cs m n o:=#[a.drawn,a.os,a.gens,λd=>a.same (by cases b<;>simp_all)]
def cs.eq (f:cs m b aj):b={m with heap:=b.heap,toks:=b.toks}:=by
 obtain⟨h,i,j,k,o⟩:=b;obtain⟨a,d,b,g⟩:=f;have e:=g V;dsimp only at a d e;subst a d e;rfl
structure g (Y:bc)(I:aO)(a:cl)(bT:c9):Prop where
 go:∀(aJ:cV)(aa:aM)(bv:bX),jd aJ Y.n Y.J I.cQ->u I Y aa.heap->
 ar Y.d.M aJ (exec a Y.J) (λaQ bR=>cs aa bR I.bY/\bT aQ bR.heap) bv aa
structure S (I:aO)(Y:bc)(b:List cl)(bT:c9):Prop where
 go:∀(aJ:cV)(aa:aM)(bv:bX),jd aJ Y.n Y.J I.cQ->u I Y aa.heap->
 ar Y.d.M aJ (execs b Y.J) (λaQ bR=>cs aa bR I.bY/\bT aQ bR.heap) bv aa
def ux (Y:bc)(I:aO)(au:aW->Prop)(b:List cl)(bT:c9):Prop:=∀al,au al->∃(a:bc) (m3:aO),a.d=Y.d/\a.n=Y.n/\a.J=Y.J/\m3.cQ=I.cQ/\m3.bY=I.bY/\u m3 a al/\S m3 a b bT
section
variable {Y:bc}{I:aO}
def S.nil (a:∀a,u I Y a->b .next a):S I Y [] b:=.mk λe b f g d=>rX #[cs.bd b,a _ d]
def S.cons {h:cl}{au:aW->Prop}(n:g Y I h (c0 au m))(o:ux Y I au b m):S I Y (h::b) m:=.mk λi h j k m=>
 mn (dq (n.go i h j k m) (λl e a=>by
  show am a λd r=>?_;cases l with
  |next=>
   show BC (o e.heap r) λu v m n h p q s t=>?_;have:=t.go i e j (by mspec n;mspec h;mspec p;show k) s;rw[h,m,q]at this;show dq this (λl e a=>#[d.trans a.1,a.2]) λf f I=>I
  |brk=>show#[d,r]|cont=>show#[d,r]|ret a=>show#[d,r]) λf f I=>I)
def S.bq {a:cl}{Γ:be}(d:g Y I a (c0 (u I #[Y.d,Y.n,Y.J,X,Γ,own]) m))(e:S I #[Y.d,Y.n,Y.J,X,Γ,own] b m):S I Y (a::b) m:=
 S.cons d λd a=>eO #[Y.d,Y.n,Y.J,X,Γ,own] I V rfl rfl rfl rfl a e
def ux.of (a:S I #[Y.d,Y.n,Y.J,X,Γ,own] b m):ux Y I (u I #[Y.d,Y.n,Y.J,X,Γ,own]) b m:=λe d=>eO #[Y.d,Y.n,Y.J,X,Γ,own] I V rfl rfl rfl rfl d a
def g.dP {d:cl}{e f:c9}(a:g Y I d e)(h:∀b a,e b a->f b a):g Y I d f:=.mk λe f i j k=>
 dq (a.go e f i j k) (λb l d=>#[d.1,h _ _ d.2]) λa a I=>I
def S.dP (a:S I Y b m)(f:∀d a,m d a->n d a):S I Y b n:=.mk λg h i j k=>
 dq (a.go g h i j k) (λd l e=>#[e.1,f _ _ e.2]) λa a I=>I
def S.ql (d:∀a,u I Y a->u I #[Y.d,Y.n,Y.J,X,Γ,own] a)(a:S I #[Y.d,Y.n,Y.J,X,Γ,own] b m):S I Y b m:=.mk λe f g h i=>a.go e f g h<|d _ i
def g.ql (d:∀a,u I Y a->u I #[Y.d,Y.n,Y.J,X,Γ,own] a)(a:g #[Y.d,Y.n,Y.J,X,Γ,own] I b m):g Y I b m:=.mk λe f h i j=>a.go e f h i<|d _ j
def u.ef (a:u I Y m)(d:∀b∈Γ,b∈Y.p):u I #[Y.d,Y.n,Y.J,Y.X,Γ,Y.D] m:=
 {a with base:=a.base,cw:=a.cw,d8:=λb e=>a.d8 b<|d b e,D:=a.D,kind:=a.kind}
def u.change (d:u I Y n)(j:m∈Y.X)(k:∃o,h'.get? m=O o)(p:I.cL.get? m=c)(i:cN [m] n h')(q:∃f,h'.Ns Y.J.locals f)(r:∀a∈Y.J.cells,∃g,h'.IsCell a.2 g)
 (s:∀a∈Γ,∃g,nT g h' a.1 Y.J/\a9 Y.d (l h' Y.X) g a.2) (t:∀a∈own,a.1∈Y.X/\bG Y.d (l h' Y.X) h' a.1 a.2)
 (v:∀a∈own,I.cL.get? a.1=c/\a.1≠Y.J.locals/\∀h∈Y.J.cells,a.1≠h.2) (w:own.Pairwise λx y=>x.1≠y.1):u I #[Y.d,Y.n,Y.J,Y.X,Γ,own] h':=
 {base:=d.base.trans (l.fM i<|h8 j)
  cw:=λb f=>by
   by_cases h:b=m
   .subst h;show k
   .obtain⟨o,I⟩:=d.cw b f;show#[o,i _ _ (eM h) I]
  d8:=s
  D:=t
  kind:=d.kind
  db:=λb o e=>i b o (λf=>by replace e:=(bW f)▸e;replace e:=p▸e;cases e) (d.db b o e)
  ns:=q,cells:=r,apart:=d.apart,cn:=d.cn,ft:=d.ft,new:=d.new,cM:=v,dr:=w,sub:=d.sub}
def u.frame (b:u I Y n)(j:E (l h' m) (l n Y.X))(e:∀d∈m,∃o,h'.get? d=O o)(i:Y.J.locals∈m)(q:∀a∈Y.J.cells,a.2∈m)(h0:∀d∈I.cB,d∈m)
 (k:∀g,n.Ns Y.J.locals g->h'.Ns Y.J.locals g) (p:∀a∈Y.J.cells,∀o,n.get? a.2=O o->h'.get? a.2=O o) (s:E h' I.cL) (own:∀a∈r,a.1∈m/\bG Y.d (l h' m) h' a.1 a.2)
 (t:∀a∈r,I.cL.get? a.1=c/\a.1≠Y.J.locals/\∀h∈Y.J.cells,a.1≠h.2) (v:r.Pairwise λw f=>w.1≠f.1):u I #[Y.d,Y.n,Y.J,m,Y.p,r] h':=
 {base:=b.base.trans j,cw:=e,D:=own,kind:=b.kind,db:=s,apart:=b.apart,cn:=#[i,q],ft:=b.ft,new:=b.new,cM:=t,dr:=v,sub:=h0
  d8:=λa i=>(b.d8 a i).imp λm f=>#[f.1.imp (λd=>#[d.1,d.2.imp λg e=>#[k g e.1,e.2]])<|λd=>d.imp λg e=>cG e.1 e.2.1<|e.2.2.imp λo h=>#[p (a.1,g) (mem_of_lookup e.2.1) o h.1,h.2],f.2.keep j]
  ns:=b.ns.imp k
  cells:=λa i=>(b.cells a i).imp λm f=>f.imp λo d=>#[p a i o d.1,d.2]}
def u.gn (a:u I Y aa.heap)(j:Y.J.kindOf ae=O .local\/(Y.J.kindOf ae=O .cell/\(Y.J.cells.lookup ae).isSome=z))(L:a9 Y.d (l aa.heap Y.X) an af)
 (M:∀h' P f,f∈Y.X->(f=Y.J.locals\/∃d∈Y.J.cells,f=d.2)->ia f aa.heap h'->u I #[Y.d,Y.n,Y.J,Y.X,bj ae af Y.p,Y.D] h'->S4 () {aa with heap:=h',toks:=P}):ar Y.d.M S5 (storeName Y.J ae an) S4 S6 aa:=by
 show aw j (λj=>?_) λq=>?_
 .show v a.ns λy t=>?_;show xP j t (λk w m=>?_) (by mspec a.kind;rfl);have g:cN [Y.J.locals] aa.heap k:=λb o n I=>m.extBut b o (by simpa using n) I;have p:E (l k Y.X) (l aa.heap Y.X):=l.fM g<|h8 a.cn.1;show M k _ Y.J.locals a.cn.1 (.inl V) m (a.change a.cn.1 (by show eW w λo A A I A=>?_;show dm o I) a.new.1 g #[_,w] (λd e=>?_) (λd e=>?_) (λd e=>?_) a.cM a.dr)
  .show gi (a.cells d e) λan o I hd=>?_;show iy an o (g _ _ (by simpa using a.ft d e) I) hd
  .rcases Ch e with rfl|⟨e,B⟩
   .show as an (.inl #[j,_,w,by simp])<|L.keep p
   .show aX (a.d8 d e) λC D F=>?_;show as C ?_<|F.keep p;rcases D with⟨f,N,G,x⟩|⟨h,f,I,o,H,hd⟩
    .rw[Ns.IW G t]at x;show .inl #[f,_,w,by simpa[B]using x]
    .show .inr #[h,f,I,o,g _ _ (by simpa using a.ft (d.1,h) (mem_of_lookup I)) H,hd]
  .show am (a.D d e) λf r=>?_;show#[f,r.lw p λo I=>g _ _ (by simpa using(a.cM d e).2.1) I]
 .show am q λj s=>?_;show v (xX.mp s) λh s=>?_;have i:(ae,h)∈Y.J.cells:=mem_of_lookup s;show v (a.cells _ i) λP w=>?_;show IX a.kind j s w λk J m=>?_;have g:cN [h] aa.heap k:=λb o n I=>m.extBut b o (by simpa using n) I;have w:=a.cn.2 _ i;have p:E (l k Y.X) (l aa.heap Y.X):=l.fM g<|h8 w;show v a.ns λy t=>?_;show M k _ h w (.inr<|as _ i V) m (a.change w (by show aX J λo I A=>?_;show dm o I) (a.new.2 _ i) g #[_,(t.sameBut m<|mo<|a.ft _ i)] (λd e=>?_) (λd e=>?_) (λd e=>?_) a.cM a.dr)
  .by_cases k:d.2=h
   .show k▸#[_,J]
   .show gi (a.cells d e) λan o I hd=>?_;show iy an o (g _ _ (eM k) I) hd
  .show aw (Ch e) (λK=>?_) λq=>?_
   .obtain rfl:=K;show as an (.inr<|fo h (.inl j) s J)<|L.keep p
   .show am q λe B=>?_;show aX (a.d8 d e) λC D F=>?_;show as C ?_<|F.keep p;show aw D (λK=>?_) λq=>?_
    .show am K λf h=>?_;show v h λN j=>?_;show am j λG x=>?_;show .inl #[f,N,G.sameBut m<|mo<|a.ft _ i,x]
    .show v q λk j=>?_;show cd j λf I h=>?_;show v h λo j=>?_;show am j λH hd=>?_;show .inr #[k,f,I,o,g _ _ ?_ H,hd];intro y;rw[bW y]at I;show B<|name_of_addr a.apart (mem_of_lookup I) i
  .show am (a.D d e) λf r=>?_;show#[f,r.lw p λo I=>g _ _ (by simpa using(a.cM d e).2.2 _ i) I]
abbrev fO (env:b1)(ae:i):Prop:=env.kindOf ae=O .local\/(env.kindOf ae=O .cell/\(env.cells.lookup ae).isSome=z)
def g.assign (a:R Y m af)(d:fO Y.J b)(e:f7 m (O<| .Name b n) pos.line Y.J=pure aj):
 g Y I (.Assign [.Name b n] m pos) (c0 (u I #[Y.d,Y.n,Y.J,Y.X,bj b af Y.p,Y.D]) o):=.mk λf h i j b=>
 pb (a.go f h _ i j.todz b.tocU λl h' m k r=>(b.keep k).gn d r λh i a a a a f=>#[.up,f]) e
def g.ret (d:R Y m af)(e:∀b a,u I Y b->a9 Y.d (l b Y.X) a af->n (.ret a) b):g Y I (.Return (O m) pos) n:=.mk λf h i j b=>
 xY (d.go f h _ i j.todz b.tocU λa h' m k r=>#[.up,e h' a (b.keep k) r])
def g.dB {an:Bool}(n:aZ Y o an)(p:an=z->S I Y b m)(q:an=aj->S I Y r m):g Y I (.If o b r pos) m:=.mk λd e f h i=>
 rY (n.go d e _ f h.todz i.tocU λh' k l=>by
  cases an with
  |true=>show dq ((p V).go d {e with heap:=h',toks:=k} f h<|i.keep l) (λs t a=>#[cs.up.trans a.1,a.2]) λj j I=>I
  |false=>show dq ((q V).go d {e with heap:=h',toks:=k} f h<|i.keep l) (λs t a=>#[cs.up.trans a.1,a.2]) λj j I=>I)
def g.brk (b:∀a,u I Y a->m .brk a):g Y I (.Break pos) m:=.mk λe a f h d=>wpAny_Break #[cs.bd a,b _ d]
def g.cont (b:∀a,u I Y a->m .cont a):g Y I (.Continue pos) m:=.mk λe a f h d=>wpAny_Continue #[cs.bd a,b _ d]
noncomputable def rZ (au:aW->Prop)(bT:c9):c9:=λaQ al=>match aQ with
 | .next=>au al| .cont=>au al| .brk=>bT .next al| .ret an=>bT (.ret an) al
abbrev iR:=be->List (T×j)->Prop
inductive uy (Y:bc)(I:aO)(ce:iR)(al:aW):Prop
 |IY (Γ:be) (own:List (T×j)) (cC:ce Γ own) (a:u I #[Y.d,Y.n,Y.J,Y.X,Γ,own] al):uy Y I ce al
inductive qm (ce:Nat->iR)(n:Nat)(Γ:be)(own:List (T×j)):Prop
 |mk (aE:Nat) (al:aE<n) (cC:ce aE Γ own):qm ce n Γ own
inductive xZ (Y:bc)(I:aO)(a:c4)(body:List cl)(d:c9)(bL:Bool->Prop):Prop
 |mk (b:Bool) (aT:aZ Y a b) (bu:b=z->S I Y body d) (n:bL b):xZ Y I a body d bL
inductive x0 (Y:bc)(I:aO)(ce:Nat->iR)(aa:aM)(n:Nat)(bR:aM):Prop
 |mk (Γ:be) (own:List (T×j)) (a:cs aa bR I.bY) (cC:ce n Γ own) (b:u I #[Y.d,Y.n,Y.J,Y.X,Γ,own] bR.heap):x0 Y I ce aa n bR
def g.uz {d:c9}(ce:Nat->iR)(i:Nat)(h0:ce i Y.p Y.D)
 (q:∀n Γ own,ce n Γ own->xZ #[Y.d,Y.n,Y.J,Y.X,Γ,own] I r body (rZ (uy Y I<|qm ce n) d) λb=>b=aj->∀j,u I #[Y.d,Y.n,Y.J,Y.X,Γ,own] j->d .next j):g Y I (.While r body [] pos) d:=.mk λk e j l d=>by
 show wpAny_While<|codeAny_whileLoop (x0 Y I ce e) ?_ i #[Y.p,Y.D,cs.bd e,h0,d];rintro n s ⟨Γ,own,m,t,f⟩;cases q n Γ own t with|mk b v w x=>
 show v.go k _ _ _ l.todz f.tocU λy A o=>?_;cases b with
 |false=>show rX #[m.gH,x V _<|f.keep o]
 |true=>
  show dq ((w V).go k {s with heap:=y,toks:=A} _ l<|f.keep o) (λB i a=>?_) λd d I=>I;have h:=m.gH.trans a.1;have p:uy Y I (qm ce n) i.heap->∃d,d<n/\x0 Y I ce e d i:=λ#[e,f,#[d,i,j],k]=>#[d,i,e,f,h,j,k];cases B with
  |next=>show p a.2|cont=>show p a.2|brk=>show#[h,a.2]|ret d=>show#[h,a.2]
noncomputable def Ci (aQ:i->α)(bt:h6->α)(cJ:α)(I:c4):α:=c4.casesOn I (λa a a=>cJ) (λa a a=>cJ) (λa a a a=>cJ) (λa a a=>cJ) (λa a a a=>cJ) (λa a a a=>cJ) (λa a a=>cJ) (λa a a=>cJ) (λa a a a=>cJ) (λa a a a=>cJ) (λa a a a a=>cJ) (λa a a a=>cJ) (λa a=>cJ) (λa a=>cJ) (λa a=>cJ) (λa a a a=>cJ) (λa a a a=>cJ) (λa a a a=>cJ) (λa a=>cJ) (λa a a=>cJ) (λa a a=>cJ) (λa a a=>cJ) (λa a=>cJ) (λae a=>aQ ae) (λa a=>cJ) (λdy a a=>bt dy)<|λa a a a=>cJ
noncomputable def j.items (af:j):dn:=j.casesOn af [] (λa=>[]) (λa=>[]) (λa=>[]) (λds=>ds) (λa=>[]) (λa=>[]) (λa=>[]) (λa a a=>[]) (λa=>[]) (λa=>[]) (λa=>[]) (λa a=>[]) (λa=>[])<|λa=>[]
noncomputable def IZ (I:c4)(af:j):be:=Ci (λae=>[(ae,af)]) (λdy=>(dy.map<|Ci (λae=>ae) (λa=>"") "").zip af.items) [] I
noncomputable def gp (aT:c4)(af:j)(Γ:be):be:=(IZ aT af).foldl (λΓ ai=>bj ai.1 ai.2 Γ) Γ
inductive qn (env:b1):c4->j->Prop
 |name {ae a af}:fO env ae->qn env (.Name ae a) af|n4 {ae bu a d s e ac b}:fO env ae->fO env bu->qn env (.Tuple [.Name ae a,.Name bu d] s e) (.list [ac,b])
def u.Cj {a:aM}{i:lo}{k:a3}{f:j}(t:x.handled=c)(m:u I Y a.heap)(v:qn Y.J w f)(p:a9 Y.d (l a.heap Y.X) k f)
 (q:∀h' g,(∀b o,b∉Y.X->a.heap.get? b=O o->h'.get? b=O o)->u I #[Y.d,Y.n,Y.J,Y.X,gp w f Y.p,Y.D] h'->i () {a with heap:=h',toks:=g}):ar Y.d.M x (lA w Y.J k) i M a:=by
 cases v with
 |name h=>show iA<|m.gn h p λh' g s f e i k=>q h' g (λb o n I=>i.extBut b o (λd=>n<|d▸f) I) k
 |@n4 y f g i k v s b h A=>
  show cm p.is λe e f=>?_;show eN f λB r=>?_;obtain⟨_,_,rfl,C,D⟩:=r.eT;show B5 t (PlainList.fV (let#[n,I]:=B;#[n,l.of _ _ I])) V rfl λg i=>?_;have f:E g a.heap:=λb o I=>i b o (g7<|gl I) I;show n5<|iA<|(m.keep f).gn h (C.keep<|l.keep _ f) λi g v k e p t=>?_;have g:∀b o,b∉Y.X->a.heap.get? b=O o->i.get? b=O o:=λb o n I=>p.extBut b o (λd=>n<|d▸k)<|f b o I;show n5<|iA<|u.gn (Y:=#[Y.d,Y.n,Y.J,Y.X,bj y s Y.p,Y.D]) t A (D.keep<|l.mS g) λa f m h e i k=>?_;show xQ<|q a f (λb o n I=>i.extBut b o (λd=>n<|d▸h)<|g b o n I) k
noncomputable def d5 (Y:bc):aY:=Y.J.locals::(Y.J.cells.map (·.2)++Y.D.map (·.1))
def iF (a:m∈d5 Y):m=Y.J.locals\/(∃b∈Y.J.cells,m=b.2)\/∃b∈Y.D,m=b.1:=by
 show aw (d1 a) (λa=>?_) λa=>?_
 .show .inl a
 .show cK a (λa=>?_) λa=>?_
  .obtain⟨b,d,rfl⟩:=ck a;show .inr<| .inl<|as b d V
  .obtain⟨b,d,rfl⟩:=ck a;show .inr<| .inr<|as b d V
def u.hB (a:u I Y m):∀e∈d5 Y,e∈Y.X:=λe f=>by
 rcases iF f with rfl|⟨b,d,rfl⟩|⟨b,d,rfl⟩
 .show a.cn.1
 .show a.cn.2 b d
 .show(a.D b d).1
def u.I0 (a:u I Y m):∀e∈d5 Y,I.cL.get? e=c:=λe f=>by
 rcases iF f with rfl|⟨b,d,rfl⟩|⟨b,d,rfl⟩
 .show a.new.1
 .show a.new.2 b d
 .show(a.cM b d).1
def u.Ck (a:u (I.at m) Y b)(d:E m I.cL):u I Y b:=
 have n:∀b,m.get? b=c->I.cL.get? b=c:=λb e=>by
  show jz (d b) e
 {a with
  tocU:=a.tocU
  db:=d.trans a.db
  new:=#[n _ a.new.1,λb d=>n _<|a.new.2 b d]
  cM:=λb d=>#[n _ (a.cM b d).1,(a.cM b d).2]
  sub:=a.sub}
def u.x1 (a:u I Y b):u (I.at<|cq b<|d5 Y) Y b/\E (cq b<|d5 Y) I.cL:=
 #[{a with
  tocU:=a.tocU
  db:=l.of
  new:=#[cT _ ao,λd b=>cT _<|A<|bI<|dI b]
  cM:=λd b=>#[cT _<|A<|bA<|dI b,(a.cM d b).2]
  sub:=a.sub},λb o d=>cb _ (a.db b o d) λe=>by show b5 (a.I0 b e) d]
noncomputable def r0 (au a:aW->Prop)(bT:c9):c9:=λaQ al=>match aQ with
 | .next=>au al| .cont=>au al| .brk=>a al| .ret an=>bT (.ret an) al
def u.n8 {d:aW}(a:u I Y d)(f:∀b∈X,b∈Y.X)(e:∀b∈d5 Y,b∈X)(h0:∀b∈I.cB,b∈X):u I #[Y.d,Y.n,Y.J,X,Y.p,Y.D] d:=
 have g:E (l d X) (l d Y.X):=l.sub f
 {base:=a.base.trans g
  cw:=λb e=>a.cw b (f b e)
  d8:=λf d=>let#[h,b,r]:=a.d8 f d;(as h b<|r.keep g)
  D:=λf d=>#[e _<|A<|bA<|dI d,(a.D f d).2.keep g<|E.bd _]
  kind:=a.kind
  db:=a.db,ns:=a.ns,cells:=a.cells,apart:=a.apart
  cn:=#[e _ ao,λf d=>e _<|A<|bI<|dI d]
  ft:=a.ft,new:=a.new,cM:=a.cM,dr:=a.dr,sub:=h0}
def u.Cl {b h':aW}(a:u I Y b)(e:∀d∈dA,b.get? d=c/\∃o,h'.get? d=O o)(f:E h' b):u I #[Y.d,Y.n,Y.J,dA++Y.X,Y.p,Y.D] h':=
 have h:E (l h'<|dA++Y.X) (l b Y.X):=λd o g=>by
  have i:=l.of _ _ g;show cb _ (f d o i) λb=>cK b (λb=>b5 (e d b).1 i) λb=>b5 (cT _ b) g
 {base:=a.base.trans h
  cw:=λd b=>cK b (λb=>(e d b).2) λb=>(a.cw d b).imp λo I=>f _ _ I
  d8:=λe g=>let#[i,d,r]:=a.d8 e g;(as i (d.keep f)<|r.keep h)
  D:=λe g=>#[bA (a.D e g).1,(a.D e g).2.keep h f]
  kind:=a.kind
  db:=a.db.trans f
  ns:=let#[b,h]:=a.ns;#[b,h.keeps f]
  cells:=λe b=>let#[i,o,I,hd]:=a.cells e b;#[i,o,f _ _ I,hd]
  apart:=a.apart
  cn:=#[bA a.cn.1,λe g=>bA<|a.cn.2 e g]
  ft:=a.ft,new:=a.new,cM:=a.cM,dr:=a.dr,sub:=λd b=>bA<|a.sub d b}
def u.gI {a h':aW}(b:u I Y a)(d:a.get? cz=c)(e:∃o,h'.get? cz=O o)(f:E h' a):u I #[Y.d,Y.n,Y.J,cz::Y.X,Y.p,Y.D] h':=b.Cl (dA:=[cz]) (λb a=>(bW a).symm▸#[d,e]) f
def u.other (e:u I Y b)(j:m∈Y.X)(g:m∉d5 Y)(k:I.cL.get? m=c)(s:∃o,h'.get? m=O o)(f:cN [m] b h'):u I Y h':=by
 have n:E (l h' Y.X) (l b Y.X):=l.fM f<|h8 j;have p:Y.J.locals≠m:=λa=>g<|a▸ao;have q:∀b∈Y.J.cells,b.2≠m:=λb d a=>g<|a▸A (bI<|dI d);have t:∀b∈Y.D,b.1≠m:=λb d a=>g<|a▸A (bA<|dI d);show e.change j s k f (let#[h,i]:=e.ns;#[h,i.at' λo a=>f _ o (eM p) a]) (λb d=>?_) (λb d=>?_) (λb d=>?_) e.cM e.dr
 .show gi (e.cells b d) λj o a hd=>?_;show iy j o (f _ _ (by simpa using q b d) a) hd
 .show aX (e.d8 b d) λj g r=>?_;show as j ?_<|r.keep n;show aw g (λk=>?_) λm=>?_
  .show am k λg j=>?_;show v j λh k=>?_;show am k λi a=>?_;show .inl #[g,h,i.at' λo a=>f _ o (eM p) a,a]
  .show v m λh k=>?_;show cd k λg a j=>?_;show v j λo i=>?_;show am i λj hd=>?_;show .inr #[h,g,a,o,f _ _ (by simpa using q (b.1,h) (mem_of_lookup a)) j,hd]
 .show am (e.D b d) λg r=>?_;show#[g,r.lw n λo a=>f _ _ (by simpa using t b d) a]
def u.drop (h:u I #[Y.d,Y.n,Y.J,cz::Y.X,Y.p,Y.D] m)(i:∀e∈d5 Y,e∈Y.X)(q:cz∉Y.X)(k:cz∉d5 Y)(r:I.cL.get? cz=c)(h0:∀e∈I.cB,e∈Y.X)(j:cN [cz] m h'):u I Y h':=by
 have p:E (l h' Y.X) (l m<|cz::Y.X):=λe o a=>by
  have n:e∉cz::Y.X:=λi=>by show b5 (cT _ i) a
  show cb _ (j e o (λg=>n<|kH g ao)<|l.of _ _ a) λg=>n<|A g
 have s:∀d∈Y.J.cells,d.2≠cz:=λd f a=>k<|a▸A (bI<|dI f);have t:∀d∈Y.D,d.1≠cz:=λd f a=>k<|a▸A (bA<|dI f);show u.frame (Y:=#[Y.d,Y.n,Y.J,cz::Y.X,Y.p,Y.D]) h p (λe m=>(h.cw e<|A m).imp λo a=>j _ _ (eM λg:e=cz=>q<|g▸m) a)
  (i _ ao) (λd e=>i _<|A<|bI<|dI e) h0 (λi m=>m.at' λo a=>j _ o (eM (λa=>k (a▸ao):Y.J.locals≠cz)) a) (λd f o a=>j _ o (eM<|s d f) a)
  (λb o a=>j b o (λg=>by replace a:=(bW g)▸a;replace a:=r▸a;cases a)<|h.db b o a) (λd f=>#[i _<|A<|bA<|dI f,(h.D d f).2.lw p λo a=>j _ _ (eM<|t d f) a]) h.cM h.dr
def g.x2 {p:Type}{ds:List p}{dD:p->j}{cO:p->be}{C:c9}(q:be)(h:p->Bool)(k:p->j)(F:fO Y.J m)
 (G:f7 (.ListComp x [#[target,iter,B,0]] w pos) (O<| .Name m S4) S5.line Y.J=pure z)
 (H:iT w Y.J=pure M) (J:∀m∈w.names,m.2≠ .cell) (K:w.kind=.function) (L:∀m∈w.names,m.2=.local->w.names.lookup m.1=O .local)
 (N:R Y iter r) (P:cA Y target r (ds.map dD)) (Q:ds.length<=aC) (S:∀a∈ds,jL target (dD a) (cO a)) (T:∀a∈ds,∀d∈cO a,w.names.lookup d.1=O .local)
 (U:∀d∈q,d∈Y.p/\hA Y.J w M d.1)
 (V:∀e Z a,a∈ds->mj (eP Y w M e Z<|cO a++q) B (h a))
 (W:∀e Z a,a∈ds->h a=z->R (eP Y w M e Z<|cO a++q) x (k a))
 (X:∀D,iC iter Y.J D=pure D) (S6:∀t it y env,(jK (.ListComp x [#[target,iter,B,0]] w pos) t it y env).isFrame=aj):
 g Y I (.Assign [.Name m S4] (.ListComp x [#[target,iter,B,0]] w pos) S5) (c0 (u I #[Y.d,Y.n,Y.J,Y.X,bj m (.list<|(ds.filter h).map k) Y.p,Y.D]) C):=.mk λa p x w f=>by
 mspec Cm _ _ _ _ G;show ap<|jJ<|ap ?_;show ap (dq (ut (ie:=O<|Cn (.Name m S4) Y.J) (bM:=λi a=>cs p a I.bY/\c0 (u I #[Y.d,Y.n,Y.J,Y.X,bj m (.list<|(ds.filter h).map k) Y.p,Y.D]) C .next a.heap)
  q h k H J K L (.of N P) Q S T U V W X S6 w.todz f.tocU ?_) (λi a p=>ba<|ba p) λi i I=>I)
 intro a q S7 p e A S8 S9 t E y;have s:=mm f.tocU A;have Ta:∃o,a.get? e=O o:=by show eW E λo i i I i=>?_;show dm o I
 have Tb:a9 Y.d (l a<|e::Y.X) (.ref p) (.list<|(ds.filter h).map k):=by
  obtain⟨Tc,n,I,r⟩:=y.dV;show a9.list (a1:=Tc.toList) #[n,cb _ I λa=>?_] r;show aw (d1 a) (λd=>?_) λa=>?_
  .show S9 d
  .show(mm f.tocU S8) a
 show iA<|u.gn (Y:=#[Y.d,Y.n,Y.J,e::Y.X,Y.p,Y.D]) (f.gI A Ta t) F Tb λy B q i p w x=>?_;have i:e≠q:=λd=>by
  show aw p (λp=>?_) λt=>?_
  .show s (by mspec d;mspec p;show f.cn.1)
  .show v t λh y=>?_;show am y λt p=>?_;show s (by mspec d;mspec p;show f.cn.2 h t)
 show as S7 (E.sameBut w i)<|λh' p=>#[.up,?_];show u.drop (Y:=#[Y.d,Y.n,Y.J,Y.X,bj m (.list<|(ds.filter h).map k) Y.p,Y.D]) x (λq a=>f.hB q a) s (λa=>s<|f.hB e a) ?_ f.sub λb o n d=>p.extBut b o (by simpa using n) d;show jz (f.db e) A
end
noncomputable def ig {au:Type}[DecidableEq au](bE:List (au×j))(s:au)(af:j):List (au×j):=
 if bE.any (λa=>a.1=s)then bE.map (λa=>if a.1=s then(a.1,af)else a)else bE++[(s,af)]
def Co {b:Type}[DecidableEq b]{a:List (b×a3)}{e:List (b×j)}(f:a.map (·.1)=e.map (·.1))(d:b):a.any (λa=>decide (a.1=d))=e.any (λa=>decide (a.1=d)):=by
 have:=congrArg (λa=>a.any λb=>decide (b=d)) f;rwa[x3,x3]at this
def Cp {b d:Type}[DecidableEq b](e:List (b×d))(f:b)(g:d):(e.map λa=>if a.1=f then(a.1,g)else a).map (·.1)=e.map (·.1):=by
 mspec d2;show hC λa b=>by show(?_:(if a.1=f then(a.1,g)else a).1=a.1);split<;>rfl
def x4 {a:Type}[DecidableEq a]{d:List (a×a3)}{e:List (a×j)}(b:d.map (·.1)=e.map (·.1))(f:a)(g:a3)(h:j):(stored d f g).map (·.1)=(ig e f h).map (·.1):=by
 unfold stored ig;rw[Co b];split
 .rw[Cp,Cp];show aI b V
 .mspec eV;mspec eV;mspec b;rfl
def aN.I1 {e:Type}[DecidableEq e](i:a9 m n o w)(g:e){d:List (e×a3)}:∀{a:List (e×j)},d.map (·.1)=a.map (·.1)->aN m n (d.map (·.2)) (a.map (·.2))->
 aN m n ((d.map λb=>if b.1=g then(b.1,o)else b).map (·.2)) ((a.map λb=>if b.1=g then(b.1,w)else b).map (·.2)):=by
 induction d with
 |nil=>intro a f _;cases a with
  |nil=>show .nil|cons _ _=>cases f
 |cons h d k=>intro a f r;cases a with
  |nil=>cases f
  |cons l a=>
   show am (oP f) λa b=>?_;show f4 r.hy λd d e p r=>?_;show am (oP e) λq d=>?_;rw[b7,b7,b7,b7,show h.1=l.1 from a];show .cons ?_<|k b<|d▸r;split
   .show i
   .show(show h.2=_ from q).symm▸p
def aN.x5 {b:aV}{a:Type}[DecidableEq a]{d:List (a×a3)}{e:List (a×j)}{g:a3}{h:j}(i:a9 b m g h)(f:a)(k:d.map (·.1)=e.map (·.1))(r:aN b m (d.map (·.2)) (e.map (·.2))):
 aN b m ((stored d f g).map (·.2)) ((ig e f h).map (·.2)):=by
 unfold PySem.stored ig;rw[Co k];split
 .show aN.I1 i f k r
 .mspec eV;mspec eV;show r.append<| .cons i .nil
section
variable {Y:bc}{I:aO}
def u.ih (a:u I Y m)(e:ac∈Y.X)(r:bG Y.d (l m Y.X) m ac af)(h0:I.cL.get? ac=c)(f:ac∉d5 Y):u I #[Y.d,Y.n,Y.J,Y.X,Y.p,(ac,af)::Y.D] m:=
 {base:=a.base,cw:=a.cw,d8:=a.d8
  D:=λd b=>by
   rcases a4 b with rfl|b
   .show#[e,r]
   .show a.D d b
  kind:=a.kind
  db:=a.db,ns:=a.ns,cells:=a.cells,apart:=a.apart,cn:=a.cn,ft:=a.ft,new:=a.new
  cM:=λd b=>by
   rcases a4 b with rfl|b
   .show cG h0 (λe=>f ?_)<|λg h e=>f ?_
    .show(show ac=Y.J.locals from e)▸ao
    .show(show ac=g.2 from e)▸A (bI<|dI h)
   .show a.cM d b
  dr:=gq.mpr #[λd b e=>f (by have g:ac=d.1:=e;show g▸A (bA<|dI b)),a.dr]
  sub:=a.sub}
def u.iG (d:u I Y m)(f:m.get? b=c):b∉d5 Y/\b∉Y.X/\I.cL.get? b=c/\b∉I.cB:=by
 have e:b∉Y.X:=λa=>by show v (d.cw b a) λo g=>?_;show b5 f g
 show l6 (λa=>e<|d.hB b a) e ?_<|λa=>e<|d.sub b a;show jz (d.db b) f
def S.m4 (h:fO Y.J m)(j:∀a,a∉Y.X->a∉I.cB->S I #[Y.d,Y.n,Y.J,a::Y.X,bj m (.val<| .ref a) Y.p,(a,.list [])::Y.D] b n):
 S I Y (.Assign [.Name m r] (.List [] w) pos::b) n:=
 S.cons (au:=λi=>∃a,a∉Y.X/\a∉I.cB/\u I #[Y.d,Y.n,Y.J,a::Y.X,bj m (.val<| .ref a) Y.p,(a,.list [])::Y.D] i)
  (.mk λg d k l f=>pb (t5<|ly #[ew _,by
   have g:=f.iG d3;have k:=(f.gI d3 #[_,dL d.heap (o:={cls:=.type "list",data:=.seq ([]:cv).toArray}) e]<|E.push _ _).ih (af:=.list []) ao (.list #[0,dL _ e] .nil) g.2.2.1 (g.1:d.heap.objs.size∉d5 #[Y.d,Y.n,Y.J,d.heap.objs.size::Y.X,Y.p,Y.D]);show u.gn (Y:=#[Y.d,Y.n,Y.J,d.heap.objs.size::Y.X,Y.p,(d.heap.objs.size,.list [])::Y.D]) k h (af:=.val<| .ref d.heap.objs.size) (.val _) λh' l h h h h k=>#[.up,d.heap.objs.size,g.2.1,g.2.2.2,k]]) V)
  λi d=>g3 d λa g h f=>eO #[Y.d,Y.n,Y.J,a::Y.X,_,_] I V rfl rfl rfl rfl f (j a g h)
def S.I2 (j:fO Y.J m)(k:∃b o,@m5 Nat _ i8 b/\Y.d.B.get? b=O o)(l:∀a,a∉Y.X->a∉I.cB->S I #[Y.d,Y.n,Y.J,a::Y.X,bj m (.val<| .ref a) Y.p,(a,.dict [])::Y.D] b n):
 S I Y (.Assign [.Name m w] (.Dict [] [] x) pos::b) n:=
 S.cons (au:=λi=>∃a,a∉Y.X/\a∉I.cB/\u I #[Y.d,Y.n,Y.J,a::Y.X,bj m (.val<| .ref a) Y.p,(a,.dict [])::Y.D] i)
  (.mk λm d n s f=>pb (Cq (by
   have g:=f.iG d3;have p:(d.heap.objs.size==i8)=aj:=by
    show beq_eq_false_iff_ne.mpr λq=>?_;show cm k λb o m=>?_;show am m λh r=>?_;replace h:=q▸h;show mQ _<|nR (gl<|f.tocU.fq _ _ r) h
   show u.gn (Y:=#[Y.d,Y.n,Y.J,d.heap.objs.size::Y.X,Y.p,(d.heap.objs.size,.dict [])::Y.D]) ((f.gI d3 #[_,dL d.heap (o:={cls:=.type "dict",data:=.dict (aRR [])}) e]<|E.push _ _).ih (af:=.dict []) ao (.dict p (Cr _) V .nil) g.2.2.1 (g.1:d.heap.objs.size∉d5 #[Y.d,Y.n,Y.J,d.heap.objs.size::Y.X,Y.p,Y.D])) j (af:=.val<| .ref d.heap.objs.size) (.val _) λh' k h h h h j=>#[.up,d.heap.objs.size,g.2.1,g.2.2.2,j])) V)
  λi d=>g3 d λa g h f=>eO #[Y.d,Y.n,Y.J,a::Y.X,_,_] I V rfl rfl rfl rfl f (l a g h)
def u.qo (e:u I #[Y.d,Y.n,Y.J,Y.X,Y.p,n++(m,x)::w] M)(f:cN [m] M h')(r:bG Y.d (l h' Y.X) h' m ex):u I #[Y.d,Y.n,Y.J,Y.X,Y.p,n++(m,ex)::w] h':=by
 have k:(m,x)∈n++(m,x)::w:=bA ao;have s:=(e.D _ k).1;have h:=e.cM _ k;have D:E (l h' Y.X) (l M Y.X):=l.fM f<|h8 s;have H:∀b,b∈n++w->b.1≠m:=λb a=>by
  have i:=e.dr;replace i:=(ii).mp i;show cd i λk j p=>?_;show cK a (λa=>?_) λa=>?_
  .show p b a _ ao
  .show λd=>(gq.mp j).1 b a d.symm
 have F:∀b,b∈n++(m,ex)::w->b=(m,ex)\/b∈n++w:=λb a=>by
  show cK a (λa=>?_) λa=>?_
  .show .inr<|bI a
  .show aw (d1 a) (λa=>?_) λa=>?_
   .show .inl a
   .show .inr<|bA a
 have G:∀b,b∈n++w->b∈n++(m,x)::w:=λb a=>by
  show cK a (λa=>?_) λa=>?_
  .show bI a
  .show bA<|A a
 show u.change (Y:=#[Y.d,Y.n,Y.J,Y.X,Y.p,n++(m,x)::w]) e s r.cw h.1 f (let#[t,y]:=e.ns;#[t,y.at' λo d=>f _ o (by simpa using mo h.2.1) d]) (λb a=>?_) (λb a=>?_) (λb a=>?_) (λb a=>?_) ?_
 .show gi (e.cells b a) λn o d hd=>?_;show iy n o (f _ _ (by simpa using mo (h.2.2 b a)) d) hd
 .show aX (e.d8 b a) λn k w=>?_;show as n ?_<|w.keep D;show aw k (λg=>?_) λJ=>?_
  .show am g λk n=>?_;show v n λt w=>?_;show am w λy d=>?_;show .inl #[k,t,y.at' λo d=>f _ o (by simpa using mo h.2.1) d,d]
  .show v J λt w=>?_;show cd w λk d n=>?_;show v n λo w=>?_;show am w λn hd=>?_;show .inr #[t,k,d,o,f _ _ (by simpa using mo (h.2.2 (b.1,t)<|mem_of_lookup d)) n,hd]
 .show aw (F b a) (λg=>?_) λq=>?_
  .obtain rfl:=g;show#[s,r]
  .show am (e.D b<|G b q) λB j=>?_;show#[B,j.lw D λo d=>f _ _ (by simpa using H b q) d]
 .show aw (F b a) (λg=>?_) λq=>?_
  .obtain rfl:=g;show h
  .show e.cM b<|G b q
 .have i:=e.dr;rw[ii]at i ⊢;show cd i λB j p=>?_;show cG B (gq.mpr #[(gq.mp j).1,(gq.mp j).2])<|λb a d C=>?_;show aw (a4 C) (λg=>?_) λC=>?_
  .obtain rfl:=g;show p b a (m,x) ao
  .show p b a d<|A C
def u.kV (a:u I #[Y.d,Y.n,Y.J,Y.X,Y.p,w++(m,S4)::x] B)(d:ia m B h')(r:bG Y.d (l h' Y.X) h' m M):u I #[Y.d,Y.n,Y.J,Y.X,Y.p,w++(m,M)::x] h':=a.qo (λb o n e=>d.extBut b o (by simpa using n) e) r
def u.Cs (d:u I #[Y.d,Y.n,Y.J,m::r,Y.p,(m,x)::B] w)(y:m∉r)(C:m∉I.cB)(F:∀h w,bG Y.d h w m x->E w h->(∀o,w.get? m=O o->h.get? m=O o)->a9 Y.d h (.ref m) x)
 (G:∀e∈eG,e∈Y.p\/(e.2=x/\(e.1,.val (.ref m))∈Y.p)):u I #[Y.d,Y.n,Y.J,r,eG,B] w:=by
 have i:E (l w r) (l w<|m::r):=l.sub λb g=>A g;have j:∀b,b∈d5 #[Y.d,Y.n,Y.J,m::r,Y.p,B]->b∈r:=λb g=>by
  have H:b∈d5 #[Y.d,Y.n,Y.J,m::r,Y.p,(m,x)::B]:=by
   show aw (iF g) (λf=>?_) λh=>aw h (λk=>?_) λB=>?_
   .show f▸ao
   .show v k λe h=>?_;show am h λa f=>?_;show f▸A (bI<|dI a)
   .show v B λe h=>?_;show am h λa f=>?_;show f▸A (bA<|dI<|A a)
  show aw (a4<|d.hB b H) (λp=>?_) λq=>?_
  .obtain rfl:=p;exfalso;have n:=d.cM (_,x) ao;rcases iF g with f|⟨e,a,f⟩|⟨e,a,f⟩
   .show n.2.1 f
   .show n.2.2 e a f
   .show(gq.mp d.dr).1 e a f
  .show q
 show{
  base:=d.base.trans i
  cw:=λb g=>d.cw b (A g)
  d8:=λe a=>by
   show aw (G e a) (λa=>?_) λk=>?_
   .show aX (d.d8 e a) λh s t=>?_;show as h s<|t.keep i
   .show am k λhd a=>?_;show aX (d.d8 _ a) λh s t=>?_;obtain rfl:=t.is;show as _ s (hd▸(F _ _ (((d.D (m,x) ao).2).keep i<|E.bd _) l.of λo f=>cb _ f y:a9 Y.d (l w r) (.ref m) x))
  D:=λe a=>#[j _<|A<|bA<|dI a,(d.D e<|A a).2.keep i<|E.bd _]
  kind:=d.kind
  db:=d.db,ns:=d.ns,cells:=d.cells,apart:=d.apart
  cn:=#[j _ ao,λe a=>j _<|A<|bI<|dI a]
  ft:=d.ft,new:=d.new
  cM:=λe a=>d.cM e (A a)
  dr:=(gq.mp d.dr).2
  sub:=λb g=>by
   show aw (a4<|d.sub b g) (λp=>?_) λq=>?_
   .obtain rfl:=p;show(C g).elim
   .show q}
def bG.toList (r:bG w m x b (.list ds))(a:∀o,x.get? b=O o->m.get? b=O o):a9 w m (.ref b) (.list ds):=by
 show aX r.ey λd b r=>?_;show v b λn d=>?_;show .list #[n,a _ d] r
def bG.I3 {ds}(r:bG n m w b (.dict ds))(a:∀o,w.get? b=O o->m.get? b=O o):a9 n m (.ref b) (.dict ds):=by
 show gj r.o2 λf b d e r=>?_;show eW d λo f g h i=>?_;show .dict b (j6 o f g (a _ h) i) e r
noncomputable def kW (U:aV)(I:aO)(af:j):c9:=λaQ al=>∃an,aQ=.ret an/\E al I.cL/\a9 U (l al I.cB) an af
def g.I4 {a:aW->Prop}(d:R Y m n)(e:I.cB=b.cB)(f:E I.cL b.cL):g Y I (.Return (O m) pos) (c0 a<|kW Y.d b n):=
 g.ret d λh b a r=>fo b V (f.trans a.db)<|r.keep<|l.sub λd h=>a.sub d<|e▸h
def S.ret (a:R Y m af):S I Y (.Return (O m) pos::b) (kW Y.d I af):=
 S.cons (au:=λd=>False) (g.I4 a V<|E.bd _) λd e=>e.elim
def S.I5 (d:(m,.val (.ref n))∈Y.p)(e:(n,.dict w)∈Y.D)(f:n∉I.cB)(hd:(m==("__debug__":i))=aj)(h:(m==("__classdict__":i))=aj):S I Y (.Return (O<| .Name m x) pos::b) (kW Y.d I<| .dict w):=
 S.cons (au:=λj=>False) (g.ret (R.name d hd h) λk m a r=>by
  obtain rfl:=r.is;show fo _ V a.db<|((a.D _ e).2.keep (l.sub a.sub)<|E.bd _).I3 λo d=>cb _ d f) λj a=>a.elim
def I6:∀{b:i->Option a3},m∉n.map (·.1)->bindL o n b m=b m:=by
 induction n with
 |nil=>show λe=>rfl|cons e r d=>
  intro b a;have a:=not_or.mp<|mt hP.mpr a;show(d a.2).trans ?_;split
  .show if_neg a.1
  .rfl
def I7:∀{b:i->Option a3},m∉n.map (·.1)->bindC o n b m=b m:=by
 induction n with
 |nil=>show λe=>rfl|cons e r d=>
  intro b a;have a:=not_or.mp<|mt hP.mpr a;show(d a.2).trans ?_;split
  .rfl
  .show if_neg a.1
def I8 {d:i}{f:a3}{a:List (i×a3)}:∀{g:i->Option a3},(a.map (·.1)).Nodup->(d,f)∈a->m d=O .local->bindL m a g d=O f:=by
 induction a with
 |nil=>show λd a=>nomatch a|cons a r j=>
  intro g b e h;have b:=ka.mp b;show aw (a4 e) (λk=>?_) λe=>?_
  .obtain rfl:=k;show(I6 b.1).trans ?_;mspec if_pos h;show if_pos V
  .show j b.2 e h
def I9 {a:List (i×a3)}:∀{e:i->Option a3},(a.map (·.1)).Nodup->(m,o)∈a->n m=O .cell->bindC n a e m=O o:=by
 induction a with
 |nil=>show λj a=>nomatch a|cons a r g=>
  intro e b d f;have b:=ka.mp b;show aw (a4 d) (λh=>?_) λd=>?_
  .obtain rfl:=h;show(I7 b.1).trans ?_;mspec if_neg (λa=>nomatch f.symm.trans a:¬n m=O .local);show if_pos V
  .show g b.2 d f
def Ja {b:ak}(r:aN m n o ds)(d:(ae,af)∈b.zip ds):∃a,(ae,a)∈b.zip o/\a9 m n a af:=by
 show v (x6.mp d) λe b=>?_;show am (Jb.mp b) λd e=>?_;show aX (r.get e) λa b f=>?_;show as a (ic<|Jb.mpr #[d,b]) f
structure ez (U:aV)(aQ:T)(a7:iH)(dW:ak)(body:List cl):Prop where
 at_:∃o,U.B.get? aQ=O o/\o.data=.func a7
 lim:U.B.NoLimit
 m6:U.B.CodeRec a7.code a7.qualname
 pc:a7.body=.stmts body
 je:a7.closure=[]
 r1:∀a1:cv,a1.length=dW.length->hD a7 #[a1,[]]=pure (dW.zip a1)
 uA:∀ae∈dW,a7.scope.names.lookup ae=O .local\/(a7.scope.names.lookup ae=O .cell/\∀s,((iB s a7.scope.names []).lookup ae).isSome=z)
 bz:dW.Nodup
 x7:((iB 0 a7.scope.names []).map (·.1)).Nodup
 fm:a7.scope.isCoroutine=aj
 bY:a7.scope.isGenerator=aj
 kind:a7.scope.kind=.function
structure hc (U:aV)(aQ:T)(a7:iH)(dW:ak)(body:List cl):Prop where
 at_:∃o,U.B.get? aQ=O o/\o.data=.func a7
 lim:U.B.NoLimit
 m6:U.B.CodeRec a7.code a7.qualname
 pc:a7.body=.stmts body
 je:a7.closure=[]
 uA:∀ae∈dW,a7.scope.names.lookup ae=O .local\/(a7.scope.names.lookup ae=O .cell/\∀s,((iB s a7.scope.names []).lookup ae).isSome=z)
 bz:dW.Nodup
 x7:((iB 0 a7.scope.names []).map (·.1)).Nodup
 fm:a7.scope.isCoroutine=aj
 bY:a7.scope.isGenerator=aj
 kind:a7.scope.kind=.function
def ez.def (a:ez b m n o body):hc b m n o body:=#[a.at_,a.lim,a.m6,a.pc,a.je,a.uA,a.bz,a.x7,a.fm,a.bY,a.kind]
structure gJ (U:aV)(a7:iH)(args:Args)(dW:ak)(X:aY)(ds:dn)(aa:aM):Prop where
 go:∀(aJ:cV)(bM:List (i×a3)->aM->Prop)(bv:bX),(∀a1 dQ a,E dQ aa.heap->aN U (l dQ X) a1 ds->bM (dW.zip a1) {aa with heap:=dQ,toks:=a})->ar U.M aJ (hD a7 args) bM bv aa
def ez.qp (d:ez n w r o body)(a:aN n (l b.heap X) m ds)(e:o.length=ds.length):gJ n r #[m,[]] o X ds b:=.mk λg h i f=>by
 mspec d.r1 m (by rw[a.length,e]);show ba<|f m b.heap b.toks (E.bd _) a
def hc.Ct (f:hc x r m B body)
 (S8:dz M (n+1)) (S9:E (l w.heap X) x.B) (J:∀b∈X,∃o,w.heap.get? b=O o) (Th:gJ x m args B X ds w) (Ti:B.length=ds.length) {h0:aW} (Ta:E w.heap h0)
 (K:∀a∈own,a.1∈X/\bG x (l w.heap X) w.heap a.1 a.2) (Tj:∀a∈own,h0.get? a.1=c) (Tk:own.Pairwise λh Tl=>h.1≠Tl.1) {fr:Option (List b1)} {gen:Bool} (Tm:∀L,fr=O L->M.frames=O L)
 (Tn:∀k p i To,jd (M.deeper<|bU m k r) n (bU m k r) fr->u #[h0,X,fr,gen] #[x,n,bU m k r,p,B.zip ds,own] i->E i w.heap->(∀b∈p,b∈X\/w.heap.get? b=c)->
  ar x.M (M.deeper<|bU m k r) (execs body<|bU m k r) (λTp R=>S4 (.ok<| .ret (match Tp with| .ret S5=>S5|_=>.none)) R)
   (λI R=>ar x.M (M.deeper<|bU m k r) (qf (bU m k r) I) (λy S=>S4 (.error I) S) (λTq S=>S4 (.error Tq) S) R) {w with heap:=i,toks:=To}):hR x.M M (.call (.ref r) args) S4 w:=by
 show aX f.at_ λo k hd=>?_;have T:E w.heap x.B:=S9.trans l.of;show codeAny_call_function S8.xr (T _ _ k) hd f.fm f.bY f.pc (f.m6.keeps T)<|Th.go _ _ _ λU C M q Tb=>?_;have W:((B.zip U).map (·.1))=B:=by show aI (List.map_fst_zip<|ay (by rw[Tb.length,Ti]:U.length=B.length).symm) V
 mspec f.je;show wpAny_newFunctionEnv_cells f.kind (λh k=>?_)<|λenv Tr M h=>?_
 .show aw (f.uA h.1<|W▸dI k) (λj=>?_) λY=>?_
  .show .inl j
  .show am Y λj h'=>?_;show .inr #[j,h' _]
 .subst Tr;show#[((f.lim.keeps T).keeps q).keeps h.toInCall.keep,codeAny_func ?_];obtain⟨i,Ts,rfl,_⟩:=h.done;have F:E i C:=h.toInCall.keep;generalize Tt:C.objs.size=LL at*;have Z:∀a∈(bU m LL r).cells,i.IsCell a.2 (bindC (bU m LL r).kindOf (B.zip U) (λy=>c) a.1):=λa e=>
   h.cell a.1 a.2 (lookup_of_mem_nodup (cellsFrom_names m.scope.names 0 (LL+1) [] [] rfl▸f.x7) e)
  have S6:∀b,@m5 Nat _ LL b->C.get? b=c:=λb s=>by
   cases g:C.get? b with
   |none=>rfl|some o=>show absurd (gl g)<|Tt▸g8.mpr s
  have N:∀b,@m5 Nat _ LL b->w.heap.get? b=c:=λb s=>by
   cases g:w.heap.get? b with
   |none=>rfl|some o=>have:=q b o g;show b5 (S6 b s) this
  have Tc:∀b,@m5 Nat _ LL b->b∉X:=λb s d=>by show v (J b d) λo g=>?_;show b5 (N b s) g
  have Td:∀b,@m5 Nat _ LL b->h0.get? b=c:=λb s=>by
   cases g:h0.get? b with
   |none=>rfl|some o=>have:=Ta b o g;show b5 (N b s) this
  have G:∀a∈(bU m LL r).cells,@LT.lt Nat _ LL a.2:=λa e=>h.above a.1 a.2 e;generalize t:(LL::((bU m LL r).cells.map (·.2)))++X=p;have Te:E (l i p) (l C X):=λb o g=>by
   have S7:=l.of _ _ g;show cb _ (F b o S7) λd=>?_;replace d:=t▸d;show cK d (λd=>?_) λd=>?_
   .show aw (a4 d) (λH=>?_) λd=>?_
    .obtain rfl:=H;show b5 (S6 _<|cg _) S7
    .obtain⟨a,e,rfl⟩:=ck d;show b5 (S6 _<|iD<|G a e) S7
   .show b5 (cT _ d) g
  have Tf:E (l i p) (l w.heap X):=(l.keep _ q).trans Te;have Tu:u #[h0,X,fr,gen] #[x,n,bU m LL r,p,B.zip ds,own] i:=
   {base:=S9.trans Tf
    cw:=λb d=>by
     replace d:=t▸d;show cK d (λd=>?_) λd=>?_
     .show aw (a4 d) (λH=>?_) λd=>?_
      .obtain rfl:=H;show eW h.toInCall.ns λo y y I y=>?_;show dm o I
      .obtain⟨a,e,rfl⟩:=ck d;show aX (Z a e) λo I y=>?_;show dm o I
     .show v (J b d) λo I=>?_;show dm o (F _ _<|q _ _ I)
    d8:=λa e=>by
     show aX (Ja Tb (ae:=a.1) (af:=a.2) e) λS5 Tg k=>?_;show as S5 ?_<|k.keep Te;have k:a.1∈B:=(List.of_mem_zip e).1;show aw (f.uA a.1 k) (λj=>?_) λY=>?_
     .show .inl #[j,_,h.toInCall.ns,I8 (by mspec W;show f.bz) Tg j]
     .show am Y λj h'=>?_;show v (xX.mp<|h'<|LL+1) λP Q=>?_;show .inr<|fo P (.inl j) Q ?_;have:=Z (a.1,P)<|mem_of_lookup Q;rwa[I9 (by mspec W;show f.bz) Tg j]at this
    D:=λa e=>#[t▸bA (K a e).1,(K a e).2.keep Tf<|q.trans F]
    kind:=f.kind
    db:=(Ta.trans q).trans F
    ns:=#[_,h.toInCall.ns]
    cells:=λa e=>#[_,Z a e]
    apart:=h.apart
    cn:=#[t▸bI ao,λa e=>t▸bI (A<|dI e)]
    ft:=λa e=>Cu (G a e)
    new:=#[Td _<|cg _,λa e=>Td _<|iD<|G a e]
    cM:=λa e=>cG (Tj a e) (λg=>Tc _ (ay g.symm) (K a e).1) (λP Q g=>Tc _ (iD<|g▸G P Q) (K a e).1)
    dr:=Tk
    sub:=λb d=>t▸bA d}
  show Tn LL p i Ts #[S8.rJ V rfl rfl (cg _),λL J=>r2<|Tm L J] Tu (q.trans F) λb d=>by
   replace d:=t▸d;show cK d (λd=>?_) λd=>?_
   .show aw (a4 d) (λH=>?_) λd=>?_
    .obtain rfl:=H;show .inr<|N _<|cg _
    .obtain⟨a,e,rfl⟩:=ck d;show .inr<|N _<|iD<|G a e
   .show .inl d
def hc.uB (k:hc w b m B body)
 (p:dz x (n+1)) (q:E (l r.heap X) w.B) (s:∀t∈X,∃o,r.heap.get? t=O o) (v:gJ w m args B X ds r) (y:B.length=ds.length) (A:E r.heap h0)
 (C:∀d∈own,d.1∈X/\bG w (l r.heap X) r.heap d.1 d.2) (D:∀d∈own,h0.get? d.1=c) (F:own.Pairwise λG H=>G.1≠H.1) {gen:Bool} (J:∀j,fr=O j->x.frames=O j)
 (K:∀a f e g,jd (x.deeper<|bU m a b) n (bU m a b) fr->u #[h0,X,fr,gen] #[w,n,bU m a b,f,B.zip ds,own] e->E e r.heap->
  ar w.M (x.deeper<|bU m a b) (execs body<|bU m a b) (λL h=>M (.ok<| .ret (match L with| .ret S4=>S4|_=>.none)) h)
   (λI h=>ar w.M (x.deeper<|bU m a b) (qf (bU m a b) I) (λN i=>M (.error I) i) (λP i=>M (.error P) i) h) {r with heap:=e,toks:=g}):hR w.M x (.call (.ref b) args) M r:=
 k.Ct p q s v y A C D F J λa f e g b d h N=>K a f e g b d h
def ez.call (h:ez m r M w body)
 (k:dz x (n+1)) (p:E (l b.heap X) m.B) (q:∀s∈X,∃o,b.heap.get? s=O o) (t:aN m (l b.heap X) B ds) (i:w.length=ds.length) (u:E b.heap h0)
 (v:∀a∈own,a.1∈X/\bG m (l b.heap X) b.heap a.1 a.2) (y:∀a∈own,h0.get? a.1=c) (A:own.Pairwise λC D=>C.1≠D.1)
 {gen:Bool} (F:∀j,fr=O j->x.frames=O j) (G:∀f g,S #[h0,X,fr,gen] #[m,n,bU M f r,g,w.zip ds,own] body S4)
 (H:∀e d,cs b d gen->S4 e d.heap->S5 (match e with| .ret S6=>S6|_=>.none) d):ar m.M x (dU (.ref r) B) S5 S7 b:=
 hS (h.def.uB (args:=#[B,[]]) k p q (h.qp t i) i u v y A F λf g j m r s a=>dq ((G f g).go _ {b with heap:=j,toks:=m} _ r s) (λe d b=>H e d (cs.up.trans b.1) b.2) λa a I=>I)
def ez.m7 {b:ak}{body:List cl}{a:aV}(g:ez a m o b body){n:Nat}{f:j}(h:b.length=ds.length)
 (i:∀d e I,S I #[a,n,bU o d m,e,b.zip ds,[]] body (kW a I f)) {env:b1} {X:aY} {Γ:be} {own:List (T×j)}:bO #[a,n+1,env,X,Γ,own] (.ref m) ds f:=.mk λm b o p q f a k l=>
 g.call f a.base a.cw k h (h0:=b.heap) (E.bd _) (own:=[]) (λb a=>nomatch a) (λb a=>nomatch a) (fr:=c) (gen:=aj) .nil (λb a=>nomatch a) (λd e=>i d e _) λf a b r=>by
  show v r λd e=>?_;show eN e λf g=>?_;mspec b.eq;show l d a.heap a.toks f g
end
noncomputable abbrev a (U:aV):fl:=pT U.w.params
structure aR (U:aV):Prop where
 bC:(a U).In U.B
 kb:∃ai oN b o1 t6,Top ai oN b o1 t6 U.B
noncomputable def bi (aQ:T)(au:fl):iH:=match au.lookup aQ with
 |O #[_,_,.func a7,_]=>a7|_=>default
noncomputable def cf (aQ:T)(au:fl):List cl:=match(bi aQ au).body with
 | .stmts b=>b|_=>[]
noncomputable def hT (b:List cl)(s:Nat):cl:=match b[s]? with
 |some aa=>aa|none=>.Pass default
noncomputable def qq (aQ:c4->c4->List cl->di->α)(bt:List cl->α)(al:List cl->List cl->α)(cJ:α)(aa:cl):α:=wY aa (λa a a a a a a a a a=>cJ) (λa a a a a a a a a a=>cJ) (λa a a a a a a a a a a=>cJ) (λa a=>cJ) (λa a=>cJ) (λa a a=>cJ) (λa a a a a a a=>cJ) (λa a a a=>cJ) (λa a a a a=>cJ) (λaT L b a ai=>aQ aT L b ai) (λa a a a a=>cJ) (λa b a a=>bt b) (λa b q a=>al b q) (λa a a=>cJ) (λa a a=>cJ) (λa a a=>cJ) (λa a a=>cJ) (λa a a a a=>cJ) (λa a a a a=>cJ) (λa a a=>cJ) (λa a=>cJ) (λa a a a=>cJ) (λa a=>cJ) (λa a=>cJ) (λa a=>cJ) (λa=>cJ) (λa=>cJ)<|λa=>cJ
noncomputable def lC (b:List cl)(s:Nat):List cl:=qq (λa a b a=>b) (λb=>b) (λb a=>b) []<|hT b s
section
variable {U:aV}(aF:aR U)
include aF
def aR.eU (d:b.d=U)(e:nsIn (a U) hQ m=O (O n))(f:b.J.kindOf m=O .globalImplicit)(g:b.J.globals=hQ)(hd:(m==("__debug__":i))=aj):R b (.Name m pos) (.val n):=by
 show hx aF.kb λj k l h m b=>?_;show R.eU (o1:=h) f (by mspec d;mspec g;show b.g) (mg_of aF.bC b.g e) hd
def aR.eX (e:m.d=U)(f:nsIn (a U) hQ b=O c)(g:bootBuiltins b=O n)(h:b≠"__name__")(j:m.J.kindOf b=O .globalImplicit)(k:m.J.globals=hQ)(l:m.J.builtins=x8)(hd:(b==("__debug__":i))=aj):R m (.Name b pos) (.val n):=by
 show hx aF.kb λo p q m n d=>?_;show R.Iy (o1:=m) (t6:=n) j (by mspec e;mspec k;show d.g) (mg_none_of aF.bC d.g f) (by mspec e;mspec l;show d.b) ((d.builtins b h).trans g) hd
def aR.fn (f:(a U).lookup b=O o)(hd:o.data=.func (bi b<|a U))(g:codeIn (a U) (bi b<|a U).code (bi b<|a U).qualname=z)(h:(bi b<|a U).body=.stmts body)(i:(bi b<|a U).closure=[])
 (j:∀d:cv,d.length=m.length->hD (bi b<|a U) #[d,[]]=pure (m.zip d))
 (k:∀e∈m,(bi b<|a U).scope.names.lookup e=O .local\/((bi b<|a U).scope.names.lookup e=O .cell/\∀l,((iB l (bi b<|a U).scope.names []).lookup e).isSome=z)) (n:m.Nodup)
 (p:((iB 0 (bi b<|a U).scope.names []).map (·.1)).Nodup) (q:(bi b<|a U).scope.isCoroutine=aj) (gen:(bi b<|a U).scope.isGenerator=aj) (r:(bi b<|a U).scope.kind=.function):ez U b (bi b<|a U) m body:=by
 show hx aF.kb λd e l m s b=>?_;show#[(as o (aF.bC _ _ f) hd),b.nolimit,codeRec_of aF.bC g,h,i,j,k,n,p,q,gen,r]
end
inductive qr (Y:bc)(I:aO)(al:aW):Prop
 |mk (a:aY) (d:∀b∈Y.X,b∈a) (e:u I #[Y.d,Y.n,Y.J,a,Y.p,Y.D] al):qr Y I al
abbrev r3 (a7:iH)(ae:i):Prop:=a7.scope.names.lookup ae=O .local\/(a7.scope.names.lookup ae=O .cell/\∀s,((iB s a7.scope.names []).lookup ae).isSome=z)
section
variable {a7:iH}{ae bu cJ a8:i}{ag:ak}
def he:∀bu∈([]:ak),r3 a7 bu:=λb a=>nomatch a
def fh (a:a7.scope.names.lookup ae=O .local)(b:∀bu∈ag,r3 a7 bu):∀bu∈ae::ag,r3 a7 bu:=Jc.mpr #[.inl a,b]
def qs (a:a7.scope.names.lookup ae=O .cell)(b:∀d,((iB d a7.scope.names []).lookup ae).isSome=z)(e:∀bu∈ag,r3 a7 bu):∀bu∈ae::ag,r3 a7 bu:=Jc.mpr #[.inr #[a,b],e]
def Jd (b:hD a7 #[[],[]]=pure [])(a:cv)(d:a.length=([]:ak).length):hD a7 #[a,[]]=pure (([]:ak).zip a):=by
 cases n9.mp d;show b
def kX (d:∀a,hD a7 #[[a],[]]=pure [(ae,a)])(b:cv)(e:b.length=[ae].length):hD a7 #[b,[]]=pure ([ae].zip b):=by
 show v (x9.mp e) λa b=>?_;show bw b ?_;show d a
def qt {a:cv}(d:a.length=n+1):∃b r,a=b::r/\r.length=n:=by
 cases a with
 |nil=>cases d
 |cons b r=>show iy b r V<|Nat.succ.inj d
def qu (e:∀a b,hD a7 #[[a,b],[]]=pure [(ae,a),(bu,b)])(d:cv)(f:d.length=[ae,bu].length):hD a7 #[d,[]]=pure ([ae,bu].zip d):=by
 show cm (qt f) λa r d=>?_;show ci d λf=>?_;show v (x9.mp f) λb d=>?_;show bw d ?_;show e a b
def Je (f:∀d b e,hD a7 #[[d,b,e],[]]=pure [(ae,d),(bu,b),(cJ,e)])(a:cv)(g:a.length=[ae,bu,cJ].length):hD a7 #[a,[]]=pure ([ae,bu,cJ].zip a):=by
 show cm (qt g) λd h a=>?_;show ci a λg=>?_;show cm (qt g) λb h a=>?_;show ci a λg=>?_;show v (x9.mp g) λe a=>?_;show bw a ?_;show f d b e
def Cv (g:∀d b e f,hD a7 #[[d,b,e,f],[]]=pure [(ae,d),(bu,b),(cJ,e),(a8,f)])(a:cv)(h:a.length=[ae,bu,cJ,a8].length):hD a7 #[a,[]]=pure ([ae,bu,cJ,a8].zip a):=by
 show cm (qt h) λd i a=>?_;show ci a λh=>?_;show cm (qt h) λb i a=>?_;show ci a λh=>?_;show cm (qt h) λe i a=>?_;show ci a λh=>?_;show v (x9.mp h) λf a=>?_;show bw a ?_;show g d b e f
end
local macro_rules |`(tactic| mexact $t)=>`(tactic| (refine $t;all_goals try(with_reducible show S _ _ _ _);with_reducible dsimp only))
noncomputable def item (aT:i)(a:ak):j:=.list [.str aT,.list<|a.map .str]
noncomputable def hU:List (i×ak):=[("*",["*","**","***"]),(".",["?","[!b-a]","[z-y!]"]),("(?!)",["[b-a]","[c-ab-a]","[9-0]"]),("\\.",[".",".","."]),("[]]",["[]]","[]b-a]","[]z-y]"]),
 ("[^a-a]",["[!a-a]","[b-a!a-a]","[!b-aa-a]"]),("[a-c]",["[a-c]","[z-ya-c]","[a-cz-y]"]),("[\\^]",["[^]","[b-a^]","[^b-a]"])]
noncomputable abbrev fi:j:=.list<|hU.map λai=>item ai.1 ai.2
def dt {n:Nat}(a:oQ n 1000=z):n<=aC:=a5 (fT a) (by decide)
def oa {m n o r}:R M (.List [.Constant (.str w) m S4,.List [.Constant (.str x) n S5,.Constant (.str b) o S6,.Constant (.str B) r S7] S8] S9) (item w [x,b,B]):=
 R.list (W.cons R.cy (W.cons (R.list (W.cons R.cy (W.cons R.cy (W.cons R.cy W.nil V) V) V)<|dt H) W.nil V) V) (dt H)
section
variable {U:aV}
def Jf (b:aR U):ez U 203 (bi 203<|a U) [] (cf 203<|a U):=
 b.fn V rfl H V rfl (Jd<|by room) he .nil .nil e e V
def Jg (n:Nat)(d:T)(X:aY)(b:aO):S b #[U,n,bU (bi 203<|a U) d 203,X,[],[]] (cf 203<|a U) (kW U b fi):=by
 mexact S.ret<|R.of_eq (R.list (W.cons oa (W.cons oa (W.cons oa (W.cons oa (W.cons oa (W.cons oa (W.cons oa (W.cons oa W.nil V) V) V) V) V) V) V) V)<|dt H) V
def Jh (a:aR U):bO #[U,n+1,env,X,Γ,own] (.ref 203) [] fi:=
 (Jf a).m7 V (λb d e=>Jg n b d e)
end
section
variable {cY:i5}{bp:fd}{aJ:cV}{bv:bX}{aa:aM}
def Ji (i:aJ.handled=c)(e:aa.heap.IsList n b.toArray)(f:rM b m)
 (j:∀h' a d,E h' aa.heap->o (.int m.sum d) {aa with heap:=h',toks:=a}):ar (b2 cY bp) aJ (dU (.builtin "sum") [.ref n]) o bv aa:=by
 show v f.allInts.items λg h=>?_;have k:m.sum=preSum (numAt g) g.size:=by
  show ch f.numsOf ?_;mspec show b=b.toArray.toList from rfl;mspec h;rw[nums_intItems,preSum_eq];show aI (o7<|by simp) V
 rw[h]at e;show sum_intListG i e λh' a d b=>by show k▸j h' a d b
def Jj (r:aJ.handled=c)(j:aa.heap.IsList w x.toArray)(k:rM x b)(s:0<b.length)
 (u:∀h' d e f,E h' aa.heap->d∈b->(∀g,g∈b->g<=d)->B (.int d e) {aa with heap:=h',toks:=f}):ar (b2 cY bp) aJ (dU (.builtin "max") [.ref w]) B bv aa:=by
 show v k.allInts.items λa l=>?_;have h:b=a.toList.map (·.1):=by show ch k.numsOf ?_;rw[<-nums_intItems];show ch l V
 have o:0<a.size:=by have p:=s;rw[h,a6,rW]at p;show p
 rw[l]at j;show max_intList r j o λk h' f b d=>?_;show v (intItems_at b) λe j=>?_;show bw j ?_;show am (argBest_gt (numAt a)<|a.size - 1) λb y=>?_;show u h' _ e f d ?_ λg i=>?_
 .mspec h;rw[numAt_eq];show getD_mem (by rw[a6];mspec rW;show bb [.C G t,.aK t N] 0 (.Q G) N H b<|ay<|e8 (n:=a.size) (m:=1)<|dK [.aK (.n 0) G] 0 (.n 1) G H o)
 .replace i:=h▸i;obtain⟨A,q,rfl⟩:=mem_getD i;rw[a6,rW]at q;rw[<-numAt_eq];show y A<|bb [.aK G t,.C t<| .Q N] 0 G N H q<|eY<|cg<|a.size - 1
end
section
variable {Y:bc}
def bO.len (b:aq Y r (.list ds))(d:ds.length<2^62):bO Y (.builtin "len") [r] (.int ds.length):=.mk λa e j k l m g h i=>by
 show v h.one λj a=>?_;show ci a λh=>?_;show v (b.obj g h) λj a=>?_;show ci a λb=>?_;show aX b.ey λg h j=>?_;have a:g.toArray.size=ds.length:=by simpa using j.length
 show len_list (PlainList.fV h) (by mspec a;show bh [↑ds.length] [.aK f<| .n 4611686018427387904] 0 (.Q f) (.n 9223372036854775808) H (ej.mpr d:))<|a▸i _ e.heap _ (E.bd _) (.int _ _)
def bO.sum {a:h}(b:aq Y r (.list<|a.map .int)):bO Y (.builtin "sum") [r] (.int a.sum):=.mk λa i j k l d e f g=>by
 show v f.one λi a=>?_;show ci a λf=>?_;show v (b.obj e f) λi a=>?_;show ci a λb=>?_;show aX b.ey λf a e=>?_;show Ji d.handled (PlainList.fV a) e.mf λh' b i f=>g _ h' b f<| .int _ _
def bO.max {a:h}(f:aq Y r (.list<|a.map .int))(d:b∈a)(g:∀e∈a,e<=b):bO Y (.builtin "max") [r] (.int b):=.mk λa q s t u i j k l=>by
 show v k.one λq a=>?_;show ci a λk=>?_;show v (f.obj j k) λe a=>?_;show ci a λe=>?_;show aX e.ey λj a f=>?_;show Jj i.handled (PlainList.fV a) f.mf (Jk d) λh' e j m n o p=>?_;obtain rfl:e=b:=gr (g _ o)<|p _ d;show l _ h' m n<| .int _ _
def bO.uC:bO Y (.type "range") [.int b] (.iz 0 b 1):=.mk λa d i j k m f g h=>by
 show v g.one λi a=>?_;show ci a λg=>?_;show v g.df λi a=>?_;show bw a ?_;show call_range_1<|h _ _ _ (E.push _ _)<| .iz (aT:=d.toks) (a8:=i) (an:=d.toks+1) ?_;show l.l9 f _ e
def bO.Jl:bO Y (.type "range") [.int m,.int b] (.iz m b 1):=.mk λa d i j k m f g h=>by
 show cm g.eT λi j a=>?_;show eN a λg i=>?_;show v g.df λj a=>?_;show bw a ?_;show v i.df λg a=>?_;show bw a ?_;show call_range_2<|h _ _ _ (E.push _ _)<| .iz (aT:=j) (a8:=g) (an:=d.toks) ?_;show l.l9 f _ e
def bO.tuple (f:aq Y r (.list ds))(h:ds.length<=aC):bO Y (.type "tuple") [r] (.bQ ds):=.mk λa b j k m n d g i=>by
 show v g.one λj a=>?_;show ci a λg=>?_;show v (f.obj d g) λj a=>?_;show ci a λg=>?_;show aX g.ey λa j f=>?_;show call_tuple_list (PlainList.fV j) (λh' g=>?_) (by simpa[f.length]using h);have h:E (h'.push {cls:=.type "tuple",data:=.seq a.toArray}) b.heap:=E.trans g<|E.push _ _;show i _ _ b.toks h<| .bQ (a1:=a) #[{cls:=.type "tuple",data:=.seq a.toArray},?_,V,0,V]<|f.keep<|l.keep _ h;show l.l9 (d.keep g) _ e
def fD (Y:bc)(r:j)(a:i)(id:String):Prop:=
 ∀(aJ:cV)(aa:aM)(bM:a3×cv->aM->Prop)(bv:bX)(an:a3)(ij:ib Bool),cU Y aa.heap->a9 Y.d (l aa.heap Y.X) an r->bM (.builtin id,[an]) aa->ar Y.d.M aJ (gK an a ij) bM bv aa
def fD.str {id:String}(a:Slot "str" b id)(d:qv (.builtin id)=pure (.type "method_descriptor")):fD Y (.str ae) b id:=λb g h i j k l r e=>by
 obtain⟨b,rfl⟩:=r.dN;show qw (ob _ _ _) Jm a d (λb f=>by cases f) e
def fD.list {id:String}(a:aq Y r (.list ds))(d:Slot "list" m id)(e:qv (.builtin id)=pure (.type "method_descriptor")):fD Y r m id:=λk l m o p q f r g=>by
 obtain⟨k,rfl,h⟩:=a.obj f r;show aX h.ey λf a k=>?_;have f:=a;show v f λn i=>?_;show qw (PlainList.fV a).typeIs Jn d e (λb j=>by cases j;show as _ i V) g
def fD.dict {ds}{a:i}{id:String}(b:aq Y r (.dict ds))(d:Slot "dict" a id)(e:qv (.builtin id)=pure (.type "method_descriptor")):fD Y r a id:=λa j k l m n f r g=>by
 obtain⟨a,rfl,h⟩:=b.obj f r;show gj h.o2 λb f a j k=>?_;show qw a.typeIs Jo d e a.mapOf.noDict g
def R.jf {a:i}{id:String}{r d:j}(k:R Y o r)(p:fD Y r a id)(q:W Y pos (m::b) ds)(s:bO Y (.builtin id) (r::ds) d)
 (t:bf (m::b) Y.J=(aj,eval m Y.J)::bf b Y.J) (u:(cX pos<|bf b Y.J).any (·.1)=aj)
 (v:eval (.Call (.Attribute o a n) (m::b) [] pos) Y.J=(do
  let w <-eval o Y.J
  ep n.atName
  let(B,first) <-e5 [w] (gK w a x)
  dO pos B first (cX pos<|bf (m::b) Y.J) [])):R Y (.Call (.Attribute o a n) (m::b) [] pos) d:=.mk λb g n d h e w=>
 jO (pl:=x) (k.go b g _ d h e λa y A f m=>p b {g with heap:=y,toks:=A} _ d a x (e.keep f) m
  (mh (first:=[a]) (q.go b _ _ d h (e.keep f) λp x y k A=>s.go b {g with heap:=x,toks:=y} n d (a::p) h ((e.keep f).keep k) (.cons (m.keep<|l.keep _ k) A) λa h' b g r=>w a h' b ((f.trans k).trans g) r) t u)) v
def bO.r4 (d:aq Y r (.list<|j9.map .str))(e:(j9.map (·.length)).sum+j9.length*b.length<=16777216):bO Y (.builtin "str.join") [.str b,r] (.str<|dC b j9):=.mk λa b i j k l f g h=>by
 show cm g.eT λi j a=>?_;show eN a λg i=>?_;show v g.dN λj a=>?_;show bw a ?_;show v (d.obj f i) λg a=>?_;show ci a λd=>?_;show aX d.ey λg a f=>?_;show join_list (PlainList.fV a) f.strs e λg d=>h _ b.heap d (E.bd _)<| .str _ _
def bO.Cw {hg:h}(k:aq Y r (.list<|hg.map .int))(l:b∈hg)(m:hg.length<2^62):bO Y (.builtin "list.index") [r,.int b] (.int (hg.idxOf b:Nat)):=.mk λd o s u w x p i q=>by
 show cm i.eT λs u d=>?_;show eN d λs u=>?_;show v u.df λi d=>?_;show bw d ?_;show v (k.obj p s) λu d=>?_;show ci d λk=>?_;show aX k.ey λg p s=>?_;show v p λn d=>?_;have e:=s.mf;have j:=e.length;have a:hg.idxOf b<hg.length:=Jp.mpr l;show ya Cx (as _ d V) PySem.F.entry_list_index (PySem.F.args_list_index_2 _ _)
  (list_indexAt u g.toArray n c (aRR []) (.int b i) (isInt b) (hg.idxOf b) (by simpa[j]using a) (bh [↑(Cy b hg),↑hg.length] [.aK aA<| .n 4611686018427387904,.aK f aA] 0 (.Q f) (.n 9223372036854775807) H (ej.mpr m:) (ej.mpr a:)) ?_ ?_) (cG d (λk l=>(eq_isInt b i e k<|by simpa using l).at _ _)<|q _ o.heap _ (E.bd _)<| .int _ _)
 .show(?_:isInt b g[hg.idxOf b]=z);mspec isInt_at b e _ (a5 a<|ay (j).symm) a;simpa using Cz a
 .intro d j i;show(?_:isInt b g[d]=aj);mspec isInt_at b e d j<|bb [.aK t N,.aK G t] 0 (.Q G) N H a i;show ne_of_lt_idxOf i _
def bO.Jq (e:aq Y r (.dict m)):bO Y (.builtin "dict.get") [r,.int b,n] ((m.lookup b).getD n):=.mk λa f j l n s g d h=>by
 cases d with
 |cons i d=>
  show cm d.eT λl j a=>?_;show eN a λd k=>?_;show v d.df λl a=>?_;show bw a ?_;show v (e.obj g i) λd a=>?_;show ci a λe=>?_;show gj e.o2 λs g a i n=>?_;show am (aN.lookup i n b) λo p=>?_;show yb qx a.typeIs Jr (PySem.F.args_dict_get_3 _ _ _) (meets_dict_get_default (mT Y.d.prog Y.d.w) d (ua _ _ b l) g j)<|as _ a.mapOf<|h _ f.heap _ (E.bd _) ?_;cases z:m.lookup b with
  |none=>show(o z)▸k|some q=>show aX (p q z) λd a b=>?_;show a▸b
end
def uD {d:Type}{e:d->j}{f:d->kR}(g:∀a,j.ja (e a) (f a))(b:List d):j.mW (b.map e) (b.map f):=by
 induction b with
 |nil=>show .nil|cons a b h=>show .cons (g a) h
def Js {d:Type}{e:d->kR}(f:∀a,(e a).canLay0=z)(b:List d):qy (b.map e)=z:=by
 induction b with
 |nil=>rfl|cons a b g=>rw[b7,qy,f a,g];rfl
def Jt {d:Type}{e:d->kR}{f:Nat}(g:∀a,(e a).depth<=f)(b:List d):qz (b.map e)<=f:=by
 induction b with
 |nil=>show ew _|cons a b h=>rw[b7,qz];show CA.mpr #[g a,h]
def Ju {e:Type}{a:e->kR}{s:Nat}(f:∀b,(a b).canLay0=z)(hd:∀b,(a b).depth<=s)(g:s<=60)(d:List e):jF (.list<|d.map a)=z:=by
 unfold jF;rw[oc];mspec Js f d;rw[uE];show decide_eq_true ?_;rw[r5];show p5 (a5 (Jt hd d) g) H
theorem yc:∀a b:h,qA (a.map uF) (b.map uF)=z
 |[],[]=>rfl|[],_::_=>rfl|_::_,[]=>rfl|n::a,d::b=>by rw[b7,b7,qA,yc a b];rfl
section
variable {Y:bc}
def iS.mf {b:j}{a:h}(d:aq Y b (.list<|a.map .int)):iS Y b (.list<|a.map .int):=.inr<|f5 _ _ d (uD .int a) V
def uG (a:h):jF (.list<|a.map .int)=z:=Ju (s:=0) (λb=>rfl) (λb=>by rw[r5];show cg _) (by show ew _) a
def av.CB {d b:j}{a iI:h}(e:aq Y d (.list<|a.map .int))(f:aq Y b (.list<|iI.map .int)):av Y .Eq d b (decide (a=iI)):=by
 have:=av.BY (iS.mf e) (iS.mf f) (uG a) (uG iI) (by rw[me];show yc a iI);rwa[Spec.same,same_ints]at this
def av.r6 {a b:j}{hg iI:h}(d:aq Y a (.list<|hg.map .int))(e:aq Y b (.list<|iI.map .int)):av Y .NotEq a b (decide (hg≠iI)):=by
 have:=av.BZ (iS.mf d) (iS.mf e) (uG hg) (uG iI) (by rw[me];show yc hg iI);rw[Spec.same,same_ints]at this;simpa[decide_not]using this
def R.kQ {b pos m}:R Y (.UnaryOp .USub (.Constant (.int 1) b pos) m) (.int<| -1):=.mk λd a e f g h b=>
 wpAny_UnaryOp (Ir<|by
  show PyProof.Rows.neg_int ?_;show b _ a.heap _ (E.bd _)<| .int _ _)
end
section
variable {Y:bc}{I:aO}
def g.yd {a:T}{s:Int}{bE:List (Int×j)}{bD b3:List (T×j)}{e:c9}(x:R Y r af)(y:R Y w (.int s))(A:(m,.val (.ref a))∈Y.p)(hd:(m==("__debug__":i))=aj)(B:(m==("__classdict__":i))=aj)
 (q:Y.D=bD++(a,.dict bE)::b3) (C:bE.length<=aC) (D:f7 r (O<| .Subscript (.Name m M) w S4) pos.line Y.J=pure aj):
 g Y I (.Assign [.Subscript (.Name m M) w S4] r pos) (c0 (u I #[Y.d,Y.n,Y.J,Y.X,Y.p,bD++(a,.dict (ig bE s af))::b3]) e):=.mk λe m f h d=>by
 show CC (x.go e m _ f h.todz d.tocU λF r w k G=>(R.name A hd B).go e _ _ f h.todz (d.tocU.keep k) λo m r p H=>y.go e _ _ f h.todz ((d.tocU.keep k).keep p) λm t r v J=>?_) D;obtain rfl:=H.is;obtain⟨K,rfl⟩:=J.df;have e:=((d.keep k).keep p).keep v;show am (e.D _ (show(a,.dict bE)∈Y.D from q▸bA ao)) λk f=>?_;show gj f.o2 λh m r d w=>?_;have x:h.length=bE.length:=by have:=congrArg fN d;simpa using this
 show CD (ua _ _ s K) r (λh' y f=>#[.up,?_])<|x▸C;have h:E (l h' Y.X) (l t Y.X):=l.mS λb o n r=>f.extBut b o (λx=>n<|x▸k) r;show(show u I #[Y.d,Y.n,Y.J,Y.X,Y.p,bD++(a,.dict bE)::b3] t from by show q▸e).kV f<| .dict m y (x4 d s F af)<|aN.x5 ((G.keep<|l.keep _<|p.trans v).keep h) s d<|w.keep h
def g.append (y:R Y arg af)(a:(m,.val (.ref r))∈Y.p)(hd:(m==("__debug__":i))=aj)(f:(m==("__classdict__":i))=aj)
 (h:Y.D=bD++(r,.list ds)::b3) (A:ds.length<=aC) (s:mq Y.J=aj) (t:f7 (.Call (.Attribute (.Name m x) "append" B) [arg] [] w) c pos.line Y.J=pure aj)
 (j:bf [arg] Y.J=(aj,eval arg Y.J)::bf [] Y.J)
 (C:eval (.Call (.Attribute (.Name m x) "append" B) [arg] [] w) Y.J=(do
  let M <-eval (.Name m x) Y.J
  ep B.atName
  let(S4,first) <-e5 [M] (gK M "append" S5)
  dO w S4 first (cX w<|bf [arg] Y.J) [])):
 g Y I (.Expr (.Call (.Attribute (.Name m x) "append" B) [arg] [] w) pos) (c0 (u I #[Y.d,Y.n,Y.J,Y.X,Y.p,bD++(r,.list (ds++[af]))::b3]) S6):=.mk λk m p q d=>by
 show od (jO (pl:=S5) ((R.name a hd f).go k m _ p q.todz d.tocU λo w x D F=>?_) C) s t;obtain rfl:=F.is;have a:=d.keep D;have m:(r,.list ds)∈Y.D:=h▸bA ao;show aX ((a.D _ m).2.ey) λs t d=>?_;show v t λn f=>?_;show CE f V rfl (mh (first:=[.ref r]) ((W.cons y W.nil j).go k _ _ p q.todz a.tocU λB t C w x=>?_) j e);show v x.one λk j=>?_;show ci j λp=>?_;have j:=a.keep w;show am (j.D _ m) λq a=>?_;show aX a.ey λs m d=>?_;show v m λn f=>?_;show us f (λh' a m=>#[.up,?_]) (by simpa[d.length]using A);have f:u I #[Y.d,Y.n,Y.J,Y.X,Y.p,bD++(r,.list ds)::b3] t:=h▸j;have h:E (l h' Y.X) (l t Y.X):=l.mS λb o n j=>a.extBut b o (λr=>n<|r▸q) j;show f.kV a (.list (a1:=s++[k]) #[n+1,by simpa using m]<|(d.append<| .cons p .nil).keep h)
def aL (Γ:be)(eG:be):Prop:=∀ai∈eG,ai∈Γ
def aL.nil:aL Γ []:=λb a=>nomatch a
def aL.cons (b:(m,af)∈Γ)(r:aL Γ n):aL Γ ((m,af)::n):=λd a=>by
 show gh a ?_ λa=>?_
 .show b
 .show r d a
def aL.bd (Γ:be):aL Γ Γ:=λb a=>a
def aL.bj (e:aL Γ m)(b:i)(d:j):aL (bj b d Γ) (bj b d m):=λf a=>by
 unfold Mine.bj at a ⊢;show gh a ?_ λa=>?_
 .show ao
 .show am (e7.mp a) λb d=>?_;show A<|e7.mpr #[e f b,d]
def aL.Jv {b:be}:∀{e Γ:be},aL Γ e->aL (b.foldl (λΓ a=>Mine.bj a.1 a.2 Γ) Γ) (b.foldl (λΓ a=>Mine.bj a.1 a.2 Γ) e):=by
 induction b with
 |nil=>show λd=>d|cons a b f=>show λd=>f<|d.bj a.1 a.2
def aL.gp {a Γ:be}(e:aL Γ a)(b:c4)(d:j):aL (gp b d Γ) (gp b d a):=e.Jv
def S.dV (a:aL Y.p eG)(r:S I #[Y.d,Y.n,Y.J,Y.X,eG,Y.D] b m):S I Y b m:=S.ql (λe d=>d.ef a) r
def S.qB (a:aL Y.p b)(d:Y.D=m):S I Y [] (r0 (u I #[Y.d,Y.n,Y.J,Y.X,b,m]) n o):=S.nil λh' e=>by
 subst d;show e.ef a
def S.ye (a:aL Y.p b)(d:Y.D=m):S I Y [] (rZ (u I #[Y.d,Y.n,Y.J,Y.X,b,m]) n):=S.nil λh' e=>by
 subst d;show e.ef a
inductive yf (bL:Nat)(a:Nat->be)(b:Nat->List (T×j)):Nat->be->List (T×j)->Prop
 |mk (L:Nat) (d:L<=bL):yf bL a b (bL - L) (a L) (b L)
def g.yg (b:Nat)(d:Nat->be)(e:Nat->List (T×j))(m:aL Y.p (d 0))(p:Y.D=e 0)
 (q:∀a,a<=b->aZ #[Y.d,Y.n,Y.J,Y.X,d a,e a] r (decide (a<b)))
 (s:∀a,a<b->S I #[Y.d,Y.n,Y.J,Y.X,d a,e a] body (rZ (u I #[Y.d,Y.n,Y.J,Y.X,d<|a+1,e<|a+1])<|c0 (u I #[Y.d,Y.n,Y.J,Y.X,d b,e b]) w)):
 g Y I (.While r body [] pos) (c0 (u I #[Y.d,Y.n,Y.J,Y.X,d b,e b]) w):=by
 show g.ql (X:=Y.X) (Γ:=d 0) (own:=e 0) (λh f=>by show p▸f.ef m)<|g.uz (Y:=#[Y.d,Y.n,Y.J,Y.X,d 0,e 0]) (ce:=yf b d e) b #[0,ew _] ?_;rintro m Γ own ⟨a,n⟩;show#[_,q a n,λl=>?_,λl h f=>?_]
 .have m:=k l;show(s a m).dP λt h i=>?_;have o:u I #[Y.d,Y.n,Y.J,Y.X,d<|a+1,e<|a+1] h->uy #[Y.d,Y.n,Y.J,Y.X,d 0,e 0] I (qm (yf b d e)<|b - a) h:=λf=>#[_,_,#[_,B8 m<|fA a,#[a+1,m]],f];cases t with
  |next=>show o i|cont=>show o i|brk=>show i|ret d=>show i
 .obtain rfl:a=b:=cZ n<|g8.mp<|of_decide_eq_false l;show f
end
inductive CF (Y:bc)(I:aO)(b:List cl)(bT:c9)(al:aW):Prop
 |mk {X:aY} {Γ:be} {own:List (T×j)} (a:u I #[Y.d,Y.n,Y.J,X,Γ,own] al) (bt:S I #[Y.d,Y.n,Y.J,X,Γ,own] b bT):CF Y I b bT al
section
variable {Y:bc}{I:aO}
def S.seq {a:cl}(d:g Y I a (c0 (CF Y I b m) m)):S I Y (a::b) m:=S.cons d λd e=>by
 cases e with|@mk X Γ own a f=>show eO #[Y.d,Y.n,Y.J,X,Γ,own] I V rfl rfl rfl rfl a f
def S.r7 (f:∀a:c9,(∀d e,m d e->a d e)->S I Y b a):S I Y b m:=f m λa a d=>d
end
noncomputable def qC:Nat->be->Option xp
 |_,[]=>c|0,ai::_=>O ai|n+1,_::ag=>qC n ag
def bl {Γ:be}{d:i×j}(b:Nat)(a:qC b Γ=O d):d∈Γ:=by
 induction b generalizing Γ with
 |zero=>match Γ,a with|_::_,a=>injection a with a;rw[<-a];show ao
 |succ b e=>match Γ,a with|_::_,a=>show A<|e a
noncomputable def yh (Γ:be):bP->be
 |[]=>[]|L::a=>match qC L Γ with
  |some ai=>ai::yh Γ a|none=>[]
def aL.cH {Γ b:be}(a:bP)(e:b=yh Γ a):aL Γ b:=by
 subst e
 induction a with
 |nil=>show aL.nil|cons d a f=>
  show(?_:aL Γ (match qC d Γ with|some g=>g::yh Γ a|none=>[]));split
  .show aL.cons (bl d<|by assumption) f
  .show aL.nil
noncomputable def CG (L:Nat)(Γ:be):Option xp:=(qC L Γ).elim c λai=>bif ai.1==("__debug__":i)||ai.1==("__classdict__":i)then c else O ai
def R.K (h:Nat){d:i}{k:bc}{f:j}{pos}(a:CG h k.p=O (d,f)):R k (.Name d pos) f:=by
 unfold CG at a;cases e:qC h k.p with
 |none=>rw[e]at a;cases a
 |some g=>
  rw[e]at a;cases b:g.1==("__debug__":i)||g.1==("__classdict__":i)with
  |true=>show nomatch (b▸a:(bif z then c else O g)=O (d,f))|false=>
   obtain rfl:=fU (b▸a:(bif aj then c else O g)=O (d,f));show am (CH.mp b) λa d=>?_;show R.name (bl h e) a d
def yi {a:i}:(a,b)∈bj a b Γ:=ao
def Jw:b∈b::Γ:=ao
def f8 {b:bc}:∀a∈([]:be),a∈b.p/\hA b.J m n a.1:=λa b=>nomatch b
def gv {a:bc}(f:(b,o)∈a.p)(g:a.J.cells.lookup b=n.lookup b)(h:a.J.kindOf b=O .cell\/a.J.kindOf b=O .free)(i:(mZ m a.J).names.lookup b=O .cell\/(mZ m a.J).names.lookup b=O .free)
 (r:∀d∈w,d∈a.p/\hA a.J m n d.1):∀d∈(b,o)::w,d∈a.p/\hA a.J m n d.1:=λd e=>by
 show aw (a4 e) (λj=>?_) λe=>?_
 .obtain rfl:=j;show l6 f g h i
 .show r d e
def hh {a:Type}{ds:List a}{b:i}{g:a->j}{d:List (i×NameKind)}(h:d.lookup b=O .local):∀e∈ds,∀f∈[(b,g e)],d.lookup f.1=O .local:=λe b f a=>by show(bW a)▸h
def uH {e:Type}{ds:List e}{f g:i}{k l:e->j}{a:List (i×NameKind)}(m:a.lookup f=O .local)(h':a.lookup g=O .local):∀b∈ds,∀h∈[(f,k b),(g,l b)],a.lookup h.1=O .local:=λb a h d=>by
 show aw (a4 d) (λn=>?_) λd=>?_
 .obtain rfl:=n;show m
 .show(bW d)▸h'
def CI (ds:List m)(d a e:Option Int):(ff ds d a e).length<=ds.length:=by
 unfold ff;have:=slicePick_size_le (ds.map λg=>nX).toArray d a e;unfold qc at this;simp only[o3,a6]at this;show a5 (ay ?_) this;have h:∀b:bP,(b.filterMap (ds[·]?)).length=(b.filterMap ((ds.map λg=>nX).toArray[·]?)).length:=by
  intro b
  induction b with
  |nil=>rfl|cons i b f=>
   by_cases a:i<ds.length
   .simp[r8,a,f]
   .simp[r8,a,f]
 show h _
def jg {d:Type}(a:List d):a.filter (λb=>z)=a:=yj.mpr λb b=>H
def kY (a:m->n)(ds:List m)(b d e:Option Int):ff (ds.map a) b d e=(ff ds b d e).map a:=by
 unfold ff;rw[a6];mspec List.map_filterMap;congr 1;funext i;simp
def r9 {e:Type}(a:List e)(b d:Option Int):ff a b d c=(a.drop<|b.elim 0<|sa a.length).take (d.elim a.length (sa a.length) - b.elim 0 (sa a.length)):=by
 unfold ff;rw[sliceBounds_plain];simp only[sliceRange_one];simpa using(pick_run a.toArray (b.elim 0<|sa a.length)<|d.elim a.length (sa a.length) - b.elim 0 (sa a.length))
def sb {e:Type}(b:List e)(d:Nat):ff b (O (d:Int)) c c=b.drop d:=by
 rw[r9];simp only[uI,uJ];show aw (CJ d b.length) (λa=>?_) λa=>?_
 .mspec qD a;show aI (o7<|by simp) V
 .mspec CK a;mspec CL (by simp);mspec CL a;simp
def CM {b:Type}(a:List b):ff a (O 1) c c=a.drop 1:=sb a 1
def yk {e:Type}(d:List e)(b:Nat):ff d c (O (b:Int)) c=d.take b:=by
 rw[r9];simp only[uI,uJ,qe,uK];show aw (CJ b d.length) (λa=>?_) λa=>?_
 .show aI (qD a) V
 .mspec CK a;mspec o7 (by simp);show aI (o7 a) V
def Jx {b:Type}(a:List b):ff a c (O<| -1) c=a.take (a.length - 1):=by
 rw[r9];simp only[uI,qe,uK];mspec(V:((-1:Int))= -((1:Nat):Int));show aI (clipAt_neg a.length 1<|by simp+arith) V
def Jy {d:Type}(a:List d):ff a (O 1) (O<| -1) c=(a.drop 1).take (a.length - 2):=by
 rw[r9];have e:=uJ a.length 1;simp only[uI];mspec(V:((-1:Int))= -((1:Nat):Int));mspec clipAt_neg a.length 1<|lq [] [] 0 (.n 1) (.n 1) H;mspec(V:((1:Int))=((1:Nat):Int));mspec e;show aw (sc a.length 1) (λb=>?_) λb=>?_
 .have:a=[]:=n9.mp<|cZ (dK [.aK G<| .n 1] 0 G (.n 0) H b)<|ew _;subst this;simp
 .mspec qD b;congr 1
abbrev bF:=List<|Int×Int
noncomputable abbrev iV (ai:Int×Int):j:=.list [.int ai.1,.int ai.2]
noncomputable abbrev em (r:bF):j:=.list<|r.map iV
noncomputable def m8 (a:h)(s:Nat):Int:=[14988,48492,9652,5096,232].getD s 0+((ff a (O (s:Int)) c<|O 5).map λae=>i9 ae<|10^12).sum
noncomputable def kc (a:h)(s:Nat):Int:=if i9 (m8 a s) 4=3 then 8 else 3+s
noncomputable def lD (a:h)(s:Nat):h:=(el 0 (if s<3 then 3 else 2)).map λb=>i9 (lx (lx (m8 a s) 12)<|24^b.toNat) 24
noncomputable def qE (a:h)(s:Nat):bF:=(3+(s:Int),i9 (lx (m8 a s) 4) 3)::(lD a s).map λb=>(i9 (lx b 3)<|kc a s,i9 b 3)
section
variable {U:aV}
def yl (d:aR U):ez U 208 (bi 208<|a U) ["script","k"] (cf 208<|a U):=
 d.fn V rfl H V rfl (qu λf b=>by room)
  (fh V<|fh V he) (k H) (by decide:(["kinds","n"]:ak).Nodup) e e V
def Jz (a:b<5):(([.int 14988,.int 48492,.int 9652,.int 5096,.int 232]:dn))[b]?=O (.int<|[14988,48492,9652,5096,232].getD b 0):=
 (Bw V rfl rfl rfl rfl:∀b:Nat,b<5->(([.int 14988,.int 48492,.int 9652,.int 5096,.int 232]:dn))[b]?=O (.int<|[14988,48492,9652,5096,232].getD b 0)) b a
def uL (e:b.natAbs<2^30):xu m b=aj:=by
 unfold xu;have d:b.natAbs.log2<30\/b.natAbs=0:=by
  by_cases a:b.natAbs=0
  .show .inr a
  .show .inl<|(Nat.log2_lt a).mpr e
 have:¬((if(b==0)=z then 0 else b.natAbs.log2/30+1)>300):=by
  split
  .decide
  .show aw d (λd=>?_) λd=>?_
   .lia
   .rename_i a;simp at a;(exfalso;lia)
 show(?_:(decide (_>300)&&_)=aj);mspec decide_eq_false this;rfl
noncomputable abbrev JA:=λ(a:h) (s:Nat)=>([("script",.list (a.map .int)),("k",.int s)]:be)
def JB (u:aR U)(n:Nat)(v:T)(X:aY)(m:aO)(i:h)(f:Nat)(w:f<5)(x:i.length<=1000):
 S m #[U,n,bU (bi 208<|a U) v 208,X,JA i f,[]] (cf 208<|a U) (kW U m<|em<|qE i f):=by
 mexact S.bq (g.assign (af:=.int<|m8 i f) ?_ (.inr #[V,H]) V) ?_
 .show R.add (R.item (R.list (W.cons R.bJ (W.cons R.bJ (W.cons R.bJ (W.cons R.bJ (W.cons R.bJ W.nil V) V) V) V) V)<|dt H) (R.K 1 V)<|b6.list aq.list (Jz w)<|by show b0) ?_;show R.jG (ds:=[_]) (u.eX V rfl (by room) (k H) V rfl rfl (k H)) (W.cons ?_ W.nil V) (bO.sum aq.list) V e V;show R.of_eq (af:=.list<|((ff i (O (f:Int)) c<|O 5).filter λd=>z).map λo=>j.int<|i9 o<|10^12) ?_ (by rw[jg];mspec d2;rfl);show R.iE (dD:=j.int) (cO:=λo=>[("x",.int o)]) [] (λd=>z) _ V (k H) V (k H) (r:=.list<|(ff i (O (f:Int)) c<|O 5).map .int) ?_ (cA.list (.inl<|dM _ _ V) aq.list) ?_ (λp d=>.name _ _ _) (hh V) f8 ?_ ?_ (λd=>rfl)<|λd d d d=>e
  .rw[<-kY];show R.jD (R.K 0 V) aq.list (R.K 1 V) V R.bJ (.int _) .none (.int _) (k H) (by rw[a6];unfold aC;show b0)
  .unfold aC;show dG (a5 (CI i (O (f:Int)) c<|O 5) x) H
  .show λs Z p d=>rfl
  .show λs Z p d d=>R.qa (R.K 0 V) (R.BK (n:=12) R.bJ R.bJ (by simp+arith)<|k H)<|k H
 mexact S.bq (g.assign (af:=.int<|kc i f) ?_ (.inr #[V,H]) V) ?_
 .show R.kO (b:=decide (i9 (m8 i f) 4=3)) (aZ.bK (R.qa (R.K 0 V) R.bJ<|k H) R.bJ av.eq e) (λm=>?_)<|λm=>?_
  .show R.of_eq R.bJ (by rw[kc];show aI (if_pos<|k m) V)
  .show R.of_eq (R.add R.bJ<|R.K 2 V) (by rw[kc];show aI (if_neg<|of_decide_eq_false m) V)
 mexact S.bq (g.x2 (ds:=el 0 (if f<3 then 3 else 2)) (dD:=j.int) (cO:=λo=>[("place",.int o)]) [("n",.int (m8 i f))] (λd=>z)
  (λt=>.int<|i9 (lx (lx (m8 i f) 12)<|24^t.toNat) 24) (.inl V) V rfl (k H) V (k H) (r:=.iz 0 (if f<3 then 3 else 2) 1) ?_ ?_ ?_ (λp d=>.name _ _ _) (hh V)
  (gv (bl 1 V) V (.inl V) (.inl V) f8) (λd d d d=>rfl) (λs Z p hd d=>?_) (λd=>rfl) (λd d d d=>e)) ?_
 .show R.mX (ds:=[.int (if f<3 then 3 else 2)]) (u.eX V rfl (by room) (k H) V rfl rfl (k H)) (W.cons ?_ W.nil V) bO.uC V e V;show R.kO (b:=decide ((f:Int)<3)) (aZ.bK (R.K 3 V) R.bJ av.lt e) (λm=>?_)<|λm=>?_
  .show R.of_eq R.bJ (by show aI (if_pos (by have:=k m;show ej.mp ‹_›)) V)
  .show R.of_eq R.bJ (by show aI (if_neg (by have:=of_decide_eq_false m;show λu=>oS [.C (.n 3) G,.aK G<| .n 3] H (dH.mp<|oT.mp<|of_decide_eq_false m) u)) V)
 .show cA.rT (by show f3 _) (by show f3 _) (by split<;>show f3 _) (by split<;>show f3 _)
 .simp only[el,a6,jP];unfold aC;split<;>decide
 .obtain⟨l,q,rfl⟩:∃l:Nat,l<3/\p=(l:Int):=by
   simp only[el,iw,iW]at hd;obtain⟨l,q,rfl⟩:=hd;show as l ?_ (by simp+arith);split at q<;>show b0
  have m:(24:Int)^l≠0:=(jB (by decide) (jB (by decide)<|jB (by decide) xi):∀l:Nat,l<3->(24:Int)^l≠0) l q;have u:((24:Int)^l).natAbs<2^30:=(jB (by decide) (jB (by decide)<|jB (by decide) xi):∀l:Nat,l<3->((24:Int)^l).natAbs<2^30) l q;show R.qa (R.fdiv (R.fdiv (R.K 1 V) R.bJ (k H)<|uL<|k H) (R.BK (n:=l) R.bJ (R.K 0 V) (dK [.aK G<| .n 3] 0 G (.n 1000000) H q)<|k H) m<|uL u) R.bJ<|k H
 rw[jg];mspec(by rw[lD,d2];rfl:(el 0 (if f<3 then 3 else 2)).map (λt=>j.int<|i9 (lx (lx (m8 i f) 12)<|24^t.toNat) 24)=(lD i f).map j.int);mexact S.ret<|R.of_eq (R.o5 (ac:=[iV (3+(f:Int),i9 (lx (m8 i f) 4) 3)]) (b:=((lD i f).filter λd=>z).map λl=>iV (i9 (lx l 3)<|kc i f,i9 l 3)) ?_ ?_ aq.list aq.list ?_) ?_
 .show R.list (W.cons (R.list (W.cons (R.add R.bJ<|R.K 4 V) (W.cons (R.qa (R.fdiv (R.K 2 V) R.bJ (k H)<|uL<|k H) R.bJ<|k H) W.nil V) V)<|dt H) W.nil V)<|dt H
 .show R.iE (dD:=j.int) (cO:=λo=>[("digit",.int o)]) [("kinds",.int (kc i f))] (λd=>z) _ V (k H) V (k H) (r:=.list<|(lD i f).map .int) (R.K 0 V) (cA.list (.inl<|dM _ _ V) aq.list) ?_ (λp d=>.name _ _ _) (hh V)
   (gv (bl 1 V) V (.inl V) (.inl V) f8) (λd d d d=>rfl) (λs Z p hd d=>?_) (λd=>rfl) (λd d d d=>e)
  .have:(lD i f).length<=3:=by simp only[lD,el,a6,jP];split<;>decide
   unfold aC;show b0
  .have A:kc i f≠0:=by unfold kc;split<;>simp+arith
   show R.list (W.cons (R.qa (R.fdiv (R.K 0 V) R.bJ (k H)<|uL<|k H) (R.K 1 V) A) (W.cons (R.qa (R.K 0 V) R.bJ<|k H) W.nil V) V)<|dt H
 .have:(lD i f).length<=3:=by simp only[lD,el,a6,jP];split<;>omega
  rw[jg,a6];unfold aC;simp only[gw];show dK [.C G<| .n 3] 0 (.y (.n 1) G) (.n<|2^24) H this
 .rw[jg];simp only[em,qE,b7,d2,JC];rfl
def JD (d:aR U)(a:h)(b:Nat)(e:b<5)(f:a.length<=1000):bO #[U,n+1,env,X,Γ,own] (.ref 208) [.list<|a.map .int,.int b] (em<|qE a b):=
 (yl d).m7 V (λg i j=>JB d n g i j a b e f)
end
section
variable {Y:bc}
def cU.cell {b:jM}{g:List (i×T)}{q h:T}{Z:aY}{m:be}{k:aW}{d:i}{n:a3}{r:j}(e:cU (Mine.eP Y b g q Z<|[]++m) k)(t:(mZ b Y.J).names.lookup d=O .cell)(u:k.IsCell h (O n))(w:a9 Y.d (l k Z) n r)
 (s:∀a∈m,hA Y.J b g a.1/\a.1≠d):cU (Mine.eP Y b ((d,h)::g) q Z<|(d,r)::m) k:=
 {base:=e.base,cw:=e.cw,D:=e.D,kind:=e.kind
  d8:=λa f=>by
   rcases a4 f with rfl|f
   .show as n (.inr<|fo h (.inl t) (by simp[jN]) u) w
   .show(e.d8 a f).imp λm k=>#[?_,k.2];show aw k.1 (λe=>?_) λx=>?_
    .show am e λo k=>?_;rcases(s a f).1.2.2 with p|p<;>rw[(show(mZ b Y.J).names.lookup a.1=O .local from o)]at p<;>cases p
    .show v x λb e=>?_;show cd e λo k m=>?_;show .inr<|fo b o ?_ m;show(?_:t0 a.1 ((d,h)::g)=O b);mspec fB;mspec beq_eq_false_iff_ne.mpr (s a f).2;show k}
def JE {K iter:c4}{d:i}{L:di}{M:h6}{h:jM}{pos:di}{t:List (i×T)}{r:j}{D:Type}{ds:List D}{F:D->j}(G:be)(B:D->Bool)(H:D->j)
 (Tg:iT h Y.J=pure t) (Th:∀n,iB n h.names t=(d,n)::t) (Ti:∀f,n7 f h.names=f.push {cls:=.type "cell",data:=.cell c}) (S4:(mZ h Y.J).names.lookup d=O .cell) (N:h.kind=.function) (Tj:∀S5∈h.names,S5.2=.local->h.names.lookup S5.1=O .local)
 (Tk:R Y iter r) (Tl:cA Y (.Name d L) r (ds.map F)) (Tm:ds.length<=aC)
 (P:∀u∈G,u∈Y.p/\hA Y.J h t u.1/\u.1≠d)
 (Tn:∀a m Z p,p∈ds->mj (eP Y h ((d,m)::t) a Z<|(d,F p)::G) M (B p))
 (To:∀a m Z p,p∈ds->B p=z->R (eP Y h ((d,m)::t) a Z<|(d,F p)::G) K (H p))
 (Tp:∀d,iC iter Y.J d=pure d) (Tq:∀x it C env,(jK (.ListComp K [#[.Name d L,iter,M,0]] h pos) x it C env).isFrame=aj) {Tr:di}
 {Q:cV} {y:aM} {S6:bX} {ie:Option (a3->ib Unit)} {S7:bX} (S:dz Q Y.n) (S8:cU Y y.heap)
 (Ts:∀f U W q a,y.heap.get? a=c->y.heap.get? q=c->q≠a->E f y.heap->f.Ns a W->fC Y.d (a::Y.X) f q ((ds.filter B).map H)->xT Y.d.M Q S6 ie S7 (.ref q) a (.ok .next) {y with heap:=f,toks:=U}):
 ar Y.d.M Q (xU (.ListComp K [#[.Name d L,iter,M,0]] h pos) h Y.J Tr (uo []) aj (eval iter Y.J) ie) S7 S6 y:=by
 show un Tg Th N Tj (.of Tk Tl) Tp S S8 λK L S9 M Q S5 S6 y a q I D it s Tt=>?_;have Ta:=s.kT a<|s.kU▸lB _;have Tu:=s.kT q<|cg _;have Tb:=s.kT (a+1)<|s.kU▸Nat.le_succ_of_le (lB _);have Tc:q≠a:=s.kU▸g7 (fA _);have Td:q≠a+1:=s.kU▸g7 (qg<|fA _);have Tv:a≠a+1:=g7<|fA _;have Tw:a<=a+1:=lB _;have Tx:(n7 y h.names).IsCell (a+1) c:=by rw[Ti];show ch D ?_;show as _ (dL _ e) V
 generalize a+1=m at*;show xV it s Tt S.handled [a,m] (λTe g=>by rcases a4 g with rfl|g;show cg _;show kH g Tw) (λf=>(∃g,f.Ns a g)/\∃J,f.IsCell m J) #[#[_,s.ns],#[_,Tx]]
  (λf h' d x=>#[d.1.imp λg w=>w.at' λo k=>x _ o (eM Ta.2.2.symm) k,d.2.imp λJ d=>d.imp λo d=>#[x _ _ (eM Tb.2.2.symm) d.1,d.2]])
  (λf d Te g=>by
   show aw (a4 g) (λTy=>?_) λg=>?_
   .obtain rfl:=Ty;show v d.1 λg w=>?_;show eW w λo A A k A=>?_;show dm o k
   .mspec bW g;show gi d.2 λJ o k A=>?_;show dm o k) (o:=kS B H ds) V (Cg _ _ _ _ _ _ _ _ _) (Tq _ _ _ _) V (λs p y Tz D hd Tf TA X TB TC C=>?_) λf U x X C=>?_
 .show am X λs y=>?_;show v y λJ TD=>?_;show v s λg w=>?_;show iA (IX (env:=jN h ((d,m)::t) a Y.J) N S4 (by simp[jN]) TD λJ y K=>?_);have s:cN [m] Tz.heap J:=λb o n k=>K.extBut b o (λD=>n<|D▸kF.mpr V) k;have L:J.Ns a g:=w.sameBut K Tv;have J:=l.fM (Z:=[S9,q,a,m]++Y.X) s<|h8 tI;show xW (Y:=eP Y h ((d,m)::t) a ([S9,q,a,m]++Y.X)<|(d,F p)::G) (cU.cell ((S8.keep I).eP (cO:=[]) (λb o k=>s b o (eM λD=>b5 Tb.1<|D▸k)<|TA b o k) (ur TB s (by show aX y λo k A=>?_;show dm o k)) N L (λA f=>nomatch f) (λA f=>nomatch f) λu d=>#[(P u d).1,(P u d).2.1]) S4 y (TC.keep J) λu d=>(P u d).2) S (Tn a m _ p Tf) (To a m _ p Tf) (C.fM s (eM Td)<|h8 tI) (a5 Cd Tm) ao l0
   (λh' d=>#[#[g,L.at' λo k=>d _ o (eM Tc.symm) k],#[_,by show aX y λo k hd=>?_;show as o (d _ _ (eM Td.symm) k) hd]]) (s.dP<|h8 i6) (Cc hd)
 .show v X.1 λW w=>?_;show Ts f U W q a (ls I Ta.1) (ls I Tu.1) Tc (I.trans x) w ((show kS B H ds ds.length=_ from by unfold kS;show aI iU V)▸C.sub λTe g=>gh g i6 λg=>bA g)
def R.JF {m iter:c4}{a:i}{o:di}{p:h6}{b:jM}{pos:di}{e:List (i×T)}{r:j}{g:Type}{ds:List g}{dD:g->j}(h:be)(k:g->Bool)(q:g->j)
 (x:iT b Y.J=pure e) (y:∀n,iB n b.names e=(a,n)::e) (A:∀s,n7 s b.names=s.push {cls:=.type "cell",data:=.cell c}) (B:(mZ b Y.J).names.lookup a=O .cell)
 (C:b.kind=.function) (D:∀w∈b.names,w.2=.local->b.names.lookup w.1=O .local)
 (E:R Y iter r) (F:cA Y (.Name a o) r (ds.map dD)) (G:ds.length<=aC)
 (H:∀f∈h,f∈Y.p/\hA Y.J b e f.1/\f.1≠a)
 (I:∀l t Z d,d∈ds->mj (eP Y b ((a,t)::e) l Z<|(a,dD d)::h) p (k d))
 (J:∀l t Z d,d∈ds->k d=z->R (eP Y b ((a,t)::e) l Z<|(a,dD d)::h) m (q d))
 (L:∀a,iC iter Y.J a=pure a) (M:∀u it v env,(jK (.ListComp m [#[.Name a o,iter,p,0]] b pos) u it v env).isFrame=aj):
 R Y (.ListComp m [#[.Name a o,iter,p,0]] b pos) (.list<|(ds.filter k).map q):=.mk λd e g m b a f=>by
 rw[uw];show JE (ie:=c) h k q x y A B C D E F G H I J L M b a ?_;intro s d e b l g h k u m v;show as e m<|λl b=>f _ l d (uv u b g)<|v.uu b k<|mm a h
def S.JG {m:aO}{n:i}{N P:di}{p:c4}{s y h:Option c4}{Q pos:di}{b:List cl}{A:c9}{r B C D:j}{f g d:Option Int}{ds:dn}(T:R Y p r)(U:aq Y r (.list ds))(W:md Y s B)(X:md Y y C)(Z:md Y h D)
 (S4:jE B f) (S5:jE C g) (S6:jE D d) (h0:d≠O 0) (S7:ds.length<=aC) (S8:fO Y.J n)
 (S9:∀a,a∉Y.X->a∉m.cB->S m #[Y.d,Y.n,Y.J,a::Y.X,bj n (.val<| .ref a) Y.p,(a,.list (ff ds f g d))::Y.D] b A):
 S m Y (.Assign [.Name n N] (.Subscript p (.Slice s y h Q) pos) P::b) A:=
 S.cons (au:=λF=>∃a,a∉Y.X/\a∉m.cB/\u m #[Y.d,Y.n,Y.J,a::Y.X,bj n (.val<| .ref a) Y.p,(a,.list (ff ds f g d))::Y.D] F)
  (.mk λs y A n h=>by
   show pb (xz<|T.go s y _ A n.todz h.tocU λD B N p C=>BW<|W.run n.todz (h.tocU.keep p) λG y D s A=>X.run n.todz ((h.tocU.keep p).keep s) λH N P y D=>Z.run n.todz (((h.tocU.keep p).keep s).keep y) λI J Q N P=>?_) V;have n:E (J.push {cls:=.type "slice",data:=.fields (aRR [G,H,I])}) B:=((s.trans y).trans N).trans<|E.push _ _;have t:=(h.keep p).keep n;show v (U.obj t.tocU<|C.keep<|l.keep _ n) λa p=>?_;show ci p λs=>?_;show aX s.ey λk n w=>?_;show t7 (PlainList.fV n).typeIs xA.lookup (ID (PlainList.fV n) (IE _ _ _ _) (S4.g4 A) (S5.g4 D) (S6.g4 P) h0 ?_<|by simpa[w.length]using S7)<|t9 _ _ _;dsimp only;generalize n:J.push {cls:=.type "slice",data:=.fields (aRR [G,H,I])}=Hs at*;have q:=t.iG d3;have K:(Hs.push {cls:=.type "list",data:=.seq<|qc k.toArray f g d}).get? Hs.objs.size=O {cls:=.type "list",data:=.seq<|qc k.toArray f g d}:=dL _ e;have Ta:E (l (Hs.push {cls:=.type "list",data:=.seq<|qc k.toArray f g d})<|Hs.objs.size::Y.X) (l Hs Y.X):=λb o L=>by
    have M:=l.of _ _ L;show cb _ (gk _ M) λx=>?_;show aw (a4 x) (λTb=>?_) λx=>?_
    .obtain rfl:=Tb;show b5 d3 M
    .show b5 (cT _ x) L
   have Tc:=(t.gI d3 #[_,K]<|E.push _ _).ih (af:=.list<|ff ds f g d) ao (.list (a1:=(BU (nY f g d k.length).1 (nY f g d k.length).2.1 (nY f g d k.length).2.2).filterMap (k[·]?)) #[0,by mspec K;simp[qc]]<|by
    mspec w.length;show(w.keep Ta).filterMap _) q.2.2.1 (show Hs.objs.size∉d5 #[Y.d,Y.n,Y.J,Hs.objs.size::Y.X,Y.p,Y.D]from q.1)
   show u.gn (Y:=#[Y.d,Y.n,Y.J,Hs.objs.size::Y.X,Y.p,(Hs.objs.size,.list (ff ds f g d))::Y.D]) Tc S8 (af:=.val<| .ref Hs.objs.size) (.val _) λh' g d d d d f=>#[.up,Hs.objs.size,q.2.1,q.2.2.2,f])
  λF d=>g3 d λa f g h=>eO #[Y.d,Y.n,Y.J,a::Y.X,_,_] m V rfl rfl rfl rfl h (S9 a f g)
end
noncomputable def lE {a:Type}(n6:a->dn)(ds:List a)(L:Nat):dn:=((ds.take L).map n6).flatten
def CN {a:Type}{n6:a->dn}{ds:List a}{b:Nat}{d:a}(e:ds[b]?=O d):lE n6 ds (b+1)=lE n6 ds b++n6 d:=by
 unfold lE;mspec qi;mspec e;simp
def JH (e b f d a:c4)(g:jM)(pos:di)(it h:a3)(env:b1):
 n1 (.ListComp e [#[b,d,[],0],#[f,a,[],0]] g pos) 0 it h env=(do
  ep d.pos
  match <-rO it with
  |none=>pure<| .done .next
  |some o=>
   o9 b it o
   lA b env o
   let mut n:=z
   for r in([]:h6) do
    if n then n <-nW r env (eval r env)
   if n then
    let m <-eval a env
    ep a.pos
    let m <-iC a env m;let _ <-runOwn (.compStart (.ListComp e [#[b,d,[],0],#[f,a,[],0]] g pos) 1 (<-e5 [m] (ui m)) h env) env
   again (.compLoop (.ListComp e [#[b,d,[],0],#[f,a,[],0]] g pos) 0 it h env)):=by rfl
def JI (e b f d a:c4)(g:jM)(pos:di)(it h:a3)(env:b1):
 n1 (.ListComp e [#[b,d,[],0],#[f,a,[],0]] g pos) 0 it h env=(do
  ep d.pos
  match <-rO it with
  |none=>pure<| .done .next
  |some o=>
   o9 b it o
   lA b env o
   let mut n:=z
   for r in([]:h6) do
    if n then n <-nW r env (eval r env)
   if n then(do
    let m <-eval a env
    ep a.pos
    let m <-iC a env m;let _ <-runOwn (.compStart (.ListComp e [#[b,d,[],0],#[f,a,[],0]] g pos) 1 (<-e5 [m] (ui m)) h env) env
    pure ():ib Unit)
   again (.compLoop (.ListComp e [#[b,d,[],0],#[f,a,[],0]] g pos) 0 it h env)):=by
 rw[JH];simp only[IV,pure_bind,if_true,bind_assoc]
def JJ (b f a g d:c4)(h:jM)(pos:di)(it e:a3)(env:b1):
 n1 (.ListComp b [#[f,g,[],0],#[a,d,[],0]] h pos) 1 it e env=(do
  ep d.pos
  match <-rO it with
  |none=>pure<| .done .next
  |some n=>
   o9 a it n
   lA a env n
   let mut m:=z
   for o in([]:h6) do
    if m then m <-nW o env (eval o env)
   if m then(do let _ <-dU (.builtin "list.append") [e,<-eval b env])
   again (.compLoop (.ListComp b [#[f,g,[],0],#[a,d,[],0]] h pos) 1 it e env)):=by rfl
def JK {b:i5}{d:fd}{e:cV}{i:ue->aM->Prop}{f:aM}{j k l m g:c4}{n:jM}{pos:di}{it o:a3}{env:b1}
 (h0:hR (b2 b d) e (.compLoop (.ListComp j [#[k,m,[],0],#[l,g,[],0]] n pos) 1 it o env) i f)
 (q:ar (b2 b d) e (ui it) (λp h=>hR (b2 b d) e (.compLoop (.ListComp j [#[k,m,[],0],#[l,g,[],0]] n pos) 1 p o env) i h)
  (notedBy (b2 b d) e env λa h=>i (.error a) h) f):
 hR (b2 b d) e (.compStart (.ListComp j [#[k,m,[],0],#[l,g,[],0]] n pos) 1 it o env) i f:=by
 show CO ?_;show ar _ _ ((compStart (.ListComp j [#[k,m,[],0],#[l,g,[],0]] n pos) 1 it o env).onRaise (λa=>do uf a env;ep theWindowsPlace)) _ _ f;show wpAny_notedAt ?_;unfold compStart;show ap<|wpAny_askSetting<|wpAny_ite ?_;split
 .first
   |show ap<|ba<|ba<|ym rfl h0
   |show ba<|ym rfl h0
 .first
   |show ap<|sd<|ap<|jJ<|ap<|dq q (λp h h'=>ba<|ym H h') λb b a=>a
   |(show ap<|sd ?_;show(?_:ar _ _ (ep g.pos >>= _) _ _ f);show ap<|jJ<|ap<|dq q (λp h h'=>ba<|ym rfl h') λb b a=>a)
section
variable {Y:bc}
def R.JL {Ti S7 S8 S9:c4}{L:i}{Ta:di}{p:jM}{pos:di}{x:List (i×T)}{yn:j}{S5 Tr:Type}{ds:List S5}{yo:S5->j}{cO:S5->be}{pS:S5->j}(dy:S5->List Tr){pd:Tr->j}(U:be)(B:Tr->j)
 (TU:iT p Y.J=pure x) (TV:∀Tj∈p.names,Tj.2≠ .cell) (Tb:p.kind=.function) (TW:∀Tj∈p.names,Tj.2=.local->p.names.lookup Tj.1=O .local)
 (TX:R Y S8 yn) (TY:cA Y S7 yn (ds.map yo)) (TZ:((ds.map λd=>(dy d).map B).flatten).length<=aC) (T0:∀d∈ds,jL S7 (yo d) (cO d)) (Ty:∀d∈ds,∀D∈cO d,p.names.lookup D.1=O .local) (Tz:p.names.lookup L=O .local)
 (TA:∀D∈U,D∈Y.p/\hA Y.J p x D.1)
 (T1:∀g Z d,d∈ds->R (eP Y p x g Z<|cO d++U) S9 (pS d)) (T2:∀d TB,pS d≠ .val TB)
 (T3:∀g Z d,d∈ds->cA (eP Y p x g Z<|cO d++U) (.Name L Ta) (pS d) ((dy d).map pd))
 (T4:∀g Z d b,d∈ds->b∈dy d->R (eP Y p x g Z<|[(L,pd b)]++U) Ti (B b))
 (T5:∀F,iC S8 Y.J F=pure F) (T6:∀g F,iC S9 (jN p x g Y.J) F=pure F)
 (TC:∀W it Tc env,(jK (.ListComp Ti [#[S7,S8,[],0],#[.Name L Ta,S9,[],0]] p pos) W it Tc env).isFrame=aj):
 R Y (.ListComp Ti [#[S7,S8,[],0],#[.Name L Ta,S9,[],0]] p pos) (.list<|(ds.map λd=>(dy d).map B).flatten):=.mk λX S5 Tj Tr M Tk D=>by
 rw[uw];have T7:∀P,(lE (λd=>(dy d).map B) ds P).length<=aC:=λP=>by
  show a5 ?_ TZ;unfold lE;conv=>rhs;rw[<-p7 P ds]
  mspec eV;mspec List.flatten_append;mspec dE;show b9 [] 0 G (.y G N) H
 show un (ie:=c) TU (λn=>xR TV n x) Tb TW (.of TX TY) T5 M Tk λS4 Tr u TU TZ Uo Up Uq g m Td s it S5 Tj=>?_;have Te:=S5.kT g<|S5.kU▸lB _;have TD:=S5.kT m<|cg _;have Tl:m≠g:=S5.kU▸g7 (fA _);show xV it S5 Tj M.handled [g] (λTr a=>ay (bW a).symm) (λI=>∃a,I.Ns g a) #[_,S5.ns] (λI h' F W=>F.imp λa w=>w.at' λo f=>W _ o (eM Te.2.2.symm) f) (λI F Tr a=>by mspec bW a;show v F λa w=>?_;show eW w λo s s f s=>?_;show dm o f) (o:=lE (λd=>(dy d).map B) ds) V (JI _ _ _ _ _ _ _ _ _ _) (TC _ _ _ _) V (λP d TB TE Tm hd S6 S5 w TU Tr Tc=>?_) λI Ts W w Tc=>?_
 .show v w λa w=>?_;show(T0 d S6).assign M.handled (ug Tb) (λD Tf=>um<|Ty d S6 D Tf) i6 Tr w λTj TB TW Tn Tt TV s=>?_;have Tr:E Tj S4:=λb o f=>Tn b o (eM λk=>b5 Te.1<|k▸f)<|S5 b o f;have S5:=ur TU Tn (by show eW Tt λo s s f s=>?_;show dm o f);have TB:cU (eP Y p x g ([u,m,g]++Y.X)<|cO d++U) Tj:=(Tk.keep Td).eP Tr S5 Tb Tt (Ty d S6) TV TA;show Cb ?_;show ap<|(T1 g _ d S6).go X _ _ Tm M TB λTj TF T8 Q Ty=>ap<|jJ<|ap<|CP (T6 g Tj) ?_;show ap<|g6<|(T3 g _ d S6).go X _ _ Tm Tj M (TB.keep Q) Ty λS TU TV TW Tu q=>ap<|wpAny_runOwn (h:=c) ?_;have TG:=q.W X M.handled;have TH:=Tr.trans Q;have T9:S4.get? S=c:=ls TH q.n3;have To:∀e∈[u,m,g],e≠S:=λe a D=>by
   show v (S5 e a).2 λo f=>?_;show b5 q.n3<|D▸Q _ _ f
  have Ua:∀e∈[u,m,g],e∉TU:=λe a Tj=>by
   show aw (q.B9 e Tj) (λk=>?_) λTj=>aw Tj (λk=>?_) λk=>?_
   .show To e a k
   .show k<|bI a
   .show T2 d _ k
  have Tv:∀e∈[u,m,g],S4.get? e=c:=λe a=>(S5 e a).1;have Ub:∀e∈[u,m,g],S4.get? e=c/\∃o,Tu.get? e=O o:=λe a=>#[Tv e a,(S5 e a).2.imp λo f=>q.k _ _<|Q _ _ f];have Uc:fC Y.d (S::([u,m,g]++Y.X)) Tu m (lE (λd=>(dy d).map B) ds P++((dy d).take 0).map B):=by
   obtain⟨Ud,n,f,r⟩:=(Tc.fM Tn (eM Tl)<|h8 i6);show#[Ud,n,q.k _ _<|Q _ _ f,?_];rw[CQ,m9,fj];show(r.keep<|l.keep _ Q).keep λb o k=>?_;have TI:=l.of _ _ k;show cb _ (q.k b o TI) λa=>?_;show aw (a4 a) (λJ=>?_) λa=>?_
   .obtain rfl:=J;show b5 q.n3 TI
   .show b5 (cT _ a) k
  have TJ:hR Y.d.M X (.compLoop (.ListComp Ti [#[S7,S8,[],0],#[.Name L Ta,S9,[],0]] p pos) 1 (.ref S) (.ref m)<|jN p x g Y.J)
   (λr TK=>match r with
    | .ok S5=>ar Y.d.M X (pure ()) (λs S5=>mY Y.d [m,g] ([u,m,g]++Y.X) (λI=>∃a,I.Ns g a) m TE (lE (λd=>(dy d).map B) ds<|P+1) S5) Tm TK
    | .error f=>CR Y.d.M X (jN p x g Y.J) Tm f TK) {TE with heap:=Tu,toks:=T8}:=by
   show B7 (fs:=Y.d) (Z:=S::([u,m,g]++Y.X)) [m,g] (λI=>∃a,I.Ns g a) (o:=λTp=>lE (λd=>(dy d).map B) ds P++((dy d).take Tp).map B) (JJ _ _ _ _ _ _ _ _ _ _) (TC _ _ _ _) V TG q.rQ (q.xN X) (λe a=>Ua e<|A a) ao ao (λI h' F W=>F.imp λa w=>w.at' λo f=>W _ o (eM<|To g i6) f) q.xM #[_,(Tt.keeps Q).keeps q.k] Uc ?_ ?_
   .intro Tp TL TM S5 F X TN Ue Tq TO;show v Tq λS5 Tq=>?_;show xL (q.val Tp TL X F) λb Uf Ug Uh=>?_;have TP:∀e o,e∉[u,m,g]->TF.get? e=O o->TM.heap.get? e=O o:=λe o n f=>TN e o (λa=>by
     show aw (a4 a) (λJ=>?_) λa=>?_
     .obtain rfl:=J;show b5 q.n3 f
     .show n<|A a)<|q.k e o f
    have Ui:a9 Y.d (l TM.heap<|S::([u,m,g]++Y.X)) TL (pd b):=by
     show Uh.keep λe o f=>?_;have TQ:=l.of _ _ f;have TR:e∉[u,m,g]++Y.X:=λa=>by show b5 (cT _ a) f
     show cb _ (TP e o (λa=>TR<|bI a) TQ) λa=>?_;show aw (a4 a) (λJ=>?_) λa=>?_
     .obtain rfl:=J;show b5 q.n3 TQ
     .show TR a
    show(jL.name L Ta<|pd b).assign M.handled (ug Tb) (λD Tf=>by show(bW Tf)▸um Tz) tI Ui Tq λTw F Uj Tg Tx Uk s=>?_;have Ul:E Tw S4:=λe o f=>Tg e o (eM λk=>b5 Te.1<|k▸f)<|TP e o (λa=>b5 (Tv e a) f)<|TH e o f;have Um:∀e∈[u,m,g],S4.get? e=c/\∃o,Tw.get? e=O o:=ur (λe a=>#[Tv e a,by
     show aw (a4 a) (λJ=>?_) λTh=>?_
     .obtain rfl:=J;show(Ub _ a).2.imp λo f=>TN _ _ (λk=>by
       show aw (a4 k) (λk=>?_) λk=>?_
       .show To _ a k.symm
       .show aw (a4 k) (λk=>?_) λk=>?_
        .show TD.2.2 k.symm
        .show Te.2.2<|bW k) f
     .rcases a4 Th with rfl|Th
      .obtain⟨_,_,f,_⟩:=TO;show dm _ f
      .mspec bW Th;show eW Tq λo s s f s=>?_;show dm o f]) Tg (by show eW Tx λo s s f s=>?_;show dm o f)
    have Un:cU (eP Y p x g ([S,u,m,g]++Y.X)<|[(L,pd b)]++U) Tw:=(Tk.keep Td).eP Ul (λe a=>by
     show aw (a4 a) (λJ=>?_) λa=>?_
     .obtain rfl:=J;show#[T9,Ue.imp λo f=>Tg _ _ (eM (To g i6).symm) f]
     .show Um e a) Tb Tx (λD Tf=>by show(bW Tf)▸Tz) Uk TA
    show xW (Y:=eP Y p x g ([S,u,m,g]++Y.X)<|[(L,pd b)]++U) (b:=z) Un M V (λs=>T4 g _ d b S6 Ug) (TO.fM Tg (eM Tl)<|h8 tI) ?_ ao i6 (λh' m=>#[Uj,Tx.at' λo f=>m _ o (eM Tl.symm) f]) (Tg.dP<|h8 l0) (by dsimp only;mspec if_pos H;mspec qi;mspec Uf;simp);show a5 ?_<|T7<|P+1;rw[CN hd,dE,dE,a6,a6,g9];show bb [.C N t] 0 (.y G N) (.y G t) H<|ml Tp<|(dy d).length
   .intro I Ts g m TS;show ba #[I,Ts,V,λb o n f=>?_,m,?_]
    .have TT:TF.get? b=O o:=Q b o<|Tn b o (λk=>n<|kH k l0) f;show g b o (λk=>?_)<|q.k b o TT;show aw (a4 k) (λJ=>?_) λk=>?_
     .obtain rfl:=J;show b5 q.n3 TT
     .show n k
    .rw[a6,iU,<-CN (n6:=λd=>(dy d).map B) hd]at TS;show TS.sub λe a=>A a
  show JK TJ<|TG.self 0 _ _ _ q.xM TJ
 .show v w λTh w=>?_;show as Th w (λg f=>D _ g Ts (uv (Td.trans W) f<|ls Td Te.1)<|((show lE (λd=>(dy d).map B) ds ds.length=_ from by unfold lE;show aI iU V)▸Tc.sub λe a=>gh a i6 λa=>bA a).uu f Tl<|mm Tk<|ls Td TD.1)
end
noncomputable abbrev eZ (id:String)(ac:T):dF:={cls:=.type "builtin_function_or_method",data:=.fields (aRR [.builtin id,.ref ac])}
def JM:uM table "method_descriptor.__get__"=O Builtin.«method_descriptor.__get__»:=uN (by room)
def CS:lz (.type "method_descriptor") "__get__"=pure (O<| .builtin "method_descriptor.__get__"):=by rw[kd];mspec ke;room
def JN:lz (.type "method_descriptor") "__set__"=pure c:=by rw[kd];mspec ke;room
def JO:lz (.type "method_descriptor") "__delete__"=pure c:=by rw[kd];mspec ke;room
def JP:Manifest.toldItsClass.contains "list.append"=aj:=by decide+kernel
def JQ (a:b.TypeIs (.ref m) "list")(d:bM (.done (.ret<| .ref b.heap.objs.size)) {b with heap:=b.heap.push<|eZ "list.append" m}):
 ar (b2 n o) r (Builtin.«method_descriptor.__get__» #[[.builtin "list.append",.ref m,.type "list"],[]]) bM w b:=by
 unfold Builtin.«method_descriptor.__get__»;show ap ?_;show ar _ _ (pure (se "list.append",O (na m),O (oe "list"))) _ _ _;show ba ?_;dsimp only;mspec JP;simp only[o6,if_false];show ar _ _ (do _;ret (<-newFields "builtin_function_or_method" [.builtin "list.append",.ref m])) _ _ _;show ap ?_;show ar _ _ (do let(a,b) <-pure (("append":i),oe "list");_) _ _ _;show ap<|ba ?_;have a:uO (.type "list") (.type "list")=pure z:=by rw[lF];room
 repeat(any_goals (first|assumption|wp_step))
def CT:Slot "method_descriptor" "__get__" "method_descriptor.__get__":=
 .of (owner:="method_descriptor") (n:="__get__") CS (by decide+kernel) (by decide+kernel) (by decide+kernel)
  (by first|show .inl (by decide+kernel)|show .inr<|by decide+kernel) (by rw[lF];room)
def JR (a b d:a3):nb "method_descriptor.__get__" #[[a,b,d],[]]:=by unfold nb;room
def JS (a:aM):a.TypeIs (.builtin "list.append") "method_descriptor":=JT
def JU (b:T)(k:Array a3)(l:Nat)(m:fg):
 og (Builtin.«object.__getattribute__» #[[.ref b,.str "append" m],[]]) (λn f a=>a.heap.get? b=O {cls:=.type "list",dict:=c,data:=.seq k l}/\f (.ok<| .ret<| .ref a.heap.objs.size) {a with heap:=a.heap.push<|eZ "list.append" b}):=
 uP λk l n f a d=>by
  obtain⟨e,g,h,i,j⟩:=a;show am d λa d=>?_;have f:(#[e,g,h,i,j]:aM).TypeIs (.ref b) "list":=as _ a V;have a:=JV.lookup;have a:=JT;have a:=CS;have a:=JN;have a:=JO;unfold Builtin.«object.__getattribute__»
  repeat(any_goals (first|assumption|wp_step))
  show sf CT.plain JM<|CT.check _ _ _ _ _ _ _ _ (JS _) (JR _ _ _) ?_;show dq (JQ f (bM:=λa f=>a=.done (.ret<| .ref e.objs.size)/\f=#[e.push<|eZ "list.append" b,g,h,i,j]) #[V,V]) ?_<|λk k l=>l;intro a f b;show j4 b ?_
  repeat(any_goals (first|assumption|wp_step))
  show as _ V d
def JW
 (d:b.heap.get? m=O {cls:=.type "list",data:=.seq n o})
 (e:∀a,r (.ref b.heap.objs.size) {b with heap:=b.heap.push<|eZ "list.append" m,toks:=a}):
 ar (b2 w x) B (kf (.ref m) "append" z) r M b:=by
 obtain⟨f,g,h,a,i⟩:=b;have b:∀j,(#[f,g,h,j,i]:aM).TypeIs (.ref m) "list":=λf=>as _ d V;have f:=CU.lookup;have f:=CU.bind<| .ref m;have f:=am_list_getattr_none;unfold kf getAttrBy
 repeat(any_goals (first|assumption|show b _|((with_reducible show ar _ _ (dU (se "list.__getattribute__") _ _) _ _ _);show ya CU (b _) am_entry_list_getattribute (PySem.F.args_list_getattribute_2 _ _) (JU m n o _) #[d,?_])|wp_step))
 have h':=e<|a+1;unfold handedOut
 repeat(any_goals (first|assumption|wp_step))
def JX:(match yp "list.append" with|some m=>∀a b,JY "list.append" {m with full:=s!"{Bind.lastOf "list"}.{Bind.lastOf "list.append"}"} #[[a,b],[]]=pure ()|none=>True):=by
 intro a b;room
def JZ:Manifest.varargsMethods.contains "list.append"=aj:=by decide+kernel
def J0:builtinKind "list.append"=O .method:=by decide+kernel
def J1 {a:T}{d:a3}(f:b.heap.get? a=O {cls:=.type "list",data:=.seq n o})(g:m () b):
 ar (b2 r w) x (yq "list.append" #[[.ref a,d],[]]) m B b:=by
 have e:=JX;have h:b.TypeIs (.ref a) "list":=as _ f V;unfold yq;cases hs:yp "list.append" with
 |none=>show ba g|some b=>
  rw[hs]at e;mspec J0;mspec JZ;have b:uO (.type "list") (.type "module")=pure aj:=by rw[lF];room
  have b:=e (.ref a) d
  repeat(any_goals (first|assumption|wp_step))
section
variable {cY:i5}{bp:fd}{aJ:cV}{bv:bX}{aa:aM}
def J2 {id:String}(f:args.any (·.1)=aj)
 (g:ar (b2 cY bp) aJ (uQ (.ref b) z args []) (λa d=>d.heap.get? b=O (eZ id o)/\ar (b2 cY bp) aJ (dU (.ref b) (first++a.pos) a.kw) n bv d) bv aa):
 ar (b2 cY bp) aJ (dO pos (.ref b) first args []) n bv aa:=by
 unfold dO;show ap<|g6<|dq g (λa d e=>ap<|jJ ?_) λd d a=>a;mspec f;show ap (m:=yr<| .ref b) ?_;unfold yr;show ap<|sg e.1 ?_;show ba ?_;show ap<|dq e.2 (λr g f=>ap<|g6<|wpAny_point<|ba f) λd d a=>a
def J3 (d:aa.heap.get? b=O (eZ "list.append" m))(a:aa.heap.get? m=O {cls:=.type "list",data:=.seq o r})
 (e:∀h',ia m aa.heap h'->h'.get? m=O {cls:=.type "list",data:=.seq (o.push n)<|r+1}->w .none {aa with heap:=h'}) (g:o.size<=aC):
 ar (b2 cY bp) aJ (dU (.ref b) [n]) w bv aa:=by
 show hS<|CO ?_;show(?_:ar _ aJ.in1 (callAny (.ref b) #[[n],[]]) _ _ aa);unfold callAny;show ap<|sg d ?_;show yt H ?_;show yt H ?_;show ap ?_;show J1 a<|ba #[uR JV.plain _,pe entry_list_append ?_];show(?_:ar _ _ (updateSeq m (·.push n) >>= λd=>ret .none) _ _ _);show ap (wpAny_updateSeq (f:=(·.push n)) a V (ba<|e _ (jh ..) (by mspec nc _ a (by rw[mapSeq_push];rfl);rw[mapSeq_push])) g (by rw[Array.size_push];show qF ‹_›))
end
section
variable {Y:bc}{I:aO}
def S.CV (g:(r,.val (.ref ac))∈Y.p)(hd:(r==("__debug__":i))=aj)(k:(r==("__classdict__":i))=aj)(l:(ac,.list ds)∈Y.D)(p:fO Y.J m)
 (q:eval (.Attribute (.Name r w) "append" x) Y.J=(do
  let o <-eval (.Name r w) Y.J
  ep x.atName
  let B <-e5 [o] (kf o "append" z)
  xy (.Name r w) o B
  pure B))
 (s:f7 (.Attribute (.Name r w) "append" x) (O<| .Name m M) pos.line Y.J=pure aj)
 (t:∀a,a∉Y.X->a∉I.cB->S I #[Y.d,Y.n,Y.J,a::Y.X,bj m (.val<| .ref a) Y.p,(a,.aG (eZ "list.append" ac))::Y.D] b S4):
 S I Y (.Assign [.Name m M] (.Attribute (.Name r w) "append" x) pos::b) S4:=
 S.cons (au:=λh=>∃a,a∉Y.X/\a∉I.cB/\u I #[Y.d,Y.n,Y.J,a::Y.X,bj m (.val<| .ref a) Y.p,(a,.aG (eZ "list.append" ac))::Y.D] h)
  (.mk λa j m w f=>pb (Attribute_Name_ ((R.name g hd k).go a j _ m w.todz f.tocU λB d x y A=>by
   obtain rfl:=A.is;have g:=f.keep y;show aX ((g.D _ l).2.ey) λk a m=>?_;show v a λn l=>?_;show JW l λk=>?_;have a:=g.iG<|d3 (al:=d);have l:=(g.gI d3 #[_,dL d (o:=eZ "list.append" ac) e]<|E.push _ _).ih (af:=.aG<|eZ "list.append" ac) ao (.aG<|dL _ e) a.2.2.1 (show d.objs.size∉d5 #[Y.d,Y.n,Y.J,d.objs.size::Y.X,Y.p,Y.D]from a.1);show u.gn (aa:={j with heap:=d.push<|eZ "list.append" ac,toks:=k}) (Y:=#[Y.d,Y.n,Y.J,d.objs.size::Y.X,Y.p,(d.objs.size,.aG (eZ "list.append" ac))::Y.D]) l p (af:=.val<| .ref d.objs.size) (.val _) λh' k g g g g j=>#[.up,d.objs.size,a.2.1,a.2.2.2,j]) q) s)
  λh a=>g3 a λac d g f=>eO #[Y.d,Y.n,Y.J,ac::Y.X,_,_] I V rfl rfl rfl rfl f (t ac d g)
def g.qG (A:R Y arg af)(C:(r,.val (.ref x))∈Y.p)(hd:(r==("__debug__":i))=aj)(D:(r==("__classdict__":i))=aj)
 (E:(x,.aG (eZ "list.append" m))∈Y.D) (h:Y.D=bD++(m,.list ds)::b3) (F:ds.length<=aC) (G:mq Y.J=aj) (H:f7 (.Call (.Name r B) [arg] [] w) c pos.line Y.J=pure aj)
 (j:bf [arg] Y.J=(aj,eval arg Y.J)::bf [] Y.J)
 (J:eval (.Call (.Name r B) [arg] [] w) Y.J=(do dO w (<-eval (.Name r B) Y.J) [] (cX w<|bf [arg] Y.J) (jH w<|jI [] Y.J))):
 g Y I (.Expr (.Call (.Name r B) [arg] [] w) pos) (c0 (u I #[Y.d,Y.n,Y.J,Y.X,Y.p,bD++(m,.list (ds++[af]))::b3]) bT):=.mk λa d e k p=>by
 show od (jb ((R.name C hd D).go a d _ e k.todz p.tocU λo K L M N=>?_) J) G H;obtain rfl:=N.is;have q:=p.keep M;have s:=(W.cons (pos:=w) A W.nil j).go a {d with heap:=K,toks:=L} (λf p=>p.heap.get? x=O (eZ "list.append" m)/\ar Y.d.M a (dU (.ref x) ([]++f) []) (λt r=>cs d r I.bY/\c0 (u I #[Y.d,Y.n,Y.J,Y.X,Y.p,bD++(m,.list (ds++[af]))::b3]) bT .next r.heap) e p) e k.todz q.tocU λa y w P Q=>?_
 .rw[j]at s ⊢;show J2 (by rfl)<|uc s
 .show v Q.one λt a=>?_;show ci a λk=>?_;have a:=q.keep P;have d:y.get? x=O (eZ "list.append" m):=by
   show(a.D _ E).2.is
  show am (a.D _ (show(m,.list ds)∈Y.D from h▸bA ao)) λp j=>?_;show aX j.ey λf q e=>?_;show v q λn r=>?_;show#[d,J3 d r (λh' j q=>#[.up,?_])<|by simpa[e.length]using F];show(show u I #[Y.d,Y.n,Y.J,Y.X,Y.p,bD++(m,.list ds)::b3] y from by show h▸a).kV j (.list (a1:=f++[t]) #[n+1,by simpa using q]<|(e.append<| .cons k .nil).keep<|l.mS λb o n a=>j.extBut b o (λd=>n<|d▸p) a)
def g.yu {ac b:Int}(i:(m,.int ac)∈Y.p)(e:Y.J.kindOf m=O .local)(j:R Y n (.int b)):
 g Y I (.AugAssign (.Name m w) .Add n pos) (c0 (u I #[Y.d,Y.n,Y.J,Y.X,bj m (.int<|ac+b) Y.p,Y.D]) x):=.mk λk h l o d=>by
 show wpAny_AugAssign_Name ?_;show aX (d.d8 _ i) λp f q=>?_;obtain⟨i,rfl⟩:=q.df;rcases f with⟨_,i,r,f⟩|⟨m,a,_⟩
 .show t4 d.kind e r f<|j.go k h _ l o.todz d.tocU λp i m n q=>?_;show v q.df λj f=>?_;show bw f ?_;show J4<|(d.keep n).gn (aa:={h with heap:=i,toks:=m+1}) (.inl e) (af:=.int<|ac+b) (.int _ _) λh i d d d d f=>#[.up,f]
 .rcases a with a|a<;>replace a:=e▸a<;>cases a
def g.uS (b:aZ Y m z):g Y I (.Assert m c pos) (c0 (u I Y) n):=.mk λd e f h a=>
 wpAny_Assert_holds (b.go d e _ f h.todz a.tocU λh' j i=>cG H .up<|a.keep i)
inductive pf:j->j->Bool->Prop
 |yv (ae):pf (.str ae) .none aj|yw (ae o):pf (.str ae) (.val<| .ref o) aj
 |none:pf .none .none z|obj (o):pf (.val<| .ref o) (.val<| .ref o) z
def av.J5 (i:pf m b n):av Y .Is m b n:=.mk λm h n p q r s t a d j=>by
 have e:=j h.heap h.toks<|E.bd _;cases i with
 |yv k=>show v a.dN λl f=>?_;show bw f ?_;obtain rfl:=d.is;show wpAny_is_other V (by intro g;cases g) e
 |yw k o=>show v a.dN λl f=>?_;show bw f ?_;obtain rfl:=d.is;show wpAny_is_other V (by intro g;cases g) e
 |none=>obtain rfl:=a.is;obtain rfl:=d.is;show wpAny_is_self V e|obj o=>obtain rfl:=a.is;obtain rfl:=d.is;show wpAny_is_ref_self e
def av.yx (i:pf m b n):av Y .IsNot m b (!n):=.mk λm h n p q r s t a d j=>by
 have e:=j h.heap h.toks<|E.bd _;cases i with
 |yv k=>show v a.dN λl f=>?_;show bw f ?_;obtain rfl:=d.is;show wpAny_isNot_other V (by intro g;cases g) e
 |yw k o=>show v a.dN λl f=>?_;show bw f ?_;obtain rfl:=d.is;show wpAny_isNot_other V (by intro g;cases g) e
 |none=>obtain rfl:=a.is;obtain rfl:=d.is;show wpAny_isNot_self V e|obj o=>obtain rfl:=a.is;obtain rfl:=d.is;show wpAny_isNot_ref_self e
def R.yy (e:R Y o (.str ae))(a:b.length+ae.length+m.length<=aC):
 R Y (.JoinedStr [.Constant (.str b) r w,.FormattedValue o (-1) c x,.Constant (.str m) B M] pos) (.str<|b++ae++m):=.mk λf d l g h j k=>by
 have l:(kg++b).length<=aC:=by rw[kh];show bb [.C (.y (.y G N) t)<| .n aC] 0 (.y (.n 0) G) (.n aC) H a
 have p:(kg++b++ae).length<=aC:=by rw[kh,kh];show bb [.C (.y (.y G N) t)<| .n aC] 0 (.y (.y (.n 0) G) N) (.n aC) H a
 have d:(kg++b++ae++m).length<=aC:=by rw[kh,kh,kh];show bb [.C (.y (.y G N) t)<| .n aC] 0 (.y (.y (.y (.n 0) G) N) t) (.n aC) H a
 show JoinedStr_many<|sh<|oX #[l,?_];show sh<|FormattedValue_plain<|e.go f _ _ g h (j.keep<|E.bd _) λo l s q r=>?_;show v r.dN λf e=>?_;show bw e ?_;show formatField_str (λe f=>#[p,?_])<|bb [.C (.y (.y N G) t)<| .n aC] 0 G (.n aC) H a;show sh<|oX #[d,joinParts_nil ?_ d];have a:kg++b++ae++m=b++ae++m:=by
  have:kg++b=b:=by show(?_:(#[(aRR [])++b.cps]:i)=b);show aI uT V
  show aI this V
 mspec a;show k _ l _ q<| .str _ _
end
section
variable {Y:bc}{I:aO}
def a9.J6 (r:a9 b m n (.bQ ds)):a9.Is b m n (.bQ ds):=r.is
def J7 (a:o.handled=c)(d:IsTup b.heap r [m,n].toArray)
 (e:∀h',xF b.heap.objs.size b.heap h'->w [m,n] {b with heap:=h'}):ar (b2 x B) o (xG (.ref r) 2 c) w M b:=
 unpackItems_tuple (items:=[m,n].toArray) a d e
def u.CW {a f:i}{d e:a3}{g b:j}{k p:a3->ib Unit}(q:u I Y aa.heap)(s:fO Y.J a)(t:fO Y.J f)(v:a9 Y.d (l aa.heap Y.X) d g)(x:a9 Y.d (l aa.heap Y.X) e b)
 (y:∀(aa:aM)(m:lo),ar Y.d.M r (storeName Y.J a d) m w aa->ar Y.d.M r (k d) m w aa) (A:∀(aa:aM)(m:lo),ar Y.d.M r (storeName Y.J f e) m w aa->ar Y.d.M r (p e) m w aa)
 (h:∀h' B,u I #[Y.d,Y.n,Y.J,Y.X,bj f b<|bj a g Y.p,Y.D] h'->m () {aa with heap:=h',toks:=B}):ar Y.d.M r (xI [k,p] [d,e]) m w aa:=by
 show n5<|y _ _<|q.gn s v λe f r k d m p=>?_;show n5<|A _ _<|u.gn (aa:={aa with heap:=e,toks:=f}) (Y:=#[Y.d,Y.n,Y.J,Y.X,bj a g Y.p,Y.D]) p t (x.keep<|l.mS<|λb o n h=>m.extBut b o (λa=>n<|a▸k) h) λe f d d d d g=>?_;show xQ<|h e f g
def J8
 (a:ar b m (eval n env) (λd e=>ar b m (xG d 2 c) (λf g=>ar b m (xI [bindName env r,bindName env w] f.reverse) (λj=>S4 .next) o g) o e) o S5)
 (h:yz [.Tuple x B M] n pos.line env=pure aj)
 (i:uU [.Tuple x B M] n env=pure (O [w,r])):
 ar b m (exec (.Assign [.Tuple x B M] n pos) env) S4 o S5:=Assign_Tuple_swapped (names:=[w,r]) a h i
def g.CX (e:R Y m (.bQ [ac,b]))(h:fO Y.J ae)(i:fO Y.J bu)
 (j:yz [oh n r w] m pos.line Y.J=pure aj) (k:uU [oh n r w] m Y.J=pure (O [ae,bu])):
 g Y I (.Assign [oh n r w] m pos) (c0 (u I #[Y.d,Y.n,Y.J,Y.X,bj ae ac<|bj bu b Y.p,Y.D]) B):=.mk λm d n a f=>by
 show J8 (e.go m d _ n a.todz f.tocU λw p q s r=>?_) j k;show cm r.J6 λj k e=>?_;show eN e λt v=>?_;obtain⟨e,j,rfl,x,y⟩:=v.eT;show J7 a.handled (t.keeps l.of) λh' j=>?_;have a:E h' p:=λb o e=>j b o (g7<|gl e) e;show u.CW (aa:={d with heap:=h',toks:=q}) ((f.keep s).keep a) i h (y.keep<|l.keep _ a) (x.keep<|l.keep _ a) (λd d e=>bindName_ e) (λd d e=>bindName_ e) λd f a=>#[.up,a]
def b6.str {a:Nat}(I:ae.cps[a]?=O m)(d:a<2^63):b6 Y (.str ae) (.int a) (.str #[(aRR [m])]):=.mk λb e j k l n o p f g h=>by
 show v f.dN λj b=>?_;show bw b ?_;show v g.df λf b=>?_;show bw b ?_;show f5 ("str") _ (ob _ _ _) CY.lookup (J9 (c:=m) (by simp;show ej.mpr<|dG d H) ?_<|h _ e.heap _ (E.bd _)<| .str _ _);mspec show ae.length=ae.cps.size from rfl
 unfold seqIndex?;have i:¬((a:Int)<0):=by simp+arith
 simp only[i,if_false];mspec if_pos (by simp;show((Ka.mp I).1));simpa using I
end
abbrev aD:=List<|T×j
noncomputable abbrev aH (o:aD):aY:=o.map (·.1)
abbrev lG:=aY->aD->j->Prop
inductive nd (an:a3)(al:aW)(I:aO)(Y:bc)(ki:lG):Prop
 |mk (a:aY) (bg:aD) (af:j) (b:ki a bg af) (d:∀ac∈Y.X,ac∈a) (e:u I #[Y.d,Y.n,Y.J,a,Y.p,bg] al) (r:a9 Y.d (l al a) an af):nd an al I Y ki
structure aS (Y:bc)(I:aO)(a:c4)(ki:lG):Prop where
 go:∀(aJ:cV)(aa:aM)(bM:bX)(bv:bX),jd aJ Y.n Y.J I.cQ->u I Y aa.heap->
  (∀an bR,cs aa bR I.bY->nd an bR.heap I Y ki->bM an bR)->ar Y.d.M aJ (eval a Y.J) bM bv aa
structure dX (Y:bc)(I:aO)(aQ:a3)(ds:dn)(ki:lG):Prop where
 go:∀(aJ:cV)(aa:aM)(bM:bX)(bv:bX)(a1:cv),jd aJ Y.n Y.J I.cQ->u I Y aa.heap->aN Y.d (l aa.heap Y.X) a1 ds->
  (∀an bR,cs aa bR I.bY->nd an bR.heap I Y ki->bM an bR)->ar Y.d.M aJ (dU aQ a1) bM bv aa
structure qH (U:aV)(I:aO)(ah:aD)(bg:aD)(al:aW):Prop where
 keep:E al I.cL
 hE:∀ai∈bg,bG U (l al<|I.cB++aH bg) al ai.1 ai.2
 new:∀ai∈bg,I.cL.get? ai.1=c
 apart:bg.Pairwise λae bu=>ae.1≠bu.1
 all:∀ai∈ah,ai.1∈aH bg
inductive er (U:aV)(I:aO)(ah:aD)(co:aD->j->Prop)(aQ:Flow)(al:aW):Prop
 |mk (an:a3) (af:j) (bg:aD) (a:aQ=.ret an\/(aQ=.next/\an=.none)) (b:co bg af) (o:qH U I ah bg al) (r:a9 U (l al<|I.cB++aH bg) an af):er U I ah co aQ al
section
variable {Y:bc}{I:aO}
def ik:aH (m++b)=aH m++aH b:=eV
def c7 (a:b∈m):b.1∈aH m:=dI a
def u.pg (d:u I Y m)(g:∀b∈ah,b.1∈aH Y.D){bg:aD}(e:Y.D.Perm bg):qH Y.d I ah bg m:=
 have h:∀f∈I.cB++aH bg,f∈Y.X:=λf a=>by
  show cK a (λa=>?_) λa=>?_
  .show d.sub f a
  .show g1 a λb f=>?_;show(d.D b<|e.mem_iff.mpr f).1
 {keep:=d.db
  hE:=λb a=>(d.D b<|e.mem_iff.mpr a).2.keep (l.sub h) (E.bd _)
  new:=λb a=>(d.cM b<|e.mem_iff.mpr a).1
  apart:=e.pairwise d.dr (λm f=>m f.symm)
  all:=λb a=>by
   show aX (ck<|g b a) λf d I=>?_;show iw.mpr<|as f (e.mem_iff.mp d) I}
def u.CZ {t keep i:aD}(g:u I Y m)(D:Y.D.Perm (t++keep))(h:aY)(B:∀d,d∈h->d∈aH t\/d=Y.J.locals)(S9:∀d∈aH t,d∈h)
 (R:E h' (cq m h)) (F:∀a∈i,bG Y.d (l h'<|Y.X++aH i) h' a.1 a.2) (S:∀a∈i,(cq m h).get? a.1=c) (T:i.Pairwise λU W=>U.1≠W.1) (X:∀a∈t,a.1∈aH i)
 (Z:∀a∈i,a.1≠Y.J.locals) (M:∀b,m.Ns Y.J.locals b->h'.Ns Y.J.locals b):u I #[Y.d,Y.n,Y.J,Y.X++aH i,Y.p,i++keep] h':=by
 show cd (ii.mp<|(D.pairwise g.dr<|λm e=>m e.symm)) λq S4 S5=>?_;have N:∀a∈t,a∈Y.D:=λa b=>D.mem_iff.mpr<|bI b;have mk:∀a∈keep,a∈Y.D:=λa b=>D.mem_iff.mpr<|bA b;have S6:∀d∈h,d∈Y.X:=λd b=>by
  show aw (B d b) (λb=>?_) λG=>?_
  .show g1 b λa f=>?_;show(g.D a<|N a f).1
  .obtain rfl:=G;show g.cn.1
 have w:∀d o,d∉h->m.get? d=O o->h'.get? d=O o:=λd o n e=>R d o<|cb _ e n;have H:∀d∈h,(∃a∈Y.D,d=a.1)\/d=Y.J.locals:=λd b=>by
  show aw (B d b) (λb=>?_) λS7=>?_
  .obtain⟨a,f,rfl⟩:=ck b;show .inl<|as a (N a f) V
  .show .inr S7
 have S8:∀s∈Y.J.cells,s.2∉h:=λs C b=>by
  show aw (H _ b) (λx=>?_) λI=>?_
  .show v x λa y=>?_;show am y λf I=>?_;show(g.cM a f).2.2 s C I.symm
  .show g.ft s C I
 have P:∀a∈keep,a.1∉h:=λa f b=>by
  show aw (B _ b) (λb=>?_) λb=>?_
  .show aX (ck b) λe j I=>?_;show S5 e j a f I
  .show(g.cM a<|mk a f).2.1 b
 have J:∀d∈aH i,d∉h->m.get? d=c:=λd b n=>by
  obtain⟨a,f,rfl⟩:=ck b;have:=S a f;cases e:m.get? a.1 with
  |none=>rfl|some o=>replace this:=(cb _ e n:(cq m h).get? a.1=O o)▸this;cases this
 have Q:E (l h'<|Y.X++aH i) (l m Y.X):=λd o e=>by
  have i:=l.of _ _ e;have m:d∉Y.X:=λb=>by show b5 (cT _ b) e
  have t:d∉h:=λb=>m<|S6 d b;show cb _ (w d o t i) λb=>?_;show cK b (λb=>?_) λb=>?_
  .show m b
  .show b5 (J d b t) i
 show u.frame g Q (λd b=>by
  show cK b (λb=>?_) λb=>?_
  .by_cases k:d∈h
   .show aw (B d k) (λk=>?_) λG=>?_
    .obtain⟨a,f,rfl⟩:=ck k;show aX (ck<|X a f) λe j I=>?_;show v ((F e j).cw) λo p=>?_;show#[o,by show I▸p]
    .obtain rfl:=G;show v g.ns λb A=>?_;show eW (M b A) λo q q p q=>?_;show#[o,p]
   .show v (g.cw d b) λo e=>?_;show#[o,w d o k e]
  .obtain⟨e,j,rfl⟩:=ck b;show(F e j).cw) (bI g.cn.1) (λa f=>bI<|g.cn.2 a f) (λd b=>bI<|g.sub d b) M (λa f o e=>w _ o (S8 a f) e) (λd o e=>by
  show w d o (λb=>?_)<|g.db d o e;show aw (H _ b) (λx=>?_) λK=>?_
  .show v x λa y=>?_;show am y λf K=>?_;replace e:=K▸e;replace e:=((g.cM a f).1)▸e;cases e
  .replace e:=K▸e;replace e:=g.new.1▸e;cases e) (λa f=>by
  show cK f (λf=>?_) λf=>?_
  .show#[bA<|c7 f,F a f]
  .show am (g.D a<|mk a f) λd i=>?_;show#[bI d,i.lw Q λo e=>w _ o (P a f) e]) (λa f=>by
  show cK f (λf=>?_) λf=>?_
  .by_cases k:a.1∈h
   .show aw (H _ k) (λx=>?_) λI=>?_
    .show v x λe y=>?_;show am y λj I=>?_;have:=g.cM e j;replace this:=I▸this;show this
    .show(Z a f I).elim
   .have r:=J _ (c7 f) k;show cG ?_ (λe=>?_)<|λs C e=>?_
    .show jz (g.db _) r
    .show BA g.ns λb o q q A q=>?_;replace r:=e▸r;show b5 r A
    .show gi (g.cells s C) λb o A q=>?_;replace r:=e▸r;show b5 r A
  .show g.cM a<|mk a f) (ii.mpr #[T,S4,λa f e j k=>by
  have L:=P e j;replace L:=k▸L;show v ((g.D e<|mk e j).2.cw) λo p=>?_;replace p:=k▸p;replace p:=(J _ (c7 f) L)▸p;cases p])
def u.after {f h':aW}{b keep a:aD}(e:u I Y f)(i:Y.D.Perm (b++keep))(r:qH Y.d #[cq f<|aH b,Y.X,fr,gen] b a h'):u I #[Y.d,Y.n,Y.J,Y.X++aH a,Y.p,a++keep] h':=by
 have j:Y.J.locals∉aH b:=λa=>by
  show aX (ck a) λf g d=>?_;show(e.cM f<|i.mem_iff.mpr<|bI g).2.1 d
 show e.CZ i (aH b) (λk a=>.inl a) (λk a=>a) r.keep r.hE r.new r.apart r.all (λf g d=>?_)<|λa h=>h.at' λo d=>r.keep _ o<|cb _ d j;show BA e.ns λa o b b h b=>?_;have:=r.new f g;replace this:=d▸this;replace this:=(cb _ h j)▸this;cases this
def u.uV {f h':aW}{ah keep bg:aD}(h:u I Y f)(i:Y.D.Perm (ah++keep))(n:f.get? Y.J.locals=O m)
 (r:qH Y.d #[cq f<|Y.J.locals::aH ah,Y.X,fr,gen] ((Y.J.locals,.frame m)::ah) ((Y.J.locals,.frame m)::bg) h'):u I #[Y.d,Y.n,Y.J,Y.X++aH bg,Y.p,bg++keep] h':=by
 have f:=gq.mp r.apart;have fr:=r.hE _ ao;show h.CZ i (Y.J.locals::aH ah) (λj a=>?_) (λj a=>A a) r.keep (λb d=>(r.hE b<|A d).keep (l.sub λj a=>?_)<|E.bd _) (λb d=>r.new b<|A d) f.2 (λb d=>?_)
  (λb d e=>f.1 b d e.symm) (λa p=>?_)
 .rcases d1 a with a|a
  .show .inr a
  .show .inl a
 .rcases jy a with a|a
  .show bI a
  .show bA<|A a
 .have:=r.all b<|A d;rcases d1 this with e|e
  .show((h.cM b<|i.mem_iff.mpr<|bI d).2.1 e).elim
  .show e
 .show l4 p λo q s g hd t=>?_;replace g:=n▸g;cases g;have w:∃k,h'.get? Y.J.locals=O {m with slots:=k}:=by cases fr with|frame I=>show dm _ I
  show v w λk a=>?_;show kL _ q s a hd t
def ez.mr (g:ez Y.d m x w body)(k:Y.n=n+1)(l:w.length=ds.length)(h:Y.D.Perm (ah++keep))
 (p:∀i j h0,S #[h0,Y.X,c,I.bY] #[Y.d,n,bU x i m,j,w.zip ds,ah] body (er Y.d #[h0,Y.X,c,I.bY] ah B)) (q:∀b d,B b d->M (Y.X++aH b) (b++keep) d):dX Y I (.ref m) ds M:=.mk λm s w x B t e u f=>by
 show g.call (k▸t.todz:dz m (n+1)) e.base e.cw u l (h0:=cq s.heap<|aH ah) (λv o f=>fe _ f) (own:=ah) (λg a=>e.D g<|(λg a=>h.mem_iff.mpr<|bI a) g a) (λg a=>cT _<|c7 a) (fr:=c) (ii.mp<|(h.pairwise e.dr<|λg f=>g f.symm)).1 (λk g=>nomatch g)
  (λi j=>p i j _) λg y A r=>?_
 obtain⟨C,d,b,D,E,F,G⟩:=r;have g:=f C y A #[_,_,d,q b d E,λv a=>bI a,e.after h F,G];rcases D with rfl|⟨rfl,rfl⟩<;>show g
def ez.yA (C:ez Y.d w M x body){co:aD->j->Prop}{i:List b1}(D:I.cQ=O i)(E:Y.n=n+1)(F:x.length=ds.length)(m:Y.D.Perm (ah++keep))
 (G:∀p q h0 d,(∃s H,d.data=.dict s H)->S #[h0,Y.X,O<|Y.J::i,I.bY] #[Y.d,n,bU M p w,q,x.zip ds,(Y.J.locals,.frame d)::ah] body (er Y.d #[h0,Y.X,O<|Y.J::i,I.bY] ((Y.J.locals,.frame d)::ah) λh f=>∃k,h=(Y.J.locals,.frame d)::k/\co k f))
 (J:∀h f,co h f->S4 (Y.X++aH h) (h++keep) f):dX Y I (.ref w) ds S4:=.mk λw x M W X u e H g=>by
 have v:∀b∈ah,b∈Y.D:=λb a=>m.mem_iff.mpr<|bI a;show oV e.ns λa d s K y hd M=>?_;show C.call (E▸u.todz:dz w (n+1)) e.base e.cw H F (h0:=cq x.heap<|Y.J.locals::aH ah) (λB o g=>fe _ g) (own:=(Y.J.locals,.frame d)::ah) (λb a=>?_) (λb a=>cT _ ?_) (fr:=O<|Y.J::i) (gq.mpr #[λb a g=>(e.cM b<|v b a).2.1 g.symm,(ii.mp<|(m.pairwise e.dr<|λt g=>t g.symm)).1])
  (λw t=>by cases t;show u.pa i D) (λp q=>G p q _ d<|dM s K hd) λi L N r=>?_
 .rcases a4 a with rfl|a
  .show#[e.cn.1,.frame (gE:=d.slots) y]
  .show e.D b<|v b a
 .rcases a4 a with rfl|a
  .show ao
  .show A<|c7 a
 obtain⟨P,f,h,Q,⟨k,rfl,R⟩,T,U⟩:=r;have V:=g P L N #[_,_,f,J k f R,λB a=>bI a,e.uV m y T,U.keep (l.sub λB a=>by
  rcases jy a with a|a
  .show bI a
  .show bA<|A a)]
 rcases Q with rfl|⟨rfl,rfl⟩<;>show V
def S.qI (a:R Y n af)(h:I.cB=m.cB)(i:E I.cL m.cL)(d:∀e∈w,e.1∈aH Y.D)(j:Y.D.Perm bg)(k:x bg af):S I Y (.Return (O n) pos::b) (er Y.d m w x):=
 S.cons (au:=λn=>False) (g.ret a λq p f r=>by
  have o:=f.pg d j;have q:∀a∈I.cB++aH bg,a∈Y.X:=λa d=>by
   show cK d (λd=>?_) λd=>?_
   .show f.sub a d
   .show g1 d λe s=>?_;show(f.D e<|j.mem_iff.mpr s).1
  show#[p,af,bg,.inl V,k,?_,?_]
  .have f:∀a,I.cL.get? a=c->m.cL.get? a=c:=λa j=>by
    show jz (i a) j
   show#[i.trans o.keep,h▸o.hE,λe d=>f _<|o.new e d,o.apart,o.all]
  .show h▸r.keep (l.sub q)) λn a=>a.elim
def S.si {a bg:aD}{e:aD->j->Prop}(g:I.cB=b.cB)(f:E I.cL b.cL)(h:∀d∈a,d.1∈aH Y.D)(i:Y.D.Perm bg)(k:e bg .none):S I Y [] (er Y.d b a e):=
 S.nil λe a=>by
  have o:=a.pg h i;have e:∀a,I.cL.get? a=c->b.cL.get? a=c:=λa b=>by
   show jz (f a) b
  show#[.none,.none,bg,.inr #[V,V],k,#[f.trans o.keep,g▸o.hE,λd a=>e _<|o.new d a,o.apart,o.all],.none]
def nd.dP (o:nd m n I Y w)(e:∀a b d,w a b d->x a b d):nd m n I Y x:=by
 cases o with|mk a b d f g h r=>show#[a,b,d,e _ _ _ f,g,h,r]
def aS.dP (e:aS Y I m n)(f:∀a b d,n a b d->r a b d):aS Y I m r:=.mk λa b d g h i j=>e.go a b d g h i λk l m o=>j k l m<|o.dP f
def dX.dP (e:dX Y I m ds n)(f:∀a b d,n a b d->r a b d):dX Y I m ds r:=.mk λa b d g h i j k l=>e.go a b d g h i j k λm n p o=>l m n p<|o.dP f
noncomputable abbrev iJ (Y:bc)(af:j):lG:=λa bg ex=>a=Y.X/\bg=Y.D/\ex=af
def aS.of (b:R Y m n):aS Y I m (iJ Y n):=.mk λd e f g h a i=>b.go d e f g h.todz a.tocU λj h' l k r=>i j _ .up #[_,_,_,(cG V rfl rfl),λd b=>b,a.keep k,r]
def dX.of (b:bO Y m ds n):dX Y I m ds (iJ Y n):=.mk λd e f g h i a j k=>b.go d e f g h i.todz a.tocU j λl h' n m r=>k l _ .up #[_,_,_,(cG V rfl rfl),λd b=>b,a.keep m,r]
def aS.g5 (e:R Y (.Name n B) (.val<| .ref b))(u:Y.d.B.get? b=O o)(hd:o.data=.func S4)(v:W Y pos (w::m) ds)(y:dX Y I (.ref b) ds S5)
 (C:bf (w::m) Y.J=(aj,eval w Y.J)::bf m Y.J) (J:(cX pos<|bf m Y.J).any (·.1)=aj)
 (D:eval (.Call (.Name n B) (w::m) [] pos) Y.J=(do dO pos (<-eval (.Name n B) Y.J) [] (cX pos<|bf (w::m) Y.J) (jH pos<|jI [] Y.J))):aS Y I (.Call (.Name n B) (w::m) [] pos) S5:=.mk λa g i d j h F=>
 jb (e.go a g _ d j.todz h.tocU λp l q k G=>by
  obtain rfl:=G.is;have H:=uc (M:=Y.d.M) (A:=a) (E:=d) (f:=.ref b) (x:=eval w Y.J) (rest:=cX pos<|bf m Y.J)
   (Q:=λn e=>(e.heap.get? b=O o/\o.data=.func S4)/\ar Y.d.M a (dU (.ref b) ([]++n.pos) n.kw) i d e) (s:={g with heap:=l,toks:=q})
  have t:=v.go a {g with heap:=l,toks:=q} (λl e=>(e.heap.get? b=O o/\o.data=.func S4)/\ar Y.d.M a (dU (.ref b) ([]++l) []) i d e) d j.todz (h.tocU.keep k) λl n q m v=>
   #[#[((h.tocU.keep k).keep m).fq _ _ u,hd],y.go a {g with heap:=n,toks:=q} i d l j ((h.keep k).keep m) v λp a b r=>F p a (cs.up.trans b) r]
  rw[C]at t ⊢;show xE<|H t) D
def S.kj {f:c4}{g:lG}(i:aS Y I f g)(k:fO Y.J m)(l:f7 f (O<| .Name m n) pos.line Y.J=pure aj)
 (o:∀a d e,g a d e->(∀h∈Y.X,h∈a)->S I #[Y.d,Y.n,Y.J,a,bj m e Y.p,d] b bT):S I Y (.Assign [.Name m n] f pos::b) bT:=
 S.cons (au:=λj=>∃a d e,g a d e/\(∀h∈Y.X,h∈a)/\u I #[Y.d,Y.n,Y.J,a,bj m e Y.p,d] j)
  (.mk λn p q s f=>pb (i.go n p _ q s f λx t v #[a,d,e,g,h,w,r]=>u.gn (aa:=t) (Y:=#[Y.d,Y.n,Y.J,a,Y.p,d]) w k r λp q i i i i n=>#[v.gH,a,d,e,g,h,n]) l)
  λj #[a,d,e,g,h,f]=>eO #[Y.d,Y.n,Y.J,a,bj m e Y.p,d] I V rfl rfl rfl rfl f (o a d e g h)
def S.C0 {f:lG}(j:aS Y I m f)(k:mq Y.J=aj)(l:f7 m c pos.line Y.J=pure aj)
 (n:∀a d e,f a d e->(∀g∈Y.X,g∈a)->S I #[Y.d,Y.n,Y.J,a,Y.p,d] b o):S I Y (.Expr m pos::b) o:=
 S.cons (au:=λi=>∃a d e,f a d e/\(∀g∈Y.X,g∈a)/\u I #[Y.d,Y.n,Y.J,a,Y.p,d] i)
  (.mk λm o p q f=>od (j.go m o _ p q f λv w s #[a,d,e,g,h,t,r]=>#[s,a,d,e,g,h,t]) k l)
  λi #[a,d,e,g,h,f]=>eO #[Y.d,Y.n,Y.J,a,Y.p,d] I V rfl rfl rfl rfl f (n a d e g h)
end
inductive ne:j->Prop
 |none:ne .none|int (L):ne (.int L)|str (aa):ne (.str aa)|ref (ac):ne (.val<| .ref ac)
def ne.handed {b:j}(d:ne b)(r:a9 n o m b):handedIn m=z:=by
 cases d with
 |none=>obtain rfl:=r.is;rfl|int b=>show v r.is λe a=>?_;show bw a ?_;rfl|str b=>show v r.is λe a=>?_;show bw a ?_;rfl|ref a=>obtain rfl:=r.is;rfl
structure sj (au:fl)(q:T)(a:i):Prop where
 plain:plainGet au q a=z
 has:uW au q=z
 no:sk au (.ref q) a=O c
structure ph (au:fl)(q ai:T)(a:i)(L:Nat):Prop where
 plain:plainGet au q a=z
 is:(clsIn au q).isSome=z
 at_:sk au (.ref q) a=O (O<| .ref ai)
 get:specialIn au (.ref ai) "__get__"=O (O<| .builtin "member_descriptor.__get__")
 yB:takesIn au (.ref ai)=O z
 slot:slotIn au ai q=O L
 oi:sl au (.ref ai)=O (.type "member_descriptor")
 small:L<1000
structure kZ (au:fl)(q:T)(a:i)(r:Option a3):Prop where
 set:sk au (.ref q) "__setattr__"=O (O<| .builtin "object.__setattr__")
 yC:plainOver au q=z
 yD:takerIn au q a=O r
def h9.Kb (a:h9 m n b o):b.any (·.refKey)=aj:=by
 induction a with
 |nil=>rfl|cons _ _ d=>rw[t2,d];rfl
def Kc (b:i)(d:Int)(e f:a3)(a:List j3):(putL b d e f a).length<=a.length+1:=by
 induction a with
 |nil=>show cg _|cons b a g=>
  rw[putL];split
  .show lB _
  .show qF g
section
variable {Y:bc}{I:aO}{au:fl}
def cU.bC (a:cU Y b)(X:au.In Y.d.B):au.In b:=λb o d=>a.fq _ _<|X b o d
def bG.kk (r:bG b m n w (.aG o)):bG.Is b m n w (.aG o):=r.is
def bG.Kd (r:bG b m n o (.ns w)):bG.Is b m n o (.ns w):=r.is
def bG.yE (r:bG b m n o (.slots w ds)):bG.Is b m n o (.slots w ds):=r.is
def pi (d:bG Y.d o b w (.aG<|c1 r m))(e:bG Y.d o b m (.ns x)):∃a n,InstAt b w (c1 r m) r (O<|j7 a n)/\b.get? m=O (j7 a n)/\h9 Y.d o a x:=by
 show gi e.Kd λa n b f=>?_;show f5 a n #[d.kk,V,H,b] b f
structure f9 (Y:bc)(r:j)(a:i)(af:j):Prop where
 go:∀(aJ:cV)(aa:aM)(bM:bX)(bv:bX)(ae:a3)(b:Bool),dz aJ Y.n->cU Y aa.heap->a9 Y.d (l aa.heap Y.X) ae r->
  (∀an d,a9 Y.d (l aa.heap Y.X) an af->bM an {aa with toks:=d})->ar Y.d.M aJ (kf ae a b) bM bv aa
def f9.dict (X:au.In Y.d.B)(f:(ae,.aG (c1 o w))∈Y.D)(g:(w,.ns bE)∈Y.D)(h:bE.lookup m=O b)(i:ne b)(a:sj au o m):f9 Y (.val<| .ref ae) m b:=.mk λk l m o e p q d r j=>by
 obtain rfl:=r.is;show f4 (pi (d.D _ f).2 (d.D _ g).2) λm n k o l=>?_;show aX (l.get.1 b h) λe g f=>?_;show get_value (d.bC X) k (k4 a.plain).1 (findObj_own a.has a.no H g) (i.handed f)<|j e _ f
def f9.slot (X:au.In Y.d.B)(f:(ac,.slots q ds)∈Y.D)(g:ds[m]?=O af)(h:ne af)(a:ph au q o n m):f9 Y (.val<| .ref ac) n af:=.mk λj b k m d n o e r i=>by
 obtain rfl:=r.is;show f4 ((e.D _ f).2.yE) λj k m n o=>?_;show aX (o.get g) λd p f=>?_;have g:InstAt b.heap ac {cls:=.ref q,dict:=O j,data:=.plain,slots:=(k.map O).toArray} q (O f6):=#[m,V,H,l.of _ _ n];show get_bind (e.bC X) g (k4 a.plain).1 (findObj_data a.is a.at_ a.get a.yB) (k4 a.plain).2<|hS<|slot_get (s:={b with toks:=b.toks+1}) (e.bC X) g a.slot (v:=d) ?_<|handed_on (h.handed f)<|i d _ f;simp[p]
def R.fk {a:i}(k:R Y o r)(l:f9 Y r a af)(n:eval (.Attribute o a pos) Y.J=(do
 let m <-eval o Y.J
 ep pos.atName
 let b <-e5 [m] (kf m a z)
 xy o m b
 pure b)):R Y (.Attribute o a pos) af:=.mk λa d h e f g m=>
 Attribute_any_ (k.go a d _ e f g λp h q j s=>l.go a {d with heap:=h,toks:=q} _ e p z f (g.keep j) s λb a d=>m b h a j d) n
structure e9 (Y:bc)(I:aO)(r:j)(a:i)(af:j)(bg:aD):Prop where
 go:∀(aJ:cV)(aa:aM)(bM:lo)(bv:bX)(ae an:a3),dz aJ Y.n->u I Y aa.heap->a9 Y.d (l aa.heap Y.X) ae r->a9 Y.d (l aa.heap Y.X) an af->
  (∀h' b,u I #[Y.d,Y.n,Y.J,Y.X,Y.p,bg] h'->bM () {aa with heap:=h',toks:=b})->ar Y.d.M aJ (setAttr ae a an) bM bv aa
def qJ {a:T}(d:ia a m h')(e:a∈Y.X):E (l h' Y.X) (l m Y.X):=l.mS λb o n a=>d.extBut b o (λf=>n<|f▸e) a
def e9.dict (X:au.In Y.d.B){bE:be}{bD b3:aD}(p:(ae,.aG (c1 w o))∈Y.D)(q:Y.D=bD++(o,.ns bE)::b3)(J:bE.length<=100)(K:uW au w=z)(k:kZ au w m c):e9 Y I (.val<| .ref ae) m M (bD++(o,.ns (mU bE m M))::b3):=.mk λM L R S T h U d r v x=>by
 obtain rfl:=r.is;have y:(o,.ns bE)∈Y.D:=q▸bA ao;show f4 (pi (d.D _ p).2 (d.D _ y).2) λg n l i j=>?_;obtain⟨e,A,B,f,D⟩:=L;dsimp only at d l i v x j;show set_plain (s:=#[e,A,B,f,D]) (d.tocU.bC X) l k.set ?_;show osa_open (s:=#[e,A,B,f+1,D]) (d.tocU.bC X) l k.yC k.yD λb=>?_;show aX (any_some K) λl k P=>?_;have E:ia o e (e.update o<|dF.putName m (tz Y.d.w.params m) (.str m<|f+1) h):=jh ..;have F:(e.update o<|dF.putName m (tz Y.d.w.params m) (.str m<|f+1) h).get? o=O (j7 (putL m (tz Y.d.w.params m) (.str m<|f+1) h g)<|putN m g n):=by
  mspec nc _ i (by rw[putName_dict];rfl);rw[putName_dict]
 show ap<|ba<|ap<|ap<|wpAny_loadPart ((d.D _ p).2.kk)<|ap<|(looks_clsIn (d.tocU.bC X) k).at ?_;mspec P;show ba (a:=O o)<|ap<|ba<|ap ?_;unfold nsSet;show ap<|ap<|wpAny_askSetting<|ba<|ap<|wpAny_mkText<|ap<|wpAny_loadPart i ?_;dsimp only;have w:(!g.toArray.any (·.key.isStr m)&&g.toArray.any (·.refKey))=aj:=by
  mspec Ke;mspec Ke;mspec j.Kb;rw[Bool.and_false]
 rw[aRefKeyMayBeTheName_at];mspec w;show wpAny_updatePart i ?_;show ap<|wpAny_lookBehind F (pastItsLine_dict ?_) ?_
 .mspec o3;mspec sizeLine_eq;show bb [.C N<| .n 100,.C G<| .Q t,.C t N] 0 G (.Q<| .n 16777216) H J (Kc m (tz Y.d.w.params m) (.str m<|f+1) h g)<|ay j.length
 .show ba<|x _ _ ?_;have f:=qJ (Y:=Y) E (d.D _ y).1;show(by show q▸d:u I #[Y.d,Y.n,Y.J,Y.X,Y.p,bD++(o,.ns bE)::b3] e).kV E<| .ns F<|(j.keep f).gD<|v.keep f
def Kf {a1:cv}(a:L<a1.length):((a1.map O).toArray++qK (L+1 - (a1.map O).toArray.size) c).setIfInBounds L (O an)=((a1.set L an).map O).toArray:=by
 mspec o3;rw[a6];mspec Nat.sub_eq_zero_of_le a;mspec Array.replicate_zero;mspec Kg;rw[List.setIfInBounds_toArray];show aI List.map_set V
def aN.set (d:a9 b m o w)(r:aN b m n ds):∀a,aN b m (n.set a o) (ds.set a w):=r.l8 (aB:=λn ds=>∀a,aN b m (n.set a o) (ds.set a w)) (λg=>.nil) λe r f a=>by
 cases a with
 |zero=>show .cons d r|succ a=>show .cons e<|f a
def C1 {d e:Nat}(X:au.In aa.heap)(f:InstAt aa.heap r S4 w S5)(i:slotIn au d w=O e)(j:e<1000)
 (k:x (.ok<| .ret .none) {aa with heap:=aa.heap.update r<|λo=>{o with slots:=(o.slots++qK (e+1 - o.slots.size) c).setIfInBounds e<|O B}}):
 hR (b2 b m) S6 (.call (.builtin "member_descriptor.__set__") #[[.ref d,.ref r,B],[]]) x aa:=by
 obtain⟨n,l,p,q,s,e,r,t,a,u,y,A,rfl⟩:=slot_of X i;obtain⟨g,e,i,r,x⟩:=aa;have D:=f.type (M:=b2 b m);have E:=looks_mroIn (M:=b2 b m) X y;have e:uX (b2 b m) g (Builtin.Slots.slotNamesOf<| .ref w) t.slotNames:=(looks_clsIn X u).andThen .now;have h:=f.at_;dsimp only at a h D E;have e:=yF (M:=b2 b m) a 0 (v:=.str n l) V;have e:=yF (M:=b2 b m) a 1 (v:=p) V;have e:=yF (M:=b2 b m) a 3 (v:=.builtin "proto.slot#set") V;have e:=yF (M:=b2 b m) a 4 (v:=.int q s) V;show sf yG.plain KF.entry_mset<|yG.check _ _ _ _ _ _ _ _ (as _ a V) (KF.args_mset _ _ _) ?_;unfold Builtin.«member_descriptor.__set__» SY S0 S1 S2 isInstance;have e:uX (b2 b m) g (S3<| .ref d) [.ref d]:=((Looks.ld (part:=c) a).andThen .now).andThen (Looks.of_pure<|by room)
 repeat lk
 show#[C2 _ (by decide+kernel),pe KF.entry_slotset ?_];unfold Builtin.«proto.slot#set» Builtin.Slots.target
 repeat lk
 mspec if_neg A;show ba<|ap ?_;unfold setSlotAt;dsimp only;mspec if_neg (by show sizeLine_eq▸λa=>oS [.aK G<| .n 1000,.C (.n 16777216) G] H j a);show wpAny_updatePart h<|ba k
def e9.slot (X:au.In Y.d.B){ds:dn}{bD b3:aD}{a:Nat}(w:Y.D=bD++(ac,.slots q ds)::b3)(D:a<ds.length)(f:ph au q M x a)(g:kZ au q x (O<| .ref M)):e9 Y I (.val<| .ref ac) x af (bD++(ac,.slots q (ds.set a af))::b3):=.mk λx v E F G e J d r y A=>by
 obtain rfl:=r.is;have B:(ac,.slots q ds)∈Y.D:=w▸bA ao;show f4 ((d.D _ B).2.yE) λC h i j k=>?_;obtain⟨b,m,n,p,t⟩:=v;dsimp only at d i j k y A;have v:InstAt b ac {cls:=.ref q,dict:=O C,data:=.plain,slots:=(h.map O).toArray} q (O f6):=#[i,V,H,l.of _ _ j];show set_plain (s:=#[b,m,n,p,t]) (d.tocU.bC X) v g.set ?_;show osa_descr (s:=#[b,m,n,p+1,t]) yG (d.tocU.bC X) v g.yC g.yD f.oi ?_;show C1 (aa:=#[b,m,n,p+1,t]) (d.tocU.bC X) v f.slot f.small ?_;have f:ia ac b (b.update ac<|λo=>{o with slots:=(o.slots++qK (a+1 - o.slots.size) c).setIfInBounds a<|O e}):=jh ..;have g:(b.update ac<|λo=>{o with slots:=(o.slots++qK (a+1 - o.slots.size) c).setIfInBounds a<|O e}).get? ac=O {cls:=.ref q,dict:=O C,data:=.plain,slots:=((h.set a e).map O).toArray}:=by
  mspec nc _ i V;show ch (Kf (a1:=h) (L:=a) (an:=e)<|k.length▸D) V
 have e:u I #[Y.d,Y.n,Y.J,Y.X,Y.p,bD++(ac,.slots q ds)::b3] b:=w▸d;have b:=qJ (Y:=Y) f (d.D _ B).1;show A _ _<|e.kV f<| .slots g (b _ _ j)<|(k.keep b).set (y.keep b) a
def S.pj (i:R Y m af)(j:R Y o r)(k:e9 Y I r n af bg)(p:f7 m (O<| .Attribute o n w) pos.line Y.J=pure aj)
 (q:S I #[Y.d,Y.n,Y.J,Y.X,Y.p,bg] b x):S I Y (.Assign [.Attribute o n w] m pos::b) x:=
 S.bq (X:=Y.X) (Γ:=Y.p) (own:=bg) (.mk λa g d e f=>C3 (i.go a g _ d e.todz f.tocU λm s t h n=>j.go a _ _ d e.todz (f.tocU.keep h) λs t u i v=>
  k.go a {g with heap:=t,toks:=u} _ d s m e.todz ((f.keep h).keep i) v (n.keep<|l.keep _ i) λh' g a=>#[.up,a]) p) q
def S.yH {ac q:Int}(i:R Y o r)(n:f9 Y r m (.int ac))(p:R Y w (.int q))(s:e9 Y I r m (.int<|ac+q) bg)
 (t:S I #[Y.d,Y.n,Y.J,Y.X,Y.p,bg] b x):S I Y (.AugAssign (.Attribute o m B) .Add w pos::b) x:=
 S.bq (X:=Y.X) (Γ:=Y.p) (own:=bg) (.mk λa d e f g=>Kh (i.go a d _ e f.todz g.tocU λj k u h m=>n.go a {d with heap:=k,toks:=u} _ e j z f.todz (g.tocU.keep h) m λi n w=>by
  show v w.df λu i=>?_;show bw i ?_;show p.go a {d with heap:=k,toks:=n} _ e f.todz (g.tocU.keep h) λx p u k w=>?_;show v w.df λn i=>?_;show bw i ?_;show J4<|s.go a {d with heap:=p,toks:=u+1} _ e j _ f.todz ((g.keep h).keep k) (m.keep<|l.keep _ k) (.int _ _) λh' d a=>#[.up,a])) t
def S.Ki {ac q:Int}(i:R Y o r)(p:f9 Y r m (.int ac))(s:R Y w (.int q))(t:e9 Y I r m (.int<|ac - q) n)
 (u:S I #[Y.d,Y.n,Y.J,Y.X,Y.p,n] b x):S I Y (.AugAssign (.Attribute o m B) .Sub w pos::b) x:=
 S.bq (X:=Y.X) (Γ:=Y.p) (own:=n) (.mk λa d e f g=>Kh (i.go a d _ e f.todz g.tocU λj k n h m=>p.go a {d with heap:=k,toks:=n} _ e j z f.todz (g.tocU.keep h) m λi p w=>by
  show v w.df λn i=>?_;show bw i ?_;show s.go a {d with heap:=k,toks:=p} _ e f.todz (g.tocU.keep h) λx n s k w=>?_;show v w.df λp i=>?_;show bw i ?_;show PySem.P.isub_int<|t.go a {d with heap:=n,toks:=s+1} _ e j _ f.todz ((g.keep h).keep k) (m.keep<|l.keep _ k) (.int _ _) λh' d a=>#[.up,a])) u
end
section
variable {Y:bc}{I:aO}
structure oj (Y:bc)(I:aO)(aQ:a3)(args:cv)(al:aW)(ki:lG):Prop where
 go:∀(aJ:cV)(aa:aM)(a:ue->aM->Prop),jd aJ Y.n Y.J I.cQ->aa.heap=al->u I Y al->(∀an bR,cs aa bR I.bY->nd an bR.heap I Y ki->a (.ok<| .ret an) bR)->hR Y.d.M aJ (.call aQ #[args,[]]) a aa
def hc.mr (h:hc Y.d w x r body)(p:Y.n=n+1)(q:r.length=ds.length)(i:Y.D.Perm (ah++keep))
 (s:∀b:aM,b.heap=m->u I Y m->gJ Y.d x #[args,[]] r Y.X ds b)
 (t:∀j k h0,S #[h0,Y.X,c,I.bY] #[Y.d,n,bU x j w,k,r.zip ds,ah] body (er Y.d #[h0,Y.X,c,I.bY] ah B)) (v:∀e f,B e f->M (Y.X++aH e) (e++keep) f):oj Y I (.ref w) args m M:=.mk λy b r A C d g=>by
 subst C;have r:=(i.pairwise d.dr<|λm g=>m g.symm);show h.uB (show dz y (n+1)from p▸A.todz) d.base d.cw (s b V d) q (h0:=cq b.heap<|aH ah) (λD o g=>fe _ g) (own:=ah) (λh a=>d.D h<|(λh a=>i.mem_iff.mpr<|bI a) h a) (λh a=>cT _<|c7 a) (ii.mp r).1 (fr:=c) (gen:=I.bY) (λh m=>nomatch m)
  λj k m p q r h=>?_
 show dq ((t j k _).go _ {b with heap:=m,toks:=p} _ q r) (λb E l=>?_) λh h b=>b;obtain⟨F,G,f,e,l,H,J,K⟩:=l;have b:=g G E (cs.up.trans F) #[_,_,f,v e f H,λD a=>bI a,d.after i J,K];rcases l with rfl|⟨rfl,rfl⟩<;>show b
def oj.call (e:∀a(b:aW),u I Y b->aN Y.d (l b Y.X) a ds->oj Y I m a b n):dX Y I m ds n:=.mk λf b j k a g d h i=>
 hS ((e a b.heap d h).go f b _ g V d λj k m o=>i j k m o)
end
section
variable {Y:bc}{I:aO}{au:fl}
def aS.m4 (g:∀a,a∉Y.X->a∉I.cB->b (a::Y.X) ((a,.list [])::Y.D) (.val<| .ref a)):aS Y I (.List [] m) b:=.mk λd b i j k f h=>
 t5 (ly #[ew _,by
  have d:=f.iG d3;have i:=f.gI d3 #[_,dL b.heap (o:={cls:=.type "list",data:=.seq ([]:cv).toArray}) e]<|E.push _ _;show h _ _ .up #[_,_,_,g b.heap.objs.size d.2.1 d.2.2.2,λa f=>A f,i.ih (af:=.list []) ao (.list #[0,dL _ e] .nil) d.2.2.1 (show b.heap.objs.size∉d5 #[Y.d,Y.n,Y.J,b.heap.objs.size::Y.X,Y.p,Y.D]from d.1),.val _]])
def C4 (d:∃b o,@m5 Nat _ i8 b/\Y.d.B.get? b=O o)(e:cU Y m):(m.objs.size==i8)=aj:=by
 show beq_eq_false_iff_ne.mpr λf=>?_;show gi d λb o a g=>?_;have h:=gl<|e.fq _ _ g;rw[<-f]at a;show mQ _<|nR h a
def aS.C5 (h:∃b o,@m5 Nat _ i8 b/\Y.d.B.get? b=O o):aS Y I (.Dict [] [] m) (λd f g=>∃a,a∉Y.X/\a∉I.cB/\d=a::Y.X/\f=(a,.bN [])::Y.D/\g=.val (.ref a)):=.mk λf d j k l g i=>
 Cq (by
  have f:=g.iG d3;have j:=g.gI d3 #[_,dL d.heap (o:={cls:=.type "dict",data:=.dict (aRR [])}) e]<|E.push _ _;show i _ _ .up #[_,_,_,(xo d.heap.objs.size f.2.1 f.2.2.2 V rfl rfl),λa k=>A k,j.ih (af:=.bN []) ao (.bN (C4 h g.tocU) (Cr _) V .nil) f.2.2.1 (show d.heap.objs.size∉d5 #[Y.d,Y.n,Y.J,d.heap.objs.size::Y.X,Y.p,Y.D]from f.1),.val _])
def Kj {an:a3}:((a1.map O).toArray++qK (a1.length+1 - (a1.map O).toArray.size) c).setIfInBounds a1.length (O an)=((a1++[an]).map O).toArray:=by
 mspec(show a1.length+1 - (a1.map O).toArray.size=1 from by simp);simp[List.set_append]
def e9.yI (X:au.In Y.d.B){a b v:T}{bD b3:aD}(w:Y.D=bD++(a,.slots b ds)::b3)(h:ph au b v x ds.length)(i:kZ au b x (O<| .ref v)):e9 Y I (.val<| .ref a) x M (bD++(a,.slots b (ds++[M]))::b3):=.mk λv D x E F g G e r y A=>by
 obtain rfl:=r.is;have B:(a,.slots b ds)∈Y.D:=w▸bA ao;show f4 ((e.D _ B).2.yE) λC f j k m=>?_;obtain⟨d,n,p,q,t⟩:=D;dsimp only at e j k m y A;have v:InstAt d a {cls:=.ref b,dict:=O C,data:=.plain,slots:=(f.map O).toArray} b (O f6):=#[j,V,H,l.of _ _ k];show set_plain (s:=#[d,n,p,q,t]) (e.tocU.bC X) v i.set ?_;show osa_descr (s:=#[d,n,p,q+1,t]) yG (e.tocU.bC X) v i.yC i.yD h.oi ?_;show C1 (aa:=#[d,n,p,q+1,t]) (e.tocU.bC X) v h.slot h.small ?_;have h:=m.length;show ch h ?_;have h:ia a d (d.update a<|λo=>{o with slots:=(o.slots++qK (f.length+1 - o.slots.size) c).setIfInBounds f.length<|O g}):=jh ..;have i:(d.update a<|λo=>{o with slots:=(o.slots++qK (f.length+1 - o.slots.size) c).setIfInBounds f.length<|O g}).get? a=O {cls:=.ref b,dict:=O C,data:=.plain,slots:=((f++[g]).map O).toArray}:=by
  mspec nc _ j V;show ch (Kj (a1:=f) (an:=g)) V
 have f:u I #[Y.d,Y.n,Y.J,Y.X,Y.p,bD++(a,.slots b ds)::b3] d:=by show ch w ?_;show e
 have a:=qJ (Y:=Y) h (e.D _ B).1;show A _ _<|f.kV h<| .slots i (a _ _ k)<|(m.keep a).append<| .cons (y.keep a) .nil
def S.uY (k:aS Y I m w)(q:f7 m (O<| .Attribute o n x) pos.line Y.J=pure aj)
 (s:∀a e f,w a e f->(∀g∈Y.X,g∈a)->∃d,R #[Y.d,Y.n,Y.J,a,Y.p,e] o r/\e9 #[Y.d,Y.n,Y.J,a,Y.p,e] I r n f d/\S I #[Y.d,Y.n,Y.J,a,Y.p,d] b bT):S I Y (.Assign [.Attribute o n x] m pos::b) bT:=
 S.cons (au:=λm=>∃a d,u I #[Y.d,Y.n,Y.J,a,Y.p,d] m/\S I #[Y.d,Y.n,Y.J,a,Y.p,d] b bT)
  (.mk λg t h i j=>C3 (k.go g t _ h i j λv n w #[a,e,f,x,y,p,A]=>by
   show g3 (s a e f x y) λd t B k=>?_;show t.go g n _ h i.todz p.tocU λf s x e y=>?_;show B.go g {n with heap:=s,toks:=x} _ h f v i.todz (p.keep e) y (A.keep<|l.keep _ e) λh' n g=>#[w.gH,a,d,g,k]) q)
  λm e=>gi e λa d j k=>eO #[Y.d,Y.n,Y.J,a,Y.p,d] I V rfl rfl rfl rfl j k
def dX.Kk (X:au.In Y.d.B){b ol:T}{n:Nat}(J:makesIn au b=z)(K:sk au (.ref b) "__init__"=O (O<| .ref ol))(L:sl au (.ref ol)=O (.type "function"))(M:Y.n=n+1)
 (first:∀(u a:aW)(d m:T),a.get? d=O (c1 b m)->a.get? m=O f6->u.get? m=O f6->∃p:j,bG Y.d u a d p/\p=.slots b [])
 (N:∀d i a,d∉Y.X->d∉I.cB->aN Y.d (l a<|d::Y.X) i ds->oj #[Y.d,n,Y.J,d::Y.X,Y.p,(d,.slots b [])::Y.D] I (.ref ol) (.ref d::i) a (λq r s=>s=.none/\S4 q r (.val<| .ref d))):dX Y I (.ref b) ds S4:=.mk λv P d m i w h x f=>by
 obtain⟨a,Q,s,R,S⟩:=P;dsimp only at h x f;show hS<|make_core (makes_of (h.tocU.bC X) J) (looks_findIn (h.tocU.bC X) K) (λd=>bind_fn (h.tocU.bC X) d L) (.inl H) ?_;have d:(a.push f6).objs.size=a.objs.size+1:=mi ..;have m:=h.keep<|E.push a f6;have u:(a.push f6).get? (a.objs.size+1)=c:=by show ch d ?_;show d3
 have y:((a.push f6).push<|c1 b a.objs.size).get? (a.objs.size+1)=O (c1 b a.objs.size):=by show ch d ?_;show dL _ e
 have B:((a.push f6).push<|c1 b a.objs.size).get? a.objs.size=O f6:=gk _<|dL _ e;have k:=m.iG u;have U:=m.gI u #[_,y]<|E.push _ _;have W:(l ((a.push f6).push<|c1 b a.objs.size)<|(a.objs.size+1)::Y.X).get? a.objs.size=O f6:=cb _ B λg=>by
  show aw (d1 g) (λf=>?_) λg=>?_
  .show absurd f<|g7<|fA _
  .show(h.tocU.new) g
 obtain⟨p,Z,rfl⟩:=first _ _ _ _ y B W;have C:=U.ih (af:=.slots b []) ao Z k.2.2.1 k.1;have S5:E (l ((a.push f6).push<|c1 b a.objs.size)<|(a.objs.size+1)::Y.X) (l a Y.X):=λD o f=>by
  have F:=l.of _ _ f;show cb _ (gk _<|gk _ F) λg=>?_;show aw (a4 g) (λS6=>?_) λg=>?_
  .obtain rfl:=S6;have d:=gl F;show absurd d<|g8.mpr<|lB _
  .replace f:=(cT _ g)▸f;cases f
 show(N (a.objs.size+1) i _ k.2.1 k.2.2.2<|x.keep S5).go _ #[(a.push f6).push<|c1 b a.objs.size,Q,s,R,S] _ ?_ V ?_ λd S7 S8 #[q,r,h,#[hd,S9],Ta,G,Tb]=>?_
 .have t:=w.todz;replace t:=M▸t;show#[t.rJ V rfl rfl (by decide:1<=3),λa d=>(show(v.under<|Code.builtin "type.__call__" #[.ref b::i,[]]).frames=v.frames from rfl).trans<|w.pa a d]
 .show{C with tocU:={C.tocU with}}
 .subst hd;obtain rfl:=Tb.is;show#[V,f _ S7 (cs.up.trans S8) #[q,r,_,S9,λD g=>Ta D<|A g,{G with tocU:={G.tocU with}},.val _]]
end
structure jQ (au:fl)(q aQ:T)(a:i):Prop where
 plain:plainGet au q a=z
 at_:sk au (.ref q) a=O (O<| .ref aQ)
 oi:sl au (.ref aQ)=O (.type "function")
 kept:keepIn au (.ref aQ)=z
section
variable {Y:bc}{I:aO}{au:fl}
def g.sm (r:R Y w af)(s:fO Y.J m)
 (t:af.isNone=z->S I #[Y.d,Y.n,Y.J,Y.X,bj m af Y.p,Y.D] b n) (u:af.isNone=aj->S I #[Y.d,Y.n,Y.J,Y.X,bj m af Y.p,Y.D] x n):g Y I (.If (.Compare (.NamedExpr (.Name m B) w M) [.Is] [.Constant .none S4 S5] S6) b x pos) n:=.mk λh f i j k=>by
 show rY<|xv (wpAny_NamedExpr<|r.go h f _ i j.todz k.tocU λw m n v l=>iA<|(k.keep v).gn (aa:={f with heap:=m,toks:=n}) s l λo p k a a a q=>?_) e;show BH<|BN<|ma ?_;mspec l.isNone;cases hd:af.isNone with
 |true=>show dq ((t hd).go h {f with heap:=o,toks:=p} i j q) (λy A d=>#[cs.up.trans d.1,d.2]) λa a I=>I|false=>show dq ((u hd).go h {f with heap:=o,toks:=p} i j q) (λy A d=>#[cs.up.trans d.1,d.2]) λa a I=>I
def fD.bN {ds}{a:i}{id:String}(b:aq Y r (.bN ds))(d:Slot "dict" a id)(e:qv (.builtin id)=pure (.type "method_descriptor")):fD Y r a id:=λa j k l m n f r g=>by
 obtain⟨a,rfl,h⟩:=b.obj f r;show gj h.mc λb f a j k=>?_;show qw a.typeIs Jo d e a.mapOf.noDict g
def bO.uZ (d:aq Y r (.bN m)):bO Y (.builtin "dict.get") [r,.str b] ((m.lookup b).getD .none):=.mk λa e i j k p f g h=>by
 show cm g.eT λi j a=>?_;show eN a λg i=>?_;show v i.dN λj a=>?_;show bw a ?_;show v (d.obj f g) λi a=>?_;show ci a λd=>?_;show gj d.mc λp f a g k=>?_;show am (aN.lookup g k b) λl n=>?_;show yb qx a.typeIs Jr (PySem.F.args_dict_get_2 _ _) (meets_dict_get (strKind Y.d.prog Y.d.w) i (o4 _ _ b j) f)<|as _ a.mapOf<|h _ e.heap _ (E.bd _) ?_;cases z:m.lookup b with
 |none=>show(l z)▸ .none|some o=>show aX (n o z) λd a b=>?_;show a▸b
def S.Kl {C:lG}(H:aS Y I M C)(J:fO Y.J m)(K:(xJ [.Subscript o r w,.Name m x] Y.J).map (·.2)=[lA (.Subscript o r w) Y.J,lA (.Name m x) Y.J])(L:uU [.Subscript o r w,.Name m x] M Y.J=pure c)
 (N:∀a h e,C a h e->(∀d∈Y.X,d∈a)->∃d f g i j,h=i++(d,.bN g)::j/\g.length<=aC/\R #[Y.d,Y.n,Y.J,a,Y.p,h] o (.val<| .ref d)/\R #[Y.d,Y.n,Y.J,a,Y.p,h] r (.str f)/\
  S I #[Y.d,Y.n,Y.J,a,bj m e Y.p,i++(d,.bN (ig g f e))::j] b S4):S I Y (.Assign [.Subscript o r w,.Name m x] M pos::b) S4:=
 S.cons (au:=λD=>∃a k p,u I #[Y.d,Y.n,Y.J,a,k,p] D/\S I #[Y.d,Y.n,Y.J,a,k,p] b S4)
  (.mk λq m s t v=>wpAny_Assign_two (H.go q m _ s t v λP F Q #[a,h,e,T,U,y,W]=>by
   obtain⟨d,f,g,i,j,rfl,X,Z,S5,A⟩:=N a h e T U;rw[assign_Subscript];show ap<|g6<|Z.go q F _ s t.todz y.tocU λr h m B S6=>ap<|g6<|S5.go q {F with heap:=h,toks:=m} _ s t.todz (y.tocU.keep B) λh S7 q G S8=>?_;obtain rfl:=S6.is;obtain⟨S9,rfl⟩:=S8.dN;have m:=(y.keep B).keep G;show am (m.D (d,.bN g)<|bA ao) λs q=>?_;show gj q.mc λr t w h x=>?_;have y:r.length=g.length:=by have:=congrArg fN h;simpa using this
   show ap<|jJ<|ap<|g6<|CD (o4 _ _ f S9) w (λh' C q=>?_)<|y▸X;show wpAny_release ?_;have r:E (l h' a) (l S7 a):=l.mS λb o n w=>q.extBut b o (λy=>n<|y▸s) w;have s:=((W.keep<|l.keep _<|B.trans G).keep r);show iA<|u.gn (Y:=#[Y.d,Y.n,Y.J,a,Y.p,i++(d,.bN (ig g f e))::j]) (u.kV (Y:=#[Y.d,Y.n,Y.J,a,Y.p,[]]) m q<| .bN t C (x4 h f P e)<|aN.x5 s f h<|x.keep r) J s λi j d d d d g=>#[Q.gH,a,_,_,g,A]) K L)
  λD d=>eW d λa k p v A=>eO #[Y.d,Y.n,Y.J,a,k,p] I V rfl rfl rfl rfl v A
def aS.yJ (X:au.In Y.d.B)(p:(x,.aG (c1 S5 S6))∈Y.D)(q:(S6,.ns S7)∈Y.D)(t:S7.lookup b=c)(d:jQ au S5 B b)
 (a:R Y o (.val<| .ref x)) (u:W Y pos (w::m) ds) (v:dX Y I (.ref B) (.val (.ref x)::ds) S8) (y:bf (w::m) Y.J=(aj,eval w Y.J)::bf m Y.J) (A:(cX pos<|bf m Y.J).any (·.1)=aj)
 (C:eval (.Call (.Attribute o b M) (w::m) [] pos) Y.J=(do
  let S4 <-eval o Y.J
  ep M.atName
  let(B,first) <-e5 [S4] (gK S4 b S9)
  dO pos B first (cX pos<|bf (w::m) Y.J) [])):aS Y I (.Call (.Attribute o b M) (w::m) [] pos) S8:=.mk λf e D g h i E=>
 jO (pl:=S9) (a.go f e _ g h.todz i.tocU λj k l F G=>by
  obtain rfl:=G.is;have a:=i.keep F;show f4 (pi (a.D _ p).2 (a.D _ q).2) λi n m B w=>?_;have p:yK (O<|j7 i n) b=O aj:=by
   show(?_:(u0 b<|j7 i n).map _=_);rw[u1];mspec w.get.2 t;rfl
  show yL (s:={e with heap:=k,toks:=l}) (a.tocU.bC X) m (k4 d.plain).1 (k4 d.plain).2 d.at_ d.oi p ?_;show C6 (a.tocU.bC X) d.kept (u.go f {e with heap:=k,toks:=l} _ g h.todz a.tocU λd i k b m=>#[(a.keep b).tocU.bC X,v.go f {e with heap:=i,toks:=k} D g (.ref x::d) h (a.keep b) (.cons (.val _) m) λj e f r=>E j e (cs.up.trans f) r]) y A) C
def aS.so (X:au.In Y.d.B)(p:(m,.aG (c1 M S4))∈Y.D)(q:(S4,.ns S5)∈Y.D)(t:S5.lookup b=c)(a:jQ au M w b)
 (d:R Y o (.val<| .ref m)) (u:dX Y I (.ref w) [.val<| .ref m] S6)
 (v:eval (.Call (.Attribute o b x) [] [] pos) Y.J=(do
  let B <-eval o Y.J
  ep x.atName
  let(w,first) <-e5 [B] (gK B b S7)
  dO pos w first (cX pos<|bf [] Y.J) [])):aS Y I (.Call (.Attribute o b x) [] [] pos) S6:=.mk λh e y i j k A=>
 jO (pl:=S7) (d.go h e _ i j.todz k.tocU λl f g C D=>by
  obtain rfl:=D.is;have d:=k.keep C;show f4 (pi (d.D _ p).2 (d.D _ q).2) λk n w B x=>?_;have p:yK (O<|j7 k n) b=O aj:=by
   show(?_:(u0 b<|j7 k n).map _=_);rw[u1];mspec x.get.2 t;rfl
  show yL (s:={e with heap:=f,toks:=g}) (d.tocU.bC X) w (k4 a.plain).1 (k4 a.plain).2 a.at_ a.oi p ?_;show C7 (s:={e with heap:=f,toks:=g}) (d.tocU.bC X) a.kept<|u.go h {e with heap:=f,toks:=g} y i [.ref m] j d (.cons (.val _) .nil) λl a b r=>A l a (cs.up.trans b) r) v
def aS.Km (X:au.In Y.d.B)(j:R Y (.Name n o) (.val<| .ref w))(k:keepIn au (.ref w)=z)(l:W Y pos (m::b) ds)(p:dX Y I (.ref w) ds x)
 (q:bf (m::b) Y.J=(aj,eval m Y.J)::bf b Y.J) (s:(cX pos<|bf b Y.J).any (·.1)=aj)
 (t:eval (.Call (.Name n o) (m::b) [] pos) Y.J=(do dO pos (<-eval (.Name n o) Y.J) [] (cX pos<|bf (m::b) Y.J) (jH pos<|jI [] Y.J))):aS Y I (.Call (.Name n o) (m::b) [] pos) x:=.mk λe f u g h a v=>
 jb (j.go e f _ g h.todz a.tocU λi y A d B=>by
  obtain rfl:=B.is;show C6 ((a.keep d).tocU.bC X) k (l.go e {f with heap:=y,toks:=A} _ g h.todz (a.keep d).tocU λj k l b m=>#[((a.keep d).keep b).tocU.bC X,p.go e {f with heap:=k,toks:=l} u g j h ((a.keep d).keep b) m λi e f r=>v i e (cs.up.trans f) r]) q s) t
def aS.C8 (X:au.In Y.d.B)(l:R Y (.Name b m) (.val<| .ref n))(o:keepIn au (.ref n)=z)(p:dX Y I (.ref n) [] w)
 (q:eval (.Call (.Name b m) [] [] pos) Y.J=(do dO pos (<-eval (.Name b m) Y.J) [] (cX pos<|bf [] Y.J) (jH pos<|jI [] Y.J))):aS Y I (.Call (.Name b m) [] [] pos) w:=.mk λe a t f g d u=>
 jb (l.go e a _ f g.todz d.tocU λh i j k v=>by
  obtain rfl:=v.is;show C7 (s:={a with heap:=i,toks:=j}) ((d.keep k).tocU.bC X) o<|p.go e {a with heap:=i,toks:=j} t f [] g (d.keep k) .nil λh a b r=>u h a (cs.up.trans b) r) q
end
inductive nf (Y:bc)(I:aO)(ce:iR)(al:aW):Prop
 |IY (a:aY) (Γ:be) (own:aD) (b:∀ac∈Y.X,ac∈a) (cC:ce Γ own) (d:u I #[Y.d,Y.n,Y.J,a,Γ,own] al):nf Y I ce al
section
variable {Y:bc}{I:aO}
def u.C9 (f:u I Y m)(h:∀b∈dA,b∈Y.X)(h0:∀b∈I.cB,b∈dA)(g:Y.J.locals∈dA/\∀d∈Y.J.cells,d.2∈dA):u I #[Y.d,Y.n,Y.J,dA++aH Y.D,Y.p,Y.D] m:=
 f.n8 (λb a=>by
  show cK a (λa=>?_) λa=>?_
  .show h b a
  .show g1 a λd e=>?_;show(f.D d e).1) (λb a=>by
  rcases iF a with rfl|⟨d,e,rfl⟩|⟨d,e,rfl⟩
  .show bI g.1
  .show bI<|g.2 d e
  .show bA<|c7 e) λb a=>bI<|h0 b a
def u.Da (a:u I #[Y.d,Y.n,Y.J,Y.X,Y.p,ng++own] b):u I #[Y.d,Y.n,Y.J,Y.X,Y.p,own] b:=
 {base:=a.base,cw:=a.cw,d8:=a.d8,kind:=a.kind,db:=a.db,ns:=a.ns,cells:=a.cells,apart:=a.apart,cn:=a.cn,ft:=a.ft,new:=a.new,sub:=a.sub
  D:=λb d=>a.D b (bA d)
  cM:=λb d=>a.cM b (bA d)
  dr:=(ii.mp a.dr).2.1}
def u.Kn (a:u I #[Y.d,Y.n,Y.J,Y.X,Y.p,own] b)(e:u I #[Y.d,Y.n,Y.J,yM,Ko,m++Kp] dQ)(g:∀d∈m,∀o,dQ.get? d.1=O o->b.get? d.1=O o)(h:E (l b Y.X) (l dQ yM))(i:∀f∈yM,f∈Y.X)
 (j:∀d∈m,∀k∈own,d.1≠k.1):u I #[Y.d,Y.n,Y.J,Y.X,Y.p,m++own] b:=
 {base:=a.base,cw:=a.cw,d8:=a.d8,kind:=a.kind,db:=a.db,ns:=a.ns,cells:=a.cells,apart:=a.apart,cn:=a.cn,ft:=a.ft,new:=a.new,sub:=a.sub
  D:=λd b=>by
   show cK b (λb=>?_) λb=>?_
   .show am (e.D d<|bI b) λf r=>?_;show#[i _ f,r.lw h<|g d b]
   .show a.D d b
  cM:=λd b=>by
   show cK b (λb=>?_) λb=>?_
   .show e.cM d<|bI b
   .show a.cM d b
  dr:=ii.mpr<|cG ((ii.mp e.dr).1) a.dr j}
def nd.eq (a:nd m b I Y (iJ Y n)):u I Y b/\a9 Y.d (l b Y.X) m n:=by
 obtain⟨_,_,_,⟨rfl,rfl,rfl⟩,_,d,r⟩:=a;show#[d,r]
inductive yN (Y:bc)(I:aO)(ce:Nat->iR)(ng:aD)(cz:T)(a:Nat->aW->Prop)(dQ:aW)(bL:Nat)(aa:aM)(s:Nat)(bR:aM):Prop
 |mk (L:Nat) (Γ:be) (own:aD) (d:cs aa bR I.bY) (e:L<=bL) (f:s=bL+1 - L) (g:a L bR.heap) (cC:ce L Γ own) (h:u I #[Y.d,Y.n,Y.J,cz::(Y.X++aH own),Γ,own] bR.heap) (au:cN Y.X dQ bR.heap)
  (d:∀ai∈own,ai.1≠cz/\ai.1∉aH ng/\(ai.1∈Y.X\/dQ.get? ai.1=c)) (e:∀b∈aH ng,∀o,dQ.get? b=O o->bR.heap.get? b=O o):yN Y I ce ng cz a dQ bL aa s bR
inductive Db (Y:bc)(I:aO)(b:iR)(ng:aD)(cz:T)(dQ d:aW)(gC:aY)(a:aW):Prop
 |mk (Γ:be) (own:aD) (cC:b Γ own) (e:u I #[Y.d,Y.n,Y.J,cz::(Y.X++aH own),Γ,own] a) (f:∀ai∈own,ai.1≠cz/\ai.1∉aH ng/\(ai.1∈Y.X\/dQ.get? ai.1=c)) (au:cN gC d a):Db Y I b ng cz dQ d gC a
def g.ms (ce:Nat->iR)(Tx:iR)(w H:aD)(Ti:Y.D=w++H)(TV:aS Y I iter (iJ Y r))(TW:∀b,r=.val (.ref b)->b∈aH w\/∃o,∀q Γ own,ce q Γ own->(b,j.aG o)∈own)(TX:cA Y target r ds)(h0:ce 0 Y.p H)(TY:∀J∈ds,qn Y.J target J)
 (TZ:∀q J P Γ own Tj,ds[q]?=O J->ce q Γ own->E Tj I.cL->(∀k∈Y.X,k∈P)->
  S (I.at Tj) #[Y.d,Y.n,Y.J,P,gp target J Γ,own] body (r0 (nf #[Y.d,Y.n,Y.J,P,[],[]] (I.at Tj)<|ce<|q+1) (nf #[Y.d,Y.n,Y.J,P,[],[]] (I.at Tj) Tx) Tz))
 (T0:∀P Γ own F,(∀k∈Y.X,k∈P)->(ce ds.length Γ own\/Tx Γ own)->u I #[Y.d,Y.n,Y.J,P,Γ,w++own] F->Tz .next F) (T1:∀S8,iC iter Y.J S8=pure S8):g Y I (.For target iter body [] pos) Tz:=.mk λQ Tk TF R P=>by
 show wpAny_For (TV.go Q Tk _ TF R P λS8 TG T2 Tl=>?_) T1;obtain⟨t,Tm⟩:∃t,TG.heap=t:=#[_,V];replace Tl:=Tm▸Tl;have K:=Tl.eq.1;have m:u I #[Y.d,Y.n,Y.J,Y.X,Y.p,H] t:=u.Da (Y:=Y) (ng:=w)<|Ti▸K;show TX.go Q TG _ TF S8 R.todz (Tm▸K.tocU) (Tm▸Tl.eq.2) λi P Tj TH TV it=>?_;rw[Tm]at it;obtain⟨T,Ty,TI,TA,T3,T4,TB,T5,T6⟩:=it;have TJ:I.cL.get? i=c:=by
  show jz (m.db i) T
 have Tn:i∉Y.X:=λd=>by
  show v (m.cw i d) λo a=>?_;show b5 T a
 have T7:i≠Y.J.locals:=λa=>Tn<|a▸m.cn.1;have T8:∀e∈Y.J.cells,i≠e.2:=λe f a=>Tn<|a▸m.cn.2 e f;have To:∀b∈aH w,b∈Y.X/\(∃o,t.get? b=O o)/\b≠Y.J.locals/\(∀e∈Y.J.cells,b≠e.2):=λb d=>by
  obtain⟨e,f,rfl⟩:=ck d;have y:e∈Y.D:=Ti▸bI f;show l6 ((K.D e y).1) ((K.D e y).2.cw) ((K.cM e y).2.1)<|(K.cM e y).2.2
 have T9:∀b∈aH w,∀e∈H,e.1≠b:=λb d e f a=>by
  obtain⟨U,y,rfl⟩:=ck d;have TK:=K.dr;rw[Ti,ii]at TK;show TK.2.2 U y e f a.symm
 have TL:∀Γ own F,(ce ds.length Γ own\/Tx Γ own)->(∀e∈own,e.1≠i/\e.1∉aH w/\(e.1∈Y.X\/t.get? e.1=c))->u I #[Y.d,Y.n,Y.J,Y.X++aH own,Γ,own] F->cN Y.X t F->(∀b∈aH w,∀o,t.get? b=O o->F.get? b=O o)->Tz .next F:=λΓ own F Ta B Tp Tq Tr=>by
  show T0 (Y.X++aH own) Γ own F (λk d=>bI d) Ta ?_;show u.Kn (Y:=#[Y.d,Y.n,Y.J,Y.X++aH own,Γ,[]]) (yM:=Y.X) (Ko:=Y.p) (Kp:=H) (dQ:=t) Tp (Ti▸K) (λe f o a=>Tr _ (c7 f) o a) (λk o a=>?_) (λk d=>bI d)<|λe f a F h=>(B a F).2.1<|h▸c7 f;have s:=l.of _ _ a;have W:k∉Y.X:=λd=>by show b5 (cT _ d) a
  show cb _ (Tq k o W s) λd=>?_;show cK d (λd=>?_) λd=>?_
  .show W d
  .obtain⟨e,f,rfl⟩:=ck d;show aw ((B e f).2.2) (λh=>?_) λh=>?_
   .show W h
   .show b5 h s
 show Kq (yN Y I ce w i TH t ds.length Tk) ?_ (ds.length+1)
  #[0,Y.p,H,T2.gH,ew _,V,TI,h0,(u.gI (Y:=#[Y.d,Y.n,Y.J,Y.X++aH H,Y.p,H]) (cz:=i) (m.C9 (dA:=Y.X) (λk d=>d) m.sub m.cn) T (TA _ _ TI) TB),TB.fM _,λe f=>cG (λa=>Tn<|a▸(m.D e f).1) (λd=>T9 _ d e f V)<| .inl (m.D e f).1,λb TM o a=>TB b o a]
 rintro F Ua ⟨q,Γ,own,TN,Ub,rfl,TO,Ta,Tp,Tq,B,Tr⟩;have Ts:i∉d5 #[Y.d,Y.n,Y.J,i::(Y.X++aH own),Γ,own]:=λd=>by
  show aw (iF d) (λa=>?_) λG=>aw G (λZ=>?_) λS4=>?_
  .show T7 a
  .show v Z λe x=>?_;show am x λf a=>?_;show T8 e f a
  .show v S4 λe x=>?_;show am x λf a=>?_;show(B e f).1 a.symm
 have Tt:∀b∈aH w,b∉d5 #[Y.d,Y.n,Y.J,i::(Y.X++aH own),Γ,own]:=λb p d=>by
  show aw (iF d) (λa=>?_) λG=>aw G (λZ=>?_) λS4=>?_
  .show(To b p).2.2.1 a
  .show v Z λe x=>?_;show am x λf a=>?_;show(To b p).2.2.2 e f a
  .show v S4 λe x=>?_;show am x λf a=>?_;show(B e f).2.1<|a▸p
 have TP:∀b∈aH w,b≠i:=λb p a=>by
  show v ((To b p).2.1) λo h=>?_;replace h:=a▸h;replace h:=T▸h;cases h
 by_cases Tb:q<ds.length
 .show(Ty Q R.handled).item q _ _ _ Tb TO λTu D Uc F Tv S5=>?_;show aX (T5 q Tu F Tb) λJ hd Ud=>?_;show T6 Q (q+1) D Tu Tv F _ _ _ V ?_;have TQ:=Tp.other ao Ts TJ (TA _ _ Tv)<|λb o n a=>S5 b o n a;have Tw:cN Y.X t D:=λb o n a=>S5 b o (λd=>by replace a:=(bW d)▸a;replace a:=T▸a;cases a)<|Tq b o n a;have TC:∀b∈aH w,∀o,t.get? b=O o->D.get? b=O o:=λb p o a=>S5 b o (λd=>TP b p<|bW d)<|Tr b p o a;show am TQ.x1 λUe TR=>?_;have Uf:a9 Y.d (l D<|i::(Y.X++aH own)) Tu J:=Ud.keep λk o a=>by
   have s:=l.of _ _ a;have W:k∉Y.X:=λd=>by show b5 (cT _ d) a
   show cb _ (Tw k o W s) λd=>?_;show aw (a4 d) (λUg=>?_) λd=>?_
   .obtain rfl:=Ug;show b5 T s
   .show cK d (λd=>?_) λd=>?_
    .show W d
    .obtain⟨e,f,rfl⟩:=ck d;show aw ((B e f).2.2) (λh=>?_) λh=>?_
     .show W h
     .show b5 h s
  show u.Cj (Y:=#[Y.d,Y.n,Y.J,i::(Y.X++aH own),Γ,own]) R.handled Ue (TY J<|ic hd) Uf λUh Ui F Uj=>?_;have TS:∀Tc F,nf #[Y.d,Y.n,Y.J,i::(Y.X++aH own),[],[]] (I.at<|cq D<|d5 #[Y.d,Y.n,Y.J,i::(Y.X++aH own),Γ,own]) F Tc->Db Y I F w i t D (d5 #[Y.d,Y.n,Y.J,i::(Y.X++aH own),Γ,own]) Tc:=by
   rintro Tc F ⟨H,Td,S6,Uk,S9,L⟩;have Te:∀e∈S6,e.1≠i/\e.1∉aH w/\(e.1∈Y.X\/t.get? e.1=c):=λe f=>by
    have C:=(L.cM e f).1;show cG (λa=>?_) (λd=>?_) ?_
    .show v (TA _ _ Tv) λo s=>?_;replace C:=a▸C;replace C:=((λo a=>cb _ a Ts) o s)▸C;cases C
    .show v ((To _ d).2.1) λo s=>?_;replace C:=((λb p o a=>cb _ a<|Tt b p) _ d o<|TC _ d o s)▸C;cases C
    .by_cases h:e.1∈d5 #[Y.d,Y.n,Y.J,i::(Y.X++aH own),Γ,own]
     .show aw (iF h) (λa=>?_) λG=>aw G (λZ=>?_) λS4=>?_
      .show .inl<|a▸m.cn.1
      .obtain⟨Tf,Tg,a⟩:=Z;show .inl<|a▸m.cn.2 Tf Tg
      .show v S4 λU x=>?_;show am x λy a=>?_;show a▸(B U y).2.2
     .cases a:t.get? e.1 with
      |none=>show .inr V|some o=>
       by_cases TT:e.1∈Y.X
       .show .inl TT
       .replace C:=(cb _ (Tw _ o TT a) h:(I.at<|cq D<|d5 #[Y.d,Y.n,Y.J,i::(Y.X++aH own),Γ,own]).cL.get? e.1=O o)▸C;cases C
   show#[Td,S6,S9,?_,Te,λb o n a=>L.db b o<|cb _ a n];have C:=(L.Ck TR).C9 (dA:=i::Y.X) (λk d=>Uk k (by
    show gh d ?_ λd=>?_
    .show ao
    .show A<|bI d)) (λk d=>A<|m.sub k d) #[A m.cn.1,λe f=>A<|m.cn.2 e f]
   show C
  have TD:∀b,b∈d5 #[Y.d,Y.n,Y.J,i::(Y.X++aH own),Γ,own]->b∈Y.X\/t.get? b=c:=λb d=>by
   show aw (iF d) (λa=>?_) λG=>aw G (λZ=>?_) λS4=>?_
   .show .inl<|a▸m.cn.1
   .show v Z λTf x=>?_;show am x λTg a=>?_;show .inl<|a▸m.cn.2 Tf Tg
   .show v S4 λU x=>?_;show am x λy a=>?_;show a▸(B U y).2.2
  have next:∀(S7:aM),cs Tk S7 I.bY->nf #[Y.d,Y.n,Y.J,i::(Y.X++aH own),[],[]] (I.at<|cq D<|d5 #[Y.d,Y.n,Y.J,i::(Y.X++aH own),Γ,own]) (ce<|q+1) S7.heap->∃d,d<ds.length+1 - q/\yN Y I ce w i TH t ds.length Tk d S7:=λS7 M S8=>by
   obtain⟨Td,S6,S9,L,Te,N⟩:=TS _ _ S8;show#[ds.length+1 - (q+1),B8 (qg Tb)<|fA q,q+1,Td,S6,M,Tb,V,?_,S9,L,λb o n a=>N b o (λd=>?_)<|Tw b o n a,Te,λb p o a=>N b o (Tt b p)<|TC b p o a]
   .show(Ty Q R.handled).frame _ _ _ Tv λb TU o a=>?_;show aw (T4 b TU) (λs=>?_) λG=>aw G (λs=>?_) λs=>?_
    .show N b o (λd=>Ts<|s▸d) a
    .show N b o (λd=>?_) a;show aw (TD b d) (λh=>?_) λh=>?_
     .show s h
     .rcases iF d with Th|⟨Tf,Tg,Th⟩|⟨U,y,Th⟩
      .show s<|Th▸m.cn.1
      .show s<|Th▸m.cn.2 Tf Tg
      .rcases(T3 b TU).2 with TE|⟨o,TE⟩
       .show(B U y).1<|Th▸TE
       .show b5 h TE
    .rcases TW b s with h|⟨t,h⟩
     .show N b o (λd=>Tt b h d) a
     .replace a:=((TQ.D _<|h q Γ own Ta).2.kk)▸a;cases a;show(L.D _<|h _ _ _ S9).2.kk
   .show aw (TD b d) (λh=>?_) λh=>?_
    .show n h
    .show b5 h a
  show dq ((TZ q J (i::(Y.X++aH own)) Γ own _ hd Ta TR<|λk d=>A<|bI d).go Q {Ua with heap:=Uh,toks:=Ui} _ R Uj) (λUl S7 Tc=>?_) λTM TM I=>I;show am Tc λM r=>?_;have M:=TN.gH.trans M;cases Ul with
  |next=>show next S7 M r|cont=>show next S7 M r|brk=>
   obtain⟨Td,S6,S9,L,Te,N⟩:=TS _ _ r;show#[M,?_];show TL Td S6 _ (.inr S9) Te ?_ (λb o n a=>N b o (λd=>?_)<|Tw b o n a)<|λb p o a=>N b o (Tt b p)<|TC b p o a
   .have:=L.n8 (X:=Y.X++aH S6) (λk d=>A d) (λk d=>?_)<|λk d=>bI<|m.sub k d
    .show this
    .rcases iF d with rfl|⟨e,f,rfl⟩|⟨e,f,rfl⟩
     .show bI m.cn.1
     .show bI<|m.cn.2 e f
     .show bA<|c7 f
   .show aw (TD b d) (λh=>?_) λh=>?_
    .show n h
    .show b5 h a
  |ret Tu=>show#[M,r]
 .obtain rfl:q=ds.length:=cZ Ub<|g8.mp Tb;show(Ty Q R.handled).done _ _ _ TO λD Uc S5=>rX #[TN.gH,?_];show TL Γ own D (.inl Ta) B ?_ (λb o n a=>S5 b o (λd=>by replace a:=(bW d)▸a;replace a:=T▸a;cases a)<|Tq b o n a)<|λb p o a=>S5 b o (λd=>TP b p<|bW d)<|Tr b p o a;show u.drop (Y:=#[Y.d,Y.n,Y.J,Y.X++aH own,Γ,own]) Tp (λk d=>?_) (λd=>?_) Ts TJ (λk d=>bI<|m.sub k d) λb o n a=>S5 b o n a
  .rcases iF d with rfl|⟨e,f,rfl⟩|⟨e,f,rfl⟩
   .show bI m.cn.1
   .show bI<|m.cn.2 e f
   .show bA<|c7 f
  .show cK d (λd=>?_) λd=>?_
   .show Tn d
   .show aX (ck d) λe f a=>?_;show(B e f).1 a
def g.qL {a:cl}{aB:Prop}(b:∀d,u I Y d->aB)(r:aB->g Y I a m):g Y I a m:=.mk λd e f h a=>(r<|b _ a).go d e f h a
def g.pk (i:Nat->be)(e:Nat->List (T×j))(y:R Y iter r)(A:∀v,r≠ .val v)(B:cA Y target r ds)(C:aL Y.p (i 0))(D:Y.D=e 0)(F:∀f∈ds,qn Y.J target f)
 (G:∀a f d k,ds[a]?=O f->E k I.cL->(∀h∈Y.X,h∈d)->S (I.at k) #[Y.d,Y.n,Y.J,d,Mine.gp target f<|i a,e a] body (r0 (u (I.at k) #[Y.d,Y.n,Y.J,d,i<|a+1,e<|a+1]) (λl=>False) bT))
 (H:∀w,iC iter Y.J w=pure w) (J:(e ds.length).map (·.1)=Y.D.map (·.1):=by rfl):g Y I (.For target iter body [] pos) (c0 (u I #[Y.d,Y.n,Y.J,Y.X,i ds.length,e ds.length]) bT):=
 g.qL (aB:=(∀h∈d5 Y,h∈Y.X)/\∀h∈I.cB,h∈Y.X) (λm n=>#[n.hB,n.sub]) λx=>by
 show g.ms (ce:=λa Γ own=>aL Γ (i a)/\own=e a) (λl l=>False) [] Y.D V (aS.of y) (λb m=>absurd m<|A _) B #[C,D] F ?_ ?_ H
 .intro a f d Γ own k hd w;show kJ w λp=>?_;intro w q;mexact S.dV (Y:=#[Y.d,Y.n,Y.J,d,Mine.gp target f Γ,e a]) (p.gp target f)<|(G a f d k hd w q).dP λs m o=>?_;cases s with
  |next=>show#[d,_,_,λl t=>t,#[aL.bd _,V],o]|cont=>show#[d,_,_,λl t=>t,#[aL.bd _,V],o]|brk=>show o.elim|ret v=>show o
 .rintro d Γ own m q (⟨p,rfl⟩|s) n
  .show u.n8 (Y:=#[Y.d,Y.n,Y.J,d,i ds.length,e ds.length]) (X:=Y.X) (u.ef (Y:=#[Y.d,Y.n,Y.J,d,Γ,e ds.length]) n p) q ?_ x.2;show(?_:∀h∈Y.J.locals::(Y.J.cells.map (·.2)++(e ds.length).map (·.1)),h∈Y.X);mspec J;show x.1
  .show s.elim
end
def av.Kr {d:bc}{a b:Int}:av d .NotEq (.int a) (.int b) (decide (a≠b)):=by
 have:=av.kN (Y:=d) (ac:=a) (b:=b);rwa[show(a !=b)=decide (a≠b) by show(?_:(!(a==b))=decide (¬a=b));mspec decide_not;rfl]at this
noncomputable def gL (a:h):h:=((el 0 a.length).filter λs=>decide (a.getD s.toNat 0≠0)||decide (ff a (O<|s - 1) (O s) c≠[0])).map λs=>a.getD s.toNat 0
section
variable {U:aV}
def sp (d:aR U):ez U 213 (bi 213<|a U) ["row"] (cf 213<|a U):=
 d.fn V rfl H V rfl (kX λf=>by room)
  (λd b=>by
   rcases a4 b with rfl|b
   .show .inr #[V,λd=>H]
   .cases b) (by decide) (by decide:(["row"]:ak).Nodup) e e V
def Ks {d b a:Int}(e:a∈el d b):d<=a/\a<b:=by
 simp only[el,iw,iW]at e;obtain⟨a,d,rfl⟩:=e;lia
def Dc {b:h}{a:Int}(i:a∈el 0 b.length):∃d:Nat,a=d/\d<b.length/\(b.map j.int)[d]?=O (j.int<|b.getD a.toNat 0):=by
 show am (Ks i) λe g=>?_;show fo a.toNat (gr (bh [a,↑a.toNat] [.C f aA] 0 f aA H (kl a:))<|bh [↑a.toNat,a] [.C f aA] 0 f aA H (c2 (gx<|bh [a] [.C (.n 0) f] 0 (.n 0) f H e):)) (dH.mp<|bh [↑a.toNat,↑b.length,a] [.aK d7 aA,.C f d7] 0 (.Q f) aA H g (c2 (gx<|bh [a] [.C (.n 0) f] 0 (.n 0) f H e):)) ?_;simp[(show a.toNat<b.length from by show dH.mp<|bh [↑a.toNat,↑b.length,a] [.aK d7 aA,.C f d7] 0 (.Q f) aA H g (c2 (gx<|bh [a] [.C (.n 0) f] 0 (.n 0) f H e):))]
def Kt (v:aR U)(n:Nat)(x:T)(X:aY)(w:aO)(g:h)(p:g.length<=1000):
 S w #[U,n,bU (bi 213<|a U) x 213,X,[("row",.list (g.map .int))],[]] (cf 213<|a U) (kW U w<| .list<|(gL g).map .int):=by
 mexact S.ret (R.of_eq (R.iE (ds:=el 0 g.length) (dD:=j.int) (cO:=λd=>[("k",.int d)]) [("row",.list (g.map .int))]
  (λd=>decide (g.getD d.toNat 0≠0)||decide (ff g (O<|d - 1) (O d) c≠[0])) (λd=>.int<|g.getD d.toNat 0) V (k H) V (k H) (r:=.iz 0 g.length 1) ?_ (cA.rT (by show f3 _) (by show f3 _) (by show f3 _)<|bh [↑g.length] [.C f<| .n 1000] 0 (.Q f) (.n 4611686018427387904) H (dH.mpr p:)) ?_ (λw i=>.name _ _ _) (hh V)
  (gv (bl 0 V) V (.inl V) (.inl V) f8) (λw Z d s=>?_) (λw Z d s i=>?_) (λi=>rfl) (λi i i i=>e)) (by rw[gL];mspec d2;rfl))
 .show R.mX (ds:=[.int g.length]) (v.eX V rfl (by room) (k H) V rfl rfl (k H)) (W.cons ?_ W.nil V) bO.uC V e V;show R.of_eq (R.jG (ds:=[_]) (v.eX V rfl (by room) (k H) V rfl rfl (k H)) (W.cons (R.K 0 V) W.nil V) (bO.len aq.list (by rw[a6];show gu)) V e V) (by rw[a6])
 .simp only[el,a6,jP];unfold aC;show b0
 .show bB λt l=>?_;show g3 (Dc s) λy m u o=>?_;show l ?_;clear l t;show aZ.or (b:=decide (g.getD d.toNat 0≠0)) (q:=decide (ff g (O<|d - 1) (O d) c≠[0])) (aZ.bK (R.item (L:=.int d) (af:=.int<|g.getD d.toNat 0) (R.K 1 V) (R.K 0 V) ?_) R.bJ av.Kr e)<|λi=>?_
  .mspec m;rw[m]at o;show b6.list aq.list o<|dG (a5 u p) H
  .show aZ.bK (R.jD (R.K 1 V) aq.list (R.sub (R.K 0 V) R.bJ) (R.K 0 V) V (.int _) (.int _) .none (k H) (by rw[a6];unfold aC;show b0)) (R.list (W.cons R.bJ W.nil V)<|dt H) ?_ e;rw[kY];show av.r6 (iI:=[0]) aq.list aq.list
 .show bB λt l=>?_;show g3 (Dc s) λy m u o=>?_;show l ?_;clear l t;show R.item (L:=.int d) (R.K 1 V) (R.K 0 V) ?_;mspec m;rw[m]at o;show b6.list aq.list o<|dG (a5 u p) H
def Dd (b:aR U){n:Nat}{env:b1}{X:aY}{Γ:be}{own:List (T×j)}(a:h)(d:a.length<=1000):bO #[U,n+1,env,X,Γ,own] (.ref 213) [.list<|a.map .int] (.list<|(gL a).map .int):=
 (sp b).m7 V (λe f g=>Kt b n e f g a d)
noncomputable def ji {a:Type}(ag:List (Int×a))(s:Int)(an:a):List (Int×a):=if ag.any (λa=>a.1=s)then ag.map (λa=>if a.1=s then(a.1,an)else a)else ag++[(s,an)]
noncomputable def cR {a b:Type}(aQ:a->b)(ag:List (Int×a)):List (Int×b):=ag.map λa=>(a.1,aQ a.2)
def De {d:Type}(e:d->j)(f:List (Int×d))(b:Int)(g:d):ig (cR e f) b (e g)=cR e (ji f b g):=by
 unfold ig ji cR;mspec x3;mspec show((λg:Int×j=>decide (g.1=b))∘λa:Int×d=>(a.1,e a.2))=λa=>decide (a.1=b)from rfl
 cases f.any λa=>decide (a.1=b)with
 |true=>
  simp only[if_true,d2];congr 1;funext a;simp only[pm];split<;>rfl
 |false=>simp
def Df {d g:Type}(e:d->g)(a:List (Int×d))(b:Int):(cR e a).lookup b=(a.lookup b).map e:=by
 induction a with
 |nil=>rfl|cons h a f=>
  unfold cR at f ⊢;mspec b7;mspec fB;mspec fB;cases b==h.1 with
  |true=>rfl|false=>show f
def Dg {a:Type}(b:List (Int×a))(d:Int)(e:a):(ji b d e).length<=b.length+1:=by
 unfold ji;split
 .rw[a6];simp+arith
 .mspec dE;simp
abbrev b4:=List<|Int×h
noncomputable abbrev bn (ag:h):j:=.list<|ag.map .int
noncomputable def jj (a8:b4)(r:bF):b4:=r.foldl (λa8 ai=>ji a8 ai.1<|(a8.lookup ai.1).getD []) a8
noncomputable def om (a8:b4)(r:bF):b4:=ji (jj a8 r) (r.head?.map (·.1) |>.getD 0) (gL (r.tail.map (·.1)))
noncomputable def bk (a:List bF):b4:=a.foldl om []
def yO (r:bF):∀a:b4,(jj a r).length<=a.length+r.length:=by
 unfold jj
 induction r with
 |nil=>intro a;simp|cons b r d=>
  intro a;mspec hV;show a5 (d _) ?_;show eA▸bb [.C G<| .Q t] 0 (.y G N) (.y t<| .Q N) H (Dg a b.1<|(a.lookup b.1).getD [])
def Ku (r:bF)(a:b4)(b:r.length<=10):(om a r).length<=a.length+11:=by
 unfold om;have d:=Dg (jj a r) (r.head?.map (·.1) |>.getD 0) (gL (r.tail.map (·.1)));show c5 [.C t<| .n 10,.C G<| .Q aU,.C aU<| .y N t] 0 G (.y N<| .n 11) H b d<|yO r a
theorem Dh:∀(b:List bF)(a:b4),(∀r∈b,r.length<=10)->(b.foldl om a).length<=a.length+11*b.length
 |[],a,_=>by simp|r::b,a,d=>by
  mspec hV;mspec eA;show c5 [.C G<| .y aU<| .cS 11 t,.C aU<| .y N<| .n 11] 0 G (.y N<| .cS 11<| .Q t) H (Dh b (om a r) λe f=>d e<|A f)<|Ku r a<|d r ao
def nh {d:Type}{a:List d}{b:Nat}{e:d}(f:a[b]?=O e):a.take (b+1)=a.take b++[e]:=by
 mspec qi;mspec f;rfl
def yP (b:aR U):ez U 218 (bi 218<|a U) ["rules"] (cf 218<|a U):=
 b.fn V rfl H V rfl (kX λd=>by room)
  (fh V he) (k H) (by decide:([]:ak).Nodup) e e V
def aR.Di (a:aR U):∃b o,@m5 Nat _ i8 b/\U.B.get? b=O o:=iy 262 _ (by decide)<|a.bC 262 _ V
def Kv (a:b4)(r:bF)(b:Int×Int):jj a (r++[b])=ji (jj a r) b.1 (((jj a r).lookup b.1).getD []):=by
 unfold jj;mspec iX;rfl
def Kw (a:List bF)(r:bF):bk (a++[r])=om (bk a) r:=by
 unfold bk;mspec iX;rfl
noncomputable abbrev Dj:=λ(U:aV) (ca:T)=>(bU (bi 218<|a U) ca 218:b1)
def Kx (m:aR U)(n:Nat)(A:T)(X:aY)(B:aO)(d:List bF)(D:∀r∈d,r≠[]/\r.length<=10)(J:d.length<=10):
 S B #[U,n+1,Dj U A,X,[("rules",.list (d.map em))],[]] (cf 218<|a U) (kW U B<| .dict<|cR bn<|bk d):=by
 have K:∀h,(bk<|d.take h).length<=200:=λh=>by
  have:=Dh (d.take h) [] λr B=>(D r<|sq B).2;unfold bk;rw[g9]at this;simp only[yQ]at this;show bb [#[11,N,.n 10],.C G<| .y (.n 0)<| .cS 11 t,#[11,t,N]] 0 G (.n 200) H J this<|ml h d.length
 mexact S.I2 (.inl V) m.Di λj B M=>?_;mexact S.bq (g.pk (Y:=#[U,n+1,Dj U A,j::X,bj "uses" (.val<| .ref j) [("rules",.list (d.map em))],[(j,.dict [])]]) (λh=>[("uses",.val (.ref j))]) (λh=>[(j,.dict (cR bn<|bk<|d.take h))]) (r:=.list<|d.map em) (ds:=d.map em) (R.K 1 V) (λo v=>by cases v)
  (cA.list (.inl<|dM _ _ V) aq.list) (aL.cH [0] rfl) V (λp b=>.name<| .inl V) ?_ (λb=>rfl)) ?_
 .intro h p A B hd J S4;rw[e6,f2]at hd;obtain⟨r,E,rfl⟩:=hd;have w:=D r<|ic E;have F:=K h;mspec nh E;rw[Kw];generalize A:bk (d.take h)=u at*;mexact S.bq (g.pk (λl=>[("uses",.val (.ref j)),("rule",em r)]) (λl=>[(j,.dict (cR bn<|jj u<|r.take l))]) (r:=em r) (ds:=r.map iV) (R.K 0 V) (λo v=>by cases v)
   (cA.list (.inr #[_,_,_,V]) aq.list) (aL.cH [1,0] rfl) V (λp hd=>?_) ?_ (λb=>rfl)) ?_
  .show g1 hd λf b=>?_;show .n4 (.inl V)<| .inl V
  .intro l p h j I v A;rw[e6,f2]at I;obtain⟨f,P,rfl⟩:=I;mspec nh P;rw[Kv];have q:=yO (r.take l) u;have x:(r.take l).length<=10:=by mspec g9;show a5 (ml l<|fN r) w.2
   generalize h:jj u (r.take l)=o at*;mexact S.bq (g.yd (bD:=[]) (b3:=[]) (bE:=cR bn o) (s:=f.1) (af:=bn<|(o.lookup f.1).getD []) ?_ (R.K 1 V) (bl 2 V) (k H) (k H) V ?_ V) ?_
   .show R.of_eq (R.jf (ds:=[.int f.1,.list []]) (R.K 2 V) (fD.dict (aq.D ao) qx u2) (W.cons (R.K 1 V) (W.cons (R.list W.nil<|dt H) W.nil V) V) (bO.Jq<|aq.D ao) V e V) ?_;rw[Df];cases o.lookup f.1<;>rfl
   .simp only[cR,a6];unfold aC;show bb [.C N<| .n 200,.C t<| .n 10,.C G<| .y N t] 0 G (.n<|2^24) H F x q
   .mexact S.qB (aL.cH [2,3] rfl) ?_;rw[De];rfl
  .mspec(by rw[a6];show aI iU V:r.take (r.map iV).length=r);have q:=yO r u;obtain⟨f,i,rfl⟩:∃f i,r=f::i:=by
    cases r with
    |nil=>show absurd V w.1|cons f i=>show dM f i V
   have x:i.length<=10:=by have:=w.2;rw[eA]at this;show iD ‹_›
   mexact S.bq (g.yd (bD:=[]) (b3:=[]) (bE:=cR bn<|jj u<|f::i) (s:=f.1) (af:=bn (gL (i.map (·.1)))) ?_ ?_ (bl 0 V) (k H) (k H) V ?_ V) ?_
   .show R.g5 (ds:=[.list ((i.map (·.1)).map .int)]) (m.eU V (by room) V rfl (k H)) (sp m).at_.choose_spec.1 (sp m).at_.choose_spec.2 (W.cons ?_ W.nil V) (Dd m _ (by rw[a6];show b0)) V e V;show R.of_eq (R.iE (ds:=i) (dD:=iV) (cO:=λh=>[("x",.int h.1),("dress",.int h.2)]) [] (λb=>z) (λh=>.int h.1) V (k H) V (k H) (r:=.list<|i.map iV) ?_ (cA.list (.inr #[_,_,_,V]) aq.list) ?_ (λp b=>.n4<|k H) (uH V rfl) f8 (λb b b b=>rfl) (λi Z h b b=>by show R.K 0 V) (λb=>rfl)<|λb b b b=>e) ?_
    .show R.of_eq (R.jD (R.K 1 V) aq.list R.bJ V rfl (.int _) .none .none (k H) ?_) ?_
     .rw[a6];mspec eA;unfold aC;show gu
     .rw[kY,CM];rfl
    .unfold aC;show b0
    .rw[jg];mspec d2;rfl
   .show R.item (L:=.int 0) (r:=.list [.int f.1,.int f.2]) (R.item (L:=.int 0) (R.K 1 V) R.bJ<|b6.list (cC:=0) aq.list V<|by simp+arith) R.bJ (b6.list (cC:=0) aq.list V<|by simp+arith)
   .simp only[cR,a6];rw[eA]at q;unfold aC;show bb [.C N<| .n 200,.C G<| .y N<| .Q t,.C t<| .n 10] 0 G (.n<|2^24) H F q x
   .mexact S.qB (aL.cH [0] rfl) ?_;rw[De];rfl
 .mspec(by rw[a6];show aI iU V:d.take (d.map em).length=d);show S.I5 (bl 0 V) ao M (k H)<|k H
def Ky (b:aR U){n:Nat}{env:b1}{X:aY}{Γ:be}{own:List (T×j)}(a:List bF)(d:∀r∈a,r≠[]/\r.length<=10)(e:a.length<=10):bO #[U,n+2,env,X,Γ,own] (.ref 218) [.list<|a.map em] (.dict<|cR bn<|bk a):=
 (yP b).m7 V (λf g h=>Kx b n f g h a d e)
end
abbrev bS:=Option i
noncomputable abbrev on:bS->j
 |none=>.none|some aa=>.str aa
noncomputable def iY:bS->Nat
 |none=>0|some aa=>aa.length
noncomputable def hF (a:ak):i:=a.getLast?.getD ""
noncomputable def hG (a:ak):bS->ak
 |none=>a++[("":i)]|some aa=>a.take (a.length - 1)++[hF a++aa]
noncomputable def km (a:List bS):ak:=a.foldl hG [""]
noncomputable def eQ (a:ak):Nat:=(a.map (·.length)).sum
def lH (a b:i):(a++b).length=a.length+b.length:=by
 show(?_:(a.cps++b.cps).size=a.cps.size+b.cps.size);simp
noncomputable def jk (a:i):i:="(?>.*?"++a++")"
def Dk (a:i):(jk a).length=a.length+7:=by
 have a:(("(?>.*?":i)).length=6:=by decide
 have b:((")":i)).length=1:=by decide
 unfold jk;rw[lH,lH];show cZ (bb [.C G<| .n 6,.C t<| .n 1] 0 (.y (.y G N) t) (.y N<| .n 7) H (ay a)<|ay b)<|bb [.C (.n 6) N,.C (.n 1) t] 0 (.y G<| .n 7) (.y (.y N G) t) H (ay (a).symm)<|ay (b).symm
noncomputable def sr (a:ak):i:=dC ""<|((a.drop 1).take<|a.length - 2).map jk
noncomputable def ni (b:List bS):i:=
 let a:=km b
 "(?s:"++a.headD ""++sr a++(if 1<a.length then ".*"++hF a else "")++")\\Z"
def Kz (a:List bS):∀b:ak,b≠[]->a.foldl hG b≠[]:=by
 induction a with
 |nil=>show λg d=>d|cons e a f=>show λb d=>f _ (by cases e<;>simp[hG])
def yR (a:ak)(b:a≠[]):a=a.take (a.length - 1)++[hF a]/\a.getLast?=O (hF a):=by
 have d:a.getLast?=O (a.getLast b):=KA b;have e:hF a=a.getLast b:=by unfold hF;mspec d;rfl
 show#[?_,by mspec d;show aI e V];mspec e;show ch KC ?_;show(List.dropLast_concat_getLast b).symm
def qM (a b:ak):eQ (a++b)=eQ a+eQ b:=by unfold eQ;simp
def KD (a:ak)(b:bS)(d:a≠[]):eQ (hG a b)=eQ a+iY b:=by
 cases b with
 |none=>rw[hG,qM];rfl|some b=>
  conv=>rhs;rw[(yR a d).1]
  rw[hG,qM,qM];simp only[eQ,b7,m9,hW,List.sum_nil,lH,iY];show cZ (bb [] 0 (.y G<| .y (.y N t)<| .n 0) (.y (.y G<| .y N<| .n 0) t) H)<|bb [] 0 (.y (.y G<| .y N<| .n 0) t) (.y G<| .y (.y N t)<| .n 0) H
def KE (b:List bS):∀a:ak,a≠[]->eQ (b.foldl hG a)=eQ a+(b.map iY).sum:=by
 induction b with
 |nil=>intro a _;simp|cons d b e=>
  intro a f;mspec hV;mspec e _ (by cases d<;>simp[hG]);mspec KD _ _ f;mspec b7;mspec hW;simp+arith
def KG (b:List bS):∀a:ak,a≠[]->(b.foldl hG a).length<=a.length+b.length:=by
 induction b with
 |nil=>intro a _;simp|cons d b e=>
  intro a f;mspec hV;show a5 (e _ (by cases d<;>simp[hG])) ?_;have b:0<a.length:=jl.mpr f;cases d with
  |none=>simp[hG];simp+arith|some a=>simp[hG];simp+arith
def u3 (a:r∈b):r.length<=eQ b:=by
 unfold eQ
 induction b with
 |nil=>cases a
 |cons b f d=>
  mspec b7;mspec hW;show aw (a4 a) (λe=>?_) λa=>?_
  .obtain rfl:=e;simp+arith
  .have:=d a;show bb [.C G t] 0 G (.y N t) H this
section
variable {U:aV}
def yS (b:aR U):ez U 238 (bi 238<|a U) ["parts"] (cf 238<|a U):=
 b.fn V rfl H V rfl (kX λd=>by room)
  (fh V he) (k H) (by decide:([]:ak).Nodup) e e V
def KH (S7:aR U)(n:Nat)(S8:T)(X:aY)(K:aO)(d:List bS)(S9:(d.map iY).sum<=100000)(Ta:d.length<=1000):
 S K #[U,n+1,bU (bi 238<|a U) S8 238,X,[("parts",.list (d.map on))],[]] (cf 238<|a U) (kW U K<| .str<|ni d):=by
 have M:∀f,km (d.take f)≠[]/\(km<|d.take f).length<=1001/\eQ (km<|d.take f)<=100000:=λf=>by
  show cG (Kz _ _<|by simp) ?_ ?_
  .have:=KG (d.take f) [("":i)] (by simp);unfold km;rw[g9]at this;simp only[gw]at this;show bb [.C N<| .n 1000,.C G<| .y (.n 1) t,.C t N] 0 G (.n 1001) H Ta this<|ml f d.length
  .have v:((d.take f).map iY).sum<=(d.map iY).sum:=by
    conv=>rhs;rw[<-p7 f d]
    mspec eV;mspec KI;simp+arith
   unfold km;mspec KE (d.take f) [("":i)] (by simp);show bb [.C t<| .n 100000,.C N t,.C G<| .n 0] 0 (.y G N) (.n 100000) H S9 v (ay (by decide:eQ [("":i)]=0))
 mexact S.bq (g.assign (af:=.list [.str ""]) (R.list (W.cons R.cy W.nil V)<|dt H) (.inl V) V) ?_;mexact S.bq (g.pk (λf=>[("runs",.list ((km<|d.take f).map .str))]) (λl=>[]) (r:=.list<|d.map on) (ds:=d.map on) (R.K 1 V) (λK h=>by cases h)
  (cA.list (.inl<|dM _ _ V) aq.list) (aL.cons yi aL.nil) V (λP l=>.name<| .inl V) ?_ (λl=>rfl)) ?_
 .intro f P K Q hd S8 S9;rw[e6,f2]at hd;obtain⟨o,Y,rfl⟩:=hd;show bB λF x=>?_;show cd (M f) λA w u=>?_;show x ?_;clear x F;mspec nh Y;mspec(by unfold km;rw[iX];rfl:km (d.take f++[o])=hG (km<|d.take f) o);have Tb:iY o<=100000:=by
   have:iY o∈d.map iY:=dI<|ic Y;have v:∀(m:bP)(p:Nat),p∈m->p<=m.sum:=by
    intro m;induction m with
    |nil=>intro p h;cases h
    |cons b m I=>
     intro p h;mspec hW;show aw (a4 h) (λTc=>?_) λh=>?_
     .obtain rfl:=Tc;simp+arith
     .have:=I p h;show bb [.C G t] 0 G (.y N t) H this
   have:=v _ _ this;show a5 ‹_› ‹_›
  generalize km (d.take f)=runs at*;mexact S.bq (g.assign (af:=.list<|(hG runs o).map .str) (R.kO (b:=o.isNone) (aZ.bK (ac:=on o) (R.K 0 V) R.gF ?_ e) (λh=>?_)<|λh=>?_) (.inl V) V) ?_
  .cases o with
   |none=>show av.oZ|some D=>show av.oZ
  .cases o with
   |some D=>cases h
   |none=>
    show R.of_eq (R.o5 (ac:=runs.map .str) (b:=[.str ""]) (R.K 1 V) (R.list (W.cons R.cy W.nil V)<|dt H) aq.list aq.list ?_) ?_
    .rw[a6,gw];unfold aC;show gu
    .simp[hG]
  .cases o with
   |none=>cases h
   |some D=>
    show am (yR runs A) λTd B=>?_;show R.of_eq (R.o5 (ac:=(runs.take<|runs.length - 1).map .str) (b:=[.str<|hF runs++D]) (R.of_eq (R.jD (ds:=runs.map .str) (R.K 1 V) aq.list V R.kQ V .none (.int _) .none (k H) ?_) ?_)
     (R.list (W.cons (R.jC (R.item (L:=.int<| -1) (af:=.str<|hF runs) (R.K 1 V) R.kQ<|b6.ek (ds:=runs.map .str) aq.list ?_) (R.K 0 V) ?_) W.nil V)<|dt H) aq.list aq.list ?_) ?_
    .rw[a6];unfold aC;show b0
    .rw[kY,Jx]
    .mspec ss;mspec B;rfl
    .unfold aC;show bb [.C t<| .n 100000,.C G t,.C N<| .n 100000] 0 (.y G N) (.n<|2^24) H u (u3<|u4 B) (Tb:D.length<=100000)
    .rw[a6,g9,gw];unfold aC;show p5 (a5 (ml (runs.length - 1) runs.length) w) H
    .simp[hG]
  .show S.qB (aL.cH [0] rfl) V
 .mspec(by rw[a6,iU]:d.take (d.map on).length=d);show bB λF x=>?_;show cd (M d.length) λA w u=>?_;show x ?_;clear x F;rw[iU]at A w u;unfold ni;generalize km d=runs at*
  try dsimp only
  have Te:(((((runs.drop 1).take<|runs.length - 2).map jk).map (·.length)).sum<=100000+7*1001):=by
   have Tf:∀m:ak,((m.map jk).map (·.length)).sum=eQ m+7*m.length:=by
    intro m
    induction m with
    |nil=>rfl|cons p m I=>
     rw[b7,b7,hW,I];simp only[eQ,b7,hW,Dk,eA];simp+arith
   rw[Tf];have Q:eQ ((runs.drop 1).take<|runs.length - 2)<=eQ runs:=by
    conv=>rhs;rw[<-p7 1 runs]
    rw[qM];show c5 [.C (.y G aU) t] 0 G (.y N t) H (ay ((by rw[<-qM,p7]:eQ (runs.drop 1)=eQ ((runs.drop 1).take<|runs.length - 2)+eQ ((runs.drop 1).drop<|runs.length - 2))).symm)
   have v:((runs.drop 1).take<|runs.length - 2).length<=1001:=by mspec g9;mspec k6;show a5 (a5 (oo (runs.length - 2)<|runs.length - 1)<|fE runs.length 2) w
   show bb [.C t<| .n 100000,.C G t,#[7,N,.n 1001]] 0 (.y G<| .cS 7 N) (.y (.n 100000)<| .cS 7<| .n 1001) H u Q v
  mexact S.bq (g.assign (af:=.str<|sr runs) ?_ (.inl V) V) ?_
  .show R.jf (ds:=[_]) R.cy (fD.str su sv) (W.cons (R.of_eq (R.iE (ds:=(runs.drop 1).take<|runs.length - 2) (dD:=j.str) (cO:=λd=>[("run",.str d)]) [] (λl=>z) (λd=>.str<|jk d) V (k H) V (k H) (r:=.list<|((runs.drop 1).take<|runs.length - 2).map .str) ?_ (cA.list (.inl<|dM _ _ V) aq.list) ?_ (λP l=>.name _ _ _) (hh V) f8 (λl l l l=>rfl) (λf Z r d l=>?_) (λl=>rfl)<|λl l l l=>e) ?_) W.nil V)
    (bO.r4 (j9:=((runs.drop 1).take<|runs.length - 2).map jk) aq.list ?_) V e V
   .show R.of_eq (R.jD (ds:=runs.map .str) (R.K 0 V) aq.list R.bJ R.kQ V (.int _) (.int _) .none (k H) ?_) ?_
    .rw[a6];unfold aC;show b0
    .rw[kY,Jy]
   .mspec g9;mspec k6;unfold aC;show dG (a5 (a5 (oo (runs.length - 2)<|runs.length - 1)<|fE runs.length 2) w) H
   .have:=(λr f=>a5 (u3<|Dl<|sq f) u) r d;show R.jC (R.jC R.cy (R.K 0 V) ?_) R.cy ?_
    .unfold aC;show b9 [.C N<| .n 100000,.C G<| .n 6] 0 (.y G N) (.n<|2^24) H this (ay (by decide:(("(?>.*?":i)).length=6))
    .rw[lH];unfold aC;show bb [.C N<| .n 100000,.C G<| .n 6,.C t<| .n 1] 0 (.y (.y G N) t) (.n<|2^24) H this (ay (by decide:(("(?>.*?":i)).length=6)) (ay (by decide:((")":i)).length=1))
   .rw[jg,d2];rfl
   .have v:((runs.drop 1).take<|runs.length - 2).length<=1001:=by rw[g9,k6];show a5 (a5 (oo (runs.length - 2)<|runs.length - 1)<|fE runs.length 2) w
    rw[(by decide:(("":i)).length=0)];show b0
  have J:(sr runs).length<=100000+7*1001:=by
   unfold sr dC;rw[size_glued];rw[(by decide:(("":i)).length=0),yT];show dK [.C G<| .y (.n 100000)<| .cS 7<| .n 1001] 0 (.y G<| .n 0) (.y (.n 100000)<| .cS 7<| .n 1001) H Te
  obtain⟨q,s,rfl⟩:∃p b,runs=p::b:=by
   cases runs with
   |nil=>show absurd V A|cons p b=>show dM p b V
  have h0:q.length<=100000:=a5 (u3 ao) u;show am (yR (q::s) A) λTd B=>?_;have S4:(hF<|q::s).length<=100000:=a5 (u3<|u4 B) u;have E:(("(?s:":i)).length=4:=by decide
  have S5:((".*":i)).length=2:=by decide
  have d:(("":i)).length=0:=by decide
  have S6:(if 1<(q::s).length then ".*"++hF (q::s)else("":i)).length<=100002:=by
   split
   .rw[lH];show b9 [.C N<| .n 100000,.C G<| .n 2] 0 (.y G N) (.n 100002) H S4<|ay S5
   .show ew _
  mexact S.ret (R.jC (R.jC (R.jC (R.jC R.cy (R.item (L:=.int 0) (R.K 1 V) R.bJ<|b6.list (cC:=0) (ds:=(q::s).map .str) aq.list V<|by simp+arith) ?_) (R.K 0 V) ?_) ?_ ?_) R.cy ?_)
  .unfold aC;show b9 [.C N<| .n 100000,.C G<| .n 4] 0 (.y G N) (.n<|2^24) H h0<|ay E
  .rw[lH];unfold aC;show bb [.C t<| .y (.n 100000)<| .cS 7<| .n 1001,.C N<| .n 100000,.C G<| .n 4] 0 (.y (.y G N) t) (.n<|2^24) H J h0<|ay E
  .show R.kO (b:=decide (1<((q::s).length:Int))) (aZ.bK (R.of_eq (R.jG (ds:=[_]) (S7.eX V rfl (by room) (k H) V rfl rfl (k H)) (W.cons (R.K 1 V) W.nil V) (bO.len (ds:=(q::s).map .str) aq.list (by rw[a6];show gu)) V e V)<|by rw[a6]) R.bJ av.It e) (λh=>?_)<|λh=>?_
   .show R.of_eq (R.jC R.cy (R.item (L:=.int<| -1) (af:=.str<|hF<|q::s) (R.K 1 V) R.kQ<|b6.ek (ds:=(q::s).map .str) aq.list (by rw[ss,B];rfl)) ?_) ?_
    .unfold aC;show b9 [.C N<| .n 100000,.C G<| .n 2] 0 (.y G N) (.n<|2^24) H S4<|ay S5
    .rw[if_pos (by have:=k h;show ej.mp ‹_›)]
   .show R.of_eq R.cy ?_;rw[if_neg (by have:=of_decide_eq_false h;show λd=>oS [.C G<| .n 1,.aK (.n 1) G] H (dH.mp<|oT.mp<|of_decide_eq_false h) d)]
  .rw[lH,lH];unfold aC;show c5 [.C t<| .y (.n 100000)<| .cS 7<| .n 1001,.C N<| .n 100000,.C G<| .n 4,.C aU<| .n 100002] 0 (.y (.y (.y G N) t) aU) (.n<|2^24) H J h0 (ay E) S6
  .rw[lH,lH,lH];unfold aC;show jA [.C t<| .y (.n 100000)<| .cS 7<| .n 1001,.C N<| .n 100000,.C G<| .n 4,.C dx<| .n 3,.C aU<| .n 100002] 0 (.y (.y (.y (.y G N) t) aU) dx) (.n<|2^24) H J h0 (ay E) (ay (by decide:((")\\Z":i)).length=3)) S6
def KJ (b:aR U)(a:List bS)(d:(a.map iY).sum<=100000)(e:a.length<=1000):bO #[U,n+2,env,X,Γ,own] (.ref 238) [.list<|a.map on] (.str<|ni a):=
 (yS b).m7 V (λf g h=>KH b n f g h a d e)
end
noncomputable abbrev c3 (a:j):bS->j
 |none=>a|some aa=>.str aa
inductive nj:j->Prop
 |none:nj .none|obj (o):nj (.val<| .ref o)
def u5 {a:j}(d:nj a)(b:bS):pf (c3 a b) a b.isNone:=by
 cases b with
 |none=>cases d with
  |none=>show .none|obj o=>show .obj o
 |some e=>cases d with
  |none=>show .yv e|obj o=>show .yw e o
noncomputable def lI (a:List bS)(s:Nat):Bool:=match a[s]? with
 |O (O _)=>z|_=>aj
noncomputable def cW (ag:List bS):ak:=(ag.takeWhile (·.isSome)).map (·.getD "")
noncomputable def gy (ag:List bS):List bS:=ag.dropWhile (·.isSome)
noncomputable def lJ:Nat->List bS->ak
 |0,_=>[]|_+1,[]=>[]|s+1,_::ag=>if ag=[]then[".*"]else if gy ag=[]then[".*",dC ""<|cW ag]else jk (dC ""<|cW ag)::lJ s (gy ag)
def sw {b:Nat}{d:bS}{a:List bS}:lJ (b+1) (d::a)=(if a=[]then[".*"]else if gy a=[]then[".*",dC ""<|cW a]else jk (dC ""<|cW a)::lJ b (gy a):ak):=rfl
def Dm (a:Nat):lJ a []=[]:=by cases a<;>rfl
noncomputable def jR (a:List bS):ak:=cW a++lJ a.length (gy a)
noncomputable def gb (a:List bS):i:="(?s:"++dC "" (jR a)++")\\Z"
noncomputable def apart:List bS->Bool
 |[]=>z|ai::ag=>!(ai.isNone&&ag.head?.any Option.isNone)&&apart ag
noncomputable def gc (ag:List bS):Nat:=(ag.map iY).sum
def sx (a:i)(b:List bS):cW (O a::b)=a::cW b:=rfl
def yU (b:i)(a:List bS):gy (O b::a)=gy a:=rfl
def u6 (a:List bS):cW (c::a)=[]:=rfl
def u7 (a:List bS):gy (c::a)=c::a:=rfl
theorem qN:∀a:List bS,a.drop (cW a).length=gy a/\(cW a).length+(gy a).length=a.length/\eQ (cW a)+gc (gy a)=gc a
 |[]=>#[V,V,V]|none::a=>#[V,by rw[u6,u7];simp,by rw[u6,u7];simp[eQ]]|some e::a=>by
  show cd (qN a) λe d b=>?_;rw[sx,yU];show cG (by mspec eA;mspec KL;show e) (by simp only[eA];show cZ (bb [.C (.y G N) t] 0 (.y (.Q G) N) (.Q t) H<|ay d)<|bb [.C G<| .y N t] 0 (.Q G) (.y (.Q N) t) H<|ay (d).symm) ?_;simp only[eQ,gc,b7,hW,iY]at b ⊢;show cZ (c5 [.C (.y N t) aU] 0 (.y (.y G N) t) (.y G aU) H<|ay b)<|c5 [.C N<| .y t aU] 0 (.y G N) (.y (.y G t) aU) H<|ay (b).symm
theorem u8:∀(a:List bS)(b:Nat),b<(cW a).length->∃d,a[b]?=O (O d)/\(cW a)[b]?=O d
 |none::a,b,e=>absurd e<|rH _
 |some d::a,0,e=>#[d,V,V]|some d::a,b+1,e=>by
  rw[sx,eA]at e;show aX (u8 a b<|by show Dn ‹_›) λd e f=>?_;show as d e (by rw[sx];simpa using f)
def u9 (a:List bS):gy a=[]\/∃r,gy a=c::r:=by
 induction a with
 |nil=>show .inl V|cons b a d=>cases b with
  |none=>show .inr #[a,V]|some a=>show d
def Do (a:List bS)(b:Nat)(d:b<=(cW a).length):lI a b=decide (b<(cW a).length):=by
 show aw (sc b (cW a).length) (λe=>?_) λe=>?_
 .show aX (u8 a b e) λh f i=>?_;simp[lI,f,e]
 .obtain rfl:b=(cW a).length:=cZ (d)<|e;have g:a[(cW a).length]?=(gy a)[0]?:=by show ch ((qN a).1) ?_;simp
  simp only[mQ,decide_false];unfold lI;mspec g;rcases u9 a with d|⟨r,d⟩<;>show aI d ?_<;>rfl
theorem Dp:∀{a:List bS},apart a=z->∀n,apart (a.drop n)=z
 |[],b,n=>by mspec xq;rfl|d::a,b,0=>b|d::a,b,n+1=>by
  have:apart a=z:=by
   cases d with
   |some e=>show b|none=>cases a with
    |nil=>rfl|cons f a=>cases f with
     |none=>show(pn b).elim|some e=>show b
  show Dp this n
def va (a:ak):(dC "" a).length=eQ a:=by
 unfold dC;rw[size_glued];mspec(by decide:(("":i)).length=0);rw[yT];rfl
theorem Dq:∀(b:Nat)(a:List bS),(lJ b a).length<=2*a.length/\eQ (lJ b a)<=gc a+7*a.length
 |0,a=>#[ew _,ew _]|b+1,[]=>#[ew _,ew _]|b+1,f::a=>by
  show cd (qN a) λm g e=>?_;have h:((".*":i)).length=2:=by decide
  rw[sw];mspec(by simp[gc]:gc (f::a)=iY f+gc a);mspec eA;split
  .simp[eQ,h];simp+arith
  .split
   .next f=>
    rw[f]at e;have d:=va<|cW a;have j:eQ (cW a)=gc a:=by simpa[gc]using e
    simp only[eA,yQ,eQ,b7,m9,hW,List.sum_nil,h]at d ⊢;unfold eQ at j;show#[dK [] 0 (.Q<| .Q<| .n 0) (.cS 2<| .Q G) H,jA [.C G dx,.C dx t] 0 (.y (.n 2)<| .y G<| .n 0) (.y (.y N t)<| .cS 7<| .Q aU) H (ay d)<|ay j]
   .show am (Dq b<|gy a) λl k=>?_;have d:=va<|cW a;simp only[eA,eQ,b7,hW]at k e d ⊢;show#[c5 [#[2,.y t aU,N],.C G<| .cS 2 aU] 0 (.Q G) (.cS 2<| .Q N) H (ay g) l,lq [_,_,_,_,_,_,_,_,_,_] [#[7,.y g0 kG,dx],.C (.y tN Bo) aU,.C N<| .y Bo<| .cS 7 kG,.C Bp tN,.C G<| .y Bp<| .n 7] 0 (.y G N) (.y (.y t aU)<| .cS 7<| .Q dx) H (ay g) (ay e) k (ay d)<|ay<|Dk<|dC ""<|cW a]
def KM (a:List bS):(jR a).length<=2*a.length/\eQ (jR a)<=gc a+7*a.length:=by
 show cd (qN a) λe b d=>?_;show am (Dq a.length<|gy a) λe f=>?_;unfold jR;mspec dE;rw[qM];show#[c5 [#[2,.y G aU,t],.C N<| .cS 2 aU] 0 (.y G N) (.cS 2 t) H (ay b) e,tO [#[7,.y dx g0,aU],.C (.y G kG) t,.C N<| .y kG<| .cS 7 g0] 0 (.y G N) (.y t<| .cS 7 aU) H (ay b) (ay d) f]
section
variable {U:aV}
def sy (d:aR U):ez U 76 (bi 76<|a U) ["inp","STAR"] (cf 76<|a U):=
 d.fn V rfl H V rfl (qu λf b=>by room)
  (fh V<|fh V he) (k H) (by decide:([]:ak).Nodup) e e V
def sz {a:List bS}{b:j}(d:R m o (.list<|a.map<|c3 b))(e:R m r (.int (n:Nat)))(f:a[n]?=O w)(g:n<2^62):R m (.Subscript o r x) (c3 b w):=
 R.item d e (b6.list aq.list (by mspec e6;mspec f;rfl)<|by show b0)
def Dr {a:List bS}{f:j}(q:n=a.length)(l:R m x (.int (b:Nat)))(s:R m B (.int (b:Nat)))(o:R m r (.int (n:Nat)))(t:R m M (.list<|a.map<|c3 f))(u:R m w f)(v:nj f)(y:a.length<=1000)
 (p:rK .Lt r=aj) (A:rK .IsNot w=aj):aZ m (.BoolOp .And [.Compare x [.Lt] [r] S4,.Compare (.Subscript M B S5) [.IsNot] [w] S6] S7) (lI a b):=by
 subst q;cases h:a[b]? with
 |none=>
  have e:¬b<a.length:=λd=>by rw[gm d]at h;cases h
  have g:lI a b=(decide ((b:Int)<(a.length:Int))&&z):=by
   unfold lI;mspec h;mspec decide_eq_false (by show λf=>p2 [.C G N,.aK N G] H (g8.mp e)<|ej.mp f);rfl
  mspec g;show aZ.o0 (aZ.bK l o av.lt p) λd=>absurd (k d)<|λf=>p2 [.C G N,.aK N G] H (g8.mp e)<|ej.mp<|k d
 |some i=>
  have e:b<a.length:=(gG.mp h).1;have g:lI a b=(decide ((b:Int)<(a.length:Int))&&!i.isNone):=by
   unfold lI;mspec h;mspec decide_eq_true (by show ej.mpr ‹_›);cases i<;>rfl
  mspec g;show aZ.o0 (aZ.bK l o av.lt p) λd=>aZ.bK (sz t s h<|dG (a5 e y) H) u (av.yx<|u5 v i) A
def S.ek {d:cl}(e:g m b d n):S b m [d] n:=.mk λd f h i j=>
 mn (dq (e.go d f h i j) (λk m l=>by
  obtain⟨a,r⟩:=l;cases k with
  |next=>show rX #[a,r]|brk=>show#[a,r]|cont=>show#[a,r]|ret d=>show#[a,r]) λd d b=>b)
def S.KN {d:cl}(Γ:be)(own:List (T×j))(a:g m n d (c0 (λa=>aB/\u n #[m.d,m.n,m.J,X,Γ,own] a) o))(e:aB->S n #[m.d,m.n,m.J,X,Γ,own] b o):S n m (d::b) o:=
 S.cons a λa #[d,f]=>eO #[m.d,m.n,m.J,X,Γ,own] n V rfl rfl rfl rfl f (e d)
def S.KO {d:cl}(e:iR)(a:g m n d (c0 (λa=>∃Γ own,e Γ own/\u n #[m.d,m.n,m.J,X,Γ,own] a) o))(f:∀Γ own,e Γ own->S n #[m.d,m.n,m.J,X,Γ,own] b o):S n m (d::b) o:=
 S.cons a λa d=>gi d λΓ own a e=>eO #[m.d,m.n,m.J,X,Γ,own] n V rfl rfl rfl rfl e (f Γ own a)
noncomputable abbrev yV:=λ(aQ:T) (ds:dn) (bg:List (T×j))=>((aQ,.list ds)::bg:aD)
def S.KP (a:m∉sA)(d:m∉w.cB)(e:aL Γ eG)(f:S w #[U,n,env,sA,eG,o] b x):
 S w #[U,n,env,m::sA,Γ,yV m ds o] b x:=
 S.ql (Y:=#[U,n,env,m::sA,Γ,yV m ds o]) (λg h=>u.Cs (Y:=#[U,n,env,m::sA,Γ,yV m ds o]) h a d (λj g r k i=>r.toList i) λa d=>.inl<|e a d) f
def KQ (a:List bS)(b d:Nat):lI (a.drop b) d=lI a (b+d):=by
 unfold lI;show aI (vb) V
noncomputable abbrev yW (a:List bS)(b:j)(ac q:T)(L:j):be:=[("inp",.list (a.map<|c3 b)),("STAR",b),("res",.val (.ref ac)),("add",.val (.ref q)),("i",L),("n",.int a.length)]
noncomputable abbrev Ds (a:List bS)(b:j)(ac q:T)(L aQ:j):be:=[("inp",.list (a.map<|c3 b)),("STAR",b),("res",.val (.ref ac)),("add",.val (.ref q)),("i",L),("n",.int a.length),("fixed",aQ)]
noncomputable abbrev vc (ac q:T)(a:ak):aD:=[(q,.aG (eZ "list.append" ac)),(ac,.list (a.map .str))]
inductive Dt (a:List bS)(b:j)(ac q:T)(s:Nat)(Γ:be)(own:aD):Prop
 |mk (L:Nat) (d:ak) (e:aL Γ (yW a b ac q<| .int (L:Nat))) (f:own=(vc ac q d))
  (e:L<=a.length) (f:(a.drop L).length<=s) (hd:a.drop L=[]\/∃ag,a.drop L=c::ag) (g:d++lJ s (a.drop L)=jR a):Dt a b ac q s Γ own
noncomputable abbrev KR:=λ(b:List bS) (a:j)=>([("inp",.list (b.map<|c3 a)),("STAR",a)]:be)
noncomputable abbrev vd:=λ(U:aV) (ca:T)=>(bU (bi 76<|a U) ca 76:b1)
def KS (To:aR U)(n:Nat)(S7:T)(X:aY)(Tj:aO)(d:List bS)(I:j)(S8:nj I)(Tp:apart d=z)(Tb:gc d<=100000)(p:d.length<=1000):
 S Tj #[U,n,vd U S7,X,KR d I,[]] (cf 76<|a U) (kW U Tj<| .str<|gb d):=by
 show am (KM d) λTq Tc=>?_;show cd (qN d) λTk Td Tj=>?_;mexact S.m4 (.inl V) λl Tj TG=>?_;mexact S.CV (ac:=l) (ds:=[]) (bl 0 V) (k H) (k H) ao (.inl V) V rfl λo Tj TG=>?_;mexact S.bq (g.CX (ae:="i") (bu:="n") (ac:=.int 0) (b:=.int d.length) (R.tuple (W.cons R.bJ (W.cons (R.of_eq (R.jG (ds:=[_]) (To.eX V rfl (by room) (k H) V rfl rfl (k H)) (W.cons (R.K 2 V) W.nil V) (bO.len aq.list (by rw[a6];show gu)) V e V)<|by rw[a6]) W.nil V) V)<|dt H) (.inl V) (.inl V) V rfl) ?_;mexact S.bq (g.yg (cW d).length (λf=>(yW d I l o<| .int (f:Nat))) (λf=>[(o,.aG (eZ "list.append" l)),(l,.list (((cW d).take f).map .str))])
  (aL.cH [4,5,3,2,0,1] rfl) V (λf x=>?_) (λf x=>?_)) ?_
 .show ch (Do d f x) ?_;show Dr V (R.K 4 V) (R.K 4 V) (R.K 5 V) (R.K 0 V) (R.K 1 V) S8 p e e
 .show aX (u8 d f x) λTe J S4=>?_;mexact S.bq (g.qG (bD:=[(o,.aG (eZ "list.append" l))]) (b3:=[]) (af:=.str Te) (sz (R.K 0 V) (R.K 4 V) J<|c5 [.C N<| .n 1000,.C (.y t aU) N,.aK G t] 0 (.Q G) (.n<|2^62) H p (ay Td) x) (bl 3 V) (k H) (k H) ao V ?_ e V rfl rfl) ?_
  .rw[a6];mspec g9;unfold aC;show c5 [.C N<| .n 1000,.C (.y t aU) N,.C G t] 0 G (.n<|2^24) H p (ay Td)<|ml f<|(cW d).length
  mexact S.bq (g.yu (ac:=(f:Int)) (b:=1) (bl 4 V) V R.bJ) ?_;mexact S.ye (aL.cH [1,2,3,4,0,5] rfl) ?_;mspec nh S4;simp
 mspec iU;mexact S.KO (X:=o::l::X) (λΓ own=>aL Γ [("res",.val (.ref l)),("i",.int d.length),("n",.int d.length)]/\own=[(o,.aG (eZ "list.append" l)),(l,.list ((jR d).map .str))])
  (g.uz (ce:=Dt d I l o) d.length
   #[(cW d).length,cW d,aL.bd _,V,(by show bb [.C (.y G t) N] 0 G N H (ay Td):(cW d).length<=d.length),by mspec k6;simp+arith,by mspec Tk;show u9 d,by mspec Tk;rfl] ?_) ?_
 .rintro S5 Γ own ⟨f,r,D,rfl,x,Tf,hd,u⟩;show#[decide ((f:Int)<(d.length:Int)),?_,λE=>?_,λE=>?_]
  .show aZ.bK (R.name (D _<|bl 4 V) (k H)<|k H) (R.name (D _<|bl 5 V) (k H)<|k H) av.lt e
  .have Td:f<d.length:=by have:=k E;show ej.mp ‹_›
   mexact S.dV (Y:=#[U,n,vd U S7,o::l::X,Γ,(vc l o r)]) D ?_;obtain⟨h,P⟩:∃h,d.drop f=c::h:=by
    show aw (hd) (λhd=>?_) λhd=>?_
    .rw[KU]at hd;show absurd ‹_› (g8.mpr ‹_›)
    .show hd
   have S6:d.drop (f+1)=h:=by show ch KV ?_;mspec P;rfl
   have Tr:d[f]?=O c:=by
    have:(d.drop f)[0]?=O c:=by mspec P;rfl
    simpa using this
   have F:h.length+f+1=d.length:=by
    have:=congrArg fN P;rw[k6,eA]at this;show cZ (c5 [.aK G aU,.C (.y aU N) t] 0 (.Q<| .y G N) t H (ay (this).symm)<|ay<|e8 (n:=d.length) (m:=f)<|x)<|c5 [.C aU<| .Q N,.C G<| .y aU t] 0 G (.Q<| .y N t) H (ay this)<|eY<|cg<|d.length - f
   cases S5 with
   |zero=>show absurd (P▸Tf)<|Nat.not_succ_le_zero _
   |succ S5=>
   rw[P]at u Tf;have Ts:r.length<=2000:=by
    have:=congrArg fN u;rw[dE]at this;show c5 [#[2,N,.n 1000],.C t<| .cS 2 N,.C (.y G aU) t] 0 G (.n 2000) H p Tq<|ay this
   have Tl:h.length<=S5:=by rw[eA]at Tf;show Dn ‹_›
   mexact S.bq (g.uS<|aZ.bK (q:=z) (sz (R.K 0 V) (R.K 4 V) Tr<|b9 [.C N<| .n 1000,.C G N] 0 (.Q G) (.n<|2^62) H p x) (R.K 1 V) (av.J5<|u5 S8 c) e) ?_;mexact S.bq (g.yu (ac:=(f:Int)) (b:=1) (bl 4 V) V R.bJ) ?_;mspec(by simp+arith:((f:Int)+1)=((f+1:Nat):Int));mexact S.KN (aB:=h≠[]) (X:=o::l::X) (yW d I l o<| .int (f+1:Nat)) (vc l o r)
    (g.dB (an:=(((f+1:Nat):Int)==(d.length:Int))) (aZ.bK (R.K 0 V) (R.K 5 V) av.eq e) (λs=>?_)<|λs=>S.nil λh' B=>#[λK=>?_,B.ef<|aL.cH [1,2,3,4,0,5] rfl]) ?_
   .have Tg:f+1=d.length:=by have:=beq_iff_eq.mp s;show cZ ((ej.mp<|k E))<|(ay (jm<|eq_of_beq s).symm)
    have Tt:h=[]:=n9.mp<|cZ (bb [.aK (.y G N) t,.C t<| .Q N] 0 G (.n 0) H (ay F)<|ay (Tg).symm)<|ew _;subst Tt;mexact S.bq (g.qG (bD:=[(o,.aG (eZ "list.append" l))]) (b3:=[]) (af:=.str ".*") (ds:=r.map .str) R.cy (bl 4 V) (k H) (k H) ao V ?_ e V rfl rfl) ?_
    .rw[a6];unfold aC;show b0
    mexact S.ek<|g.brk λh' B=>iy _ _ #[?_,?_] B
    .show ch Tg ?_;show aL.cons (bl 3 V) (aL.cons (bl 0 V)<|aL.cons (by show Tg▸bl 5 V) aL.nil)
    .show ch u ?_;simp[sw]
   .subst K;have:¬(((f+1:Nat):Int)==(d.length:Int))=z:=by mspec s;decide
    apply this;rw[beq_iff_eq];simp at F;show congrArg Int.ofNat<|cZ ((ej.mp<|k E))<|(ay (F).symm)
   intro Tm;obtain⟨L,S9,Tu⟩:∃L S9,O L::S9=h:=by
    cases h with
    |nil=>show absurd V Tm|cons Tv S9=>cases Tv with
     |some L=>show dM L S9 V|none=>
      have:=Dp Tp f;rw[P]at this;show(pn this).elim
   show cd (qN h) λTw M Tx=>?_;have P:d[f+1]?=O (O L):=by
    have:(d.drop<|f+1)[0]?=O (O L):=by mspec S6;show ch Tu ?_;rfl
    simpa using this
   mexact S.bq (g.uS<|aZ.bK (q:=z) (sz (R.K 0 V) (R.K 4 V) P<|b9 [.C N<| .n 1000,.C G N] 0 (.Q<| .Q G) (.n<|2^62) H p x) (R.K 1 V) (av.yx<|u5 S8<|O L) e) ?_;mexact S.m4 (.inl V) λTh Ty Tz=>?_;mexact S.bq (g.yg (cW h).length (λv=>(Ds d I l o (.int (f+1+v:Nat))<| .val<| .ref Th)) (λv=>[(Th,.list (((cW h).take v).map .str)),(o,.aG (eZ "list.append" l)),(l,.list (r.map .str))])
    (aL.cH [1,2,3,4,5,6,0] rfl) V (λv Ta=>?_) (λv Ta=>?_)) ?_
   .show ch (Do h v Ta) ?_;show ch S6 ?_;rw[KQ];show Dr V (R.K 4 V) (R.K 4 V) (R.K 5 V) (R.K 0 V) (R.K 1 V) S8 p e e
   .show aX (u8 h v Ta) λTe J S4=>?_;rw[<-S6,vb]at J;mexact S.bq (g.append (bD:=[]) (b3:=(vc l o r)) (af:=.str Te) (ds:=((cW h).take v).map .str) (sz (R.K 0 V) (R.K 4 V) J<|p1 [.C t<| .n 1000,.aK (.y aU G) t,.C (.y dx g0) aU,.aK N dx] 0 (.Q<| .y (.Q G) N) (.n<|2^62) H p (ay F) (ay M) Ta) (bl 6 V) (k H) (k H) V ?_ e V rfl rfl) ?_
    .rw[a6];mspec g9;unfold aC;show p1 [.C N<| .n 1000,.aK (.y t aU) N,.C (.y dx g0) t,.C G dx] 0 G (.n<|2^24) H p (ay F) (ay M)<|ml v<|(cW h).length
    mexact S.bq (g.yu (ac:=((f+1+v:Nat):Int)) (b:=1) (bl 4 V) V R.bJ) ?_;mexact S.ye (aL.cH [1,2,3,4,0,5,6] rfl) ?_;mspec nh S4;simp
   mspec iU;have v:(cW h).length<=1000:=jA [.C N<| .n 1000,.aK (.y t aU) N,.C (.y G dx) t] 0 G (.n 1000) H p (ay F)<|ay M;have Tn:eQ (cW h)<=100000:=by
    have J:gc (d.drop<|f+1)<=gc d:=by
     have S4:gc d=gc (d.take<|f+1)+gc (d.drop<|f+1):=by
      conv=>lhs;rw[<-p7 (f+1) d]
      unfold gc;rw[eV,KI]
     show bb [.C (.y t G) N] 0 G N H<|ay (S4).symm
    rw[S6]at J;show c5 [.C N<| .n 100000,.C (.y G t) aU,.C aU N] 0 G (.n 100000) H Tb (ay Tx) J
   have TA:=va<|cW h;mexact S.bq (g.assign (af:=.str<|dC ""<|cW h) (R.jf (ds:=[.val<| .ref Th]) R.cy (fD.str su sv) (W.cons (R.K 6 V) W.nil V) (bO.r4 (j9:=cW h) (aq.D ao) ?_) V e V) (.inl V) V) ?_
   .unfold eQ at Tn;rw[(by decide:(("":i)).length=0)];show b0
   mexact S.KP (sA:=o::l::X) (eG:=(Ds d I l o (.int (f+1+(cW h).length:Nat))<| .str<|dC ""<|cW h)) Ty Tz (aL.cH [1,2,3,4,5,6,0] rfl) ?_;have Ti:∀K,(((f+1+(cW h).length:Nat):Int)==(d.length:Int))=K->(gy h=[]↔K=z):=λK p=>by
    subst p;rw[beq_iff_eq,<-n9];lia
   have Z:d.drop (f+1+(cW h).length)=gy h:=by rw[<-Tw,<-S6,KV]
   rw[sw,if_neg Tm]at u;mexact S.ek<|g.dB (an:=(((f+1+(cW h).length:Nat):Int)==(d.length:Int))) (aZ.bK (R.K 4 V) (R.K 5 V) av.eq e) (λs=>?_)<|λs=>?_
   .rw[if_pos<|(Ti _ V).mpr s]at u;mexact S.bq (g.qG (bD:=[(o,.aG (eZ "list.append" l))]) (b3:=[]) (af:=.str ".*") (ds:=r.map .str) R.cy (bl 3 V) (k H) (k H) ao V ?_ e V rfl rfl) ?_
    .rw[a6];unfold aC;show b0
    mexact S.bq (g.qG (bD:=[(o,.aG (eZ "list.append" l))]) (b3:=[]) (af:=.str<|dC ""<|cW h) (ds:=r.map .str++[.str ".*"]) (R.K 6 V) (bl 3 V) (k H) (k H) ao V ?_ e V rfl rfl) ?_
    .rw[dE,a6,gw];unfold aC;show gu
    mexact S.nil λh' B=>#[_,_,#[S5,fA _,f+1+(cW h).length,r++[(".*":i),dC ""<|cW h],?_,?_,by show jA [.aK (.y aU G) t,.C (.y N dx) aU] 0 (.y (.Q G) N) t H (ay F)<|ay M,?_,?_,?_],B]
    .show aL.cH [0,1,2,3,4,5] rfl
    .simp
    .show Z▸c5 [.C t N,.C (.y aU G) t] 0 G N H Tl (ay M)
    .show Z▸u9 h
    .rw[Z,(Ti _ V).mpr s];simpa[Dm]using u
   .have TB:¬gy h=[]:=λK=>by rw[(Ti _ V).mp K]at s;cases s
    rw[if_neg TB]at u;mexact S.bq (g.qG (bD:=[(o,.aG (eZ "list.append" l))]) (b3:=[]) (af:=.str<|jk<|dC ""<|cW h) (ds:=r.map .str) (R.yy (R.K 6 V) ?_) (bl 3 V) (k H) (k H) ao V ?_ e V rfl rfl) ?_
    .rw[(by decide:(("(?>.*?":i)).length=6),(by decide:((")":i)).length=1),TA];unfold aC;show dK [.C G<| .n 100000] 0 (.Q<| .y (.n 6) G) (.n<|2^24) H Tn
    .rw[a6];unfold aC;show dG Ts H
    mexact S.nil λh' B=>#[_,_,#[S5,fA _,f+1+(cW h).length,r++[jk<|dC ""<|cW h],?_,?_,by show jA [.aK (.y aU G) t,.C (.y N dx) aU] 0 (.y (.Q G) N) t H (ay F)<|ay M,?_,?_,?_],B]
    .show aL.cH [0,1,2,3,4,5] rfl
    .simp
    .show Z▸c5 [.C t N,.C (.y aU G) t] 0 G N H Tl (ay M)
    .show Z▸u9 h
    .rw[Z];simpa using u
  .intro s B;have h:d.drop f=[]:=by rw[KU];have:=of_decide_eq_false E;show(dH.mp<|oT.mp<|of_decide_eq_false E)
   have TC:f=d.length:=by have:=of_decide_eq_false E;show cZ (x)<|(dH.mp<|oT.mp<|of_decide_eq_false E)
   rw[h]at u;have TD:r=jR d:=by simpa[Dm]using u
   subst TC TD;show iy Γ _ #[aL.cons (D _<|bl 2 V)<|aL.cons (D _<|bl 4 V)<|aL.cons (D _<|bl 5 V) aL.nil,V] B
 .intro Γ own f;show kJ f λD=>?_;mexact S.dV (Y:=#[U,n,vd U S7,o::l::X,Γ,[(o,.aG (eZ "list.append" l)),(l,.list ((jR d).map .str))]]) D ?_;have TE:(("(?s:":i)).length=4:=by decide
  have TF:((")\\Z":i)).length=3:=by decide
  mexact S.bq (g.uS<|aZ.bK (q:=z) (R.K 1 V) (R.K 2 V) (by have:=av.eq (Y:=#[U,n,vd U S7,o::l::X,[("res",.val (.ref l)),("i",.int d.length),("n",.int d.length)],[(o,.aG (eZ "list.append" l)),(l,.list ((jR d).map .str))]]) (ac:=(d.length:Int)) (b:=(d.length:Int));rwa[beq_self_eq_true]at this) e) ?_;mexact S.bq (g.assign (af:=.str<|dC ""<|jR d) (R.jf (ds:=[.val<| .ref l]) R.cy (fD.str su sv) (W.cons (R.K 0 V) W.nil V) (bO.r4 (j9:=jR d) (aq.D<|A ao) ?_) V e V) (.inl V) V) ?_
  .unfold eQ at Tc;show(by decide:(("":i)).length=0)▸c5 [.C t<| .n 100000,#[7,aU,.n 1000],.C G<| .y t<| .cS 7 aU] 0 (.y G<| .w N 0) (.n 16777216) H Tb p Tc
  show S.ret (R.yy (R.K 0 V) (by rw[TE,TF,(va<|jR d)];unfold aC;show bb [.C N<| .n 100000,#[7,t,.n 1000],.C G<| .y N<| .cS 7 t] 0 (.y (.y (.n 4) G)<| .n 3) (.n<|2^24) H Tb p Tc))
def Du (d:aR U)(a:List bS)(b:j)(e:nj b)(f:apart a=z)(g:gc a<=100000)(h:a.length<=1000):bO #[U,n+1,env,X,Γ,own] (.ref 76) [.list<|a.map<|c3 b,b] (.str<|gb a):=
 (sy d).m7 V (λi k l=>KS d n i k l a b e f g h)
end
noncomputable def Dv (dy:List j3):Bool:=dy.all λI=>match I.key with
 | .int s _=>I.hash==hashInt s|_=>aj
def KW {d:aV}{e:aW}{f:T}{g:fl}{b:Array j3}(i:g.In e){n:Nat}(j:g.lookup f=O {cls:=.type "dict",data:=.dict b n})(k:Dv b.toList=z):e.MapOf (mT d.prog d.w) f (λa=>findBy rR b a):=by
 show BF _ b n (i _ _ j) (cG V rfl rfl) V (λh d=>?_)<|λa=>rfl;have:=yX.mp k h<|Array.mem_toList_iff.mpr d;cases hk:h.key with
 |int a l=>rw[hk]at this;show as a (by show(?_:rR a (a3.int a l)=z);simp[rR])<|eq_of_beq this
 |_=>rw[hk]at this;cases this
section
variable {cY:i5}{bp:fd}{aJ:cV}{bv:bX}{aa:aM}
def Dw {a:T}{b:Int->Option a3}{d:Nat}{e:i}{g:fg}{f:Builtin.Str.Mapped->aM->Prop}(h:aa.heap.MapOf (mT cY bp) a b)(j:b (d:Int)=O (.str e g))
 (k:∀l,f (.text e) {aa with toks:=l}):ar (b2 cY bp) aJ (KX (.ref a) d) f bv aa:=by
 unfold KX;show ap<|wpAny_attempt<|ap<|wpAny_mkInt<|BS (ua _ _ _ _) h j ?_;have h':=k<|aa.toks+1+1
 repeat(any_goals (first|assumption|wp_step))
def KY {f:T}{g:Int->Option a3}{q:Nat}{a:i}{l m:fg}{h:bX}(j:aa.heap.MapOf (mT cY bp) f g)(k:g (q:Int)=O (.str a m))(d:a.length=2)(r:q<128)
 (n:∀o b,h (.str a o) {aa with toks:=b}):ar (b2 cY bp) aJ (dU (.builtin "str.translate") [.str #[(aRR [q])] l,.ref f]) h bv aa:=by
 show wpAny_call_entry KZ (ob _ _ _) PySem.F.entry_str_translate ?_<|PySem.F.args_str_translate_2 _ _;unfold Builtin.«str.translate»;have f:((#[(aRR [q])]:i).length==0)=aj:=e
 repeat(any_goals (first|assumption|(show Dw j k λb=>?_)|wp_step))
 have f:(if(a.length==1&&a.cps.all λg=>decide (g<128))=z then O a.cps[0]? else c)=c:=by mspec d;rfl
 dsimp only;mspec f
 repeat(any_goals (first|assumption|(show Dw (aa:={aa with toks:=b}) j k λb=>?_)|wp_step))
 have b:¬(Builtin.Str.tooLong (0+a.length)=z):=by mspec d;decide
 mspec if_neg b;show(?_:ar _ _ (retStr #[(aRR [])++a.cps]) _ _ _);mspec uT;have p:a.length<=aC:=by mspec d;unfold aC;simp+arith
 unfold retStr;show ap<|Dx (ba<|as _ V<|n _ _) p
end
section
variable {U:aV}
def yY (b:aR U):ez U 62 (bi 62<|a U) ["pattern"] (cf 62<|a U):=
 b.fn V rfl H V rfl (kX λd=>by room)
  (fh V he) (by decide) (show([]:ak).Nodup by decide) e e V
def bO.K0:bO m (.builtin "isinstance") [.str n,.val<| .type "str"] (.bool z):=.mk λa b g h i j k d e=>by
 show cm d.eT λg h a=>?_;show eN a λd f=>?_;show v d.dN λg a=>?_;show bw a ?_;obtain rfl:=f.is;show call_isinstance_yes (ob _ _ _) (by rfl) isSubtype_str_str<|e _ b.heap b.toks (E.bd _)<| .bool _
def K1:Dv wZ.toList=z:=by room
def K2:∃a,findBy rR wZ (46:Nat)=O (.str "\\." a):=#[429,by room]
def bO.K3 (b:aR U):bO #[U,n,env,X,Γ,own] (.builtin "str.translate") [.str ".",.val<| .ref 52] (.str "\\."):=.mk λa d i j k l e f g=>by
 show cm f.eT λi j a=>?_;show eN a λf h=>?_;show v f.dN λi a=>?_;show bw a ?_;obtain rfl:=h.is;show v K2 λf a=>?_;show KY (q:=46) (KW (λf o h=>e.fq _ _<|b.bC f o h) V K1) a (by decide) (by decide) λj i=>?_;show g _ d.heap i (E.bd _)<| .str _ _
def K4 (b:aR U)(n:Nat)(f:T)(X:aY)(d:aO):S d #[U,n,bU (bi 62<|a U) f 62,X,[("pattern",.str ".")],[]] (cf 62<|a U) (kW U d<| .str "\\."):=by
 mexact S.ek (g.dB (an:=z) (aZ.j8 (R.jG (ds:=[_,_]) (b.eX V rfl (by room) (by decide) V rfl rfl (by decide)) (W.cons (R.K 0 V) (W.cons (b.eX V rfl (by room) (by decide) V rfl rfl (by decide)) W.nil V) V) bO.K0 V e V) eF.bool<|λd=>rfl) (λd=>?_)<|λh=>by cases h);show S.ret (R.jf (ds:=[.val<| .ref 52]) (R.K 0 V) (fD.str KZ PySem.F.type_str_translate) (W.cons (b.eU V (by room) V rfl (by decide)) W.nil V) (bO.K3 b) V e V)
def K5 (a:aR U):bO #[U,n+1,env,X,Γ,own] (.ref 62) [.str "."] (.str "\\."):=
 (yY a).m7 V (λb d e=>K4 a n b d e)
end
section
variable {U:aV}
def Dy:ph (a U) 95 96 "node" 0:=#[by room,by room,by room,by room,by room,by room,by room,by decide]
def lK:ph (a U) 95 97 "npredecessors" 1:=#[by room,by room,by room,by room,by room,by room,by room,by decide]
def ve:ph (a U) 95 98 "successors" 2:=#[by room,by room,by room,by room,by room,by room,by room,by decide]
def K6:kZ (a U) 95 "node" (O<| .ref 96):=#[by room,by room,by room]
def sB:kZ (a U) 95 "npredecessors" (O<| .ref 97):=#[by room,by room,by room]
def K7:kZ (a U) 95 "successors" (O<| .ref 98):=#[by room,by room,by room]
def lL:uW (a U) 192=z:=by room
def K8:sj (a U) 192 "_node2info":=#[by room,lL,by room]
def K9:sj (a U) 192 "_ready_nodes":=#[by room,lL,by room]
def La:sj (a U) 192 "_npassedout":=#[by room,lL,by room]
def Lb:sj (a U) 192 "_nfinished":=#[by room,lL,by room]
def Lc:kZ (a U) 192 "_node2info" c:=#[by room,by room,by room]
def Dz:kZ (a U) 192 "_ready_nodes" c:=#[by room,by room,by room]
def DA:kZ (a U) 192 "_npassedout" c:=#[by room,by room,by room]
def DB:kZ (a U) 192 "_nfinished" c:=#[by room,by room,by room]
def DC:jQ (a U) 192 135 "_get_nodeinfo":=#[by room,by room,by room,by room]
def yZ:jQ (a U) 192 142 "add":=#[by room,by room,by room,by room]
def y0:jQ (a U) 192 147 "prepare":=#[by room,by room,by room,by room]
def Ld:jQ (a U) 192 154 "get_ready":=#[by room,by room,by room,by room]
def Le:jQ (a U) 192 161 "is_active":=#[by room,by room,by room,by room]
def DD:jQ (a U) 192 175 "done":=#[by room,by room,by room,by room]
def y1:jQ (a U) 192 182 "_find_cycle":=#[by room,by room,by room,by room]
def DE (d:aR U):ez U 91 (bi 91<|a U) ["self","node"] (cf 91<|a U):=
 d.fn V rfl H V rfl (qu λf b=>by room)
  (fh V<|fh V he) (by decide) (show([]:ak).Nodup by decide) e e V
def Lf (d:aR U)(n:Nat)(j b:T)(X:aY)(f:aO)(e:i):
 S f #[U,n,bU (bi 91<|a U) j 91,X,[("self",.val (.ref b)),("node",.str e)],[(b,.slots 95 [])]] (cf 91<|a U) (er U f [(b,.slots 95 [])] λk l=>l=.none/\∃g,k=[(b,.slots 95 [.str e,.int 0,.val<| .ref g]),(g,.list [])]):=by
 mexact S.pj (r:=.val<| .ref b) (af:=.str e) (R.K 1 V) (R.K 0 V) (e9.yI (au:=a U) d.bC (bD:=[]) (b3:=[]) V Dy K6) V ?_;mexact S.pj (r:=.val<| .ref b) (af:=.int 0) R.bJ (R.K 0 V) (e9.yI (au:=a U) d.bC (bD:=[]) (b3:=[]) V lK sB) V ?_;mexact S.uY (r:=.val<| .ref b) (aS.m4 λh e f g=>fo _ (by show R.K 0 V) (e9.yI (au:=a U) d.bC (bD:=[(h,.list [])]) (b3:=[]) V ve K7) ?_) V λb b b d=>d;show S.si V (E.bd _) (λd b=>by mspec bW b;simp) (vf _ _ _) #[V,h,V]
def Lg (f:aR U){b:bc}{o:aO}{n:Nat}(p:b.d=U)(q:b.n=n+2)(g:i):dX b o (.ref 95) [.str g] (λj l m=>∃h e,j=h::b.X++[h,e]/\l=(h,.slots 95 [.str g,.int 0,.val<| .ref e])::(e,.list [])::b.D/\m=.val (.ref h)):=by
 subst p;show dX.Kk (au:=a b.d) (n:=n+1) (ol:=91) f.bC (by room) (by room) (by room) q (λt o d u h w p=>as _ (.slots (a1:=[]) h p .nil) V) λd t o h u q=>?_;show v q.one λh k=>?_;show ci k λr=>?_;show(DE f).def.mr (Y:=#[b.d,n+1,b.J,d::b.X,b.p,(d,.slots 95 [])::b.D]) (n:=n) (ah:=[(d,.slots 95 [])]) (keep:=b.D) (ds:=[.val<| .ref d,.str g]) V rfl (eH _) (λb s h=>by
  subst s;show(DE f).qp (.cons (.val _)<| .cons r .nil) V) (λb j h0=>Lf f n b d j _ g) λl m h=>?_
 show ci h λk=>?_;show v k λe b=>?_;show bw b ?_;show#[V,d,e,V,V,V]
end
structure gd where
 name:i
 y:T
 cD:T
 cx:Int
 succ:ak
noncomputable abbrev lM (dR:gd):aD:=[(dR.y,.slots 95 [.str dR.name,.int dR.cx,.val<| .ref dR.cD]),(dR.cD,.list (dR.succ.map .str))]
noncomputable def d9:List gd->aD
 |[]=>[]|dR::r=>lM dR++d9 r
def Lh (a:gd):d9 [a]=lM a:=fj _
def vg (a b:List gd):d9 (a++b)=d9 a++d9 b:=by
 induction a with
 |nil=>rfl|cons d a e=>show lM d++d9 (a++b)=(lM d++d9 a)++d9 b;mspec e;show(hX ..).symm
def DF (a b:List gd)(d:gd):d9 (a++d::b)=d9 a++(lM d++d9 b):=vg a<|d::b
noncomputable abbrev eB (ag:List gd):be:=ag.map λdR=>(dR.name,.val (.ref dR.y))
structure ax where
 x:T
 dc:T
 cp:T
 br:List gd
 bo:Option (T×ak)
 bV:Int
 bH:Int
noncomputable def mu:Option (T×ak)->j
 |none=>.none|some r=>.val<| .ref r.1
noncomputable def kn:Option (T×ak)->aD
 |none=>[]|some r=>[(r.1,.list (r.2.map .str))]
noncomputable abbrev ax.attrs (ah:ax):be:=[("_node2info",.val (.ref ah.cp)),("_ready_nodes",mu ah.bo),("_npassedout",.int ah.bV),("_nfinished",.int ah.bH)]
noncomputable abbrev ax.D (ah:ax):aD:=(ah.x,.aG (c1 192 ah.dc))::(ah.dc,.ns ah.attrs)::(ah.cp,.bN (eB ah.br))::(kn ah.bo++d9 ah.br)
def ax.eI (a:ax):(a.x,j.aG (c1 192 a.dc))∈a.D:=ao
def ax.eR (a:ax):(a.dc,j.ns a.attrs)∈a.D:=A ao
def ax.lN (a:ax):(a.cp,j.bN (eB a.br))∈a.D:=A<|A ao
def Li (r:Option (T×ak)):ne (mu r):=by cases r<;>constructor
def vh (b:List gd)(d:i):((eB b).lookup d=c/\∀a∈b,a.name≠d)\/∃f a g,b=f++a::g/\a.name=d/\(eB b).lookup d=O (.val<| .ref a.y):=by
 induction b with
 |nil=>show .inl #[V,λq m=>nomatch m]|cons a b n=>
  by_cases e:a.name=d
  .show .inr (kL [] a b V e (by subst e;simp[eB]))
  .have h:(eB<|a::b).lookup d=(eB b).lookup d:=by simp[eB,fB,(show(d==a.name)=aj from by simpa using λh:d=a.name=>e h.symm)]
   mspec h;rcases n with⟨o,j⟩|⟨f,k,g,rfl,j,p⟩
   .show .inl #[o,λk l=>?_];rcases a4 l with rfl|l
    .show e
    .show j k l
   .show .inr<|kL (a::f) k g V j p
def Lj (e:∀a∈b,a.name≠m)(d:j):ig (eB b) m d=eB b++[(m,d)]:=by
 unfold ig;rw[if_neg];rw[ko];intro b;show aX b λd f g=>?_;obtain⟨a,h,rfl⟩:=ck f;show e a h (by simpa using g)
def mv (ah:ax)(a:i)(b:ax)(ac:T):Prop:=
 (∃bD dR b3,ah.br=bD++dR::b3/\dR.name=a/\dR.y=ac/\b=ah)\/((∀dR∈ah.br,dR.name≠a)/\∃gE,b={ah with br:=ah.br++[#[a,ac,gE,0,[]]]})
section
variable {U:aV}
def Lk (d:aR U):ez U 135 (bi 135<|a U) ["self","node"] (cf 135<|a U):=
 d.fn V rfl H V rfl (qu λf b=>by room)
  (fh V<|fh V he) (by decide) (show([]:ak).Nodup by decide) e e V
def ax.il (d:aR U)(f:Y.d=U)(b:ax)(e:(b.x,.aG (c1 192 b.dc))∈Y.D)(hd:(b.dc,.ns b.attrs)∈Y.D):f9 Y (.val<| .ref b.x) "_node2info" (.val<| .ref b.cp)/\f9 Y (.val<| .ref b.x) "_ready_nodes" (mu b.bo)/\f9 Y (.val<| .ref b.x) "_npassedout" (.int b.bV)/\f9 Y (.val<| .ref b.x) "_nfinished" (.int b.bH):=by
 subst f;show l6 (f9.dict (au:=a Y.d) d.bC e hd (by rfl) (.ref _) K8) (f9.dict (au:=a Y.d) d.bC e hd (by rfl) (Li _) K9) (f9.dict (au:=a Y.d) d.bC e hd (by rfl) (.int _) La) (f9.dict (au:=a Y.d) d.bC e hd (by rfl) (.int _) Lb)
def Ll (q:aR U)(n:Nat)(D:T)(X:aY)(v:aO)(b:ax)(f:i)(Y:b.br.length<=1000):
 S v #[U,n+2,bU (bi 135<|a U) D 135,X,[("self",.val (.ref b.x)),("node",.str f)],b.D] (cf 135<|a U) (er U v b.D λo B=>∃h d,o=h.D/\B=.val (.ref d)/\mv b f h d):=by
 have I:∀h d,mv b f h d->∀w∈b.D,w.1∈aH h.D:=λh d k w l=>by
  rcases k with⟨_,_,_,_,_,_,rfl⟩|⟨_,m,rfl⟩
  .show c7 l
  .simp only[ax.D,b7,eV,vg,hP,lY]at l ⊢;rcases l with rfl|rfl|rfl|l|l
   .show .inl V
   .show .inr<| .inl V
   .show .inr<| .inr<| .inl V
   .show .inr<| .inr<| .inr<| .inl<|c7 l
   .show .inr<| .inr<| .inr<| .inr<| .inl<|c7 l
 mexact S.cons (au:=λk=>∃s h d o,(∀p∈X,p∈s)/\mv b f h d/\o.Perm h.D/\u v #[U,n+2,bU (bi 135<|a U) D 135,s,[("self",.val (.ref b.x)),("node",.str f),("result",.val (.ref d))],o] k)
  (g.sm (af:=((eB b.br).lookup f).getD .none) (R.jf (ds:=[.str f]) (r:=.val<| .ref b.cp) (R.fk (r:=.val<| .ref b.x) (R.K 0 V) (ax.il q V b b.eI b.eR).1 V) (fD.bN (aq.D b.lN) qx u2) (W.cons (R.K 1 V) W.nil V) (bO.uZ<|aq.D b.lN) V e V) (.inl V) (λy=>?_)<|λF=>?_) ?_
 .
  have C:∀x∈b.br,x.name≠f:=by
   rcases vh b.br f with⟨_,k⟩|⟨_,_,_,_,_,k⟩
   .show k
   .replace y:=k▸y;cases y
  mexact S.Kl (aS.Km (au:=a U) (ds:=[.str f]) q.bC (q.eU V (by room) V rfl (by decide)) (by room) (W.cons (R.K 2 V) W.nil V) (Lg q (n:=n) V rfl f) V e V) (.inl V) V rfl λs o B J H=>?_;obtain⟨d,m,rfl,rfl,rfl⟩:=J;have y:(b.dc,j.ns b.attrs)∈(d,j.slots 95 [.str f,.int 0,.val<| .ref m])::(m,.list [])::b.D:=A<|A b.eR;show#[b.cp,f,eB b.br,[(d,.slots 95 [.str f,.int 0,.val<| .ref m]),(m,.list []),(b.x,.aG (c1 192 b.dc)),(b.dc,.ns b.attrs)],kn b.bo++d9 b.br,V,by rw[a6];unfold aC;show b0,
   R.fk (r:=.val<| .ref b.x) (R.K 1 V) (ax.il q V b (A<|A b.eI) y).1 V,by show R.K 2 V,S.nil λk t=>?_]
  show xn _ ({b with br:=b.br++[#[f,d,m,0,[]]]}) d _ H (.inr #[C,m,V]) ?_<|t.ef<|aL.cH [1,2,0] rfl;rw[Lj C];have J:∀(q y r:aD)(B C p:T×j),(q++B::C::p::(r++y)).Perm (B::C::p::(r++(y++q))):=λq y r B C p=>by
   simpa using(Lm (l₁:=q) (l₂:=B::C::p::(r++y)))
  simpa[ax.D,vg,Lh,eB,ax.attrs,lM]using(J [(d,.slots 95 [.str f,.int 0,.val<| .ref m]),(m,.list [])] (d9 b.br) (kn b.bo) (b.x,.aG (c1 192 b.dc)) (b.dc,.ns b.attrs) (b.cp,.bN (eB b.br++[(f,.val (.ref d))])))
 .rcases vh b.br f with⟨k,_⟩|⟨K,x,L,M,N,P⟩
  .replace F:=k▸F;cases F
  .mspec P;show S.nil λk t=>#[_,b,x.y,_,λp G=>G,.inl<|BE K x L M N V rfl,eH _,t.ef<|aL.cH [1,2,0] rfl]
 .rintro k Q;show bB λp k=>?_;show xm Q λs h d o H m l t=>?_;show k ?_;clear k p;show eO #[U,n+2,bU (bi 135<|a U) D 135,s,[("self",.val (.ref b.x)),("node",.str f),("result",.val (.ref d))],o] v V rfl rfl rfl rfl t ?_;mexact S.qI (bg:=h.D) (af:=.val<| .ref d) (R.K 2 V) V (E.bd _) (λw G=>?_) l<|f5 h d V rfl m;show aX (ck<|I h d m w G) λb f k=>?_;show iw.mpr<|as b (l.mem_iff.mpr f) k
def DG (g:aR U){b:bc}{l:aO}{n:Nat}{keep:aD}(m:b.d=U)(o:b.n=n+3)(a:ax)(f:i)(p:a.br.length<=1000)(q:b.D.Perm (a.D++keep)):
 dX b l (.ref 135) [.val<| .ref a.x,.str f] (λh j k=>∃d e,j=d.D++keep/\k=.val (.ref e)/\mv a f d e):=by
 subst m;show(Lk g).mr (n:=n+2) (ah:=a.D) (keep:=keep) o V q (λb h h0=>Ll g n b h _ a f p) λj k l=>f4 l λd e a b f=>f5 d e (by show aI a V) b f
end
def gJ.Ln (g:hD x #[n::r::m,[]]=(sC m >>= λh=>pure [(B,n),(M,r),(S4,h)]))
 (i:a9 w (l b.heap X) n S5) (j:a9 w (l b.heap X) r S6) (f:aN w (l b.heap X) m ds) (a:ds.length<=aC) (k:∀p∈X,∃o,b.heap.get? p=O o):gJ w x #[n::r::m,[]] [B,M,S4] X [S5,S6,.bQ ds] b:=.mk λh p q d=>by
 mspec g;unfold sC;show ap (uq ?_ (by replace a:=f.length▸a;show a));have a:=E.push b.heap {cls:=.type "tuple",data:=.seq m.toArray};have g:b.heap.objs.size∉X:=λh=>by show v (k _ h) λo d=>?_;show mQ _<|gl d
 show ba<|d [n,r,.ref b.heap.objs.size] _ b.toks a<| .cons (i.keep<|l.keep _ a)<| .cons (j.keep<|l.keep _ a)<| .cons (.bQ (a1:=m) #[_,cb _ (dL b.heap e) g,V,0,V]<|f.keep<|l.keep _ a) .nil
def gJ.Lo (g:hD w #[n::m,[]]=(sC m >>= λh=>pure [(x,n),(B,h)]))
 (i:a9 r (l b.heap X) n M) (f:aN r (l b.heap X) m ds) (a:ds.length<=aC) (j:∀k∈X,∃o,b.heap.get? k=O o):gJ r w #[n::m,[]] [x,B] X [M,.bQ ds] b:=.mk λh k p d=>by
 mspec g;unfold sC;show ap (uq ?_ (by replace a:=f.length▸a;show a));have a:=E.push b.heap {cls:=.type "tuple",data:=.seq m.toArray};have g:b.heap.objs.size∉X:=λh=>by show v (j _ h) λo d=>?_;show mQ _<|gl d
 show ba<|d [n,.ref b.heap.objs.size] _ b.toks a<| .cons (i.keep<|l.keep _ a)<| .cons (.bQ (a1:=m) #[_,cb _ (dL b.heap e) g,V,0,V]<|f.keep<|l.keep _ a) .nil
section
variable {Y:bc}{I:aO}
inductive y2 (Y:bc)(I:aO)(ce:Nat->iR)(aa:aM)(n:Nat)(bR:aM):Prop
 |mk (a:aY) (Γ:be) (own:aD) (b:cs aa bR I.bY) (d:∀ac∈Y.X,ac∈a) (cC:ce n Γ own) (e:u I #[Y.d,Y.n,Y.J,a,Γ,own] bR.heap):y2 Y I ce aa n bR
def g.vi (ce:Nat->iR)(o:Nat)(h0:ce o Y.p Y.D)
 (y:∀n e Γ own,(∀p∈Y.X,p∈e)->ce n Γ own->xZ #[Y.d,Y.n,Y.J,e,Γ,own] I B body (rZ (nf Y I<|qm ce n) r) λb=>b=aj->S I #[Y.d,Y.n,Y.J,e,Γ,own] M r):g Y I (.While B body M pos) r:=.mk λf h B i r=>by
 show wpAny_While<|codeAny_whileLoop (y2 Y I ce h) ?_ o #[Y.X,Y.p,Y.D,cs.bd h,λp d=>d,h0,r];rintro n q ⟨e,Γ,own,s,A,C,j⟩;cases y n e Γ own A C with|mk b D E F=>
 show D.go f _ _ _ i.todz j.tocU λt u v=>?_;cases b with
 |false=>show dq ((F V).go f {q with heap:=t,toks:=u} _ i<|j.keep v) (λw k a=>#[s.gH.trans a.1,a.2]) λl l I=>I
 |true=>
  show dq ((E H).go f {q with heap:=t,toks:=u} _ i<|j.keep v) (λw k a=>?_) λl l I=>I;have m:=s.gH.trans a.1;have x:nf Y I (qm ce n) k.heap->∃d,d<n/\y2 Y I ce h d k:=λ#[e,f,h,i,#[d,j,k],l]=>#[d,j,e,f,h,m,i,k,l];cases w with
  |next=>show x a.2|cont=>show x a.2|brk=>show#[m,a.2]|ret d=>show#[m,a.2]
def S.vj {d:cl}(e:iR)(f:g Y I d (c0 (nf Y I e) m))(h:∀a Γ own,(∀i∈Y.X,i∈a)->e Γ own->S I #[Y.d,Y.n,Y.J,a,Γ,own] b m):S I Y (d::b) m:=
 S.cons f λf #[a,Γ,own,d,e,i]=>eO #[Y.d,Y.n,Y.J,a,Γ,own] I V rfl rfl rfl rfl i (h a Γ own d e)
def a9.y3 (r:a9 m (l b X) n (.bQ ds)):∃a d,n=.ref a/\IsTup b a d.toArray/\aN m (l b X) d ds/\a∉X:=by
 show cm r.is λa a d=>?_;show eN d λb r=>?_
 .show kM _ _ V (b.keeps l.of) r<|λd=>?_;show aX b λo e a=>?_;show b5 (cT _ d) e
def bO.DH (a:ds.length<2^62):bO Y (.builtin "len") [.bQ ds] (.int ds.length):=.mk λa b f g h i j d e=>by
 show v d.one λf a=>?_;show ci a λd=>?_;show cm d.y3 λg f a=>?_;show xj a λd g h=>?_;have a:f.toArray.size=ds.length:=by simpa using g.length
 show PyProof.Rows.len_tuple d (by mspec a;omega)<|a▸e _ b.heap _ (E.bd _) (.int _ _)
def cA.bQ:cA Y (.Name b n) (.bQ ds) ds:=.mk λd b i j l n p h k=>by
 show cm h.y3 λd f i=>?_;show xj i λh m r=>?_;have j:b.heap.IsTuple d f.toArray:=h;have s:d<b.heap.objs.size:=by show aX h λo I i=>?_;show gl I
 show wpAny_pyIter_tuple j ?_;have t:f.toArray.size=ds.length:=by simpa using m.length
 have n:=E.push b.heap {cls:=.type "tuple_iterator",data:=.fields (aRR [.ref d,.int 0 0])};show k b.heap.objs.size [b.heap.objs.size,d] (λa l=>f.toArray[a]?=O l) (λa j=>j.IsTupleIter b.heap.objs.size d a/\j.IsTuple d f.toArray) _ #[d3,(λp u=>?_),#[(fo _ (dL _ e) V rfl),IsTup.keeps h n],
  (λa j v=>by show aX v.1 λo I i=>?_;show dm o I),rS (let#[o,I,_]:=h;#[o,I]),uk<| .inl r,n,(λa l g q=>?_),(λp a j l i i h n r i k=>ba k)]
 .have:=Walks.tuple (prog:=Y.d.prog) (w:=Y.d.w) (A:=p) u b.heap.objs.size d (g7 s) f.toArray;replace this:=t▸this;show this
 .show aX (m.get<|gm q) λb x y=>?_;replace g:=(show f.toArray[a]?=f[a]? by simp)▸g;replace g:=x▸g;cases g;show as _ (gm q) y
def cA.bN {f:be}(a:aq Y r (.bN f)):cA Y (.Name n w) r (f.map λd=>.str d.1):=.mk λn i q s p t h g k=>by
 obtain⟨l,rfl,m⟩:=a.obj h g;have u:=a.xO g;show gj m.mc λg a q s h=>?_;show v q.dictAt λt m=>?_;have w:=m.lt_size;show wpAny_pyIter_dict a m ?_;have x:g.length=(f.map λd=>j.str d.1).length:=by have:=congrArg fN s;simpa using this
 show k i.heap.objs.size [i.heap.objs.size,l] (λa n=>∃b p,g[a]?=O (b,p)/\(strKind Y.d.prog Y.d.w).is b n=z) (λa h=>h.IsKeyIter i.heap.objs.size l a g.length t/\h.DictAt (strKind Y.d.prog Y.d.w) l g t) _ #[d3,(λp y=>?_),
  #[(fo _ (dL _ e) V rfl),m.push _],(λa h i=>by show aX i.1 λo I g=>?_;show dm o I),rS (let#[o,_,_,I,_]:=q;#[o,I]),uk u,(E.push _ _),(λa n i l=>?_),(λp a h n g g l m q g k=>ba k)]
 .show x▸IR y _ _ (g7 w) _ _
 .show gi i λb g A i=>?_;show v (IP i) λB g=>?_;show bw g ?_;have:(f.map (·.1))[a]?=O b:=by show ch s ?_;simp[A]
  show as (.str b) ?_<| .str b B;simp only[e6,f2]at this ⊢;obtain⟨d,C,rfl⟩:=this;show as d C V
def DI {a:Array a3}{n:Nat}(b:a.size=n):(!a.isEmpty)=decide (0<n):=by
 subst b;cases hs:a.size with
 |zero=>simp[Lp,hs]|succ n=>simp[Lp,hs]
def eF.list {r:j}(a:aq Y r (.list ds))(b:ds.length<2^62):eF Y r (decide (0<ds.length)):=.mk λf g h i k l b d e=>by
 show v (a.obj b d) λg f=>?_;show ci f λa=>?_;show aX a.ey λb d f=>?_;have a:b.toArray.size=ds.length:=by simpa using f.length
 show wpAny_truthy_list (PlainList.fV d) (by mspec a;omega) ?_;mspec DI a;show e _
def Lq (e:T)(d:Array a3)(h:(d.size:Int)<2^63):
 og (Builtin.«bool.__new__» #[[.type "bool",.ref e],[]]) (λi f a=>a.heap.IsList e d/\∀g,f (.ok<| .ret<| .bool<|!d.isEmpty) {a with toks:=g}):=
 uP λd e i f a b=>by
  obtain⟨d,e,f,g,i⟩:=a;show am b λa b=>?_;have d:=F.conv_sub_bool
  repeat(any_goals (first|assumption|(with_reducible show wpAny_truthy_list a h ?_)|wp_step))
  all_goals first|show as _ rfl (b _)|show b _|skip
def bO.Lr {r:j}(b:aq Y r (.list ds))(a:ds.length<2^62):bO Y (.type "bool") [r] (.bool<|decide (0<ds.length)):=.mk λa e f g k l d h i=>by
 show v h.one λk a=>?_;show ci a λh=>?_;show v (b.obj d h) λk a=>?_;show ci a λb=>?_;show aX b.ey λa h d=>?_;have b:a.toArray.size=ds.length:=by simpa using d.length
 have l:=DI b;show call_bool_1 (Lq k a.toArray (by mspec b;omega)) (show _/\∀a,wants (λb d=>d.TypeIs b "bool"/\f b d) g _ _ from#[PlainList.fV h,λa=>#[V,?_]]);mspec l;show i _ e.heap a (E.bd _)<| .bool _
def g.DJ (s:R Y arg af)(a:R Y o (.val<| .ref ac))
 (h:Y.D=bD++(ac,.list ds)::b3) (t:ds.length<=aC) (f:mq Y.J=aj) (q:f7 (.Call (.Attribute o "append" r) [arg] [] m) c pos.line Y.J=pure aj)
 (i:bf [arg] Y.J=(aj,eval arg Y.J)::bf [] Y.J)
 (x:eval (.Call (.Attribute o "append" r) [arg] [] m) Y.J=(do
  let w <-eval o Y.J
  ep r.atName
  let(B,first) <-e5 [w] (gK w "append" M)
  dO m B first (cX m<|bf [arg] Y.J) [])):
 g Y I (.Expr (.Call (.Attribute o "append" r) [arg] [] m) pos) (c0 (u I #[Y.d,Y.n,Y.J,Y.X,Y.p,bD++(ac,.list (ds++[af]))::b3]) S4):=.mk λj m k p d=>by
 show od (jO (pl:=M) (a.go j m _ k p.todz d.tocU λo r w y A=>?_) x) f q;obtain rfl:=A.is;have a:=d.keep y;have m:(ac,.list ds)∈Y.D:=h▸bA ao;show aX ((a.D _ m).2.ey) λq r d=>?_;show v r λn f=>?_;show CE f V rfl (mh (first:=[.ref ac]) ((W.cons s W.nil i).go j _ _ k p.todz a.tocU λy r A w x=>?_) i e);show v x.one λj i=>?_;show ci i λk=>?_;have i:=a.keep w;show am (i.D _ m) λp a=>?_;show aX a.ey λq m d=>?_;show v m λn f=>?_;show us f (λh' a m=>#[.up,?_]) (by simpa[d.length]using t);have f:u I #[Y.d,Y.n,Y.J,Y.X,Y.p,bD++(ac,.list ds)::b3] r:=h▸i;have h:E (l h' Y.X) (l r Y.X):=l.mS λb o n i=>a.extBut b o (λr=>n<|r▸p) i;show f.kV a (.list (a1:=q++[j]) #[n+1,by simpa using m]<|(d.append<| .cons k .nil).keep h)
end
abbrev dk:=List<|i×Int×ak
noncomputable abbrev ax.P (ah:ax):dk:=ah.br.map λdR=>(dR.name,dR.cx,dR.succ)
noncomputable def iZ (bZ:dk)(a:i):dk:=if bZ.any (λaT=>aT.1==a)then bZ else bZ++[(a,0,[])]
noncomputable def vk (bZ:dk)(a:i)(s:Int):dk:=bZ.map λaT=>if aT.1=a then(aT.1,aT.2.1+s,aT.2.2)else aT
noncomputable def po (bZ:dk)(a b:i):dk:=bZ.map λaT=>if aT.1=a then(aT.1,aT.2.1,aT.2.2++[b])else aT
noncomputable def mw (bZ:dk)(a:i)(b:ak):dk:=b.foldl (λbZ ai=>po (iZ bZ ai) ai a)<|vk (iZ bZ a) a b.length
structure fW (ah a:ax):Prop where
 x:a.x=ah.x
 dc:a.dc=ah.dc
 cp:a.cp=ah.cp
 qO:∀ai∈ah.D,ai.1∈aH a.D
def fW.bd (a:ax):fW a a:=#[V,V,V,λb a=>c7 a]
def fW.trans (a:fW m b)(d:fW b n):fW m n:=#[d.x.trans a.x,d.dc.trans a.dc,d.cp.trans a.cp,λe f=>by
 show aX (ck<|a.qO e f) λg h i=>?_;show ch i ?_;show d.qO g h]
abbrev ax.bz (ah:ax):Prop:=(ah.br.map (·.name)).Nodup
noncomputable abbrev ax.mx (ah:ax)(bD:List gd):aD:=(ah.x,.aG (c1 192 ah.dc))::(ah.dc,.ns ah.attrs)::(ah.cp,.bN (eB ah.br))::(kn ah.bo++d9 bD)
def ax.split {ah:ax}{a:gd}(d:ah.br=b++a::m):ah.D=ah.mx b++(a.y,.slots 95 [.str a.name,.int a.cx,.val<| .ref a.cD])::(a.cD,.list (a.succ.map .str))::d9 m:=by
 unfold ax.D ax.mx;mspec(show d9 ah.br=d9 b++(lM a++d9 m)from by show aI d ?_;rw[DF]);simp[lM]
noncomputable abbrev ax.gD (ah:ax)(bD:List gd)(dR:gd)(b3:List gd):ax:={ah with br:=bD++dR::b3}
def ax.vl {a:ax}(d:a.br=b++m::n)(e:ea.name=m.name)(f:ea.y=m.y):(a.gD b ea n).mx b=a.mx b:=by
 unfold ax.mx ax.gD;simp[eB,d,e,f,ax.attrs]
def fW.gD {b:ax}{e f:List gd}{d ea:gd}(g:b.br=e++d::f)(i:ea.name=d.name)(h:ea.y=d.y)(j:ea.cD=d.cD):fW b (b.gD e ea f):=#[V,V,V,λd a=>by
 replace a:=(ax.split g)▸a;mspec ax.split (ah:=b.gD e ea f) V;mspec ax.vl g i h;mspec ik;show cK a (λa=>?_) λa=>?_
 .show bI<|c7 a
 .show bA ?_;show aw (a4 a) (λk=>?_) λa=>?_
  .obtain rfl:=k;show ch h ?_;show ao
  .rcases a4 a with rfl|a
   .show ch j ?_;show A ao
   .show A<|A<|c7 a]
def mv.es (b:mv m o n r):fW m n:=by
 rcases b with⟨_,_,_,_,_,_,rfl⟩|⟨_,d,rfl⟩
 .show fW.bd _
 .show#[V,V,V,λb a=>?_];simp only[ax.D,b7,eV,vg,hP,lY]at a ⊢;rcases a with rfl|rfl|rfl|a|a
  .show .inl V
  .show .inr<| .inl V
  .show .inr<| .inr<| .inl V
  .show .inr<| .inr<| .inr<| .inl<|c7 a
  .show .inr<| .inr<| .inr<| .inr<| .inl<|c7 a
def mv.hE (k:mv b n m o)(g:b.bz):(∃d a e,m.br=d++a::e/\a.name=n/\a.y=o)/\m.bz/\m.P=iZ b.P n/\m.bo=b.bo/\m.bV=b.bV/\m.bH=b.bH/\m.br.length<=b.br.length+1:=by
 rcases k with⟨d,a,e,h,i,l,rfl⟩|⟨j,m,rfl⟩
 .show BG (kL d a e h i l) g ?_ V rfl rfl (lB _);unfold iZ;rw[if_pos];show(ko).mpr ?_;show as (a.name,a.cx,a.succ) (iw.mpr<|as a (by mspec h;simp) V) (by simp[i])
 .show BG (kL b.br _ [] rfl rfl rfl) ?_ ?_ V rfl rfl (by simp)
  .show(?_:(tD _<|b.br++[_]).Nodup);mspec eV;rw[gz];show cG g (by simp)<|λb p d q=>?_;obtain⟨a,f,rfl⟩:=ck p;mspec bW q;show j a f
  .unfold iZ;rw[if_neg]
   .simp[ax.P]
   .rw[ko];intro b;show aX b λd r s=>?_;obtain⟨a,f,rfl⟩:=ck r;show j a f (by simpa using s)
def y4 {b:ax}{h j:List gd}{a ea:gd}(k:b.br=h++a::j)(d:b.bz)(l:i×Int×ak->i×Int×ak)(m:(ea.name,ea.cx,ea.succ)=l (a.name,a.cx,a.succ)):(b.gD h ea j).P=b.P.map λe=>if e.1=a.name then l e else e:=by
 unfold ax.bz at d;rw[k]at d;simp only[eV,b7,gz,ka]at d;show cd d λb e n=>?_;show am e λo b=>?_;unfold ax.P ax.gD;simp only[k,eV,b7,d2];congr 1
 .show hC λf g=>?_;have:f.name≠a.name:=n _ (dI g) _ ao;simp[this]
 .simp only[if_true,<-m];congr 1;show hC λf g=>?_;have:f.name≠a.name:=λa=>o<|a▸dI g;simp[this]
def y5 {a:ax}{b ea:gd}(e:a.br=m++b::n)(d:a.bz)(f:ea.name=b.name):(a.gD m ea n).bz:=by
 unfold ax.bz ax.gD at*;rw[e]at d;simpa[f]using d
section
variable {U:aV}
def Ls (b:aR U):ez U 161 (bi 161<|a U) ["self"] (cf 161<|a U):=
 b.fn V rfl H V rfl (kX λd=>by room)
  (fh V he) (by decide) (show([]:ak).Nodup by decide) e e V
def Lu (i:aR U)(n:Nat)(h:T)(X:aY)(k:aO)(b:ax)(r:T×ak)(l:b.bo=O r)(s:r.2.length<=1000):
 S k #[U,n,bU (bi 161<|a U) h 161,X,[("self",.val (.ref b.x))],b.D] (cf 161<|a U) (er U k b.D λo p=>o=b.D/\p=.bool (decide (b.bH<b.bV)||decide (0<r.2.length))):=by
 have d:=ax.il (Y:=#[U,n,bU (bi 161<|a U) h 161,X,[("self",.val (.ref b.x))],b.D]) i V b b.eI b.eR;have h:mu b.bo=.val (.ref r.1):=by mspec l;rfl
 have f:=d.2.1;rw[h]at f;mexact S.bq (X:=X) (Γ:=[("self",.val (.ref b.x))]) (own:=b.D) (g.dB (an:=aj) (aZ.bK (q:=aj) (ac:=.val<| .ref r.1) (R.fk (R.K 0 V) f V) R.gF av.oZ e) (λm=>by cases m)<|λh=>S.nil λm h=>h) ?_;mexact S.qI (R.or (ac:=.bool<|decide (b.bH<b.bV)) (R.bK (R.fk (R.K 0 V) d.2.2.2 V) (R.fk (R.K 0 V) d.2.2.1 V) av.lt e) eF.bool (λh=>?_)<|λh=>?_) V (E.bd _) (λk d=>c7 d) (eH _) #[V,V]
 .mspec h;rw[Lv];show R.of_eq (R.mX (ds:=[_]) (i.eX V rfl (by room) (by decide) V rfl rfl (by decide)) (W.cons (R.fk (R.K 0 V) f V) W.nil V) (bO.Lr (aq.D (show(r.1,j.list (r.2.map .str))∈b.D from A<|A<|A<|bI (by mspec l;show ao))) (by rw[a6];show gu)) V e V) ?_;rw[a6]
 .mspec h;rw[Bool.true_or]
def Lw (d:aR U){b:bc}{h:aO}{n:Nat}{keep:aD}(i:b.d=U)(j:b.n=n+1)(a:ax)(r:T×ak)(k:a.bo=O r)(l:r.2.length<=1000)(m:b.D.Perm (a.D++keep)):
 dX b h (.ref 161) [.val<| .ref a.x] (λe f g=>f=a.D++keep/\g=.bool (decide (a.bH<a.bV)||decide (0<r.2.length))):=by
 subst i;show(Ls d).mr (n:=n) (ah:=a.D) (keep:=keep) j V m (λb e h0=>Lu d n b e _ a r k l) λf g h=>am h λa b=>#[by show aI a V,b]
end
section
variable {U:aV}
def aR.y6 (d:aR U)(f:(a U).lookup b=O o)(hd:o.data=.func (bi b<|a U))(g:codeIn (a U) (bi b<|a U).code (bi b<|a U).qualname=z)(h:(bi b<|a U).body=.stmts body)(i:(bi b<|a U).closure=[])
 (j:∀e∈m,(bi b<|a U).scope.names.lookup e=O .local\/((bi b<|a U).scope.names.lookup e=O .cell/\∀k,((iB k (bi b<|a U).scope.names []).lookup e).isSome=z)) (l:m.Nodup)
 (n:((iB 0 (bi b<|a U).scope.names []).map (·.1)).Nodup) (p:(bi b<|a U).scope.isCoroutine=aj) (gen:(bi b<|a U).scope.isGenerator=aj) (q:(bi b<|a U).scope.kind=.function):hc U b (bi b<|a U) m body:=by
 show bB λe b=>?_;show hx d.kb λm r s t u k=>?_;show b ?_;clear b e;show#[(as o (d.bC _ _ f) hd),k.nolimit,codeRec_of d.bC g,h,i,j,l,n,p,gen,q]
def DK (b:aR U):hc U 142 (bi 142<|a U) ["self","node","predecessors"] (cf 142<|a U):=
 b.y6 V rfl H V rfl (fh V<|fh V<|fh V he) (k H) (by decide:([]:ak).Nodup) e e V
def DL (d:a9 U (l b.heap X) n r)(e:a9 U (l b.heap X) w x)(f:aN U (l b.heap X) m ds)(g:ds.length<=aC)(h:∀i∈X,∃o,b.heap.get? i=O o):
 gJ U (bi 142<|a U) #[n::w::m,[]] ["self","node","predecessors"] X [r,x,.bQ ds] b:=
 gJ.Ln (by cases m<;>room) d e f g h
structure kp (ah:ax)(bZ:dk)(s:Nat)(a:ax):Prop where
 es:fW ah a
 bz:a.bz
 P:a.P=bZ
 bo:a.bo=c
 bV:a.bV=ah.bV
 bH:a.bH=ah.bH
 len:a.br.length<=ah.br.length+s
def fF (aE:Nat)(bZ:dk):Prop:=∀aT∈bZ,aT.2.2.length<=aE
def vm (b:fF m n)(a:i):fF m (iZ n a):=by
 unfold iZ;split
 .show b
 .intro d a;show cK a (λa=>?_) λa=>?_
  .show b d a
  .mspec bW a;simp
def DM (a:fF b m)(d:i)(e:Int):fF b (vk m d e):=λb f=>by
 obtain⟨g,h,rfl⟩:=ck f;have:=a g h;split<;>show this
def Lx (a:fF b m)(d e:i):fF (b+1) (po m d e):=λb f=>by
 obtain⟨g,h,rfl⟩:=ck f;have:=a g h;split
 .simp;show this
 .show b9 [.C G N] 0 G (.Q N) H this
theorem y7 (e:i):∀(b:ak){a:dk},fF aE a->fF (aE+b.length) (b.foldl (λa d=>po (iZ a d) d e) a)
 |[],a,f=>f|d::b,a,f=>by
  have:=y7 (aE:=aE+1) e b<|Lx (vm f d) d e;mspec hV;mspec eA;mspec Bq b.length 1;rw[<-vn];show this
noncomputable abbrev qP (U:aV)(ca:T):b1:=bU (bi 142<|a U) ca 142
noncomputable abbrev vo (ae:T)(a:i):be:=[("self",.val (.ref ae)),("node",.str a)]
noncomputable abbrev Ly (U:aV):List cl:=lC (cf 142<|a U) 3
def kp.trans {g d:dk}{e f:Nat}(a:kp m g e n)(b:kp n d f o):kp m d (e+f) o:=
 #[a.es.trans b.es,b.bz,b.P,b.bo,b.bV.trans a.bV,b.bH.trans a.bH,a5 b.len<|a5 (Bv a.len _)<|ay (vn ..)]
def mv.DN (f:mv b m n o)(g:b.bz)(h:b.bo=c):∃d a e,n.br=d++a::e/\a.name=m/\a.y=o/\kp b (iZ b.P m) 1 n:=by
 show bB λi b=>?_;show tV (f.hE g) λj k l m n o p=>?_;show l4 j λd a e g q r=>?_;show b ?_;clear b i;show#[d,a,e,g,q,r,f.es,k,l,m.trans h,n,o,p]
def DO {a ea:gd}(d:b.br=m++a::n)(h:b.bz)(l:b.bo=c)(e:ea.name=a.name)(j:ea.y=a.y)(o:ea.cD=a.cD)(f:i×Int×ak->i×Int×ak)(p:(ea.name,ea.cx,ea.succ)=f (a.name,a.cx,a.succ)):
 ∃k,kp b (b.P.map λg=>if g.1=a.name then f g else g) 0 k/\k.D=b.mx m++(ea.y,.slots 95 [.str ea.name,.int ea.cx,.val<| .ref ea.cD])::(ea.cD,.list (ea.succ.map .str))::d9 n:=
 (as (b.gD m ea n) #[fW.gD d e j o,y5 d h e,y4 d h f p,l,V,V,by mspec d;simp[ax.gD]] (by mspec ax.split (ah:=b.gD m ea n) V;show aI (ax.vl d e j) V))
def Lz (o:aR U)(n:Nat)(t:T)(X:aY)(v:aO)(d:ax){p:T}(F:d.x=p)(f h:i)(G:d.bo=c)(I:d.bz)(J:d.br.length<=1000)(K:fF 1000 (iZ d.P h))(w:c9)
 (L:∀x y l,(∀M∈X,M∈x)->kp d (po (iZ d.P h) h f) 1 y->u v #[U,n+3,qP U t,x,vo p f,y.D] l->w .next l):
 S v #[U,n+3,qP U t,X,bj "pred" (.str h)<|vo p f,d.D] (Ly U) w:=by
 subst F;mexact S.kj (aS.yJ (au:=a U) (ds:=[.str h]) o.bC d.eI d.eR (by rfl) DC (R.K 1 V) (W.cons (R.K 0 V) W.nil V) (DG o (n:=n) (keep:=[]) V rfl d h J (by rw[fj])) V e V) (.inl V) V λN t v p P=>?_;show cm p λs h d=>?_;show rI d λQ=>?_;show bB λY A=>?_;obtain⟨B,b,C,m,rfl,rfl,k⟩:=Q.DN I G;show A ?_;clear A Y;rw[fj];have Z:(b.y,j.slots 95 [.str b.name,.int b.cx,.val<| .ref b.cD])∈s.D:=ax.split m▸bA ao;have S4:=K (b.name,b.cx,b.succ)<|k.P▸iw.mpr (as b (m▸bA ao) V);show aX (DO (ea:={b with succ:=b.succ++[f]}) m k.bz k.bo V rfl rfl (λd=>(d.1,d.2.1,d.2.2++[f])) V) λD E S5=>?_;rw[k.P]at E;mexact S.cons (g.DJ (af:=.str f) (ac:=b.cD) (ds:=b.succ.map .str) (bD:=s.mx B++[(b.y,.slots 95 [.str b.name,.int b.cx,.val<| .ref b.cD])]) (b3:=d9 C) (R.K 3 V)
  (R.fk (r:=.val<| .ref b.y) (R.K 0 V) (f9.slot (au:=a U) o.bC (ac:=b.y) (q:=95) (ds:=[.str b.name,.int b.cx,.val<| .ref b.cD]) Z V (.ref _) ve) V) (by rw[hX];show ax.split m) (by rw[a6];show a5 S4<|fT H) e V rfl rfl)<|ux.of ?_
 mspec(by show aI S5 ?_;rw[hX];show aI eV ?_;rfl:s.mx B++[(b.y,j.slots 95 [.str b.name,.int b.cx,.val<| .ref b.cD])]++(b.cD,.list (b.succ.map .str++[.str f]))::d9 C=D.D);show S.nil λl b=>L N D l P (k.trans E)<|b.ef<|aL.cH [2,3] rfl
inductive DP (ah:ax)(a:i)(bZ:dk)(s:Nat)(Γ:be)(own:aD):Prop
 |mk (b:ax) (d:aL Γ (vo ah.x a)) (e:own=b.D) (aJ:kp ah bZ s b):DP ah a bZ s Γ own
noncomputable abbrev y8:=λ(ah:ax) (a:i) (b:ak)=>([("self",.val (.ref ah.x)),("node",.str a),("predecessors",.bQ (b.map .str))]:be)
def LA (l:aR U)(n:Nat)(v:T)(X:aY)(D:aO)(f:ax)(s:i)(h:ak)(S5:f.bo=c)(Tg:f.bz)(L:f.br.length+h.length<=900)(S6:Nat)(Th:fF S6 f.P)(Ti:S6+h.length<=900):
 S D #[U,n+3,qP U v,X,y8 f s h,f.D] (cf 142<|a U) (er U D f.D λTj M=>M=.none/\∃w,Tj=w.D/\kp f (mw f.P s h) (1+h.length) w):=by
 have S7:=(ax.il (Y:=#[U,n+3,qP U v,X,y8 f s h,f.D]) l V f f.eI f.eR).2.1;rw[S5]at S7;have Tk:f.br.length<=1000:=a5 (oW ..)<|a5 L<|fT H;have Tl:h.length<=900:=a5 (Nat.le_add_left ..) L;mexact S.bq (X:=X) (Γ:=y8 f s h) (own:=f.D) (g.dB (an:=aj) (aZ.bK (q:=aj) (ac:=.none) (R.fk (R.K 0 V) S7 V) R.gF av.qb e) (λt=>by cases t)<|λF=>S.nil λt x=>x) ?_;mexact S.kj (aS.yJ (au:=a U) (ds:=[.str s]) l.bC f.eI f.eR (by rfl) DC (R.K 0 V) (W.cons (R.K 1 V) W.nil V) (DG l (n:=n) (keep:=[]) V rfl f s Tk (by rw[fj])) V e V) (.inl V) V λTm S7 Tj S6 Tw=>?_;show cm S6 λP S7 s=>?_;show rI s λTn=>?_;show bB λTo S8=>?_;obtain⟨Tp,d,Tq,Q,rfl,rfl,J⟩:=Tn.DN Tg S5;show S8 ?_;clear S8 To;rw[fj];have Tr:(d.y,j.slots 95 [.str d.name,.int d.cx,.val<| .ref d.cD])∈P.D:=ax.split Q▸bA ao;show aX (DO (ea:={d with cx:=d.cx+h.length}) Q J.bz J.bo V rfl rfl (λA=>(A.1,A.2.1+h.length,A.2.2)) V) λZ S9 Ts=>?_;rw[J.P]at S9;mexact S.yH (o:=.Name "nodeinfo" _) (r:=.val<| .ref d.y) (ac:=d.cx) (q:=h.length) (bg:=Z.D) (R.K 0 V)
  (f9.slot (au:=a U) l.bC (ac:=d.y) (q:=95) (ds:=[.str d.name,.int d.cx,.val<| .ref d.cD]) Tr V (.int _) lK)
  (R.of_eq (R.jG (ds:=[_]) (l.eX V rfl (by room) (k H) V rfl rfl (k H)) (W.cons (R.K 3 V) W.nil V) (bO.DH (by rw[a6];show tJ Tl<|DQ (Nat.lt_of_sub_eq_succ V) V)) V e V)<|by rw[a6]) ?_ ?_
 .mspec Ts;show e9.slot (Y:=#[U,n+3,qP U v,Tm,bj "nodeinfo" (.val<| .ref d.y) [("self",.val (.ref f.x)),("node",.str d.name),("predecessors",.bQ (h.map .str))],P.D]) (I:=D) (au:=a U) l.bC (af:=.int<|d.cx+h.length) (bD:=P.mx Tp) (b3:=(d.cD,.list (d.succ.map .str))::d9 Tq) (ax.split Q) (fT V) lK sB
 mexact S.seq (g.ms (ce:=λB Γ own=>DP f d.name ((h.take B).foldl (λs m=>po (iZ s m) m d.name)<|vk (iZ f.P d.name) d.name h.length) (1+B) Γ own) (λF F=>False) [] Z.D V (aS.of<|R.K 3 V) (λb t=>by cases t) cA.bQ #[Z,aL.cH [1,2] rfl,V,J.trans S9] (λM F=>.name<| .inl V) ?_ ?_<|λF=>rfl)
 .intro B M K Γ own Tt hd u _ Tu;cases u with|mk Ta Tb S4 p=>
  subst S4;rw[e6,f2]at hd;obtain⟨m,Tc,rfl⟩:=hd;have s:B<h.length:=(gG.mp Tc).1;mexact S.dV (Y:=#[U,n+3,qP U v,K,gp (.Name "pred" #[_,_,_,_]) (.str m) Γ,Ta.D]) (eG:=bj "pred" (.str m)<|vo f.x d.name) (Tb.bj _ _)<|Lz l n v K (D.at Tt) Ta p.es.x d.name m p.bo p.bz ?_ ?_ _ λF J t M Td x=>#[F,_,_,M,#[J,aL.bd _,V,?_],x]
  .show a5 p.len<|a5 (p0 (p0 (iD s) 1) _)<|b9 [.C (.y G N)<| .n 900] 0 (.y G<| .y (.n 1) N) (.n 1000) H L
  .have Te:=y7 d.name (h.take B)<|DM (vm Th d.name) d.name h.length;rw[<-p.P]at Te;show λA d=>a5 (vm Te m A d)<|a5 (p0 (LB ..) _)<|a5 Ti<|fT H
  .mspec nh Tc;mspec iX;rw[p.P]at Td;show p.trans Td
 .intro K Γ own t Tu u x;rcases u with u|Tv
  .rw[a6,iU]at u;cases u with|mk w Tb S4 Tf=>
   subst S4;show .mk (X:=K) (Γ:=Γ) (own:=w.D) x<|S.si V (E.bd _) Tf.es.qO (eH _) #[V,w,V,Tf]
  .show Tv.elim
def DR (j:aR U)(s:m.d=U)(t:m.n=n+4)(a:ax)(e:i)(b:ak)(w:a.bo=c)(x:a.bz)(k:a.br.length+b.length<=900)(g:Nat)(A:fF g a.P)(B:g+b.length<=900)(D:m.D.Perm (a.D++keep))
 (o:cv) (h:aW) (_:u M m h) (d:aN m.d (l h m.X) o (.val (.ref a.x):: .str e::b.map .str)):
 oj m M (.ref 142) o h (λp q r=>r=.none/\∃f,q=f.D++keep/\kp a (mw a.P e b) (1+b.length) f):=by
 subst s;cases d with
 |cons E d=>
  cases d with
  |cons F d=>
   show(DK j).mr (n:=n+3) (ah:=a.D) (keep:=keep) (ds:=[.val<| .ref a.x,.str e,.bQ<|b.map .str]) t V D (λh I J=>?_) (λh p h0=>LA j n h p _ a e b w x k g A B) λq r K=>?_
   .subst I;show DL E F d (by rw[a6];unfold aC;show b9 [.C (.y N G)<| .n 900] 0 G (.n<|2^24) H k) J.cw
   .show am K λa b=>?_;show v b λf d=>?_;show ci d λb=>?_;show#[a,f,V,b]
def LC (g:aR U)(h:m.d=U)(j:m.n=n+4)(a:ax)(d:i)(b:ak)(k:a.bo=c)(l:a.bz)(o:a.br.length+b.length<=900)(e:Nat)(p:fF e a.P)(q:e+b.length<=900)(r:m.D.Perm (a.D++keep)):
 dX m w (.ref 142) (.val (.ref a.x):: .str d::b.map .str) (λu s t=>t=.none/\∃f,s=f.D++keep/\kp a (mw a.P d b) (1+b.length) f):=
 oj.call (DR g h j a d b k l o e p q r)
end
noncomputable def LD (aE:ib α):dF->ib α:=ib.casesOn aE (λa=>λa=>aE) (λa=>λa=>aE) (λa=>λa=>aE) (λa=>λa=>aE) (λa a=>λa=>aE) (λa a=>λa=>aE) (λa a s=>s) (λa a a a=>λa=>aE) (λa a=>λa=>aE) (λa a=>λa=>aE) (λa a=>λa=>aE) (λa a=>λa=>aE) (λa=>λa=>aE) (λa=>λa=>aE) (λa a a=>λa=>aE) (λa a a=>λa=>aE) (λa a a a a=>λa=>aE) (λa a=>λa=>aE) (λa a=>λa=>aE) (λa a=>λa=>aE) (λa a a a=>λa=>aE) (λa a a a=>λa=>aE) (λa=>λa=>aE) (λa a=>λa=>aE) (λa=>λa=>aE)<|λa a a a a=>λa=>aE
def gJ.LE (a:hD n #[[b],[]]=(load ac >>= s))(d:m.heap.get? ac=O o)(e:s o=pure [(r,b),(w,.none)])
 (f:a9 x (l m.heap X) b B):gJ x n #[[b],[]] [r,w] X [B,.none] m:=.mk λh i j g=>by
 mspec a;show ap (sg d (by mspec e;show ba<|g [b,.none] m.heap m.toks (E.bd _)<| .cons f<| .cons .none .nil))
section
variable {Y:bc}{I:aO}{au:fl}
def R.sD (a:R Y m (.val<| .int b aT)):R Y m (.int b):=.mk λd e f g h i j=>a.go d e f g h i λk h' l m r=>j k h' l m (by obtain rfl:=r.is;show .int b aT)
def u.lO (a:u I Y m)(d:Y.D.Perm bg):u I #[Y.d,Y.n,Y.J,Y.X,Y.p,bg] m:=
 {base:=a.base,cw:=a.cw,d8:=a.d8,kind:=a.kind,db:=a.db,ns:=a.ns,cells:=a.cells,apart:=a.apart,cn:=a.cn,ft:=a.ft,new:=a.new,sub:=a.sub
  D:=λb e=>a.D b (d.mem_iff.mpr e)
  cM:=λb e=>a.cM b (d.mem_iff.mpr e)
  dr:=d.pairwise a.dr<|λm b=>m b.symm}
def S.lO (a:Y.D.Perm bg)(r:S I #[Y.d,Y.n,Y.J,Y.X,Y.p,bg] b m):S I Y b m:=S.ql (λe d=>d.lO a) r
def S.qL {aB:Prop}(d:∀a,u I Y a->aB)(r:aB->S I Y b m):S I Y b m:=.mk λe f g h a=>(r<|d _ a).go e f g h a
def g.LF (k:R Y o (.val<| .ref ac))
 (d:Y.D=w++(ac,.list ds)::x) (l:ds.length<=aC) (p:mq Y.J=aj) (q:f7 (.Call (.Attribute o "clear" r) [] [] m) c pos.line Y.J=pure aj)
 (t:eval (.Call (.Attribute o "clear" r) [] [] m) Y.J=(do
  let B <-eval o Y.J
  ep r.atName
  let(M,first) <-e5 [B] (gK B "clear" S4)
  dO m M first (cX m<|bf [] Y.J) [])):
 g Y I (.Expr (.Call (.Attribute o "clear" r) [] [] m) pos) (c0 (u I #[Y.d,Y.n,Y.J,Y.X,Y.p,w++(ac,.list [])::x]) S5):=.mk λm f r y h=>by
 show od (jO (pl:=S4) (k.go m f _ r y.todz h.tocU λo i A C D=>?_) t) p q;obtain rfl:=D.is;have j:=h.keep C;show am (j.D _ (show(ac,.list ds)∈Y.D from d▸bA ao)) λk h=>?_;show aX h.ey λm k E=>?_;show v k λn a=>?_;show qw (PlainList.fV #[n,a]).typeIs Jn PySem.F.slot_list_clear PySem.F.type_list_clear (λb I=>by cases I;show as _ a V) ?_;show PySem.P.clear_list (s:={f with heap:=i,toks:=A}) a #[.up,?_] (by simpa[E.length]using l);show(show u I #[Y.d,Y.n,Y.J,Y.X,Y.p,w++(ac,.list ds)::x] i from by show d▸j).kV (jh ..)<| .list (a1:=[]) ?_ .nil;have:=nc (jn λd=>(aRR [])) a e;show dm _ this
def dX.LG (X:au.In Y.d.B)(x:makesIn au m=z)(y:sk au (.ref m) "__init__"=O (O<| .ref ol))(J:sl au (.ref ol)=O (.type "function"))(K:Y.n=n+1)
 (L:∀f h i a,f∉Y.X->h∉Y.X->aN Y.d (l a<|f::h::Y.X) i ds->oj #[Y.d,n,Y.J,f::h::Y.X,Y.p,(f,.aG (c1 m h))::(h,.ns [])::Y.D] I (.ref ol) (.ref f::i) a (λp q r=>r=.none/\M p q (.val<| .ref f))):dX Y I (.ref m) ds M:=.mk λt N f h i u g w b=>by
 obtain⟨a,P,r,Q,R⟩:=N;dsimp only at g w b;show hS<|make_core (makes_of (g.tocU.bC X) x) (looks_findIn (g.tocU.bC X) y) (λf=>bind_fn (g.tocU.bC X) f J) (.inl H) ?_;have f:(a.push f6).objs.size=a.objs.size+1:=mi ..;have s:=g.iG d3;have h:(a.push f6).get? a.objs.size=O f6:=dL _ e;have x:=g.gI d3 #[_,h]<|E.push _ _;have g:(a.push f6).get? (a.objs.size+1)=c:=f▸d3;have y:((a.push f6).push<|c1 m a.objs.size).get? (a.objs.size+1)=O (c1 m a.objs.size):=f▸dL _ e;have j:=x.iG g;have f:=x.gI g #[_,y]<|E.push _ _;have S:a.objs.size+1≠a.objs.size:=Nat.succ_ne_self _;have g:=f.ih (ac:=a.objs.size) (af:=.ns []) (A ao) (.ns (dy:=[]) (n:=0) (show((a.push f6).push<|c1 m a.objs.size).get? a.objs.size=O f6 from gk _ h) .nil) s.2.2.1 s.1;have B:=g.ih (ac:=a.objs.size+1) (af:=.aG<|c1 m a.objs.size) ao (.aG y) j.2.2.1 (λd=>by
  show aw (iF d) (λb=>?_) λf=>aw f (λg=>?_) λT=>?_
  .show j.1<|b▸ao
  .show v g λf h=>?_;show am h λk b=>?_;show j.1<|b▸A (bI<|dI k)
  .obtain⟨f,k,b⟩:=T;rcases a4 k with rfl|k
   .show S b
   .show j.1<|b▸A (bA<|dI k))
 have U:E (l ((a.push f6).push<|c1 m a.objs.size)<|(a.objs.size+1)::a.objs.size::Y.X) (l a Y.X):=λC o b=>by
  have f:=l.of _ _ b;show cb _ (gk _<|gk _ f) λd=>?_;have D:=gl f;show aw (a4 d) (λW=>?_) λd=>?_
  .obtain rfl:=W;show absurd D<|g8.mpr<|lB _
  .rcases a4 d with rfl|d
   .show absurd D<|mQ _
   .show b5 (cT _ d) b
 show(L (a.objs.size+1) a.objs.size i _ (λd=>j.2.1<|A d) s.2.1<|w.keep U).go _ #[(a.push f6).push<|c1 m a.objs.size,P,r,Q,R] _ ?_ V ?_ λf Z S4 #[p,q,g,#[hd,S5],S6,F,S7]=>?_
 .have G:=u.todz;rw[K]at G;show#[G.rJ V rfl rfl (by decide:1<=3),λa f=>(show(t.under<|Code.builtin "type.__call__" #[.ref m::i,[]]).frames=t.frames from rfl).trans<|u.pa a f]
 .show{B with tocU:={B.tocU with}}
 .subst hd;obtain rfl:=S7.is;show#[V,b _ Z (cs.up.trans S4) #[p,q,_,S5,λC d=>S6 C<|A<|A d,{F with tocU:={F.tocU with}},.val _]]
end
section
variable {U:aV}
def DS (b:aR U):hc U 128 (bi 128<|a U) ["self","graph"] (cf 128<|a U):=
 b.y6 V rfl H V rfl (fh V<|fh V he) (by decide) (show([]:ak).Nodup by decide) e e V
noncomputable abbrev nk (ae lu a:T):ax:=#[ae,lu,a,[],c,0,0]
def DT (a:aR U):∃b o,@m5 Nat _ i8 b/\U.B.get? b=O o:=by
 show aX ((DS a).at_) λo d e=>?_;show iy 128 o (by decide) d
def LH (h:aR U)(n:Nat)(k b d:T)(X:aY)(i:aO):
 S i #[U,n,bU (bi 128<|a U) k 128,X,[("self",.val (.ref b)),("graph",.none)],[(b,.aG (c1 192 d)),(d,.ns [])]] (cf 128<|a U) (er U i [(b,.aG (c1 192 d)),(d,.ns [])] λm o=>o=.none/\∃f,m=(nk b d f).D):=by
 mexact S.uY (r:=.val<| .ref b) (aS.C5<|DT h) V λo s t m u=>?_;show v m λf o=>?_;show xk o λm s=>?_;show fo _ (R.K 0 V) (e9.dict (au:=a U) h.bC (ae:=b) (bD:=[(f,.bN []),(b,.aG (c1 192 d))]) (b3:=[]) (by simp) V (by simp) lL Lc) ?_;mexact S.pj (r:=.val<| .ref b) (af:=.none) R.gF (R.K 0 V) (e9.dict (au:=a U) h.bC (ae:=b) (bD:=[(f,.bN []),(b,.aG (c1 192 d))]) (b3:=[]) (by simp) V (fT H) lL Dz) V ?_;mexact S.pj (r:=.val<| .ref b) (af:=.int 0) R.bJ (R.K 0 V) (e9.dict (au:=a U) h.bC (ae:=b) (bD:=[(f,.bN []),(b,.aG (c1 192 d))]) (b3:=[]) (by simp) V (fT H) lL DA) V ?_;mexact S.pj (r:=.val<| .ref b) (af:=.int 0) R.bJ (R.K 0 V) (e9.dict (au:=a U) h.bC (ae:=b) (bD:=[(f,.bN []),(b,.aG (c1 192 d))]) (b3:=[]) (by simp) V (fT H) lL DB) V ?_;show S i #[U,n,bU (bi 128<|a U) k 128,f::X,[("self",.val (.ref b)),("graph",.none)],[(f,.bN []),(b,.aG (c1 192 d)),(d,.ns (nk b d f).attrs)]] _ _;mexact S.bq (X:=f::X) (Γ:=[("self",.val (.ref b)),("graph",.none)]) (own:=[(f,.bN []),(b,.aG (c1 192 d)),(d,.ns (nk b d f).attrs)]) (g.dB (an:=aj) (aZ.bK (q:=aj) (ac:=.none) (R.K 1 V) R.gF av.qb e) (λl=>by cases l)<|λh=>S.nil λl h=>h) ?_;mexact S.si (bg:=(nk b d f).D) V (E.bd _) (λh j=>?_) ?_ #[V,f,V]
 .show aw (a4 j) (λp=>?_) λj=>?_
  .obtain rfl:=p;simp
  .mspec bW j;simp
 .show(vf _ _ _).trans<|List.Perm.cons _<|vf _ _ _
def LI (f:aR U){b:bc}(k:b.d=U)(l:b.n=n+2):dX b w (.ref 192) [] (λh i j=>∃d e g,i=(nk d e g).D++b.D/\j=.val (.ref d)):=by
 subst k;show dX.LG (au:=a b.d) (n:=n+1) (ol:=128) f.bC (by room) (by room) (by room) l λd e k t u w m=>?_;cases m;show(DS f).mr (Y:=#[b.d,n+1,b.J,d::e::b.X,b.p,(d,.aG (c1 192 e))::(e,.ns [])::b.D]) (n:=n) (ah:=[(d,.aG (c1 192 e)),(e,.ns [])]) (keep:=b.D) (ds:=[.val<| .ref d,.none]) V rfl (eH _) (λk p q=>?_) (λk h h0=>LH f n k d e h _) λi j r=>?_
 .subst p;show gJ.LE (ac:=121) (o:=((a b.d).lookup 121).getD default) (s:=LD<|hD (bi 128<|a b.d) #[[.ref d],[]]) (by room) (q.tocU.bC f.bC _ _<|by room) (by room)<| .val _
 .show ci r λb=>?_;show v b λg f=>?_;show bw f ?_;show#[V,d,e,g,V,V]
end
noncomputable def eJ (bZ:dk)(dW:ak)(an:Int):dk:=bZ.map λaT=>if aT.1∈dW then(aT.1,an,aT.2.2)else aT
def LJ (j:dk)(f:ak)(g:i)(h:Int):(eJ j f h).map (λa=>if a.1=g then(a.1,h,a.2.2)else a)=eJ j (f++[g]) h:=by
 unfold eJ;mspec d2;show hC λa h=>?_;obtain⟨k,b,h⟩:=a;simp only[pm,lY,kF];by_cases d:k∈f<;>by_cases e:k=g
 .subst e;simp[d]
 .simp[d,e]
 .subst e;simp[d]
 .simp[d,e]
def vp (a:dk)(b:ak)(d:Int):(eJ a b d).map (·.1)=a.map (·.1):=by
 unfold eJ;mspec d2;show hC λa b=>?_;simp only[pm];split<;>rfl
def y9 (a:ax):a.P.map (·.1)=a.br.map (·.name):=by unfold ax.P;mspec d2;rfl
def vq {b:ax}(e:m∈b.P.map (·.1)):∃f a g,b.br=f++a::g/\a.name=m/\(eB b.br).lookup m=O (.val<| .ref a.y):=by
 show aw (vh b.br m) (λf=>?_) λd=>?_
 .show am f λb d=>?_;rw[y9]at e;show aX (ck e) λa b f=>?_;show absurd f<|d a b
 .show d
structure gM (a:ax)(ah:ax)(bH:Int)(bV:Int)(r:T×ak)(bZ:dk):Prop where
 es:fW ah a
 bz:a.bz
 P:a.P=bZ
 bo:a.bo=O r
 bV:a.bV=bV
 bH:a.bH=bH
def ax.DU {a:ax}{r:T×ak}(b:a.bo=O r):(r.1,j.list (r.2.map .str))∈a.D:=A<|A<|A<|bI<|b▸ao
def ax.sE {ah:ax}(a:ah.bo=O r):ah.D=[(ah.x,j.aG (c1 192 ah.dc)),(ah.dc,.ns ah.attrs),(ah.cp,.bN (eB ah.br))]++(r.1,.list (r.2.map .str))::d9 ah.br:=by
 unfold ax.D;mspec a;rfl
def fW.bo (e:b.bo=O (r,n)):fW b {b with bo:=O (r,m),bV:=ai,bH:=aQ}:=#[V,V,V,λf a=>by
 rw[ax.sE e]at a;mspec ax.sE (ah:={b with bo:=O (r,m),bV:=ai,bH:=aQ}) V;mspec ik;show cK a (λa=>?_) λa=>?_
 .show bI ?_;show aw (a4 a) (λd=>?_) λa=>?_
  .obtain rfl:=d;show ao
  .rcases a4 a with rfl|a
   .show A ao
   .mspec bW a;show A<|A ao
 .show bA ?_;show aw (a4 a) (λd=>?_) λa=>?_
  .obtain rfl:=d;show ao
  .show A<|c7 a]
section
variable {U:aV}
def LK (b:aR U):ez U 154 (bi 154<|a U) ["self"] (cf 154<|a U):=
 b.fn V rfl H V rfl (kX λd=>by room)
  (fh V he) (k H) (show([]:ak).Nodup by decide) e e V
def LM (m:aR U)(n:Nat)(p:T)(X:aY)(B:aO)(d:ax)(r:T)(f:ak)(K:d.bo=O (r,f))(Tc:d.bz)(Td:∀Te∈f,Te∈d.P.map (·.1))(Tf:f.length<=900):
 S B #[U,n,bU (bi 154<|a U) p 154,X,[("self",.val (.ref d.x))],d.D] (cf 154<|a U) (er U B d.D λTg M=>M=.bQ (f.map .str)/\∃h,Tg=h.D/\gM h d d.bH (d.bV+f.length) (r,[]) (eJ d.P f<| -1)):=by
 have N:=(ax.il (Y:=#[U,n,bU (bi 154<|a U) p 154,X,[("self",.val (.ref d.x))],d.D]) m V d d.eI d.eR).2.1;rw[show mu d.bo=.val (.ref r) by mspec K;rfl]at N;mexact S.bq (X:=X) (Γ:=[("self",.val (.ref d.x))]) (own:=d.D) (g.dB (an:=aj) (aZ.bK (q:=aj) (ac:=.val<| .ref r) (R.fk (R.K 0 V) N V) R.gF av.oZ e) (λs=>by cases s)<|λG=>S.nil λs x=>x) ?_;mexact S.bq (g.assign (af:=.bQ<|f.map .str) (R.mX (ds:=[_]) (m.eX V rfl (by room) (k H) V rfl rfl (k H)) (W.cons (R.fk (R.K 0 V) N V) W.nil V) (bO.tuple (aq.D<|ax.DU K) (by rw[a6];unfold aC;show b0)) V e V) (.inl V) V) ?_;mexact S.bq (g.assign (af:=.val<| .ref d.cp) (R.fk (r:=.val<| .ref d.x) (R.K 1 V) (ax.il (Y:=#[U,n,bU (bi 154<|a U) p 154,X,bj "result" (.bQ<|f.map .str) [("self",.val (.ref d.x))],d.D]) m V d d.eI d.eR).1 V) (.inl V) V) ?_;mexact S.cons (au:=λs=>∃l h P,aL P [("self",.val (.ref d.x)),("result",.bQ (f.map .str))]/\gM h d d.bH d.bV (r,f) (eJ d.P f<| -1)/\u B #[U,n,bU (bi 154<|a U) p 154,l,P,h.D] s)
  (g.ms (ce:=λS5 Γ own=>aL Γ [("self",.val (.ref d.x)),("result",.bQ (f.map .str)),("n2i",.val (.ref d.cp))]/\∃h,own=h.D/\gM h d d.bH d.bV (r,f) (eJ d.P (f.take S5)<| -1)) (λG G=>False) [] d.D V (aS.of<|R.K 1 V) (λb s=>by cases s) cA.bQ #[aL.cH [2,1,0] rfl,d,V,#[fW.bd d,Tc,by simp[eJ],K,V,V]] (λM G=>.name<| .inl V) ?_ ?_<|λG=>rfl) ?_
 .intro S5 M l Γ own Th hd Q;show am Q λJ G=>?_;show v G λy K=>?_;show ci K λt=>?_;intro G Ti;rw[e6,f2]at hd;show bB λZ C=>?_;obtain⟨A,S6,rfl⟩:=hd;show C ?_;clear C Z;mexact S.dV (Y:=#[U,n,bU (bi 154<|a U) p 154,l,gp (.Name "node" #[_,_,_,_]) (.str A) Γ,y.D]) (eG:=bj "node" (.str A) [("self",.val (.ref d.x)),("result",.bQ (f.map .str)),("n2i",.val (.ref d.cp))]) (J.bj _ _) ?_;have M:A∈y.P.map (·.1):=by mspec t.P;rw[vp];show Td A<|ic S6
  show bB λZ C=>?_;show l4 (vq M) λG w K F Tj N=>?_;show C ?_;clear C Z;have C:=ax.split F;mexact S.pj (r:=.val<| .ref w.y) (af:=.int<| -1) (bg:=(y.gD G {w with cx:= -1} K).D) (R.sD (aT:=530)<|m.eU V (by room) V rfl (k H)) (R.item (L:=.str A) (R.K 3 V) (R.K 0 V)<|b6.bN (aq.D<|t.es.cp▸y.lN) N) ?_ V ?_
  .mspec ax.split (ah:=y.gD G {w with cx:= -1} K) V;mspec ax.vl (ea:={w with cx:= -1}) F V rfl;show(e9.slot (Y:=#[U,n,bU (bi 154<|a U) p 154,l,bj "node" (.str A) [("self",.val (.ref d.x)),("result",.bQ (f.map .str)),("n2i",.val (.ref d.cp))],y.D]) (I:=B.at Th) (au:=a U) m.bC (af:=.int<| -1) (bD:=y.mx G) (b3:=(w.cD,.list (w.succ.map .str))::d9 K) C (by simp) lK sB)
  .mexact S.nil λs x=>#[_,_,_,λA y=>y,#[aL.cH [1,2,3] rfl,_,V,?_],x];show#[t.es.trans<|fW.gD (ea:={w with cx:= -1}) F V rfl rfl,y5 (ea:={w with cx:= -1}) F t.bz V,?_,t.bo,t.bV,t.bH];mspec y4 (ea:={w with cx:= -1}) F t.bz (λw=>(w.1, -1,w.2.2)) V;mspec Tj;mspec t.P;rw[LJ];show aI (nh S6) V
 .rintro l Γ own s Ti (⟨J,h,rfl,i⟩|Tk) x
  .rw[a6,iU]at i;show kL l h Γ (aL.cons (J _<|bl 0 V)<|aL.cons (J _<|bl 1 V) aL.nil) i (by simpa using x)
  .show Tk.elim
 .intro s Q;show l4 Q λl h P s i x=>?_;show eO #[U,n,bU (bi 154<|a U) p 154,l,[("self",.val (.ref d.x)),("result",.bQ (f.map .str))],h.D] B V rfl rfl rfl rfl (x.ef s) ?_;have S7:h.x=d.x:=i.es.x;have S8:=(ax.il (Y:=#[U,n,bU (bi 154<|a U) p 154,l,[("self",.val (.ref d.x)),("result",.bQ (f.map .str))],h.D]) m V h h.eI h.eR).2.1;rw[S7,show mu h.bo=.val (.ref r) by mspec i.bo;rfl]at S8;mexact S.bq (g.LF (ac:=r) (R.fk (r:=.val<| .ref d.x) (R.K 0 V) S8 V) (ax.sE i.bo) (by show(f.map j.str).length<=_;rw[a6];unfold aC;show dG Tf H) e V rfl) ?_;have s:([(h.x,j.aG (c1 192 h.dc)),(h.dc,.ns h.attrs),(h.cp,.bN (eB h.br))]++(r,.list [])::d9 h.br:aD)={h with bo:=O (r,[])}.D:=by
   unfold ax.D ax.attrs;mspec i.bo;rfl
  try dsimp only
  mspec s;generalize S4:({h with bo:=O (r,[])}:ax)=σ4;have S9:σ4.x=d.x:=S4▸S7;have Ta:=(ax.il (Y:=#[U,n,bU (bi 154<|a U) p 154,l,[("self",.val (.ref d.x)),("result",.bQ (f.map .str))],σ4.D]) m V σ4 σ4.eI σ4.eR).2.2.1;rw[S9,(show σ4.bV=d.bV from by show S4▸i.bV)]at Ta;mexact S.yH (o:=.Name "self" _) (r:=.val<| .ref d.x) (ac:=d.bV) (q:=f.length) (bg:={σ4 with bV:=d.bV+f.length}.D) (R.K 0 V) Ta
   (R.of_eq (R.jG (ds:=[_]) (m.eX V rfl (by room) (k H) V rfl rfl (k H)) (W.cons (R.K 1 V) W.nil V) (bO.DH (by rw[a6];show gu)) V e V)<|by rw[a6]) ?_ ?_
  .show ch S9 ?_;show e9.dict (au:=a U) m.bC (ae:=σ4.x) (bE:=σ4.attrs) (bD:=[(σ4.x,.aG (c1 192 σ4.dc))]) (b3:=(σ4.cp,.bN (eB σ4.br))::(kn σ4.bo++d9 σ4.br)) σ4.eI V (fT H) lL DA
  .have Tb:gM {σ4 with bV:=d.bV+f.length} d d.bH (d.bV+f.length) (r,[]) (eJ d.P f<| -1):=by
    subst S4;show#[i.es.trans<|fW.bo (ai:=d.bV+f.length) (aQ:=h.bH) i.bo,i.bz,i.P,V,V,i.bH]
   show S.qI (bg:={σ4 with bV:=d.bV+f.length}.D) (af:=.bQ<|f.map .str) (R.K 1 V) V (E.bd _) Tb.es.qO (eH _) #[V,_,V,Tb]
def LN (e:aR U){i:aO}{n:Nat}{keep:aD}(j:m.d=U)(k:m.n=n+1)(a:ax)(r:T)(b:ak)(l:a.bo=O (r,b))(o:a.bz)(p:∀q∈b,q∈a.P.map (·.1))(s:b.length<=900)(t:m.D.Perm (a.D++keep)):
 dX m i (.ref 154) [.val<| .ref a.x] (λf g h=>h=.bQ (b.map .str)/\∃d,g=d.D++keep/\gM d a a.bH (a.bV+b.length) (r,[]) (eJ a.P b<| -1)):=by
 subst j;show(LK e).mr (n:=n) (ah:=a.D) (keep:=keep) k V t (λi f h0=>LM e n i f _ a r b l o p s) λg h #[j,d,k,m]=>#[j,d,by show aI k V,m]
end
noncomputable def cj (ag:aD)(ac:T)(af:j):aD:=ag.map λai=>if ai.1=ac then(ac,af)else ai
def sF (a:aD)(b:T)(d:j):aH (cj a b d)=aH a:=by
 unfold cj aH;mspec d2;show hC λa b=>?_;simp only[pm];split
 .next a=>show a.symm
 .rfl
def za (b:∀a∈ag,a.1≠m):cj ag m n=ag:=by
 unfold cj;conv=>rhs;rw[<-List.map_id ag]
 show hC λa d=>?_;mspec if_neg<|b a d;rfl
def DV (d e:aD)(a:T)(b:j):cj (d++e) a b=cj d a b++cj e a b:=eV
def op (d:(aH<|n++(b,r)::m).Nodup):cj (n++(b,r)::m) b o=n++(b,o)::m:=by
 rw[ik,gz]at d;show cd d λe a g=>?_;have a:(b::aH m).Nodup:=a;replace a:=(ka).mp a;rw[DV];show(?_:cj n b o++(if b=b then(b,o)else(b,r))::cj m b o=_);mspec if_pos V;mspec za (ag:=n) λf d e=>g f.1 (c7 d) b (ao) e;show aI (za (ag:=m) λf d e=>a.1 (by have:=c7 d;rw[e]at this;show this)) V
def DW (b:aD)(d:T)(e:j)(f:T->Bool):cj (b.filter λa=>f a.1) d e=(cj b d e).filter λa=>f a.1:=by
 unfold cj;mspec zb;congr 1;show pp λa b=>?_;simp only[pm];split
 .next a=>show aI a V
 .rfl
def qQ (a:b.Pairwise λd e=>d.1≠e.1):(aH b).Nodup:=by
 unfold aH List.Nodup;show(DX).mpr ?_;show a
def nl (a:b∈m)(n:b.1≠o):b∈cj m o r:=by
 show iw.mpr<|as b a ?_;show aI (if_neg n) V
def zc (a:(aH b).Nodup)(e:(m,n)∈b):b.Perm ((m,n)::b.filter λd=>decide (d.1≠m)):=by
 induction b with
 |nil=>cases e
 |cons d b g=>
  have a:(d.1::aH b).Nodup:=a;replace a:=(ka).mp a;show aw (a4 e) (λh=>?_) λe=>?_
  .obtain rfl:=h;have:(((m,n)::b).filter λd=>decide (d.1≠m))=b:=by
    mspec DY (by simp);show yj.mpr λh b=>by
     simpa using(λf=>a.1 (by have:=c7 b;rw[f]at this;show this))
   rw[this]
  .mspec DZ (by simpa using(λf=>a.1 (by have:=c7 e;show f▸this)));show((g a.2 e).cons d).trans<|vf _ _ _
section
variable {Y:bc}{I:aO}{au:fl}
def u.vr (e:u I Y o)(f:(m,n)∈Y.D):∃a b,Y.D=a++(m,n)::b/\cj Y.D m ex=a++(m,ex)::b:=by
 show cm (LO f) λa b d=>?_;have:=qQ e.dr;rw[d]at this;show iy a b d (by mspec d;show aI (op this) V)
def e9.D0 (X:au.In Y.d.B)(e:(n,.slots b ds)∈Y.D)(f:m<ds.length)(g:ph au b x o m)(h:kZ au b o (O<| .ref x)):e9 Y I (.val<| .ref n) o w (cj Y.D n<| .slots b<|ds.set m w):=.mk λi j k l p q s a r t d=>by
 show gi (a.vr (ex:=.slots b<|ds.set m w) e) λo v u n=>?_;rw[n]at d;show(e9.slot X u f g h).go i j k l p q s a r t d
def e9.D1 (X:au.In Y.d.B)(e:(ae,.aG (c1 q lu))∈Y.D)(hd:(lu,.ns bE)∈Y.D)(f:bE.length<=100)(g:uW au q=z)(h:kZ au q b c):e9 Y I (.val<| .ref ae) b af (cj Y.D lu<| .ns<|mU bE b af):=.mk λi j k l m n o a r p d=>by
 show gi (a.vr (ex:=.ns<|mU bE b af) hd) λu v s t=>?_;rw[t]at d;show(e9.dict X e s f g h).go i j k l m n o a r p d
def g.D2 (d:R Y arg af)(e:R Y o (.val<| .ref ac))
 (f:(ac,.list ds)∈Y.D) (h:ds.length<=aC) (i:mq Y.J=aj) (j:f7 (.Call (.Attribute o "append" m) [arg] [] b) c pos.line Y.J=pure aj)
 (k:bf [arg] Y.J=(aj,eval arg Y.J)::bf [] Y.J)
 (l:eval (.Call (.Attribute o "append" m) [arg] [] b) Y.J=(do
  let n <-eval o Y.J
  ep m.atName
  let(r,first) <-e5 [n] (gK n "append" w)
  dO b r first (cX b<|bf [arg] Y.J) [])):
 g Y I (.Expr (.Call (.Attribute o "append" m) [arg] [] b) pos) (c0 (u I #[Y.d,Y.n,Y.J,Y.X,Y.p,cj Y.D ac<| .list<|ds++[af]]) bT):=.mk λb m n p a=>by
 show gi (a.vr (ex:=.list<|ds++[af]) f) λs t q r=>?_;mspec r;show(g.DJ d e q h i j k l).go b m n p a
end
def D3 (a:(b,o)∈m):(b,n)∈cj m b n:=iw.mpr<|as _ a<|if_pos V
abbrev im:=dk×ak
noncomputable def my (bZ:dk)(aa:i):dk:=bZ.map λaT=>if aT.1=aa then(aT.1,aT.2.1 - 1,aT.2.2)else aT
noncomputable def i1 (bZ:dk)(aa:i):Int:=((bZ.lookup aa).map (·.1)).getD 0
noncomputable def et (bZ:dk)(aa:i):ak:=((bZ.lookup aa).map (·.2)).getD []
noncomputable def fX (a:im)(aa:i):im:=(my a.1 aa,if i1 (my a.1 aa) aa=0 then a.2++[aa]else a.2)
noncomputable def iK (a:im)(b:i):im:=(et a.1 b).foldl fX (eJ a.1 [b]<| -2,a.2)
noncomputable def fu (a:im)(b:ak):im:=b.foldl iK a
noncomputable abbrev cP (bZ:dk):ak:=bZ.map (·.1)
def LP (a:dk)(b:i):cP (my a b)=cP a:=by
 unfold my cP;mspec d2;show hC λa b=>?_;simp only[pm];split<;>rfl
theorem zd:∀(b:ak)(a:im),cP (b.foldl fX a).1=cP a.1
 |[],a=>rfl|d::b,a=>by rw[hV,zd b];show LP _ _
def LQ (a:im)(b:i):cP (iK a b).1=cP a.1:=by
 unfold iK;rw[zd];show vp _ _ _
theorem D4:∀(b:ak)(a:im),cP (fu a b).1=cP a.1
 |[],a=>rfl|d::b,a=>by show(?_:cP (fu (iK a d) b).1=_);rw[D4 b];show LQ _ _
noncomputable def io (bZ:dk):List ak:=bZ.map (·.2.2)
def LR (a:dk)(b:i):io (my a b)=io a:=by
 unfold my io;mspec d2;show hC λa b=>?_;simp only[pm];split<;>rfl
def LS (a:dk)(b:ak)(d:Int):io (eJ a b d)=io a:=by
 unfold eJ io;mspec d2;show hC λa b=>?_;simp only[pm];split<;>rfl
theorem D5:∀(b:ak)(a:im),io (b.foldl fX a).1=io a.1
 |[],a=>rfl|d::b,a=>by rw[hV,D5 b];show LR _ _
def D6 (a:im)(b:i):io (iK a b).1=io a.1:=by
 unfold iK;rw[D5];show LS _ _ _
theorem D7:∀(b:ak)(a:im),io (fu a b).1=io a.1
 |[],a=>rfl|d::b,a=>by show(?_:io (fu (iK a d) b).1=_);rw[D7 b];show D6 _ _
theorem ze:∀(a:ak)(b:im),(a.foldl fX b).2.length<=b.2.length+a.length
 |[],b=>by simp|d::a,b=>by
  mspec hV;show a5 (ze a _) ?_;mspec eA;unfold fX
  try dsimp only
  split
  .mspec dE;mspec gw;simp+arith
  .simp+arith
def LU:et bZ aa=[]\/et bZ aa∈io bZ:=by
 unfold et;cases h:bZ.lookup aa with
 |none=>show .inl V|some a=>show .inr<|iw.mpr #[(aa,a),mem_of_lookup h,V]
def vt {d:ax}{a f:List gd}{dR:gd}(g:d.br=a++dR::f)(e:d.bz):d.P.lookup dR.name=O (dR.cx,dR.succ):=by
 have h:∀(a:List gd),(∀b∈a,b.name≠dR.name)->((a++dR::f).map λdR=>(dR.name,dR.cx,dR.succ)).lookup dR.name=O (dR.cx,dR.succ):=λa=>by
  induction a with
  |nil=>intro _;simp|cons b a i=>
   intro d;mspec qR;mspec b7;mspec fB;mspec(by simpa using λf:dR.name=b.name=>d b ao f.symm:(dR.name==b.name)=aj);show i λf j=>d f<|A j
 unfold ax.P;mspec g;show h a λb k l=>?_;unfold ax.bz at e;rw[g,eV,b7,gz]at e;show e.2.2 _ (dI k) _ ao l
abbrev gN (ah:ax):Prop:=(aH ah.D).Nodup
def D8 (e:m.br=n++b::o)(g:gN m)(a:Int):(m.gD n {b with cx:=a} o).D=cj m.D b.y (.slots 95 [.str b.name,.int a,.val<| .ref b.cD]):=by
 have f:=ax.split e;have d:=g;unfold gN at d;rw[f]at d;mspec f;mspec op d;mspec ax.split (ah:=m.gD n {b with cx:=a} o) V;show aI (ax.vl (ea:={b with cx:=a}) e V rfl) V
def LV (d:b.bo=O (r,m))(f:gN b):{b with bo:=O (r,D9)}.D=cj b.D r (.list<|D9.map .str):=by
 have e:=ax.sE d;have a:=f;unfold gN at a;rw[e]at a;mspec e;mspec op a;unfold ax.D ax.attrs;simp only[d,mu,kn];rfl
def LW (f:gN b)(d:Int):{b with bH:=d}.D=cj b.D b.dc (.ns {b with bH:=d}.attrs):=by
 have e:b.D=[(b.x,j.aG (c1 192 b.dc))]++(b.dc,.ns b.attrs)::(b.cp,.bN (eB b.br))::(kn b.bo++d9 b.br):=rfl;have a:=f;unfold gN at a;rw[e]at a;mspec e;mspec op a;rfl
def gN.cj (a:gN b){d:T}{e:j}(f:m.D=cj b.D d e):gN m:=by unfold gN;mspec f;rw[sF];show a
def qS (a:(aH b).Nodup)(g:(ac,af)∈b)(h:(ac,ex)∈b):af=ex:=by
 induction b with
 |nil=>cases g
 |cons e b k=>
  have a:(e.1::aH b).Nodup:=a;rw[ka]at a;show aw (d1 g) (λi=>?_) λj=>?_
  .show aw (d1 h) (λd=>?_) λf=>?_
   .rw[<-i]at d;cases d;rfl
   .show absurd (by have:=c7 f;show i▸this:e.1∈aH b) a.1
  .show aw (d1 h) (λd=>?_) λf=>?_
   .show absurd (by have:=c7 j;show d▸this:e.1∈aH b) a.1
   .show k a.2 j f
section
variable {U:aV}
def Ea (b:aR U):hc U 175 (bi 175<|a U) ["self","nodes"] (cf 175<|a U):=
 b.y6 V rfl H V rfl (fh V<|fh V he) (k H) (by decide:([]:ak).Nodup) e e V
def Eb (d:a9 U (l b.heap X) n r)(e:aN U (l b.heap X) m ds)(f:ds.length<=aC)(g:∀h∈X,∃o,b.heap.get? h=O o):
 gJ U (bi 175<|a U) #[n::m,[]] ["self","nodes"] X [r,.bQ ds] b:=
 gJ.Lo (by cases m<;>room) d e f g
noncomputable def nn (a:im):ak->Prop
 |[]=>True|ai::ag=>ai∈cP a.1/\i1 a.1 ai= -1/\nn (iK a ai) ag
theorem nn.at_:∀{a:ak}{b:im},nn b a->∀{L:Nat}{d:i},a[L]?=O d->d∈cP (fu b<|a.take L).1/\i1 (fu b<|a.take L).1 d= -1
 |g::a,b,e,0,d,f=>by cases f;show#[e.1,e.2.1]
 |g::a,b,e,L+1,d,f=>nn.at_ e.2.2 (L:=L) (by simpa using f)
noncomputable abbrev jS (U:aV)(ca:T):b1:=bU (bi 175<|a U) ca 175
noncomputable abbrev jo (ae a:T):be:=[("self",.val (.ref ae)),("n2i",.val (.ref a))]
noncomputable abbrev kq (ah:ax)(ac:T):aD:=ah.D.filter λa=>decide (a.1≠ac)
noncomputable abbrev Ec (U:aV):List cl:=lC (cf 175<|a U) 2
noncomputable abbrev LX (U:aV):List cl:=lC (Ec U) 4
def gM.step {e a f:ax}(d:gM a e m n w x)(b:gM f a a.bH a.bV o r):gM f e m n o r:=#[d.es.trans b.es,b.bz,b.P,b.bo,b.bV.trans d.bV,b.bH.trans d.bH]
def qT (g:gN b){e d:j}(h:(m,e)∈b.D)(f:(n,d)∈b.D)(a:d≠e\/n≠m):(n,d)∈kq b m:=e7.mpr #[f,decide_eq_true λe=>a.elim (λa=>a<|qS g (e▸f:(m,d)∈b.D) h) λa=>a e]
def Ed {a:gd}(e:b.br=m++a::n)(g:gN b)(k:b.bz){r:T×ak}(l:b.bo=O r)(d:Int)(h:i×Int×ak->i×Int×ak)(o:(a.name,d,a.succ)=h (a.name,a.cx,a.succ)):
 ∃f,gN f/\gM f b b.bH b.bV r (b.P.map λj=>if j.1=a.name then h j else j)/\f.D=cj b.D a.y (.slots 95 [.str a.name,.int d,.val<| .ref a.cD])/\f.P.lookup a.name=O (d,a.succ):=
 have f:=y5 (ea:={a with cx:=d}) e k V
 (l7 (b.gD m {a with cx:=d} n) (g.cj<|D8 e g d) #[fW.gD (ea:={a with cx:=d}) e V rfl rfl,f,y4 e k h o,l,V,V] (D8 e g d)<|vt (dR:={a with cx:=d}) V f)
def LY (x:aR U)(n:Nat)(E:T)(X:aY)(G:aO)(d:ax)(S6:d.x=M)(S7:d.cp=S4)(f r:T)(y l:ak)(m:i)(A:gN d)(S8:d.bz)(B:(f,j.list (y.map .str))∈d.D)(S9:d.bo=O (r,l))(N:r≠f)(Ta:m∈cP d.P)(Tb:l.length<=900)(P:c9)
 (Q:∀C s,gN C->(f,j.list (y.map .str))∈C.D->gM C d d.bH d.bV (r,(fX (d.P,l) m).2) (fX (d.P,l) m).1->u G #[U,n,jS U E,X,jo M S4,kq C f] s->P .next s):
 S G #[U,n,jS U E,X,bj "successor" (.str m)<|jo M S4,kq d f] (LX U) P:=by
 subst S6 S7;show bB λF v=>?_;obtain⟨m,b,C,W,rfl,Tc⟩:=vq Ta;show v ?_;clear v F;have C:(b.y,j.slots 95 [.str b.name,.int b.cx,.val<| .ref b.cD])∈d.D:=ax.split W▸bA ao;have M:=qT A B C<| .inl nofun;show bB λF v=>?_;show gj (Ed W A S8 S9 (b.cx - 1) (λm=>(m.1,m.2.1 - 1,m.2.2)) V) λh p k G P=>?_;show v ?_;clear v F;have t:(f,j.list (y.map .str))∈h.D:=G▸nl B λw=>nomatch qS A (w▸B:(b.y,j.list (y.map .str))∈d.D) C;have Z:i1 (my d.P b.name) b.name=b.cx - 1:=by
  show(?_:i1 (d.P.map λm=>if m.1=b.name then(m.1,m.2.1 - 1,m.2.2)else m) b.name=_);show ch k.P ?_;unfold i1;mspec P;rfl
 mexact S.bq (g.assign (af:=.val<| .ref b.y) (R.item (L:=.str b.name) (R.K 2 V) (R.K 0 V)<|b6.bN (aq.D<|qT A B d.lN<| .inl nofun) Tc) (.inl V) V) ?_;mexact S.Ki (o:=.Name "successor_info" _) (r:=.val<| .ref b.y) (ac:=b.cx) (q:=1) (R.K 0 V) (f9.slot (au:=a U) x.bC (ac:=b.y) (q:=95) (ds:=[.str b.name,.int b.cx,.val<| .ref b.cD]) M V (.int _) lK) R.bJ (e9.D0 (au:=a U) x.bC M (fT V) lK sB) ?_;mspec((DW d.D b.y _ λI=>decide (I≠f)).trans (by rw[kq,G];rfl):cj (kq d f) b.y (.slots 95<|[j.str b.name,.int b.cx,.val<| .ref b.cD].set 1 (.int<|b.cx - 1))=kq h f);mexact S.ek<|g.dB (an:=(b.cx - 1==0)) (aZ.bK (R.fk (r:=.val<| .ref b.y) (R.K 0 V) (f9.slot (au:=a U) x.bC (ac:=b.y) (q:=95) (ds:=[.str b.name,.int<|b.cx - 1,.val<| .ref b.cD]) (qT p t (G▸D3 C)<| .inl nofun) V (.int _) lK) V) R.bJ av.eq e) (λD=>?_)<|λD=>?_
 .have J:fX (d.P,l) b.name=(my d.P b.name,l++[b.name]):=by unfold fX;show aI (if_pos<|Z.trans<|beq_iff_eq.mp D) V
  have S5:=(ax.il (Y:=#[U,n,jS U E,X,bj "successor_info" (.val<| .ref b.y)<|bj "successor" (.str b.name)<|jo d.x d.cp,kq h f]) x V h (qT p t h.eI<| .inl nofun)<|qT p t h.eR<| .inl nofun).2.1;rw[k.es.x,k.bo]at S5;mexact S.bq (g.D2 (af:=.str b.name) (ac:=r) (R.K 1 V) (R.fk (r:=.val<| .ref d.x) (R.K 2 V) S5 V) (qT p t (ax.DU k.bo)<| .inr N) (by rw[a6];show a5 Tb<|fT H) e V rfl rfl) ?_;have m:=LV (D9:=l++[b.name]) k.bo p;mspec((DW h.D r _ λI=>decide (I≠f)).trans (by rw[kq,m,eV];rfl):cj (kq h f) r (.list<|l.map .str++[.str b.name])=kq {h with bo:=O (r,l++[b.name])} f);show S.nil λs K=>Q _ s (p.cj m) (m▸nl t λw=>N w.symm) (J▸#[k.es.trans<|fW.bo (ai:=h.bV) (aQ:=h.bH) k.bo,k.bz,k.P,V,k.bV,k.bH])<|K.ef<|aL.cH [2,3] rfl
 .have J:fX (d.P,l) b.name=(my d.P b.name,l):=by unfold fX;show aI (if_neg λw=>by rw[Z.symm.trans w]at D;cases D) V
  show S.nil λs K=>Q h s p t (J▸k)<|K.ef<|aL.cH [2,3] rfl
def Ee {aB:i->Prop}(d:io m=io n)(g:fF o n)(h:∀a∈n,∀e∈a.2.2,aB e)(f:i):(et m f).length<=o/\∀e∈et m f,aB e:=by
 show aw (LU (bZ:=m) (aa:=f)) (λb=>?_) λb=>?_
 .show b▸#[ew _,nofun]
 .rw[d]at b;show aX (ck b) λa e d=>?_;show d▸#[g a e,h a e]
def LZ {f:Nat}(g:fF f m)(e:ak):∀a:im,io a.1=io m->(fu a e).2.length<=a.2.length+e.length*f:=by
 induction e with
 |nil=>show λa b=>oW _ _|cons d e h=>
  intro a e;have i:=(Ee (aB:=λb=>True) e g (λb b b b=>trivial) d).1;mspec eA;rw[sG];show a5 (h (iK a d)<|(D6 a d).trans e) (a5 (Bv (a5 (ze (et a.1 d) (eJ a.1 [d]<| -2,a.2))<|p0 i _) _)<|ay<|by rw[vn,Bq f])
inductive Ef (ah:ax)(r gE:T)(d:ak)(b:im)(Γ:be)(own:aD):Prop
 |mk (a:ax) (e:aL Γ (jo ah.x ah.cp)) (f:own=kq a gE) (g:gN a) (iI:(gE,j.list (d.map .str))∈a.D) (aJ:gM a ah ah.bH ah.bV (r,b.2) b.1):Ef ah r gE d b Γ own
def L0 (t:aR U)(n:Nat)(p:T)(X:aY)(F:aO)(d:ax){N P:T}(Tt:d.x=N)(Tu:d.cp=P)(r:T)(v:ak)(y:i)(Q:gN d)(Tc:d.bz)(Td:d.bo=O (r,v))(Tv:y∈cP d.P)(Tw:i1 d.P y= -1)(Te:∀C∈et d.P y,C∈cP d.P)(Tf:v.length+(et d.P y).length<=900)(Tg:c9)
 (Th:∀Ti Z m,(∀Tx∈X,Tx∈Ti)->gN Z->gM Z d (d.bH+1) d.bV (r,(iK (d.P,v) y).2) (iK (d.P,v) y).1->u F #[U,n,jS U p,Ti,jo N P,Z.D] m->Tg .next m):
 S F #[U,n,jS U p,X,bj "node" (.str y)<|jo N P,d.D] (Ec U) Tg:=by
 subst Tt Tu;show bB λG w=>?_;obtain⟨y,f,N,J,rfl,Ty⟩:=vq Tv;show w ?_;clear w G;have y:=vt J Tc;have Tz:f.cx= -1:=by show ch Tw ?_;unfold i1;mspec y;rfl
 have N:et d.P f.name=f.succ:=by unfold et;mspec y;rfl
 have TA:iK (d.P,v) f.name=f.succ.foldl fX (eJ d.P [f.name]<| -2,v):=by unfold iK;show aI N V
 rw[N]at Te Tf;rw[TA]at Th;have L:(f.y,j.slots 95 [.str f.name,.int f.cx,.val<| .ref f.cD])∈d.D:=ax.split J▸bA ao;have Tj:(f.cD,j.list (f.succ.map .str))∈d.D:=ax.split J▸bA (A ao);have TB:r≠f.cD:=λS4=>by
  have S5:gN d:=Q;unfold gN at S5;rw[ax.sE Td,ik,gz]at S5;have Tk:(r::aH (d9 d.br)).Nodup:=S5.2.1;rw[ka]at Tk;show Tk.1 ?_;mspec J;rw[DF];mspec S4;simp[aH]
 mexact S.bq (X:=X) (Γ:=bj "nodeinfo" (.val<| .ref f.y)<|bj "node" (.str f.name)<|jo d.x d.cp) (own:=d.D) (g.sm (af:=.val<| .ref f.y) (R.of_eq (R.jf (ds:=[.str f.name]) (r:=.val<| .ref d.cp) (R.K 2 V) (fD.bN (aq.D d.lN) qx u2) (W.cons (R.K 0 V) W.nil V) (bO.uZ<|aq.D d.lN) V e V) (by mspec Ty;rfl)) (.inl V) (λm=>L1 (m:aj=z))<|λx=>S.nil λm s=>s) ?_;mexact S.bq (g.assign (af:=.int<| -1) (R.fk (r:=.val<| .ref f.y) (R.K 0 V) (f9.slot (au:=a U) t.bC (ac:=f.y) (q:=95) (ds:=[.str f.name,.int f.cx,.val<| .ref f.cD]) L (by mspec Tz;rfl) (.int _) lK) V) (.inl V) V) ?_;mexact S.bq (X:=X) (Γ:=bj "stat" (.int<| -1)<|bj "nodeinfo" (.val<| .ref f.y)<|bj "node" (.str f.name)<|jo d.x d.cp) (own:=d.D) (g.dB (an:=((-1:Int)!= -1)) (aZ.bK (R.K 0 V) (R.sD (aT:=530)<|t.eU V (by room) V rfl (k H)) av.kN e) (λm=>absurd m<|k H)<|λx=>S.nil λm s=>s) ?_;mexact S.pj (r:=.val<| .ref f.y) (af:=.int<| -2) (R.sD (aT:=533)<|t.eU V (by room) V rfl (k H)) (R.K 1 V) (e9.D0 (au:=a U) t.bC L (fT V) lK sB) V ?_;show bB λG w=>?_;show gj (Ed J Q Tc Td (-2) (λy=>(y.1, -2,y.2.2)) V) λM S6 Tl S7 x=>?_;show w ?_;clear w G;rw[show(d.P.map λy=>if y.1=f.name then(y.1, -2,y.2.2)else y)=eJ d.P [f.name] (-2)from hC λy x=>by simp only[kF]]at Tl;mspec(S7.symm:cj d.D f.y (.slots 95<|[j.str f.name,.int f.cx,.val<| .ref f.cD].set 1 (.int<| -2))=M.D);have S8:(f.cD,j.list (f.succ.map .str))∈M.D:=S7▸nl Tj λS4=>nomatch qS Q (S4▸Tj:(f.y,j.list (f.succ.map .str))∈d.D) L;mexact S.lO (zc S6 S8) (S.seq<|g.ms (ce:=λTm Γ own=>Ef d r f.cD f.succ ((f.succ.take Tm).foldl fX (eJ d.P [f.name]<| -2,v)) Γ own) (λx x=>False) [(f.cD,.list (f.succ.map .str))] (kq M f.cD) V
  (aS.of<|R.fk (r:=.val<| .ref f.y) (af:=.val<| .ref f.cD) (R.K 1 V) (f9.slot (au:=a U) t.bC (ac:=f.y) (q:=95) (ds:=[.str f.name,.int<| -2,.val<| .ref f.cD]) ((zc S6 S8).mem_iff.mp<|S7▸D3 L) V (.ref _) ve) V) (λb m=>by cases m;show .inl ao) (cA.list (.inl<|dM _ _ V)<|aq.D ao)
  #[M,aL.cH [3,4] rfl,V,S6,S8,Tl] (λy x=>.name<| .inl V) ?_ ?_ (λx=>rfl))
 .intro Tm y S9 TC own TD Tn E _ J;cases E with|mk h TE Ta K Tb l=>
  subst Ta;rw[e6,f2]at Tn;show bB λG w=>?_;obtain⟨C,To,rfl⟩:=Tn;show w ?_;clear w G;mexact S.dV (Y:=#[U,n,jS U p,S9,gp (.Name "successor" #[_,_,_,_]) (.str C) TC,kq h f.cD]) (eG:=bj "successor" (.str C)<|jo d.x d.cp) (TE.bj _ _)<|LY t n p S9 (F.at TD) h l.es.x l.es.cp f.cD r f.succ _ C K l.bz Tb l.bo TB ?_ ?_ _ λw m y G Tp s=>#[S9,_,_,λx J=>J,#[w,aL.bd _,V,y,G,?_],s]
  .mspec l.P;rw[zd];show(show cP (eJ d.P [f.name]<| -2,v).1=cP d.P from vp _ _ _)▸Te C (ic To)
  .show a5 (ze _ _)<|a5 (p0 (LB ..) _) Tf
  .mspec nh To;mspec iX;rw[l.P]at Tp;show l.step Tp
 .intro B Tq own m TF E s;rcases E with E|TG
  .rw[a6,iU]at E;cases E with|mk h TH Ta K Tb l=>
   subst Ta;show .mk (X:=B) (Γ:=jo d.x d.cp) (own:=h.D) (u.ef (Y:=#[U,n,jS U p,B,Tq,h.D]) (u.lO (Y:=#[U,n,jS U p,B,Tq,_]) s (zc K Tb).symm) TH) ?_;show(?_:S F #[U,n,jS U p,B,jo d.x d.cp,h.D] _ _);have Tr:=(ax.il (Y:=#[U,n,jS U p,B,jo d.x d.cp,h.D]) t V h h.eI h.eR).2.2.2;have Ts:=e9.D1 (Y:=#[U,n,jS U p,B,jo d.x d.cp,h.D]) (I:=F) (af:=.int<|d.bH+1) (au:=a U) t.bC (ae:=h.x) (bE:=h.attrs) h.eI h.eR (fT H) lL DB;rw[l.es.x,l.bH]at Tr;rw[l.es.x]at Ts;have f:=LW K<|d.bH+1;show S.yH (o:=.Name "self" _) (r:=.val<| .ref d.x) (ac:=d.bH) (q:=1) (bg:={h with bH:=d.bH+1}.D) (R.K 0 V) Tr R.bJ (f▸Ts) (S.nil λm s=>Th B {h with bH:=d.bH+1} m TF (K.cj f) #[l.es.trans #[V,V,V,λp h=>by mspec f;rw[sF];show c7 h],l.bz,l.P,l.bo,l.bV,V] s)
  .show TG.elim
inductive Eg (ah:ax)(r:T)(L:Nat)(a:im)(Γ:be)(own:aD):Prop
 |mk (b:ax) (d:aL Γ (jo ah.x ah.cp)) (e:own=b.D) (f:gN b) (aJ:gM b ah (ah.bH+L) ah.bV (r,a.2) a.1):Eg ah r L a Γ own
noncomputable abbrev zf:=λ(ah:ax) (a:ak)=>([("self",.val (.ref ah.x)),("nodes",.bQ (a.map .str))]:be)
def L2 (D:aR U)(n:Nat)(u:T)(X:aY)(y:aO)(d:ax)(r:T)(i f:ak)(F:d.bo=O (r,i))(Q:d.bz)(v:Nat)(G:fF v d.P)(W:∀Z∈d.P,∀S4∈Z.2.2,S4∈cP d.P)(S5:nn (d.P,i) f)(S6:i.length+f.length*v<=900)(Tf:f.length<=900):
 S y #[U,n,jS U u,X,zf d f,d.D] (cf 175<|a U) (er U y d.D λS7 A=>A=.none/\∃p,S7=p.D/\gM p d (d.bH+f.length) d.bV (r,(fu (d.P,i) f).2) (fu (d.P,i) f).1):=by
 have H:=ax.il (Y:=#[U,n,jS U u,X,zf d f,d.D]) D V d d.eI d.eR;have I:=H.2.1;rw[F]at I;mexact S.qL (aB:=gN d) (λk l=>qQ l.dr) λS8=>?_;mexact S.bq (X:=X) (Γ:=zf d f) (own:=d.D) (g.dB (an:=aj) (aZ.bK (q:=aj) (ac:=.val<| .ref r) (R.fk (R.K 0 V) I V) R.gF av.oZ e) (λk=>by cases k)<|λw=>S.nil λk l=>l) ?_;mexact S.bq (g.assign (af:=.val<| .ref d.cp) (R.fk (r:=.val<| .ref d.x) (R.K 0 V) H.1 V) (.inl V) V) ?_;mexact S.seq (g.ms (ce:=λj Γ own=>Eg d r j (fu (d.P,i)<|f.take j) Γ own) (λw w=>False) [] d.D V (aS.of<|R.K 2 V) (λb k=>by cases k) cA.bQ
  #[d,aL.cH [1,0] rfl,V,S8,#[fW.bd d,Q,V,F,V,(rF _).symm]] (λA w=>.name<| .inl V) ?_ ?_ (λw=>rfl))
 .intro j A x Γ own S9 hd m _ Ta;cases m with|mk s J B Tb h=>
  subst B;rw[e6,f2]at hd;obtain⟨t,C,rfl⟩:=hd;obtain⟨Tc,Td⟩:=S5.at_ C;have K:j<f.length:=(gG.mp C).1;have L:=Ee (aB:=(·∈cP s.P)) (h.P▸D7 _ _) G ((h.P▸D4 _ _:cP s.P=cP d.P)▸W) t;have M:=LZ G (f.take j) (d.P,i) V;rw[g9,qD<|iD K]at M;mexact S.dV (Y:=#[U,n,jS U u,x,gp (.Name "node" #[_,_,_,_]) (.str t) Γ,s.D]) (eG:=bj "node" (.str t)<|jo d.x d.cp) (J.bj _ _)<|L0 D n u x (y.at S9) s h.es.x h.es.cp r _ t Tb h.bz h.bo (h.P▸Tc) (h.P▸Td) L.2 ?_ _ λw A k F G o l=>#[w,_,_,F,#[A,aL.bd _,V,G,?_],l]
  .have N:(j+1)*v<=f.length*v:=xd _ K;rw[sG]at N;show a5 (xc M L.1)<|a5 (ay (vn ..))<|a5 (p0 N _) S6
  .have u:fu (d.P,i) (f.take<|j+1)=iK (s.P,(fu (d.P,i)<|f.take j).2) t:=by mspec nh C;mspec h.P;unfold fu;mspec iX;rfl
   mspec u;show#[h.es.trans o.es,o.bz,o.P,o.bo,o.bV.trans h.bV,by mspec o.bH;mspec h.bH;rw[Bt];rfl]
 .intro x Γ own k Ta m l;rcases m with m|Te
  .rw[a6,iU]at m;cases m with|mk p J B d P=>
   subst B;show .mk (X:=x) (Γ:=Γ) (own:=p.D) l<|S.si V (E.bd _) P.es.qO (eH _) #[V,p,V,P]
  .show Te.elim
end
noncomputable abbrev c8 (ag:List b1):aY:=ag.filterMap (·.frame)
def jp (al:aW)(ag:List b1):Prop:=∀env∈ag,env.scope.kind≠ .module/\∃ca o dy s,env.frame=O ca/\al.get? ca=O o/\o.data=.dict dy s
theorem jp.zg:∀{a:List b1},jp m a->(∀b∈c8 a,n.get? b=c)->m.FunFrames n a
 |[],_,_=>trivial|env::a,g,h=>by
  show am (g env ao) λh0 i=>?_;show j5 i λa o k m j=>?_;show cd j λi k l=>?_;show#[h0,#[a,o,i,h a<|vu.mpr<|as env ao i,k,λj d=>by replace d:=l▸d;cases d],jp.zg (λe f=>g e<|A f) λb p=>h b<|by
   show aX (vu.mp p) λe f a=>?_;show vu.mpr<|as e (A f) a]
def jp.keep (e:jp m b)(f:∀a∈c8 b,∀o,m.get? a=O o->∃d,h'.get? a=O {o with slots:=d}):jp h' b:=λenv a=>by
 show am (e env a) λh0 g=>?_;show j5 g λb o h n i=>?_;show cd i λe g j=>?_;show v (f b (vu.mpr<|as env a e) o g) λd i=>?_;show#[h0,b,_,h,n,e,i,j]
structure lP (U:aV)(X:aY)(ag:List b1)(ah bg:aD)(h0 dQ kr h':aW)(Z:aY)(ae aT:T)(fP:a3)(a1:cv):Prop where
 keep:E dQ h0
 hE:∀ai∈bg,bG U (l dQ Z) dQ ai.1 ai.2
 new:∀ai∈bg,h0.get? ai.1=c
 apart:bg.Pairwise λae bu=>ae.1≠bu.1
 all:∀ai∈ah,ai.1∈aH bg
 pq:∀ac∈X,ac∈Z
 qU:∀ac∈aH bg,ac∈Z
 qV:∀ac o,ac∉Z->dQ.get? ac=O o->kr.get? ac=O o
 np:∀ac o,ac∉c8 ag->((∃a,h0.get? ac=O a)\/ac∈aH bg)->dQ.get? ac=O o->kr.get? ac=O o
 qW:aW.FlyingW kr ag ae fP (.ref aT) h'
 bQ:h'.TupAt aT a1
 sH:kr.get? aT=c
 slots:dQ.UpToSlots h'
inductive qX (U:aV)(X:aY)(ag:List b1)(ah bg:aD)(h0 h':aW)(ae:T)(fP:a3)(a1:cv):Prop
 |mk (dQ kr:aW) (Z:aY) (aT:T) (b:lP U X ag ah bg h0 dQ kr h' Z ae aT fP a1):qX U X ag ah bg h0 h' ae fP a1
section
variable {Y:bc}{I:aO}
def u.Eh (b:u I Y dQ)(s:Y.J.scope.kind≠ .module)(j:Y.J.frame=O Y.J.locals)(t:x.frames=O (Y.J::m))(v:jp dQ m)
 (g:I.cL=h0) (y:I.cB=X) (A:∀e∈c8 m,e∈X) (h:Y.D.Perm r) (B:∀f∈M,f.1∈aH r) (p:zh dQ bR.heap w S4 S5)
 (d:∀h',qX Y.d X m M r h0 h' w S4 S5->S6 () {bR with heap:=h'}):ar S7 x (qf Y.J<| .ref w) S6 S8 bR:=by
 subst g;subst y;have q:c8 (Y.J::m)=Y.J.locals::c8 m:=by unfold c8;mspec r8;show aI j V
 have C:jp dQ (Y.J::m):=λenv g=>by
  show aw (a4 g) (λk=>?_) λg=>?_
  .obtain rfl:=k;show oV b.ns λa o r w x hd y=>?_;show#[s,_,o,r,w,j,x,hd]
  .show v env g
 have g:∀e∈c8 (Y.J::m),(cq dQ<|c8<|Y.J::m).get? e=c:=λe a=>cT _ a;show wpAny_leaves_madeW (base:=cq dQ<|c8<|Y.J::m) t j (λe o d=>fe _ d) (C.zg g) p λh' j r s t D=>?_;show d h' #[dQ,cq dQ<|c8<|Y.J::m,Y.X,j,?_];show#[b.db,λf a=>(b.D f<|h.mem_iff.mpr a).2,λf a=>(b.cM f<|h.mem_iff.mpr a).1,h.pairwise b.dr<|λg d=>g d.symm,B,b.sub,λe a=>?_,λe o n d=>?_,λe o n a d=>?_,r,s,t,?_]
 .show g1 a λf l=>?_;show(b.D f<|h.mem_iff.mpr l).1
 .show cb _ d λa=>n ?_;replace a:=q▸a;show gh a ?_ λa=>?_
  .show b.cn.1
  .show b.sub e<|A e a
 .show cb _ d λi=>?_;replace i:=q▸i;show aw (a4 i) (λk=>?_) λi=>?_
  .obtain rfl:=k;rcases a with⟨e,E⟩|a
   .show b5 b.new.1 E
   .show aX (ck a) λf l d=>?_;show(b.cM f<|h.mem_iff.mpr l).2.1 d
  .show n i
 .show(L3 p.keeps).trans D
def lP.up {X p:aY}{env:b1}{g f:T}{h:a3}{i:cv}(b:lP B p (env::r) M w h0 S4 x h' Z g f h i)(t:env.frame=O env.locals)(u:∀e∈X,e∈p)(j:E h0 vv)(y:vv.get? env.locals=c)(A:env.locals∉aH w)
 (C:aW.FlyingW x r g h (.ref f) m) (D:m.TupAt f i) (F:h'.UpToSlots m):lP B X r M w vv S4 x m Z g f h i where
 keep:=j.trans b.keep
 hE:=b.hE
 new:=λq a=>by
  cases k:vv.get? q.1 with
  |none=>rfl|some o=>have:=j _ _ k;show b5 (b.new q a) this
 apart:=b.apart
 all:=b.all
 pq:=λe a=>b.pq e (u e a)
 qU:=b.qU
 qV:=b.qV
 np:=λe o n a k=>b.np e o (λd=>by
  unfold c8 at d;replace d:=r8▸d;replace d:=t▸d;show aw (a4 d) (λG=>?_) λd=>?_
  .obtain rfl:=G;rcases a with⟨s,l⟩|a
   .show b5 y l
   .show A a
  .show n d) (a.imp (λe=>v e λs l=>#[s,j _ _ l]) id) k
 qW:=C
 bQ:=D
 sH:=b.sH
 slots:=b.slots.trans F
def lP.L4 {cE i j:aD}(b:lP w X x i j h0 m B h' Z r M S4 S5)(p:∀d∈cE,bG w (l m Z) m d.1 d.2)(k:∀d∈cE,∃o,h0.get? d.1=O o)(hd:cE.Pairwise λr q=>r.1≠q.1)(s:∀e∈aH cE,e∈Z):
 lP w X x (cE++i) (cE++j) (cq h0<|aH cE) m B h' Z r M S4 S5 where
 keep:=λe o f=>b.keep e o (fe _ f)
 hE:=λd a=>(jy a).elim (p d) (b.hE d)
 new:=λd a=>(jy a).elim (λa=>cT _<|c7 a) λa=>by
  cases f:(cq h0<|aH cE).get? d.1 with
  |none=>rfl|some o=>have:=fe _ f;show b5 (b.new d a) this
 apart:=ii.mpr #[hd,b.apart,λd g f t h=>by
  obtain⟨o,I⟩:=k d g;replace I:=h▸I;replace I:=(b.new f t)▸I;cases I]
 all:=λd a=>by
  mspec ik;show(jy a).elim (λa=>bI<|c7 a) λa=>bA (b.all d a)
 pq:=b.pq
 qU:=λe a=>by
  replace a:=ik▸a;show(jy a).elim (s e) (b.qU e)
 qV:=b.qV
 np:=λe o n a f=>b.np e o n (by
  rcases a with⟨u,h⟩|a
  .show .inl #[u,fe _ h]
  .replace a:=ik▸a;show(jy a).elim (λa=>?_) .inr;obtain⟨d,g,rfl⟩:=ck a;show .inl<|k d g) f
 qW:=b.qW
 bQ:=b.bQ
 sH:=b.sH
 slots:=b.slots
def u.L5 {ah keep bg:aD}{m q:aW}{y:T}{j:dF}(B:u I Y x)(C:Y.J.frame=O Y.J.locals)(D:x.get? Y.J.locals=O j)(hd:∃g h,j.data=.dict g h)(F:Y.D.Perm (ah++keep))(G:∀e∈bg,e.1∈c8 ag->∃o g h,e.2=.frame o/\o.data=.dict g h)(H:∀f∈c8 ag,f∈aH ah)
 (b:lP Y.d Y.X (Y.J::ag) ((Y.J.locals,.frame j)::ah) ((Y.J.locals,.frame j)::bg) (cq x<|Y.J.locals::aH ah) m q h' Z S4 y S5 M) (n:q.StaysIn w) (J:h'.UpToSlots w):u I #[Y.d,Y.n,Y.J,Y.X++aH bg,Y.p,bg++keep] w:=by
 have s:c8 (Y.J::ag)=Y.J.locals::c8 ag:=by unfold c8;mspec r8;show aI C V
 have K:=b.slots.trans J;have L:E (l w<|Y.X++aH ((Y.J.locals,.frame j)::bg)) (l m Z):=λf o d=>by
  have q:f∉Z:=λa=>by show b5 (cT _ a) d
  show cb _ (n _ _<|b.qV f o q<|l.of _ _ d) λa=>q ?_;show cK a (λa=>?_) λa=>?_
  .show b.pq f a
  .show b.qU f a
 show B.uV (fr:=c) (gen:=aj) F D #[λf o d=>?_,λe k=>?_,b.new,b.apart,b.all]
 .show n _ _ (b.np f o (λa=>(λa=>by show b5 (cT _ a) d) ?_) (.inl #[o,d])<|b.keep _ _ d);replace a:=s▸a;show gh a ?_ λa=>?_
  .show ao
  .show A<|H f a
 .by_cases i:e.1∈c8 (Y.J::ag)
  .obtain⟨o,g,h,N,P⟩:∃o g h,e.2=.frame o/\o.data=.dict g h:=by
    show aw (a4 k) (λQ=>?_) λt=>?_
    .obtain rfl:=Q;show cm hd λg h hd=>?_;show j6 j g h V hd
    .replace i:=s▸i;show aw (d1 i) (λi=>?_) λi=>?_
     .show absurd i.symm<|(gq.mp b.apart).1 e t
     .show G e t i
   have r:=b.hE e k;rw[N]at r ⊢;have:∃p,m.get? e.1=O {o with slots:=p}:=r.is;show v this λp R=>?_;obtain⟨a,S⟩:=K _ _ R λM d=>by replace d:=(show({o with slots:=p}:dF).data=o.data from rfl)▸d;replace d:=P▸d;cases d
   show .frame S
  .show(b.hE e k).lw L λo d=>n _ _<|b.np _ o i (.inr<|c7 k) d
end
structure qY (dS:aO)(ag:List b1):Prop where
 frames:jp dS.cL ag
 cn:∀ac∈c8 ag,ac∈dS.cB
def nq (U:aV)(env:b1)(dS:aO)(ag:List b1)(ah:aD)(co:aD->a3->cv->Prop)(aJ:cV)(aa:aM)(ae:T)(bR:aM):Prop:=
 ar U.M aJ (qf env<| .ref ae) (λa b=>∃bg fP a1,cs aa b dS.bY/\co bg fP a1/\qX U dS.cB ag ah bg dS.cL b.heap ae fP a1) (λa a=>False) bR
structure fG (Y:bc)(I dS:aO)(ag:List b1)(ah:aD)(co:aD->a3->cv->Prop)(a:cl):Prop where
 go:∀(aJ:cV)(aa:aM)(bM:Flow->aM->Prop)(bv:bX),jd aJ Y.n Y.J I.cQ->aJ.frames=O (Y.J::ag)->u I Y aa.heap->
  (∀ae bR,nq Y.d Y.J dS ag ah co aJ aa ae bR->bv (.ref ae) bR)->ar Y.d.M aJ (exec a Y.J) bM bv aa
structure dY (Y:bc)(I dS:aO)(ag:List b1)(ah:aD)(co:aD->a3->cv->Prop)(b:List cl):Prop where
 go:∀(aJ:cV)(aa:aM)(bM:Flow->aM->Prop)(bv:bX),jd aJ Y.n Y.J I.cQ->aJ.frames=O (Y.J::ag)->u I Y aa.heap->
  (∀ae bR,nq Y.d Y.J dS ag ah co aJ aa ae bR->bv (.ref ae) bR)->ar Y.d.M aJ (execs b Y.J) bM bv aa
section
variable {Y:bc}{I dS:aO}{ag:List b1}{ah:aD}{co:aD->a3->cv->Prop}
def nq.Ei {a:T}{b:aM}(o:nq m env dS ag ah co n w a b)(d:cs x w dS.bY):nq m env dS ag ah co n x a b:=dq o (λb b e=>eW e λf g h i r=>j6 f g h (d.trans i) r) λb b a=>a
def nq.toks (o:nq b env dS ag ah co m {n with heap:=x,toks:=B} r w):nq b env dS ag ah co m n r w:=o.Ei .up
def dY.head {a:cl}(d:fG Y I dS ag ah co a):dY Y I dS ag ah co (a::b):=.mk λa e k f g h i j=>
 mn (d.go a e _ f g h i j)
def dY.cons {i:cl}{au:aW->Prop}(e:g Y I i (c0 au λf f=>False))(s:I.bY=z->dS.bY=z)(t:∀e,au e->∃(a:bc) (d:aO),a.d=Y.d/\a.n=Y.n/\a.J=Y.J/\d.cQ=I.cQ/\d.bY=I.bY/\u d a e/\dY a d dS ag ah co b):dY Y I dS ag ah co (i::b):=.mk λj i y k l v h w=>
 mn (dq (e.go j i k l h) (λx m y=>by
  show am y λA r=>?_;cases x with
  |next=>
   show BC (t m.heap r) λa d n p q B e C D=>?_;obtain⟨d,e,i,t,x,y⟩:=a;dsimp only at n p q;subst n;subst p;subst q;show D.go j m _ k (B▸l) v C λh a o=>w h a<|o.Ei<|A.le s
  |_=>show r.elim) λf f I=>I)
def fG.qZ (h:aZ Y m z)(i:dY Y I dS ag ah co b):fG Y I dS ag ah co (.If m b n pos):=.mk λa d j e f k g l=>
 rY (h.go a d _ e f.todz g.tocU λh' m n=>i.go a {d with heap:=h',toks:=m} j e f k (g.keep n) λa d o=>l a d o.toks)
def fG.L6 (h:aZ Y m aj)(i:dY Y I dS ag ah co n):fG Y I dS ag ah co (.If m b n pos):=.mk λa d j e f k g l=>
 rY (h.go a d _ e f.todz g.tocU λh' m n=>i.go a {d with heap:=h',toks:=m} j e f k (g.keep n) λa d o=>l a d o.toks)
def fG.sI (k:ExcCallFacts fP S4 S5)(l:ExcRaiseFacts fP){d:aD}(h:qY dS ag)(h0:I.cL=dS.cL)(p:I.cB=dS.cB)(q:Y.J.frame=O Y.J.locals)
 (s:R Y (.Name w x) (.val<| .type fP)) (t:W Y r (n::m) ds) (v:ds.length<=aC) (y:Y.D.Perm d) (A:∀B∈ah,B.1∈aH d) (C:∀(a:cv)(D:aW),aN Y.d D a ds->co d (.type fP) a)
 (E:bf (n::m) Y.J=(aj,eval n Y.J)::bf m Y.J:=by rfl) (F:(cX r<|bf m Y.J).any (·.1)=aj:=by rfl):fG Y I dS ag ah co (.Raise (O<| .Call (.Name w x) (n::m) [] r) c pos):=.mk λi e m j f G g H=>by
 show Raise_madeB k l f.handled ?_ E F;show s.go i e _ j f.todz g.tocU λk J K L M=>?_;obtain rfl:=M.is;show#[V,?_];have k:=g.keep L;show t.go i {e with heap:=J,toks:=K} _ j f.todz k.tocU λa l m n i=>?_;have f:=k.keep n;show#[by show i.length▸v,λh' j k=>H j _ ?_];show u.Eh (dQ:=l) (bR:={e with heap:=h',toks:=m}) f (by mspec g.kind;decide) q G (h.frames.keep λg j o e=>#[o.slots,f.db _ _<|h0▸e]) h0 p h.cn y A k.of λg b=>kL d _ a .up (C a _ i) b
def fG.L7 (t:R Y iter r)(j:∀p,r≠ .val p)(A:cA Y target r (af::ds))(P:qn Y.J target af)
 (Q:∀d,dY #[Y.d,Y.n,Y.J,d::Y.X,gp target af Y.p,Y.D] I dS ag ah co body) (B:∀h,iC iter Y.J h=pure h):fG Y I dS ag ah co (.For target iter body [] pos):=.mk λf w U q s S j a=>by
 show wpAny_For (t.go f w _ q s.todz j.tocU λh C T U W=>?_) B;have i:=j.keep U;show A.go f _ _ q h s.todz i.tocU W λd j t B x it=>?_;obtain⟨k,X,D,E,j,t,y,F,Z⟩:=it;dsimp only at k y F ⊢;have S4:I.cL.get? d=c:=by
  show jz (i.db d) k
 have A:d∉Y.X:=λg=>by
  show v (i.cw d g) λo a=>?_;show b5 k a
 have B:d≠Y.J.locals:=λa=>A<|a▸i.cn.1;have U:∀j∈Y.J.cells,d≠j.2:=λj t a=>A<|a▸i.cn.2 j t;have S5:d∉d5 #[Y.d,Y.n,Y.J,d::Y.X,Y.p,Y.D]:=λg=>by
  show aw (iF g) (λa=>?_) λW=>aw W (λS6=>?_) λW=>?_
  .show B a
  .show v S6 λj B=>?_;show am B λt a=>?_;show U j t a
  .show v W λj B=>?_;show am B λt a=>?_;show A<|a▸(i.D j t).1
 have S7:∀m e,nq Y.d Y.J dS ag ah co f w m e->notedBy Y.d.M f Y.J (λI e=>CR Y.d.M f Y.J q I e) (.ref m) e:=λm e o=>by
  have:=wpAny_leaving_again (what:="frame.own-activation:exception-without-traceback") (E₂:=q) (E₃:=λI e=>CR Y.d.M f Y.J q I e) (SameStack.refl f) (A'':=f) o;show dq this (λj q C=>?_) λj j h=>h;show dq C (λj q x=>a m q x) λj j h=>h
 show Kq (λh e=>h=0/\e={w with heap:=x,toks:=T}) ?_ 0 #[V,V];intro h e j;show j4 j ?_;show(X f s.handled).item 0 _ _ _ (oR _) D λp G h H J K=>?_;show aX (F 0 p H<|oR _) λh hd S8=>?_;obtain rfl:=fU hd;show Z f 1 G p J H _ _ _ V ?_;have S9:=(i.gI k (E _ _ D) y).other ao S5 S4 (E _ _ J)<|λb o n a=>K b o n a;have Ta:a9 Y.d (l G<|d::Y.X) p af:=S8.keep λL o a=>by
  have M:=l.of _ _ a;have N:L∉Y.X:=λg=>by show b5 (cT _ g) a
  show cb _ ((λb o n a=>K b o (λg=>by replace a:=(bW g)▸a;replace a:=k▸a;cases a)<|y b o a) L o N M) λg=>?_;show aw (a4 g) (λTb=>?_) λg=>?_
  .obtain rfl:=Tb;show b5 k M
  .show N g
 show u.Cj (Y:=#[Y.d,Y.n,Y.J,d::Y.X,Y.p,Y.D]) s.handled S9 P Ta λa g i h=>?_;show(Q d).go f {w with heap:=a,toks:=g} _ _ s S h λm e o=>S7 m e o.toks
end
section
variable {U:aV}
def nr (aE:i)(a:aD):aD->a3->cv->Prop:=λbg fP a1=>bg=a/\fP=.type "ValueError"/\∃a8,a1=[.str aE a8]
def sJ (r:aN U o b [.str m]):nr m n n (.type "ValueError") b:=by
 cases r with
 |cons r a=>cases a;cases r;show#[V,V,_,V]
def L8 (g:aR U)(n:Nat)(h:T)(X:aY)(f d:aO)(j:List b1)(o:qY d j)(h0:f.cL=d.cL)(p:f.cB=d.cB)(b:ax)(k:i)(l:dn)(r:T×ak)(s:b.bo=O r):
 dY #[U,n,bU (bi 142<|a U) h 142,X,[("self",.val (.ref b.x)),("node",.str k),("predecessors",.bQ l)],b.D] f d j b.D (nr "Nodes cannot be added after a call to prepare()" b.D) (cf 142<|a U):=by
 have m:=(ax.il (Y:=#[U,n,bU (bi 142<|a U) h 142,X,[("self",.val (.ref b.x)),("node",.str k),("predecessors",.bQ l)],b.D]) g V b b.eI b.eR).2.1;rw[show mu b.bo=.val (.ref r.1) by mspec s;rfl]at m;show dY.head<|fG.qZ (aZ.bK (q:=z) (ac:=.val<| .ref r.1) (R.fk (R.K 0 V) m V) R.gF av.qb e)<|dY.head ?_;show fG.sI (fP:="ValueError") vw vx (ds:=[.str "Nodes cannot be added after a call to prepare()"]) o h0 p V (g.eX V rfl (by room) (by decide) V rfl rfl (by decide)) (W.cons R.cy W.nil V) (by decide) (eH _) (λd b=>c7 b)<|λd f r=>sJ r
def q0 (b:aR U):ez U 147 (bi 147<|a U) ["self"] (cf 147<|a U):=
 b.fn V rfl H V rfl (kX λd=>by room)
  (fh V he) (by decide) (show([]:ak).Nodup by decide) e e V
def L9 (g:aR U)(n:Nat)(h:T)(X:aY)(f d:aO)(i:List b1)(k:qY d i)(h0:f.cL=d.cL)(l:f.cB=d.cB)(b:ax)(r:T×ak)(m:b.bo=O r):
 dY #[U,n,bU (bi 147<|a U) h 147,X,[("self",.val (.ref b.x))],b.D] f d i b.D (nr "cannot prepare() more than once" b.D) (cf 147<|a U):=by
 have j:=(ax.il (Y:=#[U,n,bU (bi 147<|a U) h 147,X,[("self",.val (.ref b.x))],b.D]) g V b b.eI b.eR).2.1;rw[show mu b.bo=.val (.ref r.1) by mspec m;rfl]at j;show dY.head<|fG.qZ (aZ.bK (q:=z) (ac:=.val<| .ref r.1) (R.fk (R.K 0 V) j V) R.gF av.qb e)<|dY.head ?_;show fG.sI (fP:="ValueError") vw vx (ds:=[.str "cannot prepare() more than once"]) k h0 l V (g.eX V rfl (by room) (by decide) V rfl rfl (by decide)) (W.cons R.cy W.nil V) (by decide) (eH _) (λd b=>c7 b)<|λd f r=>sJ r
end
section
variable {Y:bc}{I dS:aO}{ag:List b1}{ah:aD}{co:aD->a3->cv->Prop}
def R.zi {d e:Nat}{f g h pos:di}(j:R Y r (.str m))(a:b.length+(gO m).length+o.length<=aC):
 R Y (.JoinedStr [.Constant (.str b) d f,.FormattedValue r 114 c h,.Constant (.str o) e g] pos) (.str<|b++gO m++o):=.mk λe d l f g h k=>by
 have l:(kg++b).length<=aC:=by rw[kh];show bb [.C (.y (.y G N) t)<| .n aC] 0 (.y (.n 0) G) (.n aC) H a
 have p:(kg++b++gO m).length<=aC:=by rw[kh,kh];show(?_:0+b.length+(gO m).length<=_);show bb [.C (.y (.y G N) t)<| .n aC] 0 (.y (.y (.n 0) G) N) (.n aC) H a
 have d:(kg++b++gO m++o).length<=aC:=by rw[kh,kh,kh];show(?_:0+b.length+(gO m).length+o.length<=_);show bb [.C (.y (.y G N) t)<| .n aC] 0 (.y (.y (.y (.n 0) G) N) t) (.n aC) H a
 show JoinedStr_many<|sh<|oX #[l,?_];show sh<|wpAny_FormattedValue_repr<|j.go e _ _ f g (h.keep<|E.bd _) λr l u q s=>?_;show v s.dN λf e=>?_;show bw e ?_;show wpAny_pyReprObj_str ?_<|bb [.C (.y (.y N G) t)<| .n aC] 0 G (.n aC) H a;show formatField_str (λe f=>#[p,?_])<|bb [.C (.y (.y N G) t)<| .n aC] 0 G (.n aC) H a;show sh<|oX #[d,joinParts_nil ?_ d];have a:kg++b++gO m++o=b++gO m++o:=by
  have:kg++b=b:=by show(?_:(#[(aRR [])++b.cps]:i)=b);show aI uT V
  show aI this V
 mspec a;show k _ l _ q<| .str _ _
def bO.Ma (d:(gO b).length<=aC):bO Y (.builtin "repr") [.str b] (.str<|gO b):=.mk λa b g h i j k e f=>by
 show v e.one λg a=>?_;show ci a λe=>?_;show v e.dN λg a=>?_;show bw a ?_;show P.repr_of_str (f _ b.heap _ (E.bd _)<| .str _ _) d
def dY.bq {a:cl}{own:aD}(e:I.bY=z->dS.bY=z)(d:g Y I a (c0 (u I #[Y.d,Y.n,Y.J,X,Γ,own]) λf f=>False))(h:dY #[Y.d,Y.n,Y.J,X,Γ,own] I dS ag ah co b):dY Y I dS ag ah co (a::b):=
 dY.cons d e λd a=>eO #[Y.d,Y.n,Y.J,X,Γ,own] I V rfl rfl rfl rfl a h
def fG.sm (j:R Y n af)(k:fO Y.J m)(hd:af.isNone=z)
 (l:dY #[Y.d,Y.n,Y.J,Y.X,bj m af Y.p,Y.D] I dS ag ah co b):fG Y I dS ag ah co (.If (.Compare (.NamedExpr (.Name m r) n w) [.Is] [.Constant .none x B] M) b S4 pos):=.mk λd a n f g p h q=>by
 show rY<|xv (wpAny_NamedExpr<|j.go d a _ f g.todz h.tocU λu r s t i=>iA<|(h.keep t).gn (aa:={a with heap:=r,toks:=s}) k i λj r u h h h t=>?_) e;show BH<|BN<|ma ?_;mspec i.isNone;mspec hd;show l.go d {a with heap:=j,toks:=r} n f g p t λm a o=>q m a o.toks
end
section
variable {U:aV}
def av.of_eq (a:av m n o b r)(d:r=w):av m n o b w:=d▸a
noncomputable def nt (bZ:dk)(ai:i):i:=
 ("node ":i)++gO ai++(if ai∈cP bZ then(if i1 bZ ai= -2 then " was already marked done" else " was not passed out (still not ready)")else " was not added using add()":i)
def q3 (bZ:dk)(ai:i):Prop:=ai∉cP bZ\/i1 bZ ai= -2\/0<=i1 bZ ai
def Mb (o:aR U)(n:Nat)(L:T)(X:aY)(w p:aO)(M:List b1)(D:qY p M)(h0:w.cL=p.cL)(E:w.cB=p.cB)(x:w.bY=p.bY)(d:ax)(l:i)(r:T×ak)(S5:d.bo=O r)(S6:d.bz)(F:(gO l).length<=900)(N:q3 d.P l):
 dY #[U,n,bU (bi 175<|a U) L 175,X,[("self",.val (.ref d.x)),("nodes",.bQ [.str l])],d.D] w p M d.D (nr (nt d.P l) d.D) (cf 175<|a U):=by
 have P:=ax.il (Y:=#[U,n,bU (bi 175<|a U) L 175,X,[("self",.val (.ref d.x)),("nodes",.bQ [.str l])],d.D]) o V d d.eI d.eR;have Q:=P.2.1;rw[show mu d.bo=.val (.ref r.1) by mspec S5;rfl]at Q;show dY.bq (by mspec x;show id) (X:=X) (Γ:=[("self",.val (.ref d.x)),("nodes",.bQ [.str l])]) (own:=d.D) (g.dB (an:=aj) (aZ.bK (q:=aj) (ac:=.val<| .ref r.1) (R.fk (R.K 0 V) Q V) R.gF av.oZ e) (λh=>by cases h)<|λZ=>S.nil λh I=>I) ?_;show dY.bq (by mspec x;show id) (g.assign (af:=.val<| .ref d.cp) (R.fk (r:=.val<| .ref d.x) (R.K 0 V) P.1 V) (.inl V) V) ?_;show dY.head (fG.L7 (af:=.str l) (ds:=[]) (R.K 2 V) (λp h=>by cases h) cA.bQ (.name<| .inl V) (λS7=>?_)<|λZ=>rfl);have A:nt d.P l=("node ":i)++gO l++(if l∈cP d.P then(if i1 d.P l= -2 then " was already marked done" else " was not passed out (still not ready)")else " was not added using add()":i):=rfl;show aw (vh d.br l) (λp=>?_) λS8=>?_
 .show am p λs B=>?_;have S9:l∉cP d.P:=λm=>by
   unfold cP at m;rw[y9]at m;show aX (ck m) λk p w=>?_;show B k p w
  rw[if_neg S9]at A;mspec A;show dY.head (fG.sm (af:=.none) (R.of_eq (R.jf (ds:=[.str l]) (r:=.val<| .ref d.cp) (R.K 1 V) (fD.bN (aq.D d.lN) qx u2) (W.cons (R.K 0 V) W.nil V) (bO.uZ<|aq.D d.lN) V e V) (by mspec s;rfl)) (.inl V) H<|dY.head ?_);show fG.sI (fP:="ValueError") vw vx (ds:=[.str _]) D h0 E V (o.eX V rfl (by room) (by decide) V rfl rfl (by decide)) (W.cons (R.zi (R.K 1 V) (by mspec show("node ":i).length=5 from rfl;mspec show(" was not added using add()":i).length=26 from rfl;unfold aC;show dK [.C G<| .n 900] 0 (.y (.y (.n 5) G)<| .n 26) (.n<|2^24) H F)) W.nil V) (fT H) (eH _) (λl m=>c7 m)<|λS4 h r=>sJ r
 .show kK S8 λw k L p=>?_;show cd p λs B Ta=>?_;have J:l∈cP d.P:=by unfold cP;rw[y9];show iw.mpr (as k (by mspec s;simp) B)
  have Tb:(k.y,j.slots 95 [.str k.name,.int k.cx,.val<| .ref k.cD])∈d.D:=by mspec ax.split s;simp
  have t:i1 d.P l=k.cx:=by unfold i1;show ch B ?_;mspec vt s S6;rfl
  rw[if_pos J,t]at A;mspec A;show dY.bq (by mspec x;show id) (X:=S7::X) (Γ:=bj "nodeinfo" (.val<| .ref k.y)<|bj "node" (.str l)<|bj "n2i" (.val<| .ref d.cp) [("self",.val (.ref d.x)),("nodes",.bQ [.str l])]) (own:=d.D) (g.sm (af:=.val<| .ref k.y) (R.of_eq (R.jf (ds:=[.str l]) (r:=.val<| .ref d.cp) (R.K 1 V) (fD.bN (aq.D d.lN) qx u2) (W.cons (R.K 0 V) W.nil V) (bO.uZ<|aq.D d.lN) V e V) (by mspec Ta;rfl)) (.inl V) (λh=>L1 (show aj=z from h))<|λZ=>S.nil λh I=>I) ?_;show dY.bq (by mspec x;show id) (g.assign (af:=.int k.cx) (R.fk (r:=.val<| .ref k.y) (R.K 0 V) (f9.slot (au:=a U) o.bC (ac:=k.y) (q:=95) (ds:=[.str k.name,.int k.cx,.val<| .ref k.cD]) Tb V (.int _) lK) V) (.inl V) V) ?_;have Tc:k.cx≠ -1:=by
   show aw N (λh=>?_) λK=>aw K (λh=>?_) λh=>?_
   .show absurd J h
   .rw[t]at h;show λu=>kI [k.cx] [.C f<| .n<| -2,.C (.n<| -1) f] rfl (c2 h:) (c2 (u).symm:)
   .rw[t]at h;show λu=>kI [k.cx] [.C (.n 0) f,.C f<| .n<| -1] rfl h (c2 u:)
  show dY.head (fG.qZ (aZ.bK (ac:=.int k.cx) (b:=.int<| -1) (R.K 0 V) (R.sD (aT:=530)<|o.eU V (by room) V rfl (by decide)) (av.of_eq av.kN<|by simpa using Tc) e)<|dY.head ?_);by_cases v:k.cx= -2
  .mspec if_pos v;show fG.L6 (aZ.bK (ac:=.int k.cx) (b:=.int 0) (R.K 0 V) R.bJ (av.of_eq av.xw<|decide_eq_false<|λu=>kI [k.cx] [.C f<| .n<| -2,.C (.n 0) f] rfl (c2 v:) u) e)<|dY.head ?_;show fG.qZ (aZ.bK (ac:=.int k.cx) (b:=.int<| -2) (R.K 0 V) (R.sD (aT:=533)<|o.eU V (by room) V rfl (by decide)) (av.of_eq av.eq<|by simpa using v) e)<|dY.head ?_;show fG.sI (fP:="ValueError") vw vx (ds:=[.str _]) D h0 E V (o.eX V rfl (by room) (by decide) V rfl rfl (by decide)) (W.cons (R.zi (R.K 2 V) (by mspec show("node ":i).length=5 from rfl;mspec show(" was already marked done":i).length=24 from rfl;unfold aC;show dK [.C G<| .n 900] 0 (.y (.y (.n 5) G)<| .n 24) (.n<|2^24) H F)) W.nil V) (fT H) (eH _) (λl m=>c7 m)<|λS4 h r=>sJ r
  .mspec if_neg v;have Td:0<=k.cx:=by
    show aw N (λh=>?_) λK=>aw K (λh=>?_) λh=>?_
    .show absurd J h
    .rw[t]at h;show absurd h v
    .rw[t]at h;show h
   show fG.qZ (aZ.bK (ac:=.int k.cx) (b:=.int 0) (R.K 0 V) R.bJ (av.of_eq av.xw<|decide_eq_true Td) e)<|dY.head ?_;show fG.sI (fP:="ValueError") vw vx (ds:=[.str _]) D h0 E V (o.eX V rfl (by room) (by decide) V rfl rfl (by decide)) (W.cons (R.zi (R.K 2 V) (by mspec show("node ":i).length=5 from rfl;mspec show(" was not passed out (still not ready)":i).length=37 from rfl;unfold aC;show dK [.C G<| .n 900] 0 (.y (.y (.n 5) G)<| .n 37) (.n<|2^24) H F)) W.nil V) (fT H) (eH _) (λl m=>c7 m)<|λS4 h r=>sJ r
end
noncomputable abbrev eC (a7:iH)(ca aQ:T):b1:=newEnv a7.scope ca a7.globals a7.closure (a7.qualname++".<locals>.") (O aQ) a7.code c a7.builtins
structure iL (al:aW)(aQ:T)(a7:iH)(body:c4):Prop where
 at_:∃o,al.get? aQ=O o/\o.data=.func a7
 m6:al.CodeRec a7.code a7.qualname
 pc:a7.body=.expr body
 r1:hD a7 #[[],[]]=pure []
 zj:∀ae∈a7.scope.names,ae.2≠ .cell
 fm:a7.scope.isCoroutine=aj
 bY:a7.scope.isGenerator=aj
 kind:a7.scope.kind=.function
def iL.keep {d:T}{e:iH}(a:iL m d e body)(f:E h' m):iL h' d e body:=
 {a with at_:=let#[o,d,b]:=a.at_;#[o,f _ _ d,b],m6:=a.m6.keeps f}
def hY (U:aV)(a7:iH)(al aF:aW)(Γ:be):Prop:=∀ai∈Γ,∃q an,a7.scope.names.lookup ai.1=O .free/\a7.closure.lookup ai.1=O q/\al.IsCell q (O an)/\a9 U aF an ai.2
def vy (d:iL m.heap w x body)(N:r.B.NoLimit)(H:dz B (n+1))
 (I:E (l m.heap X) r.B) (J:∀k∈X,∃o,m.heap.get? k=O o) (P:hY r x m.heap (l m.heap X) Γ) (K:∀h∈own,h.1∈X/\bG r (l m.heap X) m.heap h.1 h.2)
 (Q:∀e f R,m.heap.get? e=c->dz (B.deeper<|eC x e w) n->cU #[r,n,eC x e w,e::X,Γ,own] f->E f m.heap->(∃o p t,f.get? e=O o/\o.data=.dict p t)->
  ar r.M (B.deeper<|eC x e w) (eval body<|eC x e w) (λu y=>M (.ok<| .ret u) y)
   (λa y=>ar r.M (B.deeper<|eC x e w) (qf (eC x e w) a) (λq C=>M (.error a) C) (λS C=>M (.error S) C) y) {m with heap:=f,toks:=R}):hR r.M B (.call (.ref w) #[[],[]]) M m:=by
 show aX d.at_ λo e hd=>?_;show kla_callFunE H.xr e hd d.fm d.bY d.pc d.m6 ?_;mspec d.r1;show ba (Mc d.zj (λw e=>nomatch e) (λf T w=>?_) d.kind);have j:E f m.heap:=λb o a=>w.extBut b o (g7<|gl a)<|gk _ a;show#[(N.keeps (show E m.heap r.B from I.trans l.of)).keeps j,kla_codeExpr ?_];have F:m.heap.get? m.heap.objs.size=c:=d3;have e:m.heap.objs.size∉X:=λg=>by show v (J _ g) λo i=>?_;replace i:=F▸i;cases i
 have G:E (l f<|m.heap.objs.size::X) (l m.heap X):=λk o i=>by
  have s:=l.of _ _ i;show cb _ (j k o s) λg=>?_;show aw (a4 g) (λU=>?_) λg=>?_
  .obtain rfl:=U;replace s:=F▸s;cases s
  .replace i:=(cT _ g)▸i;cases i
 have L:∃o p t,f.get? m.heap.objs.size=O o/\o.data=.dict p t:=by
  show l4 T λo p e a hd q=>?_;show j6 o p e a hd
 show Q m.heap.objs.size f _ F (H.rJ V rfl rfl (cg _)) ?_ j L;show
  {base:=I.trans G
   cw:=λk g=>by
    rcases a4 g with rfl|g
    .show eW L λo q q a q=>?_;show dm o a
    .show v (J k g) λo a=>?_;show dm o (j _ _ a)
   d8:=λh e=>by
    show l5 (P h e) λf u g i k m=>?_;show aX k λo a hd=>?_;show as u (.inr #[f,.inr g,i,o,j _ _ a,hd]) (m.keep G)
   D:=λh e=>#[A (K h e).1,(K h e).2.keep G j]
   kind:=d.kind}
section
variable {Y:bc}{au:fl}
def Ej (X:au.In Y.d.B)(f:dz x Y.n)(g:cU Y b.heap)(k:(S4,.aG (c1 S7 S8))∈Y.D)(p:(S8,.ns S9)∈Y.D)(q:S9.lookup m=c)(d:jQ au S7 B m)
 (a:R Y o (.val<| .ref S4)) (t:W Y pos (w::r) ds) (u:bf (w::r) Y.J=(aj,eval w Y.J)::bf r Y.J) (v:(cX pos<|bf r Y.J).any (·.1)=aj)
 (y:eval (.Call (.Attribute o m S5) (w::r) [] pos) Y.J=(do
  let S6 <-eval o Y.J
  ep S5.atName
  let(B,first) <-e5 [S6] (gK S6 m ij)
  dO pos B first (cX pos<|bf (w::r) Y.J) []))
 (A:∀e h' C,E h' b.heap->aN Y.d (l h' Y.X) e ds->ar Y.d.M x (dU (.ref B)<| .ref S4::e) Ta M {b with heap:=h',toks:=C}):ar Y.d.M x (eval (.Call (.Attribute o m S5) (w::r) [] pos) Y.J) Ta M b:=
 jO (pl:=ij) (a.go x b _ M f g λr h i j D=>by
  obtain rfl:=D.is;have a:=g.keep j;show f4 (pi (a.D _ k).2 (a.D _ p).2) λg n r B w=>?_;have k:yK (O<|j7 g n) m=O aj:=by
   show(?_:(u0 m<|j7 g n).map _=_);rw[u1];mspec w.get.2 q;rfl
  show yL (s:={b with heap:=h,toks:=i}) (a.bC X) r (k4 d.plain).1 (k4 d.plain).2 d.at_ d.oi k ?_;show C6 (a.bC X) d.kept (t.go x {b with heap:=h,toks:=i} _ M f a λe d g b h=>#[(a.keep b).bC X,A e d g (j.trans b) h]) u v) y
def zk (X:au.In Y.d.B)(d:dz r Y.n)(g:cU Y b.heap)(i:(x,.aG (c1 S5 S6))∈Y.D)(j:(S6,.ns S7)∈Y.D)(k:S7.lookup m=c)(a:jQ au S5 w m)
 (l:R Y o (.val<| .ref x))
 (p:eval (.Call (.Attribute o m B) [] [] pos) Y.J=(do
  let M <-eval o Y.J
  ep B.atName
  let(w,first) <-e5 [M] (gK M m ij)
  dO pos w first (cX pos<|bf [] Y.J) []))
 (q:∀h' t,E h' b.heap->ar Y.d.M r (dU (.ref w) [.ref x]) S8 S4 {b with heap:=h',toks:=t}):ar Y.d.M r (eval (.Call (.Attribute o m B) [] [] pos) Y.J) S8 S4 b:=
 jO (pl:=ij) (l.go r b _ S4 d g λt e f h u=>by
  obtain rfl:=u.is;have d:=g.keep h;show f4 (pi (d.D _ i).2 (d.D _ j).2) λg n l t r=>?_;have i:yK (O<|j7 g n) m=O aj:=by
   show(?_:(u0 m<|j7 g n).map _=_);rw[u1];mspec r.get.2 k;rfl
  show yL (s:={b with heap:=e,toks:=f}) (d.bC X) l (k4 a.plain).1 (k4 a.plain).2 a.at_ a.oi i ?_;show C7 (s:={b with heap:=e,toks:=f}) (d.bC X) a.kept<|q e f h) p
end
def hc.Ek (s:hc r x B w body)
 (t:dz M (n+1)) (u:M.frames=O ag) (v:E (l m.heap X) r.B) (y:∀q∈X,∃o,m.heap.get? q=O o) (A:gJ r B args w X ds m) (C:w.length=ds.length)
 (D:∀d∈ah,d.1∈X/\bG r (l m.heap X) m.heap d.1 d.2) (F:ah.Pairwise λa G=>a.1≠G.1)
 {gen:Bool} (H:∀i j,dY #[r,n,bU B i x,j,w.zip ds,ah] #[cq m.heap<|aH ah,X,O ag,gen] #[cq m.heap<|aH ah,X,O ag,gen] ag ah co body)
 (k:∀a e f g h,cs m e gen->co f g h->qX r X ag ah f (cq m.heap<|aH ah) e.heap a g h->S4 (.error<| .ref a) e):hR r.M M (.call (.ref x) args) S4 m:=by
 show s.uB t v y A C (h0:=cq m.heap<|aH ah) (λq o k=>fe _ k) (own:=ah) D (λd q=>cT _<|c7 q) F (fr:=O ag) (gen:=gen) (λd p=>by cases p;show u) λi j r s q t d=>?_;show(H i j).go _ {m with heap:=r,toks:=s} _ _ q (q.pa _ V) t λa e o=>?_;show dq o (λd e p=>by
  show l4 p λf g h i j b=>?_;show k a e f g h (cs.up.trans i) j b) λd d a=>a.elim
def hc.Md (t:hc m w x r body){X:aY}{n:Nat}{args:Args}{ds:dn}{ah:aD}{ag:List b1}{co:aD->a3->cv->Prop}{k:ue->aM->Prop}
 (u:dz B (n+1)) (v:B.frames=O ag) (y:jp b.heap ag) (A:∀a∈c8 ag,a∈X) (C:∀a∈c8 ag,a∉aH ah) (D:E (l b.heap X) m.B) (F:∀a∈X,∃o,b.heap.get? a=O o) (G:gJ m x args r X ds b) (H:r.length=ds.length)
 (I:∀g∈ah,g.1∈X/\bG m (l b.heap X) b.heap g.1 g.2) (J:ah.Pairwise λe K=>e.1≠K.1)
 {gen:Bool} (L:∀h i f d,qY d ag->f.cL=d.cL->f.cB=d.cB->f.bY=d.bY->d.bY=gen->dY #[m,n,bU x h w,i,r.zip ds,ah] f d ag ah co body)
 (M:∀e j p q s,cs b j gen->co p q s->qX m X ag ah p (cq b.heap<|aH ah) j.heap e q s->k (.error<| .ref e) j):hR m.M B (.call (.ref w) args) k b:=
 t.Ek u v D F G H I J (λh i=>L h i _ _ #[y.keep λa b o d=>#[o.slots,cb _ d<|C a b],A] V rfl rfl rfl) M
def hc.El (t:hc m w x r body){ds:dn}
 (u:dz B (n+1)) {fr:Option (List b1)} (v:∀q,fr=O q->B.frames=O q) (y:E (l b.heap X) m.B) (A:∀s∈X,∃o,b.heap.get? s=O o) (C:gJ m x args r X ds b) (D:r.length=ds.length)
 (F:∀e∈ah,e.1∈X/\bG m (l b.heap X) b.heap e.1 e.2) (G:ah.Pairwise λh H=>h.1≠H.1)
 {gen:Bool} (I:∀i j h0,S #[h0,X,fr,gen] #[m,n,bU x i w,j,r.zip ds,ah] body (er m #[h0,X,fr,gen] ah co))
 (k:∀f a d g,cs b a gen->co d g->qH m #[cq b.heap<|aH ah,X,fr,gen] ah d a.heap->a9 m (l a.heap<|X++aH d) f g->M (.ok<| .ret f) a):hR m.M B (.call (.ref w) args) M b:=by
 show t.uB u y A C D (h0:=cq b.heap<|aH ah) (λs o k=>fe _ k) (own:=ah) F (λe m=>cT _<|c7 m) G (fr:=fr) (gen:=gen) v λi j m q r s e=>?_;show dq ((I i j _).go _ {b with heap:=m,toks:=q} _ r s) (λb a p=>?_) λe e h=>h;obtain⟨J,f,g,d,p,K,L,N⟩:=p;have b:=k f a d g (cs.up.trans J) K L N;rcases p with rfl|⟨rfl,rfl⟩<;>show b
def zl {b h':aW}{ag:aY}(e:E h' b):E (cq h' ag) (cq b ag):=λb o a=>by
 by_cases d:b∈ag
 .rw[cT _ d]at a;cases a
 .show cb _ (e _ _<|fe _ a) d
def eb (cE:aD)(ag:List b1):Prop:=∀env∈ag,env.scope.kind≠ .module/\∃ca o dy s,env.frame=O ca/\(ca,j.frame o)∈cE/\o.data=.dict dy s
def eu (cE:aD):Prop:=∀ai∈cE,∃o dy s,ai.2=.frame o/\o.data=.dict dy s
def bG.vz (r:bG b m n w (.frame o)):bG.Is b m n w (.frame o):=r.is
def eb.c8 (d:eb m n):∀a∈c8 n,a∈aH m:=λa e=>by
 show aX (vu.mp e) λenv a b=>?_;show am (d env a) λe f=>?_;show j5 f λd o h i a=>?_;show cd a λd g e=>?_;rw[d]at b;obtain rfl:=fU b;show c7 g
def eb.frames (b:eb m n)(r:∀a∈m,bG x B w a.1 a.2):jp w n:=λenv a=>by
 show am (b env a) λh0 d=>?_;show j5 d λa o b e f=>?_;show cd f λd g h=>?_;show v ((r _ g).vz) λi f=>?_;show#[h0,a,_,b,e,d,f,h]
def zm (d:aW)(e b:aY)(a:T):(cq d<|e++b).get? a=(cq (cq d b) e).get? a:=by
 by_cases f:a∈e
 .mspec cT _ f;show aI (cT _<|bI f) V
 .by_cases g:a∈b
  .mspec cT _<|bA g;cases q:(cq (cq d b) e).get? a with
   |none=>rfl|some o=>have:=fe _ q;rw[cT _ g]at this;cases this
  .cases q:d.get? a with
   |some o=>mspec cb _ q (by simp[f,g]);show aI (cb _ (cb _ q g) f) V|none=>
    cases q1:(cq d<|e++b).get? a with
    |some o=>rw[fe _ q1]at q;cases q
    |none=>
     cases q2:(cq (cq d b) e).get? a with
     |some o=>rw[fe _<|fe _ q2]at q;cases q
     |none=>rfl
def lP.congr {h0 e f g h':aW}(b:lP m X r w x h0 f g h' Z B M S4 S5)(d:∀a,e.get? a=h0.get? a):lP m X r w x e f g h' Z B M S4 S5:=
 {b with
  keep:=λa o e=>b.keep a o (by rw[<-d];show e)
  new:=λg f=>by rw[d];show b.new g f
  np:=λa o n f e=>b.np a o n (f.imp (λg=>v g λa f=>#[a,by rw[<-d];show f]) id) e}
structure mz (U:aV)(n:Nat)(h0:aW)(fY:aY)(aQ:T)(ah:aD)(pr:aD->a3->cv->Prop)(a:aD->j->Prop):Prop where
 go:∀(aJ:cV)(aa:aM)(X:aY)(ag:List b1)(cE:aD)(bM:bX)(bv:bX),dz aJ n->aJ.frames=O ag->eb cE ag->eu cE->E (l aa.heap X) U.B->(∀ac∈X,∃o,aa.heap.get? ac=O o)->
  E aa.heap h0->E (l aa.heap X) (l h0 fY)->(∀ai∈cE++ah,ai.1∈X/\bG U (l aa.heap X) aa.heap ai.1 ai.2)->((cE++ah).Pairwise λae bu=>ae.1≠bu.1)->
  (∀an bR bg af,cs aa bR aj->a bg af->qH U #[cq aa.heap<|aH<|cE++ah,X,c,aj] (cE++ah) (cE++bg) bR.heap->a9 U (l bR.heap<|X++aH (cE++bg)) an af->bM an bR)->
  (∀ae bR bg fP a1,cs aa bR aj->pr bg fP a1->qX U X ag (cE++ah) (cE++bg) (cq aa.heap<|aH<|cE++ah) bR.heap ae fP a1->bv (.ref ae) bR)->ar U.M aJ (dU (.ref aQ) []) bM bv aa
abbrev ks (U:aV)(n:Nat)(h0:aW)(fY:aY)(aQ:T)(ah:aD)(co:aD->a3->cv->Prop):Prop:=mz U n h0 fY aQ ah co λa a=>False
abbrev oq (U:aV)(n:Nat)(h0:aW)(fY:aY)(aQ:T)(ah:aD)(co:aD->j->Prop):Prop:=mz U n h0 fY aQ ah (λa a a=>False) co
def mz.dP (a:mz m n h0 w x B M S4)(i:∀o d e,M o d e->S5 o d e)(j:∀o a,S4 o a->S6 o a):mz m n h0 w x B S5 S6:=.mk λk l X m p q s t b d u v w x y A B C r=>a.go k l X m p q s t b d u v w x y A B (λe f o a g h=>C e f o a g<|j _ _ h) λg f o d e h k=>r g f o d e h<|i _ _ _ k
def Em {b d:aD}(e:∀a∈b,∃o,m.get? a.1=O o)(f:∀a∈b,∀g∈d,a.1≠g.1):∀a∈b,∃o,(cq m<|aH d).get? a.1=O o:=λa b=>by
 show v (e a b) λo d=>?_;show#[o,cb _ d λe=>?_];show aX (ck e) λd g h=>?_;show f a b d g h.symm
def En (e:eu b)(f:∀a∈b,bG m r n a.1 a.2)(g:∀a∈b,∀o,n.get? a.1=O o->h'.get? a.1=O o):∀a∈b,bG m w h' a.1 a.2:=λa b=>by
 show eW (e a b) λo h i d j=>?_;show v (((d▸f a b:bG m _ n a.1 (.frame o))).vz) λe h=>?_;mspec d;show .frame (gE:=e)<|g a b _ h
section
variable {U:aV}{n:Nat}{h0:aW}{fY:aY}{aQ:T}{a7:iH}{body:c4}{ah:aD}{Γ:be}{ae aE:T}{kt:iH}{dW:ak}{nu:List cl}{ds gA:dn}
def hY.keep (a:hY U a7 b m Γ)(d:E h' b)(e:E r m):hY U a7 h' r Γ:=λb f=>by
 show cm (a b f) λg h i=>?_;show iQ i λa b f j=>?_;show v f λo i=>?_;show am i λf hd=>?_;show kM g h a b (as o (d _ _ f) hd)<|j.keep e
def ks.of {u:aD->a3->cv->Prop}(I:iL h0 aQ a7 body)(S8:U.B.NoLimit)(S9:hY U a7 h0 (l h0 fY) Γ)
 (Ta:∀(f:T)(X:aY)(r:cV)(e:aM)(w:bX)(x:bX),dz r (n+1)->cU #[U,n+1,eC a7 f aQ,X,Γ,ah] e.heap->(∀k h' y,E h' e.heap->aN U (l h' X) k ds->ar U.M r (dU (.ref aE)<| .ref ae::k) w x {e with heap:=h',toks:=y})->ar U.M r (eval body<|eC a7 f aQ) w x e)
 (Tb:hc U aE kt dW nu) (Tc:dW.length=gA.length) (Td:∀(e:aM)(X:aY)(k:cv),aN U (l e.heap X) k ds->(∀g∈X,∃o,e.heap.get? g=O o)->gJ U kt #[.ref ae::k,[]] dW X gA e)
 (Te:∀f B p m i,qY m i->p.cL=m.cL->p.cB=m.cB->p.bY=m.bY->dY #[U,n,bU kt f aE,B,dW.zip gA,ah] p m i ah u nu):ks U (n+2) h0 fY aQ ah u:=.mk λr e X i J w x Tf K C Tg Th D M Ti N Tj Tk Tl=>by
 show cd (ii.mp Tj) λTm Tn P=>?_;have Q:∀a∈ah,a.1∈X/\bG U (l e.heap X) e.heap a.1 a.2:=λa aE=>N a<|bA aE;have q:∀a∈J,a.1∈X/\bG U (l e.heap X) e.heap a.1 a.2:=λa aE=>N a<|bI aE;have To:jp e.heap i:=C.frames λa aE=>(q a aE).2;have Tp:∀g∈c8 i,g∈X:=λg h=>by
  show g1 (C.c8 g h) λa j=>?_;show(q a j).1
 have Tq:∀g∈c8 i,g∉aH ah:=λg h Tr=>by
  obtain⟨a,j,rfl⟩:=ck<|C.c8 g h;show aX (ck Tr) λr w d=>?_;show P a j r w d.symm
 show hS<|vy (n:=n+1) (I.keep M) S8 Tf Th D (S9.keep M Ti) Q λf r y R S w x C=>?_;show Ta f (f::X) _ {e with heap:=r,toks:=y} _ _ S w λk W M r Ts=>?_;have s:=w.keep r;show eW C λTt Tu Tv w Tw=>?_;have Y:=r _ _ w;have S4:E W e.heap:=x.trans r;have S5:f∉aH ah:=λF=>by
  obtain⟨a,j,rfl⟩:=ck F;show v (D _ (Q a j).1) λo d=>?_;rw[R]at d;cases d
 have Tx:jp W (eC a7 f aQ::i):=λenv G=>by
  show aw (a4 G) (λTy=>?_) λG=>?_
  .obtain rfl:=Ty;show#[?_,f,Tt,Tu,Tv,V,Y,Tw];show(?_:a7.scope.kind≠ .module);mspec I.kind;decide
  .show(To.keep λg h o d=>#[o.slots,S4 _ _ d]) env G
 have S6:c8 (eC a7 f aQ::i)=f::c8 i:=rfl;show hS<|Tb.Md (ag:=eC a7 f aQ::i) (X:=f::X) (ah:=ah) (co:=u) (ds:=gA) S (r2 K) Tx (λg h=>?_) (λg h=>?_) s.base s.cw (Td _ _ k Ts s.cw) Tc s.D Tn (gen:=aj) (λi B p m k h0 r s Tk=>Te i B p m _ k h0 r s) λTz u TA TB TC TD TE b=>?_
 .rw[S6]at h;show(d1 h).elim (λd=>d▸ao) λd=>A<|Tp g d
 .rw[S6]at h;show(d1 h).elim (λd=>d▸S5) λd=>Tq g d
 obtain⟨TF,TG,Z,TH,b⟩:=b;show wpAny_leaves_onW (r2 K) (L:=f) V b.qW λm k i=>?_;have H:=b.up (X:=X) (vv:=cq e.heap<|aH ah) V (λg h=>A h) (zl S4) ?_ ?_ k (b.bQ.of_slots i) i
 .have S7:=Em (λa aE=>D _ (q a aE).1) P;have TI:=H.L4 (cE:=J) (En Tg (λa aE=>(q a aE).2) λa aE o d=>H.keep _ _ (by
   show v (S7 a aE) λi t=>?_;have:=fe _ t;rw[d]at this;cases this;show t)) S7 Tm (λg h=>by
   show g1 h λa j=>?_;show H.pq _ (q a j).1)
  show Tl Tz _ TA TB TC (cs.up.trans<|TD.trans .up) TE #[TF,TG,Z,TH,TI.congr λg=>by mspec ik;rw[zm]]
 .show(?_:(cq e.heap<|aH ah).get? f=c);cases d:(cq e.heap<|aH ah).get? f with
  |none=>rfl|some o=>have:=fe _ d;rw[R]at this;cases this
 .intro F;show aX (ck F) λa j d=>?_;have:=b.new a j;have t:a.1=f:=d;rw[t,cb _ Y S5]at this;cases this
def oq.Me {q:aD->j->Prop}(Q:iL h0 aQ a7 body)(R:U.B.NoLimit)(V:hY U a7 h0 (l h0 fY) Γ)
 (W:∀(f:T)(X:aY)(m:cV)(d:aM)(s:bX)(t:bX),dz m (n+1)->cU #[U,n+1,eC a7 f aQ,X,Γ,ah] d.heap->(∀g h' u,E h' d.heap->aN U (l h' X) g ds->hR U.M m (.call (.ref aE) #[.ref ae::g,[]]) (λr D=>match r with| .ok (.ret x)=>s x D| .ok _=>False| .error w=>t w D) {d with heap:=h',toks:=u})->ar U.M m (eval body<|eC a7 f aQ) s t d)
 (Y:hc U aE kt dW nu) (Z:dW.length=gA.length) (S4:∀(d:aM)(X:aY)(g:cv),aN U (l d.heap X) g ds->(∀h∈X,∃o,d.heap.get? h=O o)->gJ U kt #[.ref ae::g,[]] dW X gA d)
 (S5:∀f y fY h0,S #[h0,fY,c,aj] #[U,n,bU kt f aE,y,dW.zip gA,ah] nu (er U #[h0,fY,c,aj] ah q)):oq U (n+2) h0 fY aQ ah q:=.mk λm d X Td i s t S6 Te Tf S7 S8 D F S9 G Ta B Tb=>by
 show cd (ii.mp Ta) λTc Td Te=>?_;have m:∀a∈ah,a.1∈X/\bG U (l d.heap X) d.heap a.1 a.2:=λa aE=>G a<|bA aE;have C:∀a∈i,a.1∈X/\bG U (l d.heap X) d.heap a.1 a.2:=λa aE=>G a<|bI aE;show hS<|vy (n:=n+1) (Q.keep F) R S6 S8 D (V.keep F S9) m λf s u Tl t G Ta Tf=>?_;show W f (f::X) _ {d with heap:=s,toks:=u} _ _ t G λg H m s F=>?_;have m:=G.keep s;show eW Tf λG Q R u V=>?_;have G:=s _ _ u;have I:E H d.heap:=Ta.trans s;show(Y.El (X:=f::X) (ah:=ah) (co:=q) (ds:=gA) t (fr:=c) (λTb q=>nomatch q) m.base m.cw (S4 _ _ g F m.cw) Z m.D Td (gen:=aj) (λg y h0=>S5 g y _ h0) λx J p Tg Th Ti k Tj=>?_);have K:=Em (λa aE=>D _ (C a aE).1) Te;have L:E J.heap (cq d.heap<|aH ah):=(zl I).trans k.keep;have M:∀a∈p,(cq d.heap<|aH ah).get? a.1=c:=λa b=>by
  cases e:(cq d.heap<|aH ah).get? a.1 with
  |none=>rfl|some o=>have:=zl (ag:=aH ah) I _ _ e;have g:(cq H<|aH ah).get? a.1=c:=k.new a b;rw[g]at this;cases this
 have N:∀h∈X++aH (i++p),h∈(f::X)++aH p:=λh f=>by
  show cK f (λaE=>?_) λaE=>?_
  .show bI<|A aE
  .rw[ik]at aE;show cK aE (λaE=>?_) λaE=>?_
   .show g1 aE λa b=>?_;show bI<|A (C a b).1
   .show bA aE
 show B x J p Tg (cs.up.trans Th) Ti #[λh o e=>L _ _ ?_,λa b=>?_,λa b=>?_,ii.mpr<|cG Tc k.apart<|λa b B Tk e=>?_,λa b=>?_]<|Tj.keep<|l.sub N
 .rw[show(cq d.heap<|aH<|i++ah).get? h=_ from by mspec ik;rw[zm]]at e;show fe _ e
 .show cK b (λb=>?_) λb=>?_
  .show En S7 (λa aE=>(C a aE).2) (λa aE o e=>L _ _ (by
    show v (K a aE) λf P=>?_;have:=fe _ P;rw[e]at this;cases this;show P)) a b
  .show(k.hE a b).keep (l.sub N)<|E.bd _
 .show(?_:(cq d.heap<|aH<|i++ah).get? a.1=c);mspec ik;rw[zm];show cK b (λb=>?_) λb=>?_
  .show cT _<|c7 b
  .cases e:(cq (cq d.heap<|aH ah)<|aH i).get? a.1 with
   |none=>rfl|some o=>have:=fe _ e;rw[M a b]at this;cases this
 .show v (K a b) λo w=>?_;rw[e,M B Tk]at w;cases w
 .mspec ik;show cK b (λb=>?_) λb=>?_
  .show bI<|c7 b
  .show bA<|k.all a b
end
def Mf:lz (.type "ValueError") "__class__"=pure (O<| .builtin "object.__class__"):=by rw[kd];mspec ke;room
def Mg:uO (.type "ValueError") (.type<|".".intercalate ("object.__class__".cutAt '.').dropLast)=pure z:=by
 mspec F.owner_object_class;rw[lF];room
section
variable {cY:i5}{bp:fd}{aJ:cV}{bv:bX}{al:aW}{bt:Array GenState}{af:Drawn}{aT:Nat}{ip:OsState}{ac:T}{o:dF}
def Mh (a:al.get? ac=O o)(b:o.cls=.type "ValueError")(d:m (.ok<| .ret<| .type "ValueError") #[al,bt,af,aT,ip]):
 hR (b2 cY bp) aJ (.call (.builtin "getset_descriptor.__get__") #[[.builtin "object.__class__",.ref ac,.type "ValueError"],[]]) m #[al,bt,af,aT,ip]:=by
 have d:(#[al,bt,af,aT,ip]:aM).TypeIs (.ref ac) "ValueError":=as _ a b;have a:=Mg;show sf Eo.plain F.entry_gs_get<|Eo.check _ _ _ _ _ _ _ _ Ep (F.args_gs_get _ _ _) ?_
 repeat(any_goals (first|assumption|wp_step))
 show#[C2 _ (by decide+kernel),pe F.entry_object_class ?_]
 repeat(any_goals (first|assumption|wp_step))
def Mi (a:al.get? ac=O o)(b:o.cls=.type "ValueError")(d:m (.done (.ret<| .type "ValueError")) #[al,bt,af,aT,ip]):
 ar (b2 cY bp) aJ (Builtin.«object.__getattribute__» #[[.ref ac,.str "__class__" n],[]]) m bv #[al,bt,af,aT,ip]:=by
 have d:(#[al,bt,af,aT,ip]:aM).TypeIs (.ref ac) "ValueError":=as _ a b;have d:(#[al,bt,af,aT,ip]:aM).TypeIs (.builtin "object.__class__") "getset_descriptor":=Ep;have d:=Mf;have d:=Ep;have d:=Eo.lookup;have d:=F.slot_gs_set.lookup
 repeat(any_goals (first|assumption|wp_step))
 show Mh a b ?_
 repeat(any_goals (first|assumption|wp_step))
def Mj (a:al.get? ac=O o)(b:o.cls=.type "ValueError")(d:m (.ok<| .ret<| .type "ValueError") #[al,bt,af,aT,ip]):
 hR (b2 cY bp) aJ (.call (.builtin "BaseException.__getattribute__") #[[.ref ac,.str "__class__" n],[]]) m #[al,bt,af,aT,ip]:=
 sf zn.ga.plain F.entry_bexc_ga (zn.ga.check _ _ _ _ _ _ _ _ (show(#[al,bt,af,aT,ip]:aM).TypeIs (.ref ac) "ValueError" from(as _ a b)) (F.args_bexc_ga _ _)<|Mi a b d)
def Mk (a:al.get? ac=O o)(b:o.cls=.type "ValueError")(d:m (.type "ValueError") #[al,bt,af,aT,ip]):ar (b2 cY bp) aJ (getAttrBy (.ref ac) (.str "__class__" n) aj) m bv #[al,bt,af,aT,ip]:=by
 have d:(#[al,bt,af,aT,ip]:aM).TypeIs (.ref ac) "ValueError":=as _ a b;have d:=zn.ga.lookup;have d:=zn.ga.bind<| .ref ac
 repeat(any_goals (first|assumption|wp_step))
 show Mj a b ?_
 repeat(any_goals (first|assumption|wp_step))
def Ml (a:al.get? ac=O o)(b:o.cls=.type "ValueError")(d:m (O<| .type "ValueError") #[al,bt,af,aT+1,ip]):ar (b2 cY bp) aJ (getAttr? (.ref ac) "__class__") m bv #[al,bt,af,aT,ip]:=by
 unfold getAttr? getAttrBy?
 repeat(any_goals (first|assumption|with_reducible apply Mk a b|wp_step))
def Mm {b:fl}{d:T}(a:(clsIn b d).isSome=z):∃o,b.lookup d=O o/\∃e,o.data=.cls e:=by
 delta clsIn at a
 cases q:b.lookup d with
 |none=>rw[q]at a;show(pn a).elim|some o=>
  rw[q]at a;obtain⟨b,d,af,e⟩:=o;cases af<;>first|show#[_,rfl,_,rfl]|show(pn a).elim
def Mn {a:fl}(X:a.In al)(f:al.get? ac=O o)(g:o.cls=.type "ValueError")(j:(clsIn a b).isSome=z)(k:sl a (.ref b)=O (.type "type"))(l:instIn a (.ref b) (.type "type")=O z)
 (n:m (.done (.ret<| .bool aj)) #[al,bt,af,aT+1,ip]):ar (b2 cY bp) aJ (Builtin.«isinstance.nested» #[[.ref ac,.ref b,.int r w],[]]) m bv #[al,bt,af,aT,ip]:=by
 have h:∀{a:p6},uX a al (qv<| .ref ac) (.type "ValueError"):=λ{a} aJ m bv q p d=>Er (T:="ValueError") (as _ (p _ _ f) g) d;have a:=looks_instIn (M:=b2 cY bp) X l;have i:uX (b2 cY bp) al (uO (.type "ValueError")<| .ref b) aj:=looks_subIn X (by
  show(fastBuiltinMro "ValueError").map (·.contains (.ref b))=O aj;mspec(show fastBuiltinMro "ValueError"=O [.type "ValueError",.type "Exception",.type "BaseException",.type "object"] by room);rfl)
 unfold Builtin.«isinstance.nested»;show ap<|h.at ?_;mspec if_neg (by intro d;cases eq_of_beq d);show ap<|(looks_typeIn (M:=b2 cY bp) X k).at ?_;mspec if_pos (by decide)
 k_delta "plainIsInstance"
 unfold isType
 repeat lk
 show aX (Mm j) λk a d=>?_;show v d λj hd=>?_;show nd_load (X _ _ a)<|nd_pure<|ba ?_;mspec hd;show Es e ?_;show ap<|(show uX (b2 cY bp) al (isInstance (.ref ac)<| .ref b) aj from h.andThen i).at ?_;show Es e ?_;show ap<|Ml f g ?_;show ap<|ba ?_;show Es e ?_;show ap<|sd ?_;show i.at ?_;show ba n
def Mo {a:aM}{au:fl}(X:au.In a.heap)(e:a.heap.get? ac=O o)(f:o.cls=.type "ValueError")(g:(clsIn au b).isSome=z)(h:sl au (.ref b)=O (.type "type"))(i:instIn au (.ref b) (.type "type")=O z)
 (j:m (.bool aj) {a with toks:=a.toks+1}):ar (b2 cY bp) aJ (dU (.builtin "isinstance") [.ref ac,.ref b]) m bv a:=
 call_isinstance (S:=λb k a=>(au.In a.heap/\a.heap.get? ac=O o)/\k (.ok<| .ret<| .bool aj) {a with toks:=a.toks+1}) (λb b b b a d=>by
  obtain⟨al,bt,af,aT,ip⟩:=a;show isinstance_outer (Mn d.1.1 d.1.2 f g h i d.2) (by intro l;cases l)) #[#[X,e],j]
end
section
variable {U:aV}
def Mp (b:aR U):ez U 245 (bi 245<|a U) ["deed"] (cf 245<|a U):=
 b.fn V rfl H V rfl (kX λd=>by room)
  (fh V he) (by decide) (show([]:ak).Nodup by decide) e e V
def sK (aE:i)(fP:a3)(a1:cv):Prop:=(fP=.type "ValueError"/\∃a8,a1=[.str aE a8])\/(fP=.ref 110/\aE="ring")
def Mq (a:aR U)(g:sK B n M)(h:E m.heap U.B)(d:m.heap.get? o=O r)(e:r.cls=n)(f:w z m):ar S4 S5 (excMatches (.ref o)<| .type "ValueError") w S6 m:=by
 rcases g with⟨rfl,_⟩|⟨rfl,_⟩
 .show wpAny_excMatches_type (X:="ValueError") (b:=z) (as _ d e) Mr Ms F.self_ValueError f
 .show hx a.kb λk l n o p g=>?_;show hx ((own_of_in (bmB:=[.type "ValueError",.type "Exception",.type "BaseException",.type "object"]) (newId:="ValueError.__new__") a.bC (topRead_of g) (x:="CycleError") (C:=110) (by room)<|by room).keeps h).obj λg k l n o a=>?_;show hx a λh k l n o g=>?_;show hx g λh k l n o a=>?_;show cm a λh k g=>?_;show iQ g λi a h j=>?_;obtain⟨a,g,h,k,l⟩:=m;show wpAny_excMatches_sub_type i d e Mr Ms ?_;mspec j.hasType (b:=z) (by decide+kernel);show f
def u.Mt (a:u m w x)(g:h'.Ns w.J.locals B)(d:ia w.J.locals x h'):u m #[w.d,w.n,w.J,w.X,[],w.D] h':=by
 have f:cN [w.J.locals] x h':=λb o n m=>d.extBut b o (by simpa using n) m;show a.change a.cn.1 (by show eW g λo d d m d=>?_;show dm o m) a.new.1 f #[_,g] (λe d=>?_) (λe d=>nomatch d) (λe d=>?_) a.cM a.dr
 .show gi (a.cells e d) λg o m hd=>?_;show iy g o (f _ _ (by simpa using a.ft e d) m) hd
 .show am (a.D e d) λg r=>?_;show#[g,r.lw (l.fM f<|by simpa using a.cn.1) λo m=>f _ _ (by simpa using(a.cM e d).2.1) m]
end
section
variable {U:aV}
def aR.vA (g:aR U){Y:bc}{j:p6}{k:cV}{e:aM}{b:i}{an:a3}{pos:di}{h:bX}{l:bX}(m:Y.d=U)(f:cU Y e.heap)(n:nsIn (a U) hQ b=O c)(o:bootBuiltins b=O an)(p:b≠"__name__")(q:Y.J.kindOf b=O .globalImplicit)(r:Y.J.globals=hQ)(s:Y.J.builtins=x8)(hd:(b==("__debug__":i))=aj)(t:h an e):ar j k (eval (.Name b pos) Y.J) h l e:=by
 show hx g.kb λe h j u v d=>?_;subst m;show xx f.kind q (Iz (mg:=u) (mb:=v) (by mspec r;show d.g.keeps f.fq) (mg_none_of g.bC d.g n) (by mspec s;show d.b.keeps f.fq) ((d.builtins b p).trans o) t) hd
def aR.Mu (e:aR U){Y:bc}{j:p6}{k:cV}{d:aM}{b:i}{an:a3}{pos:di}{f:bX}{l:bX}(m:Y.d=U)(g:cU Y d.heap)(n:nsIn (a U) hQ b=O (O an))(o:Y.J.kindOf b=O .globalImplicit)(p:Y.J.globals=hQ)(hd:(b==("__debug__":i))=aj)(q:f an d):ar j k (eval (.Name b pos) Y.J) f l d:=by
 show hx e.kb λb d f r j h=>?_;subst m;show xx g.kind o (loadGlobal_global (mg:=r) (p▸h.g.keeps g.fq) (mg_of e.bC h.g n) q) hd
def Et (e:cU Y m.heap)(g:(n,o)∈Y.p)(hd:(n==("__debug__":i))=aj)(j:(n==("__classdict__":i))=aj)(f:∀a,a9 Y.d (l m.heap Y.X) a o->w a m):ar x B (eval (.Name n pos) Y.J) w M m:=by
 show aX (e.d8 _ g) λa b r=>?_;show xt ?_ hd;rcases b with⟨d,g,k,b⟩|⟨m,d|d,b,h⟩
 .show t4 e.kind d k b<|f a r
 .show BI e.kind d b h<|f a r
 .show BJ e.kind d b h (f a r) j
def Eu (a:cU Y m.heap)(d:(b,.val a8)∈Y.p)(hd:(b==("__debug__":i))=aj)(e:(b==("__classdict__":i))=aj)(f:n a8 m):ar o w (eval (.Name b pos) Y.J) n x m:=
 Et a d hd e λb r=>by
  obtain rfl:=r.is;show f
def Ev (e:∀a:B->aM->Prop,(∀b d,m b d->a b d)->ar n o r a w x):ar n o r m w x:=e m λa a b=>b
def Ew (e:∀a:a3->aM->Prop,(∀b d,m b d->a b d)->ar n o r w a x):ar n o r w m x:=e m λa a b=>b
def S.db (i:∀(d:cV)(a:aM)(e:bX),jd d m.n m.J n.cQ->u n m a.heap->ar m.d.M d (execs b m.J) (λf g=>∃h' h,g={a with heap:=h',toks:=h}/\o f h') e a):S n m b o:=
 .mk λd a e j k=>dq (i d a e j k) (λf g l=>gi l λh' h a r=>#[by mspec a;show .up,by mspec a;show r]) λa a d=>d
def Mv (S5:aR U)(n:Nat)(i:T)(X:aY)(h0:aW)(C:aY)(D:List b1)(d r:aD)(w:T)(TG:aD->a3->cv->Prop)(TH Tg:aD->j->Prop)(TW:mz U n h0 C w r TG TH)(TX:∃o TY,h0.get? w=O o/\o.data=.func TY)
 (TZ:∀f Th Ti,TG f Th Ti->∃Tc,sK Tc Th Ti/\Tg f (.str Tc)) (T0:∀f I,TH f I->Tg f (.list [I])) (Tn:eb d D) (TI:eu d) (T1:∀p∈X,p∈C\/h0.get? p=c):
 S #[h0,C,O D,aj] #[U,n,bU (bi 245<|a U) i 245,X,[("deed",.val (.ref w))],d++r] (cf 245<|a U) (er U #[h0,C,O D,aj] (d++r) λf I=>∃Td,f=d++Td/\Tg Td I):=.db λTo G T2 Tj S6=>by
 dsimp only;show(Ev λTJ TK=>?_:);have TL:=Tj.pa D V;show(mn (wpAny_Try_except ?_):);show mn<|xY ?_;have T3:E (l G.heap X) (l h0 C):=λp o q=>by
  have TG:=l.of _ _ q;show cb _ (S6.db _ _ TG) λg=>?_;show aw (T1 p g) (λx=>?_) λx=>?_
  .show b5 (cT _ x) q
  .show b5 x TG
 show t5<|kP (jb<|(R.name (af:=.val<| .ref w) (Jw) (k V)<|k V).go To G _ _ Tj.todz S6.tocU λN T4 T5 Tp T6=>?_) V;obtain rfl:=T6.is;have y:=S6.keep Tp;show gi TX λTY T1 TG TH=>?_;show callWith_meth0 TH (y.db _ _ TG) ?_;show oV y.ns λJ M Tk Tl S7 S8 J=>?_;have Tq:∀h∈d++r,h.1≠i:=λh g=>(y.cM h g).2.1;have T7:eb ((i,.frame M)::d) (bU (bi 245<|a U) i 245::D):=λenv Tr=>by
  rcases a4 Tr with rfl|Tr
  .show#[by mspec S6.kind;decide,i,M,Tk,Tl,V,ao,S8]
  .show am (Tn env Tr) λTG Q=>?_;show j5 Q λTr TH TX TY T1=>?_;show cd T1 λT6 T8 T9=>?_;show#[TG,Tr,TH,TX,TY,T6,A T8,T9]
 have Ua:eu ((i,.frame M)::d):=λh W=>by
  show aw (a4 W) (λTs=>?_) λW=>?_
  .obtain rfl:=Ts;show j6 M Tk Tl V S8
  .show TI h W
 show TW.go To {G with heap:=T4,toks:=T5} X _ ((i,.frame M)::d) _ _ Tj.todz TL T7 Ua y.base y.cw (S6.db.trans Tp) (T3.trans<|l.keep _ Tp) (λh g=>?_) (gq.mpr #[λh g q=>Tq h g q.symm,y.dr]) (λN Tt f I Tu Tv TM Ub=>?_) λB Tt f Th Ti Tu Tv b=>?_
 .show aw (a4 g) (λTs=>?_) λg=>?_
  .obtain rfl:=Ts;show#[y.cn.1,.frame (gE:=M.slots) S7]
  .show y.D h g
 .obtain⟨h',S9,rfl⟩:∃h' S9,Tt={G with heap:=h',toks:=S9}:=dM _ _ Tu.eq;show ly #[fT H,?_];have Ta:=u.uV (Y:=#[U,n,bU (bi 245<|a U) i 245,X,[("deed",.val (.ref w))],d++r]) (ah:=d++r) (keep:=[]) (bg:=d++f) y (by rw[fj]) S7 TM;rw[fj]at Ta;have Tp:∀p∈C++aH (d++f),p∈X++aH (d++f):=λp g=>by
   show aw (jy g) (λg=>?_) λg=>?_
   .show bI<|S6.sub p g
   .show bA g
  have Tr:∀p∈C++aH (d++f),p∈X++aH (((i,.frame M)::d)++f):=λp g=>by
   show aw (jy<|Tp p g) (λg=>?_) λg=>?_
   .show bI g
   .show bA<|A g
  have Ts:∀o:dF,er U #[h0,C,O D,aj] (d++r) (λf I=>∃Td,f=d++Td/\Tg Td I) (.ret<| .ref h'.objs.size) (h'.push {cls:=.type "list",data:=.seq [N].toArray 0}):=λJ=>by
   have S6:E (h'.push {cls:=.type "list",data:=.seq [N].toArray 0}) h':=E.push _ _;show#[_,.list [I],d++f,.inl V,(as f V<|T0 _ _ Tv),?_,.list #[0,cb _ (dL _ e) λg=>?_]<| .cons ((Ub.keep<|l.keep _ S6).keep<|l.sub Tr) .nil]
   .show(Ta.keep S6).pg (ah:=d++r) (bg:=d++f) (λh g=>(d1<|TM.all h<|A g).elim (λx=>absurd x<|Tq h g) id)<|eH _
   .show v (Ta.cw _<|Tp _ g) λo x=>?_;show b5 d3 x
  show TK _ _<|iy _ _ V<|Ts default
 obtain⟨h',S9,rfl⟩:∃h' S9,Tt={G with heap:=h',toks:=S9}:=dM _ _ Tu.eq;show v (TZ _ _ _ Tv) λTc Q=>?_;show am Q λTN Uc=>?_;obtain⟨I,Ud,Z,Ue,b⟩:=b;dsimp only at b;show wpAny_looks_onW TL (L:=i) V b.qW λTd I S6=>?_;show wpAny_landsW I λTO Tw Td=>?_;show aX Tw.there λI Uf Ug=>?_;have Tx:h'.UpToSlots TO:=S6.trans Td;have W:(d++r).Perm ((d++r)++[]):=by rw[fj]
 have S6:∀h∈d++f,h.1∈c8 D->∃o Te S4,h.2=.frame o/\o.data=.dict Te S4:=λh g x=>by
  show aw (jy g) (λg=>?_) λg=>?_
  .show TI h g
  .show aX (ck<|Tn.c8 _ x) λI Td q=>?_;show absurd q<|(ii.mp b.apart).2.2 I (A Td) h g
 have Uh:∀h∈d++r,h.1∈aH (d++f):=λh g=>(d1<|b.all h<|A g).elim (λx=>absurd x<|Tq h g) id;have TP:∀I,Ud.StaysIn I->h'.UpToSlots I->u #[h0,C,O D,aj] #[U,n,bU (bi 245<|a U) i 245,X++aH (d++f),[("deed",.val (.ref w))],d++f] I:=λI C Td=>by
  have:=u.L5 (Y:=#[U,n,bU (bi 245<|a U) i 245,X,[("deed",.val (.ref w))],d++r]) (ah:=d++r) (keep:=[]) (bg:=d++f) (ag:=D) y V S7 (dM Tk Tl S8) W S6 (λp g=>by show ik▸bI (Tn.c8 p g)) b C Td;rw[fj]at this;show this
 have TQ:=TP TO Tw.1 Tx;show wpAny_handleBy_cons (codeAny_handlers_test<|S5.vA (an:=.type "ValueError") (Y:=#[U,n,bU (bi 245<|a U) i 245,X++aH (d++f),[("deed",.val (.ref w))],d++f]) V TQ.tocU (by room) (k H) (k H) V rfl rfl (k H) ?_) (by intro q;cases q);show Mq S5 TN TQ.tocU.fq Uf Ug ?_;show codeAny_handlers_suite_as ?_;show lands_againW Tw λTy g TR=>?_;have Ta:=TP Ty g.1<|Tx.trans TR;show l5 g.first λTm Ui Tz Uj TA Uk=>?_;show u.gn (Y:=#[U,n,bU (bi 245<|a U) i 245,X++aH (d++f),[("deed",.val (.ref w))],d++f]) (aa:={G with heap:=Ty,toks:=S9}) (ae:="error") (an:=.ref B) (af:=.val<| .ref B) Ta (.inl V) (.val _) λTf y p C g TS TB=>?_;show Ew λy J=>?_;have Ul:i=p:=by
  show aw g (λx=>?_) λg=>?_
  .show x.symm
  .show v g λh Q=>?_;show am Q λW J=>?_;show nomatch W
 subst Ul;obtain⟨M,Tk,Tl,S7,S8⟩:∃o Te S4,Ty.get? i=O o/\o.data=.dict Te S4:=by
  show oV Ta.ns λJ o Te g h hd J=>?_;show j6 o Te g h hd
 have TC:Tf.get? B=O Tm:=TS.extBut _ _ (λq=>by rw[q,S7]at Tz;cases Tz;rw[S8]at TA;cases TA) Tz;have Um:Tf.TupAt Ue Ti:=by
  show f4 (b.bQ.of_slots<|Tx.trans TR) λo S4 TD Un TE=>?_;show f5 o S4 (TS.extBut _ _ (λq=>by rw[q,S7]at TD;cases TD;rw[S8]at TE;cases TE) TD) Un TE
 have Tb:=TB.tocU;have TT:∀(g:fg)(pos:di)(N:a3)(x:cV)(y:bX),(∃h,N=.str Tc h)->ar U.M x (do bindName (bU (bi 245<|a U) i 245) "error" .none;unbindBehindTheSuite (bU (bi 245<|a U) i 245) "error" pos) (λJ C=>TJ (.ret N) C) y {G with heap:=Tf,toks:=g}:=λg pos N x y C=>by
  show v TB.ns λx y=>?_;show wpAny_nameGoes (s:={G with heap:=Tf,toks:=g}) (m:=x) V y e λg M D I=>?_;show v C λh Q=>?_;show bw Q ?_;show TK _ _ #[g,_,V,_,.str Tc,d++f,.inl V,(as f V Uc),?_,.str _ _];show(u.Mt TB D I).pg (ah:=d++r) (bg:=d++f) Uh<|eH _
 show mn<|xY ?_;show Ew λg J=>Ev λg TU=>?_;show wpAny_IfExp (Iu<|jb<|S5.vA (Y:=#[U,n,bU (bi 245<|a U) i 245,X++aH (d++f),bj "error" (.val<| .ref B) [("deed",.val (.ref w))],d++f]) (an:=.builtin "isinstance") V Tb (by room) (k H) (k H) V rfl rfl (k H) ?_);show mh (first:=[]) (kP (Eu (Y:=#[U,n,bU (bi 245<|a U) i 245,X++aH (d++f),bj "error" (.val<| .ref B) [("deed",.val (.ref w))],d++f]) (a8:=.ref B) Tb yi (k H) (k H) ?_) V) V e;show kP (S5.Mu (Y:=#[U,n,bU (bi 245<|a U) i 245,X++aH (d++f),bj "error" (.val<| .ref B) [("deed",.val (.ref w))],d++f]) (an:=.ref 110) V Tb (by room) V rfl (k H) ?_) V;show ly ?_;have TV:(a U).In Tf:=λp o q=>Tb.fq _ _<|S5.bC p o q;have TF:Tm.cls=Th:=Uj;rcases TN with⟨rfl,h,rfl⟩|⟨rfl,rfl⟩
 .show Mo (au:=a U) (o:=Tm) TV TC TF (by room) (by room) (by room)<|ma ?_;mspec if_neg<|k V;show jb (S5.vA (Y:=#[U,n,bU (bi 245<|a U) i 245,X++aH (d++f),bj "error" (.val<| .ref B) [("deed",.val (.ref w))],d++f]) (an:=.type "str") V Tb (by room) (k H) (k H) V rfl rfl (k H) ?_);show II (kP (Eu (Y:=#[U,n,bU (bi 245<|a U) i 245,X++aH (d++f),bj "error" (.val<| .ref B) [("deed",.val (.ref w))],d++f]) (a8:=.ref B) Tb yi (k H) (k H) ?_) V) V e;show ly ?_;show P.str_of_exc_one F.excStr_ValueError (by show Tj.t3 2<|k H) (kM Tm Ui TC TF TA Uk) Um ?_;show TU _ _<|TT _ _ _ _ _ #[_,V]
 .show isi_call (K:=a U) (t:=.ref 110) TV (λd To TJ T2 G S4 q=>?_) (by room) (by intro q;cases q)<|ma ?_
  .show wpAny_typeOf_ref (S4 _ _ TC)<|TF▸q
  mspec if_pos<|k V;show oX<|TU _ _<|TT _ _ _ _ _ #[_,V]
end
section
variable {U:aV}
structure Mw (U:aV)(a7:iH)(body:List cl):Prop where
 fn:ez U 245 a7 ["deed"] body
 run:∀(n:Nat)(ca:T)(X:aY)(h0:aW)(fY:aY)(a:List b1)(cE ah:aD)(aQ:T)(pr:aD->a3->cv->Prop)(d b:aD->j->Prop),mz U n h0 fY aQ ah pr d->(∃o a7,h0.get? aQ=O o/\o.data=.func a7)->(∀bg fP a1,pr bg fP a1->∃aE,sK aE fP a1/\b bg (.str aE))->(∀bg af,d bg af->b bg (.list [af]))->eb cE a->eu cE->(∀ac∈X,ac∈fY\/h0.get? ac=c)->
  S #[h0,fY,O a,aj] #[U,n,bU a7 ca 245,X,[("deed",.val (.ref aQ))],cE++ah] body (er U #[h0,fY,O a,aj] (cE++ah) λbg af=>∃a,bg=cE++a/\b a af)
def Mx (b:aR U):∃d body,Mw U d body:=#[bi 245<|a U,cf 245<|a U,Mp b,Mv b]
end
def Ex:∀{a:cv},p8 a->lv m (a++[d4 n,d4 o,r])=(lv m a).or (if(n==m.line&&o==m.col)=z then O r else c):=by
 intro a d
 fun_induction p8 a with
 |case1=>
  simp only[nv,lv,d4,Ey]
 |case2 f g b h i j e=>
  simp only[qR,lv];split
  .rfl
  .show e d
 |case3 a e f=>show d.elim
def Ez:∀{a:cv},p8 a->p8 (a++[d4 m,d4 n,o]):=by
 intro a d
 fun_induction p8 a with
 |case1=>show trivial|case2 f g b h i j e=>show e d|case3 a e f=>show d.elim
section
variable {U:aV}
def bG.zo (r:bG U b m n (.tab o)):bG.Is U b m n (.tab o):=r.is
def aR.zp (S6:aR U)(S7:Y.d=U)(h:u I Y aa.heap)(S8:Y.D=S9++(m,.tab x)::Ta)
 (Tb:(pos,Y.J.qual++"<lambda>")∈x) (Tc:∀a∈x,(pos.line==a.1.line&&pos.col==a.1.col)=z->a.2=Y.J.qual++"<lambda>") (K:Y.J.code=.ref M) (Td:dg U.B M m) (Te:zq r Y.J=([],[])) (L:iT w Y.J=pure B) (N:Y.J.globals=hQ)
 (P:∀D i Tf d h' t,u I Y h'->(∀b o,b≠m->aa.heap.get? b=O o->h'.get? b=O o)->aa.heap.get? D=c->h'.get? D=O {cls:=.type "function",data:=.func<|ot "<lambda>" (Y.J.qual++"<lambda>") r body w B Tf i d}->(l h' Y.X).CodeRec i (Y.J.qual++"<lambda>")->Tg (.ref D) {aa with heap:=h',toks:=t}):
 ar TE TF (eval (.Lambda r body w pos) Y.J) Tg TG aa:=by
 obtain⟨Th,Ti,env,X,Γ,own⟩:=Y;dsimp only at*;subst S7;subst S8;show hx S6.kb λD S7 S8 g Tf F=>?_;show am (h.D _ (show(m,j.tab x)∈(S9++(m,j.tab x)::Ta:aD)from by simp)) λTj D=>?_;show g3 D.zo λTk y A Q=>?_;have G:aa.heap.Ns hQ g:=F.g.keeps h.fq;have R:dg aa.heap M m:=Td.keeps h.fq;have Tl:hQ≠m:=λa=>by
  show l4 G λo Tm Tn I hd S=>?_;replace I:=a▸I;replace I:=y▸I;cases I;cases hd
 show tW F.bmain λH To Tp Tq q T Tr C=>?_;have s:=h.fq _ _ q;have Ts:H≠m:=λa=>by
  replace s:=a▸s;replace s:=y▸s;cases s;cases T
 have Tt:H≠hQ:=λa=>by
  show l4 F.g λo Tm Tn I hd S=>?_;replace q:=a▸q;replace q:=I▸q;cases q;replace C:=hd▸C;cases C
 have W:aa.heap.BuiltinsAt g m:=#[H,To,Tp,Tq,Tt,Ts,s,T,Tr,C];show kla_eval Te ?_;show aw (Q _ Tb) (λq=>?_) λTu=>?_
 .show kla_makeFunction (mg:=g) L N G K R y A q Tl W λf d h' t s Z Tv C Tw=>?_;have J:cN [m] aa.heap (h'.push<|kla_obj "<lambda>" (env.qual++"<lambda>") r body w B ((g "__name__").getD .none) f d):=λb o n a=>gk _ (s b o (by simpa using n) a);have S4:(l (h'.push<|kla_obj "<lambda>" (env.qual++"<lambda>") r body w B ((g "__name__").getD .none) f d) X).CodeRec (.ref f) (env.qual++"<lambda>"):=by
   show xm C λm Tx Ty Tz TA TB hd TC=>?_;cases TA;show xn f Tx Ty Tz V (cb _ (gk _ TB) λm=>?_) hd TC;show v (h.cw _ m) λo k=>?_;replace k:=(qk Z)▸k;cases k
  have m:=u.qo (Y:=#[Th,Ti,env,X,Γ,[]]) (ex:=.tab x) h J (.tab (fp:=Tk++(aRR [d4 pos.line,d4 pos.col,.ref f])) (gk _ Tw) (by mspec My;show Ez A) λa S5=>?_)
  .show P h'.objs.size (.ref f) _ d _ t m (λb o n a=>J b o (by simpa using n) a) ?_ (dL _ e) S4;show qk<|iD<|tJ Z Tv
  .mspec My;mspec show((aRR [d4 pos.line,d4 pos.col,na f]):Array a3).toList=[d4 pos.line,d4 pos.col,.ref f]from rfl;mspec Ex A
   rcases Q _ S5 with k|⟨i,k,TD⟩
   .mspec k;mspec Ey;by_cases p:((pos.line:Int)==a.1.line&&(pos.col:Int)==a.1.col)=z
    .mspec if_pos p;show .inr<|as _ V ?_;mspec Tc a S5 (by simp at p ⊢;show#[cZ ((ay<|jm p.1))<|(ay (jm p.1).symm),cZ ((ay<|jm p.2))<|(ay (jm p.2).symm)]);show S4
    .mspec if_neg p;show .inl V
   .mspec k;mspec Mz;show .inr (as i V<|TD.keeps (show E (l (h'.push<|kla_obj "<lambda>" (env.qual++"<lambda>") r body w B ((g "__name__").getD .none) f d) X) (l aa.heap X)from l.fM J<|by simpa using Tj))
 .show v Tu λi f=>?_;show am f λk m=>?_;show kla_makeFunctionHit (mg:=g) L N G K R y A k W λd h' t p q=>?_;have f:E (h'.push {cls:=.type "function",data:=.func<|ot "<lambda>" (env.qual++"<lambda>") r body w B ((g "__name__").getD .none) i d}) aa.heap:=λb o a=>gk _<|p b o a;show P h'.objs.size i _ d _ t (h.keep f) (λb o S a=>f b o a) (qk q) (dL _ e)<|m.keeps<|l.keep _ f
end
section
variable {U:aV}
def zr (a:jM)(nw:List (i×T))(env:b1)(Γ lQ:be):Prop:=∀ai∈lQ,ai∈Γ/\a.names.lookup ai.1=O .free/\env.kindOf ai.1=O .cell/\∃q,nw.lookup ai.1=O q/\env.cells.lookup ai.1=O q
def EA (e:u M m n)(t:zr a7.scope a7.closure m.J m.p w)(p:∀a∈ag,a=m.J.locals\/∃f∈m.D,f.1=a):hY m.d a7 (cq n ag) (l (cq n ag) m.X) w:=λf n=>by
 show iQ (t f n) λw x y h=>?_;show v h λi n=>?_;show am n λA q=>?_;show aX (e.d8 f w) λB C D=>?_;have r:(f.1,i)∈m.J.cells:=mem_of_lookup q;have E:∀a∈ag,a∈m.X:=λa d=>by
  show aw (p a d) (λj=>?_) λg=>?_
  .obtain rfl:=j;show e.cn.1
  .obtain⟨b,k,rfl⟩:=g;show(e.D b k).1
 show aw C (λj=>?_) λg=>?_
 .obtain⟨a,_⟩:=j;rw[y]at a;cases a
 .obtain⟨f,a,s,o,F,hd⟩:=g;rw[q]at s;obtain rfl:=fU s;show kM i B x A (as o (cb _ F λd=>?_) hd)<|D.keep λa o b=>?_
  .show aw (p i d) (λf=>?_) λg=>?_
   .show e.ft _ r f
   .show v g λb h=>?_;show am h λk f=>?_;show(e.cM b k).2.2 _ r f
  .show cb _ (cb _ (l.of _ _ b) λd=>?_) λd=>?_
   .rw[cT _<|E a d]at b;cases b
   .rw[cT _ d]at b;cases b
def MA (S9:aR U){b:bc}{x:aO}{M:cV}{aa:aM}{N:bX}{Ta:bX}{n:Nat}{r:List b1}{d g keep:aD}{i:T}{E:aD->a3->cv->Prop}{F y:aD->j->Prop}(P:b.d=U)(Q:b.n=n+1)(Tb:x.cQ=O r)(R:jd M b.n b.J x.cQ)(S:b.J.frame=O b.J.locals)(f:u x b aa.heap)(G:b.D.Perm ((d++g)++keep))(Tc:eb d r)(Td:eu d)
 (Te:∃o s,aa.heap.get? i=O o/\o.data=.func s) (Tf:i∉b.X) (Tg:mz U n (cq aa.heap<|b.J.locals::aH (d++g)) b.X i g E F) (Th:∀t W Z,E t W Z->∃a,sK a W Z/\y t (.str a)) (Ti:∀t k,F t k->y t (.list [k]))
 (m:∀B h' H p k,y p k->u x #[b.d,b.n,b.J,b.X++aH (d++p),b.p,(d++p)++keep] h'->a9 b.d (l h'<|b.X++aH (d++p)) B k->N B {aa with heap:=h',toks:=H}):ar U.M M (dU (.ref 245) [.ref i]) N Ta aa:=by
 obtain⟨Tj,x,env,X,Γ,own⟩:=b;dsimp only at P Q S;subst P;subst Q;have I:∀e∈d++g,e∈own:=λe b=>G.mem_iff.mpr<|bI b;show oV f.ns λb q S4 S5 S6 hd S7=>?_;show cm (Mx S9) λs body S8=>?_;have b:=S8.fn;show hS ((b.def).Ct (n:=n) (X:=X) (ds:=[.val<| .ref i]) R.todz f.base f.cw (b.qp (.cons (.val _) .nil) V) V (h0:=cq aa.heap<|env.locals::aH (d++g)) (λC o m=>fe _ m) (own:=(env.locals,.frame q)::(d++g)) (λe a=>?_) (λe a=>cT _ ?_) (gq.mpr #[λe a m=>(f.cM e<|I e a).2.1 m.symm,(ii.mp<|(G.pairwise f.dr<|λJ m=>J m.symm)).1]) (fr:=O<|env::r) (gen:=aj) (λb J=>by cases J;show R.pa r Tb) λTk Tl Tm H Tn To b Tp=>?_)
 .show aw (a4 a) (λh=>?_) λa=>?_
  .obtain rfl:=h;show#[f.cn.1,.frame (gE:=q.slots) S6]
  .show f.D e<|I e a
 .show aw (a4 a) (λh=>?_) λa=>?_
  .obtain rfl:=h;show ao
  .show A<|c7 a
 have Tq:∃o s,(cq aa.heap<|env.locals::aH (d++g)).get? i=O o/\o.data=.func s:=by
  show gi Te λo s b x=>?_;show iy o s (cb _ b λa=>Tf ?_) x;show aw (a4 a) (λh=>?_) λa=>?_
  .obtain rfl:=h;show f.cn.1
  .obtain⟨e,v,rfl⟩:=ck a;show(f.D e<|I e v).1
 have Tr:eb ((env.locals,.frame q)::d) (env::r):=λTs K=>by
  show aw (a4 K) (λh=>?_) λK=>?_
  .obtain rfl:=h;show#[by have:=f.kind;dsimp only at this;mspec this;decide,_,q,S4,S5,S,ao,hd]
  .show am (Tc Ts K) λb s=>?_;show j5 s λx I J K M=>?_;show cd M λs N P=>?_;show#[b,x,I,J,K,s,A N,P]
 have Tt:eu ((env.locals,.frame q)::d):=λe v=>by
  show aw (a4 v) (λh=>?_) λv=>?_
  .obtain rfl:=h;show j6 q S4 S5 V hd
  .show Td e v
 show dq ((S8.run n Tk Tl _ X (env::r) ((env.locals,.frame q)::d) g i E F y Tg Tq Th Ti Tr Tt λC b=>?_).go _ {aa with heap:=Tm,toks:=H} _ Tn To) (λe Tu w=>?_) λS7 S7 e=>e
 .rcases Tp C b with D|D
  .show .inl D
  .show .inr ?_;cases z2:(cq aa.heap<|env.locals::aH (d++g)).get? C with
   |none=>rfl|some o=>rw[fe _ z2]at D;cases D
 obtain⟨Tv,w⟩:=w;obtain⟨h',L,rfl⟩:∃h' L,Tu={aa with heap:=h',toks:=L}:=dM _ _ Tv.eq;obtain⟨B,k,t,w,⟨p,rfl,Tw⟩,Tx,Ty⟩:=w;have Tz:=m B h' L p k Tw (u.uV (Y:=#[Tj,n+1,env,X,Γ,own]) f G S6 (bg:=d++p) Tx) (Ty.keep (l.sub λC a=>by
  rcases jy a with a|a
  .show bI a
  .show bA<|A a))
 rcases w with rfl|⟨rfl,rfl⟩<;>show Tz
end
section
variable {U:aV}
def aS.vB (C:aR U){b:bc}{S8:aO}{cE ah keep:aD}(Z:aD->j->Prop)(N:b.d=U)(Ti:b.n=n+1)(Tj:S8.cQ=O ag)(Tk:b.J.frame=O b.J.locals)(P:b.D.Perm ((cE++ah)++keep))(Tl:eb cE ag)(Tm:eu cE)(Tn:b.D=bD++(aB,.tab dj)::b3)
 (To:(w,b.J.qual++"<lambda>")∈dj) (Tp:∀D∈dj,(w.line==D.1.line&&w.col==D.1.col)=z->D.2=b.J.qual++"<lambda>") (Tq:b.J.code=.ref q) (Tr:dg U.B q aB) (Ts:zq r b.J=([],[])) (Tt:iT m b.J=pure nw) (S9:b.J.globals=hQ)
 (Tu:b.J.kindOf "_law_words"=O .globalImplicit) (Tv:zr m nw b.J b.p lQ) (Tw:∀t h u,hD (ot "<lambda>" (b.J.qual++"<lambda>") r body m nw t h u) #[[],[]]=pure []) (Tx:∀S∈m.names,S.2≠ .cell) (Ty:m.isCoroutine=aj) (Tz:m.isGenerator=aj) (TA:m.kind=.function)
 (TB:∀h0 i T,T.scope=m->T.closure=nw->iL h0 i T body->hY U T h0 (l h0 b.X) lQ->mz U n h0 b.X i ah pr TC) (TD:∀k Ta W,pr k Ta W->∃Tb,sK Tb Ta W/\Z k (.str Tb)) (TE:∀k F,TC k F->Z k (.list [F]))
 (TF:eval (.Call (.Name "_law_words" S4) [.Lambda r body m w] [] pos) b.J=(do dO pos (<-eval (.Name "_law_words" S4) b.J) [] (cX pos<|bf [.Lambda r body m w] b.J) (jH pos<|jI [] b.J))) (S5:bf [.Lambda r body m w] b.J=(aj,eval (.Lambda r body m w) b.J)::bf [] b.J):
 aS b S8 (.Call (.Name "_law_words" S4) [.Lambda r body m w] [] pos) (λTQ k F=>∃X,k=(cE++X)++keep/\Z X F):=.mk λG H Tc I Td Te D=>by
 show hx C.kb λg k T Z S8 Ta=>?_;show aX (show ∃o,(a U).lookup 245=O o/\o.data=.func (bi 245<|a U)from(as _ V rfl)) λo TG hd=>?_;show jb ((show R b (.Name "_law_words" S4) (.val<| .ref 245)from C.eU N (by room) Tu S9<|by decide).go G H _ I Td.todz Te.tocU λTf Y S6 TH TI=>?_) TF;obtain rfl:=TI.is;have Tg:=Te.keep TH;have T:=uc (M:=b.d.M) (A:=G) (E:=I) (f:=.ref 245) (x:=eval (.Lambda r body m w) b.J) (rest:=cX pos<|bf [] b.J)
  (Q:=λS k=>(k.heap.get? 245=O o/\o.data=.func (bi 245<|a U))/\ar b.d.M G (dU (.ref 245) ([]++S.pos) S.kw) Tc I k) (s:={H with heap:=Y,toks:=S6})
 mspec S5;show xE<|T ?_;have:=kP (M:=b.d.M) (A:=G) (E:=I) (s:={H with heap:=Y,toks:=S6}) (env:=b.J) (pos:=pos) (e:=.Lambda r body m w) (rest:=[]) (Q:=λW k=>(k.heap.get? 245=O o/\o.data=.func (bi 245<|a U))/\ar b.d.M G (dU (.ref 245) ([]++W) []) Tc I k)
  (C.zp N (aa:={H with heap:=Y,toks:=S6}) Tg Tn To Tp Tq Tr Ts Tt S9 λi h t u h' TJ p k TK Th TL=>ly ?_) S5
 .rw[S5]at this;show this
 have S7:i∉b.X:=λd=>by
  show v (Tg.cw _ d) λo y=>?_;rw[(show Y.get? i=c from TK)]at y;cases y
 show#[#[p.fq _ _ (by mspec N;show C.bC _ _ TG),hd],?_];subst N;have TM:(cq h'<|b.J.locals::aH (cE++ah)).get? i=O {cls:=.type "function",data:=.func<|ot "<lambda>" (b.J.qual++"<lambda>") r body m nw t h u}:=cb _ Th λd=>by
  show aw (a4 d) (λJ=>?_) λd=>?_
  .obtain rfl:=J;show S7 p.cn.1
  .obtain⟨g,K,rfl⟩:=ck d;show S7 (p.D g<|P.mem_iff.mpr<|bI K).1
 have TN:∀B∈b.J.locals::aH (cE++ah),B=b.J.locals\/∃g∈b.D,g.1=B:=λB L=>by
  show aw (a4 L) (λJ=>?_) λL=>?_
  .obtain rfl:=J;show .inl V
  .obtain⟨g,K,rfl⟩:=ck L;show .inr<|as g (P.mem_iff.mpr<|bI K) V
 have TO:(cq h'<|b.J.locals::aH (cE++ah)).CodeRec h (b.J.qual++"<lambda>"):=TL.keeps λB o y=>cb _ (l.of _ _ y) λd=>by
  have TP:B∈b.X:=by
   show aw (a4 d) (λJ=>?_) λd=>?_
   .obtain rfl:=J;show p.cn.1
   .obtain⟨g,K,rfl⟩:=ck d;show(p.D g<|P.mem_iff.mpr<|bI K).1
  rw[cT _ TP]at y;cases y
 show MA C (aa:={H with heap:=h',toks:=TJ}) V Ti Tj Td Tk p P Tl Tm (iy _ _ Th V) S7 (TB _ i (ot "<lambda>" (b.J.qual++"<lambda>") r body m nw t h u) V rfl #[(as _ TM V),TO,V,Tw t h u,Tx,Ty,Tz,TA] (EA p (a7:=ot "<lambda>" (b.J.qual++"<lambda>") r body m nw t h u) Tv TN)) TD TE
  λTf h i X F b d g=>D Tf _ .up #[_,_,_,(as X V b),λB L=>bI L,d,g]
end
structure i2 (Y:bc)(I:aO)(d:c4)(co:aY->aD->Bool->Prop):Prop where
 go:∀(aJ:cV)(aa:aM)(bM:Bool->aM->Prop)(bv:bX),jd aJ Y.n Y.J I.cQ->u I Y aa.heap->
  (∀b bR a bg,cs aa bR I.bY->co a bg b->(∀ac∈Y.X,ac∈a)->u I #[Y.d,Y.n,Y.J,a,Y.p,bg] bR.heap->bM b bR)->ar Y.d.M aJ (nW d Y.J<|eval d Y.J) bM bv aa
section
variable {Y:bc}{I:aO}
def i2.bK {i:lG}(o:aS Y I w i)(p:∀a d e,i a d e->(∀ac∈Y.X,ac∈a)->∃b q,R #[Y.d,Y.n,Y.J,a,Y.p,d] r b/\av #[Y.d,Y.n,Y.J,a,Y.p,d] m e b q/\co a d q)(s:rK m r=aj):i2 Y I (.Compare w [m] [r] pos) co:=.mk λf i w g h m t=>by
 show xv (o.go f i _ g h m λu j v x=>?_) s;obtain⟨a,d,e,y,k,n,A⟩:=x;show f4 (p a d e y k) λb q i m o=>?_;show i.go f j _ g h.todz n.tocU λp s w e x=>?_;have i:=n.keep e;show m.go f {j with heap:=s,toks:=w} _ g u p h.todz i.tocU (A.keep<|l.keep _ e) x λh' j f=>ma<|t q _ a d v.gH o k<|i.keep f
def S.sL (g:i2 Y I o r)(i:∀a d e,r a d e->(∀f∈Y.X,f∈a)->e=aj/\S I #[Y.d,Y.n,Y.J,a,Y.p,d] m n):S I Y (.If o b [] pos::m) n:=
 S.cons (au:=λh=>∃a d,u I #[Y.d,Y.n,Y.J,a,Y.p,d] h/\S I #[Y.d,Y.n,Y.J,a,Y.p,d] m n) (.mk λj k l o f=>
  rY (g.go j k _ l o f λe r a d m n p q=>by
   show ci (i a d e n p) λg=>?_;mspec if_neg (by decide);show rX #[m,a,d,q,g])) λh e=>gi e λa d f g=>eO #[Y.d,Y.n,Y.J,a,Y.p,d] I V rfl rfl rfl rfl f g
end
def MB {b:bc}:∀a∈([]:be),a∈b.p/\hA b.J m n a.1/\a.1≠o:=λa b=>nomatch b
def EB {a:bc}(e:(m,x)∈a.p)(f:a.J.cells.lookup m=o.lookup m)(g:a.J.kindOf m=O .cell\/a.J.kindOf m=O .free)(h:(mZ n a.J).names.lookup m=O .cell\/(mZ n a.J).names.lookup m=O .free)(i:m≠w)
 (r:∀b∈B,b∈a.p/\hA a.J n o b.1/\b.1≠w):∀b∈(m,x)::B,b∈a.p/\hA a.J n o b.1/\b.1≠w:=λb d=>by
 show aw (a4 d) (λj=>?_) λd=>?_
 .obtain rfl:=j;show cG e (cG f g h) i
 .show r b d
noncomputable def de (a8:b4)(ae:Int):h:=(a8.lookup ae).getD []
noncomputable def dh (a8:b4):h:=a8.map (·.1)
noncomputable def hj (a8:b4)(left:h):h:=left.filter λan=>decide ((left.filter λae=>(de a8 ae).any (·==an))≠[])
noncomputable def en (a8:b4):Nat->h
 |0=>dh a8|n+1=>hj a8<|en a8 n
noncomputable def cI (a8:b4):h:=en a8 a8.length
noncomputable def hH (a8:b4)(left:h)(bp:Int):h:=(el 3 8).filter λae=>left.any (·==ae)&&(de a8 ae).any (·==bp)
noncomputable def k7 (a8:b4)(left:h):Nat->h->Option h
 |0,_=>c|n+1,fv=>match fv.getLast? with
  |none=>c|some bp=>match(hH a8 left bp).head? with
   |none=>c|some an=>if an∈fv then O (fv.drop (fv.idxOf an)++[an])else k7 a8 left n (fv++[an])
def sM {d:b4}{left a:h}{n:Nat}:k7 d left (n+1) a=(match a.getLast? with|none=>c|some m=>match(hH d left m).head? with|none=>c|some b=>if b∈a then O (a.drop (a.idxOf b)++[b])else k7 d left n (a++[b])):=rfl
noncomputable def hI (a8:b4):Option h:=k7 a8 (cI a8) ((cI a8).length+1)<|(cI a8).take 1
noncomputable def a2 (ae:Int):i:=((hU[ae.toNat]?).map (·.1)).getD ""
noncomputable def ku:Option h->j
 |none=>.none|some ag=>.list<|ag.map λae=>.str<|a2 ae
structure iM (a8:b4):Prop where
 jq:∀ae∈dh a8,0<=ae/\ae<8
 bz:(dh a8).Nodup
 vC:∀a∈a8,a.2.length<=10/\(a.2≠[]->3<=a.1)/\∀bu∈a.2,bu∈dh a8
theorem zs (b:b4):∀n a,a∈en b n->a∈dh b
 |0,_,d=>d|n+1,a,d=>zs b n a (e7.mp d).1
def EC (a:b4)(n:Nat):(en a n).length<=a.length:=by
 induction n with
 |zero=>show ay (a6 ..)|succ n b=>show a5 (qj _ _) b
def q4 (b:b4)(d:Int)(a:d∈dh b):(cR bn b).lookup d=O (bn<|de b d):=by
 rw[Df];unfold de;have:∃f,b.lookup d=O f:=by
  unfold dh at a
  induction b with
  |nil=>cases a
  |cons g b h=>
   mspec fB;by_cases e:d=g.1
   .subst e;simp
   .mspec(beq_eq_false_iff_ne.mpr e:(d==g.1)=aj);rcases d1 a with a|a
    .show absurd a e
    .show h a
 show v this λf a=>?_;mspec a;rfl
theorem lR:∀(e a:h),a.Nodup->(∀f∈a,f∈e)->a.length<=e.length
 |[],a,_,i=>by
  cases a with
  |nil=>simp|cons g a=>cases i g ao
 |g::e,a,k,i=>by
  by_cases l:g∈a
  .have j:=lR e (a.erase g) (k.erase g) λf d=>by
    rw[k.mem_erase_iff]at d;show aw (d1<|i f d.2) (λb=>?_) λb=>?_
    .show absurd b d.1
    .show b
   rw[MC l]at j;mspec eA;show bb [.C t N,.C G<| .Q t] 0 G (.Q N) H j<|eY<|cg<|a.length - 1
  .have j:=lR e a k λf d=>by
    show aw (d1<|i f d) (λb=>?_) λb=>?_
    .show absurd (b▸d) l
    .show b
   mspec eA;show b9 [.C G N] 0 G (.Q N) H j
def iM.len (d:iM m):m.length<=8:=by
 have e:(dh m).length<=(el 0 8).length:=lR _ _ d.bz λa g=>by
  show am (d.jq a g) λh b=>?_;simp only[el,iw,iW];show as a.toNat (by omega)<|gr (bh [↑a.toNat,a] [.C f aA] 0 (.y (.n 0) f) aA H (c2 (gx<|bh [a] [.C (.n 0) f] 0 (.n 0) f H h):))<|bh [a,↑a.toNat] [.C f aA] 0 f (.y (.n 0) aA) H (kl a:)
 simpa[dh,el]using e
theorem ED (a:b4):∀n,hj a (en a n)=en a n\/(en a n).length+n<=a.length
 |0=>.inr<|ay (a6 ..)
 |n+1=>by
  rcases ED a n with b|b
  .left;show(?_:hj a (hj a<|en a n)=hj a (en a n));mspec b;show b
  .by_cases d:hj a (en a n)=en a n
   .left;show(?_:hj a (hj a<|en a n)=hj a (en a n));mspec d;show d
   .right;show(MD<|λf=>d<|List.Sublist.eq_of_length lS f).elim (λe=>c5 [.C (.y aU N) t,.aK G aU] 0 (.y G<| .Q N) t H b e) λe=>c5 [.C (.y aU N) t,#[2,G,aU],.aK aU G] 0 (.y G<| .Q N) t H b (qj _ _:(hj a<|en a n).length<=(en a n).length) e
def ME (a:b4):hj a (cI a)=cI a:=by
 show aw (ED a a.length) (λb=>?_) λb=>?_
 .show b
 .mspec(n9.mp (by unfold cI;show cZ (b9 [.C (.y G N) N] 0 G (.n 0) H b)<|ew _):cI a=[]);rfl
def MF (a:n∈de b m):∃d,(m,d)∈b/\n∈d:=by
 unfold de at a;cases hl:b.lookup m with
 |none=>rw[hl]at a;cases a
 |some d=>
  rw[hl]at a;show as d ?_ a
  induction b with
  |nil=>cases hl
  |cons e b g=>
   rw[fB]at hl;by_cases f:m=e.1
   .subst f;simp at hl;subst hl;show ao
   .rw[(beq_eq_false_iff_ne.mpr f:(m==e.1)=aj)]at hl;show A<|g hl
def pt {a:h}:a.any (·==b)=z↔b∈a:=by simp
def MG {a:b4}(e:iM a)(j:m∈cI a):∃d,(hH a (cI a) m).head?=O d/\d∈cI a:=by
 have l:m∈hj a (cI a):=by rw[ME];show j
 show v (vD _<|k (e7.mp l).2) λb j=>?_;show am (e7.mp j) λo g=>?_;show aX (MF<|pt.mp g) λj h p=>?_;have j:=(e.jq b<|dI h).2;have i:b∈hH a (cI a) m:=e7.mpr #[by
  simp only[el,iw,iW];show as ((b - 3).toNat) (by lia) (by show gr (bh [↑(b - 3).toNat,b] [.C f<| .c6 aA<| .n 3] 0 (.y (.n 3) f) aA H (c2 (gx<|bh [b] [.C (.n 3) f] 0 (.n 0) (.c6 f<| .n 3) H<|(e.vC _ h).2.1<|MH p):))<|bh [b,↑(b - 3).toNat] [.C (.c6 f<| .n 3) aA] 0 f (.y (.n 3) aA) H (kl (b - 3):)),by mspec pt.mpr o;mspec g;rfl]
 cases hn:hH a (cI a) m with
 |nil=>rw[hn]at i;cases i
 |cons d r=>
  show as d V ?_;have:d∈hH a (cI a) m:=by mspec hn;show ao
  have:=(e7.mp this).2;rw[i7]at this;show pt.mp this.1
def MI (a:b.getLast?=O n)(d:(hH a8 left n).head?=O m):k7 a8 left (s+1) b=if m∈b then O (b.drop (b.idxOf m)++[m])else k7 a8 left s (b++[m]):=by
 rw[sM];mspec a;simp only[d]
section
variable {U:aV}
def zt (f:aR U):ez U 223 (bi 223<|a U) ["uses","items"] (cf 223<|a U):=
 f.fn V rfl H V rfl (qu λh b=>by room)
  (λf d=>by
   rcases a4 d with rfl|d
   .show .inr #[V,λg=>H]
   .rcases a4 d with rfl|d
    .show .inr #[V,λg=>H]
    .cases d) (k H) (by decide:(["way","left","items","uses"]:ak).Nodup) e e V
noncomputable abbrev EE (a8:b4)(left:h)(ac:T):be:=[("uses",.dict (cR bn a8)),("items",fi),("left",.list (left.map .int)),("way",.val (.ref ac))]
inductive sN (a8:b4)(left:h)(ac:T)(s:Nat)(Γ:be)(own:aD):Prop
 |mk (fv:h) (a:aL Γ (EE a8 left ac)) (b:own=[(ac,.list (fv.map .int))]) (d:fv=[]->hI a8=c) (e:fv≠[]->fv.Nodup/\(∀ae∈fv,ae∈left)/\s=left.length+2 - fv.length/\k7 a8 left s fv=hI a8):sN a8 left ac s Γ own
@[elab_as_elim] def sN.MJ {P:aD->Prop}(j:sN m left n o Γ own)(q:∀(b:h)(a:aL Γ (EE m left n))(d:b=[]->hI m=c)(e:b≠[]->b.Nodup/\(∀r∈b,r∈left)/\o=left.length+2 - b.length/\k7 m left o b=hI m),P ([(n,.list (b.map .int))])):P own:=by
 cases j with
 |mk b a f d e=>show f▸q b a d e
noncomputable abbrev EF:=λ(a8:b4)=>([("uses",.dict (cR bn a8)),("items",fi)]:be)
noncomputable abbrev pu:=λ(U:aV) (ca:T)=>(bU (bi 223<|a U) ca 223:b1)
def MK (Tw:aR U)(n:Nat)(K:T)(X:aY)(M:aO)(h:b4)(Ta:iM h):
 S M #[U,n+1,pu U K,X,EF h,[]] (cf 223<|a U) (kW U M<|ku<|hI h):=by
 have Tj:=Ta.len;mexact S.bq (g.assign (af:=.list<|(dh h).map .int) (R.of_eq (R.iE (ds:=dh h) (dD:=j.int) (cO:=λd=>[("x",.int d)]) [] (λi=>z) (λd=>.int d) V (k H) V (k H) (r:=.dict<|cR bn h) (R.K 0 V) ?_ ?_ (λS5 i=>.name _ _ _) (hh V) f8 (λi i i i=>rfl) (λS6 Z d w i=>by show R.K 0 V) (λi=>rfl)<|λi i i i=>e)<|by rw[jg]) (.inr #[V,H]) V) ?_
 .have:cA #[U,n+1,pu U K,X,EF h,[]] (.Name "x" default) (.dict<|cR bn h) ((cR bn h).map λD=>.int D.1):=cA.dict aq.dict;mspec(by simp[dh,cR]:(dh h).map j.int=(cR bn h).map λD=>.int D.1);show cA.dict aq.dict
 .simp only[dh,a6];unfold aC;show b0
 mexact S.bq (g.pk (λP=>[("uses",.dict (cR bn h)),("items",fi),("left",.list ((en h P).map .int))]) (λi=>[]) (r:=.dict<|cR bn h) (ds:=(cR bn h).map λD=>.int D.1) (R.K 1 V) (λo x=>by cases x)
  (cA.dict aq.dict) (aL.cH [1,2,0] rfl) V (λS5 i=>.name<| .inl V) ?_ (λi=>rfl)) ?_
 .intro P S5 Tx TG hd Tp TH;rw[e6,f2]at hd;show bB λJ A=>?_;show v hd λTx Tk=>?_;show kJ Tk λTx=>?_;show A ?_;clear A J;have Tb:=zs h P;have Tc:=EC h P;show(?_:S _ _ _ (r0 (u _ #[_,_,_,_,[("uses",.dict (cR bn h)),("items",fi),("left",.list ((hj h<|en h P).map .int))],_]) _ _));generalize en h P=left at*;mexact S.bq (g.assign (af:=.list<|(hj h left).map .int) ?_ (.inr #[V,H]) V)<|S.qB (aL.cH [2,3,0] rfl) V;show R.JF (ds:=left) (dD:=j.int) [("left",.list (left.map .int)),("uses",.dict (cR bn h))] (λo=>decide ((left.filter λd=>(de h d).any (·==o))≠[])) (λd=>.int d) V (λi=>rfl) (λi=>rfl) V rfl (k H) (r:=.list<|left.map .int) (R.K 3 V) (cA.list (.inl<|dM _ _ V) aq.list) ?_ ?_ ?_ (λS6 P Z o Td i=>by show R.K 0 V) (λi=>rfl) (λi i i i=>e)
  .unfold aC;show dG (a5 Tc Tj) H
  .show EB (bl 3 V) V (.inl V) (.inl V) (k H)<|EB (bl 1 V) V (.inl V) (.inl V) (k H) MB
  .intro S6 P Z o Td;show aZ.bK (R.of_eq (ex:=.list ((left.filter λd=>(de h d).any (·==o)).map .int)) (R.iE (ds:=left) (dD:=j.int) (cO:=λd=>[("x",.int d)]) [("u",.int o),("uses",.dict (cR bn h))] (λd=>(de h d).any (·==o)) (λd=>.int d) V (k H) V (k H) (r:=.list<|left.map .int) (R.K 1 V) (cA.list (.inl<|dM _ _ V) aq.list) ?_ (λS5 i=>.name _ _ _) (hh V) ?_ (λP Tx d w=>?_) (λP Tx d w i=>by show R.K 0 V) (λi=>rfl)<|λi i i i=>e) V) (R.list W.nil<|dt H) (av.r6 (iI:=[]) aq.list aq.list) e
   .unfold aC;show dG (a5 Tc Tj) H
   .show gv (bl 0 V) V (.inl V) (.inl V)<|gv (bl 2 V) V (.inl V) (.inl V) f8
   .show aZ.bK (R.K 1 V) (R.item (L:=.int d) (af:=bn<|de h d) (R.K 2 V) (R.K 0 V)<|b6.dict aq.dict<|q4 h d<|Tb d w) (av.rN aq.list) e
 mspec(by simp[cR,cI]:en h ((cR bn h).map λD=>j.int D.1).length=cI h);have Tb:∀d∈cI h,d∈dh h:=zs h h.length;have Tc:=EC h h.length;have Ty:(cI h).Nodup:=by
  have:∀n,(en h n).Nodup:=λn=>by
   induction n with
   |zero=>show Ta.bz|succ n Tz=>show Tz.sublist lS
  show this _
 have S7:(cI h).length<=8:=a5 Tc Tj;mexact S.JG (R.K 2 V) aq.list V R.bJ V .none (.int _) .none (k H) (by rw[a6];unfold aC;show b0) (.inr #[V,H]) λE P Tc=>?_;rw[kY];mspec(yk _ 1:ff (cI h) c (O 1) c=(cI h).take 1);have Tq:hI h=k7 h (cI h) ((cI h).length+1) ((cI h).take 1):=rfl;have TA:∀F∈cI h,∃o,(hH h (cI h) F).head?=O o/\o∈cI h:=λF x=>MG Ta x;generalize P:cI h=left at*;mexact S.cons (au:=λx=>hI h=c/\∃Γ own,u M #[U,n+1,pu U K,E::X,Γ,own] x) (g.uz (ce:=sN h left E) (left.length+1) #[left.take 1,aL.cH [1,2,3,0] rfl,V,?_,?_] ?_) ?_
 .intro x;mspec Tq;mspec x;rw[sM];rfl
 .intro x;have TB:(left.take 1).length=1:=by
   cases left with
   |nil=>show absurd V x|cons d P=>rfl
  show l6 (Ty.sublist<|List.take_sublist _ _) (λd w=>sq w) (by mspec TB;simp+arith) Tq.symm
 .intro Te Γ own S8;show sN.MJ S8 λp P TC Tc=>?_;show#[decide (p≠[]),?_,λTl=>?_,λTl=>?_]
  .show aZ.bK (R.name (P _<|bl 3 V) (k H)<|k H) (R.list W.nil<|dt H) (av.r6 (hg:=p) (iI:=[]) (aq.D ao) aq.list) e
  .have Tm:=k Tl;show bB λJ A=>?_;show iQ (Tc Tm) λTr Tf Tp TD=>?_;show A ?_;clear A J;mexact S.dV (Y:=#[U,n+1,pu U K,E::X,Γ,[(E,.list (p.map .int))]]) P ?_;have S4:=lR left p Tr Tf;obtain⟨F,Tn⟩:∃F,p.getLast?=O F:=#[p.getLast Tm,KA Tm];show bB λJ A=>?_;show aX (TA F<|Tf F<|u4 Tn) λo Td Ts=>?_;show A ?_;clear A J;obtain⟨Tg,Tt⟩:∃Tg,Te=Tg+1:=#[Te - 1,by show cZ ((eY<|cg<|Te - 1))<|(ay<|e8 (n:=Te) (m:=1)<|c5 [.C N G,.C t aU,.C (.y aU<| .n 2)<| .y N t] 1 (.n 1) G H (ay (Tp).symm) S4<|eY<|cg<|left.length+2 - p.length)];have S9:=MI (a8:=h) (left:=left) (s:=Tg) Tn Td;rw[<-Tt,TD]at S9;have Tu:∀d∈left,0<=d/\d<8:=λd w=>Ta.jq d<|Tb d w;mexact S.bq (g.assign (af:=.int o) (R.item (L:=.int 0) (r:=.list<|(hH h left F).map .int) (R.iE (ds:=el 3 8) (dD:=j.int) (cO:=λd=>[("x",.int d)]) [("left",.list (left.map .int)),("way",.val (.ref E)),("uses",.dict (cR bn h))] (λd=>left.any (·==d)&&(de h d).any (·==F)) (λd=>.int d) V (k H) V (k H) (r:=.iz 3 8 1) ?_ (cA.rT (k H) (k H) (k H)<|k H) (k H) (λS5 i=>.name _ _ _) (hh V) ?_ (λS6 Z d w=>?_) (λS6 Z d w i=>by show R.K 0 V) (λi=>rfl)<|λi i i i=>e) R.bJ<|b6.list (cC:=0) aq.list ?_<|by simp+arith) (.inl V) V) ?_
   .show R.mX (ds:=[.int 3,.int 8]) (Tw.eX V rfl (by room) (k H) V rfl rfl (k H)) (W.cons R.bJ (W.cons R.bJ W.nil V) V) bO.Jl V e V
   .show gv (bl 2 V) V (.inl V) (.inl V)<|gv (bl 3 V) V (.inl V) (.inl V)<|gv (bl 0 V) V (.inl V) (.inl V) f8
   .show aZ.o0 (b:=left.any (·==d)) (q:=(de h d).any (·==F)) (aZ.bK (R.K 0 V) (R.K 1 V) (av.rN aq.list) e)<|λP=>?_;show aZ.bK (R.item (L:=.int<| -1) (af:=.int F) (R.K 2 V) R.kQ<|b6.ek (ds:=p.map .int) (aq.D ao) (by mspec ss;mspec Tn;rfl)) (R.item (L:=.int d) (af:=bn<|de h d) (R.K 3 V) (R.K 0 V)<|b6.dict aq.dict<|(λd w=>q4 h d (Tb d w):∀d,d∈left->(cR bn h).lookup d=O (bn<|de h d)) d<|pt.mp P) (av.rN aq.list) e
   .mspec e6;show ch (List.head?_eq_getElem?) ?_;mspec Td;rfl
   mexact S.cons (au:=λx=>o∉p/\u M #[U,n+1,pu U K,E::X,[("uses",.dict (cR bn h)),("items",fi),("left",.list (left.map .int)),("way",.val (.ref E)),("u",.int o)],[(E,.list (p.map .int))]] x)
    (g.dB (an:=p.any (·==o)) (aZ.bK (R.K 0 V) (R.K 4 V) (av.rN<|aq.D ao) e) (λx=>?_)<|λx=>S.nil λh' I=>#[λTh=>(by rw[pt.mpr Th]at x;cases x),I.ef<|aL.cH [1,2,3,4,0] rfl]) ?_
   .have Th:=pt.mp x;rw[if_pos Th]at S9;mexact S.cons (au:=λi=>False) (g.ret (af:=ku<|hI h) ?_ λx o I r=>fo o V I.db<|r.keep<|l.sub I.sub) λi F=>F.elim;mspec S9;have TE:∀d∈p.drop (p.idxOf o)++[o],0<=d/\d<8:=λd w=>by
     show cK w (λw=>?_) λw=>?_
     .show Tu d<|Tf d<|Dl w
     .show(bW w)▸Tu o Ts
    show R.of_eq (R.iE (ds:=p.drop (p.idxOf o)++[o]) (dD:=j.int) (cO:=λd=>[("x",.int d)]) [("items",fi)] (λi=>z) (λd=>.str<|a2 d) V (k H) V (k H) (r:=.list<|(p.drop (p.idxOf o)++[o]).map .int) ?_ (cA.list (.inl<|dM _ _ V) aq.list) ?_ (λS5 i=>.name _ _ _) (hh V) (gv (bl 2 V) V (.inl V) (.inl V) f8) (λi i i i=>rfl) (λS6 Z d w i=>?_) (λi=>rfl)<|λi i i i=>e) (by rw[jg];rfl)
    .show R.of_eq (R.o5 (ac:=(p.drop<|p.idxOf o).map .int) (b:=[.int o]) (R.of_eq (R.jD (mV:=O ((p.idxOf o:Nat):Int)) (R.K 4 V) (aq.D ao) (R.jf (ds:=[.int o]) (R.K 4 V) (fD.list (aq.D ao) Cx ML) (W.cons (R.K 0 V) W.nil V) (bO.Cw (hg:=p) (aq.D ao) Th<|b9 [.C N<| .n 8,.C G N] 0 (.Q G) (.n<|2^62) H S7 S4) V e V) V rfl (.int _) .none .none (k H) ?_) ?_) (R.list (W.cons (R.K 0 V) W.nil V)<|dt H) aq.list aq.list ?_) (by simp)
     .rw[a6];unfold aC;show dG (a5 S4 S7) H
     .rw[kY,sb]
     .rw[a6];mspec k6;mspec gw;unfold aC;show p5 (a5 (a5 (fE p.length<|Cy o p) S4) S7) H
    .mspec dE;mspec k6;mspec gw;unfold aC;show p5 (a5 (a5 (fE p.length<|Cy o p) S4) S7) H
    .show am (TE d w) λh0 F=>?_;have Ti:∃B:Nat,d=B/\B<8:=as d.toNat (by show gr (bh [d,↑d.toNat] [.C f aA] 0 f aA H (kl d:))<|bh [↑d.toNat,d] [.C f aA] 0 f aA H (c2 (gx<|bh [d] [.C (.n 0) f] 0 (.n 0) f H h0):)) (by show dH.mp<|bh [↑d.toNat,d] [.aK aA<| .n 8,.C f aA] 0 (.Q f) (.n 8) H F (c2 (gx<|bh [d] [.C (.n 0) f] 0 (.n 0) f H h0):));show bB λJ A=>?_;obtain⟨B,rfl,Ti⟩:=Ti;show A ?_;clear A J;have F:(hU.map λD=>item D.1 D.2)[B]?=O (item ((hU[B]?).map (·.1) |>.getD "") ((hU[B]?).map (·.2) |>.getD [])):=by
      show(tT V rfl rfl rfl rfl rfl rfl rfl:∀B:Nat,B<8->(hU.map λD=>item D.1 D.2)[B]?=O (item ((hU[B]?).map (·.1) |>.getD "") ((hU[B]?).map (·.2) |>.getD []))) B Ti
     show R.item (L:=.int 0) (R.item (L:=.int B) (R.K 1 V) (R.K 0 V)<|b6.list (cC:=B) aq.list F<|dG Ti H) R.bJ (b6.list (cC:=0) aq.list V<|by simp+arith)
   .intro x S8;show am S8 λTv I=>?_;rw[if_neg Tv]at S9;show eO #[U,n+1,pu U K,E::X,[("uses",.dict (cR bn h)),("items",fi),("left",.list (left.map .int)),("way",.val (.ref E)),("u",.int o)],[(E,.list (p.map .int))]] M V rfl rfl rfl rfl I (S.bq (g.append (bD:=[]) (b3:=[]) (af:=.int o) (ds:=p.map .int) (R.K 4 V) (bl 3 V) (k H) (k H) V (by rw[a6];unfold aC;show dG (a5 S4 S7) H) e V rfl rfl)<|S.nil λh' TF=>?_);show#[_,_,#[Tg,by show(ay (Tt).symm),p++[o],?_,?_,λTo=>by simp at To,λi=>l6 ?_ ?_ ?_ S9.symm],TF]
    .show aL.cH [0,1,2,3] rfl
    .simp
    .show(gz).mpr ?_;show cG Tr (by simp) (λd w i h=>by show kH h λTo=>Tv<|To▸w)
    .intro d w;show cK w (λw=>?_) λw=>?_
     .show Tf d w
     .show kH w Ts
    .mspec dE;mspec gw;grind
  .intro x I;show#[TC<|MM.mp<|of_decide_eq_false Tl,_,_,I]
 .rintro x S8;show bB λJ A=>?_;show am S8 λd Tk=>?_;show cm Tk λΓ own I=>?_;show A ?_;clear A J;show eO #[U,n+1,pu U K,E::X,Γ,own] M V rfl rfl rfl rfl I ?_;mspec d;show S.ret R.gF
def MN (b:aR U)(a:b4)(d:iM a):bO #[U,n+2,env,X,Γ,own] (.ref 223) [.dict<|cR bn a,fi] (ku<|hI a):=
 (zt b).m7 V (λe f g=>MK b n e f g a d)
end
section
variable {U:aV}
def aR.lim (a:aR U):U.B.NoLimit:=by show hx a.kb λd e f g h b=>?_;show b.nolimit
def ou (o:c4)(a:i)(b pos:di)(dy:h6)(env:b1):Prop:=∃ij:ib Bool,eval (.Call (.Attribute o a b) dy [] pos) env=(do
 let d <-eval o env
 ep b.atName
 let(aQ,first) <-e5 [d] (gK d a ij)
 dO pos aQ first (cX pos<|bf dy env) [])
def MO (f:aR U){b:ax}{d:Nat}(i:hU[d]?=O (m,x))(r:T×ak)(j:b.bo=O r)(p:b.bz)(q:(gO m).length<=900)(s:q3 b.P m)
 (h:∀env,ou (.Name "sorter" B) "done" M S4 [.Subscript (.Subscript (.Name "items" S5) (.Name "x" S6) S7) (.Constant (.int 0) S8 S9) Ta] env)
 (t:iL h0 o w (.Call (.Attribute (.Name "sorter" B) "done" M) [.Subscript (.Subscript (.Name "items" S5) (.Name "x" S6) S7) (.Constant (.int 0) S8 S9) Ta] [] S4)) (u:hY U w h0 (l h0 Tb) [("sorter",.val (.ref b.x)),("items",fi),("x",.int d)]):ks U (n+2) h0 Tb o b.D (nr (nt b.P m) b.D):=by
 have v:d<8:=(gG.mp i).1;show ks.of (ae:=b.x) (aE:=175) (Γ:=[("sorter",.val (.ref b.x)),("items",fi),("x",.int d)]) (dW:=["self","nodes"]) (ds:=[.str m]) (gA:=[.val<| .ref b.x,.bQ [.str m]]) t f.lim u (λg X B v F G y A C=>?_) (Ea f) V (λv X t D E=>?_) λg t u v B F h0 G I=>Mb f n g t u v B F h0 G I b m r j p q s
 .obtain⟨J,h⟩:=h<|eC w g o;show Ej (ij:=J) (Y:=#[U,n+1,eC w g o,X,[("sorter",.val (.ref b.x)),("items",fi),("x",.int d)],b.D]) (au:=a U) f.bC y A b.eI b.eR (by rfl) DD (R.K 0 V) (W.cons (R.item (r:=item m x) (R.item (L:=.int d) (R.K 1 V) (R.K 2 V)<|b6.list aq.list (by mspec e6;mspec i;rfl)<|by show b0) R.bJ<|b6.list (cC:=0) aq.list V<|k H) W.nil V) V e h C
 .show Eb (.val _) D (fT H) E
def EG {a:Nat}(d:(el m b)[a]?=O n):n=m+a/\n<b:=by
 unfold el at d;rw[e6,f2]at d;obtain⟨g,e,rfl⟩:=d;have f:a<(h7 (b - m).toNat).length:=(gG.mp e).1;rw[jP]at f;rw[rU f]at e;obtain rfl:=fU e;show#[V,by omega]
def EH (e:m->j)(a:List (Int×m))(d:Int):((cR e a).lookup d).isSome=(a.lookup d).isSome:=by
 induction a with
 |nil=>rfl|cons g a h=>
  obtain⟨f,b⟩:=g;show(?_:(t0 d<|(f,e b)::cR e a).isSome=_);mspec fB;mspec fB;cases d==f<;>first|rfl|show h
noncomputable def lT (a:h)(a8:b4)(L:Int):i:=if a.any (·==L)then "was already marked done" else if(a8.lookup L).isSome then "was not passed out (still not ready)" else "was not added using add()"
noncomputable abbrev ho:List (di×i):=[(#[279,22,279,54],"_law_refuses.<locals>.<lambda>")]
def EI (b:T):(bU (bi 252<|a U) b 252).qual++("<lambda>":i)="_law_refuses.<locals>.<lambda>":=by room
def zu (d:aR U):ez U 252 (bi 252<|a U) ["sorter","out","uses","items"] (cf 252<|a U):=
 d.fn V rfl H V rfl (Cv λf b g h=>by room)
  (qs V (λd=>H)<|fh V<|fh V<|qs V (λd=>H) he) (k H) (by mspec(show((iB 0 (bi 252<|a U).scope.names []).map (·.1))=(["x","items","sorter"]:ak)from by room);decide) e e V
noncomputable abbrev zv:=λ(ah:ax) (a:h) (a8:b4)=>([("sorter",.val (.ref ah.x)),("out",.list (a.map .int)),("uses",.dict (cR bn a8)),("items",fi)]:be)
noncomputable abbrev nx:=λ(cE:aD) (ah:ax)=>(cE++(ah.D++[(247,.tab ho)]):aD)
noncomputable abbrev vE:=λ(U:aV) (ca:T)=>(bU (bi 252<|a U) ca 252:b1)
def MP (Q:aR U)(Th:dg U.B 251 247)(n:Nat)(x:T)(X:aY)(J:aO)(S5:List b1)(o:aD)(l:ax)(A:h)(B:b4)(Ti:J.cQ=O S5)(Tj:eb o S5)(Tk:eu o)(r:T×ak)(Tl:l.bo=O r)(Tm:l.bz)
 (Ta:∀(d:Nat)(m:i)(t:ak),hU[d]?=O (m,t)->q3 l.P m/\nt l.P m=("node ":i)++gO m++(" ":i)++lT A B d):
 S J #[U,n+4,vE U x,X,zv l A B,nx o l] (cf 252<|a U) (er U J ((nx o l)) λD F=>D=(nx o l)/\F=.bool z):=by
 mexact S.cons (au:=λp=>∃w,u J #[U,n+4,vE U x,w,[],nx o l] p)
  (g.ms (ce:=λd Γ own=>aL Γ (zv l A B)/\own=(nx o l)) (λK K=>False) [] ((nx o l)) V
   (aS.of<|R.mX (ds:=[.int 8]) (Q.eX V rfl (by room) (k H) V rfl rfl (k H)) (W.cons R.bJ W.nil V) bO.uC V e V) (λb p=>by cases p) (cA.rT (k H) (k H) (k H)<|k H) #[aL.bd _,V] (λF K=>.name<| .inr #[V,H]) ?_ ?_ (λK=>rfl)) ?_
 .intro d F w Γ own S6 hd M;show kJ M λS8=>?_;intro S5 Tn;obtain⟨m,t,Z,S9,rfl⟩:∃(m:i) (t:ak),hU[d]?=O (m,t)/\(gO m).length<=100/\F=.int d:=by
   rw[e6,f2]at hd;obtain⟨I,S6,rfl⟩:=hd;show am (EG S6) λS4 To=>?_;obtain rfl:I=d:=gr (bh [I,↑d] [.C f<| .y (.n 0) aA] 0 f aA H (c2 S4:))<|bh [↑d,I] [.C (.y (.n 0) f) aA] 0 f aA H (c2 (S4).symm:);have:d<8:=by show ej.mp ‹_›
   show(show ∀d:Nat,d<8->∃(m:i) (t:ak),hU[d]?=O (m,t)/\(gO m).length<=100/\j.int d=.int d from by show tT ?_ ?_ ?_ ?_ ?_ ?_ ?_ ?_<;>show f5 _ _ V (by decide+kernel) V) d this
  have Tp:d<8:=(gG.mp Z).1;show am (Ta d m t Z) λTq Tr=>?_;mexact S.dV (Y:=#[U,n+4,vE U x,w,gp (.Name "x" #[_,_,_,_]) (.int d) Γ,nx o l]) (eG:=bj "x" (.int d)<|zv l A B) (S8.bj _ _) ?_;mexact S.bq (g.assign (af:=.str<|lT A B d) ?_ (.inl V) V) ?_
  .show R.kO (aZ.bK (R.K 0 V) (R.K 2 V) (av.rN aq.list) e) (λS5=>R.of_eq R.cy ?_) λS5=>R.kO (aZ.bK (R.K 0 V) (R.K 3 V) (av.B1 aq.dict) e) (λS6=>R.of_eq R.cy ?_) λS6=>R.of_eq R.cy ?_
   .unfold lT;show aI (if_pos S5) V
   .unfold lT;mspec if_neg (by rw[S5];decide);show aI (if_pos (by rw[<-EH];show S6)) V
   .unfold lT;mspec if_neg (by rw[S5];decide);show aI (if_neg (by rw[<-EH,S6];decide)) V
  have Ts:∀{S5:bc},(("items":i),fi)∈S5.p->(("x":i),j.int d)∈S5.p->∀{S6 Ta Tb Tc Td:di}{I:Nat},R S5 (.Subscript (.Subscript (.Name "items" S6) (.Name "x" Ta) Tb) (.Constant (.int 0) I Tc) Td) (.str m):=λ{S5} Tt Tu {S6 Ta Tb Tc Td I}=>
   R.item (r:=item m t) (R.item (L:=.int d) (R.name Tt (k H)<|k H) (R.name Tu (k H)<|k H)<|b6.list aq.list (by mspec e6;mspec Z;rfl)<|dG Tp H) R.bJ (b6.list (cC:=0) aq.list V<|k H)
  mexact S.sL (i2.bK (co:=λw D Te=>D=(nx o l)/\Te=aj) (aS.vB Q (pr:=nr (nt l.P m) l.D) (cE:=o) (ah:=l.D) (keep:=[(247,.tab ho)]) (λD F=>D=l.D/\F=.str (nt l.P m)) (q:=251) (aB:=247) (dj:=ho) (bD:=o++l.D) (b3:=[]) (nw:=[("x",x+1+1+1),("sorter",x+1),("items",x+1+1)]) (lQ:=[("sorter",.val (.ref l.x)),("items",fi),("x",.int d)])
   rfl rfl Ti V (MQ<|by simp) Tj Tk (by simp) ?_ ?_ ?_ Th ?_ ?_ ?_ ?_ ?_ ?_ ?_ ?_ ?_ ?_ ?_ ?_ (λK K=>vF) ?_ ?_) ?_ e) ?_
  .rw[EI];show kF.mpr V
  .rw[EI];intro t s _;show aI (bW s) V
  .room
  .rfl
  .rfl
  .rfl
  .rfl
  .intro t s;show aw (a4 s) (λS7=>?_) λs=>?_
   .obtain rfl:=S7;show#[by show bl 2 V,V,V,_,V,V]
   .rcases a4 s with rfl|s
    .show#[by show bl 5 V,V,V,_,V,V]
    .show aw (a4 s) (λS7=>?_) λs=>?_
     .obtain rfl:=S7;show#[by show bl 1 V,V,V,_,V,V]
     .cases s
  .intro s t F;rfl
  .decide
  .rfl
  .rfl
  .rfl
  .intro h0 Tf F I K s t;show MO Q Z r Tl Tm (by show b0) Tq (λenv=>#[_,V]) s t
  .intro D s t p;show fo _ (.inl #[p.2.1,p.2.2]) p.1 V
  .rfl
  .rfl
  .rintro Tv Tw s ⟨t,rfl,rfl,rfl⟩ Tg;have S4:(lT A B d).length<=40:=by unfold lT;split<;>first|show fT H|(split<;>show fT H)
   have To:(("node ":i)++gO m).length<=105:=by rw[kh];mspec show("node ":i).length=5 from rfl;show dK [.C G<| .n 100] 0 (.y (.n 5) G) (.n 105) H S9
   have s:(("node ":i)++gO m++(" ":i)).length<=106:=by rw[kh];mspec show(" ":i).length=1 from rfl;show qF ‹_›
   show kM (.str<|("node ":i)++gO m++(" ":i)++lT A B d) aj (R.jC (R.jC (R.jC R.cy (R.jG (ds:=[.str m]) (Q.eX V rfl (by room) (k H) V rfl rfl (k H)) (W.cons (Ts (bl 5 V)<|bl 1 V) W.nil V) (bO.Ma (by unfold aC;show b0)) V e V) ?_) R.cy ?_) (R.K 0 V) ?_) (av.of_eq av.BM ?_) ?_ e
   .mspec show("node ":i).length=5 from rfl;unfold aC;show dK [.C G<| .n 100] 0 (.y (.n 5) G) (.n<|2^24) H S9
   .mspec show(" ":i).length=1 from rfl;unfold aC;show gu
   .unfold aC;show b9 [.C N<| .n 40,.C G<| .n 106] 0 (.y G N) (.n<|2^24) H S4 s
   .mspec Tr;simp
   .simp
  .intro Tv Tw Te M;show j4 M ?_;intro Tg;show#[e,S.nil λp P=>?_];show#[_,_,_,λd s=>Tg d s,#[aL.cH [2,3,4,5] rfl,V],P]
 .rintro w Γ own p Tn (⟨S8,rfl⟩|Tf) P
  .show dm w<|P.ef aL.nil
  .show Tf.elim
 .intro p M;show v M λw P=>?_;show eO #[U,n+4,vE U x,w,[],nx o l] J V rfl rfl rfl rfl P (S.qI (af:=.bool z) R.p9 V (E.bd _) (λm d=>c7 d) (eH _) #[V,V])
def eb.cons (g:eb n o)(h:env.scope.kind=.function)(i:env.frame=O env.locals)(hd:∃b d,m.data=.dict b d):eb ((env.locals,.frame m)::n) (env::o):=λj e=>by
 show bB λf a=>?_;show cm hd λb d hd=>?_;show a ?_;clear a f;rcases a4 e with rfl|e
 .show#[by mspec h;decide,_,m,b,d,i,ao,hd]
 .show bB λf a=>?_;show am (g j e) λb d=>?_;show j5 d λe g h i j=>?_;show cd j λd k l=>?_;show a ?_;clear a f;show#[b,e,g,h,i,d,A k,l]
def eu.cons (g:eu m){a:dF}(hd:∃b d,a.data=.dict b d):eu ((n,.frame a)::m):=λh e=>by
 show bB λi f=>?_;show cm hd λb d hd=>?_;show f ?_;clear f i;show aw (a4 e) (λj=>?_) λe=>?_
 .obtain rfl:=j;show j6 a b d V hd
 .show g h e
def MR (q:aR U)(u:dg U.B 251 247){a:bc}{k:aO}{n:Nat}{keep:aD}{g:List b1}(v:a.d=U)(w:a.n=n+5)(x:k.cQ=O g)(y:a.J.frame=O a.J.locals)(A:a.J.scope.kind=.function)(d:aD)(b:ax)(l:h)(m:b4)(B:eb d g)(C:eu d)(r:T×ak)(o:b.bo=O r)(D:b.bz)
 (E:∀(s:Nat)(j:i)(F:ak),hU[s]?=O (j,F)->q3 b.P j/\nt b.P j=("node ":i)++gO j++(" ":i)++lT l m s) (G:a.D.Perm ((d++(b.D++[(247,.tab ho)]))++keep)):
 dX a k (.ref 252) [.val<| .ref b.x,.list<|l.map .int,.dict<|cR bn m,fi] (λt e f=>e=(d++(b.D++[(247,.tab ho)]))++keep/\f=.bool z):=by
 subst v;show(zu q).yA (n:=n+4) (ah:=d++(b.D++[(247,.tab ho)])) (keep:=keep) x w V G (co:=λe f=>e=d++(b.D++[(247,.tab ho)])/\f=.bool z)
  (λj t h0 s hd=>by
   mexact S.dP (MP q u n j t #[h0,a.X,O<|a.J::g,k.bY] (a.J::g) ((a.J.locals,.frame s)::d) b l m V (B.cons A y hd) (C.cons hd) r o D E) λv w o=>?_;obtain⟨H,f,e,p,I,J,K⟩:=o;show am I λa b=>?_;show#[H,f,e,p,(fo _ a V b),J,K]) λe f d=>am d λp a=>#[by show aI p V,a]
end
section
variable {U:aV}
def MS (d:aR U){b:ax}(r:T×ak)(i:b.bo=O r)
 (g:∀env,ou (.Name "sorter" x) "add" B M [.Constant (.str m) S4 S5] env)
 (j:iL h0 o w (.Call (.Attribute (.Name "sorter" x) "add" B) [.Constant (.str m) S4 S5] [] M)) (k:hY U w h0 (l h0 S6) [("sorter",.val (.ref b.x))]):ks U (n+2) h0 S6 o b.D (nr "Nodes cannot be added after a call to prepare()" b.D):=by
 show ks.of (ae:=b.x) (aE:=142) (Γ:=[("sorter",.val (.ref b.x))]) (dW:=["self","node","predecessors"]) (ds:=[.str m]) (gA:=[.val<| .ref b.x,.str m,.bQ []]) j d.lim k (λf X v p x y q s t=>?_) (DK d) V (λp X j h u=>?_) λf j k p v x h0 y B=>L8 d n f j k p v x h0 y b m [] r i
 .obtain⟨A,g⟩:=g<|eC w f o;show Ej (ij:=A) (Y:=#[U,n+1,eC w f o,X,[("sorter",.val (.ref b.x))],b.D]) (au:=a U) d.bC q s b.eI b.eR (by rfl) yZ (R.K 0 V) (W.cons R.cy W.nil V) V e g t
 .cases h with
  |cons C h=>cases h;show DL (.val _) C .nil (ew _) u
def MT (d:aR U){b:ax}(r:T×ak)(g:b.bo=O r)
 (f:∀env,ou (.Name "sorter" w) "prepare" x B [] env)
 (h:iL h0 m o (.Call (.Attribute (.Name "sorter" w) "prepare" x) [] [] B)) (i:hY U o h0 (l h0 M) [("sorter",.val (.ref b.x))]):ks U (n+2) h0 M m b.D (nr "cannot prepare() more than once" b.D):=by
 show ks.of (ae:=b.x) (aE:=147) (Γ:=[("sorter",.val (.ref b.x))]) (dW:=["self"]) (ds:=[]) (gA:=[.val<| .ref b.x]) h d.lim i (λe X t j u v k p q=>?_) (q0 d).def rfl (λj X h s i=>?_) λe h i j t u h0 v w=>L9 d n e h i j t u h0 v b r g
 .obtain⟨y,f⟩:=f<|eC o e m;show zk (ij:=y) (Y:=#[U,n+1,eC o e m,X,[("sorter",.val (.ref b.x))],b.D]) (au:=a U) d.bC k p b.eI b.eR (by rfl) y0 (R.K 0 V) f λh' e g=>q [] h' e g .nil
 .show(q0 d).qp (.cons (.val _) s) V
end
structure mA (Y:bc)(r:j)(ds:dn):Prop where
 go:∀(aJ:cV)(aa:aM)(bM:cv->aM->Prop)(bv:bX)(an:a3),cU Y aa.heap->a9 Y.d (l aa.heap Y.X) an r->(∀a1 h',E h' aa.heap->aN Y.d (l h' Y.X) a1 ds->bM a1 {aa with heap:=h'})->StarOf Y.d.M aJ bv an bM aa
section
variable {Y:bc}{au:fl}
def EJ (a:b.heap.get? m=O o)(d:o.cls=.type r)(hd:o.data=.seq w n)(f:r="list"\/r="tuple")
 (i:w.size<=aC) (j:∀h',E h' b.heap->x w.toList {b with heap:=h'}):StarOf (b2 B M) S4 S5 (.ref m) x b:=by
 have g:b.TypeIs (.ref m) r:=as o a d;have h:ar (b2 B M) S4 (collect<| .ref m) x S5 b:=wpAny_collect_seq m f a d hd (λh' b=>j h' b) i;unfold StarOf notIterableAtAll;rcases f with rfl|rfl
 .show ap<|t8 g PySem.F.slot_list_iter.lookup<|ba #[e,h]
 .show ap<|t8 g PySem.F.slot_tuple_iter.lookup<|ba #[e,h]
def mA.list (d:ds.length<=aC):mA Y (.list ds) ds:=.mk λa b f g h i r e=>by
 show cm r.is λa f b=>?_;show eN b λf a=>?_
 .show v f λn b=>?_;show EJ (l.of _ _ b) V rfl (.inl V) (by mspec o3;mspec a.length;show d) λh' b=>e _ h' b<|a.keep<|l.keep _ b
def mA.bQ (d:ds.length<=aC):mA Y (.bQ ds) ds:=.mk λa b f g h i r e=>by
 show cm r.is λb f a=>?_;show eN a λf b=>?_
 .show v f λo g=>?_;show cd g λf h a=>?_;show v a λn hd=>?_;show EJ (l.of _ _ f) h hd (.inr V) (by mspec o3;mspec b.length;show d) λh' a=>e _ h' a<|b.keep<|l.keep _ a
structure sO (au:fl)(q aQ:T)(a:i):Prop where
 has:uW au q=z
 get:specialIn au (.ref aQ) "__get__"=O (O<| .builtin "function.__get__")
 yB:takesIn au (.ref aQ)=O aj
 MU:copiedNames.contains a=aj
 fn:fnIn au aQ=z
def EK (X:au.In Y.d.B){g k h j:T}{a:i}{o:cV}{aa:aM}{l:bX}{p:bX}(b:cU Y aa.heap)(q:(g,.aG (c1 h k))∈Y.D)(r:(k,.ns w)∈Y.D)(t:w.lookup a=c)(d:jQ au h j a)(f:sO au h j a)
 (u:∀m h' v,E h' aa.heap->h'.get? m=O (methodObj (.ref j)<| .ref g)->l (.ref m) {aa with heap:=h',toks:=v}):ar Y.d.M o (kf (.ref g) a x) l p aa:=by
 show f4 (pi (b.D _ q).2 (b.D _ r).2) λg n h k j=>?_;show get_bind (b.bC X) h (k4 d.plain).1 (findObj_fn f.has d.at_ f.get f.yB f.MU (by show(?_:u0 a (j7 g n)=_);rw[u1];show aI (j.get.2 t) V)) (k4 d.plain).2
  (hS<|fn_get (s:={aa with toks:=aa.toks+1}) (b.bC X) d.oi<|handed_on H<|u aa.heap.objs.size _ _ (E.push _ _)<|aW.get?_push_at V e)
def EL
 (e:ar n r (eval o env) (λb a=>ar n r (kf b w z) (λm d=>ar n r (dO pos m [] (cX pos<|bf args env) []) M x d) x a) x S4)
 (f:eval (.Call (.Attribute o w B) args [] pos) env=(do
  let b <-eval o env
  ep B.atName
  let(m,first) <-e5 [b] (do pure (<-kf b w z,[]));let S5 <-pure pos
  dO S5 m first (cX pos<|bf args env) [])):
 ar n r (eval (.Call (.Attribute o w B) args [] pos) env) M x S4:=by
 mspec f;show ap<|dq e (λb a f=>ap<|jJ<|ap<|g6<|ap<|dq f (λm d e=>ba<|ap<|ba e) λa a b=>b) λa a b=>b
def MV (X:au.In Y.d.B)(g:dz m Y.n)(d:cU Y b.heap)(p:(S4,.aG (c1 S6 S9))∈Y.D)(s:(S9,.ns Ta)∈Y.D)(t:Ta.lookup n=c)(u:jQ au S6 w n)(h:sO au S6 w n)
 (j:R Y o (.val<| .ref S4)) (v:R Y x r) (y:mA Y r ds) (A:bf [.Starred x S5] Y.J=[(z,eval x Y.J)])
 (C:eval (.Call (.Attribute o n S7) [.Starred x S5] [] pos) Y.J=(do
  let S8 <-eval o Y.J
  ep S7.atName
  let(w,first) <-e5 [S8] (do pure (<-kf S8 n z,[]));let Tb <-pure pos
  dO Tb w first (cX pos<|bf [.Starred x S5] Y.J) []))
 (D:∀a h' k,E h' b.heap->aN Y.d (l h' Y.X) a ds->hR Y.d.M m (.call (.ref w) #[.ref S4::a,[]]) (λr e=>match r with| .ok (.ret B)=>Tc B e| .ok _=>False| .error Td=>M Td e) {b with heap:=h',toks:=k}):ar Y.d.M m (eval (.Call (.Attribute o n S7) [.Starred x S5] [] pos) Y.J) Tc M b:=
 EL (j.go m b _ M g d λB F G i I=>by
  obtain rfl:=I.is;have j:=d.keep i;show EK (aa:={b with heap:=F,toks:=G}) X j p s t u h λd n x k F=>?_;have e:=j.keep k;mspec A;show ks_call H (keeps_M (K:=au) (q:=d) (f:=w) (self:=.ref S4) h.fn)<|ks_lone ?_;show v.go m {b with heap:=n,toks:=x} _ M g e λB j h d n=>?_;show y.go m {b with heap:=j,toks:=h} _ M B (e.keep d) n λa j b m=>?_;have g:=b _ _<|d _ _ F;show#[#[g,((e.keep d).keep b).bC X],hS<|method_call g<|D a j h (((i.trans k).trans d).trans b) m]) C
def MW
 (e:ar n o (spliced<|m::r::w) (λa d=>x #[a,[]] d) B M):ar n o (uQ S4 z (m::r::w) []) x B M:=by
 unfold uQ;obtain⟨b,m⟩:=m;cases b<;>(
  show ap<|dq e (λa d h'=>?_) λa a m=>m;show g6 ?_;show ap<|ba<|ap<|ba<|ba h')
def aS.MX (X:au.In Y.d.B){n G B g:T}{I:be}{o h b:c4}{t:i}{C pos w k:di}{r J:j}{ds zw:dn}{L:lG}(Z:(n,.aG (c1 B G))∈Y.D)(S6:(G,.ns I)∈Y.D)(S7:I.lookup t=c)(S8:jQ au B g t)(N:sO au B g t)
 (S9:R Y o (.val<| .ref n)) (Ta:R Y h r) (Tb:mA Y r ds) (Tc:R Y b J) (Td:mA Y J zw) (Te:∀v D,u S4 Y D->aN Y.d (l D Y.X) v (.val (.ref n)::(ds++zw))->oj Y S4 (.ref g) v D L) (P:bf [.Starred h w,.Starred b k] Y.J=(z,eval h Y.J)::bf [.Starred b k] Y.J) (S:bf [.Starred b k] Y.J=(z,eval b Y.J)::bf [] Y.J)
 (Tf:eval (.Call (.Attribute o t C) [.Starred h w,.Starred b k] [] pos) Y.J=(do
  let S5 <-eval o Y.J
  ep C.atName
  let(g,first) <-e5 [S5] (do pure (<-kf S5 t z,[]));let Tg <-pure pos
  dO Tg g first (cX pos<|bf [.Starred h w,.Starred b k] Y.J) [])):aS Y S4 (.Call (.Attribute o t C) [.Starred h w,.Starred b k] [] pos) L:=.mk λa d Th m x U Ti=>
 EL (S9.go a d _ m x.todz U.tocU λy Tj Tk Tl Tm=>by
  obtain rfl:=Tm.is;have t:=U.keep Tl;show EK (aa:={d with heap:=Tj,toks:=Tk}) X t.tocU Z S6 S7 S8 N λF B C G I=>?_;have D:=t.keep G;have W:=items_star (M:=Y.d.M) (A:=a) (E:=m) (s:={d with heap:=B,toks:=C}) (env:=Y.J) (pos:=pos) (p:=w) (e:=h) (rest:=[.Starred b k]) (Q:=λv h=>MethP au F g (.ref n) h.heap/\ar Y.d.M a (dU (.ref F)<|[]++v) Th m h) (by
   show Ta.go a {d with heap:=B,toks:=C} _ m x.todz D.tocU λy w k t B=>?_;have h:=D.keep t;show Tb.go a {d with heap:=w,toks:=k} _ m y h.tocU B λv C w G=>?_;have B:=h.keep w;show items_star ?_ S;show Tc.go a {d with heap:=C,toks:=k} _ m x.todz B.tocU λJ L C h U=>?_;have D:=B.keep h;show Td.go a {d with heap:=L,toks:=C} _ m J D.tocU U λL B k Z=>?_;have m:=D.keep k;have D:=k _ _<|h _ _<|w _ _<|t _ _ I;show ly #[#[D,m.tocU.bC X],?_];rw[fj];show hS<|method_call D ?_;show(Te (.ref n::(v++L)) B m<| .cons (.val _)<|(G.keep<|l.keep _<|h.trans k).append Z).go a {d with heap:=B,toks:=C} _ x V m λy a d r=>Ti y a (cs.up.trans d) r) P
  rw[P,S]at W ⊢;show ks_call H (keeps_M (K:=au) (q:=F) (f:=g) (self:=.ref n) N.fn)<|MW W) Tf
end
section
variable {U:aV}
def MY:sO (a U) 192 175 "done":=#[by room,by room,by room,by decide+kernel,by room]
def MZ:sO (a U) 192 142 "add":=#[by room,by room,by room,by decide+kernel,by room]
def M0 (o:c4)(a:i)(b pos:di)(dy:h6)(env:b1):Prop:=eval (.Call (.Attribute o a b) dy [] pos) env=(do
 let d <-eval o env
 ep b.atName
 let(aQ,first) <-e5 [d] (do pure (<-kf d a z,[]));let ai <-pure pos
 dO ai aQ first (cX pos<|bf dy env) [])
def M1 (f:aR U)(r:T)(e d:ak)(j:b.bo=O (r,e))(k:b.bz)(g:Nat)(p:fF g b.P)(q:∀s∈b.P,∀h∈s.2.2,h∈cP b.P)(t:nn (b.P,e) d)(u:e.length+d.length*g<=900)(v:d.length<=900)
 (x:∀env,M0 (.Name "sorter" B) "done" M S4 [.Starred (.Name "given" S5) S6] env)
 (y:iL h0 m o (.Call (.Attribute (.Name "sorter" B) "done" M) [.Starred (.Name "given" S5) S6] [] S4)) (A:hY U o h0 (l h0 w) [("sorter",.val (.ref b.x)),("given",.bQ (d.map .str))]):
 oq U (n+2) h0 w m b.D (λC D=>D=.none/\∃i,C=i.D/\gM i b (b.bH+d.length) b.bV (r,(fu (b.P,e) d).2) (fu (b.P,e) d).1):=by
 show oq.Me (ae:=b.x) (aE:=175) (Γ:=[("sorter",.val (.ref b.x)),("given",.bQ (d.map .str))]) (dW:=["self","nodes"]) (ds:=d.map .str) (gA:=[.val<| .ref b.x,.bQ<|d.map .str]) y f.lim A (λi X D h E F s B C=>?_) (Ea f) V (λh X D y A=>?_) λi h w h0=>L2 f n i h _ b r e d j k g p q t u v
 .show MV (Y:=#[U,n+1,eC o i m,X,[("sorter",.val (.ref b.x)),("given",.bQ (d.map .str))],b.D]) (au:=a U) f.bC s B b.eI b.eR (by rfl) DD MY (R.K 0 V) (R.K 1 V) (mA.bQ (by rw[a6];unfold aC;show b0)) V (x _) C
 .show Eb (.val _) y (by rw[a6];unfold aC;omega) A
end
section
open PySem.Builtin.Re
noncomputable abbrev hJ:Array Nat:=(aRR [14,14,4,1,1,9,0,64,0,1342177280,0,0,0,0,0,17,0,13,11,9,0,64,0,1342177280,0,0,0,0,0,17,1,1])
def mB (q:Nat):Prop:=q≠38/\q≠124/\q≠126
def M2:∀a<256,a≠38->a≠124->a≠126->(hJ.getD (5+(1+a/32)) 0).testBit (a%32)=aj:=by decide+kernel
def M3 (a n:Nat)(b:EM):Sre.inSet hJ a (n+2) 5 z b=if(decide (a<256)&&(hJ.getD (5+(1+a/32)) 0).testBit (a%32))=z then .ok (z,b.add (hJ.getD (5+0) 0))else .ok (aj,(b.add<|hJ.getD (5+0) 0).add (hJ.getD (5+9+0) 0)):=by room
def M4 {b:Nat}(d:mB b)(n:Nat)(a:EM):∃e,Sre.inSet hJ b (n+2) 5 z a=.ok (aj,e):=by
 rw[M3,if_neg λa=>by
  have a:=xb.mp a;show pn<|(M2 b (k a.1) d.1 d.2.1 d.2.2).symm.trans a.2]
 show#[_,V]
def M5 {b:ov}(g:b.code=hJ)(h:∀i<b.lim,mB (b.text.getD i 0))(e:Nat):∀(a:Nat)(d:EM),∃f,b.admitted e a d=.ok (c,f):=by
 induction e with
 |zero=>show λa d=>#[d,V]|succ e j=>
  intro a d;by_cases e:a>=b.lim
  .show#[_,if_pos e]
  .show v (M4 (h a<|Nat.lt_of_not_le e) 30 d) λf b=>v (j (a+1) f) λd h=>#[d,(if_neg e).trans ?_];mspec g;mspec show hJ.size=30+2 from rfl;mspec b
   show h
def M6 {a:ov}(d:a.code=hJ)(e:∀f<a.lim,mB (a.text.getD f 0))(b:Nat)(first:Bool):(a.attemptFrom b first).answer=O aj/\(a.attemptFrom b first).frames=a.frames/\(a.attemptFrom b first).outcome=a.outcome:=by
 have f:a.hasFirstSet=z:=by unfold ov.hasFirstSet;mspec d;room
 show v (M5 d e (a.lim+1 - b) b a.seen) λh g=>?_;unfold ov.attemptFrom;mspec f;mspec g;show cG V rfl rfl
def M7 {a:Array Nat}(e:∀f<a.size,mB (a.getD f 0)):(zx hJ a 1 0 a.size aj).answer=O aj/\(zx hJ a 1 0 a.size aj).frames=[]/\(zx hJ a 1 0 a.size aj).outcome=c:=by
 have d:(EN hJ).1=1:=by room
 unfold zx;by_cases h0:a.size=0
 .have:(decide (0>a.size)||decide (a.size - 0<(EN hJ).1))=z:=by
   mspec d;mspec h0;rfl
  simp only[this,if_true];show cG V rfl rfl
 .have:(decide (0>a.size)||decide (a.size - 0<(EN hJ).1))=aj:=by
   mspec d;rw[CH];show#[decide_eq_false (by simp+arith),decide_eq_false<|λd=>p2 [.C (.n 1) G,.C G<| .y N<| .n 0,.aK N<| .n 1] H (sP h0) (eY<|cg<|a.size - 0) d]
  simp only[this,o6,if_false];have f:∀d:ov,d.code=hJ->d.text=a->d.lim=a.size->d.frames=[]->d.outcome=c->(d.attemptFrom 0 z).answer=O aj/\(d.attemptFrom 0 z).frames=[]/\(d.attemptFrom 0 z).outcome=c:=λd a g h i j=>by
   show cd (M6 a (by mspec g;mspec h;show e) 0 z) λa b d=>?_;show cG a (b.trans i)<|d.trans j
  show f _ V rfl rfl rfl rfl
section
variable {gC:p6}{aJ:cV}{bv:bX}{aa:aM}
theorem EO {e:Type}{f:e->PUnit->ib (ForInStep PUnit)}(g:∀b(a:ForInStep PUnit->aM->Prop) aa,a (B6 vG) aa->ar gC aJ (f b vG) a bv aa){a:PUnit->aM->Prop}:∀{h:List e}{aa:aM},a vG aa->ar gC aJ (forIn h vG f) a bv aa
 |[],aa,d=>ba d|b::h,aa,d=>by
  rw[List.forIn_cons];show ap<|g b _ aa<|EO g d
def M8 {a:ov}(f:a.answer=O aj)(g:a.frames=[])(e:a.outcome=c){d:Option ov->aM->Prop}(b:d c aa):ar gC aJ (reRunToEnd a) d bv aa:=by
 have h:a.step={a with outcome:=O .failed}:=by
  unfold ov.step;mspec e;mspec f;mspec g;rfl
 have f:a.runFor zy={a with outcome:=O .failed}:=by
  show(?_:(if a.outcome.isSome then a else ov.runFor 3 a.step)=_);mspec e;mspec h;rfl
 have hd:reDrive (2^64) a=pure {a with outcome:=O .failed}:=by
  show(if(a.runFor zy).outcome.isSome then pure (a.runFor zy)else(rule "sre.turn" >>= λe=>reDrive (2^64 - 1)<|a.runFor zy))=_;mspec f;rfl
 unfold reRunToEnd;mspec hd;show ap<|ba ?_;show ap<|EO (λa d aa b=>?_) ?_
 .split
  .show ap<|sd<|ba b
  .show ba b
 .show ba b
end
end
section
open PySem.Builtin.Re
noncomputable abbrev vH:Array a3:=hJ.map λ(n:Nat)=>a3.int (n:Int) 0
noncomputable abbrev EP:Array a3:=(aRR [.str #[(aRR [40,91,38,126,124,93,41])] 292,.int 32 327,.int 1 0,.none,.none,.ref 42,.int 0 0])
structure mC (al:aW):Prop where
 vI:∃o,al.get? 43=O o/\o.cls=.type "re.Pattern"/\o.data=.fields EP/\o.dict=c
 code:∃o n,al.get? 42=O o/\o.data=.seq vH n
def mC.keep (b:mC m)(d:E h' m):mC h':=#[let#[o,a,r]:=b.vI;#[o,d _ _ a,r],let#[o,n,a,r]:=b.code;#[o,n,d _ _ a,r]]
section
variable {gC:p6}{aJ:cV}{bv:bX}{aa:aM}
def M9:(vH.map reRawOf).map (·.toNat)=hJ:=by room
def EQ (a:mC aa.heap)(d:m {pattern:=.ref 43,string:=.str b r,code:=hJ,text:=b.cps,kind:=0,groups:=1,pos:=0,lim:=b.cps.size} aa):ar gC aJ (reWholeTarget (.ref 43)<| .str b r) m bv aa:=by
 show gj a.vI λo e f hd g=>?_;show gi a.code λh n f g=>?_;unfold reWholeTarget fieldsOf;show ap ?_;show ap<|sg e ?_;mspec hd;show ba ?_;show ap ?_;unfold reTextOf;show ba ?_;show ar gC aJ (do Na (.str b r) 0;_) m bv aa;unfold Na;show ap<|ba ?_;show ap ?_;unfold reRawItems;show ap<|vJ f g ?_;show ba<|ba ?_;show(?_:m {pattern:=.ref 43,string:=.str b r,code:=(vH.map reRawOf).map (·.toNat),text:=b.cps,kind:=0,groups:=1,pos:=0,lim:=b.cps.size} aa);mspec M9;show d
end
section
variable {cY:i5}{bp:fd}{aJ:cV}{bv:bX}{aa:aM}
def Nb (a:b.length<=aC)(d:m (.str b aa.toks) {aa with toks:=aa.toks+1}):ar (b2 cY bp) aJ (reSlice b.cps 0 0 b.cps.size) m bv aa:=by
 unfold reSlice;mspec if_pos (by decide);mspec(show(#[b.cps.extract 0 b.cps.size]:i)=b from by show aI Array.extract_size V);show Dx d a
def ER {a:i}(b:m (.str kg aa.toks) {aa with toks:=aa.toks+1}):ar (b2 cY bp) aJ (reSlice a.cps 0 0 0) m bv aa:=by
 unfold reSlice;mspec if_pos (by decide);have d:(#[a.cps.extract 0 0]:i)=kg:=by
  mspec(show a.cps.extract 0 0=(aRR [])from by simp);rfl
 mspec d;show Dx b (by decide)
def Nc (k:mC aa.heap)(l:∀p<m.cps.size,mB (m.cps.getD p 0))(g:m.length<=aC)(u:m.length<=16777216)(d:aa.heap.get? ca=O {cls:=.type "list",data:=.seq (aRR [])})
 (h:∀i q h',cN [ca] aa.heap h'->bM (.done (.ret<| .str m i)) {aa with heap:=h',toks:=q}):
 ar (b2 cY bp) aJ (Builtin.«re.Pattern.sub.loop» #[[.ref 43,.str m w,.ref aQ,d4 1,d4 0,d4 0,d4 0,d4 0,.bool aj,.ref ca,.bool aj],[]]) bM bv aa:=by
 unfold Builtin.«re.Pattern.sub.loop» d4;show ap<|EQ k ?_;mspec if_neg (by decide);show ap ?_;mspec if_neg (by decide);unfold reNextFound;show cd (M7 l) λk p q=>?_;show M8 k p q ?_;dsimp only;by_cases h0:m.cps.size=0
 .have r:m=kg:=by
   obtain⟨⟨t⟩⟩:=m;have:t=[]:=n9.mp h0;subst this;rfl
  mspec if_neg (by show aI h0 ?_;decide);show ap<|ER ?_;show ap<|vJ d V ?_;mspec if_pos (show((O ((aRR []):Array a3)).getD (aRR [])).isEmpty=z from H);show ap<|ba ?_;mspec if_neg (by decide);show ba ?_;show ch r ?_;show h _ _ aa.heap λb o k a=>a
 .mspec if_pos (by show 0<_;show dK [.C (.n 1) G] 0 (.Q<| .n 0) G H<|sP h0);show ap<|Nb g ?_;show ap<|wpAny_updateSeq (s:={aa with toks:=aa.toks+1}) d V ?_;show ap<|ER ?_;obtain⟨k,j⟩:∃n,(aa.heap.update ca<|jn λf=>f.push<| .str m aa.toks).get? ca=O {cls:=.type "list",data:=.seq (aRR [.str m aa.toks]) n}:=#[_,(nc (jn λf=>f.push<|sQ m aa.toks) d e).trans V];show ap<|vJ j V ?_;mspec if_neg (show ¬((O ((aRR [sQ m aa.toks]):Array a3)).getD (aRR [])).isEmpty=z from by simp);show ap ?_;mspec if_pos (by decide);show PyProof.Rows.join_list (ys:=[m]) #[_,j,V,_,V] (.cons _ _ .nil) ?_ λi d=>?_
  .show dK [.C G<| .n aC] 0 (.y (.y G<| .n 0)<| .cS 1<| .n 0) (.n 16777216) H g
  mspec if_neg (by decide);show ba ?_;have a:dC kg [m]=m:=by rfl
  mspec a;show h _ _ _ λb o n a=>aW.get?_update_other _ _ (λd=>n (by show ch d ?_;show kF.mpr V)) |>.trans a
def Nd:lz (.type "function") (jr "__call__")=pure (O<| .builtin "function.__call__"):=by rw[kd];mspec ke;room
def Ne:uM table "re.Pattern.sub.loop"=O Builtin.«re.Pattern.sub.loop»:=uN (by room)
def Nf:uM table "re.Pattern.sub"=O Builtin.«re.Pattern.sub»:=uN (by room)
def Ng:reNamed "re.Pattern.sub" "sub" ["repl","string","count"] 2 [m,b] []=pure [O m,O b,c]:=by rfl
def Nh {a:i}{q:fg}{bM:Fin->aM->Prop}(k:mC aa.heap)(s:∀t<a.cps.size,mB (a.cps.getD t 0))(u:a.length<=aC)(v:a.length<=16777216)(w:aa.TypeIs (.ref m) "function")
 (x:∀h j h',E h' aa.heap->bM (.done (.ret<| .str a h)) {aa with heap:=h',toks:=j}):
 ar (b2 cY bp) aJ (Builtin.«re.Pattern.sub» #[[.ref 43,.ref m,.str a q],[]]) (λg d=>match g with| .done m=>bM (.done m) d| .again n=>n.quiet=z/\hR (b2 cY bp) qh n (λr d=>match r with| .ok m=>bM (.done m) d| .error _=>False) d) bv aa:=by
 unfold Builtin.«re.Pattern.sub» reSubstitute;dsimp only;mspec Ng;show ap<|ba ?_;show ap<|ba ?_;show ap<|t8 (name:=jr "__call__") w Nd ?_;mspec if_pos (show(O<|se "function.__call__").isSome=z from H);show ap<|ba ?_;mspec if_pos (show(O<|se "function.__call__").isSome=z from H);show ap<|ba ?_;show ap<|g6<|EQ k ?_;dsimp only;mspec if_pos (by decide);show ap ?_;unfold reNotHeld;show ap (wpAny_isInstance (T:="str") (b:=aj) V (by rw[lF];room) ?_);simp only[o6,if_false];show ba ?_;show ap<|wpAny_newList ?_<|ew _;show ba ?_;show#[C2 _ (by decide+kernel),pe Ne ?_];have l:E (aa.heap.push {cls:=.type "list",data:=.seq ([]:cv).toArray}) aa.heap:=E.push _ _;show dq (Nc (ca:=aa.heap.objs.size) (aQ:=m) (k.keep l) s u v (dL _ e) (bM:=λg d=>match g with| .done m=>bM (.done m) d| .again _=>False) λh j h' k=>?_) (λg d p=>?_) λd d a=>a
 .show x h j h' λb o f=>k b o (by rw[kF];intro y;replace f:=y▸f;replace f:=d3▸f;cases f)<|l b o f
 .cases g with
  |done m=>show p|again a=>show p.elim
end
end
section
open PySem.Builtin.Re
def zz:Slot "re.Pattern" "sub" "re.Pattern.sub":=
 .of (owner:="re.Pattern") (n:="sub") (by rw[kd];mspec ke;room) (by decide+kernel) (by decide+kernel) (by decide+kernel)
  (by first|show .inl (by decide+kernel)|show .inr<|by decide+kernel) (by rw[lF];room)
def Ni (a b d:a3):nb "re.Pattern.sub" #[[a,b,d],[]]:=by unfold nb;room
def Nj:PlainAttrs "re.Pattern":=
 #[(as ("object.__getattribute__") (by rw[kd];mspec ke;room)<|by decide+kernel),by rw[kd];mspec ke;room]
def Nk:qv (.builtin "re.Pattern.sub")=pure (.type "method_descriptor"):=by room
section
variable {cY:i5}{bp:fd}{aJ:cV}{bv:bX}{aa:aM}
def Nl (h:mC aa.heap)(k:∀l<b.cps.size,mB (b.cps.getD l 0))(p:b.length<=aC)(q:b.length<=16777216)(s:aa.TypeIs (.ref m) "function")
 (t:∀d e h',E h' aa.heap->n (.str b d) {aa with heap:=h',toks:=e}):ar (b2 cY bp) aJ (dU (.builtin "re.Pattern.sub") [.ref 43,.ref m,.str b w]) n bv aa:=by
 show gj h.vI λo l u hd i=>?_;show hS<|sf zz.plain Nf<|zz.check _ _ _ _ _ _ _ _ (show aa.TypeIs (.ref 43) "re.Pattern" from(as _ l u)) (Ni _ _ _) ?_;show dq (Nh (qh:=aJ) (bM:=λf j=>match f with| .done (.ret v)=>n v j|_=>False) h k p q s λd e h' l=>t d e h' l) (λf j a=>?_) λi i b=>b;cases f with
 |done m=>cases m<;>first|show a|show a.elim
 |again b=>
  show#[a.1,codeAny_mono a.2 λr b g=>?_];cases r with
  |ok m=>cases m<;>first|show g|show g.elim
  |error a=>show g.elim
def Nm (b:mC aa.heap)(d:m (.builtin "re.Pattern.sub",[.ref 43]) aa):ar (b2 cY bp) aJ (gK (.ref 43) "sub" n) m bv aa:=by
 show gj b.vI λo a e hd f=>?_;show qw (T:="re.Pattern") (as _ a e) Nj zz Nk (λb g=>by cases g;show as o a f) d
end
end
def Nn (a:aR m){b:aW}(d:E b m.B):mC b:=
 #[(l7 ({cls:=.type "re.Pattern",data:=.fields EP}) (d _ _<|a.bC _ _<|by room) V rfl rfl),(iy ({cls:=.type "tuple",data:=.seq vH 0}) 0 (d _ _<|a.bC _ _<|by room) V)]
noncomputable abbrev fa (ag:T)(L:Nat):dF:={cls:=.type "list_iterator",data:=.fields (aRR [.ref ag,.int L 0])}
noncomputable abbrev ge (cz:T):dF:={cls:=.type "method-wrapper",data:=.fields (aRR [.builtin "list_iterator.__next__",.ref cz])}
def No:uM table "wrapper_descriptor.__get__"=O Builtin.«wrapper_descriptor.__get__»:=uN (by room)
def ES:lz (.type "wrapper_descriptor") "__get__"=pure (O<| .builtin "wrapper_descriptor.__get__"):=by rw[kd];mspec ke;room
def Np:lz (.type "wrapper_descriptor") "__set__"=pure c:=by rw[kd];mspec ke;room
def Nq:lz (.type "wrapper_descriptor") "__delete__"=pure c:=by rw[kd];mspec ke;room
def Nr (a:b.TypeIs (.ref m) "list_iterator")(d:bM (.done (.ret<| .ref b.heap.objs.size)) {b with heap:=b.heap.push<|ge m}):
 ar (b2 n o) r (Builtin.«wrapper_descriptor.__get__» #[[.builtin "list_iterator.__next__",.ref m,.type "list_iterator"],[]]) bM w b:=by
 unfold Builtin.«wrapper_descriptor.__get__»;show ap ?_;show ar _ _ (pure (se "list_iterator.__next__",O (na m),O (oe "list_iterator"))) _ _ _;show ba ?_;show ar _ _ (do _;ret (<-newFields "method-wrapper" [.builtin "list_iterator.__next__",.ref m])) _ _ _;show ap ?_;show ar _ _ (do let(a,b) <-pure (("__next__":i),oe "list_iterator");_) _ _ _;show ap<|ba ?_;have a:uO (.type "list_iterator") (.type "list_iterator")=pure z:=by rw[lF];room
 repeat(any_goals (first|assumption|wp_step))
def ET:Slot "wrapper_descriptor" "__get__" "wrapper_descriptor.__get__":=
 .of (owner:="wrapper_descriptor") (n:="__get__") ES (by decide+kernel) (by decide+kernel) (by decide+kernel)
  (by first|show .inl (by decide+kernel)|show .inr<|by decide+kernel) (by rw[lF];room)
def Nt (a b d:a3):nb "wrapper_descriptor.__get__" #[[a,b,d],[]]:=by unfold nb;room
def EU:qv (.builtin "list_iterator.__next__")=pure (.type "wrapper_descriptor"):=by show builtinType _=_;mspec builtinType_eq_fast;room
def Nu (a:aM):a.TypeIs (.builtin "list_iterator.__next__") "wrapper_descriptor":=EU
def Nv (b:T)(k:T)(l:Nat)(m:fg):
 og (Builtin.«object.__getattribute__» #[[.ref b,.str "__next__" m],[]]) (λn f a=>a.heap.get? b=O (fa k l)/\f (.ok<| .ret<| .ref a.heap.objs.size) {a with heap:=a.heap.push<|ge b}):=
 uP λk l n f a d=>by
  obtain⟨e,g,h,i,j⟩:=a;show am d λa d=>?_;have f:(#[e,g,h,i,j]:aM).TypeIs (.ref b) "list_iterator":=as _ a V;have a:=EV.lookup;have a:=EU;have a:=ES;have a:=Np;have a:=Nq;unfold Builtin.«object.__getattribute__»
  repeat(any_goals (first|assumption|wp_step))
  show sf ET.plain No<|ET.check _ _ _ _ _ _ _ _ (Nu _) (Nt _ _ _) ?_;show dq (Nr f (bM:=λa f=>a=.done (.ret<| .ref e.objs.size)/\f=#[e.push<|ge b,g,h,i,j]) #[V,V]) ?_<|λk k l=>l;intro a f b;show j4 b ?_
  repeat(any_goals (first|assumption|wp_step))
  show as _ V d
def zA:Slot "list_iterator" "__getattribute__" "object.__getattribute__":=
 .of (owner:="object") (n:="__getattribute__") (by rw[kd];mspec ke;room) (by decide+kernel) (by decide+kernel) (by decide+kernel)
  (by first|show .inl (by decide+kernel)|show .inr<|by decide+kernel) (by rw[lF];room)
def Nw:lz (.type "list_iterator") "__getattr__"=pure c:=by rw[kd];mspec ke;room
def Nx:uM table "object.__getattribute__"=O Builtin.«object.__getattribute__»:=uN (by room)
def Ny (a b:a3):nb "object.__getattribute__" #[[a,b],[]]:=by unfold nb;room
def Nz
 (d:b.heap.get? m=O (fa ag L))
 (e:∀a,n (.ref b.heap.objs.size) {b with heap:=b.heap.push<|ge m,toks:=a}):
 ar (b2 o r) w (kf (.ref m) "__next__" z) n x b:=by
 obtain⟨f,g,h,a,i⟩:=b;have b:∀j,(#[f,g,h,j,i]:aM).TypeIs (.ref m) "list_iterator":=λf=>as _ d V;have f:=zA.lookup;have f:=zA.bind<| .ref m;have f:=Nw;unfold kf getAttrBy
 repeat(any_goals (first|assumption|show b _|((with_reducible show ar _ _ (dU (se "object.__getattribute__") _ _) _ _ _);show ya zA (b _) Nx (Ny _ _) (Nv m ag L _) #[d,?_])|wp_step))
 have h':=e<|a+1;show(?_:ar (b2 o r) w (handedOut _) n x _);unfold handedOut
 repeat(any_goals (first|assumption|wp_step))
section
variable {cY:i5}{bp:fd}{aJ:cV}{bv:bX}{aa:aM}
def NA (d:aa.heap.IsList b o)
 (e:n (.ref aa.heap.objs.size) {aa with heap:=aa.heap.push<|fa b 0}):ar (b2 cY bp) aJ (dU (.builtin "iter") [.ref b]) n bv aa:=by
 show call_function_entry (by decide+kernel) (by decide+kernel) kdk_entry_iter (kdk_args_iter _) ?_;unfold Builtin.«iter»;show ap (m:=someArgs "iter" 1 2 _) (CP (a:=[na b]) (by first|rfl|kernel_rfl!) ?_);show ap<|xH d<|ba<|as _ V e
def NB:(match yp "list_iterator.__next__" with|some b=>∀a,JY "list_iterator.__next__" b #[[a],[]]=pure ()|none=>True):=by
 intro a;room
def NC:builtinKind "list_iterator.__next__"=O .slot:=by decide+kernel
def ND {b:lo}(d:b () aa):ar (b2 cY bp) aJ (yq "list_iterator.__next__" #[[.ref m],[]]) b bv aa:=by
 have a:=NB;unfold yq;cases hs:yp "list_iterator.__next__" with
 |none=>show ba d|some b=>
  rw[hs]at a;dsimp only at a ⊢;mspec NC;dsimp only;mspec if_pos (by decide);mspec a<| .ref m;show ap<|ba<|ba d
def EW (f:aa.heap.get? b=O (ge m))
 (g:ar (b2 cY bp) aJ.in1 (Builtin.«list_iterator.__next__» #[[.ref m],[]]) (λd e=>∃a,d=.done (.ret a)/\n a e) bv aa):
 ar (b2 cY bp) aJ (dU (.ref b) []) n bv aa:=by
 show hS<|CO ?_;show(?_:ar _ aJ.in1 (callAny (.ref b) #[[],[]]) _ _ aa);unfold callAny;show ap<|sg f ?_;show yt H ?_;show yt H ?_;show ap ?_;show ND<|ba #[uR EV.plain _,pe entry_listiter_next ?_];rw[zB EV.plain];show dq g (λd e b=>aX b λa h i=>?_) λa a b=>b;subst h;show i
def NE (d:aa.heap.get? o=O (ge b))(a:aa.heap.get? b=O (fa m n))(e:aa.heap.IsList m r)(f:r[n]?=O ae)
 (g:∀h',h'.get? b=O (fa m<|n+1)->ia b aa.heap h'->w ae {aa with heap:=h'}):ar (b2 cY bp) aJ (dU (.ref o) []) w bv aa:=by
 show EW d ?_;show v e λh d=>?_;show cd d λe i h=>?_;show v h λi d=>?_;show(?_:ar _ _ (field (.ref b) 0 >>= _) _ _ aa);show ap<|vK a V (x:=.ref m) V ?_;mspec if_neg (show ¬((na m==nX)=z)from pn);show ap<|vK a V (x:=.int n 0) V ?_;show ap<|vJ e d ?_;dsimp only;mspec vL _;mspec f;dsimp only;show ap (wpAny_setField a V (by simp)<|ba<|as ae V<|g _ ?_ (jh ..));mspec nc _ a<|EX<|NF V _;simp[d4,q5]
def NG (h:aJ.handled=c)(i:aa.heap.get? B=O (ge n))(d:aa.heap.get? n=O (fa r w))(j:aa.heap.IsList r M)(k:M[w]?=c)
 (l:∀f h' g,ia n aa.heap f->(∃o,f.get? n=O o)->zh f h' g (.type "StopIteration") []->bv (.ref g) {aa with heap:=h'}):ar (b2 cY bp) aJ (dU (.ref B) []) S4 bv aa:=by
 show EW i ?_;show v j λg f=>?_;show cd f λg j i=>?_;show v i λj f=>?_;show(?_:ar _ _ (field (.ref n) 0 >>= _) _ _ aa);show ap<|vK d V (x:=.ref r) V ?_;mspec if_neg (show ¬((na r==nX)=z)from pn);show ap<|vK d V (x:=.int w 0) V ?_;show ap<|vJ g f ?_;dsimp only;mspec vL _;mspec k;dsimp only;show ap (sd<|ap<|wpAny_setField d V (by simp) ?_);show ap ?_;simp only[newExc,sC];show ap (uq ?_<|by size_fits);show ap (m:=firstArgMember _ _) (CP (a:=nX) (by first|rfl|(simp only[firstArgMember];rfl)) ?_);show uq ?_ (by size_fits);show ap<|wpAny_handled ?_;mspec show aJ.in1.handled=c from h
 show ap<|ba<|wpAny_throw ?_;show l (aa.heap.update n<|q5<|λf=>f.setIfInBounds 0 nX) _ _ (jh ..) #[_,(nc (q5<|λf=>f.setIfInBounds 0 nX) d<|EX<|NF (vs:=(aRR [.ref r,.int w 0])) V _)] #[λb o d=>gk _<|gk _ d,?_,_,dL _ e,d3,gk _<|dL _ e];show qk (by simp[aW.push])
end
section
variable {Y:bc}{I:aO}
def u.pv (a:u I Y m)(d:(b,n)∈Y.D)(e:ia b m h')(r:bG Y.d (l h' Y.X) h' b ex):u I #[Y.d,Y.n,Y.J,Y.X,Y.p,cj Y.D b ex] h':=by
 show gi (a.vr (ex:=ex) d) λf g h i=>?_;mspec i;have d:u I #[Y.d,Y.n,Y.J,Y.X,Y.p,f++(b,n)::g] m:=by show ch h ?_;show a
 show d.kV e r
def u.pw (a:u I Y b)(d:(m,n)∈Y.D)(e:ia m b h'):E (l h' Y.X) (l b Y.X):=qJ e (a.D _ d).1
def EY (a:u I Y m.heap)(v:(b,.val (.ref ac))∈Y.p)(hd:(b==("__debug__":i))=aj)(A:(b==("__classdict__":i))=aj)
 (g:(ac,.list (ds++[af]))∈Y.D) (J:ds.length<aC)
 (C:eval (.Call (.Attribute (.Name b B) "pop" M) [] [] o) Y.J=(do
  let S4 <-eval (.Name b B) Y.J
  ep M.atName
  let(S6,first) <-e5 [S4] (gK S4 "pop" ij)
  dO o S6 first (cX o<|bf [] Y.J) []))
 (D:∀e h',u I #[Y.d,Y.n,Y.J,Y.X,Y.p,cj Y.D ac<| .list ds] h'->a9 Y.d (l h' Y.X) e af->S5 e {m with heap:=h'}):ar Y.d.M w (eval (.Call (.Attribute (.Name b B) "pop" M) [] [] o) Y.J) S5 x m:=by
 show aX (a.d8 _ v) λe d p=>?_;show jO (pl:=ij) (xt ?_ hd) C;have j:ar Y.d.M w (gK e "pop" ij) (λb v=>ar Y.d.M w (dO o b.1 b.2 (cX o<|bf [] Y.J) []) S5 x v) x m:=by
  show fD.list (Y:=Y) (r:=.val<| .ref ac) (ds:=ds++[af]) (aq.D g) PySem.F.slot_list_pop PySem.F.type_list_pop w m _ x e ij a.tocU p ?_;obtain rfl:=p.is;obtain⟨b,⟨n,q⟩,E⟩:=(a.D _ g).2.ey;obtain⟨k,b,rfl,s,F⟩:=E.split;obtain⟨h,rfl,G⟩:=F.one;show PySem.P.pop_list (items:=(k++[h]).toArray) (n:=n) (y:=h) q (by simp) ?_ (by simp;mspec s.length;assumption);have b:ia ac m.heap (m.heap.update ac<|jn λe=>e.eraseIdxIfInBounds<|(k++[h]).toArray.size - 1):=jh ..;have e:=a.pw g b;show D h _ (a.pv g b<| .list (a1:=k) #[n+1,?_]<|s.keep e)<|G.keep e;mspec nc _ q V;simp[jn,NH]
 rcases d with⟨f,b,H,d⟩|⟨e,f|f,d,t⟩
 .show t4 a.kind f H d j
 .show BI a.kind f d t j
 .show BJ a.kind f d t j A
noncomputable def ny (bE:be)(s:i):be:=bE.filter λa=>decide (a.1≠s)
def EZ (d:i){b:List (i×a3)}:∀{a:be},b.map (·.1)=a.map (·.1)->aN m n (b.map (·.2)) (a.map (·.2))->
 (without b d).map (·.1)=(ny a d).map (·.1)/\aN m n ((without b d).map (·.2)) ((ny a d).map (·.2)):=by
 unfold without ny
 induction b with
 |nil=>intro a I _;cases a with
  |nil=>show#[V,.nil]|cons _ _=>cases I
 |cons e b j=>intro a I r;cases a with
  |nil=>cases I
  |cons f a=>
   show am (oP I) λh a=>?_;show f4 r.hy λb b d k r=>?_;show am (oP d) λl b=>?_;have g:=j a<|b▸r;mspec sR;mspec sR;mspec show e.1=f.1 from h
   split
   .show#[by mspec b7;mspec b7;mspec g.1;show aI (show e.1=f.1 from h) V,.cons (show a9 m n e.2 f.2 from(show e.2=_ from l).symm▸k) g.2]
   .show g
def NI {a:T}(f:u I Y m.heap)(g:(a,.bN bE)∈Y.D)(j:bE.length<=aC)(k:(bE.lookup b).isSome=z)
 (l:∀h' d,u I #[Y.d,Y.n,Y.J,Y.X,Y.p,cj Y.D a<| .bN<|ny bE b] h'->n () {m with heap:=h',toks:=d}):ar Y.d.M r (delItem (.ref a)<| .str b o) n w m:=by
 show gj ((f.D _ g).2.mc) λm p d e h=>?_;unfold delItem
 try with_reducible show g6 ?_
 show ap (wpAny_sequenceKey d.typeIs (by decide) ?_);show ap (NJ (name:=jr "__delitem__") d.typeIs NK
  (yb NK d.typeIs PySem.F.entry_dict_delitem (PySem.F.args_dict_delitem_2 _ _) (meets_dict_delitem_pairs (strKind Y.d.prog Y.d.w) a<|o4 Y.d.prog Y.d.w b o)<|l7 m d ?_ ?_<|λh' q i=>?_))
 .have:=congrArg fN e;simp at this;show a5 (ay this) j
 .rw[aN.isSome e h];show k
 .show ba<|l h' _<|f.pv g i<| .bN p q ?_ ?_
  .show(EZ b e h).1
  .show((EZ b e h).2).keep<|f.pw g i
end
section
variable {Y:bc}{I:aO}
abbrev jT (U:aV)(o:dF)(aB:i->Bool)(n:Nat):Prop:=o.SetObjOf (strKind U.prog U.w) aB n
def aS.NL (f:R Y (.Name m n) (.val<| .type "set"))
 (h:eval (.Call (.Name m n) [] [] pos) Y.J=(do dO pos (<-eval (.Name m n) Y.J) [] (cX pos<|bf [] Y.J) (jH pos<|jI [] Y.J))):
 aS Y I (.Call (.Name m n) [] [] pos) (λg i j=>∃a o,a∉Y.X/\a∉I.cB/\g=a::Y.X/\i=(a,.aG o)::Y.D/\j=.val (.ref a)/\jT Y.d o (λk=>aj) 0):=.mk λg i m j k d l=>
 jb (f.go g i _ j k.todz d.tocU λm b n p q=>by
  obtain rfl:=q.is;have f:=d.keep p;show callWith_type0<|call_set_0 λg=>?_;have d:=f.iG<|d3 (al:=b);have i:=(f.gI d3 #[_,dL b (o:={cls:=.type "set",dict:=c,data:=.set (aRR []) 0<| .fresh 0 0 g}) e]<|E.push _ _).ih (af:=.aG _) ao (.aG<|dL _ e) d.2.2.1 (show b.objs.size∉d5 #[Y.d,Y.n,Y.J,b.objs.size::Y.X,Y.p,Y.D]from d.1);show l _ _ .up #[_,_,_,(tY b.objs.size _ d.2.1 d.2.2.2 V rfl rfl (setObjOf_fresh g)),λa f=>A f,i,.val _]) h
def E0 (a:i)(b:fg):(sQ a b).scannable=z:=H
def av.zC (b:(m,.aG o)∈Y.D)(d:jT Y.d o aB n)(g:n<4000):av Y .In (.str s) (.val<| .ref m) (aB s):=.mk λj e k l m p q f g h i=>by
 show v g.dN λa j=>?_;show bw j ?_;obtain rfl:=h.is;show wpAny_inSet_of (o4 _ _ s a) (E0 s a) (d.setOf ((f.D _ b).2.kk) (by unfold zD;show b0))<|i e.heap _<|E.bd _
def S.NM (x:R Y arg (.str s))(y:R Y o (.val<| .ref ac))
 (g:(ac,.aG E1)∈Y.D) (j:jT Y.d E1 aB n) (k:n<4000) (A:mq Y.J=aj) (B:f7 (.Call (.Attribute o "add" r) [arg] [] m) c pos.line Y.J=pure aj)
 (i:bf [arg] Y.J=(aj,eval arg Y.J)::bf [] Y.J)
 (C:eval (.Call (.Attribute o "add" r) [arg] [] m) Y.J=(do
  let w <-eval o Y.J
  ep r.atName
  let(M,first) <-e5 [w] (gK w "add" S4)
  dO m M first (cX m<|bf [arg] Y.J) []))
 (D:∀a,jT Y.d a (λd=>aB d||decide (d=s)) (if aB s then n else n+1)->S I #[Y.d,Y.n,Y.J,Y.X,Y.p,cj Y.D ac<| .aG a] b S5):
 S I Y (.Expr (.Call (.Attribute o "add" r) [arg] [] m) pos::b) S5:=
 S.cons (au:=λl=>∃a,jT Y.d a (λd=>aB d||decide (d=s)) (if aB s then n else n+1)/\u I #[Y.d,Y.n,Y.J,Y.X,Y.p,cj Y.D ac<| .aG a] l) (.mk λp m q t f=>by
  show od (jO (pl:=S4) (y.go p m _ q t.todz f.tocU λo E d F G=>?_) C) A B;obtain rfl:=G.is;have d:=f.keep F;show getMethod_set_add (j.setOf (h:=E) (d.D _ g).2.kk (by unfold zD;show dG k H))<|mh (first:=[.ref ac]) ((W.cons x W.nil i).go p _ _ q t.todz d.tocU λy r A w m=>?_) i e;show v m.one λp i=>?_;show ci i λp=>?_;show v p.dN λm i=>?_;show bw i ?_;have i:=d.keep w;show call_set_add (o4 _ _ s m) (E0 s m) (j.setOf (h:=r) (i.D _ g).2.kk (by unfold zD;show dG k H)) (by unfold zD;show gu) λh' j k=>#[.up,?_];show aX k.objOf λa m d=>?_;show as a d<|i.pv g j<| .aG m) λl k=>aX k λa d f=>eO #[Y.d,Y.n,Y.J,Y.X,Y.p,cj Y.D ac<| .aG a] I V rfl rfl rfl rfl f (D a d)
def aS.NN (s:R Y (.Name m n) (.val<| .builtin "iter"))(t:R Y arg (.val<| .ref ag))(u:(ag,.list ds)∈Y.D)
 (g:bf [arg] Y.J=(aj,eval arg Y.J)::bf [] Y.J)
 (x:eval (.Call (.Name m n) [arg] [] b) Y.J=(do dO b (<-eval (.Name m n) Y.J) [] (cX b<|bf [arg] Y.J) (jH b<|jI [] Y.J)))
 (y:eval (.Attribute (.Call (.Name m n) [arg] [] b) "__next__" w) Y.J=(do
  let o <-eval (.Call (.Name m n) [arg] [] b) Y.J
  ep w.atName
  let r <-e5 [o] (kf o "__next__" z)
  xy (.Call (.Name m n) [arg] [] b) o r
  pure r)):
 aS Y I (.Attribute (.Call (.Name m n) [arg] [] b) "__next__" w) (λB C D=>∃d f,B=f::d::Y.X/\C=(f,.aG (ge d))::(d,.aG (fa ag 0))::Y.D/\D=.val (.ref f)):=.mk λh i b j k l F=>
 Attribute_any_ (jb (s.go h i _ j k.todz l.tocU λr G H J K=>by
  obtain rfl:=K.is;have p:=l.keep J;show mh (first:=[]) ((W.cons t W.nil g).go h {i with heap:=G,toks:=H} _ j k.todz p.tocU λd a f M b=>?_) g e;show v b.one λr d=>?_;show ci d λN=>?_;obtain rfl:=N.is;have b:=p.keep M;show aX ((b.D _ u).2.ey) λf d g=>?_;show NA (PlainList.fV d) ?_;have d:=b.iG<|d3 (al:=a);have q:=(b.gI d3 #[_,dL a (o:=fa ag 0) e]<|E.push _ _).ih (af:=.aG<|fa ag 0) ao (.aG<|dL _ e) d.2.2.1 (show a.objs.size∉d5 #[Y.d,Y.n,Y.J,a.objs.size::Y.X,Y.p,Y.D]from d.1);show Nz (ag:=ag) (L:=0) (dL _ e) λb=>?_;generalize b:a.push (fa ag 0)=h₃ at*;have b:=q.iG<|d3 (al:=h₃);have d:=(q.gI d3 #[_,dL h₃ (o:=ge a.objs.size) e]<|E.push _ _).ih (af:=.aG<|ge a.objs.size) ao (.aG<|dL _ e) b.2.2.1 (show h₃.objs.size∉d5 #[Y.d,Y.n,Y.J,h₃.objs.size::a.objs.size::Y.X,Y.p,(a.objs.size,.aG (fa ag 0))::Y.D]from b.1);show F _ _ .up #[_,_,_,(f5 a.objs.size h₃.objs.size V rfl rfl),λf b=>A<|A b,d,.val _]) x) y
end
def NO {f:aM}{kr al:aW}{env:b1}{h a:T}{args:cv}{i:lo}
 (p:r.frames=O (env::m)) (j:env.frame=O h) (k:kr.StaysIn al) (q:al.FunFrames kr (env::m)) (d:zh al f.heap a w args)
 (s:∀h' g,aW.HeldW kr (env::m) a w (.ref g) h h'->f.heap.UpToSlots h'->i () {f with heap:=h'}):ar B r (uf (.ref a) env) i M f:=by
 show g3 d.there λg l f h=>?_;have n:∀b,al.get? b=c->kr.get? b=c:=λb e=>by
  cases hq:kr.get? b with
  |none=>rfl|some t=>have:=k b t hq;replace this:=e▸this;cases this
 unfold uf;simp only[j];show ap<|vK l V (x:=.none) V ?_;mspec if_neg (by decide);show wpAny_entryW p (q.of_keeps λb o e f=>as o (d.keeps b o e) V) j l (λb o e=>d.keeps b o<|k b o e) (n a d.new) V (by simp) (a0:=.ref g) V λh' e=>?_;show iQ e λf h i j=>?_;show s h' g (l6 f (n a d.new) h i) j
section
variable {Y:bc}{I:aO}
def S.NP (D:aS Y I arg w)(E:R Y o (.val<| .ref ac))
 (F:(ac,.list ds)∈Y.D) (G:ds.length<=aC) (H:mq Y.J=aj) (J:f7 (.Call (.Attribute o "append" r) [arg] [] m) c pos.line Y.J=pure aj)
 (p:bf [arg] Y.J=(aj,eval arg Y.J)::bf [] Y.J)
 (K:eval (.Call (.Attribute o "append" r) [arg] [] m) Y.J=(do
  let x <-eval o Y.J
  ep r.atName
  let(M,first) <-e5 [x] (gK x "append" S4)
  dO m M first (cX m<|bf [arg] Y.J) []))
 (q:∀a d f,w a d f->(∀ac∈Y.X,ac∈a)->(ac,.list ds)∈d/\S I #[Y.d,Y.n,Y.J,a,Y.p,cj d ac<| .list<|ds++[f]] b S5):
 S I Y (.Expr (.Call (.Attribute o "append" r) [arg] [] m) pos::b) S5:=
 S.cons (au:=λs=>∃a d f,w a d f/\(∀ac∈Y.X,ac∈a)/\u I #[Y.d,Y.n,Y.J,a,Y.p,cj d ac<| .list<|ds++[f]] s) (.mk λt y A B g=>by
  show od (jO (pl:=S4) (E.go t y _ A B.todz g.tocU λo L N P Q=>?_) K) H J;obtain rfl:=Q.is;have m:=g.keep P;show aX ((m.D _ F).2.ey) λC r j=>?_;show v r λn k=>?_;show CE k V rfl (mh (first:=[.ref ac]) (kP (D.go t {y with heap:=L,toks:=N} _ A B m λT r U W=>ly ?_) p) p e);obtain⟨a,d,f,h,i,l,X⟩:=W;show am (q a d f h i) λm p=>?_;show aX ((l.D _ m).2.ey) λC p j=>?_;show v p λn k=>?_;show us k (λh' p r=>#[(cs.up.trans U).trans .up,a,d,f,h,i,?_]) (by simpa[j.length]using G);show l.pv m p<| .list (a1:=C++[T]) #[n+1,by simpa using r]<|(j.append<| .cons X .nil).keep<|l.pw m p) λs k=>l4 k λa d f h i g=>eO #[Y.d,Y.n,Y.J,a,Y.p,cj d ac<| .list<|ds++[f]] I V rfl rfl rfl rfl g ((q a d f h i).2)
end
def NQ (g:n.heap.get? b=O (ge S5))(h:ar (b2 o w) x (dU (.ref b) []) S4 B n):
 ar (b2 o w) x (dO pos (.ref b) [] (cX pos<|bf [] env) []) S4 B n:=by
 unfold dO;show ap<|g6<|dq (evalArgs_nil3 (M:=b2 o w) (A:=x) (E:=B) (s:=n) (f:=.ref b) (Q:=λa d=>d.heap.get? b=O (ge S5)/\ar (b2 o w) x (dU (.ref b) ([]++a.pos) a.kw) S4 B d) #[g,h]) (λa d e=>ap<|jJ ?_) λd d a=>a;show ap (m:=yr<| .ref b) ?_;unfold yr;show ap<|sg e.1 ?_
 try dsimp only
 show ba ?_;show ap<|dq e.2 (λr g b=>ap<|g6<|wpAny_point<|ba b) λd d a=>a
section
variable {Y:bc}{I:aO}
def q6 (e:u I Y o){a d:j}(f:(m,a)∈Y.D)(g:(b,d)∈Y.D)(n:a≠d):m≠b:=λh=>by
 subst h;show n<|qS (qQ e.dr) f g
def u.slots {q keep:aD}(f:u I Y w)(M:Y.J.frame=O Y.J.locals)(N:Y.D.Perm (q++keep))(x:eb q m)(J:eu q)(s:∀b o,b∉c8 (Y.J::m)->w.get? b=O o->B.get? b=O o)(C:w.UpToSlots B):u I Y B:=by
 have y:c8 (Y.J::m)=Y.J.locals::c8 m:=by unfold c8;mspec r8;show aI M V
 have A:∀e∈q,e∈Y.D:=λe a=>N.mem_iff.mpr<|bI a;have P:∀b∈c8 (Y.J::m),b∈Y.X:=λb a=>by
  replace a:=y▸a;show gh a ?_ λa=>?_
  .show f.cn.1
  .show bB λk h=>?_;obtain⟨e,i,rfl⟩:=ck<|x.c8 b a;show h ?_;clear h k;show(f.D e<|A e i).1
 have Q:∀b∈c8 (Y.J::m),∀o,w.get? b=O o->∃p n,o.data=.dict p n:=λb a o j=>by
  replace a:=y▸a;show aw (a4 a) (λR=>?_) λa=>?_
  .obtain rfl:=R;show bB λk h=>?_;show oV f.ns λM S p T D hd M=>?_;show h ?_;clear h k;replace D:=j▸D;obtain rfl:=fU D;show dM p T hd
  .obtain⟨e,i,rfl⟩:=ck<|x.c8 b a;show eW (J e i) λS p n F G=>?_;have r:=(f.D e<|A e i).2;replace r:=F▸r;show v r.vz λH t=>?_;replace t:=j▸t;obtain rfl:=fU t;show dM p n G
 have K:E (l B Y.X) (l w Y.X):=λb o d=>by
  have w:b∉Y.X:=λa=>by show b5 (cT _ a) d
  show cb _ (s b o (λa=>w<|P b a)<|l.of _ _ d) w
 have L:∀b,b≠Y.J.locals->(∀e∈Y.D,e.1≠b)->b∉c8 (Y.J::m):=λb U W a=>by
  replace a:=y▸a;show aw (d1 a) (λa=>?_) λa=>?_
  .show U a
  .show aX (ck<|x.c8 b a) λe i d=>?_;show W e (A e i) d
 show u.frame f K (λb a=>by
  show v (f.cw b a) λo j=>?_;by_cases g:b∈c8 (Y.J::m)
  .show bB λk h=>?_;show cm (Q b g o j) λp n hd=>?_;show h ?_;clear h k;obtain⟨H,X⟩:=C b o j λZ d=>by replace d:=hd▸d;cases d
   show dm _ X
  .show dm o<|s b o g j) f.cn.1 f.cn.2 f.sub (λa w=>C.ns w) (λe i o j=>s _ o (L _ (f.ft e i) λd w=>(f.cM d w).2.2 e i) j) (λb o d=>s b o (L b (λg=>by replace d:=g▸d;replace d:=f.new.1▸d;cases d) λe i g=>by replace d:=g▸d;replace d:=((f.cM e i).1)▸d;cases d)<|f.db b o d) (λe a=>by
  show am (f.D e a) λb r=>?_;show#[b,?_];by_cases g:e.1∈c8 (Y.J::m)
  .have S4:e∈q:=by
    replace g:=y▸g;show aw (d1 g) (λg=>?_) λg=>?_
    .show absurd g (f.cM e a).2.1
    .show bB λk h=>?_;show aX (ck<|x.c8 _ g) λb i d=>?_;show h ?_;clear h k;show(show e=b from Prod.ext d.symm<|qS (ac:=e.1) (af:=e.2) (ex:=b.2) (qQ f.dr) a<|d▸A b i)▸i
   show bB λk h=>?_;show eW (J e S4) λo p n F G=>?_;show h ?_;clear h k;rw[F]at r ⊢;show v r.vz λH t=>?_;obtain⟨a,S5⟩:=C _ _ t λZ d=>by replace d:=(show({o with slots:=H}:dF).data=o.data from rfl)▸d;replace d:=G▸d;cases d
   show .frame S5
  .show r.lw K λo j=>s _ o g j) f.cM f.dr
def NR (e:own.Perm (b++keep))(i:eu b)(k:own.Pairwise λl m=>l.1≠m.1){a:T}{d ex:j}(n:(a,d)∈own)(hd:∀o,d≠ .frame o):(cj own a ex).Perm (b++cj keep a ex):=by
 have f:(cj own a ex).Perm (cj (b++keep) a ex):=e.map _;rw[DV,za (ag:=b) λg h p=>?_]at f
 .show f
 .show eW (i g h) λo b f a l=>?_;have:=qS (af:=g.2) (ex:=d) (qQ k) (e.mem_iff.mpr<|bI h)<|p▸n;rw[a]at this;show hd o this.symm
def g.NS (Tk:aR Tl)(Tm:Y.d=Tl){ag:List b1}{cE keep:aD}(Tn:I.cQ=O ag)(D:Y.J.frame=O Y.J.locals)(To:Y.D.Perm (cE++keep))(S:eb cE ag)(U:eu cE)
 {bE:be} {W Z:ib Bool} (s:fO Y.J S4) (Tp:R Y B (.val<| .ref gC))
 (Tq:(gC,.aG (ge cz))∈Y.D) (f:(cz,.aG (fa gE L))∈Y.D) (Tr:(gE,.list vM)∈Y.D) (E:(nz,.list (dW++[.str ow]))∈Y.D) (t:(q7,.bN bE)∈Y.D) (F:(gf,.list (vN++[.val<| .ref gC]))∈Y.D)
 (Ts:nz≠gf) (T1:nz≠gE) (T2:gf≠gE) (Tt:(r,.val (.ref nz))∈Y.p) (Tu:(S5,.val (.ref q7))∈Y.p) (Tv:(m,.val (.ref gf))∈Y.p)
 (Tw:(r==("__debug__":i))=aj) (Tx:(r==("__classdict__":i))=aj) (Ty:(S5==("__debug__":i))=aj) (Tz:(S5==("__classdict__":i))=aj) (TA:(m==("__debug__":i))=aj) (TB:(m==("__classdict__":i))=aj)
 (T3:dW.length<1000) (T4:vN.length<1000) (T5:bE.length<=1000) (TC:(bE.lookup ow).isSome=z) (TD:mq Y.J=aj)
 (TE:Y.J.kindOf "StopIteration"=O .globalImplicit) (TF:Y.J.globals=hQ) (TG:Y.J.builtins=x8)
 (TH:eval (.Call B [] [] w) Y.J=(do dO w (<-eval B Y.J) [] (cX w<|bf [] Y.J) (jH w<|jI [] Y.J)))
 (TI:eval (.Call (.Attribute (.Name r Ta) "pop" Tb) [] [] S6) Y.J=(do
  let x <-eval (.Name r Ta) Y.J
  ep Tb.atName
  let(S7,first) <-e5 [x] (gK x "pop" W)
  dO S6 S7 first (cX S6<|bf [] Y.J) []))
 (TJ:eval (.Call (.Attribute (.Name m S8) "pop" S9) [] [] M) Y.J=(do
  let x <-eval (.Name m S8) Y.J
  ep S9.atName
  let(S7,first) <-e5 [x] (gK x "pop" Z)
  dO M S7 first (cX M<|bf [] Y.J) []))
 (TK:f7 (.Call B [] [] w) (O<| .Name S4 TL) TM.line Y.J=pure aj) (TN:f7 (.Call (.Attribute (.Name m S8) "pop" S9) [] [] M) c TO.line Y.J=pure aj)
 (TP:∀y d,vM[L]?=O y->u I #[Y.d,Y.n,Y.J,Y.X,bj S4 y Y.p,cj Y.D cz<| .aG<|fa gE<|L+1] d->Tc .brk d)
 (TQ:∀a d,vM[L]?=c->u I #[Y.d,Y.n,Y.J,Y.X,Y.p,cj (cj (cj (cj Y.D cz<| .aG a) nz<| .list dW) q7<| .bN<|ny bE ow) gf<| .list vN] d->Tc .next d):
 g Y I (.Try [.Assign [.Name S4 TL] (.Call B [] [] w) TM,.Break T6] [.ExceptHandler (O<| .Name "StopIteration" T7) c [.Delete [.Subscript (.Name S5 T8) (.Call (.Attribute (.Name r Ta) "pop" Tb) [] [] S6) T9] Ua,.Expr (.Call (.Attribute (.Name m S8) "pop" S9) [] [] M) TO] Ub] [] [] pos) Tc:=by
 subst Tm;show .mk λTd Te r G e=>?_;show wpAny_Try_except ?_;show mn<|pb (jb (Tp.go Td Te _ _ G.todz e.tocU λJ r TR TS TT=>?_) TH) TK;obtain rfl:=TT.is;have l:=e.keep TS;have K:=(l.D _ Tq).2.kk;have Tf:=(l.D _ f).2.kk;show aX ((l.D _ Tr).2.ey) λTU Tg Th=>?_;show NQ K ?_;cases hi:vM[L]? with
 |some y=>
  show bB λq h=>?_;show aX (Th.get hi) λr N w=>?_;show h ?_;clear h q;show NE K Tf (PlainList.fV Tg) (ae:=r) (by simpa using N) λh' x p=>?_;show u.gn (Y:=#[Y.d,Y.n,Y.J,Y.X,Y.p,cj Y.D cz<| .aG<|fa gE<|L+1]) (aa:={Te with heap:=h',toks:=TR}) (l.pv f p (ex:=.aG<|fa gE<|L+1)<| .aG x) s (w.keep<|l.pw f p) λr M A A A A B=>?_;show mn<|wpAny_Break #[.up,TP y r hi B]
 |none=>
  have TV:TU.toArray[L]?=c:=by
   simp only[BR,BV];show Th.length▸(BV.mp hi)
  show NG (aJ:=Td) G.todz.handled K Tf (PlainList.fV Tg) TV λj w x p r=>v r λa w s=>?_;have P:u I #[Y.d,Y.n,Y.J,Y.X,Y.p,cj Y.D cz<| .aG a] j:=(l.pv f p (ex:=.aG a)<| .aG w);have Ti:=NR To U e.dr (ex:=.aG a) f (by intro o m;cases m);have TW:jp j (Y.J::ag):=λenv Q=>by
   show aw (a4 Q) (λTX=>?_) λQ=>?_
   .obtain rfl:=TX;show bB λq h=>?_;show oV P.ns λl o r w x hd A=>?_;show h ?_;clear h q;show#[by have:=e.kind;mspec this;decide,_,o,r,w,D,x,hd]
   .show(S.frames λr l=>(P.D r<|(λr l=>Ti.mem_iff.mpr<|bI l) r l).2) env Q
  have w:∀r∈c8 (Y.J::ag),(cq j<|c8<|Y.J::ag).get? r=c:=λr l=>cT _ l;have l:∀d,(cq j<|c8<|Y.J::ag).StaysIn d->j.UpToSlots d->u I #[Y.d,Y.n,Y.J,Y.X,Y.p,cj Y.D cz<| .aG a] d:=λd p N=>
   P.slots D Ti S U (λr o n m=>p _ _<|cb _ m n) N
  show NO (kr:=cq j<|c8<|Y.J::ag) (al:=j) (G.pa ag Tn) D (λr o m=>fe _ m) (TW.zg w) s λd p r x=>?_;show wpAny_landsW r λp d w=>?_;have r:j.UpToSlots p:=((L3 s.keeps).trans x).trans w;show bB λq h=>?_;show aX d.there λj s w=>?_;show h ?_;clear h q;show wpAny_handleBy_builtin (X:="StopIteration") (T:="StopIteration") (b:=z) (by rw[lF];room) (by rw[lF];room) isSubtype_stop (Tk.vA (Y:=#[Y.d,Y.n,Y.J,Y.X,Y.p,cj Y.D cz<| .aG a]) V (l p d.1 r).tocU (by room) (by decide+kernel) (k H) TE TF TG (k H) #[V,(as j s w),?_]);mspec if_pos H;show lands_againW d λh j p=>?_;have Tj:=l h j.1<|r.trans p;have TY:cz≠gf:=q6 e f F (by intro m;cases m);have TZ:nz≠q7:=q6 e E t (by intro m;cases m);have T0:gf≠q7:=q6 e F t (by intro m;cases m);show mn<|wpAny_Delete<|NT<|NU<|Et (Y:=#[Y.d,Y.n,Y.J,Y.X,Y.p,cj Y.D cz<| .aG a]) Tj.tocU Tu Ty Tz λJ C=>?_;obtain rfl:=C.is;show EY (Y:=#[Y.d,Y.n,Y.J,Y.X,Y.p,cj Y.D cz<| .aG a]) (I:=I) (ij:=W) (ds:=dW) (af:=.str ow) (ac:=nz) Tj Tt Tw Tx (nl E (q6 e f E (by intro m;cases m)).symm) (by unfold aC;show b0) TI λJ h d C=>?_;show v C.dN λj h=>?_;show bw h ?_;show NI (Y:=#[Y.d,Y.n,Y.J,Y.X,Y.p,cj (cj Y.D cz<| .aG a) nz<| .list dW]) (I:=I) (bE:=bE) d (nl (nl t (q6 e f t (by intro m;cases m)).symm) TZ.symm) (by unfold aC;show b0) TC λe f d=>?_;show NV (mn<|od (EY (Y:=#[Y.d,Y.n,Y.J,Y.X,Y.p,cj (cj (cj Y.D cz<| .aG a) nz<| .list dW) q7<| .bN<|ny bE ow]) (I:=I) (ij:=Z) (ds:=vN) (af:=.val<| .ref gC) (ac:=gf) d Tv TA TB (nl (nl (nl F TY.symm) Ts.symm) T0) (by unfold aC;show b0) TJ λJ d e C=>?_) TD TN);show rX #[.up,TQ a d hi e]
end
abbrev hZ:=List<|i×Nat
noncomputable def iq (bZ:dk):hZ->Option (i×hZ)
 |[]=>c|(ow,L)::r=>match(et bZ ow)[L]? with
  |some af=>O (af,(ow,L+1)::r)|none=>iq bZ r
def zE {e:dk}{a b:i}{d:Nat}{r:hZ}(f:(et e a)[d]?=O b):iq e ((a,d)::r)=O (b,(a,d+1)::r):=
 congrArg (λg:Option i=>(match g with|some b=>O (b,(a,d+1)::r)|none=>iq e r:Option (i×hZ))) f
def zF {a:dk}{b:i}{d:Nat}{r:hZ}(e:(et a b)[d]?=c):iq a ((b,d)::r)=iq a r:=
 congrArg (λf:Option i=>(match f with|some g=>O (g,(b,d+1)::r)|none=>iq a r:Option (i×hZ))) e
noncomputable def cr (a:hZ):ak:=a.reverse.map (·.1)
noncomputable def zG (bZ:dk)(aQ:i->hZ->ak->Option (ak ⊕ak))(a:i)(b:hZ)(d:ak):Option (ak ⊕ak):=
 if a∈d then
  if a∈cr b then O (.inl<|(cr b).drop ((cr b).idxOf a)++[a])
  else match iq bZ b with
   |none=>O<| .inr d
   |O (af,e)=>aQ af e d
 else match iq bZ ((a,0)::b)with
  |none=>O<| .inr<|a::d
  |O (af,e)=>aQ af e<|a::d
noncomputable def jU (bZ:dk):Nat->i->hZ->ak->Option (ak ⊕ak)
 |0,_,_,_=>c|s+1,b,d,a=>zG bZ (λaf e a=>jU bZ s af e a) b d a
noncomputable def lU (bZ:dk)(s:Nat):ak->ak->Option (Option ak)
 |[],_=>O c|n::r,a=>if n∈a then lU bZ s r a else match jU bZ s n [] a with
  |none=>c|O (.inl b)=>O<|O b
  |O (.inr d)=>lU bZ s r d
noncomputable def k8 (bZ:dk):Option (Option ak):=lU bZ 1000 (cP bZ) []
noncomputable def ox:Option ak->j
 |none=>.none|some ag=>.list<|ag.map .str
structure jV where
 K:i
 k9:Nat
 M:T
 js:T
 cD:T
noncomputable abbrev ct (a:List jV):hZ:=a.map λaQ=>(aQ.K,aQ.k9)
noncomputable def jW:List jV->aD
 |[]=>[]|aQ::r=>(aQ.M,.aG (ge aQ.js))::(aQ.js,.aG (fa aQ.cD aQ.k9))::jW r
def E2 {a:jV}{r:List jV}:jW (a::r)=(a.M,.aG (ge a.js))::(a.js,.aG (fa a.cD a.k9))::jW r:=rfl
noncomputable def fQ (hg:ak):be:=hg.zipIdx.map λai=>(ai.1,.int ai.2)
structure la where
 jt:T
 fR:T
 iN:T
 lb:T
noncomputable abbrev oy (aB:la)(a:List jV)(o:dF)(b:aD):aD:=(aB.jt,.list ((cr<|ct a).map .str))::(aB.fR,.list (a.reverse.map λaQ=>.val<| .ref aQ.M))::(aB.iN,.aG o)::(aB.lb,.bN (fQ<|cr<|ct a))::b
noncomputable abbrev eg (aB:la)(a:List jV)(o:dF)(b:aD):aD:=jW a++oy aB a o b
noncomputable abbrev ax.du (ah:ax)(a:dF):aD:=(ah.x,.aG (c1 192 ah.dc))::(ah.dc,.ns ah.attrs)::(ah.cp,.aG a)::(kn ah.bo++d9 ah.br)
noncomputable abbrev fZ (ah:ax)(aB:la):be:=[("n2i",.val (.ref ah.cp)),("stack",.val (.ref aB.jt)),("itstack",.val (.ref aB.fR)),("seen",.val (.ref aB.iN)),("node2stacki",.val (.ref aB.lb))]
def lc (a:i)(b:Nat)(r:hZ):cr ((a,b)::r)=cr r++[a]:=by simp[cr]
def E3 (a:ak)(b:i):fQ (a++[b])=fQ a++[(b,.int (a.length:Nat))]:=by simp[fQ,List.zipIdx_append]
def zH (a:ak):(fQ a).map (·.1)=a:=by
 unfold fQ;mspec d2;show List.zipIdx_map_fst 0 a
def E4 (a:ak):(fQ a).length=a.length:=by simp[fQ]
def NW (b:ak)(a:i):(fQ b).any (λe=>e.1=a)=decide (a∈b):=by
 mspec(show((fQ b).any λe=>decide (e.1=a))=((fQ b).map (·.1)).any (λf=>decide (f=a))from by rw[x3];rfl);rw[zH];by_cases d:a∈b
 .mspec decide_eq_true d;show ko.mpr (as a d<|by simp)
 .mspec decide_eq_false d;show(List.any_eq_false).mpr ?_;intro f g;simp;rintro rfl;show d g
def NX (a:ak)(b:i)(d:b∉a):ig (fQ a) b (.int (a.length:Nat))=fQ (a++[b]):=by
 unfold ig;rw[NW];mspec if_neg (by simp[d]);rw[E3]
def NY (a:ak)(b:i)(d:b∉a):ny (fQ<|a++[b]) b=fQ a:=by
 rw[E3];unfold ny;rw[rV];mspec DY (by simp);mspec NZ;rw[fj];show yj.mpr λb e=>?_;have:b.1∈a:=by show ch (zH a) ?_;show dI e
 simp;rintro rfl;show d this
theorem zI (a:i):∀(b:ak)(d:Nat),a∈b->((b.zipIdx d).map λh=>((h.1,.int h.2):i×j)).lookup a=O (.int<|(d+b.idxOf a:Nat))
 |[],_,g=>by cases g
 |e::b,d,g=>by
  mspec List.zipIdx_cons;mspec b7;mspec fB;by_cases f:a=e
  .subst f;simp
  .mspec(show(a==e)=aj from by simpa using f);dsimp only;mspec zI a b (d+1)<|(d1 g).resolve_left f;mspec sS;mspec(show(e==a)=aj from by simpa using λb:e=a=>f b.symm);simp;simp+arith
def zJ (a:ak)(b:i):((fQ a).lookup b).isSome=decide (b∈a):=by
 by_cases d:b∈a
 .unfold fQ;mspec zI b a 0 d;simp[d]
 .mspec decide_eq_false d;cases q:(fQ a).lookup b with
  |none=>rfl|some b=>show absurd (by show ch (zH a) ?_;show dI (f:=(·.1))<|mem_of_lookup q) d
theorem vO {k:Type}[DecidableEq k]:∀(d a:List k),a.Nodup->(∀e∈a,e∈d)->a.length<=d.length
 |[],a,_,g=>by
  cases a with
  |nil=>simp|cons f a=>cases g f ao
 |f::d,a,i,g=>by
  by_cases j:f∈a
  .have h:=vO d (a.erase f) (i.erase f) λe b=>by
    rw[i.mem_erase_iff]at b;show(d1<|g e b.2).resolve_left b.1
   rw[MC j]at h;have:0<a.length:=Jk j;simp;show bb [.C t N,.C G<| .Q t] 0 G (.Q N) H h<|eY<|cg<|a.length - 1
  .have h:=vO d a i λe b=>(d1<|g e b).resolve_left λa=>j<|a▸b;simp;show b9 [.C G N] 0 G (.Q N) H h
def zK (a:m∈b)(d:T×j)(e:d∈lM m):d∈d9 b:=by
 induction b with
 |nil=>cases a
 |cons d b f=>show(d1 a).elim (λb=>bI<|b▸e) λa=>bA<|f a
section
variable {Y:bc}{I:aO}
def aN.vC (r:aN m o n ds):(∀a∈ds,∃b,a=.val b)->aN m w n ds:=
 r.l8 (aB:=λn ds=>(∀a∈ds,∃b,a=.val b)->aN m w n ds) (λd=>.nil) λ{d a _ _} f _ g e=>.cons ((e _ ao).elim λb I=>by
  have h:d=b:=(show a9 m o d (.val b)from I▸f).is;show I▸h▸ .val d)<|g λa hd=>e a<|A hd
def S.du (d:Y.D=m++(ac,.bN bE)::n)(h:∀f∈bE.map (·.2),∃g,f=.val g)
 (i:∀o,(∀e a:aW,a.get? ac=O o->bG Y.d e a ac (.bN bE))->S I #[Y.d,Y.n,Y.J,Y.X,Y.p,m++(ac,.aG o)::n] b r):S I Y b r:=.mk λj f k l g=>by
 show gj ((g.D (ac,.bN bE)<|d▸bA ao).2.mc) λt p q r s=>?_;show aX (N0.mp q) λo t hd=>?_;show(i o λe a q=>.bN p (N0.mpr<|as o q hd) r<|s.vC h).go j f k l ?_;have e:u I #[Y.d,Y.n,Y.J,Y.X,Y.p,m++(ac,.bN bE)::n] f.heap:=by show ch d ?_;show g
 show e.qo (λd d d a=>a)<| .aG t
def u.q8 (a:u I Y m)(b:sT.Sublist Y.D):u I #[Y.d,Y.n,Y.J,Y.X,Y.p,sT] m:=
 {a with D:=λd e=>a.D d<|b.subset e,cM:=λd e=>a.cM d<|b.subset e,dr:=a.dr.sublist b}
def S.N1 (d:R Y m af)(i:I.cB=m3.cB)(j:E I.cL m3.cL)(k:∀a,u I Y a->u I #[Y.d,Y.n,Y.J,Y.X,Y.p,bg] a)(n:∀e∈ah,e.1∈aH bg)(p:co bg af)(h:∀f a,er Y.d m3 ah co (.ret f) a->w (.ret f) a):S I Y (.Return (O m) pos::b) w:=
 S.cons (au:=λm=>False) (g.ret d λa f q r=>h f a (by
  have h:=k a q;have o:=h.pg n<|eH _;show#[f,af,bg,.inl V,p,?_,r.keep<|l.sub λd a=>?_]
  .have f:∀d,I.cL.get? d=c->m3.cL.get? d=c:=λd k=>by
    show jz (j d) k
   show#[j.trans o.keep,i▸o.hE,λe a=>f _<|o.new e a,o.apart,o.all]
  .show cK a (λa=>?_) λa=>?_
   .show h.sub d<|i▸a
   .show g1 a λe d=>?_;show(h.D e d).1)) λm a=>a.elim
def g.N2 (k:R Y m af)(p:R Y o (.val<| .ref n))(q:R Y r (.str s))(b:(n,.bN bE)∈Y.D)(t:bE.length<=aC)(v:f7 m (O<| .Subscript o r w) pos.line Y.J=pure aj):
 g Y I (.Assign [.Subscript o r w] m pos) (c0 (u I #[Y.d,Y.n,Y.J,Y.X,Y.p,cj Y.D n<| .bN<|ig bE s af]) M):=.mk λd m e f a=>by
 show CC (k.go d m _ e f.todz a.tocU λx n r h y=>p.go d _ _ e f.todz (a.tocU.keep h) λo k m i A=>q.go d _ _ e f.todz ((a.tocU.keep h).keep i) λk m n j B=>?_) v;obtain rfl:=A.is;obtain⟨C,rfl⟩:=B.dN;have d:=((a.keep h).keep i).keep j;show gj ((d.D _ b).2.mc) λe h f a k=>?_;have m:e.length=bE.length:=by have:=congrArg fN a;simpa using this
 show CD (o4 _ _ s C) f (λh' n e=>#[.up,?_]) (by mspec m;show t);have f:=d.pw b e;show d.pv b e<| .bN h n (x4 a s x af)<|aN.x5 ((y.keep<|l.keep _<|i.trans j).keep f) s a<|k.keep f
end
section
variable {U:aV}
def N3 (b:aR U):ez U 182 (bi 182<|a U) ["self"] (cf 182<|a U):=
 b.fn V rfl H V rfl (kX λd=>by room)
  (fh V he) (k H) (by decide:([]:ak).Nodup) e e V
structure gP (ah:ax)(a:List jV)(b:ak):Prop where
 cQ:∀aQ∈a,∃dR∈ah.br,dR.name=aQ.K/\dR.cD=aQ.cD
 px:(cr<|ct a).Nodup
 py:∀s∈cr (ct a),s∈b
 q9:b.Nodup
 iN:∀s∈b,s∈cP ah.P
def gP.sU {a:ak}(b:gP m n a):a.length<=m.br.length:=by
 simpa[ax.P]using(vO (cP m.P) a b.q9 b.iN)
def gP.len {b:ak}(a:gP n m b):m.length<=n.br.length:=by
 have d:=vO b (cr<|ct m) a.px a.py;have b:=a.sU;simp[cr]at d;show a5 ‹_› ‹_›
def gP.tail {d:ak}(a:gP m (o::n) d):gP m n d where
 cQ:=λd b=>a.cQ d (A b)
 px:=by have:=a.px;rw[ct,b7,lc]at this;show(gz.mp this).1
 py:=λd b=>a.py d (by rw[ct];mspec b7;rw[lc];show bI b)
 q9:=a.q9
 iN:=a.iN
def gP.N4 {d:ak}(a:gP n (m::o) d)(e:Nat):gP n ({m with k9:=e}::o) d where
 cQ:=λf b=>by
  show aw (a4 b) (λg=>?_) λb=>?_
  .obtain rfl:=g;show a.cQ m ao
  .show a.cQ f (A b)
 px:=by have:=a.px;rw[ct,b7,lc]at this ⊢;show this
 py:=λd b=>a.py d (by rw[ct,b7,lc]at b ⊢;show b)
 q9:=a.q9
 iN:=a.iN
def gP.kb {a:ak}(b:gP o (m::n) a):m.K∉cr (ct n):=by
 have:=b.px;rw[ct,b7,lc]at this;show λa=>(gz.mp this).2.2 _ a _ (kF.mpr V) V
def N5 {a:ax}(d:a.bz){b:gd}(e:b∈a.br):et a.P b.name=b.succ:=by
 show cm (LO e) λb f a=>?_;unfold et;mspec vt a d;rfl
theorem E5 (e:∀f∈b,∀k∈f.2.2,k∈cP b):∀(l:hZ){d:i}{g:hZ},iq b l=O (d,g)->d∈cP b
 |(h,m)::r,d,g,j=>by
  cases q:(et b h)[m]? with
  |some d=>
   cases(zE q).symm.trans j;have a:=ic q;unfold et at a;cases z:b.lookup h with
   |none=>rw[z]at a;cases a
   |some f=>rw[z]at a;show e _ (mem_of_lookup z) _ a
  |none=>show E5 e r<|(zF q).symm.trans j
def vP (a:(aH<|bD++(ac,t1)::b3).Nodup):cj (bD++(ac,t1)::b3) ac af=bD++(ac,af)::b3:=op a
def zL (a:(aH<|bD++n::(b,r)::o).Nodup):cj (bD++n::(b,r)::o) b m=bD++n::(b,m)::o:=by
 have d:∀m,bD++n::(b,m)::o=(bD++[n])++(b,m)::o:=λm=>by simp
 rw[d]at a ⊢;rw[d];show op a
def N6 (a:(aH<|bD++n::o::(b,w)::r).Nodup):cj (bD++n::o::(b,w)::r) b m=bD++n::o::(b,m)::r:=by
 have d:∀m,bD++n::o::(b,m)::r=(bD++[n,o])++(b,m)::r:=λm=>by simp
 rw[d]at a ⊢;rw[d];show op a
def E6 (a:(aH<|bD++n::o::r::(b,x)::w).Nodup):cj (bD++n::o::r::(b,x)::w) b m=bD++n::o::r::(b,m)::w:=by
 have d:∀m,bD++n::o::r::(b,m)::w=(bD++[n,o,r])++(b,m)::w:=λm=>by simp
 rw[d]at a ⊢;rw[d];show op a
def vQ (a:u m b n):(aH b.D).Nodup:=qQ a.dr
def sV (a:b∈m):b∈eg n r o m:=
 bA (A<|A<|A<|A a)
def u.E7 {a:ax}(g:∀d b:aW,b.get? a.cp=O o->bG U d b a.cp (.bN<|eB a.br))(f:u r #[U,n,env,X,Γ,m++a.du o] b):u r #[U,n,env,X,Γ,m++a.D] b:=by
 have e:∀d:j,m++(a.x,j.aG (c1 192 a.dc))::(a.dc,.ns a.attrs)::(a.cp,d)::(kn a.bo++d9 a.br)=(m++[(a.x,j.aG (c1 192 a.dc)),(a.dc,.ns a.attrs)])++(a.cp,d)::(kn a.bo++d9 a.br):=λd=>by simp
 have d:u r #[U,n,env,X,Γ,(m++[(a.x,j.aG (c1 192 a.dc)),(a.dc,.ns a.attrs)])++(a.cp,.aG o)::(kn a.bo++d9 a.br)] b:=by rw[<-e];show f
 have:=d.qo (Y:=#[U,n,env,X,Γ,[]]) (ex:=.bN<|eB a.br) (λf f f b=>b)<|g _ _ (d.D (a.cp,.aG o)<|bA ao).2.kk;rw[<-e]at this;show this
def zM:(b.jt,j.list ((cr<|ct m).map .str))∈eg b m o n:=bA ao
def vR:(b.fR,j.list (m.reverse.map λa=>.val<| .ref a.M))∈eg b m o n:=bA<|A ao
def vS:(b.iN,j.aG o)∈eg b m o n:=bA<|A<|A ao
def vT:(b.lb,j.bN (fQ<|cr<|ct m))∈eg b m o n:=bA<|A<|A<|A ao
def zN:aL (bj "node" n<|fZ b m) (fZ b m):=aL.cH [1,2,3,4,5] rfl
noncomputable abbrev hK (U:aV)(ca:T):b1:=bU (bi 182<|a U) ca 182
noncomputable abbrev zO (U:aV):List cl:=lC (cf 182<|a U) 5
noncomputable abbrev N7 (U:aV):List cl:=lC (zO U) 1
def vU (a:(aH<|b++m).Nodup)(d:aH m=aH n):(aH<|b++n).Nodup:=by
 mspec ik;show ch d ?_;show ch ik ?_;show a
inductive E8 (ah:ax)(aB:la)(b:aD)(d:dF)(e:ak)(f:List jV)(aE:Nat)(Γ:be)(own:aD):Prop
 |mk (a:List jV) (g:aE=a.length) (h:aL Γ (fZ ah aB)) (i:own=eg aB a d b) (cz:gP ah a e) (j:iq ah.P (ct a)=iq ah.P (ct f)):E8 ah aB b d e f aE Γ own
inductive E9 (U:aV)(ah:ax)(aB:la)(e:aD)(r:ak ⊕ak)(s:Nat)(Γ:be)(own:aD):Prop
 |mk (b:List jV) (a:ak) (d:i) (o:dF) (f:aL Γ (bj "node" (.str d)<|fZ ah aB)) (g:own=eg aB b o e) (h:jT U o (λs=>decide (s∈a)) a.length) (cz:gP ah b a) (f:d∈cP ah.P) (g:jU ah.P s d (ct b) a=O r):E9 U ah aB e r s Γ own
inductive Fa (Y:bc)(I:aO)(ah:ax)(aB:la)(d:aD)(r:ak ⊕ak)(s:Nat)(al:aW):Prop
 |mk (e:aY) (b:List jV) (a:ak) (f:dF) (h:∀ac∈Y.X,ac∈e) (i:jT Y.d f (λs=>decide (s∈a)) a.length) (cz:gP ah b a) (h:(match iq ah.P (ct b)with|none=>O (.inr a)|O (af,g)=>jU ah.P s af g a)=O r) (h:u I #[Y.d,Y.n,Y.J,e,fZ ah aB,eg aB b f d] al):Fa Y I ah aB d r s al
def N8 (F:aR U)(n:Nat)(y:T)(I:List b1)(h:aD)(d:ax)(Ti:eb h I)(Tj:eu h)(Tk:d.bz)(Tv:∀Tl∈d.P,∀p∈Tl.2.2,p∈cP d.P)(S8:d.br.length<=900)(f:la)(i:dF)(Tw:∀F m:aW,m.get? d.cp=O i->bG U F m d.cp (.bN<|eB d.br))(v:aO)(Tm:v.cQ=O I)(J:aY)(q:List jV)(B:ak)(l:dF)(Tn:gP d q B)(K:c9)
 (To:∀o b p m,(∀w∈J,w∈o)->gP d b B->iq d.P (ct q)=O (p,ct b)->u v #[U,n+1,hK U y,o,bj "node" (.str p)<|fZ d f,eg f b l<|h++d.du i] m->K .next m)
 (Tp:∀o m,(∀w∈J,w∈o)->gP d [] B->iq d.P (ct q)=c->u v #[U,n+1,hK U y,o,fZ d f,eg f [] l<|h++d.du i] m->K .brk m):
 S v #[U,n+1,hK U y,J,fZ d f,eg f q l<|h++d.du i] ((N7 U).drop 1) K:=by
 mexact S.ek<|g.vi (ce:=E8 d f (h++d.du i) l B q) q.length #[q,V,aL.bd _,V,Tn,V] ?_;rintro S9 o q B M ⟨b,rfl,P,rfl,t,W⟩;have X:=t.len;have Y:((cr<|ct b).map j.str).length<1000:=by simp[cr];show b9 [.C N<| .n 900,.C G N] 0 (.Q G) (.n 1000) H S8 X
 show#[decide (0<((cr<|ct b).map j.str).length),aZ.j8 (af:=.val<| .ref f.jt) (R.name (P _<|bl 1 V) (k H)<|k H) (eF.list (aq.D zM)<|by show b0)<|λq=>rfl,λZ=>?_,λZ=>?_]
 .cases b with
  |nil=>simp[cr]at Z|cons a b=>
   show bB λS4 x=>?_;show g3 (t.cQ a ao) λS5 Ta Tq Tr=>?_;show x ?_;clear x S4;have Tb:(cr<|ct<|a::b).map j.str=(cr<|ct b).map j.str++[.str a.K]:=by simp[ct,lc]
   have Tc:((a::b).reverse.map λa=>j.val<| .ref a.M)=(b.reverse.map λa=>j.val<| .ref a.M)++[.val<| .ref a.M]:=by simp
   have Td:et d.P a.K=S5.succ:=Tq▸N5 Tk Ta;have Te:(a.cD,j.list (S5.succ.map .str))∈h++d.du i:=Tr▸bA (A<|A<|A<|bA<|zK Ta _<|A ao);mexact S.dV (eG:=fZ d f) P ?_;mexact S.qL (aB:=(aH<|eg f (a::b) l<|h++d.du i).Nodup) (λm s=>vQ s) λD=>?_;have Tf:=D;rw[ik,gz]at Tf;have S6:=ka.mp Tf.2.1;have Tg:a.cD∈aH (h++d.du i):=c7 Te;have Ts:((cr<|ct b).map j.str).length<1000:=by rw[Tb,dE]at Y;show iD ‹_›
   mexact S.ek (g.NS F V (cE:=h) (keep:=(jW (a::b)++oy f (a::b) l [])++d.du i) (ag:=I) Tm V ?_ Ti Tj (gC:=a.M) (cz:=a.js) (gE:=a.cD) (L:=a.k9) (nz:=f.jt) (q7:=f.lb) (gf:=f.fR) (vM:=S5.succ.map .str) (dW:=(cr<|ct b).map .str) (ow:=a.K) (vN:=b.reverse.map λa=>.val<| .ref a.M) (bE:=fQ<|cr<|ct<|a::b) (.inl V)
    (R.item (r:=.val<| .ref f.fR) (R.K 2 V) R.kQ<|b6.ek (aq.D vR) (by mspec Tc;simp)) ao (A ao) (sV Te) (Tb▸zM) vT (Tc▸vR) (λq=>S6.1<|q▸ao) (λq=>S6.1 (A<|A<|A<|q.symm▸Tg):f.jt≠a.cD) (λq=>(ka.mp S6.2).1 (A<|A<|q.symm▸Tg):f.fR≠a.cD) (bl 1 V) (bl 4 V) (bl 2 V) (k H) (k H) (k H) (k H) (k H) (k H)
    Ts (by simp at X ⊢;show dG (a5 X S8) H) (by rw[E4];simp[ct,cr]at Y ⊢;show dK [.aK (.Q G)<| .n 1000] 0 G (.n 999) H Y) (by rw[zJ];simp[ct,lc]) e V rfl rfl rfl rfl rfl rfl rfl ?_ ?_)
   .show(?_:(eg f (a::b) l<|h++d.du i).Perm _);mspec(by simp:eg f (a::b) l (h++d.du i)=(jW (a::b)++oy f (a::b) l [])++(h++d.du i));rw[<-hX,<-hX];show Lm.append_right _
   .rintro q m hd s;rw[e6,f2]at hd;show bB λS4 x=>?_;obtain⟨p,Tt,rfl⟩:=hd;show x ?_;clear x S4;have S7:iq d.P (ct<|a::b)=O (p,(a.K,a.k9+1)::ct b):=zE (by mspec Td;show Tt);have Tu:eg f ({a with k9:=a.k9+1}::b) l (h++d.du i)=cj (eg f (a::b) l<|h++d.du i) a.js (.aG<|fa a.cD<|a.k9+1):=by
     mspec(vP (bD:=[(a.M,j.aG (ge a.js))]) D:cj (eg f (a::b) l<|h++d.du i) a.js (.aG<|fa a.cD<|a.k9+1)=_);simp[eg,oy,E2,ct,lc]
    show To o ({a with k9:=a.k9+1}::b) p m M (t.N4 _) (W.symm.trans S7) (by mspec Tu;show s)
   .rintro E m hd s;have S7:iq d.P (ct<|a::b)=iq d.P (ct b):=by
     show zF (by mspec Td;simpa using hd)
    have q:cj (eg f (a::b) l<|h++d.du i) a.js (.aG E)=((a.M,j.aG (ge a.js))::(a.js,.aG E)::jW b)++oy f (a::b) l (h++d.du i):=vP (bD:=[(a.M,j.aG (ge a.js))]) D;have p:(aH<|((a.M,j.aG (ge a.js))::(a.js,.aG E)::jW b)++oy f (a::b) l (h++d.du i)).Nodup:=by show ch q ?_;rw[sF];show D
    have Th:u v #[U,n+1,hK U y,o,fZ d f,cj (cj (cj (cj (eg f (a::b) l<|h++d.du i) a.js<| .aG E) f.jt<| .list<|(cr<|ct b).map .str) f.lb<| .bN<|ny (fQ<|cr<|ct<|a::b) a.K) f.fR<| .list<|b.reverse.map λa=>.val<| .ref a.M] m:=s;rw[q,vP p,E6 (by show vU p V),zL (by show vU p V),show cr (ct<|a::b)=cr (ct b)++[a.K]from lc _ _ _,NY _ _ t.kb]at Th;show#[o,_,_,λw S9=>M w S9,#[b.length,fA _,b,V,aL.bd _,V,t.tail,S7.symm.trans W],Th.q8 (sT:=eg f b l<|h++d.du i)<|N9 _<|N9 _<|Oa _]
 .cases b with
  |cons a b=>simp[cr]at Z|nil=>
   mexact S.dV (eG:=fZ d f) P<|S.ek<|g.brk λm s=>?_;show Tp o m M t (by show ch W ?_;rfl) s
def Ob (S7:aR U)(n:Nat)(Y:T)(Tm:List b1)(p:aD)(f:ax)(TO:eb p Tm)(TP:eu p)(TQ:f.bz)(TA:∀TR∈f.P,∀Tn∈TR.2.2,Tn∈cP f.P)(Te:f.br.length<=900)(l:la)(v:dF)(To:∀S7 m:aW,m.get? f.cp=O v->bG U S7 m f.cp (.bN<|eB f.br))(Tf K:aO)(TS:K.cQ=O Tm)(TT:K.cB=Tf.cB)(M:E K.cL Tf.cL)(TB:aY)(Tg:i)(S9:ak)(Tp:dF)(TU:jT U Tp (λt=>decide (t∈S9)) S9.length)(TV:gP f [] S9)(TW:Tg∈cP f.P)(r:ak ⊕ak)(TX:jU f.P 1000 Tg [] S9=O r)(Tq:c9)
 (TY:∀TC Th m,r=.inl TC->er U Tf (p++f.D) (λTr Ta=>Tr=p++f.D/\Ta=.list (TC.map .str)) (.ret Th) m->Tq (.ret Th) m)
 (TZ:∀S8 m o w,(∀P∈TB,P∈S8)->r=.inr w->jT U o (λt=>decide (t∈w)) w.length->gP f [] w->u K #[U,n+1,hK U Y,S8,fZ f l,eg l [] o<|p++f.du v] m->Tq .next m):
 S K #[U,n+1,hK U Y,TB,bj "node" (.str Tg)<|fZ f l,eg l [] Tp<|p++f.du v] ((zO U).drop 1) Tq:=by
 have T0:∀{d:List jV}{o:dF},(f.cp,j.aG v)∈eg l d o (p++f.du v):=sV<|bA<|A<|A ao;mexact S.ek<|g.vi (ce:=E9 U f l (p++f.du v) r) 1000 #[[],S9,Tg,Tp,aL.bd _,V,TU,TV,TW,TX] ?_;rintro t S5 S9 Tg TD ⟨d,w,B,o,T1,rfl,Ts,F,TE,X⟩;show#[z,aZ.j8 R.p9 eF.bool<|λTb=>rfl,λTb=>?_,λm=>by cases m];cases t with
 |zero=>show nomatch (X:(c:Option (ak ⊕ak))=O r)|succ t=>
  have TF:w.length<4000:=by have:=F.sU;show b9 [.C N<| .n 900,.C G N] 0 (.Q G) (.n 4000) H Te this
  have TG:=F.len;mexact S.dV (eG:=bj "node" (.str B)<|fZ f l) T1 ?_;mexact S.qL (aB:=(aH<|eg l d o<|p++f.du v).Nodup) (λm I=>vQ I) λT2=>?_;replace X:zG f.P (λTa S9 w=>jU f.P t Ta S9 w) B (ct d) w=O r:=X;unfold zG at X;mexact S.cons (au:=Fa #[U,n+1,hK U Y,S5,[],[]] K f l (p++f.du v) r t)
   (g.dB (an:=decide (B∈w)) (aZ.bK (R.K 0 V) (R.K 4 V) (av.zC (aB:=λt=>decide (t∈w)) (s:=B) vS Ts TF) e) (λTc=>?_)<|λTc=>?_) ?_
  .rw[if_pos<|k Tc]at X;by_cases Td:B∈cr (ct d)
   .rw[if_pos Td]at X;obtain rfl:=fU X;have T3:(fQ<|cr<|ct d).lookup B=O (.int ((cr<|ct d).idxOf B:Nat)):=by have:=zI B (cr<|ct d) 0 Td;simpa[fQ]using this
    have T4:((cr<|ct d).map j.str).length<=900:=by simp[cr];show a5 ‹_› ‹_›
    mexact S.ek (g.dB (an:=z) (aZ.bK (R.K 0 V) (R.K 5 V) (av.of_eq (av.B2<|aq.D vT) (by rw[zJ];show decide_eq_true Td)) e) (λTb=>?_)<|λm=>by cases m);mexact S.N1 (m3:=Tf) (ah:=p++f.D) (bg:=p++f.D) (co:=λTr Ta=>Tr=p++f.D/\Ta=.list (((cr<|ct d).drop ((cr<|ct d).idxOf B)++[B]).map .str)) (af:=.list<|((cr<|ct d).drop ((cr<|ct d).idxOf B)++[B]).map .str) ?_ TT M (λm I=>u.E7 To<|I.q8 (sT:=p++f.du v)<|List.sublist_append_of_sublist_right<|zP [(l.jt,j.list ((cr<|ct d).map .str)),(l.fR,j.list (d.reverse.map λJ=>.val<| .ref J.M)),(l.iN,j.aG o),(l.lb,j.bN (fQ<|cr<|ct d))]<|p++f.du v) (λTi Z=>c7 Z) #[V,V]<|λTh m r=>TY _ Th m V r;show R.of_eq (R.o5 (R.jD (ds:=(cr<|ct d).map .str) (xB:=.int ((cr<|ct d).idxOf B:Nat)) (xC:=.none) (xD:=.none) (R.K 2 V) (aq.D zM) (R.item (r:=.val<| .ref l.lb) (L:=.str B) (R.K 5 V) (R.K 0 V)<|b6.bN (aq.D vT) T3) V rfl (.int _) .none .none (k H) (by unfold aC;show b0)) (R.list (W.cons (af:=.str B) (R.K 0 V) W.nil V)<|dt H) aq.list aq.list ?_) ?_
    .unfold aC;simp only[eA,yQ];show b9 [.C N<| .n 900,.C G N] 0 (.y G<| .Q<| .n 0) (.n<|2^24) H T4<|CI ((cr<|ct d).map j.str) (O ((cr<|ct d).idxOf B:Int)) c c
    .rw[sb];simp[Oc]
   .rw[if_neg Td]at X;mexact S.ek (g.dB (an:=aj) (aZ.bK (R.K 0 V) (R.K 5 V) (av.of_eq (av.B2<|aq.D vT) (by rw[zJ];show decide_eq_false Td)) e) (λm=>by cases m)<|λTb=>S.nil λm I=>?_);show#[S5,d,w,o,λP Z=>Z,Ts,F,X,I.ef zN]
  .have Tj:B∉w:=of_decide_eq_false Tc;rw[if_neg Tj]at X;obtain⟨B,h,S9,T5,rfl,T6⟩:=vq TE;have TH:h∈f.br:=by mspec T5;simp
   have TI:∀Ti∈lM h,Ti∈p++f.du v:=λTi B=>bA<|A<|A<|A<|bA<|zK TH Ti B;have TJ:h.name∉cr (ct d):=λm=>Tj<|F.py _ m;mexact S.NM (ac:=l.iN) (s:=h.name) (E1:=o) (aB:=λt=>decide (t∈w)) (n:=w.length) (R.K 0 V) (R.K 4 V) vS Ts TF e V rfl rfl λS4 Tt=>?_;rw[if_neg<|by simp[Tj]]at Tt;have T7:jT U S4 (λt=>decide (t∈h.name::w)) (h.name::w).length:=by
    have:(λB=>decide (B∈w)||decide (B=h.name))=λt=>decide (t∈h.name::w):=by funext B;simp[Bool.or_comm]
    rw[this]at Tt;show Tt
   mspec N6 (bD:=jW d) T2;show(?_:S K #[U,n+1,hK U Y,S5,bj "node" (.str h.name)<|fZ f l,eg l d S4<|p++f.du v] _ _);mexact S.NP (ac:=l.fR) (ds:=d.reverse.map λJ=>.val<| .ref J.M) (aS.NN (ag:=h.cD) (ds:=h.succ.map .str) (S7.eX V (by room) (by decide+kernel) (k H) V rfl rfl (k H)) (R.fk (r:=.val<| .ref h.y) (af:=.val<| .ref h.cD) (R.item (r:=.val<| .ref f.cp) (L:=.str h.name) (R.K 1 V) (R.K 0 V)<|b6.bN (aq.aG T0 To) T6) (f9.slot (au:=a U) S7.bC (ac:=h.y) (q:=95) (ds:=[.str h.name,.int h.cx,.val<| .ref h.cD]) (sV<|TI _ ao) V (.ref _) ve) V) (sV<|TI _<|A ao) V rfl rfl) (R.K 3 V) vR (by simp;unfold aC;show dG (a5 TG Te) H) e V rfl rfl ?_;intro _ _ _ B;show cm B λx D S9=>?_;show tU S9 ?_;intro Tu;show#[A<|A vR,?_];mexact S.qL (aB:=(aH<|(D,j.aG (ge x))::(x,.aG (fa h.cD 0))::eg l d S4 (p++f.du v)).Nodup) (λm I=>by have:=vQ I;rwa[sF]at this) λTv=>?_;show(?_:S K #[U,n+1,hK U Y,D::x::S5,bj "node" (.str h.name)<|fZ f l,cj (((D,j.aG (ge x))::(x,.aG (fa h.cD 0))::jW d)++oy l d S4 (p++f.du v)) l.fR<| .list<|(d.reverse.map λJ=>.val<| .ref J.M)++[.val<| .ref D]] _ _);mspec zL (bD:=(D,j.aG (ge x))::(x,.aG (fa h.cD 0))::jW d) Tv;have Tw:((cr<|ct d).map j.str).length<1000:=by simp[cr];show b9 [.C N<| .n 900,.C G N] 0 (.Q G) (.n 1000) H Te TG
   mexact S.bq (g.N2 (bE:=fQ<|cr<|ct d) (s:=h.name) (af:=.int (((cr<|ct d).map j.str).length:Nat)) (R.jG (ds:=[.val<| .ref l.jt]) (S7.eX V (by room) (by decide+kernel) (k H) V rfl rfl (k H)) (W.cons (R.K 2 V) W.nil V) (bO.len (aq.D<|bA ao)<|by show b0) V e V) (R.K 5 V) (R.K 0 V) (bA<|A<|A<|A ao) (by rw[E4];simp at Tw;unfold aC;show dK [.aK G<| .n 1000] 0 G (.n<|2^24) H Tw) V) ?_;mspec E6 (bD:=(D,j.aG (ge x))::(x,.aG (fa h.cD 0))::jW d) (by show vU Tv V);mexact S.ek (g.dP (g.D2 (bT:=λTb Tb=>False) (af:=.str h.name) (ds:=(cr<|ct d).map .str) (ac:=l.jt) (R.K 0 V) (R.K 2 V) (bA ao) (by unfold aC;show dK [.aK G<| .n 1000] 0 G (.n<|2^24) H Tw) e V rfl rfl) λJ m r=>?_);cases J with
   |next=>
    have T8:=vP (bD:=(D,j.aG (ge x))::(x,.aG (fa h.cD 0))::jW d) (ac:=l.jt) (t1:=j.list<|(cr<|ct d).map .str) (af:=.list<|(cr<|ct d).map .str++[.str h.name]) (b3:=(l.fR,j.list ((d.reverse.map λJ=>.val<| .ref J.M)++[.val<| .ref D]))::(l.iN,j.aG S4)::(l.lb,j.bN (ig (fQ<|cr<|ct d) h.name<| .int (((cr<|ct d).map j.str).length:Nat)))::(p++f.du v))<|vU Tv V;have T9:(D,j.aG (ge x))::(x,.aG (fa h.cD 0))::(jW d++(l.jt,j.list ((cr<|ct d).map .str++[.str h.name]))::(l.fR,j.list ((d.reverse.map λJ=>.val<| .ref J.M)++[.val<| .ref D]))::(l.iN,j.aG S4)::(l.lb,j.bN (ig (fQ<|cr<|ct d) h.name<| .int (((cr<|ct d).map j.str).length:Nat)))::(p++f.du v))=eg l (#[h.name,0,D,x,h.cD]::d) S4 (p++f.du v):=by
     rw[a6];mspec NX _ _ TJ;simp[eg,oy,E2,ct,lc]
    have B:u K #[U,n+1,hK U Y,D::x::S5,bj "node" (.str h.name)<|fZ f l,eg l (#[h.name,0,D,x,h.cD]::d) S4<|p++f.du v] m:=by show ch T9 ?_;show(congrArg (λo=>u K #[U,n+1,hK U Y,D::x::S5,bj "node" (.str h.name)<|fZ f l,o] m) T8).mp r
    show#[D::x::S5,#[h.name,0,D,x,h.cD]::d,h.name::w,S4,λP Z=>A<|A Z,T7,#[λJ Tx=>?_,?_,λt M=>?_,ka.mpr #[Tj,F.q9],λt M=>?_],X,B.ef zN]
    .show aw (a4 Tx) (λUa=>?_) λTx=>?_
     .obtain rfl:=Ua;show fo h TH V rfl
     .show F.cQ J Tx
    .rw[ct];mspec b7;rw[lc];show gz.mpr (cG F.px (by simp) (λP S6 b Tc TK=>by rw[bW Tc]at TK;rw[TK]at S6;show TJ S6))
    .rw[ct,b7,lc]at M;show cK M (λM=>?_) λM=>?_
     .show A<|F.py t M
     .mspec bW M;show ao
    .show gh M ?_ λM=>?_
     .show TE
     .show F.iN t M
   |_=>show r.elim
  .rintro m ⟨TL,TM,Ty,Tk,Tu,TN,Ub,Tl,I⟩;show eO #[U,n+1,hK U Y,TL,fZ f l,eg l TM Tk<|p++f.du v] K V rfl rfl rfl rfl I (N8 S7 n Y Tm p f TO TP TQ TA Te l v To K TS TL TM Ty Tk Ub _ (λS8 d Tn m Tz F S6 I=>?_) λS8 m Tz F S6 I=>?_)
   .rw[S6]at Tl;show#[S8,_,_,λP Z=>Tz P<|Tu P<|TD P Z,#[t,fA _,d,Ty,Tn,Tk,aL.bd _,V,TN,F,E5 TA _ S6,Tl],I]
   .rw[S6]at Tl;show TZ S8 m Tk Ty (λP Z=>Tz P<|Tu P<|TD P Z) (fU Tl).symm TN F I
end
section
variable {U:aV}
noncomputable abbrev Fb (U:aV)(ah:ax)(aB:la)(b:aD)(d:Option ak)(L:Nat):iR:=λΓ own=>aL Γ (fZ ah aB)/\∃o a,own=eg aB [] o b/\jT U o (λs=>decide (s∈a)) a.length/\gP ah [] a/\lU ah.P 1000 ((cP ah.P).drop L) a=O d
def Od (J:aR U)(n:Nat)(K:T)(L:List b1)(j:aD)(a:ax)(S8:eb j L)(S9:eu j)(Ta:a.bz)(Tb:∀Tc∈a.P,∀Td∈Tc.2.2,Td∈cP a.P)(Z:a.br.length<=900)(k:la)(p:dF)(Te:∀J b:aW,b.get? a.cp=O p->bG U J b a.cp (.bN<|eB a.br))(x l:aO)(Tf:l.cQ=O L)(Tg:l.cB=x.cB)(Th:E l.cL x.cL)(q:aY)(y:Nat)(h:i)(S4:(cP a.P)[y]?=O h)(f:ak)(o:dF)(A:jT U o (λt=>decide (t∈f)) f.length)(M:gP a [] f)(m:Option ak)(d:lU a.P 1000 ((cP a.P).drop y) f=O m)(B:c9)
 (Ti:∀D b,er U x (j++a.D) (λTj Tk=>Tj=j++a.D/\Tk=ox m) (.ret D) b->B (.ret D) b) (S5:∀b,nf #[U,n+1,hK U K,q,[],[]] l (Fb U a k (j++a.du p) m<|y+1) b->B .next b/\B .cont b):
 S l #[U,n+1,hK U K,q,bj "node" (.str h)<|fZ a k,eg k [] o<|j++a.du p] (zO U) B:=by
 show v (gG.mp S4) λTl Tm=>?_;replace d:=(rP Tl)▸d;replace d:=Tm▸d;have S6:f.length<4000:=by have:=M.sU;show b9 [.C N<| .n 900,.C G N] 0 (.Q G) (.n 4000) H Z this
 by_cases F:h∈f
 .replace d:=(if_pos F).symm.trans d;mexact S.cons (au:=λu=>False) (g.dB (an:=z) (aZ.bK (R.K 0 V) (R.K 4 V) (av.of_eq (av.zC (aB:=λt=>decide (t∈f)) (s:=h) vS A S6)<|decide_eq_true F) e) (λu=>S.cons (au:=λu=>False) (g.cont λb w=>?_) λu P=>P.elim)<|λb=>by cases b) λu P=>P.elim;show(S5 b #[q,_,_,λP B=>B,#[zN,o,f,V,A,M,d],w]).2
 .replace d:=(if_neg F).symm.trans d;mexact S.bq (X:=q) (Γ:=bj "node" (.str h)<|fZ a k) (own:=eg k [] o<|j++a.du p) (g.dB (an:=aj) (aZ.bK (R.K 0 V) (R.K 4 V) (av.of_eq (av.zC (aB:=λt=>decide (t∈f)) (s:=h) vS A S6)<|decide_eq_false F) e) (λb=>by cases b)<|λu=>S.nil λb w=>w) ?_;obtain⟨r,I,S7⟩:∃r,jU a.P 1000 h [] f=O r/\(match r with| .inl W=>m=O W| .inr Tn=>lU a.P 1000 ((cP a.P).drop<|y+1) Tn=O m):=by
   cases I:jU a.P 1000 h [] f with
   |none=>replace d:=I▸d;cases d
   |some r=>show as r V (by cases r<;>(replace d:=I▸d;first|(obtain rfl:=fU d;rfl)|show d))
  show Ob J n K L j a S8 S9 Ta Tb Z k p Te x l Tf Tg Th q h f o A M (ic S4) r I _ (λW D b Y To=>by
   subst Y;show Ti D b ?_;show(show m=O W from S7)▸To) λTp b Tq Tr Ts Y Tt Tu w=>by
   subst Y;show(S5 b #[Tp,_,_,Ts,#[aL.bd _,Tq,Tr,V,Tt,Tu,S7],w]).1
def Oe (y:aR U)(n:Nat)(t:T)(B:List b1)(f:aD)(d:ax)(M:eb f B)(N:eu f)(P:d.bz)(Q:∀W∈d.P,∀Y∈W.2.2,Y∈cP d.P)(Z:d.br.length<=900)(h:la)(i:dF)(C:∀y e:aW,e.get? d.cp=O i->bG U y e d.cp (.bN<|eB d.br))(l:aO)(S4:l.cQ=O B)(X:aY)(o:dF)(v:jT U o (λp=>aj) 0)(q:Option ak)(S5:k8 d.P=O q):
 S l #[U,n+1,hK U t,X,fZ d h,eg h [] o<|f++d.du i] ((cf 182<|a U).drop 5) (er U l (f++d.D) λS6 w=>S6=f++d.D/\w=ox q):=by
 have I:∀{W:List jV}{o:dF},(d.cp,j.aG i)∈eg h W o (f++d.du i):=sV<|bA<|A<|A ao;mexact S.cons (au:=λe=>∃m,u l #[U,n+1,hK U t,m,[],f++d.D] e/\q=c)
  (g.ms (ce:=Fb U d h (f++d.du i) q) (λp p=>False) [] (eg h [] o<|f++d.du i) V (aS.of<|R.K 0 V)
   (λb e=>by cases e;show .inr #[i,λD Γ own W=>by show am W λp Y=>?_;show cm Y λo F W=>?_;show ci W λp=>?_;show I]) (cA.bN<|aq.aG I C) #[aL.bd _,o,[],V,by simpa using v,#[λJ e=>(by cases e),.nil,λS7 e=>(by cases e),.nil,λS7 e=>(by cases e)],S5] (λw p=>.name<| .inl V) ?_ ?_ (λp=>rfl)) ?_
 .rintro D w m Γ own S8 hd G S9 Ta;show bB λr k=>?_;obtain⟨K,o,F,rfl,v,L,x⟩:=G;show k ?_;clear k r;obtain⟨s,Tb,rfl⟩:∃s,(cP d.P)[D]?=O s/\w=.str s:=by
   simp only[e6,f2]at hd;show bB λr k=>?_;obtain⟨Tc,⟨Td,Te,rfl⟩,rfl⟩:=hd;show k ?_;clear k r;show as Td.name (by simp[ax.P,Te]) V
  show S.dV (eG:=bj "node" (.str s)<|fZ d h) (K.bj _ _)<|Od y n t B f d M N P Q Z h i C l (l.at S8) S4 V S9 m D s Tb F o v L q x _ (λp e w=>w) λe p=>#[p,p]
 .rintro m Γ own e Ta (⟨K,o,F,rfl,v,L,x⟩|J) H
  .show as m (u.E7 C<|(H.ef aL.nil).q8 (sT:=f++d.du i) ?_) ?_
   .show zP [(h.jt,j.list []),(h.fR,j.list []),(h.iN,j.aG o),(h.lb,j.bN [])]<|f++d.du i
   .rw[Of<|by simp[ax.P]]at x;obtain rfl:=fU (x:O c=O q);rfl
  .show J.elim
 .rintro e G;show bB λr k=>?_;show aX G λm H e=>?_;show k ?_;clear k r;show eO #[U,n+1,hK U t,m,[],f++d.D] l V rfl rfl rfl rfl H (S.qI (af:=.none) R.gF V (E.bd _) (λTc d=>c7 d) (eH _) #[V,by mspec e;rfl])
def Fc (a b r d:aD):(a++(b++r))++d=a++(b++(r++d)):=(hX ..).trans (congrArg (a++·) (hX ..))
def Og (m:aR U)(n:Nat)(i:T)(X:aY)(f:aO)(g:List b1)(e:aD)(b:ax)(p:f.cQ=O g)(q:eb e g)(r:eu e)(s:b.bz)(t:∀u∈b.P,∀v∈u.2.2,v∈cP b.P)(w:b.br.length<=900)(h:Option ak)(x:k8 b.P=O h)(d:la)(o:dF)(y:jT U o (λD=>aj) 0):
 S f #[U,n+1,hK U i,X,fZ b d,eg d [] o<|e++b.D] ((cf 182<|a U).drop 5) (er U f (e++b.D) λA k=>A=e++b.D/\k=ox h):=by
 mexact S.du (ac:=b.cp) (bE:=eB b.br) (Fc [(d.jt,j.list []),(d.fR,j.list []),(d.iN,j.aG o),(d.lb,j.bN [])] e [(b.x,j.aG (c1 192 b.dc)),(b.dc,.ns b.attrs)]<|(b.cp,j.bN (eB b.br))::(kn b.bo++d9 b.br)).symm (λk hd=>?_) λl B=>?_
 .obtain⟨k,C,rfl⟩:=ck hd;obtain⟨k,_,rfl⟩:=ck C;show#[_,V]
 mspec Fc [(d.jt,j.list []),(d.fR,j.list []),(d.iN,j.aG o),(d.lb,j.bN [])] e [(b.x,j.aG (c1 192 b.dc)),(b.dc,.ns b.attrs)]<|(b.cp,.aG l)::(kn b.bo++d9 b.br);show Oe m n i g e b q r s t w d l B f p _ o y h x
def Oh (e:aR U)(n:Nat)(m:T)(X:aY)(f:aO)(p:List b1)(d:aD)(b:ax)(w:f.cQ=O p)(x:eb d p)(y:eu d)(A:b.bz)(B:∀h∈b.P,∀i∈h.2.2,i∈cP b.P)(C:b.br.length<=900)(q:Option ak)(D:k8 b.P=O q):
 S f #[U,n+1,hK U m,X,[("self",.val (.ref b.x))],d++b.D] (cf 182<|a U) (er U f (d++b.D) λk l=>k=d++b.D/\l=ox q):=by
 have h:=b.il (Y:=#[U,n+1,hK U m,X,[("self",.val (.ref b.x))],d++b.D]) e V (bA b.eI) (show(b.dc,j.ns b.attrs)∈d++b.D from bA b.eR);mexact S.bq (g.assign (af:=.val<| .ref b.cp) (R.fk (r:=.val<| .ref b.x) (R.K 0 V) h.1 V) (.inl V) V) ?_;mexact S.m4 (.inl V) λh i k=>?_;mexact S.m4 (.inl V) λi k l=>?_;mexact S.kj (aS.NL (e.eX V (by room) (by decide+kernel) (by decide) V rfl rfl (by decide)) V) (.inl V) V ?_;intro _ _ _ s;show cm s λk o t=>?_;show Ib t λu u E=>?_;intro l;mexact S.kj (aS.C5<|DT e) (.inl V) V ?_;intro _ _ _ s;show v s λl t=>?_;show xk t λu u=>?_;intro s;show S.dV (eG:=fZ b #[h,i,k,l]) (aL.cH [4,3,2,1,0] rfl)<|S.lO (bg:=eg #[h,i,k,l] [] o<|d++b.D) (List.Perm.append_right (d++b.D) (List.reverse_perm [(l,j.bN []),(k,j.aG o),(i,j.list []),(h,j.list [])]).symm)<|Og e n m _ f p d b w x y A B C q D #[h,i,k,l] o E
end
section
variable {Y:bc}{I:aO}
def jc.Oi {ac:T}{i:ib Bool}(K:R Y o (.val<| .ref ac))(q:(ac,.bN bE)∈Y.D)
 (L:eval (.Call (.Attribute o "values" w) [] [] m) Y.J=(do
  let x <-eval o Y.J
  ep w.atName
  let(M,first) <-e5 [x] (gK x "values" i)
  dO m M first (cX m<|bf [] Y.J) [])):jc Y (.Name S4 S5) (.Call (.Attribute o "values" w) [] [] m) (bE.map (·.2)) λd=>True:=.mk λm s x t w u j=>by
 show jO (pl:=i) (K.go m s _ t w u λf a y A B=>?_) L;have C:=u.keep A;show fD.bN (Y:=Y) (r:=.val<| .ref ac) (aq.D q) Oj PySem.F.type_dict_values m {s with heap:=a,toks:=y} _ t f i C B ?_;obtain rfl:=B.is;show gj ((C.D _ q).2.mc) λg i h N P=>?_;show callWith_method0<|yb Oj h.typeIs PySem.F.entry_dict_values (PySem.F.args_dict_values_1 _) (meets_dict_values (strKind Y.d.prog Y.d.w) ac i) #[#[_,h],?_];show v h.dictAt λD i=>?_;have Q:=i.lt_size;have F:=i.push {cls:=.type "dict_values",data:=.fields (aRR [.ref ac])};have k:E (a.push {cls:=.type "dict_values",data:=.fields (aRR [.ref ac])}) a:=E.push _ _;have n:(a.push {cls:=.type "dict_values",data:=.fields (aRR [.ref ac])}).IsValuesView a.objs.size ac:=fo _ (dL a e) V rfl;have S:(a.push {cls:=.type "dict_values",data:=.fields (aRR [.ref ac])}).objs.size=a.objs.size+1:=mi _ _;generalize a.push {cls:=.type "dict_values",data:=.fields (aRR [.ref ac])}=h₂ at*;show wpAny_pyIter_values n F ?_;have p:g.length=(bE.map (·.2)).length:=by have:=congrArg fN N;simpa using this
 have m:ac<h₂.objs.size:=S▸qg Q;show j h₂ y h₂.objs.size [h₂.objs.size,ac] (λb f=>∃i,g[b]?=O (i,f)) (λb a=>a.IsValIter h₂.objs.size ac b g.length D/\a.DictAt (strKind Y.d.prog Y.d.w) ac g D) _ (A.trans k) #[d3,(λq s=>?_),
  #[(fo _ (dL _ e) V rfl),F.push _],(λb a t=>by show aX t.1 λo I d=>?_;show dm o I),rS (let#[o,_,_,I,_]:=h;#[o,k _ _ I]),(λd d=>.inr<| .inr trivial),(E.push _ _),(λb f n G=>?_),(λq b a f d d h t u d j=>ba j)]
 .show ch p ?_;show Walks.dictValues s _ _ (show ac≠h₂.objs.size from g7 m) _ _
 .show v n λi U=>?_;rw[<-p]at G;have H:b<(bE.map (·.2)).length:=by show ch p ?_;show G
  show aX (P.get<|gm H) λa J r=>?_;rw[(show(g.map (·.2))[b]?=O f from by simp[U])]at J;obtain rfl:=fU J;show as _ (gm H)<|r.keep<|l.keep _ k
def aS.Ok {g:Type}{ds:List g}{dD:g->j}{cO:g->be}(p:be)(f:g->Bool)(h:g->j)
 (H:iT b Y.J=pure w) (J:∀q∈b.names,q.2≠ .cell) (K:b.kind=.function) (L:∀q∈b.names,q.2=.local->b.names.lookup q.1=O .local)
 (N:jc Y target iter (ds.map dD) Te) (P:ds.length<=aC) (Q:∀a∈ds,jL target (dD a) (cO a)) (S:∀a∈ds,∀d∈cO a,b.names.lookup d.1=O .local)
 (T:∀d∈p,d∈Y.p/\hA Y.J b w d.1)
 (U:∀i Z a,a∈ds->mj (eP Y b w i Z<|cO a++p) B (f a))
 (W:∀i Z a,a∈ds->f a=z->R (eP Y b w i Z<|cO a++p) M (h a))
 (X:∀C,iC iter Y.J C=pure C) (S4:∀t it u env,(jK (.ListComp M [#[target,iter,B,0]] b pos) t it u env).isFrame=aj):
 aS Y I (.ListComp M [#[target,iter,B,0]] b pos) (λS5 S6 a=>∃e,e∉Y.X/\e∉I.cB/\S5=e::Y.X/\S6=(e,.list ((ds.filter f).map h))::Y.D/\a=.val (.ref e)):=.mk λb g q w a v d=>by
 rw[uw];show ut (ie:=c) p f h H J K L N P Q S T U W X S4 a.todz v.tocU ?_;intro g p a k i S7 D S8 t b u;show as a b<|λE x=>?_;have r:=v.iG D;obtain⟨y,n,S9,Ta⟩:=u;have F:E.get? k=O {cls:=.type "list",data:=.seq y n}:=x.extBut _ _ S8 S9;have a:=uv t x S7;have Tb:=v.gI D #[_,F] a;have Tc:aN Y.d (l E<|k::Y.X) y.toList ((ds.filter f).map h):=Ta.keep λe o s=>by
  have Td:=l.of _ _ s;have G:e∉i::k::Y.X:=λm=>by replace s:=(cT _ m)▸s;cases s
  show cb _ (x.extBut _ _ (λd=>G<|d▸ao) Td) λm=>G<|A m
 have a:=Tb.ih (ac:=k) (af:=.list<|(ds.filter f).map h) ao (.list (a1:=y.toList) #[n,by simpa using F] Tc) r.2.2.1 r.1;show d _ _ .up #[_,_,_,(xo k r.2.1 r.2.2.2 V rfl rfl),λe m=>A m,a,.val _]
def jc.of_eq (a:jc Y b iter ds m)(d:ds=n):jc Y b iter n m:=d▸a
def g.uY {co:aY->aD->Prop}(p:aS Y I m w)(q:f7 m (O<| .Attribute o n x) pos.line Y.J=pure aj)
 (s:∀a d e,w a d e->(∀f∈Y.X,f∈a)->∃b,R #[Y.d,Y.n,Y.J,a,Y.p,d] o r/\e9 #[Y.d,Y.n,Y.J,a,Y.p,d] I r n e b/\co a b):
 g Y I (.Assign [.Attribute o n x] m pos) (c0 (λh=>∃a b,co a b/\(∀f∈Y.X,f∈a)/\u I #[Y.d,Y.n,Y.J,a,Y.p,b] h) bT):=
 .mk λf n h i t=>C3 (p.go f n _ h i t λv j w #[a,d,e,x,k,m,y]=>by
  show g3 (s a d e x k) λb n p t=>?_;show n.go f j _ h i.todz m.tocU λe s x d A=>?_;show p.go f {j with heap:=s,toks:=x} _ h e v i.todz (m.keep d) A (y.keep<|l.keep _ d) λh' j f=>#[w.gH,a,b,t,k,f]) q
def g.kj (e:aS Y I n o)(f:fO Y.J m)(h:f7 n (O<| .Name m r) pos.line Y.J=pure aj):
 g Y I (.Assign [.Name m r] n pos) (c0 (λi=>∃a b d,o a b d/\(∀j∈Y.X,j∈a)/\u I #[Y.d,Y.n,Y.J,a,bj m d Y.p,b] i) bT):=
 .mk λi j k l m=>pb (e.go i j _ k l m λs t n #[a,b,d,o,p,q,r]=>
  u.gn (Y:=#[Y.d,Y.n,Y.J,a,Y.p,b]) q f r λh' j e e e e i=>#[n.gH,a,b,d,o,p,i]) h
def R.Ol:R Y (.JoinedStr [.Constant (.str b) m n] pos) (.str b):=.mk λa b d e f g h=>JoinedStr_one<|R.cy.go a b d e f g h
end
section
variable {U:aV}{n:Nat}{h0:aW}{fY:aY}{aQ:T}{a7:iH}{body:c4}{ah:aD}{Γ:be}{ae aE:T}{kt:iH}{dW:ak}{nu:List cl}{ds gA:dn}
structure vV (U:aV)(a7:iH)(ca aQ:T)(ag:List b1)(cE ah:aD)(X:aY)(al b:aW)(a:dF):Prop where
 bH:eb ((ca,.frame a)::cE) (eC a7 ca aQ::ag)
 all:eu ((ca,.frame a)::cE)
 D:∀ai∈((ca,j.frame a)::cE)++ah,ai.1∈ca::X/\bG U (l b<|ca::X) b ai.1 ai.2
 apart:(((ca,j.frame a)::cE)++ah).Pairwise λae bu=>ae.1≠bu.1
 up:∀ac o,(cq al<|aH<|cE++ah).get? ac=O o->ac≠ca/\(cq b<|aH<|((ca,j.frame a)::cE)++ah).get? ac=O o
 cw:∀ai∈cE++ah,ai.1≠ca
def vV.of (C:a7.scope.kind=.function)(F:eb m M)(G:eu m)(H:∀h∈X,∃o,r.get? h=O o)(p:∀a∈m++ah,a.1∈X/\bG U (l r X) r a.1 a.2)(I:(m++ah).Pairwise λae J=>ae.1≠J.1)(q:r.get? w=c)(s:E B r)(K:B.get? w=O x)(j:∃k n,x.data=.dict k n):vV U a7 w aQ M m ah X r B x:=by
 show cm j λk n j=>?_;have u:∀a∈m++ah,a.1≠w:=λa b d=>by
  show v (H _ (p a b).1) λo g=>?_;rw[d,q]at g;cases g
 have L:E (l B<|w::X) (l r X):=λh o d=>by
  have e:=l.of _ _ d;show cb _ (s _ _ e) λf=>?_;show aw (a4 f) (λi=>?_) λf=>?_
  .obtain rfl:=i;rw[q]at e;cases e
  .rw[cT _ f]at d;cases d
 show#[λenv t=>?_,λa b=>?_,λa b=>?_,gq.mpr #[λa b d=>u a b d.symm,I],λh o d=>?_,u]
 .rcases a4 t with rfl|t
  .show#[by show(?_:a7.scope.kind≠ .module);mspec C;decide,w,x,k,n,V,ao,j]
  .show am (F env t) λr u=>?_;show j5 u λt B C F H=>?_;show cd H λu I J=>?_;show#[r,t,B,C,F,u,A I,J]
 .show aw (a4 b) (λi=>?_) λb=>?_
  .obtain rfl:=i;show j6 x k n V j
  .show G a b
 .show aw (a4 b) (λi=>?_) λb=>?_
  .obtain rfl:=i;show#[ao,.frame (gE:=x.slots) K]
  .show#[A (p a b).1,(p a b).2.keep L s]
 .have e:=fe _ d;have y:h≠w:=λg=>by rw[g,q]at e;cases e
  show#[y,cb _ (s _ _ e) λf=>?_];show aw (d1 f) (λg=>?_) λf=>?_
  .show y g
  .rw[cT _ (show h∈aH (m++ah)from f)]at d;cases d
def oq.zQ (D:iL h0 aQ a7 body)(I:U.B.NoLimit)(J:hY U a7 h0 (l h0 fY) Γ)
 (K:∀(a:T)(X:aY)(s:cV)(b:aM)(v:bX)(w:bX),dz s (n+1)->cU #[U,n+1,eC a7 a aQ,X,Γ,ah] b.heap->(∀g h' x,E h' b.heap->aN U (l h' X) g ds->ar U.M s (dU (.ref aE)<| .ref ae::g) v w {b with heap:=h',toks:=x})->ar U.M s (eval body<|eC a7 a aQ) v w b)
 (L:hc U aE kt dW nu) (N:dW.length=gA.length) (P:∀(b:aM)(X:aY)(g:cv),aN U (l b.heap X) g ds->(∀i∈X,∃o,b.heap.get? i=O o)->gJ U kt #[.ref ae::g,[]] dW X gA b)
 (Q:∀a y fY h0 k e,eb e k->eu e->S #[h0,fY,O k,aj] #[U,n,bU kt a aE,y,dW.zip gA,e++ah] nu (er U #[h0,fY,O k,aj] (e++ah) λt p=>∃f,t=e++f/\M f p)):oq U (n+2) h0 fY aQ ah M:=.mk λs b X k e v w R V W Y Z F G S4 H S5 S6 S7=>by
 show hS<|vy (n:=n+1) (D.keep G) I R Z F (J.keep G S4) (show ∀d∈ah,d.1∈X/\bG U (l b.heap X) b.heap d.1 d.2 from λd aE=>H d<|bA aE) λa s x G v w I J=>?_;show K a (a::X) _ {b with heap:=s,toks:=x} _ _ v w λg K R s S8=>?_;have B:=w.keep s;show eW J λu R Z w x=>?_;have h:vV U a7 a aQ k e ah X b.heap K u:=.of D.kind W Y F H S5 G (I.trans s) (s _ _ w)<|dM _ _ x;show hS (L.El (fr:=O<|eC a7 a aQ::k) (X:=a::X) (ah:=((a,.frame u)::e)++ah) (co:=λt p=>∃f,t=((a,.frame u)::e)++f/\M f p) (ds:=gA) v (λS7 S9=>by cases S9;show r2 V) B.base B.cw (P _ _ g S8 B.cw) N h.D h.apart (gen:=aj) (λg y h0=>Q g y _ h0 _ _ h.bH h.all) λTa Tb t p Tc C q Td=>?_);obtain⟨f,rfl,C⟩:=C;have g:∀i∈X++aH (e++f),i∈(a::X)++aH (((a,j.frame u)::e)++f):=λi a=>by
  show cK a (λaE=>?_) λaE=>?_
  .show bI<|A aE
  .show bA<|A aE
 show S6 Ta Tb f p (cs.up.trans Tc) C #[λi o r=>q.keep _ _ (h.up i o r).2,λd m=>(q.hE d<|A m).keep (l.sub g)<|E.bd _,λd m=>?_,(gq.mp q.apart).2,λd m=>?_]<|Td.keep<|l.sub g
 .cases r:(cq b.heap<|aH<|e++ah).get? d.1 with
  |none=>rfl|some o=>have:=q.new d<|A m;rw[(h.up _ o r).2]at this;cases this
 .show(d1<|q.all d<|A m).elim (λr=>absurd r<|h.cw d m) id
def ks.zQ (G:iL h0 aQ a7 body)(P:U.B.NoLimit)(Q:hY U a7 h0 (l h0 fY) Γ)
 (R:∀(d:T)(X:aY)(s:cV)(g:aM)(x:bX)(y:bX),dz s (n+1)->cU #[U,n+1,eC a7 d aQ,X,Γ,ah] g.heap->(∀h h' B,E h' g.heap->aN U (l h' X) h ds->ar U.M s (dU (.ref aE)<| .ref ae::h) x y {g with heap:=h',toks:=B})->ar U.M s (eval body<|eC a7 d aQ) x y g)
 (S:hc U aE kt dW nu) (W:dW.length=gA.length) (Y:∀(g:aM)(X:aY)(h:cv),aN U (l g.heap X) h ds->(∀a∈X,∃o,g.heap.get? a=O o)->gJ U kt #[.ref ae::h,[]] dW X gA g)
 (S4:∀d C t m j,eb j m->eu j->t.cQ=O m->(∀a∈c8 m,a∈t.cB)->dY #[U,n,bU kt d aE,C,dW.zip gA,j++ah] t t m (j++ah) (λu q h=>∃p,u=j++p/\M p q h) nu):ks U (n+2) h0 fY aQ ah M:=.mk λs g X m j x y S5 H S6 S7 S8 I t S9 J Ta Th D=>by
 show hS<|vy (n:=n+1) (G.keep t) P S5 S8 I (Q.keep t S9) (show ∀e∈ah,e.1∈X/\bG U (l g.heap X) g.heap e.1 e.2 from λe aE=>J e<|bA aE) λd s B P y x Q S5=>?_;show R d (d::X) _ {g with heap:=s,toks:=B} _ _ y x λh R t s S8=>?_;have t:=x.keep s;show eW S5 λx Th K B S9=>?_;have i:vV U a7 d aQ m j ah X g.heap R x:=.of G.kind S6 S7 I J Ta P (Q.trans s) (s _ _ B)<|dM _ _ S9;have s:∀a∈c8 (eC a7 d aQ::m),a∈d::X:=λa r=>by
  show g1 (i.bH.c8 a r) λe k=>?_;show(i.D e<|bI k).1
 show hS<|S.Ek (ag:=eC a7 d aQ::m) (X:=d::X) (ah:=((d,.frame x)::j)++ah) (co:=λu q h=>∃p,u=((d,.frame x)::j)++p/\M p q h) (ds:=gA) y (r2 H) t.base t.cw (Y _ _ h S8 t.cw) W i.D i.apart (gen:=aj) (λh C=>S4 h C _ _ _ i.bH i.all V s) λTb t u q Tc Td F b=>?_;obtain⟨p,rfl,F⟩:=F;obtain⟨Te,Tf,Z,Tg,b⟩:=b;show wpAny_leaves_onW (r2 H) (L:=d) V b.qW λt s h=>?_;have N:=gq.mp b.apart;show D Tb _ p q Tc (cs.up.trans<|Td.trans .up) F #[Te,Tf,Z,Tg,#[λa o f=>b.keep _ _ (i.up a o f).2,λe k=>b.hE e<|A k,λe k=>?_,N.2,λe k=>?_,λa r=>b.pq a<|A r,λa r=>b.qU a<|A r,b.qV,λa o n aE D=>?_,s,b.bQ.of_slots h,b.sH,b.slots.trans h]]
 .cases f:(cq g.heap<|aH<|j++ah).get? e.1 with
  |none=>rfl|some o=>have:=b.new e<|A k;rw[(i.up _ o f).2]at this;cases this
 .show(d1<|b.all e<|A k).elim (λf=>absurd f<|i.cw e k) id
 .have K:a≠d:=by
   rcases aE with⟨w,f⟩|aE
   .show(i.up a w f).1
   .obtain⟨e,k,rfl⟩:=ck aE;show λf=>N.1 e k f.symm
  show b.np a o (λe=>?_) (aE.imp (λg=>v g λw f=>#[w,(i.up a w f).2]) λaE=>A aE) D;show aw (d1 (show a∈d::c8 m from e)) (λf=>?_) λf=>?_
  .show K f
  .show n f
end
section
variable {Y:bc}{I dS:aO}{ag:List b1}{ah:aD}{co:aD->a3->cv->Prop}
def fG.Om {au:fl}(p:ExcBaseFacts Tu B Tv o){h:cv}
 (X:au.In Y.d.B) (D:au.lookup m=O (Fd M S4 m bL S5 o S6 S7 h S8 S9 Ta Tb Tc Td Te Tf B)) (E:Y.d.B.Ns bL r) (F:r "__init__"=c)
 (G:eb Tg ag) (H:∀e∈Tg,e∈Y.D) (h0:I.cL=dS.cL) (J:I.cB=dS.cB) (K:∀L∈c8 ag,L∈dS.cB) (P:Y.J.frame=O Y.J.locals)
 (Q:R Y (.Name Th Ti) (.val<| .ref m)) (S:W Y w (x::n) ds) (T:ds.length<=aC) (U:Y.D.Perm bg) (Z:∀e∈ah,e.1∈aH bg) (Tj:∀(a:cv)(Tk:aW),aN Y.d Tk a ds->co bg (.ref m) a)
 (s:bf (x::n) Y.J=(aj,eval x Y.J)::bf n Y.J:=by rfl) (Tl:(cX w<|bf n Y.J).any (·.1)=aj:=by rfl):fG Y I dS ag ah co (.Raise (O<| .Call (.Name Th Ti) (x::n) [] w) c pos):=.mk λt i x j k Tm l Tn=>by
 show wpAny_Raise_call_subT (C:=m) (nm:=M) (q:=S4) (N:=bL) (bs:=S5) (bm:=o) (hdct:=S6) (sn:=S7) (sub:=h) (ab:=S8) (col:=S9) (dd:=Ta) (k0:=Tb) (k1:=Tc) (k2:=Td) (k3:=Te) (k5:=Tf) p (mN:=r) p.hasBase k.handled (by mspec s;show(?_:(aj||(cX w<|bf n Y.J).any (·.1))=aj);mspec Tl;rfl) F ?_;show Q.go t i _ j k.todz l.tocU λn To Tp Tq Tr=>?_;obtain rfl:=Tr.is;show#[V,?_];have v:=l.keep Tq;have y:=S.go t {i with heap:=To,toks:=Tp} (λa f=>a.length<=aC/\f.heap.get? m=O (Fd M S4 m bL S5 o S6 S7 h S8 S9 Ta Tb Tc Td Te Tf B)/\f.heap.Ns bL r/\∀h' g,zh f.heap h' g (.ref m) a->j (.ref g) {f with heap:=h'}) j k.todz v.tocU λa d Ts Tt A=>?_
 .rw[s]at y ⊢;show Calls.evalArgs_plain<|dq y (λa f d=>#[V,d.1,d.2.1,d.2.2.1,.base,d.2.2.2]) λf f h=>h
 .have f:=v.keep Tt;show l6 (by mspec A.length;show T) (f.fq _ _<|X _ _ D) (E.keeps f.fq)<|λh' g h=>Tn g _ ?_;show u.Eh (dQ:=d) (bR:={i with heap:=h',toks:=Ts}) f (by mspec l.kind;decide) P Tm (show jp d ag from G.frames λe g=>(f.D e<|H e g).2) h0 J K U Z h λd b=>kL bg _ a .up (Tj a _ A) b
end
section
variable {U:aV}
def zR (i:aR U)(k:b.d=U)(l:b.n=n+2)(o:m.cQ=O ag)(p:b.J.frame=O b.J.locals)(q:b.J.scope.kind=.function)(d:aD)(a:ax)(r:eb d ag)(s:eu d)(t:a.bz)(u:∀v∈a.P,∀w∈v.2.2,w∈cP a.P)(x:a.br.length<=900)(g:Option ak)(y:k8 a.P=O g)(A:b.D.Perm ((d++a.D)++keep)):
 dX b m (.ref 182) [.val<| .ref a.x] (λj e f=>e=(d++a.D)++keep/\f=ox g):=by
 subst k;show(N3 i).yA (n:=n+1) (ah:=d++a.D) (keep:=keep) o l V A (co:=λe f=>e=d++a.D/\f=ox g)
  (λk j h0 l hd=>by
   mexact S.dP (Oh i n k j #[h0,b.X,O<|b.J::ag,m.bY] (b.J::ag) ((b.J.locals,.frame l)::d) a V (r.cons q p hd) (s.cons hd) t u x g y) λo v B=>?_;obtain⟨C,f,e,h,D,E,F⟩:=B;show am D λa b=>?_;show#[C,f,e,h,(fo _ a V b),E,F]) λe f d=>am d λh a=>#[by show aI h V,a]
noncomputable def jX (bZ:dk):ak:=(bZ.filter λaT=>aT.2.1==0).map (·.1)
noncomputable abbrev ax.eh (ah:ax)(ac:T):ax:={ah with bo:=O (ac,jX ah.P)}
noncomputable abbrev kv (U:aV)(ca:T):b1:=bU (bi 147<|a U) ca 147
abbrev On (U:aV)(n:Nat)(ca:T)(cE:aD)(ah:ax)(X:aY)(Γ:be)(I:aO)(al:aW):Prop:=∃a ac,(∀b∈X,b∈a)/\u I #[U,n+3,kv U ca,a,Γ,cE++(ah.eh ac).D] al
def Fe (m:aR U)(n:Nat)(p:T)(X:aY)(t:aO)(h:aD)(b:ax)(F:b.bo=c)(G:b.br.length<=900)(w:c9):
 g #[U,n+3,kv U p,X,[("self",.val (.ref b.x))],h++b.D] t (hT (cf 147<|a U) 1) (c0 (On U n p h b X [("self",.val (.ref b.x))] t) w):=by
 have x:(b.x,j.aG (c1 192 b.dc))∈h++b.D:=bA b.eI;have y:(b.dc,j.ns b.attrs)∈h++b.D:=bA b.eR;have B:∀d∈b.br,∀w∈lM d,w∈h++b.D:=λd l w G=>bA<|A<|A<|A<|bA<|zK l w G;show g.dP (g.uY (bT:=λi i=>False) (r:=.val<| .ref b.x) (co:=λs w=>∃f,w=cj ((f,j.list ((jX b.P).map .str))::(h++b.D)) b.dc (.ns<|mU b.attrs "_ready_nodes"<| .val<| .ref f))
  (aS.Ok (ds:=b.br) (dD:=λd=>.val<| .ref d.y) (cO:=λd=>[("i",.val (.ref d.y))]) [] (λd=>d.cx==0) (λd=>.str d.name) V (k H) V (k H)
   (jc.of_eq (jc.Oi (ac:=b.cp) (bE:=eB b.br) (R.fk (r:=.val<| .ref b.x) (R.K 0 V) (b.il (Y:=#[U,n+3,kv U p,X,[("self",.val (.ref b.x))],h++b.D]) m V x y).1 V) (bA b.lN) V)<|by simp[eB]) (by unfold aC;show b0) (λw i=>.name _ _ _) (hh V) f8
   (λG Z d l=>aZ.bK (R.fk (r:=.val<| .ref d.y) (R.K 0 V) (f9.slot (au:=a U) m.bC (ac:=d.y) (q:=95) (ds:=[.str d.name,.int d.cx,.val<| .ref d.cD]) (B d l _ ao) V (.int _) lK) V) R.bJ av.eq e)
   (λG Z d l i=>R.fk (r:=.val<| .ref d.y) (R.K 0 V) (f9.slot (au:=a U) m.bC (ac:=d.y) (q:=95) (ds:=[.str d.name,.int d.cx,.val<| .ref d.cD]) (B d l _ ao) V (.str _) Dy) V) (λi=>rfl) (λi i i i=>e)) V ?_) ?_
 .intro s B w l;show v l λf w=>?_;show xk w λi i=>?_;intro C;mspec(by simp[jX,ax.P,zb,Function.comp_def]:(b.br.filter λd=>d.cx==0).map (λd=>j.str d.name)=(jX b.P).map .str);show#[_,by show R.K 0 V,e9.D1 (au:=a U) m.bC (ae:=b.x) (lu:=b.dc) (q:=192) (bE:=b.attrs) (A x) (A y) (fT H) lL Dz,f,V]
 .intro I J r;cases I with
  |next=>
   obtain⟨s,_,⟨f,rfl⟩,C,D⟩:=r;show iy s f C ?_;have E:=vQ D;rw[sF]at E;show((congrArg (λo=>u t #[U,n+3,kv U p,s,[("self",.val (.ref b.x))],o] J)<|zL (bD:=(f,j.list ((jX b.P).map .str))::h) E).mp D).lO ?_;mspec F;show(?_:((f,j.list ((jX b.P).map .str))::(h++(b.x,j.aG (c1 192 b.dc))::(b.dc,.ns (b.eh f).attrs)::(b.cp,.bN (eB b.br))::d9 b.br)).Perm (h++(b.x,j.aG (c1 192 b.dc))::(b.dc,.ns (b.eh f).attrs)::(b.cp,.bN (eB b.br))::(f,.list ((jX b.P).map .str))::d9 b.br));mspec(by simp:h++(b.x,j.aG (c1 192 b.dc))::(b.dc,.ns (b.eh f).attrs)::(b.cp,.bN (eB b.br))::(f,.list ((jX b.P).map .str))::d9 b.br=(h++[(b.x,j.aG (c1 192 b.dc)),(b.dc,.ns (b.eh f).attrs),(b.cp,.bN (eB b.br))])++(f,.list ((jX b.P).map .str))::d9 b.br);show List.Perm.trans (MQ<|by simp) (vW (l₁:=h++[(b.x,j.aG (c1 192 b.dc)),(b.dc,.ns (b.eh f).attrs),(b.cp,.bN (eB b.br))])).symm
  |_=>show r.elim
def Oo (U:aV):∃b d e f g h i j k l m n o p,(a U).lookup 110=O (Fd b d 110 109 e [.type "ValueError",.type "Exception",.type "BaseException",.type "object"] f g h i j k l m n o p "ValueError.__new__"):=#[_,_,_,_,_,_,_,_,_,_,_,_,_,_,V]
def Ff (U:aV):nsOkIn (a U) 109=z:=by room
def Op (U:aV):nsIn (a U) 109 "__init__"=O c:=by room
def Oq (b:ax)(f:T)(g:b.bo=c):∀e∈b.D,e.1∈aH (b.eh f).D:=λe a=>by
 show aw (a4 a) (λd=>?_) λa=>?_
 .obtain rfl:=d;show ao
 .rcases a4 a with rfl|a
  .show A ao
  .show aw (a4 a) (λd=>?_) λa=>?_
   .obtain rfl:=d;show A<|A ao
   .replace a:=g▸a;show A<|A<|A<|A<|c7 a
def Fg (b:ax)(e:T)(f:b.bo=c):∀d∈m++b.D,d.1∈aH (m++(b.eh e).D):=λd a=>by
 mspec ik;show cK a (λa=>?_) λa=>?_
 .show bI<|c7 a
 .show bA<|Oq b e f d a
def Os (m:aR U)(n:Nat)(j:T)(X:aY)(h:aO)(t:List b1)(d:aD)(b:ax)(x:h.cQ=O t)(y:eb d t)(A:eu d)(o:b.bo=c)(B:b.bz)(C:∀F∈b.P,∀G∈F.2.2,G∈cP b.P)(u:b.br.length<=900)(H:k8 b.P=O c):
 S h #[U,n+3,kv U j,X,[("self",.val (.ref b.x))],d++b.D] (cf 147<|a U) (er U h (d++b.D) λp s=>∃k,p=d++k/\s=.none/\∃f,k=(b.eh f).D):=by
 have v:=(b.il (Y:=#[U,n+3,kv U j,X,[("self",.val (.ref b.x))],d++b.D]) m V (bA b.eI)<|bA b.eR).2.1;rw[o]at v;mexact S.bq (X:=X) (Γ:=[("self",.val (.ref b.x))]) (own:=d++b.D) (g.dB (an:=aj) (aZ.bK (q:=aj) (ac:=.none) (R.fk (r:=.val<| .ref b.x) (R.K 0 V) v V) R.gF av.qb e) (λi=>by cases i)<|λw=>S.nil λi l=>l) ?_;mexact S.cons (Fe m n j X h d b o u (er U h (d++b.D) λp s=>∃k,p=d++k/\s=.none/\∃f,k=(b.eh f).D)) ?_;intro i k;show gi k λp f s l=>?_;show eO #[U,n+3,kv U j,p,[("self",.val (.ref b.x))],d++(b.eh f).D] h V rfl rfl rfl rfl l ?_;mexact S.kj (aS.so (au:=a U) m.bC (bA (b.eh f).eI) (bA (b.eh f).eR) (by rfl) y1 (R.K 0 V) (zR m (keep:=[]) V rfl x V rfl d (b.eh f) y A B C u c H (by rw[fj])) V) (.inl V) V ?_;intro m p s k;show j4 k ?_;intro k;rw[fj];show(?_:S h #[U,n+3,kv U j,m,bj "cycle" .none [("self",.val (.ref b.x))],d++(b.eh f).D] _ _);mexact S.bq (X:=m) (Γ:=bj "cycle" .none [("self",.val (.ref b.x))]) (own:=d++(b.eh f).D) (g.dB (an:=aj) (aZ.j8 (af:=.none) (R.K 0 V) eF.none<|λw=>rfl) (λi=>by cases i)<|λw=>S.nil λi l=>l) ?_;show S.si V (E.bd _) (Fg b f o) (eH _) #[_,V,V,f,V]
def Ot (i:aR U)(n:Nat)(l:T)(X:aY)(j:aO)(s:List b1)(d:aD)(b:ax)(E:j.cQ=O s)(x:eb d s)(F:eu d)(G:∀f∈c8 s,f∈j.cB)(t:b.bo=c)(I:b.bz)(J:∀K∈b.P,∀L∈K.2.2,L∈cP b.P)(y:b.br.length<=900)(h:ak)(M:h≠[])(S4:h.length<=1000)(N:k8 b.P=O (O h)):
 dY #[U,n+3,kv U l,X,[("self",.val (.ref b.x))],d++b.D] j j s (d++b.D) (λP Q Z=>∃A,P=d++A/\Q=.ref 110/\∃f,A=(b.eh f).D) (cf 147<|a U):=by
 have B:=(b.il (Y:=#[U,n+3,kv U l,X,[("self",.val (.ref b.x))],d++b.D]) i V (bA b.eI)<|bA b.eR).2.1;rw[t]at B;show dY.bq id (X:=X) (Γ:=[("self",.val (.ref b.x))]) (own:=d++b.D) (g.dB (an:=aj) (aZ.bK (q:=aj) (ac:=.none) (R.fk (r:=.val<| .ref b.x) (R.K 0 V) B V) R.gF av.qb e) (λo=>by cases o)<|λu=>S.nil λo m=>m) ?_;show dY.cons (Fe i n l X j d b t y<|λu u=>False) id ?_;rintro o v;show bB λw p=>?_;show gi v λs f A m=>?_;show p ?_;clear p w;show eO #[U,n+3,kv U l,s,[("self",.val (.ref b.x))],d++(b.eh f).D] j V rfl rfl rfl rfl m ?_;show dY.cons (g.kj (aS.so (au:=a U) i.bC (bA (b.eh f).eI) (bA (b.eh f).eR) (by rfl) y1 (R.K 0 V) (zR i (keep:=[]) V rfl E V rfl d (b.eh f) x F I J y (O h) N (by rw[fj])) V) (.inl V) V) id ?_;rintro o v;show bB λw p=>?_;obtain⟨C,s,y,⟨rfl,rfl⟩,A,m⟩:=v;show p ?_;clear p w;rw[fj]at m;show eO #[U,n+3,kv U l,C,bj "cycle" (.list<|h.map .str) [("self",.val (.ref b.x))],d++(b.eh f).D] j V rfl rfl rfl rfl m ?_;show dY.head (fG.qZ (aZ.j8 (af:=.list<|h.map .str) (R.K 0 V) (by
  have:=eF.list (Y:=#[U,n+3,kv U l,C,bj "cycle" (.list<|h.map .str) [("self",.val (.ref b.x))],d++(b.eh f).D]) (aq.list (ds:=h.map .str)) (by simp;show gu);rwa[decide_eq_true<|by simpa using jl.mpr M]at this)<|λu=>rfl)<|dY.head ?_)
 show hx (Oo U) λl m p s u j=>?_;show hx j λm p s u v l=>?_;show j5 l λm p s u j=>?_;show fG.Om (au:=a U) (ds:=[.str "nodes are in a cycle",.list<|h.map .str]) (bg:=d++(b.eh f).D) (bL:=109) PySem.F.excBase_ValueError i.bC j (.of_isNs<|isNs_of_in i.bC<|Ff U) (nsMap_none_of_in i.bC (Ff U)<|Op U) x (λh d=>bI d) V rfl G V (i.eU V (by room) V rfl (k H)) (W.cons R.Ol (W.cons (R.K 0 V) W.nil V) V) (dt H) (eH _) (Fg b f t) (λZ o r=>#[_,V,V,f,V])
def Ou (d:aR U){b:ax}(h:b.bo=c)(i:b.bz)(j:∀k∈b.P,∀f∈k.2.2,f∈cP b.P)(p:b.br.length<=900)(q:k8 b.P=O c)
 (g:∀env,ou (.Name "sorter" w) "prepare" x B [] env)
 (s:iL h0 m o (.Call (.Attribute (.Name "sorter" w) "prepare" x) [] [] B)) (t:hY U o h0 (l h0 r) [("sorter",.val (.ref b.x))]):oq U (n+5) h0 r m b.D (λu v=>v=.none/\∃y,u=(b.eh y).D):=by
 show oq.zQ (ae:=b.x) (aE:=147) (Γ:=[("sorter",.val (.ref b.x))]) (dW:=["self"]) (ds:=[]) (gA:=[.val<| .ref b.x]) s d.lim t (λe X k f u v A C E=>?_) (q0 d).def rfl (λf X k F s=>?_) λe f r h0 k s t u=>Os d n e f _ k s b V t u h i j p q
 .obtain⟨G,g⟩:=g<|eC o e m;show zk (ij:=G) (Y:=#[U,n+4,eC o e m,X,[("sorter",.val (.ref b.x))],b.D]) (au:=a U) d.bC A C b.eI b.eR (by rfl) y0 (R.K 0 V) g λh' e f=>E [] h' e f .nil
 .show(q0 d).qp (.cons (.val _) F) V
def Ov (d:aR U){b:ax}(i:b.bo=c)(j:b.bz)(k:∀p∈b.P,∀g∈p.2.2,g∈cP b.P)(q:b.br.length<=900)(e:ak)(r:e≠[])(s:e.length<=1000)(t:k8 b.P=O (O e))
 (h:∀env,ou (.Name "sorter" w) "prepare" x B [] env)
 (u:iL h0 m o (.Call (.Attribute (.Name "sorter" w) "prepare" x) [] [] B)) (v:hY U o h0 (l h0 M) [("sorter",.val (.ref b.x))]):ks U (n+5) h0 M m b.D (λy A C=>A=.ref 110/\∃E,y=(b.eh E).D):=by
 show ks.zQ (ae:=b.x) (aE:=147) (Γ:=[("sorter",.val (.ref b.x))]) (dW:=["self"]) (ds:=[]) (gA:=[.val<| .ref b.x]) u d.lim v (λf X p g w x F G H=>?_) (q0 d).def rfl (λg X C I p=>?_) λf g p u v w x y A=>Ot d n f g p u v b y w x A i j k q e r s t
 .obtain⟨J,h⟩:=h<|eC o f m;show zk (ij:=J) (Y:=#[U,n+4,eC o f m,X,[("sorter",.val (.ref b.x))],b.D]) (au:=a U) d.bC F G b.eI b.eR (by rfl) y0 (R.K 0 V) h λh' e f=>H [] h' e f .nil
 .show(q0 d).qp (.cons (.val _) I) V
end
section
variable {U:aV}
def aR.Ow (To:aR U)(K:Y.d=U)(k:u I Y aa.heap)(L:Y.D=Tp++(m,.tab w)::Tq)
 (N:∀a∈w,(pos.line==a.1.line&&pos.col==a.1.col)=z->a.2=Y.J.qual++"<genexpr>") (P:Y.J.code=.ref M) (Q:dg U.B M m)
 (D:∀R h' x,u I Y h'->(∀b o,b≠m->aa.heap.get? b=O o->h'.get? b=O o)->S4 R {aa with heap:=h',toks:=x}):
 ar Tr Ts (genexprCode Y.J pos (Y.J.qual++"<genexpr>") Tt) S4 Tu aa:=by
 show bB λe f=>?_;obtain⟨S,T,env,X,Γ,own⟩:=Y;show f ?_;clear f e;dsimp only at*;subst K;subst L;show am (k.D (m,j.tab w)<|by simp) λW K=>?_;show bB λe f=>?_;show g3 K.zo λp q y S5=>?_;show f ?_;clear f e;have K:=(Q.keeps k.fq).code q y;show bB λe f=>?_;show hx (id K) λo d Q R S4 L=>?_;show hx L λQ R S4 To Tp K=>?_;show oU K λS6 hd S7 S8 L=>?_;show oU L λS9 Ta Tb A K=>?_;show cd K λE Tc L=>?_;show f ?_;clear f e;replace A:=q▸A;obtain rfl:=fU A;unfold genexprCode codeAt;mspec P;mspec if_neg (show ¬((na M==nX)=z)from pn);show ap<|Fh S6 hd ?_;mspec S7;show ap<|Fh q E ?_;cases E;cases hnf:lv pos p.toList with
 |some B=>show ba<|D B aa.heap aa.toks k λb o A a=>a
 |none=>
  mspec S8;mspec S9;mspec Ta;mspec Tb;show ap<|wpAny_newCode λg A h' x F s E K Td=>?_;have G:=F _ _ q;show ap<|wpAny_updateFieldsOfTheText G V ?_;have H:(q5 (λd=>if(lv pos d.toList).isSome=z then d else d++(aRR [d4 pos.line,d4 pos.col,.ref g]))<|nO p)=nO (p++(aRR [d4 pos.line,d4 pos.col,.ref g])):=by
   simp[q5,hnf]
  have t:=nc (h:=h') (λo=>q5 (λd=>if(lv pos d.toList).isSome=z then d else
   d++(aRR [d4 pos.line,d4 pos.col,.ref g])) o) G (EX<|by show aI H V)
  replace t:=H▸t;show ap<|Fh t V ?_;have C:(p++(aRR [d4 pos.line,d4 pos.col,na g])).toList=p.toList++[d4 pos.line,d4 pos.col,.ref g]:=by simp
  mspec C;mspec codeAmong_snoc _ Tc hnf;have e:cN [m] aa.heap (h'.update m<|λo=>q5 (λd=>if(lv pos d.toList).isSome=z then d else d++(aRR [d4 pos.line,d4 pos.col,.ref g])) o):=λb o n a=>(jh ..).extBut b o (by simpa using n)<|F b o a;have Te:=l.fM (Z:=X) e (by simpa using W);show ba (D _ _ x (u.qo (Y:=#[S,T,env,X,Γ,[]]) (ex:=.tab w) k e<| .tab t (by mspec C;show Ez y) λa J=>?_) λb o n a=>e b o (eM n) a);mspec C;mspec Ex y;rcases S5 _ J with r|⟨B,r,Tf⟩
  .mspec r;mspec Ey;by_cases i:((pos.line:Int)==a.1.line&&(pos.col:Int)==a.1.col)=z
   .mspec if_pos i;show .inr<|as _ V ?_;mspec N a J (by simp at i ⊢;show#[cZ ((ay<|jm i.1))<|(ay (jm i.1).symm),cZ ((ay<|jm i.2))<|(ay (jm i.2).symm)]);show bB λe f=>?_;show xm Td λd Tg Th Ti Tj Tk Tl Tm=>?_;show f ?_;clear f e;cases Tj;have Tn:g≠m:=λa=>by replace s:=a▸s;show absurd (gl q)<|g8.mpr s
    show xn g Tg Th Ti V (cb _ ((jh ..).extBut _ _ Tn Tk) λa=>?_) Tl Tm;show v (k.cw _ a) λo r=>?_;show b5 (qk s) r
   .mspec if_neg i;show .inl V
  .mspec r;mspec Mz;show .inr<|as B V<|Tf.keeps Te
def aS.Ox (Tz:aR U){TA Td kx:T}{bD b3:aD}{i3:ak}(TY:Y.d=U)(TZ:Te.bY=z)(TB:Y.D=bD++(Td,.tab dj)::b3)
 (T0:∀A∈dj,(M.line==A.1.line&&M.col==A.1.col)=z->A.2=Y.J.qual++"<genexpr>") (T1:Y.J.code=.ref TA) (T2:dg U.B TA Td) (T3:Y.J.globals=hQ)
 (T4:(x,.val (.ref kx))∈Y.p) (hd:(x==("__debug__":i))=aj) (T5:(x==("__classdict__":i))=aj) (TC:(kx,.list (i3.map .str))∈Y.D) (UB:i3.length<=1000) (T6:JoinOk S4 i3=z)
 (T7:m.isCoroutine=aj) (T8:iT m Y.J=pure []) (T9:∀J∈m.names,J.2≠ .cell) (h0:m.names.lookup (".0":i)=O NameKind.local) (Ua:m.names.lookup w=O .local) (Ub:m.kind=.function)
 (Uc:∀(D:cV)(Tf:bX)(TD:T)(TE:a3)(Ud:T)(s:aM)(K:i->Option a3)(Tp:i)(k:fg),D.handled=c->Tp∈i3->s.heap.Ns TD K->K w=O (.str Tp k)->ar (b2 U.prog U.w) D (eval S5<|genEnv m [] TD TE Ud Y.J) (λJ Ue=>(∃Uf,J=sQ Tp Uf)/\Keeps s Ue) Tf s)
 (TF:bf [.GeneratorExp S5 [#[.Name w Tg,.Name x S6,[],0]] m M] Y.J=(aj,eval (.GeneratorExp S5 [#[.Name w Tg,.Name x S6,[],0]] m M) Y.J)::bf [] Y.J) (Ug:∀w,genFold (.Name x S6) Y.J w=pure w)
 (Tq:∃Th:ib Bool,eval (.Call (.Attribute (.Constant (.str S4) TG TH) "join" TJ) [.GeneratorExp S5 [#[.Name w Tg,.Name x S6,[],0]] m M] [] Tr) Y.J=(do
  let TK <-eval (.Constant (.str S4) TG TH) Y.J
  ep TJ.atName
  let(Uh,first) <-e5 [TK] (gK TK "join" Th)
  dO Tr Uh first (cX Tr<|bf [.GeneratorExp S5 [#[.Name w Tg,.Name x S6,[],0]] m M] Y.J) [])):
 aS Y Te (.Call (.Attribute (.Constant (.str S4) TG TH) "join" TJ) [.GeneratorExp S5 [#[.Name w Tg,.Name x S6,[],0]] m M] [] Tr) (iJ Y<| .str<|dC S4 i3):=.mk λTs Ti m Tt Tj t A=>by
 show v Tq λTh Tq=>?_;subst TY;show jO (pl:=Th) (R.cy.go Ts Ti _ Tt Tj.todz t.tocU λq m w M x=>?_) Tq;have Tu:=t.keep M;show fD.str su sv Ts {Ti with heap:=m,toks:=w} _ Tt q Th Tu.tocU x ?_;show v x.dN λM P=>?_;show bw P ?_;show mh (first:=[.str S4 M]) (kP ?_ TF) TF e;show bB λB p=>?_;show hx Tz.kb λx M S4 S5 S6 S=>?_;show p ?_;clear p B;show wpAny_GeneratorExp_walksQD Tj.handled T7 T8 T9 h0 Ua Ub (by have:=Tj.depth;show b9 [.aK (.y G N)<| .n nU] 0 (.Q G) (.n nU) H this) ((R.name T4 hd T5).go Ts {Ti with heap:=m,toks:=w} _ Tt Tj.todz Tu.tocU λm d Ui Uj Uk=>?_) Ug;obtain rfl:=Uk.is;have Tk:=Tu.keep Uj;show bB λB p=>?_;show aX ((Tk.D _ TC).2.ey) λC m TI=>?_;show p ?_;clear p B;have w:=PlainList.fV m;show xH w ?_;have Tl:=Tk.iG<|d3 (al:=d);have TL:(d.push<|fa kx 0).get? d.objs.size=O (fa kx 0):=dL _ e;have TM:=Tk.gI d3 #[_,TL]<|E.push _ _;have Ul:=w.push<|fa kx 0;have Um:kx≠d.objs.size:=λl=>by show v m λa o=>?_;have W:d.get? kx=_:=o;replace W:=l▸W;replace W:=d3▸W;cases W
 have m:(d.push<|fa kx 0).objs.size=d.objs.size+1:=mi _ _;have Un:∀b o,Y.d.B.get? b=O o->b≠d.objs.size:=λb o l A=>by
  have:=Tk.fq _ _ l;replace this:=A▸this;replace this:=d3▸this;cases this
 generalize m:d.push (fa kx 0)=h₃ at*;show#[S.nolimit.keeps TM.fq,?_];show aR.Ow Tz (Y:=#[Y.d,Y.n,Y.J,d.objs.size::Y.X,Y.p,Y.D]) (I:=Te) (aa:={Ti with heap:=h₃,toks:=Ui}) V TM TB T0 T1 T2 λTE Tv m Tm TN=>?_;have TO:(Td,j.tab dj)∈Y.D:=by mspec TB;simp
 show bB λB p=>?_;show tW S.bmain λS5 S6 m w x M W S4=>?_;show p ?_;clear p B;show wpAny_builtinsFor (T3▸S.g.keeps Tm.fq) m w (Tm.fq _ _ x) M W S4 ?_;have TP:Tv.get? d.objs.size=O (fa kx 0):=TN _ _ (show Td≠d.objs.size from λl=>Tl.2.1<|l▸(t.D _ TO).1).symm TL;have TQ:Tv.IsList kx C.toArray:=by show aX Ul λo X Uo=>?_;show as o (TN _ _ ((q6 t TO TC (by intro l;cases l))).symm X) Uo
 have Tw:C.length=i3.length:=by have:=TI.length;simpa using this
 have Up:∀h q,C.toArray[h]?=O q->∃k,q=sQ (i3.getD h "") k:=λh q Z=>by
  have TR:C[h]?=O q:=by simpa using Z
  have Tn:h<i3.length:=Tw▸(gG.mp TR).1;show aX (TI.get (L:=h) (af:=.str i3[h])<|by simp[Tn]) λm S7 r=>?_;replace S7:=TR▸S7;obtain rfl:=fU S7;show v r.dN λk P=>?_;show bw P ?_;show dm k (by simp[oz,Tn])
 show#[d.objs.size,[d.objs.size,kx],[d.objs.size],C.toArray.size,_,_,λa=>z,λh J=>∃k,J=sQ (i3.getD h "") k,V,λD Tx=>Walks.list Tx _ _ Um C.toArray,#[(fo _ TP V rfl),TQ],?_,S.nolimit.keeps Tm.fq,?_,?_,?_]
 .intro b f;show aw (a4 f) (λS8=>?_) λf=>?_
  .obtain rfl:=S8;show gl TP
  .mspec bW f;show aX TQ λo X a=>?_;show gl X
 .intro f;show bB λB p=>?_;show aX S.nodigits λw m a=>?_;show eW m λo a a X a=>?_;show p ?_;clear p B;show Un _ _ X<|bW f
 .intro m p;show#[λD Tf h q s K a a a a a a a=>ba #[H,s.heap,s.toks,V,λa a l=>l],λD Tf h q s K Tx a a TS a Uq Ur a=>?_];obtain⟨k,rfl⟩:=Up h q TS;have Tn:h<i3.length:=by show ch Tw ?_;simpa using(Ka.mp TS).1
  show Uc D Tf _ _ _ s K _ k Tx (by mspec oz;mspec gm Tn;show oA _) Uq Ur
 .intro Us m p Ut Uu TT Uv Uw Ux Uy;show ly ?_;have Ty:passing (λa=>z) C.toArray.size 0=h7 i3.length:=by
   unfold passing;simp[Tw]
  show SC.joinGen Ux.in4_2 (λh TU t=>t.1.typeIs) Uy (λb f=>?_) ao (λF q Z=>?_) (λTU S9 To TV=>?_) (by mspec Ty;mspec jP;unfold aC;show b0)
  .mspec Uv;show aw (a4 f) (λS8=>?_) λf=>?_
   .obtain rfl:=S8;show fA _
   .rcases a4 f with rfl|f
    .show qg TT
    .show qg<|vX (iW.mp f) TT
  .show v Z λh m=>?_;show am m λa P=>?_;show v P λk Te=>?_;show dM _ k Te
  .have Uz:S9.map (·.1)=i3:=by
    have TW:S9.length=i3.length:=by have:=TV.1;replace this:=Ty▸this;replace this:=jP▸this;simpa[strValues]using this
    apply Oy;intro F;by_cases Ta:F<i3.length
    .have TX:F<S9.length:=TW▸Ta;obtain⟨h,Tb,k,Z⟩:=TV.2 F (.str S9[F].1 S9[F].2) (by simp[strValues,gm TX]);replace Tb:=Ty▸Tb;replace Tb:=(rU Ta)▸Tb;obtain rfl:=fU Tb;injection Z with S7 _
     simp[gm TX,Ta,S7,oz]
    .mspec nZ (by simpa[TW]using Oz Ta);show aI (nZ<|Oz Ta) V
   mspec Uz;show#[T6,λa h=>?_];have UA:cN [d.objs.size] Tv TU.heap:=λb o n l=>To.heap b o (λTc=>by
    show aw (a4 Tc) (λS8=>?_) λTc=>?_
    .obtain rfl:=S8;show mQ _<|gl l
    .show n Tc)<|Uw b o l
   have a:=u.drop (Y:=Y) (cz:=d.objs.size) Tm (t.hB) Tl.2.1 Tl.1 Tl.2.2.1 t.sub UA;show A _ _ #[To.drawn,To.os,λf=>To.gens.bare<|AllBare.push (g:=Ut) f Uu,λf=>?_] #[Y.X,Y.D,_,(cG V rfl rfl),λUs Tc=>Tc,a,.str _ _];replace f:=TZ▸f;cases f
end
section
open PySem.StrLaws PySem.Builtin PySem.Builtin.Str
noncomputable abbrev az (ag:bP):i:=#[ag.toArray]
def gB (a:bP):(az a).length=a.length:=rfl
def Fi (f g:i)(d a j:Nat)(l:1<=j):
 (pz f g d a j=[]/\∀e,d<=e->¬At f g a e)\/
 ∃e r,pz f g d a j=e::r/\d<=e/\At f g a e/\∀k,d<=k->k<e->¬At f g a k:=by
 rw[occ_eq];rcases occ_first f g a j l (Fj d<|a+1 - d) d (λe a=>by have:=OA.mp a;show this.1)with⟨h0,l⟩|⟨p,m,q,n,h0,o,l⟩
 .show .inl #[by show aI h0 V,λe p a=>?_];show l e (by have:=a.1;show(OA).mpr ?_;lia) a
 .have e:=range'_split_from n;show .inr<|kM m (((forIn (Fj d<|a+1 - d) (((aRR []):Array Nat),d)<|occBody f g a j).run.fst.toList).tail) ?_ e.1 o<|λk n p=>l k<|e.2 k n p;generalize(forIn (Fj d<|a+1 - d) (((aRR []):Array Nat),d)<|occBody f g a j).run.fst=arr at h0;have h:arr.toList[0]?=O m:=by simpa using h0
  cases hL:arr.toList with
  |nil=>replace h:=hL▸h;cases h
  |cons b a=>replace h:=hL▸h;simp at h;mspec h;rfl
def vY (a:r<=m.length):At (az m) (az [o]) r n↔n<r/\m[n]?=O o:=by
 have d:=subAt_one (az m) o n;have a:(az [o]).length=1:=rfl;unfold At;constructor
 .intro a;show am a λe b=>?_;show#[by assumption,d.mp #[by show(?_:n+1<=m.length);show a5 ‹_› ‹_›,b]]
 .intro a;show am a λe b=>?_;show#[by assumption,(d.mpr b).2]
inductive vZ (ag:bP)(q b d:Nat):Int->Prop
 |nA (ai:Nat):b<=ai->ai<d->ag[ai]?=O q->(∀a,b<=a->a<ai->ag[a]?≠O q)->vZ ag q b d ai|no:(∀a,b<=a->a<d->ag[a]?≠O q)->vZ ag q b d (-1)
section
variable {Y:bc}{I:aO}
def OB (a e:i)(d b:Nat)(f g h j:fg)(n:b<=a.length):Gives («str.find» #[[.str a f,.str e g,.int d h,.int b j],[]]) (.int (match pz a e d b 1 with|m::_=>(m:Int)|[]=> -1)):=by
 have k:(max (0:Int) (if(d:Int)<0 then(d:Int)+a.length else d)).toNat=d:=by mspec if_neg (by simp+arith);simp+arith
 have l:min (max (0:Int) (if(b:Int)<0 then(b:Int)+a.length else b)).toNat a.length=b:=by mspec if_neg (by simp+arith);grind
 show Gives (match pz a e (max (0:Int) (if(d:Int)<0 then(d:Int)+a.length else d)).toNat (min (max (0:Int) (if(b:Int)<0 then(b:Int)+a.length else b)).toNat a.length) 1 with|m::_=>retInt m|[]=>(do rule "str.find.not-found";retInt (-1))) _;mspec k;mspec l;cases pz a e d b 1 with
 |nil=>show .rule<| .of_eq V
 |cons m _=>show .of_eq V
def bO.OC {i f e:Nat}(j:e<=m.length)(t:vZ m i f e r):bO Y (.builtin "str.find") [.str<|az m,.str<|az [i],.int f,.int e] (.int r):=.mk λl w y A C D F g x=>by
 show cm g.hy λl l a=>?_;show eN a λy g=>?_;show cm g.hy λl l a=>?_;show eN a λl g=>?_;show cm g.eT λA C a=>?_;show eN a λg A=>?_;show v y.dN λC a=>?_;show bw a ?_;show v l.dN λy a=>?_;show bw a ?_;show v g.df λl a=>?_;show bw a ?_;show v A.df λg a=>?_;show bw a ?_;show call_gives OD (ob _ _ _) PySem.F.entry_str_find (PySem.F.args_str_find_4 _ _ _ _) (OB _ _ f e _ _ _ _ j) ?_;have I:(match pz (az m) (az [i]) f e 1 with|d::_=>(d:Int)|[]=> -1)=r:=by
  show aw (Fi (az m) (az [i]) f e 1<|cg 1) (λg=>?_) λB=>?_
  .show am g λh0 n=>?_;mspec h0;cases t with
   |no=>rfl|nA h o b p _=>show absurd ((vY j).mpr #[b,p])<|n h o
  .show cm B λk e a=>?_;show iQ a λh0 u e n=>?_;mspec h0;have q:=(vY j).mp e;cases t with
   |no s=>show absurd q.2<|s k u q.1
   |nA h o b p s=>
    show(?_:(k:Int)=h);show aw (Nat.lt_trichotomy k h) (λd=>?_) λa=>aw a (λd=>?_) λd=>?_
    .show absurd q.2<|s k u d
    .show aI d V
    .show absurd ((vY j).mpr #[b,p])<|n h o d
 mspec I;show x _ w.heap _ (E.bd _)<| .int _ _
def bO.sU (b:(ae.length:Int)<2^63):bO Y (.builtin "len") [.str ae] (.int ae.length):=.mk λa d h i j k l e g=>by
 show v e.one λh a=>?_;show ci a λe=>?_;show v e.dN λh a=>?_;show bw a ?_;show P.len_str (λa=>kI [↑ae.length] [.aK f<| .n 9223372036854775808,.C (.n 9223372036854775808) f] H b a)<|g _ d.heap _ (E.bd _)<| .int _ _
def av.OE:av Y .NotIn (.str<|az [b]) (.str<|az m) (!decide (b∈m)):=.mk λa b g h i j k l d e f=>by
 show v d.dN λg a=>?_;show bw a ?_;show v e.dN λd a=>?_;show bw a ?_;show P.notIn_str ?_;rw[found_one];show f b.heap b.toks<|E.bd _
def Fk {a:bP}{b:Nat}(g:b∉a)(h:n (.str (az a) o) r):ar (b2 w x) B (dU (.builtin "str.replace") [.str (az a) o,.str (az [b]) M,.str m S4]) n S5 r:=by
 have I:pz (az a) (az [b]) 0 (az a).length ((az a).length+1)=[]:=by
  show aw (Fi (az a) (az [b]) 0 (az a).length ((az a).length+1)<|by simp+arith) (λi=>?_) λj=>?_
  .show am i λh0 e=>?_;show h0
  .show cm j λk l i=>?_;show iQ i λh0 e j e=>?_;show absurd (ic ((vY<|cg _).mp j).2) g
 have f:((pz (az a) (az [b]) 0 (az a).length<|(az a).length+1).isEmpty||((az [b]).length==0&&m.length==0))=z:=by mspec I;rfl
 show call_gives Fl (ob _ _ _) PySem.F.entry_str_replace (PySem.F.args_str_replace_3 _ _ _) (gives_str_replace (az a) (az [b]) m _ _ _ λd=>by replace d:=f▸d;cases d) ?_;mspec if_pos f;show h
def bO.OF (d:m∉b):bO Y (.builtin "str.replace") [.str<|az b,.str<|az [m],.str n] (.str<|az b):=.mk λa e g h i j k b f=>by
 show cm b.hy λg g a=>?_;show eN a λg b=>?_
 .show cm b.eT λh i a=>?_;show eN a λb h=>?_;show v g.dN λi a=>?_;show bw a ?_;show v b.dN λg a=>?_;show bw a ?_;show v h.dN λb a=>?_;show bw a ?_;show Fk d<|f _ e.heap _ (E.bd _)<| .str _ _
def Fm {d a:i}{e b h f:di}{ag:bP}(s:q∉ag)(t:d=az [q])
 (u:ar (b2 w x) B (eval o env) (λj k=>∃g,j=.str (az ag) g/\∀y,M (.str (az ag) g) {k with toks:=y}) S4 S5)
 (l:bf [.Constant (.str d) n e,.Constant (.str a) m b] env=(aj,eval (.Constant (.str d) n e) env)::bf [.Constant (.str a) m b] env) (p:bf [.Constant (.str a) m b] env=(aj,eval (.Constant (.str a) m b) env)::bf [] env)
 (A:eval (.Call (.Attribute o "replace" h) [.Constant (.str d) n e,.Constant (.str a) m b] [] f) env=(do
  let r <-eval o env
  ep h.atName
  let(S6,first) <-e5 [r] (gK r "replace" S7)
  dO f S6 first (cX f<|bf [.Constant (.str d) n e,.Constant (.str a) m b] env) [])):
 ar (b2 w x) B (eval (.Call (.Attribute o "replace" h) [.Constant (.str d) n e,.Constant (.str a) m b] [] f) env) M S4 S5:=by
 subst t;show jO (pl:=S7) (dq u (λj k a=>?_) λb b I=>I) A;show v a λg b=>?_;show ci b λC=>?_;show qw (ob _ _ _) Jm Fl OG (λa I=>by cases I) ?_;show mh (first:=[.str (az ag) g]) (kP (oX<|kP (oX<|ly ?_) p) l) l (by mspec p;rfl);show Fk s<|C _
def av.OH:av Y .Gt (.str<|az [m]) (.str<|az [b]) (decide (b<m)):=.mk λa d h i j k l n e f g=>by
 show v e.dN λh a=>?_;show bw a ?_;show v f.dN λe a=>?_;show bw a ?_;show P.gt_str ?_;have I:decide ((az [b]).cps.toList<(az [m]).cps.toList)=decide (b<m):=by
  show(?_:decide ([b]<[m])=_);rw[lt_cons_cons];mspec lt_nil_nil;simp
 mspec I;show g d.heap d.toks<|E.bd _
def b6.OI (I:ae.cps.toList.getLast?=O q):b6 Y (.str ae) (.int<| -1) (.str #[(aRR [q])]):=.mk λh d i j l m n o e f g=>by
 obtain⟨h,rfl⟩:=e.dN;show v f.df λh e=>?_;show bw e ?_;have b:0<ae.length:=by
  obtain⟨⟨a⟩⟩:=ae;cases a with
  |nil=>simp at I|cons e a=>show oR _
 show f5 ("str") _ (ob _ _ _) CY.lookup<|J9 (c:=q) (k H) ?_<|g _ d.heap _ (E.bd _)<| .str _ _;mspec StrLaws.seqIndex_neg (k V) (by lia);obtain⟨⟨a⟩⟩:=ae;have b:0<a.length:=b;show(?_:(tF a)[((-1:Int)+(a.length:Int)).toNat]?=O q);mspec(show((-1:Int)+(a.length:Int)).toNat=a.length - 1 from by lia);show ch I ?_;mspec IA;simp
def jE.made {a:j}{b:Option Int}(e:jE a b)(r:a9 n o m a):∃d:Option (Int×fg),m=partValue d/\d.map (·.1)=b:=by
 cases e with
 |none=>obtain rfl:=r.is;show as Option.none V rfl|int f=>show v r.df λa b=>?_;show bw b ?_;show as (O (f,a)) V rfl
def OJ (a:i)(b d:Option Int):(jY a b d).length<=a.length:=by
 unfold jY;split
 .show cg _
 .show(?_:(tF _).size<=_);mspec o3;show a5 (List.length_filterMap_le _ _)<|sliceIndices_le b d a.length
def R.ra {g h:Option c4}{m n:j}{a:i}(s:R Y w (.str a))(t:md Y g m)(x:md Y h n)(y:jE m B)(A:jE n M)(C:a.length<=aC):
 R Y (.Subscript w (.Slice g h c S4) pos) (.str<|jY a B M):=.mk λm n B w g h p=>by
 show xz<|s.go m n _ w g h λo M N k B=>BW<|t.run g (h.keep k) λm n s q D=>x.run g ((h.keep k).keep q) λm F n G H=>?_;show v B.dN λf g=>?_;show bw g ?_;obtain⟨b,rfl,rfl⟩:=y.made D;obtain⟨d,rfl,rfl⟩:=A.made H;rw[evalPart_none];show ba<|t7 (ob _ a f) CY.lookup (wpAny_getItem_str_slice (l:=b) (u:=d) (st:=c) (fo _ (dL _ e) V rfl) e ?_)<|t9 _ _ _;have r:=((k.trans q).trans G).trans<|E.push F {cls:=.type "slice",data:=.fields (aRR [partValue b,partValue d,.none])};have J:sliceMade a f b d c=.val (.str a f)/\jY a (b.map (·.1)) (d.map (·.1))=a\/sliceMade a f b d c=.str (jY a (b.map (·.1)) (d.map (·.1))):=by
  unfold sliceMade jY slicePicked;dsimp only[Option.map_none,Option.getD_none];split
  .show .inl #[V,V]
  .show .inr V
 rcases J with⟨I,L⟩|I
 .mspec I;show p _ _ _ r (by mspec L;show .str _ _)
 .mspec I;show#[a5 (OJ a (b.map (·.1)) (d.map (·.1))) C,p _ _ _ r<| .str _ _]
def bO.OK {d b a:Int}(f:a≠0)(g:xu (b - d) a=aj):bO Y (.type "range") [.int d,.int b,.int a] (.iz d b a):=.mk λa j k m n o h d i=>by
 show cm d.hy λj j a=>?_;show eN a λj d=>?_
 .show cm d.eT λk m a=>?_;show eN a λd k=>?_;show v j.df λm a=>?_;show bw a ?_;show v d.df λj a=>?_;show bw a ?_;show v k.df λd a=>?_;show bw a ?_;show call_range_3 f (i _ _ _ (E.push _ _)<| .iz (aT:=m) (a8:=j) (an:=d)<|l.l9 h _ e)<| .inl g
def aN.erase (r:aN m n b ds):∀a,aN m n (b.eraseIdx a) (ds.eraseIdx a):=r.l8 (aB:=λb ds=>∀a,aN m n (b.eraseIdx a) (ds.eraseIdx a)) (λf=>.nil) λd r e a=>by
 cases a with
 |zero=>show r|succ a=>show .cons d<|e a
def Fn {n:Nat}:Ca n 0 (-1)=(n:Int):=by
 unfold Ca;simp
 try lia
def cA.down {n:Nat}(k:n<=1000):cA Y (.Name x B) (.iz n 0<| -1) ((h7 n).map λa=>.int ((n - a:Nat):Int)):=.mk λx g A B D F I q h=>by
 show j5 q.is λd d d d i=>?_;show ci i λr=>?_
 .have u:OL n 0 (-1)=z:=by
   unfold OL;mspec Fn;simp[Builtin.Range.rangeFitsLong];show ej.mpr<|dK [.C G<| .n 1000] 0 (.Q G) (.n 9223372036854775808) H k
  show IS (l.of _ _ r) u ?_;have t:((h7 n).map λa=>j.int ((n - a:Nat):Int)).length=n:=by simp
  show h g.heap.objs.size [g.heap.objs.size] (λa k=>∃p,k=.int (n+a*(-1)) p) (λa q=>ul q g.heap.objs.size (n+(a:Nat)*(-1)) ((n:Int) - (a:Nat))<| -1) _ #[d3,(λu x=>?_),
   ?_,(λa q A=>#[_,A]),(λb r=>?_),(λb r=>.inl<|bW r),(E.push _ _),(λa k A s=>?_),(λu a q k d d B D F d h=>ba h)]
  .mspec t;show Walks.range x _ _ _ _
  .show(?_:ul _ _ _ _ _);mspec Fn;simpa[ul]using(dL g.heap (o:={cls:=.type "range_iterator",data:=.fields (aRR [d4 n,d4 (n:Int),d4 (-1)])}) e)
  .rw[mi];mspec bW r;show#[fA _,.inl V]
  .show v A λp i=>?_;show bw i ?_;rw[t]at s;show as (.int<|n+a*(-1)) ?_<| .int _ p;mspec e6;mspec rU s;show(?_:O (j.int ((n - a:Nat):Int))=O (j.int _));show congrArg (λd=>O<|j.int d)<|gr (bh [↑(n - a),↑n,↑a] [.C (.y f d7) aA] 0 f (.y aA<| .w d7<| -1) H (dH.mpr (ay<|e8 (n:=n) (m:=a)<|b9 [.aK G N] 0 G N H s):))<|bh [↑n,↑a,↑(n - a)] [.C f<| .y d7 aA] 0 (.y f<| .w aA<| -1) d7 H (dH.mpr (eY<|cg<|n - a):)
def OM {a:T}(e:IsL b.heap a o n)(g:ON m=z)(h0:0<=m)(h:m<o.size)
 (i:x () {b with heap:=b.heap.update a<|jn λf=>f.setIfInBounds m.toNat w}):ar (b2 M S4) S5 (setItem (.ref a) (.int m B) w) x S6 b:=by
 have f:b.TypeIs (.ref a) "list":=as _ e V;unfold setItem
 try with_reducible show g6 ?_
 show ap (wpAny_sequenceKey f (k H)<|ap<|NJ (name:=jr "__setitem__") f OO
  (wpAny_call_entry OO f PySem.F.entry_list_setitem ?_<|PySem.F.args_list_setitem_3 _ _ _))
 show(?_:ar _ _ (Builtin.List.listSubscript? (.int m B) >>= _) _ _ b);show ap<|wpAny_listSubscript_int g ?_;clear g;obtain⟨d,rfl⟩:=pA h0;have h:d<o.size:=by show ej.mp ‹_›
 show(?_:ar _ _ ((seqItemAt a d >>= λr=>pure (r.map (d,·))) >>= _) _ _ b);show ap<|ap<|wpAny_seqItemAt e V<|ba ?_;mspec Array.getElem?_eq_getElem h;show(?_:ar _ _ (setSeqItemAt a d w >>= _) _ _ b);show ap<|wpAny_setSeqItemAt e V ?_;show ba<|as .none V<|ba i
def g.OP {a:T}{s:Nat}{af:j}{ds:dn}{bD b3:List (T×j)}(M:R Y x af)(N:R Y B (.int (s:Nat)))(P:(m,.val (.ref a))∈Y.p)(hd:(m==("__debug__":i))=aj)(S:(m==("__classdict__":i))=aj)
 (y:Y.D=bD++(a,.list ds)::b3) (A:s<ds.length) (U:ds.length<=100000) (V:f7 x (O<| .Subscript (.Name m S4) B S5) pos.line Y.J=pure aj):
 g Y I (.Assign [.Subscript (.Name m S4) B S5] x pos) (c0 (u I #[Y.d,Y.n,Y.J,Y.X,Y.p,bD++(a,.list (ds.set s af))::b3]) S7):=.mk λe m h k d=>by
 show CC (M.go e m _ h k.todz d.tocU λb x B p W=>(R.name P hd S).go e _ _ h k.todz (d.tocU.keep p) λo m x q X=>N.go e _ _ h k.todz ((d.tocU.keep p).keep q) λm r x D Z=>?_) V;obtain rfl:=X.is;obtain⟨e,rfl⟩:=Z.df;have t:=((d.keep p).keep q).keep D;have E:(a,.list ds)∈Y.D:=y▸bA ao;show bB λe d=>?_;show aX ((t.D _ E).2.ey) λw h F=>?_;show v h λn G=>?_;show d ?_;clear d e;show OM (n:=n) G (fitsIndex_of (by show f3 _)<|bh [↑s,↑ds.length] [.aK f aA,.C aA<| .n 100000] 0 (.Q f) (.n 9223372036854775808) H (ej.mpr A:) (dH.mpr U:)) (by show f3 _) (by simp;show a5 A<|ay (F.length).symm) #[.up,?_];mspec show((s:Nat):Int).toNat=s from rfl
 have J:ia a r (r.update a<|jn λd=>d.setIfInBounds s b):=jh ..;have S6:u I #[Y.d,Y.n,Y.J,Y.X,Y.p,bD++(a,.list ds)::b3] r:=y▸t;have K:=t.pw E J;have L:=IsL.update (n:=n) G<|λd=>d.setIfInBounds s b;rw[show w.toArray.setIfInBounds s b=(w.set s b).toArray by simp]at L;show S6.kV J<| .list (a1:=w.set s b) #[_,L]<|aN.set ((W.keep<|l.keep _<|q.trans D).keep K) (F.keep K) s
def g.OQ (C:R Y M (.int (s:Nat)))(D:(m,.val (.ref b))∈Y.p)(hd:(m==("__debug__":i))=aj)(E:(m==("__classdict__":i))=aj)
 (h:Y.D=bD++(b,.list ds)::b3) (j:s<ds.length) (l:ds.length<=100000):
 g Y I (.Delete [.Subscript (.Name m S4) M S5] pos) (c0 (u I #[Y.d,Y.n,Y.J,Y.X,Y.p,bD++(b,.list (ds.eraseIdx s))::b3]) S6):=.mk λm K p q a=>by
 show wpAny_Delete<|NT<|NU<|(R.name D hd E).go m _ _ p q.todz a.tocU λo K L r F=>C.go m _ _ p q.todz (a.tocU.keep r) λD d E G J=>?_;obtain rfl:=F.is;obtain⟨m,rfl⟩:=J.df;have e:=(a.keep r).keep G;have t:(b,.list ds)∈Y.D:=h▸bA ao;show aX ((e.D _ t).2.ey) λf a w=>?_;show v a λn x=>?_;have y:=w.length;show PySem.P.delItem_list (n:=n) (k:=s) x (by simp[ON];show ej.mpr<|dG (a5 j l) H) (by mspec StrLaws.seqIndex_nonneg (by show f3 _) (by simp;show a5 j<|ay (y).symm);rfl) (NV #[.up,?_]) (by simp[aC];show dG (a5 (ay y) l) H);have A:ia b d (d.update b<|jn λa=>a.eraseIdxIfInBounds s):=jh ..;have B:=IsL.update (n:=n) x<|λa=>a.eraseIdxIfInBounds s;rw[show f.toArray.eraseIdxIfInBounds s=(f.eraseIdx s).toArray by simp]at B;show(show u I #[Y.d,Y.n,Y.J,Y.X,Y.p,bD++(b,.list ds)::b3] d from h▸e).kV A<| .list (a1:=f.eraseIdx s) #[_,B]<|aN.erase (w.keep<|e.pw t A) s
end
end
section
open PySem.StrLaws
inductive ec|rb|v0|v4|brk (ag:bP)
noncomputable def ec.lf:ec->bP
 | .rb=>[42]| .v0=>[63]| .v4=>[46]| .brk ag=>91::(ag++[93])
noncomputable def rc (ag:bP):bP:=if ag.headD 0=33 then ag.tail else ag
noncomputable def zS (ag:bP):bP:=if ag.headD 0=93 then ag.tail else ag
noncomputable def lg (ag:bP)(b:Nat):Option Nat:=((ag.drop b).findIdx? (·==45)).map (b+·)
noncomputable def nB:Nat->bP->Nat->Nat->List bP
 |0,ag,ac,_=>[ag.drop ac]|s+1,ag,ac,b=>match lg ag b with
  |none=>[ag.drop ac]|some ai=>(ag.drop ac).take (ai - ac)::nB s ag (ai+1) (ai+3)
def v5 {e:Nat}{a:bP}{d b:Nat}:nB (e+1) a d b=(match lg a b with|none=>[a.drop d]|some m=>(a.drop d).take (m - d)::nB e a (m+1) (m+3)):=rfl
noncomputable def mD (ag:bP):Nat:=if ag.head?=O 33 then 2 else 1
noncomputable def hM (ag:bP):List bP:=nB (ag.length+1) ag 0<|mD ag
noncomputable def fH:List bP->List bP
 |[]=>[]|q::r=>match fH r with
  |[]=>[q]|af::ds=>if af.headD 0<q.getLastD 0 then(q.dropLast++af.tail)::ds else q::af::ds
def v6 {a:bP}{r:List bP}:fH (a::r)=(match fH r with|[]=>[a]|b::ds=>if b.headD 0<a.getLastD 0 then(a.dropLast++b.tail)::ds else a::b::ds):=rfl
noncomputable def oB:List bP->Bool
 |[]=>z|q::r=>oB r&&(match fH r with
  |[]=>z|af::_=>!q.isEmpty&&!af.isEmpty)
def Fo {a:bP}{r:List bP}:oB (a::r)=(oB r&&(match fH r with|[]=>z|b::_=>!a.isEmpty&&!b.isEmpty)):=rfl
noncomputable def lh (ag:bP):bP:=if 45∈ag then(dC (az [45])<|(fH<|hM ag).map az).cps.toList else ag
noncomputable def Fp (ag:bP):Bool:=ag.all λq=>q !=38&&q !=124&&q !=126
noncomputable def v7 (ag:bP):Bool:=(hM ag).getLast? !=O []&&oB (hM ag)&&(fH<|hM ag).all (λq=>!q.contains 45&&!q.contains 92)&&JoinOk (az [45]) ((fH<|hM ag).map az)&&decide ((hM ag).length<=100)&&decide (((hM ag).map (·.length)).sum<=1000)
noncomputable def sW (ag:bP):Bool:=!(rc ag).isEmpty&&!(zS<|rc ag).contains 93&&!ag.contains 92&&decide (ag.length<=100)&&(!ag.contains 45||v7 ag)&&Fp (lh ag)&&decide ((lh ag).length<=100)
noncomputable def lV (aa:bP):bP:=if aa.headD 0=33 then 94::aa.tail else if aa.headD 0=94\/aa.headD 0=91 then 92::aa else aa
noncomputable def pB (aa:bP):bP:=if aa=[]then[40,63,33,41]else if aa=[33]then[46]else 91::(lV aa++[93])
noncomputable def ec.ok:ec->Bool
 | .brk ag=>sW ag|_=>z
noncomputable def ec.g4:ec->bS
 | .rb=>c| .v0=>O<|az [46]
 | .v4=>O<|az [92,46]
 | .brk ag=>O<|az<|pB<|lh ag
noncomputable def h2 (a:List bS):bS->List bS
 |none=>if a.getLast?=O c then a else a++[c]|some aa=>a++[O aa]
noncomputable def dv (gf:List ec):List bS:=gf.foldl (λa it=>h2 a it.g4) []
noncomputable def cc (gf:List ec):bP:=gf.flatMap ec.lf
def Fq (d:lg r b=O o):b<=o/\o<r.length/\r[o]?=O 45/\∀a,b<=a->a<o->r[a]?≠O 45:=by
 unfold lg at d;rw[f2]at d;obtain⟨o,g,rfl⟩:=d;rw[List.findIdx?_eq_some_iff_getElem]at g;show aX g λj h l=>?_;rw[k6]at j;show l6 (by simp+arith) (by grind) ?_<|λa i p=>?_
 .rw[OR]at h;mspec gm (by omega);show congrArg O (by simpa using h)
 .have e:=l (a - b) (by show c5 [.aK t<| .y aU N,.C (.y G aU) t] 0 (.Q G) N H p<|ay<|e8 (n:=a) (m:=b)<|i);rw[OR]at e;mspec gm (by grind);intro f;injection f with f
  simp only[(show b+(a - b)=a from by show cZ (bb [.C (.y N G) t] 0 (.y G N) t H<|ay<|e8 (n:=a) (m:=b)<|i)<|bb [.C G<| .y t N] 0 G (.y N t) H<|eY<|cg<|a - b),f]at e;show absurd e<|k H
def OS (d:lg o b=c):∀a,b<=a->o[a]?≠O 45:=by
 unfold lg at d;rw[Option.map_eq_none_iff,List.findIdx?_eq_none_iff]at d;intro a e f;have g:(o.drop b)[a - b]?=O 45:=by mspec vb;mspec(show b+(a - b)=a by show cZ (bb [.C (.y N G) t] 0 (.y G N) t H<|ay<|e8 (n:=a) (m:=b)<|e)<|bb [.C G<| .y t N] 0 G (.y N t) H<|eY<|cg<|a - b);show f
 show absurd (d _<|ic g)<|k H
structure nC (ca ag:bP)(L:Nat):Prop where
 len:L+ag.length<ca.length
 at_:∀a,a<ag.length->ca[L+a]?=ag[a]?
def nC.zT {d ac a:Nat}(e:nC n m d)(b:a<=m.length):(n.drop<|d+ac).take (a - ac)=(m.drop ac).take (a - ac):=by
 apply Oy;intro f;by_cases b:f<a - ac
 .mspec OT b;mspec OT b;mspec vb;mspec vb;rw[vn];show aI (e.at_ _<|by omega) V
 .mspec nZ (by show aI g9 ?_;show a5 (oo (a - ac)<|(B4 (d+ac) n).length)<|g8.mp b);show aI (nZ (by mspec g9;show a5 (oo (a - ac)<|(B4 ac m).length)<|g8.mp b)) V
def nC.OU (f:nC x r o):vZ x 45 (o+b) (o+r.length) (match lg r b with|some w=>((o+w:Nat):Int)|none=> -1):=by
 cases h:lg r b with
 |none=>show .no λa d e g=>OS h (a - o) (by show c5 [.C (.y t G) aU,.C aU<| .y N t] 0 G N V d<|eY<|cg<|a - o) (by rw[<-f.at_ _ (by show c5 [.aK t<| .y aU N,.C (.y G aU) t] 0 (.Q G) N V e<|ay<|e8 (n:=a) (m:=o)<|bb [.C (.y G t) N] 0 G N V d),show o+(a - o)=a by show cZ (bb [.C (.y N G) t] 0 (.y G N) t V<|ay<|e8 (n:=a) (m:=o)<|bb [.C (.y G t) N] 0 G N V d)<|bb [.C G<| .y t N] 0 G (.y N t) V<|eY<|cg<|a - o];show g)
 |some w=>
  show bB λj i=>?_;show iQ (Fq h) λd e k l=>?_;show i ?_;clear i j;show .nA (o+w) (bb [.C N t] 0 (.y G N) (.y G t) H d) (bb [.aK N t] 0 (.Q<| .y G N) (.y G t) H e) (by mspec f.at_ _ e;show k) λa d i g=>l (a - o) (c5 [.C (.y t G) aU,.C aU<| .y N t] 0 G N H d<|eY<|cg<|a - o) (c5 [.aK t<| .y aU N,.C (.y G aU) t] 0 (.Q G) N H i<|ay<|e8 (n:=a) (m:=o)<|bb [.C (.y G t) N] 0 G N H d) (by show ch (f.at_ _<|by show jA [.aK t N,.aK aU<| .y dx t,.C (.y G dx) aU] 0 (.Q G) N H e i<|ay<|e8 (n:=a) (m:=o)<|bb [.C (.y G t) N] 0 G N H d) ?_;mspec(show o+(a - o)=a by show cZ (bb [.C (.y N G) t] 0 (.y G N) t H<|ay<|e8 (n:=a) (m:=o)<|bb [.C (.y G t) N] 0 G N H d)<|bb [.C G<| .y t N] 0 G (.y N t) H<|eY<|cg<|a - o);show g)
def sX (a:bP)(d:m<=b)(e:b<=a.length):jY (az a) (O (m:Int)) (O (b:Int))=az ((a.drop m).take<|b - m):=sliceText_nat (az a) d e
def OV (a:bP)(b:a≠[]):jY (az a) c (O<| -1)=az a.dropLast:=by
 have d:0<a.length:=jl.mpr b;have b:jY (az a) c (O<| -1)=jY (az a) (O ((0:Nat):Int)) (O ((a.length - 1:Nat):Int)):=by
  unfold jY;rw[sliceIdx_none_lo];mspec sliceIdx_neg_hi _ _ (k V) (by rw[gB];lia);mspec(show((-1:Int)+((az a).length:Nat))=((a.length - 1:Nat):Int) by rw[gB];show gr (bh [↑a.length,↑(a.length - 1)] [.C f<| .Q aA] 0 (.y (.n<| -1) f) aA H (dH.mpr (eY<|cg<|a.length - 1):))<|bh [↑(a.length - 1),↑a.length] [.aK f aA] 0 f (.y (.n<| -1) aA) H (dH.mpr (ay<|e8 (n:=a.length) (m:=1)<|dK [.aK (.n 0) G] 0 (.n 1) G H d):));rfl
 mspec b;mspec sX a (by show ew _) (by simp+arith);mspec qe;rw[uK];show aI KC V
def Fr (a:bP)(b:a≠[]):jY (az a) (O 1) c=az a.tail:=by
 have d:0<a.length:=jl.mpr b;have b:jY (az a) (O 1) c=jY (az a) (O ((1:Nat):Int)) (O ((a.length:Nat):Int)):=by
  unfold jY;rw[sliceIdx_none_hi];rfl
 mspec b;mspec sX a (by assumption) (by simp+arith);mspec o7 (by simp);simp
def OW (b:r≠[]):∃a ds,fH r=a::ds:=by
 cases r with
 |nil=>show absurd V b|cons b r=>
  rw[v6];cases fH r with
  |nil=>show dM _ _ V|cons a ds=>dsimp only;split<;>show dM _ _ V
theorem Fs:∀{r:List bP}(b:Nat),oB r=z->oB (r.drop b)=z
 |[],b,a=>by rw[xq];rfl|d::r,0,a=>a|d::r,b+1,a=>by
  rw[Fo,i7]at a;show Fs b a.1
theorem zU:∀r:List bP,(fH r).length<=r.length
 |[]=>cg _|a::r=>by
  have:=zU r;rw[v6];cases h:fH r with
  |nil=>simp|cons a ds=>
   replace this:=h▸this
   try dsimp only
   split<;>simp at this ⊢<;>omega
theorem Ft:∀r:List bP,((fH r).map (·.length)).sum<=(r.map (·.length)).sum
 |[]=>cg _|a::r=>by
  have:=Ft r;rw[v6];cases h:fH r with
  |nil=>simp|cons a ds=>
   replace this:=h▸this
   try dsimp only
   split<;>simp at this ⊢<;>omega
theorem zV:∀{r:List bP},ae∈r->ae.length<=(r.map (·.length)).sum
 |d::r,a=>by
  mspec b7;mspec hW;show aw (a4 a) (λb=>?_) λa=>?_
  .obtain rfl:=b;simp+arith
  .have:=zV a;show bb [.C G t] 0 G (.y N t) H this
theorem zW:∀(r:List bP)(a:Nat),((r.drop a).map (·.length)).sum<=(r.map (·.length)).sum
 |[],a=>by simp|b::r,0=>cg _|b::r,a+1=>by have:=zW r a;simp at this ⊢;show bb [.C G t] 0 G (.y N t) V this
def pC (a b:bP):az a++az b=az (a++b):=by
 show(?_:(#[a.toArray++b.toArray]:i)=#[(a++b).toArray]);rw[List.append_toArray]
def OX (a:b≠[]):b.getLast?=O (b.getLastD 0):=by
 cases b with
 |nil=>show absurd V a|cons a b=>rfl
def v8 (a:b≠[]):b[0]?=O (b.headD 0):=by
 cases b with
 |nil=>show absurd V a|cons a b=>rfl
theorem zX:∀(a:Nat)(d:bP)(e b:Nat),(nB a d e b).length<=a+1
 |0,_,_,_=>cg _|a+1,d,e,b=>by
  rw[v5];cases lg d b with
  |none=>simp|some f=>have:=zX a d (f+1)<|f+3;simp;omega
section
variable {Y:bc}{I:aO}
def b6.oC (a:b[cC]?=O q)(d:cC<2^62):b6 Y (.str<|az b) (.int (cC:Nat)) (.str<|az [q]):=b6.str (by simpa using a) (by show b0)
def b6.OY (a:b≠[]):b6 Y (.str<|az b) (.int<| -1) (.str<|az [b.getLastD 0]):=b6.OI (ae:=az b) (q:=b.getLastD 0)<|OX a
def av.rd:av Y .Eq (.str<|az [m]) (.str<|az [n]) (m==n):=by
 have a:=av.BL (Y:=Y) (ac:=az [m]) (b:=az [n]);have I:(az [m]==az [n])=(m==n):=by
  rw[sY,beq_iff_eq,beq_iff_eq];constructor
  .intro a;injection a with a;simpa using a
  .rintro rfl;rfl
 rwa[I]at a
def av.OZ:av Y .NotEq (.str<|az [m]) (.str<|az [n]) (m !=n):=by
 have a:=av.BM (Y:=Y) (ac:=az [m]) (b:=az [n]);have I:(az [m]!=az [n])=(m !=n):=by
  rw[sY,bne_iff_ne,bne_iff_ne];constructor
  .rintro a rfl;show a V
  .intro a d;apply a;injection d with d;simpa using d
 rwa[I]at a
end
end
section
open PySem.StrLaws
noncomputable def Fu (aa:Option cl):List cl:=qq (λa a a a=>[]) (λa=>[]) (λb a=>b) []<|aa.getD<| .Pass default
noncomputable def v9 (aa:Option cl):List cl:=qq (λa a a a=>[]) (λa=>[]) (λa q=>q) []<|aa.getD<| .Pass default
noncomputable abbrev e0 (U:aV)(ca:T):b1:=bU (bi 69<|a U) ca 69
noncomputable abbrev zY (U:aV):List cl:=lC (cf 69<|a U) 3
noncomputable abbrev Fv (U:aV):List cl:=Fu (v9 (v9 (zY U)[2]?)[0]?)[0]?
noncomputable abbrev zZ (U:aV):List cl:=v9 (Fv U)[4]?
noncomputable abbrev pD (U:aV):List cl:=v9 (zZ U)[1]?
noncomputable abbrev dZ (ac:T)(q:T)(a:j)(ca:bP):be:=[("pat",.str (az ca)),("STAR",a),("QUESTION_MARK",.str (az [46])),("res",.val (.ref ac)),("add",.val (.ref q)),("n",.int ca.length)]
noncomputable abbrev eK (dj:List (di×i))(ac:T)(q:T)(a:j)(fp:List bS):aD:=[(q,.aG (eZ "list.append" ac)),(ac,.list (fp.map<|c3 a)),(64,.tab dj)]
noncomputable abbrev fw (ag:bP):j:=.str<|az ag
noncomputable def pk (aa:Option cl):c4:=qq (λaT L a ai=>aT) (λa=>(.Name "" default)) (λa a=>(.Name "" default)) (.Name "" default)<|aa.getD<| .Pass default
noncomputable def O0 (aa:Option cl):c4:=qq (λaT L a ai=>L) (λa=>(.Name "" default)) (λa a=>(.Name "" default)) (.Name "" default)<|aa.getD<| .Pass default
noncomputable def O1 (aa:Option cl):di:=qq (λaT L a ai=>ai) (λa=>default) (λa a=>default) default<|aa.getD<| .Pass default
noncomputable abbrev O2 (U:aV):=pk (pD U)[5]?
noncomputable abbrev O3 (U:aV):=O0 (pD U)[5]?
noncomputable abbrev O4 (U:aV):=O1 (pD U)[5]?
noncomputable abbrev Fw (U:aV):=lC (pD U) 5
section
variable {U:aV}
inductive Fx (ca ag:bP)(L:Nat)(d:j)(ac q aQ:T)(e:aD)(s:Nat)(Γ:be)(own:aD):Prop
 |mk (f:List bP) (a b:Nat) (g:aL Γ (("i",.int (L+a:Nat))::("k",.int (L+b:Nat))::("j",.int (L+ag.length:Nat))::("chunks",.val (.ref aQ))::dZ ac q d ca)) (h:own=(aQ,.list (f.map fw))::e) (i:f++nB s ag a b=hM ag) (k:a<=b) (l:ag.length<b+s) (m:a<=ag.length):Fx ca ag L d ac q aQ e s Γ own
inductive Fy (Y:bc)(I:aO)(ca ag:bP)(L:Nat)(b:j)(ac q aQ:T)(d:aD)(al:aW):Prop
 |mk (Γ:be) (e:List bP) (a:Nat) (f:aL Γ (("i",.int (L+a:Nat))::("j",.int (L+ag.length:Nat))::("chunks",.val (.ref aQ))::dZ ac q b ca)) (g:e++[ag.drop a]=hM ag) (h:a<=ag.length) (i:u I #[Y.d,Y.n,Y.J,Y.X,Γ,(aQ,.list (e.map fw))::d] al):Fy Y I ca ag L b ac q aQ d al
def O5 (n:Nat)(u:T)(X:aY)(I:aO)(p a:bP)(d:Nat)(v:nC p a d)(L:a.length<=100)(S7:p.length<=100000)(l:j)(w x f:T)(q:aD)(m:Nat)(M:c9):
 g #[U,n,e0 U u,f::X,("k",.int (d+mD a:Nat))::("chunks",.val (.ref f))::("i",.int (d:Nat))::("j",.int (d+a.length:Nat))::dZ w x l p,(f,.list [])::q] I (hT (pD U) 2)
  (c0 (Fy #[U,n,e0 U u,f::X,[],[]] I p a d l w x f q) M):=by
 show g.uz (ce:=Fx p a d l w x f q) (a.length+1)
  #[[],0,mD a,aL.cons (by rw[nQ];show bl 2 V)<|aL.cons (bl 0 V)<|aL.cons (bl 3 V)<|aL.cons (bl 1 V)<|λb i=>A<|A<|A<|A i,V,V,ew _,by simp+arith,ew _] ?_
 rintro m Γ own ⟨r,h,s,P,rfl,B,Z,D,S4⟩;show#[z,aZ.j8 R.p9 eF.bool<|λo=>rfl,λo=>?_,λi=>by cases i];mexact S.dV (Y:=#[U,n,e0 U u,f::X,Γ,(f,.list (r.map fw))::q]) P ?_;have S5:=v.len;mexact S.bq (g.assign (af:=.int (match lg a s with|some b=>((d+b:Nat):Int)|none=> -1)) (R.jf (ds:=[.str<|az [45],.int (d+s:Nat),.int (d+a.length:Nat)]) (R.K 4 V) (fD.str OD PySem.F.type_str_find) (W.cons (R.of_eq R.cy<|by room) (W.cons (R.K 1 V) (W.cons (R.K 2 V) W.nil V) V) V) (bO.OC (by show iD ‹_›) v.OU) V e V) (.inl V) V) ?_;cases hf:lg a s with
 |none=>
  have S6:nB m a h s=[a.drop h]:=by
   cases m with
   |zero=>rfl|succ m=>rw[v5];show aI hf V
  mexact S.cons (au:=λo=>False) (g.dB (an:=z) (aZ.bK (R.K 0 V) R.bJ av.lt e) (λo=>S.cons (au:=λo=>False) (g.brk λi l=>?_) λo f=>f.elim)<|λi=>by cases i) λo f=>f.elim;show#[_,r,h,aL.cH [1,2,3,4,5,6,7,8,9] rfl,S6▸B,S4,l]
 |some b=>
  show iQ (Fq hf) λE J f u=>?_;cases m with
  |zero=>show absurd D<|λK=>xf [.C G N,.aK N t,.aK t<| .y G<| .n 0] H E J D
  |succ m=>
  have f:r.length<=200:=by
   have F:=congrArg fN B;unfold hM at F;rw[dE]at F;show c5 [.C N<| .n 100,.C (.y G t) aU,.C aU<| .Q<| .Q N] 0 G (.n 200) H L (ay F)<|zX (a.length+1) a 0<|mD a
  mexact S.bq (g.dB (an:=aj) (aZ.bK (R.K 0 V) R.bJ (av.of_eq av.lt<|decide_eq_false<|λK=>p2 [.aK (.y G N)<| .n 0] H<|ej.mp K) e) (λi=>by cases i)<|λo=>S.nil λi l=>l) ?_;mexact S.bq (g.append (bD:=[]) (b3:=q) (af:=fw<|(a.drop h).take<|b - h) (ds:=r.map fw) (R.of_eq (R.ra (R.K 4 V) (R.K 1 V) (R.K 0 V) (.int _) (.int _) (by rw[gB];unfold aC;show b0)) (by mspec sX p (by show c5 [.C N aU,.C aU t] 0 (.y G N) (.y G t) H Z E) (by show c5 [.aK (.y G aU) t,.aK N aU] 0 (.y G N) t H S5 J);mspec(by lia:d+b - (d+h)=b - h);show aI (v.zT<|by show iD ‹_›) V)) (bl 3 V) (k H) (k H) V (by rw[a6];unfold aC;show b0) e V rfl rfl) ?_;mexact S.bq (g.assign (af:=.int ((d+(b+1):Nat):Int)) (R.of_eq (R.add (R.K 0 V) R.bJ)<|congrArg j.int<|by simp+arith) (.inl V) V) ?_;mexact S.bq (g.assign (af:=.int ((d+(b+3):Nat):Int)) (R.of_eq (R.add (R.K 1 V) R.bJ)<|congrArg j.int<|by simp+arith) (.inl V) V) ?_;mexact S.nil λi l=>#[_,_,#[m,fA _,r++[(a.drop h).take<|b - h],b+1,b+3,aL.cH [1,0,2,3,4,5,6,7,8,9] rfl,?_,?_,by simp+arith,(c5 [.C aU N,.aK G<| .y aU<| .Q t] 0 (.Q G) (.y (.y N<| .n 3) t) H E D),by assumption],l]
  .simp
  .show ch B ?_;mspec(by rw[v5];show aI hf V:nB (m+1) a h s=(a.drop h).take (b - h)::nB m a (b+1) (b+3));simp
def O6 (a:b≠[]):b.take (b.length - 1)++fH (b.drop<|b.length - 1)=b:=by
 have d:fH (b.drop<|b.length - 1)=b.drop (b.length - 1):=by
  have e:=jl.mpr a;mspec rP<|(ay<|e8 (n:=b.length) (m:=1)<|dK [.aK (.n 0) G] 0 (.n 1) G H e);mspec Of<|(eY<|cg<|b.length - 1);rfl
 mspec d;rw[p7]
def O7 {a:Nat}(o:a<b.length - 1)(p:oB b=z):∃g h d ds,g.length=b.length - 1 - (a+1)/\b.take (b.length - 1 - (a+1))=g/\b.take (b.length - 1 - a)++fH (b.drop<|b.length - 1 - a)=g++h::d::ds/\fH (b.drop<|b.length - 1 - a)=d::ds/\b.drop (b.length - 1 - (a+1))=h::b.drop (b.length - 1 - a)/\h≠[]/\d≠[]:=by
 have j:b.length - 1 - (a+1)<b.length:=(bb [.C G t,.aK t N] 0 (.Q G) N H (fE (b.length - 1)<|a+1)<|ay<|e8 (n:=b.length) (m:=1)<|bb [.aK N t,.C t G] 0 (.n 1) G H o<|fE b.length 1);show cm (OW (r:=b.drop<|b.length - 1 - a) (by intro e;have:=congrArg fN e;rw[k6]at this;simp at this;omega)) λd ds i=>?_;have l:b.drop (b.length - 1 - (a+1))=b[b.length - 1 - (a+1)]::b.drop (b.length - 1 - a):=by
  mspec rP j;show aI (by lia:b.length - 1 - (a+1)+1=b.length - 1 - a) V
 have f:=Fs (b.length - 1 - (a+1)) p;rw[l,Fo,i,i7,i7]at f;show Ii (b.take<|b.length - 1 - (a+1)) (b[b.length - 1 - (a+1)]) d ds (by mspec g9;simp+arith) V ?_ i l ?_ ?_
 .mspec i;mspec(by lia:b.length - 1 - a=(b.length - 1 - (a+1))+1);mspec List.take_succ_eq_append_getElem j;rw[hX];show aI JC V
 .intro e;rw[e]at f;show absurd f.2.1<|k H
 .intro e;rw[e]at f;show absurd f.2.2<|k H
def O8 (P:aR U)(n:Nat)(D:T)(X:aY)(E:aO)(q:bP)(v:Nat)(w:j)(x B h:T)(l:aD)(a:List bP)(Z:a≠[])(Th:oB a=z)(S4:a.length<=100)(Ti:(a.map (·.length)).sum<=1000)(S5:j)(S6:c9):
 g #[U,n,e0 U D,X,("chunk",S5)::("j",.int (v:Nat))::("chunks",.val (.ref h))::dZ x B w q,(h,.list (a.map fw))::l] E (hT (pD U) 5)
  (c0 (u E #[U,n,e0 U D,X,("j",.int (v:Nat))::("chunks",.val (.ref h))::dZ x B w q,(h,.list ((fH a).map fw))::l]) S6):=by
 have Tj:0<a.length:=jl.mpr Z;have S7:=g.pk (Y:=#[U,n,e0 U D,X,("chunk",S5)::("j",.int (v:Nat))::("chunks",.val (.ref h))::dZ x B w q,(h,.list (a.map fw))::l]) (I:=E) (bT:=S6) (r:=.iz (a.length - 1:Nat) 0<| -1) (ds:=(h7<|a.length - 1).map λb=>.int ((a.length - 1 - b:Nat):Int))
  (λo=>("j",.int (v:Nat))::("chunks",.val (.ref h))::dZ x B w q) (λb=>(h,.list ((a.take (a.length - 1 - b)++fH (a.drop<|a.length - 1 - b)).map fw))::l)
  (target:=O2 U) (iter:=O3 U) (body:=Fw U) (pos:=O4 U)
  (R.mX (ds:=[.int (a.length - 1:Nat),.int 0,.int<| -1]) (P.eX V rfl (by room) (k H) V rfl rfl (k H)) (W.cons (R.of_eq (R.sub (R.jG (ds:=[_]) (P.eX V rfl (by room) (k H) V rfl rfl (k H)) (W.cons (R.K 2 V) W.nil V) (bO.len (aq.D ao) (by rw[a6];show gu)) V e V) R.bJ)<|congrArg j.int (by rw[a6];show gr (bh [↑a.length,↑(a.length - 1)] [.C f<| .Q aA] 0 (.c6 f<| .n 1) aA H (dH.mpr (eY<|cg<|a.length - 1):))<|bh [↑(a.length - 1),↑a.length] [.aK f aA] 0 f (.c6 aA<| .n 1) H (dH.mpr (ay<|e8 (n:=a.length) (m:=1)<|dK [.aK (.n 0) G] 0 (.n 1) G H Tj):))) (W.cons R.bJ (W.cons R.kQ W.nil V) V) V) (bO.OK (k H)<|PyProof.noPylong_small<|by decide) V e V)
  (λP=>by intro Tk;cases Tk) (cA.down<|dG (a5 (fE a.length 1) S4) H) (λP F=>A F) ?_ (λTl o=>.name<| .inl V) ?_ (λo=>rfl)
 .rw[a6,jP,z0,CQ,qe,nv]at S7;show S7
 .rw[uK];show aI (O6 Z) V
 .intro b Tl J S8 hd P Z;have S9:b<a.length - 1:=by have:=(gG.mp hd).1;simpa using this
  rw[e6,rU S9]at hd;obtain rfl:=fU hd;show bB λZ P=>?_;show j5 (O7 S9 Th) λd p i ds S5=>?_;show tV S5 λTm Tn Ta Tb Tc Td Te=>?_;show P ?_;clear P Z;have To:p.length<=1000:=by
   have:=zV (ae:=p) (r:=a.drop<|a.length - 1 - (b+1))<|Tc▸ao;have:=zW a<|a.length - 1 - (b+1);lia
  have Tp:i.length<=1000:=by
   have P:=zV (ae:=i) (r:=fH<|a.drop<|a.length - 1 - b)<|Tb▸ao;have:=zW a<|a.length - 1 - b;show a5 (a5 (a5 P<|Ft<|a.drop<|a.length - 1 - b) this) Ti
  have Tf:(d++p::i::ds).length<=100:=by
   show ch Ta ?_;mspec dE;mspec g9;have:=zU<|a.drop<|a.length - 1 - b;rw[k6]at this;show jA [.C t<| .n 100,.C N aU,.C G dx,.C (.y aU dx) t] 0 (.y G N) (.n 100) H S4 this (oo (a.length - 1 - b) a.length)<|ay<|e8 (n:=a.length) (m:=a.length - 1 - b)<|a5 (fE (a.length - 1) b)<|fE a.length 1
  show(?_:S (E.at S8) #[U,n,e0 U D,J,bj "k" (.int ((a.length - 1 - b:Nat):Int))<|("j",.int (v:Nat))::("chunks",.val (.ref h))::dZ x B w q,(h,j.list ((a.take (a.length - 1 - b)++fH (a.drop<|a.length - 1 - b)).map fw))::l] (Fw U) (r0 (u (E.at S8) #[U,n,e0 U D,J,("j",.int (v:Nat))::("chunks",.val (.ref h))::dZ x B w q,(h,j.list ((a.take (a.length - 1 - (b+1))++fH (a.drop<|a.length - 1 - (b+1))).map fw))::l]) (λo=>False) _));mspec(by show aI Ta V:(h,j.list ((a.take (a.length - 1 - b)++fH (a.drop<|a.length - 1 - b)).map fw))::l=(h,j.list ((d++p::i::ds).map fw))::l);mspec Tc;rw[v6];mspec Tb;have E:a.length - 1 - (b+1)=d.length:=by show aI Tm V
  mspec Tn;mspec(by grind:a.length - 1 - b=d.length+1);have Tq:d.length<=100:=by rw[dE]at Tf;show a5 (oW _ _) ‹_›
  have Tg:∀K L M a b E,R #[U,n,e0 U D,J,bj "k" (.int ((d.length+1:Nat):Int))<|("j",.int (v:Nat))::("chunks",.val (.ref h))::dZ x B w q,(h,j.list ((d++p::i::ds).map fw))::l] (.Subscript (.Name "chunks" K) (.BinOp (.Name "k" L) .Sub (.Constant (.int 1) E M) a) b) (fw p):=λo o o o o o=>
   R.item (R.K 2 V) (R.of_eq (R.sub (R.K 0 V) R.bJ)<|congrArg j.int (by simp+arith:((d.length+1:Nat):Int) - 1=((d.length:Nat):Int))) (b6.list (aq.D ao) (by simp)<|by show gu)
  have hd:∀K L M,R #[U,n,e0 U D,J,bj "k" (.int ((d.length+1:Nat):Int))<|("j",.int (v:Nat))::("chunks",.val (.ref h))::dZ x B w q,(h,j.list ((d++p::i::ds).map fw))::l] (.Subscript (.Name "chunks" K) (.Name "k" L) M) (fw i):=λo o o=>
   R.item (R.K 2 V) (R.K 0 V) (b6.list (aq.D ao) (by simp)<|dK [.C G<| .n 100] 0 (.Q<| .Q G) (.n<|2^63) H Tq)
  mexact S.ek (g.dB (an:=decide (i.headD 0<p.getLastD 0)) (aZ.bK (R.item (Tg _ _ _ _ _ _) R.kQ<|b6.OY Td) (R.item (hd _ _ _) R.bJ<|b6.oC (cC:=0) (v8 Te)<|by simp+arith) av.OH e) (λF=>?_)<|λF=>?_)
  .mexact S.bq (g.OP (s:=d.length) (bD:=[]) (b3:=l) (ds:=(d++p::i::ds).map fw) (af:=fw<|p.dropLast++i.tail) (R.of_eq (R.jC (R.of_eq (R.ra (Tg _ _ _ _ _ _) V R.kQ .none (.int _) (by rw[gB];unfold aC;show b0))<|by show aI (OV _ Td) V) (R.of_eq (R.ra (hd _ _ _) R.bJ V (.int _) .none (by rw[gB];unfold aC;show b0))<|by show aI (Fr _ Te) V) (by rw[gB,gB];mspec List.length_dropLast;mspec re;unfold aC;show c5 [.C t<| .n 1000,.C aU<| .n 1000,.C G t,.C N aU] 0 (.y G N) (.n<|2^24) H To Tp (fE p.length 1)<|fE i.length 1))<|by rw[pC]) (R.of_eq (R.sub (R.K 0 V) R.bJ)<|congrArg j.int (by show gr (bh [↑d.length] [] 0 (.c6 (.Q f)<| .n 1) f H) (bh [↑d.length] [] 0 f (.c6 (.Q f)<| .n 1) H):((d.length+1:Nat):Int) - 1=((d.length:Nat):Int))) (bl 2 V) (k H) (k H) V (by simp) (by rw[a6];show b0) V) ?_;mexact S.bq (g.OQ (s:=d.length+1) (bD:=[]) (b3:=l) (ds:=(d++(p.dropLast++i.tail)::i::ds).map fw) (R.K 0 V) (bl 2 V) (k H) (k H) (by simp) (by simp) (by rw[a6];simp at Tf ⊢;show b0)) ?_;mexact S.qB (aL.cH [1,2,3,4,5,6,7,8] rfl) ?_;simp only[];mspec if_pos<|k F;simp[NH]
  .mexact S.qB (aL.cH [1,2,3,4,5,6,7,8] rfl) ?_;simp only[];show aI (if_neg<|of_decide_eq_false F) V
end
end
section
open PySem.StrLaws
noncomputable abbrev cu:List (di×i):=[(#[66,39,66,76],"_translate.<locals>.<lambda>")]
def Fz (a:aV)(b:T):(e0 a b).qual++("<lambda>":i)="_translate.<locals>.<lambda>":=by room
def z1:jr "-"=az [45]:=by room
def O9:jr "\\"=az [92]:=by room
section
variable {U:aV}
def Pa (S4:aR U)(S9:dg U.B 68 64)(n:Nat)(s:T)(X:aY)(v:aO)(Ta:v.bY=z)(p a:bP)(k:Nat)(B:nC p a k)(hd:45∈a)(F:v7 a=z)(S5:a.length<=100)(S6:p.length<=100000)(f:j)(d h:T)(r:List bS)(Tb:j)(Tc:c9):
 S v #[U,n,e0 U s,X,("i",.int (k:Nat))::("j",.int (k+a.length:Nat))::("stuff",Tb)::dZ d h f p,eK cu d h f r] (pD U) (c0 (qr #[U,n,e0 U s,X,("stuff",.str (az<|lh a))::("j",.int (k+a.length:Nat))::dZ d h f p,eK cu d h f r] v) Tc):=by
 mexact S.r7 λS7 Td=>?_;unfold v7 at F;simp only[i7,decide_eq_true_eq,bne_iff_ne,yX]at F;show bB λI w=>?_;obtain⟨⟨⟨⟨⟨Te,J⟩,Tf⟩,Tg⟩,K⟩,Th⟩:=F;show w ?_;clear w I;have Ti:=B.len;have h0:a≠[]:=by rintro rfl;cases hd
 have Tj:hM a≠[]:=by
  intro l;have:=zX (a.length+1) a 0<|mD a;unfold hM at l;rw[v5]at l;cases o:lg a (mD a)<;>replace l:=o▸l<;>cases l
 mexact S.m4 (.inl V) λi F Tb=>?_;mexact S.bq (g.assign (af:=.int ((k+mD a:Nat):Int)) (R.kO (b:=(a.headD 0==33)) (aZ.bK (R.item (R.K 4 V) (R.K 1 V)<|b6.oC (q:=a.headD 0) (by mspec show k=k+0 from rfl;mspec B.at_ 0<|jl.mpr h0;show v8 h0)<|bb [.C N<| .n 100000,.aK (.y G t) N] 0 (.Q G) (.n<|2^62) H S6 Ti) (R.of_eq R.cy<|by room) av.rd e)
  (λo=>R.of_eq (R.add (R.K 1 V) R.bJ)<|congrArg j.int (by mspec show mD a=2 from if_pos (by cases a with|nil=>show absurd V h0|cons Tk a=>simpa using o);simp+arith))
  (λo=>R.of_eq (R.add (R.K 1 V) R.bJ)<|congrArg j.int (by mspec show mD a=1 from if_neg (by cases a with|nil=>show absurd V h0|cons Tk a=>simpa using o);simp+arith))) (.inl V) V) ?_
 mexact S.dV (eG:=("k",.int (k+mD a:Nat))::("chunks",.val (.ref i))::("i",.int (k:Nat))::("j",.int (k+a.length:Nat))::dZ d h f p) (aL.cH [0,1,2,3,5,6,7,8,9,10] rfl) ?_;mexact S.cons (O5 (U:=U) n s X v p a k B S5 S6 f d h i (eK cu d h f r) 0 S7) ?_;rintro o ⟨Γ,D,m,Tl,L,Tm,Tn⟩;show eO #[U,n,e0 U s,i::X,Γ,(i,.list (D.map fw))::eK cu d h f r] v V rfl rfl rfl rfl Tn (S.dV Tl ?_);have F:D.length<=100:=by have:=congrArg fN L;replace this:=dE▸this;show bb [.C N<| .n 100,.C (.y G t) N] 0 G (.n 100) H K<|ay this
 have M:∀F:bc,eF F (.str<|az<|a.drop m) z:=λF=>by
  have To:=eF.str (Y:=F) (ae:=az<|a.drop m) (by rw[gB];mspec k6;show ej.mpr<|b9 [.C N<| .n 100,.C G N] 0 (.Q G) (.n 9223372036854775808) H S5<|fE a.length<|m);rwa[show(((az<|a.drop m).length:Int)!=0)=z by rw[gB,bne_iff_ne];show λTp=>oS [.aK (.n 0) G,.C G<| .n 0] H (jl.mpr (show a.drop m≠[]from λl=>Te (by show ch L ?_;mspec l;simp)))<|ay<|jm Tp]at To
 mexact S.bq (g.assign (af:=.str<|az<|a.drop m) (R.of_eq (R.ra (R.K 3 V) (R.K 0 V) (R.K 1 V) (.int _) (.int _) (by rw[gB];unfold aC;show b0)) (by mspec sX p (by show bb [.C N t] 0 (.y G N) (.y G t) H Tm) (by show iD ‹_›);mspec(show k+a.length - (k+m)=a.length - m by lia);mspec B.zT<|cg _;show aI (o7 (by mspec k6;simp+arith)) V)) (.inl V) V) ?_;mexact S.bq (X:=i::X) (Γ:=("chunk",.str (az<|a.drop m))::("j",.int (k+a.length:Nat))::("chunks",.val (.ref i))::dZ d h f p) (own:=(i,.list ((hM a).map fw))::eK cu d h f r) (g.dB (an:=z) (aZ.j8 (R.K 0 V) (M _)<|λE=>rfl) (λE=>?_)<|λo=>by cases o) ?_
 .mexact S.bq (g.append (bD:=[]) (b3:=eK cu d h f r) (af:=fw<|a.drop m) (ds:=D.map fw) (R.K 0 V) (bl 3 V) (by decide) (by decide) V (by rw[a6];unfold aC;show b0) e V rfl rfl) ?_;mexact S.nil λo P=>?_;have B:D.map fw++[fw<|a.drop m]=(hM a).map fw:=by show ch L ?_;mspec eV;rfl
  show(congrArg (λl=>u v #[U,n,e0 U s,i::X,_,[]++(i,j.list l)::eK cu d h f r] o) B).mp<|P.ef (Γ:=("chunk",.str (az<|a.drop m))::("j",.int (k+a.length:Nat))::("chunks",.val (.ref i))::dZ d h f p)<|aL.cH [0,2,3,4,5,6,7,8,9] rfl
 mexact S.bq (O8 S4 n s (i::X) v p (k+a.length) f d h i (eK cu d h f r) (hM a) Tj J K Th (.str<|az<|a.drop m) S7) ?_;mexact S.kj (aS.Ox S4 (Y:=#[U,n,e0 U s,i::X,("j",.int (k+a.length:Nat))::("chunks",.val (.ref i))::dZ d h f p,(i,.list ((fH<|hM a).map fw))::eK cu d h f r]) (kx:=i) (i3:=(fH<|hM a).map az) (bD:=[(i,.list ((fH<|hM a).map fw)),(h,.aG (eZ "list.append" d)),(d,.list (r.map<|c3 f))]) (b3:=[]) (dj:=cu) V Ta V
  (λx W Tq=>by cases bW W;show absurd Tq<|by decide) V S9 V (bl 1 V) (by decide) (by decide) (by mspec d2;show ao) (by rw[a6];show dG (a5 (zU<|hM a) K) H) (z1▸Tg) e V (by decide) V rfl rfl ?_ V (λE=>rfl) #[_,V]) (.inl V) V ?_
 .intro k m p s v Tr B D Z F M Ts J;show bB λI w=>?_;obtain⟨x,W,rfl⟩:=ck M;show w ?_;clear w I;have S8:=Tf x W;have Tt:92∉x:=λl=>by simp[l]at S8
  show Fm (ag:=x) (q:=45) (λl=>by simp[l]at S8) z1 (Fm (ag:=x) (q:=92) Tt O9 (xt (t4 V rfl Ts J #[Z,V,λk=>as Z V<|λk=>?_]) e) V rfl rfl) V rfl rfl;show#[#[Z,V],Tr.heap,k,V,λE E l=>l]
 intro l m p k;show tU k ?_;intro k;mexact S.nil λo P=>Td .next o ?_;show#[i::X,λb k=>A k,?_];have i:az (lh a)=dC (jr "-") ((fH<|hM a).map az):=by
  unfold lh;mspec if_pos hd;show aI z1 V
 mspec i;show(P.q8 (sT:=eK cu d h f r)<|FA _ _).ef<|aL.cH [0,1,3,4,5,6,7,8] rfl
end
end
section
open PySem.StrLaws
def z3 (d b:bP):(az d==az b)=decide (d=b):=by
 rw[sY,beq_iff_eq];mspec decide_eq_true_eq;constructor
 .intro a;injection a with a;simpa using a
 .rintro rfl;rfl
section
variable {Y:bc}{I:aO}
def av.Pb {j9:ak}:av Y .In (.str b) (.bQ<|j9.map .str) (j9.any (·==b)):=.mk λa b g h i j k l d e f=>by
 show v d.dN λg a=>?_;show bw a ?_;show cm e.y3 λd g a=>?_;show xj a λd e g=>?_;show in_tuple_strs d e.strs<|f b.heap b.toks<|E.bd _
def eF.az (a:b.length<=100000):eF Y (.str<|az b) (!b.isEmpty):=by
 have d:=eF.str (Y:=Y) (ae:=Mine.az b) (by rw[gB];show ej.mpr<|dK [.C G<| .n 100000] 0 (.Q G) (.n 9223372036854775808) H a);have I:(((Mine.az b).length:Int)!=0)=!b.isEmpty:=by
  rw[gB];cases b with
  |nil=>rfl|cons a b=>simp;show λa=>oS [.aK G<| .n 0] H<|ay<|jm a
 rwa[I]at d
end
section
variable {U:aV}
def aS.Pc (g:aR U){a:bc}{h:aO}{q aB:T}(i:a.d=U)(u:a.D=bD++(aB,.tab dj)::b3)
 (y:(pos,a.J.qual++"<lambda>")∈dj) (A:∀b∈dj,(pos.line==b.1.line&&pos.col==b.1.col)=z->b.2=a.J.qual++"<lambda>") (C:a.J.code=.ref q) (D:dg U.B q aB) (F:zq m a.J=([],[])) (G:iT n a.J=pure S4) (H:a.J.globals=hQ)
 (J:R a (.Name "_twin_re_1" r) (.val<| .ref 43)) (K:R a arg (.str o)) (L:∀N<o.cps.size,mB (o.cps.getD N 0)) (Z:o.length<=100000)
 (j:bf [.Lambda m body n pos,arg] a.J=(aj,eval (.Lambda m body n pos) a.J)::bf [arg] a.J) (k:bf [arg] a.J=(aj,eval arg a.J)::bf [] a.J)
 (d:∃e:ib Bool,eval (.Call (.Attribute (.Name "_twin_re_1" r) "sub" x) [.Lambda m body n pos,arg] [] w) a.J=(do
  let B <-eval (.Name "_twin_re_1" r) a.J
  ep x.atName
  let(M,first) <-e5 [B] (gK B "sub" e)
  dO w M first (cX w<|bf [.Lambda m body n pos,arg] a.J) [])):
 aS a h (.Call (.Attribute (.Name "_twin_re_1" r) "sub" x) [.Lambda m body n pos,arg] [] w) (iJ a<| .str o):=.mk λl f m p s t b=>by
 show v d λe d=>?_;show jO (pl:=e) (J.go l f _ p s.todz t.tocU λP Q S W X=>?_) d;obtain rfl:=X.is;have e:=t.keep W;have m:∀d,E d a.d.B->mC d:=λd n=>Nn g<|i▸n;show Nm (m _ e.fq) (mh (first:=[.ref 43]) (kP ?_ j) j (by mspec k;rfl));show aR.zp g (Y:=a) (I:=h) (aa:={f with heap:=Q,toks:=S}) i e u y A C D F G H λM n o r g h d t w j x=>?_;show kP (K.go l {f with heap:=g,toks:=h} _ p s.todz d.tocU λP g i e f=>ly ?_) k;show v f.dN λh g=>?_;show bw g ?_;have f:=d.keep e;show Nl (m _ f.fq) L (by unfold aC;show b0) (by show b0) (as _ (e _ _ j) V) λg h i d=>?_;show b _ _ .up #[a.X,a.D,_,(cG V rfl rfl),λg e=>e,f.keep d,.str _ _]
def pE {a:j}(d:bS)(e:R #[U,n,env,X,Γ,eK r b m a o] arg (c3 a d))(f:(("add":i),j.val (.ref m))∈Γ)(s:o.length<=100000)(h:mq env=aj)(l:f7 (.Call (.Name "add" x) [arg] [] w) c pos.line env=pure aj)
 (p:bf [arg] env=(aj,eval arg env)::bf [] env)
 (q:eval (.Call (.Name "add" x) [arg] [] w) env=(do dO w (<-eval (.Name "add" x) env) [] (cX w<|bf [arg] env) (jH w<|jI [] env))):
 g #[U,n,env,X,Γ,eK r b m a o] B (.Expr (.Call (.Name "add" x) [arg] [] w) pos) (c0 (u B #[U,n,env,X,Γ,eK r b m a<|o++[d]]) M):=by
 mspec(show eK r b m a (o++[d])=[(m,.aG (eZ "list.append" b))]++(b,.list (o.map (c3 a)++[c3 a d]))::[(64,.tab r)]from by simp);show(g.qG (Y:=#[U,n,env,X,Γ,eK r b m a o]) (I:=B) (bT:=M) (bD:=[(m,.aG (eZ "list.append" b))]) (b3:=[(64,.tab r)]) (ds:=o.map<|c3 a) e f (k H) (k H) ao V (by rw[a6];unfold aC;show b0) h l p q)
def Pd (a:b≠33)(d:b≠94)(e:b≠91):lV (b::r)=b::r:=(if_neg a).trans<|if_neg λb=>b.elim d e
def Pe (a:bP):(lV a).length<=a.length+1:=by
 by_cases b:a.headD 0=33
 .show a5 (ay<|congrArg fN<|if_pos b)<|qF ?_;show a5 (ay re)<|fE _ _
 .by_cases d:a.headD 0=94\/a.headD 0=91
  .show ay<|congrArg fN<|(if_neg b).trans<|if_pos d
  .show a5 (ay<|congrArg fN<|(if_neg b).trans<|if_neg d)<|lB _
def Pf (L:aR U)(n:Nat)(E:T)(X:aY)(F:aO)(t q:bP)(v:Nat)(p:q.length<=100)(h:j)(l m:T)(s:List bS)(w:s.length<=100000)(x:List (di×i))(I:c9):
 g #[U,n,e0 U E,X,("i",.int (v:Nat))::("stuff",.str (az q))::dZ l m h t,eK x l m h s] F (hT (zZ U) 4) (c0 (u F #[U,n,e0 U E,X,("i",.int (v:Nat))::dZ l m h t,eK x l m h<|s++[O<|az<|pB q]]) I):=by
 cases q with
 |nil=>
  show g.dB (an:=!(!([]:bP).isEmpty)) (aZ.rL<|aZ.j8 (R.K 1 V) (eF.az<|by simp)<|λA=>rfl) (λA=>?_)<|λd=>absurd d<|k H;mexact S.bq (pE (O<|az<|pB []) (R.of_eq R.cy<|by room) (bl 6 V) w e V rfl rfl) ?_;show S.nil λd f=>f.ef<|aL.cH [0,2,3,4,5,6,7] rfl
 |cons a r=>
  show g.dB (an:=!(!(a::r).isEmpty)) (aZ.rL<|aZ.j8 (R.K 1 V) (eF.az<|by show b0)<|λA=>rfl) (λd=>absurd d<|by simp)<|λA=>?_;mexact S.ek (g.dB (an:=decide (a::r=[33])) (aZ.bK (R.K 1 V) (R.of_eq R.cy<|by room) (av.of_eq av.BL<|z3 _ [33]) e) (λd=>?_)<|λd=>?_)
  .have d:=k d;mspec d;mexact S.bq (pE (O<|az<|pB [33]) (R.of_eq R.cy<|by room) (bl 6 V) w e V rfl rfl) ?_;show S.nil λd f=>f.ef<|aL.cH [0,2,3,4,5,6,7] rfl
  .have d:=of_decide_eq_false d;have J:pB (a::r)=91::(lV (a::r)++[93]):=by unfold pB;mspec if_neg (by simp);show aI (if_neg d) V
   have K:(lV<|a::r).length<=101:=by have:=Pe<|a::r;show b9 [.C N<| .n 100,.C G<| .Q N] 0 G (.n 101) H p this
   mspec J;mexact S.bq (X:=X) (Γ:=("stuff",.str (az<|lV<|a::r))::("i",.int (v:Nat))::dZ l m h t) (own:=eK x l m h s) (g.dB (an:=(a==33)) (aZ.bK (R.item (R.K 1 V) R.bJ<|b6.oC (cC:=0) V<|by simp+arith) (R.of_eq R.cy<|by room) av.rd e) (λB=>?_)<|λB=>?_) ?_
   .obtain rfl:a=33:=by simpa using B
    mexact S.bq (g.assign (af:=.str<|az<|lV<|33::r) (R.of_eq (R.jC (ac:=az [94]) (b:=az r) (R.of_eq R.cy<|by room) (R.of_eq (R.ra (R.K 1 V) R.bJ V (.int _) .none (by rw[gB];unfold aC;show b0)) (by mspec Fr _ (by simp);rfl)) (by rw[gB,gB];unfold aC;simp at p ⊢;show dK [.C G<| .n 99] 0 (.y (.n 1) G) (.n 16777216) H p)) (by rw[pC];rfl)) (.inl V) V) ?_;show S.nil λd f=>f.ef<|aL.cH [0,1,2,3,4,5,6,7] rfl
   .mexact S.ek (g.dB (an:=[az [94],az [91]].any (·==az [a])) (aZ.bK (R.item (R.K 1 V) R.bJ<|b6.oC (cC:=0) V<|by simp+arith) (R.tuple (ds:=[.str<|az [94],.str<|az [91]]) (W.cons (R.of_eq R.cy<|by room) (W.cons (R.of_eq R.cy<|by room) W.nil V) V)<|dt H) (av.Pb (j9:=[az [94],az [91]])) e) (λo=>?_)<|λo=>?_)
    .have D:lV (a::r)=92::a::r:=by
      simp only[t2,List.any_nil,z3,Pg,Bool.or_eq_true,decide_eq_true_eq,Ph,and_true]at o;rcases o with rfl|rfl<;>rfl
     mspec D;mexact S.bq (g.assign (af:=.str<|az<|92::a::r) (R.of_eq (R.jC (ac:=az [92]) (b:=az<|a::r) (R.of_eq R.cy<|by room) (R.K 1 V) (by rw[gB,gB];unfold aC;simp at p ⊢;show dK [.C G<| .n 99] 0 (.y (.n 1)<| .Q G) (.n 16777216) H p)) (by rw[pC];rfl)) (.inl V) V) ?_;show S.nil λd f=>f.ef<|aL.cH [0,1,2,3,4,5,6,7] rfl
    .have D:lV (a::r)=a::r:=by
      simp only[t2,List.any_nil,z3,Pg,CH,decide_eq_false_iff_not,Ph,and_true]at o;show Pd (by simpa using B) (λh=>o.1 h.symm)<|λh=>o.2 h.symm
     mspec D;show S.nil λd f=>f.ef<|aL.cH [1,0,2,3,4,5,6,7] rfl
   .mexact S.bq (pE (O<|az<|91::(lV (a::r)++[93])) (R.of_eq (R.yy (ae:=az<|lV<|a::r) (R.K 0 V) (by rw[gB,show jr "["=az [91] by room,show jr "]"=az [93] by room,gB,gB];unfold aC;simp;show dK [.C G<| .n 101] 0 (.y (.n 1) G) (.n 16777215) H K)) (by rw[show jr "["=az [91] by room,show jr "]"=az [93] by room,pC,pC];rfl)) (bl 6 V) w e V rfl rfl) ?_;show S.nil λd f=>f.ef<|aL.cH [1,2,3,4,5,6,7] rfl
end
end
section
open PySem.StrLaws
def Pi (e:Fp b=z):∀a<(az b).cps.size,mB ((az b).cps.getD a 0):=λa f=>by
 have d:a<b.length:=by simpa using f
 have g:(az b).cps.getD a 0=b[a]:=by
  simp[d]
 mspec g;simpa[mB,and_assoc]using(yX.mp e b[a]<|oA d)
abbrev z4 (U:aV)(n:Nat)(b:T)(X:aY)(I:aO)(ca ag:bP)(L:Nat)(a:j)(ac q:T)(fp:List bS):aW->Prop:=qr #[U,n,e0 U b,X,("i",.int (L+ag.length+1:Nat))::dZ ac q a ca,eK cu ac q a<|fp++[O<|az<|pB<|lh ag]] I
section
variable {U:aV}
def Pj (t:aR U)(x:dg U.B 68 64)(n:Nat)(o:T)(X:aY)(p:aO)(C:p.bY=z)(l a:bP)(d:Nat)(v:nC l a d)(w:sW a=z)(D:l.length<=100000)(h:j)(f i:T)(m:List bS)(E:m.length<=100000)(y:c9):
 S p #[U,n,e0 U o,X,("i",.int (d:Nat))::("j",.int (d+a.length:Nat))::dZ f i h l,eK cu f i h m] (zZ U) (c0 (z4 U n o X p l a d h f i m) y):=by
 unfold sW at w;simp only[i7,decide_eq_true_eq]at w;show bB λF A=>?_;show am w λG I=>?_;show am G λw J=>?_;show am w λG K=>?_;show am G λw L=>?_;show am w λG M=>?_;show am G λw S4=>?_;show A ?_;clear A F;have w:=v.len;mexact S.bq (g.assign (af:=.str<|az a) (R.of_eq (R.ra (R.K 2 V) (R.K 0 V) (R.K 1 V) (.int _) (.int _) (by rw[gB];unfold aC;show b0)) (by
  mspec sX l (by simp+arith) (by show iD ‹_›);have B:=v.zT (ac:=0)<|cg _;rw[nQ,uK,qe,iU]at B;mspec(by simp+arith:d+a.length - d=a.length);show aI B V)) (.inl V) V) ?_
 mexact S.cons (au:=qr #[U,n,e0 U o,X,("stuff",.str (az<|lh a))::("j",.int (d+a.length:Nat))::dZ f i h l,eK cu f i h m] p)
  (g.dB (an:=!decide (45∈a)) (aZ.bK (R.of_eq R.cy<|by room) (R.K 0 V) av.OE e) (λr=>?_)<|λr=>?_) ?_
 .have N:lh a=a:=if_neg (by simpa using r:45∉a);mexact S.bq (g.assign (af:=.str<|az a) (R.jf (ds:=[.str<|az [92],.str<|az [92,92]]) (R.K 0 V) (fD.str Fl OG) (W.cons (R.of_eq R.cy<|by room) (W.cons (R.of_eq R.cy<|by room) W.nil V) V) (bO.OF<|λP=>by simp[P]at M) V e V) (.inl V) V) ?_;mspec N;show S.nil λr s=>#[X,λb w=>w,s.ef<|aL.cH [0,2,3,4,5,6,7,8] rfl]
 .have hd:45∈a:=by simpa using r
  show S.dV (eG:=("i",.int (d:Nat))::("j",.int (d+a.length:Nat))::("stuff",.str (az a))::dZ f i h l) (aL.cH [1,2,0,3,4,5,6,7,8] rfl) (Pa t x n o X p C l a d v hd (by simpa[hd]using K:v7 a=z) L D h f i m _ _)
 rintro r ⟨u,Q,s⟩;show eO #[U,n,e0 U o,u,("stuff",.str (az<|lh a))::("j",.int (d+a.length:Nat))::dZ f i h l,eK cu f i h m] p V rfl rfl rfl rfl s ?_;mexact S.kj (aS.Pc t (q:=68) (aB:=64) (dj:=cu) (bD:=[(i,.aG (eZ "list.append" f)),(f,.list (m.map<|c3 h))]) (b3:=[]) V rfl (by rw[Fz];show wa _) (λv Y w=>by cases bW Y;show(Fz U o).symm) V x V rfl rfl (t.eU V (by room) V rfl (k H)) (R.K 0 V) (Pi J) (by rw[gB];show b0) V rfl #[_,V]) (.inl V) V ?_;intro v _ _ w;show Ia w λZ=>?_;intro _;obtain rfl:u=v:=Z.symm;mexact S.bq (g.assign (af:=.int ((d+a.length+1:Nat):Int)) (R.of_eq (R.add (R.K 1 V) R.bJ)<|congrArg j.int<|by simp+arith) (.inl V) V) ?_;mexact S.dV (eG:=("i",.int (d+a.length+1:Nat))::("stuff",.str (az<|lh a))::dZ f i h l) (aL.cH [0,1,3,4,5,6,7,8] rfl) ?_;show S.bq (Pf t n o u p l (lh a) (d+a.length+1) I h f i m E cu<|c0 (z4 U n o X p l a d h f i m) y)<|S.nil λr s=>#[u,Q,s]
def Pk (a:bP):∃d,a=d++rc a/\d.length=if a.headD 0==33 then 1 else 0:=by
 cases a with
 |nil=>show as ([]) V rfl|cons e r=>
  by_cases b:e=33
  .subst b;show as ([33]) V rfl
  .show as ([]) (if_neg b).symm (by simp[b])
def Pl (a:bP):∃d,a=d++zS a/\d.length=if a.headD 0==93 then 1 else 0:=by
 cases a with
 |nil=>show as ([]) V rfl|cons e r=>
  by_cases b:e=93
  .subst b;show as ([93]) V rfl
  .show as ([]) (if_neg b).symm (by simp[b])
def Pm (S9:aR U)(Ta:dg U.B 68 64)(n:Nat)(P:T)(X:aY)(K:aO)(Tb:K.bY=z)(h l:bP)(a:Nat)(E:nC h l a)(Tc:h[a+l.length]?=O 93)(S4:sW l=z)(L:h.length<=100000)(o:j)(p r:T)(x:List bS)(Td:x.length<=100000)(S5:c9):
 S K #[U,n,e0 U P,X,("i",.int (a:Nat))::dZ p r o h,eK cu p r o x] (Fv U) (c0 (z4 U n P X K h l a o p r x) S5):=by
 have W:=S4;unfold sW at W;simp only[i7,decide_eq_true_eq]at W;show bB λF v=>?_;show am W λTe u=>?_;show am Te λW u=>?_;show am W λTe u=>?_;show am Te λW u=>?_;show am W λTe u=>?_;show am Te λY Tf=>?_;show v ?_;clear v F;show bB λF v=>?_;show aX (Pk l) λb Z S6=>?_;show v ?_;clear v F;show bB λF v=>?_;show aX (Pl<|rc l) λf S7 S8=>?_;show v ?_;clear v F;have M:=E.len;have I:rc l≠[]:=by intro s;replace Y:=s▸Y;show absurd Y<|k H
 have h0:l≠[]:=by intro s;replace I:=s▸I;show I V
 generalize rc l=m1 at*;generalize zS m1=m2 at*;have Tg:93∉m2:=λs=>by simp[s]at Tf
 have w:l.length=b.length+m1.length:=by have:=congrArg fN Z;rw[dE]at this;show this
 have D:m1.length=f.length+m2.length:=by have:=congrArg fN S7;rw[dE]at this;show this
 have v:=jl.mpr I;have Th:h[a+b.length]?=O (m1.headD 0):=by
  mspec E.at_ _ (by show bb [.C (.y G t) N,.aK (.n 0) t] 0 (.Q G) N H (ay (w).symm) v);mspec Z;mspec sZ<|cg _;rw[z0];show v8 I
 have Ti:∀d,d<m2.length->h[a+b.length+f.length+d]?=m2[d]?:=λd J=>by
  mspec(by simp+arith:a+b.length+f.length+d=a+(b.length+f.length+d));mspec E.at_ _ (by show p1 [.C (.y G dx) aU,.C (.y N g0) dx,.aK t g0] 0 (.Q<| .y (.y G N) t) aU H (ay (w).symm) (ay (D).symm) J);mspec Z;mspec sZ (by simp+arith);mspec S7;mspec sZ (by show c5 [.C (.y (.y t G) aU)<| .y N t] 0 G N H<|eY<|cg<|b.length+f.length+d - b.length);congr 1;show cZ (jA [.C (.y t aU)<| .y (.y aU dx) N,.C (.y G dx) t] 0 G N H (ay<|e8 (n:=b.length+f.length+d) (m:=b.length)<|bb [] 0 G (.y (.y G N) t) H)<|ay<|e8 (n:=b.length+f.length+d - b.length) (m:=f.length)<|c5 [.C (.y (.y t G) aU)<| .y N t] 0 G N H<|eY<|cg<|b.length+f.length+d - b.length)<|jA [.C (.y (.y t aU) G)<| .y dx t,.C dx<| .y N aU] 0 G N H (eY<|cg<|b.length+f.length+d - b.length)<|eY<|cg<|b.length+f.length+d - b.length - f.length
 mexact S.bq (g.assign (af:=.int (a:Nat)) (R.K 0 V) (.inl V) V) ?_;mexact S.bq (X:=X) (Γ:=("j",.int (a+b.length:Nat))::("i",.int (a:Nat))::dZ p r o h) (own:=eK cu p r o x) (g.dB (an:=decide ((a:Int)<(h.length:Int))&&(l.headD 0==33)) (aZ.o0 (aZ.bK (R.K 0 V) (R.K 7 V) av.lt e) λu=>aZ.bK (R.item (R.K 2 V) (R.K 0 V)<|b6.oC (q:=l.headD 0) (by mspec(V:a=a+0);mspec E.at_ 0<|jl.mpr h0;show v8 h0)<|bb [.C N<| .n 100000,.aK (.y G t) N] 0 (.Q G) (.n<|2^62) H L M) (R.of_eq R.cy<|by room) av.rd e) (λi=>?_)<|λi=>?_) ?_
 .have A:b.length=1:=by mspec S6;rw[if_pos];simp at i;simpa using i.2
  mspec A;mexact S.bq (g.assign (af:=.int ((a+1:Nat):Int)) (R.of_eq (R.add (R.K 0 V) R.bJ)<|congrArg j.int<|by simp+arith) (.inl V) V) ?_;show S.nil λi B=>B.ef<|aL.cH [0,1,2,3,4,5,6,7] rfl
 .have A:b.length=0:=by
   mspec S6;rw[if_neg];intro s;rw[s,decide_eq_true<|by(exfalso;lia)]at i;cases i
  mspec A;show S.nil λi B=>B.ef (aL.cons (by rw[nQ];show bl 0 V)<|aL.cH [1,2,3,4,5,6,7] rfl)
 mexact S.bq (X:=X) (Γ:=("j",.int (a+b.length+f.length:Nat))::("i",.int (a:Nat))::dZ p r o h) (own:=eK cu p r o x) (g.dB (an:=decide (((a+b.length:Nat):Int)<(h.length:Int))&&(m1.headD 0==93)) (aZ.o0 (aZ.bK (R.K 0 V) (R.K 7 V) av.lt e) λu=>aZ.bK (R.item (R.K 2 V) (R.K 0 V)<|b6.oC (q:=m1.headD 0) Th<|jA [.C t<| .n 100000,.aK (.y G aU) t,.C (.y N dx) aU] 0 (.Q<| .y G N) (.n<|2^62) H L M<|ay (w).symm) (R.of_eq R.cy<|by room) av.rd e) (λi=>?_)<|λi=>?_) ?_
 .have A:f.length=1:=by mspec S8;rw[if_pos];simp at i;simpa using i.2
  mspec A;mexact S.bq (g.assign (af:=.int ((a+b.length+1:Nat):Int)) (R.of_eq (R.add (R.K 0 V) R.bJ)<|congrArg j.int<|by simp+arith) (.inl V) V) ?_;show S.nil λi B=>B.ef<|aL.cH [0,1,2,3,4,5,6,7] rfl
 .have A:f.length=0:=by
   mspec S8;rw[if_neg];intro s;rw[s,decide_eq_true<|by(exfalso;lia)]at i;cases i
  mspec A;show S.nil λi B=>B.ef (aL.cons (by rw[nQ];show bl 0 V)<|aL.cH [1,2,3,4,5,6,7] rfl)
 mexact S.bq (g.yg m2.length (λd=>("j",.int (a+b.length+f.length+d:Nat))::("i",.int (a:Nat))::dZ p r o h) (λu=>eK cu p r o x) (aL.bd _) V (λd J=>?_)<|λd J=>?_) ?_
 .have Tj:a+b.length+f.length+d<h.length:=lq [_,_,_,_,_,_,_,_] [.aK (.y G g0) dx,.C (.y N kG) g0,.C (.y t tN) kG,.C aU tN] 0 (.Q<| .y (.y (.y G N) t) aU) dx H M (ay (w).symm) (ay (D).symm) J;obtain⟨v,hd,Tk⟩:∃v,h[a+b.length+f.length+d]?=O v/\decide (d<m2.length)=(decide (((a+b.length+f.length+d:Nat):Int)<(h.length:Int))&&(v !=93)):=by
   mspec decide_eq_true (by show ej.mpr ‹_›:((a+b.length+f.length+d:Nat):Int)<(h.length:Int));simp only[uE];by_cases v:d<m2.length
   .show as (m2[d]) (by mspec Ti d v;show aI (gm v) V) ?_;mspec decide_eq_true v;show(bne_iff_ne.mpr<|λs=>Tg<|by show s▸oA v).symm
   .show as 93 ((by show cZ (tO [.C (.y N g0) dx,.C (.y t kG) g0,.C aU kG] 0 (.y (.y (.y G N) t) aU) (.y G dx) H (ay (w).symm) (ay (D).symm) J) (tO [.C N<| .y t g0,.C g0<| .y aU kG,.C kG dx] 0 (.y G N) (.y (.y (.y G t) aU) dx) H (ay w) (ay D)<|g8.mp v):a+b.length+f.length+d=a+l.length)▸Tc) ?_;mspec decide_eq_false v;rfl
  mspec Tk;show aZ.o0 (aZ.bK (R.K 0 V) (R.K 7 V) av.lt e) λu=>aZ.bK (R.item (R.K 2 V) (R.K 0 V)<|b6.oC hd<|dG (a5 Tj L) H) (R.of_eq R.cy<|by room) av.OZ e
 .mexact S.bq (g.assign (af:=.int ((a+b.length+f.length+(d+1):Nat):Int)) (R.of_eq (R.add (R.K 0 V) R.bJ)<|congrArg j.int<|by simp+arith) (.inl V) V) ?_;show S.ye (aL.cH [0,1,2,3,4,5,6,7] rfl) V
 mspec(by show cZ (p1 [.C (.y N g0) dx,.C (.y t aU) g0] 0 (.y (.y (.y G N) t) aU) (.y G dx) H (ay (w).symm)<|ay (D).symm) (p1 [.C N<| .y t g0,.C g0<| .y aU dx] 0 (.y G N) (.y (.y (.y G t) aU) dx) H (ay w)<|ay D):a+b.length+f.length+m2.length=a+l.length);mexact S.ek (g.dB (an:=aj) (aZ.bK (R.K 0 V) (R.K 7 V) (av.of_eq av.xw<|decide_eq_false<|λb=>xf [.aK (.y G N) t,.C t<| .y G N] H M<|dH.mp b) e) (λi=>by cases i)<|λu=>?_);show S.dV (eG:=("i",.int (a:Nat))::("j",.int (a+l.length:Nat))::dZ p r o h) (aL.cH [1,0,2,3,4,5,6,7] rfl)<|Pj S9 Ta n P X K Tb h l a E S4 L o p r x Td S5
end
end
section
open PySem.StrLaws
section
variable {Y:bc}{I:aO}
def S.FB (a:(m,.val (.ref ac))∈Y.p)(j:(ac,.list bE)∈Y.D)(k:ac∉I.cB)(n:bg.Sublist Y.D)(p:∀e,u I Y e->ac∉aH bg)(q:∀f∈w,f.1∈aH bg)(s:x bg (.list bE))(hd:(m==("__debug__":i))=aj)(h:(m==("__classdict__":i))=aj):S I Y (.Return (O<| .Name m B) pos::b) (er Y.d I w x):=
 S.cons (au:=λt=>False) (g.ret (R.name a hd h) λe m d r=>by
  obtain rfl:=r.is;have h:=d.q8 n;have o:=h.pg q<|eH _;have m:∀b∈I.cB++aH bg,b∈Y.X:=λb a=>by
   show cK a (λa=>?_) λa=>?_
   .show d.sub b a
   .show g1 a λf n=>?_;show(h.D f n).1
  show#[_,_,bg,.inl V,s,o,?_];show((d.D _ j).2.keep (l.sub m)<|E.bd _).toList λo f=>cb _ f λa=>by
   show cK a (λa=>?_) λa=>?_
   .show k a
   .show p e d a) λt f=>f.elim
def av.z5:av Y .Eq (.str<|az [q]) (.str<|az [q]) z:=av.of_eq av.rd<|beq_self_eq_true q
def av.rf (a:q≠af):av Y .Eq (.str<|az [q]) (.str<|az [af]) aj:=av.of_eq av.rd<|beq_eq_false_iff_ne.mpr a
def eF.of_eq (a:eF Y m b)(d:b=n):eF Y m n:=d▸a
end
noncomputable def Pn (aa:Option cl):c4:=wY (aa.getD<| .Pass default) (λa a a a a a a a a a=>(.Name "" default)) (λa a a a a a a a a a=>(.Name "" default)) (λa a a a a a a a a a a=>(.Name "" default)) (λa a=>(.Name "" default)) (λa a=>(.Name "" default)) (λa a a=>(.Name "" default)) (λa a a a a a a=>(.Name "" default)) (λa a a a=>(.Name "" default)) (λa a a a a=>(.Name "" default)) (λa a a a a=>(.Name "" default)) (λa a a a a=>(.Name "" default)) (λa a a a=>(.Name "" default)) (λaT a a a=>aT) (λa a a=>(.Name "" default)) (λa a a=>(.Name "" default)) (λa a a=>(.Name "" default)) (λa a a=>(.Name "" default)) (λa a a a a=>(.Name "" default)) (λa a a a a=>(.Name "" default)) (λa a a=>(.Name "" default)) (λa a=>(.Name "" default)) (λa a a a=>(.Name "" default)) (λa a=>(.Name "" default)) (λa a=>(.Name "" default)) (λa a=>(.Name "" default)) (λa=>(.Name "" default)) (λa=>(.Name "" default))<|λa=>(.Name "" default)
noncomputable def Po (aa:Option cl):Option cl:=(Fu aa)[0]?
def FC (it:ec):0<it.lf.length:=by cases it<;>show oR _
def z6 (a b:List ec):cc (a++b)=cc a++cc b:=wb
def Pp (a:List ec)(it:ec):dv (a++[it])=h2 (dv a) it.g4:=by simp[dv,iX]
def Pq (a:List bS)(b:bS):(h2 a b).length<=a.length+1:=by
 unfold h2;split
 .split<;>simp
 .simp
def wc:∀d:List ec,(dv d).length<=d.length:=by
 intro d;have e:∀(b:List ec)(a:List bS),(b.foldl (λf it=>h2 f it.g4) a).length<=a.length+b.length:=by
  intro b
  induction b with
  |nil=>intro a;simp|cons it b g=>intro a;have:=g<|h2 a it.g4;have:=Pq a it.g4;simp only[hV,eA];lia
 unfold dv;simpa using e d []
inductive FD (ca:bP)(gf:List ec)(a:j)(ac q:T)(s:Nat)(Γ:be)(own:aD):Prop
 |mk (done b:List ec) (d:gf=done++b) (e:s=b.length) (f:aL Γ (("i",.int ((cc done).length:Nat))::dZ ac q a ca)) (g:own=eK cu ac q a (dv done)):FD ca gf a ac q s Γ own
section
variable {U:aV}
def nD (d:aR U):ez U 69 (bi 69<|a U) ["pat","STAR","QUESTION_MARK"] (cf 69<|a U):=
 d.fn V rfl H V rfl (Je λf b g=>by room)
  (fh V<|fh V<|fh V he) (k H) (by decide:([]:ak).Nodup) e e V
def Pr (F:aR U)(Th:dg U.B 68 64)(n:Nat)(s:T)(X v:aY)(Ta:∀b∈X,b∈v)(D:aO)(Ti:D.bY=z)(done o:List ec)(it:ec)(Tj:it.ok=z)(Tb:(cc<|done++it::o).length<=100000)(I:done.length<=90000)(d:j)(Tk:nj d)(f h:T)(Tc:c9):
 S D #[U,n+1,e0 U s,v,("i",.int ((cc done).length:Nat))::dZ f h d (cc<|done++it::o),eK cu f h d<|dv done] (zY U) (c0 (λa=>∃w J,(∀b∈X,b∈w)/\J=(cc<|done++[it]).length/\u D #[U,n+1,e0 U s,w,("i",.int (J:Nat))::dZ f h d (cc<|done++it::o),eK cu f h d<|dv<|done++[it]] a) Tc):=by
 have Td:cc (done++it::o)=cc done++(it.lf++cc o):=by rw[z6];rfl
 have K:(cc<|done++[it]).length=(cc done).length+it.lf.length:=by rw[z6];mspec dE;simp[cc]
 have Te:=FC it;have S5:(cc<|done++it::o).length=(cc done).length+it.lf.length+(cc o).length:=by mspec Td;simp;simp+arith
 have S6:∀M,M<it.lf.length->(cc<|done++it::o)[(cc done).length+M]?=it.lf[M]?:=λM S7=>by
  mspec Td;mspec sZ (by simp+arith);mspec s0 (by show c5 [.aK t N,.C (.y G aU)<| .y aU t] 0 (.Q G) N H S7<|ay<|e8 (n:=(cc done).length+M) (m:=(cc done).length)<|b9 [] 0 G (.y G N) H);congr 1;simp+arith
 have P:=wc done;rw[Pp];generalize M:cc (done++it::o)=L at*;generalize o:(cc done).length=i0 at*;generalize dv done=ps at*;obtain⟨Y,Z⟩:∃Y,it.lf[0]?=O Y:=#[_,gm Te];have Tf:=S6 0 Te;rw[nQ,Z]at Tf;mexact S.bq (g.assign (af:=.str<|az [Y]) (R.item (R.K 1 V) (R.K 0 V)<|b6.oC Tf<|c5 [.C N<| .n 100000,.C (.y (.y G t) aU) N] 0 (.Q G) (.n<|2^62) H Tb<|ay (S5).symm) (.inl V) V) ?_;mexact S.bq (g.assign (af:=.int ((i0+1:Nat):Int)) (R.of_eq (R.add (R.K 1 V) R.bJ)<|congrArg j.int<|by simp+arith) (.inl V) V) ?_;mexact S.dV (eG:=("c",.str (az [Y]))::("i",.int (i0+1:Nat))::dZ f h d L) (aL.cH [1,0,2,3,4,5,6,7] rfl) ?_;have x:∀a,u D #[U,n+1,e0 U s,v,("c",.str (az [Y]))::("i",.int (i0+1:Nat))::dZ f h d L,eK cu f h d<|h2 ps it.g4] a->it.lf.length=1->∃w J,(∀b∈X,b∈w)/\J=(cc<|done++[it]).length/\u D #[U,n+1,e0 U s,w,("i",.int (J:Nat))::dZ f h d L,eK cu f h d<|h2 ps it.g4] a:=λa l B=>f5 v (i0+1) Ta (by mspec K;show aI B V)<|l.ef λE S9=>A S9;cases it with
 |rb=>
  cases Z;mexact S.ek (g.dB (an:=z) (aZ.bK (R.K 0 V) (R.of_eq R.cy<|by room) (av.z5 (q:=42)) e) (λi=>?_)<|λa=>by cases a);cases B:ps.getLast? with
  |none=>
   obtain rfl:ps=[]:=Ps.mp B;mexact S.ek (g.dB (an:=z) (aZ.or (b:=z) (q:=z) (aZ.rL (b:=aj)<|aZ.j8 (R.K 5 V) (eF.of_eq (eF.list (ds:=[]) (aq.D<|A ao)<|k H) e)<|λi=>rfl)<|λa=>by cases a) (λi=>?_)<|λa=>by cases a);show S.bq (pE c (R.K 3 V) (bl 6 V) (k H) e V rfl rfl)<|S.nil λa l=>x a l V
  |some E=>
   have Tl:ps≠[]:=by rintro rfl;cases B
   have S7:aZ #[U,n+1,e0 U s,v,("c",.str (az [42]))::("i",.int (i0+1:Nat))::dZ f h d L,eK cu f h d ps] (Pn<|Po (zY U)[2]?) (aj||!E.isNone):=
    aZ.or (aZ.rL (b:=z)<|aZ.j8 (R.K 5 V) (eF.of_eq (eF.list (ds:=ps.map<|c3 d) (aq.D<|A ao) (by rw[a6];show b9 [.C N<| .n 90000,.C G N] 0 (.Q G) (.n<|2^62) H I P))<|decide_eq_true (by rw[a6];show(jl.mpr Tl)))<|λi=>rfl)
     (λi=>aZ.bK (R.item (R.K 5 V) R.kQ<|b6.ek (ds:=ps.map<|c3 d) (af:=c3 d E) (aq.D<|A ao) (by mspec ss;mspec B;rfl)) (R.K 3 V) (av.yx<|u5 Tk E) e)
   cases E with
   |none=>
    have o:h2 ps ec.rb.g4=ps:=if_pos B;rw[o]at x ⊢;show S.ek (g.dB (an:=aj) S7 (λa=>by cases a)<|λi=>S.nil λa l=>x a l V)
   |some S8=>
    rw[(show h2 ps ec.rb.g4=ps++[c]from if_neg (by mspec B;intro Tm;cases Tm))]at x ⊢;show S.ek (g.dB (an:=z) S7 (λi=>S.bq (pE c (R.K 3 V) (bl 6 V) (b9 [.C N<| .n 90000,.C G N] 0 G (.n 100000) H I P) e V rfl rfl)<|S.nil λa l=>x a l V)<|λa=>by cases a)
 |v0=>
  cases Z;mexact S.ek (g.dB (an:=aj) (aZ.bK (R.K 0 V) (R.of_eq R.cy<|by room) (av.rf (q:=63) (af:=42)<|k H) e) (λa=>by cases a)<|λi=>?_);mexact S.ek (g.dB (an:=z) (aZ.bK (R.K 0 V) (R.of_eq R.cy<|by room) (av.z5 (q:=63)) e) (λi=>?_)<|λa=>by cases a);show S.bq (pE (O<|az [46]) (R.K 4 V) (bl 6 V) (b9 [.C N<| .n 90000,.C G N] 0 G (.n 100000) H I P) e V rfl rfl)<|S.nil λa l=>x a l V
 |v4=>
  cases Z;mexact S.ek (g.dB (an:=aj) (aZ.bK (R.K 0 V) (R.of_eq R.cy<|by room) (av.rf (q:=46) (af:=42)<|k H) e) (λa=>by cases a)<|λi=>?_);mexact S.ek (g.dB (an:=aj) (aZ.bK (R.K 0 V) (R.of_eq R.cy<|by room) (av.rf (q:=46) (af:=63)<|k H) e) (λa=>by cases a)<|λi=>?_);mexact S.ek (g.dB (an:=aj) (aZ.bK (R.K 0 V) (R.of_eq R.cy<|by room) (av.rf (q:=46) (af:=91)<|k H) e) (λa=>by cases a)<|λi=>?_);have S4:=K5 F (n:=n) (env:=e0 U s) (X:=v) (Γ:=("c",.str (az [46]))::("i",.int (i0+1:Nat))::dZ f h d L) (own:=eK cu f h d ps);replace S4:=(by room:jr "."=az [46])▸S4;replace S4:=(by room:jr "\\."=az [92,46])▸S4;show S.bq (pE (O<|az [92,46]) (R.g5 (ds:=[.str<|az [46]]) (F.eU V (by room) V rfl (k H)) (yY F).at_.choose_spec.1 (yY F).at_.choose_spec.2 (W.cons (R.K 0 V) W.nil V) S4 V e V) (bl 6 V) (b9 [.C N<| .n 90000,.C G N] 0 G (.n 100000) H I P) e V rfl rfl)<|S.nil λa l=>x a l V
 |brk p=>
  cases Z;rw[(show ec.lf (.brk p)=91::(p++[93])from rfl)]at S6 K S5;simp only[eA,dE,yQ]at K S5;mexact S.ek (g.dB (an:=aj) (aZ.bK (R.K 0 V) (R.of_eq R.cy<|by room) (av.rf (q:=91) (af:=42)<|k H) e) (λa=>by cases a)<|λi=>?_);mexact S.ek (g.dB (an:=aj) (aZ.bK (R.K 0 V) (R.of_eq R.cy<|by room) (av.rf (q:=91) (af:=63)<|k H) e) (λa=>by cases a)<|λi=>?_);mexact S.ek (g.dB (an:=z) (aZ.bK (R.K 0 V) (R.of_eq R.cy<|by room) (av.z5 (q:=91)) e) (λi=>?_)<|λa=>by cases a);have Tn:nC L p (i0+1):=#[by show c5 [.C (.y (.y G<| .Q<| .y N<| .Q<| .n 0) aU) t] 0 (.Q<| .y (.Q G) N) t H<|ay (S5).symm,λS8 Tg=>by
   mspec(by simp+arith:i0+1+S8=i0+(S8+1));mspec S6 (S8+1) (by simp;show b9 [.aK G N] 0 (.Q G) (.Q N) H Tg);mspec Pt;show aI (s0 Tg) V]
  have To:L[i0+1+p.length]?=O 93:=by
   mspec(by simp+arith:i0+1+p.length=i0+(p.length+1));mspec S6 (p.length+1) (by simp);mspec Pt;mspec sZ<|cg _;rw[z0];rfl
  mexact S.dP (S.dV (eG:=("i",.int (i0+1:Nat))::dZ f h d L) (λE S9=>A S9)<|Pm F Th (n+1) s v D Ti L p (i0+1) Tn To Tj Tb d f h ps (b9 [.C N<| .n 90000,.C G N] 0 G (.n 100000) H I P) Tc) λTp a r=>?_;cases Tp with
  |next=>
   obtain⟨w,Tq,l⟩:=r;show f5 w _ (λb a=>Tq b<|Ta b a) (cZ (bb [.C (.y G<| .Q<| .y N<| .Q<| .n 0) t] 0 (.Q<| .y (.Q G) N) t H<|ay (K).symm)<|bb [.C G<| .y N<| .Q<| .y t<| .Q<| .n 0] 0 G (.Q<| .y (.Q N) t) H<|ay K) l
  |brk=>show r|cont=>show r|ret a=>show r
noncomputable abbrev Pu:=λ(gf:List ec) (a:j)=>([("pat",.str (az<|cc gf)),("STAR",a),("QUESTION_MARK",.str (az [46]))]:be)
noncomputable abbrev Pv:=λac q done (a:j)=>(eK cu ac q a (dv done):aD)
noncomputable abbrev FE:=λac q (gf:List ec) (a:j)=>(eK cu ac q a (dv gf):aD)
def Pw (I:aR U)(L:dg U.B 68 64)(n:Nat)(w:T)(X:aY)(x:aO)(M:x.bY=z)(d:List ec)(P:∀it∈d,it.ok=z)(J:(cc d).length<=100000)(Z:d.length<=90000)(h:j)(S4:nj h):
 S x #[U,n+1,e0 U w,X,Pu d h,[(64,.tab cu)]] (cf 69<|a U) (er U x [(64,.tab cu)] λS5 S6=>S5=[(64,.tab cu)]/\S6=.list ((dv d).map<|c3 h)):=by
 mexact S.m4 (.inl V) λl S5 S7=>?_;mexact S.CV (ac:=l) (ds:=[]) (bl 0 V) (k H) (k H) ao (.inl V) V rfl λm S5 S6=>?_;mexact S.bq (g.CX (ae:="i") (bu:="n") (ac:=.int 0) (b:=.int (cc d).length) (R.tuple (W.cons R.bJ (W.cons (R.jG (ds:=[_]) (I.eX V rfl (by room) (k H) V rfl rfl (k H)) (W.cons (R.K 2 V) W.nil V) (bO.sU (ae:=az<|cc d) (by rw[gB];show bh [↑(cc d).length] [.C f<| .n 100000] 0 (.Q f) (.n 9223372036854775808) H (dH.mpr J:))) V e V) W.nil V) V)<|dt H) (.inl V) (.inl V) V rfl) ?_;mexact S.dV (eG:=("i",.int ((cc ([]:List ec)).length:Nat))::dZ l m h (cc d)) (aL.cons (by show(("i":i),j.int 0)∈_;show bl 0 V)<|aL.cH [4,5,6,3,2,1] rfl) ?_;mexact S.vj (λΓ own=>aL Γ (("i",.int ((cc d).length:Nat))::dZ l m h (cc d))/\own=(FE l m d h)) (g.vi (ce:=FD (cc d) d h l m) d.length #[[],d,V,V,aL.bd _,V] ?_) ?_
 .rintro S5 u Γ own E ⟨done,o,p,rfl,s,rfl⟩;show#[decide (((cc done).length:Int)<((cc d).length:Int)),aZ.bK (R.name (s _<|bl 0 V) (k H)<|k H) (R.name (s _<|bl 6 V) (k H)<|k H) av.lt e,λB=>?_,λB=>?_]
  .have S5:=k B;cases o with
   |nil=>rw[fj]at p;subst p;(exfalso;show oS [.aK G G] H<|ej.mp<|k B)
   |cons it o=>
    subst p;mexact S.dV (Y:=#[U,n+1,e0 U w,u,Γ,Pv l m done h]) s ?_;mexact S.dP (Pr I L n w _ u E x M done o it (P _<|by simp) J (by simp at Z;show a5 (oW _ _) ‹_›) h S4 l m (λF D=>rZ (λx=>False) (λx x=>False) F D)) λF D r=>?_;cases F with
    |next=>
     obtain⟨S8,x,S9,rfl,v⟩:=r;show#[S8,_,_,S9,#[o.length,fA _,done++[it],o,by simp,V,aL.bd _,V],v]
    |brk=>show r.elim|cont=>show r.elim|ret x=>show r.elim
  .have K:=of_decide_eq_false B;mexact S.nil λD v=>?_;obtain rfl:o=[]:=by
    cases o with
    |nil=>rfl|cons it o=>
     subst p;rw[z6]at K;exfalso;apply K;simp[cc];show ej.mpr<|bb [.aK (.n 0) N] 0 (.Q G) (.y G<| .y N t) H<|FC it
   rw[fj]at p;subst p;show#[u,Γ,_,E,#[s,V],v]
 .intro u Γ own E o;show kJ o λs=>?_;mexact S.dV (Y:=#[U,n+1,e0 U w,u,Γ,FE l m d h]) s ?_;mexact S.bq (g.uS<|aZ.bK (q:=z) (R.K 0 V) (R.K 6 V) (av.of_eq av.eq<|beq_self_eq_true _) e) ?_;mexact S.FB (ac:=l) (bE:=(dv d).map<|c3 h) (bg:=[(64,.tab cu)]) (bl 4 V) (A ao) S7 (zP [(m,j.aG (eZ "list.append" l)),(l,.list ((dv d).map<|c3 h))] [(64,.tab cu)]) (λD v o=>?_) (λh d=>c7 d) #[V,V] (k H)<|k H;have:=(gq.mp v.dr).2;show(gq.mp this).1 _ (wa _) (by simpa[aH]using o)
def wd (f:aR U)(k:dg U.B 68 64){b:bc}{e:aO}{n:Nat}{keep:aD}(l:b.d=U)(m:b.n=n+2)(o:e.bY=z)(a:List ec)(p:∀it∈a,it.ok=z)(q:(cc a).length<=100000)(r:a.length<=90000)(d:j)(s:nj d)(t:b.D.Perm ([(64,.tab cu)]++keep)):
 dX b e (.ref 69) [.str<|az<|cc a,d,.str<|az [46]] (λg h i=>h=[(64,.tab cu)]++keep/\i=.list ((dv a).map<|c3 d)):=by
 subst l;show(nD f).mr (n:=n+1) (ah:=[(64,.tab cu)]) (keep:=keep) m V t (λl g h0=>Pw f k n l g #[h0,b.X,c,e.bY] o a p q r d s) λh i m=>am m λa b=>#[by show aI a V,b]
end
end
def FF:mroOf (.type "object")=pure [.type "object"]:=by rw[mroOf_type];room
def Px:lz (.type "object") "__new__"=pure (O<| .builtin "object.__new__"):=by rw[kd];mspec ke;room
def Py:TypeCalled "object" "object.__new__" "object.__init__":=
 #[by decide+kernel,by decide+kernel,(dM _ _ FF),madeBy_type FF Px (by decide+kernel),by decide+kernel,by rw[lF];room,PySem.F.slot_object_init]
def Pz:checkTypeCall "object" #[[],[]]=pure ():=by room
def PA:checkBuiltinCall "object.__new__" #[[.type "object"],[]]=pure ():=by room
def PB:Bind.madeHere "object.__new__" (.type "object")=pure ():=by room
def PC:og (Builtin.«object.__new__» #[[.type "object"],[]]) (λd b a=>b (.ok<| .ret<| .ref a.heap.objs.size) {a with heap:=a.heap.push {cls:=.type "object",dict:=c,data:=.plain}}):=
 uP λe f g b a d=>by
  have a:=PB;unfold Builtin.«object.__new__»
  wp_walk
  show as _ V d
def PD (d:T):og (Builtin.«object.__init__» #[[.ref d],[]]) (λe a b=>a (.ok<| .ret .none) b):=uP λe f g a b d=>ba<|as _ V d
section
variable {Y:bc}{I:aO}
def aS.PE (g:R Y (.Name b m) (.val<| .type "object"))
 (h:eval (.Call (.Name b m) [] [] pos) Y.J=(do dO pos (<-eval (.Name b m) Y.J) [] (cX pos<|bf [] Y.J) (jH pos<|jI [] Y.J))):
 aS Y I (.Call (.Name b m) [] [] pos) (λi j k=>i=Y.X/\j=Y.D/\∃o,k=.val (.ref o)):=.mk λb d k i j f l=>
 jb (g.go b d _ i j.todz f.tocU λk a n p q=>by
  obtain rfl:=q.is;have g:=f.keep p;show callWith_type0<|callType_meets (Q₁:=λb f=>b=.ref a.objs.size/\f={({d with heap:=a,toks:=n}:aM)with heap:=a.push {cls:=.type "object",dict:=c,data:=.plain}}) Py Pz PA PySem.F.entry_object_new PySem.F.entry_object_init PC #[V,V] ?_;intro b f a;show j4 a ?_;show#[(as _ (dL _ e) V),PySem.F.args_object_init_1 _,_,PD _,V,?_];show l _ _ .up #[Y.X,Y.D,_,#[V,V,_,V],λb a=>a,g.keep<|E.push _ _,.val _]) h
end
section
variable {U:aV}
def z7 (b:aR U):ez U 50 (bi 50<|a U) ["pat"] (cf 50<|a U):=
 b.fn V rfl H V rfl (kX λd=>by room)
  (fh V he) (by decide) (show([]:ak).Nodup by decide) e e V
def PF (d:aR U)(i:dg U.B 68 64)(n:Nat)(j:T)(X:aY)(f:aO)(k:f.bY=z)(b:List ec)(l:∀it∈b,it.ok=z)(m:(cc b).length<=100000)(t:b.length<=1000)(p:apart (dv b)=z)(q:gc (dv b)<=100000):
 S f #[U,n+2,bU (bi 50<|a U) j 50,X,[("pat",.str (az<|cc b))],[(64,.tab cu)]] (cf 50<|a U) (er U f [(64,.tab cu)] λr g=>r=[(64,.tab cu)]/\g=.str (gb<|dv b)):=by
 mexact S.kj (aS.PE (d.eX V rfl (by room) (by decide) V rfl rfl (by decide)) V) (.inl V) V ?_;intro f j g h;show Bx h λs j=>?_;show v j λo r=>?_;show bw r ?_;intro _;obtain rfl:X=f:=s.symm;mexact S.kj (aS.g5 (ds:=[.str<|az<|cc b,.val<| .ref o,.str<|az [46]]) (d.eU V (by room) V rfl (by decide)) (nD d).at_.choose_spec.1 (nD d).at_.choose_spec.2 (W.cons (R.K 1 V) (W.cons (R.K 0 V) (W.cons (R.of_eq R.cy<|by room) W.nil V) V) V) (wd d i V rfl k b l m (by show b0) (.val<| .ref o) (.obj o) (keep:=[]) (eH _)) V e V) (.inl V) V ?_;intro f i g h;show j4 h ?_;intro _;show S.qI (R.g5 (ds:=[.list<|(dv b).map<|c3<| .val<| .ref o,.val<| .ref o]) (d.eU V (by room) V rfl (by decide)) (sy d).at_.choose_spec.1 (sy d).at_.choose_spec.2 (W.cons (R.K 0 V) (W.cons (R.K 1 V) W.nil V) V) (Du d (dv b) (.val<| .ref o) (.obj o) p q (by have:=wc b;show a5 ‹_› ‹_›)) V e V) V (E.bd _) (λd b=>c7 b) (eH _) #[V,V]
def PG (e:aR U)(i:dg U.B 68 64){b:bc}{d:aO}{n:Nat}{keep:aD}(j:b.d=U)(k:b.n=n+3)(l:d.bY=z)(a:List ec)(m:∀it∈a,it.ok=z)(o:(cc a).length<=100000)(p:a.length<=1000)(q:apart (dv a)=z)(r:gc (dv a)<=100000)(s:b.D.Perm ([(64,.tab cu)]++keep)):
 dX b d (.ref 50) [.str<|az<|cc a] (λf g h=>g=[(64,.tab cu)]++keep/\h=.str (gb<|dv a)):=by
 subst j;show(z7 e).mr (n:=n+2) (ah:=[(64,.tab cu)]) (keep:=keep) k V s (λj f h0=>PF e i n j f #[h0,b.X,c,d.bY] l a m o p q r) λg h k=>am k λa b=>#[by show aI a V,b]
end
noncomputable def rg (r:a3->Int)(h4:Array Keyed)(L:Nat):Int:=r ((h4[L]?.map (·.1)).getD .none)
structure we (cY:i5)(bp:fd)(aJ:cV)(aa:aM)(f0:Array Keyed)(r:a3->Int):Prop where
 lt:∀(bv:bX)(ae bu:Keyed)(bM:Bool->aM->Prop),ae∈f0.toList->bu∈f0.toList->bM (decide (r ae.1<r bu.1)) aa->ar (b2 cY bp) aJ (oneLt' z ae.1 bu.1) bM bv aa
 bz:(f0.toList.map λai=>r ai.1).Nodup
def FG (r:a3->Int)(h4:Array Keyed)(s:Nat):Prop:=∀L cC,L<cC->cC<s->rg r h4 L<rg r h4 cC
abbrev FH:=Nat->Nat->(Bool->aM->Prop)->aM->Prop
structure nE (gs:FH)(aa:aM)(bL:Nat)(bt:Nat->Int):Prop where
 ask:∀L cC U,L<bL->cC<bL->U (decide (bt L<bt cC)) aa->gs L cC U aa
 kN:∀L cC,L<bL->cC<bL->L≠cC->bt L≠bt cC
def gQ (bL:Nat)(ai:Array Nat):Prop:=ai.Perm<|tF<|h7 bL
noncomputable def eo (bt:Nat->Int)(ai:Array Nat)(L:Nat):Int:=bt<|ai.getD L 0
def jZ (bt:Nat->Int)(ai:Array Nat)(s:Nat):Prop:=∀L cC,L<cC->cC<s->eo bt ai L<eo bt ai cC
def pF (bt:Nat->Int)(ai:Array Nat)(s:Nat):Prop:=∀L cC,L<cC->cC<s->eo bt ai cC<eo bt ai L
def s1 {a b:Nat}(d:m[a]?=n[b]?):eo o m a=eo o n b:=by
 unfold eo;mspec rh;mspec rh;show aI d V
def gQ.size (a:gQ b m):m.size=b:=a.size_eq.trans jP
def gQ.lt (b:gQ m n){a:Nat}(e:a<m):n.getD a 0<m:=by
 have d:a<n.size:=b.size.symm▸e;mspec rh;mspec getElem?_pos _ a d;show iW.mp<|(wf.mp b).mem_iff.mp<|Array.getElem_mem_toList d
def gQ.inj (d:gQ o b)(e:n<m)(g:m<o):b.getD n 0≠b.getD m 0:=by
 have a:m<b.toList.length:=DQ g d.size.symm;have f:n<b.toList.length:=vX e a;have g:b.toList.Nodup:=(wf.mp d).nodup_iff.mpr PH;have d:=FI.mp g n m f a e;rwa[rh,rh,getElem?_pos b n f,getElem?_pos b m a]
section
variable {gs:FH}{aa:aM}{bL:Nat}{bt:Nat->Int}{ai:Array Nat}
def nE.at (i:nE gs aa bL bt)(d:gQ bL ai){j:Type}{e:j->aM->Prop}{f:Bool->KasT j}{a b:Nat}(g:a<bL)(h:b<bL)(n:a<b\/b<a)
 (k:eo bt ai a<eo bt ai b->(f z).kasWp gs e aa) (l:eo bt ai b<eo bt ai a->(f aj).kasWp gs e aa):(KasT.ask (ai.getD a 0) (ai.getD b 0) f).kasWp gs e aa:=by
 show i.ask _ _ _ (d.lt g) (d.lt h) ?_;by_cases e:eo bt ai a<eo bt ai b
 .show(decide_eq_true e).symm▸k e
 .show(decide_eq_false e).symm▸l ((s2<|i.kN _ _ (d.lt g) (d.lt h)<|n.elim (λn=>d.inj n h) λn=>(d.inj n g).symm).resolve_left e)
def jZ.snoc (f:jZ bt ai (b+1))(g:eo bt ai b<eo bt ai (b+1)):jZ bt ai (b+2):=λd e h i=>
 (wg.mp i).elim (λa=>f d e h a) λa=>a▸(wg.mp (a▸h:d<b+1)).elim (λe=>wh (f d b e<|fA b) g) λe=>e▸g
def pF.snoc (f:pF bt ai (b+1))(g:eo bt ai (b+1)<eo bt ai b):pF bt ai (b+2):=λd e h i=>
 (wg.mp i).elim (λa=>f d e h a) λa=>a▸(wg.mp (a▸h:d<b+1)).elim (λe=>wh g<|f d b e<|fA b) λe=>e▸g
def FJ (h:nE gs aa bL bt)(i:gQ bL ai){f:Nat->aM->Prop}(g:∀b,b+1<=bL->jZ bt ai (b+1)->(b+1=bL\/eo bt ai (b+1)<eo bt ai b)->f (b+1) aa)(d:Nat):∀n,n+1+d=bL->jZ bt ai (n+1)->(kas_asc ai d<|n+1).kasWp gs f aa:=by
 induction d with
 |zero=>show λn a e=>g _ (ay a) e<| .inl a
 |succ d j=>show λn a e=>h.at i (by show bb [.C (.y (.Q G)<| .Q t) N] 0 (.Q<| .Q G) N V<|ay a) (show n+1 - 1<bL by show c5 [.C (.y (.Q t)<| .Q aU) N,.C G<| .Q t] 0 (.Q G) N V (ay a)<|fE (n+1) 1) (.inr<|fA n) (λb=>g n (by show bb [.C (.y (.Q G)<| .Q t) N] 0 (.Q G) N V<|ay a) e<| .inr b) λb=>j (n+1) (by show cZ (bb [.C (.y (.Q G)<| .Q N) t] 0 (.y (.Q<| .Q G) N) t V<|ay a)<|bb [.C G<| .y (.Q N)<| .Q t] 0 G (.y (.Q<| .Q N) t) V<|ay (a).symm)<|e.snoc b
def PI (f:nE gs aa bL bt)(g:gQ bL ai)(h:∀e,e+1<=bL->pF bt ai (e+1)->m (ai,e+1,0) aa)(b:Nat):∀n,n+1+b=bL->pF bt ai (n+1)->(kas_desc b ai (n+1) 0).kasWp gs m aa:=by
 induction b with
 |zero=>show λn a d=>h _ (ay a) d|succ b i=>
  show λn a d=>f.at g (by show bb [.C (.y (.Q G)<| .Q t) N] 0 (.Q<| .Q G) N H<|ay a) (by show c5 [.C (.y (.Q t)<| .Q aU) N,.C G<| .Q t] 0 (.Q G) N H (ay a) (fE (n+1) 1):n+1 - 1<bL) (.inr<|fA n) (λb=>i (n+1) (by show cZ (bb [.C (.y (.Q G)<| .Q N) t] 0 (.y (.Q<| .Q G) N) t H<|ay a)<|bb [.C G<| .y (.Q N)<| .Q t] 0 G (.y (.Q<| .Q N) t) H<|ay (a).symm)<|d.snoc b) λb=>
   f.at g (by show c5 [.C (.y (.Q t)<| .Q aU) N,.C G<| .Q t] 0 (.Q G) N H (ay a) (fE (n+1) 1):n+1 - 1<bL) (by show bb [.C (.y (.Q G)<| .Q t) N] 0 (.Q<| .Q G) N H<|ay a) (.inl<|fA n) (λe=>h n (by show bb [.C (.y (.Q G)<| .Q t) N] 0 (.Q G) N H<|ay a) d) λe=>(Int.lt_asymm e b).elim
def gQ.wi (a:gQ bL ai)(b d:Nat):gQ bL (kas_rev ai b d):=(mirror_perm _ _ _ _).trans a
def FK (f:gQ bL ai){a:Nat}(g:a<=bL)(b:Nat):eo bt (kas_rev ai 0 a) b=if b<a then eo bt ai (a - 1 - b)else eo bt ai b:=by
 have d:=getElem?_mirror_all (xs:=ai) (i:=0) (j:=a) (f.size.symm▸g) b;by_cases e:b<a
 .rw[if_pos #[ew _,e],rE]at d;mspec if_pos e;show s1 d
 .rw[if_neg λa=>e a.2]at d;mspec if_neg e;show s1 d
def pF.wi (d:gQ bL ai)(e:b<=bL)(h:pF bt ai b):jZ bt (kas_rev ai 0 b) b:=λf i g a=>by
 rw[FK d e,FK d e];mspec if_pos a;mspec if_pos<|vX g a;show h _ _ (by show jA [.aK t aU,.C dx<| .y N t,.C (.y G aU) dx] 0 (.Q G) N H g (eY<|cg<|b - 1 - f)<|ay<|e8 (n:=b - 1) (m:=i)<|bb [.aK G t,.C t<| .Q N] 0 G N H a<|eY<|cg<|b - 1) (by show bb [.C G t,.aK t N] 0 (.Q G) N H (fE (b - 1) f)<|ay<|e8 (n:=b) (m:=1)<|b9 [.aK N G] 0 (.n 1) G H a)
def s3 {aT:KasT n}{a:o->aM->Prop}(b:aT.kasWp gs (λd e=>(m d).kasWp gs a e) aa):(aT.bind m).kasWp gs a aa:=(KasT.kasWp_bind aT aa).mpr b
def wj [Decidable b]{a d:KasT n}(e:b->a.kasWp gs m aa)(f:¬b->d.kasWp gs m aa):(if b then a else d).kasWp gs m aa:=by
 by_cases a:b
 .show(if_pos a).symm▸e a
 .show(if_neg a).symm▸f a
def PJ (f:nE gs aa bL bt)(a:gQ bL ai)(h:2<=bL){k:Nat×Array Nat->aM->Prop}(i:∀n j,gQ bL j->n+1<=bL->jZ bt j (n+1)->k (n+1,j) aa):(kas_count bL ai).kasWp gs k aa:=by
 show s3 (aT:=kas_asc ai (bL - 1) 1) (FJ f a (λn j d q=>?_) (bL - 1) 0 (by show cZ (b9 [.aK G N] 0 (.y (.Q<| .n 0) G) N H<|ay<|e8 (n:=bL) (m:=1)<|dK [.C (.n 2) G] 1 (.n 1) G H h)<|b9 [.C G<| .Q N] 0 G (.y (.Q<| .n 0) N) H<|eY<|cg<|bL - 1) λl o g b=>by show(p2 [.aK G N,.aK N<| .Q<| .n 0] H g b).elim);show wj (λp=>i n ai a j d) λr=>wj (λe=>?_) λe=>?_
 .show f.at a (by show dK [.C (.n 2) G] 1 (.Q<| .n 0) G H h) j (.inl<|lr e) (λp=>i _ ai a j d) λk=>(Int.lt_asymm k<|d 0 n (lr e)<|fA _).elim
 .obtain rfl:n=0:=by show cZ (dK [.aK G<| .n 1] 0 G (.n 0) H<|g8.mp e)<|dK [] 0 (.n 0) G H
  show s3 (aT:=kas_desc (bL - 2) ai 2 0) (PI f a (λe j k=>s3 (aT:=kas_asc (kas_rev ai 0<|e+1) (bL - (e+1))<|e+1)<|FJ f (a.wi 0 _) (λs t d p=>i s _ (a.wi 0 _) t d) (bL - (e+1)) e (by omega)<|k.wi a j) (bL - 2) 1 (by show cZ (b9 [.C (.y G<| .n 2) N] 0 (.y (.Q<| .n 1) G) N H<|ay<|e8 (n:=bL) (m:=2)<|dK [.C (.n 2) G] 0 (.n 2) G H h)<|b9 [.C G<| .y N<| .n 2] 0 G (.y (.Q<| .n 1) N) H<|eY<|cg<|bL - 2) λl o g b=>?_);have a:l=0:=by show cZ (b9 [.aK G N,.aK N<| .Q<| .n 1] 0 G (.n 0) H g b)<|dK [] 0 (.n 0) G H
  have d:o=1:=by show cZ (dK [.aK G<| .Q<| .n 1] 0 G (.n 1) H b)<|b9 [.aK N G] 0 (.n 1) G H g
  show a▸d▸q.resolve_left λe=>r<|beq_iff_eq.mpr e
def z8 (bt:Nat->Int)(ai:Array Nat)(s ag:Nat):Prop:=(∀L,L<ag->eo bt ai L<eo bt ai s)/\∀L,ag<=L->L<s->eo bt ai s<eo bt ai L
def PK (v:nE gs aa bL bt)(x:gQ bL ai){h:Nat}(p:h<bL)(q:jZ bt ai h){r:Nat->aM->Prop}(s:∀a,a<=h->z8 bt ai h a->r a aa)(k:Nat):
 ∀a g,g<=h->g<=a+k->a<=g->(∀f,f<a->eo bt ai f<eo bt ai h)->(∀f,g<=f->f<h->eo bt ai h<eo bt ai f)->(kas_place ai h k a g).kasWp gs r aa:=by
 induction k with
 |zero=>show λa g i l m n b=>s a (a5 m i) #[n,λf e=>b f<|a5 l e]
 |succ k u=>
  show λa g i l m n b=>wj (λh=>s a (a5 m i) #[n,λf e=>b f<|a5 h e]) λh=>?_;have o:a<=(a+g)/2:=(Nat.le_div_iff_mul_le Nat.two_pos).mpr (by show b9 [.C G N] 0 (.w G 2) (.y G N) H m);have j:(a+g)/2<g:=Nat.div_lt_of_lt_mul (by show b9 [.aK G N] 0 (.Q<| .y G N) (.cS 2 N) H<|Nat.not_le.mp h);generalize(a+g)/2=d at o j;show v.at x p (by show c5 [.aK t N,.C aU t,.aK G aU] 0 (.Q G) N H p i j) (.inr<|by show bb [.C t N,.aK G t] 0 (.Q G) N H i j) (λh=>u a d (by show bb [.C t N,.aK G t] 0 G N H i j) (by show c5 [.C aU<| .y N<| .Q t,.aK G aU] 0 G (.y N t) H l j) o n λf e k=>?_) λh=>u (d+1) g i (by show c5 [.C G<| .y aU<| .Q t,.C aU N] 0 G (.y (.Q N) t) H l o) j (λf e=>?_) b
  .show(FL e).elim (λe=>e▸h) λe=>wh h<|q d f e k
  .show(wg.mp e).elim (λe=>wh (q f d e<|by show bb [.C t N,.aK G t] 0 (.Q G) N H i j) h) λe=>e▸h
def s4 {a b d e:Int}(f:a=d)(g:b=e)(h:d<e):a<b:=f▸g▸h
def z8.bubble (m:gQ bL ai){d e:Nat}(t:d<bL)(r:e<=d)(o:jZ bt ai d)(s:z8 bt ai d e):jZ bt (bubble ai d<|d - e) (d+1):=by
 have p:∀a,(wk ai d<|d - e)[a]?=if a=e then ai[d]? else if e<a/\a<=d then ai[a - 1]? else ai[a]?:=λa=>by
  have i:=getElem?_bubble (xs:=ai) (src:=d) (DQ t m.size.symm) (d - e) (fE _ _) a;rwa[Nat.sub_sub_self r]at i
 have l:∀a,a<e->eo bt (wk ai d<|d - e) a=eo bt ai a:=λa m=>s1<|(p a).trans<|(if_neg<|g7 m).trans<|if_neg λi=>Nat.lt_asymm m i.1;have q:eo bt (wk ai d<|d - e) e=eo bt ai d:=s1<|(p e).trans<|if_pos V;have n:∀a,e<=a->a<d->eo bt (wk ai d<|d - e) (a+1)=eo bt ai a:=λa m t=>s1<|(p<|a+1).trans<|(if_neg<|Cu<|PL m).trans<|if_pos #[PL m,t];generalize wk ai d (d - e)=b at l q n;intro a g j k;show(sc a e).elim (λh=>?_) λh=>?_
 .show(sc g e).elim (λf=>s4 (l a h) (l g f)<|o a g j<|nR f r) λf=>?_;show(FL f).elim (λf=>s4 (l a h) (f▸q)<|s.1 a h) λf=>?_;cases g with
  |zero=>show(rH _ f).elim|succ g=>show s4 (l a h) (n g (wl f)<|lr k)<|o a g (nR h<|wl f)<|lr k
 .cases g with
  |zero=>show(rH _ j).elim|succ g=>
   have f:=n g (a5 h<|wl j)<|lr k;show(FL h).elim (λi=>s4 (i▸q) f<|s.2 g (a5 h<|wl j)<|lr k) λi=>?_;cases a with
   |zero=>show(rH _ i).elim|succ a=>show s4 (n a (wl i)<|vX (lr j)<|lr k) f<|o a g (lr j)<|lr k
def PM (j:nE gs aa bL bt){i:Array Nat->aM->Prop}(k:∀h,gQ bL h->jZ bt h bL->i h aa)(f:Nat):∀(ai:Array Nat) a,gQ bL ai->a+f=bL->jZ bt ai a->(kas_bin f ai a).kasWp gs i aa:=by
 induction f with
 |zero=>show λai a e d g=>k ai e<|d▸g
 |succ f l=>
  show λai a e d g=>s3 (aT:=kas_place ai a a 0 a) (PK j e (by show bb [.C (.y G<| .Q t) N] 0 (.Q G) N H<|ay d) g (λf h i=>l _ (a+1) ((bubble_perm _ _ _).trans e) (by show cZ (bb [.C (.y G<| .Q N) t] 0 (.y (.Q G) N) t H<|ay d)<|bb [.C G<| .y N<| .Q t] 0 G (.y (.Q N) t) H<|ay (d).symm)<|i.bubble e (by show bb [.C (.y G<| .Q t) N] 0 (.Q G) N H<|ay d) h g) a 0 a (cg a) (by show dK [] 0 G (.y (.n 0) G) H) (ew a) (λf j=>absurd j<|rH f) λf a b=>absurd b<|g8.mpr a)
def PN (b:nE gs aa bL bt)(h:2<=bL){d:Array Nat->aM->Prop}(e:∀a,gQ bL a->jZ bt a bL->d a aa):(kas_sort bL).kasWp gs d aa:=
 s3 (aT:=kas_count bL<|tF<|h7 bL) (PJ b (PO _) h λn a d f g=>wj (λh=>PM b e _ a _ d (PP (oR n)▸(by show cZ (bb [.C (.y N<| .Q G) t] 0 (.y (.Q G) N) t H<|ay<|e8 (n:=bL) (m:=n.succ)<|b9 [.aK G N] 0 (.Q G) N H f)<|bb [.C G<| .y t<| .Q N] 0 G (.y (.Q N) t) H<|eY<|cg<|bL - n.succ))<|PP (oR n)▸g) λh=>e a d<|cZ f (g8.mp h)▸g)
end
section
variable {cY:i5}{bp:fd}{aJ:cV}{bv:bX}{aa:aM}{f0:Array Keyed}{r:a3->Int}
def we.PQ (g:we cY bp aJ aa f0 r):nE (kas_cmp cY bp aJ z9 f0) aa f0.size λa=>r (ri f0 a).1:=by
 have b:∀a(f:a<f0.size),ri f0 a=f0.toList[a]:=λa f=>by unfold ri;mspec rh;mspec getElem?_pos _ a f;rfl
 show#[λa f i d e j=>g.lt _ _ _ i ?_ ?_ j,λa f d e n h=>?_]
 .show b a d▸oA _
 .show b f e▸oA _
 .rw[b a d,b f e]at h;show n ((List.getElem_inj (h₀:=by simpa using d) (h₁:=by simpa using e) g.bz).mp<|by simpa using h)
def PR (n:we cY bp aJ aa f0 r)(j:2<=f0.size)(o:f0.size<64)
 (p:∀b,(ju b).Perm f0->failedOf b=c->FG r (ju b) f0.size->m ((),b) aa):ar (b2 cY bp) aJ (StateT.run sortRuns'<|FM z9 f0 (aRR []) 7 c) m bv aa:=by
 have g:=kas_runs (E:=bv) (it:=f0) (κ:=z9) (prog:=cY) (w:=bp) (A:=aJ) (Q:=λd b e=>m (d,b) e) (G:=λh e=>e=aa/\gQ f0.size h/\jZ (λa=>r (ri f0 a).1) h f0.size) j o (λf b e q k s t=>?_)<|PN n.PQ j λh i d=>cG V i d
 .unfold kas_st at g;rw[kas_range]at g;show g
 .show eN t λi d=>?_;have l:∀a,a<f0.size->rg r (ju b) a=eo (λa=>r (ri f0 a).1) f a:=λa e=>by
   have g:a<f.size:=q.symm▸e;unfold rg eo;mspec k;mspec Array.getElem?_map;mspec rh;mspec getElem?_pos f a g;rfl
  have u:(f.map<|ri f0).Perm f0:=wf.mpr (by
   have:=(wf.mp i).map<|ri f0;rwa[<-FN,<-FN,kas_range]at this)
  show p b (k▸u) s λa f g e=>by mspec l a<|vX g e;mspec l f e;show d a f g e
end
section
open AutoSeq1 (wpAny_loadPart')
open MeetsSeq3
noncomputable abbrev eT (aE ae:Int)(aT a8:fg)(n:Nat):dF:={cls:=.type "list",dict:=c,data:=.seq (aRR [.int aE aT,.int ae a8]) n}
section
variable {ag b:T}{aE ae j0 ky:Int}{aT a8 s5 pG:fg}{n s6:Nat}
def FO (d:m (.bool<|decide (ae<ky)) o):ar (b2 r w) x (richCompare .Lt (.int ae a8)<| .int ky pG) m B o:=
 PySem.P.lt_int (a:=ae) (b:=ky) (t:=a8) (u:=pG) d
def PS:og (Builtin.«list.__eq__.loop» #[[.ref ag,.ref b,d4 2,d4 0],[]]) (λf e a=>a.heap.get? ag=O (eT aE ae aT a8 n)/\a.heap.get? b=O (eT j0 ky s5 pG s6)/\e (.ok<| .ret<| .bool aj) a):=by
 intro i j f e a d;obtain⟨e,f,i,j,k⟩:=a;obtain⟨g,h,d⟩:=d
 wp_walk using wpAny_loadPart' g,wpAny_loadPart' h
 show d
def PT:og (Builtin.«list.__eq__.loop» #[[.ref ag,.ref b,d4 1,d4 0],[]]) (λh e a=>a.heap.get? ag=O (eT aE ae aT a8 n)/\a.heap.get? b=O (eT j0 ky s5 pG s6)/\e (.ok<| .ret<| .bool<|decide (ae<ky)) a):=by
 intro j k h e a d;obtain⟨l,m,o,p,q⟩:=a;obtain⟨f,g,d⟩:=d
 wp_walk using wpAny_loadPart' f,wpAny_loadPart' g
 show wpAny_eqBool_int ?_;by_cases i:ae=ky
 .subst i;mspec if_pos (by simp)
  wp_walk
  show#[uR s7 _,pe FP ?_];mspec zB s7 _;show PS j k h e _ (cG f g<|by simpa using d)
 .mspec if_neg (by simpa using i);show ap<|s8 f V<|ap<|s8 g V ?_;show ap<|FO<|ba ?_;show d
def PU:og (Builtin.«list.__eq__.loop» #[[.ref ag,.ref b,d4 0,d4 0],[]]) (λi e a=>a.heap.get? ag=O (eT aE ae aT a8 n)/\a.heap.get? b=O (eT j0 ky s5 pG s6)/\e (.ok<| .ret<| .bool<|decide (aE<j0\/(aE=j0/\ae<ky))) a):=by
 intro j k i e a d;obtain⟨l,m,o,p,q⟩:=a;obtain⟨f,g,d⟩:=d
 wp_walk using wpAny_loadPart' f,wpAny_loadPart' g
 show wpAny_eqBool_int ?_;by_cases h:aE=j0
 .subst h;mspec if_pos (by simp)
  wp_walk
  show#[uR s7 _,pe FP ?_];mspec zB s7 _;show PT j k i e _ (cG f g<|by simpa using d)
 .mspec if_neg (by simpa using h);show ap<|s8 f V<|ap<|s8 g V ?_;show ap<|FO<|ba ?_;simpa[h]using d
def PV:og (Builtin.«list.__lt__» #[[.ref ag,.ref b],[]]) (λf d a=>a.heap.get? ag=O (eT aE ae aT a8 n)/\a.heap.get? b=O (eT j0 ky s5 pG s6)/\d (.ok<| .ret<| .bool<|decide (aE<j0\/(aE=j0/\ae<ky))) a):=by
 intro i j f d a e;obtain⟨k,l,m,o,p⟩:=a;obtain⟨g,h,e⟩:=e;have a:=AutoSeq1.sub_list_list
 wp_walk using wpAny_loadPart' g,wpAny_loadPart' h
 show#[uR s7 _,pe FP ?_];mspec zB s7 _;show PU i j f d _<|cG g h e
def PW (d:o.units<nV)(a:m.heap.get? ag=O (eT aE ae aT a8 n))(e:m.heap.get? b=O (eT j0 ky s5 pG s6))(f:r (decide (aE<j0\/(aE=j0/\ae<ky))) m):ar (b2 w x) o (oneLt' z (.ref ag)<| .ref b) r B m:=by
 show ar _ _ (cRoomFor "comparison" [.ref ag,.ref b] >>= _) _ _ _;show ap<|wpAny_cRoomFor d<|ap<|wpAny_callSpecialIfBound?_slot (T:="list") (as _ a V) PX<|ya PX (as _ a V) PySem.F.entry_list_lt (PySem.F.args_list_lt_2 _ _) PV<|cG a e ?_;show ma f
end
end
section
open PySem.Builtin PySem.Builtin.List
def PY (a e:T):Builtin.«list.sort» #[[.ref a],[(jr "key",.ref e)]]=(do
 let b <-listItems (.ref a)
 s9 (.ref a) λd=>(aRR [])
 let w <-seqEpoch a;let x <-sC b.toList;let m <-uo []
 e5 [x,m] do
  rule "list.sort.key"
  for B in b do
   match <-(dU (.ref e) [B]).attempt with
   | .ok M=>s9 m (·.push M)| .error n=>
    rule "list.sort.key-raised"
    let S4 <-listItems m
    s9 m λd=>(aRR [])
    letGo S4.toList.reverse [n]
    s9 (.ref a) λd=>b;throw n
  let r <-listItems m;let S5 <-if b.size<2 then pure general' else keyKind' r
  let((),o) <-(if b.size<2 then pure ()else sortRuns').run (FM S5 (r.zip b) (aRR []) 7 c);let f:=(ju o).map (·.2)
  s9 m λd=>(aRR [])
  letGo ((ju o).map (·.1)).toList (failedOf o).toList
  let S6:=(<-seqEpoch a)!=w
  s9 (.ref a) λd=>f
  if let O n:=failedOf o then rule "list.sort.comparison-raised";throw n
  if S6 then rule "list.sort.modified";raiseError "ValueError" "list modified during sort"
  ret .none):=rfl
def PZ (a b:a3):nb "list.sort" #[[a],[(jr "key",b)]]:=by unfold nb;room
structure P0 (al:aW)(aQ:T)(a7:iH)(ae:i)(body:c4):Prop where
 at_:∃o,al.get? aQ=O o/\o.data=.func a7
 m6:al.CodeRec a7.code a7.qualname
 pc:a7.body=.expr body
 r1:∀an,hD a7 #[[an],[]]=pure [(ae,an)]
 FQ:a7.scope.names.lookup ae=O .local
 zj:∀ae∈a7.scope.names,ae.2≠ .cell
 fm:a7.scope.isCoroutine=aj
 bY:a7.scope.isGenerator=aj
 kind:a7.scope.kind=.function
def P1 (a:P0 m.heap r a7 ae body)(F:U.B.NoLimit)(t:dz M (n+1))
 (u:E (l m.heap X) U.B) (x:∀g∈X,∃o,m.heap.get? g=O o) (G:hY U a7 m.heap (l m.heap X) Γ) (H:a9 U (l m.heap X) w af) (I:∀J K,R #[U,n,eC a7 J r,K,(ae,af)::Γ,[]] body ex)
 (e:∀j h' p,E h' m.heap->a9 U (l h' X) j ex->S4 j {m with heap:=h',toks:=p}):ar U.M M (dU (.ref r) [w]) S4 S5 m:=by
 show aX a.at_ λo J hd=>?_;show hS<|kla_callFunE t.xr J hd a.fm a.bY a.pc a.m6 ?_;rw[a.r1];show ba (Mc a.zj (λJ L=>by cases bW L;show a.FQ) (λq y J=>?_) a.kind);have h:E q m.heap:=λb o f=>J.extBut b o (g7<|gl f)<|gk _ f;show#[(F.keeps<|u.trans l.of).keeps h,kla_codeExpr ?_];have B:m.heap.get? m.heap.objs.size=c:=d3;have F:m.heap.objs.size∉X:=λd=>by show v (x _ d) λo e=>?_;replace e:=B▸e;cases e
 have s:E (l q<|m.heap.objs.size::X) (l m.heap X):=λg o e=>by
  have k:=l.of _ _ e;show cb _ (h g o k) λd=>?_;show aw (a4 d) (λN=>?_) λd=>?_
  .obtain rfl:=N;replace k:=B▸k;cases k
  .replace e:=(cT _ d)▸e;cases e
 have P:(eC a7 m.heap.objs.size r).kindOf ae=O .local:=a.FQ;have Q:cU #[U,n,eC a7 m.heap.objs.size r,m.heap.objs.size::X,(ae,af)::Γ,[]] q:=
  {base:=u.trans s
   cw:=λg d=>by
    rcases a4 d with rfl|d
    .show eW y λo k k f k=>?_;show dm o f
    .show v (x g d) λo f=>?_;show dm o (h _ _ f)
   d8:=λC i=>by
    rcases a4 i with rfl|i
    .show as w (.inl #[P,_,y,by simp])<|H.keep s
    .show l5 (G C i) λk w q r u x=>?_;show aX u λo f hd=>?_;show as w (.inr #[k,.inr q,r,o,h _ _ f,hd]) (x.keep s)
   D:=λC i=>nomatch i
   kind:=a.kind}
 show(I m.heap.objs.size<|m.heap.objs.size::X).go _ _ _ _ (t.rJ V rfl rfl (cg _)) Q λj h' p a f=>?_;show e j h' p (h.trans a)<|f.keep<|l.sub λg d=>A d
theorem Aa {h d:Type}{i:p6}{j:cV}{k:bX}{e:aM}{l:h->ib d}{q:d}:∀(b:List h){a:List d->aM->Prop},(∀f∈b,∀(a:d->aM->Prop),a q e->ar i j (l f) a k e)->a (b.map λn=>q) e->ar i j (b.mapM l) a k e
 |[],a,_,g=>by rw[List.mapM_nil];show ba g|f::b,a,m,g=>by
  mspec wm;show ap<|m f ao _<|ap<|Aa b (λa d=>m a<|A d)<|ba g
def P2 (i:n≠[])(h:∀d∈n,m.TypeIs d "list")(e:b z9 m):ar o r (keyKind' n.toArray) b w m:=by
 obtain⟨d,f,rfl⟩:=List.exists_cons_of_ne_nil i;rw[keyKind'_eq];mspec P4;have i:∀a∈d::f,∀(b:Option a3->aM->Prop),b c m->ar o r (firstOfTuple' a) b w m:=λa g b e=>by
  show ap<|Er (h a g) ?_;mspec if_pos (by decide);show ba e
 rw[map_eq_pure_bind];show ap<|ap<|Aa _ i<|ba ?_;mspec if_neg (by simp);mspec if_neg (by simp);rw[oneTypeOnly'_eq];mspec P4;rw[map_eq_pure_bind];show ap<|ap<|ap<|Aa (q:=oe "list") _ (λa g b e=>Er (h a g) e)<|ba ?_;have j:((tD (λk=>oe "list")<|d::f).toArray.all λa=>a==oe "list")=z:=by
  simp only[List.all_toArray,List.all_map,yX];intro _ _;rfl
 mspec(show(tD (λk=>oe "list")<|d::f).toArray[0]?=O (oe "list")from by simp);dsimp only;mspec j;show ba<|ba e
end
section
open PySem.Builtin PySem.Builtin.List
noncomputable abbrev eS (a:Int×fg):a3:=.int a.1 a.2
noncomputable def FR (an:a3):Int:=P5 an 0 0 0 (λa=>0) (λL a=>L) (λa a=>0) (λa a=>0) (λa a=>0) (λa=>0) (λa=>0) λa=>0
noncomputable def rj (al:aW)(an:a3):Int:=P5 an 0 0 0 (λa=>0) (λa a=>0) (λa a=>0) (λa a=>0) (λa a=>0) (λa=>0) (λa=>0) λag=>
 Option.rec 0 (λo=>Data.casesOn o.data 0 (λa=>0) (λa1 a=>1000*FR (a1.getD 0 .none)+FR (a1.getD 1 .none)) (λa a=>0) (λa a a=>0) (λa a=>0) (λa=>0) (λa=>0) (λa=>0) (λa=>0) 0) (al.get? ag)
def wn (a:b.get? m=O (eT o r w x n)):rj b (.ref m)=1000*o+r:=by
 delta rj;dsimp only;mspec a;rfl
inductive hN (aE:Int->Int)(al:aW)(ac fI:T):List (Int×fg)->cv->Prop
 |nil:hN aE al ac fI [] []|cons {a dj ag oO aT a8 n}:al.get? ag=O (eT (aE a.1) a.1 aT a8 n)->ag≠ac->ag≠fI->hN aE al ac fI dj oO->hN aE al ac fI (a::dj) (.ref ag::oO)
section
variable {aE:Int->Int}{al h':aW}{ac fI:T}{dj:List (Int×fg)}{jv:cv}
def hN.keep (d:cN [ac,fI] al h')(e:hN aE al ac fI dj jv):hN aE h' ac fI dj jv:=by
 induction e with
 |nil=>show .nil|cons f a b _ g=>show .cons (d _ _ (by simp[a,b]) f) a b g
def hN.snoc {a:T}{d e:fg}{n:Nat}(f:hN aE al ac fI dj jv)(g:al.get? a=O (eT (aE b.1) b.1 d e n))(h:a≠ac)(i:a≠fI):hN aE al ac fI (dj++[b]) (jv++[.ref a]):=by
 induction f with
 |nil=>show .cons g h i .nil|cons j k l _ m=>show .cons j k l m
def hN.len (a:hN aE al ac fI dj jv):jv.length=dj.length:=by
 induction a with
 |nil=>rfl|cons _ _ _ _ b=>simp[b]
def hN.P6 {d:aM}(e:d.heap=al)(f:hN aE al ac fI dj jv):∀b∈jv,d.TypeIs b "list":=by
 induction f with
 |nil=>intro b a;cases a
 |cons g _ _ _ h=>
  intro b a;show aw (a4 a) (λi=>?_) λa=>?_
  .obtain rfl:=i;show as _ (e▸g) V
  .show h b a
def hN.zip (h:hN aE al ac fI dj jv):∀d∈jv.zip (dj.map eS),∃b e f g n,b∈dj/\d=(.ref e,eS b)/\al.get? e=O (eT (aE b.1) b.1 f g n):=by
 induction h with
 |nil=>intro d a;cases a
 |@cons b dj e jv f g n i _ _ _ j=>
  intro d a;replace a:=b7▸a;replace a:=FS▸a;rcases a4 a with rfl|a
  .show BD b e f g n ao V i
  .show bB λe b=>?_;show hx (j d a) λf g h i k l=>?_;show cd l λa d j=>?_;show b ?_;clear b e;show BD f g h i k (A a) d j
def hN.P7 (b:hN aE al ac fI dj jv):(jv.zip<|dj.map eS).map (λd=>rj al d.1)=dj.map λa=>1000*aE a.1+a.1:=by
 induction b with
 |nil=>rfl|cons e _ _ _ f=>rw[b7,FS,b7,b7,wn e,f]
noncomputable def wo:a3->Int×fg
 | .int ae aT=>(ae,aT)|_=>(0,0)
def hN.items (a:hN aE al ac fI dj jv):(jv.zip<|dj.map eS).map (λb=>wo b.2)=dj:=by
 induction a with
 |nil=>rfl|cons a _ _ _ d=>rw[b7,FS,b7,d];rfl
end
inductive Ab (aE:Int->Int)(aa:aM)(ac fI:T)(a:Nat)(dj:List (Int×fg))(b:cv)(bR:aM):Prop
 |mk (done d:List (Int×fg)) (oO:cv) (h':aW) (e:fg) (s:Nat) (f:dj=done++d) (g:b=d.map eS) (h:bR={aa with heap:=h',toks:=e}) (au:cN [ac] aa.heap h') (d:h'.get? ac=O (pH "list" (aRR []) a)) (f:h'.get? fI=O (pH "list" oO.toArray s)) (g:hN aE h' ac fI done oO):Ab aE aa ac fI a dj b bR
def P8 {U:aV}{g Ts:T}{a:List (Int×fg)}{aE:Int->Int}
 (S5:m.heap.get? g=O (pH "list" (a.map eS).toArray T4)) (L:a.length<=60) (TK:Tg.units<nV) (Th:∀f∈a,0<=f.1/\f.1<1000) (TL:(a.map (·.1)).Nodup)
 (TM:∀(r:aM)(s:T)(f:Int×fg)(Ti:bX)(Tt:bX),f∈a->cN [g] m.heap r.heap->(∃o,r.heap.get? g=O o)->m.heap.get? s=c->(∃o,r.heap.get? s=O o)->
  (∀j h' I R W u,E h' r.heap->h'.get? j=O (eT (aE f.1) f.1 R W u)->j≠s->j≠g->Ti (.ref j) {r with heap:=h',toks:=I})->ar U.M Tg (dU (.ref Ts) [eS f]) Ti Tt r)
 (TN:∀Tj I(h:List (Int×fg)) u,cN [g] m.heap Tj->Tj.get? g=O (pH "list" (h.map eS).toArray u)->h.Perm a->h.Pairwise (λk v=>1000*aE k.1+k.1<1000*aE v.1+v.1)->Tu (.done (.ret .none)) {m with heap:=Tj,toks:=I}):
 ar U.M Tg (Builtin.«list.sort» #[[.ref g],[(jr "key",.ref Ts)]]) Tu T5 m:=by
 have Tj:(a.map eS).length=a.length:=a6 _;have Ta:(a.map eS).toArray.size=a.length:=by simp
 have Tj:g<m.heap.objs.size:=gl S5;rw[PY];show ap<|s8 S5 V ?_;show ap (ta S5 V ?_ (by mspec Ta;unfold aC;show b0)<|by simp);obtain⟨X,Tv⟩:∃X,(m.heap.update g<|jn λB=>(aRR [])).get? g=O (pH "list" (aRR []) X):=#[_,FT S5<|λB=>(aRR [])];have TO:cN [g] m.heap (m.heap.update g<|jn λB=>(aRR [])):=λb o n d=>(jh ..).extBut b o (by simpa using n) d;have TP:(m.heap.update g<|jn λB=>(aRR [])).objs.size=m.heap.objs.size:=aW.size_update ..;generalize m.heap.update g (jn λB=>(aRR []))=h1 at*;show ap<|FU Tv V ?_;show ap (wpAny_newTuple ?_ (by simp;unfold aC;show b0));show ap (wpAny_newList ?_<|by simp);show g6<|ap<|sd ?_;dsimp only;have TQ:((h1.push {cls:=.type "tuple",data:=.seq (a.map eS).toArray.toList.toArray}).push {cls:=.type "list",data:=.seq ([]:cv).toArray}).get? (h1.push {cls:=.type "tuple",data:=.seq (a.map eS).toArray.toList.toArray}).objs.size=O (pH "list" (aRR []) 0):=dL _ e;have J:m.heap.get? (h1.push {cls:=.type "tuple",data:=.seq (a.map eS).toArray.toList.toArray}).objs.size=c:=by
  show qk ?_;rw[mi];mspec TP;show lB _
 have TR:((h1.push {cls:=.type "tuple",data:=.seq (a.map eS).toArray.toList.toArray}).push {cls:=.type "list",data:=.seq ([]:cv).toArray}).get? g=O (pH "list" (aRR []) X):=gk _<|gk _ Tv;have TS:cN [g] m.heap ((h1.push {cls:=.type "tuple",data:=.seq (a.map eS).toArray.toList.toArray}).push {cls:=.type "list",data:=.seq ([]:cv).toArray}):=λb o n d=>gk _<|gk _<|TO b o n d;generalize(h1.push {cls:=.type "tuple",data:=.seq (a.map eS).toArray.toList.toArray}).objs.size=s at*;generalize(h1.push {cls:=.type "tuple",data:=.seq (a.map eS).toArray.toList.toArray}).push {cls:=.type "list",data:=.seq ([]:cv).toArray}=h3 at*;have Tw:s≠g:=λF=>by replace J:=F▸J;replace J:=S5▸J;cases J
 show ap (dq (forIn_array_ _ (λS5 (b:PUnit) r=>Ab aE m g s X a S5 r)
  (λb r=>Ab aE m g s X a [] r) ?_ ?_ (a.map eS).toArray vG #[[],a,[],h3,m.toks,0,V,V,V,TS,TR,TQ,.nil]) ?_ λB B d=>d)
 .rintro k S5 b r ⟨done,Tb,p,h',I,u,Y,Tc,rfl,l,Td,M,D⟩;cases Tb with
  |nil=>cases Tc
  |cons f Tb=>
  show j4 (oP Tc) ?_;show ap (wpAny_attempt<|TM _ s f _ _ (by mspec Y;simp) l #[_,Td] J #[_,M] λj Tk TT R W S5 S6 d Tx Ty=>?_);have K:=D.len;have Tz:done.length<=60:=by replace L:=Y▸L;simp at L;show a5 (oW _ _) ‹_›
  show ap (ta (S6 _ _ M) V ?_ (by simp;unfold aC;show dG (a5 (ay K) Tz) H) (by simp;unfold aC;show dG (a5 (ay K) Tz) H));have Tl:cN [s] Tk (Tk.update s (jn (·.push (.ref j)))):=λb o n d=>(jh ..).extBut b o (by simpa using n) d;have TA:=FT (S6 _ _ M) (·.push (.ref j));rw[show p.toArray.push (na j)=(p++[na j]).toArray by simp]at TA;show ba #[done++[f],Tb,p++[.ref j],_,TT,_,by mspec Y;simp,V,V,λb o n d=>?_,Tl _ _ (eM Tw.symm)<|S6 _ _ Td,TA,?_]
  .show Tl _ _ ?_<|S6 _ _<|l b o n d;intro F;replace d:=(bW F)▸d;replace d:=J▸d;cases d
  .show((D.keep (h':=Tk) λb o n d=>S6 b o d).snoc d Ty Tx).keep (λb o n d=>Tl b o (by simp at n ⊢;show n.2) d)
 .show λb r k=>k
 rintro _ r ⟨done,Tb,p,h',I,u,Y,Tc,rfl,l,Td,M,D⟩;obtain rfl:=tb.mp Tc.symm;rw[fj]at Y;subst Y;show ap<|s8 M V ?_;have K:=D.len;have Tm:(p.toArray.zip (a.map eS).toArray).toList=p.zip (a.map eS):=by simp
 have Te:(p.toArray.zip (a.map eS).toArray).size=a.length:=by simp;show(CJ p.length a.length).elim (λr=>cZ ((ml p.length a.length))<|a5 (ay (K).symm)<|ay (qD r).symm) λr=>cZ ((ml p.length a.length))<|(ay (CK r).symm)
 have TB:∀q:SortSt,(ju q).Perm (p.toArray.zip (a.map eS).toArray)->FG (rj h') (ju q) a.length->∃h:List (Int×fg),(ju q).map (·.2)=(h.map eS).toArray/\h.Perm a/\h.Pairwise (λk v=>1000*aE k.1+k.1<1000*aE v.1+v.1):=λq Z S7=>by
  have TC:(ju q).toList.Perm (p.zip<|a.map eS):=Tm▸wf.mp Z;have TD:∀A∈(ju q).toList,∃f j R W n,f∈a/\A=(.ref j,eS f)/\h'.get? j=O (eT (aE f.1) f.1 R W n):=λA Tn=>D.zip A<|TC.mem_iff.mp Tn;show fo ((ju q).toList.map λA=>wo A.2) ?_ ?_ ?_
  .apply Array.toList_inj.mp;mspec FN;mspec d2;show hC λA Tn=>?_;show bB λl i=>?_;obtain⟨f,j,R,W,n,_,rfl,_⟩:=TD A Tn;show i ?_;clear i l;rfl
  .show(TC.map _).trans (by rw[D.items])
  .show(FI).mpr ?_;intro To Tf TE S8 Tp;rw[a6]at TE S8;have r:Tf<a.length:=by show ch Te ?_;show ch Z.size_eq ?_;show ch rW ?_;show S8
   have S9:=S7 To Tf Tp r;have TF:∀u(r:u<(ju q).toList.length),rg (rj h') (ju q) u=1000*aE (((ju q).toList.map λA=>wo A.2)[u]'(by rw[a6];show r)).1+(((ju q).toList.map λA=>wo A.2)[u]'(by rw[a6];show r)).1:=λu r=>by
    show bB λl i=>?_;show hx (TD _<|oA r) λf j R W n A=>?_;show cd A λB d TU=>?_;show i ?_;clear i l;have TV:(ju q)[u]?=O (.ref j,eS f):=by mspec getElem?_pos _ u (by simpa using r);show ch d ?_;simp
    unfold rg;mspec TV;rw[List.getElem_map];mspec d;show wn TU
   replace S9:=(TF To TE)▸S9;replace S9:=(TF Tf S8)▸S9;show S9
 have done:∀(j:Array a3)(h:List (Int×fg)),j=(h.map eS).toArray->h.Perm a->h.Pairwise (λk v=>1000*aE k.1+k.1<1000*aE v.1+v.1)->∀P,cN [s] h' P->P.get? g=O (pH "list" (aRR []) X)->Tu (.done (.ret .none)) {m with heap:=P.update g<|jn λB=>j,toks:=I}:=λj h d Z TW P TX TY=>by
  subst d;show TN _ I h _ (λb o n d=>(λb o n d=>(jh ..).extBut b o (by simpa using n) d:cN [g] P (P.update g<|jn λB=>(h.map eS).toArray)) b o n<|TX b o (by
   intro F;replace d:=(bW F)▸d;replace d:=J▸d;cases d)<|l b o n d) (FT TY _) Z TW
 have Tq:cN [s] h' (h'.update s<|jn λB=>(aRR [])):=λb o n d=>(jh ..).extBut b o (by simpa using n) d;have S4:=Tq _ _ (eM Tw.symm) Td;by_cases w:(a.map eS).toArray.size<2
 .mspec if_pos w;mspec if_pos w;show ap<|ba ?_;rw[StateT.run_pure];show ap<|ba ?_;dsimp only;show ap (ta M V ?_ (by simp;unfold aC;show dG (a5 (ay K) L) H)<|by simp);show ap<|wpAny_letGo<|ap<|FU S4 V ?_;show bB λl i=>?_;show g3 (TB (FM general' (p.toArray.zip (a.map eS).toArray) (aRR []) 7 c) (PO _) (λTo Tf Tp S8=>by replace w:=Ta▸w;(exfalso;show xf [.aK G<| .n 2,.aK N t,.aK t G] H w Tp S8))) λh x y Tr=>?_;show i ?_;clear i l;show ap (ta S4 V ?_ (by simp) (by mspec x;simp;have:=y.length_eq;unfold aC;show b9 [.C N<| .n 60,.C G N] 0 G (.Q<| .n<|2^24) H L<|ay this));simp only[bne_self_eq_false,o6,if_false];show ba<|done _ h x y Tr _ Tq S4
 .mspec if_neg w;mspec if_neg w;have TZ:p≠[]:=by rintro rfl;replace w:=Ta▸w;simp at K;show oS [.C (.n 2) G,.C G<| .n 0] H (g8.mp w)<|ay (K).symm
  show ap<|P2 TZ (D.P6 V) ?_;have T0:we U.prog U.w Tg {m with heap:=h',toks:=I} (p.toArray.zip (a.map eS).toArray) (rj h'):=by
   show#[λTt k v Ti TG TH f=>?_,?_]
   .rw[Tm]at TG TH;show bB λl i=>?_;obtain⟨x,g,j,m,Tx,T1,rfl,TI⟩:=D.zip k TG;show i ?_;clear i l;show bB λl i=>?_;obtain⟨y,g,j,m,Ty,T2,rfl,TJ⟩:=D.zip v TH;show i ?_;clear i l;show PW TK TI TJ ?_;replace f:=(wn TI)▸f;replace f:=(wn TJ)▸f;have g:=Th x T1;have P:=Th y T2;mspec(decide_eq_decide.mpr #[by lia,by lia]:decide (aE x.1<aE y.1\/aE x.1=aE y.1/\x.1<y.1)=decide (1000*aE x.1+x.1<1000*aE y.1+y.1));show f
   .mspec Tm;mspec D.P7;show List.Pairwise.of_map (S:=λk v=>k≠v) (λF:Int=>F%1000) (λk v g d=>g (congrArg (·%1000) d)) ?_;mspec d2;have d:tD ((λF:Int=>F%1000)∘λf:Int×fg=>1000*aE f.1+f.1) a=a.map (·.1):=hC λf a=>by
     have:=Th f a;show(?_:(1000*aE f.1+f.1)%1000=f.1);lia
    show d▸TL
  show ap (PR T0 (by mspec Te;replace w:=Ta▸w;show(g8.mp w)) (by mspec Te;show gu) λq Z T3 S7=>?_);replace S7:=Te▸S7;show ap (ta M V ?_ (by simp;unfold aC;show dG (a5 (ay K) L) H)<|by simp);show ap<|wpAny_letGo<|ap<|FU S4 V ?_;show bB λl i=>?_;show g3 (TB q Z S7) λh x y Tr=>?_;show i ?_;clear i l;show ap (ta S4 V ?_ (by simp) (by mspec x;simp;have:=y.length_eq;unfold aC;show b9 [.C N<| .n 60,.C G N] 0 G (.Q<| .n<|2^24) H L<|ay this));mspec T3;simp only[bne_self_eq_false,o6,if_false];show ba<|done _ h x y Tr _ Tq S4
end
def P9 (e:b.all (·.1.isSome)=z)
 (f:ar m n (evalAll (b.map (·.2))) (λa d=>o #[[],(b.filterMap (·.1)).zip a] d) r w):ar m n (uQ x z [] b) o r w:=by
 unfold uQ;show ap<|ba<|ap<|ba ?_;show g6 ?_;mspec if_pos e;show ap<|dq f (λa d b=>ap<|ba<|ba b) λa a d=>d
def aN.Qa:∀{b:cv},aN n o b (m.map .int)->∃a:List (Int×fg),b=a.map eS/\a.map (·.1)=m:=by
 induction m with
 |nil=>show λd=>as [] d.hy V|cons e m f=>
  intro b d;show cm d.hy λg h b=>?_;show cd b λd g r=>?_;show aX (f r) λa b h=>?_;show v g.df λf i=>?_;show as ((e,f)::a) (aI d<|aI b<|aI i V) (congrArg (e::·) h)
theorem aN.FV:∀a:List (Int×fg),aN b m (a.map eS) ((a.map (·.1)).map .int)
 |[]=>.nil|b::a=>.cons (.int _ _)<|aN.FV a
section
variable {U:aV}
def g.Qb (Tn:aR U){Y:bc}{aE:Int->Int}(Tz:Y.d=U)(L:Y.n=n+2)
 (TA:(m,.val (.ref w))∈Y.p) (TB:(m==("__debug__":i))=aj) (TC:(m==("__classdict__":i))=aj) (To:Y.D=bD++(w,.list (h4.map .int))::b3) (TD:Y.D=Qc++(TE,.tab dj)::Qd)
 (S8:(B,Y.J.qual++"<lambda>")∈dj) (TF:∀d∈dj,(B.line==d.1.line&&B.col==d.1.col)=z->d.2=Y.J.qual++"<lambda>") (TG:Y.J.code=.ref TH) (TI:dg U.B TH TE) (TJ:zq x Y.J=([],[])) (TK:iT r Y.J=pure S5) (TL:Y.J.globals=hQ)
 (TM:zr r S5 Y.J Y.p lQ) (TN:∀p q s S9,hD (ot "<lambda>" (Y.J.qual++"<lambda>") x body r S5 p q s) #[[S9],[]]=pure [(M,S9)]) (TO:r.names.lookup M=O .local) (TP:∀m∈r.names,m.2≠ .cell) (TQ:r.isCoroutine=aj) (TR:r.isGenerator=aj) (TS:r.kind=.function)
 (TT:h4.length<=60) (TU:∀m∈h4,0<=m/\m<1000) (TV:h4.Nodup)
 (TW:∀D Ta S4 Tb,D.scope=r->D.globals=hQ->D.builtins=x8->D.closure=S5->∀m∈h4,R #[U,n,eC D Ta S4,Tb,(M,.int m)::lQ,[]] body (.list [.int<|aE m,.int m]))
 (TX:mq Y.J=aj) (TY:f7 (.Call (.Attribute (.Name m Tc) "sort" Td) [] [#[O "key",.Lambda x body r B,S6]] S7) c pos.line Y.J=pure aj)
 (Te:∃Tf:ib Bool,eval (.Call (.Attribute (.Name m Tc) "sort" Td) [] [#[O "key",.Lambda x body r B,S6]] S7) Y.J=(do
  let Tp <-eval (.Name m Tc) Y.J
  ep Td.atName
  let(S4,first) <-e5 [Tp] (gK Tp "sort" Tf)
  dO S7 S4 first (cX S7<|bf [] Y.J) (jH S7<|jI [#[O "key",.Lambda x body r B,S6]] Y.J))):
 g Y I (.Expr (.Call (.Attribute (.Name m Tc) "sort" Td) [] [#[O "key",.Lambda x body r B,S6]] S7) pos)
  (c0 (λTZ=>∃Tg:h,Tg.Perm h4/\Tg.Pairwise (λm M=>1000*aE m+m<1000*aE M+M)/\u I #[Y.d,Y.n,Y.J,Y.X,Y.p,bD++(w,.list (Tg.map .int))::b3] TZ) Um):=by
 subst Tz;show .mk λP Th Tq F Tr=>?_;obtain⟨Tf,Te⟩:=Te;have Ti:(w,.list (h4.map .int))∈Y.D:=To▸bA ao;show od ?_ TX TY;mspec Te;show ap<|(R.name TA TB TC).go P Th _ Tq F.todz Tr.tocU λS9 Ts Tt T0 T1=>?_;obtain rfl:=T1.is;have m:=Tr.keep T0;show ap<|jJ<|ap<|g6 ?_;show fD.list (Y:=Y) (aq.D Ti) Qe PySem.F.type_list_sort P {Th with heap:=Ts,toks:=Tt} _ Tq _ Tf m.tocU (.val _) ?_;show callWith_builtin_kwB e e<|P9 H<|kws_cons ?_;show aR.zp Tn (Y:=Y) (I:=I) (aa:={Th with heap:=Ts,toks:=Tt}) V m TD S8 TF TG TI TJ TK TL λS4 q p s S B J D T2 T3 T4=>kws_nil ?_;have T5:S4∉Y.X:=λf=>by
  show v (m.cw _ f) λo a=>?_;replace a:=T2▸a;cases a
 obtain⟨Tj,T6⟩:=J.D _ Ti;show aX T6.ey λT7 m T8=>?_;show v m λB Tu=>?_;obtain⟨T9,rfl,rfl⟩:=T8.Qa;have Ua:∀(h':aW)(k:T),cN [w] S h'->S.get? k=c->E (l h'<|k::Y.X) (l S Y.X):=λh' k j L b o d=>by
  have W:=l.of _ _ d;have Tv:b∉Y.X:=λf=>by replace d:=(cT _ f)▸d;cases d
  show cb _ (j b o (λa=>Tv<|bW a▸Tj) W) λf=>?_;show aw (a4 f) (λUb=>?_) λf=>?_
  .obtain rfl:=Ub;replace W:=L▸W;cases W
  .show Tv f
 show wpAny_call_entry_kw Qe (as _ Tu V) PySem.F.entry_list_sort (P8 (U:=Y.d) (aE:=aE) Tu (by simpa using TT) (F.t3 1<|by decide) (λd S8=>TU _<|dI S8) TV ?_ ?_)<|PZ _ _
 .intro m k d W S7 B j Uc D Ud Tk;have Tl:=Ua m.heap k j D;show P1 (U:=Y.d) (X:=k::Y.X) (n:=n) (Γ:=lQ) (a7:=ot "<lambda>" (Y.J.qual++"<lambda>") x body r S5 p q s) (ae:=M) (body:=body) (af:=.int d.1) (ex:=.list [.int<|aE d.1,.int d.1])
   #[(as _ (j _ _ (λa=>T5<|bW a▸Tj) T3) V),T4.keeps<|Tl.trans l.of,V,TN p q s,TO,TP,TQ,TR,TS] Tn.lim #[F.handled,by have:=F.depth;show P.depth+(n+1)<nU;show bb [.C (.y N<| .n 2) t,.aK (.y G t)<| .n nU] 0 (.Q<| .y G<| .Q N) (.n nU) H (ay (L).symm) this,by have:=F.units;show P.units+1+8*(n+1)+200<nV;show bb [#[8,.y N<| .n 2,t],.aK (.y (.y G<| .cS 8 t)<| .n 200)<| .n nV] 0 (.Q<| .y (.y (.Q G)<| .cS 8<| .Q N)<| .n 200) (.n nV) H (ay (L).symm) this] (J.base.trans Tl) (λb K=>?_) ((EA J (a7:=ot "<lambda>" (Y.J.qual++"<lambda>") x body r S5 p q s) TM (ag:=[w]) (λb K=>by mspec bW K;show .inr<|as _ Ti V)).keep (λb o a=>?_)<|λb o a=>?_) (.int _ _) (λTa Tb=>TW _ Ta S4 Tb V rfl rfl rfl _ (dI B)) λd h' Tw S6 Ue=>?_
  .rcases a4 K with rfl|K
   .show Ud
   .by_cases I:b=w
    .mspec I;show Uc
    .show v (J.cw b K) λo a=>?_;show#[o,j _ _ (by simpa using I) a]
  .have Uf:b∉[w]:=λf=>by replace a:=(cT _ f)▸a;cases a
   show j _ _ Uf<|fe _ a
  .show Tl b o<|cb _ (fe _<|l.of _ _ a) λf=>?_;replace a:=(cT _ f)▸a;cases a
  .cases Ue with
   |@list Tx T7 _ Tm Ug=>
    obtain⟨d,m,rfl,Uh,Ui⟩:=Ug.eT;obtain⟨Uj,rfl⟩:=Uh.df;obtain⟨Uk,rfl⟩:=Ui.df;obtain⟨Ul,Z⟩:=Tm;have Ty:Tx∉k::Y.X:=λf=>by replace Z:=(cT _ f)▸Z;cases Z
    show Tk Tx h' Tw Uj Uk Ul S6 (fe _ Z) (λa=>Ty<|a▸ao)<|λa=>Ty<|A<|a▸Tj
 .intro k Tw a Tk j d Tm f;show#[_,V,.up,a.map (·.1),Tm.map _,DX.mpr f,?_];have f:u I #[Y.d,Y.n,Y.J,Y.X,Y.p,bD++(w,.list ((T9.map (·.1)).map .int))::b3] S:=by show ch To ?_;show J
  show u.qo (Y:=Y) f j<| .list (a1:=a.map eS) #[Tk,d]<|aN.FV a
end
structure e1 (Y:bc)(I:aO)(pos:di)(dy:h6)(ki:aY->aD->dn->Prop):Prop where
 go:∀(aJ:cV)(aa:aM)(bM:cv->aM->Prop)(bv:bX),jd aJ Y.n Y.J I.cQ->u I Y aa.heap->
  (∀a1 bR a bg ds,cs aa bR I.bY->ki a bg ds->(∀ac∈Y.X,ac∈a)->u I #[Y.d,Y.n,Y.J,a,Y.p,bg] bR.heap->aN Y.d (l bR.heap a) a1 ds->bM a1 bR)->ar Y.d.M aJ (spliced<|cX pos<|bf dy Y.J) bM bv aa
section
variable {Y:bc}{I:aO}
def u.Qf (b:E m I.cL)(a:u (I.at m) Y n):u I Y n:=
 {a with
  db:=λd o e=>a.db d o (b d o e)
  new:=#[ls b a.new.1,λd e=>ls b<|a.new.2 d e]
  cM:=λd e=>#[ls b (a.cM d e).1,(a.cM d e).2]}
def u.Qg {m0 f:aW}{dA:aY}(d:u I Y f)(h:∀a∈dA,a∈Y.X)(k:∀e∈Y.D,e.1∈dA\/m0.get? e.1=c)(m:Y.J.locals∈dA)(n:∀e∈Y.J.cells,e.2∈dA)(o:∀a∈I.cB,a∈dA):
 u I #[Y.d,Y.n,Y.J,Y.X.filter<|λa=>decide (a∈dA)||(m0.get? a).isNone,Y.p,Y.D] f:=by
 have j:∀a∈Y.X.filter (λa=>decide (a∈dA)||(m0.get? a).isNone),a∈Y.X:=λa b=>(e7.mp b).1;have g:∀a∈dA,a∈Y.X.filter (λa=>decide (a∈dA)||(m0.get? a).isNone):=λa b=>e7.mpr #[h a b,by simp[b]];have h:E (l f<|Y.X.filter<|λa=>decide (a∈dA)||(m0.get? a).isNone) (l f Y.X):=l.sub j;show
  {base:=d.base.trans h
   cw:=λa b=>d.cw a (j a b)
   d8:=λe b=>let#[f,I,r]:=d.d8 e b;(as f I<|r.keep h)
   D:=λe b=>by
    show am (d.D e b) λa r=>?_;show#[?_,r.keep h<|E.bd _];show aw (k e b) (λi=>?_) λi=>?_
    .show g _ i
    .show e7.mpr #[a,by simp[i]]
   kind:=d.kind
   db:=d.db,ns:=d.ns,cells:=d.cells,apart:=d.apart
   cn:=#[g _ m,λe b=>g _<|n e b]
   ft:=d.ft,new:=d.new,cM:=d.cM,dr:=d.dr
   sub:=λa b=>g _<|o a b}
def e1.of (b:W Y pos m ds)(d:n Y.X Y.D ds):e1 Y I pos m n:=.mk λe f g h i a j=>
 b.go e f g h i.todz a.tocU λk h' m l r=>j k _ Y.X Y.D ds .up d (λe b=>b) (a.keep l) r
def e1.step {pos:di}(t:aS Y I m λd e j=>∀f,e1 #[Y.d,Y.n,Y.J,d,Y.p,e] (I.at f) pos n λg h ds=>∀i,w i h (j::ds))
 (v:bf (m::n) Y.J=(aj,eval m Y.J)::bf n Y.J):e1 Y I pos (m::n) w:=.mk λk w d m n x y=>by
 show kP (t.go k w _ m n x λL e A #[d,g,j,B,p,f,C]=>?_) v;show am f.x1 λt D=>?_;show(B<|cq e.heap<|d5 #[Y.d,Y.n,Y.J,d,Y.p,g]).go k e _ m n t λv q i h w F G r j H=>?_;have m:∀b∈d5 #[Y.d,Y.n,Y.J,d,Y.p,g],b∈d:=f.hB;have J:=u.Qg (m0:=e.heap) (dA:=d) j r (λk n=>by
  have t:(cq e.heap<|d5 #[Y.d,Y.n,Y.J,d,Y.p,g]).get? k.1=c:=(j.cM k n).1;by_cases a:k.1∈d5 #[Y.d,Y.n,Y.J,d,Y.p,g]
  .show .inl<|m _ a
  .show .inr<|jz (λo g=>cb _ g a) t) f.cn.1 f.cn.2 f.sub
 have K:E (l q.heap<|i.filter<|λb=>decide (b∈d)||(e.heap.get? b).isNone) (l e.heap d):=λb o g=>by
  have e:=l.of _ _ g;have s:b∉d:=λa=>b5 (cT _ a) g;show cb _ (j.db b o<|cb _ e λa=>s<|m _ a) λa=>?_;have:=(e7.mp a).2;rw[e]at this;simp[s]at this
 show y _ q _ h _ (A.trans F) (G _) (λb a=>e7.mpr #[r b<|p b a,by simp[p b a]]) (u.Qf D J)<| .cons (C.keep K)<|H.keep<|l.sub λb a=>(e7.mp a).1
def e1.fX {a:c4}{b:h6}{af:j}{d:aY->aD->dn->Prop}(e:aS Y I a (iJ Y af))(r:∀f,e1 Y (I.at f) pos b (λk g ds=>∀h,d h g (af::ds)))
 (i:bf (a::b) Y.J=(aj,eval a Y.J)::bf b Y.J):e1 Y I pos (a::b) d:=
 e1.step (e.dP λb d f a=>by
  show tU a ?_;show r) i
def e1.ek {a:c4}{d:aY->aD->dn->Prop}(e:aS Y I a λb f af=>∀g,d g f [af])
 (h:bf [a] Y.J=(aj,eval a Y.J)::bf [] Y.J):e1 Y I pos [a] d:=
 e1.step (e.dP λb b b a b=>e1.of W.nil a) h
def aS.wp (g:e1 Y I pos m λa b ds=>ds.length<=aC/\n a b (.bQ ds)):aS Y I (.Tuple m o pos) n:=.mk λh i d j k m n=>
 wpAny_Tuple (g.go h i _ j k m λq s a b ds o d p f r=>#[by mspec r.length;show d.1,n _ _ o.gH #[a,b,_,d.2,p,f.keep<|E.push _ _,.bQ #[_,l.l9 f.tocU _ e,V,_,V]<|r.keep<|l.keep _<|E.push _ _]])
def aS.FW (g:e1 Y I pos m λa b ds=>ds.length<=aC/\n a b (.list ds)):aS Y I (.List m pos) n:=.mk λh i d j k m n=>
 t5 (g.go h i _ j k m λq s a b ds o d p f r=>#[by mspec r.length;show d.1,n _ _ o.gH #[a,b,_,d.2,p,f.keep<|E.push _ _,.list #[_,l.l9 f.tocU _ e]<|r.keep<|l.keep _<|E.push _ _]])
def aN.Qh (r:aN m n o [w,x,B]):∃e a d,o=[e,a,d]/\a9 m n e w/\a9 m n a x/\a9 m n d B:=by
 show cm r.hy λe g f=>?_;show eN f λe r=>?_;show cm r.eT λa d f=>?_;show eN f λb g=>?_;show BE _ a d V e b g
inductive FX (aB:j->j->j->Prop):j->Prop
 |mk {ac b q:j} (al:aB ac b q):FX aB (.bQ [ac,b,q])
def g.FY {d f j:i}{n:Nat}{k:c4}{p:c9}(v:aS Y I k λa e q=>FX (λh b r=>(∀h∈Y.X,h∈a)->∀s,u I #[Y.d,Y.n,Y.J,a,bj j r<|bj f b<|bj d h Y.p,e] s->p .next s) q)(y:fO Y.J d)(A:fO Y.J f)(C:fO Y.J j)
 (D:yz [oh [.Name d w,.Name f x,.Name j B] n M] k pos.line Y.J=pure aj) (F:uU [oh [.Name d w,.Name f x,.Name j B] n M] k Y.J=pure c):
 g Y I (.Assign [oh [.Name d w,.Name f x,.Name j B] n M] k pos) p:=.mk λj k n t p=>by
 show Assign_Tuple (v.go j k _ n t p λG m H #[a,e,q,hd,J,K,L]=>?_) D F;cases hd with|@mk h b r N=>
 show cm L.is λk n j=>?_;show eN j λP Q=>?_;obtain⟨j,k,G,rfl,R,S,T⟩:=Q.Qh;show Qi t.handled (P.keeps l.of) V rfl λh' k=>?_;have n:E h' m.heap:=λb o j=>k b o (g7<|gl j) j;have k:=l.keep a n;show n5<|iA<|u.gn (aa:={m with heap:=h'}) (Y:=#[Y.d,Y.n,Y.J,a,Y.p,e]) (K.keep n) y (R.keep k) λp q v r j s t=>?_;have n:=qJ (Y:=#[Y.d,Y.n,Y.J,a,Y.p,e]) s r;show n5<|iA<|u.gn (aa:={m with heap:=p,toks:=q}) (Y:=#[Y.d,Y.n,Y.J,a,bj d h Y.p,e]) t A ((S.keep k).keep n) λp q w r j s v=>?_;show n5<|iA<|u.gn (aa:={m with heap:=p,toks:=q}) (Y:=#[Y.d,Y.n,Y.J,a,bj f b<|bj d h Y.p,e]) v C (((T.keep k).keep n).keep<|qJ (Y:=#[Y.d,Y.n,Y.J,a,Y.p,e]) s r) λf h j j j j d=>?_;show xQ #[H.gH,N J _ d]
end
section
variable {Y:bc}{I:aO}
def g.Qj {B:Type}{ds:List B}{dD:B->j}{cO:B->be}{S:c9}{S9:T->Prop}(F:be)(d:B->Bool)(s:B->j)(Ta:fO Y.J r)
 (Tb:f7 (.ListComp M [#[target,iter,S4,0]] w pos) (O<| .Name r S6) Tc.line Y.J=pure z)
 (Td:iT w Y.J=pure S5) (Te:∀r∈w.names,r.2≠ .cell) (Tf:w.kind=.function) (Tg:∀r∈w.names,r.2=.local->w.names.lookup r.1=O .local)
 (Th:jc Y target iter (ds.map dD) S9) (Ti:ds.length<=aC) (Tj:∀k∈ds,jL target (dD k) (cO k)) (Tk:∀k∈ds,∀e∈cO k,w.names.lookup e.1=O .local)
 (Tl:∀e∈F,e∈Y.p/\hA Y.J w S5 e.1)
 (Tm:∀q Z k,k∈ds->mj (eP Y w S5 q Z<|cO k++F) S4 (d k))
 (Tn:∀q Z k,k∈ds->d k=z->R (eP Y w S5 q Z<|cO k++F) M (s k))
 (To:∀U,iC iter Y.J U=pure U) (Tp:∀H it J env,(jK (.ListComp M [#[target,iter,S4,0]] w pos) H it J env).isFrame=aj):
 g Y I (.Assign [.Name r S6] (.ListComp M [#[target,iter,S4,0]] w pos) Tc) (c0 (λt=>∃f,f∉Y.X/\f∉I.cB/\u I #[Y.d,Y.n,Y.J,f::Y.X,bj r (.val<| .ref f) Y.p,(f,.list ((ds.filter d).map s))::Y.D] t) S):=.mk λk V B w i=>by
 mspec Cm _ _ _ _ Tb;show ap<|jJ<|ap ?_;show ap (dq (ut (ie:=O<|Cn (.Name r S6) Y.J) (bM:=λx k=>cs V k I.bY/\c0 (λt=>∃f,f∉Y.X/\f∉I.cB/\u I #[Y.d,Y.n,Y.J,f::Y.X,bj r (.val<| .ref f) Y.p,(f,.list ((ds.filter d).map s))::Y.D] t) S .next k.heap)
  F d s Td Te Tf Tg Th Ti Tj Tk Tl Tm Tn To Tp w.todz i.tocU ?_) (λx k B=>ba<|ba B) λx x I=>I)
 intro t k Tq m q K W L H X J;have y:=mm i.tocU K;have G:=i.iG W;obtain⟨N,n,Tr,Ts⟩:=J;have Tt:E (cq t [q]) V.heap:=λf o e=>cb _ (H f o e) λh=>by replace e:=(bW h)▸e;replace e:=K▸e;cases e
 have S7:(cq t [q]).get? m=O {cls:=.type "list",data:=.seq N n}:=cb _ Tr (by simpa using L);have Tu:=i.gI W #[_,S7] Tt;have Tv:aN Y.d (l (cq t [q])<|m::Y.X) N.toList ((ds.filter d).map s):=Ts.keep λf o a=>by
  have Tw:=l.of _ _ a;have S8:f∉q::m::Y.X:=λh=>by replace a:=(cT _ h)▸a;cases a
  show cb _ (cb _ Tw λh=>S8<|bW h▸ao) λh=>S8<|A h
 have k:=Tu.ih (ac:=m) (af:=.list<|(ds.filter d).map s) ao (.list (a1:=N.toList) #[n,by simpa using S7] Tv) G.2.2.1 G.1;have w:=k.gI (cz:=q) (h':=t) (cT _ ao) (by show eW X λo x x a x=>?_;show dm o a)<|λf o e=>fe _ e;show iA<|u.gn (Y:=#[Y.d,Y.n,Y.J,q::m::Y.X,Y.p,(m,.list ((ds.filter d).map s))::Y.D]) w Ta (.val _) λB F f x k t Tx=>?_;have w:q≠f:=λe=>by
  show aw k (λk=>?_) λC=>?_
  .show y (by mspec e;mspec k;show i.cn.1)
  .show v C λd D=>?_;show am D λp k=>?_;show y (by mspec e;mspec k;show i.cn.2 d p)
 show as Tq (X.sameBut t w)<|λh' Ty=>#[.up,m,G.2.1,G.2.2.2,?_];have Tz:q∉d5 #[Y.d,Y.n,Y.J,m::Y.X,bj r (.val<| .ref m) Y.p,(m,.list ((ds.filter d).map s))::Y.D]:=λh=>by
  show aw (iF h) (λa=>?_) λP=>aw P (λC=>?_) λQ=>?_
  .show y<|a▸i.cn.1
  .show v C λd D=>?_;show am D λp a=>?_;show y<|a▸i.cn.2 d p
  .obtain⟨d,p,a⟩:=Q;rcases a4 p with rfl|p
   .show L a.symm
   .show y<|a▸(i.D d p).1
 show u.drop (Y:=#[Y.d,Y.n,Y.J,m::Y.X,bj r (.val<| .ref m) Y.p,(m,.list ((ds.filter d).map s))::Y.D]) Tx (λb h=>?_) (λh=>?_) Tz (i.iG K).2.2.1 (λb h=>A<|i.sub b h) λb o n e=>Ty.extBut b o (by simpa using n) e
 .show aw (iF h) (λa=>?_) λP=>aw P (λC=>?_) λQ=>?_
  .mspec a;show A i.cn.1
  .show v C λd D=>?_;show am D λp a=>?_;mspec a;show A<|i.cn.2 d p
  .obtain⟨d,p,a⟩:=Q;rcases a4 p with rfl|p
   .mspec a;show ao
   .mspec a;show A (i.D d p).1
 .show aw (d1 h) (λa=>?_) λh=>?_
  .show L a.symm
  .show y h
end
noncomputable def rk (r:Int->Int)(ae:Int):h->h
 |[]=>[ae]|bu::ag=>if r ae<r bu then ae::bu::ag else bu::rk r ae ag
def FZ {r:Int->Int}{a b:Int}{d:h}:rk r a (b::d)=if r a<r b then a::b::d else b::rk r a d:=rfl
noncomputable def mE (r:Int->Int)(ag:h):h:=ag.foldr (rk r) []
noncomputable def oD (ag:h):Int:=ag.foldl max 0
noncomputable def gR (a8:b4)(a:h)(ae:Int):Int:=1000*oD ((de a8 ae).map λan=>((a.idxOf an:Nat):Int))+ae
noncomputable def gt (a8:b4)(a:h):h:=(dh a8).filter λae=>!a.any (·==ae)&&decide (((de a8 ae).filter λan=>!a.any (·==an))=[])
noncomputable def pI:Nat->b4->h->h->List h
 |0,_,_,_=>[]|s+1,a8,b,a=>if a=[]then[]else a::pI s a8 (b++a) (mE (gR a8<|b++a)<|gt a8<|b++a)
def F0 {e:Nat}{b:b4}{d a:h}:pI (e+1) b d a=if a=[]then[]else a::pI e b (d++a) (mE (gR b<|d++a)<|gt b<|d++a):=rfl
noncomputable def pJ (a8:b4):h:=(dh a8).filter λae=>decide (de a8 ae=[])
noncomputable def j1 (a8:b4):List h:=pI (a8.length+1) a8 []<|pJ a8
theorem Ac (r:Int->Int)(b:Int):∀a,(rk r b a).Perm (b::a)
 |[]=>eH _|d::a=>by
  rw[FZ];split
  .show eH _
  .show((Ac r b a).cons d).trans<|vf b d a
theorem rl (r:Int->Int):∀a,(mE r a).Perm a
 |[]=>eH _|b::a=>(Ac r b _).trans<|(rl r a).cons b
theorem F4:∀{d:h},d.Pairwise (λj b=>r j<r b)->(∀e∈d,r e≠r m)->(rk r m d).Pairwise (λj b=>r j<r b)
 |[],_,_=>List.pairwise_singleton _ m|e::d,g,l=>by
  rw[gq]at g;rw[FZ];split
  .next n=>show gq.mpr #[λi a=>by
    show aw (a4 a) (λk=>?_) λa=>?_
    .obtain rfl:=k;show n
    .show wh n<|g.1 i a,gq.mpr g]
  .next o=>
   show gq.mpr #[λi a=>?_,F4 g.2 λi a=>l i<|A a];show aw (a4<|(Ac r m d).mem_iff.mp a) (λk=>?_) λa=>?_
   .obtain rfl:=k;show(s2<|l e ao).elim (λd=>bh [r e,r m] [.aK f aA] 0 (.Q f) aA H d) λd=>bh [r e,r m] [#[2,f,aA],.aK aA f] 0 (.Q f) aA H (oT.mp o:) d
   .show g.1 i a
theorem Ad:∀{a:h},a.Pairwise (λd b=>r d≠r b)->(mE r a).Pairwise (λd b=>r d<r b)
 |[],_=>.nil|d::a,e=>by
  rw[gq]at e;show F4 (Ad e.2) λd f=>(e.1 d<|(rl r a).mem_iff.mp f).symm
theorem Ae {r:Int->Int}:∀{f b:h},f.Perm b->f.Pairwise (λa d=>r a<r d)->b.Pairwise (λa d=>r a<r d)->f=b
 |[],b,e,_,_=>e.nil_eq|a::f,[],e,_,_=>by have:=e.length_eq;simp at this|a::f,d::b,e,g,i=>by
  rw[gq]at g i;by_cases j:a=d
  .subst j;show aI (Ae (List.perm_cons a |>.mp e) g.2 i.2) V
  .exfalso;have k:a∈b:=(d1<|e.mem_iff.mp ao).resolve_left j;have l:d∈f:=(d1<|e.mem_iff.mpr ao).resolve_left λf=>j f.symm;have:=g.1 d l;have:=i.1 a k;lia
def Af (d:h):∀a:Int,(∀g∈d,g<=d.foldl max a)/\a<=d.foldl max a/\(d.foldl max a=a\/d.foldl max a∈d):=by
 induction d with
 |nil=>intro a;simp|cons b d k=>
  intro a;show cd (k<|max a b) λl j e=>?_;mspec hV;show cG (λg i=>?_) (bh [a,Ag max (max a b) d,max a b] [.C d7 aA,.C f d7] 0 f aA H j (wq a b:)) ?_
  .show aw (a4 i) (λm=>?_) λi=>?_
   .obtain rfl:=m;show bh [b,Ag max (max a b) d,max a b] [.C d7 aA,.C f d7] 0 f aA H j (Int.le_max_right a b:)
   .show l g i
  .show aw (e) (λe=>?_) λe=>?_
   .mspec e;by_cases g:a<=b
    .right;mspec F5 g;show ao
    .left;show(Int.le_total a b).elim (λd=>gr (bh [max a b,a,b] [.aK d7 aA,.C f d7] 0 f aA H (Int.not_le.mp g:) (c2 (F5 d):))<|bh [a,max a b] [.C f aA] 0 f aA H (wq a b:)) λd=>gr (bh [max a b,a] [.C f aA] 0 f aA H (c2 (Qk d):))<|bh [a,max a b] [.C f aA] 0 f aA H (wq a b:)
   .show .inr<|A e
def Ql (f:b≠[])(h0:∀a∈b,0<=a):oD b∈b:=by
 show cd (Af b 0) λg e d=>?_;show aw (d) (λd=>?_) λd=>?_
 .show v (vD b f) λa e=>?_;have f:oD b=a:=by
   have:=g a e;have:=h0 a e;unfold oD;lia
  show f▸e
 .show d
def tc (f:b∈gt m n):b∈dh m/\b∉n/\∀d∈de m b,d∈n:=by
 show am (e7.mp f) λg a=>?_;rw[i7]at a;have e:=k a.2;rw[Ah]at e;show cG g (λb=>?_)<|λd h=>?_
 .rw[pt.mpr b]at a;show absurd a.1<|k H
 .simpa using(e d h)
def F6 (j:iM m)(f:Int):(de m f).length<=10:=by
 have k:∀(e:b4)(b:h),(∀a∈e,a.2.length<=10)->e.lookup f=O b->b.length<=10:=by
  intro e
  induction e with
  |nil=>intro b _ d;cases d
  |cons a e l=>
   intro b g d;rw[fB]at d;by_cases i:f=a.1
   .subst i;simp at d;subst d;show g a ao
   .rw[beq_eq_false_iff_ne.mpr i]at d;show l b (λa e=>g a<|A e) d
 unfold de;cases hl:m.lookup f with
 |none=>simp|some b=>show k m b (λa g=>(j.vC a g).1) hl
noncomputable abbrev fJ:List (di×i):=[(#[261,22,261,73],"_law_rounds.<locals>.<lambda>")]
section
variable {U:aV}
noncomputable abbrev nF (U:aV)(ca:T):b1:=bU (bi 228<|a U) ca 228
def F7 (U:aV)(a:T):(nF U a).qual++("<lambda>":i)="_law_rounds.<locals>.<lambda>":=by room
def Ai (d:aR U):ez U 228 (bi 228<|a U) ["uses"] (cf 228<|a U):=
 d.fn V rfl H V rfl (kX λf=>by room)
  (λd b=>by
   rcases a4 b with rfl|b
   .show .inr #[V,λd=>H]
   .cases b) (k H) (by decide:(["out","uses"]:ak).Nodup) e e V
noncomputable abbrev Qm (U:aV):List cl:=lC (cf 228<|a U) 1
noncomputable abbrev nG (a8:b4)(r:T)(a:h)(af:j):be:=[("uses",.dict (cR bn a8)),("rounds",.val (.ref r)),("out",bn a),("turn",af)]
def Qn (A:aR U)(Tc:dg U.B 227 225)(n:Nat)(v:T)(X:aY)(w:aO)(a:b4)(x:iM a)(r:T)(o l:h)(q:List h)(Tr:∀d∈o++l,d∈dh a)(B:(o++l).length<=100)(Ts:q.length<=100)(Td:∀d∈dh a,de a d=[]->d∈o++l)(Te:c9):
 S w #[U,n+3,nF U v,X,nG a r o<|bn l,[(r,.list (q.map bn)),(225,.tab fJ)]] (Qm U) (c0 (qr #[U,n+3,nF U v,X,nG a r (o++l)<|bn<|mE (gR a<|o++l)<|gt a<|o++l,[(r,.list ((q++[l]).map bn)),(225,.tab fJ)]] w) Te):=by
 have Tf:=x.len;mexact S.bq (g.append (bD:=[]) (b3:=[(225,.tab fJ)]) (af:=bn l) (ds:=q.map bn) (R.K 3 V) (bl 1 V) (k H) (k H) V (by rw[a6];unfold aC;show b0) e V rfl rfl) ?_;mexact S.bq (g.assign (af:=bn<|o++l) (R.of_eq (R.o5 (ac:=o.map .int) (b:=l.map .int) (R.K 2 V) (R.K 3 V) aq.list aq.list (by rw[a6,a6];rw[dE]at B;unfold aC;show b0))<|by show ch eV V) (.inr #[V,H]) V) ?_;have D:∀d∈gt a (o++l),0<=d/\d<8:=λd t=>x.jq d (tc t).1;have S4:(gt a<|o++l).Nodup:=x.bz.sublist lS;have Te:(gt a<|o++l).length<=8:=a5 (qj _ _) (by simpa[dh]using Tf);generalize Te:o++l=out' at*;mexact S.cons (g.Qj (ds:=dh a) (dD:=j.int) (cO:=λd=>[("x",.int d)]) [("out",bn out'),("uses",.dict (cR bn a))] (λd=>!out'.any (·==d)&&decide (((de a d).filter λm=>!out'.any (·==m))=[])) (λd=>.int d) (.inl V) V rfl (k H) V (k H)
  (jc.of_eq (jc.of (r:=.dict<|cR bn a) (R.K 1 V)<|cA.dict aq.dict)<|by simp[dh,cR]) (by simp only[dh,a6];unfold aC;show b0) (λS5 i=>.name _ _ _) (hh V) (gv (bl 0 V) V (.inl V) (.inl V)<|gv (bl 1 V) V (.inl V) (.inl V) f8)
  (λTe Z d t=>?_) (λTe Z d t i=>by show R.K 0 V) (λi=>rfl) (λi i i i=>e)) ?_
 .have Te:(de a d).length<=10:=F6 x d;show aZ.o0 (aZ.bK (R.K 0 V) (R.K 1 V) (av.B0 aq.list) e) (λi=>aZ.bK (R.of_eq (ex:=.list (((de a d).filter λm=>!out'.any (·==m)).map .int)) (R.iE (ds:=de a d) (dD:=j.int) (cO:=λd=>[("u",.int d)]) [("out",bn out')] (λm=>!out'.any (·==m)) (λd=>.int d) V (k H) V (k H) (r:=bn<|de a d) (R.item (L:=.int d) (R.K 2 V) (R.K 0 V)<|b6.dict aq.dict<|q4 a d t) (cA.list (.inl<|dM _ _ V) aq.list) (by unfold aC;show b0) (λS5 i=>.name _ _ _) (hh V) (gv (bl 1 V) V (.inl V) (.inl V) f8) (λS6 S7 m E=>aZ.bK (R.K 0 V) (R.K 1 V) (av.B0 aq.list) e) (λS6 S7 m E i=>by show R.K 0 V) (λi=>rfl)<|λi i i i=>e) V) (R.list W.nil<|dt H) (av.CB (iI:=[]) aq.list aq.list) e)
 intro S8 F;show g3 F λs Tg Th J=>?_;show eO #[U,n+3,nF U v,s::X,bj "turn" (.val<| .ref s)<|bj "out" (bn out')<|nG a r o<|bn l,(s,.list ((gt a out').map .int))::[(r,.list ((q++[l]).map bn)),(225,.tab fJ)]] w V rfl rfl rfl rfl ?_ ?_
 .show(by simp:(q++[l]).map bn=q.map bn++[bn l])▸J
 mexact S.cons (g.Qb A (n:=n+1) (Y:=#[U,n+3,nF U v,s::X,bj "turn" (.val<| .ref s)<|bj "out" (bn out')<|nG a r o<|bn l,(s,.list ((gt a out').map .int))::[(r,.list ((q++[l]).map bn)),(225,.tab fJ)]]) (I:=w) (aE:=λd=>oD<|(de a d).map λm=>((out'.idxOf m:Nat):Int)) (h4:=gt a out') (bD:=[]) (b3:=[(r,.list ((q++[l]).map bn)),(225,.tab fJ)]) (Qc:=[(s,.list ((gt a out').map .int)),(r,.list ((q++[l]).map bn))]) (Qd:=[]) (dj:=fJ) (lQ:=[("out",bn out'),("uses",.dict (cR bn a))]) V rfl (bl 0 V) (k H) (k H) V rfl (by rw[F7];show wa _) (λTe Ti i=>by cases bW Ti;show(F7 U v).symm) V Tc V rfl rfl ?_ (λi i i i=>rfl) V (k H) e e V (by show b0) (λd t=>by have:=D d t;show#[bh [d] [.C (.n 0) f] 0 (.n 0) f H this.1,bh [d] [.aK f<| .n 8] 0 (.Q f) (.n 1000) H this.2]) S4 ?_ e V #[_,V]) ?_
 .intro Tj p;show aw (a4 p) (λy=>?_) λp=>?_
  .obtain rfl:=y;show#[by show bl 1 V,V,V,_,V,V]
  .cases bW p;show#[by show bl 2 V,V,V,_,V,V]
 .intro Tk Tc Te Tf K M S9 Ta d t;show cd (tc t) λTb i Tl=>?_;show cd (Af ((de a d).map λm=>((out'.idxOf m:Nat):Int)) 0) λTm i i=>?_;have Tn:oD ((de a d).map λm=>((out'.idxOf m:Nat):Int))∈(de a d).map λm=>((out'.idxOf m:Nat):Int):=Ql (by simpa using(λN=>(tc t).2.1<|Td d Tb N)) λTe Tc=>by show g1 Tc λm i=>?_;show f3 _
  obtain⟨t,Tc,Td,body,Te,Tf,Ti,Tr,Ts,Tt,Tu,Tv,Tw,Tx,Ty⟩:=Tk;dsimp only at K M S9 Ta;subst K M S9 Ta;have t:out'.length<=100:=B;show R.list (W.cons (R.jG (ds:=[.list<|((de a d).map λm=>((out'.idxOf m:Nat):Int)).map .int]) (A.eX V rfl (by room) (k H) V rfl rfl (k H)) (W.cons ?_ W.nil V) (bO.max aq.list Tn Tm) V e V) (W.cons (R.K 0 V) W.nil V) V)<|dt H;show R.of_eq (R.iE (ds:=de a d) (dD:=j.int) (cO:=λm=>[("u",.int m)]) [("out",bn out')] (λi=>z) (λm=>.int ((out'.idxOf m:Nat):Int)) V (k H) V (k H) (r:=bn<|de a d) (R.item (L:=.int d) (R.K 2 V) (R.K 0 V)<|b6.dict aq.dict<|q4 a d Tb) (cA.list (.inl<|dM _ _ V) aq.list) (by unfold aC;show dG (F6 x d:(de a d).length<=10) H) (λS5 i=>.name _ _ _) (hh V) (gv (bl 1 V) V (.inr V) (.inr V) f8) (λi i i i=>rfl)
   (λS6 S7 m E i=>R.jf (ds:=[.int m]) (R.K 1 V) (fD.list aq.list Cx ML) (W.cons (R.K 0 V) W.nil V) (bO.Cw (hg:=out') aq.list (Tl m E)<|dK [.C G<| .n 100] 0 (.Q G) (.n<|2^62) H B) V e V) (λi=>rfl) (λi i i i=>e)) (by rw[jg];mspec d2;rfl)
 .intro S8 F;show g3 F λTo p Tp J=>?_;have Tq:(gt a out').Pairwise (λd b=>gR a out' d≠gR a out' b):=by
   show List.Pairwise.imp_of_mem ?_ S4;intro d b m P t N;have K:=D d m;have M:=D b P;unfold gR at N;lia
  obtain rfl:To=mE (gR a out') (gt a out'):=Ae (r:=gR a out') (p.trans (rl _ _).symm) Tp<|Ad Tq;have d:=u.Cs (Y:=#[U,n+3,nF U v,s::X,bj "turn" (.val<| .ref s)<|bj "out" (bn out')<|nG a r o<|bn l,(s,.list ((mE (gR a out')<|gt a out').map .int))::[(r,.list ((q++[l]).map bn)),(225,.tab fJ)]]) (eG:=nG a r out'<|bn<|mE (gR a out')<|gt a out') J Tg Th (λA S8 r i m=>r.toList m)<|λTj p=>?_
  .show eO #[U,n+3,nF U v,X,nG a r out'<|bn<|mE (gR a out')<|gt a out',[(r,.list ((q++[l]).map bn)),(225,.tab fJ)]] w V rfl rfl rfl rfl d (S.nil λh' i=>#[X,λb P=>P,i])
  .show aw (a4 p) (λy=>?_) λp=>?_
   .obtain rfl:=y;show .inl<|bl 2 V
   .rcases a4 p with rfl|p
    .show .inl<|bl 3 V
    .show aw (a4 p) (λy=>?_) λp=>?_
     .obtain rfl:=y;show .inl<|bl 1 V
     .cases bW p;show .inr #[V,by show bl 0 V]
def Qo (a:Nat)(b:b4)(d:h):pI a b d []=[]:=by cases a<;>rfl
inductive F8 (a8:b4)(r:T)(s:Nat)(Γ:be)(own:aD):Prop
 |mk (a b:h) (d:List h) (e:aL Γ (nG a8 r a<|bn b)) (f:own=[(r,.list (d.map bn)),(225,.tab fJ)]) (g:d++pI s a8 a b=j1 a8) (i:(a++b).Nodup) (j:∀ae∈a++b,ae∈dh a8) (k:∀ae∈dh a8,de a8 ae=[]->ae∈a++b) (l:a8.length<a.length+s) (m:d.length<=a.length):F8 a8 r s Γ own
def Qp (Ta:aR U)(Tb:dg U.B 227 225)(n:Nat)(A:T)(X:aY)(B:aO)(d:b4)(s:iM d):
 S B #[U,n+3,nF U A,X,[("uses",.dict (cR bn d))],[(225,.tab fJ)]] (cf 228<|a U) (er U B [(225,.tab fJ)] λTc J=>Tc=[(225,.tab fJ)]/\J=.list ((j1 d).map bn)):=by
 have K:=s.len;mexact S.seq<|g.FY (aS.wp<|e1.step (aS.m4 λr Tc Td Ti=>e1.of (ds:=[bn [],bn<|pJ d]) (W.cons (R.list W.nil<|dt H) (W.cons ?_ W.nil V) V) λTc=>#[dt H,.mk λTi M Tc=>.mk (Tc.ef (Γ:=nG d r []<|bn<|pJ d)<|aL.cH [3,2,1,0] rfl) ?_]) V) (.inl V) (.inr #[V,H]) (.inl V) V rfl
 .show R.iE (ds:=dh d) (dD:=j.int) (cO:=λf=>[("x",.int f)]) [("uses",.dict (cR bn d))] (λf=>decide (de d f=[])) (λf=>.int f) V (k H) V (k H) (r:=.dict<|cR bn d) (R.K 0 V) ?_ (by simp only[dh,a6];unfold aC;show b0) (λJ l=>.name _ _ _) (hh V) (gv (bl 0 V) V (.inl V) (.inl V) f8)
   (λJ Z f h=>aZ.bK (R.item (L:=.int f) (R.K 1 V) (R.K 0 V)<|b6.dict aq.dict<|q4 d f h) (R.list W.nil<|dt H) (av.CB (iI:=[]) aq.list aq.list) e) (λJ Z f h l=>by show R.K 0 V) (λl=>rfl) (λl l l l=>e)
  mspec(by simp[dh,cR]:(dh d).map j.int=(cR bn d).map λP=>.int P.1);show cA.dict aq.dict
 mexact S.vj (λΓ own=>aL Γ [("rounds",.val (.ref r))]/\own=[(r,.list ((j1 d).map bn)),(225,.tab fJ)]) (g.vi (ce:=F8 d r) (d.length+1)
  #[[],pJ d,[],aL.bd _,V,V,s.bz.sublist lS,λf h=>(e7.mp h).1,λf h m=>e7.mpr #[h,decide_eq_true m],by simp,cg _] ?_) ?_
 .rintro D u Γ own E ⟨o,i,F,p,rfl,v,S4,I,S5,S6,S7⟩;have w:(o++i).length<=d.length:=by
   simpa[dh]using(lR (dh d) _ S4 I)
  rw[dE]at w;show#[decide (i≠[]),aZ.bK (R.name (p _<|bl 3 V) (k H)<|k H) (R.list W.nil<|dt H) (av.r6 (hg:=i) (iI:=[]) aq.list aq.list) e,λq=>?_,λq=>?_]
  .have S8:=k q;have S9:=jl.mpr S8;cases D with
   |zero=>show absurd S6<|g8.mpr<|a5 (oW _ _) w
   |succ D=>
   mexact S.dV (Y:=#[U,n+3,nF U A,u,Γ,[(r,.list (F.map bn)),(225,.tab fJ)]]) p ?_;mexact S.dP (Qn Ta Tb n A u B d s r o i F I (by mspec dE;show dG (a5 w K) H) (c5 [.C N<| .n 8,.C G t,.C (.y t aU) N] 0 G (.n 100) H K S7 w) S5<|λl l=>False) λTe M x=>?_;cases Te with
   |next=>
    obtain⟨Tf,Tg,Th⟩:=x;rw[F0,if_neg S8]at v;have l:=rl (gR d<|o++i)<|gt d<|o++i;show#[Tf,_,_,λb q=>Tg b<|E b q,#[D,fA _,o++i,_,F++[i],aL.bd _,V,by rw[hX];show v,?_,?_,λf h m=>bI<|S5 f h m,by mspec dE;show c5 [.aK (.n 0) t,.aK G<| .y N<| .Q aU] 0 (.Q G) (.y (.y N t) aU) H S9 S6,by mspec dE;mspec dE;mspec gw;show bb [.C G N,.aK (.n 0) t] 0 (.Q G) (.y N t) H S7 S9],Th]
    .show gz.mpr<|cG S4 (l.nodup_iff.mpr<|s.bz.sublist lS)<|λf h w o=>?_;intro s;show(tc<|l.mem_iff.mp o).2.1<|s▸h
    .intro f h;show cK h (λh=>?_) λh=>?_
     .show I f h
     .show(tc<|l.mem_iff.mp h).1
   |brk=>show x.elim|cont=>show x.elim|ret f=>show x.elim
  .have m:i=[]:=MM.mp<|of_decide_eq_false q;rw[m,Qo,fj]at v;show S.nil λh' f=>#[u,Γ,_,E,#[aL.cons (p _<|bl 1 V) aL.nil,by show aI v V],f]
 .intro u Γ own E h;show kJ h λp=>?_;mexact S.FB (ac:=r) (bE:=(j1 d).map bn) (bg:=[(225,.tab fJ)]) (p _<|bl 0 V) ao Td (FA _ _) (λM f d=>?_) (λP h=>c7 h) #[V,V] (k H)<|k H;have h:r=225:=by simpa[aH]using d
  show(gq.mp f.dr).1 _ (wa _) h
def Qq (d:aR U)(i:dg U.B 227 225){a:bc}{e:aO}{n:Nat}{keep:aD}(j:a.d=U)(k:a.n=n+4)(b:b4)(l:iM b)(m:a.D.Perm ([(225,.tab fJ)]++keep)):
 dX a e (.ref 228) [.dict<|cR bn b] (λf g h=>g=[(225,.tab fJ)]++keep/\h=.list ((j1 b).map bn)):=by
 subst j;show(Ai d).mr (n:=n+3) (ah:=[(225,.tab fJ)]) (keep:=keep) k V m (λj f h0=>Qp d i n j f #[h0,a.X,c,e.bY] b l) λg h k=>am k λa b=>#[by show aI a V,b]
end
section
variable {Y:bc}{I:aO}
def i2.of (d:aZ Y m b):i2 Y I m (λa e f=>a=Y.X/\e=Y.D/\f=b):=.mk λe f g h i a j=>
 d.go e f g h i.todz a.tocU λh' l k=>j b _ Y.X Y.D .up (cG V rfl rfl) (λe d=>d)<|a.keep k
structure hp (Y:bc)(I:aO)(h4:h6)(ce:aD->Prop):Prop where
 go:∀(aJ:cV)(aa:aM)(bM:Bool->aM->Prop)(bv:bX),jd aJ Y.n Y.J I.cQ->u I Y aa.heap->
  (∀bR a bg,cs aa bR I.bY->ce bg->(∀ac∈Y.X,ac∈a)->u I #[Y.d,Y.n,Y.J,a,Y.p,bg] bR.heap->bM aj bR)->ar Y.d.M aJ (allTrue .Or h4 Y.J) bM bv aa
def hp.nil:hp Y I [] (λown=>own=Y.D):=.mk λe a f g h b d=>Iw<|d a Y.X Y.D (cs.bd a) V (λf e=>e) b
def hp.cons (j:i2 Y I m n)(r:∀a d b,n a d b->(∀e∈Y.X,e∈a)->b=aj/\hp #[Y.d,Y.n,Y.J,a,Y.p,d] I o w):hp Y I (m::o) w:=.mk λf k l g h m n=>
 BP (j.go f k _ g h m λb o a d p q i s=>by
  show ci (r a d b q i) λj=>?_;mspec if_neg (by decide);show j.go f o l g h s λa d k m q t u=>n a d k (p.trans m) q (λe f=>t e<|i e f) u)
def hp.F9 {ce:aD->Prop}(f:hp Y I m ce):i2 Y I (.BoolOp .Or m pos) (λd a b=>b=aj/\ce a):=.mk λg h m i j k l=>
 BO (f.go g h _ i j k λm d a n o p q=>l aj m d a n #[e,o] p q)
def aS.Ga (p:aS Y I w x)(q:∀a d e,x a d e->(∀s∈Y.X,s∈a)->∃b f,R #[Y.d,Y.n,Y.J,a,Y.p,d] r b/\av #[Y.d,Y.n,Y.J,a,Y.p,d] m e b f/\B a d (.bool f))(t:rK m r=aj):aS Y I (.Compare w [m] [r] pos) B:=.mk λg m w h i s u=>
 wpAny_Compare1 (p.go g m _ h i s λv k y o=>by
  cases o with|mk a d e A n j C=>
  show f4 (q a d e A n) λb f m p s=>?_;show m.go g k _ h i.todz j.tocU λf q w e x=>p.go g {k with heap:=q,toks:=w} _ h v f i.todz (j.keep e).tocU (C.keep<|l.keep _ e) x λh' k g=>u _ _ y.gH #[a,d,_,s,n,(j.keep e).keep g,.bool _]) t
def Gb
 (e:ar b m (eval o env) (λa d=>a=.bool z/\ar b m (boolOp pos .And<|evalEach (r::w) env) x n d) n B):ar b m (boolOp pos .And<|evalEach (o::r::w) env) x n B:=by
 show ar b m (do
  let a <-eval o env
  ep pos
  let f <-e5 [a] (truthy a)
  match BoolOp.And,f with
  | .And,aj| .Or,z=>pure a
  |_,_=>boolOp pos .And<|evalEach (r::w) env) x n B
 show ap<|dq e (λa d b=>?_) λa a I=>I;show ci b λb=>?_;show ap<|jJ<|ap<|g6<|ma b
def aS.Qr {h:lG}(m:aS Y I n λi j a=>a=.bool z/\aS #[Y.d,Y.n,Y.J,i,Y.p,j] I r λk l a=>a=.bool z/\aS #[Y.d,Y.n,Y.J,k,Y.p,l] I w h):aS Y I (.BoolOp .And [n,r,w] pos) h:=.mk λd h p e f n q=>by
 show Gb<|m.go d h _ e f n λg s t o=>?_;cases o with|mk i j a b u v x=>
 obtain⟨rfl,y⟩:=b;show#[x.is,Gb<|y.go d s _ e f v λg A B o=>?_];cases o with|mk k l a b C D E=>
 obtain⟨rfl,F⟩:=b;show#[E.is,F.go d A p e f D λg G H o=>?_];cases o with|mk J K a b L M N=>
 show q g G ((t.trans B).trans H) #[J,K,a,b,λd e=>L d<|C d<|u d e,M,N]
end
def pK {a:m}{b:n}{d:m->n->r->Prop}(h:d a b o):∀e f g,(e=a/\f=b/\g=o)->d e f g:=by
 intro _ _ _ a;show tU a ?_;show h
section
variable {Y:bc}{I:aO}
def av.Gc:av Y .IsNot (.bool m) (.bool b) (m !=b):=.mk λg a h i j k l n d e f=>by
 obtain rfl:=d.is;obtain rfl:=e.is;cases m<;>cases b<;>show ba<|f a.heap a.toks<|E.bd _
def av.Qs:av Y .Is (.bool m) (.bool b) (m==b):=.mk λg a h i j k l n d e f=>by
 obtain rfl:=d.is;obtain rfl:=e.is;cases m<;>cases b<;>show ba<|f a.heap a.toks<|E.bd _
def av.nH (d:iS Y m ai)(e:iS Y b ai)(a:jF ai=z)(f:me ai ai=z):av Y .NotEq m b aj:=by
 have g:=av.BZ d e a a f;rwa[show same ai ai=z from same_refl ai]at g
def av.Qt (d:iS Y n m)(e:iS Y b m)(a:jF m=z)(f:me m m=z):av Y .Eq n b z:=by
 have g:=av.BY d e a a f;rwa[show same m m=z from same_refl m]at g
def aS.Qu (f:aS Y I m n)(g:∀a b d,n a b d->∃e,b.Perm e/\o a e d):aS Y I m o:=.mk λh i j k l m n=>
 f.go h i j k l m λo p q #[a,b,d,s,t,v,r]=>by
  show aX (g a b d s) λe f h=>?_;show n o p q #[a,e,d,h,t,u.lO (Y:=#[Y.d,Y.n,Y.J,a,Y.p,b]) v f,r]
def aS.same (g:aS Y I m (λa b e=>b.Perm Y.D/\e=r)):aS Y I m (iJ Y r):=.mk λh i j k m d n=>
 g.go h i j k m d λo p q #[a,b,e,#[s,hd],f,t,v]=>by
  subst hd;have h:=u.n8 (Y:=#[Y.d,Y.n,Y.J,a,Y.p,Y.D]) (X:=Y.X) (u.lO (Y:=#[Y.d,Y.n,Y.J,a,Y.p,b]) t s) f (λg e=>d.hB g e) d.sub;show n o p q #[Y.X,Y.D,_,(cG V rfl rfl),λg e=>e,h,v.keep<|l.sub f]
def aS.Qv (h:∃b o,@m5 Nat _ i8 b/\Y.d.B.get? b=O o)(i:∀a,a∉Y.X->a∉I.cB->m (a::Y.X) ((a,.dict [])::Y.D) (.val<| .ref a)):aS Y I (.Dict [] [] n) m:=.mk λf d k l m g j=>
 Cq (by
  have f:=g.iG d3;show j _ _ .up #[_,_,_,i d.heap.objs.size f.2.1 f.2.2.2,λa k=>A k,(g.gI d3 #[_,dL d.heap (o:={cls:=.type "dict",data:=.dict (aRR [])}) e]<|E.push _ _).ih (af:=.dict []) ao (.dict (C4 h g.tocU) (Cr _) V .nil) f.2.2.1 (show d.heap.objs.size∉d5 #[Y.d,Y.n,Y.J,d.heap.objs.size::Y.X,Y.p,Y.D]from f.1),.val _])
inductive Gd (aB:j->j->Prop):j->Prop
 |mk {ac b:j} (al:aB ac b):Gd aB (.bQ [ac,b])
def g.Ge {d e:i}{f:c4}(s:aS Y I f λh k m=>Gd (λj b=>(∀j∈Y.X,j∈h)->∀a,u I #[Y.d,Y.n,Y.J,h,bj e b<|bj d j Y.p,k] a->B .next a) m)(t:fO Y.J d)(v:fO Y.J e)
 (y:yz [oh [.Name d n,.Name e r] w x] f pos.line Y.J=pure aj) (A:uU [oh [.Name d n,.Name e r] w x] f Y.J=pure c):
 g Y I (.Assign [oh [.Name d n,.Name e r] w x] f pos) B:=.mk λd e f p n=>by
 show Assign_Tuple (s.go d e _ f p n λr q C #[h,k,m,hd,D,F,G]=>?_) y A;cases hd with|@mk j b H=>
 show cm G.is λe f d=>?_;show eN d λJ K=>?_;obtain⟨d,e,rfl,L,M⟩:=K.eT;show Qi p.handled (J.keeps l.of) V rfl λh' f=>?_;have d:E h' q.heap:=λb o e=>f b o (g7<|gl e) e;show u.CW (aa:={q with heap:=h'}) (Y:=#[Y.d,Y.n,Y.J,h,Y.p,k]) (F.keep d) t v (L.keep<|l.keep _ d) (M.keep<|l.keep _ d) (λe e a=>iA a) (λe e a=>iA a) λe f d=>#[C.gH,H D _ d]
end
noncomputable def li (ae:Int):ak:=((hU[ae.toNat]?).map (·.2)).getD []
def wr {b:Int}(h0:0<=b)(e:b<8):∃a:Nat,b=a/\a<8/\(hU.map λd=>item d.1 d.2)[a]?=O (.list [.str<|a2 b,.list<|(li b).map .str]):=by
 obtain⟨a,rfl⟩:=pA h0;have b:a<8:=by show ej.mp ‹_›
 show fo a V b ?_;show(show ∀a:Nat,a<8->(hU.map λd=>item d.1 d.2)[a]?=O (.list [.str<|a2 a,.list<|(li a).map .str])from tT V rfl rfl rfl rfl rfl rfl rfl) a b
def ws (h0:0<=b)(d:b<8):(li b).length=3:=by
 obtain⟨a,rfl⟩:=pA h0;have b:a<8:=(ej.mp d);show(show ∀a:Nat,a<8->(li a).length=3 from tT V rfl rfl rfl rfl rfl rfl rfl) a b
noncomputable abbrev e2 (eD:List (Int×i)):List (Int×j):=eD.map λai=>(ai.1,.str ai.2)
noncomputable def eL (eD:List (Int×i))(ai:Int×Int):i:=(eD.lookup ai.1).getD<|(li ai.1).getD ai.2.toNat ""
noncomputable def ir (a:List bF)(ae:Int):bF:=(a[(ae - 3).toNat]?).getD []
noncomputable def kz (a:List bF)(eD:List (Int×i))(ae:Int):i:=dC ""<|(ir a ae).tail.map<|eL eD
def Aj (a:List (Int×i))(d:Int):(e2 a).lookup d=(a.lookup d).map .str:=by
 induction a with
 |nil=>rfl|cons e a f=>
  show(?_:t0 d ((e.1,j.str e.2)::e2 a)=_);obtain⟨g,b⟩:=e;mspec fB;mspec fB;cases d==g<;>first|rfl|show f
def Qw (a:List (Int×i))(b:Int)(d:i)(f:b∉a.map (·.1)):ig (e2 a) b (.str d)=e2 (a++[(b,d)]):=by
 unfold ig;rw[if_neg]
 .simp
 .intro e;rw[ko]at e;show aX e λa g h=>?_;obtain⟨a,j,rfl⟩:=ck g;show f<|k h▸dI j
section
variable {U:aV}
noncomputable abbrev ed (U:aV)(ca:T):b1:=bU (bi 257<|a U) ca 257
noncomputable abbrev mF (U:aV):List cl:=lC (cf 257<|a U) 1
noncomputable abbrev td (U:aV):List cl:=lC (mF U) 2
noncomputable abbrev eE (ae:T)(a8:b4)(a:List bF)(bt:T):be:=[("sorter",.val (.ref ae)),("rules",.list (a.map em)),("uses",.dict (cR bn a8)),("items",fi),("grown",.val (.ref bt))]
def Qx (Tc:aR U)(n:Nat)(B:T)(X:aY)(D:aO)(E:T)(F:b4)(d:List bF)(m:T)(k:List (Int×i))(a:Int)(Γ:be)(s G:aD)(I:3<=a/\a<3+d.length)(S:d.length<=10)(Y:(ir d a).length<=10)(S4:∀h∈ir d a,(0<=h.1/\h.1<8)/\0<=h.2/\h.2.toNat<(li h.1).length)(S5:a∉k.map (·.1))(Td:k.length<=10)
 (Te:(((ir d a).tail.map<|eL k).map (·.length)).sum<=100000) (S6:c9):
 g #[U,n,ed U B,X,("x",.int a)::(eE E F d m++Γ),s++(m,.dict (e2 k))::G] D (hT (td U) 0)
  (c0 (u D #[U,n,ed U B,X,("x",.int a)::(eE E F d m++Γ),s++(m,.dict (e2<|k++[(a,kz d k a)]))::G]) S6):=by
 have J:∀{B:aD},(m,j.dict (e2 k))∈s++(m,.dict (e2 k))::B:=bA ao;obtain⟨o,t⟩:∃o:Nat,a - 3=o:=#[(a - 3).toNat,by show gr (bh [a,↑(a - 3).toNat] [.C (.c6 f<| .n 3) aA] 0 (.c6 f<| .n 3) aA H (kl (a - 3):))<|bh [↑(a - 3).toNat,a] [.C f<| .c6 aA<| .n 3] 0 f (.c6 aA<| .n 3) H (c2 (gx<|bh [a] [.C (.n 3) f] 0 (.n 0) (.c6 f<| .n 3) H I.1):)];have s:o<d.length:=dH.mp<|bh [↑o,↑d.length,a] [.aK d7<| .y (.n 3) aA,.C f<| .c6 d7<| .n 3] 0 (.Q f) aA H I.2 (c2 (t).symm:);have B:(d.map em)[o]?=O (em<|ir d a):=by
  unfold ir;mspec t;rw[vL];mspec e6;mspec gm s;rfl
 show ch (Qw k a _ S5) ?_;show g.yd (af:=.str<|kz d k a) (R.jf (ds:=[.list<|((ir d a).tail.map<|eL k).map .str]) R.cy (fD.str su sv) (W.cons ?_ W.nil V) (bO.r4 aq.list ?_) V e V) (R.K 0 V) (bl 5 V) (by decide) (by decide) V (by rw[a6];unfold aC;show b0) V
 .show R.of_eq (R.iE (ds:=(ir d a).tail) (dD:=iV) (cO:=λh=>[("y",.int h.1),("dress",.int h.2)]) [("grown",.val (.ref m)),("items",fi)] (λl=>z) (λh=>.str<|eL k h) V (by decide) V (by decide) (r:=.list<|(ir d a).tail.map iV) ?_ (cA.list (.inr #[_,_,_,V]) aq.list) ?_ (λm l=>.n4<|by decide) (uH V rfl) (gv (bl 5 V) V (.inl V) (.inl V)<|gv (bl 4 V) V (.inl V) (.inl V) f8) (λl l l l=>rfl) (λE Z h D l=>?_) (λl=>rfl)<|λl l l l=>e) (by rw[jg];mspec d2;rfl)
  .show R.of_eq (R.jD (mV:=O 1) (ds:=(ir d a).map iV) (R.item (L:=.int o) (R.K 2 V) (R.of_eq (R.sub (R.K 0 V) R.bJ)<|congrArg j.int t)<|b6.list aq.list B<|dG (a5 s S) H) aq.list R.bJ V rfl (.int _) .none .none (by decide) (by rw[a6];unfold aC;show b0)) ?_;rw[kY];mspec show ff (ir d a) (O 1) c c=(ir d a).drop 1 from sb _ 1;show aI Qy V
  .mspec re;unfold aC;show dG (a5 (fE (fN<|ir d a) 1) Y) H
  .show cd (S4 h<|Qz D) λa S7 hd=>?_;show am a λh0 w=>?_;show R.kO (b:=((e2 k).lookup h.1).isSome) (aZ.bK (R.K 0 V) (R.K 2 V) (av.B1<|aq.D J) e) (λp=>?_)<|λp=>?_
   .show v (xX.mp p) λm K=>?_;have M:=K;rw[Aj,f2]at M;obtain⟨S8,S9,rfl⟩:=M;mspec(show eL k h=S8 by unfold eL;show aI S9 ?_;rfl);show R.item (L:=.int h.1) (R.K 2 V) (R.K 0 V)<|b6.dict (aq.D J) K
   .have Ta:k.lookup h.1=c:=by rw[Aj]at p;simpa using p
    show g3 (wr h0 w) λN P l Tb=>?_;show v (pA S7) λq x=>?_;have A:q<(li h.1).length:=by rw[x]at hd;simpa using hd
    mspec(show eL k h=(li h.1)[q] by unfold eL;show aI Ta ?_;show aI x ?_;simp[A]);show R.item (L:=.int q) (R.item (L:=.int 1) (R.item (L:=.int N) (R.K 3 V) (R.of_eq (R.K 0 V)<|congrArg j.int P)<|b6.list aq.list Tb<|dH.mp<|bh [↑N,h.fst] [.aK aA<| .n 8,.C f aA] 0 (.Q f) (.n 9223372036854775808) H w (c2 (P).symm:)) R.bJ<|b6.list (cC:=1) aq.list V<|by simp+arith) (R.of_eq (R.K 1 V)<|congrArg j.int x) (b6.list (cC:=q) aq.list (by mspec e6;mspec gm A;rfl) (by have:=ws h0 w;show dG (a5 (A)<|ay this) H))
 .mspec(show((("":i)).length)=0 by decide);rw[yT];show b0
end
noncomputable def lj (a:List bF)(ae:Int):h:=(((a[(ae - 3).toNat]?).getD []).tail).map (·.1)
noncomputable def nI (a:List bF)(ae:Int):Bool:=decide (2<ae)&&decide (ae<3+(a.length:Int))
noncomputable def fS (a:List bF):Nat->Int->Option h
 |0,_=>c|n+1,ae=>if nI a ae then((lj a ae).mapM<|fS a n).map Gf else O [ae]
def rm {a:List bF}{n:Nat}{b:Int}:fS a (n+1) b=if nI a b then((lj a b).mapM<|fS a n).map Gf else O [b]:=rfl
def QA (b:List bF)(j:∀r∈b,r.length<=10):∀n d g,fS b n d=O g->g.length<=10^n:=λn=>by
 induction n with
 |zero=>show λd g a=>nomatch a|succ n k=>
  intro d g a;rw[rm]at a;split at a
  .cases hm:(lj b d).mapM (fS b n)with
   |none=>replace a:=hm▸a;cases a
   |some f=>
    replace a:=hm▸a;cases a;have l:∀(e:h)(f:List h),e.mapM (fS b n)=O f->f.flatten.length<=e.length*10^n:=by
     intro e
     induction e with
     |nil=>intro f a;simp at a;subst a;simp|cons i e m=>
      intro f a;rw[wm]at a;cases ha:fS b n i with
      |none=>replace a:=ha▸a;cases a
      |some o=>
       cases hb:e.mapM (fS b n)with
       |none=>replace a:=ha▸a;replace a:=hb▸a;cases a
       |some p=>
        replace a:=ha▸a;replace a:=hb▸a;cases a;have e:=m p hb;mspec Gg;mspec dE;mspec eA;rw[sG];show c5 [.C G aU,.C N t] 0 (.y G N) (.y t aU) H (k i o ha) e
    have q:(lj b d).length<=10:=by
     unfold lj;rw[a6];mspec re;cases hq:b[(d - 3).toNat]? with
     |none=>simp|some r=>have:=j r<|ic hq;simp;show b0
    rw[Ak];show bb [.C G t,.C t<| .cS 10 N] 0 G (.w N 10) H (l _ _ hm) (show(lj b d).length*10^n<=10*10^n from xd _ q)
  .cases a;simp[Nat.one_le_pow]
def aZ.QB (i:R m B M)(s:R m o b)(t:n=z->R m r S4)(u:av m w M b n)(v:n=z->av m x b S4 S5)(y:lastMarks [w,x] [o,r]=aj):aZ m (.Compare B [w,x] [o,r] pos) (n&&S5):=.mk λa m h d e f j=>by
 show isTrue_chain (i.go a m _ d e f λo w x h r=>test_link<|s.go a _ _ d e (f.keep h) λk m w i p=>u.go a _ _ d o k e ((f.keep h).keep i) (r.keep<|l.keep _ i) p λA C q=>ma ?_) y;have g:=(h.trans i).trans q;cases n with
 |false=>show j A C g|true=>
  simp only[if_true];show test_last<|(t H).go a _ _ d e (f.keep g) λi n o h m=>(v H).go a _ _ d k i e ((f.keep g).keep h) (p.keep<|l.keep _<|q.trans h) m λn o r=>ma<|j n o<|(g.trans h).trans r
def QC {b:h}:∀{e:List h},b.mapM m=O e->e=b.map (λd=>(m d).getD [])/\∀d∈b,m d=O ((m d).getD []):=by
 induction b with
 |nil=>show λa=>#[(fU a).symm,nofun]|cons g b i=>
  intro e a;rw[wm]at a;cases ha:m g with
  |none=>replace a:=ha▸a;cases a
  |some e=>
   cases hb:b.mapM m with
   |none=>replace a:=ha▸a;replace a:=hb▸a;cases a
   |some b=>
    replace a:=ha▸a;replace a:=hb▸a;cases a;show am (i hb) λa j=>?_;show#[by mspec a;mspec b7;mspec ha;rfl,λd f=>?_];show aw (a4 f) (λk=>?_) λf=>?_
    .obtain rfl:=k;mspec ha;rfl
    .show j d f
section
variable {U:aV}
def te (f:aR U):ez U 233 (bi 233<|a U) ["x","rules"] (cf 233<|a U):=
 f.fn V rfl H V rfl (qu λg b=>by room)
  (λf d=>by
   rcases a4 d with rfl|d
   .show .inl V
   .rcases a4 d with rfl|d
    .show .inr #[V,λf=>H]
    .cases d) (by decide) (show(["rules"]:ak).Nodup by decide) e e V
def QD (p:aR U)(d:List bF)(v:∀r∈d,r.length<=10)(G:d.length<=10):∀(i:Nat),i<=6->∀(a:Int)(o:h),fS d i a=O o->
 ∀{n:Nat}{env:b1}{X:aY}{Γ:be}{own:List (T×j)},bO #[U,n+i,env,X,Γ,own] (.ref 233) [.int a,.list<|d.map em] (.list<|o.map .int):=λi=>by
 induction i with
 |zero=>show λm a o l=>nomatch l|succ i I=>
  intro w a o l n env X Γ own;show(te p).m7 V<|λY S4 S5=>?_;have J:=QA d v (i+1) a o l;have K:(10:Nat)^(i+1)<=10^6:=QE (by decide) w;mexact S.ret (R.kO (b:=decide (2<a)&&decide (a<3+(d.length:Int))) (aZ.QB R.bJ (R.K 0 V) (λm=>R.add R.bJ<|R.of_eq (R.jG (ds:=[_]) (p.eX V rfl (by room) (by decide) V rfl rfl (by decide)) (W.cons (R.K 1 V) W.nil V) (bO.len (ds:=d.map em) aq.list (by rw[a6];show gu)) V e V)<|by rw[a6]) av.lt (λm=>av.lt) e) (λs=>?_)<|λs=>?_)
  .rw[rm,if_pos (show nI d a=z from s)]at l;show am (xb.mp s) λu w=>?_;have Y:=k u;have Y:=k w;have x:(a - 3).toNat<d.length:=dH.mp<|bh [↑(a - 3).toNat,↑d.length,a] [.aK d7<| .y (.n 3) aA,.C f<| .c6 d7<| .n 3] 0 (.Q f) aA H (k w:) (c2 (gx<|bh [a] [.aK (.n 2) f] 0 (.n 0) (.c6 f<| .n 3) H (k u:)):);have t:d[(a - 3).toNat]?=O d[(a - 3).toNat]:=gm x;generalize w:d[(a - 3).toNat]=r at t;have w:=v r<|ic t;cases hm:(lj d a).mapM (fS d i)with
   |none=>replace l:=hm▸l;cases l
   |some M=>
    replace l:=hm▸l;show am (QC hm) λA B=>?_;have N:o=M.flatten:=by cases l;rfl
    have P:lj d a=(r.drop 1).map (·.1):=by unfold lj;mspec t;simp
    rw[P]at A B;have D:o.map j.int=(((r.drop 1).map λg=>((fS d i g.1).getD []).map j.int)).flatten:=by
     mspec N;mspec A;mspec d2;mspec List.map_flatten;mspec d2;rfl
    show R.of_eq (R.JL (ds:=r.drop 1) (yo:=iV) (cO:=λg=>[("y",.int g.1),("dress",.int g.2)]) (pS:=λg=>.list<|((fS d i g.1).getD []).map .int) (dy:=λg=>(fS d i g.1).getD []) (pd:=j.int) [("rules",.list (d.map em))] (λE=>.int E) V (by decide) V (by decide) (yn:=.list<|(r.drop 1).map iV)
     ?_ (cA.list (.inr #[_,_,_,V]) aq.list) ?_ (λo m=>.n4<|by decide) (uH V rfl) V (gv (bl 1 V) V (.inl V) (.inl V) f8) (λF Z g q=>?_) (λm m l=>by cases l) (λF Z g q=>cA.list (.inl<|dM _ _ V) aq.list) (λF Z g E q m=>by show R.K 0 V) (λm=>rfl) (λm m=>rfl) (λm m m m=>e)) (by show aI D V)
    .show R.of_eq (R.jD (ds:=r.map iV) (R.item (L:=.int<|a - 3) (af:=em r) (R.K 1 V) (R.sub (R.K 0 V) R.bJ) ?_) aq.list R.bJ V rfl (.int _) .none .none (by decide) (by rw[a6];unfold aC;show b0)) (by rw[kY,CM]);mspec(show a - 3=(((a - 3).toNat:Nat):Int) by show gr (bh [a,↑(a - 3).toNat] [.C (.c6 f<| .n 3) aA] 0 (.c6 f<| .n 3) aA H (kl (a - 3):))<|bh [↑(a - 3).toNat,a] [.C f<| .c6 aA<| .n 3] 0 f (.c6 aA<| .n 3) H (c2 (gx<|bh [a] [.aK (.n 2) f] 0 (.n 0) (.c6 f<| .n 3) H (k u:)):));show b6.list aq.list (by mspec e6;mspec t;rfl)<|dG (a5 x G) H
    .show ch D ?_;rw[a6];unfold aC;show dG (a5 J K) H
    .show R.g5 (ds:=[.int g.1,.list<|d.map em]) (p.eU V (by room) V rfl (by decide)) (te p).at_.choose_spec.1 (te p).at_.choose_spec.2 (W.cons (R.K 0 V) (W.cons (R.K 2 V) W.nil V) V) (I (by show iD ‹_›) g.1 _<|(show ∀g∈r.drop 1,fS d i g.1=O ((fS d i g.1).getD [])from λg q=>B g.1<|dI q) g q) V e V
  .rw[rm,if_neg (by mspec show nI d a=aj from s;decide)]at l;cases l;show R.list (W.cons (R.K 0 V) W.nil V)<|dt H
end
noncomputable def fb (ag:h):List bS:=(gL ag).map λbu=>if bu=0 then c else O (a2 bu)
section
variable {U:aV}
def QF (k:aR U)(n:Nat)(p:T)(X:aY)(q:aO)(s:T)(t:b4)(l:List bF)(v:T)(m:Int)(d:h)(Γ:be)(own:aD)(x:∀r∈l,r.length<=10)(y:l.length<=10)(A:fS l 6 m=O d)(w:d.length<=1000)(B:∀a∈d,0<=a/\a<8)(D:c9):
 g #[U,n+7,ed U p,X,("x",.int m)::(eE s t l v++Γ),own] q (hT (td U) 1)
  (c0 (u q #[U,n+7,ed U p,X,bj "parts" (.list<|(fb d).map<|c3 .none)<|("x",.int m)::(eE s t l v++Γ),own]) D):=by
 have E:(gL d).length<=d.length:=by
  unfold gL;rw[a6];show a5 (qj _ _) (by simp[el])
 have F:∀a∈gL d,0<=a/\a<8:=λa o=>by
  unfold gL at o;obtain⟨G,p,rfl⟩:=ck o;mspec oz;cases hq:d[G.toNat]? with
  |none=>show#[tS _,by decide]|some I=>show B I<|ic hq
 have p:(fb d).map (c3 .none)=((gL d).filter λi=>z).map λa=>c3 .none (if a=0 then c else O (a2 a)):=by
  rw[jg];unfold fb;mspec d2;rfl
 mspec p;show g.x2 (ds:=gL d) (dD:=j.int) (cO:=λa=>[("y",.int a)]) [("items",fi)] (λi=>z) (λa=>c3 .none (if a=0 then c else O (a2 a))) (.inl V) V rfl (by decide) V (by decide) (r:=.list<|(gL d).map .int)
  (R.g5 (ds:=[.list<|d.map .int]) (k.eU V (by room) V rfl (by decide)) (sp k).at_.choose_spec.1 (sp k).at_.choose_spec.2 (W.cons (R.g5 (ds:=[.int m,.list<|l.map em]) (k.eU V (by room) V rfl (by decide)) (te k).at_.choose_spec.1 (te k).at_.choose_spec.2 (W.cons (R.K 0 V) (W.cons (R.K 2 V) W.nil V) V) (QD k l x y 6 (by simp+arith) m d A (n:=n+1)) V e V) W.nil V) (Dd k d w) V e V)
  (cA.list (.inl<|dM _ _ V) aq.list) (by unfold aC;show dG (a5 E w) H) (λd i=>.name _ _ _) (hh V) (gv (bl 4 V) V (.inl V) (.inl V) f8) (λi i i i=>rfl) (λd Z a o i=>?_) (λi=>rfl) (λi i i i=>e)
 show am (F a o) λh0 k=>?_;show R.kO (b:=(a==0)) (aZ.bK (R.K 0 V) R.bJ av.eq e) (λd=>?_)<|λd=>?_
 .mspec if_pos (by simpa using d);show R.gF
 .mspec if_neg (by simpa using d);show g3 (wr h0 k) λd l i m=>?_;show R.item (L:=.int 0) (R.item (L:=.int d) (R.K 1 V) (R.of_eq (R.K 0 V)<|congrArg j.int l)<|b6.list aq.list m<|dH.mp<|bh [↑d,a] [.aK aA<| .n 8,.C f aA] 0 (.Q f) (.n 9223372036854775808) H k (c2 (l).symm:)) R.bJ (b6.list (cC:=0) aq.list V<|by simp+arith)
end
def i4 {d:Type}{a:List d->Prop}(nil:a [])(snoc:∀b e,a b->a (b++[e]))(b:List d):a b:=by
 have f:∀r:List d,a r.reverse:=λr=>by
  induction r with
  |nil=>show nil|cons e r g=>mspec List.reverse_cons;show snoc _ _ g
 have:=f b.reverse;rwa[List.reverse_reverse]at this
noncomputable def nJ (a:h)(ac:Int):h:=if ac=0/\a.getLast?=O 0 then a else a++[ac]
noncomputable def ee (ag:h):h:=ag.foldl nJ []
def pL (a:h)(b:Int):ee (a++[b])=nJ (ee a) b:=by
 unfold ee;mspec iX;mspec hV;show aI Gh V
def Al (a:h):(ee a).getLast?=a.getLast?:=by
 induction a using i4 with
 |nil=>rfl|snoc a b d=>
  rw[pL];unfold nJ;split
  .next a=>mspec a.2;mspec rn;show aI a.1 V
  .mspec rn;show aI (rn) V
def QG (b:h)(a:Nat)(d:a<b.length):ff b (O<|(a:Int) - 1) (O (a:Int)) c=if a=0 then[]else[b.getD (a - 1) 0]:=by
 rw[r9];simp only[uI];rw[uJ];mspec qD<|iD d;by_cases h0:a=0
 .subst h0;simp
 .mspec if_neg h0;mspec(show((a:Int) - 1)=((a - 1:Nat):Int) by show gr (bh [↑a,↑(a - 1)] [.C f<| .Q aA] 0 (.c6 f<| .n 1) aA H (dH.mpr (eY<|cg<|a - 1):))<|bh [↑(a - 1),↑a] [.aK f aA] 0 f (.c6 aA<| .n 1) H (dH.mpr (ay<|e8 (n:=a) (m:=1)<|dK [.aK (.n 0) G] 0 (.n 1) G H<|sP h0):));rw[uJ];mspec qD (by show bb [.aK t N,.C G t] 0 G N H d<|fE a 1);mspec(show a - (a - 1)=1 by grind);mspec rP (by omega:a - 1<b.length);mspec IJ;mspec CQ;simp[oz,show a - 1<b.length by omega]
def Am (b:h):gL b=((h7 b.length).filter λa=>decide (b.getD a 0≠0)||(decide (a=0)||decide (b.getD (a - 1) 0≠0))).map λa=>b.getD a 0:=by
 unfold gL el;mspec(show(((b.length:Int) - 0).toNat)=b.length by simp+arith);mspec zb;mspec d2;have e:((λ(a:Int)=>b.getD a.toNat 0)∘λ(d:Nat)=>(0:Int)+(d:Int))=λa:Nat=>b.getD a 0:=by
  funext d;show(?_:b.getD ((0:Int)+(d:Int)).toNat 0=_);show aI (show((0:Int)+(d:Int)).toNat=d by simp+arith) V
 mspec e;congr 1;show pp λa f=>?_;show(?_:(decide (b.getD ((0:Int)+(a:Int)).toNat 0≠0)||decide (ff b (O<|((0:Int)+(a:Int)) - 1) (O<|(0:Int)+(a:Int)) c≠[0]))=_);mspec(show((0:Int)+(a:Int))=(a:Int) by simp+arith);mspec QG b a<|iW.mp f;rw[vL];congr 1;by_cases h0:a=0
 .simp[h0]
 .mspec if_neg h0;simp[h0]
def wt (a:h):gL a=ee a:=by
 induction a using i4 with
 |nil=>rfl|snoc a e j=>
  rw[pL];show ch j ?_;rw[Am];mspec Am a;mspec dE;mspec gw;mspec QH;rw[rV];mspec eV;have m:((h7 a.length).filter λd=>decide ((a++[e]).getD d 0≠0)||(decide (d=0)||decide ((a++[e]).getD (d - 1) 0≠0))).map (λd=>(a++[e]).getD d 0)=((h7 a.length).filter λd=>decide (a.getD d 0≠0)||(decide (d=0)||decide (a.getD (d - 1) 0≠0))).map (λd=>a.getD d 0):=by
   have i:∀d,d<a.length->(a++[e]).getD d 0=a.getD d 0:=λd f=>by
    mspec oz;mspec oz;show aI (s0 f) V
   rw[pp (q:=λd=>decide (a.getD d 0≠0)||(decide (d=0)||decide (a.getD (d - 1) 0≠0))) λd f=>by
    have k:=iW.mp f;mspec i d k;show aI (i (d - 1)<|by show bb [.aK t N,.C G t] 0 (.Q G) N H k<|fE d 1) V]
   show hC λd f=>?_;show i d<|iW.mp (e7.mp f).1
  mspec m;rw[<-Am];mspec j;unfold nJ;rw[Al];have l:(a++[e]).getD a.length 0=e:=by simp[oz]
  have n:(decide (a.length=0)||decide ((a++[e]).getD (a.length - 1) 0≠0))=decide (a.getLast?≠O 0):=by
   cases a using i4 with
   |nil=>rfl|snoc a b _=>
    mspec rn;simp[oz,List.getElem?_append]
  have o:([a.length].filter λd=>decide ((a++[e]).getD d 0≠0)||(decide (d=0)||decide ((a++[e]).getD (d - 1) 0≠0)))=if e=0/\a.getLast?=O 0 then[]else[a.length]:=by
   mspec sR;mspec NZ;mspec n;mspec l;by_cases p:e=0<;>by_cases r:a.getLast?=O 0<;>simp[p,r]
  mspec o;by_cases g:e=0/\a.getLast?=O 0
  .mspec if_pos g;mspec if_pos g;simp
  .mspec if_neg g;mspec if_neg g;simp[l]
def An {a:h}(b:a≠[]):ee a≠[]:=λd=>by
 have:=Al a;rw[d]at this;show b<|Ps.mp this.symm
noncomputable def fK (ai:Int×Int):List ec:=if ai.1=0 then kA (ai.2.toNat+1) .rb else match(eL [] ai).cps.toList with
 |[63]=>[.v0]|[46]=>[.v4]|ag=>[.brk (ag.drop 1).dropLast]
noncomputable def kB (bu:Int):bS:=if bu=0 then c else O (a2 bu)
def iu (ai:Int×Int):Prop:=(0<=ai.1/\ai.1<8)/\0<=ai.2/\ai.2<3
def QI:∀(a:Fin 8)(b:Fin 3),(eL [] ((a.val:Int),(b.val:Int))=az (cc<|fK ((a.val:Int),(b.val:Int)))/\(∀it∈fK ((a.val:Int),(b.val:Int)),it.ok=z)/\(eL [] ((a.val:Int),(b.val:Int))).length<=10/\(fK ((a.val:Int),(b.val:Int))).length<=3/\
 (fK ((a.val:Int),(b.val:Int))).map ec.g4=if a.val=0 then kA (b.val+1) c else[O<|a2 a.val]):=by
 decide+kernel
def tf (a:i):("":i)++a=a:=by
 show(?_:(#[(aRR [])++a.cps]:i)=a);show aI uT V
def ro (a:i):a++("":i)=a:=by
 show(?_:(#[a.cps++(aRR [])]:i)=a);show aI Kg V
def tg (a b d:i):a++b++d=a++(b++d):=by
 show(?_:(#[(a.cps++b.cps)++d.cps]:i)=#[a.cps++(b.cps++d.cps)]);show aI Array.append_assoc V
def wu:dC "" []="":=rfl
def mG (b:i)(a:ak):dC "" (b::a)=b++dC "" a:=by
 unfold dC;rw[QJ,QJ];cases a with
 |nil=>show(ro b).symm|cons d a=>
  show b++""++i.join "" (d::a)=_;rw[ro]
def QK (a b:ak):dC "" (a++b)=dC "" a++dC "" b:=by
 induction a with
 |nil=>rw[nv,wu,tf]|cons e a d=>rw[qR,mG,mG,d,tg]
def QL (a:List bP):dC "" (a.map az)=az a.flatten:=by
 induction a with
 |nil=>rfl|cons d a b=>rw[b7,mG,b,pC,Gg]
def QM (a:iu b):∃(d:Fin 8) (e:Fin 3),b=((d.val:Int),(e.val:Int)):=by
 obtain⟨⟨h0,g⟩,h,i⟩:=a;show dM #[b.1.toNat,by show dH.mp<|bh [↑b.fst.toNat,b.fst] [.aK aA<| .n 8,.C f aA] 0 (.Q f) (.n 8) H g (c2 (gx<|bh [b.fst] [.C (.n 0) f] 0 (.n 0) f H h0):)] #[b.2.toNat,by show dH.mp<|bh [↑b.snd.toNat,b.snd] [.aK aA<| .n 3,.C f aA] 0 (.Q f) (.n 3) H i (c2 (gx<|bh [b.snd] [.C (.n 0) f] 0 (.n 0) f H h):)] ?_;show Prod.ext ?_ ?_<;>simp<;>lia
structure Gi (ai:Int×Int):Prop where
 Ao:eL [] ai=az (cc<|fK ai)
 ok:∀it∈fK ai,it.ok=z
 len:(eL [] ai).length<=10
 fR:(fK ai).length<=3
 g4:∃n,(fK ai).map ec.g4=if ai.1=0 then kA (n+1) c else[O<|a2 ai.1]
def mH (d:iu b):Gi b:=by
 show cm (QM d) λb a e=>?_;show bw e ?_;show oU (QI b a) λd e f g h=>?_;show#[d,e,f,g,a.val,?_];mspec h;by_cases a:b.val=0
 .mspec if_pos a;show aI (if_pos<|by simpa using a) V
 .mspec if_neg a;show aI (if_neg<|by simpa using a) V
def QN (b:List bS)(a:bS):(h2 b a).getLast?=O a:=by
 cases a with
 |none=>
  unfold h2;dsimp only;split
  .next a=>show a
  .show aI (rn) V
 |some a=>show rn
def QO (n:Nat)(a:List bS):(kA (n+1) (c:bS)).foldl h2 a=h2 a c:=by
 have b:∀(n:Nat)(a:List bS),a.getLast?=O c->(kA n (c:bS)).foldl h2 a=a:=by
  intro n
  induction n with
  |zero=>intro a _;rfl|succ n d=>
   intro a b;mspec Ap;mspec hV;have e:h2 a c=a:=by unfold h2;show aI (if_pos b) V
   mspec e;show aI (d a b) V
 mspec Ap;mspec hV;show b n _<|QN a c
def wv:kB b=c↔b=0:=by
 unfold kB;by_cases a:b=0<;>simp[a]
def Gj (a:List (Int×Int))(e:∀b∈a,iu b):dv (a.flatMap fK)=(ee (a.map (·.1))).map kB:=by
 induction a using i4 with
 |nil=>rfl|snoc a b g=>
  have h:=e b (by simp);have i:∀d∈a,iu d:=λd j=>e d (by simp[j]);have k:dv ((a++[b]).flatMap fK)=((fK b).map ec.g4).foldl h2 (dv<|a.flatMap fK):=by
   unfold dv;mspec wb;mspec iX;mspec List.foldl_map;simp
  mspec k;mspec g i;mspec eV;mspec b7;mspec m9;rw[pL];show v (mH h).g4 λn d=>?_;mspec d;have f:((ee (a.map (·.1))).map kB).getLast?=O c↔(ee (a.map (·.1))).getLast?=O 0:=by
   mspec ss;cases(ee (a.map (·.1))).getLast? with
   |none=>simp|some d=>simp[wv]
  unfold nJ;by_cases d:b.1=0
  .mspec if_pos d;rw[QO];unfold h2;dsimp only;by_cases e:(ee (a.map (·.1))).getLast?=O 0
   .mspec if_pos<|f.mpr e;show aI (if_pos #[d,e]) V
   .mspec if_neg<|λa=>e<|f.mp a;mspec if_neg<|λa=>e a.2;mspec eV;mspec b7;mspec m9;show aI (wv.mpr d) V
  .mspec if_neg d;mspec if_neg<|λa=>d a.1;show(?_:_++[O<|a2 b.1]=_);mspec eV;mspec b7;mspec m9;unfold kB;show aI (if_neg d) V
def rp (a:h):fb a=(ee a).map kB:=by unfold fb kB;rw[wt]
def th {e h:Type}(f:e->List h)(a:List e)(n:Nat)(g:∀d∈a,(f d).length<=n):(a.flatMap f).length<=a.length*n:=by
 induction a with
 |nil=>simp|cons d a i=>
  mspec ti;mspec dE;mspec eA;rw[sG];have:=g d ao;have:=i λb a=>g b<|A a;lia
def Gk (b:List ec):∀a:Int×Int,Gi a->b=fK a->(cc b).length<=10:=λa d e=>by
 subst e;have:=d.len;rw[d.Ao]at this;show this
def QP (a:List (Int×Int))(d:∀b∈a,iu b):dC "" (a.map<|eL [])=az (cc<|a.flatMap fK):=by
 have e:a.map (eL [])=(a.map λb=>cc<|fK b).map az:=by
  mspec d2;show hC λb a=>(mH<|d b a).Ao
 mspec e;rw[QL];congr 1;unfold cc;mspec Gl;rfl
noncomputable def gS:i->List bS->ak
 |ae,[]=>[ae]|ae,O aa::ag=>gS (ae++aa) ag|ae,c::ag=>ae::gS "" ag
def QQ (d:List bS):∀(a:ak)(b:i),d.foldl hG (a++[b])=a++gS b d:=by
 induction d with
 |nil=>intro a b;rfl|cons g d e=>
  intro a b;mspec hV;cases g with
  |none=>
   show d.foldl hG ((a++[b])++[("":i)])=_;rw[e,hX];rfl
  |some f=>
   have h:hG (a++[b]) (O f)=a++[b++f]:=by
    unfold hG hF;simp
   mspec h;rw[e];rfl
def QR (a:List bS):km a=gS "" a:=QQ a [] ""
noncomputable def QS:List bS->ak
 |none::ag=>gS "" ag|_=>[]
def tj (a:List bS):∀b,gS b a=(b++dC "" (cW a))::QS (gy a):=by
 induction a with
 |nil=>intro b;show congrArg (λd=>[d]) (ro b).symm|cons e a f=>
  intro b;cases e with
  |none=>
   rw[u6,u7];show b::gS "" a=_;mspec wu;rw[ro];rfl
  |some g=>
   rw[sx,yU,mG];show(?_:gS (b++g) a=_);rw[f,tg]
def Gm (a:List bS):gy a=[]\/∃r,gy a=c::r/\r.length<a.length:=by
 induction a with
 |nil=>show .inl V|cons b a d=>
  cases b with
  |none=>show .inr (as a (u7 a)<|by simp)
  |some a=>
   rw[yU];show aw d (λa=>?_) λb=>?_
   .show .inl a
   .show v b λr d=>?_;show am d λa b=>?_;show .inr (as r a (by mspec eA;show b9 [.aK G N] 0 (.Q G) (.Q N) H b))
noncomputable def tk:ak->i
 |[]=>""|r::ag=>if ag.isEmpty then ".*"++r else jk r++tk ag
def QT (e:Nat):∀a:List bS,a.length<=e->dC "" (lJ (e+1)<|c::a)=tk (gS "" a):=by
 induction e with
 |zero=>
  intro a f;cases a with
  |nil=>rfl|cons k a=>simp at f
 |succ e h=>
  intro a f;rw[sw];by_cases g:a=[]
  .subst g;rfl
  .mspec if_neg g;rw[tj];show aw (Gm a) (λd=>?_) λe=>?_
   .mspec if_pos d;mspec d;show _=tk [("":i)++dC "" (cW a)];show _=(".*":i)++_;rw[tf,mG,mG];mspec wu;rw[ro]
   .show v e λr g=>?_;show am g λd j=>?_;mspec if_neg (by show aI d ?_;simp);mspec d;rw[tf];show _=tk (dC "" (cW a)::gS "" r);have a:=h r<|bb [.C t<| .Q N,.aK G t] 0 G N H f j;rw[mG];mspec a;show cm (show ∃a b,gS "" r=a::b from(dM _ _<|tj r "")) λa b d=>?_;mspec d;rfl
def QU (a:ak)(e:a≠[]):dC "" ((a.take<|a.length - 1).map jk)++(".*"++hF a)=tk a:=by
 induction a with
 |nil=>show absurd V e|cons d a f=>
  cases a with
  |nil=>show tf _|cons b a=>
   have g:=f (by simp);have h:hF (d::b::a)=hF (b::a):=by unfold hF;show aI (Aq) V
   mspec(show(d::b::a).take ((d::b::a).length - 1)=d::(b::a).take ((b::a).length - 1)from by simp);mspec h;mspec b7;rw[mG,tg];mspec g;rfl
def Gn (a:List bS):gb a=ni a:=by
 unfold gb ni;rw[QR,tj,tf];unfold jR sr;rw[QK];show aw (Gm a) (λd=>?_) λj=>?_
 .mspec d;have k:lJ a.length []=[]:=by cases a.length<;>rfl
  mspec k;dsimp only;mspec if_neg (by show ¬1<1;decide);show("(?s:":i)++(dC "" (cW a)++("":i))++")\\Z"=("(?s:":i)++dC "" (cW a)++("":i)++("":i)++")\\Z";simp only[ro]
 .show v j λr k=>?_;show am k λd f=>?_;mspec d;obtain⟨e,g⟩:∃e,a.length=e+1:=#[a.length - 1,by show cZ ((eY<|cg<|a.length - 1))<|(ay<|e8 (n:=a.length) (m:=1)<|b9 [.aK N G] 0 (.n 1) G H f)];mspec g;mspec QT e r<|bb [.aK G t,.C t<| .Q N] 0 G N H f<|ay g;have h:gS "" r≠[]:=by rw[tj];simp
  dsimp only;have d:0<(gS "" r).length:=jl.mpr h;mspec if_pos (by show 1<(gS "" r).length+1;show qF ‹_›);show _=("(?s:":i)++dC "" (cW a)++dC "" ((((dC "" (cW a)::gS "" r).drop 1).take<|(dC "" (cW a)::gS "" r).length - 2).map jk)++(".*"++hF (dC "" (cW a)::gS "" r))++")\\Z";mspec KL;mspec qe;mspec eA;mspec(show(gS "" r).length+1 - 2=(gS "" r).length - 1 by simp+arith);have l:hF (dC "" (cW a)::gS "" r)=hF (gS "" r):=by
   obtain⟨a,b,o⟩:∃a b,gS "" r=a::b:=dM _ _<|tj r "";unfold hF;mspec o;show aI (Aq) V
  mspec l;show ch (QU _ h) ?_;simp only[tg]
theorem Ar:∀(b:List bS)(a:bS),apart b=z->¬(b.getLast?=O c/\a=c)->apart (b++[a])=z
 |[],a,_,_=>by cases a<;>rfl
 |[f],a,_,d=>by
  cases f with
  |none=>
   cases a with
   |none=>show absurd #[V,V] d|some h=>rfl
  |some g=>cases a<;>rfl
 |none::c::b,a,d,_=>by cases d
 |none::O g::b,a,d,e=>by
  show Ar (O g::b) a d (by replace e:=(Aq)▸e;show e)
 |some g::f::b,a,d,e=>by
  show Ar (f::b) a d (by replace e:=(Aq)▸e;show e)
def QV (b:h):apart (fb b)=z:=by
 rw[rp]
 induction b using i4 with
 |nil=>rfl|snoc b e d=>
  rw[pL];unfold nJ;split
  .show d
  .next e=>
   mspec eV;mspec b7;mspec m9;show Ar _ _ d λf=>am f λa d=>e #[wv.mp d,?_];replace a:=(ss)▸a;cases hq:(ee b).getLast? with
   |none=>replace a:=hq▸a;cases a
   |some b=>
    replace a:=hq▸a;show congrArg O<|wv.mp<|fU a
def tl (a:fx m=z)(d:fx b=z):fx (m++b)=z:=by
 unfold fx at*;show(?_:(m.cps++b.cps).all _=z);mspec Array.all_append;mspec a;mspec d;rfl
def As (d:∀a∈b,fx a=z):fx (dC "" b)=z:=by
 induction b with
 |nil=>rw[wu];decide+kernel|cons e b f=>rw[mG];show tl (d e ao)<|f λa b=>d a<|A b
def pM (ag:List bS):Prop:=∀ai∈ag,∀aa,ai=O aa->fx aa=z
def Au (d:pM m):∀b∈cW m,fx b=z:=by
 induction m with
 |nil=>intro b a;cases a
 |cons e m f=>
  cases e with
  |none=>intro b a;rw[u6]at a;cases a
  |some e=>
   intro b a;rw[sx]at a;show aw (a4 a) (λg=>?_) λa=>?_
   .obtain rfl:=g;show d _ ao _ V
   .show f (λe g=>d e<|A g) b a
def Go (a:pM b):pM (gy b):=λb d=>a b<|List.dropWhile_sublist _ |>.subset d
def QW (a:fx b=z):fx (jk b)=z:=tl (tl (by decide+kernel) a) (by decide+kernel)
theorem Gp:∀(d:Nat)(e:List bS),pM e->∀b∈lJ d e,fx b=z
 |0,_,_,b,a=>by cases a
 |d+1,[],_,b,a=>by cases a
 |d+1,i::e,h,b,a=>by
  have f:pM e:=λe i=>h e<|A i;rw[sw]at a;split at a
  .mspec bW a;decide+kernel
  .split at a
   .show aw (a4 a) (λg=>?_) λa=>?_
    .obtain rfl:=g;decide+kernel
    .mspec bW a;show As<|Au f
   .show aw (a4 a) (λg=>?_) λa=>?_
    .obtain rfl:=g;show QW<|As<|Au f
    .show Gp d _ (Go f) b a
def QX (b:pM m):fx (gb m)=z:=by
 show tl (tl (by decide+kernel)<|As λd a=>?_) (by decide+kernel);unfold jR at a;show cK a (λa=>?_) λa=>?_
 .show Au b d a
 .show Gp _ _ (Go b) d a
def QY:∀a:Fin 8,fx (a2 a.val)=z/\(a2 a.val).length<=8:=by decide+kernel
def Gq (h0:0<=b)(a:b<8):fx (a2 b)=z/\(a2 b).length<=8:=by
 have:=QY #[b.toNat,by show dH.mp<|bh [↑b.toNat,b] [.aK aA<| .n 8,.C f aA] 0 (.Q f) (.n 8) H a (c2 (gx<|bh [b] [.C (.n 0) f] 0 (.n 0) f H h0):)];rwa[show(((#[b.toNat,by show dH.mp<|bh [↑b.toNat,b] [.aK aA<| .n 8,.C f aA] 0 (.Q f) (.n 8) H a (c2 (gx<|bh [b] [.C (.n 0) f] 0 (.n 0) f H h0):)]:Fin 8).val:Nat):Int)=b from by simp;show(Int.le_total b 0).elim (λa=>gr (bh [max b 0,b] [.C (.n 0) aA,.C f<| .n 0] 0 f aA H h0 (c2 (F5 a):))<|bh [b,max b 0] [.C f aA] 0 f aA H (wq b 0:)) λa=>gr (bh [max b 0,b] [.C f aA] 0 f aA H (c2 (Qk a):))<|bh [b,max b 0] [.C f aA] 0 f aA H (wq b 0:)]at this
def ww (a:m∈ee b):m∈b:=by
 induction b using i4 with
 |nil=>cases a
 |snoc b e d=>
  rw[pL]at a;unfold nJ at a;split at a
  .show bI<|d a
  .show cK a (λa=>?_) λa=>?_
   .show bI<|d a
   .show bA a
def Gr (a:h):(ee a).length<=a.length:=by rw[<-wt];unfold gL;rw[a6];show a5 (qj _ _) (by simp[el])
def Gs (e:∀a∈m,0<=a/\a<8):pM (fb m):=λg d h b=>by
 rw[rp]at d;obtain⟨a,f,rfl⟩:=ck d;unfold kB at b;split at b
 .cases b
 .obtain rfl:=fU b;show am (e a<|ww f) λh0 b=>?_;show(Gq h0 b).1
def QZ (f:∀a∈m,0<=a/\a<8):gc (fb m)<=8*m.length:=by
 have g:∀b:h,(∀a∈b,0<=a/\a<8)->gc (b.map kB)<=8*b.length:=by
  intro b
  induction b with
  |nil=>intro _;show cg _|cons e b i=>
   intro b;have:=i λa d=>b a<|A d;show am (b e ao) λh0 j=>?_;have k:iY (kB e)<=8:=by
    unfold kB;split
    .show ew _
    .show(Gq h0 j).2
   mspec b7;mspec eA;unfold gc at this ⊢;mspec b7;mspec hW;show bb [.C N<| .cS 8 t,.C G<| .n 8] 0 (.y G N) (.cS 8<| .Q t) H this k
 rw[rp];have:=g (ee m) λa d=>f a<|ww d;have:=Gr m;lia
section
variable {Y:bc}{I:aO}
def g.Gu (a:aS Y I m (iJ Y af))(d:fO Y.J b)(e:f7 m (O<| .Name b n) pos.line Y.J=pure aj):
 g Y I (.Assign [.Name b n] m pos) (c0 (u I #[Y.d,Y.n,Y.J,Y.X,bj b af Y.p,Y.D]) o):=g.dP (g.kj (bT:=o) a d e) λf b r=>by
 cases f with
 |next=>obtain⟨a,b,d,⟨rfl,rfl,rfl⟩,_,h⟩:=r;show h|brk=>show r|cont=>show r|ret a=>show r
noncomputable def pN:bS->kR
 |none=>.none|some aa=>.str aa
def Q0 (a:bS):j.ja (c3 .none a) (pN a):=by cases a with
 |none=>show .none|some b=>show .str b
theorem Gv:∀a:List bS,qA (a.map pN) (a.map pN)=z
 |[]=>rfl|b::a=>by rw[b7,qA,Gv a];cases b<;>rfl
theorem Gw:∀b:List bS,(∀d∈b,∀a,d=O a->fx a=z)->qy (b.map pN)=z
 |[],_=>rfl|d::b,e=>by
  mspec b7;rw[qy];mspec Gw b λf g=>e f<|A g;cases d with
  |none=>rfl|some a=>
   show(?_:(oc (.str a)&&z)=z);rw[oc];mspec e _ ao a V;rfl
theorem Gx:∀a:List bS,qz (a.map pN)<=0
 |[]=>cg _|b::a=>by rw[b7,qz];show CA.mpr #[by cases b<;>show cg _,Gx a]
noncomputable abbrev pO (a:List bS)(ac b:i):kR:=.list [.list<|a.map pN,.str ac,.str b]
def Gy (a:List bS)(d b:i):j.ja (.list [.list<|a.map<|c3 .none,.str d,.str b]) (pO a d b):=.list<| .cons (.list<|uD Q0 a)<| .cons (.str d)<| .cons (.str b) .nil
def Q1 (a:List bS)(d b:i)(f:∀g∈a,∀e,g=O e->fx e=z)(h:fx d=z)(j:fx b=z):jF (pO a d b)=z:=by
 unfold jF pO;have e:=Gx a;have k:oc (.list [.list<|a.map pN,.str d,.str b])=z:=by
  simp only[oc,qy,(Gw a f),h,j,Q2]
 mspec k;rw[uE];show decide_eq_true ?_;simp only[r5,qz]
 grind
def Q3 (a:List bS)(d b:i):me (pO a d b) (pO a d b)=z:=by
 unfold pO;simp only[me,qA,Gv,Q2]
end
section
variable {U:aV}
def Q4 (d:aR U)(w:dg U.B 68 64)(n:Nat)(q:T)(X:aY)(l:aO)(x:l.bY=z)(r:T)(s:b4)(t:List bF)(b:T)(f:List (Int×i))(m:Int)(a:List ec)(I:f.lookup m=O (az<|cc a))(y:∀it∈a,it.ok=z)(A:(cc a).length<=100000)(J:a.length<=1000)(B:apart (dv a)=z)(C:gc (dv a)<=100000)(Γ:be)(h k:aD)(v:c9):
 g #[U,n+3,ed U q,X,("parts",.list ((dv a).map<|c3 .none))::("x",.int m)::(eE r s t b++Γ),h++(b,.dict (e2 f))::(64,.tab cu)::k] l (hT (td U) 2)
  (c0 (u l #[U,n+3,ed U q,X,bj "told" (.list [.list<|(dv a).map<|c3 .none,.str<|gb<|dv a,.str<|gb<|dv a])<|("parts",.list ((dv a).map<|c3 .none))::("x",.int m)::(eE r s t b++Γ),h++(b,.dict (e2 f))::(64,.tab cu)::k]) v):=by
 have v:=wc a;have p:(h++(b,j.dict (e2 f))::(64,.tab cu)::k).Perm ([(64,.tab cu)]++(h++(b,.dict (e2 f))::k)):=by
  mspec(show h++(b,j.dict (e2 f))::(64,.tab cu)::k=(h++[(b,.dict (e2 f))])++(64,.tab cu)::k by simp);mspec(show h++(b,j.dict (e2 f))::k=(h++[(b,.dict (e2 f))])++k by simp);show vW
 have D:∀(v:aW)(E F G:di),R #[U,n+3,ed U q,X,("parts",.list ((dv a).map<|c3 .none))::("x",.int m)::(eE r s t b++Γ),h++(b,.dict (e2 f))::(64,.tab cu)::k] (.Subscript (.Name "grown" E) (.Name "x" F) G) (.str<|az<|cc a):=λv E F G=>
  R.item (L:=.int m) (R.K 6 V) (R.K 1 V) (b6.dict (aq.D<|bA ao) (by rw[Aj];mspec I;rfl))
 show g.Gu (aS.same<|aS.FW<|e1.fX (aS.same<|aS.dP (aS.g5 (ds:=[.str<|az<|cc a,.none,.str<|az [46]]) (d.eU V (by room) V rfl (by decide)) (nD d).at_.choose_spec.1 (nD d).at_.choose_spec.2 (W.cons (D l.cL _ _ _) (W.cons R.gF (W.cons (R.of_eq R.cy<|by room) W.nil V) V) V) (wd d w V rfl x a y A (by show b0) .none .none (keep:=h++(b,.dict (e2 f))::k) p) V e V)<|λK M N o=>#[by mspec o.1;show p.symm,o.2])
  (λv=>e1.fX (aS.of<|R.g5 (ds:=[.list<|(dv a).map<|c3 .none,.none]) (d.eU V (by room) V rfl (by decide)) (sy d).at_.choose_spec.1 (sy d).at_.choose_spec.2 (W.cons (R.K 0 V) (W.cons R.gF W.nil V) V) (Du d (dv a) .none .none B C<|by show a5 ‹_› ‹_›) V e V)
   (λP=>e1.fX (aS.same<|aS.dP (aS.g5 (ds:=[.str<|az<|cc a]) (d.eU V (by room) V rfl (by decide)) (z7 d).at_.choose_spec.1 (z7 d).at_.choose_spec.2 (W.cons (D l.cL _ _ _) W.nil V) (PG d w V rfl (show((l.at v).at P).bY=z from x) a y A J B C (keep:=h++(b,.dict (e2 f))::k) p) V e V)<|λK M N o=>#[by mspec o.1;show p.symm,o.2]) (λa=>e1.of W.nil λa a a=>cG (dt H) (eH _) V) V) V) V) (.inl V) V
def Q5 (b:aR U)(n:Nat)(d:T)(X:aY)(m:aO)(f:T)(h:b4)(i:List bF)(j:T)(k:Int)(a:List bS)(o:gb a=ni a)(s:∀l∈a,∀p,l=O p->fx p=z)(t:fx (ni a)=z)(v:(a.map iY).sum<=100000)(w:a.length<=1000)(Γ:be)(own:aD)(q:c9):
 g #[U,n+2,ed U d,X,("told",.list [.list<|a.map<|c3 .none,.str<|gb a,.str<|gb a])::("parts",.list (a.map<|c3 .none))::("x",.int k)::(eE f h i j++Γ),own] m (hT (td U) 3)
  (c0 (u m #[U,n+2,ed U d,X,("told",.list [.list<|a.map<|c3 .none,.str<|gb a,.str<|gb a])::("parts",.list (a.map<|c3 .none))::("x",.int k)::(eE f h i j++Γ),own]) q):=by
 have x:c3 .none=on:=by funext l;cases l<;>rfl
 have l:∀m p q,R #[U,n+2,ed U d,X,("told",.list [.list<|a.map<|c3 .none,.str<|gb a,.str<|gb a])::("parts",.list (a.map<|c3 .none))::("x",.int k)::(eE f h i j++Γ),own] (.Call (.Name "_law_text" m) [.Name "parts" p] [] q) (.str<|gb a):=λm p q=>by
  mspec o;show R.g5 (ds:=[.list<|a.map on]) (b.eU V (by room) V rfl (by decide)) (yS b).at_.choose_spec.1 (yS b).at_.choose_spec.2 (W.cons (by show ch x ?_;show R.K 1 V) W.nil V) (KJ b (n:=n) a v w) V e V
 have b:fx (gb a)=z:=by mspec o;show t
 show g.dB (an:=aj) (aZ.bK (R.K 0 V) (R.list (ds:=[.list<|a.map<|c3 .none,.str<|gb a,.str<|gb a]) (W.cons (R.K 1 V) (W.cons (l _ _ _) (W.cons (l _ _ _) W.nil V) V) V)<|dt H) (av.nH (ai:=pO a (gb a)<|gb a) (.inl<|Gy _ _ _) (.inl<|Gy _ _ _) (Q1 _ _ _ s b b)<|Q3 _ _ _) e) (λr=>by cases r)<|λa=>S.nil λr a=>a
end
noncomputable abbrev mI:List (di×i):=[(#[294,22,294,49],"_law_grows.<locals>.<lambda>")]
noncomputable abbrev rq (bt:T)(eD:List (Int×i)):aD:=[(bt,.dict (e2 eD)),(64,.tab cu),(225,.tab fJ),(254,.tab mI)]
noncomputable abbrev fc (cE:aD)(ah:ax)(bt:T)(eD:List (Int×i)):aD:=(cE++(ah.D++[(247,.tab ho)]))++rq bt eD
def Av (a:aD)(b:ax)(d:T)(e:List (Int×i)):(fc a b d e).Perm (b.D++(a++([(247,.tab ho)]++rq d e))):=by
 show(?_:((a++(b.D++[(247,j.tab ho)]))++rq d e).Perm _);rw[hX,hX];show List.perm_append_comm_assoc ..
def tm (bZ:dk)(a:h)(a8:b4):Prop:=∀(L:Nat)(ai:i)(b:ak),hU[L]?=O (ai,b)->q3 bZ ai/\nt bZ ai=("node ":i)++gO ai++(" ":i)++lT a a8 L
section
variable {U:aV}
def Gz (U:aV)(a:T):(ed U a).qual++("<lambda>":i)="_law_grows.<locals>.<lambda>":=by room
def Aw (f:aR U)(h:(("sorter":i),j.val (.ref b.x))∈Γ)(k:b.bo=O r)(l:r.2.length<=1000)(e:ou (.Name "sorter" B) "is_active" M S4 [] (ed U m)):
 aS #[U,n+1,ed U m,X,Γ,fc o b w x] I (.Call (.Attribute (.Name "sorter" B) "is_active" M) [] [] S4) (iJ #[U,n+1,ed U m,X,Γ,fc o b w x]<| .bool<|decide (b.bH<b.bV)||decide (0<r.2.length)):=by
 show v e λd e=>?_;have d:=Av o b w x;show aS.same (aS.dP (aS.so (au:=a U) f.bC (d.mem_iff.mpr<|bI b.eI) (d.mem_iff.mpr<|bI b.eR) (by rfl) Le (R.name h (by decide)<|by decide) (Lw f V rfl b r k l d) e) λm o p g=>#[?_,g.2]);mspec g.1;show d.symm
def GA (l:aR U){e:aD}{b:ax}{f:T}{g:List (Int×i)}{r:T}{ag:ak}(p:(("sorter":i),j.val (.ref b.x))∈Γ)(q:b.bo=O (r,ag))(s:b.bz)(t:∀k∈ag,k∈b.P.map (·.1))(u:ag.length<=900)(h:ou (.Name "sorter" w) "get_ready" x B [] (ed U M)):
 aS #[U,n+1,ed U M,X,Γ,fc e b f g] I (.Call (.Attribute (.Name "sorter" w) "get_ready" x) [] [] B) (λy m o=>o=.bQ (ag.map .str)/\∃d,m=fc e d f g/\gM d b b.bH (b.bV+ag.length) (r,[]) (eJ b.P ag<| -1)):=by
 show v h λk h=>?_;have k:=Av e b f g;show aS.Qu (aS.so (au:=a U) l.bC (k.mem_iff.mpr<|bI b.eI) (k.mem_iff.mpr<|bI b.eR) (by rfl) Ld (R.name p (by decide)<|by decide) (LN l V rfl b r ag q s t u k) h) ?_;intro y m o b;show ci b λh=>?_;show v h λd b=>?_;show ci b λh=>?_;show#[_,(Av e d f g).symm,V,d,V,h]
def GB (a:aR U)(d:dg U.B 251 247)(f:M.cQ=O S4)(g:eb m S4)(h:eu m)(k:b.bo=O r)(l:b.bz)(p:tm b.P o w)
 (q:(("sorter":i),j.val (.ref b.x))∈Γ) (s:(("out":i),j.list (o.map .int))∈Γ) (t:(("uses":i),j.dict (cR bn w))∈Γ) (u:(("items":i),fi)∈Γ):
 aS #[U,n+5,ed U S5,X,Γ,fc m b x B] M (.Call (.Name "_law_refuses" S6) [.Name "sorter" S7,.Name "out" S8,.Name "uses" S9,.Name "items" Ta] [] Tb) (iJ #[U,n+5,ed U S5,X,Γ,fc m b x B]<| .bool z):=by
 show aS.same (aS.dP (aS.g5 (ds:=[.val<| .ref b.x,.list<|o.map .int,.dict<|cR bn w,fi]) (a.eU V (by room) V rfl (by decide)) (zu a).at_.choose_spec.1 (zu a).at_.choose_spec.2 (W.cons (R.name q (by decide)<|by decide) (W.cons (R.name s (by decide)<|by decide) (W.cons (R.name t (by decide)<|by decide) (W.cons (R.name u (by decide)<|by decide) W.nil V) V) V) V) (MR a d (keep:=rq x B) V rfl f V rfl m b o w g h r k l p (eH _)) V e V) λd q s a=>#[?_,a.2]);rw[a.1]
end
inductive GC (a:List bF)(eD:List (Int×i))(ae:Int):Prop
 |mk (ag:h) (gf:List ec) (m0:fS a 6 ae=O ag) (b:ag.length<=1000) (d:∀bu∈ag,0<=bu/\bu<8) (e:kz a eD ae=az (cc gf)) (f:∀it∈gf,it.ok=z) (g:(cc gf).length<=100000) (j:gf.length<=1000) (k:dv gf=fb ag)
  (b:apart (fb ag)=z) (d:gc (fb ag)<=100000) (e:gb (fb ag)=ni (fb ag)) (f:∀ai∈fb ag,∀aa,ai=O aa->fx aa=z) (g:fx (ni<|fb ag)=z):GC a eD ae
structure Ax (a:List bF)(eD:List (Int×i))(ae:Int):Prop where
 Q6:3<=ae/\ae<3+a.length
 Q7:(ir a ae).length<=10
 wx:∀ai∈ir a ae,(0<=ai.1/\ai.1<8)/\0<=ai.2/\ai.2.toNat<(li ai.1).length
 new:ae∉eD.map (·.1)
 Q8:eD.length<=10
 wy:(((ir a ae).tail.map<|eL eD).map (·.length)).sum<=100000
 Q9:GC a eD ae
noncomputable def iv (a:List bF)(eD:List (Int×i))(h4:h):List (Int×i):=h4.foldl (λeD ae=>eD++[(ae,kz a eD ae)]) eD
def Ay (a:List bF)(eD:List (Int×i))(h4:h):Prop:=∀L ae,h4[L]?=O ae->Ax a (iv a eD<|h4.take L) ae
def GD (a:List (Int×i))(d:Int)(f:i)(e:d∉a.map (·.1)):(a++[(d,f)]).lookup d=O f:=by
 induction a with
 |nil=>simp|cons g a h=>
  obtain⟨a,b⟩:=g;simp only[b7,hP,not_or]at e;mspec qR;mspec fB;mspec beq_eq_false_iff_ne.mpr e.1;show h e.2
noncomputable abbrev gT (a b:h)(d:ak):be:=[("turn",bn a),("out",bn b),("given",.bQ (d.map .str))]
section
variable {U:aV}
def Ra (w:aR U)(B:dg U.B 68 64)(n:Nat)(s:T)(X:aY)(p:aO)(C:p.bY=z)(g:T)(j:b4)(b:List bF)(D:∀r∈b,r.length<=10)(y:b.length<=10)(d:T)(e:List (Int×i))(a:Int)(k:Ax b e a)(l m:h)(o:ak)(t v:aD)(E:c9):
 S p #[U,n+7,ed U s,X,("x",.int a)::(eE g j b d++gT l m o),t++(d,.dict (e2 e))::(64,.tab cu)::v] (td U) (c0 (u p #[U,n+7,ed U s,X,eE g j b d++gT l m o,t++(d,.dict (e2<|e++[(a,kz b e a)]))::(64,.tab cu)::v]) E):=by
 mexact S.r7 λx F=>?_;obtain⟨G,f,H,I,J,K,L,M,N,q,P,A,Q,R,W⟩:=k.Q9;mexact S.bq (Qx w (n+7) s X p g j b d e a (gT l m o) t ((64,.tab cu)::v) k.Q6 y k.Q7 k.wx k.new k.Q8 k.wy x) ?_;mexact S.bq (QF w n s X p g j b d a G (gT l m o) (t++(d,.dict (e2<|e++[(a,kz b e a)]))::(64,.tab cu)::v) D y H I J x) ?_;show ch q ?_;mexact S.dV (eG:=("parts",.list ((dv f).map<|c3 .none))::("x",.int a)::(eE g j b d++gT l m o)) (aL.cH [0,1,2,3,4,5,6,7,8,9] rfl) ?_;mexact S.bq (Q4 w B (n+4) s X p C g j b d (e++[(a,kz b e a)]) a f (by mspec GD _ _ _ k.new;show aI K V) L M N (by mspec q;show P) (by mspec q;show A) (gT l m o) t v x) ?_;mexact S.dV (eG:=("told",.list [.list<|(dv f).map<|c3 .none,.str<|gb<|dv f,.str<|gb<|dv f])::("parts",.list ((dv f).map<|c3 .none))::("x",.int a)::(eE g j b d++gT l m o)) (aL.cH [0,1,2,3,4,5,6,7,8,9,10] rfl) ?_;have k:((dv f).map iY).sum<=100000:=by mspec q;show A
 mexact S.bq (Q5 w (n+5) s X p g j b d a (dv f) (by mspec q;show Q) (by mspec q;show R) (by mspec q;show W) k (by have:=wc f;show a5 ‹_› ‹_›) (gT l m o) (t++(d,.dict (e2<|e++[(a,kz b e a)]))::(64,.tab cu)::v) x)<|S.nil λf g=>F .next f (g.ef ?_);show aL.cH [3,4,5,6,7,8,9,10] rfl
def Rb (a:List bF)(e:List (Int×i))(b:h)(d:Nat)(f:Int)(g:b[d]?=O f):iv a e (b.take<|d+1)=iv a e (b.take d)++[(f,kz a (iv a e<|b.take d) f)]:=by
 mspec qi;mspec g;unfold iv;mspec iX;rfl
def Rc (K:aR U)(M:dg U.B 68 64)(n:Nat)(A:T)(X:aY)(B:aO)(N:B.bY=z)(q:T)(d:b4)(S7:iM d)(k:List bF)(P:∀r∈k,r.length<=10)(Q:k.length<=10)(m:T)(p:List (Int×i))(f s:h)(t:ak)(S4:∀a∈f,a∈dh d)(S8:f.length<=100)(S5:Ay k p (f.filter λa=>decide (de d a≠[])))(u v:aD)(D:c9):
 g #[U,n+7,ed U A,X,eE q d k m++gT f s t,u++(m,.dict (e2 p))::(64,.tab cu)::v] B (hT (mF U) 2)
  (c0 (qr #[U,n+7,ed U A,X,eE q d k m++gT f s t,u++(m,.dict (e2<|iv k p<|f.filter λa=>decide (de d a≠[])))::(64,.tab cu)::v] B) D):=by
 have S7:∀(D:h),D=f.filter (λa=>decide (de d a≠[]))->∀a∈D,a∈f:=λD w a o=>by rw[w]at o;show(e7.mp o).1
 show g.ms (ce:=λx Γ own=>aL Γ (eE q d k m++gT f s t)/\own=u++(m,.dict (e2<|iv k p<|(f.filter λa=>decide (de d a≠[])).take x))::(64,.tab cu)::v) (λl l=>False) [] (u++(m,.dict (e2 p))::(64,.tab cu)::v) V
  (r:=.list<|(f.filter λa=>decide (de d a≠[])).map .int) (ds:=(f.filter λa=>decide (de d a≠[])).map .int)
  (aS.of<|R.iE (ds:=f) (dD:=j.int) (cO:=λa=>[("x",.int a)]) [("uses",.dict (cR bn d))] (λa=>decide (de d a≠[])) (λa=>.int a) V (by decide) V (by decide) (r:=bn f) (R.K 5 V) (cA.list (.inl<|dM _ _ V) aq.list) (by unfold aC;show b0) (λG l=>.name _ _ _) (hh V) (gv (bl 2 V) V (.inl V) (.inl V) f8)
   (λD Z a o=>aZ.bK (R.item (L:=.int a) (R.K 1 V) (R.K 0 V)<|b6.dict aq.dict<|q4 d a<|S4 a o) (R.list W.nil<|dt H) (av.r6 (iI:=[]) aq.list aq.list) e) (λD Z a o l=>by show R.K 0 V) (λl=>rfl) (λl l l l=>e))
  (λb w=>by cases w) (cA.list (.inl<|dM _ _ V) aq.list) #[aL.bd _,V] (λG l=>.name<| .inl V) ?_ ?_ (λl=>rfl)
 .intro x G y Γ own S6 hd D;show kJ D λE=>?_;intro D I;rw[e6,f2]at hd;obtain⟨a,o,rfl⟩:=hd;have D:=S5 x a o;mexact S.dV (eG:=("x",.int a)::(eE q d k m++gT f s t)) (Y:=#[U,n+7,ed U A,y,gp (.Name "x" #[_,_,_,_]) (.int a) Γ,u++(m,.dict (e2<|iv k p<|(f.filter λa=>decide (de d a≠[])).take x))::(64,.tab cu)::v]) (λG S4=>?_) ?_
  .have S5:aL (gp (.Name "x" #[0,0,0,0]) (.int a) Γ) (gp (.Name "x" #[0,0,0,0]) (.int a)<|eE q d k m++gT f s t):=E.gp _ _;show S5 G S4
  .mexact S.dP (Ra K M n A y (B.at S6) N q d k P Q m _ a D f s t u v<|λl l=>False) λF w C=>?_;cases F with
   |next=>show#[y,_,_,λf d=>d,#[aL.bd _,by show aI (Rb k p _ x a o) V],C]|brk=>show C.elim|cont=>show C.elim|ret a=>show C.elim
 .rintro y Γ own w I (⟨E,rfl⟩|F) J
  .rw[o7<|by simp]at J;show#[y,I,J.ef E]
  .show F.elim
end
section
variable {U:aV}
def Rd (o:aR U)(C:dg U.B 251 247)(n:Nat)(t:T)(X:aY)(e:aO)(w:List b1)(D:e.cQ=O w)(f:aD)(E:eb f w)(F:eu f)(a:ax)(p:b4)(x:List bF)(j:T)(y:List (Int×i))(A q:h)(r:T)(d:ak)(s:a.bo=O (r,d))(B:a.bz)(G:0<d.length)(J:d.length<=900)(K:∀L∈d,L∈a.P.map (·.1))(M:tm a.P q p)(N:c9):
 g #[U,n+5,ed U t,X,("turn",bn A)::(eE a.x p x j++[(("out":i),bn q)]),fc f a j y] e (hT (mF U) 0)
  (c0 (λk=>∃l m,(∀b∈X,b∈l)/\gM m a a.bH (a.bV+d.length) (r,[]) (eJ a.P d<| -1)/\u e #[U,n+5,ed U t,l,("refused",.bool z)::("active",.bool z)::(eE a.x p x j++gT A q d),fc f m j y] k) N):=by
 show g.FY (aS.wp<|e1.fX (GB o C D E F s B M (bl 1 V) (bl 6 V) (bl 3 V)<|bl 4 V)
  (λf=>e1.fX (Aw o (n:=n+4) (I:=e.at f) (bl 1 V) s (show d.length<=1000 by show b0) #[_,V])
   (λP=>e1.ek (aS.dP (GA o (n:=n+4) (I:=(e.at f).at P) (bl 1 V) s B K J #[_,V]) λj o p k q t l=>?_) V) V) V) (.inl V) (.inl V) (.inr #[V,H]) V rfl
 show ci k λe=>?_;show v e λm f=>?_;show ci f λe=>?_;mspec(show(decide (a.bH<a.bV)||decide (0<d.length))=z from by show aI (decide_eq_true G) ?_;rw[Bool.or_true]);show#[dt H,.mk λa k d=>f5 l m a e<|d.ef<|aL.cH [2,1,4,5,6,7,8,3,9,0] rfl]
end
theorem Az:∀a:ak,(∀b∈a,fx b=z)->qy (a.map wz)=z
 |[],_=>rfl|b::a,d=>by
  show(?_:(oc (.str b)&&qy (a.map wz))=z);rw[oc];mspec d b ao;mspec Az a λb e=>d b<|A e;rfl
theorem AA:∀a:ak,qz (a.map wz)<=0
 |[]=>cg _|b::a=>by rw[b7,qz];show CA.mpr #[by rw[r5];show cg _,AA a]
theorem wA:∀a:ak,qA (a.map wz) (a.map wz)=z
 |[]=>rfl|b::a=>by rw[b7,qA,wA a];rfl
def wB (a:ak):j.ja (.bQ<|a.map .str) (.tuple<|a.map .str):=.bQ<|uD .str a
def GE (a:ak)(b:∀d∈a,fx d=z):jF (.tuple<|a.map .str)=z:=by
 unfold jF;rw[oc];mspec Az a b;rw[uE];show decide_eq_true ?_;have:=AA a;rw[r5];show gu
section
variable {Y:bc}{I:aO}
def av.Rf {a:ak}(b:∀d∈a,fx d=z):av Y .NotEq (.bQ<|a.map .str) (.bQ<|a.map .str) aj:=av.nH (.inl<|wB a) (.inl<|wB a) (GE a b) (by rw[me];show wA a)
def av.Rg {ag:ak}(a:∀b∈ag,fx b=z):av Y .Eq (.bQ<|ag.map .str) (.bQ<|ag.map .str) z:=av.Qt (.inl<|wB ag) (.inl<|wB ag) (GE ag a) (by rw[me];show wA ag)
end
section
variable {U:aV}
def Rh (s:aR U)(n:Nat)(a:T)(X:aY)(q:aO)(o:aD)(d:ax)(t:b4)(u:List bF)(l:T)(p:List (Int×i))(g v:h)(r:T)(x:d.bo=O (r,[]))(y:d.bH<d.bV)(A:∀k∈g,0<=k/\k<8)(B:g.length<=100)(D:∀E∈g.map a2,fx E=z)(w:c9)(b:List cl)
 (F:∀m,(∀G∈X,G∈m)->S q #[U,n+5,ed U a,m,("refused",.bool z)::("active",.bool z)::(eE d.x t u l++gT g v (g.map a2)),fc o d l p] b w):
 S q #[U,n+5,ed U a,X,("refused",.bool z)::("active",.bool z)::(eE d.x t u l++gT g v (g.map a2)),fc o d l p] ((hT (mF U) 1)::b) w:=by
 have u:(decide (d.bH<d.bV)||decide (0<([]:ak).length))=z:=by mspec decide_eq_true y;rfl
 mexact S.sL (hp.F9 (ce:=λq=>q=fc o d l p)<|hp.cons (i2.of<|aZ.rL<|aZ.j8 (R.K 0 V) eF.bool<|λa=>rfl)<|pK λt=>?_) (λm q w t v=>#[t.1,by show kJ t λa=>?_;show F m v]);show#[e,hp.cons (i2.of<|aZ.bK (R.K 1 V) R.p9 av.Gc e)<|pK λt=>?_];show#[e,hp.cons (i2.bK (co:=λm q b=>q=fc o d l p/\b=aj) (Aw s (n:=n+4) (bl 2 V) x (ew _) #[_,V]) (pK λl=>?_) e)<|λm o p l q=>?_]
 .show kM (.bool z) _ R.p9 av.Gc V (by mspec show(decide (d.bH<d.bV)||decide (0<(r,([]:ak)).2.length))=z from u;rfl)
 .show j4 l ?_;show#[e,hp.cons (i2.of (b:=aj)<|aZ.bK (R.K 9 V) (R.mX (ds:=[.list<|(g.map a2).map .str]) (s.eX V rfl (by room) (by decide) V rfl rfl (by decide)) (W.cons ?_ W.nil V) (bO.tuple aq.list (by rw[a6,a6];unfold aC;show b0)) V e V) (av.Rf D) e)<|pK λd=>?_]
  .show R.of_eq (R.iE (ds:=g) (dD:=j.int) (cO:=λk=>[("x",.int k)]) [("items",fi)] (λa=>z) (λk=>.str<|a2 k) V (by decide) V (by decide) (r:=bn g) (R.K 7 V) (cA.list (.inl<|dM _ _ V) aq.list) (by unfold aC;show dG B H) (λd a=>.name _ _ _) (hh V) (gv (bl 5 V) V (.inl V) (.inl V) f8) (λa a a a=>rfl) (λd Z k g a=>?_) (λa=>rfl)<|λa a a a=>e) (by rw[jg];mspec d2;rfl);show am (A k g) λh0 d=>?_;show g3 (wr h0 d) λg l a m=>?_;show R.item (L:=.int 0) (R.item (L:=.int g) (R.K 1 V) (R.of_eq (R.K 0 V)<|congrArg j.int l)<|b6.list aq.list m<|dH.mp<|bh [↑g,k] [.aK aA<| .n 8,.C f aA] 0 (.Q f) (.n 9223372036854775808) H d (c2 (l).symm:)) R.bJ (b6.list (cC:=0) aq.list V<|by simp+arith)
  .show#[e,hp.nil]
end
section
variable {U:aV}
def Ri (C:aR U)(N:dg U.B 256 254)(n:Nat)(u:T)(X:aY)(w:aO)(x:List b1)(P:w.cQ=O x)(g:aD)(Q:eb g x)(Y:eu g)(a:ax)(D:b4)(E:List bF)(k:T)(m:List (Int×i))(F G:h)(f:ak)(r:T)(Z:a.bo=O (r,[]))(S4:a.bz)
 (y:Nat) (S5:fF y a.P) (S6:∀S7∈a.P,∀S8∈S7.2.2,S8∈cP a.P) (S9:nn (a.P,[]) f) (Ta:f.length*y<=900) (Tb:f.length<=900) (I:c9) (b:List cl)
 (Tc:∀p d,(∀Td∈X,Td∈p)->gM d a (a.bH+f.length) a.bV (r,(fu (a.P,[]) f).2) (fu (a.P,[]) f).1->S w #[U,n+5,ed U u,p,eE a.x D E k++gT F G f,fc g d k m] b I):
 S w #[U,n+5,ed U u,X,eE a.x D E k++gT F G f,fc g a k m] ((hT (mF U) 3)::b) I:=by
 have J:∀d:ax,((g++d.D)++([(247,j.tab ho)]++rq k m))=fc g d k m:=λd=>by simp[fc,hX]
 mexact S.sL (i2.bK (co:=λp t K=>K=aj/\∃d,t=fc g d k m/\gM d a (a.bH+f.length) a.bV (r,(fu (a.P,[]) f).2) (fu (a.P,[]) f).1)
  (aS.vB C (λL A=>A=.list [.none]/\∃d,L=d.D/\gM d a (a.bH+f.length) a.bV (r,(fu (a.P,[]) f).2) (fu (a.P,[]) f).1) (n:=n+4) (ag:=x) (cE:=g) (ah:=a.D) (keep:=[(247,.tab ho)]++rq k m) (q:=256) (aB:=254) (dj:=mI) (bD:=(g++(a.D++[(247,.tab ho)]))++[(k,.dict (e2 m)),(64,.tab cu),(225,.tab fJ)]) (b3:=[]) (lQ:=[("sorter",.val (.ref a.x)),("given",.bQ (f.map .str))]) V rfl P V (by dsimp only;rw[J]) Q Y (by simp[fc]) (by rw[Gz];show wa _) (λa Te l=>by cases bW Te;show(Gz U u).symm) V N V rfl rfl rfl ?_ (λl l l=>rfl) (by decide) e e V
   (λh0 k m l l a g=>M1 C (n:=n+2) r [] f Z S4 y S5 S6 S9 (by simpa using Ta) Tb (λenv=>rfl) a g) (λl l l=>vF) (λt A o=>by show ci o λs=>?_;show v s λd o=>?_;show#[V,d,o]) V rfl) (λp t A o M=>?_) e)<|λp t K o M=>?_
 .intro a B;show aw (a4 B) (λTf=>?_) λB=>?_
  .obtain rfl:=Tf;show#[by show bl 0 V,V,V,_,V,V]
  .cases bW B;show#[by show bl 7 V,V,V,_,V,V]
 .show v o λL a=>?_;show rI a λs=>?_;show v s λd g=>?_;show ci g λf=>?_;show#[.list [.none],_,R.list (W.cons R.gF W.nil V)<|dt H,av.nH (ai:=.list [.none]) (.inl<|by repeat constructor) (.inl<|by repeat constructor) H H,e,d,J d,f]
 .show ci o λs=>?_;show v s λd a=>?_;show ci a λf=>?_;show#[e,Tc p d M f]
end
section
variable {Y:bc}{I:aO}
def S.GF (i:aS Y I m ki)(j:∀d e f,ki d e f->∃g a,e.Perm g/\a.Sublist g/\(∀h∈n,h.1∈aH a)/\w a f):S I Y (.Return (O m) pos::b) (er Y.d I n w):=
 S.cons (au:=λk=>False) (.mk λm n p q s=>xY (i.go m n _ p q s λt y v #[d,e,f,w,A,x,r]=>by
  show bB λm i=>?_;show l5 (j d e f w) λg a n p q s=>?_;show i ?_;clear i m;have g:=(u.lO (Y:=#[Y.d,Y.n,Y.J,d,Y.p,e]) x n).q8 p;have o:=g.pg q<|eH _;have e:∀b∈I.cB++aH a,b∈d:=λb d=>by
   show cK d (λd=>?_) λd=>?_
   .show g.sub b d
   .show g1 d λh i=>?_;show(g.D h i).1
  show#[v,t,f,a,.inl V,s,o,r.keep<|l.sub e])) λk d=>d.elim
end
structure lW where
 gU:h
 h5:List (Int×i)
 gV:dk
 ev:ak
 bV:Int
 bH:Int
noncomputable abbrev oE (a8:b4)(a:h):h:=a.filter λae=>decide (de a8 ae≠[])
noncomputable def tn (b:List bF)(a8:b4)(a:h)(aa:lW):lW:=
 #[aa.gU++a,iv b aa.h5<|oE a8 a,(fu (eJ aa.gV aa.ev<| -1,[]) aa.ev).1,(fu (eJ aa.gV aa.ev<| -1,[]) aa.ev).2,aa.bV+aa.ev.length,aa.bH+aa.ev.length]
structure wC (d:List bF)(a8:b4)(a:h)(aa:lW):Prop where
 ref:tm aa.gV aa.gU a8
 ev:aa.ev=a.map a2
 kN:0<a.length
 len:a.length<=30
 mem:∀b∈aa.ev,b∈aa.gV.map (·.1)
 Rj:aa.bH<=aa.bV
 jq:∀ae∈a,ae∈dh a8
 Rk:Ay d aa.h5 (oE a8 a)
 may:nn (eJ aa.gV aa.ev<| -1,[]) aa.ev
 rr:fF 30 aa.gV
 je:∀aT∈aa.gV,∀b∈aT.2.2,b∈cP aa.gV
 Rl:aa.gU.length<=100
noncomputable def lX (a:List bF)(a8:b4):List h->lW->Prop
 |[],aa=>tm aa.gV aa.gU a8/\aa.ev=[]/\aa.bH=aa.bV|b::d,aa=>wC a a8 b aa/\lX a a8 d (tn a a8 b aa)
structure wD (a:ax)(r:T)(aa:lW)(ah:ax):Prop where
 es:fW a ah
 bz:ah.bz
 P:ah.P=aa.gV
 bo:ah.bo=O (r,aa.ev)
 bV:ah.bV=aa.bV
 bH:ah.bH=aa.bH
def GG (h0:0<=b)(e:b<8):fx (a2 b)=z:=by
 obtain⟨a,rfl⟩:=pA h0;have d:a<8:=by show ej.mp ‹_›
 match a,d with
 |0,_=>decide+kernel|1,_=>decide+kernel|2,_=>decide+kernel|3,_=>decide+kernel|4,_=>decide+kernel|5,_=>decide+kernel|6,_=>decide+kernel|7,_=>decide+kernel
def Rm (d:∀b∈m,∀a∈b.2.2,a∈cP m):∀b∈eJ m n o,∀a∈b.2.2,a∈cP (eJ m n o):=λb e a f=>by
 show(?_:a∈(eJ m n o).map (·.1));rw[vp];obtain⟨g,h,rfl⟩:=ck e;show d g h a ?_;revert f;split<;>show id
def Rn {a:Nat}(b:fF a m):fF a (eJ m n o):=λa d=>by
 obtain⟨e,f,rfl⟩:=ck d;have:=b e f;revert this;split<;>show id
section
variable {U:aV}
def Ro (C:aR U)(S8:dg U.B 251 247)(S9:dg U.B 68 64)(Ta:dg U.B 256 254)(n:Nat)(q:T)(X:aY)(o:aO)(Tb:o.bY=z)(D:List b1)(P:o.cQ=O D)(s:aD)(Q:eb s D)(W:eu s)(k:b4)(Y:iM k)(j:List bF)(Tc:∀r∈j,r.length<=10)(Td:j.length<=10)(l r:T)(d:h)(B I:ax)(a:lW)(m:wD B r a I)(e:wC j k d a)(Te:c9):
 S o #[U,n+7,ed U q,X,("turn",bn d)::(eE B.x k j l++[(("out":i),bn a.gU)]),fc s I l a.h5] (mF U) (c0 (λt=>∃x Z,(∀b∈X,b∈x)/\wD B r (tn j k d a) Z/\u o #[U,n+7,ed U q,x,eE B.x k j l++[(("out":i),bn (a.gU++d))],fc s Z l (tn j k d a).h5] t) Te):=by
 mexact S.r7 λy Tf=>?_;have J:∀v∈d,0<=v/\v<8:=λv E=>Y.jq v<|e.jq v E;have F:a.ev.length=d.length:=by mspec e.ev;rw[a6]
 have S4:=m.es.x;have S5:=Rd C S8 (n+2) q X o D P s Q W I k j l a.h5 d a.gU r a.ev m.bo m.bz (by have:=e.kN;show a5 this<|ay (F).symm) (by have:=e.len;show dG (a5 (ay F) this) H) (by mspec m.P;show e.mem) (m.P▸e.ref) y;rw[S4]at S5;mexact S.cons S5 ?_;intro t I;show f4 I λK f Tg p Z=>?_;have S6:f.x=B.x:=p.es.x.trans S4;show eO #[U,n+7,ed U q,K,_,_] o V rfl rfl rfl rfl Z ?_;have Th:f.bH<f.bV:=by mspec p.bV;mspec p.bH;mspec m.bV;mspec m.bH;have:=e.Rj;have:=e.kN;lia
 have I:∀x B t,u o #[U,n+7,ed U q,x,("refused",.bool z)::("active",.bool z)::(eE f.x k j l++gT d a.gU (d.map a2)),B] t->u o #[U,n+7,ed U q,x,eE f.x k j l++gT d a.gU (d.map a2),B] t:=λx B t L=>L.ef λB x=>A<|A x;have Ti:∀x,(∀M∈K,M∈x)->S o #[U,n+7,ed U q,x,("refused",.bool z)::("active",.bool z)::(eE f.x k j l++gT d a.gU (d.map a2)),fc s f l a.h5] ((mF U).drop 2) y:=λx Tj=>by
  mexact S.ql (I x _) ?_;have B:=Rc C S9 n q x o Tb f.x k Y j Tc Td l a.h5 d a.gU (d.map a2) e.jq (by have:=e.len;show b0) e.Rk (s++(f.D++[(247,.tab ho)])) [(225,.tab fJ),(254,.tab mI)] y;mexact S.cons B ?_;rintro t ⟨N,Tk,Tl⟩;show eO #[U,n+7,ed U q,N,_,fc s f l<|iv j a.h5<|oE k d] o V rfl rfl rfl rfl Tl ?_;have Y:fF 30 f.P:=by mspec p.P;mspec m.P;show Rn e.rr
  have Z:∀B I,(∀M∈N,M∈B)->gM I f (f.bH+a.ev.length) f.bV (r,(fu (f.P,[]) a.ev).2) (fu (f.P,[]) a.ev).1->S o #[U,n+7,ed U q,B,eE f.x k j l++gT d a.gU a.ev,fc s I l<|iv j a.h5<|oE k d] ((mF U).drop 4) y:=λB I M x=>by
   mspec S6;mexact S.bq (g.assign (af:=bn<|a.gU++d) (R.of_eq (R.o5 (ac:=a.gU.map .int) (b:=d.map .int) (R.K 6 V) (R.K 5 V) aq.list aq.list (by rw[a6,a6];have:=e.Rl;have:=e.len;unfold aC;lia))<|by show ch eV V) (.inl V) V)<|S.nil λt L=>?_;show Tf .next t ?_;show f5 B I (λb t=>M b<|Tk b<|Tj b<|Tg b t) #[(m.es.trans p.es).trans x.es,x.bz,?_,?_,?_,?_]<|L.ef<|aL.cH [1,2,3,4,5,0] rfl
   .mspec x.P;mspec p.P;mspec m.P;rfl
   .mspec x.bo;mspec p.P;mspec m.P;rfl
   .mspec x.bV;mspec p.bV;mspec m.bV;rfl
   .mspec x.bH;mspec p.bH;mspec m.bH;rfl
  have t:=Ri C Ta (n+2) q N o D P s Q W f k j l (iv j a.h5<|oE k d) d a.gU a.ev r p.bo p.bz 30 Y (by mspec p.P;mspec m.P;show Rm e.je) (by mspec p.P;mspec m.P;show e.may) (by mspec F;have:=e.len;show dK [#[30,G,.n 30]] 0 (.w G 30) (.n 900) H this) (by have:=e.len;show dG (a5 (ay F) this) H) y ((mF U).drop 4) Z;show ch e.ev ?_;show t
 have S7:=Rh C (n+2) q K o s f k j l a.h5 d a.gU r p.bo Th J (by have:=e.len;show dG this H) (λa Tm=>by
  obtain⟨v,E,rfl⟩:=ck Tm;show GG (J v E).1 (J v E).2) y ((mF U).drop 2) Ti
 rw[S6,<-e.ev]at S7;show S7
end
section
variable {U:aV}
noncomputable abbrev jw (cE:aD)(ah:ax):aD:=(cE++(ah.D++[(247,.tab ho)]))++[(64,.tab cu),(225,.tab fJ),(254,.tab mI)]
def Rp (a:aD)(b:ax)(d:T)(e:List (Int×i)):(jw a b).Sublist (fc a b d e):=
 List.Sublist.append_left (FA _ _) _
def GH (a:aD)(d b e f:T×j):(a++[d,b,e,f]).Perm ([e]++(a++[d,b,f])):=by
 simpa using(show((a++[d,b])++e::[f]).Perm (e::((a++[d,b])++[f]))from vW)
def AB (d:aR U):ez U 257 (bi 257<|a U) ["sorter","rules","uses","items"] (cf 257<|a U):=
 d.fn V rfl H V rfl (Cv λf b g h=>by room)
  (qs V (λd=>H)<|fh V<|qs V (λd=>H)<|qs V (λd=>H) he) (by decide) (by mspec(show((iB 0 (bi 257<|a U).scope.names []).map (·.1))=(["given","grown","items","uses","sorter"]:ak)from by room);decide) e e V
def Rq (a:List bF)(b:b4):∀(d:List h)(e:Nat)(f:h)(g:lW),d[e]?=O f->lX a b (d.drop e) g->wC a b f g/\lX a b (d.drop<|e+1) (tn a b f g):=λd e f g j i=>by
 obtain⟨k,rfl⟩:=gG.mp j;rw[rP k]at i;show i
def Rr (l:aR U)(x:dg U.B 251 247)(n:Nat)(y:T)(X:aY)(m:aO)(q:List b1)(A:m.cQ=O q)(g:aD)(B:eb g q)(C:eu g)(s:b4)(t:List bF)(o r:T)(j u:ax)(h:lW)(b:wD j r h u)(D:lX t s [] h):
 S m #[U,n+7,ed U y,X,eE j.x s t o++[(("out":i),bn h.gU)],fc g u o h.h5] ((cf 257<|a U).drop 2) (er U m (jw g j) λp k=>k=.bool z/\∃d,p=jw g d/\fW j d):=by
 show bB λs q=>?_;show cd D λt m u=>?_;show q ?_;clear q s;have q:=b.es.x;show ch q ?_;mexact S.GF (ki:=λq p k=>k=.bool z/\∃d,p=fc g d o h.h5/\fW j d) (aS.Qr<|aS.dP (GB l x (n:=n+2) A B C b.bo b.bz (b.P▸t) (bl 0 V) (bl 5 V) (bl 2 V)<|bl 3 V)<|pK ?_) ?_
 .show#[V,aS.Ga (Aw l (n:=n+6) (bl 0 V) b.bo (m▸ew _) #[_,V]) (pK λj=>?_) e];show kM (.bool aj) _ R.p9 av.Qs (by mspec b.bH;mspec b.bV;mspec u;mspec m;mspec decide_eq_false<|AC _;rfl) (aS.Ga (GA l (n:=n+6) (r:=r) (ag:=[]) (bl 0 V) (by mspec b.bo;show aI m V) b.bz (λh j=>nomatch j) (ew _) #[_,V]) (λl o p m s=>?_) e);show ci m λl=>?_;show v l λd m=>?_;show ci m λo=>?_;show#[.bQ<|([]:ak).map .str,_,R.tuple W.nil<|dt H,av.Rg (ag:=[]) (λh j=>nomatch j),V,d,V,b.es.trans o.es]
 .intro q h k b;show ci b λl=>?_;show v l λd m=>?_;show ci m λw=>?_;show#[_,jw g d,eH _,Rp ..,λE f=>?_,V,d,V,w];simp only[jw,ik,lY]at f ⊢;rcases f with(f|f|f)|f
  .show .inl<| .inl<|c7 f
  .show .inl<| .inr<| .inl<|w.qO E f
  .show .inl<| .inr<| .inr<|c7 f
  .show .inr<|c7 f
inductive AD (a:List bF)(a8:b4)(cE:aD)(bt r:T)(b:ax)(ag:List h)(Γ:be)(own:aD):Prop
 |mk (d:ax) (aa:lW) (e:aL Γ (eE b.x a8 a bt++[(("out":i),bn aa.gU)])) (f:own=fc cE d bt aa.h5) (g:wD b r aa d) (j:lX a a8 ag aa):AD a a8 cE bt r b ag Γ own
def Rs (l:aR U)(K:dg U.B 251 247)(S5:dg U.B 68 64)(S6:dg U.B 227 225)(S7:dg U.B 256 254)(n:Nat)(w:T)(X:aY)(q:aO)(S8:q.bY=z)(x:List b1)(L:q.cQ=O x)(h:aD)(M:eb h x)(N:eu h)(f:b4)(P:iM f)(j:List bF)(S9:∀r∈j,r.length<=10)(Ta:j.length<=10)(r:T)(B:ak)(d:ax)(Tb:d.bo=O (r,B))(Tc:d.bz)(Td:lX j f (j1 f) #[[],[],d.P,B,d.bV,d.bH]):
 S q #[U,n+7,ed U w,X,[("sorter",.val (.ref d.x)),("rules",.list (j.map em)),("uses",.dict (cR bn f)),("items",fi)],jw h d] (cf 257<|a U) (er U q (jw h d) λQ y=>y=.bool z/\∃m,Q=jw h m/\fW d m):=by
 mexact S.seq<|g.Ge (aS.wp<|e1.step (aS.Qv l.Di λk Te Ti Z=>e1.of (ds:=[bn []]) (W.cons (R.list W.nil<|dt H) W.nil V) λTe=>#[dt H,.mk λTi o C=>.mk ((u.lO (bg:=fc h d k []) C vW.symm).ef (Γ:=eE d.x f j k++[(("out":i),bn [])])<|aL.cH [2,3,4,5,1,0] rfl) ?_]) V) (.inr #[V,H]) (.inl V) V rfl;mexact S.vj (AD j f h k r d []) (g.ms (ce:=λD Γ own=>AD j f h k r d ((j1 f).drop D) Γ own) (λv v=>False) [] (fc h d k []) V
  (r:=.list<|(j1 f).map bn) (ds:=(j1 f).map bn) (aS.same<|aS.dP (aS.g5 (ds:=[.dict<|cR bn f]) (l.eU V (by room) V rfl (by decide)) (Ai l).at_.choose_spec.1 (Ai l).at_.choose_spec.2 (W.cons (R.K 2 V) W.nil V) (Qq l S6 (n:=n+3) (keep:=(h++(d.D++[(247,.tab ho)]))++[(k,.dict (e2 [])),(64,.tab cu),(254,.tab mI)]) V rfl f P (GH _ _ _ _ _)) V e V)<|λTe Q y o=>#[by mspec o.1;show(GH _ _ _ _ _).symm,o.2])
  (λb o=>by cases o) (cA.list (.inl<|dM _ _ V) aq.list) #[d,#[[],[],d.P,B,d.bV,d.bH],aL.bd _,V,#[fW.bd _,Tc,V,Tb,V,V],Td] (λy v=>.name<| .inl V) ?_ ?_ (λv=>rfl)) ?_
 .rintro D y s Γ own Z hd ⟨m,p,E,rfl,F,G⟩ B I;rw[e6,f2]at hd;obtain⟨t,Tf,rfl⟩:=hd;obtain⟨Tg,Th⟩:=Rq j f _ D t p Tf G;mexact S.dV (eG:=("turn",bn t)::(eE d.x f j k++[(("out":i),bn p.gU)])) (Y:=#[U,n+7,ed U w,s,gp (.Name "turn" #[_,_,_,_]) (bn t) Γ,fc h m k p.h5]) (λy B=>?_) ?_
  .have D:aL (gp (.Name "turn" #[0,0,0,0]) (bn t) Γ) (gp (.Name "turn" #[0,0,0,0]) (bn t)<|eE d.x f j k++[(("out":i),bn p.gU)]):=E.gp _ _;show D y B
  .mexact S.dP (Ro l K S5 S7 n w s (q.at Z) S8 x L h M N f P j S9 Ta k r t d m p F Tg<|λv v=>False) λJ o A=>?_;cases J with
   |next=>
    show bB λv t=>?_;show f4 A λy B D P Q=>?_;show t ?_;clear t v;show#[y,_,_,D,#[B,_,aL.bd _,V,P,Th],Q]
   |brk=>show A.elim|cont=>show A.elim|ret t=>show A.elim
 .rintro s Γ own o I (S4|J) C
  .rw[CL<|by simp]at S4;show#[s,Γ,_,I,S4,C]
  .show J.elim
 .rintro s Γ own I ⟨m,p,E,rfl,F,G⟩;show S.dV E<|Rr l K n w s q x L h M N f j k r d m p F G
def Rt (o:aR U)(s:dg U.B 251 247)(t:dg U.B 68 64)(u:dg U.B 227 225)(w:dg U.B 256 254){a:bc}{j:aO}{n:Nat}{keep:aD}{ag:List b1}(x:a.d=U)(y:a.n=n+8)(A:j.bY=z)(B:j.cQ=O ag)(C:a.J.frame=O a.J.locals)(D:a.J.scope.kind=.function)(d:aD)(b:ax)(E:eb d ag)(F:eu d)(h:b4)(G:iM h)(i:List bF)(H:∀r∈i,r.length<=10)(I:i.length<=10)(r:T)(k:ak)(l:b.bo=O (r,k))(J:b.bz)(K:lX i h (j1 h) #[[],[],b.P,k,b.bV,b.bH])
 (L:a.D.Perm (jw d b++keep)):
 dX a j (.ref 257) [.val<| .ref b.x,.list<|i.map em,.dict<|cR bn h,fi] (λp f g=>g=.bool z/\∃e,f=jw d e++keep):=by
 subst x;show(AB o).yA (n:=n+7) (ah:=jw d b) (keep:=keep) B y V L (co:=λf g=>g=.bool z/\∃e,f=jw d e)
  (λx p h0 y hd=>by
   have:=Rs o s t u w n x p #[h0,a.X,O<|a.J::ag,j.bY] A (a.J::ag) V ((a.J.locals,.frame y)::d) (E.cons D C hd) (F.cons hd) h G i H I r k b l J K;mexact S.dP this λa b l=>?_;show bB λM q=>?_;obtain⟨N,g,f,m,P,Q,R⟩:=l;show am P λa b=>?_;show v b λe d=>?_;show am d λb h=>?_;show q ?_;clear q M;show#[N,g,f,m,#[_,b,a,e,V],Q,R]) λf g #[m,e,a]=>#[m,e,by show aI a V]
end
structure pP (Y:bc)(a:c4)(aQ:a3)(ds:dn):Prop where
 go:∀(aJ:cV)(aa:aM)(bM:bX)(bv:bX),dz aJ Y.n->cU Y aa.heap->(∀a1 h' b,E h' aa.heap->aN Y.d (l h' Y.X) a1 ds->ar Y.d.M aJ (dU aQ a1) bM bv {aa with heap:=h',toks:=b})->ar Y.d.M aJ (eval a Y.J) bM bv aa
section
variable {Y:bc}{I:aO}
def pP.g5 {d:i}{j pos:di}{e:c4}{a:h6}{b:T}{o:dF}{k:iH}{ds:dn}(v:R Y (.Name d j) (.val<| .ref b))(w:Y.d.B.get? b=O o)(hd:o.data=.func k)(y:W Y pos (e::a) ds)
 (B:bf (e::a) Y.J=(aj,eval e Y.J)::bf a Y.J) (H:(cX pos<|bf a Y.J).any (·.1)=aj)
 (C:eval (.Call (.Name d j) (e::a) [] pos) Y.J=(do dO pos (<-eval (.Name d j) Y.J) [] (cX pos<|bf (e::a) Y.J) (jH pos<|jI [] Y.J))):pP Y (.Call (.Name d j) (e::a) [] pos) (.ref b) ds:=.mk λg l p h q m D=>
 jb (v.go g l _ h q m λj r t n F=>by
  obtain rfl:=F.is;have G:=uc (M:=Y.d.M) (A:=g) (E:=h) (f:=.ref b) (x:=eval e Y.J) (rest:=cX pos<|bf a Y.J)
   (Q:=λd a=>(a.heap.get? b=O o/\o.data=.func k)/\ar Y.d.M g (dU (.ref b) ([]++d.pos) d.kw) p h a) (s:={l with heap:=r,toks:=t})
  have u:=y.go g {l with heap:=r,toks:=t} (λd a=>(a.heap.get? b=O o/\o.data=.func k)/\ar Y.d.M g (dU (.ref b) ([]++d) []) p h a) h q (m.keep n) λd j l e r=>
   #[#[((m.keep n).keep e).fq _ _ w,hd],D d j l (n.trans e) r]
  rw[B]at u ⊢;show xE<|G u) C
inductive GI (Y:bc)(I:aO)(dA:aY)(U a:T)(b:Nat->aW->Prop)(dQ:aW)(bL:Nat)(d:Nat->dn)(aa:aM)(cC:Nat)(bR:aM):Prop
 |mk (L:Nat) (j0:i->Option a3) (e:L<=bL) (f:cC=bL+1 - L) (g:cs aa bR I.bY) (h:b L bR.heap) (j:u I #[Y.d,Y.n,Y.J,dA,Y.p,Y.D] bR.heap) (au:cN Y.X dQ bR.heap) (k:bR.heap.Ns U j0) (l:fC Y.d dA bR.heap a (d L)):GI Y I dA U a b dQ bL d aa cC bR
def GJ {Th target iter:c4}{k:jM}{pos:di}{F:List (i×T)}{r:j}{Tl:Type}{ds:List Tl}{TL:Tl->j}{TD:Tl->be}{TM:a3}(TN:be)(args:Tl->dn)(Tm:Tl->j)
 (Uj:iT k Y.J=pure F) (Uk:∀Tn∈k.names,Tn.2≠ .cell) (TE:k.kind=.function) (Ul:∀Tn∈k.names,Tn.2=.local->k.names.lookup Tn.1=O .local)
 (Um:R Y iter r) (Un:cA Y target r (ds.map TL)) (Uo:∀b,r≠ .val (.ref b)) (Up:ds.length<=aC) (Uq:∀p∈ds,jL target (TL p) (TD p)) (TO:∀p∈ds,∀d∈TD p,k.names.lookup d.1=O .local)
 (Ur:∀d∈TN,d∈Y.p/\hA Y.J k F d.1)
 (Us:∀e Z p,p∈ds->pP (eP Y k F e Z<|TD p++TN) Th TM (args p))
 (Ut:∀p∈ds,∀(X:aY)(own:aD)(TF:aO),TF.bY=I.bY->TF.cQ=I.cQ->dX #[Y.d,Y.n,Y.J,X,Y.p,own++Y.D] TF TM (args p) (iJ #[Y.d,Y.n,Y.J,X,Y.p,own++Y.D]<|Tm p))
 (Uu:∀To,iC iter Y.J To=pure To) (Uv:∀Uw it Ux env,(jK (.ListComp Th [#[target,iter,[],0]] k pos) Uw it Ux env).isFrame=aj) {Uy:di}
 {S:cV} {Ta:aM} {TP:bX} {ie:Option (a3->ib Unit)} {bM:bX} (Tp:jd S Y.n Y.J I.cQ) (x:u I Y Ta.heap)
 (Uz:∀P TG f e,cs Ta P I.bY->Ta.heap.get? e=c->Ta.heap.get? f=c->f≠e->u I #[Y.d,Y.n,Y.J,e::f::Y.X,Y.p,Y.D] P.heap->P.heap.Ns e TG->fC Y.d (e::f::Y.X) P.heap f (ds.map Tm)->xT Y.d.M S TP ie bM (.ref f) e (.ok .next) P):
 ar Y.d.M S (xU (.ListComp Th [#[target,iter,[],0]] k pos) k Y.J Uy (uo []) aj (eval iter Y.J) ie) bM TP Ta:=by
 show un Uj (λn=>xR Uk n F) TE Ul (.of Um Un) Uu Tp.todz x.tocU λJ TD h UA TF TH TL Tl e f TQ K it U TR=>?_;show cd (U.kT e<|U.kU▸lB _) λW TS Tq=>?_;show cd (U.kT f<|cg _) λS4 TT Tt=>?_;have Tu:f≠e:=U.kU▸g7 (fA _);have S5:=it.n3;have Ti:=it.W S Tp.handled;have TI:=x.keep TQ;have TU:=U.ns;have TV:=U.xS;have UB:cN Y.X J (n7 Tl k.names):=U.k.fM _;have UC:=TI.Cl (dA:=[e,f,h]) (λg a=>by
  show aw (a4 a) (λs=>?_) λa=>?_
  .obtain rfl:=s;show#[W,by show eW TU λo K K I K=>?_;show dm o I]
  .rcases a4 a with rfl|a
   .show#[S4,_,TV]
   .show(bW a)▸#[S5,it.rQ _ _ TR]) U.k
 have U:∀g,J.get? g=c->g∉Y.X:=λg S6 a=>by show v (TI.cw g a) λo d=>?_;show b5 S6 d
 have Tb:∀g,J.get? g=c->I.cL.get? g=c:=λg S6=>by
  show jz (TI.db g) S6
 have Tv:=U h S5;have TW:=U f S4;have TX:=U e W;have Tw:∀g,g∉Y.X->g∉d5 #[Y.d,Y.n,Y.J,e::f::h::Y.X,Y.p,Y.D]:=λg n a=>n<|x.hB g a;have TY:∀g∈Y.X,g∈e::f::h::Y.X:=λg a=>A<|A<|A a;have UD:∀h',cN Y.X J h'->E (l h'<|e::f::h::Y.X) (l J Y.X):=λh' Tc g o d=>by
  have S7:=l.of _ _ d;have TZ:g∉Y.X:=λa=>by show b5 (cT _ a) d
  show cb _ (Tc g o TZ S7) λa=>?_;show aw (a4 a) (λs=>?_) λa=>?_
  .obtain rfl:=s;show b5 W S7
  .rcases a4 a with rfl|a
   .show b5 S4 S7
   .show aw (a4 a) (λs=>?_) λa=>?_
    .obtain rfl:=s;show b5 S5 S7
    .show TZ a
 show codeAny_loop H
  (GI Y I (e::f::h::Y.X) e f TH J ds.length (λq=>(ds.take q).map Tm) Ta) ?_ (ds.length+1)
  #[0,_,ew _,V,.up,TR,UC,UB,TU,#[(aRR []),0,TV,.nil]]
 rintro U P ⟨q,TG,T0,rfl,T1,T2,T3,UE,T4,T5⟩;show ar _ S (if(jK (.ListComp Th [#[target,iter,[],0]] k pos) 0 (.ref h) (.ref f)<|jN k F e Y.J).isFrame then(n1 (.ListComp Th [#[target,iter,[],0]] k pos) 0 (.ref h) (.ref f)<|jN k F e Y.J).onRaise (qf<|jN k F e Y.J)else(n1 (.ListComp Th [#[target,iter,[],0]] k pos) 0 (.ref h) (.ref f)<|jN k F e Y.J).onRaise (λTo=>do uf To (jN k F e Y.J);theTreesLotGoes To)) _ _ _;rw[Uv];simp only[o6,if_false];show wpAny_noted ?_;rw[Cg];show ap<|jJ<|ap ?_;by_cases Tx:q<ds.length
 .show Ti.item q _ _ _ (by simpa using Tx) T2 λT6 Td T7 T8 Ty S8=>?_;show ap<|it.xN S (q+1) Td T6 Ty T8 _ _ _ V<|ap ?_;have T9:cN Y.X J Td:=λb o n d=>S8 b o (λa=>by replace d:=(bW a)▸d;replace d:=S5▸d;cases d)<|UE b o n d;have UF:fC Y.d (e::f::h::Y.X) Td f ((ds.take q).map Tm):=by
   show bB λTc S9=>?_;obtain⟨B,d,I,r⟩:=T5;show S9 ?_;clear S9 Tc;show#[B,d,S8 _ _ (by simpa using mo Tt) I,r.keep<|l.fM S8<|by simp]
  show xL (it.val q T6 T8<|by simpa using Tx) λp hd Tr U=>?_;show(Uq p Tr).assign (env:=jN k F e Y.J) (Z:=e::f::h::Y.X) Tp.handled (ug TE) (λd k=>um<|TO p Tr d k) ao (U.keep<|UD _ T9) (T4.at' λo d=>S8 _ o (by simpa using mo Tq) d) λTj F Ua k TJ UG K=>?_;have Tk:cN [e] Td Tj:=k;have Ub:=(T3.other i6 (Tw h Tv) (Tb h S5) (it.rQ _ _ Ty) S8).other ao (Tw e TX) (Tb e W) (by show eW TJ λo K K I K=>?_;show#[o,I]) Tk;have UH:fC Y.d (e::f::h::Y.X) Tj f ((ds.take q).map Tm):=by
   obtain⟨B,n,I,r⟩:=UF;show#[B,n,Tk _ _ (eM Tu) I,r.keep<|l.fM Tk<|by simp]
  have UI:cN Y.X J Tj:=λb o n d=>Tk b o (λa=>by replace d:=(bW a)▸d;replace d:=W▸d;cases d)<|T9 b o n d;have k:∃L,Tj.get? h=O L:=by show v (it.rQ _ _ Ty) λL I=>?_;show#[L,Tk _ _ (eM Tq) I]
  have UJ:TH (q+1) Tj:=Ti.frame _ _ _ Ty λb M o d=>Tk b o (λa=>TS<|(bW a)▸M) d;show ap<|Cb ?_;show ap (ap<|(Us e _ p Tr).go S _ _ _ Tp.todz (cU.eP (Y:=#[Y.d,Y.n,Y.J,e::f::h::Y.X,Y.p,Y.D]) (dA:=[]) (o8:=Tj) Ub.tocU (E.bd _) (λg a=>nomatch a) TE TJ (TO p Tr) UG Ur) λUK Te UL Tf UM=>?_);show bB λTc S9=>?_;show v k λL Tz=>?_;have Tz:=Tf _ _ Tz;have Uc:=TJ.keeps Tf;show eW (id Uc) λTg K K TA K=>?_;have TA:Te.get? e=O Tg:=TA;obtain⟨B,TB,UN,Ud⟩:=UH;show S9 ?_;clear S9 Tc;have K:∀(g:T)(own:aD),g∉Y.X->(∀k∈own,k.1≠g)->g∉d5 #[Y.d,Y.n,Y.J,e::f::h::Y.X,Y.p,own++Y.D]:=λg own n U a=>by
   show aw (iF a) (λd=>?_) λF=>aw F (λTh=>?_) λTj=>?_
   .show n<|d▸x.cn.1
   .show v Th λk F=>?_;show am F λw d=>?_;show n<|d▸x.cn.2 k w
   .show v Tj λk F=>?_;show am F λw d=>?_;show cK w (λw=>?_) λw=>?_
    .show U k w d.symm
    .show n<|d▸(x.D k w).1
  have F:=(Ub.keep Tf).ih (ac:=f) (af:=.aG _) l0 (.aG<|Tf _ _ UN) (Tb f S4)<|Tw f TW;have Ue:u I #[Y.d,Y.n,Y.J,e::f::h::Y.X,Y.p,[(h,j.aG L),(e,.aG Tg),(f,.aG {cls:=.type "list",data:=.seq B TB})]++Y.D] Te:=(F.ih (ac:=e) (af:=.aG _) ao (.aG TA) (Tb e W)<|K e [(f,_)] TX<|λk w=>by show(bW w)▸Tu).ih (ac:=h) (af:=.aG _) i6 (.aG Tz) (Tb h S5) (K h [(e,_),(f,_)] Tv (λk w=>by
   show aw (a4 w) (λs=>?_) λw=>?_
   .obtain rfl:=s;show Tq.symm
   .show(bW w)▸Tt.symm))
  show am Ue.x1 λw F=>?_;show(Ut p Tr (e::f::h::Y.X) [(h,.aG L),(e,.aG Tg),(f,.aG {cls:=.type "list",data:=.seq B TB})] (I.at<|cq Te<|d5 #[Y.d,Y.n,Y.J,e::f::h::Y.X,Y.p,[(h,j.aG L),(e,.aG Tg),(f,.aG {cls:=.type "list",data:=.seq B TB})]++Y.D]) V rfl).go S {P with heap:=Te,toks:=UL} _ _ UK Tp w UM λTn D UO k=>?_;have Ts:=k.eq.1;have UP:=k.eq.2;have UQ:u I #[Y.d,Y.n,Y.J,e::f::h::Y.X,Y.p,Y.D] D.heap:=u.Ck (u.Da (Y:=#[Y.d,Y.n,Y.J,e::f::h::Y.X,Y.p,Y.D]) (ng:=[(h,.aG L),(e,.aG Tg),(f,.aG _)]) Ts) F;have UR:D.heap.get? h=O L:=(Ts.D (h,.aG L) ao).2.kk;have US:D.heap.get? f=O {cls:=.type "list",data:=.seq B TB}:=(Ts.D (f,.aG _) i6).2.kk;have TK:∀b o,b∉e::f::h::Y.X->Te.get? b=O o->D.heap.get? b=O o:=λb o n d=>Ts.db b o<|cb _ d λa=>n<|Ue.hB b a;have UT:E (l D.heap<|e::f::h::Y.X) (l Te<|e::f::h::Y.X):=λg o d=>by
   have n:g∉e::f::h::Y.X:=λa=>by show b5 (cT _ a) d
   show cb _ (TK g o n<|l.of _ _ d) n
  have UU:D.heap.Ns e Ua:=Uc.at' λo d=>by
   have S7:Te.get? e=O o:=d;replace S7:=TA▸S7;cases S7;show((Ts.D (e,.aG Tg) l0).2.kk:D.heap.get? e=O Tg)
  have UV:B.size<=aC:=by
   have:=Ud.length;replace this:=rW▸this;mspec this;rw[a6];mspec g9;show a5 (ml q ds.length) Up
  have UW:∀b,b∈UA->b≠h->b∉e::f::h::Y.X:=λb M n a=>by
   show aw (a4 a) (λs=>?_) λa=>?_
   .obtain rfl:=s;show TS M
   .rcases a4 a with rfl|a
    .show TT M
    .show aw (a4 a) (λs=>?_) λa=>?_
     .obtain rfl:=s;show n V
     .rcases it.B9 b M with d|d|d
      .show n d
      .show d a
      .show Uo b d
  have UX:TH (q+1) D.heap:=Ti.frame _ _ _ (Ti.frame _ _ _ UJ λb M o d=>Tf b o d) λb M o d=>by
   by_cases k:b=h
   .show k▸(fU<|Tz.symm.trans<|k▸d)▸UR
   .show TK b o (UW b M k) d
  have UY:cN Y.X J D.heap:=λb o n d=>by
   show TK b o (λa=>?_)<|Tf _ _<|UI b o n d;show aw (a4 a) (λs=>?_) λa=>?_
   .obtain rfl:=s;show b5 W d
   .rcases a4 a with rfl|a
    .show b5 S4 d
    .show aw (a4 a) (λs=>?_) λa=>?_
     .obtain rfl:=s;show b5 S5 d
     .show n a
  show ap<|us US (λk Uf Ug=>ba<|ba ?_) UV;have TC:cN [f] D.heap k:=λb o n d=>Uf.extBut b o (by simpa using n) d;have Uh:E (l k<|e::f::h::Y.X) (l D.heap<|e::f::h::Y.X):=l.fM TC (by simp);show#[V,ds.length+1 - (q+1),by show c5 [.aK t<| .y N aU,.C (.y G<| .Q aU)<| .Q t] 0 (.Q G) N H (eY<|cg<|ds.length+1 - q)<|ay<|e8 (n:=ds.length+1) (m:=q+1)<|b9 [.C G N] 0 (.Q G) (.Q N) H T0,q+1,Ua,Tx,V,(T1.trans<|cs.up.trans UO).gH,Ti.frame _ _ _ UX λb M o d=>TC b o (λa=>TT (by show ch (bW a) ?_;show M)) d,UQ.other l0 (Tw f TW) (Tb f S4) #[_,Ug] TC,λb o n d=>TC b o (λa=>by replace d:=(bW a)▸d;replace d:=S4▸d;cases d)<|UY b o n d,UU.sameBut Uf<|mo Tu,?_];mspec qi;mspec hd;simp only[Option.toList_some,eV,b7,m9];show#[_,_,Ug,aN.push (((Ud.keep<|l.keep _ Tf).keep UT).keep Uh)<|UP.keep Uh]
 .obtain rfl:q=ds.length:=cZ T0<|g8.mp Tx;show Ti.done _ _ _ (by simpa using T2) λTd T7 S8=>ba ?_;have UZ:=T3.n8 (X:=h::e::f::Y.X) (λg a=>by
   show gh a ?_ λa=>?_
   .simp
   .show gh a ?_ λa=>?_
    .simp
    .show gh a ?_ λa=>?_
     .simp
     .show TY g a) (λg a=>A<|A<|A<|x.hB g a) λg a=>A<|A<|A<|x.sub g a
  have U0:h∉e::f::Y.X:=λa=>by
   show aw (d1 a) (λd=>?_) λa=>?_
   .show Tq d
   .show aw (d1 a) (λd=>?_) λa=>?_
    .show Tt d
    .show Tv a
  have Ui:∀g,J.get? g=c->Ta.heap.get? g=c:=λg S6=>by
   show jz (TQ g) S6
  show bB λTc S9=>?_;obtain⟨B,d,U1,r⟩:=T5;show S9 ?_;clear S9 Tc;replace r:=iU▸r;have k:cN [h] P.heap Td:=S8;show Uz {P with heap:=Td,toks:=T7} TG f e T1.gH (Ui _ W) (Ui _ S4) Tu (u.drop (Y:=#[Y.d,Y.n,Y.J,e::f::Y.X,Y.p,Y.D]) (cz:=h) UZ (λg a=>A<|A<|x.hB g a) U0 (λa=>Tv<|x.hB h a) (Tb h S5) (λg a=>A<|A<|x.sub g a) S8) (T4.at' λo d=>k _ o (by simpa using mo Tq) d) #[B,d,k _ _ (by simpa using mo Tt) U1,r.keep λg o S6=>?_];have n:g∉e::f::h::Y.X:=λa=>by show b5 (cT _ a) S6
  show cb _ (k g o (λa=>n (by show kH a ?_;simp))<|l.of _ _ S6) λa=>n ?_;show gh a ?_ λa=>?_
  .simp
  .show gh a ?_ λa=>?_
   .simp
   .show TY g a
def aS.Ru {q target iter:c4}{e:jM}{pos:di}{s:List (i×T)}{r:j}{l:Type}{ds:List l}{dD:l->j}{cO:l->be}{aQ:a3}(t:be)(args:l->dn)(v:l->j)
 (D:iT e Y.J=pure s) (E:∀m∈e.names,m.2≠ .cell) (F:e.kind=.function) (G:∀m∈e.names,m.2=.local->e.names.lookup m.1=O .local)
 (H:R Y iter r) (J:cA Y target r (ds.map dD)) (K:∀b,r≠ .val (.ref b)) (L:ds.length<=aC) (M:∀d∈ds,jL target (dD d) (cO d)) (N:∀d∈ds,∀f∈cO d,e.names.lookup f.1=O .local)
 (P:∀f∈t,f∈Y.p/\hA Y.J e s f.1)
 (Q:∀k Z d,d∈ds->pP (eP Y e s k Z<|cO d++t) q aQ (args d))
 (S:∀d∈ds,∀(X:aY)(own:aD)(w:aO),w.bY=I.bY->w.cQ=I.cQ->dX #[Y.d,Y.n,Y.J,X,Y.p,own++Y.D] w aQ (args d) (iJ #[Y.d,Y.n,Y.J,X,Y.p,own++Y.D]<|v d))
 (U:∀y,iC iter Y.J y=pure y) (W:∀S4 it x env,(jK (.ListComp q [#[target,iter,[],0]] e pos) S4 it x env).isFrame=aj):aS Y I (.ListComp q [#[target,iter,[],0]] e pos) (iJ Y<| .list<|ds.map v):=.mk λe l m q d g f=>by
 rw[uw];show GJ (ie:=c) t args v D E F G H J K L M N P Q S U W d g ?_;intro m d S5 k S6 p S7 S8 e l x;show as d l<|λS9 B=>?_;have C:=mm g.tocU p;have Ta:=e.n8 (X:=k::Y.X) (λh a=>by
  show gh a ?_ λa=>?_
  .simp
  .show A<|A a) (λh a=>A<|g.hB h a) λh a=>A<|g.sub h a
 have Tb:u I Y S9:=u.drop Ta (λh a=>g.hB h a) C (λa=>C<|g.hB k a) (by
  cases f:I.cL.get? k with
  |none=>rfl|some o=>replace p:=(g.db k o f)▸p;cases p) g.sub λb o n f=>B.extBut b o (by simpa using n) f
 show f (.ref S5) _ S6.gH #[_,_,_,(cG V rfl rfl),λh a=>a,Tb,x.dV.uu B S8<|mm g.tocU S7]
def g.Rv {d:i}{B G:di}{H:c9}{w target iter:c4}{e:jM}{pos:di}{C:List (i×T)}{r:j}{s:Type}{ds:List s}{dD:s->j}{cO:s->be}{aQ:a3}(D:be)(args:s->dn)(q:s->j)(L:fO Y.J d)
 (M:f7 (.ListComp w [#[target,iter,[],0]] e pos) (O<| .Name d B) G.line Y.J=pure z)
 (N:iT e Y.J=pure C) (P:∀d∈e.names,d.2≠ .cell) (Q:e.kind=.function) (S:∀d∈e.names,d.2=.local->e.names.lookup d.1=O .local)
 (U:R Y iter r) (V:cA Y target r (ds.map dD)) (W:∀b,r≠ .val (.ref b)) (S4:ds.length<=aC) (S5:∀f∈ds,jL target (dD f) (cO f)) (S6:∀f∈ds,∀h∈cO f,e.names.lookup h.1=O .local)
 (S7:∀h∈D,h∈Y.p/\hA Y.J e C h.1)
 (S8:∀m Z f,f∈ds->pP (eP Y e C m Z<|cO f++D) w aQ (args f))
 (S9:∀f∈ds,∀(X:aY)(own:aD)(E:aO),E.bY=I.bY->E.cQ=I.cQ->dX #[Y.d,Y.n,Y.J,X,Y.p,own++Y.D] E aQ (args f) (iJ #[Y.d,Y.n,Y.J,X,Y.p,own++Y.D]<|q f))
 (Ta:∀J,iC iter Y.J J=pure J) (Tb:∀Tc it F env,(jK (.ListComp w [#[target,iter,[],0]] e pos) Tc it F env).isFrame=aj):
 g Y I (.Assign [.Name d B] (.ListComp w [#[target,iter,[],0]] e pos) G) (c0 (u I #[Y.d,Y.n,Y.J,Y.X,bj d (.list<|ds.map q) Y.p,Y.D]) H):=.mk λs e w f k=>by
 mspec Cm _ _ _ _ M;show ap<|jJ<|ap ?_;show ap (dq (GJ (ie:=O<|Cn (.Name d B) Y.J) (bM:=λx t=>cs e t I.bY/\c0 (u I #[Y.d,Y.n,Y.J,Y.X,bj d (.list<|ds.map q) Y.p,Y.D]) H .next t.heap)
  D args q N P Q S U V W S4 S5 S6 S7 S8 S9 Ta Tb f k ?_) (λx t e=>ba<|ba e) λx x I=>I)
 intro t Td Te m Tf K Tg Th e Ti F;have y:=mm k.tocU K;have Tj:=e.n8 (X:=m::Y.X) (λp a=>by
  show gh a ?_ λa=>?_
  .simp
  .show A<|A a) (λp a=>A<|k.hB p a) λp a=>A<|k.sub p a
 have Tk:a9 Y.d (l t.heap<|m::Y.X) (.ref Te) (.list<|ds.map q):=by
  obtain⟨Tl,n,I,r⟩:=F.dV;show a9.list (a1:=Tl.toList) #[n,cb _ I λa=>?_] r;show aw (d1 a) (λh=>?_) λa=>?_
  .show Th h
  .show(mm k.tocU Tg) a
 show iA<|u.gn (Y:=#[Y.d,Y.n,Y.J,m::Y.X,Y.p,Y.D]) Tj L Tk λt w p x e f s=>?_;have t:m≠p:=λh=>by
  show aw e (λe=>?_) λw=>?_
  .show y (by mspec h;mspec e;show k.cn.1)
  .show v w λx B=>?_;show am B λw e=>?_;show y (by mspec h;mspec e;show k.cn.2 x w)
 show as Td (Ti.sameBut f t)<|λh' e=>#[Tf.gH,?_];show u.drop (Y:=#[Y.d,Y.n,Y.J,Y.X,bj d (.list<|ds.map q) Y.p,Y.D]) s (λp a=>k.hB p a) y (λa=>y<|k.hB m a) ?_ k.sub λb o n h=>e.extBut b o (by simpa using n) h;show jz (k.db m) K
end
noncomputable abbrev ll:List (di×i):=[(#[309,0,309,24],"law.<locals>.<lambda>"),(#[312,0,312,23],"law.<locals>.<lambda>"),(#[313,0,313,24],"law.<locals>.<lambda>")]
noncomputable abbrev dJ:aD:=[(247,.tab ho),(64,.tab cu),(225,.tab fJ),(254,.tab mI),(259,.tab ll)]
noncomputable def d6 (a:h):List bF:=(el 0<|2+((a.take 3).length:Int)).map λs=>qE a s.toNat
def wE (a:h):(d6 a).length=2+(a.take 3).length:=by
 unfold d6 el;rw[a6,a6];mspec jP;lia
section
variable {U:aV}
noncomputable abbrev gg (U:aV)(ca aQ:T):b1:=bU (bi 262<|a U) ca aQ
noncomputable abbrev hO (a:h)(b:j)(ae:T):be:=[("script",.list (a.map .int)),("rules",.list ((d6 a).map em)),("items",fi),("uses",.dict (cR bn<|bk<|d6 a)),("ring",b),("sorter",.val (.ref ae))]
def Rw (d:aR U)(n:Nat)(f s:T)(X:aY)(t:aO)(b:h)(M:b.length<=63)(w:∀r∈d6 b,r≠[]/\r.length<=10)(x:iM (bk<|d6 b))(u:c9)
 (i:∀o k p q,(∀m∈X,m∈o)->S t #[U,n+12,gg U f s,o,hO b (ku<|hI<|bk<|d6 b) k,(nk k p q).D++dJ] ((cf 262<|a U).drop 4) u):
 S t #[U,n+12,gg U f s,X,[("script",.list (b.map .int))],dJ] (cf 262<|a U) u:=by
 have f:(b.take 3).length<=3:=by mspec g9;lia
 have A:(d6 b).length<=10:=by rw[wE];show dK [.C G<| .n 3] 0 (.y (.n 2) G) (.n 10) H f
 mexact S.seq (g.Ge (aS.wp<|e1.fX (af:=.list<|(d6 b).map em) (aS.of<|R.of_eq (R.iE (ds:=el 0<|2+((b.take 3).length:Int)) (dD:=j.int) (cO:=λi=>[("k",.int i)]) [("script",.list (b.map .int))] (λf=>z) (λi=>em<|qE b i.toNat) V (by decide) V (by decide)
  (r:=.iz 0 (2+((b.take 3).length:Int)) 1) (R.mX (ds:=[.int<|2+((b.take 3).length:Int)]) (d.eX V rfl (by room) (by decide) V rfl rfl (by decide)) (W.cons (R.add R.bJ<|R.of_eq (R.jG (ds:=[.list<|(b.take 3).map .int]) (d.eX V rfl (by room) (by decide) V rfl rfl (by decide)) (W.cons ?_ W.nil V) (bO.len aq.list (by rw[a6];show gu)) V e V)<|by rw[a6]) W.nil V) bO.uC V e V)
  (cA.rT (by decide) (by decide) (by show f3 _)<|by omega) (by unfold el;rw[a6];mspec jP;unfold aC;lia) (λB f=>.name _ _ _) (hh V) (gv (bl 0 V) V (.inl V) (.inl V) f8) (λf f f f=>rfl) (λs Z i E f=>?_) (λf=>rfl) (λf f f f=>e)) ?_)
  (λF=>e1.fX (aS.C8 (au:=a U) d.bC (d.eU V (by room) V rfl (by decide)) (by room) (dX.of<|Jh d (n:=n+11)) V) (λI=>e1.of W.nil λf o=>#[dt H,.mk λJ o f=>.mk f ?_]) V) V) (.inl V) (.inr #[V,H]) V rfl)
 .show R.of_eq (R.jD (n0:=O 3) (ds:=b.map .int) (R.K 0 V) aq.list V R.bJ V .none (.int _) .none (by decide) (by rw[a6];unfold aC;show b0)) ?_;rw[kY];show aI (show ff b c (O 3) c=b.take 3 from yk _ 3) V
 .obtain⟨l,K,L⟩:∃l:Nat,i=l/\l<5:=by
   show v (x6.mp E) λo f=>?_;show am (EG f) λF I=>?_;show as i.toNat (by lia) (by omega)
  subst K;show R.g5 (ds:=[.list<|b.map .int,.int l]) (d.eU V (by room) V rfl (by decide)) (yl d).at_.choose_spec.1 (yl d).at_.choose_spec.2 (W.cons (R.K 1 V) (W.cons (R.K 0 V) W.nil V) V) (JD d (n:=n+11) b l L<|by show b0) V e V
 .rw[jg];unfold d6;rw[d2];rfl
 mexact S.bq (g.assign (af:=.dict<|cR bn<|bk<|d6 b) (R.g5 (ds:=[.list<|(d6 b).map em]) (d.eU V (by room) V rfl (by decide)) (yP d).at_.choose_spec.1 (yP d).at_.choose_spec.2 (W.cons (R.K 1 V) W.nil V) (Ky d (n:=n+10) (d6 b) w A) V e V) (.inl V) V) ?_;mexact S.bq (g.assign (af:=ku<|hI<|bk<|d6 b) (R.g5 (ds:=[.dict<|cR bn<|bk<|d6 b,fi]) (d.eU V (by room) V rfl (by decide)) (zt d).at_.choose_spec.1 (zt d).at_.choose_spec.2 (W.cons (R.K 0 V) (W.cons (R.K 1 V) W.nil V) V) (MN d (n:=n+10) _ x) V e V) (.inl V) V) ?_;mexact S.kj (aS.C8 (au:=a U) d.bC (d.eU V (by room) V rfl (by decide)) (by room) (LI d (n:=n+10) V rfl) V) (.inr #[V,H]) V ?_;intro d l B f;show kK f λk p q l=>?_;show j4 l ?_;intro f;show S.dV (eG:=hO b (ku<|hI<|bk<|d6 b) k) (aL.cH [5,4,3,2,1,0] rfl)<|i d k p q λm l=>f m<|J m l
end
section
variable {Y:bc}{I:aO}
def dX.same (h:dX Y I m ds (λa b f=>b.Perm Y.D/\f=r)):dX Y I m ds (iJ Y r):=.mk λi j k m n o d e p=>
 h.go i j k m n o d e λq s t #[a,b,f,#[v,hd],g,w,e]=>by
  subst hd;have i:=u.n8 (Y:=#[Y.d,Y.n,Y.J,a,Y.p,Y.D]) (X:=Y.X) (u.lO (Y:=#[Y.d,Y.n,Y.J,a,Y.p,b]) w v) g (λh f=>d.hB h f) d.sub;show p q s t #[Y.X,Y.D,_,(cG V rfl rfl),λh f=>f,i,e.keep<|l.sub g]
end
noncomputable def AE (r:bF):i:=dC ""<|r.map<|eL []
noncomputable abbrev dT (r:bF):h:=r.map (·.1)
structure AF (r:bF):Prop where
 len:r.length<=10
 wx:∀ai∈r,(0<=ai.1/\ai.1<8)/\0<=ai.2/\ai.2.toNat<(li ai.1).length
 wy:((r.map<|eL []).map (·.length)).sum<=100000
 fR:∃fR:List ec,AE r=az (cc fR)/\(∀it∈fR,it.ok=z)/\(cc fR).length<=100000/\fR.length<=1000/\dv fR=fb (dT r)
noncomputable def f1 (r:bF):ak:=(fb<|dT r).map λai=>ai.getD "*"
section
variable {U:aV}
noncomputable abbrev to (U:aV):List cl:=lC (cf 262<|a U) 4
def wF (own a:aD):(own++(a++dJ)).Perm ([(64,j.tab cu)]++(own++(a++[(247,j.tab ho),(225,j.tab fJ),(254,j.tab mI),(259,j.tab ll)]))):=by
 have b:((own++(a++[(247,j.tab ho)]))++(64,j.tab cu)::[(225,j.tab fJ),(254,j.tab mI),(259,j.tab ll)]).Perm ((64,j.tab cu)::((own++(a++[(247,j.tab ho)]))++[(225,j.tab fJ),(254,j.tab mI),(259,j.tab ll)])):=vW;simpa using b
noncomputable abbrev kC (r:bF):j:=.list<|[r.take 1,r.drop 1].map λa=>.list<|(fb<|dT a).map<|c3 .none
def Rx (l:aR U)(M:dg U.B 68 64)(n:Nat)(y A:T)(X:aY)(p:aO)(N:p.bY=z)(B:h)(D:j)(E:T)(r:bF)(P:r.length<=10)(F:∀d∈[r.take 1,r.drop 1],AF d)(own:aD)(S:c9):
 g #[U,n+12,gg U y A,X,("rule",em r)::hO B D E,own++dJ] p (hT (to U) 0)
  (c0 (u p #[U,n+12,gg U y A,X,bj "told" (kC r)<|("rule",em r)::hO B D E,own++dJ]) S):=by
 show g.Rv (ds:=[r.take 1,r.drop 1]) (dD:=em) (cO:=λd=>[("pairs",em d)]) (aQ:=.ref 69) [("items",fi)] (λd=>[.str<|AE d,.none,.str<|az [46]]) (λd=>.list<|(fb<|dT d).map<|c3 .none) (.inl V) V rfl (by decide) V (by decide) (r:=.list [em<|r.take 1,em<|r.drop 1])
  (R.list (W.cons (R.of_eq (R.jD (n0:=O 1) (ds:=r.map iV) (R.K 0 V) aq.list V R.bJ V .none (.int _) .none (by decide) (by rw[a6];unfold aC;show b0)) (by rw[kY];show aI (show ff r c (O 1) c=r.take 1 from yk _ 1) V)) (W.cons (R.of_eq (R.jD (mV:=O 1) (ds:=r.map iV) (R.K 0 V) aq.list R.bJ V rfl (.int _) .none .none (by decide) (by rw[a6];unfold aC;show dG P H)) (by rw[kY];show aI (show ff r (O 1) c c=r.drop 1 from sb _ 1) V)) W.nil V) V)<|dt H)
  (cA.list (.inl<|dM _ _ V) aq.list) (λb m=>by cases m) (dt H) (λG a=>.name _ _ _) (hh V) (gv (bl 3 V) V (.inl V) (.inl V) f8) (λp Z d q=>?_) (λd q p I y Y A=>?_) (λa=>rfl) (λa a a a=>e)
 .have s:=F d q;show pP.g5 (ds:=[.str<|AE d,.none,.str<|az [46]]) (l.eU V (by room) V rfl (by decide)) (nD l).at_.choose_spec.1 (nD l).at_.choose_spec.2 (W.cons (R.jf (ds:=[.list<|(d.map<|eL []).map .str]) R.cy (fD.str su sv) (W.cons ?_ W.nil V) (bO.r4 aq.list ?_) V e V) (W.cons R.gF (W.cons (R.of_eq R.cy<|by room) W.nil V) V) V) V e V
  .show R.of_eq (R.iE (ds:=d) (dD:=iV) (cO:=λk=>[("x",.int k.1),("dress",.int k.2)]) [("items",fi)] (λa=>z) (λk=>.str<|eL [] k) V (by decide) V (by decide) (r:=em d) (R.K 0 V) (cA.list (.inr #[_,_,_,V]) aq.list) (by have:=s.len;unfold aC;show b0) (λG a=>.n4<|by decide) (uH V rfl) (gv (bl 1 V) V (.inl V) (.inl V) f8) (λa a a a=>rfl) (λy A k p a=>?_) (λa=>rfl)<|λa a a a=>e) (by rw[jg];mspec d2;rfl);show cd (s.wx k p) λy A hd=>?_;show am y λh0 t=>?_;show g3 (wr h0 t) λJ K a S4=>?_;show v (pA A) λo w=>?_;have x:o<(li k.1).length:=by rw[w]at hd;simpa using hd
   mspec(show eL [] k=(li k.1)[o] by unfold eL;show aI w ?_;simp[x]);show R.item (L:=.int o) (R.item (L:=.int 1) (R.item (L:=.int J) (R.K 2 V) (R.of_eq (R.K 0 V)<|congrArg j.int K)<|b6.list aq.list S4<|dH.mp<|bh [↑J,k.fst] [.aK aA<| .n 8,.C f aA] 0 (.Q f) (.n 9223372036854775808) H t (c2 (K).symm:)) R.bJ<|b6.list (cC:=1) aq.list V<|by simp+arith) (R.of_eq (R.K 1 V)<|congrArg j.int w) (b6.list (cC:=o) aq.list (by mspec e6;mspec gm x;rfl) (by have:=ws h0 t;show dG (a5 (x)<|ay this) H))
  .mspec(show((("":i)).length)=0 by decide);rw[yT];have:=s.wy;show b0
 .show Ic ((F d q).fR) λa k o p t s=>?_;mspec k;show ch s ?_;show dX.same (dX.dP (wd l M (n:=n+10) V rfl (by mspec Y;show aI N V) a o p (by show b0) .none .none (wF I own)) λd k G m=>#[by show m.1▸(wF I own).symm,m.2])
end
noncomputable def kD (r:bF):i:=a2<|(dT r).headD 0
noncomputable def wG (bZ:dk)(r:bF):dk:=mw (mw bZ (kD r)<|f1 r.tail) (kD r) [(f1 r.tail).headD ""]
structure pQ (r:bF):Prop where
 len:r.length<=6
 kN:r.tail≠[]
 head:∃al,(dT<|r.take 1)=[al]/\0<al
 row:∀a∈[r.take 1,r.drop 1],AF a
def GK (b:pQ r):fb (dT<|r.take 1)=[O<|kD r]:=by
 show aX b.head λf g d=>?_;obtain⟨a,e,rfl⟩:∃a e,r=a::e:=by
  cases r with
  |nil=>show absurd V b.kN|cons a r=>show dM a r V
 have h:a.1=f:=by simpa using g
 subst h;have:gL [a.1]=[a.1]:=by
  unfold gL;show(?_:(((el 0 1).filter _).map _)=_);mspec(show el 0 1=[0] by rfl);simp[Int.ne_of_gt d]
 show(?_:fb [a.1]=_);unfold fb;mspec this;simp[kD,Int.ne_of_gt d]
def Ry (e:pQ r):∃a b,f1 r.tail=a::b:=by
 have f:f1 r.tail≠[]:=λd=>by
  unfold f1 fb at d;rw[tb,tb,wt]at d;show An (λg=>e.kN<|tb.mp g) d
 cases hn:f1 r.tail with
 |nil=>show absurd hn f|cons a b=>show dM a b V
def GL (d:fF m n)(a:i)(b:ak):fF (m+b.length) (mw n a b):=y7 a b<|DM (vm d a) a _
def GM (a:h):(gL a).length<=a.length:=by
 unfold gL;rw[a6];show a5 (qj _ _) (by simp[el])
def AG (r:bF):(f1 r).length<=r.length:=by
 unfold f1 fb;rw[a6,a6];show a5 (GM _) (by simp)
section
variable {U:aV}
def Rz (p:aR U)(n:Nat)(a h:T)(X:aY)(i:aO)(Γ:be)(r:bF)(l:r.length<=10)(own:aD)(m:c9):
 g #[U,n+12,gg U a h,X,("told",kC r)::Γ,own] i (hT (to U) 1)
  (c0 (u i #[U,n+12,gg U a h,X,bj "names" (.list<|(f1 r.tail).map .str)<|("told",kC r)::Γ,own]) m):=by
 have o:(fb<|dT<|r.drop 1).length<=r.length:=by
  unfold fb;rw[a6];show a5 (GM _) (by simp)
 have h:((f1 r.tail).map j.str)=((fb<|dT<|r.drop 1).filter λa=>z).map λd=>j.str (d.getD "*"):=by
  rw[jg];unfold f1;mspec d2;mspec Qy;rfl
 mspec h;show g.x2 (ds:=fb<|dT<|r.drop 1) (dD:=c3 .none) (cO:=λd=>[("part",c3 .none d)]) [] (λa=>z) (λd=>.str<|d.getD "*") (.inl V) V rfl (by decide) V (by decide) (r:=.list<|(fb<|dT<|r.drop 1).map<|c3 .none)
  (R.item (L:=.int 1) (R.K 0 V) R.bJ<|b6.list (cC:=1) aq.list V<|by decide)
  (cA.list (.inl<|dM _ _ V) aq.list) (by unfold aC;show dG (a5 o l) H) (λh a=>.name _ _ _) (hh V) f8 (λa a a a=>rfl) (λh Z d i a=>?_) (λa=>rfl) (λa a a a=>e)
 show R.kO (b:=(c3 .none d).isNone) (aZ.bK (R.K 0 V) R.gF av.oZ e) (λf=>?_)<|λf=>?_
 .cases d with
  |none=>show R.cy|some k=>cases f
 .cases d with
  |none=>cases f
  |some k=>show R.of_eq (af:=c3 .none<|O k) (R.K 0 V) V
def rs {a b:aD}(d:m∈a):m∈a++b:=bI d
def RA (m:aR U)(n:Nat)(o p:T)(X:aY)(q:aO)(Γ:be)(r:bF)(s:pQ r)(d:ax)(w:d.bo=c)(x:d.bz)(B:d.br.length<=800)(k:Nat)(D:fF k d.P)(E:k<=800)(F:(("sorter":i),j.val (.ref d.x))∈Γ)(u:c9)(b:List cl)
 (I:∀f g,(∀J∈X,J∈f)->kp d (mw d.P (kD r)<|f1 r.tail) (1+(f1 r.tail).length) g->S q #[U,n+12,gg U o p,f,("names",.list ((f1 r.tail).map .str))::("told",kC r)::Γ,g.D++dJ] b u):
 S q #[U,n+12,gg U o p,X,("names",.list ((f1 r.tail).map .str))::("told",kC r)::Γ,d.D++dJ] ((hT (to U) 2)::b) u:=by
 have h:=AG r.tail;have l:=s.len;rw[re]at h;have hd:kC r=.list [.list [.str<|kD r],.list<|(fb<|dT<|r.drop 1).map<|c3 .none]:=by
  unfold kC;mspec b7;mspec GK s;rfl
 mspec hd;mexact S.C0 (aS.MX (au:=a U) (ds:=[.str<|kD r]) (zw:=(f1 r.tail).map .str) m.bC (rs d.eI) (rs d.eR) (by rfl) yZ MZ (R.name (A<|A F) (by decide)<|by decide) (R.item (L:=.int 0) (R.K 1 V) R.bJ<|b6.list (cC:=0) aq.list V<|by decide) (mA.list<|dt H) (R.K 0 V) (mA.list (by rw[a6];unfold aC;show dG (a5 (a5 h<|fE (fN r) 1) l) H))
  (DR m (n:=n+8) (keep:=dJ) V rfl d (kD r) (f1 r.tail) w x (c5 [.C G<| .n 800,.C N t,.C aU<| .n 6,.C t aU] 0 (.y G N) (.n 900) H B h l<|fE (fN r) 1) k D (c5 [.C G<| .n 800,.C N t,.C aU<| .n 6,.C t aU] 0 (.y G N) (.n 900) H E h l<|fE (fN r) 1) (eH _)) V rfl rfl) e V ?_
 intro f h k d;show am d λk h=>?_;show v h λg d=>?_;show ci d λh=>?_;intro d;show ch hd ?_;show I f g d h
def RB (o:aR U)(n:Nat)(p q:T)(X:aY)(s:aO)(Γ:be)(r:bF)(k:pQ r)(d:ax)(w:d.bo=c)(x:d.bz)(D:d.br.length<=800)(l:Nat)(y:fF l d.P)(E:l<=800)(B:(("sorter":i),j.val (.ref d.x))∈Γ)(t:c9)(b:List cl)
 (m:∀f g,(∀h∈X,h∈f)->kp d (mw d.P (kD r) [(f1 r.tail).headD ""]) 2 g->S s #[U,n+12,gg U p q,f,("names",.list ((f1 r.tail).map .str))::("told",kC r)::Γ,g.D++dJ] b t):
 S s #[U,n+12,gg U p q,X,("names",.list ((f1 r.tail).map .str))::("told",kC r)::Γ,d.D++dJ] ((hT (to U) 3)::b) t:=by
 have hd:kC r=.list [.list [.str<|kD r],.list<|(fb<|dT<|r.drop 1).map<|c3 .none]:=by
  unfold kC;mspec b7;mspec GK k;rfl
 show cm (Ry k) λh p u=>?_;have C:=AG r.tail;have p:=k.len;rw[re,u,eA]at C;rw[u]at m ⊢;rw[hd]at m ⊢;mexact S.C0 (aS.yJ (au:=a U) (ds:=[.str<|kD r,.str h]) o.bC (rs d.eI) (rs d.eR) (by rfl) yZ (R.name (A<|A B) (by decide)<|by decide) (W.cons (R.item (L:=.int 0) (R.item (L:=.int 0) (R.K 1 V) R.bJ<|b6.list (cC:=0) aq.list V<|by decide) R.bJ<|b6.list (cC:=0) aq.list V<|by decide) (W.cons (R.item (L:=.int 0) (R.K 0 V) R.bJ<|b6.list (cC:=0) aq.list V<|by decide) W.nil V) V)
  (LC o (n:=n+8) (keep:=dJ) V rfl d (kD r) [h] w x (by mspec gw;show gu) l y (by mspec gw;show gu) (eH _)) V e V) e V ?_
 intro f h k d;show am d λk h=>?_;show v h λg d=>?_;show ci d λh=>?_;intro d;show m f g d h
end
structure GN (x:T)(a:List bF)(L:Nat)(ah:ax):Prop where
 x:ah.x=x
 bz:ah.bz
 bo:ah.bo=c
 P:ah.P=(a.take L).foldl wG []
 bV:ah.bV=0
 bH:ah.bH=0
 br:ah.br.length<=12*L
 rr:fF (12*L) ah.P
inductive AH (a:h)(b:j)(ae:T)(L:Nat)(Γ:be)(own:aD):Prop
 |mk (ah:ax) (d:aL Γ (hO a b ae)) (e:own=ah.D++dJ) (f:GN ae (d6 a) L ah):AH a b ae L Γ own
section
variable {U:aV}
def RC (w:aR U)(S9:dg U.B 68 64)(n:Nat)(p l:T)(X:aY)(q:aO)(Ta:q.bY=z)(d:h)(S7:(d6 d).length<=10)(S8:∀r∈d6 d,pQ r)(f:j)(e k K:T)(Z:c9)(b:List cl)
 (Tc:∀S4 m,(∀x∈X,x∈S4)->GN e (d6 d) (d6 d).length m->S q #[U,n+12,gg U p l,S4,hO d f e,m.D++dJ] b Z):
 S q #[U,n+12,gg U p l,X,hO d f e,(nk e k K).D++dJ] ((hT (cf 262<|a U) 4)::b) Z:=by
 mexact S.vj (AH d f e (d6 d).length) (g.ms (ce:=AH d f e) (λL L=>False) [] ((nk e k K).D++dJ) V
  (r:=.list<|(d6 d).map em) (ds:=(d6 d).map em) (aS.of<|R.K 1 V)
  (λb B=>by cases B) (cA.list (.inl<|dM _ _ V) aq.list) #[nk e k K,aL.bd _,V,V,List.Pairwise.nil,V,V,V,V,ew _,λS6 M=>nomatch M] (λTd L=>.name<| .inl V) ?_ ?_ (λL=>rfl)) ?_
 .rintro u Td o Γ own E hd ⟨m,P,rfl,i⟩ k F;rw[e6,f2]at hd;obtain⟨r,W,rfl⟩:=hd;have I:=S8 r<|ic W;have J:u<10:=nR (gG.mp W).1 S7;have s:=AG r.tail;have v:=I.len;replace s:=re▸s;mexact S.dV (eG:=("rule",em r)::hO d f e) (Y:=#[U,n+12,gg U p l,o,gp (.Name "rule" #[_,_,_,_]) (em r) Γ,m.D++dJ]) (λS7 L=>?_) ?_
  .show(P.gp _ _) S7 L
  have Z:=i.br;have S8:=i.rr;mexact S.r7 λK Td=>?_;mexact S.bq (Rx w S9 n p l o (q.at E) Ta d f e r (by show b0) I.row m.D K) ?_;mexact S.dV (eG:=("told",kC r)::hO d f e) (aL.cH [0,2,3,4,5,6,7] rfl) ?_;mexact S.bq (Rz w n p l o (q.at E) (hO d f e) r (dG v H) (m.D++dJ) K) ?_;mexact S.dV (eG:=("names",.list ((f1 r.tail).map .str))::("told",kC r)::hO d f e) (aL.cH [0,1,2,3,4,5,6,7] rfl) ?_;show RA w n p l o (q.at E) (hO d f e) r I m i.bo i.bz (b9 [#[12,.Q N,.n 10],.C G<| .cS 12 N] 0 G (.n 800) H J Z) (12*u) S8 (dK [#[12,.Q G,.n 10]] 0 (.cS 12 G) (.n 800) H J) (by mspec i.x;show bl 5 V) K ((to U).drop 3) (λTe S4 Tf k=>by
   have S9:fF (12*u+(f1 r.tail).length) S4.P:=by mspec k.P;show GL S8 _ _
   have S8:=k.len;have Ta:S4.x=e:=k.es.x.trans i.x;show RB w n p l Te (q.at E) (hO d f e) r I S4 k.bo k.bz (p1 [#[12,.Q N,.n 10],.C t aU,.C dx<| .n 6,.C g0<| .cS 12 N,.C G<| .y g0<| .y (.n 1) t,.C aU dx] 0 G (.n 800) H J s v Z S8<|fE (fN r) 1) (12*u+(f1 r.tail).length) S9 (c5 [#[12,.Q G,.n 10],.C N t,.C aU<| .n 6,.C t aU] 0 (.y (.cS 12 G) N) (.n 800) H J s v<|fE (fN r) 1) (by mspec Ta;show bl 5 V) K [] (λf e p d=>S.nil λB S5=>by
    have q:fF (12*u+(f1 r.tail).length+1) e.P:=by mspec d.P;show GL S9 _ _
    show Td .next B ?_;show#[f,_,_,λx k=>p x<|Tf x k,#[e,?_,V,d.es.x.trans Ta,d.bz,d.bo,?_,by mspec d.bV;mspec k.bV;show aI i.bV V,by mspec d.bH;mspec k.bH;show aI i.bH V,by show tO [.C t aU,.C dx<| .n 6,.C g0<| .cS 12 N,.C kG<| .y g0<| .y (.n 1) t,.C G<| .y kG<| .n 2,.C aU dx] 0 G (.cS 12<| .Q N) H s v Z S8 d.len<|fE (fN r) 1,λS6 M=>by have:=q S6 M;show jA [.C t aU,.C dx<| .n 6,.C G<| .Q<| .y (.cS 12 N) t,.C aU dx] 0 G (.cS 12<| .Q N) H s v this<|fE (fN r) 1],S5]
    .show λS7 L=>A<|A L
    .mspec d.P;mspec k.P;mspec i.P;mspec qi;mspec W;mspec iX;rfl))
 .rintro o Γ own B F (Tb|l) S5
  .rw[a6]at Tb;show#[o,Γ,_,F,Tb,S5]
  .show l.elim
 .rintro o Γ own F ⟨m,P,rfl,i⟩;show S.dV P<|Tc o m F i
end
section
variable {Y:bc}{I:aO}
def hp.dP (a:hp Y I b m)(d:∀o,m o->n o):hp Y I b n:=.mk λb e f g h i j=>a.go b e f g h i λk l m n p q r=>j k l m n (d _ p) q r
end
def GO (a:ak):j.ja (.list<|a.map .str) (.list<|a.map .str):=.list<|uD .str a
def RD (a:ak)(b:∀d∈a,fx d=z):jF (.list<|a.map .str)=z:=by
 unfold jF;rw[oc];mspec Az a b;rw[uE];show decide_eq_true ?_;have:=AA a;rw[r5];show gu
section
variable {U:aV}
def wH:eb [] []:=λenv a=>nomatch a
def wI:eu []:=λb a=>nomatch a
def GP (U:aV)(a b:T):(gg U a b).qual++("<lambda>":i)="law.<locals>.<lambda>":=by room
noncomputable abbrev AI (ah:ax):aD:=ah.D++[(247,.tab ho),(64,.tab cu),(225,.tab fJ),(254,.tab mI)]
def GQ (a:ax):a.D++dJ=AI a++(259,.tab ll)::[]:=by simp
def GR (U:aV)(a b:T)(pos:di)(d:pos=#[309,0,309,24]\/pos=#[312,0,312,23]\/pos=#[313,0,313,24]):(pos,(gg U a b).qual++("<lambda>":i))∈ll:=by
 rw[GP];rcases d with rfl|rfl|rfl
 .show ao
 .show A ao
 .show A<|A ao
def GS (U:aV)(d e:T):∀b∈ll,b.2=(gg U d e).qual++("<lambda>":i):=λb a=>by
 rw[GP];show aw (a4 a) (λf=>?_) λa=>?_
 .obtain rfl:=f;rfl
 .rcases a4 a with rfl|a
  .rfl
  .show aI (bW a) V
noncomputable def wJ:Option h->j
 |none=>.list [.none]|some _=>.str "ring"
def RE (t:aR U)(Te:dg U.B 261 259)(n:Nat)(C p:T)(X:aY)(E:aO)(Q:E.cQ=O [])(Y:h)(F:T)(d:ax)(Tf:d.x=F)(Z:d.bo=c)(G:d.bz)(u:∀Tg∈d.P,∀S4∈Tg.2.2,S4∈cP d.P)(I:d.br.length<=900)(f:Option h)(S5:∀m,f=O m->m≠[]/\m.length<=1000/\∀w∈m,0<=w/\w<8)(J:k8 d.P=O (f.map (·.map a2)))(S6:c9)(b:List cl)
 (Th:∀r g,(∀g∈X,g∈r)->S E #[U,n+12,gg U C p,r,hO Y (ku f) F,(d.eh g).D++dJ] b S6):
 S E #[U,n+12,gg U C p,X,hO Y (ku f) F,d.D++dJ] ((hT (cf 262<|a U) 5)::b) S6:=by
 subst Tf;have Ti:ku f=ox (f.map (·.map a2)):=by
  cases f with
  |none=>rfl|some m=>show congrArg j.list (d2).symm
 have K:∀E:bc,av E .NotEq (ox (f.map (·.map a2))) (ku f) aj/\av E .NotEq (wJ f) (wJ f) aj/\eF E (ku f) f.isSome:=λE=>by
  mspec Ti;cases f with
  |none=>show cG (av.nH (ai:=.none) (.inl<|by repeat constructor) (.inl<|by repeat constructor) H H) (av.nH (ai:=.list [.none]) (.inl<|by repeat constructor) (.inl<|by repeat constructor) H H) eF.none
  |some m=>
   show cd (S5 m V) λL S7 M=>?_;show cG (av.nH (ai:=.list<|(m.map a2).map .str) (.inl<|GO _) (.inl<|GO _) (RD _ λS4 u=>?_) (by rw[me];show wA _)) (av.nH (ai:=.str "ring") (.inl<|by repeat constructor) (.inl<|by repeat constructor) (by decide+kernel)<|by decide+kernel)<|(eF.list aq.list ?_).of_eq ?_
   .obtain⟨w,S8,rfl⟩:=ck u;show GG (M w S8).1 (M w S8).2
   .rw[a6,a6];show gu
   .show decide_eq_true ?_;rw[a6,a6];show jl.mpr L
 have Tj:∀(w E F:di),(∀env,ou (.Name "sorter" w) "prepare" E F [] env)->∀h0 p x,iL h0 p x (.Call (.Attribute (.Name "sorter" w) "prepare" E) [] [] F)->hY U x h0 (l h0 X) [("sorter",.val (.ref d.x))]->mz U (n+11) h0 X p d.D (λo S9 Tk=>(∃m,f=O m)/\S9=.ref 110/\∃g,o=(d.eh g).D) (λo y=>f=c/\y=.none/\∃g,o=(d.eh g).D):=λw E F Ta h0 p x Tb Tc=>by
  cases f with
  |none=>show(Ou t (n:=n+6) Z G u I J Ta Tb Tc).dP (λk k k=>vF) λk k i=>#[V,i]|some m=>
   show cd (S5 m V) λL S7 M=>?_;show(Ov t (n:=n+6) Z G u I (m.map a2) (by simpa using L) (by rw[a6];show S7) J Ta Tb Tc).dP (λk k k i=>#[#[m,V],i]) λk k=>vF
 mexact S.sL (hp.F9 (ce:=λo=>∃g,o=(d.eh g).D++dJ)<|hp.cons (i2.bK (co:=λr o A=>A=aj/\∃g,o=(d.eh g).D++dJ)
  (aS.vB t (λTd y=>y=wJ f/\∃g,Td=(d.eh g).D) (n:=n+11) (ag:=[]) (cE:=[]) (ah:=d.D) (keep:=dJ) (q:=261) (aB:=259) (dj:=ll) (bD:=AI d) (b3:=[]) (lQ:=[("sorter",.val (.ref d.x))]) V rfl Q V (eH _) wH wI (GQ d) (GR U C p _<| .inl V) (λw E k=>GS U C p w E) V Te V rfl rfl rfl ?_ (λk k k=>rfl) (by decide) e e V
   (λh0 p x k k=>Tj _ _ _ (λenv=>#[_,V]) h0 p x) (λo S9 Tk i=>by show cd i λp w N=>?_;show v p λm s=>?_;show bw s ?_;show fo _ (.inr #[w,V]) V N) (λo y i=>by show rI i λi=>?_;show#[V,i]) V rfl) (λr o y i P=>?_) e)<|λr o A i P=>?_)<|λr o A i P=>?_
 .intro m Tl;cases bW Tl;show#[by show bl 5 V,V,V,_,V,V]
 .show v i λTd B=>?_;show rI B λs=>?_;show v s λg m=>?_;show bw m ?_;show#[wJ f,_,R.kO (b:=f.isSome) (aZ.j8 (R.K 4 V) (K _).2.2<|λk=>rfl) (λi=>?_)<|λi=>?_,(K _).2.1,e,g,V]
  .show R.of_eq R.cy (by cases f;show nomatch i;rfl)
  .show R.of_eq (R.list (W.cons R.gF W.nil V)<|dt H) (by cases f;rfl;show nomatch i)
 .show ci i λs=>?_;show v s λg B=>?_;show bw B ?_;show#[e,hp.cons (i2.bK (co:=λr o A=>o=(d.eh g).D++dJ/\A=aj) (aS.so (au:=a U) t.bC (rs (d.eh g).eI) (rs (d.eh g).eR) (by rfl) y1 (R.K 5 V) (zR t (n:=n+10) (keep:=dJ) (ag:=[]) V rfl Q V rfl [] (d.eh g) wH wI G u I _ J (eH _)) V) (λk m o N p=>?_) e)<|λk m o d p=>?_]
  .show j4 N ?_;show kM (ku f) _ (R.K 4 V) (K _).1 V e
  .show j4 d ?_;show#[e,hp.dP hp.nil λown i=>#[g,i]]
 .show ci i λs=>?_;show v s λg B=>?_;show bw B ?_;show#[e,Th r g P]
end
noncomputable abbrev AJ:i:="Nodes cannot be added after a call to prepare()"
noncomputable abbrev AK:i:="cannot prepare() more than once"
noncomputable def wK:List (List ec):=[[.brk [33,97,98]],[.brk [33,97,33]],[.brk [97,45,99,122,45,121,100,45,102]]]
section
variable {U:aV}
def GT (r:aR U)(s:dg U.B 261 259)(n:Nat)(f d:T)(X:aY)(k:aO)(t:k.cQ=O [])(Γ:be)(a:ax)(u:(("sorter":i),j.val (.ref a.x))∈Γ)(v:∀h0 m g,iL h0 m g body->hY U g h0 (l h0 X) [("sorter",.val (.ref a.x))]->ks U (n+11) h0 X m a.D (nr o a.D))
 (b:di) (w:b=#[309,0,309,24]\/b=#[312,0,312,23]\/b=#[313,0,313,24]):
 aS #[U,n+12,gg U f d,X,Γ,a.D++dJ] k (.Call (.Name "_law_words" B) [.Lambda #[[],[],c,[],[],c,[]] body {kind:=.function,names:=[("sorter",.free)],isGenerator:=aj,isCoroutine:=aj} b] [] pos) (iJ #[U,n+12,gg U f d,X,Γ,a.D++dJ]<| .str o):=by
 show aS.same (aS.dP (aS.vB r (λp k=>p=a.D/\k=.str o) (n:=n+11) (ag:=[]) (cE:=[]) (ah:=a.D) (keep:=dJ) (q:=261) (aB:=259) (dj:=ll) (bD:=AI a) (b3:=[]) (lQ:=[("sorter",.val (.ref a.x))]) V rfl t V (eH _) wH wI (GQ a) (GR U f d _ w) (λm o b=>GS U f d m o) V s V rfl rfl rfl ?_ (λb b b=>rfl) (by decide) e e V
  (λh0 d g b b a f=>v h0 d g a f) (λm o r h=>fo _ (.inl h.2) h.1 V) (λb b=>vF) V rfl) λa m k h=>?_)
 .intro a x;cases bW x;show#[u,V,V,_,V,V]
 .obtain⟨p,rfl,rfl,rfl⟩:=h;show#[eH _,V]
def RF:(∀a∈wK,(∀it∈a,it.ok=z)/\(cc a).length<=100000/\a.length<=1000):=by decide+kernel
def RG (k:aR U)(x:dg U.B 261 259)(E:dg U.B 68 64)(n:Nat)(o p:T)(X:aY)(m:aO)(F:m.bY=z)(y:m.cQ=O [])(u:h)(v:j)(f:ax)(r:T×ak)(A:f.bo=O r)(B:c9)
 (G:∀q,(∀I∈X,I∈q)->S m #[U,n+12,gg U o p,q,hO u v f.x,f.D++dJ] ((cf 262<|a U).drop 9) B):
 S m #[U,n+12,gg U o p,X,hO u v f.x,f.D++dJ] ((cf 262<|a U).drop 6) B:=by
 mexact S.bq (g.Gu (af:=.list [.str AJ,.str AK]) (aS.same<|aS.FW<|e1.fX (GT k x n o p X m y _ f (bl 5 V) (λd d d=>MS k (n:=n+9) r A λenv=>#[_,V]) _<| .inr<| .inl V) (λB=>e1.fX (GT k x n o p X (m.at B) y _ f (bl 5 V) (λd d d=>MT k (n:=n+9) r A λenv=>#[_,V]) _<| .inr<| .inr V) (λC=>e1.of W.nil λd d=>cG (dt H) (eH _) V) V) V) (.inl V) V) ?_;mexact S.bq (g.dB (an:=aj) (aZ.bK (R.K 0 V) (R.list (ds:=[.str AJ,.str AK]) (W.cons R.cy (W.cons R.cy W.nil V) V)<|dt H) (av.nH (ai:=.list [.str AJ,.str AK]) (.inl<|by repeat constructor) (.inl<|by repeat constructor) (by decide+kernel)<|by decide+kernel) e) (λl=>by cases l)<|λd=>S.nil λl m=>m) ?_;mexact S.sL (i2.bK (co:=λq s m=>s=f.D++dJ/\m=aj) (aS.Ru (ds:=wK) (dD:=λi=>.str<|az<|cc i) (cO:=λi=>[("one",.str (az<|cc i))]) (aQ:=.ref 69) [] (λi=>[.str<|az<|cc i,.none,.str<|az [46]]) (λi=>.list<|(dv i).map<|c3 .none) V (by decide) V (by decide) (r:=.list<|wK.map λi=>.str<|az<|cc i)
  (R.list (W.cons (R.of_eq R.cy<|by room) (W.cons (R.of_eq R.cy<|by room) (W.cons (R.of_eq R.cy<|by room) W.nil V) V) V)<|dt H)
  (cA.list (.inl<|dM _ _ V) aq.list) (λb l=>by cases l) (dt H) (λJ d=>.name _ _ _) (hh V) f8 (λm Z t D=>?_) (λt D q s m K o=>?_) (λd=>rfl) (λd d d d=>e)) (pK λd=>?_) e)<|λL d m w M=>?_
 .show pP.g5 (ds:=[.str<|az<|cc t,.none,.str<|az [46]]) (k.eU V (by room) V rfl (by decide)) (nD k).at_.choose_spec.1 (nD k).at_.choose_spec.2 (W.cons (R.K 0 V) (W.cons R.gF (W.cons (R.of_eq R.cy<|by room) W.nil V) V) V) V e V
 .show cd (RF t D) λC w d=>?_;show dX.same (dX.dP (wd k E (n:=n+10) V rfl (by mspec K;show aI F V) t C w (by show b0) .none .none (wF s f.D)) λd k J l=>#[by mspec l.1;show(wF s f.D).symm,l.2])
 .show kM (.list [.list [.str "[^ab]"],.list [.str "[^a!]"],.list [.str "[a-cd-f]"]]) _ (R.list (W.cons (R.list (W.cons R.cy W.nil V)<|dt H) (W.cons (R.list (W.cons R.cy W.nil V)<|dt H) (W.cons (R.list (W.cons R.cy W.nil V)<|dt H) W.nil V) V) V)<|dt H) ?_ V e;mspec(show(wK.map λi=>j.list<|(dv i).map<|c3 .none)=[.list [.str "[^ab]"],.list [.str "[^a!]"],.list [.str "[a-cd-f]"]] by room);show av.nH (ai:=.list [.list [.str "[^ab]"],.list [.str "[^a!]"],.list [.str "[a-cd-f]"]]) (.inl<|by repeat constructor) (.inl<|by repeat constructor) (by decide+kernel) (by decide+kernel)
 .show j4 w ?_;show#[e,S.dV (eG:=hO u v f.x) (aL.cH [1,2,3,4,5,6] rfl)<|G L M]
def GU (a:ax):(a.D++dJ).Perm (jw [] a++[(259,.tab ll)]):=by
 rw[(show a.D++dJ=jw [] a++[(259,.tab ll)]from by simp[jw])]
def RH (f:aR U)(m:dg U.B 251 247)(o:dg U.B 68 64)(p:dg U.B 227 225)(q:dg U.B 256 254)(n:Nat)(s t:T)(X:aY)(g:aO)(u:g.bY=z)(w:g.cQ=O [])(d:h)(x:j)(b:ax)(y:b.bz)(r:T)(i:ak)(A:b.bo=O (r,i))(B:iM (bk<|d6 d))(C:∀r∈d6 d,r.length<=10)(D:(d6 d).length<=10)
 (E:lX (d6 d) (bk<|d6 d) (j1<|bk<|d6 d) #[[],[],b.P,i,b.bV,b.bH]):
 S g #[U,n+12,gg U s t,X,hO d x b.x,b.D++dJ] ((cf 262<|a U).drop 9) (er U g dJ λk l=>k=dJ/\l=.bool z):=by
 mexact S.GF (aS.g5 (ds:=[.val<| .ref b.x,.list<|(d6 d).map em,.dict<|cR bn<|bk<|d6 d,fi]) (f.eU V (by room) V rfl (by decide)) (AB f).at_.choose_spec.1 (AB f).at_.choose_spec.2 (W.cons (R.K 5 V) (W.cons (R.K 1 V) (W.cons (R.K 3 V) (W.cons (R.K 2 V) W.nil V) V) V) V)
  (Rt f m o p q (n:=n+4) (ag:=[]) (keep:=[(259,.tab ll)]) V rfl u w V rfl [] b wH wI _ B _ C D r i A y E (GU b)) V e V) ?_
 intro d k l b;show ci b λd=>?_;show v d λb f=>?_;show bw f ?_;show tX _ dJ ((GU b).symm) (zP _ _) (λf d=>c7 d) V rfl
end
noncomputable abbrev pR (a:h):dk:=(d6 a).foldl wG []
noncomputable abbrev rt (a:h):b4:=bk<|d6 a
structure wL (a:h):Prop where
 AL:∀r∈d6 a,pQ r
 GV:iM (rt a)
 je:∀aT∈pR a,∀aa∈aT.2.2,aa∈cP (pR a)
 RI:k8 (pR a)=O ((hI<|rt a).map (·.map a2))
 RJ:∀ag,hI (rt a)=O ag->ag≠[]/\ag.length<=1000/\∀bu∈ag,0<=bu/\bu<8
 RK:lX (d6 a) (rt a) (j1<|rt a) #[[],[],pR a,jX<|pR a,0,0]
section
variable {U:aV}
def RL (l:aR U)(F:dg U.B 251 247)(q:dg U.B 68 64)(I:dg U.B 227 225)(J:dg U.B 256 254)(A:dg U.B 261 259)(n:Nat)(j k:T)(X:aY)(d:aO)(s:d.bY=z)(t:d.cQ=O [])(b:h)(o:b.length<=63)(f:wL b):
 S d #[U,n+12,gg U j k,X,[("script",.list (b.map .int))],dJ] (cf 262<|a U) (er U d dJ λi p=>i=dJ/\p=.bool z):=by
 mexact S.r7 λm K=>?_;have i:(b.take 3).length<=3:=by mspec g9;show(oo 3 b.length)
 have u:(d6 b).length<=10:=by rw[wE];show dK [.C G<| .n 3] 0 (.y (.n 2) G) (.n 10) H i
 have B:∀r∈d6 b,r.length<=10:=λr i=>by have:=(f.AL r i).len;show b0
 show Rw l n j k X d b o (λr i=>#[λo=>(f.AL r i).kN (by mspec o;rfl),B r i]) f.GV _ λo v p L R=>?_;show RC l q n j k o d s b u f.AL (ku<|hI<|rt b) v p L m ((cf 262<|a U).drop 5) (λE e i g=>by
  have w:e.P=pR b:=by mspec g.P;show aI iU V
  have M:∀i∈e.P,∀o∈i.2.2,o∈cP e.P:=by mspec w;show f.je
  have P:e.br.length<=900:=by have:=g.br;show b9 [#[12,N,.n 10],.C G<| .cS 12 N] 0 G (.n 900) H u this
  have Q:∀o p i,(∀i∈E,i∈p)->S d #[U,n+12,gg U j k,p,hO b o v,(e.eh i).D++dJ] ((cf 262<|a U).drop 6) m:=λo p i L=>by
   have x:=RG l A q n j k p d s t b o (e.eh i) (i,jX e.P) V m λL R=>
    (RH l F q I J n j k L d s t b o (e.eh i) g.bz i (jX e.P) V f.GV B u (by
     mspec w;mspec g.bV;mspec g.bH;show f.RK)).dP K
   replace x:=g.x▸x;show x
  have i:=f.RI;show RE l A n j k E d t b v e g.x g.bo g.bz M P _ f.RJ (by mspec w;show i) m ((cf 262<|a U).drop 6)<|Q _)
end
structure dp (bT:List bF):Prop where
 len:bT.length<=5
 row:∀(s:Nat)(r:bF),bT[s]?=O r->∃af body,r=(3+(s:Int),af)::body/\iu (3+(s:Int),af)/\body≠[]/\body.length<=3/\∀ai∈body,iu ai
def AM (a:Int)(d:0<b):0<=i9 a b/\i9 a b<b:=#[Int.fmod_nonneg_of_pos a d,Int.fmod_lt_of_pos a d]
def GW (b:h)(a:Nat):(lD b a).length=if a<3 then 3 else 2:=by
 unfold lD el;rw[a6,a6];mspec jP;split<;>rfl
def RM (a:h):dp (d6 a):=by
 have k:(a.take 3).length<=3:=by mspec g9;show(oo 3 a.length)
 show#[by rw[wE];show dK [.C G<| .n 3] 0 (.y (.n 2) G) (.n 5) H k,λb r d=>?_];have o:b<5:=by
  have:=(gG.mp d).1;rw[wE]at this;show b9 [.C N<| .n 3,.aK G<| .y (.n 2) N] 0 (.Q G) (.n 5) H k this
 have l:r=qE a b:=by
  unfold d6 at d;rw[e6,f2]at d;obtain⟨k,g,rfl⟩:=d;unfold el at g;rw[e6,f2]at g;obtain⟨d,e,rfl⟩:=g;have i:=(gG.mp e).1;replace i:=jP▸i;replace e:=(rU i)▸e;cases e;show aI (show((0:Int)+(b:Int)).toNat=b by simp+arith) V
 subst l;have j:0<kc a b/\kc a b<=8:=by
  unfold kc;split<;>lia
 show tX _ _ V #[#[by show f3 _,by lia],AM _<|by decide] (λh0=>?_) ?_<|λd m=>?_
 .have:=congrArg fN h0;rw[a6,GW]at this;split at this<;>cases this
 .rw[a6,GW];split<;>simp+arith
 .show g1 m λe d=>?_;have d:=AM (lx e 3) j.1;show#[#[d.1,by have:=d.2;have:=j.2;show bh [(e.fdiv 3).fmod<|kc a b,kc a b] [.C aA<| .n 8,.aK f aA] 0 (.Q f) (.n 8) H j.2 d.2],AM _<|by decide]
def AN {e:Type}(f:e->Nat)(a:List e)(n:Nat)(g:∀d∈a,f d<=n):(a.map f).sum<=a.length*n:=by
 induction a with
 |nil=>simp|cons d a h=>
  mspec b7;mspec hW;mspec eA;rw[sG];have:=g d ao;have:=h λb a=>g b<|A a;lia
def GX (e:ag.length<=10)(d:∀a∈ag,iu a):AF ag where
 len:=e
 wx:=λa b=>by
  show cd (d a b) λg h i=>?_;show cG g h (by mspec ws g.1 g.2;show dH.mp<|bh [↑a.snd.toNat,a.snd] [.aK aA<| .n 3,.C f aA] 0 (.Q f) (.n 3) H i (c2 (gx<|bh [a.snd] [.C (.n 0) f] 0 (.n 0) f H h):))
 wy:=by
  mspec d2;show bb [#[10,N,.n 10],.C t<| .w N 10,.C G t] 0 G (.n 100000) H e (AN (λa=>(eL [] a).length) ag 10 λa b=>(mH<|d a b).len) (ay (show((ag.map<|(λg=>g.length)∘eL []).sum)=(ag.map λa=>(eL [] a).length).sum from rfl))
 fR:=by
  show xo (ag.flatMap fK) (QP ag d) (λit g=>?_) ?_ ?_ ?_
  .show aX (GY.mp g) λa b h=>?_;show(mH<|d a b).ok it h
  .unfold cc;mspec Gl;show b9 [#[10,N,.n 10],.C G<| .w N 10] 0 G (.n 100000) H e<|th (λa=>(fK a).flatMap ec.lf) ag 10 λa b=>Gk _ a (mH<|d a b) V
  .show b9 [#[3,N,.n 10],.C G<| .w N 3] 0 G (.n 1000) H e<|th fK ag 3 λa b=>(mH<|d a b).fR
  .mspec Gj ag d;rw[rp]
def RN (d:dp m):∀r∈m,pQ r:=λr e=>by
 show v (x6.mp e) λa f=>?_;show cm (d.row a r f) λg body e=>?_;show By e λh d f i=>?_;show#[by mspec eA;show gu,d,(as (3+(a:Int)) V<|by show ej.mpr<|dK [] 0 (.Q<| .n 0) (.y (.n 3) G) H),λe b=>?_];show gh b ?_ λb=>?_
 .show GX (by simp) λd e=>by
   mspec(show d=(3+(a:Int),g)from by simpa using e);show h
 .mspec bW b;show GX (ag:=body) (by show b0) i
def d0 (ae:Int):Prop:=0<=ae/\ae<8
def RO:∀a b:Fin 8,a2 a.val=a2 b.val->a=b:=by decide+kernel
def ru (a:d0 b)(d:d0 m)(g:a2 b=a2 m):b=m:=by
 obtain⟨e,rfl⟩:=pA a.1;obtain⟨f,rfl⟩:=pA d.1;show aI (show e=f from congrArg Fin.val<|RO #[e,by have:=a.2;show ej.mp ‹_›] #[f,by have:=d.2;show(ej.mp this)] g) V
noncomputable def e3 (fI:h)(ae:Int):h:=if ae∈fI then fI else fI++[ae]
def rv:b∈e3 m n↔b∈m\/b=n:=by
 unfold e3;split
 .next b=>show#[λa=>.inl a,λa=>a.elim id λa=>a▸b]
 .simp
def RP (a:m.Nodup):(e3 m n).Nodup:=by
 unfold e3;split
 .show a
 .next d=>show gz.mpr #[a,by simp,λg e b f=>by
   mspec bW f;intro a;show d<|a▸e]
def oF {a b:h}:m∈a.foldl e3 b↔m∈b\/m∈a:=by
 induction a generalizing b with
 |nil=>simp|cons b a d=>rw[hV,d,rv,hP,or_assoc]
def RQ {a:h}:∀{d:h},d.Nodup->(a.foldl e3 d).Nodup:=by
 induction a with
 |nil=>show λb=>b|cons d a e=>show λb=>e<|RP b
def AO (a:m∈b):e3 b m=b:=if_pos a
def RR {a:h}:∀{b:h},(∀d∈a,d∈b)->a.foldl e3 b=b:=by
 induction a with
 |nil=>show λb=>rfl|cons e a f=>show λa=>by rw[hV,AO<|a e ao];show f λd b=>a d<|A b
def GZ (a b:h)(d:Int):(a++[d]).foldl e3 b=e3 (a.foldl e3 b) d:=by mspec iX;rfl
def RS (a d:h):(ee a).foldl e3 d=a.foldl e3 d:=by
 induction a using i4 with
 |nil=>rfl|snoc a d e=>
  rw[pL,GZ];unfold nJ;split
  .next b=>
   mspec e;rw[AO];show(oF).mpr ?_;show .inr ?_;mspec b.1;rw[Al]at b;show u4 b.2
  .rw[GZ];show aI e V
noncomputable def cF (bT:List bF):h:=bT.foldl (λfI r=>(dT r).foldl e3 fI) []
noncomputable def da (bT:List bF)(ae:Int):h:=if 3<=ae then ee (dT<|((bT[(ae - 3).toNat]?).getD []).tail)else[]
def RT (d:b4)(e:Int)(i:h)(a:Int):(d.map λf=>if f.1=e then(f.1,i)else f).lookup a=if a=e then(d.lookup a).map λk=>i else d.lookup a:=by
 induction d with
 |nil=>split<;>rfl|cons f d j=>
  obtain⟨g,b⟩:=f;by_cases f:g=e
  .mspec b7;mspec if_pos (show(g,b).1=e from f);mspec fB;mspec fB;by_cases d:a=g
   .mspec d;rw[beq_self_eq_true];mspec if_pos f;rfl
   .mspec beq_eq_false_iff_ne.mpr d;show j
  .mspec b7;mspec if_neg (show ¬(g,b).1=e from f);mspec fB;mspec fB;by_cases d:a=g
   .mspec d;rw[beq_self_eq_true];show aI (if_neg f) V
   .mspec beq_eq_false_iff_ne.mpr d;show j
def G0 (a:b4)(d:Int):(a.lookup d).isSome=a.any (λe=>decide (e.1=d)):=by
 induction a with
 |nil=>rfl|cons e a f=>
  obtain⟨g,b⟩:=e;mspec fB;mspec t2;by_cases a:d=g
  .mspec a;rw[beq_self_eq_true];mspec decide_eq_true V;rfl
  .mspec beq_eq_false_iff_ne.mpr a;mspec decide_eq_false λd=>a d.symm;rw[Lv];show f
def G1 (b:b4)(d:Int)(g:h)(e:Int):(ji b d g).lookup e=if e=d then O g else b.lookup e:=by
 unfold ji;split
 .next f=>
  rw[RT];split
  .next a=>
   mspec a;show v (xX.mp<|(G0 b d).trans f) λg e=>?_;mspec e;rfl
  .rfl
 .next f=>
  mspec RU;split
  .next a=>mspec a;mspec show b.lookup d=c from Option.not_isSome_iff_eq_none.mp (by rw[G0];show f);mspec fB;rw[beq_self_eq_true];rfl
  .next a=>mspec fB;mspec beq_eq_false_iff_ne.mpr a;show Option.or_none
def G2 (e:b4)(b:Int)(f:h):dh (ji e b f)=e3 (dh e) b:=by
 unfold ji e3 dh;by_cases d:e.any (λa=>decide (a.1=b))=z
 .mspec if_pos d;rw[if_pos]
  .mspec d2;show hC λa e=>?_;show(?_:(if a.1=b then(a.1,f)else a).1=a.1);split<;>rfl
  .show aX (ko.mp d) λa b e=>?_;show iw.mpr<|as a b<|k e
 .mspec if_neg d;rw[if_neg]
  .mspec eV;rfl
  .intro f;show aX (ck f) λa b e=>?_;show d<|ko.mpr<|as a b<|decide_eq_true e
def RV (r:bF):∀a:b4,dh (jj a r)=(dT r).foldl e3 (dh a)/\∀d,de (jj a r) d=de a d:=by
 induction r with
 |nil=>show λa=>#[V,λf=>rfl]|cons b r e=>
  intro a;show am (e<|ji a b.1<|(a.lookup b.1).getD []) λf g=>?_;show#[?_,λd=>?_]
  .show(?_:dh (jj (ji a b.1<|(a.lookup b.1).getD []) r)=_);mspec f;rw[G2];rfl
  .show(?_:de (jj (ji a b.1<|(a.lookup b.1).getD []) r) d=_);rw[g];unfold de;rw[G1];split
   .next h=>subst h;rfl
   .rfl
def dp.init (a:dp (b++[r])):dp b where
 len:=by have:=a.len;rw[dE]at this;show iD ‹_›
 row:=λd e b=>a.row d e (by mspec s0 (gG.mp b).1;show b)
def dp.ek {r:bF}(a:dp (b++[r])):∃af body,r=(3+(b.length:Int),af)::body/\iu (3+(b.length:Int),af)/\body≠[]/\body.length<=3/\∀d∈body,iu d:=a.row b.length r (by simp)
def G3 (a:Int):da (b++[r]) a=if a=3+(b.length:Int)then ee (dT r.tail)else da b a:=by
 unfold da;by_cases d:3<=a
 .mspec if_pos d;mspec if_pos d;by_cases e:a=3+(b.length:Int)
  .mspec if_pos e;mspec(show(a - 3).toNat=b.length by show cZ (dH.mp<|bh [↑(a - 3).toNat,↑b.length,a] [.C d7<| .y (.n 3) aA,.C f<| .c6 d7<| .n 3] 0 f aA H (c2 e:) (c2 (gx<|bh [a] [.C (.n 3) f] 0 (.n 0) (.c6 f<| .n 3) H d):))<|dH.mp<|bh [↑b.length,↑(a - 3).toNat,a] [.C (.y (.n 3) f) d7,.C (.c6 d7<| .n 3) aA] 0 f aA H (c2 (e).symm:) (kl (a - 3):));simp
  .mspec if_neg e;show aw (sc (a - 3).toNat b.length) (λg=>?_) λg=>?_
   .show aI (s0 g) V
   .mspec nZ (by show aI dE ?_;show aI gw ?_;show(s2 e).elim (λh=>dH.mp<|bh [↑b.length,↑(a - 3).toNat,a] [#[2,f,aA],.C aA<| .c6 d7<| .n 3,.aK d7<| .y (.n 3) f] 0 (.Q f) aA H (dH.mpr g:) (c2 (gx<|bh [a] [.C (.n 3) f] 0 (.n 0) (.c6 f<| .n 3) H d):) h) λh=>dH.mp<|bh [↑b.length,↑(a - 3).toNat,a] [.C (.c6 d7<| .n 3) aA,.aK (.y (.n 3) f) d7] 0 (.Q f) aA H (kl (a - 3):) h);show aI (nZ g) V
 .mspec if_neg d;mspec if_neg d;show aI (if_neg<|by show λe=>kI [a,↑b.length] [.aK f<| .n 3,.C (.n 0) aA,.C (.y (.n 3) aA) f] H (Int.not_le.mp d:) (f3 b.length:) (c2 (e).symm:)) V
def iO (a:List bF)(e:dp a):dh (bk a)=cF a/\∀b,de (bk a) b=da a b:=by
 induction a using i4 with
 |nil=>show#[V,λb=>by unfold da;split<;>rfl]|snoc a r d=>
  show am (d e.init) λf g=>?_;show cm e.ek λd body h=>?_;show By h λe j k l=>?_;have e:bk (a++[(3+(a.length:Int),d)::body])=om (bk a) ((3+(a.length:Int),d)::body):=by
   unfold bk;mspec iX;rfl
  show am (RV ((3+(a.length:Int),d)::body)<|bk a) λh i=>?_;mspec e;unfold om;show#[?_,λb=>?_]
  .rw[G2];mspec h;mspec f;show(?_:e3 _ (3+(a.length:Int))=_);rw[AO]
   .unfold cF;mspec iX;rfl
   .show(oF).mpr ?_;show .inr ao
  .show(?_:((ji _ (3+(a.length:Int)) _).lookup b).getD []=_);rw[G1,G3];split
   .rw[wt];rfl
   .rw[<-g,<-i];rfl
def AP (a:List bF)(r:bF):cF (a++[r])=(dT r).foldl e3 (cF a):=by unfold cF;mspec iX;rfl
def tp (a:List bF):(cF a).Nodup:=by
 induction a using i4 with
 |nil=>show .nil|snoc a r b=>rw[AP];show RQ b
def wM (d:List bF)(f:Int):f∈cF d↔∃r∈d,f∈dT r:=by
 induction d using i4 with
 |nil=>simp[cF]|snoc d r g=>
  rw[AP,oF,g];constructor
  .rintro(⟨e,a,b⟩|b)
   .show as e (by simp[a]) b
   .show as r (by simp) b
  .intro d;show aX d λe a b=>?_;show cK a (λa=>?_) λa=>?_
   .show .inl<|as e a b
   .rw[bW a]at b;show .inr b
def RW (d:dp m):∀r∈m,∀b∈dT r,d0 b:=λr e b a=>by
 obtain⟨f,g⟩:=x6.mp e;obtain⟨b,body,rfl,h,e,j,i⟩:=d.row f r g;show gh a ?_ λa=>?_
 .show h.1
 .show g1 a λb d=>?_;show(i b d).1
def ht (d:dp b):∀a∈cF b,d0 a:=λa e=>by
 show aX ((wM b a).mp e) λr f g=>?_;show RW d r f a g
def oG (a:n∈da b m):3<=m/\∃r∈b,n∈dT r.tail/\b[(m - 3).toNat]?=O r:=by
 unfold da at a;split at a
 .next d=>
  show#[d,?_];cases hq:b[(m - 3).toNat]? with
  |none=>replace a:=hq▸a;cases a
  |some r=>
   replace a:=hq▸a;show fo r (ic hq) (ww a) V
 .cases a
def G4 (a:b∈da m n):b∈cF m:=by
 show am (oG a) λd e=>?_;show v e λr a=>?_;show cd a λe f d=>?_;show(wM m b).mpr #[r,e,by
  show g1 f λb a=>?_;show dI<|Qz a]
def G5 (e:dp b)(a:Int):(da b a).length<=3:=by
 unfold da;split
 .cases hq:b[(a - 3).toNat]? with
  |none=>show ew _|some r=>
   show bB λf d=>?_;obtain⟨a,body,rfl,b,h,g,i⟩:=e.row _ r hq;show d ?_;clear d f;have:=Gr<|dT body;rw[a6]at this;show a5 this g
 .show ew _
theorem G6:∀{a:b4},(dh a).Nodup->∀d∈a,a.lookup d.1=O d.2
 |g::a,h,d,e=>by
  obtain⟨f,b⟩:=g;mspec fB;have h':(f::dh a).Nodup:=h;replace h':=(ka).mp h';show aw (a4 e) (λi=>?_) λe=>?_
  .obtain rfl:=i;simp
  .have a:d.1≠f:=λf=>h'.1<|f▸dI e;mspec beq_eq_false_iff_ne.mpr a;show G6 h'.2 d e
def RX (d:dp b):iM (bk b):=by
 show am (iO b d) λe g=>?_;have f:(dh<|bk b).Nodup:=e▸tp b;show#[λh i=>ht d h<|e▸i,f,λa j=>?_];have h:a.2=da b a.1:=by
  rw[<-g];unfold de;mspec G6 f a j;rfl
 mspec h;mspec e;show cG (by have:=G5 d a.1;show b0) (λb=>?_)<|λd a=>G4 a;show v (vD _ b) λd a=>?_;show(oG a).1
noncomputable def mk (fI:h)(mJ:Int->Int)(rx:Int->h):dk:=fI.map λae=>(a2 ae,mJ ae,(rx ae).map a2)
def oH (d:∀a∈b,m a=n a)(e:∀a∈b,o a=r a):mk b m o=mk b n r:=
 hC λa b=>by mspec d a b;show aI (e a b) V
def ry (a:h)(b:Int->Int)(d:Int->h):cP (mk a b d)=a.map a2:=by
 show(?_:(a.map _).map _=_);mspec d2;rfl
def wN {b:h}(d:∀a∈b,d0 a){a:Int}(e:d0 a):a2 a∈b.map a2↔a∈b:=by
 constructor
 .intro a;show aX (ck a) λf b g=>?_;show(ru e (d f b) g.symm)▸b
 .show λa=>dI a
def G7 (h:∀a∈b,d0 a){a:Int}(i:d0 a)(j:a∉b->m a=0/\n a=[]):iZ (mk b m n) (a2 a)=mk (e3 b a) m n:=by
 have d:((mk b m n).any λf=>f.1==a2 a)=decide (a∈b):=by
  rw[sY,ko];mspec decide_eq_true_eq;rw[<-wN h i];unfold mk;constructor
  .intro h;show aX h λf k l=>?_;obtain⟨g,e,rfl⟩:=ck k;show iw.mpr (as g e<|by simpa using l)
  .intro f;show aX (ck f) λg e d=>?_;show as _ (dI e) (by simpa using d)
 unfold iZ e3;mspec d;by_cases d:a∈b
 .mspec if_pos (by simpa using d);show aI (if_pos d) V
 .mspec if_neg (by simpa using d);mspec if_neg d;show am (j d) λa b=>?_;unfold mk;mspec eV;mspec b7;mspec m9;mspec a;mspec b;rfl
def wO (k:∀a∈m,d0 a){b:Int}(l:d0 b){mJ:Int->Int}{rx:Int->h}(j:i×Int×ak->i×Int×ak)(d:Int->Int)(e:Int->h)
 (n:j (a2 b,mJ b,(rx b).map a2)=(a2 b,d b,(e b).map a2)) (o:∀a,a≠b->d a=mJ a/\e a=rx a):
 ((mk m mJ rx).map λf=>if f.1=a2 b then j f else f)=mk m d e:=by
 unfold mk;mspec d2;show hC λa p=>?_;show(?_:(if a2 a=a2 b then _ else _)=_);by_cases g:a=b
 .subst g;mspec if_pos V;show n
 .mspec if_neg<|λb=>g<|ru (k a p) l b;show am (o a g) λb d=>?_;mspec b;show aI d V
def RY (f:∀a∈m,d0 a)(g:d0 n){b:Int->Int}{e:Int->h}(d:Int):vk (mk m b e) (a2 n) d=mk m (λa=>if a=n then b a+d else b a) e:=
 wO f g (λb=>(b.1,b.2.1+d,b.2.2)) _ _ (by simp) λa e=>#[if_neg e,V]
def RZ (g:∀a∈m,d0 a){b d:Int}(i:d0 b){f:Int->Int}{e:Int->h}:po (mk m f e) (a2 b) (a2 d)=mk m f (λa=>if a=b then e a++[d]else e a):=
 wO g i (λb=>(b.1,b.2.1,b.2.2++[a2 d])) _ _ (by simp) λa e=>#[V,if_neg e]
def wP (b:∀a∈m,d0 a)(d:d0 n):∀a∈e3 m n,d0 a:=λa e=>(rv.mp e).elim (b a) λf=>f▸d
def R0 {b d:h}(e:∀a∈d,d0 a)(f:∀a∈b,d0 a):∀a∈b.foldl e3 d,d0 a:=λa b=>(oF.mp b).elim (e a)<|f a
theorem G8:∀(d:h)(e:h)(f:Int->Int)(g:Int->h),(∀a∈e,d0 a)->(∀a∈d,d0 a)->(∀a,a∉e->f a=0/\g a=[])->
 (d.map a2).foldl (λo b=>po (iZ o b) b<|a2 r) (mk e f g)=mk (d.foldl e3 e) f (λa=>g a++kA (d.count a) r)
 |[],e,f,g,_,_,_=>oH (λi i=>rfl) λa i=>by simp|b::d,e,f,g,k,m,n=>by
  have e:=m b ao;rw[b7,hV,G7 k e<|n b,RZ (wP k e) e,G8 d _ _ _ (wP k e) (λa j=>m a<|A j)<|λa j=>?_,hV]
  .show oH (λi i=>rfl) λa i=>?_;mspec G9;by_cases l:a=b
   .subst l;simp[hX,List.replicate_succ',<-Ap]
   .rw[if_neg l,if_neg (by simpa using λd:b=a=>l d.symm),nQ]
  .show am (n a<|λd=>j<|rv.mpr<| .inl d) λe f=>?_;show#[e,by mspec if_neg (λd=>j (rv.mpr<| .inr d):a≠b);show f]
def Ha (e:∀a∈n,d0 a)(d:d0 b)(h:∀a∈m,d0 a)(f:∀a,a∉n->o a=0/\r a=[]):
 mw (mk n o r) (a2 b) (m.map a2)=mk ((b::m).foldl e3 n) (λa=>if a=b then o a+m.length else o a) (λa=>r a++kA (m.count a) b):=by
 unfold mw;rw[a6,G7 e d<|f b,RY (wP e d) d,G8 m _ _ _ (wP e d) h<|λa g=>?_]
 .rfl
 .show am (f a (λb=>g (rv.mpr<| .inl b):a∉n)) λd e=>?_;show#[by mspec if_neg<|λb=>g<|rv.mpr<| .inr b;show d,e]
noncomputable def fL (bT:List bF)(ae:Int):h:=da bT ae++(da bT ae).take 1
noncomputable def jx (bT:List bF)(ae:Int):Int:=(fL bT ae).length
noncomputable def dl (bT:List bF)(bu:Int):h:=(h7 bT.length).flatMap λ(s:Nat)=>kA ((fL bT<|3+(s:Int)).count bu)<|3+(s:Int)
def tq (a:Int):fL (b++[r]) a=if a=3+(b.length:Int)then ee (dT r.tail)++(ee<|dT r.tail).take 1 else fL b a:=by
 unfold fL;rw[G3];split<;>rfl
def R1 (a:3+(m.length:Int)<=b):da m b=[]:=by
 unfold da;mspec if_pos (by show bh [b,↑m.length] [.C (.y (.n 3) aA) f,.C (.n 0) aA] 0 (.n 3) f H a (f3 m.length:));mspec nZ (by show dH.mp<|bh [↑m.length,↑(b - 3).toNat,b] [.C (.y (.n 3) f) d7,.C (.c6 d7<| .n 3) aA] 0 f aA H a (kl (b - 3):));rfl
def R2 (a:3+(b.length:Int)<=m):fL b m=[]:=by unfold fL;mspec R1 a;rfl
theorem Hb {e i:Type}{f g:e->List i}:∀{a:List e},(∀d∈a,f d=g d)->a.flatMap f=a.flatMap g
 |[],_=>rfl|d::a,h=>by rw[ti,ti,h d ao,Hb λb a=>h b<|A a]
def AQ (a:Int):dl (b++[r]) a=dl b a++kA ((ee (dT r.tail)++(ee<|dT r.tail).take 1).count a) (3+(b.length:Int)):=by
 unfold dl;mspec dE;mspec gw;mspec QH;mspec wb;congr 1
 .show Hb λb a=>?_;have:=iW.mp a;rw[tq];show aI (if_neg<|by show λa=>p2 [.aK G N,.C (.y (.n 3) N)<| .y (.n 3) G] H this<|ay (jm a).symm) V
 .mspec ti;mspec R3;rw[fj,tq];show aI (if_pos V) V
def nK:b∈dl m n↔(∃d:Nat,d<m.length/\b=3+(d:Int))/\n∈da m b:=by
 unfold dl;rw[GY];have f:∀b,n∈fL m b↔n∈da m b:=λb=>by
  unfold fL;rw[lY];show#[λa=>a.elim id λa=>sq a,.inl]
 constructor
 .intro b;show aX b λd e a=>?_;replace a:=(Hc).mp a;show kJ a λb=>?_;show#[(as d (iW.mp e) V),(f _).mp<|AR.mp<|sP b]
 .rintro⟨⟨d,e,rfl⟩,a⟩;show as d (iW.mpr e)<|Hc.mpr #[Cu<|AR.mpr<|(f _).mpr a,V]
def R4 (e:b∉cF m)(h:dp m):jx m b=0/\dl m b=[]:=by
 have i:da m b=[]:=by
  cases hq:da m b with
  |nil=>rfl|cons g j=>
   show bB λd a=>?_;obtain⟨k,r,l,_,o⟩:=oG<|hq▸ao;show a ?_;clear a d;show bB λd a=>?_;obtain⟨p,body,rfl,q,_⟩:=h.row _ r o;show a ?_;clear a d;show absurd ((wM m b).mpr<|as _ l ?_) e;show(?_:b∈(3+(((b - 3).toNat:Nat):Int))::body.map (·.1));show hP.mpr (.inl<|by show gr (bh [b,↑(b - 3).toNat] [.C (.c6 f<| .n 3) aA] 0 f (.y (.n 3) aA) H (kl (b - 3):))<|bh [↑(b - 3).toNat,b] [.C f<| .c6 aA<| .n 3] 0 (.y (.n 3) f) aA H (c2 (gx<|bh [b] [.C (.n 3) f] 0 (.n 0) (.c6 f<| .n 3) H k):))
 show#[by unfold jx fL;mspec i;rfl,?_];cases hq:dl m b with
 |nil=>rfl|cons g j=>
  show absurd (G4 (nK.mp (by show hq▸ao:g∈dl m b)).2) e
def R5 (r:bF):f1 r=(ee<|dT r).map a2:=by
 unfold f1;rw[rp];mspec d2;show hC λa d=>?_;show(?_:(kB a).getD "*"=_);unfold kB;split
 .next b=>subst b;rfl
 .rfl
def R6 (a:List bF)(p:dp a):a.foldl wG []=mk (cF a) (jx a) (dl a):=by
 induction a using i4 with
 |nil=>rfl|snoc a r u=>
  have k:=p.init;show bB λl h=>?_;obtain⟨q,body,rfl,m,v,D,w⟩:=p.ek;show h ?_;clear h l;mspec iX;mspec u k;mspec hV;mspec Gh;unfold wG;have o:∀b∈ee (dT body),d0 b:=λb d=>by
   show bB λl h=>?_;obtain⟨x,B,rfl⟩:=ck<|ww d;show h ?_;clear h l;show(w x B).1
  have s:∀b,b∉cF a->jx a b=0/\dl a b=[]:=λb d=>R4 d k;have t:=ht k;obtain⟨e,j,i⟩:∃e j,ee (dT body)=e::j:=by
   cases hq:ee (dT body)with
   |nil=>show absurd hq<|An<|λg=>v<|tb.mp g
   |cons e j=>show dM e j V
  mspec(V:kD ((3+(a.length:Int),q)::body)=a2 (3+(a.length:Int)));mspec R5 body;mspec Ha t m.1 o s;have h:[((ee<|dT body).map a2).headD ""]=[e].map a2:=by mspec i;rfl
  have j:∀b,b∉((3+(a.length:Int))::ee (dT body)).foldl e3 (cF a)->(if b=3+(a.length:Int)then jx a b+(ee<|dT body).length else jx a b)=0/\dl a b++kA ((ee<|dT body).count b) (3+(a.length:Int))=[]:=λb d=>by
   show am (s b<|λg=>d<|oF.mpr<| .inl g) λk l=>?_;mspec if_neg (λg=>d (oF.mpr<| .inr<|g▸ao):b≠3+(a.length:Int));mspec k;mspec l;mspec wQ.mpr<|λg=>d<|oF.mpr<| .inr<|A g;show#[V,V]
  have g:∀b∈((3+(a.length:Int))::ee (dT body)),d0 b:=λb d=>by
   show gh d ?_ λd=>?_
   .show m.1
   .show o b d
  mspec h;mspec Ha (R0 t g) m.1 (λb d=>by show kH d (o e (by show i▸ao):d0 e)) j;have g:([3+(a.length:Int),e].foldl e3 (((3+(a.length:Int))::ee (dT body)).foldl e3<|cF a))=cF (a++[(3+(a.length:Int),q)::body]):=by
   rw[RR<|λb d=>?_,AP]
   .show(?_:(ee<|dT body).foldl e3 (e3 (cF a)<|3+(a.length:Int))=(dT body).foldl e3 (e3 (cF a)<|3+(a.length:Int)));rw[RS]
   .show(oF).mpr ?_;show .inr ?_;show gh d ?_ λd=>?_
    .show ao
    .mspec bW d;mspec i;show A ao
  mspec g;show oH (λb e=>?_) λb e=>?_
  .unfold jx;rw[tq];by_cases d:b=3+(a.length:Int)
   .mspec if_pos d;mspec if_pos d;mspec if_pos d;mspec R2 (by show bh [↑a.length,b] [.C (.y (.n 3) f) aA] 0 (.y (.n 3) f) aA H (c2 (d).symm:));show(?_:_=(((ee<|dT body)++(ee<|dT body).take 1).length:Int));mspec dE;mspec i;simp
   .mspec if_neg d;mspec if_neg d;show aI (if_neg d) V
  .rw[AQ];rw[hX];mspec List.replicate_append_replicate;show(?_:_=dl a b++kA ((ee (dT body)++(ee<|dT body).take 1).count b) _);mspec R7;mspec i;rfl
noncomputable def lm (bZ:dk)(s:Nat)(b:hZ)(a:ak):Option (ak ⊕ak):=match iq bZ b with
 |none=>O<| .inr a
 |O (af,d)=>jU bZ s af d a
noncomputable def mK (bZ:dk)(aa:i):Nat:=(et bZ aa).length
noncomputable def gW (bZ:dk)(bL:ak)(a:ak):Nat:=(bL.map λaa=>if aa∈a then 0 else mK bZ aa).sum
def Hd {e:i}{b:ak}(k:e∉b):∀{a:ak},e∈a->gW bZ a (e::b)+mK bZ e<=gW bZ a b:=by
 have l:∀a:ak,gW bZ a (e::b)<=gW bZ a b:=by
  intro a
  induction a with
  |nil=>show cg _|cons h a f=>
   unfold gW at f ⊢;mspec b7;mspec b7;mspec hW;mspec hW;by_cases d:h∈b
   .mspec if_pos d;mspec if_pos<|A d;show b9 [.C G N] 0 (.y (.n 0) G) (.y (.n 0) N) H f
   .mspec if_neg d;split<;>lia
 intro a
 induction a with
 |nil=>intro g;cases g
 |cons h a f=>
  intro g;have j:=l a;unfold gW at f j ⊢;mspec b7;mspec b7;mspec hW;mspec hW;rcases a4 g with rfl|g
  .mspec if_pos ao;mspec if_neg k;show bb [.C G t] 0 (.y (.y (.n 0) G) N) (.y N t) H j
  .by_cases d:h∈b
   .mspec if_pos d;mspec if_pos<|A d;show bb [.C (.y G N) t] 0 (.y (.y (.n 0) G) N) (.y (.n 0) t) H<|f g
   .mspec if_neg d;split<;>lia
structure tr (bZ:dk)(bL:ak)(ca:Nat->i->Prop):Prop where
 zero:∀aa∈bL,ca 0 aa
 down:∀n aa,ca (n+1) aa->ca n aa
 step:∀n aa,ca n aa->¬ca (n+1) aa->∀af∈et bZ aa,¬ca n af
 je:∀aa∈bL,∀af∈et bZ aa,af∈bL
def AS (a:i)(b:Nat)(r:hZ):cr ((a,b)::r)=cr r++[a]:=by simp[cr]
def AT {a:ak}(d:(et b m)[n]?=O o):lm b w ((m,n)::r) a=jU b w o ((m,n+1)::r) a:=by
 unfold lm;show aI (zE d) V
def R8 {r:hZ}{a:ak}(d:(et b m)[n]?=c):lm b o ((m,n)::r) a=lm b o r a:=by
 unfold lm;show aI (zF d) V
def R9 {a:ak}(d:b∈a)(e:b∉cr m):jU n (o+1) b m a=lm n o m a:=by
 show(if_pos d).trans<|(if_neg e).trans V
def He {a:ak}(d:b∉a):jU m (n+1) b o a=lm m n ((b,0)::o) (b::a):=by
 show(if_neg d).trans V
def Hf (q:tr o w x):∀(n:Nat)(b:i),b∈w->¬x n b->∀(e:Nat)(j:hZ)(g:ak)(r:Nat),(∀a∈cr j,x n a)->gW o w g+1+r<=e->
 ∃h f,jU o e b j g=lm o h j f/\h<=e/\gW o w f+r<=h/\(∀a∈g,a∈f)/\b∈f/\∀a∈f,a∈g\/(a∈w/\¬x n a):=by
 intro n
 induction n with
 |zero=>show λb u v=>absurd (q.zero b u) v|succ n S5=>
  intro b u v e j g r K I;by_cases L:x n b
  .obtain⟨e,rfl⟩:∃S9,e=S9+1:=#[e - 1,by show cZ ((eY<|cg<|e - 1))<|(ay<|e8 (n:=e) (m:=1)<|bb [.C (.y (.Q N) t) G] 0 (.n 1) G H I)];by_cases J:b∈g
   .show tY e g (R9 J (λl=>v (K b l):b∉cr j)) (by simp+arith) (bb [.C (.y (.Q G) N)<| .Q t] 0 (.y G N) t H I) (λa d=>d) J<|λa d=>.inl d
   .mspec He J;have iter:∀(l p:Nat),p+l=mK o b->∀(e:Nat)(k:ak),gW o w k+l+r<=e->(∀a∈g,a∈k)->b∈k->(∀a∈k,a∈g\/(a∈w/\¬x (n+1) a))->
     ∃h f,lm o e ((b,p)::j) k=lm o h j f/\h<=e/\gW o w f+r<=h/\(∀a∈g,a∈f)/\b∈f/\∀a∈f,a∈g\/(a∈w/\¬x (n+1) a):=by
     intro l
     induction l with
     |zero=>
      intro p s e k M B D E;show tY e k (R8<|nZ (by unfold mK at s;show b9 [.C G<| .y N<| .n 0] 0 G N H<|ay (s).symm)) (cg _) (bb [.C (.y (.y G<| .n 0) N) t] 0 (.y G N) t H M) B D E
     |succ l Ta=>
      intro p s e k M B D E;have S6:p<(et o b).length:=by unfold mK at s;show bb [.C (.y G<| .Q t) N] 0 (.Q G) N H<|ay s
      have S7:(et o b)[p]∈et o b:=oA S6;mspec AT<|gm S6;obtain⟨h,f,P,Tb,Tc,S8,w,Td⟩:=S5 _ (q.je b u _ S7) ((q.step n b L v) _ S7) e ((b,p+1)::j) k (l+r) (λa d=>by
       rw[AS]at d;show cK d (λd=>?_) λd=>?_
       .show q.down n a<|K a d
       .show kH d L)<|c5 [.C (.y (.y G<| .Q N) t) aU] 0 (.y (.Q G)<| .y N t) aU H M
      mspec P;show bB λR F=>?_;show f4 (Ta (p+1) (cZ (bb [.C (.y G<| .Q N) t] 0 (.y (.Q G) N) t H<|ay s)<|bb [.C G<| .y N<| .Q t] 0 G (.y (.Q N) t) H<|ay (s).symm) h f (c5 [.C (.y G<| .y N t) aU] 0 (.y (.y G N) t) aU H Tc) (λa d=>S8 a<|B a d) (S8 b D) λa d=>(Td a d).elim (E a) λS=>am S λT U=>.inr #[T,λV=>U<|q.down n a V]) λW X Y Z S4=>?_;show F ?_;clear F R;show f5 W X Y (a5 Z Tb) S4
    obtain⟨W,X,Y,Z,S4⟩:=iter (mK o b) 0 (by simp+arith) e (b::g) (jA [.C (.y (.Q dx) t)<| .Q aU,.C (.y G N) dx] 0 (.y (.y G N) t) aU H I<|Hd (bZ:=o) J u) (λa d=>A d) ao λa d=>by
     show aw (a4 d) (λTe=>?_) λd=>?_
     .obtain rfl:=Te;show .inr #[u,v]
     .show .inl d
    show f5 W X Y (b9 [.C G N] 0 G (.Q N) H Z) S4
  .show bB λR F=>?_;show tW (S5 b u L e j g r (λa d=>q.down n a<|K a d) I) λh f P h0 B D E b=>?_;show F ?_;clear F R;show tY h f P h0 B D E<|λa d=>(b a d).imp id λS=>am S λT U=>#[T,λV=>U<|q.down n a V]
inductive nL {a:Type}[BEq a](b:a->Option a):List a->a->List a->Prop
 |nA {fv:List a} {an:a}:an∈fv->nL b fv an (fv.drop (fv.idxOf an)++[an])|step {fv:List a} {an d:a} {e:List a}:an∉fv->b an=O d->nL b (fv++[an]) d e->nL b fv an e
def Sa (J:tr o x r)(h:Nat)(K:i->Option i)
 (S9:∀D∈x,r h D->∃(v:Nat) (p:i),(et o D)[v]?=O p/\r h p/\K D=O p/\∀(e:Nat)(Y:i),e<v->(et o D)[e]?=O Y->¬r h Y):
 ∀(f:Nat)(d:i)(g:hZ)(j:ak),d∈x->r h d->(∀a∈cr g,r h a/\a∈j)->(∀a∈j,r h a->a∈cr g)->gW o x j+1<=f->∃q,jU o f d g j=O (.inl q)/\nL K (cr g) d q:=by
 intro f
 induction f using Nat.strongRecOn with
 |ind f Ta=>
  intro d g j E F I Z S4;obtain⟨f,rfl⟩:∃e,f=e+1:=#[f - 1,by show cZ ((eY<|cg<|f - 1))<|(ay<|e8 (n:=f) (m:=1)<|b9 [.aK N G] 0 (.n 1) G H S4)];by_cases B:d∈j
  .have w:=Z d B F;show as _ ((if_pos B).trans<|if_pos w)<| .nA w
  .show bB λY D=>?_;show l5 (S9 d E F) λv p L hd Tb Tc=>?_;show D ?_;clear D Y;have S5:=Hd (bZ:=o) B E;have S6:=(gG.mp L).1;mspec He B;have iter:∀(l e:Nat),e+l=v->∀(s:Nat)(k:ak),s<=f->gW o x k+l+1<=s->(∀a∈j,a∈k)->d∈k->(∀a∈k,a∈j\/a=d\/¬r h a)->
    ∃q,lm o s ((d,e)::g) k=O (.inl q)/\nL K (cr g) d q:=by
    intro l
    induction l with
    |zero=>
     intro e u s k Td M P w R;obtain rfl:e=v:=cZ (b9 [.C (.y G<| .n 0) N] 0 G N H<|ay u)<|b9 [.C G<| .y N<| .n 0] 0 G N H<|ay (u).symm;mspec AT L;have S:cr ((d,e+1)::g)=cr g++[d]:=AS _ _ _;obtain⟨q,T,U⟩:=Ta s (by show qF ‹_›) p ((d,e+1)::g) k (J.je d E p (ic L):p∈x) hd (λa b=>by
      rw[S]at b;show cK b (λb=>?_) λb=>?_
      .show#[(I a b).1,P a (I a b).2]
      .show(bW b)▸#[F,w]) (λa b S7=>by
      mspec S;rcases R a b with W|rfl|W
      .show bI<|Z a W S7
      .simp
      .show absurd S7 W)<|b9 [.aK (.y G<| .n 0) N] 0 (.Q G) N H M
     show as q T (.step (λl=>B (I d l).2) Tb (by replace U:=S▸U;show U))
    |succ l Te=>
     intro e u s k Td M P w R;have X:e<(et o d).length:=c5 [.aK t N,.C (.y G<| .Q aU) t] 0 (.Q G) N H S6<|ay u;mspec AT<|gm X;obtain⟨Tf,Tg,T,p,Th,S8,q,Ti⟩:=Hf J h _ (J.je d E _<|oA X) (Tc e _ (bb [.C (.y G<| .Q t) N] 0 (.Q G) N H<|ay u) (gm X):¬r h (et o d)[e]) s ((d,e+1)::g) k (l+1) (λa b=>by
      rw[AS]at b;show cK b (λb=>?_) λb=>?_
      .show(I a b).1
      .show(bW b)▸F)<|bb [.aK (.y G<| .Q N) t] 0 (.y (.Q G)<| .Q N) t H M
     mspec T;show Te (e+1) (cZ (bb [.C (.y G<| .Q N) t] 0 (.y (.Q G) N) t H<|ay u)<|bb [.C G<| .y N<| .Q t] 0 G (.y (.Q N) t) H<|ay (u).symm) Tf Tg (by show a5 ‹_› ‹_›) (bb [.C (.y G<| .Q N) t] 0 (.Q<| .y G N) t H Th) (λa b=>S8 a<|P a b) (S8 d w) λa b=>(Ti a b).elim (R a) λe=>am e λh g=>.inr<| .inr g
   show iter v 0 (by simp+arith) f (d::j) (cg _) (by unfold mK at S5;show jA [.aK aU<| .Q t,.C (.y G dx) aU,.aK N dx] 0 (.Q<| .y G N) t H S4 S5 S6) (λa b=>A b) ao λa b=>by
    rcases a4 b with rfl|b
    .show .inr<| .inl V
    .show .inl b
def Hg (s:tr m b o)(j:Nat)(t:gW m b []<=900):
 ∀(d e a:ak),(∀f∈d,f∈b/\¬o j f)->(∀g∈a,¬o j g)->∃h,lU m 1000 (d++e) a=lU m 1000 e h/\∀g∈h,¬o j g:=by
 have u:∀(b a:ak),gW m b a<=gW m b []:=by
  intro b a
  induction b with
  |nil=>show cg _|cons i b k=>
   unfold gW at k ⊢;mspec b7;mspec b7;mspec hW;mspec hW;rw[if_neg (by simp:i∉[])];split<;>lia
 intro d
 induction d with
 |nil=>show λe a l i=>#[a,V,i]|cons f d k=>
  intro e a p q;have r:∀i∈d,i∈b/\¬o j i:=λi o=>p i<|A o;by_cases o:f∈a
  .show aX (k e a r q) λv w x=>#[v,(if_pos o).trans w,x]
  .have v:lU m 1000 (f::d++e) a=_:=if_neg o;mspec v;show am (p f ao) λv w=>?_;show bB λp o=>?_;show tW (Hf s j f v w 1000 [] a 0 (λg d=>nomatch d)<|b9 [.C N<| .n 900,.C G N] 0 (.y (.Q G)<| .n 0) (.n 1000) H t<|u b a) λf h j l l v w s=>?_;show o ?_;clear o p;mspec j;mspec(V:lm m f [] h=O (.inr h));show k e h r λg d=>(s g d).elim (q g) λa=>am a λl i=>i
def Sb (r:tr m b n)(e:Nat)(s:gW m b []<=900)(h:i->Option i)
 (t:∀a∈b,n e a->∃(k:Nat) (j:i),(et m a)[k]?=O j/\n e j/\h a=O j/\∀(l:Nat)(o:i),l<k->(et m a)[l]?=O o->¬n e o)
 (a:i) (u d:ak) (v:a∈b) (p:n e a) (q:∀f∈d,¬n e f):∃g,lU m 1000 (a::u) d=O (O g)/\nL h [] a g:=by
 have w:∀(b d:ak),gW m b d<=gW m b []:=by
  intro b d
  induction b with
  |nil=>show cg _|cons x b y=>
   unfold gW at y ⊢;mspec b7;mspec b7;mspec hW;mspec hW;rw[if_neg (by simp:x∉[])];split<;>lia
 show aX (Sa r e h t 1000 a [] d v p (λf j=>nomatch j) (λf j e=>absurd e<|q f j)<|p5 (a5 (w b d) s) H) λg h k=>?_;show as g ?_ k;show(if_neg<|λb=>q a b p).trans ?_;show aI h V
def Hh (i:∀a∈m,d0 a){a:Int}(j:d0 a)(d:Int->Int)(e:Int->h):(mk m d e).lookup (a2 a)=if a∈m then O (d a,(e a).map a2)else c:=by
 induction m with
 |nil=>rfl|cons b m f=>
  have f:=f λk l=>i k<|A l;show(?_:t0 (a2 a) ((a2 b,d b,(e b).map a2)::mk m d e)=_);mspec fB;by_cases g:a=b
  .subst g;simp
  .mspec(show(a2 a==a2 b)=aj from by simpa using λd=>g<|ru j (i b ao) d);dsimp only;mspec f;simp[g]
def ts (a:∀b∈m,d0 b)(d:b∈m)(f:Int->Int)(e:Int->h):et (mk m f e) (a2 b)=(e b).map a2:=by
 unfold et;rw[Hh a<|a b d];mspec if_pos d;rfl
def AU (a:∀b∈m,d0 b)(d:b∈m)(e:Int->Int)(f:Int->h):i1 (mk m e f) (a2 b)=e b:=by
 unfold i1;rw[Hh a<|a b d];mspec if_pos d;rfl
def Hi (d:dp b)(a:m<b.length):3+(m:Int)∈cF b:=by
 show f4 (d.row m b[m]<|gm a) λf body e g h=>?_;show(wM b _).mpr (as (b[m]) (oA a) (by mspec e;show ao))
def rz (a:dp b)(d:m∈dl b n):m∈cF b:=by
 show am (nK.mp d) λb e=>?_;show v b λe d=>?_;show kJ d λb=>?_;show Hi a b
theorem tt (a:b4):∀n,(en a n).Sublist (dh a)
 |0=>Oa _|n+1=>lS.trans<|tt a n
theorem Hj (a:b4):∀n,hj a (en a n)=en a n\/(en a n).length+n<=a.length
 |0=>.inr<|ay (a6 ..)
 |n+1=>by
  rcases Hj a n with b|b
  .left;mspec show en a (n+1)=en a n from b;show aI b V
  .by_cases d:hj a (en a n)=en a n
   .left;mspec show en a (n+1)=en a n from d;show aI d V
   .right;have e:(hj a<|en a n).Sublist (en a n):=lS;have f:=e.length_le;show(MD (show(hj a<|en a n).length≠(en a n).length from λg=>d<|e.eq_of_length g)).elim (λa=>c5 [.C (.y aU N) t,.aK G aU] 0 (.y G<| .Q N) t H b a) λa=>c5 [.C (.y aU N) t,#[2,G,aU],.aK aU G] 0 (.y G<| .Q N) t H b f a
def Sc (a:b4):hj a (cI a)=cI a:=by
 unfold cI;show aw (Hj a a.length) (λb=>?_) λb=>?_
 .show b
 .mspec show en a a.length=[]from n9.mp<|cZ (b9 [.C (.y G N) N] 0 G (.n 0) H b)<|ew _;rfl
def Hk:b∈hj n m↔b∈m/\∃a∈m,b∈de n a:=by
 unfold hj;rw[e7];mspec decide_eq_true_eq;show and_congr_right λd=>#[λe=>?_,λf=>aX f λa d g=>?_]
 .show v (vD _ e) λa d=>?_;show am (e7.mp d) λe f=>?_;show aX (ko.mp f) λj h i=>?_;show as a e (by show ch (beq_iff_eq.mp i) ?_;show h)
 .show MH<|e7.mpr #[d,ko.mpr<|as b g<|beq_self_eq_true b]
theorem AV {h:Type}[DecidableEq h]:∀{b d:List h},b.Sublist d->d.Nodup->b=d.filter λe=>decide (e∈b)
 |_,_,.slnil,_=>rfl|b,g::d,.cons _ f,a=>by
  replace a:=(ka).mp a;have h:g∉b:=λi=>a.1<|f.subset i;mspec DY (by simpa using h);show AV f a.2
 |g::b,_::d,.cons_cons _ f,a=>by
  replace a:=(ka).mp a;mspec DZ (by simp);congr 1;have d:=AV f a.2;rw[pp (q:=λe=>decide (e∈b)) λe f=>?_]
  .show d
  .have:e≠g:=λb=>a.1<|b▸f;simp[this]
def Hl:el 3 8=[3,4,5,6,7]:=by decide
def rA:m∈hH o left n↔(3<=m/\m<8)/\m∈left/\n∈de o m:=by
 unfold hH;rw[e7];mspec Hl;rw[i7,ko,ko];constructor
 .rintro g;show bB λh e=>?_;obtain⟨f,⟨k,a,i⟩,⟨b,d,j⟩⟩:=g;show e ?_;clear e h;rw[beq_iff_eq.mp i]at a;rw[beq_iff_eq.mp j]at d;show cG ?_ a d;simp only[hP,mL,or_false]at f;lia
 .rintro⟨f,a,d⟩;show cG ?_ (as m a<|beq_self_eq_true m)<|as n d<|beq_self_eq_true n;simp only[hP,mL,or_false];lia
def Sd (a:b4)(left:h)(b:Int):(hH a left b).Pairwise (·<·):=by
 unfold hH;show Se lS ?_;mspec Hl;decide
def Sf (a:b∈dl m o):b<3+(m.length:Int):=by
 show am (nK.mp a) λb d=>?_;show v b λd a=>?_;show kJ a λb=>?_;show ej.mpr<|b9 [.aK G N] 0 (.Q<| .y (.n 3) G) (.y (.n 3) N) H b
def Sg (a:List bF)(e:Int):(dl a e).Pairwise (·<=·):=by
 induction a using i4 with
 |nil=>show .nil|snoc a r g=>
  rw[AQ];show ii.mpr<|cG g ?_<|λh e b d=>?_
  .show(List.pairwise_replicate).mpr ?_;show .inr<|tS _
  .have:=Sf e;rw[Hc]at d;mspec d.2;show bh [h,↑a.length] [.aK f<| .y (.n 3) aA] 0 f (.y (.n 3) aA) H this
theorem Hm:∀{e:h}{a:Nat},a<e.idxOf m->e[a]?≠O m
 |[],a,_,d=>by simp at d|g::e,a,b,d=>by
  rw[sS]at b;by_cases f:g=m
  .subst f;simp at b
  .replace b:=(beq_eq_false_iff_ne.mpr f)▸b;cases a with
   |zero=>simp at d;show f d|succ a=>
    rw[cond_false]at b;show Hm (lr b) (by simpa using d)
def Sh (t:dp b){ae:Int}(I:ae∈cI (bk b)):∃(u:Nat) (a:Int),(dl b ae)[u]?=O a/\a∈cI (bk b)/\(hH (bk b) (cI<|bk b) ae).head?=O a/\∀(g:Nat)(d:Int),g<u->(dl b ae)[g]?=O d->d∉cI (bk b):=by
 show am (iO b t) λJ h=>?_;have u:=Sc<|bk b;have w:=I;rw[<-u]at w;show am (Hk.mp w) λj k=>?_;show v k λl m=>?_;show am m λx o=>?_;have A:l∈dh (bk b):=(tt _ _).subset x;rw[J]at A;rw[h]at o;have u:=(oG o).1;have w:=(ht t l A).2;have B:l∈hH (bk b) (cI<|bk b) ae:=rA.mpr (cG #[u,w] x (by rw[h];show o));cases hn:hH (bk b) (cI<|bk b) ae with
 |nil=>rw[hn]at B;cases B
 |cons a l=>
  have hd:a∈hH (bk b) (cI<|bk b) ae:=by mspec hn;show ao
  show cd (rA.mp hd) λp K q=>?_;rw[h]at q;have l:a∈dl b ae:=by
   show nK.mpr #[(as ((a - 3).toNat) ?_<|by show gr (bh [a,↑(a - 3).toNat] [.C (.c6 f<| .n 3) aA] 0 f (.y (.n 3) aA) H (kl (a - 3):))<|bh [↑(a - 3).toNat,a] [.C f<| .c6 aA<| .n 3] 0 (.y (.n 3) f) aA H (c2 (gx<|bh [a] [.C (.n 3) f] 0 (.n 0) (.c6 f<| .n 3) H p.1):)),q];show am (oG q) λj k=>?_;show v k λr m=>?_;show cd m λj j k=>?_;show(gG.mp k).1
  have i:(dl b ae).idxOf a<(dl b ae).length:=Jp.mpr l;show kM ((dl b ae).idxOf a) a ?_ K V<|λg d D s L=>?_
  .mspec gm i;show aI (Cz i) V
  .have E:d<=a:=by
    obtain⟨M,rfl⟩:=gG.mp s;have:=FI.mp (Sg b ae) g ((dl b ae).idxOf a) M i D;rwa[Cz i]at this
   have N:d≠a:=λe=>by
    subst e;show Hm D s
   show am (nK.mp (show d∈dl b ae from ic s)) λi j=>?_;show aX i λg l k=>?_;have F:d∈hH (bk b) (cI<|bk b) ae:=rA.mpr (cG #[by show bh [d,↑g] [.C (.y (.n 3) aA) f,.C (.n 0) aA] 0 (.n 3) f H (c2 (k).symm:) (f3 g:),by have:=p.2;show bh [d,a] [.aK aA<| .n 8,.C f aA] 0 (.Q f) (.n 8) H p.2 E] L (by rw[h];show j));rw[hn]at F;have G:=Sd (bk b) (cI<|bk b) ae;rw[hn,gq]at G;show aw (d1 F) (λe=>?_) λe=>?_
   .show N e
   .have:=G.1 d e;show kI [d,a] [.C f aA,.aK aA f] H E this
def tu (bT:List bF)(n:Nat)(aa:i):Prop:=∃ae∈en (bk bT) n,aa=a2 ae
noncomputable abbrev ln (bT:List bF):dk:=mk (cF bT) (jx bT)<|dl bT
def nM (a:dp b)(d:m∈en (bk b) n):m∈cF b:=by
 have:=(tt _ _).subset d;rwa[(iO b a).1]at this
def tv (b:dp m){n:Nat}{a:Int}(e:a∈cF m):tu m n (a2 a)↔a∈en (bk m) n:=by
 constructor
 .intro f;show aX f λg d h=>?_;show(ru (ht b a e) (ht b g<|nM b d) h)▸d
 .show λb=>as a b V
def Si (a:dp m):tr (ln m) ((cF m).map a2) (tu m) where
 zero:=λf g=>by
  show bB λk h=>?_;obtain⟨d,b,rfl⟩:=ck g;show h ?_;clear h k;show as d (by show(?_:d∈dh (bk m));show((iO m a).1)▸b) V
 down:=λn f h=>aX h λd b i=>as d ((e7.mp b).1) i
 step:=λn f h=>aX h λd b i l o hd=>by
  subst i;rw[ts (ht a)<|nM a b]at hd;obtain⟨j,e,rfl⟩:=ck hd;rw[tv a<|rz a e];intro h;show l<|as d (Hk.mpr #[b,j,h,?_]) V;rw[(iO m a).2];show(nK.mp e).2
 je:=λf g o hd=>by
  obtain⟨d,b,rfl⟩:=ck g;rw[ts (ht a) b]at hd;show g1 hd λj e=>?_;show dI<|rz a e
noncomputable def oI (bT:List bF)(ae:Int):Option Int:=(hH (bk bT) (cI<|bk bT) ae).head?
noncomputable def tw (bT:List bF)(aa:i):Option i:=((cF bT).find? λae=>a2 ae==aa).bind λae=>(oI bT ae).map a2
def Hn (e:dp b){a:Int}(f:a∈cF b):tw b (a2 a)=(oI b a).map a2:=by
 unfold tw;have:(cF b).find? (λd=>a2 d==a2 a)=O a:=by
  cases h:(cF b).find? (λd=>a2 d==a2 a)with
  |none=>
   have:=List.find?_eq_none.mp h a f;simp at this
  |some d=>
   have b:=List.find?_some h;show aI (ru (ht e d<|List.mem_of_find?_eq_some h) (ht e a f)<|beq_iff_eq.mp b) V
 mspec this;rfl
def Sj (a:dp b):∀e∈(cF b).map a2,tu b (bk b).length e->∃(f:Nat) (d:i),(et (ln b) e)[f]?=O d/\tu b (bk b).length d/\tw b e=O d/\∀(g:Nat)(h:i),g<f->(et (ln b) e)[g]?=O h->¬tu b (bk b).length h:=λe m n=>by
 obtain⟨o,j,rfl⟩:=ck m;have b:=(tv a j).mp n;show l5 (Sh a (ae:=o) b) λf d e m n p=>?_;rw[ts (ht a) j];show kM f (a2 d) (by mspec e6;mspec e;rfl) (as d m V) (by mspec Hn a j;unfold oI;mspec n;rfl)<|λg h q k=>?_;rw[e6,f2]at k;obtain⟨r,l,rfl⟩:=k;rw[tv a<|rz a<|ic l];show p g r q l
theorem Ho (f:d0 b):∀{fv:h},(∀a∈fv,d0 a)->(fv.map a2).idxOf (a2 b)=fv.idxOf b
 |[],_=>rfl|d::fv,g=>by
  mspec b7;mspec sS;mspec sS;by_cases e:d=b
  .subst e;simp
  .mspec(show(a2 d==a2 b)=aj from by simpa using λi=>e<|ru (g d ao) f i);mspec beq_eq_false_iff_ne.mpr e;show aI (Ho f (fv:=fv) λa b=>g a<|A b) V
def Sk {g:List bF}(b:dp g){k:ak}{l:i}{o:ak}(v:nL (tw g) k l o):∀(d:h)(e:Int),k=d.map a2->l=a2 e->(∀a∈d,a∈cI (bk g))->e∈cI (bk g)->∃m,o=m.map a2/\nL (oI g) d e m:=by
 induction v with
 |@nA k l p=>
  rintro d e rfl rfl n j;have q:∀a∈d,d0 a:=λa f=>ht b a<|nM b<|n a f;have r:=ht b e<|nM b j;mspec Ho r q;show as (d.drop (d.idxOf e)++[e]) (by mspec eV;mspec Oc;rfl)<| .nA<|(wN q r).mp p
 |@step k l v o p s B w=>
  rintro d e rfl rfl n j;have q:∀a∈d,d0 a:=λa f=>ht b a<|nM b<|n a f;have r:=ht b e<|nM b j;rw[Hn b<|nM b j,f2]at s;obtain⟨t,u,rfl⟩:=s;have x:t∈cI (bk g):=(rA.mp<|Hp u).2.1;obtain⟨m,y,A⟩:=w (d++[e]) t (by mspec eV;rfl) V (λa f=>by
   show cK f (λf=>?_) λf=>?_
   .show n a f
   .show kH f j) x
  show as m y<| .step (λa=>p<|dI a) u A
def Sl (s:nL (oI r) o w x):∀(a:Nat)(e:Int),o.getLast?=O e->oI r e=O w->o.Nodup->(∀k∈o,k∈cI (bk r))->(cI<|bk r).length+2<=a+o.length->k7 (bk r) (cI<|bk r) a o=O x:=by
 induction s with
 |@nA o w f=>
  intro a e l g h i j;obtain⟨a,rfl⟩:∃p,a=p+1:=#[a - 1,by show cZ ((eY<|cg<|a - 1))<|(ay<|e8 (n:=a) (m:=1)<|bb [.C (.y N<| .n 2)<| .y G t,.C t N] 1 (.n 1) G H j<|lR (cI<|bk r) o h i)];unfold oI at g;rw[sM];mspec l;dsimp only;mspec g;dsimp only;show aI (if_pos f) V
 |@step o w s x f d v u=>
  intro a e l g h i j;obtain⟨a,rfl⟩:∃p,a=p+1:=#[a - 1,by show cZ ((eY<|cg<|a - 1))<|(ay<|e8 (n:=a) (m:=1)<|bb [.C (.y N<| .n 2)<| .y G t,.C t N] 1 (.n 1) G H j<|lR (cI<|bk r) o h i)];have q:=g;unfold oI at q;rw[sM];mspec l;dsimp only;mspec q;dsimp only;mspec if_neg f;show u a w rn d (gz.mpr<|cG h (by simp)<|λl e b g=>?_) (λk d=>?_) (by mspec dE;mspec gw;show bb [.C (.y G<| .n 2)<| .y (.Q N) t] 0 (.y G<| .n 2) (.y N<| .Q t) H j)
  .mspec bW g;intro a;show f<|a▸e
  .show cK d (λd=>?_) λd=>?_
   .show i k d
   .show kH d (show w∈cI (bk r)from(rA.mp<|Hp q).2.1)
def Sm (i:b4)(left:h)(e:Nat):∀(b d:h),k7 i left e b=O d->(∀f∈b,f∈left)->d≠[]/\d.length<=b.length+e+1/\∀g∈d,g∈left:=by
 induction e with
 |zero=>show λb d a=>nomatch a|succ e o=>
  intro b d a j;rw[sM]at a;cases hwl:b.getLast? with
  |none=>replace a:=hwl▸a;cases a
  |some p=>
   replace a:=hwl▸a;dsimp only at a;cases hv:(hH i left p).head? with
   |none=>replace a:=hv▸a;cases a
   |some k=>
    rw[hv]at a;dsimp only at a;have l:k∈left:=(rA.mp<|Hp hv).2.1;by_cases m:k∈b
    .rw[if_pos m]at a;obtain rfl:=fU a;show cG (by simp) (by mspec dE;mspec k6;mspec gw;simp+arith)<|λg b=>?_;show cK b (λb=>?_) λb=>?_
     .show j g<|Dl b
     .show kH b l
    .rw[if_neg m]at a;show cd (o _ d a λf b=>?_) λa n d=>?_
     .show cK b (λb=>?_) λb=>?_
      .show j f b
      .show kH b l
     .show cG a ?_ d;rw[dE,gw]at n;show bb [.C G<| .Q<| .y (.Q N) t] 0 G (.Q<| .y N<| .Q t) H n
def AW (a:dp b):(cF b).length<=8:=by
 have:=lR ([0,1,2,3,4,5,6,7]:h) (cF b) (tp b) λd e=>by
  show am (ht a d e) λh0 b=>?_;simp only[hP,mL,or_false];lia
 simpa using this
def Sn (e:dp b):∀a,hI (bk b)=O a->a≠[]/\a.length<=1000/\∀d∈a,0<=d/\d<8:=λa f=>by
 unfold hI at f;show cd (Sm _ _ _ _ _ f λk a=>sq a) λh g i=>?_;have j:(cI<|bk b).length<=8:=by
  have:=(tt (bk b) (bk b).length).length_le;rw[(iO b e).1]at this;have:=AW e;unfold cI;show a5 ‹_› ‹_›
 show cG h ?_<|λd a=>ht e d<|nM e<|i d a;rw[g9]at g;show bb [.C G<| .Q<| .y N<| .Q t,.C t<| .n 8,.C N<| .n 1] 0 G (.n 1000) H g j<|oo 1<|(cI<|bk b).length
def Hq (e:dp m)(d:Int):(dl m d).length<=20:=by
 unfold dl;have:=th (λ(b:Nat)=>kA ((fL m<|3+(b:Int)).count d)<|3+(b:Int)) (h7 m.length) 4 λb f=>by
  mspec List.length_replicate;have f:=List.count_le_length (a:=d) (l:=fL m<|3+(b:Int));have d:=G5 e<|3+(b:Int);have d:(fL m<|3+(b:Int)).length<=4:=by
   unfold fL;mspec dE;mspec g9;lia
  show a5 ‹_› ‹_›
 rw[jP]at this;show b9 [.C G<| .w N 4,#[4,N,.n 5]] 0 G (.n 20) H this e.len
def AX (a:dp b):gW (ln b) ((cF b).map a2) []<=900:=by
 unfold gW;mspec d2;have:=AN ((λe=>if e∈([]:ak)then 0 else mK (ln b) e)∘a2) (cF b) 20 λd f=>by
  show(?_:(if a2 d∈([]:ak)then 0 else mK (ln b) (a2 d))<=20);mspec if_neg (by simp);unfold mK;rw[ts (ht a) f,a6];show Hq a d
 have:=AW a;lia
def So (f:dp b):k8 (ln b)=O ((hI<|bk b).map (·.map a2)):=by
 have s:=Si f;unfold k8;rw[ry];have x:=tt (bk b) (bk b).length;rw[(iO b f).1]at x;have C:=AV x<|tp b;have split:∀k:h,(∀a∈k,a∉cI (bk b))\/∃g e i,k=g++e::i/\(∀a∈g,a∉cI (bk b))/\e∈cI (bk b):=by
  intro k
  induction k with
  |nil=>show .inl λa d=>nomatch d|cons l k D=>
   by_cases m:l∈cI (bk b)
   .show .inr (kL [] l k V (λa d=>nomatch d) m)
   .rcases D with p|⟨g,e,i,rfl,q,n⟩
    .show .inl λa d=>(d1 d).elim (λj=>j▸m)<|p a
    .show .inr<|kL (l::g) e i V (λa d=>(d1 d).elim (λj=>j▸m)<|q a) n
 show aw (split (cF b)) (λp=>?_) λE=>?_
 .have F:cI (bk b)=[]:=by
   cases o:cI (bk b)with
   |nil=>rfl|cons l k=>
    have m:l∈cI (bk b):=o▸ao;show absurd m<|p l<|nM f m
  obtain⟨y,j,_⟩:=Hg s (bk b).length (AX f) ((cF b).map a2) [] [] (λG o=>by
   obtain⟨a,d,rfl⟩:=ck o;show#[o,λt=>p a d<|(tv f d).mp t]) (λH u=>nomatch u)
  rw[fj]at j;mspec j;unfold hI;mspec F;rfl
 .show kK E λg e i w=>?_;show cd w λr q n=>?_;have A:∀a∈g,a∈cF b:=λa d=>by mspec r;simp[d]
  have I:e∈cF b:=by mspec r;simp
  obtain⟨y,j,J⟩:=Hg s (bk b).length (AX f) (g.map a2) ((e::i).map a2) [] (λG o=>by
   obtain⟨a,d,rfl⟩:=ck o;show#[dI<|A a d,λt=>q a d<|(tv f<|A a d).mp t]) (λH u=>nomatch u)
  show aX (Sb s (bk b).length (AX f) (tw b) (Sj f) (a2 e) (i.map a2) y (dI I) (as e n V) J) λk l m=>?_;have o:lU (ln b) 1000 ((cF b).map a2) []=O (O k):=by
   mspec(show(cF b).map a2=g.map a2++(e::i).map a2 from by show aI r ?_;show aI eV V);mspec j;mspec b7;show aI l V
  mspec o;show v (Sk f m [] e V rfl (λa d=>nomatch d) n) λK w=>?_;show ci w λL=>?_;have M:(cI<|bk b).take 1=[e]:=by
   mspec(show cI (bk b)=(g++e::i).filter λa=>decide (a∈cI (bk b))from by show r▸C);rw[rV];mspec Ah.mpr (λa d=>by simpa using q a d);rw[nv];mspec DZ (by simpa using n);rfl
  cases L with
  |nA B=>cases B
  |step B N P=>
   have:=Sl P ((cI<|bk b).length+1) e V N (by simp) (λa d=>by
    show(show a=e from by simpa using d)▸n) (by simp)
   unfold hI;mspec M;mspec show k7 (bk b) (cI<|bk b) ((cI<|bk b).length+1) [e]=O K from this;rfl
noncomputable def oJ (mJ:Int->Int):h->h
 |[]=>[]|aa::ag=>(if mJ aa - 1=0 then[aa]else[])++oJ (λae=>if ae=aa then mJ ae - 1 else mJ ae) ag
def Hr {a:Int->Int}{b:Int}{e:h}:oJ a (b::e)=(if a b - 1=0 then[b]else[])++oJ (λd=>if d=b then a d - 1 else a d) e:=rfl
def Sp (e:∀a∈m,d0 a)(f:d0 n){b:Int->Int}{d:Int->h}:my (mk m b d) (a2 n)=mk m (λa=>if a=n then b a - 1 else b a) d:=
 wO e f (λb=>(b.1,b.2.1 - 1,b.2.2)) _ _ (by simp) λa d=>#[if_neg d,V]
theorem Ht (j:∀a∈m,d0 a)(g:Int->h):∀(e:h)(b:Int->Int)(f:h),(∀a∈e,a∈m)->
 (e.map a2).foldl fX (mk m b g,f.map a2)=(mk m (λa=>b a - (e.count a:Nat)) g,(f++oJ b e).map a2)
 |[],b,f,_=>by
  mspec m9;mspec Gh;have n:oJ b []=[]:=rfl;rw[n,fj];congr 1;show oH (λa i=>by simp) λi i=>rfl
 |d::e,b,f,l=>by
  have n:=l d ao;mspec b7;mspec hV;have o:fX (mk m b g,f.map a2) (a2 d)=(mk m (λa=>if a=d then b a - 1 else b a) g,(f++(if b d - 1=0 then[d]else[])).map a2):=by
   unfold fX;mspec Sp j<|j d n;rw[AU j n];mspec if_pos V;congr 1;split
   .mspec eV;rfl
   .rw[fj]
  mspec o;mspec Ht j g e _ _ λa b=>l a<|A b;rw[Hr,hX];congr 1;show oH (λa i=>?_) λi i=>rfl;mspec G9;by_cases k:a=d
  .subst k;simp;simp+arith
  .mspec if_neg k;mspec if_neg (by simpa using λb:d=a=>k b.symm);rw[nQ]
theorem Hu (d:Int)(k:h):∀(b:Nat)(a:Int->Int),(0<b->(b:Int)<=a d)->oJ a (kA b d++k)=(if 0<b/\a d=b then[d]else[])++oJ (λe=>if e=d then a e - b else a e) k
 |0,a,_=>by
  mspec List.replicate_zero;rw[nv];mspec if_neg (by simp+arith);rw[nv];congr 1;funext e;split<;>simp
 |b+1,a,g=>by
  have g:=g (by simp+arith);mspec Ap;mspec qR;rw[Hr];mspec Hu d k b _ (λm=>by show aI (if_pos V) ?_;show bh [↑b,a d] [.aK f aA] 0 f (.c6 aA<| .n 1) H g);mspec if_pos V;have l:(λe=>if e=d then(if e=d then a e - 1 else a e) - (b:Int)else(if e=d then a e - 1 else a e))=λe=>if e=d then a e - ((b+1:Nat):Int)else a e:=by
   funext e;by_cases i:e=d
   .mspec if_pos i;mspec if_pos i;mspec if_pos i;simp+arith
   .mspec if_neg i;mspec if_neg i;show aI (if_neg i) V
  mspec l;rw[<-hX];congr 1;by_cases j:a d=((b+1:Nat):Int)
  .mspec if_pos (#[by simp+arith,j]:0<b+1/\a d=((b+1:Nat):Int));by_cases h0:b=0
   .subst h0;mspec if_pos (by show gr (bh [a d] [.C f<| .n 1] 0 (.c6 f<| .n 1) (.n 0) H (c2 j:))<|bh [a d] [.C (.n 1) f] 0 (.n 0) (.c6 f<| .n 1) H g);mspec if_neg (by simp+arith);rw[fj]
   .mspec if_neg (by show λi=>kI [↑b,a d] [.aK f aA,.aK (.n 0) f,.C (.c6 aA<| .n 1)<| .n 0] H g (ej.mpr (sP h0):) (c2 i:));mspec if_pos #[by show dK [.C (.n 1) G] 0 (.Q<| .n 0) G H<|sP h0,by show gr (bh [a d,↑b] [.C f<| .Q aA] 0 (.c6 f<| .n 1) aA H (c2 j:))<|bh [↑b,a d] [.aK f aA] 0 f (.c6 aA<| .n 1) H g];rw[nv]
  .mspec if_neg (λe=>j e.2:¬(0<b+1/\a d=((b+1:Nat):Int)));mspec if_neg (by show λi=>(s2 j).elim (λe=>kI [↑b,a d] [.aK f aA,.aK aA<| .Q f] H g e) λe=>kI [↑b,a d] [.C (.n 0) f,.C (.c6 aA<| .n 1)<| .n 0,.aK (.Q f) aA] H (f3 b:) (c2 i:) e);mspec if_neg (by show λi=>(s2 j).elim (λe=>kI [↑b,a d] [.aK f aA,.aK aA<| .Q f] H g e) λe=>kI [a d,↑b] [.C (.c6 f<| .n 1) aA,.aK (.Q aA) f] H (c2 i.2:) e);rfl
theorem Hv (d:Nat->Nat):∀(e:bP)(f:Int->Int),e.Nodup->(∀a∈e,0<d a->(d a:Int)<=f (3+(a:Int)))->
 oJ f (e.flatMap λa=>kA (d a)<|3+(a:Int))=(e.filter λa=>decide (0<d a/\f (3+(a:Int))=d a)).map λ(a:Nat)=>3+(a:Int)
 |[],f,_,_=>rfl|a::e,f,h,i=>by
  replace h:=(ka).mp h;mspec ti;mspec Hu _ _ _ _<|i a ao;have j:∀b∈e,(3+(b:Int))≠3+(a:Int):=λb g k=>h.1 (by
   show(by show cZ (b9 [.C (.y (.n 3) G)<| .y (.n 3) N] 0 G N H<|ay<|jm k) (b9 [.C (.y (.n 3) G)<| .y (.n 3) N] 0 G N H<|ay (jm k).symm):b=a)▸g)
  mspec(Hv d e _ h.2 λb g=>by show(if_neg<|j b g)▸i b (A g));mspec sR;have h:(e.filter λb=>decide (0<d b/\(if(3+(b:Int))=3+(a:Int)then f (3+(b:Int)) - (d a:Int)else f (3+(b:Int)))=d b))=e.filter λb=>decide (0<d b/\f (3+(b:Int))=d b):=
   pp λb g=>by show aI (if_neg<|j b g) V
  mspec h;by_cases b:0<d a/\f (3+(a:Int))=d a
  .mspec if_pos b;mspec if_pos<|decide_eq_true b;rfl
  .mspec if_neg b;mspec if_neg (by simpa using b);rfl
noncomputable def oK (bT:List bF)(a:h)(ae:Int):Nat:=((fL bT ae).filter λan=>decide (an∉a)).length
noncomputable def gX (bT:List bF)(a aT:h)(ae:Int):Int:=if ae∈a then -2 else if ae∈aT then -1 else oK bT a ae
def tx:b∈fL m n↔b∈da m n:=by
 unfold fL;rw[lY];show#[λa=>a.elim id λa=>sq a,.inl]
def Hw:oK b m n=0↔∀a∈da b n,a∈m:=by
 unfold oK;rw[n9,Ah];constructor
 .intro b a d;simpa using(b a<|tx.mpr d)
 .intro b a d;simpa using(b a<|tx.mp d)
def wR {d:h}{ae b:Int}(i:b∉d):oK m d ae=oK m (d++[b]) ae+(fL m ae).count b:=by
 unfold oK
 induction fL m ae with
 |nil=>rfl|cons e j a=>
  mspec sR;mspec sR;mspec G9;by_cases g:e=b
  .subst g;mspec if_pos (by simpa using i);mspec if_neg (by simp);mspec eA;mspec if_pos<|beq_self_eq_true e;show cZ (bb [.C G<| .y N t] 0 (.Q G) (.y N<| .Q t) H<|ay a)<|bb [.C (.y G N) t] 0 (.y G<| .Q N) (.Q t) H<|ay (a).symm
  .mspec if_neg (by simpa using g:¬((e==b)=z));by_cases f:e∈d
   .mspec if_neg (by simpa using f);mspec if_neg (by simp[f]);show cZ (bb [.C G<| .y N t] 0 G (.y N<| .y t<| .n 0) H<|ay a)<|bb [.C (.y G N) t] 0 (.y G<| .y N<| .n 0) t H<|ay (a).symm
   .mspec if_pos (by simpa using f);mspec if_pos (by simp[f,g]);mspec eA;mspec eA;show cZ (bb [.C G<| .y N t] 0 (.Q G) (.y (.Q N)<| .y t<| .n 0) H<|ay a)<|bb [.C (.y G N) t] 0 (.y (.Q G)<| .y N<| .n 0) (.Q t) H<|ay (a).symm
def Sq (d k:Int):(dl b k).count d=if ∃a:Nat,a<b.length/\d=3+(a:Int)then(fL b d).count k else 0:=by
 induction b using i4 with
 |nil=>simp[dl]|snoc b r l=>
  rw[AQ];mspec R7;mspec l;mspec List.count_replicate;by_cases e:d=3+(b.length:Int)
  .mspec if_neg (by intro j;show aX j λa h k=>?_;show kI [↑b.length,d,↑a] [.C (.y (.n 3) f) aA,.aK d7 f,.C aA<| .y (.n 3) d7] H (c2 (e).symm:) (ej.mpr h:) (c2 k:));mspec if_pos (by simpa using e.symm);mspec if_pos (as b.length (by show aI dE ?_;simp) e);rw[tq];mspec if_pos e;rw[rE]
  .mspec if_neg (c:=(3+(b.length:Int)==d)=z) (by simpa using λk:3+(b.length:Int)=d=>e k.symm);rw[nQ,tq];mspec if_neg e;by_cases h:∃a:Nat,a<b.length/\d=3+(a:Int)
   .show bB λl k=>?_;show aX h λa i g=>?_;show k ?_;clear k l;mspec if_pos<|as a i g;show aI (if_pos<|as a (by mspec dE;show bb [.aK G N] 0 (.Q G) (.y N t) H i) g) V
   .mspec if_neg h;rw[if_neg];intro j;show aX j λa i g=>?_;rw[dE,gw]at i;show h (as a (by show(s2 e).elim (λj=>dH.mp<|bh [↑a,↑b.length,d] [.C (.y (.n 3) f) d7,.aK d7<| .y (.n 3) aA] 0 (.Q f) aA H (c2 (g).symm:) j) λj=>dH.mp<|bh [↑a,↑b.length,d] [#[2,.Q f,.Q aA],.C d7<| .y (.n 3) f,.aK (.y (.n 3) aA) d7] 0 (.Q f) aA H (ej.mpr i:) (c2 g:) j) g)
def wS (e:dp b)(a d:Int):(dl b d).count a=(fL b a).count d:=by
 rw[Sq];split
 .rfl
 .next b=>
  symm;show(wQ).mpr ?_;intro d;show am (oG<|tx.mp d) λe g=>?_;show v g λr d=>?_;show cd d λg g h=>?_;show b (as ((a - 3).toNat) ((gG.mp h).1)<|by show gr (bh [a,↑(a - 3).toNat] [.C (.c6 f<| .n 3) aA] 0 f (.y (.n 3) aA) H (kl (a - 3):))<|bh [↑(a - 3).toNat,a] [.C f<| .c6 aA<| .n 3] 0 (.y (.n 3) f) aA H (c2 (gx<|bh [a] [.C (.n 3) f] 0 (.n 0) (.c6 f<| .n 3) H e):))
noncomputable def kE (bT:List bF)(a:h)(bu:Int):h:=((h7 bT.length).filter λ(s:Nat)=>decide (bu∈da bT (3+(s:Int))/\∀an∈da bT (3+(s:Int)),an∈a++[bu])).map λ(s:Nat)=>3+(s:Int)
def Sr (f:dp b){d:Int}(v:d∈cF b)(k:d∉m)(l:∀a∈dl b d,a∉m/\a≠d/\a∉aT)(w:h):
 iK (mk (cF b) (gX b m<|d::aT)<|dl b,w.map a2) (a2 d)=(mk (cF b) (gX b (m++[d]) aT)<|dl b,(w++kE b m d).map a2):=by
 have o:=ht f;unfold iK;dsimp only;rw[ts o v];have E:eJ (mk (cF b) (gX b m<|d::aT)<|dl b) [a2 d] (-2)=mk (cF b) (λa=>if a=d then -2 else gX b m (d::aT) a) (dl b):=by
  unfold eJ;show ch (wO o (o d v) (mJ:=gX b m<|d::aT) (rx:=dl b) (λaT=>(aT.1, -2,aT.2.2)) (λa=>if a=d then -2 else gX b m (d::aT) a) (dl b) (by simp) λa p=>#[if_neg p,V]) ?_;show hC λg x=>?_;simp
 mspec E;mspec Ht o _ _ _ _ λa p=>rz f p;congr 1
 .show oH (λa p=>?_) λx x=>rfl;rw[wS f];unfold gX;by_cases g:a=d
  .subst g;mspec if_pos V;mspec if_pos (by simp:a∈m++[a]);have:(fL b a).count a=0:=by
    rw[<-wS f,wQ];show λi=>(l a i).2.1 V
   mspec this;rfl
  .mspec if_neg g;have F:(a∈m++[d])↔a∈m:=by simp[g]
   have I:(a∈d::aT)↔a∈aT:=by simp[g]
   simp only[F,I];by_cases g:a∈m
   .mspec if_pos g;mspec if_pos g;have:(fL b a).count d=0:=by
     rw[<-wS f,wQ];show λi=>(l a i).1 g
    mspec this;rfl
   .mspec if_neg g;mspec if_neg g;by_cases g:a∈aT
    .mspec if_pos g;mspec if_pos g;have:(fL b a).count d=0:=by
      rw[<-wS f,wQ];show λi=>(l a i).2.2 g
     mspec this;rfl
    .mspec if_neg g;mspec if_neg g;mspec wR (ae:=a) k;simp+arith
 .congr 1;congr 1;unfold dl;have s:∀e:Nat,e<b.length->0<(fL b<|3+(e:Int)).count d->(if(3+(e:Int))=d then(-2:Int)else gX b m (d::aT) (3+(e:Int)))=oK b m (3+(e:Int)):=λe j t=>by
   show cd (l _<|nK.mpr #[(as e j V),tx.mp<|AR.mp t]) λa A J=>?_;mspec if_neg A;unfold gX;mspec if_neg a;show aI (if_neg<|by simp[A,J]) V
  rw[Hv (λ(e:Nat)=>(fL b<|3+(e:Int)).count d) (h7 b.length) _ PH λe j=>?_]
  .unfold kE;congr 1;show pp λe j=>?_;have B:=iW.mp j;show(decide_eq_decide).mpr ?_;have D:0<(fL b<|3+(e:Int)).count d↔d∈da b (3+(e:Int)):=by rw[AR,tx]
   constructor
   .intro u;show am u λq r=>?_;show#[D.mp q,Hw.mp ?_];rw[s e B q,wR (ae:=3+(e:Int)) k]at r;show cZ (b9 [.C (.y G N) N] 0 G (.n 0) H<|ay<|jm r)<|ew _
   .intro u;show am u λq r=>?_;have a:=D.mpr q;show#[a,?_];mspec s e B a;mspec wR (ae:=3+(e:Int)) k;mspec Hw.mpr r;simp+arith
  .intro t;mspec s e (iW.mp j) t;mspec wR (ae:=3+(e:Int)) k;simp+arith
noncomputable def j2 (bT:List bF):h->h->h
 |_,[]=>[]|a,bu::aT=>kE bT a bu++j2 bT (a++[bu]) aT
def AY {a:List bF}{b e:h}{d:Int}:j2 a b (d::e)=kE a b d++j2 a (b++[d]) e:=rfl
theorem Hx (j:dp b):∀(a d:h)(g:h),(∀e∈a,e∈cF b)->(d++a).Nodup->(∀e∈a,∀i∈dl b e,i∉d++a)->
 fu (mk (cF b) (gX b d a)<|dl b,g.map a2) (a.map a2)=(mk (cF b) (gX b (d++a) [])<|dl b,(g++j2 b d a).map a2)/\nn (mk (cF b) (gX b d a)<|dl b,g.map a2) (a.map a2)
 |[],d,g,_,_,_=>by
  have n:j2 b d []=[]:=rfl;rw[fj,n,fj];show#[V,trivial]
 |e::a,d,g,o,p,q=>by
  have k:=o e ao;have r:e∉d:=λn=>(gz.mp p).2.2 e n e ao V;have s:=Sr j (aT:=a) k r (λi l=>by
   have:=q e ao i l;rw[lY,hP]at this;show cG (λf=>this<| .inl f) (λf=>this<| .inr<| .inl f)<|λf=>this<| .inr<| .inr f) g
  have m:d++e::a=(d++[e])++a:=by simp
  show am (Hx j a (d++[e]) (g++kE b d e) (λf n=>o f<|A n) (by show ch m ?_;show p)<|λf n i l=>by show m▸q f (A n) i l) λa b=>?_;mspec b7;constructor
  .show(?_:fu (iK _ _) _=_);mspec s;mspec a;rw[AY];mspec m;rw[<-hX g]
  .show cG ?_ ?_ ?_
   .rw[ry];show dI k
   .rw[AU (ht j) k];unfold gX;mspec if_neg r;show aI (if_pos ao) V
   .mspec s;show b
structure oL (bT:List bF)(a b:h):Prop where
 bz:(a++b).Nodup
 sub:∀ae∈a++b,ae∈cF bT
 wT:∀ae∈cF bT,ae∈b↔ae∉a/\∀an∈da bT ae,an∈a
 je:∀ae∈a,∀an∈da bT ae,an∈a
def oL.rr (e:oL n m b):∀a∈b,∀d∈dl n a,d∉m++b:=λa g d h b=>by
 have f:a∉m:=λi=>(gz.mp e.bz).2.2 a i a g V;have g:=(nK.mp h).2;show cK b (λb=>?_) λb=>?_
 .show f<|e.je d b a g
 .show f<|((e.wT d<|e.sub d<|bA b).mp b).2 a g
def wU:b∈kE m o n↔(∃a:Nat,a<m.length/\b=3+(a:Int))/\n∈da m b/\∀f∈da m b,f∈o++[n]:=by
 unfold kE;rw[iw];constructor
 .rintro g;show bB λh e=>?_;obtain⟨a,d,rfl⟩:=g;show e ?_;clear e h;show am (e7.mp d) λb e=>?_;show#[(as a (iW.mp b) V),k e]
 .rintro⟨⟨a,d,rfl⟩,i⟩;show as a (e7.mpr #[iW.mpr d,decide_eq_true i]) V
theorem Hy:∀{i e:h},n∈j2 o e i↔∃a d f,i=a++d::f/\n∈kE o (e++a) d
 |[],e=>by
  constructor
  .intro b;cases b
  .rintro j;show bB λk g=>?_;show eW j λa d f b n=>?_;show g ?_;clear g k;cases a<;>cases b
 |d::i,e=>by
  rw[AY,lY,Hy];constructor
  .rintro(b|⟨a,l,f,rfl,b⟩)
   .show j6 ([]) d i V (by rw[fj];show b)
   .show j6 (d::a) l f V (by mspec(show e++d::a=(e++[d])++a by simp);show b)
  .rintro j;show bB λk g=>?_;show eW j λa l f m b=>?_;show g ?_;clear g k;cases a with
   |nil=>
    cases m;rw[fj]at b;show .inl b
   |cons g a=>
    injection m with p q
    subst p;show .inr (j6 a l f q (by mspec(show(e++[d])++a=e++d::a by simp);show b))
def Ss {k:Type}{ai:k->Prop}[DecidablePred ai](d:List k)(l:∃b∈d,ai b):∃g e f,d=g++e::f/\ai e/\∀b∈f,¬ai b:=by
 induction d using i4 with
 |nil=>show aX l λb a k=>?_;cases a
 |snoc d h m=>
  by_cases i:ai h
  .show kL d h ([]) V i (λb a=>nomatch a)
  .show aX l λb a j=>?_;obtain⟨g,e,f,rfl,n,o⟩:=m #[b,by
    show cK a (λa=>?_) λa=>?_
    .show a
    .rw[bW a]at j;show absurd j i,j]
   show kL g e (f++[h]) (by simp) n<|λb a=>?_;show cK a (λa=>?_) λa=>?_
   .show o b a
   .show(bW a)▸i
def Hz {b:h}(d:n∉m):(m++n::b).idxOf n=m.length:=by
 induction m with
 |nil=>simp|cons e m f=>
  mspec qR;mspec sS;mspec beq_eq_false_iff_ne.mpr (show e≠n from λa=>d<|a▸ao);rw[cond_false];mspec f λa=>d<|A a;show aI eA V
theorem HA:∀{a:h},m∈a->(a++b).idxOf m<a.length
 |e::a,f=>by
  mspec qR;mspec sS;by_cases d:e=m
  .subst d;simp
  .mspec beq_eq_false_iff_ne.mpr d;rw[cond_false];mspec eA;have:=HA (b:=b)<|(d1 f).resolve_left λa=>d a.symm;show qF ‹_›
def St (h0:0<=b)(d:b∈m)(e:∀a∈m,a<=b):oD m=b:=by
 unfold oD;show cd (Af m 0) λg h a=>?_;have:=g b d;show aw a (λa=>?_) λa=>?_
 .show gr (bh [Ag max 0 m,b] [.C (.n 0) aA,.C f<| .n 0] 0 f aA H h0 (c2 a:))<|bh [b,Ag max 0 m] [.C f aA] 0 f aA H this
 .have:=e _ a;lia
def Su (j:dp m){e g:h}{a f:Int}(i:a∉e)(k:f∈kE m e a):gR (bk m) (e++a::g) f=1000*(e.length:Int)+f:=by
 show bB λf e=>?_;show cd (wU.mp k) λq l n=>?_;show e ?_;clear e f;unfold gR;rw[(iO m j).2];congr 1;congr 1;show St (by show f3 _) (iw.mpr<|as a l<|by show aI (Hz i) V) λe o=>?_;obtain⟨p,d,rfl⟩:=ck o;show cK (n p d) (λd=>?_) λd=>?_
 .have:=HA (b:=a::g) d;show dH.mpr<|b9 [.aK G N] 0 G N H this
 .mspec bW d;mspec Hz i;simp+arith
def Sv (a:List bF)(b:h)(d:Int):(kE a b d).Pairwise (·<·):=by
 unfold kE;show(DX).mpr ?_;show Se lS ?_;show List.pairwise_lt_range.imp λa=>by show ej.mpr<|b9 [.aK G N] 0 (.Q<| .y (.n 3) G) (.y (.n 3) N) H a
theorem AZ (p:dp m)(g:h):∀(j d:h),d++j=g->g.Nodup->(j2 m d j).Pairwise (λk b=>gR (bk m) g k<gR (bk m) g b)/\∀a∈j2 m d j,1000*(d.length:Int)<=gR (bk m) g a
 |[],d,_,_=>#[.nil,λa e=>nomatch e]|i::j,d,q,r=>by
  have u:i∉d:=λw=>by
   rw[<-q]at r;show(gz.mp r).2.2 i w i ao V
  show am (AZ p g j (d++[i]) (by show ch q ?_;simp) r) λw s=>?_;have l:∀a∈kE m d i,gR (bk m) g a=1000*(d.length:Int)+a:=λa e=>by show q▸Su p u e
  have t:∀a∈kE m d i,3<=a/\a<8:=λa e=>by
   show am (wU.mp e) λj q=>?_;show v j λr q=>?_;show kJ q λj=>?_;have:=p.len;show#[dH.mpr<|dK [] 0 (.n 3) (.y (.n 3) G) H,ej.mpr<|b9 [.aK G N,.C N<| .n 5] 0 (.Q<| .y (.n 3) G) (.n 8) H j this]
  rw[AY];show#[ii.mpr<|cG ?_ w<|λk o b j=>?_,λa e=>?_]
  .show(Sv m d i).imp_of_mem λo j p=>by mspec l _ o;mspec l _ j;lia
  .mspec l k o;have:=s b j;rw[dE,gw]at this;have:=t k o;lia
  .show cK e (λe=>?_) λe=>?_
   .mspec l a e;have:=t a e;show bh [↑d.length,a] [.C (.n 3) aA] 0 (.cS 1000 f) (.y (.cS 1000 f) aA) H this.1
   .have:=s a e;rw[dE,gw]at this;show bh [↑d.length,gR (bk m) g a] [.C (.cS 1000<| .Q f) aA] 0 (.cS 1000 f) aA H this
def HB (l:dp m){d:h}{b:Int}:b∈gt (bk m) d↔b∈cF m/\b∉d/\∀a∈da m b,a∈d:=by
 unfold gt;rw[e7];mspec(iO m l).1;rw[(iO m l).2,i7];mspec decide_eq_true_eq;rw[Ah];have f:∀a:Int,(d.any (·==a))=z↔a∈d:=λa=>by
  rw[ko];show#[λl=>aX l λp m n=>by show(beq_iff_eq.mp n)▸m,λl=>as a l<|beq_self_eq_true a]
 constructor
 .intro g;show cd g λi e j=>?_;show cG i (λo=>?_)<|λa k=>?_
  .replace e:=((f b).mpr o)▸e;cases e
  .have:=j a k;show(f a).mp (by simpa using this)
 .intro g;show cd g λi e j=>?_;show cG i ?_<|λa k=>?_
  .mspec show(d.any (·==b))=aj from Bool.eq_false_iff.mpr λg=>e<|(f b).mp g;rfl
  .mspec(f a).mpr<|j a k;decide
def HC (p:dp m){e d:h}(t:oL m e d):j2 m e d=mE (gR (bk m)<|e++d) (gt (bk m)<|e++d):=by
 show am (AZ p (e++d) d e V t.bz) λu B=>?_;have G:(j2 m e d).Nodup:=u.imp λj k=>by rw[k]at j;show absurd j<|AC _
 have I:(gt (bk m)<|e++d).Nodup:=by
  unfold gt;mspec(iO m p).1;show(tp m).sublist lS
 have D:(j2 m e d).Perm (gt (bk m)<|e++d):=by
  show(List.perm_ext_iff_of_nodup G I).mpr λi=>?_;rw[HB p,Hy];constructor
  .rintro⟨E,w,F,rfl,j⟩;show bB λx o=>?_;obtain⟨⟨J,q,rfl⟩,s,A⟩:=wU.mp j;show o ?_;clear o x;show cG (Hi p q) (t.rr w (by simp) _<|nK.mpr #[(as J q V),s])<|λg l=>?_;have:=A g l;simp only[lY,kF,hP,mL,or_false]at this ⊢;rcases this with(a|a)|a
   .show .inl a
   .show .inr<| .inl a
   .show .inr<| .inr<| .inl a
  .intro I;show cd I λq p G=>?_;have I:∃g∈d,g∈da m i:=by
    show Classical.byContradiction λJ=>(show ¬∀g∈da m i,g∈e from λa=>p<|bA<|(t.wT i q).mpr #[λK=>p<|bI K,a]) λg l=>?_;show cK (G g l) (λa=>?_) λa=>?_
    .show a
    .show absurd (as g a l) J
   show l4 (Ss (ai:=λg=>g∈da m i) d I) λE w F k s A=>?_;show j6 E w F k<|wU.mpr<|cG ?_ s<|λg l=>?_
   .show bB λx o=>?_;show am (oG s) λp q=>?_;show v q λr s=>?_;show cd s λB B q=>?_;show o ?_;clear o x;show as ((i - 3).toNat) ((gG.mp q).1)<|gr (bh [i,↑(i - 3).toNat] [.C (.c6 f<| .n 3) aA] 0 f (.y (.n 3) aA) H (kl (i - 3):))<|bh [↑(i - 3).toNat,i] [.C f<| .c6 aA<| .n 3] 0 (.y (.n 3) f) aA H (c2 (gx<|bh [i] [.C (.n 3) f] 0 (.n 0) (.c6 f<| .n 3) H p):)
   .have:=G g l;rw[k]at this;simp only[lY,kF,hP,mL,or_false]at this ⊢;show aw this (λa=>?_) λi=>aw i (λa=>?_) λi=>aw i (λa=>?_) λa=>?_
    .show .inl<| .inl a
    .show .inl<| .inr a
    .show .inr a
    .show absurd l<|A g a
 have L:(gt (bk m)<|e++d).Pairwise (λa b=>gR (bk m) (e++d) a≠gR (bk m) (e++d) b):=
  D.pairwise (u.imp λj k=>by rw[k]at j;show absurd j<|AC _) (λj k=>j k.symm)
 show Ae (D.trans (rl _ _).symm) u<|Ad L
def Sw (a:m∈b):m∈ee b:=by
 induction b using i4 with
 |nil=>cases a
 |snoc b e d=>
  rw[pL];unfold nJ;rcases jy a with a|a
  .split
   .show d a
   .show bI<|d a
  .mspec bW a;split
   .next a=>mspec a.1;show u4 a.2
   .simp
theorem HD:∀{d:h}{g:List h},(∀e∈d,∀i,m e=O i->n e=O i)->d.mapM m=O g->d.mapM n=O g
 |[],g,_,a=>by simpa using a|e::d,g,j,a=>by
  rw[wm]at a ⊢;cases ha:m e with
  |none=>replace a:=ha▸a;cases a
  |some k=>
   cases f:d.mapM m with
   |none=>replace a:=ha▸a;replace a:=f▸a;cases a
   |some d=>
    replace a:=ha▸a;replace a:=f▸a;mspec j e ao k ha;mspec HD (λb f=>j b<|A f) f;show a
theorem A0 (d:List bF):∀(n:Nat)(e:Int)(b:h),fS d n e=O b->fS d (n+1) e=O b
 |0,e,b,a=>by cases a
 |n+1,e,b,a=>by
  rw[rm]at a ⊢;split
  .next f=>
   replace a:=(if_pos f)▸a;cases hm:(lj d e).mapM (fS d n)with
   |none=>replace a:=hm▸a;cases a
   |some e=>
    replace a:=hm▸a;mspec HD (λe i b g=>A0 d n e b g) hm;show a
  .next f=>replace a:=(if_neg f)▸a;show a
def Sx (a:List bF)(d:n<=o)(e:fS a n b=O m):fS a o b=O m:=by
 induction d with
 |refl=>show e|step _ f=>show A0 a _ b m f
def HE (j:dp m)(k:da m b≠[]):∃(d:Nat) (e:Int) (body:bF),b=3+(d:Int)/\d<m.length/\ir m b=(3+(d:Int),e)::body/\iu (3+(d:Int),e)/\body.length<=3/\(∀l∈body,iu l)/\da m b=ee (dT body):=by
 show v (vD _ k) λl d=>?_;show bB λh a=>?_;show am (oG d) λi k=>?_;show v k λr d=>?_;show cd d λk l g=>?_;show a ?_;clear a h;show bB λh a=>?_;obtain⟨e,body,rfl,o,d,p,q⟩:=j.row _ r g;show a ?_;clear a h;show Ih ((b - 3).toNat) e body (by show gr (bh [b,↑(b - 3).toNat] [.C (.c6 f<| .n 3) aA] 0 f (.y (.n 3) aA) H (kl (b - 3):))<|bh [↑(b - 3).toNat,b] [.C f<| .c6 aA<| .n 3] 0 (.y (.n 3) f) aA H (c2 (gx<|bh [b] [.C (.n 3) f] 0 (.n 0) (.c6 f<| .n 3) H i):)) ((gG.mp g).1) ?_ o p q ?_
 .unfold ir;mspec g;rfl
 .unfold da;mspec if_pos i;mspec g;rfl
def Sy (e:dp m)(a:da m b=[]):nI m b=aj:=by
 cases hr:nI m b with
 |false=>rfl|true=>
  unfold nI at hr;rw[i7,decide_eq_true_eq,decide_eq_true_eq]at hr;have d:(b - 3).toNat<m.length:=dH.mp<|bh [↑(b - 3).toNat,↑m.length,b] [.aK d7<| .y (.n 3) aA,.C f<| .c6 d7<| .n 3] 0 (.Q f) aA H hr.2 (c2 (gx<|bh [b] [.aK (.n 2) f] 0 (.n 0) (.c6 f<| .n 3) H hr.1):);show l5 (e.row (b - 3).toNat m[(b - 3).toNat]<|gm d) λi body g j h k=>?_;unfold da at a;rw[if_pos (by show bh [b] [.aK (.n 2) f] 0 (.n 3) f H hr.1),gm d,g]at a;show absurd a<|An λb=>h<|tb.mp b
structure rB (bT:List bF)(bt:h)(eD:List (Int×i)):Prop where
 jq:eD.map (·.1)=bt
 bz:bt.Nodup
 gI:∀ae∈bt,da bT ae≠[]
 HF:∀ae aT,eD.lookup ae=O aT->∃a:List (Int×Int),fS bT (bt.length+1) ae=O (a.map (·.1))/\(∀ai∈a,iu ai)/\a.length<=3^bt.length/\aT=az (cc<|a.flatMap fK)
def HG {b:List (Int×Int)}(d:∀a∈b,iu a):(cc<|b.flatMap fK).length<=b.length*10:=by
 unfold cc;mspec Gl;show th (λa=>(fK a).flatMap ec.lf) b 10 λa e=>Gk _ a (mH<|d a e) V
theorem HH (n j:Nat):∀b:bF,(∀i∈b,∃e:List (Int×Int),fS bT n i.1=O (e.map (·.1))/\(∀a∈e,iu a)/\e.length<=j/\eL eD i=az (cc<|e.flatMap fK))->
 ∃f:List (Int×Int),((b.map (·.1)).mapM<|fS bT n).map Gf=O (f.map (·.1))/\(∀a∈f,iu a)/\f.length<=b.length*j/\dC "" (b.map<|eL eD)=az (cc<|f.flatMap fK)
 |[],_=>#[[],V,λa g=>(nomatch g),ew _,V]|i::b,k=>by
  show bB λh d=>?_;show gj (k i ao) λe m o p q=>?_;show d ?_;clear d h;show bB λh d=>?_;show gj (HH n j b λa g=>k a<|A g) λf l i j r=>?_;show d ?_;clear d h;show l7 (e++f) ?_ (λa g=>(jy g).elim (o a)<|i a) (by mspec dE;mspec eA;rw[sG];show c5 [.C G aU,.C N t] 0 (.y G N) (.y t aU) H p j) ?_
  .rw[f2]at l;show bB λh d=>?_;show aX l λa f g=>?_;show d ?_;clear d h;mspec b7;mspec wm;mspec m;mspec f;show(?_:O ((e.map (·.1)::a).flatten)=_);mspec Gg;mspec g;show aI eV V
  .mspec b7;rw[mG];mspec q;mspec r;rw[pC];congr 1;unfold cc;mspec wb;show aI wb V
def Sz {eD:List (Int×i)}(d:ae∈eD.map (·.1)):∃e,eD.lookup ae=O e:=by
 induction eD with
 |nil=>cases d
 |cons f eD g=>
  obtain⟨h,b⟩:=f;mspec fB;by_cases a:ae=h
  .subst a;show#[b,by simp]
  .mspec beq_eq_false_iff_ne.mpr a;show g<|(d1 d).resolve_left a
def SA {a:List (Int×i)}(d:m∉a.map (·.1)):a.lookup m=c:=by
 induction a with
 |nil=>rfl|cons e a f=>
  obtain⟨g,b⟩:=e;mspec fB;mspec beq_eq_false_iff_ne.mpr (λa=>d (a▸ao):m≠g);show f λa=>d<|A a
def SB (e:dp m){a:h}(f:a.Nodup)(g:∀b∈a,da m b≠[]):a.length<=5:=by
 have:=lR ((h7 m.length).map λ(d:Nat)=>3+(d:Int)) a f λb i=>by
  show kK (HE e<|g b i) λd f body a=>?_;show eN a λb f=>?_;show iw.mpr<|as d (iW.mpr b) V
 rw[a6,jP]at this;have:=e.len;show a5 ‹_› ‹_›
def SD {d:List bF}(K:dp d)(l:rB d o r)(L:m∉o)(R:da d m≠[])(Tb:∀X∈da d m,X∈o\/da d X=[]):
 Ax d r m/\rB d (o++[m]) (r++[(m,kz d r m)]):=by
 show bB λi e=>?_;show kK (HE K R) λs Tc body X=>?_;show tV X λE Y x Td Z M Te=>?_;show e ?_;clear e i;have S4:(o++[m]).Nodup:=gz.mpr #[l.bz,by simp,λTl X b S8=>by
  mspec bW S8;intro S8;show L<|S8▸X]
 have S5:∀j∈o++[m],da d j≠[]:=λj h=>by
  show cK h (λh=>?_) λh=>?_
  .show l.gI j h
  .show(bW h)▸R
 have P:o.length<=4:=by
  have:=SB K S4 S5;rw[dE,gw]at this;show Dn ‹_›
 have S6:3^o.length<=81:=by
  simpa using(QE (by decide) P:3^o.length<=3^4)
 have S7:∀a∈body,∃p:List (Int×Int),fS d (o.length+1) a.1=O (p.map (·.1))/\(∀X∈p,iu X)/\p.length<=3^o.length/\eL r a=az (cc<|p.flatMap fK):=λa g=>by
  by_cases R:a.1∈o
  .show v (Sz (eD:=r) (ae:=a.1)<|l.jq▸R) λS S8=>?_;show bB λi e=>?_;show gj (l.HF _ _ S8) λp T A B D=>?_;show e ?_;clear e i;show l7 p T A B ?_;unfold eL;show S8▸D
  .show l7 ([a]) ?_ (λX F=>by show(bW F)▸M a g) (Nat.pow_pos (k H):1<=3^o.length) ?_
   .rw[rm];mspec Sy K<|(Tb _<|Te▸Sw (dI g)).resolve_left R;rfl
   .have I:eL r a=eL [] a:=by
     unfold eL;mspec SA (by show aI l.jq ?_;show R);rfl
    mspec I;mspec(mH<|M a g).Ao;mspec ti;mspec R3;rw[fj]
 show gj (HH (bT:=d) (eD:=r) (o.length+1) (3^o.length) body S7) λq Tf u K Tg=>?_;have U:q.length<=3^(o.length+1):=by
  rw[Ak];show bb [.C G t,.C t<| .cS 3 N] 0 G (.w N 3) H K (xd _ Z:body.length*3^o.length<=3*3^o.length)
 have W:q.length<=243:=by rw[Ak]at U;show b9 [#[3,N,.n 81],.C G<| .w N 3] 0 G (.n 243) H S6 U
 have K:lj d m=body.map (·.1):=by
  unfold lj;mspec show((d[(m - 3).toNat]?).getD [])=(3+(s:Int),Tc)::body from x;rfl
 have R:nI d m=z:=by
  unfold nI;rw[i7];mspec decide_eq_true_eq;mspec decide_eq_true_eq;show#[bh [m,↑s] [.C (.y (.n 3) aA) f,.C (.n 0) aA] 0 (.Q<| .n 2) f H (c2 (E).symm:) (f3 s:),bh [m,↑d.length,↑s] [.C f<| .y (.n 3) d7,.aK d7 aA] 0 (.Q f) (.y (.n 3) aA) H (c2 E:) (ej.mpr Y:)]
 have S9:fS d (o.length+2) m=O (q.map (·.1)):=by
  rw[rm];mspec if_pos R;mspec K;show Tf
 have Ta:kz d r m=az (cc<|q.flatMap fK):=by
  unfold kz;show x▸Tg
 have J:∀j∈q.map (·.1),0<=j/\j<8:=λj h=>by
  show bB λi e=>?_;obtain⟨a,g,rfl⟩:=ck h;show e ?_;clear e i;show(u a g).1
 have Th:r.length=o.length:=by have:=congrArg fN l.jq;rw[a6]at this;show this
 constructor
 .show#[by show#[bh [m,↑s] [.C (.y (.n 3) aA) f,.C (.n 0) aA] 0 (.n 3) f H (c2 (E).symm:) (f3 s:),bh [m,↑d.length,↑s] [.C f<| .y (.n 3) d7,.aK d7 aA] 0 (.Q f) (.y (.n 3) aA) H (c2 E:) (ej.mpr Y:)],by mspec x;mspec eA;show gu,λa g=>?_,by mspec l.jq;show L,by show dG (a5 (ay Th) P) H,?_,q.map (·.1),q.flatMap fK,Sx d (p5 P V) S9,by rw[a6];show b0,J,Ta,λit Ti=>?_,?_,?_,?_,QV _,?_,Gn _,Gs J,?_]
  .have Tj:iu a:=by
    rw[x]at g;show gh g ?_ λg=>?_
    .show Td
    .show M a g
   show bB λi e=>?_;show cd Tj λo s E=>?_;show e ?_;clear e i;show cG o s (by mspec ws o.1 o.2;show dH.mp<|bh [↑a.snd.toNat,a.snd] [.aK aA<| .n 3,.C f aA] 0 (.Q f) (.n 3) H E (c2 (gx<|bh [a.snd] [.C (.n 0) f] 0 (.n 0) f H s):))
  .mspec x;mspec d2;have:=AN ((λm=>m.length)∘eL r) body 810 λa g=>by
    show bB λi e=>?_;show gj (S7 a g) λp o A B D=>?_;show e ?_;clear e i;show(?_:(eL r a).length<=810);mspec D;show(?_:(cc<|p.flatMap fK).length<=810);show bb [#[10,N,.n 81],#[10,t,N],.C G<| .w t 10] 0 G (.n 810) H S6 B<|HG A
   show(?_:(((body.map<|(λm=>m.length)∘eL r)).sum)<=100000);show b9 [#[810,N,.n 3],.C G<| .w N 810] 0 G (.n 100000) H Z this
  .show bB λi e=>?_;show aX (GY.mp Ti) λa g o=>?_;show e ?_;clear e i;show(mH<|u a g).ok it o
  .have:=HG u;show b9 [#[10,N,.n 243],.C G<| .w N 10] 0 G (.n 100000) H W this
  .show b9 [#[3,N,.n 243],.C G<| .w N 3] 0 G (.n 1000) H W<|th fK q 3 λa g=>(mH<|u a g).fR
  .mspec Gj q u;rw[rp]
  .have:=QZ J;rw[a6]at this;show b9 [#[8,N,.n 243],.C G<| .cS 8 N] 0 G (.n 100000) H W this
  .rw[<-Gn];show QX<|Gs J
 .show#[by mspec eV;mspec l.jq;rfl,S4,S5,λj S h=>?_];mspec dE;mspec gw;by_cases I:j=m
  .subst I;rw[GD _ _ _ (by mspec l.jq;show L)]at h;obtain rfl:=fU h;show l7 q S9 u U Ta
  .have Tk:r.lookup j=O S:=by
    rw[RU]at h;cases F:r.lookup j with
    |some a=>rw[F]at h;show h|none=>
     rw[F]at h;simp[fB,beq_eq_false_iff_ne.mpr I]at h
   show bB λi e=>?_;show gj (l.HF j S Tk) λp T A B D=>?_;show e ?_;clear e i;show l7 p (A0 d _ _ _ T) A (by rw[Ak];show b9 [.C G N] 0 G (.w N 3) H B) D
def SE (p:dp b)(q:rB b n m)(a:h)(j:(n++a).Nodup)(o:∀d∈a,da b d≠[]/\∀g∈da b d,g∈n\/da b g=[]):
 Ay b m a/\rB b (n++a) (iv b m a):=by
 induction a using i4 with
 |nil=>show#[λi d r=>by simp at r,by rw[fj];show q]|snoc a d s=>
  rw[<-hX]at j;show am (s (gz.mp j).1 λk e=>o k<|bI e) λt u=>?_;have v:d∉n++a:=λn=>(gz.mp j).2.2 d n d (by simp) V;show am (o d<|by simp) λj n=>?_;show am (SD p u v j λg o=>(n g o).imp (λj=>bI j) id) λw x=>?_;show#[λi k e=>?_,?_]
  .rcases sc i a.length with l|l
   .rw[s0 l]at e;mspec List.take_append_of_le_length (by show iD ‹_›);show t i k e
   .have f:=(gG.mp e).1;replace f:=dE▸f;replace f:=gw▸f;have y:i=a.length:=cZ (b9 [.aK G<| .Q N] 0 G N H f)<|l;subst y;rw[sZ<|cg _,z0]at e;obtain rfl:=fU e;rw[List.take_left']
    .show w
    .rfl
  .rw[<-hX];have:iv b m (a++[d])=iv b m a++[(d,kz b (iv b m a) d)]:=by
    unfold iv;mspec iX;rfl
   mspec this;show x
def SF (h:TabsAt m n.heap)(l:∀i p,w.raises i p=aj)(q:w.post args (.bool z) args=z)
 (s:E r.heap (ghostOf n.heap m)) (t:r.os=n.os) (u:AllBare r.gens) (x:GrownAll m r.heap):GoodWG w B M args n (.ok<| .ret<| .bool z) r:=by
 have keep:∀b o,b∉m.map (·.2)->n.heap.get? b=O o->r.heap.get? b=O o:=λb o a d=>s b o<|ghost_ne d a;have j:∀b o,b∈m.map (·.2)->n.heap.get? b=O o->isCodeTable n.heap b/\o=nO (aRR [])/\∃e,r.heap.get? b=O (nO e):=λb o a d=>by
  obtain⟨f,g,rfl⟩:=ck a;have k:=(h f g).2;rw[d]at k;show cG (((h f g).1.tab (h f g).2).isCodeTable) (fU k)<|x.get f g
 show l6 (.inl<|BF (.bool z) (.bool z) [] rfl (l args) (.bool z) q (λh=>#[List.nodup_nil,λi f=>nomatch f])) #[λb o d=>?_,λb o d=>?_] t u
 .by_cases a:b∈m.map (·.2)
  .show Bx (j b o a d) λi f=>?_;show v f λe g=>?_;show .inr (.inl #[i,V,(aRR []),e,V,by show uT▸g])
  .show .inl<|keep b o a d
 .by_cases a:b∈m.map (·.2)
  .show cd (j b o a d) λh h f=>?_;show v f λe g=>?_;show dm _ g
  .show dm o<|keep b o a d
def SG (e:Well o r m n):∀a,n=.int a->∃b,m=.int a b:=by
 cases e with
 |int a b=>show λf d=>#[b,WData.int.inj d▸V]|_=>show λf d=>nomatch d
def SH (g:Well n m o r):∀a b,o=.ref a->r=.list b->∃e:cv,m.get? a=O {cls:=.type "list",data:=.seq e.toArray}/\WellAll n m e b:=by
 cases g with
 |list d h=>show λa b f e=>#[_,uj f▸d,WData.list.inj e▸h]|_=>show λb a f d=>nomatch d
def SI:∀{a:cv},WellAll m n a (ofPys<|b.map uF)->rM a b:=by
 induction b with
 |nil=>
  intro a d;cases a with
  |nil=>show .nil|cons e a=>show nomatch d
 |cons f b g=>
  intro a d;show f4 (wellAll_cons_inv d) λe i a b h=>?_;show v (SG b f V) λe d=>?_;show a▸d▸ .cons _ _ (g h)
def SJ (d:Well o m (.ref b) (ofPy<| .list<|n.map uF)):∃a:cv,m.get? b=O {cls:=.type "list",data:=.seq a.toArray}/\rM a n:=
 aX (SH d b _ V rfl) λa e f=>as a e<|SI f
section
variable {U:aV}
def SK (b:aR U):ez U 262 (bi 262<|a U) ["script"] (cf 262<|a U):=
 b.fn V rfl H V rfl (kX λd=>by room)
  (qs V (λb=>H) he) (by decide) (by mspec(show((iB 0 (bi 262<|a U).scope.names []).map (·.1))=(["sorter","items","script"]:ak)from by room);decide) e e V
end
noncomputable abbrev oM:List (T×T):=[(251,247),(227,225),(256,254),(68,64),(261,259)]
def SL (f:(pT B.params).In (ghostOf m.heap oM))(I:∃J K M L N,Top J K M L N (ghostOf m.heap oM))(p:TabsAt oM m.heap)(P:m.gens=(aRR []))
 (Q:∀w R,S4.raises w R=aj) (S:S4.post args (.bool z) args=z) (T:Well B.params m.heap (.ref w) (ofPy<| .list<|x.map uF)) (U:x.length<=63) (W:wL x):
 ar (b2 S5 B) callerA (dU (.ref 262) [.ref w]) (λu q=>GoodWG S4 Tg M args m (.ok<| .ret u) q) Th m:=by
 let i:aV:=#[S5,B,ghostOf m.heap oM];have v:aR i:=#[f,I];show bB λf e=>?_;show xl (ghost_code p) λY Z S6 S7 S8 y=>?_;show e ?_;clear e f;have j:∀a∈oM,m.heap.get? a.2=O (nO (aRR [])):=λa d=>(p a d).2;show bB λf e=>?_;show aX (SJ T) λB s I=>?_;show e ?_;clear e f;have C:E (l m.heap [247,225,254,64,259]) i.B:=λb o J=>J;have S9:aN i (l m.heap [247,225,254,64,259]) [.ref w] [.list<|x.map .int]:=by
  show .cons (.list (a1:=B) #[_,cb _ s λg=>?_]<|aN.IH I) .nil;obtain⟨a,d,rfl⟩:∃a∈oM,a.2=w:=by
   simp only[hP,mL,or_false]at g;rcases g with rfl|rfl|rfl|rfl|rfl
   .show as _ ao V
   .show as _ (A ao) V
   .show as _ (A<|A ao) V
   .show as _ (A<|A<|A ao) V
   .show as _ (A<|A<|A<|A ao) V
  have:=j a d;replace this:=s▸this;cases this
 have D:∀s,s∈[247,225,254,64,259]->m.heap.get? s=O (nO (aRR [])):=λs g=>by
  simp only[hP,mL,or_false]at g;rcases g with rfl|rfl|rfl|rfl|rfl
  .show j (251,247) (by decide)
  .show j (227,225) (by decide)
  .show j (256,254) (by decide)
  .show j (68,64) (by decide)
  .show j (261,259) (by decide)
 have t:∀a∈dJ,a.1∈[247,225,254,64,259]:=λa d=>by
  simp only[hP,mL,or_false]at d;rcases d with rfl|rfl|rfl|rfl|rfl<;>decide
 have Ta:∀a∈dJ,bG i (l m.heap [247,225,254,64,259]) m.heap a.1 a.2:=λa d=>by
  have h:=D a.1<|t a d;simp only[hP,mL,or_false]at d;rcases d with rfl|rfl|rfl|rfl|rfl<;>show .tab (fp:=(aRR [])) h trivial λa y=>.inl V
 show(SK v).call (n:=312) (X:=[247,225,254,64,259]) (ds:=[.list<|x.map .int]) (h0:=i.B) (own:=dJ) (fr:=O []) (gen:=z) #[V,by decide,by decide] C (λb g=>#[_,D b g]) S9 V (C.trans l.of) (λa d=>#[t a d,Ta a d]) (λa d=>cT _<|t a d) (by decide) (λg h=>by obtain rfl:=fU h;rfl)
  (λg j=>RL v Y S7 Z S6 S8 300 g 262 j #[i.B,[247,225,254,64,259],O [],z] H V x U W) λTb q F r=>?_
 show bB λf e=>?_;obtain⟨u,g,i,Tc,⟨rfl,rfl⟩,G,Td⟩:=r;show e ?_;clear e f;have Te:=Td.Iq;subst Te;obtain rfl:Tb=.ret (.bool z):=by
  rcases Tc with rfl|⟨_,h⟩
  .rfl
  .cases h
 have k:∀a∈dJ,GrownAt a.1 q.heap:=λa d=>by
  have:=G.hE a d;simp only[hP,mL,or_false]at d;rcases d with rfl|rfl|rfl|rfl|rfl<;>(show aX this.zo λTf h y=>?_;show dm Tf h)
 show SF p Q S G.keep F.os (F.gens<| .of_eq P) #[k _ ao,k _<|A<|A ao,k _<|A<|A<|A ao,k _<|A ao,k _<|A<|A<|A<|A ao,trivial]
def SM (k:∀b:h,b.length<=63->wL b):pU.Holds:=H3 (by
 intro w x l y A b g B o C D E F G H hd I J a m args K L p q r s t;have d:=km_in_of g;have u:=km_tabs_of g;have X:=(Ground.X b).1;have g:=(Ground.X b).2;show Ground.open b ?_;intro i b g w x;have f:TabsAt oM l.heap:=λb j=>by
  simp only[oM,hP,mL,or_false]at j;rcases j with rfl|rfl|rfl|rfl|rfl<;>show#[codeHd_of_K d (by room),u _<|by decide]
 have b:=mg_of d (Top.g i) (n:="law") (v:=.ref 262) (by room);have g:Bk.name="law":=by room
 rw[g,b]at a;injection a with a
 injection a with a
 subst a
 wrow_args p q r s t
 rename Well _ _ _ _=>W;rename ¬_<_=>hz;show SL (ghost_K f d<|by room) #[_,_,_,_,_,ghost_top f i] f m (λa a=>e) (by room) W (dH.mp<|oT.mp hz)<|k _<|dH.mp<|oT.mp hz)
def SN:(m.lookup n).isSome=decide (n∈dh m):=by
 induction m with
 |nil=>rfl|cons e m f=>
  obtain⟨d,b⟩:=e;mspec fB;by_cases a:n=d
  .subst a;simp[dh]
  .mspec beq_eq_false_iff_ne.mpr a;dsimp only;mspec f;rw[decide_eq_decide];show(?_:n∈dh m↔n∈d::dh m);simp[a]
def SO {a:Nat}(b:hU[a]?=O (m,n)):d0 (a:Int)/\a2 (a:Int)=m:=by
 have a:=(gG.mp b).1;have a:hU.length=8:=rfl;show#[#[by show f3 _,by show ej.mpr ‹_›],?_];unfold a2;rw[vL];mspec b;rfl
def SP {a:h}:a.any (·==b)=decide (b∈a):=by
 rw[sY,ko];mspec decide_eq_true_eq;show#[λa=>aX a λf d e=>by show ch (beq_iff_eq.mp e) ?_;show d,λa=>as b a<|beq_self_eq_true b]
def HI {a:List bF}(g:dp a)(k:∀j∈m,j∈cF a):tm (mk (cF a) (gX a m [])<|dl a) m (bk a):=λd j o l=>by
 obtain⟨n,rfl⟩:=SO l;have j:=ht g;have f:a2 (d:Int)∈cP (mk (cF a) (gX a m [])<|dl a)↔(d:Int)∈cF a:=by rw[ry];show wN j n
 unfold q3 nt lT;mspec SP;mspec SN;mspec(iO a g).1;rw[tg<|("node ":i)++gO (a2 (d:Int))];by_cases b:(d:Int)∈cF a
 .mspec AU j b (gX a m [])<|dl a;mspec if_pos<|f.mpr b;unfold gX;by_cases e:(d:Int)∈m
  .mspec if_pos e;mspec if_pos V;mspec if_pos<|decide_eq_true e;show#[.inr<| .inl V,V]
  .mspec if_neg e;mspec if_neg (show(d:Int)∉([]:h) by simp);mspec if_neg (by simp+arith);mspec if_neg (by simpa using e);mspec if_pos<|decide_eq_true b;show#[.inr (.inr<|by show f3 _),V]
 .mspec if_neg<|λa=>b<|f.mp a;mspec if_neg (by simpa using(λa=>b<|k _ a));mspec if_neg (by simpa using b);show#[.inl λa=>b<|f.mp a,V]
def SQ {d b:h}(i:∀a∈d,d0 a)(j:∀a∈b,d0 a)(e:Int->Int)(f:Int->h)(g:Int):eJ (mk d e f) (b.map a2) g=mk d (λa=>if a∈b then g else e a) f:=by
 unfold eJ mk;mspec d2;show hC λa e=>?_;show(?_:(if a2 a∈b.map a2 then _ else _)=_);by_cases d:a∈b
 .mspec if_pos<|dI d;dsimp only;show aI (if_pos d) V
 .mspec if_neg<|λb=>d<|(wN j<|i a e).mp b;dsimp only;show aI (if_neg d) V
structure A1 (bT:List bF)(a b:h)(aa:lW):Prop where
 wV:aa.gU=a
 gV:aa.gV=mk (cF bT) (gX bT a []) (dl bT)
 ev:aa.ev=b.map a2
 bH:aa.bH=aa.bV
 h5:rB bT (a.filter λae=>decide (da bT ae≠[])) aa.h5
def wW (e:dp b)(a:h):oE (bk b) a=a.filter λd=>decide (da b d≠[]):=
 pp λd a=>by rw[(iO b e).2]
def HJ (d:dp b){a:h}(e:a.Nodup)(f:∀g∈a,g∈cF b):a.length<=8:=by
 have:=lR (cF b) a e f;have:=AW d;show a5 ‹_› ‹_›
def oL.next (h:dp o)(e:oL o m n):oL o (m++n) (j2 o m n):=by
 have i:∀d,d∈j2 o m n↔d∈cF o/\d∉m++n/\∀g∈da o d,g∈m++n:=λd=>by
  mspec HC h e;rw[(rl _ _).mem_iff,HB h]
 show#[gz.mpr<|cG e.bz ?_<|λp l b o j=>((i b).mp o).2.1<|j▸l,λd a=>?_,λd a=>?_,λd a g k=>?_]
 .show am (AZ h (m++n) n m V e.bz) λl o=>?_;show l.imp λf j=>by rw[j]at f;show absurd f<|AC _
 .show cK a (λa=>?_) λa=>?_
  .show e.sub d a
  .show((i d).mp a).1
 .rw[i];show#[λf=>f.2,λf=>#[a,f]]
 .show cK a (λa=>?_) λa=>?_
  .show bI<|e.je d a g k
  .show bI<|((e.wT d<|e.sub d<|bA a).mp a).2 g k
def SR (e:dp m)(f:oL m r o)(d:A1 m r o n)(t:o≠[]):
 wC m (bk m) o n/\A1 m (r++o) (j2 m r o) (tn m (bk m) o n):=by
 have p:=ht e;have h:∀a∈o,a∈cF m:=λa b=>f.sub a<|bA b;have l:eJ n.gV n.ev (-1)=mk (cF m) (gX m r o) (dl m):=by
  mspec d.gV;mspec d.ev;rw[SQ p<|λa b=>p a<|f.sub a<|bA b];show oH (λa p=>?_) λp p=>rfl;unfold gX;by_cases b:a∈o
  .mspec if_pos b;mspec if_neg<|λp=>(gz.mp f.bz).2.2 a p a b V;show aI (if_pos b) V
  .mspec if_neg b;mspec if_neg b;simp
 show am (Hx e o r [] h f.bz f.rr) λhd u=>?_;have p:=HJ e (gz.mp f.bz).2.1 h;have p:=HJ e (gz.mp f.bz).1 λa b=>f.sub a<|bI b;have q:=SE e d.h5 (oE (bk m) o) (by
  rw[wW e,<-rV];show f.bz.sublist lS) λa b=>by
   rw[wW e]at b;show am (e7.mp b) λp i=>?_;show#[k i,λr v=>?_];by_cases s:da m r=[]
   .show .inr s
   .show .inl (e7.mpr #[(((f.wT a<|h a p).mp p).2 r v),by simpa using s])
 constructor
 .show#[?_,d.ev,jl.mpr t,by show b0,λp j=>?_,by mspec d.bH;show tS _,λa b=>?_,q.1,?_,λr g=>?_,λr g p j=>?_,by mspec d.wV;show b0]
  .mspec d.gV;mspec d.wV;show HI e λa b=>f.sub a<|bI b
  .rw[d.ev]at j;show g1 j λa b=>?_;show(?_:a2 a∈cP n.gV);mspec d.gV;rw[ry];show dI<|h a b
  .mspec(iO m e).1;show h a b
  .mspec l;mspec d.ev;show u
  .replace g:=d.gV▸g;obtain⟨a,b,rfl⟩:=ck g;show(?_:((dl m a).map a2).length<=30);rw[a6];have:=Hq e a;show b0
  .rw[d.gV]at g ⊢;obtain⟨a,b,rfl⟩:=ck g;show g1 j λb a=>?_;rw[ry];show dI<|rz e a
 .show#[by show(?_:n.gU++o=_);show aI d.wV V,?_,?_,by show(?_:n.bH+_=n.bV+_);show aI d.bH V,?_]
  .show(?_:(fu (eJ n.gV n.ev<| -1,[]) n.ev).1=_);mspec l;mspec d.ev;show congrArg Bc hd
  .show(?_:(fu (eJ n.gV n.ev<| -1,[]) n.ev).2=_);mspec l;mspec d.ev;have:=congrArg Prod.snd hd;rw[nv]at this;show this
  .show(?_:rB m _ (iv m n.h5<|oE (bk m) o));have i:=q.2;rw[wW e,<-rV]at i;rw[wW e];show i
theorem HK (g:dp b):∀(i:Nat)(a e:h)(j:lW),oL b a e->A1 b a e j->(cF b).length<a.length+i->lX b (bk b) (pI i (bk b) a e) j
 |0,a,e,j,d,f,m=>by
  have:=lR (cF b) a (gz.mp d.bz).1 λk l=>d.sub k<|bI l;show absurd ‹_› (g8.mpr ‹_›)
 |i+1,a,e,j,d,f,m=>by
  rw[F0];by_cases a:e=[]
  .mspec if_pos a;show cG ?_ (by mspec f.ev;mspec a;rfl) f.bH;mspec f.gV;mspec f.wV;show HI g λk l=>d.sub k<|bI l
  .mspec if_neg a;show am (SR g d f a) λb e=>?_;show#[b,?_];show ch (HC g d) ?_;show HK g i _ _ _ (d.next g) e (by mspec dE;show c5 [.aK G<| .y N<| .Q aU,.aK (.n 0) t] 0 (.Q G) (.y (.y N t) aU) H m<|jl.mpr a)
def SS (a:Int):gX b [] [] a=jx b a:=by
 unfold gX oK jx;mspec if_neg (by simp);mspec if_neg (by simp);congr 2;show(yj).mpr ?_;intro a _;simp
def ST:jx b m=0↔da b m=[]:=by
 unfold jx fL;mspec dE;constructor
 .intro a;show n9.mp<|cZ (b9 [.C (.y G N)<| .n 0] 0 G (.n 0) H<|ay<|jm a)<|ew _
 .intro a;mspec a;rfl
def wX (a:dp b):pJ (bk b)=(cF b).filter λd=>decide (da b d=[]):=by
 unfold pJ;mspec(iO b a).1;show pp λd e=>by rw[(iO b a).2]
def SU (a:dp b):jX (ln b)=(pJ<|bk b).map a2:=by
 mspec wX a;show(?_:(((cF b).map λa=>(a2 a,jx b a,(dl b a).map a2)).filter λd=>d.2.1==0).map (·.1)=_);mspec zb;mspec d2;have e:(λd:i×Int×ak=>d.2.1==0)∘(λa=>(a2 a,jx b a,(dl b a).map a2))=λa=>decide (da b a=[]):=by
  funext a;show(?_:(jx b a==0)=_);rw[sY,beq_iff_eq];mspec decide_eq_true_eq;rw[ST]
 mspec e;rfl
def SV (e:dp b):lX b (bk b) (j1<|bk b) #[[],[],ln b,jX<|ln b,0,0]:=by
 unfold j1;have j:(bk b).length=(cF b).length:=by
  show ch ((iO b e).1) ?_;unfold dh;rw[a6]
 show HK e _ [] _ _ #[?_,(λd a=>?_),(λd a=>?_),(λd a=>nomatch a)] #[V,?_,SU e,V,#[V,.nil,(λd a=>nomatch a),(λd l f=>nomatch f)]] (by mspec j;simp)
 .rw[nv];mspec wX e;show(tp b).sublist lS
 .rw[nv,wX e]at a;show(e7.mp a).1
 .mspec wX e;rw[e7];mspec decide_eq_true_eq;constructor
  .intro h;show am h λg f=>?_;show#[by simp,λe i=>by replace i:=f▸i;cases i]
  .intro h;show am h λg f=>?_;show#[a,?_];cases hq:da b d with
   |nil=>rfl|cons k a=>show absurd (f k (by mspec hq;show ao)) (by simp)
 .show oH (λd g=>(SS d).symm) λg g=>rfl
def SW (b:h):wL b:=by
 have a:=RM b;have d:pR b=ln (d6 b):=R6 _ a;show#[RN a,RX a,?_,?_,Sn a,?_]
 .mspec d;intro b e g f;obtain⟨b,g,rfl⟩:=ck e;show g1 f λe b=>?_;rw[ry];show dI<|rz a b
 .mspec d;show So a
 .mspec d;show SV a
def holds:pU.Holds:=SM λa b=>SW a
end Mine
theorem PySem.Challenge.cw_rx0023_01_holds : PySem.Challenge.rw_rx0023_01.Holds :=
 Mine.holds
