import PyProof.Rows.All
import PyProof.AttrMissHeap
import PyProof.P3Eq
import PyProof.ExcFactsAll.ValueError
import PyProof.StationsW
import PyProof.ExcStrAll.ValueError
import PyProof.ExcStrCall
import PyProof.ListRange
import PyProof.Rows.Chain
import PyProof.StrLawsTight
import PyProof.Rows.SeqMore2
import KE.KBoundM
import KE.KLam
import KE.KFromBytes
import KE.KItemsList
import KE.KSortKey
import KE.KNestM
import KE.KRevIter
import KE.KSetDisp
import KE.KSortTup
import Wide.FinOn
import OpenK.AllK
import Wide.All
import Lean
import PySem.Challenge.RW_if0046_01
set_option Elab.async false
set_option maxRecDepth 100000
set_option linter.all false
set_option genSizeOf false
set_option genInjectivity false
set_option compiler.extract_closed false
set_option compiler.reuse false
set_option maxHeartbeats 1000000
namespace Mine
open Array renaming length_toList->cI,getElem?_toList->cM,toList_append->dQ,perm_iff_toList_perm->fT,getElem?_eq_getElem->gk,toList_push->kz,toList_extract->lQ,size_setIfInBounds->nW,toList_map->oT,toList_eraseIdxIfInBounds->tX,toList_inj->uu,size_push->wf,toList_setIfInBounds->xd,size_map->xe,getElem_extract->Bx,toList_reverse->Dm,getElem?_push->Er,size_extract->FP
open Array.Perm renaming refl->nX
open Bool renaming false_ne_true->bb,and_eq_true->bN,or_eq_true_iff->gS,or_eq_true->iK,eq_false_iff->nV,and_eq_true_iff->qK,false_eq_true->sj,not_eq_true'->tW,eq_iff_iff->J0,and_false->Kt
open Classical renaming epsilon->j4,byContradiction->mZ,epsilon_spec->xc,choice->PC
open Eq renaming symm->jl
open False renaming elim->xb
open ForInStep renaming yield->dG,done->j0
open Function renaming comp_def->Qj,comp->Ql
open Int renaming le_trans->bv,natCast_nonneg->bF,mul_le_mul_of_nonneg_left->bH,toNat_natCast->bS,le_of_lt->bT,mul_le_mul_of_nonneg_right->cK,ofNat_lt->cY,fmod_nonneg_of_pos->cZ,eq_ofNat_of_zero_le->dj,toNat_of_nonneg->dE,fdiv_eq_ediv_of_nonneg->dJ,ofNat_le->dM,natAbs_natCast->ee,fmod_lt_of_pos->ef,zero_add->eM,le_refl->eR,lt_of_le_of_lt->fh,le_of_not_gt->fj,le_antisymm->fC,mul_fdiv_add_fmod->f8,one_mul->iy,mul_one->iz,lt_of_lt_of_le->iF,not_le->jt,le_of_add_le_add_right->ju,fmod_eq_emod_of_nonneg->jv,le_of_eq->jE,add_lt_add_left->jP,mul_assoc->jZ,neg_le_neg->kU,mul_comm->kW,add_le_add->kX,mul_add->md,add_le_add_left->nc,ne_of_lt->nq,mul_nonneg->nI,le_add_of_nonneg_right->nJ,add_nonneg->nK,not_lt->pU,natAbs_of_nonneg->rd,add_left_cancel->r7,add_assoc->si,pow_succ->uq,mul_zero->ur,add_comm->ut,pow_pos->wo,natCast_pos->w7,natCast_mul->w8,natCast_add->w9,natCast_ne_zero_iff_pos->yk,eq_of_mul_eq_mul_right->zt,ofNat_sub->Bl,ofNat_inj->Bm,neg_ofNat_le_natCast->Bn,toNat_lt->Dj,sub_eq_iff_eq_add'->Dk,add_zero->Dl,mul_sub->FO,dvd_mul_right->Il,neg_fdiv_neg->JX,natCast_ediv->JY,lt_of_not_ge->JZ,natCast_pow->Ks,natAbs_neg->Ln,lt_irrefl->LO,ne_of_gt->My,lt_toNat->Mz,lt_asymm->MA,fmod_def->MB,add_mul->Nz
open LawfulMonad renaming mk'->am
open List renaming length_map->ak,getElem?_eq_getElem->an,getElem?_map->av,length_append->aB,getD_eq_getElem?_getD->aJ,lookup_cons->aK,mem_of_getElem?->aQ,mem_append_right->aW,mem_map_of_mem->aX,size_toArray->bk,append_nil->bp,append_assoc->bq,range->br,replicate->bC,mem_append_left->bG,map_append->bM,flatMap_cons->bP,map_cons->bV,getElem?_eq_none->cn,map_map->cz,getElem?_toArray->cE,flatMap_append->cO,length_take->cS,pairwise_map->cT,length_singleton->de,length_range->dk,eq_nil_of_length_eq_zero->dr,take_add_one->dF,getElem?_append_left->dN,map_congr_left->dS,cons_lt_cons_iff->dW,mem_of_mem_take->eh,flatMap_map->ej,filter_cons_of_pos->em,getElem?_append_right->eI,of_mem_zip->eO,getElem?_set_self->fH,take_length->fP,length_cons->fQ,take_append_drop->fV,length_filter_le->fW,pairwise_iff_getElem->gl,getElem?_set_ne->gu,dropLast_concat->gw,not_mem_nil->gZ,drop_drop->g0,any_eq_true->hH,take_of_length_le->ix,mem_append->iI,find?_cons->iJ,length_replicate->iP,reverse_cons->iY,nodup_append->iZ,ext_getElem?->ja,nodup_nil->jm,getElem?_mapIdx->jn,mem_reverse->jx,cons_append->jy,drop_eq_getElem_cons->jD,replicate_succ->jH,map_eq_flatMap->jI,getElem?_range->jJ,length_set->jY,filter_cons_of_neg->km,toArray->kH,mem_flatMap->lu,map_flatMap->lw,length_drop->lx,getElem_mem->ly,flatMap_nil->lz,filter_cons->lA,cons_ne_nil->lB,mem_of_mem_drop->lV,length->lW,count_eq_zero_of_not_mem->lX,range_succ->mn,nodup_cons->mq,nil_append->mr,dropLast_concat_getLast->mu,length_reverse->mY,map_id'->m9,extract_eq_take_drop->nL,any_cons->n9,pairwise_singleton->oY,all_eq_true->o7,map_set->ph,length_nil->pS,set_getElem_self->qk,perm_append_comm->ql,pairwise_append->qI,contains_eq_mem->qJ,reverse_append->rk,all_cons->r6,pairwise_cons->sd,mem_singleton->se,length_mapIdx->sf,flatMap_assoc->sh,set_eq_take_append_cons_drop->tx,reverse_perm->tT,getElem?_inj->tU,replicate_append_replicate->un,nodup_range->uP,map_reverse->uQ,map_id->we,take_left'->wj,mem_filter->wl,forIn_cons->wm,foldl_cons->wn,drop_length_add_append->w6,length_eraseIdx_of_lt->yi,mem_cons->zF,eq_of_mem_replicate->zG,map_nil->Bv,drop_of_length_le->Bw,pairwise_reverse->Di,reverse_reverse->Em,range'->En,mem_iff_getElem->Eo,length_take_le->FN,ne_nil_of_mem->FZ,lookup_append->F0,getElem?_drop->Ga,take_sublist->H3,getElem?_set->H4,foldl_append->H5,flatten_cons->H6,any_eq_false->H7,map_snd_zip->Ii,map_fst_zip->Ij,isEmpty_iff->Ik,not_lt_nil->JU,isPerm_iff->JV,headD_cons->JW,mem_range->Kq,lt_irrefl->Kr,take_add->Lj,map_take->Lk,map_drop->Ll,lt_asymm->Lm,mem_map->LN,getD->OG
open List.Nodup renaming idxOf_getElem->O0
open List.Pairwise renaming nil->pT,imp_of_mem->Mx
open List.Perm renaming eq_of_pairwise->nn,swap->uo,append_left->yj,of_eq->Ep,trans->Py,refl->Pz,append_right->PA,append->PB
open List.Sublist renaming append_left->tV
open List.cons renaming injEq->lm,inj->Px
open Nat renaming le_trans->ab,le_of_eq->aj,le_refl->aq,lt_of_lt_of_le->aw,le_of_ble_eq_true->ax,le_of_lt->aF,le_add_right->aI,add_le_add_left->aL,zero_le->aM,lt_of_le_of_lt->aR,le_of_not_lt->ba,ne_of_lt->bg,add_sub_cancel'->bo,le_antisymm->bB,not_lt_of_le->bD,add_le_add->bJ,lt_succ_self->bU,add_lt_add_left->cy,lt_of_le_of_ne->cG,le_pred_of_lt->cW,le_of_lt_succ->cX,one_pos->df,add_le_add_right->dt,min_eq_left->dB,le_add_left->dC,add_sub_cancel_left->dI,succ_le_succ->dL,add_assoc->dX,ne_of_gt->ed,mul_le_mul_right->en,min_le_right->eo,le_succ->er,le_sub_of_add_le->et,sub_lt->eK,le_of_add_le_add_right->eL,succ_add_eq_add_succ->fk,add_comm->fm,le_of_succ_le->fz,min_eq_right->fS,sub_le->fU,noConfusion->gt,zero_add->gy,sub_pos_of_lt->gz,lt_of_succ_lt->gB,le_succ_of_le->gC,lt_of_not_le->ij,lt_add_of_pos_right->ik,pos_of_ne_zero->iC,mod_lt->iD,le_of_add_right_le->iE,lt_succ_of_lt->jd,pow_le_pow_right->jr,one_le_pow->js,mul_le_mul_left->jO,exists_eq_add_of_le'->jX,sub_add_cancel->kj,lt_of_lt_of_eq->kl,succ_pos->kQ,mul_comm->kR,lt_of_succ_le->kS,eq_zero_of_not_pos->kT,add_lt_of_lt_sub'->lr,not_lt->lP,min_le_left->mX,lt_trans->nl,add_right_comm->nH,pow_succ->pR,not_lt_zero->qh,div_add_mod->qj,le_of_sub_eq_zero->qv,add_le_of_le_sub'->qx,pow_pos->ra,mul_add->rb,div_lt_of_lt_mul->rc,sub_le_sub_left->r5,max_le->tu,gcd_zero_right->tv,zero_lt_of_lt->uj,succ->uk,ne_zero_of_lt->ul,lt_or_ge->um,max_eq_right->wc,le_max_right->wd,mul_le_mul->zq,lt_one_iff->zr,lt_irrefl->Bk,testBit_mul_two_pow->Br,testBit_div_two_pow->Bs,le_mul_of_pos_right->Bt,exists_eq_add_of_le->Bu,zero_lt_of_ne_zero->Db,succ_mul->Dc,sub_zero->Dd,sub_eq_zero_iff_le->De,sub_eq_iff_eq_add'->Df,gcd->Dg,add_zero->Dh,sub_eq_zero_of_le->Ek,le_sub_of_add_le'->El,sub_lt_sub_right->FE,pow_add->FF,one_lt_succ_succ->FG,mul_two->FH,mul_one->FJ,le_sub_one_of_lt->FK,eq_of_testBit_eq->FL,add_sub_add_left->FM,add_sub_cancel->H2,succ_le_of_lt->Ig,add_sub_assoc->Ih,pred_le_pred->JR,mod_eq_of_lt->JS,gcd_le_right->JT,div_lt_self->Ko,div_le_self->Kp,sub_add_eq->Lh,ne_add_one->Li,dvd_trans->LM,succ_add->Mu,mul_zero->Mv,gcd_comm->Mw,one_mul->Nt,mul_mod->Nu,log2_lt->Nv,div_pos->Nw,add_mul->Nx,add_mod->Ny,not_le->OE,lt_min->OF
open Nat.ToInt renaming of_diseq->ma
open Nat.succ renaming inj->lU
open Ne renaming symm->db
open Option renaming isSome_iff_exists->dz,none->dO
open Option.some renaming inj->gR
open Prod renaming ext->Kn
open PyProof renaming noPylong_small->zo
open PyProof.Rows renaming Keyed->aC,wpS_bind->aG,arrOf->aO,wpS_pure->aY,SortSt->bl,seqObj->cV,MethodCall_->eH,reverseSlice'->fx,signs->gF,wpS_mono->jj,failedOf->jk,wpS_modify->jN,listUpdate_at->ky,wpS_get->kE,get?_update_seq->kG,size_push'->kP,wpS_forRange->lN,SortKind->lO,wpS_lift->nj,Subscript_->oR,Attribute_name->oS,wpS->pg,pendingOf->qu,sortedHeap->q8,listItems_at->q9,tail_any->tm,seqEpoch_at->tn,pairsOf_toList->tq,oneType'->tt,pairsOf->w0,lt_str->w3,lt_int->w4,eq_str->w5,mirror_perm->zE,call_MA->Bq,getElem?_mirror_all->Km,tuples'->LH,numOf->LI,ltAt'->LJ,sortRuns'->Mt,xor_int->M2,type_int_bit_length->M3,truthy_int->M4,sub_int->M5,slot_int_bit_length->M6,rshift_int->M7,neg_int->M8,ne_int->M9,mul_int->Na,mod_int'->Nb,lshift_int_small->Nc,len_str->Nd,le_int->Nf,invert_int->Ng,getItem_tuple->Nh,getElem?_bubble->Ni,ge_int->Nj,floordiv_int->Nk,eq_isInt->Nl,eq_int->Nm,eq_dataH->Nn,entry_list_sort->No,divmod_int->Np,add_str->Nq,add_int->Nr,slot_list_sort->Oy,mirror->Oz,lt'_eq->OA,keyKind'->OB,intSetOf_fresh->OC,bubble->OD,plain_sorted->Pp,pairsOf_size->Pq,minRun'->Pt,entry_sorted->Pu,IntsAre->Pv,kind_sorted->Qi
open PyProof.Rows.Glob renaming regrown->LK
open PyProof.Rows.SortSt renaming mk'->jc
open PySem renaming wpAny_bind->aa,Value->ae,Shared->af,PyData->ag,wpAny_pure->ah,World->ar,Addr->ay,Heap->aA,Str->aE,wpAny->aV,strKind->aZ,Expr->be,Scope->bf,Around->bj,wpAny_holding->bw,mainGlobals->bA,wpAny_execs_cons->bI,strLen_append->bL,Fin->bO,starEach->bW,DictEntry->ce,wpAny_call_entry->ck,wpAny_mono->cr,wpAny_standAt->ct,Stmt->cD,wpAny_setState_of->cH,foldedSetIterable->cN,Pos->cU,wpAny_askSetting->dc,rawInt->dq,wpAny_Assign_Name->dw,builtinsNs->dA,slot_list_append->dU,getMethod_builtin->dY,Result->eB,wpAny_isInstance->eF,wpAny_callSpecial?_slot->eG,wpAny_attempt->eQ,wpAny_rule->eT,wpAny_newObj_type->eU,wpAny_Expr_any->eV,eval->eW,wpAny_updateSeq->eX,sizeLine_eq->eY,execs->eZ,codeAny_builtin->fb,Obj->ff,Env->fg,assign->fu,callEnvC->fB,wpAny_truthy_bool->fG,letOwnedTupleGo->fM,FuncData->fR,wpAny_of_eq->fY,attributeBase->fZ,wpAny_items_cons->gj,wpAny_setField->gm,codeAny->gn,wpAny_items_nil->gM,theTreesLotGoes->gN,swapsWith->gO,standAt->gQ,strKind_is->ii,Sem->il,wpAny_typeOf->iW,wpAny_call->iX,NameKind->jh,GenState->ji,entry_list_append->jw,type_list_append->jU,args_list_append->jV,pyNext->ki,sizeLine->kt,plainId_quiet->ku,wpAny_loadPart'->kA,typeIs_str->kN,pyIter->kO,wpAny_field->lc,noteFrame->lf,wpAny_bindName->lG,slot_list_getitem->lH,isSubtype_type->lI,backTo->lJ,Model->lM,plainObj_wpAny_Assign_Attribute->l9,wpAny_isTrue_Compare1->ml,wpAny_List->mV,wpAny_newFunctionEnv->nf,subscripted->nh,interactive->ni,wpAny_execs_nil->nF,updateSeq->nY,codeAmong->nZ,wpAny_load->oI,wpAny_Constant_str->oJ,slot_listiter_next->oK,call_meets->oM,wpAny_throw->pe,wpAny_pyIter_list->pf,isSubtype->qm,SetTable->qq,Code->qr,newEnv->q0,bootBuiltins->q5,model->rg,intKind->rh,exec_Assign_Name_used->r1,codeAny_call_function->r3,relayAll->td,isTrue->te,strValues->tO,getItem->tP,ret->ug,length_partsBetween->uh,Flow->ui,wpAny_newList->uJ,swappedStores->uK,slot_gen_next->uL,Frame->uM,Comprehension->uO,typeOf->v9,wpAny_storeSet_of->wQ,wpAny_Return_some->wR,stripped->wS,operate->wT,intText?->wU,holding->wV,entryFor->wW,callWith->wX,bindArgs->wY,BindsTo->wZ,wpAny_pyIter_gen->zh,wpAny_eqBool_str->zi,entryFor_of_tree->zj,Resume->zl,JoinOk->zm,Arguments->zn,wpAny_specialOf->Bg,wpAny_runValue->CQ,wpAny_newTuple->CR,wpAny_newFunctionEnv_cells->CS,wpAny_loadPart->CT,wpAny_Name->CU,typeIs_int->CV,sysModules->CW,splitAtGen->CX,recursionLimit->CY,letTemporaryGo->CZ,leafOf->C0,isSubtype_stop->C1,firstArgMember->C2,compTurn->C3,compEnvC->C4,Tok->C9,ReadsAll->Da,wpAny_handled->Fu,rangeSize_one->Fv,comprehension->Fw,behindInMarks->Fx,ExceptHandler->FB,wpAny_unpackItems_tuple->FU,wpAny_callSpecial?_none->FV,scanBound->FW,pickOrder->FX,wpAny_pyIter_rangeiter->HS,wpAny_noteFrame_againW->HT,revObj->HU,layNew->HV,firstIterPos->HW,exec->HX,codeAny_func->HY,Params->HZ,wpAny_storeName_local->Ia,wpAny_pyIter_listiter->Ib,wpAny_pyIter_revIter->Jz,wpAny_BinOp->JA,numAt->JB,keywordEach->JC,compPost->JD,Operator->JJ,entry_listiter_next->Kj,codeAny_forLoop_any->Kk,wpAny_getItem_list->K7,typeLookup->K8,runOwn->K9,call_reversed_list->La,args_listiter_next->Lb,End->Lf,wpAny_dictEntries->Lx,wpAny_Return_none->Ly,table->Lz,slot_list_setitem->LA,again->LB,wpAny_roomToWake->Mm,wpAny_eqBool_int->Mn,wpAny_Try_except->Mo,wpAny_Dict_empty->Mp,partValue->Mq,dropValue->Mr,wpAny_tests_nil->MR,wpAny_genNumber->MS,wpAny_dictEpoch->MT,codeAny_of_tree->MU,yieldOut->N0,wpAny_seqItems->N1,wpAny_genState->N2,wpAny_fieldsOf->N3,wpAny_If->N4,wpAny_Compare1->N5,truthy->N6,storeSet->N7,slotArgs->N8,setField->N9,setDisplayStar->Oa,raiseNew->Ob,newExc->Oc,methodCallForm->Od,evalPairs_cons->Oe,entry_gen_next->Of,checkBoundCall->Og,cellOf->Oh,cLine->Oi,binaryOp->Oj,backToKw->Ok,argsOk->Ol,Slot->Oq,CmpOp->Ox,wpAny_UnaryOp->OV,swapsWithSole->OW,signature?_of->OX,args_gen_next->OY,wpAny_mkText->Pa,wpAny_landsW->Pb,valueAt->Pc,setItem->Pd,name_of_addr->Pe,leaving->Pf,concat_meets->Pg,collect->Ph,codeAny_loop->Pj,call_meetsIn->Pk,callSpecial?->Pl,Program->Po,wpAny_noted->PD,wpAny_Slice->PE,isCodeTable->PF,field->PG,bindL->PH,bindC->PI,Wakes->PJ
open PySem.Around renaming under_plainId->lq
open PySem.AutoSeq1 renaming sub_list_list->Qh
open PySem.BindsTo renaming of_eq->jC
open PySem.Builtin renaming bitNot->gL,bitXor->pQ,bitAnd->wb,bitOr->Ie
open PySem.Builtin.Frozenset renaming slot0->JN,sizeOf->JO,noArgs->JP,addrOf->JQ
open PySem.Builtin.Generator renaming sleptOver->qg,genWake->qH,genLeft->JM
open PySem.Builtin.Int renaming intBits->bt
open PySem.Builtin.List renaming listExtendWith->r4,listSameRef->tS,listTooLong->MZ,listSubscript?->M0,listFitsIndex->M1
open PySem.Builtin.Range renaming rangeFitsLong->rj,rangeSize->tR,small->wi
open PySem.Builtin.Str renaming strKind->qG,tooLong->JK,glued->JL
open PySem.Calls renaming Name_function_global->th,call_len_list->FD,loadGlobal_builtin->Lg
open PySem.Code renaming builtin->tQ
open PySem.Data.seq renaming injEq->Qg
open PySem.DisplayRoad renaming oneByOne->Ow
open PySem.End renaming susp->Le,quiet->OZ
open PySem.Expr renaming Name->uN
open PySem.F renaming plainAttrs_list->eb,slot_str_split->eC,entry_str_split->jT,type_str_join->kB,slot_str_join->kC,args_str_split_2->nG,type_str_split->oP,plainAttrs_str->oQ,slot_list_getattribute->tg,type_dict_items->yd,slot_str_rstrip->ye,slot_list_index->yg,slot_dict_items->yh,slot_int_rmul->zD,slot_set_pop->Bi,slot_set_len->Bj
open PySem.FuncBody renaming stmts->Qf
open PySem.Heap renaming get?_push_of_some->au,get?_push_size->az,lt_size->aH,get?_update_self->bn,SameBut->bR,size_push->cm,ExtBut->gr,size_update->gY,dictOf_iff->jW,get?_update_ne->mW,HeldW->yc,FlyingW->Bp,get?_none_of_le->Ej,get?_push_ne->H1
open PySem.Heap.DictOf renaming new->Ov
open PySem.Heap.SameBut renaming update->aU,refl->MY
open PySem.Keeper renaming boundFrame->FA,machine->Ic,frame->Kl
open PySem.Manifest renaming signature?->Qb,sig_set_iterator->Qc,owners->Qd,find?->Qe
open PySem.NameKind renaming free->dR
open PySem.Obj renaming mapSeq->bu,data_mapFields->cF,isFreed_of_fields->f7,mapFields->iO,cls_mapFields->n8,putSet->H0,putName->MX
open PySem.Pairs renaming nil->MW
open PySem.PyData renaming int->cb,str->da,canLayAll0->di,list->dp,strOk->eE,eqv->fO,keyHash->m8,depthAll->pc,canLay0->qf,depth->zC,eqvAll->JI
open PySem.ReadsAll renaming rec->Qa
open PySem.SC renaming startswith->PY,replace->PZ,joinStr->P8,join->P9
open PySem.Sem renaming bind_eq_wrap'->ca,wrap_wrap->cJ,bind_eq_wrap->jB,onRaise_eq_wrap->m7,wrap_congr->q7
open PySem.SeqAt renaming shaped->cc,list_indexAt->Os,in_list_reads->Ot,eqv_refl->Ou
open PySem.SetTable renaming grown->iN,eraseAt->jb,below->mm,fits->qo,insertAt->ri,tooFull->PL,sizeAbove->PM,roomFor->PN,relaid->PO,popped->PP,popPlace->PQ,orStandIn->PS,layClean->PT,laid->PU,fits_plain_off->PV,fill->PW,drop->PX
open PySem.SetTable.below renaming go->LG
open PySem.Str renaming ofString->ac,empty->gq,join->Fz
open PySem.StrLaws renaming occ_length_le->zB
open PySem.Txt renaming startswith->fw,split->fy,join->iL,slice->pb,contains->C8,replace->MV
open PySem.Unicode renaming isSpace->lL
open PySem.Value renaming ref->cw,none->dD,type->gx,str->oO,int->qF,isStrOf->zk,isInt->LD
open PySem.W renaming listOf->ao,dictOf->fv,lookIn_dict->lg,callWith_of->lh,cellsFrom_some->lK,caught_NB->n7,tabObj->oN,findIn->pP,instObj->q6,codeIn->tf,findObj_own->zA,nsIn->Bh,takerIn->Bo,kp_binds->C5,keepIn->C6,putL->Fy,get_value->FY,kat_cons->JE,handedIn->JF,Looks->JG,isInt_self->Lc,codeRec_of->Ld,kat_yes->LC,method_fn->Ms,typeIn->Om,CodeHd->Oo,putName_dict->Pm,isStrOf_self->Pn,plainGet_of->PK
open PySem.W.KIN renaming call_text->On
open PySem.W.KatTups renaming cons->JH
open PySem.W.Looks renaming of_pure->iH,ld->C7
open PySem.pickOrder renaming go->qZ
open Std.Legacy.Range renaming forIn_eq_forIn_range'->Ki
open String.Pos.Raw renaming mk_le_mk->Lw
open PySem
section
open PySem.W PyProof.Rows
section
local macro_rules | `(tactic| o_head $x)=>`(tactic| skip)
set_option maxHeartbeats 8000000 in
theorem kF (f:False):PySem.Challenge.rw_if0046_01.row.Holds:=by
 k_head;exact f.elim
end
end
section
variable {P0 P1 P2 P3 P4 P5 P6:Prop} {G:Prop}
theorem e02 (h:P0/\P1) (k:P0->P1->G):G:=k (h.1) (h.2)
theorem e03 (h:P0/\P1/\P2) (k:P0->P1->P2->G):G:=k (h.1) (h.2.1) (h.2.2)
theorem i03 (h0:P0) (h1:P1) (h2:P2):P0/\P1/\P2:=⟨h0,h1,h2⟩
theorem e04 (h:P0/\P1/\P2/\P3) (k:P0->P1->P2->P3->G):G:=k (h.1) (h.2.1) (h.2.2.1) (h.2.2.2)
theorem i04 (h0:P0) (h1:P1) (h2:P2) (h3:P3):P0/\P1/\P2/\P3:=⟨h0,h1,h2,h3⟩
theorem e05 (h:P0/\P1/\P2/\P3/\P4) (k:P0->P1->P2->P3->P4->G):G:=k (h.1) (h.2.1) (h.2.2.1) (h.2.2.2.1) (h.2.2.2.2)
theorem i05 (h0:P0) (h1:P1) (h2:P2) (h3:P3) (h4:P4):P0/\P1/\P2/\P3/\P4:=⟨h0,h1,h2,h3,h4⟩
theorem e06 (h:P0/\P1/\P2/\P3/\P4/\P5) (k:P0->P1->P2->P3->P4->P5->G):G:=k (h.1) (h.2.1) (h.2.2.1) (h.2.2.2.1) (h.2.2.2.2.1) (h.2.2.2.2.2)
theorem i06 (h0:P0) (h1:P1) (h2:P2) (h3:P3) (h4:P4) (h5:P5):P0/\P1/\P2/\P3/\P4/\P5:=⟨h0,h1,h2,h3,h4,h5⟩
theorem e07 (h:P0/\P1/\P2/\P3/\P4/\P5/\P6) (k:P0->P1->P2->P3->P4->P5->P6->G):G:=k (h.1) (h.2.1) (h.2.2.1) (h.2.2.2.1) (h.2.2.2.2.1) (h.2.2.2.2.2.1) (h.2.2.2.2.2.2)
theorem i07 (h0:P0) (h1:P1) (h2:P2) (h3:P3) (h4:P4) (h5:P5) (h6:P6):P0/\P1/\P2/\P3/\P4/\P5/\P6:=⟨h0,h1,h2,h3,h4,h5,h6⟩
end
section
variable {T0:Sort _} {P0 P1 P2 P3 P4 P5 P6 P7:T0->Prop} {G:Prop}
theorem e11 (h:∃ a,P0 a) (k:∀ a,P0 a->G):G:=h.elim λa h0=>k a h0
theorem i11 (a:T0) (h0:P0 a):∃ a,P0 a:=⟨a,h0⟩
theorem e12 (h:∃ a,P0 a/\P1 a) (k:∀ a,P0 a->P1 a->G):G:=h.elim λa h0=>k a (h0.1) (h0.2)
theorem i12 (a:T0) (h0:P0 a) (h1:P1 a):∃ a,P0 a/\P1 a:=⟨a,h0,h1⟩
theorem e13 (h:∃ a,P0 a/\P1 a/\P2 a) (k:∀ a,P0 a->P1 a->P2 a->G):G:=h.elim λa h0=>k a (h0.1) (h0.2.1) (h0.2.2)
theorem i13 (a:T0) (h0:P0 a) (h1:P1 a) (h2:P2 a):∃ a,P0 a/\P1 a/\P2 a:=⟨a,h0,h1,h2⟩
theorem e14 (h:∃ a,P0 a/\P1 a/\P2 a/\P3 a) (k:∀ a,P0 a->P1 a->P2 a->P3 a->G):G:=h.elim λa h0=>k a (h0.1) (h0.2.1) (h0.2.2.1) (h0.2.2.2)
theorem i14 (a:T0) (h0:P0 a) (h1:P1 a) (h2:P2 a) (h3:P3 a):∃ a,P0 a/\P1 a/\P2 a/\P3 a:=⟨a,h0,h1,h2,h3⟩
theorem i15 (a:T0) (h0:P0 a) (h1:P1 a) (h2:P2 a) (h3:P3 a) (h4:P4 a):∃ a,P0 a/\P1 a/\P2 a/\P3 a/\P4 a:=⟨a,h0,h1,h2,h3,h4⟩
theorem e16 (h:∃ a,P0 a/\P1 a/\P2 a/\P3 a/\P4 a/\P5 a) (k:∀ a,P0 a->P1 a->P2 a->P3 a->P4 a->P5 a->G):G:=h.elim λa h0=>k a (h0.1) (h0.2.1) (h0.2.2.1) (h0.2.2.2.1) (h0.2.2.2.2.1) (h0.2.2.2.2.2)
theorem i16 (a:T0) (h0:P0 a) (h1:P1 a) (h2:P2 a) (h3:P3 a) (h4:P4 a) (h5:P5 a):∃ a,P0 a/\P1 a/\P2 a/\P3 a/\P4 a/\P5 a:=⟨a,h0,h1,h2,h3,h4,h5⟩
theorem e18 (h:∃ a,P0 a/\P1 a/\P2 a/\P3 a/\P4 a/\P5 a/\P6 a/\P7 a) (k:∀ a,P0 a->P1 a->P2 a->P3 a->P4 a->P5 a->P6 a->P7 a->G):G:=h.elim λa h0=>k a (h0.1) (h0.2.1) (h0.2.2.1) (h0.2.2.2.1) (h0.2.2.2.2.1) (h0.2.2.2.2.2.1) (h0.2.2.2.2.2.2.1) (h0.2.2.2.2.2.2.2)
end
section
variable {T0 T1:Sort _} {P0 P1 P2 P3 P4:T0->T1->Prop} {G:Prop}
theorem e21 (h:∃ a b,P0 a b) (k:∀ a b,P0 a b->G):G:=h.elim λa h0=>h0.elim λb h1=>k a b h1
theorem i21 (a:T0) (b:T1) (h0:P0 a b):∃ a b,P0 a b:=⟨a,b,h0⟩
theorem e22 (h:∃ a b,P0 a b/\P1 a b) (k:∀ a b,P0 a b->P1 a b->G):G:=h.elim λa h0=>h0.elim λb h1=>k a b (h1.1) (h1.2)
theorem i22 (a:T0) (b:T1) (h0:P0 a b) (h1:P1 a b):∃ a b,P0 a b/\P1 a b:=⟨a,b,h0,h1⟩
theorem e23 (h:∃ a b,P0 a b/\P1 a b/\P2 a b) (k:∀ a b,P0 a b->P1 a b->P2 a b->G):G:=h.elim λa h0=>h0.elim λb h1=>k a b (h1.1) (h1.2.1) (h1.2.2)
theorem i23 (a:T0) (b:T1) (h0:P0 a b) (h1:P1 a b) (h2:P2 a b):∃ a b,P0 a b/\P1 a b/\P2 a b:=⟨a,b,h0,h1,h2⟩
theorem e24 (h:∃ a b,P0 a b/\P1 a b/\P2 a b/\P3 a b) (k:∀ a b,P0 a b->P1 a b->P2 a b->P3 a b->G):G:=h.elim λa h0=>h0.elim λb h1=>k a b (h1.1) (h1.2.1) (h1.2.2.1) (h1.2.2.2)
theorem i24 (a:T0) (b:T1) (h0:P0 a b) (h1:P1 a b) (h2:P2 a b) (h3:P3 a b):∃ a b,P0 a b/\P1 a b/\P2 a b/\P3 a b:=⟨a,b,h0,h1,h2,h3⟩
theorem e25 (h:∃ a b,P0 a b/\P1 a b/\P2 a b/\P3 a b/\P4 a b) (k:∀ a b,P0 a b->P1 a b->P2 a b->P3 a b->P4 a b->G):G:=h.elim λa h0=>h0.elim λb h1=>k a b (h1.1) (h1.2.1) (h1.2.2.1) (h1.2.2.2.1) (h1.2.2.2.2)
theorem i25 (a:T0) (b:T1) (h0:P0 a b) (h1:P1 a b) (h2:P2 a b) (h3:P3 a b) (h4:P4 a b):∃ a b,P0 a b/\P1 a b/\P2 a b/\P3 a b/\P4 a b:=⟨a,b,h0,h1,h2,h3,h4⟩
end
section
variable {T0 T1 T2:Sort _} {P0 P1 P2 P3 P4 P5 P6:T0->T1->T2->Prop} {G:Prop}
theorem e31 (h:∃ a b c,P0 a b c) (k:∀ a b c,P0 a b c->G):G:=h.elim λa h0=>h0.elim λb h1=>h1.elim λc h2=>k a b c h2
theorem i31 (a:T0) (b:T1) (c:T2) (h0:P0 a b c):∃ a b c,P0 a b c:=⟨a,b,c,h0⟩
theorem e32 (h:∃ a b c,P0 a b c/\P1 a b c) (k:∀ a b c,P0 a b c->P1 a b c->G):G:=h.elim λa h0=>h0.elim λb h1=>h1.elim λc h2=>k a b c (h2.1) (h2.2)
theorem i32 (a:T0) (b:T1) (c:T2) (h0:P0 a b c) (h1:P1 a b c):∃ a b c,P0 a b c/\P1 a b c:=⟨a,b,c,h0,h1⟩
theorem e33 (h:∃ a b c,P0 a b c/\P1 a b c/\P2 a b c) (k:∀ a b c,P0 a b c->P1 a b c->P2 a b c->G):G:=h.elim λa h0=>h0.elim λb h1=>h1.elim λc h2=>k a b c (h2.1) (h2.2.1) (h2.2.2)
theorem i33 (a:T0) (b:T1) (c:T2) (h0:P0 a b c) (h1:P1 a b c) (h2:P2 a b c):∃ a b c,P0 a b c/\P1 a b c/\P2 a b c:=⟨a,b,c,h0,h1,h2⟩
theorem e34 (h:∃ a b c,P0 a b c/\P1 a b c/\P2 a b c/\P3 a b c) (k:∀ a b c,P0 a b c->P1 a b c->P2 a b c->P3 a b c->G):G:=h.elim λa h0=>h0.elim λb h1=>h1.elim λc h2=>k a b c (h2.1) (h2.2.1) (h2.2.2.1) (h2.2.2.2)
theorem i34 (a:T0) (b:T1) (c:T2) (h0:P0 a b c) (h1:P1 a b c) (h2:P2 a b c) (h3:P3 a b c):∃ a b c,P0 a b c/\P1 a b c/\P2 a b c/\P3 a b c:=⟨a,b,c,h0,h1,h2,h3⟩
theorem e35 (h:∃ a b c,P0 a b c/\P1 a b c/\P2 a b c/\P3 a b c/\P4 a b c) (k:∀ a b c,P0 a b c->P1 a b c->P2 a b c->P3 a b c->P4 a b c->G):G:=h.elim λa h0=>h0.elim λb h1=>h1.elim λc h2=>k a b c (h2.1) (h2.2.1) (h2.2.2.1) (h2.2.2.2.1) (h2.2.2.2.2)
theorem i35 (a:T0) (b:T1) (c:T2) (h0:P0 a b c) (h1:P1 a b c) (h2:P2 a b c) (h3:P3 a b c) (h4:P4 a b c):∃ a b c,P0 a b c/\P1 a b c/\P2 a b c/\P3 a b c/\P4 a b c:=⟨a,b,c,h0,h1,h2,h3,h4⟩
theorem e36 (h:∃ a b c,P0 a b c/\P1 a b c/\P2 a b c/\P3 a b c/\P4 a b c/\P5 a b c) (k:∀ a b c,P0 a b c->P1 a b c->P2 a b c->P3 a b c->P4 a b c->P5 a b c->G):G:=h.elim λa h0=>h0.elim λb h1=>h1.elim λc h2=>k a b c (h2.1) (h2.2.1) (h2.2.2.1) (h2.2.2.2.1) (h2.2.2.2.2.1) (h2.2.2.2.2.2)
theorem e37 (h:∃ a b c,P0 a b c/\P1 a b c/\P2 a b c/\P3 a b c/\P4 a b c/\P5 a b c/\P6 a b c) (k:∀ a b c,P0 a b c->P1 a b c->P2 a b c->P3 a b c->P4 a b c->P5 a b c->P6 a b c->G):G:=h.elim λa h0=>h0.elim λb h1=>h1.elim λc h2=>k a b c (h2.1) (h2.2.1) (h2.2.2.1) (h2.2.2.2.1) (h2.2.2.2.2.1) (h2.2.2.2.2.2.1) (h2.2.2.2.2.2.2)
end
section
variable {T0 T1 T2 T3:Sort _} {P0 P1 P2 P3 P4 P5:T0->T1->T2->T3->Prop} {G:Prop}
theorem e41 (h:∃ a b c d,P0 a b c d) (k:∀ a b c d,P0 a b c d->G):G:=h.elim λa h0=>h0.elim λb h1=>h1.elim λc h2=>h2.elim λd h3=>k a b c d h3
theorem i41 (a:T0) (b:T1) (c:T2) (d:T3) (h0:P0 a b c d):∃ a b c d,P0 a b c d:=⟨a,b,c,d,h0⟩
theorem e42 (h:∃ a b c d,P0 a b c d/\P1 a b c d) (k:∀ a b c d,P0 a b c d->P1 a b c d->G):G:=h.elim λa h0=>h0.elim λb h1=>h1.elim λc h2=>h2.elim λd h3=>k a b c d (h3.1) (h3.2)
theorem i42 (a:T0) (b:T1) (c:T2) (d:T3) (h0:P0 a b c d) (h1:P1 a b c d):∃ a b c d,P0 a b c d/\P1 a b c d:=⟨a,b,c,d,h0,h1⟩
theorem e43 (h:∃ a b c d,P0 a b c d/\P1 a b c d/\P2 a b c d) (k:∀ a b c d,P0 a b c d->P1 a b c d->P2 a b c d->G):G:=h.elim λa h0=>h0.elim λb h1=>h1.elim λc h2=>h2.elim λd h3=>k a b c d (h3.1) (h3.2.1) (h3.2.2)
theorem i43 (a:T0) (b:T1) (c:T2) (d:T3) (h0:P0 a b c d) (h1:P1 a b c d) (h2:P2 a b c d):∃ a b c d,P0 a b c d/\P1 a b c d/\P2 a b c d:=⟨a,b,c,d,h0,h1,h2⟩
theorem e44 (h:∃ a b c d,P0 a b c d/\P1 a b c d/\P2 a b c d/\P3 a b c d) (k:∀ a b c d,P0 a b c d->P1 a b c d->P2 a b c d->P3 a b c d->G):G:=h.elim λa h0=>h0.elim λb h1=>h1.elim λc h2=>h2.elim λd h3=>k a b c d (h3.1) (h3.2.1) (h3.2.2.1) (h3.2.2.2)
theorem i44 (a:T0) (b:T1) (c:T2) (d:T3) (h0:P0 a b c d) (h1:P1 a b c d) (h2:P2 a b c d) (h3:P3 a b c d):∃ a b c d,P0 a b c d/\P1 a b c d/\P2 a b c d/\P3 a b c d:=⟨a,b,c,d,h0,h1,h2,h3⟩
theorem e46 (h:∃ a b c d,P0 a b c d/\P1 a b c d/\P2 a b c d/\P3 a b c d/\P4 a b c d/\P5 a b c d) (k:∀ a b c d,P0 a b c d->P1 a b c d->P2 a b c d->P3 a b c d->P4 a b c d->P5 a b c d->G):G:=h.elim λa h0=>h0.elim λb h1=>h1.elim λc h2=>h2.elim λd h3=>k a b c d (h3.1) (h3.2.1) (h3.2.2.1) (h3.2.2.2.1) (h3.2.2.2.2.1) (h3.2.2.2.2.2)
end
section
variable {T0 T1 T2 T3 T4:Sort _} {P0 P1 P2 P3 P4 P5 P6:T0->T1->T2->T3->T4->Prop} {G:Prop}
theorem e53 (h:∃ a b c d e,P0 a b c d e/\P1 a b c d e/\P2 a b c d e) (k:∀ a b c d e,P0 a b c d e->P1 a b c d e->P2 a b c d e->G):G:=h.elim λa h0=>h0.elim λb h1=>h1.elim λc h2=>h2.elim λd h3=>h3.elim λe h4=>k a b c d e (h4.1) (h4.2.1) (h4.2.2)
theorem i53 (a:T0) (b:T1) (c:T2) (d:T3) (e:T4) (h0:P0 a b c d e) (h1:P1 a b c d e) (h2:P2 a b c d e):∃ a b c d e,P0 a b c d e/\P1 a b c d e/\P2 a b c d e:=⟨a,b,c,d,e,h0,h1,h2⟩
theorem e54 (h:∃ a b c d e,P0 a b c d e/\P1 a b c d e/\P2 a b c d e/\P3 a b c d e) (k:∀ a b c d e,P0 a b c d e->P1 a b c d e->P2 a b c d e->P3 a b c d e->G):G:=h.elim λa h0=>h0.elim λb h1=>h1.elim λc h2=>h2.elim λd h3=>h3.elim λe h4=>k a b c d e (h4.1) (h4.2.1) (h4.2.2.1) (h4.2.2.2)
theorem i54 (a:T0) (b:T1) (c:T2) (d:T3) (e:T4) (h0:P0 a b c d e) (h1:P1 a b c d e) (h2:P2 a b c d e) (h3:P3 a b c d e):∃ a b c d e,P0 a b c d e/\P1 a b c d e/\P2 a b c d e/\P3 a b c d e:=⟨a,b,c,d,e,h0,h1,h2,h3⟩
theorem e57 (h:∃ a b c d e,P0 a b c d e/\P1 a b c d e/\P2 a b c d e/\P3 a b c d e/\P4 a b c d e/\P5 a b c d e/\P6 a b c d e) (k:∀ a b c d e,P0 a b c d e->P1 a b c d e->P2 a b c d e->P3 a b c d e->P4 a b c d e->P5 a b c d e->P6 a b c d e->G):G:=h.elim λa h0=>h0.elim λb h1=>h1.elim λc h2=>h2.elim λd h3=>h3.elim λe h4=>k a b c d e (h4.1) (h4.2.1) (h4.2.2.1) (h4.2.2.2.1) (h4.2.2.2.2.1) (h4.2.2.2.2.2.1) (h4.2.2.2.2.2.2)
end
section
variable {T0 T1 T2 T3 T4 T5:Sort _} {P0:T0->T1->T2->T3->T4->T5->Prop} {G:Prop}
theorem e61 (h:∃ a b c d e f,P0 a b c d e f) (k:∀ a b c d e f,P0 a b c d e f->G):G:=h.elim λa h0=>h0.elim λb h1=>h1.elim λc h2=>h2.elim λd h3=>h3.elim λe h4=>h4.elim λf h5=>k a b c d e f h5
theorem i61 (a:T0) (b:T1) (c:T2) (d:T3) (e:T4) (f:T5) (h0:P0 a b c d e f):∃ a b c d e f,P0 a b c d e f:=⟨a,b,c,d,e,f,h0⟩
end
@[elab_as_elim] theorem rwl {α:Sort u} {a b:α} {p:α->Prop} (e:a=b) (h:p b):p a:=e▸h
theorem L7 {G:Prop} (h:true=false):G:=nomatch h
theorem AH {G:Prop} (h:false=true):G:=nomatch h
theorem lE {α:Type u} {a:α} {G:Prop} (h:none=some a):G:=nomatch h
theorem NP {α:Type u} {a:α} {G:Prop} (h:some a=none):G:=nomatch h
theorem L8 {α:Type u} {a:α} {l:List α} {G:Prop} (h:a::l=[]):G:=nomatch h
theorem iM {α:Type u} {a b:α} {G:Prop} (h:some a=some b) (k:a=b->G):G:=k (gR h)
theorem bc {p:Prop} (h:¬p->False):p:=mZ h
theorem nm {α:Type u} {x:α} {P:Prop} (h:x∈([]:List α)):P:=nomatch h
@[elab_as_elim] theorem rwr {α:Sort u} {a b:α} {p:α->Prop} (e:b=a) (h:p b):p a:=e▸h
section
open Lean
def NJ (l:Ident) (t:Term):MacroM (TSyntax `tactic):=`(tactic|refine $l $t ?_)
def O2 (r:TSyntax `Lean.Parser.Tactic.rwRule) (k:TSyntax `tactic):MacroM (TSyntax `tactic):=do
 let h:=Syntax.node .none `Lean.Parser.Term.hole #[.atom .none "_"]
 let l:Ident:=mkIdent (if r.raw[0].getNumArgs==0 then `rwl else `rwr)
 let e:Term:=⟨r.raw[1]⟩
 let a <- NJ l e
 let b <- NJ l (Syntax.mkApp e #[⟨h⟩])
 let c <- NJ l (Syntax.mkApp e #[⟨h⟩,⟨h⟩])
 `(tactic|((first|(with_reducible_and_instances first|$a:tactic|$b:tactic|$c:tactic)|rewrite [$r]);$k))
def OL:List (TSyntax `Lean.Parser.Tactic.rwRule)->MacroM (TSyntax `tactic)
 | []=>`(tactic|try with_reducible rfl)
 | r::l=>do O2 r (<-OL l)
def iq (t:TSyntax `tactic) (c:Term) (x:Syntax):MacroM (TSyntax `tactic):=do
 let x:Ident:=if x.isIdent then ⟨x⟩ else mkIdent `oZ
 `(tactic| ($t:tactic;try generalize $c=$x))
def ig:List (TSyntax [`ident,`Lean.Parser.Term.hole])->Term->TSyntax `tactic->MacroM (TSyntax `tactic)
 | [],_,t=>pure t
 | [x],c,t=>iq t c x
 | x::xs,c,t=>do
 let f (n:Name):Term:=Syntax.mkApp (mkIdent n) #[c]
 ig xs (f `Prod.snd) (<- iq t (f `Prod.fst) x)
end
open Lean in
local macro_rules
| `(tactic| rw [$rs,*])=>OL rs.getElems.toList
open Lean in
local macro_rules | `(tactic| intros $ys*)=>do
 let n:=ys.size
 if n==0 then Macro.throwUnsupported
 let f (s:String):Ident:=mkIdent (.mkSimple (s++toString n))
 ig ys.toList (Syntax.mkApp (f "ap") (Array.replicate (n+1) ⟨Syntax.node .none `Lean.Parser.Term.hole #[.atom .none "_"]⟩)) (<- `(tactic|refine no_implicit_lambda% ($(f "al") (h:=?_))))
theorem rT:true=true:=rfl
theorem rF:false=false:=rfl
theorem rS {α:Type u} {a:α}:some a=some a:=rfl
theorem auT (h:True:=by exact rT):True:=h
theorem auF (h:True:=by exact rF):True:=h
theorem auS (h:True:=by exact rS):True:=h
theorem mS {α:Type u} {a b:α} (h:a∈[b]):a=b:=se.1 h
theorem L1 {α:Type u} {a b:α} (h:a=b):a∈[b]:=se.2 h
theorem mC {α:Type u} {a b:α} {l:List α} (h:a∈b::l):a=b\/a∈l:=zF.1 h
theorem mM {α:Type u} {c:Type v} {f:α->c} {b:c} {l:List α} (h:b∈l.map f):∃ a,a∈l/\f a=b:=LN.1 h
theorem J9 {α:Type u} {c:Type v} {f:α->c} {b:c} {l:List α} (h:∃ a,a∈l/\f a=b):b∈l.map f:=LN.2 h
theorem mA {α:Type u} {a:α} {l k:List α} (h:a∈l++k):a∈l\/a∈k:=iI.1 h
theorem gE {α:Type u} {l:List α} {i:Nat} {a:α} (h:l[i]?=some a):∃ h:i<l.length,l[i]=a:=List.getElem?_eq_some_iff.1 h
theorem gA {α:Type u} {l:Array α} {i:Nat} {a:α} (h:l[i]?=some a):∃ h:i<l.size,l[i]=a:=Array.getElem?_eq_some_iff.1 h
theorem bE {α:Type u} [BEq α] [LawfulBEq α] {a b:α} (h:(a==b)=true):a=b:=eq_of_beq h
theorem aT {α:Type u} {l:List α} {p:α->Bool} (h:l.all p=true):∀ x,x∈l->p x=true:=o7.1 h
theorem mR {i n:Nat} (h:i∈br n):i<n:=Kq.1 h
theorem KJ {i n:Nat} (h:i<n):i∈br n:=Kq.2 h
theorem nC {α:Type u} {a:α} {l:List α} (h:(a::l).Nodup):a∉l/\l.Nodup:=mq.1 h
theorem mG {α:Type u} {a:α} {l:List α} (h:a∈l):∃ i:Nat,l[i]?=some a:=List.mem_iff_getElem?.1 h
theorem B4 {α:Type _} {l:List α} {n:Nat} (h:l.length=n+1):∃ a r,l=a::r/\r.length=n:=by
 cases l with
 | nil=>cases h
 | cons a r=>exact i22 a r rfl (lU h)
theorem hY {α:Type _} {l:List α} (h:l.length=1):∃ a,l=[a]:=by
 refine e22 (B4 h) λa r b k=>?_;obtain rfl:=b;exact ⟨a,by rw [dr k]⟩
theorem jz {α:Type _} {l:List α} (h:l.length=2):∃ a b,l=[a,b]:=by
 refine e22 (B4 h) λa r d k=>?_;obtain rfl:=d;refine e11 (hY k) λb c=>?_;obtain rfl:=c;exact i21 a b rfl
theorem yM {α:Type _} {l:List α} (h:l.length=3):∃ a b c,l=[a,b,c]:=by
 refine e22 (B4 h) λa r e k=>?_;obtain rfl:=e;refine e21 (jz k) λb c d=>?_;obtain rfl:=d;exact i31 a b c rfl
theorem KL {α:Type _} {l:List α} (h:l.length=4):∃ a b c d,l=[a,b,c,d]:=by
 refine e22 (B4 h) λa r f k=>?_;obtain rfl:=f;refine e31 (yM k) λb c d e=>?_;obtain rfl:=e;exact i41 a b c d rfl
theorem zP (h:aA) (a:ay) (f:ff->ff):(h.update a f).objs.size=h.objs.size:=by
 exact Array.size_modify
theorem xo {M:lM} {a:Ctx} {p:cU} {t:il Fin} {fs:List uM} {s s':af} {e:Lf} (h:Runs M a p t fs s e s'):s.heap.objs.size<=s'.heap.objs.size:=by
 induction h with
 | done | raise | yield=>exact aq _
 | call _ _ k l | resumeFresh _ _ _ _ k l | resumeSuspended _ _ _ _ k l | segRet _ _ k l | segGen _ _ k l | segSuspGen _ _ _ _ k l=>exact ab k l
 | update _ _ k=>exact (zP _ _ _).symm▸k
 | alloc _ k=>exact ab (ab (er _) (aj (cm _ _).symm)) k
 | _=>assumption
theorem wk {A:Prop} {B C:ae->Prop} {P:Prop} {r:zl} (a:A->P) (b:∀ v,B v->P) (c:∀ x,C x->P) (m:match r with | .send .none=>A | .send v=>B v | .throw x=>C x):P:=by
 cases r with
 | send v=>cases v <;>first | exact a m | exact b _ m
 | throw x=>exact c x m
theorem BA {M:lM} {i:Ctx} {p:cU} {g:Nat} {r:zl} {s s':af} {f:GenResult} (h:PJ M i p g r s f s'):s.heap.objs.size<=s'.heap.objs.size:=by
 have j:∀ {t:af},s'=t->t.heap.objs.size=s.heap.objs.size->s.heap.objs.size<=s'.heap.objs.size:=λe k=>e▸aj k.symm;have d:∀ {i:Ctx} {p:cU} {t:il bO} {l:List uM},(∃ a b,Runs M i p t l (s.setGen g .running) a b/\a.quiet=true/\f=a.result/\s'=b.setGen g a.genState)->s.heap.objs.size<=s'.heap.objs.size:=λh=>h.elim λa h=>h.elim λb h=>h.2.2.2▸(xo h.1:(s.setGen g .running).heap.objs.size<=b.heap.objs.size);delta PJ at h;generalize s.gens[g]?=o at h;cases o with
 | none=>exact h.elim
 | some x=>cases x with
  | fresh c=>exact wk d (λ_ h=>j h.2 rfl) (λ_ h=>j (t:=s.setGen g .finished) h.2 rfl) h
  | suspended=>exact d h
  | _=>exact j h.2 rfl
theorem Iv {α:Type} (M:lM) (u:Ctx) (n:Nat) (t:il α):∀ (Q:α->cU->af->Prop) (E:ae->cU->af->Prop) (p:cU) (s:af),n<=s.heap.objs.size->Sem.wp M u t Q E p s-> Sem.wp M u t (λa l i=>n<=i.heap.objs.size/\Q a l i) (λe l i=>n<=i.heap.objs.size/\E e l i) p s:=by
 induction t with
 | pure a=>intro Q E p s b h;exact ⟨b,h⟩
 | raise e=>intro Q E p s b h;exact ⟨b,h⟩
 | unsupported _=>intro Q E p s _ h;exact h
 | finish _=>intro Q E p s _ h;exact h
 | rule _ k d=>intro Q E p s b h;exact d () Q E p s b h
 | «at» l k d=>intro Q E p s b h;exact d () Q E l s b h
 | load a _ k d=>intro Q E p s b h;refine e12 h λo B h=>?_;exact i12 o B (d o Q E p s b h)
 | update a _ f k d=>intro Q E p s b h;exact ⟨h.1,d () Q E p _ (by rw [zP];exact b) h.2⟩
 | loadIfAlive a k d=>intro Q E p s b h;exact d _ Q E p s b h
 | point _ k d=>intro Q E p s b h;exact d () Q E p s b h
 | register _ _=>intro Q E p s _ h;exact h
 | alloc o k d=>intro Q E p s b h;exact d _ Q E p _ (by rw [cm];exact gC b) h
 | fresh k d=>intro Q E p s b h;exact d _ Q E p _ b h
 | ask k d=>intro Q E p s b h;exact d _ Q E p s b h
 | choose y m k d=>intro Q E p s b h;exact ⟨h.1,d _ Q E p _ b h.2⟩
 | os q _ k d=>intro Q E p s b h;exact d _ Q E p _ b h
 | call c C _ _ k d=>intro Q E p s b h;refine e22 h λr i w h=>?_;exact i22 r i w (d r Q E p i (ab b (xo w)) h)
 | handled z k d=>intro Q E p s b h;exact d _ Q E p s b h
 | genState g k d=>intro Q E p s b h;refine e12 h λx A h=>?_;exact i12 x A (d _ Q E p s b h)
 | newGen c k d=>intro Q E p s b h;exact d _ Q E p _ b h
 | resume g r _ k d=>intro Q E p s b h;refine e22 h λj i v h=>?_;exact i22 j i v (d j Q E p i (ab b (BA v)) h)
 | yield _ _ _ _=>intro Q E p s _ h;exact h
 | stack k d=>intro Q E p s b h;exact d _ Q E p s b h
 | fork _ _=>intro Q E p s _ h;exact h
 | thread k d=>intro Q E p s b h;exact d _ Q E p s b h
 | await _ _ _ _ _=>intro Q E p s _ h;exact h
theorem cC {α:Type} {M:lM} {A:bj} {s:af} {t:il α} {Q:α->af->Prop} {E:ae->af->Prop} (h:aV M A t (λa b=>s.heap.objs.size<=b.heap.objs.size->Q a b) E s):aV M A t Q E s:=
 have k:aV M A t (λa b=>s.heap.objs.size<=b.heap.objs.size/\(s.heap.objs.size<=b.heap.objs.size->Q a b)) (λe b=>s.heap.objs.size<=b.heap.objs.size/\E e b) s:=
  λd p c=>Iv M d s.heap.objs.size t _ _ p s (aq _) (h d p c)
 cr k (λ_ _ x=>x.2 x.1) (λ_ _ x=>x.2)
theorem lD {a b c z:Nat} (h:a<b) (k:c+b<=z):c+a<z:=aw (cy h c) k
theorem yL {a b c z:Nat} (h:a<b) (k:c+b<=z):c+a - 1<z:=aR (fU _ _) (lD h k)
theorem sE {a b c z:Nat} (h:a<=b) (k:c+b<=z):c+a<=z:=ab (aL h c) k
theorem lY {a b c:Nat} (h:b<=a) (k:a<b+c):a - b<c:=Nat.sub_lt_left_of_lt_add h k
theorem yN {a b c:Nat} (k:b+c<=a):c<=a - b:=El k
theorem pv {i j n:Nat} (h:i<j) (k:j<n+1):j - 1<n:=lY (aR (aM i) h) (by rw [fm];exact k)
theorem O6 {l r:Nat} (h:l<r):l<=(l+r) / 2/\(l+r) / 2<r:=⟨(Nat.le_div_iff_mul_le (by decide)).2 (by rw [FH];exact aL (aF h) l),(Nat.div_lt_iff_lt_mul (by decide)).2 (by rw [FH];exact Nat.add_lt_add_right h r)⟩
theorem NK {l r:Nat} (h:l<r):l<=l+(r - l) / 2/\l+(r - l) / 2<r:=⟨aI _ _,lr (Ko (gz h) (by decide))⟩
theorem sD {oc d:ae} {od c:Option ay} {fd fd':fR} {f b:Array (Option ae)} (h:some (⟨oc,od,.func fd,f⟩:ff)=some ⟨d,c,.func fd',b⟩):fd=fd':=by refine iM h λe=>?_;clear h;cases e;rfl
theorem p9 {a b:List cD} (h:Qf a=.stmts b):a=b:=by cases h;rfl
theorem iR {x:Int} {n:Nat} (h0:0<=x) (h:x<=n):x.natAbs<=n:=dM.1 (by rw [rd h0];exact h)
theorem yE {x:Int} {n:Nat} (h0:0<=x) (h:x<n):x.natAbs<n:=cY.1 (by rw [rd h0];exact h)
theorem Je {x:Int} {n:Nat} (h:x.natAbs<=n):-(n:Int)<=x/\x<=n:=by lia
theorem Dx {i j:Nat} (h:i<j):j - i=j - (i+1)+1:=by rw [Lh,kj (El h)]
@[elab_as_elim] theorem m1 {α:Type u} {x y:α} {P:α->Prop} (h:x∈[y]) (k:P y):P x:=(mS h).symm▸k
theorem su {L M R:Nat} (a:L<=M) (b:M<=R):R - L=(M - L)+(R - M):=by rw [fm];exact (Nat.sub_add_sub_cancel b a).symm
theorem I4 {d K:Nat} (h:d<=K*2):d - d / 2<=K:=by lia
theorem Kc {L R M K:Nat} (h:L<R) (f:¬ R=L+1) (a:R - L<=K*2) (e:M=(L+R) / 2):L<M/\M<R/\M - L<=K/\R - M<=K:=by
 refine e11 (Bu (aF h)) λd c=>?_;obtain rfl:=c;obtain b:1<d:=cG (Nat.lt_of_add_lt_add_left h) λz=>f (by rw [<- z]);rw [dI] at a;rw [(show M=L+d / 2 from by rw [e,<- dX,<- FH,fm,Nat.add_mul_div_right _ _ (by decide),fm]),dI,FM];exact i04 (ik (Nw b (by decide))) (cy (Ko (nl df b) (by decide)) L) (Nat.div_le_of_le_mul (by rw [kR];exact a)) (I4 a)
theorem L0 {i j k:Nat} (h:k<j):i<=i+j - 1 - k:=et (FK (cy h i))
theorem LZ {i j k:Nat} (h1:i<=k) (h2:k<j):i+j - 1 - k<j:=lY (FK (aw h2 (dC j i))) (aw (eK (aw (uj h2) (dC j i)) df) (dt h1 j))
theorem OI {lo i j:Nat} (a:lo<=i) (b:i<=j) (c:j<lo+1):i=j:=bB b (ab (cX c) a)
theorem OJ {j n:Nat} (h:j<n+1) (k:¬ j<n):j=n:=bB (cX h) (ba k)
theorem KQ {α:Type u} (n:Nonempty α) {P:α->Prop} (h:P (@j4 α n λa=>¬ P a)) (a:α):P a:=mZ λb=>(xc (p:=λa=>¬ P a) (i11 a b)) h
theorem Ge:Nonempty ar:=⟨⟨λ_ _=>0,{strHash:=λ_=>0,shareClass:=λ_=>0,mergeTok:=id,idOf:=λ_=>0,idOfShared:=λ_ _=>0,followText:=λ_=>false,idOfImm:=λ_=>0}⟩⟩
theorem fa0 {x y:Nat} (e:x<=y:=by simp+arith only):x<=y:=e
theorem fa1 {a1 b1 x y:Nat} (h1:a1<=b1) (e:x+b1<=y+a1:=by simp+arith only):x<=y:=eL (ab e (aL h1 y))
theorem fa2 {a1 b1 a2 b2 x y:Nat} (h1:a1<=b1) (h2:a2<=b2) (e:x+(b1+b2)<=y+(a1+a2):=by simp+arith only):x<=y:=eL (ab e (aL (bJ h1 h2) y))
theorem fa3 {a1 b1 a2 b2 a3 b3 x y:Nat} (h1:a1<=b1) (h2:a2<=b2) (h3:a3<=b3) (e:x+((b1+b2)+b3)<=y+((a1+a2)+a3):=by simp+arith only):x<=y:=eL (ab e (aL (bJ (bJ h1 h2) h3) y))
theorem fa4 {a1 b1 a2 b2 a3 b3 a4 b4 x y:Nat} (h1:a1<=b1) (h2:a2<=b2) (h3:a3<=b3) (h4:a4<=b4) (e:x+(((b1+b2)+b3)+b4)<=y+(((a1+a2)+a3)+a4):=by simp+arith only):x<=y:=eL (ab e (aL (bJ (bJ (bJ h1 h2) h3) h4) y))
theorem fa5 {a1 b1 a2 b2 a3 b3 a4 b4 a5 b5 x y:Nat} (h1:a1<=b1) (h2:a2<=b2) (h3:a3<=b3) (h4:a4<=b4) (h5:a5<=b5) (e:x+((((b1+b2)+b3)+b4)+b5)<=y+((((a1+a2)+a3)+a4)+a5):=by simp+arith only):x<=y:=eL (ab e (aL (bJ (bJ (bJ (bJ h1 h2) h3) h4) h5) y))
theorem fi0 {x y:Int} (e:x<=y:=by simp+arith only):x<=y:=e
theorem fi1 {a1 b1 x y:Int} (h1:a1<=b1) (e:x+b1<=y+a1:=by simp+arith only):x<=y:=ju (bv e (nc h1 y))
theorem fi2 {a1 b1 a2 b2 x y:Int} (h1:a1<=b1) (h2:a2<=b2) (e:x+(b1+b2)<=y+(a1+a2):=by simp+arith only):x<=y:=ju (bv e (nc (kX h1 h2) y))
theorem fi3 {a1 b1 a2 b2 a3 b3 x y:Int} (h1:a1<=b1) (h2:a2<=b2) (h3:a3<=b3) (e:x+((b1+b2)+b3)<=y+((a1+a2)+a3):=by simp+arith only):x<=y:=ju (bv e (nc (kX (kX h1 h2) h3) y))
theorem fi4 {a1 b1 a2 b2 a3 b3 a4 b4 x y:Int} (h1:a1<=b1) (h2:a2<=b2) (h3:a3<=b3) (h4:a4<=b4) (e:x+(((b1+b2)+b3)+b4)<=y+(((a1+a2)+a3)+a4):=by simp+arith only):x<=y:=ju (bv e (nc (kX (kX (kX h1 h2) h3) h4) y))
theorem GB {α:Type} {R:α->α->Prop} {l:List α} (h:l.length<2):l.Pairwise R:=by
 cases l with
 | nil=>exact .nil
 | cons a r=>cases r with
  | nil=>exact oY _ _
  | cons b r=>exact absurd h (bD (dC 2 r.length))
theorem Ky {α:Type} {l:List α} (h:2<=l.length):∃ a b r,l=a::b::r:=by
 cases l with
 | nil=>exact (Nat.not_succ_le_zero 1 h).elim
 | cons a r=>cases r with
  | nil=>exact (Nat.not_succ_le_self 1 h).elim
  | cons b r=>exact i31 a b r rfl
section
open PyProof.Rows
theorem aun (A:Type) (h:Nonempty A:=by first | exact instNonemptyOfInhabited | exact IX | exact GL | exact GN | exact GM | exact ⟨.ne⟩ | exact LW | exact GK | exact NG | exact ⟨{}⟩):True:=trivial
theorem NG:Nonempty (aE->ag):=⟨λ_=>.none⟩
theorem GL:Nonempty af:=⟨{}⟩
theorem GM:Nonempty ag:=⟨.none⟩
theorem GN:Nonempty bj:=⟨{}⟩
theorem IX:Nonempty ar:=⟨⟨λ_ _=>0,{strHash:=λ_=>0,shareClass:=λ_=>0,mergeTok:=id,idOf:=λ_=>0,idOfShared:=λ_ _=>0,followText:=λ_=>false,idOfImm:=λ_=>0}⟩⟩
theorem LW:Nonempty ji:=⟨.running⟩
noncomputable def ep1 {T0:Type} (i0:Nonempty T0) (P:T0->Prop):T0:=j4 P
theorem FQ {α:Type} (n:Nonempty α) {P:α->Prop} (h:P (ep1 n λa=>¬ P a)) (a:α):P a:=mZ λno=>(xc (p:=λa=>¬ P a) ⟨a,no⟩) h
theorem np {A B:Type} (a:Nonempty A) (b:Nonempty B):Nonempty (A × B):=@instNonemptyProd _ _ a b
section
variable {T0 T1 T2 T3 T4 T5 T6 T7 T8 T9 T10 T11:Type} (i0:autoParam (Nonempty T0) aun._auto_1) (i1:autoParam (Nonempty T1) aun._auto_1) (i2:autoParam (Nonempty T2) aun._auto_1) (i3:autoParam (Nonempty T3) aun._auto_1) (i4:autoParam (Nonempty T4) aun._auto_1) (i5:autoParam (Nonempty T5) aun._auto_1) (i6:autoParam (Nonempty T6) aun._auto_1) (i7:autoParam (Nonempty T7) aun._auto_1) (i8:autoParam (Nonempty T8) aun._auto_1) (i9:autoParam (Nonempty T9) aun._auto_1) (i10:autoParam (Nonempty T10) aun._auto_1) (i11:autoParam (Nonempty T11) aun._auto_1)
noncomputable def ap1 (P:T0->Prop):T0:=ep1 i0 λx=>¬ P x
theorem al1 {P:T0->Prop} (h:P (ap1 i0 P)) (x0):P x0:=FQ i0 h x0
noncomputable def ap2 (P:T0->T1->Prop):T0 × T1:=ep1 (np i0 i1) λx=>¬ P x.1 x.2
theorem al2 {P:T0->T1->Prop} (h:P (ap2 i0 i1 P).1 (ap2 i0 i1 P).2) (x0 x1):P x0 x1:=FQ (P:=λx=>P x.1 x.2) (np i0 i1) h (x0,x1)
noncomputable def ap3 (P:T0->T1->T2->Prop):T0 × T1 × T2:=ep1 (np i0 (np i1 i2)) λx=>¬ P x.1 x.2.1 x.2.2
theorem al3 {P:T0->T1->T2->Prop} (h:P (ap3 i0 i1 i2 P).1 (ap3 i0 i1 i2 P).2.1 (ap3 i0 i1 i2 P).2.2) (x0 x1 x2):P x0 x1 x2:=FQ (P:=λx=>P x.1 x.2.1 x.2.2) (np i0 (np i1 i2)) h (x0,x1,x2)
noncomputable def ap4 (P:T0->T1->T2->T3->Prop):T0 × T1 × T2 × T3:=ep1 (np i0 (np i1 (np i2 i3))) λx=>¬ P x.1 x.2.1 x.2.2.1 x.2.2.2
theorem al4 {P:T0->T1->T2->T3->Prop} (h:P (ap4 i0 i1 i2 i3 P).1 (ap4 i0 i1 i2 i3 P).2.1 (ap4 i0 i1 i2 i3 P).2.2.1 (ap4 i0 i1 i2 i3 P).2.2.2) (x0 x1 x2 x3):P x0 x1 x2 x3:=FQ (P:=λx=>P x.1 x.2.1 x.2.2.1 x.2.2.2) (np i0 (np i1 (np i2 i3))) h (x0,x1,x2,x3)
noncomputable def ap5 (P:T0->T1->T2->T3->T4->Prop):T0 × T1 × T2 × T3 × T4:=ep1 (np i0 (np i1 (np i2 (np i3 i4)))) λx=>¬ P x.1 x.2.1 x.2.2.1 x.2.2.2.1 x.2.2.2.2
theorem al5 {P:T0->T1->T2->T3->T4->Prop} (h:P (ap5 i0 i1 i2 i3 i4 P).1 (ap5 i0 i1 i2 i3 i4 P).2.1 (ap5 i0 i1 i2 i3 i4 P).2.2.1 (ap5 i0 i1 i2 i3 i4 P).2.2.2.1 (ap5 i0 i1 i2 i3 i4 P).2.2.2.2) (x0 x1 x2 x3 x4):P x0 x1 x2 x3 x4:=FQ (P:=λx=>P x.1 x.2.1 x.2.2.1 x.2.2.2.1 x.2.2.2.2) (np i0 (np i1 (np i2 (np i3 i4)))) h (x0,x1,x2,x3,x4)
noncomputable def ap6 (P:T0->T1->T2->T3->T4->T5->Prop):T0 × T1 × T2 × T3 × T4 × T5:=ep1 (np i0 (np i1 (np i2 (np i3 (np i4 i5))))) λx=>¬ P x.1 x.2.1 x.2.2.1 x.2.2.2.1 x.2.2.2.2.1 x.2.2.2.2.2
theorem al6 {P:T0->T1->T2->T3->T4->T5->Prop} (h:P (ap6 i0 i1 i2 i3 i4 i5 P).1 (ap6 i0 i1 i2 i3 i4 i5 P).2.1 (ap6 i0 i1 i2 i3 i4 i5 P).2.2.1 (ap6 i0 i1 i2 i3 i4 i5 P).2.2.2.1 (ap6 i0 i1 i2 i3 i4 i5 P).2.2.2.2.1 (ap6 i0 i1 i2 i3 i4 i5 P).2.2.2.2.2) (x0 x1 x2 x3 x4 x5):P x0 x1 x2 x3 x4 x5:=FQ (P:=λx=>P x.1 x.2.1 x.2.2.1 x.2.2.2.1 x.2.2.2.2.1 x.2.2.2.2.2) (np i0 (np i1 (np i2 (np i3 (np i4 i5))))) h (x0,x1,x2,x3,x4,x5)
noncomputable def ap7 (P:T0->T1->T2->T3->T4->T5->T6->Prop):T0 × T1 × T2 × T3 × T4 × T5 × T6:=ep1 (np i0 (np i1 (np i2 (np i3 (np i4 (np i5 i6)))))) λx=>¬ P x.1 x.2.1 x.2.2.1 x.2.2.2.1 x.2.2.2.2.1 x.2.2.2.2.2.1 x.2.2.2.2.2.2
theorem al7 {P:T0->T1->T2->T3->T4->T5->T6->Prop} (h:P (ap7 i0 i1 i2 i3 i4 i5 i6 P).1 (ap7 i0 i1 i2 i3 i4 i5 i6 P).2.1 (ap7 i0 i1 i2 i3 i4 i5 i6 P).2.2.1 (ap7 i0 i1 i2 i3 i4 i5 i6 P).2.2.2.1 (ap7 i0 i1 i2 i3 i4 i5 i6 P).2.2.2.2.1 (ap7 i0 i1 i2 i3 i4 i5 i6 P).2.2.2.2.2.1 (ap7 i0 i1 i2 i3 i4 i5 i6 P).2.2.2.2.2.2) (x0 x1 x2 x3 x4 x5 x6):P x0 x1 x2 x3 x4 x5 x6:=FQ (P:=λx=>P x.1 x.2.1 x.2.2.1 x.2.2.2.1 x.2.2.2.2.1 x.2.2.2.2.2.1 x.2.2.2.2.2.2) (np i0 (np i1 (np i2 (np i3 (np i4 (np i5 i6)))))) h (x0,x1,x2,x3,x4,x5,x6)
noncomputable def ap8 (P:T0->T1->T2->T3->T4->T5->T6->T7->Prop):T0 × T1 × T2 × T3 × T4 × T5 × T6 × T7:=ep1 (np i0 (np i1 (np i2 (np i3 (np i4 (np i5 (np i6 i7))))))) λx=>¬ P x.1 x.2.1 x.2.2.1 x.2.2.2.1 x.2.2.2.2.1 x.2.2.2.2.2.1 x.2.2.2.2.2.2.1 x.2.2.2.2.2.2.2
theorem al8 {P:T0->T1->T2->T3->T4->T5->T6->T7->Prop} (h:P (ap8 i0 i1 i2 i3 i4 i5 i6 i7 P).1 (ap8 i0 i1 i2 i3 i4 i5 i6 i7 P).2.1 (ap8 i0 i1 i2 i3 i4 i5 i6 i7 P).2.2.1 (ap8 i0 i1 i2 i3 i4 i5 i6 i7 P).2.2.2.1 (ap8 i0 i1 i2 i3 i4 i5 i6 i7 P).2.2.2.2.1 (ap8 i0 i1 i2 i3 i4 i5 i6 i7 P).2.2.2.2.2.1 (ap8 i0 i1 i2 i3 i4 i5 i6 i7 P).2.2.2.2.2.2.1 (ap8 i0 i1 i2 i3 i4 i5 i6 i7 P).2.2.2.2.2.2.2) (x0 x1 x2 x3 x4 x5 x6 x7):P x0 x1 x2 x3 x4 x5 x6 x7:=FQ (P:=λx=>P x.1 x.2.1 x.2.2.1 x.2.2.2.1 x.2.2.2.2.1 x.2.2.2.2.2.1 x.2.2.2.2.2.2.1 x.2.2.2.2.2.2.2) (np i0 (np i1 (np i2 (np i3 (np i4 (np i5 (np i6 i7))))))) h (x0,x1,x2,x3,x4,x5,x6,x7)
noncomputable def ap9 (P:T0->T1->T2->T3->T4->T5->T6->T7->T8->Prop):T0 × T1 × T2 × T3 × T4 × T5 × T6 × T7 × T8:=ep1 (np i0 (np i1 (np i2 (np i3 (np i4 (np i5 (np i6 (np i7 i8)))))))) λx=>¬ P x.1 x.2.1 x.2.2.1 x.2.2.2.1 x.2.2.2.2.1 x.2.2.2.2.2.1 x.2.2.2.2.2.2.1 x.2.2.2.2.2.2.2.1 x.2.2.2.2.2.2.2.2
theorem al9 {P:T0->T1->T2->T3->T4->T5->T6->T7->T8->Prop} (h:P (ap9 i0 i1 i2 i3 i4 i5 i6 i7 i8 P).1 (ap9 i0 i1 i2 i3 i4 i5 i6 i7 i8 P).2.1 (ap9 i0 i1 i2 i3 i4 i5 i6 i7 i8 P).2.2.1 (ap9 i0 i1 i2 i3 i4 i5 i6 i7 i8 P).2.2.2.1 (ap9 i0 i1 i2 i3 i4 i5 i6 i7 i8 P).2.2.2.2.1 (ap9 i0 i1 i2 i3 i4 i5 i6 i7 i8 P).2.2.2.2.2.1 (ap9 i0 i1 i2 i3 i4 i5 i6 i7 i8 P).2.2.2.2.2.2.1 (ap9 i0 i1 i2 i3 i4 i5 i6 i7 i8 P).2.2.2.2.2.2.2.1 (ap9 i0 i1 i2 i3 i4 i5 i6 i7 i8 P).2.2.2.2.2.2.2.2) (x0 x1 x2 x3 x4 x5 x6 x7 x8):P x0 x1 x2 x3 x4 x5 x6 x7 x8:=FQ (P:=λx=>P x.1 x.2.1 x.2.2.1 x.2.2.2.1 x.2.2.2.2.1 x.2.2.2.2.2.1 x.2.2.2.2.2.2.1 x.2.2.2.2.2.2.2.1 x.2.2.2.2.2.2.2.2) (np i0 (np i1 (np i2 (np i3 (np i4 (np i5 (np i6 (np i7 i8)))))))) h (x0,x1,x2,x3,x4,x5,x6,x7,x8)
noncomputable def ap10 (P:T0->T1->T2->T3->T4->T5->T6->T7->T8->T9->Prop):T0 × T1 × T2 × T3 × T4 × T5 × T6 × T7 × T8 × T9:=ep1 (np i0 (np i1 (np i2 (np i3 (np i4 (np i5 (np i6 (np i7 (np i8 i9))))))))) λx=>¬ P x.1 x.2.1 x.2.2.1 x.2.2.2.1 x.2.2.2.2.1 x.2.2.2.2.2.1 x.2.2.2.2.2.2.1 x.2.2.2.2.2.2.2.1 x.2.2.2.2.2.2.2.2.1 x.2.2.2.2.2.2.2.2.2
theorem al10 {P:T0->T1->T2->T3->T4->T5->T6->T7->T8->T9->Prop} (h:P (ap10 i0 i1 i2 i3 i4 i5 i6 i7 i8 i9 P).1 (ap10 i0 i1 i2 i3 i4 i5 i6 i7 i8 i9 P).2.1 (ap10 i0 i1 i2 i3 i4 i5 i6 i7 i8 i9 P).2.2.1 (ap10 i0 i1 i2 i3 i4 i5 i6 i7 i8 i9 P).2.2.2.1 (ap10 i0 i1 i2 i3 i4 i5 i6 i7 i8 i9 P).2.2.2.2.1 (ap10 i0 i1 i2 i3 i4 i5 i6 i7 i8 i9 P).2.2.2.2.2.1 (ap10 i0 i1 i2 i3 i4 i5 i6 i7 i8 i9 P).2.2.2.2.2.2.1 (ap10 i0 i1 i2 i3 i4 i5 i6 i7 i8 i9 P).2.2.2.2.2.2.2.1 (ap10 i0 i1 i2 i3 i4 i5 i6 i7 i8 i9 P).2.2.2.2.2.2.2.2.1 (ap10 i0 i1 i2 i3 i4 i5 i6 i7 i8 i9 P).2.2.2.2.2.2.2.2.2) (x0 x1 x2 x3 x4 x5 x6 x7 x8 x9):P x0 x1 x2 x3 x4 x5 x6 x7 x8 x9:=FQ (P:=λx=>P x.1 x.2.1 x.2.2.1 x.2.2.2.1 x.2.2.2.2.1 x.2.2.2.2.2.1 x.2.2.2.2.2.2.1 x.2.2.2.2.2.2.2.1 x.2.2.2.2.2.2.2.2.1 x.2.2.2.2.2.2.2.2.2) (np i0 (np i1 (np i2 (np i3 (np i4 (np i5 (np i6 (np i7 (np i8 i9))))))))) h (x0,x1,x2,x3,x4,x5,x6,x7,x8,x9)
noncomputable def ap11 (P:T0->T1->T2->T3->T4->T5->T6->T7->T8->T9->T10->Prop):T0 × T1 × T2 × T3 × T4 × T5 × T6 × T7 × T8 × T9 × T10:=ep1 (np i0 (np i1 (np i2 (np i3 (np i4 (np i5 (np i6 (np i7 (np i8 (np i9 i10)))))))))) λx=>¬ P x.1 x.2.1 x.2.2.1 x.2.2.2.1 x.2.2.2.2.1 x.2.2.2.2.2.1 x.2.2.2.2.2.2.1 x.2.2.2.2.2.2.2.1 x.2.2.2.2.2.2.2.2.1 x.2.2.2.2.2.2.2.2.2.1 x.2.2.2.2.2.2.2.2.2.2
theorem al11 {P:T0->T1->T2->T3->T4->T5->T6->T7->T8->T9->T10->Prop} (h:P (ap11 i0 i1 i2 i3 i4 i5 i6 i7 i8 i9 i10 P).1 (ap11 i0 i1 i2 i3 i4 i5 i6 i7 i8 i9 i10 P).2.1 (ap11 i0 i1 i2 i3 i4 i5 i6 i7 i8 i9 i10 P).2.2.1 (ap11 i0 i1 i2 i3 i4 i5 i6 i7 i8 i9 i10 P).2.2.2.1 (ap11 i0 i1 i2 i3 i4 i5 i6 i7 i8 i9 i10 P).2.2.2.2.1 (ap11 i0 i1 i2 i3 i4 i5 i6 i7 i8 i9 i10 P).2.2.2.2.2.1 (ap11 i0 i1 i2 i3 i4 i5 i6 i7 i8 i9 i10 P).2.2.2.2.2.2.1 (ap11 i0 i1 i2 i3 i4 i5 i6 i7 i8 i9 i10 P).2.2.2.2.2.2.2.1 (ap11 i0 i1 i2 i3 i4 i5 i6 i7 i8 i9 i10 P).2.2.2.2.2.2.2.2.1 (ap11 i0 i1 i2 i3 i4 i5 i6 i7 i8 i9 i10 P).2.2.2.2.2.2.2.2.2.1 (ap11 i0 i1 i2 i3 i4 i5 i6 i7 i8 i9 i10 P).2.2.2.2.2.2.2.2.2.2) (x0 x1 x2 x3 x4 x5 x6 x7 x8 x9 x10):P x0 x1 x2 x3 x4 x5 x6 x7 x8 x9 x10:=FQ (P:=λx=>P x.1 x.2.1 x.2.2.1 x.2.2.2.1 x.2.2.2.2.1 x.2.2.2.2.2.1 x.2.2.2.2.2.2.1 x.2.2.2.2.2.2.2.1 x.2.2.2.2.2.2.2.2.1 x.2.2.2.2.2.2.2.2.2.1 x.2.2.2.2.2.2.2.2.2.2) (np i0 (np i1 (np i2 (np i3 (np i4 (np i5 (np i6 (np i7 (np i8 (np i9 i10)))))))))) h (x0,x1,x2,x3,x4,x5,x6,x7,x8,x9,x10)
noncomputable def ap12 (P:T0->T1->T2->T3->T4->T5->T6->T7->T8->T9->T10->T11->Prop):T0 × T1 × T2 × T3 × T4 × T5 × T6 × T7 × T8 × T9 × T10 × T11:=ep1 (np i0 (np i1 (np i2 (np i3 (np i4 (np i5 (np i6 (np i7 (np i8 (np i9 (np i10 i11))))))))))) λx=>¬ P x.1 x.2.1 x.2.2.1 x.2.2.2.1 x.2.2.2.2.1 x.2.2.2.2.2.1 x.2.2.2.2.2.2.1 x.2.2.2.2.2.2.2.1 x.2.2.2.2.2.2.2.2.1 x.2.2.2.2.2.2.2.2.2.1 x.2.2.2.2.2.2.2.2.2.2.1 x.2.2.2.2.2.2.2.2.2.2.2
theorem al12 {P:T0->T1->T2->T3->T4->T5->T6->T7->T8->T9->T10->T11->Prop} (h:P (ap12 i0 i1 i2 i3 i4 i5 i6 i7 i8 i9 i10 i11 P).1 (ap12 i0 i1 i2 i3 i4 i5 i6 i7 i8 i9 i10 i11 P).2.1 (ap12 i0 i1 i2 i3 i4 i5 i6 i7 i8 i9 i10 i11 P).2.2.1 (ap12 i0 i1 i2 i3 i4 i5 i6 i7 i8 i9 i10 i11 P).2.2.2.1 (ap12 i0 i1 i2 i3 i4 i5 i6 i7 i8 i9 i10 i11 P).2.2.2.2.1 (ap12 i0 i1 i2 i3 i4 i5 i6 i7 i8 i9 i10 i11 P).2.2.2.2.2.1 (ap12 i0 i1 i2 i3 i4 i5 i6 i7 i8 i9 i10 i11 P).2.2.2.2.2.2.1 (ap12 i0 i1 i2 i3 i4 i5 i6 i7 i8 i9 i10 i11 P).2.2.2.2.2.2.2.1 (ap12 i0 i1 i2 i3 i4 i5 i6 i7 i8 i9 i10 i11 P).2.2.2.2.2.2.2.2.1 (ap12 i0 i1 i2 i3 i4 i5 i6 i7 i8 i9 i10 i11 P).2.2.2.2.2.2.2.2.2.1 (ap12 i0 i1 i2 i3 i4 i5 i6 i7 i8 i9 i10 i11 P).2.2.2.2.2.2.2.2.2.2.1 (ap12 i0 i1 i2 i3 i4 i5 i6 i7 i8 i9 i10 i11 P).2.2.2.2.2.2.2.2.2.2.2) (x0 x1 x2 x3 x4 x5 x6 x7 x8 x9 x10 x11):P x0 x1 x2 x3 x4 x5 x6 x7 x8 x9 x10 x11:=FQ (P:=λx=>P x.1 x.2.1 x.2.2.1 x.2.2.2.1 x.2.2.2.2.1 x.2.2.2.2.2.1 x.2.2.2.2.2.2.1 x.2.2.2.2.2.2.2.1 x.2.2.2.2.2.2.2.2.1 x.2.2.2.2.2.2.2.2.2.1 x.2.2.2.2.2.2.2.2.2.2.1 x.2.2.2.2.2.2.2.2.2.2.2) (np i0 (np i1 (np i2 (np i3 (np i4 (np i5 (np i6 (np i7 (np i8 (np i9 (np i10 i11))))))))))) h (x0,x1,x2,x3,x4,x5,x6,x7,x8,x9,x10,x11)
end
end
section
open PySem.Spec PySem.Calls PySem.W PyProof.Rows
theorem uU {e:be} (h:∀ env,bW [e] env=(false,eW e env)::bW [] env) (pos:cU) (env:fg):(lJ pos (bW [e] env)).any (·.1)=false:=by rw [h env];rfl
noncomputable def pt (sc:bf) (st:Bool) (x:aE):Bool:=match sc.names.lookup x with | some .local=>true | some .cell=>st | _=>false
theorem pt.out {sc:bf} {st:Bool} {x:aE} (h:pt sc st x=true):sc.names.lookup x=some .local\/(sc.names.lookup x=some .cell/\st=true):=by
 unfold pt at h;cases q:sc.names.lookup x with
 | none=>replace h:=q▸h;exact AH h
 | some k=>replace h:=q▸h;cases k <;>first | exact .inl rfl | exact .inr ⟨rfl,h⟩ | exact AH h
noncomputable def cg (b:ay):Bool:=b==62 || b==90 || b==97 || b==201
noncomputable abbrev PR:Po:=PySem.Challenge.rw_if0046_01.row.prog
noncomputable abbrev MM (w:ar):lM:=rg PR w
structure KW (mg mb:aE->Option ae) (h:aA):Prop where
 g:h.Ns bA mg
 b:h.Ns dA mb
 nolimit:h.NoLimit
 builtins:∀ x:aE,x≠"__name__"->mb x=q5 x
theorem KW.keeps {mg mb:aE->Option ae} {h h':aA} (T:KW mg mb h) (k:∀ b o,h.get? b=some o->h'.get? b=some o):KW mg mb h':=⟨T.g.keeps k,T.b.keeps k,T.nolimit.keeps k,T.builtins⟩
structure wP (w:ar) (g:aA):Prop where
 K:(kF.heap_1 w.params).In g
 top:∃ mg mb,KW mg mb g
 bmain:∃ mg,g.Ns bA mg/\∃ bm ob,mg "__builtins__"=some (.ref bm)/\bm≠dA/\g.get? bm=some ob/\ob.cls=.type "module"/\ob.dict=some dA/\ob.data=.plain
 dig:∃ mc,g.Ns cStatics mc/\mc (ac "sys.int_max_str_digits")=none
noncomputable def eN (g h:aA):Prop:=∀ b o,g.get? b=some o->h.get? b=some o
theorem eN.refl (g:aA):eN g g:=λ_ _ e=>e
theorem eN.trans {a b c:aA} (x:eN a b) (y:eN b c):eN a c:=λp o e=>y p o (x p o e)
theorem eN.push (h:aA) (o:ff):eN h (h.push o):=λ_ _ e=>au _ e
theorem wP.keeps {w:ar} {g h:aA} (B:wP w g) (k:eN g h):wP w h:=
 ⟨B.K.keeps k,(by obtain ⟨c,f,T⟩:=B.top;exact i21 c f (T.keeps k)),(by obtain ⟨c,G,i,d,m,l,j,r⟩:=B.bmain;exact ⟨c,G.keeps k,i,d,m,l,k _ _ j,r⟩),by obtain ⟨e,a,b⟩:=B.dig;exact i12 e (a.keeps k) b⟩
noncomputable def mz (h:aA) (p:ay->Bool):aA:=⟨h.objs.mapIdx λi o=>if p i then o else {o with data:=.freed},h.life⟩
theorem fo (h:aA) (p:ay->Bool) (b:ay):(mz h p).get? b=if p b then h.get? b else none:=by
 delta mz Heap.get?;rw [show (h.objs.mapIdx λi o=>if p i then o else {o with data:=.freed})[b]?=h.objs[b]?.map (λo=>if p b then o else {o with data:=.freed}) from Array.getElem?_mapIdx];cases a:h.objs[b]? with
 | none=>cases p b <;>rfl
 | some o=>cases q:p b <;>rfl
theorem qQ {h:aA} {p:ay->Bool} {b:ay} {o:ff} (e:(mz h p).get? b=some o):p b=true/\h.get? b=some o:=by
 rw [fo] at e;cases q:p b with
 | true=>replace e:=q▸e;exact ⟨rfl,e⟩
 | false=>replace e:=q▸e;cases e
noncomputable def Gl:ag->aE
 | .str y=>y
 | _=>ac ""
noncomputable def I2:ag->Int
 | .int i=>i
 | _=>0
noncomputable def IA:ag->List ag
 | .tuple l=>l
 | _=>[]
noncomputable def Cv (g:aA) (as:List ay):Prop:=∀ a∈as,∃ o,g.get? a=some o/\o.dict=none
theorem Cv.mono {g h:aA} {as:List ay} (x:Cv g as) (k:eN g h):Cv h as:=λa b=>by refine e12 (x a b) λo e d=>?_;exact i12 o (k a o e) d
theorem Cv.append {g:aA} {as bs:List ay} (x:Cv g as) (y:Cv g bs):Cv g (as++bs):=λa b=>(mA b).elim (x a) (y a)
theorem Cv.left {g:aA} {as bs:List ay} (x:Cv g (as++bs)):Cv g as:=λa b=>x a (bG _ b)
theorem Cv.right {g:aA} {as bs:List ay} (x:Cv g (as++bs)):Cv g bs:=λa b=>x a (aW _ b)
theorem Cv.nil {g:aA}:Cv g []:=λ_ h=>nm h
noncomputable def V (g:aA) (v:ae) (d:ag):Prop:=∃ as,Reads g v d as/\Cv g as
theorem V.mono {g h:aA} {v:ae} {d:ag} (x:V g v d) (k:eN g h):V h v d:=by refine e12 x λa r n=>?_;clear x;exact i12 a (Reads.keeps k r) (n.mono k)
noncomputable def VA (g:aA):List ae->List ag->Prop
 | [],[]=>True
 | v::vs,d::ds=>V g v d/\VA g vs ds
 | _,_=>False
theorem VA.ind {g:aA} {P:List ae->List ag->Prop} (n:P [] []) (c:∀ {v d b ds},V g v d->VA g b ds->P b ds->P (v::b) (d::ds)):∀ {b ds},VA g b ds->P b ds:=λ{b}=>by
 induction b with
 | nil=>exact λ{ds}=>ds.rec (λ_=>n) λ_ _ _ h=>h.elim
 | cons v b e=>exact λ{ds}=>ds.rec (λh=>h.elim) λ_ _ _ h=>c h.1 h.2 (e h.2)
theorem VA.out {g:aA} {vs:List ae} {ds:List ag} (h:VA g vs ds):∃ as,Da g vs ds as/\Cv g as:=
 VA.ind (P:=λvs ds=>∃ as,Da g vs ds as/\Cv g as) ⟨_,.nil,.nil⟩ (λv _ k=>v.elim λ_ r=>k.elim λ_ q=>⟨_,.cons r.1 q.1,r.2.append q.2⟩) h
theorem Hr {g:aA} {vs:List ae} {ds:List ag} {as:List ay} (r:Da g vs ds as):Cv g as->VA g vs ds:=
 @Qa g (λ_ _ _ _=>True) (λvs ds as _=>Cv g as->VA g vs ds) trivial (λ_=>trivial) (λ_ _=>trivial) (λ_ _=>trivial) (λ_ _ _ _ _=>trivial) (λ_ _ _ _ _=>trivial) (λ_ _ _ _ _ _ _=>trivial) (λ_=>trivial) (λr q _ k m=>⟨⟨_,r,m.left⟩,k m.right⟩) vs ds as r
theorem VA.nil (g:aA):VA g [] []:=trivial
theorem VA.cons {g:aA} {v:ae} {d:ag} {vs:List ae} {ds:List ag} (x:V g v d) (y:VA g vs ds):VA g (v::vs) (d::ds):=⟨x,y⟩
theorem VA.uncons {g:aA} {v:ae} {d:ag} {vs:List ae} {ds:List ag} (x:VA g (v::vs) (d::ds)):V g v d/\VA g vs ds:=x
theorem VA.mono {g h:aA} {v:List ae} {d:List ag} (x:VA g v d) (k:eN g h):VA h v d:=VA.ind (P:=VA h) trivial (λx _ y=>⟨x.mono k,y⟩) x
theorem VA.length {g:aA} {vs:List ae} {ds:List ag} (h:VA g vs ds):vs.length=ds.length:=h.ind (P:=λvs ds=>vs.length=ds.length) rfl λ_ _ e=>congrArg uk e
theorem VA.indM {g:aA} {α:Type} {f:α->ag} {P:List ae->List α->Prop} (n:P [] []) (c:∀ v a d as,V g v (f a)->VA g d (as.map f)->P d as->P (v::d) (a::as)):∀ {d as},VA g d (as.map f)->P d as:=λ{d}=>by
 induction d with
 | nil=>exact λ{as}=>as.rec (λ_=>n) λ_ _ _ h=>h.elim
 | cons v d e=>exact λ{as}=>as.rec (λh=>h.elim) λ_ _ _ h=>c _ _ _ _ h.1 h.2 (e h.2)
theorem VA.append {g:aA} {vs:List ae} {ds:List ag} {ws:List ae} {es:List ag} (h:VA g vs ds) (y:VA g ws es):VA g (vs++ws) (ds++es):=h.ind (P:=λvs ds=>VA g (vs++ws) (ds++es)) y λv _ e=>⟨v,e⟩
theorem VA.get {g:aA} {vs:List ae} {ds:List ag} (i:Nat) {d:ag} (h:VA g vs ds):ds[i]?=some d->∃ v,vs[i]?=some v/\V g v d:=
 h.ind (P:=λvs ds=>∀ i,ds[i]?=some d->∃ v,vs[i]?=some v/\V g v d) (λ_ e=>(Option.some_ne_none _ e.symm).elim) (λv _ k i=>i.rec (λe=>⟨_,rfl,gR e▸v⟩) λi _=>k i) i
theorem VA.take {g:aA} {vs:List ae} {ds:List ag} (n:Nat) (h:VA g vs ds):VA g (vs.take n) (ds.take n):=h.ind (P:=λvs ds=>∀ n,VA g (vs.take n) (ds.take n)) (λn=>n.rec trivial λ_ _=>trivial) (λv _ k n=>n.rec trivial λn _=>⟨v,k n⟩) n
theorem VA.drop {g:aA} {vs:List ae} {ds:List ag} (n:Nat) (h:VA g vs ds):VA g (vs.drop n) (ds.drop n):=h.ind (P:=λvs ds=>∀ n,VA g (vs.drop n) (ds.drop n)) (λn=>n.rec trivial λ_ _=>trivial) (λv h k n=>n.rec ⟨v,h⟩ λn _=>k n) n
theorem VA.reverse {g:aA} {vs:List ae} {ds:List ag} (h:VA g vs ds):VA g vs.reverse ds.reverse:=h.ind (P:=λvs ds=>VA g vs.reverse ds.reverse) trivial λv _ k=>by rw [iY,iY];exact k.append ⟨v,trivial⟩
theorem V.none {g:aA}:V g .none .none:=(i12 _ .none .nil)
theorem V.bool {g:aA} (b:Bool):V g (.bool b) (.bool b):=(i12 _ (.bool b) .nil)
theorem V.int {g:aA} (i:Int) (t:C9):V g (.int i t) (.int i):=(i12 _ (.int i t) .nil)
theorem V.str {g:aA} (x:aE) (t:C9):V g (.str x t) (.str x):=(i12 _ (.str x t) .nil)
theorem V.list {g:aA} {a:ay} {o:ff} {n:Nat} {vs:List ae} {ds:List ag} (ho:g.get? a=some o) (f:o.cls=.type "list") (e:o.data=.seq vs.toArray n) (d:o.dict=dO) (x:VA g vs ds):V g (.ref a) (.list ds):=by
 obtain ⟨h,r,m⟩:=x.out;exact i12 _ (.list ho f e (by trivial)) (λb c=>by
  rcases mC c with rfl | c;·exact i12 o ho d
  ·exact m b c)
theorem jA {g:aA} {a:ay} {n:Nat} {vs:List ae} {ds:List ag} (ho:g.get? a=some (ao vs.toArray n)) (x:VA g vs ds):V g (.ref a) (.list ds):=V.list ho rfl rfl rfl x
theorem V.tuple {g:aA} {a:ay} {vs:List ae} {ds:List ag} (h:g.IsTuple a vs.toArray) (x:VA g vs ds):V g (.ref a) (.tuple ds):=by
 obtain ⟨o,b,d,n,c⟩:=h;obtain ⟨e,r,m⟩:=x.out;exact i12 _ (.tuple b d c (by trivial)) m
noncomputable def L3 (g:aA) (v:ae) (as:List ay):ag->Prop
 | .none=>v=.none
 | .bool b=>v=.bool b
 | .int i=>∃ t,v=.int i t
 | .str x=>∃ t,v=.str x t
 | .list ds=>∃ a vs bs,v=.ref a/\as=a::bs/\g.IsList a vs.toArray/\Da g vs ds bs
 | .tuple ds=>∃ a vs,v=.ref a/\g.IsTuple a vs.toArray/\Da g vs ds as
 | _=>True
theorem invV {g:aA} {v:ae} {d:ag} {as:List ay} (r:Reads g v d as):L3 g v as d:=
 @Reads.casesOn g (λv d as _=>L3 g v as d) v d as r rfl (λ_=>rfl) (λ_ t=>⟨t,rfl⟩) (λ_ t=>⟨t,rfl⟩) (λe c b a=>i34 _ _ _ rfl rfl ⟨_,e,c,_,b⟩ a) (λe c b a=>i23 _ _ rfl ⟨_,e,c,_,b⟩ a) (λ_ _ _ _ _=>trivial)
theorem V.none_inv {g:aA} {v:ae} (x:V g v .none):v=.none:=x.elim λ_ r=>(invV r.1:)
theorem V.bool_inv {g:aA} {v:ae} {b:Bool} (x:V g v (.bool b)):v=.bool b:=x.elim λ_ r=>(invV r.1:)
theorem V.int_inv {g:aA} {v:ae} {i:Int} (x:V g v (.int i)):∃ t,v=.int i t:=x.elim λ_ r=>(invV r.1:)
theorem V.str_inv {g:aA} {v:ae} {i:aE} (x:V g v (.str i)):∃ t,v=.str i t:=x.elim λ_ r=>(invV r.1:)
theorem V.list_inv {g:aA} {v:ae} {ds:List ag} (x:V g v (.list ds)):∃ a c,v=.ref a/\g.IsList a c.toArray/\VA g c ds/\∃ o,g.get? a=some o/\o.dict=dO:=by
 refine e12 x λi r m=>?_;clear x;refine e34 (invV r:) λa c f e z h k=>?_;replace m:=z▸m;exact i24 a c e h (Hr k λb d=>m b (.tail _ d)) (m _ (.head _))
theorem V.tuple_inv {g:aA} {v:ae} {ds:List ag} (x:V g v (.tuple ds)):∃ a b,v=.ref a/\g.IsTuple a b.toArray/\VA g b ds:=by
 refine e12 x λc r m=>?_;clear x;refine e23 (invV r:) λa b e h k=>?_;exact i23 a b e h (Hr k m)
noncomputable def lS (h:aA) (P:ay):Prop:=∃ ps:Array ae,h.get? P=some (oN ps)
structure rR (h:aA):Prop where
 t1:lS h 62
 t2:lS h 90
 t3:lS h 97
 t4:lS h 201
theorem At {b:Nat} (h:cg b=true):b<331:=by
 delta cg at h;simp only [iK,beq_iff_eq] at h;rcases h with ((h | h) | h) | h <;>(subst h;decide)
theorem eD {b:Nat} (h:331<=b):cg b=false:=by
 cases q:cg b with
 | false=>rfl
 | true=>exact absurd (At q) (bD h)
noncomputable def iG (P:ay):aE:=if P==62 then ac "_str_to_int_inner.<locals>.inner" else if P==90 then ac "_int2digits.<locals>.inner" else if P==97 then ac "_digits2int.<locals>.inner" else ac "C14NWriterTarget._start.<locals>.<lambda>"
noncomputable def mU (g h:aA):Prop:=∀ P,cg P=true->∃ ps:Array ae,h.get? P=some (oN ps)/\TriplesOk ps.toList/\∀ pos cv,nZ pos ps.toList=some cv->∃ c,cv=.ref c/\g.CodeRec (.ref c) (iG P)
theorem CodeRec.up {g g':aA} {v:ae} {x:aE} (c:g.CodeRec v x) (k:eN g g'):g'.CodeRec v x:=by refine e43 c λa o b t e d r=>?_;clear c;exact i43 a o b t e (k _ _ d) r
theorem mU.mono {g g' h:aA} (c:mU g h) (k:eN g g'):mU g' h:=λP f=>by refine e13 (c P f) λd n m l=>?_;exact i13 d n m (λb o e=>by refine e12 (l b o e) λa j i=>?_;exact i12 a j (CodeRec.up i k))
theorem mU.to {g h h':aA} (c:mU g h) (k:∀ P o,cg P=true->h.get? P=some o->h'.get? P=some o):mU g h':=λP a=>by refine e13 (c P a) λb f e d=>?_;exact i13 b (k P _ a f) e d
theorem mU.sameBut {g h h':aA} {a:ay} (c:mU g h) (hs:bR a h h') (d:cg a=false):mU g h':=c.to λP o b e=>(hs.2 P λz=>by rw [z,d] at b;exact AH b).trans e
structure Stp (s₀ s:af):Prop where
 keep:∀ b o,s₀.heap.get? b=some o->cg b=false->s.heap.get? b=some o
 size:s₀.heap.objs.size<=s.heap.objs.size
 tabs:rR s₀.heap->rR s.heap
 gens:∀ (i:Nat) x,s₀.gens[i]?=some x->s.gens[i]?=some x
 bare:∀ (i:Nat) x,s.gens[i]?=some x->s₀.gens[i]?=some x\/x.bare=true
 os:s.os=s₀.os
structure wH (s₀ s:af):Prop extends Stp s₀ s where
 tsame:∀ P o,cg P=true->s₀.heap.get? P=some o->s.heap.get? P=some o
theorem Stp.refl (s:af):Stp s s:=⟨λ_ _ e _=>e,aq _,λt=>t,λ_ _ e=>e,λ_ _ e=>.inl e,rfl⟩
theorem Stp.trans {s₀ s₁ a:af} (x:Stp s₀ s₁) (y:Stp s₁ a):Stp s₀ a where
 keep b o e t:=y.keep b o (x.keep b o e t) t
 size:=ab x.size y.size
 tabs t:=y.tabs (x.tabs t)
 gens i v e:=y.gens i v (x.gens i v e)
 bare i v e:=(y.bare i v e).elim (λe=>x.bare i v e) .inr
 os:=y.os.trans x.os
theorem lS.keeps {h h':aA} {P:ay} (x:lS h P) (k:eN h h'):lS h' P:=by refine e11 x λa e=>?_;clear x;exact ⟨a,k _ _ e⟩
theorem rR.keeps {h h':aA} (x:rR h) (k:eN h h'):rR h':=⟨x.t1.keeps k,x.t2.keeps k,x.t3.keeps k,x.t4.keeps k⟩
theorem Stp.heap {s:af} {h':aA} {t:Nat} (k:eN s.heap h') (z:s.heap.objs.size<=h'.objs.size):wH s {s with heap:=h',toks:=t}:=
 ⟨⟨λb o e _=>k b o e,z,λt=>t.keeps k,λ_ _ e=>e,λ_ _ e=>.inl e,rfl⟩,λP o _ e=>k P o e⟩
theorem Stp.push (s:af) (o:ff) (t:Nat):wH s {s with heap:=s.heap.push o,toks:=t}:=Stp.heap (eN.push _ _) (by rw [cm];exact er _)
theorem Stp.tok (s:af) (t:Nat):wH s {s with toks:=t}:=Stp.heap (eN.refl _) (aq _)
theorem rR.sameBut {h h':aA} {a:ay} (x:rR h) (hs:bR a h h') (d:cg a=false):rR h':=by
 obtain q:∀ P,cg P=true->lS h P->lS h' P:=λP b ⟨c,e⟩=>⟨c,(hs.2 P λz=>by rw [z,d] at b;exact AH b).trans e⟩;exact ⟨q _ rfl x.t1,q _ rfl x.t2,q _ rfl x.t3,q _ rfl x.t4⟩
theorem Stp.change {s₀ s:af} {h':aA} {a:ay} {t:Nat} (x:Stp s₀ s) (b:331<=s₀.heap.objs.size) (c:s₀.heap.objs.size<=a) (hs:bR a s.heap h'):Stp s₀ {s with heap:=h',toks:=t}:=
 ⟨λb o e q=>(hs.2 b (bg (aw (aH e) c))).trans (x.keep b o e q),by rw [show h'.objs.size=s.heap.objs.size from hs.1];exact x.size,
  λq=>(x.tabs q).sameBut hs (eD (ab b c)),x.gens,x.bare,x.os⟩
noncomputable def Jj (s₀:af) (a:ay):Prop:=s₀.heap.get? a=none/\cg a=false
theorem Jj.of {s₀:af} {a:ay} (b:331<=s₀.heap.objs.size) (h:s₀.heap.objs.size<=a):Jj s₀ a:=⟨Ej h,eD (ab b h)⟩
theorem Stp.changeOff {s₀ s:af} {h':aA} {a:ay} {t:Nat} (x:Stp s₀ s) (c:Jj s₀ a) (hs:bR a s.heap h'):Stp s₀ {s with heap:=h',toks:=t}:=
 ⟨λb o e q=>(hs.2 b λz=>by rw [z,c.1] at e;exact lE e).trans (x.keep b o e q),by rw [show h'.objs.size=s.heap.objs.size from hs.1];exact x.size,
  λq=>(x.tabs q).sameBut hs c.2,x.gens,x.bare,x.os⟩
structure iB (s₀:af) (g₀:aA) (s:af) (g:aA):Prop extends Stp s₀ s where
 le:eN g₀ g
 sub:eN g s.heap
 new:∀ b o,g.get? b=some o->g₀.get? b=some o\/s₀.heap.objs.size<=b
 codes:mU g₀ s₀.heap->mU g s.heap
theorem iB.refl {s:af} {g:aA} (sub:eN g s.heap):iB s g s g:=⟨.refl s,eN.refl g,sub,λ_ _ e=>.inl e,id⟩
theorem iB.trans {s₀ s₁ a:af} {g₀ f d:aA} (x:iB s₀ g₀ s₁ f) (y:iB s₁ f a d):iB s₀ g₀ a d where
 toStp:=x.toStp.trans y.toStp
 le:=x.le.trans y.le
 sub:=y.sub
 new b o e:=(y.new b o e).elim (λe=>x.new b o e) λq=>.inr (ab x.size q)
 codes c:=y.codes (x.codes c)
structure SS (w:ar) (g:aA) (s:af):Prop where
 base:wP w g
 sub:eN g s.heap
 tabs:rR s.heap
 big:331<=s.heap.objs.size
 notab:∀ b,cg b=true->g.get? b=none
 bare:∀ (i:Nat) x,s.gens[i]?=some x->x.bare=true
 codes:mU g s.heap
theorem SS.step {w:ar} {g g':aA} {s s':af} (S:SS w g s) (x:iB s g s' g'):SS w g' s' where
 base:=S.base.keeps x.le
 sub:=x.sub
 tabs:=x.tabs S.tabs
 big:=ab S.big x.size
 notab b hb:=by
  cases q:g'.get? b with
  | none=>rfl
  | some o=>
   rcases x.new b o q with e | e;·replace e:=(S.notab b hb)▸e;exact lE e
   ·exact absurd (At hb) (bD (ab S.big e))
 bare i v e:=(x.bare i v e).elim (S.bare i v) id
 codes:=x.codes S.codes
theorem SS.sub' {w:ar} {g:aA} {s s':af} (S:SS w g s) (x:Stp s s'):eN g s'.heap:=λb o e=>x.keep b o (S.sub b o e) (by cases q:cg b with | false=>rfl | true=>replace e:=(S.notab b q)▸e;exact lE e)
theorem SS.same {w:ar} {g:aA} {s s':af} (S:SS w g s) (x:wH s s'):iB s g s' g:=⟨x.toStp,eN.refl g,S.sub' x.toStp,λ_ _ e=>.inl e,λc=>c.to x.tsame⟩
theorem SS.grow {w:ar} {g:aA} {s s':af} (S:SS w g s) (x:wH s s') (p:ay->Bool) (hp:∀ b,p b=true->s.heap.objs.size<=b): ∃ f,iB s g s' f/\∀ b o,p b=true->s'.heap.get? b=some o->f.get? b=some o:=by
 have a:eN g (mz s'.heap λb=>(g.get? b).isSome || p b):=λb o e=>by rw [fo,e];exact S.sub' x.toStp b o e
 refine i12 (mz s'.heap λb=>(g.get? b).isSome || p b) ⟨x.toStp,λb o e=>?_,λb o e=>?_,λb o e=>?_,λc=>(c.to x.tsame).mono a⟩ (λb o i e=>?_);·exact a b o e
 ·exact (qQ e).2
 ·refine e02 (qQ e) λq e=>?_;cases d:g.get? b with
  | some h=>exact .inl ((S.sub' x.toStp b h d).symm.trans e)
  | none=>replace q:=d▸q;exact .inr (hp b q)
 ·rw [fo,i];simpa using e
theorem SS.growPush {w:ar} {g:aA} {s:af} (S:SS w g s) (o:ff) (t:Nat) (c:o.isFreed=false): ∃ a,iB s g {s with heap:=s.heap.push o,toks:=t} a/\a.get? s.heap.objs.size=some o:=by
 refine e12 (S.grow (Stp.push s o t) (λb=>b==s.heap.objs.size) (λb d=>aj (bE d).symm)) λa x k=>?_;exact i12 a x (k _ _ (by simp) (az _ c))
theorem SS.tok {w:ar} {g:aA} {s:af} (S:SS w g s) (t:Nat):iB s g {s with toks:=t} g:=S.same (Stp.tok s t)
inductive B where
 | d (x:ag)
 | raw (v:ae)
 | own (a:ay) (ds:List ag) (z:Bool:=true)
 | owns (a:ay) (ls:List (ay × List ag))
 | tol (T:aA->ae->Prop)
 | clo (T:fg->aA->ae->Prop)
 | res (R:aA->ae->List (ay × ff)->Prop)
noncomputable def pC:B->Bool
 | .own ..=>true
 | .owns ..=>true
 | .res _=>true
 | _=>false
noncomputable def Au:B->Bool
 | .d _=>true
 | .raw _=>true
 | .tol _=>true
 | _=>false
noncomputable abbrev dh:=List (aE × B)
noncomputable def Jn (m:aE->Option ae) (h:aA) (env:fg) (x:aE) (v:ae):Prop:=
 (env.kindOf x=some .local/\m x=some v)\/((env.kindOf x=some .cell\/env.kindOf x=some .free)/\∃ c,env.cells.lookup x=some c/\h.IsCell c (some v))
structure Pr where
 objs:List (ay × ff):=[]
 gens:List (Nat × ji):=[]
noncomputable def l7 (s₀:af) (env:fg) (g:aA) (pr:Pr) (b:ay):Prop:=g.get? b=none/\Jj s₀ b/\b≠env.locals/\(∀ n c,env.cells.lookup n=some c->c≠b)/\∀ p∈pr.objs,p.1≠b
structure Cu (s₀:af) (env:fg) (g h:aA) (pr:Pr) (v:ae) (a:ay) (ls:List (ay × List ag)):Prop where
 val:v=.ref a
 obj:∃ n,h.get? a=some (ao (ls.map λp=>cw p.1).toArray n)
 off:l7 s₀ env g pr a
 kids:∀ p∈ls,(∃ vs n,h.get? p.1=some (ao (kH vs) n)/\VA g vs p.2)/\l7 s₀ env g pr p.1/\p.1≠a
 apart:(ls.map (·.1)).Nodup
 newer:s₀.heap.objs.size<=a/\∀ p∈ls,s₀.heap.objs.size<=p.1
noncomputable def r9 (s₀:af) (env:fg) (g h:aA) (pr:Pr) (v:ae):B->Prop
 | .d d=>V g v d
 | .raw u=>v=u
 | .own a ds z=>v=.ref a/\(∃ vs n,h.get? a=some (ao (kH vs) n)/\VA g vs ds)/\l7 s₀ env g pr a/\(z=true->s₀.heap.objs.size<=a)
 | .owns a ls=>Cu s₀ env g h pr v a ls
 | .tol T=>∃ g₁,eN g₁ g/\T g₁ v
 | .clo T=>∃ g₁,eN g₁ g/\T env g₁ v
 | .res R=>∃ g₁ objs,eN g₁ g/\R g₁ v objs/\∀ p∈objs,h.get? p.1=some p.2/\l7 s₀ env g pr p.1
theorem r9.move {s₀:af} {env:fg} {g g' h h':aA} {pr l:Pr} {v:ae} {b:B} (x:r9 s₀ env g h pr v b) (k:eN g g') (j:∀ b o,l7 s₀ env g pr b->h.get? b=some o->h'.get? b=some o/\l7 s₀ env g' l b):r9 s₀ env g' h' l v b:=by
 cases b with
 | d d=>exact V.mono x k
 | raw u=>exact x
 | own a I z=>refine e04 x λi y G F=>?_;clear x;refine e22 y λs n f r=>?_;clear y;refine e02 (j a _ G f) λD C=>?_;exact i04 i (i22 s n D (r.mono k)) C F
 | owns a H=>exact ⟨x.val,by obtain ⟨n,e⟩:=x.obj;exact ⟨n,(j a _ x.off e).1⟩,by obtain ⟨_,e⟩:=x.obj;exact (j a _ x.off e).2,λp q=>by refine e03 (x.kids p q) λw A t=>?_;refine e22 w λs n e E=>?_;clear w;exact i03 (i22 s n ((j _ _ A e).1) (E.mono k)) ((j _ _ A e).2) t,x.apart,x.newer⟩
 | tol T=>refine e12 x λc i f=>?_;clear x;exact i12 c (i.trans k) f
 | clo T=>refine e12 x λc i f=>?_;clear x;exact i12 c (i.trans k) f
 | res R=>refine e23 x λc m i f r=>?_;clear x;exact i23 c m (i.trans k) f (λp q=>j _ _ (r p q).2 (r p q).1)
theorem r9.free {s₀ s₁:af} {env:fg} {g g' h h':aA} {pr e:Pr} {v:ae} {b:B} (hb:pC b=false) (x:r9 s₀ env g h pr v b) (k:eN g g'):r9 s₁ env g' h' e v b:=by
 cases b with
 | d d=>exact V.mono x k
 | raw u=>exact x
 | own a l z=>cases hb
 | owns a j=>cases hb
 | tol T=>refine e12 x λc i f=>?_;clear x;exact i12 c (i.trans k) f
 | clo T=>refine e12 x λc i f=>?_;clear x;exact i12 c (i.trans k) f
 | res R=>cases hb
theorem r9.fix {s₀ s₁:af} {env e:fg} {g g' h h':aA} {pr f:Pr} {v:ae} {b:B} (hb:Au b=true) (x:r9 s₀ env g h pr v b) (k:eN g g'):r9 s₁ e g' h' f v b:=by
 cases b with
 | d d=>exact V.mono x k
 | raw u=>exact x
 | own a m z=>cases hb
 | owns a l=>cases hb
 | tol T=>refine e12 x λc j i=>?_;clear x;exact i12 c (j.trans k) i
 | clo T=>cases hb
 | res R=>cases hb
structure NW (s₀:af) (env:fg) (g:aA) (s:af) (pr:Pr):Prop where
 objs:∀ p∈pr.objs,s.heap.get? p.1=some p.2/\g.get? p.1=none/\Jj s₀ p.1/\p.1≠env.locals/\∀ n c,env.cells.lookup n=some c->c≠p.1
 gens:∀ p∈pr.gens,s.gens[p.1]?=some p.2/\s₀.gens.size<=p.1
noncomputable def Pr.ne:Pr:={}
noncomputable def B.ne:B:=.d .none
structure cB (sc:bf) (env:fg):Prop where
 scp:env.scope=sc
 kind:sc.kind=.function
 glob:env.globals=bA
 blt:env.builtins=dA
 cin:∀ n,sc.names.lookup n=some .cell\/sc.names.lookup n=some .free->∃ c,env.cells.lookup n=some c
theorem cB.int {sc:bf} {env:fg} (a:cB sc env):ni env=false:=by unfold ni;rw [a.scp,a.kind];rfl
structure Rm (r:Nat) (A:bj):Prop where
 handled:A.handled=none
 depth:A.depth+4*r<=900
 units:A.units+40*r<=9000
theorem Rm.le {r r':Nat} {A:bj} (x:Rm r A) (h:r'<=r):Rm r' A:=⟨x.handled,by have:=x.depth;lia,by have:=x.units;lia⟩
theorem Rm.room {r:Nat} {A:bj} (x:Rm r A):A.depth<CY:=by have:=x.depth;refine (?_:_<1000);exact fa1 this
theorem Rm.line {r:Nat} {A:bj} (x:Rm r A):A.units+64<Oi:=by have:=x.units;refine (?_:_<9900);exact fa1 this
structure FS (w:ar) (st:Bool) (s₀:af) (g₀:aA) (env:fg) (g:aA) (pr:Pr) (ρ:dh) (s:af):Prop where
 ss₀:SS w g₀ s₀
 aft:iB s₀ g₀ s g
 newL:Jj s₀ env.locals
 notL:g.get? env.locals=none
 vars:∃ m,s.heap.Ns env.locals m/\∀ x b,ρ.lookup x=some b->∃ v,Jn m s.heap env x v/\r9 s₀ env g s.heap pr v b
 cells:∀ n c,env.cells.lookup n=some c->(∃ v,s.heap.IsCell c v)/\g.get? c=none/\c≠env.locals
 apart:∀ n n' c,env.cells.lookup n=some c->env.cells.lookup n'=some c->n=n'
 prot:NW s₀ env g s pr
 newC:st=true->∀ n c,env.cells.lookup n=some c->env.kindOf n=some .cell->Jj s₀ c
section
variable {w:ar} {st:Bool} {s₀ s s':af} {g₀ g g':aA} {env:fg} {pr:Pr} {ρ:dh}
theorem FS.ss (F:FS w st s₀ g₀ env g pr ρ s):SS w g s:=F.ss₀.step F.aft
theorem FS.ltL (F:FS w st s₀ g₀ env g pr ρ s):env.locals<s.heap.objs.size:=by
 obtain ⟨m,⟨o,_,_,a,_⟩,_⟩:=F.vars;exact aH a
theorem FS.tabL (F:FS w st s₀ g₀ env g pr ρ s):cg env.locals=false:=F.newL.2
theorem IsCell.at {h h':aA} {a:ay} {v:Option ae} (x:h.IsCell a v) (e:∀ o,h.get? a=some o->h'.get? a=some o):h'.IsCell a v:=by refine e12 x λo b c=>?_;clear x;exact i12 o (e o b) c
theorem nR {h:aA} {c:ay} {v:Option ae} (T:rR h) (x:h.IsCell c v):cg c=false:=by
 cases q:cg c with
 | false=>rfl
 | true=>
  refine e12 x λo b d=>?_;clear x;obtain this:lS h c:=by
   delta cg at q;simp only [iK,beq_iff_eq] at q;rcases q with ((q | q) | q) | q <;>subst q;·exact T.t1
   ·exact T.t2
   ·exact T.t3
   ·exact T.t4
  refine e11 this λf e=>?_;clear this;replace e:=b▸e;refine iM e λa=>?_;clear e;subst a;cases d
theorem iB.fresh {s₀ s:af} {g₀ g:aA} {b:ay} (x:iB s₀ g₀ s g) (h:g₀.get? b=none) (hb:b<s₀.heap.objs.size):g.get? b=none:=by
 cases q:g.get? b with
 | none=>rfl
 | some o=>
  rcases x.new b o q with e | e;·replace e:=h▸e;exact lE e
  ·exact absurd hb (bD e)
theorem FS.step (F:FS w st s₀ g₀ env g pr ρ s) (x:iB s g s' g'):FS w st s₀ g₀ env g' pr ρ s' where
 ss₀:=F.ss₀
 aft:=F.aft.trans x
 newL:=F.newL
 notL:=x.fresh F.notL F.ltL
 vars:=by
  obtain ⟨m,r,a⟩:=F.vars;refine i12 m (r.at' λo e=>x.keep _ o e F.tabL) (λy b t=>?_);refine e12 (a y b t) λv k l=>?_;refine i12 v ?_ ?_
  ·rcases k with k | ⟨hk,c,hc,hcv⟩;·exact .inl k
   ·exact .inr ⟨hk,c,hc,IsCell.at hcv λo e=>x.keep _ o e (nR F.ss.tabs hcv)⟩
  ·exact l.move x.le λb o j e=>(i03 (x.keep b o e j.2.1.2) (x.fresh j.1 (aH e)) j.2)
 cells n c hc:=by
  refine e03 (F.cells n c hc) λq d f=>?_;refine e11 q λv a=>?_;clear q;exact i03 ⟨v,IsCell.at a λo e=>x.keep _ o e (nR F.ss.tabs a)⟩ (x.fresh d a.lt) f
 apart:=F.apart
 prot:=⟨λp i=>by refine e05 (F.prot.objs p i) λh d f z u=>?_;exact i05 (x.keep _ _ h f.2) (x.fresh d (aH h)) f z u,λp i=>by refine e02 (F.prot.gens p i) λh d=>?_;exact ⟨x.gens _ _ h,d⟩⟩
 newC:=F.newC
end
noncomputable abbrev ci:=aA->ae->Prop
noncomputable abbrev DV (d:ag):ci:=λg v=>V g v d
noncomputable abbrev RV (u:ae):ci:=λ_ v=>v=u
noncomputable abbrev II (i:Int):ci:=DV (.int i)
noncomputable abbrev SSV (x:aE):ci:=DV (.str x)
noncomputable abbrev LL (ds:List ag):ci:=DV (.list ds)
noncomputable abbrev TT (ds:List ag):ci:=DV (.tuple ds)
noncomputable abbrev BB (b:Bool):ci:=DV (.bool b)
noncomputable def MN (w:ar) (A:bj) (g:aA) (s:af) (t:il ae) (P:ci):Prop:=
 ∀ (Q:ae->af->Prop) (E:ae->af->Prop),(∀ v g' s',iB s g s' g'->P g' v->Q v s')->aV (MM w) A t Q E s
noncomputable def Ev (w:ar) (sc:bf) (r:Nat) (ρ:dh) (e:be) (P:ci):Prop:=
 ∀ A env st s₀ g₀ g pr s,cB sc env->Rm r A->FS w st s₀ g₀ env g pr ρ s->MN w A g s (eW e env) P
noncomputable def Tr (w:ar) (sc:bf) (r:Nat) (ρ:dh) (e:be) (b:Bool):Prop:=
 ∀ A env st s₀ g₀ g pr s,cB sc env->Rm r A->FS w st s₀ g₀ env g pr ρ s->∀ (Q:Bool->af->Prop) (E:ae->af->Prop),
  (∀ g' s',iB s g s' g'->Q b s')->aV (MM w) A (te e env (eW e env)) Q E s
noncomputable def Op (w:ar) (r:Nat) (g:aA) (t:il ae) (P:ci):Prop:=∀ A s,Rm r A->SS w g s->MN w A g s t P
noncomputable def nT (w:ar) (r:Nat) (op:JJ) (d e f:ag):Prop:=∀ g a b,V g a d->V g b e->Op w r g (Oj op a b) (DV f)
noncomputable def kr (w:ar) (r:Nat) (op:Ox) (d e:ag) (f:Bool):Prop:=∀ g a b,V g a d->V g b e->Op w r g (compareOp op a b) (BB f)
noncomputable def AO (w:ar) (r:Nat) (d:ag) (b:Bool):Prop:=∀ g a,V g a d->∀ A s,Rm r A->SS w g s->∀ (Q:Bool->af->Prop) (E:ae->af->Prop),(∀ g' s',iB s g s' g'->Q b s')->aV (MM w) A (N6 a) Q E s
section
variable {w:ar} {sc:bf} {r:Nat} {ρ:dh} {pos:cU} {P P₁ P₂:ci}
theorem Ev.int {i:Int} {k:Nat}:Ev w sc r ρ (.Constant (.int i) k pos) (II i):=λA c d a b g e s f h F Q E q=>wpAny_Constant_int (q _ g _ (F.ss.tok _) (.int i _))
theorem Ev.str {x:aE} {k:Nat}:Ev w sc r ρ (.Constant (.str x) k pos) (SSV x):=λA c d a b g e s f h F Q E q=>oJ (q _ g _ (F.ss.tok _) (.str x _))
theorem Ev.nil {k:Nat}:Ev w sc r ρ (.Constant .none k pos) (DV .none):=λA c d a b g e s f h F Q E q=>wpAny_Constant_none (q _ g _ (iB.refl F.ss.sub) .none)
theorem Ev.bool {b:Bool} {k:Nat}:Ev w sc r ρ (.Constant (.bool b) k pos) (BB b):=λA d e a c g f s h i F Q E q=>wpAny_Constant_bool (q _ g _ (iB.refl F.ss.sub) (.bool b))
noncomputable def B.post:B->ci
 | .d x=>DV x
 | .raw v=>RV v
 | .own a _ _=>RV (.ref a)
 | .owns a _=>RV (.ref a)
 | _=>λ_ _=>True
theorem kZ {A:bj} {env:fg} {m:aE->Option ae} {x:aE} {v:ae} {s:af} {M:lM} {Q:ae->af->Prop} {E:ae->af->Prop} (b:env.scope.kind=.function) (d:s.heap.Ns env.locals m) (f:Jn m s.heap env x v) (hx:(x==("__classdict__":aE))=false) (h:Q v s):aV M A (loadName env x) Q E s:=by
 rcases f with ⟨a,e⟩ | ⟨a,c,hc,hv⟩;·exact wpAny_loadName_local b a d e h
 ·rcases a with a | a;·exact wpAny_loadName_cell b a hc hv h
  ·exact wpAny_loadName_free b a hc hv h hx
theorem cB.k {env:fg} (a:cB sc env):env.scope.kind=.function:=a.scp▸a.kind
theorem Ev.name {x:aE} {b:B} (hb:ρ.lookup x=some b) (hx:autoParam ((x==("__classdict__":aE))=false) auF._auto_1) (l:autoParam ((x==("__debug__":aE))=false) auF._auto_1):Ev w sc r ρ (.Name x pos) b.post:=by
 intro A n o e f g p s k y F Q E q;obtain ⟨m,i,h⟩:=F.vars;refine e12 (h x b hb) λv j c=>?_;refine CU (kZ k.k i j hx (q v g s (iB.refl F.ss.sub) ?_)) l;cases b with
 | d d=>exact c
 | raw u=>exact c
 | own a C z=>exact c.1
 | owns a t=>exact c.val
 | tol T=>trivial
 | clo T=>trivial
 | res R=>trivial
theorem Ev.glob {x:aE} {v:ae} (e:∀ P,Bh (kF.heap_1 P) bA x=some (some v)) (hx:sc.names.lookup x=some .globalImplicit) (h:autoParam ((x==("__debug__":aE))=false) auF._auto_1):Ev w sc r ρ (.Name x pos) (RV v):=by
 intro A c i d f g j s b m F Q E q;obtain ⟨k,l,T⟩:=F.ss.base.top;refine th b.k (by refine (?_:c.scope.names.lookup x=_);rw [b.scp];exact hx) (loadGlobal_global ?_ (mg_of F.ss.base.K T.g (e _)) (q v g s (iB.refl F.ss.sub) rfl)) h;rw [b.glob];exact T.g.keeps F.ss.sub
theorem Ev.blt {x:aE} {v:ae} (e:∀ P,Bh (kF.heap_1 P) bA x=some dO) (f:q5 x=some v) (hx:sc.names.lookup x=some .globalImplicit) (h:x≠"__name__") (i:autoParam ((x==("__debug__":aE))=false) auF._auto_1):Ev w sc r ρ (.Name x pos) (RV v):=by
 intro A b j c d g k s a n F Q E q;obtain ⟨l,m,T⟩:=F.ss.base.top;refine th a.k (by refine (?_:b.scope.names.lookup x=_);rw [a.scp];exact hx) (Lg ?_ (mg_none_of F.ss.base.K T.g (e _)) ?_ ((T.builtins x h).trans f) (q v g s (iB.refl F.ss.sub) rfl)) i;·rw [a.glob];exact T.g.keeps F.ss.sub
 ·rw [a.blt];exact T.b.keeps F.ss.sub
theorem bz {l rr:be} {op:JJ} {d e f:ag} (h1:Ev w sc r ρ l (DV d)) (h2:Ev w sc r ρ rr (DV e)) (h3:nT w r op d e f):Ev w sc r ρ (.BinOp l op rr pos) (DV f):=by
 intro A i n c h g o s p k F Q E q;refine JA (h1 A i n c h g o s p k F _ _ λa I D m z=>?_);obtain t:=F.step m;refine h2 A i n c h I o D p k t _ _ λb H C j y=>?_;exact h3 H a b (z.mono j.le) y A C k (t.step j).ss Q E λv G B u x=>q v G B ((m.trans j).trans u) x
theorem sX {l rr:be} {op:Ox} {d e:ag} {f:Bool} (h1:Ev w sc r ρ l (DV d)) (h2:Ev w sc r ρ rr (DV e)) (h3:kr w r op d e f) (G:autoParam (Fx op rr=false) auF._auto_1):Ev w sc r ρ (.Compare l [op] [rr] pos) (BB f):=by
 intro A i n c h g o s p k F Q E q;refine N5 (h1 A i n c h g o s p k F _ _ λa J D m z=>?_) G;obtain t:=F.step m;refine h2 A i n c h J o D p k t _ _ λb I C j y=>?_;exact h3 I a b (z.mono j.le) y A C k (t.step j).ss Q E λv H B u x=>q v H B ((m.trans j).trans u) x
theorem bQ {l rr:be} {op:Ox} {d e:ag} {f:Bool} (h1:Ev w sc r ρ l (DV d)) (h2:Ev w sc r ρ rr (DV e)) (h3:kr w r op d e f) (G:autoParam (Fx op rr=false) auF._auto_1):Tr w sc r ρ (.Compare l [op] [rr] pos) f:=by
 intro A i n c h g o s p k F Q E q;refine ml (h1 A i n c h g o s p k F _ _ λa J D m z=>?_) G;obtain t:=F.step m;refine h2 A i n c h J o D p k t _ _ λb I C j y=>?_;refine h3 I a b (z.mono j.le) y A C k (t.step j).ss _ _ λv H B u x=>?_;rw [V.bool_inv x];exact fG (q H B ((m.trans j).trans u))
theorem cQ {i j:Int}:nT w r .Add (.int i) (.int j) (.int (i+j)):=by
 intro g a b d c A s e S Q E q;obtain ⟨t,rfl⟩:=d.int_inv;obtain ⟨u,rfl⟩:=c.int_inv;exact Nr (q _ g _ (S.tok _) (.int _ _))
theorem gK {i j:Int}:nT w r .Sub (.int i) (.int j) (.int (i - j)):=by
 intro g a b d c A s e S Q E q;obtain ⟨t,rfl⟩:=d.int_inv;obtain ⟨u,rfl⟩:=c.int_inv;exact M5 (q _ g _ (S.tok _) (.int _ _))
theorem gi {i j:Int}:kr w r .Eq (.int i) (.int j) (i==j):=by
 intro g a b d c A s e S Q E q;obtain ⟨t,rfl⟩:=d.int_inv;obtain ⟨u,rfl⟩:=c.int_inv;exact Nm (q _ g _ (iB.refl S.sub) (.bool _))
end
section
variable {w:ar} {st:Bool} {s₀ s s':af} {g₀ g g':aA} {env:fg} {pr:Pr} {ρ:dh}
theorem l7.ne {a b:ay} (ho:l7 s₀ env g pr b) (c:a=env.locals\/∃ n,env.cells.lookup n=some a):b≠a:=λz=>by
 rcases c with c | ⟨k,c⟩;·exact ho.2.2.1 (z.trans c)
 ·exact ho.2.2.2.1 k a c z.symm
theorem r9.at {h h':aA} {a:ay} {v:ae} {b:B} (x:r9 s₀ env g h pr v b) (hs:bR a h h') (d:a=env.locals\/∃ n,env.cells.lookup n=some a):r9 s₀ env g h' pr v b:=
 x.move (eN.refl _) λb o c e=>⟨(hs.2 b (c.ne d)).trans e,c⟩
theorem NW.at {s':af} {a:ay} (x:NW s₀ env g s pr) (hs:bR a s.heap s'.heap) (h:s'.gens=s.gens) (b:a=env.locals\/∃ n,env.cells.lookup n=some a):NW s₀ env g s' pr:=
 ⟨λp c=>by
  refine e05 (x.objs p c) λl j i f d=>?_;refine i05 ((hs.2 p.1 λe=>?_).trans l) j i f d;rcases b with b | ⟨k,b⟩;·exact f (e.trans b)
  ·exact d k a b e.symm,λp c=>h▸x.gens p c⟩
theorem FS.store {x:aE} {v:ae} {b:B} {A:bj} {sc:bf} {Q:Unit->af->Prop} {E:ae->af->Prop} (F:FS w st s₀ g₀ env g pr ρ s) (D:cB sc env) (V:sc.names.lookup x=some .local\/(sc.names.lookup x=some .cell/\st=true)) (hb:r9 s₀ env g s.heap pr v b) (q:∀ N,FS w st s₀ g₀ env g pr ((x,b)::ρ) N->Q () N):aV (MM w) A (storeName env x v) Q E s:=by
 obtain ⟨m,P,O⟩:=F.vars;have e:env.kindOf x=sc.names.lookup x:=by refine (?_:env.scope.names.lookup x=_);rw [D.scp]
 rcases V with hl | ⟨hl,hst⟩
 ·rw [<- e] at hl;refine Ia hl P (λR k d=>q _ ?_) (by rw [D.k];rfl);have G:=λb o q=>(d.2 b λz=>by rw [z,F.notL] at q;exact lE q).trans (F.ss.sub b o q);have p:∀ {c v},s.heap.IsCell c v->c≠env.locals->R.IsCell c v:=λx y=>x.sameBut d y;refine ⟨F.ss₀,⟨(F.aft.toStp.changeOff (t:=s.toks+1) F.newL d),F.aft.le,G,F.aft.new,λc=>(F.aft.codes c).sameBut d F.newL.2⟩,F.newL,F.notL,(i12 _ k (λy c a=>?_)),λn c i=>?_,F.apart,F.prot.at d rfl (.inl rfl),F.newC⟩
  ·rw [aK] at a;by_cases f:y=x
   ·subst f;replace a:=(show (y==y)=true from beq_self_eq_true y)▸a;refine iM a λT=>?_;clear a;subst T;exact i12 v (.inl ⟨hl,if_pos rfl⟩) (r9.at hb d (.inl rfl))
   ·replace a:=(show (y==x)=false from beq_false_of_ne f)▸a;refine e12 (O y c a) λu H r=>?_;refine i12 u ?_ (r9.at r d (.inl rfl));rcases H with ⟨j,h⟩ | ⟨j,C,h,l⟩;·exact .inl ⟨j,(if_neg f).trans h⟩
    ·exact .inr ⟨j,C,h,p l (F.cells y C h).2.2⟩
  ·refine e03 (F.cells n c i) λM h l=>?_;refine e11 M λu j=>?_;clear M;exact i03 ⟨u,p j l⟩ h l
 ·refine e11 (D.cin x (.inl hl)) λc i=>?_;rw [<- e] at hl;refine e03 (F.cells x c i) λL W X=>?_;refine e11 L λu I=>?_;clear L;refine wpAny_storeName_cell D.k hl i I λR k d=>q _ ?_;refine ⟨F.ss₀,⟨(F.aft.toStp.changeOff (F.newC hst x c i hl) d),F.aft.le,(λb o q=>(d.2 b λz=>by rw [z,W] at q;exact lE q).trans (F.ss.sub b o q)),F.aft.new,λY=>(F.aft.codes Y).sameBut d (F.newC hst x c i hl).2⟩,F.newL,F.notL,(i12 _ (P.sameBut d (db X)) (λy C a=>?_)),λn C J=>?_,F.apart,F.prot.at d rfl (.inr ⟨_,i⟩),F.newC⟩
  ·rw [aK] at a;by_cases f:y=x
   ·subst f;replace a:=(show (y==y)=true from beq_self_eq_true y)▸a;refine iM a λS=>?_;clear a;subst S;exact i12 v (.inr ⟨.inl hl,c,i,k⟩) (r9.at hb d (.inr ⟨_,i⟩))
   ·replace a:=(show (y==x)=false from beq_false_of_ne f)▸a;refine e12 (O y C a) λu H r=>?_;refine i12 u ?_ (r9.at r d (.inr ⟨_,i⟩));rcases H with ⟨j,h⟩ | ⟨j,c'',h,l⟩;·exact .inl ⟨j,h⟩
    ·exact .inr ⟨j,c'',h,l.sameBut d λz=>f (F.apart y x c (z▸h) i)⟩
  ·refine e03 (F.cells n C J) λK h l=>?_;refine e11 K λU j=>?_;clear K;by_cases z:C=c;·subst z;exact i03 ⟨_,k⟩ h l
   ·exact i03 ⟨U,j.sameBut d z⟩ h l
end
inductive m6 where
 | next (ρ:dh)
 | brk (ρ:dh)
 | cont (ρ:dh)
 | ret (P:ci)
 | retR (P:ci) (ρ:dh)
noncomputable def AR (w:ar) (st:Bool) (s₀:af) (g₀:aA) (env:fg) (pr:Pr) (fl:ui) (g:aA) (s:af):m6->Prop
 | .next ρ=>fl=.next/\FS w st s₀ g₀ env g pr ρ s
 | .brk ρ=>fl=.brk/\FS w st s₀ g₀ env g pr ρ s
 | .cont ρ=>fl=.cont/\FS w st s₀ g₀ env g pr ρ s
 | .ret P=>∃ v,fl=.ret v/\iB s₀ g₀ s g/\P g v
 | .retR P ρ=>∃ v,fl=.ret v/\FS w st s₀ g₀ env g pr ρ s/\P g v
noncomputable def lF (w:ar) (sc:bf) (r:Nat) (ρ:dh) (x:cD) (o:m6):Prop:=
 ∀ A env s₀ g₀ g pr s,cB sc env->Rm r A->FS w true s₀ g₀ env g pr ρ s->∀ (Q:ui->af->Prop) (E:ae->af->Prop),(∀ fl g' s',eN g g'->AR w true s₀ g₀ env pr fl g' s' o->Q fl s')->aV (MM w) A (HX x env) Q E s
noncomputable def Ex (w:ar) (sc:bf) (r:Nat) (ρ:dh) (xs:List cD) (o:m6):Prop:=
 ∀ A env s₀ g₀ g pr s,cB sc env->Rm r A->FS w true s₀ g₀ env g pr ρ s->∀ (Q:ui->af->Prop) (E:ae->af->Prop),(∀ fl g' s',eN g g'->AR w true s₀ g₀ env pr fl g' s' o->Q fl s')->aV (MM w) A (eZ xs env) Q E s
section
variable {w:ar} {sc:bf} {r:Nat} {ρ ρ':dh} {pos:cU} {P P₁ P₂:ci} {o:m6}
theorem Ex.nil:Ex w sc r ρ [] (.next ρ):=λA c a b g d s e f F Q E q=>nF (q _ g s (eN.refl g) ⟨rfl,F⟩)
theorem Ex.cons {x:cD} {xs:List cD} (h:lF w sc r ρ x (.next ρ')) (k:Ex w sc r ρ' xs o):Ex w sc r ρ (x::xs) o:=by
 intro A d a b g f s j l F Q E q;refine bI (h A d a b g f s j l F _ _ λm v t e i=>?_);refine e02 i λn y=>?_;clear i;obtain rfl:=n;exact k A d a b v f t j l y Q E λm u p c=>q m u p (e.trans c)
theorem Ex.ret {x:cD} {xs:List cD} (h:lF w sc r ρ x (.ret P)):Ex w sc r ρ (x::xs) (.ret P):=by
 intro A d a b g j s k l F Q E q;refine bI (h A d a b g j s k l F _ _ λn m i c e=>?_);refine e12 e λv f y=>?_;clear e;obtain rfl:=f;exact q _ m i c (i12 v rfl y)
theorem Ex.brk {x:cD} {xs:List cD} (h:lF w sc r ρ x (.brk ρ')):Ex w sc r ρ (x::xs) (.brk ρ'):=by
 intro A d a b g j s k l F Q E q;refine bI (h A d a b g j s k l F _ _ λn m i c e=>?_);refine e02 e λf y=>?_;clear e;obtain rfl:=f;exact q _ m i c ⟨rfl,y⟩
theorem Fg:lF w sc r ρ (.Break pos) (.brk ρ):=λA c a b g d s e f F Q E q=>wpAny_Break (q _ g s (eN.refl g) ⟨rfl,F⟩)
theorem lF.ret {e:be} (h:Ev w sc r ρ e P):lF w sc r ρ (.Return (some e) pos) (.ret P):=λA c a b g f s j k F Q E q=>wR (h A c true a b g f s j k F _ _ λv l d x i=>q _ l d x.le (i13 v rfl (F.aft.trans x) i))
theorem fr {t:be} {a b:List cD} (h:Tr w sc r ρ t true) (k:Ex w sc r ρ a o):lF w sc r ρ (.If t a b pos) o:=λA f c d g i s j l F Q E q=>N4 (h A f true c d g i s j l F _ _ λu n x=>by exact k A f c d u i n j l (F.step x) Q E λv p m e=>q v p m (x.le.trans e))
theorem cf {t:be} {a b:List cD} (h:Tr w sc r ρ t false) (k:Ex w sc r ρ b o):lF w sc r ρ (.If t a b pos) o:=λA f c d g i s j l F Q E q=>N4 (h A f true c d g i s j l F _ _ λu n x=>by exact k A f c d u i n j l (F.step x) Q E λv p m e=>q v p m (x.le.trans e))
noncomputable def tN (P:ci) (b:B):Prop:=∀ s₀ env g h pr v,P g v->r9 s₀ env g h pr v b
theorem tN.d {d:ag}:tN (DV d) (.d d):=λ_ _ _ _ _ _ h=>h
theorem tN.raw {v:ae}:tN (RV v) (.raw v):=λ_ _ _ _ _ _ h=>h
theorem ie {x:aE} {p:cU} {e:be} {b:B} (h:Ev w sc r ρ e P) (hb:tN P b) (hx:pt sc true x=true) (hs:autoParam (∀ a,gO e (some (.Name x p)) pos.line a=pure false) am._auto_9): lF w sc r ρ (.Assign [.Name x p] e pos) (.next ((x,b)::ρ)):=λA a c d g j s i l F Q E q=>dw (h A a true c d g j s i l F _ _ λv m t y k=>(F.step y).store i (pt.out hx) (hb _ _ _ _ _ _ k) λf n=>q _ m f y.le ⟨rfl,n⟩) (hs a)
end
noncomputable def m6.ne:m6:=.next []
noncomputable def ko (g:aA):List ci->List ae->Prop
 | [],[]=>True
 | P::Ps,v::vs=>P g v/\ko g Ps vs
 | _,_=>False
theorem qc {g:aA} {vs:List ae} (h:ko g [] vs):vs=[]:=by
 cases vs with
 | nil=>rfl
 | cons=>exact xb h
noncomputable def vH (P:ci):Prop:=∀ g h v,eN g h->P g v->P h v
theorem vH.d {d:ag}:vH (DV d):=λ_ _ _ k x=>V.mono x k
theorem vH.raw {v:ae}:vH (RV v):=λ_ _ _ _ x=>x
structure rf (w:ar) (sc:bf) (r:Nat) (ρ:dh) (es:List be) (Ps:List ci):Prop where
 pl:∀ env,(bW es env).any (·.1)=false
 run:∀ A env st s₀ g₀ g pr s pos,cB sc env->Rm r A->FS w st s₀ g₀ env g pr ρ s->∀ (Q:List ae->af->Prop) (E:ae->af->Prop),
  (∀ vs g' s',iB s g s' g'->ko g' Ps vs->Q vs s')->aV (MM w) A (spliced (lJ pos (bW es env))) Q E s
section
variable {w:ar} {sc:bf} {r:Nat} {ρ ρ':dh} {pos:cU} {P P₁ P₂:ci} {Ps:List ci}
theorem rf.nil:rf w sc r ρ [] []:=⟨λ_=>rfl,λA d e a b g f s c h i F Q E q=>gM (q [] g s (iB.refl F.ss.sub) trivial)⟩
theorem rf.cons {e:be} {es:List be} (h:Ev w sc r ρ e P) (k:rf w sc r ρ es Ps) (B:vH P) (d:autoParam (∀ a,bW (e::es) a=(false,eW e a)::bW es a) am._auto_9):rf w sc r ρ (e::es) (P::Ps):=
 ⟨λa=>by rw [d a,n9,k.pl];rfl,λA a m b c g n s f p t F Q E q=>gj (h A a m b c g n s p t F _ _ λv D y l z=>k.run A a m b c D n y f p t (F.step l) _ _ λu C x j i=>q (v::u) C x (l.trans j) ⟨B _ _ _ j.le z,i⟩) (d a)⟩
theorem rf.plain {es:List be} (h:rf w sc r ρ es Ps) (env:fg):(lJ pos (bW es env)).any (·.1)=false:=by
 unfold lJ;rw [List.any_map];exact h.pl env
theorem rf.first {es:List be} (h:rf w sc r ρ es Ps) (env:fg) (pos:cU):lJ pos (bW es env)=[]\/∃ x rest,lJ pos (bW es env)=(false,x)::rest:=by
 obtain this:=h.plain env;cases b:lJ pos (bW es env) with
 | nil=>exact .inl rfl
 | cons p l=>rw [b,n9] at this;exact .inr (i21 p.2 l (by rw [<- (Bool.or_eq_false_iff.1 this).1]))
noncomputable def iu (w:ar) (r:Nat) (f:ae) (Ps:List ci) (P:ci):Prop:=∀ g vs,ko g Ps vs->Op w r g (call f vs) P
noncomputable def D9 (f:ae):Prop:=∀ M w (h:aA),wP w h->∃ k,(k=Kl\/k=Ic\/k=FA)/\JG M h (keeperOf f) k
theorem D9.top {f:ae} (a:∀ P,C6 (kF.heap_1 P) f=true):D9 f:=λM w h B=>keeps_K (a w.params) h B.K
theorem D9.plain {f:ae} (h:∀ a,f≠.ref a):D9 f:=by
 intro M w b B;refine i12 .machine (.inr (.inl rfl)) ?_;cases f <;>first | exact absurd rfl (h _) | exact iH rfl
theorem fA {M:lM} {A:bj} {s:af} {f:ae} {xs:List (Bool × il ae)} {Q:Args->af->Prop} {E:ae->af->Prop} (hx:xs=[]\/∃ x a,xs=(false,x)::a) (h:aV M A (spliced xs) (λb c=>Q ⟨b,[]⟩ c) E s):aV M A (evalArgs f true xs []) Q E s:=by
 rcases hx with rfl | ⟨x,a,rfl⟩
 ·refine aa (cr h (λb c d=>?_) λ_ _ x=>x);refine aa (ah (bw ?_));exact aa (ah (aa (ah (ah d))))
 ·exact evalArgs_plain h
theorem cL {A:bj} {env:fg} {pr:Pr} {st:Bool} {s₀ s₁:af} {g₀ b:aA} {v:ae} {first:List ae} {args:List be} {Q:ae->af->Prop} {E:ae->af->Prop} (l:cB sc env) (hA:Rm r A) (F:FS w st s₀ g₀ env b pr ρ s₁) (i:rf w sc r ρ args Ps) (k:D9 v) (m:∀ c e d,iB s₁ b d e->ko e Ps c->aV (MM w) A (PySem.call v (first++c) []) Q E d):aV (MM w) A (wX pos v first (lJ pos (bW args env)) []) Q E s₁:=by
 refine lh (P:=λh=>wP w h) (by rw [i.plain env];rfl) (λh B=>k _ w h B) ?_;refine fA (i.first env pos) (i.run A env st s₀ g₀ b pr s₁ pos l hA F _ _ λc e d f j=>⟨(F.ss.base.keeps f.le).keeps f.sub,m c e d f j⟩)
theorem Ev.call {f:be} {h:ae} {args:List be} (G:Ev w sc r ρ f (RV h)) (I:rf w sc r ρ args Ps) (D:D9 h) (c:iu w r h Ps P)
  (H:autoParam (∀ a,eW (.Call f args [] pos) a=(do wX pos (<- eW f a) [] (lJ pos (bW args a)) (Ok pos (JC [] a)))) am._auto_9):Ev w sc r ρ (.Call f args [] pos) P:=by
 intro A a p b d g y s k e F Q E q
 rw [H a]
 refine aa (G A a p b d g y s k e F _ _ λv M L j z=>?_)
 obtain rfl:=z
 obtain l:=F.step j
 exact cL k e l I D λn K x i C=>c K n C A x e (l.step i).ss Q E λu J t m B=>q u J t ((j.trans i).trans m) B
theorem eS {o:be} {name:aE} {apos:cU} {args:List be} {env:fg} (hb:∀ m,fZ o name env m=m) (hp:(lJ a (bW args env)).any (·.1)=false) (d:(apos.endLine==a.line)=true) (c:args.length<30):
  ∃ h,eW (.Call (.Attribute o name apos) args [] a) env=(do
   let b <- eW o env
   gQ apos.atName
   let (f,first) <- wV [b] (getMethod b name h)
   wX a f first (lJ a (bW args env)) []):=by
 revert a o name apos args env
 intros a o name apos args env;intro hb hp d c
 refine ⟨(do return (<- importBound o env).getD true),?_⟩
 obtain e:eW (.Call (.Attribute o name apos) args [] a) env=(do
   let b <- fZ o name env (eW o env)
   gQ apos.atName
   methodCall o name apos a env b (args.length+0) (lJ a (bW args env)) []):=rfl
 rw [e,hb]
 obtain i:Od (args.length+0) (lJ a (bW args env)) []=true:=by
  delta Od;rw [bN,decide_eq_true_eq];refine ⟨?_,c⟩;simpa using hp
 delta methodCall
 rw [i]
 unfold methodCallPos
 rw [d]
 rfl
theorem AZ {b:ci} {o:be} {name:aE} {T id:String} {apos:cU} {args:List be} (ho:Ev w sc r ρ o b) (N:vH b) (x:rf w sc r ρ args Ps) (S:∀ g v,b g v->∀ s:af,eN g s.heap->s.TypeIs v T/\∀ a,v=.ref a->∃ o,s.heap.get? a=some o/\o.dict=none) (J:PlainAttrs T) (f:Oq T name id) (l:v9 (.builtin id)=pure (.type "method_descriptor")) (h:iu w r (.builtin id) (b::Ps) P) (hb:∀ c m,fZ o name c m=m) (O:(apos.endLine==pos.line)=true) (M:args.length<30):Ev w sc r ρ (.Call (.Attribute o name apos) args [] pos) P:=by
 intro A c C d i g I s t n F Q E q;refine e11 (eS (hb c) (x.plain c) O M) λZ R=>?_;refine eH (ho A c C d i g I s t n F _ _ λv Y H k p=>?_) R;refine e02 (S Y v p H k.sub) λV U=>?_;have y:=F.step k;refine dY V J f l U ?_;exact cL t n y x (D9.plain λa e=>by cases e) λB X G j L=>h X (v::B) ⟨N _ _ _ j.le p,L⟩ A G n (y.step j).ss Q E λu W D z K=>q u W D ((k.trans j).trans z) K
theorem zf {o:be} {name:aE} {T id:String} {apos:cU} {args:List be} {d:ag} (ho:Ev w sc r ρ o (DV d)) (k:rf w sc r ρ args Ps) (l:∀ g v,V g v d->∀ s:af,eN g s.heap->s.TypeIs v T/\∀ a,v=.ref a->∃ o,s.heap.get? a=some o/\o.dict=none) (h:PlainAttrs T) (b:Oq T name id) (e:v9 (.builtin id)=pure (.type "method_descriptor")) (c:iu w r (.builtin id) (DV d::Ps) P) (hb:∀ f m,fZ o name f m=m) (j:(apos.endLine==pos.line)=true) (i:args.length<30):Ev w sc r ρ (.Call (.Attribute o name apos) args [] pos) P:=
 AZ ho vH.d k l h b e c hb j i
end
noncomputable def fn:List aE->List B->dh
 | x::xs,b::bs=>(x,b)::fn xs bs
 | _,_=>[]
theorem Cn {k:aE->Option jh} {x:aE} {bs:List (aE × ae)}:∀ {m:aE->Option ae},x∉bs.map (·.1)->PH k bs m x=m x:=by
 induction bs with
 | nil=>exact λ_=>rfl
 | cons b r a=>
  intro m h;refine (a λq=>h (.tail _ q)).trans ?_;by_cases e:k b.1=some .local;·rw [if_pos e];exact if_neg (λe=>h (e▸.head _):x≠b.1)
  ·rw [if_neg e]
theorem Co {k:aE->Option jh} {x:aE} {bs:List (aE × ae)}:∀ {m:aE->Option ae},x∉bs.map (·.1)->PI k bs m x=m x:=by
 induction bs with
 | nil=>exact λ_=>rfl
 | cons b r a=>
  intro m h;refine (a λq=>h (.tail _ q)).trans ?_;by_cases e:k b.1=some .local;·rw [if_pos e]
  ·rw [if_neg e];exact if_neg (λe=>h (e▸.head _):x≠b.1)
theorem xM {k:aE->Option jh} {x:aE} {v:ae} {bs:List (aE × ae)}:∀ {m:aE->Option ae},(bs.map (·.1)).Nodup->(x,v)∈bs->k x=some .local->PH k bs m x=some v:=by
 induction bs with
 | nil=>exact λ_ h=>nm h
 | cons b r d=>exact λh a c=>(mC a).elim (λe=>by
   subst e;refine (Cn (nC h).1).trans ?_;rw [if_pos c];exact if_pos rfl) λa=>d (nC h).2 a c
theorem xN {k:aE->Option jh} {x:aE} {v:ae} {bs:List (aE × ae)}:∀ {m:aE->Option ae},(bs.map (·.1)).Nodup->(x,v)∈bs->k x≠some .local->PI k bs m x=some v:=by
 induction bs with
 | nil=>exact λ_ h=>nm h
 | cons b r d=>exact λh a c=>(mC a).elim (λe=>by
   subst e;refine (Co (nC h).1).trans ?_;rw [if_neg c];exact if_pos rfl) λa=>d (nC h).2 a c
noncomputable def y7 (xs:List aE) (bs:List B) (ps:List ci):Prop:=xs.length=bs.length/\bs.length=ps.length/\∀ (i:Nat) b P,bs[i]?=some b->ps[i]?=some P->tN P b
theorem lZ {s₀:af} {env:fg} {g h:aA} {pr:Pr} {xs:List aE}:∀ {d:List B} {l:List ci} {j:List ae},y7 xs d l->ko g l j->∀ {x b},(fn xs d).lookup x=some b->∃ v,(x,v)∈xs.zip j/\r9 s₀ env g h pr v b:=by
 induction xs with
 | nil=>intro d l j f m x b e;cases e
 | cons a xs t=>
  intro d l j f m x b e;cases d with
  | nil=>exact nomatch f.1
  | cons c d=>cases l with
   | nil=>exact nomatch f.2.1
   | cons p l=>cases j with
    | nil=>exact m.elim
    | cons v j=>
     rw [show fn (a::xs) (c::d)=(a,c)::fn xs d from rfl,aK] at e;by_cases n:x=a
     ·subst n;replace e:=(beq_self_eq_true x)▸e;refine iM e λq=>?_;clear e;subst q;exact i12 v (.head _) (f.2.2 0 _ p rfl rfl _ _ _ _ _ _ m.1)
     ·replace e:=(show (x==a)=false from beq_false_of_ne n)▸e;exact (t ⟨lU f.1,lU f.2.1,λi b P z y=>f.2.2 (i+1) b P z y⟩ m.2 e).elim λu k=>⟨u,.tail _ k.1,k.2⟩
theorem ko.ind {g:aA} {P:List ci->List ae->Prop} (n:P [] []) (c:∀ p v ps vs,p g v->ko g ps vs->P ps vs->P (p::ps) (v::vs)) {ps:List ci}:∀ {vs:List ae},ko g ps vs->P ps vs:=by
 induction ps with
 | nil=>exact λ{vs}=>vs.rec (λ_=>n) λ_ _ _ h=>h.elim
 | cons p ps b=>exact λ{vs}=>vs.rec (λh=>h.elim) λ_ _ _ h=>c _ _ _ _ h.1 h.2 (b h.2)
theorem ko.length {g:aA} {ps:List ci} {vs:List ae} (h:ko g ps vs):ps.length=vs.length:=h.ind (P:=λps vs=>ps.length=vs.length) rfl λ_ _ _ _ _ _ e=>congrArg uk e
noncomputable def zz (cv:ae) (q:aE) (w:ar) (sc:bf) (r:Nat) (ρ:dh) (xs:List cD) (o:m6):Prop:=
 ∀ A env s₀ g₀ g pr s,env.code=cv/\env.qual=q->cB sc env->Rm r A->FS w true s₀ g₀ env g pr ρ s->∀ (Q:ui->af->Prop) (E:ae->af->Prop),(∀ fl g' s',eN g g'->AR w true s₀ g₀ env pr fl g' s' o->Q fl s')->aV (MM w) A (eZ xs env) Q E s
theorem zz.of {w:ar} {sc:bf} {r:Nat} {ρ:dh} {o:m6} {cv:ae} {q:aE} {xs:List cD} (h:Ex w sc r ρ xs o):zz cv q w sc r ρ xs o:=λA c a b g d s _=>h A c a b g d s
theorem ko.append {g:aA} {ps d:List ci} {vs c:List ae} (h:ko g ps vs) (k:ko g d c):ko g (ps++d) (vs++c):=h.ind (P:=λps vs=>ko g (ps++d) (vs++c)) k λ_ _ _ _ a _ b=>⟨a,b⟩
theorem uE (g:aA):∀ a:List ae,ko g (a.map RV) a
 | []=>trivial
 | _::a=>⟨rfl,uE g a⟩
noncomputable def CJ (w:ar) (r:Nat) (f:ae) (Ps:List ci) (P:ci):Prop:=∀ g vs,ko g Ps vs->∀ A s,Rm r A->SS w g s->∀ R:eB->af->Prop,(∀ v g' s',iB s g s' g'->P g' v->R (.ok (.ret v)) s')->gn (MM w) A (.call f ⟨vs,[]⟩) R s
theorem CJ.cal {w:ar} {r:Nat} {f:ae} {Ps:List ci} {P:ci} (h:CJ w r f Ps P):iu w r f Ps P:=λg a b A s c S Q E q=>iX (h g a b A s c S _ q)
theorem Ec {w:ar} {f:ay} {oc:ae} {od:Option ay} {osl:Array (Option ae)} {fd:fR} {body:List cD} {r:Nat} {xs:List aE} {bs:List B} {ps:List ci} (dv:List ae)
  (ho:(kF.heap_1 w.params).lookup f=some ⟨oc,od,.func fd,osl⟩) (hcd:tf (kF.heap_1 w.params) fd.code fd.qualname=true) (D:fd.body=.stmts body) (J:fd.closure=[])
  (hg:fd.globals=bA) (Q:fd.builtins=dA) (hbind:∀ (m:List ae) (s:af),(kF.heap_1 w.params).In s.heap->(m++dv).length=xs.length->wZ s fd ⟨m,[]⟩ (xs.zip (m++dv))) (hp:y7 xs bs (ps++dv.map RV)) (hnd:xs.Nodup)
  (hkind:(xs.all λx=>fd.scope.names.lookup x==some .local || fd.scope.names.lookup x==some .cell)=true)
  (N:fd.scope.names.all (λx=>x.2 !=.free)=true) (O:fd.scope.isCoroutine=false) (I:fd.scope.isGenerator=false) (W:fd.scope.kind=.function)
  {A:bj} {g:aA} {s:af} {vs0:List ae} (hA:Rm (r+1) A) (S:SS w g s) (L:ko g ps vs0) {Rr:eB->af->Prop}
  (h:∀ i s₁ (E:ae->af->Prop),(i.code=fd.code/\i.qual=fd.qualname++".<locals>.")->cB fd.scope i->Rm r (A.deeper i)->i.frame=some i.locals->i.locals=s.heap.objs.size->FS w true s g i g {} (fn xs bs) s₁->aV (MM w) (A.deeper i) (eZ body i) (λR U=>Rr (.ok (.ret (match R with | .ret v=>v | _=>.none))) U) E s₁):gn (MM w) A (.call (.ref f) ⟨vs0,[]⟩) Rr s:=by
 have B:=S.base.keeps S.sub
 obtain ⟨mg,mb,T⟩:=B.top
 obtain ⟨m,z⟩:∃ m,m=vs0++dv:=⟨_,rfl⟩
 have V:=z▸L.append (uE g dv)
 have u:=(hp.1.trans (hp.2.1.trans V.length)).symm
 obtain K:=hbind vs0 s B.K (z▸u)
 rw [<- z] at K
 refine r3 hA.room (B.K _ _ ho) rfl O I D (Ld B.K hcd) ?_
 rw [J]
 refine K _ _ _ _ (CS W ?_ λi hE s₁ x=>?_)
 ·intro x Z;obtain e:=aT hkind _ ((eO Z).1);rcases gS.mp e with q | q;·exact .inl (by simpa using q)
  ·obtain p:fd.scope.names.lookup x.1=some .cell:=by simpa using q
   exact .inr ⟨p,lK _ _ _ (.inl p)⟩
 ·subst hE;refine ⟨T.nolimit.keeps x.toInCall.keep,HY ?_⟩;replace x:InCallC s (fB fd s.heap.objs.size f).locals (PH (fB fd s.heap.objs.size f).kindOf (xs.zip m) λ_=>none) (fB fd s.heap.objs.size f).cells (PI (fB fd s.heap.objs.size f).kindOf (xs.zip m) λ_=>none) s₁:=x;obtain ⟨h',tk,hs⟩:=x.toInCall.same;have C:=x.toInCall.ns;obtain X:s.heap.objs.size<s₁.heap.objs.size:=by
   refine e32 C λo z0 z1 e z2=>?_;clear C;exact aH e
  obtain he:cB fd.scope (fB fd s.heap.objs.size f):=⟨rfl,W,hg,Q,λn G=>by
   rcases G with G | G;·exact dz.mp (lK fd.scope.names (s.heap.objs.size+1) [] (.inl G))
   ·obtain this:=aT N _ (mem_of_lookup G);exact (bb this).elim⟩
  have j:∀ c:Nat,s.heap.objs.size<=c->g.get? c=none:=λc l=>by
   cases e:g.get? c with
   | none=>rfl
   | some o=>exact absurd (aH (S.sub _ _ e)) (bD l)
  have t:((xs.zip m).map (·.1)).Nodup:=by
   rw [Ij (aj u.symm)];exact hnd
  obtain F:FS w true s g (fB fd s.heap.objs.size f) g {} (fn xs bs) s₁:=by
   refine ⟨S,S.same (by subst hs;exact Stp.heap x.toInCall.keep (aF X)),Jj.of S.big (aq _),j _ (aq _),(i12 _ C (λy b Y=>?_)),λn c l=>?_,λn n' c h1 h2=>Pe x.apart (mem_of_lookup h1) (mem_of_lookup h2),⟨λ_ h=>(nm h),λ_ h=>(nm h)⟩,λ_ n c l _=>Jj.of S.big (aF (x.above n c (mem_of_lookup l)))⟩
   ·refine e12 (lZ (s₀:=s) (env:=fB fd s.heap.objs.size f) (h:=s₁.heap) (pr:={}) hp V Y) λv M hb=>?_;refine i12 v ?_ hb;rcases gS.mp (aT hkind _ (eO M).1) with q | q
    ·obtain p:=bE q;exact .inl ⟨p,xM t M p⟩
    ·obtain p:(fB fd s.heap.objs.size f).kindOf y=some .cell:=bE q;obtain l:=lK fd.scope.names (s.heap.objs.size+1) [] (.inl p);refine e11 (dz.mp l) λc l=>?_;obtain k:=x.cell y c l;rw [xN t M (by rw [p];decide)] at k;exact .inr ⟨.inl p,c,l,k⟩
   ·obtain H:=x.above n c (mem_of_lookup l);exact i03 ⟨_,x.cell n c l⟩ (j c (aF H)) (ed H)
  exact cr (h _ s₁ _ ⟨rfl,rfl⟩ he (⟨hA.handled,by have:=hA.depth;refine (?_:A.depth+1+4*r<=900);exact fa1 this,by have:=hA.units;refine (?_:A.units+3+40*r<=9000);exact fa1 this⟩) rfl rfl F) (λR U x=>by cases R <;>exact x) λ_ _ x=>x
theorem xW {w:ar} {f:ay} {oc:ae} {od:Option ay} {osl:Array (Option ae)} {fd:fR} {body:List cD} {r:Nat} {xs:List aE} {bs:List B} {ps:List ci} {P:ci} (dv:List ae) (ho:(kF.heap_1 w.params).lookup f=some ⟨oc,od,.func fd,osl⟩) (hcd:tf (kF.heap_1 w.params) fd.code fd.qualname=true) (a:fd.body=.stmts body) (d:fd.closure=[]) (I:fd.globals=bA) (p:fd.builtins=dA) (hbind:∀ (e:List ae) (s:af),(kF.heap_1 w.params).In s.heap->(e++dv).length=xs.length->wZ s fd ⟨e,[]⟩ (xs.zip (e++dv))) (hp:y7 xs bs (ps++dv.map RV)) (hnd:xs.Nodup) (hkind:(xs.all λx=>fd.scope.names.lookup x==some .local || fd.scope.names.lookup x==some .cell)=true) (l:fd.scope.names.all (λx=>x.2 !=.free)=true) (n:fd.scope.isCoroutine=false) (c:fd.scope.isGenerator=false) (H:fd.scope.kind=.function) (h:zz fd.code (fd.qualname++".<locals>.") w fd.scope r (fn xs bs) body (.ret P)):CJ w (r+1) (.ref f) ps P:=by
 intro g z i A s K S R q;refine Ec dv ho hcd a d I p hbind hp hnd hkind l n c H K S i ?_;intros M b E;intro m J j D D F;refine h _ _ s g g {} b m J j F _ _ λN L C G t=>?_;refine e13 t λv u y k=>?_;clear t;obtain rfl:=u;exact q v L C y k
theorem xV {w:ar} {f:ay} {oc:ae} {od:Option ay} {osl:Array (Option ae)} {fd:fR} {body:List cD} {r:Nat} {xs:List aE} {bs:List B} {ps:List ci} {P:ci} (dv:List ae) (ho:(kF.heap_1 w.params).lookup f=some ⟨oc,od,.func fd,osl⟩) (hcd:tf (kF.heap_1 w.params) fd.code fd.qualname=true) (a:fd.body=.stmts body) (c:fd.closure=[]) (l:fd.globals=bA) (j:fd.builtins=dA) (hbind:∀ (d:List ae) (s:af),(kF.heap_1 w.params).In s.heap->(d++dv).length=xs.length->wZ s fd ⟨d,[]⟩ (xs.zip (d++dv))) (hp:y7 xs bs (ps++dv.map RV)) (hnd:xs.Nodup) (hkind:(xs.all λx=>fd.scope.names.lookup x==some .local || fd.scope.names.lookup x==some .cell)=true) (e:fd.scope.names.all (λx=>x.2 !=.free)=true) (i:fd.scope.isCoroutine=false) (b:fd.scope.isGenerator=false) (k:fd.scope.kind=.function) (h:zz fd.code (fd.qualname++".<locals>.") w fd.scope r (fn xs bs) body (.ret P)):iu w (r+1) (.ref f) ps P:=
 (xW dv ho hcd a c l j hbind hp hnd hkind e i b k h).cal
theorem qe {w:ar} {f:ay} {oc:ae} {od:Option ay} {osl:Array (Option ae)} {fd:fR} {body:List cD} {r:Nat} {xs:List aE} {bs:List B} {ps:List ci} {P:ci} (ho:(kF.heap_1 w.params).lookup f=some ⟨oc,od,.func fd,osl⟩) (hcd:tf (kF.heap_1 w.params) fd.code fd.qualname=true) (a:fd.body=.stmts body) (d:fd.closure=[]) (l:fd.globals=bA) (j:fd.builtins=dA) (hbind:∀ b,b.length=xs.length->wY fd ⟨b,[]⟩=pure (xs.zip b)) (hp:y7 xs bs ps) (hnd:xs.Nodup) (hkind:(xs.all λx=>fd.scope.names.lookup x==some .local || fd.scope.names.lookup x==some .cell)=true) (e:fd.scope.names.all (λx=>x.2 !=.free)=true) (i:fd.scope.isCoroutine=false) (c:fd.scope.isGenerator=false) (k:fd.scope.kind=.function) (h:zz fd.code (fd.qualname++".<locals>.") w fd.scope r (fn xs bs) body (.ret P)):iu w (r+1) (.ref f) ps P:=
 xV [] ho hcd a d l j (λb s _ h=>jC (by rw [bp] at h ⊢;exact hbind b h)) (by rw [show ps++[].map RV=ps from bp ps];exact hp) hnd hkind e i c k h
theorem ea {w:ar} {f:ay} {oc:ae} {od:Option ay} {osl:Array (Option ae)} {fd:fR} {body:List cD} {r:Nat} {xs:List aE} {bs:List B} {ps:List ci} {P:ci} (ho:(kF.heap_1 w.params).lookup f=some ⟨oc,od,.func fd,osl⟩) (hcd:tf (kF.heap_1 w.params) fd.code fd.qualname=true) (b:fd.body=.stmts body) (e:fd.closure=[]) (hg:fd.globals=bA) (m:fd.builtins=dA) (hbind:∀ j,j.length=xs.length->wY fd ⟨j,[]⟩=pure (xs.zip j)) (hp:y7 xs bs ps) (hnd:xs.Nodup) (hkind:(xs.all λx=>fd.scope.names.lookup x==some .local || fd.scope.names.lookup x==some .cell)=true) (k:fd.scope.names.all (λx=>x.2 !=.free)=true) (l:fd.scope.isCoroutine=false) (d:fd.scope.isGenerator=false) (hk:fd.scope.kind=.function) (h:Ex w fd.scope r (fn xs bs) body (.ret P)):iu w (r+1) (.ref f) ps P:=
 qe ho hcd b e hg m hbind hp hnd hkind k l d hk (.of h)
section
variable {w:ar} {r:Nat}
theorem Fq {i j:Bool}:nT w r .Sub (.bool i) (.bool j) (.int (b2i i - b2i j)):=by
 intro g a b d c A s e S Q E q;obtain rfl:=d.bool_inv;obtain rfl:=c.bool_inv;exact sub_bool (q _ g _ (S.tok _) (.int _ _))
theorem HM {x y:aE}:kr w r .Gt (.str x) (.str y) (decide (y.cps.toList<x.cps.toList)):=by
 intro g a b d c A s e S Q E q;obtain ⟨t,rfl⟩:=d.str_inv;obtain ⟨u,rfl⟩:=c.str_inv;exact PySem.P.gt_str (q _ g _ (iB.refl S.sub) (.bool _))
theorem HK {x y:aE}:kr w r .Lt (.str x) (.str y) (decide (x.cps.toList<y.cps.toList)):=by
 intro g a b d c A s e S Q E q;obtain ⟨t,rfl⟩:=d.str_inv;obtain ⟨u,rfl⟩:=c.str_inv;exact w3 (q _ g _ (iB.refl S.sub) (.bool _))
end
theorem IF (w:ar) (x y:aE):iu w 2 (.ref 45) [SSV x,SSV y] (II (b2i (decide (y.cps.toList<x.cps.toList)) - b2i (decide (x.cps.toList<y.cps.toList)))):=by
 refine' ea (xs:=[ac "a",ac "b"]) (bs:=[.d (.str x),.d (.str y)]) rfl rfl rfl rfl rfl rfl ?hbind ?hp (by decide) (by decide) (by decide) rfl rfl rfl ?h;case hbind=>intro k g;refine e21 (jz g) λa b f=>?_;obtain rfl:=f;rfl
 case hp=>exact i03 rfl rfl (λi b P e d=>by
   cases i with
   | zero=>cases e;cases d;exact tN.d
   | succ i=>cases i with
    | zero=>cases e;cases d;exact tN.d
    | succ i=>trivial)
 case h=>
  refine Ex.ret (lF.ret (bz (sX ?_ ?_ HM) (sX ?_ ?_ HK) Fq));·exact Ev.name (b:=.d (.str x)) rfl
  ·exact Ev.name (b:=.d (.str y)) rfl
  ·exact Ev.name (b:=.d (.str x)) rfl
  ·exact Ev.name (b:=.d (.str y)) rfl
structure SX (X:List ay) (G:List Nat) (s₀ s:af):Prop where
 keep:∀ b o,b∉X->s₀.heap.get? b=some o->cg b=false->s.heap.get? b=some o
 size:s₀.heap.objs.size<=s.heap.objs.size
 tabs:rR s₀.heap->rR s.heap
 gens:∀ (i:Nat) x,i∉G->s₀.gens[i]?=some x->s.gens[i]?=some x
 gsize:s₀.gens.size<=s.gens.size
 bare:∀ (i:Nat) x,s.gens[i]?=some x->s₀.gens[i]?=some x\/x.bare=true
 os:s.os=s₀.os
theorem SX.of {X:List ay} {G:List Nat} {s₀ s:af} (x:Stp s₀ s):SX X G s₀ s:=
 ⟨λb o _=>x.keep b o,x.size,x.tabs,λi v _=>x.gens i v,by
  rcases um s.gens.size s₀.gens.size with h | h
  ·obtain this:=gk h;obtain this:=x.gens _ _ this;simp at this
  ·exact h,x.bare,x.os⟩
noncomputable def addrs (q:Pr):List ay:=q.objs.map (·.1)
noncomputable def l3 (q:Pr):List Nat:=q.gens.map (·.1)
noncomputable def dg (q p:Pr):Pr:=⟨q.objs++p.objs,q.gens++p.gens⟩
structure kL (g:aA) (s:af) (q:Pr):Prop where
 objs:∀ p∈q.objs,s.heap.get? p.1=some p.2/\g.get? p.1=none
 gens:∀ p∈q.gens,s.gens[p.1]?=some p.2
structure nU (q:Pr) (s₀:af) (g₀:aA) (s:af) (g:aA):Prop where
 sx:SX (addrs q) (l3 q) s₀ s
 le:eN g₀ g
 sub:eN g s.heap
 new:∀ b o,g.get? b=some o->g₀.get? b=some o\/s₀.heap.objs.size<=b
 codes:mU g₀ s₀.heap->mU g s.heap
noncomputable def Jo (q q':Pr) (s:af):Prop:=(∀ a∈addrs q',a∈addrs q\/s.heap.objs.size<=a)/\(∀ k∈l3 q',k∈l3 q\/s.gens.size<=k)/\(q.gens=[]->q'.gens=[])
noncomputable def Kf (q q':Pr) (s:af):Prop:=(∀ a∈addrs q',a∈addrs q\/s.heap.objs.size<=a)/\(∀ k∈l3 q',k∈l3 q\/s.gens.size<=k)
theorem Jo.two {q q':Pr} {s:af} (h:Jo q q' s):Kf q q' s:=⟨h.1,h.2.1⟩
noncomputable def yG:List String:=["enumerate","zip","dict_itemiterator","dict_reverseitemiterator","odict_iterator","itertools.zip_longest","itertools.pairwise"]
noncomputable def Jm (it:ae) (q:Pr):Prop:=∃ a o n,it=.ref a/\(a,o)∈q.objs/\o.cls=.type n/\yG.contains n=false
noncomputable def Ct (w:ar) (r:Nat) (it:ae) (g:aA) (q:Pr):Prop:=∀ g' A s,eN g g'->Rm r A->SS w g' s->kL g' s q->∀ (Q:ae->af->Prop) (E:ae->af->Prop),Q it s->aV (MM w) A (kO it) Q E s
noncomputable def jf (w:ar) (r:Nat) (fin:Bool) (it:ae):List ag->aA->Pr->Prop
 | [],g,q=>(Jm it q/\Ct w r it g q)/\(fin=true->∀ g' A s,eN g g'->Rm r A->SS w g' s->kL g' s q->∀ (Q:Option ae->af->Prop) (E:ae->af->Prop),(∀ s' g'',nU q s g' s' g''->Q none s')->aV (MM w) A (ki it) Q E s)
 | x::xs,g,q=>(Jm it q/\Ct w r it g q)/\∀ g' A s,eN g g'->Rm r A->SS w g' s->kL g' s q->∀ (Q:Option ae->af->Prop) (E:ae->af->Prop),
   (∀ v g'' q' s',nU q s g' s' g''->kL g'' s' q'->Jo q q' s->V g'' v x->jf w r fin it xs g'' q'->Q (some v) s')->aV (MM w) A (ki it) Q E s
noncomputable def Ee (w:ar) (sc:bf) (r:Nat) (ρ:dh) (e:be) (fin:Bool) (xs:List ag):Prop:=
 ∀ A env st s₀ g₀ g pr s,cB sc env->Rm r A->FS w st s₀ g₀ env g pr ρ s->∀ (Q:ae->af->Prop) (E:ae->af->Prop),
  (∀ it g' q s',iB s g s' g'->kL g' s' q->(∀ a∈addrs q,s.heap.objs.size<=a)->(∀ k∈l3 q,s.gens.size<=k)->jf w r fin it xs g' q->Q it s')->
  aV (MM w) A (eW e env) (λx s₁=>aV (MM w) A (kO x) Q E s₁) E s
noncomputable def MP (w:ar) (r:Nat) (P:ci) (fin:Bool) (xs:List ag):Prop:=
 ∀ A g v s,Rm r A->SS w g s->P g v->∀ (Q:ae->af->Prop) (E:ae->af->Prop),
  (∀ it g' q s',iB s g s' g'->kL g' s' q->(∀ a∈addrs q,s.heap.objs.size<=a)->(∀ k∈l3 q,s.gens.size<=k)->jf w r fin it xs g' q->Q it s')->aV (MM w) A (kO v) Q E s
theorem Stp.gsize {s₀ s:af} (x:Stp s₀ s):s₀.gens.size<=s.gens.size:=(SX.of (X:=[]) (G:=[]) x).gsize
theorem Ee.of {w:ar} {sc:bf} {r:Nat} {ρ:dh} {e:be} {fin:Bool} {xs:List ag} {P:ci} (h:Ev w sc r ρ e P) (k:MP w r P fin xs):Ee w sc r ρ e fin xs:=by
 intro A f l b c g o s B i F Q E q;refine h A f l b c g o s B i F _ _ λv G n d u=>?_;exact k A G v n i (F.step d).ss u Q E λt D p m j x C y z=>q t D p m (d.trans j) x (λa h=>ab d.size (C a h)) (λa h=>ab d.toStp.gsize (y a h)) z
section
variable {w:ar} {r:Nat}
theorem SS.none {g:aA} {s:af} (S:SS w g s) {b:ay} (h:s.heap.objs.size<=b):g.get? b=none:=by
 cases e:g.get? b with
 | none=>rfl
 | some o=>exact absurd (aH (S.sub _ _ e)) (bD h)
theorem jf.ok {fin:Bool} {it:ae} {xs:List ag} {g:aA} {q:Pr} (h:jf w r fin it xs g q):Jm it q:=by cases xs <;>exact h.1.1
theorem jf.self {fin:Bool} {it:ae} {xs:List ag} {g:aA} {q:Pr} (h:jf w r fin it xs g q):Ct w r it g q:=by cases xs <;>exact h.1.2
theorem nU.one {g:aA} {s:af} {h':aA} {t:Nat} {I:ay} {o:ff} (S:SS w g s) (hI:g.get? I=none) (ht:cg I=false) (hs:bR I s.heap h'):nU ⟨[(I,o)],[]⟩ s g {s with heap:=h',toks:=t} g:=
 ⟨⟨λb o' hb e _=>(hs.2 b λz=>hb (by simp [addrs,z])).trans e,aj (jl (show h'.objs.size=s.heap.objs.size from hs.1)),λq=>q.sameBut hs ht,λ_ _ _ e=>e,aq _,λ_ _ e=>.inl e,rfl⟩,
  eN.refl g,λb o' e=>(hs.2 b λz=>by rw [z,hI] at e;cases e).trans (S.sub b o' e),λ_ _ e=>.inl e,λc=>c.sameBut hs ht⟩
theorem mU.extBut {g h h':aA} {I:ay} (b:cg I=false) (hs:gr I h h'):mU g h->mU g h':=λc=>c.to λP o a e=>hs P o (λz=>by rw [z,b] at a;exact AH a) e
theorem SX.extBut {s:af} {h':aA} {t:Nat} {I:ay} {o:ff} (hz:s.heap.objs.size<=h'.objs.size) (g:cg I=false) (hs:gr I s.heap h'):SX (addrs ⟨[(I,o)],[]⟩) (l3 ⟨[(I,o)],[]⟩) s {s with heap:=h',toks:=t}:=
 ⟨λb d f e _=>hs b d (λz=>f (by simp [addrs,z])) e,hz,λq=>by
  obtain k:∀ P,cg P=true->lS s.heap P->lS h' P:=λP a ⟨c,e⟩=>⟨c,hs P _ (λz=>by rw [z,g] at a;exact AH a) e⟩;exact ⟨k _ rfl q.t1,k _ rfl q.t2,k _ rfl q.t3,k _ rfl q.t4⟩,λ_ _ _ e=>e,aq _,λ_ _ e=>.inl e,rfl⟩
theorem nU.ext {g:aA} {s:af} {h':aA} {t:Nat} {I:ay} {o:ff} (S:SS w g s) (d:g.get? I=dO) (hz:s.heap.objs.size<=h'.objs.size) (c:cg I=false) (hs:gr I s.heap h'):nU ⟨[(I,o)],[]⟩ s g {s with heap:=h',toks:=t} g:=
 ⟨SX.extBut hz c hs,eN.refl g,λb a e=>hs b a (λz=>by rw [z,d] at e;exact lE e) (S.sub b a e),λ_ _ e=>.inl e,mU.extBut c hs⟩
theorem jf.list {I l:ay} {vs:List ae}:∀ {B:List ag} {i:Nat} {g:aA} {o:ff},g.IsList l vs.toArray->VA g (vs.drop i) B->cg I=false->o.cls=.type "list_iterator"->o.data=.fields #[.ref l,.int i 0]->jf w r true (.ref I) B g ⟨[(I,o)],[]⟩:=by
 intros B;induction B with
 | nil=>
  intro i g o q f C n y;refine ⟨⟨(i34 I o _ rfl (.head _) n rfl),λz A s c D S m Q E k=>Ib (i13 o ((m.objs _ (.head _)).1) n y) k⟩,λ_ z A s c D S m Q E k=>?_⟩;refine e02 (m.objs _ (.head _)) λM F=>?_;obtain j:=f.length;obtain J:s.heap.IsList l vs.toArray:=by refine e12 q λu a b=>?_;clear q;exact i12 u (S.sub _ _ (c _ _ a)) b
  refine cC (wpAny_pyNext_list_end D.handled (i13 o M n y) J ?_ λW G P=>?_)
  ·rw [cE];simp only [lx,pS] at j;exact cn (qv j)
  ·exact k _ z (nU.ext S F P C G)
 | cons d B O=>
  intro i g o q f C n y;refine ⟨⟨(i34 I o _ rfl (.head _) n rfl),λz A s c D S m Q E k=>Ib (i13 o ((m.objs _ (.head _)).1) n y) k⟩,λz A s c D S m Q E k=>?_⟩;refine e02 (m.objs _ (.head _)) λM F=>?_;cases e:vs.drop i with
  | nil=>replace f:=e▸f;have:=f.length;exact gt this
  | cons v rest=>
   replace f:=e▸f;obtain U:vs[i]?=some v:=by
    obtain this:=congrArg (λl=>l[0]?) e;simpa using this
   obtain R:vs.drop (i+1)=rest:=by
    simpa using (congrArg List.tail e)
   refine wpAny_pyNext_list_item (i13 o M n y) (by refine e12 q λu a b=>?_;exact i12 u (S.sub _ _ (c _ _ a)) b) (by rw [cE];exact U) λW x G=>?_;refine e13 x λN H L K=>?_;clear x;refine k v z ⟨[(I,N)],[]⟩ _ (nU.one S F C G) ⟨λp T=>?_,λ_ h=>nm h⟩ ⟨λa V=>.inl V,λ_ h=>(nm h),λ_=>rfl⟩ (f.uncons.1.mono c) ?_
   ·cases T with
    | head=>exact ⟨H,F⟩
    | tail _ h=>cases h
   ·exact O (i:=i+1) (by refine e12 q λu a b=>?_;clear q;exact i12 u (c _ _ a) b) (by rw [R];exact f.uncons.2.mono c) C L (by rw [K])
theorem MP.list {ds:List ag}:MP w r (LL ds) true ds:=by
 intro A g v s t S j Q E k;refine e24 (V.list_inv j) λl q e c i n=>?_;obtain rfl:=e;refine pf (by refine e12 c λf a b=>?_;exact i12 f (S.sub _ _ a) b) ?_;refine k _ g ⟨[(s.heap.objs.size,_)],[]⟩ _ (S.same (Stp.push s ({cls:=.type "list_iterator",data:=.fields #[.ref l,.int 0 0]}:ff) s.toks)) ⟨λp m=>?_,λ_ h=>nm h⟩ (λa d=>?_) (λ_ h=>nm h) (jf.list (o:={cls:=.type "list_iterator",data:=.fields #[.ref l,.int 0 0]}) c (by trivial) (eD S.big) rfl rfl)
 ·cases m with
  | head=>exact ⟨az _ rfl,S.none (aq _)⟩
  | tail _ h=>cases h
 ·simp [addrs] at d;exact aj d.symm
end
noncomputable def r8 (ρ ρ':dh):Prop:=∀ x b,ρ.lookup x=some b->ρ'.lookup x=some b
theorem r8.refl (ρ:dh):r8 ρ ρ:=λ_ _ h=>h
theorem r8.nil {ρ:dh}:r8 [] ρ:=λ_ _ h=>by cases h
theorem r8.cons {x:aE} {b:B} {ρ ρ':dh} (h:ρ'.lookup x=some b) (k:r8 ρ ρ'):r8 ((x,b)::ρ) ρ':=by
 intro y c e;rw [aK] at e;by_cases q:y=x
 ·subst q;replace e:=(beq_self_eq_true y)▸e;refine iM e λa=>?_;clear e;subst a;exact h
 ·replace e:=(show (y==x)=false from beq_false_of_ne q)▸e;exact k y c e
section
variable {w:ar} {st:Bool} {s₀ s s':af} {g₀ g g':aA} {env:fg} {pr q q':Pr} {ρ ρ':dh}
theorem FS.weaken (F:FS w st s₀ g₀ env g pr ρ' s) (h:r8 ρ ρ'):FS w st s₀ g₀ env g pr ρ s:=
 ⟨F.ss₀,F.aft,F.newL,F.notL,by obtain ⟨m,a,b⟩:=F.vars;exact i12 m a (λx c e=>b x c (h x c e)),F.cells,F.apart,F.prot,F.newC⟩
structure eg (q pr:Pr):Prop where
 objs:∀ p∈pr.objs,p.1∉addrs q
 gens:∀ p∈pr.gens,p.1∉l3 q
theorem gI {q:Pr} {a:ay}:a∈addrs q->∃ o,(a,o)∈q.objs:=λh=>by
 refine e12 (mM h) λp c b=>?_;obtain rfl:=b;exact ⟨p.2,c⟩
theorem GU {q:Pr} {a:Nat}:a∈l3 q->∃ o,(a,o)∈q.gens:=λh=>by
 refine e12 (mM h) λp c b=>?_;obtain rfl:=b;exact ⟨p.2,c⟩
theorem FS.live (F:FS w st s₀ g₀ env g (dg q pr) ρ s):kL g s q:=
 ⟨λp c=>by refine e03 (F.prot.objs p (bG _ c)) λa b d=>?_;exact ⟨a,b⟩,λp c=>(F.prot.gens p (bG _ c)).1⟩
theorem FS.iter (F:FS w st s₀ g₀ env g (dg q pr) ρ s) (ha:eg q pr) (x:nU q s g s' g') (hl:kL g' s' q') (hg:Kf q q' s):FS w st s₀ g₀ env g' (dg q' pr) ρ s'/\eg q' pr:=by
 revert w st s₀ s s' g₀ g g' env pr q q' ρ;intros w st s₀ s s' g₀ g g' env pr q q';intros ρ;intro F ha x hl hg;have hq:∀ a∈addrs q,Jj s₀ a/\a<s.heap.objs.size/\a≠env.locals/\∀ n c,env.cells.lookup n=some c->c≠a:=λa h=>by
  refine e11 (gI h) λo A=>?_;refine e05 (F.prot.objs _ (bG _ A)) λD C h3 h4 h5=>?_;exact i04 h3 (aH D) h4 h5
 have hqg:∀ k∈l3 q,s₀.gens.size<=k/\k<s.gens.size:=λk h=>by
  refine e11 (GU h) λo A=>?_;refine e02 (F.prot.gens _ (bG _ A)) λD C=>?_;exact ⟨C,(gA D).1⟩
 have l:∀ b,g.get? b=none->b<s.heap.objs.size->g'.get? b=none:=λb h hb=>by
  cases e:g'.get? b with
  | none=>rfl
  | some o=>
   rcases x.new b o e with e' | e';·replace e':=h▸e';exact lE e'
   ·exact absurd hb (bD e')
 have cq:=λn c B h=>(hq _ h).2.2.2 n c B rfl;have r:∀ {c v},s.heap.IsCell c v->c∉addrs q->s'.heap.IsCell c v:=λh B=>IsCell.at h λo e=>x.sx.keep _ o B e (nR F.ss.tabs h);obtain aft:iB s₀ g₀ s' g':={
  keep:=λb o e t=>x.sx.keep b o (λh=>by replace e:=((hq b h).1.1)▸e;exact lE e) (F.aft.keep b o e t) t
  size:=ab F.aft.size x.sx.size
  tabs:=λt=>x.sx.tabs (F.aft.tabs t)
  gens:=λi v e=>x.sx.gens i v (λh=>absurd (gA e).1 (bD (hqg i h).1)) (F.aft.gens i v e)
  bare:=λi v e=>(x.sx.bare i v e).elim (λe=>F.aft.bare i v e) .inr
  os:=x.sx.os.trans F.aft.os
  le:=F.aft.le.trans x.le
  sub:=x.sub
  new:=λb o e=>(x.new b o e).elim (λe=>F.aft.new b o e) λh=>.inr (ab F.aft.size h)
  codes:=λc=>x.codes (F.aft.codes c)}
 refine ⟨⟨F.ss₀,aft,F.newL,l _ F.notL F.ltL,?_,?_,F.apart,⟨λp f=>?_,λp f=>?_⟩,F.newC⟩,⟨λp f h=>?_,λp f h=>?_⟩⟩
 ·obtain ⟨m,hn,hv⟩:=F.vars;refine i12 m (hn.at' λo e=>x.sx.keep _ o (λh=>(hq _ h).2.2.1 rfl) e F.tabL) ?_;intros y b;intro hb;obtain ⟨v,hh,hbo⟩:=hv y b hb;refine i12 v ?_ ?_
  ·rcases hh with hh | ⟨hk,c,B,hcv⟩;·exact .inl hh
   ·exact .inr ⟨hk,c,B,r hcv (cq _ _ B)⟩
  ·refine hbo.move x.le λb o A e=>?_;have haq:b∉addrs q:=λh=>by
    refine e11 (gI h) λo' ho'=>?_;exact A.2.2.2.2 _ (bG _ ho') rfl
   refine i06 (x.sx.keep b o haq e A.2.1.2) (l b A.1 (aH e)) A.2.1 A.2.2.1 A.2.2.2.1 (λp f=>?_);rcases mA f with f | f
   ·rcases hg.1 p.1 (aX f) with h | h;·exact λz=>haq (z▸h)
    ·exact λz=>absurd (aH e) (bD (z▸h))
   ·exact A.2.2.2.2 p (aW _ f)
 ·intro n c B;refine e03 (F.cells n c B) λz0 C h3=>?_;refine e11 z0 λv hv=>?_;clear z0;exact i03 ⟨v,r hv (cq n c B)⟩ (l c C hv.lt) h3
 ·rcases mA f with f | f
  ·refine e02 (hl.objs p f) λD C=>?_;rcases hg.1 p.1 (aX f) with h | h
   ·refine e04 (hq _ h) λa b c d=>?_;exact i05 D C a c d
   ·exact i05 D C (Jj.of F.ss₀.big (ab F.aft.size h)) (λe=>absurd F.ltL (bD (e▸h))) (λn c B e=>by
     refine e02 (F.cells n c B) λz1 z2=>?_;refine e11 z1 λv hv=>?_;clear z1;exact absurd hv.lt (bD (e▸h)))
  ·refine e05 (F.prot.objs p (aW _ f)) λD C h3 h4 h5=>?_;exact i05 (x.sx.keep _ _ (ha.objs p f) D h3.2) (l _ C (aH D)) h3 h4 h5
 ·rcases mA f with f | f
  ·refine ⟨hl.gens p f,?_⟩;rcases hg.2 p.1 (aX f) with h | h;·exact (hqg _ h).1
   ·exact ab F.aft.toStp.gsize h
  ·refine e02 (F.prot.gens p (aW _ f)) λD C=>?_;exact ⟨x.sx.gens _ _ (ha.gens p f) D,C⟩
 ·rcases hg.1 _ h with h' | h';·exact ha.objs p f h'
  ·exact absurd (aH (F.prot.objs p (aW _ f)).1) (bD h')
 ·rcases hg.2 _ h with h' | h';·exact ha.gens p f h'
  ·exact absurd (gA (F.prot.gens p (aW _ f)).1).1 (bD h')
theorem FS.prs {d:Pr} (F:FS w st s₀ g₀ env g pr ρ s) (h1:∀ p∈d.objs,p∈pr.objs) (h2:∀ p∈d.gens,p∈pr.gens):FS w st s₀ g₀ env g d ρ s:=
 ⟨F.ss₀,F.aft,F.newL,F.notL,by obtain ⟨m,a,b⟩:=F.vars;exact i12 m a (λx c e=>by
  refine e12 (b x c e) λv j i=>?_;refine i12 v j ?_;exact i.move (eN.refl _) λb o h e=>(i06 e h.1 h.2.1 h.2.2.1 h.2.2.2.1 (λp f=>h.2.2.2.2 p (h1 p f)))),
  F.cells,F.apart,⟨λp f=>F.prot.objs p (h1 p f),λp f=>F.prot.gens p (h2 p f)⟩,F.newC⟩
theorem FS.swap {a b:Pr} (F:FS w st s₀ g₀ env g (dg a (dg b pr)) ρ s):FS w st s₀ g₀ env g (dg b (dg a pr)) ρ s:=
 F.prs (λp c=>by simp only [dg,iI] at c ⊢;rcases c with h | h | h <;>simp [h]) (λp c=>by simp only [dg,iI] at c ⊢;rcases c with h | h | h <;>simp [h])
theorem FS.drop (F:FS w st s₀ g₀ env g (dg q pr) ρ s):FS w st s₀ g₀ env g pr ρ s:=
 ⟨F.ss₀,F.aft,F.newL,F.notL,by obtain ⟨m,a,b⟩:=F.vars;exact i12 m a (λx c e=>by
  refine e12 (b x c e) λv i h=>?_;refine i12 v i ?_;exact h.move (eN.refl _) λb o f e=>(i06 e f.1 f.2.1 f.2.2.1 f.2.2.2.1 (λp d=>f.2.2.2.2 p (aW _ d)))),
  F.cells,F.apart,⟨λp d=>F.prot.objs p (aW _ d),λp d=>F.prot.gens p (aW _ d)⟩,F.newC⟩
theorem FS.iterEnd (F:FS w st s₀ g₀ env g (dg q pr) ρ s) (a:eg q pr) (x:nU q s g s' g'):FS w st s₀ g₀ env g' pr ρ s':=
 (F.iter (q':={}) a x ⟨λ_ h=>(nm h),λ_ h=>(nm h)⟩ ⟨λ_ h=>(nm h),λ_ h=>(nm h)⟩).1
theorem FS.add (F:FS w st s₀ g₀ env g pr ρ s) (x:iB s g s' g') (b:kL g' s' q) (d:∀ a∈addrs q,s.heap.objs.size<=a) (c:∀ k∈l3 q,s.gens.size<=k):FS w st s₀ g₀ env g' (dg q pr) ρ s'/\eg q pr:=by
 exact F.iter (q:={}) ⟨λ_ _ h=>(nm h),λ_ _ h=>(nm h)⟩ (⟨SX.of x.toStp,x.le,x.sub,x.new,x.codes⟩) b ⟨λa h=>.inr (d a h),λk h=>.inr (c k h)⟩
end
theorem jf.mono {w:ar} {r:Nat} {fin:Bool} {it:ae} {xs:List ag} {g g':aA} {q:Pr} (h:jf w r fin it xs g q) (k:eN g g'):jf w r fin it xs g' q:=by
 revert w r fin it xs g g' q;intros w r fin it xs g g' q;intro h k;cases xs with
 | nil=>exact ⟨⟨h.1.1,λb A s a=>h.1.2 b A s (k.trans a)⟩,λe b A s a=>h.2 e b A s (k.trans a)⟩
 | cons x xs=>exact ⟨⟨h.1.1,λb A s a=>h.1.2 b A s (k.trans a)⟩,λb A s a=>h.2 b A s (k.trans a)⟩
noncomputable def uI (w:ar) (sc:bf) (r:Nat) (t:be) (d:ag) (ρ ρ':dh) (st:Bool:=true):Prop:=
 ∀ A env s₀ g₀ g pr s v,cB sc env->Rm r A->FS w st s₀ g₀ env g pr ρ s->V g v d->∀ (Q:Unit->af->Prop) (E:ae->af->Prop),(∀ g' s',eN g g'->FS w st s₀ g₀ env g' pr ρ' s'->Q () s')->aV (MM w) A (fu t env v) Q E s
theorem uI.name {w:ar} {sc:bf} {r:Nat} {x:aE} {p:cU} {d:ag} {ρ:dh} {st:Bool} (hx:sc.names.lookup x=some .local\/(sc.names.lookup x=some .cell/\st=true)):uI w sc r (.Name x p) d ρ ((x,.d d)::ρ) st:=λA i a c g k s v h l F f Q E q=>by
 exact aa (ct (lG (F.store h hx (b:=.d d) f λe j=>q g e (eN.refl g) j)))
noncomputable def Lp (w:ar) (sc:bf) (r:Nat) (t:be) (body:List cD) (fin:Bool):List ag->dh->m6->Prop
 | [],ρ,o=>fin=true/\o=.next ρ
 | x::xs,ρ,o=>∃ ρ₁,uI w sc r t x ρ ρ₁/\((∃ ρ₂ ρ₃,(Ex w sc r ρ₁ body (.next ρ₂)\/Ex w sc r ρ₁ body (.cont ρ₂))/\r8 ρ₃ ρ₂/\Lp w sc r t body fin xs ρ₃ o)\/(∃ P,Ex w sc r ρ₁ body (.ret P)/\o=.ret P)\/∃ ρ₂,Ex w sc r ρ₁ body (.brk ρ₂)/\o=.next ρ₂)
theorem p7 {M:lM} {A:bj} {t:be} {it v:ae} {g:aA} {s:af} {q:Pr} {Q:Unit->af->Prop} {E:ae->af->Prop} (h:Jm it q) (l:kL g s q) (k:Q () s):aV M A (fM t it v) Q E s:=by
 refine e34 h λa o n c d f e=>?_;clear h;obtain rfl:=c;refine e02 (l.objs _ d) λi m=>?_;have b:(["enumerate","zip","dict_itemiterator","dict_reverseitemiterator","odict_iterator","itertools.zip_longest","itertools.pairwise"]:List String).contains n=false:=e;cases t <;>first
  | exact ah k
  | (cases v <;>first
    | exact ah k
    | (refine aa (oI i ?_);generalize o.data=j;rw [f];cases j <;>first
       | exact ah k
       | (dsimp only;rw [b];exact ah k)))
noncomputable abbrev Mf (w:ar) (sc:bf) (r:Nat) (t:be) (body:List cD) (fin:Bool) (o:m6) (it:ae) (g:aA) (s₀:af) (g₀:aA) (env:fg) (pr:Pr) (n:Nat) (s':af):Prop:=
 ∃ g' ρ' ys q',n=ys.length/\eN g g'/\FS w true s₀ g₀ env g' (dg q' pr) ρ' s'/\eg q' pr/\jf w r fin it ys g' q'/\Lp w sc r t body fin ys ρ' o
theorem gc {w:ar} {sc:bf} {r:Nat} {t e:be} {body:List cD} {pos:cU} {fin:Bool} {xs:List ag} {ρ:dh} {o:m6} (hi:Ee w sc r ρ e fin xs) (hl:Lp w sc r t body fin xs ρ o) (hs:autoParam (∀ d x,cN e d x=pure x) am._auto_9):lF w sc r ρ (.For t e body [] pos) o:=by
 revert w sc r t e body pos fin xs ρ o;intros w sc r t e body pos fin xs ρ o;intro hi hl hs;intro A d b c g W s K C F Q E k;refine wpAny_For (hi A d true b c g W s K C F _ _ λit g1 q s1 x1 a0 a4 a1 a2=>?_) (hs d);refine e02 (F.add x1 a0 a4 a1) λF1 a7=>?_;refine Kk (Mf w sc r t body fin o it g b c d W) ?_ xs.length ⟨g1,ρ,xs,q,rfl,x1.le,F1,a7,a2,hl⟩;intro n;intro s';intro z0;refine e46 z0 λg' a8 M q' z1 R L U S p=>?_;clear z0;obtain rfl:=z1;cases M with
 | nil=>refine e02 p λhf z2=>?_;clear p;obtain rfl:=z2;refine S.2 hf g' A s' (eN.refl _) C L.ss L.live _ _ λZ g2 N=>?_;exact nF (k _ g2 Z (R.trans N.le) ⟨rfl,L.iterEnd U N⟩)
 | cons y M=>
  refine e12 p λY a3 I=>?_;clear p;refine S.2 g' A s' (eN.refl _) C L.ss L.live _ _ λv g2 q2 Z N l2 a5 hv i2=>?_;refine e02 (L.iter U N l2 a5.two) λF2 a6=>?_;refine p7 i2.ok l2 ?_;refine a3 A d b c g2 _ Z v K C F2 hv _ _ λT V B X=>?_;have f:=R.trans (N.le.trans B);rcases I with ⟨i,G,z,O,H⟩ | ⟨P,z,rfl⟩ | ⟨i,z,rfl⟩
  ·have D:∀ h s4,eN T h->FS w true b c d h (dg q2 W) i s4->∃ m,m<(y::M).length/\Mf w sc r t body fin o it g b c d W m s4:=
    λh s4 a J=>⟨M.length,bU _,h,G,M,q2,rfl,f.trans a,J.weaken O,a6,i2.mono (B.trans a),H⟩
   rcases z with z | z
   ·refine z A d b c T _ V K C X _ _ λfl h s4 a l=>?_;refine e02 l λz3 J=>?_;clear l;obtain rfl:=z3;exact D h s4 a J
   ·refine z A d b c T _ V K C X _ _ λfl h s4 a l=>?_;refine e02 l λz4 J=>?_;clear l;obtain rfl:=z4;exact D h s4 a J
  ·refine z A d b c T _ V K C X _ _ λfl h s4 a l=>?_;refine e13 l λu z5 y4 hp=>?_;clear l;obtain rfl:=z5;exact k _ h s4 (f.trans a) (i13 u rfl y4 hp)
  ·refine z A d b c T _ V K C X _ _ λfl h s4 a l=>?_;refine e02 l λz6 J=>?_;clear l;obtain rfl:=z6;exact k _ h s4 (f.trans a) ⟨rfl,J.drop⟩
noncomputable def Wh (w:ar) (sc:bf) (r:Nat) (t:be) (body:List cD):Nat->dh->m6->Prop
 | 0,_,_=>False
 | n+1,ρ,o=>(Tr w sc r ρ t false/\o=.next ρ)\/(Tr w sc r ρ t true/\((∃ ρ₂ ρ₃,(Ex w sc r ρ body (.next ρ₂)\/Ex w sc r ρ body (.cont ρ₂))/\r8 ρ₃ ρ₂/\Wh w sc r t body n ρ₃ o)\/(∃ P,Ex w sc r ρ body (.ret P)/\o=.ret P)\/∃ ρ₂,Ex w sc r ρ body (.brk ρ₂)/\o=.next ρ₂))
noncomputable abbrev O7 (w:ar) (sc:bf) (r:Nat) (t:be) (body:List cD) (o:m6) (g:aA) (s₀:af) (g₀:aA) (env:fg) (pr:Pr) (n:Nat) (s':af):Prop:=
 ∃ g' ρ',eN g g'/\FS w true s₀ g₀ env g' pr ρ' s'/\Wh w sc r t body n ρ' o
theorem xY {w:ar} {sc:bf} {r:Nat} {t:be} {body:List cD} {pos:cU} {n:Nat} {ρ:dh} {o:m6} (h:Wh w sc r t body n ρ o):lF w sc r ρ (.While t body [] pos) o:=by
 revert w sc r t body pos n ρ o;intros w sc r t body pos n ρ o;intro h;intro A d a c g K s y z F Q E k;refine wpAny_While ?_;refine codeAny_whileLoop (O7 w sc r t body o g a c d K) ?_ n (i23 g ρ (eN.refl g) F h);intro n;intro O;intro N;refine e23 N λS T G J R=>?_;clear N;cases n with
 | zero=>exact R.elim
 | succ n=>
  rcases R with ⟨L,rfl⟩ | ⟨L,l⟩
  ·refine L A d true a c S K O y z J _ _ λB x C=>?_;exact nF (k _ B x (G.trans C.le) ⟨rfl,J.step C⟩)
  ·refine L A d true a c S K O y z J _ _ λB x C=>?_;rw [if_pos rfl];obtain I:=J.step C;obtain e:=G.trans C.le;rcases l with ⟨p,f,l,m,j⟩ | ⟨P,l,rfl⟩ | ⟨p,l,rfl⟩
   ·rcases l with l | l
    ·refine l A d a c B _ x y z I _ _ λM v D b i=>?_;refine e02 i λX H=>?_;clear i;obtain rfl:=X;exact ⟨n,bU _,v,f,e.trans b,H.weaken m,j⟩
    ·refine l A d a c B _ x y z I _ _ λM v D b i=>?_;refine e02 i λW H=>?_;clear i;obtain rfl:=W;exact ⟨n,bU _,v,f,e.trans b,H.weaken m,j⟩
   ·refine l A d a c B _ x y z I _ _ λM v D b i=>?_;refine e13 i λu V Y Z=>?_;clear i;obtain rfl:=V;exact k _ v D (e.trans b) (i13 u rfl Y Z)
   ·refine l A d a c B _ x y z I _ _ λM v D b i=>?_;refine e02 i λU H=>?_;clear i;obtain rfl:=U;exact k _ v D (e.trans b) ⟨rfl,H⟩
noncomputable def clo (env:fg):List (aE × jh)->List (aE × ay)->List (aE × ay)
 | [],acc=>acc
 | (n,k)::r,acc=>if k==.free then clo env r ((n,(env.cells.lookup n).getD 0)::acc) else clo env r acc
theorem D0 (env:fg) (n:aE) (k:jh) (r:List (aE × jh)) (acc:List (aE × ay)):clo env ((n,k)::r) acc=if k==.free then clo env r ((n,(env.cells.lookup n).getD 0)::acc) else clo env r acc:=rfl
theorem mL {scope:bf} {env:fg} (h:∀ n,(n,dR)∈scope.names->∃ c,env.cells.lookup n=some c):closureFor scope env=pure (clo env scope.names []):=by
 revert scope env;intros scope env;intro h;obtain f:∀ (a:List (aE × jh)) (e:List (aE × ay)),(∀ n,(n,dR)∈a->∃ c,env.cells.lookup n=some c)->
   (forIn a e λx r=>match x with
    | (b,d)=>if (d==dR)=true then (do let c <- Oh env b;pure (dG ((b,c)::r))) else pure (dG r):il (List (aE × ay)))=pure (clo env a e):=by
  intro a
  induction a with
  | nil=>intro e _;rfl
  | cons x r l=>
   intro e g;obtain ⟨n,k⟩:=x;rw [wm];rw [D0];by_cases o:(k==dR)=true
   ·obtain j:k=.free:=by simpa using o
    subst j;refine e11 (g n (.head _)) λc p=>?_;simp only [(show Oh env n=pure c from by delta Oh;rw [p]),p];exact l _ λm i=>g m (.tail _ i)
   ·simp only [o];exact l _ λm i=>g m (.tail _ i)
 refine (?_:(forIn scope.names [] (λx r=>match x with
    | (b,d)=>if (d==dR)=true then (do let c <- Oh env b;pure (dG ((b,c)::r))) else pure (dG r))>>=λq=>pure q:il (List (aE × ay)))=_)
 rw [(f scope.names [] h)];rfl
theorem ou {env:fg} {x:aE} {c:ay}:∀ {a:List (aE × jh)} {b:List (aE × ay)},(∀ n,(n,dR)∈a->∃ c,env.cells.lookup n=some c)->(clo env a b).lookup x=some c->b.lookup x=some c\/env.cells.lookup x=some c
 | [],_,_,h=>.inl h
 | (n,k)::r,b,e,h=>by
  rw [D0] at h;by_cases i:(k==dR)=true
  ·replace h:=(if_pos i)▸h;obtain g:k=.free:=by simpa using i
   subst g;rcases ou (λm f=>e m (.tail _ f)) h with h | h
   ·rw [aK] at h;by_cases j:x=n
    ·subst j;refine e11 (e x (.head _)) λo d=>?_;rw [beq_self_eq_true x,d] at h;refine iM h λl=>?_;clear h;subst l;exact .inr d
    ·replace h:=(show (x==n)=false from beq_false_of_ne j)▸h;exact .inl h
   ·exact .inr h
  ·replace h:=(if_neg i)▸h;exact ou (λm f=>e m (.tail _ f)) h
theorem pH {env:fg} {x:aE}:∀ {names:List (aE × jh)} {acc:List (aE × ay)},((x,dR)∈names\/(acc.lookup x).isSome=true)->((clo env names acc).lookup x).isSome=true
 | [],_,h=>h.elim (λh=>nm h) id
 | (n,k)::r,acc,h=>by
  rw [D0];by_cases hk:(k==dR)=true
  ·rw [if_pos hk];refine pH ?_;by_cases hx:x=n
   ·subst hx;exact .inr (by rw [aK,beq_self_eq_true x];rfl)
   ·rcases h with h | h
    ·cases h with
     | head=>exact absurd rfl hx
     | tail _ h=>exact .inl h
    ·exact .inr (by rw [aK,show (x==n)=false from beq_false_of_ne hx];exact h)
  ·rw [if_neg hk];refine pH ?_;rcases h with h | h
   ·cases h with
    | head=>exact absurd rfl hk
    | tail _ h=>exact .inl h
   ·exact .inr h
noncomputable def oi (sc:bf) (p:aE × jh):aE × jh:=if (p.2==.free && sc.names.lookup p.1==some .cell) then (p.1,.cell) else p
noncomputable def dT (scope sc:bf):bf:={scope with names:=scope.names.map (oi sc)}
theorem BN {scope sc:bf} {env:fg} (a:cB sc env):relabel scope env=dT scope sc:=by
 delta relabel dT;congr 1;refine dS λx _=>?_;obtain ⟨n,k⟩:=x;have:env.kindOf n=sc.names.lookup n:=by refine (?_:env.scope.names.lookup n=_);rw [a.scp]
 delta oi;simp only [a.scp,a.kind,this,beq_self_eq_true,Bool.and_true]
noncomputable def gP (D:ay) (ys:List ae) (n:Nat):Pr:=⟨[(D,ao ys.toArray n)],[]⟩
noncomputable def dK:Nat:=1000000
noncomputable def v7 (w:ar) (r:Nat) (cenv:fg) (D:ay) (t:il Fin) (c:qr) (ρ:dh) (out:List ag):Prop:=
 ∀ A s₀ g₀ g pr s ys n es,Rm r A->FS w false s₀ g₀ cenv g (dg (gP D ys n) pr) ρ s->eg (gP D ys n) pr->VA g ys es->es.length+out.length<=dK->
  ∀ (Q:af->Prop) (E:ae->af->Prop),(∀ g' s' ys' n',eN g g'->FS w false s₀ g₀ cenv g' (dg (gP D ys' n') pr) ρ s'->eg (gP D ys' n') pr->VA g' ys' (es++out)->Q s')->aV (MM w) A t (λfin s'=>fin=.again c/\Q s') E s
section
variable {w:ar} {r:Nat} {sc:bf} {cenv:fg} {D:ay} {ρ:dh}
theorem gW (ys:List ae) (x:ae) (n:Nat):(ao ys.toArray n).mapSeq (·.push x)=ao (ys++[x]).toArray (n+1):=by
 delta bu ao;simp
theorem pA {n:Nat} (h:n<dK):n<=kt:=by
 have:dK<=kt:=by decide
 exact fa2 h this
theorem Cp {A:bj} {s₀:af} {g₀ g:aA} {pr:Pr} {s:af} {ys:List ae} {n:Nat} {es:List ag} {st:Bool} {env:fg} {x:ae} {d:ag} {Q:ae->af->Prop} {E:ae->af->Prop} (F:FS w st s₀ g₀ env g (dg (gP D ys n) pr) ρ s) (ap:eg (gP D ys n) pr) (c:VA g ys es) (hx:V g x d) (hz:es.length<dK) (k:∀ i,FS w st s₀ g₀ env g (dg (gP D (ys++[x]) (n+1)) pr) ρ i->eg (gP D (ys++[x]) (n+1)) pr->VA g (ys++[x]) (es++[d])->Q .none i):aV (MM w) A (call (.builtin "list.append") [.ref D,x]) Q E s:=by
 refine e04 (F.prot.objs (D,ao ys.toArray n) (.head _)) λe b t v=>?_;obtain o:s.heap.IsList D ys.toArray:=⟨_,e,rfl,n,rfl⟩;refine ck dU o.typeIs jw ?_ (jV _ _);refine (?_:aV _ _ (nY D (·.push x)>>=λ_=>ret .none) _ _ s);refine aa ?_;refine eX e rfl (ah (i12 .none rfl ?_)) (by rw [bk,c.length];exact pA hz) (by have:=pA hz;have b:=c.length;simp;exact fa2 this (aj b));obtain m:(s.heap.update D (bu (·.push x))).get? D=some (ao (ys++[x]).toArray (n+1)):=by
  rw [bn _ e rfl,gW]
 obtain y:nU (gP D ys n) s g {s with heap:=s.heap.update D (bu (·.push x))} g:=nU.one F.ss b t.2 (aU ..);obtain l:kL g {s with heap:=s.heap.update D (bu (·.push x))} (gP D (ys++[x]) (n+1)):=⟨λp j=>(m1 j ⟨m,b⟩),λ_ h=>(nm h)⟩;refine e02 (F.iter (q':=gP D (ys++[x]) (n+1)) ap y l ⟨λa q=>.inl q,λ_ h=>(nm h)⟩) λu f=>?_;exact k _ u f (c.append (.cons hx (VA.nil g)))
noncomputable abbrev Mi (w:ar) (r:Nat) (it:ae) (g:aA) (s₀:af) (g₀:aA) (cenv:fg) (D:ay) (pr:Pr) (ρ:dh) (outs:ag->List ag) (es:List ag) (xs:List ag) (m:Nat) (s':af):Prop:=
 ∃ g' ys' n' es' xs' q',m=xs'.length/\eN g g'/\jf w r true it xs' g' q'/\FS w false s₀ g₀ cenv g' (dg (gP D ys' n') (dg q' pr)) ρ s'/\eg (gP D ys' n') (dg q' pr)/\eg q' pr/\VA g' ys' es'/\es'++xs'.flatMap outs=es++xs.flatMap outs/\(∀ x∈xs',x∈xs)
end
section
variable {w:ar} {r:Nat} {sc:bf} {cenv:fg} {D:ay} {ρ:dh}
theorem xK {elt t:be} {gens:List uO} {scope:bf} {pos:cU} {d:Nat} {it:ae} {p0:cU} {body:il Fin} {A:bj} {s₀:af} {g₀ g:aA} {pr q:Pr} {s:af} {ys:List ae} {n:Nat} {es:List ag} {xs:List ag} {ρ₁:ag->dh} {outs:ag->List ag} {R:eB->af->Prop} (a:C3 (.ListComp elt gens scope pos) d it (.ref D) cenv=(gQ p0>>=λ_=>ki it>>=λr=>match r with
   | none=>pure (.done .next)
   | some v=>fM t it v>>=λ_=>fu t cenv v>>=λ_=>body)) (h:cB sc cenv) (hA:Rm r A) (hi:jf w r true it xs g q) (F:FS w false s₀ g₀ cenv g (dg (gP D ys n) (dg q pr)) ρ s) (e:eg (gP D ys n) (dg q pr)) (c:eg q pr) (f:VA g ys es) (hz:es.length+(xs.flatMap outs).length<=dK) (hb:∀ x∈xs,uI w sc r t x ρ (ρ₁ x) false/\r8 ρ (ρ₁ x)/\v7 w r cenv D body (.compLoop (.ListComp elt gens scope pos) d it (.ref D) cenv) (ρ₁ x) (outs x)) (k:∀ i j b l,eN g i->FS w false s₀ g₀ cenv i (dg (gP D b l) pr) ρ j->eg (gP D b l) pr->VA i b (es++xs.flatMap outs)->R (.ok .next) j):
  gn (MM w) A (.compLoop (.ListComp elt gens scope pos) d it (.ref D) cenv) R s:=by
 revert a h hA hi F e c f hz hb k
 revert w r sc cenv D ρ elt t gens scope pos d it p0 body A s₀ g₀ g pr q s ys n es xs ρ₁ outs R
 intros w r sc cenv D ρ elt t gens scope pos d;intros it p0 body A s₀ g₀ g pr q s ys n;intros es xs ρ₁ outs R;intro H he hA hi F a4 a3 hv hz hb k
 refine Pj (M:=MM w) (c:=.compLoop (.ListComp elt gens scope pos) d it (.ref D) cenv) rfl (Mi w r it g s₀ g₀ cenv D pr ρ outs es xs)
  ?_ xs.length ⟨g,ys,n,es,xs,q,rfl,eN.refl g,hi,F,a4,a3,hv,rfl,λ_ h=>h⟩
 intro m
 intro O
 intro z0
 obtain ⟨N,b,u,K,e,q',rfl,Q,S,F',i,E,P,l,z⟩:=z0
 refine PD ?_
 rw [H]
 refine aa (ct (aa ?_))
 have U:=F'.swap
 have C:eg q' (dg (gP D b u) pr):=⟨λp a h=>by
  rcases mA a with a | a
  ·refine e11 (gI h) λo ho=>?_;have:=i.objs (p.1,o) (bG _ ho);exact this (aX (f:=(·.1)) a)
  ·exact E.objs p a h,λp a h=>by
  rcases mA a with a | a;·cases a
  ·exact E.gens p a h⟩
 cases e with
 | nil=>refine S.2 rfl N A O (eN.refl _) hA F'.ss U.live _ _ λW g2 G=>?_;have F2:=U.iterEnd C G;refine ah (k g2 W b u (Q.trans G.le) F2 ⟨λp a=>i.objs p (aW _ a),λp a=>i.gens p (aW _ a)⟩ ?_);simp only [lz,bp] at l;exact l▸P.mono G.le
 | cons x e=>
  refine S.2 N A O (eN.refl _) hA F'.ss U.live _ _ λv g2 X W G l2 a2 Y i2=>?_;refine e02 (U.iter C G l2 a2.two) λF2 L=>?_;refine aa (p7 i2.ok l2 (aa ?_));refine e03 (hb x (z x (.head _))) λa1 I J=>?_;refine a1 A cenv s₀ g₀ g2 _ W v he hA F2 Y _ _ λg3 s3 j F3=>?_;have T:eg (gP D b u) (dg X pr):=⟨λp a h=>by
   rcases mA a with a | a
   ·have hD:p.1=D:=by simpa [addrs,gP] using h
    exact L.objs (D,ao b.toArray u) (.head _) (hD▸aX (f:=(·.1)) a)
   ·exact i.objs p (aW _ a) h,λp _ h=>by cases h⟩
  have a6:K.length+((x::e).flatMap outs).length=es.length+(xs.flatMap outs).length:=by
   have:=congrArg lW l;simpa using this
  have a0:((x::e).flatMap outs).length=(outs x).length+(e.flatMap outs).length:=by simp
  refine cr (J A s₀ g₀ g3 (dg X pr) s3 b u K hA F3.swap T (P.mono (G.le.trans j)) (by lia) (λs4=>∃ m,m<(x::e).length/\_) _ λg4 s4 V n4 B F4 a5 Z=>?_) (λa7 s4 h4=>by obtain ⟨rfl,h4⟩:=h4;exact ⟨rfl,h4⟩) λ_ _ h=>h;refine ⟨e.length,bU _,g4,V,n4,K++outs x,e,X,rfl,Q.trans (G.le.trans (j.trans B)),i2.mono (j.trans B),F4.weaken I,a5,(⟨λp a=>L.objs p (aW _ a),λp a=>L.gens p (aW _ a)⟩),Z,?_,λy hy=>z y (.tail _ hy)⟩;simpa using l
end
theorem iB.freeze {w:ar} {g g':aA} {s s':af} (S:SS w g s) (x:iB s g s' g') {D:ay} {o:ff} (m:s'.heap.get? D=some o) (hs:s.heap.objs.size<=D):∃ a,iB s g s' a/\eN g' a/\a.get? D=some o/\∀ b,b≠D->g'.get? b=none->a.get? b=none:=by
 obtain e:=fo _ _;have d:eN g' (mz s'.heap λb=>(g'.get? b).isSome || b==D):=λb f h=>by rw [e,h];exact x.sub b f h
 refine i14 _ ⟨x.toStp,x.le.trans d,λb f h=>?_,λb f h=>?_,λc=>(x.codes c).mono d⟩ d ?_ (λb l k=>?_)
 ·rw [e] at h;split at h;·exact h
  ·exact lE h
 ·rw [e] at h;split at h
  ·rename_i q;cases i:g'.get? b with
   | some j=>exact x.new b f (by rw [i,<- x.sub b j i];exact h)
   | none=>
    replace q:=i▸q;have:b=D:=by simpa using q
    exact .inr (this▸hs)
  ·exact lE h
 ·rw [e];simpa using m
 ·rw [e,k,show (b==D)=false from beq_false_of_ne l];rfl
theorem iB.turn {w:ar} {g g':aA} {s s':af} {h':aA} {C:ay} {t:Nat} (S:SS w g s) (x:iB s g s' g') (a:s.heap.objs.size<=C) (d:g'.get? C=none) (hs:bR C s'.heap h'):iB s g {s' with heap:=h',toks:=t} g':=
 ⟨x.toStp.change S.big a hs,x.le,λb o e=>(hs.2 b λz=>by rw [z,d] at e;exact lE e).trans (x.sub b o e),x.new,λc=>(x.codes c).sameBut hs (eD (ab S.big a))⟩
noncomputable def nx (scope sc:bf):Bool:=scope.names.all λx=>x.2 !=.cell && (x.2 !=.free || (sc.names.lookup x.1==some .cell || sc.names.lookup x.1==some .free)) && (x.2 !=.local || scope.names.lookup x.1==some .local)
theorem qR {sc:bf} {x:aE}:∀ {c:List (aE × jh)},(∀ y∈c,y.2≠.cell)->((c.map (oi sc)).lookup x=some .cell\/(c.map (oi sc)).lookup x=some .free)->(x,dR)∈c
 | [],_,h=>by rcases h with h | h <;>cases h
 | (n,k)::r,g,h=>by
  replace h:=bV▸h;by_cases f:x=n
  ·subst f;by_cases d:k=.free;·subst d;exact .head _
   ·exfalso;obtain e:oi sc (x,k)=(x,k):=by delta oi;rw [show ((x,k).2==dR)=false from beq_false_of_ne d];rfl
    rw [e,aK,beq_self_eq_true] at h;rcases h with h | h;·exact g _ (.head _) (gR h)
    ·exact d (gR h)
  ·refine .tail _ (qR (sc:=sc) (λy i=>g y (.tail _ i)) ?_);obtain e:(oi sc (n,k)).1=n:=by delta oi;split <;>rfl
   generalize oi sc (n,k)=p at e h;obtain ⟨a,b⟩:=p;cases e;rw [aK,show (x==a)=false from beq_false_of_ne f] at h;exact h
noncomputable def H9 (scope sc:bf) (ρ ρc:dh):Prop:=∀ x b,ρc.lookup x=some b->ρ.lookup x=some b/\((dT scope sc).names.lookup x=some .cell\/(dT scope sc).names.lookup x=some .free)/\(sc.names.lookup x=some .cell\/sc.names.lookup x=some .free)/\Au b=true
theorem H9.nil {scope sc:bf} {ρ:dh}:H9 scope sc ρ []:=λ_ _ h=>by cases h
theorem H9.cons {scope sc:bf} {ρ ρc:dh} {x:aE} {b:B} (h1:ρ.lookup x=some b) (h2:((dT scope sc).names.lookup x==some .cell || (dT scope sc).names.lookup x==some .free)=true) (h3:(sc.names.lookup x==some .cell || sc.names.lookup x==some .free)=true) (h4:Au b=true) (k:H9 scope sc ρ ρc):H9 scope sc ρ ((x,b)::ρc):=by
 intro y c e;rw [aK] at e;by_cases q:y=x
 ·subst q;replace e:=(beq_self_eq_true y)▸e;refine iM e λa=>?_;clear e;subst a;exact i04 h1 (by simpa using h2) (by simpa using h3) h4
 ·replace e:=(show (y==x)=false from beq_false_of_ne q)▸e;exact k y c e
theorem tH {w:ar} {sc:bf} {r:Nat} {ρ ρc:dh} {e t1 i1:be} {ifs1:List be} {gens:List uO} {scope:bf} {pos:cU} {xs:List ag} {o0:ff} {t:il ae} (hcl:clausesOf e=⟨t1,i1,ifs1,0⟩::gens) (hf0:o0.isFreed=false) (hnew:∀ (A:bj) (s:af) (Q:ae->af->Prop) (E:ae->af->Prop),Q (.ref s.heap.objs.size) {s with heap:=s.heap.push o0}->aV (MM w) A t Q E s) (K:∀ (A:bj) (z N:ae) (j:fg) (R:eB->af->Prop) (s:af),gn (MM w) A (.compLoop e 0 z N j) R s->aV (MM w) A (kO z) (λit' P=>gn (MM w) A (.compLoop e 0 it' N j) R P) (notedBy (MM w) A j λx P=>R (.error x) P) s->gn (MM w) A (.compStart e 0 z N j) R s) (hk:scope.kind=.function) (V:nx scope sc=true) (hcap:H9 scope sc ρ ρc) (hs:∀ env x,cN i1 env x=pure x) {A:bj} {env:fg} {st:Bool} {s₀:af} {g₀ g:aA} {pr:Pr} {s:af} (he:cB sc env) (hA:Rm r A) (F:FS w st s₀ g₀ env g pr ρ s) (hi:∀ (Q:ae->af->Prop) (E:ae->af->Prop),(∀ z g' q P,iB s g P g'->kL g' P q->(∀ a∈addrs q,s.heap.objs.size<=a)->(∀ k∈l3 q,s.gens.size<=k)->jf w r true z xs g' q->Q z P)->aV (MM w) A (eW i1 env) (λx s₁=>aV (MM w) A (kO x) Q E s₁) E s) {use:Option (ae->il Unit)} {Q:ae->af->Prop} {E:ae->af->Prop} (kk:∀ z q g1 s1' D C j,cB (dT scope sc) j->s.heap.objs.size<=D->D≠C->j.locals=C->s.heap.objs.size<=C->FS w false s g j g1 (dg ⟨[(D,o0)],[]⟩ (dg q {})) ρc s1'->eg q {}->eg ⟨[(D,o0)],[]⟩ (dg q {})->jf w r true z xs g1 q-> gn (MM w) A (.compLoop e 0 z (.ref D) j) (JD (MM w) A E use Q (.ref D) C) s1'): aV (MM w) A (Fw e scope env (HW (⟨t1,i1,ifs1,0⟩::gens) pos) t false (eW i1 env) use) Q E s:=by
 have U:=λy hy=>by have:=(aT V) y hy;simp only [bN] at this;simpa using this.1.1
 have G:∀ n,(n,dR)∈scope.names->∃ c,env.cells.lookup n=some c:=λn hn=>by
  obtain this:=(aT V) _ hn;simp only [bN] at this;exact he.cin n (by simpa using this.1.2)
 obtain L:∀ x∈scope.names,x.2=.local->scope.names.lookup x.1=some .local:=λx hx hl=>by
  obtain this:=(aT V) _ hx;simp only [bN] at this;obtain this:=this.2;replace this:=hl▸this;simpa using this
 refine wpAny_comprehension_free (cl:=clo env scope.names []) hcl (hs env) (mL G) hk L ?_;refine hi _ _ λz g1 q l x1 u ha1 hk1 hi1=>?_;have S:=F.ss;have S1:=S.step x1;refine hnew _ _ _ _ (nf U (by intro y hy;cases hy) (λh' T B=>?_) hk);dsimp only at T B ⊢;rw [(λo=>cm ..)] at T B ⊢;have ok:cB (dT scope sc) (C4 scope (clo env scope.names []) (l.heap.objs.size+1) env):=⟨BN he,hk,he.glob,he.blt,λn hn=>by
  obtain this:=qR U hn;obtain ⟨c,J⟩:=dz.mp (pH (.inl this));exact ⟨c,J⟩⟩
 have f:∀ n c,(clo env scope.names []).lookup n=some c->env.cells.lookup n=some c:=λn c h=>(ou G h).elim (λh=>by cases h) id;obtain W:=Li l.heap.objs.size;have m:=λb o e=>B.extBut b o (bg (jd (aH e))) (au _ (au _ e));have F1:=F.step x1;have aft1:iB s g {l with heap:=h',toks:=l.toks+([]:List (aE × ae)).length} g1:=x1.trans (S1.same (Stp.heap m (Nat.le.intro (id (jl (show h'.objs.size=l.heap.objs.size+2 from by rw [show h'.objs.size=_ from B.1,cm,cm]))))));have z1:=x1.size;obtain ⟨mo,hno,hvo⟩:=F1.vars;have FI:FS w false s g (C4 scope (clo env scope.names []) (l.heap.objs.size+1) env) g1 (dg ⟨[(l.heap.objs.size,o0)],[]⟩ (dg q {})) ρc {l with heap:=h',toks:=l.toks+([]:List (aE × ae)).length}:=by
  refine ⟨S,aft1,Jj.of S.big (show s.heap.objs.size<=l.heap.objs.size+1 by exact Nat.le_add_right_of_le z1),S1.none (er _),(i12 _ T (λy b hy=>?_)),λn c J=>?_,λn n' c I M=>F.apart n n' c (f _ _ I) (f _ _ M),⟨λp d=>?_,λp d=>?_⟩,λh=>by cases h⟩
  ·refine e04 (hcap y b hy) λI M H h4=>?_;refine e12 (hvo y b I) λv hh hbo=>?_;refine i12 v (.inr ?_) ?_
   ·obtain hm:=qR U M;refine e11 (dz.mp (pH (env:=env) (acc:=[]) (.inl hm))) λc J=>?_;refine ⟨?_,c,J,?_⟩
    ·refine (?_:(C4 scope (clo env scope.names []) (l.heap.objs.size+1) env).scope.names.lookup y=_\/(C4 scope (clo env scope.names []) (l.heap.objs.size+1) env).scope.names.lookup y=_);rw [ok.scp];exact M
    ·rcases hh with ⟨hl,_⟩ | ⟨_,c',hc',hv'⟩
     ·exfalso;obtain e:env.kindOf y=sc.names.lookup y:=by refine (?_:env.scope.names.lookup y=_);rw [he.scp]
      replace hl:=e▸hl;replace H:=hl▸H;rcases H with H | H <;>(refine iM H λz0=>?_;clear H;cases z0)
     ·obtain this:=f _ _ J;replace this:=hc'▸this;refine iM this λz2=>?_;clear this;subst z2;exact IsCell.at hv' λo e=>m _ _ e
   ·exact hbo.fix h4 (eN.refl _)
  ·refine e03 (F1.cells n c (f _ _ J)) λz3 M H=>?_;refine e11 z3 λv I=>?_;clear z3;refine i03 ⟨v,IsCell.at I λo e=>m _ _ e⟩ M (λe=>?_);exact bg (jd I.lt) e
  ·rcases mA d with d | d
   ·cases d with
    | head=>exact i05 (B.extBut _ _ W (au _ (az _ hf0))) (S1.none (aq _)) (Jj.of S.big z1) W (λn c J e=>by
      refine e03 (F1.cells n c (f _ _ J)) λz4 M H=>?_;refine e11 z4 λv I=>?_;clear z4;exact bg I.lt e)
    | tail _ h=>cases h
   ·rcases mA d with d | d
    ·refine e02 (u.objs p d) λI M=>?_;have hge:=ha1 p.1 (aX d);refine i05 (m _ _ I) M (Jj.of S.big hge) (λe=>?_) (λn c J e=>?_);·exact bg (jd (aH I)) e
     ·refine e02 (F.cells n c (f _ _ J)) λz5 z6=>?_;refine e11 z5 λv H=>?_;clear z5;exact bg (aw H.lt hge) e
    ·cases d
  ·rcases mA d with d | d;·cases d
   ·rcases mA d with d | d;·exact ⟨u.gens p d,hk1 p.1 (aX d)⟩
    ·cases d
 have apD:eg ⟨[(l.heap.objs.size,o0)],[]⟩ (dg q {}):=⟨(λp d h=>by
  rcases mA d with d | d
  ·obtain hD':p.1=l.heap.objs.size:=by simpa [addrs] using h
   exact bg (aH (u.objs p d).1) hD'
  ·cases d),(λp _ h=>by cases h)⟩
 obtain O:gn (MM w) A (.compLoop e 0 z (.ref l.heap.objs.size) (C4 scope (clo env scope.names []) (l.heap.objs.size+1) env)) (JD (MM w) A E use Q (.ref l.heap.objs.size) (l.heap.objs.size+1)) {l with heap:=h',toks:=l.toks+([]:List (aE × ae)).length}:=
  kk z q g1 _ _ _ _ ok z1 W rfl (gC z1) FI (⟨λp d=>(nm d),λp d=>(nm d)⟩) apD hi1
 exact K _ _ _ _ _ _ O (hi1.self g1 A _ (eN.refl _) hA FI.ss ⟨λp d=>⟨m _ _ (u.objs p d).1,(u.objs p d).2⟩,u.gens⟩ _ _ O)
theorem vu {w:ar} {sc:bf} {r:Nat} {ρ ρc:dh} {elt t1 i1:be} {ifs1:List be} {gens:List uO} {scope:bf} {pos:cU} {xs:List ag} (hi:Ee w sc r ρ i1 true xs) (j:scope.kind=.function) (d:nx scope sc=true) (c:H9 scope sc ρ ρc) (hs:∀ env x,cN i1 env x=pure x) {A:bj} {env:fg} {st:Bool} {s₀:af} {g₀ g:aA} {pr:Pr} {s:af} (f:cB sc env) (hA:Rm r A) (F:FS w st s₀ g₀ env g pr ρ s) {use:Option (ae->il Unit)} {Q:ae->af->Prop} {E:ae->af->Prop} (kk:∀ e q i b D C a,cB (dT scope sc) a->s.heap.objs.size<=D->D≠C->a.locals=C->s.heap.objs.size<=C->FS w false s g a i (dg (gP D [] 0) (dg q {})) ρc b->eg q {}->eg (gP D [] 0) (dg q {})->jf w r true e xs i q-> gn (MM w) A (.compLoop (.ListComp elt (⟨t1,i1,ifs1,0⟩::gens) scope pos) 0 e (.ref D) a) (JD (MM w) A E use Q (.ref D) C) b): aV (MM w) A (Fw (.ListComp elt (⟨t1,i1,ifs1,0⟩::gens) scope pos) scope env (HW (⟨t1,i1,ifs1,0⟩::gens) pos) (newList []) false (eW i1 env) use) Q E s:=
 tH (o0:=ao ([]:List ae).toArray 0) rfl rfl (λ_ _ _ _ h=>eU h) (λ_ _ _ _ _ _ k h=>codeAny_compStart_list k h) j d c hs f hA F (hi A env st s₀ g₀ g pr s f hA F) kk
theorem vy {w:ar} {sc:bf} {r:Nat} {ρ ρc:dh} {elt t1 i1:be} {ifs1:List be} {gens:List uO} {scope:bf} {pos p0:cU} {xs:List ag} {ρ₁:ag->dh} {outs:ag->List ag} {rest:fg->ay->ae->il Fin}
  (hi:Ee w sc r ρ i1 true xs) (R:scope.kind=.function) (p:nx scope sc=true) (f:H9 scope sc ρ ρc)
  (c:∀ a D b,C3 (.ListComp elt (⟨t1,i1,ifs1,0⟩::gens) scope pos) 0 b (.ref D) a=(gQ p0>>=λ_=>ki b>>=λr=>match r with
   | none=>pure (.done .next)
   | some v=>fM t1 b v>>=λ_=>fu t1 a v>>=λ_=>rest a D b))
  (hz:(xs.flatMap outs).length<=dK)
  (hb:∀ x∈xs,uI w (dT scope sc) r t1 x ρc (ρ₁ x) false/\r8 ρc (ρ₁ x)/\∀ a D b,cB (dT scope sc) a->v7 w r a D (rest a D b) (.compLoop (.ListComp elt (⟨t1,i1,ifs1,0⟩::gens) scope pos) 0 b (.ref D) a) (ρ₁ x) (outs x))
  (hs:autoParam (∀ env x,cN i1 env x=pure x) am._auto_9)
  {A:bj} {env:fg} {st:Bool} {s₀:af} {g₀ g:aA} {pr:Pr} {s:af} (S:cB sc env) (hA:Rm r A) (F:FS w st s₀ g₀ env g pr ρ s) {use:Option (ae->il Unit)} {Q:ae->af->Prop} {E:ae->af->Prop}
  (k:∀ D C B i,iB s g i B->V B (.ref D) (.list (xs.flatMap outs))->s.heap.objs.size<=C->B.get? C=none->(∃ m,i.heap.Ns C m)->JD (MM w) A E use Q (.ref D) C (.ok .next) i):
  aV (MM w) A (Fw (.ListComp elt (⟨t1,i1,ifs1,0⟩::gens) scope pos) scope env (HW (⟨t1,i1,ifs1,0⟩::gens) pos) (newList []) false (eW i1 env) use) Q E s:=by
 refine vu hi R p f hs S hA F λb q g1 M D C a I T z U y Y G H t=>?_
 refine xK (c _ _ _) I hA t Y H G (VA.nil _) (by simpa using hz) (λx j=>⟨(hb x j).1,(hb x j).2.1,(hb x j).2.2 _ _ _ I⟩) λg2 L J n P h X l=>?_
 refine e04 (h.prot.objs (D,ao J.toArray n) (.head _)) λN p2 p3 Z=>?_
 refine e14 (iB.freeze F.ss h.aft N T) λW K e u d=>?_
 obtain ⟨O,o,_⟩:=h.vars
 subst U
 exact k _ _ W L K (jA u (by simpa using l.mono e)) y (d _ (db z) h.notL) (i11 O o)
noncomputable def Lq (w:ar) (sc:bf) (r:Nat) (ρ:dh):List be->Bool->Prop
 | [],b=>b=true
 | [c],b=>Tr w sc r ρ c b
 | _,_=>False
noncomputable def Kh (w:ar) (r:Nat) (cenv:fg) (D:ay) (t:il Unit) (ρ:dh) (out:List ag):Prop:=
 ∀ A s₀ g₀ g pr s ys n es,Rm r A->FS w false s₀ g₀ cenv g (dg (gP D ys n) pr) ρ s->eg (gP D ys n) pr->VA g ys es->es.length+out.length<=dK->
  ∀ (Q:af->Prop) (E:ae->af->Prop),(∀ g' s' ys' n',eN g g'->FS w false s₀ g₀ cenv g' (dg (gP D ys' n') pr) ρ s'->eg (gP D ys' n') pr->VA g' ys' (es++out)->Q s')->aV (MM w) A t (λ_ s'=>Q s') E s
noncomputable def Dq (ifs:List be) (env:fg) (emit:il Unit) (c:qr):il Fin:=do
 let mut ok:=true
 for c in ifs do
  if ok then ok <- te c env (eW c env)
 if ok then emit
 LB c
section
variable {w:ar} {r:Nat} {sc:bf} {cenv:fg} {D:ay} {ρ:dh} {ifs:List be} {emit:il Unit} {c:qr} {out:List ag}
theorem Lq.run {b:Bool} (h:Lq w sc r ρ ifs b) {A:bj} {st:Bool} {s₀:af} {g₀ g:aA} {pr:Pr} {s:af} (e:cB sc cenv) (hA:Rm r A) (F:FS w st s₀ g₀ cenv g pr ρ s) {Q:Bool->af->Prop} {E:ae->af->Prop} (k:∀ f a,iB s g a f->Q b a):
  aV (MM w) A (forIn ifs true λc r=>if r=true then do let d <- te c cenv (eW c cenv);pure (dG d) else pure (dG r)) Q E s:=by
 cases ifs with
 | nil=>obtain rfl:b=true:=h;exact MR (k g s (iB.refl F.ss.sub))
 | cons t r=>cases r with
  | cons=>exact h.elim
  | nil=>exact wpAny_tests_one (h A cenv st s₀ g₀ g pr s e hA F Q E k)
theorem v3 (i:cB sc cenv) (h:Lq w sc r ρ ifs false):v7 w r cenv D (Dq ifs cenv emit c) c ρ []:=by
 intro A a b g o s d n q j F m f p Q E k;refine aa (h.run i j F λl e x=>?_);exact ah ⟨rfl,k l e d n x.le (F.step x) m (by rw [bp];exact f.mono x.le)⟩
theorem ta (v:cB sc cenv) (h:Lq w sc r ρ ifs true) (h2:Kh w r cenv D emit ρ out):v7 w r cenv D (Dq ifs cenv emit c) c ρ out:=by
 intro A a b g p s l n B j F C u t Q E k;refine aa (h.run v j F λz o x=>?_);refine aa (h2 A a b z p o l n B j (F.step x) C (u.mono x.le) t _ _ λy m d q f G i e=>?_);exact ah ⟨rfl,k y m d q (x.le.trans f) G i e⟩
theorem sY {elt:be} {d:ag} (p:cB sc cenv) (h:Ev w sc r ρ elt (DV d)):Kh w r cenv D (do let _ <- call (.builtin "list.append") [.ref D,<- eW elt cenv]) ρ [d]:=by
 intro A a b g B s y n C q F u m l Q E k;refine aa (h A cenv false a b g _ s p q F _ _ λv t z e o=>?_);refine aa (Cp (F.step e) u (m.mono e.le) o (by exact kS l) λj x i f=>?_);exact ah (k t j _ _ e.le x i f)
end
noncomputable def K5 (w:ar) (sc:bf) (r:Nat) (ρ:dh) (ifs:List be) (elt:be) (out:List ag):Prop:=(Lq w sc r ρ ifs false/\out=[])\/(Lq w sc r ρ ifs true/\∃ y,Ev w sc r ρ elt (DV y)/\out=[y])
theorem Gf {elt t1 i1:be} {ifs1:List be} {scope:bf} {pos:cU} (cenv:fg) (D:ay) (it:ae):C3 (.ListComp elt [⟨t1,i1,ifs1,0⟩] scope pos) 0 it (.ref D) cenv=(gQ i1.pos>>=λ_=>ki it>>=λr=>match r with
   | none=>pure (.done .next)
   | some v=>fM t1 it v>>=λ_=>fu t1 cenv v>>=λ_=>Dq ifs1 cenv (do let _ <- call (.builtin "list.append") [.ref D,<- eW elt cenv]) (.compLoop (.ListComp elt [⟨t1,i1,ifs1,0⟩] scope pos) 0 it (.ref D) cenv)):=by rfl
section
variable {w:ar} {sc:bf} {r:Nat} {ρ ρc:dh} {elt t1 i1:be} {ifs1:List be} {scope:bf} {pos:cU} {xs:List ag} {ρ₁:ag->dh} {outs:ag->List ag}
theorem kg (hi:Ee w sc r ρ i1 true xs) (z:scope.kind=.function) (j:nx scope sc=true) (a:H9 scope sc ρ ρc) (hz:(xs.flatMap outs).length<=dK) (hb:∀ x∈xs,uI w (dT scope sc) r t1 x ρc (ρ₁ x) false/\r8 ρc (ρ₁ x)/\K5 w (dT scope sc) r (ρ₁ x) ifs1 elt (outs x)) (hs:autoParam (∀ e x,cN i1 e x=pure x) am._auto_9):Ev w sc r ρ (.ListComp elt [⟨t1,i1,ifs1,0⟩] scope pos) (LL (xs.flatMap outs)):=by
 intro A e J n o g L s B H F Q E q;refine vy hi z j a Gf hz (λx h=>⟨(hb x h).1,(hb x h).2.1,λp D M f=>?_⟩) hs B H F λD C I K y t G u b=>?_
 ·rcases (hb x h).2.2 with ⟨l,k⟩ | ⟨l,d,k,h3⟩;·rw [k];exact v3 f l
  ·rw [h3];exact ta f l (sY f k)
 ·refine e11 b λm v=>?_;clear b;exact i12 m v (λN i=>q _ I _ (y.turn F.ss G u i) t)
theorem mQ {x:aE} {p i:cU} (hi:Ee w sc r ρ i1 true xs) (hk:scope.kind=.function) (B:nx scope sc=true) (j:H9 scope sc ρ ρc) (hz:(xs.flatMap outs).length<=dK) (hb:∀ x∈xs,uI w (dT scope sc) r t1 x ρc (ρ₁ x) false/\r8 ρc (ρ₁ x)/\K5 w (dT scope sc) r (ρ₁ x) ifs1 elt (outs x)) (hx:sc.names.lookup x=some .local) (hsw:∀ f,cB sc f->gO (.ListComp elt [⟨t1,i1,ifs1,0⟩] scope pos) (some (.Name x p)) i.line f=pure true) (hs:autoParam (∀ f x,cN i1 f x=pure x) am._auto_9):lF w sc r ρ (.Assign [.Name x p] (.ListComp elt [⟨t1,i1,ifs1,0⟩] scope pos) i) (.next ((x,.d (.list (xs.flatMap outs)))::ρ)):=by
 intro A f M O g pr s G hA F Q E q;rw [r1 _ _ _ _ (hsw f G)];refine aa (ct (aa ?_));refine aa (cr (vy (use:=some (fu (uN x p) f)) (Q:=λ_ l=>Q .next l) hi hk B j Gf hz (λx hx=>⟨(hb x hx).1,(hb x hx).2.1,λP D it o=>?_⟩) hs G hA F λD C g' l y W hC Z k=>?_) (λ_ l X=>ah (ah X)) λ_ _ e=>e)
 ·rcases (hb x hx).2.2 with ⟨J,I⟩ | ⟨J,d,I,h3⟩;·rw [I];exact v3 o J
  ·rw [h3];exact ta o J (sY o I)
 ·refine bc λV=>?_;refine e11 k λm hm=>?_;clear k;refine e33 (id hm) λt es n z H v=>?_;refine e02 (F.add (q:=⟨[(C,t)],[]⟩) y ⟨λp Y=>(m1 Y ⟨z,Z⟩),λ_ h=>(nm h)⟩ (λa N=>by simp [addrs] at N;exact N▸hC) (λ_ h=>(nm h))) λFC K=>?_;refine V ?_;refine aa (ct (lG (FC.store G (.inl hx) (b:=.d (.list (xs.flatMap outs))) W λR L=>?_)));refine e04 (L.prot.objs (C,t) (.head _)) λU T S z0=>?_;refine i12 m (i33 t es n U H v) (λh' u=>?_);exact q _ g' _ y.le ⟨rfl,((L.iter (q':={}) (s':={R with heap:=h'}) K (nU.one L.ss T S.2 u) ⟨λ_ h=>(nm h),λ_ h=>(nm h)⟩ ⟨λ_ h=>(nm h),λ_ h=>(nm h)⟩).1)⟩
end
section
variable {w:ar} {r:Nat}
theorem xT {I:ay} {fp:List ay} {n:Nat} {P:Nat->ae->Prop} {O:Nat->aA->Prop} {T:String} (W:∀ A:bj,A.handled=none->Walks PR w A I fp [I] n P O) (hob:∀ i h,O i h->∃ o,h.get? I=some o/\o.cls=.type T) (hT:yG.contains T=false) (ht:cg I=false): ∀ {G:List ag} {k:Nat} {g h0:aA} {o:ff},k+G.length=n->O k h0->h0.get? I=some o->(∀ b∈fp,b≠I->∃ o,h0.get? b=some o/\g.get? b=some o)->(∀ i d,G[i]?=some d->∀ h v,eN g h->P (k+i) v->V h v d)-> jf w r true (.ref I) G g ⟨[(I,o)],[]⟩:=by
 have j:∀ {k:Nat} {g t h0:aA} {o:ff} {s:af},O k h0->h0.get? I=some o->(∀ b∈fp,b≠I->∃ o,h0.get? b=some o/\g.get? b=some o)->eN g t->eN t s.heap->kL t s ⟨[(I,o)],[]⟩->O k s.heap:=by
  intro k g t h0 o s u x f c J m;refine (W (callerA) rfl).frame _ _ _ u λb y D e=>?_;by_cases z:b=I
  ·subst z;replace e:=x▸e;refine iM e λz0=>?_;clear e;subst z0;exact (m.objs _ (.head _)).1
  ·refine e12 (f b y z) λR N X=>?_;replace N:=e▸N;refine iM N λz1=>?_;clear N;subst z1;exact J _ _ (c _ _ X)
 intros G;induction G with
 | nil=>intro k g h0 o U u x f hP;refine e12 (hob k h0 u) λo1 B hc=>?_;replace B:=x▸B;refine iM B λz2=>?_;clear B;subst z2;refine ⟨⟨(i34 I o T rfl (.head _) hc hT),λt A s c F S m Q E q=>(W A F.handled).self k s Q E (j u x f c S.sub m) q⟩,λ_ t A s c F S m Q E q=>?_⟩;subst (by simpa using U);refine cC ((W A F.handled).done s _ E (j u x f c S.sub m) λh' tk K Y=>?_);exact q _ t (nU.ext S (m.objs _ (.head _)).2 Y ht λb D y e=>K b D (by simpa using y) e)
 | cons d G ih=>
  intro k g h0 o U u x f hP;refine e12 (hob k h0 u) λo1 B hc=>?_;replace B:=x▸B;refine iM B λz3=>?_;clear B;subst z3;refine ⟨⟨(i34 I o T rfl (.head _) hc hT),λt A s c F S m Q E q=>(W A F.handled).self k s Q E (j u x f c S.sub m) q⟩,λt A s c F S m Q E q=>?_⟩;refine e02 (m.objs _ (.head _)) λh1 h2=>?_;refine cC ((W A F.handled).item k s _ E (by rw [<- U];simp) (j u x f c S.sub m) λv h' tk L H K Y=>?_);refine e12 (hob _ _ H) λD M a1=>?_;obtain sx:SX (addrs ⟨[(I,o)],[]⟩) (l3 ⟨[(I,o)],[]⟩) s {s with heap:=h',toks:=tk}:=SX.extBut Y ht λb D y e=>K b D (by simpa using y) e;have C:=λb R e=>K b R (λz=>by simp at z;rw [z,h2] at e;exact lE e) (S.sub _ _ e);refine q v t ⟨[(I,D)],[]⟩ _ ⟨sx,eN.refl _,C,λ_ _ e=>.inl e,mU.extBut ht λb D y e=>K b D (by simpa using y) e⟩ ⟨λp L=>?_,λ_ h=>nm h⟩ ⟨λa ha=>.inl ha,λ_ h=>(nm h),λ_=>rfl⟩ ?_ ?_
  ·cases L with
   | head=>exact ⟨M,h2⟩
   | tail _ h=>cases h
  ·exact hP 0 d rfl t v c L
  ·refine (ih (k:=k+1) (h0:=h') (by rw [<- U];simp;exact fk k G.length) H M (λb y Z=>?_) λi d' e h v a0 L=>hP (i+1) d' (by trivial) h v a0 (by rw [show k+(i+1)=k+1+i by exact jl (fk k i)];exact L)).mono c;refine e12 (f b y Z) λR N X=>?_;exact i12 R (C _ _ (c _ _ X)) X
theorem y9 {g:aA} {s:af} {o:ff} {tk:Nat} {ds:List ag} {Q:ae->af->Prop} (S:SS w g s) (i:o.isFreed=false) (hi:jf w r true (.ref s.heap.objs.size) ds g ⟨[(s.heap.objs.size,o)],[]⟩) (k:∀ d c q b,iB s g b c->kL c b q->(∀ a∈addrs q,s.heap.objs.size<=a)->(∀ k∈l3 q,s.gens.size<=k)->jf w r true d ds c q->Q d b):Q (.ref s.heap.objs.size) {s with heap:=s.heap.push o,toks:=tk}:=by
 refine k _ g ⟨[(s.heap.objs.size,o)],[]⟩ _ (S.same (Stp.push s o tk)) ⟨λp f=>?_,λ_ h=>nm h⟩ (λa e=>?_) (λ_ h=>nm h) hi
 ·cases f with
  | head=>exact ⟨az _ i,S.none (aq _)⟩
  | tail _ h=>cases h
 ·simp [addrs] at e;exact aj e.symm
noncomputable def y6 (a b:Int):ci:=λg v=>∃ l t u x,v=.ref l/\IsRange g l a b 1 t u x
noncomputable def jK (a:Int) (n:Nat):List ag:=(br n).map λi=>.int (a+(i:Nat))
theorem iV {n:Int}:iu w r (.type "range") [II n] (y6 0 n):=by
 intro g f a A s h S Q E q;refine e11 (hY a.length.symm) λv c=>?_;obtain rfl:=c;refine e11 (V.int_inv a.1) λt b=>?_;obtain rfl:=b;refine call_range_1 ?_;refine e12 (S.growPush ({cls:=.type "range",data:=.fields #[.int 0 s.toks,.int n t,.int 1 (s.toks+1)]}:ff) (s.toks+1+1) rfl) λd x e=>?_;exact q _ d _ x (i42 _ _ _ _ rfl e)
theorem CM {a b:Int}:iu w r (.type "range") [II a,II b] (y6 a b):=by
 intro g j c A s l S Q E q;refine e21 (jz c.length.symm) λv k h=>?_;obtain rfl:=h;refine e11 (V.int_inv c.1) λt f=>?_;obtain rfl:=f;refine e11 (V.int_inv c.2.1) λu d=>?_;obtain rfl:=d;refine call_range_2 ?_;refine e12 (S.growPush ({cls:=.type "range",data:=.fields #[.int a t,.int b u,.int 1 s.toks]}:ff) (s.toks+1) rfl) λi x e=>?_;exact q _ i _ x (i42 _ _ _ _ rfl e)
theorem Cw {I:ay} {a:Int} (ht:cg I=false):∀ {n:Nat} {g:aA} {o:ff},o={cls:=.type "range_iterator",dict:=none,data:=.fields #[dq a,dq n,dq 1],slots:=#[]}->jf w r true (.ref I) (jK a n) g ⟨[(I,o)],[]⟩:=by
 intro n;induction n generalizing a with
 | zero=>intro g o q;subst q;refine ⟨⟨(i34 I _ _ rfl (.head _) rfl rfl),λj A s c l S b Q E k=>HS (step:=1) (b.objs _ (.head _)).1 k⟩,λ_ j A s c l S b Q E k=>?_⟩;refine cC (wpAny_pyNext_range_end (step:=1) l.handled (b.objs _ (.head _)).1 (eR 0) λu m x=>?_);exact k _ j (nU.ext S (b.objs _ (.head _)).2 x ht m)
 | succ n v=>
  intro g o q;subst q;obtain e:jK a (n+1)=.int a::jK (a+1) n:=by
   delta jK;rw [List.range_succ_eq_map,bV,cz];congr 1;·simp
   ·refine dS λi _=>?_;simp only [Ql];congr 1;obtain this:=Int.natCast_succ i;lia
  rw [e];refine ⟨⟨(i34 I _ _ rfl (.head _) rfl rfl),λj A s c l S b Q E k=>HS (left:=((n+1:Nat):Int)) (b.objs _ (.head _)).1 k⟩,λj A s c l S b Q E k=>?_⟩;refine e02 (b.objs _ (.head _)) λB t=>?_;refine wpAny_pyNext_range_item (left:=((n+1:Nat):Int)) B (Int.ofNat_succ_pos n) λu d m=>?_;obtain f:u.get? I=some {cls:=.type "range_iterator",dict:=none,data:=.fields #[dq (a+1),dq n,dq 1],slots:=#[]}:=by
   replace d:=(Int.sub_eq_iff_eq_add.mpr rfl:((n+1:Nat):Int) - 1=(n:Int))▸d;exact d
  refine k _ j ⟨[(I,{cls:=.type "range_iterator",dict:=none,data:=.fields #[dq (a+1),dq n,dq 1],slots:=#[]})],[]⟩ _ (nU.one S t ht m) ⟨λp y=>?_,λ_ h=>nm h⟩ ⟨λa z=>.inl z,λ_ h=>(nm h),λ_=>rfl⟩ (.int a _) (v (a:=a+1) rfl);cases y with
  | head=>exact ⟨f,t⟩
  | tail _ h=>cases h
theorem Gq {a b:Int} (h:a.natAbs<=2 ^ 40) (h':b.natAbs<=2 ^ 40):wi a b 1=true:=by
 delta wi;obtain f:∀ x:Int,x.natAbs<=2 ^ 42->rj x=true:=λx c=>by
  delta rj;simp only [bN,decide_eq_true_eq];exact ⟨bv (by decide) (Je c).1,fh (Je c).2 (by decide)⟩
 simp only [bN,iK];refine ⟨⟨⟨⟨f _ (by exact ab (by assumption) (by decide)),f _ (by exact ab (by assumption) (by decide))⟩,f _ (ax rfl)⟩,f _ (by rw [(Fv a b)];split;exact (ab (Int.natAbs_sub_le b a) (ab (bJ h' h) (by decide)));decide)⟩,.inr ?_⟩;exact f _ (by lia)
theorem jS {a b:Int} {n:Nat} (f:n=(b - a).toNat) (h:a.natAbs<=2 ^ 40) (h':b.natAbs<=2 ^ 40):MP w r (y6 a b) true (jK a n):=by
 intro A g v s i S c Q E k;refine e42 c λl t u x d e=>?_;clear c;obtain rfl:=d;refine wpAny_pyIter_range (S.sub _ _ e) (Gq h h') ?_;refine y9 (ds:=jK a n) S rfl (Cw (eD S.big) ?_) k;rw [(show tR a b 1=(n:Int) from by rw [Fv a b];split <;>lia)]
noncomputable def xn (x:aE):List ag:=x.cps.toList.map λc=>.str ⟨#[c]⟩
theorem MP.str {x:aE}:MP w r (SSV x) true (xn x):=by
 intro A g v s m S D Q E k;refine e11 (V.str_inv D) λt C=>?_;obtain rfl:=C;obtain l:∀ {I:ay} {n:Nat->aA->Prop} {T:String},(∀ A:bj,A.handled=none->Walks PR w A I [I] [I] x.cps.size (SignAt x) n)->(∀ i h,n i h->∃ o,h.get? I=some o/\o.cls=.type T)->yG.contains T=false->cg I=false->
   ∀ (o:ff),(∃ y:aA,n 0 y/\y.get? I=some o)->jf w r true (.ref I) (xn x) g ⟨[(I,o)],[]⟩:=λ{I n T} W p H F o ⟨y,a,j⟩=>by
  refine xT W p H F (by simp [xn]) a j (λb G q=>absurd (mS G) q) λi d e h v _ z=>?_
  refine e22 z λc u f J=>?_
  clear z
  rw [gy] at f
  simp only [xn,av,cM] at e
  replace e:=f▸e
  cases e
  rw [J]
  exact .str _ _
 cases B:x.cps.all (· <128)
 ·refine wpAny_pyIter_wide B (y9 (tk:=s.toks) S rfl ?_ k);exact l (T:="str_iterator") (λA m=>Walks.strWide m _ x t) (λi h a=>by refine e13 a λo j f L=>?_;clear a;exact i12 o j f) rfl (eD S.big) _ (i12 (s.heap.push _) (i13 _ (az _ rfl) rfl rfl) (az _ rfl))
 ·refine wpAny_pyIter_ascii B (y9 (tk:=s.toks) S rfl ?_ k);exact l (T:="str_ascii_iterator") (λA m=>Walks.strAscii m _ x t) (λi h a=>by refine e13 a λo j f K=>?_;clear a;exact i12 o j f) rfl (eD S.big) _ (i12 (s.heap.push _) (i13 _ (az _ rfl) rfl rfl) (az _ rfl))
end
section
variable {w:ar} {r:Nat}
noncomputable def Sm (a:Int):Prop:=a.natAbs<=2 ^ 50
theorem OK {s:Int} (h0:0<=s) (h:s<=2 ^ 50):Sm s:=dM.1 (by rw [rd h0];exact h)
theorem vA {a:Int} (h:Sm a):bt a<=64:=intBits_le_64 (iF (by decide) (Je h).1) (fh (Je h).2 (by decide))
theorem fF {i j:Int} (h:Sm i\/Sm j):nT w r .Mult (.int i) (.int j) (.int (i*j)):=by
 intro g a b d c A s e S Q E q;obtain ⟨t,rfl⟩:=d.int_inv;obtain ⟨u,rfl⟩:=c.int_inv;exact Na (q _ g _ (S.tok _) (.int _ _)) (h.elim (λh=>.of_left (vA h)) λh=>.of_right (vA h))
theorem oH {i j:Int} (h0:j≠0) (h:j.natAbs<2 ^ 30):nT w r .FloorDiv (.int i) (.int j) (.int (i.fdiv j)):=by
 intro g a b d c A s e S Q E q;obtain ⟨t,rfl⟩:=d.int_inv;obtain ⟨u,rfl⟩:=c.int_inv;exact Nk h0 (q _ g _ (S.tok _) (.int _ _)) (.inl (zo (kS h)))
theorem kM {i j:Int} (h0:j≠0) (h:j.natAbs<2 ^ 30):nT w r .Mod (.int i) (.int j) (.int (i.fmod j)):=by
 intro g a b d c A s e S Q E q;obtain ⟨t,rfl⟩:=d.int_inv;obtain ⟨u,rfl⟩:=c.int_inv;exact Nb h0 (q _ g _ (S.tok _) (.int _ _))
theorem tc {i j:Int} (h0:0<=j) (h1:j<=1000000) (h:Sm i):nT w r .LShift (.int i) (.int j) (.int (i*2 ^ j.toNat)):=by
 intro g a b d c A s e S Q E q;obtain ⟨t,rfl⟩:=d.int_inv;obtain ⟨u,rfl⟩:=c.int_inv;exact Nc h0 h1 (by delta Sm at h;exact aR (by assumption) (by decide)) (q _ g _ (S.tok _) (.int _ _))
theorem tb {i j:Int} (h0:0<=j):nT w r .RShift (.int i) (.int j) (.int (i.fdiv (2 ^ j.toNat))):=by
 intro g a b d c A s e S Q E q;obtain ⟨t,rfl⟩:=d.int_inv;obtain ⟨u,rfl⟩:=c.int_inv;exact M7 h0 (q _ g _ (S.tok _) (.int _ _))
theorem Fp {i j:Int}:nT w r .BitXor (.int i) (.int j) (.int (pQ i j)):=by
 intro g a b d c A s e S Q E q;obtain ⟨t,rfl⟩:=d.int_inv;obtain ⟨u,rfl⟩:=c.int_inv;exact M2 (q _ g _ (S.tok _) (.int _ _))
theorem vW {i j:Int}:kr w r .NotEq (.int i) (.int j) (i !=j):=by
 intro g a b d c A s e S Q E q;obtain ⟨t,rfl⟩:=d.int_inv;obtain ⟨u,rfl⟩:=c.int_inv;exact M9 (q _ g _ (iB.refl S.sub) (.bool _))
theorem kh {i j:Int}:kr w r .Lt (.int i) (.int j) (decide (i<j)):=by
 intro g a b d c A s e S Q E q;obtain ⟨t,rfl⟩:=d.int_inv;obtain ⟨u,rfl⟩:=c.int_inv;exact w4 (q _ g _ (iB.refl S.sub) (.bool _))
theorem pN {i j:Int}:kr w r .LtE (.int i) (.int j) (decide (i<=j)):=by
 intro g a b d c A s e S Q E q;obtain ⟨t,rfl⟩:=d.int_inv;obtain ⟨u,rfl⟩:=c.int_inv;exact Nf (q _ g _ (iB.refl S.sub) (.bool _))
theorem A7 {i j:Int}:kr w r .GtE (.int i) (.int j) (decide (j<=i)):=by
 intro g a b d c A s e S Q E q;obtain ⟨t,rfl⟩:=d.int_inv;obtain ⟨u,rfl⟩:=c.int_inv;exact Nj (q _ g _ (iB.refl S.sub) (.bool _))
theorem A8 {x y:aE}:kr w r .Eq (.str x) (.str y) (x==y):=by
 intro g a b d c A s e S Q E q;obtain ⟨t,rfl⟩:=d.str_inv;obtain ⟨u,rfl⟩:=c.str_inv;exact w5 (q _ g _ (iB.refl S.sub) (.bool _))
theorem kr.isNone {d:ag}:kr w r .Is d .none (d matches .none):=by
 intro g a b c e A s j S Q E q;obtain rfl:=e.none_inv;refine is_none (q _ g _ (iB.refl S.sub) ?_);refine e12 c λi f h=>?_;clear c;cases f <;>exact .bool _
theorem fc {d:ag}:kr w r .IsNot d .none (!(d matches .none)):=by
 intro g a b c e A s j S Q E q;obtain rfl:=e.none_inv;refine isNot_none (q _ g _ (iB.refl S.sub) ?_);refine e12 c λi f h=>?_;clear c;cases f <;>exact .bool _
theorem pO {d e:ag} (h1:cc d=true) (h2:cc e=true):kr w r .Eq d e (fO d e):=by
 intro g a b f c A s j S Q E q;refine e12 (f.mono S.sub) λn i m=>?_;refine e12 (c.mono S.sub) λl h k=>?_;exact Nn i h h1 h2 j.line (q _ g _ (iB.refl S.sub) (.bool _))
theorem gh {d e:ag} (h1:cc d=true) (h2:cc e=true):kr w r .NotEq d e (!fO d e):=by
 intro g a b f c A s j S Q E q;refine e12 (f.mono S.sub) λn i m=>?_;refine e12 (c.mono S.sub) λl h k=>?_;exact ne_dataH i h h1 h2 j.line (q _ g _ (iB.refl S.sub) (.bool _))
theorem vX {x:ag} {xs:List ag} (c:di xs=true) (i:x.canLay0=true) (hz:x.depth<=100):kr w r .In x (.list xs) (xs.any λy=>fO y x):=by
 intro g a b e d A s j S Q E q;refine e12 (e.mono S.sub) λn h m=>?_;refine e12 (d.mono S.sub) λl f k=>?_;refine Ot f h c i ?_ (q _ g _ (iB.refl S.sub) (.bool _));obtain this:=j.units;refine (?_:A.units+1+min _ _<9900);have:=eo (pc xs) x.depth;lia
theorem iw {x y:aE} (h:x.length+y.length<=dK):nT w r .Add (.str x) (.str y) (.str (x++y)):=by
 intro g a b d c A s i S Q E q;obtain ⟨t,rfl⟩:=d.str_inv;obtain ⟨u,rfl⟩:=c.str_inv;exact Nq (λt' tk=>q _ g _ (S.tok _) (.str _ _)) (by have:dK<=kt:=(by decide);exact ab (by assumption) (by decide))
theorem j8:dK<=kt:=by decide
theorem mj {ds es:List ag} (h:ds.length+es.length<=dK):nT w r .Add (.list ds) (.list es) (.list (ds++es)):=by
 intro g a b H G A s W S Q E q;refine bc λJ=>?_;refine e24 (V.list_inv H) λl d F N v U=>?_;obtain rfl:=F;refine e24 (V.list_inv G) λL c D m u T=>?_;obtain rfl:=D;obtain ⟨⟨t,R,j,I⟩,y,B,n,z⟩:=id N;obtain ⟨⟨C,o,p,k⟩,e,i,K,f⟩:=id m;refine J ?_;simp only at B z i f;subst B z i f;obtain M:d.toArray.size+c.toArray.size<=kt:=by
  have:=v.length;have:=u.length;have:=j8;simp;lia
 refine Pg (i12 _ (S.sub _ _ y) rfl) (i12 _ (S.sub _ _ e) rfl) noFill_list_add seq_list_add PySem.F.slot_list_add PySem.F.entry_list_add (PySem.F.args_list_add_2 _ _) (list_addW l L d.toArray c.toArray n K R o I k M) (i03 (S.sub _ _ y) (S.sub _ _ e) ?_);rw [(show d.toArray++c.toArray=(d++c).toArray from by simp)];refine e12 (S.growPush ({cls:=.type "list",data:=.seq (d++c).toArray}:ff) s.toks rfl) λO x P=>?_;exact q _ O _ x (V.list P rfl rfl rfl ((v.append u).mono x.le))
theorem Ft {ds es:List ag} (h:ds.length+es.length<=dK) (h1:ds≠[]) (h2:es≠[]):nT w r .Add (.tuple ds) (.tuple es) (.tuple (ds++es)):=by
 intro g a b I H A s U S Q E q;refine bc λK=>?_;refine e23 (V.tuple_inv I) λl d G O o=>?_;obtain rfl:=G;refine e23 (V.tuple_inv H) λM c F p m=>?_;obtain rfl:=F;obtain ⟨⟨v,T,j,J⟩,z,C,n,B⟩:=id O;obtain ⟨⟨D,t,u,k⟩,e,i,y,f⟩:=id p;refine K ?_;simp only at C B i f;subst C B i f;have N:d.toArray.size+c.toArray.size<=kt:=by
  obtain this:=o.length;have:=m.length;have:=j8;simp;lia
 have L:¬ d.toArray.isEmpty=true:=by cases d with
  | nil=>cases ds with
   | nil=>exact absurd rfl h1
   | cons=>have:=o.length;exact gt this
  | cons=>simp
 obtain y:¬ c.toArray.isEmpty=true:=by cases c with
  | nil=>cases es with
   | nil=>exact absurd rfl h2
   | cons=>have:=m.length;exact gt this
  | cons=>simp
 refine Pg (i12 _ (S.sub _ _ z) rfl) (i12 _ (S.sub _ _ e) rfl) noFill_tuple_add seq_tuple_add PySem.F.slot_tuple_add PySem.F.entry_tuple_add (PySem.F.args_tuple_add_2 _ _) (tuple_addW2 l M d.toArray c.toArray n _ T t J k L y N) (i03 (S.sub _ _ z) (S.sub _ _ e) ?_);rw [(show d.toArray++c.toArray=(d++c).toArray from by simp)];refine e12 (S.growPush ({cls:=.type "tuple",data:=.seq (d++c).toArray}:ff) s.toks rfl) λP x R=>?_;exact q _ P _ x (V.tuple ⟨_,R,rfl,_,rfl⟩ ((o.append m).mono x.le))
theorem AO.int {i:Int}:AO w r (.int i) (i !=0):=by
 intro g a b A s c S Q E q;obtain ⟨t,rfl⟩:=b.int_inv;exact M4 (q g s (iB.refl S.sub))
theorem AO.bool {i:Bool}:AO w r (.bool i) i:=by
 intro g a b A s c S Q E q;obtain rfl:=b.bool_inv;exact fG (q g s (iB.refl S.sub))
theorem AO.none:AO w r .none false:=by
 intro g a b A s c S Q E q;obtain rfl:=b.none_inv;exact truthy_none (q g s (iB.refl S.sub))
theorem AO.str {x:aE} (h:x.length<=dK):AO w r (.str x) ((x.length:Int) !=0):=by
 intro g a b A s c S Q E q;obtain ⟨t,rfl⟩:=b.str_inv;exact PySem.P.truthy_str (by delta dK at h;lia) (q g _ (S.tok _))
theorem AO.list {ds:List ag} (h:ds.length<=dK):AO w r (.list ds) (!ds.isEmpty):=by
 intro g a i A s n S Q E q;refine e24 (V.list_inv i) λl c f k d m=>?_;obtain rfl:=f;refine wpAny_truthy_list (by refine e12 k λo a b=>?_;exact i12 o (S.sub _ _ a) b) (by have:=d.length;delta dK at h;simp;exact cY.2 (fa2 h (aj this))) ?_;have e:(!ds.isEmpty)=(!c.toArray.isEmpty):=by
  cases ds with
  | nil=>cases c with
   | nil=>rfl
   | cons=>exact gt d.length
  | cons=>cases c with
   | nil=>exact gt d.length
   | cons=>rfl
 obtain j:=λt=>e▸q g _ (S.tok t);exact j _
end
section
variable {w:ar} {sc:bf} {r:Nat} {ρ ρ':dh} {pos:cU} {P:ci}
theorem ko.va {g:aA} {ds:List ag}:∀ {a:List ae},ko g (ds.map DV) a->VA g a ds:=by
 induction ds with
 | nil=>exact λ{a}=>a.rec (λ_=>trivial) λ_ _ _ h=>h.elim
 | cons d ds b=>exact λ{a}=>a.rec (λh=>h.elim) λ_ _ _ h=>⟨h.1,b h.2⟩
theorem Ev.list {es:List be} {ds:List ag} (h:rf w sc r ρ es (ds.map DV)) (hz:ds.length<=dK):Ev w sc r ρ (.List es pos) (LL ds):=by
 intro A c j a b g l s m n F Q E q;refine mV (h.run A c j a b g l s _ m n F _ _ λi p k d f=>⟨?_,?_⟩);·obtain this:=f.va.length;have:=j8;lia
 ·refine e12 ((F.step d).ss.growPush ({cls:=.type "list",data:=.seq i.toArray}:ff) k.toks rfl) λo x e=>?_;exact q _ o _ (d.trans x) (V.list e rfl rfl rfl (f.va.mono x.le))
theorem Ev.tuple {es:List be} {k:Nat} {ds:List ag} (h:rf w sc r ρ es (ds.map DV)) (hz:ds.length<=dK):Ev w sc r ρ (.Tuple es k pos) (TT ds):=by
 intro A c j a b g m s n o F Q E q;refine wpAny_Tuple (h.run A c j a b g m s _ n o F _ _ λi t l d f=>⟨?_,?_⟩);·obtain this:=f.va.length;have:=j8;lia
 ·refine e12 ((F.step d).ss.growPush ({cls:=.type "tuple",data:=.seq i.toArray}:ff) l.toks rfl) λp x e=>?_;exact q _ p _ (d.trans x) (V.tuple ⟨_,e,rfl,_,rfl⟩ (f.va.mono x.le))
noncomputable def D5 (ds:List ag) (k:Int):Option ag:=if 0<=k then ds[k.toNat]? else if -(ds.length:Int)<=k then ds[(k+ds.length).toNat]? else none
theorem vn {g:aA} {A:bj} {s:af} {l:ay} {vs:List ae} {ds:List ag} {k:Int} {t:C9} {d:ag} {Q:ae->af->Prop} {E:ae->af->Prop} (i:s.heap.IsList l vs.toArray) (h:VA g vs ds) (hz:ds.length<=dK) (a:D5 ds k=some d) (q:∀ v,V g v d->Q v s): aV (MM w) A (tP (.ref l) (.int k t)) Q E s:=by
 obtain c:=h.length;delta dK at hz;delta D5 at a;by_cases f:0<=k
 ·replace a:=(if_pos f)▸a;refine e12 (h.get _ a) λv e b=>?_;have:k.toNat<vs.length:=(gE e).1;exact K7 i f (by lia) (by rw [cE];exact e) (q v b)
 ·replace a:=(if_neg f)▸a;split at a
  ·refine e12 (h.get _ a) λv e b=>?_;exact wpAny_getItem_list_neg i (JZ f) (by simp;lia) (by lia) (by rw [cE,bk,c];exact e) (q v b)
  ·exact lE a
theorem IsList.up {g h:aA} {l:ay} {a:Array ae} (x:g.IsList l a) (k:eN g h):h.IsList l a:=by refine e12 x λo e r=>?_;clear x;exact i12 o (k _ _ e) r
theorem IsTuple.up {g h:aA} {l:ay} {a:Array ae} (x:g.IsTuple l a) (k:eN g h):h.IsTuple l a:=by refine e12 x λo e r=>?_;clear x;exact i12 o (k _ _ e) r
theorem gf {value gg:be} {ds:List ag} {k:Int} {d:ag} (G:Ev w sc r ρ value (LL ds)) (hi:Ev w sc r ρ gg (II k)) (J:D5 ds k=some d) (hz:ds.length<=dK) (hs:autoParam (∀ o i,nh gg false o i=wT [o,i] (tP o i)) am._auto_9):Ev w sc r ρ (.Subscript value gg pos) (DV d):=by
 intro A e m a b g n s p x F Q E q;refine oR (G A e m a b g n s p x F _ _ λv L D j B=>?_);refine hi A e m a b L n D p x (F.step j) _ _ λi K C f z=>?_;refine e24 (V.list_inv (B.mono f.le)) λl N y I h M=>?_;obtain rfl:=y;obtain ⟨t,rfl⟩:=z.int_inv;obtain c:=IsList.up I f.sub;exact tm c.typeIs lH.lookup (vn c h hz J λu H=>q u K C (j.trans f) H) (hs (.ref l) (.int k t))
theorem Ef {value gg:be} {ds:List ag} {k:Nat} {d:ag} (M:Ev w sc r ρ value (TT ds)) (hi:Ev w sc r ρ gg (II k)) (R:ds[k]?=some d) (hz:ds.length<=dK) (hs:autoParam (∀ o i,nh gg false o i=wT [o,i] (tP o i)) am._auto_9):Ev w sc r ρ (.Subscript value gg pos) (DV d):=by
 intro A n z c f g C s G H F Q E q;refine oR (M A n z c f g C s G H F _ _ λv T L y K=>?_);refine hi A n z c f T C L G H (F.step y) _ _ λi S B p J=>?_;refine e23 (V.tuple_inv (K.mono p.le)) λl W I O m=>?_;obtain rfl:=I;obtain ⟨t,rfl⟩:=J.int_inv;obtain h:=IsTuple.up O p.sub;refine e12 (m.get _ R) λu e N=>?_;obtain x:=(gE e).1;obtain D:=m.length;delta dK at hz;refine tm (show B.TypeIs (.ref l) "tuple" from by refine e13 h λo a b U=>?_;clear h;exact i12 o a b) slot_tuple_getitem.lookup (Nh h (Bn (2 ^ 63) k) (by lia) (j:=k) ?_ (by rw [cE];exact e) (q u S B (y.trans p) N)) (hs (.ref l) (.int k t));delta seqIndex?;rw [if_neg (Int.not_ofNat_neg k)];rw [if_pos (by simp;exact x)];rfl
theorem Fk {x:aE} {p:cU} {gg:be} {a:ay} {ds:List ag} {k:Int} {d:ag} (hx:ρ.lookup x=some (.own a ds)) (hi:Ev w sc r ρ gg (II k)) (R:D5 ds k=some d) (hz:ds.length<=dK) (hs:autoParam (∀ o i,nh gg false o i=wT [o,i] (tP o i)) am._auto_9) (l:autoParam ((x==("__classdict__":aE))=false) auF._auto_1) (j:autoParam ((x==("__debug__":aE))=false) auF._auto_1):Ev w sc r ρ (.Subscript (.Name x p) gg pos) (DV d):=by
 intro A f B b c g D s G I F Q E q;refine oR (Ev.name hx l j A f B b c g D s G I F _ _ λv V M h L=>?_);obtain rfl:=L;refine hi A f B b c V D M G I (F.step h) _ _ λi U C z K=>?_;obtain ⟨t,rfl⟩:=K.int_inv;refine e12 (((F.step h).step z).vars) λm hn N=>?_;refine e12 (N x _ hx) λZ Y H=>?_;refine e03 H λX y W=>?_;clear H;refine e22 y λJ n T S=>?_;clear y;obtain e:C.heap.IsList a J.toArray:=⟨_,T,rfl,n,rfl⟩;exact tm e.typeIs lH.lookup (vn e S hz R λu O=>q u U C (h.trans z) O) (hs (.ref a) (.int k t))
noncomputable def vG (w:ar) (sc:bf) (r:Nat) (ρ:dh):Option be->Option Int->Prop
 | none,none=>True
 | some e,some k=>Ev w sc r ρ e (II k)
 | _,_=>False
theorem vG.run {e:Option be} {k:Option Int} (h:vG w sc r ρ e k) {A:bj} {env:fg} {st:Bool} {s₀:af} {g₀ g:aA} {pr:Pr} {s:af} (d:cB sc env) (hA:Rm r A) (F:FS w st s₀ g₀ env g pr ρ s) {Q:ae->af->Prop} {E:ae->af->Prop} (q:∀ v b a,iB s g a b->IsPart v k->Q v a):aV (MM w) A (evalPart e env) Q E s:=by
 cases e with
 | none=>cases k with
  | some k=>exact h.elim
  | none=>exact ah (q _ g s (iB.refl F.ss.sub) .none)
 | some e=>cases k with
  | none=>exact h.elim
  | some k=>exact (show Ev w sc r ρ e (II k) from h) A env st s₀ g₀ g pr s d hA F Q E λv b a x c=>q v b a x (by obtain ⟨t,rfl⟩:=c.int_inv;exact .int k t)
theorem gg {value:be} {lo hi:Option be} {a b:Option Int} {p:cU} {ds es:List ag} (S:Ev w sc r ρ value (LL ds)) (h1:vG w sc r ρ lo a) (h2:vG w sc r ρ hi b) (hz:ds.length<=dK) (hp:∀ i:List ae,i.length=ds.length->∃ n,slicePick i.toArray a b none=kH n/\∀ g,VA g i ds->VA g n es) (ht:autoParam (∀ o r,CZ value o r=pure ()) am._auto_9):Ev w sc r ρ (.Subscript value (.Slice lo hi none p) pos) (LL es):=by
 intro A z D j m g O s x y F Q E q;refine wpAny_Subscript_Slice (T:="list") lH.lookup (S A z D j m g O s x y F _ _ λv g1 s1 C N=>?_) ht;have J:=F.step C;refine PE (h1.run x y J λM g2 s2 u W=>?_);have I:=J.step u;refine h2.run x y I λL g3 G t U=>?_;obtain H:=I.step t;refine ah ?_;refine e24 (V.list_inv ((N.mono u.le).mono t.le)) λl i K d c Z=>?_;obtain rfl:=K;refine e12 (hp i c.length) λn e R=>?_;refine e12 (H.ss.growPush ({cls:=.type "slice",data:=.fields #[M,L,.none]}:ff) G.toks rfl) λg4 f e4=>?_;obtain k:=IsList.up (IsList.up d f.le) f.sub;refine ⟨k.typeIs,wpAny_getItem_list_slice (st:=none) k (i13 _ (az _ rfl) rfl rfl) W U .none (by intro h;exact lE h) ?_ (by have:=c.length;have:=j8;simp;lia)⟩;rw [e];refine e12 ((H.step f).ss.growPush ({cls:=.type "list",data:=.seq n.toArray}:ff) G.toks rfl) λX B Y=>?_;exact q _ X _ (((C.trans u).trans t).trans (f.trans B)) (V.list Y rfl rfl rfl ((R _ (c.mono f.le)).mono B.le))
theorem ze {value e:be} {k:Nat} {p:cU} {ds:List ag} (d:Ev w sc r ρ value (LL ds)) (h1:Ev w sc r ρ e (II k)) (hz:ds.length<=dK) (ht:autoParam (∀ o r,CZ value o r=pure ()) am._auto_9):Ev w sc r ρ (.Subscript value (.Slice (some e) none none p) pos) (LL (ds.drop k)):=
 gg (a:=some k) (b:=none) d h1 trivial hz (λc f=>(i12 (c.drop k) (by rw [slicePick_from']) (λg h=>h.drop k))) ht
theorem r0 {value e:be} {k:Nat} {p:cU} {ds:List ag} (d:Ev w sc r ρ value (LL ds)) (h1:Ev w sc r ρ e (II k)) (hz:ds.length<=dK) (ht:autoParam (∀ o r,CZ value o r=pure ()) am._auto_9):Ev w sc r ρ (.Subscript value (.Slice none (some e) none p) pos) (LL (ds.take k)):=
 gg (a:=none) (b:=some k) d trivial h1 hz (λc f=>(i12 (c.take k) (by rw [slicePick_upto']) (λg h=>h.take k))) ht
theorem Tr.val {e:be} {d:ag} {b:Bool} (h:Ev w sc r ρ e (DV d)) (k:AO w r d b) (x:autoParam (∀ c a,te e c a=(do let v <- a;gQ e.pos;wV [v] (N6 v))) am._auto_9):Tr w sc r ρ e b:=by
 intro A c o f i g u s y l F Q E q;refine isTrue_plain (h A c o f i g u s y l F _ _ λv B t j n=>?_) (x c _);exact k B v n A t l (F.step j).ss Q E λz p m=>q z p (j.trans m)
theorem y5 {e:be} {b:Bool} (h:Tr w sc r ρ e b):Tr w sc r ρ (.UnaryOp .Not e pos) (!b):=λA d i a c g k s l m F Q E q=>isTrue_not (h A d i a c g k s l m F _ _ λn j f=>q n j f)
noncomputable def Jg (w:ar) (sc:bf) (r:Nat) (ρ:dh) (e:be) (b:Bool):Prop:=
 ∀ A env st s₀ g₀ g pr s whole,cB sc env->Rm r A->FS w st s₀ g₀ env g pr ρ s->∀ (Q:Bool->af->Prop) (E:ae->af->Prop),(∀ g' s',iB s g s' g'->Q b s')->aV (MM w) A (te e env whole) Q E s
theorem kd {e:be} {b:Bool} (h:Jg w sc r ρ e b):Tr w sc r ρ e b:=λA d f a c g i s=>h A d f a c g i s _
theorem Cr:Jg w sc r ρ (.BoolOp .And [] pos) true:=λA d e b c g f s a h i F Q E q=>isTrue_and_nil (q g s (iB.refl F.ss.sub))
theorem qa:Jg w sc r ρ (.BoolOp .Or [] pos) false:=λA d e b c g f s a h i F Q E q=>isTrue_or_nil (q g s (iB.refl F.ss.sub))
theorem vC {x:be} {xs:List be} {b:Bool} (h:Tr w sc r ρ x true) (k:Jg w sc r ρ (.BoolOp .And xs pos) b):Jg w sc r ρ (.BoolOp .And (x::xs) pos) b:=λA e i a c g j s d l m F Q E q=>isTrue_and (h A e i a c g j s l m F _ _ λu p f=>by exact k A e i a c u j p d l m (F.step f) Q E λt o n=>q t o (f.trans n))
theorem li {x:be} {xs:List be} (h:Tr w sc r ρ x false):Jg w sc r ρ (.BoolOp .And (x::xs) pos) false:=λA d f a b g j s c k l F Q E q=>isTrue_and (h A d f a b g j s k l F _ _ λm i e=>by exact q m i e)
theorem l6 {x:be} {xs:List be} {b:Bool} (h:Tr w sc r ρ x false) (k:Jg w sc r ρ (.BoolOp .Or xs pos) b):Jg w sc r ρ (.BoolOp .Or (x::xs) pos) b:=λA e i a c g j s d l m F Q E q=>isTrue_or (h A e i a c g j s l m F _ _ λu p f=>by exact k A e i a c u j p d l m (F.step f) Q E λt o n=>q t o (f.trans n))
theorem Jf {x:be} {xs:List be} (h:Tr w sc r ρ x true):Jg w sc r ρ (.BoolOp .Or (x::xs) pos) true:=λA d f a b g j s c k l F Q E q=>isTrue_or (h A d f a b g j s k l F _ _ λm i e=>by exact q m i e)
theorem K3 {t a b:be} (h:Tr w sc r ρ t true) (k:Ev w sc r ρ a P):Ev w sc r ρ (.IfExp t a b pos) P:=λA e i c d g j s l m F Q E q=>IfExp_ (h A e i c d g j s l m F _ _ λy p f=>by exact k A e i c d y j p l m (F.step f) Q E λv x o n u=>q v x o (f.trans n) u)
theorem sW {t a b:be} (h:Tr w sc r ρ t false) (k:Ev w sc r ρ b P):Ev w sc r ρ (.IfExp t a b pos) P:=λA e i c d g j s l m F Q E q=>IfExp_ (h A e i c d g j s l m F _ _ λy p f=>by exact k A e i c d y j p l m (F.step f) Q E λv x o n u=>q v x o (f.trans n) u)
theorem oB {e:be} {i:Int} (h:Ev w sc r ρ e (II i)):Ev w sc r ρ (.UnaryOp .USub e pos) (II (-i)):=λA c j a b g k s l m F Q E q=>
 OV (h A c j a b g k s l m F _ _ λv n o d f=>by
  obtain ⟨t,rfl⟩:=f.int_inv;exact M8 (q _ n _ (d.trans ((F.step d).ss.tok _)) (.int _ _)))
theorem CI {e:be} {i:Int} (h:Ev w sc r ρ e (II i)):Ev w sc r ρ (.UnaryOp .Invert e pos) (II (gL i)):=λA c j a b g k s l m F Q E q=>
 OV (h A c j a b g k s l m F _ _ λv n o d f=>by
  obtain ⟨t,rfl⟩:=f.int_inv;exact Ng (q _ n _ (d.trans ((F.step d).ss.tok _)) (.int _ _)))
theorem Jw {a b:be} {es:List be} {d:ag} (h:Ev w sc r ρ a (DV d)) (k:AO w r d true) (h2:Ev w sc r ρ (.BoolOp .And (b::es) pos) P):Ev w sc r ρ (.BoolOp .And (a::b::es) pos) P:=λA f m c e g n s o j F Q E q=>
 BoolOp_and (h A f m c e g n s o j F _ _ λv D y i t=>k D v t A y j (F.step i).ss _ _ λC x l=>by
  exact h2 A f m c e C n x o j ((F.step i).step l) Q E λv B u p z=>q v B u ((i.trans l).trans p) z)
theorem Jx {a b:be} {es:List be} {d:ag} (h:Ev w sc r ρ a (DV d)) (k:AO w r d false):Ev w sc r ρ (.BoolOp .And (a::b::es) pos) (DV d):=λA f n c e g t s u m F Q E q=>
 BoolOp_and (h A f n c e g t s u m F _ _ λv y p j l=>k y v l A p m (F.step j).ss _ _ λx o i=>by
  exact q v x o (j.trans i) (l.mono i.le))
theorem Jy {op:BoolOp} {a:be} (h:Ev w sc r ρ a P):Ev w sc r ρ (.BoolOp op [a] pos) P:=λA d e b c g f s i j F Q E q=>BoolOp_one (h A d e b c g f s i j F Q E q)
end
section
variable {w:ar} {sc:bf} {r:Nat} {ρ ρ':dh} {pos:cU} {P:ci} {o:m6}
noncomputable def K6 (w:ar) (sc:bf) (r:Nat) (st:Bool):List be->List ag->dh->dh->Prop
 | [],[],ρ,ρ'=>ρ=ρ'
 | t::ts,d::ds,ρ,ρ'=>∃ ρ₁,uI w sc r t d ρ ρ₁ st/\K6 w sc r st ts ds ρ₁ ρ'
 | _,_,_,_=>False
theorem K6.length {st:Bool} {ts:List be}:∀ {a:List ag} {c b:dh},K6 w sc r st ts a c b->ts.length=a.length:=by
 induction ts with
 | nil=>exact λ{a}=>a.rec (λ_=>rfl) λ_ _ _ h=>h.elim
 | cons t ts d=>exact λ{a}=>a.rec (λh=>h.elim) λ_ _ _ h=>h.elim λ_ h=>congrArg uk (d h.2)
theorem K6.run {A:bj} {env:fg} {st:Bool} {s₀:af} {g₀:aA} {pr:Pr} (x:cB sc env) (hA:Rm r A) {Q:Unit->af->Prop} {E:ae->af->Prop} {ts:List be}:∀ {b:List ag} {c:List ae} {i a:dh} {g:aA} {s:af},K6 w sc r st ts b i a->FS w st s₀ g₀ env g pr i s->VA g c b-> (∀ m l,eN g m->FS w st s₀ g₀ env m pr a l->Q () l)->aV (MM w) A (assignInOrder (ts.map λt=>fu t env) c) Q E s:=by
 induction ts with
 | nil=>
  intro b c i a g s h F j q;cases b with
  | cons d b=>exact h.elim
  | nil=>obtain rfl:=h;exact ah (q g s (eN.refl g) F)
 | cons t ts u=>
  intro b c i a g s h F j q;cases b with
  | nil=>exact h.elim
  | cons d b=>refine e12 h λk z y=>?_;clear h;refine e22 (B4 (j.length.trans rfl)) λv c n G=>?_;obtain rfl:=n;exact aa (bw (z A env s₀ g₀ g pr s v x hA F j.uncons.1 _ _ λI H f D=>u y D (j.uncons.2.mono f) λB p e C=>q B p (f.trans e) C))
theorem xI {env:fg}:∀ a:List be,(a.map λt=>(false,fu t env)).findIdx? (·.1)=none
 | []=>rfl
 | t::a=>by rw [bV,List.findIdx?_cons];(rw [xI a];rfl)
noncomputable def Gu (sc:bf):fg:={(default:fg) with scope:=sc}
theorem Gj {sc:bf} {env:fg} (a:cB sc env) (t:List be) (e:be):uK t e env=uK t e (Gu sc):=by
 obtain ⟨_,_,_,_,_,_,_,_,_⟩:=env;cases a.scp;rfl
theorem uI.tuple {ts:List be} {k:Nat} {ds:List ag} {st:Bool} (h:K6 w sc r st ts ds ρ ρ') (B:autoParam (∀ a,assignEach ts a=ts.map λt=>(false,fu t a)) am._auto_9):uI w sc r (.Tuple ts k pos) (.tuple ds) ρ ρ' st:=by
 intro A a c f g p s v C j F y Q E q;refine e23 (V.tuple_inv y) λt m l z d=>?_;obtain rfl:=l;obtain e:=B a;refine aa (ct ?_);rw [e];unfold unpack;rw [(show (ts.map λt=>(false,fu t a)).length=m.toArray.size from by simp [h.length,d.length]),xI ts];refine aa (bw (cC (FU j.handled (IsTuple.up z F.ss.sub) λD x u=>?_)));rw [cz];obtain I:FS w st c f a g p ρ {s with heap:=D}:=F.step (F.ss.same (Stp.heap (λb o e=>x b o (bg (aH e)) e) u));exact K6.run C j h I d λG n i H=>q G n i H
theorem fE {ts:List be} {k:Nat} {tp:cU} {e:be} {ds:List ag} (h:Ev w sc r ρ e (TT ds)) (x:K6 w sc r true ts ds ρ ρ') (u:autoParam (∀ a,assignEach ts a=ts.map λt=>(false,fu t a)) am._auto_9) (hs:autoParam (∀ a,OW [.Tuple ts k tp] e pos.line a=pure false) am._auto_9) (hw:autoParam (uK [.Tuple ts k tp] e (Gu sc)=pure none) Bq._auto_6):lF w sc r ρ (.Assign [.Tuple ts k tp] e pos) (.next ρ'):=λA a b c g j s f l F Q E q=>Assign_Tuple (h A a true b c g j s f l F _ _ λv z n i p=>uI.tuple x u A a b c z j n v f l (F.step i) p _ _ λy m d B=>q _ y m (i.le.trans d) ⟨rfl,B⟩) (hs a) ((Gj f _ _).trans hw)
theorem BC {A:bj} {env:fg} {st:Bool} {s₀:af} {g₀ g:aA} {pr:Pr} {s:af} {v:ae} {ds:List ag} {n:Nat} (hA:Rm r A) (F:FS w st s₀ g₀ env g pr ρ s) (j:V g v (.tuple ds)) (l:n=ds.length) {Q:List ae->af->Prop} {E:ae->af->Prop} (q:∀ a d,FS w st s₀ g₀ env g pr ρ d->VA g a ds->Q a d):aV (MM w) A (unpackItems v n none) Q E s:=by
 refine e23 (V.tuple_inv j) λt a f k c=>?_;obtain rfl:=f;rw [(show n=a.toArray.size from by simp [c.length,l])];refine cC (FU hA.handled (IsTuple.up k F.ss.sub) λm i h=>?_);exact q a _ (F.step (F.ss.same (Stp.heap (λb o e=>i b o (bg (aH e)) e) h))) c
theorem Fd {a b:aE} {m l tp:cU} {k:Nat} {e:be} {x y:ag} (h:Ev w sc r ρ e (TT [x,y])) (h1:sc.names.lookup a=some .local) (h2:sc.names.lookup b=some .local) (hs:autoParam (∀ c,OW [.Tuple [.Name a m,.Name b l] k tp] e pos.line c=pure false) am._auto_9) (hw:autoParam (uK [.Tuple [.Name a m,.Name b l] k tp] e (Gu sc)=pure (some [a,b])) Bq._auto_6):lF w sc r ρ (.Assign [.Tuple [.Name a m,.Name b l] k tp] e pos) (.next ((a,.d x)::(b,.d y)::ρ)):=by
 intro A c f i g z s j p F Q E q;refine Assign_Tuple_swapped (h A c true f i g z s j p F _ _ λv C N n B=>?_) (hs c) ((Gj j _ _).trans hw);refine BC p (F.step n) B rfl λI M H d=>?_;refine e21 (jz (d.length.trans rfl)) λK J t=>?_;obtain rfl:=t;refine aa (bw (lG (H.store j (.inl h2) (b:=.d y) d.uncons.2.uncons.1 λL G=>?_)));refine aa (bw (lG (G.store j (.inl h1) (b:=.d x) d.uncons.1 λu D=>?_)));exact ah (q _ C u n.le ⟨rfl,D⟩)
noncomputable def cA (x:aE) (ρ:dh):Bool:=ρ.all λp=>p.1==x || !pC p.2
theorem iS {x y:aE} {b:B}:∀ {e:dh},cA x e=true->e.lookup y=some b->y≠x->pC b=false
 | [],_,h,_=>by cases h
 | (n,c)::r,h,a,d=>by
  delta cA at h;rw [r6,bN] at h;rw [aK] at a;by_cases f:y=n
  ·subst f;replace a:=(beq_self_eq_true y)▸a;refine iM a λg=>?_;clear a;subst g;obtain this:=h.1;rw [show (y==x)=false from beq_false_of_ne d,Bool.false_or] at this;simpa using this
  ·replace a:=(show (y==n)=false from beq_false_of_ne f)▸a;exact iS h.2 a d
section
variable {st:Bool} {s₀ s:af} {g₀ g:aA} {env:fg} {pr:Pr}
theorem FS.own {z:Bool} (F:FS w st s₀ g₀ env g pr ρ s) {x:aE} {a:ay} {ds:List ag} (hx:ρ.lookup x=some (.own a ds z)):(∃ b n,s.heap.get? a=some (ao (kH b) n)/\VA g b ds)/\l7 s₀ env g pr a/\(z=true->s₀.heap.objs.size<=a):=by
 refine bc λc=>?_;obtain ⟨m,h,d⟩:=F.vars;refine e12 (d x _ hx) λv f e=>?_;refine c ?_;exact e.2
theorem Jn.sameBut {m:aE->Option ae} {h h':aA} {a:ay} (hs:bR a h h') (e:∀ n c,env.cells.lookup n=some c->c≠a) {y:aE} {v:ae} (x:Jn m h env y v):Jn m h' env y v:=by
 rcases x with ⟨d,b⟩ | ⟨d,c,b,h3⟩;·exact .inl ⟨d,b⟩
 ·exact .inr ⟨d,c,b,h3.sameBut hs (e _ _ b)⟩
theorem FS.turnAt (F:FS w st s₀ g₀ env g pr ρ s) {x:aE} {a:ay} {b b':B} {h':aA} {tk:Nat} (hx:ρ.lookup x=some b) (ho:cA x ρ=true) (hs:bR a s.heap h') (C:l7 s₀ env g pr a) (hb:∀ v,r9 s₀ env g s.heap pr v b->r9 s₀ env g h' pr v b'): FS w st s₀ g₀ env g pr ((x,b')::ρ) {s with heap:=h',toks:=tk}:=by
 refine e05 C λK D J k I=>?_;clear C;obtain ⟨m,G,t⟩:=F.vars;refine ⟨F.ss₀,⟨(F.aft.toStp.changeOff D hs),F.aft.le,(λb o q=>(hs.2 b λz=>by rw [z,K] at q;exact lE q).trans (F.ss.sub b o q)),F.aft.new,λc=>(F.aft.codes c).sameBut hs D.2⟩,F.newL,F.notL,(i12 m (G.sameBut hs (db J)) (λy c d=>?_)),λn c A=>?_,F.apart,⟨λp u=>?_,F.prot.gens⟩,F.newC⟩
 ·rw [aK] at d;by_cases e:y=x
  ·subst e;replace d:=(beq_self_eq_true y)▸d;refine iM d λE=>?_;clear d;subst E;refine e12 (t y _ hx) λv h f=>?_;exact i12 v (h.sameBut hs k) (hb v f)
  ·replace d:=(show (y==x)=false from beq_false_of_ne e)▸d;refine e12 (t y c d) λv h f=>?_;exact i12 v (h.sameBut hs k) (f.free (iS ho d e) (eN.refl _))
 ·refine e03 (F.cells n c A) λl i H=>?_;refine e11 l λv j=>?_;clear l;exact i03 ⟨v,j.sameBut hs (k _ _ A)⟩ i H
 ·refine e02 (F.prot.objs p u) λj i=>?_;exact ⟨(hs.2 _ (I p u)).trans j,i⟩
theorem FS.turnOwn {z:Bool} (F:FS w st s₀ g₀ env g pr ρ s) {x:aE} {a:ay} {ds es:List ag} {h':aA} {tk n:Nat} {ws:List ae} (hx:ρ.lookup x=some (.own a ds z)) (ho:cA x ρ=true) (hs:bR a s.heap h') (c:h'.get? a=some (ao ws.toArray n)) (hw:VA g ws es): FS w st s₀ g₀ env g pr ((x,.own a es z)::ρ) {s with heap:=h',toks:=tk}:=
 F.turnAt hx ho hs (F.own hx).2.1 λv b=>(i03 b.1 (i22 ws n c hw) b.2.2)
theorem FS.freeze (F:FS w st s₀ g₀ env g pr ρ s) {x:aE} {a:ay} {ds:List ag} (hx:ρ.lookup x=some (.own a ds)) (ho:cA x ρ=true):∃ i,eN g i/\FS w st s₀ g₀ env i pr ((x,.d (.list ds))::ρ) s:=by
 refine bc λA=>?_;refine e03 (F.own hx) λz u M=>?_;refine e22 z λO n N I=>?_;clear z;refine e05 u λR Q L K J=>?_;clear u;refine e14 (iB.freeze F.ss₀ F.aft N (M rfl)) λi y h H f=>?_;obtain ⟨m,G,B⟩:=F.vars;refine A ?_;clear A;refine ⟨i,h,F.ss₀,y,F.newL,f _ (db L) F.notL,(i12 m G (λy b d=>?_)),λn c D=>?_,F.apart,⟨λp C=>?_,F.prot.gens⟩,F.newC⟩
 ·rw [aK] at d;by_cases e:y=x
  ·subst e;replace d:=(beq_self_eq_true y)▸d;refine iM d λE=>?_;clear d;subst E;refine e12 (B y _ hx) λv j k=>?_;obtain rfl:=k.1;exact i12 _ j (jA H (I.mono h))
  ·replace d:=(show (y==x)=false from beq_false_of_ne e)▸d;refine e12 (B y b d) λv j k=>?_;exact i12 v j (k.free (iS ho d e) h)
 ·refine e03 (F.cells n c D) λt q l=>?_;exact i03 t (f _ (K _ _ D) q) l
 ·refine e03 (F.prot.objs p C) λt q l=>?_;exact i03 t (f _ (J p C) q) l
end
theorem Ex.freeze {x:aE} {a:ay} {ds:List ag} {xs:List cD} (hx:ρ.lookup x=some (.own a ds)) (k:Ex w sc r ((x,.d (.list ds))::ρ) xs o) (ho:autoParam (cA x ρ=true) auT._auto_1):Ex w sc r ρ xs o:=by
 intro A f b d g i s j l F Q E q;refine e12 (F.freeze hx ho) λn e t=>?_;exact k A f b d n i s j l t Q E λp m h c=>q p m h (e.trans c)
theorem mT {x:aE} {p lp:cU} {es:List be} {ds:List ag} {xs:List cD} (h:rf w sc r ρ es (ds.map DV)) (hz:ds.length<=dK) (hx:sc.names.lookup x=some .local) (k:∀ a,Ex w sc r ((x,.own a ds)::ρ) xs o):Ex w sc r ρ (.Assign [.Name x p] (.List es lp) pos::xs) o:=by
 intro A j d f g B s t D F Q E q;refine bI (dw (mV (h.run A j true d f g B s _ t D F _ _ λz M l y C=>⟨?_,?_⟩)) rfl);·have:=C.va.length;have:=j8;lia
 ·obtain i:=F.step y;refine (i.step (i.ss.same (Stp.push l ({cls:=.type "list",data:=.seq z.toArray}:ff) l.toks))).store t (.inl hx) (b:=.own l.heap.objs.size ds) (i04 rfl (i22 z 0 (az _ rfl) C.va) (i05 (i.ss.none (aq _)) (Jj.of F.ss₀.big i.aft.size) (ed i.ltL) (λn c J e=>?_) (λp I e=>?_)) (λ_=>i.aft.size)) λH O=>?_
  ·refine e02 (i.cells n c J) λu R=>?_;refine e11 u λv K=>?_;clear u;exact bg K.lt e
  ·exact bg (aH (i.prot.objs p I).1) e
  ·exact k _ A j d f M B H t D O Q E λN L G m=>q N L G (y.le.trans m)
theorem lF.append {z:Bool} {x:aE} {a:ay} {p ap cp:cU} {ds:List ag} {e:be} {d:ag} (hx:ρ.lookup x=some (.own a ds z)) (h:Ev w sc r ρ e (DV d)) (hz:ds.length<dK) (ho:autoParam (cA x ρ=true) auT._auto_1) (C:autoParam ((x==("__classdict__":aE))=false) auF._auto_1) (B:autoParam ((x==("__debug__":aE))=false) auF._auto_1) (k:autoParam ((ap.endLine==cp.line)=true) auT._auto_1) (j:autoParam (∀ c,bW [e] c=(false,eW e c)::bW [] c) am._auto_9):lF w sc r ρ (.Expr (.Call (.Attribute (.Name x p) (ac "append") ap) [e] [] cp) pos) (.next ((x,.own a (ds++[d]) z)::ρ)):=by
 intro A c i l g T s D M F Q E q;refine eV ?_ D.int rfl;refine e11 (eS (o:=.Name x p) (name:=ac "append") (args:=[e]) (λ_=>rfl) (uU j _ c) k (show 1<30 by decide)) λpl V=>?_;refine eH (Ev.name hx C B A c true i l g T s D M F _ _ λv g1 S K R=>?_) V;obtain rfl:=R;have G:=F.step K;refine e02 (G.own hx) λI Z=>?_;refine e22 I λm n f t=>?_;clear I;obtain k:S.heap.IsList a m.toArray:=⟨_,f,rfl,n,rfl⟩;refine dY k.typeIs eb dU jU (λb e=>by cases e;exact i12 _ f rfl) ?_;refine cL D M G (rf.cons h rf.nil vH.d j) (D9.plain λa e=>by cases e) λus X y J L=>?_;refine e11 (hY L.length.symm) λu O=>?_;obtain rfl:=O;have N:=G.step J;refine e02 (N.own hx) λH Y=>?_;refine e22 H λm n f t=>?_;clear H;obtain k:y.heap.IsList a m.toArray:=⟨_,f,rfl,n,rfl⟩;refine ck dU k.typeIs jw ?_ (jV _ _);refine (?_:aV _ _ (nY a (·.push u)>>=λ_=>ug dD) _ _ y);refine aa (eX f rfl (ah (i12 dD rfl ?_)) (by rw [bk,t.length];exact pA hz) (by have:=pA hz;have W:=t.length;simp;exact fa2 this (aj W)));obtain U:(y.heap.update a (bu (·.push u))).get? a=some (ao (m++[u]).toArray (n+1)):=by
  rw [bn _ f rfl,gW]
 exact q _ X _ (K.trans J).le ⟨rfl,N.turnOwn hx ho (aU ..) U (t.append (.cons L.1 (VA.nil _)))⟩
theorem VA.set {g:aA} {v:ae} {d:ag} {vs:List ae} {ds:List ag} (i:Nat) (h:VA g vs ds) (y:V g v d):VA g (vs.set i v) (ds.set i d):=
 h.ind (P:=λvs ds=>∀ i,VA g (vs.set i v) (ds.set i d)) (λ_=>trivial) (λx h k i=>i.rec ⟨y,h⟩ λi _=>⟨x,k i⟩) i
theorem zT {A:bj} {s:af} {l:ay} {vs:List ae} {n:Nat} {i:Int} {t:C9} {v:ae} {Q:Unit->af->Prop} {E:ae->af->Prop} (h:s.heap.get? l=some (ao vs.toArray n)) (h0:0<=i) (hfit:i<2 ^ 63) (hk:i.toNat<vs.length) (q:∀ h' n',h'.get? l=some (ao (vs.set i.toNat v).toArray n')->bR l s.heap h'->Q () {s with heap:=h'}):aV (MM w) A (Pd (.ref l) (.int i t) v) Q E s:=by
 revert w A s l vs n i t v Q E;intros w A s l vs n i t v Q E;intro h h0 hfit hk q;obtain hl:s.heap.IsList l vs.toArray:=⟨_,h,rfl,n,rfl⟩;delta Pd;try with_reducible refine bw ?_
 refine aa (wpAny_sequenceKey hl.typeIs rfl (aa ?_));refine eG (name:=ac "__setitem__") hl.typeIs LA (ck LA hl.typeIs entry_list_setitem ?_ (args_list_setitem _ _ _));refine (?_:aV _ _ (M0 (.int i t)>>=_) _ _ s);refine aa (wpAny_listSubscript_int (fitsIndex_of h0 hfit) ?_);obtain ⟨j,rfl⟩:=dj h0;refine aa (aa (wpAny_seqItemAt h rfl (ah ?_)));rw [(gk (by simpa using hk))];have e2:(ao vs.toArray n).mapSeq (·.setIfInBounds j v)=ao (vs.set j v).toArray n:=by
  delta bu ao;simp
 obtain hn:(s.heap.update l (bu (·.setIfInBounds j v))).get? l=some (ao (vs.set j v).toArray n):=by
  rw [bn _ h rfl,e2]
 refine aa (wpAny_setSeqItemAt h rfl ?_);first
  | exact aa (ah (ah (i03 .none rfl (ah (q _ _ hn (aU ..))))))
  | exact ah (i12 .none rfl (ah (q _ _ hn (aU ..))))
theorem zS {A:bj} {s:af} {l:ay} {vs:List ae} {n k:Nat} {t:C9} {v:ae} {Q:Unit->af->Prop} {E:ae->af->Prop} (h:s.heap.get? l=some (ao vs.toArray n)) (c:k<vs.length) (hz:vs.length<=dK) (q:∀ a b,a.get? l=some (ao (vs.set k v).toArray b)->bR l s.heap a->Q () {s with heap:=a}):aV (MM w) A (Pd (.ref l) (.int k t) v) Q E s:=
 zT h (bF k) (by delta dK at hz;lia) c q
theorem tJ {z:Bool} {x:aE} {a:ay} {p sp:cU} {ds:List ag} {e i:be} {d:ag} {k:Nat} (hx:ρ.lookup x=some (.own a ds z)) (h:Ev w sc r ρ e (DV d)) (hi:Ev w sc r ρ i (II k)) (U:k<ds.length) (hz:ds.length<=dK) (ho:autoParam (cA x ρ=true) auT._auto_1) (B:autoParam ((x==("__classdict__":aE))=false) auF._auto_1) (y:autoParam ((x==("__debug__":aE))=false) auF._auto_1) (hs:autoParam (∀ b,gO e (some (.Subscript (.Name x p) i sp)) pos.line b=pure false) am._auto_9):lF w sc r ρ (.Assign [.Subscript (.Name x p) i sp] e pos) (.next ((x,.own a (ds.set k d) z)::ρ)):=by
 intro A b c f g m s C D F Q E q;refine wpAny_Assign_Subscript (h A b true c f g m s C D F _ _ λv X S I O=>?_) (hs b);obtain L:=F.step I;refine Ev.name hx B y A b true c f X m S C D L _ _ λu W R l N=>?_;obtain rfl:=N;have K:=L.step l;refine hi A b true c f W m R C D K _ _ λiv V s3 j M=>?_;obtain ⟨t,rfl⟩:=M.int_inv;have J:=K.step j;refine e02 (J.own hx) λH Z=>?_;refine e22 H λvs n Y G=>?_;clear H;refine zS Y (kl U (id (jl G.length))) (fa2 hz (aj G.length)) λh' n' T hs=>?_;exact q _ V _ ((I.trans l).trans j).le ⟨rfl,J.turnOwn hx ho hs T (G.set k ((O.mono l.le).mono j.le))⟩
end
section
variable {w:ar} {sc:bf} {r:Nat} {ρ ρ':dh} {pos:cU} {P:ci}
theorem VA.ints {g:aA} {vs:List ae} {ns:List Int} (h:VA g vs (ns.map .int)):Pv vs ns:=h.indM .nil λ_ n _ _ x _ k=>x.int_inv.elim λt e=>e▸.cons n t k
theorem E4 {g:aA} {vs:List ae} {ns:List Int} (h:Pv vs ns):VA g vs (ns.map .int):=by
 induction h with
 | nil=>exact VA.nil g
 | cons n t h a=>exact .cons (.int n t) a
theorem D6 {g:aA}:∀ {l:List (aE × C9)},VA g (tO l) (l.map λp=>.str p.1)
 | []=>VA.nil g
 | (x,t)::l=>.cons (.str x t) D6
theorem VA.toStrs {g:aA} {vs:List ae} {xs:List aE} (h:VA g vs (xs.map .str)):∃ l,vs=tO l/\l.map (·.1)=xs:=
 h.indM (P:=λvs xs=>∃ l,vs=tO l/\l.map (·.1)=xs) ⟨[],rfl,rfl⟩ λ_ n _ _ x _ k=>x.str_inv.elim λt e=>k.elim λl q=>⟨(n,t)::l,e▸congrArg (_::·) q.1,congrArg (n::·) q.2⟩
theorem fL {ds:List ag} (hz:ds.length<=dK):iu w r (.builtin "len") [LL ds] (II ds.length):=by
 intro g i b A s k S Q E q;refine e11 (hY b.length.symm) λv d=>?_;obtain rfl:=d;refine e24 (V.list_inv b.1) λl j c f a h=>?_;obtain rfl:=c;obtain e:=a.length;delta dK at hz;refine FD (IsList.up f S.sub) (by simp;exact cY.2 (fa2 hz (aj e))) ?_;rw [bk,e];exact q _ g _ (S.tok _) (.int _ _)
theorem Bc {x:aE} (hz:x.length<=dK):iu w r (.builtin "len") [SSV x] (II x.length):=by
 intro g d a A s e S Q E q;refine e11 (hY a.length.symm) λv c=>?_;obtain rfl:=c;refine e11 (V.str_inv a.1) λt b=>?_;obtain rfl:=b;delta dK at hz;exact Nd (by lia) (q _ g _ (S.tok _) (.int _ _))
theorem HN {i:Int} (h:Sm i):iu w r (.type "str") [II i] (SSV (toString i)):=by
 intro g l a A s f S Q E q;refine e11 (hY a.length.symm) λv c=>?_;obtain rfl:=c;refine e11 (V.int_inv a.1) λt b=>?_;obtain rfl:=b;obtain e:s.heap.NoDigits:=by
  obtain ⟨d,k,j⟩:=S.base.dig;exact i12 d (k.keeps S.sub) j
 refine str_of_int_or f.handled e (λ_=>q _ g _ (S.tok _) (.str _ _)) λm=>?_;exfalso;delta Sm at h;lia
theorem Be {i j:Int} (h0:j≠0) (h:j.natAbs<2 ^ 30):iu w r (.builtin "divmod") [II i,II j] (TT [.int (i.fdiv j),.int (i.fmod j)]):=by
 intro g k a A s m S Q E q;refine e21 (jz a.length.symm) λv u d=>?_;obtain rfl:=d;refine e11 (V.int_inv a.1) λt c=>?_;obtain rfl:=c;refine e11 (V.int_inv a.2.1) λl b=>?_;obtain rfl:=b;refine Np h0 ?_ (.inl (zo (kS h)));refine e12 (S.growPush ({cls:=.type "tuple",data:=.seq #[.int (i.fdiv j) s.toks,.int (i.fmod j) (s.toks+1)]}:ff) (s.toks+1+1) rfl) λf x e=>?_;exact q _ f _ x (V.tuple ⟨_,e,rfl,_,rfl⟩ (.cons (.int _ _) (.cons (.int _ _) (VA.nil _))))
theorem qb {s:af} {h':aA} {t:Nat} (a:∀ b o,s.heap.get? b=some o->h'.get? b=some o) (hz:s.heap.objs.size<=h'.objs.size):wH s {s with heap:=h',toks:=t}:=Stp.heap a hz
theorem HQ {i j:Int}:iu w r (.builtin "max") [II i,II j] (II (if j>i then j else i)):=by
 intro g m a A s l S Q E q;refine e21 (jz a.length.symm) λv u e=>?_;obtain rfl:=e;refine e11 (V.int_inv a.1) λt d=>?_;obtain rfl:=d;refine e11 (V.int_inv a.2.1) λf b=>?_;obtain rfl:=b;refine cC (PySem.max_two_ints l.handled λo n k h=>?_);obtain this:=q (.int (if j>i then j else i) (if j>i then f else t)) g _ (S.same (qb k h)) (.int _ _);by_cases c:j>i;·simpa only [if_pos c] using this
 ·simpa only [if_neg c] using this
theorem HO {i j:Int}:iu w r (.builtin "min") [II i,II j] (II (if j<i then j else i)):=by
 intro g m a A s l S Q E q;refine e21 (jz a.length.symm) λv u e=>?_;obtain rfl:=e;refine e11 (V.int_inv a.1) λt d=>?_;obtain rfl:=d;refine e11 (V.int_inv a.2.1) λf b=>?_;obtain rfl:=b;refine cC (PySem.min_two_ints l.handled λo n k h=>?_);obtain this:=q (.int (if j<i then j else i) (if j<i then f else t)) g _ (S.same (qb k h)) (.int _ _);by_cases c:j<i;·simpa only [if_pos c] using this
 ·simpa only [if_neg c] using this
theorem lk {o:be} {name:aE} {id:String} {apos:cU} {args:List be} {x:aE} {Ps:List ci} (ho:Ev w sc r ρ o (SSV x)) (j:rf w sc r ρ args Ps) (a:Oq "str" name id) (c:v9 (.builtin id)=pure (.type "method_descriptor")) (b:iu w r (.builtin id) (SSV x::Ps) P) (hb:autoParam (∀ d m,fZ o name d m=m) am._auto_9) (i:autoParam ((apos.endLine==pos.line)=true) auT._auto_1) (h:autoParam (args.length<30) n7._auto_19):Ev w sc r ρ (.Call (.Attribute o name apos) args [] pos) P:=
 zf ho j (λg v f s k=>by obtain ⟨t,rfl⟩:=f.str_inv;exact ⟨kN _ _ _,λ_ e=>(by cases e)⟩) oQ a c b hb i h
theorem vZ {x y:aE}:iu w r (.builtin "str.startswith") [SSV x,SSV y] (BB (fw x y)):=by
 intro g e a A s h S Q E q;refine e21 (jz a.length.symm) λv u d=>?_;obtain rfl:=d;refine e11 (V.str_inv a.1) λt c=>?_;obtain rfl:=c;refine e11 (V.str_inv a.2.1) λf b=>?_;obtain rfl:=b;exact PY (q _ g _ (iB.refl S.sub) (.bool _))
theorem sZ {x:aE} {xs:List aE} (c:zm x xs=true):iu w r (.builtin "str.join") [SSV x,LL (xs.map .str)] (SSV (iL x xs)):=by
 intro g m b A s y S Q E q;refine e21 (jz b.length.symm) λv u h=>?_;obtain rfl:=h;refine e11 (V.str_inv b.1) λt f=>?_;obtain rfl:=f;refine e24 (V.list_inv b.2.1) λl n d i a j=>?_;obtain rfl:=d;obtain ⟨p,rfl,e⟩:=a.toStrs;exact P9 (IsList.up i S.sub) e c (λo k=>q _ g _ (S.tok _) (.str _ _))
theorem SS.growNew {g:aA} {s:af} {h':aA} {t:Nat} (S:SS w g s) (c:∀ b o,s.heap.get? b=some o->h'.get? b=some o) (hz:s.heap.objs.size<=h'.objs.size) {D:ay} (e:s.heap.objs.size<=D) {o:ff} (ho:h'.get? D=some o): ∃ a,iB s g {s with heap:=h',toks:=t} a/\a.get? D=some o:=by
 refine e12 (S.grow (Stp.heap (t:=t) c hz) (λb=>b==D) (λb d=>by rw [bE d];exact e)) λa x k=>?_;exact i12 a x (k _ _ (by simp) ho)
theorem SS.newStrs {g:aA} {s:af} (S:SS w g s) {l:List (aE × C9)} {xs:List aE} {k:Nat} (e:l.map (·.1)=xs):∃ a,iB s g {s with heap:=s.heap.push {cls:=.type "list",data:=.seq (tO l).toArray},toks:=k} a/\V a (.ref s.heap.objs.size) (.list (xs.map .str)):=by
 refine e12 (S.growPush ({cls:=.type "list",data:=.seq (tO l).toArray}:ff) k rfl) λa x b=>?_;refine i12 a x (V.list b rfl rfl rfl ?_);obtain this:xs.map da=l.map λp=>.str p.1:=by rw [<- e,cz];rfl
 rw [this];exact D6
open PySem.Builtin.Str in
theorem CL {x y:aE} (j:(y.length==0)=false) (hz:x.length<=dK) (i:(partsBetween x (occurrences x y 0 x.length (x.length+1)) y.length).length<=dK):iu w r (.builtin "str.split") [SSV x,SSV y] (LL ((fy x y).map .str)):=by
 revert w r x y;intros w r x y;intro j hz i;intro g C m A s D S Q E q;refine e21 (jz m.length.symm) λv u p=>?_;obtain rfl:=p;refine e11 (V.str_inv m.1) λt o=>?_;obtain rfl:=o;refine e11 (V.str_inv m.2.1) λh n=>?_;obtain rfl:=n;obtain z:=j8;have c:∀ (l:List (aE × C9)) k,l.map (·.1)=fy x y->Q (.ref s.heap.objs.size) {s with heap:=s.heap.push {cls:=.type "list",data:=.seq (tO l).toArray},toks:=k}:=λl k e=>by
  refine e12 (S.newStrs (k:=k) e) λB a b=>?_;exact q _ B _ a b
 cases d:(decide (x.length<y.length) || decide (strKind x<strKind y))
 ·cases f:(occurrences x y 0 x.length (x.length+1)).isEmpty
  ·refine oM eC (kN _ _ _) jT (nG _ _) (meets_str_split_sep x y t h d j f (by exact ab (by assumption) (by decide)) (by exact ab (by assumption) (by decide))) ?_;show wants Q E _ {s with toks:=_,heap:=s.heap.push {cls:=.type "list",data:=.seq (strsFrom s.toks (partsBetween x (occurrences x y 0 x.length (x.length+1)) y.length)).toArray}};rw [strsFrom_eq];exact c (numbered s.toks _) _ ((numbered_texts _ _).trans ((if_neg (ne_true_of_eq_false d)).trans (if_neg (ne_true_of_eq_false f))).symm)
  ·exact oM eC (kN _ _ _) jT (nG _ _) (meets_str_split_not_found x y t h d j f) (c [(x,t)] s.toks ((if_neg (ne_true_of_eq_false d)).trans (if_pos f)).symm)
 ·exact oM eC (kN _ _ _) jT (nG _ _) (meets_str_split_cannot_occur x y t h d) (c [(x,t)] s.toks (if_pos d).symm)
theorem iu.int {x:aE} {n:Int} (d:wU x=some n) (e:x.length<=640):iu w r (.type "int") [SSV x] (II n):=by
 intro g f a A s h S Q E q;refine e11 (hY a.length.symm) λv c=>?_;obtain rfl:=c;refine e11 (V.str_inv a.1) λt b=>?_;obtain rfl:=b;exact On d e (q _ g _ (S.tok _) (.int _ _))
theorem HP {ns:List Int} {M:Int} (m:M∈ns) (H:∀ a∈ns,a<=M):iu w r (.builtin "max") [LL (ns.map .int)] (II M):=by
 intro g N k A s I S Q E q;refine e11 (hY k.length.symm) λv C=>?_;obtain rfl:=C;refine e24 (V.list_inv k.1) λl O B F n L=>?_;obtain rfl:=B;have u:=n.ints;obtain ⟨b,e⟩:=u.allInts.items;have d:ns=b.toList.map (·.1):=by rw [<- u.numsOf,<- nums_intItems,<- e]
 have c:0<b.size:=by
  obtain x:=List.length_pos_of_mem m;rw [d,ak] at x;exact x
 have f:=IsList.up F S.sub;replace f:=e▸f;refine cC (max_intList I.handled f c λv T R k G D=>?_);refine e11 (intItems_at k) λt z=>?_;obtain rfl:=z;refine e02 (argBest_gt (JB b) (b.size - 1)) λK J=>?_;refine q _ g _ (S.same (qb G D)) ?_;obtain h:JB b (argBest (λi j=>decide (JB b i>JB b j)) (b.size - 1))∈ns:=by
  rw [d,numAt_eq];exact getD_mem (by rw [ak,cI];exact Nat.lt_of_le_pred c K)
 obtain o:M<=JB b (argBest (λi j=>decide (JB b i>JB b j)) (b.size - 1)):=by
  replace m:=d▸m;refine e12 (mem_getD m) λj p y=>?_;obtain rfl:=y;rw [ak,cI] at p;rw [<- numAt_eq];exact J j ((Nat.le_sub_one_iff_lt c).mpr p)
 rw [fC o (H _ h)];exact .int _ _
theorem iu.type {d:ag} {T:String} (e:∀ g v,V g v d->∀ s:af,eN g s.heap->s.TypeIs v T) (c:(gx T==gx "builtin_function_or_method")=false):iu w r (.type "type") [DV d] (RV (.type T)):=by
 intro g f a A s h S Q E q;refine e11 (hY a.length.symm) λv b=>?_;obtain rfl:=b;exact call_type_of (e g v a.1 s S.sub) c (q _ g _ (iB.refl S.sub) rfl)
end
section
variable {w:ar} {sc:bf} {r:Nat} {t:be} {body:List cD} {fin:Bool}
theorem Jl {I:Nat->dh} {xs:List ag}:∀ {k:Nat},(∀ i x,xs[i]?=some x->∃ f d,uI w sc r t x (I (k+i)) f/\(Ex w sc r f body (.next d)\/Ex w sc r f body (.cont d))/\r8 (I (k+i+1)) d)->Lp w sc r t body true xs (I k) (.next (I (k+xs.length))):=by
 induction xs with
 | nil=>exact λ_=>⟨rfl,rfl⟩
 | cons x xs g=>intro k h;refine e23 (h 0 x rfl) λf d a b c=>?_;refine i12 f a (.inl (i23 d (I (k+1)) b c ?_));exact (fk k xs.length:k+1+xs.length=_)▸g (k:=k+1) λi y e=>(fk k i).symm▸h (i+1) y e
theorem Hx {I:Nat->dh} {xs:List ag} (h:∀ i x,xs[i]?=some x->∃ b a,uI w sc r t x (I i) b/\(Ex w sc r b body (.next a)\/Ex w sc r b body (.cont a))/\r8 (I (i+1)) a):Lp w sc r t body true xs (I 0) (.next (I xs.length)):=by
 simpa using (Jl (xs:=xs) (k:=0) (sc:=sc) (t:=t) (by simpa using h))
theorem ke {I:Nat->dh} {xs:List ag} {n:Nat} (c:xs.length=n) (h:∀ i x,xs[i]?=some x->∃ b a,uI w sc r t x (I i) b/\(Ex w sc r b body (.next a)\/Ex w sc r b body (.cont a))/\r8 (I (i+1)) a):Lp w sc r t body true xs (I 0) (.next (I n)):=c▸Hx h
theorem Hw {I:Nat->dh} {o:m6} {xs:List ag}:∀ {m k:Nat} {x:ag},xs[m]?=some x->(∀ i x,i<m->xs[i]?=some x->∃ d f,uI w sc r t x (I (k+i)) d/\(Ex w sc r d body (.next f)\/Ex w sc r d body (.cont f))/\r8 (I (k+i+1)) f)-> (∃ d,uI w sc r t x (I (k+m)) d/\((∃ P,Ex w sc r d body (.ret P)/\o=.ret P)\/∃ f,Ex w sc r d body (.brk f)/\o=.next f))->Lp w sc r t body fin xs (I k) o:=by
 induction xs with
 | nil=>exact λe=>(by cases e)
 | cons y xs j=>
  intro m k x e h g;cases m with
  | zero=>cases e;exact g.elim λd a=>⟨d,a.1,.inr a.2⟩
  | succ m=>refine e23 (h 0 y (kQ _) rfl) λd f a b c=>?_;refine i12 d a (.inl (i23 f (I (k+1)) b c (j (k:=k+1) e (λi y l e=>?_) ((fk k m).symm▸g))));exact (fk k i).symm▸h (i+1) y (Nat.succ_lt_succ l) e
theorem Jk {I:Nat->dh} {o:m6} {xs:List ag} (m:Nat) {x:ag} (c:xs[m]?=some x) (h:∀ i x,i<m->xs[i]?=some x->∃ a b,uI w sc r t x (I i) a/\(Ex w sc r a body (.next b)\/Ex w sc r a body (.cont b))/\r8 (I (i+1)) b) (d:∃ a,uI w sc r t x (I m) a/\((∃ P,Ex w sc r a body (.ret P)/\o=.ret P)\/∃ b,Ex w sc r a body (.brk b)/\o=.next b)):Lp w sc r t body fin xs (I 0) o:=
 Hw (m:=m) c (by simpa using h) (by simpa using d)
end
theorem Iz {a:Int} {n i:Nat} {x:ag} (h:(jK a n)[i]?=some x):x=.int (a+(i:Nat))/\i<n:=by
 revert a n i x;intros a n i x;intro h;delta jK at h;rw [av] at h;by_cases hi:i<n
 ·rw [jJ hi] at h;cases h;exact ⟨rfl,hi⟩
 ·rw [cn (by simp;exact ba hi)] at h;cases h
theorem pk {a:Int} {n:Nat}:(jK a n).length=n:=by simp [jK]
theorem uC {ns:List Int} {k:Nat} {x:Int} (h:ns[k]?=some x):D5 (ns.map .int) (k:Int)=some (.int x):=by
 delta D5;rw [bS,av,h];rfl
theorem nE {ds:List ag} {k:Nat} {x:ag} (h:ds[k]?=some x):D5 ds (k:Int)=some x:=by
 delta D5;rw [if_pos (bF k),bS,h]
theorem D3 {ds:List ag} {x:ag}:D5 (ds++[x]) (-1)=some x:=by
 delta D5;rw [if_neg (by decide),if_pos (by simp;exact (Z.leB_iff 1 (↑ds.length+1)).mp rfl),aB];rw [(show (-1+((ds.length+1:Nat):Int)).toNat=ds.length from by lia)];simp
theorem y7.nil:y7 [] [] []:=(i03 rfl rfl (λi c Q b a=>by trivial))
theorem y7.cons {x:aE} {b:B} {P:ci} {xs:List aE} {bs:List B} {ps:List ci} (h:tN P b) (k:y7 xs bs ps):y7 (x::xs) (b::bs) (P::ps):=⟨by simp [k.1],by simp [k.2.1],λi c Q d a=>by
 cases i with
 | zero=>cases d;cases a;exact h
 | succ i=>exact k.2.2 i c Q (by simpa using d) (by simpa using a)⟩
section
variable {w:ar} {sc:bf} {r:Nat} {ρ ρ':dh} {pos:cU} {P:ci}
theorem al {x:aE} {d:ag} (hb:ρ.lookup x=some (.d d)) (hx:autoParam ((x==("__classdict__":aE))=false) auF._auto_1) (a:autoParam ((x==("__debug__":aE))=false) auF._auto_1):Ev w sc r ρ (.Name x pos) (DV d):=Ev.name hb hx a
theorem CH {x:aE} {v:ae} (hb:ρ.lookup x=some (.raw v)) (hx:autoParam ((x==("__classdict__":aE))=false) auF._auto_1) (a:autoParam ((x==("__debug__":aE))=false) auF._auto_1):Ev w sc r ρ (.Name x pos) (RV v):=Ev.name hb hx a
theorem nT.eq {op:JJ} {d e f f':ag} (h:nT w r op d e f) (k:f=f'):nT w r op d e f':=k▸h
theorem kr.eq {op:Ox} {d e:ag} {f f':Bool} (h:kr w r op d e f) (k:f=f'):kr w r op d e f':=k▸h
theorem Ev.eq {e:be} {d d':ag} (h:Ev w sc r ρ e (DV d)) (k:d=d'):Ev w sc r ρ e (DV d'):=k▸h
theorem Tr.eq {e:be} {b b':Bool} (h:Tr w sc r ρ e b) (k:b=b'):Tr w sc r ρ e b':=k▸h
theorem iu.eq {f:ae} {Ps:List ci} {d d':ag} (h:iu w r f Ps (DV d)) (k:d=d'):iu w r f Ps (DV d'):=k▸h
theorem iu.le {r':Nat} {f:ae} {Ps:List ci} {P:ci} (h:iu w r f Ps P) (k:r<=r'):iu w r' f Ps P:=λg a b A s c=>h g a b A s (c.le k)
theorem bZ {x:aE} {v:ae} {np:cU} {args:List be} {Ps:List ci} (g:rf w sc r ρ args Ps) (b:iu w r v Ps P) (c:autoParam (q5 x=some v) auS._auto_1) (hp:autoParam (∀ a,v≠.ref a) LK._auto_1) (e:autoParam (∀ P,Bh (kF.heap_1 P) bA x=some dO) am._auto_9) (hx:autoParam (sc.names.lookup x=some .globalImplicit) auS._auto_1) (d:autoParam (x≠"__name__") n7._auto_19) (f:autoParam ((x==("__debug__":aE))=false) auF._auto_1):Ev w sc r ρ (.Call (.Name x np) args [] pos) P:=
 Ev.call (Ev.blt e c hx d f) g (D9.plain hp) b (λ_=>rfl)
theorem bX {x:aE} {v:ae} {np:cU} {args:List be} {Ps:List ci} (f:rf w sc r ρ args Ps) (b:iu w r v Ps P) (e:autoParam (∀ P,Bh (kF.heap_1 P) bA x=some (some v)) am._auto_9) (c:autoParam (∀ P,C6 (kF.heap_1 P) v=true) am._auto_9) (hx:autoParam (sc.names.lookup x=some .globalImplicit) auS._auto_1) (d:autoParam ((x==("__debug__":aE))=false) auF._auto_1):Ev w sc r ρ (.Call (.Name x np) args [] pos) P:=
 Ev.call (Ev.glob e hx d) f (D9.top c) b (λ_=>rfl)
theorem lF.set {x:aE} {p:cU} {e:be} {d:ag} (h:Ev w sc r ρ e (DV d)) (hx:autoParam (pt sc true x=true) auT._auto_1) (hs:autoParam (∀ a,gO e (some (.Name x p)) pos.line a=pure false) am._auto_9):lF w sc r ρ (.Assign [.Name x p] e pos) (.next ((x,.d d)::ρ)):=ie h tN.d hx hs
theorem rf.one {e:be} {d:ag} (h:Ev w sc r ρ e (DV d)) (b:autoParam (∀ a,bW [e] a=(false,eW e a)::bW [] a) am._auto_9):rf w sc r ρ [e] [DV d]:=.cons h .nil vH.d b
theorem rf.consD {e:be} {es:List be} {d:ag} {Ps:List ci} (h:Ev w sc r ρ e (DV d)) (k:rf w sc r ρ es Ps) (b:autoParam (∀ a,bW (e::es) a=(false,eW e a)::bW es a) am._auto_9):rf w sc r ρ (e::es) (DV d::Ps):=.cons h k vH.d b
theorem eA {x:aE} {p:cU} {d:ag} {st:Bool} (hx:autoParam (pt sc st x=true) auT._auto_1):uI w sc r (.Name x p) d ρ ((x,.d d)::ρ) st:=uI.name (pt.out hx)
theorem K6.two {a b:aE} {d c:cU} {x y:ag} {st:Bool} (h1:autoParam (pt sc st a=true) auT._auto_1) (h2:autoParam (pt sc st b=true) auT._auto_1):K6 w sc r st [.Name a d,.Name b c] [x,y] ρ ((b,.d y)::(a,.d x)::ρ):=⟨_,uI.name (pt.out h1),_,uI.name (pt.out h2),rfl⟩
theorem yb {a b c:aE} {f e d:cU} {x y z:ag} {st:Bool} (h1:autoParam (pt sc st a=true) auT._auto_1) (h2:autoParam (pt sc st b=true) auT._auto_1) (h3:autoParam (pt sc st c=true) auT._auto_1):K6 w sc r st [.Name a f,.Name b e,.Name c d] [x,y,z] ρ ((c,.d z)::(b,.d y)::(a,.d x)::ρ):=⟨_,uI.name (pt.out h1),_,uI.name (pt.out h2),_,uI.name (pt.out h3),rfl⟩
end
section
variable {w:ar} {sc:bf} {r:Nat} {ρ ρ':dh} {pos:cU} {P:ci}
theorem DG {v:ae} {k:Option Int} (h:IsPart v k):∃ p:Option (Int × C9),v=Mq p/\p.map (·.1)=k:=by
 cases h with
 | none=>exact i12 none rfl rfl
 | int i t=>exact i12 (some (i,t)) rfl rfl
theorem sV {value:be} {lo hi:Option be} {a b:Option Int} {p:cU} {x:aE} (L:Ev w sc r ρ value (SSV x)) (h1:vG w sc r ρ lo a) (h2:vG w sc r ρ hi b) (hz:x.length<=dK):Ev w sc r ρ (.Subscript value (.Slice lo hi none p) pos) (SSV (pb x a b)):=by
 intro A j y c d g K s f h F Q E q;refine oR (L A j y c d g K s f h F _ _ λv W U o J=>?_);have B:=F.step o;refine PE (h1.run f h B λR V T n N=>?_);obtain z:=B.step n;refine h2.run f h z λO g3 e m M=>?_;refine ah ?_;obtain ⟨t,rfl⟩:=J.str_inv;refine e12 (DG N) λl H G=>?_;obtain rfl:=H;obtain rfl:=G;refine e12 (DG M) λu D C=>?_;obtain rfl:=D;obtain rfl:=C;have I:∀ k,iB e g3 {e with heap:=e.heap.push {cls:=.type "slice",data:=.fields #[Mq l,Mq u,.none]},toks:=k} g3:=λk=>(z.step m).ss.same (Stp.push e _ k);refine tm (kN _ _ _) PySem.F.slot_str_getitem.lookup (wpAny_getItem_str_slice (st:=none) (i13 _ (az _ rfl) rfl rfl) rfl ?_) rfl;exact post_val_or_str ⟨ab (Txt.slice_le x _ _) (ab hz j8),λS k=>q _ g3 _ (((o.trans n).trans m).trans (I k)) (.str _ _)⟩
theorem K5.one {elt:be} {y:ag} {out:List ag} (h:Ev w sc r ρ elt (DV y)) (ho:out=[y]):K5 w sc r ρ [] elt out:=.inr ⟨rfl,y,h,ho⟩
theorem K4 {c elt:be} {out:List ag} (a:Tr w sc r ρ c false) (ho:out=[]):K5 w sc r ρ [c] elt out:=.inl ⟨a,ho⟩
theorem lF.sub {x:cD} {ρ₂:dh} (h:lF w sc r ρ x (.next ρ')) (k:r8 ρ₂ ρ'):lF w sc r ρ x (.next ρ₂):=λA d a b g i s j l F Q E q=>h A d a b g i s j l F Q E λn m f c e=>q n m f c ⟨e.1,e.2.weaken k⟩
theorem Ex.sub {x:List cD} {ρ₂:dh} (h:Ex w sc r ρ x (.next ρ')) (k:r8 ρ₂ ρ'):Ex w sc r ρ x (.next ρ₂):=λA d a b g i s j l F Q E q=>h A d a b g i s j l F Q E λn m f c e=>q n m f c ⟨e.1,e.2.weaken k⟩
theorem uG {t:be} {a b:List cD} {c:Bool} {o:m6} (h:Tr w sc r ρ t c) (k1:c=true->Ex w sc r ρ a o) (k2:c=false->Ex w sc r ρ b o):lF w sc r ρ (.If t a b pos) o:=by
 cases c with
 | true=>exact fr h (k1 rfl)
 | false=>exact cf h (k2 rfl)
theorem uH {c elt:be} {y:ag} {out:List ag} {b:Bool} (a:Tr w sc r ρ c b) (h:b=true->Ev w sc r ρ elt (DV y)) (ho:out=if b then [y] else []):K5 w sc r ρ [c] elt out:=by
 cases b with
 | true=>exact .inr ⟨a,y,h rfl,ho⟩
 | false=>exact .inl ⟨a,ho⟩
theorem AM {α:Type} {I:α->dh} {o:m6} {m:α->Nat} {t:be} {body:List cD} (h:∀ x,(Tr w sc r (I x) t false/\o=.next (I x))\/(Tr w sc r (I x) t true/\∃ y a,m y<m x/\(Ex w sc r (I x) body (.next a)\/Ex w sc r (I x) body (.cont a))/\r8 (I y) a)):∀ n x,m x<n->Wh w sc r t body n (I x) o
 | 0,_,b=>absurd b (qh _)
 | n+1,x,b=>by
  rcases h x with h1 | ⟨h1,y,a,hm,h2,h3⟩;·exact .inl h1
  ·exact .inr ⟨h1,.inl (i23 a (I y) h2 h3 (AM h n y (fa2 b hm)))⟩
theorem rY {α:Type} {I:α->dh} {o:m6} {m:α->Nat} {t:be} {body:List cD} (x:α) (h:∀ x,(Tr w sc r (I x) t false/\o=.next (I x))\/(Tr w sc r (I x) t true/\∃ y a,m y<m x/\(Ex w sc r (I x) body (.next a)\/Ex w sc r (I x) body (.cont a))/\r8 (I y) a)):lF w sc r (I x) (.While t body [] pos) o:=
 xY (AM h (m x+1) x (bU _))
theorem nA {x:cD} {o:m6} {ρ₂:dh} (k:r8 ρ ρ₂) (h:lF w sc r ρ x o):lF w sc r ρ₂ x o:=λA c a b g d s e f F=>h A c a b g d s e f (F.weaken k)
theorem K2 {x:List cD} {o:m6} {ρ₂:dh} (k:r8 ρ ρ₂) (h:Ex w sc r ρ x o):Ex w sc r ρ₂ x o:=λA c a b g d s e f F=>h A c a b g d s e f (F.weaken k)
theorem r8.new {x:aE} {b:B} (h:ρ.lookup x=none):r8 ρ ((x,b)::ρ):=λy c e=>by
 rw [aK];by_cases q:y=x;·subst q;replace e:=h▸e;exact lE e
 ·rw [show (y==x)=false from beq_false_of_ne q];exact e
end
theorem wE {w:ar} {A:bj} {R:eB->af->Prop} {s:af} {elt t1 i1 t2 i2:be} {f1 f2:List be} {scope:bf} {pos:cU} {it acc:ae} {env:fg} (h0:gn (MM w) A (.compLoop (.ListComp elt [⟨t1,i1,f1,0⟩,⟨t2,i2,f2,0⟩] scope pos) 1 it acc env) R s) (h:aV (MM w) A (kO it) (λe f=>gn (MM w) A (.compLoop (.ListComp elt [⟨t1,i1,f1,0⟩,⟨t2,i2,f2,0⟩] scope pos) 1 e acc env) R f) (notedBy (MM w) A env λx f=>R (.error x) f) s): gn (MM w) A (.compStart (.ListComp elt [⟨t1,i1,f1,0⟩,⟨t2,i2,f2,0⟩] scope pos) 1 it acc env) R s:=by
 refine MU ?_;refine wpAny_notedAt ?_;refine aa (dc (wpAny_ite ?_));split
 ·first
   | exact aa (ah (ah (i11 rfl h0)))
   | exact ah ⟨rfl,h0⟩
 ·refine aa (eT ?_);first
   | exact aa (ct (aa (cr h (λe f g=>ah (i11 rfl g)) λ_ _ x=>x)))
   | (exact aa (ct (aa (cr h (λe f g=>ah ⟨rfl,g⟩) λ_ _ x=>x))))
noncomputable def J2 (ifs:List be) (env:fg) (body:il Fin) (c:qr):il Fin:=do
 let mut ok:=true
 for c in ifs do
  if ok then ok <- te c env (eW c env)
 if ok then body else LB c
theorem KA {elt t1 i1 t2 i2:be} {f1 f2:List be} {scope:bf} {pos:cU} (cenv:fg) (D:ay) (it:ae):C3 (.ListComp elt [⟨t1,i1,f1,0⟩,⟨t2,i2,f2,0⟩] scope pos) 0 it (.ref D) cenv=(gQ i1.pos>>=λ_=>ki it>>=λr=>match r with
   | none=>pure (.done .next)
   | some v=>fM t1 it v>>=λ_=>fu t1 cenv v>>=λ_=>J2 f1 cenv (do
     let x <- eW i2 cenv
     gQ i2.pos
     let x <- cN i2 cenv x
     let _ <- K9 (.compStart (.ListComp elt [⟨t1,i1,f1,0⟩,⟨t2,i2,f2,0⟩] scope pos) 1 (<- wV [x] (kO x)) (.ref D) cenv) cenv
     LB (.compLoop (.ListComp elt [⟨t1,i1,f1,0⟩,⟨t2,i2,f2,0⟩] scope pos) 0 it (.ref D) cenv)) (.compLoop (.ListComp elt [⟨t1,i1,f1,0⟩,⟨t2,i2,f2,0⟩] scope pos) 0 it (.ref D) cenv)):=by rfl
theorem Kz {elt t1 i1 t2 i2:be} {f1 f2:List be} {scope:bf} {pos:cU} (cenv:fg) (D:ay) (it:ae):C3 (.ListComp elt [⟨t1,i1,f1,0⟩,⟨t2,i2,f2,0⟩] scope pos) 1 it (.ref D) cenv=(gQ i2.pos>>=λ_=>ki it>>=λr=>match r with
   | none=>pure (.done .next)
   | some v=>fM t2 it v>>=λ_=>fu t2 cenv v>>=λ_=>Dq f2 cenv (do let _ <- call (.builtin "list.append") [.ref D,<- eW elt cenv]) (.compLoop (.ListComp elt [⟨t1,i1,f1,0⟩,⟨t2,i2,f2,0⟩] scope pos) 1 it (.ref D) cenv)):=by rfl
theorem CO {w:ar} {r:Nat} {sc:bf} {cenv:fg} {D:ay} {ρ:dh} {b:List be} {body:il Fin} {c:qr} {out:List ag} (y:cB sc cenv) (h:Lq w sc r ρ b true) (h2:v7 w r cenv D body c ρ out):v7 w r cenv D (J2 b cenv body c) c ρ out:=by
 intro A a d g q s m n C l F G v u Q E k;refine aa (h.run y l F λB p x=>?_);exact h2 A a d B q p m n C l (F.step x) G (v.mono x.le) u Q E λz o e t i H j f=>k z o e t (x.le.trans i) H j f
theorem CP {w:ar} {r:Nat} {sc:bf} {cenv:fg} {D:ay} {ρ:dh} {elt t1 i1 t2 i2:be} {f1 f2:List be} {scope:bf} {pos:cU} {ys:List ag} {ρ₂:ag->dh} {outs:ag->List ag} {c:qr} (t:cB sc cenv) (hi:Ee w sc r ρ i2 true ys)
  (hb:∀ y∈ys,uI w sc r t2 y ρ (ρ₂ y) false/\r8 ρ (ρ₂ y)/\K5 w sc r (ρ₂ y) f2 elt (outs y)) (hs:∀ N x,cN i2 N x=pure x):
  v7 w r cenv D (do
     let x <- eW i2 cenv
     gQ i2.pos
     let x <- cN i2 cenv x
     let _ <- K9 (.compStart (.ListComp elt [⟨t1,i1,f1,0⟩,⟨t2,i2,f2,0⟩] scope pos) 1 (<- wV [x] (kO x)) (.ref D) cenv) cenv
     LB c) c ρ (ys.flatMap outs):=by
 intro A l u g W s R n es K F ap Z Y Q E k
 refine aa (cr (hi A cenv false l u g _ s t K F (λv i=>aV (MM w) A (K9 (.compStart (.ListComp elt [⟨t1,i1,f1,0⟩,⟨t2,i2,f2,0⟩] scope pos) 1 v (.ref D) cenv) cenv) (λ_ i=>Q i) E i) E ?_) (λx i h=>aa (ct (aa (fY (hs cenv x) (aa (bw (cr h (λv V h'=>aa (cr h' (λ_ _ q=>ah ⟨rfl,q⟩) λ_ _ e=>e)) λ_ _ e=>e))))))) λ_ _ e=>e)
 intro v g1 q s1 B m J I o
 refine e02 (F.add B m J I) λF1 j=>?_
 obtain O:eg (gP D R n) (dg q W):=⟨(λp a h=>by
  rcases mA a with a | a
  ·obtain hD:p.1=D:=by simpa [addrs,gP] using h
   exact j.objs (D,ao R.toArray n) (.head _) (hD▸aX (f:=(·.1)) a)
  ·exact ap.objs p a h),(λp _ h=>by cases h)⟩
 obtain T:=F1.swap
 refine wpAny_runOwn (show gn (MM w) A _ _ s1 from ?_)
 obtain b:gn (MM w) A (.compLoop (.ListComp elt [⟨t1,i1,f1,0⟩,⟨t2,i2,f2,0⟩] scope pos) 1 v (.ref D) cenv) (λr i=>match r with | .ok f=>Q i | .error e=>cameBackBy (MM w) A cenv E e i) s1:=by
  refine xK (Kz _ _ _) t K o T O (⟨λp a=>j.objs p (aW _ a),λp a=>j.gens p (aW _ a)⟩) (Z.mono B.le) Y (λy C=>⟨(hb y C).1,(hb y C).2.1,?_⟩) λg2 U z X H F3 P G=>k g2 U z X (B.le.trans H) F3 P G;rcases (hb y C).2.2 with ⟨M,L⟩ | ⟨M,d,L,h3⟩;·rw [L];exact v3 t M
  ·rw [h3];exact ta t M (sY t L)
 exact wE b (o.self g1 A _ (eN.refl _) K T.ss m _ _ b)
section
variable {w:ar} {sc:bf} {r:Nat} {ρ ρc:dh} {elt t1 i1 t2 i2:be} {f1 f2:List be} {scope:bf} {pos:cU} {xs:List ag} {ρ₁:ag->dh} {ys:ag->List ag} {ρ₂:ag->ag->dh} {outs:ag->ag->List ag}
theorem A2 (hi:Ee w sc r ρ i1 true xs) (t:scope.kind=.function) (h:nx scope sc=true) (b:H9 scope sc ρ ρc) (hz:(xs.flatMap λx=>(ys x).flatMap (outs x)).length<=dK) (hb:∀ x∈xs,uI w (dT scope sc) r t1 x ρc (ρ₁ x) false/\r8 ρc (ρ₁ x)/\Ee w (dT scope sc) r (ρ₁ x) i2 true (ys x)/\∀ y∈ys x,uI w (dT scope sc) r t2 y (ρ₁ x) (ρ₂ x y) false/\r8 (ρ₁ x) (ρ₂ x y)/\K5 w (dT scope sc) r (ρ₂ x y) f2 elt (outs x y)) (hs:autoParam (∀ a x,cN i1 a x=pure x) am._auto_9) (e:autoParam (∀ a x,cN i2 a x=pure x) am._auto_9):Ev w sc r ρ (.ListComp elt [⟨t1,i1,[],0⟩,⟨t2,i2,f2,0⟩] scope pos) (LL (xs.flatMap λx=>(ys x).flatMap (outs x))):=by
 intro A a G i k g I s u z F Q E q;refine vy (outs:=λx=>(ys x).flatMap (outs x)) hi t h b KA hz (λx d=>⟨(hb x d).1,(hb x d).2.1,λl D J j=>?_⟩) hs u z F λD C B H y n v o c=>?_;·exact CO j rfl (CP j (hb x d).2.2.1 (hb x d).2.2.2 e)
 ·refine e11 c λm p=>?_;clear c;exact i12 m p (λK f=>q _ B _ (y.turn F.ss v o f) n)
end
section
variable {w:ar} {sc:bf} {r:Nat} {ρ ρ':dh} {pos:cU} {P:ci} {o:m6} {st:Bool} {s₀ s:af} {g₀ g:aA} {env:fg} {pr:Pr}
theorem FS.owns (F:FS w st s₀ g₀ env g pr ρ s) {x:aE} {a:ay} {ls:List (ay × List ag)} (hx:ρ.lookup x=some (.owns a ls)):Cu s₀ env g s.heap pr (.ref a) a ls:=by
 obtain ⟨m,e,c⟩:=F.vars;refine e12 (c x _ hx) λv d b=>?_;obtain rfl:=b.val;exact b
noncomputable def pu (ls:List (ay × List ag)) (i:Nat) (ds:List ag):List (ay × List ag):=ls.set i ((ls.getD i (0,[])).1,ds)
theorem oa (ls:List (ay × List ag)) (i:Nat) (ds:List ag):(pu ls i ds).map (·.1)=ls.map (·.1):=by
 delta pu;rw [ph];by_cases h:i<ls.length
 ·obtain this:(ls.getD i (0,[])).1=(ls.map (·.1))[i]'(by simpa using h):=by
   rw [aJ,an h];simp
  rw [this,qk]
 ·rw [List.set_eq_of_length_le (by simp;exact ba h)]
theorem FS.turnKid (F:FS w st s₀ g₀ env g pr ρ s) {x:aE} {a l:ay} {ls:List (ay × List ag)} {ds es:List ag} {i:Nat} {h':aA} {tk n:Nat} {ws:List ae} (hx:ρ.lookup x=some (.owns a ls)) (ho:cA x ρ=true) (hi:ls[i]?=some (l,ds)) (hs:bR l s.heap h') (hn:h'.get? l=some (ao ws.toArray n)) (hw:VA g ws es): FS w st s₀ g₀ env g pr ((x,.owns a (pu ls i es))::ρ) {s with heap:=h',toks:=tk}:=by
 revert F hx ho hi hs hn hw;revert w ρ st s₀ s g₀ g env pr x a l ls ds es i h' tk n ws;intros w ρ st s₀ s g₀ g env pr x a l;intros ls ds es i h' tk n ws;intro F hx ho hi hs hn hw;refine e03 ((F.owns hx).kids _ (aQ hi)) λz0 z1 D=>?_;refine e05 z1 λb1 b2 b3 b4 b5=>?_;clear z1;dsimp only at b1 b2 b3 b4 b5 D;refine e12 F.vars λm hm hv=>?_;refine ⟨F.ss₀,⟨(F.aft.toStp.changeOff b2 hs),F.aft.le,(λb o q=>(hs.2 b λz=>by rw [z,b1] at q;exact lE q).trans (F.ss.sub b o q)),F.aft.new,λc=>(F.aft.codes c).sameBut hs b2.2⟩,F.newL,F.notL,(i12 m (hm.sameBut hs (db b3)) (λy b C=>?_)),λn c hc=>?_,F.apart,⟨λp E=>?_,F.prot.gens⟩,F.newC⟩
 ·have up:∀ {y:aE} {v:ae},Jn m s.heap env y v->Jn m h' env y v:=λ{y v} h=>by
   rcases h with ⟨B,A⟩ | ⟨B,c,A,h3⟩;·exact .inl ⟨B,A⟩
   ·exact .inr ⟨B,c,A,h3.sameBut hs (b4 _ _ A)⟩
  rw [aK] at C;by_cases e:y=x
  ·subst e;replace C:=(beq_self_eq_true y)▸C;refine iM C λz2=>?_;clear C;subst z2;refine e12 (hv y _ hx) λv hh hb=>?_;have f:=hb;refine ⟨v,up hh,f.val,?_,f.off,λp E=>?_,by rw [oa];exact f.apart,f.newer.1,λp E=>?_⟩
   ·obtain ⟨n0,e0⟩:=f.obj;refine ⟨n0,(hs.2 a λz=>D z.symm).trans ?_⟩;obtain this:((pu ls i es).map λp=>cw p.1)=ls.map λp=>cw p.1:=by
     have:=congrArg (List.map cw) (oa ls i es);rwa [cz,cz] at this
    rw [this];exact e0
   ·refine e11 (mG E) λj d=>?_;unfold pu at d;rw [H4] at d;obtain hgd:(ls.getD i (0,[])).1=l:=by rw [aJ,hi];rfl
    split at d
    ·split at d
     ·refine iM d λz3=>?_;clear d;subst z3;rw [hgd];exact i03 (i22 ws n hn hw) (i05 b1 b2 b3 b4 b5) D
     ·exact lE d
    ·rename_i hij;refine e03 (f.kids _ (aQ d)) λz4 k3 k4=>?_;refine e22 z4 λvs n1 k1 k2=>?_;clear z4;refine i03 (i22 vs n1 ((hs.2 _ λz=>hij ?_).trans k1) k2) k3 k4;have B:(ls.map (·.1))[i]?=some l:=by rw [av,hi];rfl
     obtain A:(ls.map (·.1))[j]?=some l:=by rw [av,d];simp [z]
     exact (tU ((gE B).1) f.apart).mp (B.trans A.symm)
   ·obtain this:p.1∈ls.map (·.1):=by rw [<- oa ls i es];exact aX E
    refine e12 (mM this) λq hq e=>?_;rw [<- e];exact f.newer.2 q hq
  ·replace C:=(show (y==x)=false from beq_false_of_ne e)▸C;refine e12 (hv y b C) λv hh hb=>?_;refine i12 v (up hh) ?_;exact hb.free (iS ho C e) (eN.refl _)
 ·refine e03 (F.cells n c hc) λz5 A h3=>?_;refine e11 z5 λv B=>?_;clear z5;exact i03 ⟨v,B.sameBut hs (b4 _ _ hc)⟩ A h3
 ·refine e02 (F.prot.objs p E) λB A=>?_;exact ⟨(hs.2 _ (b5 p E)).trans B,A⟩
theorem IP {ls:List (ay × List ag)} {k:Nat} {l:ay} {ds:List ag} (h:ls[k]?=some (l,ds)):(ls.map λp=>cw p.1).toArray[k]?=some (.ref l):=by
 rw [cE,av,h];rfl
theorem CF {x:aE} {p:cU} {gg:be} {a l:ay} {ls:List (ay × List ag)} {ds:List ag} {k:Nat} (hx:ρ.lookup x=some (.owns a ls)) (hi:Ev w sc r ρ gg (II k)) (B:ls[k]?=some (l,ds)) (hz:ls.length<=dK) (hs:autoParam (∀ o i,nh gg false o i=wT [o,i] (tP o i)) am._auto_9) (j:autoParam ((x==("__classdict__":aE))=false) auF._auto_1) (h:autoParam ((x==("__debug__":aE))=false) auF._auto_1):Ev w sc r ρ (.Subscript (.Name x p) gg pos) (RV (.ref l)):=by
 intro A e u b c g z s C D F Q E q;refine oR (Ev.name hx j h A e u b c g z s C D F _ _ λv M I f H=>?_);obtain rfl:=H;refine hi A e u b c M z I C D (F.step f) _ _ λi L y m G=>?_;obtain ⟨t,rfl⟩:=G.int_inv;refine e11 ((((F.step f).step m).owns hx).obj) λn J=>?_;obtain d:y.heap.IsList a (ls.map λp=>cw p.1).toArray:=⟨_,J,rfl,n,rfl⟩;obtain K:=(gE B).1;delta dK at hz;exact tm d.typeIs lH.lookup (K7 d (bF k) (by lia) (IP B) (q _ L y (f.trans m) rfl)) (hs (.ref a) (.int k t))
theorem zd {x:aE} {a l:ay} {p sp ap cp:cU} {slice:be} {ls:List (ay × List ag)} {ds:List ag} {k:Nat} {e:be} {d:ag} (hx:ρ.lookup x=some (.owns a ls)) (hi:Ev w sc r ρ slice (II k)) (B:ls[k]?=some (l,ds)) (h:Ev w sc r ρ e (DV d)) (hz:ls.length<=dK) (t:ds.length<dK) (ho:autoParam (cA x ρ=true) auT._auto_1) (hs:autoParam (∀ o i,nh slice false o i=wT [o,i] (tP o i)) am._auto_9) (H:autoParam ((x==("__classdict__":aE))=false) auF._auto_1) (G:autoParam ((x==("__debug__":aE))=false) auF._auto_1) (hl:autoParam ((ap.endLine==cp.line)=true) auT._auto_1) (y:autoParam (∀ c,bW [e] c=(false,eW e c)::bW [] c) am._auto_9):lF w sc r ρ (.Expr (.Call (.Attribute (.Subscript (.Name x p) slice sp) (ac "append") ap) [e] [] cp) pos) (.next ((x,.owns a (pu ls k (ds++[d])))::ρ)):=by
 intro A c m z g Y s K T F Q E q;refine eV ?_ K.int rfl;refine e11 (eS (o:=.Subscript (.Name x p) slice sp) (name:=ac "append") (args:=[e]) (λ_=>rfl) (uU y _ c) hl (show 1<30 by decide)) λpl hc=>?_;refine eH (CF hx hi B hz hs H G A c true m z g Y s K T F _ _ λv g1 X R W=>?_) hc;obtain rfl:=W;have L:=F.step R;refine e02 ((L.owns hx).kids _ (aQ B)) λN z1=>?_;refine e22 N λj n f C=>?_;clear N;obtain J:X.heap.IsList l j.toArray:=⟨_,f,rfl,n,rfl⟩;refine dY J.typeIs eb dU jU (λb e=>by cases e;exact i12 _ f rfl) ?_;refine cL K T L (rf.cons h rf.nil vH.d y) (D9.plain λa e=>by cases e) λus g2 D O S=>?_;refine e11 (hY S.length.symm) λu V=>?_;obtain rfl:=V;have U:=L.step O;refine e02 ((U.owns hx).kids _ (aQ B)) λM z4=>?_;refine e22 M λj n f C=>?_;clear M;obtain I:D.heap.IsList l j.toArray:=⟨_,f,rfl,n,rfl⟩;refine ck dU I.typeIs jw ?_ (jV _ _);refine (?_:aV _ _ (nY l (·.push u)>>=λ_=>ug dD) _ _ D);refine aa (eX f rfl (ah (i12 dD rfl ?_)) (by rw [bk,C.length];exact pA t) (by have:=pA t;have h2:j.length=ds.length:=C.length;simp;exact fa2 this (aj h2)));have Z:(D.heap.update l (bu (·.push u))).get? l=some (ao (j++[u]).toArray (n+1)):=by
  rw [bn _ f rfl,gW]
 exact q _ g2 _ (R.trans O).le ⟨rfl,U.turnKid hx ho B (aU ..) Z (C.append (.cons S.1 (VA.nil _)))⟩
end
noncomputable def o9 (Ls:List ay):Pr:=⟨Ls.map λl=>(l,ao ([]:List ae).toArray 0),[]⟩
theorem B7 (Ls:List ay):addrs (o9 Ls)=Ls:=by delta addrs o9;rw [cz];exact we _
section
variable {w:ar} {sc:bf} {r:Nat} {cenv:fg} {D:ay}
noncomputable abbrev Md (w:ar) (r:Nat) (it:ae) (g:aA) (s₀:af) (g₀:aA) (cenv:fg) (D:ay) (xs:List ag) (m:Nat) (s':af):Prop:=
 ∃ g' n' Ls xs' q',m=xs'.length/\eN g g'/\jf w r true it xs' g' q'/\FS w false s₀ g₀ cenv g' (dg (gP D (Ls.map cw) n') (dg q' (o9 Ls))) [] s'/\eg (gP D (Ls.map cw) n') (dg q' (o9 Ls))/\eg q' (o9 Ls)/\Ls.length+xs'.length=xs.length/\Ls.Nodup/\(∀ l∈Ls,s₀.heap.objs.size<=l)/\(∀ x∈xs',x∈xs)
end
section
variable {w:ar} {sc:bf} {r:Nat} {cenv:fg} {D:ay}
theorem ED {t1 i1:be} {lp:cU} {scope:bf} {pos:cU} {it:ae} {A:bj} {s₀:af} {g₀ g:aA} {q:Pr} {s:af} {xs:List ag} {ρ₁:ag->dh} {R:eB->af->Prop} (c:cB sc cenv) (hA:Rm r A) (hi:jf w r true it xs g q) (F:FS w false s₀ g₀ cenv g (dg (gP D [] 0) (dg q {})) [] s) (a:eg (gP D [] 0) (dg q {})) (hz:xs.length<=dK) (hb:∀ x∈xs,uI w sc r t1 x [] (ρ₁ x) false) (k:∀ e d b f,eN g e->FS w false s₀ g₀ cenv e (dg (gP D (b.map cw) f) (o9 b)) [] d->b.length=xs.length->b.Nodup->(∀ l∈b,s₀.heap.objs.size<=l)->(∀ l∈b,l≠D)->R (.ok .next) d): gn (MM w) A (.compLoop (.ListComp (.List [] lp) [⟨t1,i1,[],0⟩] scope pos) 0 it (.ref D) cenv) R s:=by
 revert c hA hi F a hz hb k;revert w sc r cenv D t1 i1 lp scope pos it A s₀ g₀ g q s xs ρ₁ R;intros w sc r cenv D t1 i1 lp scope pos it A;intros s₀ g₀ g q s xs ρ₁ R;intro he hA hi F a0 hz hb k;refine Pj (M:=MM w) (c:=.compLoop (.ListComp (.List [] lp) [⟨t1,i1,[],0⟩] scope pos) 0 it (.ref D) cenv) rfl (Md w r it g s₀ g₀ cenv D xs)
  ?_ xs.length ⟨g,0,[],xs,q,rfl,eN.refl g,hi,F.prs (λp d=>by simpa [dg,o9] using d) (λp d=>by simpa [dg,o9] using d),⟨λp d=>a0.objs p (by simpa [dg,o9] using d),λp d=>a0.gens p (by simpa [dg,o9] using d)⟩,⟨λp d=>(nm d),λp d=>(nm d)⟩,by simp,jm,λ_ h=>(nm h),λ_ h=>h⟩
 intro m;intro T;intro z0;obtain ⟨Z,n,i,B,q',rfl,W,X,F',y,N,u,V,Y,I⟩:=z0;refine PD ?_;rw [Gf];refine aa (ct (aa ?_));have Fs:=F'.swap;have K:eg q' (dg (gP D (i.map cw) n) (o9 i)):=⟨λp d h=>by
  rcases mA d with d | d
  ·refine e11 (gI h) λo ho=>?_;have:=y.objs (p.1,o) (bG _ ho);exact this (aX (f:=(·.1)) d)
  ·exact N.objs p d h,λp d h=>by
  rcases mA d with d | d;·cases d
  ·exact N.gens p d h⟩
 cases B with
 | nil=>refine X.2 rfl Z A T (eN.refl _) hA F'.ss Fs.live _ _ λs2 g2 S=>?_;exact ah (k g2 s2 i n (W.trans S.le) (Fs.iterEnd K S) (by simpa using u) V Y λl E e=>y.objs (l,ao ([]:List ae).toArray 0) (aW _ (aX E)) (by simp [addrs,gP,e]))
 | cons x B=>
  refine X.2 Z A T (eN.refl _) hA F'.ss Fs.live _ _ λv g2 q2 s2 S l2 a3 a2 i2=>?_;refine e02 (Fs.iter K S l2 a3.two) λF2 a1=>?_;refine aa (p7 i2.ok l2 (aa ?_));refine hb x (I x (.head _)) A cenv s₀ g₀ g2 _ s2 v he hA F2 a2 _ _ λg3 C J F3=>?_;have j:=F3.weaken r8.nil;refine aa (MR ?_);refine aa (aa (mV (gM ⟨aM _,?_⟩)));refine e02 (j.add (q:=o9 [C.heap.objs.size]) (j.ss.same (Stp.push C ({cls:=.type "list",data:=.seq ([]:List ae).toArray}:ff) C.toks)) ⟨λp d=>(m1 d ⟨az _ rfl,j.ss.none (aq _)⟩),λ_ h=>(nm h)⟩ (λa H=>by rw [B7] at H;simp at H;exact aj H.symm) (λ_ h=>(nm h))) λF4 a5=>?_;generalize hL:C.heap.objs.size=L at F4 a5;have G:∀ l∈i,l<L:=λl E=>by
   have:=j.prot.objs (l,ao ([]:List ae).toArray 0) (aW _ (aW _ (aX E)));rw [<- hL];exact aH this.1
  have O:∀ a∈addrs q2,a<L:=λa H=>by
   refine e11 (gI H) λo ho=>?_;rw [<- hL];exact aH (j.prot.objs _ (bG _ ho)).1
  have F5:FS w false s₀ g₀ cenv g3 (dg (gP D (i.map cw) n) (dg q2 (o9 (i++[L])))) [] _:=F4.prs (λp d=>by
   simp only [dg,o9,bM,iI] at d ⊢;rcases d with h | h | h | h;·exact .inr (.inr (.inl h))
   ·exact .inr (.inl h)
   ·exact .inr (.inr (.inr h))
   ·exact .inl h) (λp d=>by
   simp only [dg,o9,gP,iI] at d ⊢;rcases d with h | h | h;·cases h
   ·exact .inr (.inl h)
   ·cases h)
  have Q:eg (gP D (i.map cw) n) (dg q2 (o9 (i++[L]))):=⟨(λp d h=>by
   have hD:p.1=D:=by simpa [addrs,gP] using h
   rcases mA d with d | d;·exact a1.objs (D,ao (i.map cw).toArray n) (.head _) (hD▸aX (f:=(·.1)) d)
   ·have P:p∈(i.map λl=>(l,ao ([]:List ae).toArray 0))++[(L,ao ([]:List ae).toArray 0)]:=by simpa [o9] using d
    rcases mA P with d | d;·exact y.objs p (aW _ d) h
    ·have:p.1=L:=by simp at d;rw [d]
     exact (λe=>bg (aH (j.prot.objs (D,ao (i.map cw).toArray n) (aW _ (.head _))).1) (e.trans hL.symm)) (hD.symm.trans this)),λp _ h=>by cases h⟩
  refine e04 (F5.prot.objs (D,ao (i.map cw).toArray n) (.head _)) λh1 h2 h3 z1=>?_;have U:(i.map cw).length<dK:=by rw [ak];simp at u;lia
  have hT:Shared.TypeIs {C with heap:=C.heap.push ({cls:=.type "list",data:=.seq ([]:List ae).toArray}:ff)} (.ref D) "list":=(i12 _ h1 rfl);refine aa ?_;refine ck dU hT jw ?_ (jV _ _);refine (?_:aV _ _ (nY D (·.push (cw L))>>=λ_=>ret .none) _ _ _);have hn:((C.heap.push ({cls:=.type "list",data:=.seq ([]:List ae).toArray}:ff)).update D (bu (·.push (cw L)))).get? D=some (ao ((i++[L]).map cw).toArray (n+1)):=by
   rw [bn _ h1 rfl,gW,bM];rfl
  refine e02 (F5.iter (q':=gP D ((i++[L]).map cw) (n+1)) Q (nU.one (t:=C.toks) (o:=ao (i.map cw).toArray n) F5.ss h2 h3.2 (aU (C.heap.push ({cls:=.type "list",data:=.seq ([]:List ae).toArray}:ff)) D (bu (·.push (cw L))))) ⟨λp d=>(m1 d ⟨hn,h2⟩),λ_ h=>(nm h)⟩ ⟨λa H=>.inl H,λ_ h=>(nm h)⟩) λF6 a4=>?_;refine aa (eX h1 rfl (ah (i12 .none rfl (ah (ah ⟨rfl,B.length,bU _,g3,n+1,i++[L],B,q2,rfl,W.trans (S.le.trans J),i2.mono J,F6,a4,⟨λp d h=>?_,λp d h=>by cases d⟩,?_,?_,?_,λz hz=>I z (.tail _ hz)⟩)))) (by exact pA U) (by have:=pA U;simp at this ⊢;exact ab (by assumption) (by decide)))
  ·have P:p∈(i.map λl=>(l,ao ([]:List ae).toArray 0))++[(L,ao ([]:List ae).toArray 0)]:=by simpa [o9] using d
   rcases mA P with d | d;·exact a1.objs p (aW _ d) h
   ·have:p.1=L:=by simp at d;rw [d]
    exact bg (O _ h) this
  ·simp at u ⊢;lia
  ·exact iZ.mpr ⟨V,by simp,λa H b hb=>by simp at hb;subst hb;exact bg (G a H)⟩
  ·intro l E;rcases mA E with E | E;·exact Y l E
   ·have:l=L:=by simpa using E
    rw [this,<- hL];exact j.aft.size
end
section
variable {w:ar} {sc:bf} {r:Nat} {ρ:dh}
theorem CD {t1 i1:be} {lp p i:cU} {scope:bf} {pos:cU} {x:aE} {xs:List ag} {ρ₁:ag->dh} {rest:List cD} {o:m6} (hi:Ee w sc r ρ i1 true xs) (hk:scope.kind=.function) (a0:nx scope sc=true) (hz:xs.length<=dK) (hb:∀ y∈xs,uI w (dT scope sc) r t1 y [] (ρ₁ y) false) (hx:sc.names.lookup x=some .local) (hsw:∀ d,cB sc d->gO (.ListComp (.List [] lp) [⟨t1,i1,[],0⟩] scope pos) (some (.Name x p)) i.line d=pure true) (k:∀ a T,T.length=xs.length->(∀ q∈T,q.2=[])->Ex w sc r ((x,.owns a T)::ρ) rest o) (hs:autoParam (∀ d x,cN i1 d x=pure x) am._auto_9):Ex w sc r ρ (.Assign [.Name x p] (.ListComp (.List [] lp) [⟨t1,i1,[],0⟩] scope pos) i::rest) o:=by
 intro A d f K g S s N hA F Q E q;refine bI ?_;rw [r1 _ _ _ _ (hsw d N)];refine aa (ct (aa ?_));refine aa (cr (vu (use:=some (fu (uN x p) d)) (Q:=λ_ R=>aV (MM w) A (eZ rest d) Q E R) hi hk a0 .nil hs N hA F λit qi g1 b0 D C a9 ok hD a6 hC a5 FI b2 a7 a1=>?_) (λ_ R m=>ah (ah m)) λ_ _ e=>e);refine ED ok hA a1 FI a7 hz hb λL s2 O n2 b1 M H Z J a4=>?_;have y:=M.aft;obtain ⟨m2,t,_⟩:=M.vars;replace t:=hC▸t;refine e33 (id t) λG es ep Y a2 X=>?_;refine e05 (M.prot.objs (D,ao (O.map cw).toArray n2) (.head _)) λd1 d2 z0 d4 z1=>?_;refine e02 (F.add (q:=⟨[(C,G)],[]⟩) y ⟨λp j=>(m1 j ⟨Y,(by have:=M.notL;rwa [hC] at this)⟩),λ_ h=>(nm h)⟩ (λa ha=>by simp [addrs] at ha;exact ha▸a5) (λ_ h=>(nm h))) λFC a8=>?_;have B:∀ b,s.heap.objs.size<=b->b≠C->L.get? b=none->l7 f d L (dg ⟨[(C,G)],[]⟩ S) b:=λb hb a3 hg=>(i05 hg (Jj.of F.ss₀.big (ab F.aft.size hb)) (λe=>absurd F.ltL (bD (e▸hb))) (λn c hc e=>by
   refine e02 (F.cells n c hc) λz2 z3=>?_;refine e11 z2 λv hv=>?_;clear z2;exact absurd hv.lt (bD (e▸hb))) (λp j e=>by
   rcases mA j with j | j
   ·simp at j;replace e:=j▸e;exact a3 e.symm
   ·exact absurd (aH (F.prot.objs p j).1) (bD (e▸hb))))
 have z:∀ l∈O,s2.heap.get? l=some (ao ([]:List ae).toArray 0)/\L.get? l=none/\l≠C:=λl u=>by
  refine e05 (M.prot.objs (l,ao ([]:List ae).toArray 0) (aW _ (aX u))) λV U z4 k4 z5=>?_;exact i03 V U (hC▸k4)
 obtain hO:Cu f d L s2.heap (dg ⟨[(C,G)],[]⟩ S) (.ref D) D (O.map λl=>(l,[])):=⟨rfl,⟨n2,by rw [cz];exact d1⟩,B D hD a6 d2,λq m=>by
  refine e12 (mM m) λl u z6=>?_;obtain rfl:=z6;refine e03 (z l u) λV U k3=>?_;exact i03 (i22 ([]) 0 V (VA.nil _)) (B l (J l u) k3 U) (a4 l u),by simpa [Qj] using Z,ab F.aft.size hD,λq m=>by
  refine e12 (mM m) λl u z7=>?_;obtain rfl:=z7;exact ab F.aft.size (J l u)⟩
 refine aa (ct (lG (FC.store N (.inl hx) (b:=.owns D (O.map λl=>(l,[]))) hO λs3 F3=>?_)));refine e04 (F3.prot.objs (C,G) (.head _)) λp1 p2 p3 z8=>?_;refine i12 m2 (i33 G es ep p1 a2 X) (λh' W=>?_);exact k D _ (by rw [ak];exact H) (λq m=>by refine e12 (mM m) λl z9 P=>?_;obtain rfl:=P;rfl) A d f K L S _ N hA ((F3.iter (q':={}) (s':={s3 with heap:=h'}) a8 (nU.one F3.ss p2 p3.2 W) ⟨λ_ h=>(nm h),λ_ h=>(nm h)⟩ ⟨λ_ h=>(nm h),λ_ h=>(nm h)⟩).1) Q E λfl g5 s5 I=>q fl g5 s5 (y.le.trans I)
end
theorem Bf {g g':aA} {s s':af} (x:iB s g s' g') {X:List ay} (n:∀ b∈X,s.heap.objs.size<=b):∃ a,iB s g s' a/\eN g' a/\(∀ b∈X,∀ o,s'.heap.get? b=some o->a.get? b=some o)/\∀ b,b∉X->g'.get? b=none->a.get? b=none:=by
 obtain e:=fo _ _;have d:eN g' (mz s'.heap λb=>(g'.get? b).isSome || X.contains b):=λb f h=>by rw [e,h];exact x.sub b f h
 refine i14 _ ⟨x.toStp,x.le.trans d,λb f h=>?_,λb f h=>?_,λc=>(x.codes c).mono d⟩ d (λb j o l=>?_) (λb j m=>?_)
 ·rw [e] at h;split at h;·exact h
  ·exact lE h
 ·rw [e] at h;split at h
  ·rename_i q;cases i:g'.get? b with
   | some k=>exact x.new b f (by rw [i,<- x.sub b k i];exact h)
   | none=>
    replace q:=i▸q;have:b∈X:=by simpa using q
    exact .inr (n b this)
  ·exact lE h
 ·rw [e,if_pos (by simp [j])];exact l
 ·rw [e,m,if_neg (by simpa using j)]
section
variable {w:ar} {sc:bf} {r:Nat} {ρ:dh} {st:Bool} {s₀ s:af} {g₀ g:aA} {env:fg} {pr:Pr} {o:m6}
theorem FS.freezeOwns (F:FS w st s₀ g₀ env g pr ρ s) {x:aE} {a:ay} {ls:List (ay × List ag)} (hx:ρ.lookup x=some (.owns a ls)) (ho:cA x ρ=true):∃ C,eN g C/\FS w st s₀ g₀ env C pr ((x,.d (.list (ls.map λp=>.list p.2)))::ρ) s:=by
 revert F hx ho;revert w ρ st s₀ s g₀ g env pr x a ls;intros w ρ st s₀ s g₀ g env pr x a ls;intro F hx ho;have W:=F.owns hx;have i:∀ b∈a::ls.map (·.1),l7 s₀ env g pr b:=λb j=>by
  rcases mC j with rfl | j;·exact W.off
  ·refine e12 (mM j) λp u z0=>?_;obtain rfl:=z0;exact (W.kids p u).2.1
 obtain ⟨C,y,A,hin,f⟩:=Bf F.aft (X:=a::ls.map (·.1)) λb j=>(by
  rcases mC j with rfl | j;·exact W.newer.1
  ·refine e12 (mM j) λp u z1=>?_;obtain rfl:=z1;exact W.newer.2 p u)
 refine e12 F.vars λm hm hv=>?_;obtain B:VA C (ls.map λp=>cw p.1) (ls.map λp=>dp p.2):=by
  obtain this:∀ l':List (ay × List ag),(∀ p∈l',p∈ls)->VA C (l'.map λp=>cw p.1) (l'.map λp=>dp p.2):=by
   intro l';induction l' with
   | nil=>intro _;exact VA.nil _
   | cons p ps ih=>intro h;refine e02 (W.kids p (h p (.head _))) λz2 z3=>?_;refine e22 z2 λvs n e1 e2=>?_;clear z2;exact .cons (jA (hin p.1 (.tail _ (aX (h p (.head _)))) _ e1) (e2.mono A)) (ih λq hq=>h q (.tail _ hq))
  exact this ls λ_ h=>h
 refine ⟨C,A,F.ss₀,y,F.newL,f _ (λh=>(i _ h).2.2.1 rfl) F.notL,(i12 m hm (λz b l=>?_)),λn c hc=>?_,F.apart,⟨λp u=>?_,F.prot.gens⟩,F.newC⟩
 ·rw [aK] at l;by_cases e:z=x
  ·subst e;replace l:=(beq_self_eq_true z)▸l;refine iM l λz4=>?_;clear l;subst z4;refine e12 (hv z _ hx) λv hh j=>?_;obtain rfl:=j.val;obtain ⟨n,e0⟩:=W.obj;exact i12 _ hh (jA (hin a (.head _) _ e0) B)
  ·replace l:=(show (z==x)=false from beq_false_of_ne e)▸l;refine e12 (hv z b l) λv hh j=>?_;refine i12 v hh ?_;exact j.free (iS ho l e) A
 ·refine e03 (F.cells n c hc) λh1 h2 h3=>?_;exact i03 h1 (f _ ((λn c hc h=>(i _ h).2.2.2.1 n c hc rfl) n c hc) h2) h3
 ·refine e03 (F.prot.objs p u) λh1 h2 h3=>?_;exact i03 h1 (f _ ((λp u h=>(i _ h).2.2.2.2 p u rfl) p u) h2) h3
theorem Ex.freezeOwns {x:aE} {a:ay} {ls:List (ay × List ag)} {xs:List cD} (hx:ρ.lookup x=some (.owns a ls)) (k:Ex w sc r ((x,.d (.list (ls.map λp=>.list p.2)))::ρ) xs o) (ho:autoParam (cA x ρ=true) auT._auto_1):Ex w sc r ρ xs o:=by
 intro A f b d g i s j l F Q E q;refine e12 (F.freezeOwns hx ho) λn e u=>?_;exact k A f b d n i s j l u Q E λt m h c=>q t m h (e.trans c)
end
section
variable {w:ar} {sc:bf} {r:Nat} {ρ ρ':dh} {pos:cU} {P:ci}
theorem wN {i:Int}:iu w r (.builtin "int.bit_length") [II i] (II (bt i:Nat)):=by
 intro g d a A s e S Q E q;refine e11 (hY a.length.symm) λv c=>?_;obtain rfl:=c;refine e11 (V.int_inv a.1) λt b=>?_;obtain rfl:=b;exact call_int_bit_length (q _ g _ (S.tok _) (.int _ _))
theorem oE {o:be} {i:Int} {apos:cU} (h:Ev w sc r ρ o (II i)) (hb:autoParam (∀ a m,fZ o (ac "bit_length") a m=m) am._auto_9) (c:autoParam ((apos.endLine==pos.line)=true) auT._auto_1):Ev w sc r ρ (.Call (.Attribute o (ac "bit_length") apos) [] [] pos) (II (bt i:Nat)):=
 zf h .nil (λg v b s d=>by obtain ⟨t,rfl⟩:=b.int_inv;exact ⟨CV _ _ _,λ_ e=>(by cases e)⟩) PySem.F.plainAttrs_int M6 M3 wN hb c (by decide)
theorem HG {x:aE} {i:Int} {t:C9} (e:autoParam (∀ P,Bh (kF.heap_1 P) bA x=some (some (.int i t))) am._auto_9) (hx:autoParam (sc.names.lookup x=some .globalImplicit) auS._auto_1) (m:autoParam ((x==("__debug__":aE))=false) auF._auto_1):Ev w sc r ρ (.Name x pos) (II i):=
 λA c h a b g k s l n F Q E q=>Ev.glob e hx m A c h a b g k s l n F Q E λv o j d f=>q v o j d (by rw [show v=.int i t from f];exact .int _ _)
end
noncomputable def Go (M:lM) (A:bj) (Φ:Lf->af->Prop) (c:qr) (t:il bO) (fs:List uM) (s:af):Prop:=∀ Γ p,Γ.code=c->Γ.Woken A->∃ e s',Runs M Γ p t fs s e s'/\Φ e s'
section
variable {M:lM} {A:bj} {Φ:Lf->af->Prop} {c:qr} {fs:List uM} {s:af} {env:fg}
theorem fN {α:Type} {m:il α} {K:α->il bO} {H:ae->il bO} {gd:Bool->Bool} {lv:List ae->List ae} (h:aV M (A.over c fs) m (λa d=>Go M A Φ c (K a) fs d) (λx d=>Go M A Φ c (H x) fs d) s):Go M A Φ c (m.wrap K H gd lv) fs s:=by
 rintro e p rfl b;exact runs_wrap_of_wp K H gd lv m (h (e.over fs) p (b.over fs)) (λa f d g=>g e f rfl b) (λx f d g=>g e f rfl b)
theorem jG {α:Type} {m:il α} {K:α->il bO} (h:aV M (A.over c fs) m (λa b=>Go M A Φ c (K a) fs b) (λx b=>Go M A Φ c (.raise x) fs b) s):Go M A Φ c (m>>=K) fs s:=by
 rw [ca];exact fN h
theorem qD {a:cU} {k:Unit->il bO} (h:Go M A Φ c (k ()) fs s):Go M A Φ c (.at a k) fs s:=fN (m:=gQ a) (H:=.raise) (gd:=id) (lv:=id) (ct h)
theorem G9 {l:List ae} {k:Unit->il bO} (h:Go M A Φ c (k ()) fs s):Go M A Φ c (.point l k) fs s:=fN (H:=.raise) (gd:=id) (lv:=λ_=>l) (wpAny_point h)
theorem yV {a:qr} {d:Option ae} {g:Bool} {l:List ae} {k:eB->il bO} (m:∀ p,Go M A Φ a (M.den a) (.ret k d g l c p []::fs) s):Go M A Φ c (.call a d g l k) fs s:=by
 rintro f p rfl b;refine e22 (m p (f.goto a) p rfl (b.goto a)) λe h i j=>?_;exact i22 e h (runs_call_seg i) j
theorem rK {k:eB->il bO} {o:Option ae} {g:Bool} {l:List ae} {a:qr} {b:cU} {i:List ae} (r:eB) (m:Go M A Φ a (k r) fs s):Go M A Φ c (C0 r) (.ret k o g l a b i::fs) s:=by
 rintro f p rfl d;refine e22 (m (f.goto a) b rfl (d.goto a)) λe h j n=>?_;exact i22 e h (Runs.pop r j) n
theorem nP {a:qr} (h:a.quiet=true) (j:Go M A Φ a (M.den a) fs s):Go M A Φ c (.pure (.again a)) fs s:=by
 rintro d p rfl b;refine e22 (j (d.goto a) p rfl (b.goto a)) λe f g i=>?_;exact i22 e f (Runs.head (λ_ _ x=>.again h x) g) i
theorem Hb (r:eB) (h:Φ (.ret r) s):Go M A Φ c (C0 r) [] s:=by
 rintro a p rfl _;exact i22 (.ret r) s (Runs.leaf r) h
theorem Av {v:ae} {g:Bool} {l:List ae} {k:zl->il bO} (a:CX fs=none) (h:∀ p,Φ (.susp v g l k c p fs) s):Go M A Φ c (.yield v g l k) fs s:=by
 rintro b p rfl _;exact i22 _ s (Runs.yield' fs a) (h p)
variable {K:ui->il bO} {H:ae->il bO} {gd:Bool->Bool} {lv:List ae->List ae}
theorem pE (h:Go M A Φ c (K .next) fs s):Go M A Φ c ((eZ [] env).wrap K H gd lv) fs s:=h
theorem k9 {st:cD} {rest:List cD} (h:Go M A Φ c ((HX st env).wrap (λf=>match f with | .next=>(eZ rest env).wrap K H gd lv | f=>K f) H gd lv) fs s):Go M A Φ c ((eZ (st::rest) env).wrap K H gd lv) fs s:=by
 rw [execs_cons_wrap];exact h
theorem wC {e:be} {a pos:cU} (g:CX fs=none)
  (h:aV M (A.over c fs) (eW e env) (λv f=>∀ p k,(∀ (j:bj) (b:Lf->af->Prop) x d,(match x with | .ref _=>False | _=>Go M j b c (K .next) fs d)->Go M j b c (k (.send x)) fs d)->Φ (.susp v (gd false) (lv []) k c p fs) f) (λx f=>Go M A Φ c (H x) fs f) s)
  (i:env.scope.isCoroutine=false) (hi:ni env=false):Go M A Φ c ((HX (.Expr (.Yield (some e) a) pos) env).wrap K H gd lv) fs s:=by
 rw [exec_Expr env _ pos hi rfl]
 refine (?_:Go M A Φ c (.at pos λ_=>((eW e env>>=λv=>(gQ a>>=λ_=>N0 env v))>>=λx=>Mr (.Yield (some e) a) pos x).wrap K H gd lv) fs s)
 simp only [(λv=>by simp only [N0,i,sj,if_false]:∀ v,N0 env v=yieldValue v)]
 refine qD ?_
 rw [ca,ca,cJ,cJ]
 refine fN (cr h (λv f m=>?_) λ_ _ x=>x)
 refine qD (Av g λp=>m p _ λj b x d l=>?_)
 cases x <;>first | exact l | exact l.elim
theorem vj {st:cD} (h:aV M (A.over c fs) (HX st env) (λf b=>Go M A Φ c (K f) fs b) (λx b=>Go M A Φ c (H x) fs b) s):Go M A Φ c ((HX st env).wrap K H gd lv) fs s:=fN h
theorem L4 {a:be} {body orelse:List cD} {pos:cU} (h:aV M (A.over c fs) (te a env (eW a env)) (λb d=>Go M A Φ c ((eZ (if b=true then body else orelse) env).wrap K H gd lv) fs d) (λx d=>Go M A Φ c (H x) fs d) s): Go M A Φ c ((HX (.If a body orelse pos) env).wrap K H gd lv) fs s:=by
 refine (?_:Go M A Φ c (.at pos λ_=>(te a env (eW a env)>>=λb=>if b=true then eZ body env else eZ orelse env).wrap K H gd lv) fs s);refine qD ?_;rw [ca,cJ];refine fN (cr h (λb d e=>?_) λ_ _ x=>x);cases b <;>exact e
noncomputable def yJ (env:fg) (K:ui->il bO) (H:ae->il bO) (gd:Bool->Bool) (lv:List ae->List ae) (r:eB):il bO:=
 ((match r with | .ok f=>(.pure f:il ui) | .error e=>.raise e).onRaise λ(x:ae)=>do
    if (<- PG x 1)==dD then unsupported "frame.own-activation:exception-without-traceback"
    setFlight x env.frame).wrap K H gd lv
theorem G8 {a:be} {body orelse:List cD} {pos:cU} (h:∀ p,Go M A Φ (.whileLoop a body orelse env) (M.den (.whileLoop a body orelse env)) (.ret (yJ env K H gd lv) none (gd false) (lv []) c p []::fs) s): Go M A Φ c ((HX (.While a body orelse pos) env).wrap K H gd lv) fs s:=qD (yV h)
theorem Cb {t a:be} {body orelse:List cD} {pos:cU} (hs:∀ x,cN a env x=pure x) (h:aV M (A.over c fs) (eW a env) (λx e=>aV M (A.over c fs) (kO x) (λd b=>∀ p,Go M A Φ (.forLoop t d body orelse env) (M.den (.forLoop t d body orelse env)) (.ret (yJ env K H gd lv) none (gd false) (lv []) c p []::fs) b) (λx b=>Go M A Φ c (H x) fs b) e) (λx e=>Go M A Φ c (H x) fs e) s): Go M A Φ c ((HX (.For t a body orelse pos) env).wrap K H gd lv) fs s:=by
 refine (?_:Go M A Φ c (.at pos λ_=>(eW a env>>=λv=>cN a env v>>=λx=>gQ a.pos>>=λ_=>wV [x] (kO x)>>=λd=>K9 (.forLoop t d body orelse env) env).wrap K H gd lv) fs s);refine qD ?_;rw [ca,cJ];refine fN (cr h (λv e g=>?_) λ_ _ x=>x);rw [hs v];refine (?_:Go M A Φ c (.at a.pos λ_=>(wV [v] (kO v)>>=λd=>K9 (.forLoop t d body orelse env) env).wrap K H gd lv) fs e);refine qD ?_;rw [ca,cJ];refine fN (bw (cr g (λd b f=>?_) λ_ _ x=>x));exact yV f
end
section
variable {w:ar} {A:bj} {Φ:Lf->af->Prop} {c:qr} {fs:List uM} {s:af} {env:fg}
noncomputable def nN (env:fg) (e:ae):il bO:=(do lf e env;gN e:il Unit).wrap (λ_=>.raise e) .raise id id
theorem rJ {a:be} {body orelse:List cD}
  (h:aV (MM w) (A.over (.whileLoop a body orelse env) fs) (te a env (eW a env)) (λb d=>
    if b=true then Go (MM w) A Φ (.whileLoop a body orelse env) ((eZ body env).wrap (λf=>match f with
      | .next | .cont=>.pure (.again (.whileLoop a body orelse env))
      | .brk=>.pure (.done .next)
      | .ret v=>.pure (.done (.ret v))) (nN env) id id) fs d
    else Go (MM w) A Φ (.whileLoop a body orelse env) ((eZ orelse env).wrap (λf=>.pure (.done f)) (nN env) id id) fs d)
   (λx d=>Go (MM w) A Φ (.whileLoop a body orelse env) (nN env x) fs d) s):
  Go (MM w) A Φ (.whileLoop a body orelse env) ((MM w).den (.whileLoop a body orelse env)) fs s:=by
 refine (?_:Go (MM w) A Φ _ ((whileTurn a body orelse env).onRaise (λx=>do lf x env;gN x)) fs s)
 delta whileTurn
 rw [m7,ca,cJ]
 refine fN (cr h (λb d g=>?_) λx d i=>?_)
 ·cases b with
  | true=>
   rw [if_pos rfl,ca,cJ];rw [q7 (eZ body env) _ _ (K':=λf=>match f with
      | .next | .cont=>.pure (.again (.whileLoop a body orelse env))
      | .brk=>.pure (.done .next)
      | .ret v=>.pure (.done (.ret v))) (H':=nN env) (λf=>by cases f <;>rfl) (λe=>by
       refine (?_:(do lf e env;gN e:il Unit).bind (λ_=>.raise e)=_);rw [jB];rfl)]
   exact g
  | false=>
   rw [if_neg bb,ca,cJ];rw [q7 (eZ orelse env) _ _ (K':=λf=>(.pure (.done f):il bO)) (H':=nN env) (λf=>by rfl) (λe=>by
       refine (?_:(do lf e env;gN e:il Unit).bind (λ_=>.raise e)=_);rw [jB];rfl)]
   exact g
 ·refine (?_:Go (MM w) A Φ _ ((do lf x env;gN x:il Unit).bind λ_=>.raise x) fs d);rw [jB];exact i
noncomputable def I6 (t:be) (it:ae) (body:List cD) (env:fg):Option ae->il bO
 | none=>LB (.block [] env)
 | some v=>do
  fM t it v
  fu t env v
  match <- eZ body env with
  | .next | .cont=>LB (.forLoop t it body [] env)
  | .brk=>pure (.done .next)
  | .ret v=>pure (.done (.ret v))
theorem mK {t:be} {it:ae} {body:List cD}
  (h:aV (MM w) (A.over (.forLoop t it body [] a) fs) (ki it) (λr s'=>match r with
    | none=>Go (MM w) A Φ (.block [] a) ((MM w).den (.block [] a)) fs s'
    | some v=>aV (MM w) (A.over (.forLoop t it body [] a) fs) (fM t it v) (λ_ l=>aV (MM w) (A.over (.forLoop t it body [] a) fs) (fu t a v) (λ_ k=>
      Go (MM w) A Φ (.forLoop t it body [] a) ((eZ body a).wrap (λf=>match f with
       | .next | .cont=>.pure (.again (.forLoop t it body [] a))
       | .brk=>.pure (.done .next)
       | .ret v=>.pure (.done (.ret v))) (nN a) id id) fs k) (λx s'=>Go (MM w) A Φ (.forLoop t it body [] a) (nN a x) fs s') l) (λx s'=>Go (MM w) A Φ (.forLoop t it body [] a) (nN a x) fs s') s')
   (λx s'=>Go (MM w) A Φ (.forLoop t it body [] a) (nN a x) fs s') s):
  Go (MM w) A Φ (.forLoop t it body [] a) ((MM w).den (.forLoop t it body [] a)) fs s:=by
 revert w A Φ fs s a t it body
 intros w A Φ fs s a t it body;intro h
 obtain b:∀ {x:ae} {s':af},Go (MM w) A Φ (.forLoop t it body [] a) (nN a x) fs s'->Go (MM w) A Φ (.forLoop t it body [] a) ((do lf x a;gN x:il Unit).bind λ_=>.raise x) fs s':=λ{x s'} j=>by
  rw [jB];exact j
 show Go (MM w) A Φ _ (.at t.pos λ_=>((ki it).onRaise (λ_=>gQ {t.pos with line:=0})>>=I6 t it body a).onRaise (λx=>do lf x a;gN x)) fs s
 refine qD ?_
 rw [m7,ca,m7,cJ,cJ]
 refine fN (cr h (λr s' m=>?_) λx s' j=>?_)
 ·cases r with
  | none=>exact nP rfl m
  | some v=>
   refine (?_:Go (MM w) A Φ _ ((fM t it v>>=λ_=>fu t a v>>=λ_=>eZ body a>>=λf=>_).wrap _ _ _ _) fs s');rw [ca,cJ];refine fN (cr m (λ_ l o=>?_) λx s' j=>b j);rw [ca,cJ];refine fN (cr o (λ_ k n=>?_) λx s' j=>b j);rw [ca,cJ];rw [q7 (eZ body a) _ _ (K':=λf=>match f with
      | .next | .cont=>.pure (.again (.forLoop t it body [] a))
      | .brk=>.pure (.done .next)
      | .ret v=>.pure (.done (.ret v))) (H':=nN a) (λf=>by cases f <;>rfl) (λe=>by
       refine (?_:(do lf e a;gN e:il Unit).bind (λ_=>.raise e)=_);rw [jB];rfl)]
   exact n
 ·exact qD (b j)
theorem tC (h:Go (MM w) A Φ (.block [] env) (.pure (.done .next)) fs s):Go (MM w) A Φ (.block [] env) ((MM w).den (.block [] env)) fs s:=h
theorem yS {body:List cD}
  (h:Go (MM w) A Φ (.func body env) ((eZ body env).wrap (λf=>.pure (.done (.ret (match f with | .ret v=>v | _=>.none)))) (λe=>(Pf env e).wrap (λ_=>.raise e) .raise id id) id id) fs s):
  Go (MM w) A Φ (.func body env) ((MM w).den (.func body env)) fs s:=by
 refine G9 ?_
 rw [m7,ca,cJ]
 rw [q7 (eZ body env) _ _ (K':=λf=>.pure (.done (.ret (match f with | .ret v=>v | _=>.none)))) (H':=λe=>(Pf env e).wrap (λ_=>.raise e) .raise id id) (λf=>by cases f <;>rfl)
  (λe=>by rw [jB,cJ];rfl)]
 exact h
end
noncomputable def E8 (M:lM) (A:bj) (Φ:Lf->af->Prop) (gs:ji) (r:zl) (s:af):Prop:=
 match gs with
 | .fresh c=>r=.send .none/\Go M A Φ c (M.den c) [] s
 | .suspended k _ c _ fs _=>Go M A Φ c (k r) fs s
 | _=>False
theorem pj {M:lM} {A:bj} {Φ:Lf->af->Prop} {E:ae->af->Prop} {s:af} {g:Nat} {gs:ji} {r:zl} {l:List ae} {α:Type} {k:GenResult->il α} {Q:α->af->Prop} (x:s.gens[g]?=some gs) (d:E8 M A Φ gs r (s.setGen g .running)) (w:∀ e a,Φ e a->e.quiet=true/\aV M A (k e.result) Q E (a.setGen g e.genState)):aV M A (.resume g r l k) Q E s:=by
 intro j p h;obtain y:=λc=>h.wake c p;cases gs with
 | fresh c=>refine e02 d λz B=>?_;clear d;obtain rfl:=z;refine e22 (B (j.wake c p) p rfl (y c)) λb a n q=>?_;refine e02 (w b a q) λo m=>?_;exact i22 _ _ (by delta PJ;rw [x];exact i24 b a n o rfl rfl) (m j p h)
 | suspended v u f i t C=>refine e22 (d (j.wake f p) i rfl (y f)) λb a n q=>?_;refine e02 (w b a q) λo m=>?_;exact i22 _ _ (by delta PJ;rw [x];exact i24 b a n o rfl rfl) (m j p h)
 | running=>exact d.elim
 | finished=>exact d.elim
theorem oU {w:ar} {A:bj} {E:ae->af->Prop} {s:af} {a:ay} {g:Nat} {gs:ji} {Φ:Lf->af->Prop} {Q:Option ae->af->Prop} (C:A.handled=none) (B:s.heap.NoLimit) (f:A.depth<CY) (q:s.heap.IsGen a g) (i:s.gens[g]?=some gs) (h:E8 (MM w) A.in1 Φ gs (.send .none) (s.setGen g .running)) (y:∀ e d,Φ e d->e.quiet=true) (F:∀ v j l k c p n d,Φ (.susp v j l k c p n) d->Q (some v) (d.setGen g (Le v j l k c p n).genState)) (hR:∀ x d,Φ (.ret x) d->x=.ok (.ret .none)/\∀ t,(∀ b o,d.heap.get? b=some o->t.get? b=some o)->Q none {d.setGen g .finished with heap:=t}): aV (MM w) A (ki (.ref a)) Q E s:=by
 refine aa (eQ (eG (name:=ac "__next__") q.typeIs uL (ck uL q.typeIs Of ?_ (OY _))));refine (?_:aV _ _ (qH (.ref a) (.send .none)) _ _ s);refine aa (bw (MS q (aa (N2 i ?_))));cases gs with
 | running=>exact h.elim
 | finished=>exact h.elim
 | _=>
  refine aa (Mm B f ?_);refine pj i h λe d r=>⟨y e d r,?_⟩;cases e with
  | ret x=>refine e02 (hR x d r) λu z=>?_;obtain rfl:=u;refine (?_:aV _ _ (Oc (.type "StopIteration") []>>=_) _ _ _);refine aa ?_;refine aa (m:=C2 _ _) (fY (a:=dD) (by first | rfl | (rfl)) ?_);refine eU ?_ (by size_fits);refine aa (aa (Fu ?_));rw [show A.in1.handled=none from C];refine pe ?_;refine aa (eF (T:="StopIteration") (i12 _ (az _ rfl) rfl) C1 ?_);exact ah (z _ λb o D=>au _ (au _ D))
  | susp v j l k c p n=>exact ah (i12 v rfl (ah (F v j l k c p n d r)))
noncomputable def cR (s:af) (X:List ay):af:={s with heap:=mz s.heap λb=>!X.contains b}
theorem mN {s:af} {X:List ay} {b:ay}:(cR s X).heap.get? b=if X.contains b=true then none else s.heap.get? b:=by
 delta cR;rw [fo];cases X.contains b <;>rfl
theorem dZ {s:af} {X:List ay}:(cR s X).heap.objs.size=s.heap.objs.size:=by
 delta cR mz;simp
theorem mh {s:af} {X:List ay} {b:ay} (h:b∈X):(cR s X).heap.get? b=none:=by rw [mN,if_pos (by simpa using h)]
theorem ic {s:af} {X:List ay} {b:ay} (h:b∉X):(cR s X).heap.get? b=s.heap.get? b:=by rw [mN,if_neg (by simpa using h)]
section
variable {w:ar} {g g':aA} {s s':af} {X:List ay}
theorem rR.anchor (T:rR s.heap) (d:∀ a∈X,cg a=false):rR (cR s X).heap:=by
 obtain k:∀ P,cg P=true->lS s.heap P->lS (cR s X).heap P:=λP b ⟨c,e⟩=>⟨c,by rw [ic λh=>by replace b:=(d P h)▸b;exact AH b];exact e⟩;exact ⟨k _ rfl T.t1,k _ rfl T.t2,k _ rfl T.t3,k _ rfl T.t4⟩
theorem SS.anchor (S:SS w g s) (c:∀ a∈X,g.get? a=dO/\cg a=false):SS w g (cR s X) where
 base:=S.base
 sub b o e:=by
  rw [ic λh=>by replace e:=((c b h).1)▸e;exact lE e];exact S.sub b o e
 tabs:=S.tabs.anchor λa h=>(c a h).2
 big:=by rw [dZ];exact S.big
 notab:=S.notab
 bare:=S.bare
 codes:=S.codes.to λP o d e=>by rw [ic λh=>by replace d:=((c P h).2)▸d;exact AH d];exact e
theorem iB.anchor (S:SS w g s) (c:∀ a∈X,cg a=false):iB (cR s X) g s g where
 keep b o e _:=by
  replace e:=mN▸e;split at e;·exact lE e
  ·exact e
 size:=by rw [dZ];exact aq _
 tabs _:=S.tabs
 gens _ _ e:=e
 bare _ _ e:=.inl e
 os:=rfl
 le:=eN.refl g
 sub:=S.sub
 new _ _ e:=.inl e
 codes _:=S.codes
theorem jg (S:SS w g s) (f:∀ a∈X,cg a=false) (x:iB (cR s X) g s' g') {q:Pr} (j:addrs q=X):nU q s g s' g' where
 sx:=by
  refine ⟨λb o k e t=>x.keep b o (by rw [ic (j▸k)];exact e) t,by have:=x.size;replace this:=dZ▸this;exact this,λT=>?_,λi v _ e=>x.gens i v e,x.toStp.gsize,x.bare,x.os⟩;exact x.tabs (T.anchor f)
 le:=x.le
 sub:=x.sub
 new b o e:=(x.new b o e).elim .inl λh=>.inr (by replace h:=dZ▸h;exact h)
 codes c:=x.codes (c.to λP o d e=>by rw [ic λh=>by replace d:=(f P h)▸d;exact AH d];exact e)
end
noncomputable def eu (env:fg) (oL:ff) (pr:Pr):Pr:=⟨(env.locals,oL)::pr.objs,[]⟩
theorem FS.wake {w:ar} {s₀ s s2:af} {g₀ g g':aA} {env:fg} {pr:Pr} {ρ:dh} {f:ff} (F:FS w true s₀ g₀ env g pr ρ s) (H:s.heap.get? env.locals=some f) (j:∀ n,env.cells.lookup n=none) (k:∀ x b,ρ.lookup x=some b->pC b=false) (l:pr.gens=[]) (q:eN g g') (S:SS w g' s2) (i:kL g' s2 (eu env f pr)):FS w true (cR s2 (addrs (eu env f pr))) g' env g' pr ρ s2/\(∀ a∈addrs (eu env f pr),cg a=false):=by
 have y:∀ a∈addrs (eu env f pr),g'.get? a=none/\cg a=false:=λa u=>by
  rcases mC u with rfl | u;·exact ⟨(i.objs _ (.head _)).2,F.tabL⟩
  ·refine e11 (gI u) λo B=>?_;exact ⟨(i.objs _ (.tail _ B)).2,(F.prot.objs _ B).2.2.1.2⟩
 refine e02 (i.objs _ (.head _)) λA z=>?_;refine ⟨⟨S.anchor y,iB.anchor S λa h=>(y a h).2,⟨mh (.head _),F.tabL⟩,z,?_,λn c h=>?_,λn P c h _=>?_,⟨λp d=>?_,λp d=>?_⟩,λ_ n c h _=>?_⟩,λa h=>(y a h).2⟩
 ·obtain ⟨m,G,E⟩:=F.vars;refine i12 m (G.at' λo e=>by replace e:=H▸e;refine iM e λD=>?_;clear e;subst D;exact A) (λx b C=>?_);refine e12 (E x b C) λv r t=>?_;refine i12 v ?_ ?_
  ·rcases r with r | ⟨_,c,hcc,_⟩;·exact .inl r
   ·rw [j] at hcc;exact lE hcc
  ·exact t.free (k x b C) q
 ·rw [j] at h;exact lE h
 ·rw [j] at h;exact lE h
 ·refine e02 (i.objs p (.tail _ d)) λM L=>?_;refine e05 (F.prot.objs p d) λO N K J I=>?_;exact i05 M L ⟨mh (.tail _ (aX d)),K.2⟩ J I
 ·replace d:=l▸d;cases d
 ·rw [j] at h;exact lE h
noncomputable def GI (w:ar) (r:Nat) (fin:Bool) (k:Nat):List ag->aA->ji->Pr->Prop
 | [],g,gs,q=>fin=true->∀ g' A s,eN g g'->Rm r A->SS w g' s->kL g' s q->E8 (MM w) A.in1 (λe s'=>e=.ret (.ok (.ret .none))/\∃ g'',nU q s g' s' g'') gs (.send .none) s
 | x::xs,g,gs,q=>∀ g' A s,eN g g'->Rm r A->SS w g' s->kL g' s q->E8 (MM w) A.in1 (λe s'=>e.quiet=true/\∃ v gd l kk c p fs,e=.susp v gd l kk c p fs/\
   ∃ g'' q',nU q s g' s' g''/\kL g'' s' q'/\Jo q q' s/\q'.gens=[]/\V g'' v x/\GI w r fin k xs g'' e.genState q') gs (.send .none) s
theorem jL {s:af} {k i:Nat} {gs:ji}:(s.setGen k gs).gens[i]?=if k=i/\k<s.gens.size then some gs else s.gens[i]?:=by
 delta Shared.setGen;rw [Array.getElem?_setIfInBounds];by_cases h:k=i
 ·subst h;by_cases a:k<s.gens.size;·simp [a]
  ·simp [a]
 ·simp [h]
theorem SX.woken {X d:List ay} {k:Nat} {s s':af} {gs:ji} {h':aA} (x:SX X [] (s.setGen k .running) s') (l:∀ b∈X,b∈d) (hb:gs.bare=true) (c:∀ b o,s'.heap.get? b=some o->h'.get? b=some o) (hz:s.heap.objs.size<=h'.objs.size):SX d [k] s {s'.setGen k gs with heap:=h'} where
 keep b o hn e t:=c _ _ (x.keep b o (λh=>hn (l b h)) e t)
 size:=hz
 tabs T:=(x.tabs T).keeps c
 gens i v hn e:=by
  obtain a:k≠i:=λh=>hn (by simp [h]);rw [jL,if_neg (λh=>a h.1)];exact x.gens i v (by simp) (by rw [jL,if_neg (λh=>a h.1)];exact e)
 gsize:=by
  obtain n:(s.setGen k .running).gens.size=s.gens.size:=nW;obtain m:(s'.setGen k gs).gens.size=s'.gens.size:=nW;refine (?_:s.gens.size<=(s'.setGen k gs).gens.size);exact fa3 x.gsize (aj n.symm) (aj m.symm)
 bare i v e:=by
  replace e:=jL▸e;split at e
  ·refine iM e λj=>?_;clear e;subst j;exact .inr hb
  ·rcases x.bare i v e with h | h
   ·replace h:=jL▸h;split at h
    ·refine iM h λf=>?_;clear h;subst f;exact .inr rfl
    ·exact .inl h
   ·exact .inr h
 os:=x.os
theorem SS.running {w:ar} {g:aA} {s:af} {k:Nat} (S:SS w g s):SS w g (s.setGen k .running):=⟨S.base,S.sub,S.tabs,S.big,S.notab,λi v e=>by
 replace e:=jL▸e;split at e
 ·refine iM e λa=>?_;clear e;subst a;rfl
 ·exact S.bare i v e,S.codes⟩
theorem jf.gen {w:ar} {r:Nat} {fin:Bool} {k:Nat} {a:ay} {o:ff} {nm qn:ae} (ht:cg a=false) (ho:o.cls=.type "generator") (hd:o.data=.fields #[.int k 0,nm,qn]) (hs:o.slots=#[]):∀ {K:List ag} {g:aA} {J:ji} {q:Pr},GI w r fin k K g J q->a∉addrs q->q.gens=[]->jf w r fin (.ref a) K g ⟨(a,o)::q.objs,[(k,J)]⟩:=by
 have t:∀ {g C:aA} {s:af} {J:ji} {q:Pr},kL C s ⟨(a,o)::q.objs,[(k,J)]⟩->s.heap.IsGen a k:=λj=>(i34 o nm qn ((j.objs _ (.head _)).1) ho hd hs);have D:∀ {C:aA} {s:af},SS w C s->s.heap.NoLimit:=λS=>by
  refine e21 ((S.base.keeps S.sub).top) λmg mb T=>?_;exact T.nolimit
 intro K;induction K with
 | nil=>intro g J q h ha L;refine ⟨⟨(i34 a o ("generator") rfl (.head _) ho rfl),λC A s n z S j Q E k=>zh (t (g:=g) j) k⟩,λhf C A s n z S j Q E R=>?_⟩;obtain y:=j.gens _ (.head _);refine cC (oU z.handled (D S) z.room (t (g:=g) j) y (h hf C A (s.setGen k .running) n z S.running ⟨λp f=>j.objs p (.tail _ f),λp f=>by replace f:=L▸f;cases f⟩) (λe d m=>by rw [m.1];rfl) (λv gd l k c p fs d m=>by cases m.1) λx d m=>?_);obtain ⟨h1,B,M⟩:=m;cases h1;obtain U:=(by have:=M.sx;unfold l3 at this;replace this:=L▸this;exact this);exact ⟨rfl,λh' hk hz=>R _ B ⟨U.woken (λb I=>.tail _ I) rfl hk hz,M.le,λb o e=>hk b o (M.sub b o e),M.new,λc=>(M.codes c).to λP o _ e=>hk P o e⟩⟩
 | cons x K ih=>
  intro g J q h ha L;refine ⟨⟨(i34 a o ("generator") rfl (.head _) ho rfl),λC A s n z S j Q E k=>zh (t (g:=g) j) k⟩,λC A s n z S j Q E R=>?_⟩;have y:=j.gens _ (.head _);refine e02 (j.objs _ (.head _)) λH a0=>?_;refine oU z.handled (D S) z.room (t (g:=g) j) y (h C A (s.setGen k .running) n z S.running ⟨λp f=>j.objs p (.tail _ f),λp f=>by replace f:=L▸f;cases f⟩) (λe d m=>m.1) (λv gd l O c p fs d m=>?_) (λx d m=>by obtain ⟨_,_,_,_,_,_,_,_,h,_⟩:=m;cases h);obtain ⟨V,v',a2,l',a1,c',p',a3,m,B,q',u,Y,F,W,hv,G⟩:=m;cases m;obtain Z:k<d.gens.size:=aw (gA y).1 (by
   obtain this:=u.sx.gsize;exact le_of_eq_of_le (id (jl nW)) this)
  refine R v B ⟨(a,o)::q'.objs,[(k,(Le v gd l O c p fs).genState)]⟩ _ ⟨(SX.woken (h':=d.heap) (show SX (addrs q) [] _ _ from (by have:=u.sx;unfold l3 at this;replace this:=L▸this;exact this)) (λb I=>.tail _ I) (End.bare_of_quiet V) (λ_ _ e=>e) u.sx.size),u.le,u.sub,u.new,u.codes⟩ ⟨λp f=>?_,λp f=>?_⟩ ⟨λb I=>?_,λi hi=>.inl (by trivial),λh=>by exact L8 h⟩ hv (ih G (λh=>(F.1 a h).elim ha λh=>absurd (aH H) (bD h)) W)
  ·rcases mC f with rfl | f
   ·refine ⟨u.sx.keep a o ha H ht,?_⟩;cases e:B.get? a with
    | none=>rfl
    | some o2=>
     rcases u.new a o2 e with N | N;·replace N:=a0▸N;exact lE N
     ·exact absurd (aH H) (bD N)
   ·exact Y.objs p f
  ·rcases mC f with rfl | f;·rw [jL,if_pos ⟨rfl,Z⟩]
   ·cases f
  ·rcases mC I with rfl | I;·exact .inl (.head _)
   ·exact (F.1 b I).imp (λh=>.tail _ h) id
structure E9 (c:qr) (fs:List uM):Prop where
 split:CX fs=none
 guard:fs.any Frame.guarded=false
 rm:∀ r A,Rm (r+1) A->Rm r (A.in1.over c fs)
theorem E9.func {body:List cD} {env:fg}:E9 (.func body env) []:=⟨rfl,rfl,λr A h=>⟨h.handled,by
 obtain this:=h.depth;refine (?_:A.depth+0+1+4*r<=900);exact fa1 this,by have:=h.units;refine (?_:A.units+1+0+3+40*r<=9000);exact fa1 this⟩⟩
theorem fJ {body b2:List cD} {env e2:fg} {t:be} {it:ae} {k:eB->il bO} {l:List ae} {p:cU}:E9 (.forLoop t it b2 [] e2) [.ret k none false l (.func body env) p []]:=⟨rfl,rfl,λr A h=>⟨h.handled,by
 obtain this:=h.depth;refine (?_:A.depth+1+0+4*r<=900);exact fa1 this,by have:=h.units;refine (?_:A.units+1+3+0+40*r<=9000);exact fa1 this⟩⟩
theorem vJ {body b2 b3:List cD} {env e2 e3:fg} {t t3:be} {it:ae} {k k2:eB->il bO} {l l2:List ae} {p p2:cU}:E9 (.whileLoop t3 b3 [] e3) [.ret k none false l (.forLoop t it b2 [] e2) p [],.ret k2 none false l2 (.func body env) p2 []]:=⟨rfl,rfl,λr A h=>⟨h.handled,by
 obtain this:=h.depth;refine (?_:A.depth+1+0+4*r<=900);exact fa1 this,by have:=h.units;refine (?_:A.units+1+3+0+40*r<=9000);exact fa1 this⟩⟩
section
variable {w:ar} {sc:bf} {r:Nat} {ρ ρ':dh} {A:bj} {Φ:Lf->af->Prop} {c:qr} {fs:List uM} {env:fg} {K:ui->il bO} {H:ae->il bO} {gd:Bool->Bool} {lv:List ae->List ae} {s₀ s:af} {g₀ g:aA} {pr:Pr}
theorem yT {x:cD} {rest:List cD} (h:lF w sc r ρ x (.next ρ')) (i:cB sc env) (hA:Rm r (A.over c fs)) (F:FS w true s₀ g₀ env g pr ρ s) (k:∀ b a,eN g b->FS w true s₀ g₀ env b pr ρ' a->Go (MM w) A Φ c ((eZ rest env).wrap K H gd lv) fs a): Go (MM w) A Φ c ((eZ (x::rest) env).wrap K H gd lv) fs s:=
 k9 (vj (h _ env s₀ g₀ g pr s i hA F _ _ λl b a d e=>by
  refine e02 e λf j=>?_;clear e;obtain rfl:=f;exact k b a d j))
theorem Ha {t:be} {a b:List cD} {pos:cU} {rest:List cD} {i:Bool} (h:Tr w sc r ρ t i) (j:cB sc env) (hA:Rm r (A.over c fs)) (F:FS w true s₀ g₀ env g pr ρ s)
  (k:∀ e d,eN g e->FS w true s₀ g₀ env e pr ρ d->Go (MM w) A Φ c ((eZ (if i=true then a else b) env).wrap (λf=>match f with | .next=>(eZ rest env).wrap K H gd lv | f=>K f) H gd lv) fs d):
  Go (MM w) A Φ c ((eZ (.If t a b pos::rest) env).wrap K H gd lv) fs s:=
 k9 (L4 (h _ env true s₀ g₀ g pr s j hA F _ _ λe d x=>k e d x.le (F.step x)))
theorem vk {t:be} {a b:List cD} {pos:cU} {rest:List cD} (h:Tr w sc r ρ t true) (j:cB sc env) (hA:Rm r (A.over c fs)) (F:FS w true s₀ g₀ env g pr ρ s)
  (k:∀ e d,eN g e->FS w true s₀ g₀ env e pr ρ d->Go (MM w) A Φ c ((eZ a env).wrap (λf=>match f with | .next=>(eZ rest env).wrap K H gd lv | f=>K f) H gd lv) fs d):
  Go (MM w) A Φ c ((eZ (.If t a b pos::rest) env).wrap K H gd lv) fs s:=Ha h j hA F λe d i l=>by exact k e d i l
theorem vl {t:be} {a b:List cD} {pos:cU} {rest:List cD} (h:Tr w sc r ρ t false) (j:cB sc env) (hA:Rm r (A.over c fs)) (F:FS w true s₀ g₀ env g pr ρ s)
  (k:∀ e d,eN g e->FS w true s₀ g₀ env e pr ρ d->Go (MM w) A Φ c ((eZ b env).wrap (λf=>match f with | .next=>(eZ rest env).wrap K H gd lv | f=>K f) H gd lv) fs d):
  Go (MM w) A Φ c ((eZ (.If t a b pos::rest) env).wrap K H gd lv) fs s:=Ha h j hA F λe d i l=>by exact k e d i l
noncomputable def Ji (w:ar) (c:qr) (fs:List uM) (K:ui->il bO) (k:zl->il bO):Prop:=∀ (A':bj) (Φ':Lf->af->Prop) s'',Go (MM w) A' Φ' c (K .next) fs s''->Go (MM w) A' Φ' c (k (.send .none)) fs s''
noncomputable def rX (w:ar) (r:Nat) (fin:Bool) (k:Nat) (g':aA) (s:af) (q:Pr):List ag->Lf->af->Prop
 | [],e,s'=>e=.ret (.ok (.ret .none))/\∃ g'',nU q s g' s' g''
 | x::xs,e,s'=>e.quiet=true/\∃ v gd l kk c p fs,e=.susp v gd l kk c p fs/\∃ g'' q',nU q s g' s' g''/\kL g'' s' q'/\Jo q q' s/\q'.gens=[]/\V g'' v x/\GI w r fin k xs g'' e.genState q'
theorem sM {e:be} {P pos:cU} {rest:List cD} {fin:Bool} {k r2:Nat} {x:ag} {xs:List ag} {C:aA} {s2:af} {b:Pr} {o0:ff} (T:Ev w sc r ρ e (DV x)) (G:cB sc env) (hA:Rm r (A.over c fs)) (z:E9 c fs) (M:gd false=false)
  (hc:∀ n,env.cells.lookup n=none) (N:sc.isCoroutine=false) (S2:SS w C s2) (W:∀ a∈addrs (eu env o0 b),cg a=false) (U:pr.gens=[]) (i:∀ a∈addrs pr,a∈addrs b\/s2.heap.objs.size<=a)
  (F:FS w true (cR s2 (addrs (eu env o0 b))) C env g pr ρ s)
  (d:∀ j E o t l p Z,eN g j->FS w true (cR s2 (addrs (eu env o0 b))) C env j pr ρ E->E.heap.get? env.locals=some o->Ji w c fs (λf=>match f with | .next=>(eZ rest env).wrap K H gd lv | f=>K f) t->GI w r2 fin k xs j (.suspended t l c p fs Z) (eu env o pr)):
  Go (MM w) A (rX w r2 fin k C s2 (eu env o0 b) (x::xs)) c ((eZ (.Expr (.Yield (some e) P) pos::rest) env).wrap K H gd lv) fs s:=by
 refine k9 (wC z.split (T _ env true _ C g pr s G hA F _ _ λv j E O Q p t L=>?_) (by rw [G.scp];exact N) ?hi)
 case hi=>obtain rfl:=G.scp;delta ni;(rw [G.kind];rfl)
 have D:=F.step O
 refine bc λR=>?_
 obtain ⟨m,V,S⟩:=D.vars
 refine e32 (id V) λo es ep y z0=>?_
 refine R ?_
 refine ⟨by (rw [OZ,M,z.guard];rfl),v,_,_,t,c,p,fs,rfl,j,eu env o pr,jg S2 W D.aft rfl,⟨λq u=>?_,λq u=>(nm u)⟩,⟨λa B=>?_,λa B=>(nm B),λ_=>rfl⟩,rfl,Q,?_⟩
 ·rcases mC u with rfl | u;·exact ⟨y,D.notL⟩
  ·refine e03 (D.prot.objs q u) λY X z1=>?_;exact ⟨Y,X⟩
 ·rcases mC B with rfl | B;·exact .inl (.head _)
  ·exact (i a B).imp (λh=>.tail _ h) id
 ·exact d j E o t _ p _ O.le D y λA' I J i=>L A' I .none J i
end
noncomputable def wK (w:ar) (r:Nat) (f:ae) (Ps:List ci) (fin:Bool) (xs:List ag):Prop:=
 ∀ g vs,ko g Ps vs->∀ A s,Rm r A->SS w g s->∀ (Q:ae->af->Prop) (E:ae->af->Prop),
  (∀ it g' q s',iB s g s' g'->kL g' s' q->(∀ a∈addrs q,s.heap.objs.size<=a)->(∀ k∈l3 q,s.gens.size<=k)->jf w r fin it xs g' q->Q it s')->
  aV (MM w) A (call f vs) (λx s₁=>aV (MM w) A (kO x) Q E s₁) E s
theorem vb {y:aE} {v:ae} {xs:List aE}:∀ {a:List ae},xs.Nodup->(y,v)∈xs.zip a->(xs.zip a).reverse.lookup y=some v:=by
 induction xs with
 | nil=>exact λ_ h=>nm h
 | cons x xs d=>
  intro a b h;cases a with
  | nil=>exact nm h
  | cons u c=>
   rw [List.zip_cons_cons,iY,F0];rcases mC h with e | h
   ·cases e;rw [(List.lookup_eq_none_iff.2 λp f=>bne_iff_ne.mpr λe=>(nC b).1 (e▸(eO (jx.1 f)).1):(xs.zip c).reverse.lookup y=none),aK,beq_self_eq_true y];rfl
   ·rw [d (nC b).2 h];rfl
structure Me (a:ay) (o:ff) (nm qn:ae) (k:Nat) (q:Pr):Prop where
 tab:cg a=false
 cls:o.cls=.type "generator"
 dat:o.data=.fields #[.int k 0,nm,qn]
 slots:o.slots=#[]
 out:a∉addrs q
 gens:q.gens=[]
noncomputable def Mj (w:ar) (r:Nat) (f:ae) (Ps:List ci) (X:Nat->aA->ji->Pr->Prop):Prop:=
 ∀ g vs,ko g Ps vs->∀ A s,Rm r A->SS w g s->∀ (Q:ae->af->Prop) (E:ae->af->Prop),
  (∀ a o nm qn gs q s',iB s g s' g->kL g s' ⟨(a,o)::q.objs,[(s.gens.size,gs)]⟩->(∀ b∈addrs ⟨(a,o)::q.objs,[(s.gens.size,gs)]⟩,s.heap.objs.size<=b)->(∀ i∈l3 ⟨(a,o)::q.objs,[(s.gens.size,gs)]⟩,s.gens.size<=i)->Me a o nm qn s.gens.size q->X s.gens.size g gs q->Q (.ref a) s')->
  aV (MM w) A (call f vs) (λx s₁=>aV (MM w) A (kO x) Q E s₁) E s
theorem AT {w:ar} {f:ay} {oc:ae} {od:Option ay} {osl:Array (Option ae)} {fd:fR} {body:List cD} {r:Nat} {xs:List aE} {bs:List B} {ps:List ci} {X:Nat->aA->ji->Pr->Prop} (dv:List ae) (ho:(kF.heap_1 w.params).lookup f=some ⟨oc,od,.func fd,osl⟩) (hcd:tf (kF.heap_1 w.params) fd.code fd.qualname=true) (I:fd.body=.stmts body) (W:fd.closure=[]) (hg:fd.globals=bA) (a6:fd.builtins=dA) (hbind:∀ (C:List ae) (s:af),(kF.heap_1 w.params).In s.heap->(C++dv).length=xs.length->wZ s fd ⟨C,[]⟩ (xs.zip (C++dv))) (hp:y7 xs bs (ps++dv.map RV)) (hnd:xs.Nodup) (hkind:(xs.all λx=>fd.scope.names.lookup x==some .local)=true) (d:fd.scope.names.all (λx=>x.2 !=.cell && x.2 !=.free)=true) (a5:fd.scope.isCoroutine=false) (V:fd.scope.isGenerator=true) (hk:fd.scope.kind=.function) (h:∀ j D a0 g s L k,cB fd.scope j->j.frame=some j.locals->(∀ n,j.cells.lookup n=none)->FS w true D a0 j g {} (fn xs bs) s->s.heap.get? j.locals=some L->X k g (.fresh (.func body j)) (eu j L {})):Mj w r (.ref f) ps X:=by
 intro g K a3 A s hA S Q E q;refine iX ?_;have B:=S.base.keeps S.sub;refine bc λnO=>?_;obtain ⟨C,H⟩:∃ C,C=K++dv:=⟨_,rfl⟩;refine nO ?_;clear nO;have hv:=H▸a3.append (uE g dv);obtain Z:=hbind K s B.K (H▸((hp.1.trans (hp.2.1.trans hv.length)).symm));rw [<- H] at Z;refine codeAny_call_generator hA.room (B.K _ _ ho) rfl a5 V I (Ld B.K hcd) ?_;refine Z _ _ _ _ (nf (λx hx=>by have:=(aT d) x hx;simp at this;exact this.1) (λx hx=>?_) (λm R M=>?_) hk)
 ·obtain this:=aT hkind _ (eO hx).1;simpa using this
 have t:=λb o e=>M.extBut b o (bg (aH e)) (au _ e);have J:s.heap.objs.size<m.objs.size:=by rw [show m.objs.size=_ from M.1,cm];exact bU _
 have z:∀ n,fd.closure.lookup n=dO:=λn=>by rw [W];rfl
 obtain he:cB fd.scope (q0 fd.scope s.heap.objs.size fd.globals fd.closure (fd.qualname++".<locals>.") (some f) fd.code none fd.builtins):=⟨rfl,hk,hg,a6,λn U=>by
  rcases U with U | U;·obtain this:=(aT d) _ (mem_of_lookup U);exact (bb this).elim
  ·obtain this:=(aT d) _ (mem_of_lookup U);exact (bb this).elim⟩
 obtain a1:wH s {s with heap:=m,toks:=s.toks+(xs.zip C).length}:=Stp.heap t (aF J);obtain F:FS w true s g (q0 fd.scope s.heap.objs.size fd.globals fd.closure (fd.qualname++".<locals>.") (some f) fd.code none fd.builtins) g {} (fn xs bs) {s with heap:=m,toks:=s.toks+(xs.zip C).length}:=by
  refine ⟨S,S.same a1,Jj.of S.big (aq _),S.none (aq _),(i12 _ R (λy b hy=>?_)),λn c Y=>?_,λn n' c Y _=>?_,⟨λ_ h=>(nm h),λ_ h=>(nm h)⟩,λ_ n c Y _=>?_⟩
  ·refine e12 (lZ (s₀:=s) (env:=q0 fd.scope s.heap.objs.size fd.globals fd.closure (fd.qualname++".<locals>.") (some f) fd.code none fd.builtins) (h:=m) (pr:={}) hp hv hy) λv hm hb=>?_;refine i12 v (.inl ⟨?_,vb hnd hm⟩) hb;obtain this:=aT hkind _ (eO hm).1;exact bE this
  ·have:fd.closure.lookup n=some c:=Y;rw [z] at this;exact lE this
  ·have:fd.closure.lookup n=some c:=Y;rw [z] at this;exact lE this
  ·have:fd.closure.lookup n=some c:=Y;rw [z] at this;exact lE this
 refine e32 (id R) λL es ep O z0=>?_;obtain a4:m.NoLimit:=by
  refine e21 ((B.keeps t).top) λa7 a8 T'=>?_;exact T'.nolimit
 refine ⟨a4,?_⟩;obtain a2:∀ (o:ff) (tk:Nat) (nm G:ae),o={cls:=.type "generator",data:=.fields #[.int s.gens.size 0,nm,G]}->aV (MM w) A (kO (.ref m.objs.size)) Q E {s with heap:=m.push o,toks:=tk,gens:=s.gens.push (.fresh (.func body (q0 fd.scope s.heap.objs.size fd.globals fd.closure (fd.qualname++".<locals>.") (some f) fd.code none fd.builtins)))}:=by
  rintro o tk nm G rfl;obtain N:(m.push {cls:=.type "generator",data:=.fields #[.int s.gens.size 0,nm,G]}).get? m.objs.size=some {cls:=.type "generator",data:=.fields #[.int s.gens.size 0,nm,G]}:=az _ rfl;refine zh (i34 _ nm G N rfl rfl rfl) ?_;obtain l:eN s.heap (m.push {cls:=.type "generator",data:=.fields #[.int s.gens.size 0,nm,G]}):=λb o e=>au _ (t b o e);refine q m.objs.size {cls:=.type "generator",data:=.fields #[.int s.gens.size 0,nm,G]} nm G _ (eu _ L {}) _ (S.same ⟨⟨λb o e _=>l b o e,by rw [cm];exact fa1 J,λT=>T.keeps l,λi x e=>?_,λi x e=>?_,rfl⟩,λP o _ e=>l P o e⟩) ⟨λp hp=>?_,λp hp=>?_⟩ (λa ha=>?_) (λi hi=>?_) ⟨eD (ab S.big (aF J)),rfl,rfl,rfl,?_,rfl⟩ (h _ s g g _ L s.gens.size he rfl (λn=>by refine (?_:fd.closure.lookup n=none);rw [z]) F O)
  ·rw [Er];obtain this:=(gA e).1;rw [if_neg (bg this)];exact e
  ·have e':=e;rw [Er] at e';split at e'
   ·refine iM e' λz1=>?_;clear e';subst z1;exact .inr rfl
   ·exact .inl e'
  ·rcases mC hp with rfl | hp;·exact ⟨N,S.none (aF J)⟩
   ·rcases mC hp with rfl | hp;·exact ⟨au _ O,S.none (aq _)⟩
    ·cases hp
  ·rcases mC hp with rfl | hp;·simp
   ·cases hp
  ·rcases mC ha with rfl | ha;·exact aF J
   ·rcases mC ha with rfl | ha;·exact aq _
    ·cases ha
  ·have:i=s.gens.size:=by simpa [l3] using hi
   exact aj (id (jl this))
  ·intro h;rcases mC h with h | h;·exact (ed J) h
   ·cases h
 exact a2 _ _ _ _ rfl
theorem vL {w:ar} {f:ay} {oc:ae} {od:Option ay} {osl:Array (Option ae)} {fd:fR} {body:List cD} {r:Nat} {xs:List aE} {bs:List B} {ps:List ci} {fin:Bool} {ys:List ag} (dv:List ae) (ho:(kF.heap_1 w.params).lookup f=some ⟨oc,od,.func fd,osl⟩) (hcd:tf (kF.heap_1 w.params) fd.code fd.qualname=true) (i:fd.body=.stmts body) (u:fd.closure=[]) (H:fd.globals=bA) (z:fd.builtins=dA) (hbind:∀ (m:List ae) (s:af),(kF.heap_1 w.params).In s.heap->(m++dv).length=xs.length->wZ s fd ⟨m,[]⟩ (xs.zip (m++dv))) (hp:y7 xs bs (ps++dv.map RV)) (hnd:xs.Nodup) (hkind:(xs.all λx=>fd.scope.names.lookup x==some .local)=true) (e:fd.scope.names.all (λx=>x.2 !=.cell && x.2 !=.free)=true) (y:fd.scope.isCoroutine=false) (t:fd.scope.isGenerator=true) (G:fd.scope.kind=.function) (h:∀ b c d g s v k,cB fd.scope b->(∀ n,b.cells.lookup n=none)->FS w true c d b g {} (fn xs bs) s->s.heap.get? b.locals=some v->GI w r fin k ys g (.fresh (.func body b)) (eu b v {})):wK w r (.ref f) ps fin ys:=λg m F A s K S Q E q=>AT (X:=λk g C q=>GI w r fin k ys g C q) dv ho hcd i u H z hbind hp hnd hkind e y t G (λb c d g s v k I _=>h b c d g s v k I) g m F A s K S Q E λa o nm N C p D x l M L j J=>q _ g _ D x l M L (jf.gen j.tab j.cls j.dat j.slots J j.out j.gens)
theorem Fa {w:ar} {f:ay} {oc:ae} {od:Option ay} {osl:Array (Option ae)} {fd:fR} {body:List cD} {r:Nat} {xs:List aE} {bs:List B} {ps:List ci} {fin:Bool} {ys:List ag} (ho:(kF.heap_1 w.params).lookup f=some ⟨oc,od,.func fd,osl⟩) (hcd:tf (kF.heap_1 w.params) fd.code fd.qualname=true) (d:fd.body=.stmts body) (m:fd.closure=[]) (hg:fd.globals=bA) (hbl:fd.builtins=dA) (hbind:∀ i,i.length=xs.length->wY fd ⟨i,[]⟩=pure (xs.zip i)) (hp:y7 xs bs ps) (hnd:xs.Nodup) (hkind:(xs.all λx=>fd.scope.names.lookup x==some .local)=true) (b:fd.scope.names.all (λx=>x.2 !=.cell && x.2 !=.free)=true) (hco:fd.scope.isCoroutine=false) (l:fd.scope.isGenerator=true) (hk:fd.scope.kind=.function) (h:∀ a j o g s oL k,cB fd.scope a->(∀ n,a.cells.lookup n=none)->FS w true j o a g {} (fn xs bs) s->s.heap.get? a.locals=some oL->GI w r fin k ys g (.fresh (.func body a)) (eu a oL {})):wK w r (.ref f) ps fin ys:=
 vL [] ho hcd d m hg hbl (λi s _ h=>jC (by rw [bp] at h ⊢;exact hbind i h)) (by rw [show ps++[].map RV=ps from bp ps];exact hp) hnd hkind b hco l hk h
section
variable {w:ar} {r:Nat} {fin:Bool} {k:Nat} {ys:List ag} {g:aA} {q:Pr}
theorem GI.susp {kk:zl->il bO} {l:List ae} {c:qr} {p:cU} {fs:List uM} {cl:Bool} (h:(ys≠[]\/fin=true)->∀ a A s,eN g a->Rm r A->SS w a s->kL a s q->Go (MM w) A.in1 (rX w r fin k a s q ys) c (kk (.send .none)) fs s):GI w r fin k ys g (.suspended kk l c p fs cl) q:=by
 cases ys with
 | nil=>exact λi a A s b f S e=>h (.inr i) a A s b f S e
 | cons y ys=>exact λa A s b f S e=>h (.inl (by intro h;exact L8 h)) a A s b f S e
theorem GI.fresh {c:qr} (h:(ys≠[]\/fin=true)->∀ a A s,eN g a->Rm r A->SS w a s->kL a s q->Go (MM w) A.in1 (rX w r fin k a s q ys) c ((MM w).den c) [] s):GI w r fin k ys g (.fresh c) q:=by
 cases ys with
 | nil=>exact λi a A s b f S e=>⟨rfl,h (.inr i) a A s b f S e⟩
 | cons y ys=>exact λa A s b f S e=>⟨rfl,h (.inl (by intro h;exact L8 h)) a A s b f S e⟩
end
theorem yU {w:ar} {r:Nat} {fin:Bool} {k:Nat} {d g':aA} {s2 s:af} {A:bj} {c:qr} {env:fg} {o0:ff} {b pr:Pr} {ρ:dh} (f:SS w d s2) (e:∀ a∈addrs (eu env o0 b),cg a=false) (F:FS w true (cR s2 (addrs (eu env o0 b))) d env g' pr ρ s): Go (MM w) A (rX w r fin k d s2 (eu env o0 b) []) c (C0 (.ok (.ret .none))) [] s:=
 Hb _ ⟨rfl,_,jg f e F.aft rfl⟩
theorem codeAmong_app {pos p2:cU} {c cv:ae} {l:List ae} (h:TriplesOk l) (e:nZ pos (l++[dq p2.line,dq p2.col,c])=some cv):nZ pos l=some cv\/cv=c:=by
 fun_induction TriplesOk l with
 | case1=>
  simp only [mr,nZ,dq] at e;split at e
  ·refine iM e λd=>?_;clear e;subst d;exact .inr rfl
  ·exact lE e
 | case2 a t b u x r f=>
  simp only [jy,nZ] at e ⊢;split at e;·rename_i q;rw [if_pos q];exact .inl e
  ·rename_i q;rw [if_neg q];exact f h e
 | case3=>exact h.elim
section
variable {w:ar} {g:aA} {s:af} {P c':ay} {ps:Array ae} {h':aA} {tk:Nat} {pos:cU} {qual:aE} {oF:ff}
theorem SS.growAt {s':af} (S:SS w g s) (x:Stp s s') (p:ay->Bool) (hp:∀ b,p b=true->s.heap.objs.size<=b) (j:∀ a,eN g a->(∀ b o,p b=true->s'.heap.get? b=some o->a.get? b=some o)->mU g s.heap->mU a s'.heap): ∃ a,iB s g s' a/\∀ b o,p b=true->s'.heap.get? b=some o->a.get? b=some o:=by
 have d:eN g (mz s'.heap λb=>(g.get? b).isSome || p b):=λb o e=>by rw [fo,e];exact S.sub' x b o e
 have f:∀ b o,p b=true->s'.heap.get? b=some o->(mz s'.heap λb=>(g.get? b).isSome || p b).get? b=some o:=λb o k e=>by rw [fo,k];simpa using e
 refine i12 (mz s'.heap λb=>(g.get? b).isSome || p b) ⟨x,d,λb o e=>?_,λb o e=>?_,λc=>j _ d f c⟩ f
 ·rw [fo] at e;split at e;·exact e
  ·exact lE e
 ·rw [fo] at e;split at e
  ·rename_i q;cases h:g.get? b with
   | some i=>obtain this:=S.sub' x b i h;replace this:=e▸this;exact .inl this.symm
   | none=>replace q:=h▸q;exact .inr (hp b (by trivial))
  ·exact lE e
theorem SS.made (S:SS w g s) (K:cg P=true) (X:s.heap.get? P=some (oN ps)) (ht:TriplesOk ps.toList) (D:∀ p n,nZ p ps.toList=some n->∃ c,n=.ref c/\g.CodeRec (.ref c) (iG P)) (hx:gr P s.heap h') (m:s.heap.objs.size<=c') (r:c'<h'.objs.size) (l:h'.CodeRec (.ref c') (iG P)) (C:h'.get? P=some (oN (ps++#[dq pos.line,dq pos.col,.ref c']))) (J:oF.isFreed=false): ∃ d,iB s g {s with heap:=h'.push oF,toks:=tk} d/\d.get? h'.objs.size=some oF/\d.CodeRec (.ref c') (iG P):=by
 have i:∀ b o,b≠P->s.heap.get? b=some o->(h'.push oF).get? b=some o:=λb o E e=>au _ (hx b o E e);obtain x:(h'.push oF).get? P=some (oN (ps++#[dq pos.line,dq pos.col,.ref c'])):=au _ C;refine e44 l λa I H t V U R O=>?_;clear l;cases V;obtain j:∀ Q,lS s.heap Q->lS (h'.push oF) Q:=λQ ⟨B,e⟩=>by
  by_cases A:Q=P;·subst A;exact ⟨_,x⟩
  ·exact ⟨B,i _ _ A e⟩
 have f:∀ d:aA,(∀ b o,(b==c' || b==h'.objs.size)=true->(h'.push oF).get? b=some o->d.get? b=some o)->d.CodeRec (.ref c') (iG P):=λd k=>(i44 c' I H t rfl (k c' _ (by simp) (au _ U)) R O);obtain ⟨d,y,k⟩:=S.growAt (s':={s with heap:=h'.push oF,toks:=tk}) ⟨λb o e q=>i b o (λz=>by rw [z,K] at q;exact L7 q) e,(by rw [cm];exact aF (jd (aR m r))),λT=>⟨j _ T.t1,j _ T.t2,j _ T.t3,j _ T.t4⟩,λ_ _ e=>e,λ_ _ e=>.inl e,rfl⟩
  (λb=>b==c' || b==h'.objs.size) (λb E=>by
   rcases gS.mp E with h | h;·rw [bE h];exact m
   ·rw [bE h];exact aF (aR m r))
  (λd u k W Q A=>by
   by_cases v:Q=P
   ·subst v;refine i13 _ x (by rw [dQ];exact TriplesOk_snoc _ _ _ _ ht) (λp n e=>?_);replace e:=dQ▸e;rcases codeAmong_app ht e with h | h
    ·refine e12 (D p n h) λc G F=>?_;exact i12 c G (CodeRec.up F u)
    ·exact i12 c' h (f d k)
   ·refine e13 (W Q A) λB G F N=>?_;exact i13 B (i _ _ v G) F (λp n e=>by refine e12 (N p n e) λc M L=>?_;exact i12 c M (CodeRec.up L u)))
 exact i13 d y (k _ _ (by simp) (az _ J)) (f d k)
theorem SS.madeHit {c:ay} (S:SS w g s) (hx:eN s.heap h') (hz:s.heap.objs.size<=h'.objs.size) (f:oF.isFreed=false): ∃ d,iB s g {s with heap:=h'.push oF,toks:=tk} d/\d.get? h'.objs.size=some oF:=by
 refine e12 (S.grow (Stp.heap (t:=tk) (λb o e=>au _ (hx b o e):eN s.heap (h'.push oF)) (by rw [cm];exact gC hz)) (λb=>b==h'.objs.size) (λb h=>by rw [bE h];exact hz)) λd y k=>?_;exact i12 d y (k _ _ (by simp) (az _ f))
end
structure Eb where
 name:aE
 qual:aE
 params:zn
 body:List cD
 scope:bf
noncomputable def Eb.ne:Eb:=⟨default,default,default,[],default⟩
noncomputable abbrev Eb.obj (S:Eb) (clos:List (aE × ay)) (doc pm cv ctv:ae):ff:={cls:=.type "function",data:=.func (fnX S.name S.qual S.params S.body S.scope clos .none .none doc pm none cv ctv)}
noncomputable def lT (S:Eb) (env:fg) (g:aA) (v:ae):Prop:=∃ f clos doc pm cv ctv,v=.ref f/\g.get? f=some (S.obj clos doc pm cv ctv)/\g.CodeRec cv S.qual/\(∀ n c,clos.lookup n=some c->env.cells.lookup n=some c)/\∀ n,S.scope.names.lookup n=some .free->∃ c,clos.lookup n=some c
section
variable {w:ar} {sc:bf} {r:Nat} {ρ ρ':dh} {pos:cU} {o:m6} {c:ay} {q:aE}
theorem zz.cons {x:cD} {xs:List cD} (h:lF w sc r ρ x (.next ρ')) (k:zz (.ref c) q w sc r ρ' xs o):zz (.ref c) q w sc r ρ (x::xs) o:=by
 intro A e a b g i s v l m F Q E q;refine bI (h A e a b g i s l m F _ _ λn z u f j=>?_);refine e02 j λp B=>?_;clear j;obtain rfl:=p;exact k A e a b z i u v l m B Q E λn y t d=>q n y t (f.trans d)
theorem Jp (S:Eb) {P:ay} {xs:List cD} (p:∀ w g,(kF.heap_1 w).In g->Oo g c P) (hT:cg P=true) (hq:S.qual=iG P) (a0:q++S.name=S.qual) (L:sc.names.lookup S.name=some .local\/sc.names.lookup S.name=some .cell) (m:S.scope.names.all (λx=>x.2 !=.free || (sc.names.lookup x.1==some .cell || sc.names.lookup x.1==some .free))=true) (a7:S.params.defaults=[]) (a4:S.params.kw_defaults=[]) (ha:∀ a,annTrees S.params none a=[]) (k:Ex w sc r ((S.name,.clo (lT S))::ρ) xs o):zz (.ref c) q w sc r ρ (.FunctionDef S.name S.params S.body [] none [] S.scope none S.name pos::xs) o:=by
 intro A a H R g pr s hc y hA F Q E Qk;have u:=F.ss;refine bI (nestDef_K a7 a4 (ha a) ?_);obtain a1:qualnameIn a S.name S.name=S.qual:=by
  delta qualnameIn;rw [show a.kindOf S.name=sc.names.lookup S.name from by refine (?_:a.scope.names.lookup S.name=_);rw [y.scp],if_neg (λh=>(show sc.names.lookup S.name≠some .globalExplicit from by rcases L with h | h <;>rw [h] <;>decide) (bE h)),hc.2,a0]
 rw [a1];have M:∀ n,(n,dR)∈S.scope.names->∃ c,a.cells.lookup n=some c:=λn hn=>y.cin n (by simpa using aT m _ hn);refine bc λnO=>?_;refine e13 (u.codes P hT) λps O Y K=>?_;have C:=p w.params _ (u.base.K.keeps u.sub);obtain ⟨W,G,bm,ob,b1,b2,t,b4,b5,U⟩:=(u.base.keeps u.sub).bmain;refine nO ?_;obtain a6:bA≠P:=λz=>by
  refine e33 G λo es ep e hd z0=>?_;clear G;rw [z,O] at e;refine iM e λz1=>?_;clear e;subst z1;cases hd
 obtain a8:bm≠bA:=λz=>by
  refine e33 G λo es ep e hd z2=>?_;clear G;rw [z,e] at t;refine iM t λz3=>?_;clear t;subst z3;replace U:=hd▸U;cases U
 have hB:s.heap.BuiltinsAt W P:=⟨bm,ob,b1,b2,a8,(λz=>by rw [z,O] at t;refine iM t λz4=>?_;clear t;subst z4;cases b4),t,b4,b5,U⟩;obtain N:=mL M;obtain l:∀ n c,(clo a S.scope.names []).lookup n=some c->a.cells.lookup n=some c:=λn c h=>(ou M h).elim (λh=>by cases h) id;obtain j:∀ n,S.scope.names.lookup n=some .free->∃ c,(clo a S.scope.names []).lookup n=some c:=λn h=>dz.mp (pH (.inl (mem_of_lookup h)));have T:∀ (v:ae) i s',iB s g s' i->lT S a i v->aV (MM w) A (storeName a S.name v) (λ_ I=>(match Flow.next with | .next=>aV (MM w) A (eZ xs a) Q E I | r=>Q r I)) E s':=λv i s' x hv=>by
  refine (F.step x).store y (by rcases L with h | h;exact .inl h;exact .inr ⟨h,rfl⟩) (b:=.clo (lT S)) (i12 i (eN.refl _) hv) λs3 F3=>?_;exact k A a H R i pr s3 y hA F3 Q E λfl g4 s4 a3=>Qk fl g4 s4 (x.le.trans a3)
 cases hf:nZ pos ps.toList with
 | none=>refine makeFunction_K N y.glob G hc.1 C O Y hf a6 hB λB f d h' D hx a5 a2 J X=>?_;refine e13 (u.made (oF:=S.obj (clo a S.scope.names []) d ((W "__name__").getD .none) (.ref B) f) (tk:=D) hT O Y K hx a5 a2 (hq▸J) X rfl) λi x h1 h2=>?_;exact T _ i _ x ⟨_,_,d,_,.ref B,f,rfl,h1,hq▸h2,l,j⟩
 | some cv=>refine e12 (K _ _ hf) λB z5 h3=>?_;obtain rfl:=z5;refine makeFunction_hit N y.glob G hc.1 C O Y hf hB λf d h' D hk Z=>?_;refine e12 (u.madeHit (c:=B) (oF:=S.obj (clo a S.scope.names []) d ((W "__name__").getD .none) (.ref B) f) (tk:=D) hk Z rfl) λi x h1=>?_;exact T _ i _ x ⟨_,_,d,_,.ref B,f,rfl,h1,hq▸CodeRec.up h3 x.le,l,j⟩
theorem vN {name b:aE} {a:zn} {body:List cD} {scope:bf} {P:ay} {xs:List cD} (k:∀ S:Eb,S=⟨name,b,a,body,scope⟩->Ex w sc r ((name,.clo (lT S))::ρ) xs o) (e:∀ w g,(kF.heap_1 w).In g->Oo g c P) (p:autoParam (cg P=true) auT._auto_1) (m:autoParam (b=iG P) Bq._auto_6) (f:autoParam (q++name=b) Bq._auto_6) (h:autoParam (pt sc true name=true) auT._auto_1) (d:autoParam (scope.names.all (λx=>x.2 !=.free || (sc.names.lookup x.1==some .cell || sc.names.lookup x.1==some .free))=true) auT._auto_1) (j:autoParam (a.defaults=[]) Bq._auto_6) (i:autoParam (a.kw_defaults=[]) Bq._auto_6) (n:autoParam (∀ l,annTrees a none l=[]) am._auto_9):zz (.ref c) q w sc r ρ (.FunctionDef name a body [] none [] scope none name pos::xs) o:=
 Jp ⟨name,b,a,body,scope⟩ e p m f ((pt.out h).imp_right And.left) d j i n (k _ rfl)
end
structure vK (S:Eb) (xs:List aE):Prop where
 bind:∀ clos doc pm cv ctv vs,vs.length=xs.length->wY (fnX S.name S.qual S.params S.body S.scope clos .none .none doc pm none cv ctv) ⟨vs,[]⟩=pure (xs.zip vs)
 nodup:xs.Nodup
 loc:(xs.all λx=>S.scope.names.lookup x==some .local)=true
 nocell:S.scope.names.all (λx=>x.2 !=.cell)=true
 co:S.scope.isCoroutine=false
 gen:S.scope.isGenerator=false
 kind:S.scope.kind=.function
noncomputable def J6:ui->ae
 | .ret v=>v
 | _=>.none
noncomputable def NZ (S:Eb) (env:fg) (s:af) (X:List ay) (g:aA) (clos:List (aE × ay)) (ρcl:dh):Prop:=
 ∀ y b,ρcl.lookup y=some b->S.scope.names.lookup y=some .free/\∃ v c,clos.lookup y=some c/\s.heap.IsCell c (some v)/\∀ env',env'.cells=clos->s.heap.objs.size<=env'.locals->r9 (cR s X) env' g s.heap {} v b
theorem wG {α:Type} {x:aE}:∀ {a b:List (aE × α)},(a++b).lookup x=(a.lookup x).or (b.lookup x)
 | a,b=>F0
theorem Cm {w:ar} {st:Bool} {s₀ s:af} {g₀ g:aA} {env:fg} {pr:Pr} {ρ ρcl:dh} {A:bj} {S:Eb} {f:ay} {d:List (aE × ay)} {O pm cv P:ae} {xs:List aE} {bs:List B} {ps:List ci} {vs:List ae} {r:Nat} {X:List ay} {Q:ae->af->Prop} {E:ae->af->Prop} (F:FS w st s₀ g₀ env g pr ρ s) (l:vK S xs) (hA:Rm (r+1) A) (ho:g.get? f=some (S.obj d O pm cv P)) (hcd:g.CodeRec cv S.qual) (h1:∀ n c,d.lookup n=some c->env.cells.lookup n=some c) (h2:∀ n,S.scope.names.lookup n=some .free->∃ c,d.lookup n=some c) (hp:y7 xs bs ps) (V:ko g ps vs) (Y:∀ a∈X,g.get? a=none/\cg a=false) (hc:NZ S env s X g d ρcl) (k:∀ Z j p,Rm r Z->cB S.scope j->j.cells=d->s.heap.objs.size=j.locals->FS w true (cR s X) g j g {} (fn xs bs++ρcl) p->∀ E',aV (MM w) Z (eZ S.body j) (λN U=>Q (J6 N) U) E' p): aV (MM w) A (call (.ref f) vs) Q E s:=by
 have m:=F.ss;refine iX ?_;refine r3 hA.room (m.sub _ _ ho) rfl l.co l.gen rfl (CodeRec.up hcd m.sub) ?_;rw [l.bind _ _ _ _ _ _ ((hp.1.trans (hp.2.1.trans V.length)).symm)];refine ah (nf (λx H=>by have:=aT l.nocell x H;simpa using this) (λx H=>?_) (λt J z=>?_) l.kind)
 ·obtain this:=aT l.loc _ (eO H).1;simpa using this
 have i:=λb o e=>z.extBut b o (bg (aH e)) (au _ e);obtain K:t.NoLimit:=by
  refine e21 (((m.base.keeps m.sub).keeps i).top) λa0 a1 T'=>?_;exact T'.nolimit
 refine ⟨K,HY ?_⟩;obtain he:cB S.scope (q0 S.scope s.heap.objs.size bA d (S.qual++".<locals>.") (some f) cv none dA):=⟨rfl,l.kind,rfl,rfl,λn C=>by
  rcases C with C | C;·have:=aT l.nocell _ (mem_of_lookup C);exact (bb this).elim
  ·exact h2 n C⟩
 obtain D:wH s {s with heap:=t,toks:=s.toks+(xs.zip vs).length}:=Stp.heap i (aF (by rw [show t.objs.size=_ from z.1,cm];exact bU _));obtain R:iB (cR s X) g {s with heap:=t,toks:=s.toks+(xs.zip vs).length} g:=(iB.anchor m (λa ha=>(Y a ha).2)).trans (m.same D);obtain FI:FS w true (cR s X) g (q0 S.scope s.heap.objs.size bA d (S.qual++".<locals>.") (some f) cv none dA) g {} (fn xs bs++ρcl) {s with heap:=t,toks:=s.toks+(xs.zip vs).length}:=by
  refine ⟨m.anchor Y,R,(λb M=>Jj.of (by rw [dZ];exact m.big) (by rw [dZ];exact M):∀ b:ay,s.heap.objs.size<=b->Jj (cR s X) b) _ (aq _),m.none (aq _),(i12 _ J (λy b q=>?_)),λn c L=>?_,λn n' c a b=>F.apart n n' c (h1 _ _ a) (h1 _ _ b),⟨λ_ h=>(nm h),λ_ h=>(nm h)⟩,λ_ n c _ hk=>?_⟩
  ·replace q:=wG▸q;cases I:(fn xs bs).lookup y with
   | some b'=>replace q:=I▸q;cases q;refine e12 (lZ (s₀:=cR s X) (env:=q0 S.scope s.heap.objs.size bA d (S.qual++".<locals>.") (some f) cv none dA) (h:=t) (pr:={}) hp V I) λv W M=>?_;refine i12 v (.inl ⟨?_,vb l.nodup W⟩) M;obtain this:=aT l.loc _ (eO W).1;exact bE this
   | none=>replace q:=I▸q;obtain ⟨hf,v,c,k1,G,k3⟩:=hc y b q;refine i12 v (.inr ⟨.inr hf,c,k1,IsCell.at G λo e=>i _ _ e⟩) ?_;exact (k3 _ rfl (aq _)).move (eN.refl _) λb o ho e=>⟨i b o e,ho⟩
  ·refine e03 (F.cells n c (h1 _ _ L)) λT G z1=>?_;refine e11 T λv u=>?_;clear T;exact i03 ⟨v,IsCell.at u λo e=>i _ _ e⟩ G (bg u.lt)
  ·obtain this:=aT l.nocell _ (mem_of_lookup hk);exact (bb this).elim
 exact cr (k _ _ _ (⟨hA.handled,by have:=hA.depth;refine (?_:A.depth+1+4*r<=900);exact fa1 this,by have:=hA.units;refine (?_:A.units+3+40*r<=9000);exact fa1 this⟩:Rm r (A.deeper (q0 S.scope s.heap.objs.size bA d (S.qual++".<locals>.") (some f) cv none dA))) he rfl rfl FI _) (λN U h=>by cases N <;>exact h) λ_ _ h=>h
theorem nU.none {q:Pr} {s s':af} {g g':aA} (x:nU q s g s' g') (h1:addrs q=[]) (h2:l3 q=[]):iB s g s' g' where
 keep b o e t:=x.sx.keep b o (by rw [h1];nofun) e t
 size:=x.sx.size
 tabs:=x.sx.tabs
 gens i v e:=x.sx.gens i v (by rw [h2];nofun) e
 bare:=x.sx.bare
 os:=x.sx.os
 le:=x.le
 sub:=x.sub
 new:=x.new
 codes:=x.codes
section
variable {w:ar} {sc:bf} {st:Bool} {s₀ s s':af} {g₀ g g':aA} {env:fg} {pr:Pr} {ρ ρcl ρ':dh} {r:Nat} {o:m6}
theorem nU.fresh {q:Pr} (x:nU q s g s' g') {b:ay} (h:g.get? b=dO) (hb:b<s.heap.objs.size):g'.get? b=dO:=by
 cases e:g'.get? b with
 | none=>rfl
 | some o=>
  rcases x.new b o e with a | a;·replace a:=h▸a;exact lE a
  ·exact absurd hb (bD a)
theorem nU.over {q:Pr} (x0:iB s₀ g₀ s g) (f:∀ a∈addrs q,s₀.heap.get? a=dO) (d:q.gens=[]) (x:nU q s g s' g'):iB s₀ g₀ s' g' where
 keep b o e t:=x.sx.keep b o (λh=>by replace e:=(f b h)▸e;exact lE e) (x0.keep b o e t) t
 size:=ab x0.size x.sx.size
 tabs t:=x.sx.tabs (x0.tabs t)
 gens i v e:=x.sx.gens i v (by delta l3;rw [d];nofun) (x0.gens i v e)
 bare i v e:=(x.sx.bare i v e).elim (λe=>x0.bare i v e) .inr
 os:=x.sx.os.trans x0.os
 le:=x0.le.trans x.le
 sub:=x.sub
 new b o e:=(x.new b o e).elim (λe=>x0.new b o e) λh=>.inr (ab x0.size h)
 codes c:=x.codes (x0.codes c)
theorem FS.turnX {q:Pr} {y:aE} {b b':B} (F:FS w st s₀ g₀ env g pr ρ s) (hx:ρ.lookup y=some b) (ho:cA y ρ=true) (f:∀ a∈addrs q,l7 s₀ env g pr a) (I:q.gens=[]) (x:nU q s g s' g') (hb:∀ v,r9 s₀ env g s.heap pr v b->r9 s₀ env g' s'.heap pr v b'): FS w st s₀ g₀ env g' pr ((y,b')::ρ) s':=by
 obtain E:l3 q=[]:=by delta l3;rw [I];rfl
 have i:=λc o h e t=>x.sx.keep c o h e t;have j:∀ {n c v},env.cells.lookup n=some c->s.heap.IsCell c v->s'.heap.IsCell c v:=λd u=>IsCell.at u λo e=>i _ o ((λn c d h=>(f _ h).2.2.2.1 n c d rfl) _ _ d) e (nR F.ss.tabs u);obtain ⟨m,K,u⟩:=F.vars;have H:∀ {n:aE} {v:ae},Jn m s.heap env n v->Jn m s'.heap env n v:=λh=>by
  rcases h with h | ⟨hk,c,d,hcv⟩;·exact .inl h
  ·exact .inr ⟨hk,c,d,j d hcv⟩
 refine ⟨F.ss₀,(x.over F.aft (λb h=>(f b h).2.1.1) I),F.newL,x.fresh F.notL F.ltL,(i12 m (K.at' λo e=>i _ o (λh=>(f _ h).2.2.1 rfl) e F.tabL) (λn c d=>?_)),λn c d=>?_,F.apart,⟨λp A=>?_,λp A=>?_⟩,F.newC⟩
 ·rw [aK] at d;by_cases e:n=y
  ·subst e;replace d:=(beq_self_eq_true n)▸d;refine iM d λJ=>?_;clear d;subst J;refine e12 (u n _ hx) λv D k=>?_;exact i12 v (H D) (hb v k)
  ·replace d:=(show (n==y)=false from beq_false_of_ne e)▸d;refine e12 (u n c d) λv D k=>?_;exact i12 v (H D) (k.free (iS ho d e) x.le)
 ·refine e03 (F.cells n c d) λG z C=>?_;refine e11 G λv l=>?_;clear G;exact i03 ⟨v,j d l⟩ (x.fresh z l.lt) C
 ·refine e05 (F.prot.objs p A) λl z C M L=>?_;exact i05 (i _ _ (λh=>(f _ h).2.2.2.2 p A rfl) l C.2) (x.fresh z (aH l)) C M L
 ·refine e02 (F.prot.gens p A) λl z=>?_;exact ⟨x.sx.gens _ _ (by rw [E];nofun) l,z⟩
noncomputable def vE (S:Eb) (sc:bf) (x:aE) (ρ ρcl:dh) (X:List ay):Prop:=∀ y b,ρcl.lookup y=some b->S.scope.names.lookup y=some .free/\(sc.names.lookup y=some .cell\/sc.names.lookup y=some .free)/\
 ((y=x/\b=.clo (lT S))\/(Au b=true/\ρ.lookup y=some b)\/∃ a ds z,b=.own a ds false/\ρ.lookup y=some (.own a ds z)/\a∈X)
theorem vE.nil {S:Eb} {x:aE} {X:List ay}:vE S sc x ρ [] X:=λ_ _ h=>by cases h
theorem vE.cons {S:Eb} {x y:aE} {b:B} {X:List ay} (k:vE S sc x ρ ρcl X) (h1:(S.scope.names.lookup y==some .free)=true) (h2:(sc.names.lookup y==some .cell || sc.names.lookup y==some .free)=true) (h3:(y=x/\b=.clo (lT S))\/(Au b=true/\ρ.lookup y=some b)\/∃ a d z,b=.own a d false/\ρ.lookup y=some (.own a d z)/\a∈X):vE S sc x ρ ((y,b)::ρcl) X:=by
 intro n c e;rw [aK] at e;by_cases q:n=y
 ·subst q;replace e:=(beq_self_eq_true n)▸e;refine iM e λf=>?_;clear e;subst f;exact i03 (bE h1) (by simpa using h2) h3
 ·replace e:=(show (n==y)=false from beq_false_of_ne q)▸e;exact k n c e
theorem Jn.cell {m:aE->Option ae} {h:aA} {y:aE} {v:ae} (i:cB sc env) (a:sc.names.lookup y=some .cell\/sc.names.lookup y=some .free) (f:Jn m h env y v):∃ c,env.cells.lookup y=some c/\h.IsCell c (some v):=by
 obtain e:env.kindOf y=sc.names.lookup y:=by refine (?_:env.scope.names.lookup y=_);rw [i.scp]
 rcases f with ⟨b,_⟩ | ⟨_,c,h1,h2⟩
 ·replace b:=e▸b;replace a:=b▸a;rcases a with a | a <;>(refine iM a λd=>?_;clear a;cases d)
 ·exact i12 c h1 h2
theorem yW {S:Eb} {x:aE} {xp pos:cU} {args:List be} {ps:List ci} {xs:List aE} {bs:List B} {X:List ay} {A:bj} {Q:ae->af->Prop} {E:ae->af->Prop} (K:cB sc env) (hA:Rm (r+1) A) (F:FS w st s₀ g₀ env g pr ρ s) (hx:ρ.lookup x=some (.clo (lT S))) (ok:vK S xs) (t:rf w sc (r+1) ρ args ps) (hp:y7 xs bs ps) (ht:vE S sc x ρ ρcl X) (hX:∀ a∈X,∃ y D z,ρ.lookup y=some (.own a D z)) (hb:Ex w S.scope r (fn xs bs++ρcl) S.body o) (k:∀ V d p H g2 U,iB s g H p->FS w st s₀ g₀ env p pr ρ H->(∀ a∈X,cg a=false)->AR w true (cR H X) p d {} V g2 U o->Q (J6 V) U) (a1:(x==("__classdict__":aE))=false) (a0:(x==("__debug__":aE))=false):aV (MM w) A (eW (.Call (.Name x xp) args [] pos) env) Q E s:=by
 obtain ⟨m,hn,hv⟩:=F.vars;refine e12 (hv x _ hx) λv hh a5=>?_;refine aa (CU (kZ K.k hn hh a1 ?_) a0);obtain ⟨a9,C,f,R,a7,pm,cv,a8,rfl,a3,L,N,h2⟩:=a5;refine lh (P:=FnAt f) (by rw [t.plain env];rfl) (λh X=>keeps_F h X) (fA (t.first env pos) (t.run A env st s₀ g₀ g pr s pos K hA F _ _ λvs p H G a2=>?_));have J:=F.step G;obtain l:=G.le _ _ (C _ _ a3);refine ⟨(i41 _ _ _ _ (J.ss.sub _ _ l)),?_⟩;obtain Y:∀ a∈X,∃ D z,∃ v,r9 s₀ env p H.heap pr v (.own a D z):=λa t=>by
  refine e31 (hX a t) λy D z hy=>?_;obtain ⟨m',_,j⟩:=J.vars;refine e12 (j y _ hy) λv z0 hb=>?_;exact i31 D z v hb
 have M:∀ a∈X,p.get? a=dO/\cg a=false:=λa t=>by
  refine e34 (Y a t) λD z v z1 z2 h z3=>?_;exact ⟨h.1,h.2.1.2⟩
 refine Cm (ρcl:=ρcl) J ok hA l (CodeRec.up (CodeRec.up L C) G.le) N h2 hp a2 M (λy b hy=>?_) λA' d U a6 a4 b1 hL F2 E'=>?_
 ·refine e03 (ht y b hy) λT W t3=>?_;refine e11 (h2 y T) λc i=>?_;rcases t3 with ⟨rfl,rfl⟩ | ⟨hfx,hρ⟩ | ⟨a,D,z,rfl,hρ,haX⟩
  ·refine e12 (hh.cell K W) λc2 O I=>?_;have:=N _ _ i;replace this:=O▸this;refine iM this λz4=>?_;clear this;subst z4;exact ⟨T,_,_,i,IsCell.at I λo e=>G.keep _ o e (nR F.ss.tabs I),λd ec _=>⟨p,eN.refl _,f,R,a7,pm,cv,a8,rfl,l,CodeRec.up (CodeRec.up L C) G.le,λn c e=>by rw [ec];exact e,h2⟩⟩
  ·obtain ⟨m',_,j⟩:=J.vars;refine e12 (j y _ hρ) λu hu q=>?_;refine e12 (hu.cell K W) λc2 O I=>?_;obtain this:=N _ _ i;replace this:=O▸this;refine iM this λz5=>?_;clear this;subst z5;exact ⟨T,_,_,i,I,λd _ _=>q.fix hfx (eN.refl _)⟩
  ·obtain ⟨m',_,j⟩:=J.vars;refine e12 (j y _ hρ) λu hu q=>?_;refine e12 (hu.cell K W) λc2 O I=>?_;obtain this:=N _ _ i;replace this:=O▸this;refine iM this λz6=>?_;clear this;subst z6;refine ⟨T,_,_,i,I,λd ec hl=>?_⟩;refine e04 q λz7 z8 z9 b0=>?_;clear q;obtain rfl:=z7;refine e22 z8 λus n k1 k2=>?_;clear z8;refine e05 z9 λo1 o2 o3 o4 o5=>?_;clear z9;exact i04 rfl (i22 us n k1 k2) (i05 o1 ⟨mh haX,o2.2⟩ (bg (aw (aH k1) hl)) (λn c e=>o4 n c (N n c (by rw [<- ec];exact e))) (λ_ h=>(nm h))) (λh=>by exact AH h)
 ·exact hb A' d _ p p {} U a4 a6 F2 _ E' λV g3 s3 _ Z=>k V d p H g3 s3 G J (λa t=>(M a t).2) Z
theorem oD {S:Eb} {x:aE} {xp pos:cU} {args:List be} {ps:List ci} {xs:List aE} {bs:List B} {P:ci} (hx:ρ.lookup x=some (.clo (lT S))) (ok:vK S xs) (ha:rf w sc (r+1) ρ args ps) (hp:y7 xs bs ps) (ht:vE S sc x ρ ρcl []) (hb:Ex w S.scope r (fn xs bs++ρcl) S.body (.ret P)) (hx1:autoParam ((x==("__classdict__":aE))=false) auF._auto_1) (hx2:autoParam ((x==("__debug__":aE))=false) auF._auto_1):Ev w sc (r+1) ρ (.Call (.Name x xp) args [] pos) P:=by
 intro A env st s₀ g₀ g pr s he hA F Q E q;refine yW he hA F hx ok ha hp ht (λ_ h=>nomatch h) hb (λfl env' g1 s1 g2 s2 x1 F1 _ okk=>?_) hx1 hx2;refine e13 okk λv z0 y hpv=>?_;clear okk;obtain rfl:=z0;exact q v g2 s2 (x1.trans ((jg (q:={}) F1.ss (λ_ h=>Mine.nm h) y rfl).none rfl rfl)) hpv
theorem pK {S:Eb} {x y:aE} {xp cp pos:cU} {args:List be} {ps:List ci} {xs:List aE} {bs:List B} {a:ay} {ds es:List ag} {z:Bool} (hx:ρ.lookup x=some (.clo (lT S))) (D:ρ.lookup y=some (.own a ds z)) (N:vK S xs) (R:rf w sc (r+1) ρ args ps) (hp:y7 xs bs ps) (ht:vE S sc x ρ ρcl [a]) (hb:Ex w S.scope r (fn xs bs++ρcl) S.body (.next ρ')\/∃ P,Ex w S.scope r (fn xs bs++ρcl) S.body (.retR P ρ')) (I:ρ'.lookup y=some (.own a es false)) (ho:autoParam (cA y ρ=true) auT._auto_1) (t:autoParam ((x==("__classdict__":aE))=false) auF._auto_1) (p:autoParam ((x==("__debug__":aE))=false) auF._auto_1)   :lF w sc (r+1) ρ (.Expr (.Call (.Name x xp) args [] cp) pos) (.next ((y,.own a es z)::ρ)):=by
 intro A K m u g W s J T F Q E q;have C:∀ c i h j s2,iB s g h i->FS w true m u K i W ρ h->(∀ b∈[a],cg b=false)->FS w true (cR h [a]) i c j {} ρ' s2->Q .next s2:=λc i h j s2 l k d G=>by
  refine e03 (G.own I) λM Z z1=>?_;refine e22 M λV n k1 k2=>?_;clear M;refine e03 (k.own D) λL O z3=>?_;refine e22 L λH Y j1 j2=>?_;clear L;have X:=jg (q:=⟨[(a,ao H.toArray Y)],[]⟩) k.ss d G.aft rfl;refine q _ j s2 (l.le.trans X.le) ⟨rfl,k.turnX D ho (λb hb=>?_) rfl X λv hb=>(i04 hb.1 (i22 V n k1 k2) ⟨Z.1,O.2⟩ hb.2.2.2)⟩;obtain rfl:b=a:=by simpa [addrs] using hb
  exact O
 refine eV ?_ J.int rfl;rcases hb with hb | ⟨P,hb⟩
 ·refine yW J T F hx N R hp ht (λb hb=>mS hb▸(i31 y ds z D)) hb (λfl c i h j s2 l k d e=>?_) t p;exact C c i h j s2 l k d e.2
 ·refine yW J T F hx N R hp ht (λb hb=>mS hb▸(i31 y ds z D)) hb (λfl c i h j s2 l k d e=>?_) t p;refine e13 e λv U G z5=>?_;clear e;obtain rfl:=U;exact C c i h j s2 l k d G
end
section
variable {w:ar} {sc:bf} {st:Bool} {s₀ s s':af} {g₀ g g':aA} {env:fg} {pr:Pr} {ρ ρcl ρ':dh} {r:Nat} {o:m6} {pos:cU}
theorem FS.newOwn {vs:List ae} {ds:List ag} {tk:Nat} (F:FS w st s₀ g₀ env g pr ρ s) (d:VA g vs ds):FS w st s₀ g₀ env g pr ρ {s with heap:=s.heap.push (ao vs.toArray 0),toks:=tk}/\r9 s₀ env g (s.heap.push (ao vs.toArray 0)) pr (.ref s.heap.objs.size) (.own s.heap.objs.size ds):=by
 refine i05 (F.step (F.ss.same (Stp.push s _ tk))) rfl (i22 vs 0 (az _ rfl) d) (i05 (F.ss.none (aq _)) (Jj.of F.ss₀.big F.aft.size) (ed F.ltL) (λn c h e=>?_) (λp f e=>?_)) (λ_=>F.aft.size)
 ·refine e02 (F.cells n c h) λb j=>?_;refine e11 b λv i=>?_;clear b;exact bg i.lt e
 ·exact bg (aH (F.prot.objs p f).1) e
theorem zX {α:Type} (x:α):∀ k:Nat,(bC k [x]).flatten=bC k x
 | 0=>rfl
 | k+1=>by rw [jH,H6,zX x k];rfl
theorem Hq {v:ae} {d:ag} (h:V g v d):∀ k:Nat,VA g (bC k v) (bC k d)
 | 0=>VA.nil g
 | k+1=>.cons h (Hq h k)
theorem GP {A:bj} {l:ay} {vs:List ae} {n k:Nat} {t:C9} {Q:ae->af->Prop} {E:ae->af->Prop} (ho:s.heap.get? l=some (ao vs.toArray n)) (f:vs.length*k<=1000) (hk2:k<=1000) (q:Q (.ref s.heap.objs.size) {s with heap:=s.heap.push (ao (bC k vs).flatten.toArray 0),toks:=s.toks}):aV (MM w) A (Oj .Mult (.ref l) (.int k t)) Q E s:=by
 obtain a:vs.toArray.size*(k:Int).toNat<=2 ^ 24:=by rw [bk,bS];exact ab (by assumption) (by decide)
 obtain d:-(2 ^ 63:Int)<=(k:Int):=Bn (2 ^ 63) k;obtain e:(k:Int)<2 ^ 63:=by lia
 obtain c:=bS k;generalize (k:Int)=x at*;refine wpAny_binaryOp_repeat_ref (T:="list") (U:="int") rfl ⟨_,ho,rfl⟩ (λb=>CV b x t) noFill_list_mul PySem.F.fills_int_mul zD repeat_list PySem.F.slot_int_index.lookup
  (oM zD (CV s x t) PySem.F.entry_int_rmul (PySem.F.args_int_rmul_2 _ _) (lm_int_rmul_list_any x t l vs.toArray n none #[])
   (i04 ho rfl ⟨_,ho,rfl⟩ (oM PySem.F.slot_list_mul ⟨_,ho,rfl⟩ PySem.F.entry_list_mul (PySem.F.args_list_mul_2 _ _)
    (lm_list_mul_any l vs.toArray n none #[] x t (by simp only [M1];lia) (by lia) (by simp only [MZ,kt];lia)) ⟨ho,?_⟩)))
 rw [listMul_foldl_if,c];exact q
theorem GQ {A:bj} {l:ay} {v:ae} {k:Nat} {t:C9} {Q:ae->af->Prop} {E:ae->af->Prop} (ho:s.heap.get? l=some (ao [v].toArray 0)) (a:k<=1000) (q:Q (.ref s.heap.objs.size) {s with heap:=s.heap.push (ao (bC k v).toArray 0),toks:=s.toks}):aV (MM w) A (Oj .Mult (.ref l) (.int k t)) Q E s:=by
 refine GP ho (by rw [Nt];exact a) a ?_;rw [zX];exact q
theorem Cy {cv:ae} {H:aE} {x:aE} {p lp W:cU} {l f:be} {d:ag} {k:Nat} {xs:List cD} (h:Ev w sc r ρ l (DV d)) (P:Ev w sc r ρ f (II k)) (O:k<=1000) (hx:sc.names.lookup x=some .local\/(sc.names.lookup x=some .cell/\true=true)) (next:∀ a,zz cv H w sc r ((x,.own a (bC k d))::ρ) xs o) (u:autoParam (∀ b,bW [l] b=(false,eW l b)::bW [] b) am._auto_9):zz cv H w sc r ρ (.Assign [.Name x p] (.BinOp (.List [l] lp) .Mult f W) pos::xs) o:=by
 intro A b c e g m s B j C F Q E q;refine bI (dw (JA (mV ((rf.cons h .nil vH.d u).run A b true c e g m s _ j C F _ _ λZ U N G n=>?_))) rfl);refine e11 (hY n.length.symm) λv J=>?_;obtain rfl:=J;refine ⟨(show 1<=kt by decide),?_⟩;have D:=F.step G;obtain I:=(D.newOwn (VA.cons n.1 (VA.nil _))).1;refine P A b true c e U m _ j C I _ _ λcv T M i z=>?_;obtain ⟨t,rfl⟩:=z.int_inv;refine GQ (i.keep _ _ (az _ rfl) (eD D.ss.big)) O ?_;refine e02 ((I.step i).newOwn (tk:=M.toks) (Hq (n.1.mono i.le) k)) λY R=>?_;refine Y.store j hx R λL X=>?_;exact next _ A b c e T m L B j C X Q E λV S K y=>q V S K ((G.trans ((D.ss.same (Stp.push N _ _)).trans i)).le.trans y)
theorem Fl {x:aE} {np xp:cU} {a:ay} {ds:List ag} {z:Bool} (hx:ρ.lookup x=some (.own a ds z)) (hz:ds.length<=dK) (e:autoParam (∀ P,Bh (kF.heap_1 P) bA (ac "len")=some dO) am._auto_9) (hs:autoParam (sc.names.lookup (ac "len")=some .globalImplicit) auS._auto_1) (f:autoParam ((x==("__classdict__":aE))=false) auF._auto_1) (d:autoParam ((x==("__debug__":aE))=false) auF._auto_1):Ev w sc r ρ (.Call (.Name (ac "len") np) [.Name x xp] [] pos) (II ds.length):=by
 intro A h B b c g C s m p F Q E q;refine aa (Ev.blt (v:=.builtin "len") e rfl hs (by decide) rfl A h B b c g C s m p F _ _ λv O N k H=>?_);obtain rfl:=H;have u:=F.step k;refine cL m p u (rf.cons (Ev.name hx f d) .nil vH.raw) (D9.plain λa e=>by cases e) λK I M j l=>?_;refine e11 (hY l.length.symm) λv y=>?_;obtain rfl:=y;obtain rfl:=l.1;obtain t:=u.step j;refine e02 (t.own hx) λi J=>?_;refine e22 i λL n G D=>?_;clear i;obtain e:=D.length;delta dK at hz;refine FD ⟨_,G,rfl,n,rfl⟩ (by simp;exact cY.2 (fa2 hz (aj e))) ?_;rw [bk,e];exact q _ I _ ((k.trans j).trans (t.ss.tok _)) (.int _ _)
theorem Fe:lF w sc r ρ (.Return none pos) (.retR (RV .none) ρ):=λA c a b g d s e f F Q E q=>Ly (q _ g s (eN.refl g) ⟨_,rfl,F,rfl⟩)
theorem Ex.retR {x:cD} {xs:List cD} {P:ci} (h:lF w sc r ρ x (.retR P ρ')):Ex w sc r ρ (x::xs) (.retR P ρ'):=by
 intro A d a b g j s k l F Q E q;refine bI (h A d a b g j s k l F _ _ λn m i c e=>?_);refine e12 e λv f y=>?_;clear e;obtain rfl:=f;exact q _ m i c (i12 v rfl y)
end
noncomputable def AG (c:List Int) (k:Nat) (v:Int):List Int:=c.set (k % 6) (c.getD (k % 6) 0+v)
noncomputable def Ho:List Int:=[0,0,2,10,1078,970]
noncomputable def hZ (script:List Int):Nat->List Int
 | 0=>Ho
 | k+1=>AG (hZ script k) k (script.getD k 0)
theorem ka {script:List Int}:∀ {k:Nat},(hZ script k).length=6
 | 0=>rfl
 | k+1=>by refine (?_:((hZ script k).set _ _).length=6);rw [jY,ka]
theorem ES (w:ar) (script:List Int) (hz:script.length<=63):iu w 3 (.ref 253) [LL (script.map .int)] (LL ((hZ script script.length).map .int)):=by
 revert w script;intros w script;intro hz;refine' ea (xs:=[ac "script"]) rfl rfl rfl rfl rfl rfl ?hbind ?hp (by decide) (by decide) (by decide) rfl rfl rfl ?h;case hbind=>intro r p;refine e11 (hY p) λa m=>?_;obtain rfl:=m;rfl
 case hp=>exact .cons tN.d .nil
 case h=>
  refine mT (ds:=Ho.map .int) (.consD .int (.consD .int (.consD .int (.consD .int (.consD .int (.consD .int .nil)))))) (by decide) rfl λa=>?_;obtain c:(script.map cb).length<=dK:=by rw [ak];exact ab (by assumption) (by decide)
  refine Ex.cons (ρ':=[(ac "cells",.own a ((hZ script script.length).map .int)),(ac "script",.d (.list (script.map .int)))]) (gc (xs:=jK 0 script.length) (Ee.of (bZ (.one (bZ (.one (al rfl)) (fL c))) iV) (jS (by simp) (by decide) (by rw [ak];(refine iR ?_ ?_ <;>lia)))) ?_) ?_
  ·obtain e:script.length=(jK 0 script.length).length:=pk.symm;rw (occs:=.pos [2]) [e];refine Hx (I:=λk=>[(ac "cells",.own a ((hZ script k).map .int)),(ac "script",.d (.list (script.map .int)))]) λk x o=>?_;refine e02 (Iz o) λl q=>?_;obtain rfl:=l;rw [eM];obtain g:((k:Int)).fmod 6=((k % 6:Nat):Int):=by rw [jv _ (by decide)];rfl
   obtain f:k % 6<(hZ script k).length:=by rw [ka];exact iD _ (by decide)
   obtain j:((hZ script k).map cb).length<=dK:=by rw [ak,ka];decide
   obtain i:nT w 2 .Mod (.int k) (.int 6) (.int (k % 6:Nat)):=(kM (by decide) (by decide)).eq (by rw [g]);refine i23 _ _ eA (.inl (Ex.cons (tJ (ds:=(hZ script k).map .int) (k:=k % 6) (d:=.int ((hZ script k).getD (k % 6) 0+script.getD k 0)) rfl (bz (Fk rfl (bz (al rfl) .int i) (uC (by rw [aJ,an f];rfl)) j) (gf (al rfl) (al rfl) (uC (by rw [aJ,an q];rfl)) c) cQ) (bz (al rfl) .int i) (by rw [ak];exact f) j) Ex.nil)) ?_;exact r8.cons (by rw [(show ((hZ script k).map cb).set (k % 6) (.int ((hZ script k).getD (k % 6) 0+script.getD k 0))=(hZ script (k+1)).map .int from by rw [hZ,AG,ph])];rfl) (r8.cons rfl r8.nil)
  ·exact Ex.freeze (x:=ac "cells") rfl (Ex.ret (lF.ret (al rfl)))
noncomputable def sg (n:Nat):aE:=⟨#[n]⟩
noncomputable def iA (c:Int):List aE:=if (c.fdiv 7).fmod 2=1 then [sg 48,sg 49,sg 50] else [sg 48,sg 49]
noncomputable def wayK (ws:List aE) (c:Int):Nat:=(c.fmod ws.length).toNat
noncomputable def mv (ws:List aE) (c:Int):List aE:=ws.take (wayK ws c)++(iA c).map (λf=>ws.getD (wayK ws c) (ac "")++f)++ws.drop (wayK ws c+1)
noncomputable def lC (cells:List Int):Nat->List aE
 | 0=>[ac ""]
 | k+1=>mv (lC cells k) (cells.getD k 0)
structure WI (ws:List aE) (i:Nat):Prop where
 pos:0<ws.length
 le:ws.length<=1+2*i
 len:∀ x∈ws,x.length<=i
theorem AA (c:Int):∀ f∈iA c,f.length=1:=by delta iA;split <;>(intro f a;simp at a;rcases a with rfl | rfl | rfl <;>rfl)
theorem yr {ws:List aE} {c:Int} (h:0<ws.length):wayK ws c<ws.length:=by
 exact (Dj (cZ c (cY.2 h))).2 (ef c (cY.2 h))
theorem uB (c:Int):(iA c).length<=3:=by delta iA;split <;>decide
theorem He (c:Int):0<(iA c).length:=by delta iA;split <;>decide
theorem NQ {x:Int} (h:0<=x) (k:x<2) (n:¬ x=1):x=0:=by lia
theorem WI.step {ws:List aE} {i:Nat} (h:WI ws i) (c:Int):WI (mv ws c) (i+1):=by
 revert h;revert ws i c;intros ws i c;intro h;obtain b:=yr h.pos;obtain d:(mv ws c).length=ws.length - 1+(iA c).length:=by
  delta mv;simp only [aB,cS,ak,lx];rw [dB (aF b),nH,fm (wayK ws c) 1,Lh,bo (cW b)];rfl
 refine ⟨by rw [d];exact aw (He c) (dC _ _),by rw [d];exact ab (bJ (Nat.sub_le_iff_le_add'.2 h.le) (uB c)) (aj (fm (2*i+2) 1)),λx a=>?_⟩;rcases mA a with a | a
 ·rcases mA a with a | a;·exact gC (h.len x (eh a))
  ·refine e12 (mM a) λf g e=>?_;obtain rfl:=e;rw [bL,AA c f g];have:ws.getD (wayK ws c) (ac "")∈ws:=by
    rw [aJ,an b];exact ly b
   exact dL (h.len _ this)
 ·exact gC (h.len x (lV a))
theorem qM (a:List Int):∀ k,WI (lC a k) k
 | 0=>⟨df,aq _,by intro x b;obtain rfl:=mS b;decide⟩
 | k+1=>(qM a k).step _
theorem BH (c:Int):xn (pb (ac "012") none (some (2+(c.fdiv 7).fmod 2)))=(iA c).map .str:=by
 delta iA;split;·rename_i h;rw [h];rfl
 ·rename_i h;rw [(NQ (cZ (c.fdiv 7) (by decide)) (ef (c.fdiv 7) (by decide)) h)];rfl
theorem GZ (w:ar) (cells:List Int) (hz:cells.length<=4):iu w 3 (.ref 258) [LL (cells.map .int)] (LL ((lC cells cells.length).map .str)):=by
 revert w cells;intros w cells;intro hz;refine' ea (xs:=[ac "cells"]) rfl rfl rfl rfl rfl rfl ?hbind ?hp (by decide) (by decide) (by decide) rfl rfl rfl ?h;case hbind=>intro F D;refine e11 (hY D) λa A=>?_;obtain rfl:=A;rfl
 case hp=>exact .cons tN.d .nil
 case h=>
  refine Ex.cons (lF.set (Ev.list (ds:=[.str (ac "")]) (.one .str) (by decide))) ?_;refine Ex.cons (ρ':=[(ac "ways",.d (.list ((lC cells cells.length).map .str))),(ac "cells",.d (.list (cells.map .int)))]) (gc (xs:=cells.map .int) (Ee.of (al rfl) MP.list) ?_) ?_
  ·refine ke (by rw [ak]) (I:=λk=>[(ac "ways",.d (.list ((lC cells k).map .str))),(ac "cells",.d (.list (cells.map .int)))]) ?_;intros k x;intro l;rw [av] at l;cases o:cells[k]? with
   | none=>replace l:=o▸l;cases l
   | some c=>
   replace l:=o▸l;obtain rfl:cb c=x:=by simpa using l
   obtain q:cells.getD k 0=c:=by rw [aJ,o];rfl
   obtain W:=qM cells k;generalize hws:lC cells k=ws at W;obtain j:=ab W.le (aL (jO 2 (ab (aF ((gE o).1)) hz)) 1);obtain m:(ws.map da).length<=dK:=by rw [ak];exact ab j (by decide)
   obtain t:=yr W.pos;obtain s:c.fmod ((ws.map da).length:Int)=(wayK ws c:Nat):=by
    rw [ak];exact (dE (cZ c (cY.2 W.pos))).symm
   obtain n:(ws.map da)[wayK ws c]?=some (.str (ws.getD (wayK ws c) (ac ""))):=by
    rw [av,aJ,an t];rfl
   obtain p:ws.getD (wayK ws c) (ac "")∈ws:=by
    rw [aJ,an t];exact ly t
   obtain v:nT w 2 .Mod (.int c) (.int (ws.map da).length) (.int (wayK ws c:Nat)):=(kM (by rw [ak];exact My (cY.2 W.pos)) (by rw [ak];exact aR j (by decide))).eq (by rw [s]);obtain i:((iA c).map da).flatMap (λx=>[da (ws.getD (wayK ws c) (ac "")++Gl x)])=((iA c).map (λf=>ws.getD (wayK ws c) (ac "")++f)).map .str:=by
    generalize iA c=y;induction y with
    | nil=>rfl
    | cons f y C=>rw [bV,bP,C];rfl
   refine i23 _ _ eA (.inl (Ex.cons (lF.set (bz (al rfl) (bZ (.one (al rfl)) (fL m)) v)) (Ex.cons (lF.set (sV (a:=none) (b:=some (2+(c.fdiv 7).fmod 2)) .str trivial (bz .int (bz (bz (al rfl) .int (oH (by decide) (by decide))) .int (kM (by decide) (by decide))) cQ) (by decide))) (Ex.cons (lF.set (bz (bz (r0 (k:=wayK ws c) (al rfl) (al rfl) m) (Ev.eq ?hcomp (congrArg dp i)) (mj ?hadd1)) (ze (k:=wayK ws c+1) (al rfl) (bz (al rfl) .int cQ) m) (mj ?hadd2))) Ex.nil)))) ?hsub;case hsub=>exact r8.cons (by refine (?_:_=some (B.d (.list ((mv (lC cells k) (cells.getD k 0)).map .str))));rw [q,hws];delta mv;rw [bM,bM,Lk,Ll];rfl) (r8.cons rfl r8.nil)
   case hcomp=>
    refine kg (ρc:=[(ac "ways",.d (.list (ws.map .str))),(ac "k",.d (.int (wayK ws c:Nat)))]) (ρ₁:=λx=>(ac "figure",.d x)::[(ac "ways",.d (.list (ws.map .str))),(ac "k",.d (.int (wayK ws c:Nat)))]) (xs:=(iA c).map .str) (Ee.of (al rfl) ?it) rfl rfl (.cons rfl rfl rfl rfl (.cons rfl rfl rfl rfl .nil)) ?hz ?hb;case it=>have:=MP.str (w:=w) (r:=2) (x:=pb (ac "012") none (some (2+(c.fdiv 7).fmod 2)));rw [BH] at this;exact this
    case hz=>rw [i,ak,ak];exact ab (uB c) (by decide)
    case hb=>intro x l;refine e12 (mM l) λf E z=>?_;obtain rfl:=z;exact i03 eA (r8.new rfl) (K5.one (bz (gf (al rfl) (al rfl) (nE n) m) (al rfl) (iw (by rw [AA c f E];exact ab (dL (ab (W.len _ p) (ab (aF ((gE o).1)) hz))) (by decide)))) rfl)
   case hadd1=>(rw [cS,ak,ak,ak];exact ab (bJ (ab (eo _ _) j) (uB c)) (by decide))
   case hadd2=>(rw [aB,lx,cS,ak,ak,ak];exact ab (bJ (bJ (ab (eo _ _) j) (uB c)) (ab (fU _ _) j)) (by decide))
  ·exact Ex.ret (lF.ret (al rfl))
inductive du where
 | node (kids:List du)
noncomputable def du.ne:du:=.node []
mutual
noncomputable def du.dat:du->ag
 | .node l=>.list (qV l)
noncomputable def qV:List du->List ag
 | []=>[]
 | t::ts=>t.dat::qV ts
end
theorem oq:∀ l:List du,qV l=l.map du.dat
 | []=>rfl
 | t::a=>congrArg (t.dat::·) (oq a)
theorem ir (l:List du):(du.node l).dat=.list (l.map du.dat):=congrArg dp (oq l)
theorem AE (a b:List du):qV (a++b)=qV a++qV b:=by rw [oq,oq,oq,bM]
noncomputable def ny:List aE:=[sg 48,sg 49,sg 50]
noncomputable def cx (ways:List aE) (x:aE):Bool:=ways.any λo=>fw o x
noncomputable def hQ:Nat->List aE->aE->du
 | 0,_,_=>.node []
 | n+1,ways,way=>if ways.any (λy=>y==way) then .node [] else .node ((ny.filter λf=>cx ways (way++f)).map λf=>hQ n ways (way++f))
theorem uX (n:Nat) (a:List aE) (b:aE):hQ (n+1) a b=if a.any (λy=>y==b) then .node [] else .node ((ny.filter λf=>cx a (b++f)).map λf=>hQ n a (b++f)):=rfl
structure WS (ws:List aE):Prop where
 le:ws.length<=9
 len:∀ x∈ws,x.length<=4
 ok:∀ x∈ws,eE x=true
theorem Hp {ws:List aE} (h:∀ x∈ws,eE x=true):di (ws.map .str)=true:=by
 rw [canLayAll_strs'];exact o7.mpr h
theorem Jc (ws:List aE) (x:aE):((ws.map da).any λy=>fO y (.str x))=ws.any λy=>y==x:=by
 induction ws with
 | nil=>rfl
 | cons y ws a=>rw [bV,n9,a];rfl
theorem Ay (ws:List aE) (p:aE->Bool):((ws.map da).flatMap λx=>if p (Gl x) then [da (Gl x)] else [])=(ws.filter p).map .str:=by
 induction ws with
 | nil=>rfl
 | cons y ws a=>rw [bV,bP,a,lA];show (if p y=true then _ else _)++_=_;cases h:p y <;>rfl
theorem yX (l:List ag):fO (.list l) (.list [])=l.isEmpty:=by cases l <;>rfl
theorem zQ {ws:List aE} (h:∀ x∈ws,eE x=true):cc (.list (ws.map .str))=true:=by
 delta cc;rw [qf,Hp h,zC,depthAll_strs'];rfl
theorem IE {x y:aE} (h:fw x y=true):y.length<=x.length:=by
 delta fw at h;lia
theorem ET (a:List aE) (b:aE) (F:aE->du) (k:Nat) (f:aE) (h:ny[k]?=some f):((ny.take (k+1)).filter λf=>cx a (b++f)).map F=((ny.take k).filter λf=>cx a (b++f)).map F++(if cx a (b++f) then [F f] else []):=by
 rw [dF,h];cases c:cx a (b++f) <;>simp [c]
theorem I7 (ws:List aE) (p:aE->Bool):(!fO (.list ((ws.filter p).map .str)) (.list []))=ws.any p:=by
 induction ws with
 | nil=>rfl
 | cons o b a=>
  rw [lA,n9];cases h:p o;·exact a
  ·rfl
theorem Dy (c:Nat) (h:c<128):eE (sg c)=true:=by delta eE sg;simp;exact aw (by assumption) (by decide)
theorem xA {x y:aE} (hx:eE x=true) (a:eE y=true):eE (x++y)=true:=by
 delta eE at*;rw [(rfl:(x++y).cps=x.cps++y.cps),Array.all_append,hx,a];rfl
theorem Am (w:ar) (ways:List aE) (W:WS ways):∀ (n:Nat) (way:aE),way.length+n=5->eE way=true->cx ways way=true->iu w (n+2) (.ref 263) [LL (ways.map .str),SSV way] (DV (hQ n ways way).dat)
 | 0,way,t,l,m=>by
  exfalso;refine e12 (hH.mp m) λx i h=>?_;obtain this:=IE h;obtain this:=W.len x i;lia
 | n+1,way,t,l,m=>by
  refine' ea (xs:=[ac "ways",ac "way"]) rfl rfl rfl rfl rfl rfl ?hbind ?hp (by decide) (by decide) (by decide) rfl rfl rfl ?h;case hbind=>intro H F;refine e21 (jz F) λa b E=>?_;obtain rfl:=E;rfl
  case hp=>exact .cons tN.d (.cons tN.d .nil)
  case h=>
   obtain p:=(vX (x:=.str way) (Hp W.ok) (show qf (.str way)=true from l) (aM _)).eq (Jc ways way);rw [uX];cases B:(ways.any λy=>y==way) with
   | true=>exact Ex.ret (fr (bQ (al rfl) (al rfl) (p.eq B)) (Ex.ret (lF.ret (Ev.list (ds:=[]) .nil (by decide)))))
   | false=>
    refine Ex.cons (cf (bQ (al rfl) (al rfl) (p.eq B)) Ex.nil) ?_;refine mT (ds:=[]) .nil (by decide) rfl λa=>?_;refine Ex.cons (ρ':=[(ac "rows",.own a (qV (((ny.take 3).filter λf=>cx ways (way++f)).map λf=>hQ n ways (way++f)))),(ac "ways",.d (.list (ways.map .str))),(ac "way",.d (.str way))]) (gc (xs:=xn (ac "012")) (Ee.of .str MP.str) ?_) ?_
    ·refine ke rfl (I:=λk=>[(ac "rows",.own a (qV (((ny.take k).filter λf=>cx ways (way++f)).map λf=>hQ n ways (way++f)))),(ac "ways",.d (.list (ways.map .str))),(ac "way",.d (.str way))]) λk x i=>?_;obtain A:∃ f,ny[k]?=some f/\x=.str f/\f.length=1/\eE f=true:=by
      cases k with
      | zero=>cases i;exact i14 _ rfl rfl rfl (Dy _ (by decide))
      | succ k=>cases k with
      | zero=>cases i;exact i14 _ rfl rfl rfl (Dy _ (by decide))
      | succ k=>cases k with
      | zero=>cases i;exact i14 _ rfl rfl rfl (Dy _ (by decide))
      | succ k=>cases i
     refine e14 A λf G D r u=>?_;clear A;obtain rfl:=D;obtain j:nT w (n+2) .Add (.str way) (.str f) (.str (way++f)):=iw (by rw [r];unfold dK;exact fa1 (aj t));obtain q:=Ay ways λo=>fw o (way++f);obtain g:=ET ways way (λf=>hQ n ways (way++f)) k f G;refine i23 _ _ eA (.inl (Ex.cons (ρ':=?r2) ?hif Ex.nil)) ?hsub;case r2=>exact (ac "rows",.own a (qV (((ny.take (k+1)).filter λf=>cx ways (way++f)).map λf=>hQ n ways (way++f))))::(ac "figure",.d (.str f))::[(ac "rows",.own a (qV (((ny.take k).filter λf=>cx ways (way++f)).map λf=>hQ n ways (way++f)))),(ac "ways",.d (.list (ways.map .str))),(ac "way",.d (.str way))]
     case hsub=>exact r8.cons rfl (r8.cons rfl (r8.cons rfl r8.nil))
     case hif=>
      refine uG (bQ (Ev.eq ?comp (congrArg dp q)) (Ev.list .nil (by decide)) ((gh (zQ λx i=>W.ok x (wl.mp i).1) rfl).eq (I7 _ _):kr w (n+2) .NotEq (.list ((ways.filter λo=>fw o (way++f)).map .str)) (.list []) (cx ways (way++f)))) (λs=>?yes) (λs=>?no);case comp=>
       refine kg (ρc:=[(ac "way",.d (.str way)),(ac "figure",.d (.str f))]) (ρ₁:=λx=>(ac "one",.d x)::[(ac "way",.d (.str way)),(ac "figure",.d (.str f))]) (xs:=ways.map .str) (Ee.of (al rfl) MP.list) rfl rfl (.cons rfl rfl rfl rfl (.cons rfl rfl rfl rfl .nil)) ?hz ?hb;case hz=>rw [q,ak];have:=fW (λo=>fw o (way++f)) ways;have:=W.le;delta dK;lia
       case hb=>intro x i;refine e12 (mM i) λo J C=>?_;obtain rfl:=C;exact i03 eA (r8.new rfl) (uH (b:=fw o (way++f)) (Tr.val (lk (al rfl) (.one (bz (al rfl) (al rfl) j)) PySem.F.slot_str_startswith PySem.F.type_str_startswith vZ) AO.bool) (λ_=>al rfl) rfl)
      case yes=>
       rw [s,if_pos rfl] at g;obtain z:(qV (((ny.take k).filter λf=>cx ways (way++f)).map λf=>hQ n ways (way++f))).length<dK:=by
        rw [oq,ak,ak];delta dK;exact fa2 (fW (λf=>cx ways (way++f)) (ny.take k)) (show (ny.take k).length<=3 from by rw [cS];exact eo _ _)
       rw [g,AE];exact Ex.cons (lF.append rfl (bX (.consD (al rfl) (.one (bz (al rfl) (al rfl) j))) ((Am w ways W n) (way++f) (by rw [bL,r];exact bB (fa1 (aj t)) (fa1 (aj t.symm))) (xA l u) s)) z) Ex.nil
      case no=>rw [s,if_neg bb,bp] at g;rw [g];exact Ex.sub Ex.nil (r8.cons rfl (r8.refl _))
    ·refine Ex.freeze (x:=ac "rows") rfl (Ex.ret (lF.ret (al rfl)))
noncomputable def zw (b:Nat):Nat->du->Prop
 | 0,.node l=>l=[]
 | h+1,.node l=>l.length<=b/\∀ t∈l,zw b h t
noncomputable abbrev rV:=zw 3
noncomputable def cP (p:Int × Int):ag:=.tuple [.int p.1,.int p.2]
noncomputable def bK:Nat->du->List (Int × Int)
 | 0,_=>[(0,1)]
 | h+1,.node l=>if l.isEmpty then [(0,1)] else (br l.length).flatMap λk=>(bK h (l.getD k (.node []))).map λp=>((k:Int)+l.length*p.1,l.length*p.2)
theorem rL (h:Nat) (l:List du):bK (h+1) (.node l)=if l.isEmpty then [(0,1)] else (br l.length).flatMap λk=>(bK h (l.getD k (.node []))).map λp=>((k:Int)+l.length*p.1,(l.length:Int)*p.2):=rfl
theorem zw.len {b:Nat}:∀ {h:Nat} {l:List du},zw b h (.node l)->l.length<=b
 | 0,l,e=>by rw [show l=[] from e];exact aM _
 | h+1,l,e=>e.1
theorem zw.kid {b h:Nat} {l:List du} (o:zw b (h+1) (.node l)) (k:Nat):k<l.length->zw b h (l.getD k (.node [])):=λa=>by
 rw [aJ,an a];exact o.2 _ (ly a)
theorem DZ {b:Nat}:∀ (h:Nat) (t:du),zw b h t->t.dat.canLay0=true/\t.dat.depth<=h+1
 | 0,.node l,e=>by rw [show l=[] from e];decide
 | h+1,.node l,e=>by
  obtain f:∀ l:List du,(∀ t∈l,zw b h t)->di (l.map du.dat)=true/\pc (l.map du.dat)<=h+1:=by
   intro l;induction l with
   | nil=>intro _;exact ⟨rfl,aM _⟩
   | cons t k i=>intro g;refine e02 (DZ h t (g t (.head _))) λa j=>?_;refine e02 (i λt h=>g t (.tail _ h)) λc d=>?_;rw [bV,di,a,c];exact ⟨rfl,tu.mpr ⟨j,d⟩⟩
  rw [ir];refine e02 (f l e.2) λa b=>?_;exact ⟨a,dL b⟩
theorem jM {b h:Nat} {t:du} (o:zw b h t) (c:h<=60):cc t.dat=true:=by
 refine e02 (DZ h t o) λa b=>?_;delta cc;rw [a];exact decide_eq_true (fa2 c b)
theorem jR {w:Nat} (hw:1<=w):∀ (h:Nat) (t:du),zw w h t->(bK h t).length<=w ^ h/\∀ p∈bK h t,0<=p.1/\p.1<p.2/\p.2<=(w:Int) ^ h
 | 0,t,_=>⟨aq _,λp d=>by obtain rfl:=mS d;exact i03 (by decide) (by decide) (by simp)⟩
 | h+1,.node l,e=>by
  rw [rL];by_cases j:l.isEmpty=true
  ·rw [if_pos j];have:1<=w ^ (h+1):=js _ _ hw;refine ⟨this,λp d=>?_⟩;simp at d;subst d;refine i03 (by decide) (by decide) ?_;refine (?_:(1:Int)<=_);exact_mod_cast this
  ·rw [if_neg j];obtain f:∀ n,n<=l.length->((br n).flatMap λk=>(bK h (l.getD k (.node []))).map λp=>((k:Int)+l.length*p.1,(l.length:Int)*p.2)).length<=n*w ^ h:=by
    intros n;induction n with
    | zero=>intro _;simp
    | succ n s=>intro i;rw [mn,cO,aB,Nx];obtain a:=s (fz i);obtain b:=(jR hw h _ (e.kid n (kS i))).1;simp only [bP,lz,bp,ak] at*;rw [Nt];exact bJ a b
   refine ⟨?_,λp d=>?_⟩
   ·refine ab (f l.length (aq _)) ?_;rw [pR,kR (w ^ h)];exact en _ e.1
   ·refine e12 (lu.mp d) λk m d=>?_;refine e12 (mM d) λq u r=>?_;obtain rfl:=r;refine e03 ((jR hw h _ (e.kid k (mR m))).2 q u) λa b c=>?_;obtain o:=bF l.length;refine i03 ?_ ?_ ?_;·exact nK (bF k) (nI o a)
    ·obtain g:=bH b o;rw [md,iz] at g;exact iF (by rw [ut];exact jP (cY.2 (mR m)) _) g
    ·obtain g:=cK (dM.2 e.1) (bT (fh a b));rw [uq,kW (_ ^ h)];exact bv g (bH c (bF w))
theorem kK (h:Nat) (t:du) (a:rV h t):(bK h t).length<=3 ^ h/\∀ p∈bK h t,0<=p.1/\p.1<p.2/\p.2<=3 ^ h:=jR (by decide) h t a
theorem jF {l:List du}:(l.map du.dat).length=l.length:=ak _
noncomputable def Ka (h:Nat) (l:List du):ag->List ag
 | .int k=>(bK h (l.getD k.toNat (.node []))).map cP
 | _=>[]
noncomputable def BW (n:Nat):ag->ag->List ag
 | .int k,.tuple [.int f,.int s]=>[.tuple [.int (k+n*f),.int (n*s)]]
 | _,_=>[]
theorem ew {α a:Type} {l:List α} {f g:α->List a} (h:∀ x∈l,f x=g x):l.flatMap f=l.flatMap g:=by
 induction l with
 | nil=>rfl
 | cons x d b=>rw [bP,bP,h x (.head _),b λy c=>h y (.tail _ c)]
theorem xJ (h:Nat) (l:List du):((jK 0 l.length).flatMap λx=>(Ka h l x).flatMap (BW l.length x))= ((br l.length).flatMap λk=>(bK h (l.getD k (.node []))).map λp=>((k:Int)+l.length*p.1,(l.length:Int)*p.2)).map cP:=by
 delta jK;rw [ej,lw];refine ew λk _=>?_;refine (?_:(((bK h (l.getD (0+(k:Int)).toNat (.node []))).map cP).flatMap (BW l.length (.int (0+k))))=_);rw [eM,bS];generalize bK h (l.getD k (.node []))=b;induction b with
 | nil=>rfl
 | cons p c a=>rw [bV,bP,a];rfl
noncomputable def NE (ρ:dh):ag->dh
 | .tuple [a,b]=>(ac "step",.d b)::(ac "first",.d a)::ρ
 | _=>ρ
theorem GD {h:Nat} (a:h<=5):(3:Nat) ^ h<=243:=ab (jr (by decide) a) (by decide)
theorem J7 {h:Nat} (a:h<=5):(3:Int) ^ h<=243:=by exact_mod_cast GD a
theorem sF (w:ar) {b:Nat} (j:1<=b):∀ (h:Nat) (t:du),zw b h t->h<=5->b ^ h<=1000->b<=1000->iu w (h+3) (.ref 320) [DV t.dat] (LL ((bK h t).map cP))
 | h,.node l,m,z,v,u=>by
  have A:=m.len;have c:(l.map du.dat).length<=dK:=by rw [ak];delta dK;exact fa2 u A
  have r:=jM m (fa1 z);rw [ir] at r ⊢;refine' ea (xs:=[ac "rows"]) rfl rfl rfl rfl rfl rfl ?hbind ?hp (by decide) (by decide) (by decide) rfl rfl rfl ?h;case hbind=>intro L J;refine e11 (hY J) λa F=>?_;obtain rfl:=F;rfl
  case hp=>exact .cons tN.d .nil
  case h=>
   have g:kr w (h+2) .Eq (.list (l.map du.dat)) (.list []) l.isEmpty:=(pO r rfl).eq (by cases l <;>rfl);cases n:l.isEmpty with
   | true=>
    obtain e:bK h (.node l)=[(0,1)]:=by
     cases h with
     | zero=>rfl
     | succ h=>rw [rL,if_pos n]
    rw [e];exact Ex.ret (fr (bQ (al rfl) (Ev.list .nil (by decide)) (g.eq n)) (Ex.ret (lF.ret (Ev.list (.one (Ev.tuple (.consD .int (.one .int)) (by decide))) (by decide)))))
   | false=>
    match h,m,z,v,g with
    | 0,m,_,_,_=>exfalso;replace n:=(show l=[] from m)▸n;cases n
    | h+1,m,z,v,g=>
    obtain B:=jR j (h+1) (.node l) m;obtain e:bK (h+1) (.node l)=((br l.length).flatMap λk=>(bK h (l.getD k (.node []))).map λp=>((k:Int)+l.length*p.1,(l.length:Int)*p.2)):=by
     rw [rL,if_neg (by rw [n];exact bb)]
    rw [e] at B ⊢;refine Ex.cons (cf (bQ (al rfl) (Ev.list .nil (by decide)) (g.eq n)) Ex.nil) ?_;refine Ex.ret (lF.ret (Ev.eq (A2 (ρc:=[(ac "rows",.d (.list (l.map du.dat)))]) (ρ₁:=λx=>(ac "k",.d x)::[(ac "rows",.d (.list (l.map du.dat)))]) (ρ₂:=λx y=>NE ((ac "k",.d x)::[(ac "rows",.d (.list (l.map du.dat)))]) y) (xs:=jK 0 l.length) (ys:=Ka h l) (outs:=BW l.length) ?hi rfl rfl (.cons rfl rfl rfl rfl .nil) ?hz ?hb) (congrArg dp (xJ h l))));case hi=>exact Ee.of (bZ (.one (bZ (.one (al rfl)) (fL c))) iV) (jS (by rw [jF];rfl) (by decide) (by rw [jF];(refine iR ?_ ?_ <;>lia)))
    case hz=>rw [xJ,ak];delta dK;exact fa2 v B.1
    case hb=>
     intro x I;refine e12 (mM I) λi C E=>?_;obtain rfl:=E;rw [eM];have o:=m.kid i (mR C);have s:(l.map du.dat)[i]?=some (l.getD i (.node [])).dat:=by
      rw [av,aJ,an (mR C)];rfl
     obtain M:=jR j h _ o;refine i04 eA (r8.new rfl) ?_ ?_;·exact Ee.of (bX (.one (gf (al rfl) (al rfl) (nE s) c)) (sF w j h _ o (fz z) (ab (jr j (er h)) v) u)) MP.list
     ·intro y H;refine e12 (mM H) λp K D=>?_;obtain rfl:=D;have q:Sm ((l.map du.dat).length:Int):=by delta Sm;rw [jF];(refine iR ?_ ?_ <;>lia)
      refine i03 (uI.tuple K6.two) ?_ (K5.one (Ev.tuple (ds:=[.int ((i:Int)+(l.map du.dat).length*p.1),.int ((l.map du.dat).length*p.2)]) (.consD (bz (al rfl) (bz (bZ (.one (al rfl)) (fL c)) (al rfl) (fF (.inl q))) cQ) (.one (bz (bZ (.one (al rfl)) (fL c)) (al rfl) (fF (.inl q))))) (show 2<=dK by decide)) ?hout);case hout=>refine (?_:[PyData.tuple [.int ((i:Int)+l.length*p.1),.int (l.length*p.2)]]=_);rw [jF]
      ·exact λy b e=>(r8.new rfl) y b ((r8.new rfl) y b e)
theorem Aq (w:ar) (h:Nat) (t:du) (b:rV h t) (a:h<=5):iu w (h+3) (.ref 320) [DV t.dat] (LL ((bK h t).map cP)):=sF w (by decide) h t b a (ab (GD a) (by decide)) (by decide)
theorem DL (w:ar) (a b:Nat) (n:a<=2 ^ 20) (hb:b<=2 ^ 20):iu w 2 (.ref 310) [II a,II b] (II (Dg a b:Nat)):=by
 revert w a b;intros w a b;intro n hb;refine' ea (xs:=[ac "one",ac "other"]) rfl rfl rfl rfl rfl rfl ?hbind ?hp (by decide) (by decide) (by decide) rfl rfl rfl ?h;case hbind=>intro q l;refine e21 (jz l) λa b j=>?_;obtain rfl:=j;rfl
 case hp=>exact .cons tN.d (.cons tN.d .nil)
 case h=>
  refine Ex.cons (ρ':=[(ac "one",.d (.int (Dg a b:Nat))),(ac "other",.d (.int (0:Nat)))]) (rY (α:={p:Nat × Nat // Dg p.1 p.2=Dg a b/\p.2<=2 ^ 20}) (I:=λp=>[(ac "one",.d (.int (p.1.1:Nat))),(ac "other",.d (.int (p.1.2:Nat)))]) (m:=λp=>p.1.2) ⟨(a,b),rfl,hb⟩ ?_) (Ex.ret (lF.ret (al rfl)));intro k;obtain ⟨⟨x,y⟩,z⟩:=k;refine e02 z λg i=>?_;dsimp only at g i ⊢;by_cases f:y=0
  ·subst f;refine .inl ⟨(bQ (al rfl) .int vW).eq (rfl),?_⟩;rw [<- g,tv]
  ·refine .inr ⟨(bQ (al rfl) .int vW).eq (by simp;exact neN f),⟨(y,x % y),by rw [<- g,Mw y,<- Nat.gcd_rec,Mw],ab (aF (iD _ ((iC f)))) i⟩,_,iD _ ((iC f)),.inl (Ex.cons (Fd (Ev.tuple (.consD (al rfl) (.one (bz (al rfl) (al rfl) ((kM (Int.ofNat_ne_zero.mpr f) (by (refine yE ?_ ?_ <;>lia))).eq (by rw [jv _ (by lia)];rfl))))) (show 2<=dK by decide)) rfl rfl) Ex.nil),r8.cons rfl (r8.cons rfl r8.nil)⟩
mutual
noncomputable def Dp:ag->du
 | .list xs=>.node (yu xs)
 | _=>.node []
noncomputable def yu:List ag->List du
 | []=>[]
 | x::xs=>Dp x::yu xs
end
mutual
theorem sn:∀ t:du,Dp t.dat=t
 | .node l=>congrArg du.node (ty l)
theorem ty:∀ l:List du,yu (qV l)=l
 | []=>rfl
 | t::a=>by refine (?_:Dp t.dat::yu (qV a)=_);rw [sn t,ty a]
end
noncomputable def gD (c:Nat) (p:Int × Int):Nat:=Dg c p.2.toNat
noncomputable def gcdRows (h:Nat) (l:List du):Nat:=l.foldl (λc t=>(bK h t).foldl gD c) 0
noncomputable def gG:Nat->du->Bool
 | 0,_=>true
 | h+1,.node l=>decide (gcdRows h l<2) && l.all (gG h)
theorem qT:∀ (d:List (Int × Int)) (c:Nat),c<=2 ^ 20->(∀ p∈d,p.2<=243)->d.foldl gD c<=2 ^ 20
 | [],c,a,_=>a
 | p::e,c,a,h=>by
  refine qT e _ ?_ λq f=>h q (.tail _ f);delta gD;have g:=h p (.head _);by_cases b:p.2.toNat=0;·rw [b,tv];exact a
  ·obtain this:=JT c (Db b);lia
theorem sr {α a:Type} (f:a->α->a) (l:List α) (k:Nat) (x:α) (b:a) (h:l[k]?=some x):(l.take (k+1)).foldl f b=f ((l.take k).foldl f b) x:=by
 rw [dF,h,H5];rfl
theorem Cf {h:Nat} (j:h<=5) (l:List du) (e:∀ t∈l,rV h t):gcdRows h l<=2 ^ 20:=by
 obtain a:∀ (l:List du) (c:Nat),c<=2 ^ 20->(∀ t∈l,rV h t)->l.foldl (λc t=>(bK h t).foldl gD c) c<=2 ^ 20:=by
  intros l;induction l with
  | nil=>intro c b _;exact b
  | cons t k f=>intro c b d;refine f _ (qT _ _ b λp i=>?_) λu g=>d u (.tail _ g);have:=((kK h t (d t (.head _))).2 p i).2.2;obtain this:=J7 j;lia
 exact a l 0 (by decide) e
theorem rV.filter (p:du->Bool):∀ {h:Nat} {l:List du},rV h (.node l)->rV h (.node (l.filter p))
 | 0,l,e=>by rw [show l=[] from e];rfl
 | h+1,l,e=>⟨ab (fW _ _) e.1,λt a=>e.2 t (wl.mp a).1⟩
noncomputable def rH (g:Nat) (x:ag):List ag:=if !gG g (Dp x) then [x] else []
theorem u3 (g:Nat) (l:List du):(l.map du.dat).flatMap (rH g)=(l.filter λt=>!gG g t).map du.dat:=by
 induction l with
 | nil=>rfl
 | cons t b a=>rw [bV,bP,a,lA];delta rH;rw [sn];cases gG g t <;>rfl
theorem Cq (g:Nat) (l:List du):((l.filter λt=>!gG g t).map du.dat).isEmpty=l.all (gG g):=by
 induction l with
 | nil=>rfl
 | cons t a b=>
  rw [lA,r6];cases h:gG g t;·rfl
  ·trivial
theorem EQ (w:ar) (h:Nat) (t:du) (A:rV h t) (F:h<=5):iu w (h+4) (.ref 325) [DV t.dat] (BB (gG h t)):=by
 revert w h t;intros w h t;intro A F;induction h using Nat.strongRecOn generalizing t with
 | _ h P=>
 cases t with
 | node l=>
  obtain C:=jM A (fa1 F);rw [ir] at C ⊢;refine' ea (xs:=[ac "rows"]) rfl rfl rfl rfl rfl rfl ?hbind ?hp (by decide) (by decide) (by decide) rfl rfl rfl ?h;case hbind=>intro W S;refine e11 (hY S) λa R=>?_;obtain rfl:=R;rfl
  case hp=>exact .cons tN.d .nil
  case h=>
   obtain ⟨g,G,f,L,r⟩:∃ g,g<=5/\(∀ t∈l,rV g t)/\gG h (.node l)=(decide (gcdRows g l<2) && l.all (gG g))/\(l≠[]->h=g+1):=by
    clear P C;cases h with
    | zero=>have:l=[]:=A;subst this;exact i14 0 (by decide) (λt m=>(nm m)) rfl (λh=>absurd rfl h)
    | succ h=>exact i14 h (by exact fz F) A.2 rfl (λ_=>rfl)
   rw [L];refine Ex.cons (lF.set .int) ?_;refine Ex.cons (ρ':=[(ac "common",.d (.int (gcdRows g (l.take l.length):Nat))),(ac "rows",.d (.list (l.map du.dat)))]) (gc (xs:=l.map du.dat) (Ee.of (al rfl) MP.list) ?_) ?_
   ·refine ke (by rw [ak]) (I:=λk=>[(ac "common",.d (.int (gcdRows g (l.take k):Nat))),(ac "rows",.d (.list (l.map du.dat)))]) λk x i=>?_;rw [av] at i;cases m:l[k]? with
    | none=>replace i:=m▸i;cases i
    | some t=>
    replace i:=m▸i;obtain rfl:t.dat=x:=by simpa using i
    obtain v:=aQ m;obtain o:=r (FZ v);obtain B:=kK g t (f t v);obtain V:=J7 G;obtain z:gcdRows g (l.take (k+1))=(bK g t).foldl gD (gcdRows g (l.take k)):=by
     delta gcdRows;rw [sr _ _ _ _ _ m]
    refine i23 _ _ eA (.inl (Ex.cons (ρ':=[(ac "common",.d (.int ((bK g t).take (bK g t).length |>.foldl gD (gcdRows g (l.take k)):Nat))),(ac "row",.d t.dat),(ac "rows",.d (.list (l.map du.dat)))]) (nA (ρ:=[(ac "common",.d (.int (gcdRows g (l.take k):Nat))),(ac "row",.d t.dat),(ac "rows",.d (.list (l.map du.dat)))]) (r8.cons rfl (r8.cons rfl (r8.cons rfl r8.nil))) (gc (xs:=(bK g t).map cP) (Ee.of (bX (.one (al rfl)) ((Aq w g t (f t v) G).le (fa1 (aj o.symm)))) MP.list) ?inner)) Ex.nil)) (r8.cons ?hs (r8.cons rfl r8.nil));case hs=>rw [fP,<- z];rfl
    case inner=>
     refine ke (n:=(bK g t).length) (by rw [ak]) (I:=λj=>[(ac "common",.d (.int (((bK g t).take j).foldl gD (gcdRows g (l.take k)):Nat))),(ac "row",.d t.dat),(ac "rows",.d (.list (l.map du.dat)))]) λj y s=>?_;rw [av] at s;cases D:(bK g t)[j]? with
     | none=>replace s:=D▸s;cases s
     | some p=>
     replace s:=D▸s;obtain rfl:cP p=y:=by simpa using s
     obtain N:=B.2 p (aQ D);have M:=qT ((bK g t).take j) _ (Cf G (l.take k) λu T=>f u (eh T)) λq U=>by
      obtain this:=(B.2 q (eh U)).2.2;exact bv this V
     obtain J:((p.2.toNat:Nat):Int)=p.2:=dE (fi2 N.1 N.2.1);refine i23 _ _ (uI.tuple K6.two) (.inl (Ex.cons (lF.set (bX (.consD (al rfl) (.one ((al rfl).eq (by rw [J])))) ((DL w _ p.2.toNat M (by lia)).le (dC 2 (h+1))))) Ex.nil)) (r8.cons ?_ (r8.cons rfl (r8.cons rfl r8.nil)));rw [(sr gD (bK g t) j p (gcdRows g (l.take k)) D)];rfl
   ·rw [fP];obtain E:kr w (h+3) .Lt (.int (gcdRows g l:Nat)) (.int 2) (decide (gcdRows g l<2)):=kh.eq (by
     by_cases c:gcdRows g l<2;·rw [decide_eq_true c,decide_eq_true (Mz.mp c)]
     ·rw [decide_eq_false c,decide_eq_false (pU.2 (dM.2 (fa1 (ba c))))])
    obtain K:cc (.list ((l.filter λt=>!gG g t).map du.dat))=true:=by
     obtain this:=jM (A.filter λt=>!gG g t) (fa1 F);rw [ir] at this;exact this
    refine Ex.ret (lF.ret ?_);cases O:decide (gcdRows g l<2) with
    | false=>exact Jx (sX (al rfl) .int (E.eq O)) AO.bool
    | true=>
     refine Jw (sX (al rfl) .int (E.eq O)) AO.bool (Jy (sX (Ev.eq ?comp (congrArg dp (u3 g l))) (Ev.list .nil (by decide)) ((pO K rfl).eq (by rw [yX,Cq]):kr w (h+3) .Eq (.list ((l.filter λt=>!gG g t).map du.dat)) (.list []) (l.all (gG g)))));refine kg (ρ₁:=λx=>[(ac "row",.d x)]) (xs:=l.map du.dat) (outs:=rH g) (Ee.of (al rfl) MP.list) rfl rfl .nil ?hz ?hb;case hz=>rw [u3,ak];have:=fW (λt=>!gG g t) l;delta dK;exact fa2 A.len this
     case hb=>intro x i;refine e12 (mM i) λt m Q=>?_;obtain rfl:=Q;have o:=r (FZ m);refine i03 eA (r8.new rfl) (uH (b:=!gG g t) (y5 (Tr.val (bX (.one (al rfl)) ((P g (fa1 (aj o.symm)) t (f t m) G).le (fa1 (aj o.symm)))) AO.bool)) (λ_=>al rfl) ?_);delta rH;rw [sn]
theorem A0 {w:ar} {sc:bf} {r:Nat} {ρ:dh} {pos:cU} {x:aE} {i:Int} {t:C9} (e:∀ P,Bh (kF.heap_1 P) bA x=some (some (.int i t))) (hx:autoParam (sc.names.lookup x=some .globalImplicit) auS._auto_1) (l:autoParam ((x==("__debug__":aE))=false) auF._auto_1):Ev w sc r ρ (.Name x pos) (II i):=
 λA c d a b g h s k m F Q E q=>Ev.glob e hx l A c d a b g h s k m F Q E λv n f x j=>q v n f x (by rw [show v=_ from j];exact .int i t)
inductive vI:Option Int->List Int->List Int->Bool->Prop where
 | fin0 {last:Option Int}:vI last [] [] true
 | sent {last:Option Int} {ds:List Int}:vI last (127::ds) [] true
 | step {last:Option Int} {d:Int} {ds ys:List Int} {fin:Bool}:d≠127->d≠0->vI (some d) ds ys fin->vI last (d::ds) (d::ys) fin
 | rep {l:Int} {ds:List Int} {n:Nat}:vI (some l) (0::ds) (bC (n+1) l) false
 | cut {last:Option Int} {d:Int} {ds:List Int}:vI last (d::ds) [] false
noncomputable def L2:Option Int->ag
 | none=>.none
 | some l=>.int l
noncomputable def BM (last:Option Int):dh:=[(ac "last_interval",.d (L2 last))]
noncomputable def sB (last:Option Int) (d:Int):dh:=(ac "interval",.d (.int d))::BM last
theorem FS.rm0 {w:ar} {st:Bool} {s₀ s:af} {g₀ g:aA} {env:fg} {q:Pr} {ρ:dh} (F:FS w st s₀ g₀ env g q ρ s):FS w st s₀ g₀ env g (dg q {}) ρ s:=F.prs (λp a=>by simpa [dg] using a) (λp a=>by simpa [dg] using a)
theorem FS.rm1 {w:ar} {st:Bool} {s₀ s:af} {g₀ g:aA} {env:fg} {q:Pr} {ρ:dh} (F:FS w st s₀ g₀ env g (dg q {}) ρ s):FS w st s₀ g₀ env g q ρ s:=F.prs (λp a=>bG _ a) (λp a=>bG _ a)
theorem y0 {q:Pr}:eg q {}:=⟨λp a=>(nm a),λp a=>(nm a)⟩
theorem IN (last:Option Int):∀ x b,(BM last).lookup x=some b->pC b=false:=λx b h=>by
 delta BM at h;rw [aK] at h;split at h
 ·refine iM h λa=>?_;clear h;subst a;rfl
 ·cases h
theorem DE (last:Option Int) (d:Int):∀ x b,(sB last d).lookup x=some b->pC b=false:=λx b h=>by
 delta sB at h;rw [aK] at h;split at h
 ·refine iM h λa=>?_;clear h;subst a;rfl
 ·exact IN last x b h
section
variable {w:ar} {sc:bf} {r k:Nat} {env:fg} {t t1 t2 tw ey e2:be} {ifr sa:cD} {rp p1 p2 yp1 ep1 wp yp2 ep2:cU} {fbody:List cD} {kf:eB->il bO}
noncomputable abbrev Cd (t1 t2 tw ey e2:be) (ifr sa:cD) (rp p1 p2 yp1 ep1 wp yp2 ep2:cU):List cD:=[.If t1 [.Return none rp] [] p1,.If t2 [ifr,.While tw [.Expr (.Yield (some ey) yp1) ep1] [] wp] [] p2,.Expr (.Yield (some e2) yp2) ep2,sa]
structure GH (w:ar) (sc:bf) (r:Nat) (t t1 t2 tw ey e2:be) (ifr sa:cD):Prop where
 t1:∀ last d,Tr w sc r (sB last d) t1 (d==127)
 t2:∀ last d,Tr w sc r (sB last d) t2 (d==0)
 ifr:∀ l d,lF w sc r (sB (some l) d) ifr (.next (sB (some l) d))
 tw:∀ l d,Tr w sc r (sB (some l) d) tw true
 ey:∀ l d,Ev w sc r (sB (some l) d) ey (II l)
 e2:∀ last d,Ev w sc r (sB last d) e2 (II d)
 sa:∀ last d,lF w sc r (sB last d) sa (.next (BM (some d)))
 as:∀ last d,uI w sc r t (.int d) (BM last) (sB last d)
theorem Ca (G:GH w sc r t t1 t2 tw ey e2 ifr sa) (K:cB sc env) (hc:∀ n,env.cells.lookup n=none) (Z:sc.isCoroutine=false) (hk1:kf (.ok .next)=C0 (.ok (.ret .none))) (hk2:kf (.ok (.ret .none))=C0 (.ok (.ret .none))) {last:Option Int} {ds ys:List Int} {fin:Bool} (hG:vI last ds ys fin):(ys≠[]\/fin=true)->∀ (A:bj) (m:aA) (i:af) (o:ff) (b:Pr) (g:aA) (s:af) (e:ae) (q:Pr) (p:cU) (y:List ae),Rm (r+1) A->SS w m i->(∀ a∈addrs (eu env o b),cg a=false)-> FS w true (cR i (addrs (eu env o b))) m env g q (BM last) s->q.gens=[]->(∀ a∈addrs q,a∈addrs b\/i.heap.objs.size<=a)->jf w r true e (ds.map .int) g q-> Go (MM w) A.in1 (rX w (r+1) fin k m i (eu env o b) (ys.map .int)) (.forLoop t e (Cd t1 t2 tw ey e2 ifr sa rp p1 p2 yp1 ep1 wp yp2 ep2) [] env) ((MM w).den (.forLoop t e (Cd t1 t2 tw ey e2 ifr sa rp p1 p2 yp1 ep1 wp yp2 ep2) [] env)) [.ret kf none false y (.func fbody env) p []] s:=by
 have B:∀ {last:Option Int} {d:Int} {ds:List Int} {A:bj} {m:aA} {i:af} {o:ff} {b:Pr} {g:aA} {s:af} {e:ae} {q:Pr} {p:cU} {y:List ae} {Φ:Lf->af->Prop},Rm (r+1) A->FS w true (cR i (addrs (eu env o b))) m env g q (BM last) s->q.gens=[]->(∀ a∈addrs q,a∈addrs b\/i.heap.objs.size<=a)->jf w r true e ((d::ds).map .int) g q->
   (∀ O Q L,eN g O->FS w true (cR i (addrs (eu env o b))) m env O L (sB last d) Q->L.gens=[]->(∀ a∈addrs L,a∈addrs b\/i.heap.objs.size<=a)->jf w r true e (ds.map .int) O L->
    Go (MM w) A.in1 Φ (.forLoop t e (Cd t1 t2 tw ey e2 ifr sa rp p1 p2 yp1 ep1 wp yp2 ep2) [] env) ((eZ (Cd t1 t2 tw ey e2 ifr sa rp p1 p2 yp1 ep1 wp yp2 ep2) env).wrap (λf=>match f with
       | .next | .cont=>.pure (.again (.forLoop t e (Cd t1 t2 tw ey e2 ifr sa rp p1 p2 yp1 ep1 wp yp2 ep2) [] env))
       | .brk=>.pure (.done .next)
       | .ret v=>.pure (.done (.ret v))) (nN env) id id) [.ret kf none false y (.func fbody env) p []] Q)->
   Go (MM w) A.in1 Φ (.forLoop t e (Cd t1 t2 tw ey e2 ifr sa rp p1 p2 yp1 ep1 wp yp2 ep2) [] env) ((MM w).den (.forLoop t e (Cd t1 t2 tw ey e2 ifr sa rp p1 p2 yp1 ep1 wp yp2 ep2) [] env)) [.ret kf none false y (.func fbody env) p []] s:=by
  intro last d ds A m i o b g s e q p y Φ z F E j U kk
  refine mK ?_
  obtain c:=(fJ (b2:=Cd t1 t2 tw ey e2 ifr sa rp p1 p2 yp1 ep1 wp yp2 ep2) (e2:=env) (it:=e) (l:=y) (p:=p)).rm r A z
  refine U.2 g _ s (eN.refl _) c F.ss F.rm0.live _ _ λv O L Q x l2 a0 hv J=>?_
  refine e02 (F.rm0.iter y0 x l2 a0.two) λF2 b0=>?_
  refine p7 J.ok l2 ?_
  refine G.as last d _ env _ m O _ Q v K c F2 hv _ _ λg3 s3 u R=>?_
  refine kk g3 s3 L (x.le.trans u) R.rm1 (a0.2.2 E) (λa ha=>?_) (J.mono u)
  rcases a0.1 a ha with h | h
  ·exact j a h
  ·exact .inr (ab (by have:=F.aft.size;replace this:=dZ▸this;exact this) h)
 obtain a8:∀ {m:aA} {i:af} {o:ff} {b:Pr} {g:aA} {s:af} {q:Pr} {ρ:dh},FS w true (cR i (addrs (eu env o b))) m env g q ρ s->i.heap.objs.size<=s.heap.objs.size:=λF=>by
  have:=F.aft.size;replace this:=dZ▸this;exact this
 induction hG with
 | fin0=>intro _ A m i o b g s e q p y z P N F E j U;refine mK ?_;obtain c:=(fJ (b2:=Cd t1 t2 tw ey e2 ifr sa rp p1 p2 yp1 ep1 wp yp2 ep2) (e2:=env) (it:=e) (l:=y) (p:=p)).rm r A z;refine U.2 rfl g _ s (eN.refl _) c F.ss F.rm0.live _ _ λQ O x=>?_;exact tC (rK (.ok .next) (by rw [hk1];exact yU P N (F.rm0.iterEnd y0 x)))
 | sent=>intro _ A m i o b g s e q p y z P N F E j U;refine B z F E j U λO Q L T F' I D J=>?_;obtain c:=(fJ (b2:=Cd t1 t2 tw ey e2 ifr sa rp p1 p2 yp1 ep1 wp yp2 ep2) (e2:=env) (it:=e) (l:=y) (p:=p)).rm r A z;refine vk ((G.t1 _ _).eq rfl) K c F' λg3 s3 u R=>?_;refine k9 (vj (Ly ?_));exact rK (.ok (.ret .none)) (by rw [hk2];exact yU P N R)
 | cut=>
  intro h;rcases h with h | h;·exact absurd rfl h
  ·exact AH h
 | @rep l ds n=>
  intro _ A m i o b g s e q p y z P N F E j U;refine B z F E j U λO Q L T F' I D J=>?_;obtain c:=(fJ (b2:=Cd t1 t2 tw ey e2 ifr sa rp p1 p2 yp1 ep1 wp yp2 ep2) (e2:=env) (it:=e) (l:=y) (p:=p)).rm r A z;refine vl ((G.t1 _ _).eq rfl) K c F' λg3 s3 u R=>pE ?_;refine vk ((G.t2 _ _).eq rfl) K c R λg4 s4 H F4=>?_;refine yT (G.ifr _ _) K c F4 λg5 s5 W F5=>?_;refine k9 (G8 λpw=>?_);generalize hkw:yJ env _ (nN env) id id=kw;obtain X:∀ (n:Nat) (A:bj) (m:aA) (i:af) (o:ff) (b:Pr) (g:aA) (s:af) (q:Pr),Rm (r+1) A->SS w m i->(∀ a∈addrs (eu env o b),cg a=false)->FS w true (cR i (addrs (eu env o b))) m env g q (sB (some l) 0) s->q.gens=[]->(∀ a∈addrs q,a∈addrs b\/i.heap.objs.size<=a)->
    Go (MM w) A.in1 (rX w (r+1) false k m i (eu env o b) ((bC (n+1) l).map .int)) (.whileLoop tw [.Expr (.Yield (some ey) yp1) ep1] [] env) ((MM w).den (.whileLoop tw [.Expr (.Yield (some ey) yp1) ep1] [] env))
     [.ret kw none false [] (.forLoop t e (Cd t1 t2 tw ey e2 ifr sa rp p1 p2 yp1 ep1 wp yp2 ep2) [] env) pw [],.ret kf none false y (.func fbody env) p []] s:=by
   intros n
   induction n with
   | zero=>intro A m i o b g s q z P N F E j;have M:=vJ (body:=fbody) (b2:=Cd t1 t2 tw ey e2 ifr sa rp p1 p2 yp1 ep1 wp yp2 ep2) (b3:=[.Expr (.Yield (some ey) yp1) ep1]) (env:=env) (e2:=env) (e3:=env) (t:=t) (t3:=tw) (it:=e) (k:=kw) (k2:=kf) (l:=[]) (l2:=y) (p:=pw) (p2:=p);have c:=M.rm r A z;refine rJ (G.tw l 0 _ env true _ m g q s K c F _ _ λO Q x=>?_);exact sM (G.ey l 0) K c M rfl hc Z P N E j (F.step x) λg3 s3 oL kk ll pp cl T R S C=>GI.susp λh=>(h.elim (λh=>absurd rfl h) λh=>by exact AH h)
   | succ n ih=>intro A m i o b g s q z P N F E j;have M:=vJ (body:=fbody) (b2:=Cd t1 t2 tw ey e2 ifr sa rp p1 p2 yp1 ep1 wp yp2 ep2) (b3:=[.Expr (.Yield (some ey) yp1) ep1]) (env:=env) (e2:=env) (e3:=env) (t:=t) (t3:=tw) (it:=e) (k:=kw) (k2:=kf) (l:=[]) (l2:=y) (p:=pw) (p2:=p);have c:=M.rm r A z;refine rJ (G.tw l 0 _ env true _ m g q s K c F _ _ ?_);intros O Q;intro x;refine sM (G.ey l 0) K c M rfl hc Z P N E j (F.step x) λg3 s3 oL kk ll pp cl T R S C=>GI.susp λh g4 A4 s4 H a7 S4 a4=>?_;refine e02 (R.wake S hc (DE _ _) E H S4 a4) λF4 a6=>?_;exact C _ _ _ (pE (nP rfl (ih A4 g4 s4 oL q g4 s4 q a7 S4 a6 F4 E λa ha=>.inl ha)))
  exact X n A m i o b g5 s5 L z P N F5 I D
 | @step last d ds ys fin h1 h2 hG ih=>intro a9 A m i o b g s e q p y z P N F E j U;refine B z F E j U λO Q L T F' I D J=>?_;have Y:=fJ (body:=fbody) (b2:=Cd t1 t2 tw ey e2 ifr sa rp p1 p2 yp1 ep1 wp yp2 ep2) (env:=env) (e2:=env) (t:=t) (it:=e) (k:=kf) (l:=y) (p:=p);have c:=Y.rm r A z;refine vl ((G.t1 _ _).eq (beq_false_of_ne h1)) K c F' λg3 s3 u R=>pE ?_;refine vl ((G.t2 _ _).eq (beq_false_of_ne h2)) K c R λg4 s4 H F4=>pE ?_;refine sM (G.e2 last d) K c Y rfl hc Z P N I D F4 λg5 s5 oL kk ll pp cl W F5 S C=>GI.susp λh g6 A6 s6 V a2 S6 a3=>?_;refine e02 (F5.wake S hc (DE _ _) I V S6 a3) λF6 a5=>?_;exact C _ _ _ (yT (G.sa last d) K (Y.rm r A6 a2) F6 λg7 s7 a1 F7=>pE (nP rfl (ih (h.imp (λh h'=>h (by rw [h'];rfl)) id) A6 g6 s6 oL L g7 s7 e L p y a2 S6 a5 F7 I (λa ha=>.inl ha) (J.mono (u.trans (H.trans (W.trans (V.trans a1))))))))
end
theorem vi (w:ar) {ds ys:List Int} {fin:Bool} (hG:vI none ds ys fin):wK w 4 (.ref 52) [LL (ds.map .int)] fin (ys.map .int):=by
 refine' Fa (r:=4) (xs:=[ac "grouping"]) (bs:=[.d (.list (ds.map .int))]) rfl rfl rfl rfl rfl rfl ?hbind ?hp (by decide) (by decide) (by decide) rfl rfl rfl ?h;case hbind=>intro vs hv;obtain ⟨a,rfl⟩:=hY hv;rfl
 case hp=>exact .cons tN.d .nil
 case h=>
  intro env s₀ g₀ g s oL k he hc F hL;refine GI.fresh λhne g' A s' hle hA S hl=>?_;obtain ⟨F',hX⟩:=F.wake hL hc (λx b h=>by
   rw [show fn [ac "grouping"] [B.d (.list (ds.map .int))]=[(ac "grouping",.d (.list (ds.map .int)))] from rfl,aK] at h;split at h;·cases h;rfl
   ·cases h) rfl hle S hl
  refine yS (yT (lF.set .nil) he (E9.func.rm 3 A hA) F' λg1 s1 hle1 F1=>k9 (Cb (λ_=>rfl) ?_));refine (al (d:=.list (ds.map .int)) rfl) _ env true _ g' g1 _ s1 he (E9.func.rm 3 A hA) F1 _ _ λv g2 s2 x2 v2=>?_;have F2:=F1.step x2;obtain ⟨l,vs,rfl,hlist,hva,_⟩:=V.list_inv v2;refine pf (IsList.up hlist F2.ss.sub) ?_;intro p;have st:=F2.ss.same (Stp.push s2 ({cls:=.type "list_iterator",data:=.fields #[.ref l,.int 0 0]}:ff) s2.toks);obtain ⟨F3,ap3⟩:=F2.add (q:=⟨[(s2.heap.objs.size,{cls:=.type "list_iterator",data:=.fields #[.ref l,.int 0 0]})],[]⟩) st ⟨λq hq=>(m1 hq ⟨az _ rfl,F2.ss.none (aq _)⟩),λ_ h=>(nomatch h)⟩ (λa ha=>by simp [addrs] at ha;exact aj ha.symm) (λ_ h=>(nomatch h));have hz:s'.heap.objs.size<=s2.heap.objs.size:=by have:=F2.aft.size;rw [dZ] at this;exact this
  refine Ca (sc:=_) (r:=3) ⟨?t1,?t2,?ifr,?tw,?ey,?e2,?sa,?as⟩ he hc rfl ?hk1 ?hk2 hG (hne.imp (λh h'=>h (by rw [h'];rfl)) id) A g' s' oL {} g2 _ _ _ p _ hA S hX ((F3.weaken ?sub).rm1) rfl (λa ha=>.inr (by simp [addrs] at ha;rw [ha];exact hz)) (jf.list (o:={cls:=.type "list_iterator",data:=.fields #[.ref l,.int 0 0]}) hlist (i:=0) (by simpa using hva) (eD F2.ss.big) rfl rfl);case hk1=>rfl
  case hk2=>rfl
  case sub=>exact r8.cons rfl r8.nil
  case t1=>exact λlast d=>bQ (al rfl) (A0 (λP=>rfl)) gi
  case t2=>exact λlast d=>bQ (al rfl) .int gi
  case ifr=>exact λl d=>cf (bQ (al rfl) .nil kr.isNone) Ex.nil
  case tw=>exact λl d=>Tr.val .bool AO.bool
  case ey=>exact λl d=>al rfl
  case e2=>exact λlast d=>al rfl
  case sa=>exact λlast d=>lF.sub (lF.set (al rfl)) (r8.cons rfl r8.nil)
  case as=>exact λlast d=>eA
theorem sU {w:ar} {sc:bf} {r:Nat} {ρ:dh} {pos:cU} {x:aE} {v:ae} {np:cU} {args:List be} {Ps:List ci} {fin:Bool} {xs:List ag} (M:rf w sc r ρ args Ps) (d:wK w r v Ps fin xs) (e:autoParam (∀ P,Bh (kF.heap_1 P) bA x=some (some v)) am._auto_9) (J:autoParam (∀ P,C6 (kF.heap_1 P) v=true) am._auto_9) (hx:autoParam (sc.names.lookup x=some .globalImplicit) auS._auto_1) (L:autoParam ((x==("__debug__":aE))=false) auF._auto_1):Ee w sc r ρ (.Call (.Name x np) args [] pos) fin xs:=by
 intro A j t c f g C s m i F Q E q;refine aa (Ev.glob e hx L A j t c f g C s m i F _ _ λu U T l G=>?_);obtain rfl:=G;have n:=F.step l;refine cL m i n M (D9.top J) λp S z k H=>?_;refine d S p H A z i (n.step k).ss Q E λD R B y o I O N K=>?_;obtain b:=l.trans k;exact q D R B y (b.trans o) I (λa h=>ab b.size (O a h)) (λa h=>ab b.toStp.gsize (N a h)) K
noncomputable def mF (first step:Int) (n:Nat):List Int:=(br n).map λ(i:Nat)=>first+(i:Int)*step
noncomputable def yQ (first step:Int):Nat->Int
 | 0=> -1
 | i+1=>first+(i:Int)*step
theorem BZ (first step:Int) (n:Nat):mF first step (n+1)=mF first step n++[first+(n:Int)*step]:=by
 unfold mF;rw [mn,bM];rfl
theorem xD (w:ar) {first step limit:Int} {n:Nat} (c:n<=10000) (h0:0<=first) (h1:first≠126) (h2:step≠127) (h3:0<step) (a:∀ i:Nat,i<n->first+(i:Int)*step<limit) (b:limit<=first+(n:Int)*step): iu w 5 (.ref 296) [II first,II step,II limit] (LL ((mF first step n).map .int)):=by
 revert w c h0 h1 h2 h3 a b;revert first step limit n
 intros first step limit n w;intro F h0 h1 h2 h3 r s
 refine' ea (xs:=[ac "first",ac "step",ac "limit"]) rfl rfl rfl rfl rfl rfl ?hbind ?hp (by decide) (by decide) (by decide) rfl rfl rfl ?h;case hbind=>intro E C;refine e31 (yM C) λa b c A=>?_;obtain rfl:=A;rfl
 case hp=>exact .cons tN.d (.cons tN.d (.cons tN.d .nil))
 case h=>
  refine mT (ds:=[]) .nil (by decide) rfl λa=>?_;refine Ex.cons (lF.set (oB .int)) ?_;have j:∀ i x,((((first+1)::step::bC (n+1) step).map cb))[i]?=some x->∃ z,x=.int z/\yQ first step i+z=first+(i:Int)*step:=by
   intro i x l;match i,l with
   | 0,l=>cases l;exact i12 _ rfl (by refine (?_:(-1:Int)+(first+1)=first+((0:Nat):Int)*step);rw [Int.natCast_zero,Int.zero_mul];lia)
   | i+1,l=>
    have g:((step::bC (n+1) step).map cb)[i]?=some x:=l;rw [<- jH,List.map_replicate,List.getElem?_replicate] at g;split at g
    ·refine iM g λy=>?_;clear g;subst y;refine i12 step rfl ?_;refine (?_:first+(i:Int)*step+step=first+((i+1:Nat):Int)*step);rw [w9,Nz,Int.natCast_one,iy,si]
    ·exact lE g
  have k:∃ z,((((first+1)::step::bC (n+1) step).map cb))[n]?=some (.int z)/\yQ first step n+z=first+(n:Int)*step:=by
   have t:n<(((first+1)::step::bC (n+1) step).map cb).length:=by simp;lia
   refine e12 (j n _ (an t)) λz q p=>?_;exact i12 z (by rw [an t,q]) p
  refine e12 k λu o m=>?_;clear k;refine Ex.cons (ρ':=[(ac "here",.d (.int (first+(n:Int)*step))),(ac "size",.d (.int u)),(ac "here",.d (.int (yQ first step n))),(ac "marks",.own a ((mF first step n).map .int)),(ac "first",.d (.int first)),(ac "step",.d (.int step)),(ac "limit",.d (.int limit))]) (gc (xs:=((first+1)::step::bC (n+1) step).map .int) (sU (.one (Ev.list (ds:=[first+1,step,0,1].map .int) (.consD (bz (al rfl) .int cQ) (.consD (al rfl) (.consD .int (.one .int)))) (show 4<=dK by decide))) (vi w (vI.step (by lia) (by lia) (vI.step h2 (by lia) vI.rep)))) ?_) ?_
  ·refine Jk (I:=λi=>[(ac "here",.d (.int (yQ first step i))),(ac "marks",.own a ((mF first step i).map .int)),(ac "first",.d (.int first)),(ac "step",.d (.int step)),(ac "limit",.d (.int limit))]) n o (λi x D l=>?_) ⟨_,eA,.inr ⟨_,Ex.cons (lF.set (bz (al rfl) (al rfl) (cQ.eq (by rw [m])))) (Ex.brk (fr ((bQ (al rfl) (al rfl) A7).eq (decide_eq_true s)) (Ex.brk Fg))),rfl⟩⟩;refine e12 (j i x l) λz v q=>?_;obtain rfl:=v;refine i23 _ _ eA (.inl (Ex.cons (lF.set (bz (al rfl) (al rfl) (cQ.eq (by rw [q];rfl)))) (Ex.cons (cf ((bQ (al rfl) (al rfl) A7).eq (decide_eq_false (by have:=r i D;refine (?_:¬ limit<=first+(i:Int)*step);lia))) Ex.nil) (Ex.cons (lF.append rfl (al rfl) (by rw [ak,mF,ak,dk];unfold dK;lia)) Ex.nil)))) (r8.cons rfl (r8.cons ?_ (r8.cons rfl (r8.cons rfl (r8.cons rfl r8.nil)))));rw [BZ,bM];rfl
  ·exact Ex.freeze (x:=ac "marks") rfl (Ex.ret (lF.ret (al rfl)))
section
variable {w:ar} {sc:bf} {st:Bool} {s₀ s s':af} {g₀ g g':aA} {env:fg} {pr:Pr} {ρ ρcl ρ':dh} {r:Nat} {o:m6} {pos:cU}
theorem VA.rev_get {g:aA} {vs:List ae} {ds:List ag} (h:VA g vs ds) {i:Nat} {d:ag} (e:ds.reverse[i]?=some d) {v:ae} (a:vs.toArray[vs.toArray.size - 1 - i]?=some v):V g v d:=by
 refine e12 (h.reverse.get i e) λu b f=>?_;rw [List.getElem?_reverse (by have:=(gE b).1;simpa using this)] at b;rw [cE,bk,b] at a;refine iM a λc=>?_;clear a;subst c;exact f
theorem jf.rev {I l:ay} {vs:List ae} {ds:List ag} {h0:aA} {o:ff} (f:g.IsList l vs.toArray) (q:VA g vs ds) (ht:cg I=false) (k:l≠I) (u:h0.get? I=some o) (ho:o=HU l ((vs.toArray.size:Int) - 1)) (c:∀ o,g.get? l=some o->h0.get? l=some o):jf w r true (.ref I) ds.reverse g ⟨[(I,o)],[]⟩:=by
 refine xT (λA z=>Walks.listRev z I l k vs.toArray) (T:="list_reverseiterator") (h0:=h0) (λi h x=>by refine e13 x.2.1 λo ho y C=>?_;exact i12 o ho y) rfl ht (by simp [q.length]) (i03 (aM _) (i13 o u (by rw [ho];rfl) (by rw [ho];simp [HU])) (by refine e12 f λj a b=>?_;clear f;exact i12 j (c _ a) b)) u (λb p n=>?_) λi d e h v m t=>?_
 ·rcases mC p with rfl | p;·exact absurd rfl n
  ·obtain rfl:=mS p;refine e12 f λj a B=>?_;clear f;exact i12 j (c _ a) a
 ·rw [gy] at t;exact (q.mono m).rev_get e t
theorem wJ {ds:List ag}:wK w r (.type "reversed") [LL ds] true ds.reverse:=by
 intro g p f A s u S Q E q;refine e11 (hY f.length.symm) λv m=>?_;obtain rfl:=m;refine e24 (V.list_inv f.1) λl c k j d n=>?_;obtain rfl:=k;have b:=IsList.up j S.sub;refine La b ?_;obtain h:(s.heap.push (HU l ((c.toArray.size:Int) - 1))).get? s.heap.objs.size=some (HU l ((c.toArray.size:Int) - 1)):=az _ rfl;refine Jz (i:=(c.toArray.size:Int) - 1) (i13 _ h rfl rfl) (y9 S rfl ?_ q);exact jf.rev j d (eD S.big) (bg (let ⟨t,a,_⟩:=b;aH a)) h rfl λo e=>au _ (S.sub _ _ e)
theorem Fj {x:aE} {v:ae} {np:cU} {args:List be} {Ps:List ci} {fin:Bool} {xs:List ag} (N:rf w sc r ρ args Ps) (d:wK w r v Ps fin xs) (H:autoParam (q5 x=some v) auS._auto_1) (hp:autoParam (∀ a,v≠.ref a) LK._auto_1) (e:autoParam (∀ P,Bh (kF.heap_1 P) bA x=some dO) am._auto_9) (hx:autoParam (sc.names.lookup x=some .globalImplicit) auS._auto_1) (J:autoParam (x≠"__name__") n7._auto_19) (M:autoParam ((x==("__debug__":aE))=false) auF._auto_1):Ee w sc r ρ (.Call (.Name x np) args [] pos) fin xs:=by
 intro A j y c f g D s m i F Q E q;refine aa (Ev.blt e H hx J M A j y c f g D s m i F _ _ λu V U l I=>?_);obtain rfl:=I;have n:=F.step l;refine cL m i n N (D9.plain hp) λt T B k hp=>?_;refine d T t hp A B i (n.step k).ss Q E λG S C z p K R O L=>?_;obtain b:=l.trans k;exact q G S C z (b.trans p) K (λa h=>ab b.size (R a h)) (λa h=>ab b.toStp.gsize (O a h)) L
theorem lF.reverse {z:Bool} {x:aE} {a:ay} {p ap cp:cU} {ds:List ag} (hx:ρ.lookup x=some (.own a ds z)) (hz:ds.length<=dK) (ho:autoParam (cA x ρ=true) auT._auto_1) (j:autoParam ((x==("__classdict__":aE))=false) auF._auto_1) (i:autoParam ((x==("__debug__":aE))=false) auF._auto_1) (k:autoParam ((ap.endLine==cp.line)=true) auT._auto_1):lF w sc r ρ (.Expr (.Call (.Attribute (.Name x p) (ac "reverse") ap) [] [] cp) pos) (.next ((x,.own a ds.reverse z)::ρ)):=by
 intro A l c d g G s y J F Q E q;refine eV ?_ y.int rfl;obtain ⟨N,I⟩:=eS (o:=.Name x p) (name:=ac "reverse") (args:=[]) (λ_=>rfl) rfl k (show 0<30 by decide);refine eH (Ev.name hx j i A l true c d g G s y J F _ _ λv K u t D=>?_) I;obtain rfl:=D;have C:=F.step t;refine e02 (C.own hx) λm M=>?_;refine e22 m λf n h B=>?_;clear m;obtain k:u.heap.IsList a f.toArray:=⟨_,h,rfl,n,rfl⟩;delta dK at hz;refine dY k.typeIs eb PySem.F.slot_list_reverse PySem.F.type_list_reverse (λb e=>by cases e;exact i12 _ h rfl) ?_;refine PySem.P.reverse_list h ?_ (by rw [bk];exact ab (fa2 hz (aj B.length)) (show 1000000<=kt by decide));obtain H:(u.heap.update a (bu λx=>x.reverse)).get? a=some (ao f.reverse.toArray n):=by
  obtain L:(ao f.toArray n).mapSeq (λx=>x.reverse)=ao f.reverse.toArray n:=by
   delta bu ao;simp
  rw [bn _ h rfl,L]
 exact q _ K _ t.le ⟨rfl,C.turnOwn hx ho (aU ..) H B.reverse⟩
end
section
variable {w:ar} {sc:bf} {st:Bool} {s₀ s s':af} {g₀ g g':aA} {env:fg} {pr:Pr} {ρ ρcl ρ':dh} {r:Nat} {o:m6} {pos:cU}
noncomputable def OU (w:ar) (sc:bf) (r:Nat) (ρ:dh) (e:be) (P:ci):Prop:=
 ∀ A env st s₀ g₀ g pr s,cB sc env->Rm r A->FS w st s₀ g₀ env g pr ρ s->∀ (Q:ae->af->Prop) (E:ae->af->Prop),(∀ v g' s',iB s g s' g'->0<s'.toks->P g' v->Q v s')->aV (MM w) A (eW e env) Q E s
theorem CG {e:be} {x:aE} {apos:cU} (h:Ev w sc r ρ e (SSV x)) (hz:x.length<=dK) (hs:stripSame lL false true x=false) (hb:autoParam (∀ b m,fZ e (ac "rstrip") b m=m) am._auto_9) (z:autoParam ((apos.endLine==pos.line)=true) auT._auto_1):OU w sc r ρ (.Call (.Attribute e (ac "rstrip") apos) [] [] pos) (SSV (wS lL false true x)):=by
 intro A b p c d g u s j k F Q E q;refine e11 (eS (name:=ac "rstrip") (args:=[]) (hb b) rfl z (show 0<30 by decide)) λI B=>?_;refine eH (h A b p c d g u s j k F _ _ λv J H i n=>?_) B;obtain ⟨t,rfl⟩:=n.str_inv;have l:=F.step i;refine dY (kN _ _ _) oQ ye PySem.F.type_str_rstrip (λa e=>by cases e) ?_;refine cL j k l rf.nil (D9.plain λa e=>by cases e) λD C G f y=>?_;obtain rfl:=qc y;refine call_gives ye (kN _ _ _) PySem.F.entry_str_rstrip (PySem.F.args_str_rstrip_1 _) (gives_str_rstrip x t) ?_;rw [hs];exact ⟨fits_stripped _ _ _ (by have:=j8;exact ab hz this),q _ C _ ((i.trans f).trans ((l.step f).ss.tok _)) (kQ _) (.str _ _)⟩
theorem AY {e:be} {x y z:aE} {apos p1 p2:cU} {k1 k2:Nat} (h:OU w sc r ρ e (SSV x)) (i:(y==z)=false) (hz:x.length+(x.length+1)*z.length<=16777216) (hb:autoParam (∀ b m,fZ e (ac "replace") b m=m) am._auto_9) (G:autoParam ((apos.endLine==pos.line)=true) auT._auto_1):Ev w sc r ρ (.Call (.Attribute e (ac "replace") apos) [.Constant (.str y) k1 p1,.Constant (.str z) k2 p2] [] pos) (SSV (MV x y z)):=by
 intro A b u c d g D s H J F Q E q;refine e11 (eS (name:=ac "replace") (args:=[.Constant (.str y) k1 p1,.Constant (.str z) k2 p2]) (hb b) rfl G (show 2<30 by decide)) λM I=>?_;refine eH (h A b u c d g D s H J F _ _ λv K C l n p=>?_) I;obtain ⟨t,rfl⟩:=p.str_inv;have j:=F.step l;refine dY (kN _ _ _) oQ PySem.F.slot_str_replace PySem.F.type_str_replace (λa e=>by cases e) ?_;refine lh (P:=λh=>wP w h) rfl (λh B=>D9.plain (f:=.builtin "str.replace") (λa e=>by cases e) _ w h B) ?_;refine fA (.inr (i21 _ _ rfl)) ?_;refine gj (oJ ?_) rfl;refine gj (oJ ?_) rfl;refine gM ?_;refine ⟨j.ss.base.keeps j.ss.sub,?_⟩;exact PZ (z:=z) (by exact ul n) (by exact db (ktu_ne 1 n)) (by exact Li C.toks) i hz λL k=>q _ K _ (l.trans (j.ss.tok k)) (.str _ _)
end
noncomputable def Cs (S:Int->Bool) (n:Nat):ci:=λg v=>∃ a o,v=.ref a/\g.get? a=some o/\o.IntSetOf S n
noncomputable def AQ (a:ay) (S:Int->Bool) (n:Nat):aA->ae->List (ay × ff)->Prop:=λg v objs=>v=.ref a/\∃ o,objs=[(a,o)]/\o.IntSetOf S n
section
variable {w:ar} {sc:bf} {st:Bool} {s₀ s s':af} {g₀ g g':aA} {env:fg} {pr:Pr} {ρ ρcl ρ':dh} {r:Nat} {o:m6} {pos:cU}
theorem FS.off (F:FS w st s₀ g₀ env g pr ρ s) {a:ay} (b:s.heap.objs.size<=a) (h:g'.get? a=none):l7 s₀ env g' pr a:=
 (i05 h (Jj.of F.ss₀.big (ab F.aft.size b)) (λe=>absurd F.ltL (bD (e▸b))) (λn c i e=>by
  refine e02 (F.cells n c i) λd k=>?_;refine e11 d λv j=>?_;clear d;exact absurd j.lt (bD (e▸b))) (λp f e=>absurd (aH (F.prot.objs p f).1) (bD (e▸b))))
theorem FS.at (F:FS w st s₀ g₀ env g pr ρ s) {x:aE} {b:B} (hx:ρ.lookup x=some b):∃ v,r9 s₀ env g s.heap pr v b:=by
 obtain ⟨m,e,a⟩:=F.vars;refine e12 (a x b hx) λv d c=>?_;exact ⟨v,c⟩
theorem dm {A:bj} {x:aE} {b:B} {Q:ae->af->Prop} {E:ae->af->Prop} (i:cB sc env) (F:FS w st s₀ g₀ env g pr ρ s) (hx:ρ.lookup x=some b) (q:∀ v,r9 s₀ env g s.heap pr v b->Q v s) (d:autoParam ((x==("__classdict__":aE))=false) auF._auto_1) (c:autoParam ((x==("__debug__":aE))=false) auF._auto_1):aV (MM w) A (eW (.Name x pos) env) Q E s:=by
 obtain ⟨m,f,e⟩:=F.vars;refine e12 (e x b hx) λv h j=>?_;exact CU (kZ i.k f h d (q v j)) c
theorem Bb:iu w r (.type "set") [] (Cs (λ_=>false) 0):=by
 intro g d b A s f S Q E q;obtain rfl:=qc b;refine call_set_0 λa=>?_;refine e12 (S.growPush {cls:=.type "set",dict:=none,data:=.set #[] 0 (.fresh 0 0 a)} s.toks rfl) λc x e=>?_;exact q _ c _ x (i23 _ _ rfl e (OC a))
theorem nM {A:bj} {a:ay} {o:ff} {S:Int->Bool} {n:Nat} {Q:Bool->af->Prop} {E:ae->af->Prop} (ho:s.heap.get? a=some o) (hs:o.IntSetOf S n) (y:n<1000) (q:∀ t,Q (n !=0) {s with toks:=t}):aV (MM w) A (N6 (.ref a)) Q E s:=by
 revert w s A a o S n Q E;intros w s A a o S n Q E;intro ho hs y q;obtain ⟨l,f,D,t,B,_,_,x,z⟩:=hs PR w;subst x;obtain m:s.TypeIs (.ref a) "set":=(i12 o ho l.1);obtain p:((f.size:Int) !=0)=(f.size !=0):=by
  rcases Nat.eq_zero_or_pos f.size with e | e;·rw [e];rfl
  ·rw [bne_iff_ne.mpr (show (f.size:Int)≠0 by exact yk.mpr e),bne_iff_ne.mpr (show f.size≠0 by exact ul e)]
 obtain j:aV (MM w) A (runValue (.builtin "len" ⟨[.ref a],[]⟩)) (λr h=>r=.int f.size (s.toks+1)/\Q (f.size !=0) h) E s:=by
  refine CQ (fb entry_len ?_);exact cr (wpAny_len_body_set (Q:=λr h=>r=.int f.size (s.toks+1)/\Q (f.size !=0) h) ho l B z (by lia) ⟨rfl,q _⟩)
   (λC h i=>by refine e12 i λr v k=>?_;clear i;obtain rfl:=v;exact k) λ_ _ e=>e
 first
  | refine aa (FV (name:=ac "__bool__") m noBool_set ?_)
  | refine aa (ah (aa (FV (name:=ac "__bool__") m noBool_set ?_)))
 first
  | refine aa (Bg (name:=ac "__len__") m Bj.lookup ?_)
  | refine aa (ah (aa (Bg (name:=ac "__len__") m Bj.lookup ?_)))
 first
  | exact aa (cr j (λr h i=>by refine e02 i λu k=>?_;clear i;obtain rfl:=u;rw [<- p] at k;exact ah k) λ_ _ e=>e)
  | exact aa (ah (aa (cr j (λr h i=>by exact ah k) λ_ _ e=>e)))
theorem Jh {x:aE} {S:Int->Bool} {n:Nat} (hx:ρ.lookup x=some (.tol (Cs S n))) (k:n<1000) (c:autoParam ((x==("__classdict__":aE))=false) auF._auto_1) (b:autoParam ((x==("__debug__":aE))=false) auF._auto_1):Tr w sc r ρ (.Name x pos) (n !=0):=by
 intro A p u e h g y s l z F Q E q;refine aa (dm l F hx (λv m=>?_) c b);obtain ⟨f,d,a,o,rfl,j,i⟩:=m;exact aa (ct (bw (nM (F.ss.sub _ _ (d _ _ j)) i k λt=>q g _ (F.ss.tok t))))
theorem D7 {x:aE} {a:ay} {S:Int->Bool} {n:Nat} (hx:ρ.lookup x=some (.res (AQ a S n))) (m:n<1000) (c:autoParam ((x==("__classdict__":aE))=false) auF._auto_1) (b:autoParam ((x==("__debug__":aE))=false) auF._auto_1):Tr w sc r ρ (.Name x pos) (n !=0):=by
 intro A y z e j g B s u C F Q E q;refine aa (dm u F hx (λv h=>?_) c b);refine e23 h λi f p k d=>?_;clear h;obtain ⟨rfl,o,rfl,l⟩:=k;exact aa (ct (bw (nM (d _ (.head _)).1 l m λt=>q g _ (F.ss.tok t))))
theorem Hs {x:aE} {e:be} {k:Int} {S:Int->Bool} {n:Nat} {p:cU} (h:Ev w sc r ρ e (II k)) (hx:ρ.lookup x=some (.tol (Cs S n))) (L:n<1000) (f:autoParam ((x==("__classdict__":aE))=false) auF._auto_1) (d:autoParam ((x==("__debug__":aE))=false) auF._auto_1):Tr w sc r ρ (.Compare e [.In] [.Name x p] pos) (S k):=by
 intro A j B b c g C s u I F Q E q;refine ml (h A j B b c g C s u I F _ _ λv J K m z=>?_) rfl;obtain ⟨t,rfl⟩:=z.int_inv;have l:=F.step m;refine dm u l hx (λv H=>?_) f d;obtain ⟨y,i,a,o,rfl,G,D⟩:=H;refine wpAny_inSet_of (knd:=rh PR w) (Lc k t) rfl ((D PR w).setOf (l.ss.sub _ _ (i _ _ G)) (by exact aw (by assumption) (by decide))) ?_;exact fG (q J _ (m.trans (l.ss.tok _)))
theorem AV {cv:ay} {U x:aE} {e:be} {k:Int} {p sp:cU} {xs:List cD} (h:Ev w sc r ρ e (II k)) (hx:sc.names.lookup x=some .local) (G:∀ P,kdsCode (kF.heap_1 P) (.ref cv)=true) (next:∀ a,Ex w sc r ((x,.res (AQ a (λj=>decide (j=k)) 1))::ρ) xs o) (hp:autoParam ([e].all kdsPlain=true) auT._auto_1):zz (.ref cv) U w sc r ρ (.Assign [.Name x p] (.Set [e] 0 sp) pos::xs) o:=by
 intro A m c f g V s H D M F Q E q;refine bI (dw ?_ rfl);refine aa (ct ?_);refine aa (kds_main (F.ss.base.K.keeps F.ss.sub) (by rw [H.1];exact G _) λb=>?_);rw [kds_star [e] hp,cz];refine kds_core (ts:=(evalEach [e] m).map λt=>do let v <- t;gQ sp;pure v) rfl rfl (by rw [ak];exact (show 1<=30 by decide)) rfl λi=>?_;obtain ⟨O,ap⟩:=F.add (q:=⟨[(s.heap.objs.size,{cls:=.type "set",dict:=none,data:=.set #[] 0 (.fresh 0 0 i)})],[]⟩) (F.ss.same (Stp.push s {cls:=.type "set",dict:=none,data:=.set #[] 0 (.fresh 0 0 i)} s.toks)) ⟨λp hp=>(by
  obtain rfl:=mS hp;exact ⟨az _ rfl,F.ss.none (aq _)⟩),λ_ h=>nm h⟩ (λa I=>aj (mS I).symm) (λ_ h=>nm h)
 refine kds_all sp [e] _ _ (h A m true c f g _ _ D M O _ _ λv N u L R=>?_);obtain ⟨t,rfl⟩:=R.int_inv;have K:=O.step L;refine e02 (K.live.objs _ (.head _)) λW l=>?_;refine kds_fill_cons ?_;refine bw (aa ((rh PR w).pyHash (Lc k t) ?_));refine wpAny_setAddHashed_of (s:={u with toks:=u.toks+1}) (knd:=rh PR w) (Lc k t) rfl (((OC i).kind PR w).setOf W (by decide)) (by decide) λX B J=>?_;refine kds_fill_nil rfl ?_;obtain ⟨y,n,z⟩:=J.objOf;have d:=F.off (aq _) l;obtain ⟨F3,_⟩:=K.iter (q':=⟨[(s.heap.objs.size,y)],[]⟩) (s':={u with heap:=X,toks:=u.toks+1}) ap (nU.one K.ss l d.2.1.2 B) ⟨λp hp=>(by
  obtain rfl:=mS hp;exact ⟨n,l⟩),λ_ h=>nm h⟩ ⟨λa I=>.inl I,λ_ h=>nm h⟩
 refine F3.drop.store D (.inl hx) (b:=.res (AQ s.heap.objs.size (λj=>decide (j=k)) 1)) (i23 N ([(s.heap.objs.size,y)]) (eN.refl _) ⟨rfl,y,rfl,?_⟩ (λp hp=>?_)) λT F4=>?_
 ·obtain this:=z.intSetOf;trivial
 ·obtain rfl:=mS hp;exact ⟨n,d⟩
 ·exact next _ A m c f N V T D M F4 Q E λZ Y S C=>q Z Y S (((F.ss.same (Stp.push s _ s.toks)).trans L).le.trans C)
theorem yF {t:qq} (h:t.fits 1=true):t.popPlace=some 0:=by
 revert t;intros t;intro h;delta qo at h;rw [bN,beq_iff_eq] at h;delta PQ;rw [if_neg (by rw [Array.isEmpty_iff_size_eq_zero];exact ed (fa1 (aj h.1.symm)))];dsimp only;split
 ·rename_i a;replace a:=h.1▸a;exact congrArg some (zr.mp a)
 ·rfl
theorem rt {M:lM} {A:bj} {n:Nat} {a:Source} {Q:Nat->af->Prop} {E:ae->af->Prop} (b:n≠0) (q:∀ i d,i<n->Q i {s with drawn:=d}):aV M A (choose a n) Q E s:=
 λe p c=>⟨b,q _ _ (iD _ (iC b))⟩
theorem Stp.drawn (s:af) (d:_):wH s {s with drawn:=d}:=⟨⟨λ_ _ e _=>e,aq _,λt=>t,λ_ _ e=>e,λ_ _ e=>.inl e,rfl⟩,λ_ _ _ e=>e⟩
theorem G7 (p n:Nat):min p n+1+(n - p)=n+1:=by
 rw [nH];congr 1;rw [fm,Nat.min_comm];exact Nat.sub_add_min_cancel n p
theorem zZ {t:qq} (h:t.fits 1=true):(t.popped 0).fits 0=true:=by
 revert t;intros t;intro h;delta qo at h ⊢;simp only [bN,beq_iff_eq,decide_eq_true_eq] at h ⊢;refine e02 h λb a=>?_;clear h;obtain e:(t.popped 0).place=jb t.place 0/\(t.popped 0).dummies=ri t.dummies (mm t.dummies (t.place[0]'(by lia))) (t.place[0]'(by lia))/\(t.popped 0).mask=t.mask:=by
  delta PP PX;rw [(gk (by lia))];exact i03 rfl rfl rfl
 unfold PW at a ⊢;rw [e.1,e.2.1,e.2.2,(show (jb t.place 0).size=0 from by delta jb;simp;exact jl (Nat.eq_sub_of_add_eq' (id (jl b)))),(λp x=>by delta ri;simp;exact G7 _ _:∀ p x,(ri t.dummies p x).size=t.dummies.size+1)];exact ⟨rfl,fa2 (aj b.symm) a⟩
theorem BK {A:bj} {a:ay} {x:ff} {k:Int} {Q:Option ae->af->Prop} {E:ae->af->Prop} (ho:s.heap.get? a=some x) (hs:x.IntSetOf (λj=>decide (j=k)) 1) (q:∀ t I d b,bR a s.heap I->I.get? a=some b->b.IntSetOf (λ_=>false) 0->Q (some (.int k t)) {s with heap:=I,drawn:=d}):aV (MM w) A (setPop a) Q E s:=by
 revert w s A a x k Q E;intros w s A a x k Q E;intro ho hs q;obtain ⟨D,L,V,t,H,G,p,N,C⟩:=hs PR w;obtain ⟨m,F⟩:∃ m,L=#[m]:=by
  obtain ⟨l⟩:=L;refine e11 (hY N) λm M=>?_;obtain rfl:=M;exact ⟨m,rfl⟩
 subst F;refine e02 (G m (.head _)) λJ S=>?_;refine e12 J λj K T=>?_;clear J;have B:j=k:=by simpa using (p j).mpr (i12 m (.head _) K)
 subst B;obtain ⟨f,y⟩:=m;obtain ⟨tk,rfl⟩:∃ tk,y=.int j tk:=by
  have u:LD j y=true:=K;cases y <;>simp [LD] at u;rw [u];exact ⟨_,rfl⟩
 have v:∀ d,aV (MM w) A (N7 a (jb #[(f,qF j tk)] 0) (t.popped 0)>>=λ_=>pure (some (qF j tk))) Q E {s with drawn:=d}:=λd=>by
  obtain h:jb #[(f,qF j tk)] 0=#[]:=rfl;refine aa (wQ (s:={s with drawn:=d}) ho H ?_ (by exact aM _));refine e02 (SetOf_store (knd:=rh PR w) (S':=λ_=>false) (es':=jb #[(f,qF j tk)] 0) (t':=t.popped 0) ho D H (by rw [h];intro e P;simp at P) (by rw [h];intro k;simp) (by rw [h];decide) (by exact zZ C)) λU R=>?_;refine e12 R.objOf λb z n=>?_;exact ah (q tk _ d b (aU ..) z n.intSetOf)
 refine aa (cH ho H C ?_);dsimp only;rw [yF C];refine aa (aa (dc (ah ?_)));split
 ·refine aa (rt (show (1:Nat)≠0 by decide) λi d O=>?_);obtain rfl:=zr.mp O;exact v d
 ·refine aa ?_;refine (?_:aV _ _ (if (!t.led && false)=true then _ else _) _ _ s);rw [Kt];exact ah (aa (ah (v s.drawn)))
theorem CB {a:ay} {x y:aE} {k:Int} {p xp ap cp:cU} (hx:n.lookup x=some (.res (AQ a (λj=>decide (j=k)) 1))) (hy:M.names.lookup y=some .local) (ho:autoParam (cA x n=true) auT._auto_1) (C:autoParam ((x==("__classdict__":aE))=false) auF._auto_1) (B:autoParam ((x==("__debug__":aE))=false) auF._auto_1) (hl:autoParam ((ap.endLine==cp.line)=true) auT._auto_1) : lF w M r n (.Assign [.Name y p] (.Call (.Attribute (.Name x xp) (ac "pop") ap) [] [] cp) l) (.next ((y,.d (.int k))::(x,.res (AQ a (λ_=>false) 0))::n)):=by
 revert w M n r l a x y k p xp ap cp;intros w M n r l a x y k p xp ap;intros cp;intro hx hy ho C B hl;intro A K u a1 g pr s T hA F Q E q;refine dw ?_ (show gO (.Call (.Attribute (.Name x xp) (ac "pop") ap) [] [] cp) (some (.Name y p)) l.line K=pure false from rfl);obtain ⟨pl,hc⟩:=eS (o:=.Name x xp) (name:=ac "pop") (args:=[]) (λ_=>rfl) rfl hl (show 0<30 by decide);refine eH (dm T F hx (λv J=>?_) C B) hc;refine bc λZ=>?_;refine e23 J λa0 Y a2 z0 R=>?_;clear J;obtain ⟨rfl,X,rfl,G⟩:=z0;refine e02 (R _ (.head _)) λi f=>?_;obtain ⟨I,es,ep,t,hd,_⟩:=id (G PR w);refine Z ?_;clear Z;have hT:∀ N:af,N.heap.get? a=some X->N.TypeIs (.ref a) "set":=λN h=>(i12 X h I.1);refine dY (hT s i) PySem.F.plainAttrs_set Bi PySem.F.type_set_pop (λb e=>by cases e;exact i12 _ i I.2.1) ?_;refine cL T hA F rf.nil (D9.plain λa e=>by cases e) λvs U s2 L P=>?_;obtain rfl:=qc P;obtain H:=L.keep _ _ i f.2.1.2;have c:l7 u K U pr a:=⟨L.fresh f.1 (aH i),f.2⟩;refine ck Bi (hT s2 H) PySem.F.entry_set_pop ?_ (PySem.F.args_set_pop_1 _);unfold Builtin.«set.pop»;refine aa (m:=JP "pop" _) (ah ?_);refine aa (BK H G λt h' d z O S D=>?_);refine ah (i12 (.int k t) rfl ?_);obtain F3:=(F.step L).turnAt (b':=.res (AQ a (λ_=>false) 0)) hx ho O c λv J=>by
  refine e23 J λz1 z2 z3 W z5=>?_;clear J;refine e02 W λz6 z7=>?_;clear W;obtain rfl:=z6;exact i23 U [(a,z)] (eN.refl _) ⟨rfl,z,rfl,D⟩ (λp P=>(by
   obtain rfl:=mS P;exact ⟨S,c⟩))
 exact (F3.step (F3.ss.same (Stp.drawn _ d))).store T (.inl hy) (b:=.d (.int k)) (V.int k t) λs5 F5=>q _ U s5 L.le ⟨rfl,F5⟩
end
noncomputable def dd (n:Int):aE:=iL (ac "__") (gF (toString n))++ac "_ "
theorem BE:((br 244).all λn=>zm (ac "__") (gF (toString (n:Int))) && decide ((dd (n:Int)).length<=11))=true:=by decide+kernel
theorem hN {n:Int} (h0:0<=n) (h1:n<=243):zm (ac "__") (gF (toString n))=true/\(dd n).length<=11:=by
 refine e11 (dj h0) λm a=>?_;obtain rfl:=a;simpa using (aT BE m (KJ (by lia)))
theorem Fo {w:ar} {r:Nat} {x y:aE} (b:zm x (gF y)=true):iu w r (.builtin "str.join") [SSV x,SSV y] (SSV (iL x (gF y))):=by
 intro g l a A s j S Q E q;refine e21 (jz a.length.symm) λv u e=>?_;obtain rfl:=e;refine e11 (V.str_inv a.1) λt d=>?_;obtain rfl:=d;refine e11 (V.str_inv a.2.1) λf c=>?_;obtain rfl:=c;exact cC (P8 j.handled b λm k f i h=>q _ g _ (S.same (qb i h)) (.str _ _))
theorem nw (w:ar) {n:Int} (h0:0<=n) (h1:n<=243):iu w 2 (.ref 270) [II n] (SSV (dd n)):=by
 refine e02 (hN h0 h1) λf c=>?_;refine' ea (xs:=[ac "number"]) rfl rfl rfl rfl rfl rfl ?hbind ?hp (by decide) (by decide) (by decide) rfl rfl rfl ?h;case hbind=>intro k g;refine e11 (hY g) λa e=>?_;obtain rfl:=e;rfl
 case hp=>exact .cons tN.d .nil
 case h=>
  have i:(iL (ac "__") (gF (toString n))).length+2<=dK:=by
   unfold dd at c;rw [bL] at c;delta dK;exact fa1 c
  exact Ex.ret (lF.ret (bz (lk .str (.one (bZ (.one (al rfl)) (HN (by delta Sm;(refine iR ?_ ?_ <;>lia))))) kC kB (Fo f)) .str (iw i)))
noncomputable abbrev S0 (x:String):aE:=ac x
noncomputable def qC (f s:Int):aE:=S0 "<n f=\""++dd f++S0 "\" s=\""++dd s++S0 "\"></n>"
noncomputable def gU:Nat->du->Int->Int->aE
 | 0,_,f,s=>qC f s
 | h+1,.node l,f,s=>if l.isEmpty then qC f s else S0 "<n>"++iL (S0 "") ((br l.length).map λk=>gU h (l.getD k (.node [])) (f+s*k) (s*l.length))++S0 "</n>"
theorem rG (h:Nat) (l:List du) (f s:Int):gU (h+1) (.node l) f s=if l.isEmpty then qC f s else S0 "<n>"++iL (S0 "") ((br l.length).map λk=>gU h (l.getD k (.node [])) (f+s*k) (s*l.length))++S0 "</n>":=rfl
structure NB (h:Nat) (f s:Int):Prop where
 f0:0<=f
 fs:f<s
 s1:s*3 ^ h<=243
theorem NB.s243 {h:Nat} {f s:Int} (b:NB h f s):s<=243:=by
 have a:=bH (show (1:Int)<=3 ^ h from by exact_mod_cast js _ _ (by decide)) (bv b.f0 (bT b.fs));rw [iz] at a;exact bv a b.s1
theorem NB.kid {h:Nat} {f s:Int} (b:NB (h+1) f s) {n k:Nat} (d:n<=3) (e:k<n):NB h (f+s*k) (s*n):=by
 obtain a:=bv b.f0 (bT b.fs);refine ⟨?_,?_,?_⟩;·exact nK b.f0 (nI a (bF k))
 ·obtain this:s*((k:Int)+1)<=s*n:=bH (dM.2 e) a;rw [md,iz] at this;exact iF (by rw [ut];exact jP b.fs _) this
 ·obtain g:s*n*3 ^ h<=s*3*3 ^ h:=cK (bH (dM.2 d) a) (by exact_mod_cast aM _);obtain c:=b.s1;rw [uq,kW (3 ^ h),<- jZ] at c;exact bv g c
theorem Ak {f s:Int} {h:Nat} (b:NB h f s):(qC f s).length<=40:=by
 unfold qC;rw [bL,bL,bL,bL];exact ab (bJ (bJ (bJ (bJ (aj (show (S0 "<n f=\"").length=6 from by decide)) ((hN b.f0 (bv (bT b.fs) b.s243)).2)) (aj (show (S0 "\" s=\"").length=5 from by decide))) ((hN (bv b.f0 (bT b.fs)) b.s243).2)) (aj (show (S0 "\"></n>").length=6 from by decide))) (by decide)
theorem Gk (xs:List aE) (B:Nat) (h:∀ x∈xs,x.length<=B):(xs.map (·.length)).sum<=xs.length*B:=StrLaws.sumLen_le xs h
theorem O1 {J P:Nat} (h1:1<=P) (h:J<=3*(44*P - 4)):J+12<=3*(44*P):=by
 refine e11 (jX h1) λp a=>?_;obtain rfl:=a;exact ab (dt h _) (aj (rb 3 (44*p+40) 4).symm)
theorem rE:∀ (h:Nat) (t:du) (f s:Int),rV h t->NB h f s->(gU h t f s).length+4<=44*3 ^ h
 | 0,t,f,s,_,b=>dt (Ak b) 4
 | h+1,.node l,f,s,c,b=>by
  rw [rG];split;·exact ab (dt (Ak b) 4) (Bt 44 (ra (by decide)))
  ·rw [bL,bL];obtain o:(S0 "<n>").length=3:=rfl;obtain m:(S0 "</n>").length=4:=rfl;obtain j:=rfl;obtain a:=Gk ((br l.length).map λk=>gU h (l.getD k (.node [])) (f+s*k) (s*l.length)) (44*3 ^ h - 4) λx i=>by
    refine e12 (mM i) λk e g=>?_;obtain rfl:=g;exact et (rE h _ _ _ (c.kid k (mR e)) (b.kid c.1 (mR e)))
   rw [ak,dk] at a;have d:(iL (S0 "") ((br l.length).map λk=>gU h (l.getD k (.node [])) (f+s*k) (s*l.length))).length<=3*(44*3 ^ h - 4):=by
    refine (?_:(JL _ _).length<=_);rw [(size_glued (S0 "") ((br l.length).map λk=>gU h (l.getD k (.node [])) (f+s*k) (s*l.length)))];exact ab a (en _ c.1)
   obtain this:=O1 (js _ _ (by decide)) d;lia
theorem sJ {a:aE} {xs:List aE} (h:(xs.map (·.length)).sum+xs.length*a.length<=dK):zm a xs=true:=by
 delta zm JK;rw [StrLaws.joinTotal];have:=j8;lia
noncomputable def DS (h:Nat) (l:List du) (f s:Int):ag->List ag
 | .int k=>[.str (gU h (l.getD k.toNat (.node [])) (f+s*k) (s*l.length))]
 | _=>[]
theorem xy (h:Nat) (l:List du) (f s:Int):(jK 0 l.length).flatMap (DS h l f s)=((br l.length).map λk=>gU h (l.getD k (.node [])) (f+s*k) (s*l.length)).map .str:=by
 delta jK;rw [ej,cz,jI];exact ew λk _=>by refine (?_:[da (gU h (l.getD (0+(k:Int)).toNat (.node [])) (f+s*(0+k)) (s*l.length))]=_);rw [eM,bS];rfl
set_option maxHeartbeats 2000000 in
theorem Ap (w:ar):∀ (h:Nat) (t:du) (f s:Int),rV h t->h<=5->NB h f s->iu w (h+4) (.ref 282) [DV t.dat,II f,II s] (SSV (gU h t f s))
 | h,.node l,f,s,g,y,b=>by
  obtain E:=g.len;obtain j:(l.map du.dat).length<=dK:=by rw [ak];unfold dK;exact fa1 E
  obtain v:=jM g (fa1 y);obtain u:=OK (bv b.f0 (bT b.fs)) (bv b.s243 (by decide));refine e02 (hN b.f0 (fi2 b.s243 b.fs)) λS G=>?_;refine e02 (hN (fi2 b.f0 b.fs) b.s243) λR D=>?_;rw [ir] at v ⊢;refine' ea (xs:=[S0 "rows",S0 "first",S0 "step"]) rfl rfl rfl rfl rfl rfl ?hbind ?hp (by decide) (by decide) (by decide) rfl rfl rfl ?h;case hbind=>intro U T;refine e31 (yM T) λa b c P=>?_;obtain rfl:=P;rfl
  case hp=>exact .cons tN.d (.cons tN.d (.cons tN.d .nil))
  case h=>
   obtain m:kr w (h+3) .Eq (.list (l.map du.dat)) (.list []) l.isEmpty:=(pO v rfl).eq (by rw [yX];cases l <;>rfl);cases r:l.isEmpty with
   | true=>
    obtain e:gU h (.node l) f s=qC f s:=by
     cases h with
     | zero=>rfl
     | succ h=>rw [rG,if_pos r]
    rw [e];obtain J:=bJ (aj (show (S0 "<n f=\"").length=6 from by decide)) G;obtain I:=bJ J (aj (show (S0 "\" s=\"").length=5 from by decide));obtain H:=bJ I D;refine Ex.ret (fr (bQ (al rfl) (Ev.list .nil (by decide)) (m.eq r)) (Ex.ret (lF.ret (bz (bz (bz (bz .str (bX (.one (al rfl)) ((nw w b.f0 (fi2 b.s243 b.fs)).le fa0)) (iw ?b1)) .str (iw ?b2)) (bX (.one (al rfl)) ((nw w (fi2 b.f0 b.fs) b.s243).le fa0)) (iw ?b3)) .str (iw ?b4)))));case b1=>exact ab J (by decide)
    case b2=>rw [bL];exact ab I (by decide)
    case b3=>rw [bL,bL];exact ab H (by decide)
    case b4=>rw [bL,bL,bL];exact ab (bJ H (aj (show (S0 "\"></n>").length=6 from by decide))) (by decide)
   | false=>
    match h,g,y,m,b with
    | 0,g,_,_,_=>exfalso;replace r:=(show l=[] from g)▸r;cases r
    | h+1,g,y,m,b=>
    obtain M:=GD (h:=h) (fa1 y);obtain e:gU (h+1) (.node l) f s=S0 "<n>"++iL (S0 "") ((br l.length).map λk=>gU h (l.getD k (.node [])) (f+s*k) (s*l.length))++S0 "</n>":=by
     rw [rG,if_neg (by rw [r];exact bb)]
    obtain B:=rE (h+1) (.node l) f s g b;rw [e] at B ⊢;obtain q:=Gk ((br l.length).map λk=>gU h (l.getD k (.node [])) (f+s*k) (s*l.length)) (44*3 ^ h) λx C=>by
     refine e12 (mM C) λk K O=>?_;obtain rfl:=O;exact iE (rE h _ _ _ (g.kid k (mR K)) (b.kid g.1 (mR K)))
    rw [ak,dk] at q;obtain F:zm (S0 "") ((br l.length).map λk=>gU h (l.getD k (.node [])) (f+s*k) (s*l.length))=true:=sJ (by
     rw [(show (S0 "").length=0 from by decide),Mv,Dh];exact ab q (ab (en _ g.1) (ab (jO 3 (jO 44 M)) (by decide))))
    refine Ex.cons (cf (bQ (al rfl) (Ev.list .nil (by decide)) (m.eq r)) Ex.nil) ?_;rw [bL,bL] at B;obtain L:44*3 ^ (h+1)<=dK:=by rw [(show 3 ^ (h+1)=3*3 ^ h from by rw [pR,kR])];exact ab (jO 44 (jO 3 M)) (by decide)
    refine Ex.ret (lF.ret (bz (bz .str (lk .str (.one (Ev.eq ?comp (congrArg dp (xy h l f s)))) kC kB (sZ F)) (iw ?c1)) .str (iw ?c2)));case c1=>exact ab (iE (iE B)) L
    case c2=>rw [bL];exact ab (iE B) L
    case comp=>
     refine kg (ρc:=[(S0 "rows",.d (.list (l.map du.dat))),(S0 "first",.d (.int f)),(S0 "step",.d (.int s))]) (ρ₁:=λx=>(S0 "k",.d x)::[(S0 "rows",.d (.list (l.map du.dat))),(S0 "first",.d (.int f)),(S0 "step",.d (.int s))]) (xs:=jK 0 l.length) (outs:=DS h l f s) ?hi rfl rfl (.cons rfl rfl rfl rfl (.cons rfl rfl rfl rfl (.cons rfl rfl rfl rfl .nil))) ?hz ?hb;case hi=>exact Ee.of (bZ (.one (bZ (.one (al rfl)) (fL j))) iV) (jS (by rw [jF];rfl) (by decide) (by rw [jF];(refine iR ?_ ?_ <;>lia)))
     case hz=>rw [xy,ak,ak,dk];exact ab g.1 (by decide)
     case hb=>
      intro x C;refine e12 (mM C) λi A N=>?_;obtain rfl:=N;rw [eM];obtain z:(l.map du.dat)[i]?=some (l.getD i (.node [])).dat:=by
       rw [av,aJ,an (mR A)];rfl
      exact i03 eA (r8.new rfl) (K5.one (bX (.consD (gf (al rfl) (al rfl) (nE z) j) (.consD (bz (al rfl) (bz (al rfl) (al rfl) (fF (.inl u))) cQ) (.one (bz (al rfl) (bZ (.one (al rfl)) (fL j)) ((fF (.inl u)).eq (by rw [jF])))))) (Ap w h _ _ _ (g.kid i (mR A)) (fa1 y) (b.kid g.1 (mR A)))) rfl)
noncomputable def DM (w:ar) (R:Nat):Prop:=∀ a b:Int,a.natAbs<=2 ^ 20->b≠0->b.natAbs<=2 ^ 10->iu w R (.ref 116) [II a,II b] (TT [.int (a.fdiv b),.int (a.fmod b)])
noncomputable def fD:Nat->du->Int->Int->Int->Int × Int × Int
 | 0,_,f,s,n=>(f,s,n)
 | h+1,.node l,f,s,n=>if l.isEmpty then (f,s,n) else fD h (l.getD (n.fmod l.length).toNat (.node [])) (f+s*n.fmod l.length) (s*l.length) (n.fdiv l.length)
theorem p6 (h:Nat) (l:List du) (f s n:Int):fD (h+1) (.node l) f s n=if l.isEmpty then (f,s,n) else fD h (l.getD (n.fmod l.length).toNat (.node [])) (f+s*n.fmod l.length) (s*l.length) (n.fdiv l.length):=rfl
theorem vo {n:Int} {k:Nat} (a:0<k):(n.fdiv k).natAbs<=n.natAbs:=by
 rw [dJ _ (bF k)];exact Int.natAbs_ediv_le_natAbs n k
structure OS where
 h:Nat
 t:du
 f:Int
 s:Int
 n:Int
noncomputable def OS.ne:OS:=⟨0,.node [],0,0,0⟩
theorem xE (w:ar) (R:Nat) (D:DM w R) {b:Nat} (E:1<=b) (C:b<=1000) (h:Nat) (t:du) (n:Int) (ok:zw b h t) (hh:h<=5) (hb:b ^ h<=1000) (hn:n.natAbs<=2 ^ 20):iu w (R+2) (.ref 303) [DV t.dat,II n] (TT [.int (fD h t 0 1 n).1,.int (fD h t 0 1 n).2.1,.int (fD h t 0 1 n).2.2]):=by
 revert D E C ok hh hb hn;revert w R b h t n;intros w R b h t n;intro D E C ok hh hb hn;refine' ea (xs:=[ac "rows",ac "number"]) rfl rfl rfl rfl rfl rfl ?hbind ?hp (by decide) (by decide) (by decide) rfl rfl rfl ?h;case hbind=>intro vs hv;refine e21 (jz hv) λa b z1=>?_;obtain rfl:=z1;rfl
 case hp=>exact .cons tN.d (.cons tN.d .nil)
 case h=>
  refine Ex.cons (fE (Ev.tuple (.consD .int (.one .int)) (by decide)) K6.two) ?_;refine Ex.cons (ρ':=[(ac "first",.d (.int (fD h t 0 1 n).1)),(ac "step",.d (.int (fD h t 0 1 n).2.1)),(ac "number",.d (.int (fD h t 0 1 n).2.2))]) (lF.sub (nA (r8.cons rfl (r8.cons rfl (r8.cons rfl (r8.cons rfl r8.nil)))) (rY (o:=.next [(ac "first",.d (.int (fD h t 0 1 n).1)),(ac "step",.d (.int (fD h t 0 1 n).2.1)),(ac "rows",.d (.list [])),(ac "number",.d (.int (fD h t 0 1 n).2.2))]) (α:={x:OS // zw b x.h x.t/\x.h<=5/\x.n.natAbs<=2 ^ 20/\0<x.s/\x.s*(b:Int) ^ x.h<=1000/\fD x.h x.t x.f x.s x.n=fD h t 0 1 n}) (I:=λx=>[(ac "first",.d (.int x.1.f)),(ac "step",.d (.int x.1.s)),(ac "rows",.d x.1.t.dat),(ac "number",.d (.int x.1.n))]) (m:=λx=>x.1.h) ⟨⟨h,t,0,1,n⟩,ok,hh,hn,Int.one_pos,by rw [iy];exact_mod_cast hb,rfl⟩ ?_)) (r8.cons rfl (r8.cons rfl (r8.cons rfl r8.nil)))) (Ex.ret (lF.ret (Ev.tuple (.consD (al rfl) (.consD (al rfl) (.one (al rfl)))) (show 3<=dK by decide))));intro z0;obtain ⟨⟨y,t',f,s,i⟩,z⟩:=z0;dsimp only at z ⊢;refine e06 z λp hh' hn' q B hl=>?_;clear z;obtain ⟨l⟩:=t';have hl3:=p.len;have G:=jM p (fa1 hh');have j:(l.map du.dat).length<=dK:=by rw [ak];delta dK;exact fa2 C hl3
  rw [ir] at G;rw [ir];have v:kr w (R+1) .NotEq (.list (l.map du.dat)) (.list []) (!l.isEmpty):=(gh G rfl).eq (by cases l <;>rfl);cases r:l.isEmpty with
  | true=>
   obtain e:fD y (.node l) f s i=(f,s,i):=by
    cases y with
    | zero=>rfl
    | succ h=>rw [p6,if_pos r]
   refine .inl ⟨(bQ (al rfl) (Ev.list .nil (by decide)) v).eq (by rw [r];rfl),?_⟩;rw [<- hl,e,Ik.mp r];rfl
  | false=>
   cases y with
   | zero=>exfalso;replace r:=(show l=[] from p)▸r;cases r
   | succ y=>
   have g:0<l.length:=by cases l with
    | nil=>cases r
    | cons=>simp
   obtain hr0:=cZ i (b:=(l.length:Int)) (cY.2 (fa1 g));have hk:=(Dj hr0).2 (ef i (cY.2 (fa1 g)));obtain hget:(l.map du.dat)[(i.fmod l.length).toNat]?=some (l.getD (i.fmod l.length).toNat (.node [])).dat:=by
    rw [av,aJ,an hk];rfl
   obtain A:s<=1000:=by
    obtain this:s*1<=s*(b:Int) ^ (y+1):=bH (by exact_mod_cast js _ _ E) (bT q);rw [iz] at this;exact bv this B
   obtain F:=OK (bT q) (bv A (by decide));have hs':s*l.length*(b:Int) ^ y<=1000:=by
    rw [uq,kW ((b:Int) ^ y),<- jZ] at B;exact bv (cK (bH (dM.mpr hl3) (bT q)) (by exact_mod_cast aM _)) B
   refine .inr ⟨(bQ (al rfl) (Ev.list .nil (by decide)) v).eq (by rw [r];rfl),⟨⟨y,l.getD (i.fmod l.length).toNat (.node []),f+s*i.fmod l.length,s*l.length,i.fdiv l.length⟩,p.kid _ hk,by dsimp only;exact fz hh',ab (vo g) hn',by exact Int.mul_pos q (cY.2 (fa1 g)),hs',?_⟩,_,bU _,.inl (Ex.cons (fE (bX (.consD (al rfl) (.one (bZ (.one (al rfl)) ((fL j).eq (by rw [jF]))))) ((D i l.length hn' (yk.mpr g) (by (refine iR ?_ ?_ <;>lia))).le (aI R 1))) K6.two) (Ex.cons (lF.set (bz (al rfl) (bz (al rfl) (al rfl) (fF (.inl F))) cQ)) (Ex.cons (lF.set (bz (al rfl) (bZ (.one (al rfl)) ((fL j).eq (by rw [jF]))) (fF (.inl F)))) (Ex.cons (lF.set (gf (k:=((i.fmod l.length).toNat:Nat)) (al rfl) ((al rfl).eq (by rw [(dE hr0)])) (nE hget) j)) Ex.nil)))),r8.cons rfl (r8.cons rfl (r8.cons rfl (r8.cons rfl r8.nil)))⟩;rw [<- hl];rw [p6,if_neg (by rw [r];exact bb)]
theorem G1 (w:ar) (R:Nat) (D:DM w R) (h:Nat) (t:du) (n:Int) (b:rV h t) (a:h<=5) (c:n.natAbs<=2 ^ 20):iu w (R+2) (.ref 303) [DV t.dat,II n] (TT [.int (fD h t 0 1 n).1,.int (fD h t 0 1 n).2.1,.int (fD h t 0 1 n).2.2]):=
 xE w R D (by decide) (by decide) h t n b a (ab (GD a) (by decide)) c
noncomputable def DP (w:ar) (R:Nat):Prop:=∀ a b:Int,0<=a->a.natAbs<=2 ^ 20->0<b->b.natAbs<=2 ^ 10->iu w R (.ref 109) [II a,II b] (TT [.int (a.fdiv b),.int (a.fmod b)])
theorem sO (i:Int):gL i= -i - 1:=by unfold gL;lia
theorem AB {a b q r:Int} (hb:0<b) (e:b*q+r=a) (h0:0<=r) (h1:r<b):a.fdiv b=q/\a.fmod b=r:=by
 obtain d:=f8 a b;have f:a.fdiv b=q:=by
  rcases Int.lt_trichotomy (a.fdiv b) q with h | h | h
  ·have c:=bH h (bT hb);rw [md,iz] at c;exact absurd (iF (fh (jE d.symm) (jP (ef a hb) _)) (bv c (bv (nJ h0) (jE e)))) (LO a)
  ·exact h
  ·obtain c:=bH h (bT hb);rw [md,iz] at c;exact absurd (iF (fh (jE e.symm) (jP h1 _)) (bv c (bv (nJ (cZ a hb)) (jE d)))) (LO a)
 refine ⟨f,?_⟩;replace d:=f▸d;exact r7 (d.trans e.symm)
theorem O5 {b r:Int} (h:r<b):0<=b+(-r - 1):=fi1 h
theorem O4 {b r:Int} (h:0<=r):b+(-r - 1)<b:=fi1 h
theorem O3 {a b p r:Int} (h:p+r= -a - 1):-p - b+(b+(-r - 1))=a:=fC (fi1 (jE h.symm)) (fi1 (jE h))
theorem IV {a b:Int} (hb:0<b):a.fdiv b= -((-a - 1).fdiv b) - 1/\a.fmod b=b+(-((-a - 1).fmod b) - 1):=by
 refine AB hb ?_ (O5 (ef (-a - 1) hb)) (O4 (cZ (-a - 1) hb));rw [FO,Int.mul_neg,iz];exact O3 (f8 (-a - 1) b)
theorem IW {a:Int} (h:a<0):(-a - 1).natAbs<=a.natAbs:=by (refine iR ?_ ?_ <;>lia)
theorem Af (a b:Int):a.fdiv b=(-a).fdiv (-b)/\a.fmod b= -((-a).fmod (-b)):=by
 refine ⟨by rw [JX],?_⟩;rw [MB,MB,JX,Int.neg_mul];exact fC (fi0) (fi0)
theorem tG (w:ar) (R:Nat) (D:DP w R) (a b:Int) (d:0<=a) (hz:a.natAbs<=2 ^ 20) (hb:0<b) (c:b.natAbs<=2 ^ 10):iu w (R+1) (.ref 116) [II a,II b] (TT [.int (a.fdiv b),.int (a.fmod b)]):=by
 refine' ea (xs:=[S0 "a",S0 "b"]) rfl rfl rfl rfl rfl rfl ?hbind ?hp (by decide) (by decide) (by decide) rfl rfl rfl ?h;case hbind=>intro j f;refine e21 (jz f) λa b e=>?_;obtain rfl:=e;rfl
 case hp=>exact .cons tN.d (.cons tN.d .nil)
 case h=>exact Ex.ret (cf ((bQ (al rfl) .int gi).eq (beq_false_of_ne (db (nq hb)))) (Ex.ret (cf ((bQ (al rfl) .int kh).eq (decide_eq_false (MA hb))) (Ex.ret (cf ((bQ (al rfl) .int kh).eq (decide_eq_false (Int.not_lt_of_ge d))) (Ex.ret (lF.ret (bX (.consD (al rfl) (.one (al rfl))) (D a b d hz hb c)))))))))
theorem tF (w:ar) (R:Nat) (D:DP w R) (a b:Int) (hz:a.natAbs<=2 ^ 20) (hb:0<b) (c:b.natAbs<=2 ^ 10):iu w (R+2) (.ref 116) [II a,II b] (TT [.int (a.fdiv b),.int (a.fmod b)]):=by
 by_cases d:0<=a;·exact (tG w R D a b d hz hb c).le (er (R+1))
 refine e02 (IV (a:=a) hb) λi g=>?_;rw [i,g];refine' ea (xs:=[S0 "a",S0 "b"]) rfl rfl rfl rfl rfl rfl ?hbind ?hp (by decide) (by decide) (by decide) rfl rfl rfl ?h;case hbind=>intro l f;refine e21 (jz f) λa b e=>?_;obtain rfl:=e;rfl
 case hp=>exact .cons tN.d (.cons tN.d .nil)
 case h=>
  exact Ex.ret (cf ((bQ (al rfl) .int gi).eq (beq_false_of_ne (db (nq hb)))) (Ex.ret (cf ((bQ (al rfl) .int kh).eq (decide_eq_false (MA hb))) (Ex.ret (fr ((bQ (al rfl) .int kh).eq (decide_eq_true (JZ d)))
   (Ex.cons (fE (bX (.consD ((CI (al rfl)).eq (by rw [sO])) (.one (al rfl))) (tG w R D (-a - 1) b (fi1 (jt.1 d)) (ab (IW (jt.1 d)) hz) hb c)) K6.two) (Ex.ret (lF.ret (Ev.tuple (.consD ((CI (al rfl)).eq (by rw [sO])) (.one (bz (al rfl) ((CI (al rfl)).eq (by rw [sO])) cQ))) (show 2<=dK by decide))))))))))
theorem DY (w:ar) (R:Nat) (D:DP w R):DM w (R+3):=by
 intro a b g d c;by_cases j:0<b;·exact (tF w R D a b g j c).le (er (R+2))
 refine e02 (Af a b) λl k=>?_;rw [l,k];refine' ea (xs:=[S0 "a",S0 "b"]) rfl rfl rfl rfl rfl rfl ?hbind ?hp (by decide) (by decide) (by decide) rfl rfl rfl ?h;case hbind=>intro o i;refine e21 (jz i) λa b f=>?_;obtain rfl:=f;rfl
 case hp=>exact .cons tN.d (.cons tN.d .nil)
 case h=>
  exact Ex.ret (cf ((bQ (al rfl) .int gi).eq (beq_false_of_ne (db (Ne.intro (id (db d)))))) (Ex.ret (fr ((bQ (al rfl) .int kh).eq (decide_eq_true (by lia)))
   (Ex.cons (fE (bX (.consD (oB (al rfl)) (.one (oB (al rfl)))) (tF w R D (-a) (-b) (by rw [Ln];assumption) (by lia) (by rw [Ln];assumption))) K6.two) (Ex.ret (lF.ret (Ev.tuple (.consD (al rfl) (.one (oB (al rfl)))) (show 2<=dK by decide))))))))
noncomputable def OT (w:ar) (R:Nat):Prop:=∀ n:Int,0<=n->n<=243->iu w R (.ref 74) [SSV (dd n)] (II n)
open PySem.Builtin.Str in
theorem iu.split {w:ar} {r:Nat} {x y:aE} (a:(y.length==0)=false) (hz:x.length+2<=dK):iu w r (.builtin "str.split") [SSV x,SSV y] (LL ((fy x y).map .str)):=
 CL a (iE hz) (by
  rw [uh];exact fa2 hz (zB x y 0 x.length (x.length+1)))
theorem xk {x y:aE}:(fy x y).length<=x.length+2:=by
 revert x y;intros x y;delta fy;split;·simp
 ·split;·simp
  ·obtain a:=zB x y 0 x.length (x.length+1);rw [uh];exact dt a 1
noncomputable def uD (p:aE) (out:List (Int × Int)):Prop:=p.length+4<=dK/\(((fy p (S0 "\"")).length≠5/\out=[])\/∃ a b v0 v2 v4,0<=a/\a<=243/\0<=b/\b<=243/\fy p (S0 "\"")=[v0,dd a,v2,dd b,v4]/\out=[(a,b)])
noncomputable def gH (ps:List (aE × List (Int × Int))) (k:Nat):List (Int × Int):=(ps.take k).flatMap (·.2)
theorem xz (ps:List (aE × List (Int × Int))) (k:Nat) (p:aE × List (Int × Int)) (h:ps[k]?=some p):gH ps (k+1)=gH ps k++p.2:=by
 delta gH;rw [dF,h];simp
theorem G0 (w:ar) (R:Nat) (D:OT w R) (page:aE) (ps:List (aE × List (Int × Int))) (hz:page.length+2<=dK) (f:fy page (S0 ">")=ps.map (·.1)) (hp:∀ p∈ps,uD p.1 p.2):iu w (R+1) (.ref 289) [SSV page] (LL ((ps.flatMap (·.2)).map cP)):=by
 revert D hz f hp;revert w R page ps;intros w R page ps;intro D hz f hp;obtain r:∀ p∈ps,p.2.length<=1:=λp hm=>by
  rcases (hp p hm).2 with ⟨_,h⟩ | ⟨_,_,_,_,_,_,_,_,_,_,h⟩ <;>rw [h] <;>simp
 obtain hpl:ps.length<=page.length+2:=by
  obtain this:=xk (y:=S0 ">");rw [f,ak] at this;exact this
 obtain hol:∀ k,(gH ps k).length<=k:=by
  intro k;induction k with
  | zero=>simp [gH]
  | succ k ih=>
   cases e:ps[k]? with
   | none=>
    obtain this:gH ps (k+1)=gH ps k:=by unfold gH;rw [dF,e];simp
    rw [this];exact fa1 ih
   | some p=>rw [xz ps k p e,aB];obtain this:=r p (aQ e);exact fa2 ih this
 refine' ea (xs:=[S0 "page"]) rfl rfl rfl rfl rfl rfl ?hbind ?hp (by decide) (by decide) (by decide) rfl rfl rfl ?h;case hbind=>intro vs hv;refine e11 (hY hv) λa z0=>?_;obtain rfl:=z0;rfl
 case hp=>exact .cons tN.d .nil
 case h=>
  refine mT (ds:=[]) .nil (by decide) rfl ?_;intros a;refine Ex.cons (ρ':=[(S0 "pairs",.own a ((gH ps ps.length).map cP)),(S0 "page",.d (.str page))]) (gc (xs:=(ps.map (·.1)).map .str) (Ee.of (Ev.eq (lk (al rfl) (.one .str) eC oP (iu.split rfl hz)) (congrArg (λl:List aE=>dp (l.map .str)) f)) MP.list) ?_) ?_
  ·refine ke (by rw [ak,ak]) (I:=λk=>[(S0 "pairs",.own a ((gH ps k).map cP)),(S0 "page",.d (.str page))]) ?_;intros k x;intro j;rw [av,av] at j;cases e:ps[k]? with
   | none=>replace j:=e▸j;cases j
   | some p=>
   replace j:=e▸j;obtain rfl:da p.1=x:=by simpa using j
   refine e02 (hp p (aQ e)) λn o=>?_;obtain i:((fy p.1 (S0 "\"")).map da).length<=dK:=by rw [ak];exact fa2 n (xk (y:=S0 "\""))
   obtain q:=xz ps k p e;refine i23 _ _ eA (.inl (Ex.cons (lF.set (lk (al rfl) (.one .str) eC oP (iu.split rfl (fa1 n)))) (Ex.cons (ρ':=(S0 "pairs",.own a ((gH ps (k+1)).map cP))::[(S0 "page",.d (.str page))]) ?hif Ex.nil))) (r8.refl _);case hif=>
    refine uG (c:=decide ((fy p.1 (S0 "\"")).length=5)) ((bQ (bZ (.one (al rfl)) (fL i)) .int gi).eq ?hcmp) (λh5=>?yes) (λh5=>?no);case hcmp=>
     rw [ak];by_cases h:(fy p.1 (S0 "\"")).length=5;·rw [h];rfl
     ·rw [decide_eq_false h];exact beq_false_of_ne (ma rfl rfl h)
    case no=>
     obtain m:=of_decide_eq_false h5;obtain this:p.2=[]:=by
      rcases o with ⟨_,h⟩ | ⟨_,_,_,_,_,_,_,_,_,h,_⟩;·exact h
      ·replace m:=h▸m;exact absurd rfl m
     rw [q,this,bp];exact Ex.sub Ex.nil (r8.cons rfl (r8.cons rfl r8.nil))
    case yes=>
     rcases o with ⟨h,_⟩ | ⟨u,v,v0,v2,v4,hu0,hu1,hv0,hv1,hsp,ho⟩;·exact absurd (of_decide_eq_true h5) h
     ·rw [q,ho,bM];refine Ex.cons (ρ':=(S0 "pairs",.own a ((gH ps k).map cP++[cP (u,v)]))::[(S0 "page",.d (.str page))]) (lF.sub (lF.append rfl (Ev.tuple (ds:=[.int u,.int v]) (.consD (bX (.one (gf (k:=((1:Nat):Int)) (al rfl) .int (nE (by rw [hsp];rfl)) i)) (D u hu0 hu1)) (.one (bX (.one (gf (k:=((3:Nat):Int)) (al rfl) .int (nE (by rw [hsp];rfl)) i)) (D v hv0 hv1)))) (show 2<=dK by decide)) (by rw [ak];have:=hol k;exact fa4 hz hpl ((gE e).1) this)) (r8.cons rfl (r8.cons rfl r8.nil))) Ex.nil
  ·obtain this:=fP;unfold gH;rw [this];exact Ex.freeze (x:=S0 "pairs") rfl (Ex.ret (lF.ret (al rfl)))
noncomputable def hU (c:Nat) (k:Nat) (cs:List (Int × Int)):List (Int × Int):=(cs.filter λp=>p.1.fmod c==(k:Int)).map λp=>(p.1.fdiv c,p.2.fdiv c)
noncomputable def gcdOf (cs:List (Int × Int)):Nat:=cs.foldl gD 0
noncomputable def yA:List (Option du)->Option (List du)
 | []=>some []
 | none::_=>none
 | some t::l=>(yA l).map (t::·)
noncomputable def rB:Nat->List (Int × Int)->Option du
 | 0,_=>none
 | f+1,cs=>if cs=[(0,1)] then some (.node []) else if gcdOf cs<2 then none else (yA ((br (gcdOf cs)).map λk=>rB f (hU (gcdOf cs) k cs))).map .node
theorem Gy (f:Nat) (cs:List (Int × Int)):rB (f+1) cs=if cs=[(0,1)] then some (.node []) else if gcdOf cs<2 then none else (yA ((br (gcdOf cs)).map λk=>rB f (hU (gcdOf cs) k cs))).map .node:=rfl
theorem Gr (t:du) (l:List (Option du)):yA (some t::l)=(yA l).map (t::·):=rfl
noncomputable def Eh (cs:List (Int × Int)):Prop:=cs.length<=1000/\∀ p∈cs,0<=p.1/\p.1.natAbs<=2 ^ 20/\0<p.2/\p.2.natAbs<=2 ^ 10
theorem sz {l:List (Option du)}:∀ {a:List du},yA l=some a->l=a.map some:=by
 induction l with
 | nil=>intro a h;cases h;rfl
 | cons o l c=>
  intro a h;cases o with
  | none=>cases h
  | some t=>
   cases b:yA l with
   | none=>rw [Gr,b] at h;cases h
   | some d=>rw [Gr,b] at h;cases h;rw [bV,<- c b]
noncomputable def iT (c:Nat) (base:List ay) (cs:List (Int × Int)):List (ay × List ag):=base.mapIdx λk a=>(a,(hU c k cs).map cP)
theorem sI {c:Nat} {base:List ay} {cs:List (Int × Int)} {k:Nat} {a:ay} (h:base[k]?=some a):(iT c base cs)[k]?=some (a,(hU c k cs).map cP):=by
 delta iT;rw [jn,h];rfl
theorem B6 (c:Nat) {ls:List (ay × List ag)} (h:∀ q∈ls,q.2=[]):iT c (ls.map (·.1)) []=ls:=by
 apply ja;intro k;delta iT;rw [jn,av];cases b:ls[k]? with
 | none=>rfl
 | some q=>obtain this:=h q (aQ b);obtain ⟨a,d⟩:=q;subst this;rfl
theorem tz (c k:Nat) (cs:List (Int × Int)) (p:Int × Int):hU c k (cs++[p])=hU c k cs++if p.1.fmod c==(k:Int) then [(p.1.fdiv c,p.2.fdiv c)] else []:=by
 delta hU;rw [List.filter_append,bM,lA];split <;>rfl
theorem Ar {c:Nat} {base:List ay} {cs:List (Int × Int)} {p:Int × Int} {r:Nat} (hr:p.1.fmod c=(r:Int)) (b:r<base.length):pu (iT c base cs) r ((hU c r cs).map cP++[cP (p.1.fdiv c,p.2.fdiv c)])=iT c base (cs++[p]):=by
 revert c base cs p r;intros c base cs p r;intro hr b;apply ja;intros k;delta pu;obtain d:=an b;rw [H4,aJ,sI d];by_cases e:r=k
 ·subst e;rw [if_pos rfl,(show (iT c base cs).length=base.length from by delta iT;rw [sf]),if_pos b,sI d,tz,hr,beq_self_eq_true,bM];rfl
 ·rw [if_neg e];delta iT;rw [jn,jn];cases base[k]? with
  | none=>rfl
  | some a=>rw [tz,(beq_false_of_ne (by rw [hr];exact ma rfl rfl e)),if_neg (by decide),bp]
theorem tD:∀ (b:List (Int × Int)) (c:Nat),(b.foldl gD c) ∣ c/\∀ p∈b,(b.foldl gD c) ∣ p.2.toNat
 | [],c=>⟨Nat.dvd_refl _,λ_ h=>(nm h)⟩
 | p::e,c=>by
  refine e02 (tD e (gD c p)) λd f=>?_;refine ⟨LM d (Nat.gcd_dvd_left _ _),λq a=>?_⟩;rcases mC a with rfl | a;·exact LM d (Nat.gcd_dvd_right _ _)
  ·exact f q a
theorem on:∀ (d:List (Int × Int)) (c:Nat),c<=2 ^ 10->(∀ p∈d,p.2.natAbs<=2 ^ 10)->d.foldl gD c<=2 ^ 10
 | [],c,a,_=>a
 | p::e,c,a,h=>by
  refine on e _ ?_ λq f=>h q (.tail _ f);delta gD;obtain g:=h p (.head _);by_cases b:p.2.toNat=0;·rw [b,tv];exact a
  ·have:=JT c (Db b);lia
theorem Eh.part {cs:List (Int × Int)} (o:Eh cs) (b:2<=gcdOf cs) (k:Nat):Eh (hU (gcdOf cs) k cs):=by
 revert o b;revert cs k;intros cs k;intro o b;refine ⟨?_,λq h=>?_⟩;·delta hU;rw [ak];exact ab (fW _ _) o.1
 ·refine e12 (mM h) λp c g=>?_;obtain rfl:=g;have c:=(wl.mp c).1;refine e04 (o.2 p c) λm l f j=>?_;refine e11 ((tD cs 0).2 p c) λd i=>?_;have e:p.2=(gcdOf cs:Int)*(d:Int):=by
   rw [<- dE (bT f),i];rfl
  obtain a:(0:Int)<gcdOf cs:=cY.2 (fa1 b);refine i04 (Int.fdiv_nonneg m (bT a)) (ab (vo (k:=gcdOf cs) (fa1 b)) l) ?_ (ab (vo (k:=gcdOf cs) (fa1 b)) j);dsimp only;rw [e,Int.mul_fdiv_cancel_left _ (db (nq a))];exact cY.2 (fa1 (iC (show d≠0 from by rintro rfl;replace f:=e▸f;simp at f)))
theorem hV (cs:List (Int × Int)):cc (.list (cs.map cP))=true:=by
 obtain a:∀ cs:List (Int × Int),di (cs.map cP)=true/\pc (cs.map cP)<=1:=by
  intro cs;induction cs with
  | nil=>exact ⟨rfl,aM _⟩
  | cons p c b=>rw [bV,di,b.1];exact ⟨rfl,tu.mpr ⟨aq _,b.2⟩⟩
 delta cc;rw [qf,zC,(a cs).1];exact decide_eq_true (by have:=(a cs).2;exact fa1 this)
noncomputable def yt:ag->List (Int × Int)
 | .list ds=>ds.map λ| .tuple [.int a,.int b]=>(a,b) | _=>(0,0)
 | _=>[]
theorem qz (cs:List (Int × Int)):yt (.list (cs.map cP))=cs:=by
 refine (?_:(cs.map cP).map _=cs);rw [cz];exact we _
mutual
theorem IY:∀ t:du,t.dat.canLay0=true
 | .node l=>by exact ve l
theorem ve:∀ l:List du,di (qV l)=true
 | []=>by rfl
 | t::a=>by refine (?_:(t.dat.canLay0 && di (qV a))=true);rw [IY t,ve a];rfl
end
theorem I8 (cs:List (Int × Int)):fO (.list (cs.map cP)) (.list [.tuple [.int 0,.int 1]])=decide (cs=[(0,1)]):=by
 match cs with
 | []=>rfl
 | p::q::l=>simp [fO,JI]
 | [(a,b)]=>simp [fO,JI,cP];try (rw [J0];rfl)
theorem An (w:ar) (R:Nat) (D:DM w R) (f:Nat) (cs:List (Int × Int)) (t:du) (ok:Eh cs) (ht:rB f cs=some t):iu w (R+3+f) (.ref 315) [LL (cs.map cP)] (DV t.dat):=by
 revert D ok ht;revert w R f cs t;intros w R f cs t;intro D ok ht;induction f generalizing cs t with
 | zero=>cases ht
 | succ f IH=>
  refine' ea (xs:=[S0 "classes"]) rfl rfl rfl rfl rfl rfl ?hbind ?hp (by decide) (by decide) (by decide) rfl rfl rfl ?h;case hbind=>intro vs hv;refine e11 (hY hv) λa z0=>?_;obtain rfl:=z0;rfl
  case hp=>exact .cons tN.d .nil
  case h=>
   obtain heq:=(pO (hV cs) rfl).eq (I8 cs);by_cases h1:cs=[(0,1)]
   ·rw [Gy,if_pos h1] at ht;refine iM ht λz1=>?_;clear ht;subst z1;exact Ex.ret (fr (bQ (al rfl) (Ev.list (.one (Ev.tuple (.consD .int (.one .int)) (by decide))) (by decide)) (heq.eq (decide_eq_true h1))) (Ex.ret (lF.ret (Ev.list .nil (by decide)))))
   ·rw [Gy,if_neg h1] at ht;by_cases hc:gcdOf cs<2;·replace ht:=(if_pos hc)▸ht;exact lE ht
    replace ht:=(if_neg hc)▸ht;obtain ⟨ts,hts,rfl⟩:∃ ts,yA ((br (gcdOf cs)).map λk=>rB f (hU (gcdOf cs) k cs))=some ts/\t=.node ts:=by
     cases hs:yA ((br (gcdOf cs)).map λk=>rB f (hU (gcdOf cs) k cs)) with
     | none=>replace ht:=hs▸ht;cases ht
     | some ts=>replace ht:=hs▸ht;cases ht;exact i12 ts rfl rfl
    have hc10:gcdOf cs<=2 ^ 10:=on cs 0 (by decide) λp hp=>(ok.2 p hp).2.2.2;refine Ex.cons (cf (bQ (al rfl) (Ev.list (.one (Ev.tuple (.consD .int (.one .int)) (by decide))) (by decide)) (heq.eq (decide_eq_false h1))) Ex.nil) ?_;refine Ex.cons (lF.set .int) ?_;refine Ex.cons (ρ':=[(S0 "common",.d (.int (gcdOf (cs.take cs.length):Nat))),(S0 "classes",.d (.list (cs.map cP)))]) (gc (xs:=cs.map cP) (Ee.of (al rfl) MP.list) ?_) ?_
    ·refine ke (by rw [ak]) (I:=λk=>[(S0 "common",.d (.int (gcdOf (cs.take k):Nat))),(S0 "classes",.d (.list (cs.map cP)))]) λj y hy=>?_;rw [av] at hy;cases hp:cs[j]? with
     | none=>replace hy:=hp▸hy;cases hy
     | some p=>
     replace hy:=hp▸hy;obtain rfl:cP p=y:=by simpa using hy
     refine e04 (ok.2 p (aQ hp)) λb1 b2 b3 b4=>?_;obtain hc1:gcdOf (cs.take j)<=2 ^ 10:=on _ 0 (by decide) λq hq=>(ok.2 q (eh hq)).2.2.2;obtain hgc:gcdOf (cs.take (j+1))=gD (gcdOf (cs.take j)) p:=sr gD cs j p 0 hp;refine i23 _ _ (uI.tuple K6.two) (.inl (Ex.cons (lF.set (bX (.consD (al rfl) (.one ((al rfl).eq (by rw [(dE (bT b3))])))) ((DL w _ p.2.toNat (by exact ab (by assumption) (by decide)) (by lia)).le (show 2<=R+3+f by exact fa0)))) Ex.nil)) (r8.cons ?_ (r8.cons rfl r8.nil));rw [hgc];rfl
    rw [fP];refine Ex.cons (cf ((bQ (al rfl) .int kh).eq (decide_eq_false (pU.2 (dM.2 (fa1 (ba hc)))))) Ex.nil) ?_;refine CD (xs:=jK 0 (gcdOf cs)) (ρ₁:=λx=>[(S0 "k",.d x)]) (Ee.of (bZ (.one (al rfl)) iV) (jS (jl (lenZ (gcdOf cs))) (by decide) (by (refine iR ?_ ?_ <;>lia)))) rfl rfl (by rw [pk];exact ab (by assumption) (by decide)) (λy hy=>eA) rfl ?hsw1 λa ls hlen hnil=>?_;case hsw1=>(intro env he;obtain ⟨_,_,_,_,_,_,_,_,_⟩:=env;cases he.scp;rfl)
    obtain ⟨base,rfl⟩:∃ base,ls=iT (gcdOf cs) base (cs.take 0):=⟨_,(B6 _ hnil).symm⟩;have hbl:base.length=gcdOf cs:=by replace hlen:=pk▸hlen;replace hlen:=sf▸hlen;exact hlen
    refine Ex.cons (ρ':=[(S0 "parts",.owns a (iT (gcdOf cs) base (cs.take cs.length))),(S0 "common",.d (.int (gcdOf cs:Nat))),(S0 "classes",.d (.list (cs.map cP)))]) (nA (ρ:=[(S0 "parts",.owns a (iT (gcdOf cs) base (cs.take 0))),(S0 "common",.d (.int (gcdOf cs:Nat))),(S0 "classes",.d (.list (cs.map cP)))]) (r8.cons rfl (r8.cons rfl (r8.cons rfl r8.nil))) (gc (xs:=cs.map cP) (Ee.of (al rfl) MP.list) ?_)) ?_
    ·refine ke (by rw [ak]) (I:=λk=>[(S0 "parts",.owns a (iT (gcdOf cs) base (cs.take k))),(S0 "common",.d (.int (gcdOf cs:Nat))),(S0 "classes",.d (.list (cs.map cP)))]) λj y hy=>?_;rw [av] at hy;cases hp:cs[j]? with
     | none=>replace hy:=hp▸hy;cases hy
     | some p=>
     replace hy:=hp▸hy;obtain rfl:cP p=y:=by simpa using hy
     refine e04 (ok.2 p (aQ hp)) λb1 b2 b3 b4=>?_;obtain hm1:=ef p.1 (b:=(gcdOf cs:Int)) (by lia);obtain hr:=(dE (cZ p.1 (b:=(gcdOf cs:Int)) (by lia))).symm;generalize hrn:(p.1.fmod (gcdOf cs:Int)).toNat=rr at hr;obtain hrl:rr<base.length:=by lia
     obtain htk:cs.take (j+1)=cs.take j++[p]:=by rw [dF,hp];rfl
     obtain hpl:((hU (gcdOf cs) rr (cs.take j)).map cP).length<dK:=by
      rw [ak];delta hU;rw [ak];obtain this:=fW (λq=>q.1.fmod (gcdOf cs:Int)==(rr:Int)) (cs.take j);obtain this:=ok.1;delta dK;obtain h3:(cs.take j).length<=cs.length:=by rw [cS];exact eo _ _
      lia
     refine i23 _ _ (uI.tuple K6.two) (.inl (Ex.cons (fE (bX (.consD (al rfl) (.one (al rfl))) ((D p.1 (gcdOf cs) b2 (by lia) (Lw.mp hc10)).le (show R<=R+3+f by exact fa0))) K6.two) (Ex.cons (zd (x:=S0 "parts") rfl ((al rfl).eq (by rw [<- hr])) (sI (an hrl)) (Ev.tuple (ds:=[.int (p.1.fdiv (gcdOf cs)),.int (p.2.fdiv (gcdOf cs))]) (.consD (al rfl) (.one (bz (al rfl) (al rfl) (oH (by lia) (by (refine yE ?_ ?_ <;>lia)))))) (show 2<=dK by decide)) (by rw [(λl=>by delta iT;rw [sf,hbl]:∀ l,(iT (gcdOf cs) base l).length=gcdOf cs)];exact ab (by assumption) (by decide)) hpl) Ex.nil))) (r8.cons ?_ (r8.cons rfl (r8.cons rfl r8.nil)));rw [htk,<- Ar hr hrl];rfl
    rw [fP];refine Ex.freezeOwns (x:=S0 "parts") rfl ?_;obtain hparts:((iT (gcdOf cs) base cs).map λp=>dp p.2)=(br (gcdOf cs)).map λk=>.list ((hU (gcdOf cs) k cs).map cP):=by
     apply ja;intro k;delta iT;rw [av,jn,av];by_cases hk:k<gcdOf cs;·rw [an (show k<base.length by exact kl hk (id (jl hbl))),jJ hk];rfl
     ·rw [cn (show base.length<=k by exact fa2 (aj hbl) (ba hk)),cn (by rw [dk];exact ba hk)];rfl
    rw [hparts];obtain hflat:(((br (gcdOf cs)).map λk=>dp ((hU (gcdOf cs) k cs).map cP)).flatMap λx=>[((rB f (yt x)).getD (.node [])).dat])=ts.map du.dat:=by
     obtain h2:((br (gcdOf cs)).map λk=>rB f (hU (gcdOf cs) k cs)).map (λo=>(o.getD (.node [])).dat)=(ts.map some).map (λo=>(o.getD (.node [])).dat):=by rw [(sz hts)]
     rw [cz,cz] at h2;rw [ej];simp only [qz];rw [<- jI];exact h2
    have hlts:ts.length=gcdOf cs:=by
     obtain this:=congrArg lW (sz hts);rw [ak,ak,dk] at this;exact this.symm
    refine Ex.cons (mQ (x:=S0 "rows") (ρ₁:=λx=>[(S0 "part",.d x)]) (outs:=λx=>[((rB f (yt x)).getD (.node [])).dat]) (Ee.of (al rfl) MP.list) rfl rfl .nil ?hz ?hb rfl ?hsw) ?_;case hz=>(rw [hflat,ak,hlts];exact ab (by assumption) (by decide))
    case hsw=>(intro env he;obtain ⟨_,_,_,_,_,_,_,_,_⟩:=env;cases he.scp;rfl)
    case hb=>
     intro x hx;refine e12 (mM hx) λk hk z2=>?_;obtain rfl:=z2;obtain hk2:rB f (hU (gcdOf cs) k cs)=some (ts[k]'(fa2 (aj hlts.symm) (mR hk))):=by
      obtain this:=congrArg (λl=>l[k]?) (sz hts);rw [av,jJ (mR hk),av,an (show k<ts.length by exact fa2 (aj hlts.symm) (mR hk))] at this;simpa using this
     refine i03 eA r8.nil (K5.one (bX (.one (al rfl)) (IH (hU (gcdOf cs) k cs) _ (ok.part (ba hc) k) hk2)) ?_);rw [qz,hk2];rfl
    rw [hflat];obtain hno:((ts.map du.dat).any λy=>fO y .none)=false:=by
     rw [H7];intro y hy;refine e12 (mM hy) λz3 z4 z5=>?_;obtain ⟨l⟩:=z3;obtain rfl:=z5;rw [ir];exact ne_true_of_eq_false rfl
    refine Ex.cons (cf (bQ Ev.nil (al rfl) ((vX (by rw [<- oq];exact ve ts) rfl (by decide)).eq hno)) Ex.nil) (Ex.ret (lF.ret ((al rfl).eq (by rw [ir]))))
theorem k8 {a:Int} (h:a.natAbs<2 ^ 40):bt a<=40:=by
 delta bt;split;·exact aM 40
 ·rename_i b;have:=(Nv (by simpa using b)).mpr h;exact Ig this
theorem I9 (w:ar) (a b n:Int) (j:a.natAbs<2 ^ 40) (hb:0<b) (g:b.natAbs<=2 ^ 20) (m:0<=n):iu w 2 (.ref 81) [II a,II b,II n] (TT [.int (a.fdiv b),.int (a.fmod b)]):=by
 refine' ea (xs:=[S0 "a",S0 "b",S0 "n"]) rfl rfl rfl rfl rfl rfl ?hbind ?hp (by decide) (by decide) (by decide) rfl rfl rfl ?h;case hbind=>intro l f;refine e31 (yM f) λa b c e=>?_;obtain rfl:=e;rfl
 case hp=>exact .cons tN.d (.cons tN.d (.cons tN.d .nil))
 case h=>obtain this:=k8 j;exact Ex.ret (fr ((bQ (bz (oE (al rfl)) (al rfl) gK) (HG (i:=4000)) pN).eq (decide_eq_true (by lia))) (Ex.ret (lF.ret (bZ (.consD (al rfl) (.one (al rfl))) (Be (db (nq hb)) (by exact aR (by assumption) (by decide)))))))
noncomputable def ez (b:Int):List Int->Int
 | []=>0
 | d::r=>d+b*ez b r
theorem lb (b:Int):∀ a c:List Int,ez b (a++c)=ez b a+b ^ a.length*ez b c
 | [],c=>by rw [mr,pS,Int.pow_zero,iy];exact (eM _).symm
 | x::a,c=>by
  refine (?_:x+b*ez b (a++c)=x+b*ez b a+b ^ (a.length+1)*ez b c);rw [lb b a c,md,uq,<- jZ,kW b (b ^ a.length),si]
theorem la {b:Int} (hb:0<b):∀ {a:List Int},(∀ x∈a,0<=x)->0<=ez b a
 | [],_=>eR _
 | x::a,h=>nK (h x (.head _)) (nI (bT hb) (la hb λy c=>h y (.tail _ c)))
noncomputable def t8 (ds:List Int) (L R:Nat):List Int:=(ds.drop L).take (R - L)
theorem sA {ds:List Int} {L M R:Nat} (h1:L<=M) (h2:M<=R):t8 ds L R=t8 ds L M++t8 ds M R:=by
 delta t8;rw [su h1 h2,Lj,g0,bo h1]
theorem qP {ds:List Int} {L R:Nat} (h:R<=ds.length):(t8 ds L R).length=R - L:=by
 delta t8;rw [cS,lx];exact dB (Nat.sub_le_sub_right h L)
theorem DB {ds:List Int}:t8 ds 0 ds.length=ds:=by simp [t8]
theorem IJ {ds:List Int} {L:Nat} {d:Int} (h:ds[L]?=some d):t8 ds L (L+1)=[d]:=by
 refine e11 (gE h) λa b=>?_;obtain rfl:=b;delta t8;rw [jD a,dI];rfl
theorem KF {b:Int} (hb:0<b) {ds:List Int} (h:∀ x∈ds,0<=x) {L R:Nat} (c:L<=R) (hR:R<=ds.length):0<=ez b (t8 ds L R)/\ez b (t8 ds L R)<=ez b ds:=by
 obtain d:∀ L R,∀ x∈t8 ds L R,0<=x:=λL R x j=>h x (lV (eh j));obtain i:=la hb (d L R);refine ⟨i,?_⟩;obtain e:ez b ds=ez b (t8 ds 0 L)+b ^ L*(ez b (t8 ds L R)+b ^ (R - L)*ez b (t8 ds R ds.length)):=by
  obtain this:=sA (aM L) (ab c hR);rw [DB,sA c hR] at this;conv=>lhs;rw [this]
  rw [lb,lb,qP (ab c hR),qP hR,Dd]
 rw [e];obtain g:=nI (bT (wo hb)) (la hb (d _ _));obtain f:1*(ez b (t8 ds L R)+b ^ (R - L)*ez b (t8 ds R ds.length))<=b ^ L*(ez b (t8 ds L R)+b ^ (R - L)*ez b (t8 ds R ds.length)):=cK (wo hb) (nK i g);rw [iy] at f;exact bv (nJ g) (bv f (Int.le_add_of_nonneg_left (la hb (d 0 L))))
theorem zN (n k:Nat):((2:Int) ^ n) ^ k=2 ^ (k*n):=by rw [<- Int.pow_mul,kR]
theorem Cj (w:ar) (ds:List Int) (n:Nat) (h:∀ x∈ds,0<=x) (o:ez (2 ^ n) ds<=2 ^ 40) (l:ds.length<=64) (B:n<=64):iu w 9 (.ref 102) [LL (ds.map .int),II n] (II (ez (2 ^ n) ds)):=by
 revert w ds n;intros w ds n;intro h o l B;refine' qe (xs:=[S0 "digits",S0 "n"]) rfl rfl rfl rfl rfl rfl ?hbind ?hp (by decide) (by decide) (by decide) rfl rfl rfl ?h;case hbind=>intro K o;refine e21 (jz o) λa b J=>?_;obtain rfl:=J;rfl
 case hp=>exact .cons tN.d (.cons tN.d .nil)
 case h=>
  refine vN (λS q=>?_) λ_ _ X=>⟨_,_,_,_,_,_,_,_,_,X _ _ rfl,rfl,rfl,rfl,rfl,rfl,rfl,rfl,rfl,by decide⟩;have u:vK S [S0 "L",S0 "R"]:=by
   subst q;exact ⟨λH T Y cv U K o=>(by refine e21 (jz o) λa b I=>?_;obtain rfl:=I;rfl),by decide,rfl,rfl,rfl,rfl,rfl⟩
  have i:∀ r L:Nat,L<ds.length->Ex w S.scope r (fn [S0 "L",S0 "R"] [.d (.int L),.d (.int (L+1:Nat))]++[(S0 "inner",.clo (lT S)),(S0 "digits",.d (.list (ds.map .int))),(S0 "n",.d (.int n))]) S.body (.ret (II (ez (2 ^ n) (t8 ds L (L+1))))):=by
   intro r L g;obtain ⟨d,F⟩:∃ d,ds[L]?=some d:=⟨_,an g⟩;subst q;refine Ex.ret (fr ((bQ (bz (al rfl) .int cQ) (al rfl) gi).eq (by simp)) (Ex.ret (lF.ret ((gf (al rfl) (al rfl) (uC F) (by rw [ak];exact ab l (by decide))).eq ?_))));rw [IJ F];exact congrArg cb (by refine (?_:d=d+2 ^ n*0);rw [ur,Dl])
  have inner:∀ k L R:Nat,L<R->R<=ds.length->R - L<=2 ^ k->Ex w S.scope (k+1) (fn [S0 "L",S0 "R"] [.d (.int L),.d (.int R)]++[(S0 "inner",.clo (lT S)),(S0 "digits",.d (.list (ds.map .int))),(S0 "n",.d (.int n))]) S.body (.ret (II (ez (2 ^ n) (t8 ds L R)))):=by
   intros k;induction k with
   | zero=>
    intro L R C g t;obtain rfl:R=L+1:=by simp at t;exact bB (fa1 t) (fa1 C)
    exact i _ L g
   | succ k E=>
    intro L R C g t;by_cases e:R=L+1;·subst e;exact i _ L g
    obtain ⟨M,G⟩:∃ M,M=(L+R) / 2:=⟨_,rfl⟩;refine e04 (Kc C e t G) λv s P O=>?_;have y:=ab (aF s) g;refine e02 (KF (wo (by decide):(0:Int)<2 ^ n) h (aF s) g) λW V=>?_;obtain N:ez (2 ^ n) (t8 ds L R)=ez (2 ^ n) (t8 ds M R)*2 ^ ((M - L)*n)+ez (2 ^ n) (t8 ds L M):=by
     rw [sA (aF v) (aF s),lb,qP y,zN,kW,ut]
    obtain D:vE S S.scope (S0 "inner") [(S0 "shift",.d (.int ((M - L)*n:Nat))),(S0 "mid",.d (.int M)),(S0 "L",.d (.int L)),(S0 "R",.d (.int R)),(S0 "inner",.clo (lT S)),(S0 "digits",.d (.list (ds.map .int))),(S0 "n",.d (.int n))] [(S0 "inner",.clo (lT S)),(S0 "digits",.d (.list (ds.map .int))),(S0 "n",.d (.int n))] []:=by
     subst q;exact .cons (.cons (.cons .nil rfl rfl (.inr (.inl ⟨rfl,rfl⟩))) rfl rfl (.inr (.inl ⟨rfl,rfl⟩))) rfl rfl (.inl ⟨rfl,rfl⟩)
    obtain p:((L:Int)+R).fdiv (2 ^ (1:Int).toNat)=(M:Nat):=by
     rw [dJ _ (by decide)];exact jl ((λ{a b}=>Int.neg_inj.mp) (congrArg Neg.neg (congrArg Nat.cast G)))
    obtain m:∀ a b:Nat,y7 [S0 "L",S0 "R"] [.d (.int a),.d (.int b)] [II a,II b]:=λ_ _=>.cons tN.d (.cons tN.d .nil);obtain A:=beq_false_of_ne (ma rfl rfl λa=>e (id (jl a)));rw [N];subst q;exact Ex.cons (cf ((bQ (bz (al rfl) .int cQ) (al rfl) gi).eq A) Ex.nil) (Ex.cons (lF.set ((bz (bz (al rfl) (al rfl) cQ) .int (tb (by decide))).eq (congrArg cb p)))
     (Ex.cons (lF.set ((bz (bz (al rfl) (al rfl) gK) (al rfl) (fF (.inr (ab B (by decide))))).eq (congrArg cb (by rw [w8,Bl (aF v)]))))
     (Ex.ret (lF.ret (bz (bz (oD rfl u (.consD (al rfl) (.one (al rfl))) (m M R) D (E M R s g O)) (al rfl) (tc (bF _) (dM.2 (ab (zq (ab (fU _ _) (ab y l)) B) (by decide))) (by delta Sm;(refine iR ?_ ?_ <;>lia)))) (oD rfl u (.consD (al rfl) (.one (al rfl))) (m L M) D (E L M v y P)) cQ)))))
  cases j:ds with
  | nil=>exact Ex.ret (lF.ret (sW (Tr.val (al rfl) (AO.list (aM _))) .int))
  | cons Z Q=>rw [<- j];obtain z:=inner 6 0 ds.length (by rw [j];simp) (aq _) (Nat.sub_le_of_le_add l);replace z:=DB▸z;refine Ex.ret (lF.ret (K3 ((Tr.val (al rfl) (AO.list (by rw [ak];exact ab l (by decide)))).eq (by rw [j];rfl)) ?_));refine oD rfl u (.consD .int (.one ((bZ (.one (al rfl)) (fL (by rw [ak];exact ab l (by decide)))).eq (congrArg (λk:Nat=>cb k) (ak _))))) (.cons tN.d (.cons tN.d .nil)) ?_ z;subst q;exact .cons (.cons (.cons .nil rfl rfl (.inr (.inl ⟨rfl,rfl⟩))) rfl rfl (.inr (.inl ⟨rfl,rfl⟩))) rfl rfl (.inl ⟨rfl,rfl⟩)
noncomputable def jq (n:Nat):Nat->Nat->List Nat
 | 0,_=>[]
 | k+1,x=>x % 2 ^ n::jq n k (x / 2 ^ n)
theorem gb (n:Nat):∀ k x:Nat,(jq n k x).length=k
 | 0,_=>rfl
 | k+1,x=>congrArg uk (gb n k _)
theorem AC (n:Nat):∀ i j x:Nat,jq n (i+j) x=jq n i (x % 2 ^ (n*i))++jq n j (x / 2 ^ (n*i))
 | 0,j,x=>by refine (?_:jq n (0+j) x=jq n j (x / 2 ^ (n*0)));rw [gy,Mv,Nat.pow_zero,Nat.div_one]
 | i+1,j,x=>by
  rw [Mu i j];refine (?_:x % 2 ^ n::jq n (i+j) (x / 2 ^ n)=x % 2 ^ (n*(i+1)) % 2 ^ n::jq n i (x % 2 ^ (n*(i+1)) / 2 ^ n)++jq n j (x / 2 ^ (n*(i+1))));rw [AC n i j,(show 2 ^ (n*(i+1))=2 ^ n*2 ^ (n*i) from by rw [<- FF,rb,FJ,fm]),Nat.mod_mul_right_mod,Nat.mod_mul_right_div_self,Nat.div_div_eq_div_mul];rfl
theorem vr {n d:Nat}:∀ {k x},d∈jq n k x->d<2 ^ n
 | 0,_,h=>by cases h
 | k+1,x,h=>by
  rcases mC h with rfl | h;·exact iD _ (ra (by decide))
  ·exact vr h
noncomputable def zu (ds:List Nat) (L:Nat) (es:List Nat):List Nat:=ds.take L++es++ds.drop (L+es.length)
theorem BO {ds:List Nat} {L:Nat} {es:List Nat} (h:L+es.length<=ds.length):(zu ds L es).length=ds.length:=by
 delta zu;simp;rw [dB (ab (aI _ _) h),<- dX,bo h]
theorem IR {ds:List Nat} {L x:Nat} (h:L<ds.length):ds.set L x=zu ds L [x]:=by
 delta zu;rw [tx,if_pos h];simp
theorem IQ {ds:List Nat} {L:Nat} {es fs:List Nat} (h:L+es.length+fs.length<=ds.length):zu (zu ds L es) (L+es.length) fs=zu ds L (es++fs):=by
 obtain e:(ds.take L++es).length=L+es.length:=by simp;exact dB (ab (aI _ _) (ab (aI _ _) h))
 delta zu;rw [wj e,<- e,w6,g0,e,aB,dX,bq (ds.take L) es fs]
theorem Io (x s:Nat):pQ (x:Int) ((x / 2 ^ s*2 ^ s:Nat):Int)=(x % 2 ^ s:Nat):=by
 revert x s;intros x s;obtain g:x ||| (x / 2 ^ s*2 ^ s)=x:=by
  refine FL λi=>?_;rw [Nat.testBit_or,Br,Bs];by_cases h:s<=i;·rw [kj h];simp
  ·simp [h]
 obtain f:x &&& (x / 2 ^ s*2 ^ s)=x / 2 ^ s*2 ^ s:=by
  refine FL λi=>?_;rw [Nat.testBit_and,Br,Bs];by_cases h:s<=i;·simp [h]
  ·simp [h]
 obtain a:∀ y:Nat,decide (0<=gL (y:Int))=false/\(gL (gL (y:Int))).toNat=y:=λy=>by
  delta gL;exact ⟨decide_eq_false (jt.2 (fi1 (bF _))),by lia⟩
 obtain b:=λy=>decide_eq_true (bF y);obtain c:=qj x (2 ^ s);rw [kR] at c;obtain d:Ie (x:Int) ((x / 2 ^ s*2 ^ s:Nat):Int)=x:=by
  delta Ie wb;rw [(a _).1,(a _).1];dsimp only;rw [(a _).2,(a _).2,g];delta gL;lia
 obtain e:wb (x:Int) ((x / 2 ^ s*2 ^ s:Nat):Int)=(x / 2 ^ s*2 ^ s:Nat):=by
  delta wb;rw [b,b];dsimp only;rw [bS,bS,f]
 delta pQ;rw [d,e];exact Dk.2 (by rw [<- w9,c])
theorem pD {a:Nat} (h:a≠0):0<bt (a:Int)/\a<2 ^ bt (a:Int):=by
 unfold bt;rw [ee,if_neg (by simpa using h)];exact ⟨kQ _,Nat.lt_log2_self⟩
theorem D2 {b n:Nat} (h:b<=40) (a:0<n):b+n - 1<n*64:=aR (fU _ _) (aR (dt (ab h (Bt 40 a)) n) (by rw [<- Dc,kR n];exact Nat.mul_lt_mul_of_pos_right (by decide) a))
noncomputable abbrev kn (ds:List Nat):List ag:=(ds.map λd:Nat=>(d:Int)).map .int
theorem GO (ds:List Nat) (i x:Nat):(kn ds).set i (.int (x:Int))=kn (ds.set i x):=by simp only [kn,ph]
theorem gV (ds:List Nat):(kn ds).length=ds.length:=by rw [ak,ak]
theorem B9 (w:ar) (a n:Nat) (v:0<n) (T:a<2 ^ 40) (o:n<=64):iu w 9 (.ref 95) [II a,II n] (LL (kn (jq n ((bt a+n - 1) / n) a))):=by
 revert v T o;revert w a n;intros w a n;intro v T o;refine' qe (xs:=[S0 "a",S0 "n"]) rfl rfl rfl rfl rfl rfl ?hbind ?hp (by decide) (by decide) (by decide) rfl rfl rfl ?h;case hbind=>intro vs hv;refine e21 (jz hv) λa b z0=>?_;obtain rfl:=z0;rfl
 case hp=>exact .cons tN.d (.cons tN.d .nil)
 case h=>
  obtain ⟨N,E⟩:∃ N,N=(bt a+n - 1) / n:=⟨_,rfl⟩;have p:bt (a:Int)<=40:=k8 (by trivial);have i:N<=64:=by
   rw [E];exact aF (rc (D2 p v))
  rw [<- E];refine Cy .int ((bz (bz (bz (oE (al rfl)) (al rfl) cQ) .int gK) (al rfl) (oH (by lia) (by rw [ee];exact aR o (by decide)))).eq (congrArg cb ?_)) (ab i (by decide)) (.inr ⟨rfl,rfl⟩) λl=>?_
  ·rw [dJ _ (fi1 (bF _)),E,JY];rw [Bl (ab v (dC n _)),w9];rfl
  refine vN (λS V=>?_) λ_ _ X=>⟨_,_,_,_,_,_,_,_,_,X _ _ rfl,rfl,rfl,rfl,rfl,rfl,rfl,rfl,rfl,by decide⟩;have ok:vK S [S0 "x",S0 "L",S0 "R"]:=by
   subst V;exact ⟨λb0 b6 pm cv b7 vs hv=>(by refine e31 (yM hv) λa b c z1=>?_;obtain rfl:=z1;rfl),by decide,by decide,by decide,rfl,rfl,rfl⟩
  have Z:∀ k X L R f,L<R->R<=f.length->f.length<=64->R - L<=2 ^ k->X<2 ^ (n*(R - L))->X<2 ^ 40->∃ d,(Ex w S.scope (k+1) (fn [S0 "x",S0 "L",S0 "R"] [.d (.int (X:Nat)),.d (.int (L:Nat)),.d (.int (R:Nat))]++[(S0 "inner",.clo (lT S)),(S0 "a_digits",.own l (kn f) false),(S0 "n",.d (.int n))]) S.body (.next d)\/
    ∃ P,Ex w S.scope (k+1) (fn [S0 "x",S0 "L",S0 "R"] [.d (.int (X:Nat)),.d (.int (L:Nat)),.d (.int (R:Nat))]++[(S0 "inner",.clo (lT S)),(S0 "a_digits",.own l (kn f) false),(S0 "n",.d (.int n))]) S.body (.retR P d))/\d.lookup (S0 "a_digits")=some (.own l (kn (zu f L (jq n (R - L) X))) false):=by
   have q:∀ r X L f,L<f.length->f.length<=64->X<2 ^ (n*1)->∃ d,(∃ P,Ex w S.scope r (fn [S0 "x",S0 "L",S0 "R"] [.d (.int (X:Nat)),.d (.int (L:Nat)),.d (.int ((L+1:Nat):Nat))]++[(S0 "inner",.clo (lT S)),(S0 "a_digits",.own l (kn f) false),(S0 "n",.d (.int n))]) S.body (.retR P d))/\d.lookup (S0 "a_digits")=some (.own l (kn (zu f L (jq n 1 X))) false):=by
    intro r X L f j u t;rw [FJ] at t;have hd:jq n 1 X=[X]:=congrArg (λx=>[x]) (JS t);rw [hd,<- IR j,<- GO];have hz:(kn f).length<=dK:=by rw [gV];exact ab u (by decide)
    subst V;refine i12 _ ⟨_,Ex.retR (fr ((bQ (bz (al rfl) .int cQ) (al rfl) gi).eq (by exact beq_int_true rfl)) (Ex.cons (tJ rfl (al rfl) (al rfl) (by rw [gV];exact j) hz) (Ex.retR Fe)))⟩ rfl
   intros k
   induction k with
   | zero=>
    intro X L R f F j u t A Y;obtain rfl:R=L+1:=by simp at t;exact bB (fa1 t) (fa1 F)
    rw [dI] at A ⊢;refine e12 (q (0+1) X L f j u A) λd H B=>?_;exact i12 d (.inr H) B
   | succ k ih=>
    intro X L R f F j u t A Y;by_cases e:R=L+1
    ·subst e;rw [dI] at A ⊢;refine e12 (q (k+1+1) X L f j u A) λd H B=>?_;exact i12 d (.inr H) B
    obtain ⟨M,hM⟩:∃ M,M=(L+R) / 2:=⟨_,rfl⟩;rw [pR] at t;refine e04 (Kc F e t hM) λQ m2 g1 g2=>?_;have G:=aF Q;have C:=aF m2;have O:n*(R - L)=n*(M - L)+n*(R - M):=by rw [<- rb,<- su G C]
    rw [O,FF] at A;have I:=rc A;have m:X / 2 ^ (n*(M - L))<2 ^ 40:=aR (Kp _ _) Y;have K:X % 2 ^ (n*(M - L))<2 ^ (n*(M - L)):=iD _ (ra (by decide));have z:X % 2 ^ (n*(M - L))<2 ^ 40:=aR (Nat.mod_le _ _) Y;refine e12 (ih (X % 2 ^ (n*(M - L))) L M f Q (ab C j) u g1 K z) λb4 a1 a2=>?_;have D:(zu f L (jq n (M - L) (X % 2 ^ (n*(M - L))))).length=f.length:=BO (by rw [gb,bo G];exact ab C j);refine e12 (ih (X / 2 ^ (n*(M - L))) M R (zu f L (jq n (M - L) (X % 2 ^ (n*(M - L))))) m2 (by rw [D];exact j) (by rw [D];exact u) g2 I m) λb3 b1 b2=>?_;have g:zu (zu f L (jq n (M - L) (X % 2 ^ (n*(M - L))))) M (jq n (R - M) (X / 2 ^ (n*(M - L))))=zu f L (jq n (R - L) X):=by
     conv=>lhs;arg 2;rw [(show M=L+(jq n (M - L) (X % 2 ^ (n*(M - L)))).length from by rw [gb,bo G])]
     rw [IQ (by rw [gb,gb,bo G,bo C];exact j),(su G C),AC]
    replace b2:=g▸b2;have J:((L:Int)+R).fdiv (2 ^ (1:Int).toNat)=(M:Nat):=by
     rw [show (2:Int) ^ (1:Int).toNat=2 from rfl,dJ _ (by decide)];lia
    have a3:((M:Int) - L)*n=(n*(M - L):Nat):=by rw [w8,Bl (aF Q),kW]
    have a5:n*(M - L)<=64*64:=zq o (ab (fU _ _) (ab C (ab j u)));have a4:((L:Int)+1==R)=false:=beq_false_of_ne (by lia);have hu:(X:Int).fdiv (2 ^ ((n*(M - L):Nat):Int).toNat)=(X / 2 ^ (n*(M - L)):Nat):=by
     rw [bS,dJ _ (bT (wo (by decide))),JY,Ks];rfl
    have a6:pQ (X:Int) ((X / 2 ^ (n*(M - L)):Nat)*2 ^ ((n*(M - L):Nat):Int).toNat)=(X % 2 ^ (n*(M - L)):Nat):=by
     rw [<- Io,bS,w8,Ks];rfl
    have a0:Sm (X / 2 ^ (n*(M - L)):Nat):=ab (aF m) (by decide);generalize X / 2 ^ (n*(M - L))=U at*;generalize X % 2 ^ (n*(M - L))=W at*;generalize zu f L (jq n (M - L) W)=b5 at*;generalize n*(M - L)=s at*;clear q ih g K z I m A Y O hM e F j u t D Q m2 g1 g2 G C E i p T;subst V;exact i12 _ (.inl <| Ex.cons (cf ((bQ (bz (al rfl) .int cQ) (al rfl) gi).eq a4) Ex.nil) (Ex.cons (lF.set ((bz (bz (al rfl) (al rfl) cQ) .int (tb (by decide))).eq (congrArg cb J)))
     (Ex.cons (lF.set ((bz (bz (al rfl) (al rfl) gK) (al rfl) (fF (.inr (ab o (by decide))))).eq (congrArg cb a3)))
     (Ex.cons (lF.set ((bz (al rfl) (al rfl) (tb (bF _))).eq (congrArg cb hu)))
     (Ex.cons (lF.set ((bz (al rfl) (bz (al rfl) (al rfl) (tc (bF _) (dM.2 (ab a5 (by decide))) a0)) Fp).eq (congrArg cb a6)))
     (Ex.cons (pK (y:=S0 "a_digits") rfl rfl ok (.consD (al rfl) (.consD (al rfl) (.one (al rfl)))) (.cons tN.d (.cons tN.d (.cons tN.d .nil))) (.cons (.cons (.cons .nil rfl rfl (.inr (.inl ⟨rfl,rfl⟩))) rfl rfl (.inr (.inr ⟨_,_,_,rfl,rfl,.head _⟩))) rfl rfl (.inl ⟨rfl,rfl⟩)) a1 a2)
     (Ex.cons (pK (y:=S0 "a_digits") rfl rfl ok (.consD (al rfl) (.consD (al rfl) (.one (al rfl)))) (.cons tN.d (.cons tN.d (.cons tN.d .nil))) (.cons (.cons (.cons .nil rfl rfl (.inr (.inl ⟨rfl,rfl⟩))) rfl rfl (.inr (.inr ⟨_,_,_,rfl,rfl,.head _⟩))) rfl rfl (.inl ⟨rfl,rfl⟩)) b1 b2) Ex.nil))))))) rfl
  rw [(show bC N (cb 0)=kn (bC N 0) from by simp [kn])];by_cases h0:a=0
  ·subst h0;have:N=0:=by rw [E];exact Nat.div_eq_of_lt (by rw [show bt ((0:Nat):Int)=0 from rfl,gy];exact eK v df)
   rw [this];exact Ex.cons (cf ((Tr.val (al rfl) AO.int).eq rfl) Ex.nil) (Ex.freeze (x:=S0 "a_digits") rfl (Ex.ret (lF.ret (al rfl))))
  ·refine e02 (pD h0) λa8 a7=>?_;have a9:a<2 ^ (n*(N - 0)):=by
    refine aw a7 (jr (by decide) ?_);have F:=qj (bt (a:Int)+n - 1) n;rw [<- E] at F;rw [Dd];refine eL (b:=n) ?_;rw [<- kj (ab v (dC n _)),<- F,dX];exact aL (iD (bt (a:Int)+n - 1) v) _
   refine e12 (Z 6 a 0 N (bC N 0) (by rw [E];exact Nw (et (by rw [fm];exact dt a8 n)) v) (by simp) (by simpa using i) (by lia) a9 T) λd H B=>?_;have g:zu (bC N 0) 0 (jq n (N - 0) a)=jq n N a:=by
    delta zu;simp [gb]
   replace B:=g▸B;refine Ex.cons (fr ((Tr.val (al rfl) AO.int).eq (by simpa using h0)) (Ex.cons (pK (y:=S0 "a_digits") rfl rfl ok (.consD (al rfl) (.consD .int (.one ((Fl rfl (by rw [gV,iP];exact ab i (by decide))).eq (congrArg cb (by rw [gV,iP])))))) (.cons tN.d (.cons tN.d (.cons tN.d .nil))) ?_ H B) Ex.nil)) (Ex.freeze (x:=S0 "a_digits") rfl (Ex.ret (lF.ret (al rfl))));subst V;exact .cons (.cons (.cons .nil rfl rfl (.inr (.inl ⟨rfl,rfl⟩))) rfl rfl (.inr (.inr ⟨_,_,_,rfl,rfl,.head _⟩))) rfl rfl (.inl ⟨rfl,rfl⟩)
noncomputable def fI (B:Nat) (p:List Nat):Nat:=p.foldl (λacc d=>acc*B+d) 0
theorem mJ (B:Nat) (p:List Nat) (d:Nat):fI B (p++[d])=fI B p*B+d:=by delta fI;rw [H5];rfl
theorem xF (n:Nat):∀ b:List Nat,ez (2 ^ n) (b.map λd:Nat=>(d:Int))=(fI (2 ^ n) b.reverse:Nat)
 | []=>rfl
 | d::r=>by
  rw [iY,mJ];refine (?_:(d:Int)+2 ^ n*ez (2 ^ n) (r.map λd:Nat=>(d:Int))=_);rw [xF n r,kW,ut];rfl
theorem vh (n:Nat):∀ k x:Nat,fI (2 ^ n) (jq n k x).reverse=x % 2 ^ (n*k)
 | 0,x=>(Nat.mod_one x).symm
 | k+1,x=>by
  refine (?_:fI (2 ^ n) (x % 2 ^ n::jq n k (x / 2 ^ n)).reverse=_);rw [iY,mJ,vh n k,rb,FJ,fm (n*k),FF,Nat.mod_mul,kR,fm]
noncomputable def j6 (B b:Nat) (rev:List Nat) (i:Nat):List Nat:=(br i).map λk=>(fI B (rev.take k) % b*B+rev.getD k 0) / b
theorem uZ (B b:Nat) (a:List Nat) (i:Nat):j6 B b a (i+1)=j6 B b a i++[(fI B (a.take i) % b*B+a.getD i 0) / b]:=by
 delta j6;rw [mn,bM];rfl
theorem xi {a:List Nat} {i:Nat} (h:i<a.length):a.take (i+1)=a.take i++[a.getD i 0]:=by
 rw [dF,aJ,an h];rfl
theorem xr {B b:Nat} (hb:0<b) {a:List Nat}:∀ {i:Nat},i<=a.length->fI B (j6 B b a i)=fI B (a.take i) / b
 | 0,_=>by simp [j6,fI]
 | i+1,h=>by
  rw [uZ,mJ,xr hb (fz h),xi h,mJ];generalize fI B (a.take i)=H;generalize a.getD i 0=d;obtain e:H*B+d=b*(H / b*B)+(H % b*B+d):=by
   have c:H*B=b*(H / b*B)+H % b*B:=by
    conv=>lhs;rw [<- (qj H b)]
    rw [Nx,Nat.mul_assoc]
   exact bB (fa1 (aj c)) (fa1 (aj c.symm))
  rw [e,Nat.mul_add_div hb]
theorem Gx {B b H d:Nat}:(H % b*B+d) % b=(H*B+d) % b:=by
 rw [Ny,Nu,Nat.mod_mod,<- Nu,<- Ny]
theorem Hm {a n:Nat} (d:0<n):a<2 ^ (n*((bt (a:Int)+n - 1) / n)):=by
 by_cases c:a=0;·rw [c];exact ra (by decide)
 ·refine e02 (pD c) λe b=>?_;refine aw b (jr (by decide) ?_);obtain g:=qj (bt (a:Int)+n - 1) n;obtain f:=iD (bt (a:Int)+n - 1) d;lia
theorem B8 {a:Int} {k:Nat} (h:a.natAbs<2 ^ k):bt a<=k:=by
 delta bt;split;·exact aM _
 ·rename_i b;exact (Nv (by simpa using b)).mpr h
theorem oo (w:ar):DP w 10:=by
 revert w;intros w;intro ai bi W L E u;refine e11 (dj W) λa Q=>?_;obtain rfl:=Q;refine e11 (dj (bT E)) λb P=>?_;obtain rfl:=P;rw [ee] at L u;have o:=w7.mp E;refine' ea (xs:=[S0 "a",S0 "b"]) rfl rfl rfl rfl rfl rfl ?hbind ?hp (by decide) (by decide) (by decide) rfl rfl rfl ?h;case hbind=>intro vs C;refine e21 (jz C) λa b O=>?_;obtain rfl:=O;rfl
 case hp=>exact .cons tN.d (.cons tN.d .nil)
 case h=>
  obtain ⟨n,D⟩:∃ n,n=bt (b:Int):=⟨_,rfl⟩;obtain ⟨N,J⟩:∃ N,N=(bt (a:Int)+n - 1) / n:=⟨_,rfl⟩;refine e02 (pD (ul o)) λB S=>?_;rw [<- D] at B S;have z:n<=40:=by rw [D];exact k8 (by rw [ee];exact aR (by assumption) (by decide))
  obtain K:=B9 w a n B (by exact aR (by assumption) (by decide)) (by exact ab (by assumption) (by decide));rw [<- J] at K;have m:(jq n N a).reverse.length=N:=by rw [mY,gb]
  obtain ⟨f,j⟩:∃ f,f=(jq n N a).reverse:=⟨_,rfl⟩;rw [<- j] at m;have t:N<=64:=by
   have:bt (a:Int)<=40:=k8 (by rw [ee];exact aR (by assumption) (by decide));rw [J];exact aF (rc (D2 this B))
  have q:fI (2 ^ n) f=a:=by
   rw [j,vh,J,JS (Hm B)]
  refine Ex.cons (lF.set ((oE (al rfl)).eq (congrArg (λk:Nat=>cb k) D.symm))) (Ex.cons (lF.set (bX (.consD (al rfl) (.one (al rfl))) K)) (Ex.cons (lF.set .int) (mT (ds:=[]) .nil (aM _) rfl λl=>?_)));obtain G:∀ i,Sm ((fI (2 ^ n) (f.take i) % b:Nat):Int):=λi=>by
   have:=iD (fI (2 ^ n) (f.take i)) o;delta Sm;rw [ee];exact ab (fa2 (ab u (by decide:_<=1024)) this:_<=1125899906842624) (by decide)
  obtain s:2 ^ n<=2 ^ 20:=jr (by decide) (by rw [D];exact B8 (by rw [ee];exact aR (by assumption) (by decide)));obtain H:∀ i,f.getD i 0<2 ^ n:=λi=>by
   rw [aJ];cases e:f[i]? with
   | none=>exact ra (by decide)
   | some d=>replace e:=j▸e;exact vr (jx.1 (aQ e))
  obtain T:fI (2 ^ n) (f.take 0) % b=0:=by simp [fI]
  refine Ex.cons (ρ':=[(S0 "q_digits",.own l (kn (j6 (2 ^ n) b f N))),(S0 "r",.d (.int (fI (2 ^ n) (f.take N) % b:Nat))),(S0 "a_digits",.d (.list (kn (jq n N a)))),(S0 "n",.d (.int n)),(S0 "b",.d (.int b))]) (nA (ρ:=[(S0 "q_digits",.own l (kn (j6 (2 ^ n) b f 0))),(S0 "r",.d (.int (fI (2 ^ n) (f.take 0) % b:Nat))),(S0 "a_digits",.d (.list (kn (jq n N a)))),(S0 "n",.d (.int n)),(S0 "b",.d (.int b))]) (r8.cons rfl (r8.cons rfl (r8.cons rfl (r8.cons rfl (r8.cons rfl r8.nil))))) (gc (xs:=(kn (jq n N a)).reverse) (Fj (.one (al rfl)) wJ) ?_)) ?_
  ·refine ke (by rw [mY,gV,gb]) (I:=λi=>[(S0 "q_digits",.own l (kn (j6 (2 ^ n) b f i))),(S0 "r",.d (.int (fI (2 ^ n) (f.take i) % b:Nat))),(S0 "a_digits",.d (.list (kn (jq n N a)))),(S0 "n",.d (.int n)),(S0 "b",.d (.int b))]) λi x p=>?_;obtain A:i<N:=by have:=(gE p).1;rw [mY,gV,gb] at this;exact this
   obtain F:x=.int (f.getD i 0:Nat):=by
    rw [show (kn (jq n N a)).reverse=kn f by rw [j];simp only [kn,uQ],av,av] at p;rw [aJ];cases e:f[i]? with
    | none=>replace p:=e▸p;cases p
    | some d=>replace p:=e▸p;cases p;rfl
   subst F;obtain U:(kn (j6 (2 ^ n) b f i)).length<dK:=by rw [gV];delta j6;rw [ak,dk];delta dK;exact fa2 t A
   have X:=iD (fI (2 ^ n) (f.take i)) o;obtain Z:((fI (2 ^ n) (f.take i) % b:Nat):Int)*2 ^ ((n:Nat):Int).toNat+(f.getD i 0:Nat)=(fI (2 ^ n) (f.take i) % b*2 ^ n+f.getD i 0:Nat):=by
    rfl
   obtain Y:fI (2 ^ n) (f.take (i+1)) % b=(fI (2 ^ n) (f.take i) % b*2 ^ n+f.getD i 0) % b:=by
    rw [xi (by rw [m];exact A),mJ,Gx]
   obtain v:=I9 w (fI (2 ^ n) (f.take i) % b*2 ^ n+f.getD i 0:Nat) b n (by rw [ee];exact aR (fa3 (ab s (by decide:_<=1048576)) (H i) (ab (zq (fa2 u X) s:fI (2 ^ n) (f.take i) % b*2 ^ n<=2 ^ 10*2 ^ 20) (by decide:_<=1073741824)):_<=1099511627775) (by decide)) (w7.mpr o) (by rw [ee];exact ab (by assumption) (by decide)) (bF n);rw [dJ _ (fi1 (bF _)),jv _ (fi1 (bF _))] at v;refine i23 _ _ eA (.inl (Ex.cons (fE (bX (.consD ((bz (bz (al rfl) (al rfl) (tc (bF _) (dM.2 (fa1 z)) (G i))) (al rfl) cQ).eq (congrArg cb Z)) (.consD (al rfl) (.one (al rfl)))) (v.le (ax rfl))) K6.two) (Ex.cons (lF.append rfl (al rfl) U) Ex.nil))) (r8.cons ?_ (r8.cons ?_ (r8.cons rfl (r8.cons rfl (r8.cons rfl r8.nil)))))
   ·rw [(uZ ..),show kn (j6 (2 ^ n) b f i++[(fI (2 ^ n) (f.take i) % b*2 ^ n+f.getD i 0) / b])=kn (j6 (2 ^ n) b f i)++[.int (((fI (2 ^ n) (f.take i) % b*2 ^ n+f.getD i 0:Nat):Int) / (b:Int))] by simp only [kn,bM];rfl];rfl
   ·rw [Y];rfl
  ·have y:(j6 (2 ^ n) b f N).length=N:=by delta j6;rw [ak,dk]
   obtain C:ez (2 ^ n) ((j6 (2 ^ n) b f N).reverse.map λd:Nat=>(d:Int))=(a / b:Nat):=by rw [xF,Em,(show fI (2 ^ n) (j6 (2 ^ n) b f N)=a / b from by rw [xr o (aj m.symm),ix (aj m),q])]
   obtain V:a / b<=2 ^ 20:=ab (Kp _ _) L;obtain v:=Cj w ((j6 (2 ^ n) b f N).reverse.map λd:Nat=>(d:Int)) n (λx p=>by
    refine e12 (mM p) λd z3 M=>?_;obtain rfl:=M;exact bF d) (by rw [C];lia) (by rw [ak,mY,y];exact t) (by exact ab (by assumption) (by decide))
   replace v:=C▸v;rw [dJ _ (bT E),jv _ (bT E)];rw [(show fI (2 ^ n) (f.take N) % b=a % b from by rw [ix (aj m),q])];refine Ex.cons (lF.reverse rfl (by rw [gV,y];exact ab (by assumption) (by decide))) ?_;rw [(show (kn (j6 (2 ^ n) b f N)).reverse=((j6 (2 ^ n) b f N).reverse.map λd:Nat=>(d:Int)).map .int from by simp only [uQ])];exact Ex.freeze (x:=S0 "q_digits") rfl (Ex.cons (lF.set (bX (.consD (al rfl) (.one (al rfl))) v)) (Ex.ret (lF.ret (Ev.tuple (.consD (al rfl) (.one (al rfl))) (show 2<=dK by decide)))))
section
variable {w:ar} {sc:bf} {r:Nat} {ρ ρ':dh} {o:m6} {pos:cU}
theorem tN.tol {P:ci}:tN P (.tol P):=λ_ _ g _ _ _ h=>⟨g,eN.refl _,h⟩
theorem lF.cont:lF w sc r ρ (.Continue pos) (.cont ρ):=λA c a b g d s e f F Q E q=>wpAny_Continue (q _ g s (eN.refl g) ⟨rfl,F⟩)
theorem Ex.cont {x:cD} {xs:List cD} (h:lF w sc r ρ x (.cont ρ')):Ex w sc r ρ (x::xs) (.cont ρ'):=by
 intro A d a b g j s k l F Q E q;refine bI (h A d a b g j s k l F _ _ λn m i c e=>?_);refine e02 e λf y=>?_;clear e;obtain rfl:=f;exact q _ m i c ⟨rfl,y⟩
noncomputable abbrev AnyV:ci:=λ_ _=>True
theorem vV:Ev w sc r ρ (.Dict [] [] pos) AnyV:=λA c d a b g e s f h F Q E q=>Mp (q _ g _ (F.ss.same (Stp.push s _ s.toks)) trivial)
end
theorem vt (w:ar) (n:Int) (f:n<=2048):iu w 2 (.ref 60) [II n,II 5,II 2048] AnyV:=by
 refine' xV (xs:=[S0 "w",S0 "base",S0 "more_than",S0 "show"]) [.bool false] rfl rfl rfl rfl rfl rfl ?hbind ?hp (by decide) (by decide) (by decide) rfl rfl rfl ?h;case hbind=>intro g s X e;refine e31 (yM (by simpa using e)) λa b c d=>?_;obtain rfl:=d;exact C5 X λ_=>rfl
 case hp=>exact .cons tN.d (.cons tN.d (.cons tN.d (.cons tN.raw .nil)))
 case h=>
  refine zz.cons (ie (b:=.tol (Cs (λ_=>false) 0)) (bZ .nil Bb) tN.tol rT) (zz.cons (ie (b:=.tol (Cs (λ_=>false) 0)) (bZ .nil Bb) tN.tol rT) (AV (al rfl) rfl (λ_=>rfl) λa=>?_));refine Ex.cons (ρ':=[(S0 "ws",.res (AQ a (λ_=>false) 0)),(S0 "need",.tol (Cs (λ_=>false) 0))]) (xY (n:=2) ?_) ?_
  ·refine .inr ⟨D7 (n:=1) rfl (by decide),.inl (i23 _ ([(S0 "ws",.res (AQ a (λ_=>false) 0)),(S0 "need",.tol (Cs (λ_=>false) 0))]) (.inr (Ex.cons (CB rfl rfl) (Ex.cont (fr ?tr (Ex.cont lF.cont))))) (r8.cons rfl (r8.cons rfl r8.nil)) (.inl ⟨D7 (n:=0) rfl (by decide),rfl⟩))⟩;exact kd (l6 (Hs (S:=λ_=>false) (al rfl) rfl (by decide)) (Jf ((bQ (al rfl) (al rfl) pN).eq (decide_eq_true f))))
  ·exact Ex.cons (ie (b:=.tol AnyV) vV tN.tol rT) (Ex.ret (fr (y5 (Jh (n:=0) rfl (by decide))) (Ex.ret (lF.ret (Ev.name (b:=.tol AnyV) rfl)))))
theorem vG.of {w:ar} {sc:bf} {r:Nat} {ρ:dh} {e:be} {k:Int} (h:Ev w sc r ρ e (II k)):vG w sc r ρ (some e) (some k):=h
theorem BD (w:ar) (x:aE) (n:Int) (m:wU x=some n) (o:x.length<=640) (hs:pb x (some 0) (some (x.length:Int))=x):iu w 4 (.ref 67) [SSV x] (II n):=by
 refine' qe (xs:=[S0 "s"]) rfl rfl rfl rfl rfl rfl ?hbind ?hp (by decide) (by decide) (by decide) rfl rfl rfl ?h;case hbind=>intro l d;refine e11 (hY d) λa k=>?_;obtain rfl:=k;rfl
 case hp=>exact .cons tN.d .nil
 case h=>
  refine zz.cons (lF.set .int) (vN (λS e=>?_) λ_ _ X=>⟨_,_,_,_,_,_,_,_,_,X _ _ rfl,rfl,rfl,rfl,rfl,rfl,rfl,rfl,rfl,by decide⟩);obtain g:vK S [S0 "a",S0 "b"]:=by
   subst e;exact ⟨λi p r t q l d=>(by refine e21 (jz d) λa b j=>?_;obtain rfl:=j;rfl),by decide,rfl,rfl,rfl,rfl,rfl⟩
  obtain f:x.length<=dK:=by exact ab (by assumption) (by decide)
  obtain c:Ex w S.scope 2 (fn [S0 "a",S0 "b"] [.d (.int 0),.d (.int (x.length:Nat))]++[(S0 "s",.d (.str x)),(S0 "DIGLIM",.d (.int 2048))]) S.body (.ret (II n)):=by
   clear g;subst e;exact Ex.ret (fr ((bQ (bz (al rfl) (al rfl) gK) (al rfl) pN).eq (decide_eq_true (by lia))) (Ex.ret (lF.ret (bZ (.one ((sV (al rfl) (vG.of (al rfl)) (vG.of (al rfl)) f).eq (congrArg da hs))) (iu.int m o)))))
  refine Ex.cons (ie (b:=.tol AnyV) (bX (.consD (bZ (.one (al rfl)) (Bc f)) (.consD .int (.one (al rfl)))) ((vt w x.length (by lia)).le (by decide))) tN.tol rT) ?_;refine Ex.ret (lF.ret (oD rfl g (.consD .int (.one (bZ (.one (al rfl)) (Bc f)))) (.cons tN.d (.cons tN.d .nil)) ?_ c));subst e;exact .cons (.cons .nil rfl rfl (.inr (.inl ⟨rfl,rfl⟩))) rfl rfl (.inr (.inl ⟨rfl,rfl⟩))
noncomputable def Kb (n:Nat):Bool:=
 let x:=dd n
 let y:=wS lL false true x
 let z:=MV y (S0 "_") (S0 "")
 stripSame lL false true x==false && wU z==some (n:Int) && decide (x.length<=640) && decide (y.length<=640) && decide (z.length<=640) && pb z (some 0) (some (z.length:Int))==z
theorem I3:(br 244).all Kb=true:=by decide+kernel
theorem uc (w:ar):OT w 5:=by
 intro v q z;refine e11 (dj q) λn i=>?_;obtain rfl:=i;obtain b:=aT I3 n (KJ (by lia));delta Kb at b;simp only [bN,beq_iff_eq,decide_eq_true_eq] at b;refine e02 b λf j=>?_;clear b;refine e02 f λe k=>?_;clear f;refine e02 e λd l=>?_;clear e;refine e02 d λc y=>?_;clear d;refine e02 c λo m=>?_;clear c;refine' ea (xs:=[S0 "s"]) rfl rfl rfl rfl rfl rfl ?hbind ?hp (by decide) (by decide) (by decide) rfl rfl rfl ?h;case hbind=>intro u p;refine e11 (hY p) λa g=>?_;obtain rfl:=g;rfl
 case hp=>exact .cons tN.d .nil
 case h=>exact Ex.cons (lF.set (AY (x:=wS lL false true (dd n)) (CG (al rfl) (by exact ab (by assumption) (by decide)) o) rfl (by rw [show (S0 "").length=0 from rfl];exact fa1 l))) (Ex.ret (lF.ret (bX (.one (al rfl)) (BD w _ n m k j))))
end
section
open PyProof.Rows
section
section
variable {key:aC->Int}
noncomputable def KK (key:aC->Int) (xs:Array aC) (i:Nat):Int:=match xs[i]? with
 | some p=>key p
 | none=>0
theorem GK:Nonempty bl:=⟨jc tt #[] #[] 7 none⟩
theorem KK.congr {xs ys:Array aC} {i j:Nat} (h:xs[i]?=ys[j]?):KK key xs i=KK key ys j:=by delta KK;rw [h]
noncomputable def qX (key:aC->Int) (xs:Array aC) (lo hi:Nat):Prop:=∀ i j,lo<=i->i<=j->j<hi->KK key xs i<=KK key xs j
noncomputable def wh (lo hi:Nat) (xs ys:Array aC):Prop:=∀ i,i<lo\/hi<=i->ys[i]?=xs[i]?
theorem wh.refl {lo hi:Nat} (xs:Array aC):wh lo hi xs xs:=λ_ _=>rfl
theorem wh.trans {lo hi:Nat} {xs ys zs:Array aC} (x:wh lo hi xs ys) (y:wh lo hi ys zs):wh lo hi xs zs:=λi h=>(y i h).trans (x i h)
structure SB (κ:lO) (a₀:Array aC) (pd:Array (Nat × Nat × Nat)) (st:bl):Prop where
 perm:(aO st).Perm a₀
 kind:kindOf st=κ
 failed:jk st=none
 pend:qu st=pd
theorem SB.size {a:lO} {a₀:Array aC} {pd:Array (Nat × Nat × Nat)} {st:bl} (h:SB a a₀ pd st):(aO st).size=a₀.size:=h.perm.size_eq
theorem SB.set {a:lO} {a₀:Array aC} {pd:Array (Nat × Nat × Nat)} {st:bl} (h:SB a a₀ pd st) {xs:Array aC} (hp:xs.Perm (aO st)):SB a a₀ pd (setArr st xs):=⟨hp.trans h.perm,h.kind,h.failed,h.pend⟩
theorem SB.at {b:lO} {a₀:Array aC} {pd:Array (Nat × Nat × Nat)} {st:bl} (h:SB b a₀ pd st) {i:Nat} (hi:i<a₀.size):∃ p,(aO st)[i]?=some p/\p∈a₀.toList/\KK key (aO st) i=key p:=by
 have a:i<(aO st).size:=by rw [h.size];exact hi
 obtain e:(aO st)[i]?=some (aO st)[i]:=getElem?_pos _ i a;exact i13 _ e ((fT.mp h.perm).mem_iff.mp (by simp)) (by delta KK;rw [e])
noncomputable def kq (M:lM) (A:bj) (E:ae->af->Prop) (s:af) (κ:lO) (key:aC->Int) (a₀:Array aC):Prop:=
 ∀ p q,p∈a₀.toList->q∈a₀.toList->∀ (Q:Option Bool->bl->Prop) (st:bl),kindOf st=κ->Q (some (decide (key p<key q))) st->pg M A E s (lt' p q) Q st
end
namespace Z
structure C where
 M:lM
 A:bj
 E:ae->af->Prop
 s:af
 κ:lO
 key:aC->Int
 a₀:Array aC
noncomputable def ok (c:C):Prop:=kq c.M c.A c.E c.s c.κ c.key c.a₀->∀ (st:bl) (Q:Unit->bl->Prop),SB c.κ c.a₀ #[] st->(∀ st' pd',SB c.κ c.a₀ pd' st'->qX c.key (aO st') 0 c.a₀.size->Q () st')->pg c.M c.A c.E c.s Mt Q st
theorem MH:Nonempty C:=⟨⟨⟨λ_=>.pure (.done .next),default,PC Ge⟩,{},λ_ _=>True,{},tt,λ_=>0,#[]⟩⟩
noncomputable def c:C:=@j4 C MH λc=>¬ ok c
noncomputable def M:lM:=c.M
noncomputable def A:bj:=c.A
noncomputable def E:ae->af->Prop:=c.E
noncomputable def s:af:=c.s
noncomputable def κ:lO:=c.κ
noncomputable def key:aC->Int:=c.key
noncomputable def a₀:Array aC:=c.a₀
end Z
open Z
section
variable {pd:Array (Nat × Nat × Nat)}
theorem dH {arr:Array aC} {i:Nat} {p:aC} {st:bl} {Q:aC->bl->Prop} (h:arr[i]?=some p) (q:Q p st):pg M A E s (elem' arr i) Q st:=by
 rw [elem'_eq,h];exact aY q
theorem pi {st:bl} {i j:Nat} {Q:Option Bool->bl->Prop} (L:kq M A E s κ key a₀) (a:SB κ a₀ pd st) (hi:i<a₀.size) (f:j<a₀.size) (h:Q (some (decide (KK key (aO st) i<KK key (aO st) j))) st):pg M A E s (LJ i j) Q st:=by
 refine e13 (a.at (key:=key) hi) λp k c e=>?_;refine e13 (a.at (key:=key) f) λq g b d=>?_;rw [e,d] at h;exact aG (kE (aG (dH k (aG (dH g (L p q c b _ _ a.kind h))))))
theorem uv {st:bl} {i j:Nat} {Q:Unit->bl->Prop} (h:Q () (setArr st (Oz (aO st) i j ((j - i) / 2)))):pg M A E s (fx i j) Q st:=by
 exact jN h
theorem sR {xs:Array aC} {i j:Nat} (b:j<=xs.size) (k:Nat):KK key (Oz xs i j ((j - i) / 2)) k=if i<=k/\k<j then KK key xs (i+j - 1 - k) else KK key xs k:=by
 obtain e:=Km b k;by_cases a:i<=k/\k<j;·rw [if_pos a] at e ⊢;exact KK.congr e
 ·rw [if_neg a] at e ⊢;exact KK.congr e
theorem ow {xs:Array aC} {lo hi i j:Nat} (hj:j<=xs.size) (h1:lo<=i) (h2:j<=hi):wh lo hi xs (Oz xs i j ((j - i) / 2)):=λk h=>by
 rw [Km hj k,if_neg λe:i<=k/\k<j=>h.elim (λz=>lP.2 (ab h1 e.1) z) λz=>lP.2 (ab h2 z) e.2]
theorem oz {xs:Array aC} {i j:Nat} (b:j<=xs.size) (a:∀ k,i<=k->k<j->KK key xs k=KK key xs (j - 1)) (k:Nat):KK key (Oz xs i j ((j - i) / 2)) k=KK key xs k:=by
 rw [sR b];by_cases z:i<=k/\k<j;·rw [if_pos z,a _ (L0 z.2) (LZ z.1 z.2),a k z.1 z.2]
 ·rw [if_neg z]
noncomputable def H8 (key:aC->Int) (xs:Array aC) (lo hi:Nat):Prop:=∀ i j,lo<=i->i<=j->j<hi->KK key xs j<=KK key xs i
theorem H8.ext {xs ys:Array aC} {lo hi:Nat} (x:H8 key xs lo hi) (e:∀ k,KK key ys k=KK key xs k):H8 key ys lo hi:=λi j c b a=>by rw [e,e];exact x i j c b a
theorem qX.one {xs:Array aC} {lo:Nat}:qX key xs lo (lo+1):=λi j c b a=>by
 have:i=j:=OI c b a;subst this;exact eR _
theorem qX.snoc {xs:Array aC} {lo hi:Nat} (x:qX key xs lo hi) (h:hi<=lo\/KK key xs (hi - 1)<=KK key xs hi):qX key xs lo (hi+1):=λi j b d e=>by
 by_cases c:j<hi;·exact x i j b d c
 ·obtain this:=OJ e c;subst this;by_cases a:i=j;·subst a;exact eR _
  ·obtain l:=cG d a;exact bv (x i (j - 1) b (cW l) (pv l (bU j))) (h.resolve_left λz=>lP.2 (ab z b) l)
theorem H8.snoc {xs:Array aC} {lo hi:Nat} (x:H8 key xs lo hi) (h:hi<=lo\/KK key xs hi<=KK key xs (hi - 1)):H8 key xs lo (hi+1):=λi j b d e=>by
 by_cases c:j<hi;·exact x i j b d c
 ·obtain this:=OJ e c;subst this;by_cases a:i=j;·subst a;exact eR _
  ·obtain l:=cG d a;exact bv (h.resolve_left λz=>lP.2 (ab z b) l) (x i (j - 1) b (cW l) (pv l (bU j)))
noncomputable def sk (lo a nrem:Nat):StateT bl il (Option (Option Nat) × Nat):=
 forIn [a:nrem] ((none,a):Option (Option Nat) × Nat) λ_ __s=>do
  let __x <- LJ (lo+__s.snd) (lo+__s.snd - 1)
  match __x with
  | some smaller=>if smaller=true then pure (j0 (none,__s.snd)) else pure (dG (none,__s.snd+1))
  | _=>pure (j0 (some none,__s.snd))
theorem Gc {st:bl} {lo a nrem:Nat} {Q:Option (Option Nat) × Nat->bl->Prop} (L:kq M A E s κ key a₀) (l:lo+nrem<=a₀.size) (t:1<=a) (f:a<=nrem) (r:SB κ a₀ pd st) (hs:qX key (aO st) lo (lo+a)) (h:∀ n,a<=n->n<=nrem->qX key (aO st) lo (lo+n)->(n=nrem\/KK key (aO st) (lo+n)<KK key (aO st) (lo+n - 1))->Q (none,n) st):pg M A E s (sk lo a nrem) Q st:=by
 refine lN (I:=λx c b=>b=st/\c=(none,x)/\qX key (aO st) lo (lo+x)) ?step ?fin (i03 rfl rfl hs);case fin=>intro c;intro b;intro k;refine e03 k λq p d=>?_;clear k;obtain rfl:=q;obtain rfl:=p;rw [wc f] at d ⊢;exact h nrem f (aq _) d (.inl rfl)
 case step=>
  intro x;intro c;intro b;intro i;intro e;intro j;refine e03 j λo m d=>?_;clear j;obtain rfl:=o;obtain rfl:=m;refine aG (pi L r (lD e l) (yL e l) ?_);by_cases g:KK key (aO b) (lo+x)<KK key (aO b) (lo+x - 1)
  ·simp only [g];exact aY (h x i (aF e) d (.inr g))
  ·simp only [g];exact aY (i03 rfl rfl (d.snoc (.inr (fj g))))
noncomputable def rN (lo n nrem:Nat):StateT bl il (Option (Option Nat) × Nat × Nat):=
 forIn [n:nrem] ((none,n,0):Option (Option Nat) × Nat × Nat) λ_ __s=>do
  let __x <- LJ (lo+__s.snd.fst) (lo+__s.snd.fst - 1)
  match __x with
  | some smaller=>
   if smaller=true then
    if __s.snd.snd>0 then do
     fx (lo+__s.snd.fst - (__s.snd.snd+1)) (lo+__s.snd.fst)
     pure (dG (none,__s.snd.fst+1,0))
    else pure (dG (none,__s.snd.fst+1,0))
   else do
    let __x <- LJ (lo+__s.snd.fst - 1) (lo+__s.snd.fst)
    match __x with
    | some larger=>
     if larger=true then pure (j0 (none,__s.snd.fst,__s.snd.snd))
     else pure (dG (none,__s.snd.fst+1,__s.snd.snd+1))
    | _=>pure (j0 (some none,__s.snd.fst,__s.snd.snd))
  | _=>pure (j0 (some none,__s.snd.fst,__s.snd.snd))
noncomputable def xj (lo n nrem:Nat):StateT bl il (Option Nat):=do
 fx lo (lo+n)
 let __s <- sk lo n nrem
 match __s.fst with
 | some r=>pure r
 | none=>pure (some __s.snd)
noncomputable def rM (lo n nrem:Nat):StateT bl il (Option Nat):=do
 liftM (rule "list.sort.descending-run")
 let __s <- rN lo (n+1) nrem
 match __s.fst with
 | some r=>pure r
 | none=>
  if __s.snd.snd>0 then do
   fx (lo+__s.snd.fst - (__s.snd.snd+1)) (lo+__s.snd.fst)
   xj lo __s.snd.fst nrem
  else xj lo __s.snd.fst nrem
theorem E0 (lo nrem:Nat):countRun' lo nrem=(do
  let b <- sk lo 1 nrem
  match b.fst with
  | some r=>pure r
  | none=>
   if (b.snd==nrem)=true then pure (some b.snd)
   else if b.snd>1 then do
    let j <- LJ lo (lo+b.snd - 1)
    match j with
    | some e=>if e=true then pure (some b.snd) else do
      fx lo (lo+b.snd)
      rM lo b.snd nrem
    | _=>pure none
   else rM lo b.snd nrem):=by
 revert lo nrem
 intros lo nrem
 rw [countRun'_eq]
 refine congrArg (sk lo 1 nrem>>=·) (funext λx=>?_)
 obtain ⟨r,n⟩:=x
 cases r with
 | some r=>rfl
 | none=>
  obtain g:∀ (m:Nat) (f:Option (Option Nat) × Nat->StateT bl il (Option Nat)),(∀ r p,f (some r,p)=pure r)->(∀ p,f (none,p)=pure (some p))->(fx lo (lo+m)>>=λ_=>sk lo m nrem>>=f)=xj lo m nrem:=λm f i h=>
   congrArg (fx lo (lo+m)>>=·) (funext λ_=>congrArg (sk lo m nrem>>=·) (funext λx=>by
    obtain ⟨r,n⟩:=x;cases r with
    | some r=>exact i r n
    | none=>exact h n))
  have dn:∀ f:(Option (Option Nat) × Nat × Nat)->StateT bl il (Option Nat),(∀ (r:Option Nat) (p:Nat × Nat),f (some r,p)=pure r)->(∀ m q,f (none,m,q)=if q>0 then (fx (lo+m - (q+1)) (lo+m)>>=λ_=>xj lo m nrem) else xj lo m nrem)->(liftM (rule "list.sort.descending-run")>>=λ_=>rN lo (n+1) nrem>>=f)=rM lo n nrem:=λf i h=>
   congrArg (liftM (rule "list.sort.descending-run")>>=·) (funext λ_=>congrArg (rN lo (n+1) nrem>>=·) (funext λx=>by
    obtain ⟨r,m,q⟩:=x;cases r with
    | some r=>exact i r (m,q)
    | none=>exact h m q))
  dsimp only;refine ite_congr rfl (λ_=>rfl) λ_=>?_;refine ite_congr rfl (λ_=>?_) λ_=>?_
  ·refine congrArg (LJ lo (lo+n - 1)>>=·) (funext ?_);intros x;cases x with
   | none=>rfl
   | some e=>refine ite_congr rfl (λ_=>rfl) λ_=>?_;refine congrArg (fx lo (lo+n)>>=·) (funext λ_=>?_);exact dn _ (λr p=>rfl) λm q=>ite_congr rfl (λ_=>congrArg (fx _ _>>=·) (funext λ_=>g m _ (λr p=>rfl) λp=>rfl)) λ_=>g m _ (λr p=>rfl) λp=>rfl
  ·exact dn _ (λr p=>rfl) λm q=>ite_congr rfl (λ_=>congrArg (fx _ _>>=·) (funext λ_=>g m _ (λr p=>rfl) λp=>rfl)) λ_=>g m _ (λr p=>rfl) λp=>rfl
theorem zI {st:bl} {lo n nrem:Nat} {Q:Option Nat->bl->Prop} (L:kq M A E s κ key a₀) (p:lo+nrem<=a₀.size) (h1:1<=n) (e:n<=nrem) (q:SB κ a₀ pd st) (hs:H8 key (aO st) lo (lo+n)) (h:∀ m d,SB κ a₀ pd d->wh lo (lo+nrem) (aO st) (aO d)->1<=m->m<=nrem->qX key (aO d) lo (lo+m)->Q (some m) d):pg M A E s (xj lo n nrem) Q st:=by
 obtain g:lo+n<=(aO st).size:=by rw [q.size];exact sE e p
 obtain f:=q.set (zE (aO st) lo (lo+n) ((lo+n - lo) / 2));refine aG (uv (aG (Gc L p h1 e f (λi j a b c=>?_) λm o l k _=>aY (h m _ f (ow g (aq _) (aL e lo)) (ab h1 o) l k))));rw [sR g,sR g,if_pos ⟨a,aR b c⟩,if_pos ⟨ab a b,c⟩];exact hs _ _ (L0 c) (r5 b _) (LZ a (aR b c))
theorem Gd {st:bl} {lo n nrem:Nat} {Q:Option (Option Nat) × Nat × Nat->bl->Prop} (L:kq M A E s κ key a₀) (t:lo+nrem<=a₀.size) (h1:1<=n) (r:n<=nrem) (H:SB κ a₀ pd st) (hs:H8 key (aO st) lo (lo+n)) (h:∀ m q d,SB κ a₀ pd d->wh lo (lo+nrem) (aO st) (aO d)->n<=m->m<=nrem->H8 key (aO d) lo (lo+m)->q+1<=m->(∀ i,lo+m - (q+1)<=i->i<lo+m->KK key (aO d) i=KK key (aO d) (lo+m - 1))->Q (none,m,q) d):pg M A E s (rN lo n nrem) Q st:=by
 refine lN (I:=λx c d=>∃ q,c=(none,x,q)/\SB κ a₀ pd d/\wh lo (lo+nrem) (aO st) (aO d)/\H8 key (aO d) lo (lo+x)/\q+1<=x/\(∀ i,lo+x - (q+1)<=i->i<lo+x->KK key (aO d) i=KK key (aO d) (lo+x - 1))) ?step ?fin (i16 0 rfl H (wh.refl _) hs h1 (λi a b=>congrArg (KK key _) (bB (cW b) a)));case fin=>intro c;intro d;intro z;refine e16 z λq G e k g j l=>?_;clear z;obtain rfl:=G;rw [wc r] at g j l ⊢;exact h nrem q d e k r (aq _) g j l
 case step=>
  intro x;intro c;intro d;intro w;intro f;intro y;refine e16 y λq F e k g j l=>?_;clear y;obtain rfl:=F;obtain B:lo+x<=(aO d).size:=by rw [e.size];exact sE (aF f) t
  refine aG (pi L e (lD f t) (yL f t) ?_);dsimp only;by_cases u:KK key (aO d) (lo+x)<KK key (aO d) (lo+x - 1)
  ·simp only [u,decide_true,if_true];obtain o:=g.snoc (.inr (bT u));by_cases p:q>0
   ·rw [if_pos p];exact aG (uv (aY (i16 0 rfl (e.set (zE _ _ _ _)) (k.trans (ow B (et (aL j lo)) (aL (aF f) lo))) (o.ext (oz B l)) (dL (aM x)) (λi a b=>congrArg (KK key _) (bB (cW b) a)))))
   ·rw [if_neg p];exact aY (i16 0 rfl e k o (dL (aM x)) (λi a b=>congrArg (KK key _) (bB (cW b) a)))
  ·simp only [u];refine aG (pi L e (yL f t) (lD f t) ?_);by_cases v:KK key (aO d) (lo+x - 1)<KK key (aO d) (lo+x)
   ·simp only [v];exact aY (h x q d e k w (aF f) g j l)
   ·simp only [v];obtain C:=fC (fj v) (fj u);refine aY (i16 (q+1) rfl e k (g.snoc (.inr (jE C))) (dL j) (λi a b=>?_));rw [show lo+(x+1) - 1=lo+x from rfl];by_cases D:i=lo+x;·subst D;rfl
    ·rw [C];exact l i (ab (aj (Nat.succ_sub_succ (lo+x) (q+1)).symm) a) (cG (cX b) D)
theorem ro {st:bl} {lo n nrem:Nat} {Q:Option Nat->bl->Prop} (L:kq M A E s κ key a₀) (g:lo+nrem<=a₀.size) (j:n+1<=nrem) (w:SB κ a₀ pd st) (hs:H8 key (aO st) lo (lo+(n+1))) (h:∀ m a,SB κ a₀ pd a->wh lo (lo+nrem) (aO st) (aO a)->1<=m->m<=nrem->qX key (aO a) lo (lo+m)->Q (some m) a):pg M A E s (rM lo n nrem) Q st:=by
 refine aG (nj (eT ⟨rfl,aG (Gd L g (kQ n) j w hs λm q a d t l b e u v=>?_)⟩));have r:lo+m<=(aO a).size:=by rw [d.size];exact sE b g
 obtain p:=ab (kQ n) l;by_cases f:q>0
 ·rw [if_pos f];exact aG (uv (zI L g p b (d.set (zE _ _ _ _)) (e.ext (oz r v)) λk c o i=>h k c o (t.trans ((ow r (et (aL u lo)) (aL b lo)).trans i))))
 ·rw [if_neg f];exact zI L g p b d e λk c o i=>h k c o (t.trans i)
theorem yo {st:bl} {lo nrem:Nat} {Q:Option Nat->bl->Prop} (L:kq M A E s κ key a₀) (t:lo+nrem<=a₀.size) (h1:1<=nrem) (r:SB κ a₀ pd st) (h:∀ m l,SB κ a₀ pd l->wh lo (lo+nrem) (aO st) (aO l)->1<=m->m<=nrem->qX key (aO l) lo (lo+m)->Q (some m) l):pg M A E s (countRun' lo nrem) Q st:=by
 rw [E0];refine aG (Gc L t (aq 1) h1 r qX.one λn p d o y=>?_);by_cases f:n=nrem
 ·rw [if_pos (beq_iff_eq.mpr f)];exact aY (h n st r (wh.refl _) p d o)
 ·rw [if_neg (λe=>f (bE e))];obtain v:=y.resolve_left f;by_cases q:n>1
  ·rw [if_pos q];refine aG (pi L r (aw (ik h1) t) (aw (eK (aw p (dC n lo)) df) (sE d t)) ?_);by_cases x:KK key (aO st) lo<KK key (aO st) (lo+n - 1)
   ·simp only [x];exact aY (h n st r (wh.refl _) p d o)
   ·simp only [x];have z:lo+n<=(aO st).size:=by rw [r.size];exact sE d t
    have g:∀ k,lo<=k->k<lo+n->KK key (aO st) k=KK key (aO st) (lo+n - 1):=λk a b=>by
     exact fC (o k (lo+n - 1) a (cW b) (eK (uj b) df)) (bv (fj x) (o lo k (aq _) a b))
    obtain C:H8 key (aO st) lo (lo+n):=λi j a b c=>by rw [g i a (aR b c),g j (ab a b) c];exact eR _
    exact aG (uv (ro L t (cG d f) (r.set (zE _ _ _ _)) ((C.snoc (.inr (bT v))).ext (oz z g)) λk w D B=>h k w D ((ow z (aq _) (aL d lo)).trans B)))
  ·rw [if_neg q];obtain u:=bB (ba q) p;subst u;exact ro L t (cG d f) r (H8.snoc (λi j a b c=>by
    obtain this:=OI a b c;subst this;exact eR _) (.inr (bT v))) h
end
end
noncomputable def I5:Bool->aC->Array aC->Nat->Nat->Nat->StateT bl il (Option Nat):=sortPriv% PySem.Builtin.gallop
noncomputable def u8:Array aC->Array aC->StateT bl il (Array aC):=sortPriv% PySem.Builtin.mergeLo
noncomputable def u9:Array aC->Array aC->StateT bl il (Array aC):=sortPriv% PySem.Builtin.mergeHi
theorem Hh {l r n:Nat} (h:l<=r) (m:r - l<=n - max 0 n):l=r:=bB h (De.1 (Nat.le_zero.1 (ab m (aj (Ek (wd 0 n))))))
theorem LY {l m r n x:Nat} (a:l<=m) (b:m<r) (h:r - l<=n - x):m - l<=n - (x+1):=cW (aw (FE a b) h)
theorem LX {l m r n x:Nat} (a:l<=m) (h:r - l<=n - x):r - (m+1)<=n - (x+1):=JR (ab (r5 a r) h)
section
open Z
variable {pd:Array (Nat × Nat × Nat)}
theorem xS {xs:Array aC} {a d:Nat} (hs:a<xs.size) (b:d<=a) (k:Nat):KK key (OD xs a d) k=if k=a - d then KK key xs a else if a - d<k/\k<=a then KK key xs (k - 1) else KK key xs k:=by
 obtain e:=Ni hs d b k;split at e;·rw [if_pos ‹_›];exact KK.congr e
 ·rw [if_neg ‹_›];split at e;·rw [if_pos ‹_›];exact KK.congr e
  ·rw [if_neg ‹_›];exact KK.congr e
theorem Iu {st:bl} {lo n C:Nat} {Q:Bool->bl->Prop} (L:kq M A E s κ key a₀) (V:lo+n<=a₀.size) (U:C<=n) (hB:SB κ a₀ R st) (hs:qX key (aO st) lo (lo+C)) (h:∀ d,SB κ a₀ R d->wh lo (lo+n) (aO st) (aO d)->qX key (aO d) lo (lo+n)->Q true d):pg M A E s (binarySort' lo n C) Q st:=by
 revert L V U hB hs h;revert R st lo n C Q;intros R st lo n C Q;intro L V U hB hs h;refine aG (jj (lN (I:=λk c d=>c=(none,())/\SB κ a₀ R d/\wh lo (lo+n) (aO st) (aO d)/\qX key (aO d) lo (lo+min k n)) (Q:=λc d=>c=(none,())/\SB κ a₀ R d/\wh lo (lo+n) (aO st) (aO d)/\qX key (aO d) lo (lo+n)) ?step ?fin ?KO) ?post);case post=>intro c;intro d;intro z0;refine e04 z0 λz6 y h3 Z=>?_;clear z0;obtain rfl:=z6;exact aY (h d y h3 Z)
 case KO=>
  refine i04 rfl hB (wh.refl _) (λi j a b c=>?_);by_cases y:C=0
  ·obtain this:=bB b (ab (cX (aw c (aL (ab (mX _ _) (tu.2 ⟨y▸aM 1,aq 1⟩)) lo))) a);subst this;exact eR _
  ·exact hs i j a b (aw c (aL (ab (mX _ _) (tu.2 ⟨aq C,iC y⟩)) lo))
 case fin=>intro c;intro d;intro z1;refine e04 z1 λhc y h3 Z=>?_;clear z1;replace Z:=(fS (wd (max C 1) n))▸Z;exact i04 hc y h3 Z
 case step=>
  intro k;intro c;intro d;intro a2;intro t;intro z2;refine e04 z2 λz7 O ho o=>?_;clear z2;obtain rfl:=z7;replace o:=(dB (aF t))▸o;refine aG (jj (lN (I:=λx c f=>f=d/\∃ l r,c=(none,l,r)/\l<=r/\r<=k/\r - l<=k - x/\(∀ i,i<l->KK key (aO d) (lo+i)<=KK key (aO d) (lo+k))/\(∀ i,r<=i->i<k->KK key (aO d) (lo+k)<KK key (aO d) (lo+i)))
   (Q:=λc f=>f=d/\∃ l r,c=(none,l,r)/\l<=k/\(∀ i,i<l->KK key (aO d) (lo+i)<=KK key (aO d) (lo+k))/\(∀ i,l<=i->i<k->KK key (aO d) (lo+k)<KK key (aO d) (lo+i))) ?istep ?ifin ?iinit) ?ipost)
  case iinit=>exact ⟨rfl,0,k,rfl,aM _,aq _,aq _,λi K=>absurd K (qh _),λi a b=>absurd b (bD a)⟩
  case ifin=>intro c;intro f;intro z3;obtain ⟨rfl,l,r,rfl,F,v,hm,q,u⟩:=z3;have:l=r:=Hh F hm;subst this;exact ⟨rfl,l,l,rfl,v,q,u⟩
  case istep=>
   intro x;intro c;intro f;intro _;intro a1;intro z4;obtain ⟨rfl,l,r,rfl,F,v,hm,q,u⟩:=z4;dsimp only;by_cases B:l>=r
   ·rw [if_pos B];obtain this:=bB F B;subst this;exact aY ⟨rfl,l,l,rfl,v,q,u⟩
   ·rw [if_neg B];refine e02 (O6 (ij B)) λy h2=>?_;generalize (l+r) / 2=m at y h2;have D:=aw h2 v;refine aG (pi L O (lD t V) (lD (nl D t) V) ?_);by_cases g:KK key (aO f) (lo+k)<KK key (aO f) (lo+m)
    ·simp only [g];exact aY ⟨rfl,l,m,rfl,y,aF D,LY y h2 hm,q,λi a b=>iF g (o _ _ (aI lo m) (aL a lo) (cy b lo))⟩
    ·simp only [g];exact aY ⟨rfl,m+1,r,rfl,h2,v,LX y hm,λi a=>bv (o (lo+i) (lo+m) (aI lo i) (aL (cX a) lo) (cy D lo)) (fj g),u⟩
  case ipost=>
   intro c;intro f;intro z5;obtain ⟨rfl,l,r,rfl,G,q,u⟩:=z5;refine (?_:pg _ _ _ _ (do moveDown' (lo+k) (lo+l);pure (dG (none,()))) _ _);have H:lo+k<(aO f).size:=by rw [O.size];exact lD t V
   have hd:=FM lo k l;have X:lo+k - (k - l)=lo+l:=by rw [Ih (fU k l),Nat.sub_sub_self G]
   obtain N:=ab (fU k l) (dC k lo);refine aG (jN (aY (i04 rfl (O.set (bubble_perm _ _ _)) (ho.trans λi K=>?_) ?_)))
   ·refine (?_:(OD (aO f) (lo+k) (lo+k - (lo+l)))[i]?=_);obtain hx:=λa b=>K.elim (λh=>lP.2 (ab (aI lo l) a) h) λh=>lP.2 h (aR b (cy t lo));rw [hd,Ni H _ N,X,if_neg λe:i=lo+l=>hx (aj e.symm) (e▸aL G lo),if_neg λe:lo+l<i/\i<=lo+k=>hx (aF e.1) e.2]
   rw [dB t];intro i j K w J;refine (?_:KK key (OD (aO f) (lo+k) (lo+k - (lo+l))) i<=KK key (OD (aO f) (lo+k) (lo+k - (lo+l))) j);obtain W:∀ i,lo<=i->i<lo+l->KK key (aO f) i<=KK key (aO f) (lo+k):=λi a b=>by
    obtain this:=q (i - lo) (lY a b);rwa [bo a] at this
   obtain Y:∀ i,lo+l<=i->i<lo+k->KK key (aO f) (lo+k)<KK key (aO f) i:=λi a b=>by
    obtain this:=u (i - lo) (yN a) (lY (ab (aI lo l) a) b);rwa [bo (ab (aI lo l) a)] at this
   rw [hd,xS H N,xS H N,X];by_cases ei:i=lo+l
   ·rw [if_pos ei];by_cases P:j=lo+l;·rw [if_pos P];exact eR _
    ·obtain p:=cG (ei▸w) λz=>P z.symm;rw [if_neg P,if_pos ⟨p,cX J⟩];exact bT (Y _ (cW p) (pv p J))
   ·rw [if_neg ei];by_cases T:lo+l<i
    ·obtain p:=aw T w;rw [if_pos ⟨T,cX (aR w J)⟩,if_neg (ed p),if_pos ⟨p,cX J⟩];exact o _ _ (ab (aI lo l) (cW T)) (JR w) (pv p J)
    ·obtain S:=cG (ba T) ei;rw [if_neg λz=>T z.1];by_cases P:j=lo+l;·rw [if_pos P];exact W _ K S
     ·rw [if_neg P];by_cases p:lo+l<j
      ·rw [if_pos ⟨p,cX J⟩];exact o _ _ K (cW (nl S p)) (pv p J)
      ·obtain a0:=cG (ba p) P;rw [if_neg λz=>p z.1];exact o _ _ K w (aw a0 (aL G lo))
noncomputable def AI (left:Bool) (key:aC->Int) (p:aC) (x:Int):Bool:=if left=true then decide (x<key p) else decide (x<=key p)
noncomputable abbrev wO (left:Bool) (key:aC->Int) (p:aC) (x:Int):Prop:=AI left key p x=true
theorem wO.mono {left:Bool} {p:aC} {x y:Int} (h:wO left key p y) (k:x<=y):wO left key p x:=by
 cases left;·exact decide_eq_true (bv k (of_decide_eq_true h))
 ·exact decide_eq_true (fh k (of_decide_eq_true h))
noncomputable def NR (left:Bool) (p:aC) (arr:Array aC) (i:Nat):StateT bl il (Option Bool):=do
 let x <- elem' arr i
 if left=true then lt' x p else do
  let r <- lt' p x
  pure (r.map (!·))
theorem yq {left:Bool} {p:aC} {arr:Array aC} {i:Nat} {st:bl} {Q:Option Bool->bl->Prop} (L:kq M A E s κ key a₀) (b:kindOf st=κ) (hp:p∈a₀.toList) (d:∀ x∈arr.toList,x∈a₀.toList) (hi:i<arr.size) (h1:wO left key p (KK key arr i)->Q (some true) st) (h2:¬ wO left key p (KK key arr i)->Q (some false) st):pg M A E s (NR left p arr i) Q st:=by
 obtain e:arr[i]?=some arr[i]:=getElem?_pos _ i hi;obtain a:arr[i]∈a₀.toList:=d _ (by simp);rw [(show KK key arr i=key arr[i] from by delta KK;rw [e])] at h1 h2;delta wO AI at h1 h2;refine aG (dH e ?_);cases left with
 | true=>
  rw [if_pos rfl] at h1 h2 ⊢;refine L _ _ a hp _ _ b ?_;by_cases c:key arr[i]<key p;·rw [decide_eq_true c];exact h1 (decide_eq_true c)
  ·rw [decide_eq_false c];exact h2 (by rw [decide_eq_false c];decide)
 | false=>
  rw [if_neg bb] at h1 h2 ⊢;refine aG (L _ _ hp a _ _ b (aY ?_));by_cases c:key p<key arr[i];·rw [decide_eq_true c];exact h2 (by rw [decide_eq_false (jt.mpr c)];decide)
  ·rw [decide_eq_false c];exact h1 (decide_eq_true (fj c))
theorem Dn {left:Bool} {p:aC} {arr:Array aC} {base n lo hi:Nat} {st:bl} {Q:Option (Option Nat) × Nat × Nat->bl->Prop} (L:kq M A E s κ key a₀) (J:kindOf st=κ) (hp:p∈a₀.toList) (K:∀ x∈arr.toList,x∈a₀.toList) (H:base+n<=arr.size) (hs:qX key arr base (base+n))
  (h1:lo<=hi) (h2:hi<=n) (B:∀ i,i<lo->wO left key p (KK key arr (base+i))) (C:∀ i,hi<=i->i<n->¬ wO left key p (KK key arr (base+i)))
  (h:∀ lo k,k<=n->(∀ i,i<k->wO left key p (KK key arr (base+i)))->(∀ i,k<=i->i<n->¬ wO left key p (KK key arr (base+i)))->Q (none,lo,k) st):
  pg M A E s (forIn [0:n] ((none,lo,hi):Option (Option Nat) × Nat × Nat) λ_ t=>if t.2.1>=t.2.2 then pure (.done (none,t.2.1,t.2.2)) else NR left p arr (base+(t.2.1+(t.2.2 - t.2.1) / 2))>>=λr=>match r with
   | some j=>if j=true then pure (.yield (none,t.2.1+(t.2.2 - t.2.1) / 2+1,t.2.2)) else pure (.yield (none,t.2.1,t.2.1+(t.2.2 - t.2.1) / 2))
   | _=>pure (.done (some none,t.2.1,t.2.2))) Q st:=by
 refine lN (I:=λx c f=>f=st/\∃ l r,c=(none,l,r)/\l<=r/\r<=n/\r - l<=n - x/\(∀ i,i<l->wO left key p (KK key arr (base+i)))/\(∀ i,r<=i->i<n->¬ wO left key p (KK key arr (base+i)))) ?step ?fin ⟨rfl,lo,hi,rfl,h1,h2,ab (fU _ _) h2,B,C⟩
 case fin=>intro c;intro f;intro G;obtain ⟨rfl,l,r,rfl,g,d,v,y,w⟩:=G;obtain this:=Hh g v;subst this;exact h _ l d y w
 case step=>
  intro x;intro c;intro f;intro _;intro N;intro F;obtain ⟨rfl,l,r,rfl,g,d,v,y,w⟩:=F;by_cases e:l>=r
  ·rw [if_pos e];obtain this:=bB g e;subst this;exact aY (h _ l d y w)
  ·rw [if_neg e];refine e02 (NK (ij e)) λu o=>?_;generalize l+(r - l) / 2=m at u o;have z:=aw o d;have D:=aI base;refine aG (yq L J hp K (lD z H) (λc=>?_) λc=>?_);·exact aY ⟨rfl,m+1,r,rfl,o,d,LX u v,λi a=>c.mono (hs _ _ (D i) (aL (cX a) base) (cy z base)),w⟩
   ·exact aY ⟨rfl,l,m,rfl,u,aF z,LY u o v,y,λi a b q=>c (q.mono (hs _ _ (D m) (aL a base) (cy b base)))⟩
theorem ON {x o:Nat} (h:x<=o):x<2*o+1:=Nat.lt_succ_of_le (ab h (Nat.le_mul_of_pos_left o (by decide)))
theorem uR {left:Bool} {p:aC} {arr:Array aC} {base n mx:Nat} {up:Bool} {at_:Nat->Nat} {st:bl} {Q:Option (Option Nat) × Nat × Nat->bl->Prop} (L:kq M A E s κ key a₀) (G:kindOf st=κ) (hp:p∈a₀.toList) (H:∀ x∈arr.toList,x∈a₀.toList) (F:base+n<=arr.size) (u:mx<=n) (h0:0<mx) (v:∀ i,i<mx->at_ i<n)
  (hs:AI left key p (KK key arr (base+at_ 0))=up)
  (h:∀ l o,l<mx->l<o->AI left key p (KK key arr (base+at_ l))=up->(mx<=o\/AI left key p (KK key arr (base+at_ o))=!up)->Q (none,l,o) st):
  pg M A E s (forIn [0:n] ((none,0,1):Option (Option Nat) × Nat × Nat) λ_ t=>if t.2.2>=mx then pure (.done (none,t.2.1,t.2.2)) else NR left p arr (base+at_ t.2.2)>>=λr=>match r with
   | some f=>if (if up then !f else f)=true then pure (.done (none,t.2.1,t.2.2)) else pure (.yield (none,t.2.2,2*t.2.2+1))
   | _=>pure (.done (some none,t.2.1,t.2.2))) Q st:=by
 refine lN (I:=λx c st'=>st'=st/\∃ l o,c=(none,l,o)/\l<mx/\l<o/\x<o/\AI left key p (KK key arr (base+at_ l))=up) ?step ?fin ⟨rfl,0,1,rfl,h0,df,df,hs⟩
 case fin=>intro c;intro st';intro D;obtain ⟨rfl,l,o,rfl,q,j,w,g⟩:=D;exact h l o q j g (.inl (ab u (aF (aR (wd 0 n) w))))
 case step=>
  intro x;intro c;intro st';intro _;intro J;intro C;obtain ⟨rfl,l,o,rfl,q,j,w,g⟩:=C;by_cases b:o>=mx
  ·rw [if_pos b];exact aY (h l o q j g (.inl b))
  ·rw [if_neg b];obtain B:∀ m,AI left key p (KK key arr (base+at_ o))=m->pg M A E s (if (if up then !m else m)=true then pure (j0 (none,l,o)) else pure (dG (none,o,2*o+1)):StateT bl il (ForInStep (Option (Option Nat) × Nat × Nat))) (λr d=>match r with | .done y=>Q y d | .yield y=>d=st'/\∃ l o,y=(none,l,o)/\l<mx/\l<o/\x+1<o/\AI left key p (KK key arr (base+at_ l))=up) st':=λm z=>by
    by_cases e:m=up
    ·rw [if_neg (by subst e;cases m <;>decide)];exact aY ⟨rfl,o,2*o+1,rfl,ij b,ON (aq o),ON w,z.trans e⟩
    ·rw [if_pos (by cases m <;>cases up <;>trivial)];exact aY (h l o q j g (.inr (z.trans (by cases m <;>cases up <;>simp at e ⊢))))
   exact aG (yq L G hp H (lD (v o (ij b)) F) (λc=>jj (B true c) λr _ h=>by cases r <;>exact h) λc=>jj (B false (nV.mpr c)) λr _ h=>by cases r <;>exact h)
theorem kI {left:Bool} {p:aC} {arr:Array aC} {base n hint:Nat} {st:bl} {Q:Option Nat->bl->Prop} (L:kq M A E s κ key a₀) (m:kindOf st=κ) (hp:p∈a₀.toList) (r:∀ x∈arr.toList,x∈a₀.toList) (g:base+n<=arr.size) (f:hint<n) (hs:qX key arr base (base+n)) (h:∀ k,k<=n->(∀ i,i<k->wO left key p (KK key arr (base+i)))->(∀ i,k<=i->i<n->¬ wO left key p (KK key arr (base+i)))->Q (some k) st):pg M A E s (I5 left p arr base n hint) Q st:=by
 have e:∀ i j,i<=j->j<n->wO left key p (KK key arr (base+j))->wO left key p (KK key arr (base+i)):=λi j a b c=>c.mono (hs _ _ (aI base i) (aL a base) (cy b base));refine aG (yq L m hp r (i:=base+hint) (lD f g) (λc=>?_) λc=>?_)
 ·have t:∀ i,i<n - hint->hint+i<n:=λi a=>lr a;refine aG (uR (up:=true) (at_:=λi=>hint+i) (mx:=n - hint) L m hp r g (fU _ _) (gz f) t c λl o u F D d=>?_);have I:=D;refine aG (Dn L m hp r g hs (lo:=hint+l+1) (hi:=hint+min o (n - hint)) (cy (OF.2 ⟨F,u⟩) hint) (ab (aL (eo _ _) hint) (aj (bo (aF f)))) (λi a=>e _ _ (cX a) (t l u) I) (λi a b q=>?_) λw k C B y=>aY (h k C B y));rcases d with d | d
  ·rw [fS d,bo (aF f)] at a;exact lP.2 a b
  ·by_cases z:o<=n - hint
   ·replace a:=(dB z)▸a;exact nV.mp d (e _ _ a b q)
   ·rw [fS (Nat.le_of_not_le z),bo (aF f)] at a;exact lP.2 a b
 ·have G:=λi=>aR (fU hint i) f;refine aG (uR (up:=false) (at_:=λi=>hint - i) (mx:=hint+1) L m hp r g f (kQ hint) (λi _=>G i) (nV.mpr c) λl o u F D d=>?_);have v:hint+1 - min o (hint+1)<=hint - l:=by
   rw [<- Nat.add_sub_add_right hint 1 l];exact r5 (OF.2 ⟨F,u⟩) _
  refine aG (Dn L m hp r g hs (lo:=hint+1 - min o (hint+1)) (hi:=hint - l) v (aF (G l)) (λi a=>?_) (λi a b q=>(nV.mp D) (e _ _ a b q)) λw k C B y=>aY (h k C B y));obtain H:hint+1<=o->False:=λz=>by
   rw [fS z,Nat.sub_self] at a;exact qh _ a
  rcases d with d | d;·exact (H d).elim
  ·have z:=ba H;rw [dB (gC z),Nat.succ_sub z] at a;exact e _ _ (cX a) (G o) d
end
section
variable {key:aC->Int}
noncomputable abbrev Pw (key:aC->Int) (l:List aC):Prop:=l.Pairwise λp q=>key p<=key q
noncomputable def fe (key:aC->Int) (x y:List aC):Prop:=∀ p∈x,∀ q∈y,key p<=key q
theorem sC {x y:List aC}:Pw key (x++y)↔Pw key x/\Pw key y/\fe key x y:=qI
structure MI (key:aC->Int) (o x y t:List aC):Prop where
 perm:(o++x++y).Perm t
 so:Pw key o
 sx:Pw key x
 sy:Pw key y
 ox:fe key o x
 oy:fe key o y
theorem MI.swap {o x y t:List aC} (h:MI key o x y t):MI key o y x t:=⟨by
 refine Py ?_ h.perm;rw [bq,bq];exact yj o ql,h.so,h.sy,h.sx,h.oy,h.ox⟩
theorem MI.left {o c x y t:List aC} (h:MI key o (c++x) y t) (k:fe key c y):MI key (o++c) x y t:=by
 refine e03 (sC.mp h.sx) λf e d=>?_;refine ⟨by rw [bq o c x];exact h.perm,sC.mpr ⟨h.so,f,λp a q b=>h.ox p a q (bG _ b)⟩,e,h.sy,λp a q b=>?_,λp a q b=>?_⟩
 ·rcases mA a with a | a;·exact h.ox p a q (aW _ b)
  ·exact d p a q b
 ·rcases mA a with a | a;·exact h.oy p a q b
  ·exact k p a q b
theorem MI.right {o c x y t:List aC} (h:MI key o x (c++y) t) (k:fe key c x):MI key (o++c) x y t:=(h.swap.left k).swap
noncomputable def Rz (key:aC->Int) (t r:List aC):Prop:=r.Perm t/\Pw key r
theorem MI.endX {o x t:List aC} (h:MI key o x [] t):Rz key t (o++x):=⟨by simpa using h.perm,sC.mpr (i03 h.so h.sx h.ox)⟩
theorem MI.endXY {o x y t:List aC} (h:MI key o x y t) (k:fe key y x):Rz key t (o++y++x):=by
 exact ((show MI key o x (y++[]) t from by rw [bp];exact h).right k).endX
theorem yR {p:aC} {x:List aC} (h:Pw key (p::x)):fe key [p] (p::x):=λa d b c=>by
 rw [mS d];rcases mC c with rfl | c;·exact eR _
 ·exact (sd.mp h).1 b c
theorem l8 {p q:aC} {y:List aC} (h:key p<=key q) (k:fe key [q] y):fe key [p] y:=λa d b c=>by
 rw [mS d];exact bv h (k q (L1 rfl) b c)
theorem mP {xs:Array aC} {i:Nat} (h:i<xs.size):KK key xs i=key xs[i]:=by delta KK;rw [getElem?_pos xs i h]
theorem pW {xs:Array aC} {lo hi:Nat} (h:Pw key xs.toList) (d:hi<=xs.size):qX key xs lo hi:=λi j a b c=>by
 rw [mP (aw (aR b c) d),mP (aw c d)];by_cases e:i=j;·subst e;exact eR _
 ·obtain this:=gl.mp h i j (by exact aw (aR b c) d) (by exact aw c d) (cG b e);simpa using this
theorem xu {xs:Array aC} (h:qX key xs 0 xs.size):Pw key xs.toList:=by
 refine gl.mpr λi j d c a=>?_;obtain b:j<xs.size:=by simpa using c
 obtain this:=h i j (aM _) (aF a) b;rw [mP (by simpa using d),mP b] at this;trivial
theorem me {xs:Array aC} {i:Nat} (h:i<xs.size):xs.toList.drop i=xs[i]::xs.toList.drop (i+1):=by
 rw [jD (by trivial)];rfl
theorem wO.le {left:Bool} {p:aC} {x:Int} (h:wO left key p x):x<=key p:=by
 cases left;·exact of_decide_eq_true h
 ·exact bT (of_decide_eq_true h)
theorem zg {left:Bool} {p:aC} {x:Int} (h:¬ wO left key p x):key p<=x:=by
 cases left;·exact bT (jt.mp λq=>h (decide_eq_true q))
 ·exact fj λq=>h (decide_eq_true q)
theorem DW {xs:Array aC} {i:Nat}:(xs.extract i).toList=xs.toList.drop i:=by
 rw [lQ,nL,ix (by simp)]
theorem NM {o a b:Array aC} {i j:Nat}:(o++a.extract i++b.extract j).toList=o.toList++a.toList.drop i++b.toList.drop j:=by
 rw [dQ,dQ,DW,DW]
theorem kJ {xs:Array aC} {i k:Nat}:(xs.extract i (i+k)).toList=(xs.toList.drop i).take k:=by
 rw [lQ,nL,dI]
theorem GV {xs:Array aC} {i:Nat} {q:aC} (h:q∈xs.toList.drop i):∃ j,i+j<xs.size/\KK key xs (i+j)=key q:=by
 obtain ⟨j,b,rfl⟩:=Eo.mp h;have a:i+j<xs.size:=by simp at b;exact lr b
 exact i12 j a (by rw [mP a];simp)
theorem om {xs:Array aC} {i k:Nat} {q:aC} (h:q∈(xs.toList.drop i).take k):∃ j,j<k/\i+j<xs.size/\KK key xs (i+j)=key q:=by
 obtain ⟨j,a,rfl⟩:=Eo.mp h;obtain b:j<k/\i+j<xs.size:=by simp at a;exact ⟨aw a (mX _ _),lr (aw a (eo _ _))⟩
 exact i13 j b.1 b.2 (by rw [mP b.2];simp)
structure FR (st st':bl):Prop where
 a:aO st'=aO st
 p:qu st'=qu st
 f:jk st'=jk st
 k:kindOf st'=kindOf st
theorem FR.refl (st:bl):FR st st:=⟨rfl,rfl,rfl,rfl⟩
end
section
open Z
theorem f9 {a:Type} {c:Prop} [Decidable c] {X Y:StateT bl il a} {R:a->bl->Prop} {st:bl} (h1:c->pg M A E s X R st) (h2:¬ c->pg M A E s Y R st):pg M A E s (if c then X else Y) R st:=by
 by_cases h:c;·rw [if_pos h];exact h1 h
 ·rw [if_neg h];exact h2 h
theorem dy {a:Type} {c:Bool} {X Y:StateT bl il a} {R:a->bl->Prop} {st:bl} (h1:c=true->pg M A E s X R st) (h2:c=false->pg M A E s Y R st):pg M A E s (if c=true then X else Y) R st:=by
 cases c;·exact h2 rfl
 ·exact h1 rfl
theorem gJ {xs:Array aC} {i:Nat} (hi:i<xs.size):xs[i]?=some xs[i]:=getElem?_pos xs i hi
theorem nB {xs:Array aC} {i:Nat} (hi:i<xs.size):xs[i]∈xs.toList:=by simp
end
section
variable {key:aC->Int} {a b:Array aC}
structure Mg (key:aC->Int) (a b out:Array aC) (ia ib:Nat):Prop where
 mi:MI key out.toList (a.toList.drop ia) (b.toList.drop ib) (a.toList++b.toList)
theorem Mg.swap {out:Array aC} {ia ib:Nat} (h:Mg key a b out ia ib):Mg key b a out ib ia:=⟨let m:=h.mi.swap;⟨m.perm.trans ql,m.so,m.sx,m.sy,m.ox,m.oy⟩⟩
theorem Mg.push {out:Array aC} {ia ib:Nat} (h:Mg key a b out ia ib) (hi:ia<a.size) (k:fe key [a[ia]] (b.toList.drop ib)):Mg key a b (out.push a[ia]) (ia+1) ib:=⟨by
 replace h.mi:=(me hi)▸h.mi;rw [kz];exact MI.left (c:=[a[ia]]) h.mi k⟩
theorem Mg.chunk {out:Array aC} {ia ib k:Nat} {left:Bool} (h:Mg key a b out ia ib) (hi:ib<b.size) (k2:∀ i,i<k->wO left key b[ib] (KK key a (ia+i))):Mg key a b (out++a.extract ia (ia+k)) (ia+k) ib:=⟨by
 rw [dQ,kJ,<- g0];replace h.mi.sy:=(me hi)▸h.mi.sy;refine MI.left (by rw [fV];exact h.mi) λp hp q hq=>?_;obtain ⟨j,j1,_,j2⟩:=om hp;obtain this:=(k2 j j1).le;replace hq:=(me hi)▸hq;replace this:=j2▸this;exact bv this (yR h.mi.sy _ (L1 rfl) q hq)⟩
theorem uw {ia ib k:Nat} {left:Bool} (hi:ib<b.size) (c:∀ i,k<=i->i<a.size - ia->¬ wO left key b[ib] (KK key a (ia+i))):fe key [b[ib]] (a.toList.drop (ia+k)):=λp g q f=>by
 rw [mS g];obtain ⟨j,e,d⟩:=GV f;obtain this:=zg (c (k+j) (aI _ _) (Nat.lt_sub_of_add_lt (by rw [fm,<- dX];exact e)));rw [<- dX,d] at this;exact this
theorem Mg.head {out:Array aC} {ia ib:Nat} (h:Mg key a b out ia ib) (hi:ia<a.size):fe key [a[ia]] (a.toList.drop ia):=by
 have:=h.mi.sx;rw [me hi] at this ⊢;exact yR this
theorem Mg.len {out:Array aC} {ia ib:Nat} (h:Mg key a b out ia ib):out.size+(a.size - ia)+(b.size - ib)=a.size+b.size:=by
 have:=h.mi.perm.length_eq;simp at this;exact bB (fa1 (aj this)) (fa1 (aj this.symm))
structure Lo (key:aC->Int) (a b:Array aC) (out:Array aC) (ia ib m:Nat):Prop extends Mg key a b out ia ib where
 ia:ia+1<a.size
 ib:ib<b.size
 m:m<=out.size
structure OQ (key:aC->Int) (a b:Array aC):Prop where
 last:fe key b.toList (a.toList.drop (a.size - 1))
noncomputable def wI (key:aC->Int) (a b:Array aC) (r:Array aC):Prop:=Rz key (a.toList++b.toList) r.toList
theorem Mg.done {out:Array aC} {ia ib:Nat} (h:Mg key a b out ia ib) (e:(ib==b.size)=true):wI key a b (out++a.extract ia++b.extract ib):=by
 obtain e:=bE e;subst e;have e0:b.toList.drop b.size=[]:=by simp
 replace h.mi:=e0▸h.mi;delta wI;rw [NM,e0,bp];exact h.mi.endX
theorem Mg.done2 {out:Array aC} {ia ib:Nat} (h:Mg key a b out ia ib) (e:(ia==a.size)=true):wI key a b (out++a.extract ia++b.extract ib):=by
 obtain e:=bE e;subst e;have e0:a.toList.drop a.size=[]:=by simp
 replace h.mi:=e0▸h.mi;delta wI;rw [NM,e0,bp];exact h.mi.swap.endX
theorem Mg.last {out:Array aC} {ia ib:Nat} (h:Mg key a b out ia ib) (H:OQ key a b) (e:(ia+1==a.size)=true):wI key a b (out++b.extract ib++a.extract ia):=by
 obtain d:ia=a.size - 1:=by rw [<- (bE e)];rfl
 subst d;delta wI;rw [NM];exact h.mi.endXY λp c=>H.last p (lV c)
theorem rI {i n:Nat} (e:(i==n)=false) (h:i<=n):i<n:=cG h λq=>by rw [q,beq_self_eq_true] at e;exact L7 e
theorem ga {out:Array aC} {p:aC} {m:Nat} (h:m<=out.size):m<=(out.push p).size:=by rw [wf];exact gC h
theorem rA {out:Array aC} {p:aC} {m:Nat} (h:m<=out.size):m+1<=(out.push p).size:=by rw [wf];exact dL h
theorem nv {out c:Array aC} {m:Nat} (h:m<=out.size):m<=(out++c).size:=by rw [Array.size_append];exact ab h (aI _ _)
noncomputable def NX (key:aC->Int) (a b:Array aC) (st:bl) (m:Nat) (r:Option (Array aC)) (o:Array aC) (i j:Nat) (st':bl):Prop:=FR st st'/\match r with
 | none=>Lo key a b o i j m
 | some r=>wI key a b r
noncomputable def O8 (key:aC->Int) (a b:Array aC) (st:bl) (m:Nat) (c:Option (Array aC) × Array aC × Nat × Nat × Nat × Nat) (st':bl):Prop:=NX key a b st m c.1 c.2.1 c.2.2.1 c.2.2.2.1 st'
noncomputable def MO (key:aC->Int) (a b:Array aC) (st:bl) (m:Nat) (c:Option (Array aC) × Array aC × Nat × Nat × Nat × Nat × Nat) (st':bl):Prop:=NX key a b st m c.1 c.2.1 c.2.2.1 c.2.2.2.1 st'
noncomputable abbrev Lu {β:Type} (key:aC->Int) (a b:Array aC) (st:bl) (m:Nat) (c:Option (Array aC) × Array aC × Nat × Nat × β) (st':bl):Prop:=∃ out ia ib z,c=(none,out,ia,ib,z)/\NX key a b st m none out ia ib st'
noncomputable abbrev OR {β:Type} (key:aC->Int) (a b:Array aC) (st:bl) (c:Option (Array aC) × β) (st':bl):Prop:=∃ r rest,c=(some r,rest)/\FR st st'/\wI key a b r
noncomputable def rU {β:Type} (Q:β->bl->Prop) (I:β->bl->Prop) (r:ForInStep β) (st':bl):Prop:=match r with
 | .done c=>Q c st'
 | .yield c=>I c st'
end
section
open Z
theorem j5 {e:Type} {n:Nat} {f:Nat->e->StateT bl il (ForInStep e)} {c:e} {st:bl} {R:e->bl->Prop} (I:Nat->e->bl->Prop) (d:∀ i c st,i<n->I i c st->pg M A E s (f i c) (rU R (I (i+1))) st) (h:I 0 c st) (g:∀ c st,I n c st->R c st):pg M A E s (forIn [0:n] c f) R st:=
 lN I (λi c st _ k j=>jj (d i c st k j) λr _ q=>by cases r <;>exact q) (λc st j=>g c st (by rwa [wc (aM n)] at j)) h
namespace Y
structure C where
 a:Array aC
 b:Array aC
 st:bl
 Q:Array aC->bl->Prop
noncomputable def OO (c:C) (T:StateT bl il (Array aC)):Prop:=kq M A E s κ key a₀->kindOf c.st=κ->(∀ x∈c.a.toList,x∈a₀.toList)->(∀ x∈c.b.toList,x∈a₀.toList)->Pw key c.a.toList->Pw key c.b.toList->0<c.a.size->∀ zb:0<c.b.size,
 fe key [c.b[0]] c.a.toList->fe key c.b.toList (c.a.toList.drop (c.a.size - 1))->(∀ r st',FR c.st st'->wI key c.a c.b r->c.Q r st')->pg M A E s T c.Q c.st
noncomputable def ok (c:C):Prop:=OO c (u8 c.a c.b)/\OO c (u9 c.a c.b)
theorem MJ:Nonempty C:=⟨⟨#[],#[],jc tt #[] #[] 7 none,λ_ _=>True⟩⟩
noncomputable def c:C:=@j4 C MJ λc=>¬ ok c
noncomputable def a:Array aC:=c.a
noncomputable def b:Array aC:=c.b
noncomputable def st:bl:=c.st
noncomputable def Q:Array aC->bl->Prop:=c.Q
end Y
open Y
theorem ym (L:kq M A E s κ key a₀) (hk:kindOf st=κ) (ha:∀ x∈a.toList,x∈a₀.toList) (hb:∀ x∈b.toList,x∈a₀.toList) (sa:Pw key a.toList) (sb:Pw key b.toList) (za:0<a.size) (zb:0<b.size) (hf:fe key [b[0]] a.toList) (hl:fe key b.toList (a.toList.drop (a.size - 1))) (h:∀ r D,FR st D->wI key a b r->Q r D):pg M A E s (u8 a b) Q st:=by
 obtain H:OQ key a b:=⟨hl⟩;have m1:=((⟨⟨Pz _,pT,sa,sb,λ_ h=>(nm h),λ_ h=>(nm h)⟩⟩:Mg key a b #[] 0 0).swap.push zb hf).swap;refine aG (nj (eT ⟨rfl,aG (dH (gJ zb) ?_)⟩));refine dy (λe=>aY (h _ st (FR.refl st) (m1.done e))) λe1=>dy (λe=>aY (h _ st (FR.refl st) (m1.last H e))) λe2=>?_;refine aG (kE (aG (jj (j5 (R:=OR key a b st) (λx=>Lu key a b st (x+1)) ?step ⟨#[b[0]],0,1,_,rfl,FR.refl st,m1,rI e2 za,rI e1 zb,aq 1⟩ ?fin) ?post)));case post=>intro c;intro D;intro z0;refine e23 z0 λr rest z11 sm q=>?_;clear z0;obtain rfl:=z11;exact aY (h r D sm q)
 case fin=>intro c;intro D;intro z1;refine e43 z1 λt F C mg z12 sm w=>?_;clear z1;obtain rfl:=z12;exact absurd (ab (aI _ _) (ab (aI _ _) (aj w.len))) (OE.2 w.m)
 case step=>
  intro x;intro c;intro st1;intro hx;intro z2;refine e43 z2 λt F C mg z13 sm1 w=>?_;clear z2;obtain rfl:=z13;refine aG (jj (j5 (R:=O8 key a b st (x+1)) (λ_=>Lu key a b st (x+1)) ?s1 (i43 t F C (0,0) rfl sm1 w) ?f1) ?p1);case f1=>intro c;intro D;intro z3;refine e42 z3 λt F C z z14 q=>?_;clear z3;obtain rfl:=z14;exact q
  case s1=>
   intro y;intro c;intro st2;intro hy;intro z4;refine e43 z4 λt F C z z15 m w=>?_;clear z4;obtain rfl:=z15;have p:=gB w.ia;have d:=w.ib;refine aG (dH (gJ d) (aG (dH (gJ p) (aG (L _ _ (hb _ (nB d)) (ha _ (nB p)) _ _ (m.k.trans hk) ?_)))));refine dy (λc=>?_) λc=>?_
   ·have mi:=(w.toMg.swap.push d (l8 (bT (of_decide_eq_true c)) (w.head p))).swap;refine aG (dH (gJ d) (dy (λe=>aY ⟨m,mi.done e⟩) λe=>?_));have v:Lo key a b (t.push b[C]) F (C+1) (x+1):=⟨mi,w.ia,rI e d,ga w.m⟩;exact f9 (λ_=>aY ⟨m,v⟩) λ_=>aY (i43 _ _ _ _ rfl m v)
   ·have mi:=w.toMg.push p (l8 (fj (of_decide_eq_false c)) (w.swap.head d));refine aG (dH (gJ p) (dy (λe=>aY ⟨m,mi.last H e⟩) λe=>?_));have v:Lo key a b (t.push a[F]) (F+1) C (x+1):=⟨mi,rI e w.ia,d,ga w.m⟩;exact f9 (λ_=>aY ⟨m,v⟩) λ_=>aY (i43 _ _ _ _ rfl m v)
  case p1=>
   intro z5;obtain ⟨r,c⟩:=z5;intro st2;intro z6;refine e02 z6 λm q=>?_;clear z6;cases r with
   | some r=>exact aY (i23 r _ rfl m q)
   | none=>
   refine aG (nj (eT ⟨rfl,aG (jj (j5 (R:=MO key a b st (x+2)) (λy=>Lu key a b st (x+1+min y 1)) ?s2 (i43 _ _ _ _ rfl m q) ?f2) ?p2)⟩));case f2=>intro c;intro st3;intro z7;refine e42 z7 λt F C z z16 q=>?_;clear z7;obtain rfl:=z16;rwa [fS (ab za (aI _ _))] at q
   case p2=>
    intro z8;obtain ⟨r,c⟩:=z8;intro st3;intro z9;refine e02 z9 λl q=>?_;clear z9;cases r with
    | some r=>exact aY (i23 r _ rfl l q)
    | none=>exact aG (jN (aY (i43 _ _ _ _ rfl ⟨l.a,l.p,l.f,l.k⟩ q)))
   case s2=>
    intro y;intro c;intro st3;intro hy;intro z10;refine e43 z10 λt F C z z17 l q=>?_;clear z10;obtain rfl:=z17;rw [fS (dC 1 y)];have p:=gB q.ia;have d:=q.ib;obtain hm:=ab (aI (x+1) _) q.m;obtain hi:=q.ia;extract_lets t0 o1 t1 i1 t2 j1 t3 g1 t4 c1 d1 j2 jp g2;have main:∀ g,pg M A E s (jp () g) (rU (MO key a b st (x+2)) (Lu key a b st (x+2))) st3:=by
     intro g;refine aG (jN (aG (dH (gJ d) (aG (kI (n:=a.size - F) L (l.k.trans hk) (hb _ (nB d)) ha (aj (bo (aF p))) (gz p) (pW sa (aj (bo (aF p)))) λk k1 k2 k3=>?_)))));obtain ⟨st4,hs4,u⟩:∃ st4,st4=jc (kindOf st3) (aO st3) (qu st3) g (jk st3)/\FR st st4:=⟨_,rfl,l.a,l.p,l.f,l.k⟩;refine (?_:pg M A E s _ _ (jc (kindOf st3) (aO st3) (qu st3) g (jk st3)));rw [<- hs4];dsimp -zeta only;extract_lets ac' jp2 o2 i2;obtain main2:∀ o i,Mg key a b o i C->fe key [b[C]] (a.toList.drop i)->i+1<a.size->x+1<=o.size->pg M A E s (jp2 () o i) (rU (MO key a b st (x+2)) (Lu key a b st (x+2))) st4:=by
      intro o i q.toMg hle hi hm;have B:=gB hi;have mi2:=(q.toMg.swap.push d hle).swap;refine aG (dH (gJ d) (dy (λe=>aY ⟨u,mi2.done e⟩) λe3=>?_));obtain hj:=rI e3 d;refine aG (dH (gJ B) (aG (kI (base:=C+1) (n:=b.size - (C+1)) L (u.k.trans hk) (ha _ (nB B)) hb (aj (bo (aF hj))) (gz hj) (pW sb (aj (bo (aF hj)))) λk' q1 q2 q3=>?_)));dsimp -zeta only;extract_lets bc' i3 jp3 o3 j3;have main3:∀ o j,Mg key a b o i j->fe key [a[i]] (b.toList.drop j)->j<b.size->x+1<=o.size->pg M A E s (jp3 () o j) (rU (MO key a b st (x+2)) (Lu key a b st (x+2))) st4:=by
       intro o j q.toMg hle hj hm;obtain mi3:=q.toMg.push B hle;refine aG (dH (gJ B) (dy (λe=>aY ⟨u,mi3.last H e⟩) λe5=>?_));have v:Lo key a b (o.push a[i]) (i+1) j (x+2):=⟨mi3,rI e5 hi,hj,rA hm⟩;exact f9 (λ_=>aY ⟨u,v⟩) λ_=>aY (i43 _ _ _ _ rfl u v)
      refine f9 (λ_=>?_) λhk1=>?_
      ·obtain mc:=(mi2.swap.chunk B q2).swap;exact dy (λe=>aY ⟨u,mc.done e⟩) λe=>main3 _ _ mc (uw B q3) (rI (i:=C+1+k') e (qx (aF hj) q1)) (nv (ga hm))
      ·have hk0:=kT hk1;obtain hr:=uw B q3;replace hr:=hk0▸hr;exact main3 _ _ mi2 hr hj (ga hm)
     refine f9 (λ_=>?_) λhk1=>?_
     ·have mc:=q.toMg.chunk d k2;exact dy (λe=>aY ⟨u,mc.last H e⟩) λe=>dy (λe=>aY ⟨u,mc.done2 e⟩) λe2=>main2 _ _ mc (uw d k3) (rI (i:=F+k+1) e (rI (i:=F+k) e2 (qx (aF p) k1))) (nv hm)
     ·have hk0:=kT hk1;have hr:=uw d k3;replace hr:=hk0▸hr;exact main2 t F q.toMg hr (by assumption) hm
    exact f9 (λ_=>main _) λ_=>main _
end
section
variable {key:aC->Int} {a b:Array aC}
noncomputable abbrev ng (key:aC->Int):aC->Int:=λp=> - key p
noncomputable abbrev tk (xs:Array aC) (n:Nat):List aC:=(xs.toList.take n).reverse
structure Mh (key:aC->Int) (a b out:Array aC) (na nb:Nat):Prop where
 mi:MI (ng key) out.toList (tk a na) (tk b nb) (a.toList++b.toList)
 ha:na<=a.size
 hb:nb<=b.size
theorem Mh.swap {out:Array aC} {na nb:Nat} (h:Mh key a b out na nb):Mh key b a out nb na:=⟨let m:=h.mi.swap;⟨m.perm.trans ql,m.so,m.sx,m.sy,m.ox,m.oy⟩,h.hb,h.ha⟩
theorem Dr {xs:Array aC} {n:Nat} (h:n<xs.size):tk xs (n+1)=xs[n]::tk xs n:=by
 delta tk;rw [dF,an (by trivial)];simp
theorem Ds {xs:Array aC} {n:Nat} (h0:0<n) (h:n<=xs.size):tk xs n=xs[n - 1]::tk xs (n - 1):=by
 obtain ⟨m,rfl⟩:∃ m,n=m+1:=⟨n - 1,by exact (Nat.sub_eq_iff_eq_add h0).mp rfl⟩;exact Dr h
theorem KI {xs:Array aC} {n:Nat} {q:aC} (h:q∈tk xs n):∃ j,j<n/\KK key xs (0+j)=key q:=by
 refine e13 (om (key:=key) (jx.1 h:q∈(xs.toList.drop 0).take n)) λj d e c=>?_;exact i12 j d c
theorem Mh.push {out:Array aC} {na nb:Nat} (h:Mh key a b out na nb) (h0:0<na) (k:fe (ng key) [a[na - 1]'(by have:=h.ha;lia)] (tk b nb)):Mh key a b (out.push (a[na - 1]'(by have:=h.ha;lia))) (na - 1) nb:=⟨by
 replace h.mi:=(Ds h0 h.ha)▸h.mi;rw [kz];exact MI.left (c:=[a[na - 1]'(by have:=h.ha;lia)]) h.mi k,ab (fU _ _) h.ha,h.hb⟩
theorem Mh.head {out:Array aC} {na nb:Nat} (h:Mh key a b out na nb) (h0:0<na):fe (ng key) [a[na - 1]'(by have:=h.ha;lia)] (tk a na):=by
 have:=h.mi.sx;rw [Ds h0 h.ha] at this ⊢;exact yR this
theorem Gi {xs:Array aC} {i n:Nat} (h:i<=n):tk xs n=(xs.extract i n).reverse.toList++tk xs i:=by
 delta tk;rw [Dm,<- rk,lQ];congr 1;obtain this:=(fV i _).symm;rw [List.take_take,dB h,List.drop_take] at this;exact this
theorem Mh.chunk {out:Array aC} {na nb i:Nat} {left:Bool} (h:Mh key a b out na nb) (h0:0<nb) (hi:i<=na) (k3:∀ j,i<=j->j<na->¬ wO left key (b[nb - 1]'(by have:=h.hb;lia)) (KK key a (0+j))):Mh key a b (out++(a.extract i na).reverse) i nb:=⟨by
 rw [dQ];replace h.mi:=(Gi hi)▸h.mi;refine MI.left h.mi λp hp q hq=>?_;obtain hp':=Array.mem_reverse.mp (Array.mem_toList_iff.mp hp);rw [Array.mem_extract_iff_getElem] at hp';obtain ⟨j,hj,e⟩:=hp';obtain hz:=h.ha;obtain h1:=zg (k3 (i+j) (aI _ _) (by lia));rw [gy,mP (by lia),e] at h1;obtain h2:=h.swap.head h0 _ (L1 rfl) q hq;refine (?_:- key p<=- key q);lia,ab hi h.ha,h.hb⟩
theorem ux {i:Nat} {p:aC} {left:Bool} (k2:∀ j,j<i->wO left key p (KK key a (0+j))):fe (ng key) [p] (tk a i):=λx e q f=>by
 rw [mS e];refine e12 (KI (key:=key) f) λj d c=>?_;obtain this:=(k2 j d).le;replace this:=c▸this;exact kU this
theorem Mh.len {out:Array aC} {na nb:Nat} (h:Mh key a b out na nb):out.size+na+nb=a.size+b.size:=by
 obtain this:=h.mi.perm.length_eq;obtain d:=h.ha;have c:=h.hb;simp at this;lia
theorem Rz.rev {t l:List aC} (h:Rz (ng key) t l):Rz key t l.reverse:=⟨(tT l).trans h.1,Di.mpr (h.2.imp λ{p q} (k:- key p<=- key q)=>by exact Int.le_of_neg_le_neg k)⟩
theorem DU {xs:Array aC} {n:Nat}:(xs.extract 0 n).toList=(tk xs n).reverse:=by
 rw [lQ,nL,List.drop_zero,Dd,Em]
theorem KS {o a b:Array aC} {i j:Nat}:(a.extract 0 i++b.extract 0 j++o.reverse).toList=(o.toList++tk b j++tk a i).reverse:=by
 rw [dQ,dQ,DU,DU,Dm,rk,rk,bq]
theorem Mh.done {out:Array aC} {na nb:Nat} (h:Mh key a b out na nb) (e:(na==0)=true):wI key a b (a.extract 0 na++b.extract 0 nb++out.reverse):=by
 obtain e:=bE e;subst e;delta wI;rw [KS,show tk a 0=[] from rfl,bp];exact (MI.endX (show MI (ng key) out.toList (tk b nb) [] _ from h.mi.swap)).rev
theorem Mh.done2 {out:Array aC} {na nb:Nat} (h:Mh key a b out na nb) (e:(nb==0)=true):wI key a b (a.extract 0 na++b.extract 0 nb++out.reverse):=by
 obtain e:=bE e;subst e;delta wI;rw [KS,show tk b 0=[] from rfl,bp];exact (MI.endX (show MI (ng key) out.toList (tk a na) [] _ from h.mi)).rev
theorem Mh.first {out:Array aC} {na nb:Nat} (d:0<b.size) (h:Mh key a b out na nb) (H:fe key [b[0]] a.toList) (e:(nb==1)=true):wI key a b (b.extract 0 nb++a.extract 0 na++out.reverse):=by
 obtain e:=bE e;subst e;delta wI;rw [KS];obtain g:tk b 1=[b[0]]:=Dr d;refine (h.mi.swap.endXY λp f q c=>?_).rev;rw [g,se] at c;subst c;exact kU (H _ (L1 rfl) p (eh (jx.1 f)))
structure Hi (key:aC->Int) (a b:Array aC) (out:Array aC) (na nb m:Nat):Prop extends Mh key a b out na nb where
 a0:0<na
 b0:1<nb
 m:m<=out.size
noncomputable def NY (key:aC->Int) (a b:Array aC) (st:bl) (m:Nat) (r:Option (Array aC)) (o:Array aC) (i j:Nat) (st':bl):Prop:=FR st st'/\match r with
 | none=>Hi key a b o i j m
 | some r=>wI key a b r
noncomputable def O9 (key:aC->Int) (a b:Array aC) (st:bl) (m:Nat) (c:Option (Array aC) × Nat × Nat × Array aC × Nat × Nat) (st':bl):Prop:=NY key a b st m c.1 c.2.2.2.1 c.2.1 c.2.2.1 st'
noncomputable def MQ (key:aC->Int) (a b:Array aC) (st:bl) (m:Nat) (c:Option (Array aC) × Nat × Nat × Array aC × Nat × Nat × Nat) (st':bl):Prop:=NY key a b st m c.1 c.2.2.2.1 c.2.1 c.2.2.1 st'
noncomputable abbrev Lv {β:Type} (key:aC->Int) (a b:Array aC) (st:bl) (m:Nat) (c:Option (Array aC) × Nat × Nat × Array aC × β) (st':bl):Prop:=∃ na nb out z,c=(none,na,nb,out,z)/\NY key a b st m none out na nb st'
theorem je {n:Nat} (e:(n==0)=false):0<n:=iC λq=>by replace e:=q▸e;cases e
theorem p5 {n:Nat} (e:(n==1)=false) (h:0<n):1<n:=cG h λq=>by rw [<- q] at e;cases e
end
section
open Z
open Y
theorem yn (L:kq M A E s κ key a₀) (hk:kindOf st=κ) (ha:∀ x∈a.toList,x∈a₀.toList) (hb:∀ x∈b.toList,x∈a₀.toList) (sa:Pw key a.toList) (sb:Pw key b.toList) (za:0<a.size) (zb:0<b.size) (hf:fe key [b[0]] a.toList) (hl:fe key b.toList (a.toList.drop (a.size - 1))) (h:∀ r F,FR st F->wI key a b r->Q r F):pg M A E s (u9 a b) Q st:=by
 have hx:=eK za df;obtain rv:∀ {l:List aC},Pw key l->Pw (ng key) l.reverse:=λ{l} h=>Di.mpr (h.imp λ{p q} k=>kU k);obtain K:∀ (xs:Array aC),tk xs xs.size=xs.toList.reverse:=λxs=>by delta tk;rw [ix (by exact aq xs.toList.length)]
 have m0:Mh key a b #[] a.size b.size:=⟨⟨by
  rw [K,K];exact (PB (tT _) (tT _)),pT,by rw [K];exact rv sa,by rw [K];exact rv sb,λ_ h=>(nm h),λ_ h=>(nm h)⟩,aq _,aq _⟩
 have m1:Mh key a b #[a[a.size - 1]] (a.size - 1) b.size:=m0.push za λp hp q hq=>by
  rw [mS hp];exact kU ((λp hp q hq=>hl p hp q (by rw [me hx,mS hq];exact .head _):fe key b.toList [a[a.size - 1]]) q (eh (jx.1 hq)) _ (L1 rfl))
 refine aG (nj (eT ⟨rfl,aG (dH (gJ hx) ?_)⟩));refine dy (λe=>aY (h _ st (FR.refl st) (m1.done e))) λe1=>dy (λe=>aY (h _ st (FR.refl st) (m1.first zb hf e))) λe2=>?_;refine aG (kE (aG (jj (j5 (R:=OR key a b st) (λx=>Lv key a b st (x+1)) ?step ⟨a.size - 1,b.size,#[a[a.size - 1]],_,rfl,FR.refl st,m1,je e1,p5 e2 zb,aq 1⟩ ?fin) ?post)));case post=>intro c;intro F;intro z0;refine e23 z0 λr rest z11 sm q=>?_;clear z0;obtain rfl:=z11;exact aY (h r F sm q)
 case fin=>intro c;intro F;intro z1;refine e43 z1 λH D t mg z12 sm m=>?_;clear z1;obtain rfl:=z12;exact absurd (ab (aI _ _) (ab (aI _ _) (aj m.len))) (OE.2 m.m)
 case step=>
  intro x;intro c;intro st1;intro hx;intro z2;refine e43 z2 λH D t mg z13 sm1 m=>?_;clear z2;obtain rfl:=z13;refine aG (jj (j5 (R:=O9 key a b st (x+1)) (λ_=>Lv key a b st (x+1)) ?s1 (i43 H D t (0,0) rfl sm1 m) ?f1) ?p1);case f1=>intro c;intro F;intro z3;refine e42 z3 λH D t z z14 q=>?_;clear z3;obtain rfl:=z14;exact q
  case s1=>
   intro y;intro c;intro st2;intro hy;intro z4;refine e43 z4 λH D t z z15 i m=>?_;clear z4;obtain rfl:=z15;have S:=aw (eK m.a0 df) m.ha;have C:=gB m.b0;have B:=aw (eK C df) m.hb;refine aG (dH (gJ B) (aG (dH (gJ S) (aG (L _ _ (hb _ (nB B)) (ha _ (nB S)) _ _ (i.k.trans hk) ?_)))));refine dy (λc=>?_) λc=>?_
   ·have w:=m.toMh.push m.a0 (l8 (kU (bT (of_decide_eq_true c))) (m.swap.head C));refine aG (dH (gJ S) (dy (λe=>aY ⟨i,w.done e⟩) λe=>?_));have v:Hi key a b (t.push a[H - 1]) (H - 1) D (x+1):=⟨w,je e,m.b0,ga m.m⟩;exact f9 (λ_=>aY ⟨i,v⟩) λ_=>aY (i43 _ _ _ _ rfl i v)
   ·have w:=(m.toMh.swap.push C (l8 (kU (fj (of_decide_eq_false c))) (m.head m.a0))).swap;refine aG (dH (gJ B) (dy (λe=>aY ⟨i,w.first zb hf e⟩) λe=>?_));have v:Hi key a b (t.push b[D - 1]) H (D - 1) (x+1):=⟨w,m.a0,p5 e (gz m.b0),ga m.m⟩;exact f9 (λ_=>aY ⟨i,v⟩) λ_=>aY (i43 _ _ _ _ rfl i v)
  case p1=>
   intro z5;obtain ⟨r,c⟩:=z5;intro st2;intro z6;refine e02 z6 λi q=>?_;clear z6;cases r with
   | some r=>exact aY (i23 r _ rfl i q)
   | none=>
   refine aG (nj (eT ⟨rfl,aG (jj (j5 (R:=MQ key a b st (x+2)) (λy=>Lv key a b st (x+1+min y 1)) ?s2 (i43 _ _ _ _ rfl i q) ?f2) ?p2)⟩));case f2=>intro c;intro st3;intro z7;refine e42 z7 λH D t z z16 q=>?_;clear z7;obtain rfl:=z16;rwa [fS (ab za (aI _ _))] at q
   case p2=>
    intro z8;obtain ⟨r,c⟩:=z8;intro st3;intro z9;refine e02 z9 λf q=>?_;clear z9;cases r with
    | some r=>exact aY (i23 r _ rfl f q)
    | none=>exact aG (jN (aY (i43 _ _ _ _ rfl ⟨f.a,f.p,f.f,f.k⟩ q)))
   case s2=>
    intro y;intro c;intro st3;intro hy;intro z10;refine e43 z10 λH D t z z17 f q=>?_;clear z10;obtain rfl:=z17;rw [fS (dC 1 y)];have hb1:=q.b0;have C:=gB hb1;have B:=aw (eK C df) q.hb;obtain hm:=ab (aI (x+1) _) q.m;have w:=q.toMh;extract_lets t0 i1 t1 j1 t2 o1 t3 g1 t4 c1 d1 j2 jp g2;have O:∀ g,pg M A E s (jp () g) (rU (MQ key a b st (x+2)) (Lv key a b st (x+2))) st3:=by
     intro g;refine aG (jN (aG (dH (gJ B) (aG (kI (hint:=H - 1) L (f.k.trans hk) (hb _ (nB B)) ha (by rw [gy];exact w.ha) (eK q.a0 df) (pW sa (by rw [gy];exact w.ha)) λk k1 k2 k3=>?_)))));obtain ⟨st4,hs4,u⟩:∃ st4,st4=jc (kindOf st3) (aO st3) (qu st3) g (jk st3)/\FR st st4:=⟨_,rfl,f.a,f.p,f.f,f.k⟩;refine (?_:pg M A E s _ _ (jc (kindOf st3) (aO st3) (qu st3) g (jk st3)));rw [<- hs4];dsimp -zeta only;extract_lets kk ac' jp2 o2;obtain J:∀ n o,Mh key a b o n D->fe (ng key) [b[D - 1]] (tk a n)->0<n->x+1<=o.size->pg M A E s (jp2 () n o) (rU (MQ key a b st (x+2)) (Lv key a b st (x+2))) st4:=by
      intro n o w hle hn hm;have N:=(w.swap.push C hle).swap;refine aG (dH (gJ B) (dy (λe=>aY ⟨u,N.first zb hf e⟩) λe3=>?_));obtain hj:=p5 e3 (gz hb1);have hn1:=aw (eK hn df) w.ha;obtain P:0+(D - 1)<=b.size:=by rw [gy];exact N.hb
      refine aG (dH (gJ hn1) (aG (kI (n:=D - 1) (hint:=D - 1 - 1) L (u.k.trans hk) (ha _ (nB hn1)) hb P (eK (gB hj) df) (pW sb P) λk' q1 q2 q3=>?_)));dsimp -zeta only;extract_lets kk' bc' n3 jp3 o3;have I:∀ j o,Mh key a b o n j->fe (ng key) [a[n - 1]] (tk b j)->1<j->x+1<=o.size->pg M A E s (jp3 () j o) (rU (MQ key a b st (x+2)) (Lv key a b st (x+2))) st4:=by
       intro j o w hle hj hm;obtain mi3:=w.push hn hle;refine aG (dH (gJ hn1) (dy (λe=>aY ⟨u,mi3.done e⟩) λe5=>?_));have v:Hi key a b (o.push a[n - 1]) (n - 1) j (x+2):=⟨mi3,je e5,hj,rA hm⟩;exact f9 (λ_=>aY ⟨u,v⟩) λ_=>aY (i43 _ _ _ _ rfl u v)
      refine f9 (λ_=>?_) λhk1=>?_
      ·have mc:=(N.swap.chunk hn q1 q3).swap;exact dy (λe=>aY ⟨u,mc.first zb hf e⟩) λe=>dy (λe2=>aY ⟨u,mc.done2 e2⟩) λe2=>I _ _ mc (ux q2) (p5 e (je e2)) (nv (ga hm))
      ·obtain hk0:=bB q1 (qv (kT hk1));replace q2:=hk0▸q2;exact I _ _ N (ux q2) hj (ga hm)
     refine f9 (λ_=>?_) λhk1=>?_
     ·have mc:=w.chunk C k1 k3;exact dy (λe=>aY ⟨u,mc.done e⟩) λe=>J _ _ mc (ux k2) (je e) (nv hm)
     ·have hk0:=bB k1 (qv (kT hk1));replace k2:=hk0▸k2;exact J H t w (ux k2) q.a0 hm
    exact f9 (λ_=>O _) λ_=>O _
end
section
open Z
theorem Ah (c:Y.C):Y.ok c:=KQ Y.MJ ⟨λL j m l g f e d k i h=>ym L j m l g f e d k i h,λL j m l g f e d k i h=>yn L j m l g f e d k i h⟩ c
theorem zJ {a b:Array aC} {st:bl} {Q:Array aC->bl->Prop} (L:kq M A E s κ key a₀) (i:kindOf st=κ) (k:∀ x∈a.toList,x∈a₀.toList) (hb:∀ x∈b.toList,x∈a₀.toList) (sa:Pw key a.toList) (f:Pw key b.toList) (e:0<a.size) (d:0<b.size) (j:fe key [b[0]] a.toList) (g:fe key b.toList (a.toList.drop (a.size - 1))) (h:∀ r c,FR st c->wI key a b r->Q r c):pg M A E s (u8 a b) Q st:=(Ah ⟨a,b,st,Q⟩).1 L i k hb sa f e d j g h
theorem zK {a b:Array aC} {st:bl} {Q:Array aC->bl->Prop} (L:kq M A E s κ key a₀) (i:kindOf st=κ) (k:∀ x∈a.toList,x∈a₀.toList) (hb:∀ x∈b.toList,x∈a₀.toList) (sa:Pw key a.toList) (f:Pw key b.toList) (e:0<a.size) (d:0<b.size) (j:fe key [b[0]] a.toList) (g:fe key b.toList (a.toList.drop (a.size - 1))) (h:∀ r c,FR st c->wI key a b r->Q r c):pg M A E s (u9 a b) Q st:=(Ah ⟨a,b,st,Q⟩).2 L i k hb sa f e d j g h
end
section
variable {key:aC->Int}
theorem DA {i:Nat}:∀ (l:List aC) (n:Nat) (b:List aC),i+n+l.length<=b.length->(l.zipIdx n).foldl (λa x=>a.set (i+x.2) x.1) b=b.take (i+n)++l++b.drop (i+n+l.length)
 | [],n,b,h=>by simp
 | p::l,n,b,h=>by
  obtain c:=aw (ik (kQ _)) h;obtain e:b.set (i+n) p=(b.take (i+n)++[p])++b.drop (i+n+1):=by
   rw [tx,if_pos c];simp
  obtain d:(b.take (i+n)++[p]).length=i+(n+1):=by rw [aB,cS];exact congrArg (· +1) (dB (aF c))
  rw [List.zipIdx_cons,wn,DA l (n+1) _ (by rw [jY];exact ab (aj (Mu (i+n) l.length)) h)];rw [e,wj d,<- g0,List.drop_left' d,g0,bq _ [p] l,fQ];congr 2;exact nH (i+n) 1 l.length
theorem By {l:List aC} {i:Nat} {xs:Array aC} (h:i+l.length<=xs.size):(l.zipIdx.foldl (λa x=>match x with | (p,j)=>a.setIfInBounds (i+j) p) xs).toList=xs.toList.take i++l++xs.toList.drop (i+l.length):=by
 revert l i xs;intros l i xs;intro h;obtain e:∀ (l:List (aC × Nat)) (xs:Array aC),(l.foldl (λa x=>match x with | (p,j)=>a.setIfInBounds (i+j) p) xs).toList=l.foldl (λa x=>a.set (i+x.2) x.1) xs.toList:=by
  intro l;induction l with
  | nil=>intro xs;rfl
  | cons x l b=>intro xs;rw [wn,b];simp
 rw [e,DA l 0 _ (by trivial),Dh]
theorem Ip {xs ys:Array aC} {l:List aC} {i:Nat} (h:ys.toList=xs.toList.take i++l++xs.toList.drop (i+l.length)) (hz:i+l.length<=xs.size):wh i (i+l.length) xs ys/\∀ j,i<=j->j<i+l.length->∃ p,p∈l/\l[j - i]?=some p/\ys[j]?=some p:=by
 obtain b:(xs.toList.take i).length=i:=by rw [cS];exact dB (ab (aI i _) hz)
 refine ⟨λj a=>?_,λj d c=>?_⟩
 ·rw [<- cM,h,<- cM];rcases a with a | a;·rw [bq,dN (by rw [b];exact a),List.getElem?_take_of_lt a]
  ·rw [eI (by rw [aB,b];exact a),Ga,aB,b,bo a]
 ·obtain a:=lY d c;refine i13 (l[j - i]) (ly a) (an a) ?_;rw [<- cM,h,dN (by rw [aB,b];exact c),eI (by rw [b];exact d),b];exact an a
theorem wh.kk {lo hi:Nat} {xs ys:Array aC} (h:wh lo hi xs ys) {i:Nat} (a:i<lo\/hi<=i):KK key ys i=KK key xs i:=KK.congr (h i a)
theorem wh.mono {lo hi b c:Nat} {xs ys:Array aC} (h:wh lo hi xs ys) (h1:b<=lo) (h2:hi<=c):wh b c xs ys:=λi k=>h i (k.imp (λa=>aw a h1) λa=>ab h2 a)
theorem qX.oth {lo hi a b:Nat} {xs ys:Array aC} (x:qX key xs a b) (h:wh lo hi xs ys) (k:b<=lo\/hi<=a):qX key ys a b:=λi j e d c=>by
 rw [h.kk (k.imp (λz=>aw (aR d c) z) λz=>ab z e),h.kk (k.imp (λz=>aw c z) λz=>ab z (ab e d))];exact x i j e d c
theorem GC {xs:Array aC} {lo n:Nat} (h:qX key xs lo (lo+n)) (hz:lo+n<=xs.size):Pw key (xs.extract lo (lo+n)).toList:=by
 rw [kJ];refine gl.mpr λi j d c a=>?_;obtain b:=aw c (FN _ _);obtain this:=h (lo+i) (lo+j) (aI _ _) (aL (aF a) lo) (cy b lo);rw [mP (lD (aw d (FN _ _)) hz),mP (lD b hz)] at this;simpa using this
theorem BP {xs ys:Array aC} {l:List aC} {i n:Nat} (h:ys.toList=xs.toList.take i++l++xs.toList.drop (i+l.length)) (b:l.Perm ((xs.toList.drop i).take n)) (a:l.length=n):ys.Perm xs:=by
 rw [fT,h];obtain e:xs.toList=xs.toList.take i++((xs.toList.drop i).take n)++xs.toList.drop (i+n):=by
  rw [bq,<- g0,fV,fV]
 rw [a];exact (PA _ (yj _ b)).trans (Ep e.symm)
end
section
open Z
variable {pd:Array (Nat × Nat × Nat)}
theorem It {st a:bl} {Q:PUnit->bl->Prop} (h:Q ⟨⟩ a):pg M A E s (set a:StateT bl il PUnit) Q st:=by
 exact ah ⟨rfl,h⟩
end
section
open Z
variable {pd:Array (Nat × Nat × Nat)}
theorem zL {st:bl} {i sa na pw b nb qw:Nat} {Q:Bool->bl->Prop} (L:kq M A E s κ key a₀) (g:SB κ a₀ pd st) (hi:pd[i]?=some (sa,na,pw)) (f:pd[i+1]?=some (b,nb,qw)) (c:b=sa+na) (e:1<=na) (d:1<=nb) (hz:b+nb<=a₀.size) (s1:qX key (aO st) sa (sa+na)) (s2:qX key (aO st) b (b+nb)) (h:∀ a,SB κ a₀ ((pd.setIfInBounds i (sa,na+nb,pw)).eraseIdxIfInBounds (i+1)) a->wh sa (b+nb) (aO st) (aO a)->qX key (aO a) sa (b+nb)->Q true a): pg M A E s (mergeAt' i) Q st:=by
 revert L g hi f c e d hz s1 s2 h;revert pd st i sa na pw b nb qw Q;intros pd st i sa na pw sb nb qw Q;intro L W hi hj C n1 n2 hz s1 s2 h;have Y:sb+nb<=(aO st).size:=by rw [W.size];exact hz
 have l:=aw (ik n2) Y;have t1:qX key (aO st) sa sb:=by rw [C];exact s1
 have m:∀ x∈(aO st).toList,x∈a₀.toList:=λx hx=>(fT.mp W.perm).mem_iff.mp hx;have G:∀ u v,∀ x∈((aO st).extract u (u+v)).toList,x∈a₀.toList:=λu v x hx=>by
  replace hx:=kJ▸hx;exact m x (lV (eh hx))
 refine aG (kE ?_);rw [show (sortPriv% PySem.Builtin.SortState.pending) st=pd from W.pend,hi,hj];refine aG (It (aG (dH (gJ l) (aG (kI (hint:=0) L W.kind (m _ (nB l)) m (show sa+na<=(aO st).size from C▸aF l) n1 s1 λk k1 k2 k3=>?_)))));have a9:∀ j,sa<=j->j<sa+k->KK key (aO st) j<=KK key (aO st) sb:=λj a b=>by
  have:=(k2 (j - sa) (lY a b)).le;replace this:=(bo a)▸this;rw [mP l];exact this
 obtain ⟨o,b7,N,a2⟩:∃ o,o=jc (kindOf st) (aO st) ((pd.setIfInBounds i (sa,na+nb,pw)).eraseIdxIfInBounds (i+1)) (gallopOf st) (jk st)/\SB κ a₀ ((pd.setIfInBounds i (sa,na+nb,pw)).eraseIdxIfInBounds (i+1)) o/\aO o=aO st:=(i13 _ rfl ⟨W.perm,W.kind,W.failed,rfl⟩ rfl);refine (?_:pg M A E s _ _ (jc (kindOf st) (aO st) ((pd.setIfInBounds i (sa,na+nb,pw)).eraseIdxIfInBounds (i+1)) (gallopOf st) (jk st)));rw [<- b7];refine dy (λe=>aY (h o N (by rw [a2];exact wh.refl _) ?_)) λe1=>?_
 ·have e:=bE e;rw [a2];intro u v K D I;by_cases c1:v<sb;·exact t1 u v K D c1
  ·by_cases c2:u<sb;·exact bv (a9 u K (by rw [(bB k1 (De.1 e)),<- C];exact c2)) (s2 sb v (aq _) (ba c1) I)
   ·exact s2 u v (ba c2) D I
 have F:sa+k+(na - k)=sb:=by rw [dX,bo (aF (Nat.lt_of_sub_pos (je e1))),C]
 have H:sb - 1<(aO st).size:=aR (fU _ _) l;have a7:=eK (aw n1 (C▸dC na sa)) df;refine aG (dH (p:=(aO st)[sb - 1]) (by rw [(show sa+k+(na - k) - 1=sb - 1 from by rw [F])];exact gJ H) (aG (kI (hint:=nb - 1) L N.kind (m _ (nB H)) m Y (eK n2 df) s2 λk' q1 q2 q3=>?_)));have V:∀ j,sb+k'<=j->j<sb+nb->KK key (aO st) (sb - 1)<=KK key (aO st) j:=λj a b=>by
  have c:=ab (aI sb k') a;have:=zg (q3 (j - sb) (yN a) (lY c b));replace this:=(bo c)▸this;rw [mP H];exact this
 refine dy (λe=>aY (h o N (by rw [a2];exact wh.refl _) ?_)) λe2=>?_
 ·have e:=bE e;rw [a2];intro u v K D I;by_cases c1:v<sb;·exact t1 u v K D c1
  ·by_cases c2:u<sb;·exact bv (t1 u (sb - 1) K (cW c2) a7) (V v (by rw [e];exact ba c1) I)
   ·exact s2 u v (ba c2) D I
 have Z:=F▸aI _ _;have T:=ab Z (aI sb k');have a1:=sE q1 Y;have px:=GC (λi j a b c=>t1 i j (ab (aI sa k) a) b (F▸c)) (by rw [F];exact aF l);have py:=GC (λi j a b c=>s2 i j a b (aw c (aL q1 sb))) a1;replace px:=F▸px;have zx:((aO st).extract (sa+k) sb).size=na - k:=by rw [FP,dB (aF l)];exact (Df Z).2 F.symm
 have zy:((aO st).extract sb (sb+k')).size=k':=by rw [FP,dB a1,dI]
 have mx:∀ p∈((aO st).extract (sa+k) sb).toList,∃ j,sa+k<=j/\j<sb/\KK key (aO st) j=key p:=λp f=>by
  rw [<- F,kJ] at f;refine e13 (om (key:=key) f) λj R z0 P=>?_;exact i13 (sa+k+j) (aI _ _) (F▸cy R (sa+k)) P
 have my:∀ p∈((aO st).extract sb (sb+k')).toList,∃ j,sb<=j/\j<sb+k'/\KK key (aO st) j=key p:=λp f=>by
  replace f:=kJ▸f;refine e13 (om (key:=key) f) λj R z1 P=>?_;exact i13 (sb+j) (aI _ _) (cy R sb) P
 have a8:∀ j,sa+k<=j->j<sb->KK key (aO st) sb<=KK key (aO st) j:=λj a b=>by
  have c:=ab (aI sa k) a;have:=zg (k3 (j - sa) (yN a) (lY c (C▸b)));replace this:=(bo c)▸this;rw [mP l];exact this
 have a3:∀ j,sb<=j->j<sb+k'->KK key (aO st) j<=KK key (aO st) (sb - 1):=λj a b=>by
  have:=(q2 (j - sb) (lY a b)).le;replace this:=(bo a)▸this;rw [mP H];exact this
 have bx:∀ p∈((aO st).extract (sa+k) sb).toList,KK key (aO st) sb<=key p/\key p<=KK key (aO st) (sb - 1):=λp f=>by
  refine e13 (mx p f) λj R P j3=>?_;rw [<- j3];exact ⟨a8 j R P,t1 j (sb - 1) (ab (aI sa k) R) (cW P) a7⟩
 have bY:∀ p∈((aO st).extract sb (sb+k')).toList,KK key (aO st) sb<=key p/\key p<=KK key (aO st) (sb - 1):=λp f=>by
  refine e13 (my p f) λj R P j3=>?_;rw [<- j3];exact ⟨s2 sb j (aq _) R (aw P (aL q1 sb)),a3 j R P⟩
 have ek:=(Df T).2 (by rw [<- dX,F]);have b3:∀ (r:Array aC) g,FR o g->wI key ((aO st).extract (sa+k) sb) ((aO st).extract sb (sb+k')) r->Q true (setArr g (r.toList.zipIdx.foldl (λa x=>match x with | (p,j)=>a.setIfInBounds (sa+k+j) p) (aO g))):=λr g J S=>by
  have U:r.toList.length=sb+k' - (sa+k):=by
   have:=S.1.length_eq;simp only [aB,cI] at this ⊢;rw [this,zx,zy,ek]
  have el:sa+k+r.toList.length=sb+k':=by rw [U,bo T]
  have b4:sa+k+r.toList.length<=(aO st).size:=by rw [el];exact a1
  have hw:=By (xs:=aO st) (i:=sa+k) b4;refine e02 (Ip hw b4) λw1 w2=>?_;have a0:=BP (n:=sb+k' - (sa+k)) hw (by
   refine S.1.trans (Ep ?_);have e3:=kJ (xs:=aO st) (i:=sa+k) (k:=na - k);replace e3:=F▸e3;rw [e3,kJ,ek,Lj,g0,F]) U
  rw [(J.a.trans a2)];refine h _ ⟨a0.trans W.perm,J.k.trans N.kind,J.f.trans N.failed,J.p.trans N.pend⟩ (w1.mono (aI sa k) (by rw [el];exact aL q1 sb)) ?_;have bd:∀ p∈r.toList,KK key (aO st) sb<=key p/\key p<=KK key (aO st) (sb - 1):=λp f=>by
   rcases mA (S.1.mem_iff.mp f) with f | f;·exact bx p f
   ·exact bY p f
  generalize r.toList.zipIdx.foldl (λa x=>match x with | (p,j)=>a.setIfInBounds (sa+k+j) p) (aO st)=ys at w1 w2;have X:∀ j,sa+k<=j->j<sb+k'->∃ p,p∈r.toList/\r.toList[j - (sa+k)]?=some p/\KK key ys j=key p:=λj a b=>by
   refine e13 (w2 j a (by rw [el];exact b)) λp K D I=>?_;exact i13 p K D (by delta KK;rw [I])
  have B:∀ j,j<sa+k\/sb+k'<=j->KK key ys j=KK key (aO st) j:=λj hj=>w1.kk (by rw [el];exact hj);intro u v K D I;by_cases cu:u<sa+k
  ·rw [B u (.inl cu)];by_cases cv:v<sa+k;·rw [B v (.inl cv)];exact t1 u v K D (aw cv Z)
   ·refine bv (a9 u K cu) ?_;by_cases t:v<sb+k'
    ·refine e13 (X v (ba cv) t) λp g1 z2 g2=>?_;rw [g2];exact (bd p g1).1
    ·rw [B v (.inr (ba t))];exact s2 sb v (aq _) ((λz=>ab (aI sb k') (ba z)) t) I
  ·have a5:=ba cu;by_cases b5:u<sb+k'
   ·refine e13 (X u a5 b5) λp g1 g2 g3=>?_;rw [g3];by_cases t:v<sb+k'
    ·refine e13 (X v (ab a5 D) t) λq f1 f2 f3=>?_;rw [f3];by_cases b0:u=v
     ·subst b0;replace f2:=g2▸f2;refine iM f2 λz3=>?_;clear f2;subst z3;exact eR _
     ·refine e11 (gE g2) λy1 y2=>?_;refine e11 (gE f2) λy3 y4=>?_;have:=gl.mp S.2 _ _ y1 y3 (FE a5 (cG D b0));rw [y2,y4] at this;exact this
    ·rw [B v (.inr (ba t))];exact bv (bd p g1).2 (V v (ba t) I)
   ·have a4:=ba b5;rw [B u (.inr a4),B v (.inr (ab a4 D))];exact s2 u v (ab (aI sb k') a4) D I
 have y:0<((aO st).extract (sa+k) sb).size:=by rw [zx];exact je e1
 have a6:0<((aO st).extract sb (sb+k')).size:=by rw [zy];exact (je e2)
 have b6:key (((aO st).extract (sa+k) sb)[((aO st).extract (sa+k) sb).size - 1]'(eK y df))=KK key (aO st) (sb - 1):=by
  rw [Bx,mP H];congr 2;rw [zx,<- Ih (je e1),F]
 have hf:fe key [((aO st).extract sb (sb+k'))[0]] ((aO st).extract (sa+k) sb).toList:=λp f q hq=>by
  rw [mS f,(show key ((aO st).extract sb (sb+k'))[0]=KK key (aO st) sb from by rw [Bx,mP l];rfl)];exact (bx q hq).1
 have hl:fe key ((aO st).extract sb (sb+k')).toList [((aO st).extract (sa+k) sb)[((aO st).extract (sa+k) sb).size - 1]'(eK y df)]:=λp f q hq=>by
  rw [mS hq,b6];exact (bY p f).2
 have b1:fe key ((aO st).extract sb (sb+k')).toList (((aO st).extract (sa+k) sb).toList.drop (((aO st).extract (sa+k) sb).size - 1)):=λp f q hq=>by
  refine hl p f q ?_;have hd:=me (xs:=(aO st).extract (sa+k) sb) (i:=((aO st).extract (sa+k) sb).size - 1) (eK y df);rw [kj y,Bw (aj cI)] at hd;rwa [hd] at hq
 have w:=G (sa+k) (na - k);replace w:=F▸w;refine f9 (λ_=>aG (zJ L N.kind w (G sb k') px py y a6 hf b1 λr g J S=>aG (jN (aG (kE (aY ?_)))))) λ_=>aG (zK L N.kind w (G sb k') px py y a6 hf b1 λr g J S=>aG (jN (aG (kE (aY ?_)))))
 ·have:=b3 r g J S;refine (?_:Q (jk g).isNone _);rw [J.f.trans N.failed];exact this
 ·have:=b3 r g J S;refine (?_:Q (jk g).isNone _);rw [J.f.trans N.failed];exact this
end
section
variable {key:aC->Int}
noncomputable def pa (key:aC->Int) (xs:Array aC):List (Nat × Nat × Nat)->Nat->Nat->Prop
 | [],lo,hi=>lo=hi
 | p::r,lo,hi=>p.1=lo/\1<=p.2.1/\qX key xs p.1 (p.1+p.2.1)/\pa key xs r (p.1+p.2.1) hi
theorem pa.le {xs:Array aC} {l:List (Nat × Nat × Nat)}:∀ {a hi:Nat},pa key xs l a hi->a<=hi:=by
 induction l with
 | nil=>exact λh=>aj h
 | cons p r c=>exact λh=>h.1▸ab (aI _ _) (c h.2.2.2)
theorem pa.len {xs:Array aC} {l:List (Nat × Nat × Nat)}:∀ {a hi:Nat},pa key xs l a hi->a+l.length<=hi:=by
 induction l with
 | nil=>exact λh=>aj h
 | cons p r c=>exact λh=>ab (by rw [<- h.1,fQ,<- dX,nH];exact dt (aL h.2.1 _) _) (c h.2.2.2)
theorem pa.append {xs:Array aC} {l r:List (Nat × Nat × Nat)}:∀ {a hi:Nat},pa key xs (l++r) a hi↔∃ m,pa key xs l a m/\pa key xs r m hi:=by
 induction l with
 | nil=>exact λ{a hi}=>⟨λh=>⟨a,rfl,h⟩,λh=>h.elim λm h=>h.1▸h.2⟩
 | cons p l c=>exact ⟨λh=>(c.mp h.2.2.2).elim λm k=>⟨m,⟨h.1,h.2.1,h.2.2.1,k.1⟩,k.2⟩,λh=>h.elim λm k=>⟨k.1.1,k.1.2.1,k.1.2.2.1,c.mpr ⟨m,k.1.2.2.2,k.2⟩⟩⟩
theorem pa.oth {xs ys:Array aC} {u v:Nat} (o:wh u v xs ys) {l:List (Nat × Nat × Nat)}:∀ {a hi:Nat},pa key xs l a hi->hi<=u\/v<=a->pa key ys l a hi:=by
 induction l with
 | nil=>exact λh _=>h
 | cons p r c=>exact λh k=>⟨h.1,h.2.1,h.2.2.1.oth o (k.imp (ab h.2.2.2.le) λz=>ab z (aj h.1.symm)),c h.2.2.2 (k.imp id λz=>ab z (ab (aj h.1.symm) (aI _ _)))⟩
theorem pa.congr {xs:Array aC} {l:List (Nat × Nat × Nat)}:∀ {r:List (Nat × Nat × Nat)} {a hi:Nat},pa key xs l a hi->r.map (λp=>(p.1,p.2.1))=l.map (λp=>(p.1,p.2.1))->pa key xs r a hi:=by
 induction l with
 | nil=>exact λh e=>List.map_eq_nil_iff.1 e▸h
 | cons p l f=>
  intro r a hi h e;cases r with
  | nil=>cases e
  | cons q r=>refine e02 (Px e) λi g=>?_;refine e02 (Prod.mk.inj i) λd c=>?_;refine i04 (d.trans h.1) (by rw [c];exact h.2.1) (by rw [d,c];exact h.2.2.1) (by rw [d,c];exact f h.2.2.2 g)
theorem B0 {α a:Type} (f:α->α) (g:α->a) (h:∀ x,g (f x)=g x) (l:List α) (i:Nat):(l.modify i f).map g=l.map g:=by
 apply ja;intro k;rw [av,av,List.getElem?_modify];cases l[k]? with
 | none=>rfl
 | some x=>split <;>simp [h]
theorem GX {α:Type} {l:List α} {i:Nat} (h:i+1<l.length):∃ a x y b,l=a++x::y::b/\a.length=i:=(i42 (l.take i) (l[i]) (l[i+1]) (l.drop (i+1+1)) (by
 rw [<- (jD h),<- (jD (by lia)),fV]) (by rw [cS];lia))
end
section
open Z
variable {pd:Array (Nat × Nat × Nat)}
theorem qy {st:bl} {i hi:Nat} {Q:Bool->bl->Prop} (L:kq M A E s κ key a₀) (D:SB κ a₀ pd st) (hz:hi<=a₀.size) (ht:pa key (aO st) pd.toList 0 hi) (p:i+1<pd.size) (h:∀ c d,SB κ a₀ d c->wh 0 hi (aO st) (aO c)->pa key (aO c) d.toList 0 hi->d.size+1=pd.size->Q true c):pg M A E s (mergeAt' i) Q st:=by
 refine e42 (GX (by trivial)) λa x y b e B=>?_;obtain rfl:=B;obtain ⟨n,j,f⟩:=x;obtain ⟨I,g,u⟩:=y;replace ht:=e▸ht;refine e18 (pa.append.mp ht) λm C r q z l w v k=>?_;dsimp only at r q z l w v k;refine zL (na:=j) (pw:=f) (nb:=g) (qw:=u) L D (by rw [<- cM,e];simp) (by rw [<- cM,e];simp) l q w (ab k.le hz) z v λc H o t=>h c _ H (o.mono (aM _) k.le) ?_ ?_
 ·obtain G:((pd.setIfInBounds a.length (n,j+g,f)).eraseIdxIfInBounds (a.length+1)).toList=a++(n,j+g,f)::b:=by
   rw [tX,xd,e];simp [List.eraseIdx_append_of_length_le]
  rw [G];refine pa.append.mpr (i15 m (C.oth o (.inl (aj r.symm))) r (ab q (aI _ _)) ?_ ?_);·rw [l,dX] at t;exact t
  ·rw [<- dX,<- l];exact k.oth o (.inr (aq _))
 ·obtain F:((pd.setIfInBounds a.length (n,j+g,f)).eraseIdxIfInBounds (a.length+1)).toList.length+1=pd.toList.length:=by
   rw [tX,xd,List.length_eraseIdx,jY,if_pos (by trivial)];exact kj (by exact uj p)
  simpa only [cI] using F
theorem z2 {n:Nat} (h:1<n):n - 2+1<n:=by
 refine e11 (jX h) λk a=>?_;obtain rfl:=a;exact bU (k+1)
noncomputable abbrev KZ {β:Type} (x:Nat) (c:Option β × Nat) (st':bl):Prop:=∃ lo pd,c=(none,lo)/\lo<=a₀.size/\x<=lo/\SB κ a₀ pd st'/\pa key (aO st') pd.toList 0 lo
noncomputable abbrev KY {β:Type} (c:Option β × Nat) (st':bl):Prop:=∃ pd,c=(none,a₀.size)/\SB κ a₀ pd st'/\pa key (aO st') pd.toList 0 a₀.size
noncomputable abbrev Mb {β:Type} (lo n:Nat) (c:Option β × Unit) (st':bl):Prop:=c=(none,())/\∃ pd',SB κ a₀ pd' st'/\pa key (aO st') pd'.toList 0 lo/\qX key (aO st') lo (lo+n)
theorem wq {st:bl} {Q:Unit->bl->Prop} (L:kq M A E s κ key a₀) (hB:SB κ a₀ #[] st) (h:∀ f pd',SB κ a₀ pd' f->qX key (aO f) 0 a₀.size->Q () f):pg M A E s Mt Q st:=by
 rw [sortRuns'_eq];refine aG (kE ?_);rw [hB.size];refine aG (jj (j5 (R:=KY) KZ ?step (i25 0 (#[]) rfl (aM _) (aq _) hB rfl) ?fin) ?post);case fin=>intro c;intro f;intro z0;refine e25 z0 λu g z10 h1 h2 h3 h4=>?_;clear z0;obtain rfl:=z10;obtain rfl:=bB h1 h2;exact i13 g rfl h3 h4
 case step=>
  intro x;intro c;intro st1;intro hx;intro z1;refine e25 z1 λu g z11 C hxl b1 t1=>?_;clear z1;obtain rfl:=z11;refine f9 (λI=>?_) λI=>?_
  ·obtain rfl:=bB C I;exact aY (i13 g rfl b1 t1)
  have F:=bo C;refine aG (yo L (aj F) (gz (ij I)) b1 λm st2 b2 o2 m1 m2 s2=>?_);dsimp -zeta only;extract_lets n0 jp frc;have D:∀ n st3,SB κ a₀ g st3->wh u a₀.size (aO st2) (aO st3)->1<=n->n<=a₀.size - u->qX key (aO st3) u (u+n)->pg M A E s (jp () n) (rU KY (KZ (x+1))) st3:=by
   intro n st3 b3 o3 n1 n2 s3;have t3:=(t1.oth o2 (.inl (aq _))).oth o3 (.inl (aq _));refine aG (kE ?_);rw [b3.pend];extract_lets lo2 jp2;have w:∀ st4 d,SB κ a₀ d st4->pa key (aO st4) d.toList 0 u->qX key (aO st4) u (u+n)->pg M A E s (jp2 ()) (rU KY (KZ (x+1))) st4:=λst4 d k z G=>
    aG (jN (aY (i25 (u+n) (d.push (u,n,0)) rfl (qx C n2) (bJ hxl n1) ⟨k.perm,k.kind,k.failed,by rw [k.pend]⟩ (by
     rw [kz];exact pa.append.mpr (i15 u z rfl n1 G rfl)))))
   cases g.back? with
   | none=>exact w _ _ b3 t3 s3
   | some p=>
   refine aG (jj (j5 (R:=Mb u n) (λ_=>Mb u n) ?st ⟨rfl,g,b3,t3,s3⟩ (λ_ _ q=>q)) ?po);case po=>
    intro c;intro st4;intro z3;obtain ⟨rfl,d,k,z,G⟩:=z3;refine aG (jN (w _ (d.modify (d.size - 1) λx=>(x.1,x.2.1,power' a₀.size (2*p.1+p.2.1) (2*p.1+p.2.1+p.2.1+n) a₀.size)) ⟨k.perm,k.kind,k.failed,?_⟩ (z.congr ?_) G));·rw [<- k.pend]
    ·rw [Array.toList_modify];exact B0 (λx:Nat × Nat × Nat=>(x.1,x.2.1,power' a₀.size (2*p.1+p.2.1) (2*p.1+p.2.1+p.2.1+n) a₀.size)) (λp=>(p.1,p.2.1)) (λ_=>rfl) _ _
   case st=>
    intro y;intro c;intro st4;intro hy;intro z4;obtain ⟨rfl,d,k,z,G⟩:=z4;refine aG (kE ?_);rw [k.pend];dsimp only;by_cases B:d.size>1
    ·rw [if_pos B,getElem?_pos d (d.size - 2) (gB (z2 B))];refine f9 (λ_=>aY ⟨rfl,d,k,z,G⟩) λ_=>?_;exact aG (qy L k C z (i:=d.size - 2) (z2 B) λst5 H b5 o5 t5 _=>dy (λe=>absurd e bb) λ_=>aY ⟨rfl,H,b5,t5,G.oth o5 (.inr (aq _))⟩)
    ·rw [if_neg B];exact aY ⟨rfl,d,k,z,G⟩
  refine f9 (λ_=>?_) λ_=>D m st2 b2 (wh.refl _) m1 m2 s2;have hmn:=ab (aL (mX (a₀.size - u) (Pt a₀.size a₀.size 0)) u) (aj F);have hf:m<=min (a₀.size - u) (Pt a₀.size a₀.size 0):=by rename_i hm;exact Nat.le_min.mpr ⟨m2,aF hm⟩
  refine aG (nj (eT ⟨rfl,aG (Iu (n:=min (a₀.size - u) (Pt a₀.size a₀.size 0)) L hmn hf b2 s2 λst3 b3 o3 s3=>dy (λe=>absurd e bb) λ_=>?_)⟩));exact D _ st3 b3 (o3.mono (aq _) hmn) (ab m1 hf) (mX _ _) s3
 case post=>
  intro c;intro f;intro z6;refine e13 z6 λg z12 b t=>?_;clear z6;obtain rfl:=z12;refine aG (jj (j5 (R:=λc f=>c=(none,())/\∃ g,SB κ a₀ g f/\pa key (aO f) g.toList 0 a₀.size/\g.size<=1) (λy c f=>c=(none,())/\∃ g,SB κ a₀ g f/\pa key (aO f) g.toList 0 a₀.size/\g.size+y<=a₀.size) ?st ⟨rfl,g,b,t,?i⟩ ?fi) ?po);case i=>have:=t.len;exact Nat.le_of_add_left_le this
  case fi=>intro c;intro f;intro z7;obtain ⟨rfl,g,b,t,hz⟩:=z7;exact ⟨rfl,g,b,t,fa1 hz⟩
  case po=>
   intro c;intro f;intro z8;obtain ⟨rfl,g,b,t,hz⟩:=z8;refine aY (h f g b ?_);cases hl:g.toList with
   | nil=>replace t:=hl▸t;intro i j h1 h2 h3;have:0=a₀.size:=t;lia
   | cons p r=>
   replace t:=hl▸t;cases r with
   | nil=>refine e04 t λh1 h2 h3 h4=>?_;clear t;rw [h4,h1] at h3;exact h3
   | cons q l=>obtain this:=congrArg lW hl;simp at this;lia
  case st=>
   intro y;intro c;intro st4;intro hy;intro z9;obtain ⟨rfl,d,k,z,hz⟩:=z9;refine aG (kE ?_);rw [k.pend];refine f9 (λB=>aY ⟨rfl,d,k,z,B⟩) λB=>?_;dsimp only;generalize hi:(if Option.any (λx=>decide (x<d[d.size - 2+1]?.elim 0 λx=>x.snd.fst)) (if d.size - 2>0 then Option.map (λx=>x.snd.fst) d[d.size - 2 - 1]? else none)=true then d.size - 2 - 1 else d.size - 2)=i;obtain hi0:∀ (c:Prop) [Decidable c],(if c then d.size - 2 - 1 else d.size - 2)+1<d.size:=λc _=>by split;exact aR (dt (fU _ 1) 1) (z2 (ij B));exact z2 (ij B)
   exact aG (qy L k (aq _) z (by rw [<- hi];exact hi0 _) λst5 H b5 o5 t5 z5=>dy (λe=>absurd e bb) λ_=>aY ⟨rfl,H,b5,t5,fa2 hz (aj z5)⟩)
end
theorem rn {M:lM} {A:bj} {E:ae->af->Prop} {s:af} {b:lO} {key:aC->Int} {a₀:Array aC} {st:bl} {Q:Unit->bl->Prop} (L:kq M A E s b key a₀) (d:SB b a₀ #[] st) (h:∀ a c,SB b a₀ c a->qX key (aO a) 0 a₀.size->Q () a):pg M A E s Mt Q st:=KQ Z.MH (P:=Z.ok) (λL st Q d h=>wq L d h) ⟨M,A,E,s,b,key,a₀⟩ L st Q d h
end
section
open PySem.Spec PySem.Calls PySem.W PyProof.Rows
section
variable {prog:Po} {w:ar} {A:bj} {E:ae->af->Prop} {s:af}
theorem GW {a₀:Array aC} (h:∀ p∈a₀.toList,∃ n t,p.1=.int n t):kq (rg prog w) A E s tt (λp=>LI p.1) a₀:=by
 intro p q d c Q st e a;refine e21 (h p d) λn t g=>?_;refine e21 (h q c) λm u f=>?_;rw [OA];refine aG (kE ?_);rw [e];replace a:Q (some (decide (LI p.1<LI q.1))) st:=a;rw [g,f] at a ⊢;exact aG (nj (eQ (oneLt_int ⟨rfl,aY a⟩)))
noncomputable def Hv (h:aA) (v:ae) (x y:Int):Prop:=∃ a o n t u,v=.ref a/\h.get? a=some o/\o.cls=.type "tuple"/\o.data=.seq #[.int x t,.int y u] n
theorem EJ {a₀:Array aC} {key:ae->Int} (h:∀ p∈a₀.toList,∃ x y,Hv s.heap p.1 x y/\key p.1=x*1048576+y/\0<=y/\y<1048576):kq (rg prog w) A E s (LH true) (λp=>key p.1) a₀:=by
 intro p q K J Q st M j;refine e24 (h p K) λx y r i T S=>?_;refine e54 r λa o n t u C L R N=>?_;clear r;refine e24 (h q J) λv G m g F D=>?_;refine e54 m λO W X V U f k P l=>?_;clear m;rw [OA];refine aG (kE ?_);rw [M];rw [C] at i ⊢;rw [f] at g ⊢;replace j:Q (some (decide (key p.1<key q.1))) st:=j;rw [C,f] at j;have d:∀ b,b=decide (key (.ref a)<key (.ref O))->Q (some b) st:=λb e=>by rw [e];exact j
 refine aG (nj (eQ (kat_lt (Q:=λb H=>H=s/\_) L N k l ?_)));refine JE (Mn ?_);refine kat_go (λe=>LC ?_) λe=>?_
 ·obtain B:=eq_of_beq e;refine JE (Mn ?_);refine kat_go (λf=>LC (kat_nil ?_)) λf=>?_
  ·obtain I:=eq_of_beq f;exact ⟨rfl,aY (d _ (by rw [i,g,B,I];simp))⟩
  ·refine kat_no (kat_one _ _ (w4 ⟨rfl,aY (d _ ?_)⟩));rw [i,g,B];by_cases c:y<G;·rw [decide_eq_true c,decide_eq_true (jP c (v*1048576))]
   ·rw [decide_eq_false c,decide_eq_false (pU.2 (fi1 (pU.1 c)))]
 ·refine kat_no (oneLt_int ⟨rfl,aY (d _ ?_)⟩);rw [i,g];by_cases c:x<v;·rw [decide_eq_true c,decide_eq_true (by lia)]
  ·rw [decide_eq_false c,decide_eq_false (by lia)]
theorem B2 {a:ay} {vs:List ae} {n:Nat} {P:bO->af->Prop} {key:ae->Int} (ho:s.heap.get? a=some (cV "list" vs.toArray n)) (hz:vs.length<=1000) (y:2<=vs.length->∃ x,∀ l:af,(∀ b o,b≠a->s.heap.get? b=some o->l.heap.get? b=some o)->(∀ Q:lO->af->Prop,Q x l->aV (rg prog w) A (OB vs.toArray) Q E l)/\kq (rg prog w) A E l x (λp=>key p.1) (w0 vs)) (h:∀ i:Array ae,i.toList.Perm vs->i.toList.Pairwise (λu v=>key u<=key v)->P (.done (.ret .none)) {s with heap:=q8 s.heap a vs i}): aV (rg prog w) A (Builtin.«list.sort» ⟨[.ref a],[]⟩) P E s:=by
 revert prog w A E s a vs n P key;intros prog w A E s a vs n P key;intro ho hz y h;rw [list_sort_plain];obtain I:=aH ho;obtain B:=eY;refine aa (q9 ho rfl ?_);refine aa (ky ho rfl ?_ (by rw [bk];exact ab (by assumption) (by decide)) (aM _));obtain ⟨F,r⟩:∃ F,(s.heap.update a (bu λ_=>#[])).get? a=some (cV "list" #[] F):=⟨_,kG ho (λ_=>#[])⟩;refine aa (tn r rfl ?_);refine aa (CR ?_ (by exact ab (by assumption) (by decide)));refine aa (uJ ?_);refine bw ?_;have f:(((s.heap.update a (bu λ_=>#[])).push (cV "tuple" vs.toArray 0)).push (cV "list" #[] 0)).get? a=some (cV "list" #[] F):=by
  rw [H1 _ _ _ (by rw [kP,gY];exact bg (jd I)),H1 _ _ _ (by rw [gY];exact bg I)];exact r
 show aV (rg prog w) A _ P E {s with heap:=((s.heap.update a (bu λ_=>#[])).push (cV "tuple" vs.toArray 0)).push (cV "list" #[] 0)};dsimp only;have t:∀ (k:Array aC),k.Perm (w0 vs)->Pw (λp=>key p.1) k.toList->P (.done (.ret .none)) {s with heap:=q8 s.heap a vs (k.map (·.2))}:=by
  intro k j m;have B:k.toList.Perm (vs.zip vs):=by rw [<- tq];exact fT.mp j
  obtain H:=λp z=>(mem_zip_self (B.mem_iff.mp z)).1;refine h _ ?_ ?_
  ·rw [oT];obtain this:=B.map (·.2);rwa [Ii (aq _)] at this
  ·rw [oT,cT];refine Mx (λ{p q} j M R=>?_) m;rw [<- H p j,<- H q M];exact R
 by_cases g:vs.toArray.size<2
 ·rw [if_pos g,if_pos g];refine aa (ah ?_);refine aa (ah ?_);dsimp only;refine aa (tn f rfl ?_);refine aa (ky f rfl ?_ (aM _) (by rw [xe];refine (?_:(w0 vs).size<=_);rw [Pq];exact ab (by assumption) (by decide)));rw [bne_self_eq_false];refine ah (t (w0 vs) (nX _) ?_);rw [tq];exact GB (by rw [List.length_zip,Nat.min_self];exact g)
 ·rw [if_neg g,if_neg g];refine e11 (y (by replace g:=bk▸g;exact ba g)) λx y=>?_;refine e02 (y {s with heap:=((s.heap.update a (bu λ_=>#[])).push (cV "tuple" vs.toArray 0)).push (cV "list" #[] 0)} (λb o O e=>au _ (au _ ((mW _ _ _ _ O).trans e)))) λD C=>?_;refine aa (D _ ?_);refine aa (cr (rn (st:=jc x (vs.toArray.zip vs.toArray) #[] 7 none) C ⟨nX _,rfl,rfl,rfl⟩
   (Q:=λ_ d=>(aO d).Perm (w0 vs)/\jk d=none/\Pw (λp=>key p.1) (aO d).toList) λd L b m=>(i03 b.perm b.failed (xu (by rw [b.size];exact m)))) ?_ λ_ _ e=>e)
  intro K;obtain ⟨⟨⟩,d⟩:=K;intro l;intro G;refine e04 G λJ j N m=>?_;clear G;obtain rfl:=J;refine aa (tn f rfl ?_);refine aa (ky f rfl ?_ (aM _) (by refine ab (aj ((xe ..).trans (j.size_eq.trans (Pq _)))) ?_;exact ab (by assumption) (by decide)));rw [N];rw [bne_self_eq_false];exact ah (t _ j m)
theorem wy {H:aA} {a:ay} {vs:List ae} {out:Array ae} {n:Nat} (c:H.get? a=some (cV "list" vs.toArray n)):(∀ b o,b≠a->H.get? b=some o->(q8 H a vs out).get? b=some o)/\(∃ n,(q8 H a vs out).get? a=some (ao out n))/\H.objs.size<=(q8 H a vs out).objs.size:=by
 delta q8;refine i03 (λb o h e=>(mW _ _ _ _ h).trans (au _ (au _ ((mW _ _ _ _ h).trans e)))) ?_ ?_;·exact ⟨_,kG (au (cV "list" #[] 0) (au (cV "tuple" vs.toArray 0) (kG c λ_=>#[]))) λ_=>out⟩
 ·rw [gY,kP,kP,gY];exact fa0
theorem VA.perm {g:aA} {vs b:List ae} {ds:List ag} (hp:b.Perm vs):VA g vs ds->∃ es,es.Perm ds/\VA g b es:=by
 refine hp.rec (motive:=λb vs _=>∀ ds,VA g vs ds->∃ es,es.Perm ds/\VA g b es) (λds h=>⟨ds,.refl _,h⟩) (λx _ _ _ j ds=>ds.rec (λh=>h.elim) λd ds _ h=>(j ds h.2).elim λes e=>⟨d::es,e.1.cons d,h.1,e.2⟩) (λx y l ds=>ds.rec (λh=>h.elim) λd ds _=>ds.rec (λh=>h.2.elim) λe ds _ h=>⟨e::d::ds,.swap _ _ _,h.2.1,h.1,h.2.2⟩) (λ_ _ i c ds h=>(c ds h).elim λes e=>(i es e.2).elim λk f=>⟨k,f.1.trans e.1,f.2⟩) ds
end
section
variable {w:ar} {r:Nat}
theorem xl {ds:List ag} {key:aA->ae->Int} {g:aA} {v:ae} {A:bj} {s:af} {Q:ae->af->Prop} {E:ae->af->Prop} (S:SS w g s) (hz:ds.length<=1000) (y:∀ (L:List ae->af->Prop),(∀ h k c,iB s g k c->VA c h ds->L h k)->aV (MM w) A.in1 (Ph v) L E s) (U:∀ g (h:List ae),VA g h ds->∀ (A:bj) (E:ae->af->Prop),2<=h.length->∃ B,∀ d:af,eN g d.heap->(∀ Q:lO->af->Prop,Q B d->aV (MM w) A (OB h.toArray) Q E d)/\kq (MM w) A E d B (λp=>key g p.1) (w0 h)) (q:∀ c C d l j (z:List ag),iB s g d C->z.Perm ds->VA c j z->j.Pairwise (λu v=>key c u<=key c v)->V C (.ref l) (.list z)->Q (.ref l) d):aV (MM w) A (call (.builtin "sorted") [v]) Q E s:=by
 refine Calls.call_function_entry Qi Pp Pu (args_sorted1 _) ?_;refine aa (ah ?_);refine aa (y _ λj k c H f=>?_);refine aa (uJ ?_ (fa3 hz (aj eY.symm) (aj f.length)));obtain K:=S.step H;obtain i:(k.heap.push (cV "list" j.toArray 0)).get? k.heap.objs.size=some (cV "list" j.toArray 0):=az _ rfl;refine aa (bw (ck Oy (i12 _ i rfl) No (B2 (key:=key c) i (le_of_eq_of_le f.length hz) (λW=>?_) λm T R=>(i12 _ rfl ?_)) (args_list_sort _)))
 ·obtain ⟨B,D⟩:=U c j f _ _ W;refine ⟨B,λd F=>D d λb o e=>?_⟩;obtain I:=K.sub b o e;exact F b o (bg (aH I)) (au _ I)
 ·refine ah (i12 _ rfl ?_);refine bc λM=>?_;refine e03 (wy (out:=m) i) λP G N=>?_;refine e11 G λn O=>?_;clear G;refine e12 (K.growNew (t:=k.toks) (λb o e=>P b o (bg (aH e)) (au _ e)) (ab (by rw [kP];exact er _) N) (aq _) O) λC x e=>?_;refine e12 (VA.perm T f) λz X J=>?_;refine M ?_;exact q c C _ _ _ z (H.trans x) X J R (jA (by rw [e]) (J.mono x.le))
theorem tM {ds:List ag} {key:aA->ae->Int} (hz:ds.length<=1000) (z:∀ g (d:List ae),VA g d ds->∀ (A:bj) (E:ae->af->Prop),2<=d.length->∃ j,∀ c:af,eN g c.heap->(∀ Q:lO->af->Prop,Q j c->aV (MM w) A (OB d.toArray) Q E c)/\kq (MM w) A E c j (λp=>key g p.1) (w0 d)) {P:ci} (B:∀ g h l a (i:List ag),i.Perm ds->VA g a i->a.Pairwise (λu v=>key g u<=key g v)->V h (.ref l) (.list i)->P h (.ref l)):iu w r (.builtin "sorted") [LL ds] P:=by
 intro g d m A s J S Q E q;refine e11 (hY m.length.symm) λv t=>?_;obtain rfl:=t;refine e24 (V.list_inv m.1) λl a n y f I=>?_;obtain rfl:=n;refine xl S hz (λK k=>collect_list (IsList.up y S.sub) (k a _ g (S.same (Stp.heap (λb o e=>(mW _ _ _ _ (bg (aH e))).trans (au _ e)) (by rw [gY,kP];exact er _))) f) (fa3 hz (aj f.length) (aj eY.symm))) z λH h c l a i x G F D C=>q _ h c x (B H h l a i G F D C)
theorem Ba {ns ms:List Int} (hz:ns.length<=1000) (hp:ms.Perm ns) (hs:ms.Pairwise (· <=·)):iu w r (.builtin "sorted") [LL (ns.map .int)] (LL (ms.map .int)):=by
 refine tM (key:=λ_=>LI) (by rw [ak];exact hz) (λg u m A E C=>⟨tt,λG z=>?_⟩) λg H l F j q v n m=>?_
 ·obtain p:=m.ints;obtain ⟨d,c,rest,rfl⟩:∃ d c rest,u=d::c::rest:=by
   exact Ky C
  exact ⟨λQ B=>by rw [keyKind_ints p];exact ah B,GW p.intKeys⟩
 ·obtain ⟨k,rfl,o⟩:∃ k:List Int,j=k.map .int/\k.Perm ns:=by
   refine i12 (j.map I2) ?_ ?_
   ·rw [cz];have:∀ e∈j,(cb ∘ I2) e=e:=λe h=>by
     refine e12 (mM (q.mem_iff.mp h)) λi D t=>?_;obtain rfl:=t;rfl
    exact (m9 j).symm.trans (dS λe h=>(this e h).symm)
   ·obtain this:=q.map I2;rwa [cz,show (I2 ∘ cb)=id from rfl,we] at this
  rw [<- (nn (λa b _ _ x y=>fC x y) (by rw [<- v.ints.nums,cT];exact n) hs (o.trans hp.symm))];exact m
end
noncomputable def v8 (es:List ce) (L:List (aE × ae)):Prop:=(∀ e∈es,e.refKey=false)/\∀ n:aE,(es.find? (·.key.isStr n)).map (·.val)=L.lookup n
theorem v8.get {es:List ce} {L:List (aE × ae)} (h:v8 es L) (n:aE):getL n es=some (L.lookup n):=by
 rw [<- h.2 n];delta getL;cases es.find? (·.key.isStr n) with
 | some e=>rfl
 | none=>exact if_neg (λq=>by
   refine e12 (hH.mp q) λe b a=>?_;replace a:=(h.1 e b)▸a;exact AH a)
structure Wr where
 x:ay
 dx:ay
 aD:ay
 aN:ay
 aS:ay
 aP:ay
 ds:List ag
 ns:List ag
 ss:List ag
 ps:List ag
 wa:ay
 dv:ae
 ats:List (aE × ae)
noncomputable def Wr.ne:Wr:=⟨0,0,0,0,0,0,[],[],[],[],0,.none,[]⟩
noncomputable def Wr.lists (W:Wr):List (ay × List ag):=[(W.aD,W.ds),(W.aN,W.ns),(W.aS,W.ss),(W.aP,W.ps)]
noncomputable def Wr.upd (W:Wr) (i:Nat) (es:List ag):Wr:=match i with
 | 0=>{W with ds:=es}
 | 1=>{W with ns:=es}
 | 2=>{W with ss:=es}
 | _=>{W with ps:=es}
theorem AL (W:Wr) (i:Nat) (es:List ag):(W.upd i es).x=W.x/\(W.upd i es).dx=W.dx/\(W.upd i es).wa=W.wa/\(W.upd i es).aP=W.aP/\(W.upd i es).dv=W.dv/\(W.upd i es).ats=W.ats:=by
 cases i with
 | zero=>exact i06 rfl rfl rfl rfl rfl rfl
 | succ i=>cases i with
  | zero=>exact i06 rfl rfl rfl rfl rfl rfl
  | succ i=>cases i <;>exact i06 rfl rfl rfl rfl rfl rfl
noncomputable def kb (a:ay):ff:={cls:=.type "builtin_function_or_method",data:=.fields #[.builtin "list.append",.ref a]}
noncomputable def mI (ts:List (ay × List ae × Nat)):List (ay × ff):=ts.map λt=>(t.1,ao t.2.1.toArray t.2.2)
structure Ma (W:Wr) (g:aA) (es:List ce) (ts:List (ay × List ae × Nat)):Prop where
 inst:g.get? W.x=some (q6 228 W.dx)
 wr:g.get? W.wa=some (kb W.aP)
 dat:V g W.dv (.list [])
 ats:v8 es W.ats
 few:es.length<=100
 len:ts.length=4
 lists:∀ (i:Nat) (a:ay) (ds:List ag),W.lists[i]?=some (a,ds)->∃ vs k,ts[i]?=some (a,vs,k)/\VA g vs ds
 apart:(W.dx::W.lists.map (·.1)).Nodup
noncomputable def WR (W:Wr):aA->ae->List (ay × ff)->Prop:=λg v objs=>v=.ref W.x/\∃ es n ts,objs=(W.dx,fv es n)::mI ts/\Ma W g es ts
theorem Ma.mono {W:Wr} {g g':aA} {es:List ce} {ts:List (ay × List ae × Nat)} (x:Ma W g es ts) (k:eN g g'):Ma W g' es ts:=
 ⟨k _ _ x.inst,k _ _ x.wr,x.dat.mono k,x.ats,x.few,x.len,λi a e h=>by refine e22 (x.lists i a e h) λd n c b=>?_;exact i22 d n c (b.mono k),x.apart⟩
structure zv (W:Wr) (g h:aA) (off:ay->Prop) (es:List ce) (n:Nat) (ts:List (ay × List ae × Nat)):Prop where
 ok:Ma W g es ts
 dict:h.get? W.dx=some (fv es n)/\off W.dx
 list:∀ t∈ts,h.get? t.1=some (ao t.2.1.toArray t.2.2)/\off t.1
section
variable {w:ar} {sc:bf} {st:Bool} {s₀ s s':af} {g₀ g g':aA} {env:fg} {pr:Pr} {ρ ρ':dh} {r:Nat} {o:m6} {pos:cU} {W:Wr} {x:aE}
theorem kc {h:aA} {v:ae} (hb:r9 s₀ env g h pr v (.res (WR W))):v=.ref W.x/\∃ d n ts,zv W g h (l7 s₀ env g pr) d n ts:=by
 revert s₀ g env pr W h v;intros s₀ g env pr W h v;intro hb;refine e23 hb λl k j m c=>?_;clear hb;obtain ⟨rfl,d,n,ts,rfl,q⟩:=m;exact ⟨rfl,d,n,ts,q.mono j,c (W.dx,fv d n) (.head _),λt p=>c (t.1,ao t.2.1.toArray t.2.2) (.tail _ (aX (f:=λt=>(t.1,ao t.2.1.toArray t.2.2)) p))⟩
theorem vB {h:aA} {es:List ce} {n:Nat} {ts:List (ay × List ae × Nat)} (y:zv W g h (l7 s₀ env g pr) es n ts):r9 s₀ env g h pr (.ref W.x) (.res (WR W)):=
 (i23 g ((W.dx,fv es n)::mI ts) (eN.refl _) ⟨rfl,es,n,ts,rfl,y.ok⟩ (λp a=>by
  rcases mC a with rfl | a;·exact y.dict
  ·refine e12 (mM a) λt c b=>?_;obtain rfl:=b;exact y.list t c))
theorem FS.wri (F:FS w st s₀ g₀ env g pr ρ s) (hx:ρ.lookup x=some (.res (WR W))):∃ c n ts,zv W g s.heap (l7 s₀ env g pr) c n ts:=by
 refine e11 (F.at hx) λv b=>?_;exact (kc b).2
theorem zv.at {off:ay->Prop} {h:aA} {es:List ce} {n:Nat} {ts:List (ay × List ae × Nat)} (y:zv W g h off es n ts) {i:Nat} {a:ay} {ds:List ag} (hi:W.lists[i]?=some (a,ds)):∃ b k,ts[i]?=some (a,b,k)/\VA g b ds/\h.get? a=some (ao b.toArray k)/\off a:=by
 refine e22 (y.ok.lists i _ _ hi) λb k c f=>?_;refine e02 (y.list _ (aQ c)) λe d=>?_;exact i24 b k c f e d
theorem zv.inst {off:ay->Prop} {h:aA} {es:List ce} {n:Nat} {ts:List (ay × List ae × Nat)} (y:zv W g h off es n ts) (hs:eN g h):InstAt h W.x (q6 228 W.dx) 228 (some (fv es n)):=⟨hs _ _ y.ok.inst,rfl,rfl,y.dict.1⟩
theorem rQ {i:Nat} {a:ay} {ds es:List ag} (hi:W.lists[i]?=some (a,ds)):(W.upd i es).lists=W.lists.set i (a,es):=by
 revert W i a ds es;intros W i a ds es;intro hi;cases i with
 | zero=>cases hi;rfl
 | succ i=>cases i with
  | zero=>cases hi;rfl
  | succ i=>cases i with
   | zero=>cases hi;rfl
   | succ i=>cases i with
    | zero=>cases hi;rfl
    | succ i=>cases hi
theorem FS.turnW (F:FS w st s₀ g₀ env g pr ρ s) {i:Nat} {a:ay} {ds es:List ag} {h':aA} {tk n:Nat} {ws:List ae} (hx:ρ.lookup x=some (.res (WR W))) (hi:W.lists[i]?=some (a,ds)) (ho:cA x ρ=true) (hs:bR a s.heap h') (Q:h'.get? a=some (ao ws.toArray n)) (hw:VA g ws es): FS w st s₀ g₀ env g pr ((x,.res (WR (W.upd i es)))::ρ) {s with heap:=h',toks:=tk}:=by
 refine e31 (F.wri hx) λz0 z1 J Z=>?_;refine e24 (Z.at hi) λz2 z3 z4 z5 z6 h=>?_;refine F.turnAt hx ho hs h λv q=>?_;obtain ⟨rfl,A,N,K,Y⟩:=kc q;obtain m:(W.upd i es).x=W.x/\(W.upd i es).dx=W.dx/\(W.upd i es).wa=W.wa/\(W.upd i es).aP=W.aP/\(W.upd i es).dv=W.dv/\(W.upd i es).ats=W.ats:=by
  exact AL W i es
 refine e06 m λD B X V U T=>?_;clear m;have l:(W.lists.set i (a,es)).map (·.1)=W.lists.map (·.1):=by
  rw [ph];obtain u:(W.lists.map (·.1))[i]?=some a:=by rw [av,hi];rfl
  refine e11 (gE u) λS R=>?_;rw [<- R];exact qk S
 refine e24 (Y.at hi) λI k1 C j2 j3 O=>?_;have y:∀ (j:Nat) (b:ay) (c:List ag),(W.lists.set i (a,es))[j]?=some (b,c)->j≠i->b≠a:=λj b c d k e=>by
  rw [gu (db k)] at d;obtain u:(W.lists.map (·.1))[j]?=some a:=by rw [av,d,e];rfl
  exact k ((tU (gE u).1 ((nC Y.ok.apart).2)).mp (u.trans (show (W.lists.map (·.1))[i]?=some a from by rw [av,hi];rfl).symm))
 have z:Ma (W.upd i es) g A (K.set i (a,ws,n)):=by
  refine ⟨by rw [D,B];exact Y.ok.inst,by rw [X,V];exact Y.ok.wr,by rw [U];exact Y.ok.dat,by rw [T];exact Y.ok.ats,Y.ok.few,by rw [jY];exact Y.ok.len,λj b c d=>?_,by rw [B,rQ hi,l];exact Y.ok.apart⟩;replace d:=(rQ hi)▸d;by_cases f:j=i
  ·subst f;rw [fH ((gE hi).1)] at d;cases d;exact i22 ws n (fH ((gE C).1)) hw
  ·rw [gu (db f)] at d ⊢;exact Y.ok.lists j b c d
 rw [<- D];refine vB (n:=N) ⟨z,?_,λt P=>?_⟩;·rw [B];exact ⟨(hs.2 _ (λe=>(nC Y.ok.apart).1 (e▸J9 (i12 _ (aQ hi) rfl)):W.dx≠a)).trans Y.dict.1,Y.dict.2⟩
 ·refine e11 (mG P) λj d=>?_;by_cases f:j=i
  ·subst f;rw [fH ((gE C).1)] at d;refine iM d λG=>?_;clear d;subst G;exact ⟨Q,O⟩
  ·rw [gu (db f)] at d;refine e02 (Y.list t (aQ d)) λM L=>?_;obtain ⟨b,c,q⟩:∃ b c,W.lists[j]?=some (b,c):=(i21 _ _ (an (by rw [show W.lists.length=4 from rfl,<- Y.ok.len];exact (gE d).1)));refine e22 (Y.ok.lists j b c q) λH k2 p z8=>?_;replace p:=d▸p;refine iM p λE=>?_;clear p;subst E;exact ⟨(hs.2 _ (y j b c (by rw [gu (db f)];exact q) f)).trans M,L⟩
end
theorem EV {k:ae} {n m:aE} (h1:k.isStr n=true) (h2:k.isStr m=true):n=m:=by
 cases k with
 | str s t=>exact (bE h1).symm.trans (bE h2)
 | _=>cases h1
theorem u0 (name:aE) (a:Int) (t:C9) (v:ae) (n:aE):∀ d:List ce,((Fy name a (.str name t) v d).find? (·.key.isStr n)).map (·.val)=if n=name then some v else (d.find? (·.key.isStr n)).map (·.val)
 | []=>by
  delta Fy;by_cases h:n=name;·rw [iJ,if_pos h,show (oO name t).isStr n=true from by rw [h];exact beq_self_eq_true name];rfl
  ·rw [iJ,if_neg h,show (oO name t).isStr n=false from beq_false_of_ne (db h)]
 | e::r=>by
  unfold Fy;cases c:e.key.isStr name with
  | true=>
   rw [if_pos rfl,iJ,iJ];by_cases h:n=name;·subst h;rw [if_pos rfl];rw [c];rfl
   ·rw [if_neg h];have:e.key.isStr n=false:=by
     cases b:e.key.isStr n with
     | false=>rfl
     | true=>exact absurd (EV b c) h
    rw [this]
  | false=>
   rw [if_neg bb,iJ,iJ];cases b:e.key.isStr n with
   | true=>rw [if_neg (λq=>by rw [q,c] at b;exact AH b)]
   | false=>exact (u0 name a t v n r)
theorem zY (name:aE) (b:Int) (t:C9) (v:ae):∀ c:List ce,(∀ e∈c,e.refKey=false)->∀ e∈Fy name b (.str name t) v c,e.refKey=false
 | [],_,e,a=>by
  obtain rfl:=mS a;rfl
 | e0::r,h,e,a=>by
  unfold Fy at a;split at a
  ·rcases mC a with rfl | a;·exact h e0 (.head _)
   ·exact h e (.tail _ a)
  ·rcases mC a with rfl | a;·exact h _ (.head _)
   ·exact zY name b t v r (λe a=>h e (.tail _ a)) e a
theorem rC (name:aE) (a:Int) (key v:ae):∀ b:List ce,(Fy name a key v b).length<=b.length+1
 | []=>aq _
 | e::r=>by
  unfold Fy;split;·exact er _
  ·exact dL (rC name a key v r)
theorem v8.put {es:List ce} {L:List (aE × ae)} (h:v8 es L) (name:aE) (a:Int) (t:C9) (v:ae):v8 (Fy name a (.str name t) v es) ((name,v)::L):=
 ⟨zY name a t v es h.1,λn=>by
  rw [u0,h.2 n,aK];by_cases e:n=name;·subst e;rw [if_pos rfl,beq_self_eq_true n]
  ·rw [if_neg e,show (n==name)=false from beq_false_of_ne e]⟩
section
variable {w:ar} {sc:bf} {st:Bool} {s₀ s s':af} {g₀ g g':aA} {env:fg} {pr:Pr} {ρ ρ':dh} {r:Nat} {o:m6} {pos:cU} {W:Wr} {x:aE}
theorem iU {v:ae} {name:aE} {xp:cU} (hx:ρ.lookup x=some (.res (WR W))) (e:W.ats.lookup name=some v) (h:autoParam (JF v=true) auT._auto_1) (f:autoParam (∀ P,pP (kF.heap_1 P) (.ref 228) name=some none) am._auto_9) (b:autoParam ((x==("__classdict__":aE))=false) auF._auto_1) (a:autoParam ((x==("__debug__":aE))=false) auF._auto_1):Ev w sc r ρ (.Attribute (.Name x xp) name pos) (RV v):=by
 intro A k m c d g p s i t F Q E q;refine oS (dm i F hx (λu j=>?_) b a);obtain ⟨rfl,y,n,l,Y⟩:=kc j;refine FY (F.ss.base.K.keeps F.ss.sub) (Y.inst F.ss.sub) rfl (zA (K:=kF.heap_1 w.params) rfl (f _) rfl ?_) h (q _ g _ (F.ss.tok _) rfl);rw [lg,Y.ok.ats.get,e]
theorem xv (name:aE) (a:Int) (key v:ae):∀ b:List ce,(b.find? (·.key.isStr name)).isSome=true->(Fy name a key v b).length=b.length
 | [],h=>by cases h
 | e::r,h=>by
  unfold Fy;split;·rfl
  ·rename_i c;rw [iJ] at h;rw [Bool.not_eq_true] at c;replace h:=c▸h;exact congrArg uk (xv name a key v r h)
theorem og {A:bj} {d dx:ay} {name:aE} {v:ae} {es:List ce} {n:Nat} {Q:Unit->af->Prop} {E:ae->af->Prop} (X:(kF.heap_1 w.params).In s.heap) (I:InstAt s.heap d (q6 228 dx) 228 (some (fv es n))) (ht:Bo (kF.heap_1 w.params) 228 name=some none) (k:∀ e∈es,e.refKey=false) (hz:es.length<=900) (q:∀ j t f m,bR dx s.heap j->j.get? dx=some (fv (Fy name f (.str name t) v es) m)->Q () {s with heap:=j,toks:=s.toks+2}):aV (MM w) A (setAttr (.ref d) name v) Q E s:=by
 revert w s A d dx name v es n Q E;intros w s A d dx name v es n Q E;intro X I ht k hz q;refine set_plain X I rfl (osa_open (K:=kF.heap_1 w.params) (s:={s with toks:=s.toks+1}) X I rfl ht ?_);intros b;obtain D:=I.dict;refine e12 (any_some (show (clsIn (kF.heap_1 w.params) 228).any (·.hasDict)=true from rfl)) λy u h=>?_;refine aa (ah (aa (aa (CT I.at_ (aa ((looks_clsIn (show (kF.heap_1 w.params).In ({s with toks:=s.toks+1}:af).heap from X) u).here ?_))))));rw [h];refine ah (a:=some dx) (aa (ah (aa ?_)));refine aa (aa (dc (ah (aa (Pa (aa (CT D ?_)))))));dsimp only;obtain c:(!es.toArray.any (·.key.isStr name) && es.toArray.any (·.refKey))=false:=by
  obtain this:es.toArray.any (·.refKey)=false:=by
   rw [<- Array.any_toList];cases q:es.any (·.refKey) with
   | false=>rfl
   | true=>refine e12 (hH.mp q) λe p i=>?_;replace i:=(k e p)▸i;exact AH i
  rw [this,Kt]
 rw [aRefKeyMayBeTheName_at,c];obtain l:(s.heap.update dx (MX name (m8 w.params name) (.str name (s.toks+1)) v)).get? dx=some (fv (Fy name (m8 w.params name) (.str name (s.toks+1)) v es) (putN name es n)):=by
  rw [bn _ D (by rw [Pm];rfl),Pm]
 refine wpAny_updatePart D ?_;refine aa (wpAny_lookBehind l (pastItsLine_dict (by
  have:=rC name (m8 w.params name) (.str name (s.toks+1)) v es;rw [bk,eY];exact fa2 hz this)) ?_)
 exact ah (q _ _ _ _ (aU s.heap dx (MX name (m8 w.params name) (.str name (s.toks+1)) v)) l)
end
section
variable {w:ar} {sc:bf} {st:Bool} {s₀ s s':af} {g₀ g g':aA} {env:fg} {pr:Pr} {ρ ρ':dh} {r:Nat} {o:m6} {pos:cU} {W:Wr} {x:aE}
theorem t6:qm (.type "list") (.type "module")=pure false:=by rw [lI];kernel_rfl
theorem t7:Qb "list.append"=some ⟨.oneArg,"list.append","append",.self,[⟨"object",.posOnly,true⟩]⟩:=by
 rw [OX (id:="list.append") (n:=['d','n','e','p','p','a']) (by kernel_rfl) PySem.F.owner_list];kernel_rfl
theorem sG:builtinKind "list.append"=some .method:=by kernel_rfl
theorem rP {M:lM} {A:bj} {E:ae->af->Prop} {l:ay} {vs:List ae} {n:Nat} {v:ae} {Q:Unit->af->Prop} (a:s.heap.get? l=some (ao vs.toArray n)) (q:Q () s):aV M A (Og "list.append" ⟨[.ref l,v],[]⟩) Q E s:=by
 obtain b:s.TypeIs (.ref l) "list":=(i12 _ a rfl);delta Og;rw [t7,sG];dsimp only;refine aa (eF (T:="list") b t6 ?_);refine aa (m:=isType (.ref l)) (aa (CT a (ah ?_)));refine aa (iW b ?_);exact fY (by kernel_rfl) q
theorem wF {A:bj} {a b:ay} {vs:List ae} {n:Nat} {v:ae} {Q:ae->af->Prop} {E:ae->af->Prop} (hb:s.heap.get? b=some (kb a)) (c:s.heap.get? a=some (ao vs.toArray n)) (hz:vs.length<1000) (q:∀ d,d.get? a=some (ao (vs++[v]).toArray (n+1))->bR a s.heap d->Q .none {s with heap:=d}):aV (MM w) A (call (.ref b) [v]) Q E s:=by
 refine iX (MU ?_);refine (?_:aV _ A.in1 (callAny (.ref b) _) _ _ s);refine aa (oI hb ?_);delta kb;dsimp only;refine aa (rP c (ah ⟨ku PySem.F.slot_list_append.plain _,fb PySem.F.entry_list_append ?_⟩));obtain z:=eY;refine (?_:aV _ _ (nY a (·.push v)>>=λ_=>ug dD) _ _ s);refine aa (eX c rfl (ah (q _ ?_ (aU ..))) (by rw [bk];exact fa2 hz (aj z.symm)) (by simp;exact fa2 hz (aj z.symm)));rw [bn _ c rfl,gW]
theorem pM {a:ay} {i:Nat} {name:aE} {xp m ap cp:cU} {e:be} {d:ag} {ds:List ag} (hx:ρ.lookup x=some (.res (WR W))) (ha:W.ats.lookup name=some (.ref a)) (hi:W.lists[i]?=some (a,ds)) (h:Ev w sc r ρ e (DV d)) (hz:ds.length<1000) (ho:autoParam (cA x ρ=true) auT._auto_1) (C:autoParam (∀ P,pP (kF.heap_1 P) (.ref 228) name=some none) am._auto_9) (B:autoParam ((x==("__classdict__":aE))=false) auF._auto_1) (y:autoParam ((x==("__debug__":aE))=false) auF._auto_1) (Y:autoParam ((ap.endLine==cp.line)=true) auT._auto_1) (k:autoParam (∀ c,bW [e] c=(false,eW e c)::bW [] c) am._auto_9):lF w sc r ρ (.Expr (.Call (.Attribute (.Attribute (.Name x xp) name m) (ac "append") ap) [e] [] cp) pos) (.next ((x,.res (WR (W.upd i (ds++[d]))))::ρ)):=by
 intro A c j l g X s H N F Q E q;refine eV ?_ H.int rfl;refine e11 (eS (o:=.Attribute (.Name x xp) name m) (name:=ac "append") (args:=[e]) (λ_=>rfl) (uU k _ c) Y (show 1<30 by decide)) λpl Z=>?_;refine eH (iU hx ha rfl C B y A c true j l g X s H N F _ _ λv g1 V L U=>?_) Z;obtain rfl:=U;have J:=F.step L;refine e31 (J.wri hx) λz0 z1 z2 Y1=>?_;refine e24 (Y1.at hi) λp n z3 z4 f z5=>?_;obtain G:V.heap.IsList a p.toArray:=⟨_,f,rfl,n,rfl⟩;refine dY G.typeIs eb dU jU (λb e=>by cases e;exact i12 _ f rfl) ?_;refine cL H N J (rf.cons h rf.nil vH.d k) (D9.plain λa e=>by cases e) λus g2 t K M=>?_;refine e11 (hY M.length.symm) λu R=>?_;obtain rfl:=R;have O:=J.step K;refine e31 (O.wri hx) λz7 z8 z9 Y2=>?_;refine e24 (Y2.at hi) λp n T I f S=>?_;obtain D:t.heap.IsList a p.toArray:=⟨_,f,rfl,n,rfl⟩;refine ck dU D.typeIs jw ?_ (jV _ _);obtain z:=eY;refine (?_:aV _ _ (nY a (·.push u)>>=λ_=>ug dD) _ _ t);refine aa (eX f rfl (ah (i12 dD rfl ?_)) (by rw [bk];exact fa3 hz (aj z.symm) (aj I.length)) (by simp;exact fa3 hz (aj z.symm) (aj I.length)));obtain C:(t.heap.update a (bu (·.push u))).get? a=some (ao (p++[u]).toArray (n+1)):=by
  rw [bn _ f rfl,gW]
 exact q _ g2 _ (L.trans K).le ⟨rfl,O.turnW hx hi ho (aU ..) C (I.append (.cons M.1 (VA.nil _)))⟩
theorem vP {a:ay} {i:Nat} {name:aE} {xp p ap cp:cU} {d:ag} {ds:List ag} (hx:ρ.lookup x=some (.res (WR W))) (U:W.ats.lookup name=some (.ref a)) (hi:W.lists[i]?=some (a,ds++[d])) (hz:ds.length<1000) (ho:autoParam (cA x ρ=true) auT._auto_1) (j:autoParam (∀ P,pP (kF.heap_1 P) (.ref 228) name=some none) am._auto_9) (B:autoParam ((x==("__classdict__":aE))=false) auF._auto_1) (z:autoParam ((x==("__debug__":aE))=false) auF._auto_1) (S:autoParam ((ap.endLine==cp.line)=true) auT._auto_1):lF w sc r ρ (.Expr (.Call (.Attribute (.Attribute (.Name x xp) name p) (ac "pop") ap) [] [] cp) pos) (.next ((x,.res (WR (W.upd i ds)))::ρ)):=by
 intro A D h m g R s K V F Q E q;refine eV ?_ K.int rfl;obtain ⟨pl,T⟩:=eS (o:=.Attribute (.Name x xp) name p) (name:=ac "pop") (args:=[]) (λ_=>rfl) rfl S (show 0<30 by decide);refine eH (iU hx U rfl j B z A D true h m g R s K V F _ _ λv L J I O=>?_) T;obtain rfl:=O;have N:=F.step I;refine e31 (N.wri hx) λz0 z1 z2 Y=>?_;refine e24 (Y.at hi) λf n z3 M t Z=>?_;obtain C:J.heap.IsList a f.toArray:=⟨_,t,rfl,n,rfl⟩;refine dY C.typeIs eb PySem.F.slot_list_pop PySem.F.type_list_pop (λb e=>by cases e;exact i12 _ t rfl) ?_;obtain c:=M.length;rw [aB,de] at c;obtain l:ds.length<f.length:=fa1 (aj c.symm);refine PySem.P.pop_list (y:=f[ds.length]) t (by rw [cE,bk,c,H2,an l]) ?_ (by rw [bk];exact fa3 hz (aj c) (aj eY.symm));obtain H:VA L (f.take ds.length) ds:=by
  obtain this:=M.take ds.length;rwa [wj rfl] at this
 obtain j:∃ k,(J.heap.update a (bu λu=>u.eraseIdxIfInBounds (f.toArray.size - 1))).get? a=some (ao (f.take ds.length).toArray k):=by
  obtain G:∃ k,(ao f.toArray n).mapSeq (λu=>u.eraseIdxIfInBounds (f.toArray.size - 1))=ao (f.take ds.length).toArray k:=by
   obtain X:f.toArray.eraseIdxIfInBounds (f.toArray.size - 1)=(f.take ds.length).toArray:=by
    delta Array.eraseIdxIfInBounds;rw [dif_pos (show f.toArray.size - 1<f.toArray.size by exact Nat.sub_one_lt_of_lt l)];apply uu.mp;rw [Array.toList_eraseIdx,List.eraseIdx_eq_take_drop_succ,bk,c,H2,Bw (show f.length<=_ by exact aj c),bp]
   refine ⟨if (f.take ds.length).toArray.size==f.toArray.size then n else n+1,?_⟩;delta bu ao;dsimp only;rw [X]
  refine e11 G λk G=>?_;exact ⟨k,by rw [bn _ t rfl,G]⟩
 refine e11 j λk j=>?_;exact q _ L _ I.le ⟨rfl,N.turnW hx hi ho (aU ..) j H⟩
end
section
variable {w:ar} {sc:bf} {st:Bool} {s₀ s s':af} {g₀ g g':aA} {env:fg} {pr:Pr} {ρ ρ':dh} {r:Nat} {o:m6} {pos:cU} {W:Wr} {x:aE}
theorem xO:W.lists[3]?=some (W.aP,W.ps):=rfl
theorem As {a b:ay} (h:aA) (X:h.get? b=some (kb a)):∃ k,(k=Kl\/k=Ic\/k=FA)/\∀ M,JG M h (keeperOf (.ref b)) k:=
 (i12 .machine (.inr (.inl rfl)) (λM=>(C7 X).andThen .now))
theorem zH {A:bj} {e:be} {d:ag} {cp:cU} {s1:af} {m:aA} {Q:ae->af->Prop} {E:ae->af->Prop} (F:cB sc env) (hA:Rm r A) (z:FS w true s₀ g₀ env m pr ρ s1) (hx:ρ.lookup x=some (.res (WR W))) (h:Ev w sc r ρ e (DV d)) (hz:W.ps.length<1000) (ho:cA x ρ=true) (f:∀ env,bW [e] env=(false,eW e env)::bW [] env) (q:∀ i l,eN m i->FS w true s₀ g₀ env i pr ((x,.res (WR (W.upd 3 (W.ps++[d]))))::ρ) l->Q .none l):aV (MM w) A (wX cp (.ref W.wa) [] (lJ cp (bW [e] env)) []) Q E s1:=by
 refine lh (P:=λh=>h.get? W.wa=some (kb W.aP)) (by rw [uU f _ env];rfl) (λh X=>by refine e12 (As h X) λk a b=>?_;exact i12 k a (b _)) ?_;refine fA ((rf.cons h rf.nil vH.d f).first env cp) ((rf.cons h rf.nil vH.d f).run A env true s₀ g₀ m pr s1 cp F hA z _ _ λK i l t v=>?_);have j:=z.step t;refine e31 (j.wri hx) λO M L p=>?_;refine ⟨j.ss.sub _ _ p.ok.wr,?_⟩;refine e11 (hY v.length.symm) λu B=>?_;obtain rfl:=B;refine e24 (p.at xO) λJ n I y G H=>?_;refine wF (j.ss.sub _ _ p.ok.wr) G (lt_of_eq_of_lt y.length hz) λN D C=>?_;exact q i _ t.le (j.turnW hx xO ho C D (y.append (.cons v.1 (VA.nil _))))
theorem sS {y:aE} {np cp:cU} {e:be} {d:ag} (hx:ρ.lookup x=some (.res (WR W))) (z:ρ.lookup y=some (.raw (.ref W.wa))) (h:Ev w sc r ρ e (DV d)) (hz:W.ps.length<1000) (ho:autoParam (cA x ρ=true) auT._auto_1) (i:autoParam ((y==("__classdict__":aE))=false) auF._auto_1) (f:autoParam ((y==("__debug__":aE))=false) auF._auto_1) (j:autoParam (∀ a,bW [e] a=(false,eW e a)::bW [] a) am._auto_9):lF w sc r ρ (.Expr (.Call (.Name y np) [e] [] cp) pos) (.next ((x,.res (WR (W.upd 3 (W.ps++[d]))))::ρ)):=by
 intro A a b c g u s l n F Q E q;refine eV ?_ l.int rfl;refine aa (CH z i f A a true b c g u s l n F _ _ λv G D m p=>?_);obtain rfl:=p;exact zH l n (F.step m) hx h hz ho j λB t k C=>q _ B t (m.le.trans k) ⟨rfl,C⟩
theorem Cz {xp ap cp:cU} {e:be} {d:ag} (hx:ρ.lookup x=some (.res (WR W))) (y:W.ats.lookup (ac "_write")=some (.ref W.wa)) (h:Ev w sc r ρ e (DV d)) (hz:W.ps.length<1000) (ho:autoParam (cA x ρ=true) auT._auto_1) (f:autoParam ((x==("__classdict__":aE))=false) auF._auto_1) (c:autoParam ((x==("__debug__":aE))=false) auF._auto_1) (p:autoParam ((ap.endLine==cp.line)=true) auT._auto_1) (b:autoParam (∀ a,bW [e] a=(false,eW e a)::bW [] a) am._auto_9):lF w sc r ρ (.Expr (.Call (.Attribute (.Name x xp) (ac "_write") ap) [e] [] cp) pos) (.next ((x,.res (WR (W.upd 3 (W.ps++[d]))))::ρ)):=by
 intro A a k l g G s j z F Q E q;refine eV ?_ j.int rfl;refine e11 (eS (o:=.Name x xp) (name:=ac "_write") (args:=[e]) (λ_=>rfl) (uU b _ a) p (show 1<30 by decide)) λH t=>?_;refine eH (dm j F hx (λv u=>?_) f c) t;obtain ⟨rfl,I,n,D,Y⟩:=kc u;obtain X:=F.ss.base.K.keeps F.ss.sub;refine method_usual X (Y.inst F.ss.sub) rfl rfl rfl rfl ?_;refine FY X (Y.inst F.ss.sub) rfl (zA (K:=kF.heap_1 w.params) rfl rfl rfl (by rw [lg,Y.ok.ats.get,y])) rfl ?_;exact zH j z (F.step (F.ss.tok _)) hx h hz ho b λB m i C=>q _ B m i ⟨rfl,C⟩
theorem Js {a:ay} {i:Nat} {name:aE} {xp ap:cU} {gg:be} {k:Int} {d:ag} {ds:List ag} (hx:ρ.lookup x=some (.res (WR W))) (N:W.ats.lookup name=some (.ref a)) (hi:W.lists[i]?=some (a,ds)) (m:Ev w sc r ρ gg (II k)) (M:D5 ds k=some d) (hz:ds.length<=dK) (L:autoParam (∀ P,pP (kF.heap_1 P) (.ref 228) name=some none) am._auto_9) (hs:autoParam (∀ o i,nh gg false o i=wT [o,i] (tP o i)) am._auto_9) (l:autoParam ((x==("__classdict__":aE))=false) auF._auto_1) (j:autoParam ((x==("__debug__":aE))=false) auF._auto_1):Ev w sc r ρ (.Subscript (.Attribute (.Name x xp) name ap) gg pos) (DV d):=by
 intro A f y b c g B s C D F Q E q;refine oR (iU hx N rfl L l j A f y b c g B s C D F _ _ λv T J h I=>?_);obtain rfl:=I;refine m A f y b c T B J C D (F.step h) _ _ λiv S z p H=>?_;obtain ⟨t,rfl⟩:=H.int_inv;refine e31 (((F.step h).step p).wri hx) λz0 Z X Y=>?_;refine e24 (Y.at hi) λG n V O R U=>?_;obtain e:z.heap.IsList a G.toArray:=⟨_,R,rfl,n,rfl⟩;exact tm e.typeIs lH.lookup (vn e O hz M λu K=>q u S z (h.trans p) K) (hs (.ref a) (.int k t))
theorem Ju {a:ay} {i:Nat} {name:aE} {np xp ap:cU} {ds:List ag} (hx:ρ.lookup x=some (.res (WR W))) (I:W.ats.lookup name=some (.ref a)) (hi:W.lists[i]?=some (a,ds)) (hz:ds.length<=dK) (H:autoParam (∀ P,pP (kF.heap_1 P) (.ref 228) name=some none) am._auto_9) (e:autoParam (∀ P,Bh (kF.heap_1 P) bA (ac "len")=some dO) am._auto_9) (hs:autoParam (sc.names.lookup (ac "len")=some .globalImplicit) auS._auto_1) (f:autoParam ((x==("__classdict__":aE))=false) auF._auto_1) (d:autoParam ((x==("__debug__":aE))=false) auF._auto_1):Ev w sc r ρ (.Call (.Name (ac "len") np) [.Attribute (.Name x xp) name ap] [] pos) (II ds.length):=by
 intro A h z b c g B s m p F Q E q;refine aa (Ev.blt (v:=.builtin "len") e rfl hs (by decide) rfl A h z b c g B s m p F _ _ λv V U k G=>?_);obtain rfl:=G;have u:=F.step k;refine cL m p u (rf.cons (iU hx I rfl H f d) .nil vH.raw) (D9.plain λa e=>by cases e) λR J T j l=>?_;refine e11 (hY l.length.symm) λv y=>?_;obtain rfl:=y;obtain rfl:=l.1;obtain t:=u.step j;refine e31 (t.wri hx) λO N M Y=>?_;refine e24 (Y.at hi) λS n L C D K=>?_;obtain e:=C.length;delta dK at hz;refine FD ⟨_,D,rfl,n,rfl⟩ (by simp;exact cY.2 (fa2 hz (aj e))) ?_;rw [bk,e];exact q _ J _ ((k.trans j).trans (t.ss.tok _)) (.int _ _)
noncomputable def Wr.put (W:Wr) (name:aE) (v:ae):Wr:={W with ats:=(name,v)::W.ats}
theorem FS.turnA (F:FS w st s₀ g₀ env g pr ρ s) {name:aE} {v:ae} {h':aA} {tk n:Nat} {es:List ce} (hx:ρ.lookup x=some (.res (WR W))) (ho:cA x ρ=true) (hs:bR W.dx s.heap h') (q:h'.get? W.dx=some (fv es n)) (z:v8 es ((name,v)::W.ats)) (y:es.length<=100): FS w st s₀ g₀ env g pr ((x,.res (WR (W.put name v)))::ρ) {s with heap:=h',toks:=tk}:=by
 refine e31 (F.wri hx) λG E D B=>?_;refine F.turnAt hx ho hs B.dict.2 λu d=>?_;obtain ⟨rfl,A,I,H,Y⟩:=kc d;refine vB (W:=W.put name v) (n:=n) ⟨⟨Y.ok.inst,Y.ok.wr,Y.ok.dat,z,y,Y.ok.len,Y.ok.lists,Y.ok.apart⟩,⟨q,Y.dict.2⟩,λt h=>?_⟩;refine bc λf=>?_;refine e02 (Y.list t h) λp m=>?_;refine e11 (mG h) λj i=>?_;obtain ⟨b,a,d⟩:∃ b a,W.lists[j]?=some (b,a):=(i21 _ _ (an (by rw [show W.lists.length=4 from rfl,<- Y.ok.len];exact (gE i).1)));refine e22 (Y.ok.lists j b a d) λl J c C=>?_;refine f ?_;clear f;replace c:=i▸c;refine iM c λk=>?_;clear c;subst k;refine ⟨(hs.2 _ λe=>?_).trans p,m⟩;exact (nC Y.ok.apart).1 (e▸J9 (i12 _ (aQ d) rfl))
theorem AX {name:aE} {xp ap:cU} {e:be} {b:Bool} (hx:ρ.lookup x=some (.res (WR W))) (h:Ev w sc r ρ e (BB b)) (d:(W.ats.lookup name).isSome=true) (ho:autoParam (cA x ρ=true) auT._auto_1) (ht:autoParam (∀ P,Bo (kF.heap_1 P) 228 name=some none) am._auto_9) (l:autoParam ((x==("__classdict__":aE))=false) auF._auto_1) (k:autoParam ((x==("__debug__":aE))=false) auF._auto_1) (hs:autoParam (∀ a,gO e (some (.Attribute (.Name x xp) name ap)) pos.line a=pure false) am._auto_9):lF w sc r ρ (.Assign [.Attribute (.Name x xp) name ap] e pos) (.next ((x,.res (WR (W.put name (.bool b))))::ρ)):=by
 intro A a c i g D s z I F Q E q;refine l9 (h A a true c i g D s z I F _ _ λv J C y B=>?_) (hs a);obtain rfl:=B.bool_inv;have j:=F.step y;refine dm z j hx (λu H=>?_) l k;obtain ⟨rfl,N,n,K,Y⟩:=kc H;obtain f:=Y.ok.few;refine og (j.ss.base.K.keeps j.ss.sub) (Y.inst j.ss.sub) (ht _) Y.ok.ats.1 (by exact ab (by assumption) (by decide)) λM t m L p G=>?_;refine q _ J _ y.le ⟨rfl,j.turnA (tk:=C.toks+2) hx ho p G (Y.ok.ats.put name m t _) ?_⟩;rw [xv _ _ _ _ _ (by rw [<- Y.ok.ats.2] at d;simpa using d)];exact f
end
noncomputable def Wr.addrs (W:Wr):List ay:=W.dx::W.lists.map (·.1)
structure nS (W W':Wr):Prop where
 x:W'.x=W.x
 addrs:W'.addrs=W.addrs
noncomputable def MC (W:Wr) (es:List ce) (n:Nat) (ts:List (ay × List ae × Nat)):Pr:=⟨(W.dx,fv es n)::mI ts,[]⟩
noncomputable def tZ (g:aA) (b:ay):Prop:=g.get? b=none/\cg b=false
theorem zv.mem {W:Wr} {g h:aA} {off:ay->Prop} {es:List ce} {n:Nat} {ts:List (ay × List ae × Nat)} (Y:zv W g h off es n ts) {t:ay × List ae × Nat} (ht:t∈ts):t.1∈W.addrs:=by
 refine e11 (mG ht) λj d=>?_;obtain ⟨b,a,e⟩:∃ b a,W.lists[j]?=some (b,a):=(i21 _ _ (an (by rw [show W.lists.length=4 from rfl,<- Y.ok.len];exact (gE d).1)));refine e22 (Y.ok.lists j b a e) λi l c k=>?_;replace c:=d▸c;refine iM c λf=>?_;clear c;subst f;exact .tail _ (J9 (i12 _ (aQ e) rfl))
theorem zv.re {W:Wr} {g g' h h':aA} {off a:ay->Prop} {es:List ce} {n:Nat} {ts:List (ay × List ae × Nat)} (Y:zv W g h off es n ts) (d:eN g g') (k:∀ b∈W.addrs,∀ o,off b->h.get? b=some o->h'.get? b=some o/\a b):zv W g' h' a es n ts:=
 ⟨Y.ok.mono d,k _ (.head _) _ Y.dict.2 Y.dict.1,λt c=>k _ (Y.mem c) _ (Y.list t c).2 (Y.list t c).1⟩
theorem zv.addrs {W:Wr} {g h:aA} {off:ay->Prop} {es:List ce} {n:Nat} {ts:List (ay × List ae × Nat)} (Y:zv W g h off es n ts):Mine.addrs (MC W es n ts)=W.addrs:=by
 delta Mine.addrs MC mI Wr.addrs;rw [bV,cz];congr 1;apply ja;intro j;rw [av,av];by_cases c:j<4
 ·obtain ⟨b,a,d⟩:∃ b a,W.lists[j]?=some (b,a):=(i21 _ _ (an c));refine e22 (Y.ok.lists j b a d) λe k f i=>?_;rw [f,d];rfl
 ·rw [cn (by rw [Y.ok.len];exact fa1 (ba c)),cn (show W.lists.length<=j by refine (?_:4<=j);exact fa1 (ba c))];rfl
theorem zv.all {W:Wr} {g h:aA} {off:ay->Prop} {es:List ce} {n:Nat} {ts:List (ay × List ae × Nat)} (Y:zv W g h off es n ts) {b:ay} (hb:b∈W.addrs):off b/\∃ o,h.get? b=some o:=by
 rw [<- Y.addrs] at hb;refine e12 (mM hb) λp a e=>?_;obtain rfl:=e;rcases mC a with rfl | a;·exact ⟨Y.dict.2,_,Y.dict.1⟩
 ·refine e12 (mM a) λt c d=>?_;obtain rfl:=d;exact ⟨(Y.list t c).2,_,(Y.list t c).1⟩
noncomputable def vY (w:ar) (r:Nat) (f:ae) (W:Wr) (ps:List ci) (P:ci) (W':Wr):Prop:=
 nS W W'/\∀ A g s vs es n ts,Rm r A->SS w g s->ko g ps vs->zv W g s.heap (tZ g) es n ts->∀ (Q:ae->af->Prop) (E:ae->af->Prop),
  (∀ u g' s' es' n' ts',nU (MC W es n ts) s g s' g'->zv W' g' s'.heap (tZ g') es' n' ts'->P g' u->Q u s')->aV (MM w) A (call f (.ref W.x::vs)) Q E s
noncomputable def FT (w:ar) (sc:bf) (r:Nat) (ρ:dh) (e:be) (P:ci) (ρ':dh):Prop:=
 ∀ A env s₀ g₀ g pr s,cB sc env->Rm r A->FS w true s₀ g₀ env g pr ρ s->∀ (Q:ae->af->Prop) (E:ae->af->Prop),(∀ v g' s',eN g g'->FS w true s₀ g₀ env g' pr ρ' s'->P g' v->Q v s')->aV (MM w) A (eW e env) Q E s
section
variable {w:ar} {sc:bf} {st:Bool} {s₀ s s':af} {g₀ g g':aA} {env:fg} {pr:Pr} {ρ ρ' ρ₁:dh} {r:Nat} {o:m6} {pos:cU} {W W':Wr} {x:aE} {P:ci} {ps:List ci}
theorem FT.of {e:be} (h:Ev w sc r ρ e P):FT w sc r ρ e P ρ:=λA c a b g f s j k F Q E q=>h A c true a b g f s j k F Q E λv l d x i=>q v l d x.le (F.step x) i
theorem Ed {l rr:be} {op:JJ} {d e f:ag} (h1:FT w sc r ρ l (DV d) ρ₁) (h2:FT w sc r ρ₁ rr (DV e) ρ') (h3:nT w r op d e f):FT w sc r ρ (.BinOp l op rr pos) (DV f) ρ':=by
 intro A j c h g p s t m F Q E q;refine JA (h1 A j c h g p s t m F _ _ λa J G k K B=>?_);refine h2 A j c h J p G t m K _ _ λb I D i u z=>?_;exact h3 I a b (B.mono i) z A D m u.ss Q E λv H C n y=>q v H C ((k.trans i).trans n.le) (u.step n) y
theorem xZ {e:be} {d:ag} (h:FT w sc r ρ e (DV d) ρ') (i:autoParam (∀ a,bW [e] a=(false,eW e a)::bW [] a) am._auto_9):FT w sc r ρ (.List [e] pos) (LL [d]) ρ':=by
 intro A a b c g m s n p F Q E q;refine mV (gj (h A a b c g m s n p F _ _ λv z l f j k=>gM ?_) (i a));refine ⟨show 1<=kt by decide,?_⟩;refine e12 (j.ss.growPush ({cls:=.type "list",data:=.seq #[v]}:ff) l.toks rfl) λt y u=>?_;exact q _ t _ (f.trans y.le) (j.step y) (jA u (VA.cons (k.mono y.le) (VA.nil _)))
theorem vO {y:aE} {p:cU} {e:be} {d:ag} (h:FT w sc r ρ e (DV d) ρ') (hx:sc.names.lookup y=some .local\/(sc.names.lookup y=some .cell/\true=true)) (hs:autoParam (∀ a,gO e (some (.Name y p)) pos.line a=pure false) am._auto_9):lF w sc r ρ (.Assign [.Name y p] e pos) (.next ((y,.d d)::ρ')):=λA a c f g m s j n F Q E q=>dw (h A a c f g m s j n F _ _ λv t B i z k=>z.store j hx (b:=.d d) k λl u=>q _ t l i ⟨rfl,u⟩) (hs a)
theorem Ff {e:be} (h:FT w sc r ρ e P ρ') (hs:autoParam (∀ a,gO e none pos.line a=pure false) am._auto_9):lF w sc r ρ (.Expr e pos) (.next ρ'):=λA a b c g j s f k F Q E q=>eV (h A a b c g j s f k F _ _ λv l i d m n=>q _ l i d ⟨rfl,m⟩) f.int (hs a)
theorem HA {e:be} (h:FT w sc r ρ e P ρ'):lF w sc r ρ (.Return (some e) pos) (.retR P ρ'):=λA d a b g j s k l F Q E q=>wR (h A d a b g j s k l F _ _ λv m i c n f=>q _ m i c (i13 v rfl n f))
theorem FS.calledW {es:List ce} {n:Nat} {ts:List (ay × List ae × Nat)} {es':List ce} {k:Nat} {f:List (ay × List ae × Nat)} (F:FS w st s₀ g₀ env g pr ρ s) (hx:ρ.lookup x=some (.res (WR W))) (ho:cA x ρ=true) (i:nS W W') (Y:zv W g s.heap (l7 s₀ env g pr) es n ts) (X:nU (MC W es n ts) s g s' g') (l:zv W' g' s'.heap (tZ g') es' k f):FS w st s₀ g₀ env g' pr ((x,.res (WR W'))::ρ) s':=by
 refine F.turnX hx ho (λa h=>?_) rfl X λv d=>?_
 ·replace h:=Y.addrs▸h;exact (Y.all h).1
 ·refine e02 (kc d) λj m=>?_;obtain rfl:=j;rw [<- i.x];refine vB (l.re (eN.refl _) λb d o c e=>(i03 e c.1 ?_));replace d:=i.addrs▸d;exact (Y.all d).1.2
theorem sT {f:ay} {name:aE} {xp ap:cU} {args:List be} (hx:ρ.lookup x=some (.res (WR W))) (X:W.ats.lookup name=none) (c:rf w sc r ρ args ps) (h:vY w r (.ref f) W ps P W') (T:∀ P,pP (kF.heap_1 P) (.ref 228) name=some (some (.ref f))) (ht:autoParam (∀ P,Om (kF.heap_1 P) (.ref f)=some (.type "function")) am._auto_9) (S:autoParam (∀ P,C6 (kF.heap_1 P) (.ref f)=true) am._auto_9) (ho:autoParam (cA x ρ=true) auT._auto_1) (k:autoParam ((x==("__classdict__":aE))=false) auF._auto_1) (j:autoParam ((x==("__debug__":aE))=false) auF._auto_1) (R:autoParam ((ap.endLine==pos.line)=true) auT._auto_1) (O:autoParam (args.length<30) n7._auto_19):FT w sc r ρ (.Call (.Attribute (.Name x xp) name ap) args [] pos) P ((x,.res (WR W'))::ρ):=by
 intro A m y C g pr s z B F Q E q;obtain ⟨pl,U⟩:=eS (o:=.Name x xp) (apos:=ap) (λ_=>rfl) (c.plain m) R O;refine eH (dm z F hx (λv V=>?_) k j) U;obtain ⟨rfl,es,n,ts,Y⟩:=kc V;refine Ms (F.ss.base.K.keeps F.ss.sub) (Y.inst F.ss.sub) rfl rfl (T _) (ht _) (by refine (?_:(lookIn name (fv es n)).map _=_);rw [lg,Y.ok.ats.get,X];rfl) ?_;refine cL z B F c (D9.top S) λH g2 K t N=>?_;have p:=F.step t;refine e31 (p.wri hx) λl L i D=>?_;refine h.2 A g2 K H l L i B p.ss N (D.re (eN.refl _) λb _ o d e=>(i03 e d.1 d.2.1.2)) Q E λu Z J a0 n3 I G Y3 M=>?_;exact q u Z J (t.le.trans G.le) (p.calledW hx ho h.1 D G Y3) M
end
theorem AK {s:af} {X:List ay} {b:ay} (h:(cR s X).heap.get? b=none):b∈X\/s.heap.get? b=none:=by
 by_cases a:b∈X;·exact .inl a
 ·exact .inr (by rwa [ic a] at h)
theorem xU {w:ar} {Ro Ro':aA->ae->List (ay × ff)->Prop} {v0:ae} {x0:aE} {ρ':dh} {f:ay} {oc:ae} {od:Option ay} {osl:Array (Option ae)} {fd:fR} {body:List cD} {r:Nat} {xs:List aE} {bs:List B} {ps:List ci} {P:ci} (dv:List ae) (ho:(kF.heap_1 w.params).lookup f=some ⟨oc,od,.func fd,osl⟩) (hcd:tf (kF.heap_1 w.params) fd.code fd.qualname=true) (O:fd.body=.stmts body) (a1:fd.closure=[]) (hg:fd.globals=bA) (a8:fd.builtins=dA) (hbind:∀ (C:List ae) (s:af),(kF.heap_1 w.params).In s.heap->(C++dv).length=(x0::xs).length->wZ s fd ⟨C,[]⟩ ((x0::xs).zip (C++dv))) (hp:y7 xs bs (ps++dv.map RV)) (hnd:(x0::xs).Nodup) (hkind:((x0::xs).all λx=>fd.scope.names.lookup x==some .local || fd.scope.names.lookup x==some .cell)=true) (a6:fd.scope.names.all (λx=>x.2 !=.free)=true) (a7:fd.scope.isCoroutine=false) (a0:fd.scope.isGenerator=false) (hk:fd.scope.kind=.function) (h:zz fd.code (fd.qualname++".<locals>.") w fd.scope r ((x0,.res Ro)::fn xs bs) body (.retR P ρ')\/(zz fd.code (fd.qualname++".<locals>.") w fd.scope r ((x0,.res Ro)::fn xs bs) body (.next ρ')/\∀ g,P g .none)) (hw:ρ'.lookup x0=some (.res Ro')) {A:bj} {g:aA} {s:af} {vs0:List ae} {objs:List (ay × ff)} (hA:Rm (r+1) A) (S:SS w g s) (a4:ko g ps vs0) (hR:Ro g v0 objs) (hob:∀ p∈objs,s.heap.get? p.1=some p.2/\tZ g p.1) {Rr:eB->af->Prop} (q:∀ u l s' i v1 g1,nU ⟨objs,[]⟩ s g s' l->eN g1 l->Ro' g1 v1 i->(∀ p∈i,(s'.heap.get? p.1=some p.2/\tZ l p.1)/\(p.1∈addrs ⟨objs,[]⟩\/s.heap.get? p.1=none))->P l u->Rr (.ok (.ret u)) s'):gn (MM w) A (.call (.ref f) ⟨v0::vs0,[]⟩) Rr s:=by
 have B:=S.base.keeps S.sub;refine bc λnO=>?_;obtain ⟨mg,mb,T⟩:=B.top;obtain ⟨us,L⟩:∃ us,us=vs0++dv:=⟨_,rfl⟩;have hv:=L▸a4.append (uE g dv);obtain ⟨C,j⟩:∃ C,C=v0::us:=⟨_,rfl⟩;refine nO ?_;have K:C.length=(x0::xs).length:=by rw [j,fQ,fQ,((hp.1.trans (hp.2.1.trans hv.length)).symm)]
 obtain a2:=hbind (v0::vs0) s B.K (by rw [jy,<- L,<- j];exact K);rw [jy,<- L,<- j] at a2;have hX:∀ a∈(addrs ⟨objs,[]⟩),g.get? a=none/\cg a=false:=λa ha=>(by
  refine e12 (mM ha) λp hp z0=>?_;obtain rfl:=z0;exact (hob p hp).2)
 refine r3 hA.room (B.K _ _ ho) rfl a7 a0 O (Ld B.K hcd) ?_;rw [a1];refine a2 _ _ _ _ (CS hk ?_ λb0 hE s₁ x=>?_)
 ·intro x hx;obtain e:=aT hkind _ ((eO hx).1);rcases gS.mp e with q | q;·exact .inl (by simpa using q)
  ·obtain G:fd.scope.names.lookup x.1=some .cell:=by simpa using q
   exact .inr ⟨G,lK _ _ _ (.inl G)⟩
 ·subst hE;refine ⟨T.nolimit.keeps x.toInCall.keep,HY ?_⟩;replace x:InCallC s (fB fd s.heap.objs.size f).locals (PH (fB fd s.heap.objs.size f).kindOf ((x0::xs).zip C) λ_=>none) (fB fd s.heap.objs.size f).cells (PI (fB fd s.heap.objs.size f).kindOf ((x0::xs).zip C) λ_=>none) s₁:=x;refine e21 x.toInCall.same λh' tk hs=>?_;have M:=x.toInCall.ns;have hz:s.heap.objs.size<s₁.heap.objs.size:=by
   refine e32 M λo z1 z2 e z3=>?_;clear M;exact aH e
  have he:cB fd.scope (fB fd s.heap.objs.size f):=⟨rfl,hk,hg,a8,λn X=>by
   rcases X with X | X;·exact dz.mp (lK fd.scope.names (s.heap.objs.size+1) [] (.inl X))
   ·obtain this:=aT a6 _ (mem_of_lookup X);exact (bb this).elim⟩
  have D:∀ c:Nat,s.heap.objs.size<=c->g.get? c=none:=λc m=>by
   cases e:g.get? c with
   | none=>rfl
   | some o=>exact absurd (aH (S.sub _ _ e)) (bD m)
  have W:Rm r (A.deeper (fB fd s.heap.objs.size f)):=⟨hA.handled,by have:=hA.depth;refine (?_:A.depth+1+4*r<=900);exact fa1 this,by have:=hA.units;refine (?_:A.units+3+40*r<=9000);exact fa1 this⟩;have J:(((x0::xs).zip C).map (·.1)).Nodup:=by
   rw [Ij (aj K.symm)];exact hnd
  have H:∀ b:ay,s.heap.objs.size<=b->Jj (cR s (addrs ⟨objs,[]⟩)) b:=λb hb=>Jj.of (by rw [dZ];exact S.big) (by rw [dZ];exact hb);have F:FS w true (cR s (addrs ⟨objs,[]⟩)) g (fB fd s.heap.objs.size f) g {} ((x0,.res Ro)::fn xs bs) s₁:=by
   refine ⟨S.anchor hX,(iB.anchor S λa ha=>(hX a ha).2).trans (S.same (by subst hs;exact Stp.heap x.toInCall.keep (aF hz))),H _ (aq _),D _ (aq _),(i12 _ M (λy b I=>?_)),λn c m=>?_,λn n' c h1 h2=>Pe x.apart (mem_of_lookup h1) (mem_of_lookup h2),⟨λ_ h=>(nm h),λ_ h=>(nm h)⟩,λ_ n c m _=>H _ (aF (x.above n c (mem_of_lookup m)))⟩
   ·obtain U:∃ v,(y,v)∈(x0::xs).zip C/\r9 (cR s (addrs ⟨objs,[]⟩)) (fB fd s.heap.objs.size f) g s₁.heap {} v b:=by
     rw [aK] at I;by_cases V:y=x0
     ·subst V;replace I:=(beq_self_eq_true y)▸I;refine iM I λz4=>?_;clear I;subst z4;refine ⟨v0,by rw [j];exact .head _,g,objs,eN.refl _,hR,λp hp=>?_⟩;obtain e:=(hob p hp).1;refine i06 (x.toInCall.keep _ _ e) ((hob p hp).2.1) ⟨mh (aX hp),(hob p hp).2.2⟩ (bg (aH e)) (λn c m z=>?_) (λ_ h=>nm h);exact ed (nl (aH e) (x.above n c (mem_of_lookup m))) z
     ·replace I:=(show (y==x0)=false from beq_false_of_ne V)▸I;refine e12 (lZ (s₀:=cR s (addrs ⟨objs,[]⟩)) (env:=fB fd s.heap.objs.size f) (h:=s₁.heap) (pr:={}) hp hv I) λv Y hb=>?_;exact i12 v (by rw [j];exact .tail _ Y) hb
    refine e12 U λv Y hb=>?_;clear U;refine i12 v ?_ hb;rcases gS.mp (aT hkind _ (eO Y).1) with q | q
    ·obtain G:=bE q;exact .inl ⟨G,xM J Y G⟩
    ·have G:(fB fd s.heap.objs.size f).kindOf y=some .cell:=bE q;obtain m:=lK fd.scope.names (s.heap.objs.size+1) [] (.inl G);refine e11 (dz.mp m) λc m=>?_;obtain E:=x.cell y c m;rw [xN J Y (by rw [G];decide)] at E;exact .inr ⟨.inl G,c,m,E⟩
   ·obtain Z:=x.above n c (mem_of_lookup m);exact i03 ⟨_,x.cell n c m⟩ (D c (aF Z)) (ed Z)
  have a3:∀ u l s',FS w true (cR s (addrs ⟨objs,[]⟩)) g (fB fd s.heap.objs.size f) l {} ρ' s'->P l u->Rr (.ok (.ret u)) s':=λu l s' Q hu=>by
   refine e33 (Q.at hw) λv1 g1 i N a9 k=>?_;exact q u l s' i v1 g1 (jg S (λa ha=>(hX a ha).2) Q.aft rfl) N a9 (λp hp=>⟨⟨(k p hp).1,(k p hp).2.1,(k p hp).2.2.1.2⟩,AK (k p hp).2.2.1.1⟩) hu
  rcases h with h | ⟨h,hP⟩
  ·refine h _ _ (cR s (addrs ⟨objs,[]⟩)) g g {} s₁ ⟨rfl,rfl⟩ he W F _ _ λfl l s' N R=>?_;refine e13 R λv z5 Q a5=>?_;clear R;obtain rfl:=z5;exact a3 v l s' Q a5
  ·refine h _ _ (cR s (addrs ⟨objs,[]⟩)) g g {} s₁ ⟨rfl,rfl⟩ he W F _ _ λfl l s' N R=>?_;refine e02 R λz6 Q=>?_;clear R;obtain rfl:=z6;exact a3 .none l s' Q (hP l)
theorem qd {w:ar} {W W':Wr} {x0:aE} {ρ':dh} {f:ay} {oc:ae} {od:Option ay} {osl:Array (Option ae)} {fd:fR} {body:List cD} {r:Nat} {xs:List aE} {bs:List B} {ps:List ci} {P:ci} (dv:List ae) (ho:(kF.heap_1 w.params).lookup f=some ⟨oc,od,.func fd,osl⟩) (hcd:tf (kF.heap_1 w.params) fd.code fd.qualname=true) (a:fd.body=.stmts body) (d:fd.closure=[]) (N:fd.globals=bA) (z:fd.builtins=dA) (hbind:∀ (e:List ae) (s:af),(kF.heap_1 w.params).In s.heap->(e++dv).length=(x0::xs).length->wZ s fd ⟨e,[]⟩ ((x0::xs).zip (e++dv))) (hp:y7 xs bs (ps++dv.map RV)) (hnd:(x0::xs).Nodup) (hkind:((x0::xs).all λx=>fd.scope.names.lookup x==some .local || fd.scope.names.lookup x==some .cell)=true) (o:fd.scope.names.all (λx=>x.2 !=.free)=true) (v:fd.scope.isCoroutine=false) (c:fd.scope.isGenerator=false) (M:fd.scope.kind=.function) (h:zz fd.code (fd.qualname++".<locals>.") w fd.scope r ((x0,.res (WR W))::fn xs bs) body (.retR P ρ')\/(zz fd.code (fd.qualname++".<locals>.") w fd.scope r ((x0,.res (WR W))::fn xs bs) body (.next ρ')/\∀ g,P g .none)) (hw:ρ'.lookup x0=some (.res (WR W'))) (hsame:nS W W'):vY w (r+1) (.ref f) W ps P W':=by
 refine ⟨hsame,λA g s I G n F T S k Y Q E q=>iX (xU dv ho hcd a d N z hbind hp hnd hkind o v c M h hw T S k (v0:=.ref W.x) (objs:=(W.dx,fv G n)::mI F) ⟨rfl,G,n,F,rfl,Y.ok⟩ (λp hp=>?_) λu U J j V X y m R b L=>?_)⟩
 ·rcases mC hp with rfl | hp;·exact Y.dict
  ·refine e12 (mM hp) λt l H=>?_;obtain rfl:=H;exact Y.list t l
 ·obtain ⟨rfl,C,K,i,rfl,O⟩:=R;exact q u U J C K i y ⟨O.mono m,(b _ (.head _)).1,λt l=>(b (t.1,ao t.2.1.toArray t.2.2) (.tail _ (aX (f:=λt=>(t.1,ao t.2.1.toArray t.2.2)) l))).1⟩ L
noncomputable def hJ (it:ae):qr:=.builtin "proto.yield_from" ⟨[it,.bool false,.none],[]⟩
noncomputable def Kv (r:eB):il ae:=(match r with | .ok f=>(.pure f:il ui) | .error e=>.raise e)>>=λf=>match f with
 | .ret v=>pure v
 | _=>unsupported "internal:call-without-return-value"
section
variable {w:ar} {M:lM} {A:bj} {Φ:Lf->af->Prop} {c:qr} {fs:List uM} {s:af} {env:fg} {K:ui->il bO} {H:ae->il bO} {gd:Bool->Bool} {lv:List ae->List ae}
noncomputable def OH (K:ui->il bO) (H:ae->il bO) (gd:Bool->Bool) (lv:List ae->List ae) (e:be) (ypos pos:cU) (r:eB):il bO:=(Kv r).wrap (λx=>(Mr (.YieldFrom e ypos) pos x).wrap K H gd lv) H gd lv
theorem Cc {e:be} {a pos:cU} {T:String} (j:(gx T==gx "coroutine")=false) (h:aV M (A.over c fs) (eW e env) (λv d=>d.TypeIs v T/\aV M (A.over c fs) (kO v) (λf b=>∀ p,Go M A Φ (hJ f) (M.den (hJ f)) (.ret (OH K H gd lv e a pos) none (gd false) (lv []) c p []::fs) b) (λx b=>Go M A Φ c (H x) fs b) d) (λx d=>Go M A Φ c (H x) fs d) s) (hi:ni env=false):Go M A Φ c ((HX (.Expr (.YieldFrom e a) pos) env).wrap K H gd lv) fs s:=by
 rw [exec_Expr env _ pos hi rfl];refine (?_:Go M A Φ c (.at pos λ_=>((eW e env>>=λv=>(gQ a>>=λ_=>yieldFrom env v))>>=λx=>Mr (.YieldFrom e a) pos x).wrap K H gd lv) fs s);refine qD ?_;rw [ca,ca,cJ,cJ];refine fN (cr h (λv d i=>?_) λ_ _ x=>x);refine qD ?_;refine (?_:Go M A Φ c (Sem.wrap _ _ _ _ (v9 v>>=_)) fs d);rw [ca,cJ];refine fN (iW i.1 ?_);rw [if_neg (by rw [j];exact bb)];rw [ca,cJ];refine fN (bw (cr i.2 (λf b g=>?_) λ_ _ x=>x));exact yV g
end
section
variable {w:ar} {A:bj} {E:ae->af->Prop} {s:af}
theorem IT {it l:ay} {i:Nat} {items:Array ae} {x:ae} {Q:Option ae->af->Prop} (a:s.heap.IsListIter it l i) (j:s.heap.IsList l items) (hx:items[i]?=some x) (m:∀ g,g.IsListIter it l (i+1)->bR it s.heap g->Q (some x) {s with heap:=g}):aV (MM w) A (Pl (.ref it) (ac "__next__")) Q E s:=by
 refine bc λh=>?_;refine e13 (id a) λo d k b=>?_;obtain ⟨n,e,_,p,f⟩:=j;refine h ?_;refine eG (name:=ac "__next__") a.typeIs oK (ck oK a.typeIs Kj ?_ (Lb _));refine (?_:aV _ _ (PG (.ref it) 0>>=_) _ _ s);refine aa (lc d b (x:=.ref l) rfl ?_);refine aa (lc d b (x:=.int i 0) rfl ?_);refine aa (N1 e f ?_);simp only [bS,hx];refine aa (gm d b (by simp) (ah (i12 x rfl (m _ ?_ (aU ..)))));exact i13 _ (bn _ d (f7 (cF b _))) ((n8 ..).trans k) (by
  rw [cF b];rfl)
theorem KG {it l:ay} {i:Nat} {items:Array ae} {Q:Option ae->af->Prop} (p:A.handled=none) (b:s.heap.IsListIter it l i) (n:s.heap.IsList l items) (hx:items[i]?=none) (q:∀ e d k,gr it s.heap d->s.heap.objs.size<=d.objs.size->(∃ o,d.get? e=some o/\o.cls=.type "StopIteration"/\o.data=.fields k/\k[5]?=some dD)->E (.ref e) {s with heap:=d}):aV (MM w) A (Pl (.ref it) (ac "__next__")) Q E s:=by
 revert w A E s it l i items Q;intros w A E s it l i items Q;intro p b n hx q;refine bc λr=>?_;refine e13 (id b) λo g v j=>?_;obtain ⟨t,f,_,u,h⟩:=n;refine r ?_;refine eG (name:=ac "__next__") b.typeIs oK (ck oK b.typeIs Kj ?_ (Lb _));refine (?_:aV _ _ (PG (.ref it) 0>>=_) _ _ s);refine aa (lc g j (x:=.ref l) rfl ?_);refine (?_:aV _ _ (if (cw l==dD)=true then _ else _) _ _ s);refine aa (lc g j (x:=.int i 0) rfl ?_);refine aa (N1 f h ?_);simp only [bS,hx];refine aa (eT (aa (gm g j (by simp) ?_)));refine aa ?_;refine aa (m:=C2 _ _) (fY (a:=dD) (by first | rfl | (rfl)) ?_);refine eU ?_ (by size_fits);refine aa (Fu ?_);rw [p];refine aa (ah (pe (q _ _ _ (((aU ..).extBut.push _).push _) ?_ (i14 _ (az _ rfl) rfl rfl ?_))));·rw [cm,cm,gY];exact fa0
 ·rfl
end
section
variable {w:ar} {A:bj} {Φ:Lf->af->Prop} {fs:List uM} {s:af}
theorem ua:(K8 (.type "list_iterator") "close")=pure none:=by rw [typeLookup_type,builtinLookup_eq_fast];kernel_rfl
theorem Hj:wW Lz "proto.yield_from"=some Builtin.«proto.yield_from»:=zj (by kernel_rfl)
theorem AD {id:String} {args:Args} {b:Builtin} (hb:wW Lz id=some b):(MM w).den (.builtin id args)=b args:=by
 refine (?_:(match wW Lz id with | some b=>b args | none=>unsupported ((withoutEnding? id "#data").getD id))=_);rw [hb]
theorem yY (it:ae):(MM w).den (hJ it)=Builtin.«proto.yield_from» ⟨[it,.bool false,.none],[]⟩:=AD Hj
theorem Gz (it:ae):(hJ it).quiet=true:=Code.quiet_builtin _ (by decide+kernel)
theorem Aw {c:qr} {it:ay} {b:Bool} {K:Unit->il bO} {o:ff} (ho:s.heap.get? it=some o) (a:o.cls=.type "list_iterator") (h:Go (MM w) A Φ c (K ()) fs s):Go (MM w) A Φ c (qg (.ref it) b>>=K) fs s:=by
 refine jG ?_;refine aa (oI ho ?_);rw [a];exact ah h
theorem Im {it l:ay} {i:Nat} {items:Array ae} {x:ae} (g:CX fs=none) (f:s.heap.IsListIter it l i) (t:s.heap.IsList l items) (hx:items[i]?=some x) (h:∀ d p k,d.IsListIter it l (i+1)->bR it s.heap d->(∀ (n:bj) (c:Lf->af->Prop) a,(∃ o,a.heap.get? it=some o/\o.cls=.type "list_iterator")->Go (MM w) n c (hJ (.ref it)) (Builtin.«proto.yield_from» ⟨[.ref it,.bool false,.none],[]⟩) fs a->Go (MM w) n c (hJ (.ref it)) (k (.send .none)) fs a)->Φ (.susp x false [] k (hJ (.ref it)) p fs) {s with heap:=d}): Go (MM w) A Φ (hJ (.ref it)) ((MM w).den (hJ (.ref it))) fs s:=by
 revert g f t hx h;revert w A Φ fs s it l i items x;intros w A Φ fs s it l i items x;intro g f t hx h;rw [yY];delta Builtin.«proto.yield_from»;dsimp only;refine jG (ah ?_);refine jG (eQ (bw ?_));rw [if_neg bb,if_pos (by rfl)];refine aa (eT (aa (IT f t hx λd b y=>?_)));refine ah ?_;show Go (MM w) A Φ (hJ (.ref it)) (v9 (.ref it)>>=_) fs {s with heap:=d};refine jG (iW (s:={s with heap:=d}) b.typeIs ?_);dsimp only;refine jG (fY ua ?_);refine jG (ah ?_);refine e13 (id b) λC r v z=>?_;refine Aw (s:={s with heap:=d}) r v ?_;show Go (MM w) A Φ (hJ (.ref it)) (.yield x _ [] _) fs {s with heap:=d};refine Av g λp=>h d p _ b y λn c a ⟨B,q,u⟩ m=>?_;refine (?_:Go (MM w) n c (hJ (.ref it)) (qg (.ref it) false>>=_) fs a);refine Aw q u ?_;dsimp only;refine jG (ah ?_);exact nP (Gz _) (by rw [<- yY] at m;exact m)
theorem Ku {it l:ay} {i:Nat} {items:Array ae} (k:(A.over (hJ (.ref it)) fs).handled=none) (c:s.heap.IsListIter it l i) (j:s.heap.IsList l items) (hx:items[i]?=none) (h:∀ b,gr it s.heap b->s.heap.objs.size<=b.objs.size->Go (MM w) A Φ (hJ (.ref it)) (C0 (.ok (.ret .none))) fs {s with heap:=b}): Go (MM w) A Φ (hJ (.ref it)) ((MM w).den (hJ (.ref it))) fs s:=by
 revert w A Φ fs s it l i items;intros w A Φ fs s it l i items;intro k c j hx h;rw [yY];delta Builtin.«proto.yield_from»;refine jG (ah ?_);refine jG (eQ (bw ?_));refine aa (eT (aa (KG k c j hx λe b u p m ⟨o,g,r,q,n⟩=>?_)));obtain t:({s with heap:=b}:af).TypeIs (.ref e) "StopIteration":=(i12 o g r);refine jG ?_;refine aa (aa (iW t ?_));refine aa (fY C1 ?_);refine aa (fY (a:=gx "type") (by kernel_rfl) (ah ?_));refine ah ?_;refine jG (eT ?_);refine jG (lc g q n ?_);exact h b p m
end
theorem Ea {body b2:List cD} {env e2:fg} {t:be} {it it2:ae} {k k2:eB->il bO} {l l2:List ae} {p p2:cU}:E9 (hJ it2) [.ret k none false l (.forLoop t it b2 [] e2) p [],.ret k2 none false l2 (.func body env) p2 []]:=⟨rfl,rfl,λr A h=>⟨h.handled,by
 obtain this:=h.depth;refine (?_:A.depth+1+0+4*r<=900);exact fa1 this,by have:=h.units;refine (?_:A.units+1+3+1+40*r<=9000);exact fa1 this⟩⟩
theorem Et {w:ar} {r2 k:Nat} {fin:Bool} {x:ag} {xs:List ag} {n f:aA} {s2 s3:af} {env:fg} {o0 i:ff} {b pr:Pr} {ρ:dh} {v:ae} {kk:zl->il bO} {c:qr} {p:cU} {fs:List uM} (m:E9 c fs) (z:SS w n s2) (t:∀ a∈addrs (eu env o0 b),cg a=false) (s:pr.gens=[]) (l:∀ a∈addrs pr,a∈addrs b\/s2.heap.objs.size<=a) (o:FS w true (cR s2 (addrs (eu env o0 b))) n env f pr ρ s3) (j:s3.heap.get? env.locals=some i) (r:V f v x) (hr:GI w r2 fin k xs f (Le v false [] kk c p fs).genState (eu env i pr)):rX w r2 fin k n s2 (eu env o0 b) (x::xs) (.susp v false [] kk c p fs) s3:=by
 refine ⟨by (rw [OZ,m.guard];rfl),v,_,_,kk,c,p,fs,rfl,f,eu env i pr,jg z t o.aft rfl,⟨λq d=>?_,λq d=>(nm d)⟩,⟨λa e=>?_,λa e=>(nm e),λ_=>rfl⟩,rfl,r,hr⟩
 ·rcases mC d with rfl | d;·exact ⟨j,o.notL⟩
  ·refine e03 (o.prot.objs q d) λy u A=>?_;exact ⟨y,u⟩
 ·rcases mC e with rfl | e;·exact .inl (.head _)
  ·exact (l a e).imp (λh=>.tail _ h) id
noncomputable def EA (xs:List ag):dh:=[(S0 "namespaces",.d (.list xs))]
theorem IM (xs:List ag):∀ x b,(EA xs).lookup x=some b->pC b=false:=λx b h=>by
 delta EA at h;rw [aK] at h;split at h
 ·refine iM h λa=>?_;clear h;subst a;rfl
 ·cases h
section
variable {w:ar} {sc:bf} {r k:Nat} {env:fg} {t t1 e:be} {yp ep ip:cU} {fbody:List cD} {kf:eB->il bO}
noncomputable abbrev J8 (t1 e:be) (yp ep ip:cU):List cD:=[.If t1 [.Expr (.YieldFrom e yp) ep] [] ip]
structure NH (w:ar) (sc:bf) (r:Nat) (t t1 e:be):Prop where
 t1:∀ xs:List ag,xs.length<=1000->Tr w sc r (EA xs) t1 (!xs.isEmpty)
 e:∀ xs,Ev w sc r (EA xs) e (LL xs)
 as:∀ ρ xs,uI w sc r t (.list xs) ρ ((S0 "namespaces",.d (.list xs))::ρ)
noncomputable def EZ (lls:List (List ag)):List ag:=lls.flatten
theorem IU (G:NH w sc r t t1 e) (he:cB sc env) (hc:∀ n,env.cells.lookup n=none) (hk1:kf (.ok .next)=C0 (.ok (.ret .none))): ∀ (y:List (List ag)),(∀ l∈y,l.length<=1000)->∀ (A:bj) (o:aA) (f:af) (u:ff) (c:Pr) (g:aA) (s:af) (z:ae) (q:Pr) (ρ:dh) (p:cU) (N:List ae),Rm (r+1) A->SS w o f->(∀ a∈addrs (eu env u c),cg a=false)-> FS w true (cR f (addrs (eu env u c))) o env g q ρ s->q.gens=[]->(∀ a∈addrs q,a∈addrs c\/f.heap.objs.size<=a)->jf w r true z (y.map .list) g q-> Go (MM w) A.in1 (rX w (r+1) true k o f (eu env u c) (EZ y)) (.forLoop t z (J8 t1 e yp ep ip) [] env) ((MM w).den (.forLoop t z (J8 t1 e yp ep ip) [] env)) [.ret kf none false N (.func fbody env) p []] s:=by
 have S:∀ {o:aA} {f:af} {u:ff} {c:Pr} {g:aA} {s:af} {q:Pr} {ρ:dh},FS w true (cR f (addrs (eu env u c))) o env g q ρ s->f.heap.objs.size<=s.heap.objs.size:=λF=>by
  obtain this:=F.aft.size;replace this:=dZ▸this;exact this
 intro y;induction y with
 | nil=>intro _ A o f u c g s z q ρ p N C Z Y F hq D hi;refine mK ?_;obtain B:=(fJ (b2:=J8 t1 e yp ep ip) (e2:=env) (it:=z) (l:=N) (p:=p)).rm r A C;refine hi.2 rfl g _ s (eN.refl _) B F.ss F.rm0.live _ _ λs' g' x=>?_;exact tC (rK (.ok .next) (by rw [hk1];exact yU Z Y (F.rm0.iterEnd y0 x)))
 | cons l0 y ih=>
  intro W A o f u c g s z q ρ p N C Z Y F hq D hi;obtain a7:=ih λl hl=>W l (.tail _ hl);obtain b4:=W l0 (.head _);have B:=λA C=>(fJ (body:=fbody) (b2:=J8 t1 e yp ep ip) (env:=env) (e2:=env) (t:=t) (it:=z) (k:=kf) (l:=N) (p:=p)).rm r A C;refine mK ?_;refine hi.2 g _ s (eN.refl _) (B A C) F.ss F.rm0.live _ _ λv g' E s' x l2 a6 hv P=>?_;refine e02 (F.rm0.iter y0 x l2 a6.two) λF2 d0=>?_;refine p7 P.ok l2 ?_;refine G.as ρ l0 _ env _ o g' _ s' v he (B A C) F2 hv _ _ λg3 s3 b3 F3=>?_;have O:=a6.2.2 hq;have U:=λa j=>(a6.1 a j).elim (D a) λh=>.inr (ab (S F) h);have F4:FS w true (cR f (addrs (eu env u c))) o env g3 E (EA l0) s3:=F3.rm1.weaken (r8.cons rfl r8.nil);obtain b6:=P.mono b3;cases hl:l0 with
  | nil=>replace F4:=hl▸F4;refine vl ((G.t1 [] (aM _)).eq rfl) he (B A C) F4 λg5 s5 K F5=>pE (pE (nP rfl ?_));exact a7 A o f u c g5 s5 z E _ p N C Z Y F5 O U (b6.mono K)
  | cons x0 a0=>
   rw [hl] at F4 b4;refine vk ((G.t1 _ b4).eq rfl) he (B A C) F4 λg5 s5 K F5=>?_;obtain P:ni env=false:=by
    obtain rfl:=he.scp;obtain this:=he.kind;unfold ni;(rw [this];rfl)
   refine k9 (Cc (T:="list") (by decide) ?_ P);refine G.e (x0::a0) _ env true _ o g5 E s5 he (B A C) F5 _ _ λv g6 s6 x6 v6=>?_;have F6:=F5.step x6;refine e24 (V.list_inv v6) λl vs z0 d I z1=>?_;obtain rfl:=z0;refine ⟨(IsList.up d F6.ss.sub).typeIs,?_⟩;refine pf (IsList.up d F6.ss.sub) ?_;intro pY;refine e02 (F6.add (q:=⟨[(s6.heap.objs.size,{cls:=.type "list_iterator",data:=.fields #[.ref l,.int 0 0]})],[]⟩) (F6.ss.same (Stp.push s6 ({cls:=.type "list_iterator",data:=.fields #[.ref l,.int 0 0]}:ff) s6.toks)) ⟨λq hq=>(m1 hq ⟨az _ rfl,F6.ss.none (aq _)⟩),λ_ h=>(nm h)⟩ (λa j=>by simp [addrs] at j;exact aj j.symm) (λ_ h=>(nm h))) λF7 c7=>?_;generalize hkY:OH _ _ _ _ _ _ _=kY;obtain b5:kY (.ok (.ret .none))=.pure (.again (.forLoop t z (J8 t1 e yp ep ip) [] env)):=by rw [<- hkY];rfl
   clear hkY;obtain c4:=S F6;generalize s6.heap.objs.size=M at*;have a1:∀ (xs:List ag) (i:Nat),∀ (A:bj) (o:aA) (f:af) (u:ff) (c:Pr) (g:aA) (s:af) (H:ff),eN g6 g->VA g (vs.drop i) xs->Rm (r+1) A->SS w o f->(∀ a∈addrs (eu env u c),cg a=false)->
     FS w true (cR f (addrs (eu env u c))) o env g (dg ⟨[(M,H)],[]⟩ E) (EA (x0::a0)) s->eg ⟨[(M,H)],[]⟩ E->H.cls=.type "list_iterator"->H.data=.fields #[.ref l,.int i 0]->(∀ a∈addrs (dg ⟨[(M,H)],[]⟩ E),a∈addrs c\/f.heap.objs.size<=a)->
     Go (MM w) A.in1 (rX w (r+1) true k o f (eu env u c) (xs++EZ y)) (hJ (.ref M)) ((MM w).den (hJ (.ref M))) [.ret kY none false [] (.forLoop t z (J8 t1 e yp ep ip) [] env) pY [],.ret kf none false N (.func fbody env) p []] s:=by
    intro xs
    induction xs with
    | nil=>
     intro i A o f u c g s H L I C Z Y F ap a5 a4 D;refine e02 (F.live.objs _ (.head _)) λh1 h2=>?_;have Q:=Ea (body:=fbody) (b2:=J8 t1 e yp ep ip) (env:=env) (e2:=env) (t:=t) (it:=z) (it2:=.ref M) (k:=kY) (k2:=kf) (l:=[]) (l2:=N) (p:=pY) (p2:=p);have a3:=I.length;have a2:vs.toArray[i]?=none:=by
      rw [cE];simp only [lx,pS] at a3;exact cn (by lia)
     obtain hT:=(F.prot.objs (M,H) (.head _)).2.2.1.2;refine Ku (Q.rm r A C).handled (i13 H h1 a5 a4) (by refine e12 d λol a b=>?_;clear d;exact i12 ol (F.ss.sub _ _ (L _ _ a)) b) a2 λh' hs hz=>rK (.ok (.ret .none)) ?_;rw [b5];obtain F8:=F.iterEnd ap (nU.ext F.ss h2 hz hT hs);exact nP rfl (a7 A o f u c g _ z E _ p N C Z Y F8 O (λa j=>D a (by unfold addrs dg;rw [bM];exact aW _ j)) (b6.mono (K.trans (x6.le.trans L))))
    | cons x xs b8=>
     intro i A o f u c g s H L I C Z Y F ap a5 a4 D;refine bc λnO=>?_;refine e02 (F.live.objs _ (.head _)) λh1 h2=>?_;obtain Q:=Ea (b2:=J8 t1 e yp ep ip) (e2:=env) (it:=z) (it2:=.ref M) (k2:=kf) (l2:=N) (p2:=p);refine e12 (I.get 0 rfl) λv a9 b9=>?_;refine nO ?_;rw [Ga,Dh] at a9;obtain a8:VA g (vs.drop (i+1)) xs:=by
      obtain this:=I.drop 1;rwa [g0] at this
     refine Im Q.split (i13 H h1 a5 a4) (by refine e12 d λol a b=>?_;exact i12 ol (F.ss.sub _ _ (L _ _ a)) b) (by rw [cE];exact a9) λh' pp kk X hs b0=>?_;refine e13 X λo3 c0 b7 c2=>?_;clear X;obtain ⟨F8,c6⟩:=F.iter (q':=⟨[(M,o3)],[]⟩) (s':={s with heap:=h'}) ap (nU.one F.ss h2 ((F.prot.objs (M,H) (.head _)).2.2.1.2) hs) ⟨λp hp=>(by
      obtain rfl:=mS hp;exact ⟨c0,h2⟩),λ_ h=>nm h⟩ ⟨λa j=>.inl j,λ_ h=>nm h⟩
     refine bc λnO=>?_;obtain ⟨m,hm,_⟩:=F8.vars;refine e32 (id hm) λoL es c9 b1 z2=>?_;refine nO ?_;refine Et (xs:=xs++EZ y) (pr:=dg ⟨[(M,o3)],[]⟩ E) Q Z Y (by refine (?_:[]++E.gens=[]);rw [O];rfl) D F8 b1 b9 ?_;refine GI.susp λc8 g9 A9 s9 J c5 S9 c1=>?_;refine e02 (F8.wake b1 hc (IM _) (by refine (?_:[]++E.gens=[]);rw [O];rfl) J S9 c1) λF9 c3=>?_;refine b0 _ _ _ (i12 o3 ((F9.live.objs _ (.head _)).1) b7) ?_;rw [<- yY];exact b8 (i+1) A9 g9 s9 oL _ g9 s9 o3 (L.trans J) (a8.mono J) c5 S9 c3 F9 c6 b7 c2 λa j=>.inl j
   have:=a1 (x0::a0) 0 A o f u c g6 _ _ (eN.refl _) (by trivial) C Z Y F7 c7 rfl rfl λa j=>?_;·exact this
   ·unfold addrs dg at j;replace j:=bM▸j;rcases mA j with j | j
    ·obtain rfl:=mS j;exact .inr c4
    ·exact U a j
end
theorem zW {w:ar} {r:Nat} {g:aA} {v:ae} {ds:List ag} {A:bj} {s:af} (hA:Rm r A) (S:SS w g s) (t:V g v (.list ds)) {Q:ae->af->Prop} {E:ae->af->Prop} (k:∀ a o f,iB s g f g->kL g f ⟨[(a,o)],[]⟩->s.heap.objs.size<=a->jf w r true (.ref a) ds.reverse g ⟨[(a,o)],[]⟩->Q (.ref a) f):aV (MM w) A (call (.type "reversed") [v]) (λx b=>aV (MM w) A (kO x) Q E b) E s:=by
 refine e24 (V.list_inv t) λl d q n j y=>?_;obtain rfl:=q;obtain c:=IsList.up n S.sub;refine La c ?_;obtain m:(s.heap.push (HU l ((d.toArray.size:Int) - 1))).get? s.heap.objs.size=some (HU l ((d.toArray.size:Int) - 1)):=az _ rfl;refine Jz (i:=(d.toArray.size:Int) - 1) (i13 _ m rfl rfl) ?_;exact k _ _ _ (S.same (Stp.push s _ s.toks)) ⟨λp u=>(by
  obtain rfl:=mS u;exact ⟨m,S.none (aq _)⟩),λ_ h=>nm h⟩ (aq _) (jf.rev n j (eD S.big) (bg (let ⟨z,a,_⟩:=c;aH a)) m rfl λo e=>au _ (S.sub _ _ e))
theorem ub (w:ar) {lls:List (List ag)} (c:∀ l∈lls,l.length<=1000):wK w 4 (.ref 153) [AnyV,LL (lls.map .list)] true (EZ lls.reverse):=by
 revert w lls;intros w lls;intro c;refine' vL (xs:=[S0 "self",S0 "ns_stack",S0 "_reversed"]) [.type "reversed"] ?ho ?hcd ?h1 ?h2 ?h3 ?h4 ?hbind ?hp ?hnd ?hkind ?h8 ?h5 ?h6 ?h7 ?h;case ho=>exact rfl
 case hcd=>exact rfl
 case h1=>exact rfl
 case h2=>exact rfl
 case h3=>exact rfl
 case h4=>exact rfl
 case hnd=>decide
 case hkind=>decide
 case h8=>decide
 case h5=>exact rfl
 case h6=>exact rfl
 case h7=>exact rfl
 case hbind=>intro R s X V;refine e21 (jz (by simpa using V)) λa b N=>?_;obtain rfl:=N;exact C5 X λ_=>rfl
 case hp=>exact .cons tN.tol (.cons tN.d (.cons tN.raw .nil))
 case h=>
  intros D G J g s T k;intro z I F hL;refine GI.fresh ?_;intro Y;intros C A H;intro r m S y;obtain ⟨L,Z⟩:=F.wake hL I (λx b h=>by
   obtain f:=mem_of_lookup h;rcases mC f with e | f;·cases e;rfl
   ·rcases mC f with e | f;·cases e;rfl
    ·rcases mC f with e | f;·cases e;rfl
     ·cases f) rfl r S y
  refine yS (k9 (Cb (λ_=>rfl) ?_));refine aa (CH (x:=S0 "_reversed") (v:=.type "reversed") ?hr rfl (rfl) _ D true _ C C {} H z (E9.func.rm 3 A m) L _ _ λu g1 s1 Q W=>?_);case hr=>rfl
  obtain rfl:=W;have K:=L.step Q;refine cL z (E9.func.rm 3 A m) K (rf.one (d:=.list (lls.map .list)) (al rfl)) (D9.plain λa e=>by cases e) λR g2 s2 P q=>?_;refine e11 (hY q.length.symm) λv M=>?_;obtain rfl:=M;have E:=K.step P;refine zW (E9.func.rm 3 A m) E.ss q.1 λa o s3 O t j i=>?_;intro p;rw [<- uQ] at i;refine IU ⟨?t1,?e,?as⟩ z I ?hk1 lls.reverse (λl y=>c l (jx.1 y)) A C H T {} g2 _ _ _ _ p _ m S Z ((E.add O t (λb B=>by obtain rfl:b=a:=mS B;exact j) (λ_ h=>nm h)).1).rm1 rfl (λb B=>.inr (by obtain rfl:b=a:=mS B;exact ab (by have:=E.aft.size;replace this:=dZ▸this;exact this) j)) i;case hk1=>rfl
  case t1=>exact λn U=>Tr.val (al rfl) (AO.list (ab U (by decide)))
  case e=>exact λn=>al rfl
  case as=>exact λρ n=>eA
noncomputable def pJ (w:ar) (a:ay) (S:aE->Bool) (n:Nat):aA->ae->List (ay × ff)->Prop:=λg v objs=>v=.ref a/\∃ o,objs=[(a,o)]/\o.SetObjOf (aZ PR w) S n
section
variable {w:ar} {sc:bf} {st:Bool} {s₀ s s':af} {g₀ g g':aA} {env:fg} {pr:Pr} {ρ ρ':dh} {r:Nat} {o:m6} {pos:cU} {x:aE} {a:ay} {S:aE->Bool} {n:Nat}
theorem ov {h:aA} {v:ae} (hb:r9 s₀ env g h pr v (.res (pJ w a S n))):v=.ref a/\∃ b,b.SetObjOf (aZ PR w) S n/\h.get? a=some b/\l7 s₀ env g pr a:=by
 refine e23 hb λj i f d c=>?_;clear hb;obtain ⟨rfl,b,rfl,e⟩:=d;exact ⟨rfl,b,e,c _ (.head _)⟩
theorem tI {h:aA} {c:ff} (hs:c.SetObjOf (aZ PR w) S n) (ho:h.get? a=some c) (b:l7 s₀ env g pr a):r9 s₀ env g h pr (.ref a) (.res (pJ w a S n)):=
 (i23 g ([(a,c)]) (eN.refl _) ⟨rfl,c,rfl,hs⟩ (λp d=>by
  obtain rfl:=mS d;exact ⟨ho,b⟩))
theorem CC {np p cp:cU} {xs:List cD} (hx:sc.names.lookup x=some .local) (next:∀ a,Ex w sc r ((x,.res (pJ w a (λ_=>false) 0))::ρ) xs o) (e:autoParam (∀ P,Bh (kF.heap_1 P) bA (ac "set")=some dO) am._auto_9) (l:autoParam (sc.names.lookup (ac "set")=some .globalImplicit) auS._auto_1) :Ex w sc r ρ (.Assign [.Name x p] (.Call (.Name (ac "set") np) [] [] cp) pos::xs) o:=by
 intro A h c d g z s i t F Q E q;refine bI (dw ?_ rfl);refine aa (Ev.blt (v:=.type "set") e rfl l (by decide) rfl A h true c d g z s i t F _ _ λv O N y G=>?_);obtain rfl:=G;have B:=F.step y;refine cL i t B rf.nil (D9.plain λa e=>by cases e) λM J k u H=>?_;obtain rfl:=qc H;have j:=B.step u;refine call_set_0 λf=>?_;refine (j.step (j.ss.same (Stp.push k ({cls:=.type "set",dict:=none,data:=.set #[] 0 (.fresh 0 0 f)}:ff) k.toks))).store i (.inl hx) (b:=.res (pJ w k.heap.objs.size (λ_=>false) 0)) (tI (setObjOf_fresh f) (az _ rfl) (j.off (aq _) (j.ss.none (aq _)))) λD L=>?_;exact next _ A h c d J z D i t L Q E λK I C m=>q K I C ((y.trans u).le.trans m)
theorem HB {e:be} {y:aE} {xp ap cp:cU} (hx:ρ.lookup x=some (.res (pJ w a S n))) (h:Ev w sc r ρ e (SSV y)) (hn:n<1000) (ho:autoParam (cA x ρ=true) auT._auto_1) (i:autoParam ((x==("__classdict__":aE))=false) auF._auto_1) (f:autoParam ((x==("__debug__":aE))=false) auF._auto_1) (hl:autoParam ((ap.endLine==cp.line)=true) auT._auto_1) (d:autoParam (∀ c,bW [e] c=(false,eW e c)::bW [] c) am._auto_9):lF w sc r ρ (.Expr (.Call (.Attribute (.Name x xp) (ac "add") ap) [e] [] cp) pos) (.next ((x,.res (pJ w a (λk=>S k || decide (k=y)) (if S y then n else n+1)))::ρ)):=by
 revert hx h hn ho i f hl d;revert w sc ρ r pos x a S n e y xp ap cp;intros w sc ρ r pos x a S n e y xp;intros ap cp;intro hx h hn ho i f hl d;intro A c s₀ g₀ g pr s he hA F Q E q;refine eV ?_ he.int rfl;refine e11 (eS (o:=.Name x xp) (name:=ac "add") (args:=[e]) (λ_=>rfl) (uU d _ c) hl (show 1<30 by decide)) λpl hc=>?_;refine eH (dm he F hx (λv hb=>?_) i f) hc;obtain ⟨rfl,so,hso,hos,hoff⟩:=ov hb;have B:n<FW:=by unfold FW;exact aw (by assumption) (by decide)
 refine getMethod_set_add (hso.setOf hos B) ?_;refine cL he hA F (rf.cons h rf.nil vH.d d) (D9.plain λa e=>by cases e) λus g2 s2 x2 hp=>?_;refine bc λnO=>?_;refine e11 (hY hp.length.symm) λu z0=>?_;obtain rfl:=z0;have F2:=F.step x2;refine e11 (F2.at hx) λv2 hb2=>?_;obtain ⟨rfl,so2,m,C,b⟩:=ov hb2;refine e11 hp.1.str_inv λt z1=>?_;obtain rfl:=z1;refine nO ?_;clear nO;refine call_set_add (knd:=aZ PR w) (Pn y t) rfl (m.setOf C B) (by unfold FW;exact fa1 hn) λh' z hS'=>?_;obtain ⟨so',ho',p⟩:=hS'.objOf;refine q _ g2 _ x2.le ⟨rfl,F2.turnAt (tk:=s2.toks+1) hx ho z b λv hb=>?_⟩;refine e02 (ov hb) λz2 z3=>?_;obtain rfl:=z2;exact tI p ho' b
theorem E5 {e:be} {y:aE} {p:cU} (h:Ev w sc r ρ e (SSV y)) (hx:ρ.lookup x=some (.res (pJ w a S n))) (L:n<1000) (f:autoParam ((x==("__classdict__":aE))=false) auF._auto_1) (d:autoParam ((x==("__debug__":aE))=false) auF._auto_1):Tr w sc r ρ (.Compare e [.NotIn] [.Name x p] pos) (!S y):=by
 intro A k C b c g D s u H F Q E q;refine ml (h A k C b c g D s u H F _ _ λv I K l B=>?_) rfl;obtain ⟨t,rfl⟩:=B.str_inv;have z:=F.step l;refine dm u z hx (λv G=>?_) f d;obtain ⟨rfl,J,i,j,m⟩:=ov G;refine wpAny_notInSet_of (knd:=aZ PR w) (Pn y t) rfl (i.setOf j (by exact aw (by assumption) (by decide))) ?_;exact fG (q I _ (l.trans (z.ss.tok _)))
structure OP (W:Wr) (g:aA) (es:List ce) (n:Nat):Prop where
 inst:g.get? W.x=some (q6 228 W.dx)
 dict:g.get? W.dx=some (fv es n)
 ats:v8 es W.ats
 dec:V g (.ref W.aD) (.list W.ds)
noncomputable def WT (W:Wr):ci:=λg v=>v=.ref W.x/\∃ es n,OP W g es n
variable {W:Wr}
theorem OP.at {h:aA} {es:List ce} {k:Nat} (y:OP W g es k) (hs:eN g h):InstAt h W.x (q6 228 W.dx) 228 (some (fv es k)):=⟨hs _ _ y.inst,rfl,rfl,hs _ _ y.dict⟩
theorem A3 {v:ae} {name:aE} {xp:cU} (hx:ρ.lookup x=some (.tol (WT W))) (i:W.ats.lookup name=some v) (l:autoParam (JF v=true) auT._auto_1) (j:autoParam (∀ P,pP (kF.heap_1 P) (.ref 228) name=some none) am._auto_9) (c:autoParam ((x==("__classdict__":aE))=false) auF._auto_1) (b:autoParam ((x==("__debug__":aE))=false) auF._auto_1):Ev w sc r ρ (.Attribute (.Name x xp) name pos) (RV v):=by
 intro A t y e h g z s m B F Q E q;refine oS (dm m F hx (λu p=>?_) c b);obtain ⟨f,d,rfl,C,k,Y⟩:=p;refine FY (F.ss.base.K.keeps F.ss.sub) (Y.at (d.trans F.ss.sub)) rfl (zA (K:=kF.heap_1 w.params) rfl (j _) rfl ?_) l (q _ g _ (F.ss.tok _) rfl);rw [lg,Y.ats.get,i]
theorem Jv {xp:cU} (hx:ρ.lookup x=some (.tol (WT W))) (y:W.ats.lookup (S0 "_declared_ns_stack")=some (.ref W.aD)) (e:autoParam ((x==("__classdict__":aE))=false) auF._auto_1) (d:autoParam ((x==("__debug__":aE))=false) auF._auto_1):Ev w sc r ρ (.Attribute (.Name x xp) (S0 "_declared_ns_stack") pos) (LL W.ds):=by
 intro A h m b c g t s z B F Q E q;refine A3 hx y rfl (λ_=>rfl) e d A h m b c g t s z B F _ _ λv C p i l=>?_;obtain rfl:=l;obtain ⟨u,j,f,_,D,k,Y⟩:=(F.step i).at hx;exact q _ C p i (Y.dec.mono f)
theorem Fi {f:ay} {name:aE} {xp ap:cU} {args:List be} {Ps:List ci} {fin:Bool} {xs:List ag} (hx:ρ.lookup x=some (.tol (WT W))) (T:W.ats.lookup name=none) (b:rf w sc r ρ args Ps) (c:wK w r (.ref f) (AnyV::Ps) fin xs) (N:∀ P,pP (kF.heap_1 P) (.ref 228) name=some (some (.ref f))) (ht:autoParam (∀ P,Om (kF.heap_1 P) (.ref f)=some (.type "function")) am._auto_9) (L:autoParam (∀ P,C6 (kF.heap_1 P) (.ref f)=true) am._auto_9) (i:autoParam ((x==("__classdict__":aE))=false) auF._auto_1) (e:autoParam ((x==("__debug__":aE))=false) auF._auto_1) (l:autoParam ((ap.endLine==pos.line)=true) auT._auto_1) (K:autoParam (args.length<30) n7._auto_19):Ee w sc r ρ (.Call (.Attribute (.Name x xp) name ap) args [] pos) fin xs:=by
 intro A m st p z g pr s t u F Q E q;obtain ⟨pl,O⟩:=eS (o:=.Name x xp) (apos:=ap) (λ_=>rfl) (b.plain m) l K;refine eH (dm t F hx (λv R=>?_) i e) O;obtain ⟨y,j,rfl,es,k,Y⟩:=R;refine Ms (F.ss.base.K.keeps F.ss.sub) (Y.at (j.trans F.ss.sub)) rfl rfl (N _) (ht _) (by refine (?_:(lookIn name (fv es k)).map _=_);rw [lg,Y.ats.get,T];rfl) ?_;refine cL t u F b (D9.top L) λC Z G d J=>?_;refine c Z (.ref W.x::C) ⟨trivial,J⟩ A G u (F.step d).ss Q E λI X H D B l V U M=>?_;exact q I X H D (d.trans B) l (λa h=>ab d.size (V a h)) (λa h=>ab d.toStp.gsize (U a h)) M
end
structure lj (W:Wr):Prop where
 dec:W.ats.lookup (S0 "_declared_ns_stack")=some (.ref W.aD)
 ns:W.ats.lookup (S0 "_ns_stack")=some (.ref W.aN)
 sp:W.ats.lookup (S0 "_preserve_space")=some (.ref W.aS)
 wr:W.ats.lookup (S0 "_write")=some (.ref W.wa)
 data:W.ats.lookup (S0 "_data")=some W.dv
 xa:W.ats.lookup (S0 "_exclude_attrs")=some .none
 xt:W.ats.lookup (S0 "_exclude_tags")=some .none
 rw:W.ats.lookup (S0 "_rewrite_prefixes")=some (.bool false)
 qt:W.ats.lookup (S0 "_qname_aware_tags")=some .none
 fq:W.ats.lookup (S0 "_find_qname_aware_attrs")=some .none
 ig:∃ t,W.ats.lookup (S0 "_ignored_depth")=some (.int 0 t)
 seen:(W.ats.lookup (S0 "_root_seen")).isSome=true
 don:(W.ats.lookup (S0 "_root_done")).isSome=true
 m1:W.ats.lookup (S0 "start")=none
 m2:W.ats.lookup (S0 "_start")=none
 m3:W.ats.lookup (S0 "end")=none
 m4:W.ats.lookup (S0 "_qname")=none
 m5:W.ats.lookup (S0 "_iter_namespaces")=none
noncomputable def rl:ag:=.tuple [.str (S0 "http://www.w3.org/XML/1998/namespace"),.str (S0 "xml")]
noncomputable def l5 (k:Nat):List ag:=([rl]::bC k []).map .list
theorem EY (k:Nat):EZ ([rl]::bC k []).reverse=[rl]:=by
 delta EZ;rw [iY,List.reverse_replicate,List.flatten_append];have:∀ k:Nat,(bC k ([]:List ag)).flatten=[]:=λk=>by
  induction k with
  | zero=>rfl
  | succ k a=>rw [jH,H6,a];rfl
 rw [this];rfl
theorem ya {w:ar} {sc:bf} {r:Nat} {ρ:dh} {e:be} {v:ae} {d:ag} (h:Ev w sc r ρ e (RV v)) (k:∀ g,V g v d):Ev w sc r ρ e (DV d):=λA c i a b g l s n o F Q E q=>h A c i a b g l s n o F Q E λu f j x m=>q u f j x (by rw [show u=v from m];exact k f)
theorem Hu {w:ar} {sc:bf} {r:Nat} {ρ:dh}:vG w sc r ρ none none:=trivial
theorem GA (w:ar) {W:Wr} (G:lj W) {k:Nat} (hk:k<=1000) (hds:W.ds=l5 k) {q:aE} (hl:q.length<=dK) (hq:(pb q none (some 1)==S0 "{")=false):CJ w 5 (.ref 168) [WT W,SSV q] (TT [.str q,.str q,.str (S0 "")]):=by
 refine' xW (xs:=[S0 "self",S0 "qname",S0 "uri"]) (bs:=[.tol (WT W),.d (.str q),.d .none]) [.none] ?ho ?hcd ?h1 ?h2 ?h3 ?h4 ?hbind ?hp ?hnd ?hkind ?h8 ?h5 ?h6 ?h7 ?h;case ho=>exact rfl
 case hcd=>exact rfl
 case h1=>exact rfl
 case h2=>exact rfl
 case h3=>exact rfl
 case h4=>exact rfl
 case hnd=>decide
 case hkind=>decide
 case h8=>decide
 case h5=>exact rfl
 case h6=>exact rfl
 case h7=>exact rfl
 case hbind=>
  intro vs s X hv;have h2:vs.length=2:=by simpa using hv
  obtain ⟨a,b,rfl⟩:=jz h2;exact C5 X λ_=>rfl
 case hp=>exact .cons tN.tol (.cons tN.d (.cons (λ_ _ _ _ _ _ h=>h▸V.none) .nil))
 case h=>
  have hG:=ub w (lls:=[rl]::bC k []) (λl hl=>by
   rcases mC hl with rfl | hl;·exact (show 1<=1000 by decide)
   ·rw [zG hl];exact aM _)
  rw [EY] at hG;refine zz.of (Ex.cons (fr (bQ (al rfl) .nil kr.isNone) (Ex.cons (fE (ds:=[.str (S0 ""),.str q]) (sW ((bQ (sV (al rfl) Hu (vG.of .int) hl) .str A8).eq hq) (Ev.tuple (.consD .str (.one (al rfl))) (show 2<=dK by decide))) K6.two) Ex.nil)) (CC rfl λa=>?_));have hu:(S0 "http://www.w3.org/XML/1998/namespace"==S0 "")=false:=by decide
  refine Ex.cons (ρ':=[(S0 "prefixes_seen",.res (pJ w a (λk=>(λ_=>false) k || decide (k=S0 "xml")) 1)),(S0 "self",.tol (WT W)),(S0 "tag",.d (.str q)),(S0 "uri",.d (.str (S0 "")))]) (nA (ρ:=[(S0 "prefixes_seen",.res (pJ w a (λ_=>false) 0)),(S0 "self",.tol (WT W)),(S0 "tag",.d (.str q)),(S0 "uri",.d (.str (S0 "")))]) (r8.cons rfl (r8.cons rfl (r8.cons rfl (r8.cons rfl r8.nil)))) (gc (fin:=true) (xs:=[rl]) (Fi rfl G.m5 (.one ((Jv rfl G.dec).eq (by rw [hds];rfl))) hG (λ_=>rfl)) ?_)) ?_
  ·refine ke (n:=1) rfl (I:=λi=>if i=0 then [(S0 "prefixes_seen",.res (pJ w a (λ_=>false) 0)),(S0 "self",.tol (WT W)),(S0 "tag",.d (.str q)),(S0 "uri",.d (.str (S0 "")))] else [(S0 "prefixes_seen",.res (pJ w a (λk=>(λ_=>false) k || decide (k=S0 "xml")) 1)),(S0 "self",.tol (WT W)),(S0 "tag",.d (.str q)),(S0 "uri",.d (.str (S0 "")))]) λi x hx=>?_;match i,hx with
   | 0,hx=>cases hx;refine ⟨_,_,uI.tuple K6.two,.inl (Ex.cons (cf ?t Ex.nil) (Ex.cons (HB rfl (al rfl) (by decide)) Ex.nil)),r8.cons rfl (r8.cons rfl (r8.cons rfl (r8.cons rfl r8.nil)))⟩;exact kd (li ((bQ (al rfl) (al rfl) A8).eq hu))
  ·refine Ex.cons (cf (Tr.val (ya (A3 rfl G.rw) λ_=>V.bool false) AO.bool) Ex.nil) (Ex.ret (fr ?t2 (Ex.ret (lF.ret (Ev.tuple (ds:=[.str q,.str q,.str (S0 "")]) (.consD (al rfl) (.consD (al rfl) (.one (al rfl)))) (show 3<=dK by decide))))));exact kd (vC (y5 (Tr.val (al rfl) (AO.str (x:=S0 "") (by decide)))) (vC ((E5 (a:=a) (S:=λk=>(λ_=>false) k || decide (k=S0 "xml")) (n:=1) (y:=S0 "") .str rfl (by decide)).eq (by decide)) Cr))
theorem LV (w:ar) {W:Wr} (G:lj W) {k:Nat} (hk:k<=1000) (hds:W.ds=l5 k) {q:aE} (hl:q.length<=dK) (hq:(pb q none (some 1)==S0 "{")=false):iu w 5 (.ref 168) [WT W,SSV q] (TT [.str q,.str q,.str (S0 "")]):=(GA w G hk hds hl hq).cal
section
variable {w:ar} {sc:bf} {st:Bool} {s₀ s s':af} {g₀ g g':aA} {env:fg} {pr:Pr} {ρ ρ':dh} {r:Nat} {o:m6} {pos:cU} {x:aE} {W:Wr}
theorem ko.mono {g h:aA} (k:eN g h) {ps:List ci} {vs:List ae} (c:∀ P∈ps,vH P) (x:ko g ps vs):ko h ps vs:=
 x.ind (P:=λps vs=>(∀ P∈ps,vH P)->ko h ps vs) (λ_=>trivial) (λ_ v _ _ a _ b c=>⟨c _ (.head _) g _ v k a,b λP d=>c P (.tail _ d)⟩) c
theorem VA.strsAny {g h:aA} {vs:List ae} {ss:List aE} (x:VA g vs (ss.map .str)):VA h vs (ss.map .str):=
 x.indM (P:=λvs ss=>VA h vs (ss.map .str)) trivial λ_ _ _ _ x _ k=>x.str_inv.elim λ_ e=>e▸⟨.str _ _,k⟩
theorem J3 {es:List ce} {n:Nat} {ts:List (ay × List ae × Nat)} (S:SS w g s) (Y:zv W g s.heap (tZ g) es n ts):∃ gp,eN g gp/\SS w gp s/\WT W gp (.ref W.x)/\∀ C s' u (ss:List aE),iB s gp s' C->V C u (.tuple (ss.map .str))->∃ v,iB s g s' v/\V v u (.tuple (ss.map .str)):=by
 revert w s g W es n ts;intros w s g W es n ts;intro S Y;obtain ⟨gp,hgp⟩:∃ gp,gp=mz s.heap λb=>(g.get? b).isSome || W.addrs.contains b:=⟨_,rfl⟩;have j:∀ b,gp.get? b=if ((g.get? b).isSome || W.addrs.contains b) then s.heap.get? b else none:=λb=>by rw [hgp];exact fo _ _ _
 have f:eN g gp:=λb o e=>by rw [j,e];exact S.sub b o e
 obtain E:∀ b∈W.addrs,∀ o,s.heap.get? b=some o->gp.get? b=some o:=λb d o e=>by rw [j,if_pos (by simp [d])];exact e
 have y:∀ b∈W.addrs,∃ o,s.heap.get? b=some o/\(o.cls=.type "dict"\/o.cls=.type "list")/\∀ fs,o.data≠.fields fs:=λb d=>by
  rw [<- Y.addrs] at d;refine e12 (mM d) λp hp z0=>?_;obtain rfl:=z0;rcases mC hp with rfl | hp;·exact i13 _ Y.dict.1 (.inl rfl) (λ_ e=>by cases e)
  ·refine e12 (mM hp) λt ht z1=>?_;obtain rfl:=z1;exact i13 _ ((Y.list t ht).1) (.inr rfl) (λ_ e=>by cases e)
 have D:eN gp s.heap:=λb o e=>by
  rw [j] at e;split at e;·exact e
  ·exact lE e
 have ntp:∀ b,cg b=true->gp.get? b=none:=λb d=>by
  rw [j,S.notab b d,if_neg];intro l;have:=(Y.all (by simpa using l)).1.2;replace this:=d▸this;exact L7 this
 refine e24 (Y.at (i:=0) (ds:=W.ds) rfl) λvD kD z2 vaD hDs z3=>?_;refine i14 gp f (⟨S.base.keeps f,D,S.tabs,S.big,ntp,S.bare,S.codes.mono f⟩) (⟨rfl,es,n,f _ _ Y.ok.inst,E _ (.head _) _ Y.dict.1,Y.ok.ats,jA (E _ (.tail _ (.head _)) _ hDs) (vaD.mono f)⟩) (λC s' u ss x hu=>?_);obtain ⟨v,hg3⟩:∃ v,v=mz C λb=>!W.addrs.contains b:=⟨_,rfl⟩;have B:∀ b,v.get? b=if (!W.addrs.contains b) then C.get? b else none:=λb=>by rw [hg3];exact fo _ _ _
 have z:∀ b o,b∉W.addrs->C.get? b=some o->v.get? b=some o:=λb o d e=>by rw [B,if_pos (by simpa using d)];exact e
 have q:∀ b o,C.get? b=some o->(o.cls≠.type "dict"/\o.cls≠.type "list"\/∃ fs,o.data=.fields fs)->b∉W.addrs:=λb o e l d=>by
  refine e13 (y b d) λo' m A h3=>?_;obtain this:=x.keep b o' m (Y.all d).1.2;replace this:=(x.sub b o e)▸this;refine iM this λz4=>?_;clear this;subst z4;rcases l with ⟨c1,c2⟩ | ⟨fs,c⟩
  ·rcases A with A | A;·exact c1 A
   ·exact c2 A
  ·exact h3 fs c
 refine i12 v ⟨x.toStp,λb o e=>z b o (λd=>?_) (x.le b o (f b o e)),λb o e=>?_,λb o e=>?_,λc P hP=>?_⟩ ?_
 ·have:=(Y.all d).1.1;replace this:=e▸this;exact NP this
 ·rw [B] at e;split at e;·exact x.sub b o e
  ·exact lE e
 ·rw [B] at e;split at e
  ·rename_i d;rcases x.new b o e with m | m
   ·rw [j] at m;split at m
    ·rename_i l;rw [(show W.addrs.contains b=false from by simpa using d),Bool.or_false] at l;refine e11 (dz.mp l) λo' F=>?_;have:=S.sub b o' F;replace this:=m▸this;refine iM this λz5=>?_;clear this;subst z5;exact .inl F
    ·exact lE m
   ·exact .inr m
  ·exact lE e
 ·refine e13 (x.codes (c.mono f) P hP) λps m A h3=>?_;refine i13 ps m A (λp cv e=>?_);obtain ⟨c',h4,a,oc,vs',t,e1,e2,e3,e4⟩:=h3 p cv e;cases e1;exact ⟨_,h4,_,oc,vs',t,rfl,z _ _ (q _ _ e2 (.inr ⟨_,e3⟩)) e2,e3,e4⟩
 ·obtain ⟨a,us,rfl,⟨o,ho,l,k,hd⟩,hva⟩:=hu.tuple_inv;exact V.tuple ⟨o,z _ _ (q _ _ ho (.inl ⟨by rw [l];decide,by rw [l];decide⟩)) ho,l,k,hd⟩ hva.strsAny
theorem iu.untell {f:ae} {ps:List ci} {ss:List aE} (h:iu w r f (WT W::ps) (TT (ss.map .str))) (l:∀ P∈ps,vH P) {A:bj} {vs:List ae} {es:List ce} {n:Nat} {ts:List (ay × List ae × Nat)} (hA:Rm r A) (S:SS w g s) (j:ko g ps vs) (Y:zv W g s.heap (tZ g) es n ts) {Q:ae->af->Prop} {E:ae->af->Prop} (q:∀ u e b,iB s g b e->V e u (.tuple (ss.map .str))->Q u b):aV (MM w) A (call f (.ref W.x::vs)) Q E s:=by
 refine e14 (J3 S Y) λp c z m i=>?_;refine h p (.ref W.x::vs) ⟨m,ko.mono c l j⟩ A s hA z Q E λu v b x k=>?_;refine e12 (i v b u ss x k) λt y d=>?_;exact q u t b y d
theorem HE {f:ay} {name:aE} {xp ap:cU} {args:List be} {ps:List ci} {ss:List aE} (hx:ρ.lookup x=some (.res (WR W))) (R:W.ats.lookup name=none) (c:rf w sc r ρ args ps) (J:∀ P∈ps,vH P) (h:iu w r (.ref f) (WT W::ps) (TT (ss.map .str))) (M:∀ P,pP (kF.heap_1 P) (.ref 228) name=some (some (.ref f))) (ht:autoParam (∀ P,Om (kF.heap_1 P) (.ref f)=some (.type "function")) am._auto_9) (L:autoParam (∀ P,C6 (kF.heap_1 P) (.ref f)=true) am._auto_9) (j:autoParam ((x==("__classdict__":aE))=false) auF._auto_1) (i:autoParam ((x==("__debug__":aE))=false) auF._auto_1) (K:autoParam ((ap.endLine==pos.line)=true) auT._auto_1) (I:autoParam (args.length<30) n7._auto_19):Ev w sc r ρ (.Call (.Attribute (.Name x xp) name ap) args [] pos) (TT (ss.map .str)):=by
 intro A k st m y g pr s p t F Q E q;obtain ⟨pl,N⟩:=eS (o:=.Name x xp) (apos:=ap) (λ_=>rfl) (c.plain k) K I;refine eH (dm p F hx (λv O=>?_) j i) N;obtain ⟨rfl,U,n,Z,Y⟩:=kc O;refine Ms (F.ss.base.K.keeps F.ss.sub) (Y.inst F.ss.sub) rfl rfl (M _) (ht _) (by refine (?_:(lookIn name (fv U n)).map _=_);rw [lg,Y.ok.ats.get,R];rfl) ?_;refine cL p t F c (D9.top L) λX g2 s2 l H=>?_;have z:=F.step l;refine e31 (z.wri hx) λT n2 C V=>?_;exact h.untell J t z.ss H (V.re (eN.refl _) λb _ o d e=>(i03 e d.1 d.2.1.2)) λu S D B G=>q u S D (l.trans B) G
end
section
variable {w:ar} {sc:bf} {st:Bool} {s₀ s s':af} {g₀ g g':aA} {env:fg} {pr:Pr} {ρ ρ':dh} {r:Nat} {o:m6} {pos:cU} {x:aE} {W:Wr}
theorem vU {e:be} {y:aE} (h:Ev w sc r ρ e (SSV y)) (hz:y.length<=dK):Ev w sc r ρ (.FormattedValue e (-1) none pos) (SSV y):=by
 intro A d j a b g l s m n F Q E q;refine wpAny_FormattedValue_plain (h A d j a b g l s m n F _ _ λv f k c i=>?_);obtain ⟨t,rfl⟩:=i.str_inv;exact wpAny_formatField_str (q _ f k c (.str _ _)) (q _ f _ (c.trans ((F.step c).ss.tok _)) (.str _ _)) (by have:=j8;exact ab hz this)
inductive rZ (w:ar) (sc:bf) (r:Nat) (ρ:dh):List be->List aE->Prop where
 | nil:rZ w sc r ρ [] []
 | cons {e:be} {es:List be} {y:aE} {ys:List aE}:Ev w sc r ρ e (SSV y)->rZ w sc r ρ es ys->rZ w sc r ρ (e::es) (y::ys)
theorem Hd (l:List aE):∀ n:Nat,n<=l.foldl (λn y=>n+y.length) n:=by
 induction l with
 | nil=>exact λn=>aq n
 | cons a l b=>exact λn=>ab (aI n a.length) (b _)
theorem rZ.run {A:bj} (z:cB sc env) (hA:Rm r A) {Q:ae->af->Prop} {E:ae->af->Prop} {es:List be} {ys:List aE} (h:rZ w sc r ρ es ys):∀ {a:aE} {g:aA} {s:af},FS w st s₀ g₀ env g pr ρ s->(ys.foldl (λn y=>n+y.length) a.length)<=dK-> (∀ v i f,iB s g f i->V i v (.str (ys.foldl (· ++·) a))->Q v f)->aV (MM w) A (joinParts a (evalEach es env)) Q E s:=by
 induction h with
 | nil=>exact λF c q=>joinParts_nil (q _ _ _ (F.ss.tok _) (.str _ _)) (ab c j8)
 | @cons e es y ys h k u=>
  intro a g s F c q;refine joinParts_cons (h A env st s₀ g₀ g pr s z hA F _ _ λv D C d m=>?_);obtain ⟨t,rfl⟩:=m.str_inv;obtain b:ys.foldl (λn y=>n+y.length) (a++y).length<=dK:=by rw [bL];exact c
  refine ⟨ab (ab (Hd ys _) b) j8,?_⟩;exact u (F.step d) b λv B p j l=>q v B p (d.trans j) l
theorem Ev.joined {c e2:be} {es:List be} {ys:List aE} (h:rZ w sc r ρ (c::e2::es) ys) (hz:(ys.foldl (λn y=>n+y.length) (gq).length)<=dK):Ev w sc r ρ (.JoinedStr (c::e2::es) pos) (SSV (ys.foldl (· ++·) gq)):=by
 intro A f i a b g j s d e F Q E q;refine JoinedStr_many ?_;exact rZ.run d e h F hz q
theorem A1 {xp:cU} (hx:ρ.lookup x=some (.res (WR W))) (t:W.ats.lookup (S0 "_data")=some W.dv) (e:autoParam ((x==("__classdict__":aE))=false) auF._auto_1) (d:autoParam ((x==("__debug__":aE))=false) auF._auto_1):Ev w sc r ρ (.Attribute (.Name x xp) (S0 "_data") pos) (LL []):=by
 intro A f k b c g m s p u F Q E q;obtain n:JF W.dv=true:=by
  refine e31 (F.wri hx) λH G D Y=>?_;obtain ⟨a,_,h,_⟩:=Y.ok.dat.list_inv;rw [h];rfl
 refine iU hx t n (λ_=>rfl) e d A f k b c g m s p u F _ _ λv y l i j=>?_;obtain rfl:=j;refine e31 ((F.step i).wri hx) λC B z Y=>?_;exact q _ y l i Y.ok.dat
theorem lj.upd (G:lj W) (i:Nat) (es:List ag):lj (W.upd i es):=by
 match i with
 | 0=>exact ⟨G.dec,G.ns,G.sp,G.wr,G.data,G.xa,G.xt,G.rw,G.qt,G.fq,G.ig,G.seen,G.don,G.m1,G.m2,G.m3,G.m4,G.m5⟩
 | 1=>exact ⟨G.dec,G.ns,G.sp,G.wr,G.data,G.xa,G.xt,G.rw,G.qt,G.fq,G.ig,G.seen,G.don,G.m1,G.m2,G.m3,G.m4,G.m5⟩
 | 2=>exact ⟨G.dec,G.ns,G.sp,G.wr,G.data,G.xa,G.xt,G.rw,G.qt,G.fq,G.ig,G.seen,G.don,G.m1,G.m2,G.m3,G.m4,G.m5⟩
 | i+3=>exact ⟨G.dec,G.ns,G.sp,G.wr,G.data,G.xa,G.xt,G.rw,G.qt,G.fq,G.ig,G.seen,G.don,G.m1,G.m2,G.m3,G.m4,G.m5⟩
theorem lj.putD (G:lj W) (v:ae):lj (W.put (S0 "_root_done") v):=⟨G.dec,G.ns,G.sp,G.wr,G.data,G.xa,G.xt,G.rw,G.qt,G.fq,G.ig,G.seen,rfl,G.m1,G.m2,G.m3,G.m4,G.m5⟩
theorem lj.putS (G:lj W) (v:ae):lj (W.put (S0 "_root_seen") v):=⟨G.dec,G.ns,G.sp,G.wr,G.data,G.xa,G.xt,G.rw,G.qt,G.fq,G.ig,rfl,G.don,G.m1,G.m2,G.m3,G.m4,G.m5⟩
theorem nS.upd (i:Nat) (es:List ag) {a:Wr} (h:nS a W):nS a (W.upd i es):=by
 refine ⟨?_,?_⟩
 ·rw [<- h.x];match i with
  | 0=>rfl
  | 1=>rfl
  | 2=>rfl
  | i+3=>rfl
 ·rw [<- h.addrs];match i with
  | 0=>rfl
  | 1=>rfl
  | 2=>rfl
  | i+3=>rfl
theorem nS.put (name:aE) (v:ae) {a:Wr} (h:nS a W):nS a (W.put name v):=⟨h.x,h.addrs⟩
theorem nS.refl (W:Wr):nS W W:=⟨rfl,rfl⟩
end
noncomputable def KU (W:Wr) (k:Nat) (ns' ss':List ag):Wr:=((((W.upd 3 (W.ps++[.str (S0 "</n>")])).upd 2 ss').put (S0 "_root_done") (.bool ((ss'.length:Int)==1))).upd 0 (l5 k)).upd 1 ns'
theorem mf (k:Nat):l5 (k+1)=l5 k++[.list []]:=by
 delta l5;rw [List.replicate_succ',bV,bM];rfl
theorem Kw (w:ar) {W:Wr} (G:lj W) {k:Nat} (u:k<=900) (f:W.ds=l5 (k+1)) {e c:List ag} {E p:ag} (l:W.ns=e++[E]) (j:W.ss=c++[p]) (C:e.length<=900) (hs:c.length<=900) (hp:W.ps.length<900):vY w 6 (.ref 211) W [SSV (S0 "n")] (DV .none) (KU W k e c):=by
 refine' qd (x0:=S0 "self") (xs:=[S0 "tag"]) (ρ':=[(S0 "self",.res (WR (KU W k e c)))]) [] ?ho ?hcd ?h1 ?h2 ?h3 ?h4 ?hbind ?hp ?hnd ?hkind ?h8 ?h5 ?h6 ?h7 (.inr ⟨?h,λ_=>V.none⟩) ?hw ?hsame;case ho=>exact rfl
 case hcd=>exact rfl
 case h1=>exact rfl
 case h2=>exact rfl
 case h3=>exact rfl
 case h4=>exact rfl
 case hnd=>decide
 case hkind=>decide
 case h8=>decide
 case h5=>exact rfl
 case h6=>exact rfl
 case h7=>exact rfl
 case hw=>exact rfl
 case hsame=>exact (((((nS.refl W).upd 3 _).upd 2 _).put _ _).upd 0 _).upd 1 _
 case hbind=>intro F s X B;refine e21 (jz (by simpa using B)) λa b z=>?_;obtain rfl:=z;exact jC rfl
 case hp=>exact .cons tN.d .nil
 case h=>
  refine e11 G.ig λA m=>?_;obtain y:=G.upd 3 (W.ps++[.str (S0 "</n>")]);obtain t:=y.upd 2 c;obtain v:=t.putD (.bool ((c.length:Int)==1));refine zz.of (Ex.sub (Ex.cons (cf (Tr.val (ya (iU rfl m) λ_=>V.int 0 A) AO.int) Ex.nil) (Ex.cons (cf (Tr.val (A1 rfl G.data) (AO.list (aM _))) Ex.nil)
   (Ex.cons (Cz (d:=.str (S0 "</n>")) rfl G.wr ((Ev.joined (.cons .str (.cons (vU (Ef (HE (ss:=[S0 "n",S0 "n",S0 ""]) rfl G.m4 (.one (al rfl)) (λP D=>by obtain rfl:=mS D;exact vH.d) ((LV w G (fa1 u) f (q:=S0 "n") (by decide) rfl).le (by decide)) (λ_=>rfl)) .int rfl (by decide)) (by decide)) (.cons .str .nil))) (by decide)).eq rfl) (by exact aw (by assumption) (by decide)))
   (Ex.cons (vP (ds:=c) rfl y.sp (by rw [<- j];rfl) (fa1 hs))
   (Ex.cons (AX (b:=(c.length:Int)==1) rfl (sX (Ju (i:=2) (ds:=c) rfl t.sp rfl (by exact ab (by assumption) (by decide))) .int gi) t.don)
   (Ex.cons (vP (ds:=l5 k) (d:=.list []) rfl v.dec (by rw [<- mf,<- f];rfl) (by delta l5;simp;exact fa1 u))
   (Ex.cons (vP (ds:=e) rfl (v.upd 0 (l5 k)).ns (by rw [<- l];rfl) (fa1 C)) Ex.nil))))))) (r8.cons rfl r8.nil))
noncomputable def qY (w:ar):List (Int × ae)->List aE->Prop
 | [],[]=>True
 | e::es,k::ks=>((∃ t,e.2=.str k t)/\e.1=(aZ PR w).hash k)/\qY w es ks
 | _,_=>False
theorem qY.ind {w:ar} {P:List (Int × ae)->List aE->Prop} (n:P [] []) (c:∀ e k es ks,((∃ t,e.2=.str k t)/\e.1=(aZ PR w).hash k)->qY w es ks->P es ks->P (e::es) (k::ks)) {es:List (Int × ae)}:∀ {ks},qY w es ks->P es ks:=by
 induction es with
 | nil=>exact λ{ks}=>ks.rec (λ_=>n) λ_ _ _ h=>h.elim
 | cons e es b=>exact λ{ks}=>ks.rec (λh=>h.elim) λ_ _ _ h=>c _ _ _ _ h.1 h.2 (b h.2)
theorem qY.len {w:ar} {es:List (Int × ae)} {ks:List aE} (h:qY w es ks):es.length=ks.length:=h.ind (P:=λes ks=>es.length=ks.length) rfl λ_ _ _ _ _ _ e=>congrArg uk e
theorem qY.snoc {w:ar} {e:Int × ae} {k:aE} (b:(∃ t,e.2=.str k t)/\e.1=(aZ PR w).hash k) {es:List (Int × ae)} {ks:List aE} (h:qY w es ks):qY w (es++[e]) (ks++[k]):=h.ind (P:=λes ks=>qY w (es++[e]) (ks++[k])) ⟨b,trivial⟩ λ_ _ _ _ a _ k=>⟨a,k⟩
theorem qY.elems {w:ar} {es:List (Int × ae)} {ks:List aE} (h:qY w es ks):ElemsOf (aZ PR w) es:=
 h.ind (P:=λes _=>ElemsOf (aZ PR w) es) (λe a=>nm a) λe k es ks h _ c d a=>(mC a).elim (λq=>h.1.elim λt b=>q▸⟨⟨k,by rw [b];exact ii PR w k t,h.2⟩,by rw [b];rfl⟩) (c d)
theorem qY.mem {w:ar} {es:List (Int × ae)} {ks:List aE} (h:qY w es ks):∀ e∈es,∃ k∈ks,(∃ t,e.2=.str k t):=
 h.ind (P:=λes ks=>∀ e∈es,∃ k∈ks,(∃ t,e.2=.str k t)) (λ_ b=>nm b) λe k es ks h _ d f b=>(mC b).elim (λq=>⟨k,.head _,q▸h.1⟩) λb=>(d f b).elim λc a=>⟨c,.tail _ a.1,a.2⟩
theorem qY.perm {w:ar} {es es':List (Int × ae)} (p:List.Perm es' es):∀ {f:List aE},qY w es f->∃ ks',ks'.Perm f/\qY w es' ks':=by
 induction p with
 | nil=>exact λh=>(i12 _ (.refl _) h)
 | @cons e l o p j=>
  intro f h;cases f with
  | nil=>exact h.elim
  | cons k f=>refine e12 (j h.2) λks' a b=>?_;exact ⟨k::ks',a.cons k,h.1,b⟩
 | @swap e s l=>
  intro f h;cases f with
  | nil=>exact h.elim
  | cons k f=>cases f with
   | nil=>exact h.2.elim
   | cons n f=>exact ⟨n::k::f,.swap ..,h.2.1,h.1,h.2.2⟩
 | trans p q j i=>intro f h;refine e12 (i h) λr a b=>?_;refine e12 (j b) λm c d=>?_;exact i12 m (c.trans a) d
noncomputable def vc (w:ar):Bool:=!(w.params.followText "set-order")
structure ue (w:ar) (o:ff) (ks:List aE):Prop where
 ex:o.ExactSet
 dat:∃ es ep t ks',o.data=.set es ep t/\qY w es.toList ks'/\ks'.Perm ks/\t.fits es.size=true/\t.led=vc w/\(ks≠[]->t.plain=false)/\(ks=[]->t=.fresh 0 0 (vc w))/\(ks.length=1->t.mask=7/\t.fill=1)
theorem ue.fresh (w:ar):ue w {cls:=.type "set",dict:=none,data:=.set #[] 0 (.fresh 0 0 (vc w))} []:=
 ⟨(i03 rfl rfl rfl),#[],0,_,[],rfl,trivial,.refl _,rfl,rfl,λh=>absurd rfl h,λ_=>rfl,λh=>(by cases h)⟩
theorem t9 (t:qq) (n:Nat):(t.orStandIn n).led=t.led/\((t.orStandIn n).plain=true->t.plain=true):=by
 delta PS;split;·exact ⟨rfl,id⟩
 ·exact ⟨rfl,λh=>(by cases h)⟩
theorem yO (t:qq) (es:Array (Int × ae)) (h:Int) (x:ae):(HV t es h x).2.1.led=t.led/\((HV t es h x).2.1.plain=true->t.plain=true):=by
 revert t es h x;intros t es h x;delta HV;split;·exact t9 _ _
 ·exact ⟨rfl,λh=>(by cases h)⟩
theorem yC {t t':qq} {hs:Array Int} {n:Nat} {o:Array Nat} (h:t.relaid hs n=some (t',o)):t'.led=t.led/\t'.plain=t.plain:=by
 revert t t' hs n o;intros t t' hs n o;intro h;delta PO PU at h;cases a:PT (PM n - 1) hs with
 | none=>replace h:=a▸h;exact (by cases h)
 | some b=>replace h:=a▸h;cases h;exact ⟨rfl,rfl⟩
theorem uY (t:qq) (es:Array (Int × ae)) (n:Nat):(td t es n).2.1.led=t.led/\((td t es n).2.1.plain=true->t.plain=true):=by
 revert t es n;intros t es n;delta td;split
 ·rename_i a o h;obtain this:=yC h;dsimp only;split;·exact ⟨this.1,λh=>this.2▸h⟩
  ·exact ⟨rfl,λh=>(by cases h)⟩
 ·exact ⟨rfl,λh=>(by cases h)⟩
section
variable {w:ar} {A:bj} {E:ae->af->Prop} {s:af} {a:ay} {o:ff} {ks:List aE}
end
section
variable {w:ar} {A:bj} {E:ae->af->Prop} {s:af} {a:ay} {o:ff} {ks:List aE}
theorem qL {k:aE} {tk:C9} {Q:Bool->af->Prop} (ho:s.heap.get? a=some o) (c:ue w o ks) (b:k∉ks) (hz:ks.length<1000) (q:∀ d e,bR a s.heap d->d.get? a=some e->ue w e (ks++[k])->Q true {s with heap:=d}): aV (MM w) A (setAddHashed a (.str k tk) ((aZ PR w).hash k)) Q E s:=by
 revert ho c b hz q;revert w A E s a o ks k tk Q;intros w A E s a o ks k tk Q;intro ho hS hk hz q;obtain ⟨hex,es,ep,t,ks',hd,hE,hp,hf,hl,hpl,hfr,h1⟩:=hS;have hn:es.size=ks.length:=by rw [<- cI,hE.len,hp.length_eq]
 refine bw (aa (cH ho hd hf ?_));dsimp only;rw [byScan_of rfl (by delta FW;lia) hE.elems];refine aa (aa (eT (aa (wpAny_setScan_of (ii PR w k tk) ho hd hf hE.elems ?_))));have hr:List.findIdx? (λe=>(aZ PR w).is k e.2) es.toList=none:=by
  refine List.findIdx?_eq_none_iff.mpr λe he=>?_;obtain ⟨k',hk',t',e2⟩:=hE.mem e he;cases hx:(aZ PR w).is k e.2 with
  | false=>rfl
  | true=>replace hx:=e2▸hx;exact absurd (hp.mem_iff.mp ((aZ PR w).inj _ _ _ hx (ii PR w k' t')▸hk')) hk
 rw [hr];have g:=layNew_perm t es ((aZ PR w).hash k) (.str k tk);have m:=layNew_fits t es ((aZ PR w).hash k) (.str k tk);have l:=yO t es ((aZ PR w).hash k) (.str k tk);have j:ks=[]->(HV t es ((aZ PR w).hash k) (.str k tk)).2.1.mask=7/\(HV t es ((aZ PR w).hash k) (.str k tk)).2.1.fill=1:=λe=>by
  rw [hfr e];have:es=#[]:=Array.eq_empty_of_size_eq_zero (by rw [hn,e];rfl);subst this;exact ⟨rfl,rfl⟩
 generalize hL:HV t es ((aZ PR w).hash k) (.str k tk)=L at g m l j ⊢;obtain ⟨c,t1,d,gave,rfl⟩:∃ c t1 d gave,L=(c,t1,d,gave):=(i41 _ _ _ _ rfl);replace g:=kz▸g;refine e12 (qY.perm g (qY.snoc ⟨⟨tk,rfl⟩,rfl⟩ hE)) λks1 p1 hE1=>?_;have hp1:=p1.trans (hp.append_right _);have hlen:c.size<=kt:=by rw [(show c.size=ks.length+1 from by rw [<- cI,hE1.len,hp1.length_eq,aB];rfl),eY];lia
 have hgw:∀ (b:Bool) {s₁:af} {Q':Unit->af->Prop},Q' () s₁->aV (MM w) A (match b with | true=>rule "set.scan.the-table-gave-way" | false=>pure ()) Q' E s₁:=λb s₁ Q' hq=>by cases b <;>first | exact ah hq | exact eT hq
 refine aa (hgw _ ?_);have fin:∀ f:qq,f.led=vc w->f.plain=false->f.fits c.size=true->f.mask=t1.mask->f.fill=t1.fill->aV (MM w) A (do
    N7 a c f
    if (!d && f.tooFull)=true then do
      (λb:Bool=>match b with | true=>rule "set.scan.the-table-gave-way" | false=>pure ()) (td f c (iN c.size)).2.2
      N7 a (td f c (iN c.size)).1 (td f c (iN c.size)).2.1
      pure (some true)
     else pure (some true)) (λx s'=>x=some true/\Q true s') E s:=by
  intro f e1 e2 e3 e4 e5
  refine aa (wQ ho hd ?_ hlen)
  have u:=bn (H0 c f) ho (by rw [putSet_of c f hd];rfl)
  replace u:=(putSet_of c f hd)▸u
  have hsb1:=aU s.heap a (H0 c f)
  split
  ·rename_i i;have hq:=relayAll_perm f c (iN c.size);have hfr2:=relayAll_fits f c (iN c.size);have n:=uY f c (iN c.size);generalize td f c (iN c.size)=R at hq hfr2 n ⊢;obtain ⟨es2,t3,gv,rfl⟩:∃ es2 t3 gv,R=(es2,t3,gv):=(i31 _ _ _ rfl);dsimp only at hq hfr2 n ⊢;refine e12 (qY.perm hq hE1) λks2 p2 hE2=>?_;have hn2:es2.size=c.size:=by rw [<- cI,hq.length_eq,cI]
   refine aa (hgw _ (aa (wQ u rfl (ah ⟨rfl,?_⟩) (by rw [hn2];exact hlen))));refine q _ _ (hsb1.trans (aU _ a _)) (bn (H0 es2 t3) u rfl) ⟨hex,es2,_,t3,ks2,rfl,hE2,p2.trans hp1,hfr2,n.1.trans e1,λ_=>?_,λh=>absurd h (by simp),λh=>?_⟩
   ·cases h3:t3.plain with
    | false=>rfl
    | true=>replace e2:=(n.2 h3)▸e2;exact L7 e2
   ·have h0:=dr (by replace h:=aB▸h;exact lU h);refine e02 (j h0) λm1 m2=>?_;rw [bN] at i;have:f.tooFull=false:=by delta PL;rw [e4,e5,m1,m2];rfl
    replace i:=this▸i;cases i.2
  ·exact ah ⟨rfl,q _ _ hsb1 u ⟨hex,c,_,f,ks1,rfl,hE1,hp1,e3,e1,λ_=>e2,λh=>absurd h (by simp),λh=>by rw [e4,e5];exact j (dr (by replace h:=aB▸h;exact lU h))⟩⟩
 split
 ·refine aa ?_;refine ah ?_;exact cr (fin {t1 with plain:=false} (l.1.trans hl) rfl (PV m) rfl rfl) (λx s' h=>by obtain ⟨rfl,h⟩:=h;exact ah h) λ_ _ e=>e
 ·rename_i h0;exact cr (fin t1 (l.1.trans hl) (by simpa using h0) m rfl rfl) (λx s' h=>by obtain ⟨rfl,h⟩:=h;exact ah h) λ_ _ e=>e
theorem yy:qm (.type "dict") (.type "set")=pure false:=by kernel_rfl
theorem ww:qm (.type "dict") (.type "frozenset")=pure false:=by kernel_rfl
theorem Eu {d:ay} {Y:Nat} {more:List (aE × ae)} (L:more.length<900) (Q:a≠d) (hnd:(ks++more.map (·.1)).Nodup) (N:ks.length<50) {R:eB->af->Prop} {it:ay} (O:it≠d) (u:it≠a): ∀ (n i:Nat) (s:af),more.length=n+i->s.heap.IsKeyIter it d i more.length Y->s.heap.DictAt (aZ PR w) d more Y->(∃ o,s.heap.get? a=some o/\ue w o (ks++(more.map (·.1)).take i))->A.handled=none-> (∀ m H,(∀ b o,b≠a->b≠it->s.heap.get? b=some o->m.get? b=some o)->s.heap.objs.size<=m.objs.size->(∃ o,m.get? a=some o/\ue w o (ks++more.map (·.1)))->R (.ok (.ret .none)) {s with heap:=m,toks:=H})-> gn (MM w) A (.builtin "set.update.loop" ⟨[.ref a,.ref it],[]⟩) R s:=by
 intros n;induction n with
 | zero=>intro i s x r G l P q;refine fb F.entry_set_update_loop ?_;have D:i=more.length:=bB (fa1 (aj x.symm)) (fa1 (aj x));refine e12 l λo K l=>?_;rw [D,<- ak (f:=(·.1)),fP] at l;refine aa (cC (wpAny_pyNext_dict_end P r G (cn (aj D.symm)) λm X I=>?_));exact ah (q m s.toks (λb o _ n e=>X b o n e) I (i12 o (X a o (db u) K) l))
 | succ n ih=>
  intro i s x r G l P q;refine e12 l λo K l=>?_;obtain M:i<more.length:=fa1 (aj x.symm);obtain ⟨⟨k,v⟩,B⟩:∃ p,more[i]?=some p:=⟨more[i],an M⟩;refine fb F.entry_set_update_loop ?_;refine aa (wpAny_pyNext_dict_item r G B λy h1 j C h=>?_);have c:(more.map (·.1)).take (i+1)=(more.map (·.1)).take i++[k]:=by
   rw [dF,av,B];rfl
  obtain z:k∉ks++(more.map (·.1)).take i:=by
   obtain U:=(tV (H3 _ _) ks).nodup hnd;rw [c,<- bq] at U;exact λL=>(iZ.mp U).2.2 k L k (.head _) rfl
  obtain ⟨t,rfl⟩:∃ t,y=.str k t:=by
   cases y <;>simp [aZ,zk] at j;exact ⟨_,by rw [j]⟩
  refine aa (bw ?_);refine bw (aa ((aZ PR w).pyHash (ii PR w k t) ?_));refine qL (s:={s with heap:=h1,toks:=s.toks+1}) ((h.2 a (db u)).trans K) l z (by rw [aB,cS];exact aR (aL (eo _ _) _) (by rw [ak];exact fa2 L N)) λU Z g J S=>?_;refine ah ⟨ku F.plain_set_update_loop _,ih (i+1) _ (bB (fa1 (aj x)) (fa1 (aj x.symm))) ?_ ?_ (i12 Z J (by rw [c,<- bq];exact S)) P λm H hk I T=>q m H (λb o W V e=>hk b o W V ((g.2 b W).trans ((h.2 b V).trans e))) (ab (aj (h.1.symm.trans g.1.symm)) I) T⟩;·exact C.at λo e=>(g.2 it u).trans e
  ·exact (G.at' λo e=>(h.2 d (db O)).trans e).at' λo e=>(g.2 d (db Q)).trans e
end
section
variable {w:ar} {A:bj} {E:ae->af->Prop} {s:af} {a:ay} {o:ff} {ks:List aE}
theorem wt {d:ay} {k:aE} {more:List (aE × ae)} {Q:Unit->af->Prop} (ho:s.heap.get? a=some o) (h:ue w o [k]) (i:s.heap.DictOf (aZ PR w) d more) (c:a≠d) (b:(d==CW)=false) (hz:more.length<=2) (f:k∉more.map (·.1)) (g:A.handled=none) (q:∀ e l j,gr a s.heap e->s.heap.objs.size<=e.objs.size->e.get? a=some j->ue w j (k::more.map (·.1))->Q () {s with heap:=e,toks:=l}): aV (MM w) A (Oa a (.ref d)) Q E s:=by
 revert ho h i c b hz f g q;revert w A E s a o d k more Q;intros w A E s a o d k more Q;intro ho hS hD had hsys hz hk hh q;refine bc λnO=>?_;obtain ⟨ep,hA⟩:=hD.dictAt;obtain ⟨od,es,hod,hcd,hdd,hko,hpo,hnd⟩:=id hA;refine nO ?_;have hT:s.TypeIs (.ref d) "dict":=(i12 od hod hcd.1);have hnd':=mq.mpr ⟨hk,hnd⟩;delta Oa;refine aa (eF hT yy ?_);refine aa (eF hT ww ?_);refine aa (dc ?_);dsimp only;cases hb:(MM w).w.params.followText "set-display-star-reads-storage" with
 | true=>rw [if_pos rfl];refine aa (wpAny_pyIter_dict hsys hA ?_);refine aa (CQ (Eu (ks:=[k]) (by omega) had hnd' (show 1<50 by decide) (db (bg (aH hod))) (ed (aH ho)) more.length 0 _ rfl (i13 _ (az _ rfl) rfl rfl) (hA.push _) (i12 o (au _ ho) (by exact hS)) hh λh' tk h1 h2 ⟨o',h5,h6⟩=>?_));refine ah (q h' tk o' (λb o n e=>h1 b o n (bg (aH e)) (au _ e)) (ab (by rw [cm];exact er _) h2) h5 h6)
 | false=>
  rw [if_neg bb];dsimp only;refine aa (iW hT ?_);refine aa (eT ?_);rw [if_neg (by rw [hsys];exact bb)];refine aa (MT hod hdd ?_);refine aa (Lx hod hdd ?_);have hlen:es.size=more.length:=by rw [<- hpo.length];simp
  refine aa ?_;obtain ⟨hex,es0,ep0,t0,ks0,hd0,hE0,hp0,hf0,_,_,_,h10⟩:=id hS;refine aa (cH ho hd0 hf0 ?_);have hroom:t0.roomFor es.size=none:=by
   obtain ⟨m1,m2⟩:=h10 rfl;delta PN;rw [m1,m2,if_neg (by lia)]
  rw [hroom];refine ah ?_;rw [Ki];refine aa (wpAny_forIn_list _ (λrest _ s'=>∃ h' i o',s'={s with heap:=h'}/\rest=En i (es.size - i)/\i<=es.size/\bR a s.heap h'/\h'.get? a=some o'/\ue w o' ([k]++(more.map (·.1)).take i)) _ ?_ ?_ _ _ ⟨s.heap,0,o,rfl,by simp,aM _,MY _ _,ho,hS⟩)
  ·rintro x rest b s' ⟨h',i,o',rfl,hr,hi,hsb,ho',hS'⟩;have hlt:i<es.size:=by
    rcases um i es.size with h | h;·exact h
    ·rw [Ek h] at hr;simp at hr
   obtain ⟨rfl,hrest⟩:x=i/\rest=En (i+1) (es.size - (i+1)):=by
    rw [Dx (by lia)] at hr;injection hr with h1 h2;exact ⟨h1,h2⟩
   have hod':=(hsb.2 d (db had)).trans hod;refine aa (Lx hod' hdd ?_);rw [gk hlt];refine bc λnO=>?_;obtain ⟨⟨y,v⟩,hkv⟩:∃ p,more[x]?=some p:=⟨more[x]'(kl hlt hlen),an _⟩;obtain ⟨hkey,hval⟩:=hpo.get? (e:=es[x]) (by simp [hlt]) hkv;obtain ⟨y',hkey',hhash⟩:=hko es[x] (Array.getElem_mem hlt);refine nO ?_;obtain rfl:y'=y:=(aZ PR w).inj _ _ _ hkey' hkey;obtain ⟨t,hkt⟩:∃ t,es[x].key=.str y' t:=by
    generalize es[x].key=kk at hkey;cases kk <;>simp [aZ,zk] at hkey;exact ⟨_,by rw [hkey]⟩
   have htake:(more.map (·.1)).take (x+1)=(more.map (·.1)).take x++[y']:=by rw [dF,av,hkv];rfl
   have hnot:y'∉[k]++(more.map (·.1)).take x:=by
    have h2:([k]++(more.map (·.1)).take (x+1)).Nodup:=(tV (H3 _ _) [k]).nodup hnd';rw [htake,<- bq] at h2;exact λhm=>(iZ.mp h2).2.2 y' hm y' (.head _) rfl
   refine aa (bw (aa ?_));rw [hkt,hhash];refine qL ho' hS' hnot (by rw [aB,cS,de];exact aR (aL (eo _ _) _) (by rw [ak];lia)) λh2 o2 hb2 ho2 hS2=>ah ?_;refine aa (MT ((hb2.2 d (db had)).trans hod') hdd ?_);rw [if_neg (by simp)];exact ah ⟨h2,x+1,o2,rfl,hrest,hlt,hsb.trans hb2,ho2,by rw [htake];exact hS2⟩
  ·rintro b s' ⟨h',i,o',rfl,hr,hi,hsb,ho',hS'⟩;have hin:i=es.size:=by
    rcases um i es.size with h | h;·rw [Dx (by lia)] at hr;exact nomatch hr
    ·exact bB hi h
   rw [hin,hlen,<- ak (f:=(·.1)),fP] at hS';exact ah (q h' s.toks o' (λb o n e=>(hsb.2 b n).trans e) (aj hsb.1.symm) ho' hS')
end
noncomputable def Ht (w:ar) (a:ay) (ks:List aE):aA->ae->List (ay × ff)->Prop:=λg v objs=>v=.ref a/\∃ o,objs=[(a,o)]/\ue w o ks
noncomputable def DictV (w:ar) (ls:List aE) (ds:List ag):ci:=λg v=>∃ d kvs,v=.ref d/\(d==CW)=false/\g.DictOf (aZ PR w) d kvs/\kvs.map (·.1)=ls/\VA g (kvs.map (·.2)) ds
section
variable {w:ar} {sc:bf} {st:Bool} {s₀ s s':af} {g₀ g g':aA} {env:fg} {pr:Pr} {ρ ρ':dh} {r:Nat} {o:m6} {pos:cU} {x:aE} {a:ay}
theorem vM {cv:ay} {qn:aE} {t:aE} {e2:be} {k:aE} {ls:List aE} {ds:List ag} {p sp m tp:cU} {xs:List cD} (ht:ρ.lookup t=some (.d (.str k))) (h2:Ev w sc r ρ e2 (DictV w ls ds)) (hz:ls.length<=2) (hk:k∉ls) (hx:sc.names.lookup x=some .local) (Y:∀ P,kdsCode (kF.heap_1 P) (.ref cv)=true) (next:∀ a,zz (.ref cv) qn w sc r ((x,.res (Ht w a (k::ls)))::ρ) xs o) (U:autoParam ((t==("__classdict__":aE))=false) auF._auto_1) (T:autoParam ((t==("__debug__":aE))=false) auF._auto_1) :zz (.ref cv) qn w sc r ρ (.Assign [.Name x p] (.Set [.Name t tp,.Starred e2 m] 0 sp) pos::xs) o:=by
 intro A c f i g pr s G J K F Q E q;refine bI (dw ?_ rfl);refine aa (ct ?_);refine aa (kds_main (F.ss.base.K.keeps F.ss.sub) (by rw [G.1];exact Y _) ?_);intros b;rw [show displayRoad 0 [uN t tp,e2.Starred m]=Ow from rfl,show bW [uN t tp,e2.Starred m] c=[(false,eW (.Name t tp) c),(true,eW e2 c)] from rfl];delta setDisplay;refine aa ?_;refine aa (aa (dc (ah ?_)));refine eU ?_;obtain ⟨F1,ap⟩:=F.add (q:=⟨[(s.heap.objs.size,{cls:=.type "set",dict:=none,data:=.set #[] 0 (.fresh 0 0 (vc w))})],[]⟩) (F.ss.same (Stp.push s {cls:=.type "set",dict:=none,data:=.set #[] 0 (.fresh 0 0 (vc w))} s.toks)) ⟨λp n=>(by
  obtain rfl:=mS n;exact ⟨az _ rfl,F.ss.none (aq _)⟩),λ_ h=>nm h⟩ (λa H=>aj (mS H).symm) (λ_ h=>nm h)
 generalize hD:s.heap.objs.size=D at F1 ap ⊢;rw [bV,bV,Bv];dsimp only;rw [(λ_ _=>rfl:∀ u v:il ae,(if [(false,u),(true,v)].length>30 then 0 else ([(false,u),(true,v)].findIdx? (·.1)).getD [(false,u),(true,v)].length)=1)];refine aa (bw (aa (kds_all sp [.Name t tp] _ _ (al ht U T A c true f i g _ _ J K F1 _ _ λv g2 I x2 v2=>?_))));obtain ⟨tk,rfl⟩:=v2.str_inv;have F2:=F1.step x2;refine e02 (F2.live.objs _ (.head _)) λho y=>?_;refine aa (bw ?_);rw [wm];refine aa (aa (aa ?_));refine bw (aa ((aZ PR w).pyHash (ii PR w k tk) ?_));refine qL (s:={I with toks:=I.toks+1}) ho (ue.fresh w) gZ (by decide) λh3 o3 a0 W a3=>?_;refine ah ?_;dsimp only;refine ah ?_;refine ah ?_;have l:=hD▸F.off (aq _) (hD▸y);obtain ⟨F3,a4⟩:=F2.iter (q':=⟨[(D,o3)],[]⟩) (s':={I with heap:=h3,toks:=I.toks+1}) ap (nU.one F2.ss y l.2.1.2 a0) ⟨λp n=>(by
  obtain rfl:=mS n;exact ⟨W,y⟩),λ_ h=>nm h⟩ ⟨λa H=>.inl H,λ_ h=>nm h⟩
 rw [show ∀ u v:Bool × il ae,List.drop 1 [u,v]=[v] from λ_ _=>rfl,wm];refine aa (aa (aa (aa (h2 A c true f i g2 _ _ J K F3 _ _ λv g4 s4 x4 v4=>aa (ct (ah ?_))))));refine e25 v4 λd R z0 B z z1 z2=>?_;clear v4;obtain rfl:=z0;obtain rfl:=z1;rw [ak] at hz;have M:=F3.step x4;refine e02 (M.live.objs _ (.head _)) λV j=>?_;obtain a1:D≠d:=λe=>by
  refine e32 z λod z3 z4 L z5=>?_;clear z;rw [<- e,j] at L;exact lE L
 refine aa (bw ?_);refine wt V a3 (z.keep M.ss.sub) a1 B hz hk K.handled λL N O Z S C a2=>?_;refine ah ?_;dsimp only;refine ah (ah (ah ?_));obtain ⟨F5,_⟩:=M.iter (q':=⟨[(D,O)],[]⟩) (s':={s4 with heap:=L,toks:=N}) a4 (nU.ext M.ss j S l.2.1.2 Z) ⟨λp n=>(by
  obtain rfl:=mS n;exact ⟨C,j⟩),λ_ h=>nm h⟩ ⟨λa H=>.inl H,λ_ h=>nm h⟩
 refine F5.drop.store J (.inl hx) (b:=.res (Ht w D (k::R.map (·.1)))) (i23 g4 ([(D,O)]) (eN.refl _) ⟨rfl,O,rfl,a2⟩ (λp n=>?_)) λs6 F6=>?_
 ·obtain rfl:=mS n;exact ⟨C,(hD▸F.off (aq _) (hD▸j))⟩
 ·exact next _ A c f i g4 pr s6 G J K F6 Q E λfl g7 s7 X=>q fl g7 s7 (((F.ss.same (Stp.push s _ s.toks)).trans x2).le.trans (x4.le.trans X))
end
theorem vp:wW Lz "set.__iter__"=some Builtin.«frozenset.__iter__»:=entryFor_alias (id':="frozenset.__iter__") (by kernel_rfl) rfl (by decide+kernel) (by kernel_rfl)
theorem Ac:Qd.lookup (String.ofList ['r','o','t','a','r','e','t','i','_','t','e','s'].reverse)=some Qc:=by kernel_rfl
theorem im:Oq "set_iterator" "__next__" "set_iterator.__next__":=
 .of (owner:="set_iterator") (n:="__next__") (by kernel_rfl) (by decide+kernel) (by decide+kernel) (by decide+kernel) (by first | exact .inl (by decide+kernel) | exact .inr (rfl+kernel)) (by kernel_rfl)
theorem nQ:wW Lz "set_iterator.__next__"=some Builtin.«set_iterator.__next__»:=zj (by kernel_rfl)
theorem oX (a:ae):Ol "set_iterator.__next__" ⟨[a],[]⟩:=by
 delta Ol;rw [OX (id:="set_iterator.__next__") (n:=['_','_','t','x','e','n','_','_']) (by kernel_rfl) Ac];kernel_rfl
theorem qE {α:Type} {x:α} {l:List α}:∀ {i:Nat},l[i]?=some x->(x::l.eraseIdx i).Perm l:=by
 induction l with
 | nil=>exact λh=>(by cases h)
 | cons y l a=>exact λ{i}=>i.rec (λh=>by cases h;exact .refl _) λi _ h=>(uo _ _ _).trans ((a h).cons y)
theorem yH {α:Type} (next:Nat->Nat):∀ (n k:Nat) (l:List α) (a:Array α),l.length=n->(qZ next n k l a).toList.Perm (a.toList++l):=by
 intros n;induction n with
 | zero=>intro k l a h;rw [dr h,bp];exact .refl _
 | succ n d=>
  intro k l a h;have hm:next k % l.length<l.length:=iD _ (Nat.lt_of_sub_eq_succ h)
  obtain b:=an hm;rw [show qZ next (n+1) k l a=qZ next n (k+1) (l.eraseIdx (next k % l.length)) (a.push (l[next k % l.length]'hm)) from by refine (?_:(match l[next k % l.length]? with | some x=>qZ next n (k+1) (l.eraseIdx (next k % l.length)) (a.push x) | none=>a)=_);rw [b]];refine (d (k+1) _ _ (by rw [yi hm];exact jl (Nat.eq_sub_of_add_eq (id (jl h))))).trans ?_;rw [kz,bq];exact (qE b).append_left _
theorem u4 {α:Type} (next:Nat->Nat) (xs:Array α):(FX next xs).toList.Perm xs.toList:=by
 exact yH next xs.size 0 xs.toList #[] rfl
section
variable {w:ar} {A:bj} {E:ae->af->Prop} {s:af} {a:ay} {o:ff} {ks:List aE}
theorem tY {α:Type} (n:Nat):∀ (l:List α) {s:af} {Q:List α->af->Prop},l.length=n->(∀ b d,b.Perm l->Q b {s with drawn:=d})->aV (MM w) A (drawOrder n l) Q E s:=by
 induction n with
 | zero=>intro l s Q h q;replace q:=(dr h)▸q;exact ah (q [] s.drawn (.refl _))
 | succ n f=>
  intro l s Q h q;cases l with
  | nil=>exact (by cases h)
  | cons x l=>refine aa (rt (by simp) λi d e=>?_);obtain c:=an e;rw [c];refine aa (f _ (by rw [yi e,h];rfl) λb j g=>ah (q _ j ((g.cons _).trans (qE c))))
inductive xQ (w:ar) (h:aA) (es:Array (Int × ae)) (t:qq) (u:Nat->Nat) (xs:List aE) (i:Nat):ae->Prop where
 | text {j:Int}:w.params.followText "set-order"=true->qY w (FX u es).toList xs->xQ w h es t u xs i (dq j)
 | drawn {T:ay} {ps:List Nat} {to:ff} {n:Nat}:w.params.followText "set-order"=false->h.get? T=some to->to.data=.seq (ps.map λ(p:Nat)=>dq p).toArray n->ps.length=es.size->(∀ (j p:Nat),ps[j]?=some p->∃ e k tk,es[p]?=some e/\e.2=.str k tk/\xs[j]?=some k)->xQ w h es t u xs i (.ref T)
 | one {j:Nat}:w.params.followText "set-order"=false->es.size=1->t.led=true->qY w es.toList xs->(i=0->j=0)->(i=1->∃ p,t.place[0]?=some p/\j=p+1)->xQ w h es t u xs i (dq j)
structure nz (w:ar) (B:Nat) (h:aA) (a I:ay) (o:ff) (xs:List aE) (i:Nat):Prop where
 set:h.get? a=some o
 ne:a≠I
 it:∃ es ep t io first,o.data=.set es ep t/\t.fits es.size=true/\xs.length=es.size/\h.get? I=some io/\io.cls=.type "set_iterator"/\io.data=.fields #[first,dq i,.ref a,dq es.size,dq ep]/\xQ w h es t (w.params.setOrder a ep) xs i first/\(∀ T,first=.ref T->T≠I/\B<=T)
theorem qY.get {w:ar} {es:List (Int × ae)} {ks:List aE} {i:Nat} {k:aE} (h:qY w es ks):ks[i]?=some k->∃ h b,es[i]?=some (h,.str k b):=
 h.ind (P:=λes ks=>∀ i,ks[i]?=some k->∃ h b,es[i]?=some (h,.str k b)) (λ_ c=>(by cases c)) (λe g es ks h _ d i=>i.rec (λc=>h.1.elim λt f=>by cases c;exact i21 e.1 t (by rw [<- f];rfl)) λi _=>d i) i
end
namespace U
noncomputable def NU (w:ar) (A:bj) (E:ae->af->Prop) (s:af) (a:ay) (o:ff) (Bd:Nat) (I:ay) (xs:List aE) (Q:Option ae->af->Prop):Prop:=∀ i k (hit:nz w Bd s.heap a I o xs i) (hk:xs[i]?=some k)
  (q:∀ tk h',bR I s.heap h'->nz w Bd h' a I o xs (i+1)->Q (some (.str k tk)) {s with heap:=h'}),aV (MM w) A (ki (.ref I)) Q E s
noncomputable def NT (w:ar) (A:bj) (E:ae->af->Prop) (s:af) (a:ay) (o:ff) (Bd:Nat) (I:ay) (xs:List aE) (Q:Option ae->af->Prop):Prop:=∀ (hit:nz w Bd s.heap a I o xs xs.length) (hlen:xs≠[]) (hh:A.handled=none)
  (q:∀ h' tk,gr I s.heap h'->Q none {s with heap:=h',toks:=tk}),aV (MM w) A (ki (.ref I)) Q E s
theorem ML:Nonempty (ar × bj × (ae->af->Prop) × af × ay × ff × Nat × ay × List aE × (Option ae->af->Prop)):=Ge.elim λw=>⟨w,{},λ_ _=>True,{},default,⟨default,none,.plain,#[]⟩,0,default,[],λ_ _=>True⟩
noncomputable def ok (c:ar × bj × (ae->af->Prop) × af × ay × ff × Nat × ay × List aE × (Option ae->af->Prop)):Prop:=NU c.1 c.2.1 c.2.2.1 c.2.2.2.1 c.2.2.2.2.1 c.2.2.2.2.2.1 c.2.2.2.2.2.2.1 c.2.2.2.2.2.2.2.1 c.2.2.2.2.2.2.2.2.1 c.2.2.2.2.2.2.2.2.2/\NT c.1 c.2.1 c.2.2.1 c.2.2.2.1 c.2.2.2.2.1 c.2.2.2.2.2.1 c.2.2.2.2.2.2.1 c.2.2.2.2.2.2.2.1 c.2.2.2.2.2.2.2.2.1 c.2.2.2.2.2.2.2.2.2
noncomputable def c:=@j4 _ ML λc=>¬ ok c
noncomputable def w:ar:=c.1
noncomputable def A:bj:=c.2.1
noncomputable def E:ae->af->Prop:=c.2.2.1
noncomputable def s:af:=c.2.2.2.1
noncomputable def a:ay:=c.2.2.2.2.1
noncomputable def o:ff:=c.2.2.2.2.2.1
noncomputable def Bd:Nat:=c.2.2.2.2.2.2.1
noncomputable def I:ay:=c.2.2.2.2.2.2.2.1
noncomputable def xs:List aE:=c.2.2.2.2.2.2.2.2.1
noncomputable def Q:Option ae->af->Prop:=c.2.2.2.2.2.2.2.2.2
end U
section
open U
theorem zR {i:Nat} {k:aE} (f:nz w Bd s.heap a I o xs i) (M:xs[i]?=some k) (q:∀ d g,bR I s.heap g->nz w Bd g a I o xs (i+1)->Q (some (.str k d)) {s with heap:=g}):aV (MM w) A (ki (.ref I)) Q E s:=by
 revert i k;intros i k;intro f M q;obtain ⟨C,v,x,J,t,io,first,D,r,Z,H,hc,b,a1,hT⟩:=f;have K:s.TypeIs (.ref I) "set_iterator":=(i12 io H hc);obtain N:=(gE M).1;refine aa (eQ (eG (name:=ac "__next__") K im (ck im K nQ ?_ (oX _))));refine aa (m:=N8 "__next__" 0 _) (ah ?_);refine aa (N3 H b ?_);dsimp only [dq];refine aa ?_;refine aa (cH C D r (ah ?_));rw [if_neg (by simp)];have l:∀ (G:Nat) (d:C9) (P:bO->af->Prop) (E':ae->af->Prop),xQ w s.heap x t (w.params.setOrder a J) xs (i+1) (dq G)->(∀ d Y,(∃ g,Y={s with heap:=g}/\bR I s.heap g/\nz w Bd g a I o xs (i+1))->P (.done (.ret (.str k d))) Y)->aV (MM w) A.in1 (do
   N9 (cw I) 0 (qF (↑G) 0)
   N9 (cw I) 1 (qF (↑i+1) 0)
   ret (.str k d)) P E' s:=by
  intro G d P E' hg q'
  refine aa (gm H b (by exact size_pos_of_not_empty rfl) ?_)
  obtain O:=bn (iO (·.setIfInBounds 0 (.int G 0))) H (f7 (cF b _))
  refine aa (gm O (cF b _) (by exact FG [cw a,dq ↑x.size,dq ↑J].length) ?_)
  obtain c:=(aU s.heap I (iO (·.setIfInBounds 0 (.int G 0)))).trans (aU _ I (iO (·.setIfInBounds 1 (.int (i+1) 0))))
  refine ah (q' d _ ⟨_,rfl,c,(c.2 a v).trans C,v,x,J,t,_,dq G,D,r,Z,(bn (iO (·.setIfInBounds 1 (.int (i+1) 0))) O (f7 (cF (cF b _) _))),(n8 ..).trans ((n8 ..).trans hc),?_,?_,λT e=>(by cases e)⟩)
  ·rw [cF (cF b _)];rfl
  ·cases hg with
   | text z h2=>exact .text z h2
   | one z h2 h3 h4 h5 h6=>exact .one z h2 h3 h4 h5 h6
 cases a1 with
 | @text j F X=>have U:(rg PR w).w.params.followText "set-order"=true:=F;refine aa ?_;refine aa (cH C D r ?_);refine aa (aa (dc (ah ?_)));rw [if_pos U,if_neg (by simp)];refine aa ?_;delta setWalk;refine aa (cH C D r ?_);refine aa (aa (dc (ah ?_)));rw [if_pos U];refine aa (dc (ah (ah ?_)));refine e21 (X.get M) λhh d R=>?_;rw [show (FX ((rg PR w).w.params.setOrder a J) x)[((i:Nat):Int).toNat]?=some (hh,.str k d) from by rw [<- cM];exact R];exact l j.toNat d _ _ (.text F X) λd Y ⟨g,e,c,f⟩=>e▸⟨_,rfl,ah (q d g c f)⟩
 | @drawn T ps to n F W S y V=>
  refine aa (aa (oI W ?_));rw [S];refine ah ?_;obtain ⟨p,hp⟩:∃ p,ps[i]?=some p:=⟨ps[i]'(fa3 (aj Z) N (aj y.symm)),an _⟩;refine e33 (V i p hp) λe k' d R a2 B=>?_;obtain rfl:k=k':=by replace B:=M▸B;exact gR B
  dsimp only;rw [show ((ps.map λ(p:Nat)=>dq p).toArray)[((i:Nat):Int).toNat]?=some (dq p) from by rw [bS,cE,av,hp];rfl];refine aa ?_;refine aa (cH C D r ?_);dsimp only;rw [if_neg (by simp),bS,R];refine ah ?_;refine aa (gm H b (by exact FG [cw a,dq ↑x.size,dq ↑J].length) ?_);obtain c:=aU s.heap I (iO (·.setIfInBounds 1 (.int (i+1) 0)));rw [a2];refine ah (i12 _ rfl (ah (q d _ c ⟨(c.2 a v).trans C,v,x,J,t,_,.ref T,D,r,Z,(bn (iO (·.setIfInBounds 1 (.int (i+1) 0))) H (f7 (cF b _))),(n8 ..).trans hc,?_,.drawn F ((c.2 T (hT T rfl).1).trans W) S y V,hT⟩)));rw [cF b];rfl
 | @one j F z hl X a0 a4=>
  obtain rfl:i=0:=bB (fa3 (aj Z) N (aj z)) (fa0);obtain rfl:=a0 rfl;refine aa ?_;refine aa (cH C D r ?_);refine aa (aa (dc (ah ?_)));rw [if_neg (by rw [show (rg PR w).w.params.followText "set-order"=false from F];exact bb)];split
  ·rename_i h;exact absurd (show (!t.plain && decide (x.size>1))=true from h) (by rw [z];simp)
  refine aa ?_;refine (?_:aV _ _ (if (!t.led && !x.isEmpty)=true then _ else _) _ _ s);rw [hl];refine ah (ah ?_);refine e21 (X.get M) λhh d R=>?_;have u:t.place.size=1:=by
   delta qo at r;rw [bN,beq_iff_eq] at r;rw [r.1,z]
  obtain a3:mm t.place ((0:Nat):Int).toNat=0:=by
   delta mm;rw [u];rfl
  obtain L:t.place[0]?=some (t.place[0]'(fa1 (aj u.symm))):=gk (fa1 (aj u.symm));rw [a3,L,show x[0]?=some (hh,.str k d) from by rw [<- cM];exact R];exact l (t.place[0]'(fa1 (aj u.symm))+1) d _ _ (.one F z hl X (λh=>by cases h) λ_=>(i12 _ L rfl)) λd Y ⟨g,e,c,f⟩=>e▸⟨_,rfl,ah (q d g c f)⟩
theorem Bz {A:bj} {s:af} {P:bO->af->Prop} {E:ae->af->Prop} (f:A.handled=none) (q:∀ e c d,(∀ b o,s.heap.get? b=some o->c.get? b=some o)->({s with heap:=c,toks:=d}:af).TypeIs e "StopIteration"->E e {s with heap:=c,toks:=d}):aV (MM w) A (do
   let x <- Oc (gx "StopIteration") []
   Ob x) P E s:=by
 refine aa ?_
 refine aa (m:=C2 _ _) (fY (a:=dD) (by first | rfl | (rfl)) ?_)
 refine eU ?_ (by size_fits)
 refine aa (Fu ?_)
 rw [f]
 refine aa (ah (pe ?_))
 exact q _ _ _ (λb o e=>au _ (au _ e)) (i12 _ (az _ rfl) rfl)
theorem BJ (L:nz w Bd s.heap a I o xs xs.length) (V:xs≠[]) (hh:A.handled=none) (q:∀ k F,gr I s.heap k->Q none {s with heap:=k,toks:=F}):aV (MM w) A (ki (.ref I)) Q E s:=by
 obtain ⟨B,a0,U,ep,t,io,first,C,i,hz,u,hc,d,M,hT⟩:=L;obtain r:s.TypeIs (.ref I) "set_iterator":=(i12 io u hc);refine aa (eQ (eG (name:=ac "__next__") r im (ck im r nQ ?_ (oX _))));refine aa (m:=N8 "__next__" 0 _) (ah ?_);refine aa (N3 u d ?_);refine aa ?_;refine aa (cH B C i (ah ?_));rw [if_neg (by simp)];have y:∀ (s1:af),(∃ k,s1={s with heap:=k}/\gr I s.heap k)->∀ {P:bO->af->Prop},aV (MM w) A.in1 (do
   let x <- Oc (gx "StopIteration") []
   Ob x) P (λe H=>aV (MM w) A (do
     let c <- isInstance e (gx "StopIteration")
     if c=true then pure none else throw e) Q E H) s1:=by
  intro s1 z P
  refine e12 z λk Y hx=>?_
  clear z
  obtain rfl:=Y
  refine Bz hh λe h2 F hk l=>?_
  refine aa (eF (T:="StopIteration") l C1 ?_)
  exact ah (q h2 F λb o n e=>hk b o (hx b o n e))
 have f:∀ {P:bO->af->Prop},aV (MM w) A.in1 (do
   N9 (cw I) 2 dD
   let x <- Oc (gx "StopIteration") []
   Ob x) P (λe H=>aV (MM w) A (do
     let c <- isInstance e (gx "StopIteration")
     if c=true then pure none else throw e) Q E H) s:=λ{P}=>aa (gm u d (by simp) (y _ (i12 _ rfl ((aU s.heap I _).extBut))))
 cases M with
 | @text j D W=>have v:(rg PR w).w.params.followText "set-order"=true:=D;dsimp only [dq];refine aa ?_;refine aa (cH B C i ?_);refine aa (aa (dc (ah ?_)));rw [if_pos v,if_neg (by simp)];refine aa ?_;refine aa (cH B C i ?_);refine aa (aa (dc (ah ?_)));rw [if_pos v];refine aa (dc (ah (ah ?_)));rw [show (FX ((rg PR w).w.params.setOrder a ep) U)[((xs.length:Nat):Int).toNat]?=none from by rw [<- cM,<- W.len];exact cn (aq _)];exact f
 | @drawn T Z to n D R N g a2=>refine aa (aa (oI R ?_));rw [N];refine ah ?_;dsimp only;rw [show ((Z.map λ(p:Nat)=>dq p).toArray)[((xs.length:Nat):Int).toNat]?=none from by rw [bS,cE,av,cn (fa2 (aj hz.symm) (aj g))];rfl];refine aa (gm u d (by simp) ?_);refine aa (gm (bn (iO (·.setIfInBounds 0 (.int 0 0))) u (f7 (cF d _))) (cF d _) (by simp) (y _ (i12 _ rfl (((aU s.heap I _).trans (aU _ I _)).extBut))))
 | @one j D S hl W a1 K=>
  refine e12 (K (by lia)) λp hp X=>?_;obtain rfl:=X;refine aa ?_;refine aa (cH B C i ?_);refine aa (aa (dc (ah ?_)));rw [if_neg (by rw [show (rg PR w).w.params.followText "set-order"=false from D];exact bb)];split
  ·rename_i h;exact absurd (show (!t.plain && decide (U.size>1))=true from h) (by rw [S];simp)
  refine aa ?_;refine (?_:aV _ _ (if (!t.led && !U.isEmpty)=true then _ else _) _ _ s);rw [hl];refine ah (ah ?_);obtain J:t.place.size=1:=by
   delta qo at i;rw [bN,beq_iff_eq] at i;rw [i.1,S]
  have O:mm t.place (((p+1:Nat):Int)).toNat=1:=by
   obtain e:t.place.getD 0 (p+1)=p:=by rw [Array.getD_eq_getD_getElem?,hp];rfl
   delta mm;rw [J,bS];unfold LG;dsimp only;rw [e,if_pos (bU p)];rfl
  rw [O,Array.getElem?_eq_none (aj S)];exact f
end
section
variable {w:ar} {A:bj} {E:ae->af->Prop} {s:af} {a:ay} {o:ff} {ks:List aE}
theorem Dz (c:ar × bj × (ae->af->Prop) × af × ay × ff × Nat × ay × List aE × (Option ae->af->Prop)):U.ok c:=KQ U.ML ⟨λi k h b q=>zR h b q,λh k l q=>BJ h k l q⟩ c
theorem BI {d:Nat} {I:ay} {xs:List aE} {i:Nat} {k:aE} {Q:Option ae->af->Prop} (b:nz w d s.heap a I o xs i) (f:xs[i]?=some k) (q:∀ e c,bR I s.heap c->nz w d c a I o xs (i+1)->Q (some (.str k e)) {s with heap:=c}):aV (MM w) A (ki (.ref I)) Q E s:=(Dz ⟨w,A,E,s,a,o,d,I,xs,Q⟩).1 i k b f q
theorem Ey {e:Nat} {I:ay} {xs:List aE} {Q:Option ae->af->Prop} (c:nz w e s.heap a I o xs xs.length) (b:xs≠[]) (g:A.handled=none) (q:∀ d f,gr I s.heap d->Q none {s with heap:=d,toks:=f}):aV (MM w) A (ki (.ref I)) Q E s:=(Dz ⟨w,A,E,s,a,o,e,I,xs,Q⟩).2 c b g q
end
section
variable {w:ar} {A:bj} {E:ae->af->Prop} {s:af} {a:ay} {o:ff} {ks:List aE}
theorem rq {Q:ae->af->Prop} (ho:s.heap.get? a=some o) (hS:ue w o ks) (hz:ks.length<1000) (hk:ks≠[]) (q:∀ y I h' d,y.Perm ks->(∀ b o,s.heap.get? b=some o->h'.get? b=some o)->s.heap.objs.size<=I->s.heap.objs.size<=h'.objs.size->I<h'.objs.size->nz w s.heap.objs.size h' a I o y 0->Q (.ref I) {s with heap:=h',drawn:=d}):aV (MM w) A (kO (.ref a)) Q E s:=by
 revert w A E s a o ks Q;intros w A E s a o ks Q;intro ho hS hz hk q;obtain ⟨hex,k,ep,t,ks',hd,hE,hp,hf,hl,hpl,hfr,h1⟩:=hS;obtain hT:s.TypeIs (.ref a) "set":=(i12 o ho hex.1);have hn:k.size=ks.length:=by rw [<- cI,hE.len,hp.length_eq]
 refine wpAny_pyIter_slot hT F.slot_set_iter (ck F.slot_set_iter hT vp ?_ (F.args_set_iter_1 _));delta Builtin.«frozenset.__iter__» JN JQ JO;refine aa (aa (m:=N8 "__iter__" 0 _) (ah ?_));refine ah ?_;refine aa (aa (aa (cH ho hd hf (ah (ah ?_)))));refine aa (aa (cH ho hd hf (aa (aa (dc (ah ?_))))));refine ah ?_;obtain hne0:k.size≠0:=by rw [hn];exact λe=>hk (dr e)
 have u:∀ (s1:af) (first:ae) (y:List aE),(∀ b o,s.heap.get? b=some o->s1.heap.get? b=some o)->s.heap.objs.size<=s1.heap.objs.size->(∃ d,s1={s with heap:=s1.heap,drawn:=d})->y.Perm ks->xQ w (s1.heap.push {cls:=.type "set_iterator",data:=.fields #[first,dq 0,.ref a,dq k.size,dq ep]}) k t (w.params.setOrder a ep) y 0 first->(∀ T,first=.ref T->T<s1.heap.objs.size/\s.heap.objs.size<=T)->aV (MM w) A.in1 (do
   let n <- setEpoch a
   let v <- newFields "set_iterator" [first,dq 0,cw a,dq ↑k.size,dq ↑n]
   ret v) (λu s'=>
   ∃ v,
    u=Fin.done (Flow.ret v)/\
     ∃ T' r,s'.TypeIs v T'/\K8 (gx T') (ac "__next__")=pure (some r)/\Q v s') E s1:=by
  intro s1
  intro first
  intro y
  intro f
  intro hsz
  intro z0
  refine e11 z0 λd e1=>?_
  clear z0
  intro l
  intro hgo
  intro hT1
  refine aa (aa (cH (f _ _ ho) hd hf (ah ?_)))
  refine aa (eU (ah ⟨_,rfl,"set_iterator",_,(i12 _ (az _ rfl) rfl),im.lookup,?_⟩))
  obtain this:=q y s1.heap.objs.size (s1.heap.push {cls:=.type "set_iterator",data:=.fields #[first,dq 0,.ref a,dq k.size,dq ep]}) d l (λb o e=>au _ (f b o e)) hsz (ab hsz (by rw [cm];exact er _)) (by rw [cm];exact bU _)
   ⟨au _ (f _ _ ho),bg (aH (f _ _ ho)),k,ep,t,_,first,hd,hf,by rw [l.length_eq,hn],az _ rfl,rfl,rfl,hgo,λT e=>⟨bg (hT1 T e).1,(hT1 T e).2⟩⟩
  rw [e1] at this ⊢
  exact this
 split
 ·rename_i h;rw [bN,tW] at h;have c:ks'.length=k.size:=by rw [<- hE.len,cI]
  refine aa (tY k.size (br k.size) dk λys d hpy=>?_);have hyl:ys.length=k.size:=by rw [hpy.length_eq,dk]
  refine aa (CR ?_ (by rw [ak,hyl,eY];exact fa2 hz (aj hn)));obtain hrange:(br k.size).map (λp=>ks'.getD p gq)=ks':=by
   refine ja λi=>?_;rw [av];rcases um i k.size with hi | hi
   ·rw [jJ hi];simp [OG,an (show i<ks'.length by exact fa2 (aj c.symm) hi)]
   ·rw [cn (by rw [dk];exact hi),cn (le_of_eq_of_le c hi)];rfl
  refine u _ (.ref s.heap.objs.size) (ys.map λp=>ks'.getD p gq) (λb o e=>au _ e) (by rw [cm];exact er _) ⟨d,rfl⟩ (((hpy.map _).trans (by rw [hrange])).trans hp) (.drawn h.1 (au _ (az _ rfl)) rfl hyl λj p hj=>?_) (λT e=>by cases e;exact ⟨by rw [cm];exact bU _,aq _⟩);have hpm:=mR (hpy.mem_iff.mp (aQ hj));refine e21 (hE.get (an (show p<ks'.length by exact fa2 (aj c.symm) hpm))) λhh tk he=>?_;refine i33 _ _ tk (by rw [<- cM];exact he) rfl ?_;rw [av,hj];simp [OG,an (show p<ks'.length by exact fa2 (aj c.symm) hpm)]
 ·rename_i h;refine aa (ah ?_);cases hb:w.params.followText "set-order" with
  | true=>refine e12 (qY.perm (u4 (w.params.setOrder a ep) k) hE) λy p1 hE1=>?_;exact u s _ y (λ_ _ e=>e) (aq _) ⟨s.drawn,rfl⟩ (p1.trans hp) (.text hb hE1) (λT e=>(by cases e))
  | false=>
   have h2:¬ (!t.plain && decide (k.size>1))=true:=λh3=>h (by rw [show (rg PR w).w.params.followText "set-order"=false from hb];exact h3);replace h2:=(hpl hk)▸h2;have h1':k.size=1:=by
    obtain this:=λh4=>h2 (by rw [decide_eq_true h4];rfl);lia
   exact u s _ ks' (λ_ _ e=>e) (aq _) ⟨s.drawn,rfl⟩ hp (.one hb h1' (by rw [hl];delta vc;rw [hb];rfl) hE (λ_=>rfl) (λe=>(by cases e))) (λT e=>(by cases e))
end
section
variable {w:ar} {A:bj} {E:ae->af->Prop} {s:af} {a I L:ay} {o:ff} {ks xs:List aE} {B i:Nat}
theorem nz.upd {h h':aA} (x:nz w B h a I o xs i) (hs:bR L h h') (h1:L≠a) (h2:L≠I) (h3:L<B):nz w B h' a I o xs i:=by
 revert w a I L o xs B i h h';intros w a I L o xs B i h h';intro x hs h1 h2 h3;obtain ⟨q,p,l,m,t,k,first,F,D,C,y,v,u,r,j⟩:=x;refine ⟨(hs.2 _ (db h1)).trans q,p,l,m,t,k,first,F,D,C,(hs.2 _ (db h2)).trans y,v,u,?_,j⟩;cases r with
 | text a b=>exact .text a b
 | @drawn T H G n a b c d e=>exact .drawn a ((hs.2 T λz=>Bk _ (aw h3 (z▸(j T rfl).2))).trans b) c d e
 | one a b c d e f=>exact .one a b c d e f
theorem Hf {g:aA} {u:ae} (t:L≠I) (K:L≠a) (M:L<B) (H:xs≠[]) (hz:xs.length<1000) (hh:A.handled=none) {R:eB->af->Prop}: ∀ (k i:Nat) (s:af) (j:List ae) (c:Nat),xs.length=k+i->nz w B s.heap a I o xs i->s.heap.get? L=some (cV "list" j.toArray c)->VA g j ((xs.take i).map .str)-> (∀ h f d P,(∀ b o,b≠L->b≠I->s.heap.get? b=some o->h.get? b=some o)->s.heap.objs.size<=h.objs.size->h.get? L=some (cV "list" (kH d) P)->VA g d (xs.map .str)->R (.ok (.ret u)) {s with heap:=h,toks:=f})-> gn (MM w) A (.builtin "list.extend.loop" ⟨[.ref L,.ref I,u],[]⟩) R s:=by
 intros k;induction k with
 | zero=>
  intro i s j c J l O C q;obtain rfl:i=xs.length:=by lia
  refine fb F.entry_extend_loop ?_;refine aa (cC (Ey l H hh λh f U G=>?_));exact ah (q h f j c (λb o _ n e=>U b o n e) G (U L _ t O) (by rwa [fP] at C))
 | succ k ih=>
  intro i s j c J l O C q;have T:xs[i]?=some (xs[i]'(by lia)):=an _;refine fb F.entry_extend_loop ?_;refine aa (BI l T λf W r x=>?_);obtain y:=(r.2 L t).trans O;obtain v:=C.length;rw [ak,cS] at v;obtain z:=eY;refine aa (m:=nY L (·.push (oO (xs[i]'(by lia)) f))) (eX y rfl (ah ⟨ku F.plain_extend_loop _,?_⟩) (by rw [bk];lia) (by simp;lia));obtain N:(W.update L (bu (·.push (oO (xs[i]'(by lia)) f)))).get? L=some (cV "list" (j++[oO (xs[i]'(by lia)) f]).toArray (c+1)):=by
   obtain e:=gW j (.str (xs[i]'(by lia)) f) c;rw [bn _ y (by exact (congrArg Obj.isFreed e).trans rfl)];exact congrArg some e
  obtain p:=aU W L (bu (·.push (oO (xs[i]'(by lia)) f)));refine ih (i+1) _ _ (c+1) (bB (fa1 (aj J)) (fa1 (aj J.symm))) (x.upd p K t M) N ?_ λh D d P k1 Z Y X=>q h D d P (λb o S Q e=>k1 b o S Q ((p.2 b S).trans ((r.2 b Q).trans e))) (ab (aj (r.1.symm.trans p.1.symm)) Z) Y X;rw [dF,T,bM];exact C.append (VA.cons (V.str _ _) (VA.nil g))
theorem yZ {g:aA} {Q:List ae->af->Prop} (ho:s.heap.get? a=some o) (z:ue w o n) (hz:n.length<1000) (H:n≠[]) (M:A.handled=none) (q:∀ (m:List aE) y x C d,m.Perm n->VA g y (m.map .str)->eN s.heap x->s.heap.objs.size<=x.objs.size->Q y {s with heap:=x,toks:=C,drawn:=d}):aV (MM w) A (Ph (.ref a)) Q E s:=by
 revert w A E s a o n g Q;intros w A E s a o n g Q;intro ho z hz H M q;obtain l:=ed (aH ho);refine aa (CQ (fb F.entry_proto_collect ?_));rw [lq F.plain_proto_collect _];refine aa (eU ?_);refine ah ⟨ku F.plain_list_iadd _,fb F.entry_list_iadd ?_⟩;rw [lq F.plain_list_iadd _];refine (?_:aV _ A.in1 (r4 (.ref s.heap.objs.size) (.ref a) (.ref s.heap.objs.size)) _ _ _);delta r4;obtain f:=au _ ho;obtain U:({s with heap:=s.heap.push (cV "list" #[] 0)}:af).TypeIs (.ref a) "set":=(i12 o f z.ex.1);refine aa (iW U ?_);rw [if_neg (by rw [(show tS (.ref s.heap.objs.size) (.ref a)=false from by simp [tS,l])];decide)];refine aa (rq f z hz H ?_);intros m I N d;intro G j W D V J;obtain c:=kP ..;refine aa (bw ?_);obtain k:({s with heap:=N,drawn:=d}:af).TypeIs (.ref a) "set":=(i12 o (j _ _ f) z.ex.1);refine aa (Bg k F.slot_set_len.lookup ?_);generalize hid:("set.__len__":String)=T;subst hid;refine aa (eF (b:=true) k (by rw [lI];kernel_rfl) ?_);refine aa (iW k ?_);refine ah ?_;refine aa (eT ?_);obtain r:=j _ _ (az _ rfl);refine aa ?_;refine aa (eX r rfl ?_ (aM _) (by decide));obtain p:=bn (bu (·.push dD)) r rfl;refine eX p rfl ?_ (by rw [eY];trivial) (by decide);obtain K:=(aU N s.heap.objs.size (bu (·.push dD))).trans (aU _ s.heap.objs.size (bu (·.pop)));obtain v:=c▸W;obtain t:=bg v;obtain u:s.heap.objs.size<(s.heap.push (cV "list" #[] 0)).objs.size:=by rw [c];exact bU _
 refine ah ⟨ku F.plain_extend_loop _,Hf t l u (λe=>H (dr (by rw [<- G.length_eq,e];rfl))) (by rw [G.length_eq];exact hz) M m.length 0 _ [] _ rfl (J.upd K l t u) (bn (bu (·.pop)) p rfl) (VA.nil g) λx C y X S R P O=>?_⟩;refine aa (oI P ?_);refine ah (q m y x C d G O (λb o e=>?_) ?_)
 ·obtain h:=aH e;exact S b o (bg h) (bg (nl h v)) ((K.2 b (bg h)).trans (j b o (au _ e)))
 ·refine ab ?_ R;rw [K.1];exact ab (by rw [c];exact er _) D
end
end
section
open PySem.Spec PySem.Calls PySem.W PyProof.Rows
open AutoSeq1 (wpAny_loadPart')
open MeetsSeq3
section
variable {w:ar} {A:bj} {E:ae->af->Prop} {s:af}
end
section
variable {w:ar} {A:bj} {E:ae->af->Prop} {s:af}
theorem GY {a b:ay} {x y:aE} {t u:C9} {Q:ae->af->Prop} (c:s.heap.IsList a #[.str x t]) (hb:s.heap.IsList b #[.str y u]) (h:Q (.bool (decide (x.cps.toList<y.cps.toList))) s): aV (MM w) A (call (.builtin "list.__lt__") [.ref a,.ref b]) Q E s:=by
 revert x y c hb h;revert w A E s a b t u Q;intros w A E s a b t u Q x y;intro c hb h;have k:=hb.typeIs;refine iX (codeAny_call_builtin F.slot_list_lt.plain F.entry_list_lt (F.slot_list_lt.check _ _ _ _ _ _ _ _ c.typeIs (F.args_list_lt_2 _ _) ?_));obtain ⟨⟨_,r,_,o⟩,c,i,n,g⟩:=c;obtain ⟨⟨_,l,_,j⟩,hb,f,p,d⟩:=hb;dsimp only at i g f d;subst i g f d;have q:=Qh;wp_walk using kA c,kA hb;refine ⟨ku plain_eq_loop _,fb entry_eq_loop ?_⟩;rw [lq plain_eq_loop _];wp_walk using kA c,kA hb;refine (zi ?_:aV _ _ (eqBool (.str x t) (.str y u)) _ _ _);by_cases e:x=y
 ·rw [decide_eq_true e];subst e;wp_walk;refine ⟨ku plain_eq_loop _,fb entry_eq_loop ?_⟩;rw [lq plain_eq_loop _];wp_walk using kA c,kA hb;rw [decide_eq_false (Kr _)] at h;exact h
 ·rw [decide_eq_false e,if_neg bb];refine aa (q9 c rfl (aa (q9 hb rfl ?_)));dsimp only;refine aa (m:=richCompare .Lt (.str x t) (.str y u)) (w3 ?_);exact ah h
theorem Ad {a b:ay} {x y:aE} {t u:C9} {Q:Bool->af->Prop} (d:A.units<Oi) (c:s.heap.IsList a #[.str x t]) (hb:s.heap.IsList b #[.str y u]) (h:Q (decide (x.cps.toList<y.cps.toList)) s):aV (MM w) A (oneLt' true (.ref a) (.ref b)) Q E s:=by
 rw [oneLt'_eq];refine aa (wpAny_cRoomFor d ?_);refine aa (wpAny_callSpecialIfBound?_slot c.typeIs F.slot_list_lt (GY c hb ?_));exact fG h
noncomputable def iQ:ae->Int
 | .str k _=>((k.cps.toList.headD 0:Nat):Int)
 | _=>0
noncomputable def E7 (h:aA) (p:aC):Prop:=∃ a t u k c,p.1=.ref a/\h.IsList a #[.str k t]/\p.2=.str k u/\k.cps.toList=[c]
theorem EK {a₀:Array aC} (o:A.units<Oi) (h:∀ p∈a₀.toList,E7 s.heap p):kq (MM w) A E s tt (λp=>iQ p.2) a₀:=by
 intro p q v r Q st x i;refine e54 (h p v) λa t u k c B z y j=>?_;refine e54 (h q r) λH G f b c' F D C l=>?_;rw [OA];refine aG (kE ?_);rw [x];replace i:Q (some (decide (iQ p.2<iQ q.2))) st:=i;rw [y,C] at i;rw [B,F];refine aG (nj (eQ (Ad o z D ⟨rfl,aY ?_⟩)));obtain m:iQ (.str k u)=c:=by refine (?_:((k.cps.toList.headD 0:Nat):Int)=c);rw [j];rfl
 obtain d:iQ (.str b f)=c':=by refine (?_:((b.cps.toList.headD 0:Nat):Int)=c');rw [l];rfl
 obtain this:decide (k.cps.toList<b.cps.toList)=decide (iQ (.str k u)<iQ (.str b f)):=by
  by_cases g:c<c';·rw [decide_eq_true (show k.cps.toList<b.cps.toList by rw [j,l,dW];exact .inl g),decide_eq_true (show iQ (.str k u)<iQ (.str b f) by rw [m,d];exact cY.mpr g)]
  ·rw [decide_eq_false (show ¬ k.cps.toList<b.cps.toList by rw [j,l,dW];exact λh:c<c'\/c=c'/\([]:List Nat)<[]=>h.elim g λh=>JU _ h.2),decide_eq_false (show ¬ iQ (.str k u)<iQ (.str b f) by rw [m,d];exact pU.2 (dM.2 (fa1 (ba g))))]
 rw [this];exact i
theorem iB.push {g₀ g:aA} {s₀ s:af} (a:SS w g₀ s₀) (x:iB s₀ g₀ s g) (o:ff) (t:Nat):iB s₀ g₀ {s with heap:=s.heap.push o,toks:=t} g:=x.trans ((a.step x).same (Stp.push s o t))
theorem VA.cut {g:aA} {vs:List ae} {ks:List aE} {i:Nat} {v:ae} (h:VA g vs (ks.map .str)) (e:vs[i]?=some v):∃ k t,ks[i]?=some k/\v=.str k t:=by
 revert g vs ks i v;intros g vs ks i v;intro h e;have c:=h.length;have j:=(gE e).1;rw [ak] at c;refine e12 (h.get (d:=.str (ks[i]'(by lia))) i (by rw [av,an (by lia)];rfl)) λu a f=>?_;replace a:=e▸a;refine iM a λb=>?_;clear a;subst b;obtain ⟨t,rfl⟩:=f.str_inv;exact i22 _ t (an (by lia)) rfl
theorem VA.keyL {g:aA} {b vs:List ae} {ks:List aE} (h1:VA g b (ks.map λk=>.list [.str k])) (h2:VA g vs (ks.map .str)) (h3:∀ k∈ks,∃ c,k.cps.toList=[c]):∀ p∈b.zip vs,E7 g p:=
 h1.indM (P:=λb ks=>∀ vs,VA g vs (ks.map .str)->(∀ k∈ks,∃ c,k.cps.toList=[c])->∀ p∈b.zip vs,E7 g p) (λ_ _ _ _ h=>nm h) (λx k b ks o _ r vs=>vs.rec (λh=>h.elim) λv vs _ h2 h3 p d=>(mC d).elim (λe=>by
  obtain ⟨a,y,rfl,f,j,_⟩:=o.list_inv;refine e11 h2.1.str_inv λt n=>?_;obtain rfl:=n;refine e11 (h3 k (.head _)) λc i=>?_;refine e11 (hY j.length) λu m=>?_;obtain rfl:=m;refine e11 j.1.str_inv λq l=>?_;obtain rfl:=l;exact e▸⟨a,q,t,k,c,rfl,f,rfl,i⟩) λd=>r vs h2.2 (λk i=>h3 k (.tail _ i)) p d) vs h2 h3
theorem E7.mono {g h:aA} {p:aC} (x:E7 g p) (k:eN g h):E7 h p:=by refine e53 x λa t u c d i b f=>?_;clear x;refine e12 b λo e r=>?_;clear b;exact i53 a t u c d i (i12 o (k _ _ e) r) f
theorem VA.lists {g:aA} {b:List ae} {ks:List aE} (h:VA g b (ks.map λk=>.list [.str k])):∀ v∈b,∃ a us,v=.ref a/\g.IsList a us:=
 h.indM (P:=λb _=>∀ v∈b,∃ a us,v=.ref a/\g.IsList a us) (λ_ h=>nm h) λ_ _ _ _ x _ d v f=>(mC f).elim (λe=>by
  obtain ⟨a,us,j,i,_⟩:=x.list_inv;exact i22 a _ (e.trans j) i) (d v)
set_option maxHeartbeats 4000000 in
theorem Ew {s₀:af} {g₀ g:aA} {f:ae} {L:ay} {vs:List ae} {ks:List aE} {n r:Nat} {P:bO->af->Prop} (d:SS w g₀ s₀) (x:iB s₀ g₀ s g) (hA:Rm r A) (hL:s.heap.get? L=some (cV "list" vs.toArray n)) (F:s₀.heap.objs.size<=L) (O:g.get? L=none) (hv:VA g vs (ks.map .str)) (hz:ks.length<=100) (I:∀ k∈ks,∃ c,k.cps.toList=[c]) (M:∀ k∈ks,∀ h v,eN g h->V h v (.str k)->Op w r h (call f [v]) (LL [.str k]))
  (q:∀ s' h W c,iB s₀ g₀ s' h->eN g h->h.get? L=none->s'.heap.get? L=some (cV "list" (kH W) c)->W.Perm vs->W.Pairwise (λu v=>iQ u<=iQ v)->P (.done (.ret .none)) s'):aV (MM w) A (ksk_tree L f false) P E s:=by
 revert d x hA hL F O hv hz I M q
 revert w A E s s₀ g₀ g f L vs ks n r P
 intros w A E s s₀ g₀ g f L vs ks n;intros r P;intro d x hA hL F O hv hz I M q
 have a5:=hv.length
 rw [ak] at a5
 have z:=eY
 delta ksk_tree
 refine aa (q9 hL rfl ?_)
 refine aa (ky hL rfl ?_ (by rw [bk];lia) (aM _))
 obtain ⟨e1,a2⟩:∃ e1,(s.heap.update L (bu λ_=>(#[]:Array ae))).get? L=some (cV "list" #[] e1):=⟨_,kG hL λ_=>#[]⟩
 refine aa (tn a2 rfl ?_)
 refine aa (CR ?_ (by refine (?_:vs.length<=_);lia))
 refine aa (uJ ?_ (aM _))
 have x3:=((x.turn (t:=s.toks) d F O (aU s.heap L (bu λ_=>(#[]:Array ae)))).push d (cV "tuple" vs.toArray 0) s.toks).push d (cV "list" #[] 0) s.toks
 have a4:=aH a2
 have a7:g.get? ((s.heap.update L (bu λ_=>(#[]:Array ae))).push (cV "tuple" vs.toArray 0)).objs.size=none:=(d.step x).none (by rw [kP,gY];exact er _)
 have C:s₀.heap.objs.size<=((s.heap.update L (bu λ_=>(#[]:Array ae))).push (cV "tuple" vs.toArray 0)).objs.size:=ab (ab F (aF a4)) (by rw [kP];exact er _)
 have X:((s.heap.update L (bu λ_=>(#[]:Array ae))).push (cV "tuple" vs.toArray 0)).objs.size≠L:=by rw [kP];exact ed (jd a4)
 have a8:=au (cV "list" #[] 0) (au (cV "tuple" vs.toArray 0) a2)
 have a0:(((s.heap.update L (bu λ_=>(#[]:Array ae))).push (cV "tuple" vs.toArray 0)).push (cV "list" #[] 0)).get? ((s.heap.update L (bu λ_=>(#[]:Array ae))).push (cV "tuple" vs.toArray 0)).objs.size=some (cV "list" #[] 0):=az _ rfl
 refine bw ?_
 show aV (MM w) A _ P E {s with heap:=((s.heap.update L (bu λ_=>(#[]:Array ae))).push (cV "tuple" vs.toArray 0)).push (cV "list" #[] 0)}
 have hK:((s.heap.update L (bu λ_=>(#[]:Array ae))).push (cV "tuple" vs.toArray 0)).objs.size=((s.heap.update L (bu λ_=>(#[]:Array ae))).push (cV "tuple" vs.toArray 0)).objs.size:=rfl
 generalize ((s.heap.update L (bu λ_=>(#[]:Array ae))).push (cV "tuple" vs.toArray 0)).objs.size=K at a7 C X a0 ⊢
 generalize ((s.heap.update L (bu λ_=>(#[]:Array ae))).push (cV "tuple" vs.toArray 0)).push (cV "list" #[] 0)=H at x3 a8 a0 ⊢
 delta ksk_rest
 refine aa (eT ?_)
 rw [List.forIn_toArray]
 refine aa (ksk_fold (λi s'=>∃ h B e,iB s₀ g₀ s' h/\eN g h/\h.get? L=none/\h.get? K=none/\s'.heap.get? L=some (cV "list" #[] e1)/\s'.heap.get? K=some (cV "list" (kH B) e)/\VA h B ((ks.take i).map λk=>.list [.str k])) vs 0 _ ⟨g,[],0,x3,eN.refl _,O,a7,a8,a0,VA.nil g⟩ ?step ?done)
 case step=>intro j;intro v;intro s';intro hx;intro z0;refine e37 z0 λh B e y J n1 n2 p1 p2 l=>?_;clear z0;rw [gy] at l ⊢;refine e22 (hv.cut hx) λk t Z z4=>?_;obtain rfl:=z4;have S':=d.step y;refine aa (eQ (M k (aQ Z) h (.str k t) J (.str _ _) A s' hA S' _ _ λu g2 s2 N hu=>?_));have q2:=N.keep K _ p2 (eD (ab d.big C));have m2:=N.fresh n2 (aH p2);have Y:=l.length;rw [ak,cS] at Y;have b2:=(gE Z).1;obtain ⟨c2,a1⟩:∃ c2,(s2.heap.update K (bu (·.push u))).get? K=some (cV "list" (B.toArray.push u) c2):=⟨_,kG q2 (·.push u)⟩;have sb:=aU s2.heap K (bu (·.push u));refine aa (ky q2 rfl ?_ (by rw [bk];lia) (by rw [wf,bk];lia));refine ah ⟨rfl,g2,B++[u],c2,(y.trans N).turn d C m2 sb,J.trans N.le,(N.fresh n1 (aH p1)),m2,(sb.2 L (db X)).trans (N.keep L _ p1 (eD (ab d.big F))),by rw [a1];simp,?_⟩;rw [dF,Z,bM];exact (l.mono N.le).append (VA.cons hu (VA.nil _))
 case done=>
  intro s';intro z1;refine e37 z1 λh B e y J n1 n2 p1 p2 l=>?_;clear z1;rw [gy,ix (by lia)] at l;have S:=d.step y;refine aa (q9 p2 rfl ?_);have Y:=l.length;rw [ak] at Y;have a3:(B.toArray.zip vs.toArray).size=vs.length:=by rw [Array.size_zip,bk,bk];lia
  have a6:∀ p∈(B.toArray.zip vs.toArray).toList,E7 h p:=by
   rw [ksk_zip];exact l.keyL (hv.mono J) I
  have R:∀ (G:bl),(aO G).Perm (B.toArray.zip vs.toArray)->jk G=none->(aO G).toList.Pairwise (λp q=>iQ p.2<=iQ q.2)->aV (MM w) A (ksk_tail L false e1 (.ref K) G) P E s':=by
   intro G hp hf hs;delta ksk_tail;simp only [sj,if_false];have sb:=aU s'.heap K (bu λ_=>(#[]:Array ae));have pL:=(sb.2 L (db X)).trans p1;refine aa (ky p2 rfl ?_ (by rw [bk];lia) (aM _));refine aa (wpAny_letGo ?_);refine aa (tn pL rfl ?_);refine aa (ky pL rfl ?_ (aM _) (by rw [xe,(show (aO G).size=vs.length from by rw [hp.size_eq,a3])];lia));rw [hf];simp only [bne_self_eq_false,sj,if_false];have N:=(y.turn (t:=s'.toks) d C n2 sb).turn (t:=s'.toks) d F n1 (aU (s'.heap.update K (bu λ_=>(#[]:Array ae))) L (bu λ_=>(aO G).map (·.2)));obtain ⟨c2,a1⟩:∃ c2,((s'.heap.update K (bu λ_=>(#[]:Array ae))).update L (bu λ_=>(aO G).map (·.2))).get? L=some (cV "list" ((aO G).map (·.2)) c2):=⟨_,kG pL λ_=>(aO G).map (·.2)⟩;refine ah (q _ h ((aO G).map (·.2)).toList c2 N J n1 (by rw [Array.toArray_toList];exact a1) ?_ ?_)
   ·have h1:=(fT.mp hp).map (·.2);rw [ksk_zip,Ii (by rw [List.toList_toArray];lia)] at h1;rw [oT];exact h1
   ·rw [oT,cT];exact hs
  delta ksk_end;dsimp only;rw [if_neg bb];by_cases U:vs.toArray.size<2
  ·rw [if_pos U,if_pos U];refine aa (ah ?_);rw [StateT.run_pure];refine aa (ah ?_);refine R _ (nX _) rfl ?_;refine (?_:(B.toArray.zip vs.toArray).toList.Pairwise _);replace U:=bk▸U;match hq:(B.toArray.zip vs.toArray).toList with
   | []=>exact pT
   | [_]=>exact oY _ _
   | _::_::_=>have:=congrArg lW hq;rw [cI,a3] at this;simp at this;lia
  ·rw [if_neg U,if_neg U];replace U:=bk▸U;refine aa (kas_kind (T:=.type "list") (by lia) (λv a9=>?_) rfl rfl ?_)
   ·obtain ⟨a,us,rfl,o,ho,hc,_⟩:=l.lists v a9;exact hc▸(C7 (S.sub _ _ ho)).andThen .now
   ·refine aa (cr (rn (st:=jc tt (B.toArray.zip vs.toArray) #[] 7 none) (EK (a₀:=B.toArray.zip vs.toArray) (aR (aI _ _) hA.line) λp hp=>(a6 p hp).mono S.sub) ⟨nX _,rfl,rfl,rfl⟩
     (Q:=λ_ D=>(aO D).Perm (B.toArray.zip vs.toArray)/\jk D=none/\Pw (λp=>iQ p.2) (aO D).toList) λD b1 b hs=>⟨b.perm,b.failed,xu (by rw [b.size];exact hs)⟩) ?_ λ_ _ e=>e)
    intro z2;obtain ⟨⟨⟩,D⟩:=z2;intro b0;intro z3;refine e04 z3 λz5 hp hf hs=>?_;clear z3;obtain rfl:=z5;exact R D hp hf hs
noncomputable def oV (k:aE):Int:=((k.cps.toList.headD 0:Nat):Int)
theorem E6 {s:af} {h':aA} {t:Nat} {d:Drawn} (k:eN s.heap h') (z:s.heap.objs.size<=h'.objs.size):wH s {s with heap:=h',toks:=t,drawn:=d}:=
 ⟨⟨λb o e _=>k b o e,z,λt=>t.keeps k,λ_ _ e=>e,λ_ _ e=>.inl e,rfl⟩,λP o _ e=>k P o e⟩
theorem vz {g:aA} {F a:ay} {o:ff} {ks ms:List aE} {r:Nat} {Q:ae->af->Prop} (S:SS w g s) (hA:Rm (r+1) A) (ho:s.heap.get? a=some o) (hS:ue w o ks) (N:ks≠[]) (hz:ks.length<=100) (n:∀ k∈ks,∃ c,k.cps.toList=[c]) (P:∀ k∈ks,∀ C v,eN g C->V C v (.str k)->Op w r C (call (.ref F) [v]) (LL [.str k])) (hp:ms.Perm ks) (hs:ms.Pairwise (λx y=>oV x<=oV y)) (q:∀ l C T,iB s g T C->V C (.ref l) (.list (ms.map .str))->Q (.ref l) T):aV (MM w) A (call (.builtin "sorted") [.ref a] [(ac "key",.ref F)]) Q E s:=by
 refine call_function_entry_kw Qi Pp Pu (ksk_s1 _ _) ?_;refine aa (m:=checkCount "sorted" 1 1 _) (ah ?_);refine aa (yZ (g:=g) ho hS (by exact aR (by assumption) (by decide)) N hA.handled λxs W D tk d j X Z B=>?_);obtain x1:iB s g {s with heap:=D,toks:=tk,drawn:=d} g:=S.same (E6 Z B);obtain u:=X.length;rw [ak,j.length_eq] at u;refine aa (uJ ?_ (fa3 hz (aj eY.symm) (aj u)));obtain K:(D.push (cV "list" W.toArray 0)).get? D.objs.size=some (cV "list" W.toArray 0):=az _ rfl;refine aa (bw (wpAny_call_entry_kw Oy (i12 _ K rfl) No ?body (ksk_l1 _ _)));case body=>
  refine Ew S (x1.push S (cV "list" W.toArray 0) tk) (⟨hA.handled,by have:=hA.depth;refine (?_:A.depth+4*r<=900);exact fa1 this,by have:=hA.units;refine (?_:A.units+1+1+40*r<=9000);exact fa1 this⟩) K B ((S.step x1).none (aq _)) X (by rw [j.length_eq];exact hz) (λk N=>n k (j.mem_iff.mp N)) (λk N=>P k (j.mem_iff.mp N)) λT C f c y M hn hL J I=>(i12 _ rfl (ah (i12 _ rfl ?_)));refine e14 (iB.freeze S y hL B) λg2 y2 L O z0=>?_;refine e12 (VA.perm J (X.mono M)) λU he z=>?_;obtain ⟨p,rfl,G⟩:∃ p:List aE,U=p.map .str/\p.Perm xs:=by
   refine i12 (U.map λ| .str i=>i | _=>gq) ?_ ?_
   ·rw [cz];obtain this:∀ e∈U,(da ∘ λ| .str i=>i | _=>gq) e=e:=λe h=>by
     refine e12 (mM (he.mem_iff.mp h)) λi z1 z2=>?_;obtain rfl:=z2;rfl
    exact (m9 U).symm.trans (dS λe h=>(this e h).symm)
   ·obtain this:=he.map λ| .str i=>i | _=>gq;rwa [cz,show ((λ| .str i=>i | _=>gq:ag->aE) ∘ da)=id from rfl,we] at this
  obtain Y:p.Pairwise (λx y=>oV x<=oV y):=by
   obtain this:f.map iQ=p.map oV:=by
    clear he G I J hL O;induction p generalizing f with
    | nil=>
     match f,z with
     | [],_=>rfl
     | _::_,h=>have:=h.length;exact gt this
    | cons k p ih=>
     match f,z with
     | [],h=>have:=h.length;exact gt this
     | v::f,h=>refine e11 h.uncons.1.str_inv λt z3=>?_;obtain rfl:=z3;rw [bV,ih f h.uncons.2];rfl
   obtain R:(f.map iQ).Pairwise (· <=·):=by rw [cT];exact I
   rw [this,cT] at R;exact R
  obtain H:=G.trans j;obtain this:p=ms:=nn (λa b ha hb D R=>by
   refine e11 (n a (H.mem_iff.mp ha)) λc hc=>?_;refine e11 (n b (hp.mem_iff.mp hb)) λd hd=>?_;delta oV at D R;rw [hc,hd,JW,JW] at D R;obtain this:c=d:=by lia
   subst this;obtain ⟨a⟩:=a;obtain ⟨b⟩:=b;exact congrArg Str.mk (uu.mp (hc.trans hd.symm))) Y hs (H.trans hp.symm)
  subst this;exact q _ g2 T y2 (jA O (z.mono L))
end
end
section
open PySem.Spec PySem.Calls PySem.W PyProof.Rows
section
variable {w:ar} {A:bj} {E:ae->af->Prop} {s:af} {g:aA} {r:Nat} {P:ci} {nm qual:aE} {params:zn} {body:be} {scope:bf} {pm cdv ctv:ae} {f:ay} {x:aE} {d:ag}
noncomputable abbrev yP (nm qual:aE) (params:zn) (body:be) (scope:bf) (pm cdv ctv:ae):ff:={cls:=.type "function",data:=.func (kla_fn nm qual params body scope [] pm cdv ctv)}
theorem G6 (p:∀ v,wY (kla_fn nm qual params body scope [] pm cdv ctv) ⟨[v],[]⟩=pure [(x,v)]) (l:scope.names.lookup x=some .local) (D:scope.names.all (λy=>y.2==.local || y.2==.globalImplicit)=true) (G:scope.isCoroutine=false) (z:scope.isGenerator=false) (K:scope.kind=.function) (F:Ev w scope r [(x,.d d)] body P) (ho:g.get? f=some (yP nm qual params body scope pm cdv ctv)) (hcd:g.CodeRec cdv qual) {v:ae} (R:V g v d):Op w (r+1) g (call (.ref f) [v]) P:=by
 intro A s B S Q E q;have k:∀ y,y∈scope.names->y.2≠.cell/\y.2≠.free:=λy j=>by
  obtain this:=aT D y j;constructor <;>(intro h;replace this:=h▸this;cases this)
 refine iX (kla_callFunE B.room (S.sub _ _ ho) rfl G z rfl (CodeRec.up hcd S.sub) ?_);rw [p];refine ah (nf (λy j=>(k y j).1) (λy j=>by obtain rfl:=mS j;exact l) (λI C m=>?_) K);have i:=λb o e=>m.extBut b o (bg (aH e)) (au _ e);have J:s.heap.objs.size<I.objs.size:=by rw [show I.objs.size=_ from m.1,cm];exact bU _
 refine e21 (((S.base.keeps S.sub).keeps i).top) λN O Y=>?_;obtain U:cB scope (q0 scope s.heap.objs.size bA [] (qual++".<locals>.") (some f) cdv none dA):=⟨rfl,K,rfl,rfl,λn t=>by
  rcases t with t | t;·exact absurd rfl (k _ (mem_of_lookup t)).1
  ·exact absurd rfl (k _ (mem_of_lookup t)).2⟩
 have Z:FS w true s g (q0 scope s.heap.objs.size bA [] (qual++".<locals>.") (some f) cdv none dA) g {} [(x,.d d)] {s with heap:=I,toks:=s.toks+[(x,v)].length}:=by
  refine ⟨S,S.same (Stp.heap i (aF J)),Jj.of S.big (aq _),S.none (aq _),(i12 _ C (λy b j=>?_)),λn c H=>((by cases H)),λn n' c a b=>((by cases a)),⟨λ_ h=>(nomatch h),λ_ h=>(nomatch h)⟩,λ_ n c W=>((by cases W))⟩;rw [aK] at j;split at j
  ·refine iM j λL=>?_;clear j;subst L;obtain e:y=x:=by simpa using ‹(y==x)=true›
   subst e;exact i12 v (.inl ⟨l,by simp⟩) R
  ·cases j
 exact ⟨Y.nolimit,kla_codeExpr (F _ _ true s g g {} _ U (⟨B.handled,by have:=B.depth;refine (?_:A.depth+1+4*r<=900);exact fa1 this,by have:=B.units;refine (?_:A.units+3+40*r<=9000);exact fa1 this⟩:Rm r (A.deeper (q0 scope s.heap.objs.size bA [] (qual++".<locals>.") (some f) cdv none dA))) Z _ _ λu X M y T=>q u X M ((S.same (Stp.heap i (aF J))).trans y) T)⟩
theorem G5 {sc:bf} {ρ:dh} {st:Bool} {s₀:af} {g₀:aA} {env:fg} {pr:Pr} {q:aE} {c P:ay} {pos:cU} {Q:ae->af->Prop} (F:FS w st s₀ g₀ env g pr ρ s) (he:cB sc env) (X:env.code=.ref c/\env.qual=q) (j:∀ w g,(kF.heap_1 w).In g->Oo g c P) (hT:cg P=true) (hq:q++"<lambda>"=iG P) (a:scope.names.all (λx=>x.2 !=.free)=true) (D:defaultsOf params env=([],[])) (k:∀ f pm I b m s',iB s g s' m->m.get? f=some (yP "<lambda>" (iG P) params body scope pm I b)->m.CodeRec I (iG P)->Q (.ref f) s'):aV (MM w) A (eW (.Lambda params body scope pos) env) Q E s:=by
 have u:=F.ss;refine kla_eval D ?_;rw [X.2,hq];obtain i:=mL λn hn=>by have:=aT a _ hn;exact (bb this).elim
 obtain W:clo env scope.names []=[]:=by
  obtain this:∀ l:List (aE × jh),l.all (λx=>x.2 !=.free)=true->clo env l []=[]:=by
   intro l;induction l with
   | nil=>intro _;rfl
   | cons p l ih=>intro h;rw [r6,bN] at h;rw [D0];rw [if_neg (by simpa using h.1)];exact ih h.2
  exact this _ a
 replace i:=W▸i;refine bc λnO=>?_;refine e13 (u.codes P hT) λps H N B=>?_;have C:=j w.params _ (u.base.K.keeps u.sub);obtain ⟨L,G,bm,ob,b1,b2,t,b4,b5,K⟩:=(u.base.keeps u.sub).bmain;refine nO ?_;have T:bA≠P:=λz=>by
  refine e33 G λo es ep e V z0=>?_;clear G;rw [z,H] at e;refine iM e λz1=>?_;clear e;subst z1;cases V
 obtain Y:bm≠bA:=λz=>by
  refine e33 G λo es ep e V z2=>?_;clear G;rw [z,e] at t;refine iM t λz3=>?_;clear t;subst z3;replace K:=V▸K;cases K
 have hB:s.heap.BuiltinsAt L P:=⟨bm,ob,b1,b2,Y,(λz=>by rw [z,H] at t;refine iM t λz4=>?_;clear t;subst z4;cases b4),t,b4,b5,K⟩;cases U:nZ pos ps.toList with
 | none=>refine kla_makeFunction i he.glob G X.1 C H N U T hB λJ b h' v hx S R y M=>?_;refine e13 (u.made (oF:=yP "<lambda>" (iG P) params body scope ((L "__name__").getD .none) (.ref J) b) (tk:=v) hT H N B hx S R y M rfl) λm x Z h2=>?_;exact k _ _ _ _ m _ x Z h2
 | some cv=>refine e12 (B _ _ U) λJ z5 h3=>?_;obtain rfl:=z5;refine kla_makeFunctionHit i he.glob G X.1 C H N U hB λb h' v hk O=>?_;refine e12 (u.madeHit (c:=J) (oF:=yP "<lambda>" (iG P) params body scope ((L "__name__").getD .none) (.ref J) b) (tk:=v) hk O rfl) λm x Z=>?_;exact k _ _ _ _ m _ x Z (CodeRec.up h3 x.le)
end
noncomputable def A5 (w:ar) (g:aA) (o:ff) (ls:List aE) (ds:List ag):Prop:=∃ kvs,o.IsDictOf (aZ PR w) kvs/\kvs.map (·.1)=ls/\VA g (kvs.map (·.2)) ds
noncomputable def dP (D:ay) (o:ff):Pr:=⟨[(D,o)],[]⟩
section
variable {w:ar} {sc:bf} {r:Nat} {ρ:dh} {cenv:fg} {D:ay}
theorem NN {A:bj} {s₀:af} {g₀ g:aA} {pr:Pr} {s:af} {o:ff} {ls:List aE} {ds:List ag} {st:Bool} {env:fg} {k:aE} {t:C9} {v:ae} {d:ag} {Q:Unit->af->Prop} {E:ae->af->Prop} (F:FS w st s₀ g₀ env g (dg (dP D o) pr) ρ s) (ap:eg (dP D o) pr) (B:A5 w g o ls ds) (K:k∉ls) (hz:ls.length<=1000) (H:V g v d) (q:∀ y b,FS w st s₀ g₀ env g (dg (dP D b) pr) ρ y->eg (dP D b) pr->A5 w g b (ls++[k]) (ds++[d])->Q () y):aV (MM w) A (dictSet D (.str k t) v) Q E s:=by
 refine e04 (F.prot.objs (D,o) (.head _)) λO C N S=>?_;refine e13 B λf n G m=>?_;clear B;obtain rfl:=G;refine wpAny_dictSet_pairs (knd:=aZ PR w) (ii PR w k t) (jW.mpr (i12 o O n)) (λP M I=>?_) (by rw [ak] at hz;exact ab (by assumption) (by decide));refine e12 (jW.mp M) λb i u=>?_;obtain l:kL g {s with heap:=P,toks:=s.toks+1} (dP D b):=⟨λp J=>(m1 J ⟨i,C⟩),λ_ h=>(nm h)⟩;refine e02 (F.iter (q':=dP D b) ap (nU.one F.ss C N.2 I) l ⟨λa L=>.inl L,λ_ h=>(nm h)⟩) λR x=>?_;refine q _ b R x (i13 _ u ?_ ?_);all_goals
  obtain c:¬ (f.any λz=>decide (z.1=k))=true:=by
   simp only [hH,decide_eq_true_eq,not_exists,not_and];exact λz j e=>K (e▸aX j)
  delta stored
  rw [if_neg c,bM]
 ·rfl
 ·exact m.append (VA.cons H (VA.nil g))
end
section
variable {w:ar} {sc:bf} {r:Nat} {ρ:dh} {cenv:fg} {D:ay}
theorem Ck {n:aE} {np p:cU} {e i1:be} {scope:bf} {pos:cU} {it:ae} {ms:List aE} {val:aE->ag} {s₀:af} {g₀:aA} (h:cB sc cenv) (hx:sc.names.lookup n=some .local) (a:ρ.lookup n=none) (hnd:ms.Nodup) (hz:ms.length<=1000) (c:(n==("__classdict__":aE))=false) (b:(n==("__debug__":aE))=false) (f:∀ k∈ms,∀ A g t s,Rm r A->FS w false s₀ g₀ cenv g t ((n,.d (.str k))::ρ) s->MN w A g s (eW e cenv) (DV (val k))) {A:bj} {R:eB->af->Prop} (hA:Rm r A) {g:aA} {s:af} {q:Pr} {o:ff} (hi:jf w r true it (ms.map .str) g q) (F:FS w false s₀ g₀ cenv g (dg (dP D o) (dg q {})) ρ s) (d:eg (dP D o) (dg q {})) (i:A5 w g o [] []) (k:∀ j l m,eN g j->FS w false s₀ g₀ cenv j (dg (dP D m) {}) ρ l->A5 w j m ms (ms.map val)->R (.ok .next) l): gn (MM w) A (.compLoop (.DictComp (.Name n p) e [⟨.Name n np,i1,[],0⟩] scope pos) 0 it (.ref D) cenv) R s:=by
 revert h hx a hnd hz c b f hA hi F d i k;revert w sc r ρ cenv D n np p e i1 scope pos it ms val s₀ g₀ A R g s q o;intros w sc r ρ cenv D n np kp vx i1 scope;intros pos it ms val s₀ g₀ A R g s q o;intro he hx S hnd hz W V hv hA hi F a1 hD k;refine codeAny_compLoop_testsD (λm J=>∃ x ls a q o,m=a.length/\ms=ls++a/\eN g x/\jf w r true it (a.map .str) x q/\FS w false s₀ g₀ cenv x (dg (dP D o) (dg q {})) ρ J/\eg (dP D o) (dg q {})/\A5 w x o ls (ls.map val)) ?_ ms.length ⟨g,[],ms,q,o,rfl,rfl,eN.refl g,hi,F,a1,hD⟩;intro m;intro s1;intro z0;refine e57 z0 λg1 ls a q1 K z1 i G j F1 a4 l=>?_;clear z0;obtain rfl:=z1;have N:=F1.swap;have H:eg q1 (dg (dP D K) {}):=⟨(λp c h=>by
  rcases mA c with c | c
  ·refine e11 (gI h) λL U=>?_;exact a4.objs (p.1,L) (bG _ U) (aX (f:=(·.1)) c)
  ·cases c),(λp c h=>by
  rcases mA c with c | c <;>cases c)⟩
 match a,j with
 | [],j=>refine j.2 rfl g1 A s1 (eN.refl _) hA F1.ss N.live _ _ λQ g2 B=>?_;have F2:=N.iterEnd H B;rw [bp] at i;subst i;refine e13 l λz h1 h2 Z=>?_;clear l;exact k g2 Q K (G.trans B.le) F2 ⟨z,h1,h2,Z.mono B.le⟩
 | kx::a,j=>
  have E:kx∉ls:=λh=>by
   replace hnd:=i▸hnd;exact (iZ.mp hnd).2.2 kx h kx (.head _) rfl
  refine j.2 g1 A s1 (eN.refl _) hA F1.ss N.live _ _ λv g2 q2 Q B l2 a0 T i2=>?_;refine e02 (N.iter H B l2 a0.two) λF2 a3=>?_;refine uI.name (d:=.str kx) (.inl hx) A cenv s₀ g₀ g2 _ Q v he hA F2 T _ _ λg3 s3 u F3=>?_;rw [List.forIn_nil];refine ah ?_;rw [if_pos rfl];refine al (d:=.str kx) (by rw [aK,beq_self_eq_true]) W V A cenv false s₀ g₀ g3 _ s3 he hA F3 _ _ λkv g4 s4 P v4=>?_;obtain ⟨tk,rfl⟩:=v4.str_inv;have F4:=F3.step P;refine hv kx (by rw [i];exact aW _ (.head _)) A g4 _ s4 hA F4 _ _ λvv g5 s5 O v5=>?_;have I:eg (dP D K) (dg q2 {}):=⟨(λp c h=>by
   rcases mA c with c | c
   ·have X:p.1=D:=by simpa [addrs,dP] using h
    exact a3.objs (D,K) (.head _) (X▸aX (f:=(·.1)) c)
   ·cases c),λp _ h=>by cases h⟩
  refine e13 l λz h1 h2 Z=>?_;clear l;have t:=B.le.trans (u.trans (P.le.trans O.le));refine NN ((F4.step O).swap) I ⟨z,h1,h2,Z.mono t⟩ E (by rw [i,aB] at hz;lia) v5 λs6 o6 F6 a2 Y=>?_;refine ⟨a.length,bU _,g5,ls++[kx],a,q2,o6,rfl,by rw [i,bq];rfl,G.trans t,i2.mono (u.trans (P.le.trans O.le)),F6.weaken λy b M=>?_,a2,by rw [bM];exact Y⟩;rw [aK];by_cases e:y=n;·subst e;replace M:=S▸M;exact lE M
  ·rw [show (y==n)=false from beq_false_of_ne e];exact M
end
noncomputable def Ml (W:Wr) (f:ay):aA->ae->Prop:=λg v=>∃ m,v=.ref m/\g.get? m=some (methodObj (.ref f) (.ref W.x))
section
variable {w:ar} {sc:bf} {st:Bool} {s₀ s s':af} {g₀ g g':aA} {env:fg} {pr:Pr} {ρ ρ':dh} {r:Nat} {o:m6} {pos:cU} {x:aE} {W:Wr}
theorem AW {y name:aE} {p xp ap:cU} {f:ay} (hx:ρ.lookup x=some (.res (WR W))) (D:W.ats.lookup name=none) (v:sc.names.lookup y=some .local\/(sc.names.lookup y=some .cell/\true=true)) (z:autoParam (∀ P,pP (kF.heap_1 P) (.ref 228) name=some (some (.ref f))) am._auto_9) (ht:autoParam (∀ P,Om (kF.heap_1 P) (.ref f)=some (.type "function")) am._auto_9) (j:autoParam (∀ P,plainGet (kF.heap_1 P) 228 name=true) am._auto_9) (e:autoParam (∀ P,specialIn (kF.heap_1 P) (.ref f) "__get__"=some (some (.builtin "function.__get__"))) am._auto_9) (d:autoParam (∀ P,takesIn (kF.heap_1 P) (.ref f)=some false) am._auto_9) (B:autoParam (copiedNames.contains name=false) auF._auto_1) (c:autoParam ((x==("__classdict__":aE))=false) auF._auto_1) (a:autoParam ((x==("__debug__":aE))=false) auF._auto_1):lF w sc r ρ (.Assign [.Name y p] (.Attribute (.Name x xp) name ap) pos) (.next ((y,.tol (Ml W f))::ρ)):=by
 intro A G i l g K s k L F Q E q;refine dw (oS (dm k F hx (λu C=>?_) c a)) rfl;obtain ⟨rfl,M,n,J,Y⟩:=kc C;obtain X:=F.ss.base.K.keeps F.ss.sub;refine get_bind X (Y.inst F.ss.sub) (PK (j _)).1 (findObj_fn rfl (z _) (e _) (d _) B ?_) (PK (j _)).2 ?_;·rw [lg,Y.ok.ats.get,D]
 ·refine iX (fn_get (s:={s with toks:=s.toks+1}) X (ht _) (handed_on rfl ?_));refine e12 (F.ss.growPush (methodObj (.ref f) (.ref W.x)) (s.toks+1) rfl) λm h H=>?_;exact (F.step h).store k v (b:=.tol (Ml W f)) ⟨m,eN.refl _,_,rfl,H⟩ λt I=>q _ m t h.le ⟨rfl,I⟩
theorem KB {cenv:fg} {A:bj} {i n:aE} {L ap cp:cU} {k:aE} {ss:List aE} {f:ay} {es:List ce} {M:Nat} {ts:List (ay × List ae × Nat)} (U:zv W g₀ s₀.heap (tZ g₀) es M ts) (h:CJ w r (.ref f) [WT W,SSV k] (TT (ss.map .str))) (T:∀ P,fnIn (kF.heap_1 P) f=true) (D:cB sc cenv) (hA:Rm r A) (F:FS w st s₀ g₀ cenv g pr ρ s) (p:ρ.lookup i=some (.tol (Ml W f))) (R:ρ.lookup n=some (.d (.str k))) (h1:(i==("__classdict__":aE))=false) (h2:(i==("__debug__":aE))=false) (h3:(n==("__classdict__":aE))=false) (h4:(n==("__debug__":aE))=false): MN w A g s (eW (.Call (.Name i L) [.Name n ap] [] cp) cenv) (TT (ss.map .str)):=by
 intro Q E q;refine aa (dm D F p (λv G=>?_) h1 h2);obtain ⟨g1,t,m,rfl,S⟩:=G;refine lh (P:=MethP (kF.heap_1 w.params) m f (.ref W.x)) rfl (keeps_M (T _)) ?_;refine fA (.inr (i21 _ _ rfl)) ((rf.cons (al R h3 h4) .nil vH.d).run A cenv st s₀ g₀ g pr s cp D hA F _ _ λvs g2 K j C=>?_);refine e11 (hY C.length.symm) λu H=>?_;obtain rfl:=H;have c:=F.step j;obtain d:=c.ss.sub _ _ (j.le _ _ (t _ _ S));refine ⟨⟨d,c.ss.base.K.keeps c.ss.sub⟩,?_⟩;refine e14 (J3 c.ss (U.re c.aft.le λb G o a e=>(i03 (c.aft.keep b o e a.2) (c.aft.fresh a.1 (aH e)) a.2))) λX l Sp z J=>?_;refine iX (method_call d (h X [.ref W.x,u] (i03 z (V.mono C.1 l) trivial) A K hA Sp _ λv Z B y N=>?_));refine e12 (J Z B v ss y N) λY I O=>?_;exact q v Y B (j.trans I) O
theorem yw {d:ay} (h:331<=d):(d==CW)=false:=by
 exact beq_false_of_ne λe=>absurd (e▸h:331<=CW) (by decide)
noncomputable def sQ (k:aE):List aE:=[k,k,S0 ""]
noncomputable def vQ (k:aE):ag:=.tuple ((sQ k).map .str)
theorem Fc {cv P:ay} {qn:aE} {x self I qs n ln:aE} {p kp pp ap cp np sp qp K J a0 H:cU} {i:zn} {m:be} {d scope:bf} {a f:ay} {ks ms:List aE} {xs:List cD} (N:ρ.lookup self=some (.res (WR W))) (f5:ρ.lookup I=some (.tol (Ml W f))) (c0:ρ.lookup qs=some (.res (Ht w a ks))) (d3:ks≠[]) (hz:ks.length<=100) (a2:∀ k∈ks,∃ c,k.cps.toList=[c]) (hp:ms.Perm ks) (c7:ms.Pairwise (λx y=>oV x<=oV y)) (hnd:ms.Nodup) (a5:∀ k∈ks,Ev w d (r+1) [(ln,.d (.str k))] m (LL [.str k])) (a1:∀ pm X V v,wY (kla_fn "<lambda>" (iG P) i m d [] pm X V) ⟨[v],[]⟩=pure [(ln,v)]) (a4:d.names.lookup ln=some .local) (c4:d.names.all (λy=>y.2==.local || y.2==.globalImplicit)=true) (d6:d.isCoroutine=false) (a8:d.isGenerator=false) (c8:d.kind=.function) (T:∀ w g,(kF.heap_1 w).In g->Oo g cv P) (hT:cg P=true) (hq:qn++"<lambda>"=iG P) (c9:d.names.all (λx=>x.2 !=.free)=true) (a9:∀ j,defaultsOf i j=([],[])) (b1:∀ k∈ms,CJ w (r+3) (.ref f) [WT W,SSV k] (TT ((sQ k).map .str))) (hf:∀ P,fnIn (kF.heap_1 P) f=true) (hk:scope.kind=.function) (d2:nx scope sc=true) (b0:H9 scope sc ρ [(I,.tol (Ml W f))]) (hn:(dT scope sc).names.lookup n=some .local) (O:(n==I)=false) (hx:sc.names.lookup x=some .local) (b7:sc.names.lookup (S0 "sorted")=some .globalImplicit) (next:Ex w sc (r+3) ((x,.tol (DictV w ms (ms.map vQ)))::ρ) xs o) (hsw:∀ j,cB sc j->gO (.DictComp (.Name n kp) (.Call (.Name I pp) [.Name n ap] [] cp) [⟨.Name n np,.Call (.Name (S0 "sorted") sp) [.Name qs qp] [⟨some (S0 "key"),.Lambda i m d J,K⟩] a0,[],0⟩] scope pos) (some (.Name x p)) H.line j=pure true) (e1:(n==("__classdict__":aE))=false) (e2:(n==("__debug__":aE))=false) (e3:(I==("__classdict__":aE))=false) (e4:(I==("__debug__":aE))=false) (e5:(qs==("__classdict__":aE))=false) (e6:(qs==("__debug__":aE))=false): zz (.ref cv) qn w sc (r+3) ρ (.Assign [.Name x p] (.DictComp (.Name n kp) (.Call (.Name I pp) [.Name n ap] [] cp) [⟨.Name n np,.Call (.Name (S0 "sorted") sp) [.Name qs qp] [⟨some (S0 "key"),.Lambda i m d J,K⟩] a0,[],0⟩] scope pos) H::xs) o:=by
 intro A j G L g pr s d7 B hA F Q E q;refine bI ?_;rw [r1 _ _ _ _ (hsw j B)];refine aa (ct (aa ?_));refine e31 (F.wri N) λes n0 ts Y=>?_;refine aa (cr (tH (xs:=ms.map .str) (o0:={cls:=.type "dict",data:=.dict #[]}) (use:=some (fu (uN x p) j)) (Q:=λ_ Z=>aV (MM w) A (eZ xs j) Q E Z) rfl rfl (λ_ _ _ _ h=>eU h) (λ_ _ _ _ _ _ h0 h=>codeAny_compStart_dict h0 h) hk d2 b0 (λ_ _=>rfl) B hA F (λQ' E' k=>?hi) λit q1 g1 f2 D C M ok hD e7 hC e0 FI f6 e9 d4=>?_) (λ_ Z hq=>ah (ah hq)) λ_ _ e=>e);case hi=>
  refine aa (Ev.blt (v:=.builtin "sorted") (λ_=>rfl) rfl b7 (by decide) rfl A j true G L g pr s B hA F _ _ λv g1 s1 x1 hv=>?_);obtain rfl:=hv;have F1:=F.step x1;refine callWith_kw (gj (dm B F1 c0 (λu hb=>gM ?_) e5 e6));refine bc λnO=>?_;refine e23 hb λz0 f1 z1 z2 c1=>?_;clear hb;obtain ⟨rfl,o1,rfl,hS⟩:=z2;refine e02 (c1 _ (.head _)) λc3 t=>?_;refine nO ?_;refine kws_cons (G5 F1 B d7 T hT hq c9 (a9 j) λf4 pm X V g2 s2 x2 d1 d8=>kws_nil ?_);have S2:=(F1.step x2).ss;refine vz (r:=r+2) (ms:=ms) S2 hA (x2.keep _ _ c3 t.2.1.2) hS d3 hz a2 (λk hk g' v R hv A' Z U S' Q2 E2 q2=>?_) hp c7 λl g3 s3 x3 d0=>?_;·exact G6 (r:=r+1) (a1 pm X V) a4 c4 d6 a8 c8 (a5 k hk) (R _ _ d1) (CodeRec.up d8 R) hv A' Z U S' Q2 E2 q2
  ·have z:=(x1.trans x2).trans x3;refine MP.list A g3 (.ref l) s3 hA (S2.step x3) d0 _ _ λit g4 q4 s4 x4 l4 h1 h2 h3=>?_;exact k it g4 q4 s4 (z.trans x4) l4 (λa ha=>ab z.size (h1 a ha)) (λa ha=>ab z.toStp.gsize (h2 a ha)) h3
 refine Ck (r:=r+3) (val:=vQ) ok hn (by rw [aK,O];rfl) hnd (by rw [hp.length_eq];exact ab (by assumption) (by decide)) e1 e2 (λk hk A' g' f3 Z U F'=>?_) hA d4 FI e9 (i13 ([]) (i25 (#[]) 0 (i03 rfl rfl rfl) rfl (λ_ B=>by simp at B) MW jm) rfl (VA.nil _)) λg2 s2 o2 R F2 b2=>?_
 ·refine KB (Y.re (eN.refl _) λb _ o t e=>(i03 e t.1 t.2.1.2)) (b1 k hk) hf ok U F' ?_ ?_ e3 e4 e1 e2;·rw [aK,show (I==n)=false from by simp at O ⊢;exact λh=>O h.symm,aK,beq_self_eq_true]
  ·rw [aK,beq_self_eq_true]
 ·obtain S:=F.ss;refine bc λnO=>?_;refine e04 (F2.prot.objs (D,o2) (.head _)) λp1 p2 p3 z3=>?_;refine e14 (iB.freeze S F2.aft p1 hD) λg3 y3 a7 d9 a3=>?_;obtain ⟨m2,c6,_⟩:=F2.vars;refine nO ?_;clear nO;subst hC;have c5:=a3 _ (db e7) F2.notL;refine bc λnO=>?_;refine e33 (id c6) λoC e8 n' c2 d5 b9=>?_;refine e02 (F.add (q:=⟨[(M.locals,oC)],[]⟩) y3 ⟨λp hp=>(m1 hp ⟨c2,c5⟩),λ_ h=>(nm h)⟩ (λa ha=>by simp [addrs] at ha;exact ha▸e0) (λ_ h=>(nm h))) λFC f0=>?_;refine e13 b2 λb6 k1 k2 k3=>?_;clear b2;refine nO ?_;refine aa (ct (lG (FC.store B (.inl hx) (b:=.tol (DictV w ms (ms.map vQ))) ⟨g3,eN.refl _,D,b6,rfl,?_,jW.mpr (i12 o2 d9 k1),k2,k3.mono a7⟩ λs3 F3=>?_)));·exact yw (ab S.big hD)
  ·refine e04 (F3.prot.objs (M.locals,oC) (.head _)) λb5 b4 b3 z4=>?_;refine i12 m2 (i33 oC e8 n' b5 d5 b9) (λh' b8=>?_);exact next A j G L g3 pr _ B hA ((F3.iter (q':={}) (s':={s3 with heap:=h'}) f0 (nU.one F3.ss b4 b3.2 b8) ⟨λ_ h=>(nm h),λ_ h=>(nm h)⟩ ⟨λ_ h=>(nm h),λ_ h=>(nm h)⟩).1) Q E λfl g7 s7 a6=>q fl g7 s7 (y3.le.trans a6)
end
theorem AN {g:aA} {vs:List ae}:∀ {ds:List ag},vs.length=ds.length->(∀ (i:Nat) v d,vs[i]?=some v->ds[i]?=some d->V g v d)->VA g vs ds:=by
 induction vs with
 | nil=>exact λ{ds}=>ds.rec (λ_ _=>trivial) λ_ _ _ h=>(by cases h)
 | cons v vs b=>exact λ{ds}=>ds.rec (λh=>(by cases h)) λd ds _ h k=>⟨k 0 v d rfl rfl,b (lU h) λi=>k (i+1)⟩
noncomputable def pz (ls:List aE) (ds:List ag):List ag:=List.zipWith (λk d=>.tuple [.str k,d]) ls ds
section
variable {w:ar} {A:bj} {E:ae->af->Prop} {s:af} {g:aA} {kvs:List (aE × ae)} {ds:List ag}
theorem vg {h':aA} {tk:Nat} {lo:ay} {as:List ay} (S:SS w g s) (J:eN s.heap h') (hz:s.heap.objs.size<=h'.objs.size) (G:KdxG (aZ PR w) kvs lo h' as) (q:s.heap.objs.size<=lo) (L:as.length=kvs.length) (l:VA g (kvs.map (·.2)) ds) (p:ay->Bool) (hp:∀ b,p b=true->s.heap.objs.size<=b): ∃ m,iB s g {s with heap:=h',toks:=tk} m/\VA m (as.map .ref) (pz (kvs.map (·.1)) ds)/\∀ b o,p b=true->h'.get? b=some o->m.get? b=some o:=by
 obtain ⟨m,x,F⟩:=S.grow (Stp.heap (t:=tk) J hz) (λb=>as.contains b || p b) (λb z=>by
  rcases gS.mp z with h | h;·exact ab q (aF (G.above b (by simpa using h)))
  ·exact hp b h)
 have c:=l.length;rw [ak] at c;refine i13 m x (AN (by rw [ak,pz,List.length_zipWith,ak];lia) λi v d f r=>?_) (λb o z e=>F b o (by simp [z]) e);rw [av] at f;cases n:as[i]? with
 | none=>replace f:=n▸f;cases f
 | some a=>
  replace f:=n▸f;cases f;refine e33 (G.pairs i a n) λj k y B H K=>?_;have D:=(gE B).1;refine e12 (l.get (d:=ds[i]'(kl D c)) i (an _)) λu C I=>?_;rw [av,B] at C;cases C;obtain rfl:d=.tuple [.str k,ds[i]'(by lia)]:=by
   delta pz at r;rw [List.getElem?_zipWith,av,B,an (show i<ds.length by exact kl D c)] at r;exact (gR r).symm
  obtain ⟨t,rfl⟩:∃ t,j=.str k t:=by
   cases j <;>simp [aZ,zk] at H;exact ⟨_,by rw [H]⟩
  exact V.tuple ⟨_,F a _ (by simp [aQ n]) K,rfl,0,rfl⟩ (VA.cons (V.str _ _) (VA.cons (I.mono x.le) (VA.nil _)))
theorem wD {e d:ay} (S:SS w g s) (p:A.handled=none) (m:s.heap.IsItemsView e d) (r:g.DictOf (aZ PR w) d kvs) (y:kvs.length<=1000) (a:VA g (kvs.map (·.2)) ds) (Q:List ae->af->Prop) (q:∀ f j k,iB s g j k->VA k f (pz (kvs.map (·.1)) ds)->Q f j):aV (MM w) A (Ph (.ref e)) Q E s:=by
 refine e11 ((r.keep S.sub).dictAt) λB c=>?_;refine cC (kdx_collect p m c (by exact ab (by assumption) (by decide)) λz i C o n t l=>?_);refine e13 (vg (tk:=i) S o l t (aq _) n a (λ_=>false) (λ_ h=>(by exact AH h))) λu x b v=>?_;exact q _ _ u x b
theorem B3 {i d:ay} {Q:ae->af->Prop} (S:SS w g s) (t:A.handled=none) (n:s.heap.IsItemsView i d) (u:g.DictOf (aZ PR w) d kvs) (G:kvs.length<=1000) (e:VA g (kvs.map (·.2)) ds) (q:∀ v k l,iB s g k l->V l v (.list (pz (kvs.map (·.1)) ds))->Q v k):aV (MM w) A (call (.type "list") [.ref i]) Q E s:=by
 refine e11 ((u.keep S.sub).dictAt) λI h=>?_;refine cC (kdx_call t n h (by exact ab (by assumption) (by decide)) λH j F c D r z p B a m=>?_);refine e13 (vg (tk:=j) S r m B (aq _) p e (λb=>b==s.heap.objs.size) (λb y=>aj (bE y).symm)) λC x f o=>?_;exact q _ _ C x (jA (vs:=D.map .ref) (by rw [<- a];exact o _ _ (by simp) z) f)
end
theorem ko.one {g:aA} {P:ci} {vs:List ae} (h:ko g [P] vs):∃ v,vs=[v]/\P g v:=by
 cases vs with
 | nil=>exact xb h
 | cons v l=>
  cases l with
  | nil=>exact i12 v rfl h.1
  | cons u l=>exact xb h.2
theorem ko.two {g:aA} {P Q:ci} {vs:List ae} (h:ko g [P,Q] vs):∃ v u,vs=[v,u]/\P g v/\Q g u:=by
 cases vs with
 | nil=>exact xb h
 | cons v l=>refine e12 (ko.one h.2) λu a b=>?_;obtain rfl:=a;exact i23 v u rfl h.1 b
section
variable {w:ar} {sc:bf} {r:Nat} {ρ ρ':dh} {pos:cU} {P:ci} {ls:List aE} {ds:List ag}
theorem DictV.mono:vH (DictV w ls ds):=λg h v k z=>by refine e25 z λd a e i f c b=>?_;clear z;exact i25 d a e i (f.keep k) c (b.mono k)
theorem DictV.at {g:aA} {d:ay} {a:List (aE × ae)} {k:aE} {x:ag} {i:Nat} (h:g.DictOf (aZ PR w) d a) (h4:VA g (a.map (·.2)) c) (b:(a.map (·.1))[i]?=some k) (f:c[i]?=some x):∃ v,Pc a k=some v/\V g v x:=by
 revert w c g d a k x i;intros w c g d a k x i;intro h h4 b f;obtain ⟨v,e,j⟩:=h4.get i f;rw [av] at e b;cases q:a[i]? with
 | none=>replace e:=q▸e;cases e
 | some p=>rw [q] at e b;cases e;cases b;refine e36 h λz y u t s o n m l=>?_;clear h;exact i12 _ (valueAt_of_get l q) j
theorem oA {x:aE} {T:aA->ae->Prop} (hx:ρ.lookup x=some (.tol T)) (i:vH T) (b:autoParam ((x==("__classdict__":aE))=false) auF._auto_1) (a:autoParam ((x==("__debug__":aE))=false) auF._auto_1):Ev w sc r ρ (.Name x pos) T:=by
 intro A l m d h g n s j o F Q E q;refine dm j F hx (λv e=>?_) b a;refine e12 e λf c k=>?_;clear e;exact q v g s (iB.refl F.ss.sub) (i _ _ _ c k)
theorem Eg {value gg:be} {k:aE} {d:ag} {i:Nat} (J:Ev w sc r ρ value (DictV w ls ds)) (hi:Ev w sc r ρ gg (SSV k)) (L:ls[i]?=some k) (M:ds[i]?=some d) (hs:autoParam (∀ o i,nh gg false o i=wT [o,i] (tP o i)) am._auto_9):Ev w sc r ρ (.Subscript value gg pos) (DV d):=by
 intro A f l b c g m s p x F Q E q;refine oR (J A f l b c g m s p x F _ _ λv R H j G=>?_);refine hi A f l b c R m H p x (F.step j) _ _ λT O S h D=>?_;refine e25 (DictV.mono _ _ _ h.le G) λa I C U y B N=>?_;obtain rfl:=C;obtain rfl:=B;obtain ⟨t,rfl⟩:=D.str_inv;refine e12 (DictV.at y N L M) λu e K=>?_;obtain z:=((F.step j).step h).ss;obtain n:=(y.keep z.sub).mapOf;exact tm n.typeIs PySem.F.slot_dict_getitem.lookup (wpAny_getItem_of (ii PR w k t) n e (q u O _ ((j.trans h).trans (z.tok _)) K)) (hs (.ref a) (.str k t))
theorem HR {k:aE} (l:k∉ls):iu w r (.builtin "dict.get") [DictV w ls ds,SSV k] (DV .none):=by
 intro g o f A s x S Q E q;obtain ⟨v,u,rfl,⟨d,a,rfl,n,m,rfl,y⟩,h⟩:=f.two
 ·refine e11 (V.str_inv h) λt c=>?_;obtain rfl:=c;obtain b:=(m.keep S.sub).mapOf;obtain j:Pc a k=none:=by
   delta Pc;rw [List.find?_eq_none.mpr λp i=>by simpa using λe:p.1=k=>l (e▸aX i)];rfl
  refine Pk F.slot_dict_get b.typeIs F.entry_dict_get (F.args_dict_get_2 _ _) (meets_dict_get (aZ PR w) d (ii PR w k t) n) (i12 _ b ?_);rw [j];exact q .none g _ (S.tok _) .none
noncomputable def y8 (w:ar) (ls:List aE) (ds:List ag):ci:=λg v=>∃ vw d kvs,v=.ref vw/\(∃ o,g.get? vw=some o/\o.cls=.type "dict_items"/\o.data=.fields #[.ref d])/\g.DictOf (aZ PR w) d kvs/\kvs.map (·.1)=ls/\VA g (kvs.map (·.2)) ds
theorem y8.mono:vH (y8 w ls ds):=λg h v k z=>by refine e35 z λc d a e b j i f=>?_;clear z;refine e12 b λo m l=>?_;clear b;exact i35 c d a e (i12 o (k _ _ m) l) (j.keep k) i (f.mono k)
theorem wM (e:ls.length<=1000):iu w r (.type "list") [y8 w ls ds] (LL (pz ls ds)):=by
 intro g p i A s l S Q E q;obtain ⟨v,rfl,n,d,h,rfl,⟨o,j,c,b⟩,k,rfl,a⟩:=i.one;rw [ak] at e;exact B3 S l.handled (i13 o (S.sub _ _ j) c b) k e a λv f m=>q v m f
theorem iu.items:iu w r (.builtin "dict.items") [DictV w ls ds] (y8 w ls ds):=by
 intro g j c A s k S Q E q;obtain ⟨v,rfl,d,a,rfl,h,b,rfl,f⟩:=c.one
 ·refine Pk F.slot_dict_items (b.keep S.sub).typeIs F.entry_dict_items (F.args_dict_items_1 _) (meets_dict_items (aZ PR w) d h) ⟨⟨a,b.keep S.sub⟩,?_⟩;refine e12 (S.growPush ({cls:=.type "dict_items",data:=.fields #[.ref d]}:ff) s.toks rfl) λi x e=>?_;exact q _ i _ x (i35 _ d a rfl (i13 _ e rfl rfl) (b.keep x.le) rfl (f.mono x.le))
end
section
variable {w:ar} {sc:bf} {r:Nat} {ρ:dh} {pos:cU} {P:ci} {ls:List aE} {ds:List ag}
theorem vT {o:be} {name:aE} {id:String} {apos:cU} {args:List be} {Ps:List ci} (ho:Ev w sc r ρ o (DictV w ls ds)) (u:rf w sc r ρ args Ps) (b:Oq "dict" name id) (f:v9 (.builtin id)=pure (.type "method_descriptor")) (c:iu w r (.builtin id) (DictV w ls ds::Ps) P) (hb:autoParam (∀ j m,fZ o name j m=m) am._auto_9) (t:autoParam ((apos.endLine==pos.line)=true) auT._auto_1) (q:autoParam (args.length<30) n7._auto_19):Ev w sc r ρ (.Call (.Attribute o name apos) args [] pos) P:=
 AZ ho DictV.mono u (λg v k s p=>by
  refine e24 k λd n l A x z=>?_;clear k;obtain rfl:=l;have i:=x.keep p;refine ⟨i.typeIs,λa e=>?_⟩;cases e;refine e33 i λo B C ho h y=>?_;clear i;exact i12 o ho h.2.1) PySem.F.plainAttrs_dict b f c hb t q
end
noncomputable def xH (g:aA):ae->ae
 | .ref a=>match g.get? a with
  | some o=>match o.data with
   | .seq xs _=>xs.getD 0 .none
   | _=>.none
  | none=>.none
 | _=>.none
section
variable {w:ar} {r:Nat} {k1 k2 y1 y2:aE} {c1 c2:Nat}
theorem Gg {g:aA} {v:ae} {k y:aE} (h:V g v (.tuple [.str k,.str y])):∃ a o n t u,v=.ref a/\g.get? a=some o/\o.cls=.type "tuple"/\o.data=.seq #[.str k t,.str y u] n:=by
 revert g v k y;intros g v k y;intro h;refine bc λf=>?_;obtain ⟨a,m,rfl,⟨o,i,l,n,j⟩,b⟩:=h.tuple_inv;refine e21 (jz b.length) λx z e=>?_;obtain rfl:=e;refine e11 b.uncons.1.str_inv λt d=>?_;obtain rfl:=d;refine e11 b.uncons.2.uncons.1.str_inv λu c=>?_;obtain rfl:=c;refine f ?_;exact i54 a o n t u rfl i l j
theorem p8 {g:aA} {v:ae} {k y:aE} (h:V g v (.tuple [.str k,.str y])):∃ t,xH g v=.str k t:=by
 refine e54 (Gg h) λa o n t u b c e d=>?_;obtain rfl:=b;exact ⟨t,by delta xH;dsimp only;rw [c];dsimp only;rw [d];rfl⟩
theorem pX {k:aE} {c:Nat} {t:C9} (h:k.cps.toList=[c]):iQ (.str k t)=c:=by
 refine (?_:((k.cps.toList.headD 0:Nat):Int)=c);rw [h];rfl
theorem EI {A:bj} {E:ae->af->Prop} {s:af} {g:aA} {a₀:Array aC} (val:Nat->aE) (hs:eN g s.heap) (h:∀ p∈a₀.toList,∃ k c,k.cps.toList=[c]/\V g p.1 (.tuple [.str k,.str (val c)])):kq (MM w) A E s (LH true) (λp=>iQ (xH g p.1)) a₀:=by
 intro p q J I Q st L v;refine bc λG=>?_;refine e22 (h p J) λk c m C=>?_;refine e22 (h q I) λk' c' f i=>?_;refine e11 (p8 C) λX O=>?_;refine e11 (p8 i) λD N=>?_;refine e54 (Gg C) λa o n t u S K U M=>?_;refine e54 (Gg i) λa' Z n' Y W R x T y=>?_;refine G ?_;rw [OA];refine aG (kE ?_);rw [L];replace v:Q (some (decide (iQ (xH g p.1)<iQ (xH g q.1)))) st:=v;rw [O,N,pX m,pX f] at v;rw [S,R];obtain l:∀ b,b=decide ((c:Int)<c')->Q (some b) st:=λb e=>by rw [e];exact v
 refine aG (nj (eQ (kat_lt (Q:=λb F=>F=s/\_) (hs _ _ K) M (hs _ _ x) y ?_)));refine JE (zi ?_);refine kat_go (λe=>LC ?_) λe=>?_
 ·obtain H:=of_decide_eq_true e;obtain j:c=c':=by rw [H,f] at m;injection m with h _;exact h.symm
  refine JE (zi ?_);rw [j,decide_eq_true rfl];exact LC (kat_nil ⟨rfl,aY (l _ (by rw [j];simp))⟩)
 ·refine kat_no (oneLt_str ⟨rfl,aY (l _ ?_)⟩);rw [m,f];by_cases d:c<c';·rw [decide_eq_true (by rw [dW];exact .inl d),decide_eq_true (cY.mpr d)]
  ·rewrite [decide_eq_false (by rewrite [dW];exact λh=>h.elim d λh=>JU _ h.2),decide_eq_false (pU.2 (dM.2 (fa1 (ba d))))];rfl
theorem uf (h1:k1.cps.toList=[c1]) (h2:k2.cps.toList=[c2]) (hc:c2<c1):iu w (r+1) (.builtin "sorted") [y8 w [k1,k2] [.str y1,.str y2]] (LL [.tuple [.str k2,.str y2],.tuple [.str k1,.str y1]]):=by
 revert w r k1 k2 y1 y2 c1 c2;intros w r k1 k2 y1 y2 c1 c2;intro h1 h2 hc;intro g vs k A s hA S Q E q;obtain ⟨v,rfl,vw,d,kvs,rfl,⟨o,ho,hcl,hdt⟩,hd,m,hva⟩:=k.one;refine e21 (jz (show kvs.length=2 from by have:=congrArg lW m;rwa [ak] at this)) λz0 z3 z4=>?_;obtain ⟨a,v1⟩:=z0;obtain ⟨b,v2⟩:=z3;obtain rfl:=z4;injection m with e1 e2;injection e2 with e2 _;dsimp only at e1 e2;subst e1 e2;refine xl (key:=λg v=>iQ (xH g v)) S (ds:=[.tuple [.str a,.str y1],.tuple [.str b,.str y2]]) (show 2<=1000 by decide) (λQ' k'=>wD (A:=A.in1) S hA.handled (i13 o (S.sub _ _ ho) hcl hdt) hd (show 2<=1000 by decide) hva Q' k') (λg1 us e A' E' h2'=>⟨LH true,λs' f=>?_⟩) λg1 g' s' l us es x h e hpw hl=>?_
 ·have hl:=e.length;refine e21 (jz hl) λu1 u2 z5=>?_;obtain rfl:=z5;have t1:=e.uncons.1;have t2:=e.uncons.2.uncons.1;refine ⟨λQ2 hQ2=>?_,EI (λc=>if c=c1 then y1 else y2) f λp h=>?_⟩
  ·refine e54 (Gg t1) λa1 o1 n1 tt1 uu1 z6 ho1 hc1 hd1=>?_;obtain rfl:=z6;refine e54 (Gg t2) λa2 o2 n2 tt2 uu2 z7 ho2 hc2 hd2=>?_;obtain rfl:=z7;refine kat_kind (T:=.type "str") (JH (f _ _ ho1) hc1 hd1 rfl (JH (f _ _ ho2) hc2 hd2 rfl KatTups.nil)) (show 0<2 by decide) (λv k=>?_) rfl hQ2;rcases mC k with rfl | k;·exact iH rfl
   ·obtain rfl:=mS k;exact iH rfl
  ·rw [tq] at h;rcases mC h with rfl | h;·exact i22 a c1 h1 (by rw [if_pos rfl];exact t1)
   ·obtain rfl:=mS h;exact i22 b c2 h2 (by rw [if_neg (bg hc)];exact t2)
 ·rcases ksk_perm2 h with rfl | rfl
  ·exfalso;refine e21 (jz e.length) λu1 u2 z8=>?_;obtain rfl:=z8;refine e11 (p8 e.uncons.1) λz1 q1=>?_;refine e11 (p8 e.uncons.2.uncons.1) λz2 q2=>?_;obtain this:=(sd.mp hpw).1 u2 (.head _);rw [q1,q2,pX h1,pX h2] at this;lia
  ·exact q _ g' s' x hl
end
section
variable {w:ar} {sc:bf} {r:Nat} {ρ ρ':dh} {pos:cU} {P:ci} {o:m6}
theorem HL {x y:aE}:kr w r .In (.str y) (.str x) (C8 x y):=by
 intro g a b d c A s e S Q E q;obtain ⟨t,rfl⟩:=d.str_inv;obtain ⟨u,rfl⟩:=c.str_inv;exact PySem.P.in_str (q _ g _ (iB.refl S.sub) (.bool _))
theorem CA {body orelse:List cD} {h:FB} {hs:List FB} (k:Ex w sc r ρ body (.ret P)):lF w sc r ρ (.Try body (h::hs) orelse [] pos) (.ret P):=λA d a b g j s l m F Q E q=>
 Mo (k A d a b g j s l m F _ _ λp n i c e=>by
  refine e12 e λv f y=>?_;clear e;obtain rfl:=f;exact q _ n i c (i12 v rfl y))
end
noncomputable def uA (v:aE):Prop:=∀ c∈["&","<","\"","\t","\n","\r"],C8 v (S0 c)=false
theorem Hg (w:ar) {v:aE} (hv:uA v):iu w 1 (.ref 246) [SSV v] (SSV v):=by
 refine' ea (xs:=[S0 "text"]) rfl rfl rfl rfl rfl rfl ?hbind ?hp (by decide) (by decide) (by decide) rfl rfl rfl ?h;case hbind=>intro vs hv;refine e11 (hY hv) λa z0=>?_;obtain rfl:=z0;rfl
 case hp=>exact .cons tN.d .nil
 case h=>obtain no:∀ {sc:bf} {c:String} {p1 p2 p3 p4:cU} {k:Nat} {b:List cD},c∈["&","<","\"","\t","\n","\r"]->lF w sc 0 [(S0 "text",.d (.str v))] (.If (.Compare (.Constant (.str (S0 c)) k p1) [.In] [.Name (S0 "text") p2] p3) b [] p4) (.next [(S0 "text",.d (.str v))]):=λ{_ c _ _ _ _ _ _} hc=>cf ((bQ .str (al rfl) HL).eq (hv c hc)) Ex.nil;exact Ex.ret (CA (Ex.cons (no (by decide)) (Ex.cons (no (by decide)) (Ex.cons (no (by decide)) (Ex.cons (no (by decide)) (Ex.cons (no (by decide)) (Ex.cons (no (by decide)) (Ex.ret (lF.ret (al rfl))))))))))
noncomputable def Kg (objs:List (ay × ff)) (w:ar) (sc:bf) (r:Nat) (ρ:dh) (xs:List cD) (o:m6):Prop:=
 ∀ A env s₀ g₀ g pr s,cB sc env->Rm r A->FS w true s₀ g₀ env g (dg ⟨objs,[]⟩ pr) ρ s->eg ⟨objs,[]⟩ pr->∀ (Q:ui->af->Prop) (E:ae->af->Prop),(∀ fl g' s',eN g g'->AR w true s₀ g₀ env pr fl g' s' o->Q fl s')->aV (MM w) A (eZ xs env) Q E s
theorem nD {x y:aE} (e:y≠x):∀ {a:dh},cA x a=true->(a.filter λp=>!pC p.2).lookup y=a.lookup y
 | [],_=>rfl
 | (n,b)::r,h=>by
  delta cA at h;rw [r6,bN] at h;obtain d:=nD e h.2;by_cases c:pC b=true
  ·obtain f:n=x:=by have:=h.1;simp [c] at this;exact this
   rw [km (by simp [c]),d,aK,show (y==n)=false from beq_false_of_ne (f▸e)]
  ·rw [em (by simp [c]),aK,aK,d]
section
variable {w:ar} {sc:bf} {r:Nat} {ρ ρ':dh} {pos:cU} {o:m6} {x:aE} {xs:List cD} {objs:List (ay × ff)} {R:aA->ae->List (ay × ff)->Prop}
theorem Jq (hx:ρ.lookup x=some (.res R)) (ho:cA x ρ=true) (k:∀ a,Kg a w sc r ((x,.tol λg v=>R g v a)::ρ.filter λp=>!pC p.2) xs o):Ex w sc r ρ xs o:=by
 intro A B f l g pr s M O F Q E q;refine bc λH=>?_;obtain ⟨m,J,D⟩:=F.vars;obtain ⟨v,L,j,a,n,N,i⟩:=D x _ hx;refine H ?_;obtain U:eg ⟨a,[]⟩ pr:=⟨(λp d K=>by
  refine e12 (mM K) λq I e=>?_;exact (i q I).2.2.2.2.2 p d e.symm),λp _ h=>nm h⟩
 refine k a A B f l g pr s M O ⟨F.ss₀,F.aft,F.newL,F.notL,(i12 m J (λy b c=>?_)),F.cells,F.apart,⟨λp d=>?_,F.prot.gens⟩,F.newC⟩ U Q E q
 ·rw [aK] at c;by_cases e:y=x
  ·subst e;replace c:=(beq_self_eq_true y)▸c;refine iM c λG=>?_;clear c;subst G;exact ⟨v,L,j,n,N⟩
  ·replace c:=(show (y==x)=false from beq_false_of_ne e)▸c;dsimp only at c;replace c:=(nD e ho)▸c;refine e12 (D y b c) λu z t=>?_;exact i12 u z (t.free (iS ho c e) (eN.refl _))
 ·rcases mA d with d | d
  ·refine e06 (i p d) λz t T S P V=>?_;exact i05 z t T (db (db S)) P
  ·exact F.prot.objs p d
theorem Cx (hx:ρ.lookup x=some (.tol λg v=>R g v objs)) (ho:cA x ρ=true) (k:Ex w sc r ((x,.res R)::ρ) xs o):Kg objs w sc r ρ xs o:=by
 intro A l c f g B s H J F N Q E q;obtain ⟨m,D,n⟩:=F.vars;refine k A l c f g B s H J ⟨F.ss₀,F.aft,F.newL,F.notL,(i12 m D (λy b a=>?_)),F.cells,F.apart,F.drop.prot,F.newC⟩ Q E q;rw [aK] at a;by_cases e:y=x
 ·subst e;replace a:=(beq_self_eq_true y)▸a;refine iM a λz=>?_;clear a;subst z;obtain ⟨v,G,d,h,I⟩:=n y _ hx;refine ⟨v,G,d,objs,h,I,λp t=>?_⟩;refine e05 (F.prot.objs p (bG _ t)) λj i M L K=>?_;exact i06 j i M L K (λq C e=>N.objs q C (J9 (i12 p t e.symm)))
 ·replace a:=(show (y==x)=false from beq_false_of_ne e)▸a;refine e12 (n y b a) λu j i=>?_;exact i12 u j (i.free (iS ho a e) (eN.refl _))
theorem Kg.cons {y:cD} (h:lF w sc r ρ y (.next ρ')) (k:Kg objs w sc r ρ' xs o):Kg objs w sc r ρ (y::xs) o:=by
 intro A d a b g t s i j F z Q E q;refine bI (h A d a b g _ s i j F _ _ λl v p e f=>?_);refine e02 f λm B=>?_;clear f;obtain rfl:=m;exact k A d a b v t p i j B z Q E λl u n c=>q l u n (e.trans c)
theorem Kg.freeze {a:ay} {ds:List ag} (hx:ρ.lookup x=some (.own a ds)) (ho:cA x ρ=true) (k:Kg objs w sc r ((x,.d (.list ds))::ρ.filter λp=>!pC p.2) xs o):Kg objs w sc r ρ xs o:=by
 intro A j c h g m s n t F B Q E q;refine e12 (F.freeze hx ho) λv i C=>?_;refine k A j c h v m s n t (C.weaken λy b d=>?_) B Q E λz u l f=>q z u l (i.trans f);rw [aK] at d ⊢;by_cases e:y=x;·subst e;rw [beq_self_eq_true y] at d ⊢;exact d
 ·rw [show (y==x)=false from beq_false_of_ne e] at d ⊢;rwa [nD e ho] at d
theorem Fb {t:be} {a:List cD} {p lp ap:cU} (h:Tr w sc r ρ t false) (hx:sc.names.lookup x=some .local) (k:∀ a,Kg objs w sc r ((x,.own a [])::ρ) xs o):Kg objs w sc r ρ (.If t a [.Assign [.Name x p] (.List [] lp) ap] pos::xs) o:=by
 intro A j d f g L s l y F ap Q E q;refine bI (N4 (h A j true d f g _ s l y F _ _ λT K C=>?_));have H:=F.step C;refine bI (dw (mV (rf.nil.run A j true d f T _ K _ l y H _ _ λD S m B G=>⟨?_,?_⟩)) rfl);·obtain this:=ko.length G;rw [<- this];exact aM _
 ·obtain i:=H.step B;refine (i.step (i.ss.same (Stp.push m ({cls:=.type "list",data:=.seq D.toArray}:ff) m.toks))).store l (.inl hx) (b:=.own m.heap.objs.size []) (i04 rfl (i22 D 0 (az _ rfl) (ko.va G)) (i05 (i.ss.none (aq _)) (Jj.of F.ss₀.big i.aft.size) (ed i.ltL) (λn c N e=>?_) (λp M e=>?_)) (λ_=>i.aft.size)) λJ V=>?_
  ·refine e02 (i.cells n c N) λz W=>?_;refine e11 z λv O=>?_;clear z;exact bg O.lt e
  ·exact bg (aH (i.prot.objs p M).1) e
  ·refine nF ?_;exact k _ A j d f S L J l y V ap Q E λU P I u=>q U P I ((C.trans B).le.trans u)
theorem AO.dict {ls:List aE} {ds:List ag} {e:be} (h:Ev w sc r ρ e (DictV w ls ds)) (hz:ls.length<=1000) (t:autoParam (∀ b a,te e b a=(do let v <- a;gQ e.pos;wV [v] (N6 v))) am._auto_9):Tr w sc r ρ e (!ls.isEmpty):=by
 intro A b n f i g p s u y F Q E q;rw [t b];refine aa (h A b n f i g p s u y F _ _ λv C G j k=>aa (ct (bw ?_)));refine e25 k λd c m B z l D=>?_;clear k;obtain rfl:=m;obtain rfl:=l;rw [ak] at hz;refine wpAny_truthy_dict B (z.keep (F.step j).ss.sub) (by lia) ?_;rw [(show (!(c.map (·.1)).isEmpty)=!c.isEmpty from by cases c <;>rfl)] at q;exact q C _ (j.trans ((F.step j).ss.tok _))
end
noncomputable def B1:Option (aE × aE)->List aE
 | none=>[]
 | some _=>[S0 "s",S0 "f"]
noncomputable def Hl:Option (aE × aE)->List ag
 | none=>[]
 | some (x,y)=>[.str x,.str y]
noncomputable def GR:Option (aE × aE)->List aE
 | none=>[S0 "n"]
 | some _=>[S0 "f",S0 "n",S0 "s"]
noncomputable def Ke:Option (aE × aE)->List ag
 | none=>[]
 | some (x,y)=>[.tuple [.str (S0 "f"),.str y],.tuple [.str (S0 "s"),.str x]]
noncomputable def E1 (k v:aE):aE:=[S0 " ",k,S0 "=\"",v,S0 "\""].foldl (· ++·) gq
noncomputable def BU:Option (aE × aE)->List ag
 | none=>[]
 | some (x,y)=>[.str (iL (S0 "") [E1 (S0 "f") y,E1 (S0 "s") x])]
noncomputable def sv (W:Wr) (at':Option (aE × aE)) (ss:List ag) (last:ag):Wr:=
 ((((W.upd 2 (W.ss++[last])).upd 3 (W.ps++[.str (S0 "<n")]++BU at'++[.str (S0 ">")])).put (S0 "_root_seen") (.bool true)).upd 1 (W.ns++[.list []]))
noncomputable def MD:Option (aE × aE)->Prop
 | none=>True
 | some (x,y)=>uA x/\uA y/\x.length<=1000/\y.length<=1000
theorem D4 (q v:aE):(E1 q v).length=q.length+v.length+4:=by
 show (((((gq++S0 " ")++q)++S0 "=\"")++v)++S0 "\"").length=_;rw [bL,bL,bL,bL,bL,show gq.length=0 from rfl,show (S0 " ").length=1 from rfl,show (S0 "=\"").length=2 from rfl,show (S0 "\"").length=1 from rfl];exact bB (fa0) (fa0)
open PySem.Builtin.Str in
theorem CK {w:ar} {r:Nat} {x y:aE} {k:Int} (n:(decide (k< -(2 ^ 63:Int)) || decide (k>=2 ^ 63))=false) (h1:(decide (x.length<y.length) || decide (qG x<qG y))=false) (m:(y.length==0)=false) (o:(occurrences x y 0 x.length (limitOf x k)).isEmpty=true):iu w r (.builtin "str.split") [SSV x,SSV y,II k] (LL [.str x]):=by
 intro g B c A s C S Q E q;refine e31 (yM c.length.symm) λv u z h=>?_;obtain rfl:=h;refine e11 (V.str_inv c.1) λt f=>?_;obtain rfl:=f;refine e11 (V.str_inv c.2.1) λj e=>?_;obtain rfl:=e;refine e11 (V.int_inv c.2.2.1) λi d=>?_;obtain rfl:=d;refine e12 (S.newStrs (l:=[(x,t)]) (k:=s.toks) rfl) λp a b=>?_;exact oM eC (kN _ _ _) jT (PySem.F.args_str_split_3 _ _ _) (meets_str_split_max_not_found x y k t j i n h1 m o) (q _ p _ a b)
theorem CJ.le {w:ar} {r r':Nat} {f:ae} {ps:List ci} {P:ci} (h:CJ w r f ps P) (hr:r<=r'):CJ w r' f ps P:=λg a b A s c=>h g a b A s (c.le hr)
set_option maxHeartbeats 4000000 in
theorem Es (w:ar) {W:Wr} (G:lj W) {k:Nat} (m:k<=900) (C:W.ds=l5 (k+1)) {at':Option (aE × aE)} (r:MD at') {ss:List ag} {last:ag} (u:W.ss=ss++[last]) (O:W.ns.length<=900) (hs:ss.length<=900) (hp:W.ps.length<900):
  vY w 7 (.ref 204) W [SSV (S0 "n"),DictV w (B1 at') (Hl at'),LL []] (DV .none) (sv W at' ss last):=by
 revert G m C r u O hs hp
 revert w W k at' ss last
 intros w W k at' ss last;intro G m C r u O hs hp
 refine' qd (x0:=S0 "self") (xs:=[S0 "tag",S0 "attrs",S0 "new_namespaces",S0 "qname_text"]) (bs:=[.d (.str (S0 "n")),.tol (DictV w (B1 at') (Hl at')),.d (.list []),.d .none]) (ρ':=[(S0 "self",.res (WR (sv W at' ss last)))]) [.none] ?ho ?hcd ?h1 ?h2 ?h3 ?h4 ?hbind ?hp ?hnd ?hkind ?h8 ?h5 ?h6 ?h7 (.inr ⟨?h,λ_=>V.none⟩) ?hw ?hsame
 case ho=>exact rfl
 case hcd=>exact rfl
 case h1=>exact rfl
 case h2=>exact rfl
 case h3=>exact rfl
 case h4=>exact rfl
 case hnd=>decide
 case hkind=>decide
 case h8=>decide
 case h5=>exact rfl
 case h6=>exact rfl
 case h7=>exact rfl
 case hw=>exact rfl
 case hsame=>exact (((((nS.refl W).upd 2 _).upd 3 _).put _ _).upd 1 _)
 case hbind=>
  intro vs s X hv;have K:vs.length=4:=by simpa using hv
  refine e41 (KL K) λa b c d z0=>?_;obtain rfl:=z0;exact C5 X λ_=>rfl
 case hp=>exact .cons tN.d (.cons tN.tol (.cons tN.d (.cons (λ_ _ _ _ _ _ h=>h▸V.none) .nil)))
 case h=>
  refine zz.cons (cf (kd (li (bQ (ya (iU rfl G.xa) λ_=>V.none) .nil fc))) Ex.nil) ?_;refine vM (k:=S0 "n") (ls:=B1 at') (ds:=Hl at') rfl (oA rfl DictV.mono) ?z ?nk rfl (λ_=>rfl) λa=>?_;case z=>cases at' with
   | none=>exact (by decide:0<=2)
   | some p=>exact (by decide:2<=2)
  case nk=>cases at' with
   | none=>exact (by decide:S0 "n"∉[])
   | some p=>exact (by decide:S0 "n"∉[S0 "s",S0 "f"])
  refine zz.cons (ie (b:=.tol AnyV) vV tN.tol rT) ?_;refine zz.cons (cf (bQ (al rfl) .nil fc) Ex.nil) ?_;refine zz.cons (cf (kd (li (bQ (ya (iU rfl G.fq) λ_=>V.none) .nil fc))) (Ex.cons (lF.set .nil) Ex.nil)) ?_;refine zz.cons (AW rfl G.m4 (by first | exact .inl rfl | exact .inr ⟨rfl,rfl⟩)) ?_;have o:∀ k∈S0 "n"::B1 at',k=S0 "n"\/k=S0 "s"\/k=S0 "f":=by
   cases at' with
   | none=>intro k m;exact .inl (mS m)
   | some p=>
    intro k m;rcases mC m with e | m;·exact .inl e
    ·rcases mC m with e | m;·exact .inr (.inl e)
     ·exact .inr (.inr (mS m))
  have l:(GR at').Perm (S0 "n"::B1 at'):=by
   cases at' with
   | none=>exact .refl _
   | some p=>exact (uo (S0 "n") (S0 "f") [S0 "s"]).trans ((uo (S0 "s") (S0 "f") []).cons _)
  refine Fc (self:=S0 "self") (W:=W) (P:=201) (ks:=S0 "n"::B1 at') (ms:=GR at') rfl rfl rfl (lB _ _) ?z (λk m=>?one) l ?srt ?nd (λk m=>?lev) (λ_ _ _ _=>rfl) rfl rfl rfl rfl rfl ?code rfl rfl rfl (λ_=>rfl) (λU F=>?cal) (λ_=>rfl) rfl rfl (H9.cons rfl rfl rfl rfl H9.nil) rfl rfl rfl rfl ?next ?hsw rfl rfl rfl rfl rfl rfl
  case z=>exact ab (dL (show (B1 at').length<=2 by cases at' with
   | none=>exact (by decide:0<=2)
   | some p=>exact (by decide:2<=2))) (by decide)
  case one=>rcases o k m with rfl | rfl | rfl <;>exact ⟨_,rfl⟩
  case srt=>cases at' with
   | none=>exact (by decide:[S0 "n"].Pairwise λx y=>oV x<=oV y)
   | some p=>exact (by decide:[S0 "f",S0 "n",S0 "s"].Pairwise λx y=>oV x<=oV y)
  case nd=>cases at' with
   | none=>exact (by decide:[S0 "n"].Nodup)
   | some p=>exact (by decide:[S0 "f",S0 "n",S0 "s"].Nodup)
  case lev=>
   have L:iu w 4 (.builtin "str.split") [SSV k,SSV (S0 "}"),II 1] (LL [.str k]):=by
    rcases o k m with rfl | rfl | rfl <;>exact CK (by decide) (by decide+kernel) (by decide+kernel) (by decide+kernel)
   exact lk (al rfl) (.consD .str (.one .int)) eC oP L
  case code=>exact λ_ _ X=>⟨_,_,_,_,_,_,_,_,_,X _ _ rfl,rfl,rfl,rfl,rfl,rfl,rfl,rfl,rfl,by decide⟩
  case cal=>exact (GA w G (fa1 m) C (by rcases o U (l.mem_iff.mp F) with rfl | rfl | rfl <;>decide) (by rcases o U (l.mem_iff.mp F) with rfl | rfl | rfl <;>decide)).le (by decide)
  case hsw=>(intro Q he;obtain ⟨_,_,_,_,_,_,_,_,_⟩:=Q;cases he.scp;rfl)
  case next=>
   refine K2 (ρ:=[(S0 "parsed_qnames",.tol (DictV w (GR at') ((GR at').map vQ))),(S0 "qattrs",.d .none),(S0 "self",.res (WR W)),(S0 "tag",.d (.str (S0 "n"))),(S0 "attrs",.tol (DictV w (B1 at') (Hl at'))),(S0 "new_namespaces",.d (.list [])),(S0 "qname_text",.d .none)]) (r8.cons rfl (r8.cons rfl (r8.cons rfl (r8.cons rfl (r8.cons rfl (r8.cons rfl (r8.cons rfl r8.nil))))))) ?_;refine Jq (x:=S0 "self") (R:=WR W) rfl rfl ?_;intros t;refine Fb (x:=S0 "attr_list") (Tr.val (al rfl) (AO.list (aM _))) rfl ?_;intros S;refine Kg.cons (ρ':=[(S0 "attr_list",.own S (Ke at')),(S0 "self",.tol λg v=>WR W g v t),(S0 "parsed_qnames",.tol (DictV w (GR at') ((GR at').map vQ))),(S0 "tag",.d (.str (S0 "n"))),(S0 "attrs",.tol (DictV w (B1 at') (Hl at'))),(S0 "qname_text",.d .none)]) ?loop ?_;case loop=>
    cases at' with
    | none=>exact lF.sub (cf ((AO.dict (oA rfl DictV.mono) (aM _)).eq rfl) Ex.nil) (r8.cons rfl (r8.cons rfl (r8.cons rfl (r8.cons rfl (r8.cons rfl (r8.cons rfl r8.nil))))))
    | some p=>
     obtain ⟨x,y⟩:=p;refine e04 r λe1 e2 J H=>?_;clear r;refine fr ((AO.dict (oA rfl DictV.mono) (by exact (by decide:2<=1000))).eq rfl) (Ex.cons (nA (ρ:=[(S0 "attr_list",.own S []),(S0 "self",.tol λg v=>WR W g v t),(S0 "parsed_qnames",.tol (DictV w (GR (some (x,y))) ((GR (some (x,y))).map vQ))),(S0 "tag",.d (.str (S0 "n"))),(S0 "attrs",.tol (DictV w (B1 (some (x,y))) (Hl (some (x,y))))),(S0 "qname_text",.d .none),(S0 "qattrs",.d .none)]) (r8.cons rfl (r8.cons rfl (r8.cons rfl (r8.cons rfl (r8.cons rfl (r8.cons rfl (r8.cons rfl r8.nil))))))) (lF.sub (gc (xs:=Ke (some (x,y))) (Ee.of (bZ (.cons (vT (oA rfl DictV.mono) .nil yh yd iu.items) .nil y8.mono) (uf (k1:=S0 "s") (k2:=S0 "f") (c2:=102) rfl rfl (by decide))) MP.list)
      (ke rfl (I:=λi=>[(S0 "attr_list",.own S ((Ke (some (x,y))).take i)),(S0 "self",.tol λg v=>WR W g v t),(S0 "parsed_qnames",.tol (DictV w (GR (some (x,y))) ((GR (some (x,y))).map vQ))),(S0 "tag",.d (.str (S0 "n"))),(S0 "attrs",.tol (DictV w (B1 (some (x,y))) (Hl (some (x,y))))),(S0 "qname_text",.d .none),(S0 "qattrs",.d .none)]) λi z D=>?_)) (r8.cons rfl (r8.cons rfl (r8.cons rfl (r8.cons rfl (r8.cons rfl (r8.cons rfl r8.nil)))))))) Ex.nil)
     obtain ⟨q,v,j,rfl,Y,A⟩:∃ q v j,z=.tuple [.str q,.str v]/\(GR (some (x,y)))[j]?=some q/\(Ke (some (x,y))).take (i+1)=(Ke (some (x,y))).take i++[z]:=by
      cases i with
      | zero=>cases D;exact i33 (S0 "f") y 0 rfl rfl rfl
      | succ i=>cases i with
       | zero=>cases D;exact i33 (S0 "s") x 2 rfl rfl rfl
       | succ i=>cases D
     refine i23 _ _ (uI.tuple K6.two) (.inl (Ex.cons (cf (kd (li (bQ (al rfl) .nil fc))) Ex.nil) (Ex.cons (fE (ds:=(sQ q).map .str) (Eg (oA rfl DictV.mono) (al rfl) Y ((λi q h=>by rw [av,h];rfl) j q Y)) yb) (Ex.cons (lF.append rfl (Ev.tuple (ds:=[.str q,.str v]) (.consD (sW (Tr.val (al rfl) (AO.str (x:=S0 "") (by decide))) (al rfl)) (.one (al rfl))) (show 2<=dK by decide)) (by unfold dK;exact fa1 (show ((Ke (some (x,y))).take i).length<=2 from by rw [cS];exact eo _ _))) Ex.nil)))) (r8.cons (by rw [A];rfl) (r8.cons rfl (r8.cons rfl (r8.cons rfl (r8.cons rfl (r8.cons rfl (r8.cons rfl r8.nil)))))))
   refine Kg.freeze (x:=S0 "attr_list") rfl rfl (Cx (x:=S0 "self") (R:=WR W) rfl rfl ?_);refine Ex.cons (lF.set (vT (oA rfl DictV.mono) (.one .str) PySem.F.slot_dict_get PySem.F.type_dict_get (HR ?nk))) ?_;case nk=>cases at' with
    | none=>exact gZ
    | some p=>exact (by decide:S0 "{http://www.w3.org/XML/1998/namespace}space"∉[S0 "s",S0 "f"])
   refine Ex.cons (pM (i:=2) rfl G.sp rfl (sW (Tr.val (al rfl) AO.none) (Js (i:=2) (k:= -1) rfl G.sp rfl (oB .int) (by rw [u];exact D3) (by rw [u,aB];unfold dK;simp;exact fa1 hs))) (by rw [u,aB];simp;exact fa1 hs)) ?_;have T:=G.upd 2 (W.ss++[last]);refine Ex.cons (ie (b:=.raw (.ref W.wa)) (iU rfl T.wr) tN.raw rT) ?_;have G2:=T.upd 3 (W.ps++[.str (S0 "<n")]);have G3:=T.upd 3 (W.ps++[.str (S0 "<n")]++BU at'++[.str (S0 ">")]);have N:(BU at').length<=1:=by cases at' with
    | none=>exact aM _
    | some p=>exact aq _
   refine Ex.cons (sS (x:=S0 "self") (d:=.str (S0 "<n")) rfl rfl ((bz .str (Ef (ds:=(sQ (S0 "n")).map .str) (d:=.str (S0 "n")) (Eg (i:=at'.elim 0 λ_=>1) (oA rfl DictV.mono) (al rfl) ?i1 ?i2) .int rfl (by decide:3<=dK)) (iw (by decide))).eq rfl) (by refine (?_:W.ps.length<1000);exact fa1 hp)) ?_;case i1=>cases at' <;>rfl
   case i2=>cases at' <;>rfl
   refine Ex.cons (ρ':=[(S0 "self",.res (WR ((W.upd 2 (W.ss++[last])).upd 3 (W.ps++[.str (S0 "<n")]++BU at')))),(S0 "write",.raw (.ref W.wa)),(S0 "qname_text",.d .none)]) ?ifw ?_;case ifw=>
    cases at' with
    | none=>exact lF.sub (cf (Tr.val (al (d:=.list []) rfl) (AO.list (aM _))) Ex.nil) (r8.cons (by refine (?_:_=some (B.res (WR ((W.upd 2 (W.ss++[last])).upd 3 (W.ps++[.str (S0 "<n")]++[])))));rw [bp];rfl) (r8.cons rfl (r8.cons rfl r8.nil)))
    | some p=>
     obtain ⟨x,y⟩:=p;refine e04 r λe1 e2 J H=>?_;clear r;refine fr (Tr.val (al (d:=.list (Ke (some (x,y)))) rfl) (AO.list (by decide:2<=dK))) (Ex.cons (lF.sub (sS (x:=S0 "self") (d:=.str (iL (S0 "") [E1 (S0 "f") y,E1 (S0 "s") x])) rfl rfl (lk .str (.one (kg (xs:=Ke (some (x,y))) (ρ₁:=λz=>[(S0 "v",.d ((IA z).getD 1 .none)),(S0 "k",.d ((IA z).getD 0 .none))]) (outs:=λz=>[.str (E1 (Gl ((IA z).getD 0 .none)) (Gl ((IA z).getD 1 .none)))]) (Ee.of (al rfl) MP.list) rfl rfl H9.nil (by decide:2<=dK) λz D=>?_)) kC kB (sZ (xs:=[E1 (S0 "f") y,E1 (S0 "s") x]) ?jok)) (by refine (?_:(W.ps++[da (S0 "<n")]).length<1000);rw [aB];simp;exact fa1 hp)) (r8.cons rfl (r8.cons rfl (r8.cons rfl r8.nil)))) Ex.nil);case jok=>exact sJ (by
      refine (?_:(E1 (S0 "f") y).length+((E1 (S0 "s") x).length+0)+2*0<=dK);rw [D4,D4,show (S0 "f").length=1 from rfl,show (S0 "s").length=1 from rfl];unfold dK;exact fa2 J H)
     have E:∀ (q v:aE),q.length=1->v.length<=1000->([S0 " ",q,S0 "=\"",v,S0 "\""].foldl (λn y=>n+y.length) gq.length)<=dK:=λq v Z K=>by
      show ((((gq.length+(S0 " ").length)+q.length)+(S0 "=\"").length)+v.length)+(S0 "\"").length<=dK;rw [show gq.length=0 from rfl,show (S0 " ").length=1 from rfl,show (S0 "=\"").length=2 from rfl,show (S0 "\"").length=1 from rfl];unfold dK;exact fa2 (aj Z) K
     rcases mC D with rfl | M;·exact i03 (uI.tuple K6.two) r8.nil (K5.one (Ev.joined (ys:=[S0 " ",S0 "f",S0 "=\"",y,S0 "\""]) (.cons .str (.cons (vU (al rfl) (by decide)) (.cons .str (.cons (vU (bX (.one (al rfl)) ((Hg w e2).le (by decide))) (by unfold dK;exact fa1 H)) (.cons .str .nil))))) (E _ _ rfl H)) rfl)
     ·obtain rfl:=mS M;exact i03 (uI.tuple K6.two) r8.nil (K5.one (Ev.joined (ys:=[S0 " ",S0 "s",S0 "=\"",x,S0 "\""]) (.cons .str (.cons (vU (al rfl) (by decide)) (.cons .str (.cons (vU (bX (.one (al rfl)) ((Hg w e1).le (by decide))) (by unfold dK;exact fa1 J)) (.cons .str .nil))))) (E _ _ rfl J)) rfl)
   refine Ex.cons (sS (x:=S0 "self") (d:=.str (S0 ">")) rfl rfl .str (by refine (?_:(W.ps++[da (S0 "<n")]++BU at').length<1000);rw [aB,aB];simp;exact fa2 hp N)) ?_;refine Ex.cons (cf (bQ (al rfl) .nil fc) Ex.nil) ?_;refine Ex.cons (AX rfl .bool G3.seen) ?_;exact Ex.cons (lF.sub (pM (a:=W.aN) rfl (G3.putS (.bool true)).ns rfl (Ev.list (ds:=[]) .nil (aM _)) (by refine (?_:W.ns.length<1000);exact fa1 O)) (r8.cons rfl r8.nil)) Ex.nil
theorem Gb (w:ar) {W:Wr} (G:lj W) {k:Nat} (q:k<=800) (f:W.ds=l5 k) {at':Option (aE × aE)} (l:MD at') {ss:List ag} {last:ag} (j:W.ss=ss++[last]) (p:W.ns.length<=900) (hs:ss.length<=900) (hp:W.ps.length<900): vY w 8 (.ref 198) W [SSV (S0 "n"),DictV w (B1 at') (Hl at')] (DV .none) (sv (W.upd 0 (l5 (k+1))) at' ss last):=by
 refine' qd (x0:=S0 "self") (xs:=[S0 "tag",S0 "attrs"]) (ρ':=[(S0 "self",.res (WR (sv (W.upd 0 (l5 (k+1))) at' ss last)))]) [] ?ho ?hcd ?h1 ?h2 ?h3 ?h4 ?hbind ?hp ?hnd ?hkind ?h8 ?h5 ?h6 ?h7 (.inr ⟨?h,λ_=>V.none⟩) ?hw ?hsame;case ho=>exact rfl
 case hcd=>exact rfl
 case h1=>exact rfl
 case h2=>exact rfl
 case h3=>exact rfl
 case h4=>exact rfl
 case hnd=>decide
 case hkind=>decide
 case h8=>decide
 case h5=>exact rfl
 case h6=>exact rfl
 case h7=>exact rfl
 case hw=>exact rfl
 case hsame=>exact ((((((nS.refl W).upd 0 _).upd 2 _).upd 3 _).put _ _).upd 1 _)
 case hbind=>intro r s X o;refine e31 (yM (by simpa using o)) λa b c m=>?_;obtain rfl:=m;exact jC rfl
 case hp=>exact .cons tN.d (.cons tN.tol .nil)
 case h=>
  obtain e:W.ds++[dp []]=l5 (k+1):=by rw [f,mf]
  obtain g:=G.upd 0 (W.ds++[dp []]);obtain d:=Es w (W:=W.upd 0 (W.ds++[dp []])) g (by exact ab (by assumption) (by decide)) e l j p hs hp;rw [e] at d g;refine zz.of (Ex.cons (cf (kd (li (bQ (ya (iU rfl G.xt) λ_=>V.none) .nil fc))) Ex.nil) (Ex.cons (cf (Tr.val (A1 rfl G.data) (AO.list (aM _))) Ex.nil) (Ex.cons (lF.set (Ev.list .nil (aM _)))
   (Ex.cons (ρ':=[(S0 "self",.res (WR (W.upd 0 (l5 (k+1))))),(S0 "new_namespaces",.d (.list [])),(S0 "tag",.d (.str (S0 "n"))),(S0 "attrs",.tol (DictV w (B1 at') (Hl at')))]) (lF.sub (pM (i:=0) rfl G.dec rfl (al rfl) (by rw [f];delta l5;simp;exact fa1 q)) (r8.cons (by rw [<- e];rfl) (r8.cons rfl (r8.cons rfl (r8.cons rfl r8.nil))))) ?_))))
  refine Ex.cons (cf (kd (li (bQ (ya (iU rfl g.qt) λ_=>V.none) .nil fc))) Ex.nil) ?_;exact Ex.cons (lF.sub (Ff (sT (P:=DV .none) rfl g.m2 (.consD (al rfl) (.cons (oA rfl DictV.mono) (.one (al rfl)) DictV.mono)) d (λ_=>rfl))) (r8.cons rfl r8.nil)) Ex.nil
section
variable {w:ar} {sc:bf} {r:Nat} {ρ ρ':dh} {pos:cU} {P:ci} {W W':Wr} {x:aE} {ps:List ci}
theorem Hn (h:aA):(h.push {cls:=.type "dict",data:=.dict #[]}).DictOf (aZ PR w) h.objs.size []:=Ov h
theorem Fm:Ev w sc r ρ (.Dict [] [] pos) (DictV w [] []):=λA k l b c g m s n p F Q E q=>by
 refine Mp ?_;refine e12 (F.ss.growPush ({cls:=.type "dict",data:=.dict #[]}:ff) s.toks rfl) λh y e=>?_;refine e32 (Hn (w:=w) s.heap) λo i j a f=>?_;rw [az _ rfl] at a;refine iM a λd=>?_;clear a;subst d;exact q _ h _ y (i25 _ ([]) rfl (yw F.ss.big) (i32 _ i j e f) rfl (VA.nil _))
theorem HH {k1 k2:aE} {m e2:be} {c1 c2:Nat} {p1 p2:cU} {z y:ag} (h1:Ev w u r n m (DV z)) (h2:Ev w u r n e2 (DV y)) (l:k1≠k2):Ev w u r n (.Dict [some (.Constant (.str k1) c1 p1),some (.Constant (.str k2) c2 p2)] [m,e2] e) (DictV w [k1,k2] [z,y]):=by
 revert w u r n e k1 k2 m e2 c1 c2 p1 p2 z y;intros w u r n e k1 k2 m e2 c1 c2 p1;intros p2 z y;intro h1 h2 l;intros A b o c d g pr s;intro k v F;intros Q E;intro q;refine wpAny_Dict_pairs (knd:=aZ PR w) (pairs:=[(eW (.Constant (.str k1) c1 p1) b,do let x <- eW m b;gQ e;pure x),(eW (.Constant (.str k2) c2 p2) b,do let x <- eW e2 b;gQ e;pure x)]) rfl (lB _ _) (by decide:2<=15) ?_;obtain ⟨O,ap⟩:=F.add (q:=⟨[(s.heap.objs.size,{cls:=.type "dict",data:=.dict #[]})],[]⟩) (F.ss.same (Stp.push s {cls:=.type "dict",data:=.dict #[]} s.toks)) ⟨λp hp=>(by
  obtain rfl:=mS hp;exact ⟨az _ rfl,F.ss.none (aq _)⟩),λ_ h=>nomatch h⟩ (λa ha=>aj (mS ha).symm) (λ_ h=>nomatch h)
 obtain S:iB s g {s with heap:=s.heap.push {cls:=.type "dict",data:=.dict #[]}} g:=F.ss.same (Stp.push s {cls:=.type "dict",data:=.dict #[]} s.toks);refine Oe (Ev.str A b o c d g _ _ k v O _ _ λa1 g1 s1 K X=>aa ?_);have N:=O.step K;refine h1 A b o c d g1 _ s1 k v N _ _ λj g2 s2 J V=>aa (ct (ah ?_));obtain M:=N.step J;refine Oe (Ev.str A b o c d g2 _ _ k v M _ _ λa0 g3 s3 C U=>aa ?_);have L:=M.step C;refine h2 A b o c d g3 _ s3 k v L _ _ λi g4 s4 B T=>aa (ct (ah ?_));refine evalPairs_nil ?_;obtain ⟨Z,rfl⟩:=X.str_inv;obtain ⟨Y,rfl⟩:=U.str_inv;refine e02 ((L.step B).live.objs _ (.head _)) λho hn=>?_;refine i13 [(k1,j),(k2,i)] (i05 (ii PR w k1 Z) rfl (ii PR w k2 Y) rfl trivial) ?_ (λh' I hs=>?_);·exact jW.mpr ⟨_,ho,#[],0,(i03 rfl rfl rfl),rfl,λ_ k=>by simp at k,MW,jm⟩
 ·obtain hm:merged [] [(k1,j),(k2,i)]=[(k1,j),(k2,i)]:=by
   simp [merged,stored,l]
  replace I:=hm▸I;refine e12 (jW.mp I) λo' D G=>?_;refine e14 (iB.freeze F.ss (((((S.trans K).trans J).trans C).trans B).turn (t:=s4.toks+2) F.ss (aq _) hn hs) D (aq _)) λg5 R f H z0=>?_;exact q _ g5 _ R (i25 _ _ rfl (yw F.ss.big) (jW.mpr ⟨o',H,G⟩) rfl (VA.cons (V.mono (C.le.trans (B.le.trans f))) (VA.cons (T.mono f) (VA.nil _))))
theorem Jt (hx:ρ.lookup x=some (.res (WR W))) (b:autoParam ((x==("__classdict__":aE))=false) auF._auto_1) (a:autoParam ((x==("__debug__":aE))=false) auF._auto_1):Ev w sc r ρ (.Name x pos) (RV (.ref W.x)):=by
 intro A h i c d g j s e k F Q E q;refine dm e F hx (λu f=>?_) b a;exact q u g s (iB.refl F.ss.sub) (kc f).1
theorem Fh {f:ay} {k:aE} {np xp:cU} {args:List be} (hx:ρ.lookup x=some (.res (WR W))) (h:rf w sc r ρ args ps) (d:vY w r (.ref f) W ps P W') (e:autoParam (∀ P,Bh (kF.heap_1 P) bA k=some (some (.ref f))) am._auto_9) (X:autoParam (∀ P,C6 (kF.heap_1 P) (.ref f)=true) am._auto_9) (y:autoParam (sc.names.lookup k=some .globalImplicit) auS._auto_1) (z:autoParam ((k==("__debug__":aE))=false) auF._auto_1) (ho:autoParam (cA x ρ=true) auT._auto_1) (p:autoParam ((x==("__classdict__":aE))=false) auF._auto_1) (n:autoParam ((x==("__debug__":aE))=false) auF._auto_1) :FT w sc r ρ (.Call (.Name k np) (.Name x xp::args) [] pos) P ((x,.res (WR W'))::ρ):=by
 intro A D i j g S s J B F Q E q;refine aa (Ev.glob e y z A D true i j g S s J B F _ _ λv g1 s1 I U=>?_);obtain rfl:=U;obtain M:=F.step I;refine cL J B M (rf.cons (Jt hx p n) h vH.raw) (D9.top X) λl Z R H t=>?_;cases l with
 | nil=>exact t.elim
 | cons v l=>obtain rfl:=t.1;have G:=M.step H;refine e31 (G.wri hx) λC T m K=>?_;refine d.2 A Z R l C T m B G.ss t.2 (K.re (eN.refl _) λb _ o c e=>(i03 e c.1 c.2.1.2)) Q E λu Y O a0 n3 N L Y3 V=>?_;exact q u Y O ((I.trans H).le.trans L.le) (G.calledW hx ho d.1 K L Y3) V
end
structure TW (W W':Wr) (ps:List ag):Prop where
 ds:W'.ds=W.ds
 ns:W'.ns=W.ns
 ss:W'.ss=W.ss
 ps:W'.ps=W.ps++ps
 good:lj W->lj W'
 same:nS W W'
theorem nS.trans {e d W3:Wr} (a:nS e d) (b:nS d W3):nS e W3:=⟨b.x.trans a.x,b.addrs.trans a.addrs⟩
theorem TW.refl (W:Wr):TW W W []:=⟨rfl,rfl,rfl,(bp _).symm,id,nS.refl W⟩
theorem TW.trans {e d c:Wr} {p q:List ag} (a:TW e d p) (b:TW d c q):TW e c (p++q):=⟨b.ds.trans a.ds,b.ns.trans a.ns,b.ss.trans a.ss,by rw [b.ps,a.ps,bq],λg=>b.good (a.good g),a.same.trans b.same⟩
noncomputable def eJ (at':Option (aE × aE)) (W:Wr):Wr:=sv (W.upd 0 (W.ds++[.list []])) at' [] (W.ss.getLastD .none)
noncomputable def Ci (W:Wr):Wr:=((((W.upd 3 (W.ps++[.str (S0 "</n>")])).upd 2 W.ss.dropLast).put (S0 "_root_done") (.bool ((W.ss.dropLast.length:Int)==1))).upd 0 W.ds.dropLast).upd 1 W.ns.dropLast
noncomputable def oh (F:Nat->Wr->Wr) (W:Wr):Nat->Wr
 | 0=>W
 | n+1=>F n (oh F W n)
noncomputable def lR (l:List du) (f s:Int):Option (aE × aE):=if l.isEmpty then some (dd s,dd f) else none
noncomputable def uT:Nat->du->Int->Int->Wr->Wr
 | 0,.node l,f,s,W=>Ci (eJ (lR l f s) W)
 | h+1,.node l,f,s,W=>Ci (oh (λk W=>uT h (l.getD k (.node [])) (f+s*k) (s*l.length) W) (eJ (lR l f s) W) l.length)
noncomputable def tB (F:Nat->List ag):Nat->List ag
 | 0=>[]
 | n+1=>tB F n++F n
noncomputable def mw:Nat->du->Int->Int->List ag
 | 0,.node l,f,s=>[.str (S0 "<n")]++BU (lR l f s)++[.str (S0 ">")]++[.str (S0 "</n>")]
 | h+1,.node l,f,s=>[.str (S0 "<n")]++BU (lR l f s)++[.str (S0 ">")]++tB (λk=>mw h (l.getD k (.node [])) (f+s*k) (s*l.length)) l.length++[.str (S0 "</n>")]
theorem Dv (l:List du) (f s:Int):mw 0 (.node l) f s=[.str (S0 "<n")]++BU (lR l f s)++[.str (S0 ">")]++[.str (S0 "</n>")]:=rfl
theorem Dw (h:Nat) (l:List du) (f s:Int):mw (h+1) (.node l) f s=[.str (S0 "<n")]++BU (lR l f s)++[.str (S0 ">")]++tB (λk=>mw h (l.getD k (.node [])) (f+s*k) (s*l.length)) l.length++[.str (S0 "</n>")]:=rfl
theorem DR (F:Nat->List ag) (n:Nat):tB F (n+1)=tB F n++F n:=rfl
noncomputable def qN (F:Nat->Nat):Nat->Nat
 | 0=>0
 | n+1=>qN F n+F n
noncomputable def xh:Nat->du->Nat
 | 0,_=>2
 | h+1,.node l=>2+qN (λk=>xh h (l.getD k (.node []))) l.length
theorem BL {F:Nat->Wr->Wr} {P:Nat->List ag} (W:Wr) (h:∀ k W,TW W (F k W) (P k)):∀ n,TW W (oh F W n) (tB P n)
 | 0=>TW.refl W
 | n+1=>(BL W h n).trans (h n _)
theorem yl {at':Option (aE × aE)} {W a:Wr} {p:List ag} (x:TW (eJ at' W) a p):TW W (Ci a) ([.str (S0 "<n")]++BU at'++[.str (S0 ">")]++p++[.str (S0 "</n>")]):=by
 refine ⟨?_,?_,?_,?_,λg=>?_,?_⟩
 ·refine (?_:a.ds.dropLast=_);rw [x.ds];exact gw
 ·refine (?_:a.ns.dropLast=_);rw [x.ns];exact gw
 ·refine (?_:a.ss.dropLast=_);rw [x.ss];exact gw
 ·refine (?_:a.ps++_=_);rw [x.ps];refine (?_:W.ps++[.str (S0 "<n")]++BU at'++[.str (S0 ">")]++p++_=_);simp only [bq]
 ·obtain c:=((((g.upd 0 _).upd 2 _).upd 3 _).putS _).upd 1 _;exact ((((x.good c).upd 3 _).upd 2 _).putD _).upd 0 _ |>.upd 1 _
 ·have b:nS W (eJ at' W):=(((((nS.refl W).upd 0 _).upd 2 _).upd 3 _).put _ _).upd 1 _;exact (((((b.trans x.same).upd 3 _).upd 2 _).put _ _).upd 0 _).upd 1 _
theorem yv:∀ (h:Nat) (t:du) (f s:Int) (W:Wr),TW W (uT h t f s W) (mw h t f s)
 | 0,.node l,f,s,W=>by
  obtain this:=yl (TW.refl (eJ (lR l f s) W));rw [bp] at this;exact this
 | h+1,.node l,f,s,W=>yl (BL (F:=λk W=>uT h (l.getD k (.node [])) (f+s*k) (s*l.length) W) (P:=λk=>mw h (l.getD k (.node [])) (f+s*k) (s*l.length)) (eJ (lR l f s) W) (λk W=>yv h _ _ _ W) l.length)
theorem uy (a:Option (aE × aE)):(BU a).length<=1:=by
 cases a with
 | none=>exact aM _
 | some p=>exact aq _
theorem yx {F:Nat->Nat} {B:Nat} (h:∀ k,F k<=B):∀ n,qN F n<=n*B
 | 0=>aM _
 | n+1=>by rw [Dc];exact bJ (yx h n) (h n)
theorem sH {F:Nat->List ag} {B:Nat} (h:∀ k,(F k).length<=B):∀ n,(tB F n).length<=n*B
 | 0=>aM _
 | n+1=>by rw [Dc];rw [DR,aB];exact bJ (sH h n) (h n)
theorem D1 {w:ar} {r r':Nat} {f:ae} {W W':Wr} {ps:List ci} {P:ci} (h:vY w r f W ps P W') (hr:r<=r'):vY w r' f W ps P W':=⟨h.1,λA g s b e n c d=>h.2 A g s b e n c (d.le hr)⟩
noncomputable def jo (n:Nat):List ag:=bC n .none
set_option maxHeartbeats 2000000 in
theorem xf (w:ar) {l:List du} {f s:Int} {W:Wr} {F:Nat->Wr->Wr} {m:Nat->Nat} {R k:Nat} {ss:List ag} {last:ag} (hR:8<=R) (G:lj W) (S:k<=790) (t:W.ds=l5 k) (r:W.ss=ss++[last]) (O:W.ns.length<=800) (hs:ss.length<=800) (hp:W.ps.length<890)
  (z:l.length<=3) (J:cc (.list (l.map du.dat))=true) (C:0<=f) (B:f<s) (j:s<=243) (N:MD (lR l f s)) (Q:∀ i,m i<=1000) {P:List ag} (g:TW (eJ (lR l f s) W) (oh F (eJ (lR l f s) W) l.length) P) (hP:W.ps.length+P.length<=880)
  (H:∀ i,i<l.length->vY w R (.ref 277) (oh F (eJ (lR l f s) W) i) [DV (l.getD i (.node [])).dat,II (f+s*i),II (s*l.length)] (LL (jo (m i))) (oh F (eJ (lR l f s) W) (i+1))):
  vY w (R+1) (.ref 277) W [LL (l.map du.dat),II f,II s] (LL (jo (2+qN m l.length))) (Ci (oh F (eJ (lR l f s) W) l.length)):=by
 have o:(l.map du.dat).length<=dK:=by rw [ak];delta dK;exact fa1 z
 have v:Sm s:=by delta Sm;(refine iR ?_ ?_ <;>lia)
 refine' qd (x0:=S0 "writer") (xs:=[S0 "rows",S0 "first",S0 "step"]) (ρ':=(S0 "writer",.res (WR (Ci (oh F (eJ (lR l f s) W) l.length))))::[(S0 "answers",.d (.list (jo (1+qN m l.length)))),(S0 "writer",.res (WR (oh F (eJ (lR l f s) W) l.length)))]) [] ?ho ?hcd ?h1 ?h2 ?h3 ?h4 ?hbind ?hp ?hnd ?hkind ?h8 ?h5 ?h6 ?h7 (.inl ?h) ?hw (yl g).same
 case ho=>exact rfl
 case hcd=>exact rfl
 case h1=>exact rfl
 case h2=>exact rfl
 case h3=>exact rfl
 case h4=>exact rfl
 case hnd=>decide
 case hkind=>decide
 case h8=>decide
 case h5=>exact rfl
 case h6=>exact rfl
 case h7=>exact rfl
 case hw=>exact rfl
 case hbind=>intro vs s X hv;refine e41 (KL (by simpa using hv)) λa b c d Z=>?_;obtain rfl:=Z;exact jC rfl
 case hp=>exact .cons tN.d (.cons tN.d (.cons tN.d .nil))
 case h=>
  have K:kr w R .Eq (.list (l.map du.dat)) (.list []) l.isEmpty:=(pO J rfl).eq (by rw [yX];cases l <;>rfl);have u:eJ (lR l f s) W=sv (W.upd 0 (l5 (k+1))) (lR l f s) ss last:=by
   delta eJ;rw [t,mf,r,List.getLastD_concat];rfl
  have E:=Gb w G (fa1 S) t N r (fa1 O) (fa1 hs) (fa1 hp);rw [<- u] at E;have y:∀ i,i<=l.length->qN m i<=3000:=λi q=>ab (yx Q i) (by have:i*1000<=3*1000:=en _ (fa2 z q);exact fa1 this);refine zz.of (Ex.cons (ie (b:=.tol (DictV w [] [])) Fm tN.tol rT) ?_);refine Ex.cons (ρ':=[(S0 "attributes",.tol (DictV w (B1 (lR l f s)) (Hl (lR l f s)))),(S0 "writer",.res (WR W)),(S0 "rows",.d (.list (l.map du.dat))),(S0 "first",.d (.int f)),(S0 "step",.d (.int s))]) ?hif ?_;case hif=>
   refine uG (bQ (al rfl) (Ev.list .nil (aM _)) K) (λM=>?_) (λM=>?_)
   ·have e:lR l f s=some (dd s,dd f):=by delta lR;rw [if_pos M]
    rw [e];exact Ex.cons (lF.sub (ie (b:=.tol (DictV w (B1 (some (dd s,dd f))) (Hl (some (dd s,dd f))))) (HH (bX (.one (al rfl)) ((nw w (fi2 C B) j).le (fa1 hR))) (bX (.one (al rfl)) ((nw w C (fi2 B j)).le (fa1 hR))) (by decide)) tN.tol rT) (r8.cons rfl (r8.cons rfl (r8.cons rfl (r8.cons rfl (r8.cons rfl r8.nil)))))) Ex.nil
   ·have e:lR l f s=none:=by delta lR;rw [if_neg (by rw [M];exact bb)]
    rw [e];exact Ex.sub Ex.nil (r8.cons rfl (r8.cons rfl (r8.cons rfl (r8.cons rfl (r8.cons rfl r8.nil)))))
  refine Ex.cons (vO (xZ (sT (P:=DV .none) rfl G.m1 (.consD .str (.cons (oA rfl DictV.mono) .nil DictV.mono)) (D1 E hR) (λ_=>rfl))) (.inl rfl)) ?_;have hx:∀ i,i<=l.length->jo (1+qN m i)++jo (m i)=jo (1+qN m (i+1)):=λi q=>by
   delta jo;rw [un,dX];rfl
  refine Ex.cons (ρ':=[(S0 "answers",.d (.list (jo (1+qN m l.length)))),(S0 "writer",.res (WR (oh F (eJ (lR l f s) W) l.length)))]) (nA (r8.cons rfl (r8.cons rfl (r8.cons rfl (r8.cons rfl (r8.cons rfl r8.nil))))) (lF.sub (gc (xs:=jK 0 l.length) (Ee.of (bZ (.one (bZ (.one (al rfl)) (fL o))) iV) (jS (by rw [jF];rfl) (by decide) (by rw [jF];(refine iR ?_ ?_ <;>lia))))
   (ke (by delta jK;simp) (I:=λi=>[(S0 "answers",.d (.list (jo (1+qN m i)))),(S0 "writer",.res (WR (oh F (eJ (lR l f s) W) i))),(S0 "rows",.d (.list (l.map du.dat))),(S0 "first",.d (.int f)),(S0 "step",.d (.int s))]) λi x p=>?_)) (r8.cons rfl (r8.cons rfl r8.nil)))) ?_
  ·have q:i<l.length:=by have:=(gE p).1;unfold jK at this;simpa using this
   obtain rfl:x=.int i:=by
    delta jK at p;rw [av,jJ q] at p;simpa using p.symm
   have A:(l.map du.dat)[i]?=some (l.getD i (.node [])).dat:=by
    rw [av,aJ,an q];rfl
   have hz:=y i (fa1 q);refine i23 _ _ eA (.inl (Ex.cons (vO (Ed (FT.of (al rfl)) (Fh (x:=S0 "writer") rfl (.consD (gf (al rfl) (al rfl) (nE A) o) (.consD (bz (al rfl) (bz (al rfl) (al rfl) (fF (.inl v))) cQ) (.one (bz (al rfl) (bZ (.one (al rfl)) (fL o)) ((fF (.inl v)).eq (by rw [jF])))))) (H i q)) (mj (by delta jo;rw [iP,iP];delta dK;exact fa2 hz (Q i)))) (.inl rfl)) Ex.nil)) (r8.cons (by rw [<- hx i (fa1 q)];rfl) (r8.cons rfl (r8.cons rfl (r8.cons rfl (r8.cons rfl r8.nil)))))
  ·have T:lj (eJ (lR l f s) W):=((((G.upd 0 _).upd 2 _).upd 3 _).putS _).upd 1 _;have a0:=oh F (eJ (lR l f s) W) l.length;have Y:(oh F (eJ (lR l f s) W) l.length).ds=l5 (k+1):=by rw [g.ds,mf,<- t];rfl
   have V:(oh F (eJ (lR l f s) W) l.length).ns=W.ns++[.list []]:=g.ns;have U:(oh F (eJ (lR l f s) W) l.length).ss=W.ss++[last]:=by rw [g.ss,u];rfl
   have d4:(oh F (eJ (lR l f s) W) l.length).ps.length<=W.ps.length+3+P.length:=by
    rw [g.ps];refine (?_:(W.ps++[da (S0 "<n")]++BU (lR l f s)++[da (S0 ">")]++P).length<=_);have:=uy (lR l f s);simp only [aB,de];exact fa1 this
   have L:=Kw w (W:=oh F (eJ (lR l f s) W) l.length) (g.good T) (fa1 S) Y V U (fa1 O) (by rw [r,aB];simp;exact fa1 hs) (fa2 hP d4);have D:KU (oh F (eJ (lR l f s) W) l.length) k W.ns W.ss=Ci (oh F (eJ (lR l f s) W) l.length):=by
    delta Ci;rw [Y,V,U,gw,gw,mf,gw];rfl
   replace L:=D▸L;have hb:nT w R .Add (.list (jo (1+qN m l.length))) (.list [.none]) (.list (jo (2+qN m l.length))):=(mj (by refine (?_:(bC (1+qN m l.length) PyData.none).length+1<=1000000);rw [iP];exact fa1 (y l.length (aq _)))).eq (by
    delta jo;rw [show ([.none]:List ag)=bC 1 .none from rfl,un,show 1+qN m l.length+1=2+qN m l.length from bB (fa0) (fa0)])
   exact Ex.retR (HA (Ed (FT.of (al rfl)) (xZ (sT (P:=DV .none) (x:=S0 "writer") rfl (g.good T).m3 (.one .str) (D1 (r':=R) L (fa1 hR)) (λ_=>rfl))) hb))
theorem wx:((br 244).all λn=>["&","<","\"","\t","\n","\r"].all λc=>!(C8 (dd (n:Int)) (S0 c)))=true:=by decide+kernel
theorem oW {n:Int} (h0:0<=n) (h1:n<=243):uA (dd n):=by
 refine e11 (dj h0) λm a=>?_;obtain rfl:=a;have:=aT wx m (KJ (by lia));exact λc b=>by simpa using aT this c b
theorem DI {l:List du} {f s:Int} (h0:0<=f) (h1:f<s) (h2:s<=243):MD (lR l f s):=by
 delta lR;split;·exact i04 (oW (fi2 h0 h1) h2) (oW h0 (fi2 h1 h2)) (ab (hN (fi2 h0 h1) h2).2 (by decide)) (ab (hN h0 (fi2 h1 h2)).2 (by decide))
 ·trivial
theorem rV.nil:∀ h,rV h (.node [])
 | 0=>rfl
 | _+1=>⟨aM _,λ_ h=>nm h⟩
theorem rV.kid' {h:Nat} {l:List du} (o:rV (h+1) (.node l)) (k:Nat):rV h (l.getD k (.node [])):=by
 by_cases a:k<l.length;·exact o.kid k a
 ·rw [aJ,cn (ba a)];exact rV.nil h
theorem t3 {S P:Nat} (h1:1<=P) (h:S<=3*(P - 1)):2+S+1<=P*3:=by
 refine e11 (jX h1) λp a=>?_;obtain rfl:=a;lia
theorem NC {n K P:Nat} (h1:1<=P) (h:K<=n*(6*P - 2)):K+n*2<=n*(6*P):=by
 refine e11 (jX h1) λp a=>?_;obtain rfl:=a;exact ab (dt h _) (aj (rb n (6*p+4) 2).symm)
theorem xg:∀ (h:Nat) (t:du) (f s:Int),rV h t->(mw h t f s).length+2<=6*3 ^ h
 | 0,.node l,f,s,a=>by
  obtain this:=uy (lR l f s);rw [Dv];simp only [aB,de];exact ab (fa1 this:_<=6) (by decide)
 | h+1,.node l,f,s,a=>by
  obtain b:=sH (F:=λk=>mw h (l.getD k (.node [])) (f+s*k) (s*l.length)) (B:=6*3 ^ h - 2) (λk=>et (xg h _ (f+s*k) (s*l.length) (a.kid' k))) l.length;rw [pR];rw [Dw];simp only [aB,de];exact fa2 (uy (lR l f s)) (NC (js _ _ (by decide)) (ab b (en _ a.1)))
theorem zO:∀ (h:Nat) (t:du),rV h t->xh h t+1<=3 ^ (h+1)
 | 0,t,_=>aq 3
 | h+1,.node l,a=>by
  exact t3 (js _ _ (by decide)) (ab (yx (F:=λk=>xh h (l.getD k (.node []))) (B:=3 ^ (h+1) - 1) (λk=>et (zO h _ (a.kid' k))) l.length) (en _ a.1))
theorem Al (w:ar):∀ (h:Nat) (t:du) (f s:Int) (W:Wr) (k:Nat),rV h t->h<=4->NB h f s->lj W->W.ds=l5 k->k+h<=790->W.ss≠[]->W.ns.length+h<=800->W.ss.length+h<=801->W.ps.length+6*3 ^ h<=860->
  vY w (h+9) (.ref 277) W [DV t.dat,II f,II s] (LL (jo (xh h t))) (uT h t f s W)
 | 0,.node l,f,s,W,k,d,y,b,G,e,x,c,o,q,p=>by
  obtain ⟨r,a,c⟩:∃ r a,W.ss=r++[a]:=⟨_,_,(mu c).symm⟩;subst d;obtain this:=xf w (l:=[]) (s:=s) (F:=λ_ W=>W) (m:=λ_=>0) (R:=8) (by decide) G (fa1 x) e c (fa1 o) (by rw [c,aB,de] at q;exact fa1 q) (fa1 p) (by decide) rfl b.f0 b.fs b.s243 (DI b.f0 b.fs b.s243) (λ_=>aM _) (TW.refl _) (by simp;exact fa1 p) (λi v=>absurd v (qh _));exact this
 | h+1,.node l,f,s,W,k,d,y,b,G,e,x,c,o,q,p=>by
  obtain ⟨r,a,g⟩:∃ r a,W.ss=r++[a]:=⟨_,_,(mu c).symm⟩;have A:1<=3 ^ h:=js _ _ (by decide);have C:=GD (h:=h+1) (fa1 y);rw [pR] at p C;have j:=λn=>BL (F:=λk W=>uT h (l.getD k (.node [])) (f+s*k) (s*l.length) W) (P:=λk=>mw h (l.getD k (.node [])) (f+s*k) (s*l.length)) (eJ (lR l f s) W) (λk W=>yv h _ _ _ W) n;have u:=λn=>sH (F:=λk=>mw h (l.getD k (.node [])) (f+s*k) (s*l.length)) (B:=6*3 ^ h - 2) (λk=>et (xg h _ (f+s*k) (s*l.length) (d.kid' k))) n;obtain z:(eJ (lR l f s) W).ps.length<=W.ps.length+3:=by
   refine (?_:(W.ps++[da (S0 "<n")]++BU (lR l f s)++[da (S0 ">")]).length<=_);have:=uy (lR l f s);simp only [aB,de];exact fa1 this
  have:=xf w (s:=s) (F:=λk W=>uT h (l.getD k (.node [])) (f+s*k) (s*l.length) W) (m:=λk=>xh h (l.getD k (.node []))) (R:=h+9) fa0 G (fa1 x) e g (fa1 o) (by rw [g,aB,de] at q;exact fa1 q) (fa1 p) d.1 (by have:=jM d (fa1 y);rwa [ir] at this) b.f0 b.fs b.s243 (DI b.f0 b.fs b.s243) (λi=>ab (fz (ab (zO h _ (d.kid' i)) C)) (by decide)) (j l.length) (by have:=NC A (ab (u l.length) ((λn o=>en _ o) l.length d.1));exact fa2 p this) (λi v=>?_);·rw [ir];exact this
  ·obtain t:=j i;refine Al w h _ _ _ _ (k+1) (d.kid i v) (fa1 y) (b.kid d.1 v) (t.good (((((G.upd 0 _).upd 2 _).upd 3 _).putS _).upd 1 _)) (by rw [t.ds,mf,<- e];rfl) (fa1 x) (by rw [t.ss];exact List.concat_ne_nil _ _) (by rw [t.ns];refine (?_:(W.ns++[dp []]).length+h<=800);rw [aB,de];exact fa1 o) (by rw [t.ss];refine (?_:(W.ss++[_]).length+h<=801);rw [aB,de];exact fa1 q) ?_;rw [t.ps,aB];have:=NC A (ab (u i) ((λn o=>en _ o) i (cX (aw v d.1))));exact fa3 p z this
structure MK where
 x:ay
 dx:ay
 ats:List (aE × ae)
 ls:List (ay × List ag)
 tl:List (ae × ag)
noncomputable def MK.ne:MK:=⟨0,0,[],[],[]⟩
structure Lr (K:MK) (g:aA) (es:List ce) (ts:List (ay × List ae × Nat)):Prop where
 inst:g.get? K.x=some (q6 228 K.dx)
 ats:v8 es K.ats
 few:es.length<=K.ats.length
 told:∀ p∈K.tl,V g p.1 p.2
 len:ts.length=K.ls.length
 lists:∀ (i:Nat) (a:ay) (ds:List ag),K.ls[i]?=some (a,ds)->∃ vs k,ts[i]?=some (a,vs,k)/\VA g vs ds
 apart:(K.dx::K.ls.map (·.1)).Nodup
noncomputable def xR (K:MK):aA->ae->List (ay × ff)->Prop:=λg v objs=>v=.ref K.x/\∃ es n ts,objs=(K.dx,fv es n)::mI ts/\Lr K g es ts
theorem Lr.mono {K:MK} {g g':aA} {es:List ce} {ts:List (ay × List ae × Nat)} (x:Lr K g es ts) (k:eN g g'):Lr K g' es ts:=
 ⟨k _ _ x.inst,x.ats,x.few,λp e=>(x.told p e).mono k,x.len,λi a f h=>by refine e22 (x.lists i a f h) λd n c b=>?_;exact i22 d n c (b.mono k),x.apart⟩
structure K1 (K:MK) (g h:aA) (off:ay->Prop) (es:List ce) (n:Nat) (ts:List (ay × List ae × Nat)):Prop where
 ok:Lr K g es ts
 dict:h.get? K.dx=some (fv es n)/\off K.dx
 list:∀ t∈ts,h.get? t.1=some (ao t.2.1.toArray t.2.2)/\off t.1
section
variable {w:ar} {sc:bf} {st:Bool} {s₀ s s':af} {g₀ g g':aA} {env:fg} {pr:Pr} {ρ ρ':dh} {r:Nat} {o:m6} {pos:cU} {K:MK} {x:aE} {P:ci} {xs:List cD}
theorem mO {h:aA} {v:ae} (hb:r9 s₀ env g h pr v (.res (xR K))):v=.ref K.x/\∃ d n ts,K1 K g h (l7 s₀ env g pr) d n ts:=by
 revert s₀ g env pr K h v;intros s₀ g env pr K h v;intro hb;refine e23 hb λl k j m c=>?_;clear hb;obtain ⟨rfl,d,n,ts,rfl,q⟩:=m;exact ⟨rfl,d,n,ts,q.mono j,c (K.dx,fv d n) (.head _),λt p=>c (t.1,ao t.2.1.toArray t.2.2) (.tail _ (aX (f:=λt=>(t.1,ao t.2.1.toArray t.2.2)) p))⟩
theorem sP {h:aA} {es:List ce} {n:Nat} {ts:List (ay × List ae × Nat)} (y:K1 K g h (l7 s₀ env g pr) es n ts):r9 s₀ env g h pr (.ref K.x) (.res (xR K)):=
 (i23 g ((K.dx,fv es n)::mI ts) (eN.refl _) ⟨rfl,es,n,ts,rfl,y.ok⟩ (λp a=>by
  rcases mC a with rfl | a;·exact y.dict
  ·refine e12 (mM a) λt c b=>?_;obtain rfl:=b;exact y.list t c))
theorem FS.mak (F:FS w st s₀ g₀ env g pr ρ s) (hx:ρ.lookup x=some (.res (xR K))):∃ c n ts,K1 K g s.heap (l7 s₀ env g pr) c n ts:=by
 refine e11 (F.at hx) λv b=>?_;exact (mO b).2
theorem K1.inst {off:ay->Prop} {h:aA} {es:List ce} {n:Nat} {ts:List (ay × List ae × Nat)} (y:K1 K g h off es n ts) (hs:eN g h):InstAt h K.x (q6 228 K.dx) 228 (some (fv es n)):=⟨hs _ _ y.ok.inst,rfl,rfl,y.dict.1⟩
theorem K1.ne {off:ay->Prop} {h:aA} {es:List ce} {n:Nat} {ts:List (ay × List ae × Nat)} (y:K1 K g h off es n ts) {t:ay × List ae × Nat} (ht:t∈ts):t.1≠K.dx:=λe=>by
 refine e11 (mG ht) λj c=>?_;have a:j<K.ls.length:=by rw [<- y.ok.len];exact (gE c).1
 refine e22 (y.ok.lists j _ _ (an a)) λf k b i=>?_;replace b:=c▸b;refine iM b λd=>?_;clear b;subst d;exact (nC y.ok.apart).1 (e▸J9 (i12 _ (ly a) rfl))
theorem u7 {name:aE} {xp ap:cU} {e:be} {T:ae->Prop} {tl:ae->List (ae × ag)} (hx:ρ.lookup x=some (.res (xR K))) (h:Ev w sc r ρ e P) (R:∀ g v,P g v->T v/\∀ p∈tl v,V g p.1 p.2) (hz:K.ats.length<=50) (ho:cA x ρ=true) (ht:∀ P,Bo (kF.heap_1 P) 228 name=some none) (m:(x==("__classdict__":aE))=false) (l:(x==("__debug__":aE))=false) (hs:∀ env,gO e (some (.Attribute (.Name x xp) name ap)) pos.line env=pure false) {A:bj} (H:cB sc env) (hA:Rm r A) (F:FS w true s₀ g₀ env g pr ρ s) {Q:ui->af->Prop} {E:ae->af->Prop} (q:∀ v I G,eN g I->T v->FS w true s₀ g₀ env I pr ((x,.res (xR {K with ats:=(name,v)::K.ats,tl:=tl v++K.tl}))::ρ) G->Q .next G):aV (MM w) A (HX (.Assign [.Attribute (.Name x xp) name ap] e pos) env) Q E s:=by
 refine (l9 (h A env true s₀ g₀ g pr s H hA F _ _ λv j k C L=>?_) (hs env));refine e02 (R j v L) λB y=>?_;have i:=F.step C;refine dm H i hx (λu z=>?_) m l;obtain ⟨rfl,J,n,M,Y⟩:=mO z;obtain b:=Y.ok.few;refine og (i.ss.base.K.keeps i.ss.sub) (Y.inst i.ss.sub) (ht _) Y.ok.ats.1 (fa2 hz b) λS t d Z f O=>?_;obtain W:FS w true s₀ g₀ env j pr ((x,.res (xR {K with ats:=(name,v)::K.ats,tl:=tl v++K.tl}))::ρ) {k with heap:=S,toks:=k.toks+2}:=by
  refine i.turnAt hx ho f Y.dict.2 λu z=>?_;obtain ⟨rfl,U,X,M,Y⟩:=mO z;refine sP (K:={K with ats:=(name,v)::K.ats,tl:=tl v++K.tl}) ⟨⟨Y.ok.inst,‹K1 K j k.heap _ J n _›.ok.ats.put name d t v,ab (rC name d (.str name t) v J) (dL b),λp N=>(mA N).elim (y p) (Y.ok.told p),Y.ok.len,Y.ok.lists,Y.ok.apart⟩,⟨O,Y.dict.2⟩,λD c=>⟨(f.2 _ (Y.ne c)).trans (Y.list D c).1,(Y.list D c).2⟩⟩
 exact q v j _ C.le B W
theorem vR {name:aE} {xp ap:cU} {e:be} {T:ae->Prop} {tl:ae->List (ae × ag)} (hx:ρ.lookup x=some (.res (xR K))) (h:Ev w sc r ρ e P) (z:∀ g v,P g v->T v/\∀ p∈tl v,V g p.1 p.2) (hz:K.ats.length<=50) (k:∀ v,T v->Ex w sc r ((x,.res (xR {K with ats:=(name,v)::K.ats,tl:=tl v++K.tl}))::ρ) xs o) (ho:autoParam (cA x ρ=true) auT._auto_1) (ht:autoParam (∀ P,Bo (kF.heap_1 P) 228 name=some none) am._auto_9) (i:autoParam ((x==("__classdict__":aE))=false) auF._auto_1) (f:autoParam ((x==("__debug__":aE))=false) auF._auto_1) (hs:autoParam (∀ a,gO e (some (.Attribute (.Name x xp) name ap)) pos.line a=pure false) am._auto_9):Ex w sc r ρ (.Assign [.Attribute (.Name x xp) name ap] e pos::xs) o:=by
 intro A a b d g y s m n F Q E q;exact bI (u7 hx h z hz ho ht i f hs m n F λv C u j l G=>k v l A a b d C y u m n G Q E λD B t c=>q D B t (j.trans c))
theorem fK {name:aE} {xp ap:cU} {e:be} {v:ae} (hx:ρ.lookup x=some (.res (xR K))) (h:Ev w sc r ρ e (RV v)) (hz:K.ats.length<=50) (ho:autoParam (cA x ρ=true) auT._auto_1) (ht:autoParam (∀ P,Bo (kF.heap_1 P) 228 name=some none) am._auto_9) (c:autoParam ((x==("__classdict__":aE))=false) auF._auto_1) (b:autoParam ((x==("__debug__":aE))=false) auF._auto_1) (hs:autoParam (∀ a,gO e (some (.Attribute (.Name x xp) name ap)) pos.line a=pure false) am._auto_9):lF w sc r ρ (.Assign [.Attribute (.Name x xp) name ap] e pos) (.next ((x,.res (xR {K with ats:=(name,v)::K.ats}))::ρ)):=by
 intro A a i j g t s l m F Q E q;refine u7 (T:=λu=>u=v) (tl:=λ_=>[]) hx h (λg u d=>⟨d,λ_ h=>nm h⟩) hz ho ht c b hs l m F λu n k f d p=>?_;obtain rfl:=d;exact q _ n k f ⟨rfl,p⟩
theorem K1.old {h:aA} {off:ay->Prop} {es:List ce} {n:Nat} {ts:List (ay × List ae × Nat)} (y:K1 K g h off es n ts) {a:ay} (c:a∈K.dx::K.ls.map (·.1)):a<h.objs.size:=by
 rcases mC c with rfl | c;·exact aH y.dict.1
 ·refine e12 (mM c) λe j d=>?_;obtain ⟨b,m⟩:=e;obtain rfl:=d;refine e11 (mG j) λi f=>?_;refine e22 (y.ok.lists i b m f) λq k l p=>?_;exact aH (y.list _ (aQ l)).1
theorem vS {name:aE} {xp ap lp:cU} {es:List be} {ds:List ag} (hx:ρ.lookup x=some (.res (xR K))) (h:rf w sc r ρ es (ds.map DV)) (hl:ds.length<=dK) (hz:K.ats.length<=50) (k:∀ a,Ex w sc r ((x,.res (xR {K with ats:=(name,.ref a)::K.ats,ls:=K.ls++[(a,ds)]}))::ρ) xs o) (ho:autoParam (cA x ρ=true) auT._auto_1) (ht:autoParam (∀ P,Bo (kF.heap_1 P) 228 name=some none) am._auto_9) (N:autoParam ((x==("__classdict__":aE))=false) auF._auto_1) (M:autoParam ((x==("__debug__":aE))=false) auF._auto_1):Ex w sc r ρ (.Assign [.Attribute (.Name x xp) name ap] (.List es lp) pos::xs) o:=by
 intro A B m p g L s R V F Q E q;refine bI (l9 (mV (h.run A B true m p g L s _ R V F _ _ λC X j S U=>⟨?_,?_⟩)) rfl);·obtain this:=U.va.length;have:=j8;lia
 ·have I:=F.step S;have H:=I.step (I.ss.same (Stp.push j ({cls:=.type "list",data:=.seq C.toArray}:ff) j.toks));obtain hL:(j.heap.push ({cls:=.type "list",data:=.seq C.toArray}:ff)).get? j.heap.objs.size=some (ao C.toArray 0):=az _ rfl;refine e31 (I.mak hx) λz0 z1 z2 Y1=>?_;have y:=λhm=>Bk _ (Y1.old hm);refine dm R H hx (λu G=>?_) N M;obtain ⟨rfl,es,n,J,Y⟩:=mO G;refine og (H.ss.base.K.keeps H.ss.sub) (Y.inst H.ss.sub) (ht _) Y.ok.ats.1 (fa2 hz Y.ok.few) λh' t D n' z hn=>?_;obtain F3:FS w true m p B X L ((x,.res (xR {K with ats:=(name,.ref j.heap.objs.size)::K.ats,ls:=K.ls++[(j.heap.objs.size,ds)]}))::ρ) {j with heap:=h',toks:=j.toks+2}:=by
   refine H.turnAt hx ho z Y.dict.2 λu G=>?_;obtain ⟨rfl,a0,n0,J,l⟩:=mO G;refine sP (K:={K with ats:=(name,.ref j.heap.objs.size)::K.ats,ls:=K.ls++[(j.heap.objs.size,ds)]}) (ts:=J++[(j.heap.objs.size,C,0)]) ⟨⟨l.ok.inst,Y.ok.ats.put name D t _,ab (rC name D (.str name t) _ es) (dL Y.ok.few),l.ok.told,?_,λi a d hi=>?_,?_⟩,⟨hn,l.dict.2⟩,λT c=>?_⟩;·rw [aB,aB,l.ok.len];rfl
   ·have f:=hi;by_cases v:i<K.ls.length
    ·rw [dN v] at f;rw [dN (by rw [l.ok.len];exact v)];exact l.ok.lists i a d f
    ·rw [eI (ba v)] at f;have W:i - K.ls.length=0:=by
      obtain this:=(gE f).1;simpa using this
     replace f:=W▸f;cases f;refine i22 C 0 ?_ U.va;rw [eI (by rw [l.ok.len];exact ba v),l.ok.len,W];rfl
   ·rw [bM];exact iZ.mpr ⟨l.ok.apart,mq.mpr ⟨gZ,jm⟩,λa ha b G=>by rewrite [mS G];exact λe=>y ((show a=j.heap.objs.size from e)▸ha)⟩
   ·rcases mA c with c | c;·exact ⟨(z.2 _ (l.ne c)).trans (l.list T c).1,(l.list T c).2⟩
    ·obtain rfl:=mS c;exact ⟨(z.2 _ λe=>y (e▸.head _)).trans hL,(I.off (aq _) (I.ss.none (aq _)))⟩
  exact k _ A B m p X L _ R V F3 Q E λfl g2 Z O=>q fl g2 Z (S.le.trans O)
theorem HI {v:ae} {name:aE} {xp:cU} (hx:ρ.lookup x=some (.res (xR K))) (e:K.ats.lookup name=some v) (h:autoParam (JF v=true) auT._auto_1) (f:autoParam (∀ P,pP (kF.heap_1 P) (.ref 228) name=some none) am._auto_9) (b:autoParam ((x==("__classdict__":aE))=false) auF._auto_1) (a:autoParam ((x==("__debug__":aE))=false) auF._auto_1):Ev w sc r ρ (.Attribute (.Name x xp) name pos) (RV v):=by
 intro A k m c d g p s i t F Q E q;refine oS (dm i F hx (λu j=>?_) b a);obtain ⟨rfl,y,n,l,Y⟩:=mO j;refine FY (F.ss.base.K.keeps F.ss.sub) (Y.inst F.ss.sub) rfl (zA (K:=kF.heap_1 w.params) rfl (f _) rfl ?_) h (q _ g _ (F.ss.tok _) rfl);rw [lg,Y.ok.ats.get,e]
theorem FS.turnM (F:FS w st s₀ g₀ env g pr ρ s) {i:Nat} {a:ay} {ds es:List ag} {h':aA} {tk n:Nat} {ws:List ae} (hx:ρ.lookup x=some (.res (xR K))) (hi:K.ls[i]?=some (a,ds)) (ho:cA x ρ=true) (hs:bR a s.heap h') (O:h'.get? a=some (ao ws.toArray n)) (hw:VA g ws es): FS w st s₀ g₀ env g pr ((x,.res (xR {K with ls:=K.ls.set i (a,es)}))::ρ) {s with heap:=h',toks:=tk}:=by
 refine e31 (F.mak hx) λX W H A=>?_;refine e22 (A.ok.lists i a ds hi) λG k0 M V=>?_;refine F.turnAt hx ho hs (A.list _ (aQ M)).2 λv Q=>?_;obtain ⟨rfl,T,L,y,Y⟩:=mO Q;refine e22 (Y.ok.lists i a ds hi) λE k1 z j2=>?_;obtain h:=(gE z).1;have k:(K.ls.set i (a,es)).map (·.1)=K.ls.map (·.1):=by
  rw [ph];obtain p:(K.ls.map (·.1))[i]?=some a:=by rw [av,hi];rfl
  refine e11 (gE p) λS R=>?_;rw [<- R];exact qk S
 have q:∀ (j:Nat) (b:ay) (f:List ag),K.ls[j]?=some (b,f)->j≠i->b≠a:=λj b f c u e=>by
  obtain p:(K.ls.map (·.1))[j]?=some a:=by rw [av,c,e];rfl
  exact u ((tU (gE p).1 ((nC Y.ok.apart).2)).mp (p.trans (show (K.ls.map (·.1))[i]?=some a from by rw [av,hi];rfl).symm))
 refine sP (K:={K with ls:=K.ls.set i (a,es)}) (n:=L) (ts:=y.set i (a,ws,n)) ⟨⟨Y.ok.inst,Y.ok.ats,Y.ok.few,Y.ok.told,by rw [jY,Y.ok.len];exact (jY ..).symm,λj b f c=>?_,by rw [k];exact Y.ok.apart⟩,⟨(hs.2 _ (λe=>(nC Y.ok.apart).1 (e▸J9 (i12 _ (aQ hi) rfl)):K.dx≠a)).trans Y.dict.1,Y.dict.2⟩,λt N=>?_⟩
 ·by_cases d:j=i
  ·subst d;rw [fH ((gE hi).1)] at c;cases c;exact i22 ws n (fH h) hw
  ·rw [gu (db d)] at c ⊢;exact Y.ok.lists j b f c
 ·refine e11 (mG N) λj c=>?_;by_cases d:j=i
  ·subst d;rw [fH h] at c;refine iM c λC=>?_;clear c;subst C;exact ⟨O,((Y.list _ (aQ z)).2)⟩
  ·rw [gu (db d)] at c;refine e02 (Y.list t (aQ c)) λJ I=>?_;have l:j<K.ls.length:=by rw [<- Y.ok.len];exact (gE c).1
   refine e22 (Y.ok.lists j _ _ (an l)) λD Z m U=>?_;replace m:=c▸m;refine iM m λB=>?_;clear m;subst B;exact ⟨(hs.2 _ (q j _ _ (an l) d)).trans J,I⟩
theorem tK {a:ay} {i:Nat} {name:aE} {xp m ap cp:cU} {e:be} {d:ag} {ds:List ag} (hx:ρ.lookup x=some (.res (xR K))) (ha:K.ats.lookup name=some (.ref a)) (hi:K.ls[i]?=some (a,ds)) (h:Ev w sc r ρ e (DV d)) (hz:ds.length<1000) (ho:autoParam (cA x ρ=true) auT._auto_1) (C:autoParam (∀ P,pP (kF.heap_1 P) (.ref 228) name=some none) am._auto_9) (B:autoParam ((x==("__classdict__":aE))=false) auF._auto_1) (y:autoParam ((x==("__debug__":aE))=false) auF._auto_1) (hl:autoParam ((ap.endLine==cp.line)=true) auT._auto_1) (k:autoParam (∀ c,bW [e] c=(false,eW e c)::bW [] c) am._auto_9):lF w sc r ρ (.Expr (.Call (.Attribute (.Attribute (.Name x xp) name m) (ac "append") ap) [e] [] cp) pos) (.next ((x,.res (xR {K with ls:=K.ls.set i (a,ds++[d])}))::ρ)):=by
 intro A c j l g X s H O F Q E q;refine eV ?_ H.int rfl;refine e11 (eS (o:=.Attribute (.Name x xp) name m) (name:=ac "append") (args:=[e]) (λ_=>rfl) (uU k _ c) hl (show 1<30 by decide)) λpl hc=>?_;refine eH (HI hx ha rfl C B y A c true j l g X s H O F _ _ λv g1 W M V=>?_) hc;obtain rfl:=V;have J:=F.step M;refine e31 (J.mak hx) λz0 z1 z2 S=>?_;refine e22 (S.ok.lists i a ds hi) λp n Z z3=>?_;have f:=(S.list _ (aQ Z)).1;obtain G:W.heap.IsList a p.toArray:=⟨_,f,rfl,n,rfl⟩;refine dY G.typeIs eb dU jU (λb e=>by cases e;exact i12 _ f rfl) ?_;refine cL H O J (rf.cons h rf.nil vH.d k) (D9.plain λa e=>by cases e) λus g2 t L N=>?_;refine e11 (hY N.length.symm) λu U=>?_;obtain rfl:=U;have T:=J.step L;refine e31 (T.mak hx) λz5 z6 z7 R=>?_;refine e22 (R.ok.lists i a ds hi) λp n Y I=>?_;have f:=(R.list _ (aQ Y)).1;obtain D:t.heap.IsList a p.toArray:=⟨_,f,rfl,n,rfl⟩;refine ck dU D.typeIs jw ?_ (jV _ _);obtain z:=eY;refine (?_:aV _ _ (nY a (·.push u)>>=λ_=>ug dD) _ _ t);refine aa (eX f rfl (ah (i12 dD rfl ?_)) (by rw [bk];exact fa3 hz (aj z.symm) (aj I.length)) (by simp;exact fa3 hz (aj z.symm) (aj I.length)));obtain C:(t.heap.update a (bu (·.push u))).get? a=some (ao (p++[u]).toArray (n+1)):=by
  rw [bn _ f rfl,gW]
 exact q _ g2 _ (M.trans L).le ⟨rfl,T.turnM hx hi ho (aU ..) C (I.append (.cons N.1 (VA.nil _)))⟩
end
noncomputable def ME:List (String × String):=[("http://www.w3.org/XML/1998/namespace","xml"),("http://www.w3.org/1999/xhtml","html"),("http://www.w3.org/1999/02/22-rdf-syntax-ns#","rdf"),("http://schemas.xmlsoap.org/wsdl/","wsdl"),("http://www.w3.org/2001/XMLSchema","xs"),("http://www.w3.org/2001/XMLSchema-instance","xsi"),("http://purl.org/dc/elements/1.1/","dc")]
noncomputable def MF:List aE:=ME.map λp=>S0 p.1
noncomputable def MG:List ag:=ME.map λp=>.str (S0 p.2)
section
variable {w:ar} {sc:bf} {r:Nat} {ρ ρ':dh} {pos:cU} {o:m6} {x:aE} {xs:List cD}
theorem xx {α:Type} (E:α->ce) (F:α->aE × ae) (h:∀ a,(aZ PR w).is (F a).1 (E a).key=true/\(E a).val=(F a).2):∀ l:List α,Pairs (aZ PR w) (l.map E) (l.map F)
 | []=>.nil
 | a::l=>.cons (h a).1 (h a).2 (xx E F h l)
theorem GJ {h:aA} (X:(kF.heap_1 w.params).In h):DictV w MF MG h (.ref 122):=by
 revert w h;intros w h;intro X;refine i25 122 (ME.zipIdx.map λp=>(S0 p.1.1,.str (S0 p.1.2) (471+2*p.2))) rfl rfl ⟨_,(ME.zipIdx.map λp=>{hash:=m8 w.params (S0 p.1.1),key:=.str (S0 p.1.1) (470+2*p.2),val:=.str (S0 p.1.2) (471+2*p.2)}).toArray,7,X 122 _ rfl,(i03 rfl rfl rfl),rfl,λe b=>?_,xx _ _ (λp=>⟨ii PR w _ _,rfl⟩) _,?_⟩ rfl ?_
 ·refine e12 (mM (List.mem_toArray.mp b)) λp c a=>?_;obtain rfl:=a;exact i12 (S0 p.1.1) (ii PR w _ _) rfl
 ·decide+kernel
 ·exact VA.cons (V.str _ _) (VA.cons (V.str _ _) (VA.cons (V.str _ _) (VA.cons (V.str _ _) (VA.cons (V.str _ _) (VA.cons (V.str _ _) (VA.cons (V.str _ _) (VA.nil _)))))))
theorem HD (hx:autoParam (sc.names.lookup (S0 "_namespace_map")=some .globalImplicit) auS._auto_1):Ev w sc r ρ (.Name (S0 "_namespace_map") pos) (DictV w MF MG):=by
 intro A c e a b g h s j k F Q E q;refine Ev.glob (λ_=>rfl) hx rfl A c e a b g h s j k F Q E λv l f d i=>q v l f d ?_;obtain rfl:=i;exact GJ (F.step d).ss.base.K
theorem Jr {R R':aA->ae->List (ay × ff)->Prop} (hx:ρ.lookup x=some (.res R)) (hR:∀ g v a,R g v a->R' g v a):Ex w sc r ρ [] (.next [(x,.res R')]):=by
 intro A t e f g u s z B F Q E q;refine nF (q _ g s (eN.refl g) ⟨rfl,F.ss₀,F.aft,F.newL,F.notL,?_,F.cells,F.apart,F.prot,F.newC⟩);obtain ⟨m,j,i⟩:=F.vars;refine i12 m j (λy b c=>?_);rw [aK] at c;split at c
 ·refine iM c λh=>?_;clear c;subst h;obtain rfl:y=x:=by simpa using ‹(y==x)=true›
  obtain ⟨v,k,d,a,p,n,l⟩:=i y _ hx;exact ⟨v,k,d,a,p,hR _ _ _ n,l⟩
 ·cases c
theorem CE {e:be} {d:ag} {v:ae} (h:Ev w sc r ρ e (DV d)) (l:∀ g u,V g u d->u=v):Ev w sc r ρ e (RV v):=λA c i a b g k s n p F Q E q=>h A c i a b g k s n p F Q E λu t j f m=>q u t j f (l _ _ m)
end
noncomputable def OM:List ag:=[.list (pz MF MG),.list []]
noncomputable def L9 (wa aD aN aS:ay) (dv pm ig:ae):List (aE × ae):=[(S0 "_ignored_depth",ig),(S0 "_root_done",.bool false),(S0 "_root_seen",.bool false),(S0 "_pending_start",.none),(S0 "_preserve_space",.ref aS),(S0 "_prefix_map",pm),(S0 "_ns_stack",.ref aN),(S0 "_declared_ns_stack",.ref aD),(S0 "_find_qname_aware_attrs",.none),(S0 "_qname_aware_tags",.none),(S0 "_rewrite_prefixes",.bool false),(S0 "_exclude_tags",.none),(S0 "_exclude_attrs",.none),(S0 "_strip_text",.bool false),(S0 "_with_comments",.bool false),(S0 "_data",dv),(S0 "_write",.ref wa)]
noncomputable def NI (x dx wa aD aN aS:ay) (dv pm ig:ae):MK:=⟨x,dx,L9 wa aD aN aS dv pm ig,[(aD,l5 0),(aN,OM),(aS,[.bool false])],[(dv,.list [])]⟩
noncomputable def Hy (x dx wa:ay):aA->ae->List (ay × ff)->Prop:=λg v objs=>∃ aD aN aS dv pm t,xR (NI x dx wa aD aN aS dv pm (.int 0 t)) g v objs
set_option maxHeartbeats 2000000 in
theorem KO (w:ar) {x dx wa:ay} {A:bj} {g:aA} {s:af} (hA:Rm 4 A) (S:SS w g s) (hi:g.get? x=some (q6 228 dx)) (j:s.heap.get? dx=some (fv [] 0)/\tZ g dx) {Rr:eB->af->Prop}
  (q:∀ F z c K,nU ⟨[(dx,fv [] 0)],[]⟩ s g z F->eN K F->Hy x dx wa K (.ref x) c->(∀ p∈c,(z.heap.get? p.1=some p.2/\tZ F p.1)/\(p.1∈addrs ⟨[(dx,fv [] 0)],[]⟩\/s.heap.get? p.1=none))->Rr (.ok (.ret .none)) z):gn (MM w) A (.call (.ref 145) ⟨[.ref x,.ref wa],[]⟩) Rr s:=by
 revert hA S hi j q
 revert w x dx wa A g s Rr
 intros w x dx wa A g s Rr;intro hA S hi j q
 refine' xU (x0:=S0 "self") (xs:=[S0 "write",S0 "with_comments",S0 "strip_text",S0 "rewrite_prefixes",S0 "qname_aware_tags",S0 "qname_aware_attrs",S0 "exclude_attrs",S0 "exclude_tags"]) (Ro:=xR ⟨x,dx,[],[],[]⟩) (Ro':=Hy x dx wa) (P:=RV .none) (ρ':=[(S0 "self",.res (Hy x dx wa))]) (ps:=[RV (.ref wa)]) (vs0:=[.ref wa]) (objs:=[(dx,fv [] 0)]) [.bool false,.bool false,.bool false,.none,.none,.none,.none] ?ho ?hcd ?h1 ?h2 ?h3 ?h4 ?hbind ?hp ?hnd ?hkind ?h8 ?h5 ?h6 ?h7 (.inr ⟨?h,λ_=>rfl⟩) ?hw hA S ⟨rfl,trivial⟩ ?hR ?hob ?q
 case ho=>exact rfl
 case hcd=>exact rfl
 case h1=>exact rfl
 case h2=>exact rfl
 case h3=>exact rfl
 case h4=>exact rfl
 case hnd=>decide
 case hkind=>decide
 case h8=>decide
 case h5=>exact rfl
 case h6=>exact rfl
 case h7=>exact rfl
 case hw=>exact rfl
 case hbind=>
  intro vs s X hv;have J:vs.length=2:=by simpa using hv
  refine e21 (jz J) λa b z0=>?_;obtain rfl:=z0;exact C5 X λ_=>rfl
 case hp=>obtain R:∀ b:Bool,tN (RV (.bool b)) (.d (.bool b)):=λb _ _ _ _ _ _ h=>h▸V.bool b;obtain H:tN (RV .none) (.d .none):=λ_ _ _ _ _ _ h=>h▸V.none;exact .cons tN.raw (.cons (R _) (.cons (R _) (.cons (R _) (.cons H (.cons H (.cons H (.cons H .nil)))))))
 case hR=>exact ⟨rfl,[],0,[],rfl,hi,⟨λ_ h=>(nm h),λ_=>rfl⟩,aq _,λ_ h=>(nomatch h),rfl,λ_ _ _ h=>((by cases h)),mq.mpr ⟨gZ,jm⟩⟩
 case hob=>intro p I;obtain rfl:=mS I;exact j
 case q=>intro u F z c v1 K y M N D f;obtain rfl:=f;refine e61 N λY W U O L t Z=>?_;clear N;obtain rfl:=Z.1;exact q F z c K y M ⟨Y,W,U,O,L,t,Z⟩ D
 case h=>refine zz.of ?_;refine Ex.cons (fK rfl (CH rfl) (ax rfl)) ?_;refine vR (P:=LL []) (T:=λ_=>True) (tl:=λv=>[(v,.list [])]) rfl (Ev.list .nil (aM _)) (λg v h=>⟨trivial,λp I=>by obtain rfl:=mS I;exact h⟩) (ax rfl) λO _=>?_;obtain Q:∀ {m:bf} {l:dh} {n:aE} {e:cU},l.lookup n=some (.d (.bool false))->(n==("__classdict__":aE))=false->(n==("__debug__":aE))=false->Ev w m 3 l (.Name n e) (RV (.bool false)):=λh h1 J=>CE (al h h1 J) λg u f=>f.bool_inv;obtain G:∀ {m:bf} {l:dh} {e:cU} {k:Nat},Ev w m 3 l (.Constant (.bool false) k e) (RV (.bool false)):=CE Ev.bool λg u f=>f.bool_inv;obtain C:∀ {m:bf} {l:dh} {e:cU} {k:Nat},Ev w m 3 l (.Constant .none k e) (RV .none):=CE Ev.nil λg u f=>f.none_inv;refine Ex.cons (fK rfl (Q rfl rfl rfl) (ax rfl)) ?_;refine Ex.cons (fK rfl (Q rfl rfl rfl) (ax rfl)) ?_;refine Ex.cons (fK rfl (sW (Tr.val (al rfl) AO.none) C) (ax rfl)) ?_;refine Ex.cons (fK rfl (sW (Tr.val (al rfl) AO.none) C) (ax rfl)) ?_;refine Ex.cons (fK rfl (Q rfl rfl rfl) (ax rfl)) ?_;refine Ex.cons (cf (Tr.val (al rfl) AO.none) (Ex.cons (fK rfl C (ax rfl)) Ex.nil)) ?_;refine Ex.cons (cf (Tr.val (al rfl) AO.none) (Ex.cons (fK rfl C (ax rfl)) Ex.nil)) ?_;refine vS (ds:=l5 0) rfl (.one (Ev.list (.one (Ev.tuple (.consD .str (.one .str)) (by decide))) (by decide))) (by decide) (ax rfl) λY=>?_;refine vS (ds:=[]) rfl .nil (by decide) (ax rfl) λW=>?_;refine Ex.cons (fr (y5 (Tr.val (al (d:=.bool false) rfl) AO.bool)) (Ex.cons (tK (i:=1) (ds:=[]) rfl rfl rfl (bZ (.cons (vT HD .nil yh yd iu.items) .nil y8.mono) (wM (by decide))) (by decide)) Ex.nil)) ?_;refine Ex.cons (tK (i:=1) (ds:=[.list (pz MF MG)]) rfl rfl rfl (Ev.list (ds:=[]) .nil (aM _)) (by refine (?_:1<1000);decide)) ?_;refine vR (T:=λ_=>True) (tl:=λ_=>[]) rfl vV (λ_ _ _=>⟨trivial,λ_ h=>(nm h)⟩) (ax rfl) λL _=>?_;refine vS (ds:=[.bool false]) rfl (.one .bool) (by decide) (ax rfl) λU=>?_;refine Ex.cons (fK rfl C (ax rfl)) (Ex.cons (fK rfl G (ax rfl)) (Ex.cons (fK rfl G (ax rfl)) ?_));refine vR (P:=II 0) (T:=λv=>∃ t,v=.int 0 t) (tl:=λ_=>[]) rfl .int (λ_ _ h=>⟨h.int_inv,λ_ h=>(nm h)⟩) (ax rfl) λig E=>?_;refine e11 E λt z1=>?_;clear E;obtain rfl:=z1;exact Jr (R':=Hy x dx wa) rfl λg v B h=>⟨Y,W,U,O,L,t,h⟩
end
section
open PySem.Spec PySem.Calls PySem.W PyProof.Rows Builtin Builtin.ObjectAttr
theorem xm:Oq "method_descriptor" "__get__" "method_descriptor.__get__":=
 .of (owner:="method_descriptor") (n:="__get__") (by kernel_rfl) (by decide+kernel) (by decide+kernel) (by decide+kernel)
  (by first | exact .inl (by decide+kernel) | exact .inr (rfl+kernel)) (by kernel_rfl)
theorem Ch:wW Lz "method_descriptor.__get__"=some Builtin.«method_descriptor.__get__»:=zj (by kernel_rfl)
theorem E3 (a b c:ae):Ol "method_descriptor.__get__" ⟨[a,b,c],[]⟩:=by unfold Ol;kernel_rfl
theorem Az {M:lM} {h:aA} {a:ay} {vs:List ae} {n:Nat} (d:h.get? a=some (ao vs.toArray n)):JG M h (find (.ref a) (.type "list") "append") (.bind (.builtin "method_descriptor.__get__") (.builtin "list.append")):=by
 obtain c:∀ b r,K8 (.type "method_descriptor") b=pure r->JG M h (specialOf (.builtin "list.append") b) r:=λb r e=>(iH jU).andThen (iH e);refine (iH dU.lookup).andThen ((c "__get__" _ xm.lookup).andThen ?_);obtain f:=(c "__set__" none (by kernel_rfl)).andThen ((c "__delete__" none (by kernel_rfl)).andThen .now);refine (show JG M h (inOwnDict "append" (.ref a)) none from ((C7 (part:=some headPart) d).andThen ((C7 (part:=some headPart) d).andThen .now):JG M h (ownDict a) none).andThen .now).andThen ?_;exact (show JG M h (copiedAttributeGuard "append" (.ref a)) () from .now).andThen (Looks.tag .now)
section
variable {w:ar} {A:bj} {s:af} {a:ay} {vs:List ae} {n:Nat}
theorem Gv {E:ae->af->Prop} {P:Fin->af->Prop} (c:s.heap.get? a=some (ao vs.toArray n)) (h:P (.done (.ret (.ref s.heap.objs.size))) {s with heap:=s.heap.push (kb a)}): aV (MM w) A (Builtin.«method_descriptor.__get__» ⟨[.builtin "list.append",.ref a,.type "list"],[]⟩) P E s:=by
 refine aa (fY (a:=(.builtin "list.append",some (.ref a),some (.type "list"))) (by first | rfl | kernel_rfl) ?_);dsimp only;rw [if_neg (by decide+kernel)];refine aa (aa (fY (a:=((ac "append":aE),gx "list")) (by kernel_rfl) ?_));refine aa (eF (T:="list") (b:=true) ((i12 _ c rfl)) (by kernel_rfl) ?_);refine KFB.if_not rfl (ah ?_);exact aa (eU (ah h))
theorem Ce {E:ae->af->Prop} {Q:ae->af->Prop} (c:s.heap.get? a=some (ao vs.toArray n)) (h:∀ t,Q (.ref s.heap.objs.size) {s with heap:=s.heap.push (kb a),toks:=t}): aV (MM w) A (getAttr (.ref a) (ac "append") true) Q E s:=by
 obtain ⟨j,g,d,f,i⟩:=s;obtain e:∀ b,(⟨j,g,d,b,i⟩:af).TypeIs (.ref a) "list":=λ_=>(i12 _ c rfl);refine aa (Pa (bw (aa (iW (e _) (aa (fY tg.lookup ?_))))));refine aa (ah (aa (eQ (bw ?_))));refine ck tg (e _) am_entry_list_getattribute ?_ (PySem.F.args_list_getattribute_2 _ _);refine aa (fY (a:=(cw a,[oO (ac "append") f])) (by kernel_rfl) (aa (ah (aa (iW (e _) (aa ((Az c).at ?_)))))));exact aa (bw (ck xm jU Ch (Gv c (i12 _ rfl (ah (i12 _ rfl (ah (h _)))))) (E3 _ _ _)))
end
end
section
open PySem.Spec PySem.Calls PySem.W PyProof.Rows
section
variable {w:ar} {sc:bf} {st:Bool} {s₀ s s':af} {g₀ g g':aA} {env:fg} {pr:Pr} {ρ ρ':dh} {r:Nat} {A:bj} {pos:cU} {objs:List (ay × ff)}
theorem FS.addN (F:FS w st s₀ g₀ env g pr ρ s) (x:iB s g s' g') (ho:∀ p∈objs,(s'.heap.get? p.1=some p.2/\tZ g' p.1)/\s.heap.get? p.1=none):FS w st s₀ g₀ env g' (dg ⟨objs,[]⟩ pr) ρ s'/\eg ⟨objs,[]⟩ pr:=by
 have i:∀ p∈objs,∀ b o,s.heap.get? b=some o->p.1≠b:=λp d b o e z=>by rw [<- z,(ho p d).2] at e;exact lE e
 obtain f:=F.step x;obtain ⟨m,j,E⟩:=F.vars;refine ⟨⟨F.ss₀,f.aft,F.newL,f.notL,(i12 m (j.at' λo e=>x.keep _ o e F.tabL) (λy b G=>?_)),f.cells,F.apart,⟨λp d=>?_,f.prot.gens⟩,F.newC⟩,λp d h=>?_,λp _ h=>nomatch h⟩
 ·refine e12 (E y b G) λv k t=>?_;refine i12 v ?_ (t.move x.le λb o a e=>(i06 (x.keep b o e a.2.1.2) (x.fresh a.1 (aH e)) a.2.1 a.2.2.1 a.2.2.2.1 (λp d=>(mA d).elim (λh=>i p h b o e) (a.2.2.2.2 p))));rcases k with k | ⟨hk,c,l,hcv⟩;·exact .inl k
  ·exact .inr ⟨hk,c,l,IsCell.at hcv λo e=>x.keep _ o e (nR F.ss.tabs hcv)⟩
 ·rcases mA d with d | d
  ·refine e02 (ho p d) λB C=>?_;refine e03 B λI H D=>?_;clear B;refine i05 I H ⟨?_,D⟩ ?_ (λn c l e=>?_)
   ·cases q:s₀.heap.get? p.1 with
    | none=>rfl
    | some o=>rw [F.aft.keep _ _ q D] at C;exact NP C
   ·refine e32 j λo O N e M=>?_;clear j;exact i p d _ o e
   ·refine e02 (F.cells n c l) λu L=>?_;refine e22 u λv o J K=>?_;clear u;exact i p d _ o J e.symm
  ·exact f.prot.objs p d
 ·refine e11 (gI h) λo a=>?_;exact i _ a _ _ (F.prot.objs p d).1 rfl
theorem Rm.make {a b:ay} (h:Rm (r+1) A):Rm r (A.under (.builtin "type.__call__" ⟨[.ref a,.ref b],[]⟩)):=by
 obtain this:=h.depth;refine ⟨h.handled,?_,?_⟩
 ·refine (?_:A.depth+(tQ "type.__call__" ⟨[.ref a,.ref b],[]⟩).weight+4*r<=900);rw [(show (tQ "type.__call__" ⟨[.ref a,.ref b],[]⟩).weight=1 from by kernel_rfl)];lia
 ·refine (?_:A.units+(tQ "type.__call__" ⟨[.ref a,.ref b],[]⟩).cUnits+40*r<=9000);rw [(show (tQ "type.__call__" ⟨[.ref a,.ref b],[]⟩).cUnits=1 from by kernel_rfl)];exact fa1 h.units
theorem BY {wa:ay} (hA:Rm 5 A) (S:SS w g s) {Q:ae->af->Prop} {E:ae->af->Prop} (q:∀ x H b l k i,iB s g i k->eN l k->Hy x H wa l (.ref x) b->(∀ p∈b,(i.heap.get? p.1=some p.2/\tZ k p.1)/\s.heap.get? p.1=none)->Q (.ref x) i):aV (MM w) A (call (.ref 228) [.ref wa]) Q E s:=by
 obtain X:=S.base.K.keeps S.sub;have u:=S.same (Stp.push s emptyDict s.toks);have C:=S.step u;refine e12 (C.growPush (q6 228 s.heap.objs.size) s.toks rfl) λK m G=>?_;obtain z:(s.heap.push emptyDict).objs.size=s.heap.objs.size+1:=cm ..;obtain v:s.heap.get? s.heap.objs.size=none:=Ej (aq _);obtain ⟨h,J,d,t,I⟩:=s;refine iX (make_core (makes_of X rfl) (looks_findIn X rfl) (λf=>bind_fn X f rfl) (.inl rfl) ?_);refine KO w hA.make (C.step m) (by rw [<- z];exact G) ⟨au _ (az _ rfl),m.fresh (S.none (aq _)) (by rw [z];exact bU _),eD S.big⟩ λk i c l y n F j=>⟨rfl,?_⟩;refine q _ _ c l k i (nU.over (u.trans m) (λa D=>?_) rfl y) n F λp B=>⟨(j p B).1,?_⟩
 ·obtain rfl:=mS D;exact v
 ·rcases (j p B).2 with e | e;·rw [show p.1=h.objs.size from mS e];exact v
  ·cases q:h.get? p.1 with
   | none=>rfl
   | some o=>rw [au _ (au _ q)] at e;exact NP e
end
noncomputable def NA (x dx wa aD aN aS aP:ay) (dv pm ig:ae):Wr:=⟨x,dx,aD,aN,aS,aP,l5 0,OM,[.bool false],[],wa,dv,L9 wa aD aN aS dv pm ig⟩
section
variable {w:ar} {sc:bf} {st:Bool} {s₀ s s':af} {g₀ g g':aA} {env:fg} {pr:Pr} {ρ ρ':dh} {r:Nat} {A:bj} {pos:cU} {objs:List (ay × ff)}
theorem Iq {x dx wa aD aN aS aP:ay} {dv pm:ae} {t:C9} {h:aA} {off:ay->Prop} {es:List ce} {n k:Nat} {ts:List (ay × List ae × Nat)} {vs:List ae} (e:Lr (NI x dx wa aD aN aS dv pm (.int 0 t)) g es ts) (ho:∀ p∈(dx,fv es n)::mI ts,h.get? p.1=some p.2/\off p.1) (o:g.get? wa=some (kb aP)) (hp:h.get? aP=some (ao vs.toArray k)/\off aP) (y:VA g vs []) (q:∀ b∈[dx,aD,aN,aS],b≠aP):zv (NA x dx wa aD aN aS aP dv pm (.int 0 t)) g h off es n (ts++[(aP,vs,k)]):=by
 obtain c:ts.length=3:=e.len;refine ⟨⟨e.inst,o,e.told _ (.head _),e.ats,ab e.few (by refine (?_:17<=100);decide),by rw [aB,c];rfl,λi a v j=>?_,?_⟩,ho _ (.head _),λm l=>?_⟩
 ·obtain j:((NI x dx wa aD aN aS dv pm (.int 0 t)).ls++[(aP,[])])[i]?=some (a,v):=j;by_cases d:i<3
  ·rw [dN d] at j;rw [dN (c▸d)];exact e.lists i a v j
  ·obtain u:=(gE j).1;obtain rfl:i=3:=by have:i<4:=u;exact Nat.eq_of_lt_succ_of_not_lt u d
   cases j;exact i22 vs k (by rw [eI (aj c),c];rfl) y
 ·refine (?_:([dx,aD,aN,aS]++[aP]).Nodup);exact iZ.mpr ⟨e.apart,mq.mpr ⟨gZ,jm⟩,λa B b z=>by rw [mS z];exact q a B⟩
 ·rcases mA l with l | l;·exact ho (m.1,ao m.2.1.toArray m.2.2) (.tail _ (aX (f:=λt=>(t.1,ao t.2.1.toArray t.2.2)) l))
  ·rw [mS l];exact hp
theorem Ir {x dx wa aD aN aS aP:ay} {dv pm:ae} {t:C9}:lj (NA x dx wa aD aN aS aP dv pm (.int 0 t)):=⟨rfl,rfl,rfl,rfl,rfl,rfl,rfl,rfl,rfl,rfl,⟨t,rfl⟩,rfl,rfl,rfl,rfl,rfl,rfl,rfl⟩
theorem Lr.addrs3 {K:MK} {a b c:ay} {d1 d2 d3:List ag} {es:List ce} {n:Nat} {ts:List (ay × List ae × Nat)} (hM:Lr K g es ts) (hk:K.ls=[(a,d1),(b,d2),(c,d3)]):addrs ⟨(K.dx,fv es n)::mI ts,[]⟩=[K.dx,a,b,c]:=by
 revert g K a b c d1 d2 d3 es n ts;intros g K a b c d1 d2 d3 es n ts;intro hM hk;obtain ⟨v0,k0,e0,_⟩:=hM.lists 0 a d1 (by rw [hk];rfl);obtain ⟨v1,k1,e1,_⟩:=hM.lists 1 b d2 (by rw [hk];rfl);obtain ⟨v2,k2,e2,_⟩:=hM.lists 2 c d3 (by rw [hk];rfl);replace hM.len:=hk▸hM.len;obtain ⟨x,y,z,rfl⟩:=yM hM.len;cases e0;cases e1;cases e2;rfl
set_option maxHeartbeats 2000000 in
theorem HC {x y:aE} {aP:ay} {z:Bool} {t:du} {np cp pp ap G rp p0 p1:cU} {k0 k1:Nat} (hx:D.lookup x=some (.own aP [] z)) (hy:D.lookup y=some (.d t.dat)) (ok:rV 4 t) (ho:autoParam (cA x D=true) auT._auto_1)
  (h1:autoParam (X.names.lookup (S0 "_law_tell")=some .globalImplicit) auS._auto_1) (h2:autoParam (X.names.lookup (S0 "C14NWriterTarget")=some .globalImplicit) auS._auto_1) (O:autoParam ((x==("__classdict__":aE))=false) auF._auto_1) (N:autoParam ((x==("__debug__":aE))=false) auF._auto_1) (M:autoParam ((y==("__classdict__":aE))=false) auF._auto_1) (L:autoParam ((y==("__debug__":aE))=false) auF._auto_1):
  FT w X (r+14) D (.Call (.Name (S0 "_law_tell") np) [.Call (.Name (S0 "C14NWriterTarget") cp) [.Attribute (.Name x pp) (ac "append") ap] [] G,.Name y rp,.Constant (.int 0) k0 p0,.Constant (.int 1) k1 p1] [] j) (LL (jo (xh 4 t))) ((x,.own aP (mw 4 t 0 1) z)::D):=by
 revert w X D r j x y aP z t np cp pp ap G rp p0 p1 k0 k1
 intros w X D r j x y aP z t np cp;intros pp ap G rp p0 p1 k0 k1;intro hx hy ok ho h1 h2 O N M L
 intro A c d l g pr s he U F Q E q
 obtain k:=λf hk h B=>D9.top hk _ w h B
 refine (?_:aV (MM w) A (do wX j (<- eW (.Name (S0 "_law_tell") np) c) [] (lJ j (bW _ c)) (Ok j (JC [] c))) Q E s)
 refine aa (Ev.glob (v:=.ref 277) (λ_=>rfl) h1 (by decide) A c true d l g pr s he U F _ _ λv g1 s1 x1 hv=>?_)
 obtain rfl:=hv
 obtain F1:=F.step x1
 refine lh (P:=wP w) rfl (k _ λ_=>rfl) (fA (.inr (i21 _ _ rfl)) (gj ?_))
 refine (?_:aV (MM w) A (do wX G (<- eW (.Name (S0 "C14NWriterTarget") cp) c) [] (lJ G (bW _ c)) (Ok G (JC [] c))) _ E s1)
 refine aa (Ev.glob (v:=.ref 228) (λ_=>rfl) h2 (by decide) A c true d l g1 pr s1 he U F1 _ _ λv g2 s2 x2 hv=>?_)
 obtain rfl:=hv
 have F2:=F1.step x2
 refine lh (P:=wP w) rfl (k _ λ_=>rfl) (fA (.inr (i21 _ _ rfl)) (gj (oS (dm he F2 hx (λu C=>?_) O N))))
 refine e04 C λz0 z1 b3 z2=>?_
 clear C
 obtain rfl:=z0
 refine e22 z1 λvs n b1 b2=>?_
 clear z1
 refine Ce b1 λtk=>gM ?_
 refine e12 (F2.ss.growPush (kb aP) tk rfl) λg3 x3 e3=>?_
 obtain F3:=F2.step x3
 refine ⟨F3.ss.base.keeps F3.ss.sub,BY (U.le fa0) F3.ss λxw H a6 b0 g4 s4 x4 a5 hF a3=>?_⟩
 refine e02 (F3.addN x4 a3) λF4 ap=>?_
 refine (rf.cons (al hy M L) (rf.cons (Ev.int (i:=0)) (rf.cons (Ev.int (i:=1)) .nil vH.d) vH.d) vH.d).run A c true d l g4 _ s4 j he U F4 _ _ λus g5 s5 W hu=>?_
 have J:=F4.step W
 refine ⟨J.ss.base.keeps J.ss.sub,?_⟩
 refine bc λnO=>?_
 obtain ⟨aD,aN,aS,dv,pm,K,a9,es,n',ts,rfl,hM⟩:=hF
 refine e03 (J.own hx) λz3 I c4=>?_
 refine e22 z3 λa7 n5 c1 c2=>?_
 clear z3
 refine nO ?_
 clear nO
 obtain R:∀ p∈(H,fv es n')::mI ts,s5.heap.get? p.1=some p.2/\l7 d c g5 pr p.1:=λp Z=>by
  refine e05 (J.prot.objs p (bG _ Z)) λd1 d2 d3 d4 d5=>?_;exact i06 d1 d2 d3 d4 d5 (λp' a2 e=>ap.objs p' a2 (by rw [e];exact aX Z))
 have V:=(i05 I.1 I.2.1 I.2.2.1 I.2.2.2.1 (λp Z=>I.2.2.2.2 p (aW _ Z)))
 obtain S:addrs ⟨(H,fv es n')::mI ts,[]⟩=[H,aD,aN,aS]:=hM.addrs3 rfl
 have Y:=Iq (hM.mono (a5.trans W.le)) R ((x4.le.trans W.le) _ _ e3) ⟨c1,V⟩ c2 λb C e=>by
  rw [<- S] at C;refine e11 (gI C) λo a4=>?_;exact I.2.2.2.2 _ (bG _ a4) e
 have T:=Al w 4 t 0 1 _ 0 ok (by decide) ⟨by decide,by decide,by decide⟩ (Ir (x:=xw) (dx:=H) (wa:=s2.heap.objs.size) (aD:=aD) (aN:=aN) (aS:=aS) (aP:=aP) (dv:=dv) (pm:=pm) (t:=K)) rfl (by decide) (by exact lB _ _) (by refine (?_:2+4<=800);decide) (by refine (?_:1+4<=801);decide) (by refine (?_:0+6*3 ^ 4<=860);decide)
 refine T.2 A g5 s5 us es n' _ (U.le fa0) J.ss hu (Y.re (eN.refl _) λb _ o m e=>(i03 e m.1 m.2.1.2)) Q E λu g6 s6 b4 n6 a8 X6 Y6 a1=>?_
 have eP:(uT 4 t 0 1 (NA xw H s2.heap.objs.size aD aN aS aP dv pm (.int 0 K))).aP=aP:=by
  obtain this:=T.1.addrs;simp only [Wr.addrs,Wr.lists,bV,Bv,lm] at this;exact this.2.2.2.2.1
 refine e24 (Y6.at (i:=3) rfl) λa0 k6 z4 j1 j2 j3=>?_
 rw [eP] at j2 j3
 rw [(yv 4 t 0 1 _).ps] at j1
 refine q u g6 s6 (((((x1.le.trans x2.le).trans x3.le).trans x4.le).trans W.le).trans X6.le) (J.drop.turnX hx ho (λa ha=>?_) rfl X6 λv C=>(i04 C.1 (i22 a0 k6 j2 j1) ⟨j3.1,V.2⟩ C.2.2.2)) a1
 replace ha:=Y.addrs▸ha
 exact (Y.all ha).1
end
noncomputable def rD (g:aA):ae->Int
 | .ref a=>match g.get? a with
  | some o=>match o.data with
   | .seq xs _=>LI (xs.getD 0 .none)*1048576+LI (xs.getD 1 .none)
   | _=>0
  | none=>0
 | _=>0
section
variable {w:ar} {r:Nat} {g h:aA}
theorem BV {v:ae} {p:Int × Int} (c:V g v (cP p)):Hv g v p.1 p.2/\rD g v=p.1*1048576+p.2:=by
 revert g v p;intros g v p;intro c;refine bc λm=>?_;refine e23 (V.tuple_inv c) λa s l k b=>?_;obtain rfl:=l;obtain ⟨o,d,q,n,e⟩:=k;refine e21 (jz b.length) λx z j=>?_;obtain rfl:=j;refine e11 b.uncons.1.int_inv λt i=>?_;obtain rfl:=i;refine e11 b.uncons.2.uncons.1.int_inv λu f=>?_;obtain rfl:=f;refine m ?_;exact ⟨⟨a,o,n,t,u,rfl,d,q,e⟩,by delta rD;dsimp only;rw [d];dsimp only;rw [e];rfl⟩
theorem EU (k:eN g h) {vs:List ae} {cs:List (Int × Int)} (x:VA g vs (cs.map cP)):∃ b,KatTups h vs b/\b.length=cs.length/\∀ v∈b,v9 v=pure (.type "int"):=
 VA.indM (f:=cP) (P:=λvs cs=>∃ b,KatTups h vs b/\b.length=cs.length/\∀ v∈b,v9 v=pure (.type "int")) ⟨[],.nil,rfl,λ_ h=>nm h⟩ (λv c vs cs x _ i=>by
  refine e13 i λb z y s=>?_;clear i;refine e02 (BV x) λd A=>?_;refine e54 d λa o n t u j m q p=>?_;clear d;obtain rfl:=j;exact i13 (_::b) (.cons (k _ _ m) q p rfl z) (by rw [fQ,fQ,y]) (λv l=>(mC l).elim (λe=>e▸rfl) (s v))) x
theorem VA.mem {vs:List ae} {ds:List ag} (h:VA g vs ds):∀ v∈vs,∃ d∈ds,V g v d:=
 h.ind (P:=λvs ds=>∀ v∈vs,∃ d∈ds,V g v d) (λ_ h=>nm h) λx _ k v a=>(mC a).elim (λe=>⟨_,.head _,e▸x⟩) λa=>(k v a).elim λe q=>⟨e,.tail _ q.1,q.2⟩
theorem VA.keys {vs:List ae} {cs:List (Int × Int)} (h:VA g vs (cs.map cP)):vs.map (rD g)=cs.map λp=>p.1*1048576+p.2:=
 h.indM (P:=λvs cs=>vs.map (rD g)=cs.map λp=>p.1*1048576+p.2) rfl λ_ _ _ _ x _ k=>by rw [bV,bV,(BV x).2,k]
noncomputable def wv:ag->Int × Int
 | .tuple [.int a,.int b]=>(a,b)
 | _=>(0,0)
theorem tL {cs ds:List (Int × Int)} (hz:cs.length<=1000) (F:∀ p∈cs,0<=p.2/\p.2<1048576) (hp:ds.Perm cs) (hs:ds.Pairwise (λa b=>a.1*1048576+a.2<=b.1*1048576+b.2)):iu w r (.builtin "sorted") [LL (cs.map cP)] (LL (ds.map cP)):=by
 refine tM (key:=rD) (by rw [ak];exact hz) (λg vs i A E q=>⟨LH true,λs' k=>⟨λQ V=>?_,EJ λp hp=>?_⟩⟩) λg g' l us m H B C i=>?_
 ·refine e13 (EU k i) λfs s X W=>?_;obtain this:=i.length;rw [ak] at this;exact kat_kind (T:=.type "int") s (fa3 q (aj X.symm) (aj this)) (λv i=>iH (W v i)) rfl V
 ·rw [tq] at hp;refine bc λM=>?_;refine e12 (i.mem p.1 (eO (show (p.1,p.2)∈_ from hp)).1) λd P z=>?_;refine e12 (mM P) λc D L=>?_;obtain rfl:=L;refine e02 (BV z) λG O=>?_;refine e54 G λa o n t u e N s q=>?_;clear G;refine M ?_;exact i23 c.1 c.2 ⟨a,o,n,t,u,e,k _ _ N,s,q⟩ O (F c D)
 ·obtain e1:(cs.map cP).map wv=cs:=by rw [cz];exact m9 cs
  have J:m=(m.map wv).map cP:=by
   rw [cz];refine (m9 m).symm.trans (dS λe h=>?_);refine e12 (mM (H.mem_iff.mp h)) λc z2 K=>?_;obtain rfl:=K;rfl
  have I:=e1▸H.map wv;replace B:=J▸B;obtain Z:(m.map wv).Pairwise λa b=>a.1*1048576+a.2<=b.1*1048576+b.2:=by
   rw [<- cT (f:=λp:Int × Int=>p.1*1048576+p.2) (R:=λa b=>a<=b),<- B.keys,cT];exact C
  obtain Y:m.map wv=ds:=nn (λa b U S x y=>by
   have s:=F a (I.mem_iff.mp U);obtain q:=F b (hp.mem_iff.mp S);exact Kn (by lia) (by lia)) Z hs (I.trans hp.symm)
  rw [<- Y,<- J];exact i
end
section
variable {w:ar} {sc:bf} {r:Nat} {ρ:dh} {pos:cU} {P:ci}
theorem wL {n:Nat} (hn:n<=2000):iu w r (.type "list") [y6 0 (n:Int)] (LL (jK 0 n)):=by
 intro g vs hv A s hA S Q E q;refine e11 (hY hv.length.symm) λv z0=>?_;obtain rfl:=z0;refine e42 hv.1 λl t u x z1 hl=>?_;obtain rfl:=z1;refine call_list_range hA.handled (S.sub _ _ hl) (Gq (ax rfl) (by (refine iR ?_ ?_ <;>lia))) (show tR 0 (n:Int) 1=(n:Int) from by rw [Fv];split <;>lia) (by exact ab (by assumption) (by decide)) λh' tk acc c' k hS hacc=>?_;refine e12 (S.grow (s':={s with heap:=h',toks:=tk}) (Stp.heap k (aF (aH hS))) (λb=>b==s.heap.objs.size) (λb hb=>aj (bE hb).symm)) λg' y hg=>?_;refine q _ g' _ y (jA (hg _ _ (beq_self_eq_true _) hS) (AN ?_ λi v d hi hd=>?_));·rw [cI,hacc.1];delta jK;simp
 ·refine e11 (hacc.2 i v (by rw [<- cM];exact hi)) λt z2=>?_;obtain rfl:=z2;replace hd:=av▸hd;refine e12 (Option.map_eq_some_iff.mp hd) λj hj z3=>?_;obtain rfl:=z3;refine e11 (gE hj) λhj1 hj2=>?_;rw [List.getElem_range] at hj2;subst hj2;rw [iz];exact V.int _ _
end
structure NV (t:ay) (vs:List ae) (L:ay) (oL:ff) (h:aA):Prop where
 tup:h.TupAt t vs
 loc:∃ sl,h.get? L=some {oL with slots:=sl}
section
variable {M:lM} {A:bj} {E:ae->af->Prop} {s:af} {base:aA} {env:fg} {outer:List fg} {L e t:ay} {cls a0:ae} {oL:ff} {ts:List ae}
theorem NV.up {h h':aA} (x:NV t ts L oL h) (c:∀ b,oL.data≠.fields b) (k:h.UpToSlots h'):NV t ts L oL h':=by
 obtain ⟨f,e⟩:=x.loc;refine e11 (k _ _ e c) λa d=>?_;exact ⟨x.tup.of_slots k,a,d⟩
theorem BX {d:ff} {vs:Array ae} {Q:Unit->af->Prop} (g:A.frames=some (env::outer)) (l:s.heap.FunFrames base (env::outer)) (i:env.frame=some L) (j:s.heap.get? e=some d) (f:base.StaysIn s.heap) (a:base.get? e=none) (k:d.data=.fields vs) (h1:vs[1]?=some .none) (h0:vs[0]?=some a0) (h:∀ b,yc base (env::outer) e d.cls a0 L b->s.heap.UpToSlots b->Q () {s with heap:=b}):aV M A (lf (.ref e) env) Q E s:=by
 delta lf;rw [i];refine aa (lc j k h1 ?_);exact wpAny_entryW g l i j f a k (gA h1).1 h0 λb c=>h b (i04 c.1 a c.2.1 c.2.2.1) c.2.2.2
theorem xL {Q:Unit->af->Prop} (B:env.frame=some L) (z:yc base (env::outer) e cls a0 L s.heap) (q:∀ w,yc base (env::outer) e cls a0 L w->s.heap.UpToSlots w->Q () {s with heap:=w}):aV M A (do
  if (<- PG (.ref e) 1)==dD then unsupported "frame.own-activation:exception-without-traceback"
  setFlight (.ref e) env.frame) Q E s:=by
 obtain ⟨G,F,D,y,n,T,H,x,p,l,r,v,k,m,u,i,C⟩:=z
 have d:∀ b,b≠T->(s.heap.update T (iO (·.setIfInBounds 3 ((some L).elim dD λf=>dq f)))).get? b=s.heap.get? b:=λb g=>Heap.get?_update_other _ _ (db g)
 obtain c:∀ b o,s.heap.get? b=some o->(∀ n,o.data≠.fields n)->b≠T:=λb o g h q=>by
  rw [q,u] at g;injection g with g;subst g;exact h x i
 obtain j:=(gA C).1
 refine aa (lc p r v ?_)
 rw [B]
 refine aa (lc p r v ?_)
 refine gm u i j (q _ ⟨λb o g=>(d b λq=>by rw [q,k] at g;exact lE g).trans (G b o g),F,D.of_keeps λb o g h=>(i12 o ((d b (c b o g h)).trans g) rfl),
  y,n,T,_,_,(d e (db m)).trans p,l,r,v,k,m,bn _ u (f7 (cF i _)),cF i _,by simp [j]⟩ λb o g h=>⟨o.slots,(d b (c b o g h)).trans g⟩)
theorem Aj {Q:Unit->af->Prop} (d:env.frame=some L) (c:yc base (env::outer) e cls a0 L s.heap) (q:∀ b,Bp base outer e cls a0 b->s.heap.UpToSlots b->Q () {s with heap:=b}):aV M A (Pf env (.ref e)) Q E s:=by
 refine aa (HT d c.2.2.2 (Pb c λb x k=>q b (i04 x.1 x.2.1 x.2.2.1.2.2 x.2.2.2) k))
end
noncomputable def yD:aE:=ac "invalid grouping"
noncomputable def NS (envL:fg) (L:ay) (s:af) (q:Pr) (e:Lf) (s':af):Prop:=∃ ev t tk base oL,e=.ret (.error (.ref ev))/\Bp base [envL] ev (.type "ValueError") (.ref t) s'.heap/\s.heap.get? L=some oL/\NV t [.str yD tk] L oL s'.heap/\base.get? t=none/\
 (∀ b o,s.heap.get? b=some o->b≠L->b∉addrs q->cg b=false->base.get? b=some o)/\rR base/\s'.os=s.os/\∀ (i:Nat) v,s'.gens[i]?=some v->v.bare=true
noncomputable def XR (w:ar) (k:Nat) (g:aA) (gs:ji) (q:Pr):Prop:=∀ g' A s envL L oL,eN g g'->Rm 4 A->SS w g' s->kL g' s q->A.frames=some [envL]->envL.scope.kind≠.module->envL.frame=some L->s.heap.get? L=some oL->(∀ vs,oL.data≠.fields vs)->cg L=false->L∉addrs q->E8 (MM w) A.in1 (NS envL L s q) gs (.send .none) s
theorem Cg {A:bj} {t:be} {it:ae} {b body:List cD} {e2 env:fg} {k:eB->il bO} {a:Option ae} {gd:Bool} {c:List ae} {p:cU} {l:List fg} (h:A.frames=some l):(A.in1.over (.forLoop t it b [] e2) [.ret k a gd c (.func body env) p []]).frames=some (env::l):=by
 refine (?_:pushEnvs [] (pushEnvs [env] A.frames)=_);rw [h];rfl
theorem sK (w:ar) {d:Int}:Mj w 4 (.ref 52) [LL [.int 0,.int d]] (XR w):=by
 revert w d;intros w d;refine' AT (xs:=[ac "grouping"]) (bs:=[.d (.list [.int 0,.int d])]) [] rfl rfl rfl rfl rfl rfl ?hbind ?hp (by decide) (by decide) (by decide) rfl rfl rfl ?h;case hbind=>intro vs s _ hv;rw [bp] at hv ⊢;refine e11 (hY hv) λa z0=>?_;obtain rfl:=z0;exact jC rfl
 case hp=>exact .cons tN.d .nil
 case h=>
  intro c b7 c3 g s oL k G m hc F hL;intro U A s' O L E a4 D S hl a9 a5 b0 N H K b3;refine ⟨rfl,?_⟩;obtain ⟨F',hX⟩:=F.wake hL hc (λx b h=>by
   rw [show fn [ac "grouping"] [B.d (.list [.int 0,.int d])]=[(ac "grouping",.d (.list [.int 0,.int d]))] from rfl,aK] at h;split at h
   ·refine iM h λz1=>?_;clear h;subst z1;rfl
   ·cases h) rfl a4 S hl
  refine yS (yT (lF.set .nil) G (E9.func.rm 3 A D) F' λg1 s1 c2 F1=>k9 (Cb (λ_=>rfl) ?_));refine (al (d:=.list [.int 0,.int d]) rfl) _ c true _ U g1 _ s1 G (E9.func.rm 3 A D) F1 _ _ λv g2 J x2 v2=>?_;obtain Q:=F1.step x2;refine e24 (V.list_inv v2) λl vs z2 y X z3=>?_;obtain rfl:=z2;refine pf (IsList.up y Q.ss.sub) ?_;intro p;refine e02 (Q.add (q:=⟨[(J.heap.objs.size,{cls:=.type "list_iterator",data:=.fields #[.ref l,.int 0 0]})],[]⟩) (Q.ss.same (Stp.push J ({cls:=.type "list_iterator",data:=.fields #[.ref l,.int 0 0]}:ff) J.toks)) ⟨λq R=>(m1 R ⟨az _ rfl,Q.ss.none (aq _)⟩),λ_ h=>(nm h)⟩ (λa T=>by simp [addrs] at T;exact aj T.symm) (λ_ h=>(nm h))) λF3 b6=>?_;obtain hi:jf w 3 true (.ref J.heap.objs.size) [.int 0,.int d] g2 ⟨[(J.heap.objs.size,{cls:=.type "list_iterator",data:=.fields #[.ref l,.int 0 0]})],[]⟩:=jf.list (i:=0) y X (eD Q.ss.big) rfl rfl;refine mK ?_;refine hi.2 g2 _ _ (eN.refl _) (fJ.rm 3 A D) F3.ss F3.live _ _ λv g4 q4 s4 x4 l4 b4 Y a6=>?_;refine e02 (F3.iter b6 x4 l4 b4.two) λF4 c5=>?_;refine p7 a6.ok l4 ?_;refine eA (x:=ac "interval") (hx:=by exact rT) _ c _ U g4 _ s4 v G (fJ.rm 3 A D) F4 Y _ _ λg5 s5 c1 F5=>?_;refine vl (bQ (al (d:=.int 0) rfl) (A0 (λP=>rfl)) gi) G (fJ.rm 3 A D) F5 λg6 s6 c0 F6=>pE ?_;refine vk (bQ (al (d:=.int 0) rfl) .int gi) G (fJ.rm 3 A D) F6 λg7 s7 b9 F7=>?_;refine vk (bQ (al rfl) .nil kr.isNone) G (fJ.rm 3 A D) F7 λg8 s8 b8 F8=>?_;refine k9 (vj (wpAny_Raise_call PySem.F.excCall_ValueError PySem.F.excRaise_ValueError (fJ.rm 3 A D).handled rfl ?_));refine Ev.blt (v:=.type "ValueError") (λ_=>rfl) (by decide+kernel) rfl (by decide) rfl _ c true _ U g8 _ s8 G (fJ.rm 3 A D) F8 _ _ λf g9 s9 x9 hf=>⟨hf,?_⟩;obtain F9:=F8.step x9;refine fA (.inr (i21 _ _ rfl)) ((rf.cons (Ev.str (x:=yD)) .nil vH.d).run _ c true _ U g9 _ s9 _ G (fJ.rm 3 A D) F9 _ _ λus c4 n W hu=>?_);refine e11 (hY hu.length.symm) λu z4=>?_;obtain rfl:=z4;refine i03 rfl (show 1<=kt by decide) (λh' ev I=>?_);refine bc λnO=>?_;refine e11 hu.1.str_inv λtk z5=>?_;obtain rfl:=z5;have j:=F9.step W;obtain ⟨t,b1,a0,Z⟩:=I.there;have M:=j.aft.keep L E (by rw [ic b3];exact N) K;obtain ⟨_,⟨oG,es,ep,a2,b2,_⟩,_⟩:=j.vars;refine nO ?_;clear nO;have a1:Heap.StaysIn (cR n [L,c.locals]).heap n.heap:=λb o C=>by
   replace C:=mN▸C;split at C;·exact lE C
   ·exact C
  have r:∀ b,n.heap.get? b=none->(cR n [L,c.locals]).heap.get? b=none:=λb C=>by
   rw [mN,C];split <;>rfl
  refine fN (aa (BX (base:=(cR n [L,c.locals]).heap) (outer:=[O]) ?_ (i05 (by rw [G.scp];decide) (i24 c.locals oG m (mh (.tail _ (.head _))) (I.keeps _ _ a2) (λvs=>by rw [b2];nofun)) a5 (i24 L E b0 (mh (.head _)) (I.keeps _ _ M) H) trivial) m b1 (λb o C=>I.keeps b o (a1 b o C)) (r _ I.new) rfl rfl rfl λh1 a8 k1=>wpAny_theTreesLotGoes (rK (.error (.ref ev)) ?_)));·exact Cg a9
  refine fN (wpAny_onRaise (pe (xL m a8 λh2 a7 k2=>fN (Aj m a7 λh3 b5 k3=>Hb (.error (.ref ev)) ⟨ev,t,tk,_,E,rfl,b5,N,?_,r _ a0,λb o e C R ht=>?_,j.ss.tabs.anchor λa T=>?_,j.aft.os,j.ss.bare⟩))));·exact ((NV.up ⟨(i23 _ _ Z rfl rfl),E.slots,I.keeps _ _ M⟩ H k1).up H k2).up H k3
  ·rewrite [ic λa3=>?_];·exact j.aft.keep b o (by rw [ic R];exact e) ht
   ·rcases mC a3 with z | z;·exact C z
    ·exact R (by rw [mS z];exact .head _)
  ·rcases mC T with rfl | z;·exact K
   ·rw [mS z];exact j.tabL
theorem pq:qm (.type "ValueError") (.type "StopIteration")=pure false:=by rw [lI];kernel_rfl
theorem wA {w:ar} {A:bj} {E:ae->af->Prop} {s:af} {a:ay} {g:Nat} {gs:ji} {Φ:Lf->af->Prop} {Q:Option ae->af->Prop} (p:A.handled=none) (l:s.heap.NoLimit) (c:A.depth<CY) (i:s.heap.IsGen a g) (f:s.gens[g]?=some gs) (d:E8 (MM w) A.in1 Φ gs (.send .none) (s.setGen g .running)) (hR:∀ e b,Φ e b->∃ h,e=.ret (.error (.ref h))/\b.TypeIs (.ref h) "ValueError"/\b.heap.IsGen a g/\E (.ref h) (b.setGen g .finished)): aV (MM w) A (ki (.ref a)) Q E s:=by
 revert w A E s a g gs Φ Q;intros w A E s a g gs Φ Q;intro p l c i f d hR;delta ki;refine aa (eQ (eG (name:=ac "__next__") i.typeIs uL (ck uL i.typeIs Of ?_ (OY _))));refine (?_:aV _ _ (qH (.ref a) (.send .none)) _ _ s);refine aa (bw (MS i (aa (N2 f ?_))));cases gs with
 | running=>exact d.elim
 | finished=>exact d.elim
 | _=>refine aa (Mm l c ?_);refine pj f d λe b q=>?_;refine e14 (hR e b q) λh m j k t=>?_;obtain rfl:=m;refine e34 k λo v u n y r x=>?_;clear k;refine ⟨rfl,?_⟩;refine (?_:aV _ _ (JM (.ref a) (.ref h)) _ _ (b.setGen g .finished));refine aa (aa (oI (show (b.setGen g .finished).heap.get? a=some o from n) (ah ?_)));rw [r];refine aa (eF (T:="ValueError") j pq ?_);rw [if_neg (by simp)];refine aa (eF (T:="ValueError") j pq ?_);refine pe ?_;refine aa (eF (T:="ValueError") j pq ?_);exact pe t
theorem Iy:qm (.type "ValueError") (.type "BaseException")=pure true:=by rw [lI];kernel_rfl
theorem Ix:qm (.type ((Qe "ValueError").elim "type" λx=>x.metatype)) (.type "tuple")=pure false:=by rw [lI];kernel_rfl
theorem Iw:qm (.type "ValueError") (.type "ValueError")=pure true:=by rw [lI];kernel_rfl
section
variable {w:ar} {sc:bf} {r:Nat} {ρ:dh} {A:bj} {E:ae->af->Prop} {s s₀:af} {g g₀:aA} {env:fg}
theorem Ag {x:aE} {v:ae} {pos:cU} {Q:ae->af->Prop} (B:wP w g) (b:eN g s.heap) (c:cB sc env) (e:∀ P,Bh (kF.heap_1 P) bA x=some dO) (f:q5 x=some v) (hx:sc.names.lookup x=some .globalImplicit) (h:x≠"__name__") (q:Q v s) (d:autoParam ((x==("__debug__":aE))=false) auF._auto_1):aV (MM w) A (eW (.Name x pos) env) Q E s:=by
 obtain ⟨i,j,T⟩:=B.top;refine th c.k (by refine (?_:env.scope.names.lookup x=_);rw [c.scp];exact hx) (Lg ?_ (mg_none_of B.K T.g (e _)) ?_ ((T.builtins x h).trans f) q) d;·rw [c.glob];exact T.g.keeps b
 ·rw [c.blt];exact T.b.keeps b
theorem wz {e t:ay} {tk:C9} {m:aE->Option ae} {x:aE} {sp i cp p0 p1 pos:cU} {j:Nat} {Q:ui->af->Prop} (B:wP w g) (d:eN g s.heap) (f:cB sc env) (k:A.units+2<Oi) (o:env.kindOf x=some .local) (l:s.heap.Ns env.locals m) (n:m x=some (.ref e)) (h1:s.heap.ExcAt e "ValueError" (.ref t)) (h2:s.heap.TupAt t [.str yD tk]) (hx:sc.names.lookup (ac "str")=some .globalImplicit) (c:(x==("__classdict__":aE))=false) (b:(x==("__debug__":aE))=false) (q:∀ a,Q (.ret (.bool true)) {s with toks:=a}): aV (MM w) A (eZ [.Return (some (.Compare (.Call (.Name (ac "str") sp) [.Name x i] [] cp) [.Eq] [.Constant (.str (ac "invalid grouping")) j p1] p0)) pos] env) Q E s:=by
 refine bI (wR (N5 ?_ (by with_unfolding_all rfl)));refine aa (Ag (v:=.type "str") B d f (λ_=>rfl) (by decide+kernel) hx (by decide) ?_);refine lh (P:=λ_=>True) rfl (λh _=>(i12 .machine (.inr (.inl rfl)) (iH rfl))) (fA (.inr (i21 _ _ rfl)) (gj (CU (kZ f.k l (.inl ⟨o,n⟩) c (gM ⟨trivial,?_⟩)) b)));refine P.str_of_exc_one PySem.F.excStr_ValueError k h1 h2 (oJ ?_);exact w5 (by exact q _)
end
structure Ei (s:af) (L:ay) (s':af):Prop where
 keep:∀ b o,s.heap.get? b=some o->b≠L->cg b=false->s'.heap.get? b=some o
 tabs:rR s'.heap
 os:s'.os=s.os
 bare:∀ (i:Nat) v,s'.gens[i]?=some v->v.bare=true
set_option maxHeartbeats 1000000 in
theorem IZ {w:ar} {sc:bf} {r:Nat} {ρ:dh} {A:bj} {E:ae->af->Prop} {s s₀:af} {g g₀:aA} {env:fg} {Q:ui->af->Prop} {d:Int} {n st x:aE} {sp rp cp p0 p1 pos np gp zp stp lp gp2 fp rt3 hp tp:cU} {k0 k1:Nat} {bd:List cD} {hs:List FB}
  (B:cB sc env) (hA:Rm (r+6) A) (F:FS w true s₀ g₀ env g {} ρ s) (hfr:A.frames=some [env]) (hf:env.frame=some env.locals) (hst:ρ.lookup st=some (.d (.int d))) (hl:sc.names.lookup x=some .local)
  (hs1:sc.names.lookup (ac "str")=some .globalImplicit) (hs2:sc.names.lookup (ac "ValueError")=some .globalImplicit) (hs3:sc.names.lookup (ac "_grouping_intervals")=some .globalImplicit)
  (hx1:(x==("__classdict__":aE))=false) (hx2:(x==("__debug__":aE))=false) (hst1:(st==("__classdict__":aE))=false) (hst2:(st==("__debug__":aE))=false)
  (hh:hs=[.ExceptHandler (some (.Name (ac "ValueError") rt3)) (some x) [.Return (some (.Compare (.Call (.Name (ac "str") sp) [.Name x rp] [] cp) [.Eq] [.Constant (.str (ac "invalid grouping")) k0 p1] p0)) pos] hp])
  (q:∀ s',Ei s env.locals s'->Q (.ret (.bool true)) s'):
  aV (MM w) A (HX (.Try [.For (.Name n np) (.Call (.Name (ac "_grouping_intervals") gp) [.List [.Constant (.int 0) k1 zp,.Name st stp] lp] [] gp2) bd [] fp]
   [.ExceptHandler (some (.Name (ac "ValueError") rt3)) (some x) [.Return (some (.Compare (.Call (.Name (ac "str") sp) [.Name x rp] [] cp) [.Eq] [.Constant (.str (ac "invalid grouping")) k0 p1] p0)) pos] hp] [] [] tp) env) Q E s:=by
 refine Mo (bI (wpAny_For ?_))
 rw [<- hh]
 refine aa (Ev.glob (v:=.ref 52) (λ_=>rfl) hs3 rfl A env true s₀ g₀ g {} s B hA F _ _ λv g1 s1 x1 hv=>?_)
 obtain rfl:=hv
 have F1:=F.step x1
 refine cL B hA F1 (rf.one (Ev.list (ds:=[.int 0,.int d]) (.consD .int (.one (al hst hst1 hst2))) (ax rfl))) (D9.top λ_=>rfl) λvs g2 s2 x2 hps=>?_
 obtain F2:=F1.step x2
 refine sK w g2 vs hps A s2 (hA.le fa0) F2.ss _ _ λa o nm qn gs qp s3 x3 lv h1 h2 C hX=>?_
 refine bc λnO=>?_
 refine e02 (F2.add x3 lv h1 h2) λD ap3=>?_
 have S3:=D.ss
 obtain ⟨m,⟨oL,es,ep,hoL,hdL,hkL,hmL⟩,_⟩:=D.vars
 refine nO ?_
 clear nO
 obtain hLq:env.locals∉addrs qp:=λz=>by
  refine e11 (gI z) λo' ho'=>?_;exact (D.prot.objs (env.locals,o') (bG _ (.tail _ ho'))).2.2.2.1 rfl
 have h:∀ vs,oL.data≠.fields vs:=λvs=>by rw [hdL];nofun
 obtain hoa:=lv.objs (a,o) (.head _)
 obtain hnl:s3.heap.NoLimit:=by
  refine e21 ((S3.base.keeps S3.sub).top) λmg' mb' T'=>?_;exact T'.nolimit
 refine Kk (λ_ s'=>s'=s3) (λ_ s' es'=>?_) 0 rfl
 subst es'
 refine wA hA.handled hnl hA.room (i34 o nm qn hoa.1 C.cls C.dat C.slots) (lv.gens _ (.head _)) (hX g2 A (s'.setGen s2.gens.size .running) env env.locals oL (eN.refl _) (hA.le fa0) S3.running ⟨λp hp=>lv.objs p (.tail _ hp),λp hp=>by replace hp:=C.gens▸hp;cases hp⟩ hfr (by rw [B.scp,B.kind];decide) hf hoL h D.tabL hLq) λe s4 hE=>?_
 refine bc λnO=>?_
 obtain ⟨ev,t,tk,base,oL',rfl,fly,hoL',rst,hbt,j,tabs,hos,hbare⟩:=hE
 obtain rfl:=gR (hoL.symm.trans hoL')
 obtain ⟨oe,hoe,hce⟩:=fly.there
 refine nO ?_
 clear nO
 refine i14 ev rfl (i12 oe hoe hce) (i34 o nm qn (fly.1 _ _ (j a o hoa.1 ((D.prot.objs (a,o) (bG _ (.head _))).2.2.2.1) C.out C.tab)) C.cls C.dat C.slots) ?_
 refine wpAny_looks_onW hfr hf (show Bp _ _ _ _ _ (s4.setGen s2.gens.size .finished).heap from fly) λh5 held5 k5=>?_
 refine xL hf held5 λh6 l k6=>?_
 refine HT hf l.2.2.2 (Pb l λh7 f k7=>?_)
 obtain old:∀ b o',s.heap.get? b=some o'->b≠env.locals->cg b=false->base.get? b=some o':=λb o' e hb ht=>by
  have e2:=(x1.trans x2).keep b o' e ht;refine j b o' (x3.keep b o' e2 ht) hb (λz=>?_) ht;exact bD (h1 b (.tail _ z)) (aH e2)
 have gle:eN g2 base:=λb o' e=>by
  refine j b o' (S3.sub b o' e) (λz=>by rw [z,D.notL] at e;exact lE e) (λz=>?_) ?_
  ·refine e11 (gI z) λo2 ho2=>?_;rw [(lv.objs _ (.tail _ ho2)).2] at e;exact lE e
  ·cases q:cg b with
   | false=>rfl
   | true=>replace e:=(S3.notab b q)▸e;exact lE e
 have hkx:env.kindOf x=some .local:=by refine (?_:env.scope.names.lookup x=_);rw [B.scp];exact hl
 have hp:(env.scope.kind==.class || (env.scope.kind==.module && env.locals !=env.globals))=false:=by rw [B.scp,B.kind];rfl
 subst hh
 refine wpAny_handleBy_builtin_as (X:="ValueError") (T:="ValueError") Iy Ix Iw (Ag (v:=.type "ValueError") S3.base (λb o' e=>f.1 b o' (gle b o' e)) B (λ_=>rfl) (by decide+kernel) hs2 (by decide) (i03 rfl f.there ?_))
 refine wpAny_setFlight_noneW f.1 f.2.2.1 f.2.2.2.at λh8 a1 a2 a3 a4=>?_
 have G:=(((rst.up h k5).up h k6).up h k7).up h λb o' hb hn=>⟨o'.slots,a4 b o' hb hn⟩
 refine bc λnO=>?_
 obtain ⟨sl,hL8⟩:=G.loc
 obtain ⟨ot,nt,u,ht2,ht3⟩:=G.tup
 refine e54 a3 λo8 vs8 z0 z1 z2 y hc8 hd8 z3=>?_
 clear a3
 refine nO ?_
 refine Ia hkx (i34 _ es ep hL8 hdL hkL hmL) (λh9 hn9 k=>?_) hp
 refine wz S3.base (λb o' e=>(k.2 b λz=>by rw [z,D.notL] at e;exact lE e).trans (a1 b o' (gle b o' e))) B (show A.units+2<Oi from by have:=hA.units;refine (?_:_<9900);exact fa1 this) hkx hn9 (if_pos rfl) (i24 o8 vs8 ((k.2 ev (λz=>by rw [z,hL8] at y;refine iM y λz4=>?_;clear y;subst z4;exact h _ hd8)).trans y) hc8.1 hd8 hc8.2) (i23 ot nt ((k.2 t (λz=>by rw [z,hL8] at u;refine iM u λz5=>?_;clear u;subst z5;rw [show _=Data.dict es ep from hdL] at ht3;cases ht3)).trans u) ht2 ht3) hs1 hx1 hx2 λtk'=>?_
 refine wpAny_nameGoes hkx hn9 hp λh10 m10 hn10 H=>q _ ⟨λb o' e hb ht=>(H.2 b hb).trans ((k.2 b hb).trans (a1 b o' (old b o' e hb ht))),((tabs.keeps a1).sameBut k D.tabL).sameBut H D.tabL,hos.trans (x3.os.trans (x1.trans x2).os),λi v e=>?_⟩
 have e':(s4.setGen s2.gens.size .finished).gens[i]?=some v:=e
 replace e':=jL▸e'
 split at e'
 ·refine iM e' λz6=>?_;clear e';subst z6;rfl
 ·exact hbare i v e'
noncomputable def xX (w:ar) (sc:bf) (r:Nat) (ρ:dh) (xs:List cD):Prop:=
 ∀ A env s₀ g₀ g s,cB sc env->Rm r A->A.frames=some [env]->env.frame=some env.locals->FS w true s₀ g₀ env g {} ρ s->∀ (Q:ui->af->Prop) (E:ae->af->Prop),(∀ s',Ei s₀ env.locals s'->Q (.ret (.bool true)) s')->aV (MM w) A (eZ xs env) Q E s
section
variable {w:ar} {sc:bf} {r:Nat} {ρ ρ':dh} {pos:cU} {x:aE} {y:cD} {xs:List cD}
theorem xX.cons (h:lF w sc r ρ y (.next ρ')) (k:xX w sc r ρ' xs):xX w sc r ρ (y::xs):=by
 intro A c a b g s f i d n F Q E q;refine bI (h A c a b g {} s f i F _ _ λt o l m e=>?_);refine e02 e λj p=>?_;clear e;obtain rfl:=j;exact k A c a b o l f i d n p Q E q
theorem zc (h:r8 ρ' ρ) (k:xX w sc r ρ' xs):xX w sc r ρ xs:=λA d a b g s f i c e F=>k A d a b g s f i c e (F.weaken h)
theorem xX.freeze {a:ay} {ds:List ag} (hx:ρ.lookup x=some (.own a ds)) (k:xX w sc r ((x,.d (.list ds))::ρ) xs) (ho:autoParam (cA x ρ=true) auT._auto_1):xX w sc r ρ xs:=by
 intro A e b c g s i j d h F Q E q;refine e12 (F.freeze hx ho) λl f m=>?_;exact k A e b c l s i j d h m Q E q
theorem AU {p lp:cU} (hx:sc.names.lookup x=some .local) (k:∀ a,xX w sc r ((x,.own a [])::ρ) xs):xX w sc r ρ (.Assign [.Name x p] (.List [] lp) pos::xs):=by
 intro A i d f g s l z h t F Q E q;refine bI (dw (mV (gM ⟨aM _,?_⟩)) rfl);refine (F.step (F.ss.same (Stp.push s ({cls:=.type "list",data:=.seq #[]}:ff) s.toks))).store l (.inl hx) (b:=.own s.heap.objs.size []) (i04 rfl (i22 ([]) 0 (az _ rfl) (VA.nil _)) (i05 (F.ss.none (aq _)) (Jj.of F.ss₀.big F.aft.size) (ed F.ltL) (λn c u e=>?_) (λp o e=>(nm o))) (λ_=>F.aft.size)) λm C=>k _ A i d f g m l z h t C Q E q;refine e02 (F.cells n c u) λj D=>?_;refine e11 j λv B=>?_;clear j;exact bg B.lt e
theorem xX.last {d:Int} {n st x:aE} {sp J cp p0 p1 pos np R H f lp B S h j i hp tp:cU} {K k1 k2:Nat} (m:ρ.lookup st=some (.d (.int d))) (L:autoParam (sc.names.lookup x=some .local) auS._auto_1) (u:autoParam (sc.names.lookup (ac "str")=some .globalImplicit) auS._auto_1) (t:autoParam (sc.names.lookup (ac "ValueError")=some .globalImplicit) auS._auto_1) (p:autoParam (sc.names.lookup (ac "_grouping_intervals")=some .globalImplicit) auS._auto_1) (l:autoParam ((x==("__classdict__":aE))=false) auF._auto_1) (k:autoParam ((x==("__debug__":aE))=false) auF._auto_1) (c:autoParam ((st==("__classdict__":aE))=false) auF._auto_1) (a:autoParam ((st==("__debug__":aE))=false) auF._auto_1): xX w sc (r+6) ρ (.Try [.For (.Name n np) (.Call (.Name (ac "_grouping_intervals") R) [.List [.Constant (.int 0) k1 H,.Name st f] lp] [] B) [.Return (some (.Constant (.bool false) k2 h)) j] [] S] [.ExceptHandler (some (.Name (ac "ValueError") i)) (some x) [.Return (some (.Compare (.Call (.Name (ac "str") sp) [.Name x J] [] cp) [.Eq] [.Constant (.str (ac "invalid grouping")) K p1] p0)) pos] hp] [] [] tp::xs):=by
 intro A T C G g s N P v M F Q E q;exact bI (IZ N P F v M m L u t p l k c a rfl λI z=>q I ⟨λb o e O D=>z.keep b o (F.aft.keep b o e D) O D,z.tabs,z.os.trans F.aft.os,z.bare⟩)
end
theorem rW {w:ar} {sc:bf} {r:Nat} {ρ:dh} {t:be} {body:List cD} {xs:List ag}:(∀ x∈xs,∃ b a,uI w sc r t x ρ b/\Ex w sc r b body (.next a)/\r8 ρ a)->Lp w sc r t body true xs ρ (.next ρ):=by
 induction xs with
 | nil=>exact λ_=>⟨rfl,rfl⟩
 | cons x xs c=>intro h;refine e23 (h x (.head _)) λb a g f e=>?_;exact i12 b g (.inl (i23 a ρ (.inl f) e (c λy d=>h y (.tail _ d))))
theorem AP {w:ar} {sc:bf} {r:Nat} {ρ:dh} {pos:cU} {l rr:be} {X:String} (h1:Ev w sc r ρ l (RV (.type X))) (h2:Ev w sc r ρ rr (RV (.type X))) (u:autoParam (Fx .IsNot rr=false) auF._auto_1):Tr w sc r ρ (.Compare l [.IsNot] [rr] pos) false:=by
 intro A e h c d g i s j k F Q E q;refine ml (h1 A e h c d g i s j k F _ _ λa x t f o=>?_) u;refine h2 A e h c d x i t j k (F.step f) _ _ λb v p m n=>?_;rw [show a=_ from o,show b=_ from n];exact isnot_type_same (fG (q v p (f.trans m)))
theorem KC {a:List aE} (hs:a.Pairwise λx y=>x.cps.toList<y.cps.toList) {i j:Nat} {x y:aE} (hx:a[i]?=some x) (b:a[j]?=some y): b2i (decide (y.cps.toList<x.cps.toList)) - b2i (decide (x.cps.toList<y.cps.toList))=(if (if (i:Int) - j> -1 then (i:Int) - j else -1)<1 then (if (i:Int) - j> -1 then (i:Int) - j else -1) else 1):=by
 revert hs hx b;revert a i j x y;intros a i j x y;intro hs hx b;refine e11 (gE hx) λe hx=>?_;refine e11 (gE b) λd b=>?_;obtain c:=gl.mp hs;rcases Nat.lt_trichotomy i j with h | h | h
 ·have:=c i j e d h;rw [hx,b] at this;rw [decide_eq_true this,decide_eq_false (Lm this)];refine (?_:(0:Int) - 1=_);lia
 ·subst h;obtain rfl:=hx.symm.trans b;rw [decide_eq_false (Kr _)];lia
 ·obtain this:=c j i d e h;rw [hx,b] at this;rw [decide_eq_true this,decide_eq_false (Lm this)];refine (?_:(1:Int) - 0=_);lia
theorem j9 {d:ag} (h:cc d=true):fO d d=true:=Ou d (by exact (qK.mp h).1)
noncomputable abbrev LU (cs:List Int) (ways:List aE) (t:du):dh:=[(S0 "cells",.d (.list (cs.map .int))),(S0 "ways",.d (.list (ways.map .str))),(S0 "rows",.d t.dat),(S0 "classes",.d (.list ((bK 4 t).map cP))),(S0 "page",.d (.str (gU 4 t 0 1)))]
noncomputable abbrev J5 (cs:List Int) (t:du):dh:=[(S0 "cells",.d (.list (cs.map .int))),(S0 "rows",.d t.dat),(S0 "classes",.d (.list ((bK 4 t).map cP)))]
set_option maxHeartbeats 4000000 in
theorem EO (w:ar) {cs:List Int} {a:List aE} {t:du} (G:a.length<=9) (l:(S0 ""::a).Pairwise λx y=>x.cps.toList<y.cps.toList) {ps:List (aE × List (Int × Int))} (B:(gU 4 t 0 1).length+2<=dK) (f:fy (gU 4 t 0 1) (S0 ">")=ps.map (·.1)) (hp:∀ p∈ps,uD p.1 p.2) (A:ps.flatMap (·.2)=bK 4 t)
  {oc:ae} {od:Option ay} {osl:Array (Option ae)} {fd:fR} {body:List cD} (ho:(kF.heap_1 w.params).lookup 330=some ⟨oc,od,.func fd,osl⟩) (m:fd.body=.stmts body) (k:xX w fd.scope 30 (J5 cs t) (body.drop 11)):xX w fd.scope 30 (LU cs a t) (body.drop 8):=by
 obtain rfl:=sD ho
 obtain rfl:=p9 m
 refine xX.cons (cf ((bQ (bX (.one (al rfl)) (((G0 w 5 (uc w) _ ps B f hp).le (by decide)).eq (by rw [A]))) (al rfl) (gh (hV _) (hV _))).eq (by rw [j9 (hV _)];rfl)) Ex.nil) ?_
 refine xX.cons (lF.set (bz (Ev.list (ds:=[.str (S0 "")]) (.one .str) (by decide)) (al (d:=.list (a.map .str)) rfl) (mj (by delta dK;simp;exact fa1 G)))) ?_
 have n:(([.str (S0 "")]++a.map .str:List ag)).length=a.length+1:=by simp
 obtain b:a.length+1<=dK:=by delta dK;exact fa1 G
 have E:∀ {r:bf} {D:dh} {O N M L K:cU},D.lookup (S0 "texts")=some (.d (.list ([.str (S0 "")]++a.map .str)))->r.names.lookup (S0 "range")=some .globalImplicit->r.names.lookup (S0 "len")=some .globalImplicit->Ee w r 30 D (.Call (.Name (S0 "range") O) [.Call (.Name (S0 "len") N) [.Name (S0 "texts") M] [] L] [] K) true (jK 0 (a.length+1)):=λh S R=>Ee.of (bZ (.one (bZ (.one (al h)) (fL (by rw [n];exact b)) (hx:=R))) iV (hx:=S)) (jS (by rw [n];simp) (by decide) (by rw [n];(refine iR ?_ ?_ <;>lia)))
 obtain o:∀ (i:Nat) x,(S0 ""::a)[i]?=some x->D5 ([.str (S0 "")]++a.map .str) (i:Int)=some (.str x):=λi x h=>nE (by
  refine (?_:((S0 ""::a).map da)[i]?=_);rw [av,h];rfl)
 refine xX.cons (gc (E rfl rfl rfl) (rW λW z=>?_)) ?_
 ·refine e12 (mM z) λi C J=>?_;obtain rfl:=J;have C:=mR C;refine i23 _ _ eA (Ex.cons (gc (E rfl rfl rfl) (rW λU u=>?_)) Ex.nil) (r8.new rfl);refine e12 (mM u) λj Q I=>?_;obtain rfl:=I;obtain ⟨x,q⟩:∃ x,(S0 ""::a)[i]?=some x:=⟨_,an (by simpa using C)⟩;obtain ⟨y,F⟩:∃ y,(S0 ""::a)[j]?=some y:=⟨_,an (by simpa using Q)⟩;rw [eM,eM];refine i23 _ _ eA (Ex.cons (lF.set (bX (.consD (gf (al rfl) (al rfl) (o i x q) (by rw [n];exact b)) (.one (gf (al rfl) (al rfl) (o j y F) (by rw [n];exact b)))) ((IF w x y).le (by decide)))) (Ex.cons (cf (kd (l6 (AP (bZ (.one (al rfl)) (iu.type (T:="int") ?ti rfl)) ?tj) (l6 ((bQ (al rfl) (bZ (.consD .int (.one (bZ (.consD (oB .int) (.one (bz (al rfl) (al rfl) gK))) HQ))) HO) vW).eq ?tk) qa))) Ex.nil) Ex.nil)) (λy c e=>r8.new rfl y c (r8.new rfl y c e));case ti=>exact λg v P s _=>by refine e11 (V.int_inv P) λt H=>?_;obtain rfl:=H;exact CV _ _ _
  case tj=>exact Ev.blt (λ_=>rfl) rfl rfl (by decide) rfl
  case tk=>rw [KC l q F];simp
 ·exact zc (r8.cons rfl (r8.cons rfl (r8.cons rfl r8.nil))) k
section
variable {w:ar} {sc:bf} {r:Nat} {ρ:dh} {pos:cU} {P:ci}
theorem HJ {x y:aE}:kr w r .NotEq (.str x) (.str y) (x.cps.toList !=y.cps.toList):=by
 intro g a b d c A s e S Q E q;obtain ⟨t,rfl⟩:=d.str_inv;obtain ⟨u,rfl⟩:=c.str_inv;exact PySem.P.ne_str (q _ g _ (iB.refl S.sub) (.bool _))
end
theorem Ae (n:Nat):(jo n).flatMap (λ_=>([]:List ag))=[]:=by simp
structure LF (t:du) (xs:List aE):Prop where
 ok:rV 4 t
 told:mw 4 t 0 1=xs.map .str
 joined:iL (S0 "") xs=gU 4 t 0 1
 jok:zm (S0 "") xs=true
set_option maxHeartbeats 4000000 in
theorem EP (w:ar) {script:List Int} (hz:script.length<=63) {h a1 a2 a3 a4 j:Int} (c:hZ script script.length=[h,a1,a2,a3,a4,j]) {a:List aE} (e:lC [h,a1,a2,a3] 4=a) (W:WS a) (b:cx a (S0 "")=true) {t:du} (ht:hQ 5 a (S0 "")=t) {xs:List aE} (f:LF t xs)
  {oc:ae} {od:Option ay} {osl:Array (Option ae)} {fd:fR} {body:List cD} (ho:(kF.heap_1 w.params).lookup 330=some ⟨oc,od,.func fd,osl⟩) (g:fd.body=.stmts body) (k:xX w fd.scope 30 (LU [h,a1,a2,a3,a4,j] a t) (body.drop 8)):xX w fd.scope 30 [(S0 "script",.d (.list (script.map .int)))] body:=by
 obtain rfl:=sD ho
 obtain rfl:=p9 g
 refine xX.cons (lF.set (bX (.one (al rfl)) (((ES w script hz).le (by decide)).eq (by rw [c])))) ?_
 refine xX.cons (lF.set (bX (.one ((r0 (al rfl) (.int (i:=4)) (ax rfl)).eq (d':=.list ([h,a1,a2,a3].map .int)) rfl)) (((GZ w [h,a1,a2,a3] (aq 4)).le (by decide)).eq (by rw [e])))) ?_
 refine xX.cons (lF.set (bX (.consD (al rfl) (.one .str)) (((Am w a W 5 (S0 "") rfl (by decide+kernel) b).le (by decide)).eq (by rw [ht])))) ?_
 refine xX.cons (lF.set (bX (.one (al rfl)) ((Aq w 4 t f.ok (by decide)).le (by decide)))) ?_
 refine AU rfl ?_
 intros m
 refine xX.cons (vO (HC rfl rfl f.ok) (.inl rfl)) ?_
 refine xX.freeze (x:=S0 "pieces") (ds:=mw 4 t 0 1) rfl ?_
 refine xX.cons (lF.set (lk .str (.one ((al (d:=.list (mw 4 t 0 1)) rfl).eq (by rw [f.told]))) kC kB ((sZ f.jok).eq (by rw [f.joined])))) ?_
 refine xX.cons (cf (kd (l6 ((bQ (al rfl) (bX (.consD (al rfl) (.consD .int (.one .int))) ((Ap w 4 t 0 1 f.ok (by decide) ⟨by decide,by decide,by decide⟩).le (by decide))) HJ).eq (by simp)) (l6 ((bQ ((kg (ρ₁:=λx=>[(S0 "answer",.d x)]) (outs:=λ_=>[]) (Ee.of (al rfl) MP.list) rfl rfl .nil (by rw [Ae];exact aM _) λx l=>(i03 eA r8.nil (K4 ((bQ (al rfl) .nil fc).eq (by rewrite [zG l];rfl)) rfl))).eq (by rw [Ae])) (Ev.list (ds:=[]) .nil (aM _)) (gh rfl rfl)).eq rfl) qa))) Ex.nil) ?_
 exact zc (r8.cons rfl (r8.cons rfl (r8.cons rfl (r8.cons rfl (r8.cons rfl r8.nil))))) k
theorem Hz {w:ar} {sc:bf} {r:Nat} {ρ:dh} {pos p:cU} {x:aE} {e:be} {d:ag} (h:Ev w sc r ρ e (DV d)) (hx:sc.names.lookup x=some .cell) (hs:∀ c,cB sc c->gO e (some (.Name x p)) pos.line c=pure false):lF w sc r ρ (.Assign [.Name x p] e pos) (.next ((x,.d d)::ρ)):=λA c f i g l s k n F Q E q=>dw (h A c true f i g l s k n F _ _ λv o u y m=>(F.step y).store k (.inr ⟨hx,rfl⟩) (b:=.d d) m λj t=>q _ o j y.le ⟨rfl,t⟩) (hs c k)
noncomputable def cntF (L:Int) (p:Int × Int):Nat:=((L - p.1 - 1).fdiv p.2+1).toNat
noncomputable def ft (L:Int) (p:Int × Int):List Int:=mF p.1 p.2 (cntF L p)
noncomputable def yB (L:Int) (C:List (Int × Int)):ag:=.list (C.map λp=>.list ((ft L p).map .int))
theorem zM (p:Int × Int):wv (cP p)=p:=rfl
theorem qU {α:Type} (C:List (Int × Int)) (F:Int × Int->List α):((C.map cP).flatMap λx=>F (wv x))=C.flatMap F:=by
 rw [ej];rfl
theorem gX (ns:List Int):cc (.list (ns.map .int))=true:=by
 obtain a:∀ ns:List Int,di (ns.map .int)=true/\pc (ns.map .int)<=1:=by
  intro ns;induction ns with
  | nil=>exact ⟨rfl,aM _⟩
  | cons p c b=>rw [bV,di,b.1];exact ⟨rfl,tu.mpr ⟨aM _,b.2⟩⟩
 delta cc;rw [qf,zC,(a ns).1];have:=(a ns).2;exact decide_eq_true (fa1 this)
noncomputable def KN:ag->List ag
 | .list l=>l
 | _=>[]
theorem J1 (n:Nat):jK 0 n=((br n).map λ(i:Nat)=>(i:Int)).map .int:=by
 rw [cz];exact dS λi _=>by rw [eM];rfl
structure uF (L:Int) (C:List (Int × Int)):Prop where
 len:C.length<=9
 few:∀ p∈C,0<=p.1/\p.1≠126/\p.2≠127/\0<p.2/\cntF L p<=1000/\(∀ i:Nat,i<cntF L p->p.1+(i:Int)*p.2<L)/\L<=p.1+(cntF L p:Int)*p.2
 all:((br L.toNat).map λ(i:Nat)=>(i:Int)).Perm (C.flatMap (ft L))
 l0:0<=L
 l1:L<=1000
noncomputable abbrev zV (cs:List Int) (t t':du) (L:Int):dh:=[(S0 "cells",.d (.list (cs.map .int))),(S0 "rows",.d t.dat),(S0 "classes",.d (.list ((bK 4 t).map cP))),(S0 "limit",.d (.int L)),(S0 "rulers",.d (yB L (bK 4 t))),(S0 "rebuilt",.d t'.dat)]
theorem BF (cs:List (Int × Int)):∃ d:List (Int × Int),d.Perm cs/\d.Pairwise λa b=>a.1*1048576+a.2<=b.1*1048576+b.2:=by
 refine i12 (cs.mergeSort λa b=>decide (a.1*1048576+a.2<=b.1*1048576+b.2)) (List.mergeSort_perm _ _) ?_;exact (List.pairwise_mergeSort (λa b c f e=>by simp only [decide_eq_true_eq] at*;exact bv f e) (λa b=>by lia) cs).imp λh=>by simpa using h
structure Mc (w:ar) (t t':du) (C':List (Int × Int)):Prop where
 ends:Eh (bK 4 t)
 reb:rB 6 (bK 4 t)=some t'
 plain:gG 4 t=true->t'=t
 perm:C'.Perm (bK 4 t)
 ends':iu w 30 (.ref 320) [DV t'.dat] (LL (C'.map cP))
set_option maxHeartbeats 4000000 in
theorem EN (w:ar) {cs:List Int} {t t':du} (z:rV 4 t) {G:List (Int × Int)} (j:Mc w t t' G) {M:Int} (C:M∈(bK 4 t).map (·.2)) (D:∀ a∈(bK 4 t).map (·.2),a<=M) (o:uF (2*M) (bK 4 t))
  {oc:ae} {od:Option ay} {osl:Array (Option ae)} {fd:fR} {body:List cD} (ho:(kF.heap_1 w.params).lookup 330=some ⟨oc,od,.func fd,osl⟩) (b:fd.body=.stmts body) (k:xX w fd.scope 30 (zV cs t t' (2*M)) (body.drop 16)):xX w fd.scope 30 (J5 cs t) (body.drop 11):=by
 revert z j C D o ho b k
 revert w cs t t' G M oc od osl fd body
 intros w cs t t' G M oc od osl fd body;intro z j C D o ho b k
 obtain rfl:=sD ho
 obtain rfl:=p9 b
 obtain r:=o.len
 have q:(bK 4 t).length<=dK:=by exact ab (by assumption) (by decide)
 obtain J:((bK 4 t).map cP).flatMap (λx=>[cb (wv x).2])=((bK 4 t).map (·.2)).map .int:=by rw [qU (F:=λp=>[cb p.2]),<- jI,cz];rfl
 refine xX.cons (lF.set (bz .int (bZ (.one ((kg (ρ₁:=λx=>[(S0 "step",.d (.int (wv x).2)),(S0 "first",.d (.int (wv x).1))]) (outs:=λx=>[.int (wv x).2]) (Ee.of (al rfl) MP.list) rfl rfl .nil (by rw [J];simpa using q) λx s=>?_).eq (by rw [J]))) (HP C D)) (fF (.inl (by delta Sm;decide))))) ?_
 ·refine e12 (mM s) λp m Q=>?_;obtain rfl:=Q;exact i03 (uI.tuple K6.two) r8.nil (K5.one (al rfl) rfl)
 obtain I:((bK 4 t).map cP).flatMap (λx=>[dp ((ft (2*M) (wv x)).map .int)])=(bK 4 t).map λp=>.list ((ft (2*M) p).map .int):=by rw [qU (F:=λp=>[dp ((ft (2*M) p).map .int)]),<- jI]
 refine xX.cons (Hz ((kg (ρc:=[(S0 "limit",.d (.int (2*M)))]) (ρ₁:=λx=>(S0 "step",.d (.int (wv x).2))::(S0 "first",.d (.int (wv x).1))::[(S0 "limit",.d (.int (2*M)))]) (outs:=λx=>[.list ((ft (2*M) (wv x)).map .int)]) (Ee.of (al rfl) MP.list) rfl rfl (.cons rfl rfl rfl rfl .nil) (by rw [I];simpa using q) λx s=>?_).eq (by rw [I])) rfl (by intro E R;obtain ⟨_,_,_,_,_,_,_,_,_⟩:=E;cases R.scp;rfl)) ?_
 ·refine e12 (mM s) λp m P=>?_;obtain rfl:=P;refine e07 (o.few p m) λY X W V U T S=>?_;exact i03 (uI.tuple K6.two) (λy c e=>r8.new rfl y c (r8.new rfl y c e)) (K5.one (bX (.consD (al rfl) (.consD (al rfl) (.one (al rfl)))) ((xD w (n:=cntF (2*M) p) (fa1 U) Y X W V T S).le (by decide))) rfl)
 obtain H:((bK 4 t).map λp=>dp ((ft (2*M) p).map .int)).flatMap (λx=>(KN x).flatMap λy=>[y])=((bK 4 t).flatMap (ft (2*M))).map .int:=by
  rw [ej,lw];congr 1;funext p;refine (?_:((ft (2*M) p).map cb).flatMap (λy=>[y])=_);rw [<- jI,m9]
 obtain B:=(dE o.l0).symm
 obtain f:=o.all.length_eq
 rw [ak,dk] at f
 obtain i:(2*M).toNat<=1000:=by have:=o.l1;lia
 refine xX.cons (cf ((bQ (bZ (.one ((A2 (ρ₁:=λx=>[(S0 "marks",.d x)]) (ρ₂:=λx y=>[(S0 "mark",.d y),(S0 "marks",.d x)]) (outs:=λ_ y=>[y]) (Ee.of (al rfl) MP.list) rfl rfl .nil (by rw [H,ak,<- f];exact ab (by assumption) (by decide)) λx s=>?_).eq (by rw [H]))) (Ba (by rw [<- f];exact i) o.all ?hs)) (bZ (.cons (bZ (.one ((al (d:=.int (2*M)) rfl).eq (congrArg cb B))) iV) .nil λg g' v k ⟨l,t,u,x,e,h⟩=>(i42 l t u x e (k _ _ h))) (wL (n:=(2*M).toNat) (fa1 i))) (gh (gX _) (by rw [J1];exact gX _))).eq (by rw [J1,j9 (gX _)];rfl)) Ex.nil) ?_
 case hs=>exact (cT.mpr (List.pairwise_lt_range.imp λh=>by exact dM.2 (fa1 h)))
 ·refine e12 (mM s) λp m O=>?_;obtain rfl:=O;exact i04 eA r8.nil (Ee.of (al rfl) MP.list) (λy Z=>(i03 eA (r8.new rfl) (K5.one (al rfl) rfl)))
 refine xX.cons (lF.set (bX (.one (al rfl)) ((An w 13 (DY w 10 (oo w)) 6 _ t' j.ends j.reb).le (by decide)))) ?_
 refine xX.cons (ρ':=zV cs t t' (2*M)) (nA (ρ:=zV cs t t' (2*M)) (r8.cons rfl (r8.cons rfl (r8.cons rfl (r8.cons rfl (r8.cons rfl (r8.cons rfl r8.nil)))))) (uG (Tr.val (bX (.one (al rfl)) ((EQ w 4 t z (by decide)).le (by decide))) AO.bool) (λm=>?_) λm=>?_)) k
 ·obtain rfl:=j.plain m;obtain A:=jM z (by decide);exact Ex.cons (cf ((bQ (al rfl) (al rfl) (gh A A)).eq (by rw [j9 A];rfl)) Ex.nil) Ex.nil
 ·refine e12 (BF (bK 4 t)) λds L K=>?_;have N:∀ p∈bK 4 t,0<=p.2/\p.2<1048576:=λp m=>by have:=j.ends.2 p m;lia
  exact Ex.cons (cf (kd (l6 ((bQ (al rfl) .nil kr.isNone).eq (by cases t';rw [ir])) (l6 ((bQ (bZ (.one (bX (.one (al rfl)) j.ends')) (tL (fa2 r (aj j.perm.length_eq)) (λp m=>N p (j.perm.mem_iff.mp m)) (L.trans j.perm.symm) K)) (bZ (.one (al rfl)) (tL (fa1 r) N L K)) (gh (hV _) (hV _))).eq (by rw [j9 (hV _)];rfl)) qa))) Ex.nil) Ex.nil
section
variable {w:ar} {sc:bf} {r:Nat} {ρ:dh} {pos:cU} {P:ci}
theorem xP {l u r2:be} {y x:Ox} {d e f:ag} {b1 b2:Bool} (h1:Ev w sc r ρ l (DV d)) (h2:Ev w sc r ρ u (DV e)) (h3:Ev w sc r ρ r2 (DV f)) (c1:kr w r y d e b1) (c2:kr w r x e f b2) (U:autoParam (lastMarks [y,x] [u,r2]=false) auF._auto_1):Tr w sc r ρ (.Compare l [y,x] [u,r2] pos) (b1 && b2):=by
 intro A j t h i g v s z k F Q E q;refine isTrue_chain (h1 A j t h i g v s z k F _ _ λa Z T p N=>test_link ?_) U;have I:=F.step p;refine h2 A j t h i Z v T z k I _ _ λb Y S n B=>?_;obtain H:=I.step n;refine c1 Y a b (N.mono n.le) B A S k H.ss _ _ λc D C m M=>?_;rw [V.bool_inv M];refine fG ?_;have G:=H.step m;cases b1 with
 | false=>exact q D C ((p.trans n).trans m)
 | true=>refine test_last (h3 A j t h i D v C z k G _ _ λd4 X R o L=>?_);refine c2 X b d4 ((B.mono m.le).mono o.le) L A R k (G.step o).ss _ _ λc5 W O J K=>?_;rw [V.bool_inv K];exact fG (q W O ((((p.trans n).trans m).trans o).trans J))
theorem HF {o:be} {name:aE} {id:String} {apos:cU} {args:List be} {ds:List ag} {Ps:List ci} (ho:Ev w sc r ρ o (LL ds)) (u:rf w sc r ρ args Ps) (c:Oq "list" name id) (f:v9 (.builtin id)=pure (.type "method_descriptor")) (d:iu w r (.builtin id) (LL ds::Ps) P) (hb:autoParam (∀ j m,fZ o name j m=m) am._auto_9) (q:autoParam ((apos.endLine==pos.line)=true) auT._auto_1) (p:autoParam (args.length<30) n7._auto_19):Ev w sc r ρ (.Call (.Attribute o name apos) args [] pos) P:=
 zf ho u (λg v n s k=>by
  obtain ⟨a,x,rfl,⟨o,ho,t,_⟩,_,l,h,i⟩:=V.list_inv n;exact ⟨(i12 o (k _ _ ho) t),λb e=>by cases e;exact i12 l (k _ _ h) i⟩) eb c f d hb q p
theorem CN {ns:List Int} {k:Int} (G:k∈ns) (hz:ns.length<=1000):iu w r (.builtin "list.index") [LL (ns.map .int),II k] (II (ns.idxOf k:Nat)):=by
 intro g L h A s M S Q E q;refine e21 (jz h.length.symm) λv u B=>?_;obtain rfl:=B;refine e24 (V.list_inv h.1) λl e z F f K=>?_;obtain rfl:=z;refine e11 (V.int_inv h.2.1) λt x=>?_;obtain rfl:=x;obtain d:=f.ints;obtain ⟨⟨J,I,p,C⟩,i,o,n,m⟩:=IsList.up F S.sub;simp only at o m;subst o m;obtain b:=d.length;obtain c:=List.idxOf_lt_length_iff.mpr G;refine oM yg (i12 _ i rfl) PySem.F.entry_list_index (PySem.F.args_list_index_2 _ _)
  (Os l e.toArray n I C (.int k t) (isInt k) (ns.idxOf k) (by simpa [b] using c) (by lia) ?_ ?_) (i03 i (λy D=>(Nl k t d y (by simpa using D)).at _ _) (q _ g _ (S.tok _) (.int _ _)))
 ·refine (?_:isInt k e[ns.idxOf k]=true);rw [isInt_at k d _ (by lia) c];simpa using List.getElem_idxOf c
 ·intro j H a;refine (?_:isInt k e[j]=false);rw [isInt_at k d j (by trivial) (nl a c)];exact ne_of_lt_idxOf a _
end
noncomputable def nr (a b c:Int):ag:=.tuple [.int a,.int b,.int c]
noncomputable def vq (n:Int) (p:Int × Int):List ag:=if (n - p.1).fmod p.2==0 then [nr p.1 p.2 ((n - p.1).fdiv p.2)] else []
noncomputable def mH (L n:Int) (p:Int × Int):List ag:=if (ft L p).contains n then [nr p.1 p.2 ((ft L p).idxOf n:Nat)] else []
structure D8 (w:ar) (t t':du) (L n f s q:Int):Prop where
 due:(bK 4 t).flatMap (vq n)=[nr f s q]
 lead:fD 4 t 0 1 n=(f,s,q)
 lead':iu w 30 (.ref 303) [DV t'.dat,II n] (TT [.int f,.int s,.int q])
 marked:0<=n->n<L->(bK 4 t).flatMap (mH L n)=[nr f s q]
 div:(f - n - 1).fdiv (-s)=q/\(f - n - 1).fmod (-s)= -1
 small:n.natAbs<=1000
 f0:0<=f/\f<=243
 s0:0<s/\s<=243
theorem Jd (ns:List Int) (n:Int):((ns.map cb).any λy=>fO y (.int n))=ns.contains n:=by
 induction ns with
 | nil=>rfl
 | cons a ns b=>rw [bV,n9];congr 1;exact Bool.beq_comm
theorem pn (a b c:Int):cc (.list [nr a b c])=true:=rfl
theorem NO (ns:List Int):di (ns.map .int)=true:=by
 induction ns with
 | nil=>rfl
 | cons p b a=>rw [bV,di,a];rfl
noncomputable abbrev LS (n:Int) (cs:List Int) (t t':du) (L:Int):dh:=(S0 "number",.d (.int n))::zV cs t t' L
noncomputable def KP:ag->Nat
 | .int i=>i.toNat
 | _=>0
theorem xq {α:Type} (C:List (Int × Int)) (F:Int × Int->List α):((jK 0 C.length).flatMap λx=>F (C.getD (KP x) (0,1)))=C.flatMap F:=by
 obtain e:C=(br C.length).map λk=>C.getD k (0,1):=by
  apply List.ext_getElem;·simp
  ·intro i a b;simp [an a]
 delta jK;rw [ej];conv=>rhs;rw [e,ej]
 congr 1;funext k;refine (?_:F (C.getD (0+(k:Int)).toNat (0,1))=_);rw [eM,bS]
theorem EG (L n:Int) (C:List (Int × Int)):(C.flatMap (mH L n)).length<=C.length:=by
 induction C with
 | nil=>exact aq _
 | cons p C a=>
  rw [bP,aB,fQ];have:(mH L n p).length<=1:=by delta mH;split <;>simp
  exact fa2 a this
set_option maxHeartbeats 4000000 in
theorem GG (w:ar) {cs:List Int} {t t':du} {L n f s q:Int} (v:rV 4 t) (z:uF L (bK 4 t)) (N:D8 w t t' L n f s q)
  {oc:ae} {od:Option ay} {osl:Array (Option ae)} {fd:fR} {body b2:List cD} {A it:be} {G:cU} {rest:List cD} (ho:(kF.heap_1 w.params).lookup 330=some ⟨oc,od,.func fd,osl⟩) (g:fd.body=.stmts body) (hb:body.drop 16=.For A it b2 [] G::rest):Ex w fd.scope 30 (LS n cs t t' L) b2 (.next ((S0 "turn",.d (.int q))::(S0 "step",.d (.int s))::(S0 "first",.d (.int f))::(S0 "marked",.d (.list ((bK 4 t).flatMap (mH L n))))::(S0 "due",.d (.list [nr f s q]))::LS n cs t t' L)):=by
 revert v z N ho g hb
 revert w cs t t' L n f s q oc od osl fd body b2 A it G rest
 intros w cs t t' L n f s q oc od osl;intros fd body b2 A it G rest;intro v z N ho g hb
 obtain rfl:=sD ho
 obtain rfl:=p9 g
 cases hb
 obtain r:=z.len
 have a:(bK 4 t).length<=dK:=by unfold dK;exact ab r (by decide)
 obtain J:((bK 4 t).map cP).flatMap (λx=>vq n (wv x))=[nr f s q]:=by rw [qU (F:=vq n)];exact N.due
 have C:∀ p∈bK 4 t,0<p.2/\p.2<=243:=λp j=>by
  have:=(kK 4 t v).2 p j;lia
 refine Ex.cons (mQ (x:=S0 "due") (ρc:=[(S0 "number",.d (.int n))]) (ρ₁:=λx=>(S0 "step",.d (.int (wv x).2))::(S0 "first",.d (.int (wv x).1))::[(S0 "number",.d (.int n))]) (outs:=λx=>vq n (wv x)) (Ee.of (al rfl) MP.list) rfl rfl (.cons rfl rfl rfl rfl .nil) (by rw [J];exact ax rfl) (λx B=>?_) rfl (by intro l E;obtain ⟨_,_,_,_,_,_,_,_,_⟩:=l;cases E.scp;rfl)) ?_
 ·refine e12 (mM B) λp j M=>?_;obtain rfl:=M;obtain hb:=C p j;obtain o:(wv (cP p)).2≠0:=by rw [zM];exact My (fi1 hb.1)
  obtain m:(wv (cP p)).2.natAbs<2 ^ 30:=by rw [zM];(refine yE ?_ ?_ <;>lia)
  exact i03 (uI.tuple K6.two) (λy c e=>r8.new rfl y c (r8.new rfl y c e)) (uH (y:=nr p.1 p.2 ((n - p.1).fdiv p.2)) (bQ (bz (bz (al rfl) (al rfl) gK) (al rfl) (kM o m)) .int gi) (λ_=>Ev.tuple (.consD (al rfl) (.consD (al rfl) (.one (bz (bz (al rfl) (al rfl) gK) (al rfl) (oH o m))))) (ax rfl)) rfl)
 ·rw [J];refine Ex.cons (cf (kd (l6 ((bQ (al rfl) (Ev.list (ds:=[nr f s q]) (.one (bX (.consD (al rfl) (.one (al rfl))) (((G1 w 13 (DY w 10 (oo w)) 4 t n v (by decide) (by have:=N.small;exact ab (by assumption) (by decide))).le (by decide)).eq (by rw [N.lead];rfl)))) (ax rfl)) (gh rfl rfl)).eq (by rw [j9 (pn _ _ _)];rfl)) (l6 ((bQ (al rfl) (Ev.list (ds:=[nr f s q]) (.one (bX (.consD (al rfl) (.one (al rfl))) N.lead')) (ax rfl)) (gh rfl rfl)).eq (by rw [j9 (pn _ _ _)];rfl)) qa))) Ex.nil) ?_;obtain h:=ak ..;refine Ex.cons (mQ (x:=S0 "marked") (ρc:=[(S0 "classes",.d (.list ((bK 4 t).map cP))),(S0 "number",.d (.int n)),(S0 "rulers",.d (yB L (bK 4 t)))]) (ρ₁:=λx=>(S0 "k",.d x)::[(S0 "classes",.d (.list ((bK 4 t).map cP))),(S0 "number",.d (.int n)),(S0 "rulers",.d (yB L (bK 4 t)))]) (outs:=λx=>mH L n ((bK 4 t).getD (KP x) (0,1))) (xs:=jK 0 (bK 4 t).length)
   (Ee.of (bZ (.one (bZ (.one (al rfl)) (fL (by rw [h];exact a)))) iV) (jS (by rw [h];rfl) (by decide) (by rw [h];(refine iR ?_ ?_ <;>lia)))) rfl rfl (.cons rfl rfl rfl rfl (.cons rfl rfl rfl rfl (.cons rfl rfl rfl rfl .nil))) (by rw [xq];exact ab (EG ..) a) (λx B=>?_) rfl (by intro l E;obtain ⟨_,_,_,_,_,_,_,_,_⟩:=l;cases E.scp;rfl)) ?_
  ·refine e12 (mM B) λi D K=>?_;obtain rfl:=K;obtain D:=mR D;rw [eM];obtain j:=an D;obtain ⟨p,j⟩:∃ p,(bK 4 t)[i]?=some p:=⟨_,j⟩;obtain O:(bK 4 t).getD (KP (.int i)) (0,1)=p:=by
    refine (?_:(bK 4 t).getD ((i:Int)).toNat (0,1)=p);rw [bS,aJ,j];rfl
   have I:D5 ((bK 4 t).map λp=>dp ((ft L p).map .int)) (i:Int)=some (.list ((ft L p).map .int)):=nE (by rw [av,j];rfl);refine i03 eA (r8.new rfl) (uH (y:=nr p.1 p.2 ((ft L p).idxOf n:Nat)) (b:=(ft L p).contains n) ((bQ (al rfl) (gf (al rfl) (al rfl) I (by rw [h];exact a)) (vX (NO _) rfl (ax rfl))).eq (Jd _ _)) (λhb=>?_) (by refine (?_:mH L n _=_);rw [O];rfl));exact bz (gf (al rfl) (al rfl) (nE (by rw [av,j];rfl)) (by simpa using a)) (Ev.tuple (ds:=[.int ((ft L p).idxOf n:Nat)]) (.one (HF (gf (al rfl) (al rfl) I (by rw [h];exact a)) (.one (al rfl)) yg PySem.F.type_list_index (CN (by exact List.mem_of_elem_eq_true hb) (by unfold ft mF;simpa using ((z.few p (aQ j)).2.2.2.2.1))))) (ax rfl)) (Ft (ax rfl) (by exact lB (cb p.fst) [cb p.snd]) (by exact lB (cb ↑(List.idxOf n (ft L p))) []))
  rw [xq];refine Ex.cons (cf ?ht Ex.nil) ?_;case ht=>
   by_cases u:0<=n/\n<L;·exact kd (vC ((xP .int (al rfl) (al rfl) pN kh).eq (by simp [u.1,u.2])) (li ((bQ ((al (d:=.list ((bK 4 t).flatMap (mH L n))) rfl).eq (d':=.list [nr f s q]) (by rw [N.marked u.1 u.2])) (al rfl) (gh rfl rfl)).eq (by rw [j9 (pn _ _ _)];rfl))))
   ·refine kd (li ((xP .int (al rfl) (al rfl) pN kh).eq ?_));rw [Bool.and_eq_false_iff];by_cases H:0<=n;·exact .inr (decide_eq_false λP=>u ⟨H,P⟩)
    ·exact .inl (decide_eq_false H)
  refine Ex.cons (fE (gf (k:=0) (d:=nr f s q) (al rfl) .int rfl (ax rfl)) yb) ?_;obtain this:=N.f0;obtain this:=N.s0;have:=N.small;exact Ex.cons (cf ((bQ (bX (.consD (bz (bz (al rfl) (al rfl) gK) .int gK) (.one (oB (al rfl)))) (((DY w 10 (oo w) (f - n - 1) (-s) (by lia) (by lia) (by lia)).le (by decide)).eq (by rw [N.div.1,N.div.2]))) (Ev.tuple (ds:=[.int q,.int (-1)]) (.consD (al rfl) (.one (oB .int))) (ax rfl)) (gh rfl rfl)).eq (by rw [j9 rfl];rfl)) Ex.nil) Ex.nil
theorem jf.le {w:ar} {r r':Nat} (k:r<=r') {fin:Bool} {it:ae} {xs:List ag}:∀ {g:aA} {q:Pr},jf w r fin it xs g q->jf w r' fin it xs g q:=by
 induction xs with
 | nil=>exact λh=>⟨⟨h.1.1,λc A s a b=>h.1.2 c A s a (b.le k)⟩,λt c A s a b=>h.2 t c A s a (b.le k)⟩
 | cons x xs l=>exact λh=>⟨⟨h.1.1,λc A s a b=>h.1.2 c A s a (b.le k)⟩,λc A s a b S n Q E j=>h.2 c A s a (b.le k) S n Q E λv e i f x d p m o=>j v e i f x d p m (l o)⟩
theorem wK.le {w:ar} {r r':Nat} {f:ae} {Ps:List ci} {fin:Bool} {xs:List ag} (h:wK w r f Ps fin xs) (k:r<=r'):wK w r' f Ps fin xs:=λg a d A s j S Q E q=>h g a d A s (j.le k) S Q E λc n p b x e m l i=>q c n p b x e m l (i.le k)
noncomputable def EF (k:Int):Int:=k.fmod 201 - 100
noncomputable abbrev ND (f s:Int):dh:=[(S0 "first",.d (.int f)),(S0 "step",.d (.int s))]
set_option maxHeartbeats 4000000 in
theorem EM (w:ar) {g a1 a2 a3 a4 b:Int} {t t':du} {L:Int} (B:rV 4 t) (C:uF L (bK 4 t)) (N:∀ n∈[0,1,2,3,EF a4,EF b],∃ f s q,D8 w t t' L n f s q)
  {oc:ae} {od:Option ay} {osl:Array (Option ae)} {fd:fR} {body:List cD} (ho:(kF.heap_1 w.params).lookup 330=some ⟨oc,od,.func fd,osl⟩) (d:fd.body=.stmts body) (k:xX w fd.scope 30 (zV [g,a1,a2,a3,a4,b] t t' L) (body.drop 17)):xX w fd.scope 30 (zV [g,a1,a2,a3,a4,b] t t' L) (body.drop 16):=by
 obtain rfl:=sD ho
 obtain rfl:=p9 d
 obtain A:∀ {l:bf} (i:Nat) (a:Int) {c:Nat} {z v u r p o m:cU},[g,a1,a2,a3,a4,b][i]?=some a->Ev w l 30 (zV [g,a1,a2,a3,a4,b] t t' L) (.BinOp (.BinOp (.Subscript (.Name (S0 "cells") z) (.Constant (.int (i:Nat)) c v) u) .Mod (.Constant (.int 201) c r) p) .Sub (.Constant (.int 100) c o) m) (II (EF a)):=by
  intro l i a c z v u r p o m h;exact bz (bz (gf (ds:=[g,a1,a2,a3,a4,b].map .int) (al rfl) .int (uC h) (ax rfl)) .int (kM (by decide) (by decide))) .int gK
 refine xX.cons (gc (Ee.of (Ev.list (ds:=[.int 0,.int 1,.int 2,.int 3,.int (EF a4),.int (EF b)]) (.consD .int (.consD .int (.consD .int (.consD .int (.consD (A 4 a4 rfl) (.one (A 5 b rfl))))))) (ax rfl)) MP.list) (rW λx D=>?_)) k
 obtain ⟨n,j,rfl⟩:∃ n,n∈[0,1,2,3,EF a4,EF b]/\x=.int n:=by
  have:x∈[0,1,2,3,EF a4,EF b].map cb:=D;refine e12 (mM this) λn j e=>?_;exact i12 n j e.symm
 refine e31 (N n j) λf s q h=>?_
 exact i23 _ _ eA (GG w B C h rfl rfl rfl) (λy c e=>r8.new rfl y c (r8.new rfl y c (r8.new rfl y c (r8.new rfl y c (r8.new rfl y c (r8.new rfl y c e))))))
noncomputable def NF:ag->Int
 | .int i=>i
 | _=>0
theorem L5 (ns:List Int):(!fO (.list (ns.map .int)) (.list (ns.map .int)))=false:=by rw [j9 (gX ns)];rfl
noncomputable def J4:List (List Int):=[[],[127],[127,0,5]]
theorem EX {f s:Int} (h1:f+1≠127) (h2:f+1≠0) (h3:s≠127) (h4:s≠0):∀ b∈J4,vI none ([f+1,s]++b) [f+1,s] true:=λb h=>by
 have a:∀ b,vI (some s) b [] true->vI none ([f+1,s]++b) [f+1,s] true:=λb g=>.step h1 h2 (.step h3 h4 g);rcases mC h with rfl | h;·exact a _ .fin0
 rcases mC h with rfl | h;·exact a _ .sent
 ·rw [mS h];exact a _ .sent
theorem B5 (s:Int):mF (s+126) s 4=[126+s*1,126+s*2,126+s*3,126+s*4]:=by
 refine (?_:[s+126+((0:Nat):Int)*s,s+126+((1:Nat):Int)*s,s+126+((2:Nat):Int)*s,s+126+((3:Nat):Int)*s]=_);simp only [lm,and_true];refine i04 ?_ ?_ ?_ ?_ <;>lia
set_option maxHeartbeats 4000000 in
theorem EL (w:ar) {cs:List Int} {t t':du} {L:Int} (u:rV 4 t) (j:(bK 4 t).length<=9) {A:List (Int × Int)} {f s:Int} (o:bK 4 t=A++[(f,s)])
  {oc:ae} {od:Option ay} {osl:Array (Option ae)} {fd:fR} {body:List cD} (ho:(kF.heap_1 w.params).lookup 330=some ⟨oc,od,.func fd,osl⟩) (b:fd.body=.stmts body):xX w fd.scope 30 (zV cs t t' L) (body.drop 17):=by
 obtain rfl:=sD ho
 obtain rfl:=p9 b
 have a:=(kK 4 t u).2 (f,s) (by rw [o];simp)
 have z:(3:Int) ^ 4=81:=rfl
 dsimp only at a
 have g:(bK 4 t).length<=dK:=by delta dK;exact fa1 j
 have y:D5 ((bK 4 t).map cP) (-1)=some (cP (f,s)):=by rw [o,bM];exact D3
 refine xX.cons (fE (gf (al rfl) (oB .int) y (by simpa using g)) K6.two) ?_
 refine zc (ρ':=ND f s) (r8.cons rfl (r8.cons rfl r8.nil)) ?_
 refine xX.cons (cf ((bQ (bX (.consD (bz (al rfl) .int cQ) (.consD (al rfl) (.one (bz .int (bz .int (al rfl) (fF (.inl (by delta Sm;decide)))) cQ)))) (((xD w (first:=s+126) (step:=s) (limit:=126+5*s) (n:=4) (by decide) (fi2 a.1 a.2.1) (by lia) (by lia) (fi2 a.1 a.2.1) (λi C=>?c1) (by lia)).le (by decide)).eq (by rw [B5])))
  ((kg (ρc:=[(S0 "step",.d (.int s))]) (ρ₁:=λx=>(S0 "k",.d x)::[(S0 "step",.d (.int s))]) (outs:=λx=>[.int (126+s*NF x)]) (xs:=jK 1 4) (Ee.of (bZ (.consD .int (.one .int)) CM) (jS rfl (by decide) (by decide))) rfl rfl (.cons rfl rfl rfl rfl .nil) (ax rfl) λx c=>?c2).eq (d':=.list ([126+s*1,126+s*2,126+s*3,126+s*4].map .int)) rfl) (gh (gX _) (gX _))).eq (L5 _)) Ex.nil) ?_
 case c1=>have:=cK (show (i:Int)<=3 by lia) (show 0<=s by exact fi2 a.1 a.2.1);exact fi3 a.1 a.2.1 this
 case c2=>refine e12 (mM c) λi B q=>?_;obtain rfl:=q;exact i03 eA (r8.new rfl) (K5.one (bz .int (bz (al rfl) (al rfl) (fF (.inl (by delta Sm;(refine iR ?_ ?_ <;>lia))))) cQ) rfl)
 refine xX.cons (gc (Ee.of (Ev.list (ds:=J4.map λl=>.list (l.map .int)) (.consD (Ev.list (ds:=[]) .nil (aM _)) (.consD (Ev.list (ds:=[.int 127]) (.one .int) (ax rfl)) (.one (Ev.list (ds:=[.int 127,.int 0,.int 5]) (.consD .int (.consD .int (.one .int))) (ax rfl))))) (ax rfl)) MP.list) (rW λx c=>?_)) ?_
 ·refine e12 (mM c) λm e p=>?_;obtain rfl:=p;have v:m.length<=3:=by
   rcases mC e with rfl | h;·decide
   rcases mC h with rfl | h;·decide
   ·rw [mS h];decide
  refine i23 _ _ eA (Ex.cons (cf ((bQ ((kg (ρc:=[]) (ρ₁:=λx=>[(S0 "size",.d x)]) (outs:=λx=>[x]) (xs:=[f+1,s].map .int) (sU (.one ((bz (Ev.list (ds:=[.int (f+1),.int s]) (.consD (bz (al rfl) .int cQ) (.one (al rfl))) (ax rfl)) (al (d:=.list (m.map .int)) rfl) (mj (by simp;delta dK;exact fa1 v))).eq (d':=.list (([f+1,s]++m).map .int)) rfl)) ((vi w (EX (by lia) (by lia) (by lia) (by lia) m e)).le (by decide))) rfl rfl .nil (ax rfl) λx c=>⟨eA,r8.nil,K5.one (al rfl) rfl⟩).eq (d':=.list ([f+1,s].map .int)) rfl) (Ev.list (ds:=[.int (f+1),.int s]) (.consD (bz (al rfl) .int cQ) (.one (al rfl))) (ax rfl)) (gh (gX _) (gX [f+1,s]))).eq (L5 _)) Ex.nil) Ex.nil) (r8.new rfl)
 refine xX.cons (cf ((bQ ((kg (ρc:=[]) (ρ₁:=λx=>[(S0 "size",.d x)]) (outs:=λx=>[x]) (xs:=[]) (sU (.one ((Ev.list (ds:=[.int 127,.int 0,.int s]) (.consD .int (.consD .int (.one (al rfl)))) (ax rfl)).eq (d':=.list ([127,0,s].map .int)) rfl)) ((vi w (ys:=[]) .sent).le (by decide))) rfl rfl .nil (aM _) λx c=>nm c).eq (d':=.list []) rfl) (Ev.list (ds:=[]) .nil (aM _)) (gh rfl rfl)).eq rfl) Ex.nil) ?_
 exact xX.last (r:=24) rfl
theorem Hc (P:HZ):((kF.heap_1 P).all λp=>!cg p.1)=true:=by kernel_rfl
theorem KM (P:HZ):Bh (kF.heap_1 P) bA (ac "law")=some (some (.ref 330)):=by rfl
theorem G4 {P:HZ} {h:aA} {a:ay} {mg:aE->Option ae} (c:(kF.heap_1 P).In h) (g:h.Ns bA mg) (h2:mg (ac "law")=some (.ref a)):a=330:=by
 replace h2:=(mg_of c g (KM P))▸h2;refine iM h2 λb=>?_;clear h2;cases b;rfl
noncomputable def told (h:aA):aA:=mz h λb=>!cg b
theorem ru {h:aA} {b:ay} {o:ff} (e:h.get? b=some o) (ht:cg b=false):(told h).get? b=some o:=by
 unfold told;rw [fo,ht];exact e
theorem IB (h:aA):eN (told h) h:=λb o e=>by
 exact (qQ e).2
theorem tA {a:ay} {o:ff}:∀ {K:List (ay × ff)},K.lookup a=some o->(a,o)∈K
 | [],h=>(by cases h)
 | (b,d)::K,h=>by
  rw [aK] at h;split at h
  ·rename_i q;refine iM h λc=>?_;clear h;subst c;rw [bE q];exact .head _
  ·exact .tail _ (tA h)
theorem LQ {w:ar} {s₁:af} {mg mb:aE->Option ae} {g:ExcName->Option ae} (A:(kF.heap_1 w.params).In s₁.heap) (R:∀ P∈[62,201,97,90],s₁.heap.get? P=some (oN #[])) {p:Po} {d:List aE} (T:Top p d g mg mb s₁.heap) (I:s₁.gens=#[]):SS w (told s₁.heap) s₁:=by
 obtain c:∀ b,cg b=true->s₁.heap.get? b=some (oN #[]):=λb k=>R b (by
  delta cg at k;simp only [iK,beq_iff_eq] at k;rcases k with ((rfl | rfl) | rfl) | rfl <;>decide)
 obtain f:∀ {a m},s₁.heap.Ns a m->cg a=false->(told s₁.heap).Ns a m:=λy G=>by refine e32 y λo K L e r=>?_;clear y;exact i32 o K L (ru e G) r
 obtain S:(kF.heap_1 w.params).In (told s₁.heap):=λa o e=>ru (A a o e) (by
  simpa using (aT (Hc w.params) _ (tA e)))
 refine bc λE=>?_;obtain ⟨F,u,t⟩:=T.nolimit;obtain ⟨s,j,h⟩:=T.nodigits;obtain ⟨n,D,Q,O,l,z,N,M⟩:=T.bmain;refine E ?_;obtain v:cg n=false:=by
  cases q:cg n with
  | false=>rfl
  | true=>replace l:=(c n q)▸l;refine iM l λB=>?_;clear l;subst B;cases z
 refine ⟨⟨S,⟨mg,mb,f T.g rfl,f T.b rfl,(i12 F (f u rfl) t),T.builtins⟩,⟨mg,f T.g rfl,n,D,Q,O,ru l v,z,N,M⟩,(i12 s (f j rfl) h)⟩,IB _,⟨⟨_,c 62 rfl⟩,⟨_,c 90 rfl⟩,⟨_,c 97 rfl⟩,⟨_,c 201 rfl⟩⟩,?_,λb k=>?_,λi x e=>?_,λP J=>(i13 (#[]) (c P J) ?_ (λC U e=>?_))⟩
 ·obtain ⟨o,H⟩:∃ o,(kF.heap_1 w.params).lookup 330=some o:=⟨_,rfl⟩;exact aH (A 330 o H)
 ·delta told;rw [fo,k];rfl
 ·replace e:=I▸e;trivial
 ·trivial
 ·cases e
theorem ER {w:ar} {g:aA} {s:af} {v:ae} {script:List Int} (S:SS w g s) (d:V g v (.list (script.map .int))) (h:∀ o n e j b,(kF.heap_1 w.params).lookup 330=some ⟨o,n,.func j,e⟩->j.body=.stmts b->xX w j.scope 30 [(S0 "script",.d (.list (script.map .int)))] b) {Q:ae->af->Prop} {E:ae->af->Prop} (q:∀ c,Ei s s.heap.objs.size c->Q (.bool true) c):aV (MM w) callerA (call (.ref 330) [v]) Q E s:=by
 refine iX ?_;refine' Ec (r:=30) (xs:=[S0 "script"]) (ps:=[LL (script.map .int)]) [] rfl rfl rfl rfl rfl rfl ?hbind ?hp (by decide) (by decide) (by decide) rfl rfl rfl (vs0:=[v]) ?hA S ⟨d,trivial⟩ ?h;case hbind=>intro u s _ d;rw [bp] at d ⊢;refine e11 (hY d) λa l=>?_;obtain rfl:=l;exact jC rfl
 case hp=>exact .cons tN.d .nil
 case hA=>exact ⟨rfl,by decide,by decide⟩
 case h=>intro k m x _ p f i t F;refine h _ _ _ _ _ rfl rfl _ k s g g m p f rfl i F _ _ λc z=>?_;replace z:=t▸z;exact q c z
theorem rO {K:HZ->Frag} {P:HZ} {h:aA} {c b:ay} (X:(K P).In h) (e:codeHdIn (K P) c b=true):PF h b:=by
 obtain ⟨o,a,_,_,_,_,_,_,_,i,g,f,d,_⟩:=codeHd_of_K X e;exact i34 c o a i g f d
theorem IS {w:ar} {s s':af} {L:ay} (X:(kF.heap_1 w.params).In s.heap) (g:∀ P∈[62,201,97,90],s.heap.get? P=some (oN #[])) (l:L=s.heap.objs.size) (z:Ei s L s'):OldK s.heap s'.heap:=by
 obtain a:∀ b o,s.heap.get? b=some o->asItWas s.heap s'.heap b o/\∃ o',s'.heap.get? b=some o':=λb o e=>by
  cases d:cg b with
  | false=>obtain this:=z.keep b o e (by rw [l];exact bg (aH e)) d;exact ⟨.inl this,o,this⟩
  | true=>
   have f:PF s.heap b->s.heap.get? b=some (oN #[])->lS s'.heap b->asItWas s.heap s'.heap b o/\∃ o',s'.heap.get? b=some o':=λn m ⟨k,i⟩=>by
    replace e:=m▸e;refine iM e λj=>?_;clear e;subst j;exact ⟨.inr (.inl ⟨n,rfl,#[],k,rfl,by rw [i];simp [oN]⟩),_,i⟩
   delta cg at d;simp only [iK,beq_iff_eq] at d;rcases d with ((rfl | rfl) | rfl) | rfl;·exact f (rO (c:=66) X rfl) (g _ (by decide)) z.tabs.t1
   ·exact f (rO (c:=94) X rfl) (g _ (by decide)) z.tabs.t2
   ·exact f (rO (c:=101) X rfl) (g _ (by decide)) z.tabs.t3
   ·exact f (rO (c:=203) X rfl) (g _ (by decide)) z.tabs.t4
 exact ⟨λb o e=>(a b o e).1,λb o e=>(a b o e).2⟩
theorem Gs {P:HZ} {h:aA} {a:ay} {vs:List ae} {ns:List Int} (k:∀ b,cg b=true->h.get? b=some (oN #[])) (hw:Well P h (.ref a) (ofPy (.list (ns.map .int)))) (j:h.IsList a vs.toArray) (hi:Pv vs ns):V (told h) (.ref a) (.list (ns.map .int)):=by
 cases hw with
 | list d _=>
  obtain ⟨o,c,l,n,e⟩:=j;replace c:=d▸c;refine iM c λg=>?_;clear c;subst g;simp only [Qg] at e;obtain i:cg a=false:=by
   cases q:cg a with
   | false=>rfl
   | true=>replace d:=(k a q)▸d;refine iM d λf=>?_;clear d;cases f
  exact V.list (ru d i) rfl (by rw [e.1]) rfl (E4 hi)
 | _=>simp [ofPy] at hx
theorem ID {h:aA} (c:∀ P∈[62,201,97,90],h.get? P=some (oN #[])):∀ b,cg b=true->h.get? b=some (oN #[]):=λb a=>c b (by
 delta cg at a;simp only [iK,beq_iff_eq] at a;rcases a with ((rfl | rfl) | rfl) | rfl <;>decide)
noncomputable abbrev ch (s:aE):List Nat:=s.cps.toList
theorem cj (a b:aE):ch (a++b)=ch a++ch b:=by
 refine (?_:(a.cps++b.cps).toList=_);rw [dQ]
theorem qW {a b:aE} (h:ch a=ch b):a=b:=Str.ext' (uu.mp h)
theorem I1 (a:aE) (xs:List aE):iL a xs=Fz a xs:=StrLaws.glued_eq_join a xs
theorem pI:∀ a:List aE,ch (iL (S0 "") a)=a.flatMap ch
 | []=>rfl
 | [x]=>by exact (bp _).symm
 | x::y::r=>by
  obtain b:=pI (y::r);rw [I1] at b ⊢;refine (?_:ch (x++S0 ""++Fz (S0 "") (y::r))=_);rw [cj,cj,b];refine (?_:ch x++[]++_=ch x++_);rw [bp];rfl
theorem AF (c:Nat):∀ (x:aE) (r:List aE),ch (Fz ⟨#[c]⟩ (x::r))++[c]=(x::r).flatMap λp=>ch p++[c]
 | x,[]=>by refine (?_:ch x++[c]=_);exact jl (List.flatMap_singleton (λp=>ch p++[c]) x)
 | x,y::r=>by
  refine (?_:ch (x++⟨#[c]⟩++Fz ⟨#[c]⟩ (y::r))++[c]=_);rw [cj,cj,bq,AF c y r];rfl
theorem AJ (c:Nat):∀ {e d:List aE},(∀ p∈e,c∉ch p)->(∀ q∈d,c∉ch q)->(e.flatMap λp=>ch p++[c])=(d.flatMap λp=>ch p++[c])->e=d
 | [],[],_,_,_=>rfl
 | [],q::d,_,_,h=>by simp at h
 | p::e,[],_,_,h=>by simp at h
 | p::e,q::d,n,m,h=>by
  rw [bP,bP,bq,bq] at h;obtain f:∀ (a b:List Nat) (u v:List Nat),c∉a->c∉b->a++([c]++u)=b++([c]++v)->a=b/\u=v:=by
   intro a;induction a with
   | nil=>
    intro b u v _ j h;cases b with
    | nil=>simpa using h
    | cons y b=>simp only [mr,jy,lm] at h;exact absurd (h.1▸.head _) j
   | cons x a r=>
    intro b u v o j h;cases b with
    | nil=>simp only [mr,jy,lm] at h;exact absurd (h.1▸.head _) o
    | cons y b=>simp only [jy,lm] at h;refine e02 (r b u v (λi=>o (.tail _ i)) (λi=>j (.tail _ i)) h.2) λl k=>?_;exact ⟨by rw [h.1,l],k⟩
  refine e02 (f _ _ _ _ (n p (.head _)) (m q (.head _)) h) λl k=>?_;rw [qW l,AJ c (λx g=>n x (.tail _ g)) (λx g=>m x (.tail _ g)) k]
theorem uV {c:Nat} {x p:aE} {ps:List aE} (f:∀ q∈p::ps,c∉ch q) (hx:ch x++[c]=(p::ps).flatMap λp=>ch p++[c]):fy x ⟨#[c]⟩=p::ps:=by
 revert c x p ps;intros c x p ps;intro f hx;obtain b:=StrLaws.join_split x ⟨#[c]⟩;obtain g:=StrLaws.split_free x c;cases a:fy x ⟨#[c]⟩ with
 | nil=>
  replace b:=a▸b;have:ch x=[]:=by rw [<- b];rfl
  rw [this,bP] at hx;obtain e:=congrArg lW hx;simp only [mr] at e;have d:ps=[]:=by
   cases ps with
   | nil=>rfl
   | cons q r=>simp only [bP,aB,fQ,pS] at e;lia
  subst d;delta fy at a;split at a;·exact L8 a
  ·split at a;·exact L8 a
   ·have:=congrArg lW a;rw [uh] at this;exact gt this
 | cons y r=>rw [a] at b g;refine AJ c (λq h=>g q h) f ?_;rw [<- AF,b];exact hx
noncomputable def wB (l:List du) (f s:Int):List aE:=match lR l f s with
 | none=>[]
 | some (x,y)=>[iL (S0 "") [E1 (S0 "f") y,E1 (S0 "s") x]]
noncomputable def vf (F:Nat->List aE):Nat->List aE
 | 0=>[]
 | n+1=>vf F n++F n
noncomputable def rx:Nat->du->Int->Int->List aE
 | 0,.node l,f,s=>[S0 "<n"]++wB l f s++[S0 ">"]++[S0 "</n>"]
 | h+1,.node l,f,s=>[S0 "<n"]++wB l f s++[S0 ">"]++vf (λk=>rx h (l.getD k (.node [])) (f+s*k) (s*l.length)) l.length++[S0 "</n>"]
theorem IC (l:List du) (f s:Int):rx 0 (.node l) f s=[S0 "<n"]++wB l f s++[S0 ">"]++[S0 "</n>"]:=rfl
theorem Du (h:Nat) (l:List du) (f s:Int):rx (h+1) (.node l) f s=[S0 "<n"]++wB l f s++[S0 ">"]++vf (λk=>rx h (l.getD k (.node [])) (f+s*k) (s*l.length)) l.length++[S0 "</n>"]:=rfl
theorem DQ (F:Nat->List aE) (n:Nat):vf F (n+1)=vf F n++F n:=rfl
theorem GS (l:List du) (f s:Int):BU (lR l f s)=(wB l f s).map .str:=by
 delta wB;cases lR l f s <;>rfl
theorem DN {P:Nat->List ag} {S:Nat->List aE} (h:∀ k,P k=(S k).map .str):∀ n,tB P n=(vf S n).map .str
 | 0=>rfl
 | n+1=>by rw [DR,DQ,bM,DN h n,h n]
theorem Dt:∀ (h:Nat) (t:du) (f s:Int),mw h t f s=(rx h t f s).map .str
 | 0,.node l,f,s=>by rw [Dv,IC,GS];simp
 | h+1,.node l,f,s=>by
  rw [Dw,Du,GS,DN (S:=λk=>rx h (l.getD k (.node [])) (f+s*k) (s*l.length)) λk=>Dt h _ _ _];simp
theorem DO {F:Nat->List aE} {G:Nat->aE} (h:∀ k,(F k).flatMap ch=ch (G k)):∀ n,(vf F n).flatMap ch=((br n).map G).flatMap ch
 | 0=>rfl
 | n+1=>by rw [DQ,cO,DO h n,h n,mn];simp
theorem DK (f s:Int):([S0 "<n"]++wB [] f s++[S0 ">"]++[S0 "</n>"]).flatMap ch=ch (qC f s):=by
 delta wB lR qC;simp only [List.isEmpty_nil,if_true,cO,bP,lz,pI,cj,bq,bp,E1,wn,List.foldl_nil];rfl
theorem sq:∀ (h:Nat) (t:du) (f s:Int),rV h t->(rx h t f s).flatMap ch=ch (gU h t f s)
 | 0,.node l,f,s,b=>by
  obtain rfl:=b;exact DK f s
 | h+1,.node l,f,s,b=>by
  rw [Du,rG];cases d:l with
  | nil=>exact DK f s
  | cons a r=>
   rw [<- d];obtain c:l.isEmpty=false:=by rw [d];rfl
   rw [if_neg (by rw [c];decide)];obtain e:wB l f s=[]:=by delta wB lR;rw [c];rfl
   rw [e,cO,cO,DO (G:=λk=>gU h (l.getD k (.node [])) (f+s*k) (s*l.length)) λk=>sq h _ _ _ (b.kid' k),cj,cj,pI];rfl
noncomputable def pB (f s:Int):List (aE × List (Int × Int)):=[(S0 "<n f=\""++dd f++S0 "\" s=\""++dd s++S0 "\"",[(f,s)]),(S0 "</n",[])]
noncomputable def BS:Nat->du->Int->Int->List (aE × List (Int × Int))
 | 0,_,f,s=>pB f s
 | h+1,.node l,f,s=>if l.isEmpty then pB f s else [(S0 "<n",[])]++((br l.length).flatMap λk=>BS h (l.getD k (.node [])) (f+s*k) (s*l.length))++[(S0 "</n",[])]
theorem BR (h:Nat) (l:List du) (f s:Int):BS (h+1) (.node l) f s=if l.isEmpty then pB f s else [(S0 "<n",[])]++((br l.length).flatMap λk=>BS h (l.getD k (.node [])) (f+s*k) (s*l.length))++[(S0 "</n",[])]:=rfl
theorem xC (f s:Int):ch (qC f s)=(pB f s).flatMap λp=>ch p.1++[62]:=by
 delta qC pB;simp only [cj,bP,bq];rfl
theorem GF:∀ (h:Nat) (t:du) (f s:Int),ch (gU h t f s)=(BS h t f s).flatMap λp=>ch p.1++[62]
 | 0,.node l,f,s=>xC f s
 | h+1,.node l,f,s=>by
  rw [rG,BR];split;·exact xC f s
  ·rw [cj,cj,pI,cO,cO,ej,sh];congr 1;congr 1;exact ew λk _=>GF h _ _ _
theorem DF (f s:Int):(pB f s).flatMap (·.2)=[(f+s*0,s*1)]:=by simp [pB]
theorem Aa:∀ (h:Nat) (t:du) (f s:Int),rV h t->(BS h t f s).flatMap (·.2)=(bK h t).map λp=>(f+s*p.1,s*p.2)
 | 0,.node l,f,s,_=>DF f s
 | h+1,.node l,f,s,a=>by
  rw [BR,rL];split;·exact DF f s
  ·rw [cO,cO,sh,lw];simp only [bP,lz,bp];refine ew λk b=>?_;rw [Aa h _ _ _ (a.kid k (mR b)),cz];refine dS λp _=>?_;refine (?_:(f+s*k+s*l.length*p.1,s*l.length*p.2)=(f+s*(k+l.length*p.1),s*(l.length*p.2)));rw [md,jZ,jZ,si]
theorem yz:((br 244).all λn=>!(ch (dd (n:Int))).contains 34 && !(ch (dd (n:Int))).contains 62)=true:=by decide+kernel
theorem uW {n:Int} (h0:0<=n) (h1:n<=243):34∉ch (dd n)/\62∉ch (dd n):=by
 refine e11 (dj h0) λm a=>?_;obtain rfl:=a;obtain this:=aT yz m (KJ (by lia));simp only [bN,tW,qJ,decide_eq_false_iff_not] at this;exact this
noncomputable def K0 (p:aE × List (Int × Int)):Prop:=uD p.1 p.2/\62∉ch p.1
theorem rz {x:aE} (h1:34∉ch x) (h2:62∉ch x) (h3:x.length<=10):K0 (x,[]):=by
 refine ⟨⟨by delta dK;exact fa1 h3,.inl ⟨?_,rfl⟩⟩,h2⟩;rw [show S0 "\""=(⟨#[34]⟩:aE) from rfl,(uV (λq a=>by rw [mS a];exact h1) (by simp))];refine (?_:1≠5);decide
theorem DJ {f s:Int} (h0:0<=f) (h1:f<s) (h2:s<=243):∀ p∈pB f s,K0 p:=by
 refine e02 (uW h0 (fi2 h1 h2)) λi h=>?_;refine e02 (uW (fi2 h0 h1) h2) λg e=>?_;intro p b;rcases mC b with rfl | b
 ·refine ⟨⟨?_,.inr ⟨f,s,S0 "<n f=",S0 " s=",S0 "",h0,fi2 h1 h2,fi2 h0 h1,h2,?_,rfl⟩⟩,?_⟩
  ·rw [bL,bL,bL,bL];obtain l:(S0 "<n f=\"").length=6:=rfl;obtain k:(S0 "\" s=\"").length=5:=rfl;obtain j:(S0 "\"").length=1:=rfl;delta dK;exact fa5 ((hN h0 (fi2 h1 h2)).2) ((hN (fi2 h0 h1) h2).2) (aj l) (aj k) (aj j)
  ·refine uV (c:=34) (λq d=>?_) ?_
   ·simp only [zF,gZ,or_false] at d;rcases d with rfl | rfl | rfl | rfl | rfl;·decide
    ·exact i
    ·decide
    ·exact g
    ·decide
   ·simp only [cj,bP,bq];rfl
  ·intro a;simp only [cj,iI] at a;rcases a with (((a | a) | a) | a) | a;·revert a;decide
   ·exact h a
   ·revert a;decide
   ·exact e a
   ·revert a;decide
 ·rw [mS b];exact rz (by decide) (by decide) (by decide)
theorem BQ:∀ (h:Nat) (t:du) (f s:Int),rV h t->NB h f s->∀ p∈BS h t f s,K0 p
 | 0,t,f,s,_,b=>DJ b.f0 b.fs b.s243
 | h+1,.node l,f,s,c,b=>by
  rw [BR];split;·exact DJ b.f0 b.fs b.s243
  ·intro p a;rcases mA a with a | a
   ·rcases mA a with a | a;·rw [mS a];exact rz (by decide) (by decide) (by decide)
    ·refine e12 (lu.mp a) λk d a=>?_;exact BQ h _ _ _ (c.kid k (mR d)) (b.kid c.1 (mR d)) p a
   ·rw [mS a];exact rz (by decide) (by decide) (by decide)
noncomputable def qS (t:du):List (aE × List (Int × Int)):=BS 4 t 0 1++[(S0 "",[])]
theorem EB {t:du} (d:rV 4 t):∃ e:List (aE × List (Int × Int)),fy (gU 4 t 0 1) (S0 ">")=e.map (·.1)/\(∀ p∈e,uD p.1 p.2)/\e.flatMap (·.2)=bK 4 t:=by
 revert t;intros t;intro d;obtain g:NB 4 0 1:=⟨by decide,by decide,by decide⟩;refine i13 (qS t) ?_ (λp b=>?_) ?_
 ·obtain c:∀ q∈(qS t).map (·.1),62∉ch q:=λq j=>by
   refine e12 (mM j) λp b i=>?_;obtain rfl:=i;rcases mA b with b | b;·exact (BQ 4 t 0 1 d g p b).2
   ·rw [mS b];decide
  obtain h:ch (gU 4 t 0 1)++[62]=((qS t).map (·.1)).flatMap λp=>ch p++[62]:=by
   delta qS;rw [GF,ej,cO];rfl
  cases f:(qS t).map (·.1) with
  | nil=>delta qS at f;simp at f
  | cons a r=>rw [f] at c h;exact uV c h
 ·rcases mA b with b | b;·exact (BQ 4 t 0 1 d g p b).1
  ·rw [mS b];exact (rz (by decide) (by decide) (by decide)).1
 ·delta qS;rw [cO,Aa 4 t 0 1 d];simp
noncomputable def pG (n:Int) (p:Int × Int):List (Int × Int × Int):=if (n - p.1).fmod p.2==0 then [(p.1,p.2,(n - p.1).fdiv p.2)] else []
noncomputable def Gh (x:Int × Int × Int):ag:=nr x.1 x.2.1 x.2.2
theorem L6 (n:Int) (p:Int × Int):vq n p=(pG n p).map Gh:=by
 delta vq pG;split <;>rfl
theorem vd:∀ (h:Nat) (t:du) (f s n:Int),fD h t f s n=(f+s*(fD h t 0 1 n).1,s*(fD h t 0 1 n).2.1,(fD h t 0 1 n).2.2)
 | 0,.node l,f,s,n=>by refine (?_:(f,s,n)=(f+s*0,s*1,n));rw [ur,Dl,iz]
 | h+1,.node l,f,s,n=>by
  rw [p6,p6];by_cases a:l.isEmpty=true;·rw [if_pos a,if_pos a,ur,Dl,iz]
  ·rw [if_neg a,if_neg a,vd h _ (f+s*n.fmod l.length),vd h _ (0+1*n.fmod l.length)];generalize fD h (l.getD (n.fmod l.length).toNat (.node [])) 0 1 (n.fdiv l.length)=x;refine Kn ?_ (Kn ?_ rfl);·rw [eM,iy,iy,md,jZ,si]
   ·refine (?_:s*l.length*x.2.1=s*(1*l.length*x.2.1));rw [iy,jZ]
theorem Hk {n k m f s:Int} (a:0<m) (o:0<=k) (h:k<m) (hs:0<s):pG n (k+m*f,m*s)=if k=n.fmod m then (pG (n.fdiv m) (f,s)).map λx=>(k+m*x.1,m*x.2.1,x.2.2) else []:=by
 revert n k m f s;intros n k m f s;intro a o h hs;obtain j:=f8 n m;obtain u:=cZ n a;obtain t:=ef n a;generalize n.fdiv m=q at*;generalize n.fmod m=r at*;delta pG;by_cases d:k=r
 ·subst d;rw [if_pos rfl];obtain e:n - (k+m*f)=m*(q - f):=by rw [<- j,FO];exact fC (fi0) (fi0)
  rw [e,Int.mul_fmod_mul_of_pos _ _ a,Int.mul_fdiv_mul_of_pos _ _ a];by_cases b:(q - f).fmod s=0;·rw [b];simp
  ·obtain this:=Int.mul_ne_zero (db (nq a)) b;rw [if_neg (by simpa using this),if_neg (by simpa using b)];rfl
 ·rw [if_neg d,if_neg];intro b;obtain g:=Int.dvd_trans (Il m s) (Int.dvd_of_fmod_eq_zero (by simpa using b));rw [(show n - (k+m*f)=m*(q - f)+(r - k) from by rw [<- j,FO];exact fC (fi0) (fi0))] at g;refine e11 ((Int.dvd_add_right (Il m _)).mp g) λc p=>?_;have:c=0:=by
   by_cases l:c<=-1
   ·have:=bH l (show 0<=m by exact fi1 a);lia
   ·by_cases i:1<=c
    ·have:=bH i (show 0<=m by exact fi1 a);lia
    ·exact fC (fi1 (jt.1 i)) (fi1 (jt.1 l))
  rw [this,ur] at p;lia
theorem EC {α:Type} {m:Nat} {r:Int} (h0:0<=r) (h1:r<m) (G:Nat->List α):((br m).flatMap λ(k:Nat)=>if (k:Int)=r then G k else [])=G r.toNat:=by
 refine e11 (dj h0) λj a=>?_;obtain rfl:=a;rw [bS];have:∀ m,((br m).flatMap λ(k:Nat)=>if (k:Int)=(j:Int) then G k else [])=if j<m then G j else []:=by
  intro m;induction m with
  | zero=>rfl
  | succ m b=>
   rw [mn,cO,b];rw [bP,lz,bp];by_cases e:m=j
   ·subst e;rw [if_neg (Bk _),if_pos rfl,if_pos (bU _)];rfl
   ·rw [if_neg (show ¬ ((m:Int)=(j:Int)) by exact ma rfl rfl e),bp];by_cases h:j<m;·rw [if_pos h,if_pos (Nat.lt_add_right 1 h)]
    ·rw [if_neg h,if_neg (by lia)]
 rw [this,if_pos (cY.mp h1)]
theorem DX (n:Int):[((0:Int),(1:Int))].flatMap (pG n)=[(0,1,n)]:=by simp [pG]
theorem pF {b:Nat} (hb:1<=b):∀ (h:Nat) (t:du) (n:Int),zw b h t->(bK h t).flatMap (pG n)=[fD h t 0 1 n]
 | 0,.node l,n,_=>DX n
 | h+1,.node l,n,j=>by
  rw [rL];by_cases c:l.isEmpty=true
  ·rw [if_pos c,p6,if_pos c];exact DX n
  ·rw [if_neg c];have d:(0:Int)<l.length:=by
    obtain this:0<l.length:=by cases l with
     | nil=>exact absurd rfl c
     | cons a r=>simp
    exact w7.mpr this
   obtain i:=cZ n d;obtain o:=ef n d;rw [sh];obtain e:((br l.length).flatMap λ(k:Nat)=>((bK h (l.getD k (.node []))).map λp=>((k:Int)+l.length*p.1,(l.length:Int)*p.2)).flatMap (pG n))=(br l.length).flatMap λ(k:Nat)=>if (k:Int)=n.fmod l.length then ((bK h (l.getD k (.node []))).flatMap (pG (n.fdiv l.length))).map (λx=>((k:Int)+l.length*x.1,(l.length:Int)*x.2.1,x.2.2)) else []:=by
    refine ew λk m=>?_;rw [ej];obtain this:=ew (l:=bK h (l.getD k (.node []))) (f:=λp=>pG n ((k:Int)+l.length*p.1,(l.length:Int)*p.2)) (g:=λp=>if (k:Int)=n.fmod l.length then (pG (n.fdiv l.length) p).map (λx=>((k:Int)+l.length*x.1,(l.length:Int)*x.2.1,x.2.2)) else []) λp q=>by
     obtain this:=(jR hb h _ (j.kid k (mR m))).2 p q;exact Hk d (bF k) (cY.mpr (mR m)) (fi2 this.1 this.2.1)
    rw [this];split;·rw [lw]
    ·simp
   rw [e,EC i o (G:=λk=>((bK h (l.getD k (.node []))).flatMap (pG (n.fdiv l.length))).map λx=>((k:Int)+l.length*x.1,(l.length:Int)*x.2.1,x.2.2)),pF hb h _ _ (j.kid _ ((Dj i).mpr o))];rw [show fD (h+1) (.node l) 0 1 n=fD h (l.getD (n.fmod l.length).toNat (.node [])) (0+1*n.fmod l.length) (1*l.length) (n.fdiv l.length) from by rw [p6,if_neg c],vd h _ (0+1*n.fmod l.length)];simp only [bV,Bv,eM,iy,dE i]
structure vF (L:Int) (p:Int × Int):Prop where
 f0:0<=p.1
 fs:p.1<p.2
 sL:p.2<=L
 s81:p.2<=81
 l1:L<=162
theorem vF.cnt {L:Int} {p:Int × Int} (o:vF L p):cntF L p<=1000/\(∀ i:Nat,i<cntF L p->p.1+(i:Int)*p.2<L)/\L<=p.1+(cntF L p:Int)*p.2:=by
 obtain ⟨e,k,v,u,t⟩:=o;obtain ⟨f,s⟩:=p;dsimp only at*;obtain g:=fh e k;obtain a:=f8 (L - f - 1) s;obtain b:=cZ (L - f - 1) g;obtain c:=ef (L - f - 1) g;delta cntF;generalize (L - f - 1).fdiv s=q at*;generalize (L - f - 1).fmod s=r at*;have d:0<=q:=by
  by_cases h:q<=-1
  ·have:=bH h (show 0<=s by exact fi2 e k);lia
  ·exact fi1 (jt.1 h)
 obtain l:q<=L:=by
  have:=cK (show 1<=s by exact Int.le_of_sub_one_lt g) d;rw [iy] at this;exact fi4 e b (jE a) this
 obtain m:=dE (Int.le_add_one d);refine i03 (by lia) (λi n=>?_) ?_
 ·obtain j:(i:Int)<=q:=by lia
  obtain this:=cK j (show 0<=s by exact fi2 e k);lia
 ·rw [m,Nz,iy];lia
theorem EW {α:Type} [BEq α] [LawfulBEq α] (g:Nat->α) (a:∀ i j,g i=g j->i=j) {n i:Nat} (hi:i<n):((br n).map g).idxOf (g i)=i:=by
 obtain this:=O0 (cT.mpr (uP.imp λh e=>h (a _ _ e))) i (by simpa using hi);simpa using this
theorem Ai {L n:Int} {p:Int × Int} (o:vF L p) (h0:0<=n) (h1:n<L):mH L n p=vq n p:=by
 obtain A:=o.cnt;obtain ⟨u,t,z,y,x⟩:=o;obtain ⟨f,s⟩:=p;dsimp only at*;have d:=fh u t;obtain c:∀ i j:Nat,f+(i:Int)*s=f+(j:Int)*s->i=j:=λi j e=>by
  obtain this:=zt (show s≠0 by exact db (nq d)) (r7 e);exact Bm.mp this
 delta mH vq ft mF;by_cases a:(n - f).fmod s=0
 ·obtain e:=f8 (n - f) s;replace e:=a▸e;generalize hq:(n - f).fdiv s=q at*;have g:0<=q:=by
   by_cases h:q<=-1
   ·have:=bH h (show 0<=s by exact fi1 d);lia
   ·exact fi1 (jt.1 h)
  refine e11 (dj g) λi r=>?_;obtain rfl:=r;obtain k:n=f+(i:Int)*s:=by lia
  obtain l:i<cntF L (f,s):=by
   by_cases h:i<cntF L (f,s);·exact h
   ·have v:((cntF L (f,s):Nat):Int)<=i:=dM.2 (fa1 (ba h));obtain this:=cK v (show 0<=s by exact fi1 d);lia
  obtain b:((br (cntF L (f,s))).map λ(i:Nat)=>f+(i:Int)*s).contains n=true:=by
   rw [qJ,decide_eq_true_eq];exact J9 (i12 i (KJ l) k.symm)
  rw [if_pos b,a,if_pos (by rfl),k,EW (λ(i:Nat)=>f+(i:Int)*s) c l]
 ·rewrite [if_neg (λb=>?_),if_neg (by simpa using a)];try (with_reducible rfl)
  rw [qJ,decide_eq_true_eq] at b;refine e12 (mM b) λi w m=>?_;obtain rfl:=m;apply a;rw [show f+(i:Int)*s - f=(i:Int)*s by exact Dk.mpr rfl,Int.mul_fmod_left]
theorem Gw {L n:Int} {p:Int × Int} (o:vF L p) (h:n∈ft L p):0<=n/\n<L:=by
 obtain e:=o.cnt;obtain ⟨a,c,j,g,f⟩:=o;refine e12 (mM h) λi d b=>?_;obtain rfl:=b;obtain this:=e.2.1 i (mR d);exact ⟨by exact nK a (nI (bF i) (show 0<=p.2 by exact fi2 a c)),by lia⟩
theorem sN {n:Int}:∀ {l:List Int},l.Nodup->n∈l->l.count n=1
 | a::l,h,b=>by
  refine e02 (nC h) λd c=>?_;rw [List.count_cons];by_cases e:a=n
  ·subst e;rw [lX d];simp
  ·rw [sN c ((mC b).resolve_left λh=>e h.symm),if_neg (by simpa using e)]
theorem zU {L n:Int} {p:Int × Int} (o:vF L p):(ft L p).count n=(mH L n p).length:=by
 obtain b:(ft L p).Nodup:=by
  refine cT.mpr (uP.imp λh e=>h ?_);exact Bm.mp (zt (by have:=o.f0;have:=o.fs;lia) (r7 e))
 delta mH;by_cases a:n∈ft L p;·rw [sN b a,if_pos (by simpa using a)];rfl
 ·rw [lX a,if_neg (by simpa using a)];rfl
theorem EH {L:Int} {C:List (Int × Int)} (k:0<=L) (o:∀ p∈C,vF L p) (one:∀ n,0<=n->n<L->(C.flatMap (vq n)).length=1):((br L.toNat).map λ(i:Nat)=>(i:Int)).Perm (C.flatMap (ft L)):=by
 rw [List.perm_iff_count];intro n;have a:(C.flatMap (ft L)).count n=(C.flatMap (mH L n)).length:=by
  clear one;induction C with
  | nil=>rfl
  | cons p C f=>rw [bP,bP,List.count_append,aB,f λq g=>o q (.tail _ g),zU (o p (.head _))]
 rw [a];by_cases h:0<=n/\n<L
 ·obtain e:=ew λp b=>Ai (o p b) h.1 h.2;rw [e,one n h.1 h.2,sN (cT.mpr (uP.imp λh e=>h (Bm.mp e)))];exact J9 (i12 n.toNat (KJ (by lia)) (dE h.1))
 ·have e:C.flatMap (mH L n)=[]:=by
   rw [List.flatMap_eq_nil_iff];intro p b;delta mH;rw [if_neg λc=>h (Gw (o p b) (by simpa using c))]
  rw [e,lX];·rfl
  ·intro c;refine e12 (mM c) λi j d=>?_;obtain rfl:=d;exact h ⟨by exact bF i,by exact Mz.mp (mR j)⟩
mutual
noncomputable def wg:du->Nat
 | .node []=>1
 | .node (a::l)=>wg a+wu l
noncomputable def wu:List du->Nat
 | []=>0
 | a::l=>wg a+wu l
end
mutual
noncomputable def splitP:du->Nat->Nat->du
 | .node [],_,m=>.node (bC m (.node []))
 | .node (a::l),k,m=>if k<wg a then .node (splitP a k m::l) else .node (a::sw l (k - wg a) m)
noncomputable def sw:List du->Nat->Nat->List du
 | [],_,_=>[]
 | a::l,k,m=>if k<wg a then splitP a k m::l else a::sw l (k - wg a) m
end
mutual
noncomputable def IK:du->du->Bool
 | .node a,.node b=>IL a b
noncomputable def IL:List du->List du->Bool
 | [],[]=>true
 | a::l,b::r=>IK a b && IL l r
 | _,_=>false
end
noncomputable def EE (b:Nat):Nat->du->Bool
 | 0,.node l=>l.isEmpty
 | h+1,.node l=>decide (l.length<=b) && l.all (EE b h)
noncomputable def I0 (t:du):List du:=(br (wg t)).flatMap λk=>[splitP t k 2,splitP t k 3]
noncomputable def DH:Nat->List du
 | 0=>[.node []]
 | n+1=>(DH n).flatMap I0
noncomputable def KV (t:du):Bool:=EE 3 4 t && decide ((bK 4 t).length<=9) && (bK 4 t).all (λp=>decide (2<=p.2)) && match rB 6 (bK 4 t) with
 | none=>false
 | some t'=>(!gG 4 t || IK t' t) && ((EE 9 3 t' && (bK 3 t').isPerm (bK 4 t)) || (EE 5 4 t' && (bK 4 t').isPerm (bK 4 t)))
theorem Ja:(DH 4).all KV=true:=by decide+kernel
mutual
noncomputable def gT:du->List aE
 | .node []=>[S0 ""]
 | .node (a::l)=>(gT a).map (sg 48++·)++j7 1 l
noncomputable def j7:Nat->List du->List aE
 | _,[]=>[]
 | i,a::l=>(gT a).map (sg (48+i)++·)++j7 (i+1) l
end
theorem pZ (a:du) (l:List du):gT (.node (a::l))=(gT a).map (sg 48++·)++j7 1 l:=rfl
theorem mD (i:Nat) (a:du) (l:List du):j7 i (a::l)=(gT a).map (sg (48+i)++·)++j7 (i+1) l:=rfl
theorem LP (a:du) (l:List du):wg (.node (a::l))=wg a+wu l:=rfl
theorem Kx (a:du) (l:List du):wu (a::l)=wg a+wu l:=rfl
theorem Gn (a:du) (l:List du) (k m:Nat):splitP (.node (a::l)) k m=if k<wg a then .node (splitP a k m::l) else .node (a::sw l (k - wg a) m):=rfl
theorem Gm (k m:Nat):splitP (.node []) k m=.node (bC m (.node [])):=rfl
theorem Gp (a:du) (l:List du) (k m:Nat):sw (a::l) k m=if k<wg a then splitP a k m::l else a::sw l (k - wg a) m:=rfl
theorem pV (a b c:aE):a++b++c=a++(b++c):=qW (by rw [cj,cj,cj,cj,bq])
theorem IG (a:aE):a++S0 ""=a:=qW (by rw [cj];exact bp _)
theorem yK (a:aE):S0 ""++a=a:=qW (by rw [cj];rfl)
mutual
theorem fX:∀ t:du,(gT t).length=wg t
 | .node []=>by rfl
 | .node (a::l)=>by rw [pZ,LP,aB,ak,fX a,u6 1 l]
theorem u6:∀ (i:Nat) (l:List du),(j7 i l).length=wu l
 | _,[]=>by rfl
 | i,a::l=>by rw [mD,Kx,aB,ak,fX a,u6 (i+1) l]
end
noncomputable def ud (ws:List aE) (k:Nat) (figs:List aE):List aE:=ws.take k++figs.map (λf=>ws.getD k (S0 "")++f)++ws.drop (k+1)
theorem xG {ws vs:List aE} {k:Nat} {figs:List aE} (h:k<ws.length):ud (ws++vs) k figs=ud ws k figs++vs:=by
 delta ud;rw [List.take_append_of_le_length (aF h),List.drop_append_of_le_length (Ig h),aJ,dN h,<- aJ,bq (ws.take k++_)]
theorem vm {ws vs:List aE} {k:Nat} {figs:List aE} (h:¬ k<ws.length):ud (ws++vs) k figs=ws++ud vs (k - ws.length) figs:=by
 delta ud;refine e11 (Bu (ba h)) λj a=>?_;obtain rfl:=a;rw [List.take_length_add_append,show ws.length+j+1=ws.length+(j+1) by exact dX ws.length j 1,w6,aJ,eI (aI ws.length j),dI,<- aJ,bq,bq,bq]
theorem Ax {ws:List aE} {p:aE} {k:Nat} {figs:List aE} (h:k<ws.length):ud (ws.map (p++·)) k figs=(ud ws k figs).map (p++·):=by
 delta ud;rw [bM,bM,Lk,Ll,cz];congr 2;refine dS λf _=>?_;rw [aJ,av,aJ,an h];exact pV _ _ _
noncomputable def tE (m:Nat):List aE:=(br m).map λi=>sg (48+i)
theorem qB:∀ (m i:Nat),j7 i (bC m (.node []))=(En i m).map λj=>sg (48+j)
 | 0,_=>by rfl
 | m+1,i=>by
  rw [jH,mD,qB m (i+1)];rfl
theorem yI (m:Nat) (h:0<m):gT (.node (bC m (.node [])))=tE m:=by
 refine e11 (Nat.exists_eq_succ_of_ne_zero (ed h)) λn a=>?_;obtain rfl:=a;rw [jH,pZ,show gT (.node [])=[S0 ""] from rfl,qB];delta tE;rw [List.range_eq_range',bV];rfl
mutual
theorem nu:∀ (t:du) (k m:Nat),0<m->k<wg t->gT (splitP t k m)=ud (gT t) k (tE m)
 | .node [],k,m,b,c=>by
  rw [wg] at c;obtain rfl:=zr.mp c;rw [Gm,yI m b];refine (?_:tE m=[]++(tE m).map (λf=>S0 ""++f)++[]);rw [bp];exact ((dS λf _=>yK f).trans (m9 _)).symm
 | .node (a::l),k,m,b,c=>by
  rw [wg] at c;rw [Gn];split
  ·rename_i h;rw [pZ,nu a k m b h,pZ,xG (by rw [ak,fX];exact h),Ax (by rw [fX];exact h)]
  ·rename_i h;rw [pZ,ry 1 l (k - wg a) m b (by lia),pZ,vm (by rw [ak,fX];exact h),ak,fX]
theorem ry:∀ (i:Nat) (l:List du) (k m:Nat),0<m->k<wu l->j7 i (sw l k m)=ud (j7 i l) k (tE m)
 | _,[],k,m,_,b=>by rw [wu] at b;lia
 | i,a::l,k,m,c,b=>by
  rw [wu] at b;rw [Gp];split
  ·rename_i h;rw [mD,nu a k m c h,mD,xG (by rw [ak,fX];exact h),Ax (by rw [fX];exact h)]
  ·rename_i h;rw [mD,ry (i+1) l (k - wg a) m c (by lia),mD,vm (by rw [ak,fX];exact h),ak,fX]
end
theorem KR (c:Int):iA c=tE 2\/iA c=tE 3:=by
 delta iA;split;·exact .inr rfl
 ·exact .inl rfl
theorem Do:∀ t:du,0<wg t
 | .node []=>by decide
 | .node (a::l)=>Nat.add_pos_left (Do a) (wu l)
theorem uS (b:List Int):∀ k,∃ t∈DH k,lC b k=gT t
 | 0=>(i12 _ (.head _) rfl)
 | k+1=>by
  refine e12 (uS b k) λt g e=>?_;obtain d:wayK (gT t) (b.getD k 0)<wg t:=by rw [<- fX];exact yr (by rw [fX];exact Do t)
  obtain f:lC b (k+1)=ud (gT t) (wayK (gT t) (b.getD k 0)) (iA (b.getD k 0)):=by rw [show lC b (k+1)=mv (lC b k) (b.getD k 0) from rfl,e];rfl
  have c:∀ m,(m=2\/m=3)->splitP t (wayK (gT t) (b.getD k 0)) m∈DH (k+1):=λm i=>by
   refine lu.mpr (i12 t g (lu.mpr (i12 _ (KJ d) ?_)));rcases i with rfl | rfl;·exact .head _
   ·exact .tail _ (.head _)
  rcases KR (b.getD k 0) with h | h;·exact i12 _ (c 2 (.inl rfl)) (by rw [f,h,nu t _ 2 (by decide) d])
  ·exact i12 _ (c 3 (.inr rfl)) (by rw [f,h,nu t _ 3 (by decide) d])
theorem qO {o x:aE}:fw o x=true↔∃ y,o=x++y:=by
 delta fw;rw [bN,decide_eq_true_eq,StrLaws.subAt_eq,beq_iff_eq];constructor
 ·intro b;refine e02 b λe d=>?_;clear b;refine ⟨⟨((ch o).drop x.length).toArray⟩,qW ?_⟩;rw [cj];rw [<- show (ch o).take x.length=ch x from d];exact (fV ..).symm
 ·intro a;refine e11 a λy c=>?_;clear a;obtain rfl:=c;refine ⟨by rw [bL];exact fa0,?_⟩;refine (?_:(ch (x++y)).take x.length=ch x);rw [cj];obtain this:x.length=(ch x).length:=by refine (?_:x.cps.size=x.cps.toList.length);rfl
  rw [this,List.take_left]
noncomputable def AS (ws:List aE) (way:aE) (t:du):Prop:=∀ y:aE,way++y∈ws↔y∈gT t
theorem KD {i j:Nat} {x y:aE} (h:sg i++x=sg j++y):i=j/\x=y:=by
 have:=congrArg ch h;rw [cj,cj] at this;injection this with h3 h4;exact ⟨h3,qW h4⟩
theorem LR (i:Nat) (x:aE):sg i++x≠S0 "":=λh=>by
 have:=congrArg ch h;rw [cj] at this;cases this
mutual
theorem u5:∀ t:du,∃ y,y∈gT t
 | .node []=>⟨S0 "",by exact .head _⟩
 | .node (a::l)=>by refine e11 (u5 a) λy b=>?_;exact ⟨sg 48++y,by exact bG _ (aX b)⟩
end
theorem mE:∀ {l:List du} {i j:Nat} {y:aE},sg (48+j)++y∈j7 i l↔i<=j/\∃ a,l[j - i]?=some a/\y∈gT a
 | [],i,j,y=>by rw [show j7 i []=[] from rfl];simp
 | a::l,i,j,y=>by
  rw [mD,iI,mE (l:=l)];constructor
  ·rintro (h | ⟨f,b,c,d⟩)
   ·refine e12 (mM h) λz m e=>?_;refine e02 (KD e) λn g=>?_;obtain rfl:=g;obtain rfl:=Nat.add_left_cancel n;exact ⟨aq _,a,by simp,m⟩
   ·refine ⟨by exact fz f,b,?_,d⟩;rw [Dx (kS f)];exact c
  ·intro k;obtain ⟨f,b,c,d⟩:=k;by_cases e:j=i
   ·subst e;obtain rfl:a=b:=by simpa using c
    exact .inl (aX d)
   ·refine .inr ⟨by lia,b,?_,d⟩;replace c:=(Dx (cG f λa=>e (id (jl a))))▸c;exact c
theorem mB (a:du) (l:List du):gT (.node (a::l))=j7 0 (a::l):=rfl
theorem jQ:∀ {l:List du} {i:Nat} {x:aE},x∈j7 i l->∃ j y,i<=j/\x=sg (48+j)++y/\∃ a∈l,y∈gT a
 | [],i,x,h=>by cases h
 | a::l,i,x,h=>by
  rcases mA h with h | h
  ·refine e12 (mM h) λy d c=>?_;obtain rfl:=c;exact ⟨i,y,aq _,rfl,a,.head _,d⟩
  ·obtain ⟨j,y,k,g,b,f,e⟩:=jQ h;exact ⟨j,y,by exact fz k,g,b,.tail _ f,e⟩
theorem BG {ws:List aE} {c:aE} {a:du} {l:List du} (g:AS ws c (.node (a::l))) (j:Nat):cx ws (c++sg (48+j))=decide (j<(a::l).length):=by
 delta cx;rw [J0,hH,decide_eq_true_eq];constructor
 ·intro d;refine e12 d λo e k=>?_;clear d;refine e11 (qO.mp k) λy f=>?_;obtain rfl:=f;rw [pV] at e;obtain this:=(g _).mp e;rw [mB] at this;obtain ⟨_,b,m,_⟩:=mE.mp this;exact (gE m).1
 ·intro h;refine e11 (u5 (a::l)[j]) λy i=>?_;refine i12 (c++sg (48+j)++y) ?_ (qO.mpr ⟨y,rfl⟩);rw [pV];refine (g _).mpr ?_;exact mE.mpr ⟨aM _,_,an h,i⟩
theorem AS.kid {ws:List aE} {d:aE} {l:List du} {b:du} {j:Nat} (g:AS ws d (.node l)) (h:l[j]?=some b):AS ws (d++sg (48+j)) b:=by
 intro y;obtain ⟨a,r,rfl⟩:∃ a r,l=a::r:=by cases l with
  | nil=>trivial
  | cons a r=>exact i21 a r rfl
 rw [pV,g,mB,mE];constructor
 ·intro k;obtain ⟨_,c,e,f⟩:=k;replace e:=h▸e;refine iM e λi=>?_;clear e;subst i;exact f
 ·exact λf=>⟨aM _,b,h,f⟩
theorem Ez {ws:List aE}:∀ (h:Nat) (t:du) (way:aE),zw 3 h t->AS ws way t->hQ (h+1) ws way=t:=by
 have m:∀ (h:Nat) (way:aE),AS ws way (.node [])->hQ (h+1) ws way=.node []:=λh way g=>by
  obtain this:way∈ws:=by
   obtain this:=(g (S0 "")).mpr (by exact .head _);rwa [IG] at this
  rw [uX,if_pos (hH.mpr ⟨way,this,by simp⟩)]
 intro h;induction h with
 | zero=>intro x;obtain ⟨l⟩:=x;intro way;intro n;intro g;obtain rfl:=n;exact m 0 way g
 | succ h A=>
  intro w;obtain ⟨l⟩:=w;intro way;intro n;intro g;cases l with
  | nil=>exact m (h+1) way g
  | cons a r=>
   have o:(ws.any λy=>y==way)=false:=by
    rw [H7];intro y B e;obtain rfl:y=way:=by simpa using e
    obtain this:=(g (S0 "")).mp B;rw [mB] at this;refine e23 (jQ this) λj z E e D=>?_;exact LR _ _ e.symm
   rw [uX,if_neg (by rw [o];decide)];have q:=BG g;obtain k:=λj b (hj:(a::r)[j]?=some b)=>A b (way++sg (48+j)) (n.2 b (aQ hj)) (g.kid hj);have v:=q 0;have u:=q 1;have s:=q 2;have C:=n.1;delta ny;clear q o g n;cases r with
   | nil=>rw [em (p:=λf=>cx ws (way++f)) (a:=sg 48) v,km (p:=λf=>cx ws (way++f)) (a:=sg 49) (by rw [show cx ws (way++sg 49)=_ from u];simp),km (p:=λf=>cx ws (way++f)) (a:=sg 50) (by rw [show cx ws (way++sg 50)=_ from s];simp)];refine (?_:du.node [hQ (h+1) ws (way++sg 48)]=_);rw [k 0 a rfl]
   | cons b r=>
   cases r with
   | nil=>rw [em (p:=λf=>cx ws (way++f)) (a:=sg 48) v,em (p:=λf=>cx ws (way++f)) (a:=sg 49) u,km (p:=λf=>cx ws (way++f)) (a:=sg 50) (by rw [show cx ws (way++sg 50)=_ from s];simp)];refine (?_:du.node [hQ (h+1) ws (way++sg 48),hQ (h+1) ws (way++sg 49)]=_);rw [k 0 a rfl,k 1 b rfl]
   | cons c r=>
   cases r with
   | nil=>rw [em (p:=λf=>cx ws (way++f)) (a:=sg 48) v,em (p:=λf=>cx ws (way++f)) (a:=sg 49) u,em (p:=λf=>cx ws (way++f)) (a:=sg 50) s];refine (?_:du.node [hQ (h+1) ws (way++sg 48),hQ (h+1) ws (way++sg 49),hQ (h+1) ws (way++sg 50)]=_);rw [k 0 a rfl,k 1 b rfl,k 2 c rfl]
   | cons d r=>exact absurd C (Nat.not_le_of_lt (dC 4 r.length))
mutual
theorem oj:∀ t:du,(gT t).Pairwise λx y=>ch x<ch y
 | .node []=>by exact oY _ _
 | .node (a::l)=>by
  refine qI.mpr ⟨cT.mpr ((oj a).imp λh=>?_),qA 1 l,λx e y d=>?_⟩;·rw [cj,cj];exact dW.mpr (.inr ⟨rfl,h⟩)
  ·refine e12 (mM e) λu i c=>?_;obtain rfl:=c;refine e23 (jQ d) λj v f b g=>?_;obtain rfl:=b;rw [cj,cj];exact dW.mpr (.inl (ik f))
theorem qA:∀ (i:Nat) (l:List du),(j7 i l).Pairwise λx y=>ch x<ch y
 | _,[]=>by exact .nil
 | i,a::l=>by
  refine qI.mpr ⟨cT.mpr ((oj a).imp λh=>?_),qA (i+1) l,λx e y d=>?_⟩;·rw [cj,cj];exact dW.mpr (.inr ⟨rfl,h⟩)
  ·refine e12 (mM e) λu k c=>?_;obtain rfl:=c;refine e23 (jQ d) λj v f b g=>?_;obtain rfl:=b;rw [cj,cj];exact dW.mpr (.inl (cy f 48))
end
theorem Ab:∀ (h:Nat) (t:du),zw 3 h t->∀ x∈gT t,eE x=true:=by
 obtain c:∀ x∈gT (.node []),eE x=true:=λx d=>by
  rw [mS (d:x∈[S0 ""])];decide+kernel
 intro h;induction h with
 | zero=>intro k;obtain ⟨l⟩:=k;intro e;obtain rfl:=e;exact c
 | succ h m=>
  intro i;obtain ⟨l⟩:=i;intro e;intro x;intro d;cases l with
  | nil=>exact c x d
  | cons a r=>rw [mB] at d;refine e23 (jQ d) λj y p g o=>?_;obtain rfl:=g;obtain ⟨_,b,f,n⟩:=mE.mp d;obtain s:=(gE f).1;obtain q:=e.1;exact xA (Dy _ (by lia)) (m b (e.2 b (aQ f)) y n)
theorem uz {b:Nat}:∀ (h:Nat) (t:du),EE b h t=true->zw b h t
 | 0,.node l,e=>Ik.mp e
 | h+1,.node l,e=>by
  refine e02 (qK.1 (show (decide (l.length<=b) && l.all (EE b h))=true from e)) λd c=>?_;exact ⟨of_decide_eq_true d,λt a=>uz h t (o7.1 c t a)⟩
mutual
theorem DC:∀ a b:du,IK a b=true->a=b
 | .node l,.node r,e=>by rw [DD l r e]
theorem DD:∀ a b:List du,IL a b=true->a=b
 | [],[],_=>rfl
 | [],_::_,e=>(bb e).elim
 | _::_,[],e=>(bb e).elim
 | a::l,b::r,e=>by
  refine e02 (qK.1 (show (IK a b && IL l r)=true from e)) λd c=>?_;rw [DC a b d,DD l r c]
end
theorem DT:∀ l:List Int,l≠[]->∃ M∈l,∀ a∈l,a<=M
 | [a],_=>(i12 a (.head _) (λb g=>by rw [mS g];exact eR _))
 | a::b::l,_=>by
  refine e12 (DT (b::l) (by simp)) λM i f=>?_;by_cases h:a<=M;·exact i12 M (.tail _ i) (λc d=>(mC d).elim (λe=>e▸h) (f c))
  ·exact i12 a (.head _) (λc d=>(mC d).elim (λe=>e▸eR _) λd=>by have:=f c d;exact fi2 (jt.1 h) this)
theorem Kd {b:Nat} (hb:1<=b) {h:Nat} {t:du} (a:zw b h t) (n:Int):(bK h t).flatMap (vq n)=[Gh (fD h t 0 1 n)]:=by
 have e:(bK h t).flatMap (vq n)=((bK h t).flatMap (pG n)).map Gh:=by
  rw [lw];exact ew λp _=>L6 n p
 rw [e,pF hb h t n a];rfl
structure Mk (t t':du) (b h:Nat):Prop where
 b1:1<=b
 b2:b<=1000
 hh:h<=5
 bh:b ^ h<=1000
 ok:zw b h t'
 perm:(bK h t').Perm (bK 4 t)
theorem KH (w:ar) {t t':du} {b h:Nat} {L n:Int} (g:rV 4 t) (B:Mk t t' b h) (d:∀ p∈bK 4 t,vF L p) (c:∀ p∈bK 4 t,2<=p.2) (v:n.natAbs<=1000):∃ f s q,D8 w t t' L n f s q:=by
 revert w t t' b h L n;intros w t t' b h L n;intro g B d c v;have m:=pF (by decide) 4 t n g;obtain o:=Kd (by decide) g n;obtain l:fD h t' 0 1 n=fD 4 t 0 1 n:=by
  obtain k:=(B.perm.flatMap_right (pG n));rw [m,pF B.b1 h t' n B.ok] at k;have:=List.perm_singleton.mp k;injection this
 obtain j:=xE w 13 (DY w 10 (oo w)) B.b1 B.b2 h t' n B.ok B.hh B.bh (by exact ab (by assumption) (by decide));replace j:=l▸j;obtain ⟨p,i,a⟩:=lu.mp (show fD 4 t 0 1 n∈(bK 4 t).flatMap (pG n) from by rw [m];exact .head _);obtain ⟨⟨f,s,q⟩,u⟩:∃ x,fD 4 t 0 1 n=x:=⟨_,rfl⟩;rw [u] at m o j a;obtain A:=(kK 4 t g).2 p i;obtain r:=c p i;unfold pG at a;split at a
 ·rename_i y;obtain e:=mS a;cases e;obtain z:=f8 (n - p.1) p.2;rw [(show (n - p.1).fmod p.2=0 from by simpa using y)] at z;refine i31 _ _ _ ⟨o,u,j.le (by decide),λC k=>?_,?_,v,⟨A.1,by dsimp only;lia⟩,⟨by dsimp only;exact fi1 r,by dsimp only;lia⟩⟩;·exact (ew λp i=>Ai (d p i) C k).trans o
  ·dsimp only;generalize (n - p.1).fdiv p.2=q at*;refine (Int.fdiv_fmod_unique' (show -p.2<0 by exact fi1 r)).mpr ⟨?_,fi1 r,by exact Int.neg_ofNat_le_ofNat 1 0⟩;lia
 ·cases a
theorem Jb {t:du} (h:KV t=true):rV 4 t/\(bK 4 t).length<=9/\(∀ p∈bK 4 t,2<=p.2)/\∃ a b g,rB 6 (bK 4 t)=some a/\(gG 4 t=true->a=t)/\Mk t a b g:=by
 revert t;intros t;intro h;delta KV at h;rw [bN,bN,bN,decide_eq_true_eq,o7] at h;refine e02 h λk c=>?_;clear h;refine e02 k λj m=>?_;clear k;refine e02 j λo n=>?_;clear j;refine i04 (uz 4 t o) n (λp e=>by simpa using m p e) ?_;cases l:rB 6 (bK 4 t) with
 | none=>replace c:=l▸c;exact AH c
 | some a=>
  replace c:=l▸c;simp only [bN,iK,tW] at c;refine e02 c λd f=>?_;clear c;obtain e:gG 4 t=true->a=t:=λe=>by
   rcases d with d | d;·replace d:=e▸d;exact L7 d
   ·exact DC _ _ d
  rcases f with ⟨f,i⟩ | ⟨f,i⟩;·exact ⟨a,9,3,rfl,e,by decide,by decide,by decide,by decide,uz 3 a f,JV.mp i⟩
  ·exact ⟨a,5,4,rfl,e,by decide,by decide,by decide,by decide,uz 4 a f,JV.mp i⟩
theorem NL {l:List Int} (h:l.length=6):∃ t s q p o n,l=[t,s,q,p,o,n]:=by
 refine e22 (B4 h) λa r j k=>?_;obtain rfl:=j;refine e22 (B4 k) λb r i m=>?_;obtain rfl:=i;refine e41 (KL m) λc d e f g=>?_;obtain rfl:=g;exact i61 a b c d e f rfl
theorem xB (a:Int):(EF a).natAbs<=1000:=by
 delta EF;lia
theorem Ao (w:ar) (script:List Int) (hz:script.length<=63) (oc:ae) (od:Option ay) (osl:Array (Option ae)) (fd:fR) (body:List cD) (ho:(kF.heap_1 w.params).lookup 330=some ⟨oc,od,.func fd,osl⟩) (d:fd.body=.stmts body):xX w fd.scope 30 [(S0 "script",.d (.list (script.map .int)))] body:=by
 refine bc λO=>?_;refine e61 (NL (ka (script:=script) (k:=script.length))) λa0 a1 Z Y a4 a5 Q=>?_;refine e12 (uS [a0,a1,Z,Y] 4) λt ht V=>?_;obtain ⟨h,R,z,S,b,g,hr,P,B⟩:=Jb (aT Ja t ht);refine O ?_;obtain v:=qM [a0,a1,Z,Y] 4;replace v:=V▸v;have H:(gT t).length<=9:=by have:=v.le;exact fa1 this
 have o:cx (gT t) (S0 "")=true:=by
  refine e11 (u5 t) λy hy=>?_;exact hH.mpr ⟨y,hy,qO.mpr ⟨y,(yK y).symm⟩⟩
 have i:=rE 4 t 0 1 h (⟨by decide,by decide,by decide⟩);have E:((rx 4 t 0 1).map (·.length)).sum=(gU 4 t 0 1).length:=by
  obtain e:∀ D:List aE,(D.map (·.length)).sum=(D.flatMap ch).length:=by
   intro D;induction D with
   | nil=>rfl
   | cons x D ih=>rw [bV,List.sum_cons,ih,bP,aB];rfl
  rw [e,sq 4 t 0 1 h];rfl
 have f:LF t (rx 4 t 0 1):=⟨h,Dt 4 t 0 1,(qW (by rw [pI,sq 4 t 0 1 h])),sJ (by
  rw [E,show (S0 "").length=0 from rfl];delta dK;exact fa1 (ab i (by decide:_<=3564)))⟩
 have G:bK 4 t≠[]:=λe=>by
  obtain this:=pF (by decide) 4 t 0 h;replace this:=e▸this;cases this
 obtain C:∀ x∈gT t,[]<ch x:=λx K=>by
  cases X:ch x with
  | cons c r=>exact List.nil_lt_cons _ _
  | nil=>
   obtain ⟨l⟩:=t;cases l with
   | nil=>have:=z (0,1) (by exact .head _);lia
   | cons a r=>rw [mB] at K;refine e23 (jQ K) λj y z0 z1 z2=>?_;obtain rfl:=z1;rw [cj] at X;cases X
 refine bc λO=>?_;refine e13 (EB h) λps p1 p2 p3=>?_;have L:=λp u=>(kK 4 t h).2 p u;refine e12 (DT ((bK 4 t).map (·.2)) (by simpa using G)) λM J I=>?_;refine e12 (mM J) λT F a6=>?_;refine O ?_;have m:2<=M/\M<=81:=by
  obtain this:=z T F;have:=L T F;lia
 have A:∀ p∈bK 4 t,vF (2*M) p:=λp u=>by
  have:=L p u;have:=I p.2 (aX u);exact ⟨by omega,by omega,fi2 m.1 this,fi2 m.2 this,fi2 m.2 m.2⟩
 obtain U:uF (2*M) (bK 4 t):=⟨R,λp u=>by
  obtain this:=L p u;obtain c:=(A p u).cnt;exact i07 (by exact fi1 this.1) (by lia) (by lia) (fi2 this.1 this.2.1) c.1 c.2.1 c.2.2,EH (fi2 m.1 m.1) A λn _ _=>by rw [Kd (by decide) h n];rfl,fi2 m.1 m.1,fi2 m.2 m.2⟩
 obtain N:∀ n∈[0,1,2,3,EF a4,EF a5],∃ f s q,D8 w t S (2*M) n f s q:=λn W=>KH w h B A z (by
  simp only [zF,gZ,or_false] at W;rcases W with rfl | rfl | rfl | rfl | rfl | rfl;·decide
  ·decide
  ·decide
  ·decide
  ·exact xB _
  ·exact xB _)
 exact EP w hz Q V (⟨H,λx K=>v.len x K,Ab 4 t h⟩) o (Ez 4 t (S0 "") h λy=>by rw [yK]) f ho d (EO w H (sd.mpr ⟨C,oj t⟩) (by delta dK;exact fa1 (ab i (by decide:_<=3564))) p1 p2 p3 ho d (EN w h (⟨⟨by exact fa1 R,λp u=>by have:=L p u;exact i04 (by exact fi1 this.1) (by (refine iR ?_ ?_ <;>lia)) (fi2 this.1 this.2.1) (by (refine iR ?_ ?_ <;>lia))⟩,hr,P,B.perm,(sF w B.b1 g S B.ok B.hh B.bh B.b2).le (by have:=B.hh;exact fa1 this)⟩) J I U ho d (EM w h U N ho d (EL w h R ((mu G).symm) ho d))))
theorem hd.tw10012880186880212623:True:=⟨⟩
theorem hd.tw10024716035694756283:True:=⟨⟩
theorem hd.tw10030107230732127627:True:=⟨⟩
theorem hd.tw10049082858989184355:True:=⟨⟩
theorem hd.tw1011335219593555734:True:=⟨⟩
theorem hd.tw1013155817946168525:True:=⟨⟩
theorem hd.tw10170382586518783626:True:=⟨⟩
theorem hd.tw10216474801634566288:True:=⟨⟩
theorem hd.tw10246146449241189800:True:=⟨⟩
theorem hd.tw10258225898301398825:True:=⟨⟩
theorem hd.tw10258999931320997221:True:=⟨⟩
theorem hd.tw10403243965636340961:True:=⟨⟩
theorem hd.tw10424393626065333798:True:=⟨⟩
theorem hd.tw10458740792067480800:True:=⟨⟩
theorem hd.tw10525666975642140466:True:=⟨⟩
theorem hd.tw10583446816852156582:True:=⟨⟩
theorem hd.tw10601615944963115059:True:=⟨⟩
theorem hd.tw10603584201595350602:True:=⟨⟩
theorem hd.tw10614716105012338702:True:=⟨⟩
theorem hd.tw10727248033764811480:True:=⟨⟩
theorem hd.tw10743916045514856203:True:=⟨⟩
theorem hd.tw10784824025267889561:True:=⟨⟩
theorem hd.tw10792051664901133789:True:=⟨⟩
theorem hd.tw10838410872621293473:True:=⟨⟩
theorem hd.tw10879034167726328663:True:=⟨⟩
theorem hd.tw10919297434634762262:True:=⟨⟩
theorem hd.tw1097998534492414930:True:=⟨⟩
theorem hd.tw11011131195910976488:True:=⟨⟩
theorem hd.tw11032806212648032379:True:=⟨⟩
theorem hd.tw11128854368766332075:True:=⟨⟩
theorem hd.tw11136197038861592535:True:=⟨⟩
theorem hd.tw11151547217846952531:True:=⟨⟩
theorem hd.tw11162318198679636149:True:=⟨⟩
theorem hd.tw11210553801493137410:True:=⟨⟩
theorem hd.tw11213053971927718326:True:=⟨⟩
theorem hd.tw11232374478483605306:True:=⟨⟩
theorem hd.tw1129884963351977449:True:=⟨⟩
theorem hd.tw11319097763535126812:True:=⟨⟩
theorem hd.tw11319892378374348655:True:=⟨⟩
theorem hd.tw11389486352061984695:True:=⟨⟩
theorem hd.tw11402939732021071671:True:=⟨⟩
theorem hd.tw11465210709893060100:True:=⟨⟩
theorem hd.tw11513968764499736323:True:=⟨⟩
theorem hd.tw11551083187376567056:True:=⟨⟩
theorem hd.tw11631869004601391166:True:=⟨⟩
theorem hd.tw11631947586910100387:True:=⟨⟩
theorem hd.tw11652457597714270106:True:=⟨⟩
theorem hd.tw11660266114150955751:True:=⟨⟩
theorem hd.tw11754176132448286083:True:=⟨⟩
theorem hd.tw11917015161858427179:True:=⟨⟩
theorem hd.tw11953376511379268794:True:=⟨⟩
theorem hd.tw12023040214023829324:True:=⟨⟩
theorem hd.tw12038256508788140161:True:=⟨⟩
theorem hd.tw12070051907170230399:True:=⟨⟩
theorem hd.tw12092154237167983948:True:=⟨⟩
theorem hd.tw12173100003817136821:True:=⟨⟩
theorem hd.tw1222794163293265305:True:=⟨⟩
theorem hd.tw12271959270614036898:True:=⟨⟩
theorem hd.tw12399718760709695909:True:=⟨⟩
theorem hd.tw1241404454085649124:True:=⟨⟩
theorem hd.tw12575139184659369484:True:=⟨⟩
theorem hd.tw12588582704262371052:True:=⟨⟩
theorem hd.tw12598724348716800887:True:=⟨⟩
theorem hd.tw12602439190401603521:True:=⟨⟩
theorem hd.tw12629568148972539762:True:=⟨⟩
theorem hd.tw12631932088317031055:True:=⟨⟩
theorem hd.tw12647368939536790636:True:=⟨⟩
theorem hd.tw12693339787485243540:True:=⟨⟩
theorem hd.tw12901994302517312135:True:=⟨⟩
theorem hd.tw12936449754285732098:True:=⟨⟩
theorem hd.tw12949589719889679912:True:=⟨⟩
theorem hd.tw13181700845877081190:True:=⟨⟩
theorem hd.tw13217225542625558698:True:=⟨⟩
theorem hd.tw13220430256171166289:True:=⟨⟩
theorem hd.tw13225837485096350037:True:=⟨⟩
theorem hd.tw13277076834127875243:True:=⟨⟩
theorem hd.tw13289513938125300765:True:=⟨⟩
theorem hd.tw13315533130655954831:True:=⟨⟩
theorem hd.tw13321331477185743149:True:=⟨⟩
theorem hd.tw13330244855972007585:True:=⟨⟩
theorem hd.tw13368278939475635651:True:=⟨⟩
theorem hd.tw13372043803930879067:True:=⟨⟩
theorem hd.tw13409441903868389331:True:=⟨⟩
theorem hd.tw13431754692932380062:True:=⟨⟩
theorem hd.tw13435371860627755909:True:=⟨⟩
theorem hd.tw13518370688599389936:True:=⟨⟩
theorem hd.tw1359830224848277088:True:=⟨⟩
theorem hd.tw13609717118414637909:True:=⟨⟩
theorem hd.tw13753220567063992666:True:=⟨⟩
theorem hd.tw13770079208771991547:True:=⟨⟩
theorem hd.tw13783031573616600631:True:=⟨⟩
theorem hd.tw13828106393651249627:True:=⟨⟩
theorem hd.tw1382963296337349011:True:=⟨⟩
theorem hd.tw13855946660403688772:True:=⟨⟩
theorem hd.tw13866372431405929976:True:=⟨⟩
theorem hd.tw13893168526513508166:True:=⟨⟩
theorem hd.tw13903934854276604550:True:=⟨⟩
theorem hd.tw13919464512627920130:True:=⟨⟩
theorem hd.tw14060154772996877548:True:=⟨⟩
theorem hd.tw1409312971732116557:True:=⟨⟩
theorem hd.tw1413172679324656950:True:=⟨⟩
theorem hd.tw14168552714766633299:True:=⟨⟩
theorem hd.tw14176624398918483544:True:=⟨⟩
theorem hd.tw14246236162039180721:True:=⟨⟩
theorem hd.tw14294001040229213422:True:=⟨⟩
theorem hd.tw14353793391729792155:True:=⟨⟩
theorem hd.tw1439246655266547700:True:=⟨⟩
theorem hd.tw14540287592573847960:True:=⟨⟩
theorem hd.tw14560493823538711346:True:=⟨⟩
theorem hd.tw14620637471214046174:True:=⟨⟩
theorem hd.tw14705683404202351889:True:=⟨⟩
theorem hd.tw14768889098011018680:True:=⟨⟩
theorem hd.tw14892549342360969540:True:=⟨⟩
theorem hd.tw14896477498954680388:True:=⟨⟩
theorem hd.tw14955159897011116063:True:=⟨⟩
theorem hd.tw15043168886218598503:True:=⟨⟩
theorem hd.tw15089522573102190283:True:=⟨⟩
theorem hd.tw15103106377680225435:True:=⟨⟩
theorem hd.tw15166520500009309586:True:=⟨⟩
theorem hd.tw15212703822869941128:True:=⟨⟩
theorem hd.tw15279998641719260112:True:=⟨⟩
theorem hd.tw15344866539931968096:True:=⟨⟩
theorem hd.tw15367242080415987702:True:=⟨⟩
theorem hd.tw15368132723985388332:True:=⟨⟩
theorem hd.tw15411387601460861337:True:=⟨⟩
theorem hd.tw15416985209724490359:True:=⟨⟩
theorem hd.tw15422856539912107476:True:=⟨⟩
theorem hd.tw15463257786427224491:True:=⟨⟩
theorem hd.tw15527848837575444561:True:=⟨⟩
theorem hd.tw15529170255622000948:True:=⟨⟩
theorem hd.tw15595854959937240912:True:=⟨⟩
theorem hd.tw15615420239508185596:True:=⟨⟩
theorem hd.tw15615537253650120727:True:=⟨⟩
theorem hd.tw15616948245753086127:True:=⟨⟩
theorem hd.tw15642763164714097627:True:=⟨⟩
theorem hd.tw15673258824015622330:True:=⟨⟩
theorem hd.tw15683763237869141255:True:=⟨⟩
theorem hd.tw15759970867653108152:True:=⟨⟩
theorem hd.tw15790720579355451973:True:=⟨⟩
theorem hd.tw15807599120199246990:True:=⟨⟩
theorem hd.tw15833661619300960221:True:=⟨⟩
theorem hd.tw15852365999677673905:True:=⟨⟩
theorem hd.tw1589133516308662214:True:=⟨⟩
theorem hd.tw15910714762333108613:True:=⟨⟩
theorem hd.tw15946388913382835224:True:=⟨⟩
theorem hd.tw15948780112781908787:True:=⟨⟩
theorem hd.tw15967140613478806237:True:=⟨⟩
theorem hd.tw1600037746751723098:True:=⟨⟩
theorem hd.tw16007149819294483003:True:=⟨⟩
theorem hd.tw16011055738799735888:True:=⟨⟩
theorem hd.tw16037735763661986305:True:=⟨⟩
theorem hd.tw16056359734778111409:True:=⟨⟩
theorem hd.tw16064382804478563927:True:=⟨⟩
theorem hd.tw16091413853298234908:True:=⟨⟩
theorem hd.tw16114801073306886617:True:=⟨⟩
theorem hd.tw16155205043701107222:True:=⟨⟩
theorem hd.tw16171809288044610508:True:=⟨⟩
theorem hd.tw16194383521188589630:True:=⟨⟩
theorem hd.tw16211521421427940678:True:=⟨⟩
theorem hd.tw162610821266807592:True:=⟨⟩
theorem hd.tw16299908979028503884:True:=⟨⟩
theorem hd.tw16345102440705955213:True:=⟨⟩
theorem hd.tw16412773359747925120:True:=⟨⟩
theorem hd.tw16432713993328977331:True:=⟨⟩
theorem hd.tw16473244170626142550:True:=⟨⟩
theorem hd.tw16477043939570097188:True:=⟨⟩
theorem hd.tw16634568088961857937:True:=⟨⟩
theorem hd.tw16640546478005224243:True:=⟨⟩
theorem hd.tw16649331688326792143:True:=⟨⟩
theorem hd.tw16722109127936396110:True:=⟨⟩
theorem hd.tw16772102934027710169:True:=⟨⟩
theorem hd.tw16794629799341752650:True:=⟨⟩
theorem hd.tw16828841361933241965:True:=⟨⟩
theorem hd.tw16853341256802265648:True:=⟨⟩
theorem hd.tw16868993833207775613:True:=⟨⟩
theorem hd.tw16904818350239718627:True:=⟨⟩
theorem hd.tw16920754564084929960:True:=⟨⟩
theorem hd.tw16945582573551092051:True:=⟨⟩
theorem hd.tw17047115858639842297:True:=⟨⟩
theorem hd.tw17062030032774818151:True:=⟨⟩
theorem hd.tw17183224562656869120:True:=⟨⟩
theorem hd.tw17213754286329925777:True:=⟨⟩
theorem hd.tw17252143746492648416:True:=⟨⟩
theorem hd.tw17258206423299326598:True:=⟨⟩
theorem hd.tw17311223219408574766:True:=⟨⟩
theorem hd.tw17330945745186091897:True:=⟨⟩
theorem hd.tw17377529257436501650:True:=⟨⟩
theorem hd.tw17387473266821786944:True:=⟨⟩
theorem hd.tw17420951861521290806:True:=⟨⟩
theorem hd.tw17447410573909459338:True:=⟨⟩
theorem hd.tw17542962492245011380:True:=⟨⟩
theorem hd.tw17574625026820762457:True:=⟨⟩
theorem hd.tw17599816209265215132:True:=⟨⟩
theorem hd.tw1760603350576429475:True:=⟨⟩
theorem hd.tw17606422857730326317:True:=⟨⟩
theorem hd.tw1762220295487893987:True:=⟨⟩
theorem hd.tw17650839729002327288:True:=⟨⟩
theorem hd.tw17672654358674132775:True:=⟨⟩
theorem hd.tw17673860158736603733:True:=⟨⟩
theorem hd.tw17714235663813219645:True:=⟨⟩
theorem hd.tw17739348878880393726:True:=⟨⟩
theorem hd.tw1778080364554679531:True:=⟨⟩
theorem hd.tw1781861727890032366:True:=⟨⟩
theorem hd.tw1784385830474605701:True:=⟨⟩
theorem hd.tw17893044597097874663:True:=⟨⟩
theorem hd.tw17901334829092211166:True:=⟨⟩
theorem hd.tw17903497710992402801:True:=⟨⟩
theorem hd.tw17950676927832955104:True:=⟨⟩
theorem hd.tw17975533764899295144:True:=⟨⟩
theorem hd.tw17986969038992634876:True:=⟨⟩
theorem hd.tw18093812233618175256:True:=⟨⟩
theorem hd.tw18103342009636024947:True:=⟨⟩
theorem hd.tw18166333605607142505:True:=⟨⟩
theorem hd.tw18185175575083235020:True:=⟨⟩
theorem hd.tw18219297243305740317:True:=⟨⟩
theorem hd.tw18241275227582772068:True:=⟨⟩
theorem hd.tw18245042118932799458:True:=⟨⟩
theorem hd.tw18264374347568628810:True:=⟨⟩
theorem hd.tw18291419657060728153:True:=⟨⟩
theorem hd.tw18293732401869909652:True:=⟨⟩
theorem hd.tw18293851220164018083:True:=⟨⟩
theorem hd.tw18322514126500204803:True:=⟨⟩
theorem hd.tw18343703819029505601:True:=⟨⟩
theorem hd.tw1836080755315867724:True:=⟨⟩
theorem hd.tw18414764529967284870:True:=⟨⟩
theorem hd.tw18437946751001850788:True:=⟨⟩
theorem hd.tw1847840615245081061:True:=⟨⟩
theorem hd.tw1865391376527767206:True:=⟨⟩
theorem hd.tw1882180444382439491:True:=⟨⟩
theorem hd.tw189712035060473897:True:=⟨⟩
theorem hd.tw1962506444172862802:True:=⟨⟩
theorem hd.tw2081544021108705427:True:=⟨⟩
theorem hd.tw2101469004524951375:True:=⟨⟩
theorem hd.tw2114630138375439770:True:=⟨⟩
theorem hd.tw212345690472687942:True:=⟨⟩
theorem hd.tw2167537188350426706:True:=⟨⟩
theorem hd.tw2195365466389143174:True:=⟨⟩
theorem hd.tw2252305205657439004:True:=⟨⟩
theorem hd.tw22551697357593593:True:=⟨⟩
theorem hd.tw2274498078352570744:True:=⟨⟩
theorem hd.tw2323474266016966308:True:=⟨⟩
theorem hd.tw2327210489368252092:True:=⟨⟩
theorem hd.tw2329189449893159454:True:=⟨⟩
theorem hd.tw2386827423013361158:True:=⟨⟩
theorem hd.tw2391449824757734642:True:=⟨⟩
theorem hd.tw2442259710966052079:True:=⟨⟩
theorem hd.tw2502866573005156581:True:=⟨⟩
theorem hd.tw2608437505485318709:True:=⟨⟩
theorem hd.tw26425463804135960:True:=⟨⟩
theorem hd.tw2708950531961675432:True:=⟨⟩
theorem hd.tw2788664435532181463:True:=⟨⟩
theorem hd.tw280609765759037681:True:=⟨⟩
theorem hd.tw2867327485932766208:True:=⟨⟩
theorem hd.tw2887051446865420828:True:=⟨⟩
theorem hd.tw2999033326186475339:True:=⟨⟩
theorem hd.tw3008623586974134963:True:=⟨⟩
theorem hd.tw3109861748172591687:True:=⟨⟩
theorem hd.tw3182187488490625086:True:=⟨⟩
theorem hd.tw3219085151875037572:True:=⟨⟩
theorem hd.tw3229955645248102723:True:=⟨⟩
theorem hd.tw3259873300814134281:True:=⟨⟩
theorem hd.tw3309697970292668127:True:=⟨⟩
theorem hd.tw3381375190539634487:True:=⟨⟩
theorem hd.tw3429492842335990350:True:=⟨⟩
theorem hd.tw3443669649825651883:True:=⟨⟩
theorem hd.tw3452082135128663414:True:=⟨⟩
theorem hd.tw3462702350737211693:True:=⟨⟩
theorem hd.tw3480954088277226078:True:=⟨⟩
theorem hd.tw3493717111155160527:True:=⟨⟩
theorem hd.tw3530705653197291679:True:=⟨⟩
theorem hd.tw3556892082423371721:True:=⟨⟩
theorem hd.tw3559371740216917588:True:=⟨⟩
theorem hd.tw3571134770919094901:True:=⟨⟩
theorem hd.tw3694398316872202419:True:=⟨⟩
theorem hd.tw3704167492566942397:True:=⟨⟩
theorem hd.tw3789350110615891812:True:=⟨⟩
theorem hd.tw379174527631434529:True:=⟨⟩
theorem hd.tw3795277891434052102:True:=⟨⟩
theorem hd.tw3915529967508079626:True:=⟨⟩
theorem hd.tw3919010098100093602:True:=⟨⟩
theorem hd.tw395138700845864316:True:=⟨⟩
theorem hd.tw3953601041324332601:True:=⟨⟩
theorem hd.tw402640490398009360:True:=⟨⟩
theorem hd.tw4065347644161347641:True:=⟨⟩
theorem hd.tw4086058157674990017:True:=⟨⟩
theorem hd.tw4115565904173853331:True:=⟨⟩
theorem hd.tw4225703048834024713:True:=⟨⟩
theorem hd.tw4236039668172988028:True:=⟨⟩
theorem hd.tw4297731678662094536:True:=⟨⟩
theorem hd.tw4315991029959535628:True:=⟨⟩
theorem hd.tw4360684699965382250:True:=⟨⟩
theorem hd.tw4377701919642642989:True:=⟨⟩
theorem hd.tw4402725079659364252:True:=⟨⟩
theorem hd.tw4494801613693538912:True:=⟨⟩
theorem hd.tw4551110910371200005:True:=⟨⟩
theorem hd.tw461538923250603899:True:=⟨⟩
theorem hd.tw4702841417184801058:True:=⟨⟩
theorem hd.tw4706079058837389440:True:=⟨⟩
theorem hd.tw4851647983119433812:True:=⟨⟩
theorem hd.tw4870687313549177768:True:=⟨⟩
theorem hd.tw4993660671451451078:True:=⟨⟩
theorem hd.tw5036846961687405229:True:=⟨⟩
theorem hd.tw5054737718236178183:True:=⟨⟩
theorem hd.tw5057992037070297843:True:=⟨⟩
theorem hd.tw5130813555471234732:True:=⟨⟩
theorem hd.tw5148922909946612681:True:=⟨⟩
theorem hd.tw5174551420813472067:True:=⟨⟩
theorem hd.tw5201384275714778543:True:=⟨⟩
theorem hd.tw5238241317806426387:True:=⟨⟩
theorem hd.tw5245234834050458271:True:=⟨⟩
theorem hd.tw5282504435634884242:True:=⟨⟩
theorem hd.tw5343241284826551009:True:=⟨⟩
theorem hd.tw5363116716869082496:True:=⟨⟩
theorem hd.tw5363564295841288755:True:=⟨⟩
theorem hd.tw5366084841770067474:True:=⟨⟩
theorem hd.tw5373601922739893978:True:=⟨⟩
theorem hd.tw541196102884509978:True:=⟨⟩
theorem hd.tw5511420028821071320:True:=⟨⟩
theorem hd.tw5562173858411828344:True:=⟨⟩
theorem hd.tw5567388512258382067:True:=⟨⟩
theorem hd.tw5608270528595127837:True:=⟨⟩
theorem hd.tw5629675986466331604:True:=⟨⟩
theorem hd.tw5635641802508607975:True:=⟨⟩
theorem hd.tw5657824000916062451:True:=⟨⟩
theorem hd.tw5732804406350252772:True:=⟨⟩
theorem hd.tw5781342201191254626:True:=⟨⟩
theorem hd.tw5902613922787404954:True:=⟨⟩
theorem hd.tw5961118342813265553:True:=⟨⟩
theorem hd.tw5978321128707920903:True:=⟨⟩
theorem hd.tw5987830557187376847:True:=⟨⟩
theorem hd.tw6038821095411175016:True:=⟨⟩
theorem hd.tw6082411064634330575:True:=⟨⟩
theorem hd.tw6095514142297557988:True:=⟨⟩
theorem hd.tw6123773746684550334:True:=⟨⟩
theorem hd.tw6164396464334811476:True:=⟨⟩
theorem hd.tw6184460063843016694:True:=⟨⟩
theorem hd.tw6276725880618359904:True:=⟨⟩
theorem hd.tw6291416237084387574:True:=⟨⟩
theorem hd.tw6293948785866598258:True:=⟨⟩
theorem hd.tw6305734824756694309:True:=⟨⟩
theorem hd.tw6394381022753523788:True:=⟨⟩
theorem hd.tw6407587892757256292:True:=⟨⟩
theorem hd.tw6411954120941647267:True:=⟨⟩
theorem hd.tw6423634429210846174:True:=⟨⟩
theorem hd.tw6442067068224118133:True:=⟨⟩
theorem hd.tw6528754448969337418:True:=⟨⟩
theorem hd.tw6545403380812914513:True:=⟨⟩
theorem hd.tw6547078798241139092:True:=⟨⟩
theorem hd.tw6598312636042714100:True:=⟨⟩
theorem hd.tw667777408057656426:True:=⟨⟩
theorem hd.tw6767318904944593275:True:=⟨⟩
theorem hd.tw6785817131721698500:True:=⟨⟩
theorem hd.tw6819123309680001836:True:=⟨⟩
theorem hd.tw6820862383352777685:True:=⟨⟩
theorem hd.tw6830512106363814048:True:=⟨⟩
theorem hd.tw6875355717438233227:True:=⟨⟩
theorem hd.tw6924109203229866365:True:=⟨⟩
theorem hd.tw6931407450589930559:True:=⟨⟩
theorem hd.tw697623264460660564:True:=⟨⟩
theorem hd.tw6982297934935202809:True:=⟨⟩
theorem hd.tw6998783941825042932:True:=⟨⟩
theorem hd.tw701787995468756871:True:=⟨⟩
theorem hd.tw7068711184596962023:True:=⟨⟩
theorem hd.tw7082855905992002993:True:=⟨⟩
theorem hd.tw7085514621470718492:True:=⟨⟩
theorem hd.tw7120233287515763914:True:=⟨⟩
theorem hd.tw728884934406724761:True:=⟨⟩
theorem hd.tw7289634563603522867:True:=⟨⟩
theorem hd.tw7296583596125217682:True:=⟨⟩
theorem hd.tw7355570028127101125:True:=⟨⟩
theorem hd.tw7494724483528729301:True:=⟨⟩
theorem hd.tw7510230149288206974:True:=⟨⟩
theorem hd.tw7519716089354478335:True:=⟨⟩
theorem hd.tw7523672394736509286:True:=⟨⟩
theorem hd.tw7534799579077118603:True:=⟨⟩
theorem hd.tw7540655947842036084:True:=⟨⟩
theorem hd.tw7547452568850923285:True:=⟨⟩
theorem hd.tw758273949599710562:True:=⟨⟩
theorem hd.tw7625327780235807044:True:=⟨⟩
theorem hd.tw7628703163842673926:True:=⟨⟩
theorem hd.tw7752767780024739350:True:=⟨⟩
theorem hd.tw7754304195085646258:True:=⟨⟩
theorem hd.tw7763873220885509757:True:=⟨⟩
theorem hd.tw7914949630228597729:True:=⟨⟩
theorem hd.tw8025032847418708242:True:=⟨⟩
theorem hd.tw8047900516022102942:True:=⟨⟩
theorem hd.tw8061450827663939861:True:=⟨⟩
theorem hd.tw8112040973832200146:True:=⟨⟩
theorem hd.tw8117029840178788049:True:=⟨⟩
theorem hd.tw8134915037123179040:True:=⟨⟩
theorem hd.tw8184699220007379433:True:=⟨⟩
theorem hd.tw8228950375871286339:True:=⟨⟩
theorem hd.tw8268277133935991078:True:=⟨⟩
theorem hd.tw8271738721435924559:True:=⟨⟩
theorem hd.tw8343274005884668182:True:=⟨⟩
theorem hd.tw8356816923877370021:True:=⟨⟩
theorem hd.tw8381844023166312768:True:=⟨⟩
theorem hd.tw8428860471423672150:True:=⟨⟩
theorem hd.tw8457440626546761165:True:=⟨⟩
theorem hd.tw8458067239894703972:True:=⟨⟩
theorem hd.tw8493152586797012548:True:=⟨⟩
theorem hd.tw8545014587354053640:True:=⟨⟩
theorem hd.tw8609351116199087170:True:=⟨⟩
theorem hd.tw8662294711777555239:True:=⟨⟩
theorem hd.tw8671608845466749128:True:=⟨⟩
theorem hd.tw8716120427605611371:True:=⟨⟩
theorem hd.tw8727321023445011275:True:=⟨⟩
theorem hd.tw8735263284916673568:True:=⟨⟩
theorem hd.tw876422389191416028:True:=⟨⟩
theorem hd.tw8789358453043137523:True:=⟨⟩
theorem hd.tw8960069828448710407:True:=⟨⟩
theorem hd.tw8990313861142287110:True:=⟨⟩
theorem hd.tw9170477692918782315:True:=⟨⟩
theorem hd.tw920214292312260371:True:=⟨⟩
theorem hd.tw922143313871775805:True:=⟨⟩
theorem hd.tw9244321171653502345:True:=⟨⟩
theorem hd.tw9277588360372424766:True:=⟨⟩
theorem hd.tw9345676750909349944:True:=⟨⟩
theorem hd.tw9345929723534960622:True:=⟨⟩
theorem hd.tw9421340871869096474:True:=⟨⟩
theorem hd.tw9430268157657104642:True:=⟨⟩
theorem hd.tw9496365245306024149:True:=⟨⟩
theorem hd.tw9533747618267967006:True:=⟨⟩
theorem hd.tw9566141503761928105:True:=⟨⟩
theorem hd.tw9609788390727539227:True:=⟨⟩
theorem hd.tw9641152695372364146:True:=⟨⟩
theorem hd.tw9657781627882305391:True:=⟨⟩
theorem hd.tw9673543361469618366:True:=⟨⟩
theorem hd.tw9702936160620672325:True:=⟨⟩
theorem hd.tw9719896912496429819:True:=⟨⟩
theorem hd.tw9741134391959003819:True:=⟨⟩
theorem hd.tw9748044761591592747:True:=⟨⟩
theorem hd.tw9763420282994701918:True:=⟨⟩
theorem hd.tw978014153386294347:True:=⟨⟩
theorem hd.tw978945382295711627:True:=⟨⟩
theorem hd.tw9908193460736022307:True:=⟨⟩
theorem hd.tw991583007596301734:True:=⟨⟩
theorem hd.tw9955209858657692705:True:=⟨⟩
theorem hd.tw9960721518486171458:True:=⟨⟩
set_option maxHeartbeats 8000000 in
set_option Elab.async true in
theorem hd:PySem.Challenge.rw_if0046_01.Holds:=by
 w_on;o_law;k_head;(case hw=>w_witness2);intro w s₀ s₁ mg mb G Y fa o pm cd doc dV kV ho hd' hcd hD hmg hg args vals as hpre hlay hrd hwl hlo;have KX:(kF.heap_1 w.params).In s₁.heap:=km_in_of Y;have KT:=km_tabs_of Y;have hfa:fa=330:=G4 KX G.T.g hmg;clear hcd hD ho hd' Y hmg;subst hfa;wrow_args hpre hlay hrd hwl hlo;rename_i ns _ _ _ _ _ _ _ a vs _ hL _ hW _ hI _ hlen _;refine ER (LQ KX KT G.T hg) (Gs (ID KT) hW hL hI) (Ao w ns (by lia)) λs' z=>?_;refine ⟨.inl (i35 (.bool true) (.bool true) ([]) rfl (λ_=>rfl) (.bool _) ?_ (λ_=>⟨jm,λ_ h=>nomatch h⟩)),IS KX KT rfl z,z.os,λy hy=>?_⟩;·kernel_rfl
 ·obtain ⟨i,hi⟩:=Array.mem_iff_getElem?.mp hy;exact z.bare i y hi
end
end Mine
theorem PySem.Challenge.cw_if0046_01_holds : PySem.Challenge.rw_if0046_01.Holds :=
 Mine.hd
