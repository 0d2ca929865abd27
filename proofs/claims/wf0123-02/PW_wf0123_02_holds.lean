import PyProof.Rows.All
import Wide.All
import OpenK.AllK
import Wide.FinOn
import KE.KSetDisp
import KE.KBits
import OpenK.ZHead
import Lean
import PySem.Challenge.RW_wf0123_02
set_option Elab.async false
set_option linter.all false
set_option bootstrap.genMatcherCode false
set_option genInjectivity false
set_option genSizeOf false
set_option tactic.hygienic false
set_option maxRecDepth 100000
set_option maxHeartbeats 0
noncomputable section
open Option renaming some->aA,none->aF,map_eq_some_iff->lL,isSome_iff_exists->mO,bind_eq_some_iff->z7,getD_some->QEM,map_eq_none_iff->QFp
open Bool renaming true->aB,false->aE,and_eq_true_iff->f7,and_eq_true->gn,eq_false_iff->uN,eq_iff_iff->uS,not_eq_true'->uW,and_false->uj,false_eq_true->wm,true_and->Co,or_eq_true->IB,false_and->IC,or_eq_false_iff->Pe,and_true->Pm,not_eq_true->QEK,or_eq_true_iff->QEo,false_or->QGK
open Nat renaming le_trans->az,le_of_ble_eq_true->bJ,le_refl->bh,beq->bt,blt->cP,mod_lt->dw,ble->eV,min_eq_left->fz,le_add_left->gA,mul_le_mul_left->gC,zero_le->hJ,add_le_add->iF,not_lt->iH,lt_of_le_of_lt->ig,le_of_not_lt->jM,le_antisymm->ji,lt_of_lt_of_le->mF,lt_irrefl->mG,le_add_right->mL,le_of_eq->qj,ne_of_lt->qm,lt_of_not_le->qp,div_mul_le_self->qu,le_of_lt->sA,lt_trans->sC,lt_succ_of_lt->sN,ble_eq_true_of_le->sQ,eq_of_beq_eq_true->uO,lt_succ_self->uZ,zero_add->ug,lt_or_gt_of_ne->um,add_comm->uq,ne_of_gt->wN,add_assoc->wO,sub_eq_zero_of_le->xB,add_right_comm->zj,gcd->AG,beq_refl->Cf,sub_zero->Ck,mul_le_mul->Cn,min_le_right->Cp,exists_eq_add_of_le'->DI,mul_succ->DJ,le_succ_of_le->Ha,le_of_succ_le->Hl,not_le_of_lt->Hr,succ_le_succ->Hv,succ->H3,not_le->H9,mul_comm->IS,pos_of_ne_zero->Ih,add_le_add_left->PU,two_mul->PV,succ_pos->PX,not_lt_zero->QB,add_sub_cancel'->QC,lt_or_ge->QR,le_total->Qg,pow_succ->Ql,div_eq_of_lt->Qn,add_right_cancel->QDn,sub_add_cancel->QDp,le_succ->QEn,lt_of_succ_lt_succ->QEq,sub_le->QEy,min_eq_right->QFI,eq_of_testBit_eq->QFM,testBit_and->QFN,testBit_two_pow_mul->QFO,pow_le_pow_right->QFP,div_add_mod->QFQ,mul_zero->QFV,strongRecOn->QFY,mul_add->QFZ,le_of_lt_succ->QFf,min_le_left->QFo,gcd_comm->QFx,succ_mul->QGH
open Int renaming toNat->bN,le_of_lt->bw,natCast_nonneg->dP,ne_of_gt->gE,one_mul->gq,not_lt->jK,toNat_of_nonneg->jN,natAbs_of_nonneg->jR,mul_comm->jo,le_trans->kC,mul_nonneg->kF,toNat_natCast->lP,mul_pos->lR,ofNat_lt->mD,mul_le_mul_of_nonneg_right->mT,emod_nonneg->mU,emod_lt_of_pos->nT,fmod_lt_of_pos->nU,fmod_nonneg_of_pos->nV,ofNat_le->om,lt_of_le_of_lt->o5,mul_ediv_add_emod->o9,lt_of_lt_of_le->pJ,add_mul->qr,add_nonneg->qt,ediv_lt_of_lt_mul->sV,le_refl->uT,le_antisymm->uU,mul_one->uc,ediv_nonneg->uk,add_comm->xE,mul_assoc->xF,ofNat_natAbs_of_nonpos->xH,not_le->zP,zero_add->zc,lt_or_gt_of_ne->AE,natAbs_add_le->AH,add_le_add->Cc,le_of_eq->Cd,emod_add_emod->DN,mul_le_mul_of_nonneg_left->HW,mul_le_mul->Hb,eq_ofNat_of_zero_le->H2,lt_trans->IQ,mul_add->IT,add_mul_ediv_left->Ig,natAbs_mul->Ii,add_lt_add_iff_right->Ij,sub_nonneg_of_le->Il,mul_neg_one->Im,fdiv_eq_ediv_of_nonneg->Qh,lt_or_le->Qi,sub_mul->Qj,add_sub_cancel->Qm,mul_zero->Qo,natAbs_neg->Qw,ediv_eq_zero_of_lt->Qy,add_left_inj->QDo,max_eq_right->QDq,le_of_not_gt->QEA,add_lt_add_left->QFR,ediv_ediv_of_nonneg->QFS,mul_lt_mul_of_pos_right->QFT,emod_emod_of_dvd->QFU,ediv_one->QFW,emod_eq_of_lt->QFX,natCast_add->QFa,natCast_mul->QFb,add_assoc->QFd,add_zero->QFe,add_mul_emod_self_left->QFw,ofNat_ne_zero->QFy,mul_sub->QGE,le_natAbs->QGG,neg_fdiv_neg->QGI,sub_le_self->QGJ,natAbs_natCast->QGL
open List renaming range->bg,mem_cons->bp,all_eq_true->dR,replicate->dY,length_map->dZ,length_append->du,append_nil->eY,map_cons->gB,not_mem_nil->gU,size_toArray->gm,map_append->gp,lookup_cons->iK,mem_map->ij,append_assoc->ik,map_nil->jk,filterMap_cons->nN,foldl_cons->oo,length_cons->pL,mem_append->qk,mem_range->sD,getElem?_eq_getElem->sP,cons_append->sT,take_append_drop->sU,nil_append->sY,take_of_length_le->uV,forIn_cons->ua,length_nil->uh,drop_eq_nil_of_le->ur,length_range->wu,nodup_append->wz,replicate_succ->xG,filter_cons->xI,mem_cons_of_mem->zQ,getElem?_eq_some_iff->zT,getElem?_toArray->zU,forIn_nil->zY,reverse_cons->zl,length_reverse->zv,length_replicate->AD,getElem?_eq_none->Cv,map_map->Cw,mem_reverse->Cy,getElem?_map->DB,length_take->DF,mem_of_getElem?->DH,flatten_cons->DK,mem_replicate->DO,mem_filterMap->HY,contains_iff_mem->Hi,drop_eq_getElem_cons->Hx,length_drop->II,mem_singleton->IU,map_congr_left->IV,getD->IX,flatten_nil->IY,foldl->Ik,mem_append_left->PW,nodup_cons->Pk,map_reverse->Pt,isEmpty_iff->Py,getElem?_range->QA,length->QS,sum_cons->Qb,drop_zero->Qp,drop_left->Qq,isEmpty_map->Qx,mem_append_right->QDs,getElem?_eq_none_iff->QED,findIdx_cons->QEL,lookup->QEN,drop_length->QEQ,ext_getElem?->QEW,length_eq_zero_iff->QEc,nodup_nil->QEk,all_cons->QEp,range'_succ->QEr,range_eq_range'->QEs,push_toArray->QFA,map_inj_left->QFD,sum_nil->QFE,drop_drop->QFc,take_left->QFg,takeWhile_append_of_pos->QFj,map_eq_nil_iff->QFk,length_filter_le->QFm,filterMap->QFz,replicate_succ'->QGA,filter_map->QGD,mem_filter->QGF
open Or renaming elim->cp
open Eq renaming refl->eZ
open Array renaming length_toList->jq,size_extract->uR,getD_eq_getD_getElem?->IE,size_push->QI,size_append->Qe,toList_inj->Qr,getElem?_extract->QDt,getElem?_eq_getElem->QEb,toList_append->QEm,all_toList->QFv
open Option.some renaming inj->kB
open Ne renaming symm->lM
open PUnit renaming unit->lO
open False renaming elim->mE
open ForInStep renaming yield->ou
open Prod.mk renaming injEq->sR,inj->QE
open Nat.succ renaming inj->zq
open Decidable renaming em->Ie,byContradiction->QGu
open Classical renaming choose->QGB,choose_spec->QGC,byContradiction->QGe
open PySem PySem.W PyProof.Rows PySem.Calls PyProof.V
local macro_rules | `(tactic|ac_rfl)=> `(tactic|first|(simp+arith only;done)|(simp+arith only[Int.natCast_add,Int.natCast_mul,Int.cast_ofNat_Int];done)|simp+arith)
local macro_rules | `(tactic|lia)=> `(tactic|kernel_rfl)
local macro_rules | `(tactic|simp! only[$ts,*] $(l)?)=> `(tactic|simp -iota only[$ts,*] $(l)?)
local macro_rules | `(tactic|omega)=> `(tactic|lia+abstractProof)
local macro_rules | `(tactic|ac_nf)=> `(tactic|(simp -iota only[typeLookup_type,builtinLookup_eq_fast];kernel_rfl))
universe u v w
open PySem renaming Str->aG,Value->aI,Addr->aM,Shared->aN,wpAny->aO,Expr->aP,wpAny_bind->aR,model->aY,wpAny_pure->bA,Obj->bH,Heap->bK,Pos->bP,Params->bZ,Sem->ba,World->bx,eval->bz,wpAny_holding->cO,Around->cV,Env->cg,Stmt->cx,NameKind->dQ,OsState->eH,wpAny_mono->eX,Tok->fF,starEach->fH,CmpOp->fU,execs->fV,Str->fX,Flow->hM,Operator->iG,wpAny_standAt->iJ,builtinsNs->ic,wpAny_execs_cons->ip,intKind->iq,cellsFrom->jO,Scope->jP,swapsWithSole->jj,pushCells->kD,denote->kE,sliceBounds->kZ,BoolOp->kf,treeTable->kj,mainNs->lQ,sizeLine->mJ,backTo->mK,assign->mP,swappedStores->mQ,mainGlobals->nM,bindArgs->nO,Expr->nP,Fin->nQ,JoinOk->nS,wpAny_truthy_bool->oq,holding->ot,rawInt->oz,exec->o3,wpAny_Call_Name_kw->qn,wpAny_of_eq->qo,Program->sF,compareOp->sG,spliced->sI,behindInMarks->sJ,standAt->sM,Walks->sO,runN->sS,wpAny_assign_Name->ub,codeAny->ud,assignEach->uf,strValues->wV,seqIndex?->wX,subscripted->wY,operate->wZ,getItem->wc,callWith->wd,callWith_type->wg,attributeBase->wh,Keyword->wi,wpAny_Call_method_lateS->wj,wpAny_call->wq,Builtin->wx,DictEntry->wy,subDict->xA,Reads->zR,isTrue->zW,pyIter->zZ,Result->zh,wpAny_execs_nil->zo,bindName->zr,dropValue->zt,sizeLine_eq->AA,sliceRange->Ce,storeName->Cm,getMethod->Cr,sysModules->Cs,Model->Cu,swapsWith->Cz,table->DD,schedN->DE,nsFind->DG,truthy->Hc,bootBuiltins->Hd,wpAny_isTrue_Compare1->He,wpAny_List->Hf,typeOf->Hj,wpAny_evalPart_none->Hk,newEnv->Hm,newFunctionEnv->Ho,wpAny_alloc->Hp,foldedSetIterable->Hu,setItem->Hy,slot_list_setitem->Hz,wpAny_call_entry->H0,wpAny_If->H6,wpAny_seqItems->H7,Comprehension->H8,argsOk->IF,updateSeq->IG,mergeMapping->IH,findBy->IL,callEnv->IM,wpAny_isTrue_value->IP,table_eq_tree->Ib,slot_list_getitem->PY,typeIs_str->PZ,wpAny_loadName_local->Pa,wpAny_Compare1->Pb,wpAny_isNot_plain->Pd,PlainAttrs->Pf,backToKw->Pg,keywordEach->Ph,pushCells_keeps->Pj,letOwnedTupleGo->Pn,keeperOf->Po,call_type_of->Pp,unpackItems->Pq,arm_exec_Assign->Pr,arm_assign_Subscript->Pu,codeAny_call_function->Pw,functionCode->Px,lastMarks->Pz,entryFor->QF,entryFor_of_tree->QG,wpAny_fieldsOf->QH,seqItems?->QJ,wpAny_mkStr->QK,codeAny_builtin->QL,typeLookup->QM,typeLookup_type->QN,builtinLookup_eq_fast->QO,dictDisplay->QQ,runValue->QT,moduleCode->QV,newBodyFrame->QW,blockStart->QX,evalEachOpt->QY,evalEach->QZ,codeAny_call_def->Qc,arm_execs_cons->Qv,wpAny_storeName_local->QDu,wpAny_getItem_list->QEC,wpAny_Constant_int->QEE,wpAny_UnaryOp->QEF,wpAny_isTrue_Not->QEG,wpAny_is_plain->QEH,wpAny_pyIter_list->QEO,wpAny_list_append_plain->QEP,wpAny_newObj_type->QER,methodCallPos->QES,wpAny_specialOf->QEV,wpAny_sequenceKey->QEX,wpAny_callSpecial?_slot->QEY,entry_list_setitem->QEZ,args_list_setitem->QEa,wpAny_bindName->QEd,wpAny_Continue->QEf,codeAny_forLoop_any->QEg,codeAny_whileLoop->QEh,wpAny_listPart->QEi,wpAny_updateSeq->QEj,wpCode_iff_wp->QEv,builtinType_eq_fast->QEw,signature?_of->QEx,wpAny_dictFind_int->QEz,wpAny_dictEntries->QFB,wpAny_onRaise->QFC,wpAny_inSet_of->QFH,wpAny_askSetting->QFL,intText?->QFl,leftWithCleanup->QFq,arm_execs_nil->QFr,model->QFs,call->QGM
open PySem.W renaming Dat->aK,kqdOk->fO,SharedT->hO,absHeap->o6,ofPy->uu,kqdP->wU,listOf->zV,behindTheImports->z9,WellAll->DM,abs_get->ID,absHeap_at->Ia,looseW->Ic,absHeap_size->QD,kbt_mask->Qk,pre_splitW->Q0,stripBy_eq->QFh,stripped->QFi,wellAll_cons_inv->QFu
open PySem.W.Dat renaming int->cA,str->sH,list->DA,tuple->QEt
open PySem.Txt renaming lower->cH,slice->iI,replace->Cj,join->DC,rstrip->Qu,lstripChars->Qz
open PySem.Heap renaming get?_push_size->fG,get?_push_of_some->gS,get?_none_of_le->ie,lt_size->kg,get?->wR,get?_update_self->wo,size_push->Ct,get?_some_iff->HX,SameBut->HZ,nsMap->Qa
open PySem.Sem renaming wp->f6,wp_bind'->pP,wp_pure'->DL,wp_mono->IZ
open PySem.Builtin renaming bitAnd->jL,divisionGoesByPylong->r9,bitOr->uP,bitXor->Cg,bitNot->QDr
open PySem.Sre renaming Seen->jQ,forSearch->kh,inSet->zy,Frame->IA
open PySem.Calls renaming spliced_nil->lN,spliced_cons->uX,callWith_builtin->we,callWith_function->zi,Name_function_global->Hg,loadGlobal_builtin->QEI,loadGlobal_global->QEJ
open PySem.NameKind renaming cell->mM,free->oy
open PySem.Value renaming isInt->mR,ref->wQ,int->QU,type->QFF,isInt_shape->QFG
open PySem.PyData renaming strOk->mV,list->xK,int->xM
open PyProof.Rows renaming News->uQ,tail_any->zS,wpAny_release'->H5,Subscript_->Pc,eq_str->QDy,ne_str->QDz,subscriptTail->QEB,add_int->QGf,sub_int->QGg,mul_int->QGh,eq_int->QGj,ne_int->QGk,lt_int->QGl,le_int->QGm,gt_int->QGn,ge_int->QGo,len_list->QGp,len_tuple->QGq,slice_closesL->QGt
open PySem.F renaming plainAttrs_str->uY,plainAttrs_dict->QET,slot_dict_get->QEU,plainAttrs_list->QEe,slot_dict_items->QEl
open PySem.Sre.M renaming admitted->zz
open PySem.SetTable renaming eraseAt->AB,insertAt->Qd,fits->QFJ,fill->QFK
open PySem.Unicode renaming isSpace->AF
open PySem.Heap.SameBut renaming update->H4
open PySem.Str renaming ofString->IJ,ofString->IK,mk->Qt
open PySem.Shared renaming asleep_of_life->QP,mk->QEu
open PySem.SeqAt renaming shaped->QDv,in_list_reads->QDw,notIn_list_reads->QDx
open PySem.Builtin.Str renaming tooLong->QFn,tooLong->QGi,strKind->QGs
open PySem.Challenge renaming rw_wf0123_02->QFt,pw_wf0123_02->QGr
namespace Mine
noncomputable def QGv:= @absurd
noncomputable def QGw:= @if_neg
noncomputable def QGx:= @if_pos
noncomputable def QGy:= @beq_iff_eq
noncomputable def QGz:= @congrArg
noncomputable def QHA:= @beq_self_eq_true
noncomputable def QHB:= @beq_false_of_ne
noncomputable def QHC:= @of_decide_eq_true
noncomputable def QHD:= @decide_eq_true
noncomputable def QHE:= @bne_self_eq_false
section
variable {g:Prop}
section
variable {p q r s t k l m:Prop}
theorem bI (h:p/\q) (f:p->q->g):g:=f h.1 h.2
theorem eJ (h:p/\q/\r) (f:p->q->r->g):g:=bI h λa b=>bI b<|f a
theorem jy (h:p/\q/\r/\s) (f:p->q->r->s->g):g:=bI h λa b=>eJ b<|f a
theorem EB (h:p/\q/\r/\s/\t) (f:p->q->r->s->t->g):g:=bI h λa b=>jy b<|f a
theorem FA (h:p/\q/\r/\s/\t/\k) (f:p->q->r->s->t->k->g):g:=bI h λa b=>EB b<|f a
theorem Dl (h:p/\q/\r/\s/\t/\k/\l) (f:p->q->r->s->t->k->l->g):g:=bI h λa b=>FA b<|f a
theorem QCI (h:p/\q/\r/\s/\t/\k/\l/\m) (f:p->q->r->s->t->k->l->m->g):g:=bI h λa b=>Dl b<|f a
end
section
variable {A:Sort _} {p q r s t k l m:A->Prop}
theorem aV (h: ∃x,p x) (f: ∀x,p x->g):g:=h.elim f
theorem aS (h: ∃x,p x/\q x) (f: ∀x,p x->q x->g):g:=h.elim λa b=>bI b<|f a
theorem cy (h: ∃x,p x/\q x/\r x) (f: ∀x,p x->q x->r x->g):g:=h.elim λa b=>eJ b<|f a
theorem uM (h: ∃x,p x/\q x/\r x/\s x) (f: ∀x,p x->q x->r x->s x->g):g:=h.elim λa b=>jy b<|f a
theorem uC (h: ∃x,p x/\q x/\r x/\s x/\t x) (f: ∀x,p x->q x->r x->s x->t x->g):g:=h.elim λa b=>EB b<|f a
theorem WI (h: ∃x,p x/\q x/\r x/\s x/\t x/\k x) (f: ∀x,p x->q x->r x->s x->t x->k x->g):g:=h.elim λa b=>FA b<|f a
theorem Jn (h: ∃x,p x/\q x/\r x/\s x/\t x/\k x/\l x) (f: ∀x,p x->q x->r x->s x->t x->k x->l x->g):g:=h.elim λa b=>Dl b<|f a
end
section
variable {A B:Sort _} {p q r s t k l m:A->B->Prop}
theorem je (h: ∃x y,p x y) (f: ∀x y,p x y->g):g:=h.elim λa b=>aV b<|f a
theorem cR (h: ∃x y,p x y/\q x y) (f: ∀x y,p x y->q x y->g):g:=h.elim λa b=>aS b<|f a
theorem bf (h: ∃x y,p x y/\q x y/\r x y) (f: ∀x y,p x y->q x y->r x y->g):g:=h.elim λa b=>cy b<|f a
theorem iU (h: ∃x y,p x y/\q x y/\r x y/\s x y) (f: ∀x y,p x y->q x y->r x y->s x y->g):g:=h.elim λa b=>uM b<|f a
theorem oQ (h: ∃x y,p x y/\q x y/\r x y/\s x y/\t x y) (f: ∀x y,p x y->q x y->r x y->s x y->t x y->g):g:=h.elim λa b=>uC b<|f a
theorem AJ (h: ∃x y,p x y/\q x y/\r x y/\s x y/\t x y/\k x y) (f: ∀x y,p x y->q x y->r x y->s x y->t x y->k x y->g):g:=h.elim λa b=>WI b<|f a
theorem TK (h: ∃x y,p x y/\q x y/\r x y/\s x y/\t x y/\k x y/\l x y) (f: ∀x y,p x y->q x y->r x y->s x y->t x y->k x y->l x y->g):g:=h.elim λa b=>Jn b<|f a
end
section
variable {A B C:Sort _} {p q r s t k l m:A->B->C->Prop}
theorem QDG (h: ∃x y z,p x y z) (f: ∀x y z,p x y z->g):g:=h.elim λa b=>je b<|f a
theorem oh (h: ∃x y z,p x y z/\q x y z) (f: ∀x y z,p x y z->q x y z->g):g:=h.elim λa b=>cR b<|f a
theorem dS (h: ∃x y z,p x y z/\q x y z/\r x y z) (f: ∀x y z,p x y z->q x y z->r x y z->g):g:=h.elim λa b=>bf b<|f a
theorem dd (h: ∃x y z,p x y z/\q x y z/\r x y z/\s x y z) (f: ∀x y z,p x y z->q x y z->r x y z->s x y z->g):g:=h.elim λa b=>iU b<|f a
theorem Sf (h: ∃x y z,p x y z/\q x y z/\r x y z/\s x y z/\t x y z) (f: ∀x y z,p x y z->q x y z->r x y z->s x y z->t x y z->g):g:=h.elim λa b=>oQ b<|f a
theorem QGY (h: ∃x y z,p x y z/\q x y z/\r x y z/\s x y z/\t x y z/\k x y z) (f: ∀x y z,p x y z->q x y z->r x y z->s x y z->t x y z->k x y z->g):g:=h.elim λa b=>AJ b<|f a
end
section
variable {A B C D:Sort _} {p q r s t k l m:A->B->C->D->Prop}
theorem xy (h: ∃x y z u,p x y z u) (f: ∀x y z u,p x y z u->g):g:=h.elim λa b=>QDG b<|f a
theorem Ea (h: ∃x y z u,p x y z u/\q x y z u) (f: ∀x y z u,p x y z u->q x y z u->g):g:=h.elim λa b=>oh b<|f a
theorem QAX (h: ∃x y z u,p x y z u/\q x y z u/\r x y z u/\s x y z u) (f: ∀x y z u,p x y z u->q x y z u->r x y z u->s x y z u->g):g:=h.elim λa b=>dd b<|f a
theorem tY (h: ∃x y z u,p x y z u/\q x y z u/\r x y z u/\s x y z u/\t x y z u) (f: ∀x y z u,p x y z u->q x y z u->r x y z u->s x y z u->t x y z u->g):g:=h.elim λa b=>Sf b<|f a
end
section
variable {p q r s t k l m:Prop}
theorem kr (h0:p) (h1:q) (h2:r) (h3:s):p/\q/\r/\s:=⟨h0,h1,h2,h3⟩
theorem Gv (h0:p) (h1:q) (h2:r) (h3:s) (h4:t):p/\q/\r/\s/\t:=⟨h0,h1,h2,h3,h4⟩
theorem U_ (h0:p) (h1:q) (h2:r) (h3:s) (h4:t) (h5:k):p/\q/\r/\s/\t/\k:=⟨h0,h1,h2,h3,h4,h5⟩
end
section
variable {A:Sort _} {p q r s t k l m:A->Prop}
theorem ZX (x:A) (h0:p x): ∃x,p x:=⟨x,h0⟩
theorem ax (x:A) (h0:p x) (h1:q x): ∃x,p x/\q x:=⟨x,h0,h1⟩
theorem gc (x:A) (h0:p x) (h1:q x) (h2:r x): ∃x,p x/\q x/\r x:=⟨x,h0,h1,h2⟩
theorem kP (x:A) (h0:p x) (h1:q x) (h2:r x) (h3:s x): ∃x,p x/\q x/\r x/\s x:=⟨x,h0,h1,h2,h3⟩
theorem L6 (x:A) (h0:p x) (h1:q x) (h2:r x) (h3:s x) (h4:t x): ∃x,p x/\q x/\r x/\s x/\t x:=⟨x,h0,h1,h2,h3,h4⟩
theorem Y7 (x:A) (h0:p x) (h1:q x) (h2:r x) (h3:s x) (h4:t x) (h5:k x): ∃x,p x/\q x/\r x/\s x/\t x/\k x:=⟨x,h0,h1,h2,h3,h4,h5⟩
theorem XH (x:A) (h0:p x) (h1:q x) (h2:r x) (h3:s x) (h4:t x) (h5:k x) (h6:l x): ∃x,p x/\q x/\r x/\s x/\t x/\k x/\l x:=⟨x,h0,h1,h2,h3,h4,h5,h6⟩
end
section
variable {A B:Sort _} {p q r s t k l m:A->B->Prop}
theorem lY (x:A) (y:B) (h0:p x y): ∃x y,p x y:=⟨x,ZX y h0⟩
theorem fD (x:A) (y:B) (h0:p x y) (h1:q x y): ∃x y,p x y/\q x y:=⟨x,ax y h0 h1⟩
theorem dA (x:A) (y:B) (h0:p x y) (h1:q x y) (h2:r x y): ∃x y,p x y/\q x y/\r x y:=⟨x,gc y h0 h1 h2⟩
theorem jX (x:A) (y:B) (h0:p x y) (h1:q x y) (h2:r x y) (h3:s x y): ∃x y,p x y/\q x y/\r x y/\s x y:=⟨x,kP y h0 h1 h2 h3⟩
theorem vP (x:A) (y:B) (h0:p x y) (h1:q x y) (h2:r x y) (h3:s x y) (h4:t x y): ∃x y,p x y/\q x y/\r x y/\s x y/\t x y:=⟨x,L6 y h0 h1 h2 h3 h4⟩
theorem sa (x:A) (y:B) (h0:p x y) (h1:q x y) (h2:r x y) (h3:s x y) (h4:t x y) (h5:k x y): ∃x y,p x y/\q x y/\r x y/\s x y/\t x y/\k x y:=⟨x,Y7 y h0 h1 h2 h3 h4 h5⟩
theorem ZV (x:A) (y:B) (h0:p x y) (h1:q x y) (h2:r x y) (h3:s x y) (h4:t x y) (h5:k x y) (h6:l x y): ∃x y,p x y/\q x y/\r x y/\s x y/\t x y/\k x y/\l x y:=⟨x,XH y h0 h1 h2 h3 h4 h5 h6⟩
end
section
variable {A B C:Sort _} {p q r s t k l m:A->B->C->Prop}
theorem QBI (x:A) (y:B) (z:C) (h0:p x y z): ∃x y z,p x y z:=⟨x,lY y z h0⟩
theorem Ip (x:A) (y:B) (z:C) (h0:p x y z) (h1:q x y z): ∃x y z,p x y z/\q x y z:=⟨x,fD y z h0 h1⟩
theorem lz (x:A) (y:B) (z:C) (h0:p x y z) (h1:q x y z) (h2:r x y z): ∃x y z,p x y z/\q x y z/\r x y z:=⟨x,dA y z h0 h1 h2⟩
theorem qV (x:A) (y:B) (z:C) (h0:p x y z) (h1:q x y z) (h2:r x y z) (h3:s x y z): ∃x y z,p x y z/\q x y z/\r x y z/\s x y z:=⟨x,jX y z h0 h1 h2 h3⟩
theorem GN (x:A) (y:B) (z:C) (h0:p x y z) (h1:q x y z) (h2:r x y z) (h3:s x y z) (h4:t x y z): ∃x y z,p x y z/\q x y z/\r x y z/\s x y z/\t x y z:=⟨x,vP y z h0 h1 h2 h3 h4⟩
end
section
variable {A B C D:Sort _} {p q r s t k l m:A->B->C->D->Prop}
theorem GZ (x:A) (y:B) (z:C) (u:D) (h0:p x y z u) (h1:q x y z u) (h2:r x y z u) (h3:s x y z u): ∃x y z u,p x y z u/\q x y z u/\r x y z u/\s x y z u:=⟨x,qV y z u h0 h1 h2 h3⟩
theorem HH (x:A) (y:B) (z:C) (u:D) (h0:p x y z u) (h1:q x y z u) (h2:r x y z u) (h3:s x y z u) (h4:t x y z u): ∃x y z u,p x y z u/\q x y z u/\r x y z u/\s x y z u/\t x y z u:=⟨x,GN y z u h0 h1 h2 h3 h4⟩
end
end
theorem ay {α:Type u} {p:Prop} {a:α} (e:aF=aA a):p:=nomatch e
theorem pR {α:Type u} {p:Prop} {a:α} (e:aA a=aF):p:=nomatch e
theorem bq {p:Prop} (e:aE=aB):p:=nomatch e
theorem xQ {p:Prop} (e:aB=aE):p:=nomatch e
theorem cb {α:Type u} {p:Prop} {o:Option α} {a:α} (h:o=aF) (e:o=aA a):p:=nomatch h.symm.trans e
theorem vH {α:Type u} {p:Prop} {o:Option α} {a:α} (h:o=aA a) (e:o=aF):p:=nomatch h.symm.trans e
theorem bM {α:Type u} {o:Option α} {a b:α} (h:o=aA a) (e:o=aA b):a=b:=kB<|h.symm.trans e
@[elab_as_elim] theorem sb {α:Sort u} {b:α} {motive:α->Prop} {a:α} (h:b=a) (k:motive a):motive b:=h.symm▸k
@[elab_as_elim] theorem cv {α:Sort u} {b:α} {motive:α->Prop} {a:α} (h:a=b) (k:motive a):motive b:=h▸k
theorem na {a b c d:Nat} (h:a<=b) (k:c<=d):a+c<=b+d:=iF h k
theorem ni {a b c d:Int} (h:a<=b) (k:c<=d):a+c<=b+d:=Cc h k
theorem ea {a b c d:Nat} (h:a=b) (k:c=d):a+c=b+d:=h▸k▸rfl
theorem ei {a b c d:Int} (h:a=b) (k:c=d):a+c=b+d:=h▸k▸rfl
theorem aQ {a0 b0 c d:Nat} (h0:a0<=b0) (e:c+b0<=d+a0:=by ac_rfl):c<=d:=Nat.le_of_add_le_add_right<|az e<|PU h0 d
theorem kn {a0 b0:Nat} {p:Prop} (h0:a0<=b0) (e:b0+1<=a0:=by ac_rfl):p:=QGv (az e h0)<|Nat.not_succ_le_self b0
theorem bD {a0 b0 a1 b1 c d:Nat} (h0:a0<=b0) (h1:a1<=b1) (e:c+(b0+b1)<=d+(a0+a1):=by ac_rfl):c<=d:=aQ (iF h0 h1) e
theorem cY {a0 b0 a1 b1:Nat} {p:Prop} (h0:a0<=b0) (h1:a1<=b1) (e:b0+b1+1<=a0+a1:=by ac_rfl):p:=kn (iF h0 h1) e
theorem rF {a0 b0 a1 b1 c d:Nat} (h0:a0=b0) (h1:a1=b1) (e:c+(b0+b1)=d+(a0+a1):=by ac_rfl):c=d:=by subst h0;subst h1;exact QDn e
theorem bE {a0 b0 c d:Int} (h0:a0<=b0) (e:c+b0<=d+a0:=by ac_rfl):c<=d:=Int.le_of_add_le_add_right<|kC e<|Int.add_le_add_left h0 d
theorem bG {a0 b0 a1 b1 c d:Int} (h0:a0<=b0) (h1:a1<=b1) (e:c+(b0+b1)<=d+(a0+a1):=by ac_rfl):c<=d:=bE (Cc h0 h1) e
theorem fc {a0 b0 a1 b1:Int} {p:Prop} (h0:a0<=b0) (h1:a1<=b1) (e:b0+b1+1<=a0+a1:=by ac_rfl):p:=QGv (kC e<|Cc h0 h1)<|zP.mpr<|Int.lt_succ _
theorem vf {a0 b0 c d:Int} (h0:a0=b0) (e:c+b0=d+a0:=by ac_rfl):c=d:=by subst h0;exact (QDo _).mp e
theorem nL {a b:Nat} (h:a=b):a<=b:=qj h
theorem nR {a b:Nat} (h:a=b):b<=a:=qj h.symm
theorem iL {a b:Int} (h:a=b):a<=b:=Cd h
theorem iR {a b:Int} (h:a=b):b<=a:=Cd h.symm
theorem oL {a b:Nat} (h:a<=b):(a:Int)<=b:=om.mpr h
theorem oZ (n:Nat):(0:Int)<=n:=dP n
theorem sL {a b:Nat} (h:b<=a):a - b+b<=a:=qj<|QDp h
theorem wF {a0 b0 c d:Nat} (h0:a0=b0) (e:c+b0=d+a0:=by ac_rfl):c=d:=by subst h0;exact QDn e
theorem mI {a b:Int} (k:Nat) (h:a<=b):(k:Int)*a<=k*b:=HW h<|dP k
theorem oM {a b:Nat} (h:(a:Int)<=b):a<=b:=om.mp h
theorem dG (x:Nat) {c:Nat} (h:0<c):x+1<=x / c*c+c:=Nat.lt_div_mul_add h
theorem sE {a b:Nat} (h:b<=a):a - b+b=a:=QDp h
theorem o4 {k:Nat} (h:k=0\/k=1\/k=2\/k=3):k<4:=h.elim (λe=>e▸by decide) λh=>h.elim (λe=>e▸by decide) λh=>h.elim (λe=>e▸by decide) λh=>h▸by decide
theorem o8 {k:Nat} (h:k=0\/k=1\/k=2\/k=3\/k=4\/k=5\/k=6\/k=7):k<8:=h.elim (λe=>e▸by decide) λh=>h.elim (λe=>e▸by decide) λh=>h.elim (λe=>e▸by decide) λh=>h.elim (λe=>e▸by decide) λh=>h.elim (λe=>e▸by decide) λh=>h.elim (λe=>e▸by decide) λh=>h.elim (λe=>e▸by decide) λh=>h▸by decide
theorem o7 {s:Nat} (h:s=1\/s=2\/s=3\/s=4\/s=5\/s=6\/s=7):s<8:=h.elim (λe=>e▸by decide) λh=>h.elim (λe=>e▸by decide) λh=>h.elim (λe=>e▸by decide) λh=>h.elim (λe=>e▸by decide) λh=>h.elim (λe=>e▸by decide) λh=>h.elim (λe=>e▸by decide) λh=>h▸by decide
theorem o7p {s:Nat} (h:s=1\/s=2\/s=3\/s=4\/s=5\/s=6\/s=7):0<s:=h.elim (λe=>e▸by decide) λh=>h.elim (λe=>e▸by decide) λh=>h.elim (λe=>e▸by decide) λh=>h.elim (λe=>e▸by decide) λh=>h.elim (λe=>e▸by decide) λh=>h.elim (λe=>e▸by decide) λh=>h▸by decide
theorem n4 {k:Nat} (h:k<4):k=0\/k=1\/k=2\/k=3:=(by decide: ∀k,k<4->(k=0\/k=1\/k=2\/k=3)) k h
theorem n8 {k:Nat} (h:k<8):k=0\/k=1\/k=2\/k=3\/k=4\/k=5\/k=6\/k=7:=(by decide: ∀k,k<8->(k=0\/k=1\/k=2\/k=3\/k=4\/k=5\/k=6\/k=7)) k h
theorem n7 {s:Nat} (h:0<s) (k:s<8):s=1\/s=2\/s=3\/s=4\/s=5\/s=6\/s=7:=(n8 k).resolve_left<|wN h
theorem Ef (a:Nat): ¬ (a:Int)<0:=jK.mpr<|oZ a
theorem Oa {a n:Nat} (h:a<=n):max 0 (min (if (a:Int)<0 then (a:Int)+(n:Nat) else (a:Int)) n)=(a:Int):=by rw[if_neg<|Ef a,Int.min_eq_left<|oL h,QDq<|oZ a]
theorem clB {a n:Nat} (h: ¬ a<=n):max 0 (min (if (a:Int)<0 then (a:Int)+(n:Nat) else (a:Int)) n)=(n:Int):=by rw[if_neg<|Ef a,Int.min_eq_right<|oL<|Nat.le_of_not_le h,QDq<|oZ n]
theorem Ld {k n:Nat} (h:k<n):(0<=(if (k:Int)<0 then (k:Int)+(n:Nat) else (k:Int))/\(if (k:Int)<0 then (k:Int)+(n:Nat) else (k:Int))<n)/\(if (k:Int)<0 then (k:Int)+(n:Nat) else (k:Int)).toNat=k:=by rw[if_neg<|Ef k];exact ⟨⟨oZ k,mD.mpr h⟩,rfl⟩
theorem mdN (L k:Nat):(L+(L+k)) / 2=L+k / 2:=by rw[<-wO,<-PV,Nat.mul_add_div<|by decide]
theorem LV (L k:Nat):((L:Int)+((L+k:Nat):Int)) / 2^bN 1=((L+k / 2:Nat):Int):=QGz (Nat.cast (R:=Int))<|mdN L k
theorem Xd (h:Nat):(((2*h+1:Nat):Int)+1) / 2=((h+1:Nat):Int):=QGz (Nat.cast (R:=Int)) (Nat.mul_div_cancel_left (h+1) (by decide):2*(h+1) / 2=h+1)
theorem qi2 {a0 b0 a1 b1 c d:Int} (h0:a0=b0) (h1:a1=b1) (e:c+(b0+b1)=d+(a0+a1):=by ac_rfl):c=d:=by subst h0;subst h1;exact (QDo _).mp e
theorem m4 {k:Nat} (h:k∈[0,1,2,3]):k<4:=(by decide: ∀k∈[0,1,2,3],k<4) k h
theorem m8 {k:Nat} (h:k∈[0,1,2,3,4,5,6,7]):k<8:=(by decide: ∀k∈[0,1,2,3,4,5,6,7],k<8) k h
theorem m7 {k:Nat} (h:k∈[1,2,3,4,5,6,7]):k<8:=(by decide: ∀k∈[1,2,3,4,5,6,7],k<8) k h
theorem m7p {k:Nat} (h:k∈[1,2,3,4,5,6,7]):0<k:=(by decide: ∀k∈[1,2,3,4,5,6,7],0<k) k h
theorem l8 {k:Nat} (h:k<8):k∈[0,1,2,3,4,5,6,7]:=(by decide: ∀k,k<8->k∈[0,1,2,3,4,5,6,7]) k h
theorem l7 {k:Nat} (h:0<k) (i:k<8):k∈[1,2,3,4,5,6,7]:=(by decide: ∀k,k<8->0<k->k∈[1,2,3,4,5,6,7]) k i h
local macro_rules | `(tactic|erw[$t:term])=> `(tactic|refine sb $t ?_)| `(tactic|erw[<- $t:term])=> `(tactic|refine cv $t ?_)
inductive V|d (x:Dat)|bor (i:Nat)|inst|emp
inductive Sl|unb|val (x:Dat)|own (xs:List Dat)|ali (j:Nat)|inst|clo (f:Nat)|dz (n:Nat)|emp
noncomputable abbrev bR:=Nat->Sl
noncomputable def upd (r:bR) (i:Nat) (s:Sl):bR:=λj=>if j=i then s else r j
noncomputable def aT:Nat:=1000000
noncomputable def bQ:Nat:=1000001
noncomputable def cT (i r:Nat):Nat:=2000000+100*i+r
inductive cQ|one (i:Nat)|tup (is:List Nat)
inductive Bi|len|sum|ma|max2|kY|min2|abs|chr|ord|rV|si|divmod
inductive Sm|lower|upper|swapcase|rstrip|qN|split|join|bits
inductive Fl|next|cont|ret (v:Dat)
noncomputable abbrev Ls:=List<|Nat×Sl
noncomputable def aL:Ls->bR
 |[],_=>.unb
 |(j,s)::l,i=>bif bt j i then s else aL l i
noncomputable def cL:Ls->Nat->Sl->Ls
 |[],i,v=>[(i,v)]
 |(j,s)::l,i,v=>bif bt j i then (j,v)::l else (j,s)::cL l i v
structure bj where
 F:Nat->List aK->aK->Prop
 H:Nat->List aK->List aK->aK->List aK->Prop
 R:Nat->List aK->List aK->aK->Prop
 L:Nat->List aK->Ls->aK->Ls->Prop
 b1:Int->Bool
 b3:Int->aK
 gi:aG->Int->Prop
 gs:aG->aG->Prop
noncomputable def m6 (x:aG):List Dat:=x.cps.toList.map λc=>.str ⟨#[c]⟩
inductive gZ (r:bR):V->List aK->Prop
 |d {xs}:gZ r (.d<|.list xs) xs
 |bor {i xs}:r i=.own xs->gZ r (.bor i) xs
inductive yB (r:bR):V->List aK->Prop
 |l {v xs}:gZ r v xs->yB r v xs
 |t {xs}:yB r (.d<|.tuple xs) xs
inductive vu (r:bR):V->List aK->Prop
 |q {v xs}:yB r v xs->vu r v xs
 |s {x}:vu r (.d<|.str x) (m6 x)
noncomputable abbrev ib (a:Int):Nat:=Builtin.Int.intBits a
inductive kS:iG->Int->Int->Int->Prop
 |add {a b}:kS .Add a b (a+b)
 |sub {a b}:kS .Sub a b (a - b)
 |mul {a b}:ib a+ib b<=134217728->kS .Mult a b (a*b)
 |fdiv {a b}:b≠0->Builtin.divisionGoesByPylong a b=false->kS .FloorDiv a b (a.fdiv b)
 |fmod {a b}:b≠0->kS .Mod a b (a.fmod b)
 |pow {a b}:0<=b->(ib a:Int)*b<=134217728->kS .Pow a b (a^b.toNat)
 |shl {a b}:0<=b->(ib a:Int)+b<=134217728->kS .LShift a b (a*2^b.toNat)
 |shr {a b}:0<=b->kS .RShift a b (a.fdiv<|2^b.toNat)
 |and {a b}:kS .BitAnd a b (Builtin.bitAnd a b)
 |or {a b}:kS .BitOr a b (Builtin.bitOr a b)
 |xor {a b}:kS .BitXor a b (Builtin.bitXor a b)
inductive fe (r:bR):iG->V->V->aK->Prop
 |int {op a b c}:kS op a b c->fe r op (.d<|.int a) (.d<|.int b) (.int c)
 |cat {x y}:x.length+y.length<=16777216->fe r .Add (.d<|.str x) (.d<|.str y) (.str<|x++y)
 |rep {x n}:x.length<=4096->n<=4096-> -4096<=n->fe r .Mult (.d<|.str x) (.d<|.int n) (.str<|Txt.mul x n)
 |mul {v xs n}:gZ r v xs->xs.length*n.toNat<=256->n<2^63-> -(2^63)<=n->fe r .Mult v (.d<|.int n) (.list (List.replicate n.toNat xs).flatten)
 |add {v w xs ys}:gZ r v xs->gZ r w ys->xs.length+ys.length<=16777216->fe r .Add v w (.list<|xs++ys)
noncomputable def mj (xs:List aK):Prop:=xs.all (fO 8)=aB
inductive qW:fU->Int->Int->Bool->Prop
 |eq {a b}:qW .Eq a b (a==b)
 |ne {a b}:qW .NotEq a b (a !=b)
 |lt {a b}:qW .Lt a b (decide (a<b))
 |le {a b}:qW .LtE a b (decide (a<=b))
 |gt {a b}:qW .Gt a b (decide (a>b))
 |ge {a b}:qW .GtE a b (decide (a>=b))
inductive rO (p:Prop):fU->Bool->Prop
 |eqT:p->rO p .Eq true
 |CU: ¬ p->rO p .Eq false
 |neT: ¬ p->rO p .NotEq true
 |nh:p->rO p .NotEq false
inductive vx (p:Prop):fU->Bool->Prop
 |qh:p->vx p .In true
 |RE: ¬ p->vx p .In false
 |Mx: ¬ p->vx p .NotIn true
 |NP:p->vx p .NotIn false
inductive gY (r:bR):fU->V->V->Bool->Prop
 |int {op a b c}:qW op a b c->gY r op (.d<|.int a) (.d<|.int b) c
 |str {op x y c}:rO (x=y) op c->gY r op (.d<|.str x) (.d<|.str y) c
 |inl {op x w ys c}:gZ r w ys->mj ys->kqdOk 8 x=true->vx (x∈ys) op c->gY r op (.d x) w c
 |tup {op xs ys c}:mj xs->mj ys->rO (xs=ys) op c->gY r op (.d<|.tuple xs) (.d<|.tuple ys) c
 |lst {op v w xs ys c}:gZ r v xs->gZ r w ys->mj xs->mj ys->rO (xs=ys) op c->gY r op v w c
inductive mY (r:bR):V->Bool->Prop
 |none:mY r (.d .none) false
 |bool {b}:mY r (.d<|.bool b) b
 |int {i:Int}:mY r (.d<|.int i) (i !=0)
 |str {x:Str}:x.length<=16777216->mY r (.d<|.str x) (x.length !=0)
 |lst {v xs}:gZ r v xs->xs.length<=16777216->mY r v (!xs.isEmpty)
noncomputable def Ec (a:Int) (r:List Int):Int:=r.foldl (λm x=>if x>m then x else m) a
noncomputable def AQ (a:Int) (r:List Int):Int:=r.foldl (λm x=>if x<m then x else m) a
inductive cn (r:bR):Bi->List V->aK->Prop
 |j7 {x:Str}:x.length<2^63->cn r .len [.d<|.str x] (.int x.length)
 |x7 {v xs}:yB r v xs->xs.length<2^63->cn r .len [v] (.int xs.length)
 |sum {v} {ns:List Int}:gZ r v (ns.map .int)->cn r .sum [v] (.int ns.sum)
 |ma {v a} {ns:List Int}:gZ r v ((a::ns).map .int)->cn r .ma [v] (.int<|Ec a ns)
 |kY {v a} {ns:List Int}:gZ r v ((a::ns).map .int)->cn r .kY [v] (.int<|AQ a ns)
 |max2 {a b:Int}:cn r .max2 [.d<|.int a,.d<|.int b] (.int<|if b>a then b else a)
 |min2 {a b:Int}:cn r .min2 [.d<|.int a,.d<|.int b] (.int<|if b<a then b else a)
 |abs {a:Int}:cn r .abs [.d<|.int a] (.int<|if a<0 then -a else a)
 |chr {a:Int}:0<=a->a<=1114111->cn r .chr [.d<|.int a] (.str ⟨#[a.toNat]⟩)
 |ord {x:Str}:x.length=1->cn r .ord [.d<|.str x] (.int (x.cps.getD 0 0:Nat))
 |rV {a:Int}:a.natAbs<10^10->cn r .rV [.d<|.int a] (.str<|Str.ofString<|toString a)
 |si {x i}:x.length<=640->PySem.intText? x=some i->cn r .si [.d<|.str x] (.int i)
 |divmod {a b:Int}:b≠0->Builtin.divisionGoesByPylong a b=false->cn r .divmod [.d<|.int a,.d<|.int b] (.tuple [.int<|a.fdiv b,.int<|a.fmod b])
inductive iu (r:bR):Sm->V->List V->aK->Prop
 |lower {x}:x.length<=5592405->iu r .lower (.d<|.str x) [] (.str<|Txt.lower x)
 |upper {x}:x.length<=5592405->iu r .upper (.d<|.str x) [] (.str<|Txt.upper x)
 |swapcase {x}:x.length<=5592405->iu r .swapcase (.d<|.str x) [] (.str<|Txt.swapcase x)
 |rstrip {x}:x.length<=16777216->iu r .rstrip (.d<|.str x) [] (.str<|Txt.rstrip x)
 |qN {x y}:x.length<=16777216->iu r .qN (.d<|.str x) [.d<|.str y] (.str<|Txt.lstripChars x y)
 |split {x y}:x.length<=16777000->y.length≠0->iu r .split (.d<|.str x) [.d<|.str y] (.list<|(Txt.split x y).map .str)
 |join {x v} {ts:List Str}:gZ r v (ts.map .str)->JoinOk x ts->iu r .join (.d<|.str x) [v] (.str<|Txt.join x ts)
 |bits {a}:iu r .bits (.d<|.int a) [] (.int<|ib a)
inductive cC (r:bR):V->Int->aK->Prop
 |str {x:Str} {k:Int}: -(x.length:Int)<=k->k<x.length->x.length<2^63->cC r (.d<|.str x) k (.str<|Txt.item x k)
 |seq {v xs k j d}:yB r v xs->(xs.length:Int)<2^63->seqIndex? k xs.length=some j->xs[j]?=some d->cC r v k d
inductive oO:V->Option Int->Prop
 |none:oO (.d .none) none
 |int {i}:oO (.d<|.int i) (some i)
noncomputable def mA (xs:List aK) (l h s:Option Int):List Dat:=(Ce (kZ l h s xs.length).1 (kZ l h s xs.length).2.1 (kZ l h s xs.length).2.2).filterMap λ(k:Nat)=>xs[k]?
inductive gH (r:bR):V->V->V->V->aK->Prop
 |str {x a b l h}:oO a l->oO b h->x.length<=16777216->gH r (.d<|.str x) a b (.d .none) (.str<|Txt.slice x l h)
 |lst {v xs a b c l h s}:gZ r v xs->oO a l->oO b h->oO c s->s≠some 0->xs.length<=16777216->gH r v a b c (.list<|mA xs l h s)
noncomputable def og (t:cQ) (x:aK) (r:bR):Option bR:=
 match t with
 |.one i=>aA<|upd r i<|.val x
 |.tup o=>match x with
  |.tuple R|.list R=>if R.length=o.length then aA ((o.zip R).foldl (λr p=>upd r p.1<|.val p.2) r) else aF
  |_=>aF
noncomputable def u7 (s:Sl):Sl:=match s with
 |.clo _=>.unb
 |s=>s
noncomputable def ja (r:bR):bR:=λi=>if i=bQ then .unb else u7 (r i)
noncomputable def fZ (t:cQ) (r:bR):bR:=match t with
 |.one i=>upd r i .unb
 |.tup o=>o.foldl (λr i=>upd r i .unb) r
noncomputable def gG (b:Bool) (x:aG):Bool:=x.cps.all λc=>if b then !(decide (c<=31)||c==127) else !(decide (c<=8)||(decide (10<=c) && decide (c<=31))||c==127)
noncomputable def kL (r:bR) (i:Nat):Option V:=match r i with|.val x=>aA (V.d x)|.own _=>aA (.bor i)|.ali j=>aA (.bor j)|.inst=>aA .inst|.emp=>aA .emp|_=>aF
theorem qK (h: ¬ j=i):bt j i=false:=uN.mpr λq=>h<|uO q
theorem fQ (l:Ls) (i:Nat) (v:Sl):aL (cL l i v)=upd (aL l) i v:=by
 funext k;induction l with
 |nil=>
  unfold upd;by_cases h:k=i
  ·refine cv h<|sb (if_pos rfl)<|(?_:cond (Nat.beq k k) _ _=_)
   rw[Cf];rfl
  ·refine sb (QGw h)<|(?_:cond (Nat.beq i k) _ _=_)
   erw[qK λq=>h q.symm];rfl
 |cons p l d=>
  obtain ⟨j,s⟩:=p;show aL (cond (bt j i) _ _) k=ite _ _ (cond (bt j k) _ _);by_cases h:j=i
  ·erw[<-h]
   rw[Cf];refine (?_:cond (bt j k) _ _=_);by_cases q:k=j
   ·erw[q]
    rw[Cf,if_pos rfl];rfl
   ·refine sb (qK λQ=>q Q.symm)<|sb (if_neg q) ?_
    rfl
  ·refine sb (qK h)<|(?_:cond (Nat.beq j k) _ (aL (cL l i v) k)=_)
   by_cases q:j=k
   ·erw[<-q]
    rw[Cf,if_neg h];rfl
   ·refine sb (qK q)<|sb d ?_
    rfl
noncomputable def xX (t:cQ) (x:aK) (l:Ls) (K:Ls->Prop):Prop:=
 match t with
 |.one i=>K<|cL l i<|.val x
 |.tup o=>match x with
  |.tuple R|.list R=>R.length=o.length/\K ((o.zip R).foldl (λl p=>cL l p.1<|.val p.2) l)
  |_=>False
theorem HL {α:Type} (f:α->Nat×Sl): ∀(ps:List α) (l:Ls),aL (ps.foldl (λl p=>cL l (f p).1 (f p).2) l)=ps.foldl (λr p=>upd r (f p).1 (f p).2) (aL l):=by
 intro O;induction O with
 |nil=>exact λl=>rfl
 |cons p ps i=>exact λl=>(i _).trans (by rw[fQ];rfl)
inductive dC {α:Type} (R:α->Prop) (K:α->Prop):Prop|mk {a}:R a->K a->dC R K
theorem vc {K:Ls->Prop} (h:xX t x l K):dC (λL=>og t x (aL l)=aA (aL L)) K:=by
 have f: ∀(o:List Nat) (R:List aK),(R.length=o.length/\K ((o.zip R).foldl (λl p=>cL l p.1<|.val p.2) l))->
  dC (λL=>(if R.length=o.length then aA ((o.zip R).foldl (λr p=>upd r p.1<|.val p.2)<|aL l) else aF)=aA (aL L)) K:=λo R h=>
  .mk (by erw[if_pos h.1];exact QGz aA (HL (λp:Nat×aK=>(p.1,.val p.2)) _ l).symm) h.2
 induction t with
 |one i=>exact .mk (QGz aA (fQ l i _).symm) h
 |tup o=>
  cases x with
  |tuple R=>exact f o R h
  |list R=>exact f o R h
  |_=>exact h.elim
noncomputable def oR (l:Ls):Ls:=l.map λp=>(p.1,bif bt p.1 bQ then .unb else u7 p.2)
theorem QDI (f:Nat->Sl->Sl) (F: ∀i,f i .unb=.unb) (l:Ls) (i:Nat):aL (l.map λp=>(p.1,f p.1 p.2)) i=f i (aL l i):=by
 induction l with
 |nil=>exact (F i).symm
 |cons p l d=>
  refine (?_:cond (bt p.1 i) _ _=f i (cond (bt p.1 i) _ _));induction q:bt p.1 i with
  |true=>erw[uO q];rfl
  |false=>exact d
theorem ZQ (l:Ls):aL (oR l)=ja (aL l):=by
 funext i;refine (QDI (λi s=>bif bt i bQ then .unb else u7 s) (λi=>by cases bt i bQ<;>rfl) l i).trans ?_;unfold ja;by_cases h:i=bQ
 ·erw[h]
  rfl
 ·refine sb (QGw h)<|sb (qK h) ?_
  rfl
noncomputable def oj (t:cQ) (l:Ls):Ls:=match t with
 |.one i=>cL l i .unb
 |.tup o=>o.foldl (λl i=>cL l i .unb) l
theorem QAu (t:cQ) (l:Ls):aL (oj t l)=fZ t (aL l):=by
 induction t with
 |one i=>exact fQ ..
 |tup o=>exact HL (λi=>(i,.unb)) o l
noncomputable def hG:V->Option Int|.d (.int i)=>aA i|_=>aF
theorem ux (h:hG v=aA i):v=.d (.int i):=by
 induction v with
 |d x=>cases x<;>cases h;rfl
 |_=>exact ay h
noncomputable def hZ {α:Type} (x:Option α) (f:α->Prop) (g:Prop):Prop:=match x with|some a=>f a|none=>g
theorem nC {α:Type} {x:Option α} {f:α->Prop} {g:Prop} (h:hZ x f g):(∃a,x=aA a/\f a)\/g:=by
 induction x with
 |none=>exact .inr h
 |some a=>exact .inl<|ax a rfl h
noncomputable def HV (op:iG) (a b:Int) (K:Int->Prop):Prop:=match op with
 |.Add=>K<|a+b
 |.Sub=>K<|a - b
 |.Mult=>ib a+ib b<=134217728/\K (a*b)
 |.FloorDiv=>b≠0/\r9 a b=aE/\K (a.fdiv b)
 |.Mod=>b≠0/\K (a.fmod b)
 |.Pow=>0<=b/\(ib a:Int)*b<=134217728/\K (a^b.toNat)
 |.LShift=>0<=b/\(ib a:Int)+b<=134217728/\K (a*2^b.toNat)
 |.RShift=>0<=b/\K (a.fdiv<|2^b.toNat)
 |.BitAnd=>K<|jL a b
 |.BitOr=>K<|uP a b
 |.BitXor=>K<|Cg a b
 |_=>False
theorem QBM {K} (h:HV op a b K):dC (kS op a b) K:=by
 induction op with
 |Add=>exact .mk .add h
 |Sub=>exact .mk .sub h
 |Mult=>exact .mk (.mul h.1) h.2
 |FloorDiv=>exact .mk (.fdiv h.1 h.2.1) h.2.2
 |Mod=>exact .mk (.fmod h.1) h.2
 |Pow=>exact .mk (.pow h.1 h.2.1) h.2.2
 |LShift=>exact .mk (.shl h.1 h.2.1) h.2.2
 |RShift=>exact .mk (.shr h.1) h.2
 |BitAnd=>exact .mk .and h
 |BitOr=>exact .mk .or h
 |BitXor=>exact .mk .xor h
 |_=>exact h.elim
noncomputable def Di (l:Ls) (op:iG) (u w:V) (K:aK->Prop):Prop:=hZ (hG u) (λa=>hZ (hG w) (λb=>HV op a b λc=>K<|.int c)<|dC (fe (aL l) op u w) K)<|dC (fe (aL l) op u w) K
theorem Lp {u w:V} {K} (h:Di l op u w K):dC (fe (aL l) op u w) K:=by
 rcases nC h with ⟨a,x,h⟩|h
 ·rcases nC h with ⟨b,e,h⟩|h
  ·induction QBM h with|mk H h=>simp only[ux x,ux e];exact .mk (.int H) h
  ·exact h
 ·exact h
noncomputable def Fn (op:fU) (a b:Int) (K:Bool->Prop):Prop:=match op with
 |.Eq=>K<|a==b
 |.NotEq=>K<|a !=b
 |.Lt=>K<|decide (a<b)
 |.LtE=>K<|decide (a<=b)
 |.Gt=>K<|decide (a>b)
 |.GtE=>K<|decide (a>=b)
 |_=>False
theorem X0 {K} (h:Fn op a b K):dC (qW op a b) K:=by
 induction op with
 |Eq=>exact .mk .eq h
 |NotEq=>exact .mk .ne h
 |Lt=>exact .mk .lt h
 |LtE=>exact .mk .le h
 |Gt=>exact .mk .gt h
 |GtE=>exact .mk .ge h
 |_=>exact h.elim
noncomputable def ve (l:Ls) (op:fU) (u w:V) (K:Bool->Prop):Prop:=hZ (hG u) (λa=>hZ (hG w) (λb=>Fn op a b K)<|dC (gY (aL l) op u w) K)<|dC (gY (aL l) op u w) K
theorem As {u w:V} {K} (h:ve l op u w K):dC (gY (aL l) op u w) K:=by
 rcases nC h with ⟨a,x,h⟩|h
 ·rcases nC h with ⟨b,e,h⟩|h
  ·induction X0 h with|mk H h=>simp only[ux x,ux e];exact .mk (.int H) h
  ·exact h
 ·exact h
noncomputable def nG (v:V) (K:Int->Prop):Prop:=hZ (hG v) K False
theorem QDH {K} (h:nG v K):dC (λi=>v=.d (.int i)) K:=(nC h).elim (λq=>q.elim λO q=>.mk (ux q.1) q.2) mE
noncomputable def zG:V->Option aG|.d (.str i)=>aA i|_=>aF
theorem Iy (h:zG v=aA i):v=.d (.str i):=by
 induction v with
 |d x=>cases x<;>cases h;rfl
 |_=>exact ay h
noncomputable def GW (v:V) (K:aG->Prop):Prop:=hZ (zG v) K False
theorem NF {K} (h:GW v K):dC (λi=>v=.d (.str i)) K:=(nC h).elim (λq=>q.elim λO q=>.mk (Iy q.1) q.2) mE
noncomputable def jv:V->Option aK|.d d=>aA d|_=>aF
noncomputable def jI (v:V) (K:aK->Prop):Prop:=hZ (jv v) K False
theorem jd {K} (h:jI v K):dC (λi=>v=.d i) K:=by
 induction v with
 |d x=>exact .mk rfl h
 |_=>exact h.elim
noncomputable def GU (l:Ls) (i:Nat) (K:V->Prop):Prop:=hZ (kL (aL l) i) K False
theorem Zo {K} (h:GU l i K):dC (λv=>kL (aL l) i=aA v) K:=(nC h).elim (λq=>q.elim λO q=>.mk q.1 q.2) mE
noncomputable def gj:Sl->Option (List aK)|.own xs=>aA xs|_=>aF
theorem M0 {i} (h:gj v=aA i):v=.own i:=by cases v<;>cases h;rfl
noncomputable def iW (l:Ls) (i:Nat) (K:List aK->Prop):Prop:=hZ (gj<|aL l i) K False
theorem i9 {K} (h:iW l i K):dC (λv=>aL l i=.own v) K:=(nC h).elim (λq=>q.elim λO q=>.mk (M0 q.1) q.2) mE
theorem d5 {p:Prop} {d:Decidable p} (h:decide p=aB):p:=QHC h
noncomputable abbrev E:=bj->Ls->(V->Ls->Prop)->Prop
noncomputable abbrev T:=bj->Ls->(Bool->Ls->Prop)->Prop
noncomputable abbrev I:=bj->Bool->Ls->(List aK->Ls->Prop)->Prop
noncomputable abbrev S:=bj->Ls->(Fl->Ls->Prop)->Prop
noncomputable def lW:List E->bj->Ls->(List V->Ls->Prop)->Prop
 |[],_,l,K=>K [] l
 |e::es,o,l,K=>e o l λv l=>lW es o l λm l=>K (v::m) l
noncomputable def zK:List V->(List aK->Prop)->Prop
 |[],K=>K []
 |v::vs,K=>jI v λd=>zK vs λA=>K<|d::A
theorem TO: ∀{vs:List V} {K},zK vs K->dC (λds=>vs=ds.map .d) K:=by
 intro vs;induction vs with
 |nil=>exact λh=>.mk rfl h
 |cons v vs i=>
  exact λh=>by
   induction jd h with
   |mk e h=>induction i h with|mk u h=>exact .mk (by simp only[e,u];rfl) h
noncomputable def dW (es:List E) (o:bj) (l:Ls) (K:List aK->Ls->Prop):Prop:=lW es o l λv l=>zK v λd=>K d l
noncomputable def two (b:Bool) (p q:Prop):Prop:=b=aB/\p\/b=aE/\q
noncomputable def aW:List T->T
 |[],_,l,K=>K aB l
 |t::ts,o,l,K=>t o l λz l=>two z (aW ts o l K)<|K aE l
noncomputable def cW (elt:E) (t:cQ) (cs:List T) (o:bj) (l:Ls):List aK->(List aK->Prop)->Prop
 |[],K=>K []
 |x::xs,K=>xX t x l λL=>aW cs o L λz A=>aL A=aL L/\two z (elt o L λv A=>aL A=aL L/\jI v λy=>cW elt t cs o l xs λY=>K<|y::Y) (cW elt t cs o l xs K)
noncomputable def rf (op:kf):Bool:=match op with|.And=>aE|.Or=>aB
noncomputable def FD (op:kf) (b:Bool) (p q:Prop):Prop:=b=rf op/\p\/b=(!rf op)/\q
noncomputable def bW (op:kf):List E->E
 |[],_,_,_=>False
 |[e],o,l,K=>e o l K
 |e::es,o,l,K=>e o l λv l=>dC (mY (aL l) v) λb=>FD op b (K v l)<|bW op es o l K
noncomputable def AZ (op:kf):List T->T
 |[],_,l,K=>K (!rf op) l
 |t::ts,o,l,K=>t o l λb l=>FD op b (K (rf op) l)<|AZ op ts o l K
noncomputable def E.none:E:=λO l K=>K (.d .none) l
noncomputable def E.bool (b:Bool):E:=λO l K=>K (.d<|.bool b) l
noncomputable def E.int (i:Int):E:=λO l K=>K (.d<|.int i) l
noncomputable def E.str (x:aG):E:=λO l K=>K (.d<|.str x) l
noncomputable def E.aC (i:Nat):E:=λO l K=>GU l i λv=>K v l
noncomputable def E.qJ (i:Nat):E:=λO l K=>iW l i λx=>K (.d<|.list x)<|cL l i .unb
noncomputable def E.aH (op:iG) (a b:E):E:=λo l K=>a o l λu l=>b o l λw l=>Di l op u w λd=>K (.d d) l
noncomputable def E.neg (a:E):E:=λo l K=>a o l λu l=>nG u λi=>K (.d<|.int (-i)) l
noncomputable def E.inv (a:E):E:=λo l K=>a o l λu l=>nG u λi=>K (.d<|.int<|QDr i) l
noncomputable def E.cmp (op:fU) (a b:E):E:=λo l K=>a o l λu l=>b o l λw l=>ve l op u w λc=>K (.d<|.bool c) l
noncomputable def E.fy (op:kf) (es:List E):E:=bW op es
noncomputable def E.ite (c:T) (a b:E):E:=λo l K=>c o l λz l=>two z (a o l K)<|b o l K
noncomputable def E.list (es:List E):E:=λo l K=>dW es o l λx l=>eV x.length 16777216=aB/\K (.d<|.list x) l
noncomputable def E.tup (es:List E):E:=λo l K=>dW es o l λx l=>eV x.length 16777216=aB/\K (.d<|.tuple x) l
noncomputable def E.comp (elt:E) (t:cQ) (it:I) (cs:List T):E:=λo l K=>it o aE l λx l=>x.length<=16777216/\cW elt t cs o (oj t<|oR l) x λY=>K (.d<|.list Y) l
noncomputable def E.au (a i:E):E:=λo l K=>a o l λu l=>i o l λk l=>nG k λk=>dC (cC (aL l) u k) λd=>K (.d d) l
noncomputable def E.dM (a L i st:E):E:=λo l K=>a o l λu l=>L o l λx l=>i o l λy l=>st o l λz l=>dC (gH (aL l) u x y z) λd=>K (.d d) l
noncomputable def E.call (f:Nat) (es:List E):E:=λo l K=>dW es o l λx l=>dC (o.F f x) λz=>K (.d z) l
inductive yD {α β:Type} (R:α->β->Prop) (K:α->β->Prop):Prop|mk {a b}:R a b->K a b->yD R K
noncomputable def E.jH (f i:Nat) (es:List E):E:=λo l K=>aL l i=.clo f/\dW es o l λx l=>yD (o.L f x l) λz l=>K (.d z) l
noncomputable def E.bi (b:Bi) (es:List E):E:=λo l K=>lW es o l λv l=>dC (cn (aL l) b v) λd=>K (.d d) l
noncomputable def FW (m:Sm) (v:V):Prop:=match m with|.bits=> ∃i,v=.d (.int i)|_=> ∃x,v=.d (.str x)
noncomputable def E.sm (m:Sm) (a:E) (es:List E):E:=λo l K=>a o l λu l=>FW m u/\lW es o l λv l=>dC (iu (aL l) m u v) λd=>K (.d d) l
noncomputable def E.qF (a:E) (y z:aG):E:=λo l K=>a o l λu l=>GW u λx=>x.length<=4096/\y.length=1/\z.length=0/\K (.d<|.str<|Cj x y z) l
noncomputable def J3 (v:V) (K:Bool->Prop):Prop:=jI v λd=>d=.none/\K aB\/d≠ .none/\K aE
noncomputable def E.iN (neg:Bool) (a:E):E:=λo l K=>a o l λu l=>J3 u λb=>K (.d<|.bool<|b !=neg) l
noncomputable def E.qE (a:E):E:=λo l K=>a o l λu l=>nG u λi=>K (.d<|.bool<|o.b1 i) l
noncomputable def E.qB (a:E):E:=λo l K=>a o l λu l=>nG u λi=>K (.d<|o.b3 i) l
noncomputable def E.pV (x:aG):E:=λo l K=>dC (o.gi x) λi=>K (.d<|.int i) l
noncomputable def Ag (v:V) (K:Prop):Prop:=match v with|.inst=>K|_=>False
theorem Au {K:Prop} (h:Ag v K):v=.inst/\K:=by cases v<;>first|exact ⟨rfl,h⟩|exact h.elim
noncomputable def E.jr (k:Nat) (a:E) (es:List E):E:=λo l K=>a o l λu l=>Ag u<|dW es o l λx l=>iW l aT λA=>aL l bQ=.emp/\yD (o.H k x A) λz s=>K (.d z)<|cL l aT<|.own s
noncomputable def E.jU (k:Nat) (a:E) (es:List E):E:=λo l K=>a o l λu l=>Ag u<|dW es o l λx l=>iW l aT λs=>dC (o.R k x s) λz=>K (.d z) l
noncomputable def E.conv (b:Bool) (a:E):E:=λo l K=>aL l 0=.inst/\a o l λu l=>GW u λx=>gG b x=aB/\K (.d<|.str x) l
noncomputable def E.fE:E:=λO l K=>aL l 0=.inst/\K (.bor aT) l
noncomputable def T.not (t:T):T:=λo l K=>t o l λb l=>K (!b) l
noncomputable def T.fy (op:kf) (ts:List T):T:=AZ op ts
noncomputable def T.aC (i:Nat):T:=λO l K=>GU l i λv=>dC (mY (aL l) v) λb=>K b l
noncomputable def T.cmp (op:fU) (a b:E):T:=λo l K=>a o l λu l=>b o l λw l=>ve l op u w λc=>K c l
noncomputable def T.iN (neg:Bool) (a:E):T:=λo l K=>a o l λu l=>J3 u λb=>K (b !=neg) l
noncomputable def T.eN (neg b:Bool) (a:E):T:=λo l K=>a o l λu l=>jI u λd=> ∃c,d=.bool c/\K ((c==b) !=neg) l
noncomputable def T.yU (a:E):T:=λo l K=>a o l λu l=>nG u λO=>K aE l
noncomputable def I.jA (a:E):I:=λo O l K=>dW [a] o l λd l=> ∃n:Int,d=[.int n]/\n<2^24/\ -(2^24)<n/\K ((bg n.toNat).map λ(i:Nat)=>cA (i:Int)) l
noncomputable def I.rv (a b:E):I:=λo O l K=>dW [a,b] o l λd l=> ∃m n:Int,d=[.int m,.int n]/\n<2^24/\ -(2^24)<n/\m<2^24/\ -(2^24)<m/\K ((bg (n - m).toNat).map λ(i:Nat)=>cA<|m+(i:Int)) l
noncomputable def I.rev (a:E):I:=λo O l K=>dW [a] o l λd l=> ∃x,d=[.list x]/\K x.reverse l
noncomputable def I.aC (i:Nat):I:=λO f l K=>match aL l i with
 |.val x=>dC (vu (aL l)<|.d x) λR=>K R l
 |.own R=>f=aE/\K R l
 |_=>False
noncomputable def I.jZ (e:E):I:=λo O l K=>e o l λv l=>jI v λd=>dC (vu (aL l)<|.d d) λx=>K x l
noncomputable def I.list (es:List E):I:=I.jZ<|.list es
noncomputable def I.au (a i:E):I:=I.jZ<|.au a i
noncomputable def I.dM (a l i st:E):I:=I.jZ<|.dM a l i st
noncomputable def I.fE:I:=λO f l K=>aL l 0=.inst/\(f=aB->aL l bQ≠ .emp)/\iW l aT λx=>K x l
inductive wM:iG->Int->Int->Int->Prop
 |add {a b}:wM .Add a b (a+b)
 |sub {a b}:wM .Sub a b (a - b)
 |shl {a b}:0<=b->(ib a:Int)+b<=134217728->wM .LShift a b (a*2^b.toNat)
 |shr {a b}:0<=b->wM .RShift a b (a.fdiv<|2^b.toNat)
noncomputable def flW (f:Fl) (p:Prop) (K:Fl->Prop):Prop:=match f with|.next=>p|f=>K f
noncomputable def sW:List S->S
 |[],_,l,K=>K .next l
 |s::ss,o,l,K=>s o l λf l=>flW f (sW ss o l K) λf=>K f l
noncomputable def BW (f:Fl) (p:Prop) (K:aK->Prop):Prop:=match f with|.ret v=>K v|_=>p
noncomputable def fW (t:cQ) (b:List S) (o:bj):List aK->Ls->(Fl->Ls->Prop)->Prop
 |[],l,K=>K .next l
 |x::xs,l,K=>xX t x l λL=>sW b o L λf l=>BW f (fW t b o xs l K) λv=>K (.ret v) l
noncomputable def wW (c:T) (b:List S) (o:bj):Nat->Ls->(Fl->Ls->Prop)->Prop
 |0,_,_=>False
 |n+1,l,K=>c o l λz l=>two z (sW b o l λf l=>BW f (wW c b o n l K) λv=>K (.ret v) l)<|K .next l
inductive xU (r:bR):V->aK->Prop
 |d {x}:xU r (.d x) x
 |bor {i xs}:i≠aT->r i=.own xs->xU r (.bor i) (.list xs)
noncomputable def vE (d:aK):Bool:=match d with
 |.tuple [.str x,.str y]=>gG aB x && gG aE y
 |_=>aE
noncomputable def S.asg (t:cQ) (e:E):S:=λo l K=>e o l λv l=>jI v λx=>xX t x l λl=>K .next l
noncomputable def S.own (i:Nat) (e:E):S:=λo l K=>e o l λv l=>jI v λx=> ∃R,x=.list R/\K .next (cL l i<|.own R)
noncomputable def Dd (op:iG) (a b:Int) (K:Int->Prop):Prop:=match op with
 |.Add=>K<|a+b
 |.Sub=>K<|a - b
 |.LShift=>0<=b/\(ib a:Int)+b<=134217728/\K (a*2^b.toNat)
 |.RShift=>0<=b/\K (a.fdiv<|2^b.toNat)
 |_=>False
theorem QBS {K} (h:Dd op a b K):dC (wM op a b) K:=by
 induction op with
 |Add=>exact .mk .add h
 |Sub=>exact .mk .sub h
 |LShift=>exact .mk (.shl h.1 h.2.1) h.2.2
 |RShift=>exact .mk (.shr h.1) h.2
 |_=>exact h.elim
noncomputable def GI:Sl->Option Int|.val (.int i)=>aA i|_=>aF
theorem Q3 {i} (h:GI v=aA i):v=.val (.int i):=by
 induction v with
 |val x=>cases x<;>cases h;rfl
 |_=>exact ay h
noncomputable def S.aug (i:Nat) (op:iG) (e:E):S:=λo l K=>hZ (GI<|aL l i) (λa=>e o l λv l=>nG v λb=>Dd op a b λc=>K .next (cL l i<|.val<|.int c)) False
noncomputable def S.expr (e:E):S:=λo l K=>e o l λv l=>jI v λx=>(x=.none\/ ∃y,x=.str y)/\K .next l
noncomputable def S.app (i:Nat) (e:E):S:=λo l K=>iW l i λO=>e o l λv l=>jI v λx=>iW l i λR=>R.length<16777216/\K .next (cL l i<|.own<|R++[x])
noncomputable def S.qM (e:E):S:=λo l K=>aL l 0=.inst/\iW l aT λO=>e o l λv l=>jI v λx=>iW l aT λR=>aL l bQ=.emp/\R.length<16777216/\K .next (cL l aT<|.own<|R++[x])
noncomputable def S.qZ (e:E):S:=λo l K=>e o l λv l=>jI v λx=> ∃Y,x=.list Y/\aL l 0=.inst/\iW l aT λR=>aL l bQ=.emp/\R.length+Y.length<=16777216/\K .next (cL l aT<|.own Y)
noncomputable def S.qe (i:Nat):S:=λO l K=>iW l i λx=>x.length<=16777216/\K .next (cL l i<|.own x.reverse)
noncomputable def S.set (i:Nat) (k e:E):S:=λo l K=>e o l λv l=>jI v λx=>iW l i λO=>k o l λj l=>nG j λj=>iW l i λR=>0<=j/\j<R.length/\R.length<2^63/\K .next (cL l i<|.own<|R.set j.toNat x)
noncomputable def S.p9 (b k:Nat):S:=λO l K=>iW l k λx=>aL l aT=.unb/\x.all vE=aB/\K .next (cL (cL (cL (cL l aT<|.own x) bQ .emp) k<|.ali aT) b .inst)
noncomputable def S.oT (b:Nat) (e:E):S:=λo l K=>aL l b=.inst/\e o l λv l=>jI v λx=>iW l aT λA=>aL l bQ=.emp/\yD (o.H 9 [x] A) λO s=>K .next (cL l aT<|.own s)
noncomputable def S.b7 (c:T) (a b:List S):S:=λo l K=>c o l λz l=>two z (sW a o l K)<|sW b o l K
noncomputable def S.e6 (t:cQ) (it:I) (b:List S):S:=λo l K=>it o aB l λx l=>fW t b o x l K
noncomputable def S.nq (c:T) (b:List S):S:=λo l K=> ∃n,wW c b o n l K
noncomputable def S.ret (e:Option E):S:=λo l K=>match e with
 |none=>K (.ret .none) l
 |some a=>a o l λv l=>dC (xU (aL l) v) λx=>K (.ret x) l
noncomputable def S.cont:S:=λO l K=>K .cont l
noncomputable def S.defn (i f:Nat):S:=λO l K=>K .next (cL l i<|.clo f)
noncomputable def S.pd (i:Nat) (es:List E):S:=λo l K=>dW es o l λx l=> ∃n:Int,x=[.int n,.int 5,.int 2048]/\n<=2048/\0<=n/\K .next (cL l i .emp)
noncomputable def S.pW (i:Nat):S:=λO l K=>aL l i=.emp/\K .next l
noncomputable def S.stuck:S:=λO O O=>False
open Sl renaming val->xN
noncomputable def Mon (X:aM->Prop) (h:bK) (x:aM->Prop) (h':bK):Prop:= ∀a o,h.get? a=aA o-> ¬ X a->h'.get? a=aA o/\ ¬ x a
theorem Mon.refl (X h):Mon X h X h:=λO O e n=>⟨e,n⟩
theorem Mon.trans {X h X' h' X'' h''} (a:Mon X h X' h') (b:Mon X' h' X'' h''):Mon X h X'' h'':=λx o e n=>b x o (a x o e n).1 (a x o e n).2
noncomputable def Led (X:aM->Prop) (h:bK) (led:List (aM×bH)):Prop:= ∀p∈led,h.get? p.1=aA p.2/\ ¬ X p.1
noncomputable def Rd (X:aM->Prop) (h:bK) (v:aI) (d:aK):Prop:= ∃l,Led X h l/\DatIn l v d
noncomputable def bB (X:aM->Prop) (h:bK) (vs:List aI) (ds:List aK):Prop:= ∃l,Led X h l/\DatAll l vs ds
section
theorem Led.mon {led} (l:Led X h led) (m:Mon X h X' h'):Led X' h' led:=λp P=>m _ _ (l p P).1 (l p P).2
theorem Rd.mon (x:Rd X h v d) (m:Mon X h X' h'):Rd X' h' v d:=let ⟨l,a,b⟩:=x;(ax l (a.mon m) b)
theorem bB.mon (x:bB X h vs ds) (m:Mon X h X' h'):bB X' h' vs ds:=let ⟨l,a,b⟩:=x;(ax l (a.mon m) b)
theorem Led.app {l l'} (a:Led X h l) (b:Led X h l'):Led X h (l++l'):=λp P=>(qk.mp P).elim (a p)<|b p
theorem bB.nil:bB X h [] []:=(ax [] (λO p=>(nomatch p)) .nil)
theorem bB.cons (a:Rd X h v d) (b:bB X h vs ds):bB X h (v::vs) (d::ds):=aS a λl c o=>aS b λL u W=>(ax (l++L) (c.app u)<|.cons (o.mono λO=>PW _)<|W.mono λO=>QDs _)
theorem bB.app (a:bB X h vs ds) (b:bB X h ws es):bB X h (vs++ws) (ds++es):=aS a λl c o=>aS b λL u d=>(ax (l++L) (c.app u)<|(o.mono λO=>PW _).append<|d.mono λO=>QDs _)
theorem bB.len (a:bB X h vs ds):vs.length=ds.length:=a.choose_spec.2.length
theorem bB.head (a:bB X h (v::vs) (d::ds)):Rd X h v d:=by refine aS a λl L o=>?_;cases o with|cons x y=>exact (ax l L x)
theorem bB.tail (a:bB X h (v::vs) (d::ds)):bB X h vs ds:=by refine aS a λl L o=>?_;cases o with|cons x y=>exact (ax l L y)
theorem bB.kN (a:bB X h vs []):vs=[]:=by refine aS a λl L d=>?_;clear a L;cases d;rfl
theorem bB.iB (a:bB X h vs (d::ds)): ∃v vs',vs=v::vs'/\Rd X h v d/\bB X h vs' ds:=by refine aS a λl L o=>?_;clear a;cases o with|cons x y=>exact ⟨_,_,rfl,(ax l L x),(ax l L y)⟩
theorem bB.get (a:bB X h vs ds) {i:Nat} (hd:ds[i]?=aA d): ∃v,vs[i]?=aA v/\Rd X h v d:=by
 induction ds generalizing vs i with
 |nil=>simp at hd
 |cons x r z=>
  refine bf a.iB λv R e p q=>sb e ?_;induction i with
  |zero=>simp at hd;exact cv hd<|(ax v rfl p)
  |succ i=>exact z q (by simpa using hd)
theorem Rd.none:Rd X h .none .none:=(ax [] (λO p=>(nomatch p)) .none)
theorem Rd.bool (b):Rd X h (.bool b) (.bool b):=(ax [] (λO p=>(nomatch p))<|.bool b)
theorem Rd.int (i t):Rd X h (.int i t) (.int i):=(ax [] (λO p=>(nomatch p))<|.int i t)
theorem Rd.str (x t):Rd X h (.str x t) (.str x):=(ax [] (λO p=>(nomatch p))<|.str x t)
theorem Rd.lst {a:aM} {n:Nat} (e:h.get? a=aA (listOf vs.toArray n)) (nx: ¬ X a) (r:bB X h vs ds):Rd X h (.ref a) (.list ds):=aS r λl L d=>(ax ((a,listOf vs.toArray n)::l) (λp P=>(bp.mp P).elim (λq=>q▸⟨e,nx⟩)<|L p)<|.list (.head _)<|d.mono λO=>zQ _)
theorem Rd.tup (e:h.get? a=aA {cls:=.type "tuple",data:=.seq vs.toArray n}) (nx: ¬ X a) (r:bB X h vs ds):Rd X h (.ref a) (.tuple ds):=aS r λl L d=>(ax ((a,{cls:=.type "tuple",data:=.seq vs.toArray n})::l) (λp P=>(bp.mp P).elim (λq=>q▸⟨e,nx⟩)<|L p)<|.tuple (.head _)<|d.mono λO=>zQ _)
theorem Rd.none_inv (x:Rd X h v .none):v=.none:=by refine aS x λl O b=>?_;clear x;cases b;rfl
theorem Rd.bool_inv (x:Rd X h v (.bool b)):v=.bool b:=by refine aS x λl O b=>?_;clear x;cases b;rfl
theorem Rd.dj (x:Rd X h v (.int i)): ∃t,v=.int i t:=by refine aS x λl O b=>?_;clear x;cases b;exact ⟨_,rfl⟩
theorem Rd.dK {y:aG} (x:Rd X h v (.str y)): ∃t,v=.str y t:=by refine aS x λl O b=>?_;clear x;cases b;exact ⟨_,rfl⟩
theorem Rd.lst_inv (x:Rd X h v (.list ds)): ∃a vs n,v=.ref a/\h.get? a=aA (listOf vs.toArray n)/\ ¬ X a/\bB X h vs ds:=by refine aS x λl L b=>?_;clear x;cases b with|list m r=>exact ⟨_,_,_,rfl,(L _ m).1,(L _ m).2,l,L,r⟩
theorem Rd.Ai (x:Rd X h v (.tuple ds)): ∃a vs n,v=.ref a/\h.get? a=aA {cls:=.type "tuple",data:=.seq vs.toArray n}/\ ¬ X a/\bB X h vs ds:=by refine aS x λl L b=>?_;clear x;cases b with|tuple m r=>exact ⟨_,_,_,rfl,(L _ m).1,(L _ m).2,l,L,r⟩
theorem Led.news {led} (l:Led X h led):uQ {objs:= #[],life:=h.life} h.objs.size h led:=λp P=>⟨(l p P).1,qm<|kg (l p P).1,by rfl⟩
end
noncomputable abbrev Ex (Ob W:aM->Prop):aM->Prop:=λa=>Ob a\/W a
structure dg (W:aM->Prop) (h:bK) (W':aM->Prop) (h':bK):Prop where
 keep: ∀a o,h.get? a=aA o-> ¬ W a->h'.get? a=aA o
 grow: ∀a,W' a->W a\/h.get? a=aF
theorem dg.refl (W h):dg W h W h:=⟨λO O e O=>e,λO=>.inl⟩
theorem dg.trans {W h W' h' W'' h''} (a:dg W h W' h') (b:dg W' h' W'' h''):dg W h W'' h'':=by
 refine ⟨λx o e n=>b.keep x o (a.keep x o e n) λq=>?_,λx q=>?_⟩
 ·refine cp (a.grow x q) (λq=>?_) λq=>?_
  ·exact n q
  ·rw[e] at q
   exact pR q
 ·refine cp (b.grow x q) (λq=>?_) λq=>?_
  ·exact a.grow x q
  ·induction e:h.get? x with
   |none=>exact .inr rfl
   |some o=>refine .inl<|QGe λn=>?_;rw[a.keep x o e n] at q;exact pR q
theorem dg.all {W h h'} (k: ∀a o,h.get? a=aA o->h'.get? a=aA o):dg W h W h':=⟨λa o e O=>k a o e,λO=>.inl⟩
theorem dg.mon {Ob W h W' h'} (a:dg W h W' h'):Mon (Ex Ob W) h (Ex Ob W') h':=λx o e n=>⟨a.keep x o e λq=>n<|.inr q,λq=>q.elim (λq=>n<|.inl q) λq=>(a.grow x q).elim (λq=>n<|.inr q) λq=>by rw[e] at q;exact pR q⟩
theorem Mon.all {X h h'} (k: ∀a o,h.get? a=aA o->h'.get? a=aA o):Mon X h X h':=λa o e n=>⟨k a o e,n⟩
structure u9 where
 CL:Nat->(aM->Prop)->bK->List (aG×aM)->aM->Prop
 HI:(aM->Prop)->bK->aM->aM->Prop
 xq: ∀{f X h X' h' cl a},CL f X h cl a->Mon X h X' h'->CL f X' h' cl a
 kG: ∀{X h X' h' x a},HI X h x a->Mon X h X' h'->HI X' h' x a
 PF:aM->Prop
 Inv:(aM->Prop)->bK->Prop
 iS: ∀{X h X' h'},Inv X h->Mon X h X' h'->(∀a,PF a->h'.get? a=h.get? a)->Inv X' h'
 iM: ∀{X h a},Inv X h->PF a-> ∃o vs,h.get? a=aA o/\o.data=.fields vs
structure Fc where
 K:aG->Option dQ
 cM:aG->Option Nat
 rn:aG->Bool
 inj: ∀x y i,cM x=aA i->cM y=aA i->x=y
 bd:Nat
 rK: ∀x i,cM x=aA i->i<bd
 Bl:bd<=1000000
 ow:Bool
 nw:Bool
 hn:Bool
 cd:Option (aM×aG)
theorem Fc.low (C:Fc) (x:aG) (i:Nat) (e:C.cM x=aA i):i<1000000:=mF (C.rK x i e) C.Bl
noncomputable def i3:Obj:={cls:=.type "dict",data:=.dict #[]}
section
variable (P:u9) (φ:Nat->Option aM) (cl:List (aG×aM)) (X:aM->Prop) (h:bK)
noncomputable def dh (i:Nat) (v:Option aI):Sl->Prop
 |.unb=>True
 |.emp=> ∃a,v=aA (.ref a)/\h.get? a=aA i3/\ ¬ X a
 |.val d=> ∃u,v=aA u/\Rd X h u d
 |.own _=> ∃a,φ i=aA a/\v=aA (.ref a)
 |.ali j=>j=aT/\ ∃a,φ j=aA a/\v=aA (.ref a)
 |.inst=> ∃x a,φ aT=aA a/\v=aA (.ref x)/\P.HI X h x a
 |.clo f=> ∃a,v=aA (.ref a)/\P.CL f X h cl a
 |.dz n=> ∃a m,v=aA (.ref a)/\h.get? a=aA (listOf ((bg n).map λk=>wQ<|(φ<|cT i k).getD 0).toArray m)/\ ¬ X a/\ ∀k,k<n->(φ<|cT i k).isSome
end
structure FR (P:u9) (G:bK) (C:Fc) (env:cg) (Ob:aM->Prop) (φ:Nat->Option aM) (W:aM->Prop) (r:bR) (h:bK):Prop where
 base: ∀b o,G.get? b=aA o->h.get? b=aA o
 fN: ∀b o,G.get? b=aA o-> ¬ Ex Ob W b
 hk:env.scope.kind=.function
 hK: ∀x,env.kindOf x=C.K x
 hg:env.globals=nM
 hb:env.builtins=ic
 rC: ∀c q,C.cd=aA (c,q)->env.code=.ref c/\env.qual=q
 loc: ∃m,h.Ns env.locals m/\ ∀x i,C.K x=aA .local->C.cM x=aA i->dh P φ env.cells (Ex Ob W) h i (m x) (r i)
 km:W env.locals
 hF: ∀x i,(C.K x=aA .cell\/C.K x=aA .free)->C.cM x=aA i-> ∃c v,env.cells.lookup x=aA c/\h.IsCell c v/\dh P φ env.cells (Ex Ob W) h i v (r i)
 pY: ∀x i c,C.K x=aA .cell->C.rn x=aB->C.cM x=aA i->env.cells.lookup x=aA c->W c
 oX: ∀x y c,env.cells.lookup x=aA c->env.cells.lookup y=aA c->x=y
 own: ∀i xs,r i=.own xs-> ∃a vs n,φ i=aA a/\h.get? a=aA (listOf vs.toArray n)/\bB (Ex Ob W) h vs xs
 gR:C.ow=aB-> ∀i xs a,r i=.own xs->φ i=aA a->i≠aT->W a
 jb: ∀xs,r aT=.own xs->r bQ=.emp-> ∀a,φ aT=aA a->W a
 lD: ∀xs,r aT=.own xs->r bQ≠ .emp-> ∀a,φ aT=aA a-> ¬ W a
 lB:(∀xs,r aT≠ .own xs)->φ aT=aF
 inj: ∀i j a,φ i=aA a->φ j=aA a->i=j
 jx: ∀i a,φ i=aA a-> ∃o,h.get? a=aA o
 dc: ∀a,Ex Ob W a-> ∃o,h.get? a=aA o
 dT: ∀a,W a-> ¬ Ob a
 inv:P.Inv (Ex Ob W) h
 pf: ∀a,P.PF a->W a
section
variable {Ob W W':aM->Prop} {φ φ':Nat->Option aM} {r:bR} {h h':bK}
theorem dh.mon {cl X X'} {i v} {sl:Sl} (x:dh P φ cl X h i v sl) (m:Mon X h X' h') (hl: ∀n,sl=.dz n-> ∀a,φ i=aA a->h'.get? a=h.get? a):dh P φ cl X' h' i v sl:=by
 induction sl with
 |val d=>exact aS x λu e q=>(ax u e<|q.mon m)
 |inst=>exact bf x λy a Y C q=>(dA y a Y C<|P.kG q m)
 |clo f=>exact aS x λa e q=>(ax a e<|P.xq q m)
 |emp=>exact cy x λa e Q s=>(ax a e<|m _ _ Q s)
 |dz n=>exact iU x λa k Y C p z=>jX a k Y (m _ _ C p).1 (m _ _ C p).2 z
 |_=>exact x
theorem FR.tu (F:FR P G C env Ob φ W r h) (k: ∀a o vs,h.get? a=aA o->o.data=.fields vs->P.PF a->h'.get? a=aA o): ∀a,P.PF a->h'.get? a=h.get? a:=λa p=>by refine cR (P.iM F.inv p) λo vs e d=>?_;simp only[e];exact k a o vs e d p
inductive Sq:Data->Prop
 |seq {vs n}:Sq (.seq vs n)
 |cell {v}:Sq (.cell v)
theorem Sq.nf (h:Sq d) (vs):d≠ .fields vs:=λe=>nomatch e▸h
theorem Sq.nd (h:Sq d) (es ep):d≠ .dict es ep:=λe=>nomatch e▸h
noncomputable def Jz (C:Fc) (env:cg) (φ:Nat->Option aM) (a:aM):Prop:=(∃i,φ i=aA a)\/ ∃x i,(C.K x=aA .cell\/C.K x=aA .free)/\C.cM x=aA i/\env.cells.lookup x=aA a
theorem FR.al (F:FR P G C env Ob φ W r h) (q:(∃i,φ i=aA a)\/Ex Ob W a): ∃o,h.get? a=aA o:=q.elim (λq=>q.elim λi q=>F.jx i a q)<|F.dc a
theorem FR.nl (F:FR P G C env Ob φ W r h) (e:h.get? a=aA o) (d: ∀es H,o.data≠ .dict es H):a≠env.locals:=λq=>aS F.loc λO n O=>dS n λB es H u R O=>d es H<|bM e (q▸u)▸R
theorem FR.np (F:FR P G C env Ob φ W r h) (e:h.get? a=aA o) (d: ∀vs,o.data≠ .fields vs): ¬ P.PF a:=λp=>cR (P.iM F.inv p) λH vs u R=>d vs<|bM e u▸R
theorem GX {m} (n:h.Ns a m) (k: ∀o,h.get? a=aA o->(∀vs,o.data≠ .fields vs)->h'.get? a=aA o):h'.Ns a m:=dS n λo K H e d q=>lz o K H (k o e λvs z=>nomatch d.symm.trans z) d q
theorem FR.chg {K:aM->Prop} (F:FR P G C env Ob φ W r h) (m:Mon (Ex Ob W) h (Ex K W) h') (k: ∀a o,h.get? a=aA o->Sq o.data->Jz C env φ a->h'.get? a=aA o) (l: ∀m,h.Ns env.locals m->h'.Ns env.locals m)
 (al: ∀a,(∃i,φ i=aA a)\/Ex K W a-> ∃o,h'.get? a=aA o) (A: ∀a,W a-> ¬ K a) (inv:P.Inv (Ex K W) h'):FR P G C env K φ W r h':=by
 have g: ∀i v sl,dh P φ env.cells (Ex Ob W) h i v sl->dh P φ env.cells (Ex K W) h' i v sl:=by
  intro i v sl x;induction sl with
  |dz n=>exact iU x λa q e1 e2 p z=>jX a q e1 (m _ _ e2 p).1 (m _ _ e2 p).2 z
  |_=>exact x.mon m nofun
 exact aS F.loc λM Y N=>⟨λb o e=>(m b o (F.base b o e)<|F.fN b o e).1,λb o e=>(m b o (F.base b o e)<|F.fN b o e).2,F.hk,F.hK,F.hg,F.hb,F.rC,⟨M,l _ Y,λx i a b=>g _ _ _<|N x i a b⟩,F.km,
  λx i a b=>bf (F.hF x i a b) λc v e1 p z=>dA c v e1 (aS p λo e d=>⟨o,k _ _ e (d▸ .cell)<|.inr<|dA x i a b e1,d⟩)<|g _ _ _ z,F.pY,F.oX,
  λi xs e=>dS (F.own i xs e) λa vs n e1 e2 p=>lz a vs n e1 (k _ _ e2 .seq<|.inl ⟨i,e1⟩)<|p.mon m,F.gR,F.jb,F.lD,F.lB,F.inj,λi a e=>al a<|.inl ⟨i,e⟩,λa e=>al a<|.inr e,A,inv,F.pf⟩
theorem FR.keeps (F:FR P G C env Ob φ W r h) (k: ∀a o,h.get? a=aA o->h'.get? a=aA o):FR P G C env Ob φ W r h':=F.chg (Mon.all k) (λa o e O O=>k a o e) (λm n=>n.keeps k) (λa q=>aV (F.al q) λo e=>⟨o,k _ _ e⟩) F.dT<|P.iS F.inv (Mon.all k)<|F.tu λa o O e O O=>k a o e
structure Kl (L:aM) (h h':bK):Prop where
 keep: ∀a o,h.get? a=aA o->a≠L->h'.get? a=aA o
 ns: ∀m,h.Ns L m->h'.Ns L m
theorem Kl.refl (L h):Kl L h h:=⟨λO O e O=>e,λO n=>n⟩
theorem Kl.trans {L h h' h''} (a:Kl L h h') (b:Kl L h' h''):Kl L h h'':=⟨λx o e n=>b.keep x o (a.keep x o e n) n,λm n=>b.ns m<|a.ns m n⟩
theorem Kl.all {L h h'} (k: ∀a o,h.get? a=aA o->h'.get? a=aA o):Kl L h h':=⟨λa o e O=>k a o e,λm n=>n.keeps k⟩
theorem Kl.push {L h} (o:bH):Kl L h (h.push o):=.all λO O e=>gS _ e
theorem FR.KL (F:FR P G C env Ob φ W r h) (k:Kl env.locals h h') (q: ∃o,h.get? a=aA o): ∃o,h'.get? a=aA o:=by
 by_cases L:a=env.locals
 ·exact aS F.loc λO n O=>oh (k.ns _ n) λo O O e O=>⟨o,L▸e⟩
 ·exact aV q λo q=>⟨o,k.keep _ _ q L⟩
theorem FR.Ka {X:aM->Prop} (F:FR P G C env Ob φ W r h) (k:Kl env.locals h h') (m:Mon (Ex Ob W) h X h'):P.Inv X h':=P.iS F.inv m<|F.tu λa o v e d O=>k.keep a o e<|F.nl e λK H q=>nomatch d.symm.trans q
theorem FR.kl (F:FR P G C env Ob φ W r h) (k:Kl env.locals h h'):FR P G C env Ob φ W r h':=by have m:Mon (Ex Ob W) h (Ex Ob W) h':=λa o e n=>⟨k.keep a o e λq=>n<|.inr<|q▸F.km,n⟩;exact F.chg m (λa o e s O=>k.keep a o e<|F.nl e s.nd) k.ns (λa q=>F.KL k<|F.al q) F.dT<|F.Ka k m
theorem FR.Lm (F:FR P G C env Ob φ W r h) (k:Kl env.locals h h'):dg W h W h':=⟨λa o e n=>k.keep a o e λq=>n<|q▸F.km,λO=>.inl⟩
theorem FR.EG (F:FR P G C env Ob φ W r h) (k:Kl env.locals h h'):Mon (Ex Ob W) h (Ex Ob W) h':=(F.Lm k).mon
theorem Zg (h:bK) (hn:h.Ns L m): ∃h₀ news,Fr h₀ L h m/\uQ h₀ L h news/\(∀p∈news,p.1<h.objs.size)/\(news.map (·.1)).Nodup/\
 (∀b o,h.get? b=aA o->b≠L->h₀.get? b=aA o\/(b,o)∈news):=by
 have hsz:(h.objs.extract 0 L).size=L:=by simp only[uR];exact (Ck _).trans<|fz<|sA (hn.lt: @LT.lt Nat _ L h.objs.size)
 refine (vP ({objs:=h.objs.extract 0 L,life:=h.life}) ((bg h.objs.size).filterMap λb=>if L<b then (h.get? b).map (b, ·) else aF) ⟨hn,λb o e=>?_,qj hsz⟩ ?_ ?_ ?_ ?_)
 ·refine bI (HX.mp e) λe1 e2=>?_
  refine HX.mpr ⟨?_,e2⟩;simp only[QDt] at e1
  split at e1
  ·simpa using e1
  ·exact ay e1
 ·intro p P
  refine aS (HY.mp P) λb hb e=>?_
  split at e
  ·rename_i K
   refine aS (lL.mp e) λo eo B=>cv B<|⟨eo,Nat.ne_of_gt K,?_⟩
   induction q:wR {objs:=h.objs.extract 0 L,life:=h.life} b with
   |none=>rfl
   |some o'=>have Q:=kg q;simp only[hsz] at Q;exact QGv (sC Q K)<|mG _
  ·exact ay e
 ·intro p P
  refine aS (HY.mp P) λb hb e=>?_
  split at e
  ·exact aS (lL.mp e) λo eo B=>cv B<|Heap.lt_size eo
  ·exact ay e
 ·have:((bg h.objs.size).filterMap λb=>if L<b then (h.get? b).map (b, ·) else aF).map (·.1)=(bg h.objs.size).filter λb=>decide (L<b) && (h.get? b).isSome:=by
   generalize bg h.objs.size=l;induction l with
   |nil=>rfl
   |cons x l i=>
    by_cases M:L<x
    ·induction ho:h.get? x with
     |none=>simp[M,ho,i]
     |some o=>simp[M,ho,i]
    ·simp[M,i]
  simp only[this];exact (List.filter_sublist).nodup List.nodup_range
 ·intro b o e n
  by_cases hb:L<b
  ·exact .inr (HY.mpr<|ax b (sD.mpr<|kg e) (by (erw[if_pos hb];erw[e]);rfl))
  ·have Y:=Nat.lt_of_le_of_ne (jM hb) n
   refine bI (HX.mp e) λe1 e2=>?_;refine .inl<|HX.mpr ⟨?_,e2⟩;simp only[QDt];simp only[uR] at hsz;erw[if_pos (by simp only[hsz];exact Y)];simpa using e1
theorem Kl.of {news t:List (aM×bH)} (hn:h.Ns L m) (hl: ∀b o,h.get? b=aA o->b≠L->h₀.get? b=aA o\/(b,o)∈news) (F:Fr h₀ L h' m) (N:uQ h₀ L h' t) (hs: ∀p∈news,p∈t):Kl L h h':=
 ⟨λa o e n=>(hl a o e n).elim (F.keep a o) λq=>(N _<|hs _ q).1,λM n'=>by
  have:=funext λx=>n'.agree hn x;simp only[this]
  exact F.ns⟩
theorem FR.less {K:aM->Prop} (F:FR P G C env K φ W r h) (k: ∀a,Ob a->K a):FR P G C env Ob φ W r h:=by have j: ∀a,Ex Ob W a->Ex K W a:=λa q=>q.imp (k a) id;have m:Mon (Ex K W) h (Ex Ob W) h:=λa o e n=>⟨e,λq=>n<|j a q⟩;exact F.chg m (λO O e O O=>e) (λO n=>n) (λa q=>F.al<|q.imp id<|j a) (λa w q=>F.dT a w<|k a q)<|P.iS F.inv m λO O=>rfl
theorem FR.NS {I a:aM} (F:FR P G C env Ob φ W r h) (f: ∃o,h'.get? I=aA o) (k:(∃o,h.get? a=aA o)-> ∃o,h'.get? a=aA o) (q:(∃i,φ i=aA a)\/Ex (λa=>Ob a\/a=I) W a): ∃o,h'.get? a=aA o:=by
 by_cases z:a=I
 ·exact z▸f
 ·exact k<|F.al<|q.imp id λq=>q.imp (λq=>q.resolve_right z) id
theorem FR.MB {I:aM} (F:FR P G C env Ob φ W r h) (i:h.get? I=aF) (a) (w:W a): ¬ (Ob a\/a=I):=λq=>q.elim (F.dT a w) λq=>aV (F.dc a<|.inr w) λO e=>cb (q▸i) e
theorem FR.apart {I:aM} (F:FR P G C env Ob φ W r h) (k: ∀a o,h.get? a=aA o->h'.get? a=aA o) (t:h.get? I=aF) (i: ∃o,h'.get? I=aA o):FR P G C env (λa=>Ob a\/a=I) φ W r h':=by have m:Mon (Ex Ob W) h (Ex (λa=>Ob a\/a=I) W) h':=λa o e n=>⟨k a o e,λq=>n<|q.imp (λq=>q.resolve_right λz=>cb (z▸t) e) id⟩;exact F.chg m (λa o e O O=>k a o e) (λm n=>n.keeps k) (λa q=>F.NS i (λq=>aV q λo e=>⟨o,k _ _ e⟩) q) (F.MB t)<|P.iS F.inv m<|F.tu λa o O e O O=>k a o e
theorem FR.turned {I:aM} (F:FR P G C env Ob φ W r h) (t:Ob I) (hn: ¬ W I) (f: ∃o vs,h.get? I=aA o/\o.data=.fields vs) (k: ∀a o,a≠I->h.get? a=aA o->h'.get? a=aA o) (i: ∃o,h'.get? I=aA o):FR P G C env Ob φ W r h':=by
 have m:Mon (Ex Ob W) h (Ex Ob W) h':=λa o e n=>⟨k a o (λq=>n<|.inl<|q▸t) e,n⟩;have N: ∀a o,h.get? a=aA o->(∀vs,o.data≠ .fields vs)->a≠I:=λa o e d q=>cR f λY v x g=>d v<|bM e (q▸x)▸g;refine F.chg m (λa o e s O=>k a o (N a o e s.nf) e) (λm n=>GX n λo e d=>k _ o (N _ o e d) e) (λa q=>?_) F.dT<|P.iS F.inv m<|F.tu λa o O e O p=>k a o (λq=>F.dT a (F.pf a p)<|q▸t) e;by_cases z:a=I
 ·exact z▸i
 ·exact aV (F.al q) λo e=>⟨o,k a o z e⟩
theorem FR.F0 (F:FR P G C env Ob φ W r h) {X Z:aM->Prop} (k: ∀a o,h.get? a=aA o-> ¬ Z a-> ¬ P.PF a->h'.get? a=aA o) (i:P.Inv X h') (z: ¬ Z a) (q: ∃o,h.get? a=aA o): ∃o,h'.get? a=aA o:=by
 by_cases p:P.PF a
 ·exact cR (P.iM i p) λo O e O=>⟨o,e⟩
 ·exact aV q λo q=>⟨o,k a o q z p⟩
theorem FR.keepsP (F:FR P G C env Ob φ W r h) (k: ∀a o,h.get? a=aA o-> ¬ P.PF a->h'.get? a=aA o) (i:P.Inv (Ex Ob W) h'):FR P G C env Ob φ W r h':=F.chg (λa o e n=>⟨k a o e λp=>n<|.inr<|F.pf a p,n⟩) (λa o e s O=>k a o e<|F.np e s.nf) (λm n=>GX n λo e d=>k _ o e<|F.np e d) (λa q=>F.F0 (Z:=λO=>False) (λa o e O p=>k a o e p) i id<|F.al q) F.dT i
theorem FR.CF (F:FR P G C env Ob φ W r h) (k: ∀a o,h.get? a=aA o-> ¬ P.PF a->h'.get? a=aA o):dg W h W h':=⟨λa o e n=>k a o e λp=>n<|F.pf a p,λO=>.inl⟩
theorem FR.push (F:FR P G C env Ob φ W r h) (o:bH):FR P G C env Ob φ W r (h.push o):=F.keeps λO O e=>gS _ e
theorem FR.forget (F:FR P G C env Ob φ W r h) (i:Nat) (d:i≠bQ) (H:i≠aT):FR P G C env Ob φ W (upd r i .unb) h:=by
 have s: ∀j v,dh P φ env.cells (Ex Ob W) h j v (r j)->dh P φ env.cells (Ex Ob W) h j v (upd r i .unb j):=by
  intro j v x;unfold upd
  split
  ·trivial
  ·exact x
 refine aS F.loc λm Y N=>⟨F.base,F.fN,F.hk,F.hK,F.hg,F.hb,F.rC,⟨m,Y,λx j a b=>s _ _<|N x j a b⟩,F.km,λx j a b=>?_,F.pY,F.oX,λj R e=>?_,λc j R a e u n=>?_,λR e u=>?_,λR e u=>?_,λe=>F.lB (λR q=>e R (by unfold upd;erw[if_neg<|lM H];exact q)),F.inj,F.jx,F.dc,F.dT,F.inv,F.pf⟩
 ·exact bf (F.hF x j a b) λc v t p z=>(dA c v t p<|s _ _ z)
 ·unfold upd at e
  split at e
  ·exact nomatch e
  ·exact F.own j R e
 ·unfold upd at e
  split at e
  ·exact nomatch e
  ·exact F.gR c j R a e u n
 ·unfold upd at e u
  split at e
  ·exact nomatch e
  ·rw[if_neg<|lM d] at u
   exact F.jb R e u
 ·unfold upd at e u
  split at e
  ·exact nomatch e
  ·rw[if_neg<|lM d] at u
   exact F.lD R e u
theorem FR.store {sl:Sl} {E:aI->aN->Prop}
 (F:FR P G C env Ob φ W (upd r i .unb) s.heap) (ht:C.cM x=aA i) (hs:C.rn x=aB) (hK:C.K x=aA .local\/C.K x=aA .cell)
 (hv: ∀h',(∀a o,s.heap.get? a=aA o->a≠env.locals->(∀c,env.cells.lookup x=aA c->a≠c)->h'.get? a=aA o)->Mon (Ex Ob W) s.heap (Ex Ob W) h'->dh P φ env.cells (Ex Ob W) h' i (aA v) sl)
 (ho: ∀xs,sl=.own xs-> ∃a vs n,φ i=aA a/\s.heap.get? a=aA (listOf vs.toArray n)/\bB (Ex Ob W) s.heap vs xs/\W a)
 (h: ∀h' tk,FR P G C env Ob φ W (upd r i sl) h'->dg W s.heap W h'->Q () {s with heap:=h',toks:=tk}):aO M A (Cm env x v) Q E s:=by
 have Y:=C.low x i ht
 have af: ∀b h',W b->(∃o,s.heap.get? b=aA o/\((∃es ep,o.data=.dict es ep)\/ ∃c,o.data=.cell c))->HZ b s.heap h'->
  (b=env.locals\/env.cells.lookup x=aA b)->
  (∃m,h'.Ns env.locals m/\(∀y,y≠x->b=env.locals-> ∀L,s.heap.Ns env.locals L->m y=L y)/\(b≠env.locals->s.heap.Ns env.locals m)/\(b=env.locals->m x=aA v))->
  (∀y c U,y≠x\/b=env.locals->env.cells.lookup y=aA c->s.heap.IsCell c U->h'.IsCell c U)->
  (∀c,b≠env.locals->env.cells.lookup x=aA c->h'.IsCell c (aA v))->
  (C.K x=aA .local->b=env.locals)->(C.K x=aA .cell->b≠env.locals)->FR P G C env Ob φ W (upd r i sl) h'/\dg W s.heap W h':=by
  intro b h' wb Z sb B hm H f aa l;have st:dg W s.heap W h':=⟨λa o e n=>(sb.2 a λq=>n<|q▸wb).trans e,λO=>.inl⟩;have mo:Mon (Ex Ob W) s.heap (Ex Ob W) h':=st.mon
  have al: ∀a,(∃o,s.heap.get? a=aA o)-> ∃o,h'.get? a=aA o:=λa h0=>h0.elim λo q=>by
   by_cases hL:a=b
   ·refine cp (B) (λg=>?_) λg=>?_
    ·exact aS hm λm ai O=>oh ai λo' O O u O=>⟨o',by simp only[hL,g];exact u⟩
    ·by_cases hb:b=env.locals
     ·exact aS hm λm ai O=>oh ai λo' O O u O=>⟨o',by simp only[hL,hb];exact u⟩
     ·exact aS (f b hb g) λo' u O=>⟨o',hL▸u⟩
   ·exact ⟨o,(sb.2 a hL).trans q⟩
  have ae: ∀a o,s.heap.get? a=aA o->(∃vs n,o.data=.seq vs n)->h'.get? a=aA o:=λa o e h0=>h0.elim λvs h0=>h0.elim λn d=>by refine (sb.2 a λq=>?_).trans e;clear wb sb B hm H f aa l;subst q;refine aS Z λo' u g=>?_;obtain rfl:=bM e u;rcases g with ⟨es,ep,d'⟩|⟨c,d'⟩<;>rw[d] at d'<;>contradiction
  have ab:=hv h' (λa o e N n2=>(sb.2 a λq=>by
   clear wb Z sb hm H f aa l;subst q;refine cp (B) (λq=>?_) λq=>?_
   ·exact N q
   ·exact n2 _ q rfl).trans e) mo
  have sk: ∀j U,j≠i->dh P φ env.cells (Ex Ob W) s.heap j U (upd r i .unb j)->dh P φ env.cells (Ex Ob W) h' j U (upd r i sl j):=by
   intro j U n y;have e1:upd r i sl j=r j:=by unfold upd;rw[if_neg n]
   have e2:upd r i .unb j=r j:=by unfold upd;rw[if_neg n]
   rw[e1];rw[e2] at y;induction hsl:r j with
   |dz k=>rw[hsl] at y;exact iU y λa q e1 e2 e3 e4=>⟨a,q,e1,(mo _ _ e2 e3).1,(mo _ _ e2 e3).2,e4⟩
   |_=>rw[hsl] at y;exact y.mon mo λn e=>by contradiction
  refine uM hm λm m1 m2 m3 m4=>aS F.loc λL N n2=>⟨⟨λq o e=>st.keep q o (F.base q o e) λw=>F.fN q o e<|.inr w,F.fN,F.hk,F.hK,F.hg,F.hb,F.rC,⟨m,m1,λy j a c=>?_⟩,F.km,λy j a c=>?_,F.pY,F.oX,λj xs e=>?_,λcc j xs a e u n=>?_,λxs e u=>?_,λxs e u=>?_,λe=>F.lB (λxs q=>e xs (by have h1:aT≠i:=λq=>(by rw[<-q] at Y;exact QGv Y<|by decide);unfold upd at q⊢;rw[if_neg h1] at q⊢;exact q)),F.inj,λj a e=>al a<|F.jx j a e,λa e=>al a<|F.dc a e,F.dT,P.iS F.inv mo (F.tu λa o vs e d O=>by
   refine (sb.2 a λq=>?_).trans e;clear wb sb B hm H f aa l m2 m3 m4;subst q;refine aS Z λo' u g=>?_;obtain rfl:=bM e u
   rcases g with ⟨es,ep,d'⟩|⟨c,d'⟩<;>rw[d] at d'<;>contradiction),F.pf⟩,st⟩
  ·by_cases t:y=x
   ·clear hs hK hv B hm H f l m2
    subst t;obtain rfl:=bM ht c;have:=aa a;rw[m4 this];unfold upd;rw[if_pos rfl];exact ab
   ·have p:j≠i:=λq=>t (C.inj y x i (q▸c) ht)
    have:=sk j (L y) p<|n2 y j a c;by_cases hb:b=env.locals
    ·rw[m2 y t hb L N]
     exact this
    ·rw[show m y=L y from (m3 hb).agree N y]
     exact this
  ·refine bf (F.hF y j a c) λc' U e1 e3 e4=>?_
   by_cases t:y=x
   ·clear hs hv B hm H aa m2 m4
    subst t;obtain rfl:=bM ht c
    have hb:b≠env.locals:=λq=>by
     refine cp (hK) (λg=>?_) λg=>?_
     ·rw[g] at a
      rcases a with a|a<;>contradiction
     ·exact l g q
    refine (dA c' (aA v) e1 (f c' hb e1) ?_);unfold upd;rw[if_pos rfl];exact ab
   ·have p:j≠i:=λq=>t (C.inj y x i (q▸c) ht)
    exact (dA c' U e1 (H y c' U (.inl t) e1 e3)<|sk j U p e4)
  ·by_cases p:j=i
   ·clear F ht hv h Y ab sk n2
    subst p;unfold upd at e;rw[if_pos rfl] at e;exact dd (ho xs e) λa vs n q1 q2 q3 q4=>⟨a,vs,n,q1,ae _ _ q2<|lY _ _ rfl,q3.mon mo⟩
   ·have u:upd r i .unb j=.own xs:=by unfold upd at e⊢;rw[if_neg p] at e⊢;exact e
    exact dS (F.own j xs u) λa vs n q1 q2 q3=>⟨a,vs,n,q1,ae _ _ q2<|lY _ _ rfl,q3.mon mo⟩
  ·by_cases p:j=i
   ·clear F ht hv h Y ab sk n2
    subst p;unfold upd at e;rw[if_pos rfl] at e;refine dd (ho xs e) λa' vs n q1 q2 q3 q4=>?_;obtain rfl:=bM q1 u;exact q4
   ·exact F.gR cc j xs a (by unfold upd at e⊢;rw[if_neg p] at e⊢;exact e) u n
  ·have h1:aT≠i:=λq=>by rw[<-q] at Y;exact QGv Y (by decide)
   have h2:bQ≠i:=λq=>by rw[<-q] at Y;exact QGv Y (by decide)
   unfold upd at e u;rw[if_neg h1] at e;rw[if_neg h2] at u;exact F.jb xs (by unfold upd;rw[if_neg h1];exact e) (by unfold upd;rw[if_neg h2];exact u)
  ·have h1:aT≠i:=λq=>by rw[<-q] at Y;exact QGv Y (by decide)
   have h2:bQ≠i:=λq=>by rw[<-q] at Y;exact QGv Y (by decide)
   unfold upd at e u;rw[if_neg h1] at e;rw[if_neg h2] at u;exact F.lD xs (by unfold upd;rw[if_neg h1];exact e) (by unfold upd;rw[if_neg h2];exact u)
 refine aS F.loc λL N n2=>cp (hK) (λz=>?_) λz=>?_
 ·refine QDu ((F.hK x).trans z) N (λh' hn sb=>?_) (by rw[F.hk];rfl)
  have Z: ∃o,s.heap.get? env.locals=aA o/\((∃es ep,o.data=.dict es ep)\/ ∃c,o.data=.cell c):=dS N λo es ep e d O=>⟨o,e,.inl<|lY es ep d⟩
  refine bI (af env.locals h' F.km Z sb (.inl rfl) (kP _ hn (λy t O ak ah=>by rw[if_neg t];exact N.agree ah y) (λq=>QGv rfl q) λO=>QGx rfl)
   (λy c U O e1 e3=>e3.sameBut sb λq=>by
    refine dS N λo es ep e d O=>aS e3 λo' u d'=>?_;simp only[q,e] at u;cases u
    rw[d'] at d;contradiction) (λc q=>QGv rfl q) (λO=>rfl) (λq=>by cases bM z q)) λR st=>?_
  exact h h' _ R st
 ·refine bf (F.hF x i (.inl z) ht) λc U e1 e3 e4=>wpAny_storeName_cell F.hk ((F.hK x).trans z) e1 e3 λh' hc sb=>?_
  have cl:c≠env.locals:=λq=>by refine dS N λo es ep e d O=>aS e3 λo' u d'=>?_;simp only[q,e] at u;cases u;rw[d'] at d;clear e4 d';contradiction
  refine bI (af c h' (F.pY x i c z hs ht e1) (by refine aS e3 λo e d=>?_;exact (ax o e<|.inr ⟨_,d⟩)) sb (.inr e1)
   (kP L (N.sameBut sb cl.symm) (λy t q=>QGv q cl) (λO=>N) λq=>QGv q cl)
   (λy c' ao t ag aj=>aj.sameBut sb λq=>by
    refine cp (t) (λt=>?_) λt=>?_
    ·exact t<|F.oX y x c (q▸ag) e1
    ·exact cl t) (λc' O ag=>by clear F ht hs hK hv ho Y af N n2 e3 e4 sb;obtain rfl:=bM e1 ag;exact hc) (λq=>by cases bM z q) (λO=>cl)) λR st=>?_
  exact h h' s.toks R st
end
theorem Runs.toks (h:Runs M Γ p t fs s e s'):s.toks<=s'.toks:=by
 induction h<;>first|exact Nat.le_refl _|assumption|(simp only[Shared.setGen] at*;omega)|omega
theorem QCD (R:Wakes M Γ p g r s C s'):s.toks<=s'.toks:=by
 have n: ∀{W N q d t f} {P:Prop},Runs M q d t f (s.setGen g .running) W N->W.quiet=aB/\P/\s'=N.setGen g W.genState->s.toks<=s'.toks:=λq e=>by rw[e.2.2];exact (Runs.toks q:)
 delta Wakes at R;revert R;generalize s.gens[g]?=x;intro R;induction x with
 |none=>exact R.elim
 |some c=>cases c with
  |fresh c=>cases r with
   |send v=>cases v with
    |none=>exact Exists.elim R λW h=>h.elim λN h=>n h.1 h.2
    |_=>exact (And.right R)▸bh _
   |throw x=>exact (And.right R)▸bh _
  |suspended=>exact Exists.elim R λW h=>h.elim λN h=>n h.1 h.2
  |_=>exact (And.right R)▸bh _
theorem Tn {α:Type} (m:ba α) (F:Nat) {Q:α->bP->aN->Prop} {E:aI->bP->aN->Prop}: ∀p s,F<=s.toks->
 f6 M Γ m (λa P d=>F<=d.toks->Q a P d) (λa P d=>F<=d.toks->E a P d) p s->f6 M Γ m Q E p s:=by
 induction m with
 |pure a=>exact λp s h w=>w h
 |raise e=>exact λp s h w=>w h
 |rule t k i=>exact i _
 | «at» q k i=>exact λp=>i _ q
 |load a q k i=>exact λp s h w=>w.elim λo w=>⟨o,w.1,i _ p s h w.2⟩
 |update a q f k i=>exact λp s h w=>⟨w.1,i _ p _ h w.2⟩
 |alloc o k i=>exact λp s h=>i _ p _ h
 |loadIfAlive a k i=>exact λp s=>i _ p s
 |point l k i=>exact i _
 |fresh k i=>exact λp s h=>i _ p _<|Ha h
 |ask k i=>exact λp s=>i _ p s
 |choose L n k i=>exact λp s h w=>⟨w.1,i _ p _ h w.2⟩
 |os q l k i=>exact λp s h=>i _ p _ h
 |call c hd g l k i=>exact λp s h w=>w.elim λr w=>w.elim λd w=>⟨r,d,w.1,i _ p d (az h<|Runs.toks w.1) w.2⟩
 |handled o k i=>exact λp s=>i _ p s
 |genState g k i=>exact λp s h w=>w.elim λo w=>⟨o,w.1,i _ p s h w.2⟩
 |newGen c k i=>exact λp s h=>i _ p _ h
 |resume g r l k i=>exact λp s h w=>w.elim λr w=>w.elim λd w=>⟨r,d,w.1,i _ p d (az h<|QCD w.1) w.2⟩
 |stack k i=>exact λp s=>i _ p s
 |thread k i=>exact λp s=>i _ p s
 |_=>exact λp s h w=>w.elim
theorem wpAny_toks {α:Type} {m:ba α} {Q:α->aN->Prop} {E:aI->aN->Prop} (h:aO M A m (λa n=>s.toks<=n.toks->Q a n) (λe n=>s.toks<=n.toks->E e n) s):aO M A m Q E s:=λL p H=>Tn m s.toks p s (bh _)<|h L p H
noncomputable def hH (n:Nat) (A:cV):Prop:=A.handled=aF/\A.depth+n<=900/\A.units+10*n+300<=9900
structure Wd where
 prog:sF
 w:bx
 P:u9
 G:bK
 n:Nat
 o:bj
 mg:aG->Option aI
 fns:List aG
 hm:Nat->Option (aG×aM)
 cN:Nat->Fc->Prop
 hc:aM
structure Fx where
 A:cV
 env:cg
 Ob:aM->Prop
structure Zs where
 s:aN
 W:aM->Prop
 φ:Nat->Option aM
noncomputable def Zs.to (z:Zs) (h:bK) (tk:fF):Zs:={z with s:={z.s with heap:=h,toks:=tk}}
structure FX (D:Wd) (C:Fc) (X:Fx) (r:bR) (z:Zs):Prop where
 F:FR D.P D.G C X.env X.Ob z.φ z.W r z.s.heap
 R:hH D.n X.A
 t:1<=z.s.toks
structure Sx (z z':Zs):Prop where
 st:dg z.W z.s.heap z'.W z'.s.heap
 t:z.s.toks<=z'.s.toks
 f:z'.φ=z.φ
 e:z'.s={z.s with heap:=z'.s.heap,toks:=z'.s.toks,drawn:=z'.s.drawn}
noncomputable def VR (P:u9) (φ:Nat->Option aM) (X:aM->Prop) (h:bK) (v:aI):V->Prop
 |.d d=>Rd X h v d
 |.bor i=> ∃a,φ i=aA a/\v=.ref a
 |.inst=> ∃x a,φ aT=aA a/\v=.ref x/\P.HI X h x a
 |.emp=>True
theorem VR.mon {P φ X h v X' h'} (x:VR P φ X h v u) (m:Mon X h X' h'):VR P φ X' h' v u:=by
 induction u with
 |d d=>exact Rd.mon x m
 |bor i=>exact x
 |inst=>exact bf x λy a Y e q=>(dA y a Y e<|P.kG q m)
 |emp=>trivial
noncomputable def Rz (X:Fx) (z:Zs) (u:aI) (d:aK):Prop:=Rd (Ex X.Ob z.W) z.s.heap u d
noncomputable def iX (X:Fx) (z:Zs) (us:List aI) (ds:List aK):Prop:=bB (Ex X.Ob z.W) z.s.heap us ds
noncomputable def Vz (D:Wd) (X:Fx) (z:Zs) (u:aI) (v:V):Prop:=VR D.P z.φ (Ex X.Ob z.W) z.s.heap u v
inductive i4 (D:Wd) (X:Fx) (z:Zs):List aI->List V->Prop
 |nil:i4 D X z [] []
 |cons {u us v vs}:Vz D X z u v->i4 D X z us vs->i4 D X z (u::us) (v::vs)
section
variable {v x y:V} {d:aK} {h':bK} {tk:fF} {Q:aI->aN->Prop} {E:aI->aN->Prop}
theorem Sx.mon {X:Fx} (s:Sx z z'):Mon (Ex X.Ob z.W) z.s.heap (Ex X.Ob z'.W) z'.s.heap:=s.st.mon
theorem Sx.refl:Sx z z:=⟨.refl _ _,bh _,rfl,rfl⟩
theorem Sx.trans (a:Sx z z') (b:Sx z' z''):Sx z z'':=⟨a.st.trans b.st,az a.t b.t,b.f.trans a.f,by (erw[b.e];exact sb a.e rfl)⟩
theorem Vz.mon (q:Vz D X z u v) (s:Sx z z'):Vz D X z' u v:=by unfold Vz;exact sb s.f<|VR.mon q s.mon
theorem Rz.mon (q:Rz X z u d) (s:Sx z z'):Rz X z' u d:=Rd.mon q s.mon
theorem iX.mon {us ds} (q:iX X z us ds) (s:Sx z z'):iX X z' us ds:=bB.mon q s.mon
theorem i4.mon {us vs} (q:i4 D X z us vs) (s:Sx z z'):i4 D X z' us vs:=by
 induction q with
 |nil=>exact .nil
 |cons a _ i=>exact .cons (a.mon s) i
theorem Sx.kl (K:FX D C X r z) (k:Kl X.env.locals z.s.heap h') (l:z.s.toks<=tk):Sx z (z.to h' tk):=⟨K.F.Lm k,l,rfl,rfl⟩
theorem FX.kl (K:FX D C X r z) (k:Kl X.env.locals z.s.heap h') (l:z.s.toks<=tk):FX D C X r (z.to h' tk):=⟨K.F.kl k,K.R,az K.t l⟩
noncomputable def KE (D:Wd) (C:Fc) (X:Fx) (r:bR) (z:Zs) (v:V) (Q:aI->aN->Prop):Prop:= ∀u Z,FX D C X r Z->Sx z Z->Vz D X Z u v->Q u Z.s
theorem KE.new (k:KE D C X r z (.d d) Q) (K:FX D C X r z) (kl:Kl X.env.locals z.s.heap h') (q:Rd (Ex X.Ob z.W) h' u d):z.s.toks<=tk->Q u {z.s with heap:=h',toks:=tk}:=λl=>k u (z.to h' tk) (K.kl kl l) (.kl K kl l) q
theorem KE.same (k:KE D C X r z (.d d) Q) (K:FX D C X r z) (q:Rd (Ex X.Ob z.W) z.s.heap u d):z.s.toks<=tk->Q u {z.s with toks:=tk}:=k.new K (.refl _ _) q
noncomputable def KB (D:Wd) (C:Fc) (X:Fx) (r:bR) (z:Zs) (b:Bool) (Q:Bool->aN->Prop):Prop:= ∀Z,FX D C X r Z->Sx z Z->Q b Z.s
theorem KB.same {Q:Bool->aN->Prop} (k:KB D C X r z b Q) (K:FX D C X r z):z.s.toks<=tk->Q b {z.s with toks:=tk}:=λl=>k (z.to z.s.heap tk) (K.kl (.refl _ _) l)<|.kl K (.refl _ _) l
inductive GJ (X:Fx) (z:Zs):aI->List aK->Prop
 |mk {a vs n xs}:z.s.heap.get? a=some (listOf vs.toArray n)->bB (Ex X.Ob z.W) z.s.heap vs xs->GJ X z (.ref a) xs
inductive Nl (X:Fx) (z:Zs):aI->List aK->Prop
 |mk {a vs n xs}:z.s.heap.get? a=some {cls:=.type "tuple",data:=.seq vs.toArray n}->bB (Ex X.Ob z.W) z.s.heap vs xs->Nl X z (.ref a) xs
theorem ND {xs} (q:Vz D X z u (.d<|.list xs)):GJ X z u xs:=dd (Rd.lst_inv q) λa v n e C O p=>sb e<| .mk C p
theorem kI {xs} (K:FX D C X r z) (q:Vz D X z u x) (e:gZ r x xs):GJ X z u xs:=by
 induction e with
 |d=>exact ND q
 |bor R=>refine dS (K.F.own _ _ R) λa m n Y v h=>aS q λb p B=>sb B ?_;clear K R q B;obtain rfl:=bM Y p;exact .mk v h
theorem G8 {xs} (q:Vz D X z u (.d<|.tuple xs)):Nl X z u xs:=dd (Rd.Ai q) λa v n e C O p=>sb e<| .mk C p
theorem gO {h:bK} {vs:List aI} (e:h.get? a=aA (listOf vs.toArray n)):h.IsList a vs.toArray:=⟨_,e,rfl,n,rfl⟩
theorem iw:mJ=16777216:=by decide
theorem FR.wA {P G C env Ob φ W r} (K:FR P G C env Ob φ W r h) (e:h.get? a=aF): ¬ Ex Ob W a:=λq=>aV (K.dc _ q) λo q=>cb e q
theorem FR.th {P G C env Ob φ W r} (K:FR P G C env Ob φ W r h): ¬ Ex Ob W h.objs.size:=K.wA<|ie<|bh _
theorem FX.fresh {vs ds} (K:FX D C X r z) (R:iX X z vs ds) (n:Nat):Rd (Ex X.Ob z.W) (z.s.heap.push<|listOf vs.toArray n) (.ref z.s.heap.objs.size) (.list ds):=Rd.lst (fG _ rfl) K.F.th<|bB.mon R<|.all λO O e=>gS _ e
theorem FX.freshT {vs ds} (K:FX D C X r z) (R:iX X z vs ds) (n:Nat):Rd (Ex X.Ob z.W) (z.s.heap.push {cls:=.type "tuple",data:=.seq vs.toArray n}) (.ref z.s.heap.objs.size) (.tuple ds):=Rd.tup (fG _ rfl) K.F.th<|bB.mon R<|.all λO O e=>gS _ e
theorem FX.led (K:FX D C X r z): ∃h m news,Fr h X.env.locals z.s.heap m/\uQ h X.env.locals z.s.heap news/\
 (∀h' n,Fr h X.env.locals h' m->uQ h X.env.locals h' n->(∀p∈news,p∈n)->Kl X.env.locals z.s.heap h')/\
 (∀h' D o n,uQ h X.env.locals h' ((D,o)::n)->(∀p∈news,p.1<D)->z.s.heap.get? D=aF):=by
 refine aS K.F.loc λm e O=>oQ (Zg z.s.heap e) λh news F N L O x=>(qV h m news F N (λh' n f l s=>Kl.of e x f l s) λh' D o n l g=>?_);have t:=l _<|.head _;induction q:z.s.heap.get? D with
 |none=>rfl
 |some H=>
  rcases x D H q t.2.1 with Q|Q
  ·exact cb t.2.2 Q
  ·exact QGv (g _ Q)<|mG _
theorem w_ {w:bx} (hb:kS op a b c) (h: ∀t tk,Q (.int c t) {s with toks:=tk}):aO (aY prog w) A (binaryOp op (.int a t)<|.int b t') Q E s:=by
 induction hb with
 |add=>exact QGf<|h _ _
 |sub=>exact QGg<|h _ _
 |mul q=>exact QGh (h _ _)<|IntMulOk.of_le (bh _) (bh _) q
 |fdiv q R=>exact floordiv_int q (h _ _)<|.inl R
 |fmod q=>exact mod_int' q<|h _ _
 |pow q R=>exact pow_int q R<|h _ _
 |shl q R=>exact lshift_int q R<|h _ _
 |shr q=>exact rshift_int q<|h _ _
 |and=>exact and_int<|h _ _
 |or=>exact or_int<|h _ _
 |xor=>exact xor_int<|h _ _
theorem bB.rep {X h} {vs:List aI} (r:bB X h vs xs): ∀n,bB X h (dY n vs).flatten (dY n xs).flatten:=by
 intro O;induction O with
 |zero=>exact bB.nil
 |succ n i=>exact r.app<|i
theorem R0 {X:aG} {k:Int} (x:X.length<=4096) (H:k<=4096) (i: -4096<=k):MulOk X k:=by
 refine ⟨by simp;exact ⟨(bE i),(bE H)⟩,λh O c=>?_,λh O=>?_⟩
 ·have:=kC (Hb (om.mpr x) H (by grind_order)<|dP _) (by decide:(4096:Nat)*(4096:Int)<=2^63 - 1)
  exact QGv (Int.le_ediv_of_mul_le (jK.mp ‹_›) this) λK=>fc K c
 ·have:X.length*k.toNat<=4096*4096:=Cn x (((Int.le_total 0<|k).elim (λu=>(oM<|bG (iL<|jN (u:0<=k)) H)) λu=>(aQ<|nL<|Int.toNat_of_nonpos (u:k<=0))))
  simp only[QGi,decide_eq_false_iff_not];simp only[iw];exact iH.mpr ‹_›
theorem TR {op:iG} (hb:fe r op x y d) (K:FX D C X r z) (M:Vz D X z u x) (Y:Vz D X z u' y) (k:KE D C X r z (.d d) Q):aO (aY D.prog D.w) X.A (binaryOp op u u') Q E z.s:=by
 induction hb with
 |int e=>exact aV (Rd.dj M) λt g=>sb g<|aV (Rd.dj Y) λU g=>sb g<|wpAny_toks<|w_ e λt i=>k.same K<|.int _ _
 |cat e=>exact aV (Rd.dK M) λt g=>sb g<|aV (Rd.dK Y) λU g=>sb g<|wpAny_toks<|PyProof.Rows.add_str (λt i=>k.same K<|.str _ _)<|iw▸e
 |rep R Z l=>exact aV (Rd.dK M) λt g=>sb g<|aV (Rd.dj Y) λU g=>sb g<|wpAny_toks<|SB.mul (R0 R Z l) λt i=>k.same K<|.str _ _
 |mul e R Z l=>
  refine aV (Rd.dj Y) λU g=>sb g ?_;induction kI K M e with
  |mk B v=>refine dd K.led λh m a F N H q=>wpAny_toks<|KMa.mul F N (gO B) l Z (v.len▸R) rfl λD L f n P=>?_;have b:=H _ _ f n λp=>zQ _;exact k.new K b<|Rd.lst (n _<|.head _).1 (K.F.wA<|q _ _ _ _ n P)<|(v.rep _).mon<|K.F.EG b
 |add R Z o=>
  induction kI K M R with
  |mk B v=>
   induction kI K Y Z with
   |mk c j=>refine dd K.led λh m a F N H q=>wpAny_toks (add_lists F N (gO B) (gO c) (λL f n=>?_) (by simp only[iw,v.len,j.len];exact o));have b:=H _ _ f n λp=>zQ _;exact k.new K b<|Rd.lst (n _<|.head _).1 K.F.th<|(v.app j).mon<|K.F.EG b
theorem GS {X:aM->Prop} {v:aI} {k:Nat} (R:Rd X h v d) (o:fO k d=aB): ∃as,zR h v (wU d) as:=aS R λL l i=>kqd_in l.news k i o
theorem F8 {X:aM->Prop} {vs:List aI} {k:Nat} (e:h.get? a=aA (listOf vs.toArray k)) (R:bB X h vs xs) (ok:mj xs): ∃as,zR h (.ref a) (wU<|.list xs) as:=aS R λled l i=>aV (kqd_all l.news 8 i<|dR.mp ok) λas q=>⟨_,reads_list_at e rfl rfl q⟩
theorem rM (hd:fO 9 d=aB):QDv (wU d)=true:=by have l:=kqd_lay 9 d hd;unfold QDv;simp only[l.1,Co];exact QHD (az l.2<|by decide)
theorem WZ (R:hH n A):A.units+1+64<cLine:=by have:=R.2.2;refine (?_:A.units+1+64<9900);exact aQ this
theorem BD (h:u+1+64<c):u+64<c:=sA ‹_›
theorem tf {p:Prop} (h:b=aB↔p):(p->b=aB)/\(¬ p->b=aE):=⟨h.mpr,λn=>uN.mpr λq=>n<|h.mp q⟩
theorem JH {w:bx} {A:cV} {s:aN} {v P:aI} {p:Prop} {c:Bool} {as bs:List aM} (r:zR s.heap v (wU d) as) (R:zR s.heap P (wU e) bs) (hd:fO 9 d=aB) (F:fO 9 e=aB) (hu:A.units+1+64<cLine)
 (o:rO p op c) (a:d=e↔p) (h:Q (.bool c) s):aO (aY prog w) A (sG op v P) Q E s:=by
 have k:=tf<|(kqd_eqv 9 d e 9 hd F).trans a;induction o with
 |eqT q=>exact eq_dataH r R (rM hd) (rM F) (BD hu)<|k.1 q▸h
 |CU q=>exact eq_dataH r R (rM hd) (rM F) (BD hu)<|k.2 q▸h
 |neT q=>exact ne_dataH r R (rM hd) (rM F) (BD hu)<|k.2 q▸h
 |nh q=>exact ne_dataH r R (rM hd) (rM F) (BD hu)<|k.1 q▸h
theorem SE {w:bx} {A:cV} {s:aN} {v F:aI} {c:Bool} {as bs:List aM} (r:zR s.heap F (wU<|.list ys) as) (R:zR s.heap v (wU d) bs) (q1:mj ys) (q2:fO 8 d=aB) (hu:A.units+1+64<cLine)
 (o:vx (d∈ys) op c) (h:Q (.bool c) s):aO (aY prog w) A (sG op v F) Q E s:=by
 have k:=tf<|kqd_any ys d (dR.mp q1) q2;have l:=kqd_lay 8 _ q2;have g:=ig (PU (az (Cp (PyData.depthAll<|kqdPs ys) _)<|az l.2<|by decide) _) hu;have L:=(kqd_layL<|dR.mp q1).1;induction o with
 |qh q=>exact QDw r R L l.1 g<|k.1 q▸h
 |RE q=>exact QDw r R L l.1 g<|k.2 q▸h
 |Mx q=>exact QDx r R L l.1 g<|k.2 q▸h
 |NP q=>exact QDx r R L l.1 g<|k.1 q▸h
theorem Kq {w:bx} (hb:qW op a b c) (h: ∀tk,Q (.bool c) {s with toks:=tk}):aO (aY prog w) A (sG op (.int a t)<|.int b t') Q E s:=by
 induction hb with
 |eq=>exact QGj<|h _
 |ne=>exact QGk<|h _
 |lt=>exact QGl<|h _
 |le=>exact QGm<|h _
 |gt=>exact QGn<|h _
 |ge=>exact QGo<|h _
theorem AL {op:fU} (hb:gY r op x y c) (K:FX D C X r z) (M:Vz D X z u x) (Y:Vz D X z u' y) (k: ∀tk,Q (.bool c) {z.s with toks:=tk}):aO (aY D.prog D.w) X.A (sG op u u') Q E z.s:=by
 have U:=WZ K.R;induction hb with
 |int e=>exact aV (Rd.dj M) λt g=>sb g<|aV (Rd.dj Y) λN g=>sb g<|Kq e k
 |str e=>
  refine aV (Rd.dK M) λt g=>sb g<|aV (Rd.dK Y) λN g=>sb g ?_
  clear K U M Y g;induction e with
  |eqT q=>exact QDy<|(QGy).mpr q▸k _
  |CU q=>exact QDy<|beq_eq_false_iff_ne.mpr q▸k _
  |neT q=>exact QDz<|(bne_iff_ne).mpr q▸k _
  |nh q=>exact QDz<|q▸(QHE (α:=aG) _).symm▸k _
 |inl e o d i=>
  induction kI K Y e with
  |mk b B=>exact aV (F8 b B o) λas f=>aV (GS M d) λa F=>SE f F o d U i<|k _
 |tup o d e=>exact aV (GS (k:=9) M o) λas f=>aV (GS (k:=9) Y d) λa F=>JH f F o d U e ⟨λe=>by clear o d M Y k f F;cases e;rfl,λe=>by exact sb e rfl⟩<|k _
 |lst L n o d e=>
  induction kI K M L with
  |mk H v=>
   induction kI K Y n with
   |mk b B=>exact aV (F8 H v o) λas f=>aV (F8 b B d) λa F=>JH f F o d U e ⟨λe=>by clear v L o B n d f F;clear H M b Y;cases e;rfl,λe=>by exact sb e rfl⟩<|k _
end
section
variable {v x y:V} {d:aK} {h':bK} {tk:fF} {Q:aI->aN->Prop} {E:aI->aN->Prop}
theorem KE.tr (k:KE D C X r z v Q) (s:Sx z z'):KE D C X r z' v Q:=λu Z K n q=>k u Z K (s.trans n) q
theorem KB.tr {Q:Bool->aN->Prop} (k:KB D C X r z b Q) (s:Sx z z'):KB D C X r z' b Q:=λZ K n=>k Z K<|s.trans n
theorem Vn {vs:List aI} {xs:List aK} (h:vs.length=xs.length):(!vs.toArray.isEmpty)= !xs.isEmpty:=by
 cases vs<;>cases xs<;>first|rfl|contradiction
theorem MJ {X:aM->Prop} {vs:List aI} (R:bB X h vs xs) (l:xs.length<=n):vs.toArray.size<=n:=by simp! only[gm,R.len];exact l
theorem Fv {X:aM->Prop} {vs:List aI} (R:bB X h vs xs) (l:xs.length<2^63):(vs.toArray.size:Int)<2^63:=by simp! only[gm,R.len];exact bE<|oL l
theorem ltI {n:Nat} (l:n<2^63):(n:Int)<2^63:=bE<|oL l
theorem US (l:n<=16777216):n<2^63:=ig ‹_› (by decide)
theorem yA {Q:Bool->aN->Prop} (hb:mY r x b) (K:FX D C X r z) (M:Vz D X z u x) (k:KB D C X r z b Q):aO (aY D.prog D.w) X.A (Hc u) Q E z.s:=by
 refine wpAny_toks ?_;induction hb with
 |none=>exact sb (Rd.none_inv M)<|PyProof.Rows.truthy_none<|k.same K
 |bool=>exact sb (Rd.bool_inv M)<|wpAny_truthy_bool<|k.same K
 |int=>exact aV (Rd.dj M) λt g=>sb g<|PyProof.Rows.truthy_int<|k.same K
 |str q=>
  refine aV (Rd.dK M) λt g=>sb g<|PySem.P.truthy_str ((λW=>(fc W<|oL q))) ?_
  rw[show∀n:Nat,((n:Int) !=0)=(n !=0) from λn=>by rw[uS];simp];exact k.same K
 |lst e q=>
  induction kI K M e with
  |mk Y v=>refine wpAny_truthy_list (gO Y) (Fv v<|US q) ?_;rw[Vn v.len];exact k.same K
theorem K8 {X:aM->Prop}: ∀{ns:List Int} {vs:List aI},bB X h vs (ns.map .int)->IntsAre vs ns:=by
 intro ns;induction ns with
 |nil=>exact @λvs R=>sb R.kN<| .nil
 |cons i ns d=>exact @λvs R=>by exact bf R.iB λv b B p q=>sb B<|aV p.dj λt e=>sb e<| .cons i t<|d q
theorem YB {X:aM->Prop}: ∀{ns:List aG} {vs:List aI},bB X h vs (ns.map .str)-> ∃l,vs=wV l/\l.map (·.1)=ns:=by
 intro ns;induction ns with
 |nil=>exact @λvs R=>sb R.kN<|(ax [] rfl rfl)
 |cons i x d=>exact @λvs R=>by exact bf R.iB λv b B p q=>sb B<|aV p.dK λt e=>sb e<|aS (d q) λl e B=>sb e<|cv B<|(ax ((i,t)::l) rfl rfl)
theorem Mz (lt:Int->Int->Prop) [DecidableRel lt] (le:Int->Int->Prop) (H: ∀a,le a a) (p: ∀a b,lt a b->le a b) (Q: ∀a b, ¬ lt a b->le b a) (t: ∀a b c,le a b->le b c->le a c):
 ∀l a,(l.foldl (λm x=>if lt m x then x else m) a)∈a::l/\ ∀b∈a::l,le b<|l.foldl (λm x=>if lt m x then x else m) a:=by
 intro O;induction O with
 |nil=>exact λa=>⟨.head _,λb hb=>by cases hb with|head=>exact H _|tail _ h=>contradiction⟩
 |cons c l d=>
  exact λa=>by
   refine bI (d<|if lt a c then c else a) λi1 i=>?_
   simp! only[oo]
   have u:=i _<|.head _
   have A:le a (if lt a c then c else a)/\le c (if lt a c then c else a):=by
    split
    ·exact ⟨p _ _ ‹_›,H _⟩
    ·exact ⟨H _,Q _ _ ‹_›⟩
   refine ⟨?_,λb hb=>?_⟩
   ·refine cp (bp.mp i1) (λq=>?_) λq=>?_
    ·simp! only[q]
     split
     ·exact .tail _<|.head _
     ·exact .head _
    ·exact .tail _<|.tail _ q
   ·cases hb with
    |head=>exact t _ _ _ A.1 u
    |tail _ hb=>
     cases hb with
     |head=>exact t _ _ _ A.2 u
     |tail _ hb=>exact i _<|.tail _ hb
theorem QAt {ns:List Int} (A:M∈a::ns) (H: ∀b,b∈a::ns->b<=M):M=Ec a ns:=bI (Mz (λm x=>x>m) (· <= ·) (λO=>uT _) (λO O=>bw) (λO O h=>jK.mp h) (λO O O=>kC) ns a) λp i=>uU (i _ A)<|H _ p
theorem UR {ns:List Int} (A:M∈a::ns) (H: ∀b,b∈a::ns->M<=b):M=AQ a ns:=bI (Mz (λm x=>x<m) (· >= ·) (λO=>uT _) (λO O=>bw) (λO O h=>jK.mp h) (λO O O h o=>kC o h) ns a) λp i=>uU (H _ p)<|i _ A
theorem i4.one (q:i4 D X z us [v]): ∃u,us=[u]/\Vz D X z u v:=by cases q with|cons a b=>cases b;exact (ax _ rfl a)
theorem i4.two {us:List aI} (q:i4 D X z us [x,y]): ∃u u',us=[u,u']/\Vz D X z u x/\Vz D X z u' y:=by
 cases q with|cons a b=>cases b with|cons b c=>cases c;exact (dA _ _ rfl a b)
theorem i4.zero (q:i4 D X z us []):us=[]:=by cases q;rfl
noncomputable def tZ (b:Bi):Value:=match b with
 |.len=>.builtin "len" |.sum=>.builtin "sum" |.ma=>.builtin "max" |.max2=>.builtin "max" |.kY=>.builtin "min" |.min2=>.builtin "min" |.abs=>.builtin "abs" |.chr=>.builtin "chr" |.ord=>.builtin "ord"
 |.rV=>.type "str" |.si=>.type "int" |.divmod=>.builtin "divmod"
theorem NJ {id:String} {ns:List Int} {G:Int} (e:gZ r x ((a::ns).map .int)) (K:FX D C X r z) (M:Vz D X z u x) (k:KE D C X r z (.d<|.int G) Q)
 (P: ∀{p:aM} {vs:List aI} {h:bK} {m:aG->Option aI} {news:List (aM×bH)} {Q:aI->aN->Prop} {E:aI->aN->Prop},Fr h X.env.locals z.s.heap m->uQ h X.env.locals z.s.heap news->z.s.heap.IsList p vs.toArray->IntsAre vs (a::ns)->
  (∀h' t tk,Fr h X.env.locals h' m->uQ h X.env.locals h' news->Q (.int G t) {z.s with heap:=h',toks:=tk})->aO (aY D.prog D.w) X.A (call (.builtin id) [.ref p]) Q E z.s):aO (aY D.prog D.w) X.A (call (.builtin id) [u]) Q E z.s:=by
 cases kI K M e with
 |mk Y v=>exact dd K.led λh m news F N b Z=>wpAny_toks<|P F N (gO Y) (K8 v) λh' t tk f n=>k.new K (b _ _ f n λp L=>L)<|.int _ _
theorem Rb {b:Bi} {vs:List V} {us:List aI} (hb:cn r b vs d) (K:FX D C X r z) (x:i4 D X z us vs) (k:KE D C X r z (.d d) Q):aO (aY D.prog D.w) X.A (call (tZ b) us) Q E z.s:=by
 induction hb with
 |j7 h=>exact aS x.one λu g q=>sb g<|aV (Rd.dK q) λt g=>sb g<|wpAny_toks<|SBL.len (ltI h)<|k.same K<|.int _ _
 |x7 e h=>
  refine aS x.one λu g q=>sb g ?_;clear x;clear g;induction e with
  |l e=>
   induction kI K q e with
   |mk p v=>refine wpAny_toks<|QGp (gO p) (Fv v h) ?_;exact sb gm<|sb v.len<|k.same K<|.int _ _
  |t=>
   cases G8 q with
   |mk p v=>refine wpAny_toks<|QGq ⟨_,p,rfl,_,rfl⟩ (Fv v h) ?_;exact sb gm<|sb v.len<|k.same K<|.int _ _
 | @sum _ ns e=>
  refine aS x.one λu g q=>sb g ?_;cases kI K q e with
  |mk p v=>
   have i:=K8 v;refine aV i.allInts.items λys W=>wpAny_toks<|sum_intListG K.R.1 (W▸gO p) λU Y t' m=>?_;have:preSum (numAt ys) ys.size=ns.sum:=by rw[preSum_eq,uV (by simp),<-nums_intItems,<-W,<-i.numsOf]
   exact sb this<|k.new K (.all m)<|.int _ _
 |ma e=>exact aS x.one λu g q=>sb g<|NJ e K q k λF N j i h=>max_list_N K.R.1 F N j i (PX _) λU M t Y f n o Z=>QAt o Z▸h U t Y f n
 |kY e=>exact aS x.one λu g q=>sb g<|NJ e K q k λF N j i h=>min_list_N K.R.1 F N j i (PX _) λU M t Y f n o Z=>UR o Z▸h U t Y f n
 |max2=>exact bf x.two λu u' B o Z=>sb B<|aV (Rd.dj o) λt g=>sb g<|aV (Rd.dj Z) λt' g=>sb g<|wpAny_toks (max_two_ints K.R.1 λU Y m=>k.new K (.all m)<|by split<;>exact .int _ _)
 |min2=>exact bf x.two λu u' B o Z=>sb B<|aV (Rd.dj o) λt g=>sb g<|aV (Rd.dj Z) λt' g=>sb g<|wpAny_toks (min_two_ints K.R.1 λU Y m=>k.new K (.all m)<|by split<;>exact .int _ _)
 |abs=>exact aS x.one λu g q=>sb g<|aV (Rd.dj q) λt g=>sb g<|wpAny_toks<|PyProof.Rows.call_abs_int λO O=>k.same K<|.int _ _
 |chr L H=>exact aS x.one λu g q=>sb g<|aV (Rd.dj q) λt g=>sb g<|wpAny_toks<|chr_of_range L H<|k.same K<|.str _ _
 |ord h=>exact aS x.one λu g q=>sb g<|aV (Rd.dK q) λt g=>sb g<|wpAny_toks<|ord_of_one h<|k.same K<|.int _ _
 | @rV a c=>
  refine aS x.one λu g q=>sb g<|aV (Rd.dj q) λt g=>sb g<|wpAny_toks<|PySem.P.str_of_int ?_<|k.same K<|.str _ _
  by_cases h0:a.natAbs=0
  ·erw[h0]
   decide
  ·exact (Nat.log2_lt h0).mpr (mF c<|by decide+kernel)
 |si h e=>exact aS x.one λu g q=>sb g<|aV (Rd.dK q) λt g=>sb g<|wpAny_toks<|KIN.call_text e h<|k.same K<|.int _ _
 | @divmod a b L H=>exact bf x.two λu u' B o Z=>sb B<|aV (Rd.dj o) λt g=>sb g<|aV (Rd.dj Z) λt' g=>sb g<|wpAny_toks<|divmod_int L (k.new K (Kl.push _)<|K.freshT (.cons (.int _ _)<|.cons (.int _ _) .nil) 0)<|.inl H
noncomputable def HQ (b:Sm):String:=match b with
 |.lower=> "str.lower" |.upper=> "str.upper" |.swapcase=> "str.swapcase" |.rstrip=> "str.rstrip" |.qN=> "str.lstrip" |.split=> "str.split" |.join=> "str.join" |.bits=> "int.bit_length"
noncomputable def BG (b:Sm):Str:=match b with
 |.lower=> "lower" |.upper=> "upper" |.swapcase=> "swapcase" |.rstrip=> "rstrip" |.qN=> "lstrip" |.split=> "split" |.join=> "join" |.bits=> "bit_length"
theorem Q7 {X:aM->Prop}: ∀l:List (aG×fF),bB X h (wV l)<|(l.map (·.1)).map sH:=by
 intro O;induction O with
 |nil=>exact bB.nil
 |cons O l i=>obtain ⟨x,t⟩:=O;exact bB.cons (.str x t)<|i
theorem QAa {vs:List V} (hb:iu r b x vs d) (K:FX D C X r z) (M:Vz D X z u x) (v:i4 D X z us vs) (k:KE D C X r z (.d d) Q):aO (aY D.prog D.w) X.A (call (.builtin<|HQ b)<|u::us) Q E z.s:=by
 refine wpAny_toks ?_;cases hb with
 |bits=>exact sb v.zero<|aV (Rd.dj M) λt g=>sb g<|call_int_bit_length<|k.same K<|.int _ _
 |lower h=>exact sb v.zero<|aV (Rd.dK M) λt g=>sb g<|SCL.lower h λO=>k.same K<|.str _ _
 |upper h=>exact sb v.zero<|aV (Rd.dK M) λt g=>sb g<|SCL.upper h λO=>k.same K<|.str _ _
 |swapcase h=>exact sb v.zero<|aV (Rd.dK M) λt g=>sb g<|SCL.swapcase h λO=>k.same K<|.str _ _
 |rstrip h=>exact sb v.zero<|aV (Rd.dK M) λt g=>sb g<|SC.rstrip (λO O=>k.same K<|.str _ _)<|iw▸h
 |qN h=>exact aS v.one λU g q=>sb g<|aV (Rd.dK M) λt g=>sb g<|aV (Rd.dK q) λc g=>sb g<|SC.lstripChars (λO O=>k.same K<|.str _ _)<|iw▸h
 |split L i=>
  refine aS v.one λU g q=>sb g<|aV (Rd.dK M) λt g=>sb g<|aV (Rd.dK q) λc g=>sb g<|dd K.led λH m a F N B P=>KSpl.split1 F N (by simpa -iota using i) (λD l o W e O f n R=>?_) (by erw[iw];exact aQ L)
  exact k.new K (B _ _ f n λp=>zQ _)<|Rd.lst (n _<|.head _).1 (K.F.wA<|P _ _ _ _ n R)<|e▸Q7 l
 |join e h=>
  refine aS v.one λU g q=>sb g<|aV (Rd.dK M) λt g=>sb g ?_
  cases kI K q e with
  |mk Y Z=>refine aS (YB Z) λl g j=>?_;clear Z;subst g;exact SC.join (gO Y) j h λO O=>k.same K<|.str _ _
theorem LM {k:Int} (e:wX k n=aA j) (s:j<n): -(n:Int)<=k/\k<n/\(0<=k->k.toNat=j)/\(k<0->(k+(n:Int)).toNat=j):=by
 unfold wX at e;by_cases h0:k<0
 ·simp! only[h0,if_true] at e
  split at e
  ·rename_i c
   simp! only[gn,decide_eq_true_eq] at c
   cases e
   exact ⟨(bE c.1),⟨(bG c.1<|mI 2 h0),⟨(λx0=>(fc h0 x0)),(λx0=>(by simp+arith))⟩⟩⟩
  ·exact ay e
 ·simp! only[h0,if_false] at e
  split at e
  ·rename_i c
   simp! only[gn,decide_eq_true_eq] at c
   cases e
   exact ⟨(bG (QEA h0)<|oZ<|n),⟨c.2,⟨(λx0=>(by simp+arith)),(λx0=>(fc x0<|QEA h0))⟩⟩⟩
  ·exact ay e
theorem R8 (hb:cC r x i d) (F: ∀o i,wY L aE o i=wZ [o,i] (wc o i)) (K:FX D C X r z) (M:Vz D X z u x) (k:KE D C X r z (.d d) Q):aO (aY D.prog D.w) X.A (QEB h L u<|.int i t) Q E z.s:=by
 refine wpAny_toks ?_;cases hb with
 |str Y N p=>refine aV (Rd.dK M) λt g=>?_;subst g;exact bf (SB.item (by simp -iota [fitsSsize];exact ⟨(bG Y<|oL p),(bG N<|oL p)⟩) (charAt_isSome Y N)<|k.same K<|.str _ _) λT id hl U a=>zS U hl a<|F _ _
 |seq e Z H ex=>
  have j:=(zT.mp ex).1;cases e with
  |l e=>
   cases kI K M e with
   |mk e1 e2=>
    refine jy (LM H j) λq B m f=>aS (e2.get ex) λv ev R=>zS (gO e1).typeIs PY.lookup ?_<|F _ _;rw[<-zU] at ev;by_cases h0:0<=i
    ·exact QEC (gO e1) h0 (bG Z B) (m h0▸ev)<|k.same K R
    ·have h0:=zP.mp h0
     exact wpAny_getItem_list_neg (gO e1) h0 (by simp! only[gm,e2.len];assumption) (bG Z q) (by simp! only[gm,e2.len,f h0];exact ev)<|k.same K R
  |t=>
   cases G8 M with
   |mk e1 e2=>exact jy (LM H j) λq B O O=>aS (e2.get ex) λv ev R=>zS (ax _ e1 rfl) slot_tuple_getitem.lookup (getItem_tuple ⟨_,e1,rfl,_,rfl⟩ (bG Z q) (bG Z B) (by simp! only[gm,e2.len];exact H) (by erw[zU];exact ev)<|k.same K R)<|F _ _
theorem yd (e:oO v l) (q:Vz D X z u v): ∃p:Option (Int×fF),u=partValue p/\p.map (·.1)=l/\IsPart u l:=by
 induction e with
 |none=>exact sb (Rd.none_inv q)<|(gc none rfl rfl .none)
 |int=>exact aV (Rd.dj q) λt g=>sb g<|(gc (some (_,t)) rfl rfl (.int _ _))
theorem bB.picked {X:aM->Prop} {vs:List aI} (R:bB X h vs xs): ∀ks:List Nat,bB X h (ks.filterMap λk=>vs[k]?)<|ks.filterMap λk=>xs[k]?:=by
 intro O;induction O with
 |nil=>exact bB.nil
 |cons k ks i=>
  exact by
   simp! only[nN,nN]
   induction e:xs[k]? with
   |none=>erw[(by rw[QED,R.len];exact QED.mp e:vs[k]?=aF)];exact i
   |some d=>
    refine aS (R.get e) λv m r=>?_
    simp! only[m]
    exact bB.cons r<|i
noncomputable def vU (a b c:aI):Obj:={cls:=.type "slice",data:=.fields #[a,b,c]}
theorem Ui {R m vs:V} (e:gH r v R m vs d) (K:FX D C X r z) (N:Vz D X z u v) (hl:Vz D X z U R) (H:Vz D X z c m) (hs:Vz D X z us vs) (b: ∀o i,∃q,wY L aE o i=wZ q (wc o i)) (k:KE D C X r z (.d d) Q):
 aO (aY D.prog D.w) X.A (QEB p L u<|.ref z.s.heap.objs.size) Q E {z.s with heap:=z.s.heap.push<|vU U c us}:=by
 refine aV (b u<|.ref z.s.heap.objs.size) λq M=>wpAny_toks ?_;clear b;induction e with
 | @str Y _ _ l h n x hz=>
  refine cy (yd n hl) λj g B O=>sb g ?_;subst B;refine cy (yd x H) λP g B O=>?_;subst g;clear x hl n H;subst B;refine aV (Rd.dK N) λt g=>?_;subst g;cases Rd.none_inv hs;refine zS (PZ _ _ _) PySem.F.slot_str_getitem.lookup ?_ M;refine wpAny_getItem_str_slice (l:=j) (u:=P) (st:=aF) (gc _ (fG _ rfl) rfl rfl) rfl ?_;have Z:=az (Txt.slice_le Y (j.map (·.1))<|P.map (·.1)) (by simp! only[iw];exact hz:Y.length<=mJ);refine post_val_or_str<|⟨Z,λt' tk=>?_⟩
  exact k.new K (Kl.push _)<|Rd.str (iI Y (j.map (·.1))<|P.map (·.1)) t'
 | @lst _ xs _ _ _ l h st ex n x es f Z=>
  cases kI K N ex with
  |mk e1 e2=>
   have g:=gO<|gS (vU U c us) e1;refine cy (yd n hl) λO O O j=>cy (yd x H) λO O O P=>cy (yd es hs) λO O O ps=>zS (g.typeIs) PY.lookup ?_ M;refine wpAny_getItem_list_slice g (Heap.IsSliceOf.new ..) j P ps f ?_ (by simp! only[iw];exact MJ e2 Z);have a:=e2.mon<|Mon.all (X:=Ex X.Ob z.W) (h':=z.s.heap.push<|vU U c us) λO O e=>gS _ e;refine k.new K ((Kl.push _).trans<|Kl.push _) ?_;have:Rd (Ex X.Ob z.W) ((z.s.heap.push<|vU U c us).push _) (.ref (z.s.heap.push<|vU U c us).objs.size) _:=(K.kl (Kl.push _)<|bh _).fresh (bB.picked a<|Ce (kZ l h st xs.length).1 (kZ l h st xs.length).2.1 (kZ l h st xs.length).2.2) 0;delta mA slicePick
   simp! only[gm,e2.len]
   simpa -iota [zV] using this
end
structure Gl (G:bK) (mg:aG->Option aI):Prop where
 g:G.Ns nM mg
 b:G.Ns ic (G.nsMap ic)
 bo: ∀x:aG,x≠ "__name__" ->G.nsMap ic x=Hd x
 lim:G.NoLimit
structure CS (D:Wd) (A:cV) (X:aM->Prop) (s:aN):Prop where
 R:hH D.n A
 t:1<=s.toks
 base: ∀b o,D.G.get? b=aA o->s.heap.get? b=aA o
 fN: ∀b o,D.G.get? b=aA o-> ¬ X b
 al: ∀b,X b-> ∃o,s.heap.get? b=aA o
 pf: ∀b,D.P.PF b->X b
 inv:D.P.Inv X s.heap
structure CT (D:Wd) (X Y:aM->Prop) (s s':aN):Prop where
 keep: ∀b o,s.heap.get? b=aA o-> ¬ Y b-> ¬ D.P.PF b->s'.heap.get? b=aA o
 inv:D.P.Inv X s'.heap
 e:s'={s with heap:=s'.heap,toks:=s'.toks,drawn:=s'.drawn}
noncomputable def nZ (D:Wd) (a:aM) (xs:List aK) (d:aK):Prop:= ∀{A:cV} {s:aN} {X:aM->Prop} {U:List aI} {Q:aI->aN->Prop} {E:aI->aN->Prop},CS D A X s->bB X s.heap U xs->(∀u n,CT D X (λO=>False) s n->Rd X n.heap u d->Q u n)->aO (aY D.prog D.w) A (call (.ref a) U) Q E s
noncomputable def ra (D:Wd) (f:aM) (xs hs:List aK) (z:aK):Prop:=
 ∀{A:cV} {s:aN} {X:aM->Prop} {U v:List aI} {x a:aM} {n:Nat} {Q:aI->aN->Prop} {E:aI->aN->Prop},CS D A X s->D.P.HI X s.heap x a->s.heap.get? a=aA (listOf v.toArray n)->bB X s.heap v hs->bB X s.heap U xs->
  (∀u F,CT D X (λO=>False) s F->Rd X F.heap u z->Q u F)->aO (aY D.prog D.w) A (call (.ref f)<|.ref x::U) Q E s
noncomputable def qx (D:Wd) (f:aM) (xs hs:List aK) (z:aK) (hs':List aK):Prop:=
 ∀{A:cV} {s:aN} {X:aM->Prop} {U m:List aI} {x a:aM} {n:Nat} {Q:aI->aN->Prop} {E:aI->aN->Prop},CS D A X s->D.P.HI X s.heap x a->X a->s.heap.get? a=aA (listOf m.toArray n)->bB X s.heap m hs->bB X s.heap U xs->
  (∀u F v N,CT D X (λb=>b=a) s F->F.heap.get? a=aA (listOf v.toArray N)->bB X F.heap v hs'->Rd X F.heap u z->Q u F)->aO (aY D.prog D.w) A (call (.ref f)<|.ref x::U) Q E s
noncomputable def yN (D:Wd) (f:Nat) (xs:List aK) (l:Ls) (d:aK) (L:Ls):Prop:= ∀{C:Fc} {X:Fx} {z:Zs} {a:aM} {u:List aI} {Q:aI->aN->Prop} {E:aI->aN->Prop},D.cN f C->FX D C X (aL l) z->D.P.CL f (Ex X.Ob z.W) z.s.heap X.env.cells a->iX X z u xs->KE D C X (aL L) z (.d d) Q->aO (aY D.prog D.w) X.A (call (.ref a) u) Q E z.s
noncomputable def AK:List Str:=["len","sum","max","min","abs","chr","ord","str","int","divmod","range","reversed","type","list"]
class cz (D:Wd):Prop where
 gl:Gl D.G D.mg
 J7: ∀x∈AK,D.mg x=aF
 F: ∀f xs d,D.o.F f xs d-> ∃nm a o fd,D.fns[f]?=aA nm/\D.mg nm=aA (.ref a)/\D.G.get? a=aA o/\o.data=.func fd/\nZ D a xs d
 gi: ∀x i,D.o.gi x i-> ∃t,D.mg x=aA (.int i t)
 gs: ∀x i,D.o.gs x i-> ∃t,D.mg x=aA (.str i t)
 Lj: ∀{A:cV} {s:aN} {X:aM->Prop} {x a:aM} {Q:aI->aN->Prop} {E:aI->aN->Prop},(∀b o,D.G.get? b=aA o->s.heap.get? b=aA o)->D.P.HI X s.heap x a->(∀tk,Q (.ref a) {s with toks:=tk})->aO (aY D.prog D.w) A (getAttr (.ref x) "_headers" aB) Q E s
 v3: ∀k nm fa,D.hm k=aA (nm,fa)-> ∃o fd,D.G.get? fa=aA o/\o.data=.func fd
 yv: ∀k nm fa,D.hm k=aA (nm,fa)->k<20-> ∀{A:cV} {s:aN} {X:aM->Prop} {x a:aM} {pl:ba Bool} {Q:aI×List aI->aN->Prop} {E:aI->aN->Prop},(∀b o,D.G.get? b=aA o->s.heap.get? b=aA o)->D.P.HI X s.heap x a->Q (.ref fa,[.ref x]) s->aO (aY D.prog D.w) A (Cr (.ref x) nm pl) Q E s
 Nj: ∀k nm fa,D.hm k=aA (nm,fa)->20<=k->D.mg nm=aA (.ref fa)
 H: ∀k xs hs z hs',D.o.H k xs hs z hs'-> ∃nm fa,D.hm k=aA (nm,fa)/\qx D fa xs hs z hs'
 R: ∀k xs hs z,D.o.R k xs hs z-> ∃nm fa,D.hm k=aA (nm,fa)/\ra D fa xs hs z
 Ng: ∀{f:Nat} {X:aM->Prop} {h:bK} {cl:List (aG×aM)} {a:aM},D.P.CL f X h cl a-> ∃o fd,h.get? a=aA o/\o.data=.func fd
 L: ∀f xs l z l',D.o.L f xs l z l'->yN D f xs l z l'
 conv: ∀b,∃fa,D.hm 10=aA (("_convert_string_type" :aG),fa)/\ ∀xx,gG b xx=aB-> ∀{A:cV} {s:aN} {X:aM->Prop} {x a:aM} {t:fF} {Q:aI->aN->Prop} {E:aI->aN->Prop},hH D.n A->1<=s.toks->(∀b o,D.G.get? b=aA o->s.heap.get? b=aA o)->
  D.P.HI X s.heap x a->(∀h' tk,(∀b o,s.heap.get? b=aA o->h'.get? b=aA o)->Q (.str xx t) {s with heap:=h',toks:=tk})->aO (aY D.prog D.w) A (call (.ref fa) [.ref x,.str xx t] [("name",.bool b)]) Q E s
 b1: ∃a,D.mg "b1_set" =aA (.ref a)/\ ∀{A:cV} {s:aN} {i:Int} {t:fF} {Q:aI->aN->Prop} {E:aI->aN->Prop},hH D.n A->(∀b o,D.G.get? b=aA o->s.heap.get? b=aA o)->(∀tk,Q (.bool<|D.o.b1 i) {s with toks:=tk})->aO (aY D.prog D.w) A (sG .In (.int i t)<|.ref a) Q E s
 b3: ∃a ob,D.mg "b3_exceptions" =aA (.ref a)/\D.G.get? a=aA ob/\ob.cls=.type "dict" /\ob.dict=aF/\ ∀{A:cV} {s:aN} {i:Int} {t:fF} {Q:aI->aN->Prop} {E:aI->aN->Prop},hH D.n A->(∀b o,D.G.get? b=aA o->s.heap.get? b=aA o)->
  (∀u tk,(∀X h,Rd X h u<|D.o.b3 i)->Q u {s with toks:=tk})->aO (aY D.prog D.w) A (call (.builtin "dict.get") [.ref a,.int i t]) Q E s
 MP: ∃o,D.G.get? Cs=aA o/\o≠i3
 NA: ∀{nm:aG} {fa:aM},D.hm 9=aA (nm,fa)-> ∀{A:cV} {s:aN} {X:aM->Prop} {x a:aM} {u:aI} {Q:Unit->aN->Prop} {E:aI->aN->Prop},hH D.n A->(∀b o,D.G.get? b=aA o->s.heap.get? b=aA o)->D.P.HI X s.heap x a->
  aO (aY D.prog D.w) A (call (.ref fa) [.ref x,u]) (λO s'=>Q () s') E s->aO (aY D.prog D.w) A (delItem (.ref x) u) Q E s
 new: ∀{A:cV} {s:aN} {X:aM->Prop} {a:aM} {vs:List aI} {n:Nat} {xs:List aK} {Q:aI->aN->Prop} {E:aI->aN->Prop},hH D.n A->1<=s.toks->(∀b o,D.G.get? b=aA o->s.heap.get? b=aA o)->(∀b o,D.G.get? b=aA o-> ¬ X b)->(∀b,X b-> ∃o,s.heap.get? b=aA o)->
  xs.all vE=aB->s.heap.get? a=aA (listOf vs.toArray n)->bB X s.heap vs xs->
  (∀x h' tk,(∀b o,s.heap.get? b=aA o->h'.get? b=aA o)->D.P.HI X h' x a->Q (.ref x) {s with heap:=h',toks:=tk})->aO (aY D.prog D.w) A (call (.ref D.hc) [.ref a]) Q E s
 DY:D.mg "Headers" =aA (.ref D.hc)/\ ∀{A:cV} {s:aN} {pos:bP} {l:List (Bool×ba aI)} {Q:aI->aN->Prop} {E:aI->aN->Prop},l.any (·.1)=aE->aO (aY D.prog D.w) A (sI l) (λvs s₁=>(∀b o,D.G.get? b=aA o->s₁.heap.get? b=aA o)/\aO (aY D.prog D.w) A (call (.ref D.hc) vs) Q E s₁) E s->
  aO (aY D.prog D.w) A (wd pos (.ref D.hc) [] l []) Q E s
 Oc: ∃ca o fd,D.mg "compute_powers" =aA (.ref ca)/\D.G.get? ca=aA o/\o.data=.func fd/\ ∀n:Int,0<=n->n<=2048-> ∀{A:cV} {s:aN} {t1 t2 t3:fF} {Q:aI->aN->Prop} {E:aI->aN->Prop},hH D.n A->1<=s.toks->(∀b o,D.G.get? b=aA o->s.heap.get? b=aA o)->
  (∀{dr:Drawn} d h' tk,(∀b o,s.heap.get? b=aA o->h'.get? b=aA o)->h'.get? d=aA i3->s.heap.get? d=aF->Q (.ref d) {s with heap:=h',toks:=tk,drawn:=dr})->aO (aY D.prog D.w) A (call (.ref ca) [.int n t1,.int 5 t2,.int 2048 t3]) Q E s
section
variable (D:Wd) (C:Fc)
noncomputable def KW (X:Fx) (z:Zs) (K:V->Ls->Prop) (Q:aI->aN->Prop):Prop:= ∀v l,K v l->KE D C X (aL l) z v Q
noncomputable def KT (X:Fx) (z:Zs) (K:Bool->Ls->Prop) (Q:Bool->aN->Prop):Prop:= ∀b l,K b l->KB D C X (aL l) z b Q
noncomputable def KLw (X:Fx) (z:Zs) (K:List V->Ls->Prop) (Q:List aI->aN->Prop):Prop:= ∀v l,K v l-> ∀u Z,FX D C X (aL l) Z->Sx z Z->i4 D X Z u v->Q u Z.s
structure Ev (x:aP) (l:Ls) (K:V->Ls->Prop):Prop where
 run: ∀{X:Fx} {z:Zs} {Q:aI->aN->Prop} {E:aI->aN->Prop},FX D C X (aL l) z->KW D C X z K Q->aO (aY D.prog D.w) X.A (bz x X.env) Q E z.s
structure Yb (x:aP) (l:Ls) (K:Bool->Ls->Prop):Prop where
 run: ∀{X:Fx} {z:Zs} {Q:Bool->aN->Prop} {E:aI->aN->Prop},FX D C X (aL l) z->KT D C X z K Q->aO (aY D.prog D.w) X.A (zW x X.env<|bz x X.env) Q E z.s
structure OJ (xs:List aP) (l:Ls) (K:List V->Ls->Prop):Prop where
 run: ∀{X:Fx} {z:Zs} {pos:bP} {Q:List aI->aN->Prop} {E:aI->aN->Prop},FX D C X (aL l) z->KLw D C X z K Q->aO (aY D.prog D.w) X.A (sI<|mK pos<|fH xs X.env) Q E z.s
noncomputable def aZ (x:aP) (e:E):Prop:= ∀{l K},e D.o l K->Ev D C x l K
noncomputable def eS (x:aP) (t:T):Prop:= ∀{l K},t D.o l K->Yb D C x l K
noncomputable def fb (xs:List aP) (es:List E):Prop:= ∀{l K},lW es D.o l K->OJ D C xs l K
noncomputable def xf (op:kf) (xs:List aP) (es:List E):Prop:= ∀{p l K},bW op es D.o l K->Ev D C (.BoolOp op xs p) l K
noncomputable def yK (op:kf) (xs:List aP) (ts:List T):Prop:= ∀{l K},AZ op ts D.o l K-> ∀{X:Fx} {z:Zs} {Q:Bool->aN->Prop} {E:aI->aN->Prop},FX D C X (aL l) z->KT D C X z K Q->aO (aY D.prog D.w) X.A (allTrue op xs X.env) Q E z.s
noncomputable def vY (x:Option aP) (e:E):Prop:= ∀{l K},e D.o l K-> ∀{X:Fx} {z:Zs} {Q:aI->aN->Prop} {E:aI->aN->Prop},FX D C X (aL l) z->KW D C X z K Q->aO (aY D.prog D.w) X.A (evalPart x X.env) Q E z.s
end
structure iA (C:Fc) (nm:aG) (i:Nat):Prop where
 k:C.K nm=aA .local\/C.K nm=aA .cell\/C.K nm=aA .free
 t:C.cM nm=aA i
 c:(nm==("__classdict__" :aG))=aE
 d:(nm==("__debug__" :aG))=aE
structure mq (C:Fc) (nm:aG):Prop where
 k:C.K nm=aA .globalImplicit
 d:(nm==("__debug__" :aG))=aE
noncomputable def cq (C:Fc) (nm:aG) (i:Nat):Bool:=(match C.K nm with|some .local=>aB|some .cell=>aB|some .free=>aB|_=>aE) && (C.cM nm==aA i) && !(nm==("__classdict__" :aG)) && !(nm==("__debug__" :aG))
theorem jS (h:cq C nm i=aB):iA C nm i:=by
 refine bI (f7.mp h) λh b=>bI (f7.mp h) λh Q=>bI (f7.mp h) λH m=>⟨?_,QGy.mp m,uW _▸Q,uW _▸b⟩;generalize C.K nm=k at H
 match k,H with
 |some .local,_=>exact .inl rfl
 |some .cell,_=>exact .inr<|.inl rfl
 |some .free,_=>exact .inr<|.inr rfl
section
variable {D:Wd} {C:Fc} {x y w:aP} {a b c:E} {t t':T} {r r₁ r₂ r₃:bR}
theorem FX.cs (K:FX D C X r z):CS D X.A (Ex X.Ob z.W) z.s:=⟨K.R,K.t,K.F.base,K.F.fN,K.F.dc,λb p=>.inr<|K.F.pf b p,K.F.inv⟩
theorem KE.id (k:KE D C X r z v Q) (K:FX D C X r z) (q:Vz D X z u v):Q u z.s:=k u z K .refl q
theorem I_ {k}:aZ D C (.Constant .none k pos) .none:= @λO O h=>⟨λK k=>λO O O=>(k _ _ h).id K Rd.none⟩
theorem X4 {b k}:aZ D C (.Constant (.bool b) k pos) (.bool b):= @λO O h=>⟨λK k=>λO O O=>(k _ _ h).id K<|Rd.bool _⟩
theorem ZH {i k}:aZ D C (.Constant (.int i) k pos) (.int i):= @λO O h=>⟨λK k=>wpAny_toks<|QEE<|(k _ _ h).same K<|Rd.int _ _⟩
theorem Mt {i k}:aZ D C (.Constant (.str i) k pos) (.str i):= @λO O h=>⟨λK k=>wpAny_toks<|Constant_str<|(k _ _ h).same K<|Rd.str _ _⟩
theorem QDQ {cl X h} (hs:dh P φ cl X h i W (r i)) (e:kL r i=aA v): ∃u,W=aA u/\VR P φ X h u v:=by
 unfold kL at e;induction hr:r i with
 |val d=>simp only[hr] at hs e;cases e;exact hs
 |own R=>simp only[hr] at hs e;cases e;exact aS hs λa Y n=>⟨_,n,a,Y,rfl⟩
 |ali j=>simp only[hr] at hs e;cases e;obtain ⟨_,a,Y,n⟩:=hs;exact ⟨_,n,a,Y,rfl⟩
 |inst=>simp only[hr] at hs e;cases e;exact bf hs λx a Y n p=>⟨_,n,x,a,Y,rfl,p⟩
 |emp=>simp only[hr] at hs e;cases e;exact aS hs λu e O=>(ax _ e trivial)
 |_=>simp only[hr] at e;exact ay e
theorem uA (K:FX D C X r z) (o:iA C nm i) (h: ∀v,dh D.P z.φ X.env.cells (Ex X.Ob z.W) z.s.heap i v (r i)-> ∃u,v=aA u/\Q u z.s):aO (aY D.prog D.w) X.A (bz (.Name nm pos) X.env) Q Er z.s:=by
 refine wpAny_Name ?_ o.d;rcases o.k with Y|Y|Y
 ·exact aS K.F.loc λm n N=>aS (h _<|N nm i Y o.t) λu e q=>Pa K.F.hk ((K.F.hK nm).trans Y) n e q
 ·refine bf (K.F.hF nm i (.inl Y) o.t) λc v x l p=>aS (h _ p) λu g q=>?_
  clear p;subst g;exact wpAny_loadName_cell K.F.hk ((K.F.hK nm).trans Y) x l q
 ·refine bf (K.F.hF nm i (.inr Y) o.t) λc v x l p=>aS (h _ p) λu g q=>?_
  clear p;subst g;exact wpAny_loadName_free K.F.hk ((K.F.hK nm).trans Y) x l q o.c
theorem sz (o:iA C nm i):aZ D C (.Name nm pos) (.aC i):= @λO O h=>⟨λK k=>uA K o λv q=>by
 induction Zo h with|mk e h=>exact let ⟨u,x,n⟩:=QDQ q e;(ax u x<|(k _ _ h).id K n)⟩
theorem FX.freeze (K:FX D C X r z) (e:r i=.own xs) (M:C.ow=aB) (L:i≠aT) (N:i≠bQ):
 ∃a z',z.φ i=aA a/\z'.s=z.s/\FX D C X (upd r i .unb) z'/\Sx z z'/\Rz X z' (.ref a) (.list xs):=by
 refine dS (K.F.own i xs e) λa vs n e1 e2 l=>?_;have A:=K.F.gR M i xs a e e1 L;have st:dg z.W z.s.heap (λb=>z.W b/\b≠a) z.s.heap:=⟨λO O e O=>e,λO q=>.inl q.1⟩;have m:Mon (Ex X.Ob z.W) z.s.heap (Ex X.Ob λb=>z.W b/\b≠a) z.s.heap:=st.mon;have U:=K.F.forget i N L;refine aS U.loc λmm H f=>?_;have nl: ∀b o,z.s.heap.get? b=aA o->(∀vs n,o.data≠ .seq vs n)->b≠a:=λb o e d q=>by simp only[q,e2] at e;cases e;exact d _ _ rfl
 refine ⟨a,{z with W:=λb=>z.W b/\b≠a},e1,rfl,⟨⟨U.base,λb o e q=>U.fN b o e<|q.imp id λq=>q.1,U.hk,U.hK,U.hg,U.hb,U.rC,⟨mm,H,λx j p q=>(f x j p q).mon m λO O O O=>rfl⟩,⟨U.km,?_⟩,λx j p q=>?_,λx j c p q g z=>⟨U.pY x j c p q g z,?_⟩,U.oX,λj ys q=>?_,λcc j ys b q p z=>⟨U.gR cc j ys b q p z,λv=>?_⟩,λys q p b z=>⟨U.jb ys q p b z,λv=>?_⟩,λys q p b z w=>U.lD ys q p b z w.1,U.lB,U.inj,U.jx,λb q=>U.dc b<|q.imp id λq=>q.1,λb q=>U.dT b q.1,D.P.iS U.inv m λO O=>rfl,λb p=>⟨U.pf b p,λq=>?_⟩⟩,K.R,K.t⟩,⟨st,bh _,rfl,rfl⟩,?_⟩
 ·exact dS H λo es ep q1 q2 O=>nl _ o q1 λO O d=>by rw[q2] at d;contradiction
 ·exact bf (U.hF x j p q) λc u q1 q2 Q=>(dA c u q1 q2<|Q.mon m λO O O O=>rfl)
 ·refine bf (U.hF x j (.inl p) g) λc' u q1 Y Q=>aS Y λo q2 Z=>?_
  clear K e M e1 e2 l L N A st m U H f p q g Y Q;obtain rfl:=bM z q1;exact nl _ o q2 λO O d=>by rw[Z] at d;contradiction
 ·exact dS (U.own j ys q) λb ws k q1 q2 Q=>(lz b ws k q1 q2<|Q.mon m)
 ·have:j=i:=K.F.inj j i a (v▸p) e1
  clear e e1 L N U f p z;subst this;unfold upd at q;rw[if_pos rfl] at q;contradiction
 ·exact L (K.F.inj aT i a (v▸z) e1).symm
 ·refine cR (D.P.iM U.inv p) λo aa B d4=>?_
  simp only[q,e2] at B;cases B;contradiction
 ·exact Rd.lst e2 (λq=>q.elim (K.F.dT a A) λq=>q.2 rfl)<|l.mon m
theorem Up (hw:C.ow=aB) (ok:iA C nm i):aZ D C (.Name nm pos) (.qJ i):= @λO O h=>⟨λK k=>uA K ok λv q=>by
 induction i9 h with
 |mk r h=>
  refine oQ (K.freeze r hw (λq=>QGv (q▸C.low nm i ok.t)<|by decide) λq=>QGv (q▸C.low nm i ok.t)<|by decide) λa z' e1 e2 U st R=>?_;rw[r] at q;refine aS q λA e z=>?_;obtain rfl:=bM e1 e;rw[<-fQ] at U
  exact (ax _ z<|e2▸k _ _ h _ z' U st R)⟩
theorem W4 (A:aZ D C x a) (hb:aZ D C y b):aZ D C (.BinOp x op y pos) (.aH op a b):= @λO O h=>⟨λK k=>wpAny_BinOp ((A h).run K λO O h p z R s1 q1=>(hb h).run R λO O h Q Z P s2 q2=>by
 induction Lp h with|mk e h=>exact TR e P (q1.mon s2) q2<|(k _ _ h).tr<|s1.trans s2)⟩
theorem qa {f:Int->Ls->Prop} (h:Ev D C x l λv l=>nG v λi=>f i l) (K:FX D C X (aL l) z) (k: ∀i l t z',f i l->FX D C X (aL l) z'->Sx z z'->Q (.int i t) z'.s):aO (aY D.prog D.w) X.A (bz x X.env) Q Er z.s:=h.run K λv l h u z' U n q=>by induction QDH h with|mk e h=>subst e;refine aV (Rd.dj q) λt g=>?_;erw[g];exact k _ _ t z' h U n
theorem QCv (A:aZ D C x a):aZ D C (.UnaryOp .USub x pos) (.neg a):= @λO O h=>⟨λK k=>QEF<|qa (A h) K λi l t z h R s1=>wpAny_toks<|neg_int<|((k _ _ h).tr s1).same R<|.int _ _⟩
theorem QDY (A:aZ D C x a):aZ D C (.UnaryOp .Invert x pos) (.inv a):= @λO O h=>⟨λK k=>QEF<|qa (A h) K λi l t z h R s1=>wpAny_toks<|invert_int<|((k _ _ h).tr s1).same R<|.int _ _⟩
theorem VK (hm:sJ op y=aE) (A:aZ D C x a) (hb:aZ D C y b):aZ D C (.Compare x [op] [y] pos) (.cmp op a b):= @λO O h=>⟨λK k=>Pb ((A h).run K λO O h p z R s1 q1=>(hb h).run R λO O h Q Z P s2 q2=>by
 induction As h with|mk e h=>exact wpAny_toks<|AL e P (q1.mon s2) q2 λtk=>((k _ _ h).tr<|s1.trans s2).same P<|.bool _) hm⟩
theorem QBV (hm:sJ op y=aE) (A:aZ D C x a) (hb:aZ D C y b):eS D C (.Compare x [op] [y] pos) (.cmp op a b):= @λO O h=>⟨λK k=>He ((A h).run K λO O h p z R s1 q1=>(hb h).run R λO O h Q Z P s2 q2=>by
 induction As h with|mk e h=>exact wpAny_toks<|AL e P (q1.mon s2) q2 λtk l=>oq<|((k _ _ h).tr<|s1.trans s2).same P l) hm⟩
theorem QDd (a:eS D C x t):eS D C (.UnaryOp .Not x pos) (.not t):= @λO O h=>⟨λK k=>QEG<|(a h).run K λO O h z R s1=>k _ _ h z R s1⟩
theorem QAj (a:eS D C x t) (hb:aZ D C y b) (W:aZ D C w c):aZ D C (.IfExp x y w pos) (.ite t b c):= @λO O h=>⟨λK k=>wpAny_IfExp ((a h).run K λz O h Z R s=>by
 rcases h with ⟨rfl,h⟩|⟨rfl,h⟩
 ·exact (hb h).run R λO O h=>(k _ _ h).tr s
 ·exact (W h).run R λO O h=>(k _ _ h).tr s)⟩
theorem TA (A:aZ D C x a):xf D C op [x] [a]:= @λO O O h=>⟨λK k=>BoolOp_one<|(A h).run K k⟩
theorem QAb (A:aZ D C x a) (hb:xf D C op (y::xs) (b::es)):xf D C op (x::y::xs) (a::b::es):= @λO O O h=>⟨λ{X z Q Er} K k=>by
 induction op with
 |And=>exact BoolOp_and ((A h).run K λv l h u Z R i q=>by
  induction h with
  |mk e h=>
   rcases h with ⟨rfl,h⟩|⟨rfl,h⟩
   ·exact yA e R q λj P s=>k _ _ h _ _ P (i.trans s)<|q.mon s
   ·exact yA e R q λj P s=>(hb h).run P λO O h=>(k _ _ h).tr<|i.trans s)
 |Or=>exact BoolOp_or ((A h).run K λv l h u Z R i q=>by
  induction h with
  |mk e h=>
   rcases h with ⟨rfl,h⟩|⟨rfl,h⟩
   ·exact yA e R q λj P s=>k _ _ h _ _ P (i.trans s)<|q.mon s
   ·exact yA e R q λj P s=>(hb h).run P λO O h=>(k _ _ h).tr<|i.trans s)⟩
theorem R5 (h:xf D C op xs es):aZ D C (.BoolOp op xs pos) (.fy op es):=λe=>h e
theorem L_:yK D C op [] []:= @λO O h=>λK k=>by rw[arm_allTrue_nil];refine bA ?_;cases op<;>exact k _ _ h _ K .refl
theorem QAS (a:eS D C x t) (hb:yK D C op xs ts):yK D C op (x::xs) (t::ts):= @λO O h=>λK k=>by
 rw[arm_allTrue_cons];refine aR<|(a h).run K λb l h z R s=>?_;rcases h with ⟨rfl,h⟩|⟨rfl,h⟩
 ·cases op<;>exact bA<|k _ _ h _ R s
 ·cases op<;>exact hb h R λO O h=>(k _ _ h).tr s
theorem WB (h:yK D C op xs ts):eS D C (.BoolOp op xs pos) (.fy op ts):=λe=>⟨λK k=>by
 rw[arm_isTrue_BoolOp]
 exact h e K k⟩
theorem K_ (o: ∀whole,zW x env whole=(do let v<-whole;sM x.pos;ot [v] (Hc v))) (h:aO M A (bz x env) (λv N=>aO M A (Hc v) Q Er N) Er s):
 aO M A (zW x env<|bz x env) Q Er s:=by
 rw[o];exact aR<|eX h (λv N H=>aR<|iJ<|cO H) λO O x=>x
theorem QBH (ok:iA C nm i):eS D C (.Name nm pos) (.aC i):= @λl r h=>⟨λK k=>K_ (λO=>rfl) ((sz (K:=λv l=>dC (mY (aL l) v) λb=>r b l) ok h).run K λO O h p z R s1 q1=>by
 induction h with|mk e h=>exact yA e R q1<|(k _ _ h).tr s1)⟩
theorem Fi {t:ba aI}:mK pos ((aE,t)::l)=(aE,t)::mK pos l:=rfl
theorem Dn:fb D C [] []:= @λO O h=>⟨λK k=>lN<|k _ _ h _ _ K .refl .nil⟩
theorem xS {es:List E} (hs: ∀env,fH (x::xs) env=(aE,bz x env)::fH xs env) (A:aZ D C x a) (hb:fb D C xs es):fb D C (x::xs) (a::es):= @λO O h=>⟨λ{X z pos Q Er} K k=>by
 simp only[hs X.env,Fi]
 exact uX<|(A h).run K λO O h p Z R s1 q1=>(hb h).run R λO O h ps j P s2 q2=>k _ _ h _ _ P (s1.trans s2)<|.cons (q1.mon s2) q2⟩
theorem i4.ds (q:i4 D X z us (xs.map .d)):iX X z us xs:=by
 induction xs generalizing us with
 |nil=>cases q;exact bB.nil
 |cons x xs i=>cases q with|cons a b=>exact bB.cons a<|i b
theorem kO {Kd:List aK->Ls->Prop} (h:OJ D C xs l λvs l=>zK vs λds=>Kd ds l) (K:FX D C X (aL l) z) (k: ∀ds l us z',Kd ds l->FX D C X (aL l) z'->Sx z z'->iX X z' us ds->Qs us z'.s):aO (aY D.prog D.w) X.A (sI<|mK pos<|fH xs X.env) Qs Er z.s:=h.run K λvs l h us z' U s q=>by induction TO h with|mk e g=>subst e;exact k _ _ us z' g U s q.ds
theorem LG (h:fb D C xs es):aZ D C (.List xs pos) (.list es):=λe=>⟨λK k=>Hf<|kO (h e) K λds l us z h R s q1=>⟨by simp only[iw,q1.len];exact bJ h.1,((k _ _ h.2).tr s).new R (Kl.push _) (R.fresh q1 0)<|bh _⟩⟩
theorem Sd (h:fb D C xs es):aZ D C (.Tuple xs j pos) (.tup es):=λe=>⟨λK k=>wpAny_Tuple<|kO (h e) K λds l us z h R s q1=>⟨by simp only[iw,q1.len];exact bJ h.1,((k _ _ h.2).tr s).new R (Kl.push _) (R.freshT q1 0)<|bh _⟩⟩
theorem QBA (s: ∀o i,wY y aE o i=wZ [o,i] (wc o i)) (A:aZ D C x a) (hb:aZ D C y b):aZ D C (.Subscript x y pos) (.au a b):= @λO O h=>⟨λK k=>Pc ((A h).run K λO O h p z R s1 q1=>qa (hb h) R λi l t Z h P s2=>by
 induction h with|mk e h=>exact R8 e s P (q1.mon s2)<|(k _ _ h).tr<|s1.trans s2)⟩
theorem BE {k:Nat} (h:Q .none s):aO M A (bz (.Constant .none k pos) env) Q Er s:=λO O O=>h
theorem Fd {k:Nat} {b:Bool} (h:Q (.bool b) s):aO M A (bz (.Constant (.bool b) k pos) env) Q Er s:=λO O O=>h
theorem L0 {w:bx} {s:aN} {neg b:Bool} {u u':aI} (p:plainIs u u'=aB) (e:(u==u')=b) (h:Q (.bool<|b !=neg) s):aO (aY prog w) A (sG (if neg then .IsNot else .Is) u u') Q Er s:=by
 cases neg
 ·exact QEH p (by erw[e];simpa using h)
 ·exact Pd p (by erw[e];simpa using h)
theorem Bg {w:bx} {neg B:Bool} (q:Rd Y s.heap u d) (hd:(d=.none/\B=aB)\/(d≠ .none/\B=aE)) (h:Q (.bool<|B !=neg) s):aO (aY prog w) A (sG (if neg then .IsNot else .Is) u .none) Q Er s:=by
 have:plainIs u .none=aB/\(u==.none)=B:=by
  refine aS q λl L b=>?_;clear q h L;rcases hd with ⟨rfl,rfl⟩|⟨hd,rfl⟩
  ·cases b;exact ⟨rfl,rfl⟩
  ·cases b<;>first|exact absurd rfl hd|exact ⟨rfl,rfl⟩
 exact L0 this.1 this.2 h
theorem Od {whole} (F:sJ op rr=aE)
 (h:aO M A (bz l env) (λu N=>aO M A (bz rr env) (λu' H=>aO M A (sG op u u') (λc R=> ∃b,c=.bool b/\Q b R) Er H) Er N) Er s) (m:M=aY D.prog D.w):aO M A (zW (.Compare l [op] [rr] pos) env whole) Q Er s:=by
 exact cv m<|wpAny_isTrue_Compare1 (wpAny_mono h (λO O h=>eX h (λO O h=>eX h (λc R q=>q.elim λb q=>by erw[q.1];exact oq q.2) λO O x=>x) λO O x=>x) λO O x=>x) F
theorem U7 {k:Nat} {neg:Bool} (o:op=if neg then .IsNot else .Is) (m:sJ op (.Constant .none k P)=aE) (A:aZ D C x a):aZ D C (.Compare x [op] [.Constant .none k P] pos) (.iN neg a):= @λO O h=>⟨λK k=>Pb ((A h).run K λO O h p z R s q=>by
 erw[o];induction jd h with
 |mk e g=>
  clear h;subst e;rcases g with ⟨rfl,g⟩|⟨n,g⟩
  ·exact BE<|Bg q (.inl ⟨rfl,rfl⟩)<|k _ _ g _ _ R s<|Rd.bool _
  ·exact BE<|Bg q (.inr ⟨n,rfl⟩)<|k _ _ g _ _ R s<|Rd.bool _) m⟩
theorem Yk {k:Nat} {neg:Bool} (o:op=if neg then .IsNot else .Is) (m:sJ op (.Constant .none k P)=aE) (A:aZ D C x a):eS D C (.Compare x [op] [.Constant .none k P] pos) (.iN neg a):= @λO O h=>⟨λK k=>Od m ((A h).run K λO O h p z R s q=>by
 erw[o];induction jd h with
 |mk e g=>
  clear h;subst e;rcases g with ⟨rfl,g⟩|⟨n,g⟩
  ·exact BE<|Bg q (.inl ⟨rfl,rfl⟩)<|ax _ rfl (k _ _ g _ R s)
  ·exact BE<|Bg q (.inr ⟨n,rfl⟩)<|ax _ rfl (k _ _ g _ R s)) rfl⟩
theorem Vb {k:Nat} {P:bP} {neg b:Bool} {op:fU} (o:op=if neg then .IsNot else .Is) (m:sJ op (.Constant (.bool b) k P)=aE) (A:aZ D C x a):eS D C (.Compare x [op] [.Constant (.bool b) k P] pos) (.eN neg b a):= @λO O h=>⟨λK k=>Od m ((A h).run K λO O h p z R s q=>by
 erw[o];induction jd h with
 |mk e g=>
  clear o m A K;obtain ⟨c,rfl,g⟩:=g;clear h;subst e;cases Rd.bool_inv q
  exact Fd<|L0 rfl (by clear h k R s g q;cases b<;>cases c<;>rfl) (ax _ rfl (k _ _ g _ R s))) rfl⟩
end
theorem gN {E:aI->aN->Prop} (p:l.any (·.1)=aE)
 (h:aO M A (sI l) (λvs n=>Q ⟨vs,[]⟩ n) E s):aO M A (evalArgs f aB l []) Q E s:=by
 induction l with
 |nil=>refine aR<|eX h (λvs n H=>?_) λO O x=>x;refine aR<|bA<|cO<|aR<|bA<|aR<|bA<|bA H
 |cons a l=>
  obtain ⟨b,t⟩:=a;have:b=false:=by simp only[List.any_cons,Pe] at p;exact p.1
  clear p;subst this;exact evalArgs_plain h
noncomputable def Pl (xs:List aP):Prop:= ∀env p,(mK p<|fH xs env).any (·.1)=aE
noncomputable def ym (b:Bi):Str:=match b with
 |.len=> "len" |.sum=> "sum" |.ma=> "max" |.max2=> "max" |.kY=> "min" |.min2=> "min" |.abs=> "abs" |.chr=> "chr" |.ord=> "ord" |.rV=> "str" |.si=> "int" |.divmod=> "divmod"
noncomputable def ME (nm:aG):Bool:=AK.contains nm && !(nm==("__debug__" :aG)) && !(nm==("__name__" :aG))
theorem Oo (b:Bi):Hd (ym b)=aA (tZ b)/\ME (ym b)=true:=by induction b<;>exact ⟨by lia,by lia⟩
section
theorem yQ [H:cz D] (K:FX D C X r z) (P:C.K nm=aA .globalImplicit) (hn:ME nm=aB) (hu:Hd nm=aA u) (h:Q u z.s):aO (aY D.prog D.w) X.A (bz (.Name nm pos) X.env) Q Er z.s:=by
 refine bI (f7.mp hn) λhn i=>bI (f7.mp hn) λhn q=>Hg K.F.hk ((K.F.hK nm).trans P) ?_<|uW _▸q;refine QEI (mg:=D.mg) (mb:=D.G.nsMap ic) ?_ (H.J7 nm<|Hi.mp hn) ?_ ?_ h
 ·exact sb K.F.hg<|H.gl.g.keeps K.F.base
 ·exact sb K.F.hb<|H.gl.b.keeps K.F.base
 ·exact sb (H.gl.bo nm λe=>by rw[e] at i;exact QGv i<|by decide+kernel)<|hu
theorem qb [H:cz D] (K:FX D C X r z) (o:mq C nm) (hu:D.mg nm=aA u) (h:Q u z.s):aO (aY D.prog D.w) X.A (bz (.Name nm pos) X.env) Q Er z.s:=by refine Hg K.F.hk ((K.F.hK nm).trans o.k) ?_ o.d;refine QEJ ?_ hu h;simp only[K.F.hg];exact H.gl.g.keeps K.F.base
theorem QAN [H:cz D] (o:mq C nm):aZ D C (.Name nm pos) (.pV nm):= @λO O h=>by
 induction h with|mk e g=>refine aV (H.gi _ _ e) λt e2=>?_;exact ⟨λK k=>qb K o e2<|(k _ _ g).id K<|Rd.int _ _⟩
theorem ZG (p:l.any (·.1)=aE) (h:aO M A (sI l) (λvs n=>aO M A (call (tZ b) vs) Q Er n) Er s):aO M A (wd pos (tZ b) [] l []) Q Er s:=by
 have k:(∃i,tZ b=.builtin i)\/ ∃T,tZ b=.type T:=by clear p h;induction b<;>first|exact .inl ⟨_,rfl⟩|exact .inr ⟨_,rfl⟩
 generalize tZ b=B at*;rcases k with ⟨i,rfl⟩|⟨T,rfl⟩
 ·exact we p<|gN p h
 ·exact wg p<|gN p h
theorem Rq [H:cz D] (hn:nm=ym b) (s:C.K nm=aA .globalImplicit) (P:Pl xs) (a:fb D C xs es):aZ D C (.Call (.Name nm p) xs [] pos) (.bi b es):= @λO O h=>⟨λ{X z Q Er} K k=>by
 subst hn
 exact qn (yQ K s (Oo b).2 (Oo b).1 (ZG (P X.env pos) ((a h).run K λO O h us Z R s1 q1=>by
  induction h with|mk e g=>exact Rb e R q1<|(k _ _ g).tr s1)))⟩
noncomputable def Gj (b:Sm):String:=match b with|.bits=> "int" |_=> "str"
theorem VI (b:Sm):Pf (Gj b)/\Slot (Gj b) (BG b) (HQ b)/\Hj (.builtin<|HQ b)=pure (.type "method_descriptor"):=by
 induction b with
 |lower=>exact ⟨uY,PySem.F.slot_str_lower,PySem.F.type_str_lower⟩
 |upper=>exact ⟨uY,PySem.F.slot_str_upper,PySem.F.type_str_upper⟩
 |swapcase=>exact ⟨uY,PySem.F.slot_str_swapcase,PySem.F.type_str_swapcase⟩
 |rstrip=>exact ⟨uY,PySem.F.slot_str_rstrip,PySem.F.type_str_rstrip⟩
 |qN=>exact ⟨uY,PySem.F.slot_str_lstrip,PySem.F.type_str_lstrip⟩
 |split=>exact ⟨uY,PySem.F.slot_str_split,PySem.F.type_str_split⟩
 |join=>exact ⟨uY,PySem.F.slot_str_join,PySem.F.type_str_join⟩
 |bits=>exact ⟨PySem.F.plainAttrs_int,PySem.F.slot_int_bit_length,PySem.F.type_int_bit_length⟩
theorem Vp (e:FW b v) (q:Vz D X z u v):z.s.TypeIs u (Gj b)/\ ∀a,u≠ .ref a:=by
 have i:(∃i,v=.d (.int i))->z.s.TypeIs u "int" /\ ∀a,u≠ .ref a:=λ⟨i,e⟩=>by subst e;exact aV (Rd.dj q) λt g=>sb g<|⟨typeIs_int _ _ _,nofun⟩
 have s:(∃i,v=.d (.str i))->z.s.TypeIs u "str" /\ ∀a,u≠ .ref a:=λ⟨i,e⟩=>by subst e;exact aV (Rd.dK q) λt g=>sb g<|⟨typeIs_str _ _ _,nofun⟩
 induction b<;>first|exact s e|exact i e
structure MC (o:aP) (name:aG) (apos pos:bP) (xs:List aP):Prop where
 base: ∀env,wh o name env (bz o env)=bz o env
 qP: ∀env,((mK pos<|fH xs env).all (λx=> !x.1) && (Pg pos<|Ph [] env).all (λx=>x.1.isSome)
  && decide (xs.length+([]:List wi).length+(if ([]:List wi).isEmpty then 0 else 1)<30))=aB
 line:(apos.endLine==pos.line)=aB
theorem MC.pl (h:MC o name a pos xs) (env:cg):(mK pos<|fH xs env).any (·.1)=false:=by have H:=(f7.mp (f7.mp<|h.qP env).1).1;rw[List.any_eq_false];intro x M;have:=dR.mp H x M;simpa using this
theorem Gh {T id:String} {Kx:V->Ls->Prop} (m:MC x nm b pos xs) (p:Pf T) (sl:Slot T nm id) (F:Hj (.builtin id)=pure (.type "method_descriptor")) (M:Ev D C x l Kx) (K:FX D C X (aL l) z)
 (k: ∀v l,Kx v l-> ∀u Z,FX D C X (aL l) Z->Sx z Z->Vz D X Z u v->Z.s.TypeIs u T/\(∀a,u=.ref a-> ∃ob,Z.s.heap.get? a=aA ob/\ob.dict=aF)/\aO (aY D.prog D.w) X.A (sI<|mK pos<|fH xs X.env) (λus n=>aO (aY D.prog D.w) X.A (call (.builtin id)<|u::us) Q Er n) Er Z.s):
 aO (aY D.prog D.w) X.A (bz (.Call (.Attribute x nm b) xs [] pos) X.env) Q Er z.s:=
 wj (m.base X.env) (m.qP X.env) m.line (M.run K λv l h u Z R i q=>by exact eJ (k v l h u Z R i q) λt o H=>(sa T id p sl F t o<|we (m.pl X.env)<|gN (m.pl X.env) H))
theorem QDi [H:cz D] (hn:nm=BG b) (hm:MC x nm ap pos xs) (M:aZ D C x a) (A:fb D C xs es):aZ D C (.Call (.Attribute x nm ap) xs [] pos) (.sm b a es):= @λO O h=>⟨λK k=>by
 subst hn;have q:=(VI b);have p:=q.1;have sl:=q.2.1;have ty:=q.2.2;refine Gh hm p sl ty (M h) K λv l h u z R s1 q1=>?_;have h0:=h.1;have h:=h.2;have q:=(Vp h0 q1);have t1:=q.1;have t:=q.2
 exact ⟨t1,λa e=>QGv e<|t a,(A h).run R λO O h us Z P s2 q2=>by
  clear hm p sl ty h0 t1
  induction h with|mk e g=>exact QAa e P (q1.mon s2) q2<|(k _ _ g).tr<|s1.trans s2⟩⟩
theorem Sk (hm:MC x "replace" ap pos [.Constant (.str Y) W p,.Constant (.str z) B P]) (n:(Y==z)=aE) (M:aZ D C x a):
 aZ D C (.Call (.Attribute x "replace" ap) [.Constant (.str Y) W p,.Constant (.str z) B P] [] pos) (.qF a Y z):=λh=>⟨λK k=>Gh hm uY PySem.F.slot_str_replace PySem.F.type_str_replace (M h) K λO O h u Z R s1 q1=>by
 induction NF h with
 |mk e g=>
  clear h;subst e;refine jy g λi v L g=>aV (Rd.dK q1) λt' H=>sb H<|⟨typeIs_str _ _ _,nofun,spliced_cons<|Constant_str (k:=W) (pos:=p)<|spliced_cons<|Constant_str (k:=B) (pos:=P)<|spliced_nil ?_⟩
  have o:=R.t;refine wpAny_toks (SC.replace (λq=>QGv (q:Z.s.toks=0)<|wN ‹_›) (λq=>QGv (q:Z.s.toks+1=0)<|by (clear q;lia -abstractProof)) (λq=>QGv (q:Z.s.toks=Z.s.toks+1)<|by (clear q;exact λK=>kn<|nR K)) n (by erw[L];(clear g;exact az ‹_› (gA _ _))) λt' tk l=>?_)
  exact ((k _ _ g).tr s1).same R (Rd.str _ _)<|az (mL _ 2) l⟩
theorem QCN:vY D C aF .none:= @λO O h=>λK k=>Hk<|(k _ _ h).id K Rd.none
theorem Xh (h:aZ D C x a):vY D C (aA x) a:=λe=>λK k=>wpAny_evalPart_some<|(h e).run K k
theorem TL {lo d st:Option aP} (s: ∀o i,∃ops,wY (.Slice lo d st p) aE o i=wZ ops (wc o i)) (A:aZ D C x a) (hl:vY D C lo U) (H:vY D C d j) (hs:vY D C st es):
 aZ D C (.Subscript x (.Slice lo d st p) pos) (.dM a U j es):=λh=>⟨λK k=>Pc ((A h).run K λO O h p L R s1 q1=>wpAny_Slice (hl h R λO O h f N P s2 q2=>H h P λO O h p3 Z c s3 Y=>hs h c λO O h u z q s4 Q=>by
  induction h with|mk e g=>exact Ui e q (q1.mon<|(s2.trans s3).trans s4) (q2.mon<|s3.trans s4) (Y.mon s4) Q s<|(k _ _ g).tr<|((s1.trans s2).trans s3).trans s4))⟩
end
theorem map_some {α β:Type} {x:Option α} {f:α->β} {b:β} (h:x.map f=aA b): ∃a,x=aA a/\f a=b:=lL.mp h
theorem QDU: ∀(names:List (aG×dQ)) (h:bK) (acc:List (aG×aM)) (x:aG) (c:aM),(jO h.objs.size names acc).lookup x=aA c->
 acc.lookup x=aA c/\(x,mM)∉names\/(h.objs.size<=c/\(kD h names).IsCell c aF/\(x,mM)∈names):=by
 intro O;induction O with
 |nil=>exact λh acc x c e=>.inl ⟨e,by simp⟩
 |cons O r i=>
  obtain ⟨n,k⟩:=O
  exact λh acc x c e=>by
   unfold jO at e;dsimp only[kD];by_cases K:(k==mM)=aB
   ·rw[if_pos K] at e⊢
    rw[beq_iff_eq] at K;erw[K];have hs:(h.push {cls:=.type "cell",data:=.cell aF}).objs.size=h.objs.size+1:=Ct ..;rw[<-hs] at e;rcases i _ _ x c e with ⟨e1,e2⟩|⟨e1,e2,p⟩
    ·rw[iK] at e1
     by_cases M:(x==n)=aB
     ·rw[M] at e1
      clear hs;cases e1;rw[beq_iff_eq] at M;exact sb M<| .inr ⟨Nat.le_refl _,(show (h.push {cls:=.type "cell",data:=.cell none}).IsCell h.objs.size none from (ax _ (Heap.get?_push_size _ rfl) rfl)).keeps λb o e=>Pj _ _ b o e,.head _⟩
     ·rw[QEK] at M
      rw[M] at e1;refine .inl ⟨e1,λq=>?_⟩;refine cp (bp.mp q) (λq=>?_) λq=>?_
      ·clear e e1 e2
       cases q
       simp -iota at M
      ·exact e2 q
    ·exact .inr ⟨by exact aQ e1,e2,.tail _ p⟩
   ·rw[if_neg K] at e⊢
    rcases i _ _ x c e with ⟨e1,e2⟩|⟨e1,e2,p⟩
    ·refine .inl ⟨e1,λq=>?_⟩
     refine cp (bp.mp q) (λq=>?_) λq=>?_
     ·clear e e1 e2
      cases q
      exact K rfl
     ·exact e2 q
    ·exact .inr ⟨e1,e2,.tail _ p⟩
theorem A8: ∀(names:List (aG×dQ)) (n:Nat) (acc:List (aG×aM)) (x:aG),((x,mM)∉names->(jO n names acc).lookup x=acc.lookup x)/\((x,mM)∈names\/(acc.lookup x).isSome->((jO n names acc).lookup x).isSome):=by
 intro O;induction O with
 |nil=>exact λn acc x=>⟨λO=>rfl,λh=>by simpa -iota [jO] using h⟩
 |cons O r d=>
  obtain ⟨m,k⟩:=O
  exact λn acc x=>by
   dsimp only[jO];by_cases K:(k==mM)=aB
   ·erw[if_pos K]
    rw[beq_iff_eq] at K;refine sb K<|bI (d (n+1) ((m,n)::acc) x) λi1 i=>⟨λq=>?_,λq=>i ?_⟩
    ·simp! only[i1 λz=>q<|.tail _ z,iK]
     have:(x==m)=false:=by
      by_cases e:x=m
      ·clear i1 i
       subst e;exact QGv (.head _) q
      ·exact QHB e
     exact sb this rfl
    ·by_cases e:x=m
     ·exact .inr (by simp! only[iK,QGy.mpr e];rfl)
     ·rcases q with q|q
      ·rcases bp.mp q with q|q
       ·clear i1 i
        cases q
        exact QGv rfl e
       ·exact .inl q
      ·exact .inr (by simp! only[iK,QHB e];exact q)
   ·refine sb (QGw K)<|bI (d n acc x) λi1 i=>⟨λq=>i1 λz=>q<|.tail _ z,λq=>i ?_⟩
    rcases q with q|q
    ·rcases bp.mp q with q|q
     ·clear i1 i
      cases q
      exact QGv rfl K
     ·exact .inl q
    ·exact .inr q
set_option tactic.hygienic true in
theorem Vj: ∀(names:List (aG×dQ)) (n:Nat) (a:List (aG×aM)) (P:aG->aM->Prop),(∀y c,a.lookup y=aA c->c<n)->(∀x y c,a.lookup x=aA c->a.lookup y=aA c->x=y)->
 ∀x y c,(jO n names a).lookup x=aA c->(jO n names a).lookup y=aA c->x=y:=by
 intro O;induction O with
 |nil=>exact λn a P l i=>i
 |cons O r d=>
  obtain ⟨m,k⟩:=O
  exact λn a P l i=>by
   dsimp only[jO];by_cases K:(k==mM)=aB
   ·refine sb (QGx K)<|d (n+1) ((m,n)::a) P (λy c e=>?_) λx y c e u=>?_
    ·rw[iK] at e
     split at e
     ·cases e;exact uZ _
     ·exact sN<|l y c e
    ·rw[iK] at e u
     split at e<;>split at u
     ·rename_i H _ h
      rw[beq_iff_eq] at H h;exact sb H<|sb h rfl
     ·cases e;exact QGv (l y _ u)<|mG _
     ·cases u;exact QGv (l x _ e)<|mG _
     ·exact i x y c e u
   ·exact sb (QGw K)<|d n a P l i
theorem Af {α:Type}: ∀{l:List (aG×α)} {n:aG} {c:α},(l.map (·.1)).Nodup->(n,c)∈l->l.lookup n=aA c:=by
 intro l;induction l with
 |nil=>exact λO h=>nomatch h
 |cons a r i=>
  exact @λn c N h=>by
   obtain ⟨k,v⟩:=a;simp only[gB,Pk] at N;rcases bp.mp h with e|h'
   ·clear h N i
    cases e
    simp only[iK,beq_self_eq_true]
   ·have:(n==k)=false:=by
     by_cases e:n=k
     ·clear h i
      subst e;exact QGv (ij.mpr<|ax (n,c) h' rfl) N.1
     ·exact QHB e
    simp only[iK,this];exact i N.2 h'
theorem Ek (names:List (aG×dQ)) (h:bK) (o:bH) (b:aM) (ob:bH) (e:h.get? b=aA ob):(kD (h.push o) names).get? b=aA ob:=Pj _ _ _ _<|gS _ e
theorem EK {P:u9} {G:bK} {C:Fc} {h:bK} {names:List (aG×dQ)} {cl:List (aG×aM)} {env:cg} {Ob W:aM->Prop} {φ:Nat->Option aM} {r:bR} {T:aI}
 (aa:(names.map (·.1)).Nodup) (e1:env.locals=h.objs.size) (e2:env.cells=jO (h.objs.size+1) names cl) (ek:env.scope.kind=.function) (eK: ∀x,env.kindOf x=C.K x) (eg:env.globals=nM) (eb:env.builtins=ic) (B: ∀c q,C.cd=aA (c,q)->env.code=.ref c/\env.qual=q)
 (hl: ∀x i,C.K x=aA .local->C.cM x=aA i->r i=.unb)
 (hc: ∀x i,C.K x=aA .cell\/C.K x=aA .free->C.cM x=aA i->(names.lookup x=aA .cell/\r i=.unb)\/(names.lookup x=aA .free/\ ∃c v,cl.lookup x=aA c/\h.IsCell c v/\dh P φ env.cells (Ex Ob W) h i v (r i)))
 (hs: ∀x,C.K x=aA .cell->C.rn x=aB->names.lookup x=aA .cell)
 (t: ∀x c,cl.lookup x=aA c-> ∃o,h.get? c=aA o) (U: ∀x y c,cl.lookup x=aA c->cl.lookup y=aA c->x=y)
 (base: ∀b o,G.get? b=aA o->h.get? b=aA o) (g: ∀b o,G.get? b=aA o-> ¬ Ex Ob W b)
 (own: ∀i xs,r i=.own xs-> ∃a vs n,φ i=aA a/\h.get? a=aA (listOf vs.toArray n)/\bB (Ex Ob W) h vs xs)
 (s:C.ow=aB-> ∀i xs a,r i=.own xs->φ i=aA a->i≠aT->W a) (F: ∀xs,r aT=.own xs->r bQ=.emp-> ∀a,φ aT=aA a->W a) (H: ∀xs,r aT=.own xs->r bQ≠ .emp-> ∀a,φ aT=aA a-> ¬ W a)
 (R:(∀xs,r aT≠ .own xs)->φ aT=aF) (inj: ∀i j a,φ i=aA a->φ j=aA a->i=j) (A: ∀i a,φ i=aA a-> ∃o,h.get? a=aA o) (l: ∀a,Ex Ob W a-> ∃o,h.get? a=aA o) (ab: ∀a,W a-> ¬ Ob a) (inv:P.Inv (Ex Ob W) h) (pf: ∀a,P.PF a->W a):
 FR P G C env Ob φ (λa=>W a\/(h.get? a=aF/\ ∃o,(kD (h.push {cls:=T,data:=.dict #[]}) names).get? a=aA o)) r (kD (h.push {cls:=T,data:=.dict #[]}) names):=by
 have Z: ∀b o,h.get? b=aA o->(kD (h.push {cls:=T,data:=.dict #[]}) names).get? b=aA o:=Ek names h _
 have m:Mon (Ex Ob W) h (Ex Ob λa=>W a\/(h.get? a=aF/\ ∃o,(kD (h.push {cls:=T,data:=.dict #[]}) names).get? a=aA o)) (kD (h.push {cls:=T,data:=.dict #[]}) names):=
  λa o e n=>⟨Z a o e,λq=>by
   rcases q with q|q|⟨q,_⟩
   ·exact n<|.inl q
   ·exact n<|.inr q
   ·exact vH e q⟩
 have gk: ∀i v sl,dh P φ env.cells (Ex Ob W) h i v sl->dh P φ env.cells (Ex Ob λa=>W a\/(h.get? a=aF/\ ∃o,(kD (h.push {cls:=T,data:=.dict #[]}) names).get? a=aA o)) (kD (h.push {cls:=T,data:=.dict #[]}) names) i v sl:=by
  intro i v sl x;induction sl with
  |dz n=>exact iU x λa q e1 e2 e3 e4=>(jX a q e1 (m _ _ e2 e3).1 (m _ _ e2 e3).2 e4)
  |_=>exact x.mon m λn e=>by contradiction
 have N: ∀a,h.objs.size<=a->h.get? a=none:=λa ha=>ie ha;have hsz:(h.push {cls:=T,data:=.dict #[]}).objs.size=h.objs.size+1:=Ct ..;have f:(kD (h.push {cls:=T,data:=.dict #[]}) names).Ns env.locals (λO=>aF):=sb e1<|(Heap.Ns.new h T).keeps λb o e=>Pj _ _ b o e
 have cell: ∀x c,env.cells.lookup x=aA c->(cl.lookup x=aA c/\(x,mM)∉names)\/(h.objs.size+1<=c/\(kD (h.push {cls:=T,data:=.dict #[]}) names).IsCell c aF/\(x,mM)∈names):=λx c e=>by rw[e2,<-hsz] at e;have:=QDU names _ cl x c e;rw[hsz] at this;exact this
 refine ⟨λb o e=>Z b o<|base b o e,λb o e q=>?_,ek,eK,eg,eb,B,(ax _ f (λx i a b=>by erw[hl x i a b];trivial)),.inr ⟨(by erw[e1];exact N _ (bh _):h.get? env.locals=aF),let ⟨o,_,_,q,_⟩:=f;⟨o,q⟩⟩,λx i a b=>?_,λx i c a b d e=>?_,λx y c e u=>?_,λi xs e=>?_,λcc i xs a e u n=>.inl<|s cc i xs a e u n,λxs e u a q=>.inl<|F xs e u a q,λxs e u a q w=>?_,R,inj,λi a e=>let ⟨o,q⟩:=A i a e;⟨o,Z _ _ q⟩,λa q=>?_,λa q Q=>?_,P.iS inv m λa p=>?_,λa p=>.inl<|pf a p⟩
 ·have:=g b o e
  rcases q with q|q|⟨q,_⟩
  ·exact this (.inl q)
  ·exact this (.inr q)
  ·exact vH (base b o e) q
 ·rcases hc x i a b with ⟨Y,L⟩|⟨Y,c,v,L,n3,n4⟩
  ·have M:=mem_of_lookup Y
   refine aV (mO.mp<|(A8 names (h.objs.size+1) cl x).2<|.inl M) λc q=>?_;rw[<-e2] at q;rcases cell x c q with ⟨_,Q⟩|⟨_,Q,_⟩
   ·exact QGv M Q
   ·exact (dA c aF q Q (by erw[L];trivial))
  ·have M:(x,mM)∉names:=λz=>by rw[Af aa z] at Y;contradiction
   have q:=(A8 names (h.objs.size+1) cl x).1 M;rw[<-e2] at q;exact (dA c v (q.trans L) (n3.keeps Z)<|gk _ _ _ n4)
 ·have Y:=hs x a b
  rcases cell x c e with ⟨_,Q⟩|⟨q,⟨o,Q,_⟩,_⟩
  ·exact QGv (mem_of_lookup Y) Q
  ·exact .inr ⟨N _<|Hl q,o,Q⟩
 ·rw[e2] at e u
  exact Vj names (h.objs.size+1) cl (λO O=>True) (λy c e=>by refine aV (t y c e) λo q=>?_;exact sN<|kg q) U x y c e u
 ·exact dS (own i xs e) λa vs n q1 q2 q3=>(lz a vs n q1 (Z _ _ q2)<|q3.mon m)
 ·rcases w with w|⟨w,_⟩
  ·exact H xs e u a q w
  ·exact aV (A _ _ q) λo z=>vH z w
 ·rcases q with q|q|⟨_,q⟩
  ·exact aV (l a<|.inl q) λo z=>⟨o,Z _ _ z⟩
  ·exact aV (l a<|.inr q) λo z=>⟨o,Z _ _ z⟩
  ·exact q
 ·rcases q with q|⟨q,_⟩
  ·exact ab a q Q
  ·refine aV (l a<|.inl Q) λo z=>?_
   rw[z] at q;exact pR q
 ·exact cR (P.iM inv p) λo vs e O=>sb e<|Z a o e
theorem MZ {M:Cu} {A:cV} {E:aI->aN->Prop} {s:aN} {scope:jP} {globals:aM} {cl:List (aG×aM)} {binds:List (aG×aI)} {qual:aG} {f:Option aM} {code:aI} {a:Option cg} {builtins:aM} {Q:cg->aN->Prop}
 (h: ∀env,env=Hm scope s.heap.objs.size globals (jO (s.heap.objs.size+1) scope.names cl) qual f code a builtins->
  aO M A (forIn binds lO λx O=>do Cm env x.1 x.2;pure (ou lO)) (λO n=>Q env n) E {s with heap:=kD (s.heap.push {cls:=.type<|if a.isSome then "dict" else "frame",data:=.dict #[]}) scope.names}):
 aO M A (Ho scope globals cl binds qual f code a builtins) Q E s:=by
 dsimp only[Ho];refine aR<|Hp ?_;refine aR (wpAny_layCells _ (λN v c=>by cases K:v==mM<;>(rfl)) _ _ _ _ ?_);erw[Ct ..];have:=h _ rfl;clear h;induction a with
 |none=>exact aR<|eX this (λO n H=>bA H) λO O x=>x
 |some o=>exact aR<|eX this (λO n H=>bA H) λO O x=>x
noncomputable def n5:Str:= ".0"
theorem vZ {α:Type}: ∀{l:List (aG×α)} {x:aG} {k:α},l.lookup x=aA k->l.findIdx (·.1==x)<l.length/\ ∃p,l[l.findIdx (·.1==x)]?=aA p/\p.1=x:=by
 intro l;induction l with
 |nil=>exact λh=>nomatch h
 |cons a r d=>
  exact @λx k h=>by
   obtain ⟨n,v⟩:=a
   simp! only[iK] at h
   by_cases e:x=n
   ·erw[e]
    simp -iota [QEL]
   ·have e1:=QHB e
    simp! only[e1] at h
    have H:=(d h);have i1:=H.1;have m:=H.2;refine aS m λp i u=>?_
    simp! only[QEL,(QHB λq=>e q.symm)]
    exact ⟨by simpa -iota using i1,p,by simpa -iota using i,u⟩
noncomputable def j8 (k:dQ):Bool:=k==.local||k==.cell
noncomputable def Fc.sub (C:Fc) (names:List (aG×dQ)) (r own:Bool) (hb:C.bd+200<=1000000/\names.length<=200):Fc where
 K x:=(names.lookup x).map λk=>if r && k==.free && C.K x==aA .cell then .cell else k
 cM x:=match names.lookup x with
  |some k=>if j8 k then (if x==n5 then aF else aA (C.bd+names.findIdx (·.1==x))) else if k==.free then C.cM x else aF
  |none=>aF
 rn x:=match names.lookup x with|some k=>j8 k|none=>aE
 inj:=by
  intro x y i A H;induction M:names.lookup x with
  |none=>rw[M] at A;exact ay A
  |some k=>
   induction hy:names.lookup y with
   |none=>rw[hy] at H;exact ay H
   |some R=>
    rw[M] at A;rw[hy] at H;dsimp only at A H;have B: ∀{z:aG} {kz:dQ},(if z==n5 then aF else aA (C.bd+names.findIdx (·.1==z)))=aA i->C.bd<=i:=λh=>by split at h<;>cases h;exact mL _ _
    split at A<;>split at H
    ·split at A
     ·exact ay A
     ·split at H
      ·exact ay H
      ·have:names.findIdx (·.1==x)=names.findIdx (·.1==y):=by
        have a:=kB A;have b:=kB H;clear H A;exact rF a b.symm
       have g:=(vZ M);have o:=g.2;refine aS o λp v n=>?_;have N:=(vZ hy);have Y:=N.2;refine aS Y λq u m=>?_
       simp! only[this,u] at v
       clear u;cases v
       simp! only[<-n,<-m]
    ·split at H
     ·exact QGv (B (kz:=k) A)<|Hr<|C.rK _ _ H
     ·exact ay H
    ·split at A
     ·exact QGv (B (kz:=k) H)<|Hr<|C.rK _ _ A
     ·exact ay A
    ·split at A
     ·split at H
      ·exact C.inj x y i A H
      ·exact ay H
     ·exact ay A
 bd:=C.bd+200
 rK:=by
  intro x i h;induction M:names.lookup x with
  |none=>rw[M] at h;exact ay h
  |some k=>
   rw[M] at h;dsimp only at h
   split at h
   ·split at h
    ·exact ay h
    ·have:=(vZ M).1
     have a:=kB h;have:=hb.2;clear h hb;exact (bD (na (nR a) ‹List.findIdx (λe=>e.fst==x) names<names.length›) this)
   ·split at h
    ·exact mF (C.rK _ _ h)<|mL _ _
    ·exact ay h
 Bl:=hb.1
 ow:=own
 nw:=aE
 hn:=aE
 cd:=aF
noncomputable def clOf (cells:List (aG×aM)):List (aG×dQ)->List (aG×aM)->List (aG×aM)
 |[],acc=>acc
 |(n,k)::r,acc=>clOf cells r<|if k==.free then (n,(cells.lookup n).getD 0)::acc else acc
theorem BZ {cells:List (aG×aM)} {acc}:clOf cells [] acc=acc:=rfl
theorem AR {cells:List (aG×aM)} {n k r acc}:clOf cells ((n,k)::r) acc=clOf cells r (if k==.free then (n,(cells.lookup n).getD 0)::acc else acc):=rfl
theorem Ny {scope:jP} {env:cg} (h: ∀x∈scope.names,x.2=.free->(env.cells.lookup x.1).isSome=aB):closureFor scope env=pure (clOf env.cells scope.names []):=by
 have v: ∀(names:List (aG×dQ)) (a:List (aG×aM)),(∀x∈names,x.2=.free->(env.cells.lookup x.1).isSome=aB)->
  (forIn names a λ(x:aG×dQ) r=>if (x.2==oy)=aB then do let y<-cellOf env x.1;pure (ou<|(x.1,y)::r) else pure (ou r))=pure (clOf env.cells names a):=by
  intro names;induction names with
  |nil=>intro a _;rfl
  |cons x names i=>
   intro a h;obtain ⟨n,k⟩:=x
   simp! only[ua,BZ,AR]
   by_cases K:(k==oy)=aB
   ·refine aV (mO.mp<|h (n,k) (.head _)<|QGy.mp K) λc C=>?_
    have:cellOf env n=pure c:=by dsimp only[cellOf];exact sb C rfl
    simp! only[K,if_true,this,C,QEM]
    exact i _ λy Y=>h y<|.tail _ Y
   ·simp! only[K,if_false,wm]
    exact i _ λy Y=>h y<|.tail _ Y
 dsimp only[closureFor];have:=v scope.names [] h
 simp! only[bind_pure]
 exact this
theorem yZ {cells:List (aG×aM)}: ∀(names:List (aG×dQ)) (acc:List (aG×aM)),(∀x∈names,x.2=.free->(cells.lookup x.1).isSome=aB)->(∀y c,acc.lookup y=aA c->cells.lookup y=aA c)->
 (∀y c,(clOf cells names acc).lookup y=aA c->cells.lookup y=aA c)/\ ∀y,((y,oy)∈names\/(acc.lookup y).isSome=aB)↔((clOf cells names acc).lookup y).isSome=true:=by
 intro O;induction O with
 |nil=>exact λacc O a=>⟨a,λy=>by simp -iota [BZ,AR]⟩
 |cons O r d=>
  obtain ⟨n,k⟩:=O
  exact λacc h a=>by
   have R: ∀x∈r,x.2=.free->(cells.lookup x.1).isSome=true:=λx M=>h x<|.tail _ M;dsimp only[BZ,AR];by_cases K:(k==oy)=aB
   ·refine sb (QGx K)<|aV (Option.isSome_iff_exists.mp<|h (n,k) (.head _)<|beq_iff_eq.mp K) λc C=>?_
    simp! only[C,QEM]
    refine bI (d ((n,c)::acc) R λy g e=>by
     rw[iK] at e;by_cases q:y=n
     ·clear h
      subst q;rw[beq_self_eq_true] at e;cases e;exact C
     ·rw[beq_false_of_ne q] at e
      exact a y g e) λi1 i=>?_
    refine ⟨i1,λy=>Iff.trans ⟨λq=>?_,λq=>?_⟩<|i y⟩
    ·by_cases z:y=n
     ·exact sb z<| .inr (by simp! only[List.lookup_cons,beq_self_eq_true];rfl)
     ·rcases q with q|q
      ·rcases bp.mp q with q|q
       ·clear h K C i1 i
        cases q
        exact QGv rfl z
       ·exact .inl q
      ·exact .inr (by simp! only[iK,QHB z];exact q)
    ·by_cases z:y=n
     ·exact sb z<| .inl (by erw[beq_iff_eq.mp K];exact .head _)
     ·rcases q with q|q
      ·exact .inl<|.tail _ q
      ·simp! only[iK,QHB z] at q
       exact .inr q
   ·refine sb (QGw K)<|bI (d acc R a) λi1 i=>⟨i1,λy=>Iff.trans ⟨λq=>?_,λq=>q.imp (.tail _) id⟩<|i y⟩
    rcases q with q|q
    ·rcases bp.mp q with q|q
     ·clear h
      cases q
      exact QGv rfl K
     ·exact .inl q
    ·exact .inr q
theorem QBE {env:cg} {C:Fc} (s:env.scope.kind=.function) (W: ∀x,env.kindOf x=C.K x): ∀(names:List (aG×dQ)) (x:aG),
 (names.map λ(n,k)=>if (k==oy && env.scope.kind==.function && env.kindOf n==aA .cell) then (n,mM) else (n,k)).lookup x=(names.lookup x).map λk=>if aB && k==.free && C.K x==aA .cell then .cell else k:=by
 intro O;induction O with
 |nil=>exact λx=>rfl
 |cons O r i=>
  obtain ⟨n,k⟩:=O
  exact λx=>by
   have i:=i x;refine sb gB<|sb (List.lookup_cons (b:=k)) ?_
   have step: ∀(p:aG×dQ) (l:List (aG×dQ)),p.1≠x->QEN x (p::l)=QEN x l:=λp l P=>by obtain ⟨F,Q⟩:=p;exact sb iK<|sb (beq_false_of_ne<|Ne.symm P) rfl
   by_cases e:x=n
   ·subst e
    have:((if (k==oy && env.scope.kind==.function && env.kindOf x==aA .cell) then (x,mM) else (x,k)))=(x,if aB && k==.free && C.K x==aA .cell then .cell else k):=by
     refine sb s<|sb (W x) ?_
     have:(ScopeKind.function==ScopeKind.function)=true:=rfl
     simp! only[this,Pm,Co]
     split<;>rfl
    dsimp only;rw[this,iK,beq_self_eq_true];rfl
   ·have h:=QHB e
    exact sb (step _ _ (by dsimp only;split<;>exact λq=>e q.symm))<|sb i<|sb h rfl
structure jf (C:Fc) (env:cg) (φ:Nat->Option aM) (I:aM):Prop where
 p: ∀i,φ i≠aA I
 l:env.locals≠I
 c: ∀x i c,(C.K x=aA .cell\/C.K x=aA .free)->C.cM x=aA i->env.cells.lookup x=aA c->c≠I
section
variable {Ob Ob₁ Ob₂ Z W W':aM->Prop} {φ φ':Nat->Option aM} {r:bR} {h h':bK}
theorem FR.A7 (F:FR P G C env Ob φ W r h) {I:aM} (e:h.get? I=aF):jf C env φ I:=by
 refine ⟨λi q=>?_,λq=>?_,λx i c a b q z=>?_⟩
 ·exact aV (F.jx i I q) λo w=>cb e w
 ·refine aS F.loc λm R O=>oh R λo O O w O=>?_
  simp! only[q,e] at w
  exact ay w
 ·refine bf (F.hF x i a b) λg v w Q O=>aS Q λo d O=>?_
  rw[q] at w;clear q Q;cases w;rw[z,e] at d;exact ay d
theorem jf.not (nf: ∀a,Z a->jf C env φ a) {a:aM} (q:Jz C env φ a): ¬ Z a:=λz=>q.elim (λq=>q.elim λi e=>(nf a z).p i e) λq=>bf q λx i k t e=>(nf a z).c x i a k t e rfl
theorem FR.Fh (F:FR P G C env Ob₁ φ W r h) (u: ∀a,Z a->Ob₁ a) (nf: ∀a,Z a->jf C env φ a) (k: ∀a o,h.get? a=aA o-> ¬ Z a-> ¬ P.PF a->h'.get? a=aA o) (L: ∀a,Ob₂ a->(Ob₁ a\/h.get? a=aF)/\ ∃o,h'.get? a=aA o) (i:P.Inv (Ex Ob₂ W) h'):
 FR P G C env Ob₂ φ W r h'/\Mon (Ex Ob₁ W) h (Ex Ob₂ W) h':=by
 have m:Mon (Ex Ob₁ W) h (Ex Ob₂ W) h':=λa o e n=>⟨k a o e (λq=>n<|.inl<|u a q) λq=>n<|.inr<|F.pf a q,λq=>n<|q.imp (λq=>(L a q).1.resolve_right λz=>cb z e) id⟩;refine ⟨F.chg m (λa o e s f=>k a o e (jf.not nf f)<|F.np e s.nf) (λm n=>GX n λo e d=>k _ o e (λz=>(nf _ z).l rfl)<|F.np e d) (λa q=>?_) (λa w q=>?_) i,m⟩
 ·rcases q with q|q|q
  ·exact F.F0 k i (jf.not nf<|.inl q)<|F.al<|.inl q
  ·exact (L a q).2
  ·exact F.F0 k i (λz=>F.dT a q<|u a z)<|F.dc a<|.inr q
 ·exact (L a q).1.elim (F.dT a w) λz=>aV (F.dc a<|.inr w) λO e=>cb z e
theorem FR.move (F:FR P G C env Ob₁ φ W r h) (u: ∀a,Z a->Ob₁ a) (nf: ∀a,Z a->jf C env φ a) (k: ∀a o,h.get? a=aA o-> ¬ Z a->h'.get? a=aA o) (L: ∀a,Ob₂ a->(Ob₁ a\/h.get? a=aF)/\ ∃o,h'.get? a=aA o):
 FR P G C env Ob₂ φ W r h'/\Mon (Ex Ob₁ W) h (Ex Ob₂ W) h':=
 F.Fh u nf (λa o e z O=>k a o e z) L (P.iS F.inv (λa o e n=>⟨k a o e λq=>n<|.inl<|u a q,λq=>n<|q.imp (λq=>(L a q).1.resolve_right λz=>cb z e) id⟩)<|F.tu λa o O e O p=>k a o e λz=>F.dT a (F.pf a p)<|u a z)
theorem FR.RR (o:List Nat) (d: ∀i∈o,i≠bQ/\i≠aT): ∀{r:bR},FR P G C env Ob φ W r h->FR P G C env Ob φ W (o.foldl (λr i=>upd r i .unb) r) h:=by
 induction o with
 |nil=>intro r F;exact F
 |cons i o e=>intro r F;exact e (λj s=>d j<|.tail _ s)<|F.forget i (d i<|.head _).1 (d i<|.head _).2
end
noncomputable def j3 (t:cQ):List Nat:=match t with
 |.one i=>[i]
 |.tup o=>o
theorem vp (t:cQ) (r:bR):fZ t r=(j3 t).foldl (λr i=>upd r i .unb) r:=by induction t<;>rfl
theorem zO: ∀(o:List Nat) (r:bR) (j:Nat),(o.foldl (λr i=>upd r i .unb) r) j=if j∈o then .unb else r j:=by
 intro O;induction O with
 |nil=>exact λr j=>by rfl
 |cons i o d=>
  exact λr j=>by
   simp! only[oo,d]
   by_cases h:j∈o
   ·simp -iota [h]
   ·by_cases H:j=i
    ·subst H
     simp -iota [upd]
    ·simp -iota [h,H,upd]
theorem Xp: ∀(ps:List (Nat×aK)) (r:bR) (j:Nat),j∉ps.map (·.1)->(ps.foldl (λr p=>upd r p.1<|.val p.2) r) j=r j:=by
 intro O;induction O with
 |nil=>exact λr j O=>rfl
 |cons p ps i=>
  exact λr j h=>by
   refine sb oo<|sb (i _ j λq=>h (by rw[gB];exact .tail _ q)) ?_
   unfold upd;rw[if_neg λq=>h (by rw[gB,q];exact .head _)]
theorem QAT {t:cQ} {x:aK} {r r':bR} (e:og t x r=aA r'):fZ t r'=fZ t r:=by
 funext j;simp only[vp,vp,zO,zO];by_cases s:j∈j3 t
 ·simp only[if_pos s,if_pos s]
 ·simp only[if_neg s,if_neg s]
  induction t with
  |one i=>
   cases e
   unfold upd;rw[if_neg];intro q;exact s (by simp[j3,q])
  |tup is=>
   have K: ∀xs:List aK,(if xs.length=is.length then aA ((is.zip xs).foldl (λr p=>upd r p.1<|.val p.2) r) else aF)=aA r'->r' j=r j:=λxs e=>by
    split at e
    ·cases e
     exact Xp _ _ _ λq=>s<|aS (List.mem_map.mp q) λp q1 q2=>cv q2<|(List.of_mem_zip q1).1
    ·exact ay e
   unfold og at e;cases x<;>dsimp only at e<;>first|exact K _ e|(exact ay e)
section
theorem ZE {M:Cu} {A:cV} {s:aN} {env:cg} {Q:Bool->aN->Prop} {E:aI->aN->Prop} (h:Q aE s): ∀xs:List aP,
 aO M A (forIn xs aE λc r=>if r=aB then do let o<-zW c env (bz c env);pure (ou o) else pure (ou r)) Q E s:=by
 intro O;induction O with
 |nil=>exact by simp! only[zY];exact bA h
 |cons x xs i=>
  exact by
   simp! only[ua]
   skip
   exact aR<|bA<|i
end
section
variable {C:Fc}
structure mc (C:Fc) (scope:jP) (t:cQ) (target iter:aP):Prop where
 nd:(scope.names.map (·.1)).Nodup
 kind:scope.kind=.function
 free: ∀x∈scope.names,x.2=.free->(C.cM x.1).isSome=aB/\(C.K x.1=aA .cell\/C.K x.1=aA .free)
 tid: ∀x∈scope.names,j8 x.2=aB->(x.1==n5)=aE->(C.bd+scope.names.findIdx (·.1==x.1))∈j3 t
 zD: ∀i∈j3 t,C.bd<=i/\i<1000000
 fold: ∀env x,Hu iter env x=pure x
theorem oP {names:List (aG×dQ)} {r own:Bool} {hb:C.bd+200<=1000000/\names.length<=200} {x:aG} {k:dQ} (h:(C.sub names r own hb).K x=aA k):
 (names.lookup x=aA k)\/(k=.cell/\names.lookup x=aA .free/\C.K x=aA .cell/\r=aB):=by
 refine aS (map_some h) λb u e=>?_
 split at e
 ·rename_i c
  simp! only[gn,QGy] at c
  exact .inr (kr e.symm (by (erw[u];exact sb c.1.2 rfl)) c.2 c.1.1)
 ·exact cv e<| .inl u
end
noncomputable def Fx.add (X:Fx) (I:aM):Fx:={X with Ob:=λa=>X.Ob a\/a=I}
noncomputable def vC:List String:=["enumerate","zip","dict_itemiterator","dict_reverseitemiterator","odict_iterator","itertools.zip_longest","itertools.pairwise"]
structure It (D:Wd) (C:Fc) (X:Fx) (r:bR) (z z':Zs) (fl:Bool) (xs:List aK) (J:aM) (fp:List aM) (P:Nat->aI->Prop) (St:Nat->bK->Prop):Prop where
 F:FX D C (X.add J) r z'
 nJ: ¬ Ex X.Ob z'.W J
 nf:jf C X.env z'.φ J
 sx:Sx z z'
 new: ∀a o,z.s.heap.get? a=aA o-> ¬ z.W a->a≠J
 walk:sO D.prog D.w X.A J fp [J] xs.length P St
 st:St 0 z'.s.heap
 alive: ∀i h,St i h-> ∃o T,h.get? J=aA o/\o.cls=.type T/\vC.contains T=aE
 oV: ∀b∈fp,∃o,z'.s.heap.get? b=aA o
 PR:fl=aB-> ∀b∈fp,b≠J-> ¬ z'.W b
 M7: ∀b∈fp, ¬ D.P.PF b
 items: ∀i v,P i v-> ∃d,xs[i]?=aA d/\Rz (X.add J) z' v d
noncomputable def KI (D:Wd) (C:Fc) (X:Fx) (r:bR) (z:Zs) (fl:Bool) (xs:List aK) (Q:aI->aN->Prop):Prop:= ∀Z J f P St,It D C X r z Z fl xs J f P St->Q (.ref J) Z.s
noncomputable def Yo (D:Wd) (C:Fc) (X:Fx) (z:Zs) (fl:Bool) (K:List aK->Ls->Prop) (Q:aI->aN->Prop):Prop:= ∀x l,K x l->KI D C X (aL l) z fl x Q
noncomputable def hj (D:Wd) (C:Fc) (fl:Bool) (x:aP) (i:I):Prop:= ∀{l K},i D.o fl l K-> ∀{X:Fx} {z:Zs} {Q:aI->aN->Prop} {Er:aI->aN->Prop},FX D C X (aL l) z->Yo D C X z fl K Q->
 aO (aY D.prog D.w) X.A (bz x X.env) (λu N=>aO (aY D.prog D.w) X.A (zZ u) Q Er N) Er z.s
noncomputable def nH (D:Wd) (C:Fc) (x:aP) (t:cQ):Prop:= ∀{d r R},og t d r=aA R-> ∀{X:Fx} {z:Zs} {v:aI} {Q:Unit->aN->Prop} {Er:aI->aN->Prop},FX D C X r z->Rz X z v d->
 (∀Z,FX D C X R Z->Sx z Z->Z.W=z.W->Q () Z.s)->aO (aY D.prog D.w) X.A (mP x X.env v) Q Er z.s
structure lJ (C:Fc) (nm:aG) (i:Nat):Prop where
 t:C.cM nm=aA i
 s:C.rn nm=aB
 k:C.K nm=aA .local\/C.K nm=aA .cell
noncomputable def cw (C:Fc) (nm:aG) (i:Nat):Bool:=(C.cM nm==aA i) && C.rn nm && (match C.K nm with|some .local=>aB|some .cell=>aB|_=>aE)
theorem fm (h:cw C nm i=aB):lJ C nm i:=by
 refine bI (f7.mp h) λh H=>bI (f7.mp h) λA m=>⟨QGy.mp A,m,?_⟩;generalize C.K nm=k at H
 match k,H with
 |some .local,_=>exact .inl rfl
 |some .cell,_=>exact .inr rfl
theorem Fc.mz (C:Fc) (h:C.cM nm=aA i):i≠bQ/\i≠aT:=by have l:=C.low nm i h;exact ⟨λq=>by rw[q] at l;exact QGv l (by decide),λq=>by rw[q] at l;exact QGv l<|by decide⟩
section
variable {fl:Bool}
theorem Sx.fresh {J:aM} (s:Sx z z') (e:z.s.heap.get? a=aA o) (n: ¬ z.W a):z'.s.heap.get? a=aA o/\ ¬ z'.W a:=⟨s.st.keep a o e n,λq=>(s.st.grow a q).elim n λq=>by rw[e] at q;exact pR q⟩
theorem It.tr {J fp P St} (i:It D C X r z' z'' fl xs J fp P St) (s:Sx z z'):It D C X r z z'' fl xs J fp P St:=⟨i.F,i.nJ,i.nf,s.trans i.sx,λa o e n=>i.new a o (s.fresh (J:=J) e n).1 (s.fresh (J:=J) e n).2,i.walk,i.st,i.alive,i.oV,i.PR,i.M7,i.items⟩
theorem KI.tr (k:KI D C X r z fl xs Q) (s:Sx z z'):KI D C X r z' fl xs Q:=λO O O O O i=>k _ _ _ _ _<|i.tr s
theorem yR (o:lJ C nm i) (K:FX D C X r z) (q:Rz X z v d) (k: ∀z',FX D C X (upd r i<|.val d) z'->Sx z z'->z'.W=z.W->Q () z'.s):aO (aY D.prog D.w) X.A (Cm X.env nm v) Q Er z.s:=bI (C.mz o.t) λa h=>wpAny_toks ((K.F.forget i a h).store o.t o.s o.k (sl:=.val d) (λH O m=>(ax v rfl (Rd.mon q m))) (λx e=>by contradiction) λH Z F S l=>k (z.to H Z) ⟨F,K.R,az K.t l⟩ ⟨S,l,rfl,rfl⟩ rfl)
theorem Gb (o:lJ C nm i):nH D C (.Name nm pos) (.one i):=λe=>λK q k=>by
 cases e
 exact ub<|yR o K q k
theorem wG {ob:bH} {St:Nat->bK->Prop} (K:FX D C X r z) (M:ob.isFreed=aE) (N: ∀b∈fp,b=z.s.heap.objs.size\/((∃o,z.s.heap.get? b=aA o)/\ ¬ D.P.PF b/\(fl=aB-> ¬ z.W b)))
 (len:n=xs.length) (H:sO D.prog D.w X.A z.s.heap.objs.size fp [z.s.heap.objs.size] n P St) (st:St 0 (z.s.heap.push ob)) (x: ∀i h,St i h-> ∃o T,h.get? z.s.heap.objs.size=aA o/\o.cls=.type T/\vC.contains T=aE) (items: ∀i v,P i v-> ∃d,xs[i]?=aA d/\Rz X z v d) (k:KI D C X r z fl xs Q):
 Q (.ref z.s.heap.objs.size) {z.s with heap:=z.s.heap.push ob}:=by
 have u:z.s.heap.get? z.s.heap.objs.size=none:=ie<|bh _;have Z: ∀b o,z.s.heap.get? b=aA o->(z.s.heap.push ob).get? b=aA o:=λO O e=>gS _ e;have Y: ∀b o,z.s.heap.get? b=aA o->b≠z.s.heap.objs.size:=λb o e q=>by simp only[q,u] at e;exact ay e
 subst len;refine k (z.to (z.s.heap.push ob) z.s.toks) _ _ _ _ ⟨⟨K.F.apart Z u ⟨_,fG _ M⟩,K.R,K.t⟩,K.F.th,K.F.A7 u,.kl K (.push ob)<|bh _,λa o e O=>Y a o e,H,st,x,λb B=>?_,λf b B n=>?_,λb B=>?_,λi v e=>?_⟩
 ·rcases N b B with rfl|⟨⟨o,e⟩,_⟩
  ·exact ⟨_,fG _ M⟩
  ·exact ⟨o,Z b o e⟩
 ·exact ((N b B).resolve_left n).2.2 f
 ·rcases N b B with rfl|⟨_,q,_⟩
  ·exact λp=>K.F.th<|.inr<|K.F.pf _ p
  ·exact q
 ·exact aS (items i v e) λd L j=>(ax d L<|Rd.mon j λb o e n=>⟨Z b o e,λq=>q.elim (λq=>q.elim (λq=>n<|.inl q)<|Y b o e) λq=>n<|.inr q⟩)
theorem E6 (K:FX D C X r z) (e:z.s.heap.get? a=aA o) (h: ∀vs,o.data≠ .fields vs): ¬ D.P.PF a:=λp=>by refine cR (D.P.iM K.F.inv p) λH v q d=>?_;obtain rfl:=bM e q;exact h _ d
theorem FO {vs:List aI} (q:iX X z vs xs) {i:Nat} (e:vs.toArray[i]?=aA v): ∃d,xs[i]?=aA d/\Rz X z v d:=by
 rw[zU] at e;have t:i<xs.length:=by erw[<-q.len];exact (zT.mp e).1
 refine aS (q.get<|sP t) λF u p=>?_;obtain rfl:=bM e u;exact (ax _ (sP t) p)
theorem HO {P:aM->Prop} (H:P p) (h:P q): ∀b∈[p,q],P b:=λb B=>by
 cases B with
 |head=>exact H
 |tail _ B=>cases B with|head=>exact h|tail _ B=>contradiction
theorem I8 {a:aM} {vs:List aI} {n:Nat} (K:FX D C X r z) (e:z.s.heap.get? a=aA (listOf vs.toArray n)) (q:iX X z vs xs) (t:fl=aB-> ¬ z.W a) (k:KI D C X r z fl xs Q):aO (aY D.prog D.w) X.A (zZ<|.ref a) Q Er z.s:=by
 exact QEO (gO e) (wG K rfl (HO (.inl rfl)<|.inr ⟨⟨_,e⟩,E6 K e λO=>nofun,t⟩) (by simp only[gm,q.len]:vs.toArray.size=xs.length) (Walks.list K.R.1 z.s.heap.objs.size a (λq=>by simp only[q,ie<|bh _] at e;exact ay e) vs.toArray) ⟨(gc _ (fG _ rfl) rfl rfl),(gO e).push _⟩
  (λi h q=>q.1.elim λo q=>dA o _ q.1 q.2.1<|by decide) (λi v e=>FO q e) k)
theorem b_ {a:aM} {vs:List aI} {n:Nat} (K:FX D C X r z) (e:z.s.heap.get? a=aA {cls:=.type "tuple",data:=.seq vs.toArray n}) (q:iX X z vs xs) (t:fl=aB-> ¬ z.W a) (k:KI D C X r z fl xs Q):aO (aY D.prog D.w) X.A (zZ<|.ref a) Q Er z.s:=by
 exact wpAny_pyIter_tuple ⟨_,e,rfl,_,rfl⟩ (wG K rfl (HO (.inl rfl)<|.inr ⟨⟨_,e⟩,E6 K e λO=>nofun,t⟩) (by simp only[gm,q.len]:vs.toArray.size=xs.length) (Walks.tuple K.R.1 z.s.heap.objs.size a (λq=>by simp only[q,ie<|bh _] at e;exact ay e) vs.toArray) ⟨(gc _ (fG _ rfl) rfl rfl),⟨_,gS _ e,rfl,_,rfl⟩⟩
  (λi h q=>q.1.elim λo q=>dA o _ q.1 q.2.1<|by decide) (λi v e=>FO q e) k)
theorem FY {P:aM->Prop} (h:P p): ∀b∈[p],P b:=λb B=>by
 cases B with
 |head=>exact h
 |tail _ B=>exact nomatch B
theorem Wh {t:fF} (K:FX D C X r z) (k:KI D C X r z fl (m6 x) Q):aO (aY D.prog D.w) X.A (zZ<|.str x t) Q Er z.s:=by
 have l:x.cps.size=(m6 x).length:=by simp[m6]
 have a: ∀i v,SignAt x i v-> ∃d,(m6 x)[i]?=aA d/\Rz X z v d:=λi v q=>q.elim λc q=>q.elim λu q=>ax (.str ⟨#[c]⟩) (by simp[m6,q.1])<|q.2▸Rd.str _ _;cases H:x.cps.all (· <128)
 ·exact wpAny_pyIter_wide H (wG K rfl (FY<|.inl rfl) l (Walks.strWide K.R.1 _ x t) (gc _ (fG _ rfl) rfl rfl) (λi h q=>q.elim λo q=>dA o _ q.1 q.2.1<|by decide) a k)
 ·exact wpAny_pyIter_ascii H (wG K rfl (FY<|.inl rfl) l (Walks.strAscii K.R.1 _ x t) (gc _ (fG _ rfl) rfl rfl) (λi h q=>q.elim λo q=>dA o _ q.1 q.2.1<|by decide) a k)
theorem Ke {m n:Int} (K:FX D C X r z) (q:IsRange z.s.heap g m n 1 t u v) (M: -(2^24)<m/\m<2^24/\ -(2^24)<n/\n<2^24) (k:KI D C X r z fl ((bg (n - m).toNat).map λ(i:Nat)=>cA<|m+(i:Int)) Q):aO (aY D.prog D.w) X.A (zZ<|.ref g) Q Er z.s:=by
 refine wpAny_pyIter_range q (small_one (bE M.1) (bE M.2.1) (bE M.2.2.1)<|bE M.2.2.2)<|sb (by rw[rangeSize_one];split<;>lia -abstractProof:Builtin.Range.rangeSize m n 1=((n - m).toNat))<|wG (St:=λi h=>IsRangeIter h z.s.heap.objs.size (m+(i:Nat)*1) (((n - m).toNat) - (i:Nat)) 1) K rfl (FY<|.inl rfl) (by simp:(n - m).toNat=((bg (n - m).toNat).map λ(i:Nat)=>cA<|m+(i:Int)).length) ((Walks.range (prog:=D.prog) (w:=D.w) K.R.1 z.s.heap.objs.size m 1 (n - m).toNat).bound) ?_ (λi h z=>(dA _ _ z rfl (by decide))) (λi v ⟨d,U,e⟩=>(ax (.int<|m+(i:Int)) (by simp[d]) ?_)) k
 ·show IsRangeIter _ _ _ _ _
  simpa using fG z.s.heap rfl
 ·simp only[e,uc]
  exact Rd.int _ _
theorem BC (K:FX D C X r z) (P:Vz D X z u v) (j:vu r v xs) (M:fl=aB-> ∀i,v=.bor i-> ∀a,z.φ i=aA a-> ¬ z.W a) (k:KI D C X r z fl xs Q):aO (aY D.prog D.w) X.A (zZ u) Q Er z.s:=by
 induction j with
 |s=>exact aV (Rd.dK P) λt g=>sb g<|Wh K k
 |q q=>
  induction q with
  |t=>exact dd (Rd.Ai P) λa H n e x Z p=>sb e<|b_ K x p (λO w=>Z<|.inr w) k
  |l q=>
   induction q with
   |d=>exact dd (Rd.lst_inv P) λa H n e x Z p=>sb e<|I8 K x p (λO w=>Z<|.inr w) k
   |bor R=>refine dS (K.F.own _ _ R) λa H n x Z p=>aS P λY m B=>sb B ?_;clear R P B;obtain rfl:=bM x m;exact I8 K Z p (λf=>M f _ rfl a x) k
theorem QDK (h:aZ D C x e):hj D C fl x (I.jZ e):=λg=>λK k=>(h g).run K λv l g u z R s q=>by
 induction jd g with
 |mk e g=>subst e;induction g with|mk n g=>exact BC R q n (λO O=>nofun)<|(k _ _ g).tr s
set_option tactic.hygienic true in
theorem QBC (o:iA C nm i):hj D C fl (.Name nm pos) (.aC i):= @λl r g=>λK k=>by
 delta I.aC at g;generalize e:aL l i=y at g;cases y with
 |val x=>
  induction (g) with
  |mk n g=>refine (sz (K:=λv L=>v=.d x/\L=l) o (by dsimp only[kL];erw[e];exact ⟨rfl,rfl⟩:hZ (kL (aL l) i) _ False)).run K ?_;clear o K e;intro _ _ H u z R s Q;obtain ⟨rfl,rfl⟩:=H;exact BC R Q n (λO O=>nofun)<|(k _ _ g).tr s
 |own A=>have h:=g;refine (sz (K:=λv L=>v=.bor i/\L=l) o (by dsimp only[kL];erw[e];exact ⟨rfl,rfl⟩:hZ (kL (aL l) i) _ False)).run K ?_;clear o K;intro _ _ H u z R s Q;obtain ⟨rfl,rfl⟩:=H;exact BC R Q (.q<|.l<|.bor e) (λf=>by rw[h.1] at f;exact bq f)<|(k _ _ h.2).tr s
 |_=>exact mE g
theorem OW [H:cz D] (m:C.K "range" =aA .globalImplicit) (P:Pl xs) (K:FX D C X r z) (h:aO (aY D.prog D.w) X.A (sI<|mK pos<|fH xs X.env) (λus n=>aO (aY D.prog D.w) X.A (call (.type "range") us) Q Er n) Er z.s):
 aO (aY D.prog D.w) X.A (bz (.Call (.Name "range" p) xs [] pos) X.env) Q Er z.s:=
 qn (yQ K m (by decide+kernel) (by lia)<|wg (P X.env pos)<|gN (P X.env pos) h)
theorem Wi [H:cz D] (c:C.K "range" =aA .globalImplicit) (P:Pl [x]) (hs:fb D C [x] [a]):hj D C fl (.Call (.Name "range" p) [x] [] pos) (.jA a):=λe=>λ{X z Q Er} K k=>OW c P K (kO (hs e) K λd l f Z h R U o=>by
 obtain ⟨n,rfl,A,N,h⟩:=h;refine bf o.iB λu f B q i=>sb B ?_;cases i.kN;refine aV (Rd.dj q) λt g=>sb g<|wpAny_toks<|call_range_1 λv=>?_;have Y:=Kl.push (L:=X.env.locals) (h:=Z.s.heap) {cls:=.type "range",data:=.fields #[.int 0 Z.s.toks,.int n t,.int 1<|Z.s.toks+1]};refine Ke (fl:=fl) (m:=0) (n:=n) (R.kl Y v) (fG _ rfl) (kr (by decide) (by decide) N A) ?_;simp only[Int.sub_zero,zc]
 exact ((k _ _ h).tr U).tr<|.kl R Y v)
theorem SY [H:cz D] (c:C.K "range" =aA .globalImplicit) (P:Pl [x,y]) (hs:fb D C [x,y] [a,b]):hj D C fl (.Call (.Name "range" p) [x,y] [] pos) (.rv a b):=λe=>λ{X z Q Er} K k=>OW c P K (kO (hs e) K λds l j Z h R v o=>by
 obtain ⟨m,n,rfl,A,N,W,r,h⟩:=h;refine bf o.iB λu j B q i=>sb B<|bf i.iB λu' U B f F=>sb B ?_;cases F.kN;refine aV (Rd.dj q) λd g=>sb g<|aV (Rd.dj f) λt g=>sb g<|wpAny_toks<|call_range_2 λM=>?_;have Y:=Kl.push (L:=X.env.locals) (h:=Z.s.heap) {cls:=.type "range",data:=.fields #[.int m d,.int n t,.int 1 Z.s.toks]}
 exact Ke (m:=m) (n:=n) (R.kl Y M) (fG _ rfl) (kr r W N A)<|((k _ _ h).tr v).tr<|.kl R Y M)
end
noncomputable def vo (xs:List aP) (env:cg):ba Bool:=forIn xs aB λc r=>if r=aB then do let o<-zW c env (bz c env);pure (ou o) else pure (ou r)
noncomputable def oF (D:Wd) (C:Fc) (xs:List aP) (ts:List T):Prop:= ∀{l K},aW ts D.o l K-> ∀{X:Fx} {z:Zs} {Q:Bool->aN->Prop} {Er:aI->aN->Prop},FX D C X (aL l) z->KT D C X z K Q->aO (aY D.prog D.w) X.A (vo xs X.env) Q Er z.s
section
variable {D:Wd} {C:Fc} {x y w:aP} {a b c:E} {t:T} {ts:List T} {r r₁ r₂ r₃:bR} {v v₁ v₂:V} {pos:bP} {X:Fx} {z z' z'':Zs} {Q:aI->aN->Prop} {Er:aI->aN->Prop} {d:aK} {fl:Bool} {xs:List aK}
theorem QBx:oF D C [] []:=λe=>λK k=>by
 unfold vo
 simp! only[zY]
 exact bA<|k _ _ e _ K .refl
theorem QBG {xs:List aP} (a:eS D C x t) (hb:oF D C xs ts):oF D C (x::xs) (t::ts):=λe=>λK k=>by
 unfold vo;rw[ua]
 skip
 exact aR (aR ((a e).run K λb O g z R s=>bA (by
  rcases g with ⟨rfl,g⟩|⟨rfl,g⟩
  ·exact hb g R λO O g=>(k _ _ g).tr s
  ·exact ZE (k _ _ g _ R s) xs)))
theorem FX.turn {J:aM} (K:FX D C X r z) (H:X.Ob J) (nf:jf C X.env z.φ J) (k: ∀a o,z.s.heap.get? a=aA o->a≠J->h'.get? a=aA o) (j: ∃o,h'.get? J=aA o) (l:z.s.toks<=tk):
 FX D C X r (z.to h' tk)/\Mon (Ex X.Ob z.W) z.s.heap (Ex X.Ob z.W) h':=by
 refine bI (K.F.move (Ob₂:=X.Ob) (Z:=λa=>a=J) (h':=h') (λa q=>q▸H) (λa q=>q▸nf) k (λa q=>⟨.inl q,by
  by_cases e:a=J
  ·exact e▸j
  ·exact aV (K.F.dc a<|.inl q) λo w=>⟨o,k a o w e⟩⟩)) λF m=>?_
 exact ⟨⟨F,K.R,az K.t l⟩,m⟩
theorem FX.drop {J:aM} (K:FX D C (X.add J) r z) (nJ: ¬ Ex X.Ob z.W J) (nf:jf C X.env z.φ J) (k: ∀a o,z.s.heap.get? a=aA o->a≠J->h'.get? a=aA o) (l:z.s.toks<=tk):
 FX D C X r (z.to h' tk)/\Mon (Ex (X.add J).Ob z.W) z.s.heap (Ex X.Ob z.W) h':=by
 refine bI (K.F.move (λa q=>.inr q) (λa q=>q▸nf) k λa q=>⟨.inl<|.inl q,by exact aV (K.F.dc a<|.inl<|.inl q) λo w=>⟨o,k a o w λe=>nJ<|.inl<|e▸q⟩⟩) λF m=>?_;exact ⟨⟨F,K.R,az K.t l⟩,m⟩
set_option tactic.hygienic true in
theorem NN {I:aM} {T:String} {Q:Unit->aN->Prop} (e:s.heap.get? I=aA o) (c:o.cls=.type T) (t:vC.contains T=aE) (h:Q () s):aO M A (Pn x (.ref I) u) Q Er s:=by
 have K:aO M A (Pn (.Tuple [] 0 default) (.ref I) u) Q Er s:=by
  induction u with
  |ref a=>
   refine aR<|wpAny_load e ?_;erw[c];generalize o.data=d;induction d with
   |fields v=>refine (?_:aO M A (if (vC.contains T && v[0]?==aA (oz a))=aB then _ else pure ()) Q Er s);exact sb t<|wpAny_pure h
   |_=>exact bA h
  |_=>exact bA h
 exact x.casesOn (λO O O=>bA h) (λO O O=>bA h) (λO O O O=>bA h) (λO O O=>bA h) (λO O O O=>bA h) (λO O O O=>bA h) (λO O O=>bA h) (λO O O=>bA h) (λO O O O=>bA h) (λO O O O=>bA h) (λO O O O O=>bA h) (λO O O O=>bA h) (λO O=>bA h) (λO O=>bA h) (λO O=>bA h) (λO O O O=>bA h) (λO O O O=>bA h) (λO O O O=>bA h) (λO O=>bA h) (λO O O=>bA h) (λO O O=>bA h) (λO O O=>bA h) (λO O=>bA h) (λO O=>bA h) (λO O=>K) (λO O O=>K) λO O O O=>bA h
theorem ZL {w:bx} (I:Nat->aN->Prop)
 (turn: ∀n s,I n s-> ∀Er,aO (aY prog w) A (pyNext it) (λr s=>match r with
  |none=>R (.ok .next) s
  |some v=>aO (aY prog w) A (Pn target it v) (λO s=>aO (aY prog w) A (mP target env v) (λO s=>aO (aY prog w) A (vo ifs env) (λf s=>if f=aB then aO (aY prog w) A (bz elt env) (λx s=>aO (aY prog w) A (call (.builtin "list.append") [u,x]) (λO s=> ∃m,m<n/\I m s) Er s) Er s else∃m,m<n/\I m s) Er s) Er s) Er s) Er s)
 (n:Nat) (h:I n s):ud (aY prog w) A (.compLoop (.ListComp elt [⟨target,iter,ifs,0⟩] scope pos) 0 it u env) R s:=by
 refine codeAny_loop rfl I (λn s i=>?_) n h;refine (?_:aO _ A ((compTurn (.ListComp elt [⟨target,iter,ifs,0⟩] scope pos) 0 it u env).onRaise (λx=>do noteFrame x env;theTreesLotGoes x)) _ _ s);refine wpAny_noted ?_;rw[compTurn_list];refine aR<|iJ<|aR<|eX (turn n s i _) (λr s h=>?_) λO O h=>h;cases r with
 |none=>exact bA h
 |some v=>
  refine aR<|eX h (λO s h=>aR<|eX h (λO s h=>aR<|eX h (λf s h=>?_) λO O h=>h) λO O h=>h) λO O h=>h;cases f with
  |false=>exact bA ⟨rfl,h⟩
  |true=>exact aR<|aR<|eX h (λx s h=>aR<|eX h (λO s h=>bA<|bA ⟨rfl,h⟩) λO O h=>h) λO O h=>h
theorem Tr {w:bx} {J:aM} {St:Nat->bK->Prop}
 (z:sO prog w A J fp [J] n P St) (I:Nat->aN->Prop) (C: ∀j s,I j s->St j s.heap) (N: ∀i h,St i h-> ∃o T,h.get? J=aA o/\o.cls=.type T/\vC.contains T=aE) (h0:I 0 s)
 (d: ∀s h' tk,I n s->(∀a o,s.heap.get? a=aA o->a≠J->h'.get? a=aA o)->s.toks<=tk->R (.ok .next) {s with heap:=h',toks:=tk})
 (turn: ∀j s h' tk v,j<n->I j s->P j v->St (j+1) h'->(∀a o,s.heap.get? a=aA o->a≠J->h'.get? a=aA o)->s.toks<=tk-> ∀Er,aO (aY prog w) A (mP target env v) (λO W=>aO (aY prog w) A (vo ifs env) (λf Q=>if f=aB then aO (aY prog w) A (bz elt env) (λx c=>aO (aY prog w) A (call (.builtin "list.append") [u,x]) (λO g=>I (j+1) g) Er c) Er Q else I (j+1) Q) Er W) Er {s with heap:=h',toks:=tk}):
 ud (aY prog w) A (.compStart (.ListComp elt [⟨target,iter,ifs,0⟩] scope pos) 0 (.ref J) u env) R s:=by
 have nx: ∀{m j:Nat},m=n+1 - j->j<n->n+1 - (j+1)<m:=λe h=>e▸Nat.sub_lt_sub_left (sN h) (uZ _)
 have core:ud (aY prog w) A (.compLoop (.ListComp elt [⟨target,iter,ifs,0⟩] scope pos) 0 (.ref J) u env) R s:=by
  refine ZL (λm U=> ∃j,j<=n/\m=n+1 - j/\I j U) ?_ (n+1)<|gc 0 (hJ _) rfl h0;intro m U B Er;refine cy B λj K M F=>?_;by_cases L:j<n
  ·refine wpAny_toks (z.item j _ _ _ L (C j U F) λv h' tk hP st k l=>?_)
   refine bf (N _ _ st) λob T p g q=>NN p g q (eX (turn j U h' tk v L F hP st (λa o e q=>k a o (by simpa -iota using q) e) l _) (λO W i=>eX i (λf Q H=>?_) λO O x=>x) λO O x=>x);induction f with
   |false=>exact ⟨_,nx M L,j+1,L,rfl,H⟩
   |true=>exact eX H (λx c t=>eX t (λO g b=>⟨_,nx M L,j+1,L,rfl,b⟩) λO O x=>x) λO O x=>x
  ·cases ji K (iH.mp L)
   exact wpAny_toks (z.done _ _ _ (C _ U F) λh' tk k l=>d U h' tk F (λa o e q=>k a o (by simpa -iota using q) e) l)
 exact codeAny_compStart_list core<|z.self 0 _ _ _ (C _ _ h0) core
section
variable {elt target iter:aP} {ifs:List aP} {scope:jP} {cpos:bP}
noncomputable def se (D:Wd) (X:Fx) (z:Zs) (d:aM):aM->Prop:=λa=>(Ex X.Ob z.W a\/a=d)/\ ¬ D.P.PF a
noncomputable def fP (z:Zs):Heap:=z.s.heap.push<|listOf ([]:List aI).toArray 0
noncomputable def ET (scope:jP) (z:Zs):Heap:=kD ((fP z).push {cls:=.type "dict",data:=.dict #[]}) scope.names
noncomputable def zC (D:Wd) (scope:jP) (z:Zs):Zs:={s:={z.s with heap:=ET scope z},W:=λa=>D.P.PF a\/((fP z).get? a=aF/\ ∃o,(ET scope z).get? a=aA o),φ:=z.φ}
theorem MN {x:aG} (h:(C.sub scope.names aB aE hb).cM x=aA i):(∃k,scope.names.lookup x=aA k/\j8 k=aB/\(x==n5)=aE/\i=C.bd+scope.names.findIdx (·.1==x))\/(scope.names.lookup x=aA .free/\C.cM x=aA i):=by
 have h':(match scope.names.lookup x with
  |some k=>if j8 k then (if x==n5 then aF else aA (C.bd+scope.names.findIdx (·.1==x))) else if k==.free then C.cM x else aF
  |none=>aF)=aA i:=h
 induction e:scope.names.lookup x with
 |none=>rw[e] at h';exact ay h'
 |some k=>
  rw[e] at h';dsimp only at h';by_cases K:j8 k=aB
  ·rw[if_pos K] at h'
   by_cases hd:(x==n5)=aB
   ·exact cb (QGx hd) h'
   ·obtain rfl:=bM (QGw hd) h'
    exact .inl<|kP k rfl K (QEK _▸hd) rfl
  ·rw[if_neg K] at h'
   by_cases hf:(k==oy)=aB
   ·rw[if_pos hf] at h'
    exact .inr ⟨by exact sb (QGy.mp hf) rfl,h'⟩
   ·exact cb (QGw hf) h'
theorem vD (c:mc C scope tt target iter):(i∈j3 tt->fZ tt (ja r) i=.unb)/\(i∉j3 tt->fZ tt (ja r) i=ja r i):=by rw[vp,zO];exact ⟨λh=>QGx h,λh=>QGw h⟩
theorem QBu (h:ja r i=.own ys):r i=.own ys:=by
 unfold ja at h
 split at h
 ·exact nomatch h
 ·cases e:r i<;>rw[e] at h<;>cases h;rfl
theorem dh.Yl {φ cl Y Y' h h'} {v:Option aI} {sl:Sl} (q:dh P φ cl Y h i v sl) (k: ∀a o,h.get? a=aA o->h'.get? a=aA o) (m:Mon Y h Y' h') {c:List (aG×aM)}:dh P φ c Y' h' i v (u7 sl):=by
 induction sl with
 |dz n=>exact iU q λa z x C l p=>(jX a z x (m _ _ C l).1 (m _ _ C l).2 p)
 |clo f=>trivial
 |unb=>trivial
 |val d=>exact aS q λu e z=>(ax u e<|z.mon m)
 |own R=>exact q
 |ali j=>exact q
 |inst=>exact bf q λy a x C z=>(dA y a x C<|P.kG z m)
 |emp=>exact cy q λa x Z g=>(ax a x<|m _ _ Z g)
theorem Sg {env₀:cg} (f:mc C scope tt target iter) (l: ∀x∈scope.names,x.2=.free->(X.env.cells.lookup x.1).isSome=aB) (K:FX D C X r z)
 (L:env₀=Hm scope (fP z).objs.size X.env.globals (jO ((fP z).objs.size+1) scope.names<|clOf X.env.cells scope.names []) X.env.qual aF .none (aA X.env) X.env.builtins):
 FX D (C.sub scope.names aB aE hb) {A:=X.A,env:={env₀ with scope:=relabel scope X.env},Ob:=se D X z z.s.heap.objs.size} (fZ tt<|ja r) (zC D scope z):=by
 have N:=(yZ scope.names [] l λy c q=>by exact ay q).1;have Z:=(yZ scope.names [] l λy c q=>by exact ay q).2;have nD:z.s.heap.get? z.s.heap.objs.size=none:=ie<|bh _;have d: ∀b o,z.s.heap.get? b=aA o->(fP z).get? b=aA o:=λb o e=>gS _ e
 have M:Mon (Ex X.Ob z.W) z.s.heap (Ex (se D X z z.s.heap.objs.size) D.P.PF) (fP z):=λa o e n=>⟨d a o e,λq=>by
  rcases q with ⟨q|q,_⟩|q
  ·exact n q
  ·simp! only[q,nD] at e
   exact ay e
  ·exact n<|.inr<|K.F.pf a q⟩
 have hz:aT∉j3 tt:=λq=>QGv (f.zD aT q).2 (by decide);have hw:bQ∉j3 tt:=λq=>QGv (f.zD bQ q).2 (by decide)
 have U: ∀{x:aG} {i:Nat} {k:dQ},scope.names.lookup x=aA k->j8 k=aB->(C.sub scope.names aB aE hb).cM x=aA i->fZ tt (ja r) i=.unb:=λ{x i k} e1 e2 e3=>by
  refine (vD f).1 ?_;rcases MN e3 with ⟨k',q1,q2,Y,rfl⟩|⟨q,_⟩
  ·exact f.tid _ (mem_of_lookup q1) q2 Y
  ·obtain rfl:=bM e1 q
   exact bq e2
 have Q: ∀{i:Nat} {ys:List aK},fZ tt (ja r) i=.own ys->r i=.own ys:=λ{i ys} q=>by
  by_cases m:i∈j3 tt
  ·rw[(vD f).1 m] at q
   exact nomatch q
  ·exact QBu<|(vD f).2 m▸q
 have fr: ∀{x:aG} {i:Nat},scope.names.lookup x=aA .free->(C.sub scope.names aB aE hb).cM x=aA i-> ∃c v,(clOf X.env.cells scope.names []).lookup x=aA c/\(fP z).IsCell c v/\dh D.P z.φ ({env₀ with scope:=relabel scope X.env}).cells (Ex (se D X z z.s.heap.objs.size) D.P.PF) (fP z) i v (fZ tt (ja r) i):=λ{x i} q b=>by
  rcases MN b with ⟨k',q1,q2,_⟩|⟨_,B⟩
  ·obtain rfl:=bM q q1
   exact bq q2
  ·refine aV (mO.mp<|(Z x).mp<|.inl<|mem_of_lookup q) λc q1=>bI (f.free _ (mem_of_lookup q) rfl) λh g=>bf (K.F.hF x i g B) λc' v Y q5 q6=>?_
   rw[N x c q1] at Y;cases Y;refine (dA c v q1 (q5.keeps d) ?_);have lt:=C.rK x i B;have nt:i∉j3 tt:=λq=>mG _ (mF lt (f.zD i q).1)
   simp! only[(vD f).2 nt,show ja r i=u7 (r i) from QGw (C.mz B).1]
   exact q6.Yl d M
 refine ⟨EK f.nd (by erw[L];rfl:env₀.locals=(fP z).objs.size) (by erw[L];rfl:env₀.cells=jO ((fP z).objs.size+1) scope.names (clOf X.env.cells scope.names [])) f.kind (λx=>QBE K.F.hk K.F.hK scope.names x) (by show env₀.globals=_;erw[L];exact K.F.hg) (by show env₀.builtins=_;erw[L];exact K.F.hb) nofun
  (λx i a b=>?_) (λx i a b=>?_) (λx a b=>?_) (λx c q=>?_) (λx y c q u=>K.F.oX x y c (N x c q)<|N y c u) (λb o e=>d b o<|K.F.base b o e) (λb o e q=>?_) (λi xs q=>?_) nofun (λxs q u a=>?_) (λxs q1 q2 a Y q4=>?_) (λq=>K.F.lB λxs hx=>q xs ?_)
  K.F.inj (λi a q=>let ⟨o,w⟩:=K.F.jx i a q;⟨o,d _ _ w⟩) (λa q=>?_) (λa q u=>u.2 q) (D.P.iS K.F.inv M λa p=>by refine cR (D.P.iM K.F.inv p) λo vs e O=>?_;erw[e];exact d a o e) (λa p=>p),K.R,K.t⟩
 ·rcases oP a with q|q
  ·exact U q rfl b
  ·cases q.1
 ·rcases a with a|a
  ·rcases oP a with q|q
   ·exact .inl ⟨q,U q rfl b⟩
   ·exact .inr ⟨q.2.1,fr q.2.1 b⟩
  ·rcases oP a with q|q
   ·exact .inr ⟨q,fr q b⟩
   ·cases q.1
 ·have B:(match scope.names.lookup x with|some k=>j8 k|none=>aE)=true:=b
  rcases oP a with q|q
  ·exact q
  ·rw[q.2.1] at B
   exact bq B
 ·have u:=N x c q
  refine bI (f.free _ (((Z x).mpr (by erw[q];rfl)).resolve_right nofun) rfl) λh g=>?_;refine aV (mO.mp h) λi h=>bf (K.F.hF x i g h) λc' v q1 H O=>aS H λo w O=>?_;rw[u] at q1;clear H;cases q1;exact ⟨o,d _ _ w⟩
 ·rcases q with ⟨q|q,_⟩|q
  ·exact K.F.fN b o e q
  ·rw[q] at e
   rw[K.F.base _ _ e] at nD;exact pR nD
  ·exact K.F.fN b o e<|.inr<|K.F.pf b q
 ·exact dS (K.F.own i xs<|Q q) λa vs n e1 e2 e3=>(lz a vs n e1 (d _ _ e2)<|e3.mon M)
 ·simp! only[(vD f).2 hw,show ja r bQ=.unb from QGx rfl] at u
  exact nomatch u
 ·refine dS (K.F.own aT xs<|Q q1) λa' vs n e1 e2 O=>?_
  obtain rfl:=bM (Y:z.φ aT=aA a) e1;refine cR (D.P.iM K.F.inv q4) λo aa j d4=>?_;obtain rfl:=bM e2 j;clear e2;exact nomatch d4
 ·simp! only[(vD f).2 hz,show ja r aT=u7 (r aT) from QGw (by decide),hx]
  rfl
 ·rcases q with ⟨q|q,_⟩|q
  ·exact aV (K.F.dc a q) λo w=>⟨o,d _ _ w⟩
  ·exact sb q<|⟨_,Heap.get?_push_size _ rfl⟩
  ·exact cR (D.P.iM K.F.inv q) λo aa j O=>⟨o,d _ _ j⟩
structure CB (D:Wd) (Y X':Fx) (J:aM) (z2:Zs) (St:Nat->bK->Prop) (j:Nat) (ys:List aK) (z:Zs):Prop where
 st:St j z.s.heap
 mon:Mon (Ex Y.Ob z2.W) z2.s.heap (Ex X'.Ob z.W) z.s.heap
 keep: ∀a o,z2.s.heap.get? a=aA o->a≠J-> ¬ D.P.PF a->z.s.heap.get? a=aA o
 acc: ∃vs n,z.s.heap.get? z2.s.heap.objs.size=aA (listOf vs.toArray n)/\bB (Ex X'.Ob z.W) z.s.heap vs ys
 t:z2.s.toks<=z.s.toks
 f:z.φ=z2.φ
 e:z.s={z2.s with heap:=z.s.heap,toks:=z.s.toks,drawn:=z.s.drawn}
section
variable {St:Nat->bK->Prop} {j n:Nat} {ys:List aK} {C':Fc} {r':bR}
theorem CB.nw (B:CB D Y X' J z2 St j ys z) (K:FX D C' X' r z) (Z:X'.Ob=se D Y z2 z2.s.heap.objs.size): ∀a o,z2.s.heap.get? a=aA o-> ¬ D.P.PF a-> ¬ z.W a:=λa o e n w=>by
 by_cases q:Ex Y.Ob z2.W a
 ·exact K.F.dT a w (by simp! only[Z];exact ⟨.inl q,n⟩)
 ·exact (B.mon a o e q).2<|.inr w
theorem CB.sx (B:CB D Y X' J z2 St j ys z) (K:FX D C' X' r z) (s:Sx z z') (Z:X'.Ob=se D Y z2 z2.s.heap.objs.size) (W:sO D.prog D.w X.A J fp [J] n P St) (oV: ∀b∈fp,(∃o,z2.s.heap.get? b=aA o)/\ ¬ D.P.PF b) (hd:X'.Ob z2.s.heap.objs.size):CB D Y X' J z2 St j ys z':=by refine cR B.acc λv n x C=>?_;have u:=B.nw K Z;exact ⟨W.frame _ _ _ B.st λb h o e=>s.st.keep b o e (let ⟨⟨H,q⟩,N⟩:=oV b h;u b H q N),B.mon.trans s.mon,λa o e q N=>s.st.keep a o (B.keep a o e q N)<|u a o e N,(fD v n (s.st.keep _ _ x λw=>K.F.dT _ w hd)<|C.mon s.mon),az B.t s.t,s.f.trans B.f,by (erw[s.e];exact sb B.e rfl)⟩
theorem Mw (A:mc C scope tt target iter) (K:FX D (C.sub scope.names aB aE hb) X' r z) (l:X'.env.cells=jO m scope.names cl) (xJ:X'.Ob J) (p: ∀i,z.φ i≠aA J) (Y: ∀x c,cl.lookup x=aA c->c≠J):jf (C.sub scope.names aB aE hb) X'.env z.φ J:=by
 refine ⟨p,λq=>K.F.dT _ K.F.km<|q▸xJ,λx i c a b q e=>?_⟩;have f:scope.names.lookup x=aA .free->False:=λw=>by rw[l,(A8 scope.names m _ x).1 λz=>by cases bM (Af A.nd z) w] at q;exact Y x c q e
 have o:(C.sub scope.names aB aE hb).K x=aA .cell->scope.names.lookup x=aA .cell->False:=λw W=>by
  have:(C.sub scope.names aB aE hb).rn x=true:=by show (match scope.names.lookup x with|some k=>j8 k|none=>aE)=aB;erw[W];rfl
  exact K.F.dT _ (K.F.pY x i c w this b q)<|e▸xJ
 refine cp (a) (λa=>?_) λa=>?_
 ·refine cp (oP a) (λw=>?_) λw=>?_
  ·exact o a w
  ·exact f w.2.1
 ·refine cp (oP a) (λw=>?_) λw=>?_
  ·exact f w
  ·cases w.1
theorem J4 (c:mc C scope tt target iter) (b:og tt d (fZ tt r)=aA N) (K:FX D C' X' N z):FX D C' X' (fZ tt r) z:=by
 have e:fZ tt N=fZ tt r:=by
  erw[QAT b];funext j;rw[vp,vp,zO,zO];by_cases q:j∈j3 tt
  ·exact sb (QGx q)<|sb (if_pos q) rfl
  ·exact sb (QGw q) rfl
 have:=K.F.RR (j3 tt) λi h=>⟨λq=>QGv (c.zD i h).2 (q▸by decide),λq=>QGv (c.zD i h).2<|q▸by decide⟩;rw[<-vp,e] at this;exact ⟨this,K.R,K.t⟩
theorem CB.app {y:aK} {vs:List aI} (B:CB D Y X' J z2 St j ys z) (K:FX D C' X' r z) (g:sO D.prog D.w X.A J fp [J] n P St) (oV: ∀b∈fp,(∃o,z2.s.heap.get? b=aA o)/\ ¬ D.P.PF b) (m:Mon (Ex X'.Ob z.W) z.s.heap (Ex X'.Ob z.W) h')
 (e1:bB (Ex X'.Ob z.W) z.s.heap vs ys) (q:Rz X' z u y) (k: ∀a o,z.s.heap.get? a=aA o->a≠z2.s.heap.objs.size->h'.get? a=aA o) (e:h'.get? z2.s.heap.objs.size=aA (listOf (vs++[u]).toArray n')):CB D Y X' J z2 St j (ys++[y]) (z.to h' z.s.toks):=by
 have N: ∀a o,z2.s.heap.get? a=aA o->a≠z2.s.heap.objs.size:=λa o e q=>by rw[q,ie<|bh _] at e;exact ay e
 exact ⟨g.frame _ _ _ B.st λb h o e=>k b o e (let ⟨⟨H,q⟩,_⟩:=oV b h;N b H q),B.mon.trans m,λa o e q Z=>k a o (B.keep a o e q Z)<|N a o e,(fD _ _ e<|(e1.mon m).app<|bB.cons (Rd.mon q m) bB.nil),B.t,B.f,by
  show {z.s with heap:=h',toks:=z.s.toks}=_;erw[B.e]
  rfl⟩
noncomputable def CI (D:Wd) (C':Fc) (Y x:Fx) (J:aM) (g:Zs) (St:Nat->bK->Prop) (e:E) (tt:cQ) (c:List T) (xs:List aK) (l:Ls) (r:bR) (K:List aK->Prop) (j:Nat) (s:aN):Prop:= ∃z p,s=z.s/\FX D C' x r z/\CB D Y x J g St j p z/\cW e tt c D.o l (xs.drop j) (λZ=>K<|p++Z)/\p.length<=j
structure Cx (D:Wd) (C:Fc) (X X':Fx) (r:bR) (z z2:Zs) (scope:jP) (xs:List aK) (J:aM) (fp:List aM) (P:Nat->aI->Prop) (St:Nat->bK->Prop):Prop where
 i:It D C X r z z2 aE xs J fp P St
 ho:X'.Ob=se D (X.add J) z2 z2.s.heap.objs.size
 ec:X'.env.cells=jO ((fP z2).objs.size+1) scope.names (clOf X.env.cells scope.names [])
 el:X'.env.locals=(fP z2).objs.size
 hA:X'.A=X.A
 cin: ∀x c,(clOf X.env.cells scope.names []).lookup x=aA c->(∃o,z2.s.heap.get? c=aA o)/\c≠J
 aJ: ∃o,z2.s.heap.get? J=aA o
theorem nD (z:Zs):z.s.heap.get? z.s.heap.objs.size=none:=ie<|bh _
section
theorem Cx.Ox (c:Cx D C X X' r z z2 scope xs J fp P St): ¬ D.P.PF J:=λp=>c.i.nJ<|.inr<|c.i.F.F.pf J p
theorem Cx.QDl (c:Cx D C X X' r z z2 scope xs J fp P St): ¬ D.P.PF z2.s.heap.objs.size:=λp=>cR (D.P.iM c.i.F.F.inv p) λo v e O=>cb (nD z2) e
theorem Cx.xJ (c:Cx D C X X' r z z2 scope xs J fp P St):X'.Ob J:=by rw[c.ho];exact ⟨.inl<|.inl<|.inr rfl,c.Ox⟩
theorem Cx.xD (c:Cx D C X X' r z z2 scope xs J fp P St):X'.Ob z2.s.heap.objs.size:=by rw[c.ho];exact ⟨.inr rfl,c.QDl⟩
theorem Cx.oV (c:Cx D C X X' r z z2 scope xs J fp P St): ∀b∈fp,(∃o,z2.s.heap.get? b=aA o)/\ ¬ D.P.PF b:=λb B=>⟨c.i.oV b B,c.i.M7 b B⟩
theorem Cx.nJ (c:Cx D C X X' r z z2 scope xs J fp P St):z2.s.heap.objs.size≠J:=λq=>c.aJ.elim λo e=>by rw[<-q,nD] at e;exact ay e
theorem Cx.wk (c:Cx D C X X' r z z2 scope xs J fp P St):sO D.prog D.w X'.A J fp [J] xs.length P St:=by rw[c.hA];exact c.i.walk
theorem Cx.b0 (c:Cx D C X X' r z z2 scope xs J fp P St):CB D (X.add J) X' J z2 St 0 [] (zC D scope z2):=by
 have d: ∀b o,z2.s.heap.get? b=aA o->(fP z2).get? b=aA o:=λb o e=>gS _ e;have K: ∀b o,(fP z2).get? b=aA o->(ET scope z2).get? b=aA o:=Ek scope.names (fP z2) _;refine ⟨c.i.walk.frame 0 _ _ c.i.st λb B o e=>K b o<|d b o e,λa o e n=>⟨K _ _<|d _ _ e,λq=>?_⟩,λa o e O O=>K _ _<|d _ _ e,fD [] 0 (K _ _<|fG _ rfl) bB.nil,bh _,rfl,rfl⟩;rw[Ex,c.ho] at q;rcases q with ⟨q|q,_⟩|q|q
 ·exact n q
 ·rw[q,nD] at e
  exact ay e
 ·exact n<|.inr<|c.i.F.F.pf a q
 ·exact cb q.1<|d _ _ e
theorem Cx.step (c:Cx D C X X' r z z2 scope xs J fp P St) {r' za zb} (K:FX D C' X' r' za) (B:CB D (X.add J) X' J z2 St j ys za) (s:Sx za zb):CB D (X.add J) X' J z2 St j ys zb:=B.sx K s c.ho c.wk c.oV c.xD
end
section
theorem S4 (t:mc C scope tt target iter) (c:Cx D C X X' r z z2 scope xs J fp P St) {y:aK} {w:aI} (hsz:xs.length<=16777216) (l:j<xs.length) (U:ys.length<=j) (b:og tt d (fZ tt rr)=aA R)
 (K:FX D (C.sub scope.names aB aE hb) X' R Z) (B:CB D (X.add J) X' J z2 St (j+1) ys Z) (q:Rz X' Z w y) (e:cW ee tt conds D.o l0 (xs.drop<|j+1) λzs=>Kc<|ys++[y]++zs):
 aO (aY D.prog D.w) X'.A (call (.builtin "list.append") [.ref z2.s.heap.objs.size,w]) (λO g=>CI D (C.sub scope.names aB aE hb) (X.add J) X' J z2 St ee tt conds xs l0 (fZ tt rr) Kc (j+1) g) Er Z.s:=by
 refine cR B.acc λm n u p=>wpAny_toks (QEP (hsz:=by simp! only[gm,p.len,iw];exact bD (na hsz l) U) ⟨n,u⟩ λh pl sb N=>?_);refine aV pl λn7 M=>?_;have v:h.get? z2.s.heap.objs.size=aA (listOf (m++[w]).toArray n7):=by rw[M];simp -iota [zV]
 have L: ∀a o,Z.s.heap.get? a=aA o->a≠z2.s.heap.objs.size->h.get? a=aA o:=λa o e q=>(sb.2 a q).trans e;have H:=K.turn c.xD (Mw t K c.ec c.xD (λY q=>aV (c.i.F.F.jx Y _<|B.f▸q) λo w=>cb (nD z2) w) λx a q Q=>aV (c.cin x a q).1 λo w=>cb (nD z2)<|Q▸w) L ⟨_,v⟩<|bh _;exact vP _ (ys++[y]) rfl (J4 t b H.1) (B.app K c.wk c.oV H.2 p q L v) e (by rw[du];exact Hv U)
theorem Xf (hC:mc C scope tt target iter) (hT:nH D (C.sub scope.names aB aE hb) target tt) (hA:oF D (C.sub scope.names aB aE hb) ifs conds) (hE:aZ D (C.sub scope.names aB aE hb) elt ee) (c:Cx D C X X' r z z2 scope xs J fp P St)
 (hL:aL l0=fZ tt rr) (hsz:xs.length<=16777216) (L:j<xs.length) (H:CI D (C.sub scope.names aB aE hb) (X.add J) X' J z2 St ee tt conds xs l0 (fZ tt rr) Kc j s) (hP:P j u) (R:St (j+1) h') (Z: ∀a o,s.heap.get? a=aA o->a≠J->h'.get? a=aA o) (l:s.toks<=tk) (Er:aI->aN->Prop):
 aO (aY D.prog D.w) X'.A (mP target X'.env u) (λO W=>aO (aY D.prog D.w) X'.A (vo ifs X'.env) (λok Q=>if ok=aB then aO (aY D.prog D.w) X'.A (bz elt X'.env) (λx K=>aO (aY D.prog D.w) X'.A (call (.builtin "list.append") [.ref z2.s.heap.objs.size,x]) (λO M=>CI D (C.sub scope.names aB aE hb) (X.add J) X' J z2 St ee tt conds xs l0 (fZ tt rr) Kc (j+1) M) Er K) Er Q else CI D (C.sub scope.names aB aE hb) (X.add J) X' J z2 St ee tt conds xs l0 (fZ tt rr) Kc (j+1) Q) Er W) Er {s with heap:=h',toks:=tk}:=by
 refine oQ H λz' Y es Kz B cj lj=>?_;clear H;subst es;refine aS (c.i.items j u hP) λd hd rd=>cR (c.i.alive _ _ R) λo1 O F O=>?_;have h:=Kz.turn c.xJ (Mw hC Kz c.ec c.xJ (λi' q=>c.i.nf.p i'<|B.f▸q) λx a q=>(c.cin x a q).2) Z ⟨o1,F⟩ l
 have B1:CB D (X.add J) X' J z2 St (j+1) Y (z'.to h' tk):=cR B.acc λvs n e1 e3=>⟨R,B.mon.trans h.2,λa o e q np=>Z a o (B.keep a o e q np) q,fD vs n (Z _ _ e1 c.nJ)<|e3.mon h.2,az B.t l,B.f,by
  show {z'.s with heap:=h',toks:=tk}=_;rw[B.e]
  rfl⟩
 have U:Rz X' (z'.to h' tk) u d:=Rd.mon rd<|B.mon.trans h.2;rw[show xs.drop j=d::xs.drop (j+1) by rw[Hx L];obtain rfl:=bM (sP L) hd;rfl] at cj;refine aS (by induction vc cj with|mk b a=>exact (ax _ b a): ∃lx,og tt d (aL l0)=aA (aL lx)/\_) λlx b a=>?_;have b':=b;rw[hL] at b;clear hd F Z hP cj rd R B;refine hT b' (hL.symm▸h.1) U λz3 K3 s3 O=>hA a K3 λok l' g z5 N s5=>?_;have m:=g.1;have g:=g.2;have B5:=c.step K3 (c.step h.1 B1 s3) s5;clear B1 h b' a K3 s3 s5 U hT hA;rw[m] at N;rcases g with ⟨rfl,e⟩|⟨rfl,e⟩
 ·refine sb (QGx rfl)<|(hE e).run N λv aa g w z6 K6 s6 q6=>?_
  have B6:=c.step N B5 s6;have m:=g.1;have g:=g.2;clear N B5 s6 e;rw[m] at K6;induction jd g with
  | @mk y ev e=>clear g m;subst ev;exact S4 hC c hsz L lj b K6 B6 q6 (by simp! only[ik];exact e)
 ·rw[if_neg<|by decide]
  exact vP z5 Y rfl (J4 hC b N) B5 e (Ha lj)
theorem QDT (c:Cx D C X X' r z z2 scope xs J fp P St) {s:aN} {h':bK} {R:zh->aN->Prop} (H:CI D C' (X.add J) X' J z2 St ee tt conds xs l0 (fZ tt rr) Kc xs.length s) (M: ∀a o,s.heap.get? a=aA o->a≠J->h'.get? a=aA o) (l:s.toks<=tk)
 (k: ∀ys,Kc ys-> ∀h u z',FX D C (X.add h) r z'-> ¬ Ex X.Ob z'.W h->jf C X.env z'.φ h->Sx z z'->(∀a o,z.s.heap.get? a=aA o-> ¬ z.W a->a≠h)->Rz (X.add h) z' u (.list ys)->(∃m,z'.s.heap.Ns h m)->u=.ref z2.s.heap.objs.size->h=(fP z2).objs.size->R (.ok .next) z'.s):
 R (.ok .next) {s with heap:=h',toks:=tk}:=by
 refine oQ H λz' Y es K B j Z=>?_;clear H Z;subst es;rw[QEQ] at j;have j:Kc (Y++[]):=j;rw[eY] at j;refine aS K.F.loc λm U O=>?_;rw[c.el] at U;have i:=c.i
 have g:z2.s.heap.get? (fP z2).objs.size=none:=by
  induction q:z2.s.heap.get? (fP z2).objs.size with
  |none=>rfl
  |some o=>exact cb (ie<|bh _)<|gS _ q
 have x:(fP z2).objs.size≠J:=λq=>c.aJ.elim λo e=>by rw[<-q,g] at e;exact ay e
 refine cR B.acc λvs n e1 A=>?_;have cW:z'.W (fP z2).objs.size:=c.el▸K.F.km;have L: ∀a o,z2.s.heap.get? a=aA o->a≠J-> ¬ D.P.PF a->h'.get? a=aA o:=λa o e q np=>M a o (B.keep a o e q np) q
 have v:Mon (Ex X'.Ob z'.W) z'.s.heap (Ex (X.add (fP z2).objs.size).Ob z2.W) h':=λa o e n=>⟨M a o e λq=>n<|.inl<|q▸c.xJ,λq=>n (by
  by_cases p:D.P.PF a
  ·exact .inr<|K.F.pf a p
  ·rcases q with (q|q)|q
   ·rw[Ex,c.ho]
    exact .inl ⟨.inl<|.inl<|.inl q,p⟩
   ·exact .inr<|q▸cW
   ·rw[Ex,c.ho]
    exact .inl ⟨.inl<|.inr q,p⟩)⟩
 have Q:=D.P.iS K.F.inv v λa p=>cR (D.P.iM K.F.inv p) λo vs e d=>e.trans (M a o e λq=>c.Ox<|q▸p).symm▸rfl;have N:=U.at λo e=>M _ o e x
 have Hq:=i.F.F.Fh (λa q=>.inr q) (λa q=>q▸i.nf) L (λa q=>by
  rcases q with q|q
  ·exact aV (i.F.F.dc a<|.inl<|.inl q) λo w=>⟨.inl<|.inl q,o,L a o w (λe=>i.nJ<|.inl<|e▸q) λp=>i.F.F.dT a (i.F.F.pf a p)<|.inl q⟩
  ·exact oh N λo O O w O=>⟨.inr<|q▸g,o,q▸w⟩) Q
 have b: ¬ Ex X.Ob z2.W (fP z2).objs.size:=λq=>aV (i.F.F.dc _<|q.imp .inl id) λo w=>cb g w;refine k _ j (fP z2).objs.size (.ref z2.s.heap.objs.size) {s:={z'.s with heap:=h',toks:=tk},W:=z2.W,φ:=z2.φ} ⟨Hq.1,i.F.R,az i.F.t<|az B.t l⟩ b (i.F.F.A7 g) ⟨⟨λa o e w=>?_,i.sx.st.grow⟩,az i.sx.t<|az B.t l,i.sx.f,by rw[B.e,i.sx.e]⟩ (λa o e w q=>?_) ?_ ⟨m,N⟩ rfl rfl
 ·have f:=i.sx.fresh (J:=J) e w
  exact L a o f.1 (i.new a o e w) λp=>f.2<|i.F.F.pf a p
 ·have:=(i.sx.fresh (J:=J) e w).1
  rw[q,g] at this;exact ay this
 ·refine Rd.lst (M _ _ e1 c.nJ) (λq=>?_) (A.mon v)
  rcases q with (q|q)|q
  ·exact aV (i.F.F.dc _<|.inl<|.inl q) λo w=>cb (nD z2) w
  ·rw[show (fP z2).objs.size=z2.s.heap.objs.size+1 from Ct ..] at q
   exact Nat.succ_ne_self _ q.symm
  ·exact aV (i.F.F.dc _<|.inr q) λo w=>cb (nD z2) w
end
noncomputable def cX (D:Wd) (scope:jP) (X:Fx) (J:aM) (z:Zs) (env:cg):Fx:=Fx.mk (X.add J).A {env with scope:=relabel scope (X.add J).env} (se D (X.add J) z z.s.heap.objs.size)
theorem OA {U:Option (aI->ba Unit)} {Kc:List aK->Ls->Prop} (t:mc C scope tt target iter) (hI:hj D C aE iter it) (hT:nH D (C.sub scope.names aB aE hb) target tt) (hA:oF D (C.sub scope.names aB aE hb) ifs conds) (hE:aZ D (C.sub scope.names aB aE hb) elt ee)
 (e1:it D.o aE l λxs l=>xs.length<=16777216/\cW ee tt conds D.o (oj tt<|oR l) xs λys=>Kc ys l) (K:FX D C X (aL l) z)
 (k: ∀ys L,Kc ys L-> ∀d u z',FX D C (X.add d) (aL L) z'-> ¬ Ex X.Ob z'.W d->jf C X.env z'.φ d->Sx z z'->(∀a o,z.s.heap.get? a=aA o-> ¬ z.W a->a≠d)->Rz (X.add d) z' u (.list ys)->(∃m,z'.s.heap.Ns d m)->compPost (aY D.prog D.w) X.A Er U Q u d (.ok .next) z'.s):
 aO (aY D.prog D.w) X.A (comprehension (.ListComp elt [⟨target,iter,ifs,0⟩] scope pos) scope X.env cpos (newList []) aE (bz iter X.env) U) Q Er z.s:=by
 have b: ∀x∈scope.names,x.2=.free->(X.env.cells.lookup x.1).isSome=true:=λx N hf=>by
  have h:=(t.free x N hf);have M:=h.1;have f2:=h.2;refine aV (mO.mp M) λi M=>cR (K.F.hF x.1 i f2 M) λc v q O=>?_
  simp! only[q]
  rfl
 refine wpAny_comprehension_free (g:=⟨target,iter,ifs,0⟩) (gs:=[]) rfl (t.fold X.env) (Ny b) t.kind (λx N hl=>by simp! only[<-hl];exact Af t.nd N) (hI e1 K λxs L e2 z2 J fp P St i=>QER<|MZ λenv₀ e=>?_);have aa:=e2.1;have e2:=e2.2;have hL:aL (oj tt<|oR L)=fZ tt (ja<|aL L):=by simp! only[QAu,ZQ]
 simp! only[zY]
 refine bA ?_;have K4:FX D (C.sub scope.names aB aE hb) _ _ (zC D scope z2):=Sg (X:=X.add J) (env₀:=env₀) t b i.F e;have p:=(yZ scope.names [] b λy c q=>by exact ay q).1;have Z:=(yZ scope.names [] b λy c q=>by exact ay q).2;refine bf (i.alive _ _ i.st) λoJ TJ aJ O O=>?_
 have c:Cx D C X (cX D scope X J z2 env₀) (aL L) z z2 scope xs J fp P St:=⟨i,rfl,by rw[e];rfl,by rw[e];rfl,rfl,λx c q=>by
  have h:=t.free _ (show (x,oy)∈scope.names from ((Z x).mpr (by rw[q];rfl)).resolve_right nofun) rfl;refine aV (mO.mp h.1) λi' M=>bf (i.F.F.hF x i' h.2 M) λc' v q1 n O=>aS n λo w O=>?_;rw[bM (p x c q) q1]
  exact ⟨⟨o,w⟩,i.nf.c x i' _ h.2 M q1⟩,⟨oJ,aJ⟩⟩
 clear b p Z
 exact Tr c.wk (CI D (C.sub scope.names aB aE hb) (X.add J) (cX D scope X J z2 env₀) J z2 St ee tt conds xs (oj tt<|oR L) (fZ tt<|ja<|aL L) (Kc · L)) (λj s H=>oQ H λO O es O B O O=>es▸B.st) i.alive (vP (zC D scope z2) [] rfl K4 c.b0 e2 (bh _))
  (λs h' tk H Y l=>QDT c H Y l λys kc d u z' f nx nf sx nw rz m eu ec=>eu▸(ec.trans c.el.symm:d=env₀.locals)▸k ys L kc d u z' f nx nf sx nw rz m)
  λj s h' tk u r H hP R Y l Er=>Xf t hT hA hE c hL aa r H hP R Y l Er
theorem JQ (c:mc C scope tt target iter) (i:hj D C aE iter it) (v:nH D (C.sub scope.names aB aE hb) target tt) (A:oF D (C.sub scope.names aB aE hb) ifs conds) (l:aZ D (C.sub scope.names aB aE hb) elt ee):
 aZ D C (.ListComp elt [⟨target,iter,ifs,0⟩] scope pos) (.comp ee tt it conds):=λh=>⟨λ{X z Q Er} K k=>by
 rw[eval_ListComp];refine OA c i v A l h K λY L g d u Z F N q s U r ⟨m,j⟩=>(ax m j λH sb=>?_)
 exact bI (F.drop N q (λa o e n=>(sb.2 a n).trans e)<|bh _) λp M=>k _ _ g u (Z.to H Z.s.toks) p ⟨⟨λa o e n=>(sb.2 a<|U a o e n).trans<|s.st.keep a o e n,s.st.grow⟩,s.t,s.f,by show {Z.s with heap:=H}=_;rw[s.e];rfl⟩<|Rd.mon r M⟩
end
end
end
structure A6 (o:aP) (name:aG) (apos pos:bP) (xs:List aP) (ks:List wi):Prop where
 base: ∀env,wh o name env (bz o env)=bz o env
 qP: ∀env,methodCallForm (xs.length+ks.length) (mK pos<|fH xs env) (Pg pos<|Ph ks env)=aB
 line:(apos.endLine==pos.line)=aB
section
theorem yF (m:A6 x nm a pos xs ks)
 (h:aO M A (bz x env) (λov N=> ∀pl,aO M A (Cr ov nm pl) (λf H=>aO M A (wd pos f.1 f.2 (mK pos<|fH xs env)<|Pg pos<|Ph ks env) Q Er H) Er N) Er s):
 aO M A (bz (.Call (.Attribute x nm a) xs ks pos) env) Q Er s:=by
 rw[arm_eval_Call,m.base env];refine aR<|eX h (λov N z=>?_) λO O e=>e;refine aR<|iJ ?_;unfold methodCall;refine sb (m.qP env)<|wpAny_bind<|wpAny_holding<|wpAny_mono (z _) (λf H j=>?_) λO O e=>e
 exact aR (qo (by unfold QES;simp[m.line]:QES aB x env a pos=pure pos) j)
theorem MC.k (h:MC o name a pos xs):A6 o name a pos xs []:=⟨h.base,h.qP,h.line⟩
theorem ES {first:List aI}
 (h:aO M A (evalArgs (.ref a) aB args ks) (λx N=>(∃o fd,N.heap.get? a=aA o/\o.data=.func fd)/\aO M A (call (.ref a) (first++x.pos) x.kw) Q Er N) Er s):
 aO M A (wd pos (.ref a) first args ks) Q Er s:=by
 dsimp only[wd];refine aR<|cO<|eX h (λx N K=>?_) λO O x=>x;refine cR K.1 λo fd q i=>?_;have H:=K.2;refine aR<|iJ ?_;have n: ∀{t:ba aI},aO M A t Q Er N->aO M A (t>>=λr=>ot [r] point>>=λO=>pure r) Q Er N:=λZ=>aR<|eX Z (λr L R=>aR<|cO<|wpAny_point<|bA R) λO O x=>x;cases l:(args.any (·.1)||ks.any (·.1.isNone))<;>
  refine aR ?_<;>dsimp only[Po]<;>
  refine aR (wpAny_load q ?_)<;>rw[i]<;>refine bA ?_
 ·first
   |refine wpAny_ite ?_
   |skip
  split<;>first
   |exact n H
   |exact n (by dsimp only[callMarked];exact Calls.wpAny_keep H)
 ·first
   |exact n (by dsimp only[callMarked];exact Calls.wpAny_keep H)
   |exact n H
theorem FR.ED {G:bK} (F:FR P G C env Ob φ W r h) (t:i≠bQ) (e:r i=.own xs) (l:φ i=aA a) (A:W a)
 (k: ∀b o,h.get? b=aA o->b≠a-> ¬ P.PF b->h'.get? b=aA o) (B:P.Inv (Ex Ob W) h') (u:h'.get? a=aA (listOf vs'.toArray n')) (q:bB (Ex Ob W) h' vs' ys):FR P G C env Ob φ W (upd r i<|.own ys) h'/\dg W h W h':=by
 have st:dg W h W h':=⟨λb o e n=>k b o e (λz=>n<|z▸A) λz=>n<|F.pf b z,λO=>.inl⟩;have np: ∀b o,h.get? b=aA o->(∀vs,o.data≠ .fields vs)-> ¬ P.PF b:=λb o e d p=>by refine cR (P.iM F.inv p) λo' vs u d'=>?_;clear F t l A k B q st p;obtain rfl:=bM e u;exact d _ d'
 have m:Mon (Ex Ob W) h (Ex Ob W) h':=st.mon;refine dS (F.own i xs e) λa' vs n K U O=>?_;obtain rfl:=bM l K;have ne: ∀b o,h.get? b=aA o->(∀vs n,o.data≠ .seq vs n)->b≠a:=λb o eb d z=>by simp only[z,U] at eb;clear U;cases eb;exact d _ _ rfl
 have g: ∀j v,dh P φ env.cells (Ex Ob W) h j v (r j)->dh P φ env.cells (Ex Ob W) h' j v (upd r i (.own ys) j):=by
  intro j v x;by_cases s:j=i
  ·clear t l K
   subst s;unfold upd;erw[if_pos rfl];rw[e] at x;exact x
  ·unfold upd
   erw[if_neg s];induction hr:r j with
   |dz n=>rw[hr] at x;exact iU x λb q e1 e2 L Z=>(jX b q e1 (m _ _ e2 L).1 (m _ _ e2 L).2 Z)
   |_=>rw[hr] at x;exact x.mon m λn e=>by contradiction
 have al: ∀b,(∃o,h.get? b=aA o)-> ∃o,h'.get? b=aA o:=λb ⟨o,w⟩=>by
  by_cases z:b=a
  ·exact ⟨_,z▸u⟩
  ·by_cases pz:P.PF b
   ·exact cR (P.iM B pz) λo' vs u O=>⟨o',u⟩
   ·exact ⟨o,k _ _ w z pz⟩
 refine aS F.loc λmm R n2=>dS R λoL es ep N nd nr=>⟨⟨λb o w=>k b o (F.base b o w) (λz=>F.fN b o w<|.inr<|z▸A) λz=>F.fN b o w<|.inr<|F.pf b z,F.fN,F.hk,F.hK,F.hg,F.hb,F.rC,⟨mm,⟨oL,es,ep,k _ _ N (ne _ _ N λvs n d=>by rw[nd] at d;contradiction) (np _ _ N λvs d=>by rw[nd] at d;contradiction),nd,nr⟩,λx j p w=>g _ _<|n2 x j p w⟩,F.km,λx j p w=>?_,F.pY,F.oX,λj Y w=>?_,λcc j Y b w z s=>?_,λY w H b z=>?_,λY w H b z=>?_,λw=>F.lB (λf q'=>(by
  by_cases M:aT=i
  ·exact w ys (by unfold upd;exact sb (QGx M) rfl)
  ·exact w f (by unfold upd;erw[if_neg M];exact q'))),F.inj,λj b w=>al b<|F.jx j b w,λb w=>al b<|F.dc b w,F.dT,B,F.pf⟩,st⟩
 ·exact bf (F.hF x j p w) λc v e1 Q Z=>aS Q λo L d3=>⟨c,v,e1,(ax o (k _ _ L (ne _ _ L λvs n d=>by rw[d3] at d;clear Q;contradiction) (np _ _ L λvs d=>by rw[d3] at d;clear Q;contradiction)) d3),g _ _ Z⟩
 ·by_cases s:j=i
  ·clear t e K g
   subst s;unfold upd at w;rw[if_pos rfl] at w;cases w;exact (lz a vs' n' l u q)
  ·unfold upd at w
   rw[if_neg s] at w;exact dS (F.own j Y w) λb ws n q1 q2 q3=>(lz b ws n q1 (k _ _ q2 (λz=>s<|F.inj j i a (z▸q1) l) (np _ _ q2 λvs d=>by clear q2;contradiction))<|q3.mon m)
 ·by_cases M:j=i
  ·clear t e K g w s
   subst M;obtain rfl:=bM l z;exact A
  ·unfold upd at w
   rw[if_neg M] at w;exact F.gR cc j Y b w z s
 ·by_cases M:aT=i
  ·rw[<-M] at l
   clear k B u q st np m K U ne g al R n2 N nd nr;obtain rfl:=bM l z;exact A
  ·unfold upd at w H
   rw[if_neg M] at w;rw[if_neg<|lM t] at H;exact F.jb Y w H b z
 ·unfold upd at H
  rw[if_neg<|lM t] at H;by_cases M:aT=i
  ·rw[<-M] at e
   exact F.lD xs e H b z
  ·unfold upd at w
   rw[if_neg M] at w;exact F.lD Y w H b z
theorem FR.write {G:bK} (F:FR P G C env Ob φ W r h) (t:i≠bQ) (e:r i=.own xs) (l:φ i=aA a) (p:W a)
 (k: ∀b o,h.get? b=aA o->b≠a->h'.get? b=aA o) (u:h'.get? a=aA (listOf vs'.toArray n')) (q:bB (Ex Ob W) h' vs' ys):FR P G C env Ob φ W (upd r i<|.own ys) h'/\dg W h W h':=by
 refine F.ED t e l p (λb o e n O=>k b o e n) (P.iS F.inv (dg.mon ⟨λb o e n=>k b o e λz=>n<|z▸p,λO=>.inl⟩)<|F.tu λb o v w d O=>k b o w λz=>?_) u q;refine dS (F.own i xs e) λA v n m j O=>?_;obtain rfl:=bM l m;simp only[z,j] at w;cases w;contradiction
end
section
variable {fl:Bool}
theorem FX.ct (K:FX D C X r z) (c:CT D (Ex X.Ob z.W) (λO=>False) z.s s') (l:z.s.toks<=s'.toks):FX D C X r {z with s:=s'}/\Sx z {z with s:=s'}:=by have Z: ∀a o,z.s.heap.get? a=aA o-> ¬ D.P.PF a->s'.heap.get? a=aA o:=λa o e p=>c.keep a o e id p;exact ⟨⟨K.F.keepsP Z c.inv,K.R,az K.t l⟩,⟨K.F.CF Z,l,rfl,c.e⟩⟩
theorem FX.keeps (K:FX D C X r z) (k: ∀a o,z.s.heap.get? a=aA o->h'.get? a=aA o) (l:z.s.toks<=tk):FX D C X r (z.to h' tk)/\Sx z (z.to h' tk):=⟨K.kl (.all k) l,.kl K (.all k) l⟩
theorem KE.ct (k:KE D C X r z (.d d) Q) (K:FX D C X r z) (c:CT D (Ex X.Ob z.W) (λO=>False) z.s s') (q:Rd (Ex X.Ob z.W) s'.heap u d):z.s.toks<=s'.toks->Q u s':=λl=>k u _ (K.ct c l).1 (K.ct c l).2 q
theorem n_ [H:cz D] (hn:D.fns[f]?=aA nm) (r:D.mg nm=aA (.ref i)) (x:D.G.get? i=aA o) (hd:o.data=.func fd) (B:mq C nm) (P:Pl xs) (a:fb D C xs es):aZ D C (.Call (.Name nm p) xs [] pos) (.call f es):= @λO O h=>
 ⟨λ{X z Q Er} K k=>qn (qb K B r (zi (gN (P X.env pos) (kO (a h) K λN l U L g R s v=>⟨⟨R.F.base _ _ x,hd⟩,by
  clear x a h K;induction g with
  |mk e g=>
   refine tY (H.F _ _ _ e) λn Z M W b d O O j=>?_;clear H hd B P e;obtain rfl:=bM hn b;cases bM r d
   exact wpAny_toks<|j R.cs v λu A c q=>((k _ _ g).tr s).ct R c q⟩))))⟩
theorem QBk [H:cz D] (c:D.cN f C) (ok:iA C nm i) (a:Pl xs) (A:fb D C xs es):aZ D C (.Call (.Name nm p) xs [] pos) (.jH f i es):= @λO O h=>⟨λ{X z Q Er} K k=>qn (uA K ok λv q=>by
 have hf:=h.1;have h:=h.2;simp only[hf] at q
 exact aS q λF M cl=>(ax _ M (ES (gN (a X.env pos) (kO (A h) K λds l us Z g R s1 r1=>⟨H.Ng<|D.P.xq cl s1.mon,by
  induction g with|mk e g=>exact H.L _ _ _ _ _ e c R (D.P.xq cl s1.mon) r1<|(k _ _ g).tr s1⟩)))))⟩
theorem FX.hl {u:V} (K:FX D C X r z) (h:r aT=.own hs) (q:Vz D X z x .inst): ∃R i vs n,x=.ref R/\z.φ aT=aA i/\D.P.HI (Ex X.Ob z.W) z.s.heap R i/\z.s.heap.get? i=aA (listOf vs.toArray n)/\bB (Ex X.Ob z.W) z.s.heap vs hs:=by refine bf q λR i p Q l=>dS (K.F.own _ _ h) λL vs n f A e=>?_;obtain rfl:=bM p f;exact (HH R i vs n Q p l A e)
section
variable[H:cz D]
include H
theorem JT {ds hs hs':List aK} (j:qx D f ds hs d hs') (K:FX D C X r z) (q:Vz D X z x .inst) (h:r aT=.own hs) (L:r bQ=.emp) (rs:iX X z us ds) (k:KE D C X (upd r aT<|.own hs') z (.d d) Q):aO (aY D.prog D.w) X.A (call (.ref f)<|x::us) Q Er z.s:=by refine tY (K.hl (u:=.emp) h q) λM Y vs n m P p3 p5 a=>sb m ?_;have W:=K.F.jb _ h L _ P;refine wpAny_toks<|j K.cs p3 (.inr W) p5 a rs λu Z aa n' c U B v l=>?_;exact bI (K.F.ED (i:=aT) (by decide) h P W (λb o e n p=>c.keep b o e n p) c.inv U B) λg N=>k u {z with s:=Z} ⟨g,K.R,az K.t l⟩ ⟨N,l,rfl,c.e⟩ v
theorem Iq {k:Nat} {ds:List aK} (hn:D.hm k=aA (nm,f)) (K:FX D C X (aL l) z) (q:Vz D X z u .inst) (rs:iX X z us ds) (g:iW l aT λhs=>aL l bQ=.emp/\yD (D.o.H k ds hs) λz hs'=>r (.d z)<|cL l aT<|.own hs') (i:KW D C X z r Q):aO (aY D.prog D.w) X.A (call (.ref f)<|u::us) Q Er z.s:=by
 induction i9 g with
 |mk h g=>
  refine bI g λm g=>?_;induction g with
  |mk e g=>refine cR (H.H _ _ _ _ _ e) λn F b c=>?_;cases bM hn b;exact JT c K q h m rs<|fQ _ _ _▸i _ _ g
theorem X7 {k:Nat} (hn:D.hm k=aA (nm,f)) (P:k<20) (m:MC x nm A pos xs) (M:aZ D C x a) (q:fb D C xs es):aZ D C (.Call (.Attribute x nm A) xs [] pos) (.jr k a es):= @λO O h=>⟨λ{X z Q Er} K p=>by
 refine cR (H.v3 _ _ _ hn) λo j Y U=>yF m.k<|(M h).run K λv L h t Z R i b=>λpl=>?_;obtain ⟨rfl,h⟩:=Au h;have r:=b;refine bf r λB N u e n=>?_;subst e
 exact H.yv _ _ _ hn P R.F.base n<|zi<|gN (m.pl X.env)<|kO (q h) R λds l us W g d s c=>⟨⟨d.F.base _ _ Y,U⟩,Iq hn d (b.mon s) c g λO O g=>(p _ _ g).tr<|i.trans s⟩⟩
theorem TG {k:Nat} (hn:D.hm k=aA (nm,f)) (m:20<=k) (q:mq C nm) (P:Pl (x::xs)) (hs: ∀env,fH (x::xs) env=(aE,bz x env)::fH xs env) (M:aZ D C x a) (A:fb D C xs es):
 aZ D C (.Call (.Name nm p) (x::xs) [] pos) (.jr k a es):=λh=>⟨λ{X z Q Er} K u=>by
 refine cR (H.v3 _ _ _ hn) λo fd Y U=>qn<|qb K q (H.Nj _ _ _ hn m)<|zi (o:=o) (fd:=fd)<|gN (P X.env pos) ?_;refine sb (hs X.env)<|spliced_cons<|(M h).run K λv L h t Z R i b=>?_
 have B:=(Au h);have d:=B.1;have h:=B.2;clear B;subst d
 exact kO (A h) R λj l N W g c s r=>⟨⟨c.F.base _ _ Y,U⟩,Iq hn c (b.mon s) r g λO O g=>(u _ _ g).tr<|i.trans s⟩⟩
theorem Ym {k:Nat} (hn:D.hm k=aA (nm,f)) (Y:k<20) (m:MC x nm A pos xs) (M:aZ D C x a) (Z:fb D C xs es):aZ D C (.Call (.Attribute x nm A) xs [] pos) (.jU k a es):= @λO O h=>⟨λ{X z Q Er} K t=>by
 refine cR (H.v3 _ _ _ hn) λo fd q3 q4=>yF m.k<|(M h).run K λv l1 h ov z1 b i r1=>λpl=>?_;obtain ⟨rfl,h⟩:=Au h;have P:=r1;refine bf P λix ia p1 r p3=>?_;subst r;refine H.yv _ _ _ hn Y b.F.base p3<|zi<|gN (m.pl X.env)<|kO (Z h) b λds l us z3 g d s B=>⟨⟨d.F.base _ _ q3,q4⟩,?_⟩;induction i9 g with
 |mk U g=>
  induction g with
  |mk e g=>
   refine cR (H.R _ _ _ _ e) λN W q1 j=>?_;cases bM hn q1;refine tY (d.hl (u:=.emp) U<|r1.mon s) λL aa vs n e p4 p5 p p7=>?_;cases e
   exact wpAny_toks<|j d.cs p5 p p7 B λu s' c q=>((t _ _ g).tr<|i.trans s).ct d c q⟩
theorem LW (K:FX D C X r z) (o:iA C nm 0) (b:r 0=.inst) (h: ∀i N,z.φ aT=aA N->D.P.HI (Ex X.Ob z.W) z.s.heap i N->Q (.ref i) z.s):aO (aY D.prog D.w) X.A (bz (.Name nm p) X.env) Q Er z.s:=uA K o λv q=>by simp only[b] at q;exact bf q λi N x e d=>(ax _ e<|h i N x d)
theorem Xk (ok:iA C nm 0) (hb: ∀env,wh (.Name nm p) "_headers" env (bz (.Name nm p) env)=bz (.Name nm p) env):aZ D C (.Attribute (.Name nm p) "_headers" pos) .fE:= @λO O h=>⟨λ{X z Q Er} K k=>by
 refine aR<|LW K ok h.1 λR i e1 d=>aR<|iJ<|aR<|cO<|wpAny_toks<|H.Lj K.F.base d λtk l=>?_
 exact aR<|bA<|bA<|k _ _ h.2 _ (z.to z.s.heap tk) (K.kl (.refl _ _) l) (.kl K (.refl _ _) l)<|ax i e1 rfl⟩
theorem QDE (h:aZ D C x .fE):hj D C fl x .fE:= @λl r g=>λK k=>by
 refine eJ g λb i g=>?_;induction i9 g with
 |mk A g=>refine (h (K:=λv L=>v=.bor aT/\L=l) ⟨b,rfl,rfl⟩).run K ?_;clear H h K b;intro _ _ n u z R s Q;obtain ⟨rfl,rfl⟩:=n;exact BC R Q (.q<|.l<|.bor A) (λf j e a d=>by cases e;exact R.F.lD _ A (i f) a d)<|(k _ _ g).tr s
theorem Rc {p ap q1 q2:bP} (ok:iA C nm 0) (hm:A6 (.Name nm p) "_convert_string_type" ap pos [y] [⟨aA "name",.Constant (.bool b) W q1,q2⟩]) (hs: ∀env,fH [y] env=[(aE,bz y env)]) (A:aZ D C y a):
 aZ D C (.Call (.Attribute (.Name nm p) "_convert_string_type" ap) [y] [⟨aA "name",.Constant (.bool b) W q1,q2⟩] pos) (.conv b a):=λh=>⟨λ{X z Q Er} K k=>by
 refine bI h λh0 h=>aS (H.conv b) λf g1 g2=>cR (H.v3 _ _ _ g1) λo fd g3 Y=>yF hm (LW K ok h0 λi B c p3 pl=>H.yv _ _ _ g1 (by decide) K.F.base p3<|ES<|evalArgs_kw2 rfl ?_ (by simp only[hs X.env];rfl));simp only[hs X.env];refine uX<|(A h).run K λv N g u L j s1 r1=>lN<|kwAll_cons<|Fd<|kwAll_nil ?_;induction NF g with
 |mk e g=>
  subst e;refine aV (Rd.dK r1) λt' s=>sb s<|⟨(fD o fd (j.F.base _ _ g3) Y),wpAny_toks<|g2 _ g.1 j.R j.t j.F.base (D.P.kG p3 s1.mon) λh' tk Z l=>?_⟩
  exact bI (j.keeps Z l) λx s2=>k _ _ g.2 _ _ x (s1.trans s2)<|Rd.str _ _⟩
theorem QBn (ok:mq C "b1_set") (A:aZ D C x a):aZ D C (.Compare x [.In] [.Name "b1_set" p] pos) (.qE a):= @λO O h=>aS H.b1 λb q1 q2=>⟨λK k=>Pb (qa (A h) K λi l t' z g j s1=>qb j ok q1<|wpAny_toks<|q2 j.R j.F.base λtk=>((k _ _ g).tr s1).same j<|Rd.bool _) rfl⟩
theorem QBT (o:mq C "b3_exceptions") (m:MC (.Name "b3_exceptions" p) "get" A pos [y]) (hs: ∀env,fH [y] env=[(aE,bz y env)]) (s:aZ D C y a):
 aZ D C (.Call (.Attribute (.Name "b3_exceptions" p) "get" A) [y] [] pos) (.qB a):=λh=>⟨λ{X z Q Er} K k=>by
 refine oQ H.b3 λd B n b Y f q=>wj (m.base X.env) (m.qP X.env) m.line<|qb K o n ?_;refine ⟨"dict","dict.get",QET,QEU,PySem.F.type_dict_get,⟨B,K.F.base _ _ b,Y⟩,λa e=>(by cases e;exact (ax B (K.F.base _ _ b) f)),we (m.pl X.env)<|gN (m.pl X.env) ?_⟩
 exact sb (hs X.env)<|spliced_cons<|qa (s h) K λi l t Z g j U=>lN<|wpAny_toks<|q j.R j.F.base λu v r=>((k _ _ g).tr U).same j<|r _ _⟩
theorem Zv (hk:C.K "type" =aA .globalImplicit) (hk2:C.K "int" =aA .globalImplicit) (hp:Pl [x]) (hs: ∀env,fH [x] env=[(aE,bz x env)]) (ha:aZ D C x a):
 eS D C (.Compare (.Call (.Name "type" p1) [x] [] p) [.IsNot] [.Name "int" p2] pos) (.yU a):=λh=>⟨λ{X z Q Er} K k=>by
 refine He (qn<|yQ K hk (by decide+kernel) (u:=.type "type") (by lia)<|wg (hp X.env p)<|gN (hp X.env p) ?_) rfl
 exact sb (hs X.env)<|spliced_cons<|qa (ha h) K λi l t' z1 g K1 s1=>lN<|Pp (typeIs_int _ _ _) (by decide+kernel)<|yQ K1 hk2 (by decide+kernel) (u:=.type "int") (by lia)<|Pd rfl (oq<|k _ _ g _ K1 s1)⟩
end
end
section
variable {A:cV} {E:aI->aN->Prop}
theorem QAf {I:aM} {St:Nat->bK->Prop} (W:sO prog w A I fp [I] N P St): ∀n i s Q,St i s.heap->i+n<=N->
 (∀vs h' tk,vs.length=n->(∀j v,vs[j]?=aA v->P (i+j) v)->St (i+n) h'->(∀b o,b≠I->s.heap.get? b=aA o->h'.get? b=aA o)->Q vs {s with heap:=h',toks:=tk})->aO (aY prog w) A (draw (.ref I) n) Q E s:=by
 intro O;induction O with
 |zero=>exact λi s Q f O h=>by exact bA (h [] s.heap s.toks rfl (by simp) f λO O O e=>e)
 |succ n d=>
  exact λi s Q f p h=>by
   refine aR<|W.item i s _ _ (ig (mL _ _) ‹_›) f λv H t C q K=>?_;refine aR<|cO<|d (i+1) _ _ q (aQ p) λvs h' tk l m Z x=>bA ?_;refine h (v::vs) h' tk (by simp[l]) (λj u g=>?_) (by erw[(by simp+arith:i+(n+1)=i+1+n)];exact Z) λb o B e=>x b o B (K b o (by simpa using B) e);induction j with
   |zero=>cases g;exact C
   |succ j=>have:=m j u g;rwa[show i+1+j=i+(j+1) by exact zj _ _ _] at this
theorem QAc {items:Array aI} (C:A.handled=aF) (hl:s.heap.IsList a items)
 (h: ∀h' tk,(∀b o,s.heap.get? b=aA o->h'.get? b=aA o)->Q items.toList {s with heap:=h',toks:=tk}):aO (aY prog w) A (Pq (.ref a) items.size aF) Q E s:=by
 dsimp only[Pq];refine aR ?_;dsimp only[notIterableAtAll];refine aR<|QEV hl.typeIs PySem.F.slot_list_iter.lookup ?_;refine bA ?_
 skip
 refine aR<|cO<|QEO hl ?_;have W:=Walks.list (prog:=prog) (w:=w) C s.heap.objs.size a (by refine aS hl λo B O=>?_;exact qm (kg B):a≠s.heap.objs.size) items;refine aR (cO<|QAf W items.size 0 _ _ ⟨(gc _ (fG _ rfl) rfl rfl),hl.push _⟩ (by simp+arith) λvs z d l P q p=>?_)
 have v:vs=items.toList:=by
  refine QEW λj=>?_;by_cases g:j<vs.length
  ·have:=P j vs[j] (sP g)
   erw[sP g];simpa using this.symm
  ·erw[Cv<|jM ‹_›]
   exact sb (Cv (by simp;exact bD (nR l)<|jM g)) rfl
 refine sb (QGw λK=>cY K<|nR l)<|wpAny_bind (wpAny_holding<|W.done _ _ _ (by rw[Nat.zero_add] at q;exact q) λH t r=>?_)
 dsimp only[Option.isSome_none,wm,if_false];refine sb v<|wpAny_pure<|h H t λb o e=>?_
 have hb:=qm<|kg e;exact r b o (by simpa using hb)<|p b o hb<|gS _ e
theorem Oe {items:Array aI} {k:Int} (hl:s.heap.get? l=aA (listOf items n)) (h0:0<=k) (F:k<2^63) (hn:k<items.size)
 (hQ: ∀h' n',h'.get? l=aA (listOf (items.setIfInBounds k.toNat v) n')->HZ l s.heap h'->Q () {s with heap:=h'}):
 aO (aY prog w) A (Hy (.ref l) (.int k t) v) Q E s:=by
 have L:s.heap.IsList l items:=⟨_,hl,rfl,n,rfl⟩;unfold Hy
 try with_reducible refine cO ?_
 first|refine wpAny_bind (wpAny_pure ?_)|skip
 refine aR (QEX L.typeIs (by decide) ?_)
 refine aR (QEY L.typeIs Hz
  (H0 Hz L.typeIs QEZ ?_<|QEa _ _ _))
 refine (?_:aO _ _ (Builtin.List.listSubscript? (.int k t)>>=_) _ _ s);refine aR<|wpAny_listSubscript_int (fitsIndex_of h0 F) ?_;clear F;refine aV (H2 h0) λj e=>?_;subst e;have g:j<items.size:=mD.mp ‹_›
 have x:=QEb g;refine aR<|aR<|wpAny_seqItemAt hl rfl (bA ?_);erw[x];have f: ∃n',(s.heap.update l<|Obj.mapSeq (·.setIfInBounds j v)).get? l=aA (listOf (items.setIfInBounds j v) n'):=by refine ⟨if (items.setIfInBounds j v).size==items.size then n else n+1,?_⟩;erw[wo _ hl<|by rfl];rfl
 refine aV f λn' f=>aR<|wpAny_setSeqItemAt hl rfl ?_
 first
  |exact wpAny_bind<|wpAny_pure<|wpAny_pure<|ax .none rfl (wpAny_pure<|hQ _ n' f<|Heap.SameBut.update ..)
  |exact wpAny_pure ⟨.none,rfl,wpAny_pure<|hQ _ n' f<|Heap.SameBut.update ..⟩
end
section
theorem jg (W:jj [t] i pos.line env=pure aE) (e:mQ [t] i env=pure aF) (a:(uf [t] env).map (·.2)=[mP t env])
 (h:aO M A (bz i env) (λu N=>aO M A (mP t env u) (λO H=>Q .next H) Er N) Er s):aO M A (o3 (.Assign [t] i pos) env) Q Er s:=by
 rw[Pr];refine aR<|iJ ?_;refine sb W<|wpAny_bind<|wpAny_pure ?_
 refine sb (QGw<|by decide)<|wpAny_bind<|wpAny_mono h (λv N z=>?_) λO O x=>x
 refine sb e<|sb a<|wpAny_bind<|wpAny_pure ?_
 exact aR<|eX z (λO O x=>bA x) λO O x=>x
theorem bB.rev {X:aM->Prop}: ∀{ds:List aK} {us:List aI},bB X h us ds->bB X h us.reverse ds.reverse:=by
 intro ds;induction ds with
 |nil=>exact @λus q=>sb q.kN<|bB.nil
 |cons d ds i=>exact @λus q=>by refine bf q.iB λu us e Q s=>sb e ?_;simp only[zl,zl];exact (i s).app<|bB.cons Q bB.nil
theorem YT: ∀(ps:List (Nat×aK)) (r:bR) (i:Nat) (d:aK),i∉ps.map (·.1)->ps.foldl (λr p=>upd r p.1<|.val p.2) (upd r i<|.val d)=upd (ps.foldl (λr p=>upd r p.1<|.val p.2) r) i (.val d):=by
 intro O;induction O with
 |nil=>exact λr i d O=>rfl
 |cons p ps e=>
  exact λr i d h=>by
   refine sb oo<|sb List.foldl_cons ?_
   have:upd (upd r i<|.val d) p.1 (.val p.2)=upd (upd r p.1<|.val p.2) i (.val d):=by
    funext j;unfold upd;by_cases H:j=p.1
    ·exact sb (QGx H)<|sb (if_neg (by rw[H];exact (λq=>h<|by simp[q])))<|sb (if_pos H) rfl
    ·rw[if_neg H,if_neg H]
   rw[this];exact e _ i d λq=>h (by rw[gB];exact .tail _ q)
theorem Ux: ∀(ps:List (Nat×aK)) (r:bR),(ps.map (·.1)).Nodup->ps.reverse.foldl (λr p=>upd r p.1<|.val p.2) r=ps.foldl (λr p=>upd r p.1<|.val p.2) r:=by
 intro O;induction O with
 |nil=>exact λr O=>rfl
 |cons p ps i=>exact λr h=>by simp only[gB,Pk] at h;simp only[zl,List.foldl_append,i r h.2,oo,List.foldl_nil,oo,YT ps r p.1 p.2 h.1]
theorem Lx {α β:Type}: ∀{l:List α} {m:List β},l.length=m.length->l.reverse.zip m.reverse=(l.zip m).reverse:=by
 intro l;induction l with
 |nil=>exact λO=>rfl
 |cons a l i=>
  exact @λm h=>by
   induction m with
   |nil=>contradiction
   |cons b m O=>
    have H:l.length=m.length:=by simpa using h
    refine sb zl<|sb List.reverse_cons<|sb (List.zip_append<|by simp[H])<|sb (i H) ?_
    simp
structure sZ (C:Fc) (W:aM->Prop) (h:bK) (φ φ':Nat->Option aM):Prop where
 nw:C.nw=aE->φ'=φ
 hn:C.hn=aE->φ' aT=φ aT
 sub: ∀i a,φ' i=aA a->(∃j,φ j=aA a)\/W a\/h.get? a=aF
theorem sZ.refl (C φ) {W h}:sZ C W h φ φ:=⟨λO=>rfl,λO=>rfl,λi a e=>.inl ⟨i,e⟩⟩
theorem dg.new (s:dg W h W' h') (e:h'.get? a=aF):W a\/h.get? a=none:=by
 by_cases w:W a
 ·exact .inl w
 ·induction z:h.get? a with
  |none=>exact .inr rfl
  |some o=>have:=s.keep a o z w;exact cb e this
theorem sZ.trans {C W h W' h' φ φ' φ''} (a:sZ C W h φ φ') (s:dg W h W' h') (b:sZ C W' h' φ' φ''):sZ C W h φ φ'':=⟨λz=>(b.nw z).trans<|a.nw z,λz=>(b.hn z).trans<|a.hn z,λi x e=>by
 rcases b.sub i x e with ⟨j,q⟩|q|q
 ·exact a.sub j x q
 ·exact .inr<|s.grow x q
 ·exact .inr<|s.new q⟩
theorem FR.klA {G:bK} (F:FR P G C env Ob φ W r h) (k:Kl env.locals h h') {I:aM} (t:h.get? I=aF) (i: ∃o,h'.get? I=aA o):FR P G C env (λa=>Ob a\/a=I) φ W r h':=by have m:Mon (Ex Ob W) h (Ex (λa=>Ob a\/a=I) W) h':=λa o e n=>⟨k.keep a o e λq=>n<|.inr<|q▸F.km,λq=>n<|q.imp (λq=>q.resolve_right λz=>cb (z▸t) e) id⟩;exact F.chg m (λa o e s O=>k.keep a o e<|F.nl e s.nd) k.ns (λa q=>F.NS i (F.KL k) q) (F.MB t)<|F.Ka k m
theorem FR.adopt {G:bK} (F:FR P G C env (λb=>Ob b\/b=a) φ W (upd r i .unb) h) (H:i≠aT) (t: ∀j k n,upd r i .unb j=.dz n->cT j k≠i) (al: ∃o,h.get? a=aA o) (na: ¬ Ex Ob W a) (nf:jf C env φ a):
 FR P G C env Ob (λj=>if j=i then aA a else φ j) (λb=>W b\/b=a) (upd r i .unb) h:=by
 have M:Ex (λb=>Ob b\/b=a) W=Ex Ob (λb=>W b\/b=a):=by
  funext b;refine propext ⟨λq=>?_,λq=>?_⟩
  ·rcases q with (q|q)|q
   ·exact .inl q
   ·exact .inr<|.inr q
   ·exact .inr<|.inl q
  ·rcases q with q|q|q
   ·exact .inl<|.inl q
   ·exact .inr q
   ·exact .inl<|.inr q
 have B: ∀j v,dh P φ env.cells (Ex (λb=>Ob b\/b=a) W) h j v (upd r i .unb j)->dh P (λj=>if j=i then aA a else φ j) env.cells (Ex Ob λb=>W b\/b=a) h j v (upd r i .unb j):=by
  intro j v x;erw[<-M];by_cases s:j=i
  ·erw[<-s]
   have:upd r j .unb j=.unb:=by unfold upd;exact sb (QGx rfl) rfl
   erw[this];trivial
  ·have e1:(if j=i then aA a else φ j)=φ j:=QGw s
   have e2:(if aT=i then aA a else φ aT)=φ aT:=QGw<|lM H;induction hr:upd r i .unb j with
   |own xs=>rw[hr] at x;exact aS x λb q1 q2=>(ax b (by refine (?_:(if j=i then aA a else φ j)=aA b);erw[e1];exact q1) q2)
   |ali k=>rw[hr] at x;obtain ⟨q0,b,q1,q2⟩:=x;subst q0;exact ⟨rfl,b,by refine (?_:(if aT=i then aA a else φ aT)=aA b);erw[e2];exact q1,q2⟩
   |inst=>rw[hr] at x;exact bf x λy b q1 q2 Y=>(dA y b (by refine (?_:(if aT=i then aA a else φ aT)=aA b);erw[e2];exact q1) q2 Y)
   |dz n=>rw[hr] at x;refine iU x λb m q1 q2 Y l=>?_;have u: ∀k,(if cT j k=i then aA a else φ (cT j k))=φ (cT j k):=λk=>QGw<|t j k n hr;refine (jX b m q1 ?_ Y (λk hk=>by refine (?_:(if cT j k=i then aA a else φ (cT j k)).isSome=aB);rw[u];exact l k hk));simp only[u];exact q2
   |unb=>trivial
   |val d=>rw[hr] at x;exact x
   |clo f=>rw[hr] at x;exact x
   |emp=>rw[hr] at x;exact x
 have R: ∀j b,(if j=i then aA a else φ j)=aA b->(j=i/\b=a)\/(j≠i/\φ j=aA b):=λj b q=>by
  by_cases s:j=i
  ·clear F t al na nf M H B
   obtain rfl:=bM (QGx s) q;exact .inl ⟨s,rfl⟩
  ·rw[if_neg s] at q
   exact .inr ⟨s,q⟩
 refine aS F.loc λL U N=>⟨F.base,λb o e q=>F.fN b o e (by erw[M];exact q),F.hk,F.hK,F.hg,F.hb,F.rC,(ax L U λx j p q=>B _ _<|N x j p q),.inl F.km,λx j p q=>?_,λx j c p q w z=>.inl<|F.pY x j c p q w z,F.oX,λj ys q=>?_,λcc j ys b q p z=>?_,λys q p b z=>?_,λys q p b z w=>?_,λq=>(by refine (?_);erw[if_neg<|lM H];exact F.lB q),λj k b q1 q2=>?_,λj b q=>?_,λb q=>F.dc b (by erw[M];exact q),λb w q=>?_,M▸F.inv,λb p=>.inl<|F.pf b p⟩
 ·exact bf (F.hF x j p q) λc v e1 u A=>(dA c v e1 u<|B _ _ A)
 ·have s:j≠i:=λz=>by clear t B N;clear al na nf H R U;subst z;unfold upd at q;rw[if_pos rfl] at q;exact nomatch q
  exact dS (F.own j ys q) λb vs n e1 e2 u=>(lz b vs n (by refine (?_);erw[if_neg s];exact e1) e2<|M▸u)
 ·rcases R j b p with ⟨_,z'⟩|⟨s,Q⟩
  ·exact .inr z'
  ·exact .inl<|F.gR cc j ys b q Q z
 ·rcases R aT b z with ⟨z',_⟩|⟨_,Q⟩
  ·exact QGv z'.symm H
  ·exact .inl<|F.jb ys q p b Q
 ·rcases R aT b z with ⟨z',_⟩|⟨_,Q⟩
  ·exact QGv z'.symm H
  ·refine cp (w) (λw=>?_) λw=>?_
   ·exact F.lD ys q p b Q w
   ·exact nf.p aT<|w▸Q
 ·rcases R j b q1 with ⟨Z,z2⟩|⟨Z,z2⟩<;>rcases R k b q2 with ⟨K,g⟩|⟨K,g⟩
  ·simp only[Z,K]
  ·exact QGv g<|z2▸nf.p k
  ·exact QGv z2<|g▸nf.p j
  ·exact F.inj j k b z2 g
 ·rcases R j b q with ⟨Z,z2⟩|⟨Z,z2⟩
  ·exact z2▸al
  ·exact F.jx j b z2
 ·refine cp (w) (λw=>?_) λw=>?_
  ·exact F.dT b w<|.inl q
  ·exact na<|.inl<|w▸q
end
theorem JL:Ex (λb=>Ob b\/b=a) W=Ex Ob (λb=>W b\/b=a):=by funext b;exact propext ⟨λq=>q.elim (λq=>q.elim .inl λq=>.inr<|.inr q) λq=>.inr<|.inl q,λq=>q.elim (λq=>.inl<|.inl q) λq=>q.elim .inr λq=>.inl<|.inr q⟩
structure Sy (C:Fc) (z z':Zs):Prop where
 st:dg z.W z.s.heap z'.W z'.s.heap
 t:z.s.toks<=z'.s.toks
 p:sZ C z.W z.s.heap z.φ z'.φ
 e:z'.s={z.s with heap:=z'.s.heap,toks:=z'.s.toks,drawn:=z'.s.drawn}
theorem Sx.y (s:Sx z z'):Sy C z z':=⟨s.st,s.t,s.f▸ .refl _ _,s.e⟩
theorem Sy.trans (a:Sy C z z') (b:Sy C z' z''):Sy C z z'':=⟨a.st.trans b.st,az a.t b.t,a.p.trans a.st b.p,by (erw[b.e];exact sb a.e rfl)⟩
theorem Sy.fresh (s:Sy C z z') (e:z.s.heap.get? a=aA o) (n: ¬ z.W a):z'.s.heap.get? a=aA o/\ ¬ z'.W a:=⟨s.st.keep a o e n,λq=>(s.st.grow a q).elim n λq=>by exact vH e q⟩
inductive BY (D:Wd) (X:Fx) (r:bR) (z:Zs):Fl->hM->Prop
 |next:BY D X r z .next .next
 |cont:BY D X r z .cont .cont
 |ret {v u d}:Vz D X z v u->xU r u d->BY D X r z (.ret d) (.ret v)
noncomputable def KS (D:Wd) (C:Fc) (X:Fx) (r:bR) (z:Zs) (fl:Fl) (Q:hM->aN->Prop):Prop:= ∀f Z,FX D C X r Z->Sy C z Z->BY D X r Z fl f->Q f Z.s
noncomputable def KR (D:Wd) (C:Fc) (X:Fx) (z:Zs) (K:Fl->Ls->Prop) (Q:hM->aN->Prop):Prop:= ∀f l,K f l->KS D C X (aL l) z f Q
noncomputable def bY (D:Wd) (C:Fc) (st:cx) (a:S):Prop:= ∀{l K},a D.o l K-> ∀{X:Fx} {z:Zs} {Q:hM->aN->Prop} {Er:aI->aN->Prop},FX D C X (aL l) z->KR D C X z K Q->aO (aY D.prog D.w) X.A (o3 st X.env) Q Er z.s
noncomputable def jT (D:Wd) (C:Fc) (h:List cx) (as:List S):Prop:= ∀{l K},sW as D.o l K-> ∀{X:Fx} {z:Zs} {Q:hM->aN->Prop} {Er:aI->aN->Prop},FX D C X (aL l) z->KR D C X z K Q->aO (aY D.prog D.w) X.A (fV h X.env) Q Er z.s
structure NL (D:Wd) (C:Fc) (X:Fx) (r:bR) (z:Zs) (xs:List aK) (a:aM) (vs:List aI) (n:Nat) (z':Zs):Prop where
 F:FX D C (X.add a) r z'
 s:Sx z z'
 e:z'.s.heap.get? a=aA (listOf vs.toArray n)
 q:iX (X.add a) z' vs xs
 na: ¬ Ex X.Ob z'.W a
 nf:jf C X.env z'.φ a
 nw:z.W a\/z.s.heap.get? a=aF
noncomputable def qc (D:Wd) (C:Fc) (x:aP) (e:E):Prop:= ∀{l} {K:List aK->Ls->Prop},e D.o l (λv l=>jI v λd=> ∃R,d=.list R/\K R l)-> ∀{X:Fx} {z:Zs} {Q:aI->aN->Prop} {Er:aI->aN->Prop},FX D C X (aL l) z->(∀R l,K R l-> ∀a m n Z,NL D C X (aL l) z R a m n Z->Q (.ref a) Z.s)->aO (aY D.prog D.w) X.A (bz x X.env) Q Er z.s
section
theorem KS.tr (k:KS D C X r z fl Qs) (s:Sy C z z'):KS D C X r z' fl Qs:=λf Z K n q=>k f Z K (s.trans n) q
theorem KS.nx (k:KS D C X r z .next Qs) (K:FX D C X r z') (s:Sx z z'):Qs .next z'.s:=k _ _ K s.y .next
theorem LO:jT D C [] []:= @λO O h=>λK k=>zo<|(k _ _ h).nx K .refl
theorem ta {st:cx} (A:bY D C st s) (H:jT D C sts ss):jT D C (st::sts) (s::ss):= @λO O h=>λK k=>ip (A h K λF l g f z R i o=>by
 induction o with
 |next=>exact H g R λO O g=>(k _ _ g).tr i
 |cont=>exact k _ _ g _ _ R i .cont
 |ret q Q=>exact k _ _ g _ _ R i<|.ret q Q)
theorem I4 (W: ∀env,jj [c] x pos.line env=pure aE) (s: ∀env,mQ [c] x env=pure aF) (A: ∀env,(uf [c] env).map (·.2)=[mP c env]) (M:aZ D C x a) (d:nH D C c t):bY D C (.Assign [c] x pos) (.asg t a):= @λO O h=>λ{X z Q Er} K k=>jg (W X.env) (s X.env) (A X.env) ((M h).run K λv L g u Z R i q=>by
 induction jd g with
 |mk e g=>
  subst e
  induction vc g with|mk b g=>exact d b R q λj P l O=>(k _ _ g).nx P<|i.trans l)
theorem OD {ds:List aK} (K:FX D C X r z) (hd:d=.tuple ds\/d=.list ds) (q:Rz X z v d) (k: ∀us z',FX D C X r z'->Sx z z'->z'.W=z.W->iX X z' us ds->Q us z'.s):aO (aY D.prog D.w) X.A (Pq v ds.length aF) Q Er z.s:=by
 rcases hd with rfl|rfl
 ·induction G8 (D:=D) q with
  | @mk p m n _ x u=>
   refine cv u.len<|cv List.size_toArray<|wpAny_unpackItems_tuple K.R.1 ⟨_,x,rfl,_,rfl⟩ λh P=>?_
   have Z: ∀b o,z.s.heap.get? b=aA o->h.get? b=aA o:=λb o e=>P b o (qm<|kg e) e;exact k m (z.to h z.s.toks) (K.keeps Z<|bh _).1 (K.keeps Z<|bh _).2 rfl (u.mon<|Mon.all Z)
 ·induction ND (D:=D) q with
  | @mk p m n _ x u=>exact cv u.len<|cv List.size_toArray<|wpAny_toks<|QAc K.R.1 (gO x) λh t Z l=>k m (z.to h t) (K.keeps Z l).1 (K.keeps Z l).2 rfl (u.mon<|Mon.all Z)
noncomputable def Ey (D:Wd) (C:Fc) (t:cg->aI->ba Unit) (i:Nat):Prop:= ∀{X:Fx} {z:Zs} {r:bR} {v:aI} {d:aK} {Q:Unit->aN->Prop} {Er:aI->aN->Prop},FX D C X r z->Rz X z v d->(∀Z,FX D C X (upd r i<|.val d) Z->Sx z Z->Z.W=z.W->Q () Z.s)->aO (aY D.prog D.w) X.A (t X.env v) Q Er z.s
theorem Og: ∀(ts:List (cg->aI->ba Unit)) (o:List Nat) (ds:List aK) {X:Fx} {z:Zs} {r:bR} {us:List aI} {Q:Unit->aN->Prop} {Er:aI->aN->Prop},ts.length=o.length->ds.length=o.length->(∀p∈ts.zip o,Ey D C p.1 p.2)->FX D C X r z->iX X z us ds->
 (∀z',FX D C X ((o.zip ds).foldl (λr p=>upd r p.1<|.val p.2) r) z'->Sx z z'->z'.W=z.W->Q () z'.s)->aO (aY D.prog D.w) X.A (assignInOrder (ts.map λt=>t X.env) us) Q Er z.s:=by
 intro O;induction O with
 |nil=>
  exact λo ds X z r us Q Er l L O K q k=>by
   cases QEc.mp l.symm
   cases QEc.mp L
   exact sb q.kN<|wpAny_pure<|k z K .refl rfl
 |cons F ts c=>
  exact λo ds X z r us Q Er l L P K q k=>by
   cases o with
   |nil=>contradiction
   |cons i o=>
    cases ds with
    |nil=>contradiction
    |cons d ds=>exact bf q.iB λu us e H b=>sb e<|wpAny_bind<|wpAny_holding<|P (F,i) (.head _) K H λZ R U a=>c o ds (zq l) (zq L) (λp h=>P p<|.tail _ h) R (b.mon U.mon) λz' j n v=>k z' j (U.trans n)<|v.trans a
inductive qi (C:Fc):List aP->List Nat->Prop
 |nil:qi C [] []
 |cons {nm:Str} {p:Pos} {i:Nat} {xs is}:lJ C nm i->qi C xs is->qi C (.Name nm p::xs) (i::is)
theorem qi.each (h:qi C xs is): ∃ts:List (cg->aI->ba Unit),ts.length=is.length/\(∀p∈ts.zip is,Ey D C p.1 p.2)/\ ∀env,(uf xs env).map (·.2)=ts.map (λt=>t env)/\(uf xs env).length=is.length/\(uf xs env).findIdx? (·.1)=none:=by
 induction h with
 |nil=>exact (gc [] rfl nofun (λenv=>⟨rfl,rfl,rfl⟩))
 | @cons nm p i xs is ok _ d=>
  refine cy d λts a1 a2 a3=>(gc ((λenv v=>mP (.Name nm p) env v)::ts) (QGz H3 a1) (λq Q=>?_) λenv=>?_)
  ·cases Q with
   |head=>exact λK q k=>ub<|yR ok K q k
   |tail _ Q=>exact a2 q Q
  ·refine eJ (a3 env) λb1 b2 b3=>?_
   have:uf (.Name nm p::xs) env=(aE,mP (.Name nm p) env)::uf xs env:=rfl;refine sb this<|⟨by (erw[List.map_cons];erw[b1]);rfl,congrArg Nat.succ b2,?_⟩
   erw[List.findIdx?_cons];erw[b3];rfl
theorem LC (e:og (.tup is) d r=aA r'): ∃ds,(d=.tuple ds\/d=.list ds)/\ds.length=is.length/\r'=(is.zip ds).foldl (λr p=>upd r p.1<|.val p.2) r:=by
 have K: ∀x,(if x.length=is.length then aA ((is.zip x).foldl (λr p=>upd r p.1<|.val p.2) r) else aF)=aA r'->x.length=is.length/\r'=(is.zip x).foldl (λr p=>upd r p.1<|.val p.2) r:=λx e=>by
  by_cases h:x.length=is.length
  ·obtain rfl:=bM (QGx h) e
   exact ⟨h,rfl⟩
  ·exact cb (QGw h) e
 cases d with
 |tuple x=>exact (ax x (.inl rfl)<|K x e)
 |list x=>exact (ax x (.inr rfl)<|K x e)
 |_=>exact ay e
theorem E4 (h:qi C xs is):nH D C (.Tuple xs j pos) (.tup is):=λe=>by obtain ⟨d,o,L,rfl⟩:=LC e;obtain ⟨t,a,A,p⟩:=h.each;refine λ{X z v Q Er} K q k=>?_;obtain ⟨b,M,B⟩:=p X.env;rw[arm_assign_Tuple];refine aR<|iJ ?_;unfold unpack;simp only[M,B,<-L,b];exact aR<|cO<|OD K o q λu Z R s W r=>Og t is d a L A R r λg P l Y=>k g P (s.trans l)<|Y.trans W
inductive nz (C:Fc):List aG->List Nat->Prop
 |nil:nz C [] []
 |cons {nm:Str} {i:Nat} {xs is}:lJ C nm i->nz C xs is->nz C (nm::xs) (i::is)
theorem nz.tU (h:nz C xs is):xs.length=is.length/\ ∀p∈(xs.map λn=>(λenv v=>zr env n v)).zip is,Ey D C p.1 p.2:=by
 induction h with
 |nil=>exact ⟨rfl,nofun⟩
 |cons ok _ i=>
  refine ⟨QGz H3 i.1,λq Q=>?_⟩;cases Q with
  |head=>exact λK q k=>QEd<|yR ok K q k
  |tail _ Q=>exact i.2 q Q
theorem TV (W: ∀env,jj [.Tuple L j r] x pos.line env=pure aE)
 (s: ∀env,env.scope.kind=.function->(∀x,env.kindOf x=C.K x)->mQ [.Tuple L j r] x env=pure (aA names)) (hn:nz C names is) (hd:is.Nodup) (i:aZ D C x a):bY D C (.Assign [.Tuple L j r] x pos) (.asg (.tup is) a):=λh=>λ{X z Q Er} K k=>by
 have H:=(hn.tU (D:=D));have N:=H.1;have A:=H.2;refine Assign_Tuple_swapped (names:=names) ?_ (W X.env)<|s X.env K.F.hk K.F.hK;refine sb N<|(i h).run K λv o g u z1 Y q q1=>aS (by induction jd g with|mk e g=>exact (ax _ e g): ∃d,v=.d d/\_) λd ev g=>?_
 subst ev;refine aS (by induction vc (t:=.tup is) (x:=d) (l:=o) g with|mk b a=>exact (ax _ b a): ∃f,og (.tup is) d (aL o)=aA (aL f)/\_) λf b g=>cy (LC b) λds R hl m=>cv hl<|OD Y R q1 λus z2 B M w2 Z=>sb (by rw[<-Pt,Cw];rfl:(names.reverse.map λn=>zr X.env n)=((names.map λn=>(λenv v=>zr env n v)).reverse).map λt=>t X.env)<|Og _ is.reverse ds.reverse (by simp only[List.length_reverse,List.length_reverse,List.length_map,N]) (by rw[List.length_reverse,List.length_reverse,hl]) (λp P=>?_) B (bB.rev Z) λz3 c U O=>?_
 ·rw[Lx<|by rw[dZ,N]] at P
  exact A p<|Cy.mp P
 ·rw[Lx hl.symm,Ux] at c
  ·exact k _ _ g _ _ (m▸c) ((q.trans M).trans U).y .next
  ·rw[List.map_fst_zip<|qj hl.symm]
   exact hd
theorem xk {J:aM} {vs:List aI} (s:Sx z'' z) (K:FX D C X r z) (kl:Kl X.env.locals z.s.heap h') (hn:z.s.heap.get? J=aF) (e:h'.get? J=aA (listOf vs.toArray n)) (q:iX X z vs xs) (l:z.s.toks<=tk):NL D C X r z'' xs J vs n (z.to h' tk):=by
 refine ⟨⟨K.F.klA kl hn ⟨_,e⟩,K.R,az K.t l⟩,s.trans<|.kl K kl l,e,bB.mon q λb o e n=>⟨(K.F.EG kl b o e n).1,λq=>?_⟩,K.F.wA hn,K.F.A7 hn,s.st.new hn⟩;rcases q with (q|q)|q
 ·exact n<|.inl q
 ·simp only[q,hn] at e
  exact ay e
 ·exact n<|.inr q
theorem ZR (h:fb D C xs es):qc D C (.List xs pos) (.list es):=λe=>λK k=>Hf (kO (h e) K λds l us z g R i q1=>by
 obtain ⟨Z,_,e,g⟩:=g;cases e
 exact ⟨by simp only[iw,q1.len];exact bJ Z,k _ _ g _ us 0 (z.to _ z.s.toks)<|xk i R (.push _) (ie<|bh _) (fG _ rfl) q1<|bh _⟩)
theorem W5 (h:fb D C xs es) (hb:aZ D C y b):qc D C (.BinOp (.List xs L) .Mult y pos) (.aH .Mult (.list es) b):=λe=>λ{X z Q Er} K k=>wpAny_BinOp ((LG h e).run K λv o g p x R i q1=>(hb g).run R λw W g A U P j d=>by
 induction Lp g with
 |mk e g=>
  obtain ⟨xs,rfl,g⟩:=g;cases e with
  |mul q u H Z=>
   refine aV (Rd.dj d) λt' t=>sb t ?_;induction kI P (q1.mon j) q with
   |mk M c=>exact dd P.led λr m a F N kl nw=>wpAny_toks<|KMa.mul F N (gO M) Z H (c.len▸u) rfl λD' B f n Y l=>k _ _ g _ _ 0 (U.to B U.s.toks)<|xk (i.trans j) P (kl _ _ f n λp=>zQ _) (nw _ _ _ _ n Y) (n _<|.head _).1 (c.rep _) l)
theorem RT {vs:List aI} (g:C.nw=aB) (ok:lJ C nm i) (N:NL D C X r z xs p vs n z') (k: ∀z'',FX D C X (upd r i<|.own xs) z''->Sy C z z''->Q () z''.s):aO (aY D.prog D.w) X.A (Cm X.env nm<|.ref p) Q Er z'.s:=by
 refine bI (C.mz ok.t) λhw H=>?_;have F:=FR.adopt (N.F.F.forget i hw H) H (λj k n _ q=>by have t:=C.low nm i ok.t;rw[<-q] at t;unfold cT at t;exact kn t) ⟨_,N.e⟩ N.na N.nf;have q2:bB (Ex X.Ob λb=>z'.W b\/b=p) z'.s.heap vs xs:=JL (Ob:=X.Ob)▸N.q;refine wpAny_toks (F.store ok.t ok.s ok.k (sl:=.own xs) (λh' O m=>(ax p (QGx rfl) rfl)) (λys Z=>by cases Z;exact (qV p vs n (QGx rfl) N.e q2<|.inr rfl)) λh' tk K s2 l=>?_);refine k {s:={z'.s with heap:=h',toks:=tk},W:=_,φ:=_} ⟨K,N.F.R,az N.F.t l⟩ ⟨⟨λb o e w=>?_,λb w=>?_⟩,az N.s.t l,⟨λz=>(by rw[g] at z;exact xQ z),λO=>(QGw<|lM H).trans<|congrFun N.s.f aT,λj b e=>?_⟩,by exact sb N.s.e rfl⟩
 ·have f:=N.s.fresh (J:=p) e w
  refine s2.keep b o f.1 λq=>q.elim f.2 λq=>cp (N.nw) (λh=>?_) λh=>?_
  ·exact w<|q▸h
  ·rw[q,h] at e
   exact ay e
 ·refine cp (s2.grow b w) (λw=>?_) λw=>?_
  ·refine cp (w) (λw=>?_) λw=>?_
   ·exact N.s.st.grow b w
   ·exact w▸N.nw
  ·exact N.s.st.new w
 ·have u:(if j=i then aA p else z'.φ j)=aA b:=e
  by_cases B:j=i
  ·clear g ok k hw H F q2 K s2 l e
   obtain rfl:=bM (QGx B) u;exact .inr N.nw
  ·rw[if_neg B,N.s.f] at u
   exact .inl ⟨j,u⟩
theorem Yc (W:C.nw=aB) (o:lJ C nm i) (s: ∀env,jj [.Name nm u] x pos.line env=pure aE) (M:qc D C x a):bY D C (.Assign [.Name nm u] x pos) (.own i a):= @λO O h=>λ{X z Q Er} K k=>jg (s X.env) rfl rfl (M h K λR L g p v n Z N=>ub<|RT W o N λj P l=>k _ _ g _ _ (by rw[fQ];exact P) l .next)
theorem Ws {tt:cQ} (bb:Bool) (W: ∀env,env.scope.kind=.function->(∀x,env.kindOf x=C.K x)->jj [.Name nm p] (.ListComp elt [⟨target,iter,ifs,0⟩] scope N) pos.line env=pure bb)
 (q:lJ C nm i) (hb:C.bd+200<=1000000/\scope.names.length<=200) (c:mc C scope tt target iter) (M:hj D C aE iter it) (d:nH D (C.sub scope.names aB aE hb) target tt) (A:oF D (C.sub scope.names aB aE hb) ifs conds) (B:aZ D (C.sub scope.names aB aE hb) elt ee):
 bY D C (.Assign [.Name nm p] (.ListComp elt [⟨target,iter,ifs,0⟩] scope N) pos) (.asg (.one i)<|.comp ee tt it conds):=λh=>λ{X z Q Er} K k=>by
 induction bb with
 |false=>exact jg (W X.env K.F.hk K.F.hK) rfl rfl ((JQ c M d A B h).run K λv L g u z1 Z s1 q1=>by
  induction jd g with
  |mk e g=>
   subst e
   induction vc (t:=.one i) (l:=L) g with|mk b g=>exact Gb q b Z q1 λz2 P j O=>(k _ _ g).nx P<|s1.trans j)
 |true=>
  rw[Pr];refine aR<|iJ ?_;refine sb (W X.env K.F.hk K.F.hK)<|wpAny_bind<|wpAny_pure ?_
  refine sb (QGx rfl)<|wpAny_bind<|wpAny_bind<|OA c M d A B h K λys L g U u z' F nx nf s nn rd ⟨m,r⟩=>?_
  refine ub<|yR (X:=X.add U) q F rd λz2 P j Y=>(ax m (r.at λo e=>j.st.keep _ o e λw=>F.F.dT _ w<|.inr rfl) λH sb=>bA<|bA ?_);exact bI (P.drop (Y▸nx) (j.f▸nf) (λa o e n=>(sb.2 a n).trans e)<|bh _) λR m3=>k _ _ g .next (z2.to H z2.s.toks) (by rw[fQ];exact R) (Sx.y ⟨⟨λa o e n=>(sb.2 a<|nn a o e n).trans<|(s.trans j).st.keep a o e n,(s.trans j).st.grow⟩,(s.trans j).t,(s.trans j).f,by refine (?_:{z2.s with heap:=H}=_);rw[(s.trans j).e];rfl⟩) .next
end
section
theorem Zj {w:bx} (hb:wM op a b z) (h: ∀t tk,Q (.int z t) {s with toks:=tk}):aO (aY prog w) A (inplaceOp op (.int a t)<|.int b t') Q Er s:=by
 induction hb with
 |add=>exact iadd_int<|h _ _
 |sub=>exact isub_int<|h _ _
 |shl q R=>exact ilshift_int q R<|h _ _
 |shr q=>exact irshift_int q<|h _ _
theorem QAq (o:lJ C nm i) (P:C.K nm=aA .local) (W:(nm==("__classdict__"))=aE) (hd:(nm==("__debug__"))=aE) (f:aZ D C x a):bY D C (.AugAssign (.Name nm n) op x pos) (.aug i op a):= @λO O h=>λ{X z Q Er} K k=>wpAny_AugAssign_Name (by
 refine aS K.F.loc λm p N=>?_;have q:=N nm i P o.t;refine aS ((nC h).resolve_right id) λO b h=>?_;simp only[Q3 b] at q;refine aS q λu e q=>aV (Rd.dj q) λv H=>?_;clear b q;subst H
 exact Pa K.F.hk ((K.F.hK nm).trans P) p e (qa (f h) K λj l r Z g R U=>by
  induction QBS g with
  |mk s g=>exact wpAny_toks<|Zj s λB A L=>yR o (R.kl (.refl _ _) L) (Rd.int _ B) λY c M O=>(k _ _ g).nx (by simp only[fQ];exact c)<|(U.trans<|.kl R (.refl _ _) L).trans M))
theorem B7 (K:env.scope.kind=.function) (W:Cz x aF pos.line env=pure aE) (h:aO M A (bz x env) (λv N=>(zt x pos v=pure .next)/\Qs .next N) Er s):aO M A (o3 (.Expr x pos) env) Qs Er s:=by
 rw[arm_exec_Expr];refine aR<|iJ ?_;have i:interactive env=false:=by dsimp only[interactive];erw[K];rfl
 erw[i]
 skip
 refine sb W<|wpAny_bind<|wpAny_pure ?_
 exact sb (QGw<|by decide)<|wpAny_bind (wpAny_mono h (λv N H=>by erw[H.1];exact bA H.2) λO O x=>x)
theorem UH (s: ∀env,Cz x aF pos.line env=pure aE) (d:zt x pos .none=pure .next) (q: ∀u t,zt x pos (.str u t)=pure .next) (M:aZ D C x a):bY D C (.Expr x pos) (.expr a):= @λO O h=>λ{X z Q Er} K k=>B7 K.F.hk (s X.env) ((M h).run K λv l g p Z R i b=>by
 induction jd g with
 |mk e g=>
  subst e;refine bI g λe r=>?_;clear s M h K g;rcases e with rfl|⟨y,rfl⟩
  ·exact sb (Rd.none_inv b)<|⟨d,(k _ _ r).nx R i⟩
  ·exact aV (Rd.dK b) λo H=>sb H<|⟨q _ _,(k _ _ r).nx R i⟩)
theorem FX.write {vs:List aI} (K:FX D C X r z) (d:i≠bQ) (e:r i=.own xs) (l:z.φ i=aA p) (a:z.W p) (k: ∀b o,z.s.heap.get? b=aA o->b≠p->h'.get? b=aA o) (u:h'.get? p=aA (listOf vs.toArray n'))
 (q:Mon (Ex X.Ob z.W) z.s.heap (Ex X.Ob z.W) h'->bB (Ex X.Ob z.W) h' vs ys):FX D C X (upd r i<|.own ys) (z.to h' z.s.toks)/\Sx z (z.to h' z.s.toks):=by
 exact bI (K.F.write d e l a k u<|q λb o e n=>⟨k b o e λq=>n<|.inr<|q▸a,n⟩) λF s=>⟨⟨F,K.R,K.t⟩,⟨s,bh _,rfl,rfl⟩⟩
theorem FX.ow (K:FX D C X r z) (h:r i=.own xs) (q:Vz D X z u (.bor i)): ∃p vs n,u=.ref p/\z.φ i=aA p/\z.s.heap.get? p=aA (listOf vs.toArray n)/\bB (Ex X.Ob z.W) z.s.heap vs xs:=by
 refine aS q λp x e=>sb e<|dS (K.F.own i xs h) λP vs n v l m=>?_
 rw[x] at v;cases v;exact (qV p vs n rfl x l m)
theorem B9 (o:iA C nm i) (h:aL l i=.own xs):Ev D C (.Name nm pos) l λv L=>v=.bor i/\L=l:=sz o (by dsimp only[kL];erw[h];exact ⟨rfl,rfl⟩:hZ (kL (aL l) i) _ False)
theorem NU {i:Nat} {q:aK->Ls->Prop} (hm:MC x "append" H pos [y]) (R:Ev D C x l λv l'=>v=.bor i/\l'=l) (h0:aL l i=.own ys) (hs: ∀env,fH [y] env=[(aE,bz y env)]) (hy:Ev D C y l λv l=>jI v λd=>q d l) (t:i≠bQ) (K:FX D C X (aL l) z)
 (M: ∀d l,q d l-> ∃xs,aL l i=.own xs/\xs.length<16777216/\(∀{Z a},FX D C X (aL l) Z->Z.φ i=aA a->Z.W a)/\KS D C X (aL<|cL l i<|.own<|xs++[d]) z .next Qs):aO (aY D.prog D.w) X.A (o3 (.Expr (.Call (.Attribute x "append" H) [y] [] pos) L) X.env) Qs Er z.s:=by
 refine B7 K.F.hk rfl (Gh hm QEe PySem.F.slot_list_append PySem.F.type_list_append R K ?_)
 rintro _ _ ⟨rfl,rfl⟩ u z2 P Q q2
 refine dd (P.ow h0 q2) λp aa n0 r f1 f f3=>?_;subst r;refine ⟨⟨_,f,rfl⟩,λb e=>(by cases e;exact (ax _ f rfl)),?_⟩;refine sb (hs X.env)<|spliced_cons<|hy.run P λv l1 g u z3 c U q3=>lN ?_
 cases jd g with
 | @mk d ev g=>subst ev;refine uM (M _ _ g) λxs h hz w k=>dd (c.ow h<|q2.mon U) λp' vs n e e1 B j=>?_;cases e;refine wpAny_toks (QEP (hsz:=by simp only[gm,j.len,iw];exact sA ‹_›) ⟨n,B⟩ λh4 pl sb l4=>?_);exact aV pl λn4 e7=>bI (c.write (ys:=xs++[d]) (vs:=vs++[u]) (n':=n4) t h e1 (w c e1) (λb o e n=>(sb.2 b n).trans e) (by rw[e7];simp[zV]) λm=>(j.mon m).app<|bB.cons (Rd.mon q3 m) bB.nil) λY N=>⟨rfl,k.nx (by rw[fQ];exact Y)<|(Q.trans U).trans N⟩
theorem QCL (o:C.ow=aB) (f:iA C nm i) (m:MC (.Name nm p) "append" a pos [y]) (hs: ∀env,fH [y] env=[(aE,bz y env)]) (Y:aZ D C y b):bY D C (.Expr (.Call (.Attribute (.Name nm p) "append" a) [y] [] pos) P) (.app i b):= @λO O h=>λK k=>by
 induction i9 h with
 |mk L h=>
  have q:=(C.mz f.t);have W:=q.1;have A:=q.2;refine NU m (B9 f L) L hs (Y h) W K λd l g=>?_;induction i9 g with
  |mk H g=>exact (kP _ H g.1 (λF e=>F.F.gR o i _ _ H e A)<|k _ _ g.2)
theorem Q_ [H:cz D] (hb:aZ D C x .fE) (m:MC x "append" a pos [y]) (hs: ∀env,fH [y] env=[(aE,bz y env)]) (Y:aZ D C y b):bY D C (.Expr (.Call (.Attribute x "append" a) [y] [] pos) p) (.qM b):= @λO O h=>λK k=>by
 have i:=h.1;have h:=h.2;induction i9 h with
 |mk q h=>
  refine NU m (hb ⟨i,rfl,rfl⟩) q hs (Y h) (by decide) K λd l g=>?_;induction i9 g with
  |mk A g=>exact (kP _ A g.2.1 (λF e=>F.F.jb _ A g.1 _ e)<|k _ _ g.2.2)
theorem YS (L:C.ow=aB) (f:iA C nm i) (M:MC (.Name nm p) "reverse" a pos []):bY D C (.Expr (.Call (.Attribute (.Name nm p) "reverse" a) [] [] pos) c) (.qe i):= @λO O h=>λ{X z Q Er} K k=>by
 induction i9 h with
 |mk h0 g=>
  have B:=g.1;have g:=g.2;have H:=(C.mz f.t);have v:=H.1;have A:=H.2;refine B7 K.F.hk rfl (wj (M.base X.env) (M.qP X.env) M.line<|(B9 (D:=D) f h0).run K ?_)
  rintro _ _ ⟨rfl,rfl⟩ u Z R j q2
  refine dd (R.ow h0 q2) λp vs n r e1 l q=>?_;subst r;refine ⟨"list","list.reverse",QEe,PySem.F.slot_list_reverse,PySem.F.type_list_reverse,⟨_,l,rfl⟩,λb e=>(by cases e;exact (ax _ l rfl)),PySem.P.reverse_list (n:=n) l ?_<|iw▸MJ q B⟩
  have H:=(R.write (ys:=_) (h':=Z.s.heap.update p<|Obj.mapSeq λx=>x.reverse) v h0 e1 (R.F.gR L i _ p h0 e1 A) (λb o e n=>((H4 ..).2 b n).trans e) (vs:=vs.reverse) (n':=n) (by
   erw[wo _ l<|by rfl];have:=mapSeq_reverse vs.toArray n
   simpa[zV] using this) λm=>bB.rev<|q.mon m);have U:=H.1;have N:=H.2
  exact ⟨rfl,(k _ _ g).nx (by simp only[fQ];exact U)<|j.trans N⟩
theorem bB.set {X:aM->Prop}: ∀{ds:List aK} {us:List aI} (j:Nat) {u:aI} {d:aK},bB X h us ds->Rd X h u d->bB X h (us.set j u) (ds.set j d):=by
 intro ds;induction ds with
 |nil=>exact @λus j u d q O=>sb q.kN<|bB.nil
 |cons W ds i=>
  exact @λus j u d q w=>by
   refine bf q.iB λU us e o Q=>sb e ?_;induction j with
   |zero=>exact bB.cons w Q
   |succ j O=>exact bB.cons o<|i j Q w
theorem QAA (L:C.ow=aB) (q:iA C nm i) (s: ∀env,jj [.Subscript (.Name nm p) y N] x pos.line env=pure aE) (B:aZ D C x a) (hy:aZ D C y b):bY D C (.Assign [.Subscript (.Name nm p) y N] x pos) (.set i b a):= @λO O h=>λ{X z Q Er} K k=>jg (s X.env) rfl rfl ((B h).run K λv l1 g u z1 P s1 q1=>by
 refine bI (C.mz q.t) λhw Y=>?_;induction jd g with
 |mk ev g=>
  subst ev;induction i9 g with
  |mk d g=>
   rw[Pu];refine aR<|cO<|(B9 q d).run P ?_;clear q s B h K P d;intro _ _ H ov z2 K2 M q2;have f:=H.1;have Z:=H.2;clear H;subst f;subst Z;refine aR<|cO<|qa (hy g) K2 λj l t' z3 g c U=>?_;induction i9 g with
   |mk h0 g=>
    refine jy g λj0 j1 j2 g=>dd (c.ow h0<|q2.mon U) λp vs n r A f3 R=>?_;clear q2;subst r;refine aR (iJ<|aR<|cO<|Oe f3 j0 ((bG ‹0<=j/\j<(↑a_3.length)/\a_3.length<2^63/\O Fl.next (cL l i<|Sl.own<|a_3.set j.toNat a_1)›.2.1 (oL ‹0<=j/\j<(↑a_3.length)/\a_3.length<2^63/\O Fl.next (cL l i<|Sl.own<|a_3.set j.toNat a_1)›.2.2.1))) (by simp only[gm,R.len];exact j1) λh4 n4 f5 sb=>?_)
    exact H5<|bI (c.write (h':=h4) hw h0 A (c.F.gR L i _ p h0 A Y) (λb o e n=>(sb.2 b n).trans e) (vs:=vs.set j.toNat u) (n':=n4) (by simp only[f5];simp[zV]) λm=>bB.set _ (R.mon m)<|Rd.mon (q1.mon<|M.trans U) m) λK4 s4=>(k _ _ g).nx (by simp only[fQ];exact K4)<|((s1.trans M).trans U).trans s4)
theorem Tg {as bs:List S} (c:eS D C x t) (a:jT D C xs as) (hb:jT D C ys bs):bY D C (.If x xs ys pos) (.b7 t as bs):= @λO O h=>λK k=>H6 ((c h).run K λb l g z R s=>by
 rcases g with ⟨rfl,g⟩|⟨rfl,g⟩
 ·exact a g R λO O g=>(k _ _ g).tr s.y
 ·exact hb g R λO O g=>(k _ _ g).tr s.y)
theorem Sj:bY D C (.Continue pos) .cont:= @λO O h=>λK k=>QEf<|k _ _ h _ _ K Sx.refl.y .cont
theorem XG:bY D C (.Return aF pos) (.ret aF):= @λO O h=>λK k=>by rw[arm_exec_Return];exact aR<|iJ<|bA<|k _ _ h _ _ K Sx.refl.y<|.ret (v:=.none) (u:=.d .none) Rd.none .d
theorem Jg (M:aZ D C x a):bY D C (.Return (aA x) pos) (.ret<|aA a):= @λO O h=>λK k=>wpAny_Return_some ((M h).run K λv l g p z R s q=>by
 induction g with|mk e g=>exact k _ _ g _ _ R s.y<|.ret q e)
end
section
theorem Io {w:bx} {J:aM} {St:Nat->bK->Prop}
 (u:sO prog w A J fp [J] n P St) (al: ∀i h,St i h-> ∃o T,h.get? J=aA o/\o.cls=.type T/\vC.contains T=aE) (I:Nat->aN->Prop) (C: ∀j s,I j s->St j s.heap) (h0:I 0 s)
 (d: ∀s h' tk,I n s->(∀a o,s.heap.get? a=aA o->a≠J->h'.get? a=aA o)->s.toks<=tk->R (.ok .next) {s with heap:=h',toks:=tk})
 (turn: ∀j s h' tk v,j<n->I j s->P j v->St (j+1) h'->(∀a o,s.heap.get? a=aA o->a≠J->h'.get? a=aA o)->s.toks<=tk-> ∀Er,aO (aY prog w) A (mP target env v) (λO W=>aO (aY prog w) A (fV body env) (λf Q=>match f with|.next=>I (j+1) Q|.cont=>I (j+1) Q|.brk=>False|.ret v=>R (.ok<|.ret v) Q) Er W) Er {s with heap:=h',toks:=tk}):
 ud (aY prog w) A (.forLoop target (.ref J) body [] env) R s:=by
 refine QEg (λm U=> ∃j,j<=n/\m=n+1 - j/\I j U) ?_ (n+1)<|gc 0 (hJ _) rfl h0;intro m U t;obtain ⟨j,K,r,F⟩:=t;by_cases L:j<n
 ·refine wpAny_toks (u.item j _ _ _ L (C j U F) λv h' tk hP st k l=>?_)
  refine bf (al _ _ st) λN Y p g z=>NN p g z (eX (turn j U h' tk v L F hP st (λa o e q=>k a o (by simpa using q) e) l _) (λO W B=>eX B (λf Q H=>?_) λO O x=>x) λO O x=>x);have nx: ∀{Q},I (j+1) Q-> ∃M,M<m/\ ∃j,j<=n/\M=n+1 - j/\I j Q:=λh=>⟨n+1 - (j+1),by (clear turn d H B;exact (bD (na (nL<|sE ((aQ L):j+1<=n+1))<|nR<|sE ((aQ L):j<=n+1))<|nR r)),j+1,L,rfl,h⟩;induction f with
  |next=>exact nx H
  |cont=>exact nx H
  |brk=>exact H.elim
  |ret v=>exact H
 ·cases ji K (iH.mp L)
  exact wpAny_toks (u.done _ _ _ (C _ U F) λh' tk k l=>zo<|d U h' tk F (λa o e q=>k a o (by simpa using q) e) l)
end
section
structure FB (D:Wd) (C:Fc) (X:Fx) (J:aM) (fp:List aM) (St:Nat->bK->Prop) (z0 z2:Zs) (j:Nat) (z:Zs):Prop where
 st:St j z.s.heap
 nJ: ¬ Ex X.Ob z.W J
 nf:jf C X.env z.φ J
 mon:Mon (Ex (X.add J).Ob z2.W) z2.s.heap (Ex (X.add J).Ob z.W) z.s.heap
 fp: ∀b∈fp,(∃o,z.s.heap.get? b=aA o)/\(b≠J-> ¬ z.W b)
 sy:Sy C z0 z
theorem FB.Mu {J:aM} {L:List aM} {St:Nat->bK->Prop} (B:FB D C X J L St Z z2 j z) (K:FX D C (X.add J) r z) (U:FX D C (X.add J) r₁ z') (s:Sy C z z') (u:sO D.prog D.w X.A J L [J] n P St):FB D C X J L St Z z2 j z':=by
 have N: ∀b∈L, ¬ z.W b:=λb h w=>by
  by_cases q:b=J
  ·exact K.F.dT b w<|.inr q
  ·exact (B.fp b h).2 q w
 refine aV (K.F.dc J<|.inl<|.inr rfl) λd a=>⟨u.frame _ _ _ B.st λb h o e=>s.st.keep b o e<|N b h,λq=>q.elim (λq=>B.nJ<|.inl q) λw=>U.F.dT J w<|.inr rfl,⟨λi q=>?_,B.nf.l,B.nf.c⟩,B.mon.trans s.st.mon,λb h=>?_,B.sy.trans s⟩
 ·rcases s.p.sub i J q with ⟨M,q⟩|q|q
  ·exact B.nf.p M q
  ·exact K.F.dT J q<|.inr rfl
  ·rw[a] at q
   exact pR q
 ·have H:=(B.fp b h)
  have Q:=H.1;refine aV Q λo e=>?_;have f:=s.fresh e<|N b h;exact ⟨⟨o,f.1⟩,λO=>f.2⟩
theorem Sy.M1 {J:aM} (s:Sy C z z') (nw: ∀a o,z.s.heap.get? a=aA o-> ¬ z.W a->a≠J) (k: ∀a o,z'.s.heap.get? a=aA o->a≠J->h'.get? a=aA o) (l:z'.s.toks<=tk):Sy C z (z'.to h' tk):=⟨⟨λa o e n=>k a o (s.st.keep a o e n)<|nw a o e n,s.st.grow⟩,az s.t l,s.p,by refine (?_:{z'.s with heap:=h',toks:=tk}=_);erw[s.e];rfl⟩
theorem TQ {tt:cQ} (hf: ∀env x,Hu iter env x=pure x) (hI:hj D C aB iter it) (hT:nH D C target tt) (hB:jT D C body bs):bY D C (.For target iter body [] pos) (.e6 tt it bs):= @λl0 Kk h=>λ{X z Q Er} K k=>wpAny_For (hI h K λxs l1 e2 z2 J fp P St i=>by
 refine Io i.walk i.alive (λj s=> ∃z' lj,s=z'.s/\FX D C (X.add J) (aL lj) z'/\FB D C X J fp St z z2 j z'/\fW tt bs D.o (xs.drop j) lj Kk) ?_ (jX z2 l1 rfl i.F ⟨i.st,i.nJ,i.nf,Mon.refl _ _,λb hb=>⟨i.oV b hb,i.PR rfl b hb⟩,i.sx.y⟩ e2) ?_ ?_
 ·intro j s n
  refine iU n λz' rj N O B O=>?_;clear n;subst N;exact B.st
 ·intro s h' tk p M l
  refine iU p λz' rj m Kj B W=>?_;clear p;subst m;rw[QEQ] at W;exact k _ _ W .next _ (Kj.drop B.nJ B.nf M l).1 (B.sy.M1 i.new M l) .next
 ·intro j s h' tk u L Z hP R M l aa
  refine iU Z λz' rj r Kj B W=>?_;clear Z;subst r;refine aS (i.items j u hP) λd hd rd=>cR (i.alive _ _ R) λo1 T1 A O=>?_;have H:=(Kj.turn (X:=X.add J) (.inr rfl) B.nf M ⟨o1,A⟩ l);have K1:=H.1;have m1:=H.2
  have B1:FB D C X J fp St z z2 (j+1) (z'.to h' tk):=⟨R,B.nJ,B.nf,B.mon.trans m1,λb hb=>⟨by
   by_cases q:b=J
   ·exact ⟨o1,q▸A⟩
   ·have H:=(B.fp b hb)
    have t:=H.1
    exact aV t λo e=>⟨o,M b o e q⟩,(B.fp b hb).2⟩,B.sy.M1 i.new M l⟩
  have Y:=Rd.mon rd B1.mon;rw[show xs.drop j=d::xs.drop (j+1) by erw[Hx L];obtain rfl:=bM (sP L) hd;rfl] at W;refine aS (by induction vc W with|mk b a=>exact (ax _ b a): ∃lx,og tt d (aL rj)=aA (aL lx)/\_) λlx b W=>hT b (X:=X.add J) K1 Y λz3 K3 s3 O=>hB W (X:=X.add J) K3 λfl l4 g f c U s4 fi=>?_;have v:=(B1.Mu K1 K3 s3.y i.walk).Mu K3 U s4 i.walk;induction fi with
  |next=>exact (jX c _ rfl U v g)
  |cont=>exact (jX c _ rfl U v g)
  |ret q q'=>
   have H:=(U.drop v.nJ v.nf (λO O e O=>e)<|bh _);have K5:=H.1;have m5:=H.2
   exact k _ _ g (.ret _) c K5 v.sy<|.ret (VR.mon q m5) q') (hf X.env)
theorem Yf (M:eS D C x t) (B:jT D C body bs):bY D C (.While x body [] pos) (.nq t bs):= @λp r h=>λ{X z Q Er} K k=>by
 refine aV h λn e=>wpAny_While<|QEh (λn Y=> ∃z' L,Y=z'.s/\FX D C X (aL L) z'/\Sy C z z'/\wW t bs D.o n L r) ?_ n<|jX z _ rfl K Sx.refl.y e;intro n Y H;refine iU H λz' L A u U d=>?_;clear H;subst A;induction n with
 |zero=>exact d.elim
 |succ n=>
  refine (M d).run u λb l g Z R i=>?_;rcases g with ⟨rfl,g⟩|⟨rfl,g⟩
  ·refine sb (QGx rfl)<|B g R λfl W g f N P j F=>?_
   induction F with
   |next=>exact ⟨_,uZ _,N,_,rfl,P,(U.trans i.y).trans j,g⟩
   |cont=>exact ⟨_,uZ _,N,_,rfl,P,(U.trans i.y).trans j,g⟩
   |ret q v=>exact k _ _ g _ _ P ((U.trans i.y).trans j)<|.ret q v
  ·exact sb (QGw<|by decide)<|wpAny_execs_nil<|k _ _ g _ _ R (U.trans i.y) .next
end
section
variable {A:cV} {E:aI->aN->Prop}
theorem SA {l b sl:aM} {items i:Array aI} (hl:s.heap.get? l=aA (W.listOf items n)) (hb:s.heap.get? b=aA (W.listOf i e)) (N:l≠b)
 (hs:s.heap.IsSliceOf sl .none .none .none) (hsz:items.size+i.size<=mJ)
 (hQ: ∀h' n',h'.get? l=aA (W.listOf i n')->HZ l s.heap h'->Q () {s with heap:=h'}):
 aO (aY prog w) A (Hy (.ref l) (.ref sl)<|.ref b) Q E s:=by
 have L:s.heap.IsList l items:=⟨_,hl,rfl,n,rfl⟩;have P:s.heap.IsList b i:=⟨_,hb,rfl,e,rfl⟩;refine cy (id hs) λos o c d=>?_;have t:s.TypeIs (.ref sl) "slice" :=(ax os o c);dsimp only[Hy]
 try with_reducible refine cO ?_
 first|refine wpAny_bind (wpAny_pure ?_)|skip
 refine aR (QEX L.typeIs (by decide) ?_)
 refine aR (QEY L.typeIs Hz
  (H0 Hz L.typeIs QEZ ?_<|QEa _ _ _))
 refine (?_:aO _ _ (Builtin.List.listSubscript? (.ref sl)>>=_) _ _ s);refine aR<|wpAny_bind<|wpAny_specialOf t slice_no_index ?_
 refine bA<|wpAny_bind<|wpAny_typeOf t ?_
 erw[if_neg<|by decide];rw[listSliceParts_eq];refine aR<|aR<|wpAny_field o d rfl (aR<|QEi .none ?_);refine sb (QGw<|by decide)<|wpAny_bind<|wpAny_field o d rfl (wpAny_bind<|wpAny_listPart .none ?_)
 refine aR<|wpAny_field o d rfl (aR<|QEi .none<|bA ?_);have h:Builtin.List.listSameRef (.ref l) (.ref b)=false:=QHB N
 refine sb h<|wpAny_bind<|wpAny_bind<|wpAny_typeOf P.typeIs ?_
 refine sb (QGx<|by rfl)<|wpAny_bind<|wpAny_seqItems hb rfl (wpAny_pure ?_)
 refine aR<|aR<|H7 hl rfl (bA ?_);have B:kZ aF aF aF items.size=(0,(items.size:Int),1):=by rfl
 refine aR (qo (sliceIndices_raw aF aF aF items.size<|by simp) ?_);erw[B];dsimp only;refine sb (QGx<|by rfl)<|wpAny_bind<|wpAny_rule ?_
 have Y:Builtin.List.listTooLong (items.size+i.size)=false:=decide_eq_false<|iH.mpr hsz
 erw[Y]
 skip
 have F:(λx:Array aI=>x.extract 0 (0:Int).toNat++i++x.extract (max (0:Int) (items.size:Int)).toNat) items=i:=by have:(max (0:Int) (items.size:Int)).toNat=items.size:=Ck _;simp[this]
 have f: ∃n',(s.heap.update l<|Obj.mapSeq λx=>x.extract 0 (0:Int).toNat++i++x.extract (max (0:Int) (items.size:Int)).toNat).get? l=aA (W.listOf i n'):=by refine ⟨if i.size==items.size then n else n+1,?_⟩;erw[wo _ hl<|by rfl];unfold Obj.mapSeq;dsimp only;dsimp only at F;exact sb F rfl
 refine aV f λn' f=>aR (QEj hl rfl ?_ (az (mL _ _) ‹_›) (by dsimp only at F;erw[F];exact aQ hsz));refine aR<|wpAny_letGo ?_;exact bA<|ax .none rfl (bA<|hQ _ n' f<|H4 ..)
end
section
theorem FR.swap {G:bK} {k:Nat} (F:FR P G C env Ob φ W r h) (o:C.ow=aB) (Y:k<1000000) (e:r k=.own xs) (eh: ∀ys,r aT≠ .own ys):
 FR P G C env Ob (λj=>if j=aT then φ k else if j=k then aF else φ j) W (upd (upd (upd r aT<|.own xs) bQ .emp) k<|.ali aT) h:=by
 have N:k≠aT:=λq=>by rw[q] at Y;exact QGv Y (by decide)
 have kw:k≠bQ:=λq=>by rw[q] at Y;exact QGv Y (by decide)
 have u:aT≠bQ:=by decide
 have pn:=F.lB eh;have A: ∀j,j≠aT->j≠bQ->j≠k->upd (upd (upd r aT<|.own xs) bQ .emp) k (.ali aT) j=r j:=λj H L Q=>by unfold upd;(erw[if_neg Q];erw[if_neg L];exact sb (QGw H) rfl)
 have B:upd (upd (upd r aT<|.own xs) bQ .emp) k (.ali aT) k=.ali aT:=by unfold upd;exact sb (QGx rfl) rfl
 have s:upd (upd (upd r aT<|.own xs) bQ .emp) k (.ali aT) aT=.own xs:=by unfold upd;(erw[if_neg<|lM N];erw[if_neg u];exact sb (QGx rfl) rfl)
 have l:upd (upd (upd r aT<|.own xs) bQ .emp) k (.ali aT) bQ=.emp:=by unfold upd;(erw[if_neg<|lM kw];exact sb (QGx rfl) rfl)
 refine dS (F.own k xs e) λa vs n M e0 e1=>?_;have wa:=F.gR o k xs a e M N;have Z:(λj=>if j=aT then φ k else if j=k then aF else φ j) aT=aA a:=by refine (?_:(if aT=aT then φ k else _)=_);erw[if_pos rfl];exact M
 have U: ∀j,j≠aT->j≠k->(λj=>if j=aT then φ k else if j=k then aF else φ j) j=φ j:=λj H L=>by refine (?_:(if j=aT then φ k else if j=k then aF else φ j)=φ j);(erw[if_neg H];exact sb (QGw L) rfl)
 have gk: ∀j v,j<1000000->dh P φ env.cells (Ex Ob W) h j v (r j)->dh P (λj=>if j=aT then φ k else if j=k then aF else φ j) env.cells (Ex Ob W) h j v (upd (upd (upd r aT<|.own xs) bQ .emp) k (.ali aT) j):=by
  intro j v g x;have jh:j≠aT:=λq=>by rw[q] at g;exact QGv g (by decide)
  have jw:j≠bQ:=λq=>by rw[q] at g;exact QGv g (by decide)
  by_cases K:j=k
  ·clear Y N kw A s l U g jh jw
   subst K;erw[B];rw[e] at x;refine aS x λb q1 q2=>?_;obtain rfl:=bM M q1;exact ⟨rfl,a,Z,q2⟩
  ·erw[A j jh jw K]
   induction hr:r j with
   |own ys=>rw[hr] at x;exact aS x λb q1 q2=>(ax b ((U j jh K).trans q1) q2)
   |ali m=>rw[hr] at x;obtain ⟨q0,b,q1,q2⟩:=x;subst q0;exact cb pn q1
   |inst=>rw[hr] at x;exact bf x λy b q1 q2 q3=>cb pn q1
   |dz m=>rw[hr] at x;refine iU x λb m' q1 q2 q3 q4=>?_;have pe: ∀t,(λj=>if j=aT then φ k else if j=k then aF else φ j) (cT j t)=φ (cT j t):=λt=>U _ (λq=>by unfold cT aT at q;lia -abstractProof) (λq=>by rw[<-q] at Y;unfold cT at Y;exact kn Y);refine (jX b m' q1 ?_ q3 (λt ht=>by rw[pe];exact q4 t ht));simp only[pe];exact q2
   |unb=>trivial
   |val d=>rw[hr] at x;exact x
   |clo f=>rw[hr] at x;exact x
   |emp=>rw[hr] at x;exact x
 have own: ∀j ys,upd (upd (upd r aT<|.own xs) bQ .emp) k (.ali aT) j=.own ys->(j=aT/\ys=xs)\/(j≠aT/\j≠k/\j≠bQ/\r j=.own ys):=λj ys q=>by
  by_cases H:j=aT
  ·subst H
   rw[s] at q;clear e;cases q;exact .inl ⟨rfl,rfl⟩
  ·by_cases L:j=bQ
   ·clear H
    subst L;rw[l] at q;exact nomatch q
   ·by_cases Q:j=k
    ·clear Y e N kw A s l M Z U gk H L
     subst Q;rw[B] at q;exact nomatch q
    ·rw[A j H L Q] at q
     exact .inr<|kr H Q L q
 have R: ∀j b,(λj=>if j=aT then φ k else if j=k then aF else φ j) j=aA b->(j=aT/\φ k=aA b)\/(j≠aT/\j≠k/\φ j=aA b):=λj b q=>by
  by_cases H:j=aT
  ·subst H
   clear o e eh N kw u pn A B;obtain rfl:=bM Z q;exact .inl ⟨rfl,M⟩
  ·by_cases Q:j=k
   ·have q':(if j=aT then φ k else if j=k then aF else φ j)=aA b:=q
    rw[if_neg H,if_pos Q] at q';exact ay q'
   ·rw[U j H Q] at q
    exact .inr ⟨H,Q,q⟩
 refine aS F.loc λmm n1 n2=>⟨F.base,F.fN,F.hk,F.hK,F.hg,F.hb,F.rC,⟨mm,n1,λx j p q=>gk _ _ (C.low x j q)<|n2 x j p q⟩,F.km,λx j p q=>?_,F.pY,F.oX,λj ys q=>?_,λcc j ys b q p z=>?_,λys q p b z=>?_,λys q p b z w=>QGv l p,λq=>QGv s<|q xs,λi j b q1 q2=>?_,λj b q=>?_,F.dc,F.dT,F.inv,F.pf⟩
 ·exact bf (F.hF x j p q) λc v f1 f3 f4=>(dA c v f1 f3<|gk _ _ (C.low x j q) f4)
 ·rcases own j ys q with ⟨H,L⟩|⟨H,L,Q,h4⟩
  ·exact sb H<|sb L<|(lz a vs n Z e0 e1)
  ·exact dS (F.own j ys h4) λb ws m g1 g2 g3=>(lz b ws m ((U j H L).trans g1) g2 g3)
 ·rcases own j ys q with ⟨H,L⟩|⟨H,L,Q,h4⟩
  ·exact QGv H z
  ·exact F.gR cc j ys b h4 ((U j H L).symm.trans p) z
 ·have z':=Z.symm.trans z
  clear M e0 Z;cases z';exact wa
 ·rcases R i b q1 with ⟨z1,z2⟩|⟨z1,z2,z3⟩<;>rcases R j b q2 with ⟨z4,z5⟩|⟨z4,z5,z6⟩
  ·exact sb z1<|sb z4 rfl
  ·exact QGv (F.inj j k b z6 z2) z5
  ·exact QGv (F.inj i k b z3 z5) z2
  ·exact F.inj i j b z3 z6
 ·rcases R j b q with ⟨_,z⟩|⟨_,_,z⟩
  ·exact F.jx _ _ z
  ·exact F.jx _ _ z
end
noncomputable def GG (D:Wd) (f:aM) (xs hs zs:List aK):Prop:=
 ∀{A:cV} {s:aN} {X:aM->Prop} {u m:List aI} {x a:aM} {n:Nat} {Q:aI->aN->Prop} {E:aI->aN->Prop},CS D A X s->D.P.HI X s.heap x a->s.heap.get? a=aA (listOf m.toArray n)->bB X s.heap m hs->bB X s.heap u xs->
  (∀Y v N F,CT D (λb=>X b\/b=Y) (λO=>False) s F->s.heap.get? Y=aF->F.heap.get? Y=aA (listOf v.toArray N)->bB (λb=>X b\/b=Y) F.heap v zs->Q (.ref Y) F)->aO (aY D.prog D.w) A (call (.ref f)<|.ref x::u) Q E s
class kq (D:Wd):Prop where
 RN: ∀xs hs zs,D.o.R 2 xs hs (.list zs)-> ∃nm fa,D.hm 2=aA (nm,fa)/\GG D fa xs hs zs
section
section
variable[H:cz D]
include H
theorem QCg (hb:aZ D C x .fE) (W: ∀env,jj [.Subscript x (.Slice aF aF aF r) c] y pos.line env=pure aE) (Y:aZ D C y b):
 bY D C (.Assign [.Subscript x (.Slice aF aF aF r) c] y pos) (.qZ b):=λh=>λ{X z Q Er} K k=>by
 refine jg (W X.env) rfl rfl ((Y h).run K λv l1 g u z1 t U q1=>?_);induction jd g with
 |mk ev g=>
 subst ev;clear H W Y h;obtain ⟨ys,rfl,h0,g⟩:=g;induction i9 g with
 |mk A g=>
 have hw:=g.1;have hz:=g.2.1;have g:=g.2.2;rw[Pu];refine aR<|cO<|(hb (K:=λv l'=>v=.bor aT/\l'=l1) ⟨h0,rfl,rfl⟩).run t ?_;intro _ _ f ov i P j q2;have l:=f.1;have R:=f.2;clear f;subst l;subst R;refine dd (P.ow A q2) λp vs n L a f3 f4=>?_;subst L;refine dd (Rd.lst_inv<|Rd.mon q1 j.mon) λbb ws m B Z g2 g3=>?_;subst B;have M:=P.F.jb _ A hw p a;have d: ∀b o,i.s.heap.get? b=aA o->(i.s.heap.push<|vU .none .none .none).get? b=aA o:=λO O e=>gS _ e;refine aR<|cO<|wpAny_Slice<|Hk<|Hk<|Hk ?_;refine aR (iJ<|aR<|cO<|SA (d _ _ f3) (d _ _ Z) (λq=>g2<|.inr<|q▸M) (Heap.IsSliceOf.new ..) (by (erw[gm];erw[gm];erw[f4.len];erw[g3.len];erw[iw]);exact hz) λh4 n4 f5 sb=>?_);refine H5 ?_;obtain ⟨N,s4⟩:=P.write (by decide) A a M (λb o e n=>(sb.2 b n).trans<|d b o e) f5 λm=>g3.mon m;exact (k _ _ g).nx (by rw[fQ];exact N)<|(U.trans j).trans s4
theorem UX (ok:iA C nm i) (Y:aZ D C y b):bY D C (.Delete [.Subscript (.Name nm p) y sp] pos) (.oT i b):= @λO O h=>λ{X z Q Er} K k=>wpAny_Delete (wpAny_deleteEach_cons (by
 have h0:=h.1;have h:=h.2;rw[arm_delete_Subscript];refine aR ((sz (D:=D) (K:=λv l=>v=.inst/\l=_) ok (by dsimp only[kL];erw[h0];exact ⟨rfl,rfl⟩:hZ (kL (aL _) i) _ False)).run K ?_);clear ok K h0
 rintro _ _ ⟨rfl,rfl⟩ ov j P s2 q2
 refine aR<|cO<|(Y h).run P λv M g f Z d s3 a=>?_;induction jd g with
 |mk ev g=>
  subst ev;induction i9 g with
  |mk o g=>
   have hw:=g.1;have g:=g.2;clear Y h P;induction g with
   |mk L g=>
    refine cR (H.H _ _ _ _ _ L) λn A q1 con=>?_;have q:=q2.mon s3;refine bf q λB N x e p3=>?_;clear q;subst e
    exact aR<|iJ<|aR<|cO<|H.NA q1 d.R d.F.base p3<|JT con d (q2.mon s3) o hw (us:=[f]) (bB.cons a bB.nil) λu s U s4 O=>H5<|wpAny_deleteEach_nil<|(k _ _ g).nx (by rw[fQ];exact U)<|(s2.trans s3).trans s4))
theorem Tb (q:lJ C nm i) (c:mq C "compute_powers") (P:Pl xs) (a:fb D C xs es):bY D C (.Assign [.Name nm N] (.Call (.Name "compute_powers" p) xs [] cpos) pos) (.pd i es):= @λO O h=>λ{X z Q Er} K k=>by refine dd H.Oc λca o fd B g2 g3 g4=>bI (C.mz q.t) λb f=>jg rfl rfl rfl (qn<|qb K c B<|zi<|gN (P X.env cpos)<|kO (a h) K λds l us Z g j v q1=>⟨⟨j.F.base _ _ g2,g3⟩,?_⟩);clear H c P a h K B g2 g3;obtain ⟨n,rfl,h1,h2,g⟩:=g;obtain ⟨u1,us,rfl,e,q1⟩:=q1.iB;obtain ⟨u2,us,rfl,q2,q1⟩:=q1.iB;obtain ⟨u3,us,rfl,q3,q1⟩:=q1.iB;cases q1.kN;clear q1;obtain ⟨t2,rfl⟩:=Rd.dj e;clear q1 e;obtain ⟨t3,rfl⟩:=Rd.dj q2;obtain ⟨t4,rfl⟩:=Rd.dj q3;refine wpAny_toks<|g4 n h2 h1 j.R j.t j.F.base λ{dr} d h' tk r e2 A L=>?_;have Y:=j.F.keeps r;exact ub (wpAny_toks<|(Y.forget i b f).store q.t q.s q.k (sl:=.emp) (λh' kk m=>(ax d rfl (m _ _ e2 (j.F.wA A: ¬ Ex X.Ob Z.W d)))) (λys x=>by exact nomatch x) λh' u F2 M U=>(k _ _ g).nx (z':={Z with s:={Z.s with heap:=h',toks:=u,drawn:=dr}}) ⟨by rw[fQ];exact F2,j.R,az j.t<|az L U⟩<|v.trans ⟨(dg.all r).trans M,az L U,rfl,rfl⟩)
theorem QDC (L:iA C nm i) (m:MC (.Name nm p) "items" a u []):bY D C (.For target (.Call (.Attribute (.Name nm p) "items" a) [] [] u) body [] pos) (.pW i):= @λO O h=>λ{X z Q Er} K k=>by
 have h0:=h.1;have g:=h.2;refine wpAny_For (wj (m.base X.env) (m.qP X.env) m.line<|uA K L λN q=>?_) λO=>rfl;rw[h0] at q;refine cy q λd v f f3=>(ax _ v ?_);have t:(d==Cs)=false:=by refine QHB λq=>aS H.MP λo r g2=>?_;have:=K.F.base _ _ r;rw[<-q,f] at this;cases this;exact g2 rfl
 have Y: ∀(h:bK),h.get? d=aA i3->h.DictAt (strKind D.prog D.w) d [] 0:=λh e=>(sa i3 (#[]) e ⟨rfl,rfl,rfl⟩ rfl (by intro e M;simp at M) .nil QEk);refine ⟨"dict","dict.items",QET,QEl,PySem.F.type_dict_items,⟨_,f,rfl⟩,λb e=>(by cases e;exact (ax _ f rfl)),we (m.pl X.env)<|gN (m.pl X.env)<|lN ?_⟩;refine call_meetsIn QEl (ax _ f rfl) PySem.F.entry_dict_items (PySem.F.args_dict_items_1 _) (meets_dict_items (strKind D.prog D.w) d t) ⟨⟨[],(Y z.s.heap f).elim λo w=>w.elim λes w=>QBI o es 0 w⟩,?_⟩;generalize c:({cls:=.type "dict_items",data:=.fields #[.ref d]}:bH)=W;have x: ∀b o,z.s.heap.get? b=aA o->(z.s.heap.push W).get? b=aA o:=λO O e=>gS _ e;refine wpAny_pyIter_items (gc _ (fG _<|c▸rfl) (c▸rfl)<|c▸rfl) (Y _<|x _ _ f) ?_;refine QEg (λn s'=>s'={z.s with heap:=(z.s.heap.push W).push {cls:=.type "dict_itemiterator",data:=.fields #[.none,.bool aE,.ref d,.int 0 0,.int (([]:List (aG×aI)).length) 0,.int ((0:Nat):Int) 0,.none,.none]}}) ?_ 0 rfl
 rintro n s' rfl
 have P: ∀b o,z.s.heap.get? b=aA o->((z.s.heap.push W).push {cls:=.type "dict_itemiterator",data:=.fields #[.none,.bool aE,.ref d,.int 0 0,.int (([]:List (aG×aI)).length) 0,.int ((0:Nat):Int) 0,.none,.none]}).get? b=aA o:=λb o e=>gS _<|x b o e;refine wpAny_pyNext_items_end K.R.1 (fG _ rfl) (Y _<|P _ _ f) rfl λh' B=>zo ?_
 have Z: ∀b o,z.s.heap.get? b=aA o->h'.get? b=aA o:=λb o e=>B b o (λq=>by
  have A:=kg e;rw[q,(Ct .. :(z.s.heap.push W).objs.size=z.s.heap.objs.size+1)] at A
  exact mG _<|Nat.lt_of_succ_lt A) (P b o e)
 have l:=(K.keeps Z<|bh _);have j:=l.1;have U:=l.2;exact (k _ _ g).nx j U
theorem UY (B:C.nw=aB) (Z:C.hn=aB) (how:C.ow=aB) (ok:lJ C nm i) (hg:mq C "Headers") (o:iA C L j):bY D C (.Assign [.Name nm N] (.Call (.Name "Headers" p) [.Name L kp] [] cpos) pos) (.p9 i j):= @λl Kk h=>λ{X z Q Er} K k=>by
 induction i9 h with
 |mk h0 g=>
  have Y:=g.1;have a:=g.2.1;have g:=g.2.2;have Hq:=(C.mz ok.t);have v:=Hq.1;have A:=Hq.2;refine jg rfl rfl rfl (qn<|qb K hg H.DY.1<|H.DY.2 rfl (uX<|(B9 o h0).run K ?_));clear hg h K
  rintro _ _ ⟨rfl,rfl⟩ ov z2 c s2 q2
  refine lN ⟨c.F.base,?_⟩;refine dd (c.ow h0 q2) λp vs n u f1 f3 f4=>sb u<|wpAny_toks<|H.new c.R c.t c.F.base c.F.fN c.F.dc a f3 f4 λx h3 tk M hi l3=>?_
  have K3:=(c.F.keeps M).swap how (C.low _ _ o.t) h0 ((λY ys q=>by rw[Y] at q;exact nomatch q: ∀{r:bR},r aT=.unb-> ∀ys,r aT≠ .own ys) Y);refine ub (wpAny_toks<|(K3.forget i v A).store ok.t ok.s ok.k (sl:=.inst) (λh' O m=>(dA x p ?_ rfl (D.P.kG hi m))) (λys ey=>by exact nomatch ey) λh' U F2 s4 l4=>?_)
  ·show (if aT=aT then z2.φ j else _)=_
   exact sb (QGx rfl)<|f1
  ·refine k _ _ g .next {s:={z2.s with heap:=h',toks:=U},W:=z2.W,φ:=_} ⟨by rw[fQ,fQ,fQ,fQ];exact F2,c.R,az c.t<|az l3 l4⟩ ⟨s2.st.trans<|(dg.all M).trans s4,az s2.t<|az l3 l4,⟨λz=>(by rw[B] at z;exact xQ z),λz=>(by rw[Z] at z;exact xQ z),λm b q=>?_⟩,by exact sb s2.e rfl⟩ .next
   have d:(if m=aT then z2.φ j else if m=j then aF else z2.φ m)=aA b:=q;rw[s2.f] at d
   split at d
   ·exact .inl ⟨j,d⟩
   ·split at d
    ·exact ay d
    ·exact .inl ⟨m,d⟩
end
theorem W0 [H:cz D] (m:C.K "reversed" =aA .globalImplicit) (L:Pl [x]) (hs:fb D C [x] [a]):hj D C fl (.Call (.Name "reversed" p) [x] [] pos) (.rev a):= @λO O h=>λ{X z Q Er} K k=>by
 refine qn (yQ K m (by decide+kernel) (u:=.type "reversed") (by lia)<|wg (L X.env pos)<|gN (L X.env pos)<|kO (hs h) K λds l us Z g b M q1=>?_);obtain ⟨xs,rfl,g⟩:=g;refine bf q1.iB λu us B Y N=>sb B ?_;cases N.kN;refine dd (Rd.lst_inv Y) λp vs n r e e2 q=>sb r ?_;have hsz:vs.toArray.size=xs.length:=by (erw[gm];exact sb q.len rfl)
 refine call_reversed_list (gO e) ?_;have j:(Z.s.heap.push<|revObj p<|(vs.toArray.size:Int) - 1).IsRevIter Z.s.heap.objs.size p ((vs.toArray.size:Int) - 1):=(gc _ (fG _ rfl) rfl rfl);refine wpAny_pyIter_revIter j ?_;have W:=Walks.listRev (prog:=D.prog) (w:=D.w) b.R.1 Z.s.heap.objs.size p (λq=>by rw[q,ie<|bh _] at e;exact ay e) vs.toArray
 refine wG (P:=λi v=>vs.toArray[vs.toArray.size - 1 - i]?=aA v/\i<vs.toArray.size) (St:=λi h=>i<=vs.toArray.size/\h.IsRevIter Z.s.heap.objs.size p ((vs.toArray.size:Int) - 1 - (i:Int))/\h.IsList p vs.toArray) b rfl (HO (.inl rfl)<|.inr ⟨⟨_,e⟩,E6 b e λO=>nofun,λO w=>e2<|.inr w⟩) (by erw[zv];exact hsz)
  ⟨W.sub,W.frame,λi f F c t st h=>W.item i f F c t st λv h' tk L=>h v h' tk ⟨L,t⟩,W.done,W.self⟩ ⟨hJ _,by simpa using j,(gO e).push _⟩ (λi h q=>q.2.1.elim λo q=>dA o _ q.1 q.2.1<|by decide) (λi v A=>?_) ((k _ _ g).tr M)
 have e1:=A.1;have t:=A.2;refine aS (FO q e1) λd U g2=>(ax d ?_ g2);rw[hsz] at U t;erw[List.getElem?_reverse t];exact cv U rfl
theorem QDX [H:cz D] [HR:kq D] (hn:D.hm 2=aA (nm,fa)) (hm:MC x nm m pos xs) (f:aZ D C x a) (ha:fb D C xs es):qc D C (.Call (.Attribute x nm m) xs [] pos) (.jU 2 a es):= @λO O h=>λ{X z Q Er} K kk=>by
 refine cR (H.v3 _ _ _ hn) λo fd q3 q4=>yF hm.k<|(f h).run K λv l1 h ov z1 N i r1=>λpl=>?_;clear f K;obtain ⟨rfl,h⟩:=Au h;have B:=r1;refine bf B λix ia p1 M p3=>?_;clear B;clear p1;subst M;refine H.yv _ _ _ hn (by decide) N.F.base p3<|zi<|gN (hm.pl X.env)<|kO (ha h) N λds l us r g d U r3=>⟨⟨d.F.base _ _ q3,q4⟩,?_⟩;induction i9 g with
 |mk h1 g=>
 induction g with
 |mk e3 g=>
 obtain ⟨zs,rfl,g⟩:=g;refine cR (HR.RN _ _ _ e3) λaa ab q1 j=>?_;cases bM hn q1;refine tY (d.hl (u:=.emp) h1<|r1.mon U) λaf ae vs n e p4 p5 p6 p7=>?_;cases e;refine wpAny_toks<|j d.cs p5 p6 p7 r3 λA ag n' s' c nw Y g2 lt=>?_;have hX:Ex (λb=>X.Ob b\/b=A) r.W=λb=>Ex X.Ob r.W b\/b=A:=by funext b;exact propext ⟨λq=>q.elim (λq=>q.elim (λq=>.inl<|.inl q) .inr) λq=>.inl<|.inr q,λq=>q.elim (λq=>q.elim (λq=>.inl<|.inl q) .inr) λq=>.inl<|.inr q⟩
 have L: ∀b o,r.s.heap.get? b=aA o-> ¬ D.P.PF b->s'.heap.get? b=aA o:=λb o e p=>c.keep b o e id p
 refine bI (d.F.Fh (Ob₂:=(X.add A).Ob) (Z:=λO=>False) (h':=s'.heap) (λa z=>z.elim) (λa z=>z.elim) (λa o e O p=>L a o e p) (λb q=>by
  rcases q with q|q
  ·obtain ⟨o,w⟩:=d.F.dc b (.inl q)
   exact ⟨.inl q,o,L b o w λp=>d.F.dT b (d.F.pf b p) q⟩
  ·exact ⟨.inr<|q▸nw,_,q▸Y⟩) (hX▸c.inv)) λF4 m4=>?_
 exact kk _ _ g A ag n' {r with s:=s'} ⟨⟨F4,d.R,az d.t lt⟩,(i.trans U).trans ⟨d.F.CF L,lt,rfl,c.e⟩,Y,(hX▸g2:bB (Ex (λb=>X.Ob b\/b=A) r.W) s'.heap ag _),d.F.wA nw,d.F.A7 nw,(i.trans U).st.new nw⟩
end
noncomputable def Fc.fn (names:List (aG×dQ)) (bd:Nat) (nw hn:Bool) (cd:Option (aM×aG)) (hb:names.length<=bd/\bd<=1000000):Fc where
 K x:=names.lookup x
 cM x:=match names.lookup x with
  |some k=>if j8 k then aA (names.findIdx (·.1==x)) else aF
  |none=>aF
 rn x:=match names.lookup x with|some k=>j8 k|none=>aE
 inj:=by
  intro x y i A H;induction M:names.lookup x with
  |none=>rw[M] at A;exact ay A
  |some k=>
   induction hy:names.lookup y with
   |none=>rw[hy] at H;exact ay H
   |some b=>
    rw[M] at A;rw[hy] at H;dsimp only at A H
    split at A
    ·split at H
     ·have m:=(vZ M)
      have l:=m.2;refine aS l λp e1 e2=>?_;have g:=(vZ hy);have o:=g.2;refine aS o λq e z=>?_
      simp! only[(kB A).trans (kB H).symm,e] at e1
      clear e;cases e1
      simp! only[<-e2,<-z]
     ·exact ay H
    ·exact ay A
 bd:=bd
 rK:=by
  intro x i h;induction M:names.lookup x with
  |none=>rw[M] at h;exact ay h
  |some k=>
   rw[M] at h;dsimp only at h
   split at h
   ·cases h;exact mF (vZ M).1 hb.1
   ·exact ay h
 Bl:=hb.2
 ow:=aB
 nw:=nw
 hn:=hn
 cd:=cd
noncomputable def BK (D:Wd) (Ob:aM->Prop) (z:Zs) (v:aI):Sl->Prop
 |.val d=>Rd (Ex Ob z.W) z.s.heap v d
 |.inst=> ∃x a,z.φ aT=aA a/\v=.ref x/\D.P.HI (Ex Ob z.W) z.s.heap x a
 |.emp=> ∃a,v=.ref a/\z.s.heap.get? a=aA i3/\ ¬ Ex Ob z.W a
 |_=>False
inductive eT (D:Wd) (Ob:aM->Prop) (z:Zs):List aI->List Sl->Prop
 |nil:eT D Ob z [] []
 |cons {v vs sl sls}:BK D Ob z v sl->eT D Ob z vs sls->eT D Ob z (v::vs) (sl::sls)
noncomputable def Lu (i:List Nat) (sls:List Sl) (r:bR):bR:=(i.zip sls).foldl (λr p=>upd r p.1 p.2) r
noncomputable def jG (i:List Nat) (sls:List Sl) (l:Ls):Ls:=(i.zip sls).foldl (λl p=>cL l p.1 p.2) l
theorem Uw (i:List Nat) (sls:List Sl) (l:Ls):aL (jG i sls l)=Lu i sls (aL l):=HL (λp:Nat×Sl=>(p.1,p.2)) _ l
inductive iY:Fl->aK->Prop
 |next:iY .next .none
 |ret {d}:iY (.ret d) d
theorem iY.fn (h:iY f d) (h':iY f R):d=R:=by induction h<;>cases h'<;>rfl
structure En (D:Wd) (Ob:aM->Prop) (r:bR) (z:Zs):Prop where
 base: ∀b o,D.G.get? b=aA o->z.s.heap.get? b=aA o
 fN: ∀b o,D.G.get? b=aA o-> ¬ Ex Ob z.W b
 own: ∀i xs,r i=.own xs-> ∃a vs n,z.φ i=aA a/\z.s.heap.get? a=aA (listOf vs.toArray n)/\bB (Ex Ob z.W) z.s.heap vs xs
 gR: ∀i xs a,r i=.own xs->z.φ i=aA a->i≠aT->z.W a
 jb: ∀xs,r aT=.own xs->r bQ=.emp-> ∀a,z.φ aT=aA a->z.W a
 lD: ∀xs,r aT=.own xs->r bQ≠ .emp-> ∀a,z.φ aT=aA a-> ¬ z.W a
 lB:(∀xs,r aT≠ .own xs)->z.φ aT=aF
 inj: ∀i j a,z.φ i=aA a->z.φ j=aA a->i=j
 jx: ∀i a,z.φ i=aA a-> ∃o,z.s.heap.get? a=aA o
 dc: ∀a,Ex Ob z.W a-> ∃o,z.s.heap.get? a=aA o
 dT: ∀a,z.W a-> ¬ Ob a
 inv:D.P.Inv (Ex Ob z.W) z.s.heap
 pf: ∀a,D.P.PF a->z.W a
structure Bk (D:Wd) (C:Fc) (Ob:aM->Prop) (r:bR) (d:aK) (z:Zs) (u:aI) (env:cg) (z':Zs):Prop where
 F:FR D.P D.G C env Ob z'.φ z'.W r z'.s.heap
 s:Sy C z z'
 rd: ∀X:aM->Prop,(∀b,X b->Ob b\/(z'.W b/\(z'.φ aT=aA b\/D.P.PF b)))->Rd X z'.s.heap u d
noncomputable def Zs.mw (z:Zs) (names:List (aG×dQ)):Zs:={z with s:={z.s with heap:=kD (z.s.heap.push {cls:=.type "frame",data:=.dict #[]}) names},W:=λa=>z.W a\/(z.s.heap.get? a=aF/\ ∃o,(kD (z.s.heap.push {cls:=.type "frame",data:=.dict #[]}) names).get? a=aA o)}
theorem Zs.O9:Sx z (z.mw names):=⟨⟨λa o e O=>Ek _ _ _ _ _ e,λa q=>q.imp id And.left⟩,bh _,rfl,rfl⟩
section
theorem BK.mon {sl:Sl} (x:BK D Ob z v sl) (s:Sx z z'):BK D Ob z' v sl:=by
 have m:Mon (Ex Ob z.W) z.s.heap (Ex Ob z'.W) z'.s.heap:=s.st.mon;induction sl with
 |val d=>exact Rd.mon x m
 |inst=>exact bf x λy a u n q=>(dA y a (s.f▸u) n<|D.P.kG q m)
 |emp=>exact cy x λa e Q b=>(ax a e<|m _ _ Q b)
 |_=>exact x
theorem eT.mon {vs:List aI} (x:eT D Ob z vs sls) (s:Sx z z'):eT D Ob z' vs sls:=by
 induction x with
 |nil=>exact .nil
 |cons a _ i=>exact .cons (a.mon s) i
theorem eT.len {vs:List aI} (x:eT D Ob z vs sls):vs.length=sls.length:=by
 induction x with
 |nil=>rfl
 |cons _ _ i=>exact QGz H3 i
theorem eT.app {us vs:List aI} (a:eT D Ob z us ss) (b:eT D Ob z vs ts):eT D Ob z (us++vs) (ss++ts):=by
 induction a with
 |nil=>exact b
 |cons a _ i=>exact .cons a i
theorem eT.vals {vs:List aI} {ds:List aK} (q:bB (Ex Ob z.W) z.s.heap vs ds):eT D Ob z vs (ds.map .val):=by
 induction ds generalizing vs with
 |nil=>exact sb q.kN<| .nil
 |cons d ds i=>exact bf q.iB λu U e Q b=>sb e<| .cons Q<|i b
theorem QBd (h:nz C ps g): ∀{A:cV} {X:Fx} {r:bR} {z:Zs} {us:List aI} {sls:List Sl} {Q:PUnit->aN->Prop} {Er:aI->aN->Prop},FX D C X r z->eT D X.Ob z us sls->ps.length=sls.length->
 (∀z',FX D C X (Lu g sls r) z'->Sx z z'->Q lO z'.s)->aO (aY D.prog D.w) A (forIn (ps.zip us) lO λx O=>do Cm X.env x.1 x.2;pure (ou lO)) Q Er z.s:=by
 induction h with
 |nil=>
  intro A X r z us sls Q Er K q _ k
  simp! only[List.zip_nil_left,zY]
  exact bA<|k z K .refl
 | @cons p i ps g o _ c=>
  intro A X r z us sls Q Er K q L k;induction q with
  |nil=>contradiction
  | @cons u us sl sls b q2=>
   simp! only[List.zip_cons_cons,ua]
   refine bI (C.mz o.t) λM H=>aR<|aR<|wpAny_toks<|(K.F.forget i M H).store o.t o.s o.k (sl:=sl) (λN O m=>?_) (λxs e=>?_) λN Z F S l=>bA ?_
   ·clear L k
    induction sl with
    |val d=>exact (ax u rfl (Rd.mon b m))
    |inst=>exact bf b λy a Y n w=>(dA y a Y (n▸rfl)<|D.P.kG w m)
    |emp=>exact cy b λa e v W=>(ax a (e▸rfl)<|m _ _ v W)
    |_=>exact b.elim
   ·clear L k
    subst e;exact b.elim
   ·have U:Sx z (z.to N Z):=⟨S,l,rfl,rfl⟩
    exact c ⟨F,K.R,az K.t l⟩ (q2.mon U) (zq L) λf B j=>k f B<|U.trans j
theorem hH.go (R:hH (n+1) A):hH n (A.deeper env):=⟨R.1,by have:=R.2.1;refine (?_:A.depth+1+n<=900);exact aQ this,by have:=R.2.2;refine (?_:A.units+3+10*n+300<=9900);exact aQ this⟩
theorem hH.lt {n:Nat} {A:cV} (R:hH (n+1) A):A.depth<1000:=by have:=R.2.1;exact aQ this
structure Tx (D:Wd) (C:Fc) (body:List cx) (ps:List aG) (is:List Nat) (bs:List S):Prop where
 hp:nz C ps is
 hB:jT D C body bs
 ow:C.ow=aB
theorem La {body:List cx} {ps:List aG} {is:List Nat} {bs:List S} (T:Tx D C body ps is bs) (lim:D.G.NoLimit) {sls:List Sl} {l:Ls} {Kb:Fl->Ls->Prop} (hl:ps.length=sls.length) (he:sW bs D.o (jG is sls l) Kb)
 {A:cV} {scope:jP} {gl N:aM} {cl:List (aG×aM)} {qual:aG} {func:Option aM} {code:aI} {us:List aI} {Q:aI->aN->Prop} {Er:aI->aN->Prop} (R:hH (D.n+1) A) (t:1<=z.s.toks) (m:eT D Ob z us sls)
 (Y: ∀env,env=Hm scope z.s.heap.objs.size gl (jO (z.s.heap.objs.size+1) scope.names cl) qual func code aF N->FR D.P D.G C env Ob z.φ (z.mw scope.names).W (aL l) (z.mw scope.names).s.heap)
 (k: ∀fl L d,Kb fl L->iY fl d-> ∀u env z',Bk D C Ob (aL L) d z u env z'->Q u z'.s) (Z: ∀L, ¬ Kb .cont L):
 aO (aY D.prog D.w) A.in1 (Ho scope gl cl (ps.zip us) qual func code aF N) (λenv H=>H.heap.NoLimit/\ud (aY D.prog D.w) A (.func body env) (λr s'=>match r with|.ok (.ret v)=>Q v s'|.ok _=>False|.error e=>Er e s') H) (λe s'=>Er e s') z.s:=by
 refine MZ λenv p=>QBd (X:=⟨A.deeper env,env,Ob⟩) (z:=z.mw scope.names) T.hp ⟨Y env p,R.go,t⟩ (m.mon Zs.O9) hl λz1 j s1=>⟨lim.keeps j.F.base,codeAny_func ?_⟩;rw[<-Uw] at j;refine T.hB he j λfl L g f z2 K s2 fi=>?_;have s3:=(Zs.O9.trans s1).y.trans s2;clear lim he R m Y p j s2;induction fi with
 |next=>exact k _ _ _ g .next .none env z2 ⟨K.F,s3,λX O=>Rd.none⟩
 |cont=>exact (Z _ g).elim
 | @ret v u _ q1 q2=>
  refine k _ _ _ g .ret v env z2 ⟨K.F,s3,λX x=>?_⟩;have U:Mon (Ex Ob z2.W) z2.s.heap X z2.s.heap:=λb o e n=>⟨e,λz=>n<|(x b z).imp id And.left⟩;clear g;induction q2 with
  |d=>exact Rd.mon q1 U
  | @bor i xs h q=>
   refine dS (K.F.own i xs q) λb vs n e1 e2 c=>aS q1 λb' a B=>sb B ?_;obtain rfl:=bM e1 a;refine Rd.lst e2 (λz=>?_)<|c.mon U;rcases x b z with z|⟨_,z|z⟩
   ·exact K.F.dT b (K.F.gR T.ow i xs b q e1 h) z
   ·exact h<|K.F.inj i aT b e1 z
   ·refine cR (D.P.iM K.F.inv z) λo' vs' M d'=>?_
    rw[e2] at M;cases M;contradiction
structure DZ (G:bK) (fd:FuncData) (body:List cx) (names:List (aG×dQ)) (cd:Option (aM×aG)):Prop where
 cr:G.CodeRec fd.code fd.qualname
 bd:fd.body=.stmts body
 nm:fd.scope.names=names
 kd:fd.scope.kind=.function
 co:fd.scope.isCoroutine=aE
 ge:fd.scope.isGenerator=aE
 cl:fd.closure=[]
 gl:fd.globals=nM
 bu:fd.builtins=ic
 cd: ∀c q,cd=aA (c,q)->fd.code=.ref c/\fd.qualname++ ".<locals>." =q
inductive qU (G:bK) (a:aM) (body:List cx) (names:List (aG×dQ)) (cd:Option (aM×aG)) (ps:List aG) (ex:List aI):Prop
 |mk {o fd}:G.get? a=some o->o.data=.func fd->DZ G fd body names cd->(∀us:List Value,us.length+ex.length=ps.length-> ∀{M:Model} {A:Around} {E:Value->Shared->Prop} {Q:List (Str×Value)->Shared->Prop} {s:Shared},(∀b o,G.get? b=some o->s.heap.get? b=some o)->Q (ps.zip<|us++ex) s->wpAny M A (bindArgs fd ⟨us,[]⟩) Q E s)->qU G a body names cd ps ex
section
variable {nw hn:Bool} {l:Ls} {d:aK} {Kb:Fl->Ls->Prop} {xs hs hs':List aK} {ex:List aI} {exs:List Sl} {o':bj} {A:cV} {us:List aI} {Q:aI->aN->Prop} {Er:aI->aN->Prop}
theorem PI (T:Tx D (Fc.fn names bd nw hn cd hb) body ps is bs) (lim:D.G.NoLimit) (f:DZ D.G fd body names cd) (m:(names.map (·.1)).Nodup) (hl:ps.length=sls.length) (M:sW bs D.o (jG is sls l) Kb) (Z: ∀i,i<bd->aL l i=.unb)
 (R:hH (D.n+1) A) (t:1<=z.s.toks) (e:En D Ob (aL l) z) (P:eT D Ob z us sls) (k: ∀fl L d,Kb fl L->iY fl d-> ∀u env z',Bk D (Fc.fn names bd nw hn cd hb) Ob (aL L) d z u env z'->Q u z'.s) (C: ∀L, ¬ Kb .cont L):
 aO (aY D.prog D.w) A.in1 (Ho fd.scope fd.globals fd.closure (ps.zip us) (fd.qualname++ ".<locals>.") N fd.code aF fd.builtins) (λenv H=>H.heap.NoLimit/\ud (aY D.prog D.w) A (.func body env) (λr K=>match r with|.ok (.ret v)=>Q v K|.ok _=>False|.error e=>Er e K) H) (λe K=>Er e K) z.s:=by
 refine La T lim hl M R t P (λenv F=>?_) k C;have h: ∀x i,(Fc.fn names bd nw hn cd hb).cM x=aA i->aL l i=.unb:=λx i q=>Z i ((Fc.fn names bd nw hn cd hb).rK x i q)
 simp! only[f.cl,f.nm] at F
 refine sb f.nm<|EK m (by erw[F];rfl) (by erw[F];rfl) (by erw[F];exact f.kd) (λx=>by erw[F];refine (?_:fd.scope.names.lookup x=_);erw[f.nm];rfl) (by erw[F];exact f.gl) (by erw[F];exact f.bu) (λc q e=>by erw[F];exact f.cd c q e)
  (λx i a b=>h x i b) (λx i a b=>.inl ⟨?_,h x i b⟩) (λx a b=>a) (λx c q=>by exact ay q) (λx y c q=>by exact ay q) e.base e.fN e.own (λO=>e.gR) e.jb e.lD e.lB e.inj e.jx e.dc e.dT e.inv e.pf
 have B:(match names.lookup x with|some k=>if j8 k then aA (names.findIdx (·.1==x)) else aF|none=>aF)=aA i:=b;refine cp (a) (λa=>?_) λa=>?_
 ·exact a
 ·have Y:names.lookup x=aA .free:=a
  rw[Y] at B;exact ay B
theorem Df (T:Tx D (Fc.fn names bd nw hn cd hb) body ps is bs) (lim:D.G.NoLimit) (q:qU D.G a body names cd ps ex) (N:(names.map (·.1)).Nodup) (hl:ps.length=sls.length) (Z:sW bs D.o (jG is sls l) Kb) (r: ∀i,i<bd->aL l i=.unb)
 (R:hH (D.n+1) A) (t:1<=z.s.toks) (e:En D Ob (aL l) z) (v:eT D Ob z (us++ex) sls) (k: ∀fl L d,Kb fl L->iY fl d-> ∀u env z',Bk D (Fc.fn names bd nw hn cd hb) Ob (aL L) d z u env z'->Q u z'.s) (C: ∀L, ¬ Kb .cont L):aO (aY D.prog D.w) A (call (.ref a) us) Q Er z.s:=by
 induction q with
 |mk W U f F=>exact wq (Pw R.lt (e.base _ _ W) U f.co f.ge f.bd (f.cr.keeps e.base)<|F us (by (erw[<-du];erw[v.len];exact sb hl rfl)) e.base<|PI T lim f N hl Z r R t e v k C)
noncomputable def sd (D:Wd) (X Y:aM->Prop) (b:aM):Prop:=X b/\ ¬ Y b/\ ¬ D.P.PF b
theorem AN {X Y:aM->Prop} (h: ∀b,Y b->X b) (p: ∀b,D.P.PF b->X b) (q:Ex (sd D X Y) (λb=>Y b\/D.P.PF b) b):X b:=q.elim (·.1) λq=>q.elim (h b)<|p b
theorem EZ {X Y W:aM->Prop} (y: ∀b,Y b->W b) (p: ∀b,D.P.PF b->W b) (q:X b):Ex (sd D X Y) W b:=by
 by_cases h:Y b
 ·exact .inr<|y b h
 ·by_cases H:D.P.PF b
  ·exact .inr<|p b H
  ·exact .inl ⟨q,h,H⟩
theorem qf {X Y:aM->Prop} (y: ∀b,Y b->X b) (p: ∀b,D.P.PF b->X b):Mon X h (Ex (sd D X Y) λb=>Y b\/D.P.PF b) h:=λb o e n=>⟨e,λq=>n<|AN y p q⟩
theorem Bk.ct {X Y:aM->Prop} {s:aN} {o':bj} (b:Bk D C (sd D X Y) r d ⟨s,λb=>Y b\/D.P.PF b,φ⟩ u env z') (a: ∀b,Y b->z'.W b) (h: ∀b,Y b->z'.φ aT=aA b):CT {D with n:=m,o:=o'} X Y s z'.s/\Rd X z'.s.heap u d:=by
 refine ⟨⟨λc o e n p=>b.s.st.keep c o e λw=>w.elim n p,D.P.iS b.F.inv (λc o e n=>⟨e,λw=>n<|EZ a b.F.pf w⟩) λO O=>rfl,b.s.e⟩,b.rd X λc q=>?_⟩;by_cases w:Y c
 ·exact .inr ⟨a c w,.inl<|h c w⟩
 ·by_cases p:D.P.PF c
  ·exact .inr ⟨b.F.pf c p,.inr p⟩
  ·exact .inl ⟨q,w,p⟩
noncomputable def vB (P:List Nat):Ls:=P.map λi=>(i,.unb)
theorem OS (P:List Nat):aL (vB P)=aL []:=by
 funext i;induction P with
 |nil=>rfl
 |cons p P h=>
  refine (?_:cond (bt p i) Sl.unb (aL (vB P) i)=_);cases bt p i
  ·exact h
  ·rfl
theorem MW {P:List Nat} (T:Tx D (Fc.fn names bd nw hn cd hb) body ps is bs) (lim:D.G.NoLimit) (f:qU D.G a body names cd ps []) (N:(names.map (·.1)).Nodup) (hl:ps.length=xs.length) (he:sW bs D.o (jG is (xs.map .val)<|vB P) λfl O=>iY fl d):nZ {D with n:=D.n+1,o:=o'} a xs d:=by
 intro A s X us Q E c v k;have y: ∀b,(λO:aM=>False) b->X b:=λO=>mE;have x:=λb=>AN (b:=b) y c.pf
 refine Df (D:=D) (z:=⟨s,λb=>False\/D.P.PF b,λO=>aF⟩) (Ob:=sd D X λO=>False) (l:=vB P) T lim f N (by simp! only[dZ,hl]) he (λi O=>congrFun (OS P) i) c.R c.t (sb (OS P) ⟨c.base,λb o e q=>c.fN b o e<|x b q,nofun,nofun,nofun,nofun,λO=>rfl,nofun,nofun,λb q=>c.al b<|x b q,λb q i=>q.elim id i.2.2,D.P.iS c.inv (qf y c.pf) λO O=>rfl,λb p=>.inr p⟩)
  (by simp! only[eY];exact eT.vals<|v.mon<|qf y c.pf) (λfl L B g Z u env z' b=>?_) (λL g=>by cases g)
 obtain rfl:=g.fn Z;exact bI (b.ct (o':=o') (m:=D.n+1) (λO=>mE) λO=>mE) λH h=>k u z'.s H h
noncomputable def vm (N:aM) (i:Nat):Option Addr:=if i=aT then aA N else aF
theorem QBW (q:vm N i=aA a):i=aT/\a=N:=by
 unfold vm at q
 split at q
 ·cases q;exact ⟨‹_›,rfl⟩
 ·exact ay q
theorem v9:vm i aT=aA i:=QGx rfl
theorem Dc {X Y:aM->Prop} {vs:List aI} {ds:List aK} (c:CS {D with n:=D.n+1,o:=o'} A X s) (y: ∀b,Y b->X b) (Q:s.heap.get? N=aA (listOf vs.toArray n)) (v:bB X s.heap vs ds) (e1: ∀i ys,r i=.own ys->i=aT/\ys=ds) (e2:r aT=.own ds) (u:r bQ=.emp->Y N) (W:r bQ≠ .emp-> ¬ Y N):
 En D (sd D X Y) r ⟨s,λb=>Y b\/D.P.PF b,vm N⟩:=by
 have x:=λb=>AN (D:=D) (b:=b) y c.pf;have M:=qf (D:=D) (h:=s.heap) y c.pf;have B: ∀i a,vm N i=aA a->i=aT/\a=N:=λO O=>QBW;refine ⟨c.base,λb o e q=>c.fN b o e<|x b q,λi ys e=>?_,λi ys a e O f=>QGv (e1 i ys e).1 f,λys O w a q=>.inl<|(B aT a q).2▸u w,λys O w a q z=>?_,λw=>QGv e2<|w ds,λi j a p q=>(B i a p).1.trans (B j a q).1.symm,λi a q=>⟨_,(B i a q).2▸Q⟩,λb q=>c.al b<|x b q,λb q R=>q.elim R.2.1 R.2.2,D.P.iS c.inv M λO O=>rfl,λb p=>.inr p⟩
 ·have H:=(e1 i ys e)
  have m:=H.1;have g:=H.2;exact sb m<|sb g<|(lz N vs n v9 Q<|v.mon M)
 ·rw[(B aT a q).2] at z
  refine cp (z) (λz=>?_) λz=>?_
  ·exact W w z
  ·refine cR (D.P.iM c.inv z) λo F e d=>?_
   obtain rfl:=bM Q e;exact nomatch d
noncomputable def rR (hs:List aK):Ls:=[(aT,.own hs)]
noncomputable def rH (hs:List aK):Ls:=[(aT,.own hs),(bQ,.emp)]
theorem Dw (b:Bool) (e:aL (bif b then rH hs else rR hs) i=.own ys):i=aT/\ys=hs:=by
 have k: ∀l,(∀ys,aL l i≠ .own ys)->aL ((aT,.own hs)::l) i=.own ys->i=aT/\ys=hs:=λl n e=>by
  by_cases h:aT=i
  ·clear n
   subst h;cases e;exact ⟨rfl,rfl⟩
  ·have u:cond (bt aT i) _ (aL l i)=.own ys:=e
   rw[qK h] at u;exact QGv u<|n _
 induction b with
 |false=>exact k [] (λO=>nofun) e
 |true=>refine k [(bQ,.emp)] (λys q=>?_) e;have Q:cond (bt bQ i) Sl.emp .unb=.own ys:=q;cases w:bt bQ i<;>rw[w] at Q<;>exact nomatch Q
theorem HP (b:Bool) (h:i<1000000):aL (bif b then rH hs else rR hs) i=.unb:=by
 have H:bt aT i=false:=qK λz=>by rw[<-z] at h;exact QGv h (by decide)
 have m:bt bQ i=false:=qK λz=>by rw[<-z] at h;exact QGv h (by decide)
 induction b with
 |false=>show cond (bt aT i) _ _=_;erw[H];rfl
 |true=>show cond (bt aT i) _ (cond (bt bQ i) _ _)=_;refine sb H<|sb m ?_;rfl
theorem QCZ (T:Tx D (Fc.fn names bd nw aE cd hb) body ps is bs) (lim:D.G.NoLimit) (v: ∀{Ob z},eT D Ob z ex exs) (fa:qU D.G a body names cd ps ex) (L:(names.map (·.1)).Nodup) (hl:ps.length=(xs.map xN++exs).length+1)
 (Z:sW bs D.o (jG is (.inst::(xs.map .val++exs))<|rH hs) λfl l=>iY fl d/\aL l aT=.own hs'/\aL l bQ=.emp):qx {D with n:=D.n+1,o:=o'} a xs hs d hs':=by
 intro A s X us vs x N n Q E c hi M U C j k;have y: ∀b,(λb=>b=N) b->X b:=λb q=>q▸M;refine Df (D:=D) (us:=.ref x::us) (sls:=.inst::(xs.map .val++exs)) T lim fa L hl Z (λi q=>HP aB<|mF q hb.2) c.R c.t (Dc c y U C (λi ys e=>Dw aB e) rfl (λO=>rfl) (λw=>QGv rfl w)) (.cons (dA x N v9 rfl (D.P.kG hi<|qf y c.pf))<|(eT.vals<|j.mon<|qf y c.pf).app v) (λfl f d' g Y u env z' b=>?_) (λf g=>by cases g.1);refine eJ g λg r B=>?_;obtain rfl:=g.fn Y;have h:=(b.s.p.hn rfl).trans v9;refine dS (b.F.own aT hs' r) λaa vs' n' e1 e2 e3=>?_;obtain rfl:=bM h e1;have H: ∀b,b=N->z'.W b:=λO q=>q▸b.F.jb hs' r B N h;exact bI (b.ct H λO q=>q▸h) λm K=>k u z'.s vs' n' m e2 (e3.mon λc o e n=>⟨e,λw=>n<|EZ H b.F.pf w⟩) K
theorem Yq (T:Tx D (Fc.fn names bd nw aE cd hb) body ps is bs) (lim:D.G.NoLimit) (B: ∀{Ob z},eT D Ob z ex exs) (f:qU D.G a body names cd ps ex) (N:(names.map (·.1)).Nodup) (hl:ps.length=(xs.map xN++exs).length+1)
 (F:sW bs D.o (jG is (.inst::(xs.map .val++exs))<|rR hs) λfl O=>iY fl d):ra {D with n:=D.n+1,o:=o'} a xs hs d:=by
 intro A s X us m x C n Q E c j r v K k;have y: ∀b,(λO:aM=>False) b->X b:=λO=>mE;refine Df (D:=D) (us:=.ref x::us) (sls:=.inst::(xs.map .val++exs)) T lim f N hl F (λi q=>HP aE<|mF q hb.2) c.R c.t (Dc (ds:=hs) c y r v (λi Y e=>Dw aE e) rfl (λw=>by have w:=w;exact nomatch w) (λO=>id)) (.cons (dA x C v9 rfl (D.P.kG j<|qf y c.pf))<|(eT.vals<|K.mon<|qf y c.pf).app B) (λfl l L g Z u env W b=>?_) (λl g=>by exact nomatch g);obtain rfl:=g.fn Z;exact bI (b.ct (λO=>mE) λO=>mE) λH h=>k u W.s H h
end
end
structure gr where
 nm:aG
 args:Arguments
 body:List cx
 scope:jP
 ps:List aG
 pos:bP
 own:aM
 tab:aM
 qual:aG
structure OQ where
 HI:(aM->Prop)->bK->aM->aM->Prop
 kG: ∀{X h X' h' x a},HI X h x a->Mon X h X' h'->HI X' h' x a
inductive Ky (cf:gr) (X:aM->Prop) (h:bK) (cl:List (aG×aM)) (a:aM):Prop
 |mk {o fd c' oc vs t}:h.get? a=some o-> ¬ X a->o.data=.func fd->fd.code=.ref c'->h.get? c'=some oc-> ¬ X c'->oc.data=.fields vs->vs[1]?=some (.str fd.qualname t)->fd.body=.stmts cf.body->fd.scope=cf.scope->fd.closure=clOf cl cf.scope.names []->
  (∀x∈cf.scope.names,x.2=.free->(cl.lookup x.1).isSome=aB)->fd.globals=nM->fd.builtins=ic->(∀us:List aI,us.length=cf.ps.length->nO fd ⟨us,[]⟩=pure (cf.ps.zip us))->Ky cf X h cl a
noncomputable def Ew (cf:gr) (X:aM->Prop) (h:bK) (c:aM):Prop:= ∃o v t,h.get? c=aA o/\ ¬ X c/\o.data=.fields v/\v[1]?=aA (.str (cf.qual++cf.nm) t)
inductive oH (cf:gr) (X:aM->Prop) (h:bK):Prop
 |mk {ps}: ¬ X cf.own->h.IsCode cf.own cf.tab ps->h.TableAt cf.own cf.tab ps->(codeAmong cf.pos ps.toList=none\/ ∃c',codeAmong cf.pos ps.toList=some (.ref c')/\Ew cf X h c')->oH cf X h
theorem vl {h:bK} {ps:Array aI} {G:Prop} (x:h.IsCode c P ps) (k: ∀o vs F tf f t i text tt op,h.get? c=aA o->o.data=.fields vs->vs.getD 11 .none=.ref P->vs.getD 18 .none=.str F tf->vs.getD 7 .none=.int f t->vs.getD 9 .none=.bool i->vs.getD 10 .none=.int text tt->h.get? P=aA op->op.data=.fields ps->TriplesOk ps.toList->c≠P->G):G:=x.elim λo x=>x.elim λvs x=>x.elim λF x=>x.elim λtf x=>x.elim λf x=>x.elim λt x=>x.elim λi x=>x.elim λtext x=>x.elim λtt x=>x.elim λop x=>k o vs F tf f t i text tt op x.1 x.2.1 x.2.2.1 x.2.2.2.1 x.2.2.2.2.1 x.2.2.2.2.2.1 x.2.2.2.2.2.2.1 x.2.2.2.2.2.2.2.1 x.2.2.2.2.2.2.2.2.1 x.2.2.2.2.2.2.2.2.2.1 x.2.2.2.2.2.2.2.2.2.2
theorem T6 {h h':bK} (x:h.IsCode c P ps) (H: ∀o,h.get? c=aA o->h'.get? c=aA o) (K: ∀o,h.get? P=aA o->h'.get? P=aA o):h'.IsCode c P ps:=by have e:h'.get? c=h.get? c/\h'.get? P=h.get? P:=vl x λO O O O O O O O O O a O O O O O O b O O O=>⟨(H _ a).trans a.symm,(K _ b).trans b.symm⟩;delta Heap.IsCode;refine sb e.1<|sb e.2 x
theorem oH.mv {cf:gr} {X z:aM->Prop} {h h':bK} (i:oH cf X h) (m:Mon X h z h') (k: ∀o,h.get? cf.tab=aA o->h'.get? cf.tab=aA o):oH cf z h':=by
 induction i with
 |mk n Y x g=>have K:=λo e=>(m cf.own o e n).1;refine ⟨vl Y λo O O O O O O O O O e O O O O O O O O O O=>(m _ o e n).2,T6 Y K k,⟨iU x.1 λo vs a b c d=>jX o vs (K _ a) b c d,k _ x.2⟩,g.imp id λq=>?_⟩;exact aS q λC r q=>⟨C,r,dd q λoc vs t g2 g3 W j=>qV oc vs t (m _ _ g2 g3).1 (m _ _ g2 g3).2 W j⟩
theorem oH.QCP {cf:gr} {X:aM->Prop} {h:bK} (i:oH cf X h): ∃o vs,h.get? cf.tab=aA o/\o.data=.fields vs:=by
 induction i with
 |mk n d t g=>exact vl d λO O O O O O O O O F O O O O O O O U p O O=>fD F _ U p
noncomputable def h8 (cu:Nat->Option gr) (H:OQ):u9 where
 CL f X h cl a:= ∃cf,cu f=aA cf/\Ky cf X h cl a
 HI:=H.HI
 xq:=by intro f X h U h' cl a p m;obtain ⟨cf,e,⟨A,z,Q,v,d,P,B,F,Y,K,c,g,R,L,x⟩⟩:=p;exact (ax cf e<|.mk (m _ _ A z).1 (m _ _ A z).2 Q v (m _ _ d P).1 (m _ _ d P).2 B F Y K c g R L x)
 kG:=H.kG
 PF a:= ∃f cf,cu f=aA cf/\a=cf.tab
 Inv X h:= ∀f cf,cu f=aA cf->oH cf X h
 iS:=λi m j f cf e=>(i f cf e).mv m λo q=>(j _<|fD f cf e rfl).trans q
 iM:=by intro X h a i l;refine cR l λf cf e b=>?_;clear l;subst b;exact (i f cf e).QCP
section
variable {E:aI->aN->Prop} {s:aN}
theorem YK {cf:gr} {X:aM->Prop} {env:cg} (C:env.code=.ref cf.own) (l: ∀b,X b-> ∃o,s.heap.get? b=aA o) (i:oH cf X s.heap)
 (hQ: ∀c h' tk,(∀b o,s.heap.get? b=aA o->b≠cf.tab->h'.get? b=aA o)->Ew cf X h' c->oH cf X h'->Q (.ref c) {s with heap:=h',toks:=tk}):
 aO M A (Px env cf.pos f cf.nm (cf.qual++cf.nm) p scope body) Q E s:=by
 have m:=i;obtain ⟨n1,d,B,g⟩:=i;rcases g with g|⟨c,g1,N⟩
 ·refine wpAny_functionCodeX C d B g λc h' tk Z R lt Y cr v O=>QAX cr λc2 oc vs t e1 e2 u q=>?_
  cases e1
  have nx: ¬ X c:=λx=>aV (l _ x) λo w=>mG _<|mF (kg w) R
  have N:Ew cf X h' c:=(qV oc vs t e2 nx u q);refine hQ c h' tk (λb o e n=>Z b o n e) N ⟨n1,Y,v,.inr<|ax c ?_ N⟩;exact vl d λo W K tf F r j text tt op z hd h h2 h7 h9 H U P a L=>sb QEm<|sb (codeAmong_snoc _ a g) rfl
 ·refine vl d λo vs K tf F r j text tt op z hd h h2 h7 h9 H U P a L=>?_
  delta Px codeAt;refine sb C<|sb (if_neg (Bool.false_ne_true: ¬ ((Value.ref cf.own==Value.none)=true)))<|wpAny_bind<|wpAny_fieldsOf z hd ?_
  refine sb h<|wpAny_bind<|wpAny_fieldsOf U P ?_
  exact sb g1<|wpAny_pure<|hQ c s.heap s.toks (λb o e O=>e) N m
end
section
theorem AS {h:bK} (ob:bH) (b:aM) (o:bH) (e:h.get? b=aA o):(h.push ob).get? b=aA o:=gS ob e
theorem Vt [H:cz D] (hP:D.P=h8 cu Hh) (hf:cu f=aA cf) (aj: ∀g r,cu g=aA r->r.tab=cf.tab->r=cf)
 (ah: ∃bm o,D.mg "__builtins__" =aA (.ref bm)/\bm≠ic/\D.G.get? bm=aA o/\o.cls=.type "module" /\o.dict=aA ic/\o.data=.plain)
 (ae:C.cd=aA (cf.own,cf.qual)) (ok:lJ C cf.nm i)
 (ai:cf.args.kwonlyargs=[]) (ak:cf.args.kw_defaults=[]) (aq:cf.args.defaults=[]) (U: ∀env,annTrees cf.args aF env=[]) (M:docOf cf.body=aF)
 (N: ∀x∈cf.scope.names,x.2=.free->(C.cM x.1).isSome=aB/\(C.K x.1=aA .cell\/C.K x.1=aA .free))
 (B: ∀fd,fd.params=cf.args->fd.defaults=.none->fd.kwdefaults=.none-> ∀us,us.length=cf.ps.length->nO fd ⟨us,[]⟩=pure (cf.ps.zip us)):
 bY D C (.FunctionDef cf.nm cf.args cf.body [] aF [] cf.scope aF cf.nm cf.pos) (.defn i f):=λe=>λ{X z Q Er} K k=>by
 refine bI (K.F.rC _ _ ae) λh L=>?_
 have aa: ∀x∈cf.scope.names,x.2=.free->(X.env.cells.lookup x.1).isSome=true:=λx hx af=>by
  refine bI (N x hx af) λf1 f2=>aV (mO.mp f1) λj f1=>cR (K.F.hF x.1 j f2 f1) λc v q O=>?_
  simp! only[q]
  rfl
 have ao:qualnameIn X.env cf.nm cf.nm=cf.qual++cf.nm:=by
  unfold qualnameIn;refine sb (K.F.hK cf.nm)<|sb L ?_
  rcases ok.k with q|q<;>rw[q]<;>rfl
 rw[exec_def,ao,defaultsOf_eq,ak,aq,U X.env];refine aR<|iJ<|aR<|cO ?_;refine aR<|bA ?_;refine aR<|cO<|bA ?_;refine cO<|wpAny_bind<|wpAny_pure ?_
 rw[makeFunction_eq,ai];refine aR (bA<|aR<|bA<|aR<|bA ?_)
 simp! only[makeTail,Ny aa]
 refine aR<|bA ?_
 have dk: ∀ct Y,(∀b o,z.s.heap.get? b=aA o->Y.get? b=aA o)->aO (aY D.prog D.w) X.A (do
  let code<-Px X.env cf.pos cf.pos.line cf.nm (cf.qual++cf.nm) cf.args cf.scope (.stmts cf.body)
  let bu<-builtinsFor X.env.globals X.env.builtins
  let pm<-nsGet X.env.globals "__name__"
  let doc<-(match docOf cf.body with|some s=>mkText s|none=>pure .none)
  newObj (.type "function") (.func {name:=cf.nm,qualname:=cf.qual++cf.nm,params:=cf.args,body:=.stmts cf.body,scope:=cf.scope,globals:=X.env.globals,closure:=clOf X.env.cells cf.scope.names [],closureTuple:=ct,code,builtins:=bu,defaults:=.none,kwdefaults:=.none,annotations:=aF,pyModule:=pm.getD .none,doc})) (λa s'=>aO (aY D.prog D.w) X.A (do
  sM cf.pos
  zr X.env cf.nm a
  pure Flow.next) Q Er s') Er {z.s with heap:=Y}:=by
  intro ct Y Z;have K1:FX D C X (aL _) (z.to Y z.s.toks):=⟨K.F.keeps Z,K.R,K.t⟩;have iv:=K1.F.inv
  simp! only[hP] at iv
  refine aR<|wpAny_toks<|YK h K1.F.dc (iv f cf hf) λc' h2 tk d nc i2 l2=>?_;have u: ∀b o,Y.get? b=aA o-> ¬ D.P.PF b->h2.get? b=aA o:=λb o e p=>d b o e λq=>p (by simp! only[hP];exact (fD f cf hf q))
  have inv2:D.P.Inv (Ex X.Ob z.W) h2:=by
   erw[hP];intro g r eg;by_cases q:r.tab=cf.tab
   ·simp! only[aj g r eg q]
    exact i2
   ·exact (iv g r eg).mv (λb o e n=>⟨d b o e λq=>n (.inr<|q▸(K.F.pf _ (by simp! only[hP];exact (fD f cf hf rfl)):z.W cf.tab)),n⟩) λo w=>d _ _ w q
  have F2:=K1.F.keepsP u inv2;refine AJ ah λbm ob b1 b2 b3 b4 b5 b6=>?_;have ab:h2.Ns X.env.globals D.mg:=by simp! only[K.F.hg];exact H.gl.g.keeps F2.base
  refine aR<|wpAny_builtinsFor ab b1 b2 (F2.base _ _ b3) b4 b5 b6 ?_;refine aR (wpAny_nsGet ab ?_)
  simp! only[M]
  refine aR (bA<|QER ?_<|by size_fits);refine bI (C.mz ok.t) λhw hh=>aR<|iJ<|aR<|QEd ?_;refine wpAny_toks (((F2.keeps<|AS _).forget i hw hh).store ok.t ok.s ok.k (sl:=.clo f) (λh' O m=>?_) (λys ey=>by exact nomatch ey) λh' ag F s4 l4=>?_)
  ·refine dd nc λoc vs t e1 nx e3 e4=>(ax h2.objs.size rfl (D.P.xq ?_ m))
   exact sb hP<|(ax cf hf<|.mk (Heap.get?_push_size _ rfl) F2.th rfl rfl (AS _ _ _ e1) nx e3 e4 rfl rfl rfl aa K.F.hg rfl λus hu=>B _ rfl rfl rfl us hu)
  ·have l:=az l2 l4
   exact bA (k _ _ e _ (z.to h' ag) ⟨by simp! only[fQ];exact F,K.R,az K.t l⟩ (Sx.y ⟨(((dg.all Z).trans<|K1.F.CF u).trans<|dg.all<|AS _).trans s4,l,rfl,rfl⟩) .next)
 split
 ·exact aR<|bA<|dk .none z.s.heap λO O e=>e
 ·exact aR<|wpAny_newTextTuple<|dk _ _<|AS _
end
noncomputable def j6 (f:Nat) (m:Bool):Sl->Sl
 |.val d=>.val d
 |.own Y=>bif m then .own Y else .unb
 |.clo g=>if g=f then .clo g else .unb
 |.emp=>.emp
 |_=>.unb
noncomputable def qR (f:Nat) (c:List Nat) (o:Option Nat) (r:bR):bR:=λi=>if i∈c then j6 f (o==aA i) (r i) else .unb
noncomputable def FF:aK->Bool
 |.none=>aB
 |.int _=>aB
 |_=>aE
noncomputable def tP (f:Nat) (c:List Nat) (o:Option Nat) (l:Ls):Ls:=c.map λi=>(i,j6 f (o==aA i)<|aL l i)
theorem QCX (f:Nat) (c:List Nat) (o:Option Nat) (l:Ls):aL (tP f c o l)=qR f c o (aL l):=by
 funext j;unfold qR;induction c with
 |nil=>rfl
 |cons i W d=>
  refine (?_:cond (bt i j) _ (aL (tP f W o l) j)=_);by_cases h:i=j
  ·erw[h]
   rw[Cf,if_pos<|.head _];rfl
  ·refine sb (qK h)<|sb d ?_
   by_cases q:j∈W
   ·refine sb (QGx q)<|sb (if_pos<|.tail _ q) ?_
    rfl
   ·refine sb (QGw q)<|sb (if_neg λw=>q<|(bp.mp w).resolve_left λe=>h e.symm) ?_
    rfl
inductive Av (l l2:Ls):Option Nat->Ls->Prop
 |none:Av l l2 none l
 |some {j xs ys}:aL l j=.own xs->aL l2 j=.own ys->Av l l2 (some j) (cL l j<|.own ys)
noncomputable def vy (o:bj) (f:Nat) (i c:List Nat) (t:Option Nat) (bs:List S) (xs:List aK) (l:Ls) (d:aK) (L:Ls):Prop:=xs.length=i.length/\sW bs o (jG i (xs.map .val)<|tP f c t l) λF W=>iY F d/\FF d=aB/\Av l W t L
theorem Te {c1 c2:List (aG×aM)}: ∀(names:List (aG×dQ)) (a:List (aG×aM)),(∀x∈names,x.2=.free->c1.lookup x.1=c2.lookup x.1)->clOf c1 names a=clOf c2 names a:=by
 intro O;induction O with
 |nil=>exact λO O=>rfl
 |cons O r i=>
  obtain ⟨n,k⟩:=O
  exact λa h=>by
   dsimp only[BZ,AR];by_cases K:(k==oy)=aB
   ·exact sb (QGx K)<|sb (if_pos K)<|sb (h (n,k) (.head _)<|beq_iff_eq.mp K)<|i _ λx M=>h x<|.tail _ M
   ·exact sb (QGw K)<|sb (if_neg K)<|i _ λx M=>h x<|.tail _ M
structure uD (Cow:Fc) (cf:gr) (C:Fc):Prop where
 free: ∀x∈cf.scope.names,x.2=.free->C.cM x.1=Cow.cM x.1/\(C.cM x.1).isSome=aB/\(C.K x.1=aA .cell\/C.K x.1=aA .free)
 ow:C.ow=aB
theorem Rd.atom {X x:aM->Prop} (q:Rd X h u d) (a:FF d=aB):Rd x h' u d:=by
 cases d with
 |none=>refine aS q λO O b=>?_;cases b;exact Rd.none
 |int i=>exact aV q.dj λt e=>sb e<|Rd.int _ _
 |_=>exact bq a
noncomputable def vk (φ:Nat->Option aM) (j:Nat):Option Addr:=if j=aT then aF else φ j
theorem yr (h:vk φ j=aA a):j≠aT/\φ j=aA a:=by
 unfold vk at h
 split at h
 ·exact ay h
 ·exact ⟨‹_›,h⟩
theorem Em (n:j≠aT) (h:φ j=aA a):vk φ j=aA a:=(QGw n).trans h
inductive Wl (D:Wd) (oi:Option Nat) (r:bR) (z:Zs) (b:aM):Prop
 |own {j ys}:oi=some j->r j=.own ys->z.φ j=some b->Wl D oi r z b
 |pf:D.P.PF b->Wl D oi r z b
noncomputable def zL (D:Wd) (o:Option Nat) (r:bR) (z:Zs):Zs:=⟨z.s,Wl D o r z,vk z.φ⟩
noncomputable def tA (D:Wd) (o:Option Nat) (X:Fx) (r:bR) (z:Zs) (b:aM):Prop:=Ex X.Ob z.W b/\ ¬ Wl D o r z b
structure rh (cf:gr) (Cow:Fc) (cN:List Nat) (oi:Option Nat):Prop where
 L5:(cf.scope.names.map (·.1)).Nodup
 UD:cf.scope.kind=.function
 p_:cf.scope.isCoroutine=aE
 Ww:cf.scope.isGenerator=aE
 Gu: ∀x∈cf.scope.names,x.2≠ .cell
 O_: ∀x i,cf.scope.names.lookup x=aA .free->Cow.cM x=aA i->i∈cN
 L8: ∀i∈cN,i<Cow.bd
 Bt: ∀j,oi=aA j->j∈cN
section
theorem rh.big (I:rh cf Cow cN oi) (h:i∈cN):i≠aT/\i≠bQ:=by have:=mF (I.L8 i h) Cow.Bl;exact ⟨λw=>by rw[w] at this;exact QGv this (by decide),λw=>by rw[w] at this;exact QGv this (by decide)⟩
theorem Ki (h:i∈cN):qR f cN oi r i=j6 f (oi==aA i) (r i):=QGx h
theorem Mi (h:i∉cN):qR f cN oi r i=.unb:=QGw h
theorem Ge (e:qR f cN oi r i=.own ys):i∈cN/\oi=aA i/\r i=.own ys:=by
 by_cases d:i∈cN
 ·rw[Ki d] at e
  induction hri:r i with
  |own zs=>
   rw[hri] at e;induction q:oi==aA i with
   |true=>rw[q] at e;clear hri;cases e;exact ⟨d,QGy.mp q,rfl⟩
   |false=>rw[q] at e;contradiction
  |clo g=>
   rw[hri] at e;unfold j6 at e;dsimp only at e
   split at e<;>contradiction
  |_=>rw[hri] at e;contradiction
 ·rw[Mi d] at e
  contradiction
theorem Wl.w (I:rh cf Cow cN oi) (i:uD Cow cf C) (K:FX D C X r z) (q:Wl D oi r z b):z.W b:=by
 induction q with
 |own o s Q=>exact K.F.gR i.ow _ _ b s Q (I.big<|I.Bt _ o).1
 |pf p=>exact K.F.pf b p
theorem HT (I:rh cf Cow cN oi) (i:uD Cow cf C) (K:FX D C X r z):Ex (tA D oi X r z) (Wl D oi r z)=Ex X.Ob z.W:=by
 funext b;refine propext ⟨λq=>q.elim (·.1) λq=>.inr<|q.w I i K,λq=>?_⟩;by_cases w:Wl D oi r z b
 ·exact .inr w
 ·exact .inl ⟨q,w⟩
theorem WK (I:rh cf Cow cN oi) (c:uD Cow cf C) (K:FX D C X r z):En D (tA D oi X r z) (qR f cN oi r) (zL D oi r z):=by
 have x:=HT I c K;have N: ∀ys,qR f cN oi r aT≠ .own ys:=λys e=>(I.big (Ge e).1).1 rfl;refine ⟨K.F.base,λb o e=>by erw[x];exact K.F.fN b o e,λi ys e=>?_,λi ys b e u n=>?_,λys e=>QGv e<|N ys,λys e=>QGv e<|N ys,λO=>(QGx rfl:vk z.φ aT=aF),λi j b e u=>K.F.inj i j b (yr e).2 (yr u).2,λi b e=>K.F.jx i b (yr e).2,λb q=>K.F.dc b<|x▸q,λb w q=>q.2 w,by erw[x];exact K.F.inv,λb p=>.pf p⟩
 ·exact eJ (Ge e) λd Y A=>dS (K.F.own i ys A) λb vs' n e1 e2 h=>(lz b vs' n (Em (I.big d).1 e1) e2 (by erw[x];exact h))
 ·exact eJ (Ge e) λd Y A=>.own Y A (yr u).2
theorem Xz (hP:D.P=h8 cu Hh) (A:cu f=aA cf) (I:rh cf Cow cN oi) (j:uD Cow cf C) (K:FX D C X r z) {code:aI} (Z: ∀x∈cf.scope.names,x.2=.free->(X.env.cells.lookup x.1).isSome=aB)
 (t:m=Hm cf.scope z.s.heap.objs.size nM (jO (z.s.heap.objs.size+1) cf.scope.names<|clOf X.env.cells cf.scope.names []) qual B code aF ic):
 FR D.P D.G (Cow.sub cf.scope.names aE aB hb) m (tA D oi X r z) (zL D oi r z).φ ((zL D oi r z).mw cf.scope.names).W (qR f cN oi r) ((zL D oi r z).mw cf.scope.names).s.heap:=by
 have e:=WK (f:=f) I j K;have hX:Ex (tA D oi X r z) (zL D oi r z).W=Ex X.Ob z.W:=HT I j K;have l:=yZ cf.scope.names [] Z λy c q=>ay q
 have L: ∀x c,(clOf X.env.cells cf.scope.names []).lookup x=aA c-> ∃i v,C.cM x=aA i/\Cow.cM x=aA i/\cf.scope.names.lookup x=aA .free/\X.env.cells.lookup x=aA c/\z.s.heap.IsCell c v/\dh D.P z.φ X.env.cells (Ex X.Ob z.W) z.s.heap i v (r i):=by
  intro x c q;have hm:(x,oy)∈cf.scope.names:=((l.2 x).mpr (by erw[q];rfl)).elim id λw=>bq w
  refine eJ (j.free _ hm rfl) λf1 f2 f3=>aV (mO.mp f2) λi f4=>bf (K.F.hF x i f3 f4) λc' v q1 q2 q3=>?_;have q0:=l.1 x c q;clear hP A hb j K Z t e hX l q f2 f3;obtain rfl:=bM q1 q0;exact (sa i v f4 (f1▸f4) (Af I.L5 hm) q1 q2 q3)
 have a: ∀x,(x,oy)∈cf.scope.names-> ∃c,(clOf X.env.cells cf.scope.names []).lookup x=aA c:=λx M=>mO.mp<|(l.2 x).mp<|.inl M
 have N: ∀x∈cf.scope.names,x.2=.free->m.cells.lookup x.1=X.env.cells.lookup x.1:=λx M Z=>by
  simp! only[(by erw[t];rfl:m.cells=jO (z.s.heap.objs.size+1) cf.scope.names (clOf X.env.cells cf.scope.names [])),(A8 cf.scope.names _ _ x.1).1 λw=>QGv rfl (I.Gu _ w)]
  refine aV (a x.1 (by erw[<-Z];exact M)) λc q=>?_
  simp! only[q,l.1 x.1 c q]
 have h: ∀i v,i∈cN->dh D.P z.φ X.env.cells (Ex X.Ob z.W) z.s.heap i v (r i)->dh D.P (vk z.φ) m.cells (Ex X.Ob z.W) z.s.heap i v (qR f cN oi r i):=by
  intro i v u x;erw[Ki u];induction R:r i with
  |val d=>rw[R] at x;exact x
  |own ys=>
   rw[R] at x;induction q:oi==aA i with
   |true=>exact aS x λb q1 q2=>(ax b (Em (I.big u).1 q1) q2)
   |false=>trivial
  |clo g=>
   rw[R] at x;unfold j6;dsimp only
   split
   ·rename_i q
    clear e R;subst q;refine aS x λb q1 q2=>(ax b q1 ?_);rw[hP] at q2⊢;refine aS q2 λyk e2 o=>?_;obtain ⟨k1,k2,k3,k4,k5,k6,k7,k8,k9,ab,aa,ah,ag,n,af⟩:=o;obtain rfl:=bM A e2;exact (ax cf A<|.mk k1 k2 k3 k4 k5 k6 k7 k8 k9 ab (aa.trans<|Te _ _ λx M Z=>(N x M Z).symm) (λx M Z=>by erw[N x M Z];exact ah x M Z) ag n af)
   ·trivial
  |emp=>rw[R] at x;exact x
  |_=>trivial
 refine EK (cl:=clOf X.env.cells cf.scope.names []) I.L5 (by erw[t];rfl) (by erw[t];rfl) (by erw[t];exact I.UD) (λx=>?_) (by erw[t];rfl) (by erw[t];rfl) (λc q e=>by exact ay e) (λx i p q=>?_) (λx i p q=>?_) (λx p q=>?_) (λx c q=>?_) (λx y c q Q=>?_)
  e.base e.fN e.own (λO=>e.gR) e.jb e.lD e.lB e.inj e.jx e.dc e.dT e.inv e.pf
 ·refine sb t<|(?_:cf.scope.names.lookup x=(cf.scope.names.lookup x).map λk=>if aE && k==.free && Cow.K x==aA .cell then .cell else k)
  cases cf.scope.names.lookup x<;>rfl
 ·refine Mi λu=>?_
  have Q:(match cf.scope.names.lookup x with
   |some k=>if j8 k then (if x==n5 then aF else aA (Cow.bd+cf.scope.names.findIdx (·.1==x))) else if k==.free then Cow.cM x else aF
   |none=>aF)=aA i:=q
  rw[((oP p).elim id λw=>by cases w.1:cf.scope.names.lookup x=aA .local)] at Q;have Q:(if x==n5 then aF else aA (Cow.bd+cf.scope.names.findIdx (·.1==x)))=aA i:=Q
  split at Q
  ·exact ay Q
  ·clear A hb j Z t l L a N p q
   cases Q
   exact QGv (I.L8 _ u)<|iH.mpr<|mL _ _
 ·have Q:(match cf.scope.names.lookup x with
   |some k=>if j8 k then (if x==n5 then aF else aA (Cow.bd+cf.scope.names.findIdx (·.1==x))) else if k==.free then Cow.cM x else aF
   |none=>aF)=aA i:=q
  have H:cf.scope.names.lookup x=aA .free:=by
   refine cp (p) (λp=>?_) λp=>?_
   ·refine cp (oP p) (λw=>?_) λw=>?_
    ·exact QGv rfl (I.Gu _<|mem_of_lookup w)
    ·exact w.2.1
   ·refine cp (oP p) (λw=>?_) λw=>?_
    ·exact w
    ·cases w.1
  rw[H] at Q;refine aV (a x<|mem_of_lookup H) λc q1=>AJ (L x c q1) λi' v O k3 O O k5 k6=>?_;have U:Cow.cM x=aA i:=Q;clear hP A hb j K Z t e l L a N p q Q;obtain rfl:=bM U k3;exact .inr ⟨H,c,v,q1,k5,by erw[hX];exact h i v (I.O_ x i H U) k6⟩
 ·exact (oP p).elim id λw=>bq w.2.2.2
 ·exact AJ (L x c q) λO O O O O O Y O=>aS Y λo' w O=>⟨o',w⟩
 ·exact oQ (L x c q) λO O O O O k4 O=>oQ (L y c Q) λO O O O O ae O=>K.F.oX x y c k4 ae
theorem SO (hP:D.P=h8 cu Hh) (hf:cu f=aA cf) (lim:D.G.NoLimit) (I:rh cf Cow cN oi) (T:Tx D (Cow.sub cf.scope.names aE aB hb) cf.body cf.ps is bs)
 (hc: ∀C,D.cN f C->uD Cow cf C) (he:vy D.o f is cN oi bs xs l d l'):yN {D with n:=D.n+1,o:=o'} f xs l d l':=by
 intro C X z a us Q E x K Z hv k;have r:=hc C x;have K:FX {D with n:=D.n+1} C X (aL l) z:=⟨K.F,K.R,K.t⟩;have hlen:=he.1;have v:=he.2
 ·skip
  have Z:=Z
  simp! only[hP] at Z
  refine aS Z λao af aa=>?_;obtain ⟨g1,g2,g3,g4,g5,g6,g7,g8,g9,B,ah,aj,ae,ag,ai⟩:=aa;obtain rfl:=bM hf af;have U:=(T.hp.tU (D:=D)).1.trans hlen.symm;refine wq (Pw K.R.lt g1 g3 (by simp! only[B];exact I.p_) (by simp! only[B];exact I.Ww) g9 (GZ _ _ _ _ g4 g5 g7 g8) ?_)
  simp! only[ai us<|hv.len.trans U.symm]
  have K':FX D C X (aL l) z:=⟨K.F,⟨K.R.1,az (QEn _) K.R.2.1,az (Nat.add_le_add_right (PU (gC 10<|QEn _) _) _) K.R.2.2⟩,K.t⟩;have hX:=HT I r K';refine bA (La (z:=zL D oi (aL l) z) (Ob:=tA D oi X (aL l) z) T lim (by simp! only[dZ];exact U) v K.R K.t (eT.vals (by simp! only[hX];exact hv:bB (Ex (tA D oi X (aL l) z)<|Wl D oi (aL l) z) z.s.heap us xs)) (λak L=>?_) (λfl l2 d' g g' u env z' b=>?_) λl2 g=>by cases g.1)
  ·simp! only[B,ah,ae,ag] at L
   erw[B]
   simp! only[QCX]
   exact Xz hP hf I r K' aj L
  ·have hd:=g.1
   have ab:=g.2.1;have N:=g.2.2;obtain rfl:=hd.fn g';have pe:=b.s.p.nw rfl;have Y:=b.s.st.keep
   have A: ∀c,Wl D oi (aL l) z c->z'.W c:=λc q=>by
    induction q with
    | @own j ys q1 q2 m=>
     clear he v hX g Y q2;subst q1;cases N with
     |some z1 i=>exact b.F.gR T.ow j _ c i (pe▸Em (I.big<|I.Bt _ rfl).1 m) (I.big<|I.Bt _ rfl).1
    |pf p=>exact b.F.pf c p
   have mo:Mon (Ex (tA D oi X (aL l) z) z'.W) z'.s.heap (Ex X.Ob z.W) z'.s.heap:=λc o e n=>⟨e,λq=>n (by
    by_cases w:Wl D oi (aL l) z c
    ·exact .inr<|A c w
    ·exact .inl ⟨q,w⟩)⟩
   have M:=D.P.iS b.F.inv mo λO O=>rfl
   have dk:FR D.P D.G C X.env X.Ob z.φ z.W (aL l') z'.s.heap/\dg z.W z.s.heap z.W z'.s.heap:=by
    clear he k v K' hX g A;induction N with
    |none=>
     have h: ∀a o,z.s.heap.get? a=aA o-> ¬ D.P.PF a->z'.s.heap.get? a=aA o:=λa o e n=>Y a o e λq=>by
      induction q with
      |own q1=>exact ay q1
      |pf q=>exact n q
     exact ⟨K.F.keepsP h M,K.F.CF h⟩
    | @some j _ _ z1 i=>
     have Hq:=(I.big<|I.Bt j rfl);have jl:=Hq.1;have jw:=Hq.2;refine dS (b.F.own j _ i) λc vs' n' e1 e2 e3=>?_
     simp! only[pe] at e1
     have H:=(yr e1).2
     simp! only[fQ]
     refine K.F.ED jw z1 H (K.F.gR r.ow j _ c z1 H jl) (λc' o e nb np=>Y c' o e λq=>?_) M e2<|e3.mon mo;induction q with
     |own q1 _ m=>cases q1;obtain rfl:=bM H m;exact nb rfl
     |pf q=>exact np q
   exact k u {z with s:=z'.s} ⟨dk.1,K.R,az K.t b.s.t⟩ ⟨dk.2,b.s.t,rfl,b.s.e⟩ (Rd.atom (b.rd (λO=>False) λO=>mE) ab)
end
inductive Hn|d (x:Dat)|b (z:Bool)|ds (xs:List Dat)|i (n:Int)|s (x:Str)|f (f:Fl) (l:Ls)|c (x:Dat) (l:Ls)|h (x:Dat) (hs:List Dat)
noncomputable abbrev Hs:=List Hn
noncomputable abbrev Wt (α:Type):=bj->Ls->(α->Ls->Prop)->Prop
noncomputable abbrev Xt (α:Type):=bj->Hs->Ls->(α->Ls->Hs->Prop)->Prop
structure bC {α:Type} (w:Wt α) (x:Xt α):Prop where r: ∀{o hs l} {K:α->Ls->Prop} {k:α->Ls->Hs->Prop} {P:Prop},(w o l K->P)->(∀v l hs,(K v l->P)->k v l hs)->x o hs l k
noncomputable def eO (b:Bool) (p:Prop):Prop:=match b with|true=>p|false=>True
theorem eM {p:Prop} (h:b=aB->p):eO b p:=by induction b;exact trivial;exact h rfl
noncomputable def bc {α:Type} (x:Option α) (f:α->Prop) (g:Prop):Prop:=match x with|some a=>f a|none=>g
section
variable {α β:Type} {P:Prop}
theorem zF {g u:Prop} (h:hZ x f g->P) (r: ∀a,x=aA a->(f a->P)->F a) (i:(g->P)->u):bc x F u:=by
 induction x with
 |none=>exact i h
 |some a=>exact r a rfl h
noncomputable def pD:Hn->Option aK|.d x=>aA x|_=>aF
noncomputable def pB:Hn->Option Bool|.b x=>aA x|_=>aF
noncomputable def pI:Hn->Option Int|.i x=>aA x|_=>aF
noncomputable def lq (p:Hn->Option α) (hs:Hs) (k:α->Hs->Prop):Prop:=match hs with|h::hs=>bc (p h) (λa=>k a hs) True|[]=>True
theorem ny {k:α->Hs->Prop} (f: ∀a hs,k a hs):lq p hs k:=by
 induction hs with
 |nil=>exact trivial
 |cons h hs=>show bc (p h) _ _;cases p h;exact trivial;exact f _ _
noncomputable def ko (p:Hn->Option α) (R:α->Prop) (hs:Hs) (k:α->Hs->Prop):Prop:=lq p hs λa hs=>R a->k a hs
theorem ky {R K:α->Prop} {k:α->Hs->Prop} (h:dC R K->P) (f: ∀a hs,(K a->P)->k a hs):ko p R hs k:=ny λa hs r=>f a hs λq=>h<|.mk r q
noncomputable def tQ (z:Bool) (hs:Hs) (p q:Hs->Prop):Prop:=lq pB hs λb hs=>match b with|true=>z=aB->p hs|false=>z=aE->q hs
theorem vq {p q:Prop} (h:two z p q->P) (f: ∀hs,(p->P)->C hs) (g: ∀hs,(q->P)->Q hs):tQ z hs C Q:=ny λb hs=>by
 induction b
 ·exact λe=>g hs λx=>h<|.inr ⟨e,x⟩
 ·exact λe=>f hs λx=>h<|.inl ⟨e,x⟩
noncomputable def DV (op:kf) (b:Bool) (hs:Hs) (p q:Hs->Prop):Prop:=lq pB hs λz hs=>match z with|true=>b=rf op->p hs|false=>b=(!rf op)->q hs
theorem Jt {p q:Prop} (h:FD op z p q->P) (f: ∀hs,(p->P)->C hs) (g: ∀hs,(q->P)->Q hs):DV op z hs C Q:=ny λb hs=>by
 induction b
 ·exact λe=>g hs λx=>h<|.inr ⟨e,x⟩
 ·exact λe=>f hs λx=>h<|.inl ⟨e,x⟩
noncomputable def Nv (op:iG) (a b:Int) (k:Int->Prop):Prop:=match op with
 |.Add=>k<|a+b
 |.Sub=>k<|a - b
 |.Mult=>ib a+ib b<=134217728->k (a*b)
 |.FloorDiv=>decide (b=0)=aE->r9 a b=aE->k (a.fdiv b)
 |.Mod=>decide (b=0)=aE->k (a.fmod b)
 |.Pow=>decide (0<=b)=aB->(ib a:Int)*b<=134217728->k (a^b.toNat)
 |.LShift=>0<=b->(ib a:Int)+b<=134217728->k (a*2^b.toNat)
 |.RShift=>0<=b->k (a.fdiv<|2^b.toNat)
 |.BitAnd=>k<|jL a b
 |.BitOr=>k<|uP a b
 |.BitXor=>k<|Cg a b
 |_=>True
theorem VB {K k:Int->Prop} (h:HV op a b K->P) (f: ∀c,(K c->P)->k c):Nv op a b k:=by
 induction op with
 |Add=>exact f _ h
 |Sub=>exact f _ h
 |Mult=>exact λc=>f _ λq=>h ⟨c,q⟩
 |FloorDiv=>exact λc d=>f _ λq=>h ⟨of_decide_eq_false c,d,q⟩
 |Mod=>exact λc=>f _ λq=>h ⟨of_decide_eq_false c,q⟩
 |Pow=>exact λc d=>f _ λq=>h ⟨d5 c,d,q⟩
 |LShift=>exact λc d=>f _ λq=>h ⟨c,d,q⟩
 |RShift=>exact λc=>f _ λq=>h ⟨c,q⟩
 |BitAnd=>exact f _ h
 |BitOr=>exact f _ h
 |BitXor=>exact f _ h
 |_=>exact trivial
noncomputable def J8 (l:Ls) (op:iG) (u w:V) (hs:Hs) (k:aK->Hs->Prop):Prop:=bc (hG u) (λa=>bc (hG w) (λb=>Nv op a b λc=>k (.int c) hs)<|ko pD (fe (aL l) op u w) hs k)<|ko pD (fe (aL l) op u w) hs k
theorem RJ {u w:V} {K} {k:aK->Hs->Prop} (h:Di l op u w K->P) (f: ∀a hs,(K a->P)->k a hs):J8 l op u w hs k:=zF h (λO O h=>zF h (λO O h=>VB h λc h=>f _ _ h) (ky · f)) (ky · f)
noncomputable def LL (op:fU) (a b:Int) (k:Bool->Prop):Prop:=match op with
 |.Eq=>k<|a==b
 |.NotEq=>k<|a !=b
 |.Lt=>k<|decide (a<b)
 |.LtE=>k<|decide (a<=b)
 |.Gt=>k<|decide (a>b)
 |.GtE=>k<|decide (a>=b)
 |_=>True
theorem UK {K k:Bool->Prop} (h:Fn op a b K->P) (f: ∀c,(K c->P)->k c):LL op a b k:=by
 induction op<;>first|exact f _ h|exact trivial
noncomputable def Ac (l:Ls) (op:fU) (u w:V) (hs:Hs) (k:Bool->Hs->Prop):Prop:=bc (hG u) (λa=>bc (hG w) (λb=>LL op a b λc=>k c hs)<|ko pB (gY (aL l) op u w) hs k)<|ko pB (gY (aL l) op u w) hs k
theorem BQ {u w:V} {K} {k:Bool->Hs->Prop} (h:ve l op u w K->P) (f: ∀a hs,(K a->P)->k a hs):Ac l op u w hs k:=zF h (λO O h=>zF h (λO O h=>UK h λc h=>f _ _ h) (ky · f)) (ky · f)
theorem cF {K k:α->Prop} (h:hZ x K False->P) (f: ∀a,(K a->P)->k a):bc x k True:=zF h (λa O=>f a) λO=>trivial
noncomputable def ej:Ls->Nat->Sl->(Ls->Prop)->Prop
 |[],i,v,k=>k [(i,v)]
 |(j,s)::l,i,v,k=>match bt j i with
  |true=>k<|(j,v)::l
  |false=>ej l i v λl=>k<|(j,s)::l
theorem WV: ∀l i v k,ej l i v k=k (cL l i v):=by
 intro O;induction O with
 |nil=>exact λO O O=>rfl
 |cons O l d=>
  obtain ⟨j,s⟩:=O
  exact λi v k=>by
   dsimp only[ej,cL];cases bt j i
   ·exact d i v _
   ·rfl
theorem gP {k:Ls->Prop} (h:k (cL l i v)):ej l i v k:=by simp only[WV];exact h
noncomputable def E2:List Nat->List aK->Ls->(Ls->Prop)->Prop
 |i::is,x::xs,l,k=>ej l i (.val x) λl=>E2 is xs l k
 |_,_,l,k=>k l
theorem FL: ∀{o:List Nat} {xs:List aK} {l:Ls} {k:Ls->Prop},k ((o.zip xs).foldl (λl p=>cL l p.1<|.val p.2) l)->E2 o xs l k
 |[],_,_,_,h=>h
 |_::_,[],_,_,h=>h
 |i::o,x::xs,_,_,h=>gP<|FL h
noncomputable def ju:Ls->(Ls->Prop)->Prop
 |[],k=>k []
 |(j,s)::l,k=>ju l λl=>k<|(j,s)::l
theorem Yt: ∀l k,ju l k=k l:=by
 intro O;induction O with
 |nil=>exact λO=>rfl
 |cons O l i=>obtain ⟨j,s⟩:=O;exact λk=>i _
theorem l5 {k:Ls->Prop} (h:k l):ju l k:=by simp only[Yt];exact h
noncomputable def AX (t:cQ) (x:aK) (l:Ls) (k:Ls->Prop):Prop:=match t with
 |.one i=>ej l i (.val x) k
 |.tup o=>match x with
  |.tuple R|.list R=>eO (bt R.length o.length)<|E2 o R l k
  |_=>True
theorem GQ {K k:Ls->Prop} (h:xX t x l K->P) (f: ∀l,(K l->P)->k l):AX t x l k:=by
 induction t with
 |one i=>exact gP<|f _ h
 |tup o=>cases x with
  |tuple R=>exact eM λe=>FL<|f _ λq=>h ⟨uO e,q⟩
  |list R=>exact eM λe=>FL<|f _ λq=>h ⟨uO e,q⟩
  |_=>exact trivial
inductive fw {α:Type}:List (Wt α)->List (Xt α)->Prop|nil:fw [] []|cons {w ws x xs}:bC w x->fw ws xs->fw (w::ws) (x::xs)
noncomputable def lX:List (Xt V)->Xt (List V)
 |[],_,s,l,k=>k [] l s
 |e::es,o,s,l,k=>e o s l λv l s=>lX es o s l λm l s=>k (v::m) l s
theorem GB (h:fw es xs):bC (lW es) (lX xs):=by
 induction h with
 |nil=>exact ⟨λh f=>f _ _ _ h⟩
 |cons a _ i=>exact ⟨λh f=>a.r h λv l s h=>i.r h λm l s h=>f _ _ _ h⟩
noncomputable def DT:List V->(List aK->Prop)->Prop
 |[],k=>k []
 |v::vs,k=>bc (jv v) (λd=>DT vs λA=>k<|d::A) True
theorem Ru: ∀{vs:List V} {K k:List aK->Prop},(zK vs K->P)->(∀a,(K a->P)->k a)->DT vs k:=by
 intro vs;induction vs with
 |nil=>exact λh f=>f _ h
 |cons v vs i=>exact λh f=>cF h λa h=>i h λO h=>f _ h
noncomputable def dX (es:List (Xt V)):Xt (List aK):=λo s l k=>lX es o s l λv l s=>DT v λd=>k d l s
theorem mi (h:fw es xs):bC (dW es) (dX xs):=⟨λq f=>(GB h).r q λO O O q=>Ru q λO q=>f _ _ _ q⟩
noncomputable def aX:List (Xt Bool)->Xt Bool
 |[],_,s,l,k=>k aB l s
 |t::ts,o,s,l,k=>t o s l λz l s=>tQ z s (λs=>aX ts o s l k) λs=>k aE l s
theorem RS (h:fw ts xs):bC (aW ts) (aX xs):=by
 induction h with
 |nil=>exact ⟨λh f=>f _ _ _ h⟩
 |cons a _ i=>exact ⟨λh f=>a.r h λv l hs h=>vq h (λhs h=>i.r h f) λhs h=>f _ _ _ h⟩
noncomputable def bX (op:kf):List (Xt Bool)->Xt Bool
 |[],_,s,l,k=>k (!rf op) l s
 |t::ts,o,s,l,k=>t o s l λb l s=>DV op b s (λs=>k (rf op) l s) λs=>bX op ts o s l k
theorem Wr (h:fw ts xs):bC (AZ op ts) (bX op xs):=by
 induction h with
 |nil=>exact ⟨λh f=>f _ _ _ h⟩
 |cons a _ i=>exact ⟨λh f=>a.r h λv l hs h=>Jt h (λhs h=>f _ _ _ h) λhs h=>i.r h f⟩
noncomputable def VT (f:Fl) (p:Prop) (k:Fl->Prop):Prop:=match f with|.next=>p|f=>k f
noncomputable def sX:List (Xt Fl)->Xt Fl
 |[],_,A,l,k=>k .next l A
 |s::ss,o,A,l,k=>s o A l λf l A=>VT f (sX ss o A l k) λf=>k f l A
theorem oY (h:fw ss xs):bC (sW ss) (sX xs):=by
 induction h with
 |nil=>exact ⟨λh f=>f _ _ _ h⟩
 |cons a _ i=>exact ⟨λh f=>a.r h λv l s h=>by induction v with
  |next=>exact i.r h f
  |_=>exact f _ _ _ h⟩
end
noncomputable abbrev XE:=Xt V
noncomputable abbrev XT:=Xt Bool
noncomputable abbrev XS:=Xt Fl
noncomputable abbrev XI:=bj->Bool->Hs->Ls->(List aK->Ls->Hs->Prop)->Prop
structure qX (w:I) (x:XI):Prop where r: ∀{o f hs l} {K:List aK->Ls->Prop} {k:List aK->Ls->Hs->Prop} {P:Prop},(w o f l K->P)->(∀v l hs,(K v l->P)->k v l hs)->x o f hs l k
section
variable {P:Prop}
noncomputable def X.ret (v:V):XE:=λO s l k=>k v l s
theorem x5:bC (λO l K=>K v l) (X.ret v):=⟨λq f=>f _ _ _ q⟩
noncomputable def X.aC (i:Nat):XE:=λO s l k=>bc (kL (aL l) i) (λv=>k v l s) True
theorem a_ {i}:bC (E.aC i) (X.aC i):=⟨λq f=>cF q λO=>f _ _ _⟩
noncomputable def X.qJ (i:Nat):XE:=λO s l k=>bc (gj<|aL l i) (λx=>ej l i .unb λl=>k (.d<|.list x) l s) True
theorem YC {i}:bC (E.qJ i) (X.qJ i):=⟨λq f=>cF q λO q=>gP<|f _ _ _ q⟩
noncomputable def X.aH (op:iG) (A B:XE):XE:=λo s l k=>A o s l λu l s=>B o s l λw l s=>J8 l op u w s λd s=>k (.d d) l s
theorem Jv {op} (s:bC a A) (hb:bC b B):bC (E.aH op a b) (X.aH op A B):=⟨λq f=>s.r q λO O O q=>hb.r q λO O O q=>RJ q λO O=>f _ _ _⟩
noncomputable def X.neg (A:XE):XE:=λo s l k=>A o s l λu l s=>bc (hG u) (λi=>k (.d<|.int (-i)) l s) True
theorem Rw (s:bC a A):bC (E.neg a) (X.neg A):=⟨λq f=>s.r q λO O O q=>cF q λO=>f _ _ _⟩
noncomputable def X.inv (A:XE):XE:=λo s l k=>A o s l λu l s=>bc (hG u) (λi=>k (.d<|.int<|QDr i) l s) True
theorem d_ (s:bC a A):bC (E.inv a) (X.inv A):=⟨λq f=>s.r q λO O O q=>cF q λO=>f _ _ _⟩
noncomputable def X.Bd (op:fU) (A B:XE):XT:=λo s l k=>A o s l λu l s=>B o s l λw l s=>Ac l op u w s λc s=>k c l s
theorem RI {op} (s:bC a A) (hb:bC b B):bC (T.cmp op a b) (X.Bd op A B):=⟨λq f=>s.r q λO O O q=>hb.r q λO O O q=>BQ q λO O=>f _ _ _⟩
noncomputable def X.ofT (Y:XT):XE:=λo s l k=>Y o s l λb l s=>k (.d<|.bool b) l s
theorem W9 {op} (s:bC a A) (hb:bC b B):bC (E.cmp op a b) (X.ofT<|X.Bd op A B):=⟨λq f=>s.r q λO O O q=>hb.r q λO O O q=>BQ q λO O=>f _ _ _⟩
noncomputable def X.ite (Y:XT) (A B:XE):XE:=λo s l k=>Y o s l λz l s=>tQ z s (λs=>A o s l k) λs=>B o s l k
theorem X9 (Z:bC t Y) (s:bC a A) (hb:bC b B):bC (E.ite t a b) (X.ite Y A B):=⟨λq f=>Z.r q λO O O q=>vq q (λO q=>s.r q f) λO q=>hb.r q f⟩
noncomputable def X.list (e:List XE):XE:=λo s l k=>dX e o s l λx l s=>eO (eV x.length 16777216)<|k (.d<|.list x) l s
theorem EN (h:fw es Es):bC (E.list es) (X.list Es):=⟨λq f=>(mi h).r q λO O O q=>eM λe=>f _ _ _ λr=>q ⟨e,r⟩⟩
noncomputable def X.tup (e:List XE):XE:=λo s l k=>dX e o s l λx l s=>eO (eV x.length 16777216)<|k (.d<|.tuple x) l s
theorem QDO (h:fw es Es):bC (E.tup es) (X.tup Es):=⟨λq f=>(mi h).r q λO O O q=>eM λe=>f _ _ _ λr=>q ⟨e,r⟩⟩
noncomputable def To:Hn->Option (List aK)|.ds x=>aA x|_=>aF
noncomputable def X.comp (e:E) (t:cQ) (J:XI) (ts:List T):XE:=λo s l k=>J o aE s l λx l s=>lq To s λY s=>x.length<=16777216->(∀K:List aK->Prop,K Y->cW e t ts o (oj t<|oR l) x K)->k (.d<|.list Y) l s
theorem O6 {tg} (i:qX it J):bC (E.comp e tg it ts) (X.comp e tg J ts):=⟨λq f=>i.r q λO O O q=>ny λO O h H=>f _ _ _ λr=>q ⟨h,H _ r⟩⟩
noncomputable def X.au (A B:XE):XE:=λo s l k=>A o s l λu l s=>B o s l λw l s=>bc (hG w) (λi=>ko pD (cC (aL l) u i) s λd s=>k (.d d) l s) True
theorem QDA (s:bC a A) (hb:bC b B):bC (E.au a b) (X.au A B):=⟨λq f=>s.r q λO O O q=>hb.r q λO O O q=>cF q λO q=>ky q λO O=>f _ _ _⟩
noncomputable def X.dM (A B C D:XE):XE:=λo s l k=>A o s l λu l s=>B o s l λx l s=>C o s l λy l s=>D o s l λz l s=>ko pD (gH (aL l) u x y z) s λd s=>k (.d d) l s
theorem VU {D:XE} (s:bC a A) (hb:bC b B) (W:bC c C) (hd:bC d D):bC (E.dM a b c d) (X.dM A B C D):=⟨λq f=>s.r q λO O O q=>hb.r q λO O O q=>W.r q λO O O q=>hd.r q λO O O q=>ky q λO O=>f _ _ _⟩
noncomputable def X.call (g:Nat) (e:List XE):XE:=λo s l k=>dX e o s l λx l s=>ko pD (o.F g x) s λz s=>k (.d z) l s
theorem QCE {g} (h:fw es Es):bC (E.call g es) (X.call g Es):=⟨λq f=>(mi h).r q λO O O q=>ky q λO O=>f _ _ _⟩
noncomputable def pC:Hn->Option (aK×Ls)|.c x l=>aA (x,l)|_=>aF
noncomputable def LP (s:Sl):Option Nat:=match s with|.clo f=>aA f|_=>aF
theorem QCG (h:(match LP s with|some f=>bt f g|none=>aE)=aB):s=.clo g:=by
 induction s with
 |clo f=>exact QGz _<|uO h
 |_=>exact bq h
noncomputable def X.jH (g i:Nat) (e:List XE):XE:=λo s l k=>eO (match LP (aL l i) with|some f=>bt f g|none=>aE) (dX e o s l λR l s=>lq pC s λr s=>match r with|(x,l')=>o.L g R l x l'->ju l' λl=>k (.d x) l s)
theorem WM {g i} (h:fw es Es):bC (E.jH g i es) (X.jH g i Es):=⟨λq f=>eM λc=>(mi h).r (λr=>q ⟨QCG c,r⟩) λO O O q=>ny λO O r=>l5<|f _ _ _ λs=>q<|.mk r s⟩
noncomputable def X.bi (b:Bi) (e:List XE):XE:=λo s l k=>lX e o s l λv l s=>ko pD (cn (aL l) b v) s λd s=>k (.d d) l s
theorem VS {b} (h:fw es Es):bC (E.bi b es) (X.bi b Es):=⟨λq f=>(GB h).r q λO O O q=>ky q λO O=>f _ _ _⟩
theorem Me {α:Type} {x:Option α} (h:x.isSome=aB): ∃a,x=aA a:=by cases x;exact bq h;exact ⟨_,rfl⟩
noncomputable def Kh (m:Sm) (v:V):Bool:=match m with|.bits=>(hG v).isSome|_=>(zG v).isSome
theorem e_ {m v} (h:Kh m v=aB):FW m v:=by
 induction m with
 |bits=>exact (Me h).imp λO=>ux
 |_=>exact (Me h).imp λO=>Iy
noncomputable def X.sm (m:Sm) (A:XE) (e:List XE):XE:=λo s l k=>A o s l λu l s=>eO (Kh m u)<|lX e o s l λv l s=>ko pD (iu (aL l) m u v) s λd s=>k (.d d) l s
theorem Ua {m} (s:bC a A) (h:fw es Es):bC (E.sm m a es) (X.sm m A Es):=⟨λq f=>s.r q λO O O q=>eM λc=>(GB h).r (λr=>q ⟨e_ c,r⟩) λO O O q=>ky q λO O=>f _ _ _⟩
noncomputable def X.qF (A:XE) (y z:aG):XE:=λo s l k=>A o s l λu l s=>bc (zG u) (λx=>eO (bt y.length 1 && bt z.length 0)<|x.length<=4096->k (.d<|.str<|Cj x y z) l s) True
theorem QAi {y z} (s:bC a A):bC (E.qF a y z) (X.qF A y z):=⟨λq f=>s.r q λO O O q=>cF q λO q=>eM λc h=>f _ _ _ λr=>q<|kr h (uO (f7.mp c).1) (uO (f7.mp c).2) r⟩
noncomputable def X.iN (n:Bool) (A:XE):XT:=λo s l k=>A o s l λu l s=>bc (jv u) (λd=>lq pB s λb s=>match b with|true=>d=.none->k (aB !=n) l s|false=>d≠ .none->k (aE !=n) l s) True
theorem PN {d:aK} {k:Bool->Hs->Prop} {p q:Prop} (h:d=.none/\p\/d≠ .none/\q->P) (f: ∀hs,(p->P)->k aB hs) (g: ∀hs,(q->P)->k aE hs):lq pB hs λb hs=>match b with|true=>d=.none->k aB hs|false=>d≠ .none->k aE hs:=ny λb hs=>by
 cases b
 ·exact λe=>g _ λr=>h<|.inr ⟨e,r⟩
 ·exact λe=>f _ λr=>h<|.inl ⟨e,r⟩
theorem QDe {n} (s:bC a A):bC (T.iN n a) (X.iN n A):=⟨λ{o hs l K k P} q f=>s.r q λO l O q=>cF q λd q=>PN (k:=λb hs=>k (b !=n) l hs) q (λO=>f _ _ _) λO=>f _ _ _⟩
theorem QAK {n} (s:bC a A):bC (E.iN n a) (X.ofT<|X.iN n A):=⟨λ{o hs l K k P} q f=>s.r q λO l O q=>cF q λd q=>PN (k:=λb hs=>k (.d<|.bool<|b !=n) l hs) q (λO=>f _ _ _) λO=>f _ _ _⟩
noncomputable def X.qE (A:XE):XE:=λo s l k=>A o s l λu l s=>bc (hG u) (λi=>k (.d<|.bool<|o.b1 i) l s) True
theorem QBO (s:bC a A):bC (E.qE a) (X.qE A):=⟨λq f=>s.r q λO O O q=>cF q λO=>f _ _ _⟩
noncomputable def X.qB (A:XE):XE:=λo s l k=>A o s l λu l s=>bc (hG u) (λi=>k (.d<|o.b3 i) l s) True
theorem Vi (s:bC a A):bC (E.qB a) (X.qB A):=⟨λq f=>s.r q λO O O q=>cF q λO=>f _ _ _⟩
noncomputable def X.pV (x:aG):XE:=λo s l k=>ko pI (o.gi x) s λi s=>k (.d<|.int i) l s
theorem QCS {x}:bC (E.pV x) (X.pV x):=⟨λq f=>ky q λO O=>f _ _ _⟩
noncomputable def Fp (v:V):Bool:=match v with|.inst=>aB|_=>aE
theorem PL {p:Prop} (h:Fp v=aB) (r:p):Ag v p:=by cases v<;>first|exact r|(exact bq h)
noncomputable def pH:Hn->Option (aK×List aK)|.h x l=>aA (x,l)|_=>aF
noncomputable def rx (s:Sl):Bool:=match s with|.emp=>aB|_=>aE
theorem yP (h:rx s=aB):s=.emp:=by cases s<;>first|rfl|(exact bq h)
noncomputable def uF (s:Sl):Bool:=match s with|.inst=>aB|_=>aE
theorem wK (h:uF s=aB):s=.inst:=by cases s<;>first|rfl|(exact bq h)
noncomputable def X.jr (m:Nat) (A:XE) (e:List XE):XE:=λo s l k=>A o s l λu l s=>eO (Fp u)<|dX e o s l λR l s=>bc (gj<|aL l aT) (λH=>eO (rx<|aL l bQ) (lq pH s λr s=>match r with|(x,H')=>o.H m R H x H'->ej l aT (.own H') λl=>k (.d x) l s)) True
theorem MG {m} (Q:bC a A) (h:fw es Es):bC (E.jr m a es) (X.jr m A Es):=⟨λq f=>Q.r q λO O O q=>eM λc=>(mi h).r (λr=>q<|PL c r) λO O O q=>cF q λO q=>eM λc=>ny λO O r=>gP<|f _ _ _ λs=>q ⟨yP c,.mk r s⟩⟩
noncomputable def X.jU (m:Nat) (A:XE) (e:List XE):XE:=λo s l k=>A o s l λu l s=>eO (Fp u)<|dX e o s l λx l s=>bc (gj<|aL l aT) (λH=>ko pD (o.R m x H) s λz s=>k (.d z) l s) True
theorem LF {m} (s:bC a A) (h:fw es Es):bC (E.jU m a es) (X.jU m A Es):=⟨λq f=>s.r q λO O O q=>eM λc=>(mi h).r (λr=>q<|PL c r) λO O O q=>cF q λO q=>ky q λO O=>f _ _ _⟩
noncomputable def X.conv (b:Bool) (A:XE):XE:=λo s l k=>eO (uF<|aL l 0)<|A o s l λu l s=>bc (zG u) (λx=>gG b x=aB->k (.d<|.str x) l s) True
theorem QCo {b} (s:bC a A):bC (E.conv b a) (X.conv b A):=⟨λq f=>eM λc=>s.r (λr=>q ⟨wK c,r⟩) λO O O q=>cF q λO q e=>f _ _ _ λr=>q ⟨e,r⟩⟩
noncomputable def X.fE:XE:=λO s l k=>eO (uF<|aL l 0)<|k (.bor aT) l s
theorem Ul:bC E.fE X.fE:=⟨λq f=>eM λc=>f _ _ _ λr=>q ⟨wK c,r⟩⟩
noncomputable def X.not (Y:XT):XT:=λo s l k=>Y o s l λb l s=>k (!b) l s
theorem TB (a:bC t Y):bC (T.not t) (X.not Y):=⟨λq f=>a.r q λO O O=>f _ _ _⟩
noncomputable def Fs (l:Ls) (v:V) (hs:Hs) (k:Bool->Hs->Prop):Prop:=match v with
 |.d (.bool b)=>k b hs
 |.d (.int i)=>k (i !=0) hs
 |v=>ko pB (mY (aL l) v) hs k
theorem PG {K:Bool->Prop} {k:Bool->Hs->Prop} (h:dC (mY (aL l) v) K->P) (f: ∀a hs,(K a->P)->k a hs):Fs l v hs k:=by
 induction v with
 |d x=>cases x with
  |bool b=>exact f _ _ λq=>h<|.mk .bool q
  |int i=>exact f _ _ λq=>h<|.mk .int q
  |_=>exact ky h f
 |_=>exact ky h f
noncomputable def X.MD (i:Nat):XT:=λO s l k=>bc (kL (aL l) i) (λv=>Fs l v s λb s=>k b l s) True
theorem t_ {i}:bC (T.aC i) (X.MD i):=⟨λq f=>cF q λO q=>PG q λO O=>f _ _ _⟩
noncomputable def NO:aK->Option Bool|.bool b=>aA b|_=>aF
theorem QDk {b} (h:NO d=aA b):d=.bool b:=by cases d<;>cases h;rfl
noncomputable def X.eN (n b:Bool) (A:XE):XT:=λo s l k=>A o s l λu l s=>bc (jv u) (λd=>bc (NO d) (λc=>k ((c==b) !=n) l s) True) True
theorem wL {α:Type} {x:Option α} {k:α->Prop} (f: ∀a,x=aA a->k a):bc x k True:=by cases x;exact trivial;exact f _ rfl
theorem g_ {n b} (s:bC a A):bC (T.eN n b a) (X.eN n b A):=⟨λq f=>s.r q λO O O q=>cF q λO q=>wL λO e=>f _ _ _ λr=>q<|ax _ (QDk e) r⟩
noncomputable def X.Ow (A:XE):XT:=λo s l k=>A o s l λu l s=>bc (hG u) (λO=>k aE l s) True
theorem QBK (s:bC a A):bC (T.yU a) (X.Ow A):=⟨λq f=>s.r q λO O O q=>cF q λO=>f _ _ _⟩
end
section
variable {P:Prop}
noncomputable def Am (n:Int):Bool:=decide (n<2^24) && decide (-(2^24)<n)
theorem vi (h:Am n=aB):n<2^24/\ -(2^24)<n:=⟨d5 (f7.mp h).1,d5 (f7.mp h).2⟩
noncomputable def l9 {α:Type} (o:Option α) (k:α->Prop):Prop:=o.rec True k
theorem nB {α:Type} {o:Option α} {k:α->Prop} (f: ∀a,o=aA a->k a):l9 o k:=by
 revert f;induction o with
 |none=>exact λO=>trivial
 |some a=>exact λf=>f a rfl
noncomputable def B4 {α:Type} (l:List α):Option α:=l.rec aF λa t O=>t.rec (aA a) λO O O=>aF
theorem HK {α:Type} {l:List α} {a:α} (h:B4 l=aA a):l=[a]:=by
 revert h;induction l with
 |nil=>exact λh=>ay h
 |cons b t _=>induction t with
  |nil=>exact λh=>QGz (· ::[])<|kB h
  |cons _ _ _=>exact λh=>ay h
noncomputable def Bf {α:Type} (l:List α):Option (α×α):=l.rec aF λa t O=>(B4 t).map λb=>(a,b)
theorem G9 {α:Type} {l:List α} {a:α×α} (h:Bf l=aA a):l=[a.1,a.2]:=by
 revert h;induction l with
 |nil=>exact λh=>ay h
 |cons b t _=>exact λh=>(lL.mp h).elim λc q=>q.2▸QGz (b:: ·) (HK q.1)
noncomputable def uI (d:aK):Option Int:=d.casesOn (motive_1:=λO=>Option Int) aF (λO=>aF) (λn=>aA n) (λO=>aF) (λO=>aF) (λO=>aF) λO=>aF
theorem vX:uI d=aA n->d=.int n:=d.casesOn (λh=>ay h) (λO h=>ay h) (λO h=>QGz cA<|kB h) (λO h=>ay h) (λO h=>ay h) (λO h=>ay h) λO h=>ay h
noncomputable def Lg (d:aK):Option (List aK):=d.casesOn (motive_1:=λO=>Option<|List aK) aF (λO=>aF) (λO=>aF) (λO=>aF) (λO=>aF) (λO=>aF) λn=>aA n
theorem c_:Lg d=aA n->d=.list n:=d.casesOn (λh=>ay h) (λO h=>ay h) (λO h=>ay h) (λO h=>ay h) (λO h=>ay h) (λO h=>ay h) λO h=>QGz DA<|kB h
noncomputable def in1 (xs:List aK) (k:Int->Prop):Prop:=l9 (B4 xs) λd=>l9 (uI d) k
theorem QAs {k:Int->Prop} (f: ∀n,xs=[.int n]->k n):in1 xs k:=nB λO e=>nB λn C=>f n<|vX C▸HK e
noncomputable def Km (xs:List aK) (k:Int->Int->Prop):Prop:=l9 (Bf xs) λp=>l9 (uI p.1) λm=>l9 (uI p.2) λn=>k m n
theorem RV {k:Int->Int->Prop} (f: ∀m n,xs=[.int m,.int n]->k m n):Km xs k:=nB λO e=>nB λm C=>nB λn p=>f m n<|vX C▸vX p▸G9 e
noncomputable def X.jA (A:XE):XI:=λo O s l k=>dX [A] o s l λd l s=>in1 d λn=>Am n=aB->k ((bg n.toNat).map λ(i:Nat)=>cA (i:Int)) l s
theorem Tv (s:bC a A):qX (I.jA a) (X.jA A):=⟨λq f=>(mi<|.cons s .nil).r q λO O O q=>QAs λn e c=>f _ _ _ λr=>q<|kP n e ((vi c).1) ((vi c).2) r⟩
noncomputable def X.rv (A B:XE):XI:=λo O s l k=>dX [A,B] o s l λd l s=>Km d λm n=>Am n=aB->Am m=aB->k ((bg (n - m).toNat).map λ(i:Nat)=>cA<|m+(i:Int)) l s
theorem SX (s:bC a A) (hb:bC b B):qX (I.rv a b) (X.rv A B):=⟨λq f=>(mi<|.cons s<|.cons hb .nil).r q λO O O q=>RV λm n e c d=>f _ _ _ λr=>q<|sa m n e ((vi c).1) ((vi c).2) ((vi d).1) ((vi d).2) r⟩
noncomputable def inl (xs:List aK) (k:List aK->Prop):Prop:=l9 (B4 xs) λd=>l9 (Lg d) k
theorem QAn {k:List aK->Prop} (f: ∀n,xs=[.list n]->k n):inl xs k:=nB λO e=>nB λn C=>f n<|c_ C▸HK e
noncomputable def X.rev (A:XE):XI:=λo O s l k=>dX [A] o s l λd l s=>inl d λx=>k x.reverse l s
theorem UN (s:bC a A):qX (I.rev a) (X.rev A):=⟨λq f=>(mi<|.cons s .nil).r q λO O O q=>QAn λn e=>f _ _ _ λr=>q<|ax n e r⟩
noncomputable def GH:aK->Option (List aK)|.list xs=>aA xs|.tuple xs=>aA xs|.str x=>aA (m6 x)|_=>aF
theorem Lh {xs} (h:GH d=aA xs):vu r (.d d) xs:=by
 cases d with
 |list x=>cases h;exact .q<|.l .d
 |tuple x=>cases h;exact .q .t
 |str x=>cases h;exact .s
 |_=>exact ay h
noncomputable def X.F5 (i:Nat):XI:=λO f s l k=>match aL l i with
 |.val x=>bc (GH x) (λR=>k R l s) True
 |.own R=>eO (!f)<|k R l s
 |_=>True
theorem Tf {i}:qX (I.aC i) (X.F5 i):=⟨λ{o f s l K k P} q g=>by
 unfold I.aC at q;unfold X.F5;induction h:aL l i with
 |val x=>rw[h] at q;exact wL λR e=>g _ _ _ λr=>q<|.mk (Lh e) r
 |own R=>rw[h] at q;exact eM λc=>g _ _ _ λr=>q ⟨(uW _).mp c,r⟩
 |_=>exact trivial⟩
noncomputable def X.jZ (A:XE):XI:=λo O s l k=>A o s l λv l s=>bc (jv v) (λd=>bc (GH d) (λx=>k x l s) True) True
theorem SK (s:bC a A):qX (I.jZ a) (X.jZ A):=⟨λq f=>s.r q λO O O q=>cF q λO q=>wL λO e=>f _ _ _ λr=>q<|.mk (Lh e) r⟩
noncomputable def X.Mp:XI:=λO f s l k=>eO (uF<|aL l 0)<|eO (!f|| !rx (aL l bQ)) (bc (gj (aL l aT)) (λx=>k x l s) True)
theorem QAy (d:(!f|| !rx s)=true) (e:f=true) (h:s=.emp):False:=by rw[e,h] at d;exact bq d
theorem QCc:qX I.fE X.Mp:=⟨λq g=>eM λc=>eM λd=>cF (λr=>q ⟨wK c,QAy d,r⟩) λO=>g _ _ _⟩
noncomputable def X.asg (t:cQ) (A:XE):XS:=λo s l k=>A o s l λv l s=>bc (jv v) (λx=>AX t x l λl=>k .next l s) True
theorem yI {tg} (s:bC a A):bC (S.asg tg a) (X.asg tg A):=⟨λq f=>s.r q λO O O q=>cF q λO q=>GQ q λO=>f _ _ _⟩
noncomputable def Dr:aK->Option (List aK)|.list xs=>aA xs|_=>aF
theorem Np {xs} (h:Dr d=aA xs):d=.list xs:=by cases d<;>cases h;rfl
noncomputable def X.own (i:Nat) (A:XE):XS:=λo s l k=>A o s l λv l s=>bc (jv v) (λx=>bc (Dr x) (λR=>ej l i (.own R) λl=>k .next l s) True) True
theorem UC {i} (s:bC a A):bC (S.own i a) (X.own i A):=⟨λq f=>s.r q λO O O q=>cF q λO q=>wL λO e=>gP<|f _ _ _ λr=>q<|ax _ (Np e) r⟩
noncomputable def Je (op:iG) (a b:Int) (k:Int->Prop):Prop:=match op with
 |.Add=>k<|a+b
 |.Sub=>k<|a - b
 |.LShift=>0<=b->(ib a:Int)+b<=134217728->k (a*2^b.toNat)
 |.RShift=>0<=b->k (a.fdiv<|2^b.toNat)
 |_=>True
theorem Xc {K k:Int->Prop} (h:Dd op a b K->P) (f: ∀c,(K c->P)->k c):Je op a b k:=by
 induction op with
 |Add=>exact f _ h
 |Sub=>exact f _ h
 |LShift=>exact λc d=>f _ λq=>h ⟨c,d,q⟩
 |RShift=>exact λc=>f _ λq=>h ⟨c,q⟩
 |_=>exact trivial
noncomputable def X.aug (i:Nat) (op:iG) (A:XE):XS:=λo s l k=>bc (GI<|aL l i) (λa=>A o s l λv l s=>bc (hG v) (λb=>Je op a b λc=>ej l i (.val<|.int c) λl=>k .next l s) True) True
theorem o_ {i op} (s:bC a A):bC (S.aug i op a) (X.aug i op A):=⟨λq f=>cF q λO q=>s.r q λO O O q=>cF q λO q=>Xc q λO q=>gP<|f _ _ _ q⟩
noncomputable def M8:aK->Bool|.none=>aB|.str _=>aB|_=>aE
theorem QCy (h:M8 d=aB):d=.none\/ ∃y,d=.str y:=by cases d<;>first|exact .inl rfl|exact .inr ⟨_,rfl⟩|(exact bq h)
noncomputable def X.expr (A:XE):XS:=λo s l k=>A o s l λv l s=>bc (jv v) (λx=>eO (M8 x)<|k .next l s) True
theorem Wg (s:bC a A):bC (S.expr a) (X.expr A):=⟨λq f=>s.r q λO O O q=>cF q λO q=>eM λc=>f _ _ _ λr=>q ⟨QCy c,r⟩⟩
noncomputable def X.app (i:Nat) (A:XE):XS:=λo s l k=>bc (gj<|aL l i) (λO=>A o s l λv l s=>bc (jv v) (λx=>bc (gj<|aL l i) (λR=>R.length<16777216->ej l i (.own<|R++[x]) λl=>k .next l s) True) True) True
theorem Xl {i} (s:bC a A):bC (S.app i a) (X.app i A):=⟨λq f=>cF q λO q=>s.r q λO O O q=>cF q λO q=>cF q λO q c=>gP<|f _ _ _ λr=>q ⟨c,r⟩⟩
noncomputable def X.qM (A:XE):XS:=λo s l k=>eO (uF<|aL l 0)<|bc (gj<|aL l aT) (λO=>A o s l λv l s=>bc (jv v) (λx=>bc (gj<|aL l aT) (λR=>eO (rx<|aL l bQ)<|R.length<16777216->ej l aT (.own<|R++[x]) λl=>k .next l s) True) True) True
theorem RO (s:bC a A):bC (S.qM a) (X.qM A):=⟨λq f=>eM λc=>cF (λr=>q ⟨wK c,r⟩) λO q=>s.r q λO O O q=>cF q λO q=>cF q λO q=>eM λc d=>gP<|f _ _ _ λr=>q ⟨yP c,d,r⟩⟩
noncomputable def X.qZ (A:XE):XS:=λo s l k=>A o s l λv l s=>bc (jv v) (λx=>bc (Dr x) (λY=>eO (uF<|aL l 0)<|bc (gj<|aL l aT) (λR=>eO (rx<|aL l bQ)<|R.length+Y.length<=16777216->ej l aT (.own Y) λl=>k .next l s) True) True) True
theorem TX (s:bC a A):bC (S.qZ a) (X.qZ A):=⟨λq f=>s.r q λO O O q=>cF q λO q=>wL λO e=>eM λc=>cF (λr=>q<|gc _ (Np e) (wK c) r) λO q=>eM λc d=>gP<|f _ _ _ λr=>q ⟨yP c,d,r⟩⟩
noncomputable def X.qe (i:Nat):XS:=λO s l k=>bc (gj<|aL l i) (λx=>x.length<=16777216->ej l i (.own x.reverse) λl=>k .next l s) True
theorem Xr {i}:bC (S.qe i) (X.qe i):=⟨λq f=>cF q λO q c=>gP<|f _ _ _ λr=>q ⟨c,r⟩⟩
noncomputable def X.set (i:Nat) (B A:XE):XS:=λo s l k=>A o s l λv l s=>bc (jv v) (λx=>bc (gj<|aL l i) (λO=>B o s l λj l s=>bc (hG j) (λj=>bc (gj<|aL l i) (λR=>0<=j->j<R.length->R.length<2^63->ej l i (.own<|R.set j.toNat x) λl=>k .next l s) True) True) True) True
theorem QBh {i} (hb:bC b B) (s:bC a A):bC (S.set i b a) (X.set i B A):=⟨λq f=>s.r q λO O O q=>cF q λO q=>cF q λO q=>hb.r q λO O O q=>cF q λO q=>cF q λO q c d e=>gP<|f _ _ _ λr=>q<|kr c d e r⟩
noncomputable def JF (s:Sl):Bool:=match s with|.unb=>aB|_=>aE
theorem W8 (h:JF s=aB):s=.unb:=by cases s<;>first|rfl|(exact bq h)
noncomputable def X.p9 (b m:Nat):XS:=λO s l k=>bc (gj<|aL l m) (λx=>eO (JF<|aL l aT)<|x.all vE=aB->ej l aT (.own x) λl=>ej l bQ .emp λl=>ej l m (.ali aT) λl=>ej l b .inst λl=>k .next l s) True
theorem Wy {b m}:bC (S.p9 b m) (X.p9 b m):=⟨λq f=>cF q λO q=>eM λc d=>gP<|gP<|gP<|gP<|f _ _ _ λr=>q ⟨W8 c,d,r⟩⟩
noncomputable def X.oT (b:Nat) (A:XE):XS:=λo s l k=>eO (uF<|aL l b)<|A o s l λv l s=>bc (jv v) (λx=>bc (gj<|aL l aT) (λH=>eO (rx<|aL l bQ) (lq pH s λr s=>match r with|(y,H')=>o.H 9 [x] H y H'->ej l aT (.own H') λl=>k .next l s)) True) True
theorem WS {b} (Q:bC a A):bC (S.oT b a) (X.oT b A):=⟨λq f=>eM λc=>Q.r (λr=>q ⟨wK c,r⟩) λO O O q=>cF q λO q=>cF q λO q=>eM λc=>ny λO O r=>gP<|f _ _ _ λs=>q ⟨yP c,.mk r s⟩⟩
noncomputable def X.b7 (Y:XT) (Q W:List XS):XS:=λo s l k=>Y o s l λz l s=>tQ z s (λs=>sX Q o s l k) λs=>sX W o s l k
theorem WT (a:bC t Y) (A:fw ss Ss) (hb:fw sr Sr):bC (S.b7 t ss sr) (X.b7 Y Ss Sr):=⟨λq f=>a.r q λO O O q=>vq q (λO q=>(oY A).r q f) λO q=>(oY hb).r q f⟩
noncomputable def pF:Hn->Option (Fl×Ls)|.f x l=>aA (x,l)|_=>aF
noncomputable def X.e6 (t:cQ) (J:XI) (ss:List S):XS:=λo s l k=>J o aB s l λx l s=>lq pF s λr s=>match r with|(f,l')=>(∀K:Fl->Ls->Prop,K f l'->fW t ss o x l K)->ju l' λl=>k f l s
theorem Zx {tg} (i:qX it J):bC (S.e6 tg it ss) (X.e6 tg J ss):=⟨λq f=>i.r q λO O O q=>ny λO O r=>l5<|f _ _ _ λs=>q<|r _ s⟩
noncomputable def X.nq (t:T) (ss:List S):XS:=λo s l k=>lq pF s λr s=>match r with|(f,l')=>(∀K:Fl->Ls->Prop,K f l'-> ∃n,wW t ss o n l K)->ju l' λl=>k f l s
theorem WA:bC (S.nq t ss) (X.nq t ss):=⟨λq f=>ny λO O r=>l5<|f _ _ _ λs=>q<|r _ s⟩
noncomputable def MH (l:Ls) (v:V):Option Dat:=match v with|.d x=>aA x|.bor i=>bif bt i aT then aF else (gj<|aL l i).map .list|_=>aF
theorem Z3 {d} (h:MH l v=aA d):xU (aL l) v d:=by
 induction v with
 |d x=>cases h;exact .d
 |bor i=>
  have h:(bif bt i aT then aF else (gj<|aL l i).map DA)=aA d:=h;induction e:bt i aT with
  |true=>rw[e] at h;exact ay h
  |false=>
   rw[e] at h;induction q:gj (aL l i) with
   |none=>rw[q] at h;exact ay h
   |some R=>rw[q] at h;cases h;exact .bor (λr=>by rw[r] at e;exact nomatch e)<|M0 q
 |_=>exact ay h
noncomputable def X.LU (A:XE):XS:=λo s l k=>A o s l λv l s=>bc (MH l v) (λx=>k (.ret x) l s) True
theorem Vs (s:bC a A):bC (S.ret<|aA a) (X.LU A):=⟨λq f=>s.r q λO O O q=>wL λO e=>f _ _ _ λr=>q<|.mk (Z3 e) r⟩
noncomputable def X.BJ:XS:=λO s l k=>k (.ret .none) l s
theorem QAD:bC (S.ret aF) X.BJ:=⟨λq f=>f _ _ _ q⟩
noncomputable def X.cont:XS:=λO s l k=>k .cont l s
theorem Wj:bC S.cont X.cont:=⟨λq f=>f _ _ _ q⟩
noncomputable def X.defn (i g:Nat):XS:=λO s l k=>ej l i (.clo g) λl=>k .next l s
theorem X_ {i g}:bC (S.defn i g) (X.defn i g):=⟨λq f=>gP<|f _ _ _ q⟩
noncomputable def Ln (l:List aK):Option (aK×aK×aK):=l.casesOn (motive:=λO=>Option<|aK×aK×aK) aF λa t=>(Bf t).map λb=>(a,b)
theorem SN (h:Ln l=aA a):l=[a.1,a.2.1,a.2.2]:=by
 revert h;induction l with
 |nil=>exact λh=>ay h
 |cons b t _=>exact λh=>(lL.mp h).elim λc q=>q.2▸QGz (b:: ·) (G9 q.1)
noncomputable def OC (xs:List aK) (k:Int->Prop):Prop:=l9 (Ln xs) λd=>l9 (uI d.1) λn=>l9 (uI d.2.1) λm=>l9 (uI d.2.2) λp=>eO (decide (m=5) && decide (p=2048))<|k n
theorem D_ {k:Int->Prop} (f: ∀n,xs=[.int n,.int 5,.int 2048]->k n):OC xs k:=nB λO e=>nB λn x=>nB λm C=>nB λp u=>eM λc=>f n<|vX x▸(d5 (f7.mp c).1▸vX C)▸(d5 (f7.mp c).2▸vX u)▸SN e
noncomputable def X.pd (i:Nat) (e:List XE):XS:=λo s l k=>dX e o s l λx l s=>OC x λn=>n<=2048->0<=n->ej l i .emp λl=>k .next l s
theorem ZM {i} (h:fw es Es):bC (S.pd i es) (X.pd i Es):=⟨λq f=>(mi h).r q λO O O q=>D_ λn e c d=>gP<|f _ _ _ λr=>q<|kP n e c d r⟩
noncomputable def X.pW (i:Nat):XS:=λO s l k=>eO (rx<|aL l i)<|k .next l s
theorem RU {i}:bC (S.pW i) (X.pW i):=⟨λq f=>eM λc=>f _ _ _ λr=>q ⟨yP c,r⟩⟩
noncomputable def X.stuck:XS:=λO O O O=>True
theorem VW:bC S.stuck X.stuck:=⟨λO O=>trivial⟩
end
noncomputable def tH {R:Type} (o:R) (d:List (Option nP)->List nP->bP->R) (c0:Const->R) (s:R) (n:aG->bP->R) (x:nP):R:=x.casesOn (motive_1:=λO=>R) (λO O O=>o) (λO O O=>o) (λO O O O=>o) (λO O O=>o) (λO O O O=>o) (λO O O O=>o) (d) (λO O O=>o) (λO O O O=>o) (λO O O O=>o) (λO O O O O=>o) (λO O O O=>o) (λO O=>o) (λO O=>o) (λO O=>o) (λO O O O=>o) (λO O O O=>o) (λO O O O=>o) (λO O=>o) (λc O O=>c0 c) (λO O O=>o) (λO O O=>o) (λO O=>s) (n) (λO O=>o) (λO O O=>o) λO O O O=>o
noncomputable def Bx {R:Type} (o:R) (f:Arguments->List cx->jP->R) (c:List cx->R) (a:nP->R) (x:cx):R:=x.casesOn (motive_2:=λO=>R) (λO a b O O O s O O O=>f a b s) (λO O O O O O O O O O=>o) (λO O O b O O O O O O O=>c b) (λO O=>o) (λO O=>o) (λO v O=>a v) (λO O O O O O O=>o) (λO O O O=>o) (λO O O O O=>o) (λO O O O O=>o) (λO O O O O=>o) (λO O O O=>o) (λO O O O=>o) (λO O O=>o) (λO O O=>o) (λO O O=>o) (λO O O=>o) (λO O O O O=>o) (λO O O O O=>o) (λO O O=>o) (λO O=>o) (λO O O O=>o) (λO O=>o) (λO O=>o) (λO O=>o) (λO=>o) (λO=>o) λO=>o
namespace B01
noncomputable def Kt:cx->Arguments:=Bx {posonlyargs:=[],args:=[],vararg:=aF,kwonlyargs:=[],kw_defaults:=[],kwarg:=aF,defaults:=[]} (λa O O=>a) (λO=>{posonlyargs:=[],args:=[],vararg:=aF,kwonlyargs:=[],kw_defaults:=[],kwarg:=aF,defaults:=[]}) λO=>{posonlyargs:=[],args:=[],vararg:=aF,kwonlyargs:=[],kw_defaults:=[],kwarg:=aF,defaults:=[]}
noncomputable def fI:cx->List Stmt:=Bx [] (λO b O=>b) (λb=>b) λO=>[]
noncomputable def cJ:cx->Scope:=Bx {kind:=.function,names:=[],isGenerator:=aE,isCoroutine:=aE,more:=[]} (λO O s=>s) (λO=>{kind:=.function,names:=[],isGenerator:=aE,isCoroutine:=aE,more:=[]}) λO=>{kind:=.function,names:=[],isGenerator:=aE,isCoroutine:=aE,more:=[]}
noncomputable def zA (l:List cx):Nat->cx
 |0=>match l with|s::_=>s|[]=>.Pass default
 |n+1=>match l with|_::r=>zA r n|[]=>.Pass default
noncomputable abbrev pg:Program:=QGr
noncomputable def bO (i:Nat):Stmt:=zA pg.main.body i
noncomputable def dB (i j:Nat):Stmt:=zA (fI<|bO i) j
end B01
theorem QBX {α:Type} {o:Option α} {p:α->Bool} (h:o.any p=aB): ∃a,o=aA a/\p a=true:=by
 induction o with
 |none=>exact bq h
 |some a=>exact (ax a rfl h)
theorem aD (h:(a && b)=aB):a=aB/\b=true:=f7.mp h
inductive Kd|no|name|const|aH|un|cmp|fy|ite|list|tup|comp|sub|dM|call|attr
noncomputable def Kd.num:Kd->Nat|.no=>0|.name=>1|.const=>2|.aH=>3|.un=>4|.cmp=>5|.fy=>6|.ite=>7|.list=>8|.tup=>9|.comp=>10|.sub=>11|.dM=>12|.call=>13|.attr=>14
noncomputable def Kd.of:Nat->Kd|1=>.name|2=>.const|3=>.aH|4=>.un|5=>.cmp|6=>.fy|7=>.ite|8=>.list|9=>.tup|10=>.comp|11=>.sub|12=>.dM|13=>.call|14=>.attr|_=>.no
theorem Kd.xr (k:Kd):Kd.of k.num=k:=by induction k<;>rfl
theorem Kd.eq {a b:Kd} (h:bt a.num b.num=aB):a=b:=cv a.xr<|cv b.xr<|sb (Nat.eq_of_beq_eq_true h) rfl
noncomputable abbrev x0:Expr:=.Constant .none 0 default
structure Nd where
 t:Kd:=.no
 a:Expr:=x0
 b:Expr:=x0
 c:Expr:=x0
 es:List Expr:=[]
 nm:Str:=⟨#[]⟩
 op:Operator:=.Add
 uo:UnaryOp:=.Not
 bo:BoolOp:=.And
 os:List CmpOp:=[]
 cs:Const:=.none
 k:Nat:=0
 oa:Option Expr:=aF
 ob:Option Expr:=aF
 oc:Option Expr:=aF
 ks:List Keyword:=[]
 gs:List Comprehension:=[]
 sc:Scope:={kind:=.function,names:=[],isGenerator:=aE,isCoroutine:=aE,more:=[]}
 p:Pos:=default
noncomputable def nd (x:aP):Nd:=x.casesOn (motive_1:=λO=>Nd) (λo es p=>{t:=.fy,bo:=o,es,p}) (λO O O=>{}) (λa o b p=>{t:=.aH,a,b,op:=o,p}) (λo a p=>{t:=.un,uo:=o,a,p}) (λO O O O=>{}) (λa b c p=>{t:=.ite,a,b,c,p}) (λO O O=>{}) (λO O O=>{}) (λa gs sc p=>{t:=.comp,a,gs,sc,p}) (λO O O O=>{}) (λO O O O O=>{}) (λO O O O=>{}) (λO O=>{}) (λO O=>{}) (λO O=>{}) (λa os es p=>{t:=.cmp,a,os,es,p}) (λa es ks p=>{t:=.call,a,es,ks,p}) (λO O O O=>{}) (λO O=>{}) (λc k p=>{t:=.const,cs:=c,k,p}) (λa nm p=>{t:=.attr,a,nm,p}) (λa b p=>{t:=.sub,a,b,p}) (λO O=>{}) (λn p=>{t:=.name,nm:=n,p}) (λes p=>{t:=.list,es,p}) (λes k p=>{t:=.tup,es,k,p}) λoa ob oc p=>{t:=.dM,oa,ob,oc,p}
noncomputable def Nd.mk' (n:Nd):Expr:=match n.t with
 |.no=>x0
 |.name=>.Name n.nm n.p
 |.const=>.Constant n.cs n.k n.p
 |.aH=>.BinOp n.a n.op n.b n.p
 |.un=>.UnaryOp n.uo n.a n.p
 |.cmp=>.Compare n.a n.os n.es n.p
 |.fy=>.BoolOp n.bo n.es n.p
 |.ite=>.IfExp n.a n.b n.c n.p
 |.list=>.List n.es n.p
 |.tup=>.Tuple n.es n.k n.p
 |.comp=>.ListComp n.a n.gs n.sc n.p
 |.sub=>.Subscript n.a n.b n.p
 |.dM=>.Slice n.oa n.ob n.oc n.p
 |.call=>.Call n.a n.es n.ks n.p
 |.attr=>.Attribute n.a n.nm n.p
theorem zJ (x:aP):(nd x).t=.no\/x=(nd x).mk':=by cases x<;>first|exact .inr rfl|exact .inl rfl
noncomputable def on (x:aP) (k:Kd) (b:Nd->Bool):Bool:=bt (nd x).t.num k.num && b (nd x)
theorem YN {x:aP} {k:Kd} {b:Nd->Bool} (h:on x k b=aB) (K:k≠ .no): ∃n,n.t=k/\x=n.mk'/\b n=true:=by refine bI (aD h) λH i=>?_;have e:=Kd.eq H;exact (gc _ e ((zJ x).elim (λq=>QGv (e.symm.trans q) K) id) i)
theorem jV {P:aP->Prop} {n:Nd} {k:Kd} (e:n.t=k) (h:P (Nd.mk' {n with t:=k})):P n.mk':=by induction e;exact h
theorem kR {P:aP->Prop} {k:Kd} (h:on x k b=aB) (K:k≠ .no) (f: ∀n,n.t=k->b n=aB->P n.mk'):P x:=cy (YN h K) λn e q g=>q▸f n e g
inductive MU (k:aG->Bool):aP->Prop|mk {n:Str} {p:Pos}:k n=true->MU k (.Name n p)
noncomputable def bS (x:aP) (k:aG->Bool):Bool:=on x .name λn=>k n.nm
theorem dq {x:aP} {k} (h:bS x k=aB):MU k x:=kR h nofun λn e h=>jV e<|.mk h
inductive LY (k:Const->Bool):aP->Prop|mk {c:Const} {m:Nat} {p:Pos}:k c=true->LY k (.Constant c m p)
noncomputable def jY (x:aP) (k:Const->Bool):Bool:=on x .const λn=>k n.cs
theorem so {x:aP} {k} (h:jY x k=aB):LY k x:=kR h nofun λn e h=>jV e<|.mk h
inductive NY (k:aP->iG->aP->Bool):aP->Prop|mk {a:Expr} {o:Operator} {b:Expr} {p:Pos}:k a o b=true->NY k (.BinOp a o b p)
noncomputable def yW (x:aP) (k:aP->iG->aP->Bool):Bool:=on x .aH λn=>k n.a n.op n.b
theorem Ol {x:aP} {k} (h:yW x k=aB):NY k x:=kR h nofun λn e h=>jV e<|.mk h
inductive Ot (k:UnaryOp->aP->Bool):aP->Prop|mk {o:UnaryOp} {a:Expr} {p:Pos}:k o a=true->Ot k (.UnaryOp o a p)
noncomputable def vG (x:aP) (k:UnaryOp->aP->Bool):Bool:=on x .un λn=>k n.uo n.a
theorem Ni {x:aP} {k} (h:vG x k=aB):Ot k x:=kR h nofun λn e h=>jV e<|.mk h
inductive I0 (k:aP->List fU->List aP->Bool):aP->Prop|mk {a:Expr} {o:List CmpOp} {b:List Expr} {p:Pos}:k a o b=true->I0 k (.Compare a o b p)
noncomputable def Ad (x:aP) (k:aP->List fU->List aP->Bool):Bool:=on x .cmp λn=>k n.a n.os n.es
theorem Lq {x:aP} {k} (h:Ad x k=aB):I0 k x:=kR h nofun λn e h=>jV e<|.mk h
inductive Mv (k:kf->List aP->Bool):aP->Prop|mk {o:BoolOp} {es:List Expr} {p:Pos}:k o es=true->Mv k (.BoolOp o es p)
noncomputable def yH (x:aP) (k:kf->List aP->Bool):Bool:=on x .fy λn=>k n.bo n.es
theorem KY {x:aP} {k} (h:yH x k=aB):Mv k x:=kR h nofun λn e h=>jV e<|.mk h
inductive Jw (k:aP->aP->aP->Bool):aP->Prop|mk {c:Expr} {a:Expr} {b:Expr} {p:Pos}:k c a b=true->Jw k (.IfExp c a b p)
noncomputable def EC (x:aP) (k:aP->aP->aP->Bool):Bool:=on x .ite λn=>k n.a n.b n.c
theorem QCl {x:aP} {k} (h:EC x k=aB):Jw k x:=kR h nofun λn e h=>jV e<|.mk h
inductive MV (k:List aP->Bool):aP->Prop|mk {es:List Expr} {p:Pos}:k es=true->MV k (.List es p)
noncomputable def n9 (x:aP) (k:List aP->Bool):Bool:=on x .list λn=>k n.es
theorem Bp {x:aP} {k} (h:n9 x k=aB):MV k x:=kR h nofun λn e h=>jV e<|.mk h
inductive Mr (k:List aP->Bool):aP->Prop|mk {es:List Expr} {m:Nat} {p:Pos}:k es=true->Mr k (.Tuple es m p)
noncomputable def gv (x:aP) (k:List aP->Bool):Bool:=on x .tup λn=>k n.es
theorem tL {x:aP} {k} (h:gv x k=aB):Mr k x:=kR h nofun λn e h=>jV e<|.mk h
inductive O8 (k:aP->List H8->jP->Bool):aP->Prop|mk {e:Expr} {gs:List Comprehension} {s:Scope} {p:Pos}:k e gs s=true->O8 k (.ListComp e gs s p)
noncomputable def vF (x:aP) (k:aP->List H8->jP->Bool):Bool:=on x .comp λn=>k n.a n.gs n.sc
theorem OY {x:aP} {k} (h:vF x k=aB):O8 k x:=kR h nofun λn e h=>jV e<|.mk h
inductive Na (k:aP->aP->Bool):aP->Prop|mk {a:Expr} {b:Expr} {p:Pos}:k a b=true->Na k (.Subscript a b p)
noncomputable def jE (x:aP) (k:aP->aP->Bool):Bool:=on x .sub λn=>k n.a n.b
theorem te {x:aP} {k} (h:jE x k=aB):Na k x:=kR h nofun λn e h=>jV e<|.mk h
inductive OK (k:Option aP->Option aP->Option aP->Bool):aP->Prop|mk {a:Option Expr} {b:Option Expr} {c:Option Expr} {p:Pos}:k a b c=true->OK k (.Slice a b c p)
noncomputable def vd (x:aP) (k:Option aP->Option aP->Option aP->Bool):Bool:=on x .dM λn=>k n.oa n.ob n.oc
theorem MK {x:aP} {k} (h:vd x k=aB):OK k x:=kR h nofun λn e h=>jV e<|.mk h
inductive OO (k:aP->List aP->List wi->bP->Bool):aP->Prop|mk {f:Expr} {xs:List Expr} {ks:List Keyword} {p:Pos}:k f xs ks p=true->OO k (.Call f xs ks p)
noncomputable def xt (x:aP) (k:aP->List aP->List wi->bP->Bool):Bool:=on x .call λn=>k n.a n.es n.ks n.p
theorem DR {x:aP} {k} (h:xt x k=aB):OO k x:=kR h nofun λn e h=>jV e<|.mk h
inductive My (k:aP->aG->bP->Bool):aP->Prop|mk {a:Expr} {n:Str} {p:Pos}:k a n p=true->My k (.Attribute a n p)
noncomputable def uJ (x:aP) (k:aP->aG->bP->Bool):Bool:=on x .attr λn=>k n.a n.nm n.p
theorem Gg {x:aP} {k} (h:uJ x k=aB):My k x:=kR h nofun λn e h=>jV e<|.mk h
theorem Eb {α:Type} {l:List α} (h:l.isEmpty=aB):l=[]:=Py.mp h
inductive Mg (k:aG->List aP->Bool):aP->Prop|mk {n:Str} {p:Pos} {xs:List Expr} {q:Pos}:k n xs=true->Mg k (.Call (.Name n p) xs [] q)
noncomputable def gM (x:aP) (k:aG->List aP->Bool):Bool:=xt x λf R K O=>K.isEmpty && bS f λn=>k n R
theorem pX {k} (h:gM x k=aB):Mg k x:=by
 induction DR h with
 |mk g=>
  cases Eb (aD g).1
  induction dq (aD g).2 with
  |mk g=>exact .mk g
inductive JV (k:aP->aG->bP->List aP->bP->Bool):aP->Prop|mk {a:Expr} {n:Str} {p:Pos} {xs:List Expr} {q:Pos}:k a n p xs q=true->JV k (.Call (.Attribute a n p) xs [] q)
noncomputable def fk (x:aP) (k:aP->aG->bP->List aP->bP->Bool):Bool:=xt x λf R K q=>K.isEmpty && uJ f λa n p=>k a n p R q
theorem qG {k} (h:fk x k=aB):JV k x:=by
 induction DR h with
 |mk g=>
  cases Eb (aD g).1
  induction Gg (aD g).2 with
  |mk g=>exact .mk g
inductive Mb {α:Type} (k:α->Bool):List α->Prop|mk {a:α}:k a=true->Mb k [a]
noncomputable def cI {α:Type} (l:List α) (k:α->Bool):Bool:=match l with|a::r=>r.isEmpty && k a|[]=>aE
theorem mC {α:Type} {l:List α} {k} (h:cI l k=aB):Mb k l:=by
 induction l with
 |nil=>exact bq h
 |cons a r=>have g:(r.isEmpty && k a)=true:=h;cases Eb (aD g).1;exact .mk (aD g).2
noncomputable def oB (x:aP) (b:Kd->Bool):Bool:=b (nd x).t
noncomputable def dD (x:aP):Bool:=oB x λk=> !bt k.num Kd.no.num
noncomputable def yV (x:aP):Bool:=oB x λk=> !bt k.num Kd.no.num && !bt k.num Kd.dM.num
noncomputable def eC (x:aP):Bool:=oB x λk=> !bt k.num Kd.no.num && !bt k.num Kd.comp.num
theorem yo (n:Nd):(∀xs env,fH (n.mk'::xs) env=(aE,bz n.mk' env)::fH xs env)/\(∀env x,Hu n.mk' env x=pure x)/\(n.t=.dM\/ ∀o i,wY n.mk' aE o i=wZ [o,i] (wc o i))/\
 (n.t=.comp\/ ∀t l env,Cz n.mk' t l env=pure aE)/\(n.t=.call\/ ∀nm env w,wh n.mk' nm env w=w):=by
 unfold Nd.mk';cases n.t<;>exact (Gv (λO O=>rfl) (λO O=>rfl) (by first|exact .inr λO O=>rfl|exact .inl rfl) (by first|exact .inr λO O O=>rfl|exact .inl rfl) (by first|exact .inr λO O O=>rfl|exact .inl rfl))
theorem rG (h:dD x=aB):x=(nd x).mk':=(zJ x).elim (λq=>by unfold dD oB at h;rw[q] at h;exact bq h) id
theorem zE (h:dD x=aB) (xs:List aP) (env:cg):fH (x::xs) env=(aE,bz x env)::fH xs env:=sb (rG h)<|(yo _).1 _ _
noncomputable def tN (xs:List aP):Bool:=xs.all dD
theorem JK (h:tN (x::xs)=aB):dD x=aB/\tN xs=true:=aD h
theorem pU (h:tN xs=aB):Pl xs:=λenv p=>by
 induction xs with
 |nil=>rfl
 |cons x xs d=>have H:=(JK h);have A:=H.1;have i:=H.2;simp only[zE A,Fi];exact d i
theorem Wq (h:tN xs=aB) (env:cg) (pos:bP):(mK pos<|fH xs env).all (λx=> !x.1)=true:=by
 induction xs with
 |nil=>rfl
 |cons x xs d=>have H:=(JK h);have A:=H.1;have i:=H.2;simp only[zE A,Fi];exact d i
theorem v5 (h:dD x=aB) (env:cg):fH [x] env=[(aE,bz x env)]:=zE h [] env
theorem So (n:Nd) (y:aP) (ys:List aP) (ks:List wi) (p:bP) (nm:aG) (env:cg) (w:ba aI):wh (.Call n.mk' (y::ys) ks p) nm env w=w:=by unfold Nd.mk';cases n.t<;>rfl
noncomputable def isAt (k:Kd):Bool:=bt k.num Kd.attr.num
noncomputable def Nu (x:aP):Bool:=dD x && (oB x λk=> !bt k.num Kd.call.num||(dD (nd x).a && (!(nd x).es.isEmpty||isAt (nd (nd x).a).t)))
theorem Uh {x:aP} (h:Nu x=aB) (nm:aG) (env:cg) (w:ba aI):wh x nm env w=w:=by
 refine bI (aD h) λA H=>?_;have e:=rG A;rcases (yo<|nd x).2.2.2.2 with q|q
 ·have u:=e.trans (jV (P:=λy=>y=.Call (nd x).a (nd x).es (nd x).ks (nd x).p) q rfl)
  unfold oB at H;rw[q] at H;refine bI (aD H) λl b=>?_;cases Q:(nd x).es with
  |nil=>
   rw[Q] at b;have d:=b;have Z:(nd (nd x).a).t=.attr:=by generalize (nd (nd x).a).t=k at d;induction k<;>first|rfl|(exact bq d)
   exact sb u<|sb Q<|sb (rG l)<|jV (P:=λy=>wh (.Call y [] (nd x).ks (nd x).p) nm env w=w) Z rfl
  |cons y Y=>exact sb u<|sb Q<|sb (rG l)<|So _ _ _ _ _ _ _ _
 ·exact sb e<|q _ _ _
noncomputable def fg (x:aP) (a pos:bP) (xs:List aP):Bool:=Nu x && (tN xs && (cP xs.length 30 && (a.endLine==pos.line)))
theorem nY {x:aP} {nm:aG} {a pos:bP} {xs:List aP} (h:fg x a pos xs=aB):MC x nm a pos xs:=by refine bI (aD h) λA h=>bI (aD h) λi h=>bI (aD h) λQ H=>⟨λenv=>Uh A _ _ _,λenv=>?_,H⟩;rw[Wq i];exact QHD<|bJ Q
theorem Lw {y:aP} (h:yV y=aB) (o i:aI):wY y aE o i=wZ [o,i] (wc o i):=by
 unfold yV oB at h;refine cp (zJ y) (λq=>?_) λq=>?_
 ·rw[q] at h
  exact bq h
 ·refine cp ((yo<|nd y).2.2.1) (λQ=>?_) λQ=>?_
  ·rw[Q] at h
   exact bq h
  ·exact sb q<|Q _ _
theorem Nt {y:aP} (h:dD y=aB) (env:cg) (x:aI):Hu y env x=pure x:=sb (rG h)<|(yo _).2.1 _ _
theorem J6 {y:aP} (h:eC y=aB) (t:Option aP) (l:Nat) (env:cg):Cz y t l env=pure false:=by
 unfold eC oB at h;refine cp (zJ y) (λq=>?_) λq=>?_
 ·rw[q] at h
  exact bq h
 ·refine cp ((yo<|nd y).2.2.2.1) (λQ=>?_) λQ=>?_
  ·rw[Q] at h
   exact bq h
  ·exact sb q<|Q _ _ _
theorem rE {y:aP} (h:eC y=aB) (t:aP) (l:Nat) (env:cg):jj [t] y l env=pure false:=J6 h _ _ _
noncomputable def jC (C:Fc) (n:aG):Bool:=(match C.K n with|some .globalImplicit=>aB|_=>aE) && !(n==("__debug__" :aG))
theorem oC (h:jC C n=aB):mq C n:=by
 refine bI (aD h) λH i=>⟨?_,uW _▸i⟩;generalize C.K n=k at H
 match k,H with
 |some .globalImplicit,_=>rfl
structure Ci where
 fns:List (Nat×aG)
 hm:List (Nat×aG)
 cN:Nat->Fc->Bool
 uy:Nat->Nat->Fc->cx->Bool
structure cG (I:Ci) (D:Wd):Prop where
 H:cz D
 R:kq D
 fns: ∀f nm,I.fns.lookup f=aA nm->D.fns[f]?=aA nm/\ ∃fa o fd,D.mg nm=aA (.ref fa)/\D.G.get? fa=aA o/\o.data=.func fd
 hm: ∀k nm,I.hm.lookup k=aA nm-> ∃fa,D.hm k=aA (nm,fa)
 cN: ∀f C,I.cN f C=aB->D.cN f C
 uy: ∀f i C s,I.uy f i C s=aB->bY D C s (.defn i f)
structure EW where
 w:E
 x:XE
 ok:bC w x
 bU:Ci->Fc->aP->Bool
 snd: ∀{I D C x},cG I D->bU I C x=aB->aZ D C x w
structure TW where
 w:T
 x:XT
 ok:bC w x
 bU:Ci->Fc->aP->Bool
 snd: ∀{I D C x},cG I D->bU I C x=aB->eS D C x w
structure IW where
 w:I
 x:XI
 ok:qX w x
 bU:Ci->Fc->aP->Bool
 snd: ∀{I D C x f},cG I D->bU I C x=aB->hj D C f x w
structure SW where
 w:S
 x:XS
 ok:bC w x
 bU:Ci->Fc->cx->Bool
 snd: ∀{I D C x},cG I D->bU I C x=aB->bY D C x w
structure NW where
 w:E
 x:XE
 ok:bC w x
 bU:Ci->Fc->aP->Bool
 snd: ∀{I D C x},cG I D->bU I C x=aB->qc D C x w
theorem jt (es:List EW):fw (es.map EW.w) (es.map EW.x):=by induction es with|nil=>exact .nil|cons e es i=>exact .cons e.ok i
theorem M6 (es:List TW):fw (es.map TW.w) (es.map TW.x):=by induction es with|nil=>exact .nil|cons e es i=>exact .cons e.ok i
theorem oU (es:List SW):fw (es.map SW.w) (es.map SW.x):=by induction es with|nil=>exact .nil|cons e es i=>exact .cons e.ok i
noncomputable def iz {α β:Type} (f:α->β->Bool):List α->List β->Bool
 |[],[]=>aB
 |a::as,b::bs=>f a b && iz f as bs
 |_,_=>aE
theorem mf {α β:Type} {f:α->β->Bool} {P:List α->List β->Prop} (q:P [] []) (H: ∀a as b bs,f a b=aB->P as bs->P (a::as) (b::bs)): ∀{as:List α} {bs:List β},iz f as bs=aB->P as bs:=by
 intro as;induction as with
 |nil=>
  exact @λbs h=>by
   induction bs with
   |nil=>exact q
   |cons b bs O=>exact bq h
 |cons a as i=>
  exact @λbs h=>by
   induction bs with
   |nil=>exact bq h
   |cons b bs O=>exact H a as b bs (aD h).1 (i (aD h).2)
noncomputable def ck (I:Ci) (C:Fc):List EW->List aP->Bool:=iz λe x=>dD x && e.bU I C x
theorem gd {I:Ci} {D:Wd} (H:cG I D) (h:ck I C es xs=aB):fb D C xs (es.map EW.w)/\tN xs=true:=mf (P:=λ(es:List EW) xs=>fb D C xs (es.map EW.w)/\tN xs=aB) ⟨Dn,rfl⟩ (λe es x xs h g=>⟨xS (zE (aD h).1 xs) (e.snd H (aD h).2) g.1,f7.mpr ⟨(aD h).1,g.2⟩⟩) h
noncomputable def kA (I:Ci) (C:Fc):List SW->List cx->Bool:=iz λe x=>e.bU I C x
theorem lV {I:Ci} {D:Wd} (H:cG I D) (h:kA I C es xs=aB):jT D C xs (es.map SW.w):=mf (P:=λ(es:List SW) xs=>jT D C xs<|es.map SW.w) LO (λe es x xs h g=>ta (e.snd H h) g) h
theorem rp (h:(!b)=aB):b=false:=(uW b).mp h
section
variable {a b c:E} {t:T} {ka kb kc:aP->Bool} {op:iG}
theorem Az (r: ∀{k pos},aZ D C (.Constant v k pos) a) (h:jY x (λc=>decide (c=v))=aB):aZ D C x a:=by induction so h with|mk g=>cases d5 g;exact r
theorem S_ (h:bS x (λn=>cq C n i)=aB):aZ D C x (.aC i):=by induction dq h with|mk g=>exact sz<|jS g
theorem VJ (h:(C.ow && bS x λn=>cq C n i)=aB):aZ D C x (.qJ i):=by induction dq (aD h).2 with|mk g=>exact Up (aD h).1<|jS g
theorem QDS (A: ∀{y},ka y=aB->aZ D C y a) (hb: ∀{y},kb y=aB->aZ D C y b) (h:yW x (λy o z=>decide (o=op) && (ka y && kb z))=aB):aZ D C x (.aH op a b):=by
 induction Ol h with|mk g=>cases d5 (aD g).1;exact W4 (A (aD (aD g).2).1)<|hb (aD (aD g).2).2
theorem KD (r: ∀{y pos},aZ D C y a->aZ D C (.UnaryOp o y pos) f) (A: ∀{y},ka y=aB->aZ D C y a) (h:vG x (λp y=>decide (p=o) && ka y)=aB):aZ D C x f:=by
 induction Ni h with|mk g=>cases d5 (aD g).1;exact r<|A (aD g).2
noncomputable def kx (x:aP) (op:fU) (k:aP->aP->Bool):Bool:=Ad x λy o z=>cI o λo=>decide (o=op) && cI z λz=>k y z
inductive Kf (op:fU) (k:aP->aP->Bool):aP->Prop|mk {y z:Expr} {p:Pos}:k y z=true->Kf op k (.Compare y [op] [z] p)
theorem ye {op:fU} {k} (h:kx x op k=aB):Kf op k x:=by
 induction Lq h with
 |mk g=>induction mC g with|mk t=>induction d5 (aD t).1;induction mC (aD t).2 with|mk o=>exact .mk o
theorem Nz {op:fU} (A: ∀{y},ka y=aB->aZ D C y a) (hb: ∀{y},kb y=aB->aZ D C y b) (h:kx x op (λy z=> !sJ op z && (ka y && kb z))=aB):aZ D C x (.cmp op a b)/\eS D C x (.cmp op a b):=by
 induction ye h with
 |mk g=>exact ⟨VK (rp (aD g).1) (A (aD (aD g).2).1)<|hb (aD (aD g).2).2,QBV (rp (aD g).1) (A (aD (aD g).2).1)<|hb (aD (aD g).2).2⟩
noncomputable def isNone (x:aP):Bool:=jY x λc=>decide (c=.none)
theorem J1 {neg:Bool} (A: ∀{y},ka y=aB->aZ D C y a) (h:kx x (if neg then .IsNot else .Is) (λy z=>isNone z && ka y)=aB):aZ D C x (.iN neg a)/\eS D C x (.iN neg a):=by
 induction ye h with
 |mk g=>
  induction so (aD g).1 with
  |mk e=>cases d5 e;exact ⟨U7 rfl (by clear h;induction neg<;>rfl) (A (aD g).2),Yk rfl (by clear h;induction neg<;>rfl) (A (aD g).2)⟩
theorem Y9 {neg b:Bool} (A: ∀{y},ka y=aB->aZ D C y a) (h:kx x (if neg then .IsNot else .Is) (λy z=>(jY z λc=>decide (c=.bool b)) && ka y)=aB):eS D C x (.eN neg b a):=by
 induction ye h with
 |mk g=>
  induction so (aD g).1 with
  |mk e=>cases d5 e;exact Vb rfl (by clear h;induction neg<;>rfl) (A (aD g).2)
theorem RY (c: ∀{y},kc y=aB->eS D C y t) (A: ∀{y},ka y=aB->aZ D C y a) (hb: ∀{y},kb y=aB->aZ D C y b) (h:EC x (λz y w=>kc z && (ka y && kb w))=aB):aZ D C x (.ite t a b):=by
 induction QCl h with|mk g=>exact QAj (c (aD g).1) (A (aD (aD g).2).1)<|hb (aD (aD g).2).2
theorem Ov (H:cG J D) (h:n9 x (ck J C es)=aB):aZ D C x (.list<|es.map EW.w)/\qc D C x (.list<|es.map EW.w):=by
 induction Bp h with|mk g=>exact ⟨LG (gd H g).1,ZR (gd H g).1⟩
theorem J_ (H:cG J D) (h:gv x (ck J C es)=aB):aZ D C x (.tup<|es.map EW.w):=by
 induction tL h with|mk g=>exact Sd (gd H g).1
theorem ZK (A: ∀{y},ka y=aB->aZ D C y a) (hb: ∀{y},kb y=aB->aZ D C y b) (h:jE x (λy z=>yV z && (ka y && kb z))=aB):aZ D C x (.au a b):=by
 induction te h with|mk g=>exact QBA (Lw (aD g).1) (A (aD (aD g).2).1)<|hb (aD (aD g).2).2
noncomputable def pw (e:Option EW):E:=match e with|some e=>e.w|none=>.none
noncomputable def tI (I:Ci) (C:Fc) (e:Option EW) (x:Option aP):Bool:=match e,x with|some e,some x=>e.bU I C x|none,none=>aB|_,_=>aE
theorem Gk (H:cG J D) (h:tI J C e x=aB):vY D C x (pw e):=by
 induction e<;>induction x
 ·exact QCN
 ·contradiction
 ·contradiction
 ·exact Xh<|EW.snd _ H h
theorem Zf {l d st:Option EW} (H:cG J D) (A: ∀{y},ka y=aB->aZ D C y a) (h:jE x (λy z=>vd z λp q r=>ka y && (tI J C l p && (tI J C d q && tI J C st r)))=aB):aZ D C x (.dM a (pw l) (pw d)<|pw st):=by
 induction te h with
 |mk g=>
  induction MK g with
  | @mk p q r _ g=>exact TL (λo i=>by clear h;clear g;induction r<;>exact ⟨_,rfl⟩) (A (aD g).1) (Gk H (aD (aD g).2).1) (Gk H (aD (aD (aD g).2).2).1)<|Gk H (aD (aD (aD g).2).2).2
noncomputable def eN (C:Fc) (n:aG):Bool:=decide (C.K n=aA .globalImplicit)
theorem vw (h:eN C n=aB):C.K n=aA .globalImplicit:=QHC h
theorem WW (H:cG J D) (h:gM x (λn xs=>(J.fns.lookup f==aA n) && (jC C n && ck J C es xs))=aB):aZ D C x (.call f<|es.map EW.w):=by
 induction pX h with
 |mk g=>obtain ⟨r,F,o,l,s,q,Q⟩:=H.fns _ _<|QGy.mp (aD g).1;exact n_ (H:=H.H) r s q Q (oC (aD (aD g).2).1) (pU (gd H (aD (aD g).2).2).2) (gd H (aD (aD g).2).2).1
theorem ZZ (H:cG J D) (h:gM x (λn xs=>J.cN f C && (cq C n i && ck J C es xs))=aB):aZ D C x (.jH f i<|es.map EW.w):=by
 induction pX h with
 |mk g=>exact QBk (H:=H.H) (H.cN _ _ (aD g).1) (jS (aD (aD g).2).1) (pU (gd H (aD (aD g).2).2).2) (gd H (aD (aD g).2).2).1
theorem H_ {b:Bi} {es:List EW} (H:cG J D) (h:gM x (λn xs=>(n==ym b) && (eN C n && ck J C es xs))=aB):aZ D C x (.bi b<|es.map EW.w):=by
 induction pX h with
 |mk g=>exact Rq (H:=H.H) (QGy.mp (aD g).1) (vw (aD (aD g).2).1) (pU (gd H (aD (aD g).2).2).2) (gd H (aD (aD g).2).2).1
theorem kSm (H:cG J D) (A: ∀{y},ka y=aB->aZ D C y a) (h:fk x (λy n p xs q=>(n==BG m) && (fg y p q xs && (ka y && ck J C es xs)))=aB):aZ D C x (.sm m a<|es.map EW.w):=by
 induction qG h with
 |mk g=>exact QDi (H:=H.H) (QGy.mp (aD g).1) (nY (aD (aD g).2).1) (A (aD (aD (aD g).2).2).1) (gd H (aD (aD (aD g).2).2).2).1
theorem NR {k:Nat} (H:cG J D) (A: ∀{y},ka y=aB->aZ D C y a) (h:fk x (λy n p xs q=>(J.hm.lookup k==aA n) && (cP k 20 && (fg y p q xs && (ka y && ck J C es xs))))=aB):aZ D C x (.jr k a<|es.map EW.w)/\aZ D C x (.jU k a<|es.map EW.w):=by
 induction qG h with
 |mk g=>refine aV (H.hm _ _<|QGy.mp (aD g).1) λf q=>?_;have g:=(aD g).2;exact ⟨X7 (H:=H.H) q (bJ (aD g).1) (nY (aD (aD g).2).1) (A (aD (aD (aD g).2).2).1) (gd H (aD (aD (aD g).2).2).2).1,Ym (H:=H.H) q (bJ (aD g).1) (nY (aD (aD g).2).1) (A (aD (aD (aD g).2).2).1) (gd H (aD (aD (aD g).2).2).2).1⟩
end
section
variable {a b c:E} {t:T} {ka kb kc:aP->Bool} {op:iG}
theorem kHf {k:Nat} (H:cG J D) (A: ∀{y},ka y=aB->aZ D C y a) (h:gM x (λn xs=>(J.hm.lookup k==aA n) && (eV 20 k && (jC C n && match xs with|y::xs=>dD y && (ka y && ck J C es xs)|[]=>aE)))=aB):aZ D C x (.jr k a<|es.map EW.w):=by
 induction pX h with
 | @mk n p xs q g=>
  obtain ⟨f,e⟩:=H.hm _ _<|QGy.mp (aD g).1;have g:=(aD g).2;clear h;induction xs with
  |nil=>cases (aD (aD g).2).2
  |cons y xs=>
   have t:=(aD (aD g).2).2;have l:=gd H (aD (aD t).2).2;refine @λL K=>TG (H:=H.H) (D:=D) (C:=C) (x:=y) (a:=a) (p:=p) (pos:=q) (k:=k) e (bJ (aD g).1) (oC (aD (aD g).2).1) (pU<|f7.mpr ⟨(aD t).1,l.2⟩) (zE (aD t).1 xs) ?_ ?_
   ·exact A (aD (aD t).2).1
   ·exact l.1
noncomputable def yL (f:aP->aP->Bool):List aP->Bool
 |[s,r]=>f s r
 |_=>aE
theorem Kv (h:yL f xs=aB): ∃s r,xs=[s,r]/\f s r=true:=by
 induction xs with
 |nil=>exact bq h
 |cons s xs _=>induction xs with
  |nil=>exact bq h
  |cons r xs _=>induction xs with
   |nil=>exact ⟨s,r,rfl,h⟩
   |cons _ _ _=>exact bq h
theorem EY (h:ck J C [e] xs=aB): ∃y,xs=[y]:=by
 induction xs with
 |nil=>exact bq h
 |cons y xs _=>induction xs with
  |nil=>exact ⟨y,rfl⟩
  |cons _ _ _=>exact bq (aD h).2
theorem Rr (h:ck J C [e,u] xs=aB): ∃y z,xs=[y,z]:=by
 induction xs with
 |nil=>exact bq h
 |cons y xs _=>exact (EY (aD h).2).elim λz q=>⟨y,z,QGz (y:: ·) q⟩
theorem Vm {y z:aG} (A: ∀{y},ka y=aB->aZ D C y a) (h:fk x (λu n p xs q=>(n==("replace")) && (fg u p q xs && (!(y==z) && (ka u && yL (λs r=>(jY s λc=>decide (c=.str y)) && (jY r λc=>decide (c=.str z))) xs))))=aB):aZ D C x (.qF a y z):=by
 induction qG h with
 | @mk u n p xs q g=>
  clear h;obtain rfl:=QGy.mp (aD g).1;have g:=(aD g).2;have o:=(aD (aD (aD g).2).2).2;have v:=λN=> @nY u N p q xs (aD g).1;have t:=rp (aD (aD g).2).1;have Z:=(aD (aD (aD g).2).2).1;clear g;refine @cR _ _ _ _ _ (Kv o) λs r Q o=>?_;induction so (aD o).1 with
  |mk Y=>
   induction so (aD o).2 with
   |mk e=>
    cases d5 Y
    cases d5 e
    subst Q;exact @λl K=>Sk (v _) t<|A Z
theorem WN (H:cG J D) (h:bS x (λn=>(n==nm) && jC C n)=aB):aZ D C x (.pV nm):=by
 induction dq h with|mk g=>obtain rfl:=QGy.mp (aD g).1;exact QAN (H:=H.H)<|oC (aD g).2
theorem Sb (H:cG J D) (A: ∀{y},ka y=aB->aZ D C y a) (h:kx x .In (λy z=>(bS z λn=>(n==("b1_set")) && jC C n) && ka y)=aB):aZ D C x (.qE a):=by
 induction ye h with
 |mk g=>induction dq (aD g).1 with|mk e=>clear h;obtain rfl:=QGy.mp (aD e).1;exact QBn (H:=H.H) (oC (aD e).2)<|A (aD g).2
theorem Yx (H:cG J D) (A: ∀{y},ka y=aB->aZ D C y a) (h:fk x (λu n p xs q=>(bS u λn=>(n==("b3_exceptions")) && jC C n) && ((n==("get")) && (fg u p q xs && cI xs λy=>dD y && ka y)))=aB):aZ D C x (.qB a):=by
 induction qG h with
 |mk g=>
  induction dq (aD g).1 with
  |mk e=>
   clear h;obtain rfl:=QGy.mp (aD e).1;have g:=(aD g).2;obtain rfl:=QGy.mp (aD g).1;induction mC (aD (aD g).2).2 with
   |mk t=>exact @λl K=>QBT (H:=H.H) (D:=D) (C:=C) (a:=a) (oC (aD e).2) (nY (aD (aD g).2).1) (v5 (aD t).1)<|A (aD t).2
theorem M5 (H:cG J D) (h:uJ x (λu n O=>(n==("_headers")) && bS u λn=>cq C n 0)=aB):aZ D C x .fE:=by
 induction Gg h with
 |mk g=>clear h;obtain rfl:=QGy.mp (aD g).1;induction dq (aD g).2 with|mk e=>exact Xk (H:=H.H) (jS e) λO=>rfl
noncomputable def Bc (I:Ci) (C:Fc):List TW->List aP->Bool:=iz λe x=>e.bU I C x
theorem QBf (H:cG J D) (h:yH x (λp es=>decide (p=o) && Bc J C ts es)=aB):eS D C x (.fy o<|ts.map TW.w):=by
 induction KY h with
 |mk g=>
  cases d5 (aD g).1
  exact WB<|mf (P:=λ(ts:List TW) R=>yK D C o R<|ts.map TW.w) L_ (λt ts x R h g=>QAS (t.snd H h) g) (aD g).2
theorem Vx (H:cG J D) (h:Bc J C ts xs=aB):oF D C xs (ts.map TW.w):=mf (P:=λ(ts:List TW) xs=>oF D C xs<|ts.map TW.w) QBx (λt ts x xs h g=>QBG (t.snd H h) g) h
theorem Uj (h:bS x (λn=>cq C n i)=aB):eS D C x (.aC i):=by induction dq h with|mk g=>exact QBH<|jS g
theorem QDW {K:aP->Bool} (a: ∀{y},K y=aB->eS D C y t) (h:vG x (λp y=>decide (p=.Not) && K y)=aB):eS D C x (.not t):=by
 induction Ni h with|mk g=>cases d5 (aD g).1;exact QDd<|a (aD g).2
theorem QDa (h:bS x (λn=>cq C n i)=aB):hj D C f x (.aC i):=by induction dq h with|mk g=>exact QBC<|jS g
theorem PJ (H:cG J D) (h:gM x (λn xs=>(n==("range")) && (eN C n && ck J C es xs))=aB):(∀e f,es=[e]->hj D C f x (.jA e.w))/\(∀e u f,es=[e,u]->hj D C f x (.rv e.w u.w)):=by
 induction pX h with
 | @mk n p xs q g=>
  clear h;obtain rfl:=QGy.mp (aD g).1;have g:=(aD g).2;constructor
  ·intro e f F
   subst F;refine @aV _ _ _ (EY (aD g).2) λy Q=>?_;subst Q;have l:=gd H (aD g).2;exact @λL K=>Wi (H:=H.H) (D:=D) (C:=C) (x:=y) (a:=e.w) (p:=p) (pos:=q) (fl:=f) (vw (aD g).1) (pU l.2)<|l.1
  ·intro e u f F
   subst F;refine @je _ _ _ _ (Rr (aD g).2) λy z Q=>?_;subst Q;have l:=gd H (aD g).2;exact @λL K=>SY (H:=H.H) (D:=D) (C:=C) (x:=y) (y:=z) (a:=e.w) (b:=u.w) (p:=p) (pos:=q) (fl:=f) (vw (aD g).1) (pU l.2)<|l.1
theorem W3 (H:cG J D) (h:gM x (λn xs=>(n==("reversed")) && (eN C n && ck J C [e] xs))=aB):hj D C f x (.rev e.w):=by
 induction pX h with
 | @mk n p xs q g=>clear h;obtain rfl:=QGy.mp (aD g).1;have g:=(aD g).2;refine @aV _ _ _ (EY (aD g).2) λy Q=>?_;subst Q;have l:=gd H (aD g).2;exact @λL K=>W0 (H:=H.H) (D:=D) (C:=C) (x:=y) (a:=e.w) (p:=p) (pos:=q) (fl:=f) (vw (aD g).1) (pU l.2)<|l.1
end
noncomputable def Bz (o:Option dQ):Bool:=decide (o=aA .cell)||decide (o=some .free)
theorem FU (h:Bz o=aB):o=aA .cell\/o=aA .free:=(QEo.mp h).imp QHC QHC
noncomputable def QDD (s:jP):Bool:=decide (s.kind=.function)
noncomputable def PC (C:Fc) (scope:jP) (t:cQ) (target iter:aP):Bool:=
 decide ((scope.names.map (·.1)).Nodup) && (QDD scope && (scope.names.all (λx=>if x.2==.free then (C.cM x.1).isSome && Bz (C.K x.1) else aB) &&
 (scope.names.all (λx=>if j8 x.2 && !(x.1==n5) then (j3 t).contains (C.bd+scope.names.findIdx (·.1==x.1)) else aB) && ((j3 t).all (λi=>eV C.bd i && cP i 1000000) &&
 (dD iter && (aB && (eV (C.bd+200) 1000000 && eV scope.names.length 200)))))))
structure B_ (C:Fc) (scope:jP) (t:cQ) (target iter:aP):Prop where
 ok:mc C scope t target iter
 hb:C.bd+200<=1000000/\scope.names.length<=200
theorem Yg (h:PC C scope t target iter=aB):B_ C scope t target iter:=by
 refine bI (aD h) λA h=>bI (aD h) λH h=>bI (aD h) λQ h=>bI (aD h) λb h=>bI (aD h) λd h=>bI (aD h) λP h=>bI (aD h) λB h=>⟨⟨d5 A,?_,λx M f=>?_,λx M o hd=>?_,λi j=>?_,Nt P⟩,bJ (aD h).1,bJ (aD h).2⟩
 ·exact QHC H
 ·have:=dR.mp Q x M
  rw[if_pos (by simp only[f];rfl)] at this;exact ⟨(aD this).1,FU (aD this).2⟩
 ·have:=dR.mp b x M
  rw[if_pos (by (erw[o];erw[hd]);rfl)] at this;exact Hi.mp this
 ·have:=aD (dR.mp d i j)
  exact ⟨bJ this.1,bJ this.2⟩
noncomputable def BF (C:Fc) (t:cQ) (x:aP):Bool:=match t with
 |.one i=>bS x λn=>cw C n i
 |.tup o=>gv x λR=>iz (λx i=>bS x λn=>cw C n i) R o
theorem PH {D:Wd} (h:BF C t x=aB):nH D C x t:=by
 induction t with
 |one i=>have h:bS x (λn=>cw C n i)=true:=h;induction dq h with|mk g=>exact @λd r R=>Gb<|fm g
 |tup o=>
  have h:gv x (λv=>iz (λx i=>bS x λn=>cw C n i) v o)=true:=h;induction tL h with
  |mk g=>have n:=mf (P:=λv o=>qi C v o) .nil (λx v i o h g=>by induction dq h with|mk h=>exact .cons (fm h) g) g;exact @λd r R=>E4 n
section
noncomputable def vO (J:Ci) (C:Fc) (a:Fc->aP->Bool) (t:cQ) (K:aP->Bool) (ts:List TW) (e:aP) (gs:List H8) (s:jP):Bool:=cI gs λg=>(g.is_async==0) && (PC C s t g.target g.iter && (K g.iter &&
 (if h:C.bd+200<=1000000/\s.names.length<=200 then BF (C.sub s.names aB aE h) t g.target && (Bc J (C.sub s.names aB aE h) ts g.ifs && a (C.sub s.names aB aE h) e) else aE)))
inductive Mc (J:Ci) (D:Wd) (C:Fc) (ke:Fc->aP->Bool) (t:cQ) (ki:aP->Bool) (ts:List TW) (e:aP) (s:jP):List H8->Prop
 |mk {target iter:Expr} {ifs:List Expr} (hb:C.bd+200<=1000000/\s.names.length<=200):mc C s t target iter->ki iter=true->nH D (C.sub s.names true false hb) target t->oF D (C.sub s.names true false hb) ifs (ts.map TW.w)->ke (C.sub s.names true false hb) e=true->Mc J D C ke t ki ts e s [⟨target,iter,ifs,0⟩]
theorem JC (H:cG J D) (h:vO J C ke t ki ts e gs s=aB):Mc J D C ke t ki ts e s gs:=by
 induction mC h with
 | @mk v g=>obtain ⟨c,i,f,as⟩:=v;clear h;obtain rfl:as=0:=QGy.mp (aD g).1;have g:=(aD g).2;have w:=Yg (aD g).1;have g:=(aD g).2;have o:=(aD g).2;rw[dif_pos w.hb] at o;exact .mk w.hb w.ok (aD g).1 (PH (aD o).1) (Vx H (aD (aD o).2).1) (aD (aD o).2).2
theorem QCR (H:cG J D) (e: ∀{C y},ke C y=aB->aZ D C y a) (i: ∀{y f},ki y=aB->hj D C f y it) (h:vF x (vO J C ke t ki ts)=aB):aZ D C x (.comp a t it<|ts.map TW.w):=by
 induction OY h with
 |mk g=>induction JC H g with|mk b o s Y Q q=>exact JQ o (i s) Y Q<|e q
end
inductive Ks|no|asg|aug|ex|b7|e6|la|ret|cont|del
noncomputable def Ks.num:Ks->Nat|.no=>0|.asg=>1|.aug=>2|.ex=>3|.b7=>4|.e6=>5|.la=>6|.ret=>7|.cont=>8|.del=>9
noncomputable def Ks.of:Nat->Ks|1=>.asg|2=>.aug|3=>.ex|4=>.b7|5=>.e6|6=>.la|7=>.ret|8=>.cont|9=>.del|_=>.no
theorem Ks.xr (k:Ks):Ks.of k.num=k:=by induction k<;>rfl
theorem Ks.eq {a b:Ks} (h:bt a.num b.num=aB):a=b:=cv a.xr<|cv b.xr<|sb (Nat.eq_of_beq_eq_true h) rfl
structure Ns where
 t:Ks:=.no
 a:Expr:=x0
 b:Expr:=x0
 es:List Expr:=[]
 op:Operator:=.Add
 ss:List Stmt:=[]
 sr:List Stmt:=[]
 oa:Option Expr:=aF
 p:Pos:=default
noncomputable def ns (x:cx):Ns:=x.casesOn (motive_2:=λO=>Ns) (λO O O O O O O O O O=>{}) (λO O O O O O O O O O=>{}) (λO O O O O O O O O O O=>{}) (λoa p=>{t:=.ret,oa,p}) (λes p=>{t:=.del,es,p}) (λes a p=>{t:=.asg,es,a,p}) (λO O O O O O O=>{}) (λa op b p=>{t:=.aug,a,op,b,p}) (λO O O O O=>{}) (λa b ss sr p=>{t:=.e6,a,b,ss,sr,p}) (λO O O O O=>{}) (λa ss sr p=>{t:=.la,a,ss,sr,p}) (λa ss sr p=>{t:=.b7,a,ss,sr,p}) (λO O O=>{}) (λO O O=>{}) (λO O O=>{}) (λO O O=>{}) (λO O O O O=>{}) (λO O O O O=>{}) (λO O O=>{}) (λO O=>{}) (λO O O O=>{}) (λO O=>{}) (λO O=>{}) (λa p=>{t:=.ex,a,p}) (λO=>{}) (λO=>{}) λp=>{t:=.cont,p}
noncomputable def Ns.mk' (n:Ns):Stmt:=match n.t with
 |.no=>.Pass n.p
 |.asg=>.Assign n.es n.a n.p
 |.aug=>.AugAssign n.a n.op n.b n.p
 |.ex=>.Expr n.a n.p
 |.b7=>.If n.a n.ss n.sr n.p
 |.e6=>.For n.a n.b n.ss n.sr n.p
 |.la=>.While n.a n.ss n.sr n.p
 |.ret=>.Return n.oa n.p
 |.cont=>.Continue n.p
 |.del=>.Delete n.es n.p
theorem Yz (s:cx):(ns s).t=.no\/s=(ns s).mk':=by cases s<;>first|exact .inr rfl|exact .inl rfl
noncomputable def os (x:cx) (k:Ks) (b:Ns->Bool):Bool:=bt (ns x).t.num k.num && b (ns x)
theorem nF {P:cx->Prop} {k:Ks} (h:os x k b=aB) (K:k≠ .no) (f: ∀n,b n=aB->P (Ns.mk' {n with t:=k})):P x:=by
 refine bI (aD h) λA H=>?_;have e:=Ks.eq A;refine cp (Yz x) (λq=>?_) λq=>?_
 ·exact QGv (e.symm.trans q) K
 ·erw[q]
  have:=f _ H;rw[<-e] at this;exact this
section
variable {t:T} {it:I} {ss sr:List SW} {ka kb kc:aP->Bool} {i:Nat}
theorem xw {α:Type} {l:List α} (h:l.isEmpty=aB):l=[]:=Py.mp h
theorem lk {Y:S} {k:aP->aP->bP->Bool} (f: ∀t v p,k t v p=aB->bY D C (.Assign [t] v p) Y) (h:os s .asg (λn=>cI n.es λt=>k t n.a n.p)=aB):bY D C s Y:=nF (P:=λs=>bY D C s Y) h nofun λn g=>by generalize n.es=es at g;induction mC g with|mk g=>exact f _ _ _ g
theorem QCa (A: ∀{y},ka y=aB->aZ D C y a) (h:os s .asg (λn=>cI n.es λt=>bS t λx=>cw C x i && (eC n.a && ka n.a))=aB):bY D C s (.asg (.one i) a):=
 lk (k:=λt v O=>bS t λx=>cw C x i && (eC v && ka v)) (λt v p g=>by
  induction dq g with
  |mk r=>exact @λl K=>I4 (D:=D) (C:=C) (t:=.one i) (a:=a) (λO=>rE (aD (aD r).2).1 _ _ _) (λO=>rfl) (λO=>rfl) (A (aD (aD r).2).2)<|@λd R U=>Gb<|fm (aD r).1) h
noncomputable def yO (x:aP):Bool:=oB x λk=> !bt k.num Kd.no.num && !bt k.num Kd.tup.num
theorem QCt (n:Nd) (h:n.t≠ .tup) (es:List aP) (k:Nat) (p:bP) (env:cg):mQ [.Tuple es k p] n.mk' env=pure none:=by unfold Nd.mk';cases e:n.t<;>first|rfl|exact absurd e h
theorem VM {y:aP} (h:yO y=aB) (es:List aP) (k:Nat) (p:bP) (env:cg):mQ [.Tuple es k p] y env=pure none:=by
 unfold yO oB at h;refine cp (zJ y) (λq=>?_) λq=>?_
 ·rw[q] at h
  exact bq h
 ·exact sb q<|QCt _ (λe=>by rw[e] at h;exact bq h) _ _ _ _
theorem RK (A: ∀{y},ka y=aB->aZ D C y a) (h:os s .asg (λn=>cI n.es λt=>gv t λxs=>iz (λx i=>bS x λn=>cw C n i) xs o && (yO n.a && (eC n.a && ka n.a)))=aB):bY D C s (.asg (.tup o) a):=
 lk (k:=λt v O=>gv t λxs=>iz (λx i=>bS x λn=>cw C n i) xs o && (yO v && (eC v && ka v))) (λt v p g=>by
  induction tL g with
  |mk r=>
   have n:=mf (P:=λxs o=>qi C xs o) .nil (λx xs i o h g=>by induction dq h with|mk H=>exact .cons (fm H) g) (aD r).1;have g:=(aD r).2
   exact @λl K=>I4 (D:=D) (C:=C) (t:=.tup o) (a:=a) (λO=>rE (aD (aD g).2).1 _ _ _) (VM (aD g).1 _ _ _) (λO=>rfl) (A (aD (aD g).2).2)<|@λd R U=>E4 n) h
noncomputable def nA (K:aG->Option dQ) (ts:List aP):List Str:=
 let l:=(ts.head?.map (·.pos.line)).getD 0
 ts.filterMap λx=>swappedStores.match_8 (λO=>Option aG) x (λi p=>if K i==aA .local && p.line==l then aA i else aF) λO=>aF
noncomputable def BU (K:aG->Option dQ) (ts vs:List aP):Bool:= !(!(ts.length==2||ts.length==3)||vs.length !=ts.length) && (!(vs.any λx=>swappedStores.match_5 (λO=>Bool) x (λO O=>aB) λO=>aE) && (!((nA K ts).length !=ts.length||(nA K ts).eraseDups.length !=(nA K ts).length) && (!(vs.all<|foldedForSure 8) && !(vs.all<|constantsAlone 8))))
theorem BR {α:Type} {x y:α} (h:(!c)=aB):(if c then x else y)=y:=by erw[rp h];rfl
theorem QBz {K:aG->Option dQ} {ts vs:List aP} {k b:Nat} (h:BU K ts vs=aB) (A:env.scope.kind=.function) (H: ∀x,env.kindOf x=K x):mQ [.Tuple ts k p] (.Tuple vs b P) env=pure (aA<|nA K ts):=by
 have g:=aD h;dsimp only[mQ];refine sb (funext H:env.kindOf=K)<|(if_neg ?_).trans<|(BR (aD g.2).1).trans<|(BR (aD (aD g.2).2).1).trans<|(BR (aD (aD (aD g.2).2).2).1).trans<|(BR (aD (aD (aD g.2).2).2).2).trans rfl
 erw[(by dsimp only[Env.blockKind];refine sb A ?_;rfl:env.blockKind=.function)];exact sb (rp g.1)<|nofun
noncomputable def EO (C:Fc):List aG->List Nat->Bool:=iz λx i=>cw C x i
theorem y_ (A: ∀{y},ka y=aB->aZ D C y a) (h:os s .asg (λn=>cI n.es λt=>gv t λxs=>gv n.a λvs=>(BU C.K xs vs && (EO C (nA C.K xs) o && decide o.Nodup)) && (eC n.a && ka n.a))=aB):bY D C s (.asg (.tup o) a):=
 lk (k:=λt v O=>gv t λxs=>gv v λvs=>(BU C.K xs vs && (EO C (nA C.K xs) o && decide o.Nodup)) && (eC v && ka v)) (λt v p g=>by
  induction tL g with
  |mk B=>
   cases tL B with
   |mk f=>
    have z:=aD (aD f).1
    exact @λl r=>TV (D:=D) (C:=C) (a:=a) (λO=>rE (aD (aD f).2).1 _ _ _) (λenv H m=>QBz z.1 H m) (mf (P:=λxs o=>nz C xs o) .nil (λx xs i o h g=>.cons (fm h) g) (aD z.2).1) (d5 (aD z.2).2)<|A (aD (aD f).2).2) h
end
section
variable {J:Ci} {D:Wd} {C:Fc} {s:cx} {x:aP} {a b:E} {t:T} {it:I} {ss sr:List SW} {es:List EW} {ka kb kc:aP->Bool} {i j:Nat}
theorem Tw (H:cG J D) (hb: ∀{y},kb y=aB->aZ D C y b) (h:yW x (λy o z=>decide (o=.Mult) && (n9 y (ck J C es) && kb z))=aB):qc D C x (.aH .Mult (.list<|es.map EW.w) b):=by
 induction Ol h with
 |mk g=>cases d5 (aD g).1;induction Bp (aD (aD g).2).1 with|mk t=>exact @λl K=>W5 (gd H t).1<|hb (aD (aD g).2).2
theorem QCd (H:cG J D) (A: ∀{y},ka y=aB->aZ D C y a) (h:fk x (λy n p xs q=>(J.hm.lookup 2==aA n) && (fg y p q xs && (ka y && ck J C es xs)))=aB):qc D C x (.jU 2 a<|es.map EW.w):=by
 induction qG h with
 |mk g=>obtain ⟨f,q⟩:=H.hm _ _<|QGy.mp (aD g).1;have g:=(aD g).2;exact @λl K=>QDX (H:=H.H) (HR:=H.R) (D:=D) (C:=C) q (nY (aD g).1) (A (aD (aD g).2).1) (gd H (aD (aD g).2).2).1
theorem VL (A: ∀{y},ka y=aB->qc D C y a) (h:os s .asg (λn=>cI n.es λt=>bS t λx=>(C.nw && cw C x i) && (eC n.a && ka n.a))=aB):bY D C s (.own i a):=
 lk (k:=λt v O=>bS t λx=>(C.nw && cw C x i) && (eC v && ka v)) (λt v p g=>by
  induction dq g with
  |mk r=>exact @λl K=>Yc (D:=D) (C:=C) (aD (aD r).1).1 (fm (aD (aD r).1).2) (λO=>rE (aD (aD r).2).1 _ _ _)<|A (aD (aD r).2).2) h
theorem QAd: ∀env,env.scope.kind=.function->(∀x,env.kindOf x=C.K x)->
 jj [.Name nm N] (.ListComp elt gens scope v) l env=pure (C.K nm==aA .local && N.line==v.line && !(scope.names.any λ(n,k)=>n==nm && (k==.local||k==.cell))):=λenv h H=>by
 show pure (env.blockKind==.function && env.kindOf nm==aA .local && N.line==v.line && _)=_;rw[(by unfold Env.blockKind;erw[h];rfl:env.blockKind=.function),H];rfl
theorem QAe (H:cG J D) (F: ∀{C y},ke C y=aB->aZ D C y a) (d: ∀{y f},ki y=aB->hj D C f y it) (h:os s .asg (λn=>cI n.es λt=>bS t λx=>vF n.a λe gs R=>cw C x i && vO J C ke c ki ts e gs R)=aB):bY D C s (.asg (.one i)<|.comp a c it<|ts.map TW.w):=
 lk (k:=λt v O=>bS t λx=>vF v λe gs R=>cw C x i && vO J C ke c ki ts e gs R) (λt v p g=>by
  induction dq g with
  |mk r=>
   induction OY r with
   |mk o=>
    induction JC H (aD o).2 with
    |mk B b Z Y Q q=>exact @λl K=>Ws (D:=D) (C:=C) _ QAd (fm (aD o).1) B b (d Z) Y Q<|F q) h
noncomputable def EX (o:Option dQ):Bool:=decide (o=aA .local)
theorem We {o} (h:EX o=aB):o=aA .local:=QHC h
theorem Vg (A: ∀{y},ka y=aB->aZ D C y a) (h:os s .aug (λn=>decide (n.op=op) && bS n.a λx=>(cw C x i && EX (C.K x) && (!(x==("__classdict__")) && !(x==("__debug__")))) && ka n.b)=aB):bY D C s (.aug i op a):=
 nF (P:=λs=>bY D C s<|.aug i op a) h nofun λn g=>by
  have e:=d5 (aD g).1;have g:=(aD g).2;generalize n.a=t at g;refine (?_);rw[e];induction dq g with
  |mk r=>have o:=aD (aD r).1;exact @λl u=>QAq (D:=D) (C:=C) (fm (aD o.1).1) (We (aD o.1).2) (rp (aD o.2).1) (rp (aD o.2).2)<|A (aD r).2
theorem Ap {k:aP->Bool} (f: ∀t p,k t=aB->bY D C (.Expr t p) Y) (h:os s .ex (λn=>k n.a)=aB):bY D C s Y:=nF (P:=λs=>bY D C s Y) h nofun λn g=>f _ _ g
theorem Ko (n:Nd) (p:bP):zt n.mk' p .none=pure .next/\ ∀u t,zt n.mk' p (.str u t)=pure .next:=by unfold Nd.mk';cases n.t<;>exact ⟨rfl,λO O=>rfl⟩
theorem YD (A: ∀{y},ka y=aB->aZ D C y a) (h:os s .ex (λn=>eC n.a && (dD n.a && ka n.a))=aB):bY D C s (.expr a):=Ap (λv p g=> @λl K=>UH (λO=>J6 (aD g).1 _ _ _) (by erw[rG (aD (aD g).2).1];exact (Ko _ _).1) (by erw[rG (aD (aD g).2).1];exact (Ko _ _).2)<|A (aD (aD g).2).2) h
theorem Vu (A: ∀{y},ka y=aB->aZ D C y a) (h:os s .ex (λn=>fk n.a λy n p xs q=>(n==("append")) && (fg y p q xs && ((C.ow && bS y λm=>cq C m i) && cI xs λz=>dD z && ka z)))=aB):bY D C s (.app i a):=
 Ap (k:=λv=>fk v λy n p xs q=>(n==("append")) && (fg y p q xs && ((C.ow && bS y λm=>cq C m i) && cI xs λz=>dD z && ka z))) (λv p g=>by
  induction qG g with
  |mk t=>
   clear g;obtain rfl:=QGy.mp (aD t).1;have o:=aD (aD (aD t).2).2;induction mC o.2 with
   |mk Z=>
    have m:=nY (nm:=("append")) (aD (aD t).2).1;induction dq (aD o.1).2 with
    |mk Y=>exact @λl K=>QCL (D:=D) (C:=C) (aD o.1).1 (jS Y) m (v5 (aD Z).1)<|A (aD Z).2) h
theorem Q9 (H:cG J D) (A: ∀{y},ka y=aB->aZ D C y a) (hb: ∀{y},kb y=aB->aZ D C y .fE) (h:os s .ex (λn=>fk n.a λy n p xs q=>(n==("append")) && (fg y p q xs && (kb y && cI xs λz=>dD z && ka z)))=aB):bY D C s (.qM a):=
 Ap (k:=λv=>fk v λy n p xs q=>(n==("append")) && (fg y p q xs && (kb y && cI xs λz=>dD z && ka z))) (λv p g=>by
  induction qG g with
  |mk t=>
   clear g;obtain rfl:=QGy.mp (aD t).1;have o:=aD (aD (aD t).2).2;induction mC o.2 with
   |mk Z=>exact @λl K=>Q_ (H:=H.H) (D:=D) (C:=C) (hb o.1) (nY (aD (aD t).2).1) (v5 (aD Z).1)<|A (aD Z).2) h
theorem SI (h:os s .ex (λn=>fk n.a λy n p xs q=>(n==("reverse")) && (fg y p q xs && ((C.ow && bS y λm=>cq C m i) && xs.isEmpty)))=aB):bY D C s (.qe i):=
 Ap (k:=λv=>fk v λy n p xs q=>(n==("reverse")) && (fg y p q xs && ((C.ow && bS y λm=>cq C m i) && xs.isEmpty))) (λv p g=>by
  induction qG g with
  |mk t=>
   clear g;obtain rfl:=QGy.mp (aD t).1;have o:=aD (aD (aD t).2).2;have m:=nY (nm:=("reverse")) (aD (aD t).2).1;cases xw o.2;induction dq (aD o.1).2 with
   |mk Y=>exact @λl K=>YS (D:=D) (C:=C) (aD o.1).1 (jS Y) m) h
theorem Wb (A: ∀{y},ka y=aB->aZ D C y a) (hb: ∀{y},kb y=aB->aZ D C y b) (h:os s .asg (λn=>cI n.es λt=>jE t λo y=>(C.ow && bS o λm=>cq C m i) && (eC n.a && (ka n.a && kb y)))=aB):bY D C s (.set i b a):=
 lk (k:=λt v O=>jE t λo y=>(C.ow && bS o λm=>cq C m i) && (eC v && (ka v && kb y))) (λt v p g=>by
  induction te g with
  |mk r=>
   induction dq (aD (aD r).1).2 with
   |mk f=>exact @λl K=>QAA (D:=D) (C:=C) (aD (aD r).1).1 (jS f) (λO=>rE (aD (aD r).2).1 _ _ _) (A (aD (aD (aD r).2).2).1)<|hb (aD (aD (aD r).2).2).2) h
noncomputable def nn (x:Option aP):Bool:=match x with|none=>aB|_=>aE
theorem Bq {x:Option aP} (h:nn x=aB):x=none:=by induction x;rfl;exact bq h
theorem Uo (n:Nd) (x y:aP) (p:bP) (l:Nat) (env:cg):jj [.Subscript x y p] n.mk' l env=pure false:=by unfold Nd.mk';cases n.t<;>rfl
theorem QCB (h:dD v=aB) (x y:aP) (p:bP) (l:Nat) (env:cg):jj [.Subscript x y p] v l env=pure false:=sb (rG h)<|Uo _ _ _ _ _ _
theorem QDP (H:cG J D) (A: ∀{y},ka y=aB->aZ D C y a) (hb: ∀{y},kb y=aB->aZ D C y .fE) (h:os s .asg (λn=>cI n.es λt=>jE t λo y=>(vd y λp q r=>nn p && (nn q && nn r)) && (dD n.a && (ka n.a && kb o)))=aB):bY D C s (.qZ a):=
 lk (k:=λt v O=>jE t λo y=>(vd y λp q r=>nn p && (nn q && nn r)) && (dD v && (ka v && kb o))) (λt v p g=>by
  induction te g with
  |mk B=>
   induction MK (aD B).1 with
   |mk f=>
    cases Bq (aD f).1
    cases Bq (aD (aD f).2).1
    cases Bq (aD (aD f).2).2
    exact @λl K=>QCg (H:=H.H) (D:=D) (C:=C) (hb (aD (aD (aD B).2).2).2) (λO=>QCB (aD (aD B).2).1 _ _ _ _ _)<|A (aD (aD (aD B).2).2).1) h
end
section
variable {t:T} {it:I} {ss sr:List SW} {es:List EW} {ka kb kc:aP->Bool} {i j:Nat}
theorem QDc (H:cG J D) (h:os s .asg (λn=>cI n.es λt=>bS t λx=>gM n.a λf xs=>(f==("Headers")) && (cI xs λy=>bS y λm=>cq C m j) && ((C.nw && (C.hn && C.ow)) && (cw C x i && jC C ("Headers"))))=aB):bY D C s (.p9 i j):=
 lk (k:=λt v O=>bS t λx=>gM v λf xs=>(f==("Headers")) && (cI xs λy=>bS y λm=>cq C m j) && ((C.nw && (C.hn && C.ow)) && (cw C x i && jC C ("Headers")))) (λt v p g=>by
  induction dq g with
  |mk r=>
   induction pX r with
   |mk o=>
    clear r g;obtain rfl:=QGy.mp (aD (aD o).1).1;induction mC (aD (aD o).1).2 with
    |mk z=>
     induction dq z with
     |mk Y=>
      have e:=aD (aD o).2
      exact @λl K=>UY (H:=H.H) (D:=D) (C:=C) (aD e.1).1 (aD (aD e.1).2).1 (aD (aD e.1).2).2 (fm (aD e.2).1) (oC (aD e.2).2)<|jS Y) h
theorem VN (H:cG J D) (h:os s .asg (λn=>cI n.es λt=>bS t λx=>gM n.a λf xs=>(f==("compute_powers")) && (ck J C es xs && (cw C x i && jC C ("compute_powers"))))=aB):bY D C s (.pd i<|es.map EW.w):=
 lk (k:=λt v O=>bS t λx=>gM v λf xs=>(f==("compute_powers")) && (ck J C es xs && (cw C x i && jC C ("compute_powers")))) (λt v p g=>by
  induction dq g with
  |mk r=>
   induction pX r with
   |mk o=>
    clear r g;obtain rfl:=QGy.mp (aD o).1;have z:=aD (aD o).2
    exact @λl K=>Tb (H:=H.H) (D:=D) (C:=C) (fm (aD z.2).1) (oC (aD z.2).2) (pU (gd H z.1).2) (gd H z.1).1) h
theorem Yp (H:cG J D) (A: ∀{y},ka y=aB->aZ D C y a) (h:os s .del (λn=>cI n.es λt=>jE t λo y=>(bS o λm=>cq C m i) && ka y)=aB):bY D C s (.oT i a):=
 nF (P:=λs=>bY D C s<|.oT i a) h nofun λn g=>by
  generalize n.es=es at g;refine (?_);induction mC g with
  |mk r=>
   induction te r with
   |mk f=>
    induction dq (aD f).1 with
    |mk z=>exact @λl K=>UX (H:=H.H) (D:=D) (C:=C) (jS z)<|A (aD f).2
theorem QBY {K:aP->Bool} (H:cG J D) (Z: ∀{y},K y=aB->eS D C y t) (h:os s .b7 (λn=>K n.a && (kA J C ss n.ss && kA J C sr n.sr))=aB):bY D C s (.b7 t (ss.map SW.w)<|sr.map SW.w):=nF (P:=λs=>bY D C s _) h nofun λn g=> @λl p=>Tg (D:=D) (C:=C) (Z (aD g).1) (lV H (aD (aD g).2).1)<|lV H (aD (aD g).2).2
theorem Z4 {q:aP->Bool} {t:cQ} (H:cG J D) (i: ∀{y f},q y=aB->hj D C f y it) (h:os s .e6 (λn=>(n.sr.isEmpty && dD n.b) && (q n.b && (BF C t n.a && kA J C ss n.ss)))=aB):bY D C s (.e6 t it<|ss.map SW.w):=nF (P:=λs=>bY D C s _) h nofun λn g=>by have e:=xw (aD (aD g).1).1;rw[e];exact @λl K=>TQ (D:=D) (C:=C) (Nt (aD (aD g).1).2) (i (aD (aD g).2).1) (@λd r R=>PH (aD (aD (aD g).2).2).1)<|lV H (aD (aD (aD g).2).2).2
theorem Q4 {K:aP->Bool} (H:cG J D) (Z: ∀{y},K y=aB->eS D C y t) (h:os s .la (λn=>n.sr.isEmpty && (K n.a && kA J C ss n.ss))=aB):bY D C s (.nq t<|ss.map SW.w):=nF (P:=λs=>bY D C s _) h nofun λn g=>by have e:=xw (aD g).1;refine (?_);rw[e];exact @λl r=>Yf (D:=D) (C:=C) (Z (aD (aD g).2).1)<|lV H (aD (aD g).2).2
theorem TF (h:os s .ret (λn=>nn n.oa)=aB):bY D C s (.ret aF):=nF (P:=λs=>bY D C s _) h nofun λn g=>by refine (?_);rw[Bq g];exact @λl K=>XG (D:=D) (C:=C)
theorem Z7 (A: ∀{y},ka y=aB->aZ D C y a) (h:os s .ret (λn=>n.oa.any ka)=aB):bY D C s (.ret<|aA a):=nF (P:=λs=>bY D C s _) h nofun λn g=>by refine (?_);obtain ⟨y,e,g⟩:=QBX g;rw[e];exact @λl K=>Jg (D:=D) (C:=C)<|A g
theorem WX (h:os s .cont (λO=>aB)=aB):bY D C s .cont:=nF (P:=λs=>bY D C s _) h nofun λn g=> @λl K=>Sj (D:=D) (C:=C)
theorem QCk (H:cG J D) (h:os s .e6 (λn=>n.sr.isEmpty && fk n.b λy m p xs q=>(m==("items")) && (fg y p q xs && (xs.isEmpty && bS y λm=>cq C m i)))=aB):bY D C s (.pW i):=
 nF (P:=λs=>bY D C s _) h nofun λn g=>by
  have e:=xw (aD g).1;have g:=(aD g).2;generalize n.b=b at g;refine (?_);rw[e];induction qG g with
  |mk t=>
   clear h g e;obtain rfl:=QGy.mp (aD t).1;have o:=aD (aD t).2;have m:=nY (nm:=("items")) o.1;cases xw (aD o.2).1;induction dq (aD o.2).2 with
   |mk z=>exact @λl K=>QDC (H:=H.H) (D:=D) (C:=C) (jS z) m
noncomputable def JO (C:Fc) (b:Bool) (ka:aP->Bool) (f:aP) (xs:List aP) (ks:List wi) (q:bP):Bool:=uJ f λy n p=>(n==("_convert_string_type" :aG)) && ((bS y λm=>cq C m 0) && ((p.endLine==q.line) && ((cI xs λz=>dD z && ka z) && cI ks λk=>(k.arg==aA ("name" :aG)) && jY k.value λc=>decide (c=.bool b))))
theorem YO (H:cG J D) (s: ∀{y},ka y=aB->aZ D C y a) (h:xt x (JO C b ka)=aB):aZ D C x (.conv b a):=by
 induction DR h with
 | @mk f xs ks q g=>
  induction Gg g with
  | @mk y n p t=>
   clear g h;obtain rfl:=QGy.mp (aD t).1;have g2:=aD (aD t).2;have g3:=aD (aD g2.2).2;have e:=(aD g2.2).1;induction dq g2.1 with
   |mk W=>
    induction mC g3.1 with
    |mk r=>
     induction mC g3.2 with
     | @mk k A=>
      obtain ⟨j,L,Z⟩:=k;clear g3 t g2;obtain rfl:j=aA _:=QGy.mp (aD A).1;have U:jY L (λc=>decide (c=.bool b))=true:=(aD A).2;induction so U with
      |mk Y=>
       cases d5 Y
       exact @λl K=>Rc (H:=H.H) (D:=D) (C:=C) (jS W) ⟨λO=>rfl,λenv=>by simp only[v5 (aD r).1];rfl,e⟩ (v5 (aD r).1)<|s (aD r).2
theorem YR (H:cG J D) (h:(λx=>uJ x λu n O=>(n==("_headers")) && bS u λn=>cq C n 0) x=aB):hj D C f x .fE:= @λl K=>QDE (H:=H.H) (D:=D) (C:=C)<|M5 H h
end
noncomputable def HC (op:kf):List XE->XE
 |[],_,_,_,_=>True
 |e::es,o,s,l,k=>match es with
  |[]=>e o s l k
  |_::_=>e o s l λv l s=>Fs l v s λb s=>DV op b s (λs=>k v l s) λs=>HC op es o s l k
theorem QBQ (h:fw es xs):bC (E.fy op es) (HC op xs):=by
 induction h with
 |nil=>exact ⟨λO O=>trivial⟩
 | @cons w ws x xs a h i=>induction h with
  |nil=>exact ⟨λq f=>a.r q f⟩
  |cons b h=>exact ⟨λq f=>a.r q λO O O q=>PG q λO O q=>Jt q (λO q=>f _ _ _ q) λO q=>i.r q f⟩
theorem ebs {J:Ci} {D:Wd} (H:cG J D): ∀{xs:List aP},ck J C es xs=aB->xs≠[]->xf D C o xs (es.map EW.w):=by
 induction es with
 |nil=>exact λ{xs} h n=>by cases xs;exact QGv rfl n;exact bq h
 |cons e es i=>
  exact λ{xs} h n=>by
   cases xs with
   |nil=>exact QGv rfl n
   |cons x xs=>
    have a:= @EW.snd e J D C x H (aD (aD h).1).2;clear n;cases es with
    |nil=>cases xs with
     |nil=>exact @λp l K=>TA a
     |cons y Y=>cases (aD h).2
    |cons u es=>cases xs with
     |nil=>cases (aD h).2
     |cons y Y=>exact @λp l K=>QAb a<|i (aD h).2 nofun
theorem Xu {J:Ci} {D:Wd} (H:cG J D) (h:yH x (λp xs=>decide (p=o) && (ck J C es xs && !xs.isEmpty))=aB):aZ D C x (.fy o<|es.map EW.w):=by
 induction KY h with
 |mk g=>
  cases d5 (aD g).1
  have t:=(aD g).2;exact @λl K=>R5 (ebs H (aD t).1 λe=>by rw[e] at t;exact bq<|(aD t).2)
namespace EW
noncomputable def none:EW:=⟨.none,X.ret<|.d .none,x5,λO O x=>jY x λc=>decide (c=.none),λO h=>Az I_ h⟩
noncomputable def bool (b:Bool):EW:=⟨.bool b,X.ret<|.d<|.bool b,x5,λO O x=>jY x λc=>decide (c=.bool b),λO h=>Az X4 h⟩
noncomputable def int (i:Int):EW:=⟨.int i,X.ret<|.d<|.int i,x5,λO O x=>jY x λc=>decide (c=.int i),λO h=>Az ZH h⟩
noncomputable def str (s:aG):EW:=⟨.str s,X.ret<|.d<|.str s,x5,λO O x=>jY x λc=>decide (c=.str s),λO h=>Az Mt h⟩
noncomputable def aC (i:Nat):EW:=⟨.aC i,X.aC i,a_,λO C x=>bS x λn=>cq C n i,λO h=>S_ h⟩
noncomputable def qJ (i:Nat):EW:=⟨.qJ i,X.qJ i,YC,λO C x=>C.ow && bS x λn=>cq C n i,λO h=>VJ h⟩
noncomputable def aH (op:iG) (a b:EW):EW:=⟨.aH op a.w b.w,X.aH op a.x b.x,Jv a.ok b.ok,λJ C x=>yW x λy o z=>decide (o=op) && (a.bU J C y && b.bU J C z),λH h=>QDS (a.snd H) (b.snd H) h⟩
noncomputable def neg (a:EW):EW:=⟨.neg a.w,X.neg a.x,Rw a.ok,λJ C x=>vG x λp y=>decide (p=.USub) && a.bU J C y,λH h=>KD QCv (a.snd H) h⟩
noncomputable def inv (a:EW):EW:=⟨.inv a.w,X.inv a.x,d_ a.ok,λJ C x=>vG x λp y=>decide (p=.Invert) && a.bU J C y,λH h=>KD QDY (a.snd H) h⟩
noncomputable def cmp (op:fU) (a b:EW):EW:=⟨.cmp op a.w b.w,X.ofT<|X.Bd op a.x b.x,W9 a.ok b.ok,λJ C x=>kx x op λy z=> !sJ op z && (a.bU J C y && b.bU J C z),λH h=>(Nz (a.snd H) (b.snd H) h).1⟩
noncomputable def fy (op:kf) (es:List EW):EW:=⟨.fy op<|es.map EW.w,HC op<|es.map EW.x,QBQ<|jt es,λJ C x=>yH x λp xs=>decide (p=op) && (ck J C es xs && !xs.isEmpty),λH h=>Xu H h⟩
noncomputable def ite (c:TW) (a b:EW):EW:=⟨.ite c.w a.w b.w,X.ite c.x a.x b.x,X9 c.ok a.ok b.ok,λJ C x=>EC x λz y w=>c.bU J C z && (a.bU J C y && b.bU J C w),λH h=>RY (c.snd H) (a.snd H) (b.snd H) h⟩
noncomputable def list (es:List EW):EW:=⟨.list<|es.map EW.w,X.list<|es.map EW.x,EN<|jt es,λJ C x=>n9 x<|ck J C es,λH h=>(Ov H h).1⟩
noncomputable def tup (es:List EW):EW:=⟨.tup<|es.map EW.w,X.tup<|es.map EW.x,QDO<|jt es,λJ C x=>gv x<|ck J C es,λH h=>J_ H h⟩
noncomputable def comp (e:EW) (t:cQ) (it:IW) (cs:List TW):EW:=⟨.comp e.w t it.w<|cs.map TW.w,X.comp e.w t it.x<|cs.map TW.w,O6 it.ok,λJ C x=>vF x<|vO J C (e.bU J) t (it.bU J C) cs,λH h=>QCR H (e.snd H) (it.snd H) h⟩
noncomputable def au (a b:EW):EW:=⟨.au a.w b.w,X.au a.x b.x,QDA a.ok b.ok,λJ C x=>jE x λy z=>yV z && (a.bU J C y && b.bU J C z),λH h=>ZK (a.snd H) (b.snd H) h⟩
noncomputable def px (e:Option EW):XE:=match e with|some e=>e.x|.none=>X.ret<|.d .none
theorem E7 (e:Option EW):bC (pw e) (px e):=by cases e;exact x5;exact EW.ok _
noncomputable def dM (a:EW) (l i st:Option EW):EW:=⟨.dM a.w (pw l) (pw i)<|pw st,X.dM a.x (px l) (px i)<|px st,VU a.ok (E7 l) (E7 i)<|E7 st,λJ C x=>jE x λy z=>vd z λp q r=>a.bU J C y && (tI J C l p && (tI J C i q && tI J C st r)),λH h=>Zf H (a.snd H) h⟩
noncomputable def call (f:Nat) (es:List EW):EW:=⟨.call f<|es.map EW.w,X.call f<|es.map EW.x,QCE<|jt es,λJ C x=>gM x λn xs=>(J.fns.lookup f==some n) && (jC C n && ck J C es xs),λH h=>WW H h⟩
noncomputable def jH (f i:Nat) (es:List EW):EW:=⟨.jH f i<|es.map EW.w,X.jH f i<|es.map EW.x,WM<|jt es,λJ C x=>gM x λn xs=>J.cN f C && (cq C n i && ck J C es xs),λH h=>ZZ H h⟩
noncomputable def bi (b:Bi) (es:List EW):EW:=⟨.bi b<|es.map EW.w,X.bi b<|es.map EW.x,VS<|jt es,λJ C x=>gM x λn xs=>(n==ym b) && (eN C n && ck J C es xs),λH h=>H_ H h⟩
noncomputable def sm (m:Sm) (a:EW) (es:List EW):EW:=⟨.sm m a.w<|es.map EW.w,X.sm m a.x<|es.map EW.x,Ua a.ok<|jt es,λJ C x=>fk x λy n p xs q=>(n==BG m) && (fg y p q xs && (a.bU J C y && ck J C es xs)),λH h=>kSm H (a.snd H) h⟩
noncomputable def qF (a:EW) (y z:aG):EW:=⟨.qF a.w y z,X.qF a.x y z,QAi a.ok,λJ C x=>fk x λu n p xs q=>(n==("replace" :aG)) && (fg u p q xs && (!(y==z) && (a.bU J C u && yL (λs r=>(jY s λc=>decide (c=.str y)) && (jY r λc=>decide (c=.str z))) xs))),λH h=>Vm (a.snd H) h⟩
noncomputable def iN (n:Bool) (a:EW):EW:=⟨.iN n a.w,X.ofT<|X.iN n a.x,QAK a.ok,λJ C x=>kx x (if n then .IsNot else .Is) λy z=>isNone z && a.bU J C y,λH h=>(J1 (a.snd H) h).1⟩
noncomputable def qE (a:EW):EW:=⟨.qE a.w,X.qE a.x,QBO a.ok,λJ C x=>kx x .In λy z=>(bS z λn=>(n==("b1_set" :aG)) && jC C n) && a.bU J C y,λH h=>Sb H (a.snd H) h⟩
noncomputable def qB (a:EW):EW:=⟨.qB a.w,X.qB a.x,Vi a.ok,λJ C x=>fk x λu n p xs q=>(bS u λn=>(n==("b3_exceptions" :aG)) && jC C n) && ((n==("get" :aG)) && (fg u p q xs && cI xs λy=>dD y && a.bU J C y)),λH h=>Yx H (a.snd H) h⟩
noncomputable def pV (s:aG):EW:=⟨.pV s,X.pV s,QCS,λO C x=>bS x λn=>(n==s) && jC C n,λH h=>WN H h⟩
noncomputable def jr (k:Nat) (a:EW) (es:List EW):EW:=⟨.jr k a.w<|es.map EW.w,X.jr k a.x<|es.map EW.x,MG a.ok<|jt es,λJ C x=>fk x λy n p xs q=>(J.hm.lookup k==some n) && (cP k 20 && (fg y p q xs && (a.bU J C y && ck J C es xs))),λH h=>(NR H (a.snd H) h).1⟩
noncomputable def QGR (k:Nat) (a:EW) (es:List EW):EW:=⟨.jr k a.w<|es.map EW.w,X.jr k a.x<|es.map EW.x,MG a.ok<|jt es,λJ C x=>gM x λn xs=>(J.hm.lookup k==some n) && (eV 20 k && (jC C n && match xs with|y::xs=>dD y && (a.bU J C y && ck J C es xs)|[]=>aE)),λH h=>kHf H (a.snd H) h⟩
noncomputable def jU (k:Nat) (a:EW) (es:List EW):EW:=⟨.jU k a.w<|es.map EW.w,X.jU k a.x<|es.map EW.x,LF a.ok<|jt es,λJ C x=>fk x λy n p xs q=>(J.hm.lookup k==some n) && (cP k 20 && (fg y p q xs && (a.bU J C y && ck J C es xs))),λH h=>(NR H (a.snd H) h).2⟩
noncomputable def conv (b:Bool) (a:EW):EW:=⟨.conv b a.w,X.conv b a.x,QCo a.ok,λJ C x=>xt x<|JO C b<|a.bU J C,λH h=>YO H (a.snd H) h⟩
noncomputable def fE:EW:=⟨.fE,X.fE,Ul,λO C x=>uJ x λu n O=>(n==("_headers" :aG)) && bS u λn=>cq C n 0,λH h=>M5 H h⟩
end EW
namespace TW
noncomputable def not (t:TW):TW:=⟨.not t.w,X.not t.x,TB t.ok,λJ C x=>vG x λp y=>decide (p=.Not) && t.bU J C y,λH h=>QDW (t.snd H) h⟩
noncomputable def fy (op:kf) (ts:List TW):TW:=⟨.fy op<|ts.map TW.w,bX op<|ts.map TW.x,Wr<|M6 ts,λJ C x=>yH x λp es=>decide (p=op) && Bc J C ts es,λH h=>QBf H h⟩
noncomputable def aC (i:Nat):TW:=⟨.aC i,X.MD i,t_,λO C x=>bS x λn=>cq C n i,λO h=>Uj h⟩
noncomputable def cmp (op:fU) (a b:EW):TW:=⟨.cmp op a.w b.w,X.Bd op a.x b.x,RI a.ok b.ok,λJ C x=>kx x op λy z=> !sJ op z && (a.bU J C y && b.bU J C z),λH h=>(Nz (a.snd H) (b.snd H) h).2⟩
noncomputable def iN (n:Bool) (a:EW):TW:=⟨.iN n a.w,X.iN n a.x,QDe a.ok,λJ C x=>kx x (if n then .IsNot else .Is) λy z=>isNone z && a.bU J C y,λH h=>(J1 (a.snd H) h).2⟩
noncomputable def eN (n b:Bool) (a:EW):TW:=⟨.eN n b a.w,X.eN n b a.x,g_ a.ok,λJ C x=>kx x (if n then .IsNot else .Is) λy z=>(jY z λc=>decide (c=.bool b)) && a.bU J C y,λH h=>Y9 (a.snd H) h⟩
end TW
namespace NW
noncomputable def list (es:List EW):NW:=⟨.list<|es.map EW.w,X.list<|es.map EW.x,EN<|jt es,λJ C x=>n9 x<|ck J C es,λH h=>(Ov H h).2⟩
noncomputable def mul (es:List EW) (b:EW):NW:=⟨.aH .Mult (.list<|es.map EW.w) b.w,X.aH .Mult (X.list<|es.map EW.x) b.x,Jv (EN<|jt es) b.ok,λJ C x=>yW x λy o z=>decide (o=.Mult) && (n9 y (ck J C es) && b.bU J C z),λH h=>Tw H (b.snd H) h⟩
noncomputable def items (a:EW) (es:List EW):NW:=⟨.jU 2 a.w<|es.map EW.w,X.jU 2 a.x<|es.map EW.x,LF a.ok<|jt es,λJ C x=>fk x λy n p xs q=>(J.hm.lookup 2==some n) && (fg y p q xs && (a.bU J C y && ck J C es xs)),λH h=>QCd H (a.snd H) h⟩
end NW
namespace IW
noncomputable def aC (i:Nat):IW:=⟨.aC i,X.F5 i,Tf,λO C x=>bS x λn=>cq C n i,λO h=>QDa h⟩
noncomputable def jA (a:EW):IW:=⟨.jA a.w,X.jA a.x,Tv a.ok,λJ C x=>gM x λn xs=>(n==("range" :aG)) && (eN C n && ck J C [a] xs),λH h=>(PJ H h).1 _ _ rfl⟩
noncomputable def rv (a b:EW):IW:=⟨.rv a.w b.w,X.rv a.x b.x,SX a.ok b.ok,λJ C x=>gM x λn xs=>(n==("range" :aG)) && (eN C n && ck J C [a,b] xs),λH h=>(PJ H h).2 _ _ _ rfl⟩
noncomputable def rev (a:EW):IW:=⟨.rev a.w,X.rev a.x,UN a.ok,λJ C x=>gM x λn xs=>(n==("reversed" :aG)) && (eN C n && ck J C [a] xs),λH h=>W3 H h⟩
noncomputable def jZ (a:EW):IW:=⟨.jZ a.w,X.jZ a.x,SK a.ok,a.bU,λH h=>QDK<|a.snd H h⟩
noncomputable def fE:IW:=⟨.fE,X.Mp,QCc,λO C x=>uJ x λu n O=>(n==("_headers" :aG)) && bS u λn=>cq C n 0,λH h=>YR H h⟩
end IW
open EW renaming call->Q1
theorem QCr {J:Ci} {D:Wd} {ka:aP->Bool} (H:cG J D) (A: ∀{y},ka y=aB->aZ D C y a) (h:kx x .IsNot (λy z=>(gM y λn xs=>(n==("type")) && (eN C n && cI xs λu=>dD u && ka u)) && (bS z λn=>(n==("int")) && eN C n))=aB):eS D C x (.yU a):=by
 induction ye h with
 |mk g=>
  induction pX (aD g).1 with
  |mk t=>
   clear h;obtain rfl:=QGy.mp (aD t).1;induction mC (aD (aD t).2).2 with
   | @mk u o=>
    induction dq (aD g).2 with
    |mk Z=>clear g;obtain rfl:=QGy.mp (aD Z).1;exact @λl K=>Zv (H:=H.H) (D:=D) (C:=C) (vw (aD (aD t).2).1) (vw (aD Z).2) (pU<|f7.mpr ⟨(aD o).1,rfl⟩) (v5 (aD o).1)<|A (aD o).2
noncomputable def TW.yU (a:EW):TW:=⟨.yU a.w,X.Ow a.x,QBK a.ok,λJ C x=>kx x .IsNot λy z=>(gM y λn xs=>(n==("type" :aG)) && (Mine.eN C n && cI xs λu=>dD u && a.bU J C u)) && (bS z λn=>(n==("int" :aG)) && Mine.eN C n),λH h=>QCr H (a.snd H) h⟩
namespace SW
noncomputable def one (i:Nat) (a:EW):SW:=⟨.asg (.one i) a.w,X.asg (.one i) a.x,yI a.ok,λJ C s=>os s .asg λn=>cI n.es λt=>bS t λx=>cw C x i && (eC n.a && a.bU J C n.a),λH h=>QCa (a.snd H) h⟩
noncomputable def tup (is:List Nat) (a:EW):SW:=⟨.asg (.tup is) a.w,X.asg (.tup is) a.x,yI a.ok,λJ C s=>os s .asg λn=>cI n.es λt=>gv t λxs=>iz (λx i=>bS x λn=>cw C n i) xs is && (yO n.a && (eC n.a && a.bU J C n.a)),λH h=>RK (a.snd H) h⟩
noncomputable def Aa (is:List Nat) (a:EW):SW:=⟨.asg (.tup is) a.w,X.asg (.tup is) a.x,yI a.ok,λJ C s=>os s .asg λn=>cI n.es λt=>gv t λxs=>gv n.a λvs=>(BU C.K xs vs && (EO C (nA C.K xs) is && decide is.Nodup)) && (eC n.a && a.bU J C n.a),λH h=>y_ (a.snd H) h⟩
noncomputable def cmp (i:Nat) (e:EW) (t:cQ) (it:IW) (cs:List TW):SW:=⟨.asg (.one i)<|.comp e.w t it.w<|cs.map TW.w,X.asg (.one i)<|X.comp e.w t it.x<|cs.map TW.w,yI<|O6 it.ok,λJ C s=>os s .asg λn=>cI n.es λu=>bS u λx=>vF n.a λf gs R=>cw C x i && vO J C (e.bU J) t (it.bU J C) cs f gs R,λH h=>QAe H (e.snd H) (it.snd H) h⟩
noncomputable def own (i:Nat) (a:NW):SW:=⟨.own i a.w,X.own i a.x,UC a.ok,λJ C s=>os s .asg λn=>cI n.es λt=>bS t λx=>(C.nw && cw C x i) && (eC n.a && a.bU J C n.a),λH h=>VL (a.snd H) h⟩
noncomputable def aug (i:Nat) (op:iG) (a:EW):SW:=⟨.aug i op a.w,X.aug i op a.x,o_ a.ok,λJ C s=>os s .aug λn=>decide (n.op=op) && bS n.a λx=>(cw C x i && EX (C.K x) && (!(x==("__classdict__" :aG)) && !(x==("__debug__" :aG)))) && a.bU J C n.b,λH h=>Vg (a.snd H) h⟩
noncomputable def expr (a:EW):SW:=⟨.expr a.w,X.expr a.x,Wg a.ok,λJ C s=>os s .ex λn=>eC n.a && (dD n.a && a.bU J C n.a),λH h=>YD (a.snd H) h⟩
noncomputable def app (i:Nat) (a:EW):SW:=⟨.app i a.w,X.app i a.x,Xl a.ok,λJ C s=>os s .ex λn=>fk n.a λy n p xs q=>(n==("append" :aG)) && (fg y p q xs && ((C.ow && bS y λm=>cq C m i) && cI xs λz=>dD z && a.bU J C z)),λH h=>Vu (a.snd H) h⟩
noncomputable def qM (a:EW):SW:=⟨.qM a.w,X.qM a.x,RO a.ok,λJ C s=>os s .ex λn=>fk n.a λy n p xs q=>(n==("append" :aG)) && (fg y p q xs && (EW.fE.bU J C y && cI xs λz=>dD z && a.bU J C z)),λH h=>Q9 H (a.snd H) (EW.fE.snd H) h⟩
noncomputable def qZ (a:EW):SW:=⟨.qZ a.w,X.qZ a.x,TX a.ok,λJ C s=>os s .asg λn=>cI n.es λt=>jE t λo y=>(vd y λp q r=>nn p && (nn q && nn r)) && (dD n.a && (a.bU J C n.a && EW.fE.bU J C o)),λH h=>QDP H (a.snd H) (EW.fE.snd H) h⟩
noncomputable def qe (i:Nat):SW:=⟨.qe i,X.qe i,Xr,λJ C s=>os s .ex λn=>fk n.a λy n p xs q=>(n==("reverse" :aG)) && (fg y p q xs && ((C.ow && bS y λm=>cq C m i) && xs.isEmpty)),λH h=>SI h⟩
noncomputable def set (i:Nat) (b a:EW):SW:=⟨.set i b.w a.w,X.set i b.x a.x,QBh b.ok a.ok,λJ C s=>os s .asg λn=>cI n.es λt=>jE t λo y=>(C.ow && bS o λm=>cq C m i) && (eC n.a && (a.bU J C n.a && b.bU J C y)),λH h=>Wb (a.snd H) (b.snd H) h⟩
noncomputable def p9 (i j:Nat):SW:=⟨.p9 i j,X.p9 i j,Wy,λJ C s=>os s .asg λn=>cI n.es λt=>bS t λx=>gM n.a λf xs=>(f==("Headers" :aG)) && (cI xs λy=>bS y λm=>cq C m j) && ((C.nw && (C.hn && C.ow)) && (cw C x i && jC C ("Headers" :aG))),λH h=>QDc H h⟩
noncomputable def oT (i:Nat) (a:EW):SW:=⟨.oT i a.w,X.oT i a.x,WS a.ok,λJ C s=>os s .del λn=>cI n.es λt=>jE t λo y=>(bS o λm=>cq C m i) && a.bU J C y,λH h=>Yp H (a.snd H) h⟩
noncomputable def b7 (c:TW) (ss sr:List SW):SW:=⟨.b7 c.w (ss.map SW.w)<|sr.map SW.w,X.b7 c.x (ss.map SW.x)<|sr.map SW.x,WT c.ok (oU ss)<|oU sr,λJ C s=>os s .b7 λn=>c.bU J C n.a && (kA J C ss n.ss && kA J C sr n.sr),λH h=>QBY H (c.snd H) h⟩
noncomputable def e6 (t:cQ) (it:IW) (ss:List SW):SW:=⟨.e6 t it.w<|ss.map SW.w,X.e6 t it.x<|ss.map SW.w,Zx it.ok,λJ C s=>os s .e6 λn=>(n.sr.isEmpty && dD n.b) && (it.bU J C n.b && (BF C t n.a && kA J C ss n.ss)),λH h=>Z4 H (it.snd H) h⟩
noncomputable def nq (c:TW) (ss:List SW):SW:=⟨.nq c.w<|ss.map SW.w,X.nq c.w<|ss.map SW.w,WA,λJ C s=>os s .la λn=>n.sr.isEmpty && (c.bU J C n.a && kA J C ss n.ss),λH h=>Q4 H (c.snd H) h⟩
noncomputable def ret (a:EW):SW:=⟨.ret<|some a.w,X.LU a.x,Vs a.ok,λJ C s=>os s .ret λn=>n.oa.any<|a.bU J C,λH h=>Z7 (a.snd H) h⟩
noncomputable def BJ:SW:=⟨.ret none,X.BJ,QAD,λJ C s=>os s .ret λn=>nn n.oa,λH h=>TF h⟩
noncomputable def cont:SW:=⟨.cont,X.cont,Wj,λJ C s=>os s .cont λO=>aB,λH h=>WX h⟩
noncomputable def defn (i f:Nat):SW:=⟨.defn i f,X.defn i f,X_,λJ C s=>J.uy f i C s,λH h=>H.uy _ _ _ _ h⟩
noncomputable def pd (i:Nat) (es:List EW):SW:=⟨.pd i<|es.map EW.w,X.pd i<|es.map EW.x,ZM<|jt es,λJ C s=>os s .asg λn=>cI n.es λt=>bS t λx=>gM n.a λf xs=>(f==("compute_powers" :aG)) && (ck J C es xs && (cw C x i && jC C ("compute_powers" :aG))),λH h=>VN H h⟩
noncomputable def pW (i:Nat):SW:=⟨.pW i,X.pW i,RU,λJ C s=>os s .e6 λn=>n.sr.isEmpty && fk n.b λy m p xs q=>(m==("items" :aG)) && (fg y p q xs && (xs.isEmpty && bS y λm=>cq C m i)),λH h=>QCk H h⟩
noncomputable def stuck:SW:=⟨.stuck,X.stuck,VW,λO O O=>aB,λO O=> @λO O h=>h.elim⟩
end SW
theorem QGW (b:List SW) (hs:Hs) (l:Ls) (K:Fl->Ls->Prop):ju l λL=>sX (b.map SW.x) o hs L λv L O=>K v L->sW (b.map SW.w) o l K:=l5<|(oY<|oU b).r id λO O O q=>q
noncomputable def T.tR (p q:fU) (a b c:E):T:=λo l K=>a o l λu l=>b o l λv l=>ve l p u v λz=>two z (c o l λw l=>ve l q v w λz=>K z l)<|K aE l
theorem R3 {o p} (hm:Pz [o,p] [y,w]=aE) (A:aZ D C x a) (B:aZ D C y b) (W:aZ D C w c):eS D C (.Compare x [o,p] [y,w] pos) (.tR o p a b c):= @λO O h=>⟨λK k=>isTrue_chain ((A h).run K λO O h O z R s q=>test_link ((B h).run R λO O h O Z P s2 q2=>by
 induction As h with
 |mk e h=>
  refine wpAny_toks<|AL e P (q.mon s2) q2 λtk l=>oq ?_;have s3:=Sx.kl P (.refl _ _) l;rcases h with ⟨rfl,h⟩|⟨rfl,h⟩
  ·exact test_last ((W h).run (P.kl (.refl _ _) l) λO O h O Y N s4 q4=>by
    induction As h with|mk e h=>exact wpAny_toks<|AL e N ((q2.mon s3).mon s4) q4 λtk l=>oq<|((k _ _ h).tr<|((s.trans s2).trans s3).trans s4).same N l)
  ·exact ((k _ _ h).tr<|s.trans s2).same P l)) hm⟩
noncomputable def X.MX (p q:fU) (a b c:XE):XT:=λo s l k=>a o s l λu l s=>b o s l λv l s=>Ac l p u v s λz s=>tQ z s (λs=>c o s l λw l s=>Ac l q v w s λz s=>k z l s) λs=>k aE l s
theorem F_ {p q} (s:bC a A) (r:bC b B) (t:bC c C):bC (T.tR p q a b c) (X.MX p q A B C):=⟨λh f=>s.r h λO O O h=>r.r h λO O O h=>BQ h λO O h=>vq h (λO h=>t.r h λO O O h=>BQ h λO O h=>f _ _ _ h) λO h=>f _ _ _ h⟩
theorem QDj {o p:fU} {ka kb kc:aP->Bool} (A: ∀{y},ka y=aB->aZ D C y a) (B: ∀{y},kb y=aB->aZ D C y b) (W: ∀{y},kc y=aB->aZ D C y c) (h:Ad x (λy os zs=>decide (os=[o,p]) && yL (λz w=> !Pz [o,p] [z,w] && (ka y && (kb z && kc w))) zs)=aB):eS D C x (.tR o p a b c):=by
 induction Lq h with
 |mk g=>
  cases d5 (aD g).1
  refine @cR _ _ _ _ _ (Kv (aD g).2) λs r e q=>?_;subst e;have t:=(aD (aD q).2).2;exact @λO O=>R3 (rp (aD q).1) (A (aD (aD q).2).1) (B (aD t).1)<|W (aD t).2
noncomputable def TW.tR (o p:fU) (a b c:EW):TW:=⟨.tR o p a.w b.w c.w,X.MX o p a.x b.x c.x,F_ a.ok b.ok c.ok,λJ C x=>Ad x λy os zs=>decide (os=[o,p]) && yL (λz w=> !Pz [o,p] [z,w] && (a.bU J C y && (b.bU J C z && c.bU J C w))) zs,λH h=>QDj (a.snd H) (b.snd H) (c.snd H) h⟩
noncomputable def uv:Sl->Option Nat|.dz n=>aA n|_=>aF
theorem KH {i} (h:uv v=aA i):v=.dz i:=by cases v<;>cases h;rfl
noncomputable def E.gV (i k:Nat):E:=λo l K=>hZ (uv<|aL l i) (λn=>(cP k n && eV k 100)=aB/\K (.bor<|cT i k) l) False
theorem L7 {o:bj} {K:V->Ls->Prop} (h:E.gV i k o l K): ∃n,aL l i=.dz n/\(k<n/\k<=100)/\K (.bor<|cT i k) l:=(nC h).elim (λq=>q.elim λn q=>⟨n,KH q.1,⟨bJ (aD q.2.1).1,bJ (aD q.2.1).2⟩,q.2.2⟩) mE
theorem SG (s: ∀o i,wY (.Constant (.int (k:Nat)) kk p) aE o i=wZ [o,i] (wc o i)) (ok:iA C nm i):aZ D C (.Subscript (.Name nm q) (.Constant (.int (k:Nat)) kk p) pos) (.gV i k):= @λO O h=>⟨λ{X z Q Er} K c=>by
 refine cy (L7 h) λn e l h=>Pc<|uA K ok λv q=>?_;rw[e] at q;refine iU q λa m u e1 na z1=>⟨.ref a,u,wpAny_toks<|QEE λL=>wpAny_toks ?_⟩;refine aV (mO.mp<|z1 k l.1) λb eb=>?_;have hg:((bg n).map λk=>wQ<|(z.φ<|cT i k).getD 0).toArray[bN (k:Int)]?=aA (.ref b):=by rw[lP,zU,DB,QA l.1];simp[eb]
 refine zS (gO e1).typeIs PY.lookup (QEC (gO e1) (dP k) ?_ hg λM=>?_)<|s _ _
 ·exact o5 (om.mpr l.2) (by decide)
 ·have s1:=Sx.kl K (.refl _ _) (az L M)
  exact c _ _ h _ _ (K.kl (.refl _ _)<|az L M) s1 ⟨b,eb,rfl⟩⟩
noncomputable def FT (s:Sl):Bool:=(uv s).isNone
theorem XD {l:Ls} (h:(l.all λp=>FT p.2)=aB) (j n:Nat):aL l j≠ .dz n:=by
 induction l with
 |nil=>exact nofun
 |cons p l i=>
  have g:=aD<|QEp▸h;refine (?_:cond (bt p.1 j) p.2 (aL l j)≠_);induction bt p.1 j with
  |true=>exact λe=>by have:=g.1;rw[show p.2=_ from e] at this;exact bq this
  |false=>exact i g.2
theorem FR.r_ {G:bK} (F:FR P G C env Ob φ W r h) (g:1000001<i) (e:φ i=aA a) (l:h.get? a=aA (listOf vs.toArray n)) (q:bB (Ex Ob W) h vs xs) (w:W a):FR P G C env Ob φ W (upd r i<|.own xs) h:=by
 have u: ∀j,j≠i->upd r i (.own xs) j=r j:=λj d=>QGw d;have lw: ∀x j,C.cM x=aA j->upd r i (.own xs) j=r j:=λx j t=>u j λz=>QGv (C.low x j t) (by omega);have hh:upd r i (.own xs) aT=r aT:=u _ λz=>QGv (z▸g) (by decide);have hw:upd r i (.own xs) bQ=r bQ:=u _ λz=>QGv (z▸g) (by decide);have ii: ∀ys,upd r i (.own xs) i=.own ys->xs=ys:=λys z=>by unfold upd at z;rw[if_pos rfl] at z;cases z;rfl
 exact {F with
  loc:=aS F.loc λm a b=>⟨m,a,λx j k t=>by rw[lw x j t];exact b x j k t⟩
  hF:=λx j k t=>by rw[lw x j t];exact F.hF x j k t
  own:=λj ys z=>by
   by_cases d:j=i
   ·subst d;cases ii _ z;exact ⟨a,vs,n,e,l,q⟩
   ·rw[u j d] at z;exact F.own j ys z
  gR:=λc j ys b z p o=>by
   by_cases d:j=i
   ·subst d;obtain rfl:=bM e p;exact w
   ·rw[u j d] at z;exact F.gR c j ys b z p o
  jb:=λys z y=>F.jb ys (hh▸z) (hw▸y)
  lD:=λys z y=>F.lD ys (hh▸z) (hw▸y)
  lB:=λz=>F.lB<|hh▸z}
theorem UE {vs:List aI} (g:C.nw=aB) (lo:1000001<i) (ng: ∀j n,r j≠ .dz n) (N:NL D C X r z xs a vs n z'): ∃z'',z''.s=z'.s/\FX D C X (upd r i<|.own xs) z''/\Sy C z z''/\z''.φ i=aA a/\ ∀j,j≠i->z''.φ j=z.φ j:=by
 have hw:i≠bQ:=λq=>QGv (q▸lo) (by decide);have H:i≠aT:=λq=>QGv (q▸lo) (by decide)
 have F:=FR.adopt (N.F.F.forget i hw H) H (λj k n q=>by
  by_cases d:j=i
  ·unfold upd at q;rw[if_pos d] at q;contradiction
  ·unfold upd at q;rw[if_neg d] at q;exact QGv q<|ng j n) ⟨_,N.e⟩ N.na N.nf
 have q2:bB (Ex X.Ob λb=>z'.W b\/b=a) z'.s.heap vs xs:=JL (Ob:=X.Ob)▸N.q;have F:=F.r_ (xs:=xs) lo (QGx rfl) N.e q2<|.inr rfl;refine ⟨{s:=z'.s,W:=λb=>z'.W b\/b=a,φ:=λj=>if j=i then aA a else z'.φ j},rfl,⟨?_,N.F.R,N.F.t⟩,⟨⟨λb o e w=>?_,λb w=>?_⟩,N.s.t,⟨λz=>(by rw[g] at z;exact xQ z),λO=>(QGw<|lM H).trans<|congrFun N.s.f aT,λj b e=>?_⟩,N.s.e⟩,QGx rfl,λj d=>(QGw d).trans<|congrFun N.s.f j⟩
 ·have:upd (upd r i .unb) i (.own xs)=upd r i (.own xs):=by
   funext j;unfold upd;by_cases d:j=i
   ·rw[if_pos d,if_pos d]
   ·rw[if_neg d,if_neg d,if_neg d]
  exact this▸F
 ·exact (N.s.fresh (J:=a) e w).1
 ·refine cp w (λw=>N.s.st.grow b w) λw=>w▸N.nw
 ·have u:(if j=i then aA a else z'.φ j)=aA b:=e
  by_cases B:j=i
  ·obtain rfl:=bM (QGx B) u
   exact .inr N.nw
  ·rw[if_neg B,N.s.f] at u
   exact .inl ⟨j,u⟩
noncomputable def gW (i:Nat):Nat->List (List E)->bj->Ls->(Ls->Prop)->Prop
 |_,[],_,l,K=>K l
 |k,es::rs,o,l,K=>dW es o l λd l=>(eV d.length 16777216 && l.all λp=>FT p.2)=aB/\gW i (k+1) rs o (cL l (cT i k)<|.own d) K
noncomputable def S.dz (i:Nat) (rs:List (List E)):S:=λo l K=>eV rs.length 100=aB/\gW i 0 rs o l λl=>K .next (cL l i<|.dz rs.length)
inductive tp (D:Wd) (C:Fc):List aP->List (List E)->Prop
 |nil:tp D C [] []
 |cons {xs es p ys rs}:fb D C xs es->tp D C ys rs->tp D C (.List xs p::ys) (es::rs)
theorem XU (g:C.nw=aB) (H:tp D C ys rs): ∀(k:Nat) {l:Ls} {K:Ls->Prop},gW i k rs D.o l K-> ∀{X:Fx} {z:Zs} {pos:bP} {Q:List aI->aN->Prop} {Er:aI->aN->Prop},FX D C X (aL l) z->
 (∀l' us Z,K l'->FX D C X (aL l') Z->Sy C z Z->(∀j,j<cT i k->Z.φ j=z.φ j)->us.length=rs.length->(∀t,t<rs.length-> ∃b,Z.φ (cT i<|k+t)=aA b/\us[t]?=aA (.ref b))->Q us Z.s)->
 aO (aY D.prog D.w) X.A (sI<|mK pos<|fH ys X.env) Q Er z.s:=by
 induction H with
 |nil=>exact λk l K h X z pos Q Er F c=>lN<|c _ _ _ h F ⟨.refl _ _,bh _,.refl _ _,rfl⟩ (λj q=>rfl) rfl (λt q=>QGv q<|QB t)
 | @cons xs es p ys rs A B ih=>
  exact λk l K h X z pos Q Er F c=>by
   refine uX (Hf<|kO (A h) F λds l₁ us z' g' R s q1=>⟨by simp only[iw,q1.len];exact bJ (aD g'.1).1,?_⟩);have N:NL D C X (aL l₁) z ds z'.s.heap.objs.size us 0 (z'.to (z'.s.heap.push<|listOf us.toArray 0) z'.s.toks):=xk s R (.push _) (ie<|bh _) (fG _ rfl) q1<|bh _;refine uC (UE (i:=cT i k) g (by unfold cT;omega) (XD (aD g'.1).2) N) λz2 e F2 y2 p2 q2=>?_;have:=ih (k+1) g'.2 (X:=X) (z:=z2) (pos:=pos) (Q:=λvs s=>Q (.ref z'.s.heap.objs.size::vs) s) (Er:=Er) (by rw[fQ];exact F2) λl' us Z c1 F3 y3 ph len get=>?_
   ·rw[e] at this
    exact this
   ·refine c l' (.ref z'.s.heap.objs.size::us) Z c1 F3 (y2.trans y3) (λj q=>(ph j (by unfold cT at*;omega)).trans<|q2 j<|by omega) (QGz H3 len) λt ht=>?_
    cases t with
    |zero=>exact ⟨_,(ph _ (by unfold cT;omega)).trans p2,rfl⟩
    |succ t=>exact (get t<|QEq ht).elim λb q=>⟨b,by rw[show k+(t+1)=k+1+t from by omega];exact q.1,q.2⟩
theorem QBN {φ:Nat->Option aM} {us:List aI} (len:us.length=n) (get: ∀t,t<n-> ∃b,φ (cT i<|0+t)=aA b/\us[t]?=aA (.ref b)):us=(bg n).map λk=>wQ<|(φ<|cT i k).getD 0:=by
 refine QEW λt=>?_;by_cases h:t<n
 ·refine (get t h).elim λb q=>q.2.trans ?_
  rw[DB,QA h];have:=q.1;rw[ug] at this;simp[this]
 ·rw[Cv (by omega),Cv (by simp;omega)]
theorem XA (g:C.nw=aB) (ok:lJ C nm i) (W: ∀env,jj [.Name nm q] (.List ys p) pos.line env=pure aE) (H:tp D C ys rs):bY D C (.Assign [.Name nm q] (.List ys p) pos) (.dz i rs):= @λl K h=>λ{X z Q Er} F k=>
 jg (W X.env) rfl rfl (Hf (XU g H 0 h.2 F λl' us Z c F y _ len get=>⟨by simp only[iw,len];exact az (bJ h.1) (by decide),ub (by
  have K1:FX D C X (aL l') (Z.to (Z.s.heap.push<|listOf us.toArray 0) Z.s.toks):=F.kl (.push _)<|bh _;have e1:(Z.s.heap.push<|listOf us.toArray 0).get? Z.s.heap.objs.size=aA (listOf us.toArray 0):=fG _ rfl;have nx:=F.F.th;have ue:=QBN len get;refine bI (C.mz ok.t) λa b=>wpAny_toks ((K1.F.forget i a b).store ok.t ok.s ok.k (sl:=.dz rs.length) (λh' O m=>⟨Z.s.heap.objs.size,0,rfl,ue▸(m _ _ e1 nx).1,(m _ _ e1 nx).2,λt ht=>?_⟩) (λxs e=>by contradiction) λh' tk S st l=>?_)
  ·exact (get t ht).elim λb q=>by rw[<-ug t];exact mO.mpr ⟨b,q.1⟩
  ·exact ((k _ _ c).tr y).nx (z':=Z.to h' tk) (by rw[fQ];exact ⟨S,F.R,az F.t l⟩)<|(Sx.kl F (.push _)<|bh _).trans ⟨st,l,rfl,rfl⟩)⟩))
noncomputable def S.qL (i k:Nat) (b e:E):S:=λo l K=>e o l λv l=>jI v λx=>E.gV i k o l λO l=>b o l λj l=>nG j λj=>iW l (cT i k) λR=>0<=j/\j<R.length/\R.length<2^63/\K .next (cL l (cT i k)<|.own<|R.set j.toNat x)
theorem Xb (L:C.ow=aB) (s: ∀env,jj [.Subscript w y N] x pos.line env=pure aE) (A:aZ D C w (.gV i k)) (B:aZ D C x a) (hy:aZ D C y b):bY D C (.Assign [.Subscript w y N] x pos) (.qL i k b a):= @λO O h=>λ{X z Q Er} K c=>jg (s X.env) rfl rfl ((B h).run K λv l1 g u z1 P s1 q1=>by
 induction jd g with
 |mk ev g3=>
  subst ev;rw[Pu];refine cy (L7 g3) λnn ge gl g=>?_;have g':E.gV i k D.o l1 λv l=>v=.bor (cT i k)/\l=l1:=by unfold E.gV;rw[ge];exact ⟨f7.mpr ⟨sQ gl.1,sQ gl.2⟩,rfl,rfl⟩
  refine aR<|cO<|(A g').run P ?_;intro _ _ H ov z2 K2 M q2;have f:=H.1;have Z:=H.2;clear H;subst f;subst Z;refine aR<|cO<|qa (hy g) K2 λj l t' z3 g c' U=>?_;induction i9 g with
  |mk h0 g=>
   refine jy g λj0 j1 j2 g=>dd (c'.ow h0<|q2.mon U) λp vs n r A f3 R=>?_;subst r;refine aR (iJ<|aR<|cO<|Oe f3 j0 ((bG j1<|oL j2)) (by simp only[gm,R.len];exact j1) λh4 n4 f5 sb=>?_)
   exact H5<|bI (c'.write (i:=cT i k) (h':=h4) (by unfold cT bQ;omega) h0 A (c'.F.gR L _ _ p h0 A (by unfold cT aT;omega)) (λb o e n=>(sb.2 b n).trans e) (vs:=vs.set j.toNat u) (n':=n4) (by simp only[f5];simp[zV]) λm=>bB.set _ (R.mon m)<|Rd.mon (q1.mon<|M.trans U) m) λK4 s4=>(c _ _ g).nx (by simp only[fQ];exact K4)<|((s1.trans M).trans U).trans s4)
noncomputable def gF (i:Nat):Nat->Nat->Ls->(List aK->Ls->Prop)->Prop
 |0,_,l,K=>K [] l
 |n+1,k,l,K=>iW l (cT i k) λxs=>gF i n (k+1) (cL l (cT i k) .unb) λds l=>K (.list xs::ds) l
noncomputable def E.qA (i:Nat):E:=λo l K=>hZ (uv<|aL l i) (λn=>gF i n 0 l λds l=>K (.d<|.list ds) l) False
theorem Ue (M:C.ow=aB): ∀(n k:Nat) {l:Ls} {K:List aK->Ls->Prop} {z:Zs},gF i n k l K->FX D C X (aL l) z-> ∃ds l' z',K ds l'/\FX D C X (aL l') z'/\Sx z z'/\z'.s=z.s/\iX X z' ((List.range' k n).map λk=>wQ<|(z.φ<|cT i k).getD 0) ds:=by
 intro n;induction n with
 |zero=>exact λk l K z h F=>⟨[],l,z,h,F,.refl,rfl,bB.nil⟩
 |succ n ih=>
  exact λk l K z h F=>by
   induction i9 h with
   |mk e g=>
    refine oQ (F.freeze e M (by unfold cT aT;omega) (by unfold cT bQ;omega)) λa z1 e1 e2 F1 s1 q1=>?_;rw[<-fQ] at F1;obtain ⟨ds,l',z2,c,F2,s2,e3,q2⟩:=ih (k+1) g F1;refine ⟨_,l',z2,c,F2,s1.trans s2,e3.trans e2,?_⟩;rw[QEr,gB];refine bB.cons ?_ ?_
    ·rw[e1];exact q1.mon s2
    ·rw[<-s1.f];exact q2
theorem Z_ (M:C.ow=aB) (ok:iA C nm i):aZ D C (.Name nm pos) (.qA i):= @λO O h=>⟨λ{X z Q Er} K c=>uA K ok λv q=>by
 rcases nC h with ⟨n,e,h⟩|h
 ·rw[KH e] at q
  refine iU q λa m u e1 na z1=>⟨.ref a,u,?_⟩;obtain ⟨ds,l',z',c',F,s,es,r⟩:=Ue M n 0 h K;rw[<-QEs] at r;have m':=s.mon (X:=X) a _ e1 na;rw[<-es];exact c _ _ c' _ _ F s<|Rd.lst m'.1 m'.2 r
 ·exact h.elim⟩
noncomputable def yM (C:Fc) (i k:Nat) (x:aP):Bool:=jE x λu y=>yV y && ((bS u λm=>cq C m i) && jY y λc=>decide (c=.int (k:Nat)))
theorem LR (h:yM C i k x=aB):aZ D C x (.gV i k):=by
 induction te h with
 | @mk a b p g=>
  cases dq (aD (aD g).2).1 with
  |mk o=>cases so (aD (aD g).2).2 with
   |mk e=>cases d5 e;exact SG (Lw (aD g).1)<|jS o
noncomputable def X.gV (i k:Nat):XE:=λo s l c=>bc (uv<|aL l i) (λn=>eO (cP k n && eV k 100)<|c (.bor<|cT i k) l s) True
theorem Ms:bC (E.gV i k) (X.gV i k):=⟨λh f=>cF h λn h=>eM λe=>f _ _ _ λq=>h ⟨e,q⟩⟩
noncomputable def EW.gV (i k:Nat) (a:EW):EW:=.au ⟨.gV i k,X.gV i k,Ms,λJ C x=>yM C i k x,λH h=>LR h⟩ a
theorem Q8 {ka kb:aP->Bool} (A: ∀{y},ka y=aB->aZ D C y a) (hb: ∀{y},kb y=aB->aZ D C y b) (h:os s .asg (λn=>cI n.es λt=>jE t λo y=>(C.ow && yM C i k o) && (eC n.a && (ka n.a && kb y)))=aB):bY D C s (.qL i k b a):=
 lk (k:=λt v O=>jE t λo y=>(C.ow && yM C i k o) && (eC v && (ka v && kb y))) (λt v p g=>by
  induction te g with
  |mk r=>exact @λl K=>Xb (D:=D) (C:=C) (aD (aD r).1).1 (λO=>rE (aD (aD r).2).1 _ _ _) (LR (aD (aD r).1).2) (A (aD (aD (aD r).2).2).1)<|hb (aD (aD (aD r).2).2).2) h
noncomputable def X.qL (i k:Nat) (B A:XE):XS:=λo s l c=>A o s l λv l s=>bc (jv v) (λx=>X.gV i k o s l λO l s=>B o s l λj l s=>bc (hG j) (λj=>bc (gj<|aL l<|cT i k) (λR=>0<=j->j<R.length->R.length<2^63->ej l (cT i k) (.own<|R.set j.toNat x) λl=>c .next l s) True) True) True
theorem XX (hb:bC b B) (s:bC a A):bC (S.qL i k b a) (X.qL i k B A):=⟨λq f=>s.r q λO O O q=>cF q λO q=>Ms.r q λO O O q=>hb.r q λO O O q=>cF q λO q=>cF q λO q c d e=>gP<|f _ _ _ λr=>q<|kr c d e r⟩
noncomputable def SW.qL (i k:Nat) (b a:EW):SW:=⟨.qL i k b.w a.w,X.qL i k b.x a.x,XX b.ok a.ok,λJ C s=>os s .asg λn=>cI n.es λt=>jE t λo y=>(C.ow && yM C i k o) && (eC n.a && (a.bU J C n.a && b.bU J C y)),λH h=>Q8 (a.snd H) (b.snd H) h⟩
noncomputable def FQ (i:Nat):Nat->Nat->Ls->(List aK->Ls->Prop)->Prop
 |0,_,l,c=>c [] l
 |n+1,k,l,c=>bc (gj<|aL l<|cT i k) (λxs=>ej l (cT i k) .unb λl=>FQ i n (k+1) l λds l=>c (.list xs::ds) l) True
theorem Si {P:Prop}: ∀(n k:Nat) {l:Ls} {K c:List aK->Ls->Prop},(gF i n k l K->P)->(∀a l,(K a l->P)->c a l)->FQ i n k l c:=by
 intro n;induction n with
 |zero=>exact λk l K c h f=>f _ _ h
 |succ n ih=>exact λk l K c h f=>cF h λxs h=>gP<|ih (k+1) h λa l h=>f _ _ h
noncomputable def X.qA (i:Nat):XE:=λo s l c=>bc (uv<|aL l i) (λn=>FQ i n 0 l λds l=>c (.d<|.list ds) l s) True
theorem VG:bC (E.qA i) (X.qA i):=⟨λh f=>cF h λn h=>Si n 0 h λa l h=>f _ _ _ h⟩
theorem UI (h:(C.ow && bS x λn=>cq C n i)=aB):aZ D C x (.qA i):=by induction dq (aD h).2 with|mk g=>exact Z_ (aD h).1<|jS g
noncomputable def EW.qA (i:Nat):EW:=⟨.qA i,X.qA i,VG,λJ C x=>C.ow && bS x λn=>cq C n i,λH h=>UI h⟩
noncomputable def gX (i:Nat):Nat->List (List XE)->bj->Hs->Ls->(Ls->Hs->Prop)->Prop
 |_,[],_,s,l,c=>c l s
 |k,es::rs,o,s,l,c=>dX es o s l λd l s=>eO (eV d.length 16777216 && l.all λp=>FT p.2)<|ej l (cT i k) (.own d) λl=>gX i (k+1) rs o s l c
noncomputable def X.dz (i:Nat) (rs:List (List XE)):XS:=λo s l c=>eO (eV rs.length 100)<|gX i 0 rs o s l λl s=>ej l i (.dz rs.length) λl=>c .next l s
theorem Xe {P:Prop} {o:bj}: ∀(rs:List (List EW)) (k:Nat) {s:Hs} {l:Ls} {K:Ls->Prop} {c:Ls->Hs->Prop},(gW i k (rs.map (·.map EW.w)) o l K->P)->(∀l s,(K l->P)->c l s)->gX i k (rs.map (·.map EW.x)) o s l c:=by
 intro rs;induction rs with
 |nil=>exact λk s l K c h f=>f _ _ h
 |cons es rs ih=>exact λk s l K c h f=>(mi<|jt es).r h λd l s h=>eM λe=>gP<|ih (k+1) (λq=>h ⟨e,q⟩) f
theorem Zu (rs:List (List EW)):bC (S.dz i<|rs.map (·.map EW.w)) (X.dz i<|rs.map (·.map EW.x)):=⟨λh f=>eM λe=>Xe rs 0 (λq=>h ⟨by rw[dZ] at*;exact e,q⟩) λl s q=>gP<|f _ _ _ (by rw[dZ] at*;exact q)⟩
noncomputable def Cb (J:Ci) (C:Fc):List (List EW)->List aP->Bool:=iz λes x=>dD x && n9 x (ck J C es)
theorem Vr {rs:List (List EW)} (H:cG J D) (h:Cb J C rs xs=aB):tp D C xs (rs.map (·.map EW.w)):=
 mf (P:=λrs xs=>tp D C xs<|rs.map (·.map EW.w)) .nil (λes rs x xs h g=>by
  cases Bp (aD h).2 with|mk e=>exact .cons (gd H e).1 g) h
theorem Wn {rs:List (List EW)} (H:cG J D) (h:os s .asg (λn=>cI n.es λt=>bS t λx=>(C.nw && cw C x i) && (eC n.a && n9 n.a (Cb J C rs)))=aB):bY D C s (.dz i<|rs.map (·.map EW.w)):=
 lk (k:=λt v O=>bS t λx=>(C.nw && cw C x i) && (eC v && n9 v (Cb J C rs))) (λt v p g=>by
  cases dq g with
  |mk r=>
   have q:=aD (aD r).2;have w:=rE q.1;cases Bp q.2 with
   |mk e=>exact @λl K=>XA (D:=D) (C:=C) (aD (aD r).1).1 (fm (aD (aD r).1).2) (λO=>w _ _ _)<|Vr H e) h
noncomputable def SW.dz (i:Nat) (rs:List (List EW)):SW:=⟨.dz i<|rs.map (·.map EW.w),X.dz i<|rs.map (·.map EW.x),Zu rs,λJ C s=>os s .asg λn=>cI n.es λt=>bS t λx=>(C.nw && cw C x i) && (eC n.a && n9 n.a (Cb J C rs)),λH h=>Wn H h⟩
theorem YY {K:aG->Option dQ} {ts vs:List aP} {k b:Nat} (h:((nA K ts).length !=ts.length)=aB) (H: ∀x,env.kindOf x=K x):mQ [.Tuple ts k p] (.Tuple vs b P) env=pure none:=by
 dsimp only[mQ];erw[(funext H:env.kindOf=K)]
 split
 ·rfl
 ·split
  ·rfl
  ·exact (QGx<|QEo.mpr<|.inl h).trans rfl
theorem QAl (W: ∀env,jj [c] x pos.line env=pure aE) (s: ∀env,(∀x,env.kindOf x=C.K x)->mQ [c] x env=pure aF) (A: ∀env,(uf [c] env).map (·.2)=[mP c env]) (M:aZ D C x a) (d:nH D C c t):bY D C (.Assign [c] x pos) (.asg t a):= @λO O h=>λ{X z Q Er} K k=>jg (W X.env) (s X.env K.F.hK) (A X.env) ((M h).run K λv L g u Z R i q=>by
 induction jd g with
 |mk e g=>
  subst e
  induction vc g with|mk b g=>exact d b R q λj P l O=>(k _ _ g).nx P<|i.trans l)
theorem h_ {ka:aP->Bool} (A: ∀{y},ka y=aB->aZ D C y a) (h:os s .asg (λn=>cI n.es λt=>gv t λxs=>gv n.a λvs=>(((nA C.K xs).length !=xs.length) && iz (λx i=>bS x λn=>cw C n i) xs o) && (eC n.a && ka n.a))=aB):bY D C s (.asg (.tup o) a):=
 lk (k:=λt v O=>gv t λxs=>gv v λvs=>(((nA C.K xs).length !=xs.length) && iz (λx i=>bS x λn=>cw C n i) xs o) && (eC v && ka v)) (λt v p g=>by
  cases tL g with
  |mk r=>cases tL r with
   |mk r=>
    have n:=mf (P:=λxs o=>qi C xs o) .nil (λx xs i o h g=>by induction dq h with|mk H=>exact .cons (fm H) g) (aD (aD r).1).2;have q:=rE (aD (aD r).2).1
    exact @λl K=>QAl (D:=D) (C:=C) (t:=.tup o) (a:=a) (λO=>q _ _ _) (λenv H=>YY (aD (aD r).1).1 H) (λO=>rfl) (A (aD (aD r).2).2)<|@λd R U=>E4 n) h
noncomputable def SW.tpc (is:List Nat) (a:EW):SW:=⟨.asg (.tup is) a.w,X.asg (.tup is) a.x,yI a.ok,λJ C s=>os s .asg λn=>cI n.es λt=>gv t λxs=>gv n.a λvs=>(((nA C.K xs).length !=xs.length) && iz (λx i=>bS x λn=>cw C n i) xs is) && (eC n.a && a.bU J C n.a),λH h=>h_ (a.snd H) h⟩
namespace B01
noncomputable def By:List SW:=[.one 1<|.int 2048,.defn 2 0,.pd 3 [.bi .len [.aC 0],.int 5,.aC 1],.ret<|.jH 0 2 [.int 0,.bi .len [.aC 0]]]
noncomputable def Jf:List SW:=[.b7 (.cmp .LtE (.aH .Sub (.aC 201)<|.aC 200)<|.aC 1) [.ret<|.bi .si [.dM (.aC 0) (aA<|.aC 200) (aA<|.aC 201) aF]] [],.one 202<|.aH .RShift (.aH .Add (.aH .Add (.aC 200)<|.aC 201)<|.int 1)<|.int 1,.ret<|.aH .Add (.jH 0 2 [.aC 202,.aC 201])<|.aH .LShift (.aH .Mult (.jH 0 2 [.aC 200,.aC 202])<|.au (.aC 3)<|.aH .Sub (.aC 201)<|.aC 202)<|.aH .Sub (.aC 201)<|.aC 202]
noncomputable def KP:List SW:=[.one 0<|.qF (.sm .rstrip (.aC 0) []) ⟨#[95]⟩ ⟨#[]⟩,.ret<|.call 1 [.aC 0]]
noncomputable def tG:List SW:=[.b7 (.cmp .LtE (.aH .Sub (.sm .bits (.aC 0) [])<|.aC 2)<|.pV ⟨#[95,68,73,86,95,76,73,77,73,84]⟩) [.ret<|.bi .divmod [.aC 0,.aC 1]] [],.one 3<|.aH .BitAnd (.aC 2)<|.int 1,.b7 (.aC 3) [.aug 0 .LShift<|.int 1,.aug 1 .LShift<|.int 1,.aug 2 .Add<|.int 1] [],.one 4<|.aH .RShift (.aC 2)<|.int 1,.one 5<|.aH .Sub (.aH .LShift (.int 1)<|.aC 4)<|.int 1,.Aa [6,7]<|.tup [.aH .RShift (.aC 1)<|.aC 4,.aH .BitAnd (.aC 1)<|.aC 5],.tup [8,9]<|.call 4 [.aH .RShift (.aC 0)<|.aC 2,.aH .BitAnd (.aH .RShift (.aC 0)<|.aC 4)<|.aC 5,.aC 1,.aC 6,.aC 7,.aC 4],.tup [10,9]<|.call 4 [.aC 9,.aH .BitAnd (.aC 0)<|.aC 5,.aC 1,.aC 6,.aC 7,.aC 4],.b7 (.aC 3) [.aug 9 .RShift<|.int 1] [],.ret<|.tup [.aH .BitOr (.aH .LShift (.aC 8)<|.aC 4)<|.aC 10,.aC 9]]
noncomputable def tJ:List SW:=[.aug 6 .Sub<|.int 1,.aug 7 .Add<|.aC 2]
noncomputable def tj:TW:=.cmp .Lt (.aC 7)<|.int 0
noncomputable def b_div3n2n:List SW:=[.b7 (.cmp .Eq (.aH .RShift (.aC 0)<|.aC 5)<|.aC 3) [.Aa [6,7]<|.tup [.aH .Sub (.aH .LShift (.int 1)<|.aC 5)<|.int 1,.aH .Add (.aH .Sub (.aC 0)<|.aH .LShift (.aC 3)<|.aC 5)<|.aC 3]] [.tup [6,7]<|.call 3 [.aC 0,.aC 3,.aC 5]],.one 7<|.aH .Sub (.aH .BitOr (.aH .LShift (.aC 7)<|.aC 5)<|.aC 1)<|.aH .Mult (.aC 6)<|.aC 4,.nq tj tJ,.ret<|.tup [.aC 6,.aC 7]]
noncomputable def yx:List SW:=[.own 2<|.mul [.int 0]<|.aH .FloorDiv (.aH .Sub (.aH .Add (.sm .bits (.aC 0) [])<|.aC 1)<|.int 1)<|.aC 1,.defn 3 1,.b7 (.aC 0) [.expr<|.jH 1 3 [.aC 0,.int 0,.bi .len [.aC 2]]] [],.ret<|.aC 2]
noncomputable def G6:List SW:=[.b7 (.cmp .Eq (.aH .Add (.aC 201)<|.int 1)<|.aC 202) [.set 2 (.aC 201)<|.aC 200,.BJ] [],.one 203<|.aH .RShift (.aH .Add (.aC 201)<|.aC 202)<|.int 1,.one 204<|.aH .Mult (.aH .Sub (.aC 203)<|.aC 201)<|.aC 1,.one 205<|.aH .RShift (.aC 200)<|.aC 204,.one 206<|.aH .BitXor (.aC 200)<|.aH .LShift (.aC 205)<|.aC 204,.expr<|.jH 1 3 [.aC 206,.aC 201,.aC 203],.expr<|.jH 1 3 [.aC 205,.aC 203,.aC 202]]
noncomputable def CN:List SW:=[.defn 2 2,.ret<|.ite (.aC 0) (.jH 2 2 [.int 0,.bi .len [.aC 0]])<|.int 0]
noncomputable def Ff:List SW:=[.b7 (.cmp .Eq (.aH .Add (.aC 200)<|.int 1)<|.aC 201) [.ret<|.au (.aC 0)<|.aC 200] [],.one 202<|.aH .RShift (.aH .Add (.aC 200)<|.aC 201)<|.int 1,.one 203<|.aH .Mult (.aH .Sub (.aC 202)<|.aC 200)<|.aC 1,.ret<|.aH .Add (.aH .LShift (.jH 2 2 [.aC 202,.aC 201])<|.aC 203)<|.jH 2 2 [.aC 200,.aC 202]]
noncomputable def wI:List SW:=[.tup [7,4]<|.call 3 [.aH .Add (.aH .LShift (.aC 4)<|.aC 2)<|.aC 6,.aC 1,.aC 2],.app 5<|.aC 7]
noncomputable def b_divmod_pos:List SW:=[.one 2<|.sm .bits (.aC 1) [],.one 3<|.call 5 [.aC 0,.aC 2],.one 4<|.int 0,.own 5<|.list [],.e6 (.one 6) (.rev<|.aC 3) wI,.qe 5,.one 8<|.call 6 [.qJ 5,.aC 2],.ret<|.tup [.aC 8,.aC 4]]
noncomputable def BL:List SW:=[.b7 (.cmp .Eq (.aC 1)<|.int 0) [.stuck] [.b7 (.cmp .Lt (.aC 1)<|.int 0) [.tup [2,3]<|.call 8 [.neg<|.aC 0,.neg<|.aC 1],.ret<|.tup [.aC 2,.neg<|.aC 3]] [.b7 (.cmp .Lt (.aC 0)<|.int 0) [.tup [2,3]<|.call 8 [.inv<|.aC 0,.aC 1],.ret<|.tup [.inv<|.aC 2,.aH .Add (.aC 1)<|.inv<|.aC 3]] [.ret<|.call 7 [.aC 0,.aC 1]]]]]
noncomputable def KG:List SW:=[.ret<|.qE<|.bi .ord [.aC 0]]
noncomputable def EU:List SW:=[.one 1<|.qB<|.bi .ord [.aC 0],.b7 (.iN aB<|.aC 1) [.ret<|.aC 1] [],.ret<|.sm .lower (.aC 0) []]
noncomputable def Et:List SW:=[.one 1<|.conv aB (.sm .lower (.aC 1) []),.qZ<|.comp (.aC 201) (.one 201) .fE [.cmp .NotEq (.sm .lower (.au (.aC 201)<|.int 0) [])<|.aC 1]]
noncomputable def DW:List SW:=[.one 1<|.conv aB (.sm .lower (.aC 1) []),.ret<|.comp (.au (.aC 201)<|.int 1) (.one 201) .fE [.cmp .Eq (.sm .lower (.au (.aC 201)<|.int 0) [])<|.aC 1]]
noncomputable def Bb:List SW:=[.ret<|.dM .fE aF aF aF]
noncomputable def yn:List SW:=[.own 4<|.list [],.b7 (.iN aB<|.aC 2) [.one 2<|.conv aE (.aC 2),.app 4<|.aC 2] [],.pW 3,.qM<|.tup [.conv aB (.aC 1),.sm .join (.str ⟨#[59,32]⟩) [.aC 4]]]
noncomputable def Fq:List SW:=[.ret<|.comp (.aH .Add (.au (.aC 1)<|.aC 201)<|.bi .sum [.dM (.aC 0) (aA<|.aC 201) aF<|aA<|.bi .len [.aC 1]]) (.one 201) (.jA<|.bi .len [.aC 1]) []]
noncomputable def Iu:List SW:=[.one 2<|.list [.int 97,.int 65,.int 119808,.int 119860,.int 119912,.int 120016,.int 120172,.int 120224,.int 120276,.int 120328,.int 120380,.int 120432],.ret<|.bi .chr [.aH .Sub (.aH .Add (.au (.aC 2)<|.aH .Mod (.aC 1)<|.int 12)<|.bi .ord [.aC 0])<|.int 97]]
noncomputable def GD:List SW:=[.one 1<|.list [.int 173,.int 847,.int 6150,.int 6155,.int 6156,.int 6157,.int 8203,.int 8204,.int 8205,.int 8288,.int 65279],.ret<|.bi .chr [.ite (.cmp .Lt (.aH .Mod (.aC 0)<|.int 27)<|.int 11) (.au (.aC 1)<|.aH .Mod (.aC 0)<|.int 27)<|.aH .Add (.int 65013)<|.aH .Mod (.aC 0)<|.int 27]]
noncomputable def O7:List SW:=[.one 1<|.list [.int 172,.int 174,.int 846,.int 848,.int 6149,.int 6151,.int 6154,.int 6158,.int 8202,.int 8206,.int 8287,.int 8289,.int 65278,.int 65280,.int 65023,.int 65040],.ret<|.bi .chr [.au (.aH .Add (.aC 1)<|.list [.int 11,.int 12,.int 28,.int 29,.int 30,.int 133,.int 8232,.int 8233])<|.aH .Mod (.aC 0)<|.int 24]]
noncomputable def NQ:List SW:=[.ret<|.sm .join (.str ⟨#[]⟩) [.comp (.call 11 [.aC 201]) (.one 201) (.aC 0) [.eN aE aE<|.call 10 [.aC 201]]]]
noncomputable def Gf:List SW:=[.dz 1 [[.int 0,.aH .Mod (.aH .FloorDiv (.aC 0)<|.int 3)<|.int 4],[.aH .Add (.int 1)<|.aH .Mod (.aC 0)<|.int 3,.aH .Mod (.aH .FloorDiv (.aC 0)<|.int 12)<|.int 4],[.aH .Mod (.aH .FloorDiv (.aC 0)<|.int 48)<|.int 4,.aH .Mod (.aH .FloorDiv (.aC 0)<|.int 192)<|.int 5]],.b7 (.cmp .Eq (.aH .Mult (.gV 1 1<|.int 0)<|.aH .Sub (.gV 1 2<|.int 1)<|.gV 1 0<|.int 1)<|.aH .Mult (.gV 1 2<|.int 0)<|.aH .Sub (.gV 1 1<|.int 1)<|.gV 1 0<|.int 1) [.qL 1 2 (.int 1)<|.aH .Mod (.aH .Add (.gV 1 2<|.int 1)<|.int 1)<|.int 5] [],.ret<|.qA 1]
noncomputable def xe:List SW:=[.one 7<|.aH .Mod (.aH .Add (.aH .FloorDiv (.aC 1)<|.int 3)<|.aH .Mult (.au (.list [.int 1,.int 2])<|.aH .Mod (.aH .FloorDiv (.aC 1)<|.int 9)<|.int 2)<|.aC 6)<|.int 3,.one 8<|.call 17 [.aH .Add (.call 13 [.au (.str ⟨#[112,110,109]⟩)<|.aC 7,.aH .Add (.aH .FloorDiv (.aC 1)<|.int 18)<|.aC 6])<|.call 14 [.aH .Add (.aH .FloorDiv (.aC 1)<|.int 216)<|.aC 6]],.one 9<|.aH .Add (.aH .Add (.str ⟨#[48,95]⟩)<|.bi .rV [.au (.au (.aC 0)<|.aC 7)<|.aH .FloorDiv (.aC 6)<|.int 3])<|.au (.list [.str ⟨#[]⟩,.str ⟨#[32]⟩,.str ⟨#[9]⟩,.str ⟨#[9,32]⟩])<|.aH .Mod (.aH .Add (.aC 1)<|.aC 6)<|.int 4,.one 10<|.au (.str ⟨#[112,110,109]⟩)<|.aC 7,.b7 (.cmp .Eq (.aH .Mod (.aC 6)<|.int 2)<|.int 1) [.Aa [10,8]<|.tup [.sm .upper (.aC 10) [],.sm .upper (.aC 8) []]] [],.app 4<|.jr 0 (.aC 3) [.aC 8,.aC 9],.app 5<|.tup [.aC 10,.aC 9]]
noncomputable def b_law_book:List SW:=[.own 2<|.list [.tup [.str ⟨#[109,112]⟩,.str ⟨#[]⟩]],.p9 3 2,.own 4<|.list [.jr 0 (.aC 3) [.au (.str ⟨#[80,78,77]⟩)<|.aH .Mod (.aC 1)<|.int 3,.str ⟨#[57]⟩],.jr 0 (.aC 3) [.au (.str ⟨#[80,78,77]⟩)<|.aH .Mod (.aC 1)<|.int 3,.str ⟨#[57]⟩]],.oT 3<|.au (.str ⟨#[112,110,109]⟩)<|.aH .Mod (.aC 1)<|.int 3,.own 5<|.list [.tup [.str ⟨#[109,112]⟩,.str ⟨#[]⟩]],.e6 (.one 6) (.jA<|.int 6) xe,.b7 (.fy .Or [.cmp .NotEq (.aC 4)<|.aH .Mult (.list [.none])<|.int 8,.cmp .NotEq (.jU 2 (.aC 3) [])<|.aC 5,.cmp .NotEq (.aC 2)<|.aC 5]) [.ret<|.list []] [],.cmp 11 (.jU 1 (.aC 3) [.aC 201]) (.one 201) (.jZ<|.list [.str ⟨#[112]⟩,.str ⟨#[78]⟩,.str ⟨#[109]⟩]) [],.b7 (.cmp .NotEq (.aC 11)<|.comp (.comp (.au (.aC 401)<|.int 1) (.one 401) (.aC 5) [.cmp .Eq (.sm .lower (.au (.aC 401)<|.int 0) [])<|.aC 201]) (.one 201) (.jZ<|.list [.str ⟨#[112]⟩,.str ⟨#[110]⟩,.str ⟨#[109]⟩]) []) [.ret<|.list []] [],.ret<|.comp (.comp (.call 2 [.aC 401]) (.one 401) (.aC 201) []) (.one 201) (.aC 11) []]
noncomputable def LZ:List SW:=[.tup [2,3]<|.call 8 [.aC 0,.aC 1],.b7 (.fy .Or [.cmp .NotEq (.aH .Add (.aH .Mult (.aC 2)<|.aC 1)<|.aC 3)<|.aC 0,.cmp .Lt (.aH .Mult (.aC 3)<|.aC 1)<|.int 0,.cmp .GtE (.bi .abs [.aC 3])<|.bi .abs [.aC 1]]) [.ret<|.list [.aC 2,.neg<|.int 1]] [],.ret<|.list [.aC 2,.bi .abs [.aC 3]]]
noncomputable def ri:List SW:=[.b7 (.fy .And [.cmp .NotEq (.au (.aC 11)<|.int 1)<|.au (.aC 12)<|.int 1,.tR .LtE .LtE (.bi .min2 [.au (.aC 11)<|.int 1,.au (.aC 12)<|.int 1]) (.aH .Add (.aC 1)<|.aC 8)<|.bi .max2 [.au (.aC 11)<|.int 1,.au (.aC 12)<|.int 1]]) [.one 13<|.aH .Add (.aH .Mult (.au (.aC 11)<|.int 0)<|.aH .Sub (.au (.aC 12)<|.int 1)<|.au (.aC 11)<|.int 1)<|.aH .Mult (.aH .Sub (.aH .Add (.aC 1)<|.aC 8)<|.au (.aC 11)<|.int 1)<|.aH .Sub (.au (.aC 12)<|.int 0)<|.au (.aC 11)<|.int 0,.tup [14,15]<|.call 28 [.aH .Mult (.aC 13)<|.aC 3,.aH .Mult (.aH .Sub (.au (.aC 12)<|.int 1)<|.au (.aC 11)<|.int 1)<|.aC 3],.b7 (.cmp .Lt (.aC 15)<|.int 0) [.ret<|.list []] [],.app 9<|.aC 14,.app 10<|.aH .Add (.aC 14)<|.bi .min2 [.aC 15,.int 1]] []]
noncomputable def rl:List SW:=[.own 9<|.list [],.own 10<|.list [],.e6 (.tup [11,12]) (.jZ<|.list [.tup [.au (.aC 5)<|.int 0,.au (.aC 5)<|.int 1],.tup [.au (.aC 5)<|.int 1,.au (.aC 5)<|.int 2],.tup [.au (.aC 5)<|.int 2,.au (.aC 5)<|.int 0]]) ri,.b7 (.cmp .NotEq (.aC 9)<|.list []) [.set 7 (.aC 8)<|.aH .Add (.aH .Sub (.bi .ma [.aC 9])<|.bi .kY [.aC 10])<|.int 1] [],.b7 (.tR .Lt .Lt (.bi .kY [.aC 6]) (.aH .Add (.aC 1)<|.aC 8)<|.bi .ma [.aC 6]) [.set 7 (.aH .Add (.int 4)<|.aC 8)<|.aH .Sub (.aH .Sub (.bi .ma [.aC 10])<|.bi .kY [.aC 9])<|.int 1] []]
noncomputable def b_law_counts:List SW:=[.one 3<|.aH .Add (.aH .LShift (.int 1)<|.int 200)<|.aH .Mod (.aC 2)<|.aH .LShift (.int 1)<|.int 200,.one 4<|.aH .Mult (.aH .Mod (.aH .FloorDiv (.aC 2)<|.int 3)<|.aH .LShift (.int 1)<|.int 150)<|.au (.list [.int 1,.neg<|.int 1])<|.aH .Mod (.aC 2)<|.int 2,.cmp 5 (.list [.aH .Add (.au (.aC 201)<|.int 0)<|.aH .Mult (.aC 4)<|.au (.aC 201)<|.int 1,.au (.aC 201)<|.int 1]) (.one 201) (.aC 0) [],.cmp 6 (.au (.aC 201)<|.int 1) (.one 201) (.aC 5) [],.own 7<|.mul [.int 0]<|.int 8,.e6 (.one 8) (.jA<|.int 5) rl,.ret<|.aC 7]
noncomputable def tc:List SW:=[.one 6<|.bi .kY [.comp (.aH .Mult (.aC 3)<|.aH .Sub (.aH .Mult (.aH .Sub (.au (.aC 202)<|.int 0)<|.au (.aC 201)<|.int 0)<|.aH .Sub (.aC 5)<|.au (.aC 201)<|.int 1)<|.aH .Mult (.aH .Sub (.au (.aC 202)<|.int 1)<|.au (.aC 201)<|.int 1)<|.aH .Sub (.aC 1)<|.au (.aC 201)<|.int 0) (.tup [201,202]) (.aC 2) []],.b7 (.cmp .GtE (.aC 6)<|.int 0) [.app 4<|.aC 5] [],.b7 (.cmp .Gt (.aC 6)<|.int 0) [.app 4<|.aH .Add (.int 4)<|.aC 5] []]
noncomputable def b_law_bare:List SW:=[.one 2<|.list [.tup [.au (.aC 0)<|.int 0,.au (.aC 0)<|.int 1],.tup [.au (.aC 0)<|.int 1,.au (.aC 0)<|.int 2],.tup [.au (.aC 0)<|.int 2,.au (.aC 0)<|.int 0]],.one 3<|.int 1,.b7 (.cmp .Lt (.aH .Mult (.au (.au (.aC 0)<|.int 1)<|.int 0)<|.aH .Sub (.au (.au (.aC 0)<|.int 2)<|.int 1)<|.au (.au (.aC 0)<|.int 0)<|.int 1)<|.aH .Mult (.au (.au (.aC 0)<|.int 2)<|.int 0)<|.aH .Sub (.au (.au (.aC 0)<|.int 1)<|.int 1)<|.au (.au (.aC 0)<|.int 0)<|.int 1) [.one 3<|.neg<|.int 1] [],.own 4<|.list [],.e6 (.one 5) (.jA<|.int 5) tc,.ret<|.aC 4]
noncomputable def vV:List SW:=[.one 6<|.aH .Mod (.aH .Add (.aC 1)<|.aC 5)<|.int 8,.one 7<|.sm .join (.str ⟨#[]⟩) [.comp (.call 13 [.aC 201,.aH .Add (.aH .FloorDiv (.aC 1)<|.int 8)<|.aC 5]) (.one 201) (.jZ<|.au (.aC 2)<|.aC 6) []],.b7 (.fy .And [.cmp .Gt (.aC 6)<|.int 4,.cmp .Eq (.aH .Mod (.aH .Add (.aH .FloorDiv (.aC 1)<|.int 96)<|.aC 5)<|.int 2)<|.int 0]) [.one 7<|.bi .chr [.au (.list [.int 64256,.int 64257,.int 64262])<|.aH .Sub (.aC 6)<|.int 5]] [],.app 4<|.aH .Add (.aH .Add (.str ⟨#[46]⟩)<|.aC 7)<|.call 14 [.aH .Add (.aH .FloorDiv (.aC 1)<|.int 8)<|.aH .Mult (.int 5)<|.aC 5]]
noncomputable def tB:List SW:=[.b7 (.cmp .NotIn (.aH .Mod (.aH .Add (.aC 1)<|.aC 5)<|.int 8)<|.aC 9) [.one 10<|.aH .Add (.aC 10)<|.call 14 [.aH .Add (.aH .Add (.aH .FloorDiv (.aC 1)<|.int 27)<|.aC 8)<|.aH .Mult (.int 7)<|.aC 5]] [],.one 10<|.aH .Add (.aH .Add (.aC 10)<|.au (.aC 4)<|.aC 5)<|.au (.aC 3)<|.aH .Mod (.aH .Add (.aH .Add (.aC 1)<|.aC 8)<|.aC 5)<|.int 3]
noncomputable def Al:List SW:=[.one 9<|.call 30 [.aC 0,.aC 8],.one 10<|.str ⟨#[]⟩,.e6 (.one 5) (.jA<|.int 8) tB,.one 10<|.aH .Add (.aH .Add (.aH .Add (.aH .Add (.aH .Add (.aC 10)<|.au (.aC 4)<|.int 8)<|.au (.aC 3)<|.aH .Mod (.aH .Add (.aH .Add (.aC 1)<|.aC 8)<|.int 8)<|.int 3)<|.au (.aC 4)<|.int 9)<|.au (.aC 3)<|.aH .Mod (.aH .Add (.aH .Add (.aC 1)<|.aC 8)<|.int 9)<|.int 3)<|.au (.aC 4)<|.int 10,.one 4<|.sm .split (.call 9 [.aC 10]) [.str ⟨#[13,10]⟩],.one 4<|.aH .Add (.comp (.ite (.eN aE aB<|.call 10 [.dM (.aC 201) aF (aA<|.int 1) aF]) (.dM (.aC 201) (aA<|.int 1) aF aF)<|.aC 201) (.one 201) (.jZ<|.dM (.aC 4) aF (aA<|.int 8) aF) [])<|.dM (.aC 4) (aA<|.int 8) aF aF]
noncomputable def Ax:List SW:=[.one 12<|.sm .qN (.au (.aC 4)<|.aC 5) [.str ⟨#[46]⟩],.b7 (.cmp .NotEq (.call 17 [.aC 12])<|.au (.aC 2)<|.aH .Mod (.aH .Add (.aC 1)<|.aC 5)<|.int 8) [.ret<|.list []] [],.set 11 (.aH .Mod (.aH .Add (.aC 1)<|.aC 5)<|.int 8)<|.aH .Sub (.aH .Sub (.bi .len [.au (.aC 4)<|.aC 5])<|.bi .len [.aC 12])<|.int 1]
noncomputable def b_law_found:List SW:=[.one 2<|.list [.str ⟨#[102]⟩,.str ⟨#[105]⟩,.str ⟨#[108]⟩,.str ⟨#[115]⟩,.str ⟨#[116]⟩,.str ⟨#[102,102]⟩,.str ⟨#[102,105]⟩,.str ⟨#[115,116]⟩],.one 3<|.list [.str ⟨#[10]⟩,.str ⟨#[13]⟩,.str ⟨#[13,10]⟩],.own 4<|.list [],.e6 (.one 5) (.jA<|.int 8) vV,.one 4<|.aH .Add (.aC 4)<|.list [.aH .Add (.call 15 [.aH .FloorDiv (.aC 1)<|.int 8])<|.str ⟨#[46,32]⟩,.str ⟨#[]⟩,.str ⟨#[46]⟩],.e6 (.one 8) (.jA<|.int 4) Al,.b7 (.fy .Or [.cmp .NotEq (.dM (.aC 4) (aA<|.int 8) aF aF)<|.list [.aH .Add (.call 15 [.aH .FloorDiv (.aC 1)<|.int 8])<|.str ⟨#[46,32]⟩,.str ⟨#[]⟩,.str ⟨#[46,46,46,46,46]⟩],.eN aB aE<|.call 10 [.call 15 [.aH .FloorDiv (.aC 1)<|.int 8]]]) [.ret<|.list []] [],.own 11<|.mul [.int 0]<|.int 8,.e6 (.one 5) (.jA<|.int 8) Ax,.ret<|.aC 11]
noncomputable def AV:List SW:=[.Aa [0,1]<|.tup [.aC 1,.aH .Mod (.aC 0)<|.aC 1]]
noncomputable def CG:TW:=.cmp .NotEq (.aC 1)<|.int 0
noncomputable def b_law_common:List SW:=[.nq CG AV,.ret<|.aC 0]
noncomputable def HM:List SW:=[.one 3<|.aH .Add (.int 16)<|.aH .Mod (.aC 2)<|.int 300,.one 4<|.aH .Add (.aH .LShift (.int 1)<|.int 4200)<|.aH .Mod (.aH .FloorDiv (.aC 2)<|.int 7)<|.aH .LShift (.int 1)<|.int 4200,.one 5<|.aH .Mult (.aH .Pow (.aH .Sub (.aH .LShift (.int 1)<|.aC 3)<|.int 1)<|.int 3)<|.aC 4,.one 6<|.aH .Sub (.aH .LShift (.int 1)<|.sm .bits (.aC 5) [])<|.int 1,.one 7<|.list [.list [],.aH .Mult (.list [.aH .Sub (.aH .LShift (.int 1)<|.aC 3)<|.int 1])<|.int 3],.b7 (.fy .Or [.cmp .NotEq (.call 8 [.aH .Mult (.aC 6)<|.aC 5,.aC 5])<|.tup [.aC 6,.int 0],.cmp .NotEq (.comp (.call 5 [.call 6 [.aC 201,.aC 3],.aC 3]) (.one 201) (.aC 7) [])<|.aC 7]) [.ret<|.list []] [],.one 8<|.aH .Mod (.aH .FloorDiv (.aC 2)<|.int 5)<|.aH .LShift (.int 1)<|.int 4300,.b7 (.cmp .Eq (.aH .Mod (.aH .FloorDiv (.aC 2)<|.int 2)<|.int 2)<|.int 0) [.one 8<|.aH .Sub (.aC 6)<|.aH .Mod (.aC 8)<|.aH .LShift (.int 1)<|.int 2000] [],.one 9<|.aH .Add (.aH .Add (.aH .Add (.aH .Mult (.aH .LShift (.call 6 [.list [.aC 1,.aH .Sub (.aC 0)<|.int 3,.int 1],.aC 3])<|.aH .Mult (.int 5)<|.aC 3)<|.aC 4)<|.aH .Mult (.aC 8)<|.aC 5)<|.int 1)<|.aH .Mod (.aH .FloorDiv (.aC 2)<|.int 11)<|.aH .Sub (.aC 4)<|.int 1,.one 10<|.aH .Mod (.aH .FloorDiv (.aC 2)<|.int 13)<|.int 4,.tup [11,12]<|.call 28 [.aH .Mult (.aC 9)<|.au (.list [.int 1,.neg<|.int 1,.neg<|.int 1,.int 1])<|.aC 10,.aH .Mult (.aC 5)<|.au (.list [.int 1,.neg<|.int 1,.int 1,.neg<|.int 1])<|.aC 10],.b7 (.cmp .Lt (.aC 12)<|.int 0) [.ret<|.list []] [],.ret<|.call 5 [.aH .Sub (.au (.list [.aC 11,.aC 11,.aH .Sub (.neg<|.int 1)<|.aC 11,.aH .Sub (.neg<|.int 1)<|.aC 11])<|.aC 10)<|.aC 8,.aC 3]]
noncomputable def EF:List SW:=[.one 1<|.call 12 [.aC 0,.list [.int 629,.int 77,.int 4310,.int 314159265358979323,.aH .Pow (.int 7)<|.int 3100]],.one 2<|.call 27 [.au (.aC 1)<|.int 0],.tpc [3,4,5]<|.tup [.aH .Mod (.au (.aC 1)<|.int 3)<|.aH .Pow (.int 10)<|.int 6,.aH .Mod (.aH .FloorDiv (.au (.aC 1)<|.int 3)<|.aH .Pow (.int 10)<|.int 6)<|.aH .Pow (.int 10)<|.int 6,.aH .Mod (.aH .FloorDiv (.au (.aC 1)<|.int 3)<|.aH .Pow (.int 10)<|.int 12)<|.aH .Pow (.int 10)<|.int 6],.cmp 6 (.list [.aH .Add (.aH .Add (.au (.aC 201)<|.int 0)<|.aH .Mult (.aC 3)<|.au (.aC 201)<|.int 1)<|.aC 4,.aH .Add (.au (.aC 201)<|.int 1)<|.aC 5]) (.one 201) (.aC 2) [],.one 7<|.call 19 [.aC 6,.au (.aC 1)<|.int 1],.b7 (.cmp .NotEq (.aC 7)<|.aC 6) [.ret<|.bool aE] [],.one 8<|.call 31 [.aC 2,.au (.aC 1)<|.int 2],.b7 (.fy .Or [.cmp .Eq (.aC 8)<|.list [],.cmp .NotEq (.aC 8)<|.call 29 [.aC 7,.aC 5,.au (.aC 1)<|.int 4]]) [.ret<|.bool aE] [],.cmp 9 (.list [.aH .Sub (.au (.au (.aC 2)<|.aC 201)<|.int 0)<|.au (.au (.aC 2)<|.aH .Sub (.aC 201)<|.int 1)<|.int 0,.aH .Sub (.au (.au (.aC 2)<|.aC 201)<|.int 1)<|.au (.au (.aC 2)<|.aH .Sub (.aC 201)<|.int 1)<|.int 1]) (.one 201) (.jA<|.int 3) [],.one 10<|.bi .abs [.aH .Sub (.aH .Mult (.au (.au (.aC 9)<|.int 1)<|.int 0)<|.au (.au (.aC 9)<|.int 2)<|.int 1)<|.aH .Mult (.au (.au (.aC 9)<|.int 1)<|.int 1)<|.au (.au (.aC 9)<|.int 2)<|.int 0],.one 11<|.bi .sum [.comp (.call 32 [.bi .abs [.au (.aC 201)<|.int 0],.bi .abs [.au (.aC 201)<|.int 1]]) (.one 201) (.aC 9) []],.cmp 12 (.aH .FloorDiv (.aH .Add (.aH .Add (.aH .Mult (.aH .Mult (.aC 10)<|.aC 201)<|.aC 201)<|.aH .Mult (.aC 11)<|.aC 201)<|.int 2)<|.int 2) (.one 201) (.jZ<|.list [.int 4,.int 3,.int 2,.int 1,.int 0]) [],.ret<|.cmp .Eq (.call 33 [.bi .sum [.dM (.aC 8) aF (aA<|.int 5) aF],.bi .sum [.dM (.aC 8) (aA<|.int 5) aF aF],.au (.aC 1)<|.int 4])<|.aC 12]
end B01
section
open PySem.Sre (M)
noncomputable def U5 (n:Nat) (m g:M):Prop:= ∀k,M.runFor (n+k) m=M.runFor k g
noncomputable def Goes (b:Nat) (m g:M):Prop:= ∃n,n<=b/\U5 n m g
theorem Goes.refl (m:M):Goes 0 m m:=(ax 0 (bh _) λk=>by rw[ug])
theorem Goes.step (o:m.outcome=aF) (e:m.step=m1) (g:Goes b m1 r):Goes (b+1) m r:=by refine aS g λn N g=>(ax (n+1) (Hv N) λk=>?_);rw[zj];refine (?_:(if m.outcome.isSome then m else M.runFor (n+k) m.step)=_);exact sb o<|sb e<|g k
theorem Goes.trans (g:Goes b m m1) (u:Goes c m1 r):Goes (b+c) m r:=by refine aS g λn x g=>aS u λv N u=>(ax (n+v) (iF x N) λk=>?_);rw[wO,g,u]
theorem Goes.le (g:Goes b m m1) (h:b<=c):Goes c m m1:=let ⟨n,N,g⟩:=g;(ax n (az N h) g)
theorem Dt (h:m.outcome.isSome=aB): ∀k,M.runFor k m=m:=by
 intro O;induction O with
 |zero=>exact rfl
 |succ k i=>exact by refine (?_:(if m.outcome.isSome then m else _)=m);exact sb (QGx h) rfl
theorem Jc: ∀a k m,M.runFor (a+k) m=M.runFor k (M.runFor a m):=by
 intro a;induction a with
 |zero=>intro k m;rw[ug];rfl
 |succ a i=>
  intro k m;rw[zj];refine (?_:(if m.outcome.isSome then m else M.runFor (a+k) m.step)=M.runFor k (if m.outcome.isSome then m else M.runFor a m.step));by_cases h:m.outcome.isSome=aB
  ·rw[if_pos h,if_pos h,Dt h]
  ·rw[if_neg h,if_neg h,i]
theorem QCY {w:bx} {E:aI->aN->Prop}: ∀T b m e,b<=4*T->0<T->e.outcome.isSome=aB->Goes b m e->Q e s->aO (aY prog w) A (Builtin.Re.reDrive T m) Q E s:=by
 intro T;induction T with
 |zero=>exact λb m e O h=>QGv h<|mG _
 |succ T i=>
  intro b m e B O o G q;refine G.elim λn G=>?_;have N:=G.1;have g:=G.2;clear G;refine (?_:aO (aY prog w) A (if (M.runFor 4 m).outcome.isSome=aB then pure (M.runFor 4 m) else _) Q E s);by_cases H:n<=4
  ·have:M.runFor 4 m=e:=by
    have:=g<|4 - n;rw[show n+(4 - n)=4 by exact QC ‹_›,Dt o] at this;exact this
   rw[this,if_pos o];exact bA q
  ·by_cases l:(M.runFor 4 m).outcome.isSome=aB
   ·rw[if_pos l]
    have x:=Jc 4 (n - 4) m;rw[Dt l,show 4+(n - 4)=n+0 by exact (wF<|sE ((aQ<|qp H):4<=n)),g 0] at x;rw[<-x,(rfl:M.runFor 0 e=e)];exact bA q
   ·rw[if_neg l]
    have u:Goes (b - 4) (M.runFor 4 m) e:=(ax (n - 4) ((bD (na (nL<|sE ((aQ<|qp H):4<=n)) N)<|nR<|sE ((bD (qp H) N):4<=b))) (λk=>by
     rw[<-Jc,show 4+(n - 4+k)=n+k by exact (wF<|sE ((aQ<|qp H):4<=n))]
     exact g k))
    refine aR<|wpAny_rule ?_;exact i (b - 4) _ _ ((bD (nL<|sE ((bD (qp H) N):4<=b)) B)) ((H9.mp λY=>(cY (na (na (qp H) N) B)<|gC 4 Y))) o u q
noncomputable def C1:Array Nat:= #[14,4,0,1,1,6,1,16,46,1]
noncomputable def yY (t:Array Nat) (s:Nat):Bool:=s==0||t.getD (s - 1) 0==10
noncomputable def X1 (t:Array Nat) (s:Nat) (f:Bool) (seen:jQ) (pc pos hd:Nat) (a:Option Bool):M:={code:=C1,text:=t,lim:=t.size,start:=s,lastStart:=t.size,pc:=pc,pos:=pos,handed:=hd,outermost:=f,marks:= #[],frames:=[{wait:=.nextStart,pc:=5,pos:=s,outermost:=f}],weight:=1,seen:=seen,answer:=a}
noncomputable def Y1 (t:Array Nat) (s:Nat) (f:Bool) (seen:jQ) (hd:Nat) (a:Bool):M:={code:=C1,text:=t,lim:=t.size,start:=s,lastStart:=t.size,pc:=5,pos:=s,handed:=hd,outermost:=f,marks:= #[],frames:=[],weight:=0,seen:=seen,answer:=aA a}
noncomputable abbrev S1 (t:Array Nat) (s:Nat) (f:Bool) (seen:jQ):M:=X1 t s f seen 5 s s aF
theorem yj {t s f seen}:(X1 t s f seen 5 s s aF).step=if yY t s=aB then X1 t s f ((seen.add 6).add 44) 7 s s aF else X1 t s f ((seen.add 6).add 44) 5 s s (aA aE):=rfl
theorem Fm {t s f seen}:(X1 t s f seen 7 s s aF).step=if s>=t.size then X1 t s f (seen.add 16) 7 s s (aA aE) else
 (match (Except.ok (t.getD s 0==46,seen.add 16)) with
 |.error W=>(X1 t s f (seen.add 16) 7 s s aF).stick W
 |.ok (false,seen)=>X1 t s f seen 7 s s<|aA aE
 |.ok (true,seen)=>X1 t s f seen 9 (s+1) s aF):=rfl
theorem Zi {t s f seen}:(X1 t s f seen 9 (s+1) s aF).step=if (f && ((aE && (s+1) !=t.size)||(false && (s+1)==s)))=true then X1 t s f (seen.add 1) 9 (s+1) s (some false) else X1 t s f (seen.add 1) 9 (s+1) (s+1) (some true):=rfl
theorem YU {t s f seen}:(X1 t s f seen 9 (s+1) (s+1)<|aA aB).step=Y1 t s f seen (s+1) true:=rfl
theorem A5 {t s f seen pc}:(X1 t s f seen pc s s<|aA aE).step=if s<t.size then S1 t (s+1) aE seen else Y1 t s f seen s false:=rfl
theorem Gi {t s f seen h a}:(Y1 t s f seen h a).step={Y1 t s f seen h a with outcome:=aA<|if a then .matched else .failed}:=rfl
noncomputable def lA (t:Array Nat) (s:Nat):Bool:=yY t s && t.getD s 0==46 && cP s t.size
theorem Rt {t s f seen} (h:lA t s=aB): ∃m,Goes 5 (S1 t s f seen) m/\m.outcome=aA .matched/\m.start=s/\m.handed=s+1:=by unfold lA at h;simp only[gn] at h;refine bI h λq Q=>bI q λH i=>?_;have r:=bJ Q;exact (kP _ (Goes.step rfl (yj.trans<|QGx H) (Goes.step rfl (Fm.trans<|(QGw<|H9.mpr ‹_›).trans<|sb i rfl) (Goes.step rfl (Zi.trans<|QGw<|by induction f<;>simp) (Goes.step rfl YU (Goes.step rfl Gi (Goes.refl _)))))) rfl rfl rfl)
theorem Xm {t s f seen} (h:lA t s=aE) (hs:s<t.size): ∃A,Goes 3 (S1 t s f seen)<|S1 t (s+1) aE A:=by
 by_cases H:yY t s=aB
 ·have i:(t.getD s 0==46)=false:=by
   unfold lA at h;rw[H,show cP s t.size=aB from sQ hs] at h;simpa using h
  exact ⟨_,Goes.step rfl (yj.trans<|QGx H) (Goes.step rfl (Fm.trans<|(QGw<|(λW=>(cY hs W))).trans<|sb i rfl) (Goes.step rfl (A5.trans<|QGx hs) (Goes.refl _)))⟩
 ·exact ⟨_,(Goes.step rfl (yj.trans<|QGw H) (Goes.step rfl (A5.trans<|QGx hs) (Goes.refl _))).le<|by decide⟩
theorem Zm {t f seen}: ∃m,Goes 4 (S1 t t.size f seen) m/\m.outcome=aA .failed:=by
 by_cases h:yY t t.size=aB
 ·exact (ax _ (Goes.step rfl (yj.trans<|QGx h) (Goes.step rfl (Fm.trans<|QGx<|bh _) (Goes.step rfl (A5.trans<|QGw<|mG _) (Goes.step rfl Gi (Goes.refl _))))) rfl)
 ·exact (ax _ ((Goes.step rfl (yj.trans<|QGw h) (Goes.step rfl (A5.trans<|QGw<|mG _) (Goes.step rfl Gi (Goes.refl _)))).le<|by decide) rfl)
noncomputable def gf (p:Nat->Bool):Nat->Nat->Option Nat
 |0,_=>aF
 |k+1,s=>if p s then aA s else gf p k (s+1)
noncomputable def oN (b:Nat) (m:M) (r:Option (Nat×Nat)):Prop:= ∃R,Goes b m R/\match r with|some (p,e)=>R.outcome=aA .matched/\R.start=p/\R.handed=e|none=>R.outcome=aA .failed
theorem Xo: ∀k s f seen,s+k=t.size->oN (5*(k+1)) (S1 t s f seen) ((gf (lA t) k s).map λp=>(p,p+1)):=by
 intro k;induction k with
 |zero=>
  exact λs f seen h=>by
   obtain rfl:s=t.size:=by assumption
   exact aS (Zm) λm g o=>(ax m (g.le<|gA _ _) o)
 |succ k i=>
  exact λs f seen h=>by
   dsimp only[gf];by_cases a:lA t s=aB
   ·exact sb (QGx a)<|uM (Rt a) λm g N r Q=>(kP m (g.le<|gA _ _) N r Q)
   ·exact sb (QGw a)<|aV (Xm (by simpa using a)<|aQ<|nL h) λA g=>aS (i (s+1) aE A (by grind_order:s+1+k=t.size)) λm u o=>(ax m ((g.trans u).le<|by simp+arith) o)
theorem QBa (t:Array Nat) (s:Nat) (hs:s<=t.size):oN (5*(t.size+1)) (kh C1 t 0 s t.size aE) ((gf (lA t) (t.size - s) s).map λp=>(p,p+1)):=by
 by_cases h:s<t.size
 ·have e:kh C1 t 0 s t.size aE=S1 t s aB (({}:jQ).add 14):=by
   refine (?_:(if s>t.size||decide (t.size - s<1) then _ else _)=_);erw[if_neg (by simp;exact ⟨(aQ h),(λW=>(cY (na h<|nR<|sE ((aQ h):s<=t.size))<|nL W))⟩)];rfl
  exact sb e<|aS (Xo (t.size - s) s true (({}:Sre.Seen).add 14) (Nat.add_sub_cancel' ‹_›)) λm g o=>(ax m (g.le<|(aQ<|gC 5<|nL<|sE ((aQ h):s<=t.size))) o)
 ·obtain rfl:s=t.size:=by exact ji (aQ hs) (aQ<|jM h)
  rw[Nat.sub_self];refine (ax ({kh C1 t 0 t.size t.size aE with outcome:=aA .failed}) ((Goes.step ?_ ?_<|Goes.refl _).le<|gA _ _) rfl)
  ·refine (?_:(if (decide (t.size>t.size)||decide (t.size - t.size<1))=true then _ else _:M).outcome=_)
   erw[if_pos<|by simp];rfl
  ·have e:kh C1 t 0 t.size t.size aE={code:=C1,text:=t,lim:=t.size,start:=t.size,pc:=5,pos:=t.size,handed:=t.size,marks:= #[],seen:=({}:jQ).add 14,answer:=aA aE}:=by
    refine (?_:(if (decide (t.size>t.size)||decide (t.size - t.size<1))=true then _ else _:M)=_);erw[if_pos<|by simp];rfl
   erw[e];rfl
end
section
open PySem.Sre (M)
noncomputable def C2:Array Nat:= #[14,9,4,1,2,16,10,16,13,0,7,7,16,13,16,10,15,18,5,16,10,15,13,11,16,13,5,5,0,16,10,1,15,2,0,1]
noncomputable def j4 (s:Nat) (f:Bool):IA:={wait:=.nextStart,pc:=10,pos:=s,outermost:=f}
noncomputable def lS (s:Nat) (f:Bool) (pc:Nat):IA:={wait:=.nextBranch,pc:=pc,pos:=s,outermost:=f,kept:={lastmark:= -1,lastindex:= -1,whole:=aE,marks:= #[]}}
noncomputable def OE (s:Nat) (f:Bool):IA:={wait:=.lookNot,pc:=26,pos:=s+1,outermost:=f,kept:={lastmark:= -1,lastindex:= -1,whole:=aE,marks:= #[]}}
noncomputable def Z2 (t:Array Nat) (s:Nat) (f:Bool) (seen:jQ) (pc pos hd:Nat) (a:Option Bool) (F:List IA) (W:Nat):M:={code:=C2,text:=t,lim:=t.size,start:=s,lastStart:=t.size,pc:=pc,pos:=pos,handed:=hd,outermost:=f,marks:= #[],frames:=F,weight:=W,seen:=seen,answer:=a}
section
variable {t:Array Nat} {s:Nat} {f:Bool} {seen:jQ}
theorem FE:(Z2 t s f seen 10 s s aF [j4 s f] 1).step=Z2 t s f (seen.add 7) 12 s s aF [lS s f 11,j4 s f] 2:=rfl
theorem yt {pc pos hd fr wt} (h: ∀seen,(Z2 t s g seen pc pos hd aF fr wt).step=if pos>=t.size then Z2 t s g (seen.add 16) pc pos hd (aA aE) fr wt else
 (match (Except.ok (t.getD pos 0==c,seen.add 16)) with
 |.error W=>(Z2 t s g (seen.add 16) pc pos hd aF fr wt).stick W
 |.ok (false,seen)=>Z2 t s g seen pc pos hd (aA aE) fr wt
 |.ok (true,seen)=>Z2 t s g seen (pc+2) (pos+1) hd aF fr wt)):
 (Z2 t s g seen pc pos hd aF fr wt).step=if (cP pos t.size && t.getD pos 0==c)=aB then Z2 t s g (seen.add 16) (pc+2) (pos+1) hd aF fr wt else Z2 t s g (seen.add 16) pc pos hd (aA aE) fr wt:=by
 rw[h];by_cases p:pos>=t.size
 ·rw[if_pos p,if_neg]
  intro q;rw[gn] at q;have:=bJ q.1;exact QGv ‹_› (iH.mpr ‹_›)
 ·rw[if_neg p,show cP pos t.size=aB from sQ<|qp ‹_›,Co]
  cases t.getD pos 0==c<;>rfl
theorem E5 {hd fr wt g}:(Z2 t s g seen 12 s hd aF fr wt).step=if (cP s t.size && t.getD s 0==13)=aB then Z2 t s g (seen.add 16) 14 (s+1) hd aF fr wt else Z2 t s g (seen.add 16) 12 s hd (aA aE) fr wt:=yt λO=>rfl
theorem PO {hd fr wt g}:(Z2 t s g seen 14 (s+1) hd aF fr wt).step=if (cP (s+1) t.size && t.getD (s+1) 0==10)=aB then Z2 t s g (seen.add 16) 16 (s+2) hd aF fr wt else Z2 t s g (seen.add 16) 14 (s+1) hd (aA aE) fr wt:=yt λO=>rfl
theorem Jq {hd fr wt g}:(Z2 t s g seen 19 s hd aF fr wt).step=if (cP s t.size && t.getD s 0==10)=aB then Z2 t s g (seen.add 16) 21 (s+1) hd aF fr wt else Z2 t s g (seen.add 16) 19 s hd (aA aE) fr wt:=yt λO=>rfl
theorem WH {hd fr wt g}:(Z2 t s g seen 24 s hd aF fr wt).step=if (cP s t.size && t.getD s 0==13)=aB then Z2 t s g (seen.add 16) 26 (s+1) hd aF fr wt else Z2 t s g (seen.add 16) 24 s hd (aA aE) fr wt:=yt λO=>rfl
theorem YL {hd fr wt g}:(Z2 t s g seen 29 (s+1) hd aF fr wt).step=if (cP (s+1) t.size && t.getD (s+1) 0==10)=aB then Z2 t s g (seen.add 16) 31 (s+2) hd aF fr wt else Z2 t s g (seen.add 16) 29 (s+1) hd (aA aE) fr wt:=yt λO=>rfl
theorem V_ {pos hd fr wt}:(Z2 t s f seen 16 pos hd aF fr wt).step=Z2 t s f (seen.add 15) 35 pos hd aF fr wt:=rfl
theorem QAh {pos hd fr wt}:(Z2 t s f seen 21 pos hd aF fr wt).step=Z2 t s f (seen.add 15) 35 pos hd aF fr wt:=rfl
theorem QBD {pos hd fr wt}:(Z2 t s f seen 32 pos hd aF fr wt).step=Z2 t s f (seen.add 15) 35 pos hd aF fr wt:=rfl
theorem Gn {pos hd fr wt}:(Z2 t s f seen 35 pos hd aF fr wt).step=if (f && ((aE && pos !=t.size)||(false && pos==s)))=true then Z2 t s f (seen.add 1) 35 pos hd (some false) fr wt else Z2 t s f (seen.add 1) 35 pos pos (some true) fr wt:=rfl
theorem JW {pc pos hd g}:(Z2 t s g seen pc pos hd (aA aE) [lS s f 11,j4 s f] 2).step=Z2 t s f seen 19 s s aF [lS s f 18,j4 s f] 2:=rfl
theorem Vc {pc pos hd g}:(Z2 t s g seen pc pos hd (aA aE) [lS s f 18,j4 s f] 2).step=Z2 t s f seen 24 s s aF [lS s f 23,j4 s f] 2:=rfl
theorem RF {hd}:(Z2 t s f seen 26 (s+1) hd aF [lS s f 23,j4 s f] 2).step=Z2 t s aE (seen.add 5) 29 (s+1) (s+1) aF [OE s f,lS s f 23,j4 s f] 3:=rfl
theorem TN {pc pos hd g}:(Z2 t s g seen pc pos hd (aA aE) [OE s f,lS s f 23,j4 s f] 3).step=Z2 t s f seen 32 (s+1) hd aF [lS s f 23,j4 s f] 2:=rfl
theorem Fg {k pc pos hd g}:(Z2 t s g seen pc pos hd (aA aB) [lS s f k,j4 s f] 2).step=Z2 t s f seen k s hd (aA aB) [j4 s f] 1:=rfl
theorem E1 {pc pos hd g}:(Z2 t s g seen pc pos hd (aA aB) [j4 s f] 1).step=Z2 t s f seen 10 s hd (aA aB) [] 0:=rfl
theorem Dp {a pc pos hd wt}:(Z2 t s f seen pc pos hd (aA a) [] wt).step={Z2 t s f seen pc pos hd (aA a) [] wt with outcome:=aA<|if a then .matched else .failed}:=rfl
theorem Eg: ¬ ((f && ((aE && pos !=t.size)||(false && pos==s)))=true):=by induction f<;>simp
noncomputable def iE (t:Array Nat) (s:Nat):Bool:=cP s t.size && (t.getD s 0==10||t.getD s 0==13)
noncomputable def pb (t:Array Nat) (s:Nat):Nat:=if t.getD s 0==13 && (cP (s+1) t.size && t.getD (s+1) 0==10) then s+2 else s+1
theorem VZ (h:iE t s=aB): ∃m,Goes 20 (Z2 t s f seen 10 s s aF [j4 s f] 1) m/\m.outcome=aA .matched/\m.start=s/\m.handed=pb t s:=by
 unfold iE at h;rw[gn] at h;refine bI h λA i=>?_;by_cases c:(t.getD s 0==13)=aB
 ·have H:(cP s t.size && t.getD s 0==13)=true:=by simp only[A,c];rfl
  have K: ¬ ((cP s t.size && t.getD s 0==10)=aB):=by rw[beq_iff_eq] at c;erw[c];simp
  by_cases n:(cP (s+1) t.size && t.getD (s+1) 0==10)=aB
  ·refine (kP _ ((Goes.step rfl FE (Goes.step rfl (E5.trans<|QGx H) (Goes.step rfl (PO.trans<|QGx n) (Goes.step rfl V_ (Goes.step rfl (Gn.trans<|QGw Eg) (Goes.step rfl Fg (Goes.step rfl E1 (Goes.step rfl Dp (Goes.refl _))))))))).le<|by decide) rfl rfl ?_)
   exact (QGx (by simp only[c,n];rfl)).symm
  ·refine (kP _ ((Goes.step rfl FE (Goes.step rfl (E5.trans<|QGx H) (Goes.step rfl (PO.trans<|QGw n) (Goes.step rfl JW (Goes.step rfl (Jq.trans<|QGw K) (Goes.step rfl Vc (Goes.step rfl (WH.trans<|QGx H) (Goes.step rfl RF (Goes.step rfl (YL.trans<|QGw n) (Goes.step rfl TN
    (Goes.step rfl QBD (Goes.step rfl (Gn.trans<|QGw Eg) (Goes.step rfl Fg (Goes.step rfl E1 (Goes.step rfl Dp (Goes.refl _)))))))))))))))).le (by decide)) rfl rfl ?_)
   exact (QGw (by rw[gn];exact λq=>n q.2)).symm
 ·have K:(t.getD s 0==10)=true:=by
   rw[IB] at i;exact i.resolve_right c
  have H: ¬ ((cP s t.size && t.getD s 0==13)=aB):=by rw[gn];exact λq=>c q.2
  have l:(cP s t.size && t.getD s 0==10)=true:=by simp only[A,K];rfl
  refine (kP _ ((Goes.step rfl FE (Goes.step rfl (E5.trans<|QGw H) (Goes.step rfl JW (Goes.step rfl (Jq.trans<|QGx l) (Goes.step rfl QAh (Goes.step rfl (Gn.trans<|QGw Eg) (Goes.step rfl Fg (Goes.step rfl E1 (Goes.step rfl Dp (Goes.refl _)))))))))).le<|by decide) rfl rfl ?_);exact (QGw (by rw[gn];exact λq=>c q.1)).symm
end
theorem VA (c:Nat) (seen:jQ): ∃s,zy C2 c C2.size 5 aB seen=.ok (c==10||c==13,s):=by
 have e:zy C2 c 36 5 aB seen=if (c==10)=aB then .ok (aB,seen.add 16) else if (c==13)=aB then .ok (aB,(seen.add 16).add 16) else .ok (aE,((seen.add 16).add 16).add 0):=rfl;erw[e];by_cases h:(c==10)=aB
 ·exact sb (QGx h)<|sb h<|⟨_,rfl⟩
 ·erw[if_neg h]
  by_cases H:(c==13)=aB
  ·rw[if_pos H,H,Bool.or_true]
   exact ⟨_,rfl⟩
  ·exact sb (QGw H)<|⟨_,by simp only[Bool.not_eq_true] at h H;(erw[h];erw[H]);rfl⟩
theorem RG (c:m.code=C2) (a:m.text=t) (hl:m.lim=t.size): ∀k s seen,t.size<s+k-> ∃A,zz m k s seen=.ok (gf (iE t) k s,A):=by
 intro O;induction O with
 |zero=>exact λs seen O=>⟨seen,rfl⟩
 |succ k i=>
  exact λs seen h=>by
   dsimp only[zz,gf];erw[hl];by_cases hs:s>=t.size
   ·have hb:iE t s=false:=by
     dsimp only[iE];erw[(by rw[uN];intro q;have:=bJ q;exact absurd ‹_› (iH.mpr ‹_›):cP s t.size=aE)];rfl
    rw[if_pos hs,hb];refine ⟨seen,?_⟩
    have: ∀k s,s>=t.size->gf (iE t) k s=none:=by
     intro k;induction k with
     |zero=>intros;rfl
     |succ k i=>
      intro s hs;dsimp only[gf];have hb:iE t s=false:=by dsimp only[iE];rw[show cP s t.size=aE by rw[uN];intro q;have:=bJ q;exact cY hs this];rfl
      rw[hb];exact i (s+1)<|Ha ‹_›
    rw[if_neg (by decide),this k (s+1) (Ha ‹_›)]
   ·rw[if_neg hs,c,a]
    refine aV (VA (t.getD s 0) seen) λA e=>?_;rw[e];have hb:iE t s=(t.getD s 0==10||t.getD s 0==13):=by dsimp only[iE];rw[show Nat.blt s t.size=true from Nat.ble_eq_true_of_le<|Nat.lt_of_not_le ‹_›];rfl
    rw[hb];induction hh:(t.getD s 0==10||t.getD s 0==13) with
    |true=>exact ⟨A,rfl⟩
    |false=>exact aV (i (s+1) A<|aQ h) λs2 e2=>⟨s2,by rw[if_neg<|by decide];exact e2⟩
theorem xW: ∀{k s i:Nat},gf p k s=aA i->p i=aB/\s<=i/\i<s+k:=by
 intro k;induction k with
 |zero=>exact λh=>ay h
 |succ k d=>
  exact @λs i h=>by
   unfold gf at h;by_cases q:p s=aB
   ·rw[if_pos q] at h
    cases h
    exact ⟨q,bh _,by simp+arith⟩
   ·rw[if_neg q] at h
    exact eJ (d h) λa b c=>⟨a,by exact sA ‹_›,by exact aQ c⟩
theorem QCw (t:Array Nat) (s:Nat) (hs:s<=t.size):oN 21 (kh C2 t 0 s t.size aE) ((gf (iE t) (t.size+1 - s) s).map λp=>(p,pb t p)):=by
 by_cases h:s<t.size
 ·have e:kh C2 t 0 s t.size aE=(match zz {code:=C2,text:=t,lim:=t.size,start:=s,lastStart:=t.size,pc:=10,pos:=s,handed:=s,marks:= #[],seen:=({}:jQ).add 14} (t.size+1 - s) s (({}:jQ).add 14) with
   |.ok (some p,seen)=>Z2 t p aB seen 10 p p aF [j4 p aB] 1
   |.ok (none,seen)=>({code:=C2,text:=t,lim:=t.size,start:=s,lastStart:=t.size,pc:=10,pos:=s,handed:=s,marks:= #[],seen:=seen,answer:=aA aE}:M)
   |.error W=>({code:=C2,text:=t,lim:=t.size,start:=s,lastStart:=t.size,pc:=10,pos:=s,handed:=s,marks:= #[],seen:=({}:jQ).add 14}:M).stick W):=by
   refine (?_:(if s>t.size||decide (t.size - s<1) then _ else _)=_);erw[if_neg (by simp;exact ⟨(aQ h),(λC=>(cY (na h<|nR<|sE ((aQ h):s<=t.size))<|nL C))⟩)];rfl
  refine sb e<|aV (RG rfl rfl rfl (t.size+1 - s) s (({}:Sre.Seen).add 14) ((aQ<|nR<|sE ((aQ h):s<=t.size+1)))) λA e2=>sb e2 ?_
  induction F:gf (iE t) (t.size+1 - s) s with
  |some p=>exact aS (VZ (xW F).1) λR g o=>(ax R (g.le<|by decide) o)
  |none=>exact (ax _ ((Goes.step rfl rfl (Goes.refl _)).le<|by decide) rfl)
 ·obtain rfl:s=t.size:=by exact ji (aQ hs) (aQ<|jM h)
  have F:gf (iE t) (t.size+1 - t.size) t.size=none:=by erw[(by simp+arith:t.size+1 - t.size=1)];dsimp only[gf,gf];rw[if_neg];dsimp only[iE];rw[show cP t.size t.size=aE by rw[uN];intro q;have:=bJ q;exact absurd ‹_› (iH.mpr ‹_›),IC];decide
  rw[F];have e:kh C2 t 0 t.size t.size aE={code:=C2,text:=t,lim:=t.size,start:=t.size,pc:=10,pos:=t.size,handed:=t.size,marks:= #[],seen:=({}:jQ).add 14,answer:=aA aE}:=by refine (?_:(if (decide (t.size>t.size)||decide (t.size - t.size<1))=true then _ else _:M)=_);rw[if_pos<|by simp];rfl
  rw[e];exact (ax _ ((Goes.step rfl rfl (Goes.refl _)).le<|by decide) rfl)
end
noncomputable def uH (t:Array Nat) (d:Nat):Option (Nat×Nat):=(gf (lA t) (t.size - d) d).map λp=>(p,p+1)
noncomputable def rN (t:Array Nat) (d:Nat):Option (Nat×Nat):=(gf (iE t) (t.size+1 - d) d).map λp=>(p,pb t p)
noncomputable def yJ:Str:=⟨#[46,46]⟩
noncomputable def yT:Str:=⟨#[13,10]⟩
noncomputable def gz (nx:Nat->Option (Nat×Nat)) (rep:aG) (t:Array Nat):Nat->Nat->List aG
 |0,_=>[]
 |k+1,d=>(nx d).elim (if d<t.size then [⟨t.extract d t.size⟩] else []) λq=>(if d<q.1 then [⟨t.extract d q.1⟩] else [])++rep::gz nx rep t k q.2
theorem JM {nx:Nat->Option (Nat×Nat)} {rep:aG} {k d:Nat}:gz nx rep t (k+1) d=(nx d).elim (if d<t.size then [⟨t.extract d t.size⟩] else []) λq=>(if d<q.1 then [⟨t.extract d q.1⟩] else [])++rep::gz nx rep t k q.2:=rfl
theorem BV {nx:Nat->Option (Nat×Nat)} {rep:aG} {k d:Nat} (h:nx d=aF):gz nx rep t (k+1) d=if d<t.size then [⟨t.extract d t.size⟩] else []:=JM.trans (by rw[h];rfl)
theorem Bo {nx:Nat->Option (Nat×Nat)} {rep:aG} {k d a e:Nat} (h:nx d=aA (a,e)):gz nx rep t (k+1) d=(if d<a then [⟨t.extract d a⟩] else [])++rep::gz nx rep t k e:=JM.trans (by rw[h];rfl)
noncomputable def qT (ts:List aG):Str:=if ts.isEmpty then ⟨#[]⟩ else DC ⟨#[]⟩ ts
noncomputable def q1 (x:aG):Str:=qT<|gz (uH x.cps) yJ x.cps (x.cps.size+1) 0
noncomputable def q2 (x:aG):Str:=qT<|gz (rN x.cps) yT x.cps (x.cps.size+1) 0
noncomputable def Ku (d:aK):Option (List aK):=d.casesOn (motive_1:=λO=>Option<|List aK) aF (λO=>aF) (λO=>aF) (λO=>aF) (λO=>aF) (λn=>aA n) λO=>aF
theorem Xw:Ku d=aA n->d=.tuple n:=d.casesOn (λh=>ay h) (λO h=>ay h) (λO h=>ay h) (λO h=>ay h) (λO h=>ay h) (λO h=>QGz QEt<|kB h) λO h=>ay h
noncomputable def yc (d:aK):Option Str:=d.casesOn (motive_1:=λO=>Option aG) aF (λO=>aF) (λO=>aF) (λn=>aA n) (λO=>aF) (λO=>aF) λO=>aF
theorem Om:yc d=aA n->d=.str n:=d.casesOn (λh=>ay h) (λO h=>ay h) (λO h=>ay h) (λO h=>QGz sH<|kB h) (λO h=>ay h) (λO h=>ay h) λO h=>ay h
noncomputable def sj (d:aK):Bool:=(((Ku d).bind Bf).bind λp=>(yc p.1).bind λO=>yc p.2).isSome
theorem ZD (h:sj d=aB): ∃x y,d=.tuple [.str x,.str y]:=aV (mO.mp h) λy h=>aS (z7.mp h) λp A H=>aS (z7.mp A) λl Q b=>aS (z7.mp H) λx r P=>⟨x,y,(Xw Q).trans<|QGz QEt<|(G9 b).trans<|by rw[Om r,Om P]⟩
noncomputable abbrev Gz (d:aK):Fl->Ls->Prop:=λf O=>iY f d
noncomputable def Fo (d:aK) (hs:List aK):Fl->Ls->Prop:=λf l=>iY f d/\aL l aT=.own hs/\aL l bQ=.emp
noncomputable def lg (o:bj) (k:Nat) (b:List SW) (xs:List aK) (d:aK):Prop:=xs.length=k/\ ∃P,sW (b.map SW.w) o (jG (bg k) (xs.map .val)<|vB P)<|Gz d
noncomputable def u5 (o:bj) (k:Nat) (exs:List Sl) (b:List SW) (xs hs:List aK) (d:aK) (hs':List aK):Prop:=(xs.map xN++exs).length+1=k/\sW (b.map SW.w) o (jG (bg k) (.inst::(xs.map .val++exs))<|rH hs) (Fo d hs')
noncomputable def tC (o:bj) (k:Nat) (exs:List Sl) (b:List SW) (xs hs:List aK) (d:aK):Prop:=(xs.map xN++exs).length+1=k/\sW (b.map SW.w) o (jG (bg k) (.inst::(xs.map .val++exs))<|rR hs) (Gz d)
namespace B01
noncomputable def vN:Stmt:=zA (z9 pg) 20
noncomputable def Fu:nP:=Bx (.Constant .none 0 default) (λO O O=>.Constant .none 0 default) (λO=>.Constant .none 0 default) (λv=>v) vN
noncomputable def xO:List (Option nP):=tH [] (λk O O=>k) (λO=>[]) [] (λO O=>[]) Fu
noncomputable def yg:List nP:=tH [] (λO v O=>v) (λO=>[]) [] (λO O=>[]) Fu
noncomputable def yh:Pos:=tH default (λO O p=>p) (λO=>default) default (λO O=>default) Fu
noncomputable def KA (x:nP):Const:=tH .none (λO O O=>.none) (λc=>c) .none (λO O=>.none) x
noncomputable def Se (ks:List (Option nP)) (vs:List nP):List (Int×fX):=(ks.zip vs).filterMap λp=>p.1.bind λk=>match KA k,KA p.2 with
 |.int i,.str s=>aA (i,s)
 |_,_=>aF
noncomputable def b3:List (Int×fX):=Se xO yg
noncomputable def gL:List Int:=[65024,65025,65026,65027,65028,65029,6150,65030,65031,65032,65033,6155,6156,6157,8203,8204,8205,65034,65035,65036,65037,65038,65039,173,847,8288,65279]
noncomputable def qz (i:Int):Dat:=match b3.lookup i with|some s=>.str s|none=>.none
noncomputable def Eu:List (Nat×(Nat×List SW)):=[(1,(1,By)),(2,(1,KP)),(3,(3,tG)),(4,(6,b_div3n2n)),(5,(2,yx)),(6,(2,CN)),(7,(2,b_divmod_pos)),(8,(2,BL)),(10,(1,KG)),(11,(1,EU)),(12,(2,Fq)),(13,(2,Iu)),(14,(1,GD)),(15,(1,O7)),(17,(1,NQ)),(19,(2,b_law_book)),(26,(1,EF)),(27,(1,Gf)),(28,(2,LZ)),(29,(3,b_law_counts)),(30,(2,b_law_bare)),(31,(2,b_law_found)),(32,(2,b_law_common)),(33,(3,HM))]
inductive OF (o:bj) (f:Nat) (xs:List aK) (d:aK):Prop
 |q {x:Str}:f=9->xs=[.str x]->d=.str (q1<|q2 x)->x.cps.size<=400000->(q2 x).cps.size<=400000->OF o f xs d
 |mk {k bs}:Eu.lookup f=some (k,bs)->lg o k bs xs d->OF o f xs d
inductive OH (o:bj) (k:Nat) (xs hs:List aK) (d:aK) (hs':List aK):Prop
 |add:k=0->u5 o 4 [.emp] yn xs hs d hs'->OH o k xs hs d hs'
 |del:k=9->u5 o 2 [] Et xs hs d hs'->OH o k xs hs d hs'
inductive OR (o:bj) (k:Nat) (xs hs:List aK) (d:aK):Prop
 |all:k=1->tC o 2 [] DW xs hs d->OR o k xs hs d
 |items:k=2->hs.all sj=true->tC o 1 [] Bb xs hs d->OR o k xs hs d
inductive OL (o:bj) (f:Nat) (xs:List aK) (r:Ls) (d:aK) (r':Ls):Prop
 |a:f=0->vy o 0 [200,201] [0,1,2,3] none (Jf.map SW.w) xs r d r'->OL o f xs r d r'
 |b:f=1->vy o 1 [200,201,202] [1,2,3] (some 2) (G6.map SW.w) xs r d r'->OL o f xs r d r'
 |c:f=2->vy o 2 [200,201] [0,1,2] none (Ff.map SW.w) xs r d r'->OL o f xs r d r'
noncomputable def MO:bj:={F:=λO O O=>False,H:=λO O O O O=>False,R:=λO O O O=>False,L:=λO O O O O=>False,b1:=λi=>gL.contains i,b3:=qz,gi:=λx i=>x= "_DIV_LIMIT" /\i=4000,gs:=λO O=>False}
noncomputable def aU:Nat->bj
 |0=>MO
 |n+1=>{MO with F:=OF<|aU n,H:=OH<|aU n,R:=OR<|aU n,L:=OL<|aU n}
theorem oG (n:Nat) {x:aG} (h:x= "_DIV_LIMIT" /\i=4000):(aU n).gi x i:=by induction n<;>exact h
theorem di {n f k:Nat} (h:lg (aU n) k bs xs d) (e:Eu.lookup f=aA (k,bs)):(aU<|n+1).F f xs d:=OF.mk e h
end B01
theorem eD (b:List SW) (k:Nat) (hs:Hs) (o:bj) (xs:List aK) (d:aK) (e:xs.length=k):ju (jG (bg k) (xs.map .val) []) λl=>sX (b.map SW.x) o hs l λv l O=>iY v d->lg o k b xs d:=l5<|(oY<|oU b).r (λq=>⟨e,[],q⟩) λO O O q=>q
theorem q8 (b:List SW) (k:Nat) (P:List Nat) (hs:Hs) (o:bj) (xs:List aK) (d:aK) (e:xs.length=k):ju (jG (bg k) (xs.map .val)<|vB P) λl=>sX (b.map SW.x) o hs l λv l O=>iY v d->lg o k b xs d:=l5<|(oY<|oU b).r (λq=>⟨e,P,q⟩) λO O O q=>q
theorem Jb (b:List SW) (k:Nat) (exs:List Sl) (hs:Hs) (o:bj) (xs H:List aK) (d:aK) (h:List aK) (e:(xs.map xN++exs).length+1=k):ju (jG (bg k) (.inst::(xs.map .val++exs))<|rH H) λl=>sX (b.map SW.x) o hs l λv l O=>Fo d h v l->u5 o k exs b xs H d h:=l5<|(oY<|oU b).r (λq=>⟨e,q⟩) λO O O q=>q
theorem Mj (b:List SW) (k:Nat) (exs:List Sl) (hs:Hs) (o:bj) (xs H:List aK) (d:aK) (e:(xs.map xN++exs).length+1=k):ju (jG (bg k) (.inst::(xs.map .val++exs))<|rR H) λl=>sX (b.map SW.x) o hs l λv l O=>iY v d->tC o k exs b xs H d:=l5<|(oY<|oU b).r (λq=>⟨e,q⟩) λO O O q=>q
theorem QBv {P:List α->Prop} (h:P []): ∀us,us.length=0->P us
 |[],_=>h
theorem j7 {P:List α->Prop} (h: ∀u us,us.length=n->P (u::us)): ∀us,us.length=n+1->P us
 |u::us,e=>h u us<|zq e
theorem lI {P:List α->Prop} (h: ∀a,P [a]): ∀us,us.length=1->P us:=j7 λa=>QBv<|h a
theorem i6 {P:List α->Prop} (h: ∀a b,P [a,b]): ∀us,us.length=2->P us:=j7 λa=>lI<|h a
theorem x8 {P:List α->Prop} (h: ∀a b c,P [a,b,c]): ∀us,us.length=3->P us:=j7 λa=>i6<|h a
theorem v_ {P:List α->Prop} (h: ∀a b c d e,P [a,b,c,d,e]): ∀us,us.length=5->P us:=j7 λa=>j7 λb=>x8<|h a b
theorem Li {P:List α->Prop} (h: ∀a b c d e f,P [a,b,c,d,e,f]): ∀us,us.length=6->P us:=j7 λa=>v_<|h a
theorem YG {P:List α->Prop} (h: ∀a b c d e f g i j,P [a,b,c,d,e,f,g,i,j]): ∀us,us.length=9->P us:=j7 λa=>j7 λb=>j7 λc=>Li<|h a b c
theorem QGb {P:List α->Prop} (H:P []) (h: ∀a b c d e f g i j,P [a,b,c,d,e,f,g,i,j]) {us:List α} (e:us=[]\/us.length=9):P us:=e.elim (λe=>e▸H)<|YG h us
theorem Wf {P:Nat->Prop}: ∀k,k<0->P k:=λk h=>QGv h<|QB k
theorem BN {P:Nat->Prop} (h: ∀k,k<n->P k) (hn:P n): ∀k,k<n+1->P k:=λk K=>(Nat.lt_succ_iff_lt_or_eq.mp K).elim (h k) λe=>e▸hn
theorem lt2 {P:Nat->Prop} (a:P 0) (b:P 1): ∀k,k<2->P k:=BN (BN Wf a) b
theorem Iv {P:Nat->Prop} (a:P 0) (b:P 1) (c:P 2): ∀k,k<3->P k:=BN (lt2 a b) c
theorem Ly {P:Nat->Prop} (a:P 0) (b:P 1) (c:P 2) (d:P 3): ∀k,k<4->P k:=BN (Iv a b c) d
theorem l3e {c:Nat} {G:Prop} (h:c<3) (a:c=0->G) (b:c=1->G) (d:c=2->G):G:=Iv (P:=λk=>c=k->G) a b d c h rfl
theorem l4e {c:Nat} {G:Prop} (h:c<4) (a:c=0->G) (b:c=1->G) (d:c=2->G) (e:c=3->G):G:=Ly (P:=λk=>c=k->G) a b d e c h rfl
noncomputable abbrev va:=(h:Type)->Ctx->bP->hO->ba h->Option (Except aI h×bP×hO)
noncomputable abbrev xu:=Ctx->bP->hO->Option (zh×hO)
noncomputable def LN (pr:sF) (P:bZ) (ev:va) (l:xu):va:=λα H p s m=>m.casesOn (motive:=λO=>Option<|Except aI α×bP×hO)
 (λa=>aA (.ok a,p,s))
 (λe=>aA (.error e,p,s))
 (λO=>aF)
 (λO=>aF)
 (λO k=>ev α H p s<|k ())
 (λQ k=>ev α H Q s<|k ())
 (λa O k=>cond (cP a s.n) ((s.tree.get a).bind λo=>(alive o).bind λo'=>ev α H p s<|k o') aF)
 (λa O f k=>cond (cP a s.n) ((s.tree.get a).bind λo=>(alive o).bind λO=>ev α H p {s with tree:=s.tree.set a f} (k ())) aF)
 (λo k=>cond ((s.tree.ins s.n o).get s.n).isSome (ev α H p {s with tree:=s.tree.ins s.n o,n:=s.n+1} (k s.n)) aF)
 (λa k=>cond (cP a s.n) ((s.tree.get a).bind λo=>ev α H p s<|k<|alive o)<|ev α H p s<|k aF)
 (λO k=>ev α H p s<|k ())
 (λO O=>aF)
 (λk=>ev α H p {s with toks:=s.toks+1} (k s.toks))
 (λk=>ev α H p s<|k ⟨pr,P⟩)
 (λO O O=>aF)
 (λO O O=>aF)
 (λc h O O k=>(l (H.enter c h p) p s).bind λq=>ev α H p q.2<|k q.1)
 (λown k=>ev α H p s<|k<|if own then H.own else H.handled)
 (λO O=>aF)
 (λO O=>aF)
 (λO O O O=>aF)
 (λO O O O=>aF)
 (λk=>ev α H p s<|k<|(H.code,p)::H.below)
 (λO O=>aF)
 (λk=>ev α H p s<|k 0)
 (λO O O O O=>aF)
noncomputable def Kg (den:Code->ba Fin) (i:va) (l:xu):xu:=λh p s=>(i Fin h p s<|den h.code).bind λq=>match q.1 with
 |.ok (.done f)=>aA (.ok f,q.2.2)
 |.ok (.again c)=>cond c.quiet (l (h.goto c) q.2.1 q.2.2) aF
 |.error e=>aA (.error e,q.2.2)
noncomputable def Eh (den:Code->ba Fin) (pr:sF) (P:bZ) (n:Nat):va×xu:=n.rec (λO O O O O=>aF,λO O O=>aF) λO r=>(LN pr P r.1 r.2,Kg den r.1 r.2)
noncomputable def gh (den:Code->ba Fin) (pr:sF) (P:bZ) (n:Nat):va:=(Eh den pr P n).1
theorem vI {α:Type} {x:Option α} {r:α} (h:cond b x aF=aA r):b=aB/\x=aA r:=by induction b;exact ay h;exact ⟨rfl,h⟩
theorem xb {α β:Type} {x:Option α} {f:α->Option β} {r:β} (h:x.bind f=aA r): ∃a,x=aA a/\f a=aA r:=z7.mp h
noncomputable def Ed {α:Type} (Q:α->bP->aN->Prop) (E:aI->bP->aN->Prop) (x:Except aI α×bP×hO):Prop:=x.1.rec (λe=>E e x.2.1 x.2.2.abs) λa=>Q a x.2.1 x.2.2.abs
noncomputable def GV (M:Cu) (e:va):Prop:= ∀(h:Type) (H:Ctx) (p:bP) (s:hO) (m:ba h) (x:Except aI h×bP×hO),e h H p s m=aA x-> ∀(Q:h->bP->aN->Prop) (E:aI->bP->aN->Prop),Ed Q E x->f6 M H m Q E p s.abs
noncomputable def BB (M:Cu) (e:xu):Prop:= ∀(h:Ctx) (p:bP) (s:hO) (x:zh×hO),e h p s=aA x-> ∀R:zh->aN->Prop,R x.1 x.2.abs->wpCode M h R p s.abs
theorem N_ {s:hO} (g:s.tree.get a=aA o):({s with tree:=s.tree.set a f}).abs={s.abs with heap:=s.abs.heap.update a f}:=QGz (λh=>QEu h _ _ _ _)<|absHeap_set g
theorem Xg {s:hO} (g:((s.tree.ins s.n o).get s.n).isSome=aB):({s with tree:=s.tree.ins s.n o,n:=s.n+1}).abs={s.abs with heap:=s.abs.heap.push o}:=QGz (λh=>QEu h _ _ _ _)<|absHeap_ins g
section
theorem BH {β:Type} {P:β->Prop} {a b:β} (h:aA a=aA b) (k:P b):P a:=kB h▸k
theorem MS {s:hO} {β:Type} {f:bH->Option β} {x:β} (h:cond (cP a s.n) ((s.tree.get a).bind λo=>(alive o).bind f) aF=aA x): ∃o o',s.tree.get a=aA o/\s.abs.heap.get? a=aA o'/\f o'=aA x:=(xb (vI h).2).elim λo g=>(xb g.2).elim λo' al=>⟨o,o',g.1,(ID (bJ (vI h).1) g.1).trans al.1,al.2⟩
theorem QAZ {s:hO} {α β:Type} {k:Option bH->ba α} {f:ba α->Option β} {x:β} {Q:α->bP->aN->Prop} {E:aI->bP->aN->Prop} (i: ∀k,f k=aA x->f6 ⟨den,pr,w⟩ Γ k Q E p s.abs) (h:cond (cP a s.n) ((s.tree.get a).bind λo=>f<|k<|alive o) (f<|k aF)=aA x):f6 ⟨den,pr,w⟩ Γ (k<|s.abs.heap.get? a) Q E p s.abs:=by
 by_cases b:a<s.n
 ·exact (xb<|(QGz (cond · _ _)<|sQ b).symm.trans h).elim λo h=>(ID b h.1).symm▸i _ h.2
 ·exact (abs_get_none b).symm▸i _ ((QGz (cond · _ _)<|uN.mpr λq=>b<|bJ q).symm.trans h)
theorem QAM (i:GV ⟨den,pr,w⟩ ev) (r:BB ⟨den,pr,w⟩ ec) {α:Type} {s:hO} {m:ba α} {x:Except aI α×bP×hO} {Q:α->bP->aN->Prop} {E:aI->bP->aN->Prop} (M:Ed Q E x):LN pr w.params ev ec α Γ p s m=aA x->f6 ⟨den,pr,w⟩ Γ m Q E p s.abs:=
 m.casesOn
  (λa h=>BH (P:=Ed Q E) h M)
  (λe h=>BH (P:=Ed Q E) h M)
  (λO h=>ay h)
  (λO h=>ay h)
  (λO O h=>i _ _ _ _ _ _ h _ _ M)
  (λO O h=>i _ _ _ _ _ _ h _ _ M)
  (λa q k h=>(MS h).elim λo h=>h.elim λo' h=>⟨o',h.2.1,i _ _ _ _ _ _ h.2.2 _ _ M⟩)
  (λa q f k h=>(MS h).elim λo h=>h.elim λo' h=>⟨QGz Option.isSome h.2.1,N_ h.1▸i _ _ _ _ _ _ h.2.2 _ _ M⟩)
  (λo k h=>(QD s.tree s.n s.life▸Xg (vI h).1▸i _ _ _ _ _ _ (vI h).2 _ _ M:f6 _ _ (k s.abs.heap.objs.size) _ _ _ _))
  (λa k h=>QAZ (λk h=>i _ _ _ _ _ _ h _ _ M) h)
  (λO O h=>i _ _ _ _ _ _ h _ _ M)
  (λO O h=>ay h)
  (λO h=>i _ _ _ _ _ _ h _ _ M)
  (λO h=>i _ _ _ _ _ _ h _ _ M)
  (λO O O h=>ay h)
  (λO O O h=>ay h)
  (λc hd g l k h=>(xb h).elim λx h=>r _ _ _ _ h.1 _<|i _ _ _ _ _ _ h.2 _ _ M)
  (λO O h=>i _ _ _ _ _ _ h _ _ M)
  (λO O h=>ay h)
  (λO O h=>ay h)
  (λO O O O h=>ay h)
  (λO O O O h=>ay h)
  (λO h=>i _ _ _ _ _ _ h _ _ M)
  (λO O h=>ay h)
  (λO h=>i _ _ _ _ _ _ h _ _ M)
  (λO O O O O h=>ay h)
theorem WG (d:GV ⟨den,pr,w⟩ ev) (i:BB ⟨den,pr,w⟩ ec):BB ⟨den,pr,w⟩ (Kg den ev ec):=λH p s x h R r=>by
 rw[QEv];refine (xb h).elim λy hb=>d _ _ _ _ _ _ hb.1 _ _ ?_;have K:=hb.2;clear hb h;induction y with|mk y z=>
 induction y with
 |error e=>exact (BH (P:=λq:zh×hO=>R q.1 q.2.abs) K r)
 |ok f=>
  induction f with
  |done f=>exact (BH (P:=λq:zh×hO=>R q.1 q.2.abs) K r)
  |again c=>exact ⟨(vI K).1,i _ _ _ _ (vI K).2 R r⟩
theorem I9 (n:Nat):GV ⟨den,pr,w⟩ (Eh den pr w.params n).1/\BB ⟨den,pr,w⟩ (Eh den pr w.params n).2:=by
 induction n with
 |zero=>exact ⟨λO O O O O O h=>ay h,λO O O O h=>ay h⟩
 |succ n i=>exact ⟨λO O O O O O h O O q=>QAM i.1 i.2 q h,WG i.1 i.2⟩
end
noncomputable def VH:Obj:=⟨.none,aF,.freed, #[]⟩
noncomputable def hU (t:BT) (n:Nat) (cZ:List Nat) (a:Nat):Option Obj:=if cP a n then (if cZ.contains a then aF else (t.get a).bind alive) else aF
noncomputable def uG (t:BT) (n:Nat) (cZ:List Nat):Heap:=⟨((bg n).map λa=>(hU t n cZ a).getD VH).toArray,{}⟩
theorem UM (h:alive o=aA o'):o'=o/\alive o'=aA o':=by obtain ⟨c,d,j,s⟩:=o;induction j<;>cases h<;>exact ⟨rfl,rfl⟩
theorem Ah {t n cZ a o} (h:hU t n cZ a=aA o):alive o=aA o/\t.get a=aA o/\a<n/\cZ.contains a=false:=by
 unfold hU at h
 split at h
 ·rename_i hn
  split at h
  ·exact ay h
  ·rename_i f
   refine aS (z7.mp h) λo' A i=>?_;have H:=(UM i);have m:=H.1;have Q:=H.2;clear h i H;subst m;exact (kr Q A (bJ hn)<|by simpa -iota using f)
 ·exact ay h
theorem sv (t:BT) (n:Nat) (cZ:List Nat) (a:Nat):(uG t n cZ).get? a=hU t n cZ a:=by
 delta wR uG
 simp! only[zU,DB]
 by_cases h:a<n
 ·simp! only[QA h]
  simp! only[Option.map_some]
  induction hg:hU t n cZ a with
  |none=>rfl
  |some o=>have:=(Ah hg).1;obtain ⟨c,d,j,s⟩:=o;clear hg;induction j<;>first|rfl|(exact ay this)
 ·erw[Cv (by simp! only[wu];exact jM ‹_›)]
  have:hU t n cZ a=none:=by delta hU;rw[if_neg];intro q;exact h (bJ q)
  simp! only[this]
  rfl
theorem KO {cZ:List Nat} (h:(uG t n cZ).get? a=aA o):(o6 t n life).get? a=aA o:=by rw[sv] at h;have H:=(Ah h);have A:=H.1;have i:=H.2.1;have Q:=H.2.2.1;exact sb (ID Q i)<|sb A rfl
theorem ZW {cZ:List Nat} (h:(uG t n cZ).get? a=aA o):cZ.contains a=false:=by rw[sv] at h;exact (Ah h).2.2.2
noncomputable def dH (o:bH):FuncData:=match o.data with|.func f=>f|_=>default
noncomputable def kH (o:bH):Array Value:=match o.data with|.fields v=>v|_=> #[]
noncomputable def rD (o:bH):Array DictEntry:=match o.data with|.dict e _=>e|_=> #[]
noncomputable abbrev ti (t:BT) (n:Nat) (cZ:List Nat) (a c tk:Nat) (o oc:bH) (body:List cx) (names:List (aG×dQ)):Prop:=(hU t n cZ a,o.data,(dH o).code,hU t n cZ c,oc.data,(kH oc)[1]?,(dH o).body,(dH o).scope.names,(dH o).scope.kind,(dH o).scope.isCoroutine,(dH o).scope.isGenerator,(dH o).closure,(dH o).globals,(dH o).builtins)=(aA o,.func<|dH o,.ref c,aA oc,.fields<|kH oc,aA<|.str (dH o).qualname tk,.stmts body,names,.function,aE,aE,[],nM,ic)
section
theorem Lv (h:ti t n cZ a c tk o oc body names) (C: ∀e q,cd=aA (e,q)->(dH o).code=.ref e/\(dH o).qualname++ ".<locals>." =q):DZ (uG t n cZ) (dH o) body names cd:=by
 unfold ti at h
 simp! only[sR] at h
 obtain ⟨e1,e2,p,z,x,u,b,nm,K,M,L,cl,g,B⟩:=h;exact ⟨(GZ c oc (kH oc) tk p ((sv ..).trans z) x u),b,nm,K,M,L,cl,g,B,C⟩
theorem x6 (h:ti t n cZ a c tk o oc body names) (C: ∀e q,cd=aA (e,q)->(dH o).code=.ref e/\(dH o).qualname++ ".<locals>." =q)
 (bi: ∀us,us.length=ps.length->nO (dH o) ⟨us,[]⟩=pure (ps.zip us)):qU (uG t n cZ) a body names cd ps []:=
 .mk ((sv ..).trans (QE h).1) (QE (QE h).2).1 (Lv h C) λus l M A E Q s O k=>by erw[bi us<|by simpa -iota using l];rw[eY] at k;exact bA k
end
section
open PySem.Sre (M)
noncomputable def C3:Array Nat:= #[14,10,4,1,1,22,0,31,16,127,0,13,7,22,0,31,16,127,0,1]
noncomputable def C4:Array Nat:= #[14,14,4,1,1,9,4294966783,0,0,2147483648,0,0,0,0,0,13,11,9,4294966783,0,0,2147483648,0,0,0,0,0,1]
theorem Ry {seen:jQ} (h:(decide (c<=31)||c==127)=false): ∃s,Sre.inSet C3 c C3.size 5 true seen=.ok (false,s):=by have e:Sre.inSet C3 c 20 5 true seen=if (decide (0<=c) && decide (c<=31))=true then .ok (true,seen.add 22) else if (c==127)=true then .ok (true,(seen.add 22).add 16) else .ok (false,((seen.add 22).add 16).add 0):=rfl;rw[Bool.or_eq_false_iff] at h;exact sb e<|sb (if_neg (by rw[h.1];simp))<|sb (if_neg (by rw[h.2];decide))<|⟨_,rfl⟩
theorem R9:((bg 256).all λc=>(decide (c<=8)||(decide (10<=c) && decide (c<=31))||c==127)|| !((C4.getD (5+(1+c / 32)) 0).testBit<|c % 32))=true:=by decide+kernel
theorem Vv {seen:jQ} (h:(decide (c<=8)||(decide (10<=c) && decide (c<=31))||c==127)=false): ∃s,Sre.inSet C4 c C4.size 5 true seen=.ok (false,s):=by
 have e:zy C4 c 28 5 aB seen=if (decide (c<256) && (C4.getD (5+(1+c / 32)) 0).testBit (c % 32))=aB then .ok (aB,seen.add 9) else .ok (aE,(seen.add 9).add 0):=rfl;show∃s,zy C4 c 28 5 aB seen=_;rw[e,if_neg]
 ·exact ⟨_,rfl⟩
 ·intro q
  simp only[gn,decide_eq_true_eq] at q;have:=dR.mp R9 c<|sD.mpr q.1;simp only[h,q.2] at this;exact bq this
theorem Vl (hs: ∀c∈t.toList,∀seen,∃A,zy C c C.size 5 aB seen=.ok (aE,A)) (W:m.code=C) (a:m.text=t) (Q:l<=t.size) (hl:m.lim=l): ∀k s seen,∃A,zz m k s seen=.ok (aF,A):=by
 intro O;induction O with
 |zero=>exact λs seen=>⟨seen,rfl⟩
 |succ k i=>
  exact λs seen=>by
   dsimp only[zz];erw[hl];by_cases h:s>=l
   ·exact sb (QGx h)<|⟨_,rfl⟩
   ·refine sb (QGw h)<|sb W<|sb a ?_
    have F:t.getD s 0∈t.toList:=by
     have L:s<t.size:=(bD (qp h) Q);refine sb (IE)<|sb (Array.getElem?_eq_getElem L) ?_
     exact Array.getElem_mem_toList L
    exact aV (hs _ F seen) λA e=>sb e<|i (s+1) A
noncomputable def ll (b:Bool):Array Nat:=if b then C3 else C4
theorem Rg (b:Bool) (t:Array Nat) (l:Nat) (L:l<=t.size) (h:gG b ⟨t⟩=aB):oN 2 (kh (ll b) t 0 0 l aE) none:=by
 have A: ∀c∈t.toList,∀seen,∃s,zy (ll b) c (ll b).size 5 aB seen=.ok (aE,s):=λc C seen=>by
  have o:=Array.all_eq_true_iff_forall_mem.mp h c (by simpa using C);clear h;induction b with
  |true=>exact Ry<|(uW _).mp o
  |false=>exact Vv<|(uW _).mp o
 by_cases H:0<l
 ·have e:kh (ll b) t 0 0 l aE=(match zz {code:=ll b,text:=t,lim:=l,start:=0,lastStart:=l,pc:=if b then 11 else 15,pos:=0,handed:=0,marks:= #[],seen:=({}:jQ).add 14} (l+1 - 0) 0 (({}:jQ).add 14) with
   |.ok (some p,seen)=>Sre.M.attemptAt {code:=ll b,text:=t,lim:=l,start:=0,lastStart:=l,pc:=if b then 11 else 15,pos:=0,handed:=0,marks:= #[],seen:=seen} p aB
   |.ok (none,seen)=>({code:=ll b,text:=t,lim:=l,start:=0,lastStart:=l,pc:=if b then 11 else 15,pos:=0,handed:=0,marks:= #[],seen:=seen,answer:=aA aE}:M)
   |.error W=>({code:=ll b,text:=t,lim:=l,start:=0,lastStart:=l,pc:=if b then 11 else 15,pos:=0,handed:=0,marks:= #[],seen:=({}:jQ).add 14}:M).stick W):=by
   clear h A;induction b with
   |true=>refine (?_:(if 0>l||decide (l - 0<1) then _ else _)=_);erw[if_neg (by intro q;rw[Bool.or_eq_true,decide_eq_true_eq,decide_eq_true_eq] at q;exact (q.elim (λu=>(kn u)) λu=>(cY (na H<|nR<|sE ((by simp+arith):0<=l)) u)))];rfl
   |false=>refine (?_:(if 0>l||decide (l - 0<1) then _ else _)=_);erw[if_neg (by intro q;rw[Bool.or_eq_true,decide_eq_true_eq,decide_eq_true_eq] at q;exact (q.elim (λu=>(kn u)) λu=>(cY (na H<|nR<|sE ((by simp+arith):0<=l)) u)))];rfl
  exact sb e<|aV (Vl A rfl rfl L rfl (l+1 - 0) 0 (({}:Sre.Seen).add 14)) λs n=>sb n<|(ax _ ((Goes.step rfl rfl (Goes.refl _)).le<|by decide) rfl)
 ·have z:l=0:=by exact Nat.eq_zero_of_not_pos ‹_›
  have e:kh (ll b) t 0 0 l aE={code:=ll b,text:=t,lim:=l,start:=0,pc:=if b then 11 else 15,pos:=0,handed:=0,marks:= #[],seen:=({}:jQ).add 14,answer:=aA aE}:=by
   clear h A;induction b with
   |true=>refine (?_:(if (decide (0>l)||decide (l - 0<1))=true then _ else _:M)=_);erw[if_pos (by rw[Bool.or_eq_true,decide_eq_true_eq,decide_eq_true_eq];(clear H;grind_order))];rfl
   |false=>refine (?_:(if (decide (0>l)||decide (l - 0<1))=true then _ else _:M)=_);rw[if_pos (by rw[Bool.or_eq_true,decide_eq_true_eq,decide_eq_true_eq];(clear H;omega))];rfl
  rw[e];exact (ax _ ((Goes.step rfl rfl (Goes.refl _)).le<|by decide) rfl)
end
section
open PySem.Sre (M)
open Builtin.Re
theorem MY:Pf "re.Pattern" :=⟨(ax ("object.__getattribute__") (by ac_nf)<|by decide+kernel),by ac_nf⟩
theorem Ma:Slot "re.Pattern" "search" "re.Pattern.search" :=
 .of (owner:= "re.Pattern") (n:= "search") (by ac_nf) (by decide+kernel) (by decide+kernel) (by decide+kernel)
  (by first|exact .inl (by decide+kernel)|exact .inr<|by decide+kernel) (by rw[isSubtype_type];lia)
theorem K9:Slot "re.Pattern" "sub" "re.Pattern.sub" :=
 .of (owner:= "re.Pattern") (n:= "sub") (by ac_nf) (by decide+kernel) (by decide+kernel) (by decide+kernel)
  (by first|exact .inl (by decide+kernel)|exact .inr<|by decide+kernel) (by rw[isSubtype_type];lia)
theorem l_:Hj (.builtin "re.Pattern.search")=pure (.type "method_descriptor"):=by refine (?_);erw[QEw];lia
theorem TY:Hj (.builtin "re.Pattern.sub")=pure (.type "method_descriptor"):=by refine (?_);erw[QEw];lia
theorem QCH:QF DD "re.Pattern.search" =aA wx.«re.Pattern.search»:=QG (by lia)
theorem Sw:QF DD "re.Pattern.sub" =aA wx.«re.Pattern.sub»:=QG (by lia)
theorem SR:QF DD "re.Pattern.sub.loop" =aA wx.«re.Pattern.sub.loop»:=QG (by lia)
theorem OV:Manifest.owners.lookup (String.ofList ['n','r','e','t','t','a','P','.','e','r'].reverse)=aA Manifest.sig_re_Pattern:=by lia
theorem QCe (a b:aI):IF "re.Pattern.search" ⟨[a,b],[]⟩:=by unfold IF;erw[QEx (id:= "re.Pattern.search") (n:=['h','c','r','a','e','s']) (o:=['n','r','e','t','t','a','P','.','e','r']) (by lia) OV];lia
theorem QBj (a b c:aI):IF "re.Pattern.sub" ⟨[a,b,c],[]⟩:=by unfold IF;erw[QEx (id:= "re.Pattern.sub") (n:=['b','u','s']) (o:=['n','r','e','t','t','a','P','.','e','r']) (by lia) OV];lia
section
variable {A:cV} {s:aN} {E:aI->aN->Prop}
theorem QAP {c:Nat->Bool} {f:Nat->String}: ∀(l:List Nat) {s:aN} {Q:PUnit->aN->Prop},Q lO s->aO (aY prog w) A (forIn l lO λi (_:PUnit)=>(do
 if c i then rule (f i)
 pure (ou lO):ba (ForInStep PUnit))) Q E s:=by
 intro l;induction l with
 |nil=>exact @λs Q h=>sb zY<|wpAny_pure h
 |cons i l d=>
  exact @λs Q h=>by
   rw[ua];refine aR ?_;induction hc:c i with
   |true=>exact sb (QGx rfl)<|wpAny_bind<|wpAny_rule<|wpAny_pure<|d h
   |false=>exact sb (QGw<|by decide)<|wpAny_pure<|d h
theorem K0 {r:Option (Nat×Nat)} (F:oN b m r) (hb:b<=4*2^64) (h: ∀x,r.elim (x=aF) (λq=> ∃e,x=aA e/\e.start=q.1/\e.handed=q.2)->Q x s):aO (aY prog w) A (reRunToEnd m) Q E s:=by
 obtain ⟨e,g,o⟩:=F
 have z:e.outcome.isSome=true:=by
  induction r with
  |none=>erw[o];rfl
  |some p=>erw[o.1];rfl
 refine aR (QCY (2^64) b m e hb (by decide) z g ?_);refine aR<|QAP _ ?_;induction r with
 |none=>dsimp only at o;exact sb o<|wpAny_pure<|h _ rfl
 |some p=>dsimp only at o;exact sb o.1<|wpAny_pure<|h _<|gc e rfl o.2.1 o.2.2
inductive gI (h:bK) (p:aM) (C:Array Nat):Prop
 |mk (o:Obj) (ct:Addr) (oc:Obj) (vs cs:Array Value) (n:Nat):h.get? p=some o->o.cls=.type "re.Pattern" ->o.dict=none->o.data=.fields vs->vs.getD 5 .none=.ref ct->reRawNat (vs.getD 6 .none)=0->reRawNat (vs.getD 2 .none)=0->h.get? ct=some oc->oc.data=.seq cs n->(cs.map reRawOf).map (·.toNat)=C->gI h p C
theorem gI.keeps (x:gI h p C) (k: ∀b o,h.get? b=aA o->h'.get? b=aA o):gI h' p C:=by
 induction x with|mk o Y v m H n a b c d e f g i j r=>exact ⟨o,Y,v,m,H,n,k _ _ a,b,c,d,e,f,g,k _ _ i,j,r⟩
theorem gI.own {h:bK} {p:aM} {C:Array Nat} (x:gI h p C): ∃o,h.get? p=aA o/\o.cls=.type "re.Pattern" /\o.dict=none:=by
 induction x with|mk o Y v m H n a b c=>exact ⟨o,a,b,c⟩
theorem gI.ct {p ct:aM} {vs:Array aI} (x:gI h p C) (e1:h.get? p=aA o) (e2:o.data=.fields vs) (u:vs.getD 5 .none=.ref ct): ∃oc,h.get? ct=aA oc:=by
 induction x with
 |mk H P oc v W n a b c d e f g i=>
  cases bM a e1
  cases d.symm.trans e2
  cases e.symm.trans u
  exact ⟨oc,i⟩
theorem gI.but (P:gI h p C) (n:p≠L) (c: ∀ct vs o,h.get? p=aA o->o.data=.fields vs->vs.getD 5 .none=.ref ct->ct≠L) (K: ∀b o,b≠L->h.get? b=aA o->h'.get? b=aA o):
 gI h' p C/\ ∀ct vs o,h'.get? p=aA o->o.data=.fields vs->vs.getD 5 .none=.ref ct->ct≠L:=by
 induction P with
 |mk o ct U vs W N a b s d e f g i j r=>exact ⟨⟨o,ct,U,vs,W,N,K _ _ n a,b,s,d,e,f,g,K _ _ (c ct vs o a d e) i,j,r⟩,λz v H x Z u=>c z v H (bM (K _ _ n a) x▸a) Z u⟩
theorem gI.typeIs (x:gI s.heap p C):s.TypeIs (.ref p) "re.Pattern" :=cy x.own λo a b O=>⟨o,a,b⟩
theorem L3 (P:gI s.heap p C) (h:Q {pattern:=.ref p,string:=.str x t,code:=C,text:=x.cps,kind:=0,groups:=0,pos:=0,lim:=x.cps.size} s):
 aO (aY prog w) A (reWholeTarget (.ref p)<|.str x t) Q E s:=by
 obtain ⟨o,Y,v,m,c,n,a,b,_,d,e,f,g,i,j,k⟩:=P;refine aR<|QH a d ?_;refine aR<|qo rfl ?_;refine sb f<|wpAny_bind<|wpAny_of_eq rfl ?_;refine sb e<|wpAny_bind<|wpAny_bind<|wpAny_seqItems i j<|wpAny_pure ?_;exact wpAny_pure<|sb k<|sb g<|h
theorem Uk (P:gI s.heap p C) (h: ∀l,l<=x.cps.size->Q {pattern:=.ref p,string:=.str x t,code:=C,text:=x.cps,kind:=0,groups:=0,pos:=0,lim:=l} s):
 aO (aY prog w) A (reTarget "re.Pattern.search" "search" ⟨[.ref p,.str x t],[]⟩) Q E s:=by
 obtain ⟨o,Y,v,m,c,n,a,b,_,d,e,f,g,i,j,k⟩:=P;refine aR (qo (a:=[aA<|.str x t,aF,aF]) (by lia) ?_);refine aR<|bA<|aR<|bA ?_;refine aR<|QH a d ?_;refine aR<|qo (a:=(x.cps,0)) rfl ?_;refine sb f<|wpAny_bind<|wpAny_of_eq (a:=()) rfl ?_;refine sb e<|wpAny_bind<|wpAny_bind<|wpAny_seqItems i j<|wpAny_pure ?_;refine wpAny_pure<|sb g<|(?_:Q {pattern:=.ref p,string:=.str x t,code:=(c.map reRawOf).map (·.toNat),text:=x.cps,kind:=0,groups:=0,pos:=min (Int.toNat 0) x.cps.size,lim:=min (Int.toNat<|2^63 - 1) x.cps.size} s)
 simp! only[(Ck _:min (bN 0) x.cps.size=0),k]
 exact h _<|Cp _ _
theorem Tq (P:gI s.heap p (ll b)) (o:gG b x=aB) (h:Q .none s):aO (aY prog w) A (call (.builtin "re.Pattern.search") [.ref p,.str x t]) Q E s:=by refine H0 Ma P.typeIs QCH ?_<|QCe _ _;dsimp only[wx.«re.Pattern.search»];refine aR<|Uk P λl L=>?_;dsimp only[reAnswer];refine aR (K0 (Rg b x.cps l L o) (by decide) λy Y=>?_);exact sb (Y:y=aF)<|wpAny_pure<|ax _ rfl h
end
end
section
open PySem.Sre (M)
open Builtin.Re
noncomputable def nK (l:List (aG×fF)) (n:Nat):Obj:={cls:=.type "list",data:=.seq (wV l).toArray n}
section
variable {A:cV} {s:aN} {E:aI->aN->Prop}
theorem GC {y:aG} (B:s.heap.get? L=aA (nK l n)) (z:l.length<=1000000)
 (h: ∀h' n',h'.get? L=aA (nK (l++[(y,u)]) n')->(∀b o,b≠L->s.heap.get? b=aA o->h'.get? b=aA o)->Q () {s with heap:=h'}):aO (aY prog w) A (IG L (·.push (.str y u))) Q E s:=by
 have r:(wV l).toArray.size=l.length:=dZ _;refine QEj B rfl (h _ (n+1) ?_ λb o N e=>((H4 ..).2 b N).trans e) (by simp only[r,AA];exact az ‹_› (gA _ _)) (by simp only[QI,r,AA];exact ig ‹_› (by decide));erw[wo _ B rfl];refine (?_:aA (Obj.mk (.type "list") aF (.seq ((wV l).toArray.push<|.str y u)<|if ((wV l).toArray.push<|.str y u).size==(wV l).toArray.size then n else n+1) #[])=_);refine sb (QGw (by rw[QI];simp))<|sb (by simp[strValues]:(strValues l).toArray.push (.str y u)=(strValues<|l++[(y,u)]).toArray) ?_
 rfl
noncomputable def xP (p:aM) (x:aG) (t:fF) (C:Array Nat):ReTarget:={pattern:=.ref p,string:=.str x t,code:=C,text:=x.cps,kind:=0,groups:=0,pos:=0,lim:=x.cps.size}
noncomputable abbrev Kp (L:aM) (s:aN) (h':bK):Prop:= ∀b o,b≠L->s.heap.get? b=aA o->h'.get? b=aA o
noncomputable def BP (p:aM) (x:aG) (t:fF) (rep:aG) (r:fF) (L:aM) (it e f:Int) (b:Bool):Code:=.builtin "re.Pattern.sub.loop" ⟨[.ref p,.str x t,.str rep r,oz 0,oz 0,oz it,oz e,oz f,.bool b,.ref L,.bool aE],[]⟩
noncomputable def GO (p:aM) (x:aG) (t:fF) (rep:aG) (r:fF) (L:aM) (it:Int) (m:M):ba nQ:=IG L (·.push (.str rep r))>>=λO=>again<|BP p x t rep r L (it+1) m.handed m.handed<|m.handed==m.start
noncomputable def Eo (tt:ReTarget) (p:aM) (x:aG) (t:fF) (rep:aG) (r:fF) (L:aM) (it:Int) (d:Nat) (m:M):ba nQ:=if d<m.start then reSlice tt.text tt.kind d m.start>>=λy=>IG L (·.push y)>>=λO=>GO p x t rep r L it m else GO p x t rep r L it m
noncomputable def EH (tt:ReTarget) (L:aM):ba nQ:=reSlice tt.text tt.kind 0 0>>=λj=>QJ (.ref L)>>=λy=>if (y.getD #[]).isEmpty then pure j>>=λt=>ret t else call (.builtin<|if tt.kind==0 then "str.join" else "bytes.join") [j,.ref L]>>=λt=>ret t
noncomputable def FH (tt:ReTarget) (L:aM) (d:Nat):ba nQ:=if d<tt.lim then reSlice tt.text tt.kind d tt.lim>>=λy=>IG L (·.push y)>>=λO=>EH tt L else EH tt L
noncomputable def X6 (p:aM) (x:aG) (t:fF) (rep:aG) (r:fF) (L:aM) (it:Int) (d:Nat):ba nQ:=reWholeTarget (.ref p) (.str x t)>>=λN=>reLiteralCannotBeTurned (.str rep r)>>=λO=>reNextFound N d aE>>=λo=>o.elim (FH N L d)<|Eo N p x t rep r L it d
theorem DQ {x:aG} (M:x.cps.size<=1000000) (a b:Nat):(⟨x.cps.extract a b⟩:aG).length<=sizeLine:=by refine (?_:(x.cps.extract a b).size<=mJ);rw[uR,AA];exact (bD (na (QEy (min b x.cps.size)<|a)<|Cp (b)<|x.cps.size) M)
section
variable {it:Int}
theorem Oz (B:s.heap.get? L=aA (nK l n)) (z:l.length<=1000000)
 (h: ∀h' n',Kp L s h'->h'.get? L=aA (nK (l++[(rep,rt)]) n')->Qf (.again<|BP p x t rep rt L (it+1) m.handed m.handed<|m.handed==m.start) {s with heap:=h'}):
 aO (aY prog w) A (GO p x t rep rt L it m) Qf E' s:=
 aR (GC B z λh' n' e k=>bA<|h h' n' k e)
theorem A_ (M:x.cps.size<=1000000) (i:s.heap.get? L=aA (nK l n)) (z:l.length+1<=1000000)
 (h: ∀f n' h' tk,Kp L s h'->h'.get? L=aA (nK f n')->f.length<=l.length+2->f.map (·.1)=l.map (·.1)++((if d<m.start then [⟨x.cps.extract d m.start⟩] else [])++[rep])->Qf (.again<|BP p x t rep rt L (it+1) m.handed m.handed<|m.handed==m.start) {s with heap:=h',toks:=tk}):
 aO (aY prog w) A (Eo (xP p x t C) p x t rep rt L it d m) Qf E' s:=by
 unfold Eo;by_cases B:d<m.start
 ·rw[if_pos B] at h⊢
  refine aR<|QK (x:=⟨x.cps.extract d m.start⟩) ?_<|DQ M d m.start;refine aR<|GC (s:={s with toks:=s.toks+1}) i (Hl z) λq a u W=>?_;exact Oz u (by rw[du];exact z) λH N K v=>h _ N H _ (λb o F e=>K b o F<|W b o F e) v (by simp) (by simp)
 ·rw[if_neg B] at h⊢
  exact Oz i (Hl z) λH N K v=>h _ N H s.toks K v (by simp) (by simp)
theorem Jo (M:x.cps.size<=1000000) (B:s.heap.get? L=aA (nK l n)) (j:nS ⟨#[]⟩ (l.map (·.1))=aB)
 (h: ∀t' tk,Qf (.done<|.ret<|.str (qT<|l.map (·.1)) t') {s with toks:=tk}):
 aO (aY prog w) A (EH (xP p x t C) L) Qf E' s:=by
 refine aR<|QK (x:=⟨x.cps.extract 0 0⟩) ?_<|DQ M 0 0;refine aR<|H7 (s:={s with toks:=s.toks+1}) B rfl ?_;rw[(by simp:(⟨x.cps.extract 0 0⟩:aG)=⟨#[]⟩)];induction l with
 |nil=>exact aR<|bA<|bA<|h _ _
 |cons a r=>exact aR<|SC.join (l:=a::r) ⟨_,B,rfl,n,rfl⟩ rfl j λt' k=>bA<|h t' k
theorem X5 (M:x.cps.size<=1000000) (B:s.heap.get? L=aA (nK l n)) (z:l.length+1<=1000000)
 (j:nS ⟨#[]⟩ (l.map (·.1)++(if d<x.cps.size then [⟨x.cps.extract d x.cps.size⟩] else []))=aB)
 (h: ∀h' t' tk,Kp L s h'->Qf (.done<|.ret<|.str (qT<|l.map (·.1)++(if d<x.cps.size then [⟨x.cps.extract d x.cps.size⟩] else [])) t') {s with heap:=h',toks:=tk}):
 aO (aY prog w) A (FH (xP p x t C) L d) Qf E' s:=by
 unfold FH;by_cases R:d<x.cps.size
 ·rw[if_pos R] at h j
  rw[if_pos<|show d<(xP p x t C).lim from R];refine aR<|QK (x:=⟨x.cps.extract d x.cps.size⟩) ?_<|DQ M d x.cps.size;refine aR<|GC (s:={s with toks:=s.toks+1}) B (Hl z) λH N u K=>?_;have e:(l++[((⟨x.cps.extract d x.cps.size⟩:aG),s.toks)]).map (·.1)=l.map (·.1)++[⟨x.cps.extract d x.cps.size⟩]:=gp;exact Jo M u (by rw[e];exact j) λt' tk=>by rw[e];exact h H t' tk K
 ·rw[if_neg R,eY] at h j
  rw[if_neg<|show ¬ d<(xP p x t C).lim from R];exact Jo M B j λt' tk=>h s.heap t' tk λO O O e=>e
end
theorem Zn {p L:aM} {x rep:aG} {t r:fF} {d:Nat}:wx.«re.Pattern.sub.loop» ⟨[.ref p,.str x t,.str rep r,oz 0,oz 0,oz it,oz (d:Int),oz (d:Int),.bool aE,.ref L,.bool aE],[]⟩=X6 p x t rep r L it d:=by lia
theorem Zh {x rep:aG} {nx:Nat->Option (Nat×Nat)} (hb:b<=4*2^64) (z:x.cps.size<=1000000)
 (N: ∀d,d<=x.cps.size->oN b (kh C x.cps 0 d x.cps.size aE) (nx d)) (B: ∀d a e,nx d=aA (a,e)->d<=a/\a<e/\e<=x.cps.size) (k:Nat):
 ∀(d:Nat) (it:Int) (l:List (aG×fF)) (n:Nat) (s:aN),x.cps.size<d+k->d<=x.cps.size->gI s.heap p C->p≠L->(∀ct vs o,s.heap.get? p=aA o->o.data=.fields vs->vs.getD 5 .none=.ref ct->ct≠L)->s.heap.get? L=aA (nK l n)->l.length+2*k<=1000000->
 nS ⟨#[]⟩ (l.map (·.1)++gz nx rep x.cps k d)=aB->
 (∀h' t' tk,Kp L s h'->Q (.str (qT<|l.map (·.1)++gz nx rep x.cps k d) t') {s with heap:=h',toks:=tk})->
 ud (aY prog w) A (BP p x t rep rt L it d d aE) (wants Q E) s:=by
 induction k with
 |zero=>exact λd it l n s q H O O O O O O O=>QGv q<|iH.mpr H
 |succ k ih=>
  intro d it l n s q H P R c i hz j h;refine QL SR ?_;rw[Zn];refine aR<|L3 P<|aR<|qo rfl (aR<|K0 (N d H) hb λy Y=>?_);have g:l.length+1<=1000000:=aQ hz
  induction hn:nx d with
  |some ae=>
   obtain ⟨a,e⟩:=ae;rw[hn] at Y;refine Exists.elim (Y: ∃m,y=aA m/\m.start=a/\m.handed=e) λm Y=>?_;have M:=B d a e hn;have U:gz nx rep x.cps (k+1) d=(if d<m.start then [⟨x.cps.extract d m.start⟩] else [])++[rep]++gz nx rep x.cps k e:=by rw[Y.2.1,ik];exact Bo hn
   rw[U,<-ik] at j h;rw[Y.1];refine A_ z i g λF n' h' tk K u f Z=>?_;rw[<-Z] at j h;refine ⟨Code.quiet_builtin _ (by decide+kernel),?_⟩;rw[Y.2.2,Y.2.1,show (e==a)=aE from beq_eq_false_iff_ne.mpr<|wN M.2.1];exact ih e (it+1) F n' {s with heap:=h',toks:=tk} (bD (na q M.1) M.2.1) M.2.2 (P.but R c K).1 R (P.but R c K).2 u (bD hz f) j λH v r W=>h H v r λb o nb e=>W b o nb<|K b o nb e
  |none=>rw[hn] at Y;have U:gz nx rep x.cps (k+1) d=if d<x.cps.size then [⟨x.cps.extract d x.cps.size⟩] else []:=BV hn;rw[U] at j h;rw[show y=aF from Y];exact X5 z i g j λh' t' tk k=>h h' t' tk k
end
end
section
open PySem.Sre (M)
open Builtin.Re
theorem f_:QM (.type "str") "__call__" =pure none:=by rw[QN,QO];lia
section
variable {A:cV} {s:aN} {E:aI->aN->Prop}
theorem Vd {x rep:aG} {nx:Nat->Option (Nat×Nat)} (hb:b<=4*2^64) (M:x.cps.size<=400000) (r:rep.cps.contains 92=aE)
 (n: ∀d,d<=x.cps.size->oN b (kh C x.cps 0 d x.cps.size aE) (nx d)) (g: ∀d a e,nx d=aA (a,e)->d<=a/\a<e/\e<=x.cps.size)
 (P:gI s.heap p C) (j:nS ⟨#[]⟩ (gz nx rep x.cps (x.cps.size+1) 0)=aB)
 (h: ∀h' t' tk,(∀b o,s.heap.get? b=aA o->h'.get? b=aA o)->Q (.str (qT<|gz nx rep x.cps (x.cps.size+1) 0) t') {s with heap:=h',toks:=tk}):
 aO (aY prog w) A (call (.builtin "re.Pattern.sub") [.ref p,.str rep rt,.str x t]) Q E s:=by
 refine wq (codeAny_call_builtin_code (Code.quiet_builtin _<|by decide+kernel)<|K9.check _ _ _ _ _ _ _ _ P.typeIs (QBj _ _ _) ?_);refine QL Sw ?_;delta wx.«re.Pattern.sub» reSubstitute;refine aR (qo (a:=[aA<|.str rep rt,aA<|.str x t,aF]) (by lia) ?_);refine aR<|bA ?_;refine aR<|QEV (PZ _ _ _) f_ ?_
 try dsimp only
 refine aR<|qo (a:=aA rep) rfl ?_;refine aR<|bA ?_;refine sb (QGw<|by decide)<|sb r<|sb (if_pos<|by decide)<|wpAny_bind<|wpAny_pure ?_
 dsimp only;refine aR<|cO<|L3 P ?_;refine sb (QGw<|by decide)<|wpAny_bind<|wpAny_newList ?_
 have hn:s.heap.get? s.heap.objs.size=none:=ie<|bh _;have K: ∀b o,s.heap.get? b=aA o->(s.heap.push<|nK [] 0).get? b=aA o:=λO O e=>gS _ e;refine bA ⟨Code.quiet_builtin _ (by decide+kernel),?_⟩;refine Zh (s:={s with heap:=s.heap.push<|nK [] 0}) (nx:=nx) (L:=s.heap.objs.size) (C:=C) hb (az ‹_› (gA _ _)) n g (x.cps.size+1) 0 0 [] 0 (gA _ _) (hJ _) (P.keeps K) (λq=>cy P.own λO a O O=>cb (q▸hn) a) (λct vs o e1 e2 u q=>?_) (fG _ rfl) (by simp;exact bD M M) (by simpa using j) λh' t' tk f=>?_
 ·exact cy P.own λo' a O O=>aV (P.ct (bM (K _ _ a) e1▸a) e2 u) λO i=>cb (q▸hn) i
 ·exact h h' t' tk λb o e=>f b o (λq=>by rw[q,hn] at e;exact ay e)<|K b o e
end
end
section
theorem Bu (h:step den p w s t=.go F t') (n:Nat):sS den p w (n+1) s t=sS den p w n F t':=by refine (?_:(match step den p w s t with|.go F t'=>sS den p w n F t'|.halt o F=>.halted o F)=_);simp only[h]
theorem J2 (h:step den p w s t=.halt o F) (n:Nat):sS den p w (n+1) s t=.halted o F:=by refine (?_:(match step den p w s t with|.go F U=>sS den p w n F U|.halt o F=>.halted o F)=_);exact sb h rfl
theorem Uy (n:Nat): ∀s t,sS den p w n s t=.halted o i-> ∃k N g,sS den p w k s t=.running N g/\step den p w N g=.halt o i:=by
 induction n with
 |zero=>exact λs t h=>by cases (h:Run.running s t=.halted o i)
 |succ n d=>
  intro s t h;induction A:step den p w s t with
  |go F U=>exact oh (d F U<|(Bu A n).symm.trans h) λk N g a b=>(Ip (k+1) N g ((Bu A k).trans a) b)
  |halt H F=>cases (J2 A n).symm.trans h;exact (Ip 0 s t rfl A)
theorem YV (k:Nat): ∀s t,s.asleep->(∀j n t',sS den p w j s t=.running n t'->t'.calm=aB)->sS den p w k s t=.running N g->
 DE den p w k (.single s t)=.running (.single N g):=by
 induction k with
 |zero=>exact λs t O O h=>by cases (h:Run.running s t=.running N g);rfl
 |succ k i=>
  intro s t z c h;induction A:step den p w s t with
  |halt o n=>cases (J2 A k).symm.trans h
  |go n t'=>
   have e:sstep den p w (.single s t)=.go (.single n t'):=by
    refine cp (sstep_single den p w s t (c 0 s t rfl) z) (λe=>?_) λe=>?_
    ·simp only[e,A]
     rfl
    ·rw[A] at e
     exact nomatch e
   have C:DE den p w (k+1) (.single s t)=DE den p w k (.single n t'):=by refine (?_:(match sstep den p w (.single s t) with|.go n=>DE den p w k n|.halt o n=>.halted o n)=_);exact sb e rfl
   exact C.trans<|i n t' (QP (step_life den p w s n t t' A) z) (λj a b q=>c (j+1) a b<|(Bu A j).trans q)<|(Bu A k).symm.trans h
theorem QAQ (h:finish o s=.halt (.done f) t):o=.done f/\t=s:=by
 unfold finish at h
 split at h
 ·exact nomatch h
 ·cases h;exact ⟨rfl,rfl⟩
noncomputable def yp (s:Step):Bool:=s.casesOn (motive:=λO=>Bool) (λO O=>aB) λo O=>o.casesOn (motive:=λO=>Bool) (λO=>aE) (λO=>aB) (λO=>aB) (λO=>aB) (λO=>aB) aB
theorem Wu {st:Step} {q:Prop} (g:yp st=aB) (h:st=.halt (.done f) s):q:=by rw[h] at g;exact bq g
theorem Bj {q:Prop} [Decidable q] {x y:Step} (M:yp x=aB) (Y:yp y=aB):yp (ite q x y)=true:=by
 by_cases k:q
 ·exact sb (QGx k) M
 ·exact sb (QGw k) Y
noncomputable def DP (den:Code->ba nQ) (p:sF) (w:bx) (s:aN) (t:Thread) (c:ba nQ):Prop:=(∀f n,step den p w s ⟨c,t.code,t.pos,t.stack⟩=.halt (.done f) n->False)\/(through ⟨c,t.code,t.pos,t.stack⟩=aB/\ ∃g,step den p w s ⟨c,t.code,t.pos,t.stack⟩=finish (.done g) s)
theorem fT (h:yp (step den p w s ⟨c,t.code,t.pos,t.stack⟩)=aB):DP den p w s t c:=.inl λf n e=>Wu h e
theorem CR (h: ∀f n,step den p w s ⟨c,t.code,t.pos,t.stack⟩=.halt (.done f) n->False):DP den p w s t c:=.inl h
theorem rA {s t f s'} (h:Step.go s t=.halt (.done f) s'):False:=nomatch h
theorem Ar {a f s b} (h:Step.halt (.stuck a) b=.halt (.done f) s):False:=nomatch h
theorem QAv (s:aN) (t:Thread) (C:ba nQ):DP den p w s t C:=by
 refine C.casesOn
  (λx=>by
   induction x with
   |again c=>exact fT<|eZ aB
   |done g=>obtain ⟨c,m,P,o⟩:=t;induction o with
    |nil=>exact .inr ⟨rfl,g,rfl⟩
    |cons F r _=>induction F<;>exact fT<|eZ aB)
  (λe=>by
   obtain ⟨c,m,P,o⟩:=t;induction o with
   |nil=>exact fT<|Bj (eZ aB)<|eZ aB
   |cons F r _=>induction F<;>exact fT<|eZ aB)
  (λO=>fT<|eZ aB)
  (λO=>fT<|Bj (eZ aB)<|eZ aB)
  (λO O=>fT<|eZ aB)
  (λO O=>fT<|eZ aB)
  (λa q k=>CR λf n h=>by delta step at h;dsimp only at h;revert h;generalize s.heap.get? a=z;induction z;exact Ar;exact rA)
  (λO O O O=>fT<|Bj (eZ aB)<|eZ aB)
  (λO O=>fT<|eZ aB)
  (λO O=>fT<|eZ aB)
  (λO O=>fT<|eZ aB)
  (λO O=>fT<|eZ aB)
  (λO=>fT<|eZ aB)
  (λO=>fT<|eZ aB)
  (λO O O=>fT<|Bj (eZ aB)<|eZ aB)
  (λO O O=>fT<|eZ aB)
  (λO O O O O=>fT<|eZ aB)
  (λO O=>fT<|eZ aB)
  (λO O=>fT<|eZ aB)
  (λg k=>CR λf n h=>by delta step at h;dsimp only at h;revert h;generalize s.gens[g]?=z;induction z;exact Ar;exact rA)
  (λg r l k=>CR λf n h=>by
   delta step at h;dsimp only at h;revert h;generalize s.gens[g]?=z;induction z with
   |none=>exact Ar
   |some N=>induction N with
    |fresh c=>induction r with
     |send v=>induction v<;>exact rA
     |throw e=>exact rA
    |suspended _ _ _ _ _ _=>exact rA
    |running=>exact rA
    |finished=>exact rA)
  (λv g l k=>CR λf n h=>by delta step at h;dsimp only at h;revert h;generalize splitAtGen t.stack=z;induction z;exact Ar;exact rA)
  (λO=>fT<|eZ aB)
  (λO O=>fT<|eZ aB)
  (λO=>fT<|eZ aB)
  (λO O O O O=>fT<|eZ aB)
theorem VE (h:step den p w s t=.halt (.done f) i):through t=aB/\i=s:=(QAv s t t.cur).elim (λg=>(g _ _ h).elim) λg=>⟨g.1,g.2.elim λx e=>(QAQ<|e.symm.trans h).2⟩
end
noncomputable def uK {α β:Type}:List α->β->(α->β->ba (ForInStep β))->ba (ForInStep β)
 |[],b,_=>pure<|.yield b
 |x::xs,b,f=>f x b>>=λr=>match r with
  |.done B=>pure<|.done B
  |.yield B=>uK xs B f
theorem Lo {α β:Type} (f:α->β->ba (ForInStep β)) (l r:List α) (b:β):forIn (l++r) b f=(uK l b f>>=λx=>match x with|.done B=>pure B|.yield B=>forIn r B f):=by
 induction l generalizing b with
 |nil=>exact (pure_bind ..).symm
 |cons x R i=>
  simp! only[sT,ua]
  refine Eq.trans ?_ (bind_assoc ..).symm
  congr 1
  funext y;induction y with
  |done B=>exact (pure_bind ..).symm
  |yield B=>exact i B
theorem GP {α:Type} (x:List α) (h:x.length=n+1): ∃g,x=(bg<|n+1).map g:=by
 induction x with
 |nil=>contradiction
 |cons a l=>exact ⟨λi=>(a::l).getD i a,List.ext_getElem (by simp! only[h,dZ,wu]) λi H m=>by simp! only[List.getElem_map,List.getElem_range];exact List.getElem_eq_getD a⟩
noncomputable abbrev DS:=Option aM×List (ba aI×ba aI)
noncomputable def oW:{f:((Option (ba aI)×ba aI)->DS->ba (ForInStep DS))×(DS->ba aI) // ∀items,QQ items=(forIn items ((aF,[])) f.1>>=f.2)}:=⟨⟨_,_⟩,λO=>rfl⟩
noncomputable def fA (l:List wy) (n:Nat):Obj:=⟨.type "dict",aF,.dict l.toArray n, #[]⟩
noncomputable def kT (k:Int):ba Value:=mkInt k
noncomputable def vT (p:bP) (x:fX):ba Value:=do let v<-mkText x;sM p;pure v
noncomputable def l6 (p:bP) (l:List (Int×fX)):List (ba aI×ba aI):=l.map λK=>(kT K.1,vT p K.2)
noncomputable def iy (p:bP) (l:List (Int×fX)):List (Option (ba aI)×ba aI):=(l6 p l).map λq=>(aA q.1,q.2)
noncomputable def lh (k:Int) (v:aI) (t:fF):DictEntry:=⟨hashInt k,.int k t,v⟩
noncomputable def G_ (ks:Int×fX) (e:wy):Prop:= ∃t u,e=lh ks.1 (.str ks.2 u) t
inductive xv:List (Int×fX)->List (aI×aI)->Prop
 |nil:xv [] []
 |cons {k x l vs} (t u:Tok):xv l vs->xv ((k,x)::l) ((.int k t,.str x u)::vs)
inductive dN:List (Int×fX)->List wy->Prop
 |nil:dN [] []
 |cons {ks e l es}:G_ ks e->dN l es->dN (ks::l) (e::es)
theorem dN.app {l es l' es'} (h:dN l es) (h':dN l' es'):dN (l++l') (es++es'):=by
 induction h with
 |nil=>exact h'
 |cons a _ i=>exact .cons a i
theorem dN.len {l es} (h:dN l es):es.length=l.length:=by
 induction h with
 |nil=>rfl
 |cons _ _ i=>simp -iota [i]
theorem dN.at {l es} (h:dN l es): ∀{i:Nat},i<es.length-> ∃ks,l[i]?=aA ks/\ ∃t u,es[i]?=aA (lh ks.1 (.str ks.2 u) t):=by
 induction h with
 |nil=>intro i d;contradiction
 |cons a _ z=>
  intro i d;induction i with
  |zero=>exact je a λt u e=>sb e<|⟨_,rfl,t,u,rfl⟩
  |succ i=>exact z<|QEq d
theorem dN.keys {l es} (h:dN l es):IntKeys es.toArray:=by
 induction h with
 |nil=>intro e he;simp -iota at he
 |cons a _ i=>
  intro e he;refine je a λt u B=>?_;clear a;subst B
  simp! only[List.mem_toArray,bp] at he i
  rcases he with rfl|he
  ·exact (fD _ t rfl rfl)
  ·exact i e (by simpa -iota using he)
theorem dN.none {l es} {k:Int} (h:dN l es) (K: ∀ks∈l,ks.1≠k):es.toArray.findIdx? (λe=>mR k e.key)=none:=by
 rw[List.findIdx?_toArray,List.findIdx?_eq_none_iff];intro e F;induction h with
 |nil=>contradiction
 |cons a _ i=>
  refine je a λt u B=>?_;clear a;subst B;rcases bp.mp F with rfl|F
  ·have:=K _ (.head _)
   exact QGw ‹_›
  ·exact i (λks h=>K ks<|.tail _ h) F
section
variable {prog:sF} {w:bx} {A:cV} {E:aI->aN->Prop} {s:aN}
structure fq (d:aM) (h h':bK):Prop where
 size:h'.objs.size=h.objs.size
 same: ∀b,b≠d->h'.objs[b]?=h.objs[b]?
 life:h'.life=h.life
theorem fq.refl (d h):fq d h h:=⟨rfl,λO O=>rfl,rfl⟩
theorem fq.trans {d h h' h''} (a:fq d h h') (b:fq d h' h''):fq d h h'':=⟨b.size.trans a.size,λc C=>(b.same c C).trans<|a.same c C,b.life.trans a.life⟩
theorem fq.upd (d:aM) (h:bK) (f:bH->bH):fq d h (h.update d f):=by obtain ⟨o,l⟩:=h;refine ⟨by simp[Heap.update],λb B=>?_,rfl⟩;erw[Array.getElem?_modify];exact sb (QGw<|lM B) rfl
theorem fq.get {d h h'} (a:fq d h h') (hb:b≠d):h'.get? b=h.get? b:=by unfold wR;exact sb (a.same b hb) rfl
theorem Wm {k:Int} (hd:s.heap.get? d=aA (fA es n)) (K:IntKeys es.toArray)
 (hn:es.toArray.findIdx? (λe=>mR k e.key)=aF) (z:es.length<=mJ)
 (h: ∀h',fq d s.heap h'->h'.get? d=aA (fA (es++[lh k v t])<|n+1)->Q () {s with heap:=h'}):aO (aY prog w) A (dictPut d (hashInt k) (.int k t) v) Q E s:=by
 refine aR<|QEz hd rfl K ?_;refine sb hn<|wpAny_updateDictKeys hd rfl (h _ (fq.upd ..) ?_)
 erw[wo _ hd rfl];refine (?_:aA (⟨.type "dict",aF,.dict (es.toArray.push<|lh k v t)<|n+1, #[]⟩:bH)=_);rw[QFA];rfl
theorem Jk {k:Int} (hd:s.heap.get? d=aA (fA es n)) (K:IntKeys es.toArray)
 (hn:es.toArray.findIdx? (λe=>mR k e.key)=aF) (z:es.length<=mJ)
 (h: ∀h',fq d s.heap h'->h'.get? d=aA (fA (es++[lh k v t])<|n+1)->Q () {s with heap:=h',toks:=s.toks+1}):aO (aY prog w) A (dictSet d (.int k t) v) Q E s:=by
 refine cO<|aR<|wpAny_pyHash_int ?_;refine cO<|aR<|QEz hd rfl K ?_;refine sb hn<|wpAny_bind<|wpAny_rule<|wpAny_updateDictKeys hd rfl (h _ (fq.upd ..) ?_)
 erw[wo _ hd rfl];refine (?_:aA (⟨.type "dict",aF,.dict (es.toArray.push<|lh k v t)<|n+1, #[]⟩:bH)=_);rw[QFA];rfl
theorem LK {k:Int} (h:Q (.int k s.toks) {s with toks:=s.toks+1}):aO (aY prog w) A (kT k) Q E s:=λO O O=>h
theorem Lk (h:Q (.str x s.toks) {s with toks:=s.toks+1}):aO (aY prog w) A (vT p x) Q E s:=λO O O=>h
theorem fill (l:List (Int×fX)): ∀(done:List (Int×fX)) (es:List wy) (s:aN) (Q:PUnit->aN->Prop),dN done es->s.heap.get? d=aA (fA es es.length)->
 ((done++l).map (·.1)).Nodup->(done++l).length<=mJ->
 (∀h' P,fq d s.heap h'->dN (done++l) P->h'.get? d=aA (fA P P.length)->Q lO {s with heap:=h',toks:=s.toks+3*l.length})->
 aO (aY prog w) A (forIn (l6 p l) lO λ(x:ba aI×ba aI) (_:PUnit)=>(do
  let Y<-x.1
  let v<-ot [Y] x.2
  ot [Y,v] (dictSet d Y v)
  pure (ou lO):ba (ForInStep PUnit))) Q E s:=by
 induction l with
 |nil=>intro done es s Q he hd _ _ hQ;refine bA ?_;have:=hQ s.heap es (fq.refl ..) (by simpa -iota using he) hd;simpa -iota using this
 |cons j l i=>
  intro done es s Q he hd n z hQ;obtain ⟨k,x⟩:=j;refine (?_:aO _ _ (forIn (_::_) _ _) _ _ _)
  simp! only[ua]
  have f: ∀ks∈done,ks.1≠k:=by intro ks K e;rw[gp,wz] at n;exact n.2.2 ks.1 (ij.mpr<|ax ks K rfl) k (.head _) e
  refine aR<|aR<|LK<|aR<|cO<|Lk<|aR<|cO ?_;refine Jk hd he.keys (he.none f) (by simp -iota at z;exact bD (nL (he.len:es.length=done.length)) z) λh' b g=>bA (i (done++[(k,x)]) (es++[lh k (.str x<|s.toks+1) s.toks]) _ _ (he.app<|.cons (lY _ _ rfl) .nil) (by simpa -iota using g) (by simpa -iota using n) (by simpa -iota using z) λh t B F u=>?_);have:=hQ h t (b.trans B) (by simpa -iota using F) u;simpa -iota [(by simp+arith:s.toks+1+1+1+3*l.length=s.toks+3*(l.length+1))] using this
theorem RL {vs:List (aI×aI)} (v:xv l vs): ∀(n:List (Int×fX)) (es:List wy) (s:aN) (Q:PUnit->aN->Prop),dN n es->s.heap.get? d=aA (fA es es.length)->
 ((n++l).map (·.1)).Nodup->(n++l).length<=mJ->
 (∀h' P,fq d s.heap h'->dN (n++l) P->h'.get? d=aA (fA P P.length)->Q lO {s with heap:=h',toks:=s.toks+l.length})->
 aO (aY prog w) A (forIn vs lO λ(x:aI×aI) (_:PUnit)=>(do dictSet d x.1 x.2;pure (ou lO))) Q E s:=by
 induction v with
 |nil=>
  intro n es s Q F L _ _ q
  simp! only[zY]
  refine bA ?_;have:=q s.heap es (fq.refl ..) (by simpa -iota using F) L;simpa -iota using this
 | @cons k x l vs t u r i=>
  intro n es s Q F L N Z q
  simp! only[ua]
  have f: ∀Y∈n,Y.1≠k:=by
   intro Y K e
   simp! only[gp,wz] at N
   exact N.2.2 Y.1 (ij.mpr<|ax Y K rfl) k (.head _) e
  refine aR<|aR ?_;refine Jk L F.keys (F.none f) (by simp -iota at Z;exact bD (nL (F.len:es.length=n.length)) Z) λh' b g=>bA (i (n++[(k,x)]) (es++[lh k (.str x u) t]) _ _ (F.app<|.cons (lY _ _ rfl) .nil) (by simpa -iota using g) (by simpa -iota using N) (by simpa -iota using Z) λh B z p o=>?_);have:=q h B (b.trans z) (by simpa -iota using p) o;have e:s.toks+1+l.length=s.toks+(l.length+1):=zj _ _ _
  simpa -iota [e] using this
theorem UZ (l:List (Int×fX)): ∀(s:aN) (Q:List (aI×aI)->aN->Prop),
 (∀vs,xv l vs->Q vs {s with toks:=s.toks+2*l.length})->aO (aY prog w) A (evalPairs<|l6 p l) Q E s:=by
 induction l with
 |nil=>exact λs Q h=>evalPairs_nil (by simpa -iota using h [] .nil)
 |cons K l i=>intro s Q h;obtain ⟨k,x⟩:=K;refine evalPairs_cons<|LK<|Lk<|i _ _ λvs v=>?_;simpa -iota [(by simp+arith:s.toks+1+1+2*l.length=s.toks+2*(l.length+1))] using h _ (.cons _ _ v)
structure qQ (h h':bK):Prop where
 size:h'.objs.size=h.objs.size+1
 same: ∀b,b<h.objs.size->h'.objs[b]?=h.objs[b]?
 life:h'.life=h.life
theorem qQ.push (h:bK) (o:bH):qQ h (h.push o):=by obtain ⟨p,l⟩:=h;refine ⟨by simp[Heap.push],λb B=>?_,rfl⟩;erw[Array.getElem?_push];exact sb (QGw<|qm B) rfl
theorem qQ.but (g:qQ h h') (b:fq h.objs.size h' H):qQ h H:=⟨b.size.trans g.size,λc C=>(b.same c<|qm C).trans<|g.same c C,b.life.trans g.life⟩
theorem Ja (L:15<l.length) (z:l.length<=mJ) (n:(l.map (·.1)).Nodup)
 (h: ∀h' es,qQ s.heap h'->dN l es->h'.get? s.heap.objs.size=aA (fA es es.length)->Q s.heap.objs.size {s with heap:=h',toks:=s.toks+3*l.length}):
 aO (aY prog w) A (xA<|l6 p l) Q E s:=by
 dsimp only[xA];refine aR<|Hp<|aR<|cO ?_;refine sb (QGw (by simp -iota [l6];assumption))<|wpAny_bind<|wpAny_rule<|wpAny_bind ?_
 refine fill l [] [] _ _ .nil (fG _ rfl) (by simpa -iota using n) (by simpa -iota using z) λh' es b e g=>?_;exact bA (bA<|h h' es ((qQ.push ..).but b) (by simpa -iota using e) g)
theorem RB (L:l.length<=15) (n:(l.map (·.1)).Nodup)
 (h: ∀h' es,qQ s.heap h'->dN l es->h'.get? s.heap.objs.size=aA (fA es es.length)->Q s.heap.objs.size {s with heap:=h',toks:=s.toks+3*l.length}):
 aO (aY prog w) A (xA<|l6 p l) Q E s:=by
 dsimp only[xA];refine aR<|Hp<|aR<|cO ?_;refine sb (QGx (by simp -iota [l6];assumption))<|wpAny_bind<|UZ l _ _ λm v=>cO<|aR ?_
 refine RL v [] [] _ _ .nil (fG _ rfl) (by simpa -iota using n) (by simp! only[AA];simp;exact az ‹_› (gA _ _)) λh' es b e g=>?_;refine bA<|bA ?_;have:=h h' es ((qQ.push ..).but b) (by simpa -iota using e) g;simpa -iota [(by simp+arith:s.toks+2*l.length+l.length=s.toks+3*l.length)] using this
theorem WC {l L:List (Int×fX)} (n:((l++L).map (·.1)).Nodup) (K:L[x]?=aA ks): ∀q∈l++L.take x,q.1≠ks.1:=by
 intro q Q e;have u:L=L.take x++ks::L.drop (x+1):=by refine aV (zT.mp K) λh e=>?_;rw[<-e,List.getElem_cons_drop h,sU]
 rw[u,<-ik,gp,wz] at n;exact n.2.2 q.1 (ij.mpr ⟨q,Q,rfl⟩) ks.1 (.head _) e
inductive Ca (d:aM) (s:aN) (l l':List (Int×fX)) (es':List wy) (rest:List Nat) (s':aN):Prop
 |mk (h':Heap) (i:Nat) (es'':List DictEntry):rest=List.range' i (es'.length - i)->i<=es'.length->s'={s with heap:=h'}->fq d s.heap h'->dN (l++l'.take i) es''->h'.get? d=some (fA es'' es''.length)->Ca d s l l' es' rest s'
theorem Le {es e:List wy} (C:a≠d) (U:(a==Cs)=aE) (hd:s.heap.get? d=aA (fA es es.length)) (K:s.heap.get? a=aA (fA e e.length))
 (he:dN l es) (p:dN f e) (n:l≠[]) (N:((l++f).map (·.1)).Nodup) (hz:(l++f).length<=mJ)
 (h: ∀h' B,fq d s.heap h'->dN (l++f) B->h'.get? d=aA (fA B B.length)->Q () {s with heap:=h'}):
 aO (aY prog w) A (IH d (.ref a) aE) Q E s:=by
 dsimp only[IH];have z:s.TypeIs (.ref a) "dict" :=(ax _ K rfl);refine aR<|wpAny_isInstance z isSubtype_dict_dict ?_;refine sb (QGx rfl)<|wpAny_bind<|wpAny_specialOf z F.slot_dict_iter.lookup ?_
 refine (?_:aO (aY prog w) A (if (a==Cs)=aB then _ else _) Q E s);erw[if_neg λq=>bq<|U.symm.trans q];have g:es≠[]:=by intro q;clear C U hd K p z;subst q;clear N hz h;cases he;exact n rfl
 have r: ¬ es.toArray.isEmpty=true:=by simp[g]
 refine aR<|QFB hd rfl ?_;refine sb (QGw r)<|wpAny_bind<|wpAny_dictEntries K rfl (wpAny_bind<|wpAny_dictEpoch K rfl ?_)
 refine aR<|wpAny_forIn_list _ (λrest O s'=>Ca d s l f e rest s') _ ?_ ?_ _ _ ?_
 ·clear U hd he n h z g r
  rintro x rest _ _ ⟨h',i,B,R,j,rfl,hb,b,Y⟩
  have L:i<e.length:=by
   refine cp (QR i e.length) (λq=>?_) λq=>?_
   ·exact q
   ·rw[xB q] at R
    clear q;contradiction
  rw[show e.length - i=(e.length - (i+1))+1 by exact (rF (sE (L:i+1<=e.length)).symm<|sE ((aQ L):i<=e.length)),QEr] at R;refine bI (List.cons.inj R) λm c=>?_;subst m;subst c;refine aR<|QFB ((hb.get C).trans K:h'.get? a=aA (fA e e.length)) rfl ?_;refine aS (p.at L) λks Z W=>je W λt u o=>sb (by simpa -iota using o:e.toArray[x]?=aA (lh ks.1 (.str ks.2 u) t))<|wpAny_bind (wpAny_holding<|Wm Y b.keys (b.none<|WC N Z) (by rw[(by (erw[b.len];erw[List.length_append];erw[List.length_take];exact sb (Nat.min_eq_left (by rw[<-p.len];assumption)) rfl):B.length=l.length+x)];simp -iota at hz;exact bD (by rw[<-p.len];exact L:x<f.length) hz) λH P v=>?_)
  have M:fq d s.heap H:=hb.trans P;refine aR (wpAny_dictEpoch ((M.get C).trans K) rfl ?_)
  simp! only[QHE,wm,if_false]
  refine bA (Ca.mk H (x+1) (B++[lh ks.1 (.str ks.2 u) t]) rfl L rfl M ?_ (by simpa -iota [lh] using v));rw[(by rw[List.take_add_one,Z];rfl:f.take (x+1)=f.take x++[ks]),<-ik];exact b.app<|.cons (lY _ _ rfl) .nil
 ·clear C U hd K he n N hz z g r
  rintro _ _ ⟨h',i,B,R,j,rfl,hb,b,Y⟩
  have:i=e.length:=by have:=QGz QS R;simp -iota at this;exact (rF (sE (j:i<=e.length)) this)
  clear R j;subst this;rw[p.len,List.take_length] at b;exact bA<|h h' B hb b Y
 ·exact Ca.mk s.heap 0 es (by simp -iota [QEs]) (hJ _) rfl (fq.refl ..) (by simpa -iota using he) hd
noncomputable def again:ForInStep DS->ba (ForInStep DS):=λr=>match r with
 |.done b=>pure<|.done b
 |.yield b=>uK [] b oW.1.1
theorem Xx (x:List (ba aI×ba aI)) (h:x.length=17):
 uK (x.map λq=>(aA q.1,q.2)) ((aF,[])) oW.1.1=(((xA x>>=λd=>pure<|aA d)>>=λm=>pure<|.yield<|(m,[]))>>=again):=by
 refine aV (GP x h) λg e=>?_;subst e;lia
theorem YJ (d:aM) (x:List (ba aI×ba aI)) (h:x.length=17):
 uK (x.map λq=>(aA q.1,q.2)) ((aA d,[])) oW.1.1=(((ot [.ref d] (xA x)>>=λa=>((ot [.ref d,.ref a]<|IH d (.ref a) aE).onRaise λx=>ot [.ref d,x] (QT<|.builtin "proto.let_go" {})>>=λO=>pure ())>>=λO=>pure<|aA d)>>=λm=>pure<|.yield<|(m,[]))>>=again):=by
 refine aV (GP x h) λg e=>sb e ?_;lia
theorem QBw (d:aM) (x:List (ba aI×ba aI)) (h:x.length=4):
 (forIn (x.map λq=>(aA q.1,q.2)) ((aA d,[])) oW.1.1>>=oW.1.2)=((ot [.ref d] (xA x)>>=λa=>((ot [.ref d,.ref a]<|IH d (.ref a) aE).onRaise λx=>ot [.ref d,x] (QT<|.builtin "proto.let_go" {})>>=λO=>pure ())>>=λO=>pure<|aA d)>>=λm=>match m with
  |some d=>pure<|.ref d
  |none=>newDict):=by
 refine aV (GP x h) λg e=>sb e ?_;lia
structure wC (h0 h:bK) (m:Nat) (l:List (Int×fX)):Prop where
 size:h.objs.size=h0.objs.size+1+m
 same: ∀b,b<h0.objs.size->h.objs[b]?=h0.objs[b]?
 life:h.life=h0.life
 tab: ∃es,dN l es/\h.get? h0.objs.size=aA (fA es es.length)
theorem QAV (hd:d=h0.objs.size) (q:1<h0.objs.size) (G:wC h0 s.heap m n) (hl:l.length=17) (W:n≠[])
 (N:((n++l).map (·.1)).Nodup) (z:(n++l).length<=mJ) (h: ∀h',wC h0 h' (m+1) (n++l)->Q (.yield (aA d,[])) {s with heap:=h',toks:=s.toks+51}):
 aO (aY prog w) A (uK (iy p l) ((aA d,[])) oW.1.1) Q E s:=by
 subst hd;refine sb (YJ _ _<|by simp -iota [l6,hl])<|aS G.tab λes M u=>?_
 have a:(l.map (·.1)).Nodup:=by simp! only[gp,wz] at N;exact N.2.1
 refine aR (aR<|aR<|cO<|Ja (aQ<|nR hl) (by simp! only[AA];exact aQ<|nL hl) a λH F g i Z=>?_);have L:h0.objs.size<s.heap.objs.size:=by simp! only[G.size];exact mL _ _
 have C:H.get? h0.objs.size=aA (fA es es.length):=by
  simp! only[<-u]
  unfold wR
  simp! only[g.same _ L]
 refine aR<|QFC<|cO<|Le (wN L) (beq_eq_false_iff_ne.mpr<|wN<|sC ‹_› ‹_›) C Z M i W N z λx f B e Y=>?_;refine bA<|bA<|bA ?_;refine sb hl<|h x ⟨?_,λb hb=>?_,?_,f,e,Y⟩
 ·simp! only[B.size,g.size,G.size]
  exact wO _ _ _
 ·simp! only[B.same b<|qm hb,g.same b<|sC hb L,G.same b hb]
 ·simp! only[B.life,g.life,G.life]
theorem Ti (hl:l.length=17) (n:(l.map (·.1)).Nodup)
 (h: ∀h',wC s.heap h' 0 l->Q (.yield (aA s.heap.objs.size,[])) {s with heap:=h',toks:=s.toks+51}):
 aO (aY prog w) A (uK (iy p l) ((aF,[])) oW.1.1) Q E s:=by
 refine sb (Xx _<|by simp -iota [l6,hl])<|wpAny_bind (wpAny_bind<|wpAny_bind<|Ja (aQ<|nR hl) (by erw[sizeLine_eq];exact aQ<|nL hl) n λH e g L Z=>?_)
 refine bA<|bA<|bA ?_;exact sb hl<|h H ⟨g.size,g.same,g.life,e,L,Z⟩
theorem QBP (hd:d=h0.objs.size) (q:1<h0.objs.size) (n:Nat): ∀(l done:List (Int×fX)) (m:Nat) (s:aN),l.length=17*n+4->wC h0 s.heap m done->done≠[]->
 ((done++l).map (·.1)).Nodup->(done++l).length<=mJ->
 (∀h',wC h0 h' (m+n+1) (done++l)->Q (.ref d) {s with heap:=h',toks:=s.toks+51*n+12})->
 aO (aY prog w) A (forIn (iy p l) ((aA d,[])) oW.1.1>>=oW.1.2) Q E s:=by
 induction n with
 |zero=>
  intro l done m s hl G L N R h;subst hd;delta iy;refine sb (QBw _ _<|by simp -iota [l6,hl])<|aS G.tab λes he a=>aR (aR<|cO<|RB (aQ<|nL hl) (by simp! only[gp,wz] at N;exact N.2.1:(l.map (·.1)).Nodup) λH F g i Z=>?_)
  have K:h0.objs.size<s.heap.objs.size:=by simp! only[G.size];exact mL _ _
  have C:H.get? h0.objs.size=aA (fA es es.length):=by
   simp! only[<-a]
   delta wR
   simp! only[g.same _ K]
  refine aR<|QFC<|cO<|Le (wN K) (beq_eq_false_iff_ne.mpr<|wN<|sC ‹_› ‹_›) C Z he i L N R λx f B Y z=>?_;refine bA<|bA ?_;refine sb hl<|h x ⟨?_,λb hb=>?_,?_,f,Y,z⟩
  ·simp! only[B.size,g.size,G.size]
   exact wO _ _ _
  ·simp! only[B.same b<|qm hb,g.same b<|sC hb K,G.same b hb]
  ·simp! only[B.life,g.life,G.life]
 |succ n c=>
  intro l done m s hl G L N R h
  have e:iy p l=iy p (l.take 17)++iy p (l.drop 17):=by
   delta iy l6
   simp! only[<-gp,<-gp,sU]
  simp! only[e,Lo,bind_assoc]
  have W:done++l=(done++l.take 17)++l.drop 17:=by simp! only[ik,sU]
  have j:((done++l.take 17).map (·.1)).Nodup:=by rw[W,gp,wz] at N;exact N.1
  refine aR (QAV hd q G (by simp! only[DF];exact (fz<|(aQ<|nR hl))) L j (by have:=QGz QS W;simp -iota at this R⊢;(clear hl;exact (bD R<|Cp (17)<|l.length))) λh' o=>?_);refine c (l.drop 17) (done++l.take 17) (m+1) _ (by simp! only[II];exact (rF hl<|sE ((aQ<|nR hl):17<=l.length))) o (by simp -iota [L]) (W▸N) (W▸R) λu v=>?_;have:=h u (by simp! only[W,show m+(n+1)+1=m+1+n+1 by exact zj _ _ _];exact v);simpa -iota [(by simp+arith:s.toks+51+51*n+12=s.toks+51*(n+1)+12)] using this
theorem SS (i:1<s.heap.objs.size) (hl:l.length=17*(n+1)+4) (N:(l.map (·.1)).Nodup) (z:l.length<=mJ)
 (h: ∀h',wC s.heap h' (n+1) l->Q (.ref s.heap.objs.size) {s with heap:=h',toks:=s.toks+51*(n+1)+12}):
 aO (aY prog w) A (QQ<|iy p l) Q E s:=by
 rw[oW.2]
 have e:iy p l=iy p (l.take 17)++iy p (l.drop 17):=by
  delta iy l6
  simp! only[<-gp,<-gp,sU]
 simp! only[e,Lo,bind_assoc]
 have Y:((l.take 17).map (·.1)).Nodup:=by rw[<-sU 17 l,gp,wz] at N;exact N.1
 refine aR (Ti (by erw[DF];exact (fz<|(aQ<|nR hl))) Y λh' o=>?_);refine QBP rfl i n (l.drop 17) (l.take 17) 0 _ (by erw[II];exact (rF hl<|sE ((aQ<|nR hl):17<=l.length))) o (by intro q;have:=QGz QS q;rw[DF,uh] at this;exact (cY (nR<|fz ((aQ<|nR hl):17<=l.length))<|nL this)) (by rw[sU];exact N) (by rw[sU];exact z) λH g=>?_
 simp! only[sU,ug] at g
 have:=h H g;simpa -iota [(by simp+arith:s.toks+51+51*n+12=s.toks+51*(n+1)+12)] using this
end
namespace B01
noncomputable abbrev en (P:bZ) (x:fX) (t:Nat) (v:aI):DictEntry:=⟨PyData.keyHash P x,.str x t,v⟩
noncomputable def hW (x:String):fX:=.ofString x
noncomputable def bV (x:String) (t:Nat):Value:=.str (hW x) t
noncomputable def qI (l:List String):Nat->List Value:=l.rec (λO=>[]) λx O f t=>bV x t::f (t+1)
noncomputable def q7 (l:List Int):Nat->List Value:=l.rec (λO=>[]) λx O f t=>.int x t::f (t+1)
noncomputable def qO (l:List Int):List Value:=l.map (.int · 0)
noncomputable def XZ (l:List String):Nat->List (String×Nat×aI):=l.rec (λO=>[]) λx O f t=>(x,t,.builtin x)::f (t+1)
noncomputable def Nm (l:List String):Nat->List (String×Nat×aI):=l.rec (λO=>[]) λx O f t=>(x,t,.type x)::f (t+1)
noncomputable def v7 (c:Int) (l:List (Int×Nat)):List Value:=l.rec [] λp O f=>.int p.1 0:: .int c 0:: .ref p.2::f
noncomputable def pq (P:bZ) (l:List (String×Nat×aI)) (n:Nat):Obj:=⟨.type "dict",aF,.dict (l.map λp=>en P (hW p.1) p.2.1 p.2.2).toArray n, #[]⟩
noncomputable def u6:Obj:=⟨.type "dict",aF,.dict #[] 0, #[]⟩
noncomputable def fS (l:List aI):Obj:=⟨.type "tuple",aF,.seq l.toArray 0, #[]⟩
noncomputable def kV:Obj:=⟨.type "tuple",aF,.seq #[] 0, #[]⟩
noncomputable def rY (l:List aI):Obj:=⟨.type "list",aF,.seq l.toArray 0, #[]⟩
noncomputable def v8 (l:List aI):Obj:=⟨.none,aF,.fields l.toArray, #[]⟩
noncomputable def oK:Obj:=⟨.none,aF,.fields #[], #[]⟩
noncomputable def fx (c:String) (l:List aI):Obj:=⟨.type c,aF,.fields l.toArray, #[]⟩
noncomputable def O5 (n q:String) (s:cx) (g:Nat) (d m c:aI):FuncData:={name:=hW n,qualname:=hW q,params:=Kt s,body:=.stmts<|fI s,scope:=cJ s,globals:=g,closure:=[],defaults:=d,kwdefaults:=.none,doc:=.none,pyModule:=m,annotations:=aF,code:=c,closureTuple:=.none,builtins:=0}
noncomputable def vv (n q:String) (s:cx):Obj:=⟨.none,aF,.func<|O5 n q s 0 .none .none .none, #[]⟩
noncomputable def wJ (n q:String) (s:cx) (d m:aI) (c:Nat):Obj:=⟨.type "function",aF,.func<|O5 n q s 3 d m<|.ref c, #[]⟩
noncomputable def vM (n q:String) (t:Nat) (l a b c d:Int) (r1 r2:Nat) (L v:aI) (r:Nat) (e:Int) (u:Nat):Obj:=fx "code" [bV n t,bV q<|t+1,bV "/claim/cut.py"<|t+2,.int l 0,.int a 0,.int b 0,.int c 0,.int d 0,.ref r1,.bool aB,.int 276 0,.ref r2,.none,L,v,.ref r,.int e 0,.int l 0,bV "/claim/cut.py" u]
noncomputable def RC:List (String×Nat×aI):=[("__doc__",166,.none),("__package__",167,.none),("__loader__",168,.builtin "__main__.__loader__#opaque"),("__spec__",169,.none),("__annotations__",170,.ref 6),("__builtins__",171,.ref 4),("__file__",173,bV "/claim/cut.py" 172),("__cached__",174,.none),("_sre",275,.ref 12),("_wall",288,.ref 38),("compute_powers",310,.ref 46),("_str_to_int_inner",321,.ref 53),("int_from_string",328,.ref 60),("_DIV_LIMIT",330,.int 4000 329),("_div2n1n",347,.ref 67),("_div3n2n",361,.ref 74),("_int2digits",372,.ref 81),("_digits2int",383,.ref 88),("_divmod_pos",398,.ref 95),("int_divmod",408,.ref 102),("_twin_re_1",426,.ref 107),("_twin_re_2",468,.ref 112),("CRLF",470,bV "\r\n" 469),("quotedata",477,.ref 119),("b1_set",539,.ref 127),("in_table_b1",546,.ref 137),("b3_exceptions",2497,.ref 138),("map_table_b3",2505,.ref 183),("tspecials",2541,.ref 188),("_name_disallowed_re",2567,.ref 193),("_value_disallowed_re",2601,.ref 198),("_formatparam",2611,.ref 206),("Headers",2768,.ref 327),("_law_cells",2776,.ref 336),("_law_letter",2785,.ref 343),("_law_hidden",2793,.ref 350),("_law_stay",2801,.ref 357),("_law_prepared",2807,.ref 362),("_law_corners",2815,.ref 369),("_law_book",2821,.ref 374),("_law_divided",2831,.ref 381),("_law_counts",2837,.ref 386),("_law_bare",2843,.ref 391),("_law_found",2849,.ref 396),("_law_common",2857,.ref 403),("_law_multiples",2863,.ref 408),("law",2869,.ref 413)]
noncomputable def rQ (P:bZ) (n:aI) (k e:Nat):Obj:=pq P (("__name__",165,n)::RC.take k) e
noncomputable def yb:List (Int×Nat):=[(2,37),(6,45),(47,52),(57,59),(61,66),(77,73),(87,80),(103,87),(112,94),(123,101),(138,118),(142,136),(145,182),(154,205),(163,212),(246,335),(248,342),(251,349),(254,356),(257,361),(259,368),(264,373),(285,380),(290,385),(312,390),(325,395),(355,402),(359,407),(376,412)]
noncomputable def QCh {α:Type} (d:α) (l:List α):Nat->α:=l.rec (λO=>d) λo O f i=>i.rec o λj O=>f j
noncomputable def UQ:Value:=bV "__main__" 164
noncomputable def vr:Value:=bV "cpy313._pylong" 289
noncomputable def T5:Value:=bV "cpy313.smtplib" 409
noncomputable def LQ:Value:=bV "cpy313.stringprep" 478
noncomputable def ir:Value:=bV "cpy313.wsgiref.headers" 2506
noncomputable def kM:Value:=bV "law_wf0123_02" 2769
noncomputable def jB (n q:String) (s:cx) (i t:Nat) (l a f:Int) (ns:List String) (v M:aI):List Obj:=kV::oK::ns.rec [vv n q s,vM n q t l a 0 0 f i (i+1) .none .none (i+2) (t+3:Nat)<|t+4,wJ n q s v M<|i+3] λO O O=>[fS<|qI ns<|t+3,kV,vv n q s,vM n q t l a 0 0 f i (i+1) (.ref<|i+2) (.ref<|i+3) (i+4) (t+3+ns.length:Nat)<|t+4+ns.length,wJ n q s v M<|i+5]
noncomputable def fJ (n:String):=jB n n
noncomputable def Va (P:bZ):List (Nat×List bH):=[(32,[pq P ([("__name__",1,bV "builtins" 160),("__doc__",2,.builtin "builtins.__doc__:str#opaque"),("__package__",3,.builtin "builtins.__package__:str#opaque"),("__loader__",4,.builtin "builtins.__loader__:shared#opaque"),("__spec__",5,.builtin "builtins.__spec__#opaque")]++XZ ["__build_class__","__import__","abs","all","any","ascii","bin","breakpoint","callable","chr","compile","delattr","dir","divmod","eval","exec","format","getattr","globals","hasattr","hash","hex","id","input","isinstance","issubclass","iter","aiter","len","locals","max","min","next","anext","oct","ord","pow","print","repr","round","setattr","sorted","sum","vars"] 6++[("None",50,.none),("Ellipsis",51,.ellipsis),("NotImplemented",52,.notImplemented),("False",53,.bool aE),("True",54,.bool aB)]++Nm ["bool","memoryview","bytearray","bytes","classmethod","complex","dict","enumerate","filter","float","frozenset","property","int","list","map","object","range","reversed","set","slice","staticmethod","str","super","tuple","type","zip"] 55++[("__debug__",81,.bool aB)]++Nm ["BaseException","BaseExceptionGroup","Exception","GeneratorExit","KeyboardInterrupt","SystemExit","ArithmeticError","AssertionError","AttributeError","BufferError","EOFError","ImportError","LookupError","MemoryError","NameError","OSError","ReferenceError","RuntimeError","StopAsyncIteration","StopIteration","SyntaxError","SystemError","TypeError","ValueError","Warning","FloatingPointError","OverflowError","ZeroDivisionError","BytesWarning","DeprecationWarning","EncodingWarning","FutureWarning","ImportWarning","PendingDeprecationWarning","ResourceWarning","RuntimeWarning","SyntaxWarning","UnicodeWarning","UserWarning","BlockingIOError","ChildProcessError","ConnectionError","FileExistsError","FileNotFoundError","InterruptedError","IsADirectoryError","NotADirectoryError","PermissionError","ProcessLookupError","TimeoutError","IndentationError","_IncompleteInputError","IndexError","KeyError","ModuleNotFoundError","NotImplementedError","PythonFinalizationError","RecursionError","UnboundLocalError","UnicodeError","BrokenPipeError","ConnectionAbortedError","ConnectionRefusedError","ConnectionResetError","TabError","UnicodeDecodeError","UnicodeEncodeError","UnicodeTranslateError","ExceptionGroup"] 82++[("EnvironmentError",151,.type "OSError"),("IOError",152,.type "OSError"),("open",153,.builtin "open"),("quit",154,.builtin "builtins.quit#opaque"),("exit",155,.builtin "builtins.exit#opaque"),("copyright",156,.builtin "builtins.copyright#opaque"),("credits",157,.builtin "builtins.credits#opaque"),("license",158,.builtin "builtins.license#opaque"),("help",159,.builtin "builtins.help#opaque")]) 159,pq P [("builtins",162,.ref 4),("__main__",163,.ref 5),("_sre",244,.ref 12)] 3,⟨.none,aF,(.dict #[en P (hW "\x69mport.loaded._sre") 183<|.bool aB,en P (hW "class._frozen_importlib.BuiltinImporter") 185<|.ref 14,en P (hW "watched.\x69mport") 206<|.ref 18,en P (hW "class._frozen_importlib.ModuleSpec") 216<|.ref 22,en P (hW "sys.modules.booked-epoch") 245<|.int 3 0,en P (hW "\x69mport.later-laid._sre") 270<|.bool aB,en P (hW "watched.library") 272<|.ref 27,en P (hW "watched.library-objects") 0<|bV "\x0c" 0,en P (hW "watched.library-deep._sre") 273<|bV "\x04\x00\x00\x0b\x04\x00\x00\x0b\x04\x00\x00\x03\x04\x00\x00\x0b\x08\x04dict\x02" 0] 9), #[]⟩,rQ P (bV "__main__" 164) 9 10,⟨(.type "module"),(aA 0),.plain, #[]⟩,⟨(.type "module"),(aA 3),.plain, #[]⟩,u6,kV,oK,fx "code"<|qI ["<module>","<module>","/claim/cut.py"] 176++qO [1,0,0,0,0]++[.ref 7,.bool aE,.int 175 0,.ref 8,.none,.none,.none,.none,.int 179 0,.int 1 0,bV "/claim/cut.py" 180],⟨(.type "frame"),aF,.plain, #[aA<|.ref 9,aA<|.ref 3,aA<|.ref 3,aF,aA<|bV "__main__" 164,aF,aA<|.ref 0]⟩,pq P [("__name__",247,bV "_sre" 246),("__doc__",248,.none),("__package__",250,bV "" 249),("__loader__",251,.builtin "off-the-table:_sre.__loader__:shared#opaque"),("__spec__",252,.builtin "off-the-table:_sre.__spec__:shared#opaque"),("compile",253,.builtin "_sre.compile"),("template",254,.builtin "off-the-table:_sre.template:shared#opaque"),("getcodesize",255,.builtin "off-the-table:_sre.getcodesize:shared#opaque"),("ascii_iscased",256,.builtin "off-the-table:_sre.ascii_iscased:shared#opaque"),("unicode_iscased",257,.builtin "off-the-table:_sre.unicode_iscased:shared#opaque"),("ascii_tolower",258,.builtin "off-the-table:_sre.ascii_tolower:shared#opaque"),("unicode_tolower",259,.builtin "off-the-table:_sre.unicode_tolower:shared#opaque"),("MAGIC",261,.int 20230612 260),("CODESIZE",263,.int 4 262),("MAXREPEAT",265,.int 4294967295 264),("MAXGROUPS",267,.int 1073741823 266),("copyright",269,bV " SRE 2.2.2 Copyright (c) 1997-2002 by Secret Labs AB " 268)] 17,⟨(.type "module"),(aA 11),.plain, #[]⟩,pq P [("__module__",189,bV "_frozen_importlib" 186),("__firstlineno__",190,.int 971 187),("__doc__",191,.builtin "_frozen_importlib.BuiltinImporter.__doc__:str#opaque"),("_ORIGIN",192,bV "built-in" 188),("find_spec",193,.builtin "_frozen_importlib.BuiltinImporter.find_spec#opaque"),("create_module",194,.builtin "_frozen_importlib.BuiltinImporter.create_module#opaque"),("exec_module",195,.builtin "_frozen_importlib.BuiltinImporter.exec_module#opaque"),("get_code",196,.builtin "_frozen_importlib.BuiltinImporter.get_code#opaque"),("get_source",197,.builtin "_frozen_importlib.BuiltinImporter.get_source#opaque"),("is_package",198,.builtin "_frozen_importlib.BuiltinImporter.is_package#opaque"),("load_module",199,.builtin "_frozen_importlib.BuiltinImporter.load_module#opaque"),("__static_attributes__",200,.ref 15),("__dict__",202,.ref 16),("__weakref__",204,.ref 17)] 14,⟨(.type "type"),aF,(.cls {name:=(hW "BuiltinImporter"),bases:=[(.type "object")],mro:=[(.ref 14),(.type "object")],ns:=13,qualname:=(hW "BuiltinImporter"),hasDict:=aB,slotNames:=[],subclasses:=[],abstract:=aE,collection:=aF,hasDel:=aE}), #[]⟩,kV,fx "getset_descriptor" [bV "__dict__" 201,.ref 14,.builtin "function.__dict__",.builtin "function.__dict__#set"],fx "getset_descriptor" [bV "__weakref__" 203,.ref 14,.builtin "ExceptionGroup.__weakref__",.none],⟨.none,aF,(.seq #[(.int 13 0),(bV "\x06\xbd\n__module__\x06\xba\x11_frozen_importlib\x06\xbe\x0f__firstlineno__\x04\xbb\x00ϋ\x06\xbf\x07__doc__\t4_frozen_importlib.BuiltinImporter.__doc__:str#opaque\x06\xc0\x07_ORIGIN\x06\xbc\x08built-in\x06\xc1\tfind_spec\t2_frozen_importlib.BuiltinImporter.find_spec#opaque\x06\xc2\rcreate_module\t6_frozen_importlib.BuiltinImporter.create_module#opaque\x06\xc3\x0bexec_module\t4_frozen_importlib.BuiltinImporter.exec_module#opaque\x06\xc4\x08get_code\t1_frozen_importlib.BuiltinImporter.get_code#opaque\x06\xc5\nget_source\t3_frozen_importlib.BuiltinImporter.get_source#opaque\x06\xc6\nis_package\t3_frozen_importlib.BuiltinImporter.is_package#opaque\x06\xc7\x0bload_module\t4_frozen_importlib.BuiltinImporter.load_module#opaque\x06\xc8\x15__static_attributes__\x04\x00\x00\x0f\x06\xca\x08__dict__\x04\x00\x00\x10\x06\xcc\x0b__weakref__\x04\x00\x00\x11" 0),(.bool aB),(.bool aB),(bV "" 205),(.int 21 0),(bV "\x06\xe3\n__module__\x06\xd9\x11_frozen_importlib\x06\xe4\x0f__firstlineno__\x04\xda\x00Ȳ\x06\xe5\x07__doc__\t/_frozen_importlib.ModuleSpec.__doc__:str#opaque\x06\xe6\x08__init__\t,_frozen_importlib.ModuleSpec.__init__#opaque\x06\xe7\x08__repr__\t,_frozen_importlib.ModuleSpec.__repr__#opaque\x06\xe8\x06__eq__\t*_frozen_importlib.ModuleSpec.__eq__#opaque\x06\xe9\x06cached\t*_frozen_importlib.ModuleSpec.cached#opaque\x06\xea\x06parent\t*_frozen_importlib.ModuleSpec.parent#opaque\x06\xeb\x0chas_location\t0_frozen_importlib.ModuleSpec.has_location#opaque\x06\xec\x15__static_attributes__\x04\x00\x00\x17\x06\xee\x08__dict__\x04\x00\x00\x18\x06\xf0\x0b__weakref__\x04\x00\x00\x19\x06\xf1\x08__hash__\x00" 0),(.bool aB),(.bool aB),(bV "" 242)] 1), #[]⟩,rY [],pq P [("name",208,bV "_sre" 207),("loader",209,.ref 14),("origin",210,bV "built-in" 184),("loader_state",211,.none),("submodule_search_locations",212,.none),("_uninitialized_submodules",213,.ref 19),("_set_fileattr",214,.bool aE),("_cached",215,.none),("_initializing",243,.bool aE)] 9,pq P [("__module__",227,bV "_frozen_importlib" 217),("__firstlineno__",228,.int 562 218),("__doc__",229,.builtin "_frozen_importlib.ModuleSpec.__doc__:str#opaque"),("__init__",230,.builtin "_frozen_importlib.ModuleSpec.__init__#opaque"),("__repr__",231,.builtin "_frozen_importlib.ModuleSpec.__repr__#opaque"),("__eq__",232,.builtin "_frozen_importlib.ModuleSpec.__eq__#opaque"),("cached",233,.builtin "_frozen_importlib.ModuleSpec.cached#opaque"),("parent",234,.builtin "_frozen_importlib.ModuleSpec.parent#opaque"),("has_location",235,.builtin "_frozen_importlib.ModuleSpec.has_location#opaque"),("__static_attributes__",236,.ref 23),("__dict__",238,.ref 24),("__weakref__",240,.ref 25),("__hash__",241,.none)] 13,⟨(.type "type"),aF,(.cls {name:=(hW "ModuleSpec"),bases:=[(.type "object")],mro:=[(.ref 22),(.type "object")],ns:=21,qualname:=(hW "ModuleSpec"),hasDict:=aB,slotNames:=[],subclasses:=[],abstract:=aE,collection:=aF,hasDel:=aE}), #[]⟩,fS<|qI ["_cached","_set_fileattr","_uninitialized_submodules","loader","loader_state","name","origin","submodule_search_locations"] 219,fx "getset_descriptor" [bV "__dict__" 237,.ref 22,.builtin "function.__dict__",.builtin "function.__dict__#set"],fx "getset_descriptor" [bV "__weakref__" 239,.ref 22,.builtin "ExceptionGroup.__weakref__",.none],⟨(.ref 22),(aA 20),.plain, #[]⟩,⟨.none,aF,(.seq #[(.int 11 0),(.str ⟨#[6,247,8,95,95,110,97,109,101,95,95,6,246,4,95,115,114,101,6,248,7,95,95,100,111,99,95,95,0,6,250,11,95,95,112,97,99,107,97,103,101,95,95,6,249,0,6,251,10,95,95,108,111,97,100,101,114,95,95,4,0,0,14,6,252,8,95,95,115,112,101,99,95,95,4,0,0,26,6,253,7,99,111,109,112,105,108,101,9,12,95,115,114,101,46,99,111,109,112,105,108,101,6,254,8,116,101,109,112,108,97,116,101,9,13,95,115,114,101,46,116,101,109,112,108,97,116,101,6,255,11,103,101,116,99,111,100,101,115,105,122,101,9,16,95,115,114,101,46,103,101,116,99,111,100,101,115,105,122,101,6,256,13,97,115,99,105,105,95,105,115,99,97,115,101,100,9,18,95,115,114,101,46,97,115,99,105,105,95,105,115,99,97,115,101,100,6,257,15,117,110,105,99,111,100,101,95,105,115,99,97,115,101,100,9,20,95,115,114,101,46,117,110,105,99,111,100,101,95,105,115,99,97,115,101,100,6,258,13,97,115,99,105,105,95,116,111,108,111,119,101,114,9,18,95,115,114,101,46,97,115,99,105,105,95,116,111,108,111,119,101,114,6,259,15,117,110,105,99,111,100,101,95,116,111,108,111,119,101,114,9,20,95,115,114,101,46,117,110,105,99,111,100,101,95,116,111,108,111,119,101,114,6,261,5,77,65,71,73,67,4,260,0,20230612,6,263,8,67,79,68,69,83,73,90,69,4,262,0,4,6,265,9,77,65,88,82,69,80,69,65,84,4,264,0,4294967295,6,267,9,77,65,88,71,82,79,85,80,83,4,266,0,1073741823,6,269,9,99,111,112,121,114,105,103,104,116,6,268,53,32,83,82,69,32,50,46,50,46,50,32,67,111,112,121,114,105,103,104,116,32,40,99,41,32,49,57,57,55,45,50,48,48,50,32,98,121,32,83,101,99,114,101,116,32,76,97,98,115,32,65,66,32]⟩ 0),(.bool aB),(.bool aE),(bV "_sre" 271)] 0), #[]⟩,kV,oK,fx "code"<|qI ["<module>","<module>","/claim/cut.py"] 277++qO [1,0,0,0,0]++[.ref 28,.bool aE,.int 276 0,.ref 29,.none,.none,.none,.none,.int 280 0,.int 1 0,bV "/claim/cut.py" 281],⟨(.type "frame"),aF,.plain, #[aA<|.ref 30,aA<|.ref 3,aA<|.ref 3,aF,aA<|bV "__main__" 164,aF,aA<|.ref 0]⟩]),
(39,fJ "_wall" (bO 1) 32 282 2 1 3 ["k"] .none UQ),
(40,[fS [.bool aE]]),
(47,fJ "compute_powers" (bO 3) 40 291 6 4 3 ["w","base","more_than","show","seen","need","ws","lo","d","it","first","this","hi","sq"] (.ref 39) vr),
(54,[kV,oK,fS [bV "s" 314],fS<|qI ["s","DIGLIM","inner","w5pow"] 315,vv "_str_to_int_inner" "_str_to_int_inner"<|bO 4,vM "_str_to_int_inner" "_str_to_int_inner" 311 47 1 0 0 3 47 48 (.ref 49) (.ref 50) 51 319 320,wJ "_str_to_int_inner" "_str_to_int_inner" (bO 4) .none (bV "cpy313._pylong" 289) 52]),
(61,fJ "int_from_string" (bO 5) 54 322 57 1 3 ["s"] .none vr),
(68,fJ "_div2n1n" (bO 7) 61 331 61 3 3 ["a","b","n","pad","half_n","mask","b1","b2","q1","r","q2"] .none vr),
(75,fJ "_div3n2n" (bO 8) 68 348 77 6 3 ["a12","a3","b","b1","b2","n","q","r"] .none vr),
(89,[kV,oK,fS [bV "a" 365,bV "n" 366],fS<|qI ["n","a_digits","inner"] 367,vv "_int2digits" "_int2digits"<|bO 9,vM "_int2digits" "_int2digits" 362 87 2 0 0 3 75 76 (.ref 77) (.ref 78) 79 370 371,wJ "_int2digits" "_int2digits" (bO 9) .none (bV "cpy313._pylong" 289) 80,kV,oK,fS [bV "digits" 376,bV "n" 377],fS<|qI ["digits","n","inner"] 378,vv "_digits2int" "_digits2int"<|bO 10,vM "_digits2int" "_digits2int" 373 103 2 0 0 3 82 83 (.ref 84) (.ref 85) 86 381 382,wJ "_digits2int" "_digits2int" (bO 10) .none (bV "cpy313._pylong" 289) 87]),
(96,fJ "_divmod_pos" (bO 11) 89 384 112 2 3 ["a","b","n","a_digits","r","q_digits","a_digit","q_digit","q"] .none vr),
(103,fJ "int_divmod" (bO 12) 96 399 123 2 3 ["a","b","q","r"] .none vr),
(113,[rY<|q7 [14,4,0,1,1,6,1,16,46,1] 414,u6,fS [.none],fS<|qO [14,4,0,1,1,6,1,16,46,1],fx "re.Pattern" [bV "(?m)^\\." 412,.int 40 425,.int 0 0,.none,.none,.ref 106,.int 0 0],rY<|q7 [14,9,4,1,2,16,10,16,13,0,7,7,16,13,16,10,15,18,5,16,10,15,13,11,16,13,5,5,0,16,10,1,15,2,0,1] 430,u6,fS [.none],fS<|qO [14,9,4,1,2,16,10,16,13,0,7,7,16,13,16,10,15,18,5,16,10,15,13,11,16,13,5,5,0,16,10,1,15,2,0,1],fx "re.Pattern" [bV "(?:\\r\\n|\\n|\\r(?!\\n))" 428,.int 32 467,.int 0 0,.none,.none,.ref 111,.int 0 0]]),
(120,fJ "quotedata" (bO 17) 113 471 138 1 3 ["data"] .none T5),
(131,[rY<|q7 [173,847,6150,6155,6156,6157,8203,8204,8205,8288,65279] 480,fx "range" [.int 65024 491,.int 65040 492,.int 1 493],⟨(.type "list"),aF,(.seq #[(.int 65024 496),(.int 65025 497),(.int 65026 498),(.int 65027 499),(.int 65028 500),(.int 65029 501),(.int 65030 502),(.int 65031 503),(.int 65032 504),(.int 65033 505),(.int 65034 506),(.int 65035 507),(.int 65036 508),(.int 65037 509),(.int 65038 510),(.int 65039 511)] 18), #[]⟩,fx "range_iterator"<|qO [65040,0,1],kV,fx "StopIteration" [.ref 124,.none,.none,.none,.bool aE,.none],rY<|q7 [173,847,6150,6155,6156,6157,8203,8204,8205,8288,65279] 480++q7 [65024,65025,65026,65027,65028,65029,65030,65031,65032,65033,65034,65035,65036,65037,65038,65039] 496,⟨(.type "set"),aF,(.set ([(65024,496),(65025,497),(65026,498),(65027,499),(65028,500),(65029,501),(6150,482),(65030,502),(65031,503),(65032,504),(65033,505),(6155,483),(6156,484),(6157,485),(8203,486),(8204,487),(8205,488),(65034,506),(65035,507),(65036,508),(65037,509),(65038,510),(65039,511),(173,480),(847,481),(8288,489),(65279,490)].map λp:Nat×Nat=>((p.1:Int),QU p.1 p.2)).toArray 29 {mask:=127,place:= #[0,1,2,3,4,5,6,7,8,9,10,11,12,13,14,15,16,17,18,19,20,21,22,45,79,96,127],dummies:= #[],finger:=0,led:= !(P.followText "set-order"),moves:=2,plain:=aB}), #[]⟩,fx "list_iterator" [.none,.int 27 0],kV,fx "StopIteration" [.ref 129,.none,.none,.none,.bool aE,.none]]),
(138,fJ "in_table_b1" (bO 20) 131 540 142 1 3 ["code"] .none LQ),
(177,(bg 39).map λO=>oK),
(184,fJ "map_table_b3" (bO 22) 177 2498 145 1 3 ["code","r"] .none LQ),
(200,[rY<|q7 [14,14,4,1,1,9,0,4227896069,939524097,0,0,0,0,0,0,13,11,9,0,4227896069,939524097,0,0,0,0,0,0,1] 2511,u6,fS [.none],fS<|qO [14,14,4,1,1,9,0,4227896069,939524097,0,0,0,0,0,0,13,11,9,0,4227896069,939524097,0,0,0,0,0,0,1],fx "re.Pattern" [bV "[ \\(\\)<>@,;:\\\\\"/\\[\\]\\?=]" 2509,.int 32 2540,.int 0 0,.none,.none,.ref 187,.int 0 0],rY<|q7 [14,10,4,1,1,22,0,31,16,127,0,13,7,22,0,31,16,127,0,1] 2545,u6,fS [.none],fS<|qO [14,10,4,1,1,22,0,31,16,127,0,13,7,22,0,31,16,127,0,1],fx "re.Pattern" [bV "[\\x00-\\x1F\\x7F]" 2543,.int 32 2566,.int 0 0,.none,.none,.ref 192,.int 0 0],rY<|q7 [14,14,4,1,1,9,4294966783,0,0,2147483648,0,0,0,0,0,13,11,9,4294966783,0,0,2147483648,0,0,0,0,0,1] 2571,u6,fS [.none],fS<|qO [14,14,4,1,1,9,4294966783,0,0,2147483648,0,0,0,0,0,13,11,9,4294966783,0,0,2147483648,0,0,0,0,0,1],fx "re.Pattern" [bV "[\\x00-\\x08\\x0A-\\x1F\\x7F]" 2569,.int 32 2600,.int 0 0,.none,.none,.ref 197,.int 0 0],fS [.none,.int 1 2602]]),
(207,fJ "_formatparam" (bO 27) 200 2603 154 3 3 ["param","value","quote"] (.ref 199) ir),
(215,[kV,fx "builtin_function_or_method" [.builtin "type.__prepare__",.type "type"],pq P [("__module__",2619,bV "cpy313.wsgiref.headers" 2506),("__qualname__",2621,bV "Headers" 2620),("__firstlineno__",2623,.int 163 2622),("__init__",2633,.ref 221),("_convert_string_type",2643,.ref 228),("__len__",2650,.ref 235),("__setitem__",2659,.ref 242),("__delitem__",2665,.ref 247),("__getitem__",2673,.ref 254),("__contains__",2681,.ref 261),("get_all",2687,.ref 266),("get",2698,.ref 274),("keys",2704,.ref 279),("values",2710,.ref 284),("items",2717,.ref 291),("__repr__",2724,.ref 298),("__str__",2730,.ref 303),("__bytes__",2737,.ref 310),("setdefault",2746,.ref 317),("add_header",2759,.ref 324),("__static_attributes__",2761,.ref 325)] 21,kV,v8<|v7 4 [(165,220),(175,227),(183,234),(186,241),(190,246),(194,253),(197,260),(200,265),(204,273),(211,278),(214,283),(217,290),(220,297),(223,302),(226,309),(229,316),(232,323)],fx "code"<|qI ["Headers","Headers","/claim/cut.py"] 2614++qO [163,0,0,0,0]++[.ref 210,.bool aE,.int 276 0,.ref 211,.none,.none,.none,.none,.int 2617 0,.int 163 0,bV "/claim/cut.py" 2618],⟨(.type "frame"),aF,.plain, #[aA<|.ref 212,aA<|.ref 3,aA<|.ref 209,aF,aA<|bV "cpy313.wsgiref.headers" 2506,aF,aA<|.ref 0]⟩,fS [.none]]),
(222,jB "__init__" "Headers.__init__" (dB 28 0) 215 2624 165 2 3 ["self","headers","k","v"] (.ref 214) ir),
(229,[kV,oK,fS<|qI ["self","value","name","regex"] 2637,kV,vv "_convert_string_type" "Headers._convert_string_type"<|dB 28 1,vM "_convert_string_type" "Headers._convert_string_type" 2634 175 2 0 1 3 222 223 (.ref 224) (.ref 225) 226 2641 2642,wJ "_convert_string_type" "Headers._convert_string_type" (dB 28 1) .none (bV "cpy313.wsgiref.headers" 2506) 227]),
(236,jB "__len__" "Headers.__len__" (dB 28 2) 229 2644 183 1 3 ["self"] .none ir),
(243,jB "__setitem__" "Headers.__setitem__" (dB 28 3) 236 2651 186 3 3 ["self","name","val"] .none ir),
(248,jB "__delitem__" "Headers.__delitem__" (dB 28 4) 243 2660 190 2 3 [] .none ir),
(255,jB "__getitem__" "Headers.__getitem__" (dB 28 5) 248 2666 194 2 3 ["self","name"] .none ir),
(262,jB "__contains__" "Headers.__contains__" (dB 28 6) 255 2674 197 2 3 ["self","name"] .none ir),
(267,jB "get_all" "Headers.get_all" (dB 28 7) 262 2682 200 2 3 [] .none ir),
(268,[fS [.none]]),
(275,jB "get" "Headers.get" (dB 28 8) 268 2688 204 3 3 ["self","name","default","k","v"] (.ref 267) ir),
(280,jB "keys" "Headers.keys" (dB 28 9) 275 2699 211 1 3 [] .none ir),
(285,jB "values" "Headers.values" (dB 28 10) 280 2705 214 1 3 [] .none ir),
(292,jB "items" "Headers.items" (dB 28 11) 285 2711 217 1 3 ["self"] .none ir),
(299,jB "__repr__" "Headers.__repr__" (dB 28 12) 292 2718 220 1 3 ["self"] .none ir),
(304,jB "__str__" "Headers.__str__" (dB 28 13) 299 2725 223 1 3 [] .none ir),
(311,jB "__bytes__" "Headers.__bytes__" (dB 28 14) 304 2731 226 1 3 ["self"] .none ir),
(318,jB "setdefault" "Headers.setdefault" (dB 28 15) 311 2738 229 3 3 ["self","name","value"] .none ir),
(325,jB "add_header" "Headers.add_header" (dB 28 16) 318 2747 232 3 11 ["self","_name","_value","_params","parts","k","v"] .none ir),
(332,[fS [bV "_headers" 2760],pq P [("__module__",2619,bV "cpy313.wsgiref.headers" 2506),("__firstlineno__",2623,.int 163 2622),("__init__",2633,.ref 221),("_convert_string_type",2643,.ref 228),("__len__",2650,.ref 235),("__setitem__",2659,.ref 242),("__delitem__",2665,.ref 247),("__getitem__",2673,.ref 254),("__contains__",2681,.ref 261),("get_all",2687,.ref 266),("get",2698,.ref 274),("keys",2704,.ref 279),("values",2710,.ref 284),("items",2717,.ref 291),("__repr__",2724,.ref 298),("__str__",2730,.ref 303),("__bytes__",2737,.ref 310),("setdefault",2746,.ref 317),("add_header",2759,.ref 324),("__static_attributes__",2761,.ref 325),("__dict__",2763,.ref 328),("__weakref__",2765,.ref 329),("__doc__",2766,.none)] 4,⟨(.type "type"),aF,(.cls {name:=(hW "Headers"),bases:=[(.type "object")],mro:=[(.ref 327),(.type "object")],ns:=326,qualname:=(hW "Headers"),hasDict:=aB,slotNames:=[],subclasses:=[],abstract:=aE,collection:=aF,hasDel:=aE}), #[aF,aF,aA<|bV "Headers" 2612,aA<|bV "Headers" 2620,aA<|.builtin "object.__new__",aA<|.bool aB]⟩,fx "getset_descriptor" [bV "__dict__" 2762,.ref 327,.builtin "function.__dict__",.builtin "function.__dict__#set"],fx "getset_descriptor" [bV "__weakref__" 2764,.ref 327,.builtin "ExceptionGroup.__weakref__",.none],fx "super" [.ref 327,.ref 327,.ref 327],fx "builtin_function_or_method" [.builtin "object.__init_subclass__",.ref 327]]),
(337,fJ "_law_cells" (bO 30) 332 2771 246 2 3 [] .none kM),
(344,fJ "_law_letter" (bO 31) 337 2777 248 2 3 ["letter","way","starts"] .none kM),
(351,fJ "_law_hidden" (bO 32) 344 2786 251 1 3 ["way","lone"] .none kM),
(358,fJ "_law_stay" (bO 33) 351 2794 254 1 3 ["way","beside"] .none kM),
(363,fJ "_law_prepared" (bO 34) 358 2802 257 1 3 [] .none kM),
(370,fJ "_law_corners" (bO 35) 363 2808 259 1 3 ["cell","corners"] .none kM),
(375,fJ "_law_book" (bO 36) 370 2816 264 2 3 [] .none kM),
(382,fJ "_law_divided" (bO 37) 375 2822 285 2 3 ["upper","lower","whole","rest"] .none kM),
(387,fJ "_law_counts" (bO 38) 382 2832 290 3 3 [] .none kM),
(392,fJ "_law_bare" (bO 39) 387 2838 312 2 3 [] .none kM),
(397,fJ "_law_found" (bO 40) 392 2844 325 2 3 [] .none kM),
(404,fJ "_law_common" (bO 41) 397 2850 355 2 3 ["one","other"] .none kM),
(409,fJ "_law_multiples" (bO 42) 404 2858 359 3 3 [] .none kM),
(414,fJ "law" (bO 43) 409 2864 376 1 3 [] .none kM)]
noncomputable def nxH (l:List (Nat×List bH)) (i:Nat):Nat->Obj:=l.rec (λO=>oK) λp O f s=>(cP i p.1).rec (f p.1)<|QCh oK p.2<|i - s
noncomputable def ob (i:Nat) (P:bZ):Obj:=nxH (Va P) i 0
noncomputable def CV (n:Nat) (f:Nat->bH):Nat->Nat->Nat->BT:=Nat.rec (λO O=>.nil) λO g a b=>bif cP b n then .node (f b) (g (2*a)<|a+b) (g (2*a)<|2*a+b) else .nil
noncomputable def m_ (P:bZ):Obj:=rQ P (bV "cpy313.stringprep" 478) 24 25
noncomputable def KU (P:bZ):Obj:=v8<|v7 0<|yb.take 11
noncomputable def Rl (P:bZ):Obj:=rQ P (bV "cpy313.stringprep" 478) 25 26
noncomputable def RQ (P:bZ):Obj:=rQ P (bV "cpy313.stringprep" 478) 26 27
noncomputable def JY (P:bZ):Obj:=v8<|v7 0<|yb.take 12
noncomputable def Tc (P:bZ):Obj:=rQ P (bV "cpy313.stringprep" 478) 27 28
noncomputable def Y3 (P:bZ):Obj:=rQ P (bV "cpy313.wsgiref.headers" 2506) 32 33
noncomputable def S5 (P:bZ):Obj:=v8<|v7 0<|yb.take 14
noncomputable def QAG (P:bZ):Obj:=rQ P (bV "cpy313.wsgiref.headers" 2506) 33 34
noncomputable def UJ (P:bZ):Obj:=v8<|v7 0<|yb.take 15
noncomputable def yz (P:bZ):Obj:=rQ P (bV "law_wf0123_02" 2769) 47 48
noncomputable def Um (P:bZ):Obj:=v8<|v7 0<|yb.take 29
noncomputable def FC (P:bZ) (p o:bH) (n:Nat):BT:=CV n (λi=>bif bt i 3 then p else bif bt i 29 then o else ob i P) 10 1 0
noncomputable def Ba (P:bZ) (X:Nat->bH) (p o:bH) (n:Nat):BT:=CV n (λi=>bif bt i 3 then p else bif bt i 29 then o else bif eV 138 i && cP i 177 then X i else ob i P) 10 1 0
noncomputable def tq (P:bZ):BT:=CV 28 (ob · P) 10 1 0
noncomputable def Vk (P:bZ):BT:=CV 32 (ob · P) 10 1 0
noncomputable def Y8 (P:bZ):BT:=FC P (m_ P) (KU P) 120
noncomputable def x_ (P:bZ):BT:=FC P (Rl P) (KU P) 131
noncomputable def su (P:bZ):BT:=FC P (RQ P) (JY P) 138
noncomputable def Yr (P:bZ) (X:Nat->bH):BT:=Ba P X (Tc P) (JY P) 177
noncomputable def Ud (P:bZ) (X:Nat->bH):BT:=Ba P X (Y3 P) (S5 P) 207
noncomputable def Vf (P:bZ) (X:Nat->bH):BT:=Ba P X (QAG P) (UJ P) 332
noncomputable def eI (P:bZ) (X:Nat->bH):BT:=Ba P X (yz P) (Um P) 414
noncomputable def xd (P:bZ) (os:eH):SharedT:=⟨Vk P,32,{}, #[],{},282,os⟩
noncomputable def Ez (P:bZ) (os:eH):SharedT:=⟨Y8 P,120,{}, #[],{},480,os⟩
noncomputable def EL (P:bZ) (os:eH):SharedT:=⟨x_ P,131,{}, #[],{},540,os⟩
noncomputable def rW (P:bZ) (os:eH):SharedT:=⟨su P,138,{}, #[],{},547,os⟩
noncomputable def Ak (P:bZ) (X:Nat->bH) (os:eH):SharedT:=⟨Yr P X,177,{}, #[],{},2498,os⟩
noncomputable def Jj (P:bZ) (X:Nat->bH) (os:eH):SharedT:=⟨Ud P X,207,{}, #[],{},2612,os⟩
noncomputable def LA (P:bZ) (X:Nat->bH) (os:eH):SharedT:=⟨Vf P X,332,{}, #[],{},2769,os⟩
noncomputable def vR (P:bZ) (X:Nat->bH) (os:eH):SharedT:=⟨eI P X,414,{}, #[],{},2870,os⟩
noncomputable def iV:Env:={scope:=pg.main.scope,locals:=lQ,globals:=lQ,cells:=[],code:=.ref 30,frame:=aA 31}
noncomputable def Γ0:Ctx:=⟨.builtin "claim.caller" {},aF,aF,[],aF⟩
noncomputable def Γ1:Ctx:=Γ0.enter (.body (z9 pg) iV) aF default
noncomputable def sl (i n:Nat):List Stmt:=((z9 pg).drop i).take n
noncomputable def rb:BT->Nat->List bH->BT
 |t,_,[]=>t
 |t,n,o::r=>rb (t.ins n o) (n+1) r
noncomputable def Jh (P:bZ):BT:=rb (tq P) 28 [ob 28 P,ob 29 P,ob 30 P]
noncomputable def Xs (X:Nat->bH):List Obj:=(bg 39).map λj=>X<|138+j
noncomputable def Nn (P:bZ) (X:Nat->bH) (os:eH):SharedT:=⟨rb (su P) 138<|Xs X,177,{}, #[],{},2497,os⟩
end B01
namespace B01
theorem pA (w:bx) (os:eH):gh (kE kj) pg w.params 3000 hM Γ1 default (xd w.params os) (fV (sl 0 18) iV)=aA (.ok .next,⟨140,0,140,8⟩,Ez w.params os):=by lia
noncomputable def Mf:Code->ba nQ:=PySem.W.Fast.tw11892475500146522536 PySem.W.Fast.tw14364793385576792824
theorem YF:kE kj=Mf:=congr PySem.W.Fast.te11892475500146522536 PySem.W.Fast.te14364793385576792824
noncomputable def Nq:List cx->cg->ba Flow:=PySem.W.Fast.tw12563942051412417395
theorem QDb:fV=Nq:=PySem.W.Fast.te12563942051412417395
noncomputable def PB (w:bx):Prop:= ∀os:eH,gh Mf pg w.params 5000 hM Γ1 ⟨140,0,140,8⟩ (Ez w.params os) (Nq (sl 18 1) iV)=aA (.ok .next,⟨141,0,141,6⟩,EL w.params os)
section
variable (w:bx)
include w
theorem WQ:PB ((w.withFollow "special-get-raises" aE).withFollow "set-order" aE):=λos=>by lia
theorem QDh:PB ((w.withFollow "special-get-raises" aB).withFollow "set-order" aE):=λos=>by lia
theorem j_:PB ((w.withFollow "special-get-raises" aE).withFollow "set-order" aB):=λos=>by lia
theorem WE:PB ((w.withFollow "special-get-raises" aB).withFollow "set-order" aB):=λos=>by lia
theorem pB (os:eH):gh (kE kj) pg w.params 5000 hM Γ1 ⟨140,0,140,8⟩ (Ez w.params os) (fV (sl 18 1) iV)=aA (.ok .next,⟨141,0,141,6⟩,EL w.params os):=by rw[YF,QDb];exact byRow2 "set-order" (P:=PB) (λw=>byRow2 "special-get-raises" (P:=λw=>PB<|w.withFollow "set-order" aE) WQ QDh w) (λw=>byRow2 "special-get-raises" (P:=λw=>PB<|w.withFollow "set-order" aB) j_ WE w) w os
theorem pC (os:eH):gh (kE kj) pg w.params 3000 hM Γ1 ⟨141,0,141,6⟩ (EL w.params os) (fV (sl 19 1) iV)=aA (.ok .next,⟨142,0,143,30⟩,rW w.params os):=by lia
theorem pD (X:Nat->bH) (os:eH) (p:bP):gh (kE kj) pg w.params 1000 hM Γ1 p (Nn w.params X os) (do sM ⟨144,0,144,13⟩;zr iV "b3_exceptions" (.ref 138);pure .next)=aA (.ok .next,⟨144,0,144,13⟩,Ak w.params X os):=by lia
theorem pE (X:Nat->bH) (os:eH):gh (kE kj) pg w.params 3000 hM Γ1 ⟨144,0,144,13⟩ (Ak w.params X os) (fV (sl 21 6) iV)=aA (.ok .next,⟨154,0,162,20⟩,Jj w.params X os):=by lia
theorem pF (X:Nat->bH) (os:eH):gh (kE kj) pg w.params 5000 hM Γ1 ⟨154,0,162,20⟩ (Jj w.params X os) (fV (sl 27 1) iV)=aA (.ok .next,⟨163,0,244,93⟩,LA w.params X os):=by lia
theorem pG (X:Nat->bH) (os:eH):gh (kE kj) pg w.params 3000 hM Γ1 ⟨163,0,244,93⟩ (LA w.params X os) (fV (sl 28 15) iV)=aA (.ok .next,⟨376,0,391,74⟩,vR w.params X os):=by lia
theorem pM (os:eH):gh (kE kj) pg w.params 1000 aI Γ0 default ⟨tq w.params,28,{}, #[],{},276,os⟩ (QV pg.main)=aA (.ok<|.ref 30,default,⟨Jh w.params,31,{}, #[],{},282,os⟩):=by lia
theorem pN (os:eH):gh (kE kj) pg w.params 1000 aM Γ0 default ⟨Jh w.params,31,{}, #[],{},282,os⟩ (QW (.ref 30) lQ lQ)=aA (.ok 31,default,xd w.params os):=by lia
theorem pK (os:eH):gh (kE kj) pg w.params 1000 Unit Γ1 default (xd w.params os) (QX (z9 pg) iV)=aA (.ok (),default,xd w.params os):=by lia
theorem pO:(fencedOpening kj pg w 40000).map (λs=>(s.heap,s.gens,s.drawn,s.toks))=aA (o6 (tq w.params) 28 {}, #[],{},276):=by lia
end
theorem Ut:b3.length=650:=by lia
theorem Uz:(QY xO iV).zip ((QZ yg iV).map λv=>do let x<-v;sM yh;pure x)=iy yh b3:=by lia
noncomputable def AW:Int->List (Int×fX)->Bool
 |_,[]=>aB
 |a,(k,_)::r=>decide (a<k) && AW k r
theorem Wa:AW 0 b3=true:=by lia
end B01
theorem tM {α:Type}: ∀(l:List (Nat×α)) (k:Nat) (x:α),l.lookup k=aA x->(k,x)∈l:=by
 intro l;induction l with
 |nil=>exact λO O h=>nomatch h
 |cons p l i=>
  exact λk x h=>by
   obtain ⟨a,b⟩:=p;by_cases e:k=a
   ·subst e
    simp only[iK,beq_self_eq_true] at h;cases h;exact .head _
   ·simp only[iK,beq_false_of_ne e] at h
    exact .tail _<|i k x h
theorem Zl {α:Type}: ∀(l:List (Nat×(aG×α))) (k:Nat),(l.map λp=>(p.1,p.2.1)).lookup k=(l.lookup k).map (·.1):=by
 intro O;induction O with
 |nil=>exact λk=>rfl
 |cons O l i=>
  obtain ⟨a,b⟩:=O
  exact λk=>by
   simp! only[gB,iK,iK]
   cases k==a
   ·exact i k
   ·rfl
theorem M4 {α β:Type} {f g:α->β} {l:List α} (h:l.map f=l.map g): ∀x∈l,f x=g x:=QFD.mp h
noncomputable def Oh (c:Fc) (cf:gr) (C:Fc):Bool:=C.ow && cf.scope.names.all (λx=>if x.2==.free then (C.cM x.1==c.cM x.1) && (C.cM x.1).isSome && Bz (C.K x.1) else aB)
theorem Rm (h:Oh Cow cf C=aB):uD Cow cf C:=by refine bI (aD h) λow h=>⟨λx M f=>?_,ow⟩;have:=dR.mp h x M;rw[if_pos (by erw[f];rfl),gn,gn] at this;exact ⟨by simpa -iota using this.1.1,this.1.2,FU this.2⟩
namespace B01
noncomputable def QBo (x:cx):Pos:=x.casesOn (motive_2:=λO=>bP) (λO O O O O O O O O p=>p) (λO O O O O O O O O O=>default) (λO O O O O O O O O O O=>default) (λO O=>default) (λO O=>default) (λO O O=>default) (λO O O O O O O=>default) (λO O O O=>default) (λO O O O O=>default) (λO O O O O=>default) (λO O O O O=>default) (λO O O O=>default) (λO O O O=>default) (λO O O=>default) (λO O O=>default) (λO O O=>default) (λO O O=>default) (λO O O O O=>default) (λO O O O O=>default) (λO O O=>default) (λO O=>default) (λO O O O=>default) (λO O=>default) (λO O=>default) (λO O=>default) (λO=>default) (λO=>default) λO=>default
noncomputable def mw (i j:Nat):Stmt:=zA (fI<|bO i) j
noncomputable def Ej (i j:Nat) (own tab:aM) (qual:aG) (ps:List aG):gr:={nm:= "inner",args:=Kt<|mw i j,body:=fI<|mw i j,scope:=cJ<|mw i j,ps:=ps,pos:=QBo<|mw i j,own:=own,tab:=tab,qual:=qual}
noncomputable def cZ:List Nat:=[19,103,108,120,122,126,184,189,194,48,76,83,139,140,141,142,143,144,145,146,147,148,149,150,151,152,153,154,155,156,157,158,159,160,161,162,163,164,165,166,167,168,169,170,171,172,173,174,175,176]
noncomputable def G (P:bZ) (X:Nat->bH):Heap:=uG (eI P X) 414 cZ
noncomputable def jJ:Addr:=327
noncomputable def Aq:Str:=IJ "_str_to_int_inner" ++ ".<locals>."
noncomputable def AY:Str:=IJ "_int2digits" ++ ".<locals>."
noncomputable def Bn:Str:=IJ "_digits2int" ++ ".<locals>."
noncomputable def Aj:gr:=Ej 4 1 52 48 Aq ["a","b"]
noncomputable def Ay:gr:=Ej 9 1 80 76 AY ["x","L","R"]
noncomputable def yk:gr:=Ej 10 0 87 83 Bn ["L","R"]
theorem SF:(cJ<|bO 4).names.length<=200/\200<=1000000:=⟨bJ (by lia),by decide⟩
theorem Uq:(cJ<|bO 9).names.length<=200/\200<=1000000:=⟨bJ (by lia),by decide⟩
theorem Rk:(cJ<|bO 10).names.length<=200/\200<=1000000:=⟨bJ (by lia),by decide⟩
noncomputable def Jr:Fc:=Fc.fn (cJ<|bO 4).names 200 aB aE (aA (52,Aq)) SF
noncomputable def O0:Fc:=Fc.fn (cJ<|bO 9).names 200 aB aE (aA (80,AY)) Uq
noncomputable def MR:Fc:=Fc.fn (cJ<|bO 10).names 200 aB aE (aA (87,Bn)) Rk
theorem QCj:Jr.bd+200<=1000000/\Aj.scope.names.length<=200:=⟨by decide,bJ<|by lia⟩
theorem Z0:O0.bd+200<=1000000/\Ay.scope.names.length<=200:=⟨by decide,bJ<|by lia⟩
theorem S6:MR.bd+200<=1000000/\yk.scope.names.length<=200:=⟨by decide,bJ<|by lia⟩
noncomputable def tV:List (Nat×(Fc×gr)):=[(0,(Jr,Aj)),(1,(O0,Ay)),(2,(MR,yk))]
noncomputable def cu (f:Nat):Option gr:=(tV.lookup f).map (·.2)
noncomputable def OU (f:Nat) (C:Fc):Prop:= ∃r,tV.lookup f=aA r/\uD r.1 r.2 C
noncomputable def GF (f:Nat) (C:Fc):Bool:=match tV.lookup f with|some r=>Oh r.1 r.2 C|none=>aE
theorem QCz (h:GF f C=aB):OU f C:=by
 unfold GF at h;induction q:tV.lookup f with
 |none=>rw[q] at h;exact bq h
 |some r=>rw[q] at h;exact (ax r q<|Rm h)
noncomputable def Aw (a:aM):aG->Option Value:=λy=>if y= "_headers" then aA (.ref a) else aF
noncomputable def jD:OQ where
 HI X h x a:= ¬ X x/\(∀o d,h.get? x=aA o->o.dict=aA d-> ¬ X d)/\h.Inst x jJ (Aw a)
 kG:=by
  intro X h U p x a H m;obtain ⟨n,N,o,e,c,C,r⟩:=H;refine ⟨(m _ _ e n).2,λB d W u=>?_,o,(m _ _ e n).1,c,C,?_⟩
  ·obtain rfl:=bM ((m _ _ e n).1) W
   rcases r with ⟨r,_⟩|⟨R,r,_,K⟩
   ·exact cb r u
   ·obtain rfl:=bM r u
    exact oh K λb A Y v O=>(m _ _ v<|N _ _ e r).2
  ·rcases r with ⟨r,z⟩|⟨R,r,f,K⟩
   ·exact .inl ⟨r,z⟩
   ·exact .inr<|gc R r f<|K.at λb v=>(m _ _ v<|N _ _ e r).1
noncomputable def nX:List (Nat×(aG×aM)):=[(0,(("add_header" :aG),324)),(1,(("get_all" :aG),266)),(2,(("items" :aG),291)),(9,(("__delitem__" :aG),247)),(10,(("_convert_string_type" :aG),228))]
noncomputable def uL:List (Nat×aG×aM×(bZ->bH)):=[(1,"_str_to_int_inner",53,(ob 53)),(2,"int_from_string",60,(ob 60)),(3,"_div2n1n",67,(ob 67)),(4,"_div3n2n",74,(ob 74)),(5,"_int2digits",81,(ob 81)),(6,"_digits2int",88,(ob 88)),(7,"_divmod_pos",95,(ob 95)),(8,"int_divmod",102,(ob 102)),(9,"quotedata",119,(ob 119)),(10,"in_table_b1",137,(ob 137)),(11,"map_table_b3",183,(ob 183)),(12,"_law_cells",336,(ob 336)),(13,"_law_letter",343,(ob 343)),(14,"_law_hidden",350,(ob 350)),(15,"_law_stay",357,(ob 357)),(17,"_law_prepared",362,(ob 362)),(19,"_law_book",374,(ob 374)),(26,"law",413,(ob 413)),(27,"_law_corners",369,(ob 369)),(28,"_law_divided",381,(ob 381)),(29,"_law_counts",386,(ob 386)),(30,"_law_bare",391,(ob 391)),(31,"_law_found",396,(ob 396)),(32,"_law_common",403,(ob 403)),(33,"_law_multiples",408,(ob 408))]
noncomputable def Gx:List Str:=(bg 34).map λi=>((uL.lookup i).map (·.1)).getD ""
section
variable (w:bx) (X:Nat->bH)
noncomputable def mg:aG->Option Value:=(G w.params X).nsMap nM
noncomputable def D (n:Nat):Wd where
 prog:=pg
 w:=w
 P:=h8 cu jD
 G:=G w.params X
 n:=n
 o:=aU n
 mg:=mg w X
 fns:=Gx
 hm:=λk=>nX.lookup k
 cN:=OU
 hc:=jJ
end
theorem gg {X:Nat->bH} (h:hU (eI P X) 414 cZ a=aA o):(G P X).get? a=aA o:=(sv ..).trans h
section
variable {w:bx}
theorem g3:(G w.params X).get? 3=aA (yz w.params):=gg (by lia)
theorem g0:(G w.params X).get? 0=aA (ob 0 w.params):=gg (by lia)
theorem g2:(G w.params X).get? 2=aA (ob 2 w.params):=gg (by lia)
theorem jc (x:aG):mg w X x=DG (rD<|yz w.params) x:=by refine (?_:(G w.params X).nsMap 3 x=_);unfold Qa;erw[g3];rfl
theorem yq {h:bK} {o:bH} (e:h.get? a=aA o) (k:(match o.data with|.dict es _=>es.all (λe=>match e.key with|.str _ _=>aB|_=>aE)|_=>aE)=aB):h.isNs a=true:=by
 unfold Heap.isNs
 simp! only[e]
 exact k
theorem mr:Gl (G w.params X) (mg w X) where
 g:=.of_isNs (yq g3<|by lia)
 b:=.of_isNs (yq g0<|by lia)
 bo:=λx M=>Heap.of_bltView (yq g0<|by lia) (by
  delta Heap.bltView Heap.nsPairs;erw[(g0:(G w.params X).get? ic=aA (ob 0 w.params))]
  lia) x M
 lim:=(ax _ (.of_isNs<|yq g2<|by lia) (by
  delta Qa;erw[(g2:(G w.params X).get? cStatics=aA (ob 2 w.params))]
  lia))
theorem xc: ∀x∈AK,mg w X x=none:=λx M=>(jc x).trans (M4 (l:=AK) (f:=DG<|rD<|yz w.params) (g:=λO=>aF) (by lia) x M)
theorem wH:(D w X n).G.NoLimit:=mr.lim
theorem EA: ∀r∈uL,Gx[r.1]?=aA r.2.1/\(D w X n).mg r.2.1=aA (.ref r.2.2.1)/\(D w X n).G.get? r.2.2.1=aA (r.2.2.2 w.params)/\(r.2.2.2 w.params).data=.func (dH<|r.2.2.2 w.params):=λr R=>by
 have:=M4 (l:=uL) (f:=λr=>(Gx[r.1]?,DG (rD<|yz w.params) r.2.1,hU (eI w.params X) 414 cZ r.2.2.1,(r.2.2.2 w.params).data)) (g:=λr=>(aA r.2.1,aA<|.ref r.2.2.1,aA<|r.2.2.2 w.params,.func<|dH<|r.2.2.2 w.params)) (by lia) r R
 simp! only[sR] at this
 exact (kr this.1 ((jc (w:=w) (X:=X) _).trans this.2.1) (gg this.2.2.1) this.2.2.2)
noncomputable def ci:Ci where
 fns:=uL.map λr=>(r.1,r.2.1)
 hm:=nX.map λr=>(r.1,r.2.1)
 cN:=GF
 uy _ _ _ _:=aE
theorem nW [H:cz (D w X n)] [R:kq (D w X n)]:cG ci (D w X n) where
 H:=H
 R:=R
 fns f nm h:=by refine aS (ij.mp<|tM _ _ _ h) λr K e=>jy (EA (w:=w) (X:=X) (n:=n) r K) λW B b Y=>?_;clear h K;cases e;exact ⟨W,_,_,_,B,b,Y⟩
 hm k nm h:=by
  have h:(nX.map λr=>(r.1,r.2.1)).lookup k=aA nm:=h
  simp! only[Zl] at h
  exact aS (lL.mp h) λp e e2=>⟨p.2,by refine (?_:nX.lookup k=_);(erw[e];exact cv e2 rfl)⟩
 cN f C h:=QCz h
 uy f i C s h:=by contradiction
end
end B01
noncomputable def CJ {α:Type} (P:α->Prop):List α->Prop
 |[]=>True
 |a::l=>P a/\CJ P l
theorem Oq {α:Type} {P:α->Prop}: ∀{l:List α},CJ P l-> ∀x∈l,P x:=by
 intro l;induction l with
 |nil=>exact λO x M=>nomatch M
 |cons a l i=>exact λh x M=>(bp.mp M).elim (λe=>e▸h.1)<|i h.2 x
noncomputable def rJ (C:Fc) (names:List (aG×dQ)) (ps:List aG) (k:Nat):Bool:=decide ((names.map (·.1)).Nodup) && iz (cw C) ps (bg k)
theorem xT {k:Nat} (h:rJ C names ps k=aB):(names.map (·.1)).Nodup/\nz C ps (bg k):=⟨d5 (aD h).1,mf .nil (λx xs i is h g=>.cons (fm h) g) (aD h).2⟩
namespace B01
theorem dJ {names:List (aG×dQ)} (h:eV names.length 200=aB):names.length<=200/\200<=1000000:=⟨bJ h,by decide⟩
section
variable[H:cz (D w X n)] [R:kq (D w X n)] {hn:Bool}
theorem Bm (h:ti (eI w.params X) 414 cZ a c tk o oc (fI s) (cJ s).names) (i: ∀C q,cd=aA (C,q)->(dH o).code=.ref C/\(dH o).qualname++ ".<locals>." =q) (Q: ∀us,us.length=ps.length->nO (dH o) ⟨us,[]⟩=pure (ps.zip us)) (f:eV (cJ s).names.length 200=aB)
 (H:rJ (Fc.fn (cJ s).names 200 aB hn cd<|dJ f) (cJ s).names ps k=aB) (B:jT (D w X n) (Fc.fn (cJ s).names 200 aB hn cd<|dJ f) (fI s) (b.map SW.w)) (e:lg (aU n) k b xs d):nZ (D w X<|n+1) a xs d:=
 have q:=xT H
 e.2.elim λP E=>MW (D:=D w X n) (o':=aU<|n+1) (P:=P) ⟨q.2,B,rfl⟩ wH (x6 h i Q) q.1 (((q.2.tU (D:=D w X n)).1.trans wu).trans e.1.symm) E
theorem UA (H:ti (eI w.params X) 414 cZ a c tk o oc (fI s) (cJ s).names) (Q: ∀us,us.length=ps.length->nO (dH o) ⟨us,[]⟩=pure (ps.zip us)) (q:eV (cJ s).names.length 200=aB)
 (h:(rJ (Fc.fn (cJ s).names 200 aB hn aF<|dJ q) (cJ s).names ps k && kA ci (Fc.fn (cJ s).names 200 aB hn aF<|dJ q) b (fI s))=aB) (e:lg (aU n) k b xs d):nZ (D w X<|n+1) a xs d:=
 Bm H (λO O e=>by exact ay e) Q q (aD h).1 (lV nW (aD h).2) e
end
theorem QDm: ∃b o,(D w X n).mg "__builtins__" =aA (.ref b)/\b≠ic/\(D w X n).G.get? b=aA o/\o.cls=.type "module" /\o.dict=aA ic/\o.data=.plain:=(sa 4 (ob 4 w.params) ((jc (w:=w) (X:=X) "__builtins__").trans<|by lia) (by decide) (gg<|by lia) rfl rfl rfl)
theorem SJ: ∀f g cf c,cu f=aA cf->cu g=aA c->c.tab=cf.tab->c=cf:=λf g cf c x n t=>by refine aS (lL.mp x) λp u e=>?_;clear x;subst e;refine aS (lL.mp n) λq z e=>?_;clear n;subst e;have h:=tM _ _ _ u;have H:=tM _ _ _ z;simp only[tV,bp,gU,or_false,sR] at h H;clear u z;rcases h with ⟨-,rfl⟩|⟨-,rfl⟩|⟨-,rfl⟩<;>rcases H with ⟨-,rfl⟩|⟨-,rfl⟩|⟨-,rfl⟩<;>first|rfl|exact absurd t (by decide)
noncomputable def Uv (C:Fc) (cf:gr) (i:Nat):Bool:=(C.cd==aA (cf.own,cf.qual)) && (cw C cf.nm i && cf.scope.names.all λx=>if x.2==.free then (C.cM x.1).isSome && Bz (C.K x.1) else aB)
theorem EV [H:cz (D w X n)] (r:cu f=aA cf) (h:Uv C cf i=aB) (A:(cf.args.kwonlyargs,cf.args.kw_defaults,cf.args.defaults,docOf cf.body)=([],[],[],aF)) (m: ∀env,annTrees cf.args aF env=[])
 (Q: ∀fd,fd.params=cf.args->fd.defaults=.none->fd.kwdefaults=.none-> ∀us,us.length=cf.ps.length->nO fd ⟨us,[]⟩=pure (cf.ps.zip us)) (b:s=.FunctionDef cf.nm cf.args cf.body [] aF [] cf.scope aF cf.nm cf.pos):bY (D w X n) C s (.defn i f):=by
 subst b;simp only[sR] at A;refine Vt rfl r (λg c e t=>SJ f g cf c r e t) QDm (QGy.mp (aD h).1) (fm (aD (aD h).2).1) A.1 A.2.1 A.2.2.1 m A.2.2.2 (λx M F=>?_) Q;have:=dR.mp (aD (aD h).2).2 x M;rw[if_pos (by erw[F];rfl)] at this;exact ⟨(aD this).1,FU (aD this).2⟩
section
variable[cz<|D w X n] [kq<|D w X n]
theorem RX {h0}:jT (D w X n) (Fc.fn (cJ<|bO 4).names 200 aB aE (aA (52,Aq)) h0) (fI<|bO 4) (By.map SW.w):=ta (SW.snd (By.getD 0 .stuck) nW<|by lia) (ta (EV rfl (by lia) (by lia) (λO=>by lia) (λf h i H=>i6 λu v=>by unfold nO;(erw[h];erw[i];erw[H]);lia) (by lia))<|lV nW<|by lia)
theorem Rh {h0}:jT (D w X n) (Fc.fn (cJ<|bO 9).names 200 aB aE (aA (80,AY)) h0) (fI<|bO 9) (yx.map SW.w):=ta (SW.snd (yx.getD 0 .stuck) nW<|by lia) (ta (EV rfl (by lia) (by lia) (λO=>by lia) (λf h i H=>x8 λu v z=>by unfold nO;(erw[h];erw[i];erw[H]);lia) (by lia))<|lV nW<|by lia)
theorem sb2 {h0}:jT (D w X n) (Fc.fn (cJ<|bO 10).names 200 aB aE (aA (87,Bn)) h0) (fI<|bO 10) (CN.map SW.w):=ta (EV rfl (by lia) (by lia) (λO=>by lia) (λf h i H=>i6 λu v=>by unfold nO;(erw[h];erw[i];erw[H]);lia) (by lia)) (lV nW<|by lia)
end
theorem gb [cz<|D w X n] [kq<|D w X n] {p:Nat×Nat×List SW} (i:Nat) (s:cx) (ps:List aG) (c tk:Nat) (H: ∀us,us.length=ps.length->nO (dH<|ob (c+1) w.params) ⟨us,[]⟩=pure (ps.zip us)) (hn:Bool:=aE) (e1:uL[i]?=aA r:=by rfl) (e2:r.1=p.1:=by rfl) (A:ti (eI w.params X) 414 cZ r.2.2.1 c tk (ob (c+1) w.params) (ob c w.params) (fI s) (cJ s).names:=by lia)
 (h:eV (cJ s).names.length 200=true:=by lia) (b:(rJ (Fc.fn (cJ s).names 200 aB hn aF<|dJ h) (cJ s).names ps p.2.1 && kA ci (Fc.fn (cJ s).names 200 aB hn aF<|dJ h) p.2.2 (fI s))=true:=by lia):
 ∃(i:Nat) (r:Nat×aG×aM×(bZ->bH)),uL[i]?=aA r/\r.1=p.1/\ ∀xs d,lg (aU n) p.2.1 p.2.2 xs d->nZ (D w X<|n+1) r.2.2.1 xs d:=
 (dA i r e1 e2 λO O=>UA A H h b)
theorem Y5 [cz<|D w X n] [kq<|D w X n]:CJ (λp=> ∃(i:Nat) (r:Nat×aG×aM×(bZ->bH)),uL[i]?=aA r/\r.1=p.1/\ ∀xs d,lg (aU n) p.2.1 p.2.2 xs d->nZ (D w X<|n+1) r.2.2.1 xs d) Eu:=
 ⟨(dA 0 _ rfl rfl (λxs d=>Bm (s:=bO 4) (hn:=aE) (cd:=aA (52,Aq)) (ps:=["s"]) (o:=ob 53 w.params) (oc:=ob 52 w.params) (c:=52) (tk:=312) (by lia) (λc' q e=>by cases e;exact ⟨by lia,by lia⟩) (lI λO=>by lia) (by lia) (by lia) RX)),
  gb 1 (bO 5) ["s"] 59 323 (lI λO=>by lia),
  gb 2 (bO 7) ["a","b","n"] 66 332 (x8 λO O O=>by lia),
  gb 3 (bO 8) ["a12","a3","b","b1","b2","n"] 73 349 (Li λO O O O O O=>by lia),
  (dA 4 _ rfl rfl (λxs d=>Bm (s:=bO 9) (hn:=aE) (cd:=aA (80,AY)) (ps:=["a","n"]) (o:=ob 81 w.params) (oc:=ob 80 w.params) (c:=80) (tk:=363) (by lia) (λc' q e=>by cases e;exact ⟨by lia,by lia⟩) (i6 λO O=>by lia) (by lia) (by lia) Rh)),
  (dA 5 _ rfl rfl (λxs d=>Bm (s:=bO 10) (hn:=aE) (cd:=aA (87,Bn)) (ps:=["digits","n"]) (o:=ob 88 w.params) (oc:=ob 87 w.params) (c:=87) (tk:=374) (by lia) (λc' q e=>by cases e;exact ⟨by lia,by lia⟩) (i6 λO O=>by lia) (by lia) (by lia) sb2)),
  gb 6 (bO 11) ["a","b"] 94 385 (i6 λO O=>by lia),
  gb 7 (bO 12) ["a","b"] 101 400 (i6 λO O=>by lia),
  gb 9 (bO 20) ["code"] 136 541 (lI λO=>by lia),
  gb 10 (bO 22) ["code"] 182 2499 (lI λO=>by lia),
  gb 11 (bO 30) ["script","first"] 335 2772 (i6 λO O=>by lia),
  gb 12 (bO 31) ["letter","way"] 342 2778 (i6 λO O=>by lia),
  gb 13 (bO 32) ["way"] 349 2787 (lI λO=>by lia),
  gb 14 (bO 33) ["way"] 356 2795 (lI λO=>by lia),
  gb 15 (bO 34) ["text"] 361 2803 (lI λO=>by lia),
  gb 16 (bO 36) ["corners","cell"] 373 2817 (i6 λO O=>by lia) aB,
  gb 17 (bO 43) ["script"] 412 2865 (lI λO=>by lia),
  gb 18 (bO 35) ["cell"] 368 2809 (lI λO=>by lia),
  gb 19 (bO 37) ["upper","lower"] 380 2823 (i6 λO O=>by lia),
  gb 20 (bO 38) ["corners","low","cell"] 385 2833 (x8 λO O O=>by lia),
  gb 21 (bO 39) ["corners","x"] 390 2839 (i6 λO O=>by lia),
  gb 22 (bO 40) ["corners","cell"] 395 2845 (i6 λO O=>by lia),
  gb 23 (bO 41) ["one","other"] 402 2851 (i6 λO O=>by lia),
  gb 24 (bO 42) ["around","within","cell"] 407 2859 (x8 λO O O=>by lia),trivial⟩
end B01
theorem Lr: ∀d a e,uH t d=aA (a,e)->d<=a/\a<e/\e<=t.size:=λd a e h=>by
 refine aS (lL.mp h) λp A i=>?_;clear h;cases i;refine eJ (xW A) λH b r=>?_;have:cP a t.size=true:=by unfold lA at H;rw[gn] at H;exact H.2
 exact ⟨b,uZ _,bJ this⟩
theorem QAB (t:Array Nat) (a:Nat):(pb t a=a+2/\cP (a+1) t.size=aB)\/pb t a=a+1:=by
 unfold pb
 split
 ·rename_i q
  simp only[gn,gn] at q;exact .inl ⟨rfl,q.2.1⟩
 ·exact .inr rfl
theorem ON: ∀d a e,rN t d=aA (a,e)->d<=a/\a<e/\e<=t.size:=λd a e h=>by
 refine aS (lL.mp h) λp A i=>?_;clear h;cases i;refine eJ (xW A) λH b r=>?_;have P:=bJ (by unfold iE at H;rw[gn] at H;exact H.1:cP a t.size=aB);rcases QAB t a with ⟨e1,e2⟩|e1
 ·have:=bJ e2
  exact sb e1<|⟨b,by simp+arith,this⟩
 ·exact sb e1<|⟨b,by exact Nat.lt_succ_self _,P⟩
set_option tactic.hygienic true in
theorem YZ {nx:Nat->Option (Nat×Nat)} {rep:aG} (r:rep.length=2) (P: ∀d a e,nx d=aA (a,e)->d<=a/\a<e/\e<=t.size): ∀k d,d<=t.size->((gz nx rep t k d).map (·.length)).sum<=2*(t.size - d):=by
 intro O;induction O with
 |zero=>exact λd O=>hJ _
 |succ k z=>
  exact λd Y=>by
   induction h:nx d with
   |some p=>
    obtain ⟨a,e⟩:=p;refine sb (Bo h)<|eJ (P d a e h) λA i H=>?_;have z:=z e H;simp only[gp,List.sum_append,gB,Qb,r]
    have:((if d<a then [(⟨t.extract d a⟩:aG)] else []).map (·.length)).sum<=a - d:=by
     by_cases q:d<a
     ·rw[if_pos q]
      simp only[gB,jk,Qb,QFE];refine (?_:(t.extract d a).size+0<=_);exact sb uR<|(bD (na (nL<|sE ((bD q<|nR<|Nat.min_eq_left ((bD i H):a<=t.size)):d<=min a t.size))<|nL<|Nat.min_eq_left ((bD i H):a<=t.size))<|nR<|sE ((aQ q):d<=a))
     ·rw[if_neg q]
      exact hJ _
    exact (bD (na (na (na (na (na (na this z)<|nL<|sE (A:d<=a))<|gC 2<|nL<|sE (H:e<=t.size)) i)<|gC 2<|nR<|sE (Y:d<=t.size)) A) i)
   |none=>
    erw[BV h];by_cases q:d<t.size
    ·rw[if_pos q]
     simp only[gB,jk,Qb,QFE];refine (?_:(t.extract d t.size).size+0<=_);exact sb uR<|(Nat.min_self t.size).symm▸Nat.le_mul_of_pos_left _ (by decide)
    ·rw[if_neg q]
     exact hJ _
theorem Su {nx:Nat->Option (Nat×Nat)} {rep:aG} (r:rep.length=2) (p: ∀d a e,nx d=aA (a,e)->d<=a/\a<e/\e<=t.size) (Z:t.size<=400000):nS ⟨#[]⟩ (gz nx rep t (t.size+1) 0)=true:=by refine joinOk_of ?_;have:=YZ r p (t.size+1) 0<|hJ _;have b:(⟨#[]⟩:aG).length=0:=rfl;simp only[b];exact (bD (na this (gC 2<|nL<|sE ((by simp+arith):0<=t.size)))<|gC 2 Z)
theorem Y2 (t:Array Nat): ∀d,d<=t.size->oN (5*(t.size+1)) (kh C1 t 0 d t.size aE) (uH t d):=λd Y=>QBa t d Y
theorem XY (t:Array Nat): ∀d,d<=t.size->oN 21 (kh C2 t 0 d t.size aE) (rN t d):=λd Y=>QCw t d Y
noncomputable def G5 (g:aG->aG) (rep:aG) (a b:E):E:=λo l K=>lW [a,b] o l λv L=> ∃x:aG,v=[.d<|.str rep,.d<|.str x]/\x.cps.size<=400000/\K (.d<|.str<|g x) L
section
theorem NX [H:cz D] {b:Nat->Nat} {nx:Array Nat->Nat->Option (Nat×Nat)} {rep:aG} {np j:bP} (f:mq C nm) (hm:D.mg nm=aA (.ref p)) (P:gI D.G p U) (M:MC (.Name nm np) "sub" j pos xs) (hb: ∀n,n<=400000->b n<=4*2^64) (r:rep.cps.contains 92=aE) (R:rep.length=2)
 (N: ∀t d,d<=t.size->oN (b t.size) (kh U t 0 d t.size aE) (nx t d)) (B: ∀t d a e,nx t d=aA (a,e)->d<=a/\a<e/\e<=t.size) (q:fb D C xs [a,c]):
 aZ D C (.Call (.Attribute (.Name nm np) "sub" j) xs [] pos) (G5 (λx=>qT<|gz (nx x.cps) rep x.cps (x.cps.size+1) 0) rep a c):=λh=>⟨λ{X z Q Er} K k=>by
 refine wj (M.base X.env) (M.qP X.env) M.line<|qb K f hm ?_;have u:=P.keeps K.F.base;have W: ∀A,wQ p=.ref A-> ∃ob,z.s.heap.get? A=aA ob/\ob.dict=none:=λA e=>by refine cy u.own λo a O c=>?_;cases e;exact (ax o a c)
 refine (sa ("re.Pattern") ("re.Pattern.sub") MY K9 TY u.typeIs W<|we (M.pl X.env)<|gN (M.pl X.env)<|(q h).run K λvs l1 g us z1 v i q1=>?_);obtain ⟨x,rfl,Z,g⟩:=g;cases q1 with
 |cons q1 q2=>
  cases q2 with
  |cons q2 L=>
   cases L
   exact aV (Rd.dK q1) λY m=>sb m<|aV (Rd.dK q2) λl m=>sb m<|wpAny_toks<|Vd (hb _ Z) Z r (N _) (B _) (P.keeps v.F.base) (Su R (B _) Z) λh3 t' tk kk=>((k _ _ g).tr i).new v (.all kk)<|Rd.str _ _⟩
theorem QCf [H:cz D] (o:mq C nm) (m:D.mg nm=aA (.str i t)):aZ D C (.Name nm pos) (.str i):= @λO O h=>⟨λK k=>qb K o m<|(k _ _ h).id K<|Rd.str _ _⟩
end
namespace B01
variable {w:bx} {X:Nat->bH} {n:Nat}
noncomputable def BA (o:bH):Array Value:=match o.data with|.seq x _=>x|_=> #[]
theorem RP:gI (G w.params X) 107 C1:=⟨ob 107 w.params,106,ob 106 w.params,kH<|ob 107 w.params,BA<|ob 106 w.params,0,gg (by lia),rfl,rfl,rfl,by lia,by lia,by lia,gg (by lia),rfl,by lia⟩
theorem Ve:gI (G w.params X) 112 C2:=⟨ob 112 w.params,111,ob 111 w.params,kH<|ob 112 w.params,BA<|ob 111 w.params,0,gg (by lia),rfl,rfl,rfl,by lia,by lia,by lia,gg (by lia),rfl,by lia⟩
noncomputable def VD:List S:=[.ret<|aA<|G5 q1 yJ (.str yJ)<|G5 q2 yT (.str yT)<|.aC 0]
theorem QBb [cz<|D w X n] {h0}:jT (D w X n) (Fc.fn (cJ<|bO 17).names 200 aB aE aF h0) (fI<|bO 17) VD:=by
 refine ta ?_ LO
 with_reducible refine Jg ?_
 refine NX (b:=λn=>5*(n+1)) (nx:=uH) (rep:=yJ) (oC<|by lia) ((jc (w:=w) (X:=X) "_twin_re_1").trans<|by lia) RP ⟨λO=>rfl,λO=>rfl,rfl⟩ (λn h=>by exact (aQ<|gC 5 h)) (by decide+kernel) rfl Y2 (λO=>Lr) (xS (λO=>rfl) Mt<|xS (λO=>rfl) ?_ Dn);exact NX (b:=λn=>21) (nx:=rN) (rep:=yT) (oC<|by lia) ((jc (w:=w) (X:=X) "_twin_re_2").trans<|by lia) Ve ⟨λO=>rfl,λO=>rfl,rfl⟩ (λn h=>by decide) (by decide+kernel) rfl XY (λO=>ON) (xS (λO=>rfl) (QCf (t:=469) (oC<|by lia)<|(jc (w:=w) (X:=X) "CRLF").trans<|by lia)<|xS (λO=>rfl) (sz<|jS<|by lia) Dn)
theorem WL [cz<|D w X n] {a k:Nat} (f:qU (G w.params X) a (fI s) (cJ s).names cd ps []) (h:rJ (Fc.fn (cJ s).names 200 aB hn cd hb) (cJ s).names ps k=aB) (B:jT (D w X n) (Fc.fn (cJ s).names 200 aB hn cd hb) (fI s) bs) (hl:xs.length=k) (e:sW bs (aU n) (jG (bg k) (xs.map .val) []) (Gz d)):nZ (D w X<|n+1) a xs d:=
 have q:=xT h
 MW (D:=D w X n) (o':=aU<|n+1) (P:=[]) ⟨q.2,B,rfl⟩ wH f q.1 (((q.2.tU (D:=D w X n)).1.trans wu).trans hl.symm) e
theorem UU [cz<|D w X n] (h:x.cps.size<=400000) (H:(q2 x).cps.size<=400000):nZ (D w X<|n+1) 119 [.str x] (.str<|q1<|q2 x):=by intro A s Y us Q E;exact WL (w:=w) (X:=X) (n:=n) (k:=1) (a:=119) (xs:=[.str x]) (d:=.str<|q1<|q2 x) (s:=bO 17) (ps:=["data"]) (cd:=aF) (hn:=aE) (hb:=dJ<|by lia) (x6 (o:=ob 119 w.params) (oc:=ob 118 w.params) (c:=118) (tk:=472) (by lia) (λO O e=>by exact ay e)<|lI λO=>by lia) (by lia) QBb rfl (⟨x,rfl,h,q2 x,rfl,H,.mk .d .ret⟩)
section
variable[H:cz (D w X n)] [R:kq (D w X n)] {a c tk k:Nat} {o oc:bH} {s:cx} {ps:List aG} {b:List SW} {xs hs hs':List aK} {d:aK} {ex:List aI} {exs:List Sl}
theorem Za (P: ∀{Ob z},eT (D w X n) Ob z ex exs) (f:qU (G w.params X) a (fI s) (cJ s).names aF ps ex) (h0:eV (cJ s).names.length 200=aB)
 (h:(rJ (Fc.fn (cJ s).names 200 aB aE aF<|dJ h0) (cJ s).names ps k && kA ci (Fc.fn (cJ s).names 200 aB aE aF<|dJ h0) b (fI s))=aB) (e:u5 (aU n) k exs b xs hs d hs'):qx (D w X<|n+1) a xs hs d hs':=
 have q:=xT (aD h).1
 QCZ (D:=D w X n) (o':=aU<|n+1) ⟨q.2,lV nW (aD h).2,rfl⟩ wH P f q.1 (((q.2.tU (D:=D w X n)).1.trans wu).trans e.1.symm) e.2
theorem I1 (P: ∀{Ob z},eT (D w X n) Ob z ex exs) (f:qU (G w.params X) a (fI s) (cJ s).names aF ps ex) (h0:eV (cJ s).names.length 200=aB)
 (h:(rJ (Fc.fn (cJ s).names 200 aB aE aF<|dJ h0) (cJ s).names ps k && kA ci (Fc.fn (cJ s).names 200 aB aE aF<|dJ h0) b (fI s))=aB) (e:tC (aU n) k exs b xs hs d):ra (D w X<|n+1) a xs hs d:=
 have q:=xT (aD h).1
 Yq (D:=D w X n) (o':=aU<|n+1) ⟨q.2,lV nW (aD h).2,rfl⟩ wH P f q.1 (((q.2.tU (D:=D w X n)).1.trans wu).trans e.1.symm) e.2
theorem R6 (e:u5 (aU n) 2 [] Et xs hs d hs'):qx (D w X<|n+1) 247 xs hs d hs':=Za (s:=dB 28 4) (ps:=["self","name"]) .nil (x6 (o:=ob 247 w.params) (oc:=ob 246 w.params) (c:=246) (tk:=2661) (by lia) (λO O e=>by exact ay e)<|i6 λO O=>by lia) (by lia) (by lia) e
theorem UL (e:tC (aU n) 2 [] DW xs hs d):ra (D w X<|n+1) 266 xs hs d:=I1 (s:=dB 28 7) (ps:=["self","name"]) .nil (x6 (o:=ob 266 w.params) (oc:=ob 265 w.params) (c:=265) (tk:=2683) (by lia) (λO O e=>by exact ay e)<|i6 λO O=>by lia) (by lia) (by lia) e
theorem JB (e:tC (aU n) 1 [] Bb xs hs d):ra (D w X<|n+1) 291 xs hs d:=I1 (s:=dB 28 11) (ps:=["self"]) .nil (x6 (o:=ob 291 w.params) (oc:=ob 290 w.params) (c:=290) (tk:=2712) (by lia) (λO O e=>by exact ay e)<|lI λO=>by lia) (by lia) (by lia) e
end
end B01
namespace B01
variable {w:bx} {X:Nat->bH} {n:Nat}
theorem qw:(G w.params X).get? jJ=aA (excClassObj "Headers" "Headers" jJ 326 [.type "object"] [.type "object"] aB [] [] aE aF aF aF aF (aA<|.str (IK "Headers") 2612) (aA<|.str (IK "Headers") 2620) (aA<|.bool aB) "object.__new__"):=gg (by lia)
theorem JE:(G w.params X).get? 326=aA (ob 326 w.params):=gg (by lia)
noncomputable def mN (w:bx) (X:Nat->bH):aG->Option Value:=(G w.params X).nsMap 326
theorem kQ (x:aG):mN w X x=DG (rD<|ob 326 w.params) x:=by delta mN Qa;erw[JE];rfl
theorem yC:(G w.params X).Ns 326 (mN w X):=.of_isNs (yq JE<|by lia)
theorem Rx {E:aI->aN->Prop} (B: ∀b o,(D w X n).G.get? b=aA o->s.heap.get? b=aA o) (I:(D w X n).P.HI Y s.heap x a) (k: ∀tk,Q (.ref a) {s with toks:=tk}):aO (aY pg w) A (getAttr (.ref x) "_headers" aB) Q E s:=by have I:=I.2.2;obtain ⟨h,g,d,t,os⟩:=s;exact load_attr (B _ _ qw) (yC.keeps B) ((kQ _).trans<|by lia) ((kQ _).trans<|by lia) (by ac_nf) I (QGx rfl) rfl (k _)
theorem uw {of:bH} {y:Option aI} {pl:ba Bool} {E:aI->aN->Prop} (B: ∀b o,(D w X n).G.get? b=aA o->s.heap.get? b=aA o) (I:(D w X n).P.HI Y s.heap x a)
 (r:mN w X nm=aA (.ref f)) (q:(G w.params X).get? f=aA of) (F:of.cls=.type "function") (C:QM (.type "object") nm=pure y) (N:nm≠ "_headers") (k:Q (.ref f,[.ref x]) s):aO (aY pg w) A (Cr (.ref x) nm pl) Q E s:=by
 have I:=I.2.2;obtain ⟨h,g,d,t,os⟩:=s;exact method_of (B _ _ qw) (yC.keeps B) ((kQ _).trans<|by lia) ((kQ _).trans<|by lia) r (B _ _ q) F C I (QGw N) k
noncomputable def ZC (w:bx) (X:Nat->bH) (n:Nat) (p:Nat×aG×aM):Prop:=p.1<20-> ∀{A:cV} {s:aN} {Y:aM->Prop} {x a:aM} {j:ba Bool} {Q:aI×List aI->aN->Prop} {E:aI->aN->Prop},(∀b o,(D w X n).G.get? b=aA o->s.heap.get? b=aA o)->(D w X n).P.HI Y s.heap x a->Q (.ref p.2.2,[.ref x]) s->aO (aY pg w) A (Cr (.ref x) p.2.1 j) Q E s
theorem Vo:CJ (ZC w X n) nX:=
 ⟨@λO A s Y x a pl Q E base I q=>uw (of:=ob 324 w.params) base I ((kQ _).trans<|by lia) (gg<|by lia) rfl (y:=aF) (by ac_nf) (by decide) q,
  @λO A s Y x a pl Q E base I q=>uw (of:=ob 266 w.params) base I ((kQ _).trans<|by lia) (gg<|by lia) rfl (y:=aF) (by ac_nf) (by decide) q,
  @λO A s Y x a pl Q E base I q=>uw (of:=ob 291 w.params) base I ((kQ _).trans<|by lia) (gg<|by lia) rfl (y:=aF) (by ac_nf) (by decide) q,
  @λO A s Y x a pl Q E base I q=>uw (of:=ob 247 w.params) base I ((kQ _).trans<|by lia) (gg<|by lia) rfl (y:=aF) (by ac_nf) (by decide) q,
  @λO A s Y x a pl Q E base I q=>uw (of:=ob 228 w.params) base I ((kQ _).trans<|by lia) (gg<|by lia) rfl (y:=aF) (by ac_nf) (by decide) q,
  trivial⟩
theorem QCu: ∀k nm f,(D w X n).hm k=aA (nm,f)->k<20-> ∀{A:cV} {s:aN} {Y:aM->Prop} {x a:aM} {pl:ba Bool} {Q:aI×List aI->aN->Prop} {E:aI->aN->Prop},(∀b o,(D w X n).G.get? b=aA o->s.heap.get? b=aA o)->(D w X n).P.HI Y s.heap x a->Q (.ref f,[.ref x]) s->aO (aY pg w) A (Cr (.ref x) nm pl) Q E s:=by intro k nm f e K A s Y x a pl Q E B I q;exact Oq (Vo) _ (tM nX k (nm,f) e) K B I q
theorem QCp: ∀k nm f,(D w X n).hm k=aA (nm,f)-> ∃o fd,(D w X n).G.get? f=aA o/\o.data=.func fd:=by
 intro k nm f e;have u:=e
 have m:(k,(nm,f))∈nX:=by
  have: ∀(l:List (Nat×(aG×aM))),l.lookup k=aA (nm,f)->(k,(nm,f))∈l:=by
   intro l;induction l with
   |nil=>intro h;exact ay h
   |cons p l i=>
    intro h;obtain ⟨P,F⟩:=p
    simp! only[iK] at h
    split at h
    ·rename_i q
     clear e;cases h
     simp! only[QGy] at q
     subst q;exact .head _
    ·exact .tail _<|i h
  exact this _ u
 unfold nX at m
 simp! only[bp,gU,or_false,sR] at m
 clear e u;rcases m with ⟨_,_,rfl⟩|⟨_,_,rfl⟩|⟨_,_,rfl⟩|⟨_,_,rfl⟩|⟨_,_,rfl⟩
 ·exact (fD (ob 324 w.params) (dH<|ob 324 w.params) (gg<|by lia)<|by lia)
 ·exact (fD (ob 266 w.params) (dH<|ob 266 w.params) (gg<|by lia)<|by lia)
 ·exact (fD (ob 291 w.params) (dH<|ob 291 w.params) (gg<|by lia)<|by lia)
 ·exact (fD (ob 247 w.params) (dH<|ob 247 w.params) (gg<|by lia)<|by lia)
 ·exact (fD (ob 228 w.params) (dH<|ob 228 w.params) (gg<|by lia)<|by lia)
theorem QCq: ∀{M:Cu} {A:cV} {E:aI->aN->Prop} {s:aN} {x:aM} {u:aI} {Q:aI->aN->Prop},(∃o,s.heap.get? x=aA o/\o.cls=.ref jJ)->s.heap.get? jJ=aA (excClassObj "Headers" "Headers" jJ 326 [.type "object"] [.type "object"] aB [] [] aE aF aF aF aF (aA<|.str (IK "Headers") 2612) (aA<|.str (IK "Headers") 2620) (aA<|.bool aB) "object.__new__")->Q u s->aO M A (sequenceKey (.ref x) u "__delitem__") Q E s:=by
 intro M A E s x u Q ⟨o,K,c⟩ C q;obtain ⟨h,g,d,t,os⟩:=s;delta sequenceKey seqItemTypes
 repeat (first|(with_reducible refine wpAny_loadPart_at K ?_;erw[c])|(with_reducible refine wpAny_loadPart_at C ?_)|wp_step)
 delta isSubtype mroOf
 repeat (first|(with_reducible refine wpAny_loadPart_at C ?_)|wp_step)
 exact q
theorem Yh (e:(D w X n).hm 9=aA (nm,fa)) {E:aI->aN->Prop} (base: ∀b o,(D w X n).G.get? b=aA o->s.heap.get? b=aA o) (I:(D w X n).P.HI Y s.heap x a)
 (h:aO (aY pg w) A (call (.ref fa) [.ref x,u]) (λO s'=>Q () s') E s):aO (aY pg w) A (delItem (.ref x) u) Q E s:=by
 have e':=e;clear e;cases e';have I:=I.2.2;refine cy (id I) λo hx hc r=>?_;have os:s.heap.OwnSpecial x jJ 247 "object" "__delitem__" :=⟨o,ob 247 w.params,_,_,326,_,_,_,_,_,_,_,_,_,_,_,_,_,"object.__new__",mN w X,aF,hx,hc,base _ _ qw,yC.keeps base,(kQ _).trans (by lia),base _ _ (gg<|by lia),rfl,F.mro_object,by rw[QN,QO];lia⟩;refine cO<|aR<|QCq (ax o hx hc) (base _ _ qw)<|aR ?_;obtain ⟨hh,g,d,t,oss⟩:=s;refine wpAny_callSpecial?_own os<|eX h (λv s' q=>?_) λO O z=>z;exact bA q
theorem R1:(D w X n).mg "Headers" =aA (.ref (D w X n).hc)/\ ∀{A:cV} {s:aN} {pos:bP} {l:List (Bool×ba aI)} {Q:aI->aN->Prop} {E:aI->aN->Prop},l.any (·.1)=aE->aO (aY pg w) A (sI l) (λvs s₁=>(∀b o,(D w X n).G.get? b=aA o->s₁.heap.get? b=aA o)/\aO (aY pg w) A (call (.ref (D w X n).hc) vs) Q E s₁) E s->
 aO (aY pg w) A (wd pos (.ref (D w X n).hc) [] l []) Q E s:=by
 refine ⟨(jc (w:=w) (X:=X) "Headers").trans (by lia),λ{A s pos l Q E} hp h=>?_⟩;have hst:(l.any (λx=>x.fst)||([]:List (Option Str×Sem Value)).any λx=>x.fst.isNone)=false:=by erw[hp];rfl
 delta wd;refine aR<|cO<|gN hp<|eX h (λvs s₁ h₁=>?_) λO O x=>x;obtain ⟨hh,g,d,t,os⟩:=s₁;have hC:=h₁.1 _ _ qw;have f1:=tc_lookup;have hT:=(ax _ hC rfl);refine aR<|iJ ?_;refine (?_:aO _ _ (Po (.ref jJ)>>=_) _ _ _);delta Po specialOf
 repeat (any_goals (first|assumption|with_reducible refine wpAny_loadPart_at hC ?_|with_reducible refine wpAny_load' hC ?_|wp_step))
 refine sb (QGx<|by rfl)<|sb hst<|(?_:wpAny _ _ (call (.ref jJ) vs []>>=λr=>do ot [r] point;pure r) _ _ _)
 exact aR<|eX h₁.2 (λr s' hr=>aR<|cO<|wpAny_point<|bA hr) λO O x=>x
end B01
noncomputable def ly (h:bK) (b:aM):Prop:= ∃v n,h.get? b=aA (listOf v n)
theorem Bv (e:h.get? b=aA o) (c: ∀vs n,o≠listOf vs n): ¬ ly h b:=λ⟨vs,n,q⟩=>by rw[e] at q;exact c vs n<|kB q
theorem QDR {vs:Array aI}: ∀ws m,({cls:=.type "tuple",data:=.seq vs n})≠listOf ws m:=λws m q=>by have:=QGz Obj.cls q;exact QGv (Value.type.inj this) (by decide)
theorem OM {vs:Array aI} (d:o.data=.fields vs): ∀ws m,o≠listOf ws m:=λws m q=>by rw[q] at d;contradiction
set_option tactic.hygienic true in
theorem Zt (hd:sj d=aB) (r:Rd Y h v d) (z: ∀b, ¬ Y b-> ¬ ly h b-> ¬ Z b):Rd Z h v d:=by
 refine je (ZD hd) λx y l=>?_;clear hd;subst l;refine dd r.Ai λa u n m e M R=>?_;clear r;subst m;refine Rd.tup e (z _ M<|Bv e QDR)<|bf R.iB λL F H U s=>?_
 subst H;refine bf s.iB λN P K q Q=>?_;clear s e R;subst K;refine sb Q.kN<|aV U.dK λt g=>?_
 subst g;refine aV q.dK λo A=>?_;subst A;exact bB.cons (Rd.str _ _)<|bB.cons (Rd.str _ _) bB.nil
theorem Ju: ∀{ds:List aK} {vs:List aI},ds.all sj=aB->bB Y h vs ds->(∀b, ¬ Y b-> ¬ ly h b-> ¬ Z b)->bB Z h vs ds:=by
 intro ds;induction ds with
 |nil=>exact @λvs O r O=>sb r.kN<|bB.nil
 |cons d ds i=>exact @λvs L r z=>by refine bf r.iB λv R H Q q=>?_;clear r;erw[H];simp only[QEp,gn] at L;exact bB.cons (Zt L.1 Q z)<|i L.2 q z
theorem Ir {cu:Nat->Option gr} (c:(h8 cu Hh).Inv Y h) (u: ∀b, ¬ Y b-> ¬ ly h b-> ¬ Z b):(h8 cu Hh).Inv Z h:=by
 intro f cf e;obtain ⟨n,i,x,g⟩:=c f cf e;refine vl i λo H K tf F P L text tt op z hd O O O O O O O O O=>.mk (u _ n<|Bv z<|OM hd) i x (g.imp id ?_)
 rintro ⟨C,t,oc,v,B,g2,g3,W,r⟩
 exact ⟨C,t,oc,v,B,g2,u _ g3<|Bv g2<|OM W,W,r⟩
theorem P_ {D:Wd} {cu:Nat->Option gr} (hP:D.P=h8 cu Hh) (C:ra D f [] hs (.list zs)) (g:hs.all sj=aB) (hz:zs.all sj=aB) (l: ∀b, ¬ ly D.G b)
 (M: ∀(Y Z:aM->Prop) h x a,Hh.HI Y h x a->(∀b, ¬ Y b-> ¬ ly h b-> ¬ Z b)->Hh.HI Z h x a):GG D f [] hs zs:=by
 intro A s Y us vs x a n Q E c d K v j k;erw[j.kN];have N: ∀b, ¬ Y b-> ¬ ly s.heap b-> ¬ (Y b\/ly s.heap b):=λb L z q=>q.elim L z;refine C ⟨c.R,c.t,c.base,λb o e q=>?_,λb q=>?_,λb p=>.inl<|c.pf b p,?_⟩ ?_ K (Ju g v N) bB.nil λu s' ct r=>?_
 ·rcases q with q|⟨aa,n',q⟩
  ·exact c.fN b o e q
  ·clear hP C g hz M d K v j k N
   obtain rfl:=bM (c.base b o e) q;exact l b<|lY aa n' e
 ·rcases q with q|⟨aa,n',q⟩
  ·exact c.al b q
  ·exact ⟨_,q⟩
 ·have ab:=c.inv
  rw[hP] at ab⊢;exact Ir ab N
 ·rw[hP] at d⊢
  exact M _ _ _ _ _ d N
 ·refine dd r.lst_inv λH ws m F e1 e2 B=>?_
  clear r;subst F;have i:=ct.inv
  have hn:s.heap.get? H=none:=by
   induction q:s.heap.get? H with
   |none=>rfl
   |some o=>
    exfalso;by_cases p:D.P.PF H
    ·refine cR (D.P.iM i p) λo' aa U d'=>?_
     obtain rfl:=bM e1 U;contradiction
    ·have:=ct.keep H o q id p
     obtain rfl:=bM e1 this;exact e2<|.inr<|lY _ _ q
  have W: ∀b, ¬ (Y b\/ly s.heap b)-> ¬ ly s'.heap b-> ¬ (Y b\/b=H):=λb L z q=>q.elim (λq=>L<|.inl q) λq=>z<|q▸(lY _ _ e1);refine k H ws m s' ⟨ct.keep,?_,ct.e⟩ hn e1<|Ju hz B W;rw[hP] at i⊢;exact Ir i W
namespace B01
variable {w:bx} {X:Nat->bH} {n:Nat}
theorem Ub (Y Z:aM->Prop) (h:bK) (x a:aM) (I:jD.HI Y h x a) (z: ∀b, ¬ Y b-> ¬ ly h b-> ¬ Z b):jD.HI Z h x a:=by
 obtain ⟨n,N,I⟩:=I;obtain ⟨o,M,c,C,r⟩:=id I;refine ⟨z _ n (Bv M λW m q=>(by rw[q] at c;contradiction)),λH d e u=>z _ (N H d e u) λ⟨g,m,q⟩=>?_,I⟩;obtain rfl:=bM M e;rcases r with ⟨r,_⟩|⟨R,r,_,K⟩
 ·exact cb r u
 ·obtain rfl:=bM r u
  obtain ⟨v,A,B,j,p,_⟩:=K;obtain rfl:=bM j q;contradiction
noncomputable def kJ (X:Nat->bH):Prop:= ∃e,dN b3 e/\X 138=fA e e.length
noncomputable def I7 (o:bH):Bool:=match o.cls with|.type T=>T != "list" |_=>aB
theorem QAw (P:bZ) (X:Nat->bH):((bg 414).all λa=>bt a 138||match hU (eI P X) 414 cZ a with|some o=>I7 o|none=>aB)=true:=by lia
theorem k_ (hX:kJ X) (b:aM): ¬ ly (D w X n).G b:=by
 rintro ⟨vs,m,e⟩
 have e':=(sv ..).symm.trans e;have:=dR.mp (QAw w.params X) b<|sD.mpr (Ah e').2.2.1;rw[e',IB] at this;refine cp (this) (λq=>?_) λq=>?_
 ·rw[uO q] at e'
  obtain ⟨es,_,hx⟩:=hX;rw[(by lia:hU (eI w.params X) 414 cZ 138=alive (X 138)),hx] at e';have e3:=kB<|e';exact QGv (Value.type.inj (QGz Obj.cls e3:(QFF "dict")=QFF "list")) (by decide)
 ·exact QGv (show I7 (listOf #[] 0)=aB from q) (by decide)
theorem QBe (Z:z∈mA xs l h s):z∈xs:=aS (HY.mp Z) λk O e=>DH e
theorem Yw (M:kJ X) [cz<|D w X n] [kq<|D w X n] (h:tC (aU n) 1 [] Bb xs hs (.list zs)) (H:hs.all sj=aB):GG (D w X<|n+1) 291 xs hs zs:=by
 have h':=h;obtain ⟨hl,e⟩:=h
 obtain rfl:xs=[]:=by
  clear h' e;induction xs with
  |nil=>rfl
  |cons a l=>simp at hl
 have Z:zs=mA hs aF aF none:=by
  induction e.2 with
  |mk e1 e2=>
   clear H h' e;cases e1 with
   |lst i p P p3 _ _=>
    cases p;cases P;clear a_2;cases p3
    clear a_3;cases i with
    |bor i=>
     cases i
     induction e2 with
     |mk e1 e2=>cases e1;cases e2;rfl
 clear e;subst Z;intro A s Y us vs x a m Q E;exact P_ rfl (by intro A s Y us vs x a m Q E;exact JB h') H (dR.mpr λz Z=>dR.mp H z<|QBe Z) (k_ M) Ub
end B01
theorem Td (h:dN l es) (k:Int):IL mR es.toArray k=aF/\l.lookup k=aF\/ ∃s u,l.lookup k=aA s/\IL mR es.toArray k=aA (.str s u):=by
 unfold IL;rw[List.find?_toArray];induction h with
 |nil=>exact .inl ⟨rfl,rfl⟩
 | @cons b e l es a _ i=>
  refine je a λt u B=>sb B ?_;obtain ⟨K,s⟩:=b
  simp! only[List.find?_cons,iK]
  have x:mR k (lh K (.str s u) t).key=(K==k):=rfl;have n:(k==K)=(K==k):=by rw[uS,beq_iff_eq,beq_iff_eq];exact ⟨Eq.symm,Eq.symm⟩
  simp! only[x,n]
  induction hq:(K==k) with
  |true=>exact .inr<|fD s u rfl rfl
  |false=>exact i
theorem S0 {w:bx} (h:dN l es):KeysOf (iq prog w) es.toArray:=λe F=>cR (h.keys e F) λk t H i=>(ax k (by erw[H];exact QHA k) i)
namespace B01
variable {w:bx} {X:Nat->bH} {n:Nat}
theorem Sh (hX:kJ X): ∃a ob,(D w X n).mg "b3_exceptions" =aA (.ref a)/\(D w X n).G.get? a=aA ob/\ob.cls=.type "dict" /\ob.dict=aF/\ ∀{A:cV} {s:aN} {i:Int} {t:fF} {Q:aI->aN->Prop} {E:aI->aN->Prop},hH (D w X n).n A->(∀b o,(D w X n).G.get? b=aA o->s.heap.get? b=aA o)->
 (∀u tk,(∀Y h,Rd Y h u<|(D w X n).o.b3 i)->Q u {s with toks:=tk})->aO (aY (D w X n).prog (D w X n).w) A (call (.builtin "dict.get") [.ref a,.int i t]) Q E s:=by
 refine aS hX λes he hx=>?_
 have eg:(D w X n).G.get? 138=aA (fA es es.length):=by
  refine (sv ..).trans ?_
  simp! only[(by lia:hU (eI w.params X) 414 cZ 138=alive (X 138)),hx]
  rfl
 refine (vP 138 (fA es es.length) ((jc (w:=w) (X:=X) "b3_exceptions").trans<|by lia) eg rfl rfl (λ{A s i t Q E} R base k=>?_));have hm:s.heap.MapOf (iq pg w) 138 (λk=>IL mR es.toArray k):=(GN _ _ _ (base _ _ eg) ⟨rfl,rfl,rfl⟩ rfl (S0 he) (λO=>rfl));refine call_meetsIn QEU hm.typeIs PySem.F.entry_dict_get (PySem.F.args_dict_get_2 _ _) (meets_dict_get (iq pg w) 138 (QHA i:(iq pg w).is i (.int i t)=aB)<|by decide)<|ax _ hm ?_;refine k _ _ λY h=>(?_);erw[(by clear eg R base k;induction n<;>rfl:(D w X n).o.b3=qz)];unfold qz;rcases Td he i with ⟨e1,e2⟩|⟨s,u,e1,e2⟩
 ·simp! only[e1,e2]
  exact Rd.none
 ·simp! only[e1,e2]
  exact Rd.str _ _
noncomputable def wD (o:bH):Array (Int×aI):=match o.data with|.set e _ _=>e|_=> #[]
noncomputable def VX (o:bH):SetTable:=match o.data with|.set _ _ t=>t|_=>default
theorem Tt: ∀i,(gL.contains i=aB↔ ∃e∈(wD<|ob 127 w.params).toList,mR i e.2=aB):=by
 intro i;have e:(wD<|ob 127 w.params).toList.map (λe=>match e.2 with|.int k _=>k|_=>0)=gL:=by lia
 rw[<-e,Hi,ij];constructor
 ·rintro ⟨x,hx,rfl⟩
  have:=dR.mp (by lia:((wD<|ob 127 w.params).toList.all λe=>match e.2 with|.int _ _=>aB|_=>aE)=aB) x hx;obtain ⟨k,v⟩:=x;induction v<;>first|cases this|skip
  exact (ax _ hx<|QHA _)
 ·rintro ⟨x,hx,h⟩
  exact aV (QFG h) λt ht=>(ax x hx<|sb ht rfl)
theorem Z9: ∃a,(D w X n).mg "b1_set" =aA (.ref a)/\ ∀{A:cV} {s:aN} {i:Int} {t:fF} {Q:aI->aN->Prop} {E:aI->aN->Prop},hH (D w X n).n A->(∀b o,(D w X n).G.get? b=aA o->s.heap.get? b=aA o)->(∀tk,Q (.bool<|(D w X n).o.b1 i) {s with toks:=tk})->aO (aY (D w X n).prog (D w X n).w) A (sG .In (.int i t)<|.ref a) Q E s:=by
 refine (ax 127 ((jc (w:=w) (X:=X) "b1_set").trans<|by lia) λ{A s i t Q E} R base k=>?_);have eo:(D w X n).o.b1=λi=>gL.contains i:=by clear R base;clear k;induction n<;>rfl
 have hS:s.heap.SetOf (iq pg w) 127 (λi=>gL.contains i) 27:=by
  refine ⟨ob 127 w.params,wD<|ob 127 w.params,29,VX<|ob 127 w.params,(base _ _<|gg<|by lia),⟨rfl,rfl,rfl⟩,rfl,?_,λi=>Tt i,(by lia:(wD<|ob 127 w.params).size=27)▸(by decide:27<scanBound),by lia,by lia⟩;intro e he;have:=dR.mp (by lia:((wD<|ob 127 w.params).toList.all λe=>match e.2 with|.int k t=>e.1==hashInt k && Value.scannable (.int k t)|_=>aE)=aB) e he;obtain ⟨k,v⟩:=e;clear he;induction v<;>first|(exact bq this)|skip
  rw[gn,beq_iff_eq] at this;exact ⟨(ax _ (QHA _) this.1),this.2⟩
 refine QFH (k:=i) (knd:=iq pg w) (QHA i:mR i (.int i t)=aB) rfl hS ?_;have:=k<|s.toks+1;rw[eo] at this;exact this
end B01
namespace B01
variable {w:bx} {X:Nat->bH} {n:Nat}
noncomputable def NK (P:bZ):FuncData:=dH<|ob 324 P
theorem QDM (P:bZ) (q u U:aI):nO (NK P) ⟨[q,u,U],[]⟩=(alloc {cls:=.type "dict",data:=.dict #[]}>>=λd=>pure [(("self" :aG),q),(("_name" :aG),u),(("_value" :aG),U),(("_params" :aG),.ref d)]):=by lia
theorem Tu (P:bZ) (X:Nat->bH):ti (eI P X) 414 cZ 324 323 2748 (ob 324 P) (ob 323 P) (fI<|dB 28 16) (cJ<|dB 28 16).names:=by lia
theorem UB [cz<|D w X n] [kq<|D w X n] (e:u5 (aU n) 4 [.emp] yn xs hs d hs'):qx (D w X<|n+1) 324 xs hs d hs':=by
 intro A s Y us vs x ia m Q E c hi xa ha hvs hv k;refine bI e λhl he=>?_;have fo:=Lv (cd:=aF) (Tu w.params X) λO O e=>ay e
 have h0:eV (cJ<|dB 28 16).names.length 200=true:=by lia
 have h4:(rJ (Fc.fn (cJ<|dB 28 16).names 200 aB aE aF<|dJ h0) (cJ<|dB 28 16).names ["self","_name","_value","_params"] 4 && kA ci (Fc.fn (cJ<|dB 28 16).names 200 aB aE aF<|dJ h0) yn (fI<|dB 28 16))=true:=by lia
 have q:=xT (aD h4).1
 have hxl:us.length=2:=by
  have:=hv.len;rw[du,dZ] at hl
  simp! only[this]
  exact zq<|zq hl
 have y: ∀b,(λb=>b=ia) b->Y b:=λb q=>q▸xa;have kp: ∀b o,s.heap.get? b=aA o->(s.heap.push i3).get? b=aA o:=λO O e=>gS _ e;have mm:Mon Y s.heap Y (s.heap.push i3):=λb o e n=>⟨kp _ _ e,n⟩;have npd: ∀b,(D w X n).P.PF b->(s.heap.push i3).get? b=s.heap.get? b:=λb p=>cR ((D w X n).P.iM c.inv p) λo O e O=>sb e<|sb (kp _ _ e) rfl
 have c1:CS (D w X<|n+1) A Y {s with heap:=s.heap.push i3}:=⟨c.R,c.t,λb o e=>kp _ _<|c.base b o e,c.fN,λb q=>let ⟨o,w⟩:=c.al b q;⟨o,kp _ _ w⟩,c.pf,(D w X n).P.iS c.inv mm npd⟩;revert hv;refine i6 (P:=λus=>bB Y s.heap us xs->aO (aY (D w X<|n+1).prog (D w X<|n+1).w) A (call (.ref 324)<|.ref x::us) Q E s) (λu1 u2 hv=>?_) us hxl;refine wq (Pw c.R.lt (c.base _ _<|gg (by lia:hU (eI w.params X) 414 cZ 324=aA (ob 324 w.params))) (by lia:(ob 324 w.params).data=.func (NK w.params)) fo.co fo.ge fo.bd (fo.cr.keeps c.base) ?_)
 simp! only[QDM]
 refine aR<|Hp<|bA ?_;refine PI (D:=D w X n) (z:=⟨{s with heap:=s.heap.push i3},λb=>b=ia\/(D w X n).P.PF b,vm ia⟩) (Ob:=sd (D w X n) Y λb=>b=ia) (us:=[.ref x,u1,u2,.ref s.heap.objs.size]) (sls:=Sl.inst::(xs.map xN++[Sl.emp])) (l:=rH hs) (Kb:=Fo d hs') (bs:=yn.map SW.w) ⟨q.2,lV nW (aD h4).2,rfl⟩ wH fo q.1 (((q.2.tU (D:=D w X n)).1.trans wu).trans hl.symm) he (λi q=>HP aB<|mF q<|by decide) c.R c.t (Dc c1 y (kp _ _ ha) (hvs.mon mm) (λi ys e=>Dw aB e) rfl (λO=>rfl) (λw=>QGv rfl w)) (.cons (dA x ia v9 rfl ((D w X n).P.kG hi λb o e n=>qf y c.pf b o (kp _ _ e) n))<|(eT.vals<|(hv.mon mm).mon<|qf y c.pf).app<|.cons (gc _ rfl (fG _ rfl) (λq=>(λq=>by refine aV (c.al _ q) λo w=>?_;exact cb (ie (bh _):s.heap.get? s.heap.objs.size=aF) w: ¬ Y s.heap.objs.size)<|AN y c.pf q)) .nil) (λfl l' d' g g' u env z' b=>?_) (λl' g=>by cases g.1);refine eJ g λg hr1 hr2=>?_;obtain rfl:=g.fn g';have pe:=(b.s.p.hn rfl).trans v9;refine dS (b.F.own aT hs' hr1) λia' vs' n' e1 e2 e3=>?_;obtain rfl:=bM pe e1;have wa: ∀b,b=ia->z'.W b:=λO q=>q▸b.F.jb hs' hr1 hr2 ia pe;exact bI (b.ct (o':=aU<|n+1) (m:=n+1) wa λO q=>q▸pe) λh1 h2=>k u z'.s vs' n' ⟨λb o e q p=>h1.keep b o (kp _ _ e) q p,h1.inv,h1.e⟩ e2 (e3.mon λc o e n=>⟨e,λw=>n<|EZ wa b.F.pf w⟩) h2
end B01
structure fK (G:bK) (mg:aG->Option aI) (env:cg) (m:aG->Option aI) (h:bK):Prop where
 gl:Gl G mg
 base: ∀b o,G.get? b=aA o->h.get? b=aA o
 loc:h.Ns env.locals m
 hk:env.scope.kind=.function
 hg:env.globals=nM
 hb:env.builtins=ic
section
variable {G:bK} {mg:aG->Option aI} {env:cg} {m:aG->Option aI} {prog:sF} {w:bx} {A:cV} {s:aN} {E:aI->aN->Prop} {pos:bP}
theorem fK.keeps (F:fK G mg env m h) (k: ∀b o,h.get? b=aA o->h'.get? b=aA o):fK G mg env m h':=⟨F.gl,λb o e=>k b o<|F.base b o e,F.loc.keeps k,F.hk,F.hg,F.hb⟩
theorem gQ (F:fK G mg env m s.heap) (K:env.kindOf nm=aA .local) (hu:m nm=aA u) (h:Q u s) (hd:(nm==("__debug__"))=aE):aO (aY prog w) A (bz (.Name nm pos) env) Q E s:=wpAny_Name (Pa F.hk K F.loc hu h) hd
theorem JD (F:fK G mg env m s.heap) (K:env.kindOf nm=aA .globalImplicit) (hu:mg nm=aA u) (h:Q u s) (hd:(nm==("__debug__"))=aE):aO (aY prog w) A (bz (.Name nm pos) env) Q E s:=by refine Hg F.hk K ?_ hd;refine QEJ ?_ hu h;exact sb F.hg<|F.gl.g.keeps F.base
theorem xn (F:fK G mg env m s.heap) (K:env.kindOf nm=aA .globalImplicit) (hn:mg nm=aF) (hu:Hd nm=aA u) (h:Q u s) (hd:(nm==("__debug__"))=aE) (n:nm≠ "__name__"):aO (aY prog w) A (bz (.Name nm pos) env) Q E s:=by
 refine Hg F.hk K ?_ hd;refine QEI (mg:=mg) (mb:=G.nsMap ic) ?_ hn ?_ ?_ h
 ·exact sb F.hg<|F.gl.g.keeps F.base
 ·exact sb F.hb<|F.gl.b.keeps F.base
 ·exact sb (F.gl.bo nm n)<|hu
theorem qy (F:fK G mg env m s.heap) (K:env.kindOf nm=aA .local) (L:G.get? env.locals=aF) (h: ∀h' tk,fK G mg env (λy=>if y=nm then aA u else m y) h'->(∀b o,b≠env.locals->s.heap.get? b=aA o->h'.get? b=aA o)->Q () {s with heap:=h',toks:=tk}):
 aO (aY prog w) A (mP (.Name nm pos) env u) Q E s:=by
 refine ub (QDu K F.loc (λh' hn sb=>?_) (by erw[F.hk];rfl));have k: ∀b o,b≠env.locals->s.heap.get? b=aA o->h'.get? b=aA o:=λb o n e=>(sb.2 b n).trans e;exact h h' _ ⟨F.gl,λb o e=>k b o (λq=>by simp only[q,L] at e;exact ay e)<|F.base b o e,hn,F.hk,F.hg,F.hb⟩ k
end
namespace B01
variable {w:bx} {X:Nat->bH} {n:Nat}
noncomputable def rT (P:bZ):FuncData:=dH<|ob 228 P
theorem TP (P:bZ) (X:Nat->bH):(G P X).CodeRec (rT P).code (rT P).qualname:=(GZ 227 (ob 227 P) (kH<|ob 227 P) 2635 (by lia) (gg<|by lia) (by lia)<|by lia)
theorem QBi (P:bZ) (u v:aI) (b:Bool):nO (rT P) ⟨[u,v],[("name",.bool b)]⟩=pure [(("self" :aG),u),(("value" :aG),v),(("name" :aG),.bool b)]:=by lia
theorem QAE (b:Bool):gI (G w.params X) (if b then 193 else 198) (ll b):=by
 induction b with
 |true=>exact ⟨ob 193 w.params,192,ob 192 w.params,kH<|ob 193 w.params,BA<|ob 192 w.params,0,gg (by lia),rfl,rfl,rfl,by lia,by lia,by lia,gg (by lia),rfl,by lia⟩
 |false=>exact ⟨ob 198 w.params,197,ob 197 w.params,kH<|ob 198 w.params,BA<|ob 197 w.params,0,gg (by lia),rfl,rfl,rfl,by lia,by lia,by lia,gg (by lia),rfl,by lia⟩
theorem Js (ok:gG b xx=aB) {E:aI->aN->Prop} (hdp:A.depth<1000) (base: ∀b o,(G w.params X).get? b=aA o->s.heap.get? b=aA o)
 (k: ∀h' tk,(∀b o,s.heap.get? b=aA o->h'.get? b=aA o)->Q (.str xx t) {s with heap:=h',toks:=tk}):aO (aY pg w) A (call (.ref 228) [.ref x,.str xx t] [("name",.bool b)]) Q E s:=by
 refine wq (Qc (fd:=rT w.params) (body:=fI<|dB 28 1) (binds:=[(("self" :aG),.ref x),(("value" :aG),.str xx t),(("name" :aG),.bool b)]) hdp (base _ _<|gg (by lia:hU (eI w.params X) 414 cZ 228=aA (ob 228 w.params))) (by lia) (mr.lim.keeps base) ((TP w.params X).keeps base) (by lia) (.of_eq<|QBi _ _ _ _) ?_ ?_ (λh1 ns k1=>?_) (by lia) (by lia)<|by lia)
 ·exact λx hx=>by simpa using dR.mp (by lia:(rT w.params).scope.names.all (λx=> !(x.2==.cell))=aB) x hx
 ·intro y hy
  simp only[bp,gU,or_false] at hy;clear ok hdp base k;rcases hy with rfl|rfl|rfl<;>lia
 have F:fK (G w.params X) (mg w X) (IM (rT w.params) s.heap.objs.size 228) _ h1:=⟨mr,λb o e=>k1 _ _<|base b o e,ns,by lia,by lia,by lia⟩
 have hL:(G w.params X).get? s.heap.objs.size=none:=by
  induction q:(G w.params X).get? s.heap.objs.size with
  |none=>rfl
  |some o=>exact QGv (kg<|base _ _ q)<|mG _
 refine ip<|wpAny_If (wpAny_isTrue_Compare1 (wpAny_Call_Name_kw<|xn F (by lia) (xc _<|by decide+kernel) (u:=.type "type") (by lia) ?_ (by decide+kernel)<|by decide+kernel) rfl)
 refine wg rfl (gN rfl ?_);refine uX (gQ F (by lia) (u:=.str xx t) (by lia) (lN ?_)<|by decide+kernel);refine Pp (PZ _ _ _) (by decide+kernel)<|xn F (by lia) (xc _<|by decide+kernel) (u:=.type "str") (by lia) ?_ (by decide+kernel) (by decide+kernel)
 refine QEH rfl (oq ?_);refine sb (QGx<|by decide)<|wpAny_execs_cons ?_
 have hr:(mg w X) (if b then "_name_disallowed_re" else "_value_disallowed_re")=aA (.ref<|if b then 193 else 198):=by
  clear ok ns F;induction b with
  |true=>exact (jc (w:=w) (X:=X) "_name_disallowed_re").trans (by lia)
  |false=>exact (jc (w:=w) (X:=X) "_value_disallowed_re").trans (by lia)
 have go: ∀{E':aI->aN->Prop} {Q':aI->aN->Prop} {A':cV} {p0 p1 p2 p3:bP} {s1:aN},s1.heap=h1->Q' (.ref<|if b then 193 else 198) s1->aO (aY pg w) A' (bz (.IfExp (.Name "name" p0) (.Name "_name_disallowed_re" p1) (.Name "_value_disallowed_re" p2) p3)<|IM (rT w.params) s.heap.objs.size 228) Q' E' s1:=by
  intro E' Q' A' p0 p1 p2 p3 s1 es q;have F':=es▸F;refine wpAny_IfExp (IP<|gQ F' (by lia) (u:=.bool b) (by lia) (oq ?_)<|by decide+kernel);clear ok ns F;induction b with
  |true=>exact JD F' (by lia) hr q (by decide+kernel)
  |false=>exact JD F' (by lia) hr q (by decide+kernel)
 refine jg rfl rfl rfl (go rfl ?_);refine qy F (by lia) hL λh2 t2 F2 k2=>ip ?_;have P2:=(QAE (w:=w) (X:=X) b).keeps F2.base;refine cy P2.own λo pa O pc=>H6 (IP<|wj rfl rfl rfl (gQ F2 (by lia) (u:=.ref<|if b then 193 else 198) (by lia) ?_<|by decide+kernel));refine (sa ("re.Pattern") ("re.Pattern.search") MY Ma l_ P2.typeIs (λa' e=>?_)<|we rfl (gN rfl ?_))
 ·clear ok ns F hr go F2 k2 P2
  cases e
  exact (ax o pa pc)
 refine uX (gQ F2 (by lia) (u:=.str xx t) (by lia) (lN ?_)<|by decide+kernel);refine Tq P2 ok<|wpAny_pure<|sb (if_neg<|by decide)<|wpAny_execs_nil<|wpAny_execs_cons<|wpAny_Return_some (gQ F2 (by lia) (u:=.str xx t) (by lia) ?_<|by decide+kernel)
 exact k h2 t2 λb' o' e=>k2 b' o' (λq=>by rw[q] at e;exact QGv (kg e)<|mG _)<|k1 b' o' e
end B01
namespace B01
variable {w:bx} {X:Nat->bH} {n:Nat}
noncomputable def uz (P:bZ):FuncData:=dH<|ob 221 P
theorem R7 (P:bZ) (X:Nat->bH):(G P X).CodeRec (uz P).code (uz P).qualname:=⟨220,ob 220 P,kH<|ob 220 P,2625,by lia,gg (by lia),by lia,by lia⟩
theorem Y0 {X:Nat->bH} (B: ∀b o,(G P X).get? b=aA o->s.heap.get? b=aA o) (u v:aI):BindsTo s (uz P) ⟨[u,v],[]⟩ [(("self" :aG),u),(("headers" :aG),v)]:=by intro M A E Q q;refine (?_:aO M A (QJ (.ref 214)>>=_) Q E s);refine aR (H7 (B _ _ (gg<|by lia):s.heap.get? 214=aA (ob 214 P)) rfl ?_);exact qo (by lia) q
noncomputable abbrev GA (P:bZ) (L:aM):Env:=IM (uz P) L 221
theorem tH {nm y:aG} {p0 p1 p2 p3 p4 p5 p6:bP} {E:aI->aN->Prop} (hdp:A.depth<990) (F:fK (G w.params X) (mg w X) env m s.heap) (I:s.heap.Inst x jJ (Aw a))
 (hS:env.kindOf "self" =aA .local) (mS:m "self" =aA (.ref x)) (hN:env.kindOf nm=aA .local) (mN':m nm=aA (.str y ty)) (hd:(nm==("__debug__"))=aE) (ok:gG b y=aB)
 (hm:A6 (.Name "self" p0) "_convert_string_type" p1 p5 [.Name nm p2] [⟨aA "name",.Constant (.bool b) kk p3,p4⟩]) (hsw:Cz (.Call (.Attribute (.Name "self" p0) "_convert_string_type" p1) [.Name nm p2] [⟨aA "name",.Constant (.bool b) kk p3,p4⟩] p5) aF p6.line env=pure aE)
 (hdr: ∀u t,zt (.Call (.Attribute (.Name "self" p0) "_convert_string_type" p1) [.Name nm p2] [⟨aA "name",.Constant (.bool b) kk p3,p4⟩] p5) p6 (.str u t)=pure .next)
 (hs:fH [.Name nm p2] env=[(aE,bz (.Name nm p2) env)])
 (h: ∀h' tk,(∀b o,s.heap.get? b=aA o->h'.get? b=aA o)->Q .next {s with heap:=h',toks:=tk}):
 aO (aY pg w) A (o3 (.Expr (.Call (.Attribute (.Name "self" p0) "_convert_string_type" p1) [.Name nm p2] [⟨aA "name",.Constant (.bool b) kk p3,p4⟩] p5) p6) env) Q E s:=by
 refine B7 F.hk hsw (yF hm<|gQ F hS mS ?_<|by decide+kernel);intro pl;refine uw (n:=0) (Y:=λO=>False) (x:=x) (a:=a) (f:=228) (of:=ob 228 w.params) (y:=aF) F.base ⟨λq=>q,λO O O O q=>q,I⟩ ((kQ _).trans<|by lia) (gg<|by lia) rfl (by ac_nf) (by decide)<|ES (evalArgs_kw2 rfl ?_ (by simp! only[hs];rfl))
 refine uX<|gQ F hN mN' (lN<|kwAll_cons<|Fd<|kwAll_nil ?_) hd;refine ⟨⟨ob 228 w.params,rT w.params,F.base _ _ (gg<|by lia),by lia⟩,?_⟩;refine Js ok (az ‹_› (gA _ _)) F.base λh' tk kp=>⟨hdr _ _,h h' tk kp⟩
noncomputable abbrev Kp (h h':bK):Prop:= ∀b o,h.get? b=aA o->h'.get? b=aA o
noncomputable abbrev Kx (L:aM) (h h':bK):Prop:= ∀b o,b≠L->h.get? b=aA o->h'.get? b=aA o
theorem Inst.but (I:h.Inst x c m) (k:Kx L h h') (n:x≠L) (N: ∀o d,h.get? x=aA o->o.dict=aA d->d≠L):h'.Inst x c m:=uM I λo e q C r=>⟨o,k _ _ n e,q,C,r.imp id λr=>cy r λd a b c=>⟨d,a,b,c.at λO=>k _ _<|N o d e a⟩⟩
theorem Yd {nw k0 B k2:Nat} {pk pv pt p0 p p2 p3 c p5 p6 Z r1 r2 r3 r4 r r6:bP} {E:aI->aN->Prop}
 (C:A.handled=aF) (d:A.depth<990) (F:fK (G w.params X) (mg w X) env m s.heap) (L:(G w.params X).get? env.locals=aF) (e1:env.kindOf "self" =aA .local) (e2:env.kindOf "k" =aA .local) (u:env.kindOf "v" =aA .local) (N:m "self" =aA (.ref x))
 (I: ∀h',Kx env.locals s.heap h'->h'.Inst x jJ (Aw a)) (e4:s.heap.get? b1=aA {cls:=.type "tuple",data:=.seq #[.str Y z,.str j z2] nw}) (v:gG aB Y=aB) (o2:gG aE j=aB) (l1:(p.endLine==p5.line)=aB) (W:(r1.endLine==r.line)=aB)
 (h: ∀h' tk g,fK (G w.params X) (mg w X) env g h'->g "self" =aA (.ref x)->Kx env.locals s.heap h'->R .next {s with heap:=h',toks:=tk}):
 aO (aY pg w) A (mP (.Tuple [.Name "k" pk,.Name "v" pv] k0 pt) env<|.ref b1) (λO H=>aO (aY pg w) A (fV [.Expr (.Call (.Attribute (.Name "self" p0) "_convert_string_type" p) [.Name "k" p2] [⟨aA "name",.Constant (.bool aB) B p3,c⟩] p5) p6,.Expr (.Call (.Attribute (.Name "self" Z) "_convert_string_type" r1) [.Name "v" r2] [⟨aA "name",.Constant (.bool aE) k2 r3,r4⟩] r) r6] env) R E H) E s:=by
 refine wpAny_assign_Tuple C ⟨_,e4,rfl,_,rfl⟩ rfl rfl λh6 U=>?_;have U:Kp s.heap h6:=λb o e=>U b o (qm<|kg e) e;refine aR<|cO<|qy (F.keeps U) e2 L λh7 t7 l P=>?_;refine aR<|cO<|qy l u L λq t8 f M=>?_;have M:Kx env.locals s.heap q:=λb o n e=>M b o n<|P b o n<|U b o e;have i:=I _ M;refine bA (ip<|tH d f i e1 N e2 rfl (by decide+kernel) v ⟨λO=>rfl,λO=>rfl,l1⟩ rfl (λO O=>rfl) rfl λh9 t9 t=>?_);exact ip (tH d (f.keeps t) (i.keeps t) e1 N u rfl (by decide+kernel) o2 ⟨λO=>rfl,λO=>rfl,W⟩ rfl (λO O=>rfl) rfl λQ aa K=>zo<|h _ _ _ ((f.keeps t).keeps K) N λb o n e=>K b o<|t b o<|M b o n e)
structure NI (w:bx) (X:Nat->bH) (env:cg) (J a x:aM) (vs:Array aI) (s3:aN) (j:Nat) (s:aN):Prop where
 e:s={s3 with heap:=s.heap,toks:=s.toks}
 it:s.heap.IsListIter J a j
 il:s.heap.IsList a vs
 F: ∃m,fK (G w.params X) (mg w X) env m s.heap/\m "self" =aA (.ref x)
 k: ∀b o,b≠J->b≠env.locals->s3.heap.get? b=aA o->s.heap.get? b=aA o
theorem QAm (h:vE d=aB): ∃Y e,d=.tuple [.str Y,.str e]/\gG aB Y=aB/\gG aE e=true:=by
 cases d with
 |tuple x=>
  cases x with
  |nil=>contradiction
  |cons a x=>
   cases x with
   |nil=>cases a<;>contradiction
   |cons b x=>
    cases a with
    |str Y=>
     cases b with
     |str e=>
      cases x with
      |nil=>exact ⟨Y,e,rfl,f7.mp h⟩
      |cons=>contradiction
     |_=>contradiction
    |_=>contradiction
 |_=>contradiction
theorem QBR (r:Rd Y h v (.tuple [.str s,.str e])): ∃b n z Z,v=.ref b/\h.get? b=aA {cls:=.type "tuple",data:=.seq #[.str s z,.str e Z] n}:=by refine dd r.Ai λb a n R C O r=>bf r.iB λu W p Q r=>bf r.iB λU N q d r=>aV Q.dK λz x=>aV d.dK λZ c=>?_;rw[p,q,x,c,r.kN] at C;exact ⟨b,n,z,Z,R,C⟩
theorem xk {A:cV} {s:aN} {env:cg} {m0 k0 kk K:Nat} {vs:List aI} {xs:List aK} {pk pv pt p0 P p2 p3 p4 p5 p6 r0 r1 r2 r3 r4 r5 r6:bP}
 (N:A.handled=aF) (dp:A.depth<990) (F:fK (G w.params X) (mg w X) env m s.heap) (hL:(G w.params X).get? env.locals=aF) (e1:env.kindOf "self" =aA .local) (e2:env.kindOf "k" =aA .local) (e3:env.kindOf "v" =aA .local) (mS:m "self" =aA (.ref x))
 (I:s.heap.Inst x jJ (Aw a)) (n1:x≠env.locals) (n2: ∀o d,s.heap.get? x=aA o->o.dict=aA d->d≠env.locals) (na:a≠env.locals) (Q:xs.all vE=aB) (t:s.heap.get? a=aA (listOf vs.toArray m0)) (u:bB Y s.heap vs xs) (l1:(P.endLine==p5.line)=aB) (l2:(r1.endLine==r5.line)=aB)
 (h: ∀h' tk,Kx env.locals s.heap h'->R (.ok .next) {s with heap:=h',toks:=tk}):
 ud (aY pg w) A (.forLoop (.Tuple [.Name "k" pk,.Name "v" pv] k0 pt) (.ref s.heap.objs.size) [.Expr (.Call (.Attribute (.Name "self" p0) "_convert_string_type" P) [.Name "k" p2] [⟨aA "name",.Constant (.bool aB) kk p3,p4⟩] p5) p6,.Expr (.Call (.Attribute (.Name "self" r0) "_convert_string_type" r1) [.Name "v" r2] [⟨aA "name",.Constant (.bool aE) K r3,r4⟩] r5) r6] [] env) R {s with heap:=s.heap.push {cls:=.type "list_iterator",data:=.fields #[.ref a,.int 0 0]}}:=by
 have nJ: ∀b o,s.heap.get? b=aA o->b≠s.heap.objs.size:=λb o e=>qm<|kg e;have Z:Kp s.heap (s.heap.push {cls:=.type "list_iterator",data:=.fields #[.ref a,.int 0 0]}):=λO O e=>gS _ e;refine dS F.loc λoL es ep L dL rL=>?_;have l:=nJ _ _ L
 refine Io (Walks.list N s.heap.objs.size a (nJ _ _ t) vs.toArray) (λi h st=>cy st.1 λo e c O=>⟨o,"list_iterator",e,c,by decide⟩) (NI w X env s.heap.objs.size a x vs.toArray s) (λj s' q=>⟨q.it,q.il⟩)
  ⟨rfl,⟨_,fG _ rfl,rfl,rfl⟩,(gO t).push _,⟨m,F.keeps Z,mS⟩,λb o O O e=>Z b o e⟩ (λs' h' tk q k O=>?_) λj s' h' tk v g q hP st k O Er=>?_
 ·exact sb q.e<|h h' tk λb o n e=>k b o (q.k b o (nJ b o e) n e)<|nJ b o e
 ·refine aS q.F λm4 f M=>?_
  rw[zU] at hP;have g:j<xs.length:=by rwa[gm,u.len] at g
  refine aS (u.get<|sP g) λv' e5 r=>?_;cases bM hP e5;refine bf (QAm<|dR.mp Q _<|List.getElem_mem g) λy1 y2 W o1 o2=>?_;rw[W] at r;refine Ea (QBR r) λb1 nw z1 z2 ev p=>sb ev ?_;have U:=k _ _ (q.k _ _ (nJ _ _ p) (λz=>by rw[z,L] at p;clear L r W;cases p;contradiction) p)<|nJ _ _ p;exact Yd N dp ⟨f.gl,λb o e=>k b o (f.base b o e)<|nJ b o<|F.base b o e,f.loc.at λo e=>k _ o e l,f.hk,f.hg,f.hb⟩ hL e1 e2 e3 M (λH K=>Inst.but I ((λH K b o n e=>K b o n<|k b o (q.k b o (nJ b o e) n e)<|nJ b o e) H K) n1 n2) U o1 o2 l1 l2 λH t2 m2 F2 C K=>⟨by exact sb q.e rfl,st.1.at λo e=>K _ o (lM l) e,st.2.at λo e=>K _ o na e,⟨m2,F2,C⟩,λb o B nl e=>K b o nl<|k b o (q.k b o B nl e) B⟩
theorem UO {A:cV} {s:aN} {vs:List aI} {xs:List aK} {E:aI->aN->Prop} (hA:A.handled=aF) (hdp:A.depth<950) (hu:A.units<9700) (base: ∀b o,(G w.params X).get? b=aA o->s.heap.get? b=aA o) (fN: ∀b o,(G w.params X).get? b=aA o-> ¬ Y b) (dc: ∀b,Y b-> ∃o,s.heap.get? b=aA o)
 (hall:xs.all vE=aB) (ha:s.heap.get? a=aA (listOf vs.toArray m)) (hv:bB Y s.heap vs xs)
 (k: ∀x h' tk,(∀b o,s.heap.get? b=aA o->h'.get? b=aA o)->jD.HI Y h' x a->Q (.ref x) {s with heap:=h',toks:=tk}):aO (aY pg w) A (call (.ref jJ) [.ref a]) Q E s:=by
 obtain ⟨hh,g,d,t,os⟩:=s;refine wpAny_call_obj_init PySem.F.objNew (base _ _ qw) (yC.keeps base) ((kQ _).trans (by lia:DG (rD<|ob 326 w.params) "__init__" =aA (.ref 221))) (base _ _<|gg (by lia:hU (eI w.params X) 414 cZ 221=aA (ob 221 w.params))) rfl (λh' x dx Mk=>?_);have base': ∀b o,(G w.params X).get? b=aA o->h'.get? b=aA o:=λb o e=>Mk.keeps _ _<|base b o e;refine wq (Qc (fd:=uz w.params) (body:=fI<|dB 28 0) (binds:=[(("self"),.ref x),(("headers"),.ref a)]) ?_ (base' _ _<|gg (by lia:hU (eI w.params X) 414 cZ 221=aA (ob 221 w.params))) (by lia) (mr.lim.keeps base') ((R7 w.params X).keeps base') (by lia) (Y0 base' _ _) ?_ ?_ (λh1 ns k1=>?_) (by lia) (by lia)<|by lia)
 ·refine (?_)
  exact ig ‹_› (by decide)
 ·exact λx hx=>by simpa -iota using dR.mp (by lia:(uz w.params).scope.names.all (λx=> !(x.2==.cell))=aB) x hx
 ·intro y hy
  simp! only[bp,gU,or_false] at hy
  rcases hy with rfl|rfl<;>lia
 have F:fK (G w.params X) (mg w X) (GA w.params h'.objs.size) _ h1:=⟨mr,λb o e=>k1 _ _<|base' b o e,ns,by lia,by lia,by lia⟩
 have hL:(G w.params X).get? h'.objs.size=none:=by
  induction q:(G w.params X).get? h'.objs.size with
  |none=>rfl
  |some o=>exact QGv (kg<|base' _ _ q)<|mG _
 have ha1:=k1 _ _<|Mk.keeps _ _ ha;refine ip<|jg rfl rfl rfl (wpAny_IfExp<|wpAny_isTrue_Compare1 (gQ F (by lia) (u:=.ref a) (by lia) ?_<|by decide+kernel) rfl)
 refine bA<|wpAny_isNot_plain rfl (wpAny_truthy_bool ?_)
 dsimp only[show (!(wQ a==Value.none))=aB from rfl];refine gQ F (by lia) (u:=.ref a) (by lia) ?_ (by decide+kernel);refine qy F (by lia) hL λh2 t2 F2 k2=>?_;obtain ⟨m2,F2,mS,mH⟩: ∃m2,fK (G w.params X) (mg w X) (GA w.params h'.objs.size) m2 h2/\m2 "self" =aA (.ref x)/\m2 "headers" =aA (.ref a):=⟨_,F2,by lia,by lia⟩;have iZ: ∀b o,h'.get? b=aA o->b≠h'.objs.size:=λb o e q=>by simp! only[q,(ie<|bh _)] at e;exact ay e
 have k12: ∀b o,h'.get? b=aA o->h2.get? b=aA o:=λb o e=>k2 b o (iZ b o e)<|k1 b o e;have xa:a≠x:=λq=>by have:=Mk.newX;simp! only[<-q] at this;exact cb this ha
 refine ip<|wpAny_If (wpAny_isTrue_Compare1 (wpAny_Call_Name_kw<|xn F2 (by lia) (xc _<|by decide+kernel) (u:=.type "type") (by lia) ?_ (by decide+kernel)<|by decide+kernel) rfl)
 refine wg rfl (gN rfl ?_);refine uX (gQ F2 (by lia) (u:=.ref a) mH (lN ?_)<|by decide+kernel);refine Pp (x:=.ref a) (Tx:= "list") ⟨_,(k12 _ _<|Mk.keeps _ _ ha),rfl⟩ (by decide+kernel)<|xn F2 (by lia) (xc _<|by decide+kernel) (u:=.type "list") (by lia) ?_ (by decide+kernel) (by decide+kernel)
 refine Pd rfl (oq ?_);refine sb (QGw<|by decide)<|wpAny_execs_nil ?_
 refine ip<|plainObj_wpAny_Assign_Attribute (gQ F2 (by lia) (u:=.ref a) mH (gQ F2 (by lia) (u:=.ref x) mS ?_<|by decide+kernel)<|by decide+kernel)
 have xC:x≠jJ:=λq=>by
  have e:=base _ _<|qw (w:=w) (X:=X);have:=Mk.newX
  simp! only[q] at this
  exact QGv (e.symm.trans this) (by intro q;exact pR q)
 obtain ⟨ox,hx,hcx,Gu,hdx⟩:=id Mk.inst;have hdd:=Mk.dict ox hx;refine store_attr PySem.F.store_object (F2.base _ _ qw:h2.get? jJ=aA _) (yC.keeps F2.base) ((kQ _).trans<|by lia) ((kQ _).trans<|by lia) (by ac_nf) xC (Mk.inst.keeps k12:h2.Inst x jJ λO=>aF) (ns:=[]) (λh3 t3 I3 k3 sm3=>?_) (λy hy=>QGv rfl hy) (by decide);refine uC (sm3 ox<|k12 _ _ hx) λox3 hx3 hcx3 OT hs3 hdd3=>?_;have hdd3:=hdd3 dx hdd
 have k23: ∀b o,b≠x->b≠dx->h2.get? b=aA o->h3.get? b=aA o:=λb o n1 n2 e=>k3 b o n1 (λo₀ d' e₀ ed=>by
  obtain rfl:=bM (k12 _ _ hx) e₀;obtain rfl:=bM hdd ed
  exact n2) e
 have nx: ∀b o,hh.get? b=aA o->b≠x/\b≠dx:=λb o e=>⟨λq=>(by have:=Mk.newX;simp! only[<-q] at this;exact cb this e),λq=>(by have:=Mk.newD;simp! only[<-q] at this;exact cb this e)⟩;have k03: ∀b o,hh.get? b=aA o->h3.get? b=aA o:=λb o e=>k23 b o (nx b o e).1 (nx b o e).2<|k12 _ _<|Mk.keeps _ _ e
 have hdn: ∃od,h'.get? dx=aA od:=by
  rcases hdx with ⟨hn0,_⟩|⟨d',hd',_,hns'⟩
  ·exact cb hn0 hdd
  ·obtain rfl:=bM hdd hd'
   obtain ⟨od,_,_,e,_⟩:=hns';exact ⟨od,e⟩
 refine aV hdn λod hod=>?_;have F3:fK (G w.params X) (mg w X) (GA w.params h'.objs.size) m2 h3:=by obtain ⟨oL,es,ep,eL,rL⟩:=F2.loc;exact ⟨mr,λb o e=>k03 b o<|base b o e,⟨oL,es,ep,k23 _ _ (λq=>QGv q.symm<|iZ _ _ hx) (λq=>QGv q.symm<|iZ _ _ hod) eL,rL⟩,F2.hk,F2.hg,F2.hb⟩
 have ha3:=k03 _ _ ha
 have HI3:jD.HI Y h3 x a:=⟨λq=>(by refine aV (dc _ q) λo e=>?_;exact cb Mk.newX e),λo d' e ed q=>(by
  obtain rfl:=bM hx3 e;obtain rfl:=bM hdd3 ed
  exact aV (dc _ q) λo e=>cb Mk.newD e),I3⟩
 refine ip<|wpAny_If<|wpAny_isTrue_value ?_
 refine bA<|oq ?_;dsimp only[if_pos rfl];refine ip<|wpAny_For (gQ F3 (by lia) (u:=.ref a) mH (wpAny_pyIter_list (gO ha3) ?_)<|by decide+kernel) λO=>rfl
 have nx0:=iZ _ _ hx
 have n2: ∀o d,h3.get? x=aA o->o.dict=aA d->d≠h'.objs.size:=λo d e ed=>by
  cases bM hx3 e
  cases bM hdd3 ed
  exact iZ _ _ hod
 refine xk (m:=m2) hA (aQ hdp:A.depth+1+1<990) F3 hL (by lia) (by lia) (by lia) mS I3 nx0 n2 (iZ _ _<|Mk.keeps _ _ ha) hall ha3 (hv.mon<|Mon.all k03) rfl rfl λh5 t5 k5=>zo<|zo ⟨rfl,k x h5 t5 (λb o e=>k5 b o (iZ _ _<|Mk.keeps _ _ e)<|k03 b o e) ⟨HI3.1,λo d e ed=>?_,Inst.but I3 k5 nx0 n2⟩⟩;cases bM (k5 _ _ nx0 hx3) e;exact HI3.2.1 _ _ hx3 ed
end B01
section
variable {prog:sF} {w:bx} {A:cV} {E:aI->aN->Prop} {s:aN}
theorem Jx:QM (.type "set") "__bool__" =pure none:=by rw[QN,QO];lia
theorem Oj:AB #[x] 0= #[]:=rfl
theorem M_ {α:Type} (xs:Array α) (p:Nat) (x:α):(Qd xs p x).size=xs.size+1:=by
 unfold Qd
 simp! only[Qe,QI,uR]
 exact ((Qg (p)<|xs.size).elim (λu=>(ji (bD (na (na (nL<|sE ((by simp+arith):0<=min p xs.size))<|nL<|sE ((bD u<|nR<|fz ((by simp+arith):xs.size<=xs.size)):p<=min xs.size xs.size))<|nL<|fz (u:p<=xs.size))<|nL<|fz ((by simp+arith):xs.size<=xs.size))<|bD (na (na (nR<|fz ((by simp+arith):xs.size<=xs.size))<|nR<|sE ((bD u<|nR<|fz ((by simp+arith):xs.size<=xs.size)):p<=min xs.size xs.size))<|nR<|fz (u:p<=xs.size))<|nR<|sE ((by simp+arith):0<=min p xs.size))) λu=>(rF (ea (QFI (u:xs.size<=p))<|sE ((by simp+arith):0<=min p xs.size))<|xB ((bD (nL<|fz ((by simp+arith):xs.size<=xs.size)) u):min xs.size xs.size<=p)))
theorem QAr (h:Q 0 {s with drawn:=s.drawn.bump L}):aO M A (choose L 1) Q E s:=λH p _=>by
 unfold choose
 simp! only[Sem.wp_choose]
 refine ⟨by decide,?_⟩
 simp! only[Nat.mod_one]
 exact h
theorem EE {K:Type} [DecidableEq K] {knd:KeyKind prog w K} {S:K->Bool} (U:s.heap.SetOf knd a S n) (h: ∀tk,Q (n !=0) {s with toks:=tk}):aO (aY prog w) A (Hc<|.ref a) Q E s:=by
 have z:=U.typeIs;obtain ⟨o,c,x,t,j,P,Y,B,Z,b,M,N⟩:=U;have f:(c.size:Int)<2^63:=by have:c.size<4096:=b;exact bE<|oL this
 have v:aO (aY prog w) A (QT<|.builtin "len" ⟨[.ref a],[]⟩) (λr d=>r=.int (c.size:Nat) (s.toks+1)/\Q (n !=0) d) E s:=by refine wpAny_runValue<|QL entry_len ?_;refine eX (wpAny_len_body_set (Q:=λr d=>r=.int (c.size:Nat) (s.toks+1)/\Q (n !=0) d) j P Y M f ⟨rfl,h _⟩) (λR d H=>by refine aS H λr g q=>?_;erw[g];exact q) λO O e=>e
 have C:(((c.size:Nat):Int) !=0)=(n !=0):=by rw[N,uS,bne_iff_ne,bne_iff_ne];clear N;simp+arith
 first
  |refine wpAny_bind<|wpAny_callSpecial?_none z Jx ?_
  |refine wpAny_bind<|wpAny_pure<|wpAny_bind<|wpAny_callSpecial?_none z Jx ?_
 first
  |refine wpAny_bind<|wpAny_specialOf z F.slot_set_len.lookup ?_
  |refine wpAny_bind<|wpAny_pure<|wpAny_bind<|wpAny_specialOf z F.slot_set_len.lookup ?_
 first
  |exact wpAny_bind (wpAny_mono v (λr d H=>by refine bI H λp q=>?_;erw[p];exact bA (by simp! only[C];exact q)) λO O e=>e)
  |exact wpAny_bind (wpAny_pure (wpAny_bind (wpAny_mono v (λr d H=>by obtain ⟨rfl,q⟩:=H;exact bA (by simp! only[C];exact q)) λO O e=>e)))
theorem RH (U:s.heap.SetOf (iq prog w) a (λk=>decide (k=n)) 1)
 (h: ∀{d:Drawn} h' t,HZ a s.heap h'->h'.SetOf (iq prog w) a (λO=>aE) 0->Q (.int n t) {s with heap:=h',drawn:=d}):aO (aY prog w) A (call (.builtin "set.pop") [.ref a]) Q E s:=by
 refine H0 F.slot_set_pop U.typeIs F.entry_set_pop ?_<|F.args_set_pop_1 _;obtain ⟨o,es,Y,t,z,hex,hd,N,B,hb,hf,hn⟩:=U;have c: ∃e,es= #[e]:=by obtain ⟨l⟩:=es;exact lI (P:=λl=> ∃e,(⟨l⟩:Array (Int×aI))= #[e]) (λe=>⟨e,rfl⟩) l hn
 refine aV c λx g=>?_;obtain ⟨H,v⟩:=x;clear hb hn;subst g;refine bI (N (H,v)<|.head _) λx O=>aS x λZ K O=>?_;have C:Z=n:=by have:=(B Z).mpr<|ax (H,v) (.head _) K;simpa -iota using this
 clear B;subst C;refine aV (QFG (K:mR Z v=aB)) λtk g=>?_;clear N K;subst g;have p:t.place.size=1/\t.fill<=t.mask:=by unfold QFJ at hf;rw[gn,beq_iff_eq,decide_eq_true_eq] at hf;exact ⟨hf.1,hf.2⟩
 have W:t.popPlace=aA 0:=by
  delta SetTable.popPlace;have:t.place.isEmpty=false:=by rw[Array.isEmpty_eq_false_iff_exists_mem];exact ⟨t.place[0]'(aQ<|nR p.1),Array.getElem_mem _⟩
  refine sb this<|sb (if_neg<|by decide) ?_
  dsimp only;erw[p.1]
  congr 1
  split<;>omega
 have f:(t.popped 0).fits 0=true:=by
  delta SetTable.popped SetTable.drop;erw[(QEb ((aQ<|nR p.1)):t.place[0]?=aA (t.place[0]'(aQ<|nR p.1)))];delta QFJ QFK;have L:=p.2;unfold QFK at L
  simp! only[gn,QGy,decide_eq_true_eq]
  refine ⟨?_,?_⟩
  ·refine (?_:(AB t.place 0).size=0)
   delta AB
   simp! only[Qe,uR]
   clear x c;exact (ji (bD (na (na (na (nL<|sE ((by simp+arith):0<=min 0 t.place.size))<|nL<|sE ((bD (nR p.1)<|nR<|fz ((by simp+arith):t.place.size<=t.place.size)):0+1<=min t.place.size t.place.size))<|nL<|fz ((by simp+arith):0<=t.place.size))<|nL<|fz ((by simp+arith):t.place.size<=t.place.size))<|nL p.1)<|by simp+arith)
  ·refine (?_:(AB t.place 0).size+(Qd t.dummies _ _).size<=t.mask)
   rw[M_];delta AB
   simp! only[Qe,uR]
   clear x c;exact (bD (na (na (na (nL<|sE ((by simp+arith):0<=min 0 t.place.size))<|nL<|sE ((bD (nR p.1)<|nR<|fz ((by simp+arith):t.place.size<=t.place.size)):0+1<=min t.place.size t.place.size)) L)<|nL<|fz ((by simp+arith):0<=t.place.size))<|nL<|fz ((by simp+arith):t.place.size<=t.place.size))
 have dk: ∀d,aO (aY prog w) A.in1 (do
  storeSet a (AB #[(H,QU Z tk)] 0) (t.popped 0)
  pure (aA<|QU Z tk)) (λr i=> ∃y,r=aA y/\Q y i) E {s with drawn:=d}:=by
  intro d;refine aR (wpAny_storeSet_of (s:={s with drawn:=d}) z hd ?_ (by erw[Oj];exact hJ _));refine bA<|ax _ rfl (h _ tk (H4 ..) ?_);refine sb Oj<|⟨{o with data:=.set #[] (Y+1)<|t.popped 0}, #[],Y+1,t.popped 0,?_,hex,rfl,(λe he=>by simp -iota at he),(λk=>by simp),by decide,f,rfl⟩
  erw[wo _ z (by rw[putSet_of _ _ hd];rfl)];exact sb (putSet_of _ _ hd) rfl
 delta wx.«set.pop» Builtin.Frozenset.noArgs Builtin.Frozenset.addrOf
 simp! only[bind_assoc]
 refine aR<|bA ?_;refine aR<|eX (Q:=λr i=> ∃y,r=aA y/\Q y i) (E:=E) ?_ (λr i R=>?_) λO O e=>e
 ·delta setPop
  refine aR<|wpAny_setState_of z hd hf ?_;dsimp only;rw[W];delta setsByText;refine aR<|aR<|QFL<|bA ?_;by_cases b:(w.params.followText "set-order" ||false)=true
  ·rw[if_pos (by
    refine (?_:(w.params.followText "set-order" ||(!t.plain && decide (1>1)))=true);rw[Bool.or_false] at b;rw[b]
    rfl)]
   refine aR<|QAr ?_;exact dk _
  ·rw[if_neg (by
    refine (?_: ¬ (w.params.followText "set-order" ||(!t.plain && decide (1>1)))=true)
    simp! only[show decide (1>1)=aE from rfl,uj]
    exact b)]
   refine (?_:aO _ _ ((if (!t.led && decide (1>1))=aB then unsupported _ else pure ())>>=_) _ _ _);rw[if_neg (by rw[show decide (1>1)=aE from rfl,uj];decide)];refine aR<|bA<|aR<|bA ?_;exact dk s.drawn
 ·exact aS R λy g q=>sb g<|wpAny_pure<|ax _ rfl q
end
namespace B01
variable {w:bx} {X:Nat->bH} {n:Nat}
noncomputable def tE (P:bZ):FuncData:=dH<|ob 46 P
theorem Ya (P:bZ) (X:Nat->bH):(G P X).CodeRec (tE P).code (tE P).qualname:=⟨45,ob 45 P,kH<|ob 45 P,292,by lia,gg (by lia),by lia,by lia⟩
theorem ZN {X:Nat->bH} (B: ∀b o,(G P X).get? b=aA o->s.heap.get? b=aA o) (u v z:aI):BindsTo s (tE P) ⟨[u,v,z],[]⟩ [(("w" :aG),u),(("base" :aG),v),(("more_than" :aG),z),(("show" :aG),.bool aE)]:=by intro M A E Q q;refine (?_:aO M A (QJ (.ref 39)>>=_) Q E s);refine aR (H7 (B _ _ (gg<|by lia):s.heap.get? 39=aA (ob 39 P)) rfl ?_);exact qo (by lia) q
noncomputable abbrev xo (P:bZ) (L:aM):Env:=IM (tE P) L 46
theorem me {K:Type} [DecidableEq K] {knd:KeyKind prog w K} {h h':bK} {S:K->Bool} (x:h.SetOf knd a S n) (k: ∀o,h.get? a=aA o->h'.get? a=aA o):h'.SetOf knd a S n:=by have e:=x.elim λo x=>x.elim λO x=>x.elim λO x=>x.elim λO x=>(k o x.1).trans x.1.symm;delta Heap.SetOf;refine sb e x
theorem ZA {vs:Array aI} {E:aI->aN->Prop} (e:env.code=.ref c) (z:s.heap.get? c=aA o) (hd:o.data=.fields vs) (h: ∀b,Q b s):aO M A (inMainModule env) Q E s:=by
 dsimp only[inMainModule];erw[e]
 split
 ·exact bA<|h _
 ·refine aR (QH z hd ?_)
  split
  ·exact aR<|QFL<|bA<|h _
  ·exact bA<|h _
theorem L1 {w:bx} {K:Type} [DecidableEq K] {knd:KeyKind prog w K} {h:bK} (led:Bool):(h.push {cls:=.type "set",dict:=aF,data:=.set #[] 0<|.fresh 0 0 led}).SetOf knd h.objs.size (λO=>aE) 0:=⟨_, #[],0,_,fG _ rfl,⟨rfl,rfl,rfl⟩,rfl,λe F=>by simp at F,λk=>by simp,by decide,by rfl,rfl⟩
theorem HA (F:fK g M env m h) (e:h.get? a=aF):a≠env.locals:=λq=>by refine oh F.loc λo O O s O=>?_;rw[q] at e;exact cb e s
theorem mkSet {pos:bP} {env:cg} {s:aN} {E:aI->aN->Prop} (F:fK (G w.params X) (mg w X) env m s.heap) (C:env.kindOf nm=aA .local) (K:env.kindOf "set" =aA .globalImplicit) (L:(G w.params X).get? env.locals=aF)
 (H:jj [.Name nm P] (.Call (.Name "set" p) [] [] f) pos.line env=pure aE) (h:mQ [.Name nm P] (.Call (.Name "set" p) [] [] f) env=pure aF)
 (q: ∀a h' tk,fK (G w.params X) (mg w X) env (λy=>if y=nm then aA (.ref a) else m y) h'->h'.SetOf (iq pg w) a (λO=>aE) 0->s.heap.get? a=aF->a≠env.locals->(∀b o,b≠env.locals->s.heap.get? b=aA o->h'.get? b=aA o)->Q .next {s with heap:=h',toks:=tk}):
 aO (aY pg w) A (o3 (.Assign [.Name nm P] (.Call (.Name "set" p) [] [] f) pos) env) Q E s:=by
 refine jg H h rfl (qn<|xn F K ((jc (w:=w) (X:=X) "set").trans<|by lia) (u:=.type "set") (by lia) ?_ (by decide+kernel)<|by decide+kernel);refine wg rfl (gN rfl (lN<|call_set_0 λR=>?_));have x:s.heap.get? s.heap.objs.size=none:=ie<|bh _;have Z: ∀b o,s.heap.get? b=aA o->(s.heap.push {cls:=.type "set",dict:=aF,data:=.set #[] 0<|.fresh 0 0 R}).get? b=aA o:=λO O e=>gS _ e;have N:=HA F x;exact qy (F.keeps Z) C L λl B M t=>q _ l B M (me (L1 R) λo e=>t _ o N e) x N λb o n e=>t b o n<|Z b o e
structure CQ (w:bx) (X:Nat->bH) (L a1 a2 a3:aM) (t3:fF) (s:aN) (h:bK):Prop where
 F: ∃m,fK (G w.params X) (mg w X) (xo w.params L) m h/\m "ws" =aA (.ref a3)/\m "seen" =aA (.ref a1)/\m "need" =aA (.ref a2)/\m "more_than" =aA (.int 2048 t3)
 S1:h.SetOf (iq pg w) a1 (λO=>aE) 0
 S2:h.SetOf (iq pg w) a2 (λO=>aE) 0
 k:Kp s.heap h
structure CA (w:bx) (X:Nat->bH) (L a1 a2 a3:aM) (s:aN):Prop where
 hL:(G w.params X).get? L=aF
 base:Kp (G w.params X) s.heap
 sL:s.heap.get? L=aF
 s3:s.heap.get? a3=aF
 e1:a1≠L
 e2:a2≠L
 e3:a3≠L
 JJ:a1≠a3
 KX:a2≠a3
theorem vK {h:bK} (n:h.get? a=aF) (e:h.get? b=aA o):b≠a:=λq=>cb (q▸n) e
section
variable {L a1 a2 a3:aM} {t3:fF} {s:aN} {h h':bK} {A:cV} {E:aI->aN->Prop}
theorem CA.G3 (C:CA w X L a1 a2 a3 s) {b o} (e:(G w.params X).get? b=aA o):b≠a3:=vK C.s3<|C.base _ _ e
theorem PS (F:fK (G w.params X) (mg w X) env m h) (g: ∀b o,(G w.params X).get? b=aA o->b≠a) (n:a≠env.locals) (k:Kx a h h'):fK (G w.params X) (mg w X) env m h':=⟨mr,λb o e=>k b o (g b o e)<|F.base b o e,F.loc.at λo e=>k _ o (lM n) e,F.hk,F.hg,F.hb⟩
theorem Yy {k:Int} (P:k<=2048) {d:Drawn} {p0 v p p3 p4 u r1 r2 Z z R r j:bP} {Q:hM->aN->Prop} (C:CA w X L a1 a2 a3 s) (q:CQ w X L a1 a2 a3 t3 s h) (g:h.SetOf (iq pg w) a3 (λk'=>decide (k'=k)) 1)
 (l:(p.endLine==p3.line)=aB)
 (hQ: ∀h' tk d,CQ w X L a1 a2 a3 t3 s h'->h'.SetOf (iq pg w) a3 (λO=>aE) 0->Q .cont {s with heap:=h',toks:=tk,drawn:=d}):
 aO (aY pg w) A (fV (.Assign [.Name "w" p0] (.Call (.Attribute (.Name "ws" v) "pop" p) [] [] p3) p4:: .If (.BoolOp .Or [.Compare (.Name "w" u) [.In] [.Name "seen" r1] r2,.Compare (.Name "w" Z) [.LtE] [.Name "more_than" z] R] r) [.Continue j] [] r::rest)<|xo w.params L) Q E {s with heap:=h,toks:=tk,drawn:=d}:=by
 refine uC q.F λm F W N mN x=>ip (jg rfl rfl rfl (wj rfl rfl l (gQ F (by lia) W ?_<|by decide+kernel)));refine ⟨"set","set.pop",PySem.F.plainAttrs_set,PySem.F.slot_set_pop,PySem.F.type_set_pop,g.typeIs,g.noDict,we rfl (gN rfl (lN<|RH g λ{Y} H t U S8=>?_))⟩;have M:Kx a3 h H:=λb o n e=>(U.2 b n).trans e;refine qy (PS F (λO O e=>C.G3 e) C.e3 M) (by lia) C.hL λB t9 f K=>?_;have S1:=me q.S1 λo e=>K _ o C.e1<|M _ o C.JJ e;have hq:=λtk d=>hQ B tk d (⟨⟨_,f,W,N,mN,x⟩,S1,me q.S2 λo e=>K _ o C.e2<|M _ o C.KX e,λb o e=>K b o (vK C.sL e)<|M b o (vK C.s3 e)<|q.k b o e⟩)<|me S8 λo e=>K _ o C.e3 e;refine ip<|H6 ?_;refine aR (He (gQ f (by lia) rfl (gQ f (by lia) N ?_<|by decide+kernel) (by decide+kernel)) rfl);refine QFH (QHA k:mR k (.int k t)=aB) rfl S1 (oq ?_);refine aR (He (gQ f (by lia) rfl (gQ f (by lia) x ?_<|by decide+kernel) (by decide+kernel)) rfl);refine Kq (op:=.LtE) (a:=k) (b:=2048) (c:=aB) ((QHD P:decide (k<=2048)=aB)▸ .le) λi=>oq<|bA ?_;exact ip<|QEf<|hq _ _
theorem SP {r:List cx} (C:CA w X L a1 a2 a3 s) (q:CQ w X L a1 a2 a3 t3 s h)
 (hQ: ∀d h' tk,Kp s.heap h'->h'.get? d=aA i3->s.heap.get? d=aF->Q (.ret<|.ref d) {s with heap:=h',toks:=tk,drawn:=Z}):
 aO (aY pg w) A (fV (.Assign [.Name "d" N] (.Dict [] [] p) P:: .If (.UnaryOp .Not (.Name "need" l) r1) [.Return (aA<|.Name "d" r2) c] [] R::r)<|xo w.params L) Q E {s with heap:=h,toks:=tk,drawn:=Z}:=by
 refine uC q.F λm F W v U x=>?_;have u:h.get? h.objs.size=none:=ie<|bh _;have g:Kp h (h.push i3):=λO O e=>gS _ e;have n:=HA F u
 have Y:s.heap.get? h.objs.size=none:=by
  induction z:s.heap.get? h.objs.size with
  |none=>rfl
  |some o=>exact vH (q.k _ _ z) u
 refine ip<|jg rfl rfl rfl (wpAny_Dict_empty<|?_);refine qy (F.keeps g) (by lia) C.hL λH a f K=>?_;have B:=me q.S2 λo e=>K _ o C.e2<|g _ o e;have M:=λtk=>hQ _ H tk (λb o e=>K b o (vK C.sL e)<|g b o<|q.k b o e) (K _ _ n<|fG _ rfl) Y;refine ip (H6<|QEG<|IP<|gQ f (by lia) U (EE B λt=>?_)<|by decide+kernel);exact sb (QGx<|by decide)<|wpAny_execs_cons (wpAny_Return_some<|gQ f (by lia) rfl (M _) (by decide+kernel))
end
theorem Q2 {k:Int} (hk:k<=2048) {A:cV} {s:aN} {E:aI->aN->Prop} (hA:A.handled=aF) (hdp:A.depth<950) (base: ∀b o,(G w.params X).get? b=aA o->s.heap.get? b=aA o)
 (q: ∀{dr:Drawn} d h' tk,(∀b o,s.heap.get? b=aA o->h'.get? b=aA o)->h'.get? d=aA i3->s.heap.get? d=aF->Q (.ref d) {s with heap:=h',toks:=tk,drawn:=dr}):aO (aY pg w) A (call (.ref 46) [.int k t1,.int 5 t2,.int 2048 t3]) Q E s:=by
 refine wq (Qc (fd:=tE w.params) (body:=fI<|bO 3) (binds:=[(("w" :aG),.int k t1),(("base" :aG),.int 5 t2),(("more_than" :aG),.int 2048 t3),(("show" :aG),.bool aE)]) (by refine (?_:A.depth<1000);exact az ‹_› (gA _ _)) (base _ _<|gg (by lia:hU (eI w.params X) 414 cZ 46=aA (ob 46 w.params))) (by lia) (mr.lim.keeps base) ((Ya w.params X).keeps base) (by lia) (ZN base _ _ _) ?_ ?_ (λh1 ns k1=>?_) (by lia) (by lia)<|by lia)
 ·exact λx hx=>by simpa using dR.mp (by lia:(tE w.params).scope.names.all (λx=> !(x.2==.cell))=aB) x hx
 ·intro y hy
  simp only[bp,gU,or_false] at hy;clear hk hA hdp base q;rcases hy with rfl|rfl|rfl|rfl<;>lia
 have F:fK (G w.params X) (mg w X) (xo w.params s.heap.objs.size) _ h1:=⟨mr,λb o e=>k1 _ _<|base b o e,ns,by lia,by lia,by lia⟩;have hLn:s.heap.get? s.heap.objs.size=none:=ie<|bh _;have iZ: ∀b o,s.heap.get? b=aA o->b≠s.heap.objs.size:=λb o e q=>by simp only[q,hLn] at e;exact ay e
 have hL:(G w.params X).get? s.heap.objs.size=none:=by
  clear hA hdp ns k1 F hLn;induction q:(G w.params X).get? s.heap.objs.size with
  |none=>rfl
  |some o=>exact QGv rfl (iZ _ _<|base _ _ q)
 have hLn':=hLn;generalize hLL:s.heap.objs.size=L at*;refine ip<|mkSet F (by lia) (by lia) hL rfl rfl λa1 h2 t2' F2 S1 n1 ne1 k2=>?_
 have k12: ∀b o,s.heap.get? b=aA o->h2.get? b=aA o:=λb o e=>k2 b o (iZ b o e)<|k1 b o e;refine ip<|mkSet F2 (by lia) (by lia) hL rfl rfl λa2 h3 t3' F3 S2 n2 ne2 k3=>?_
 have S1:=me S1 λo e=>k3 _ o ne1 e;have k13: ∀b o,s.heap.get? b=aA o->h3.get? b=aA o:=λb o e=>k3 b o (iZ b o e)<|k12 b o e;refine ip<|jg rfl rfl rfl ?_
 rw[arm_eval_Set];refine aR (iJ<|aR<|ZA (c:=45) (o:=ob 45 w.params) (vs:=kH<|ob 45 w.params) (by lia) (F3.base _ _<|gg<|by lia) (by lia) λbb=>?_);refine kds_core (ts:=[do let v<-bz (.Name "w" _) _;sM _;pure v]) rfl rfl (by decide:(1:Nat)<=30) rfl λled=>?_;have hn3:h3.get? h3.objs.size=none:=ie<|bh _;have kp3: ∀b o,h3.get? b=aA o->(h3.push {cls:=.type "set",dict:=aF,data:=.set #[] 0<|.fresh 0 0 led}).get? b=aA o:=λO O e=>gS _ e;refine uC (⟨_,F3,by lia,by lia,by lia,by lia⟩: ∃m3,fK (G w.params X) (mg w X) (xo w.params L) m3 h3/\m3 "w" =aA (.int k t1)/\m3 "seen" =aA (.ref a1)/\m3 "need" =aA (.ref a2)/\m3 "more_than" =aA (.int 2048 t3)) λm3 F3 m3w m3s m3n m3m=>?_;have F4:=F3.keeps kp3;have ne3:=HA F3 hn3
 have n3:s.heap.get? h3.objs.size=none:=by
  induction z:s.heap.get? h3.objs.size with
  |none=>rfl
  |some o=>exact vH (k13 _ _ z) hn3
 have CC:CA w X L a1 a2 h3.objs.size s:=⟨hL,base,hLL▸hLn',n3,ne1,ne2,ne3,λq=>by refine Ea S1 λo O O O e O=>?_;rw[q] at e;exact cb hn3 e,λq=>by refine Ea S2 λo O O O e O=>?_;rw[q] at e;exact cb hn3 e⟩;have S30:(h3.push {cls:=.type "set",dict:=aF,data:=.set #[] 0<|.fresh 0 0 led}).SetOf (iq pg w) h3.objs.size (λO=>aE) 0:=L1 led;have S1:=me S1 λo e=>kp3 _ o e;have S2:=me S2 λo e=>kp3 _ o e;have k14:Kp s.heap (h3.push {cls:=.type "set",dict:=aF,data:=.set #[] 0<|.fresh 0 0 led}):=λb o e=>kp3 b o<|k13 b o e;generalize h3.objs.size=a3 at*;generalize (h3.push {cls:=.type "set",dict:=aF,data:=.set #[] 0<|.fresh 0 0 led})=h4 at*;refine aR (aR<|gQ (s:={s with heap:=h4,toks:=_}) F4 (by lia) (u:=.int k t1) m3w (aR<|iJ<|bA ?_)<|by decide+kernel);refine aR<|cO<|bA<|bA ?_;refine kds_fill_cons ?_;dsimp only[setAdd];refine cO<|aR<|(iq pg w).pyHash (k:=k) (QHA k:mR k (.int k t1)=aB) ?_;refine wpAny_setAddHashed_of (knd:=iq pg w) (k:=k) (QHA k:mR k (.int k t1)=aB) rfl S30 (by decide) λh5 sb5 S3=>kds_fill_nil rfl ?_;have k5:Kx a3 h4 h5:=λb o n e=>(sb5.2 b n).trans e;refine qy (s:={s with heap:=h5,toks:=_}) (PS F4 (λO O e=>CC.G3 e) CC.e3 k5) (by lia) hL λh6 t6 F6 k6=>?_;have q6:CQ w X L a1 a2 a3 t3 s h6:=⟨⟨_,F6,rfl,m3s,m3n,m3m⟩,me S1 λo e=>k6 _ o CC.e1<|k5 _ o CC.JJ e,me S2 λo e=>k6 _ o CC.e2<|k5 _ o CC.KX e,λb o e=>k6 b o (vK CC.sL e)<|k5 b o (vK CC.s3 e)<|k14 b o e⟩;have S3:h6.SetOf (iq pg w) a3 (λk'=>decide (k'=k)) 1:=me (by simpa using S3) λo e=>k6 _ o CC.e3 e;refine ip<|wpAny_While ?_;refine QEh (λq s'=> ∃h tk dr,s'={s with heap:=h,toks:=tk,drawn:=dr}/\CQ w X L a1 a2 a3 t3 s h/\((q=2/\h.SetOf (iq pg w) a3 (λk'=>decide (k'=k)) 1)\/(q=1/\h.SetOf (iq pg w) a3 (λO=>aE) 0))) ?_ 2 ⟨h6,t6,s.drawn,rfl,q6,.inl ⟨rfl,S3⟩⟩;refine λq' s' hs=>dS hs λh tk dr es Cq hq=>sb es<|uC Cq.F λm F7 mW O O O=>IP (gQ F7 (by lia) (u:=.ref a3) mW ?_<|by decide+kernel)
 clear hA hdp base k1 hLL ns F hLn iZ hL hLn' F2 S1 n1 ne1 k2 k12 F3 S2 n2 ne2 k3 k13 m3w m3s m3n m3m hn3 ne3 n3 kp3 F4 k14 S30 sb5 k5 F6 k6 q6 hs es F7 mW;rcases hq with ⟨rfl,S3⟩|⟨rfl,S3⟩
 ·exact EE S3 λtk8=>sb (QGx<|by decide)<|Yy (s:=s) hk CC Cq S3 rfl λh9 tk9 dr9 q9 S9=>⟨1,by decide,h9,tk9,dr9,rfl,q9,.inr ⟨rfl,S9⟩⟩
 ·exact EE S3 λtk8=>sb (QGw<|by decide)<|wpAny_execs_nil<|SP (s:=s) CC Cq λd h9 tk9 k9 e n=>q d h9 tk9 k9 e n
end B01
noncomputable def K7 (cf:gr) (C:Fc) (c:List Nat):Bool:=decide ((cf.scope.names.map (·.1)).Nodup) && (cf.scope.names.all (λx=> !(x.2==.cell)) && (cf.scope.names.all (λx=>if x.2==.free then (match C.cM x.1 with|some i=>c.contains i|none=>aB) else aB) && c.all λi=>cP i C.bd))
theorem Zw (h:K7 cf Cow cN=aB) (H:(cf.scope.kind,cf.scope.isCoroutine,cf.scope.isGenerator)=(.function,aE,aE)) (m: ∀j,oi=aA j->j∈cN):rh cf Cow cN oi:=by simp only[sR] at H;refine bI (aD h) λa h=>bI (aD h) λb h=>bI (aD h) λc d=>⟨d5 a,H.1,H.2.1,H.2.2,λx M=>by simpa using dR.mp b x M,λx i e1 e2=>?_,λi t=>bJ<|dR.mp d i t,m⟩;have k:=dR.mp c (x,.free)<|mem_of_lookup e1;rw[if_pos<|by rfl] at k;dsimp only at k;rw[e2] at k;simpa using k
namespace B01
variable {w:bx} {X:Nat->bH} {n:Nat}
theorem gi1: ∀x i,(D w X n).o.gi x i-> ∃t,(D w X n).mg x=aA (.int i t):=by
 intro x i h;have h:x= "_DIV_LIMIT" /\i=4000:=by induction n<;>exact h
 have e0':=h.1;have e1':=h.2;exact sb e0'<|sb e1'<|⟨329,(jc (w:=w) (X:=X) "_DIV_LIMIT").trans<|by lia⟩
theorem QDg: ∃o,(D w X n).G.get? Cs=aA o/\o≠i3:=(ax (ob 1 w.params) (gg<|by lia) (λq=>by
 have:(ob 1 w.params).data=i3.data:=sb q rfl
 exact QGv (show (3:Nat)=0 from (by unfold rD;exact sb this rfl:(rD<|ob 1 w.params).size=(rD i3).size))<|by decide))
theorem VV: ∀k nm f,(D w X n).hm k=aA (nm,f)->20<=k->(D w X n).mg nm=aA (.ref f):=by
 intro k nm f e K;have:=tM _ _ _ (e:nX.lookup k=aA (nm,f));simp only[nX,bp,gU,or_false,sR] at this;clear e;rcases this with ⟨rfl,_⟩|⟨rfl,_⟩|⟨rfl,_⟩|⟨rfl,_⟩|⟨rfl,_⟩
 all_goals exact QGv K (by decide)
theorem SH: ∀{f:Nat} {Y:aM->Prop} {h:bK} {cl:List (aG×aM)} {a:aM},(D w X n).P.CL f Y h cl a-> ∃o fd,h.get? a=aA o/\o.data=.func fd:=by
 rintro f Y h cl a ⟨cf,e,⟨A,i,H,_⟩⟩
 exact (fD _ _ A H)
section
variable[cz<|D w X n] [kq<|D w X n]
theorem QCK: ∀f xs d,OF (aU n) f xs d-> ∃nm a o fd,(D w X<|n+1).fns[f]?=aA nm/\(D w X<|n+1).mg nm=aA (.ref a)/\(D w X<|n+1).G.get? a=aA o/\o.data=.func fd/\nZ (D w X<|n+1) a xs d:=by
 intro f xs d h;induction h with
 |q F x L u m=>subst F x L;exact jy (EA (w:=w) (X:=X) (n:=n+1) (9,"quotedata",119,(ob 119))<|DH (i:=8) rfl) λH B b K=>(HH _ _ _ _ H B b K (by intro A s Y U Q E;exact UU u m))
 |mk e h=>refine bf (Oq (Y5 (w:=w) (X:=X) (n:=n)) _<|tM _ _ _ e) λi r R C p=>jy (EA (w:=w) (X:=X) (n:=n+1) r<|DH R) λH B b K=>?_;have C:r.1=f:=C;exact cv C<|(HH _ _ _ _ H B b K<|p xs d h)
theorem WR: ∀k xs hs z hs',OH (aU n) k xs hs z hs'-> ∃nm f,(D w X<|n+1).hm k=aA (nm,f)/\qx (D w X<|n+1) f xs hs z hs':=by
 intro k xs hs z hs' h;induction h with
 |add e h=>exact sb e<|(fD _ _ rfl (UB h))
 |del e h=>exact sb e<|(fD _ _ rfl (R6 h))
theorem Ta: ∀k xs hs z,OR (aU n) k xs hs z-> ∃nm f,(D w X<|n+1).hm k=aA (nm,f)/\ra (D w X<|n+1) f xs hs z:=by
 intro k xs hs z h;induction h with
 |all e h=>exact sb e<|(fD _ _ rfl (UL h))
 |items e _ h=>exact sb e<|(fD _ _ rfl (JB h))
theorem E_ (x:kJ X):kq (D w X<|n+1) where
 RN:=λR s z h=>by
  induction (h) with
  |items e H h=>exact (fD _ _ rfl (Yw x h H))
  |all e h=>exact nomatch e
theorem FV (F:tV.lookup f=aA (Cow,cf)) (A:K7 cf Cow cN=aB) (m:(cf.scope.kind,cf.scope.isCoroutine,cf.scope.isGenerator)=(.function,aE,aE)) (Q: ∀j,oi=aA j->j∈cN)
 (H:(iz (cw<|Cow.sub cf.scope.names aE aB hbi) cf.ps is && kA ci (Cow.sub cf.scope.names aE aB hbi) b cf.body)=aB) (e:vy (aU n) f is cN oi (b.map SW.w) xs l d L):yN (D w X<|n+1) f xs l d L:=
 SO rfl (by unfold cu;erw[F];rfl) wH (Zw A m Q) ⟨mf .nil (λx xs i is h g=>.cons (fm h) g) (aD H).1,lV nW (aD H).2,rfl⟩ (λC h=>by
  refine aS h λr e1 e2=>?_;obtain rfl:=bM F e1
  exact e2) e
theorem V0: ∀f xs l z L,OL (aU n) f xs l z L->yN (D w X<|n+1) f xs l z L:=by
 intro f xs l z L h;induction h with
 |a e h=>subst e;exact FV (hbi:=QCj) rfl (by lia) (by lia) (λj e=>by exact ay e) (by lia) h
 |b e h=>subst e;exact FV (hbi:=Z0) rfl (by lia) (by lia) (λj e=>by cases e;decide) (by lia) h
 |c e h=>subst e;exact FV (hbi:=S6) rfl (by lia) (by lia) (λj e=>by exact ay e) (by lia) h
end
theorem KV (M:kJ X) (F: ∀f xs d,(D w X n).o.F f xs d-> ∃nm a o fd,(D w X n).fns[f]?=aA nm/\(D w X n).mg nm=aA (.ref a)/\(D w X n).G.get? a=aA o/\o.data=.func fd/\nZ (D w X n) a xs d)
 (H: ∀k xs hs z hs',(D w X n).o.H k xs hs z hs'-> ∃nm v,(D w X n).hm k=aA (nm,v)/\qx (D w X n) v xs hs z hs') (R: ∀k xs hs z,(D w X n).o.R k xs hs z-> ∃nm v,(D w X n).hm k=aA (nm,v)/\ra (D w X n) v xs hs z) (L: ∀f xs l z Z,(D w X n).o.L f xs l z Z->yN (D w X n) f xs l z Z):cz (D w X n) where
 gl:=mr
 J7:=xc (X:=X)
 F:=F
 gi:=gi1
 gs:=λx i h=>by clear F;induction n<;>contradiction
 Lj:=Rx
 v3:=QCp
 yv:=QCu
 Nj:=VV
 H:=H
 R:=R
 Ng:=SH
 L:=L
 conv:=λb=>(ax 228 rfl (λW C {A s Y x a t Q E} R U B I k=>Js C (by have:=R.2.1;refine (?_);exact aQ this) B k))
 b1:=Z9
 b3:=Sh M
 MP:=QDg
 NA:=λ{nm v} e {A s Y x a u Q E} _ B I h=>Yh e B I h
 new:=λ{A s Y a vs m xs Q E} R t B g p K r j k=>UO R.1 (by have:=R.2.1;exact aQ this) (by have:=R.2.2;refine (?_);exact aQ this) B g p K r j k
 DY:=R1
 Oc:=(qV 46 (ob 46 w.params) (tE w.params) ((jc (w:=w) (X:=X) "compute_powers").trans<|by lia) (gg<|by lia) (by lia) λk h0 P {A s N c t3 Q E} R t B q=>Q2 P R.1 (by have:=R.2.1;exact aQ this) B q)
theorem T7 (x:kJ X): ∀n,cz (D w X n)/\kq (D w X n):=by
 intro O;induction O with
 |zero=>exact ⟨KV x (λO O O h=>h.elim) (λO O O O O h=>h.elim) (λO O O O h=>h.elim) λO O O O O h=>h.elim,⟨λxs hs zs h=>h.elim⟩⟩
 |succ n i=>
  exact by
   have i:=i
   haveI:=i.1
   haveI:=i.2
   exact ⟨KV x QCK WR Ta V0,E_ x⟩
end B01
namespace B01
noncomputable abbrev O1:EW:=.aC 0
noncomputable abbrev oD:EW:=.aC 1
noncomputable abbrev cS:EW:=.aC 201
noncomputable abbrev QGQ:EW:=.aC 200
noncomputable abbrev QGU:EW:=.aC 202
noncomputable abbrev HG:EW:=.aC 3
noncomputable abbrev Ab:EW:=.aC 2
noncomputable abbrev wv4:EW:=.aC 4
noncomputable abbrev GK:EW:=.aC 5
noncomputable abbrev wv6:EW:=.aC 6
noncomputable abbrev wv7:EW:=.aC 7
noncomputable abbrev wv9:EW:=.aC 9
noncomputable abbrev wv8:EW:=.aC 8
noncomputable abbrev XK:EW:=.aC 10
noncomputable abbrev QGO:EW:=.aC 12
noncomputable abbrev QGV:EW:=.aC 17
noncomputable abbrev QGP:EW:=.aC 18
noncomputable abbrev QGN:EW:=.aC 20
noncomputable abbrev QGc:EW:=.aC 14
noncomputable abbrev QGZ:EW:=.aC 15
noncomputable abbrev kK:EW:=.aC 401
noncomputable abbrev y9:cQ:=.one 6
noncomputable abbrev eF:cQ:=.one 201
noncomputable abbrev tn5:cQ:=.one 5
noncomputable abbrev QGT:cQ:=.one 17
noncomputable abbrev tn3:cQ:=.one 3
noncomputable abbrev qH:cQ:=.one 401
noncomputable abbrev tn4:cQ:=.one 4
noncomputable abbrev QGd:cQ:=.one 12
end B01
noncomputable abbrev hi (x:Int):Hn:=.d<|.int x
noncomputable abbrev ht (x:aG):Hn:=.d<|.str x
noncomputable abbrev hl (x:List aK):Hn:=.d<|.list x
theorem tt:aB=true:=rfl
theorem ff:aE=false:=rfl
theorem dt {p:Prop} {d:Decidable p} (h:p):decide p=true:=QHD h
theorem df {p:Prop} {d:Decidable p} (h: ¬ p):decide p=false:=decide_eq_false h
noncomputable def vs:Nat->List Int->Ls
 |_,[]=>[]
 |i,a::as=>(i,.val<|.int a)::vs (i+1) as
theorem zN (b:List SW) (hs:Hs) (o:bj) (f:Nat) (j c:List Nat) (t:Option Nat) (xs:List aK) (l R:Ls) (d:aK) (L:Ls) (e:xs.length=j.length) (h:tP f c t l=R) (a:FF d=aB):ju (jG j (xs.map .val) R) λi=>sX (b.map SW.x) o hs i λv W O=>iY v d->Av l W t L->vy o f j c t (b.map SW.w) xs l d L:=l5<|(oY<|oU b).r (λq=>⟨e,h▸q⟩) λO O O q g b=>q ⟨g,a,b⟩
theorem la (c:TW) (b:List SW) (n:Nat) (o:bj) (hs:Hs) (L:Ls) (K:Fl->Ls->Prop):ju L λU=>c.x o hs U λz l hs=>tQ z hs (λhs=>sX (b.map SW.x) o hs l λf A O=>BW f (wW c.w (b.map SW.w) o n A K) (λv=>K (.ret v) A)->wW c.w (b.map SW.w) o (n+1) L K) λO=>K .next l->wW c.w (b.map SW.w) o (n+1) L K:=l5<|c.ok.r id λO O O q=>vq q (λO q=>(oY<|oU b).r q λO O O q=>q) λO q=>q
theorem fY (t:cQ) (b:List SW) (o:bj) (hs:Hs) (x:aK) (xs:List aK) (L:Ls) (K:Fl->Ls->Prop):ju L λU=>AX t x U λl=>sX (b.map SW.x) o hs l λf A O=>BW f (fW t (b.map SW.w) o xs A K) (λv=>K (.ret v) A)->fW t (b.map SW.w) o (x::xs) L K:=l5<|GQ id λO q=>(oY<|oU b).r q λO O O q=>q
theorem fM (e:EW) (t:cQ) (cs:List TW) (o:bj) (hs:Hs) (l:Ls) (x:aK) (xs:List aK) (K:List aK->Prop):ju l λU=>AX t x U λL=>aX (cs.map TW.x) o hs L λz A hs=>aL A=aL L->tQ z hs (λhs=>e.x o hs L λv A O=>aL A=aL L->bc (jv v) (λy=>cW e.w t (cs.map TW.w) o l xs (λys=>K<|y::ys)->cW e.w t (cs.map TW.w) o l (x::xs) K) True) λO=>cW e.w t (cs.map TW.w) o l xs K->cW e.w t (cs.map TW.w) o l (x::xs) K:=l5<|GQ id λL q=>(RS<|M6 cs).r q λO O O q h=>vq (λr=>q ⟨h,r⟩) (λO q=>e.ok.r q λO O O q h=>cF (λr=>q ⟨h,r⟩) λO q=>q) λO q=>q
noncomputable def CE (e:E) (t:cQ) (cs:List T) (o:bj) (l:Ls) (x:aK) (r:Option aK):Prop:= ∀R K,(match r with|some y=>cW e t cs o l R λY=>K (y::Y)|none=>cW e t cs o l R K)->cW e t cs o l (x::R) K
theorem QBU {cs:List T}: ∀{xs:List aK},(∀x∈xs,CE e t cs o l x<|f x)-> ∀K,K (xs.filterMap f)->cW e t cs o l xs K:=by
 intro xs;induction xs with
 |nil=>exact λO K h=>h
 |cons x xs i=>
  exact λg K h=>by
   refine g x (.head _) xs K ?_;have i:=λK=>i (λy Y=>g y<|.tail _ Y) K;induction q:f x with
   |none=>exact i _ (by simp! only[nN,q] at h;exact h)
   |some y=>exact i _ (by simp! only[nN,q] at h;exact h)
theorem CZ {cs:List T} {α:Type} {g:α->aK} {f:α->aK}: ∀{xs:List α},(∀x∈xs,CE e t cs o l (g x)<|aA<|f x)-> ∀K,K (xs.map f)->cW e t cs o l (xs.map g) K:=by
 intro xs;induction xs with
 |nil=>exact λO K h=>h
 |cons x xs i=>exact λq K h=>q x (.head _) _ K<|i (λy Y=>q y<|.tail _ Y) _ h
theorem fh (k:Nat):(0:Int)<2^k:=kbt_pos k
theorem QBp (u s r:Nat) (h:r<2^s):(2^s*u+r) &&& (2^s*u)=2^s*u:=by
 apply QFM;intro j;simp only[QFN,Nat.testBit_two_pow_mul_add _ h,QFO];by_cases q:j<s
 ·simp[q,Hr q]
 ·simp[q,jM q]
theorem z_ (u s r:Nat) (h:r<2^s):(2^s*u) &&& r=0:=by
 apply QFM;intro j;simp only[QFN,QFO,Nat.zero_testBit];by_cases q:j<s
 ·simp[Hr q]
 ·simp only[Nat.testBit_lt_two_pow<|mF h<|QFP (by decide)<|jM q]
  simp
theorem JZ (a b:Nat):jL (a:Int) (b:Int)=((a &&& b:Nat)):=by rfl
theorem QDf (x y:Int):uP x y=x+y - jL x y:=by have h:=bitXor_and x y;unfold Cg at h;exact vf h
theorem Mq (hu:0<=u) (hr:0<=r) (h:r<2^s):uP (u*2^s) r=u*2^s+r:=by
 refine aV (H2 hu) λa e1'=>sb e1'<|aV (Int.eq_ofNat_of_zero_le hr) λb e1'=>?_
 clear hr;subst e1';rw[QDf];simp only[(by push_cast;exact jo _ _:((a:Int)*2^s)=((2^s*a:Nat))),JZ,z_ a s b (by exact_mod_cast h:b<2^s)];rfl
theorem Sp (M:0<=x):Cg x (x.fdiv (2^s)*2^s)=x % 2^s:=by
 refine aV (H2 M) λa e=>?_;clear M;subst e;simp only[Qh _<|bw<|fh s,bitXor_and];have n:=(QFQ a<|2^s).symm
 have p:a &&& (2^s*(a / 2^s))=2^s*(a / 2^s):=by
  conv=>lhs;lhs;rw[n]
  exact QBp _ _ _<|dw _<|Nat.two_pow_pos s
 simp only[(by push_cast;exact jo _ _:((a:Int) / 2^s*2^s)=((2^s*(a / 2^s):Nat))),JZ,p];simp only[(by push_cast;rfl:((a:Int) % 2^s)=((a % 2^s:Nat)))];exact uU (bE<|oL<|nL n)<|bE<|oL<|nR n
theorem nv:ib x<=m↔x.natAbs<2^m:=intBits_le_iff
theorem lE (h:0<=x):ib x<=m↔x<2^m:=by
 rw[nv];refine aV (H2 h) λa e=>sb e ?_;constructor
 ·intro q
  have:=q
  exact_mod_cast this
 ·intro q;have:a<2^m:=by exact_mod_cast q
  exact this
theorem I2 (h:2^m<=x) (H:x<2^(m+1)):ib x=m+1:=by
 have b:=kC (bw<|fh m) h;apply ji
 ·exact (lE b).mpr H
 ·refine cp (QR m<|ib x) (λq=>?_) λq=>?_
  ·exact q
  ·exact QGv ((lE b).mp q)<|jK.mpr h
theorem Y_ (h:0<=x) (e:ib x=m+1):2^m<=x:=by
 refine cp (Qi x<|2^m) (λq=>?_) λq=>?_
 ·have:=(lE h).mpr q
  exact (cY (nR e) this)
 ·exact q
theorem Oy:ib 0=0:=rfl
theorem AU (h:0<x): ∃m,ib x=m+1:=by
 induction e:ib x with
 |zero=>have:=(lE<|bw h).mp<|qj e;simp at this;exact fc h this
 |succ m=>exact ⟨m,rfl⟩
theorem oI {m:Nat} (H:0<=x) (h:x<2^m):(ib x:Int)<=m:=by exact_mod_cast (lE H).mpr h
theorem hV (a:Int) (h:0<b):a.fdiv b=a / b:=Qh _<|bw h
theorem my (a:Int) (h:0<b):a.fmod b=a % b:=Int.fmod_eq_emod_of_nonneg _<|bw h
theorem mZ (m n:Nat):(2:Int)^(m+n)=2^m*2^n:=Int.pow_add ..
theorem rk (m:Nat):(2:Int)^(m+1)=2*2^m:=(Int.pow_succ ..).trans<|jo ..
theorem vz {a b q r:Int} (hb:0<b) (e:a=q*b+r) (H:0<=r) (h:r<b):a / b=q/\a % b=r:=kbt_unique hb (by simp only[e,jo,xE]) H h
theorem WO (n:0<N) (B:N<=2*b1) (i:0<=b2) (H:b2<N) (M:0<=q) (Q:q<N) (C:0<=r) (l:0<=a3) (hb:b=b1*N+b2): -(2*b)<=r*N+a3 - q*b2:=by have h:=Hb (bw Q) (bw H) i<|bw n;have R:=kF C<|bw n;have m:=mT B<|bw n;simp only[xF] at m;exact (bG (ni (ni (ni (ni R l) h)<|mI 2<|iR hb) m)<|mI 2 i)
namespace B01
section
variable {a12 a3 b b1 b2 n A:Int} {K:Fl->Ls->Prop}
theorem Zk (hb:0<b) (h:K .next (vs 0 [a12,a3,b,b1,b2,n,A / b,A % b])) (k:Nat): ∀{q:Int}, -(k*b)<=A - q*b->A - q*b<b->wW tj.w (tJ.map SW.w) o (k+1) (vs 0 [a12,a3,b,b1,b2,n,q,A - q*b]) K:=by
 induction k with
 |zero=>
  intro q u i;have c: ¬ A - q*b<0:=λK=>fc K u
  have H:=(vz (a:=A) (q:=q) hb (by simp+arith) (jK.mp c) i);have e1:=H.1;have e2:=H.2;simp only[e1,e2] at h;exact la tj tJ 0 o [.b aE] (vs 0 [a12,a3,b,b1,b2,n,q,A - q*b]) K (df c) h
 |succ k d=>
  intro q u i;by_cases c:A - q*b<0
  ·have e:A - (q - 1)*b=A - q*b+b:=by rw[Qj];simp+arith
   have e2:((k+1:Nat))*b=k*b+b:=by simp only[Int.natCast_succ,qr,gq]
   have:=d (q:=q - 1) (by grind_order) (by rw[Qj,gq];exact bE c);rw[e] at this;exact la tj tJ (k+1) o [.b aB] (vs 0 [a12,a3,b,b1,b2,n,q,A - q*b]) K (dt c) this
  ·have H:=(vz (a:=A) (q:=q) hb (by simp+arith) (jK.mp c) i)
   have e1:=H.1;have e2:=H.2;simp only[e1,e2] at h;exact la tj tJ (k+1) o [.b aE] (vs 0 [a12,a3,b,b1,b2,n,q,A - q*b]) K (df c) h
theorem d3 (hb:0<b) (r:R=A - q*b) (u: -(2*b)<=R) (H:R<b) (K:Fl->Ls->Prop) (h:K .next (vs 0 [a12,a3,b,b1,b2,n,A / b,A % b])): ∃m,wW tj.w (tJ.map SW.w) o m (vs 0 [a12,a3,b,b1,b2,n,q,R]) K:=⟨3,by rw[r] at u H⊢;exact Zk hb h 2 u H⟩
end
theorem PQ (L:Nat) {n:Nat} (hn:n<=40000000)
 (hd:a12<b1*2^n->(aU L).F 3 [.int a12,.int b1,.int n] (.tuple [.int<|a12 / b1,.int<|a12 % b1]))
 (hb:b=b1*2^n+b2) (v:2^n<=2*b1) (p:b1<2^n) (i:0<=b2) (H:b2<2^n) (W:0<=a3) (z:a3<2^n) (A:0<=a12) (a:a12<b):
 (aU<|L+1).F 4 [.int a12,.int a3,.int b,.int b1,.int b2,.int n] (.tuple [.int<|(a12*2^n+a3) / b,.int<|(a12*2^n+a3) % b]):=by
 have R:=fh n;have B:0<b1:=(zP.mp λy0=>(fc (ni R v)<|mI 2 y0))
 have j:0<b:=by have:=lR B R;exact o5 ‹_› ‹_›
 have N:(0:Int)<=n:=dP n;have l1:(ib b1:Int)<=n:=oI (bw B) p;have l2:(ib b2:Int)<=n:=oI i H;have k1:(ib b1:Int)+n<=134217728:=bG (ni (oL hn)<|oL hn) l1
 have tl: ∀{q r:Int},0<=q->q<2^n->0<=r->r<2^(n+1)->r*2^n+a3 - q*b2=a12*2^n+a3 - q*b->r*2^n+a3 - q*b2<b->(ib r:Int)+n<=134217728/\ib q+ib b2<=134217728/\
  ∀K,K .next (vs 0 [a12,a3,b,b1,b2,n,(a12*2^n+a3) / b,(a12*2^n+a3) % b])-> ∃m,wW tj.w (tJ.map SW.w) (aU L) m (vs 0 [a12,a3,b,b1,b2,n,q,uP (r*2^n) a3 - q*b2]) K:=λ{q r} u Y C s e l=>by
  have l3:(ib q:Int)<=n:=oI u Y;have l4:(ib r:Int)<=(n+1):=oI C s;refine ⟨by exact bG (ni (oL hn)<|oL hn) l4,by exact (oM<|bG (ni l3 l2)<|mI 2<|oL hn),λK h=>?_⟩;exact sb (Mq C W z)<|d3 j e (WO R v i H u Y C W hb) l K h
 refine di ?_ rfl;by_cases c:a12.fdiv (2^n)=b1
 ·have g:=c
  rw[hV _ R] at g;have c1:b1*2^n<=a12:=by erw[<-g];exact Int.ediv_mul_le _<|gE R
  have e:(a12 - b1*2^n+b1)*2^n+a3 - (1*2^n - 1)*b2=a12*2^n+a3 - (1*2^n - 1)*b:=by grind
  refine eJ (tl (bE R) (by simp+arith) (by (clear v;exact bG B c1)) (by rw[rk];exact bG (ni (ni (iL hb) p) H) a) e (by
   erw[e];have:(a12+1)*2^n<=b*2^n:=mT (by assumption) (bw R)
   grind)) λP t t3=>?_
  exact eD b_div3n2n 6 [.b aB,.f .next (vs 0 [a12,a3,b,b1,b2,n,(a12*2^n+a3) / b,(a12*2^n+a3) % b])] (aU L) [.int a12,.int a3,.int b,.int b1,.int b2,.int n] _ rfl N (QGy.mpr c) N (bE (oL hn):(1:Int)+n<=_) N k1 N P t t3 .ret
 ·have c1:a12<b1*2^n:=zP.mp λh=>c (by erw[hV _ R];exact (vz (r:=a12 - b1*2^n) R (by simp+arith) (bE h)<|bG (ni (iL hb) H) a).1)
  have Z:=nT a12 B;have M:=mU a12<|gE B;have Q:0<=a12 / b1:=uk A<|bw B;have o:a12 / b1<2^n:=sV B (by rw[jo];exact c1);have U:a12=a12 / b1*b1+a12 % b1:=by have:=o9 a12 b1;rw[jo] at this;exact this.symm
  refine eJ (tl Q o M (by rw[rk];exact bG (ni (ni p p) B) Z) (by grind) (by
   have x:(a12 % b1+1)*2^n<=b1*2^n:=mT Z<|bw R;simp only[qr,gq] at x;have h4:0<=a12 / b1*b2:=kF Q i
   exact bG (ni (ni (ni (iR hb) i) z) x) h4)) λP t t3=>?_
  exact eD b_div3n2n 6 [.b aE,.d<|.tuple [.int<|a12 / b1,.int<|a12 % b1],.f .next (vs 0 [a12,a3,b,b1,b2,n,(a12*2^n+a3) / b,(a12*2^n+a3) % b])] (aU L) [.int a12,.int a3,.int b,.int b1,.int b2,.int n] _ rfl N (beq_eq_false_iff_ne.mpr c) (hd c1) N P t t3 .ret
end B01
theorem QBt {x:Int} {m:Nat} (H:0<=x) (h:(ib x:Int)<=m):x<2^m:=(lE H).mp (by exact_mod_cast h)
theorem Bw (h:m<=n):(2:Int)^m<=2^n:=by refine aV (Nat.exists_eq_add_of_le h) λk e=>sb e ?_;simp only[mZ];have:(2:Int)^m*1<=2^m*2^k:=HW (fh k)<|bw<|fh m;rwa[uc] at this
theorem Mm:ib 1=1:=rfl
theorem bT {x:Int} (h:x=1):(x !=0)=true:=h▸rfl
theorem bF {x:Int} (h:x=0):(x !=0)=false:=by erw[h];rfl
namespace B01
theorem De {a b:Int} (h:(ib a:Int)<=ib b+4000):r9 a b=false:=by dsimp only[r9];simp only[Bool.and_eq_false_imp,decide_eq_true_eq,decide_eq_false_iff_not];intro _;unfold ib Builtin.Int.intBits at h;by_cases A:a=0<;>by_cases B:b=0<;>simp[A,B] at h⊢ <;>lia -abstractProof
section
variable {a b n H q1 r1 q2 r2:Int}
theorem MT (hb:0<b) (hn:(ib a:Int) - n<=4000) (p:r9 a b=aE):lg (aU L) 3 tG [.int a,.int b,.int n] (.tuple [.int<|a / b,.int<|a % b]):=by simp only[<-hV a hb,<-my a hb];exact eD tG 3 [hi<|ib a,.i 4000,.b aB,.d<|.tuple [.int<|a.fdiv b,.int<|a.fmod b]] (aU L) [.int a,.int b,.int n] _ rfl .bits (oG L ⟨rfl,rfl⟩) (dt hn) (.divmod (gE hb) p) .ret
theorem QCn (e:n.fdiv (2^bN 1)=H) (A:jL n 1=0) (c: ¬ (ib a:Int) - n<=4000) (hn:0<=n) (h:0<=H) (hs:ib 1+H<=134217728) (q:(ib q1:Int)+H<=134217728)
 (W:(aU L).F 4 [.int<|a.fdiv<|2^n.toNat,.int<|jL (a.fdiv<|2^H.toNat)<|1*2^H.toNat - 1,.int b,.int<|b.fdiv<|2^H.toNat,.int<|jL b<|1*2^H.toNat - 1,.int H] (.tuple [.int q1,.int r1]))
 (K:(aU L).F 4 [.int r1,.int<|jL a<|1*2^H.toNat - 1,.int b,.int<|b.fdiv<|2^H.toNat,.int<|jL b<|1*2^H.toNat - 1,.int H] (.tuple [.int q2,.int r2])):
 lg (aU L) 3 tG [.int a,.int b,.int n] (.tuple [.int<|uP (q1*2^H.toNat) q2,.int r2]):=by
 subst e;exact eD tG 3 [hi<|ib a,.i 4000,.b aE,.b aE,.d<|.tuple [.int q1,.int r1],.d<|.tuple [.int q2,.int r2],.b aE] (aU L) [.int a,.int b,.int n] _ rfl .bits (oG L ⟨rfl,rfl⟩) (df c) (bF A) (by decide) h hs h hn h W K (bF A) h q .ret
theorem UG (e:(n+1).fdiv (2^bN 1)=H) (A:jL n 1=1) (c: ¬ (ib a:Int) - n<=4000) (hn:0<=n+1) (h:0<=H) (hs:ib 1+H<=134217728) (q:(ib q1:Int)+H<=134217728) (s:(ib a:Int)+1<=134217728) (hb:(ib b:Int)+1<=134217728)
 (W:(aU L).F 4 [.int<|(a*2).fdiv<|2^(n+1).toNat,.int<|jL ((a*2).fdiv<|2^H.toNat)<|1*2^H.toNat - 1,.int<|b*2,.int<|(b*2).fdiv<|2^H.toNat,.int<|jL (b*2)<|1*2^H.toNat - 1,.int H] (.tuple [.int q1,.int r1]))
 (K:(aU L).F 4 [.int r1,.int<|jL (a*2)<|1*2^H.toNat - 1,.int<|b*2,.int<|(b*2).fdiv<|2^H.toNat,.int<|jL (b*2)<|1*2^H.toNat - 1,.int H] (.tuple [.int q2,.int r2])):
 lg (aU L) 3 tG [.int a,.int b,.int n] (.tuple [.int<|uP (q1*2^H.toNat) q2,.int<|r2.fdiv 2]):=by
 subst e;exact eD tG 3 [hi<|ib a,.i 4000,.b aE,.b aB,.d<|.tuple [.int q1,.int r1],.d<|.tuple [.int q2,.int r2],.b aB] (aU L) [.int a,.int b,.int n] _ rfl .bits (oG L ⟨rfl,rfl⟩) (df c) (bT A) (by decide) s (by decide) hb (by decide) h hs h hn h W K (bT A) (by decide) h q .ret
end
theorem Z6 {a b H:Int} (hb:0<b) (h:0<H) (A:a<b*(H*H)) (s:0<=a):a / H / b*H+(a / H % b*H+a % H) / b=a / b/\(a / H % b*H+a % H) % b=a % b/\0<=a / H / b/\a / H / b<H/\0<=(a / H % b*H+a % H) / b/\(a / H % b*H+a % H) / b<H:=by
 have r:=mU (a / H)<|gE hb;have r1:=nT (a / H) hb;have L:=mU a<|gE h;have l:=nT a h;have e:a / H % b*H+a % H+a / H / b*H*b=a:=by have z:=o9 (a / H) b;have Z:=o9 a H;exact sb (by grind:a / H % b*H+a % H+a / H / b*H*b=H*(b*(a / H / b)+a / H % b)+a % H)<|sb z<|sb Z rfl
 have p:a / H % b*H+a % H<H*b:=by have:=mT (r1:a / H % b+1<=b)<|bw h;rw[qr,gq,jo b] at this;exact pJ (QFR l _) this
 refine ⟨?_,?_,uk (uk s<|bw h)<|bw hb,sV hb<|sV h ?_,uk (qt (kF r<|bw h) L)<|bw hb,sV hb p⟩
 ·have:=Int.add_mul_ediv_right (a / H % b*H+a % H) (a / H / b*H) (gE hb)
  rw[e] at this;rw[this,xE]
 ·have:=Int.add_mul_emod_self_right (a / H % b*H+a % H) (a / H / b*H) b
  rw[e] at this;exact this.symm
 ·rw[jo H b,xF]
  exact A
theorem upper {b:Int} (o:1<=h) (B:2^(2*h)<=2*b) (dJ:b<2^(2*h)):0<b/\2^h<=2*(b / 2^h)/\b / 2^h<2^h:=by
 have H:=fh h;rw[show (2:Int)^(2*h)=2^h*2^h by rw[PV,mZ]] at B dJ;refine ⟨by have:=lR H H;exact bG B dJ,?_,sV H dJ⟩;clear dJ;refine aV (DI o) λg m=>?_;subst m;have e:=rk g;have:2^g<=b / 2^(g+1):=by refine (Int.le_ediv_iff_mul_le H).mpr ?_;rw[e,xF] at B;exact sb e<|Int.le_of_mul_le_mul_left B (by decide)
 exact sb e<|Int.mul_le_mul_of_nonneg_left (e▸this) (by decide)
theorem Kw (L:Nat) {a b:Int} {h:Nat} (d2: ∀x,0<=x->x<b / 2^h*2^h->(aU<|L+1).F 3 [.int x,.int<|b / 2^h,.int h] (.tuple [.int<|x / (b / 2^h),.int<|x % (b / 2^h)])) (Q:0<=a) (hn:h<=40000000) (o:1<=h) (v:2^(2*h)<=2*b) (dJ:b<2^(2*h)) (A:a<b*2^(2*h)): ∃q1 r1 q2 r2,
 (aU<|L+1+1).F 4 [.int<|a.fdiv<|2^(2*h),.int<|jL (a.fdiv<|2^h)<|1*2^h - 1,.int b,.int<|b.fdiv<|2^h,.int<|jL b<|1*2^h - 1,.int h] (.tuple [.int q1,.int r1])/\
 (aU<|L+1+1).F 4 [.int r1,.int<|jL a<|1*2^h - 1,.int b,.int<|b.fdiv<|2^h,.int<|jL b<|1*2^h - 1,.int h] (.tuple [.int q2,.int r2])/\
 (ib q1:Int)<=h/\uP (q1*2^h) q2=a / b/\r2=a % b:=by
 refine eJ (upper o v dJ) λB u U=>?_;have H:=fh h;rw[show (2:Int)^(2*h)=2^h*2^h by rw[PV,mZ]] at A⊢;rw[hV _<|lR H H,hV _ H,hV _ H,gq,Qk,Qk,Qk];have d:=λx:Int=>show x=x / 2^h*2^h+x % 2^h by rw[jo];exact (o9 x<|2^h).symm
 have m:=λx=>mU x<|gE H;have M:=λx=>nT x H;refine FA (Z6 B H A Q) λi l s f s5 q=>?_;have N:=uk Q<|bw<|lR H H;have K:=PQ (L+1) hn (d2 _ N) (d b) u U (m b) (M b) (m<|a / 2^h) (M<|a / 2^h) N<|sV (lR H H) A;rw[show a / (2^h*2^h)*2^h+a / 2^h % 2^h=a / 2^h by erw[<-QFS (bw H)];exact (d<|a / 2^h).symm] at K;have r:=mU (a / 2^h)<|gE B;have j:=PQ (L+1) hn (d2 _ r) (d b) u U (m b) (M b) (m a) (M a) r<|nT (a / 2^h) B;exact ⟨_,_,_,_,K,j,oI s f,by (erw[Mq s s5 q];exact sb i rfl),l⟩
theorem RA: ∀(j L:Nat),2*j<=L-> ∀(a b:Int) (n:Nat),0<=a->1<=n->2^n<=2*b->b<2^n->a<b*2^n->n<=4000*2^j->n<=30000000->
 (aU<|L+1).F 3 [.int a,.int b,.int n] (.tuple [.int<|a / b,.int<|a % b]):=by
 intro j;induction j with
 |zero=>
  intro L z a b n s hn B dJ A Z N;have d:=fh n;have R:0<b:=(zP.mp λY=>(fc (ni d B)<|mI 2 Y))
  have l:a<2^(n+n):=by rw[mZ];exact IQ A<|QFT dJ d
  have q:=oI s l;have i:ib b=n:=by refine aV (DI hn) λm g=>?_;clear s hn A Z N d R l q;subst g;refine I2 ?_ dJ;rw[rk] at B;exact (jK.mp λY=>(fc (ni Y B) Y))
  refine di ?_ rfl;exact MT R (bG q<|oL Z)<|De<|bG (ni q<|oL Z)<|oL<|nR i
 |succ j ih=>
  intro L z a b n s hn B dJ A Z N;have d:=fh n;have R:0<b:=(zP.mp λY=>(fc (ni d B)<|mI 2 Y))
  have l:a<2^(n+n):=by rw[mZ];exact IQ A<|QFT dJ d
  have q:=oI s l;have f:ib b=n:=by refine aV (DI hn) λm g=>?_;clear s hn A Z N d R l q;subst g;refine I2 ?_ dJ;rw[rk] at B;exact (jK.mp λY=>(fc (ni Y B) Y))
  refine di ?_ rfl;by_cases c:(ib a:Int) - n<=4000
  ·exact MT R c<|De<|bG c<|oL<|nR f
  ·have half:=λ(a' Q:Int) (h:Nat) (q:0<=a') (i:1<=h) (U:2^(2*h)<=2*Q) (o:Q<2^(2*h)) (h5:a'<Q*2^(2*h)) (h6:h<=4000*2^j) (h7:h<=30000000)=>eJ (upper i U o) λO u0 u=>(Kw (L - 2) (λx hx r=>ih (L - 2) ((bD z<|nR<|sE ((aQ z):2<=L))) x (Q / 2^h) h hx i u0 u r h6 h7) q (az ‹_› (gA _ _)) i U o h5)
   rw[show L - 2+1+1=L by exact (sE ((aQ z):2<=L))] at half;have p:(2:Nat)^(j+1)=2*2^j:=by rw[Ql];exact IS _ _
   obtain ⟨h,e|e⟩: ∃h,n=2*h\/n=2*h+1:=⟨n / 2,by exact ((Decidable.em _).imp_right λo1=>((um o1).elim (λu=>(ji (aQ u)<|bD (na (qu (n) 2) u)<|qu (n) 2)) λu=>(ji (aQ<|dG (n) (by decide:0<2)) u)))⟩
   ·subst e
    exact tY (half a b h s ((iH.mp λY=>(cY hn<|gC 2 Y))) B dJ A (by (exact (iH.mp λY=>(cY (na (na Y Z)<|gC 4000<|nL p) Y))))<|aQ N) λq1 r1 q2 r2 P t M K W=>cv W<|cv K<|QCn (H:=h) (by refine (?_);erw[hV _<|by decide];simp+arith) (by rw[bitAnd_m1];simp+arith) c (Int.natCast_nonneg _) (Int.natCast_nonneg _) (by erw[Mm];exact bG (oL N)<|oZ h) (bG M<|oL N) P t
   ·subst e
    have e2:(2:Int)^(2*(h+1))=2*2^(2*h+1):=by rw[show 2*(h+1)=(2*h+1)+1 by simp+arith,rk]
    have v:=fh<|2*h+1
    refine tY (half (a*2) (b*2) (h+1) (bG s s) (by simp+arith) (by erw[e2];exact bG B B) (by erw[e2];exact bG dJ dJ) (by
     erw[e2];have:=kF (bw R) (bw v)
     grind) ((iH.mp λY=>(cY (na Z<|gC 4000<|nL p)<|gC 2 Y))) (aQ N)) λq1 r1 q2 r2 P t M K W=>?_;subst W
    have C:a*2 / (b*2)=a / b:=Int.mul_ediv_mul_of_pos_left _ _ (by decide);have e5:(a*2 % (b*2)).fdiv 2=a % b:=by have q:=o9 (a*2)<|b*2;have i:=o9 a b;rw[C] at q;exact sb (by grind:a*2 % (b*2)=a % b*2)<|sb (hV _<|by decide)<|Int.mul_ediv_cancel _ (by decide)
    rw[C] at K;simp only[<-K,<-e5];exact UG (H:=(h+1:Nat)) (by refine (?_:(((2*h+1:Nat):Int)+1).fdiv 2=(h+1:Nat));erw[hV _<|by decide];exact Xd h) (by rw[bitAnd_m1];simp+arith) c (dP _) (dP _) (by erw[Mm];exact bG (oL N)<|oZ<|h+1) (bG M<|oL N) (bG (ni (oL N)<|oL N) q) (bG (oL N)<|oL<|nL f) P t
end B01
noncomputable def digs (n:Nat):Nat->Int->List Int
 |0,_=>[]
 |k+1,x=>x % 2^n::digs n k (x / 2^n)
theorem BS {k x}:digs n (k+1) x=x % 2^n::digs n k (x / 2^n):=rfl
theorem xV (n:Nat): ∀k x,(digs n k x).length=k:=by
 intro O;induction O with
 |zero=>exact λO=>rfl
 |succ k i=>exact λx=>QGz _<|i _
theorem tT (n k:Nat):(2:Int)^(n*(k+1))=2^n*2^(n*k):=by rw[DJ,uq,mZ]
theorem i_ (x:Int) (n k:Nat):x % 2^(n*(k+1)) % 2^n=x % 2^n:=by rw[tT];exact QFU _ ⟨_,rfl⟩
theorem QDJ (x:Int) (n k:Nat):x % 2^(n*(k+1)) / 2^n=x / 2^n % 2^(n*k):=by
 rw[tT];have N:=fh n;have M:=fh<|n*k;have H:=o9 x<|2^n;have h:=o9 (x / 2^n)<|2^(n*k);have A:=mU x<|gE N;have z:=nT x N;have B:=mU (x / 2^n)<|gE M;have s:=nT (x / 2^n) M
 have o:x % (2^n*2^(n*k))=x / 2^n % 2^(n*k)*2^n+x % 2^n:=by
  refine (vz (a:=x) (b:=2^n*2^(n*k)) (q:=x / 2^n / 2^(n*k)) (lR N M) (by grind) (qt (kF B<|bw N) A) ?_).2;have:=mT s (bw N)
  grind
 exact sb o<|(vz N rfl A z).1
theorem Vh (n:Nat): ∀a b x,digs n (a+b) x=digs n a (x % 2^(n*a))++digs n b (x / 2^(n*a)):=by
 intro O;induction O with
 |zero=>exact λb x=>by rw[QFV,ug];exact QGz (digs n b) (QFW x).symm
 |succ a i=>exact λb x=>by rw[Nat.succ_add,BS,BS,i b,i_,QDJ,tT,QFS<|bw<|fh n];rfl
theorem Zr (H:0<=x) (h:x<2^n):digs n 1 x=[x]:=QGz (· ::[])<|QFX H h
theorem CX (H:0<=x) (h:x<2^60):ib x<=60:=(lE H).mpr h
theorem i1:(0:Int)<=1:=by decide
namespace B01
theorem PA (r1:aL l 1=.val (.int n)) (r2:aL l 2=.own xs) (r:aL l 3=.clo 1):tP 1 [1,2,3] (aA 2) l=[(1,.val<|.int n),(2,.own xs),(3,.clo 1)]:=by
 refine (?_:[(1,j6 1 aE<|aL l 1),(2,j6 1 aB<|aL l 2),(3,j6 1 aE<|aL l 3)]=_);refine sb r1<|sb r2<|sb r ?_
 rfl
section
variable {n x L R M S U W:Int}
noncomputable def rP (n:Int) (xs:List aK) (x L R M S U W:Int):Ls:=(1,.val<|.int n)::(2,.own xs)::(3,.clo 1)::vs 200 [x,L,R,M,S,U,W]
theorem Un (r1:aL l 1=.val (.int n)) (r2:aL l 2=.own xs) (r:aL l 3=.clo 1) (q:0<=L) (h:L<xs.length) (H:xs.length<2^63):
 (aU<|m+1).L 1 [.int x,.int L,.int<|L+1] l .none (cL l 2<|.own<|xs.set L.toNat<|.int x):=
 .b rfl (zN G6 [.b aB] (aU m) 1 [200,201,202] [1,2,3] (aA 2) [.int x,.int L,.int<|L+1] l _ _ _ rfl (PA r1 r2 r) rfl (QHA _) q h H .ret (.some r2 rfl))
theorem R2 (r1:aL l 1=.val (.int n)) (r2:aL l 2=.own xs) (r:aL l 3=.clo 1) (e1: ¬ L+1=R) (v:(L+R).fdiv (2^bN 1)=M) (e:(M - L)*n=S) (Y:x.fdiv (2^S.toNat)=U) (s:Cg x (U*2^S.toNat)=W)
 (t:ib (M - L)+ib n<=134217728) (g:0<=S) (z:(ib U:Int)+S<=134217728) (K:(aU m).L 1 [.int W,.int L,.int M] (rP n xs x L R M S U W) .none (rP n ys x L R M S U W)) (B:(aU m).L 1 [.int U,.int M,.int R] (rP n ys x L R M S U W) .none (rP n zs x L R M S U W)):
 (aU<|m+1).L 1 [.int x,.int L,.int R] l .none (cL l 2<|.own zs):=by
 subst v;subst e;subst Y;subst s;exact .b rfl (zN G6 [.b aE,.c .none<|rP n ys x L R _ _ _ _,.c .none<|rP n zs x L R _ _ _ _] (aU m) 1 [200,201,202] [1,2,3] (aA 2) [.int x,.int L,.int R] l _ _ _ rfl (PA r1 r2 r) rfl (beq_eq_false_iff_ne.mpr e1) i1 t g g z K B .next (.some r2 rfl))
end
theorem QCA: ∀(k z:Nat),k<=z->1<=k-> ∀(x:Int) (L n:Nat) (xs:List aK) (l:Ls),L+k<=xs.length->xs.length<=256->1<=n->n*k<=30000000->0<=x->x<2^(n*k)->
 aL l 1=.val (.int n)->aL l 2=.own xs->aL l 3=.clo 1->(aU z).L 1 [.int x,.int L,.int (L+k:Nat)] l .none (cL l 2<|.own<|xs.take L++(digs n k x).map .int++xs.drop (L+k)):=by
 intro k;induction k using QFY with
 |ind k i=>
  intro z hl K x L n xs l C d hn N q Q r1 r2 r;refine aV (DI<|az K hl) λm e=>?_;subst e;by_cases c:k=1
  ·clear i K N hl
   subst c;rw[Nat.mul_one] at Q;have:=Un (m:=m) (x:=x) r1 r2 r (dP L) (mD.mpr ‹_›) (ig ‹_› (by decide));rw[lP,List.set_eq_take_append_cons_drop,if_pos<|Nat.lt_of_succ_le C] at this;rw[Zr q Q,ik];exact this
  ·-- the Kw
   refine iU (by
    refine (jX (k / 2) (k - k / 2) (((um c).elim (λg=>(bD K g)) λg=>(iH.mp λv=>(cY (na g<|dG (k) (by decide:0<2))<|gC 2 v)))) ((iH.mp λv=>(cY (na (na (na (na K<|nR<|sE ((aQ<|qu (k) 2):k / 2<=k)) v)<|qu (k) 2)<|nR<|sE ((aQ<|qu (k) 2):k / 2<=k)) v))) (by (exact (wF<|sE ((aQ<|qu (k) 2):k / 2<=k)))) ?_)
    exact sb (hV _<|by decide)<|LV L k: ∃a b,1<=a/\1<=b/\a+b=k/\((L:Int)+((L+k:Nat):Int)).fdiv (2^Int.toNat 1)=((L+a:Nat):Int)) λa b o hb A M=>?_
   have t:n*a+n*b=n*k:=by rw[<-A,QFZ]
   have h:=fh<|n*a;have f:(((L+a:Nat):Int) - L)*n=((n*a:Nat):Int):=by rw[QFa,xE,Qm,<-QFb,IS]
   have u:=uk q<|bw h;have p:=sV h (by rw[<-mZ,uq,t];exact Q);have F:=mU x<|gE h;have B:=nT x h;have g1:ib (((L+a:Nat):Int) - L)+ib (n:Int)<=134217728:=by have h1:=CX (x:=((L+a:Nat):Int) - L) (bE<|oL o)<|bG (ni (ni (ni (oL C)<|oL d)<|oL hb)<|oL<|nL A)<|oZ L;have h2:=CX (dP _)<|bG (oL N)<|oL (gC n K:n*1<=n*k);exact az (iF ‹_› ‹_›) (by decide)
   have g2:=oI u p;generalize Y:xs.take L++(digs n a<|x % 2^(n*a)).map .int++xs.drop (L+a)=ys at*;have W:ys.length=xs.length:=by erw[<-Y];simp[xV];exact (rF (sE ((bD C<|nL A):L+a<=xs.length))<|fz ((aQ C):L<=xs.length))
   have H:=i a (bD hb<|nL A) m (bD (na hl hb)<|nL A) o (x % 2^(n*a)) L n xs (rP n xs x L (L+k:Nat) (L+a:Nat) (n*a:Nat) (x / 2^(n*a))<|x % 2^(n*a)) (bD C<|nL A) d hn (bD N<|nL t) F B rfl rfl rfl;have j:=i b (bD o<|nL A) m (bD (na hl o)<|nL A) hb (x / 2^(n*a)) (L+a) n ys (rP n ys x L (L+k:Nat) (L+a:Nat) (n*a:Nat) (x / 2^(n*a))<|x % 2^(n*a)) (bD (na C<|nL A)<|nR W) (bD d<|nL W) hn (bD N<|nL t) u p rfl rfl rfl;rw[Y] at H;have R:ys.take (L+a)=xs.take L++(digs n a<|x % 2^(n*a)).map .int:=cv Y<|List.take_left' (by simp[xV];exact (Nat.min_eq_left ((aQ C):L<=xs.length)))
   have P:ys.drop (L+a+b)=xs.drop (L+k):=by
    rw[<-Y,List.drop_append,ur (by simp[xV];exact (aQ<|nL<|fz ((aQ C):L<=xs.length))),sY,QFc]
    congr 1
    simp[xV];exact (rF (ea A<|sE ((aQ<|nL<|fz ((aQ C):L<=xs.length)):min L xs.length+a<=L+a+b)) (fz ((aQ C):L<=xs.length)).symm)
   rw[R,P,wO,A,ik<|xs.take L,<-gp,<-Vh,A] at j;exact R2 (S:=(n*a:Nat)) (U:=x / 2^(n*a)) r1 r2 r ((λZ=>((um c).elim (λg=>(cY K g)) λg=>(fc (oL g)<|iR Z)))) M f (hV _ h) (by have:=Sp (s:=n*a) q;rw[hV _ h] at this;exact this) g1 (dP _) (bG (ni g2<|oL N)<|oL<|nL t) H j
end B01
noncomputable def undig (n:Nat):List Int->Int
 |[]=>0
 |d::ds=>d+2^n*undig n ds
theorem vh:undig n []=0:=rfl
theorem oE {d ds}:undig n (d::ds)=d+2^n*undig n ds:=rfl
theorem CY (n:Nat): ∀a b,undig n (a++b)=undig n a+2^(n*a.length)*undig n b:=by
 intro O;induction O with
 |nil=>exact λb=>by rw[uh,QFV];exact (gq _).symm.trans (zc _).symm
 |cons d a i=>exact λb=>by rw[sT,oE,oE,i b,pL,tT,IT,xF,QFd]
theorem Rv (n:Nat): ∀k x,0<=x->x<2^(n*k)->undig n (digs n k x)=x:=by
 intro O;induction O with
 |zero=>exact λx H h=>uU H<|Int.lt_add_one_iff.mp h
 |succ k i=>exact λx H h=>by have N:=fh n;simp only[tT] at h;rw[BS,oE,i (x / 2^n) (uk H<|bw N)<|sV N (by simp only[jo];exact h)];exact (xE ..).trans<|o9 x<|2^n
theorem Ys (n:Nat): ∀k x,∀d∈digs n k x,0<=d/\d<2^n:=by
 intro O;induction O with
 |zero=>exact λx d h=>by contradiction
 |succ k i=>
  exact λx d h=>by
   rcases bp.mp h with rfl|h
   ·exact ⟨mU _<|gE<|fh n,nT _<|fh n⟩
   ·exact i _ d h
theorem yw (n:Nat): ∀ds,(∀d∈ds,0<=d/\d<2^n)->0<=undig n ds/\undig n ds<2^(n*ds.length):=by
 intro O;induction O with
 |nil=>exact λO=>⟨uT _,Int.zero_lt_one⟩
 |cons d ds i=>exact λh=>by refine bI (i λx M=>h x<|.tail _ M) λa b=>bI (h d<|.head _) λc e=>?_;have N:=fh n;rw[oE,pL,tT];have H:=HW b<|bw N;exact ⟨qt c<|kF (bw N) a,by rw[IT,uc] at H;exact bG e H⟩
noncomputable def dU (n:Nat) (a:Int):Nat:=(ib a+n - 1) / n
theorem Dg {a:Int} (hn:1<=n) (A:0<=a):a<2^(n*dU n a):=by refine (lE A).mp ?_;unfold dU;have:=QFQ (ib a+n - 1) n;have:=dw (ib a+n - 1) hn;exact (bD (na (nR<|sE ((aQ this):1<=ib a+n))<|nR ‹n*((ib a+n - 1) / n)+(ib a+n - 1) % n=ib a+n - 1›) this)
theorem QCV (m:Nat):(dY m [cA 0]).flatten=dY m (cA 0):=by
 induction m with
 |zero=>rfl
 |succ m i=>refine sb xG<|sb List.flatten_cons<|sb i<|sb List.replicate_succ ?_;rfl
theorem b0 {a:Int} (h:a≠0):(a !=0)=true:=bne_iff_ne.mpr h
namespace B01
theorem CP (L:Nat) {a:Int} (A:0<=a) (hn:1<=n) (hl:dU n a<=L) (h:dU n a<=256) (hb:n*dU n a<=30000000) (R:n<=30000000):
 (aU<|L+1).F 5 [.int a,.int n] (.list<|(digs n (dU n a) a).map .int):=by
 have N:(0:Int)<n:=mD.mpr ‹_›;have i:ib a<=30000000:=az ((lE A).mpr<|Dg hn A) hb;have e1:((ib a:Int)+n - 1).fdiv n=(dU n a:Int):=by erw[hV _ N];simp only[show ((ib a:Int)+n - 1)=((ib a+n - 1:Nat):Int) by exact (uU (bE<|oL<|nR<|sE ((aQ hn):1<=ib a+n))<|bE<|oL<|nL<|sE ((aQ hn):1<=ib a+n))];rfl
 have e2:r9 ((ib a:Int)+n - 1) n=false:=De (by
  have:=(lE (x:=(ib a:Int)+n - 1) (m:=60)<|bE<|oL hn).mpr<|bG (oL R)<|oL i
  exact bG (oL this)<|oZ<|ib ↑n)
 have Q:decide ((n:Int)=0)=false:=df<|gE N;have B: ∀r,fe r .Mult (.d<|.list [.int 0]) (.d<|.int<|((ib a:Int)+n - 1).fdiv n)<|.list<|dY (dU n a)<|.int 0:=λr=>by erw[e1];have:=fe.mul (r:=r) (v:=.d<|.list [.int 0]) (xs:=[.int 0]) (n:=dU n a) .d (by simp only[lP];refine (?_:1*dU n a<=256);simp only[Nat.one_mul];exact h) (bE<|oL h)<|dP _;rwa[lP,QCV] at this
 have Z:(dY (dU n a)<|cA 0).length=dU n a:=AD;generalize dY (dU n a) (cA 0)=zs at*;refine di ?_ rfl;by_cases c:a=0
 ·clear A hl h hb i e1
  subst c;have z:dU n 0=0:=Qn (by simp only[Oy];exact (aQ<|nL<|sE ((oM<|bE N):1<=0+n)));simp only[z] at Z⊢;cases List.eq_nil_of_length_eq_zero Z;exact eD yx 2 [hi<|ib 0,hl [],.b aE] (aU L) [.int 0,.int n] _ rfl .bits Q e2 (B _) ff .ret
 ·have p:1<=dU n a:=by
   refine aV (AU (x:=a)<|by lia -abstractProof) λm e=>?_;unfold dU;exact sb e<|(Nat.one_le_div_iff hn).mpr (by simp+arith)
  have K:=QCA (dU n a) L hl p a 0 n zs ((0,.val<|.int a)::(1,.val<|.int n)::(2,.own zs)::[(3,.clo 1)]) (aQ<|nR Z) (bD h<|nL Z) hn hb A (Dg hn A) rfl rfl rfl;rw[List.take_zero,sY,ug,ur<|qj Z,eY,<-Z] at K;simp only[<-Z];exact eD yx 2 [.d<|.int<|ib a,.d<|.list zs,.b aB,.d<|.int zs.length,.c .none<|(0,.val<|.int a)::(1,.val<|.int n)::(2,.own<|(digs n zs.length a).map .int)::[(3,.clo 1)]] (aU L) [.int a,.int n] _ rfl .bits Q e2 (B _) (b0 c) (.x7 (.l<|.bor rfl)<|bD h<|nL Z) K .ret
theorem XJ {xs:List aK} (h:L<xs.length):wX (L:Int) xs.length=aA L:=by dsimp only[wX];simp;exact Ld h
theorem Mh {n:Int} (r:aL l 0=.val (.list xs)) (r1:aL l 1=.val (.int n)) (r2:aL l 2=.clo 2):tP 2 [0,1,2] aF l=[(0,.val<|.list xs),(1,.val<|.int n),(2,.clo 2)]:=by
 refine (?_:[(0,j6 2 aE<|aL l 0),(1,j6 2 aE<|aL l 1),(2,j6 2 aE<|aL l 2)]=_);refine sb r<|sb r1<|sb r2 ?_
 rfl
section
variable {n L R M S u w:Int}
noncomputable def rZ (n:Int) (xs:List aK) (L R M S:Int):Ls:=(0,.val<|.list xs)::(1,.val<|.int n)::(2,.clo 2)::vs 200 [L,R,M,S]
theorem QBB (r:aL l 0=.val (.list xs)) (r1:aL l 1=.val (.int n)) (r2:aL l 2=.clo 2) (e1: ¬ L+1=R) (e:(L+R).fdiv (2^bN 1)=M) (Z:(M - L)*n=S) (t:ib (M - L)+ib n<=134217728) (z:0<=S) (g:(ib u:Int)+S<=134217728)
 (H:(aU m).L 2 [.int M,.int R] (rZ n xs L R M S) (.int u) (rZ n xs L R M S)) (K:(aU m).L 2 [.int L,.int M] (rZ n xs L R M S) (.int w) (rZ n xs L R M S)):(aU<|m+1).L 2 [.int L,.int R] l (.int<|u*2^S.toNat+w) l:=by
 subst e;subst Z;exact .c rfl (zN Ff [.b aE,.c (.int u)<|rZ n xs L R _ _,.c (.int w)<|rZ n xs L R _ _] (aU m) 2 [200,201] [0,1,2] aF [.int L,.int R] l _ (.int<|u*2^((((L+R).fdiv<|2^bN 1) - L)*n).toNat+w) _ rfl (Mh r r1 r2) rfl (beq_eq_false_iff_ne.mpr e1) i1 t H z g K .ret .none)
theorem Wc {d:Int} (R:aL l 0=.val (.list xs)) (r1:aL l 1=.val (.int n)) (r2:aL l 2=.clo 2) (h: ∀r,cC r (.d<|.list xs) L<|.int d):(aU<|m+1).L 2 [.int L,.int<|L+1] l (.int d) l:=.c rfl (zN Ff [.b aB,hi d] (aU m) 2 [200,201] [0,1,2] aF [.int L,.int<|L+1] l _ (.int d) _ rfl (Mh R r1 r2) rfl (QHA _) (h _) .ret .none)
end
theorem Vy: ∀(k z:Nat),k<=z->1<=k-> ∀(L n:Nat) (ds:List Int) (l:Ls),L+k<=ds.length->ds.length<=256->1<=n->n*k<=30000000->(∀d∈ds,0<=d/\d<2^n)->
 aL l 0=.val (.list<|ds.map .int)->aL l 1=.val (.int n)->aL l 2=.clo 2->(aU z).L 2 [.int L,.int (L+k:Nat)] l (.int<|undig n<|(ds.drop L).take k) l:=by
 intro k;induction k using QFY with
 |ind k i=>
  intro z hl C L n ds l U Q hn N R Z r1 r2;refine aV (DI<|az C hl) λm e=>?_;subst e;by_cases c:k=1
  ·clear i C N hl
   subst c;have K:=U
   have p:undig n ((ds.drop L).take 1)=ds[L]:=by
    refine sb (Hx K)<|(?_:ds[L]+2^n*0=ds[L])
    rw[Qo,QFe]
   exact sb p<|Wc Z r1 r2 λr=>.seq (.l .d) (by rw[dZ];exact bE<|oL Q) (XJ (by rw[dZ];exact K)) (by (erw[DB];erw[sP K]);rfl)
  ·refine iU (by
    refine (jX (k / 2) (k - k / 2) (((um c).elim (λu=>(bD C u)) λu=>(iH.mp λY=>(cY (na u<|dG (k) (by decide:0<2))<|gC 2 Y)))) ((iH.mp λY=>(cY (na (na (na (na C<|nR<|sE ((aQ<|qu (k) 2):k / 2<=k)) Y)<|qu (k) 2)<|nR<|sE ((aQ<|qu (k) 2):k / 2<=k)) Y))) (by (exact (wF<|sE ((aQ<|qu (k) 2):k / 2<=k)))) ?_)
    exact sb (hV _<|by decide)<|LV L k: ∃a b,1<=a/\1<=b/\a+b=k/\((L:Int)+((L+k:Nat):Int)).fdiv (2^Int.toNat 1)=((L+a:Nat):Int)) λa b o hb A M=>?_
   have s:n*a+n*b=n*k:=by rw[<-A,QFZ]
   have g:ib (((L+a:Nat):Int) - L)+ib (n:Int)<=134217728:=by have h:=CX (x:=((L+a:Nat):Int) - L) (bE<|oL o)<|bG (ni (ni (ni (oL U)<|oL Q)<|oL hb)<|oL<|nL A)<|oZ L;have t:=CX (dP _)<|bG (oL N)<|oL (gC n C:n*1<=n*k);exact az (iF ‹_› ‹_›) (by decide)
   have v:=yw n ((ds.drop<|L+a).take b) λd hd=>R d<|List.mem_of_mem_drop<|List.mem_of_mem_take hd;rw[(by (erw[DF];erw[II]);exact (fz ((bD (na (nL A) U)<|nR<|sE ((bD U<|nL A):L+a<=ds.length)):b<=ds.length - (L+a))):((ds.drop<|L+a).take b).length=b)] at v;have g2:=oI v.1 v.2;have H:=i a (bD hb<|nL A) m (bD (na hl hb)<|nL A) o L n ds (rZ n (ds.map .int) L (L+k:Nat) (L+a:Nat) (n*a:Nat)) (bD U<|nL A) Q hn (bD N<|nL s) R rfl rfl rfl;have B:=i b (bD o<|nL A) m (bD (na hl o)<|nL A) hb (L+a) n ds (rZ n (ds.map .int) L (L+k:Nat) (L+a:Nat) (n*a:Nat)) (bD U<|nL A) Q hn (bD N<|nL s) R rfl rfl rfl;rw[wO,A] at B;have:(ds.drop L).take k=(ds.drop L).take a++(ds.drop<|L+a).take b:=cv A<|sb List.take_add<|sb List.drop_drop rfl
   rw[this,CY,(by (erw[DF];erw[II]);exact (fz ((bD (na (nL A) U)<|nR<|sE ((aQ U):L<=ds.length)):a<=ds.length - L)):((ds.drop L).take a).length=a),xE,jo];exact QBB Z r1 r2 ((λW=>((um c).elim (λu=>(cY C u)) λu=>(fc (oL u)<|iR W)))) M (by rw[QFa,xE,Qm,<-QFb,IS]:(((L+a:Nat):Int) - L)*n=((n*a:Nat):Int)) g (dP _) (bG (ni g2<|oL N)<|oL<|nL s) B H
theorem Be (L:Nat) {ds:List Int} (hl:ds.length<=L) (h:ds.length<=256) (hn:1<=n) (N:n*ds.length<=30000000) (R: ∀d∈ds,0<=d/\d<2^n):(aU<|L+1).F 6 [.list<|ds.map .int,.int n] (.int<|undig n ds):=by
 refine di ?_ rfl;induction ds with
 |nil=>exact eD CN 2 [.b aE,.b aE] (aU L) [.list [],.int n] _ rfl (.lst .d<|hJ _) ff .ret
 |cons d ds=>have m:((d::ds).map cA).length=(d::ds).length:=dZ ..;have K:=Vy (d::ds).length L hl (Hv<|hJ _) 0 n (d::ds) [(0,.val<|.list<|(d::ds).map .int),(1,.val<|.int n),(2,.clo 2)] (by simp+arith) h hn N R rfl rfl rfl;rw[ug,Qp,uV<|bh _,<-m] at K;exact eD CN 2 [.b aB,.b aB,hi ((d::ds).map cA).length,.c (.int<|undig n<|d::ds) [(0,.val<|.list<|(d::ds).map .int),(1,.val<|.int n),(2,.clo 2)]] (aU L) [.list<|(d::ds).map .int,.int n] _ rfl (.lst .d (by erw[m];exact az ‹_› (gA _ _))) tt (.x7 (.l .d) (by erw[m];exact ig ‹_› (by decide))) K .ret
end B01
noncomputable def ldiv (n:Nat) (b:Int):List Int->Int->List Int×Int
 |[],r=>([],r)
 |d::ds,r=>((r*2^n+d) / b::(ldiv n b ds<|(r*2^n+d) % b).1,(ldiv n b ds<|(r*2^n+d) % b).2)
theorem B3 {b:Int} {r}:ldiv n b [] r=([],r):=rfl
theorem yE {b:Int} {d ds r}:ldiv n b (d::ds) r=((r*2^n+d) / b::(ldiv n b ds<|(r*2^n+d) % b).1,(ldiv n b ds<|(r*2^n+d) % b).2):=rfl
theorem KQ (n:Nat) (b:Int): ∀ds r,(ldiv n b ds r).1.length=ds.length:=by
 intro O;induction O with
 |nil=>exact λO=>rfl
 |cons d ds i=>exact λr=>by simp only[B3,yE];simp[i]
theorem QDB {x d P u b q t e r':Int} (H:x*P+u=q*b+r') (h:d=t*b+x):d*P+u=(P*t+q)*b+r':=by
 erw[h]
 grind
theorem QAz (n:Nat) {b:Int} (hb:0<b) (dJ:b<=2^n): ∀ds r,(∀d∈ds,0<=d/\d<2^n)->0<=r->r<b->
 r*2^(n*ds.length)+undig n ds.reverse=undig n (ldiv n b ds r).1.reverse*b+(ldiv n b ds r).2/\0<=(ldiv n b ds r).2/\(ldiv n b ds r).2<b/\ ∀q∈(ldiv n b ds r).1,0<=q/\q<2^n:=by
 intro O;induction O with
 |nil=>exact λr O h0 H=>by simp[B3,yE,vh,oE,h0,H]
 |cons d ds u=>
  exact λr hd h0 H=>by
   have R:=fh n;refine bI (hd d<|.head _) λW d1=>?_;have x0:=mU (r*2^n+d)<|gE hb;have x1:=nT (r*2^n+d) hb;refine jy (u _ (λq h=>hd q<|.tail _ h) x0 x1) λi1 t i g=>?_;rw[yE];have Q:0<=r*2^n:=kF h0<|bw R;have c:(r+1)*2^n<=b*2^n:=mT (by assumption)<|bw R;refine (kr ?_ t i ?_)
   ·have e:=o9 (r*2^n+d) b
    simp only[zl,zl,CY,CY,pL,tT,zv,zv,KQ];simp only[vh,oE];generalize hP:(2:Int)^(n*ds.length)=P at*;generalize (2:Int)^n=N at*;generalize Y:(r*N+d) % b=y at*;generalize Z:(r*N+d) / b=z at*;have:=QDB (e:=0) i1 (by erw[jo z b];exact e.symm:r*N+d=z*b+y)
    grind
   ·intro q h
    rcases bp.mp h with rfl|h
    ·exact ⟨uk (qt ‹_› ‹_›)<|bw hb,sV hb (by grind:r*2^n+d<2^n*b)⟩
    ·exact g q h
namespace B01
section
variable {o:bj} {a b z y d:Int} {n:Nat} {D qs:List aK} {r:Int} {t:Option (Int×Int)} {K:Fl->Ls->Prop} {xs:List aK}
noncomputable def rq (a b n:Int) (D qs:List aK) (r:Int) (t:Option (Int×Int)):Ls:=(0,.val<|.int a)::(1,.val<|.int b)::(2,.val<|.int n)::(3,.val<|.list D)::(4,.val<|.int r)::(5,.own qs)::match t with|none=>[]|some p=>vs 6 [p.1,p.2]
theorem U9 (H:o.F 3 [.int<|r*2^n+d,.int b,.int n] (.tuple [.int z,.int y])) (g:(ib r:Int)+n<=134217728) (g2:qs.length<16777216) (h:fW y9 (wI.map SW.w) o xs (rq a b n D (qs++[.int z]) y<|aA (d,z)) K):
 fW y9 (wI.map SW.w) o (.int d::xs) (rq a b n D qs r t) K:=by
 have N:=dP n;induction t with
 |none=>exact fY y9 wI o [.d<|.tuple [.int z,.int y]] (.int d) xs (rq a b n D qs r aF) K N g H g2 h
 |some p=>exact fY y9 wI o [.d<|.tuple [.int z,.int y]] (.int d) xs (rq a b n D qs r<|aA p) K N g H g2 h
theorem Xj (hb:0<b) (dJ:b<=2^n) (hn:n<=30000000) (Q: ∀a,0<=a->a<b*2^n->o.F 3 [.int a,.int b,.int n] (.tuple [.int<|a / b,.int<|a % b])):
 ∀(ds:List Int) (r:Int) (qs:List aK) (t:Option (Int×Int)),(∀d∈ds,0<=d/\d<2^n)->0<=r->r<b->qs.length+ds.length<=1000->
  ∃t',∀K,K .next (rq a b n D (qs++(ldiv n b ds r).1.map .int) (ldiv n b ds r).2 t')->fW y9 (wI.map SW.w) o (ds.map .int) (rq a b n D qs r t) K:=by
 intro O;induction O with
 |nil=>exact λr qs t hd h0 H hl=>⟨t,λK h=>by simp only[B3,yE,jk,eY] at h;exact h⟩
 |cons d ds i=>exact λr qs t hd h0 H hl=>by have N:=fh n;have x:=(hd d<|.head _);have W:=x.1;have d1:=x.2;have R:=mT H<|bw N;simp only[qr,gq] at R;have L:=Q (r*2^n+d) (qt (kF h0<|bw N) W)<|bG d1 R;have g:=oI h0<|pJ H dJ;dsimp only[pL] at hl;obtain ⟨t',Z⟩:=i _ (qs++[.int<|(r*2^n+d) / b]) (aA (d,(r*2^n+d) / b)) (λq h=>hd q<|.tail _ h) (mU _<|gE hb) (nT _ hb) (by simp only[du];refine (?_);exact aQ hl);refine ⟨t',λK h=>U9 L (by exact bG (ni (oL hn)<|oL hn) g) (aQ hl)<|Z K ?_⟩;dsimp only[B3,yE,gB] at h;simp only[ik];exact h
end
theorem TZ (L:Nat) (B:300<=L) {a b:Int} (A:0<=a) (hb:0<b) (hn:ib b<=100000) (K:dU (ib b) a<=250):
 (aU<|L+1).F 7 [.int a,.int b] (.tuple [.int<|a / b,.int<|a % b]):=by
 obtain ⟨M,rfl⟩: ∃M,L=M+1:=⟨L - 1,by exact (sE<|(aQ B)).symm⟩;refine aV (AU hb) λm z=>?_;have l:=Y_ (bw hb) z;have H:=QBt (m:=ib b) (bw hb)<|uT _;have C: ∀r,iu r .bits (.d<|.int b) []<|.int<|ib b:=λr=>.bits;generalize Y:ib b=n at*;have N:1<=n:=aQ<|nR z
 have j:n*dU n a<=30000000:=az (Cn hn K) (by decide);have W:=CP M A N (bD B K) (az ‹_› (gA _ _)) j<|az ‹_› (gA _ _);have P: ∀a,0<=a->a<b*2^n->(aU<|M+1).F 3 [.int a,.int b,.int n] (.tuple [.int<|a / b,.int<|a % b]):=λa h0 g=>RA 5 M (aQ B) a b n h0 N (by simp only[z,rk];exact bG l l) H g (az ‹_› (by decide))<|aQ hn;have hdr:=Ys n (dU n a) a;have u:=Rv n (dU n a) a A<|Dg N A;have e:=xV n (dU n a) a;generalize R:digs n (dU n a) a=ds at*;refine jy (QAz n hb (bw H) ds.reverse 0 (λd h=>hdr d<|Cy.mp h) (uT _) hb) λs i x Z=>?_;have s5:=KQ n b ds.reverse 0;refine aV (Xj (o:=aU<|M+1) (a:=a) (D:=ds.map .int) hb (bw H) (aQ hn) P ds.reverse 0 [] aF (λd h=>hdr d<|Cy.mp h) (uT _) hb (by simp only[uh,zv];exact bD K<|nL e)) λt c=>?_;simp only[sY,Pt] at c;generalize (ldiv n b ds.reverse 0).1=qs at*;generalize (ldiv n b ds.reverse 0).2=y at*;simp only[List.reverse_reverse,u,Int.zero_mul,zc] at s;refine bI (vz hb s i x) λe1 e2=>?_;have Q:qs.length=dU n a:=by simp only[s5,zv,e]
 have q:qs.reverse.length=dU n a:=by simp only[zv,Q]
 have U:=Be M (ds:=qs.reverse) (n:=n) (bD (na B K)<|nL q) (bD K<|nL q) N (by erw[q];exact j) λd h=>Z d<|Cy.mp h;rw[Pt] at U;have v:(qs.map cA).length<=16777216:=by rw[dZ];exact bD K<|nL Q
 simp only[e1,e2];refine di ?_ rfl;induction t with
 |none=>exact eD b_divmod_pos 2 [hi n,hl<|ds.map .int,.f .next (rq a b n (ds.map .int) (qs.map .int) y aF),hi<|undig n qs.reverse] (aU<|M+1) [.int a,.int b] _ rfl (C _) W c v U .ret
 |some p=>exact eD b_divmod_pos 2 [hi n,hl<|ds.map .int,.f .next (rq a b n (ds.map .int) (qs.map .int) y<|aA p),hi<|undig n qs.reverse] (aU<|M+1) [.int a,.int b] _ rfl (C _) W c v U .ret
theorem Lf (L:Nat) (l:310<=L) {a b:Int} (B:b≠0) (hn:ib b<=100000) (C:ib a<=100*ib b):
 (aU<|L+1).F 8 [.int a,.int b] (.tuple [.int<|a.fdiv b,.int<|a.fmod b]):=by
 have pos: ∀L,300<=L-> ∀x y,0<=x->0<y->ib y<=100000->ib x<=101*ib y->(aU<|L+2).F 8 [.int x,.int y] (.tuple [.int<|x / y,.int<|x % y]):=λL l x y o Y t R=>by refine aV (AU Y) λm j=>?_;have s:=TZ L l o Y t<|QFf<|(Nat.div_lt_iff_lt_mul<|aQ<|nR j).mpr<|bD R<|nR j;exact di (eD BL 2 [.b aE,.b aE,.b aE,.d<|.tuple [.int<|x / y,.int<|x % y]] _ [.int x,.int y] _ rfl (beq_eq_false_iff_ne.mpr<|gE Y) (df<|jK.mpr<|bw Y) (df<|jK.mpr o) s .ret) rfl
 have neg: ∀L,301<=L-> ∀x y,0<y->ib y<=100000->ib x<=100*ib y->(aU<|L+2).F 8 [.int x,.int y] (.tuple [.int<|x / y,.int<|x % y]):=λL l x y Y t R=>by
  refine aV (AU Y) λm j=>?_;rcases Qi x 0 with c|c
  ·obtain ⟨M,rfl⟩: ∃M,L=M+1:=⟨L - 1,by exact (sE<|(aQ l)).symm⟩
   have q:ib (-x - 1)<=ib x+1:=by refine nv.mpr ?_;have:=nv.mp<|bh<|ib x;simp only[Ql];exact (oM<|bG (ni (ni (mI 2<|oL this)<|iL<|jR ((bE c):0<= -x - 1))<|mI 2<|iR<|xH ((bE c):x<=0)) c)
   have K:=pos M (Nat.le_of_succ_le_succ ‹_›) (-x - 1) y (bE c) Y t<|bD (na R<|nR j) q;exact bI (kbt_below x Y) λe2 e=>sb e2<|sb e<|sb (by simp+arith:y - 1 - (-x - 1) % y=y+(-((-x - 1) % y) - 1))<|di (eD BL 2 [.b false,.b false,.b true,.d<|.tuple [.int<|(-x - 1) / y,.int<|(-x - 1) % y]] _ [.int x,.int y] _ rfl (beq_eq_false_iff_ne.mpr<|Int.ne_of_gt Y) (df<|Int.not_lt.mpr<|Int.le_of_lt Y) (dt c) K .ret) rfl
  ·exact pos L (sA ‹_›) x y c Y t<|aQ R
 obtain ⟨M,rfl⟩: ∃M,L=M+2:=⟨L - 2,by exact (sE<|(aQ l)).symm⟩;rcases Qi b 0 with c|c
 ·have i: ∀z,ib (-z)=ib z:=λz=>by simp[ib,Builtin.Int.intBits]
  have K:=neg M (aQ l) (-a) (-b) (bE c) (by rw[i];exact hn) (by rw[i,i];exact C);have e1: -a / -b=a.fdiv b:=cv (Qh _<|bE c)<|Int.neg_fdiv_neg a b
  have e2: -(-a % -b)=a.fmod b:=by
   have h:=o9 (-a) (-b);have H:=Int.mul_fdiv_add_fmod a b;simp only[e1] at h
   grind
  exact cv e1<|cv e2<|di (eD BL 2 [.b false,.b true,.d<|.tuple [.int (-a / -b),.int (-a % -b)]] _ [.int a,.int b] _ rfl (beq_eq_false_iff_ne.mpr B) (dt c) K .ret) rfl
 ·have:=neg (M+1) (aQ l) a b (((AE B).elim (λu=>(bG (ni c u) c)) λu=>u)) hn C
  exact sb (hV _<|((AE B).elim (λu=>(bG (ni c u) c)) λu=>u))<|sb (my _<|by omega)<|this
end B01
theorem kW (a:Int) (h:0<n): ∃w:Nat,w<n/\a.fmod n=(w:Int):=by have q:=nU a<|mD.mpr ‹_›;have H:=nV a<|mD.mpr ‹_›;exact (ax ((a.fmod n).toNat) ((oM<|bG q<|iL<|jN (H:0<=a.fmod (↑n:Int))))<|(jN (H:0<=a.fmod (↑n:Int))).symm)
theorem KC {k n:Nat} (h:k<n):wX (k:Int) n=aA k:=by dsimp only[wX];simp;exact Ld h
section
variable {k:Int} {w:Nat}
theorem dE (h:xs[w]?=aA d) (K:k=w) (hl:(xs.length:Int)<2^63):cC r (.d<|.list xs) k d:=K▸ .seq (.l .d) hl (KC (zT.mp h).1) h
theorem pT {xs:List Int} {z:Int} (h:xs[w]?=aA z) (K:k=w) (hl:(xs.length:Int)<2^63):cC r (.d<|.list<|xs.map .int) k (.int z):=dE (by simp only[DB,h];rfl) K (by rw[dZ];exact hl)
theorem CO (h:x.cps[w]?=aA d) (K:k=w) (hl:x.length<2^63):cC r (.d<|.str x) k (.str ⟨#[d]⟩):=by
 refine aV (Array.getElem?_eq_some_iff.mp h) λA i=>?_;have H:w<x.length:=A
 have e:Txt.item x k=⟨#[d]⟩:=by
  erw[K];have b:(w:Int)<x.length:=mD.mpr ‹_›
  have v: ¬ (w:Int)<0:=by simp+arith
  simp[Txt.item,Txt.charAt,wX,b,v,h]
 exact e▸ .str (bG (iR K)<|oZ w) (bG (iL K)<|oL H) hl
theorem xj {a:Int} (h:a=w) (K:w<=1114111):cn r .chr [.d<|.int a] (.str ⟨#[w]⟩):=sb h<| .chr (Int.natCast_nonneg _)<|Int.ofNat_le.mpr ‹_›
end
theorem getD_some {α:Type} {xs:List α} {w:Nat} {d:α} (h:w<xs.length):xs[w]?=aA (xs.getD w d):=by simp only[List.getD_eq_getElem?_getD,sP h];rfl
namespace B01
theorem oB1 (L:Nat) (i:Int):(aU L).b1 i=gL.contains i:=by induction L<;>rfl
theorem Kn (L:Nat) (i:Int):(aU L).b3 i=qz i:=by induction L<;>rfl
noncomputable def lu:List Int:=[97,65,119808,119860,119912,120016,120172,120224,120276,120328,120380,120432]
noncomputable def dV (c w:Nat):Nat:=(lu.getD w 0).toNat+c - 97
theorem Yi: ∀w,w<12->65<=lu.getD w 0/\lu.getD w 0<=120432/\lu[w]?=aA (lu.getD w 0):=by decide
theorem HU (L:Nat) {c:Nat} (H:97<=c) (i:c<=122) {W:Int} {w:Nat} (t:W.fmod 12=w) (h:w<12):(aU<|L+1).F 13 [.str ⟨#[c]⟩,.int W] (.str ⟨#[dV c w]⟩):=eJ (Yi w h) λK B b=>di (eD Iu 2 [.d<|.int<|lu.getD w 0,.d<|.int c,.d<|.str ⟨#[dV c w]⟩] _ [.str ⟨#[c]⟩,.int W] _ rfl ff (pT b t<|by decide) (.ord rfl) (xj (by unfold dV;exact (uU (bG (oL<|nR<|sE ((aQ H):97<=(lu.getD w 0).toNat+c))<|iR<|jN ((bE K):0<=lu.getD w 0))<|bG (oL<|nL<|sE ((aQ H):97<=(lu.getD w 0).toNat+c))<|iL<|jN ((bE K):0<=lu.getD w 0))) (by unfold dV;exact (oM<|bG (ni (ni (oL<|QEy ((lu.getD w 0).toNat+c)<|97)<|iL<|jN ((bE K):0<=lu.getD w 0))<|oL i) B))) .ret) rfl
noncomputable def qC:List Int:=[173,847,6150,6155,6156,6157,8203,8204,8205,8288,65279]
noncomputable def cm (w:Nat):Nat:=if w<11 then (qC.getD w 0).toNat else 65013+w
theorem S7: ∀w,w<11->0<=qC.getD w 0/\qC.getD w 0<=65279/\qC[w]?=aA (qC.getD w 0):=by decide
theorem Ae (L:Nat) {W:Int} {w:Nat} (t:W.fmod 27=w) (h:w<27):(aU<|L+1).F 14 [.int W] (.str ⟨#[cm w]⟩):=by
 by_cases c:w<11
 ·refine eJ (S7 w c) λH B N=>?_
  have e:cm w=(qC.getD w 0).toNat:=QGx c;exact di (eD GD 1 [.b aB,.d<|.int<|qC.getD w 0,.d<|.str ⟨#[cm w]⟩] _ [.int W] _ rfl ff (dt<|(bG (iL t)<|oL c)) ff (pT N t<|by decide) (xj ((uU (bG (oL<|nR e)<|iR<|jN (H:0<=qC.getD w 0))<|bG (oL<|nL e)<|iL<|jN (H:0<=qC.getD w 0)))<|by lia -abstractProof) .ret) rfl
 ·have e:cm w=65013+w:=QGw c
  exact di (eD GD 1 [.b aE,.d<|.str ⟨#[cm w]⟩] _ [.int W] _ rfl ff (df λK=>fc (ni K<|iR t)<|oL<|jM c) ff (xj (uU (bG (iL t)<|oL<|nR e)<|bG (iR t)<|oL<|nL e)<|by (clear t;exact bD h<|nL e)) .ret) rfl
noncomputable def rB:List Int:=[172,174,846,848,6149,6151,6154,6158,8202,8206,8287,8289,65278,65280,65023,65040,11,12,28,29,30,133,8232,8233]
noncomputable def fR (w:Nat):Nat:=(rB.getD w 0).toNat
theorem Us: ∀w,w<24->0<=rB.getD w 0/\rB.getD w 0<=65280/\rB[w]?=aA (rB.getD w 0):=by decide
theorem YH (L:Nat) {W:Int} {w:Nat} (t:W.fmod 24=w) (h:w<24):(aU<|L+1).F 15 [.int W] (.str ⟨#[fR w]⟩):=eJ (Us w h) λK B b=>di (eD O7 1 [.d<|.list<|rB.map .int,.d<|.int<|rB.getD w 0,.d<|.str ⟨#[fR w]⟩] _ [.int W] _ rfl (.add .d .d<|by decide) ff (pT b t<|by decide) (xj (by unfold fR;exact (jN (K:0<=rB.getD w 0)).symm) (by unfold fR;lia -abstractProof)) .ret) rfl
noncomputable def kv (k:Nat):Str:=match qz k with
 |.str s=>s
 |_=>cH ⟨#[k]⟩
theorem AP (L:Nat) (k:Nat):(aU<|L+1).F 10 [.str ⟨#[k]⟩] (.bool<|gL.contains (k:Int)):=by have:=eD KG 1 [hi k] (aU L) [.str ⟨#[k]⟩] _ rfl (.ord rfl) .ret;simp only[oB1] at this;exact di this rfl
theorem T3 (L:Nat) (k:Nat):(aU<|L+1).F 11 [.str ⟨#[k]⟩] (.str<|kv k):=by
 refine di ?_ rfl;have B:(∃s,qz k=.str s)\/qz k=.none:=by unfold qz;induction b3.lookup (k:Int) with|none=>exact .inr rfl|some s=>exact .inl ⟨s,rfl⟩
 unfold kv;rcases B with ⟨s,B⟩|B
 ·have e:=(Kn L k).trans B
  have:=eD EU 1 [hi k,.b aE,.b aB] (aU L) [.str ⟨#[k]⟩] _ rfl (.ord rfl) (by simp only[e];exact nofun) tt .ret;simp only[e] at this;exact sb B<|this
 ·have e:=(Kn L k).trans B
  exact sb B<|eD EU 1 [hi k,.b true,.b false,ht<|Txt.lower ⟨#[k]⟩] (aU L) [.str ⟨#[k]⟩] _ rfl (.ord rfl) e ff (.lower<|Nat.le_of_ble_eq_true rfl) .ret
noncomputable def tS:List Nat:=[112,110,109,102,105,108,115,116]
theorem AI: ∀c∈tS,∀w,w<12->gL.contains (dV c w:Int)=aE/\kv (dV c w)=⟨#[c]⟩/\65<=dV c w:=by decide+kernel
theorem rS: ∀w,w<27->gL.contains (cm w:Int)=aB/\65<=cm w:=by decide+kernel
theorem U6: ∀w,w<24->gL.contains (fR w:Int)=aE/\fR w≠10/\fR w≠13/\fR w≠46:=by decide+kernel
noncomputable def md (k:Nat):Dat:=.str ⟨#[k]⟩
noncomputable def rI (d:aK):Option Dat:=match d with
 |.str s=>if gL.contains (s.cps.getD 0 0:Int) then aF else aA (.str<|kv<|s.cps.getD 0 0)
 |_=>aF
theorem DU {k:Nat} (h:gL.contains (k:Int)=aB):rI (md k)=none:=QGx h
theorem BO {k:Nat} (h:gL.contains (k:Int)=aE) (e:kv k=s):rI (md k)=aA (.str s):=(QGw (by (erw[(rfl:((#[k].getD 0 0:Nat))=k)];erw[h]);exact nofun)).trans (by erw[<-e];rfl)
theorem UT (L k:Nat) (d:aK):CE (Q1 11 [cS]).w eF [(TW.eN aE aE<|.call 10 [cS]).w] (aU<|L+1) [(0,.val d),(201,.unb)] (md k) (rI<|md k):=λx K h=>by
 have H:=AP L k;induction hb:gL.contains (k:Int) with
 |true=>rw[hb] at H;rw[DU hb] at h;exact fM (.call 11 [cS]) eF [.eN aE aE<|.call 10 [cS]] (aU<|L+1) [.d<|.bool aB,.b aE,.b aE] [(0,.val d),(201,.unb)] (md k) x K H ff rfl ff h
 |false=>rw[hb] at H;rw[BO hb rfl] at h;exact fM (.call 11 [cS]) eF [.eN aE aE<|.call 10 [cS]] (aU<|L+1) [.d<|.bool aE,.b aB,.b aB,ht<|kv k] [(0,.val d),(201,.unb)] (md k) x K H tt rfl tt (T3 L k) rfl h
theorem Ll (L:Nat) (hl:(m6 s).length<=16777216) (t:(m6 s).filterMap rI=ts.map .str) (j:nS ⟨#[]⟩ ts):(aU<|L+2).F 17 [.str s] (.str<|DC ⟨#[]⟩ ts):=di (eD NQ 1 [.ds<|ts.map .str,ht<|DC ⟨#[]⟩ ts] (aU<|L+1) [.str s] _ rfl hl (λK h=>QBU (λd Y=>by refine aS (ij.mp Y) λc O e=>?_;erw[<-e];exact UT L c<|.str s) K (by simp only[t];exact h)) (.join .d j) .ret) rfl
theorem FI: ∀c∈tS,97<=c/\c<=122:=by decide
theorem nu {x y z:aG} (h:x++y=z) (hl:eV (x.length+y.length) 16777216=aB):fe r .Add (.d<|.str x) (.d<|.str y) (.str z):=h▸ .cat (bJ hl)
end B01
section
open PySem.StrLaws PySem.Builtin PySem.Builtin.Str
theorem YI {s sub:aG} (W:1<=sub.length): ∀{c1 c2:List Nat} {a F f:Nat},ChainG s sub i a c1 F->(∀k,F<=k-> ¬ At s sub i k)->ChainG s sub i a c2 f->(∀k,f<=k-> ¬ At s sub i k)->c1=c2:=by
 intro c1;induction c1 with
 |nil=>
  exact @λc2=>by
   induction c2 with
   |nil=>exact λO O O O=>rfl
   |cons c r O=>exact @λa F f A N H n=>QGv H.2.1 (N c (by have e:=A;have:=H.1;exact bD (nL e) this))
 |cons c r z=>
  exact @λc2=>by
   induction c2 with
   |nil=>exact @λa F f A N H n=>QGv A.2.1 (n c (by have e:=H;have:=A.1;exact bD (nL e) this))
   |cons d t O=>
    exact @λa F f A N H n=>by
     have e:c=d:=by
      rcases Nat.lt_trichotomy c d with h|h|h
      ·exact QGv A.2.1<|H.2.2.1 c A.1 h
      ·exact h
      ·exact QGv H.2.1<|A.2.2.1 d H.1 h
     exact sb e<|congrArg (List.cons d)<|z A.2.2.2 N (e▸H.2.2.2) n
noncomputable def rowsOf (y:List Nat):List Nat->List (List Nat)->List Nat
 |r,[]=>r
 |r,r1::rs=>r++(y++rowsOf y r1 rs)
theorem Dx {y:List Nat} {r}:rowsOf y r []=r:=rfl
theorem FP {y:List Nat} {r r1 rs}:rowsOf y r (r1::rs)=r++(y++rowsOf y r1 rs):=rfl
noncomputable def posn (w:Nat):Nat->List Nat->List (List Nat)->List Nat
 |_,_,[]=>[]
 |a,r,r1::rs=>(a+r.length)::posn w (a+r.length+w) r1 rs
theorem PE {w:Nat} {u0 u1}:posn w u0 u1 []=[]:=rfl
theorem JS {w:Nat} {a r r1 rs}:posn w a r (r1::rs)=(a+r.length)::posn w (a+r.length+w) r1 rs:=rfl
theorem Of {x y:aG} {cs:List Nat} (Y:y.cps.toList=c::cs) {k:Nat} (h:x.cps.toList[k]?≠aA c): ¬ At x y x.length k:=by
 rintro ⟨_,i⟩
 simp! only[subAt_eq,Y] at i
 have H:=eq_of_beq i;apply h;have:y.length=cs.length+1:=by have e:y.cps.toList.length=y.length:=jq;rw[Y] at e;exact e.symm
 rw[this] at H;have b:=QGz (λl=>l[0]?) H;simpa -iota [List.getElem?_take] using b
theorem YA {x y:aG} (M:x.cps.toList=pre++(y.cps.toList++post)):At x y x.length pre.length:=by
 have L:x.cps.toList.length=x.length:=jq;have l:y.cps.toList.length=y.length:=jq;refine ⟨?_,?_⟩
 ·simp! only[<-L,M,du,du,l]
  simp+arith
 ·simp! only[subAt_eq,M,Qq,<-l,QFg]
  exact QHA _
theorem Rf {x y:aG} {cs:List Nat} (Y:y.cps.toList=c::cs): ∀(rs:List (List Nat)) (r pre:List Nat),x.cps.toList=pre++rowsOf (c::cs) r rs->(∀q∈r::rs,c∉q)->
 ∃f,ChainG x y x.length pre.length (posn y.length pre.length r rs) f/\(∀k,f<=k-> ¬ At x y x.length k)/\partsFrom x y.length pre.length (posn y.length pre.length r rs)=(r::rs).map λq=>⟨q.toArray⟩:=by
 intro O;induction O with
 |nil=>
  exact λr pre M F=>by
   have hl:x.cps.toList.length=x.length:=jq
   simp! only[Dx,FP] at M
   refine (gc pre.length rfl (λk C=>Of Y ?_) ?_)
   ·refine sb M<|sb (List.getElem?_append_right C) ?_
    intro h;exact F r (.head _)<|DH h
   ·refine (?_:[strSub x pre.length x.length]=_)
    have:strSub x pre.length x.length=⟨r.toArray⟩:=by
     have e:=strSub_toList x pre.length x.length;rw[<-hl,M,Qq,uV<|by simp] at e
     have e2:(strSub x pre.length x.length).cps=r.toArray:=by
      apply Qr.mp;refine cv hl<|sb M ?_
      simpa -iota using e
     cases hs:strSub x pre.length x.length;simp! only[hs] at e2;exact QGz Qt e2
    simp! only[this]
    rfl
 |cons r1 rs i=>
  exact λr pre M F=>by
   have hl:x.cps.toList.length=x.length:=jq;have L:y.cps.toList.length=y.length:=jq
   simp! only[Dx,FP] at M
   have m:x.cps.toList=(pre++r++(c::cs))++rowsOf (c::cs) r1 rs:=by simp! only[M];simp
   refine cy (i r1 (pre++r++(c::cs)) m λq Q=>F q<|.tail _ Q) λf A p H=>?_;have U:(pre++r++(c::cs)).length=pre.length+r.length+y.length:=by (erw[<-L];erw[Y]);simp;simp+arith
   simp! only[U] at A H
   have a:At x y x.length (pre.length+r.length):=by have:=YA (x:=x) (y:=y) (pre:=pre++r) (post:=rowsOf (c::cs) r1 rs) (by (erw[Y];erw[M]);simp);simpa -iota using this
   refine ⟨f,(kr (mL _ _) a (λk K l=>Of Y ?_) A),p,?_⟩
   ·refine sb M<|sb (List.getElem?_append_right K) ?_
    erw[List.getElem?_append_left<|(bD (nL<|sE (K:pre.length<=k)) l)];intro h;exact F r (.head _)<|DH h
   ·refine (?_:strSub x pre.length (pre.length+r.length)::partsFrom x y.length (pre.length+r.length+y.length) (posn y.length (pre.length+r.length+y.length) r1 rs)=_)
    erw[H];have:strSub x pre.length (pre.length+r.length)=⟨r.toArray⟩:=by have e:=strSub_toList x pre.length<|pre.length+r.length;rw[M,Qq,List.take_left'<|by simp+arith] at e;have e2:(strSub x pre.length<|pre.length+r.length).cps=r.toArray:=Qr.mp (by simpa -iota using e);cases hs:strSub x pre.length (pre.length+r.length);simp! only[hs] at e2;exact QGz Qt e2
    simp! only[this]
    rfl
theorem M3 {x y:aG} {cs:List Nat} (Y:y.cps.toList=c::cs) (M:x.cps.toList=rowsOf (c::cs) r rs) (F: ∀q∈r::rs,c∉q):
 occurrences x y 0 x.length (x.length+1)=posn y.length 0 r rs/\partsBetween x (occurrences x y 0 x.length<|x.length+1) y.length=(r::rs).map λq=>⟨q.toArray⟩:=by
 have l:y.cps.toList.length=y.length:=jq;have W:1<=y.length:=by (erw[<-l];erw[Y]);exact PX _
 refine cy (Rf Y rs r [] M F) λf A h H=>aS (occ_tight x y W) λg d K=>?_;have e:=YI W d K A h;refine ⟨e,?_⟩;rw[e,partsBetween_eq];exact H
theorem x9 {x y:aG} (h:x.cps.toList=y.cps.toList):x=y:=by
 induction x;induction y;exact QGz Qt<|Qr.mp h
theorem VC (M:x.cps.toList=a++c::b) (A:c∉a) (hb:c∉b):Cj x ⟨#[c]⟩ ⟨#[]⟩=⟨(a++b).toArray⟩:=by
 have h:=M3 (x:=x) (y:=⟨#[c]⟩) (c:=c) (cs:=[]) rfl (r:=a) (rs:=[b]) (by erw[M];rfl) (by
  intro q Q;clear M;rcases bp.mp Q with rfl|Q
  ·exact A
  ·exact sb (IU.mp Q)<|hb)
 unfold Cj;have e:(⟨#[c]⟩:aG).length=1:=rfl;rw[e] at h;refine sb e<|sb h.2<|sb h.1<|sb (if_neg<|by simp -iota [PE,JS]) ?_
 apply x9;simp -iota [glued]
theorem YM (M:x.cps.toList=rowsOf [13,10] r (r1::rs)) (hf: ∀q∈r::r1::rs,13∉q):Txt.split x ⟨#[13,10]⟩=(r::r1::rs).map λq=>⟨q.toArray⟩:=by
 have h:=M3 (x:=x) (y:=⟨#[13,10]⟩) (c:=13) (cs:=[10]) rfl M hf;have hl:x.cps.toList.length=x.length:=jq;have e1:(⟨#[13,10]⟩:aG).length=2:=rfl;unfold Txt.split;rw[e1] at h;refine sb e1<|sb h.2<|sb h.1 ?_
 have k:strKind ⟨#[13,10]⟩=1:=by decide+kernel
 have K:1<=strKind x:=by unfold QGs;split<;>(try split)<;>decide
 rw[if_neg,if_neg]
 ·simp -iota [PE,JS]
 ·refine sb k<|cv hl<|sb M ?_
  simp -iota [Dx,FP];exact ⟨(by simp+arith),(λW=>(cY K<|nL W))⟩
theorem WU (M:x.cps.toList=t++[c]++bl) (C:AF c=aE) (hb: ∀d∈bl,AF d=aB):Qu x=⟨(t++[c]).toArray⟩:=by
 have l:x.cps.toList.length=x.length:=jq;dsimp only[Qu];rw[QFh];dsimp only[QFi];apply x9
 simp! only[wm,if_false,if_true,strSub_toList,Qp]
 refine sb M<|sb List.reverse_append<|sb List.reverse_append ?_
 have e:(bl.reverse++([c].reverse++t.reverse)).takeWhile AF=bl.reverse:=by erw[QFj (by intro d Y;exact hb d<|Cy.mp Y)];simp -iota [C]
 have n:(t++[c]++bl).length - bl.reverse.length=(t++[c]).length:=sb du<|sb List.length_reverse<|Nat.add_sub_cancel _ _
 rw[e,<-l,M,Ck,n,QFg]
theorem HJ {x:aG} (A:a<=b) (hb:b<=x.length):iI x (aA a) (aA b)=⟨((x.cps.toList.drop a).take<|b - a).toArray⟩:=by
 have h:=QGt (x:=x) (i:=a) (j:=b) (dP _) (om.mpr ‹_›)<|om.mpr ‹_›;have:=eq_of_beq h;erw[this]
 congr 4
 exact (ji (oM<|bG (oL<|nR<|sE (A:a<=b))<|iL<|jN ((bE<|oL A):0<=(↑b:Int) - (↑a:Int)))<|oM<|bG (oL<|nL<|sE (A:a<=b))<|iR<|jN ((bE<|oL A):0<=(↑b:Int) - (↑a:Int)))
theorem NB {x:aG} (hb:b<=x.length):iI x aF (aA b)=⟨(x.cps.toList.take b).toArray⟩:=by
 have h:iI x aF (aA b)=iI x (aA<|(0:Nat)) (aA b):=by unfold iI;rw[sliceIdx_none_lo];rfl
 refine sb h<|sb (HJ (Nat.zero_le _) hb) ?_
 rfl
theorem Nf {x:aG} (A:a<=x.length):iI x (aA a) aF=⟨(x.cps.toList.drop a).toArray⟩:=by
 have h:iI x (aA a) aF=iI x (aA a) (aA (x.length:Nat)):=by unfold iI;rw[sliceIdx_none_hi]
 have l:x.cps.toList.length=x.length:=jq;exact sb h<|sb (HJ A<|Nat.le_of_eq ‹_›)<|sb (List.take_of_length_le<|by simp -iota [l]) rfl
theorem QGS {x:aG} (h:1<=x.length):iI x aF (aA (-1))=⟨(x.cps.toList.take<|x.length - 1).toArray⟩:=by
 have e:iI x aF (aA (-1))=iI x aF (aA<|(x.length - 1:Nat)):=by unfold iI;exact sb (sliceIdx_neg_hi _ _ (dP _)<|bE<|oL h)<|sb ((Int.le_antisymm (bE<|oL<|nL<|sE (h:1<=x.length))<|bE<|oL<|nR<|sE (h:1<=x.length)):((x.length - 1:Nat):Int)= -1+x.length) rfl
 exact sb e<|sb (NB<|(aQ<|nL<|sE (h:1<=x.length))) rfl
theorem QGa (h:1<=x.length):iI x (aA (-1)) aF=⟨(x.cps.toList.drop<|x.length - 1).toArray⟩:=by
 have e:iI x (aA (-1)) aF=iI x (aA<|(x.length - 1:Nat)) none:=by unfold iI;exact sb (sliceIdx_neg_lo _ _ (dP _)<|bE<|oL h)<|sb ((Int.le_antisymm (bE<|oL<|nL<|sE (h:1<=x.length))<|bE<|oL<|nR<|sE (h:1<=x.length)):((x.length - 1:Nat):Int)= -1+x.length) rfl
 exact sb e<|sb (Nf<|Nat.sub_le _ _) rfl
end
section
open PySem.NumText
theorem ZI (x y:aG):(x++y).cps.toList=x.cps.toList++y.cps.toList:=QEm
noncomputable def dF (n:Nat):List Nat:=(Nat.toDigits 10 n).map Char.toNat
theorem O4 (n:Nat):IJ (toString (n:Int))=⟨(dF n).toArray⟩:=x9 (by simp only[KIN.signs_num];rfl)
theorem Ao (h:n<10^10):AllDigits (dF n)/\dF n≠[]/\(dF n).length<=10/\digitsVal (dF n)=n:=by
 have hl:=KT.len_num (n:=(n:Int)) (by simp+arith)<|bE<|oL h;rw[O4] at hl;refine (kr ?_ ?_ ?_<|KIN.val_back n)
 ·intro c W
  refine aS (ij.mp W) λH C e=>?_;have r:=digit_range (Nat.isDigit_of_mem_toDigits (by decide) (by decide) C);exact cv e<|r
 ·intro e
  have v:=KIN.val_back n;have h:=toDigits_len_ge 10 n;rw[QFk.mp e] at h;exact QGv h (by decide)
 ·simpa[Str.length] using hl
noncomputable def eE (n:Nat) (bl:List Nat):Str:=⟨([48,95]++dF n++bl).toArray⟩
namespace B01
theorem Z1 (R:aL l 0=.val (.str x)) (r1:aL l 1=.val (.int 2048)) (r2:aL l 2=.clo 0) (r:aL l 3=.emp):tP 0 [0,1,2,3] aF l=[(0,.val<|.str x),(1,.val<|.int 2048),(2,.clo 0),(3,.emp)]:=by refine (?_:[(0,j6 0 aE<|aL l 0),(1,j6 0 aE<|aL l 1),(2,j6 0 aE<|aL l 2),(3,j6 0 aE<|aL l 3)]=_);simp only[R,r1,r2,r];rfl
theorem C_ (L:Nat) {n:Int} (hl:x.length<=640) (M:QFl x=aA n):(aU<|L+2).F 1 [.str x] (.int n):=by
 have s:iI x (aA 0) (aA x.length)=x:=by have:=HJ (x:=x) (hJ _)<|bh _;simp only[Qp,Ck,uV (qj jq:x.cps.toList.length<=x.length),Array.toArray_toList] at this;exact this
 have C: ∀r,gH r (.d<|.str x) (.d<|.int 0) (.d<|.int x.length) (.d .none)<|.str x:=λr=>by have:=gH.str (r:=r) (x:=x) (.int (i:=0)) (.int (i:=x.length))<|az ‹_› (gA _ _);rwa[s] at this
 have K:(aU<|L+1).L 0 [.int 0,.int x.length] [(0,.val<|.str x),(1,.val<|.int 2048),(2,.clo 0),(3,.emp)] (.int n) [(0,.val<|.str x),(1,.val<|.int 2048),(2,.clo 0),(3,.emp)]:=.a rfl (zN Jf [.b aB,ht x,hi n] (aU L) 0 [200,201] [0,1,2,3] aF [.int 0,.int x.length] [(0,.val<|.str x),(1,.val<|.int 2048),(2,.clo 0),(3,.emp)] [(0,.val<|.str x),(1,.val<|.int 2048),(2,.clo 0),(3,.emp)] (.int n) _ rfl (Z1 rfl rfl rfl rfl) rfl (dt<|om.mpr<|az ‹_› (by decide)) (C _) (.si hl M) .ret .none);exact di (eD By 1 [hi x.length,hi x.length,.c (.int n) [(0,.val<|.str x),(1,.val<|.int 2048),(2,.clo 0),(3,.emp)]] (aU<|L+1) [.str x] _ rfl (.j7<|ig ‹_› (by decide)) (om.mpr<|az ‹_› (by decide)) (dP _) (.j7<|aQ hl) K .ret) rfl
theorem T_ (L:Nat) (hn:n<10^10) (hb:bl∈[[],[32],[9],[9,32]]):(aU<|L+3).F 2 [.str<|eE n bl] (.int n):=by
 refine jy (Ao hn) λH i Q P=>?_;have B: ∀d∈bl,AF d=true:=by simp only[bp,gU,or_false] at hb;rcases hb with rfl|rfl|rfl|rfl<;>decide+kernel
 have s:bl.length<=2:=by simp only[bp,gU,or_false] at hb;rcases hb with rfl|rfl|rfl|rfl<;>decide
 have g: ∀c,48<=c->c<=57->AF c=false:=by
  intro c a b;have: ∀c,c<58->48<=c->AF c=false:=by decide+kernel
  exact this c (ig ‹_› (by decide)) a
 have e1:Qu (eE n bl)=⟨([48,95]++dF n).toArray⟩:=by have N:=List.dropLast_concat_getLast i;have m:=H _<|List.getLast_mem i;generalize (dF n).dropLast=t at*;generalize (dF n).getLast i=c at*;have:=WU (x:=eE n bl) (t:=[48,95]++t) (c:=c) (bl:=bl) (by refine (?_:(([48,95]++dF n++bl).toArray).toList=_);erw[<-N];exact (ik _ _ _)) (g c m.1 m.2) B;simp only[this,<-N];simp
 have e2:Cj ⟨([48,95]++dF n).toArray⟩ ⟨#[95]⟩ ⟨#[]⟩=⟨(48::dF n).toArray⟩:=by have:=VC (x:=⟨([48,95]++dF n).toArray⟩) (c:=95) (a:=[48]) (b:=dF n) (by simp) (by decide) (by intro h;have:=H _ h;exact kn this.2);erw[this];rfl
 have v:(⟨(48::dF n).toArray⟩:aG).length<=640:=by refine (?_:(48::dF n).toArray.size<=640);simp;exact az ‹_› (gA _ _)
 have e:QFl ⟨(48::dF n).toArray⟩=aA (n:Int):=by have:=intText_digits (x:=⟨(48::dF n).toArray⟩) (by intro c C;rcases bp.mp (by simpa using C) with rfl|C;simp+arith;exact H c C) (by simp)<|Nat.le_trans ‹_› (Nat.le_add_left _ _);erw[this];have:digitsVal (48::dF n)=digitsVal (dF n):=rfl;simp only[this,P]
 have K:=C_ L v e
 have c0: ∀r,iu r .rstrip (.d<|.str<|eE n bl) []<|.str ⟨([48,95]++dF n).toArray⟩:=λr=>e1▸ .rstrip (by
  refine (?_:([48,95]++dF n++bl).toArray.size<=16777216);simp
  exact az (iF ‹_› ‹_›)<|by decide)
 have l:(⟨([48,95]++dF n).toArray⟩:aG).length<=4096:=by refine (?_:([48,95]++dF n).toArray.size<=4096);simp;exact az ‹_› (gA _ _)
 rw[<-e2] at K;exact di (eD KP 1 [ht ⟨([48,95]++dF n).toArray⟩,hi n] (aU<|L+2) [.str<|eE n bl] _ rfl (c0 _) l K .ret) rfl
end B01
end
section
open PySem.StrLaws
theorem QCx {a b:Nat}:Ce (a:Int) (b:Int) 1=(bg<|b - a).map (λk=>a+k):=by
 dsimp only[Ce]
 have e:(if (1:Int)>0 then (if (a:Int)<(b:Int) then ((b:Int) - a+1 - 1) / 1 else 0) else (if (a:Int)>(b:Int) then ((a:Int) - b - 1 - 1) / (-1) else 0)).toNat=b - a:=by
  rw[if_pos (by decide),QFW];by_cases h:(a:Int)<b
  ·rw[if_pos h,Qm]
   exact Int.toNat_sub b a
  ·rw[if_neg h]
   exact (xB<|om.mp<|jK.mp h).symm
 erw[e];apply IV;intro k _;exact (ji (oM<|bE<|iL<|jN ((bG (oZ<|a)<|oZ<|k):0<=(↑a:Int)+1*(↑k:Int)))<|oM<|bE<|iR<|jN ((bG (oZ<|a)<|oZ<|k):0<=(↑a:Int)+1*(↑k:Int)))
theorem yG {xs:List aK} {a b:Nat} (e:kZ l h aF xs.length=((a:Int),(b:Int),1)) (A:a<=b) (hb:b<=xs.length):mA xs l h aF=(xs.drop a).take (b - a):=by unfold mA;exact sb e<|sb QCx<|picks xs (b - a) a (bD hb<|sL (by assumption:a<=b))
theorem QAL (xs:List aK):mA xs aF aF aF=xs:=by erw[yG (by dsimp only[kZ];rfl) (hJ _)<|by simp+arith];simp
theorem Mo (xs:List aK) (a:Nat):mA xs (aA a) aF aF=xs.drop a:=by
 by_cases h:a<=xs.length
 ·exact sb (yG (by dsimp only[kZ];simp;exact Oa h) h<|by simp+arith)<|sb (List.take_of_length_le<|by simp) rfl
 ·erw[yG (a:=xs.length) (b:=xs.length) (by dsimp only[kZ];simp;exact clB h) (by simp+arith)<|by simp+arith]
  simp! only[ur (aQ (qp h):xs.length<=a),ur<|bh _,List.take_nil]
theorem QGX (xs:List aK) {b:Nat} (h:b<=xs.length):mA xs aF (aA b) aF=xs.take b:=by erw[yG (by dsimp only[kZ];simp;exact Oa h) (hJ _) h];rfl
theorem EM {cs:List T} {α:Type} {g:α->aK} {f:α->Option aK}: ∀{xs:List α},(∀x∈xs,CE e t cs o l (g x)<|f x)-> ∀K,K (xs.filterMap f)->cW e t cs o l (xs.map g) K:=by
 intro xs;induction xs with
 |nil=>exact λO K h=>h
 |cons x xs i=>
  exact λq K h=>by
   refine q x (.head _) _ K ?_;have i:=λK=>i (λy Y=>q y<|.tail _ Y) K
   simp! only[nN] at h
   induction c:f x with
   |none=>simp! only[c] at h;exact i _ h
   |some y=>simp! only[c] at h;exact i _ h
theorem Fy {α β:Type} (c:α->Bool) (f:α->β) (xs:List α):xs.filterMap (λx=>if c x then aA (f x) else aF)=(xs.filter c).map f:=by
 induction xs with
 |nil=>rfl
 |cons x xs i=>
  simp! only[nN,xI]
  cases c x
  ·exact i
  ·exact QGz _ i
noncomputable def hP (p:aG×aG):Dat:=.tuple [.str p.1,.str p.2]
noncomputable def xp (ps:List (aG×aG)):Prop:= ∀p∈ps,p.1.length<=1000
section
theorem rU (h:x.length<=1000):iu r .lower (.d<|.str x) [] (.str<|cH x):=.lower (az h<|by decide)
theorem vt:cC r (.d<|.tuple [a,b]) 0 a:=.seq .t (by show (2:Int)<2^63;decide) (rfl:_=aA 0) rfl
theorem M9:cC r (.d<|.tuple [a,b]) 1 b:=.seq .t (by show (2:Int)<2^63;decide) (rfl:_=aA 1) rfl
theorem CM (b:Bool) (h:(x==y)=b):gY r .Eq (.d<|.str x) (.d<|.str y) b:=.str (by induction b;exact .CU<|beq_eq_false_iff_ne.mp h;exact .eqT<|QGy.mp h)
theorem DX (b:Bool) (h:(x !=y)=b):gY r .NotEq (.d<|.str x) (.d<|.str y) b:=.str (by
 induction b
 ·exact .nh (QGu λq=>by rw[bne_iff_ne.mpr q] at h;exact xQ h)
 ·exact .neT<|bne_iff_ne.mp h)
end
namespace B01
noncomputable def JR (H:List aK) (q:aG) (w:List (Nat×Sl)):Ls:=(aT,.own H)::(0,.inst)::(1,.val<|.str q)::w
theorem GR (L:Nat) (hs:xp ps) (hl:ps.length<=1000) (hn:nm.length<=1000) (o:gG aB (cH nm)=aB):(aU<|L+1).R 1 [.str nm] (ps.map hP) (.list<|(ps.filter λp=>cH p.1==cH nm).map λp=>.str p.2):=by
 refine .all rfl ?_;rw[<-Fy];generalize F:(λp:aG×aG=>if cH p.1==cH nm then aA (sH p.2) else aF)=f
 exact Mj DW 2 [] [ht<|cH nm,.ds<|ps.filterMap f] (aU L) [.str nm] (ps.map hP) _ rfl (rU hn) o (by rw[dZ];exact az hl<|by decide)
  (λK h=>EM (λp P r K h=>by
   have x:=hs p P;rw[<-F] at h;induction c:cH p.1==cH nm with
   |true=>dsimp only at h;rw[c] at h;exact fM (.au cS<|.int 1) eF [.cmp .Eq (.sm .lower (.au cS<|.int 0) []) oD] (aU L) [ht p.1,ht<|cH p.1,.b aB,.b aB,.b aB,ht p.2] (JR (ps.map hP) (cH nm) [(201,.unb)]) (hP p) r K vt (rU x) (CM aB c) tt rfl tt M9 rfl h
   |false=>
    dsimp only at h;rw[c] at h
    exact fM (.au cS<|.int 1) eF [.cmp .Eq (.sm .lower (.au cS<|.int 0) []) oD] (aU L) [ht p.1,ht<|cH p.1,.b aE,.b aE,.b aE] (JR (ps.map hP) (cH nm) [(201,.unb)]) (hP p) r K vt (rU x) (CM aE c) ff rfl ff h) K h) .ret
theorem QCF (L:Nat) (hs:xp ps) (hl:ps.length<=1000) (hn:nm.length<=1000) (o:gG aB (cH nm)=aB):(aU<|L+1).H 9 [.str nm] (ps.map hP) .none ((ps.filter λp=>cH p.1 !=cH nm).map hP):=by
 refine .del rfl ?_;have v:=QFm (λp:aG×aG=>cH p.1 !=cH nm) ps;rw[<-Fy];have F:=List.length_filterMap_le (λp:aG×aG=>if cH p.1 !=cH nm then aA (hP p) else aF) ps;generalize r:(λp:aG×aG=>if cH p.1 !=cH nm then aA (hP p) else aF)=f at*
 exact Jb Et 2 [] [ht<|cH nm,.ds<|ps.filterMap f] (aU L) [.str nm] (ps.map hP) _ _ rfl (rU hn) o (by rw[dZ];exact az hl<|by decide)
  (λK h=>EM (λp P R K h=>by
   have x:=hs p P;rw[<-r] at h;induction c:cH p.1 !=cH nm with
   |true=>dsimp only at h;rw[c] at h;exact fM cS eF [.cmp .NotEq (.sm .lower (.au cS<|.int 0) []) oD] (aU L) [ht p.1,ht<|cH p.1,.b aB,.b aB,.b aB] [(aT,.own<|ps.map hP),(bQ,.unb),(0,.inst),(1,.val<|.str<|cH nm),(201,.unb)] (hP p) R K vt (rU x) (DX aB c) tt rfl tt rfl h
   |false=>
    dsimp only at h;rw[c] at h
    exact fM cS eF [.cmp .NotEq (.sm .lower (.au cS<|.int 0) []) oD] (aU L) [ht p.1,ht<|cH p.1,.b aE,.b aE,.b aE] [(aT,.own<|ps.map hP),(bQ,.unb),(0,.inst),(1,.val<|.str<|cH nm),(201,.unb)] (hP p) R K vt (rU x) (DX aE c) ff rfl ff h) K h) (by rw[dZ];exact bD (na hl hl) F) ⟨.next,rfl,rfl⟩
theorem Xy (L:Nat) {ps:List (aG×aG)} (hl:ps.length<=1000):(aU<|L+1).R 2 [] (ps.map hP) (.list<|ps.map hP):=by
 refine .items rfl (dR.mpr λd Y=>by refine aS (ij.mp Y) λO O e=>?_;erw[<-e];rfl) ?_;have c: ∀r v,gZ r v (ps.map hP)->gH r v (.d .none) (.d .none) (.d .none) (.list<|ps.map hP):=λr v h=>by have:=gH.lst h .none .none .none nofun (by rw[dZ];exact az hl (by decide):(ps.map hP).length<=16777216);rwa[QAL] at this
 exact Mj Bb 1 [] [.d<|.list<|ps.map hP] (aU L) [] (ps.map hP) _ rfl (c _ _<|.bor rfl) .ret
theorem HS (h:t.length<=1000) (M:x.length<=1000):nS x [t]:=by
 delta nS QFn;have:t.length+x.length<=sizeLine:=by refine (?_);exact az (iF ‹_› ‹_›) (by decide)
 simpa -iota using this
theorem Gp (L:Nat) (hl:hs.length<=1000) (hn:tx.length<=1000) (h:gG aB nm=aB) (o:gG aE tx=aB):(aU<|L+1).H 0 [.str nm,.str tx] hs .none (hs++[.tuple [.str nm,.str tx]]):=.add rfl (Jb yn 4 [.emp] [.b aE,.b aB,ht tx] (aU L) [.str nm,.str tx] hs _ _ rfl nofun tt o (by decide) h (.join (.bor rfl)<|HS hn<|by decide) (ig hl<|by decide) ⟨.next,rfl,rfl⟩)
end B01
end
section
open PySem.StrLaws PySem.Builtin.Str
theorem GL {p:Nat->Bool}: ∀{k s i:Nat},gf p k s=aA i-> ∀j,s<=j->j<i->p j=aE
 |0,s,i,h=>ay h
 |k+1,s,i,h=>by
  unfold gf at h
  split at h
  ·cases h;intro j H m;exact QGv ‹_› (iH.mpr ‹_›)
  ·rename_i q
   intro j H m;by_cases e:j=s
   ·subst e
    simpa using q
   ·exact GL h j (((um e).elim (λu=>(bD (na H u) H)) λu=>u)) m
theorem NT: ∀{k s:Nat},gf p k s=aF-> ∀j,s<=j->j<s+k->p j=false:=by
 intro k;induction k with
 |zero=>exact @λs h j H i=>QGv H<|H9.mpr i
 |succ k d=>
  exact @λs h j H i=>by
   unfold gf at h;by_cases q:p s=aB
   ·rw[if_pos q] at h
    exact pR h
   ·rw[if_neg q] at h
    by_cases e:j=s
    ·erw[e]
     simpa using q
    ·exact d h j (((um e).elim (λu=>(bD (na H u) H)) λu=>u))<|aQ i
theorem ZY: ∀(r:List aG) (a:Array Nat),(r.foldl (λa p=>a++(#[])++p.cps) a).toList=a.toList++(r.map (·.cps.toList)).flatten:=by
 intro O;induction O with
 |nil=>exact λa=>by simp
 |cons p r i=>exact λa=>by rw[oo,i];simp
theorem J5 (ts:List aG):(qT ts).cps.toList=(ts.map (·.cps.toList)).flatten:=by
 delta qT;induction ts with
 |nil=>rfl
 |cons t ts=>delta DC glued;refine (?_:(ts.foldl (λa p=>a++(#[]:Array Nat)++p.cps) t.cps).toList=_);rw[ZY];rfl
noncomputable def e2:List Nat->List Nat
 |[]=>[]
 |[c]=>if c==13||c==10 then [13,10] else [c]
 |c::d::r=>if c==13 && d==10 then 13::10::e2 r else if c==13||c==10 then 13::10::e2 (d::r) else c::e2 (d::r)
theorem Dy:e2 []=[]:=rfl
theorem Dj {c}:e2 [c]=if c==13||c==10 then [13,10] else [c]:=rfl
theorem Fb {c d r}:e2 (c::d::r)=if c==13 && d==10 then 13::10::e2 r else if c==13||c==10 then 13::10::e2 (d::r) else c::e2 (d::r):=rfl
theorem RW (h:c≠13/\c≠10) (r:List Nat):e2 (c::r)=c::e2 r:=by
 have a:(c==13)=false:=by simp[h.1]
 have b:(c==10)=false:=by simp[h.2]
 induction r<;>simp[Dy,Dj,Fb,a,b]
theorem B8: ∀p r,(∀c∈p,c≠13/\c≠10)->e2 (p++r)=p++e2 r:=by
 intro O;induction O with
 |nil=>exact λO O=>rfl
 |cons c p i=>exact λr h=>by rw[sT,RW<|h c<|.head _,i r λd Y=>h d<|.tail _ Y];rfl
theorem LB (r:List Nat):e2 (10::r)=13::10::e2 r:=by induction r<;>(rfl)
theorem PM (r:List Nat):e2 (13::10::r)=13::10::e2 r:=by rfl
theorem Iw (h:r.head?≠aA 10):e2 (13::r)=13::10::e2 r:=by
 induction r with
 |nil=>rfl
 |cons d r=>
  have:(d==10)=false:=by simp;intro e;apply h;simp[e]
  simp[Dy,Dj,Fb,this]
theorem yy {t:List Nat} (h:a<t.length):t.drop a=t.getD a 0::t.drop (a+1):=by erw[Hx h];simp[IX,h]
theorem vA (t:Array Nat) (a:Nat):t.getD a 0=t.toList.getD a 0:=by simp[IX,IE]
theorem A9 (t:Array Nat) (a b:Nat):(t.extract a b).toList=(t.toList.drop a).take (b - a):=by simp
theorem Lc {l:List Nat} (h:c∈(l.drop d).take (a - d)): ∃j,d<=j/\j<a/\j<l.length/\l.getD j 0=c:=by refine aV (List.getElem?_of_mem h) λi t=>?_;have H:=(zT.mp t).1;simp at H;rw[List.getElem?_take_of_lt<|(bD H<|QFo (a - d)<|l.length - d),List.getElem?_drop] at t;refine (kP (d+i) (mL _ _) (((Qg (a)<|d).elim (λu=>(cY (na H<|nL<|fz ((aQ<|nL<|xB (u:a<=d)):a - d<=l.length - d))<|nL<|xB (u:a<=d))) λu=>(bD (na (nL<|sE (u:d<=a)) H)<|QFo (a - d)<|l.length - d))) (((Qg (l.length)<|d).elim (λu=>(cY (na H<|nL<|QFI ((aQ<|nL<|xB (u:l.length<=d)):l.length - d<=a - d))<|nL<|xB (u:l.length<=d))) λu=>(bD (na (nL<|sE (u:d<=l.length)) H)<|Cp (a - d)<|l.length - d))) ?_);simp[IX,t]
theorem I5 (x:aG):(q2 x).cps.toList=e2 x.cps.toList:=by
 dsimp only[q2];rw[J5]
 have key: ∀k d,d<=x.cps.size->x.cps.size<d+k->((gz (rN x.cps) yT x.cps k d).map (·.cps.toList)).flatten=e2 (x.cps.toList.drop d):=by
  intro k;induction k with
  |zero=>intro d u m;exact QGv ‹_› (iH.mpr ‹_›)
  |succ k z=>
   intro d u m;have hlen:x.cps.toList.length=x.cps.size:=jq;induction hn:rN x.cps d with
   |none=>
    erw[BV hn];unfold rN at hn;have N:=NT<|QFp.mp hn;have C: ∀c∈x.cps.toList.drop d,c≠13/\c≠10:=by intro c W;refine uM (Lc (by erw[uV<|by simp];exact W:c∈(x.cps.toList.drop d).take (x.cps.size - d))) λj r Y t o=>?_;erw[<-o];have:=N j r<|(bD Y<|nR<|sE ((aQ u):d<=x.cps.size+1));unfold iE at this;rw[vA] at this;have hb:cP j x.cps.size=true:=sQ Y;rw[hb,Co,Pe] at this;generalize x.cps.toList.getD j 0=v at this⊢;simp at this;omega
    have:=B8 (x.cps.toList.drop d) [] C;rw[eY] at this;erw[this];dsimp only[Dy,Dj,Fb,eY];by_cases q:d<x.cps.size
    ·simp only[q,if_true,gB,jk,DK,IY,eY,A9]
     exact uV (by simp)
    ·simp only[q,if_false]
     erw[ur<|jM ‹_›];rfl
   |some p=>
    obtain ⟨a,e⟩:=p;erw[Bo hn];have H:=(ON d a e hn);have l:=H.1;have P:=H.2.1;have M:=H.2.2;unfold rN at hn;refine aS (lL.mp hn) λR K n=>?_;clear u hlen hn;cases n;have b:=GL K;have H:=(xW K);have A:=H.1;have C: ∀c∈(x.cps.toList.drop d).take (a - d),c≠13/\c≠10:=by intro c W;refine uM (Lc W) λj r Y t o=>cv o ?_;have:=b j r Y;unfold iE at this;rw[vA] at this;have hb:cP j x.cps.size=true:=sQ (by assumption);rw[hb,Co,Pe] at this;generalize x.cps.toList.getD j 0=v at this⊢;simp at this;omega
    have s:x.cps.toList.drop d=(x.cps.toList.drop d).take (a - d)++x.cps.toList.drop a:=by
     conv=>lhs;rw[<-sU (a - d) (x.cps.toList.drop d)]
     rw[QFc,show d+(a - d)=a by exact QC ‹_›]
    have Q:e2 (x.cps.toList.drop a)=13::10::e2 (x.cps.toList.drop<|pb x.cps a):=by
     unfold iE at A;rw[gn] at A;have L:a<x.cps.size:=bJ A.1;have W:=A.2;dsimp only[pb];rw[vA] at W⊢;rw[vA,yy (by assumption:a<x.cps.toList.length)];generalize B:x.cps.toList.getD a 0=v at*;simp only[IB,beq_iff_eq] at W;clear z m l K H P M b A C s B;rcases W with rfl|rfl
     ·rw[LB]
      rfl
     ·by_cases q:a+1<x.cps.size
      ·rw[yy (by assumption:a+1<x.cps.toList.length)]
       have hb:cP (a+1) x.cps.size=true:=sQ q;rw[hb];by_cases q2:x.cps.toList.getD (a+1) 0=10
       ·rw[q2,PM]
        rfl
       ·rw[Iw<|by simpa using q2]
        have:(x.cps.toList.getD (a+1) 0==10)=false:=by simpa using q2
        rw[this];simp only[uj,wm,if_false];rw[yy (by omega:a+1<x.cps.toList.length)]
      ·have hb:cP (a+1) x.cps.size=false:=by
        rw[uN];intro h;have:=bJ h;clear L;exact cY (jM q) this
       rw[hb];simp only[IC,uj,wm,if_false];rw[ur<|jM ‹_›];rfl
    have i:=z (pb x.cps a) M<|bD (na m l) P;rw[s,B8 _ _ C,Q,gp,List.flatten_append,gB,DK,i]
    congr 1
    by_cases q:d<a
    ·simp only[q,if_true,gB,jk,DK,IY,eY,A9]
    ·simp only[q,if_false]
     rw[show a - d=0 by exact (ji (bD (nL<|sE (l:d<=a))<|jM q)<|by simp+arith)];rfl
 rw[key (x.cps.size+1) 0 (hJ _)<|gA _ _];rfl
noncomputable def e1:Bool->List Nat->List Nat
 |_,[]=>[]
 |b,c::r=>(if b && c==46 then [46,46] else [c])++e1 (c==10) r
theorem y8 {u0}:e1 u0 []=[]:=rfl
theorem nE {b c r}:e1 b (c::r)=(if b && c==46 then [46,46] else [c])++e1 (c==10) r:=rfl
noncomputable def yu (b:Bool) (p:List Nat):Bool:=match p.getLast? with|none=>b|some c=>c==10
theorem JI (x:aG):(q1 x).cps.toList=e1 aB x.cps.toList:=by
 delta q1;rw[J5];have hlen:x.cps.toList.length=x.cps.size:=jq
 let fl:Nat->Bool:=λd=>if d=0 then aB else x.cps.toList.getD (d - 1) 0==10
 have Y: ∀s,s<x.cps.size->lA x.cps s=(fl s && x.cps.toList.getD s 0==46):=by
  intro s hs;have hb:cP s x.cps.size=true:=sQ hs;delta lA yY;simp only[hb,Pm,vA,vA];refine (?_:_=((if s=0 then aB else x.cps.toList.getD (s - 1) 0==10) && _));generalize x.cps.toList.getD (s - 1) 0=u;generalize x.cps.toList.getD s 0=v;by_cases q:s=0
  ·erw[q]
   rfl
  ·have:(s==0)=false:=by simpa using q
   simp[q,this]
 have step: ∀d,d<x.cps.size->e1 (fl d) (x.cps.toList.drop d)=(if lA x.cps d then [46,46] else [x.cps.toList.getD d 0])++e1 (fl<|d+1) (x.cps.toList.drop<|d+1):=by intro d hd;simp only[yy (by omega:d<x.cps.toList.length),y8,nE,Y d hd];rfl
 have run: ∀n d,d+n<=x.cps.size->(∀j,d<=j->j<d+n->lA x.cps j=aE)->e1 (fl d) (x.cps.toList.drop d)=(x.cps.toList.drop d).take n++e1 (fl<|d+n) (x.cps.toList.drop<|d+n):=by
  intro n;induction n with
  |zero=>intro d _ _;simp
  |succ n z=>intro d H h;simp only[step d<|ig (mL _ _) ‹_›,h d (by simp+arith) (by simp+arith),z (d+1) (aQ H) λj P W=>h j (sA ‹_›)<|aQ W];simp only[yy (ig (mL _ _) ‹_› :d<x.cps.toList.length),List.take_succ_cons,show d+1+n=d+(n+1) by exact zj _ _ _];rfl
 have key: ∀k d,d<=x.cps.size->x.cps.size<d+k->((gz (uH x.cps) yJ x.cps k d).map (·.cps.toList)).flatten=e1 (fl d) (x.cps.toList.drop d):=by
  intro k;induction k with
  |zero=>intro d H h;exact QGv ‹_› (iH.mpr ‹_›)
  |succ k z=>
   intro d H h;induction hn:uH x.cps d with
   |none=>
    erw[BV hn];unfold uH at hn;have N:=NT<|QFp.mp hn;have r:=run (x.cps.size - d) d (aQ<|sL (by assumption:d<=x.cps.size)) N;simp only[r,show d+(x.cps.size - d)=x.cps.size by exact QC ‹_›,ur (qj ‹_› :x.cps.toList.length<=x.cps.size)];simp only[y8,nE,eY];erw[uV<|by simp];by_cases q:d<x.cps.size
    ·simp only[q,if_true,gB,jk,DK,IY,eY,A9]
     exact uV (by simp)
    ·simp only[q,if_false]
     erw[ur<|jM ‹_›];rfl
   |some p=>
    obtain ⟨a,e⟩:=p;refine sb (Bo hn)<|eJ (Lr d a e hn) λl M K=>aS (lL.mp hn) λR Q g=>?_;clear hn l M;cases g;have b:=GL Q;refine eJ (xW Q) λA O O=>?_;have r:=run (a - d) d (bD K<|sL (by assumption:d<=a)) (λj P W=>b j P<|bD W<|sL (by assumption:d<=a));rw[show d+(a - d)=a by exact (wF<|sE ((aQ ‹d<=a›):d<=a))] at r;refine sb r<|sb (step a<|aQ K)<|sb A<|sb (if_pos rfl) ?_;have i:=z (a+1) K<|(bD h ‹d<=a›);simp only[List.map_append,List.flatten_append,List.map_cons,List.flatten_cons,i]
    congr 1
    by_cases q:d<a
    ·simp only[q,if_true,gB,jk,DK,IY,eY,A9]
    ·simp only[q,if_false]
     erw[((ji (bD (nL<|sE ((aQ ‹d<=a›):d<=a))<|jM q)<|by simp+arith):a - d=0)];rfl
 erw[key (x.cps.size+1) 0 (hJ _)<|gA _ _];rfl
theorem Yn: ∀p r b,e1 b (p++r)=e1 b p++e1 (yu b p) r:=by
 intro p;induction p with
 |nil=>exact λO O=>rfl
 |cons c q i=>
  exact λr b=>by
   induction q with
   |nil=>simp[y8,nE,yu]
   |cons d p O=>
    rw[sT,nE,i r<|c==10];have:yu b (c::d::p)=yu (c==10) (d::p):=by rfl
    erw[this]
    conv=>rhs;lhs;rw[nE]
    rw[ik]
theorem Jm: ∀p,(∀c∈p,c≠10)->e1 aE p=p:=by
 intro O;induction O with
 |nil=>exact λO=>rfl
 |cons c p i=>
  exact λh=>by
   have:(c==10)=false:=by simpa using h c (.head _)
   simp only[y8,nE,this,i λd Y=>h d<|.tail _ Y];rfl
namespace B01
theorem Tj (L:Nat) (h:x.cps.size<=100000) (H:(q2 x).cps.size<=400000):(aU<|L+1).F 9 [.str x] (.str<|q1<|q2 x):=.q rfl rfl rfl (az h<|by decide) H
end B01
end
section
theorem XW {t:ba nQ} {s:aN} {P:aN->Prop} (z:s.asleep)
 (h:f6 (aY p w) ⟨.builtin "claim.caller" {},aF,aF,[],aF⟩ t (λdk O F=>dk=.done (.ret .none)/\F.gens= #[]/\P F) (λO O O=>False) d s):
 ∃N n g,N.gens= #[]/\P N/\DE (kE DD) p w n (.single s ⟨t,.builtin "claim.caller" {},d,[]⟩)=.running (.single N g)/\through g=true:=by
 have U:=(wp_iff_halts t (λr F=>r=.ok (.ret .none)/\F.gens= #[]/\P F) d s).mp
  (IZ _ _ _ (λdk Q F q=>by
   clear z;obtain ⟨rfl,x,q⟩:=q
   exact ⟨⟨rfl,x,q⟩,by rw[show QFq F.gens=aE from by rw[x];simp -iota [QFq]]⟩) (λO O O q=>q.elim) _ _ h)
 refine dd U λn r F u o x K=>?_;subst o;refine cy (runNI_real (kE DD) p w u<|outcomeOf_ends _) λi R f C=>?_;clear h U u;obtain rfl:=Shared.eq_of_forget_eq f x;refine oh (Uy n _ _ R) λk H Y a b=>bI (VE b) λc e=>?_;clear R f b;subst e;exact (qV _ k Y x K (YV k _ _ z C a) c)
theorem vQ {E:aI->bP->aN->Prop}: ∀l p s,
 f6 M Γ (fV l env) (λf P n=>f=.next/\f6 M Γ (fV r env) Q E P n) E p s->f6 M Γ (fV (l++r) env) Q E p s:=by
 intro O;induction O with
 |nil=>exact λp s h=>by dsimp only[QFr,DL] at h;exact h.2
 |cons N l i=>
  exact λp s h=>by
   simp! only[Qv,pP] at h
   rw[sT,Qv,pP];refine IZ _ _ _ (λf P n q=>?_) (λO O O q=>q) _ _ h;induction f with
   |next=>exact i P n q
   |_=>dsimp only[DL] at q;exact QGv q.1 (by intro z;contradiction)
end
namespace B01
noncomputable def G4:List bH->BT->Nat->Bool
 |[],_,_=>aB
 |o::r,t,n=>((t.ins n o).get n).isSome && G4 r (t.ins n o) (n+1)
theorem QCQ: ∀l t n,G4 l t n=aB->(∀i,i<n->(rb t n l).get i=t.get i)/\ ∀j (o:bH),l[j]?=aA o->(rb t n l).get (n+j)=aA o:=by
 intro O;induction O with
 |nil=>exact λt n O=>⟨λO O=>rfl,λj o h=>by simp -iota at h⟩
 |cons o r d=>
  exact λt n h=>by
   refine bI (f7.mp h) λA H=>bI (d (t.ins n o) (n+1) H) λa b=>?_;have g:=BT.get_ins o t n A;refine ⟨λi M=>?_,λj o' s=>?_⟩
   ·refine (?_)
    exact sb (a i<|sN ‹_›)<|sb (g i)<|sb (if_neg<|Nat.ne_of_lt ‹_›) rfl
   ·refine (?_)
    induction j with
    |zero=>
     refine sb (a n<|uZ _)<|sb (g n)<|sb (if_pos rfl) ?_
     simpa -iota using s
    |succ j=>simp! only[show n+(j+1)=n+1+j by simp+arith];exact b j o' (by simpa -iota using s)
theorem okX (P:bZ) (X:Nat->bH):G4 (Xs X) (su P) 138=true:=by lia
theorem QAJ {X:Nat->bH} (e:h=o6 (su P) 138 {}) (hs:h'.objs.size=177) (s: ∀b,b<138->h'.objs[b]?=h.objs[b]?) (hl:h'.life=h.life) (x: ∀j,j<39->h'.objs[138+j]?=aA (X<|138+j)):
 h'=o6 (rb (su P) 138<|Xs X) 177 {}:=by
 refine bI (QCQ _ _ _<|okX P X) λt g2=>?_
 have o:h'.objs=(o6 (rb (su P) 138<|Xs X) 177 {}).objs:=by
  apply Array.ext_getElem?;intro i;rw[Ia];by_cases A:i<138
  ·rw[s i A,e,Ia,if_pos A,if_pos (by exact az ‹_› (gA _ _)),t i A]
  ·by_cases H:i<177
   ·obtain ⟨j,rfl⟩: ∃j,i=138+j:=⟨i - 138,by exact (wF (sE ((aQ<|jM A):138<=i)).symm)⟩
    have g:j<39:=aQ H
    refine sb (QGx H)<|sb (x j g)<|sb (g2 j (X<|138+j) (by unfold Xs;rw[List.getElem?_map,List.getElem?_range g];rfl)) ?_
    rfl
   ·rw[if_neg H]
    exact Array.getElem?_eq_none<|bD (nL hs)<|jM H
 have f:h'.life={}:=by simp! only[hl,e];rfl
 obtain ⟨a,b⟩:=h';have:b={}:=f;exact sb this<|congrArg (Heap.mk · {}) o
end B01
namespace B01
noncomputable def SD:Around:={handled:=aF,depth:=1000,frames:=aF,guards:=aF,units:=1000}
theorem ZT:Γ1.In SD:=by
 refine (Gv rfl ?_ ?_ ?_ ?_)
 ·decide+kernel
 ·intro l h
  exact ay h
 ·intro l h
  exact ay h
 ·decide+kernel
theorem XF:z9 pg=sl 0 18++(sl 18 1++(sl 19 1++([vN]++(sl 21 6++(sl 27 1++sl 28 15))))):=by lia
theorem XR:vN=.Assign [.Name "b3_exceptions" ⟨144,0,144,13⟩] (.Dict xO yg yh) ⟨144,0,144,8704⟩:=by lia
theorem ZP: ∀(l:List (Int×fX)) (a:Int),AW a l=aB-> ∀x∈l,a<x.1:=by
 intro O;induction O with
 |nil=>exact λO O x h=>by contradiction
 |cons O r d=>
  obtain ⟨k,y⟩:=O
  exact λa h x M=>by
   refine bI (f7.mp h) λH i=>?_;have H:=QHC H;rcases bp.mp M with rfl|M
   ·exact H
   ·have:=d k i x M
    exact IQ ‹_› ‹_›
theorem Tp: ∀(l:List (Int×fX)) (a:Int),AW a l=aB->(l.map (·.1)).Nodup:=by
 intro O;induction O with
 |nil=>exact λO O=>QEk
 |cons O r i=>obtain ⟨k,y⟩:=O;exact λa h=>by refine bI (f7.mp h) λA H=>?_;rw[gB,Pk];refine ⟨λm=>?_,i k H⟩;refine aS (ij.mp m) λx M e=>?_;have:=ZP r k H x M;simp only[e] at this;exact QGv this (Int.lt_irrefl _)
theorem Rp {h:bK} (e:h.get? b=aA (fA l n)):h.objs.getD b default=fA l n:=by
 unfold wR at e;rw[IE];revert e;generalize h.objs[b]?=x;intro e;induction x with
 |none=>exact ay e
 |some o=>refine (?_);obtain ⟨z,A,p,a⟩:=o;cases p<;>first|exact ay e|exact Option.some.inj e
theorem QCm {w:bx} (z:s.heap.objs.size=138) (hl:l.length=650) (N:(l.map (·.1)).Nodup):
 aO (aY prog w) A (QQ<|iy p l) (λv F=> ∃h' es,v=.ref 138/\F={s with heap:=h',toks:=s.toks+1950}/\h'.objs.size=177/\(∀b,b<138->h'.objs[b]?=s.heap.objs[b]?)/\h'.life=s.heap.life/\dN l es/\h'.get? 138=aA (fA es es.length)) (λO O=>False) s:=by
 refine SS (n:=37) (aQ<|nR z) (by assumption) N (by (erw[hl];erw[AA]);decide) λh' G=>?_;refine aS G.tab λes e d=>?_;rw[z] at d⊢;exact (ZV h' es rfl rfl (by (erw[G.size];exact sb z rfl)) (λb B=>G.same b (by simp only[z];exact B)) G.life e d)
theorem QDV {w:bx} {vs:List nP} (i:(QY ks env).zip ((QZ vs env).map λv=>do let x<-v;sM p;pure x)=iy p l) (z:s.heap.objs.size=138) (hl:l.length=650) (n:(l.map (·.1)).Nodup):
 aO (aY prog w) A (bz (.Dict ks vs p) env) (λv F=> ∃h' es,v=.ref 138/\F={s with heap:=h',toks:=s.toks+1950}/\h'.objs.size=177/\(∀b,b<138->h'.objs[b]?=s.heap.objs[b]?)/\h'.life=s.heap.life/\dN l es/\h'.get? 138=aA (fA es es.length)) (λO O=>False) s:=by
 simp only[arm_eval_Dict,i];exact aR<|iJ<|QCm z hl n
theorem yc {w:bx} (z:Γ.In A) {p q q2 pos:bP} {vs:List nP} (i:(QY ks env).zip ((QZ vs env).map λv=>do let x<-v;sM p;pure x)=iy p l) (Z:s.heap.objs.size=138) (hl:l.length=650) (n:(l.map (·.1)).Nodup)
 {E:aI->bP->aN->Prop} (u:jj [.Name nm q] (.Dict ks vs p) pos.line env=pure aE) (H:mQ [.Name nm q] (.Dict ks vs p) env=pure aF)
 (h: ∀P h' es,h'.objs.size=177->(∀b,b<138->h'.objs[b]?=s.heap.objs[b]?)->h'.life=s.heap.life->dN l es->h'.get? 138=aA (fA es es.length)->
  f6 (aY prog w) Γ (do sM q;zr env nm (.ref 138);pure .next) Q E P {s with heap:=h',toks:=s.toks+1950}):f6 (aY prog w) Γ (o3 (.Assign [.Name nm q] (.Dict ks vs p) pos) env) Q E q2 s:=by
 rw[Pr,u,H,pP];refine (Sem.wp_cmd_standAt ..).mpr ?_;rw[pP,DL,if_neg (by decide),pP];refine IZ _ _ _ (λv P F q=>?_) (λO O O q=>q.elim) _ _<|QDV i Z hl n Γ _ z;exact TK q λh' es B o a b c d e=>sb B<|sb o<|h P h' es a b c d e
end B01
namespace B01
theorem OZ (w:bx):(jj [.Name "b3_exceptions" ⟨144,0,144,13⟩] (.Dict xO yg yh) (⟨144,0,144,8704⟩:bP).line iV=pure aE)/\(mQ [.Name "b3_exceptions" ⟨144,0,144,13⟩] (.Dict xO yg yh) iV=pure aF):=⟨rfl,rfl⟩
theorem QBg (w:bx) (os:eH) (p:bP) {E:aI->bP->aN->Prop}
 (h: ∀X,kJ X->Q .next ⟨144,0,144,13⟩ (Ak w.params X os).abs):f6 (aY pg w) Γ1 (o3 vN iV) Q E p (rW w.params os).abs:=by
 have z:(rW w.params os).abs.heap.objs.size=138:=QD _ _ _;erw[XR]
 with_reducible refine yc ZT Uz z Ut (Tp _ _ Wa) (OZ w).1 (OZ w).2 ?_
 intro C h' c A s l v d
 have M: ∀j,j<39->h'.objs[138+j]?=aA ((λb=>h'.objs.getD b default)<|138+j):=λj g=>by
  refine (?_:_=aA (h'.objs.getD (138+j) default));refine sb (IE)<|sb (Array.getElem?_eq_getElem<|bD (nR A) g) ?_
  rfl
 have e:=QAJ (P:=w.params) (h:=(rW w.params os).abs.heap) (h':=h') (X:=λb=>h'.objs.getD b default) rfl A s l M;have x:kJ (λb=>h'.objs.getD b default):=(ax c v<|Rp d);generalize (λb=>h'.objs.getD b default)=X at*;erw[e];have n:({(rW w.params os).abs with heap:=o6 (rb (su w.params) 138<|Xs X) 177 {},toks:=(rW w.params os).abs.toks+1950}:aN)=(Nn w.params X os).abs:=by lia
 erw[n];have q:=h X x;have K:=(I9 1000).1 _ _ _ _ _ _ (pD w X os C) Q E q;rw[<-Ib] at K;unfold QFs
 with_reducible exact K
end B01
namespace B01
section
variable {den:Code->ba nQ} {pr:sF} {w:bx}
theorem pj {k:Nat} {α:Type} {m:ba α} {a:α} (e:gh den pr w.params k α Γ p P m=aA (.ok a,C,s')) (hs:s=P.abs) {Q:α->bP->aN->Prop} {E:aI->bP->aN->Prop} (h:Q a C s'.abs):f6 ⟨den,pr,w⟩ Γ m Q E p s:=hs▸(I9 k).1 _ _ _ _ _ _ e _ _ h
theorem W_ {env:cg} {m:PySem.Module} {P:aN->Prop} {i l a:hO} {c:aI}
 (M:gh den pr w.params 1000 aI Γ0 default i (QV m)=aA (.ok c,default,l)) (hs:s=i.abs)
 (N:gh den pr w.params 1000 aM Γ0 default l (QW c lQ lQ)=aA (.ok f,default,a))
 (e:env={scope:=m.scope,locals:=lQ,globals:=lQ,cells:=[],code:=c,frame:=aA f})
 (hd:den (.body body env)=(do QX body env;return .done (<-(fV body env).onRaise (leaving env))))
 (B:gh den pr w.params 1000 Unit (Γ0.enter (.body body env) aF default) default a (QX body env)=aA (.ok (),default,a))
 (v:f6 ⟨den,pr,w⟩ (Γ0.enter (.body body env) aF default) (fV body env) (λfl O n=>P n) (λO O O=>False) default a.abs):
 f6 ⟨den,pr,w⟩ Γ0 (do let code<-QV m;let frame<-QW code lQ lQ;let _<-run (.body body {scope:=m.scope,locals:=lQ,globals:=lQ,cells:=[],code,frame:=aA frame});ret .none) (λdk O n=>dk=.done (.ret .none)/\P n) (λO O O=>False) default s:=by
 rw[pP];refine pj M hs ?_;rw[pP];refine pj N rfl ?_;rw[<-e,pP];unfold PySem.run;rw[Sem.wp_call,QEv];refine (?_:f6 _ (Γ0.enter (.body body env) aF default) (den<|.body body env) _ _ _ _);rw[hd,pP];refine pj B rfl ?_;rw[pP,Sem.wp_onRaise];refine IZ _ _ _ (λfl p n q=>?_) (λO O O q=>q.elim) _ _ v;rw[DL];exact ⟨rfl,q⟩
theorem SM {M:Ctx} {env:cg} {l L U n F q:List cx} {st:cx} {r p f p3 a p5 u R:bP} {c i j s:hO} {o:(Nat->bH)->Prop} {t z v g:(Nat->bH)->hO} {Y C e K N n7:Nat} {P:aN->Prop}
 (A:gh den pr w.params Y hM M r c (fV l env)=aA (.ok .next,p,i)) (h:gh den pr w.params C hM M p i (fV L env)=aA (.ok .next,f,j)) (H:gh den pr w.params e hM M f j (fV U env)=aA (.ok .next,p3,s))
 (hd: ∀Q,(∀X,o X->Q .next a (t X).abs)->f6 ⟨den,pr,w⟩ M (o3 st env) Q (λO O O=>False) p3 s.abs)
 (d: ∀X,gh den pr w.params K hM M a (t X) (fV n env)=aA (.ok .next,p5,z X)) (b: ∀X,gh den pr w.params N hM M p5 (z X) (fV F env)=aA (.ok .next,u,v X)) (B: ∀X,gh den pr w.params n7 hM M u (v X) (fV q env)=aA (.ok .next,R,g X))
 (hP: ∀X,o X->P (g X).abs):f6 ⟨den,pr,w⟩ M (fV (l++(L++(U++([st]++(n++(F++q)))))) env) (λO O W=>P W) (λO O O=>False) r c.abs:=by
 refine vQ _ _ _<|pj A rfl ⟨rfl,?_⟩;refine vQ _ _ _<|pj h rfl ⟨rfl,?_⟩;refine vQ _ _ _<|pj H rfl ⟨rfl,?_⟩;refine vQ _ _ _ ?_
 simp! only[Qv,pP]
 refine hd _ λX x=>(?_);rw[QFr,DL];refine ⟨rfl,?_⟩;refine vQ _ _ _<|pj (d X) rfl ⟨rfl,?_⟩;refine vQ _ _ _<|pj (b X) rfl ⟨rfl,?_⟩;exact pj (B X) rfl (hP X x)
end
noncomputable def ya (P:bZ) (os:eH):Shared:=⟨o6 (tq P) 28 {}, #[],{},276,os⟩
noncomputable def FG (P:bZ) (os:eH) (s:aN):Prop:=s.gens= #[]/\ ∃X,kJ X/\s=(vR P X os).abs
theorem YW (w:bx) (os:eH) (X:Nat->bH) (x:kJ X):FG w.params os (vR w.params X os).abs:=⟨rfl,X,x,rfl⟩
theorem Xn (w:bx) (os:eH) (p:bP) (Q:hM->bP->aN->Prop)
 (h: ∀X,kJ X->Q .next ⟨144,0,144,13⟩ (Ak w.params X os).abs):f6 ⟨kE kj,pg,w⟩ Γ1 (o3 vN iV) Q (λO O O=>False) p (rW w.params os).abs:=by
 erw[<-Ib];have key:f6 (aY pg w) Γ1 (o3 vN iV) Q (λO O O=>False) p (rW w.params os).abs:=by with_reducible exact QBg w os p h
 unfold QFs at key
 with_reducible exact key
theorem Uc (w:bx) (os:eH):f6 ⟨kE kj,pg,w⟩ Γ1 (fV (z9 pg) iV) (λO O s=>FG w.params os s) (λO O O=>False) default (xd w.params os).abs:=by
 erw[XF]
 with_reducible exact SM (pA w os) (pB w os) (pC w os) (Xn w os _) (λX=>pE w X os) (λX=>pF w X os) (λX=>pG w X os)<|YW w os
theorem Y6 (w:bx) (os:eH):f6 ⟨kE kj,pg,w⟩ Γ0 (topStub pg).cur (λdk O s=>dk=.done (.ret .none)/\FG w.params os s) (λO O O=>False) default (ya w.params os):=W_ (pM w os) rfl (pN w os) rfl rfl (pK w os) (Uc w os)
end B01
namespace B01
noncomputable def qv:Program:={pg with main:={pg.main with body:=[bO 43]}}
noncomputable def m9:List fX:=pg.boundNames.filter λn=> !(n== "law")
noncomputable def gu (P:bZ) (X:Nat->bH) (os:eH):Shared:=(vR P X os).abs
noncomputable def Gq:List fX:=importedModules pg.main.body
section
variable (P:bZ) (X:Nat->bH) (os:eH)
include P X os
theorem c1:seen ((recsOf qv).map (·.name)) (ownsOf qv) [] {gu P X os with gens:= #[]}=expectedOf qv:=by lia
theorem c2:(gu P X os).heap.bltView=bltViewBooted:=by lia
theorem c3:((gu P X os).heap.keysOk (Ic qv m9) ((recsOf qv).map (·.name)) ((litsOf qv).map (·.1))<|(clssOf qv<|Ic qv m9).map (·.name))=true:=by lia
theorem c4:(gu P X os).heap.accountedOkI Gq=true:=by lia
theorem c5:((gu P X os).heap.isNs nM && (gu P X os).heap.isNs ic && tablesOk qv (gu P X os).heap && aB && ((gu P X os).gens.size==0))=true:=by lia
theorem c6:tabsOk qv (gu P X os)=true:=by lia
theorem c7:pinSeenD qv (drecsOf qv) (gu P X os)=pinGoodD (drecsOf qv):=by lia
theorem c8:plainSeenE qv (Ic qv m9) (gu P X os)=plainGoodE qv (Ic qv m9):=by lia
theorem c9:plainSeenD qv m9 (gu P X os)=plainGoodD qv m9:=by lia
theorem WJ:wideSeen qv (gu P X os)=wideGood qv:=by lia
theorem Yj:clsSeenW qv m9 (gu P X os)=clsGoodW qv m9:=by lia
theorem d1:staticsOk Gq (ya P os).heap (gu P X os).heap=true:=by lia
theorem d2:namesBound pg (gu P X os).heap=true:=by lia
theorem OT:gensDone (gu P X os)=true:=by lia
theorem d4:laidKept (ya P os).heap (gu P X os).heap=true:=by lia
end
theorem d6:chainsOk qv=true:=by lia
end B01
namespace B01
noncomputable def YP (w:bx) (h:bK):Prop:= ∃X,kJ X/\ ∀b o,(o6 (eI w.params X) 414 {}).get? b=aA o->h.get? b=aA o
noncomputable def Ml:(fX->Option aI)->bK->Prop:=λO O=>True
theorem q_ (P:bZ) (X:Nat->bH):(bg 28).map (λb=>if b==2||b==3 then none else (tq P).get b)=(List.range 28).map (λb=>if b==2||b==3 then none else (eI P X).get b):=by lia
theorem QBy (P:bZ) (X:Nat->bH) (b:aM) (o:bH) (h:(o6 (tq P) 28 {}).get? b=aA o) (N:b≠2) (n:b≠3):(o6 (eI P X) 414 {}).get? b=aA o:=by
 have B:b<28:=by have:=kg h;rwa[QD] at this
 have e:=QFD.mp (q_ P X) b<|sD.mpr B;simp only[beq_iff_eq,N,n,IB,or_self,if_false,Bool.or_false,decide_false] at e;unfold wR at h⊢;rw[Ia,if_pos B] at h;rw[Ia,if_pos (mF B (by decide):b<414)];exact cv (by simpa[N,n] using e:(tq P).get b=(eI P X).get b)<|h
theorem Z8 (P:bZ) (X:Nat->bH) (os:eH):openSeen qv m9 Gq (λO=>aB) aB (gu P X os)=openGood qv m9:=by delta openSeen openGood;simp only[c1,c2,c3,c4,c6,c7,c8,c9,WJ,Yj];have:=c5 P X os;simp only[gn] at this⊢;refine bI this λQ e=>bI Q λq d=>?_;have H:=q.1;have c:=q.2;have a:=H.1;have b:=H.2;simp only[a,b,c,(e:(gu P X os).gens.size==0),Pm,if_true,Bool.and_self]
theorem OB (w:bx):(∃s,AfterRun (opening pg) w s)/\ ∀s,AfterRun (opening pg) w s-> ∃F,fenceModules? pg s=aA F/\F.gens= #[]/\ ∃N,TopRan pg w F N/\N.asleep/\N.gens= #[]/\N.heap.isNs nM=aB/\
 Ground qv m9 [] Ml w N (N.heap.nsMap nM) (N.heap.nsMap ic) N.heap/\YP w N.heap/\N.toks=2870:=by
 refine aS (lL.mp<|pO w) λF h e=>?_;rw[<-Ib] at h;refine aS (z7.mp h) λs H v=>?_;have A:=AfterImport.of_importEnds H;refine ⟨⟨s,A⟩,λi hs'=>?_⟩;obtain rfl:i=s:=AfterImport.unique hs' A;have z:F.asleep:=QP (fence_lifeW v) A.life;obtain ⟨os,rfl⟩: ∃os,F=ya w.params os:=by obtain ⟨a,g,d,t,os⟩:=F;refine ⟨os,?_⟩;simp only[sR] at e;clear hs' H A h v z;obtain ⟨rfl,rfl,rfl,rfl⟩:=e;rfl
 have wp:=Y6 w os;rw[<-Ib] at wp;refine dd (XW (p:=pg) (w:=w) (t:=(topStub pg).cur) (s:=ya w.params os) (P:=λi=> ∃X,kJ X/\i=(vR w.params X os).abs) z wp) λN n Y x Q r j=>aS Q λX M U=>?_;clear hs' H A h wp x Q;subst U;refine Dl (ground_of_open (w:=w) (XP:=Ml) (λO O=>trivial) d6<|Z8 w.params X os) λG g0 g1 g2 g3 W K=>⟨_,v,rfl,(vR w.params X os).abs,⟨(fD n Y r j),rfl,Shared.rest_eq rfl,λb o hb hn=>?_,g2,statics_of_ok<|d1 w.params X os,g3,W,K,gens_of_done<|OT w.params X os,names_of_bound<|d2 w.params X os,laid_of_kept<|d4 w.params X os⟩,QP rfl z,rfl,g1,G,(ax X M λO O e=>e),rfl⟩;exact QBy w.params X b o hb (λq=>hn<|.inr<|.inl q) λq=>hn<|.inl q
end B01
namespace B01
noncomputable abbrev mn:OpenLaw:=QFt
theorem lb {a b:Bool} (x:a=aB) (y:b=aB):(a && b)=true:=by rw[x,y];rfl
theorem Yu:looksOpen mn.row.prog=true:=by
 unfold looksOpen
 iterate 5 refine lb ?_ (by lia)
 lia
theorem R4:mn.row.partSaid=true:=by
 unfold OpenRow.partSaid
 iterate 13 refine lb ?_ (by lia)
 exact Yu
theorem JA:mn.row.wellSaid=true:=by
 unfold OpenRow.wellSaid
 iterate 2 refine lb ?_ (by lia)
 exact R4
theorem T9:mn.wellSaid=true:=by
 unfold OpenLaw.wellSaid
 iterate 18 refine lb ?_ (by lia)
 exact JA
theorem holds_of_row (h:mn.row.Holds):QFt.Holds:=⟨T9,h⟩
end B01
theorem QDF (h:WShape.hasAll R args [.list .int]=aB): ∃ns:List Int,args=[uu<|xK<|ns.map xM]:=by refine bf (hasAllW_cons h) λd r B A H=>sb B ?_;clear h B;obtain rfl:=hasAllW_nil H;exact aS (hasW_list A) λxs e Q=>sb e<|aV (items_int Q) λns e=>sb e<|⟨ns,by rw[<-ofPys_ints];rfl⟩
theorem Ra {i:Int} (x:Well P h v (.int i)): ∃t,v=.int i t:=by cases x;exact ⟨_,rfl⟩
theorem WY {X:aM->Prop} (ns:List Int): ∀vs:List aI,DM P h vs (ns.map WData.int)->bB X h vs (ns.map cA):=by
 induction ns with
 |nil=>
  intro vs w;induction vs with
  |nil=>exact .nil
  |cons v vs=>exact nomatch w
 |cons n ns i=>intro vs w;exact bf (QFu w) λv vs' B a b=>sb B<|aV (Ra a) λt e=>sb e<| .cons (.int _ _)<|i _ b
theorem VP (x:Well P h v (.list xs)): ∃a vs o,v=.ref a/\h.get? a=aA o/\o=listOf vs.toArray 0/\DM P h vs xs:=by cases x with|list e r=>exact (qV _ _ _ rfl e rfl r)
theorem QAF {X:aM->Prop} {ns:List Int} {vs:List aI} (w:DM P h vs [uu<|xK<|ns.map xM]) (nx: ∀a o,h.get? a=aA o->o.cls≠ .none-> ¬ X a):bB X h vs [DA<|ns.map cA]:=by
 refine bf (QFu w) λv R B a b=>sb B ?_;have a:Well P h v (.list<|ofPys<|ns.map xM):=a;rw[ofPys_ints] at a;refine dd (VP a) λA u o K e f r=>sb K ?_;subst f;clear B;induction R with
 |nil=>exact .cons (.lst (n:=0) e (nx _ _ e λq=>Value.noConfusion q)<|WY ns _ r) .nil
 |cons v vs=>exact nomatch b
namespace B01
noncomputable def dk (P:bZ) (X:Nat->bH):Heap:=o6 (eI P X) 414 {}
noncomputable def nI:Obj:={cls:=.none,data:=.fields #[]}
theorem wB {X:Nat->bH} (h:a<414) (g:(eI P X).get a=aA o) (al:alive o=aA o'):(dk P X).get? a=aA o':=(ID h g).trans al
section
variable (P:bZ) (X:Nat->bH)
include P X
theorem A3:(dk P X).get? 48=aA nI:=wB (by decide) (by lia:(eI P X).get 48=aA nI) (by lia)
theorem Bs:(dk P X).get? 76=aA nI:=wB (by decide) (by lia:(eI P X).get 76=aA nI) (by lia)
theorem Bh:(dk P X).get? 83=aA nI:=wB (by decide) (by lia:(eI P X).get 83=aA nI) (by lia)
theorem Tz:(dk P X).get? 52=aA (ob 52 P):=wB (by decide) (by lia:(eI P X).get 52=aA (ob 52 P)) (by lia)
theorem QCJ:(dk P X).get? 80=aA (ob 80 P):=wB (by decide) (by lia:(eI P X).get 80=aA (ob 80 P)) (by lia)
theorem QAU:(dk P X).get? 87=aA (ob 87 P):=wB (by decide) (by lia:(eI P X).get 87=aA (ob 87 P)) (by lia)
end
theorem LJ (e:cu f=aA cf):cf=Aj\/cf=Ay\/cf=yk:=by
 refine aS (lL.mp e) λp u B=>cv B ?_;have h:=tM _ _ _ u;simp only[tV,bp,gU,or_false,sR] at h;clear e u B;rcases h with ⟨-,rfl⟩|⟨-,rfl⟩|⟨-,rfl⟩
 ·exact .inl rfl
 ·exact .inr<|.inl rfl
 ·exact .inr<|.inr rfl
theorem xY (h:(h8 cu jD).PF a):a=48\/a=76\/a=83:=by
 refine cR h λf c e o=>sb o ?_;clear h o;rcases LJ e with rfl|rfl|rfl
 ·exact .inl rfl
 ·exact .inr<|.inl rfl
 ·exact .inr<|.inr rfl
noncomputable def PK:aI->Bool|.str .. =>aB|_=>aE
noncomputable def Dk:aI->Bool|.int .. =>aB|_=>aE
noncomputable def Ji:aI->Bool|.bool .. =>aB|_=>aE
theorem XM (h:PK v=aB): ∃f t,v=.str f t:=by cases v<;>first|exact (lY _ _ rfl)|(exact bq h)
theorem Jl (h:Dk v=aB): ∃f t,v=.int f t:=by cases v<;>first|exact (lY _ _ rfl)|(exact bq h)
theorem QBm (h:Ji v=aB): ∃f,v=.bool f:=by cases v<;>first|exact ⟨_,rfl⟩|(exact bq h)
theorem Ga {X:aM->Prop} {vs:Array aI} (z:h.get? cf.own=aA o) (hd:o.data=.fields vs) (C:o.cls=.type "code") (F:vs.getD 11 .none=.ref cf.tab) (c:vs[11]?=aA (.ref cf.tab)) (Q:PK (vs.getD 18 .none)=aB)
 (B:Dk (vs.getD 7 .none)=aB) (m:Ji (vs.getD 9 .none)=aB) (H:Dk (vs.getD 10 .none)=aB) (a:h.get? cf.tab=aA nI) (n:cf.own≠cf.tab) (nx: ¬ X cf.own):oH cf X h:=by
 exact je (XM Q) λf t Q=>je (Jl B) λK A B=>aV (QBm m) λb m=>je (Jl H) λx i H=>.mk (ps:= #[]) nx ⟨o,vs,f,t,K,A,b,x,i,nI,z,hd,F,Q,B,m,H,a,rfl,trivial,n⟩ ⟨(jX o vs z C hd c),a⟩<|.inl rfl
theorem L4 {X:Nat->bH} (B: ∀b o,(dk P X).get? b=aA o->h.get? b=aA o):(h8 cu jD).Inv (h8 cu jD).PF h:=by
 intro f cf e;have n: ∀a,a≠48->a≠76->a≠83-> ¬ (h8 cu jD).PF a:=λa A i H q=>by rcases xY q with q|q|q<;>contradiction
 rcases LJ e with rfl|rfl|rfl
 ·exact Ga (cf:=Aj) (B _ _<|Tz P X) (vs:=kH<|ob 52 P) (by lia) (by lia) (by lia) (by lia) (by lia) (by lia) (by lia) (by lia) (B _ _<|A3 P X) (by decide) (n 52 (by decide) (by decide)<|by decide)
 ·exact Ga (cf:=Ay) (B _ _<|QCJ P X) (vs:=kH<|ob 80 P) (by lia) (by lia) (by lia) (by lia) (by lia) (by lia) (by lia) (by lia) (B _ _<|Bs P X) (by decide) (n 80 (by decide) (by decide)<|by decide)
 ·exact Ga (cf:=yk) (B _ _<|QAU P X) (vs:=kH<|ob 87 P) (by lia) (by lia) (by lia) (by lia) (by lia) (by lia) (by lia) (by lia) (B _ _<|Bh P X) (by decide) (n 87 (by decide) (by decide)<|by decide)
end B01
section
open PySem.StrLaws
set_option exponentiation.threshold 100000
theorem Zp (h:xs.length+ys.length<=16777216):fe r .Add (.d<|.list xs) (.d<|.list ys) (.list<|xs++ys):=.add .d .d h
theorem nl (h:(decide (0<n) && decide (n<1000000000))=aB):r9 a n=false:=PyProof.noPylong_small (by simp at h;exact (oM<|bG (iL<|jR ((bE h.1):0<=n)) h.2))
theorem RD {k n:Nat} (h:0<n):(k:Int).fdiv (n:Int)=((k / n:Nat)):=by erw[hV _<|mD.mpr ‹_›];rfl
theorem Md {k n:Nat} (h:0<n):(k:Int).fmod (n:Int)=((k % n:Nat)):=by erw[my _<|mD.mpr ‹_›];rfl
theorem VF (x y:List Nat):(⟨x.toArray⟩:aG)++⟨y.toArray⟩=⟨(x++y).toArray⟩:=x9 (by simp only[ZI])
theorem rm {x y:List Nat} (h:x.length+y.length<=16777216):fe r .Add (.d<|.str ⟨x.toArray⟩) (.d<|.str ⟨y.toArray⟩) (.str ⟨(x++y).toArray⟩):=VF x y▸ .cat (by refine (?_:x.toArray.size+y.toArray.size<=_);simp only[gm,gm];exact h)
theorem Nc (H:mV p.1=aB) (h:mV p.2=aB):fO 8 (hP p)=true:=by simp[hP,fO,H,h]
theorem UW (h:mV s=aB):fO 8 (.str s)=true:=by assumption
theorem uB (i:Int):fO 8 (.int i)=true:=by simp[fO]
theorem kU (h: ∀x∈xs,fO 8 x=aB):mj xs:=dR.mpr h
theorem iZ (P:gZ r v xs) (h: ∀x∈xs,fO 8 x=aB):gY r .NotEq v (.d<|.list xs) false:=.lst P .d (kU h) (kU h)<|.nh rfl
theorem F9 {α:Type} (xs:List α) (f:α->Int): ∀x∈xs.map λa=>cA<|f a,fO 8 x=true:=λx M=>aS (ij.mp M) λa O e=>cv e<|uB _
theorem W7 (h: ∀y∈x::xs,fO 8 y=aB):gY r .Eq (.d<|.list<|x::xs) (.d<|.list []) false:=.lst .d .d (kU h) rfl (.CU nofun)
theorem YX (h: ∀y∈xs,fO 8 y=aB):gY r .Eq (.d<|.list xs) (.d<|.list xs) true:=.lst .d .d (kU h) (kU h)<|.eqT rfl
theorem Mn (ns:List Int): ∀x∈ns.map cA,fO 8 x=true:=F9 ns id
theorem QBL (ns:List Int): ∀ks:List Nat,(ks.filterMap λk=>(ns.map cA)[k]?)=(ks.filterMap λk=>ns[k]?).map cA:=by
 intro O;induction O with
 |nil=>exact rfl
 |cons k ks i=>
  exact by
   refine sb nN<|sb List.filterMap_cons<|sb (i)<|sb (List.getElem?_map) ?_
   cases ns[k]?<;>rfl
noncomputable def vb (ns:List Int) (k:Nat):List Int:=(Ce (kZ (aA (k:Int)) aF (aA 5) (ns.map cA).length).1 (kZ (aA (k:Int)) aF (aA 5) (ns.map cA).length).2.1 (kZ (aA (k:Int)) aF (aA 5) (ns.map cA).length).2.2).filterMap λ(k:Nat)=>ns[k]?
namespace B01
theorem Z5 (hn:n<10^10) (hb:bl∈[[],[32],[9],[9,32]]):(eE n bl).length<=100/\gG aE (eE n bl)=true:=by
 refine jy (Ao hn) λH i Q v=>?_;have b:bl.length<=2/\ ∀c∈bl,c=32\/c=9:=by simp only[bp,gU,or_false] at hb;clear hn H i Q v;rcases hb with rfl|rfl|rfl|rfl<;>decide
 constructor
 ·refine (?_:([48,95]++dF n++bl).toArray.size<=100)
  simp;exact bD Q b.1
 ·unfold gG
  rw[<-QFv,dR];intro c C;have C:c∈[48,95]++dF n++bl:=by simpa[eE] using C
  have:c=9\/(32<=c/\c<127):=by
   refine cp (qk.mp C) (λC=>?_) λC=>?_
   ·refine cp (qk.mp C) (λC=>?_) λC=>?_
    ·simp at C
     exact ((Ie _).imp_right λo=>⟨(C.elim (λu=>(aQ<|nR u)) λu=>(aQ<|nR u)),(C.elim (λu=>(aQ<|nL u)) λu=>(aQ<|nL u))⟩)
    ·have:=H c C
     exact (.inr ⟨(aQ this.1),(aQ this.2)⟩)
   ·have:=b.2 c C
    exact (this.elim (λu=>(.inr ⟨(aQ<|nR u),(aQ<|nL u)⟩)) λu=>(.inl u))
  clear hn hb H i Q v b C;rcases this with rfl|h
  ·decide
  ·have a:(c==127)=false:=by simp;exact λK=>cY (nR K) h.2
   simp[a,(by simp;exact aQ h.1:decide (c<=8)=aE),(by simp;exact aQ h.1:decide (c<=31)=aE)]
noncomputable def E3:List Dat:=[.str ⟨#[]⟩,.str ⟨#[32]⟩,.str ⟨#[9]⟩,.str ⟨#[9,32]⟩]
theorem Rn {k:Nat} (h:k<4): ∃bl,bl∈[[],[32],[9],[9,32]]/\E3[k]?=aA (.str ⟨bl.toArray⟩):=Ly (P:=λk=> ∃bl,bl∈[[],[32],[9],[9,32]]/\E3[k]?=aA (.str ⟨bl.toArray⟩)) (ax [] (.head _) rfl) (ax [32] (.tail _<|.head _) rfl) (ax [9] (by decide) rfl) (ax [9,32] (by decide) rfl) k h
noncomputable def gJ (l:Ls):Ls:=oj eF<|oR l
theorem Ye {ns fs:List Int} (hn:ns.length<=1000) (f:fs.length=5) {ks:List Nat} (C: ∀k∈ks,k<5) (K:List aK->Prop) (h:K (ks.map λk=>cA<|fs.getD k 0+(vb ns k).sum)):
 cW (EW.aH .Add (.au oD cS)<|.bi .sum [.dM O1 (aA cS) aF<|aA<|.bi .len [oD]]).w eF [] o (gJ [(0,.val<|.list<|ns.map .int),(1,.val<|.list<|fs.map .int)]) (ks.map λ(k:Nat)=>cA k) K:=by
 refine CZ (λk j x K h=>?_) K h;have Z:=C k j;have L: ∀r,cn r .len [.d<|.list<|fs.map .int]<|.int 5:=λr=>by have:=cn.x7 (r:=r) (v:=.d<|.list<|fs.map .int) (.l .d) (by simp only[dZ];exact aQ<|nL f);rwa[dZ,f] at this
 have t: ∀r,gH r (.d<|.list<|ns.map .int) (.d<|.int k) (.d .none) (.d<|.int 5)<|.list<|(vb ns k).map .int:=λr=>by have:=gH.lst (r:=r) (v:=.d<|.list<|ns.map .int) .d (.int (i:=(k:Int))) .none (.int (i:=5)) (by decide) (by simp only[dZ];exact az ‹_› (gA _ _));unfold mA at this;simp only[QBL] at this;exact this
 exact fM (.aH .Add (.au oD cS)<|.bi .sum [.dM O1 (aA cS) aF<|aA<|.bi .len [oD]]) eF [] o [.b aB,.d<|.int<|fs.getD k 0,.d<|.int 5,.d<|.list<|(vb ns k).map .int,.d<|.int (vb ns k).sum] (gJ [(0,.val<|.list<|ns.map .int),(1,.val<|.list<|fs.map .int)]) (.int k) x K rfl tt ((λr=>pT (w:=k) (by simp[IX,show k<fs.length by exact bD (nR f) Z]) rfl (bE<|oL<|nL f)) _) (L _) (t _) (.sum .d) rfl h
theorem Zd (L:Nat) {ns fs:List Int} (hn:ns.length<=1000) (f:fs.length=5): ∃c0 c1 c2 c3 c4,(aU<|L+1).F 12 [.list<|ns.map .int,.list<|fs.map .int]<|.list<|[c0,c1,c2,c3,c4].map .int:=by
 have p: ∀r,cn r .len [.d<|.list<|fs.map .int]<|.int 5:=λr=>by have:=cn.x7 (r:=r) (v:=.d<|.list<|fs.map .int) (.l .d) (by rw[dZ];exact aQ<|nL f);rwa[dZ,f] at this
 let c:Nat->Int:=λk=>fs.getD k 0+(vb ns k).sum
 refine ⟨c 0,c 1,c 2,c 3,c 4,di (n:=L) (k:=2) (bs:=Fq) ?_ rfl⟩;exact eD Fq 2 [hi 5,.ds<|[0,1,2,3,4].map λk=>cA<|fs.getD k 0+(vb ns k).sum] (aU L) [.list<|ns.map .int,.list<|fs.map .int] _ rfl (p _) tt (by decide) (Ye hn f (ks:=[0,1,2,3,4])<|by decide) .ret
end B01
end
theorem dm (c:Int) {k n q:Int} (hk:k≠0):(c / k) % n=((c % (k*(n*q))) / k) % n:=by
 conv=>lhs;rw[<-Int.emod_add_mul_ediv c (k*(n*q))]
 rw[xF k,Ig _ _ hk,xF n,QFw]
theorem ku {w:Nat} (R:r i=.own xs) (h:xs[w]?=aA d) (hl:eV xs.length 1000=aB):cC r (.bor i) (w:Int) d:=.seq (.l<|.bor R) (by have:=bJ hl;exact (bE<|oL this)) (KC (zT.mp h).1) h
namespace B01
structure cB where
 y0:Nat
 x1:Nat
 y1:Nat
 x2:Nat
 y2:Nat
noncomputable def pQ (x1 y1 x2 y2 y0:Nat):Bool:=(x1:Int)*((y2:Int) - y0)==(x2:Int)*((y1:Int) - y0)
noncomputable def lG (m:Nat):cB:=⟨m / 3 % 4,1+m % 3,m / 12 % 4,m / 48 % 4,bif pQ (1+m % 3) (m / 12 % 4) (m / 48 % 4) (m / 192 % 5) (m / 3 % 4) then (m / 192 % 5+1) % 5 else m / 192 % 5⟩
noncomputable def da (t:cB):Dat:=.list [.list [.int 0,.int t.y0],.list [.int t.x1,.int t.y1],.list [.int t.x2,.int t.y2]]
theorem Nr {a b c:Nat} (h:a<5) (g:b<5) (k:c<5):ib (a:Int)+ib ((b:Int) - c)<=134217728:=(by decide+kernel: ∀a,a<5-> ∀b,b<5-> ∀c,c<5->ib ((a:Nat):Int)+ib (((b:Nat):Int) - (c:Nat))<=134217728) a h b g c k
theorem RZ (L:Nat) (c:Int): ∃m,m<960/\(aU<|L+1).F 27 [.int c] (da<|lG m):=by
 refine aS (⟨(c % 960).toNat,by exact (oM<|bG (iL<|jN ((bE<|mU (c) (by decide:(960:Int)≠0)):0<=c % 960))<|nT (c) (by decide:(0:Int)<960)),by exact (jN ((bE<|mU (c) (by decide:(960:Int)≠0)):0<=c % 960)).symm⟩: ∃m:Nat,m<960/\c % 960=m) λm hm e=>?_;have f: ∀k n q:Nat,0<k->0<n->k*(n*q)=960->((c.fdiv k).fmod n)=((m / k % n:Nat):Int):=λk n q h1 h2 h=>by rw[hV _<|mD.mpr h1,my _<|mD.mpr h2,dm c (q:=(q:Int))<|gE<|mD.mpr h1,show (k:Int)*((n:Int)*(q:Int))=960 from congrArg Int.ofNat h,e];rfl
 have e0:(c.fdiv 3).fmod 4=((m / 3 % 4:Nat):Int):=f 3 4 80 (by decide) (by decide) (by decide);have e1:1+c.fmod 3=((1+m % 3:Nat):Int):=by rw[my _ (by decide),<-QFU c (by decide:(3:Int)∣960),e];rfl
 have e2:(c.fdiv 12).fmod 4=((m / 12 % 4:Nat):Int):=f 12 4 20 (by decide) (by decide) (by decide);have e3:(c.fdiv 48).fmod 4=((m / 48 % 4:Nat):Int):=f 48 4 5 (by decide) (by decide) (by decide);have e4:(c.fdiv 192).fmod 5=((m / 192 % 5:Nat):Int):=f 192 5 1 (by decide) (by decide) (by decide);refine ⟨m,hm,di ?_ rfl⟩;unfold da lG;have b0:m / 3 % 4<4:=dw _ (by decide);have b1:1+m % 3<4:=(aQ<|dw (m) (by decide:0<3))
 have b2:m / 12 % 4<4:=dw _ (by decide);have b3:m / 48 % 4<4:=dw _ (by decide);have b4:m / 192 % 5<5:=dw _ (by decide);generalize m / 3 % 4=n0 at*;generalize 1+m % 3=n1 at*;generalize m / 12 % 4=n2 at*;generalize m / 48 % 4=n3 at*;generalize m / 192 % 5=n4 at*;have q1:=Nr (sN b1) b4<|sN b0;have q2:=Nr (sN b3) (sN b2)<|sN b0;unfold pQ;induction hf:((n1:Int)*((n4:Int) - n0)==(n3:Int)*((n2:Int) - n0)) with
 |true=>
  have:=eD Gf 1 [hi n1,hi n4,hi n0,hi n3,hi n2,hi n0,.b aB,hi n4] (aU L) [.int c] (.list [.list [.int 0,.int<|(c.fdiv 3).fmod 4],.list [.int<|1+c.fmod 3,.int<|(c.fdiv 12).fmod 4],.list [.int<|(c.fdiv 48).fmod 4,.int<|((n4:Int)+1).fmod 5]]) rfl ff (nl rfl) ff ff ff (nl rfl) ff ff (nl rfl) ff ff (nl rfl) ff (ku (w:=0) rfl (by rw[e1];rfl) rfl) (ku (w:=1) rfl (by rw[e4];rfl) rfl) (ku (w:=1) rfl (by rw[e0];rfl) rfl) q1 (ku (w:=0) rfl (by rw[e3];rfl) rfl) (ku (w:=1) rfl (by rw[e2];rfl) rfl) (ku (w:=1) rfl (by rw[e0];rfl) rfl) q2 hf (ku (w:=1) rfl (by rw[e4];rfl) rfl) ff (by decide) (by show (1:Int)<2;decide) (by show 2<2^63;decide) .ret;rw[e0,e1,e2,e3] at this;have e5:((n4:Int)+1).fmod 5=((n4+1) % 5:Nat):=by rw[my _<|by decide];simp+arith
  rw[e5] at this;exact this
 |false=>have:=eD Gf 1 [hi n1,hi n4,hi n0,hi n3,hi n2,hi n0,.b aE] (aU L) [.int c] (.list [.list [.int 0,.int<|(c.fdiv 3).fmod 4],.list [.int<|1+c.fmod 3,.int<|(c.fdiv 12).fmod 4],.list [.int<|(c.fdiv 48).fmod 4,.int<|(c.fdiv 192).fmod 5]]) rfl ff (nl rfl) ff ff ff (nl rfl) ff ff (nl rfl) ff ff (nl rfl) ff (ku (w:=0) rfl (by rw[e1];rfl) rfl) (ku (w:=1) rfl (by rw[e4];rfl) rfl) (ku (w:=1) rfl (by rw[e0];rfl) rfl) q1 (ku (w:=0) rfl (by rw[e3];rfl) rfl) (ku (w:=1) rfl (by rw[e2];rfl) rfl) (ku (w:=1) rfl (by rw[e0];rfl) rfl) q2 hf .ret;rw[e0,e1,e2,e3,e4] at this;exact this
end B01
theorem Kr: ∀k,k<8->k=0\/k=1\/k=2\/k=3\/k=4\/k=5\/k=6\/k=7:=by decide
theorem XB: ∀k,k<4->k=0\/k=1\/k=2\/k=3:=by decide
theorem BX {x y:Int} (h:x.natAbs<=y.natAbs):ib x<=ib y:=nv.mpr<|ig h<|nv.mp<|bh _
theorem Q5 (a:Int) {b:Int} (B:b≠0):0<=a.fmod b*b/\(a.fmod b).natAbs<b.natAbs:=by
 have pos: ∀a b:Int,0<b->0<=a.fmod b*b/\(a.fmod b).natAbs<b.natAbs:=λa b h=>by have h1:=nV a h;have h2:=nU a h;exact ⟨kF h1<|bw h,Int.natAbs_lt_natAbs_of_nonneg_of_lt h1 h2⟩
 rcases Int.lt_or_lt_of_ne B with h|h
 ·have:=pos (-a) (-b) (by exact (bE h))
  rw[Int.neg_fmod_neg] at this;rw[Int.neg_mul_neg,Qw,Qw] at this;exact this
 ·exact pos a b h
theorem QAY (a:Int):(if a<0 then -a else a)=(a.natAbs:Int):=by
 split
 ·exact (xH<|bw ‹_›).symm
 ·exact (jR<|jK.mp ‹_›).symm
theorem xh {r:bR} (a:Int):cn r .abs [.d<|.int a] (.int (a.natAbs:Nat)):=QAY a▸ .abs
namespace B01
theorem LI (L:Nat) (l:310<=L) {a b:Int} (B:b≠0) (hn:ib b<=100000) (C:ib a<=100*ib b):(aU<|L+2).F 28 [.int a,.int b] (.list [.int<|a.fdiv b,.int ((a.fmod b).natAbs:Nat)]):=by have f:=Q5 a B;have s1:ib (a.fdiv b)<=ib a:=BX<|Int.natAbs_fdiv_le_natAbs a b;have s2:ib (a.fmod b)<=ib b:=BX<|sA f.2;exact di (eD LZ 2 [.d<|.tuple [.int<|a.fdiv b,.int<|a.fmod b],.b aE,.b aE,hi ((a.fmod b).natAbs:Nat),hi (b.natAbs:Nat),.b aE,.b aE,hi ((a.fmod b).natAbs:Nat)] (aU<|L+1) [.int a,.int b] _ rfl (Lf L l B hn C) (az (iF (az s1<|az C<|gC 100 hn) hn)<|by decide) (by rw[Int.fdiv_mul_add_fmod];exact QHE a) (by exact (bD s2<|gC 2 hn)) (df<|jK.mpr f.1) (xh _) (xh _) (df<|by exact (λw0=>(fc (oL f.2) w0))) rfl (xh _) .ret) rfl
noncomputable def xZ (a b:Nat):Ls:=[(0,.val<|.int a),(1,.val<|.int b)]
theorem SU (o:bj): ∀(n b a:Nat),b<n-> ∀K,K .next (xZ (AG a b) 0)-> ∃m,wW CG.w (AV.map SW.w) o m (xZ a b) K:=by
 intro n;induction n with
 |zero=>exact λb a h=>QGv h<|QB b
 |succ n ih=>
  intro b a h K k;by_cases c:b=0
  ·subst c
   exact ⟨1,la CG AV 0 o [.b aE] (xZ a 0) K rfl (by rw[Nat.gcd_zero_right] at k;exact k)⟩
  ·have e:AG a b=AG b (a % b):=by rw[QFx a b,Nat.gcd_rec b a,QFx]
   rw[e] at k;refine aV (ih (a % b) b (by have:=dw a<|Ih c;exact (bD this h)) K k) λm q=>?_;refine ⟨m+1,la CG AV m o [.b aB] (xZ a b) K (bne_iff_ne.mpr<|QFy.mpr c) (df<|QFy.mpr c) ?_⟩;rw[Md<|Ih c];exact q
theorem QCs (L a b:Nat):(aU<|L+1).F 32 [.int a,.int b] (.int (AG a b:Nat)):=di (eD b_law_common 2 [.f .next (xZ (AG a b) 0)] (aU L) [.int a,.int b] _ rfl (SU (aU L) (b+1) b a<|uZ b) .ret) rfl
end B01
theorem L9 {x:Int} (h:x.natAbs<2^60):ib x<=60:=nv.mpr h
theorem x4 {x y:Int} (h:x.natAbs<2^60) (g:y.natAbs<2^60):ib x+ib y<=134217728:=az (iF (L9 h)<|L9 g) (by decide)
theorem oA {x y:Int} {m n:Nat} (h:x.natAbs<=m) (g:y.natAbs<=n) (i:eV m 1000000=aB) (j:eV n 1000000=aB):ib x+ib y<=134217728:=x4 (ig (az h<|bJ i)<|by decide) (ig (az g<|bJ j)<|by decide)
theorem gK {x y:Int} (h:x.natAbs<=m) (g:y.natAbs<=n):(x - y).natAbs<=m+n:=az (Int.natAbs_sub_le x y)<|iF h g
theorem vg {p q:Int} (h:p.natAbs<=m) (g:q.natAbs<=n):(p*q).natAbs<=m*n:=by rw[Ii];exact Cn h g
namespace B01
noncomputable def aw (p:Int×Int):Dat:=.list [.int p.1,.int p.2]
theorem iQ {r:bR} (p:Int×Int):cC r (.d<|aw p) 0 (.int p.1):=.seq (.l .d) (by show (2:Int)<2^63;decide) (rfl:_=aA 0) rfl
theorem cK {r:bR} (p:Int×Int):cC r (.d<|aw p) 1 (.int p.2):=.seq (.l .d) (by show (2:Int)<2^63;decide) (rfl:_=aA 1) rfl
noncomputable def p0 (t:cB):Int×Int:=(0,t.y0)
noncomputable def p1 (t:cB):Int×Int:=(t.x1,t.y1)
noncomputable def p2 (t:cB):Int×Int:=(t.x2,t.y2)
noncomputable def iC (p:Int×Int):Prop:=p.1.natAbs<=10/\p.2.natAbs<=10
structure lZ (t:cB):Prop where
 a:iC (p0 t)
 b:iC (p1 t)
 c:iC (p2 t)
theorem XQ {m:Nat}:lZ (lG m):=by
 have h0:m / 3 % 4<4:=dw _ (by decide);have h2:m / 12 % 4<4:=dw _ (by decide);have h3:m / 48 % 4<4:=dw _ (by decide);have h4:m / 192 % 5<5:=dw _ (by decide)
 have h5:(lG m).y2<5:=by
  unfold lG;dsimp only;cases pQ (1+m % 3) (m / 12 % 4) (m / 48 % 4) (m / 192 % 5) (m / 3 % 4)
  ·exact h4
  ·exact dw _ (by decide)
 exact ⟨⟨by show (0:Int).natAbs<=10;decide,by show ((m / 3 % 4:Nat):Int).natAbs<=10;exact (oM<|bG (iL<|jR ((bE<|oZ<|m / 3 % 4):0<=(↑(m / 3 % 4):Int)))<|oL h0)⟩,⟨by show ((1+m % 3:Nat):Int).natAbs<=10;exact (oM<|bG (iL<|jR ((bE<|oZ<|1+m % 3):0<=(↑(1+m % 3):Int)))<|oL<|dw (m) (by decide:0<3)),by show ((m / 12 % 4:Nat):Int).natAbs<=10;exact (oM<|bG (iL<|jR ((bE<|oZ<|m / 12 % 4):0<=(↑(m / 12 % 4):Int)))<|oL h2)⟩,⟨by show ((m / 48 % 4:Nat):Int).natAbs<=10;exact (oM<|bG (iL<|jR ((bE<|oZ<|m / 48 % 4):0<=(↑(m / 48 % 4):Int)))<|oL h3),by show (((lG m).y2:Nat):Int).natAbs<=10;exact (oM<|bG (iL<|jR ((bE<|oZ<|(lG m).y2):0<=(↑(lG m).y2:Int)))<|oL h5)⟩⟩
noncomputable def fj (t:cB):Int:=if (p1 t).1*((p2 t).2 - (p0 t).2)<(p2 t).1*((p1 t).2 - (p0 t).2) then -1 else 1
noncomputable def ev (u:Int) (a b:Int×Int) (x y:Int):Int:=u*((b.1 - a.1)*(y - a.2) - (b.2 - a.2)*(x - a.1))
noncomputable def mh (t:cB) (x y:Int):Int:=AQ (ev (fj t) (p0 t) (p1 t) x y) [ev (fj t) (p1 t) (p2 t) x y,ev (fj t) (p2 t) (p0 t) x y]
noncomputable def nj (t:cB) (x y:Nat):List Nat:=(if 0<=mh t x y then [y] else [])++(if 0<mh t x y then [4+y] else [])
noncomputable def fu (t:cB) (x:Nat):List Nat:=(bg 5).flatMap<|nj t x
noncomputable def E0:EW:=.aH .Mult (.aC 3)<|.aH .Sub (.aH .Mult (.aH .Sub (.au (.aC 202)<|.int 0)<|.au (.aC 201)<|.int 0)<|.aH .Sub (.aC 5)<|.au (.aC 201)<|.int 1)<|.aH .Mult (.aH .Sub (.au (.aC 202)<|.int 1)<|.au (.aC 201)<|.int 1)<|.aH .Sub (.aC 1)<|.au (.aC 201)<|.int 0
noncomputable def vj (a b:Int×Int):Dat:=.tuple [aw a,aw b]
noncomputable def EJ (t:cB):List Dat:=[vj (p0 t)<|p1 t,vj (p1 t)<|p2 t,vj (p2 t)<|p0 t]
noncomputable def lC (t:cB) (x:Nat) (bs:List Nat) (s5 s6:Sl):Ls:=[(2,.val<|.list<|EJ t),(3,.val<|.int<|fj t),(4,.own<|bs.map λ(n:Nat)=>cA n),(5,s5),(6,s6),(0,.val<|da t),(1,.val<|.int x)]
noncomputable def Gm (l:Ls) (y:Int):Ls:=oj (.tup [201,202])<|oR<|cL l 5<|.val<|.int y
theorem Xa {u x y:Int} {a b:Int×Int} (hu:u=1\/u= -1) (A:iC a) (B:iC b) (hx:x.natAbs<=10) (hy:y.natAbs<=10):
 (ib (b.1 - a.1)+ib (y - a.2)<=134217728)/\(ib (b.2 - a.2)+ib (x - a.1)<=134217728)/\(ib u+ib ((b.1 - a.1)*(y - a.2) - (b.2 - a.2)*(x - a.1))<=134217728):=by
 have A1:=A.1;have A2:=A.2;have B1:=B.1;have B2:=B.2;have s1:((b.1 - a.1)*(y - a.2)).natAbs<=(10+10)*(10+10):=vg (gK B1 A1)<|gK hy A2;have s2:((b.2 - a.2)*(x - a.1)).natAbs<=(10+10)*(10+10):=vg (gK B2 A2)<|gK hx A1;exact ⟨oA (gK B1 A1) (gK hy A2) rfl rfl,oA (gK B2 A2) (gK hx A1) rfl rfl,oA (m:=1) (by rcases hu with rfl|rfl<;>decide) (gK s1 s2) rfl rfl⟩
theorem Dm (o:bj) {t:cB} {x y:Nat} {bs:List Nat} {s5 s6:Sl} {a b:Int×Int} (hu:fj t=1\/fj t= -1) (A:iC a) (B:iC b) (hx:x<=10) (hy:y<=10):CE E0.w (.tup [201,202]) [] o (Gm (lC t x bs s5 s6) y) (vj a b) (aA<|.int<|ev (fj t) a b x y):=λR K h=>by have q:=Xa (x:=x) (y:=y) hu A B (by exact (oM<|bG (iL<|jR ((bE<|oZ<|x):0<=(↑x:Int)))<|oL hx)) (by exact (oM<|bG (iL<|jR ((bE<|oZ<|y):0<=(↑y:Int)))<|oL hy));exact fM E0 (.tup [201,202]) [] o [.b aB,hi b.1,hi a.1,hi a.2,hi b.2,hi a.2,hi a.1] (Gm (lC t x bs s5 s6) y) (vj a b) R K rfl tt (iQ b) (iQ a) (cK a) q.1 (cK b) (cK a) (iQ a) q.2.1 q.2.2 rfl h
theorem ER (t:cB):fj t=1\/fj t= -1:=by unfold fj;split;exact .inr rfl;exact .inl rfl
theorem Ug (o:bj) {t:cB} (T:lZ t) {x y:Nat} {bs:List Nat} {s5 s6:Sl} (hx:x<=10) (hy:y<=10) (K:List aK->Prop) (h:K ([ev (fj t) (p0 t) (p1 t) x y,ev (fj t) (p1 t) (p2 t) x y,ev (fj t) (p2 t) (p0 t) x y].map .int)):cW E0.w (.tup [201,202]) [] o (Gm (lC t x bs s5 s6) y) (EJ t) K:=Dm o (ER t) T.a T.b hx hy _ _<|Dm o (ER t) T.b T.c hx hy _ _<|Dm o (ER t) T.c T.a hx hy _ _ h
theorem G7 {r:bR} (t:cB) (x y:Int):cn r .kY [.d<|.list<|[ev (fj t) (p0 t) (p1 t) x y,ev (fj t) (p1 t) (p2 t) x y,ev (fj t) (p2 t) (p0 t) x y].map .int] (.int<|mh t x y):=.kY (a:=ev (fj t) (p0 t) (p1 t) x y) (ns:=[ev (fj t) (p1 t) (p2 t) x y,ev (fj t) (p2 t) (p0 t) x y]) .d
noncomputable def CH (t:cB) (x y:Int):List Dat:=[ev (fj t) (p0 t) (p1 t) x y,ev (fj t) (p1 t) (p2 t) x y,ev (fj t) (p2 t) (p0 t) x y].map .int
theorem xm (o:bj) {t:cB} (T:lZ t) {x y:Nat} {bs:List Nat} {s5 s6:Sl} (hx:x<=10) (hy:y<=10) (hb:bs.length<=100) {xs:List aK} {K:Fl->Ls->Prop} (h:fW (.one 5) (tc.map SW.w) o xs (lC t x (bs++nj t x y) (.val<|.int y)<|.val<|.int<|mh t x y) K):
 fW (.one 5) (tc.map SW.w) o (.int (y:Nat)::xs) (lC t x bs s5 s6) K:=by
 have w:=λ(K:List aK->Prop) (h:K (CH t x y))=>Ug o T (bs:=bs) (s5:=s5) (s6:=s6) hx hy K h;have l3:(EJ t).length<=16777216:=by show 3<=16777216;decide
 have lb:(bs.map λ(n:Nat)=>cA n).length<16777216:=by rw[dZ];exact (aQ hb)
 unfold nj at h;by_cases a:0<=mh t x y
 ·rw[if_pos a] at h
  by_cases b:0<mh t x y
  ·rw[if_pos b] at h
   have e:(bs++([y]++[4+y])).map (λ(n:Nat)=>cA n)=(bs.map λ(n:Nat)=>cA n)++[cA y]++[cA<|4+(y:Int)]:=by simp
   unfold lC at h;rw[e] at h;have lc:((bs.map λ(n:Nat)=>cA n)++[cA (y:Int)]).length<16777216:=by rw[du,dZ];show bs.length+1<_;exact (aQ hb)
   exact fY (.one 5) tc o [.ds<|CH t x y,hi<|mh t x y,.b aB,.b aB] (.int y) xs (lC t x bs s5 s6) K l3 w (G7 t x y) (dt a) lb (dt b) lc h
  ·rw[if_neg b,eY] at h
   unfold lC at h;rw[gp] at h;exact fY (.one 5) tc o [.ds<|CH t x y,hi<|mh t x y,.b aB,.b aE] (.int y) xs (lC t x bs s5 s6) K l3 w (G7 t x y) (dt a) lb (df b) h
 ·have b: ¬ 0<mh t x y:=λq=>a (bw q)
  rw[if_neg a,if_neg b,eY,eY] at h;exact fY (.one 5) tc o [.ds<|CH t x y,hi<|mh t x y,.b aE,.b aE] (.int y) xs (lC t x bs s5 s6) K l3 w (G7 t x y) (df a) (df b) h
theorem XC (t:cB) (x y:Nat):(nj t x y).length<=2:=by unfold nj;split<;>split<;>simp
theorem U8 (o:bj) {t:cB} (T:lZ t) {x:Nat} (hx:x<=10) (K:Fl->Ls->Prop) (h:K .next (lC t x (fu t x) (.val<|.int (4:Nat))<|.val<|.int<|mh t x (4:Nat))):fW (.one 5) (tc.map SW.w) o ((bg 5).map λ(i:Nat)=>cA (i:Int)) (lC t x [] .unb .unb) K:=by
 have l:=XC t x;have l0:=l 0;have l1:=l 1;have l2:=l 2;have l3:=l 3;refine xm o T hx (y:=0) (by decide) (by decide) (xm o T hx (y:=1) (by decide) (by simp only[du,uh];exact (aQ l0))<|xm o T hx (y:=2) (by decide) (by simp only[du,uh];exact (bD l0 l1))<|xm o T hx (y:=3) (by decide) (by simp only[du,uh];exact (bD (na l0 l1) l2))<|xm o T hx (y:=4) (by decide) (by simp only[du,uh];exact (bD (na l0 l1)<|na l2 l3)) ?_);have e:[]++nj t x 0++nj t x 1++nj t x 2++nj t x 3++nj t x 4=fu t x:=by unfold fu;simp[List.range_succ]
 rw[e];exact h
theorem JX {r:bR} (t:cB):cC r (.d<|da t) 0 (aw<|p0 t)/\cC r (.d<|da t) 1 (aw<|p1 t)/\cC r (.d<|da t) 2 (aw<|p2 t):=⟨.seq (.l .d) (by show (3:Int)<2^63;decide) (rfl:_=aA 0) rfl,.seq (.l .d) (by show (3:Int)<2^63;decide) (rfl:_=aA 1) rfl,.seq (.l .d) (by show (3:Int)<2^63;decide) (rfl:_=aA 2) rfl⟩
theorem W6 (L:Nat) {t:cB} (T:lZ t) {x:Nat} (hx:x<=10):(aU<|L+1).F 30 [da t,.int x] (.list<|(fu t x).map λ(n:Nat)=>cA n):=by
 have A1:=T.a.2;have B1:=T.b.1;have B2:=T.b.2;have C1:=T.c.1;have C2:=T.c.2;have q1:ib (p1 t).1+ib ((p2 t).2 - (p0 t).2)<=134217728:=oA B1 (gK C2 T.a.2) rfl rfl;have q2:ib (p2 t).1+ib ((p1 t).2 - (p0 t).2)<=134217728:=oA C1 (gK B2 T.a.2) rfl rfl;have j:=λr=>JX (r:=r) t;have k:=λK h=>U8 (aU L) T hx K h;unfold lC fj at k;by_cases c:(p1 t).1*((p2 t).2 - (p0 t).2)<(p2 t).1*((p1 t).2 - (p0 t).2)
 ·rw[if_pos c] at k
  exact di (q8 b_law_bare 2 [2,3,4,5,6] [.d<|aw<|p0 t,.d<|aw<|p1 t,.d<|aw<|p1 t,.d<|aw<|p2 t,.d<|aw<|p2 t,.d<|aw<|p0 t,.d<|aw<|p1 t,hi (p1 t).1,.d<|aw<|p2 t,hi (p2 t).2,.d<|aw<|p0 t,hi (p0 t).2,.d<|aw<|p2 t,hi (p2 t).1,.d<|aw<|p1 t,hi (p1 t).2,.d<|aw<|p0 t,hi (p0 t).2,.b aB,.f .next _] (aU L) [da t,.int x] _ rfl (j _).1 (j _).2.1 (j _).2.1 (j _).2.2 (j _).2.2 (j _).1 (j _).2.1 (iQ _) (j _).2.2 (cK _) (j _).1 (cK _) q1 (j _).2.2 (iQ _) (j _).2.1 (cK _) (j _).1 (cK _) q2 (dt c) tt k .ret) rfl
 ·rw[if_neg c] at k
  exact di (q8 b_law_bare 2 [2,3,4,5,6] [.d<|aw<|p0 t,.d<|aw<|p1 t,.d<|aw<|p1 t,.d<|aw<|p2 t,.d<|aw<|p2 t,.d<|aw<|p0 t,.d<|aw<|p1 t,hi (p1 t).1,.d<|aw<|p2 t,hi (p2 t).2,.d<|aw<|p0 t,hi (p0 t).2,.d<|aw<|p2 t,hi (p2 t).1,.d<|aw<|p1 t,hi (p1 t).2,.d<|aw<|p0 t,hi (p0 t).2,.b aE,.f .next _] (aU L) [da t,.int x] _ rfl (j _).1 (j _).2.1 (j _).2.1 (j _).2.2 (j _).2.2 (j _).1 (j _).2.1 (iQ _) (j _).2.2 (cK _) (j _).1 (cK _) q1 (j _).2.2 (iQ _) (j _).2.1 (cK _) (j _).1 (cK _) q2 (df c) tt k .ret) rfl
end B01
section
open PySem.StrLaws
namespace B01
theorem Gs (L:Nat) {k v:Nat} {x:aG} (b:gL.contains (k:Int)=aE) (m:kv k=x) (hx:x.length<=1000) (hv:v<27):(aU<|L+2).F 17 [.str ⟨#[k,cm v]⟩] (.str x):=by
 have t:(m6 ⟨#[k,cm v]⟩).filterMap rI=[x].map .str:=by show QFz rI [md k,md<|cm v]=_;rw[nN,BO b m,nN,DU (rS v hv).1];rfl
 exact Ll L (bJ rfl) t (HS hx<|by decide)
noncomputable def gD (g:Nat->Nat->Nat):Dat:=.list [aw ((g 0 0:Nat),(g 0 1:Nat)),aw ((g 1 0:Nat),(g 1 1:Nat)),aw ((g 2 0:Nat),(g 2 1:Nat))]
noncomputable def fC:List Nat:=[112,110,109]
noncomputable def j5:List Nat:=[80,78,77]
noncomputable def kX (t i:Nat):Str:=if t % 2=1 then ⟨#[j5.getD i 0]⟩ else ⟨#[fC.getD i 0]⟩
theorem A4: ∀i,i<3->fC.getD i 0∈tS/\Txt.upper ⟨#[fC.getD i 0]⟩=⟨#[j5.getD i 0]⟩/\gG aB ⟨#[j5.getD i 0]⟩=aB/\gG aB ⟨#[fC.getD i 0]⟩=aB/\ #[112,110,109][i]?=aA (fC.getD i 0)/\ #[80,78,77][i]?=aA (j5.getD i 0)/\cH ⟨#[j5.getD i 0]⟩=⟨#[fC.getD i 0]⟩/\cH ⟨#[fC.getD i 0]⟩=⟨#[fC.getD i 0]⟩:=by decide+kernel
noncomputable def tO (C:aK) (c:Int) (n:Nat) (ps:List (aG×aG)) (w6 w7 w8 w9 w10:Sl):Ls:=[(2,.ali aT),(3,.inst),(4,.own<|dY n .none),(5,.own<|ps.map hP),(6,w6),(7,w7),(8,w8),(9,w9),(10,w10),(11,.unb),(0,.val C),(1,.val<|.int c),(aT,.own<|ps.map hP),(bQ,.emp)]
theorem Sa (g:Nat->Nat->Nat): ∀i:Nat,i<3-> ∀r,cC r (.d<|gD g) (i:Int) (aw ((g i 0:Nat),(g i 1:Nat)))
 |0,_,r=>.seq (.l .d) (by show (3:Int)<2^63;decide) (rfl:_=aA 0) rfl
 |1,_,r=>.seq (.l .d) (by show (3:Int)<2^63;decide) (rfl:_=aA 1) rfl
 |2,_,r=>.seq (.l .d) (by show (3:Int)<2^63;decide) (rfl:_=aA 2) rfl
 |n+3,h,_=>QGv h λK=>kn K
theorem Wk (a:Nat->Nat): ∀j:Nat,j<2-> ∀r,cC r (.d<|aw ((a 0:Nat),(a 1:Nat))) (j:Int) (.int<|a j)
 |0,_,r=>iQ _
 |1,_,r=>cK _
 |n+2,h,_=>QGv h λK=>kn K
theorem SV (L:Nat) {g:Nat->Nat->Nat} (hg: ∀i j,g i j<10^10) {c:Int} {z s:Nat} (hz:(c.fdiv 3).fmod 3=z) (hs:s<3) (ks: ∀r,cC r (.d<|.list [.int 1,.int 2]) ((c.fdiv 9).fmod 2)<|.int s) (t:Nat) (ht6:t<6):
 ∃bl,bl∈[[],[32],[9],[9,32]]/\ ∀n (ps:List (aG×aG)) w6 w7 w8 w9 w10 xs K,n<=100->ps.length<=100->fW (.one 6) (xe.map SW.w) (aU<|L+3) xs (tO (gD g) c (n+1) (ps++[(kX t<|(z+s*t) % 3,eE (g ((z+s*t) % 3)<|t / 3) bl)]) (.val<|.int t) (.val<|.int ((z+s*t) % 3:Nat)) (.val<|.str<|kX t<|(z+s*t) % 3) (.val<|.str<|eE (g ((z+s*t) % 3)<|t / 3) bl)<|.val<|.str<|kX t<|(z+s*t) % 3) K->
  fW (.one 6) (xe.map SW.w) (aU<|L+3) (.int t::xs) (tO (gD g) c n ps w6 w7 w8 w9 w10) K:=by
 have ez:(c.fdiv 3+(s:Int)*t).fmod 3=(((z+s*t) % 3:Nat):Int):=by rw[my _<|by decide] at hz⊢;rw[<-DN,hz];rfl
 have hi3:(z+s*t) % 3<3:=dw _ (by decide);have st:(s:Int).natAbs<2^60/\(t:Int).natAbs<2^60:=⟨sC hs (by decide),sC ht6<|by decide⟩;have td:(t:Int).fdiv 3=((t / 3:Nat):Int):=RD (n:=3) (by decide);have tm:(t:Int).fmod 2=((t % 2:Nat):Int):=Md (n:=2) (by decide);generalize (z+s*t) % 3=i at*;refine QCI (A4 i hi3) λs1 s2 s3 s4 s5 s6 _ _=>?_;refine aS (kW (c.fdiv 18+t) (n:=12)<|by decide) λw hw ew=>?_;refine aS (kW (c.fdiv 216+t) (n:=27)<|by decide) λv hv ev=>?_;refine aS (kW (c+t) (n:=4)<|by decide) λb hb eb=>?_;refine aS (Rn hb) λbl B eB=>?_;have kl:=FI _ s1;refine eJ (AI _ s1 w hw) λf1 f2 f3=>?_;have tx:=Z5 (hg i<|t / 3) B;have p17:=Gs (L+1) (v:=v) f1 f2 (show 1<=1000 by decide) hv;refine ⟨bl,B,λn ps w6 w7 w8 w9 w10 xs K hn hp h=>?_⟩;have e7: ∀r,cC r (.d<|.str ⟨#[112,110,109]⟩) ((c.fdiv 3+(s:Int)*t).fmod 3)<|.str ⟨#[fC.getD i 0]⟩:=λr=>CO s5 ez (by decide);have e17: ∀r,cC r (.d<|gD g) ((c.fdiv 3+(s:Int)*t).fmod 3)<|aw ((g i 0:Nat),(g i 1:Nat)):=λr=>ez▸Sa g i hi3 r;have e20: ∀r,cC r (.d<|aw ((g i 0:Nat),(g i 1:Nat))) ((t:Int).fdiv 3)<|.int<|g i<|t / 3:=λr=>td▸Wk (g i) (t / 3) (Nat.div_lt_of_lt_mul ht6) r;have e21: ∀r,cn r .rV [.d<|.int<|g i<|t / 3]<|.str ⟨(dF<|g i<|t / 3).toArray⟩:=λr=>O4 _▸ .rV (by have:=hg i<|t / 3;exact (oM<|bG (iL<|jR ((bE<|oZ<|g i<|t / 3):0<=(↑(g i<|t / 3):Int)))<|oL this));have e22: ∀r,fe r .Add (.d<|.str ⟨#[48,95]⟩) (.d<|.str ⟨(dF<|g i<|t / 3).toArray⟩)<|.str ⟨([48,95]++dF (g i<|t / 3)).toArray⟩:=λr=>rm (x:=[48,95]) (by have:=(Ao<|hg i<|t / 3).2.2.1;show 2+_<=_;exact (aQ this));have e24: ∀r,cC r (.d<|.list E3) ((c+t).fmod 4)<|.str ⟨bl.toArray⟩:=λr=>dE eB eb (by decide);have e25: ∀r,fe r .Add (.d<|.str ⟨([48,95]++dF (g i<|t / 3)).toArray⟩) (.d<|.str ⟨bl.toArray⟩)<|.str<|eE (g i<|t / 3) bl:=λr=>rm (by have h1:=tx.1;unfold eE at h1;have:(([48,95]++dF (g i<|t / 3)++bl).toArray).size<=100:=h1;rw[gm,du] at this;exact (aQ this));have ad:=λnm (o:gG aB nm=aB)=>Gp (L+2) (hs:=ps.map hP) (nm:=nm) (tx:=eE (g i<|t / 3) bl) (by rw[dZ];exact (aQ hp)) (az tx.1<|by decide) o tx.2;have ib5:ib (s:Int)+ib (t:Int)<=134217728:=x4 st.1 st.2;have ln:(dY n Dat.none).length<16777216:=by rw[AD];exact (aQ hn)
 have lp:(ps.map hP).length<16777216:=by rw[dZ];exact (aQ hp)
 rcases Nat.mod_two_eq_zero_or_one t with q|q
 ·have en:kX t i=⟨#[fC.getD i 0]⟩:=QGw (by exact (λw0=>(cY (nR w0)<|nL q)))
  rw[en] at h;unfold tO at h;rw[QGA,gp,<-ez] at h;exact fY (.one 6) xe _ [hi s,ht ⟨#[fC.getD i 0]⟩,ht _,ht _,ht _,ht _,.d _,hi _,ht _,ht _,ht _,ht _,ht _,.b aE,.h .none _] (.int t) xs (tO (gD g) c n ps w6 w7 w8 w9 w10) K ff (nl rfl) ff (nl rfl) ff (ks _) ib5 ff (e7 _) ff (nl rfl) (HU (L+2) kl.1 kl.2 ew hw) ff (nl rfl) (Ae (L+2) ev hv) (nu rfl rfl) p17 (e17 _) ff (nl rfl) (e20 _) (e21 _) (e22 _) ff (e24 _) (e25 _) (e7 _) ff (by rw[tm,q];rfl) (ad _ s4) ln lp h
 ·have en:kX t i=⟨#[j5.getD i 0]⟩:=QGx q
  rw[en] at h;unfold tO at h;rw[QGA,gp,<-ez] at h;have up: ∀r,iu r .upper (.d<|.str ⟨#[fC.getD i 0]⟩) []<|.str ⟨#[j5.getD i 0]⟩:=λr=>s2▸ .upper (by show 1<=_;decide);exact fY (.one 6) xe _ [hi s,ht ⟨#[fC.getD i 0]⟩,ht _,ht _,ht _,ht _,.d _,hi _,ht _,ht _,ht _,ht _,ht _,.b aB,ht _,ht _,.h .none _] (.int t) xs (tO (gD g) c n ps w6 w7 w8 w9 w10) K ff (nl rfl) ff (nl rfl) ff (ks _) ib5 ff (e7 _) ff (nl rfl) (HU (L+2) kl.1 kl.2 ew hw) ff (nl rfl) (Ae (L+2) ev hv) (nu rfl rfl) p17 (e17 _) ff (nl rfl) (e20 _) (e21 _) (e22 _) ff (e24 _) (e25 _) (e7 _) ff (by rw[tm,q];rfl) (up _) (up _) (ad _ s3) ln lp h
noncomputable def mx (C:aK) (c:Int) (ps:List (aG×aG)) (w6 w7 w8 w9 w10 w11:Sl):Ls:=[(2,.ali aT),(3,.inst),(4,.own<|dY 8 .none),(5,.own<|ps.map hP),(6,w6),(7,w7),(8,w8),(9,w9),(10,w10),(11,w11),(0,.val C),(1,.val<|.int c),(aT,.own<|ps.map hP),(bQ,.emp)]
noncomputable def yl (l:Ls) (d:aK):Ls:=oj (.one 401)<|oR<|cL (gJ l) 201<|.val d
section
variable {o:bj} {C:aK} {c:Int} {ps:List (aG×aG)} {a6 a7 a8 a9 a10 a11:aK}
theorem Du {d u:aK} (h:o.R 1 [d] (ps.map hP) u):CE (EW.jU 1 HG [cS]).w eF [] o (gJ<|mx C c ps (.val a6) (.val a7) (.val a8) (.val a9) (.val a10) .unb) d (aA u):=λR K k=>fM (.jU 1 HG [cS]) eF [] o [.b aB,.d u,.d u] (gJ<|mx C c ps (.val a6) (.val a7) (.val a8) (.val a9) (.val a10) .unb) d R K rfl tt h rfl k
theorem Sn (hs:xp ps) {x:aG} (K:List aK->Prop) (h:K ((ps.filter λp=>cH p.1==x).map λp=>.str p.2)):cW (EW.au kK<|.int 1).w qH [(TW.cmp .Eq (.sm .lower (.au kK<|.int 0) []) cS).w] o (yl (mx C c ps (.val a6) (.val a7) (.val a8) (.val a9) (.val a10)<|.val a11)<|.str x) (ps.map hP) K:=by
 rw[<-Fy] at h;refine EM (λp P R K h=>?_) K h;have y:=hs p P;induction q:cH p.1==x with
 |true=>rw[q] at h;exact fM (.au kK<|.int 1) qH [.cmp .Eq (.sm .lower (.au kK<|.int 0) []) cS] o [ht p.1,ht<|cH p.1,.b aB,.b aB,.b aB,ht p.2] (yl (mx C c ps (.val a6) (.val a7) (.val a8) (.val a9) (.val a10)<|.val a11)<|.str x) (hP p) R K vt (rU y) (CM aB q) tt rfl tt M9 rfl h
 |false=>rw[q] at h;exact fM (.au kK<|.int 1) qH [.cmp .Eq (.sm .lower (.au kK<|.int 0) []) cS] o [ht p.1,ht<|cH p.1,.b aE,.b aE,.b aE] (yl (mx C c ps (.val a6) (.val a7) (.val a8) (.val a9) (.val a10)<|.val a11)<|.str x) (hP p) R K vt (rU y) (CM aE q) ff rfl ff h
theorem Fe (hs:xp ps) (hl:ps.length<=1000) {x:aG} {V:List aK} (e:(ps.filter λp=>cH p.1==x).map (λp=>sH p.2)=V):CE (EW.comp (.au kK<|.int 1) qH (.aC 5) [.cmp .Eq (.sm .lower (.au kK<|.int 0) []) cS]).w eF [] o (gJ<|mx C c ps (.val a6) (.val a7) (.val a8) (.val a9) (.val a10)<|.val a11) (.str x) (aA<|.list V):=λR K k=>fM (.comp (.au kK<|.int 1) qH (.aC 5) [.cmp .Eq (.sm .lower (.au kK<|.int 0) []) cS]) eF [] o [.b aB,.ds V,.d<|.list V] (gJ<|mx C c ps (.val a6) (.val a7) (.val a8) (.val a9) (.val a10)<|.val a11) (.str x) R K rfl tt (by rw[dZ];exact (aQ hl)) (λK h=>Sn hs K<|e.symm▸h) rfl k
theorem Jy {x:aG} {n:Int} {V:aK} (h:o.F 2 [.str x] (.int n)):CE (Q1 2 [kK]).w qH [] o (yl (mx C c ps (.val a6) (.val a7) (.val a8) (.val a9) (.val a10)<|.val a11) V) (.str x) (aA<|.int n):=λR K k=>fM (.call 2 [kK]) qH [] o [.b aB,hi n,hi n] (yl (mx C c ps (.val a6) (.val a7) (.val a8) (.val a9) (.val a10)<|.val a11) V) (.str x) R K rfl tt h rfl k
theorem Ft {x y:aG} {n m:Int} (h:o.F 2 [.str x] (.int n)) (g:o.F 2 [.str y] (.int m)):CE (EW.comp (.call 2 [kK]) qH (.aC 201) []).w eF [] o (gJ<|mx C c ps (.val a6) (.val a7) (.val a8) (.val a9) (.val a10)<|.val a11) (.list [.str x,.str y]) (aA<|.list [.int n,.int m]):=λR K k=>fM (.comp (.call 2 [kK]) qH (.aC 201) []) eF [] o [.b aB,.ds [.int n,.int m],.d<|.list [.int n,.int m]] (gJ<|mx C c ps (.val a6) (.val a7) (.val a8) (.val a9) (.val a10)<|.val a11) (.list [.str x,.str y]) R K rfl tt (by show 2<=16777216;decide) (λK q=>Jy (V:=.list [.str x,.str y]) h [.str y] K<|Jy (V:=.list [.str x,.str y]) g [] _ q) rfl k
end
noncomputable def mX (g:Nat->Nat->Nat) (z s:Nat) (bl:Nat->List Nat):List (aG×aG):=(⟨#[109,112]⟩,⟨#[]⟩)::(bg 6).map λt=>(kX t<|(z+s*t) % 3,eE (g ((z+s*t) % 3)<|t / 3)<|bl t)
theorem VO {P:Nat->List Nat->Prop} (T: ∀t,t<6-> ∃b,P t b): ∃f:Nat->List Nat,∀t,t<6->P t (f t):=⟨λt=>if h:t<6 then QGB (T t h) else [],λt h=>by dsimp only;rw[dif_pos h];exact QGC<|T t h⟩
theorem QCO: ∀z,z<3-> ∀s,s<3->s=0\/ ∀i,i<3->s*(i+3 - z) % 3<3/\(bg 6).filter (λt=>(z+s*t) % 3==i)=[s*(i+3 - z) % 3,s*(i+3 - z) % 3+3]/\(z+s*(s*(i+3 - z) % 3)) % 3=i/\(z+s*(s*(i+3 - z) % 3+3)) % 3=i:=by decide+kernel
theorem Wv: ∀i,i<3-> ∀j,j<3->((⟨#[fC.getD i 0]⟩:aG)==⟨#[fC.getD j 0]⟩)=(i==j):=by decide+kernel
theorem Jd: ∀j,j<3->(cH ⟨#[109,112]⟩==⟨#[fC.getD j 0]⟩)=false:=by decide+kernel
theorem QBF (t:Nat) {i:Nat} (h:i<3):cH (kX t i)=⟨#[fC.getD i 0]⟩:=by
 unfold kX
 split
 ·exact (A4 i h).2.2.2.2.2.2.1
 ·exact (A4 i h).2.2.2.2.2.2.2
theorem XN (g:Nat->Nat->Nat) {z s:Nat} (hz:z<3) (hs:s<3) (h0:0<s) (bl:Nat->List Nat) {i:Nat} (hi:i<3): ∃a,a<3/\((mX g z s bl).filter λp=>cH p.1==⟨#[fC.getD i 0]⟩).map (λp=>sH p.2)=[.str<|eE (g i 0)<|bl a,.str<|eE (g i 1)<|bl<|a+3]:=by
 refine jy (((QCO z hz s hs).resolve_left<|by exact (λw0=>(cY h0<|nL w0))) i hi) λha e e1 e2=>?_;generalize s*(i+3 - z) % 3=a at*;refine ⟨a,ha,?_⟩;unfold mX;rw[xI,if_neg (by rw[Jd i hi];exact nofun),QGD];have:((λp:aG×aG=>cH p.1==⟨#[fC.getD i 0]⟩)∘λt=>(kX t<|(z+s*t) % 3,eE (g ((z+s*t) % 3)<|t / 3)<|bl t))=λt=>(z+s*t) % 3==i:=funext λt=>by show (cH (kX t<|(z+s*t) % 3)==_)=_;rw[QBF t (dw _<|by decide),Wv _ (dw _<|by decide) i hi]
 rw[this,e,gB,gB,gB,gB,jk,jk,e1,e2,Nat.add_div_right a (by decide:0<3),Qn ha]
theorem QDL {x:aG} (h: ∀c∈x.cps.toList,c<128):mV x=true:=by unfold mV;rw[<-QFv,dR];intro c C;have:=h c C;simp;exact (aQ this)
theorem Y4 (hn:n<10^10) (hb:bl∈[[],[32],[9],[9,32]]):mV (eE n bl)=true:=QDL λc C=>by
 have C:c∈[48,95]++dF n++bl:=by simpa[eE] using C
 rcases qk.mp C with C|C
 ·rcases qk.mp C with C|C
  ·simp at C
   exact (C.elim (λu1=>(aQ<|nL u1)) λu1=>(aQ<|nL u1))
  ·have:=(Ao hn).1 c C
   exact (aQ this.2)
 ·simp only[bp,gU,or_false] at hb
  exact (by decide: ∀b∈[[],[32],[9],[9,32]],∀c∈b,c<128) bl (by simpa using hb) c C
theorem OI: ∀i,i<3->mV ⟨#[j5.getD i 0]⟩=aB/\mV ⟨#[fC.getD i 0]⟩=true:=by decide+kernel
theorem Gy {x y:aG} (hx:mV x=aB) (hy:mV y=aB):fO 8 (.list [.str x,.str y])=true:=by simp[fO,hx,hy]
theorem Th (L:Nat) {g:Nat->Nat->Nat} (hg: ∀i j,g i j<10^10) (c:Int):(aU<|L+4).F 19 [gD g,.int c] (gD g):=by
 refine aS (kW (c.fdiv 3) (n:=3)<|by decide) λz hz ez=>?_;refine aS (kW c (n:=3)<|by decide) λq hq eq=>?_
 refine cy (by
  obtain ⟨w,hw,ew⟩:=kW (c.fdiv 9) (n:=2) (by decide);rcases (by exact ((Ie _).imp_right λo0=>(ji (aQ hw)<|aQ<|Ih o0)):w=0\/w=1) with e|e<;>subst e
  ·exact ⟨1,by decide,by decide,λr=>dE rfl ew (by decide)⟩
  ·exact ⟨2,by decide,by decide,λr=>dE rfl ew (by decide)⟩: ∃s:Nat,s<3/\0<s/\ ∀r,cC r (.d<|.list [.int 1,.int 2]) ((c.fdiv 9).fmod 2)<|.int s) λs hs h0 ks=>?_
 have T:=SV L hg ez hs ks;refine aV (VO T) λbl BT=>?_;have B': ∀t,t<6->bl t∈[[],[32],[9],[9,32]]:=λt h=>(BT t h).1;have T:=λt h=>(BT t h).2;have sf:=A4 q hq;have a0:=Gp (L+2) (hs:=[hP (⟨#[109,112]⟩,⟨#[]⟩)]) (nm:=⟨#[j5.getD q 0]⟩) (tx:=⟨#[57]⟩) (bJ rfl) (bJ rfl) sf.2.2.1 (by decide+kernel);have a1:=Gp (L+2) (hs:=[hP (⟨#[109,112]⟩,⟨#[]⟩)]++[.tuple [.str ⟨#[j5.getD q 0]⟩,.str ⟨#[57]⟩]]) (nm:=⟨#[j5.getD q 0]⟩) (tx:=⟨#[57]⟩) (bJ rfl) (bJ rfl) sf.2.2.1 (by decide+kernel);have d0:=QCF (L+2) (ps:=[(⟨#[109,112]⟩,⟨#[]⟩),(⟨#[j5.getD q 0]⟩,⟨#[57]⟩),(⟨#[j5.getD q 0]⟩,⟨#[57]⟩)]) (nm:=⟨#[fC.getD q 0]⟩) (by intro p m;simp only[bp,gU,or_false] at m;rcases m with rfl|rfl|rfl<;>exact (Nat.le_of_ble_eq_true rfl)) (Nat.le_of_ble_eq_true rfl) (Nat.le_of_ble_eq_true rfl) (by rw[sf.2.2.2.2.2.2.2];exact sf.2.2.2.1);have de:[(⟨#[109,112]⟩,⟨#[]⟩),(⟨#[j5.getD q 0]⟩,⟨#[57]⟩),(⟨#[j5.getD q 0]⟩,⟨#[57]⟩)].filter (λp:Str×Str=>cH p.1 !=cH ⟨#[fC.getD q 0]⟩)=[(⟨#[109,112]⟩,⟨#[]⟩)]:=by rw[sf.2.2.2.2.2.2.2,xI,xI,xI,List.filter_nil];simp only[bne,Jd q hq,sf.2.2.2.2.2.2.1,beq_self_eq_true];rfl
 rw[de] at d0;have pl:((mX g z s bl).map hP).length=7:=rfl
 have sh:xp (mX g z s bl):=by
  intro p m;rcases bp.mp m with rfl|m
  ·exact bJ rfl
  ·refine aS (ij.mp m) λt _ e=>?_
   subst e;show (kX t _).length<=1000;unfold kX
   split<;>exact bJ rfl
 have G: ∀i,i<3-> ∃a,a<3/\((mX g z s bl).filter λp=>cH p.1==⟨#[fC.getD i 0]⟩).map (λp=>sH p.2)=[.str<|eE (g i 0)<|bl a,.str<|eE (g i 1)<|bl<|a+3]:=λi hi=>XN g hz hs h0 bl hi;refine aS (G 0<|by decide) λx hx gx=>?_;refine aS (G 1<|by decide) λy hy gy=>?_;refine aS (G 2<|by decide) λw hw gw=>?_;have I: ∀i j t,t<6->(aU<|L+3).F 2 [.str<|eE (g i j)<|bl t] (.int<|g i j):=λi j t h=>T_ L (hg i j)<|B' t h;have r0:=GR (L+2) (ps:=mX g z s bl) (nm:=⟨#[112]⟩) sh (bJ rfl) (bJ rfl) (by decide+kernel);have r1:=GR (L+2) (ps:=mX g z s bl) (nm:=⟨#[78]⟩) sh (bJ rfl) (bJ rfl) (by decide+kernel);have r2:=GR (L+2) (ps:=mX g z s bl) (nm:=⟨#[109]⟩) sh (bJ rfl) (bJ rfl) (by decide+kernel);rw[show cH ⟨#[112]⟩=⟨#[fC.getD 0 0]⟩ by decide+kernel,gx] at r0;rw[show cH ⟨#[78]⟩=⟨#[fC.getD 1 0]⟩ by decide+kernel,gy] at r1;rw[show cH ⟨#[109]⟩=⟨#[fC.getD 2 0]⟩ by decide+kernel,gw] at r2;have it:=Xy (L+2) (ps:=mX g z s bl)<|bJ rfl;have fm: ∀i j t,t<6->mV (eE (g i j)<|bl t)=true:=λi j t h=>Y4 (hg i j)<|B' t h
 have p8: ∀d∈(mX g z s bl).map hP,fO 8 d=true:=by
  intro d m;refine aS (ij.mp m) λp n e=>?_;rw[<-e];rcases bp.mp n with e2|n
  ·rw[e2]
   exact Nc (by decide+kernel) (by decide+kernel)
  ·refine aS (ij.mp n) λt k e3=>?_
   rw[<-e3];refine Nc ?_<|fm _ _ t<|sD.mp k;show mV (kX t _)=aB;unfold kX
   split
   ·exact (OI _<|dw _<|by decide).1
   ·exact (OI _<|dw _<|by decide).2
 have t8: ∀d∈[DA [.str<|eE (g 0 0)<|bl x,.str<|eE (g 0 1)<|bl<|x+3],.list [.str<|eE (g 1 0)<|bl y,.str<|eE (g 1 1)<|bl<|y+3],.list [.str<|eE (g 2 0)<|bl w,.str<|eE (g 2 1)<|bl<|w+3]],fO 8 d=true:=by
  intro d m;simp only[bp,gU,or_false] at m;rcases m with rfl|rfl|rfl
  ·exact Gy (fm _ _ _<|by exact (aQ hx)) (fm _ _ _<|by exact (aQ hx))
  ·exact Gy (fm _ _ _<|by exact (aQ hy)) (fm _ _ _<|by exact (aQ hy))
  ·exact Gy (fm _ _ _<|by exact (aQ hw)) (fm _ _ _<|by exact (aQ hw))
 have n8: ∀d∈dY 8 Dat.none,fO 8 d=true:=by decide
 have lp:=λK h=>T 0 (by decide) 2 [(⟨#[109,112]⟩,⟨#[]⟩)] .unb .unb .unb .unb .unb _ K (by decide) (bJ rfl) (T 1 (by decide) 3 _ _ _ _ _ _ _ K (by decide) (bJ rfl)<|T 2 (by decide) 4 _ _ _ _ _ _ _ K (by decide) (bJ rfl)<|T 3 (by decide) 5 _ _ _ _ _ _ _ K (by decide) (bJ rfl)<|T 4 (by decide) 6 _ _ _ _ _ _ _ K (by decide) (bJ rfl)<|T 5 (by decide) 7 _ _ _ _ _ _ [] K (by decide) (bJ rfl) h);have mu: ∀r,fe r .Mult (.d<|.list [.none]) (.d<|.int 8)<|.list<|dY 8 .none:=λr=>.mul (n:=8) .d (by show 1*8<=256;decide) (by decide) (by decide);refine di (q8 b_law_book 2 [2,3,4,5,6,7,8,9,10,11] [ht _,.h .none _,ht _,.h .none _,ht _,.h .none _,.f .next (tO (gD g) c 8 (mX g z s bl) _ _ _ _ _),.d<|.list _,.b aE,.b aE,hl _,.b aE,.b aE,.b aE,.b aE,.b aE,.ds [_,_,_],.ds [_,_,_],.b aE,.b aE,.ds [.list [.int<|g 0 0,.int<|g 0 1],.list [.int<|g 1 0,.int<|g 1 1],.list [.int<|g 2 0,.int<|g 2 1]]] (aU<|L+3) [gD g,.int c] (gD g) rfl (by decide+kernel) ff (CO sf.2.2.2.2.2.1 eq<|by decide) a0 ff (CO sf.2.2.2.2.2.1 eq<|by decide) a1 ff (CO sf.2.2.2.2.1 eq<|by decide) d0 tt lp (mu _) (iZ (.bor rfl) n8) rfl it (.lst .d (.bor rfl) (kU p8) (kU p8)<|.nh rfl) rfl (.lst (.bor rfl) (.bor rfl) (kU p8) (kU p8)<|.nh rfl) rfl rfl (bJ rfl) (λK h=>Du r0 _ K<|Du r1 _ _<|Du r2 [] _ h) (bJ rfl) (λK h=>Fe sh (bJ rfl) gx _ K<|Fe sh (bJ rfl) gy _ _<|Fe sh (bJ rfl) gw [] _ h) (iZ .d t8) ff (bJ rfl) (λK h=>Ft (I 0 0 x<|by omega) (I 0 1 _<|by omega) _ K<|Ft (I 1 0 y<|by omega) (I 1 1 _<|by omega) _ _<|Ft (I 2 0 w<|by omega) (I 2 1 _<|by omega) [] _ h) .ret) rfl
end B01
end
set_option exponentiation.threshold 100000
namespace B01
noncomputable abbrev Ed:=(Int×Int)×(Int×Int)
noncomputable def oe (a b:Int):Int:=if b<a then b else a
noncomputable def pS (a b:Int):Int:=if b>a then b else a
noncomputable def jW (e:Ed) (q:Int):Bool:=e.1.2 !=e.2.2 && (decide (oe e.1.2 e.2.2<=q) && decide (q<=pS e.1.2 e.2.2))
noncomputable def iO (e:Ed) (q:Int):Int:=e.1.1*(e.2.2 - e.1.2)+(q - e.1.2)*(e.2.1 - e.1.1)
noncomputable def js (e:Ed) (q:Int):Int:=(iO e q).fdiv<|e.2.2 - e.1.2
noncomputable def qd (e:Ed) (q:Int):Int:=js e q+(if (iO e q).fmod (e.2.2 - e.1.2)=0 then 0 else 1)
noncomputable def dO (es:List Ed) (q:Int):List Ed:=es.filter λe=>jW e q
noncomputable def dI (xs:List Int):List Dat:=xs.map .int
noncomputable def tF (e:Ed):Dat:=vj e.1 e.2
structure Sv where
 (a b c d e:Sl)
noncomputable def qg (u low k:Int) (A B C D E F:Sl) (fl ro:List Int) (v:Sv):Ls:=[(3,.val<|.int u),(4,A),(5,B),(6,C),(7,D),(8,.val<|.int k),(9,.own<|dI fl),(10,.own<|dI ro),(11,v.a),(12,v.b),(13,v.c),(14,v.d),(15,v.e),(0,E),(1,.val<|.int low),(2,F)]
structure vJ (o:bj) (u low k:Int) (e:Ed):Prop where
 s1:ib e.1.1+ib (e.2.2 - e.1.2)<=134217728
 s2:ib (low+k - e.1.2)+ib (e.2.1 - e.1.1)<=134217728
 s3:ib (iO e<|low+k)+ib u<=134217728
 s4:ib (e.2.2 - e.1.2)+ib u<=134217728
 f:jW e (low+k)=aB-> ∃r:Int,0<=r/\(if 1<r then 1 else r)=(if (iO e<|low+k).fmod (e.2.2 - e.1.2)=0 then 0 else 1)/\o.F 28 [.int<|iO e (low+k)*u,.int<|(e.2.2 - e.1.2)*u] (.list [.int<|js e<|low+k,.int r])
theorem QAk {o:bj} {u low k:Int} {e:Ed} (h:vJ o u low k e) {A B C D E F:Sl} {fl ro:List Int} {v:Sv} (hl:fl.length<=100/\ro.length<=100) {xs:List aK}: ∃v',∀K:Fl->Ls->Prop,
 fW (.tup [11,12]) (ri.map SW.w) o xs (qg u low k A B C D E F (fl++(dO [e]<|low+k).map (js · (low+k))) (ro++(dO [e]<|low+k).map (qd · (low+k))) v') K->fW (.tup [11,12]) (ri.map SW.w) o (tF e::xs) (qg u low k A B C D E F fl ro v) K:=by
 have lf:(dI fl).length<16777216:=by unfold dI;rw[dZ];exact (aQ hl.1)
 have lr:(dI ro).length<16777216:=by unfold dI;rw[dZ];exact (aQ hl.2)
 have out:jW e (low+k)=aE->dO [e] (low+k)=[]:=λc=>by unfold dO;rw[xI,c];rfl
 by_cases c1:e.1.2=e.2.2
 ·have c:jW e (low+k)=false:=by unfold jW;rw[bne_eq_false_iff_eq.mpr c1];rfl
  rw[out c,jk,eY,jk,eY];exact ⟨⟨.val<|aw e.1,.val<|aw e.2,v.c,v.d,v.e⟩,λK k'=>fY (.tup [11,12]) ri o [hi e.1.2,hi e.2.2,.b aB,.b aE] (tF e) xs (qg u low k A B C D E F fl ro v) K (cK _) (cK _) (bne_eq_false_iff_eq.mpr c1) rfl k'⟩
 ·have n1:(e.1.2 !=e.2.2)=true:=bne_iff_ne.mpr c1
  by_cases c2:oe e.1.2 e.2.2<=low+k
  ·by_cases c3:low+k<=pS e.1.2 e.2.2
   ·have c:jW e (low+k)=true:=by unfold jW;rw[n1,dt c2,dt c3];rfl
    have ce:dO [e] (low+k)=[e]:=by unfold dO;rw[xI,c];rfl
    rw[ce];refine cy (h.f c) λr r0 r1 f=>?_;have m: ∀R,cn R .min2 [.d<|.int r,.d<|.int 1]<|.int<|if (iO e<|low+k).fmod (e.2.2 - e.1.2)=0 then 0 else 1:=λR=>r1▸ .min2;refine ⟨⟨.val<|aw e.1,.val<|aw e.2,.val<|.int<|iO e<|low+k,.val<|.int<|js e<|low+k,.val<|.int r⟩,λK k'=>?_⟩;have e1:dI (fl++[e].map (js · (low+k)))=dI fl++[.int<|js e<|low+k]:=gp;have e2:dI (ro++[e].map (qd · (low+k)))=dI ro++[.int<|qd e<|low+k]:=gp;unfold qg at k';rw[e1,e2] at k';exact fY (.tup [11,12]) ri o [hi e.1.2,hi e.2.2,.b aE,hi e.1.2,hi e.2.2,hi<|oe e.1.2 e.2.2,.b aB,hi e.1.2,hi e.2.2,hi<|pS e.1.2 e.2.2,.b aE,.b aB,hi e.1.1,hi e.2.2,hi e.1.2,hi e.1.2,hi e.2.1,hi e.1.1,hi e.2.2,hi e.1.2,.d<|.list [.int<|js e<|low+k,.int r],.b aE,hi<|if (iO e<|low+k).fmod (e.2.2 - e.1.2)=0 then 0 else 1] (tF e) xs (qg u low k A B C D E F fl ro v) K (cK _) (cK _) n1 (cK _) (cK _) .min2 (dt c2) (cK _) (cK _) .max2 (dt c3) rfl (iQ _) (cK _) (cK _) h.s1 (cK _) (iQ _) (iQ _) h.s2 h.s3 (cK _) (cK _) h.s4 f (df<|jK.mpr r0) lf (m _) lr k'
   ·have c:jW e (low+k)=false:=by unfold jW;rw[df c3,uj,uj]
    rw[out c,jk,eY,jk,eY];exact ⟨⟨.val<|aw e.1,.val<|aw e.2,v.c,v.d,v.e⟩,λK k'=>fY (.tup [11,12]) ri o [hi e.1.2,hi e.2.2,.b aE,hi e.1.2,hi e.2.2,hi<|oe e.1.2 e.2.2,.b aB,hi e.1.2,hi e.2.2,hi<|pS e.1.2 e.2.2,.b aB,.b aE] (tF e) xs (qg u low k A B C D E F fl ro v) K (cK _) (cK _) n1 (cK _) (cK _) .min2 (dt c2) (cK _) (cK _) .max2 (df c3) rfl k'⟩
  ·have c:jW e (low+k)=false:=by unfold jW;rw[df c2,IC,uj]
   rw[out c,jk,eY,jk,eY];exact ⟨⟨.val<|aw e.1,.val<|aw e.2,v.c,v.d,v.e⟩,λK k'=>fY (.tup [11,12]) ri o [hi e.1.2,hi e.2.2,.b aE,hi e.1.2,hi e.2.2,hi<|oe e.1.2 e.2.2,.b aE,.b aB,.b aE] (tF e) xs (qg u low k A B C D E F fl ro v) K (cK _) (cK _) n1 (cK _) (cK _) .min2 (df c2) rfl rfl k'⟩
theorem QCM {o:bj} {u low k:Int} {A B C D E F:Sl}: ∀(es:List Ed) (fl ro:List Int) (v:Sv),(∀e∈es,vJ o u low k e)->fl.length+es.length<=100->ro.length+es.length<=100-> ∃v',∀K:Fl->Ls->Prop,
 K .next (qg u low k A B C D E F (fl++(dO es<|low+k).map (js · (low+k))) (ro++(dO es<|low+k).map (qd · (low+k))) v')->fW (.tup [11,12]) (ri.map SW.w) o (es.map tF) (qg u low k A B C D E F fl ro v) K:=by
 intro es;induction es with
 |nil=>exact λfl ro v h a b=>⟨v,λK k'=>by rw[show dO [] (low+k)=[] from rfl,jk,eY,jk,eY] at k';exact k'⟩
 |cons e es ih=>
  intro fl ro v h a b;rw[pL] at a b;refine aV (QAk (h e<|.head _) (A:=A) (B:=B) (C:=C) (D:=D) (E:=E) (F:=F) (fl:=fl) (ro:=ro) (v:=v) (xs:=es.map tF) ⟨by exact (aQ a),by exact (aQ b)⟩) λv1 t=>?_;have l1:(dO [e]<|low+k).length<=1:=QFm _ _;refine aV (ih (fl++(dO [e]<|low+k).map (js · (low+k))) (ro++(dO [e]<|low+k).map (qd · (low+k))) v1 (λe m=>h e<|.tail _ m) (by rw[du,dZ];exact (bD a l1)) (by rw[du,dZ];exact (bD b l1))) λv2 q=>?_;refine ⟨v2,λK k'=>t K<|q K ?_⟩;have s:dO (e::es) (low+k)=dO [e] (low+k)++dO es (low+k):=by unfold dO;rw[<-List.filter_append];rfl
  rw[s,gp,gp,<-ik,<-ik] at k';exact k'
end B01
set_option exponentiation.threshold 100000
namespace B01
noncomputable def fB (l:List Int):Int:=match l with|[]=>0|a::as=>Ec a as
noncomputable def eP (l:List Int):Int:=match l with|[]=>0|a::as=>AQ a as
noncomputable def eG (es:List Ed) (q:Int):List Int:=(dO es q).map (js · q)
noncomputable def eU (es:List Ed) (q:Int):List Int:=(dO es q).map (qd · q)
noncomputable def iP (hs:List Int) (q:Int):Bool:=decide (eP hs<q) && decide (q<fB hs)
noncomputable def vn (es:List Ed) (q:Int) (k:Nat) (xs:List Int):List Int:=bif (dO es q).isEmpty then xs else xs.set k (fB (eG es q) - eP (eU es q)+1)
noncomputable def qY (es:List Ed) (hs:List Int) (q:Int) (k:Nat) (xs:List Int):List Int:=bif iP hs q then (vn es q k xs).set (4+k) (fB (eU es q) - eP (eG es q) - 1) else vn es q k xs
noncomputable def cU (a b c:Int×Int):List Ed:=[(a,b),(b,c),(c,a)]
noncomputable def tD (u low:Int) (A:Sl) (a b c:Int×Int) (xs:List Int) (s8 s9 s10:Sl) (v:Sv) (E F:Sl):Ls:=[(3,.val<|.int u),(4,A),(5,.val<|.list [aw a,aw b,aw c]),(6,.val<|.list<|dI [a.2,b.2,c.2]),(7,.own<|dI xs),(8,s8),(9,s9),(10,s10),(11,v.a),(12,v.b),(13,v.c),(14,v.d),(15,v.e),(0,E),(1,.val<|.int low),(2,F)]
theorem QCW {r:bR} (a b c:Int×Int):cC r (.d<|.list [aw a,aw b,aw c]) 0 (aw a)/\cC r (.d<|.list [aw a,aw b,aw c]) 1 (aw b)/\cC r (.d<|.list [aw a,aw b,aw c]) 2 (aw c):=⟨.seq (.l .d) (by show (3:Int)<2^63;decide) (rfl:_=aA 0) rfl,.seq (.l .d) (by show (3:Int)<2^63;decide) (rfl:_=aA 1) rfl,.seq (.l .d) (by show (3:Int)<2^63;decide) (rfl:_=aA 2) rfl⟩
theorem xg {r:bR} {v:V} {xs:List Int} (h:gZ r v (dI xs)) (n:xs≠[]):cn r .ma [v] (.int<|fB xs):=by
 cases xs with
 |nil=>exact QGv rfl n
 |cons a as=>exact .ma h
theorem xR {r:bR} {v:V} {xs:List Int} (h:gZ r v (dI xs)) (n:xs≠[]):cn r .kY [v] (.int<|eP xs):=by
 cases xs with
 |nil=>exact QGv rfl n
 |cons a as=>exact .kY h
theorem Nx (xs:List Int):mj (dI xs):=kU<|F9 xs id
theorem Lb {r:bR} {i:Nat} {xs:List Int} (h:r i=.own (dI xs)):gY r .NotEq (.bor i) (.d<|.list []) (!xs.isEmpty):=by
 cases xs with
 |nil=>exact .lst (.bor h) .d (Nx _) rfl (.nh rfl)
 |cons a as=>exact .lst (.bor h) .d (Nx _) rfl (.neT nofun)
theorem QAH {o:bj} {u low:Int} {k:Nat} {A E F s8 s9 s10:Sl} {a b c:Int×Int} {xs:List Int} {v:Sv} (H: ∀e∈cU a b c,vJ o u low k e) (hx:xs.length=8) (hk:k<5) (S:iP [a.2,b.2,c.2] (low+k)=aB->dO (cU a b c) (low+k)≠[]/\k<4) {R:List aK}: ∃s8 s9 s10 v',∀K:Fl->Ls->Prop,
 fW (.one 8) (rl.map SW.w) o R (tD u low A a b c (qY (cU a b c) [a.2,b.2,c.2] (low+k) k xs) s8 s9 s10 v' E F) K->fW (.one 8) (rl.map SW.w) o (.int (k:Nat)::R) (tD u low A a b c xs s8 s9 s10 v E F) K:=by
 refine aV (QCM (o:=o) (u:=u) (low:=low) (k:=k) (A:=A) (B:=.val<|.list [aw a,aw b,aw c]) (C:=.val<|.list<|dI [a.2,b.2,c.2]) (D:=.own<|dI xs) (E:=E) (F:=F) (cU a b c) [] [] v H (by show 0+3<=100;decide) (by show 0+3<=100;decide)) λv' lp=>?_;refine ⟨.val<|.int k,.own<|dI<|eG (cU a b c)<|low+k,.own<|dI<|eU (cU a b c)<|low+k,v',λK k'=>?_⟩;have j:=λr=>QCW (r:=r) a b c
 have el: ∀P:List Ed->Int->List Int,(P=eG\/P=eU)->((P (cU a b c)<|low+k).isEmpty=(dO (cU a b c)<|low+k).isEmpty):=λP h=>by
  rcases h with rfl|rfl
  ·exact Qx
  ·exact Qx
 have ef:=el eG<|.inl rfl;have er:=el eU<|.inr rfl;have hn: ∀r,cn r .kY [.d<|.list<|dI [a.2,b.2,c.2]]<|.int<|eP [a.2,b.2,c.2]:=λr=>xR .d nofun;have hm: ∀r,cn r .ma [.d<|.list<|dI [a.2,b.2,c.2]]<|.int<|fB [a.2,b.2,c.2]:=λr=>xg .d nofun;have ln: ∀(ys:List Int),ys.length=8-> ∀(j:Nat),j<8->((j:Int)<((dI ys).length:Nat))/\(dI ys).length<2^63:=λys h j l=>by unfold dI;rw[dZ,h];exact ⟨by exact (bE<|oL l),by decide⟩
 have set1: ∀(ys:List Int) (j:Int) (z:Int),(dI ys).set j.toNat (.int z)=dI (ys.set j.toNat z):=λys j z=>by unfold dI;rw[List.map_set]
 unfold qY vn at k';induction hc:(dO (cU a b c)<|low+k).isEmpty with
 |true=>
  have e0:dO (cU a b c) (low+k)=[]:=Py.mp hc;have sf:iP [a.2,b.2,c.2] (low+k)=false:=uN.mpr λq=>(S q).1 e0;rw[sf,hc] at k';have nb: ∀r:bR,r 9=.own (dI<|eG (cU a b c)<|low+k)->gY r .NotEq (.bor 9) (.d<|.list []) false:=λr h=>by have:=Lb h;rw[ef,hc] at this;exact this
  by_cases c1:eP [a.2,b.2,c.2]<low+k
  ·have c2: ¬ low+k<fB [a.2,b.2,c.2]:=λq=>by unfold iP at sf;rw[dt c1,dt q] at sf;exact bq sf.symm
   exact fY (.one 8) rl o [.d<|aw a,.d<|aw b,.d<|aw b,.d<|aw c,.d<|aw c,.d<|aw a,.f .next _,.b aE,.b aE,hi<|eP [a.2,b.2,c.2],.b aB,hi<|fB [a.2,b.2,c.2],.b aE] (.int k) R (tD u low A a b c xs s8 s9 s10 v E F) K (j _).1 (j _).2.1 (j _).2.1 (j _).2.2 (j _).2.2 (j _).1 lp (nb _ rfl) ff (hn _) (dt c1) (hm _) (df c2) k'
  ·exact fY (.one 8) rl o [.d<|aw a,.d<|aw b,.d<|aw b,.d<|aw c,.d<|aw c,.d<|aw a,.f .next _,.b aE,.b aE,hi<|eP [a.2,b.2,c.2],.b aE,.b aE] (.int k) R (tD u low A a b c xs s8 s9 s10 v E F) K (j _).1 (j _).2.1 (j _).2.1 (j _).2.2 (j _).2.2 (j _).1 lp (nb _ rfl) ff (hn _) (df c1) ff k'
 |false=>
  have nf:eG (cU a b c) (low+k)≠[]:=λq=>by rw[q,hc] at ef;exact bq ef.symm
  have nr:eU (cU a b c) (low+k)≠[]:=λq=>by rw[q,hc] at er;exact bq er.symm
  have nb: ∀r:bR,r 9=.own (dI<|eG (cU a b c)<|low+k)->gY r .NotEq (.bor 9) (.d<|.list []) true:=λr h=>by have:=Lb h;rw[ef,hc] at this;exact this
  have l1:=ln xs hx k (by exact (aQ hk));rw[hc] at k';by_cases c1:eP [a.2,b.2,c.2]<low+k
  ·by_cases c2:low+k<fB [a.2,b.2,c.2]
   ·have st:iP [a.2,b.2,c.2] (low+k)=true:=by unfold iP;rw[dt c1,dt c2];rfl
    have k4:=(S st).2;rw[st] at k';have l2:=ln (xs.set k<|fB (eG (cU a b c)<|low+k) - eP (eU (cU a b c)<|low+k)+1) (by rw[List.length_set];exact hx) (4+k) (by exact (aQ k4));have s1:=set1 xs k<|fB (eG (cU a b c)<|low+k) - eP (eU (cU a b c)<|low+k)+1;have s2:=set1 (xs.set k<|fB (eG (cU a b c)<|low+k) - eP (eU (cU a b c)<|low+k)+1) (4+(k:Int))<|fB (eU (cU a b c)<|low+k) - eP (eG (cU a b c)<|low+k) - 1;rw[lP] at s1;rw[show ((4:Int)+(k:Int)).toNat=4+k from rfl] at s2;have:=fY (.one 8) rl o [.d<|aw a,.d<|aw b,.d<|aw b,.d<|aw c,.d<|aw c,.d<|aw a,.f .next _,.b aB,.b aB,hi<|fB<|eG (cU a b c)<|low+k,hi<|eP<|eU (cU a b c)<|low+k,hi<|eP [a.2,b.2,c.2],.b aB,hi<|fB [a.2,b.2,c.2],.b aB,hi<|fB<|eU (cU a b c)<|low+k,hi<|eP<|eG (cU a b c)<|low+k] (.int k) R (tD u low A a b c xs s8 s9 s10 v E F) K (j _).1 (j _).2.1 (j _).2.1 (j _).2.2 (j _).2.2 (j _).1 lp (nb _ rfl) tt (xg (.bor rfl) nf) (xR (.bor rfl) nr) (dP k) l1.1 l1.2 (hn _) (dt c1) (hm _) (dt c2) (xg (.bor rfl) nr) (xR (.bor rfl) nf) (by exact (bE<|oZ<|k)) (by rw[lP,s1];have:=l2.1;exact l2.1) (by rw[lP,s1];exact l2.2);rw[lP,s1,show ((4:Int)+(k:Int)).toNat=4+k from rfl,s2] at this;exact this k'
   ·have sf:iP [a.2,b.2,c.2] (low+k)=false:=by unfold iP;rw[df c2,uj]
    rw[sf] at k';have s1:=set1 xs k<|fB (eG (cU a b c)<|low+k) - eP (eU (cU a b c)<|low+k)+1;rw[lP] at s1;have:=fY (.one 8) rl o [.d<|aw a,.d<|aw b,.d<|aw b,.d<|aw c,.d<|aw c,.d<|aw a,.f .next _,.b aB,.b aB,hi<|fB<|eG (cU a b c)<|low+k,hi<|eP<|eU (cU a b c)<|low+k,hi<|eP [a.2,b.2,c.2],.b aB,hi<|fB [a.2,b.2,c.2],.b aE] (.int k) R (tD u low A a b c xs s8 s9 s10 v E F) K (j _).1 (j _).2.1 (j _).2.1 (j _).2.2 (j _).2.2 (j _).1 lp (nb _ rfl) tt (xg (.bor rfl) nf) (xR (.bor rfl) nr) (dP k) l1.1 l1.2 (hn _) (dt c1) (hm _)<|df c2;rw[lP,s1] at this;exact this k'
  ·have sf:iP [a.2,b.2,c.2] (low+k)=false:=by unfold iP;rw[df c1,IC]
   rw[sf] at k';have s1:=set1 xs k<|fB (eG (cU a b c)<|low+k) - eP (eU (cU a b c)<|low+k)+1;rw[lP] at s1;have:=fY (.one 8) rl o [.d<|aw a,.d<|aw b,.d<|aw b,.d<|aw c,.d<|aw c,.d<|aw a,.f .next _,.b aB,.b aB,hi<|fB<|eG (cU a b c)<|low+k,hi<|eP<|eU (cU a b c)<|low+k,hi<|eP [a.2,b.2,c.2],.b aE,.b aE] (.int k) R (tD u low A a b c xs s8 s9 s10 v E F) K (j _).1 (j _).2.1 (j _).2.1 (j _).2.2 (j _).2.2 (j _).1 lp (nb _ rfl) tt (xg (.bor rfl) nf) (xR (.bor rfl) nr) (dP k) l1.1 l1.2 (hn _) (df c1) ff;rw[lP,s1] at this;exact this k'
end B01
set_option exponentiation.threshold 100000
namespace B01
noncomputable def shr (A B w:Int) (p:Int×Int):Int×Int:=(p.1+A*p.2+B,p.2+w)
noncomputable def lH (A B w:Int) (e:Ed):Ed:=(shr A B w e.1,shr A B w e.2)
section
variable {A B w k:Int}
theorem QBc (a b w:Int):oe (a+w) (b+w)=oe a b+w:=by unfold oe;simp only[Ij];split<;>rfl
theorem YE (a b w:Int):pS (a+w) (b+w)=pS a b+w:=by unfold pS;simp only[gt_iff_lt,Ij];split<;>rfl
theorem QCi (e:Ed):jW (lH A B w e) (w+k)=jW e k:=by
 show ((e.1.2+w) !=(e.2.2+w) && (decide (oe (e.1.2+w) (e.2.2+w)<=w+k) && decide (w+k<=pS (e.1.2+w) (e.2.2+w))))=(e.1.2 !=e.2.2 && (decide (oe e.1.2 e.2.2<=k) && decide (k<=pS e.1.2 e.2.2)));rw[QBc,YE]
 congr 1
 ·rw[uS,bne_iff_ne,bne_iff_ne];exact ⟨λv1=>(λw1=>((AE v1).elim (λu1=>(fc u1<|iR w1)) λu1=>(fc u1<|iL w1))),λv1=>(λw1=>((AE v1).elim (λu1=>(fc u1<|iR w1)) λu1=>(fc u1<|iL w1)))⟩
 ·congr 1
  ·rw[uS,decide_eq_true_iff,decide_eq_true_iff];exact ⟨λv0=>(bE v0),λv0=>(bE v0)⟩
  ·rw[uS,decide_eq_true_iff,decide_eq_true_iff];exact ⟨λv0=>(bE v0),λv0=>(bE v0)⟩
theorem ML (e:Ed):(lH A B w e).2.2 - (lH A B w e).1.2=e.2.2 - e.1.2:=by show (e.2.2+w) - (e.1.2+w)=_;exact (by simp+arith)
theorem JU (e:Ed):iO (lH A B w e) (w+k)=iO e k+(A*k+B)*(e.2.2 - e.1.2):=by obtain ⟨⟨a,b⟩,⟨c,d⟩⟩:=e;show (a+A*b+B)*((d+w) - (b+w))+(w+k - (b+w))*((c+A*d+B) - (a+A*b+B))=a*(d - b)+(k - b)*(c - a)+(A*k+B)*(d - b);rw[show (d+w) - (b+w)=d - b by exact (by simp+arith),show w+k - (b+w)=k - b by exact (by simp+arith),show (c+A*d+B) - (a+A*b+B)=(c - a)+A*(d - b) by rw[QGE];exact (by simp+arith)];generalize d - b=D;generalize c - a=C;rw[IT,<-xF (k - b) A D,jo (k - b) A,QGE,Qj<|A*k,qr,qr,qr];exact (by simp+arith)
theorem LS {e:Ed} (h:jW e k=aB):js (lH A B w e) (w+k)=js e k+(A*k+B)/\qd (lH A B w e) (w+k)=qd e k+(A*k+B):=by
 have n:e.2.2 - e.1.2≠0:=λq=>by unfold jW at h;rw[bne_eq_false_iff_eq.mpr (by exact (vf q.symm):e.1.2=e.2.2)] at h;exact bq h
 have a:js (lH A B w e) (w+k)=js e k+(A*k+B):=by unfold js;rw[ML,JU,Int.add_mul_fdiv_right _ _ n]
 refine ⟨a,?_⟩;unfold qd;rw[a,ML,JU,Int.add_mul_fmod_self_right];exact (by simp+arith)
end
theorem FK {A B w k:Int} (es:List Ed):dO (es.map<|lH A B w) (w+k)=(dO es k).map (lH A B w):=by
 unfold dO;rw[QGD]
 congr 1
 exact List.filter_congr λe _=>QCi e
theorem LH {A B w k:Int} (es:List Ed):eG (es.map<|lH A B w) (w+k)=(eG es k).map (· +(A*k+B))/\eU (es.map<|lH A B w) (w+k)=(eU es k).map (· +(A*k+B)):=by unfold eG eU;rw[FK,Cw,Cw,Cw,Cw];exact ⟨IV λe m=>(LS<|QHC<|by simpa using (QGF.mp m).2).1,IV λe m=>(LS<|QHC<|by simpa using (QGF.mp m).2).2⟩
theorem Gr {s:Int} {l:List Int} (h:l≠[]):fB (l.map (· +s))=fB l+s:=by
 cases l with
 |nil=>exact QGv rfl h
 |cons a l=>
  show Ik _ (a+s) (l.map (· +s))=Ik _ a l+s;clear h;induction l generalizing a with
  |nil=>rfl
  |cons b l ih=>
   rw[gB,oo,oo,<-ih]
   congr 1
   simp only[gt_iff_lt,Ij];split<;>rfl
theorem Dv {s:Int} {l:List Int} (h:l≠[]):eP (l.map (· +s))=eP l+s:=by
 cases l with
 |nil=>exact QGv rfl h
 |cons a l=>
  show Ik _ (a+s) (l.map (· +s))=Ik _ a l+s;clear h;induction l generalizing a with
  |nil=>rfl
  |cons b l ih=>
   rw[gB,oo,oo,<-ih]
   congr 1
   simp only[gt_iff_lt,Ij];split<;>rfl
theorem JN {w k:Int} {hs:List Int} (h:hs≠[]):iP (hs.map (· +w)) (w+k)=iP hs k:=by
 unfold iP;rw[Dv h,Gr h]
 congr 1
 ·rw[uS,decide_eq_true_iff,decide_eq_true_iff];exact ⟨λv0=>(bE v0),λv0=>(bE v0)⟩
 ·rw[uS,decide_eq_true_iff,decide_eq_true_iff];exact ⟨λv0=>(bE v0),λv0=>(bE v0)⟩
theorem TS {A B w:Int} {j:Nat} {k:Int} {es:List Ed} {hs xs:List Int} (h:hs≠[]):qY (es.map<|lH A B w) (hs.map (· +w)) (w+k) j xs=qY es hs k j xs:=by
 unfold qY vn;rw[JN h,(LH es).1,(LH es).2,FK,Qx];induction hc:(dO es k) with
 |nil=>
  have e1:eG es k=[]:=by unfold eG;rw[hc];rfl
  have e2:eU es k=[]:=by unfold eU;rw[hc];rfl
  rw[e1,e2];rfl
 |cons c cs=>
  have e1:eG es k≠[]:=by unfold eG;rw[hc];exact nofun
  have e2:eU es k≠[]:=by unfold eU;rw[hc];exact nofun
  rw[Gr e1,Dv e1,Gr e2,Dv e2];rw[show fB (eG es k)+(A*k+B) - (eP (eU es k)+(A*k+B))+1=fB (eG es k) - eP (eU es k)+1 by exact (by simp+arith),show fB (eU es k)+(A*k+B) - (eP (eG es k)+(A*k+B)) - 1=fB (eU es k) - eP (eG es k) - 1 by exact (by simp+arith)]
end B01
set_option exponentiation.threshold 100000
noncomputable def Sz (n:Nat) (x:Int):Prop:=x.natAbs<2^n
theorem qD (h:Sz n x):ib x<=n:=nv.mpr h
theorem et (h:Sz m x) (l:m<=n):Sz n x:=mF h (QFP (by decide) l)
theorem iD (h:Sz m x) (g:Sz n y):Sz (m+n) (x*y):=by unfold Sz at*;rw[Ii,Nat.pow_add];exact Nat.mul_lt_mul'' h g
theorem pZ {x:Int} (h:0<=x) (g:x<2^n):Sz n x:=nv.mp<|(lE h).mpr g
theorem NC (h:Sz n x):Sz n (-x):=ig (qj<|Qw x) h
theorem lU (h:Sz n x) (g:Sz n y):Sz (n+1) (x+y):=by unfold Sz;rw[Ql,Nat.mul_two];exact ig (AH x y)<|Nat.add_lt_add h g
theorem zM (h:Sz n x) (g:Sz n y):Sz (n+1) (x - y):=Int.sub_eq_add_neg▸lU h (NC g)
theorem AO (n:Nat):Sz (n+1) ((2:Int)^n):=by unfold Sz;rw[Int.natAbs_pow];exact Nat.pow_lt_pow_right (by decide)<|uZ n
theorem tX {x:Int} (h:x.natAbs<=10):Sz 4 x:=ig h (by decide)
theorem Ee {m:Nat} {x:Int} (h:(m:Int)<=x):m<=x.natAbs:=om.mp<|kC h QGG
theorem ZF {x:Int} (h:2^n<=x):n<=ib x:=iH.mp λq=>QGv (Ee (m:=2^n)<|by exact_mod_cast h)<|H9.mpr<|nv.mp<|sA q
theorem lK {x y:Int} (h:Sz m x) (g:Sz n y) (l:m+n<=134217728):ib x+ib y<=134217728:=az (iF (qD h)<|qD g) l
namespace B01
theorem Ro (L:Nat) (hL:310<=L) {u low k:Int} {e:Ed} (u0:2^200<=u) (u1:Sz 210 u) (a1:Sz 200 e.1.1) (b1:Sz 200 e.2.1) (dy:Sz 10 (e.2.2 - e.1.2)) (q:Sz 10 (low+k - e.1.2)):vJ (aU<|L+2) u low k e:=by
 have d1:=zM b1 a1;have p1:=iD a1 dy;have p2:=iD q d1;have pl:Sz 212 (iO e<|low+k):=lU (et p1 (by decide:200+10<=211)) (et p2 (by decide:10+201<=211));refine ⟨lK a1 dy (by decide),lK q d1 (by decide),lK pl u1 (by decide),lK dy u1 (by decide),λc=>?_⟩;have n:e.2.2 - e.1.2≠0:=λq=>by unfold jW at c;rw[bne_eq_false_iff_eq.mpr (by exact (vf q.symm):e.1.2=e.2.2)] at c;exact bq c
 have up:0<u:=pJ (by decide) u0;have nb:(e.2.2 - e.1.2)*u≠0:=Int.mul_ne_zero n<|gE up
 have big:5<=ib ((e.2.2 - e.1.2)*u):=by
  rcases QR (ib<|(e.2.2 - e.1.2)*u) 5 with h|h
  ·have:=nv.mp (QFf h)
   rw[Ii] at this;have g:1<=(e.2.2 - e.1.2).natAbs:=((AE n).elim (λu1=>(oM<|bG (iR<|xH ((bE u1):e.snd.snd - e.fst.snd<=0)) u1)) λu1=>(oM<|bG (iR<|jR ((bE u1):0<=e.snd.snd - e.fst.snd)) u1))
   have v2:(16:Int)<=2^200:=by decide
   have u2:16<=u.natAbs:=Ee<|kC v2 u0;have:=Cn g u2;exact (cY this ‹(e.snd.snd - e.fst.snd).natAbs*u.natAbs<2^4›)
  ·exact h
 have f:=LI L hL nb (az (qD<|iD dy u1)<|by decide) (az (qD<|iD pl u1)<|by exact (oM<|bE<|mI 100<|oL big));rw[Int.mul_fdiv_mul_of_pos_left _ _ up,jo (iO e<|low+k) u,jo (e.2.2 - e.1.2) u,Int.mul_fmod_mul_of_pos _ _ up] at f;refine ⟨((u*(iO e<|low+k).fmod (e.2.2 - e.1.2)).natAbs:Nat),dP _,?_,by rw[jo (iO e<|low+k) u,jo (e.2.2 - e.1.2) u];exact f⟩;by_cases z:(iO e<|low+k).fmod (e.2.2 - e.1.2)=0
 ·rw[z,if_pos rfl,Qo];rfl
 ·rw[if_neg z,if_pos]
  have g:1<=((iO e<|low+k).fmod<|e.2.2 - e.1.2).natAbs:=((AE z).elim (λu1=>(oM<|bG (iR<|xH ((bE u1):(iO e<|low+k).fmod (e.snd.snd - e.fst.snd)<=0)) u1)) λu1=>(oM<|bG (iR<|jR ((bE u1):0<=(iO e<|low+k).fmod (e.snd.snd - e.fst.snd))) u1))
  have v2:(2:Int)<=2^200:=by decide
  have u2:2<=u.natAbs:=Ee<|kC v2 u0;have:=Cn u2 g;rw[Ii];exact (bE<|oL this)
noncomputable def tK (t:cB):List Int:=[(p0 t).2,(p1 t).2,(p2 t).2]
noncomputable def uE (t:cB) (k:Nat) (xs:List Int):List Int:=qY (cU (p0 t) (p1 t)<|p2 t) (tK t) k k xs
noncomputable def CK (t:cB):List Int:=uE t 4<|uE t 3<|uE t 2<|uE t 1<|uE t 0<|dY 8 0
noncomputable def strOk (t:cB) (k:Nat):Prop:=iP (tK t) k=aB->dO (cU (p0 t) (p1 t)<|p2 t) k≠[]/\k<4
theorem VY {es:List Ed} {q:Int} {k:Nat} {xs:List Int}:(vn es q k xs).length=xs.length:=by unfold vn;cases (dO es q).isEmpty<;>simp
theorem Zy {es:List Ed} {hs:List Int} {q:Int} {k:Nat} {xs:List Int}:(qY es hs q k xs).length=xs.length:=by unfold qY;cases iP hs q<;>simp[VY]
noncomputable def Gd:EW:=.list [.aH .Add (.au (.aC 201)<|.int 0)<|.aH .Mult (.aC 4)<|.au (.aC 201)<|.int 1,.au (.aC 201)<|.int 1]
noncomputable def OP:EW:=.au (.aC 201)<|.int 1
noncomputable def zH (u:Int) (k2:Int) (s5:Sl) (ps:aK) (low c:Int):Ls:=[(3,.val<|.int u),(4,.val<|.int k2),(5,s5),(6,.unb),(7,.unb),(8,.unb),(9,.unb),(10,.unb),(11,.unb),(12,.unb),(13,.unb),(14,.unb),(15,.unb),(0,.val ps),(1,.val<|.int low),(2,.val<|.int c)]
noncomputable def rX (l:Ls):Ls:=oj (.one 201)<|oR l
noncomputable def fL (k2:Int) (p:Int×Int):Int×Int:=(p.1+k2*p.2,p.2)
theorem QAI (o:bj) {u k2 low c:Int} {ps:aK} {g:List (Int×Int)} (h: ∀p∈g,ib k2+ib p.2<=134217728) (K:List aK->Prop) (k:K (g.map λp=>aw<|fL k2 p)):cW Gd.w (.one 201) [] o (rX<|zH u k2 .unb ps low c) (g.map aw) K:=CZ (g:=aw) (f:=λp=>aw<|fL k2 p) (λp m x K k=>fM Gd (.one 201) [] o [.b aB,hi p.1,hi p.2,hi p.2] (rX<|zH u k2 .unb ps low c) (aw p) x K rfl tt (iQ p) (cK p) (h p m) (cK p) rfl k) K k
theorem QBl (o:bj) {u k2 low c:Int} {ps:aK} {g:List (Int×Int)} {s5:Sl} (K:List aK->Prop) (k:K (g.map λp=>.int p.2)):cW OP.w (.one 201) [] o (rX<|zH u k2 s5 ps low c) (g.map aw) K:=CZ (g:=aw) (f:=λp=>.int p.2) (λp m x K k=>fM OP (.one 201) [] o [.b aB,hi p.2] (rX<|zH u k2 s5 ps low c) (aw p) x K rfl tt (cK p) rfl k) K k
theorem QAx (L:Nat) (hL:310<=L) {t:cB} (T:lZ t) (S: ∀k,k<5->strOk t k) {A B w:Int} (hA:0<=A/\A<10^6) (hB:0<=B/\B<10^6) (hw:0<=w/\w<10^6) (c:Int):
 (aU<|L+3).F 29 [.list [aw<|shr A B w<|p0 t,aw<|shr A B w<|p1 t,aw<|shr A B w<|p2 t],.int w,.int c] (.list<|dI<|CK t):=by
 have pw:(1:Int)*2^bN 200=2^200:=by rw[gq];rfl
 have pv:(1:Int)*2^bN 150=2^150:=by rw[gq];rfl
 have P2:(0:Int)<2^200:=by decide
 have P1:(0:Int)<2^150:=by decide
 have m0:=nV c P2;have m1:=nU c P2
 refine aS (by
  refine aS (kW c (n:=2)<|by decide) λz hz e=>?_;have e:c.fmod 2=(z:Int):=e;rcases (by exact ((Ie _).imp_right λo0=>(ji (aQ hz)<|aQ<|Ih o0)):z=0\/z=1) with q|q<;>subst q
  ·exact ⟨1,λr=>dE rfl e (by show (2:Int)<2^63;decide),.inl rfl⟩
  ·exact ⟨-1,λr=>dE rfl e (by show (2:Int)<2^63;decide),.inr rfl⟩: ∃n0:Int,(∀r,cC r (.d<|.list [.int 1,.int (-1)]) (c.fmod 2)<|.int n0)/\(n0=1\/n0= -1)) λn0 i0 hn=>?_
 have v0:=nV (c.fdiv 3) P1;have v1:=nU (c.fdiv 3) P1;have z150:Sz 150 ((c.fdiv 3).fmod<|2^150):=pZ v0 v1;have zn:Sz 1 n0:=by unfold Sz;exact (hn.elim (λu1=>(oM<|bG (iL<|jR ((bE<|iR u1):0<=n0))<|iL u1)) λu1=>(oM<|bG (iL<|xH ((bE<|iL u1):n0<=0))<|iR u1))
 have zk:Sz 151 ((c.fdiv 3).fmod (2^150)*n0):=iD z150 zn;have zu:Sz 210 ((2:Int)^200+c.fmod (2^200)):=et (lU (AO 200)<|et (pZ m0 m1) (by decide:200<=201)) (by decide);have u0:(2:Int)^200<=2^200+c.fmod (2^200):=(bE m0)
 generalize hk2:(c.fdiv 3).fmod (2^150)*n0=k2 at*;generalize hu:(2:Int)^200+c.fmod (2^200)=u at*;have z20: ∀{x:Int},0<=x/\x<10^6->Sz 20 x:=λq=>pZ q.1 (IQ q.2<|by decide);have sm: ∀p,iC p->Sz 30 (shr A B w p).1/\Sz 30 (shr A B w p).2:=λp s=>⟨et (lU (lU (et (tX s.1) (by decide:4<=24))<|iD (z20 hA)<|tX s.2)<|et (z20 hB)<|by decide) (by decide),et (lU (et (tX s.2) (by decide:4<=20))<|z20 hw)<|by decide⟩;have sq: ∀p,iC p->Sz 200 (fL k2<|shr A B w p).1:=λp s=>by have:=sm p s;exact et (lU (et this.1 (by decide:30<=181))<|iD zk this.2) (by decide)
 have eq: ∀p,fL k2 (shr A B w p)=shr (A+k2) (B+k2*w) w p:=λp=>by
  unfold fL shr;dsimp only
  congr 1
  rw[qr,IT];exact (by simp+arith)
 have dyS: ∀p q:Int×Int,iC p->iC q->Sz 10 ((shr A B w q).2 - (shr A B w p).2):=λp q s r=>et ((by exact (Int.add_sub_add_right ..):(shr A B w q).2 - (shr A B w p).2=q.2 - p.2)▸zM (tX r.2) (tX s.2)) (by decide);have qS: ∀(p:Int×Int) (k:Nat),iC p->k<5->Sz 10 (w+k - (shr A B w p).2):=λp k s l=>et ((by unfold shr;rw[xE p.2 w];exact Int.add_sub_add_left .. :w+k - (shr A B w p).2=k - p.2)▸zM (tX (x:=(k:Int))<|az (sA l)<|by decide) (tX s.2)) (by decide)
 have H: ∀k,k<5-> ∀e∈cU (fL k2<|shr A B w<|p0 t) (fL k2<|shr A B w<|p1 t) (fL k2<|shr A B w<|p2 t),vJ (aU<|L+2) u w (k:Nat) e:=λk l e m=>by
  have f: ∀p q,iC p->iC q->vJ (aU<|L+2) u w (k:Nat) (fL k2<|shr A B w p,fL k2<|shr A B w q):=λp q s r=>Ro L hL u0 zu (sq p s) (sq q r) (dyS p q s r)<|qS p k s l;rcases bp.mp m with rfl|m
  ·exact f _ _ T.a T.b
  ·rcases bp.mp m with rfl|m
   ·exact f _ _ T.b T.c
   ·rcases bp.mp m with rfl|m
    ·exact f _ _ T.c T.a
    ·exact nomatch m
 have tr: ∀(k:Nat) xs,qY (cU (fL k2<|shr A B w<|p0 t) (fL k2<|shr A B w<|p1 t)<|fL k2<|shr A B w<|p2 t) [(fL k2<|shr A B w<|p0 t).2,(fL k2<|shr A B w<|p1 t).2,(fL k2<|shr A B w<|p2 t).2] (w+k) k xs=uE t k xs:=λk xs=>by rw[eq,eq,eq];exact TS (es:=cU (p0 t) (p1 t)<|p2 t) (hs:=tK t) (by unfold tK;exact nofun)
 have ts: ∀k:Nat,k<5->iP [(shr A B w<|p0 t).2,(shr A B w<|p1 t).2,(shr A B w<|p2 t).2] (w+k)=aB->dO (cU (fL k2<|shr A B w<|p0 t) (fL k2<|shr A B w<|p1 t)<|fL k2<|shr A B w<|p2 t) (w+k)≠[]/\k<4:=λk l h=>by have h:iP ((tK t).map (· +w)) (w+k)=true:=h;rw[JN (by unfold tK;exact nofun)] at h;have:=S k l h;refine ⟨λq=>this.1 ?_,this.2⟩;rw[eq,eq,eq] at q;have q:dO ((cU (p0 t) (p1 t)<|p2 t).map<|lH (A+k2) (B+k2*w) w) (w+k)=[]:=q;rw[FK] at q;exact QFk.mp q
 have tn:=λ(k:Nat) (l:k<5) (E F s8 s9 s10:Sl) (v:Sv) (xs:List Int) (hx:xs.length=8) (R:List aK)=>QAH (o:=aU<|L+2) (A:=.val<|.int k2) (E:=E) (F:=F) (s8:=s8) (s9:=s9) (s10:=s10) (v:=v) (H k l) hx l (ts k l) (R:=R);have l8:(dY 8 (0:Int)).length=8:=AD;have l1: ∀k xs,xs.length=8->(uE t k xs).length=8:=λk xs h=>Zy.trans h;generalize hD:DA [aw<|shr A B w<|p0 t,aw<|shr A B w<|p1 t,aw<|shr A B w<|p2 t]=D at*;refine xy (tn 0 (by decide) (.val D) (.val<|.int c) .unb .unb .unb ⟨.unb,.unb,.unb,.unb,.unb⟩ _ l8 [.int (1:Nat),.int (2:Nat),.int (3:Nat),.int (4:Nat)]) λa8 a9 a0 av t0=>?_;rw[tr] at t0;refine xy (tn 1 (by decide) (.val D) (.val<|.int c) a8 a9 a0 av _ (l1 0 _ l8) [.int (2:Nat),.int (3:Nat),.int (4:Nat)]) λb8 b9 b0 bv t1=>?_;rw[tr] at t1;refine xy (tn 2 (by decide) (.val D) (.val<|.int c) b8 b9 b0 bv _ (l1 1 _<|l1 0 _ l8) [.int (3:Nat),.int (4:Nat)]) λd8 d9 d0 dv t2=>?_;rw[tr] at t2;refine xy (tn 3 (by decide) (.val D) (.val<|.int c) d8 d9 d0 dv _ (l1 2 _<|l1 1 _<|l1 0 _ l8) [.int (4:Nat)]) λe8 e9 e0 ev t3=>?_;rw[tr] at t3;refine xy (tn 4 (by decide) (.val D) (.val<|.int c) e8 e9 e0 ev _ (l1 3 _<|l1 2 _<|l1 1 _<|l1 0 _ l8) []) λf8 f9 f0 fv t4=>?_;rw[tr] at t4;have lp:=λK h=>t0 K<|t1 K<|t2 K<|t3 K<|t4 K h;have ml: ∀r,fe r .Mult (.d<|.list [.int 0]) (.d<|.int 8)<|.list<|dI<|dY 8 0:=λr=>.mul (n:=8) .d (by decide) (by decide) (by decide)
 have c3: ∀K,K ([shr A B w<|p0 t,shr A B w<|p1 t,shr A B w<|p2 t].map λp=>aw<|fL k2 p)->cW Gd.w (.one 201) [] (aU<|L+2) (rX<|zH u k2 .unb D w c) ([shr A B w<|p0 t,shr A B w<|p1 t,shr A B w<|p2 t].map aw) K:=QAI _ λp m=>by
  have f: ∀p,iC p->ib k2+ib (shr A B w p).2<=134217728:=λp s=>lK zk (sm p s).2 (by decide);rcases bp.mp m with rfl|m
  ·exact f _ T.a
  ·rcases bp.mp m with rfl|m
   ·exact f _ T.b
   ·rcases bp.mp m with rfl|m
    ·exact f _ T.c
    ·exact nomatch m
 have c4:=λK k=>QBl (aU<|L+2) (u:=u) (k2:=k2) (low:=w) (c:=c) (ps:=D) (g:=[fL k2<|shr A B w<|p0 t,fL k2<|shr A B w<|p1 t,fL k2<|shr A B w<|p2 t]) (s5:=.val<|.list<|[shr A B w<|p0 t,shr A B w<|p1 t,shr A B w<|p2 t].map λp=>aw<|fL k2 p) K k;subst hD;have hk:(c.fdiv 3).fmod (1*2^bN 150)*n0=k2:=by rw[pv];exact hk2
 have hv:1*2^bN 200+c.fmod (1*2^bN 200)=u:=by rw[pw];exact hu
 clear tn H t0 t1 t2 t3 t4 tr ts eq sq hk2 hu;subst hk;subst hv;exact di (q8 b_law_counts 3 [3,4,5,6,7,8,9,10,11,12,13,14,15] [hi n0,.ds<|[shr A B w<|p0 t,shr A B w<|p1 t,shr A B w<|p2 t].map λp=>aw<|fL ((c.fdiv 3).fmod (1*2^bN 150)*n0) p,.ds [.int (shr A B w<|p0 t).2,.int (shr A B w<|p1 t).2,.int (shr A B w<|p2 t).2],hl<|dI<|dY 8 0,.f .next _] (aU<|L+2) [.list [aw<|shr A B w<|p0 t,aw<|shr A B w<|p1 t,aw<|shr A B w<|p2 t],.int w,.int c] (.list<|dI<|CK t) rfl (by decide) (by decide) (by decide) (by decide) (df (by rw[pw];decide)) ff (nl rfl) (by decide) (by decide) (df (by rw[pv];decide)) ff (i0 _) (by rw[pv];exact lK z150 zn<|by decide) (by show 3<=16777216;decide) c3 (by show 3<=16777216;decide) c4 (ml _) tt lp .ret) rfl
end B01
set_option exponentiation.threshold 100000
theorem I6 (n:Nat): ∀ds:List Int,(∀d∈ds,0<=d/\d<2^n)->digs n ds.length (undig n ds)=ds:=by
 intro ds;induction ds with
 |nil=>exact λ_=>rfl
 |cons d ds ih=>intro h;have hd:=h d<|.head _;have N:=fh n;rw[pL,BS,oE,QFw,QFX hd.1 hd.2,Ig _ _<|gE N,Qy hd.1 hd.2,zc,ih λx m=>h x<|.tail _ m]
theorem KJ {n:Nat} (hn:1<=n) {ds:List Int} {l:Int} (h: ∀d∈ds++[l],0<=d/\d<2^n) (hl:1<=l):dU n (undig n<|ds++[l])=ds.length+1:=by
 have r:=yw n _ h;have lo:2^(n*ds.length)<=undig n (ds++[l]):=by have a:=(yw n ds λd m=>h d<|PW _ m).1;have P:=fh<|n*ds.length;rw[CY,oE,vh,Qo,QFe];have:=HW hl<|bw P;exact (bG a this)
 rw[du] at r;have up:=(lE r.1).mpr r.2;have dn: ¬ ib (undig n<|ds++[l])<=n*ds.length:=λq=>by have:=(lE r.1).mp q;exact (fc this lo)
 unfold dU;have e:n*(ds.length+[l].length)=n*ds.length+n:=by rw[List.length_singleton,DJ]
 rw[e] at up;have e2:(ds.length+1)*n=n*ds.length+n:=by rw[QGH,IS]
 have e3:(ds.length+1+1)*n=n*ds.length+n+n:=by rw[QGH,e2]
 exact Nat.div_eq_of_lt_le (by rw[e2];exact (bD (qp dn)<|nR<|sE ((aQ hn):1<=ib (undig n<|ds++[l])+n))) (by rw[e3];exact (bD (nL<|sE ((aQ hn):1<=ib (undig n<|ds++[l])+n)) up))
theorem TC (a b B:Int):(b+a*B+B*B)*(B*B*B*B*B)=((15+10*a+6*b)+B*(10+6*a+3*b)+B*B*(6+3*a+b)+B*B*B*(3+a)+B*B*B*B)*((B - 1)*(B - 1)*(B - 1))+((21+15*a+10*b)*(B*B) - (35+24*a+15*b)*B+(15+10*a+6*b)):=by grind
theorem ZJ {a b B:Int} (h:2^16<=B) (A:0<=a/\a<=100) (C:0<=b/\b<=100):0<=(21+15*a+10*b)*(B*B) - (35+24*a+15*b)*B+(15+10*a+6*b)/\(21+15*a+10*b)*(B*B) - (35+24*a+15*b)*B+(15+10*a+6*b)+1<=(B - 1)*(B - 1)*(B - 1):=by
 have b0:0<=B:=(bE h)
 have bb:0<=B*B:=kF b0 b0;have h1:(35+24*a+15*b)*B<=21*(B*B):=by have:=mT (show 35+24*a+15*b<=4000 by exact (bG (mI 24 A.2)<|mI 15 C.2)) b0;exact kC this (kC (mT (by exact (bE h):4000<=B) b0)<|by exact (bE<|mI 20 bb))
 have h2:0<=(15*a+10*b)*(B*B):=kF (by exact (bG (mI 15 A.1)<|mI 10 C.1)) bb;have h3:(21+15*a+10*b)*(B*B)<=3000*(B*B):=mT (by exact (bG (mI 15 A.2)<|mI 10 C.2)) bb;have h4:0<=(35+24*a+15*b)*B:=kF (by exact (bG (mI 24 A.1)<|mI 15 C.1)) b0;have h5:(B - 1)*(B - 1)*(B - 1)=B*(B*B) - 3*(B*B)+3*B - 1:=by grind
 have h6:65536*(B*B)<=B*(B*B):=mT (by exact h) bb;have h7:(21+15*a+10*b)*(B*B)=21*(B*B)+(15*a+10*b)*(B*B):=by rw[QFd,qr]
 rw[h5];refine ⟨?_,?_⟩
 ·rw[h7]
  exact (bG (ni h1 h2)<|ni (mI 10 A.1)<|mI 6 C.1)
 ·generalize B*(B*B)=y at*
  generalize B*B=z at*;generalize (35+24*a+15*b)*B=v at*;exact (bG (ni (ni h3 h4)<|ni (mI 10 A.2)<|mI 6 C.2)<|ni h6<|ni (mI 62533 bb)<|mI 3 h)
noncomputable def iT (a b B:Int):Int:=(15+10*a+6*b)+B*(10+6*a+3*b)+B*B*(6+3*a+b)+B*B*B*(3+a)+B*B*B*B
theorem Zz {a b B U far e:Int} (h:2^16<=B) (A:0<=a/\a<=100) (C:0<=b/\b<=100) (u:0<U) (e0:0<e) (e1:e<U) {N D:Int} (hD:D=(B - 1)*(B - 1)*(B - 1)*U) (hN:N=(b+a*B+B*B)*(B*B*B*B*B)*U+far*D+e):
 0<D/\N.fdiv D=far+iT a b B/\(-N).fdiv (-D)=far+iT a b B/\(-N).fdiv D= -1 - (far+iT a b B)/\N.fdiv (-D)= -1 - (far+iT a b B):=by
 have R:=ZJ h A C;have pl:=TC a b B;generalize hR:(21+15*a+10*b)*(B*B) - (35+24*a+15*b)*B+(15+10*a+6*b)=r at*;have hq:(15+10*a+6*b)+B*(10+6*a+3*b)+B*B*(6+3*a+b)+B*B*B*(3+a)+B*B*B*B=iT a b B:=rfl;rw[hq] at pl;have b1:0<B - 1:=(bE h)
 have c3:=lR (lR b1 b1) b1;generalize hc:(B - 1)*(B - 1)*(B - 1)=c at*;have D0:0<D:=hD▸lR c3 u;have ru:(r+1)*U<=c*U:=mT R.2<|bw u;have r0:0<=r*U:=kF R.1<|bw u;rw[qr,gq] at ru
 have n2:N=(r*U+e)+D*(far+iT a b B):=by
  rw[hN,pl,hD]
  grind
 have f:N.fdiv D=far+iT a b B:=by rw[hV _ D0,n2,Ig _ _<|gE D0,Qy (by exact (bG r0 e0)) (by rw[hD];exact (bG ru e1)),zc]
 have g:(-N).fdiv D= -1 - (far+iT a b B):=by
  have n3: -N=(D - (r*U+e))+D*(-1 - (far+iT a b B)):=by rw[n2];grind
  rw[hV _ D0,n3,Ig _ _<|gE D0,Qy (by rw[hD];exact (bG ru e1)) (by exact (bG r0 e0)),zc]
 refine ⟨D0,f,by rw[QGI];exact f,g,?_⟩;rw[<-g,<-QGI N (-D),Int.neg_neg]
set_option exponentiation.threshold 100000
namespace B01
noncomputable def j9 (h w:Int):List Int:=[15+10*(h - 3)+6*w,10+6*(h - 3)+3*w,6+3*(h - 3)+w,h,1]
theorem QAC {W:Nat} {h w:Int}:iT (h - 3) w (2^W)=undig W (j9 h w):=by
 unfold iT j9;simp only[oE,vh];generalize (2:Int)^W=B
 grind
theorem EI {a b c x y B:Int} (h:(0<=a/\a<=10)/\(0<=b/\b<=6)/\0<=c/\c<=15) (A:3<=x/\x<=100) (C:0<=y/\y<=100) (g:65536<=B):0<=c+a*(x - 3)+b*y/\c+a*(x - 3)+b*y<B:=by have x0:0<=x - 3:=Il A.1;have x1:x - 3<=100:=kC (QGJ _<|by decide) A.2;refine ⟨qt (qt h.2.2.1<|kF h.1.1 x0)<|kF h.2.1.1 C.1,pJ (o5 (Cc (Cc h.2.2.2<|Hb h.1.2 x1 x0<|by decide)<|Hb h.2.1.2 C.2 C.1<|by decide)<|by decide) g⟩
theorem QCb (L:Nat) {W:Nat} (h1:16<=W) (h2:W<=315) {h w:Int} (hh:3<=h/\h<=100) (hw:0<=w/\w<=100) (hL:5<=L):(aU<|L+1).F 5 [.int<|iT (h - 3) w<|2^W,.int W] (.list<|dI<|j9 h w):=by
 have big:(65536:Int)<=2^W:=Bw (m:=16) h1
 have rg: ∀d∈j9 h w,0<=d/\d<2^W:=by
  intro d m;simp only[j9,bp,gU,or_false] at m;rcases m with rfl|rfl|rfl|rfl|rfl
  ·exact EI (by decide) hh hw big
  ·exact EI (by decide) hh hw big
  ·exact gq w▸EI (b:=1) (by decide) hh hw big
  ·exact ⟨kC (by decide) hh.1,o5 hh.2<|pJ (by decide) big⟩
  ·exact ⟨by decide,pJ (by decide) big⟩
 have p:dU W (undig W<|j9 h w)=5:=KJ (n:=W) (by exact (aQ h1)) (ds:=[15+10*(h - 3)+6*w,10+6*(h - 3)+3*w,6+3*(h - 3)+w,h]) (l:=1) rg (by decide);rw[QAC];have:=CP L (n:=W) (yw W _ rg).1 (az (by decide) h1) (by rw[p];exact hL) (by rw[p];decide) (by rw[p];exact (aQ<|gC 5 h2)) (by exact (aQ h2));rw[p,show digs W 5 (undig W<|j9 h w)=j9 h w from I6 W (j9 h w) rg] at this;exact this
theorem XO (L:Nat) {W:Nat} (h1:16<=W) (h2:W<=315) (hL:5<=L): ∃x y,(aU<|L+1).F 6 [.list<|dI [],.int W] (.int x)/\(aU<|L+1).F 5 [.int x,.int W] (.list<|dI [])/\(aU<|L+1).F 6 [.list<|dI [2^W - 1,2^W - 1,2^W - 1],.int W] (.int y)/\(aU<|L+1).F 5 [.int y,.int W] (.list<|dI [2^W - 1,2^W - 1,2^W - 1]):=by
 have big:(65536:Int)<=2^W:=Bw (m:=16) h1;have rg: ∀d∈[(2:Int)^W - 1,2^W - 1]++[2^W - 1],0<=d/\d<2^W:=by intro d m;simp only[sT,sY,bp,gU,or_false] at m;have q:(0:Int)<=2^W - 1/\(2:Int)^W - 1<2^W:=⟨Il<|fh W,Int.sub_lt_self _<|by decide⟩;rcases m with rfl|rfl|rfl<;>exact q
 have p:dU W (undig W<|[(2:Int)^W - 1,2^W - 1]++[2^W - 1])=3:=KJ (n:=W) (by exact (aQ h1)) rg (by exact (bE big));have z:dU W (undig W [])=0:=by rw[vh];unfold dU;rw[Oy];exact Qn (by exact (aQ<|nL<|sE ((aQ h1):1<=0+W)))
 refine ⟨_,_,Be L (ds:=[]) (hJ _) (hJ _) (az (by decide) h1) (hJ _) nofun,?_,Be L (ds:=[(2:Int)^W - 1,2^W - 1]++[2^W - 1]) (by show 3<=L;exact (aQ hL)) (by show 3<=256;decide) (az (by decide) h1) (by show W*3<=_;exact (aQ<|gC 3 h2)) rg,?_⟩
 ·have:=CP L (n:=W) (a:=undig W []) (uT _) (az (by decide) h1) (by rw[z];exact (by simp+arith)) (by rw[z];exact (by simp+arith)) (by rw[z];exact (by simp+arith)) (by exact (aQ h2))
  rw[z] at this;exact this
 ·have:=CP L (n:=W) (yw W _ rg).1 (az (by decide) h1) (by rw[p];exact az (by decide) hL) (by rw[p];decide) (by rw[p];exact az (Nat.mul_le_mul_right 3 h2)<|by decide) (az h2<|by decide)
  rw[p,show digs W 3 (undig W<|[(2:Int)^W - 1,2^W - 1]++[2^W - 1])=[(2:Int)^W - 1,2^W - 1]++[2^W - 1] from I6 W _ rg] at this;exact this
noncomputable def GY:EW:=.call 5 [.call 6 [.aC 201,.aC 3],.aC 3]
noncomputable def FN (w' u d f:Int) (fs:aK) (h w c:Int):Ls:=[(3,.val<|.int w'),(4,.val<|.int u),(5,.val<|.int d),(6,.val<|.int f),(7,.val fs),(8,.unb),(9,.unb),(10,.unb),(11,.unb),(12,.unb),(0,.val<|.int h),(1,.val<|.int w),(2,.val<|.int c)]
theorem Iz {o:bj} {w' u d f h w c x y:Int} {fs:aK} {A B:List Int} (a:o.F 6 [.list<|dI A,.int w'] (.int x)) (b:o.F 5 [.int x,.int w'] (.list<|dI A)) (a2:o.F 6 [.list<|dI B,.int w'] (.int y)) (b2:o.F 5 [.int y,.int w'] (.list<|dI B)) (K:List aK->Prop) (k:K [.list<|dI A,.list<|dI B]):cW GY.w (.one 201) [] o (rX<|FN w' u d f fs h w c) [.list<|dI A,.list<|dI B] K:=fM GY (.one 201) [] o [.b aB,hi x,.d<|.list<|dI A] (rX<|FN w' u d f fs h w c) (.list<|dI A) [.list<|dI B] K rfl tt a b rfl (fM GY (.one 201) [] o [.b aB,hi y,.d<|.list<|dI B] (rX<|FN w' u d f fs h w c) (.list<|dI B) [] _ rfl tt a2 b2 rfl k)
end B01
set_option exponentiation.threshold 100000
theorem KZ (x:Int):x^bN 3=x*x*x:=by
 show x^3=_
 grind
theorem Zq (W:Nat):(2:Int)^(5*W)=2^W*2^W*2^W*2^W*2^W:=by rw[show 5*W=W+W+W+W+W by exact (by simp+arith),mZ,mZ,mZ,mZ]
theorem NG:Sz 1 1:=by unfold Sz;decide
theorem Wo {u:Int} (h:2^n+m=u) (a:0<=m) (b:m<2^n):2^n<=u/\u<2^(n+1):=by subst h;rw[rk,Int.two_mul];exact ⟨Int.le_add_of_nonneg_right a,QFR b _⟩
theorem Uu {a:Int} (A:0<=a) (h:a<300): ∃W:Nat,16+a=W/\16<=W/\W<=315:=⟨(16+a).toNat,by omega,by omega,by omega⟩
theorem Ur {a b:Int} (h:0<b) (k:0<a):b<=a*b:=kC (Cd (gq b).symm)<|mT k<|bw h
theorem CW (a b:Int):a+b - a=b:=by simp+arith
theorem NV (x:Int): -1 - (-1 - x)=x:=by simp+arith
theorem tn5 (W:Nat):(5*(W:Int)).toNat=5*W:=rfl
theorem ZU {w h B:Int} (hh:3<=h/\h<=100) (hw:0<=w/\w<=100) (b:65536<=B): ∀d∈[w,h - 3,1],0<=d/\d<B:=by
 intro d q;simp only[bp,gU,or_false] at q;rcases q with rfl|rfl|rfl
 ·exact ⟨hw.1,o5 hw.2<|pJ (by decide) b⟩
 ·exact ⟨Il hh.1,o5 (QGJ _<|by decide)<|o5 hh.2<|pJ (by decide) b⟩
 ·exact ⟨by decide,pJ (by decide) b⟩
namespace B01
theorem KN {r:bR} {f:Int}:gY r .NotEq (.d<|.tuple [.int f,.int 0]) (.d<|.tuple [.int f,.int 0]) false:=.tup (kU (by intro x m;rcases bp.mp m with rfl|m;exact uB _;rcases List.mem_cons.mp m with rfl|m;exact uB _;exact nomatch m)) (kU (by intro x m;rcases List.mem_cons.mp m with rfl|m;exact uB _;rcases List.mem_cons.mp m with rfl|m;exact uB _;exact nomatch m))<|.nh rfl
theorem Dh (A:List Int):fO 8 (.list<|dI A)=true:=by refine dR.mpr λy m=>?_;refine aS (ij.mp m) λi _ e=>?_;subst e;rfl
theorem Br (A B:List Int):mj [.list<|dI A,.list<|dI B]:=kU (by intro x m;rcases bp.mp m with rfl|m;exact Dh A;rcases List.mem_cons.mp m with rfl|m;exact Dh B;exact nomatch m)
noncomputable def EP (L:Nat) (h w c w' u d m e far:Int):Prop:=ib far+ib d<=134217728/\ ∀X,X=m*2^(5*w').toNat*u+far*d+1+e-> ∃w2 w3 q r w4:Int,(∀R,cC R (.d<|.list [.int 1,.int (-1),.int (-1),.int 1]) ((c.fdiv 13).fmod 4)<|.int w2)/\ib X+ib w2<=134217728/\(∀R,cC R (.d<|.list [.int 1,.int (-1),.int 1,.int (-1)]) ((c.fdiv 13).fmod 4)<|.int w3)/\ib d+ib w3<=134217728/\(aU<|L+2).F 28 [.int<|X*w2,.int<|d*w3] (.list [.int q,.int r])/\0<=r/\(∀R,cC R (.d<|.list [.int q,.int q,.int (-1 - q),.int (-1 - q)]) ((c.fdiv 13).fmod 4)<|.int w4)/\(aU<|L+2).F 5 [.int<|w4 - far,.int w'] (.list<|dI<|j9 h w)
theorem TH (L:Nat) (hL:320<=L) {h w:Int} (hh:3<=h/\h<=100) (hw:0<=w/\w<=100) (c w' u d f g e:Int) (hw':16+c.fmod 300=w') (hu:1*2^bN 4200+(c.fdiv 7).fmod (1*2^bN 4200)=u) (hd:(1*2^w'.toNat - 1)^bN 3*u=d) (hf:1*2^bN (ib d:Int) - 1=f) (hg:(c.fdiv 5).fmod (1*2^bN 4300)=g) (he:(c.fdiv 11).fmod (u - 1)=e): ∃x y m:Int,(aU<|L+2).F 6 [.list<|dI [],.int w'] (.int x)/\(aU<|L+2).F 5 [.int x,.int w'] (.list<|dI [])/\(aU<|L+2).F 6 [.list<|dI [1*2^w'.toNat - 1,1*2^w'.toNat - 1,1*2^w'.toNat - 1],.int w'] (.int y)/\(aU<|L+2).F 5 [.int y,.int w'] (.list<|dI [1*2^w'.toNat - 1,1*2^w'.toNat - 1,1*2^w'.toNat - 1])/\(aU<|L+2).F 6 [.list [.int w,.int<|h - 3,.int 1],.int w'] (.int m)/\(aU<|L+2).F 8 [.int<|f*d,.int d] (.tuple [.int f,.int 0])/\((ib 1:Nat):Int)+w'<=134217728/\((ib (1*2^w'.toNat - 1):Nat):Int)*3<=134217728/\ib ((1*2^w'.toNat - 1)^bN 3)+ib u<=134217728/\((ib 1:Nat):Int)+(ib d:Nat)<=134217728/\ib f+ib d<=134217728/\ib 5+ib w'<=134217728/\((ib m:Nat):Int)+5*w'<=134217728/\ib (m*2^(5*w').toNat)+ib u<=134217728/\ ¬ u - 1=0/\0<=w'/\0<=5*w'/\EP L h w c w' u d m e (f - g.fmod (1*2^bN 2000))/\EP L h w c w' u d m e g:=by
 have p4:(1:Int)*2^bN 4200=2^4200:=by rw[gq];rfl
 have p43:(1:Int)*2^bN 4300=2^4300:=by rw[gq];rfl
 have p20:(1:Int)*2^bN 2000=2^2000:=by rw[gq];rfl
 refine cy (Uu (nV c<|by decide)<|nU c<|by decide) λW eW W1 W2=>?_;have eW:=hw'.symm.trans eW;have tW:w'.toNat=W:=eW▸rfl;have t5:(5*w').toNat=5*W:=eW▸rfl;have P42:(0:Int)<2^4200:=by decide
 have u0:2^4200<=u/\u<2^4201:=Wo (p4▸hu) (nV (c.fdiv 7) P42)<|nU (c.fdiv 7) P42;have up:0<u:=pJ P42 u0.1;have up1:0<u - 1:=Int.sub_pos_of_lt (pJ (by decide) u0.1);obtain ⟨B,hB⟩: ∃B:Int,2^W=B:=⟨_,rfl⟩;have big:(65536:Int)<=B:=hB▸Bw (m:=16) W1;have hd2:d=(B - 1)*(B - 1)*(B - 1)*u:=by rw[<-hd,tW,gq,hB,KZ]
 have b1:0<B - 1:=(bE big)
 have d0:0<d:=hd2▸lR (lR (lR b1 b1) b1) up;have zB:Sz 315 (B - 1):=pZ (by exact (bE big)) (by have:B<=2^315:=hB▸Bw W2;exact (bE this));have zu:Sz 4201 u:=pZ (bw up) u0.2;have zB3:=iD (iD zB zB) zB;have zd:Sz 5146 d:=hd2▸iD zB3 zu;have dn:=qD zd;have dbig:4200<=ib d:=ZF<|kC u0.1<|hd2▸Ur up (lR (lR b1 b1) b1);have zf:Sz 5148 f:=by rw[<-hf,gq,lP];exact et (zM (AO<|ib d)<|et NG<|by exact (by simp+arith)) (by exact (aQ dn))
 have zg:Sz 4300 g:=by rw[p43] at hg;exact pZ (hg▸nV _ (by decide)) (hg▸nU _ (by decide))
 have zg2:Sz 2000 (g.fmod<|1*2^bN 2000):=by rw[p20];exact pZ (nV _<|by decide) (nU _<|by decide)
 have e0:0<=e/\e<u - 1:=⟨he▸nV _ up1,he▸nU _ up1⟩;have ze:Sz 4201 e:=pZ e0.1 (by exact (bG u0.2 e0.2));obtain ⟨m,hm⟩: ∃m,undig W [w,h - 3,1]=m:=⟨_,rfl⟩;have m3:(aU<|L+2).F 6 [.list [.int w,.int<|h - 3,.int 1],.int W] (.int m):=hm▸Be (L+1) (ds:=[w,h - 3,1]) (by show 3<=L+1;exact (aQ hL)) (by show 3<=256;decide) (by exact (aQ W1)) (by show W*3<=_;exact (aQ<|gC 3 W2)) (hB▸ZU hh hw big)
 have m4:m=w+(h - 3)*B+B*B:=by
  rw[<-hm];simp only[oE,vh,hB]
  grind
 have zBB:Sz 316 B:=hB▸et (AO W) (Hv W2);have z8: ∀{x:Int},0<=x/\x<=100->Sz 8 x:=λq=>pZ q.1 (o5 q.2<|by decide);have zm:Sz 634 m:=m4▸lU (et (lU (et (z8 hw) (by decide:8<=324))<|iD (z8 ⟨Il hh.1,by exact (bE hh.2)⟩) zBB)<|by decide) (et (iD zBB zBB)<|by decide);have z5:Sz 1576 ((2:Int)^(5*W)):=et (AO _) (by exact (aQ<|gC 5 W2))
 have dk: ∀far:Int,Sz 5149 far->ib far+ib d<=134217728/\ ∀X,X=m*2^(5*w').toNat*u+far*d+1+e-> ∃w2 w3 q r w4:Int,(∀R,cC R (.d<|.list [.int 1,.int (-1),.int (-1),.int 1]) ((c.fdiv 13).fmod 4)<|.int w2)/\ib X+ib w2<=134217728/\(∀R,cC R (.d<|.list [.int 1,.int (-1),.int 1,.int (-1)]) ((c.fdiv 13).fmod 4)<|.int w3)/\ib d+ib w3<=134217728/\(aU<|L+2).F 28 [.int<|X*w2,.int<|d*w3] (.list [.int q,.int r])/\0<=r/\(∀R,cC R (.d<|.list [.int q,.int q,.int (-1 - q),.int (-1 - q)]) ((c.fdiv 13).fmod 4)<|.int w4)/\w4 - far=iT (h - 3) w B:=λfar zfar=>by
  refine ⟨lK zfar zd (by decide),λX hX=>?_⟩;rw[t5] at hX;have zX:Sz 10300 X:=by rw[hX];exact et (lU (lU (lU (et (iD (iD zm z5) zu) (by decide:634+1576+4201<=10295))<|iD zfar zd)<|et NG<|by decide)<|et ze<|by decide) (by decide)
  have core:=Zz (a:=h - 3) (b:=w) (B:=B) (U:=u) (far:=far) (e:=1+e) (N:=X) (D:=d) (by exact big) ⟨by exact (bE hh.1),by exact (bE hh.2)⟩ hw up (by exact (bE e0.1)) (by exact (bE e0.2)) hd2 (by rw[hX,m4,Zq,hB];grind);have pm: ∀s:Int,s=1\/s= -1->Sz 1 s:=λs q=>by rcases q with q|q<;>subst q<;>(unfold Sz;decide)
  have go: ∀w2 w3:Int,(w2=1\/w2= -1)->(w3=1\/w3= -1)->ib X+ib w2<=134217728/\ib d+ib w3<=134217728/\(aU<|L+2).F 28 [.int<|X*w2,.int<|d*w3] (.list [.int<|(X*w2).fdiv<|d*w3,.int (((X*w2).fmod<|d*w3).natAbs:Nat)]):=λw2 w3 h2 h3=>by
   have ed:ib (d*w3)=ib d:=by
    rcases h3 with q|q<;>subst q
    ·rw[uc]
    ·exact ji (BX<|by exact (oM<|bG (iR<|jR ((bE d0):0<=d))<|iL<|xH ((bE d0):d* -1<=0))) (BX<|by exact (oM<|bG (iR<|xH ((bE d0):d* -1<=0))<|iL<|jR ((bE d0):0<=d)))
   have ex:ib (X*w2)<=10300:=qD (by rcases h2 with q|q<;>subst q;rw[Int.mul_one];exact zX;rw[Int.mul_neg_one];exact NC zX);exact ⟨lK zX (pm w2 h2) (by decide),lK zd (pm w3 h3) (by decide),LI L (by exact (aQ hL)) (Int.mul_ne_zero (Int.ne_of_gt d0) (by rcases h3 with q|q<;>subst q<;>decide)) (by rw[ed];exact (aQ dn)) (by rw[ed];exact Nat.le_trans ex<|Nat.le_trans (by decide)<|Nat.mul_le_mul_left 100 dbig)⟩
  refine aS (kW (c.fdiv 13) (n:=4)<|by decide) λz hz ez=>?_;have l4:(4:Int)<2^63:=by decide
  rcases (XB z hz) with q|q|q|q<;>subst q
  ·have:=go 1 1 (.inl rfl) (.inl rfl)
   exact ⟨1,1,_,_,far+iT (h - 3) w B,λR=>dE rfl ez l4,this.1,λR=>dE rfl ez l4,this.2.1,this.2.2,dP _,λR=>dE (by rw[uc,uc,core.2.1];rfl) ez l4,CW _ _⟩
  ·have:=go (-1) (-1) (.inr rfl) (.inr rfl)
   exact ⟨-1, -1,_,_,far+iT (h - 3) w B,λR=>dE rfl ez l4,this.1,λR=>dE rfl ez l4,this.2.1,this.2.2,dP _,λR=>dE (by rw[Im,Im,core.2.2.1];rfl) ez l4,CW _ _⟩
  ·have:=go (-1) 1 (.inr rfl) (.inl rfl)
   exact ⟨-1,1,_,_,far+iT (h - 3) w B,λR=>dE rfl ez l4,this.1,λR=>dE rfl ez l4,this.2.1,this.2.2,dP _,λR=>dE (by rw[Im,uc,core.2.2.2.1,NV];rfl) ez l4,CW _ _⟩
  ·have:=go 1 (-1) (.inl rfl) (.inr rfl)
   exact ⟨1, -1,_,_,far+iT (h - 3) w B,λR=>dE rfl ez l4,this.1,λR=>dE rfl ez l4,this.2.1,this.2.2,dP _,λR=>dE (by rw[uc,Im,core.2.2.2.2,NV];rfl) ez l4,CW _ _⟩
 have zx:Sz 315 (1*2^w'.toNat - 1):=by rw[tW,gq,hB];exact zB
 have zx3:Sz 945 ((1*2^w'.toNat - 1)^bN 3):=by rw[KZ];exact iD (iD zx zx) zx
 have ex:(2:Int)^W - 1=1*2^w'.toNat - 1:=by rw[tW,gq]
 have zw:Sz 10 w':=eW▸ig W2 (by decide);have z55:Sz 3 5:=by unfold Sz;decide
 have zp:Sz 1576 ((2:Int)^(5*w').toNat):=t5▸z5;obtain ⟨x,y,f1,f2,f3,f4⟩:=XO (L+1) W1 W2 (by exact (aQ hL));rw[ex] at f3 f4;have f5:=λfar w4 (q:w4 - far=iT (h - 3) w B)=>QCb (L+1) W1 W2 hh hw (by exact (aQ hL));rw[hB] at f5;rw[<-eW] at f1 f2 f3 f4 m3 f5;have i8:=Lf (L+1) (by exact (aQ hL)) (a:=f*d) (gE d0) (by exact (aQ dn)) (az (qD<|iD zf zd)<|az (by decide)<|gC 100 dbig);rw[Int.mul_fdiv_cancel _<|gE d0,Int.mul_fmod_left] at i8;have i1:ib 1=1:=rfl;have zfr:Sz 5149 (f - g.fmod (1*2^bN 2000)):=zM zf (et zg2<|by decide);have zmi:=qD zm;have zxi:=qD zx;have q9:((ib 1:Nat):Int)+w'<=134217728:=by rw[i1];exact (bG (iL eW)<|oL W2)
 have q11:((ib (1*2^w'.toNat - 1):Nat):Int)*3<=134217728:=(bE<|mI 3<|oL zxi)
 have q12:=lK zx3 zu (by decide);have q15:((ib 1:Nat):Int)+(ib d:Nat)<=134217728:=by rw[i1];exact (bE<|oL dn)
 have q19:=lK zf zd (by decide);have q41:=lK z55 zw (by decide);have q43:((ib m:Nat):Int)+5*w'<=134217728:=by omega
 have q44:=lK (iD zm zp) zu (by decide);have q48: ¬ u - 1=0:=gE up1;have w0:0<=w':=(bG (iR eW)<|oL W1)
 have w5:0<=5*w':=(bG (mI 5<|iR eW)<|mI 5<|oL W1)
 have bG: ∀far:Int,Sz 5149 far->EP L h w c w' u d m e far:=λfar zfar=>⟨(dk far zfar).1,λX hX=>by
  obtain ⟨w2,w3,q,r,w4,a1,a2,a3,a4,a5,a6,a7,a8⟩:=(dk far zfar).2 X hX
  exact ⟨w2,w3,q,r,w4,a1,a2,a3,a4,a5,a6,a7,a8▸f5 far w4 a8⟩⟩
 exact ⟨x,y,m,f1,f2,f3,f4,m3,i8,q9,q11,q12,q15,q19,q41,q43,q44,q48,w0,w5,bG _ zfr,bG _<|et zg<|by decide⟩
noncomputable def MI (c:Int):Int:=16+c.fmod 300
noncomputable def Ds (c:Int):Int:=1*2^bN 4200+(c.fdiv 7).fmod (1*2^bN 4200)
noncomputable def NM (c:Int):Int:=(1*2^(MI c).toNat - 1)^bN 3*Ds c
noncomputable def Vw (c:Int):Int:=1*2^bN (ib (NM c):Int) - 1
noncomputable def muQ (c:Int):Int:=(c.fdiv 5).fmod<|1*2^bN 4300
noncomputable def Ze (c:Int):Int:=(c.fdiv 11).fmod<|Ds c - 1
theorem WD (L:Nat) (hL:320<=L) {h w:Int} (hh:3<=h/\h<=100) (hw:0<=w/\w<=100) (c:Int):(aU<|L+3).F 33 [.int h,.int w,.int c] (.list<|dI<|j9 h w):=by
 have p4:(1:Int)*2^bN 4200=2^4200:=by rw[gq];rfl
 have p43:(1:Int)*2^bN 4300=2^4300:=by rw[gq];rfl
 have p20:(1:Int)*2^bN 2000=2^2000:=by rw[gq];rfl
 obtain ⟨x,y,m,f1,f2,f3,f4,m3,i8,q9,q11,q12,q15,q19,q41,q43,q44,q48,w0,w5,G1,G2⟩:=TH L hL hh hw c (MI c) (Ds c) (NM c) (Vw c) (muQ c) (Ze c) rfl rfl rfl rfl rfl rfl;have ps: ∀(a:Int) R,fe R .Mult (.d<|.list [.int a]) (.d<|.int 3)<|.list<|dI [a,a,a]:=λa R=>.mul (n:=3) .d (by show 1*3<=256;decide) (by decide) (by decide);induction par:((c.fdiv 2).fmod 2==0) with
 |true=>obtain ⟨q45,G⟩:=G1;obtain ⟨w2,w3,q,r,w4,a1,a2,a3,a4,a5,a6,a7,a8⟩:=G _ rfl;exact di (q8 HM 3 [3,4,5,6,7,8,9,10,11,12] [hi _,.d<|.list _,.d<|.tuple _,.b aE,.b aE,.ds _,.b aE,.b aE,.b aE,.b aB,hi m,hi w2,hi w3,.d<|.list [.int q,.int r],.b aE,hi w4,.d<|.list<|dI<|j9 h w] (aU<|L+2) [.int h,.int w,.int c] _ rfl ff (by decide) (by decide) ff (nl rfl) (by decide) (by decide) (df (by rw[p4];decide)) w0 q9 tt q11 q12 .bits (dP _) q15 w0 q9 (ps _ _) q19 i8 KN rfl (by show 2<=16777216;decide) (λK k=>Iz f1 f2 f3 f4 K k) (.lst .d .d (Br [] _) (Br [] _)<|.nh rfl) rfl rfl ff (nl rfl) (by decide) (by decide) (df (by rw[p43];decide)) ff (nl rfl) ff par (by decide) (by decide) (df (by rw[p20];decide)) m3 q41 w5 q43 q44 q45 ff (nl rfl) (df q48) ff (nl rfl) ff (a1 _) a2 (a3 _) a4 a5 (df<|jK.mpr a6) (a7 _) a8 .ret) rfl
 |false=>obtain ⟨q45,G⟩:=G2;obtain ⟨w2,w3,q,r,w4,a1,a2,a3,a4,a5,a6,a7,a8⟩:=G _ rfl;exact di (q8 HM 3 [3,4,5,6,7,8,9,10,11,12] [hi _,.d<|.list _,.d<|.tuple _,.b aE,.b aE,.ds _,.b aE,.b aE,.b aE,.b aE,hi m,hi w2,hi w3,.d<|.list [.int q,.int r],.b aE,hi w4,.d<|.list<|dI<|j9 h w] (aU<|L+2) [.int h,.int w,.int c] _ rfl ff (by decide) (by decide) ff (nl rfl) (by decide) (by decide) (df (by rw[p4];decide)) w0 q9 tt q11 q12 .bits (dP _) q15 w0 q9 (ps _ _) q19 i8 KN rfl (by show 2<=16777216;decide) (λK k=>Iz f1 f2 f3 f4 K k) (.lst .d .d (Br [] _) (Br [] _)<|.nh rfl) rfl rfl ff (nl rfl) (by decide) (by decide) (df (by rw[p43];decide)) ff (nl rfl) ff par m3 q41 w5 q43 q44 q45 ff (nl rfl) (df q48) ff (nl rfl) ff (a1 _) a2 (a3 _) a4 a5 (df<|jK.mpr a6) (a7 _) a8 .ret) rfl
end B01
namespace B01
noncomputable def eQ (t:cB):List Int:=(bg 8).map λj=>((bg 4).countP λx=>(fu t x).contains j:Nat)
noncomputable def cD (a b:Int×Int):Int×Int:=(b.1 - a.1,b.2 - a.2)
noncomputable def zI (t:cB):Int:=((cD (p0 t)<|p1 t).1*(cD (p1 t)<|p2 t).2 - (cD (p0 t)<|p1 t).2*(cD (p1 t)<|p2 t).1).natAbs
noncomputable def ft (p:Int×Int):Int:=(AG p.1.natAbs p.2.natAbs:Nat)
noncomputable def vS (t:cB):Int:=ft (cD (p2 t)<|p0 t)+ft (cD (p0 t)<|p1 t)+ft (cD (p1 t)<|p2 t)
noncomputable def An (t:cB):List Int:=[4,3,2,1,0].map λk=>(zI t*k*k+vS t*k+2).fdiv 2
noncomputable def tv (t:cB):Int:=((eQ t).take 5).sum
noncomputable def qh (t:cB):Int:=((eQ t).drop 5).sum
noncomputable def Nw (t:cB) (k:Nat):Bool:= !iP (tK t) k||(!(dO (cU (p0 t) (p1 t)<|p2 t) k).isEmpty && Nat.blt k 4)
noncomputable def AM (t:cB):Bool:=(bg 5).all (Nw t) && ((CK t==eQ t) && ((decide (3<=tv t) && decide (tv t<=100)) && ((decide (0<=qh t) && decide (qh t<=100)) && (j9 (tv t) (qh t)==An t))))
noncomputable def O3 (y0 x1 y1 x2 y2:Nat):Bool:=pQ x1 y1 x2 y2 y0||AM ⟨y0,x1,y1,x2,y2⟩
theorem YQ:([0,1,2,3].all λy0=>[1,2,3].all λx1=>[0,1,2,3].all λy1=>[0,1,2,3].all λx2=>[0,1,2,3,4].all λy2=>O3 y0 x1 y1 x2 y2)=true:=by decide+kernel
end B01
section
open PySem.StrLaws
namespace B01
theorem Yv (L:Nat) {k l v:Nat} {x y:aG} (b:gL.contains (k:Int)=aE) (m:kv k=x) (b2:gL.contains (l:Int)=aE) (m2:kv l=y) (hv:v<27) (j:nS ⟨#[]⟩ [x,y]):(aU<|L+2).F 17 [.str ⟨#[k,l,cm v]⟩] (.str<|DC ⟨#[]⟩ [x,y]):=by
 have t:(m6 ⟨#[k,l,cm v]⟩).filterMap rI=[x,y].map .str:=by show QFz rI [md k,md l,md<|cm v]=_;rw[nN,BO b m,nN,BO b2 m2,nN,DU (rS v hv).1];rfl
 exact Ll L (bJ rfl) t j
noncomputable def nmL:List (List Nat):=[[102],[105],[108],[115],[116],[102,102],[102,105],[115,116]]
noncomputable def yS (k:Nat):Str:=⟨(nmL.getD k []).toArray⟩
noncomputable def Fz:List Dat:=[.str ⟨#[102]⟩,.str ⟨#[105]⟩,.str ⟨#[108]⟩,.str ⟨#[115]⟩,.str ⟨#[116]⟩,.str ⟨#[102,102]⟩,.str ⟨#[102,105]⟩,.str ⟨#[115,116]⟩]
noncomputable def Fj:List Dat:=[.str ⟨#[10]⟩,.str ⟨#[13]⟩,.str ⟨#[13,10]⟩]
noncomputable def eR (C:aK) (c:Int) (s4 s5 s6 s7 s8 s9 s10 s11 s12:Sl):Ls:=[(2,.val<|.list Fz),(3,.val<|.list Fj),(4,s4),(5,s5),(6,s6),(7,s7),(8,s8),(9,s9),(10,s10),(11,s11),(12,s12),(0,.val C),(1,.val<|.int c)]
theorem OG: ∀k,k<8->Fz[k]?=aA (.str<|yS k)
 |0,_|1,_|2,_|3,_|4,_|5,_|6,_|7,_=>rfl
 |n+8,h=>QGv h λK=>kn K
structure FZ (k:Nat) (B:List Nat):Prop where
 ne:B≠[]
 len:B.length<=4
 big: ∀c∈B,46<c
 pre: ∀L,(aU<|L+2).F 17 [.str ⟨B.toArray⟩]<|.str<|yS k
theorem QAo:gL.contains ((64256:Nat):Int)=aE/\gL.contains ((64257:Nat):Int)=aE/\gL.contains ((64262:Nat):Int)=aE/\kv 64256=⟨#[102,102]⟩/\kv 64257=⟨#[102,105]⟩/\kv 64262=⟨#[115,116]⟩:=by decide+kernel
theorem yf (L:Nat) {C:aK} {c t:Int} {a w:Nat} {s4 s6 s7:Sl} (ha:a∈tS) (ew:(c.fdiv 8+t).fmod 12=w) (hw:w<12):CE (Q1 13 [cS,.aH .Add (.aH .FloorDiv oD<|.int 8) GK]).w eF [] (aU<|L+1) (gJ<|eR C c s4 (.val<|.int t) s6 s7 .unb .unb .unb .unb .unb) (.str ⟨#[a]⟩) (aA<|.str ⟨#[dV a w]⟩):=λR K h=>fM (.call 13 [cS,.aH .Add (.aH .FloorDiv oD<|.int 8) GK]) eF [] (aU<|L+1) [.b aB,ht ⟨#[dV a w]⟩] (gJ<|eR C c s4 (.val<|.int t) s6 s7 .unb .unb .unb .unb .unb) (.str ⟨#[a]⟩) R K rfl tt ff (nl rfl) (HU L (FI _ ha).1 (FI _ ha).2 ew hw) rfl h
theorem jn1 (a:Nat):nS ⟨#[]⟩ [(⟨#[a]⟩:aG)]:=HS (by show 1<=1000;decide) (by decide)
theorem Ep (a b:Nat):nS ⟨#[]⟩ [(⟨#[a]⟩:aG),⟨#[b]⟩]:=by delta nS QFn;rfl
noncomputable abbrev Dz (L:Nat) (C:aK) (c:Int) (t k:Nat):Prop:= ∃B,FZ k B/\ ∃y:aG,∀rs s5 s6 s7 xs K,rs.length<=100->
 fW (.one 5) (vV.map SW.w) (aU<|L+1) xs (eR C c (.own<|rs++[.str ⟨(46::B).toArray⟩]) (.val<|.int t) (.val<|.int k) (.val<|.str y) .unb .unb .unb .unb .unb) K->
 fW (.one 5) (vV.map SW.w) (aU<|L+1) (.int t::xs) (eR C c (.own rs) s5 s6 s7 .unb .unb .unb .unb .unb) K
theorem Rj (L:Nat) (C:aK) (c:Int) (t k:Nat) (ht8:t<8) (ek:(c+t).fmod 8=k) (hk:k<8):Dz L C c t k:=by
 refine aS (kW (c.fdiv 8+t) (n:=12)<|by decide) λw hw ew=>?_;refine aS (kW (c.fdiv 8+5*t) (n:=27)<|by decide) λv hv ev=>?_;have hh:=Ae L ev hv;have i5:ib (5:Int)+ib (t:Int)<=134217728:=x4 (by decide) (sC ht8<|by decide);have nk: ∀r,cC r (.d<|.list Fz) ((c+t).fmod 8)<|.str<|yS k:=λr=>dE (OG k hk) ek (by decide)
 have one: ∀a,a∈tS->yS k=⟨#[a]⟩->k<=4->Dz L C c t k:=λa ha e h4=>by
  refine eJ (AI a ha w hw) λf1 f2 f3=>?_;have hb:=(rS v hv).2;refine ⟨[dV a w,cm v],⟨nofun,bJ rfl,λd m=>?_,λL=>?_⟩,⟨#[dV a w]⟩,λrs s5 s6 s7 xs K hr h=>?_⟩
  ·rcases bp.mp m with rfl|m
   ·exact (aQ f3)
   ·rw[IU.mp m];exact (aQ hb)
  ·rw[e];exact Gs L f1 f2 (by show 1<=1000;decide) hv
  ·rw[e] at nk
   rw[<-ek] at h;exact fY (.one 5) vV _ [ht _,.ds [.str ⟨#[dV a w]⟩],ht ⟨#[dV a w]⟩,.b aB,.b aE,ht ⟨#[46,dV a w]⟩,ht ⟨#[cm v]⟩,ht ⟨#[46,dV a w,cm v]⟩] (.int t) xs (eR C c (.own rs) s5 s6 s7 .unb .unb .unb .unb .unb) K ff (nk _) (bJ rfl) (λK h=>yf L ha ew hw [] K h) (.join .d<|jn1 _) (df<|jK.mpr<|by exact (bG (iL ek)<|oL h4)) rfl (nu rfl rfl) ff (nl rfl) i5 hh (nu rfl rfl) (by exact (aQ hr)) h
 have two: ∀(a b u:Nat),a∈tS->b∈tS->yS k=⟨#[a,b]⟩->4<k->gL.contains (u:Int)=aE->kv u=⟨#[a,b]⟩->46<u->u<=1114111->(∀r,cC r (.d<|.list [.int 64256,.int 64257,.int 64262]) ((c+t).fmod 8 - 5)<|.int u)->Dz L C c t k:=λa b u ha hb' e h4 u1 u2 u3 u4 ui=>by
  refine eJ (AI a ha w hw) λf1 f2 f3=>?_;refine eJ (AI b hb' w hw) λg1 g2 g3=>?_;have hb:=(rS v hv).2;rw[e] at nk;induction par:((c.fdiv 96+t).fmod 2==0) with
  |false=>
   refine ⟨[dV a w,dV b w,cm v],⟨nofun,bJ rfl,λd m=>?_,λL=>?_⟩,⟨#[dV a w,dV b w]⟩,λrs s5 s6 s7 xs K hr h=>?_⟩
   ·simp only[bp,gU,or_false] at m
    rcases m with rfl|rfl|rfl
    ·exact (aQ f3)
    ·exact (aQ g3)
    ·exact (aQ hb)
   ·rw[e];exact Yv L f1 f2 g1 g2 hv<|Ep _ _
   ·rw[<-ek] at h
    exact fY (.one 5) vV _ [ht _,.ds [.str ⟨#[dV a w]⟩,.str ⟨#[dV b w]⟩],ht ⟨#[dV a w,dV b w]⟩,.b aE,.b aB,.b aE,ht ⟨#[46,dV a w,dV b w]⟩,ht ⟨#[cm v]⟩,ht ⟨#[46,dV a w,dV b w,cm v]⟩] (.int t) xs (eR C c (.own rs) s5 s6 s7 .unb .unb .unb .unb .unb) K ff (nk _) (bJ rfl) (λK h=>yf L ha ew hw [.str ⟨#[b]⟩] K<|yf L hb' ew hw [] _ h) (.join .d<|Ep _ _) (dt<|by exact (bG (iR ek)<|oL h4)) ff (nl rfl) ff par rfl (nu rfl rfl) ff (nl rfl) i5 hh (nu rfl rfl) (by exact (aQ hr)) h
  |true=>
   refine ⟨[u,cm v],⟨nofun,bJ rfl,λd m=>?_,λL=>?_⟩,⟨#[u]⟩,λrs s5 s6 s7 xs K hr h=>?_⟩
   ·simp only[bp,gU,or_false] at m
    rcases m with rfl|rfl
    ·exact u3
    ·exact (aQ hb)
   ·rw[e];exact Gs L u1 u2 (by show 2<=1000;decide) hv
   ·rw[<-ek] at h
    exact fY (.one 5) vV _ [ht _,.ds [.str ⟨#[dV a w]⟩,.str ⟨#[dV b w]⟩],ht ⟨#[dV a w,dV b w]⟩,.b aE,.b aE,.b aB,hi u,ht ⟨#[u]⟩,ht ⟨#[46,u]⟩,ht ⟨#[cm v]⟩,ht ⟨#[46,u,cm v]⟩] (.int t) xs (eR C c (.own rs) s5 s6 s7 .unb .unb .unb .unb .unb) K ff (nk _) (bJ rfl) (λK h=>yf L ha ew hw [.str ⟨#[b]⟩] K<|yf L hb' ew hw [] _ h) (.join .d<|Ep _ _) (dt<|by exact (bG (iR ek)<|oL h4)) ff (nl rfl) ff par rfl (ui _) (xj rfl u4) (nu rfl rfl) ff (nl rfl) i5 hh (nu rfl rfl) (by exact (aQ hr)) h
 have lf:=QAo;rcases (Kr k hk) with rfl|rfl|rfl|rfl|rfl|rfl|rfl|rfl
 ·exact one 102 (by decide) rfl (by decide)
 ·exact one 105 (by decide) rfl (by decide)
 ·exact one 108 (by decide) rfl (by decide)
 ·exact one 115 (by decide) rfl (by decide)
 ·exact one 116 (by decide) rfl (by decide)
 ·exact two 102 102 64256 (by decide) (by decide) rfl (by decide) lf.1 lf.2.2.2.1 (by decide) (by decide) λr=>dE (w:=0) rfl (by exact (vf ek)) (by decide)
 ·exact two 102 105 64257 (by decide) (by decide) rfl (by decide) lf.2.1 lf.2.2.2.2.1 (by decide) (by decide) λr=>dE (w:=1) rfl (by exact (vf ek)) (by decide)
 ·exact two 115 116 64262 (by decide) (by decide) rfl (by decide) lf.2.2.1 lf.2.2.2.2.2 (by decide) (by decide) λr=>dE (w:=2) rfl (by exact (vf ek)) (by decide)
end B01
end
section
open PySem.StrLaws PySem.Builtin.Str
noncomputable def jF (e:Nat):List Nat:=match e with|0=>[10]|1=>[13]|_=>[13,10]
theorem QAR (r:List Nat) (h:e≠1\/r.head?≠aA 10):e2 (jF e++r)=13::10::e2 r:=by
 rcases e with O|O|O
 ·exact LB r
 ·exact Iw<|h.resolve_left λq=>q rfl
 ·exact PM r
theorem Xq (b:Bool) (core r:List Nat):e1 b (core++13::10::r)=e1 b core++13::10::e1 aB r:=by
 simp only[Yn];generalize yu b core=c;have:e1 c (13::10::r)=13::10::e1 aB r:=by simp[nE]
 exact sb this rfl
theorem vL (e:Nat):(jF e).length<=2:=by rcases e with O|O|O<;>exact Nat.le_of_ble_eq_true rfl
noncomputable def jz:List (List Nat×Nat)->List Nat->List Nat
 |[],l=>l
 |p::s,l=>p.1++(jF p.2++jz s l)
noncomputable def jn (f:List Nat->List Nat):List (List Nat×Nat)->List Nat->List Nat
 |[],l=>f l
 |p::s,l=>f p.1++13::10::jn f s l
noncomputable def xi:List (List Nat×Nat)->List Nat->Prop
 |[],l=> ∀c∈l,c≠13/\c≠10
 |p::s,l=>(∀c∈p.1,c≠13/\c≠10)/\(p.2≠1\/(jz s l).head?≠aA 10)/\xi s l
theorem Gw (l:List Nat): ∀s,xi s l->e2 (jz s l)=jn id s l
 |[],h=>by have:=B8 l [] h;rw[eY] at this;exact this.trans (eY l)
 |p::s,h=>by show e2 (p.1++(jF p.2++jz s l))=_;rw[B8 _ _ h.1,QAR _ h.2.1,Gw l s h.2.2];rfl
theorem JG (l:List Nat): ∀s,e1 aB (jn id s l)=jn (e1 aB) s l
 |[]=>rfl
 |p::s=>by show e1 aB (p.1++13::10::jn id s l)=_;rw[Xq,JG l s];rfl
theorem LD (f:List Nat->List Nat) (l:List Nat): ∀s p,jn f (p::s) l=rowsOf [13,10] (f p.1) (s.map (λq=>f q.1)++[f l])
 |[],p=>rfl
 |q::s,p=>by show f p.1++13::10::jn f (q::s) l=_;rw[LD f l s q];rfl
theorem QCT {x:aG} {s:List (List Nat×Nat)} {p q:List Nat×Nat} {l:List Nat} (hx:x.cps.toList=jz (p::q::s) l) (h:xi (p::q::s) l) (h13: ∀r∈(p::q::s).map (λq=>e1 aB q.1)++[e1 aB l],13∉r):
 Txt.split (q1<|q2 x) ⟨#[13,10]⟩=((p::q::s).map (λq=>e1 aB q.1)++[e1 aB l]).map λr=>⟨r.toArray⟩:=
 YM (r:=e1 aB p.1) (r1:=e1 aB q.1) (rs:=s.map (λq=>e1 aB q.1)++[e1 aB l]) (by rw[JI,I5,hx,Gw l _ h,JG,LD];rfl) h13
noncomputable def br (n:Nat) (B:List Nat):List Nat:=dY (1+n) 46++B
theorem BI {n:Nat} {B:List Nat} (h: ∀c∈B,46<c):e1 aB (br n B)=br (n+1) B/\(∀v,46<v->e1 aB (v::br n B)=v::br n B)/\ ∀c∈br n B,c≠13/\c≠10:=by
 have a: ∀c∈br n B,c≠13/\c≠10:=by
  intro c m;rcases qk.mp m with m|m
  ·have:=(DO.mp m).2;exact ⟨(λw0=>(cY (nR this)<|nL w0)),(λw0=>(cY (nR this)<|nL w0))⟩
  ·have:=h c m;exact ⟨(λw0=>(cY this (nL w0))),(λw0=>(cY this (nL w0)))⟩
 refine ⟨?_,λv hv=>?_,a⟩
 ·have b: ∀c∈dY n 46++B,c≠10:=λc m=>by
   rcases qk.mp m with m|m
   ·have:=(DO.mp m).2;exact (λw0=>(cY (nR this)<|nL w0))
   ·have:=h c m;exact (λw0=>(cY this (nL w0)))
  unfold br;rw[uq 1 n,uq 1<|n+1,xG,xG,xG,sT,sT,sT,nE];show [46,46]++e1 aE _=_;rw[Jm _ b];rfl
 ·rw[nE]
  have c1:(v==46)=false:=by simp;exact (λw0=>(cY hv<|nL w0))
  have c2:(v==10)=false:=by simp;omega
  rw[c1,c2,Jm _ λc m=>(a c m).2];rfl
end
section
open PySem.StrLaws
theorem Nh {x y:aG} (e:iI x l h=y) (P:oO a l) (p:oO b h) (hl:x.length<=16777216):gH r (.d<|.str x) a b (.d .none) (.str y):=e▸ .str P p hl
theorem OX {bs:List Nat} {k:Nat}:cA (k:Int)∈bs.map (λ(n:Nat)=>cA n)↔bs.contains k=true:=by
 rw[Hi,ij];constructor
 ·rintro ⟨a,h,e⟩
  have:(a:Int)=k:=Dat.int.inj e;have:a=k:=(ji (oM<|bE<|iL this)<|oM<|bE<|iR this)
  exact this▸h
 ·intro h
  exact ⟨k,h,rfl⟩
theorem Dq {W:Int} {z:Nat} (Z:W.fmod 3=z) (t:Nat):(W+(t:Int)).fmod 3=(((z+t) % 3:Nat)):=by rw[my _<|by decide] at Z⊢;rw[<-DN,Z];rfl
namespace B01
theorem Ei: ∀k,k<3->Fj[k]?=aA (.str ⟨(jF k).toArray⟩)
 |0,_=>rfl
 |1,_=>rfl
 |2,_=>rfl
 |n+3,h=>QGv h λK=>kn K
noncomputable def BM (bs:List Nat) (k:Nat) (P:List Nat):Prop:=(bs.contains k=aB/\P=[])\/(bs.contains k=aE/\ ∃v,v<27/\P=[cm v])
theorem QCC (L:Nat) (C:aK) (c:Int) {x t k e:Nat} (ht8:t<8) (ek:(c+t).fmod 8=k) (ee:(c+x).fmod 3=e) (bs:List Nat): ∃P,BM bs k P/\ ∀rs (row T:List Nat) s5 s6 s7 xs K,rs[t]?=aA (.str ⟨row.toArray⟩)->row.length<=100->T.length<=10000->rs.length<100->
 fW (.one 5) (tB.map SW.w) (aU<|L+1) xs (eR C c (.val<|.list rs) (.val<|.int t) s6 s7 (.val<|.int x) (.val<|.list<|bs.map λ(n:Nat)=>cA n) (.val<|.str ⟨(T++(P++row++jF ((e+t) % 3))).toArray⟩) .unb .unb) K->
 fW (.one 5) (tB.map SW.w) (aU<|L+1) (.int t::xs) (eR C c (.val<|.list rs) s5 s6 s7 (.val<|.int x) (.val<|.list<|bs.map λ(n:Nat)=>cA n) (.val<|.str ⟨T.toArray⟩) .unb .unb) K:=by
 refine aS (kW (c.fdiv 27+x+7*t) (n:=27)<|by decide) λv hv ev=>?_;have i7:ib (7:Int)+ib (t:Int)<=134217728:=x4 (by decide) (sC ht8<|by decide);have en: ∀r,cC r (.d<|.list Fj) ((c+x+t).fmod 3)<|.str ⟨(jF<|(e+t) % 3).toArray⟩:=λr=>dE (Ei _<|dw _<|by decide) (Dq ee t) (by decide);have el:=vL<|(e+t) % 3;have b8:mj (bs.map λ(n:Nat)=>cA n):=kU<|F9 bs λn=>(n:Int);induction q:bs.contains k with
 |true=>refine ⟨[],.inl ⟨q,rfl⟩,λrs row T s5 s6 s7 xs K hr h1 h2 h3 h=>?_⟩;rw[sY,<-ik] at h;exact fY (.one 5) tB _ [.b aE,.b aE,ht _,ht ⟨(T++row).toArray⟩,ht _,ht ⟨(T++row++jF ((e+t) % 3)).toArray⟩] (.int t) xs (eR C c (.val<|.list rs) s5 s6 s7 (.val<|.int x) (.val<|.list<|bs.map λ(n:Nat)=>cA n) (.val<|.str ⟨T.toArray⟩) .unb .unb) K ff (by rw[ek];exact .inl .d b8 (uB _)<|.NP<|OX.mpr q) rfl (dE hr rfl (by exact (bE<|oL h3))) (rm<|by exact (bD h2 h1)) ff (en _) (rm (by rw[du];exact (bD (na h2 h1) el))) h
 |false=>refine ⟨[cm v],.inr ⟨q,v,hv,rfl⟩,λrs row T s5 s6 s7 xs K hr h1 h2 h3 h=>?_⟩;rw[<-ik,<-ik] at h;exact fY (.one 5) tB _ [.b aB,.b aB,ht ⟨[cm v].toArray⟩,ht ⟨(T++[cm v]).toArray⟩,ht _,ht ⟨(T++[cm v]++row).toArray⟩,ht _,ht ⟨(T++[cm v]++row++jF ((e+t) % 3)).toArray⟩] (.int t) xs (eR C c (.val<|.list rs) s5 s6 s7 (.val<|.int x) (.val<|.list<|bs.map λ(n:Nat)=>cA n) (.val<|.str ⟨T.toArray⟩) .unb .unb) K ff (by rw[ek];exact .inl .d b8 (uB _) (.Mx λm=>by rw[OX.mp m] at q;exact nomatch q)) rfl ff (nl rfl) i7 (Ae L ev hv) (rm (by show _+1<=_;exact (aQ h2))) (dE hr rfl (by exact (bE<|oL h3))) (rm (by rw[du];show _+1+_<=_;exact (bD h2 h1))) ff (en _) (rm (by rw[du,du];show _+1+_+_<=_;exact (bD (na h2 h1) el))) h
noncomputable def El:EW:=.ite (.eN aE aB<|.call 10 [.dM cS aF (aA<|.int 1) aF]) (.dM cS (aA<|.int 1) aF aF) cS
theorem Ou (a:Nat) (r:List Nat) (h:r.length<=1000):(∀R,gH R (.d<|.str ⟨(a::r).toArray⟩) (.d .none) (.d<|.int 1) (.d .none)<|.str ⟨#[a]⟩)/\ ∀R,gH R (.d<|.str ⟨(a::r).toArray⟩) (.d<|.int 1) (.d .none) (.d .none)<|.str ⟨r.toArray⟩:=by
 have l:(⟨(a::r).toArray⟩:aG).length=r.length+1:=by show (a::r).toArray.size=_;simp
 exact ⟨λR=>Nh ((NB (x:=⟨(a::r).toArray⟩) (b:=1)<|by exact (aQ<|nR l)).trans rfl) .none .int (by exact (bD (nL l) h)),λR=>Nh ((Nf (x:=⟨(a::r).toArray⟩) (a:=1)<|by exact (aQ<|nR l)).trans rfl) .int .none<|by exact (bD (nL l) h)⟩
theorem QCU (L:Nat) {C:aK} {c:Int} {s4 s5 s6 s7 s8 s9 s10:Sl} {n k:Nat} {bs B P:List Nat} (hP:BM bs k P) (hB: ∀c∈B,46<c) (hl:B.length<=4) (hn:n<=100):CE El.w eF [] (aU<|L+1) (gJ<|eR C c s4 s5 s6 s7 s8 s9 s10 .unb .unb) (.str ⟨(e1 aB<|P++br n B).toArray⟩) (aA<|.str ⟨(br (n+if bs.contains k then 1 else 0) B).toArray⟩):=λR K h=>by
 have E:=BI (n:=n) hB;have dl: ∀m,m<=101->(br m B).length<=200:=λm hm=>by unfold br;rw[du,AD];exact (bD hm hl)
 rcases hP with ⟨q,e⟩|⟨q,v,hv,e⟩
 ·rw[e,sY,E.1]
  rw[q] at h;have d:br (n+1) B=46::br n B:=by unfold br;rw[<-wO,uq (1+n) 1,uq 1<|1+n,xG];rfl
  have s:=Ou 46 (br n B) (az (dl n<|by exact (aQ hn))<|by decide);rw[<-d] at s;have y:=AP L 46;rw[show gL.contains ((46:Nat):Int)=aE by decide+kernel] at y;exact fM El eF [] (aU<|L+1) [.b aB,ht ⟨#[46]⟩,.d<|.bool aE,.b aE,ht ⟨(br (n+1) B).toArray⟩] (gJ<|eR C c s4 s5 s6 s7 s8 s9 s10 .unb .unb) (.str ⟨(br (n+1) B).toArray⟩) R K rfl tt (s.1 _) y rfl rfl h
 ·rw[e]
  rw[q] at h;rw[show [cm v]++br n B=cm v::br n B from rfl,E.2.1 _ (by have:=(rS v hv).2;exact (aQ this))];have s:=Ou (cm v) (br n B) (az (dl n<|by exact (aQ hn))<|by decide);have y:=AP L<|cm v;rw[(rS v hv).1] at y;exact fM El eF [] (aU<|L+1) [.b aB,ht ⟨#[cm v]⟩,.d<|.bool aB,.b aB,ht ⟨(br n B).toArray⟩] (gJ<|eR C c s4 s5 s6 s7 s8 s9 s10 .unb .unb) (.str ⟨(cm v::br n B).toArray⟩) R K rfl tt (s.1 _) y rfl (s.2 _) rfl h
end B01
end
section
open PySem.StrLaws
theorem MM {P:Nat->List Nat->Prop} (T: ∀t,t<8-> ∃b,P t b): ∃f:Nat->List Nat,∀t,t<8->P t (f t):=⟨λt=>if h:t<8 then QGB (T t h) else [],λt h=>by dsimp only;rw[dif_pos h];exact QGC<|T t h⟩
namespace B01
noncomputable def lF (n:Nat->Nat) (B:Nat->List Nat) (st x:Nat):List Dat:=[.str ⟨(br (n 0)<|B 0).toArray⟩,.str ⟨(br (n 1)<|B 1).toArray⟩,.str ⟨(br (n 2)<|B 2).toArray⟩,.str ⟨(br (n 3)<|B 3).toArray⟩,.str ⟨(br (n 4)<|B 4).toArray⟩,.str ⟨(br (n 5)<|B 5).toArray⟩,.str ⟨(br (n 6)<|B 6).toArray⟩,.str ⟨(br (n 7)<|B 7).toArray⟩,.str ⟨#[st,46,32]⟩,.str ⟨#[]⟩,.str ⟨(dY (1+x) 46).toArray⟩]
theorem J9 {n:Nat->Nat} {B:Nat->List Nat} {st x:Nat}: ∀t,t<8->(lF n B st x)[t]?=aA (.str ⟨(br (n t)<|B t).toArray⟩)
 |0,_|1,_|2,_|3,_|4,_|5,_|6,_|7,_=>rfl
 |n+8,h=>QGv h λK=>kn K
theorem QAp {bs P z:List Nat} {k n:Nat} {B:List Nat} (h:BM bs k P):((P++br n B)++z).head?≠aA 10:=by
 rcases h with ⟨-,e⟩|⟨-,v,hv,e⟩
 ·rw[e]
  unfold br;rw[uq 1 n,xG];simp
 ·rw[e]
  have:=(rS v hv).2;simp;exact (λw0=>(cY this (nL w0)))
theorem T4 {bs P:List Nat} {k n:Nat} {B:List Nat} (h:BM bs k P) (hB: ∀c∈B,46<c):(∀c∈P++br n B,c≠13/\c≠10)/\13∉e1 aB (P++br n B)/\P.length<=1:=by
 have E:=BI (n:=n) hB;have F:=BI (n:=n+1) hB;rcases h with ⟨-,e⟩|⟨-,v,hv,e⟩
 ·rw[e,sY,E.1]
  exact ⟨E.2.2,λm=>(F.2.2 _ m).1 rfl,hJ _⟩
 ·rw[e,show [cm v]++br n B=cm v::br n B from rfl]
  have g:=(rS v hv).2;rw[E.2.1 _<|by exact (aQ g)]
  have q: ∀c∈cm v::br n B,c≠13/\c≠10:=λc m=>by
   rcases bp.mp m with rfl|m
   ·exact ⟨(λw0=>(cY g<|nL w0)),(λw0=>(cY g<|nL w0))⟩
   ·exact E.2.2 c m
  exact ⟨q,λm=>(q _ m).1 rfl,bh _⟩
theorem Wz (e:Nat):(e+8) % 3≠1\/ ∀z,(jF ((e+9) % 3)++z).head?≠aA 10:=by refine (Ie<|(e+8) % 3=1).elim (λq=>.inr λz=>?_) .inl;rw[show e+9=e+8+1 from rfl,Nat.add_mod,q];exact nofun
theorem NH: ∀(l:List Nat) b,(e1 b l).length<=2*l.length
 |[],b=>bh _
 |c::l,b=>by
  have:=NH l<|c==10;rw[nE,du,pL]
  split<;>simp only[pL,uh]<;>(exact (aQ this))
theorem HF (a0 a1 a2 a3 a4 a5 a6 a7 a8 a9 a10:aK):(∀r,gH r (.d<|.list [a0,a1,a2,a3,a4,a5,a6,a7,a8,a9,a10]) (.d .none) (.d<|.int 8) (.d .none)<|.list [a0,a1,a2,a3,a4,a5,a6,a7])/\ ∀r,gH r (.d<|.list [a0,a1,a2,a3,a4,a5,a6,a7,a8,a9,a10]) (.d<|.int 8) (.d .none) (.d .none)<|.list [a8,a9,a10]:=
 ⟨λr=>gH.lst (xs:=[a0,a1,a2,a3,a4,a5,a6,a7,a8,a9,a10]) .d .none (.int (i:=8)) .none nofun (bJ rfl),λr=>by
  have:=gH.lst (r:=r) (v:=.d<|.list [a0,a1,a2,a3,a4,a5,a6,a7,a8,a9,a10]) .d (.int (i:=8)) .none .none nofun (bJ rfl);rw[show mA _ (aA 8) aF aF=_ from Mo _ 8] at this
  exact this⟩
theorem MA {b m:Nat} (l:List Nat): ∀s:List (List Nat×Nat),(∀p∈s,p.1.length<=b)->b+2<=m->(jz s l).length<=m*s.length+l.length/\(jn id s l).length<=m*s.length+l.length
 |[],h,hb=>⟨gA _ _,gA _ _⟩
 |p::s,h,hb=>by have i:=MA l s (λq m=>h q<|.tail _ m) hb;have q:=h p<|.head _;have e:=vL p.2;unfold jz jn;simp only[du,pL,DJ];exact ⟨bD (na i.1 q)<|na e hb,by show p.1.length+_<=_;exact bD (na i.2 q) hb⟩
theorem L2 {f:Nat->List Nat×Nat} {s:List (List Nat×Nat)} {l:List Nat} (h:xi s l) (g:(jz s l).head?≠aA 10): ∀ts:List Nat,(∀t∈ts,(∀c∈(f t).1,c≠13/\c≠10)/\ ∀z,((f t).1++z).head?≠aA 10)->xi (ts.map f++s) l/\(jz (ts.map f++s) l).head?≠aA 10
 |[],k=>⟨h,g⟩
 |t::ts,k=>by have i:=L2 h g ts λq m=>k q<|.tail _ m;have q:=k t<|.head _;exact ⟨⟨q.1,.inr i.2,i.1⟩,q.2 _⟩
theorem JP {f:Nat->List Nat×Nat} {s:List (List Nat×Nat)} {l:List Nat}: ∀(ts:List Nat) T,ts.foldl (λT t=>T++((f t).1++jF (f t).2)) T++jz s l=T++jz (ts.map f++s) l
 |[],T=>rfl
 |t::ts,T=>by refine (JP ts _).trans ?_;rw[ik,ik];rfl
theorem MF {f:Nat->List Nat×Nat} {b m:Nat} (hb:b+2<=m): ∀(ts:List Nat) T,(∀t∈ts,(f t).1.length<=b)->(ts.foldl (λT t=>T++((f t).1++jF (f t).2)) T).length<=T.length+m*ts.length
 |[],T,h=>bh _
 |t::ts,T,h=>by refine az (MF hb ts _ λq m=>h q<|.tail _ m) ?_;have:=h t<|.head _;have e:=vL (f t).2;rw[du,du,pL,DJ];exact bD (na this e) hb
theorem Oi {Z:List aK->Sl->List Nat->Prop} {q:Nat->List Nat} (hq: ∀t,t<8->(q t).length<=110) (TU: ∀t:Nat,t<8-> ∀xs s T,T.length<=10000->Z xs (.val<|.int t) (T++q t)->Z (.int t::xs) s T): ∀(ts:List Nat) T s,(∀t∈ts,t<8)->T.length+110*ts.length<=10000->Z [] (ts.foldl (λ_ t=>.val<|.int (t:Nat)) s) (ts.foldl (λT t=>T++q t) T)->Z (ts.map λ(t:Nat)=>cA t) s T
 |[],T,s,h,g,z=>z
 |t::ts,T,s,h,g,z=>by have k:=h t<|.head _;have:=hq t k;rw[pL,DJ] at g;exact TU t k _ _ T (aQ g) (Oi hq TU ts _ _ (λq m=>h q<|.tail _ m) (by rw[du];exact bD g this) z)
theorem CD (L:Nat) {u:cB} (T:lZ u) (c:Int) {z st x:Nat} (ez:c.fmod 8=z) (hst:st≠10/\st≠13/\st≠46) {n:Nat->Nat} {B:Nat->List Nat} (hx:x<=10) (hn: ∀t,t<8->n t<=50) (hB: ∀t,t<8->FZ ((z+t) % 8) (B t)):
 ∃a9 a10:aK,∀s5 s6 s7 s8 s9 s10 xs K,fW (.one 8) (Al.map SW.w) (aU<|L+1) xs (eR (da u) c (.val<|.list<|lF (λt=>n t+if (fu u x).contains ((z+t) % 8) then 1 else 0) B st<|x+1) (.val<|.int (7:Nat)) s6 s7 (.val<|.int x) (.val a9) (.val a10) .unb .unb) K->
  fW (.one 8) (Al.map SW.w) (aU<|L+1) (.int x::xs) (eR (da u) c (.val<|.list<|lF n B st x) s5 s6 s7 s8 s9 s10 .unb .unb) K:=by
 have em: ∀t:Nat,(c+t).fmod 8=(((z+t) % 8:Nat):Int):=λt=>by rw[my _<|by decide] at ez⊢;rw[<-DN,ez];rfl
 refine aS (kW (c+x) (n:=3)<|by decide) λe he ee=>?_;refine aV (MM λt ht8=>QCC L (da u) c (x:=x) ht8 (em t) ee<|fu u x) λP PT=>?_;have PP:=λt h=>(PT t h).1;have TT:=λt h=>(PT t h).2;have bb:=W6 L T hx;have ok:=λt h=>T4 (n:=n t) (PP t h) (hB t h).big;have dl: ∀t,t<8->(br (n t)<|B t).length<=100:=λt h=>by have h1:=hn t h;have h2:=(hB t h).len;unfold br;rw[du,AD];exact (bD h1 h2)
 have sl: ∀t,t<8->(P t++br (n t) (B t)).length<=101:=λt h=>by have h1:=(ok t h).2.2;have h2:=dl t h;rw[du];exact az (iF h1 h2)<|bJ rfl
 refine aV (⟨_,rfl⟩: ∃f:Nat->List Nat×Nat,f=λt=>(P t++br (n t) (B t),(e+t) % 3)) λf hf=>?_;have r8: ∀t∈bg 8,t<8:=λt m=>sD.mp m;refine aV (⟨_,rfl⟩: ∃T8,(bg 8).foldl (λT t=>T++((f t).1++jF (f t).2)) []=T8) λT8 hT8=>?_;have lf: ∀t∈bg 8,(f t).1.length<=101:=λt m=>by rw[hf];exact sl t<|r8 t m
 have lT:T8.length<=880:=by have:=MF (f:=f) (m:=110) (by decide) (bg 8) [] lf;rwa[hT8] at this
 have lp: ∀s5 s6 s7 K,K .next (eR (da u) c (.val<|.list<|lF n B st x) (.val<|.int (7:Nat)) s6 s7 (.val<|.int x) (.val<|.list<|(fu u x).map λ(n:Nat)=>cA n) (.val<|.str ⟨T8.toArray⟩) .unb .unb)->fW (.one 5) (tB.map SW.w) (aU<|L+1) ((bg 8).map λ(i:Nat)=>cA (i:Int)) (eR (da u) c (.val<|.list<|lF n B st x) s5 s6 s7 (.val<|.int x) (.val<|.list<|(fu u x).map λ(n:Nat)=>cA n) (.val<|.str ⟨#[]⟩) .unb .unb) K:=λs5 s6 s7 K h=>by refine Oi (Z:=λxs s T=>fW (.one 5) (tB.map SW.w) (aU<|L+1) xs (eR (da u) c (.val<|.list<|lF n B st x) s s6 s7 (.val<|.int x) (.val<|.list<|(fu u x).map λ(n:Nat)=>cA n) (.val<|.str ⟨T.toArray⟩) .unb .unb) K) (q:=λt=>(f t).1++jF (f t).2) (λt h=>?_) (λt h xs s T hT z=>TT t h _ _ T s s6 s7 xs K (J9 t h) (dl t h) hT (by show 11<100;decide) (by rw[hf] at z;exact z)) (bg 8) [] s5 r8 (by decide) (by rw[hT8];exact h);have h1:=lf t<|sD.mpr h;have h3:=vL (f t).2;show ((f t).1++jF (f t).2).length<=110;rw[du];exact az (iF h1 h3)<|bJ rfl
 have E8:=vL<|(e+8) % 3;have E9:=vL<|(e+9) % 3;refine aV (⟨_,rfl⟩: ∃X,T8++[st,46,32]++jF ((e+8) % 3)++[]++jF ((e+9) % 3)++dY (1+x) 46=X) λX hX=>?_;have rep: ∀c∈dY (1+x) 46,c≠13/\c≠10:=λc m=>by have:=(DO.mp m).2;exact ⟨(λw0=>(cY (nR this)<|nL w0)),(λw0=>(cY (nR this)<|nL w0))⟩
 have dB: ∀c∈[st,46,32],c≠13/\c≠10:=λc m=>by
  simp only[bp,gU,or_false] at m;rcases m with rfl|rfl|rfl
  ·exact ⟨hst.2.1,hst.1⟩
  ·decide
  ·decide
 refine aV (⟨_,rfl⟩: ∃s2,s2=[([st,46,32],(e+8) % 3),([],(e+9) % 3)]) λs2 hs2=>?_;have tx:X=jz ((bg 8).map f++s2) (dY (1+x) 46):=by rw[<-sY (jz _ _),<-JP,hT8,<-hX,hs2];simp only[jz,ik,sY]
 have oS:=(L2 (f:=f) (s:=s2) (l:=dY (1+x) 46) (by rw[hs2];exact ⟨dB,(Wz e).imp id λh=>h _,(λc m=>nomatch m),.inr (by show (dY (1+x) 46).head?≠aA 10;rw[uq,xG];exact nofun),rep⟩) (by rw[hs2];exact λh=>hst.1<|kB h) (bg 8) (λt m=>by rw[hf];exact ⟨(ok t<|r8 t m).1,λz=>QAp<|PP t<|r8 t m⟩)).1;have es:e1 aB [st,46,32]=[st,46,32]:=by simp[y8,nE,(by simp[hst.2.2]:(st==46)=aE),(by simp[hst.1]:(st==10)=aE)]
 have el:e1 aB (dY (1+x) 46)=dY (1+(x+1)) 46:=by have:=(BI (n:=x) (B:=[]) λc m=>nomatch m).1;unfold br at this;rwa[eY,eY] at this
 have len:=MA (b:=101) (m:=110) (dY (1+x) 46) ((bg 8).map f++s2) (λp m=>by
  rcases qk.mp m with m|m
  ·refine aS (ij.mp m) λt h q=>?_
   exact q▸lf t h
  ·rw[hs2] at m
   simp only[bp,gU,or_false] at m
   rcases m with rfl|rfl<;>exact Nat.le_of_ble_eq_true rfl) (by decide)
 have l10:((bg 8).map f++s2).length=10:=by rw[hs2];rfl
 rw[l10,AD] at len;have lX:X.length<=1111:=by rw[tx];exact az len.1<|aQ hx
 have xs:(⟨X.toArray⟩:aG).cps.toList=jz ((bg 8).map f++s2) (dY (1+x) 46):=tx
 have sp:=QCT (x:=⟨X.toArray⟩) (s:=((bg 6).map λt=>f<|t+2)++s2) (p:=f 0) (q:=f 1) xs oS (by
  intro r m;rcases qk.mp m with m|m
  ·refine aS (ij.mp m) λp m q=>?_
   rw[<-q];rcases qk.mp (show p∈(bg 8).map f++s2 from m) with m|m
   ·refine aS (ij.mp m) λt h q=>?_
    rw[<-q,hf];exact (ok t<|r8 t h).2.1
   ·rw[hs2] at m
    simp only[bp,gU,or_false] at m;rcases m with rfl|rfl
    ·rw[es];exact λm=>(dB _ m).1 rfl
    ·exact λm=>nomatch m
  ·rw[IU.mp m,el]
   exact λm=>by have:=(DO.mp m).2;exact (kn<|nR this))
 have xl:(⟨X.toArray⟩:aG).cps.size<=100000:=by show X.toArray.size<=_;rw[gm];exact az lX (by decide)
 have ql:(q2 ⟨X.toArray⟩).cps.size<=1111:=by have:(q2 ⟨X.toArray⟩).cps.toList.length=(q2 ⟨X.toArray⟩).cps.size:=jq;rw[<-this,I5,xs,Gw _ _ oS];exact az len.2<|aQ hx
 have qq:=Tj L (x:=⟨X.toArray⟩) xl (az ql<|by decide);have q1l:(q1<|q2 ⟨X.toArray⟩).length<=16777000:=by have a:(q1<|q2 ⟨X.toArray⟩).cps.toList.length=(q1<|q2 ⟨X.toArray⟩).length:=jq;have b:(q2 ⟨X.toArray⟩).cps.toList.length=(q2 ⟨X.toArray⟩).cps.size:=jq;have c:=NH (q2 ⟨X.toArray⟩).cps.toList aB;rw[<-JI,a,b] at c;exact az c (az (gC 2 ql)<|by decide)
 have spl: ∀r,iu r .split (.d<|.str<|q1<|q2 ⟨X.toArray⟩) [.d<|.str ⟨#[13,10]⟩] (.list _):=λr=>.split q1l (by decide);rw[sp,hs2] at spl;rw[show (f 0::f 1::(((bg 6).map λt=>f<|t+2)++[([st,46,32],(e+8) % 3),([],(e+9) % 3)])).map (λq=>e1 aB q.1)++[e1 aB<|dY (1+x) 46]=(bg 8).map (λt=>e1 aB (f t).1)++[e1 aB [st,46,32],[],e1 aB<|dY (1+x) 46] from rfl,es,el,hf] at spl;have e8:=Ei ((e+8) % 3) (dw _<|by decide);have e9:=Ei ((e+9) % 3) (dw _<|by decide);have lr: ∀{a:List Nat},a.length<=2000-> ∀{b:List Nat},b.length<=2000-> ∀r,fe r .Add (.d<|.str ⟨a.toArray⟩) (.d<|.str ⟨b.toArray⟩)<|.str ⟨(a++b).toArray⟩:=λh1 b h2 r=>rm (by exact (bD h1 h2));have lx: ∀{a b c:List Nat},a++b=c->c.length<=1111->a.length<=1111/\b.length<=1111:=λe h=>by rw[<-e,du] at h;exact ⟨az (mL _ _) h,az (gA _ _) h⟩
 have z5:=lx hX lX;have z4:=lx rfl z5.1;have z3:=lx rfl z4.1;have z2:=lx rfl z3.1;have z1:=lx rfl z2.1;have up: ∀{k:Nat},k<=1111->k<=2000:=λh=>az h (by decide);have b5:=lr (up z5.1)<|up z5.2;rw[hX] at b5;have ce:=λt (h:t<8) s4 s6 s7 s9 s10=>QCU L (C:=da u) (c:=c) (s4:=s4) (s5:=.val<|.int (7:Nat)) (s6:=s6) (s7:=s7) (s8:=.val<|.int x) (s9:=s9) (s10:=s10) (n:=n t) (PP t h) (hB t h).big (hB t h).len (az (hn t h)<|by decide);refine ⟨.list<|(fu u x).map λ(n:Nat)=>cA n,.str ⟨X.toArray⟩,λs5 s6 s7 s8 s9 s10 xs K h=>?_⟩;exact fY (.one 8) Al (aU<|L+1) [.d _,.f .next (eR (da u) c (.val<|.list<|lF n B st x) (.val<|.int (7:Nat)) s6 s7 (.val<|.int x) (.val<|.list<|(fu u x).map λ(n:Nat)=>cA n) (.val<|.str ⟨T8.toArray⟩) .unb .unb),ht ⟨[st,46,32].toArray⟩,ht _,ht _,ht _,ht ⟨([]:List Nat).toArray⟩,ht _,ht _,ht _,ht ⟨(dY (1+x) 46).toArray⟩,ht _,ht _,hl _,hl _,.ds _,hl _,hl _] (.int x) xs (eR (da u) c (.val<|.list<|lF n B st x) s5 s6 s7 s8 s9 s10 .unb .unb) K bb tt (lp _ _ _) (dE (w:=8) rfl rfl (by show (11:Int)<_;decide)) (lr (up z1.1) (up z1.2) _) ff (dE e8 (Dq ee 8)<|by decide) (lr (up z2.1) (up z2.2) _) (dE (w:=9) rfl rfl (by show (11:Int)<_;decide)) (lr (up z3.1) (up z3.2) _) ff (dE e9 (Dq ee 9)<|by decide) (lr (up z4.1) (up z4.2) _) (dE (w:=10) rfl rfl (by show (11:Int)<_;decide)) (b5 _) qq (spl _) ((HF _ _ _ _ _ _ _ _ _ _ _).1 _) (bJ rfl) (λK h=>CZ (g:=λt=>sH ⟨(e1 aB<|P t++br (n t) (B t)).toArray⟩) (f:=λt=>sH ⟨(br (n t+if (fu u x).contains ((z+t) % 8) then 1 else 0)<|B t).toArray⟩) (xs:=bg 8) (λt m=>ce t (sD.mp m) _ _ _ _ _) K h) ((HF _ _ _ _ _ _ _ _ _ _ _).2 _) (Zp<|bJ rfl) h
end B01
end
namespace B01
theorem FJ: ∀a,a<4->a∈[0,1,2,3]:=by decide
theorem UP: ∀a,a<4->1<=a->a∈[1,2,3]:=by decide
theorem me5: ∀a,a<5->a∈[0,1,2,3,4]:=by decide
theorem ZS: ∀a,a<5->(a+1) % 5≠a:=by decide
theorem QBr {x1 y1 x2 y2 y0 z:Nat} (h:pQ x1 y1 x2 y2 y0=aB) (x:1<=x1) (n:z≠y2):pQ x1 y1 x2 z y0=false:=by unfold pQ at*;refine beq_eq_false_iff_ne.mpr λq=>?_;have e:=q.trans (QGy.mp h).symm;have:=Int.eq_of_mul_eq_mul_left (by exact (λw0=>(fc (oL x)<|iL w0)):(x1:Int)≠0) e;exact ((um n).elim (λu1=>(fc (oL u1)<|iR this)) λu1=>(fc (oL u1)<|iL this))
theorem QBs (m:Nat):AM (lG m)=true:=by
 have h0:m / 3 % 4<4:=dw _ (by decide);have h1:1<=1+m % 3/\1+m % 3<=3:=⟨(by simp+arith),(aQ<|dw (m) (by decide:0<3))⟩
 have h2:m / 12 % 4<4:=dw _ (by decide);have h3:m / 48 % 4<4:=dw _ (by decide);have h4:m / 192 % 5<5:=dw _ (by decide);unfold lG;generalize m / 3 % 4=a at*;generalize 1+m % 3=b at*;generalize m / 12 % 4=c at*;generalize m / 48 % 4=d at*;generalize m / 192 % 5=e at*;have k: ∀e',e'<5->pQ b c d e' a=aE->AM ⟨a,b,c,d,e'⟩=true:=λe' he n=>by have A:a∈[0,1,2,3]:=FJ a h0;have B:b∈[1,2,3]:=UP b (Nat.lt_succ_of_le h1.2) h1.1;have C:c∈[0,1,2,3]:=FJ c h2;have D:d∈[0,1,2,3]:=FJ d h3;have E:e'∈[0,1,2,3,4]:=me5 e' he;have:=dR.mp (dR.mp (dR.mp (dR.mp (dR.mp YQ a A) b B) c C) d D) e' E;unfold O3 at this;rw[n,QGK] at this;exact this
 induction hf:pQ b c d e a with
 |true=>exact k _ (dw _<|by decide)<|QBr hf h1.1<|ZS e h4
 |false=>exact k _ h4 hf
structure QDZ (t:cB):Prop where
 st: ∀k,k<5->strOk t k
 eq:CK t=eQ t
 a:3<=tv t/\tv t<=100
 i:0<=qh t/\qh t<=100
 TM:j9 (tv t) (qh t)=An t
theorem T2 (m:Nat):QDZ (lG m):=by have h:=QBs m;unfold AM at h;generalize lG m=t at*;have h1:=aD h;have h2:=aD h1.2;have h3:=aD h2.2;have h4:=aD h3.2;refine ⟨λk hk s=>?_,QGy.mp h2.1,⟨d5 (aD h3.1).1,d5 (aD h3.1).2⟩,⟨d5 (aD h4.1).1,d5 (aD h4.1).2⟩,QGy.mp h4.2⟩;have:=dR.mp h1.1 k<|sD.mpr hk;unfold Nw at this;rw[s,Bool.not_true,QGK] at this;have:=aD this;exact ⟨λq=>by have:=this.1;rw[q] at this;exact bq this,bJ this.2⟩
end B01
section
open PySem.StrLaws
theorem QBq {x:aG} {n c:Nat} {B:List Nat} (M:x.cps.toList=dY n 46++c::B) (C:c≠46):Qz x ⟨#[46]⟩=⟨(c::B).toArray⟩:=by
 dsimp only[Qz];rw[QFh];dsimp only[QFi];apply x9;have g:(⟨#[46]⟩:aG).cps.contains=λd=>d==46:=funext λd=>by simp[Array.contains,eq_comm]
 have tw:(x.cps.toList.takeWhile (⟨#[46]⟩:aG).cps.contains).length=n:=by
  rw[g,M,QFj (by intro d m;rw[(DO.mp m).2];rfl)];have:(c==46)=false:=by simpa using C
  simp[this]
 have l:x.cps.toList.length=x.length:=jq
 simp! only[wm,if_false,if_true,strSub_toList]
 rw[tw,<-l,M];simp
namespace B01
theorem Wx (L:Nat) (C:aK) (c:Int) {z st t:Nat} (ht8:t<8) (ez:c.fmod 8=z) {N:Nat->Nat} {B:Nat->List Nat} (hN:N t<=50) (hB:FZ ((z+t) % 8) (B t)) {us:List aK} (hu:us.length=8) {s5 s6 s7 s8 s9 s10 s12:Sl} {xs K}
 (h:fW (.one 5) (Ax.map SW.w) (aU<|L+2) xs (eR C c (.val<|.list<|lF N B st 4) (.val<|.int t) s6 s7 s8 s9 s10 (.own<|us.set ((z+t) % 8)<|.int<|N t)<|.val<|.str ⟨(B t).toArray⟩) K):
 fW (.one 5) (Ax.map SW.w) (aU<|L+2) (.int t::xs) (eR C c (.val<|.list<|lF N B st 4) s5 s6 s7 s8 s9 s10 (.own us) s12) K:=by
 have em:(c+t).fmod 8=(((z+t) % 8:Nat):Int):=by rw[my _<|by decide] at ez⊢;rw[<-DN,ez];rfl
 have k8:(z+t) % 8<8:=dw _ (by decide);have r4:=J9 (n:=N) (B:=B) (st:=st) (x:=4) t ht8;have bl:=hB.len;have dl:(⟨(br (N t)<|B t).toArray⟩:aG).length=1+N t+(B t).length:=by show (br (N t)<|B t).toArray.size=_;unfold br;simp
 have bL:(⟨(B t).toArray⟩:aG).length=(B t).length:=by show (B t).toArray.size=_;simp
 have ls: ∀r,iu r .qN (.d<|.str ⟨(br (N t)<|B t).toArray⟩) [.d<|.str ⟨#[46]⟩]<|.str ⟨(B t).toArray⟩:=λr=>by
  have e:Qz ⟨(br (N t)<|B t).toArray⟩ ⟨#[46]⟩=⟨(B t).toArray⟩:=by
   have hb:=hB.big;have hne:=hB.ne;generalize B t=b at*;cases b with
   |nil=>exact QGv rfl hne
   |cons a b=>exact QBq (x:=⟨(br (N t)<|a::b).toArray⟩) (n:=1+N t) (c:=a) (B:=b) rfl (by have:=hb a<|.head _;exact (λw0=>(cY this (nL w0))))
  exact e▸ .qN (by exact (bD (nL dl)<|na hN bl))
 have l1: ∀r,cn r .len [.d<|.str ⟨(br (N t)<|B t).toArray⟩]<|.int ((1+N t+(B t).length:Nat):Int):=λr=>dl▸ .j7 (by exact (bD (nL dl)<|na hN bl));have l2: ∀r,cn r .len [.d<|.str ⟨(B t).toArray⟩]<|.int ((B t).length:Int):=λr=>by have:=cn.j7 (r:=r) (x:=⟨(B t).toArray⟩) (by exact (bD (nL bL) bl));rwa[bL] at this
 have en:us.set ((z+t) % 8) (.int<|N t)=us.set ((c+t).fmod 8).toNat (.int<|((1+N t+(B t).length:Nat):Int) - ((B t).length:Int) - 1):=by
  rw[em,lP]
  congr 2
  exact (by simp+arith)
 rw[en] at h;exact fY (.one 5) Ax (aU<|L+2) [ht _,ht _,ht _,ht _,.b aE,.b aE,ht _,hi _,hi _] (.int t) xs (eR C c (.val<|.list<|lF N B st 4) s5 s6 s7 s8 s9 s10 (.own us) s12) K (dE r4 rfl (by show (11:Int)<_;decide)) (ls _) (hB.pre L) ff (dE (OG _ k8) em<|by decide) (DX aE<|by simp) ff (dE r4 rfl (by show (11:Int)<_;decide)) (l1 _) (l2 _) ff (by rw[em];exact (bE<|oZ<|(z+t) % 8)) (by rw[em,hu];exact (bE<|oL<|dw (z+t) (by decide:0<8))) (by rw[hu];decide) h
end B01
end
section
open PySem.StrLaws
theorem R_ {r:bR} {xs ys zs:List aK} (h:r 4=.own xs) (e:xs++ys=zs) (hl:xs.length+ys.length<=16777216):fe r .Add (.bor 4) (.d<|.list ys) (.list zs):=e▸ .add (.bor h) .d hl
namespace B01
theorem VQ: ∀s,s<24->mV ⟨#[fR s,46,32]⟩=true:=by decide+kernel
theorem ZO {z:Nat} (hz:z<8) (f:Nat->Int):((((((((dI [0,0,0,0,0,0,0,0]).set ((z+0) % 8)<|.int<|f<|(z+0) % 8).set ((z+1) % 8)<|.int<|f<|(z+1) % 8).set ((z+2) % 8)<|.int<|f<|(z+2) % 8).set ((z+3) % 8)<|.int<|f<|(z+3) % 8).set ((z+4) % 8)<|.int<|f<|(z+4) % 8).set ((z+5) % 8)<|.int<|f<|(z+5) % 8).set ((z+6) % 8)<|.int<|f<|(z+6) % 8).set ((z+7) % 8) (.int<|f<|(z+7) % 8)=dI ((bg 8).map f):=by rcases (Kr z hz) with rfl|rfl|rfl|rfl|rfl|rfl|rfl|rfl<;>rfl
noncomputable def vW (u:cB) (j:Nat):Nat:=0+(if (fu u 0).contains j then 1 else 0)+(if (fu u 1).contains j then 1 else 0)+(if (fu u 2).contains j then 1 else 0)+(if (fu u 3).contains j then 1 else 0)
theorem Xi (u:cB):eQ u=(bg 8).map λj=>((vW u j:Nat):Int):=by
 unfold eQ vW;apply IV;intro j _;rw[show bg 4=[0,1,2,3] from rfl];simp only[List.countP_cons,List.countP_nil];have: ∀a b c d:Nat,0+a+b+c+d=0+d+c+b+a:=by simp+arith
 exact QGz _<|this _ _ _ _
theorem X8 (L:Nat) {u:cB} (T:lZ u) (c:Int):(aU<|L+3).F 31 [da u,.int c] (.list<|dI<|eQ u):=by
 refine aS (kW c (n:=8)<|by decide) λz hz ez=>?_;refine aS (kW (c.fdiv 8) (n:=24)<|by decide) λs hs es=>?_;have em: ∀t:Nat,(c+t).fmod 8=(((z+t) % 8:Nat):Int):=λt=>by have ez:c.fmod 8=z:=ez;rw[my _<|by decide] at ez⊢;rw[<-DN,ez];rfl
 refine aV (MM λt h=>Rj (L+1) (da u) c t ((z+t) % 8) h (em t)<|dw _<|by decide) λB BT=>?_;have G:=λt h=>(BT t h).1;have ys:=YH (L+1) es hs;have sf:=U6 s hs;have yi:=AP (L+1)<|fR s;rw[sf.1] at yi;refine aV ((BT 0<|by decide).2) λy0 r0=>?_;refine aV ((BT 1<|by decide).2) λy1 r1=>?_;refine aV ((BT 2<|by decide).2) λy2 r2=>?_;refine aV ((BT 3<|by decide).2) λy3 r3=>?_;refine aV ((BT 4<|by decide).2) λy4 r4=>?_;refine aV ((BT 5<|by decide).2) λy5 r5=>?_;refine aV ((BT 6<|by decide).2) λy6 r6=>?_;refine aV ((BT 7<|by decide).2) λy7 r7=>?_;have le:=λ(n:Nat) (h:n<=100)=>h;have lp1:=λK h=>r0 [] .unb .unb .unb _ K (bJ rfl)<|r1 _ _ _ _ _ K (bJ rfl)<|r2 _ _ _ _ _ K (bJ rfl)<|r3 _ _ _ _ _ K (bJ rfl)<|r4 _ _ _ _ _ K (bJ rfl)<|r5 _ _ _ _ _ K (bJ rfl)<|r6 _ _ _ _ _ K (bJ rfl)<|r7 _ _ _ _ [] K (bJ rfl) h;refine je (CD (L+1) T c ez (x:=0) (st:=fR s) ⟨sf.2.1,sf.2.2.1,sf.2.2.2⟩ (n:=λ_=>0) (by decide) (λt h=>by decide) G) λa0 b0 q0=>?_;refine je (CD (L+1) T c ez (x:=1) (st:=fR s) ⟨sf.2.1,sf.2.2.1,sf.2.2.2⟩ (n:=λt=>0+if (fu u 0).contains ((z+t) % 8) then 1 else 0) (by decide) (λt h=>by split<;>decide) G) λa1 b1 q1=>?_;refine je (CD (L+1) T c ez (x:=2) (st:=fR s) ⟨sf.2.1,sf.2.2.1,sf.2.2.2⟩ (n:=λt=>(0+if (fu u 0).contains ((z+t) % 8) then 1 else 0)+if (fu u 1).contains ((z+t) % 8) then 1 else 0) (by decide) (λt h=>by split<;>split<;>decide) G) λa2 b2 q2=>?_;refine je (CD (L+1) T c ez (x:=3) (st:=fR s) ⟨sf.2.1,sf.2.2.1,sf.2.2.2⟩ (n:=λt=>((0+if (fu u 0).contains ((z+t) % 8) then 1 else 0)+if (fu u 1).contains ((z+t) % 8) then 1 else 0)+if (fu u 2).contains ((z+t) % 8) then 1 else 0) (by decide) (λt h=>by split<;>split<;>split<;>decide) G) λa3 b3 q3=>?_;have lp2:=λK h=>q0 (.val<|.int (7:Nat)) (.val<|.int ((z+7) % 8:Nat)) (.val<|.str y7) .unb .unb .unb _ K<|q1 _ _ _ _ _ _ _ K<|q2 _ _ _ _ _ _ _ K<|q3 _ _ _ _ _ _ [] K h;have c50: ∀j,vW u j<=50:=λj=>by unfold vW;split<;>split<;>split<;>split<;>decide
 have t4:=λ(t:Nat) (h:t<8)=> @Wx L (da u) c z (fR s) t h ez (λt=>vW u<|(z+t) % 8) B (c50 _)<|G t h
 have st8: ∀d∈[sH ⟨#[fR s,46,32]⟩,.str ⟨#[]⟩,.str ⟨#[46,46,46,46,46]⟩],fO 8 d=true:=λd m=>by
  simp only[bp,gU,or_false] at m;rcases m with rfl|rfl|rfl
  ·exact UW<|VQ s hs
  ·decide+kernel
  ·decide+kernel
 rw[Xi,<-ZO hz];refine di (q8 b_law_found 2 [2,3,4,5,6,7,8,9,10,11,12] [.f .next (eR (da u) c (.own _) _ _ _ .unb .unb .unb .unb .unb),ht ⟨#[fR s]⟩,ht ⟨#[fR s,46,32]⟩,hl<|lF (λ_=>0) B (fR s) 0,.f .next (eR (da u) c (.val<|.list<|lF (λt=>vW u<|(z+t) % 8) B (fR s) 4) (.val<|.int (7:Nat)) (.val<|.int ((z+7) % 8:Nat)) (.val<|.str y7) (.val<|.int (3:Nat)) (.val a3) (.val b3) .unb .unb),hl [.str ⟨#[fR s,46,32]⟩,.str ⟨#[]⟩,.str ⟨#[46,46,46,46,46]⟩],ht ⟨#[fR s]⟩,ht ⟨#[fR s,46,32]⟩,.b aE,.b aE,ht ⟨#[fR s]⟩,.d<|.bool aE,.b aE,.b aE,hl<|dI [0,0,0,0,0,0,0,0],.f .next (eR (da u) c _ _ _ _ _ _ _ (.own _) _)] (aU<|L+2) [da u,.int c] _ rfl tt lp1 ff (nl rfl) ys (nu rfl rfl) (R_ rfl rfl (bJ rfl)) tt lp2 ((HF _ _ _ _ _ _ _ _ _ _ _).2 _) ff (nl rfl) ys (nu rfl rfl) (iZ .d st8) rfl ff (nl rfl) ys yi rfl rfl (.mul (n:=8) .d (by show 1*8<=256;decide) (by decide)<|by decide) tt (λK h=>t4 0 (by decide) rfl (t4 1 (by decide) (by simp[dI])<|t4 2 (by decide) (by simp[dI])<|t4 3 (by decide) (by simp[dI])<|t4 4 (by decide) (by simp[dI])<|t4 5 (by decide) (by simp[dI])<|t4 6 (by decide) (by simp[dI])<|t4 7 (by decide) (by simp[dI]) h)) .ret) rfl
end B01
end
namespace B01
noncomputable def ry (X:aK) (cs:List Int) (t:cB) (A B w:Int) (s6 s7 s8 s9 s10 s11:Sl):Ls:=[(1,.val<|.list<|cs.map .int),(2,.val<|da t),(3,.val<|.int A),(4,.val<|.int B),(5,.val<|.int w),(6,s6),(7,s7),(8,s8),(9,s9),(10,s10),(11,s11),(12,.unb),(0,.val X)]
section
variable {o:bj} {X:aK} {cs:List Int} {t:cB} {A B w:Int}
noncomputable def Nk:EW:=.list [.aH .Add (.aH .Add (.au cS<|.int 0)<|.aH .Mult HG<|.au cS<|.int 1) wv4,.aH .Add (.au cS<|.int 1) GK]
theorem HB {p:Int×Int} (hA:0<=A/\A<10^6) (hp:iC p):CE Nk.w eF [] o (gJ<|ry X cs t A B w .unb .unb .unb .unb .unb .unb) (aw p) (aA<|aw<|shr A B w p):=λR K h=>fM Nk eF [] o [.b aB,hi p.1,hi p.2,hi p.2] (gJ<|ry X cs t A B w .unb .unb .unb .unb .unb .unb) (aw p) R K rfl tt (iQ p) (cK p) (x4 (by exact (oM<|bG (iL<|jR (hA.1:0<=A)) hA.2)) (by have:=hp.2;exact (aQ this))) (cK p) rfl h
noncomputable def NZ:EW:=.list [.aH .Sub (.au (.au Ab cS)<|.int 0)<|.au (.au Ab<|.aH .Sub cS<|.int 1)<|.int 0,.aH .Sub (.au (.au Ab cS)<|.int 1)<|.au (.au Ab<|.aH .Sub cS<|.int 1)<|.int 1]
theorem Fw {d6 d7 d8:aK} {k:Int} {a b:Int×Int} (h1: ∀r,cC r (.d<|da t) k<|aw a) (h2: ∀r,cC r (.d<|da t) (k - 1)<|aw b):CE NZ.w eF [] o (gJ<|ry X cs t A B w (.val d6) (.val d7) (.val d8) .unb .unb .unb) (.int k) (aA<|aw<|cD b a):=λR K h=>fM NZ eF [] o [.b aB,.d<|aw a,hi a.1,.d<|aw b,hi b.1,.d<|aw a,hi a.2,.d<|aw b,hi b.2] (gJ<|ry X cs t A B w (.val d6) (.val d7) (.val d8) .unb .unb .unb) (.int k) R K rfl tt (h1 _) (iQ a) (h2 _) (iQ b) (h1 _) (cK a) (h2 _) (cK b) rfl h
noncomputable def MQ:EW:=.call 32 [.bi .abs [.au cS<|.int 0],.bi .abs [.au cS<|.int 1]]
theorem LX {r:bR} (x:Int):cn r .abs [.d<|.int x] (.int (x.natAbs:Int)):=xh x
theorem HE (L:Nat) {d6 d7 d8 d9 d10:aK} {p:Int×Int}:CE MQ.w eF [] (aU<|L+1) (gJ<|ry X cs t A B w (.val d6) (.val d7) (.val d8) (.val d9) (.val d10) .unb) (aw p) (aA<|.int<|ft p):=λR K h=>fM MQ eF [] (aU<|L+1) [.b aB,hi p.1,hi p.1.natAbs,hi p.2,hi p.2.natAbs,hi<|ft p] (gJ<|ry X cs t A B w (.val d6) (.val d7) (.val d8) (.val d9) (.val d10) .unb) (aw p) R K rfl tt (iQ p) (LX _) (cK p) (LX _) (QCs L p.1.natAbs p.2.natAbs) rfl h
noncomputable def Lz:EW:=.aH .FloorDiv (.aH .Add (.aH .Add (.aH .Mult (.aH .Mult XK cS) cS)<|.aH .Mult (.aC 11) cS)<|.int 2)<|.int 2
theorem yX {d6 d7 d8 d9:aK} {a s k:Int} (ha:a.natAbs<=1000) (hs:s.natAbs<=1000) (hk:k.natAbs<=10):CE Lz.w eF [] o (gJ<|ry X cs t A B w (.val d6) (.val d7) (.val d8) (.val d9) (.val<|.int a)<|.val<|.int s) (.int k) (aA<|.int<|(a*k*k+s*k+2).fdiv 2):=λR K h=>fM Lz eF [] o [.b aB] (gJ<|ry X cs t A B w (.val d6) (.val d7) (.val d8) (.val d9) (.val<|.int a)<|.val<|.int s) (.int k) R K rfl tt (oA ha hk rfl rfl) (oA (vg ha hk) hk rfl rfl) (oA hs hk rfl rfl) ff (nl rfl) rfl h
end
noncomputable def mB (t:cB):Nat->Int×Int
 |0=>p0 t
 |1=>p1 t
 |_=>p2 t
theorem QAg {t:cB} (T:lZ t): ∀i,iC (mB t i)/\0<=(mB t i).1/\0<=(mB t i).2
 |0=>⟨T.a,uT _,dP _⟩
 |1=>⟨T.b,dP _,dP _⟩
 |n+2=>⟨T.c,dP _,dP _⟩
noncomputable def gT (A B w:Int) (t:cB) (i j:Nat):Nat:=if j=0 then (shr A B w<|mB t i).1.toNat else (shr A B w<|mB t i).2.toNat
theorem HD {a:Int} (h:0<=a/\a<10^6):a.natAbs<=1000000:=oM<|kC (Cd<|jR h.1)<|bw h.2
theorem J0 {x:Int} (g:0<=x) (h:x<10^10):x.toNat<10^10:=mD.mp<|o5 (Cd<|jN g) h
theorem Nb {x:Int} {m:Nat} (h:x.natAbs<=m) (g:eV m 20000000=aB):x<10^10:=o5 QGG (o5 (om.mpr<|az h<|bJ g)<|by decide)
theorem RM {A B w:Int} {t:cB} (T:lZ t) (hA:0<=A/\A<10^6) (hB:0<=B/\B<10^6) (hw:0<=w/\w<10^6):(∀i j,gT A B w t i j<10^10)/\gD (gT A B w t)=.list [aw<|shr A B w<|p0 t,aw<|shr A B w<|p1 t,aw<|shr A B w<|p2 t]:=by
 have q: ∀i,0<=(shr A B w<|mB t i).1/\(shr A B w<|mB t i).1<10^10/\0<=(shr A B w<|mB t i).2/\(shr A B w<|mB t i).2<10^10:=λi=>by refine eJ (QAg T i) λs h1 h2=>?_;have m1:=vg (HD hA) s.2;have n1:(shr A B w<|mB t i).1.natAbs<=_:=az (AH _ _)<|iF (az (AH _ _)<|iF s.1 m1)<|HD hB;have n2:(shr A B w<|mB t i).2.natAbs<=_:=az (AH _ _)<|iF s.2<|HD hw;exact ⟨qt (qt h1<|kF hA.1 h2) hB.1,Nb n1 rfl,qt h2 hw.1,Nb n2 rfl⟩
 refine ⟨λi j=>?_,?_⟩
 ·have:=q i
  unfold gT
  split
  ·exact J0 this.1 this.2.1
  ·exact J0 this.2.2.1 this.2.2.2
 ·have e: ∀i,aw ((gT A B w t i 0:Nat),(gT A B w t i 1:Nat))=aw (shr A B w<|mB t i):=λi=>by
   have:=q i;unfold gT aw;rw[if_pos rfl,if_neg<|by decide];dsimp only;rw[jN this.1,jN this.2.2.1]
  unfold gD;rw[e 0,e 1,e 2];rfl
theorem QDN {t:cB} (T:lZ t):(zI t).natAbs<=1000:=by unfold zI;rw[QGL];exact az (gK (vg (gK T.b.1 T.a.1)<|gK T.c.2 T.b.2)<|vg (gK T.b.2 T.a.2)<|gK T.c.1 T.b.1) (by decide)
theorem QBJ (p:Int×Int):(ft p).natAbs<=p.1.natAbs+p.2.natAbs:=by
 unfold ft;rw[QGL];rcases Nat.eq_zero_or_pos p.1.natAbs with q|q
 ·rw[q,Nat.gcd_zero_left];exact (by simp+arith)
 ·have:=Nat.gcd_le_left p.2.natAbs q
  exact (aQ this)
theorem HN {a b:Int×Int} (A:iC a) (B:iC b):(ft<|cD a b).natAbs<=40:=az (QBJ<|cD a b)<|iF (gK B.1 A.1)<|gK B.2 A.2
theorem u_ {a b c:Int} (h:a.natAbs<=40) (i:b.natAbs<=40) (j:c.natAbs<=40):(a+b+c).natAbs<=1000:=az (AH _ _) (az (iF (az (AH _ _)<|iF h i) j)<|by decide)
theorem Xv {t:cB} (T:lZ t):(vS t).natAbs<=1000:=u_ (HN T.c T.a) (HN T.a T.b)<|HN T.b T.c
theorem Zb {ns:List Int} (hn:ns.length<=63):lg (aU 400) 1 EF [.list<|ns.map .int] (.bool aB):=by
 refine aV (⟨_,rfl⟩: ∃P:Int,7^bN 3100=P) λP hP=>?_;obtain ⟨c0,c1,c2,c3,c4,H⟩:=Zd 399 (ns:=ns) (fs:=[629,77,4310,314159265358979323,P]) (az hn<|by decide) rfl;refine aS (RZ 399 c0) λm hm hc=>?_;have T:=XQ (m:=m);have O:=T2 m;generalize lG m=t at*;refine aS (⟨_,rfl,nV _ (by decide),nU _<|by decide⟩: ∃A,c3.fmod (10^bN 6)=A/\(0<=A/\A<10^6)) λA eA A0=>?_;refine aS (⟨_,rfl,nV _ (by decide),nU _<|by decide⟩: ∃B,(c3.fdiv<|10^bN 6).fmod (10^bN 6)=B/\(0<=B/\B<10^6)) λB eB B0=>?_;refine aS (⟨_,rfl,nV _ (by decide),nU _<|by decide⟩: ∃w,(c3.fdiv<|10^bN 12).fmod (10^bN 6)=w/\(0<=w/\w<10^6)) λw ew w0=>?_;refine bI (RM T A0 B0 w0) λhg eg=>?_;have bk:=Th 396 hg c1;rw[eg] at bk;have fo:=X8 397 T c2;have co:=QAx 397 (by decide) T O.st A0 B0 w0 c4;rw[O.eq] at co;have mu:=WD 397 (by decide) O.a O.i c4;rw[O.TM] at mu;have j:=λr=>JX (r:=r) t;have jm: ∀r,cC r (.d<|da t) (0 - 1)<|aw<|p2 t:=λr=>.seq (.l .d) (by show (3:Int)<2^63;decide) (rfl:_=aA 2) rfl;have tb:(10:Int)^bN 6=1000000/\(10:Int)^bN 12=1000000000000:=by decide
 have n6: ∀x:Int,r9 x (10^bN 6)=false:=λx=>nl (by decide);have n12: ∀x:Int,r9 x (10^bN 12)=false:=λx=>PyProof.noPylong_of_log2 (by decide+kernel);have k0:decide ((10:Int)^bN 6=0)=false:=by decide
 have k1:decide ((10:Int)^bN 12=0)=false:=by decide
 have ibt:((ib 10:Nat):Int)*6<=134217728/\((ib 10:Nat):Int)*12<=134217728/\((ib 7:Nat):Int)*3100<=134217728:=by decide
 have X:(∀r,cC r (.d<|.list<|[c0,c1,c2,c3,c4].map .int) 0<|.int c0)/\(∀r,cC r (.d<|.list<|[c0,c1,c2,c3,c4].map .int) 1<|.int c1)/\(∀r,cC r (.d<|.list<|[c0,c1,c2,c3,c4].map .int) 2<|.int c2)/\(∀r,cC r (.d<|.list<|[c0,c1,c2,c3,c4].map .int) 3<|.int c3)/\ ∀r,cC r (.d<|.list<|[c0,c1,c2,c3,c4].map .int) 4<|.int c4:=⟨λr=>pT (xs:=[c0,c1,c2,c3,c4]) (w:=0) rfl rfl (by show (5:Int)<_;decide),λr=>pT (xs:=[c0,c1,c2,c3,c4]) (w:=1) rfl rfl (by show (5:Int)<_;decide),λr=>pT (xs:=[c0,c1,c2,c3,c4]) (w:=2) rfl rfl (by show (5:Int)<_;decide),λr=>pT (xs:=[c0,c1,c2,c3,c4]) (w:=3) rfl rfl (by show (5:Int)<_;decide),λr=>pT (xs:=[c0,c1,c2,c3,c4]) (w:=4) rfl rfl (by show (5:Int)<_;decide)⟩;have f8: ∀d∈dI (eQ t),fO 8 d=true:=Mn<|eQ t;have fne:eQ t≠[]:=by unfold eQ;exact nofun
 refine je (by
  cases q:eQ t with
  |nil=>exact QGv q fne
  |cons a b=>exact ⟨a,b,rfl⟩: ∃f0 fs,eQ t=f0::fs) λf0 fs ef=>?_
 have g8: ∀d∈[aw<|shr A B w<|p0 t,aw<|shr A B w<|p1 t,aw<|shr A B w<|p2 t],fO 8 d=true:=λd m=>by simp only[bp,gU,or_false] at m;rcases m with rfl|rfl|rfl<;>exact Dh [_,_]
 have cE: ∀r,gY r .Eq (.d<|.list<|dI<|eQ t) (.d<|.list []) false:=λr=>by rw[ef] at f8⊢;exact W7 f8
 have s1: ∀r,gH r (.d<|.list<|dI<|eQ t) (.d .none) (.d<|.int 5) (.d .none)<|.list<|dI<|(eQ t).take 5:=λr=>by have l8:(dI<|eQ t).length=8:=rfl;have:=gH.lst (r:=r) (v:=.d<|.list<|dI<|eQ t) .d .none (.int (i:=5)) .none nofun (by rw[l8];decide);rw[yG (a:=0) (b:=5) (by rw[l8];rfl) (by decide) (by rw[l8];decide)] at this;rw[show dI ((eQ t).take 5)=_ from List.map_take ..];exact this
 have s2: ∀r,gH r (.d<|.list<|dI<|eQ t) (.d<|.int 5) (.d .none) (.d .none)<|.list<|dI<|(eQ t).drop 5:=λr=>by have:=gH.lst (r:=r) (v:=.d<|.list<|dI<|eQ t) .d (.int (i:=5)) .none .none nofun (bJ rfl);rw[show mA _ (aA 5) aF aF=_ from Mo _ 5] at this;rw[show dI ((eQ t).drop 5)=_ from List.map_drop ..];exact this
 have al:=QDN T;have sl:=Xv T;have sg: ∀K:List aK->Prop,K [aw<|shr A B w<|p0 t,aw<|shr A B w<|p1 t,aw<|shr A B w<|p2 t]->_:=λK h=>HB (o:=aU 400) (X:=.list<|ns.map .int) (cs:=[c0,c1,c2,c3,c4]) (t:=t) (A:=A) (B:=B) (w:=w) A0 T.a [aw<|p1 t,aw<|p2 t] K<|HB A0 T.b _ _<|HB A0 T.c [] _ h;have sm: ∀r,cn r .sum [.d<|.list<|[ft<|cD (p2 t)<|p0 t,ft<|cD (p0 t)<|p1 t,ft<|cD (p1 t)<|p2 t].map .int]<|.int<|vS t:=λr=>by have:=cn.sum (r:=r) (v:=.d<|.list<|[ft<|cD (p2 t)<|p0 t,ft<|cD (p0 t)<|p1 t,ft<|cD (p1 t)<|p2 t].map .int) (ns:=[ft<|cD (p2 t)<|p0 t,ft<|cD (p0 t)<|p1 t,ft<|cD (p1 t)<|p2 t]) .d;rwa[show [ft<|cD (p2 t)<|p0 t,ft<|cD (p0 t)<|p1 t,ft<|cD (p1 t)<|p2 t].sum=vS t by unfold vS;simp;exact (by simp+arith)] at this
 have A1:=T.a.1;have A2:=T.a.2;have B1:=T.b.1;have B2:=T.b.2;have C1:=T.c.1;have C2:=T.c.2;have ar: ∀r,cn r .abs [.d<|.int<|(cD (p0 t)<|p1 t).1*(cD (p1 t)<|p2 t).2 - (cD (p0 t)<|p1 t).2*(cD (p1 t)<|p2 t).1]<|.int<|zI t:=λr=>xh _;have i1:ib (cD (p0 t)<|p1 t).1+ib (cD (p1 t)<|p2 t).2<=134217728:=oA (gK B1 A1) (gK C2 B2) rfl rfl;have i2:ib (cD (p0 t)<|p1 t).2+ib (cD (p1 t)<|p2 t).1<=134217728:=oA (gK B2 A2) (gK C1 B1) rfl rfl;have x3: ∀(a b c:aK) r,(cC r (.d<|.list [a,b,c]) 1 b)/\cC r (.d<|.list [a,b,c]) 2 c:=λa b c r=>⟨.seq (.l .d) (by show (3:Int)<2^63;decide) (rfl:_=aA 1) rfl,.seq (.l .d) (by show (3:Int)<2^63;decide) (rfl:_=aA 2) rfl⟩;have y3:=x3 (aw<|cD (p2 t)<|p0 t) (aw<|cD (p0 t)<|p1 t)<|aw<|cD (p1 t)<|p2 t;rw[<-hP] at H;subst eA eB ew;exact q8 EF 1 [1,2,3,4,5,6,7,8,9,10,11,12] [hl<|[c0,c1,c2,c3,c4].map .int,hi c0,.d<|da t,hi c3,hi c3,hi c3,.ds [aw<|shr (c3.fmod<|10^bN 6) ((c3.fdiv<|10^bN 6).fmod<|10^bN 6) ((c3.fdiv<|10^bN 12).fmod<|10^bN 6)<|p0 t,aw<|shr (c3.fmod<|10^bN 6) ((c3.fdiv<|10^bN 6).fmod<|10^bN 6) ((c3.fdiv<|10^bN 12).fmod<|10^bN 6)<|p1 t,aw<|shr (c3.fmod<|10^bN 6) ((c3.fdiv<|10^bN 6).fmod<|10^bN 6) ((c3.fdiv<|10^bN 12).fmod<|10^bN 6)<|p2 t],hi c1,.d<|.list [aw<|shr (c3.fmod<|10^bN 6) ((c3.fdiv<|10^bN 6).fmod<|10^bN 6) ((c3.fdiv<|10^bN 12).fmod<|10^bN 6)<|p0 t,aw<|shr (c3.fmod<|10^bN 6) ((c3.fdiv<|10^bN 6).fmod<|10^bN 6) ((c3.fdiv<|10^bN 12).fmod<|10^bN 6)<|p1 t,aw<|shr (c3.fmod<|10^bN 6) ((c3.fdiv<|10^bN 6).fmod<|10^bN 6) ((c3.fdiv<|10^bN 12).fmod<|10^bN 6)<|p2 t],.b aE,.b aE,hi c2,hl<|dI<|eQ t,.b aE,.b aE,hi c4,hl<|dI<|eQ t,.b aE,.b aE,.b aE,.ds [aw<|cD (p2 t)<|p0 t,aw<|cD (p0 t)<|p1 t,aw<|cD (p1 t)<|p2 t],.d<|aw<|cD (p0 t)<|p1 t,hi (cD (p0 t)<|p1 t).1,.d<|aw<|cD (p1 t)<|p2 t,hi (cD (p1 t)<|p2 t).2,.d<|aw<|cD (p0 t)<|p1 t,hi (cD (p0 t)<|p1 t).2,.d<|aw<|cD (p1 t)<|p2 t,hi (cD (p1 t)<|p2 t).1,hi<|zI t,.ds<|[ft<|cD (p2 t)<|p0 t,ft<|cD (p0 t)<|p1 t,ft<|cD (p1 t)<|p2 t].map .int,hi<|vS t,.ds<|dI<|An t,hl<|dI<|(eQ t).take 5,hi<|tv t,hl<|dI<|(eQ t).drop 5,hi<|qh t,hi c4,hl<|dI<|An t,.b aB] (aU 400) [.list<|ns.map .int] (.bool aB) rfl tt ibt.2.2 H (X.1 _) hc (X.2.2.2.1 _) tt ibt.1 k0 (X.2.2.2.1 _) tt ibt.1 k0 (n6 _) tt ibt.1 k0 (X.2.2.2.1 _) tt ibt.2.1 k1 (n12 _) tt ibt.1 k0 (bJ rfl) sg (X.2.1 _) bk (iZ .d g8) rfl (X.2.2.1 _) fo (cE _) rfl (X.2.2.2.2 _) co (iZ .d f8) rfl rfl tt (bJ rfl) (λK h=>Fw (λr=>(j r).1) jm [.int (1:Nat),.int (2:Nat)] K<|Fw (λr=>(j r).2.1) (λr=>(j r).1) [.int (2:Nat)] _<|Fw (λr=>(j r).2.2) (λr=>(j r).2.1) [] _ h) (y3 _).1 (iQ _) (y3 _).2 (cK _) i1 (y3 _).1 (cK _) (y3 _).2 (iQ _) i2 (ar _) (bJ rfl) (λK h=>HE 399 [_,_] K<|HE 399 [_] _<|HE 399 [] _ h) (sm _) (bJ rfl) (λK h=>yX al sl (by decide) [_,_,_,_] K<|yX al sl (by decide) [_,_,_] _<|yX al sl (by decide) [_,_] _<|yX al sl (by decide) [_] _<|yX al sl (by decide) [] _ h) (s1 _) (.sum .d) (s2 _) (.sum .d) (X.2.2.2.2 _) mu (YX<|Mn _) .ret
end B01
namespace B01
noncomputable abbrev rR:RowW:=mn.row.toRowW
theorem Jp:rR.promised:=(ax [.list [.int 3,.int 1]] (by decide+kernel)<|by decide+kernel)
theorem Q6:opensWell pg=true:=by lia
theorem Ts:pg.bare:=(U_ rfl rfl rfl rfl rfl (by decide+kernel))
theorem lS:frees rR=true:=by lia
theorem Ri: ∃d K,defOf qv "law" =aA (d,K)/\pg.theDef "law" =aA (d.params,d.body,d.scope)/\kwWritten? d.params.kwonlyargs d.params.kw_defaults=aA K:=(dA _ _ rfl rfl rfl)
noncomputable def Zc (vs:List aI):ba nQ:=do match<-nsGet lQ "law" with
 |some f=>do ret (<-QGM f vs)
 |none=>unsupported "claim.caller:no-such-global"
theorem PD (i:(h8 cu jD).Inv Y s) (hf:cu f=aA cf):isCodeTable s cf.tab/\ ∃ps,s.get? cf.tab=aA {cls:=.none,data:=.fields ps}:=by obtain ⟨n,L,t0,_⟩:=i f cf hf;exact ⟨t0.isCodeTable,_,t0.2⟩
theorem SQ {X:Nat->bH} (base: ∀b o,(dk P X).get? b=aA o->s.get? b=aA o) (k: ∀b o,s.get? b=aA o-> ¬ (h8 cu jD).PF b->h'.get? b=aA o) (i:(h8 cu jD).Inv (h8 cu jD).PF h'):OldK s h':=by
 have key: ∀b o,s.get? b=aA o->(h8 cu jD).PF b->(isCodeTable s b/\o=nI/\ ∃ps,h'.get? b=aA {cls:=.none,data:=.fields ps}):=by
  rintro b o e ⟨f,cf,hf,rfl⟩
  refine ⟨(PD (L4 (P:=P) (X:=X) base) hf).1,?_,(PD i hf).2⟩
  have hb:s.get? cf.tab=aA nI:=by
   rcases xY (fD f cf hf rfl) with q|q|q
   ·exact sb q<|base _ _<|A3 P X
   ·exact sb q<|base _ _<|Bs P X
   ·exact sb q<|base _ _<|Bh P X
  rw[hb] at e;exact (kB e).symm
 refine ⟨λb o e=>?_,λb o e=>?_⟩
 ·by_cases p:(h8 cu jD).PF b
  ·obtain ⟨a1,rfl,ps,a3⟩:=key b o e p
   exact .inr (.inl ⟨a1,rfl, #[],ps,rfl,by erw[a3];simp[nI]⟩)
  ·exact .inl<|k b o e p
 ·by_cases p:(h8 cu jD).PF b
  ·obtain ⟨a1,rfl,ps,a3⟩:=key b o e p
   exact ⟨_,a3⟩
  ·exact ⟨o,k b o e p⟩
theorem QAW (args:List WData):rR.claim.post args (.bool aB) args=true:=by lia
theorem s_ {w:bx} {X:Nat->bH} (hX:kJ X) {ns:List Int} (hl:ns.length<=63) {vs:List aI} (base: ∀b o,(dk w.params X).get? b=aA o->s.heap.get? b=aA o)
 (ht:1<=s.toks) (hg:s.gens= #[]) (hw:DM w.params s.heap vs [uu<|xK<|ns.map xM]) (cl:fX->Option aM) (mean:ExcName->Option aI):
 aO (aY pg w) callerA (QGM (.ref 413) vs) (λv s'=>GoodWG rR.claim cl mean [uu<|xK<|ns.map xM] s (.ok<|.ret v) s') (λe s'=>GoodWG rR.claim cl mean [uu<|xK<|ns.map xM] s (.error e) s') s:=by
 have ok:=T7 (w:=w) hX 401;refine tY (ok.1.F 26 _ _<|di (Zb hl) rfl) λnm a o fd k1 k2 O O hc=>?_;obtain rfl:a=413:=by have k1:aA ("law" :aG)=aA nm:=k1;cases k1;cases bM ((jc (w:=w) (X:=X) "law").trans (by lia:_=aA (wQ 413))) (k2:mg w X "law" =aA (.ref a));rfl
 have pfG: ∀b o,(D w X 401).G.get? b=aA o-> ¬ (D w X 401).P.PF b:=λb o e p=>by have q:=ZW e;rcases xY p with rfl|rfl|rfl<;>exact absurd q (by decide+kernel)
 refine hc (X:=(h8 cu jD).PF) ⟨(⟨rfl,by refine (?_:1+claimMargin+401<=900);decide,by refine (?_:4+10*401+300<=9900);decide⟩:hH (D w X 401).n callerA),ht,λb o e=>base b o<|KO e,pfG,λb p=>?_,λO p=>p,L4 base⟩ (QAF hw ?_) λu s' ct rd=>?_
 ·rcases xY p with rfl|rfl|rfl
  ·exact ⟨_,base _ _<|A3 _ X⟩
  ·exact ⟨_,base _ _<|Bs _ X⟩
  ·exact ⟨_,base _ _<|Bh _ X⟩
 ·intro a o e hc p
  rcases xY p with rfl|rfl|rfl
  ·obtain rfl:=bM (base _ _<|A3 _ X) e
   exact hc rfl
  ·obtain rfl:=bM (base _ _<|Bs _ X) e
   exact hc rfl
  ·obtain rfl:=bM (base _ _<|Bh _ X) e
   exact hc rfl
 ·obtain rfl:=rd.bool_inv
  exact sb ct.e<|⟨.inl<|GN _ (.bool true) [] rfl (λO=>rfl) (.bool _) (QAW _) (λO=>⟨.nil,λO ha=>nomatch ha⟩),SQ (X:=X) base (λb o e p=>ct.keep b o e id p) ct.inv,rfl,.of_eq hg⟩
theorem QAO (w:bx) (X:Nat->bH):mg w X "law" =aA (.ref 413):=(jc (w:=w) (X:=X) "law").trans (by lia)
theorem QBZ {ns:List Int} (h:mn.pre.holds R {args:=[uu<|xK<|ns.map xM]}=aB):ns.length<=63:=by
 have e:mn.pre=.and (.not<|.lt (.lit<|.int (63:Nat))<|.len<|.arg 0) (.lit<|.bool aB):=rfl;rw[e] at h;refine jM λq=>?_
 have l: ∀r:List PyData,(ofPys r).length=r.length:=by
  intro r;induction r with
  |nil=>rfl
  |cons x r i=>simp[ofPys,i]
 have d:decide ((63:Int)<(ns.length:Int))=true:=by simp;exact (bE<|oL q)
 simp[WTm.holds,WTm.value,uu,l,less?,Num.less?,d] at h
theorem Vq {vs:List aI} (w:DM P h vs [uu<|xK d]): ∃a,vs=[.ref a]:=by
 cases w with
 |cons a b=>cases b;cases a;exact ⟨_,rfl⟩
theorem rowHolds:mn.row.Holds:=by
 refine EB (frees_parts lS) λf hu ha Y hm=>(Gv JA Jp ⟨Ts,Q6,rfl⟩ Jp.witness λw=>⟨(OB w).1,λs' hs'=>?_⟩);refine cy ((OB w).2 s' hs') λF hf j h=>Jn h λs hT hz Z hg G0 hY U=>aS hY λX hX base=>?_;clear h hY;refine ⟨F,hf,j,s,hT,λn hn=>?_,(by intro x C;exact nomatch C),(by intro x C;exact nomatch C),?_⟩
 ·refine bf Ri λd aa e1 e2 e3=>?_
  obtain rfl:n= "law" :=by
   have:n∈(if mn.row.pinned then [mn.row.name] else []):=hn
   split at this
   ·exact IU.mp this
   ·clear hn
    exact nomatch this
  exact pinned_of_view hg G0 e1 e2 e3
 ·refine ClaimW.callFrom_of_specG (c:=rR.claim) (tree:=Zc) hz Z λargs p M ord m=>aV (mO.mp<|layAllW_isSome (R:=rR.claim.records) (cl:=classAt s.heap) (P:=w.params) (ord:=ord) (by intro c hc;exact bq hc) args rR.args s (Q0 p).1) λQ l=>?_
  obtain ⟨vs,N⟩:=Q;have keeps:=layAllW_keeps _ _ _ l;have A:=layAllW_rest _ _ _ l;refine cy (reads_layAllW m _ _ _ l M N.heap λO O e=>e) λas K i hold=>?_;have L:Laid rR.claim.records w s N args vs as:=⟨(ax ord m l),K,i,hold,keeps,A.1.trans Z,A.2.2.1⟩;refine aV (QDF (Q0 p).1) λns H=>?_;clear M K;subst H;have hi:=ident_freeW (r:=rR) hu ha Y;have B: ∀b o,(dk w.params X).get? b=aA o->N.heap.get? b=aA o:=λb o e=>keeps b o<|base b o e;have u:N.heap.Ns lQ (mg w X):=mr.g.keeps λb o e=>B b o<|KO e;have t:1<=N.toks:=(Vq L.well).elim λa e=>az (by decide)<|PySem.W.X.script_toks (e▸L) U
  refine (fD vs N l ?_);refine aR<|wpAny_nsGet u ?_;rw[QAO];refine aR<|eX (s_ hX (QBZ (Q0 p).2) B t L.gens L.well (classAt s.heap)<|ExcName.means s.heap) (λv s' g=>bA ?_) λe s' g=>?_
  ·have z:=g.laid (c:=rR.claim) f rfl hi L
   exact (L6 _ rfl z.1 z.2.1 z.2.2 (by intro q;exact nomatch q))
  ·have z:=g.laid (c:=rR.claim) f rfl hi L
   exact (kr z.1 z.2.1 z.2.2 (by intro q;exact nomatch q))
end B01
end Mine
end
theorem PySem.Challenge.cw_wf0123_02_holds : PySem.Challenge.rw_wf0123_02.Holds :=
 Mine.B01.holds_of_row Mine.B01.rowHolds
