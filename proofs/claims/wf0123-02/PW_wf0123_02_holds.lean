import PyProof.Rows.All
import Wide.All
import OpenK.AllK
import Wide.FinOn
import KE.KSetDisp
import KE.KBits
import OpenK.ZHead
import Lean
import PySem.Challenge.RW_wf0123_02
set_option Elab.async false
set_option linter.all false
set_option bootstrap.genMatcherCode false
set_option genInjectivity false
set_option genSizeOf false
set_option tactic.hygienic false
set_option maxRecDepth 100000
set_option maxHeartbeats 0
noncomputable section
open Option renaming some->aA,none->aF,map_eq_some_iff->lN,isSome_iff_exists->mQ,bind_eq_some_iff->AE,getD_some->QEq,map_eq_none_iff->QGT
open Bool renaming true->aB,false->aE,and_eq_true_iff->f7,and_eq_true->gn,eq_false_iff->uQ,eq_iff_iff->uV,not_eq_true'->uZ,and_false->uq,false_eq_true->wy,true_and->Cv,or_eq_true->IK,false_and->IL,or_eq_false_iff->Po,and_true->Pw,not_eq_true->QEo,or_eq_true_iff->QFS,false_or->QGq
open Nat renaming le_trans->az,le_of_ble_eq_true->bJ,le_refl->bh,beq->bt,blt->cP,mod_lt->dw,ble->eX,min_eq_left->fz,le_add_left->gA,mul_le_mul_left->gC,zero_le->hJ,add_le_add->iF,not_lt->iH,lt_of_le_of_lt->ig,le_of_not_lt->jN,le_antisymm->jk,lt_of_lt_of_le->mJ,lt_irrefl->mK,le_add_right->mO,le_of_eq->qm,ne_of_lt->qo,lt_of_not_le->qt,div_mul_le_self->qx,le_of_lt->sD,lt_trans->sF,lt_succ_of_lt->sP,ble_eq_true_of_le->sS,eq_of_beq_eq_true->uR,lt_succ_self->uc,zero_add->uk,lt_or_gt_of_ne->uu,add_comm->uv,ne_of_gt->wV,add_assoc->wX,sub_eq_zero_of_le->xI,add_right_comm->zt,gcd->AL,beq_refl->Co,sub_zero->Cs,mul_le_mul->Cu,min_le_right->Cw,succ->DD,exists_eq_add_of_le'->DP,mul_succ->DQ,le_succ_of_le->Hl,le_of_succ_le->H0,not_le_of_lt->H5,succ_le_succ->H7,not_le->II,mul_comm->Ic,pos_of_ne_zero->Ir,add_le_add_left->Pc,two_mul->Pd,succ_pos->Pf,not_lt_zero->QJ,add_sub_cancel'->QK,lt_or_ge->QZ,le_total->Qo,pow_succ->Qu,div_eq_of_lt->Qw,add_right_cancel->QER,sub_add_cancel->QET,le_succ->QFR,lt_of_succ_lt_succ->QFU,sub_le->QFc,min_eq_right->QFm,eq_of_testBit_eq->QFq,testBit_and->QFr,testBit_two_pow_mul->QFs,pow_le_pow_right->QFt,div_add_mod->QFu,mul_zero->QFz,strongRecOn->QGC,mul_add->QGD,le_of_lt_succ->QGJ,min_le_left->QGS,gcd_comm->QGc,succ_mul->QGm
open Int renaming toNat->bN,le_of_lt->bw,natCast_nonneg->dP,ne_of_gt->gE,one_mul->gq,not_lt->jL,toNat_of_nonneg->jO,natAbs_of_nonneg->jS,mul_comm->jr,le_trans->kD,mul_nonneg->kG,toNat_natCast->lR,mul_pos->lU,ofNat_lt->mF,mul_le_mul_of_nonneg_right->mV,emod_nonneg->mX,emod_lt_of_pos->nV,fmod_lt_of_pos->nW,fmod_nonneg_of_pos->nX,ofNat_le->oq,lt_of_le_of_lt->o9,mul_ediv_add_emod->pL,lt_of_lt_of_le->pP,add_mul->qu,add_nonneg->qw,ediv_lt_of_lt_mul->sZ,le_refl->uW,le_antisymm->uX,mul_one->ug,ediv_nonneg->ur,add_comm->xK,mul_assoc->xM,ofNat_natAbs_of_nonpos->xO,not_le->zU,zero_add->zo,lt_or_gt_of_ne->AJ,natAbs_add_le->AM,add_le_add->Ck,le_of_eq->Cm,emod_add_emod->DV,mul_le_mul_of_nonneg_left->Hg,mul_le_mul->Hm,eq_ofNat_of_zero_le->IC,lt_trans->Ib,mul_add->Ie,add_mul_ediv_left->Iq,natAbs_mul->Iu,add_lt_add_iff_right->Iv,sub_nonneg_of_le->Iy,mul_neg_one->Iz,fdiv_eq_ediv_of_nonneg->Qp,lt_or_le->Qq,sub_mul->Qr,add_sub_cancel->Qv,mul_zero->Qx,natAbs_neg->Q6,ediv_eq_zero_of_lt->Q8,add_left_inj->QES,max_eq_right->QEU,le_of_not_gt->QEe,add_lt_add_left->QFv,ediv_ediv_of_nonneg->QFw,mul_lt_mul_of_pos_right->QFx,emod_emod_of_dvd->QFy,ediv_one->QGA,emod_eq_of_lt->QGB,natCast_add->QGE,natCast_mul->QGF,add_assoc->QGH,add_zero->QGI,add_mul_emod_self_left->QGb,ofNat_ne_zero->QGd,mul_sub->QGj,le_natAbs->QGl,neg_fdiv_neg->QGn,sub_le_self->QGo,natAbs_natCast->QGr
open List renaming range->bg,mem_cons->bp,replicate->dV,length_map->dY,all_eq_true->dq,length_append->du,append_nil->eZ,map_cons->gB,not_mem_nil->gU,size_toArray->gm,map_append->gp,lookup_cons->iK,mem_map->ij,append_assoc->ik,map_nil->jq,filterMap_cons->nP,foldl_cons->ot,length_cons->pQ,mem_append->qn,mem_range->sG,getElem?_eq_getElem->sR,cons_append->sV,take_append_drop->sY,nil_append->sa,take_of_length_le->uY,forIn_cons->ud,length_nil->um,drop_eq_nil_of_le->uw,length_range->xB,nodup_append->xG,replicate_succ->xN,filter_cons->xP,mem_cons_of_mem->zV,getElem?_eq_some_iff->zZ,getElem?_toArray->zc,forIn_nil->zj,reverse_cons->zv,length_reverse->AA,length_replicate->AI,getElem?_eq_none->DC,map_map->DE,mem_reverse->DF,getElem?_map->DI,length_take->DM,mem_of_getElem?->DO,flatten_cons->DR,mem_replicate->DW,mem_filterMap->Hj,contains_iff_mem->Hx,drop_eq_getElem_cons->H8,length_drop->IU,mem_singleton->Ig,map_congr_left->Ih,getD->Ii,flatten_nil->Ij,foldl->Iw,mem_append_left->Pe,nodup_cons->Pu,map_reverse->QC,isEmpty_iff->QG,getElem?_range->QI,length->Qa,sum_cons->Qk,drop_zero->Qy,drop_left->Qz,isEmpty_map->Q7,mem_append_right->QEW,getElem?_eq_none_iff->QEh,findIdx_cons->QEp,lookup->QEr,drop_length->QEu,ext_getElem?->QFA,length_eq_zero_iff->QFG,nodup_nil->QFO,all_cons->QFT,range'_succ->QFV,range_eq_range'->QFW,push_toArray->QFe,map_inj_left->QFh,sum_nil->QFi,drop_drop->QGG,take_left->QGK,takeWhile_append_of_pos->QGN,map_eq_nil_iff->QGO,length_filter_le->QGQ,filterMap->QGe,replicate_succ'->QGf,filter_map->QGi,mem_filter->QGk,rec->QGp
open Or renaming elim->cp
open Eq renaming refl->ej
open Array renaming length_toList->js,size_extract->uU,getD_eq_getD_getElem?->IP,size_push->QQ,size_append->Qn,toList_inj->Q0,getElem?_extract->QEX,getElem?_eq_getElem->QFF,toList_append->QFQ,all_toList->QGa
open Option.some renaming inj->kC
open Ne renaming symm->lO
open PUnit renaming unit->lQ
open False renaming elim->mG
open ForInStep renaming yield->oz
open Prod.mk renaming injEq->sT,inj->QM
open Nat.succ renaming inj->zz
open Decidable renaming em->Ip,byContradiction->QHa
open Classical renaming choose->QGg,choose_spec->QGh,byContradiction->QHK
open PySem PySem.W PyProof.Rows PySem.Calls PyProof.V
local macro_rules | `(tactic|ac_rfl)=> `(tactic|first|(simp+arith only;done)|(simp+arith only[Int.natCast_add,Int.natCast_mul,Int.cast_ofNat_Int];done)|simp+arith)
local macro_rules | `(tactic|lia)=> `(tactic|kernel_rfl)
local macro_rules | `(tactic|simp! only[$ts,*] $(l)?)=> `(tactic|simp -iota only[$ts,*] $(l)?)
local macro_rules | `(tactic|omega)=> `(tactic|lia+abstractProof)
local macro_rules | `(tactic|ac_nf)=> `(tactic|(simp -iota only[typeLookup_type,builtinLookup_eq_fast];kernel_rfl))
universe u v w
open PySem renaming Str->aG,Value->aI,Addr->aM,Shared->aN,wpAny->aO,Expr->aP,wpAny_bind->aR,model->aY,wpAny_pure->bA,Obj->bH,Heap->bK,Pos->bP,Params->bZ,Sem->ba,World->bz,eval->b7,wpAny_holding->cO,Around->cV,Env->cg,Stmt->cq,NameKind->dQ,OsState->eH,wpAny_mono->eY,Tok->fG,starEach->fI,CmpOp->fV,execs->fX,Str->fY,Flow->hM,Operator->iG,wpAny_standAt->iJ,builtinsNs->ic,wpAny_execs_cons->ip,intKind->iq,cellsFrom->jP,Scope->jQ,swapsWithSole->jo,pushCells->kE,denote->kF,sliceBounds->kf,BoolOp->kg,treeTable->km,mainNs->lS,sizeLine->mL,backTo->mM,assign->mR,swappedStores->mT,mainGlobals->nO,bindArgs->nQ,Expr->nS,Fin->nT,JoinOk->nU,wpAny_truthy_bool->ou,holding->oy,rawInt->o5,exec->o6,wpAny_Call_Name_kw->qp,wpAny_of_eq->qr,Program->sH,compareOp->sI,spliced->sM,behindInMarks->sN,standAt->sO,Walks->sQ,runN->sU,wpAny_assign_Name->uf,codeAny->uh,assignEach->uj,strValues->wd,seqIndex?->we,subscripted->wg,operate->wh,getItem->wi,callWith->wj,callWith_type->wo,attributeBase->wq,Keyword->wu,wpAny_Call_method_lateS->wx,wpAny_call->xA,Builtin->xE,DictEntry->xF,subDict->xH,Reads->zW,isTrue->zi,pyIter->zl,Result->zq,wpAny_execs_nil->zy,bindName->z7,dropValue->z9,sizeLine_eq->AG,sliceRange->Cn,storeName->Ct,getMethod->Cy,sysModules->Cz,Model->DB,swapsWith->DG,table->DK,schedN->DL,nsFind->DN,truthy->Ho,bootBuiltins->Hp,wpAny_isTrue_Compare1->Hr,wpAny_List->Hu,typeOf->Hy,wpAny_evalPart_none->Hz,newEnv->H2,newFunctionEnv->H3,wpAny_alloc->H4,foldedSetIterable->H6,setItem->H9,slot_list_setitem->IA,wpAny_call_entry->IB,wpAny_If->IF,wpAny_seqItems->IG,Comprehension->IH,argsOk->IQ,updateSeq->IS,mergeMapping->IT,findBy->IY,callEnv->IZ,wpAny_isTrue_value->Ia,table_eq_tree->Im,slot_list_getitem->Pg,typeIs_str->Ph,wpAny_loadName_local->Pj,wpAny_Compare1->Pk,wpAny_isNot_plain->Pn,PlainAttrs->Pp,backToKw->Pq,keywordEach->Pr,pushCells_keeps->Pt,letOwnedTupleGo->Px,keeperOf->Py,call_type_of->Pz,unpackItems->QA,arm_exec_Assign->QB,arm_assign_Subscript->QD,codeAny_call_function->QE,functionCode->QF,lastMarks->QH,entryFor->QN,entryFor_of_tree->QO,wpAny_fieldsOf->QP,seqItems?->QR,wpAny_mkStr->QS,codeAny_builtin->QT,typeLookup->QU,typeLookup_type->QV,builtinLookup_eq_fast->QW,dictDisplay->QY,runValue->Qb,moduleCode->Qd,newBodyFrame->Qe,blockStart->Qg,evalEachOpt->Qh,evalEach->Qi,codeAny_call_def->Ql,arm_execs_cons->Q3,wpAny_storeName_local->QEY,wpAny_getItem_list->QEg,wpAny_Constant_int->QEi,wpAny_UnaryOp->QEj,wpAny_isTrue_Not->QEk,wpAny_is_plain->QEl,wpAny_pyIter_list->QEs,wpAny_list_append_plain->QEt,wpAny_newObj_type->QEv,methodCallPos->QEw,wpAny_specialOf->QEz,wpAny_sequenceKey->QFB,wpAny_callSpecial?_slot->QFC,entry_list_setitem->QFD,args_list_setitem->QFE,wpAny_bindName->QFH,wpAny_Continue->QFJ,codeAny_forLoop_any->QFK,codeAny_whileLoop->QFL,wpAny_listPart->QFM,wpAny_updateSeq->QFN,wpCode_iff_wp->QFZ,builtinType_eq_fast->QFa,signature?_of->QFb,wpAny_dictFind_int->QFd,wpAny_dictEntries->QFf,wpAny_onRaise->QFg,wpAny_inSet_of->QFl,wpAny_askSetting->QFp,intText?->QGP,leftWithCleanup->QGU,arm_execs_nil->QGV,model->QGW,importedModules->QGX,call->QGs
open PySem.W renaming Dat->aK,kqdOk->fP,SharedT->hO,absHeap->pJ,ofPy->ux,kqdP->wc,listOf->zh,behindTheImports->AF,WellAll->DU,abs_get->IM,absHeap_at->Il,looseW->Io,absHeap_size->QL,kbt_mask->Qt,readsOut->Q4,noRoadLSs->Q5,pre_splitW->RA,stripBy_eq->QGL,stripped->QGM,wellAll_cons_inv->QGZ
open PySem.W.Dat renaming int->cB,str->sJ,list->DH,tuple->QFX
open PySem.Txt renaming lower->cH,slice->iI,replace->Cr,join->DJ,rstrip->Q2,lstripChars->Q9
open PySem.Heap renaming get?_push_size->fH,get?_push_of_some->gS,get?_none_of_le->ie,lt_size->kh,get?->wZ,get?_update_self->wz,size_push->DA,get?_some_iff->Hi,SameBut->Hk,nsMap->Qj
open PySem.Sem renaming wp->f6,wp_bind'->pR,wp_pure'->DT,wp_mono->Ik
open PySem.Builtin renaming bitAnd->jM,divisionGoesByPylong->sC,bitOr->uS,bitXor->Cp,bitNot->QEV
open PySem.Sre renaming Seen->jR,forSearch->kj,inSet->AB,Frame->IJ
open PySem.Calls renaming spliced_nil->lP,spliced_cons->ua,callWith_builtin->wm,callWith_function->zr,Name_function_global->Hv,loadGlobal_builtin->QEm,loadGlobal_global->QEn
open PySem.NameKind renaming cell->mP,free->o3
open PySem.Value renaming isInt->mU,ref->wY,int->Qc,type->QFj,isInt_shape->QFk
open PySem.PyData renaming strOk->mY,list->xQ,int->xR
open PyProof.Rows renaming News->uT,tail_any->zY,wpAny_release'->IE,Subscript_->Pm,eq_str->QEc,ne_str->QEd,subscriptTail->QEf,add_int->QHL,sub_int->QHM,mul_int->QHN,eq_int->QHP,ne_int->QHQ,lt_int->QHR,le_int->QHS,gt_int->QHT,ge_int->QHU,len_list->QHV,len_tuple->QHW,slice_closesL->QHZ
open PySem.F renaming plainAttrs_str->ub,plainAttrs_dict->QEx,slot_dict_get->QEy,plainAttrs_list->QFI,slot_dict_items->QFP
open PySem.Sre.M renaming admitted->AD
open PySem.SetTable renaming eraseAt->AH,insertAt->Qm,fits->QFn,fill->QFo
open PySem.Unicode renaming isSpace->AK
open PySem.Heap.SameBut renaming update->ID
open PySem.Str renaming ofString->IV,ofString->IX,mk->Q1
open PySem.Shared renaming asleep_of_life->QX,mk->QFY
open PySem.SeqAt renaming shaped->QEZ,in_list_reads->QEa,notIn_list_reads->QEb
open PySem.Builtin.Str renaming tooLong->QGR,tooLong->QHO,strKind->QHY
open PySem.Challenge renaming rw_wf0123_02->QGY,pw_wf0123_02->QHX
namespace Mine
noncomputable def QHb:= @absurd
noncomputable def QHc:= @if_neg
noncomputable def QHd:= @if_pos
noncomputable def QHe:= @beq_iff_eq
noncomputable def QHf:= @congrArg
noncomputable def QHg:= @beq_self_eq_true
noncomputable def QHh:= @beq_false_of_ne
noncomputable def QHi:= @of_decide_eq_true
noncomputable def QHj:= @decide_eq_true
noncomputable def QHk:= @bne_self_eq_false
section
variable {g:Prop}
section
variable {p q r s t k l m:Prop}
theorem bI (h:p/\q) (f:p->q->g):g:=f h.1 h.2
theorem eN (h:p/\q/\r) (f:p->q->r->g):g:=bI h λa b=>bI b<|f a
theorem j5 (h:p/\q/\r/\s) (f:p->q->r->s->g):g:=bI h λa b=>eN b<|f a
theorem Gs (h:p/\q/\r/\s/\t) (f:p->q->r->s->t->g):g:=bI h λa b=>j5 b<|f a
theorem Fs (h:p/\q/\r/\s/\t/\k) (f:p->q->r->s->t->k->g):g:=bI h λa b=>Gs b<|f a
theorem Dl (h:p/\q/\r/\s/\t/\k/\l) (f:p->q->r->s->t->k->l->g):g:=bI h λa b=>Fs b<|f a
theorem QCa (h:p/\q/\r/\s/\t/\k/\l/\m) (f:p->q->r->s->t->k->l->m->g):g:=bI h λa b=>Dl b<|f a
end
section
variable {A:Sort _} {p q r s t k l m:A->Prop}
theorem aV (h: ∃x,p x) (f: ∀x,p x->g):g:=h.elim f
theorem aS (h: ∃x,p x/\q x) (f: ∀x,p x->q x->g):g:=h.elim λa b=>bI b<|f a
theorem dA (h: ∃x,p x/\q x/\r x) (f: ∀x,p x->q x->r x->g):g:=h.elim λa b=>eN b<|f a
theorem se (h: ∃x,p x/\q x/\r x/\s x) (f: ∀x,p x->q x->r x->s x->g):g:=h.elim λa b=>j5 b<|f a
theorem uL (h: ∃x,p x/\q x/\r x/\s x/\t x) (f: ∀x,p x->q x->r x->s x->t x->g):g:=h.elim λa b=>Gs b<|f a
theorem Yh (h: ∃x,p x/\q x/\r x/\s x/\t x/\k x) (f: ∀x,p x->q x->r x->s x->t x->k x->g):g:=h.elim λa b=>Fs b<|f a
theorem J3 (h: ∃x,p x/\q x/\r x/\s x/\t x/\k x/\l x) (f: ∀x,p x->q x->r x->s x->t x->k x->l x->g):g:=h.elim λa b=>Dl b<|f a
end
section
variable {A B:Sort _} {p q r s t k l m:A->B->Prop}
theorem jY (h: ∃x y,p x y) (f: ∀x y,p x y->g):g:=h.elim λa b=>aV b<|f a
theorem cT (h: ∃x y,p x y/\q x y) (f: ∀x y,p x y->q x y->g):g:=h.elim λa b=>aS b<|f a
theorem bc (h: ∃x y,p x y/\q x y/\r x y) (f: ∀x y,p x y->q x y->r x y->g):g:=h.elim λa b=>dA b<|f a
theorem iT (h: ∃x y,p x y/\q x y/\r x y/\s x y) (f: ∀x y,p x y->q x y->r x y->s x y->g):g:=h.elim λa b=>se b<|f a
theorem oh (h: ∃x y,p x y/\q x y/\r x y/\s x y/\t x y) (f: ∀x y,p x y->q x y->r x y->s x y->t x y->g):g:=h.elim λa b=>uL b<|f a
theorem Be (h: ∃x y,p x y/\q x y/\r x y/\s x y/\t x y/\k x y) (f: ∀x y,p x y->q x y->r x y->s x y->t x y->k x y->g):g:=h.elim λa b=>Yh b<|f a
theorem QAF (h: ∃x y,p x y/\q x y/\r x y/\s x y/\t x y/\k x y/\l x y) (f: ∀x y,p x y->q x y->r x y->s x y->t x y->k x y->l x y->g):g:=h.elim λa b=>J3 b<|f a
end
section
variable {A B C:Sort _} {p q r s t k l m:A->B->C->Prop}
theorem QCG (h: ∃x y z,p x y z) (f: ∀x y z,p x y z->g):g:=h.elim λa b=>jY b<|f a
theorem oH (h: ∃x y z,p x y z/\q x y z) (f: ∀x y z,p x y z->q x y z->g):g:=h.elim λa b=>cT b<|f a
theorem dT (h: ∃x y z,p x y z/\q x y z/\r x y z) (f: ∀x y z,p x y z->q x y z->r x y z->g):g:=h.elim λa b=>bc b<|f a
theorem dZ (h: ∃x y z,p x y z/\q x y z/\r x y z/\s x y z) (f: ∀x y z,p x y z->q x y z->r x y z->s x y z->g):g:=h.elim λa b=>iT b<|f a
theorem QDF (h: ∃x y z,p x y z/\q x y z/\r x y z/\s x y z/\t x y z) (f: ∀x y z,p x y z->q x y z->r x y z->s x y z->t x y z->g):g:=h.elim λa b=>oh b<|f a
theorem QHJ (h: ∃x y z,p x y z/\q x y z/\r x y z/\s x y z/\t x y z/\k x y z) (f: ∀x y z,p x y z->q x y z->r x y z->s x y z->t x y z->k x y z->g):g:=h.elim λa b=>Be b<|f a
end
section
variable {A B C D:Sort _} {p q r s t k l m:A->B->C->D->Prop}
theorem zD (h: ∃x y z u,p x y z u) (f: ∀x y z u,p x y z u->g):g:=h.elim λa b=>QCG b<|f a
theorem Hc (h: ∃x y z u,p x y z u/\q x y z u) (f: ∀x y z u,p x y z u->q x y z u->g):g:=h.elim λa b=>oH b<|f a
theorem QCs (h: ∃x y z u,p x y z u/\q x y z u/\r x y z u/\s x y z u) (f: ∀x y z u,p x y z u->q x y z u->r x y z u->s x y z u->g):g:=h.elim λa b=>dZ b<|f a
theorem uG (h: ∃x y z u,p x y z u/\q x y z u/\r x y z u/\s x y z u/\t x y z u) (f: ∀x y z u,p x y z u->q x y z u->r x y z u->s x y z u->t x y z u->g):g:=h.elim λa b=>QDF b<|f a
end
section
variable {p q r s t k l m:Prop}
theorem kq (h0:p) (h1:q) (h2:r) (h3:s):p/\q/\r/\s:=⟨h0,h1,h2,h3⟩
theorem HM (h0:p) (h1:q) (h2:r) (h3:s) (h4:t):p/\q/\r/\s/\t:=⟨h0,h1,h2,h3,h4⟩
theorem QCA (h0:p) (h1:q) (h2:r) (h3:s) (h4:t) (h5:k):p/\q/\r/\s/\t/\k:=⟨h0,h1,h2,h3,h4,h5⟩
end
section
variable {A:Sort _} {p q r s t k l m:A->Prop}
theorem UJ (x:A) (h0:p x): ∃x,p x:=⟨x,h0⟩
theorem ax (x:A) (h0:p x) (h1:q x): ∃x,p x/\q x:=⟨x,h0,h1⟩
theorem gd (x:A) (h0:p x) (h1:q x) (h2:r x): ∃x,p x/\q x/\r x:=⟨x,h0,h1,h2⟩
theorem kM (x:A) (h0:p x) (h1:q x) (h2:r x) (h3:s x): ∃x,p x/\q x/\r x/\s x:=⟨x,h0,h1,h2,h3⟩
theorem NX (x:A) (h0:p x) (h1:q x) (h2:r x) (h3:s x) (h4:t x): ∃x,p x/\q x/\r x/\s x/\t x:=⟨x,h0,h1,h2,h3,h4⟩
theorem R6 (x:A) (h0:p x) (h1:q x) (h2:r x) (h3:s x) (h4:t x) (h5:k x): ∃x,p x/\q x/\r x/\s x/\t x/\k x:=⟨x,h0,h1,h2,h3,h4,h5⟩
theorem UT (x:A) (h0:p x) (h1:q x) (h2:r x) (h3:s x) (h4:t x) (h5:k x) (h6:l x): ∃x,p x/\q x/\r x/\s x/\t x/\k x/\l x:=⟨x,h0,h1,h2,h3,h4,h5,h6⟩
end
section
variable {A B:Sort _} {p q r s t k l m:A->B->Prop}
theorem l6 (x:A) (y:B) (h0:p x y): ∃x y,p x y:=⟨x,UJ y h0⟩
theorem et (x:A) (y:B) (h0:p x y) (h1:q x y): ∃x y,p x y/\q x y:=⟨x,ax y h0 h1⟩
theorem cy (x:A) (y:B) (h0:p x y) (h1:q x y) (h2:r x y): ∃x y,p x y/\q x y/\r x y:=⟨x,gd y h0 h1 h2⟩
theorem jj (x:A) (y:B) (h0:p x y) (h1:q x y) (h2:r x y) (h3:s x y): ∃x y,p x y/\q x y/\r x y/\s x y:=⟨x,kM y h0 h1 h2 h3⟩
theorem va (x:A) (y:B) (h0:p x y) (h1:q x y) (h2:r x y) (h3:s x y) (h4:t x y): ∃x y,p x y/\q x y/\r x y/\s x y/\t x y:=⟨x,NX y h0 h1 h2 h3 h4⟩
theorem uC (x:A) (y:B) (h0:p x y) (h1:q x y) (h2:r x y) (h3:s x y) (h4:t x y) (h5:k x y): ∃x y,p x y/\q x y/\r x y/\s x y/\t x y/\k x y:=⟨x,R6 y h0 h1 h2 h3 h4 h5⟩
theorem Rq (x:A) (y:B) (h0:p x y) (h1:q x y) (h2:r x y) (h3:s x y) (h4:t x y) (h5:k x y) (h6:l x y): ∃x y,p x y/\q x y/\r x y/\s x y/\t x y/\k x y/\l x y:=⟨x,UT y h0 h1 h2 h3 h4 h5 h6⟩
end
section
variable {A B C:Sort _} {p q r s t k l m:A->B->C->Prop}
theorem WX (x:A) (y:B) (z:C) (h0:p x y z): ∃x y z,p x y z:=⟨x,l6 y z h0⟩
theorem Js (x:A) (y:B) (z:C) (h0:p x y z) (h1:q x y z): ∃x y z,p x y z/\q x y z:=⟨x,et y z h0 h1⟩
theorem ly (x:A) (y:B) (z:C) (h0:p x y z) (h1:q x y z) (h2:r x y z): ∃x y z,p x y z/\q x y z/\r x y z:=⟨x,cy y z h0 h1 h2⟩
theorem qT (x:A) (y:B) (z:C) (h0:p x y z) (h1:q x y z) (h2:r x y z) (h3:s x y z): ∃x y z,p x y z/\q x y z/\r x y z/\s x y z:=⟨x,jj y z h0 h1 h2 h3⟩
theorem EK (x:A) (y:B) (z:C) (h0:p x y z) (h1:q x y z) (h2:r x y z) (h3:s x y z) (h4:t x y z): ∃x y z,p x y z/\q x y z/\r x y z/\s x y z/\t x y z:=⟨x,va y z h0 h1 h2 h3 h4⟩
end
section
variable {A B C D:Sort _} {p q r s t k l m:A->B->C->D->Prop}
theorem FJ (x:A) (y:B) (z:C) (u:D) (h0:p x y z u) (h1:q x y z u) (h2:r x y z u) (h3:s x y z u): ∃x y z u,p x y z u/\q x y z u/\r x y z u/\s x y z u:=⟨x,qT y z u h0 h1 h2 h3⟩
theorem GK (x:A) (y:B) (z:C) (u:D) (h0:p x y z u) (h1:q x y z u) (h2:r x y z u) (h3:s x y z u) (h4:t x y z u): ∃x y z u,p x y z u/\q x y z u/\r x y z u/\s x y z u/\t x y z u:=⟨x,EK y z u h0 h1 h2 h3 h4⟩
end
end
theorem ay {α:Type u} {p:Prop} {a:α} (e:aF=aA a):p:=nomatch e
theorem qU {α:Type u} {p:Prop} {a:α} (e:aA a=aF):p:=nomatch e
theorem bq {p:Prop} (e:aE=aB):p:=nomatch e
theorem yr {p:Prop} (e:aB=aE):p:=nomatch e
theorem cb {α:Type u} {p:Prop} {o:Option α} {a:α} (h:o=aF) (e:o=aA a):p:=nomatch h.symm.trans e
theorem vB {α:Type u} {p:Prop} {o:Option α} {a:α} (h:o=aA a) (e:o=aF):p:=nomatch h.symm.trans e
theorem bM {α:Type u} {o:Option α} {a b:α} (h:o=aA a) (e:o=aA b):a=b:=kC<|h.symm.trans e
@[elab_as_elim] theorem sb {α:Sort u} {b:α} {motive:α->Prop} {a:α} (h:b=a) (k:motive a):motive b:=h.symm▸k
@[elab_as_elim] theorem cw {α:Sort u} {b:α} {motive:α->Prop} {a:α} (h:a=b) (k:motive a):motive b:=h▸k
theorem na {a b c d:Nat} (h:a<=b) (k:c<=d):a+c<=b+d:=iF h k
theorem ni {a b c d:Int} (h:a<=b) (k:c<=d):a+c<=b+d:=Ck h k
theorem ea {a b c d:Nat} (h:a=b) (k:c=d):a+c=b+d:=h▸k▸rfl
theorem ei {a b c d:Int} (h:a=b) (k:c=d):a+c=b+d:=h▸k▸rfl
theorem aQ {a0 b0 c d:Nat} (h0:a0<=b0) (e:c+b0<=d+a0:=by ac_rfl):c<=d:=Nat.le_of_add_le_add_right<|az e<|Pc h0 d
theorem ky {a0 b0:Nat} {p:Prop} (h0:a0<=b0) (e:b0+1<=a0:=by ac_rfl):p:=QHb (az e h0)<|Nat.not_succ_le_self b0
theorem bD {a0 b0 a1 b1 c d:Nat} (h0:a0<=b0) (h1:a1<=b1) (e:c+(b0+b1)<=d+(a0+a1):=by ac_rfl):c<=d:=aQ (iF h0 h1) e
theorem cY {a0 b0 a1 b1:Nat} {p:Prop} (h0:a0<=b0) (h1:a1<=b1) (e:b0+b1+1<=a0+a1:=by ac_rfl):p:=ky (iF h0 h1) e
theorem rF {a0 b0 a1 b1 c d:Nat} (h0:a0=b0) (h1:a1=b1) (e:c+(b0+b1)=d+(a0+a1):=by ac_rfl):c=d:=by subst h0;subst h1;exact QER e
theorem bE {a0 b0 c d:Int} (h0:a0<=b0) (e:c+b0<=d+a0:=by ac_rfl):c<=d:=Int.le_of_add_le_add_right<|kD e<|Int.add_le_add_left h0 d
theorem bG {a0 b0 a1 b1 c d:Int} (h0:a0<=b0) (h1:a1<=b1) (e:c+(b0+b1)<=d+(a0+a1):=by ac_rfl):c<=d:=bE (Ck h0 h1) e
theorem fj {a0 b0 a1 b1:Int} {p:Prop} (h0:a0<=b0) (h1:a1<=b1) (e:b0+b1+1<=a0+a1:=by ac_rfl):p:=QHb (kD e<|Ck h0 h1)<|zU.mpr<|Int.lt_succ _
theorem vd {a0 b0 c d:Int} (h0:a0=b0) (e:c+b0=d+a0:=by ac_rfl):c=d:=by subst h0;exact (QES _).mp e
theorem nL {a b:Nat} (h:a=b):a<=b:=qm h
theorem nR {a b:Nat} (h:a=b):b<=a:=qm h.symm
theorem iL {a b:Int} (h:a=b):a<=b:=Cm h
theorem iR {a b:Int} (h:a=b):b<=a:=Cm h.symm
theorem oL {a b:Nat} (h:a<=b):(a:Int)<=b:=oq.mpr h
theorem oZ (n:Nat):(0:Int)<=n:=dP n
theorem sL {a b:Nat} (h:b<=a):a - b+b<=a:=qm<|QET h
theorem vV {a0 b0 c d:Nat} (h0:a0=b0) (e:c+b0=d+a0:=by ac_rfl):c=d:=by subst h0;exact QER e
theorem mI {a b:Int} (k:Nat) (h:a<=b):(k:Int)*a<=k*b:=Hg h<|dP k
theorem oM {a b:Nat} (h:(a:Int)<=b):a<=b:=oq.mp h
theorem dG (x:Nat) {c:Nat} (h:0<c):x+1<=x / c*c+c:=Nat.lt_div_mul_add h
theorem sE {a b:Nat} (h:b<=a):a - b+b=a:=QET h
theorem o4 {k:Nat} (h:k=0\/k=1\/k=2\/k=3):k<4:=h.elim (λe=>e▸by decide) λh=>h.elim (λe=>e▸by decide) λh=>h.elim (λe=>e▸by decide) λh=>h▸by decide
theorem o8 {k:Nat} (h:k=0\/k=1\/k=2\/k=3\/k=4\/k=5\/k=6\/k=7):k<8:=h.elim (λe=>e▸by decide) λh=>h.elim (λe=>e▸by decide) λh=>h.elim (λe=>e▸by decide) λh=>h.elim (λe=>e▸by decide) λh=>h.elim (λe=>e▸by decide) λh=>h.elim (λe=>e▸by decide) λh=>h.elim (λe=>e▸by decide) λh=>h▸by decide
theorem o7 {s:Nat} (h:s=1\/s=2\/s=3\/s=4\/s=5\/s=6\/s=7):s<8:=h.elim (λe=>e▸by decide) λh=>h.elim (λe=>e▸by decide) λh=>h.elim (λe=>e▸by decide) λh=>h.elim (λe=>e▸by decide) λh=>h.elim (λe=>e▸by decide) λh=>h.elim (λe=>e▸by decide) λh=>h▸by decide
theorem o7p {s:Nat} (h:s=1\/s=2\/s=3\/s=4\/s=5\/s=6\/s=7):0<s:=h.elim (λe=>e▸by decide) λh=>h.elim (λe=>e▸by decide) λh=>h.elim (λe=>e▸by decide) λh=>h.elim (λe=>e▸by decide) λh=>h.elim (λe=>e▸by decide) λh=>h.elim (λe=>e▸by decide) λh=>h▸by decide
theorem n4 {k:Nat} (h:k<4):k=0\/k=1\/k=2\/k=3:=(by decide: ∀k,k<4->(k=0\/k=1\/k=2\/k=3)) k h
theorem n8 {k:Nat} (h:k<8):k=0\/k=1\/k=2\/k=3\/k=4\/k=5\/k=6\/k=7:=(by decide: ∀k,k<8->(k=0\/k=1\/k=2\/k=3\/k=4\/k=5\/k=6\/k=7)) k h
theorem n7 {s:Nat} (h:0<s) (k:s<8):s=1\/s=2\/s=3\/s=4\/s=5\/s=6\/s=7:=(n8 k).resolve_left<|wV h
theorem G5 (a:Nat): ¬ (a:Int)<0:=jL.mpr<|oZ a
theorem MK {a n:Nat} (h:a<=n):max 0 (min (if (a:Int)<0 then (a:Int)+(n:Nat) else (a:Int)) n)=(a:Int):=by rw[if_neg<|G5 a,Int.min_eq_left<|oL h,QEU<|oZ a]
theorem Yu {a n:Nat} (h: ¬ a<=n):max 0 (min (if (a:Int)<0 then (a:Int)+(n:Nat) else (a:Int)) n)=(n:Int):=by rw[if_neg<|G5 a,Int.min_eq_right<|oL<|Nat.le_of_not_le h,QEU<|oZ n]
theorem MU {k n:Nat} (h:k<n):(0<=(if (k:Int)<0 then (k:Int)+(n:Nat) else (k:Int))/\(if (k:Int)<0 then (k:Int)+(n:Nat) else (k:Int))<n)/\(if (k:Int)<0 then (k:Int)+(n:Nat) else (k:Int)).toNat=k:=by rw[if_neg<|G5 k];exact ⟨⟨oZ k,mF.mpr h⟩,rfl⟩
theorem Sb (L k:Nat):(L+(L+k)) / 2=L+k / 2:=by rw[<-wX,<-Pd,Nat.mul_add_div<|by decide]
theorem Od (L k:Nat):((L:Int)+((L+k:Nat):Int)) / 2^bN 1=((L+k / 2:Nat):Int):=QHf (Nat.cast (R:=Int))<|Sb L k
theorem n_ (h:Nat):(((2*h+1:Nat):Int)+1) / 2=((h+1:Nat):Int):=QHf (Nat.cast (R:=Int)) (Nat.mul_div_cancel_left (h+1) (by decide):2*(h+1) / 2=h+1)
theorem qi2 {a0 b0 a1 b1 c d:Int} (h0:a0=b0) (h1:a1=b1) (e:c+(b0+b1)=d+(a0+a1):=by ac_rfl):c=d:=by subst h0;subst h1;exact (QES _).mp e
theorem m4 {k:Nat} (h:k∈[0,1,2,3]):k<4:=(by decide: ∀k∈[0,1,2,3],k<4) k h
theorem m8 {k:Nat} (h:k∈[0,1,2,3,4,5,6,7]):k<8:=(by decide: ∀k∈[0,1,2,3,4,5,6,7],k<8) k h
theorem m7 {k:Nat} (h:k∈[1,2,3,4,5,6,7]):k<8:=(by decide: ∀k∈[1,2,3,4,5,6,7],k<8) k h
theorem m7p {k:Nat} (h:k∈[1,2,3,4,5,6,7]):0<k:=(by decide: ∀k∈[1,2,3,4,5,6,7],0<k) k h
theorem l8 {k:Nat} (h:k<8):k∈[0,1,2,3,4,5,6,7]:=(by decide: ∀k,k<8->k∈[0,1,2,3,4,5,6,7]) k h
theorem l7 {k:Nat} (h:0<k) (i:k<8):k∈[1,2,3,4,5,6,7]:=(by decide: ∀k,k<8->0<k->k∈[1,2,3,4,5,6,7]) k i h
local macro_rules | `(tactic|erw[$t:term])=> `(tactic|refine sb $t ?_)| `(tactic|erw[<- $t:term])=> `(tactic|refine cw $t ?_)
inductive V|d (x:Dat)|bor (i:Nat)|inst|emp
inductive Sl|unb|val (x:Dat)|own (xs:List Dat)|ali (j:Nat)|inst|clo (f:Nat)|eC (n:Nat)|emp
noncomputable abbrev bQ:=Nat->Sl
noncomputable def upd (r:bQ) (i:Nat) (s:Sl):bQ:=λj=>if j=i then s else r j
noncomputable def aT:Nat:=1000000
noncomputable def bR:Nat:=1000001
noncomputable def cU (i r:Nat):Nat:=2000000+100*i+r
inductive cS|one (i:Nat)|tup (is:List Nat)
inductive Bi|len|sum|m9|max2|kZ|min2|abs|chr|ord|rv|sd|divmod
inductive Sm|lower|upper|swapcase|rstrip|qa|split|join|bits
inductive Fl|next|cont|ret (v:Dat)
noncomputable abbrev Ls:=List<|Nat×Sl
noncomputable def aL:Ls->bQ
 |[],_=>.unb
 |(j,s)::l,i=>bif bt j i then s else aL l i
noncomputable def cL:Ls->Nat->Sl->Ls
 |[],i,v=>[(i,v)]
 |(j,s)::l,i,v=>bif bt j i then (j,v)::l else (j,s)::cL l i v
structure bj where
 F:Nat->List aK->aK->Prop
 H:Nat->List aK->List aK->aK->List aK->Prop
 R:Nat->List aK->List aK->aK->Prop
 L:Nat->List aK->Ls->aK->Ls->Prop
 b1:Int->Bool
 b3:Int->aK
 gi:aG->Int->Prop
 gs:aG->aG->Prop
noncomputable def nI (x:aG):List Dat:=x.cps.toList.map λc=>.str ⟨#[c]⟩
inductive gb (r:bQ):V->List aK->Prop
 |d {xs}:gb r (.d<|.list xs) xs
 |bor {i xs}:r i=.own xs->gb r (.bor i) xs
inductive zK (r:bQ):V->List aK->Prop
 |l {v xs}:gb r v xs->zK r v xs
 |t {xs}:zK r (.d<|.tuple xs) xs
inductive vZ (r:bQ):V->List aK->Prop
 |q {v xs}:zK r v xs->vZ r v xs
 |s {x}:vZ r (.d<|.str x) (nI x)
noncomputable abbrev ib (a:Int):Nat:=Builtin.Int.intBits a
inductive kI:iG->Int->Int->Int->Prop
 |add {a b}:kI .Add a b (a+b)
 |sub {a b}:kI .Sub a b (a - b)
 |mul {a b}:ib a+ib b<=134217728->kI .Mult a b (a*b)
 |fdiv {a b}:b≠0->Builtin.divisionGoesByPylong a b=false->kI .FloorDiv a b (a.fdiv b)
 |fmod {a b}:b≠0->kI .Mod a b (a.fmod b)
 |pow {a b}:0<=b->(ib a:Int)*b<=134217728->kI .Pow a b (a^b.toNat)
 |shl {a b}:0<=b->(ib a:Int)+b<=134217728->kI .LShift a b (a*2^b.toNat)
 |shr {a b}:0<=b->kI .RShift a b (a.fdiv<|2^b.toNat)
 |and {a b}:kI .BitAnd a b (Builtin.bitAnd a b)
 |or {a b}:kI .BitOr a b (Builtin.bitOr a b)
 |xor {a b}:kI .BitXor a b (Builtin.bitXor a b)
inductive fe (r:bQ):iG->V->V->aK->Prop
 |int {op a b c}:kI op a b c->fe r op (.d<|.int a) (.d<|.int b) (.int c)
 |cat {x y}:x.length+y.length<=16777216->fe r .Add (.d<|.str x) (.d<|.str y) (.str<|x++y)
 |rep {x n}:x.length<=4096->n<=4096-> -4096<=n->fe r .Mult (.d<|.str x) (.d<|.int n) (.str<|Txt.mul x n)
 |mul {v xs n}:gb r v xs->xs.length*n.toNat<=256->n<2^63-> -(2^63)<=n->fe r .Mult v (.d<|.int n) (.list (List.replicate n.toNat xs).flatten)
 |add {v w xs ys}:gb r v xs->gb r w ys->xs.length+ys.length<=16777216->fe r .Add v w (.list<|xs++ys)
noncomputable def mw (xs:List aK):Prop:=xs.all (fP 8)=aB
inductive qE:fV->Int->Int->Bool->Prop
 |eq {a b}:qE .Eq a b (a==b)
 |ne {a b}:qE .NotEq a b (a !=b)
 |lt {a b}:qE .Lt a b (decide (a<b))
 |le {a b}:qE .LtE a b (decide (a<=b))
 |gt {a b}:qE .Gt a b (decide (a>b))
 |ge {a b}:qE .GtE a b (decide (a>=b))
inductive ri (p:Prop):fV->Bool->Prop
 |eqT:p->ri p .Eq true
 |Bm: ¬ p->ri p .Eq false
 |neT: ¬ p->ri p .NotEq true
 |oo:p->ri p .NotEq false
inductive wH (p:Prop):fV->Bool->Prop
 |qX:p->wH p .In true
 |inF: ¬ p->wH p .In false
 |JG: ¬ p->wH p .NotIn true
 |Ou:p->wH p .NotIn false
inductive gj (r:bQ):fV->V->V->Bool->Prop
 |int {op a b c}:qE op a b c->gj r op (.d<|.int a) (.d<|.int b) c
 |str {op x y c}:ri (x=y) op c->gj r op (.d<|.str x) (.d<|.str y) c
 |inl {op x w ys c}:gb r w ys->mw ys->kqdOk 8 x=true->wH (x∈ys) op c->gj r op (.d x) w c
 |tup {op xs ys c}:mw xs->mw ys->ri (xs=ys) op c->gj r op (.d<|.tuple xs) (.d<|.tuple ys) c
 |lst {op v w xs ys c}:gb r v xs->gb r w ys->mw xs->mw ys->ri (xs=ys) op c->gj r op v w c
inductive mf (r:bQ):V->Bool->Prop
 |none:mf r (.d .none) false
 |bool {b}:mf r (.d<|.bool b) b
 |int {i:Int}:mf r (.d<|.int i) (i !=0)
 |str {x:Str}:x.length<=16777216->mf r (.d<|.str x) (x.length !=0)
 |lst {v xs}:gb r v xs->xs.length<=16777216->mf r v (!xs.isEmpty)
noncomputable def GJ (a:Int) (r:List Int):Int:=r.foldl (λm x=>if x>m then x else m) a
noncomputable def Ar (a:Int) (r:List Int):Int:=r.foldl (λm x=>if x<m then x else m) a
inductive cn (r:bQ):Bi->List V->aK->Prop
 |kB {x:Str}:x.length<2^63->cn r .len [.d<|.str x] (.int x.length)
 |yR {v xs}:zK r v xs->xs.length<2^63->cn r .len [v] (.int xs.length)
 |sum {v} {ns:List Int}:gb r v (ns.map .int)->cn r .sum [v] (.int ns.sum)
 |m9 {v a} {ns:List Int}:gb r v ((a::ns).map .int)->cn r .m9 [v] (.int<|GJ a ns)
 |kZ {v a} {ns:List Int}:gb r v ((a::ns).map .int)->cn r .kZ [v] (.int<|Ar a ns)
 |max2 {a b:Int}:cn r .max2 [.d<|.int a,.d<|.int b] (.int<|if b>a then b else a)
 |min2 {a b:Int}:cn r .min2 [.d<|.int a,.d<|.int b] (.int<|if b<a then b else a)
 |abs {a:Int}:cn r .abs [.d<|.int a] (.int<|if a<0 then -a else a)
 |chr {a:Int}:0<=a->a<=1114111->cn r .chr [.d<|.int a] (.str ⟨#[a.toNat]⟩)
 |ord {x:Str}:x.length=1->cn r .ord [.d<|.str x] (.int (x.cps.getD 0 0:Nat))
 |rv {a:Int}:a.natAbs<10^10->cn r .rv [.d<|.int a] (.str<|Str.ofString<|toString a)
 |sd {x i}:x.length<=640->PySem.intText? x=some i->cn r .sd [.d<|.str x] (.int i)
 |divmod {a b:Int}:b≠0->Builtin.divisionGoesByPylong a b=false->cn r .divmod [.d<|.int a,.d<|.int b] (.tuple [.int<|a.fdiv b,.int<|a.fmod b])
inductive jC (r:bQ):Sm->V->List V->aK->Prop
 |lower {x}:x.length<=5592405->jC r .lower (.d<|.str x) [] (.str<|Txt.lower x)
 |upper {x}:x.length<=5592405->jC r .upper (.d<|.str x) [] (.str<|Txt.upper x)
 |swapcase {x}:x.length<=5592405->jC r .swapcase (.d<|.str x) [] (.str<|Txt.swapcase x)
 |rstrip {x}:x.length<=16777216->jC r .rstrip (.d<|.str x) [] (.str<|Txt.rstrip x)
 |qa {x y}:x.length<=16777216->jC r .qa (.d<|.str x) [.d<|.str y] (.str<|Txt.lstripChars x y)
 |split {x y}:x.length<=16777000->y.length≠0->jC r .split (.d<|.str x) [.d<|.str y] (.list<|(Txt.split x y).map .str)
 |join {x v} {ts:List Str}:gb r v (ts.map .str)->JoinOk x ts->jC r .join (.d<|.str x) [v] (.str<|Txt.join x ts)
 |bits {a}:jC r .bits (.d<|.int a) [] (.int<|ib a)
inductive cC (r:bQ):V->Int->aK->Prop
 |str {x:Str} {k:Int}: -(x.length:Int)<=k->k<x.length->x.length<2^63->cC r (.d<|.str x) k (.str<|Txt.item x k)
 |seq {v xs k j d}:zK r v xs->(xs.length:Int)<2^63->seqIndex? k xs.length=some j->xs[j]?=some d->cC r v k d
inductive nj:V->Option Int->Prop
 |none:nj (.d .none) none
 |int {i}:nj (.d<|.int i) (some i)
noncomputable def lk (xs:List aK) (l h s:Option Int):List Dat:=(Cn (kf l h s xs.length).1 (kf l h s xs.length).2.1 (kf l h s xs.length).2.2).filterMap λ(k:Nat)=>xs[k]?
inductive gR (r:bQ):V->V->V->V->aK->Prop
 |str {x a b l h}:nj a l->nj b h->x.length<=16777216->gR r (.d<|.str x) a b (.d .none) (.str<|Txt.slice x l h)
 |lst {v xs a b c l h s}:gb r v xs->nj a l->nj b h->nj c s->s≠some 0->xs.length<=16777216->gR r v a b c (.list<|lk xs l h s)
noncomputable def oB (t:cS) (x:aK) (r:bQ):Option bQ:=
 match t with
 |.one i=>aA<|upd r i<|.val x
 |.tup o=>match x with
  |.tuple R|.list R=>if R.length=o.length then aA ((o.zip R).foldl (λr p=>upd r p.1<|.val p.2) r) else aF
  |_=>aF
noncomputable def wO (s:Sl):Sl:=match s with
 |.clo _=>.unb
 |s=>s
noncomputable def jZ (r:bQ):bQ:=λi=>if i=bR then .unb else wO (r i)
noncomputable def fm (t:cS) (r:bQ):bQ:=match t with
 |.one i=>upd r i .unb
 |.tup o=>o.foldl (λr i=>upd r i .unb) r
noncomputable def gO (b:Bool) (x:aG):Bool:=x.cps.all λc=>if b then !(decide (c<=31)||c==127) else !(decide (c<=8)||(decide (10<=c) && decide (c<=31))||c==127)
noncomputable def kV (r:bQ) (i:Nat):Option V:=match r i with|.val x=>aA (V.d x)|.own _=>aA (.bor i)|.ali j=>aA (.bor j)|.inst=>aA .inst|.emp=>aA .emp|_=>aF
theorem qC (h: ¬ j=i):bt j i=false:=uQ.mpr λq=>h<|uR q
theorem fR (l:Ls) (i:Nat) (v:Sl):aL (cL l i v)=upd (aL l) i v:=by
 funext k;induction l with
 |nil=>
  unfold upd;by_cases h:k=i
  ·refine cw h<|sb (if_pos rfl)<|(?_:cond (Nat.beq k k) _ _=_)
   rw[Co];rfl
  ·refine sb (QHc h)<|(?_:cond (Nat.beq i k) _ _=_)
   erw[qC λq=>h q.symm];rfl
 |cons p l d=>
  obtain ⟨j,s⟩:=p;show aL (cond (bt j i) _ _) k=ite _ _ (cond (bt j k) _ _);by_cases h:j=i
  ·erw[<-h]
   rw[Co];refine (?_:cond (bt j k) _ _=_);by_cases q:k=j
   ·erw[q]
    rw[Co,if_pos rfl];rfl
   ·refine sb (qC λQ=>q Q.symm)<|sb (if_neg q) ?_
    rfl
  ·refine sb (qC h)<|(?_:cond (Nat.beq j k) _ (aL (cL l i v) k)=_)
   by_cases q:j=k
   ·erw[<-q]
    rw[Co,if_neg h];rfl
   ·refine sb (qC q)<|sb d ?_
    rfl
noncomputable def x6 (t:cS) (x:aK) (l:Ls) (K:Ls->Prop):Prop:=
 match t with
 |.one i=>K<|cL l i<|.val x
 |.tup o=>match x with
  |.tuple R|.list R=>R.length=o.length/\K ((o.zip R).foldl (λl p=>cL l p.1<|.val p.2) l)
  |_=>False
theorem ER {α:Type} (f:α->Nat×Sl): ∀(ps:List α) (l:Ls),aL (ps.foldl (λl p=>cL l (f p).1 (f p).2) l)=ps.foldl (λr p=>upd r (f p).1 (f p).2) (aL l):=by
 intro O;induction O with
 |nil=>exact λl=>rfl
 |cons p ps i=>exact λl=>(i _).trans (by rw[fR];rfl)
inductive dD {α:Type} (R:α->Prop) (K:α->Prop):Prop|mk {a}:R a->K a->dD R K
theorem wM {K:Ls->Prop} (h:x6 t x l K):dD (λL=>oB t x (aL l)=aA (aL L)) K:=by
 have f: ∀(o:List Nat) (R:List aK),(R.length=o.length/\K ((o.zip R).foldl (λl p=>cL l p.1<|.val p.2) l))->
  dD (λL=>(if R.length=o.length then aA ((o.zip R).foldl (λr p=>upd r p.1<|.val p.2)<|aL l) else aF)=aA (aL L)) K:=λo R h=>
  .mk (by erw[if_pos h.1];exact QHf aA (ER (λp:Nat×aK=>(p.1,.val p.2)) _ l).symm) h.2
 induction t with
 |one i=>exact .mk (QHf aA (fR l i _).symm) h
 |tup o=>
  cases x with
  |tuple R=>exact f o R h
  |list R=>exact f o R h
  |_=>exact h.elim
noncomputable def oR (l:Ls):Ls:=l.map λp=>(p.1,bif bt p.1 bR then .unb else wO p.2)
theorem YJ (f:Nat->Sl->Sl) (F: ∀i,f i .unb=.unb) (l:Ls) (i:Nat):aL (l.map λp=>(p.1,f p.1 p.2)) i=f i (aL l i):=by
 induction l with
 |nil=>exact (F i).symm
 |cons p l d=>
  refine (?_:cond (bt p.1 i) _ _=f i (cond (bt p.1 i) _ _));induction q:bt p.1 i with
  |true=>erw[uR q];rfl
  |false=>exact d
theorem QCw (l:Ls):aL (oR l)=jZ (aL l):=by
 funext i;refine (YJ (λi s=>bif bt i bR then .unb else wO s) (λi=>by cases bt i bR<;>rfl) l i).trans ?_;unfold jZ;by_cases h:i=bR
 ·erw[h]
  rfl
 ·refine sb (QHc h)<|sb (qC h) ?_
  rfl
noncomputable def nq (t:cS) (l:Ls):Ls:=match t with
 |.one i=>cL l i .unb
 |.tup o=>o.foldl (λl i=>cL l i .unb) l
theorem TA (t:cS) (l:Ls):aL (nq t l)=fm t (aL l):=by
 induction t with
 |one i=>exact fR ..
 |tup o=>exact ER (λi=>(i,.unb)) o l
noncomputable def gv:V->Option Int|.d (.int i)=>aA i|_=>aF
theorem vP (h:gv v=aA i):v=.d (.int i):=by
 induction v with
 |d x=>cases x<;>cases h;rfl
 |_=>exact ay h
noncomputable def iB {α:Type} (x:Option α) (f:α->Prop) (g:Prop):Prop:=match x with|some a=>f a|none=>g
theorem mj {α:Type} {x:Option α} {f:α->Prop} {g:Prop} (h:iB x f g):(∃a,x=aA a/\f a)\/g:=by
 induction x with
 |none=>exact .inr h
 |some a=>exact .inl<|ax a rfl h
noncomputable def HE (op:iG) (a b:Int) (K:Int->Prop):Prop:=match op with
 |.Add=>K<|a+b
 |.Sub=>K<|a - b
 |.Mult=>ib a+ib b<=134217728/\K (a*b)
 |.FloorDiv=>b≠0/\sC a b=aE/\K (a.fdiv b)
 |.Mod=>b≠0/\K (a.fmod b)
 |.Pow=>0<=b/\(ib a:Int)*b<=134217728/\K (a^b.toNat)
 |.LShift=>0<=b/\(ib a:Int)+b<=134217728/\K (a*2^b.toNat)
 |.RShift=>0<=b/\K (a.fdiv<|2^b.toNat)
 |.BitAnd=>K<|jM a b
 |.BitOr=>K<|uS a b
 |.BitXor=>K<|Cp a b
 |_=>False
theorem VU {K} (h:HE op a b K):dD (kI op a b) K:=by
 induction op with
 |Add=>exact .mk .add h
 |Sub=>exact .mk .sub h
 |Mult=>exact .mk (.mul h.1) h.2
 |FloorDiv=>exact .mk (.fdiv h.1 h.2.1) h.2.2
 |Mod=>exact .mk (.fmod h.1) h.2
 |Pow=>exact .mk (.pow h.1 h.2.1) h.2.2
 |LShift=>exact .mk (.shl h.1 h.2.1) h.2.2
 |RShift=>exact .mk (.shr h.1) h.2
 |BitAnd=>exact .mk .and h
 |BitOr=>exact .mk .or h
 |BitXor=>exact .mk .xor h
 |_=>exact h.elim
noncomputable def HY (l:Ls) (op:iG) (u w:V) (K:aK->Prop):Prop:=iB (gv u) (λa=>iB (gv w) (λb=>HE op a b λc=>K<|.int c)<|dD (fe (aL l) op u w) K)<|dD (fe (aL l) op u w) K
theorem I9 {u w:V} {K} (h:HY l op u w K):dD (fe (aL l) op u w) K:=by
 rcases mj h with ⟨a,x,h⟩|h
 ·rcases mj h with ⟨b,e,h⟩|h
  ·induction VU h with|mk H h=>simp only[vP x,vP e];exact .mk (.int H) h
  ·exact h
 ·exact h
noncomputable def G6 (op:fV) (a b:Int) (K:Bool->Prop):Prop:=match op with
 |.Eq=>K<|a==b
 |.NotEq=>K<|a !=b
 |.Lt=>K<|decide (a<b)
 |.LtE=>K<|decide (a<=b)
 |.Gt=>K<|decide (a>b)
 |.GtE=>K<|decide (a>=b)
 |_=>False
theorem YI {K} (h:G6 op a b K):dD (qE op a b) K:=by
 induction op with
 |Eq=>exact .mk .eq h
 |NotEq=>exact .mk .ne h
 |Lt=>exact .mk .lt h
 |LtE=>exact .mk .le h
 |Gt=>exact .mk .gt h
 |GtE=>exact .mk .ge h
 |_=>exact h.elim
noncomputable def vo (l:Ls) (op:fV) (u w:V) (K:Bool->Prop):Prop:=iB (gv u) (λa=>iB (gv w) (λb=>G6 op a b K)<|dD (gj (aL l) op u w) K)<|dD (gj (aL l) op u w) K
theorem CN {u w:V} {K} (h:vo l op u w K):dD (gj (aL l) op u w) K:=by
 rcases mj h with ⟨a,x,h⟩|h
 ·rcases mj h with ⟨b,e,h⟩|h
  ·induction YI h with|mk H h=>simp only[vP x,vP e];exact .mk (.int H) h
  ·exact h
 ·exact h
noncomputable def mx (v:V) (K:Int->Prop):Prop:=iB (gv v) K False
theorem Vi {K} (h:mx v K):dD (λi=>v=.d (.int i)) K:=(mj h).elim (λq=>q.elim λO q=>.mk (vP q.1) q.2) mG
noncomputable def xt:V->Option aG|.d (.str i)=>aA i|_=>aF
theorem Md (h:xt v=aA i):v=.d (.str i):=by
 induction v with
 |d x=>cases x<;>cases h;rfl
 |_=>exact ay h
noncomputable def EU (v:V) (K:aG->Prop):Prop:=iB (xt v) K False
theorem Jd {K} (h:EU v K):dD (λi=>v=.d (.str i)) K:=(mj h).elim (λq=>q.elim λO q=>.mk (Md q.1) q.2) mG
noncomputable def j3:V->Option aK|.d d=>aA d|_=>aF
noncomputable def jI (v:V) (K:aK->Prop):Prop:=iB (j3 v) K False
theorem ja {K} (h:jI v K):dD (λi=>v=.d i) K:=by
 induction v with
 |d x=>exact .mk rfl h
 |_=>exact h.elim
noncomputable def Fv (l:Ls) (i:Nat) (K:V->Prop):Prop:=iB (kV (aL l) i) K False
theorem QBo {K} (h:Fv l i K):dD (λv=>kV (aL l) i=aA v) K:=(mj h).elim (λq=>q.elim λO q=>.mk q.1 q.2) mG
noncomputable def gh:Sl->Option (List aK)|.own xs=>aA xs|_=>aF
theorem K8 {i} (h:gh v=aA i):v=.own i:=by cases v<;>cases h;rfl
noncomputable def iZ (l:Ls) (i:Nat) (K:List aK->Prop):Prop:=iB (gh<|aL l i) K False
theorem jG {K} (h:iZ l i K):dD (λv=>aL l i=.own v) K:=(mj h).elim (λq=>q.elim λO q=>.mk (K8 q.1) q.2) mG
theorem eD {p:Prop} {d:Decidable p} (h:decide p=aB):p:=QHi h
noncomputable abbrev E:=bj->Ls->(V->Ls->Prop)->Prop
noncomputable abbrev T:=bj->Ls->(Bool->Ls->Prop)->Prop
noncomputable abbrev I:=bj->Bool->Ls->(List aK->Ls->Prop)->Prop
noncomputable abbrev S:=bj->Ls->(Fl->Ls->Prop)->Prop
noncomputable def lW:List E->bj->Ls->(List V->Ls->Prop)->Prop
 |[],_,l,K=>K [] l
 |e::es,o,l,K=>e o l λv l=>lW es o l λm l=>K (v::m) l
noncomputable def yP:List V->(List aK->Prop)->Prop
 |[],K=>K []
 |v::vs,K=>jI v λd=>yP vs λA=>K<|d::A
theorem Si: ∀{vs:List V} {K},yP vs K->dD (λds=>vs=ds.map .d) K:=by
 intro vs;induction vs with
 |nil=>exact λh=>.mk rfl h
 |cons v vs i=>
  exact λh=>by
   induction ja h with
   |mk e h=>induction i h with|mk u h=>exact .mk (by simp only[e,u];rfl) h
noncomputable def dW (es:List E) (o:bj) (l:Ls) (K:List aK->Ls->Prop):Prop:=lW es o l λv l=>yP v λd=>K d l
noncomputable def two (b:Bool) (p q:Prop):Prop:=b=aB/\p\/b=aE/\q
noncomputable def aW:List T->T
 |[],_,l,K=>K aB l
 |t::ts,o,l,K=>t o l λz l=>two z (aW ts o l K)<|K aE l
noncomputable def cW (elt:E) (t:cS) (cs:List T) (o:bj) (l:Ls):List aK->(List aK->Prop)->Prop
 |[],K=>K []
 |x::xs,K=>x6 t x l λL=>aW cs o L λz A=>aL A=aL L/\two z (elt o L λv A=>aL A=aL L/\jI v λy=>cW elt t cs o l xs λY=>K<|y::Y) (cW elt t cs o l xs K)
noncomputable def rV (op:kg):Bool:=match op with|.And=>aE|.Or=>aB
noncomputable def GH (op:kg) (b:Bool) (p q:Prop):Prop:=b=rV op/\p\/b=(!rV op)/\q
noncomputable def bW (op:kg):List E->E
 |[],_,_,_=>False
 |[e],o,l,K=>e o l K
 |e::es,o,l,K=>e o l λv l=>dD (mf (aL l) v) λb=>GH op b (K v l)<|bW op es o l K
noncomputable def BR (op:kg):List T->T
 |[],_,l,K=>K (!rV op) l
 |t::ts,o,l,K=>t o l λb l=>GH op b (K (rV op) l)<|BR op ts o l K
noncomputable def E.none:E:=λO l K=>K (.d .none) l
noncomputable def E.bool (b:Bool):E:=λO l K=>K (.d<|.bool b) l
noncomputable def E.int (i:Int):E:=λO l K=>K (.d<|.int i) l
noncomputable def E.str (x:aG):E:=λO l K=>K (.d<|.str x) l
noncomputable def E.aC (i:Nat):E:=λO l K=>Fv l i λv=>K v l
noncomputable def E.qH (i:Nat):E:=λO l K=>iZ l i λx=>K (.d<|.list x)<|cL l i .unb
noncomputable def E.aH (op:iG) (a b:E):E:=λo l K=>a o l λu l=>b o l λw l=>HY l op u w λd=>K (.d d) l
noncomputable def E.neg (a:E):E:=λo l K=>a o l λu l=>mx u λi=>K (.d<|.int (-i)) l
noncomputable def E.inv (a:E):E:=λo l K=>a o l λu l=>mx u λi=>K (.d<|.int<|QEV i) l
noncomputable def E.cmp (op:fV) (a b:E):E:=λo l K=>a o l λu l=>b o l λw l=>vo l op u w λc=>K (.d<|.bool c) l
noncomputable def E.fZ (op:kg) (es:List E):E:=bW op es
noncomputable def E.ite (c:T) (a b:E):E:=λo l K=>c o l λz l=>two z (a o l K)<|b o l K
noncomputable def E.list (es:List E):E:=λo l K=>dW es o l λx l=>eX x.length 16777216=aB/\K (.d<|.list x) l
noncomputable def E.tup (es:List E):E:=λo l K=>dW es o l λx l=>eX x.length 16777216=aB/\K (.d<|.tuple x) l
noncomputable def E.comp (elt:E) (t:cS) (it:I) (cs:List T):E:=λo l K=>it o aE l λx l=>x.length<=16777216/\cW elt t cs o (nq t<|oR l) x λY=>K (.d<|.list Y) l
noncomputable def E.au (a i:E):E:=λo l K=>a o l λu l=>i o l λk l=>mx k λk=>dD (cC (aL l) u k) λd=>K (.d d) l
noncomputable def E.dK (a L i st:E):E:=λo l K=>a o l λu l=>L o l λx l=>i o l λy l=>st o l λz l=>dD (gR (aL l) u x y z) λd=>K (.d d) l
noncomputable def E.call (f:Nat) (es:List E):E:=λo l K=>dW es o l λx l=>dD (o.F f x) λz=>K (.d z) l
inductive zP {α β:Type} (R:α->β->Prop) (K:α->β->Prop):Prop|mk {a b}:R a b->K a b->zP R K
noncomputable def E.jF (f i:Nat) (es:List E):E:=λo l K=>aL l i=.clo f/\dW es o l λx l=>zP (o.L f x l) λz l=>K (.d z) l
noncomputable def E.bi (b:Bi) (es:List E):E:=λo l K=>lW es o l λv l=>dD (cn (aL l) b v) λd=>K (.d d) l
noncomputable def Ef (m:Sm) (v:V):Prop:=match m with|.bits=> ∃i,v=.d (.int i)|_=> ∃x,v=.d (.str x)
noncomputable def E.sm (m:Sm) (a:E) (es:List E):E:=λo l K=>a o l λu l=>Ef m u/\lW es o l λv l=>dD (jC (aL l) m u v) λd=>K (.d d) l
noncomputable def E.qd (a:E) (y z:aG):E:=λo l K=>a o l λu l=>EU u λx=>x.length<=4096/\y.length=1/\z.length=0/\K (.d<|.str<|Cr x y z) l
noncomputable def MF (v:V) (K:Bool->Prop):Prop:=jI v λd=>d=.none/\K aB\/d≠ .none/\K aE
noncomputable def E.iS (neg:Bool) (a:E):E:=λo l K=>a o l λu l=>MF u λb=>K (.d<|.bool<|b !=neg) l
noncomputable def E.p9 (a:E):E:=λo l K=>a o l λu l=>mx u λi=>K (.d<|.bool<|o.b1 i) l
noncomputable def E.qJ (a:E):E:=λo l K=>a o l λu l=>mx u λi=>K (.d<|o.b3 i) l
noncomputable def E.qc (x:aG):E:=λo l K=>dD (o.gi x) λi=>K (.d<|.int i) l
noncomputable def Al (v:V) (K:Prop):Prop:=match v with|.inst=>K|_=>False
theorem BU {K:Prop} (h:Al v K):v=.inst/\K:=by cases v<;>first|exact ⟨rfl,h⟩|exact h.elim
noncomputable def E.jt (k:Nat) (a:E) (es:List E):E:=λo l K=>a o l λu l=>Al u<|dW es o l λx l=>iZ l aT λA=>aL l bR=.emp/\zP (o.H k x A) λz s=>K (.d z)<|cL l aT<|.own s
noncomputable def E.jX (k:Nat) (a:E) (es:List E):E:=λo l K=>a o l λu l=>Al u<|dW es o l λx l=>iZ l aT λs=>dD (o.R k x s) λz=>K (.d z) l
noncomputable def E.conv (b:Bool) (a:E):E:=λo l K=>aL l 0=.inst/\a o l λu l=>EU u λx=>gO b x=aB/\K (.d<|.str x) l
noncomputable def E.e6:E:=λO l K=>aL l 0=.inst/\K (.bor aT) l
noncomputable def T.not (t:T):T:=λo l K=>t o l λb l=>K (!b) l
noncomputable def T.fZ (op:kg) (ts:List T):T:=BR op ts
noncomputable def T.aC (i:Nat):T:=λO l K=>Fv l i λv=>dD (mf (aL l) v) λb=>K b l
noncomputable def T.cmp (op:fV) (a b:E):T:=λo l K=>a o l λu l=>b o l λw l=>vo l op u w λc=>K c l
noncomputable def T.iS (neg:Bool) (a:E):T:=λo l K=>a o l λu l=>MF u λb=>K (b !=neg) l
noncomputable def T.eP (neg b:Bool) (a:E):T:=λo l K=>a o l λu l=>jI u λd=> ∃c,d=.bool c/\K ((c==b) !=neg) l
noncomputable def T.x8 (a:E):T:=λo l K=>a o l λu l=>mx u λO=>K aE l
noncomputable def I.i3 (a:E):I:=λo O l K=>dW [a] o l λd l=> ∃n:Int,d=[.int n]/\n<2^24/\ -(2^24)<n/\K ((bg n.toNat).map λ(i:Nat)=>cB (i:Int)) l
noncomputable def I.rO (a b:E):I:=λo O l K=>dW [a,b] o l λd l=> ∃m n:Int,d=[.int m,.int n]/\n<2^24/\ -(2^24)<n/\m<2^24/\ -(2^24)<m/\K ((bg (n - m).toNat).map λ(i:Nat)=>cB<|m+(i:Int)) l
noncomputable def I.rev (a:E):I:=λo O l K=>dW [a] o l λd l=> ∃x,d=[.list x]/\K x.reverse l
noncomputable def I.aC (i:Nat):I:=λO f l K=>match aL l i with
 |.val x=>dD (vZ (aL l)<|.d x) λR=>K R l
 |.own R=>f=aE/\K R l
 |_=>False
noncomputable def I.jU (e:E):I:=λo O l K=>e o l λv l=>jI v λd=>dD (vZ (aL l)<|.d d) λx=>K x l
noncomputable def I.list (es:List E):I:=I.jU<|.list es
noncomputable def I.au (a i:E):I:=I.jU<|.au a i
noncomputable def I.dK (a l i st:E):I:=I.jU<|.dK a l i st
noncomputable def I.e6:I:=λO f l K=>aL l 0=.inst/\(f=aB->aL l bR≠ .emp)/\iZ l aT λx=>K x l
inductive wG:iG->Int->Int->Int->Prop
 |add {a b}:wG .Add a b (a+b)
 |sub {a b}:wG .Sub a b (a - b)
 |shl {a b}:0<=b->(ib a:Int)+b<=134217728->wG .LShift a b (a*2^b.toNat)
 |shr {a b}:0<=b->wG .RShift a b (a.fdiv<|2^b.toNat)
noncomputable def WL (f:Fl) (p:Prop) (K:Fl->Prop):Prop:=match f with|.next=>p|f=>K f
noncomputable def sW:List S->S
 |[],_,l,K=>K .next l
 |s::ss,o,l,K=>s o l λf l=>WL f (sW ss o l K) λf=>K f l
noncomputable def Bn (f:Fl) (p:Prop) (K:aK->Prop):Prop:=match f with|.ret v=>K v|_=>p
noncomputable def fW (t:cS) (b:List S) (o:bj):List aK->Ls->(Fl->Ls->Prop)->Prop
 |[],l,K=>K .next l
 |x::xs,l,K=>x6 t x l λL=>sW b o L λf l=>Bn f (fW t b o xs l K) λv=>K (.ret v) l
noncomputable def wW (c:T) (b:List S) (o:bj):Nat->Ls->(Fl->Ls->Prop)->Prop
 |0,_,_=>False
 |n+1,l,K=>c o l λz l=>two z (sW b o l λf l=>Bn f (wW c b o n l K) λv=>K (.ret v) l)<|K .next l
inductive yp (r:bQ):V->aK->Prop
 |d {x}:yp r (.d x) x
 |bor {i xs}:i≠aT->r i=.own xs->yp r (.bor i) (.list xs)
noncomputable def v8 (d:aK):Bool:=match d with
 |.tuple [.str x,.str y]=>gO aB x && gO aE y
 |_=>aE
noncomputable def S.asg (t:cS) (e:E):S:=λo l K=>e o l λv l=>jI v λx=>x6 t x l λl=>K .next l
noncomputable def S.own (i:Nat) (e:E):S:=λo l K=>e o l λv l=>jI v λx=> ∃R,x=.list R/\K .next (cL l i<|.own R)
noncomputable def Fq (op:iG) (a b:Int) (K:Int->Prop):Prop:=match op with
 |.Add=>K<|a+b
 |.Sub=>K<|a - b
 |.LShift=>0<=b/\(ib a:Int)+b<=134217728/\K (a*2^b.toNat)
 |.RShift=>0<=b/\K (a.fdiv<|2^b.toNat)
 |_=>False
theorem Zw {K} (h:Fq op a b K):dD (wG op a b) K:=by
 induction op with
 |Add=>exact .mk .add h
 |Sub=>exact .mk .sub h
 |LShift=>exact .mk (.shl h.1 h.2.1) h.2.2
 |RShift=>exact .mk (.shr h.1) h.2
 |_=>exact h.elim
noncomputable def GL:Sl->Option Int|.val (.int i)=>aA i|_=>aF
theorem U5 {i} (h:GL v=aA i):v=.val (.int i):=by
 induction v with
 |val x=>cases x<;>cases h;rfl
 |_=>exact ay h
noncomputable def S.aug (i:Nat) (op:iG) (e:E):S:=λo l K=>iB (GL<|aL l i) (λa=>e o l λv l=>mx v λb=>Fq op a b λc=>K .next (cL l i<|.val<|.int c)) False
noncomputable def S.expr (e:E):S:=λo l K=>e o l λv l=>jI v λx=>(x=.none\/ ∃y,x=.str y)/\K .next l
noncomputable def S.app (i:Nat) (e:E):S:=λo l K=>iZ l i λO=>e o l λv l=>jI v λx=>iZ l i λR=>R.length<16777216/\K .next (cL l i<|.own<|R++[x])
noncomputable def S.qP (e:E):S:=λo l K=>aL l 0=.inst/\iZ l aT λO=>e o l λv l=>jI v λx=>iZ l aT λR=>aL l bR=.emp/\R.length<16777216/\K .next (cL l aT<|.own<|R++[x])
noncomputable def S.qi (e:E):S:=λo l K=>e o l λv l=>jI v λx=> ∃Y,x=.list Y/\aL l 0=.inst/\iZ l aT λR=>aL l bR=.emp/\R.length+Y.length<=16777216/\K .next (cL l aT<|.own Y)
noncomputable def S.qV (i:Nat):S:=λO l K=>iZ l i λx=>x.length<=16777216/\K .next (cL l i<|.own x.reverse)
noncomputable def S.set (i:Nat) (k e:E):S:=λo l K=>e o l λv l=>jI v λx=>iZ l i λO=>k o l λj l=>mx j λj=>iZ l i λR=>0<=j/\j<R.length/\R.length<2^63/\K .next (cL l i<|.own<|R.set j.toNat x)
noncomputable def S.qK (b k:Nat):S:=λO l K=>iZ l k λx=>aL l aT=.unb/\x.all v8=aB/\K .next (cL (cL (cL (cL l aT<|.own x) bR .emp) k<|.ali aT) b .inst)
noncomputable def S.oe (b:Nat) (e:E):S:=λo l K=>aL l b=.inst/\e o l λv l=>jI v λx=>iZ l aT λA=>aL l bR=.emp/\zP (o.H 9 [x] A) λO s=>K .next (cL l aT<|.own s)
noncomputable def S.cA (c:T) (a b:List S):S:=λo l K=>c o l λz l=>two z (sW a o l K)<|sW b o l K
noncomputable def S.fE (t:cS) (it:I) (b:List S):S:=λo l K=>it o aB l λx l=>fW t b o x l K
noncomputable def S.n9 (c:T) (b:List S):S:=λo l K=> ∃n,wW c b o n l K
noncomputable def S.ret (e:Option E):S:=λo l K=>match e with
 |none=>K (.ret .none) l
 |some a=>a o l λv l=>dD (yp (aL l) v) λx=>K (.ret x) l
noncomputable def S.cont:S:=λO l K=>K .cont l
noncomputable def S.defn (i f:Nat):S:=λO l K=>K .next (cL l i<|.clo f)
noncomputable def S.pS (i:Nat) (es:List E):S:=λo l K=>dW es o l λx l=> ∃n:Int,x=[.int n,.int 5,.int 2048]/\n<=2048/\0<=n/\K .next (cL l i .emp)
noncomputable def S.qF (i:Nat):S:=λO l K=>aL l i=.emp/\K .next l
noncomputable def S.stuck:S:=λO O O=>False
open Sl renaming val->xS
noncomputable def Mon (X:aM->Prop) (h:bK) (x:aM->Prop) (h':bK):Prop:= ∀a o,h.get? a=aA o-> ¬ X a->h'.get? a=aA o/\ ¬ x a
theorem Mon.refl (X h):Mon X h X h:=λO O e n=>⟨e,n⟩
theorem Mon.trans {X h X' h' X'' h''} (a:Mon X h X' h') (b:Mon X' h' X'' h''):Mon X h X'' h'':=λx o e n=>b x o (a x o e n).1 (a x o e n).2
noncomputable def Led (X:aM->Prop) (h:bK) (led:List (aM×bH)):Prop:= ∀p∈led,h.get? p.1=aA p.2/\ ¬ X p.1
noncomputable def Rd (X:aM->Prop) (h:bK) (v:aI) (d:aK):Prop:= ∃l,Led X h l/\DatIn l v d
noncomputable def bB (X:aM->Prop) (h:bK) (vs:List aI) (ds:List aK):Prop:= ∃l,Led X h l/\DatAll l vs ds
section
theorem Led.mon {led} (l:Led X h led) (m:Mon X h X' h'):Led X' h' led:=λp P=>m _ _ (l p P).1 (l p P).2
theorem Rd.mon (x:Rd X h v d) (m:Mon X h X' h'):Rd X' h' v d:=let ⟨l,a,b⟩:=x;(ax l (a.mon m) b)
theorem bB.mon (x:bB X h vs ds) (m:Mon X h X' h'):bB X' h' vs ds:=let ⟨l,a,b⟩:=x;(ax l (a.mon m) b)
theorem Led.app {l l'} (a:Led X h l) (b:Led X h l'):Led X h (l++l'):=λp P=>(qn.mp P).elim (a p)<|b p
theorem bB.nil:bB X h [] []:=(ax [] (λO p=>(nomatch p)) .nil)
theorem bB.cons (a:Rd X h v d) (b:bB X h vs ds):bB X h (v::vs) (d::ds):=aS a λl c o=>aS b λL u W=>(ax (l++L) (c.app u)<|.cons (o.mono λO=>Pe _)<|W.mono λO=>QEW _)
theorem bB.app (a:bB X h vs ds) (b:bB X h ws es):bB X h (vs++ws) (ds++es):=aS a λl c o=>aS b λL u d=>(ax (l++L) (c.app u)<|(o.mono λO=>Pe _).append<|d.mono λO=>QEW _)
theorem bB.len (a:bB X h vs ds):vs.length=ds.length:=a.choose_spec.2.length
theorem bB.head (a:bB X h (v::vs) (d::ds)):Rd X h v d:=by refine aS a λl L o=>?_;cases o with|cons x y=>exact (ax l L x)
theorem bB.tail (a:bB X h (v::vs) (d::ds)):bB X h vs ds:=by refine aS a λl L o=>?_;cases o with|cons x y=>exact (ax l L y)
theorem bB.kJ (a:bB X h vs []):vs=[]:=by refine aS a λl L d=>?_;clear a L;cases d;rfl
theorem bB.hU (a:bB X h vs (d::ds)): ∃v vs',vs=v::vs'/\Rd X h v d/\bB X h vs' ds:=by refine aS a λl L o=>?_;clear a;cases o with|cons x y=>exact ⟨_,_,rfl,(ax l L x),(ax l L y)⟩
theorem bB.get (a:bB X h vs ds) {i:Nat} (hd:ds[i]?=aA d): ∃v,vs[i]?=aA v/\Rd X h v d:=by
 induction ds generalizing vs i with
 |nil=>simp at hd
 |cons x r z=>
  refine bc a.hU λv R e p q=>sb e ?_;induction i with
  |zero=>simp at hd;exact cw hd<|(ax v rfl p)
  |succ i=>exact z q (by simpa using hd)
theorem Rd.none:Rd X h .none .none:=(ax [] (λO p=>(nomatch p)) .none)
theorem Rd.bool (b):Rd X h (.bool b) (.bool b):=(ax [] (λO p=>(nomatch p))<|.bool b)
theorem Rd.int (i t):Rd X h (.int i t) (.int i):=(ax [] (λO p=>(nomatch p))<|.int i t)
theorem Rd.str (x t):Rd X h (.str x t) (.str x):=(ax [] (λO p=>(nomatch p))<|.str x t)
theorem Rd.lst {a:aM} {n:Nat} (e:h.get? a=aA (listOf vs.toArray n)) (nx: ¬ X a) (r:bB X h vs ds):Rd X h (.ref a) (.list ds):=aS r λl L d=>(ax ((a,listOf vs.toArray n)::l) (λp P=>(bp.mp P).elim (λq=>q▸⟨e,nx⟩)<|L p)<|.list (.head _)<|d.mono λO=>zV _)
theorem Rd.tup (e:h.get? a=aA {cls:=.type "tuple",data:=.seq vs.toArray n}) (nx: ¬ X a) (r:bB X h vs ds):Rd X h (.ref a) (.tuple ds):=aS r λl L d=>(ax ((a,{cls:=.type "tuple",data:=.seq vs.toArray n})::l) (λp P=>(bp.mp P).elim (λq=>q▸⟨e,nx⟩)<|L p)<|.tuple (.head _)<|d.mono λO=>zV _)
theorem Rd.none_inv (x:Rd X h v .none):v=.none:=by refine aS x λl O b=>?_;clear x;cases b;rfl
theorem Rd.bool_inv (x:Rd X h v (.bool b)):v=.bool b:=by refine aS x λl O b=>?_;clear x;cases b;rfl
theorem Rd.dk (x:Rd X h v (.int i)): ∃t,v=.int i t:=by refine aS x λl O b=>?_;clear x;cases b;exact ⟨_,rfl⟩
theorem Rd.dO {y:aG} (x:Rd X h v (.str y)): ∃t,v=.str y t:=by refine aS x λl O b=>?_;clear x;cases b;exact ⟨_,rfl⟩
theorem Rd.lst_inv (x:Rd X h v (.list ds)): ∃a vs n,v=.ref a/\h.get? a=aA (listOf vs.toArray n)/\ ¬ X a/\bB X h vs ds:=by refine aS x λl L b=>?_;clear x;cases b with|list m r=>exact ⟨_,_,_,rfl,(L _ m).1,(L _ m).2,l,L,r⟩
theorem Rd.BF (x:Rd X h v (.tuple ds)): ∃a vs n,v=.ref a/\h.get? a=aA {cls:=.type "tuple",data:=.seq vs.toArray n}/\ ¬ X a/\bB X h vs ds:=by refine aS x λl L b=>?_;clear x;cases b with|tuple m r=>exact ⟨_,_,_,rfl,(L _ m).1,(L _ m).2,l,L,r⟩
theorem Led.news {led} (l:Led X h led):uT {objs:= #[],life:=h.life} h.objs.size h led:=λp P=>⟨(l p P).1,qo<|kh (l p P).1,by rfl⟩
end
noncomputable abbrev Ex (Ob W:aM->Prop):aM->Prop:=λa=>Ob a\/W a
structure dc (W:aM->Prop) (h:bK) (W':aM->Prop) (h':bK):Prop where
 keep: ∀a o,h.get? a=aA o-> ¬ W a->h'.get? a=aA o
 grow: ∀a,W' a->W a\/h.get? a=aF
theorem dc.refl (W h):dc W h W h:=⟨λO O e O=>e,λO=>.inl⟩
theorem dc.trans {W h W' h' W'' h''} (a:dc W h W' h') (b:dc W' h' W'' h''):dc W h W'' h'':=by
 refine ⟨λx o e n=>b.keep x o (a.keep x o e n) λq=>?_,λx q=>?_⟩
 ·refine cp (a.grow x q) (λq=>?_) λq=>?_
  ·exact n q
  ·rw[e] at q
   exact qU q
 ·refine cp (b.grow x q) (λq=>?_) λq=>?_
  ·exact a.grow x q
  ·induction e:h.get? x with
   |none=>exact .inr rfl
   |some o=>refine .inl<|QHK λn=>?_;rw[a.keep x o e n] at q;exact qU q
theorem dc.all {W h h'} (k: ∀a o,h.get? a=aA o->h'.get? a=aA o):dc W h W h':=⟨λa o e O=>k a o e,λO=>.inl⟩
theorem dc.mon {Ob W h W' h'} (a:dc W h W' h'):Mon (Ex Ob W) h (Ex Ob W') h':=λx o e n=>⟨a.keep x o e λq=>n<|.inr q,λq=>q.elim (λq=>n<|.inl q) λq=>(a.grow x q).elim (λq=>n<|.inr q) λq=>by rw[e] at q;exact qU q⟩
theorem Mon.all {X h h'} (k: ∀a o,h.get? a=aA o->h'.get? a=aA o):Mon X h X h':=λa o e n=>⟨k a o e,n⟩
structure vL where
 CL:Nat->(aM->Prop)->bK->List (aG×aM)->aM->Prop
 HI:(aM->Prop)->bK->aM->aM->Prop
 xw: ∀{f X h X' h' cl a},CL f X h cl a->Mon X h X' h'->CL f X' h' cl a
 kS: ∀{X h X' h' x a},HI X h x a->Mon X h X' h'->HI X' h' x a
 PF:aM->Prop
 Inv:(aM->Prop)->bK->Prop
 iM: ∀{X h X' h'},Inv X h->Mon X h X' h'->(∀a,PF a->h'.get? a=h.get? a)->Inv X' h'
 iN: ∀{X h a},Inv X h->PF a-> ∃o vs,h.get? a=aA o/\o.data=.fields vs
structure Fc where
 K:aG->Option dQ
 cM:aG->Option Nat
 rZ:aG->Bool
 inj: ∀x y i,cM x=aA i->cM y=aA i->x=y
 bd:Nat
 q8: ∀x i,cM x=aA i->i<bd
 Bo:bd<=1000000
 ow:Bool
 nw:Bool
 hn:Bool
 cd:Option (aM×aG)
theorem Fc.low (C:Fc) (x:aG) (i:Nat) (e:C.cM x=aA i):i<1000000:=mJ (C.q8 x i e) C.Bo
noncomputable def jJ:Obj:={cls:=.type "dict",data:=.dict #[]}
section
variable (P:vL) (φ:Nat->Option aM) (cl:List (aG×aM)) (X:aM->Prop) (h:bK)
noncomputable def da (i:Nat) (v:Option aI):Sl->Prop
 |.unb=>True
 |.emp=> ∃a,v=aA (.ref a)/\h.get? a=aA jJ/\ ¬ X a
 |.val d=> ∃u,v=aA u/\Rd X h u d
 |.own _=> ∃a,φ i=aA a/\v=aA (.ref a)
 |.ali j=>j=aT/\ ∃a,φ j=aA a/\v=aA (.ref a)
 |.inst=> ∃x a,φ aT=aA a/\v=aA (.ref x)/\P.HI X h x a
 |.clo f=> ∃a,v=aA (.ref a)/\P.CL f X h cl a
 |.eC n=> ∃a m,v=aA (.ref a)/\h.get? a=aA (listOf ((bg n).map λk=>wY<|(φ<|cU i k).getD 0).toArray m)/\ ¬ X a/\ ∀k,k<n->(φ<|cU i k).isSome
end
structure FR (P:vL) (G:bK) (C:Fc) (env:cg) (Ob:aM->Prop) (φ:Nat->Option aM) (W:aM->Prop) (r:bQ) (h:bK):Prop where
 base: ∀b o,G.get? b=aA o->h.get? b=aA o
 fO: ∀b o,G.get? b=aA o-> ¬ Ex Ob W b
 hk:env.scope.kind=.function
 hK: ∀x,env.kindOf x=C.K x
 hg:env.globals=nO
 hb:env.builtins=ic
 rn: ∀c q,C.cd=aA (c,q)->env.code=.ref c/\env.qual=q
 loc: ∃m,h.Ns env.locals m/\ ∀x i,C.K x=aA .local->C.cM x=aA i->da P φ env.cells (Ex Ob W) h i (m x) (r i)
 lL:W env.locals
 hG: ∀x i,(C.K x=aA .cell\/C.K x=aA .free)->C.cM x=aA i-> ∃c v,env.cells.lookup x=aA c/\h.IsCell c v/\da P φ env.cells (Ex Ob W) h i v (r i)
 qQ: ∀x i c,C.K x=aA .cell->C.rZ x=aB->C.cM x=aA i->env.cells.lookup x=aA c->W c
 oY: ∀x y c,env.cells.lookup x=aA c->env.cells.lookup y=aA c->x=y
 own: ∀i xs,r i=.own xs-> ∃a vs n,φ i=aA a/\h.get? a=aA (listOf vs.toArray n)/\bB (Ex Ob W) h vs xs
 gN:C.ow=aB-> ∀i xs a,r i=.own xs->φ i=aA a->i≠aT->W a
 jf: ∀xs,r aT=.own xs->r bR=.emp-> ∀a,φ aT=aA a->W a
 kn: ∀xs,r aT=.own xs->r bR≠ .emp-> ∀a,φ aT=aA a-> ¬ W a
 lD:(∀xs,r aT≠ .own xs)->φ aT=aF
 inj: ∀i j a,φ i=aA a->φ j=aA a->i=j
 jv: ∀i a,φ i=aA a-> ∃o,h.get? a=aA o
 dg: ∀a,Ex Ob W a-> ∃o,h.get? a=aA o
 dR: ∀a,W a-> ¬ Ob a
 inv:P.Inv (Ex Ob W) h
 pf: ∀a,P.PF a->W a
section
variable {Ob W W':aM->Prop} {φ φ':Nat->Option aM} {r:bQ} {h h':bK}
theorem da.mon {cl X X'} {i v} {sl:Sl} (x:da P φ cl X h i v sl) (m:Mon X h X' h') (hl: ∀n,sl=.eC n-> ∀a,φ i=aA a->h'.get? a=h.get? a):da P φ cl X' h' i v sl:=by
 induction sl with
 |val d=>exact aS x λu e q=>(ax u e<|q.mon m)
 |inst=>exact bc x λy a Y C q=>(cy y a Y C<|P.kS q m)
 |clo f=>exact aS x λa e q=>(ax a e<|P.xw q m)
 |emp=>exact dA x λa e Q s=>(ax a e<|m _ _ Q s)
 |eC n=>exact iT x λa k Y C p z=>jj a k Y (m _ _ C p).1 (m _ _ C p).2 z
 |_=>exact x
theorem FR.tc (F:FR P G C env Ob φ W r h) (k: ∀a o vs,h.get? a=aA o->o.data=.fields vs->P.PF a->h'.get? a=aA o): ∀a,P.PF a->h'.get? a=h.get? a:=λa p=>by refine cT (P.iN F.inv p) λo vs e d=>?_;simp only[e];exact k a o vs e d p
inductive Sq:Data->Prop
 |seq {vs n}:Sq (.seq vs n)
 |cell {v}:Sq (.cell v)
theorem Sq.nf (h:Sq d) (vs):d≠ .fields vs:=λe=>nomatch e▸h
theorem Sq.nd (h:Sq d) (es ep):d≠ .dict es ep:=λe=>nomatch e▸h
noncomputable def LW (C:Fc) (env:cg) (φ:Nat->Option aM) (a:aM):Prop:=(∃i,φ i=aA a)\/ ∃x i,(C.K x=aA .cell\/C.K x=aA .free)/\C.cM x=aA i/\env.cells.lookup x=aA a
theorem FR.al (F:FR P G C env Ob φ W r h) (q:(∃i,φ i=aA a)\/Ex Ob W a): ∃o,h.get? a=aA o:=q.elim (λq=>q.elim λi q=>F.jv i a q)<|F.dg a
theorem FR.nl (F:FR P G C env Ob φ W r h) (e:h.get? a=aA o) (d: ∀es H,o.data≠ .dict es H):a≠env.locals:=λq=>aS F.loc λO n O=>dT n λB es H u R O=>d es H<|bM e (q▸u)▸R
theorem FR.np (F:FR P G C env Ob φ W r h) (e:h.get? a=aA o) (d: ∀vs,o.data≠ .fields vs): ¬ P.PF a:=λp=>cT (P.iN F.inv p) λH vs u R=>d vs<|bM e u▸R
theorem Dn {m} (n:h.Ns a m) (k: ∀o,h.get? a=aA o->(∀vs,o.data≠ .fields vs)->h'.get? a=aA o):h'.Ns a m:=dT n λo K H e d q=>ly o K H (k o e λvs z=>nomatch d.symm.trans z) d q
theorem FR.chg {K:aM->Prop} (F:FR P G C env Ob φ W r h) (m:Mon (Ex Ob W) h (Ex K W) h') (k: ∀a o,h.get? a=aA o->Sq o.data->LW C env φ a->h'.get? a=aA o) (l: ∀m,h.Ns env.locals m->h'.Ns env.locals m)
 (al: ∀a,(∃i,φ i=aA a)\/Ex K W a-> ∃o,h'.get? a=aA o) (A: ∀a,W a-> ¬ K a) (inv:P.Inv (Ex K W) h'):FR P G C env K φ W r h':=by
 have g: ∀i v sl,da P φ env.cells (Ex Ob W) h i v sl->da P φ env.cells (Ex K W) h' i v sl:=by
  intro i v sl x;induction sl with
  |eC n=>exact iT x λa q e1 e2 p z=>jj a q e1 (m _ _ e2 p).1 (m _ _ e2 p).2 z
  |_=>exact x.mon m nofun
 exact aS F.loc λM Y N=>⟨λb o e=>(m b o (F.base b o e)<|F.fO b o e).1,λb o e=>(m b o (F.base b o e)<|F.fO b o e).2,F.hk,F.hK,F.hg,F.hb,F.rn,⟨M,l _ Y,λx i a b=>g _ _ _<|N x i a b⟩,F.lL,
  λx i a b=>bc (F.hG x i a b) λc v e1 p z=>cy c v e1 (aS p λo e d=>⟨o,k _ _ e (d▸ .cell)<|.inr<|cy x i a b e1,d⟩)<|g _ _ _ z,F.qQ,F.oY,
  λi xs e=>dT (F.own i xs e) λa vs n e1 e2 p=>ly a vs n e1 (k _ _ e2 .seq<|.inl ⟨i,e1⟩)<|p.mon m,F.gN,F.jf,F.kn,F.lD,F.inj,λi a e=>al a<|.inl ⟨i,e⟩,λa e=>al a<|.inr e,A,inv,F.pf⟩
theorem FR.keeps (F:FR P G C env Ob φ W r h) (k: ∀a o,h.get? a=aA o->h'.get? a=aA o):FR P G C env Ob φ W r h':=F.chg (Mon.all k) (λa o e O O=>k a o e) (λm n=>n.keeps k) (λa q=>aV (F.al q) λo e=>⟨o,k _ _ e⟩) F.dR<|P.iM F.inv (Mon.all k)<|F.tc λa o O e O O=>k a o e
structure Kl (L:aM) (h h':bK):Prop where
 keep: ∀a o,h.get? a=aA o->a≠L->h'.get? a=aA o
 ns: ∀m,h.Ns L m->h'.Ns L m
theorem Kl.refl (L h):Kl L h h:=⟨λO O e O=>e,λO n=>n⟩
theorem Kl.trans {L h h' h''} (a:Kl L h h') (b:Kl L h' h''):Kl L h h'':=⟨λx o e n=>b.keep x o (a.keep x o e n) n,λm n=>b.ns m<|a.ns m n⟩
theorem Kl.all {L h h'} (k: ∀a o,h.get? a=aA o->h'.get? a=aA o):Kl L h h':=⟨λa o e O=>k a o e,λm n=>n.keeps k⟩
theorem Kl.push {L h} (o:bH):Kl L h (h.push o):=.all λO O e=>gS _ e
theorem FR.LQ (F:FR P G C env Ob φ W r h) (k:Kl env.locals h h') (q: ∃o,h.get? a=aA o): ∃o,h'.get? a=aA o:=by
 by_cases L:a=env.locals
 ·exact aS F.loc λO n O=>oH (k.ns _ n) λo O O e O=>⟨o,L▸e⟩
 ·exact aV q λo q=>⟨o,k.keep _ _ q L⟩
theorem FR.Ml {X:aM->Prop} (F:FR P G C env Ob φ W r h) (k:Kl env.locals h h') (m:Mon (Ex Ob W) h X h'):P.Inv X h':=P.iM F.inv m<|F.tc λa o v e d O=>k.keep a o e<|F.nl e λK H q=>nomatch d.symm.trans q
theorem FR.kl (F:FR P G C env Ob φ W r h) (k:Kl env.locals h h'):FR P G C env Ob φ W r h':=by have m:Mon (Ex Ob W) h (Ex Ob W) h':=λa o e n=>⟨k.keep a o e λq=>n<|.inr<|q▸F.lL,n⟩;exact F.chg m (λa o e s O=>k.keep a o e<|F.nl e s.nd) k.ns (λa q=>F.LQ k<|F.al q) F.dR<|F.Ml k m
theorem FR.LD (F:FR P G C env Ob φ W r h) (k:Kl env.locals h h'):dc W h W h':=⟨λa o e n=>k.keep a o e λq=>n<|q▸F.lL,λO=>.inl⟩
theorem FR.F0 (F:FR P G C env Ob φ W r h) (k:Kl env.locals h h'):Mon (Ex Ob W) h (Ex Ob W) h':=(F.LD k).mon
theorem VL (h:bK) (hn:h.Ns L m): ∃h₀ news,Fr h₀ L h m/\uT h₀ L h news/\(∀p∈news,p.1<h.objs.size)/\(news.map (·.1)).Nodup/\
 (∀b o,h.get? b=aA o->b≠L->h₀.get? b=aA o\/(b,o)∈news):=by
 have hsz:(h.objs.extract 0 L).size=L:=by simp only[uU];exact (Cs _).trans<|fz<|sD (hn.lt: @LT.lt Nat _ L h.objs.size)
 refine (va ({objs:=h.objs.extract 0 L,life:=h.life}) ((bg h.objs.size).filterMap λb=>if L<b then (h.get? b).map (b, ·) else aF) ⟨hn,λb o e=>?_,qm hsz⟩ ?_ ?_ ?_ ?_)
 ·refine bI (Hi.mp e) λe1 e2=>?_
  refine Hi.mpr ⟨?_,e2⟩;simp only[QEX] at e1
  split at e1
  ·simpa using e1
  ·exact ay e1
 ·intro p P
  refine aS (Hj.mp P) λb hb e=>?_
  split at e
  ·rename_i K
   refine aS (lN.mp e) λo eo B=>cw B<|⟨eo,Nat.ne_of_gt K,?_⟩
   induction q:wZ {objs:=h.objs.extract 0 L,life:=h.life} b with
   |none=>rfl
   |some o'=>have Q:=kh q;simp only[hsz] at Q;exact QHb (sF Q K)<|mK _
  ·exact ay e
 ·intro p P
  refine aS (Hj.mp P) λb hb e=>?_
  split at e
  ·exact aS (lN.mp e) λo eo B=>cw B<|Heap.lt_size eo
  ·exact ay e
 ·have:((bg h.objs.size).filterMap λb=>if L<b then (h.get? b).map (b, ·) else aF).map (·.1)=(bg h.objs.size).filter λb=>decide (L<b) && (h.get? b).isSome:=by
   generalize bg h.objs.size=l;induction l with
   |nil=>rfl
   |cons x l i=>
    by_cases M:L<x
    ·induction ho:h.get? x with
     |none=>simp[M,ho,i]
     |some o=>simp[M,ho,i]
    ·simp[M,i]
  simp only[this];exact (List.filter_sublist).nodup List.nodup_range
 ·intro b o e n
  by_cases hb:L<b
  ·exact .inr (Hj.mpr<|ax b (sG.mpr<|kh e) (by (erw[if_pos hb];erw[e]);rfl))
  ·have Y:=Nat.lt_of_le_of_ne (jN hb) n
   refine bI (Hi.mp e) λe1 e2=>?_;refine .inl<|Hi.mpr ⟨?_,e2⟩;simp only[QEX];simp only[uU] at hsz;erw[if_pos (by simp only[hsz];exact Y)];simpa using e1
theorem Kl.of {news t:List (aM×bH)} (hn:h.Ns L m) (hl: ∀b o,h.get? b=aA o->b≠L->h₀.get? b=aA o\/(b,o)∈news) (F:Fr h₀ L h' m) (N:uT h₀ L h' t) (hs: ∀p∈news,p∈t):Kl L h h':=
 ⟨λa o e n=>(hl a o e n).elim (F.keep a o) λq=>(N _<|hs _ q).1,λM n'=>by
  have:=funext λx=>n'.agree hn x;simp only[this]
  exact F.ns⟩
theorem FR.less {K:aM->Prop} (F:FR P G C env K φ W r h) (k: ∀a,Ob a->K a):FR P G C env Ob φ W r h:=by have j: ∀a,Ex Ob W a->Ex K W a:=λa q=>q.imp (k a) id;have m:Mon (Ex K W) h (Ex Ob W) h:=λa o e n=>⟨e,λq=>n<|j a q⟩;exact F.chg m (λO O e O O=>e) (λO n=>n) (λa q=>F.al<|q.imp id<|j a) (λa w q=>F.dR a w<|k a q)<|P.iM F.inv m λO O=>rfl
theorem FR.Km {I a:aM} (F:FR P G C env Ob φ W r h) (f: ∃o,h'.get? I=aA o) (k:(∃o,h.get? a=aA o)-> ∃o,h'.get? a=aA o) (q:(∃i,φ i=aA a)\/Ex (λa=>Ob a\/a=I) W a): ∃o,h'.get? a=aA o:=by
 by_cases z:a=I
 ·exact z▸f
 ·exact k<|F.al<|q.imp id λq=>q.imp (λq=>q.resolve_right z) id
theorem FR.Mn {I:aM} (F:FR P G C env Ob φ W r h) (i:h.get? I=aF) (a) (w:W a): ¬ (Ob a\/a=I):=λq=>q.elim (F.dR a w) λq=>aV (F.dg a<|.inr w) λO e=>cb (q▸i) e
theorem FR.apart {I:aM} (F:FR P G C env Ob φ W r h) (k: ∀a o,h.get? a=aA o->h'.get? a=aA o) (t:h.get? I=aF) (i: ∃o,h'.get? I=aA o):FR P G C env (λa=>Ob a\/a=I) φ W r h':=by have m:Mon (Ex Ob W) h (Ex (λa=>Ob a\/a=I) W) h':=λa o e n=>⟨k a o e,λq=>n<|q.imp (λq=>q.resolve_right λz=>cb (z▸t) e) id⟩;exact F.chg m (λa o e O O=>k a o e) (λm n=>n.keeps k) (λa q=>F.Km i (λq=>aV q λo e=>⟨o,k _ _ e⟩) q) (F.Mn t)<|P.iM F.inv m<|F.tc λa o O e O O=>k a o e
theorem FR.turned {I:aM} (F:FR P G C env Ob φ W r h) (t:Ob I) (hn: ¬ W I) (f: ∃o vs,h.get? I=aA o/\o.data=.fields vs) (k: ∀a o,a≠I->h.get? a=aA o->h'.get? a=aA o) (i: ∃o,h'.get? I=aA o):FR P G C env Ob φ W r h':=by
 have m:Mon (Ex Ob W) h (Ex Ob W) h':=λa o e n=>⟨k a o (λq=>n<|.inl<|q▸t) e,n⟩;have N: ∀a o,h.get? a=aA o->(∀vs,o.data≠ .fields vs)->a≠I:=λa o e d q=>cT f λY v x g=>d v<|bM e (q▸x)▸g;refine F.chg m (λa o e s O=>k a o (N a o e s.nf) e) (λm n=>Dn n λo e d=>k _ o (N _ o e d) e) (λa q=>?_) F.dR<|P.iM F.inv m<|F.tc λa o O e O p=>k a o (λq=>F.dR a (F.pf a p)<|q▸t) e;by_cases z:a=I
 ·exact z▸i
 ·exact aV (F.al q) λo e=>⟨o,k a o z e⟩
theorem FR.El (F:FR P G C env Ob φ W r h) {X Z:aM->Prop} (k: ∀a o,h.get? a=aA o-> ¬ Z a-> ¬ P.PF a->h'.get? a=aA o) (i:P.Inv X h') (z: ¬ Z a) (q: ∃o,h.get? a=aA o): ∃o,h'.get? a=aA o:=by
 by_cases p:P.PF a
 ·exact cT (P.iN i p) λo O e O=>⟨o,e⟩
 ·exact aV q λo q=>⟨o,k a o q z p⟩
theorem FR.keepsP (F:FR P G C env Ob φ W r h) (k: ∀a o,h.get? a=aA o-> ¬ P.PF a->h'.get? a=aA o) (i:P.Inv (Ex Ob W) h'):FR P G C env Ob φ W r h':=F.chg (λa o e n=>⟨k a o e λp=>n<|.inr<|F.pf a p,n⟩) (λa o e s O=>k a o e<|F.np e s.nf) (λm n=>Dn n λo e d=>k _ o e<|F.np e d) (λa q=>F.El (Z:=λO=>False) (λa o e O p=>k a o e p) i id<|F.al q) F.dR i
theorem FR.Ag (F:FR P G C env Ob φ W r h) (k: ∀a o,h.get? a=aA o-> ¬ P.PF a->h'.get? a=aA o):dc W h W h':=⟨λa o e n=>k a o e λp=>n<|F.pf a p,λO=>.inl⟩
theorem FR.push (F:FR P G C env Ob φ W r h) (o:bH):FR P G C env Ob φ W r (h.push o):=F.keeps λO O e=>gS _ e
theorem FR.forget (F:FR P G C env Ob φ W r h) (i:Nat) (d:i≠bR) (H:i≠aT):FR P G C env Ob φ W (upd r i .unb) h:=by
 have s: ∀j v,da P φ env.cells (Ex Ob W) h j v (r j)->da P φ env.cells (Ex Ob W) h j v (upd r i .unb j):=by
  intro j v x;unfold upd
  split
  ·trivial
  ·exact x
 refine aS F.loc λm Y N=>⟨F.base,F.fO,F.hk,F.hK,F.hg,F.hb,F.rn,⟨m,Y,λx j a b=>s _ _<|N x j a b⟩,F.lL,λx j a b=>?_,F.qQ,F.oY,λj R e=>?_,λc j R a e u n=>?_,λR e u=>?_,λR e u=>?_,λe=>F.lD (λR q=>e R (by unfold upd;erw[if_neg<|lO H];exact q)),F.inj,F.jv,F.dg,F.dR,F.inv,F.pf⟩
 ·exact bc (F.hG x j a b) λc v t p z=>(cy c v t p<|s _ _ z)
 ·unfold upd at e
  split at e
  ·exact nomatch e
  ·exact F.own j R e
 ·unfold upd at e
  split at e
  ·exact nomatch e
  ·exact F.gN c j R a e u n
 ·unfold upd at e u
  split at e
  ·exact nomatch e
  ·rw[if_neg<|lO d] at u
   exact F.jf R e u
 ·unfold upd at e u
  split at e
  ·exact nomatch e
  ·rw[if_neg<|lO d] at u
   exact F.kn R e u
theorem FR.store {sl:Sl} {E:aI->aN->Prop}
 (F:FR P G C env Ob φ W (upd r i .unb) s.heap) (ht:C.cM x=aA i) (hs:C.rZ x=aB) (hK:C.K x=aA .local\/C.K x=aA .cell)
 (hv: ∀h',(∀a o,s.heap.get? a=aA o->a≠env.locals->(∀c,env.cells.lookup x=aA c->a≠c)->h'.get? a=aA o)->Mon (Ex Ob W) s.heap (Ex Ob W) h'->da P φ env.cells (Ex Ob W) h' i (aA v) sl)
 (ho: ∀xs,sl=.own xs-> ∃a vs n,φ i=aA a/\s.heap.get? a=aA (listOf vs.toArray n)/\bB (Ex Ob W) s.heap vs xs/\W a)
 (h: ∀h' tk,FR P G C env Ob φ W (upd r i sl) h'->dc W s.heap W h'->Q () {s with heap:=h',toks:=tk}):aO M A (Ct env x v) Q E s:=by
 have Y:=C.low x i ht
 have af: ∀b h',W b->(∃o,s.heap.get? b=aA o/\((∃es ep,o.data=.dict es ep)\/ ∃c,o.data=.cell c))->Hk b s.heap h'->
  (b=env.locals\/env.cells.lookup x=aA b)->
  (∃m,h'.Ns env.locals m/\(∀y,y≠x->b=env.locals-> ∀L,s.heap.Ns env.locals L->m y=L y)/\(b≠env.locals->s.heap.Ns env.locals m)/\(b=env.locals->m x=aA v))->
  (∀y c U,y≠x\/b=env.locals->env.cells.lookup y=aA c->s.heap.IsCell c U->h'.IsCell c U)->
  (∀c,b≠env.locals->env.cells.lookup x=aA c->h'.IsCell c (aA v))->
  (C.K x=aA .local->b=env.locals)->(C.K x=aA .cell->b≠env.locals)->FR P G C env Ob φ W (upd r i sl) h'/\dc W s.heap W h':=by
  intro b h' wb Z sb B hm H f aa l;have st:dc W s.heap W h':=⟨λa o e n=>(sb.2 a λq=>n<|q▸wb).trans e,λO=>.inl⟩;have mo:Mon (Ex Ob W) s.heap (Ex Ob W) h':=st.mon
  have al: ∀a,(∃o,s.heap.get? a=aA o)-> ∃o,h'.get? a=aA o:=λa h0=>h0.elim λo q=>by
   by_cases hL:a=b
   ·refine cp (B) (λg=>?_) λg=>?_
    ·exact aS hm λm ai O=>oH ai λo' O O u O=>⟨o',by simp only[hL,g];exact u⟩
    ·by_cases hb:b=env.locals
     ·exact aS hm λm ai O=>oH ai λo' O O u O=>⟨o',by simp only[hL,hb];exact u⟩
     ·exact aS (f b hb g) λo' u O=>⟨o',hL▸u⟩
   ·exact ⟨o,(sb.2 a hL).trans q⟩
  have ae: ∀a o,s.heap.get? a=aA o->(∃vs n,o.data=.seq vs n)->h'.get? a=aA o:=λa o e h0=>h0.elim λvs h0=>h0.elim λn d=>by refine (sb.2 a λq=>?_).trans e;clear wb sb B hm H f aa l;subst q;refine aS Z λo' u g=>?_;obtain rfl:=bM e u;rcases g with ⟨es,ep,d'⟩|⟨c,d'⟩<;>rw[d] at d'<;>contradiction
  have ab:=hv h' (λa o e N n2=>(sb.2 a λq=>by
   clear wb Z sb hm H f aa l;subst q;refine cp (B) (λq=>?_) λq=>?_
   ·exact N q
   ·exact n2 _ q rfl).trans e) mo
  have sk: ∀j U,j≠i->da P φ env.cells (Ex Ob W) s.heap j U (upd r i .unb j)->da P φ env.cells (Ex Ob W) h' j U (upd r i sl j):=by
   intro j U n y;have e1:upd r i sl j=r j:=by unfold upd;rw[if_neg n]
   have e2:upd r i .unb j=r j:=by unfold upd;rw[if_neg n]
   rw[e1];rw[e2] at y;induction hsl:r j with
   |eC k=>rw[hsl] at y;exact iT y λa q e1 e2 e3 e4=>⟨a,q,e1,(mo _ _ e2 e3).1,(mo _ _ e2 e3).2,e4⟩
   |_=>rw[hsl] at y;exact y.mon mo λn e=>by contradiction
  refine se hm λm m1 m2 m3 m4=>aS F.loc λL N n2=>⟨⟨λq o e=>st.keep q o (F.base q o e) λw=>F.fO q o e<|.inr w,F.fO,F.hk,F.hK,F.hg,F.hb,F.rn,⟨m,m1,λy j a c=>?_⟩,F.lL,λy j a c=>?_,F.qQ,F.oY,λj xs e=>?_,λcc j xs a e u n=>?_,λxs e u=>?_,λxs e u=>?_,λe=>F.lD (λxs q=>e xs (by have h1:aT≠i:=λq=>(by rw[<-q] at Y;exact QHb Y<|by decide);unfold upd at q⊢;rw[if_neg h1] at q⊢;exact q)),F.inj,λj a e=>al a<|F.jv j a e,λa e=>al a<|F.dg a e,F.dR,P.iM F.inv mo (F.tc λa o vs e d O=>by
   refine (sb.2 a λq=>?_).trans e;clear wb sb B hm H f aa l m2 m3 m4;subst q;refine aS Z λo' u g=>?_;obtain rfl:=bM e u
   rcases g with ⟨es,ep,d'⟩|⟨c,d'⟩<;>rw[d] at d'<;>contradiction),F.pf⟩,st⟩
  ·by_cases t:y=x
   ·clear hs hK hv B hm H f l m2
    subst t;obtain rfl:=bM ht c;have:=aa a;rw[m4 this];unfold upd;rw[if_pos rfl];exact ab
   ·have p:j≠i:=λq=>t (C.inj y x i (q▸c) ht)
    have:=sk j (L y) p<|n2 y j a c;by_cases hb:b=env.locals
    ·rw[m2 y t hb L N]
     exact this
    ·rw[show m y=L y from (m3 hb).agree N y]
     exact this
  ·refine bc (F.hG y j a c) λc' U e1 e3 e4=>?_
   by_cases t:y=x
   ·clear hs hv B hm H aa m2 m4
    subst t;obtain rfl:=bM ht c
    have hb:b≠env.locals:=λq=>by
     refine cp (hK) (λg=>?_) λg=>?_
     ·rw[g] at a
      rcases a with a|a<;>contradiction
     ·exact l g q
    refine (cy c' (aA v) e1 (f c' hb e1) ?_);unfold upd;rw[if_pos rfl];exact ab
   ·have p:j≠i:=λq=>t (C.inj y x i (q▸c) ht)
    exact (cy c' U e1 (H y c' U (.inl t) e1 e3)<|sk j U p e4)
  ·by_cases p:j=i
   ·clear F ht hv h Y ab sk n2
    subst p;unfold upd at e;rw[if_pos rfl] at e;exact dZ (ho xs e) λa vs n q1 q2 q3 q4=>⟨a,vs,n,q1,ae _ _ q2<|l6 _ _ rfl,q3.mon mo⟩
   ·have u:upd r i .unb j=.own xs:=by unfold upd at e⊢;rw[if_neg p] at e⊢;exact e
    exact dT (F.own j xs u) λa vs n q1 q2 q3=>⟨a,vs,n,q1,ae _ _ q2<|l6 _ _ rfl,q3.mon mo⟩
  ·by_cases p:j=i
   ·clear F ht hv h Y ab sk n2
    subst p;unfold upd at e;rw[if_pos rfl] at e;refine dZ (ho xs e) λa' vs n q1 q2 q3 q4=>?_;obtain rfl:=bM q1 u;exact q4
   ·exact F.gN cc j xs a (by unfold upd at e⊢;rw[if_neg p] at e⊢;exact e) u n
  ·have h1:aT≠i:=λq=>by rw[<-q] at Y;exact QHb Y (by decide)
   have h2:bR≠i:=λq=>by rw[<-q] at Y;exact QHb Y (by decide)
   unfold upd at e u;rw[if_neg h1] at e;rw[if_neg h2] at u;exact F.jf xs (by unfold upd;rw[if_neg h1];exact e) (by unfold upd;rw[if_neg h2];exact u)
  ·have h1:aT≠i:=λq=>by rw[<-q] at Y;exact QHb Y (by decide)
   have h2:bR≠i:=λq=>by rw[<-q] at Y;exact QHb Y (by decide)
   unfold upd at e u;rw[if_neg h1] at e;rw[if_neg h2] at u;exact F.kn xs (by unfold upd;rw[if_neg h1];exact e) (by unfold upd;rw[if_neg h2];exact u)
 refine aS F.loc λL N n2=>cp (hK) (λz=>?_) λz=>?_
 ·refine QEY ((F.hK x).trans z) N (λh' hn sb=>?_) (by rw[F.hk];rfl)
  have Z: ∃o,s.heap.get? env.locals=aA o/\((∃es ep,o.data=.dict es ep)\/ ∃c,o.data=.cell c):=dT N λo es ep e d O=>⟨o,e,.inl<|l6 es ep d⟩
  refine bI (af env.locals h' F.lL Z sb (.inl rfl) (kM _ hn (λy t O ak ah=>by rw[if_neg t];exact N.agree ah y) (λq=>QHb rfl q) λO=>QHd rfl)
   (λy c U O e1 e3=>e3.sameBut sb λq=>by
    refine dT N λo es ep e d O=>aS e3 λo' u d'=>?_;simp only[q,e] at u;cases u
    rw[d'] at d;contradiction) (λc q=>QHb rfl q) (λO=>rfl) (λq=>by cases bM z q)) λR st=>?_
  exact h h' _ R st
 ·refine bc (F.hG x i (.inl z) ht) λc U e1 e3 e4=>wpAny_storeName_cell F.hk ((F.hK x).trans z) e1 e3 λh' hc sb=>?_
  have cl:c≠env.locals:=λq=>by refine dT N λo es ep e d O=>aS e3 λo' u d'=>?_;simp only[q,e] at u;cases u;rw[d'] at d;clear e4 d';contradiction
  refine bI (af c h' (F.qQ x i c z hs ht e1) (by refine aS e3 λo e d=>?_;exact (ax o e<|.inr ⟨_,d⟩)) sb (.inr e1)
   (kM L (N.sameBut sb cl.symm) (λy t q=>QHb q cl) (λO=>N) λq=>QHb q cl)
   (λy c' ao t ag aj=>aj.sameBut sb λq=>by
    refine cp (t) (λt=>?_) λt=>?_
    ·exact t<|F.oY y x c (q▸ag) e1
    ·exact cl t) (λc' O ag=>by clear F ht hs hK hv ho Y af N n2 e3 e4 sb;obtain rfl:=bM e1 ag;exact hc) (λq=>by cases bM z q) (λO=>cl)) λR st=>?_
  exact h h' s.toks R st
end
theorem Runs.toks (h:Runs M Γ p t fs s e s'):s.toks<=s'.toks:=by
 induction h<;>first|exact Nat.le_refl _|assumption|(simp only[Shared.setGen] at*;omega)|omega
theorem QAU (R:Wakes M Γ p g r s C s'):s.toks<=s'.toks:=by
 have n: ∀{W N q d t f} {P:Prop},Runs M q d t f (s.setGen g .running) W N->W.quiet=aB/\P/\s'=N.setGen g W.genState->s.toks<=s'.toks:=λq e=>by rw[e.2.2];exact (Runs.toks q:)
 delta Wakes at R;revert R;generalize s.gens[g]?=x;intro R;induction x with
 |none=>exact R.elim
 |some c=>cases c with
  |fresh c=>cases r with
   |send v=>cases v with
    |none=>exact Exists.elim R λW h=>h.elim λN h=>n h.1 h.2
    |_=>exact (And.right R)▸bh _
   |throw x=>exact (And.right R)▸bh _
  |suspended=>exact Exists.elim R λW h=>h.elim λN h=>n h.1 h.2
  |_=>exact (And.right R)▸bh _
theorem QEC {α:Type} (m:ba α) (F:Nat) {Q:α->bP->aN->Prop} {E:aI->bP->aN->Prop}: ∀p s,F<=s.toks->
 f6 M Γ m (λa P d=>F<=d.toks->Q a P d) (λa P d=>F<=d.toks->E a P d) p s->f6 M Γ m Q E p s:=by
 induction m with
 |pure a=>exact λp s h w=>w h
 |raise e=>exact λp s h w=>w h
 |rule t k i=>exact i _
 | «at» q k i=>exact λp=>i _ q
 |load a q k i=>exact λp s h w=>w.elim λo w=>⟨o,w.1,i _ p s h w.2⟩
 |update a q f k i=>exact λp s h w=>⟨w.1,i _ p _ h w.2⟩
 |alloc o k i=>exact λp s h=>i _ p _ h
 |loadIfAlive a k i=>exact λp s=>i _ p s
 |point l k i=>exact i _
 |fresh k i=>exact λp s h=>i _ p _<|Hl h
 |ask k i=>exact λp s=>i _ p s
 |choose L n k i=>exact λp s h w=>⟨w.1,i _ p _ h w.2⟩
 |os q l k i=>exact λp s h=>i _ p _ h
 |call c hd g l k i=>exact λp s h w=>w.elim λr w=>w.elim λd w=>⟨r,d,w.1,i _ p d (az h<|Runs.toks w.1) w.2⟩
 |handled o k i=>exact λp s=>i _ p s
 |genState g k i=>exact λp s h w=>w.elim λo w=>⟨o,w.1,i _ p s h w.2⟩
 |newGen c k i=>exact λp s h=>i _ p _ h
 |resume g r l k i=>exact λp s h w=>w.elim λr w=>w.elim λd w=>⟨r,d,w.1,i _ p d (az h<|QAU w.1) w.2⟩
 |stack k i=>exact λp s=>i _ p s
 |thread k i=>exact λp s=>i _ p s
 |_=>exact λp s h w=>w.elim
theorem wpAny_toks {α:Type} {m:ba α} {Q:α->aN->Prop} {E:aI->aN->Prop} (h:aO M A m (λa n=>s.toks<=n.toks->Q a n) (λe n=>s.toks<=n.toks->E e n) s):aO M A m Q E s:=λL p H=>QEC m s.toks p s (bh _)<|h L p H
noncomputable def gz (n:Nat) (A:cV):Prop:=A.handled=aF/\A.depth+n<=900/\A.units+10*n+300<=9900
structure Wd where
 prog:sH
 w:bz
 P:vL
 G:bK
 n:Nat
 o:bj
 mg:aG->Option aI
 fns:List aG
 hm:Nat->Option (aG×aM)
 cN:Nat->Fc->Prop
 hc:aM
structure Fx where
 A:cV
 env:cg
 Ob:aM->Prop
structure Zs where
 s:aN
 W:aM->Prop
 φ:Nat->Option aM
noncomputable def Zs.to (z:Zs) (h:bK) (tk:fG):Zs:={z with s:={z.s with heap:=h,toks:=tk}}
structure FX (D:Wd) (C:Fc) (X:Fx) (r:bQ) (z:Zs):Prop where
 F:FR D.P D.G C X.env X.Ob z.φ z.W r z.s.heap
 R:gz D.n X.A
 t:1<=z.s.toks
structure Sx (z z':Zs):Prop where
 st:dc z.W z.s.heap z'.W z'.s.heap
 t:z.s.toks<=z'.s.toks
 f:z'.φ=z.φ
 e:z'.s={z.s with heap:=z'.s.heap,toks:=z'.s.toks,drawn:=z'.s.drawn}
noncomputable def VR (P:vL) (φ:Nat->Option aM) (X:aM->Prop) (h:bK) (v:aI):V->Prop
 |.d d=>Rd X h v d
 |.bor i=> ∃a,φ i=aA a/\v=.ref a
 |.inst=> ∃x a,φ aT=aA a/\v=.ref x/\P.HI X h x a
 |.emp=>True
theorem VR.mon {P φ X h v X' h'} (x:VR P φ X h v u) (m:Mon X h X' h'):VR P φ X' h' v u:=by
 induction u with
 |d d=>exact Rd.mon x m
 |bor i=>exact x
 |inst=>exact bc x λy a Y e q=>(cy y a Y e<|P.kS q m)
 |emp=>trivial
noncomputable def Rz (X:Fx) (z:Zs) (u:aI) (d:aK):Prop:=Rd (Ex X.Ob z.W) z.s.heap u d
noncomputable def iO (X:Fx) (z:Zs) (us:List aI) (ds:List aK):Prop:=bB (Ex X.Ob z.W) z.s.heap us ds
noncomputable def Vz (D:Wd) (X:Fx) (z:Zs) (u:aI) (v:V):Prop:=VR D.P z.φ (Ex X.Ob z.W) z.s.heap u v
inductive iy (D:Wd) (X:Fx) (z:Zs):List aI->List V->Prop
 |nil:iy D X z [] []
 |cons {u us v vs}:Vz D X z u v->iy D X z us vs->iy D X z (u::us) (v::vs)
section
variable {v x y:V} {d:aK} {h':bK} {tk:fG} {Q:aI->aN->Prop} {E:aI->aN->Prop}
theorem Sx.mon {X:Fx} (s:Sx z z'):Mon (Ex X.Ob z.W) z.s.heap (Ex X.Ob z'.W) z'.s.heap:=s.st.mon
theorem Sx.refl:Sx z z:=⟨.refl _ _,bh _,rfl,rfl⟩
theorem Sx.trans (a:Sx z z') (b:Sx z' z''):Sx z z'':=⟨a.st.trans b.st,az a.t b.t,b.f.trans a.f,by (erw[b.e];exact sb a.e rfl)⟩
theorem Vz.mon (q:Vz D X z u v) (s:Sx z z'):Vz D X z' u v:=by unfold Vz;exact sb s.f<|VR.mon q s.mon
theorem Rz.mon (q:Rz X z u d) (s:Sx z z'):Rz X z' u d:=Rd.mon q s.mon
theorem iO.mon {us ds} (q:iO X z us ds) (s:Sx z z'):iO X z' us ds:=bB.mon q s.mon
theorem iy.mon {us vs} (q:iy D X z us vs) (s:Sx z z'):iy D X z' us vs:=by
 induction q with
 |nil=>exact .nil
 |cons a _ i=>exact .cons (a.mon s) i
theorem Sx.kl (K:FX D C X r z) (k:Kl X.env.locals z.s.heap h') (l:z.s.toks<=tk):Sx z (z.to h' tk):=⟨K.F.LD k,l,rfl,rfl⟩
theorem FX.kl (K:FX D C X r z) (k:Kl X.env.locals z.s.heap h') (l:z.s.toks<=tk):FX D C X r (z.to h' tk):=⟨K.F.kl k,K.R,az K.t l⟩
noncomputable def KE (D:Wd) (C:Fc) (X:Fx) (r:bQ) (z:Zs) (v:V) (Q:aI->aN->Prop):Prop:= ∀u Z,FX D C X r Z->Sx z Z->Vz D X Z u v->Q u Z.s
theorem KE.new (k:KE D C X r z (.d d) Q) (K:FX D C X r z) (kl:Kl X.env.locals z.s.heap h') (q:Rd (Ex X.Ob z.W) h' u d):z.s.toks<=tk->Q u {z.s with heap:=h',toks:=tk}:=λl=>k u (z.to h' tk) (K.kl kl l) (.kl K kl l) q
theorem KE.same (k:KE D C X r z (.d d) Q) (K:FX D C X r z) (q:Rd (Ex X.Ob z.W) z.s.heap u d):z.s.toks<=tk->Q u {z.s with toks:=tk}:=k.new K (.refl _ _) q
noncomputable def KB (D:Wd) (C:Fc) (X:Fx) (r:bQ) (z:Zs) (b:Bool) (Q:Bool->aN->Prop):Prop:= ∀Z,FX D C X r Z->Sx z Z->Q b Z.s
theorem KB.same {Q:Bool->aN->Prop} (k:KB D C X r z b Q) (K:FX D C X r z):z.s.toks<=tk->Q b {z.s with toks:=tk}:=λl=>k (z.to z.s.heap tk) (K.kl (.refl _ _) l)<|.kl K (.refl _ _) l
inductive Dm (X:Fx) (z:Zs):aI->List aK->Prop
 |mk {a vs n xs}:z.s.heap.get? a=some (listOf vs.toArray n)->bB (Ex X.Ob z.W) z.s.heap vs xs->Dm X z (.ref a) xs
inductive JD (X:Fx) (z:Zs):aI->List aK->Prop
 |mk {a vs n xs}:z.s.heap.get? a=some {cls:=.type "tuple",data:=.seq vs.toArray n}->bB (Ex X.Ob z.W) z.s.heap vs xs->JD X z (.ref a) xs
theorem Jr {xs} (q:Vz D X z u (.d<|.list xs)):Dm X z u xs:=dZ (Rd.lst_inv q) λa v n e C O p=>sb e<| .mk C p
theorem kN {xs} (K:FX D C X r z) (q:Vz D X z u x) (e:gb r x xs):Dm X z u xs:=by
 induction e with
 |d=>exact Jr q
 |bor R=>refine dT (K.F.own _ _ R) λa m n Y v h=>aS q λb p B=>sb B ?_;clear K R q B;obtain rfl:=bM Y p;exact .mk v h
theorem Ha {xs} (q:Vz D X z u (.d<|.tuple xs)):JD X z u xs:=dZ (Rd.BF q) λa v n e C O p=>sb e<| .mk C p
theorem gM {h:bK} {vs:List aI} (e:h.get? a=aA (listOf vs.toArray n)):h.IsList a vs.toArray:=⟨_,e,rfl,n,rfl⟩
theorem jB:mL=16777216:=by decide
theorem FR.vN {P G C env Ob φ W r} (K:FR P G C env Ob φ W r h) (e:h.get? a=aF): ¬ Ex Ob W a:=λq=>aV (K.dg _ q) λo q=>cb e q
theorem FR.tD {P G C env Ob φ W r} (K:FR P G C env Ob φ W r h): ¬ Ex Ob W h.objs.size:=K.vN<|ie<|bh _
theorem FX.fresh {vs ds} (K:FX D C X r z) (R:iO X z vs ds) (n:Nat):Rd (Ex X.Ob z.W) (z.s.heap.push<|listOf vs.toArray n) (.ref z.s.heap.objs.size) (.list ds):=Rd.lst (fH _ rfl) K.F.tD<|bB.mon R<|.all λO O e=>gS _ e
theorem FX.freshT {vs ds} (K:FX D C X r z) (R:iO X z vs ds) (n:Nat):Rd (Ex X.Ob z.W) (z.s.heap.push {cls:=.type "tuple",data:=.seq vs.toArray n}) (.ref z.s.heap.objs.size) (.tuple ds):=Rd.tup (fH _ rfl) K.F.tD<|bB.mon R<|.all λO O e=>gS _ e
theorem FX.led (K:FX D C X r z): ∃h m news,Fr h X.env.locals z.s.heap m/\uT h X.env.locals z.s.heap news/\
 (∀h' n,Fr h X.env.locals h' m->uT h X.env.locals h' n->(∀p∈news,p∈n)->Kl X.env.locals z.s.heap h')/\
 (∀h' D o n,uT h X.env.locals h' ((D,o)::n)->(∀p∈news,p.1<D)->z.s.heap.get? D=aF):=by
 refine aS K.F.loc λm e O=>oh (VL z.s.heap e) λh news F N L O x=>(qT h m news F N (λh' n f l s=>Kl.of e x f l s) λh' D o n l g=>?_);have t:=l _<|.head _;induction q:z.s.heap.get? D with
 |none=>rfl
 |some H=>
  rcases x D H q t.2.1 with Q|Q
  ·exact cb t.2.2 Q
  ·exact QHb (g _ Q)<|mK _
theorem QDO {w:bz} (hb:kI op a b c) (h: ∀t tk,Q (.int c t) {s with toks:=tk}):aO (aY prog w) A (binaryOp op (.int a t)<|.int b t') Q E s:=by
 induction hb with
 |add=>exact QHL<|h _ _
 |sub=>exact QHM<|h _ _
 |mul q=>exact QHN (h _ _)<|IntMulOk.of_le (bh _) (bh _) q
 |fdiv q R=>exact floordiv_int q (h _ _)<|.inl R
 |fmod q=>exact mod_int' q<|h _ _
 |pow q R=>exact pow_int q R<|h _ _
 |shl q R=>exact lshift_int q R<|h _ _
 |shr q=>exact rshift_int q<|h _ _
 |and=>exact and_int<|h _ _
 |or=>exact or_int<|h _ _
 |xor=>exact xor_int<|h _ _
theorem bB.rep {X h} {vs:List aI} (r:bB X h vs xs): ∀n,bB X h (dV n vs).flatten (dV n xs).flatten:=by
 intro O;induction O with
 |zero=>exact bB.nil
 |succ n i=>exact r.app<|i
theorem Ry {X:aG} {k:Int} (x:X.length<=4096) (H:k<=4096) (i: -4096<=k):MulOk X k:=by
 refine ⟨by simp;exact ⟨(bE i),(bE H)⟩,λh O c=>?_,λh O=>?_⟩
 ·have:=kD (Hm (oq.mpr x) H (by grind_order)<|dP _) (by decide:(4096:Nat)*(4096:Int)<=2^63 - 1)
  exact QHb (Int.le_ediv_of_mul_le (jL.mp ‹_›) this) λK=>fj K c
 ·have:X.length*k.toNat<=4096*4096:=Cu x (((Int.le_total 0<|k).elim (λu=>(oM<|bG (iL<|jO (u:0<=k)) H)) λu=>(aQ<|nL<|Int.toNat_of_nonpos (u:k<=0))))
  simp only[QHO,decide_eq_false_iff_not];simp only[jB];exact iH.mpr ‹_›
theorem WG {op:iG} (hb:fe r op x y d) (K:FX D C X r z) (M:Vz D X z u x) (Y:Vz D X z u' y) (k:KE D C X r z (.d d) Q):aO (aY D.prog D.w) X.A (binaryOp op u u') Q E z.s:=by
 induction hb with
 |int e=>exact aV (Rd.dk M) λt g=>sb g<|aV (Rd.dk Y) λU g=>sb g<|wpAny_toks<|QDO e λt i=>k.same K<|.int _ _
 |cat e=>exact aV (Rd.dO M) λt g=>sb g<|aV (Rd.dO Y) λU g=>sb g<|wpAny_toks<|PyProof.Rows.add_str (λt i=>k.same K<|.str _ _)<|jB▸e
 |rep R Z l=>exact aV (Rd.dO M) λt g=>sb g<|aV (Rd.dk Y) λU g=>sb g<|wpAny_toks<|SB.mul (Ry R Z l) λt i=>k.same K<|.str _ _
 |mul e R Z l=>
  refine aV (Rd.dk Y) λU g=>sb g ?_;induction kN K M e with
  |mk B v=>refine dZ K.led λh m a F N H q=>wpAny_toks<|KMa.mul F N (gM B) l Z (v.len▸R) rfl λD L f n P=>?_;have b:=H _ _ f n λp=>zV _;exact k.new K b<|Rd.lst (n _<|.head _).1 (K.F.vN<|q _ _ _ _ n P)<|(v.rep _).mon<|K.F.F0 b
 |add R Z o=>
  induction kN K M R with
  |mk B v=>
   induction kN K Y Z with
   |mk c j=>refine dZ K.led λh m a F N H q=>wpAny_toks (add_lists F N (gM B) (gM c) (λL f n=>?_) (by simp only[jB,v.len,j.len];exact o));have b:=H _ _ f n λp=>zV _;exact k.new K b<|Rd.lst (n _<|.head _).1 K.F.tD<|(v.app j).mon<|K.F.F0 b
theorem Hb {X:aM->Prop} {v:aI} {k:Nat} (R:Rd X h v d) (o:fP k d=aB): ∃as,zW h v (wc d) as:=aS R λL l i=>kqd_in l.news k i o
theorem Fm {X:aM->Prop} {vs:List aI} {k:Nat} (e:h.get? a=aA (listOf vs.toArray k)) (R:bB X h vs xs) (ok:mw xs): ∃as,zW h (.ref a) (wc<|.list xs) as:=aS R λled l i=>aV (kqd_all l.news 8 i<|dq.mp ok) λas q=>⟨_,reads_list_at e rfl rfl q⟩
theorem rI (hd:fP 9 d=aB):QEZ (wc d)=true:=by have l:=kqd_lay 9 d hd;unfold QEZ;simp only[l.1,Cv];exact QHj (az l.2<|by decide)
theorem YD (R:gz n A):A.units+1+64<cLine:=by have:=R.2.2;refine (?_:A.units+1+64<9900);exact aQ this
theorem BZ (h:u+1+64<c):u+64<c:=sD ‹_›
theorem tf {p:Prop} (h:b=aB↔p):(p->b=aB)/\(¬ p->b=aE):=⟨h.mpr,λn=>uQ.mpr λq=>n<|h.mp q⟩
theorem Nn {w:bz} {A:cV} {s:aN} {v P:aI} {p:Prop} {c:Bool} {as bs:List aM} (r:zW s.heap v (wc d) as) (R:zW s.heap P (wc e) bs) (hd:fP 9 d=aB) (F:fP 9 e=aB) (hu:A.units+1+64<cLine)
 (o:ri p op c) (a:d=e↔p) (h:Q (.bool c) s):aO (aY prog w) A (sI op v P) Q E s:=by
 have k:=tf<|(kqd_eqv 9 d e 9 hd F).trans a;induction o with
 |eqT q=>exact eq_dataH r R (rI hd) (rI F) (BZ hu)<|k.1 q▸h
 |Bm q=>exact eq_dataH r R (rI hd) (rI F) (BZ hu)<|k.2 q▸h
 |neT q=>exact ne_dataH r R (rI hd) (rI F) (BZ hu)<|k.2 q▸h
 |oo q=>exact ne_dataH r R (rI hd) (rI F) (BZ hu)<|k.1 q▸h
theorem W_ {w:bz} {A:cV} {s:aN} {v F:aI} {c:Bool} {as bs:List aM} (r:zW s.heap F (wc<|.list ys) as) (R:zW s.heap v (wc d) bs) (q1:mw ys) (q2:fP 8 d=aB) (hu:A.units+1+64<cLine)
 (o:wH (d∈ys) op c) (h:Q (.bool c) s):aO (aY prog w) A (sI op v F) Q E s:=by
 have k:=tf<|kqd_any ys d (dq.mp q1) q2;have l:=kqd_lay 8 _ q2;have g:=ig (Pc (az (Cw (PyData.depthAll<|kqdPs ys) _)<|az l.2<|by decide) _) hu;have L:=(kqd_layL<|dq.mp q1).1;induction o with
 |qX q=>exact QEa r R L l.1 g<|k.1 q▸h
 |inF q=>exact QEa r R L l.1 g<|k.2 q▸h
 |JG q=>exact QEb r R L l.1 g<|k.2 q▸h
 |Ou q=>exact QEb r R L l.1 g<|k.1 q▸h
theorem PS {w:bz} (hb:qE op a b c) (h: ∀tk,Q (.bool c) {s with toks:=tk}):aO (aY prog w) A (sI op (.int a t)<|.int b t') Q E s:=by
 induction hb with
 |eq=>exact QHP<|h _
 |ne=>exact QHQ<|h _
 |lt=>exact QHR<|h _
 |le=>exact QHS<|h _
 |gt=>exact QHT<|h _
 |ge=>exact QHU<|h _
theorem Bl {op:fV} (hb:gj r op x y c) (K:FX D C X r z) (M:Vz D X z u x) (Y:Vz D X z u' y) (k: ∀tk,Q (.bool c) {z.s with toks:=tk}):aO (aY D.prog D.w) X.A (sI op u u') Q E z.s:=by
 have U:=YD K.R;induction hb with
 |int e=>exact aV (Rd.dk M) λt g=>sb g<|aV (Rd.dk Y) λN g=>sb g<|PS e k
 |str e=>
  refine aV (Rd.dO M) λt g=>sb g<|aV (Rd.dO Y) λN g=>sb g ?_
  clear K U M Y g;induction e with
  |eqT q=>exact QEc<|(QHe).mpr q▸k _
  |Bm q=>exact QEc<|beq_eq_false_iff_ne.mpr q▸k _
  |neT q=>exact QEd<|(bne_iff_ne).mpr q▸k _
  |oo q=>exact QEd<|q▸(QHk (α:=aG) _).symm▸k _
 |inl e o d i=>
  induction kN K Y e with
  |mk b B=>exact aV (Fm b B o) λas f=>aV (Hb M d) λa F=>W_ f F o d U i<|k _
 |tup o d e=>exact aV (Hb (k:=9) M o) λas f=>aV (Hb (k:=9) Y d) λa F=>Nn f F o d U e ⟨λe=>by clear o d M Y k f F;cases e;rfl,λe=>by exact sb e rfl⟩<|k _
 |lst L n o d e=>
  induction kN K M L with
  |mk H v=>
   induction kN K Y n with
   |mk b B=>exact aV (Fm H v o) λas f=>aV (Fm b B d) λa F=>Nn f F o d U e ⟨λe=>by clear v L o B n d f F;clear H M b Y;cases e;rfl,λe=>by exact sb e rfl⟩<|k _
end
section
variable {v x y:V} {d:aK} {h':bK} {tk:fG} {Q:aI->aN->Prop} {E:aI->aN->Prop}
theorem KE.tr (k:KE D C X r z v Q) (s:Sx z z'):KE D C X r z' v Q:=λu Z K n q=>k u Z K (s.trans n) q
theorem KB.tr {Q:Bool->aN->Prop} (k:KB D C X r z b Q) (s:Sx z z'):KB D C X r z' b Q:=λZ K n=>k Z K<|s.trans n
theorem QEL {vs:List aI} {xs:List aK} (h:vs.length=xs.length):(!vs.toArray.isEmpty)= !xs.isEmpty:=by
 cases vs<;>cases xs<;>first|rfl|contradiction
theorem Lo {X:aM->Prop} {vs:List aI} (R:bB X h vs xs) (l:xs.length<=n):vs.toArray.size<=n:=by simp! only[gm,R.len];exact l
theorem Fo {X:aM->Prop} {vs:List aI} (R:bB X h vs xs) (l:xs.length<2^63):(vs.toArray.size:Int)<2^63:=by simp! only[gm,R.len];exact bE<|oL l
theorem V0 {n:Nat} (l:n<2^63):(n:Int)<2^63:=bE<|oL l
theorem QAk (l:n<=16777216):n<2^63:=ig ‹_› (by decide)
theorem xo {Q:Bool->aN->Prop} (hb:mf r x b) (K:FX D C X r z) (M:Vz D X z u x) (k:KB D C X r z b Q):aO (aY D.prog D.w) X.A (Ho u) Q E z.s:=by
 refine wpAny_toks ?_;induction hb with
 |none=>exact sb (Rd.none_inv M)<|PyProof.Rows.truthy_none<|k.same K
 |bool=>exact sb (Rd.bool_inv M)<|wpAny_truthy_bool<|k.same K
 |int=>exact aV (Rd.dk M) λt g=>sb g<|PyProof.Rows.truthy_int<|k.same K
 |str q=>
  refine aV (Rd.dO M) λt g=>sb g<|PySem.P.truthy_str ((λW=>(fj W<|oL q))) ?_
  rw[show∀n:Nat,((n:Int) !=0)=(n !=0) from λn=>by rw[uV];simp];exact k.same K
 |lst e q=>
  induction kN K M e with
  |mk Y v=>refine wpAny_truthy_list (gM Y) (Fo v<|QAk q) ?_;rw[QEL v.len];exact k.same K
theorem KV {X:aM->Prop}: ∀{ns:List Int} {vs:List aI},bB X h vs (ns.map .int)->IntsAre vs ns:=by
 intro ns;induction ns with
 |nil=>exact @λvs R=>sb R.kJ<| .nil
 |cons i ns d=>exact @λvs R=>by exact bc R.hU λv b B p q=>sb B<|aV p.dk λt e=>sb e<| .cons i t<|d q
theorem UQ {X:aM->Prop}: ∀{ns:List aG} {vs:List aI},bB X h vs (ns.map .str)-> ∃l,vs=wd l/\l.map (·.1)=ns:=by
 intro ns;induction ns with
 |nil=>exact @λvs R=>sb R.kJ<|(ax [] rfl rfl)
 |cons i x d=>exact @λvs R=>by exact bc R.hU λv b B p q=>sb B<|aV p.dO λt e=>sb e<|aS (d q) λl e B=>sb e<|cw B<|(ax ((i,t)::l) rfl rfl)
theorem Nv (lt:Int->Int->Prop) [DecidableRel lt] (le:Int->Int->Prop) (H: ∀a,le a a) (p: ∀a b,lt a b->le a b) (Q: ∀a b, ¬ lt a b->le b a) (t: ∀a b c,le a b->le b c->le a c):
 ∀l a,(l.foldl (λm x=>if lt m x then x else m) a)∈a::l/\ ∀b∈a::l,le b<|l.foldl (λm x=>if lt m x then x else m) a:=by
 intro O;induction O with
 |nil=>exact λa=>⟨.head _,λb hb=>by cases hb with|head=>exact H _|tail _ h=>contradiction⟩
 |cons c l d=>
  exact λa=>by
   refine bI (d<|if lt a c then c else a) λi1 i=>?_
   simp! only[ot]
   have u:=i _<|.head _
   have A:le a (if lt a c then c else a)/\le c (if lt a c then c else a):=by
    split
    ·exact ⟨p _ _ ‹_›,H _⟩
    ·exact ⟨H _,Q _ _ ‹_›⟩
   refine ⟨?_,λb hb=>?_⟩
   ·refine cp (bp.mp i1) (λq=>?_) λq=>?_
    ·simp! only[q]
     split
     ·exact .tail _<|.head _
     ·exact .head _
    ·exact .tail _<|.tail _ q
   ·cases hb with
    |head=>exact t _ _ _ A.1 u
    |tail _ hb=>
     cases hb with
     |head=>exact t _ _ _ A.2 u
     |tail _ hb=>exact i _<|.tail _ hb
theorem YS {ns:List Int} (A:M∈a::ns) (H: ∀b,b∈a::ns->b<=M):M=GJ a ns:=bI (Nv (λm x=>x>m) (· <= ·) (λO=>uW _) (λO O=>bw) (λO O h=>jL.mp h) (λO O O=>kD) ns a) λp i=>uX (i _ A)<|H _ p
theorem q_ {ns:List Int} (A:M∈a::ns) (H: ∀b,b∈a::ns->M<=b):M=Ar a ns:=bI (Nv (λm x=>x<m) (· >= ·) (λO=>uW _) (λO O=>bw) (λO O h=>jL.mp h) (λO O O h o=>kD o h) ns a) λp i=>uX (H _ p)<|i _ A
theorem iy.one (q:iy D X z us [v]): ∃u,us=[u]/\Vz D X z u v:=by cases q with|cons a b=>cases b;exact (ax _ rfl a)
theorem iy.two {us:List aI} (q:iy D X z us [x,y]): ∃u u',us=[u,u']/\Vz D X z u x/\Vz D X z u' y:=by
 cases q with|cons a b=>cases b with|cons b c=>cases c;exact (cy _ _ rfl a b)
theorem iy.zero (q:iy D X z us []):us=[]:=by cases q;rfl
noncomputable def tT (b:Bi):Value:=match b with
 |.len=>.builtin "len" |.sum=>.builtin "sum" |.m9=>.builtin "max" |.max2=>.builtin "max" |.kZ=>.builtin "min" |.min2=>.builtin "min" |.abs=>.builtin "abs" |.chr=>.builtin "chr" |.ord=>.builtin "ord"
 |.rv=>.type "str" |.sd=>.type "int" |.divmod=>.builtin "divmod"
theorem Nc {id:String} {ns:List Int} {G:Int} (e:gb r x ((a::ns).map .int)) (K:FX D C X r z) (M:Vz D X z u x) (k:KE D C X r z (.d<|.int G) Q)
 (P: ∀{p:aM} {vs:List aI} {h:bK} {m:aG->Option aI} {news:List (aM×bH)} {Q:aI->aN->Prop} {E:aI->aN->Prop},Fr h X.env.locals z.s.heap m->uT h X.env.locals z.s.heap news->z.s.heap.IsList p vs.toArray->IntsAre vs (a::ns)->
  (∀h' t tk,Fr h X.env.locals h' m->uT h X.env.locals h' news->Q (.int G t) {z.s with heap:=h',toks:=tk})->aO (aY D.prog D.w) X.A (call (.builtin id) [.ref p]) Q E z.s):aO (aY D.prog D.w) X.A (call (.builtin id) [u]) Q E z.s:=by
 cases kN K M e with
 |mk Y v=>exact dZ K.led λh m news F N b Z=>wpAny_toks<|P F N (gM Y) (KV v) λh' t tk f n=>k.new K (b _ _ f n λp L=>L)<|.int _ _
theorem QAw {b:Bi} {vs:List V} {us:List aI} (hb:cn r b vs d) (K:FX D C X r z) (x:iy D X z us vs) (k:KE D C X r z (.d d) Q):aO (aY D.prog D.w) X.A (call (tT b) us) Q E z.s:=by
 induction hb with
 |kB h=>exact aS x.one λu g q=>sb g<|aV (Rd.dO q) λt g=>sb g<|wpAny_toks<|SBL.len (V0 h)<|k.same K<|.int _ _
 |yR e h=>
  refine aS x.one λu g q=>sb g ?_;clear x;clear g;induction e with
  |l e=>
   induction kN K q e with
   |mk p v=>refine wpAny_toks<|QHV (gM p) (Fo v h) ?_;exact sb gm<|sb v.len<|k.same K<|.int _ _
  |t=>
   cases Ha q with
   |mk p v=>refine wpAny_toks<|QHW ⟨_,p,rfl,_,rfl⟩ (Fo v h) ?_;exact sb gm<|sb v.len<|k.same K<|.int _ _
 | @sum _ ns e=>
  refine aS x.one λu g q=>sb g ?_;cases kN K q e with
  |mk p v=>
   have i:=KV v;refine aV i.allInts.items λys W=>wpAny_toks<|sum_intListG K.R.1 (W▸gM p) λU Y t' m=>?_;have:preSum (numAt ys) ys.size=ns.sum:=by rw[preSum_eq,uY (by simp),<-nums_intItems,<-W,<-i.numsOf]
   exact sb this<|k.new K (.all m)<|.int _ _
 |m9 e=>exact aS x.one λu g q=>sb g<|Nc e K q k λF N j i h=>max_list_N K.R.1 F N j i (Pf _) λU M t Y f n o Z=>YS o Z▸h U t Y f n
 |kZ e=>exact aS x.one λu g q=>sb g<|Nc e K q k λF N j i h=>min_list_N K.R.1 F N j i (Pf _) λU M t Y f n o Z=>q_ o Z▸h U t Y f n
 |max2=>exact bc x.two λu u' B o Z=>sb B<|aV (Rd.dk o) λt g=>sb g<|aV (Rd.dk Z) λt' g=>sb g<|wpAny_toks (max_two_ints K.R.1 λU Y m=>k.new K (.all m)<|by split<;>exact .int _ _)
 |min2=>exact bc x.two λu u' B o Z=>sb B<|aV (Rd.dk o) λt g=>sb g<|aV (Rd.dk Z) λt' g=>sb g<|wpAny_toks (min_two_ints K.R.1 λU Y m=>k.new K (.all m)<|by split<;>exact .int _ _)
 |abs=>exact aS x.one λu g q=>sb g<|aV (Rd.dk q) λt g=>sb g<|wpAny_toks<|PyProof.Rows.call_abs_int λO O=>k.same K<|.int _ _
 |chr L H=>exact aS x.one λu g q=>sb g<|aV (Rd.dk q) λt g=>sb g<|wpAny_toks<|chr_of_range L H<|k.same K<|.str _ _
 |ord h=>exact aS x.one λu g q=>sb g<|aV (Rd.dO q) λt g=>sb g<|wpAny_toks<|ord_of_one h<|k.same K<|.int _ _
 | @rv a c=>
  refine aS x.one λu g q=>sb g<|aV (Rd.dk q) λt g=>sb g<|wpAny_toks<|PySem.P.str_of_int ?_<|k.same K<|.str _ _
  by_cases h0:a.natAbs=0
  ·erw[h0]
   decide
  ·exact (Nat.log2_lt h0).mpr (mJ c<|by decide+kernel)
 |sd h e=>exact aS x.one λu g q=>sb g<|aV (Rd.dO q) λt g=>sb g<|wpAny_toks<|KIN.call_text e h<|k.same K<|.int _ _
 | @divmod a b L H=>exact bc x.two λu u' B o Z=>sb B<|aV (Rd.dk o) λt g=>sb g<|aV (Rd.dk Z) λt' g=>sb g<|wpAny_toks<|divmod_int L (k.new K (Kl.push _)<|K.freshT (.cons (.int _ _)<|.cons (.int _ _) .nil) 0)<|.inl H
noncomputable def HH (b:Sm):String:=match b with
 |.lower=> "str.lower" |.upper=> "str.upper" |.swapcase=> "str.swapcase" |.rstrip=> "str.rstrip" |.qa=> "str.lstrip" |.split=> "str.split" |.join=> "str.join" |.bits=> "int.bit_length"
noncomputable def BP (b:Sm):Str:=match b with
 |.lower=> "lower" |.upper=> "upper" |.swapcase=> "swapcase" |.rstrip=> "rstrip" |.qa=> "lstrip" |.split=> "split" |.join=> "join" |.bits=> "bit_length"
theorem M_ {X:aM->Prop}: ∀l:List (aG×fG),bB X h (wd l)<|(l.map (·.1)).map sJ:=by
 intro O;induction O with
 |nil=>exact bB.nil
 |cons O l i=>obtain ⟨x,t⟩:=O;exact bB.cons (.str x t)<|i
theorem QAu {vs:List V} (hb:jC r b x vs d) (K:FX D C X r z) (M:Vz D X z u x) (v:iy D X z us vs) (k:KE D C X r z (.d d) Q):aO (aY D.prog D.w) X.A (call (.builtin<|HH b)<|u::us) Q E z.s:=by
 refine wpAny_toks ?_;cases hb with
 |bits=>exact sb v.zero<|aV (Rd.dk M) λt g=>sb g<|call_int_bit_length<|k.same K<|.int _ _
 |lower h=>exact sb v.zero<|aV (Rd.dO M) λt g=>sb g<|SCL.lower h λO=>k.same K<|.str _ _
 |upper h=>exact sb v.zero<|aV (Rd.dO M) λt g=>sb g<|SCL.upper h λO=>k.same K<|.str _ _
 |swapcase h=>exact sb v.zero<|aV (Rd.dO M) λt g=>sb g<|SCL.swapcase h λO=>k.same K<|.str _ _
 |rstrip h=>exact sb v.zero<|aV (Rd.dO M) λt g=>sb g<|SC.rstrip (λO O=>k.same K<|.str _ _)<|jB▸h
 |qa h=>exact aS v.one λU g q=>sb g<|aV (Rd.dO M) λt g=>sb g<|aV (Rd.dO q) λc g=>sb g<|SC.lstripChars (λO O=>k.same K<|.str _ _)<|jB▸h
 |split L i=>
  refine aS v.one λU g q=>sb g<|aV (Rd.dO M) λt g=>sb g<|aV (Rd.dO q) λc g=>sb g<|dZ K.led λH m a F N B P=>KSpl.split1 F N (by simpa -iota using i) (λD l o W e O f n R=>?_) (by erw[jB];exact aQ L)
  exact k.new K (B _ _ f n λp=>zV _)<|Rd.lst (n _<|.head _).1 (K.F.vN<|P _ _ _ _ n R)<|e▸M_ l
 |join e h=>
  refine aS v.one λU g q=>sb g<|aV (Rd.dO M) λt g=>sb g ?_
  cases kN K q e with
  |mk Y Z=>refine aS (UQ Z) λl g j=>?_;clear Z;subst g;exact SC.join (gM Y) j h λO O=>k.same K<|.str _ _
theorem ME {k:Int} (e:we k n=aA j) (s:j<n): -(n:Int)<=k/\k<n/\(0<=k->k.toNat=j)/\(k<0->(k+(n:Int)).toNat=j):=by
 unfold we at e;by_cases h0:k<0
 ·simp! only[h0,if_true] at e
  split at e
  ·rename_i c
   simp! only[gn,decide_eq_true_eq] at c
   cases e
   exact ⟨(bE c.1),⟨(bG c.1<|mI 2 h0),⟨(λx0=>(fj h0 x0)),(λx0=>(by simp+arith))⟩⟩⟩
  ·exact ay e
 ·simp! only[h0,if_false] at e
  split at e
  ·rename_i c
   simp! only[gn,decide_eq_true_eq] at c
   cases e
   exact ⟨(bG (QEe h0)<|oZ<|n),⟨c.2,⟨(λx0=>(by simp+arith)),(λx0=>(fj x0<|QEe h0))⟩⟩⟩
  ·exact ay e
theorem UU (hb:cC r x i d) (F: ∀o i,wg L aE o i=wh [o,i] (wi o i)) (K:FX D C X r z) (M:Vz D X z u x) (k:KE D C X r z (.d d) Q):aO (aY D.prog D.w) X.A (QEf h L u<|.int i t) Q E z.s:=by
 refine wpAny_toks ?_;cases hb with
 |str Y N p=>refine aV (Rd.dO M) λt g=>?_;subst g;exact bc (SB.item (by simp -iota [fitsSsize];exact ⟨(bG Y<|oL p),(bG N<|oL p)⟩) (charAt_isSome Y N)<|k.same K<|.str _ _) λT id hl U a=>zY U hl a<|F _ _
 |seq e Z H ex=>
  have j:=(zZ.mp ex).1;cases e with
  |l e=>
   cases kN K M e with
   |mk e1 e2=>
    refine j5 (ME H j) λq B m f=>aS (e2.get ex) λv ev R=>zY (gM e1).typeIs Pg.lookup ?_<|F _ _;rw[<-zc] at ev;by_cases h0:0<=i
    ·exact QEg (gM e1) h0 (bG Z B) (m h0▸ev)<|k.same K R
    ·have h0:=zU.mp h0
     exact wpAny_getItem_list_neg (gM e1) h0 (by simp! only[gm,e2.len];assumption) (bG Z q) (by simp! only[gm,e2.len,f h0];exact ev)<|k.same K R
  |t=>
   cases Ha M with
   |mk e1 e2=>exact j5 (ME H j) λq B O O=>aS (e2.get ex) λv ev R=>zY (ax _ e1 rfl) slot_tuple_getitem.lookup (getItem_tuple ⟨_,e1,rfl,_,rfl⟩ (bG Z q) (bG Z B) (by simp! only[gm,e2.len];exact H) (by erw[zc];exact ev)<|k.same K R)<|F _ _
theorem xV (e:nj v l) (q:Vz D X z u v): ∃p:Option (Int×fG),u=partValue p/\p.map (·.1)=l/\IsPart u l:=by
 induction e with
 |none=>exact sb (Rd.none_inv q)<|(gd none rfl rfl .none)
 |int=>exact aV (Rd.dk q) λt g=>sb g<|(gd (some (_,t)) rfl rfl (.int _ _))
theorem bB.picked {X:aM->Prop} {vs:List aI} (R:bB X h vs xs): ∀ks:List Nat,bB X h (ks.filterMap λk=>vs[k]?)<|ks.filterMap λk=>xs[k]?:=by
 intro O;induction O with
 |nil=>exact bB.nil
 |cons k ks i=>
  exact by
   simp! only[nP,nP]
   induction e:xs[k]? with
   |none=>erw[(by rw[QEh,R.len];exact QEh.mp e:vs[k]?=aF)];exact i
   |some d=>
    refine aS (R.get e) λv m r=>?_
    simp! only[m]
    exact bB.cons r<|i
noncomputable def vt (a b c:aI):Obj:={cls:=.type "slice",data:=.fields #[a,b,c]}
theorem QCJ {R m vs:V} (e:gR r v R m vs d) (K:FX D C X r z) (N:Vz D X z u v) (hl:Vz D X z U R) (H:Vz D X z c m) (hs:Vz D X z us vs) (b: ∀o i,∃q,wg L aE o i=wh q (wi o i)) (k:KE D C X r z (.d d) Q):
 aO (aY D.prog D.w) X.A (QEf p L u<|.ref z.s.heap.objs.size) Q E {z.s with heap:=z.s.heap.push<|vt U c us}:=by
 refine aV (b u<|.ref z.s.heap.objs.size) λq M=>wpAny_toks ?_;clear b;induction e with
 | @str Y _ _ l h n x hz=>
  refine dA (xV n hl) λj g B O=>sb g ?_;subst B;refine dA (xV x H) λP g B O=>?_;subst g;clear x hl n H;subst B;refine aV (Rd.dO N) λt g=>?_;subst g;cases Rd.none_inv hs;refine zY (Ph _ _ _) PySem.F.slot_str_getitem.lookup ?_ M;refine wpAny_getItem_str_slice (l:=j) (u:=P) (st:=aF) (gd _ (fH _ rfl) rfl rfl) rfl ?_;have Z:=az (Txt.slice_le Y (j.map (·.1))<|P.map (·.1)) (by simp! only[jB];exact hz:Y.length<=mL);refine post_val_or_str<|⟨Z,λt' tk=>?_⟩
  exact k.new K (Kl.push _)<|Rd.str (iI Y (j.map (·.1))<|P.map (·.1)) t'
 | @lst _ xs _ _ _ l h st ex n x es f Z=>
  cases kN K N ex with
  |mk e1 e2=>
   have g:=gM<|gS (vt U c us) e1;refine dA (xV n hl) λO O O j=>dA (xV x H) λO O O P=>dA (xV es hs) λO O O ps=>zY (g.typeIs) Pg.lookup ?_ M;refine wpAny_getItem_list_slice g (Heap.IsSliceOf.new ..) j P ps f ?_ (by simp! only[jB];exact Lo e2 Z);have a:=e2.mon<|Mon.all (X:=Ex X.Ob z.W) (h':=z.s.heap.push<|vt U c us) λO O e=>gS _ e;refine k.new K ((Kl.push _).trans<|Kl.push _) ?_;have:Rd (Ex X.Ob z.W) ((z.s.heap.push<|vt U c us).push _) (.ref (z.s.heap.push<|vt U c us).objs.size) _:=(K.kl (Kl.push _)<|bh _).fresh (bB.picked a<|Cn (kf l h st xs.length).1 (kf l h st xs.length).2.1 (kf l h st xs.length).2.2) 0;delta lk slicePick
   simp! only[gm,e2.len]
   simpa -iota [zh] using this
end
structure Gl (G:bK) (mg:aG->Option aI):Prop where
 g:G.Ns nO mg
 b:G.Ns ic (G.nsMap ic)
 bo: ∀x:aG,x≠ "__name__" ->G.nsMap ic x=Hp x
 lim:G.NoLimit
structure CS (D:Wd) (A:cV) (X:aM->Prop) (s:aN):Prop where
 R:gz D.n A
 t:1<=s.toks
 base: ∀b o,D.G.get? b=aA o->s.heap.get? b=aA o
 fO: ∀b o,D.G.get? b=aA o-> ¬ X b
 al: ∀b,X b-> ∃o,s.heap.get? b=aA o
 pf: ∀b,D.P.PF b->X b
 inv:D.P.Inv X s.heap
structure CT (D:Wd) (X Y:aM->Prop) (s s':aN):Prop where
 keep: ∀b o,s.heap.get? b=aA o-> ¬ Y b-> ¬ D.P.PF b->s'.heap.get? b=aA o
 inv:D.P.Inv X s'.heap
 e:s'={s with heap:=s'.heap,toks:=s'.toks,drawn:=s'.drawn}
noncomputable def oV (D:Wd) (a:aM) (xs:List aK) (d:aK):Prop:= ∀{A:cV} {s:aN} {X:aM->Prop} {U:List aI} {Q:aI->aN->Prop} {E:aI->aN->Prop},CS D A X s->bB X s.heap U xs->(∀u n,CT D X (λO=>False) s n->Rd X n.heap u d->Q u n)->aO (aY D.prog D.w) A (call (.ref a) U) Q E s
noncomputable def rT (D:Wd) (f:aM) (xs hs:List aK) (z:aK):Prop:=
 ∀{A:cV} {s:aN} {X:aM->Prop} {U v:List aI} {x a:aM} {n:Nat} {Q:aI->aN->Prop} {E:aI->aN->Prop},CS D A X s->D.P.HI X s.heap x a->s.heap.get? a=aA (listOf v.toArray n)->bB X s.heap v hs->bB X s.heap U xs->
  (∀u F,CT D X (λO=>False) s F->Rd X F.heap u z->Q u F)->aO (aY D.prog D.w) A (call (.ref f)<|.ref x::U) Q E s
noncomputable def rU (D:Wd) (f:aM) (xs hs:List aK) (z:aK) (hs':List aK):Prop:=
 ∀{A:cV} {s:aN} {X:aM->Prop} {U m:List aI} {x a:aM} {n:Nat} {Q:aI->aN->Prop} {E:aI->aN->Prop},CS D A X s->D.P.HI X s.heap x a->X a->s.heap.get? a=aA (listOf m.toArray n)->bB X s.heap m hs->bB X s.heap U xs->
  (∀u F v N,CT D X (λb=>b=a) s F->F.heap.get? a=aA (listOf v.toArray N)->bB X F.heap v hs'->Rd X F.heap u z->Q u F)->aO (aY D.prog D.w) A (call (.ref f)<|.ref x::U) Q E s
noncomputable def zE (D:Wd) (f:Nat) (xs:List aK) (l:Ls) (d:aK) (L:Ls):Prop:= ∀{C:Fc} {X:Fx} {z:Zs} {a:aM} {u:List aI} {Q:aI->aN->Prop} {E:aI->aN->Prop},D.cN f C->FX D C X (aL l) z->D.P.CL f (Ex X.Ob z.W) z.s.heap X.env.cells a->iO X z u xs->KE D C X (aL L) z (.d d) Q->aO (aY D.prog D.w) X.A (call (.ref a) u) Q E z.s
noncomputable def AV:List Str:=["len","sum","max","min","abs","chr","ord","str","int","divmod","range","reversed","type","list"]
class cz (D:Wd):Prop where
 gl:Gl D.G D.mg
 Jl: ∀x∈AV,D.mg x=aF
 F: ∀f xs d,D.o.F f xs d-> ∃nm a o fd,D.fns[f]?=aA nm/\D.mg nm=aA (.ref a)/\D.G.get? a=aA o/\o.data=.func fd/\oV D a xs d
 gi: ∀x i,D.o.gi x i-> ∃t,D.mg x=aA (.int i t)
 gs: ∀x i,D.o.gs x i-> ∃t,D.mg x=aA (.str i t)
 NA: ∀{A:cV} {s:aN} {X:aM->Prop} {x a:aM} {Q:aI->aN->Prop} {E:aI->aN->Prop},(∀b o,D.G.get? b=aA o->s.heap.get? b=aA o)->D.P.HI X s.heap x a->(∀tk,Q (.ref a) {s with toks:=tk})->aO (aY D.prog D.w) A (getAttr (.ref x) "_headers" aB) Q E s
 vi: ∀k nm fa,D.hm k=aA (nm,fa)-> ∃o fd,D.G.get? fa=aA o/\o.data=.func fd
 yU: ∀k nm fa,D.hm k=aA (nm,fa)->k<20-> ∀{A:cV} {s:aN} {X:aM->Prop} {x a:aM} {pl:ba Bool} {Q:aI×List aI->aN->Prop} {E:aI->aN->Prop},(∀b o,D.G.get? b=aA o->s.heap.get? b=aA o)->D.P.HI X s.heap x a->Q (.ref fa,[.ref x]) s->aO (aY D.prog D.w) A (Cy (.ref x) nm pl) Q E s
 JW: ∀k nm fa,D.hm k=aA (nm,fa)->20<=k->D.mg nm=aA (.ref fa)
 H: ∀k xs hs z hs',D.o.H k xs hs z hs'-> ∃nm fa,D.hm k=aA (nm,fa)/\rU D fa xs hs z hs'
 R: ∀k xs hs z,D.o.R k xs hs z-> ∃nm fa,D.hm k=aA (nm,fa)/\rT D fa xs hs z
 Lb: ∀{f:Nat} {X:aM->Prop} {h:bK} {cl:List (aG×aM)} {a:aM},D.P.CL f X h cl a-> ∃o fd,h.get? a=aA o/\o.data=.func fd
 L: ∀f xs l z l',D.o.L f xs l z l'->zE D f xs l z l'
 conv: ∀b,∃fa,D.hm 10=aA (("_convert_string_type" :aG),fa)/\ ∀xx,gO b xx=aB-> ∀{A:cV} {s:aN} {X:aM->Prop} {x a:aM} {t:fG} {Q:aI->aN->Prop} {E:aI->aN->Prop},gz D.n A->1<=s.toks->(∀b o,D.G.get? b=aA o->s.heap.get? b=aA o)->
  D.P.HI X s.heap x a->(∀h' tk,(∀b o,s.heap.get? b=aA o->h'.get? b=aA o)->Q (.str xx t) {s with heap:=h',toks:=tk})->aO (aY D.prog D.w) A (call (.ref fa) [.ref x,.str xx t] [("name",.bool b)]) Q E s
 b1: ∃a,D.mg "b1_set" =aA (.ref a)/\ ∀{A:cV} {s:aN} {i:Int} {t:fG} {Q:aI->aN->Prop} {E:aI->aN->Prop},gz D.n A->(∀b o,D.G.get? b=aA o->s.heap.get? b=aA o)->(∀tk,Q (.bool<|D.o.b1 i) {s with toks:=tk})->aO (aY D.prog D.w) A (sI .In (.int i t)<|.ref a) Q E s
 b3: ∃a ob,D.mg "b3_exceptions" =aA (.ref a)/\D.G.get? a=aA ob/\ob.cls=.type "dict" /\ob.dict=aF/\ ∀{A:cV} {s:aN} {i:Int} {t:fG} {Q:aI->aN->Prop} {E:aI->aN->Prop},gz D.n A->(∀b o,D.G.get? b=aA o->s.heap.get? b=aA o)->
  (∀u tk,(∀X h,Rd X h u<|D.o.b3 i)->Q u {s with toks:=tk})->aO (aY D.prog D.w) A (call (.builtin "dict.get") [.ref a,.int i t]) Q E s
 Oj: ∃o,D.G.get? Cz=aA o/\o≠jJ
 JN: ∀{nm:aG} {fa:aM},D.hm 9=aA (nm,fa)-> ∀{A:cV} {s:aN} {X:aM->Prop} {x a:aM} {u:aI} {Q:Unit->aN->Prop} {E:aI->aN->Prop},gz D.n A->(∀b o,D.G.get? b=aA o->s.heap.get? b=aA o)->D.P.HI X s.heap x a->
  aO (aY D.prog D.w) A (call (.ref fa) [.ref x,u]) (λO s'=>Q () s') E s->aO (aY D.prog D.w) A (delItem (.ref x) u) Q E s
 new: ∀{A:cV} {s:aN} {X:aM->Prop} {a:aM} {vs:List aI} {n:Nat} {xs:List aK} {Q:aI->aN->Prop} {E:aI->aN->Prop},gz D.n A->1<=s.toks->(∀b o,D.G.get? b=aA o->s.heap.get? b=aA o)->(∀b o,D.G.get? b=aA o-> ¬ X b)->(∀b,X b-> ∃o,s.heap.get? b=aA o)->
  xs.all v8=aB->s.heap.get? a=aA (listOf vs.toArray n)->bB X s.heap vs xs->
  (∀x h' tk,(∀b o,s.heap.get? b=aA o->h'.get? b=aA o)->D.P.HI X h' x a->Q (.ref x) {s with heap:=h',toks:=tk})->aO (aY D.prog D.w) A (call (.ref D.hc) [.ref a]) Q E s
 FY:D.mg "Headers" =aA (.ref D.hc)/\ ∀{A:cV} {s:aN} {pos:bP} {l:List (Bool×ba aI)} {Q:aI->aN->Prop} {E:aI->aN->Prop},l.any (·.1)=aE->aO (aY D.prog D.w) A (sM l) (λvs s₁=>(∀b o,D.G.get? b=aA o->s₁.heap.get? b=aA o)/\aO (aY D.prog D.w) A (call (.ref D.hc) vs) Q E s₁) E s->
  aO (aY D.prog D.w) A (wj pos (.ref D.hc) [] l []) Q E s
 Jm: ∃ca o fd,D.mg "compute_powers" =aA (.ref ca)/\D.G.get? ca=aA o/\o.data=.func fd/\ ∀n:Int,0<=n->n<=2048-> ∀{A:cV} {s:aN} {t1 t2 t3:fG} {Q:aI->aN->Prop} {E:aI->aN->Prop},gz D.n A->1<=s.toks->(∀b o,D.G.get? b=aA o->s.heap.get? b=aA o)->
  (∀{dr:Drawn} d h' tk,(∀b o,s.heap.get? b=aA o->h'.get? b=aA o)->h'.get? d=aA jJ->s.heap.get? d=aF->Q (.ref d) {s with heap:=h',toks:=tk,drawn:=dr})->aO (aY D.prog D.w) A (call (.ref ca) [.int n t1,.int 5 t2,.int 2048 t3]) Q E s
section
variable (D:Wd) (C:Fc)
noncomputable def KW (X:Fx) (z:Zs) (K:V->Ls->Prop) (Q:aI->aN->Prop):Prop:= ∀v l,K v l->KE D C X (aL l) z v Q
noncomputable def KT (X:Fx) (z:Zs) (K:Bool->Ls->Prop) (Q:Bool->aN->Prop):Prop:= ∀b l,K b l->KB D C X (aL l) z b Q
noncomputable def KLw (X:Fx) (z:Zs) (K:List V->Ls->Prop) (Q:List aI->aN->Prop):Prop:= ∀v l,K v l-> ∀u Z,FX D C X (aL l) Z->Sx z Z->iy D X Z u v->Q u Z.s
structure Ev (x:aP) (l:Ls) (K:V->Ls->Prop):Prop where
 run: ∀{X:Fx} {z:Zs} {Q:aI->aN->Prop} {E:aI->aN->Prop},FX D C X (aL l) z->KW D C X z K Q->aO (aY D.prog D.w) X.A (b7 x X.env) Q E z.s
structure ZT (x:aP) (l:Ls) (K:Bool->Ls->Prop):Prop where
 run: ∀{X:Fx} {z:Zs} {Q:Bool->aN->Prop} {E:aI->aN->Prop},FX D C X (aL l) z->KT D C X z K Q->aO (aY D.prog D.w) X.A (zi x X.env<|b7 x X.env) Q E z.s
structure JX (xs:List aP) (l:Ls) (K:List V->Ls->Prop):Prop where
 run: ∀{X:Fx} {z:Zs} {pos:bP} {Q:List aI->aN->Prop} {E:aI->aN->Prop},FX D C X (aL l) z->KLw D C X z K Q->aO (aY D.prog D.w) X.A (sM<|mM pos<|fI xs X.env) Q E z.s
noncomputable def aZ (x:aP) (e:E):Prop:= ∀{l K},e D.o l K->Ev D C x l K
noncomputable def eT (x:aP) (t:T):Prop:= ∀{l K},t D.o l K->ZT D C x l K
noncomputable def fh (xs:List aP) (es:List E):Prop:= ∀{l K},lW es D.o l K->JX D C xs l K
noncomputable def xW (op:kg) (xs:List aP) (es:List E):Prop:= ∀{p l K},bW op es D.o l K->Ev D C (.BoolOp op xs p) l K
noncomputable def xk (op:kg) (xs:List aP) (ts:List T):Prop:= ∀{l K},BR op ts D.o l K-> ∀{X:Fx} {z:Zs} {Q:Bool->aN->Prop} {E:aI->aN->Prop},FX D C X (aL l) z->KT D C X z K Q->aO (aY D.prog D.w) X.A (allTrue op xs X.env) Q E z.s
noncomputable def vK (x:Option aP) (e:E):Prop:= ∀{l K},e D.o l K-> ∀{X:Fx} {z:Zs} {Q:aI->aN->Prop} {E:aI->aN->Prop},FX D C X (aL l) z->KW D C X z K Q->aO (aY D.prog D.w) X.A (evalPart x X.env) Q E z.s
end
structure hZ (C:Fc) (nm:aG) (i:Nat):Prop where
 k:C.K nm=aA .local\/C.K nm=aA .cell\/C.K nm=aA .free
 t:C.cM nm=aA i
 c:(nm==("__classdict__" :aG))=aE
 d:(nm==("__debug__" :aG))=aE
structure nG (C:Fc) (nm:aG):Prop where
 k:C.K nm=aA .globalImplicit
 d:(nm==("__debug__" :aG))=aE
noncomputable def cv (C:Fc) (nm:aG) (i:Nat):Bool:=(match C.K nm with|some .local=>aB|some .cell=>aB|some .free=>aB|_=>aE) && (C.cM nm==aA i) && !(nm==("__classdict__" :aG)) && !(nm==("__debug__" :aG))
theorem jg (h:cv C nm i=aB):hZ C nm i:=by
 refine bI (f7.mp h) λh b=>bI (f7.mp h) λh Q=>bI (f7.mp h) λH m=>⟨?_,QHe.mp m,uZ _▸Q,uZ _▸b⟩;generalize C.K nm=k at H
 match k,H with
 |some .local,_=>exact .inl rfl
 |some .cell,_=>exact .inr<|.inl rfl
 |some .free,_=>exact .inr<|.inr rfl
section
variable {D:Wd} {C:Fc} {x y w:aP} {a b c:E} {t t':T} {r r₁ r₂ r₃:bQ}
theorem FX.cs (K:FX D C X r z):CS D X.A (Ex X.Ob z.W) z.s:=⟨K.R,K.t,K.F.base,K.F.fO,K.F.dg,λb p=>.inr<|K.F.pf b p,K.F.inv⟩
theorem KE.id (k:KE D C X r z v Q) (K:FX D C X r z) (q:Vz D X z u v):Q u z.s:=k u z K .refl q
theorem QAc {k}:aZ D C (.Constant .none k pos) .none:= @λO O h=>⟨λK k=>λO O O=>(k _ _ h).id K Rd.none⟩
theorem XM {b k}:aZ D C (.Constant (.bool b) k pos) (.bool b):= @λO O h=>⟨λK k=>λO O O=>(k _ _ h).id K<|Rd.bool _⟩
theorem U9 {i k}:aZ D C (.Constant (.int i) k pos) (.int i):= @λO O h=>⟨λK k=>wpAny_toks<|QEi<|(k _ _ h).same K<|Rd.int _ _⟩
theorem O3 {i k}:aZ D C (.Constant (.str i) k pos) (.str i):= @λO O h=>⟨λK k=>wpAny_toks<|Constant_str<|(k _ _ h).same K<|Rd.str _ _⟩
theorem Yl {cl X h} (hs:da P φ cl X h i W (r i)) (e:kV r i=aA v): ∃u,W=aA u/\VR P φ X h u v:=by
 unfold kV at e;induction hr:r i with
 |val d=>simp only[hr] at hs e;cases e;exact hs
 |own R=>simp only[hr] at hs e;cases e;exact aS hs λa Y n=>⟨_,n,a,Y,rfl⟩
 |ali j=>simp only[hr] at hs e;cases e;obtain ⟨_,a,Y,n⟩:=hs;exact ⟨_,n,a,Y,rfl⟩
 |inst=>simp only[hr] at hs e;cases e;exact bc hs λx a Y n p=>⟨_,n,x,a,Y,rfl,p⟩
 |emp=>simp only[hr] at hs e;cases e;exact aS hs λu e O=>(ax _ e trivial)
 |_=>simp only[hr] at e;exact ay e
theorem uJ (K:FX D C X r z) (o:hZ C nm i) (h: ∀v,da D.P z.φ X.env.cells (Ex X.Ob z.W) z.s.heap i v (r i)-> ∃u,v=aA u/\Q u z.s):aO (aY D.prog D.w) X.A (b7 (.Name nm pos) X.env) Q Er z.s:=by
 refine wpAny_Name ?_ o.d;rcases o.k with Y|Y|Y
 ·exact aS K.F.loc λm n N=>aS (h _<|N nm i Y o.t) λu e q=>Pj K.F.hk ((K.F.hK nm).trans Y) n e q
 ·refine bc (K.F.hG nm i (.inl Y) o.t) λc v x l p=>aS (h _ p) λu g q=>?_
  clear p;subst g;exact wpAny_loadName_cell K.F.hk ((K.F.hK nm).trans Y) x l q
 ·refine bc (K.F.hG nm i (.inr Y) o.t) λc v x l p=>aS (h _ p) λu g q=>?_
  clear p;subst g;exact wpAny_loadName_free K.F.hk ((K.F.hK nm).trans Y) x l q o.c
theorem si (o:hZ C nm i):aZ D C (.Name nm pos) (.aC i):= @λO O h=>⟨λK k=>uJ K o λv q=>by
 induction QBo h with|mk e h=>exact let ⟨u,x,n⟩:=Yl q e;(ax u x<|(k _ _ h).id K n)⟩
theorem FX.freeze (K:FX D C X r z) (e:r i=.own xs) (M:C.ow=aB) (L:i≠aT) (N:i≠bR):
 ∃a z',z.φ i=aA a/\z'.s=z.s/\FX D C X (upd r i .unb) z'/\Sx z z'/\Rz X z' (.ref a) (.list xs):=by
 refine dT (K.F.own i xs e) λa vs n e1 e2 l=>?_;have A:=K.F.gN M i xs a e e1 L;have st:dc z.W z.s.heap (λb=>z.W b/\b≠a) z.s.heap:=⟨λO O e O=>e,λO q=>.inl q.1⟩;have m:Mon (Ex X.Ob z.W) z.s.heap (Ex X.Ob λb=>z.W b/\b≠a) z.s.heap:=st.mon;have U:=K.F.forget i N L;refine aS U.loc λmm H f=>?_;have nl: ∀b o,z.s.heap.get? b=aA o->(∀vs n,o.data≠ .seq vs n)->b≠a:=λb o e d q=>by simp only[q,e2] at e;cases e;exact d _ _ rfl
 refine ⟨a,{z with W:=λb=>z.W b/\b≠a},e1,rfl,⟨⟨U.base,λb o e q=>U.fO b o e<|q.imp id λq=>q.1,U.hk,U.hK,U.hg,U.hb,U.rn,⟨mm,H,λx j p q=>(f x j p q).mon m λO O O O=>rfl⟩,⟨U.lL,?_⟩,λx j p q=>?_,λx j c p q g z=>⟨U.qQ x j c p q g z,?_⟩,U.oY,λj ys q=>?_,λcc j ys b q p z=>⟨U.gN cc j ys b q p z,λv=>?_⟩,λys q p b z=>⟨U.jf ys q p b z,λv=>?_⟩,λys q p b z w=>U.kn ys q p b z w.1,U.lD,U.inj,U.jv,λb q=>U.dg b<|q.imp id λq=>q.1,λb q=>U.dR b q.1,D.P.iM U.inv m λO O=>rfl,λb p=>⟨U.pf b p,λq=>?_⟩⟩,K.R,K.t⟩,⟨st,bh _,rfl,rfl⟩,?_⟩
 ·exact dT H λo es ep q1 q2 O=>nl _ o q1 λO O d=>by rw[q2] at d;contradiction
 ·exact bc (U.hG x j p q) λc u q1 q2 Q=>(cy c u q1 q2<|Q.mon m λO O O O=>rfl)
 ·refine bc (U.hG x j (.inl p) g) λc' u q1 Y Q=>aS Y λo q2 Z=>?_
  clear K e M e1 e2 l L N A st m U H f p q g Y Q;obtain rfl:=bM z q1;exact nl _ o q2 λO O d=>by rw[Z] at d;contradiction
 ·exact dT (U.own j ys q) λb ws k q1 q2 Q=>(ly b ws k q1 q2<|Q.mon m)
 ·have:j=i:=K.F.inj j i a (v▸p) e1
  clear e e1 L N U f p z;subst this;unfold upd at q;rw[if_pos rfl] at q;contradiction
 ·exact L (K.F.inj aT i a (v▸z) e1).symm
 ·refine cT (D.P.iN U.inv p) λo aa B d4=>?_
  simp only[q,e2] at B;cases B;contradiction
 ·exact Rd.lst e2 (λq=>q.elim (K.F.dR a A) λq=>q.2 rfl)<|l.mon m
theorem QCd (hw:C.ow=aB) (ok:hZ C nm i):aZ D C (.Name nm pos) (.qH i):= @λO O h=>⟨λK k=>uJ K ok λv q=>by
 induction jG h with
 |mk r h=>
  refine oh (K.freeze r hw (λq=>QHb (q▸C.low nm i ok.t)<|by decide) λq=>QHb (q▸C.low nm i ok.t)<|by decide) λa z' e1 e2 U st R=>?_;rw[r] at q;refine aS q λA e z=>?_;obtain rfl:=bM e1 e;rw[<-fR] at U
  exact (ax _ z<|e2▸k _ _ h _ z' U st R)⟩
theorem QCP (A:aZ D C x a) (hb:aZ D C y b):aZ D C (.BinOp x op y pos) (.aH op a b):= @λO O h=>⟨λK k=>wpAny_BinOp ((A h).run K λO O h p z R s1 q1=>(hb h).run R λO O h Q Z P s2 q2=>by
 induction I9 h with|mk e h=>exact WG e P (q1.mon s2) q2<|(k _ _ h).tr<|s1.trans s2)⟩
theorem qN {f:Int->Ls->Prop} (h:Ev D C x l λv l=>mx v λi=>f i l) (K:FX D C X (aL l) z) (k: ∀i l t z',f i l->FX D C X (aL l) z'->Sx z z'->Q (.int i t) z'.s):aO (aY D.prog D.w) X.A (b7 x X.env) Q Er z.s:=h.run K λv l h u z' U n q=>by induction Vi h with|mk e h=>subst e;refine aV (Rd.dk q) λt g=>?_;erw[g];exact k _ _ t z' h U n
theorem Sd (A:aZ D C x a):aZ D C (.UnaryOp .USub x pos) (.neg a):= @λO O h=>⟨λK k=>QEj<|qN (A h) K λi l t z h R s1=>wpAny_toks<|neg_int<|((k _ _ h).tr s1).same R<|.int _ _⟩
theorem QAO (A:aZ D C x a):aZ D C (.UnaryOp .Invert x pos) (.inv a):= @λO O h=>⟨λK k=>QEj<|qN (A h) K λi l t z h R s1=>wpAny_toks<|invert_int<|((k _ _ h).tr s1).same R<|.int _ _⟩
theorem TS (hm:sN op y=aE) (A:aZ D C x a) (hb:aZ D C y b):aZ D C (.Compare x [op] [y] pos) (.cmp op a b):= @λO O h=>⟨λK k=>Pk ((A h).run K λO O h p z R s1 q1=>(hb h).run R λO O h Q Z P s2 q2=>by
 induction CN h with|mk e h=>exact wpAny_toks<|Bl e P (q1.mon s2) q2 λtk=>((k _ _ h).tr<|s1.trans s2).same P<|.bool _) hm⟩
theorem QBM (hm:sN op y=aE) (A:aZ D C x a) (hb:aZ D C y b):eT D C (.Compare x [op] [y] pos) (.cmp op a b):= @λO O h=>⟨λK k=>Hr ((A h).run K λO O h p z R s1 q1=>(hb h).run R λO O h Q Z P s2 q2=>by
 induction CN h with|mk e h=>exact wpAny_toks<|Bl e P (q1.mon s2) q2 λtk l=>ou<|((k _ _ h).tr<|s1.trans s2).same P l) hm⟩
theorem WK (a:eT D C x t):eT D C (.UnaryOp .Not x pos) (.not t):= @λO O h=>⟨λK k=>QEk<|(a h).run K λO O h z R s1=>k _ _ h z R s1⟩
theorem TV (a:eT D C x t) (hb:aZ D C y b) (W:aZ D C w c):aZ D C (.IfExp x y w pos) (.ite t b c):= @λO O h=>⟨λK k=>wpAny_IfExp ((a h).run K λz O h Z R s=>by
 rcases h with ⟨rfl,h⟩|⟨rfl,h⟩
 ·exact (hb h).run R λO O h=>(k _ _ h).tr s
 ·exact (W h).run R λO O h=>(k _ _ h).tr s)⟩
theorem QDC (A:aZ D C x a):xW D C op [x] [a]:= @λO O O h=>⟨λK k=>BoolOp_one<|(A h).run K k⟩
theorem QBV (A:aZ D C x a) (hb:xW D C op (y::xs) (b::es)):xW D C op (x::y::xs) (a::b::es):= @λO O O h=>⟨λ{X z Q Er} K k=>by
 induction op with
 |And=>exact BoolOp_and ((A h).run K λv l h u Z R i q=>by
  induction h with
  |mk e h=>
   rcases h with ⟨rfl,h⟩|⟨rfl,h⟩
   ·exact xo e R q λj P s=>k _ _ h _ _ P (i.trans s)<|q.mon s
   ·exact xo e R q λj P s=>(hb h).run P λO O h=>(k _ _ h).tr<|i.trans s)
 |Or=>exact BoolOp_or ((A h).run K λv l h u Z R i q=>by
  induction h with
  |mk e h=>
   rcases h with ⟨rfl,h⟩|⟨rfl,h⟩
   ·exact xo e R q λj P s=>k _ _ h _ _ P (i.trans s)<|q.mon s
   ·exact xo e R q λj P s=>(hb h).run P λO O h=>(k _ _ h).tr<|i.trans s)⟩
theorem QCl (h:xW D C op xs es):aZ D C (.BoolOp op xs pos) (.fZ op es):=λe=>h e
theorem Xe:xk D C op [] []:= @λO O h=>λK k=>by rw[arm_allTrue_nil];refine bA ?_;cases op<;>exact k _ _ h _ K .refl
theorem QBD (a:eT D C x t) (hb:xk D C op xs ts):xk D C op (x::xs) (t::ts):= @λO O h=>λK k=>by
 rw[arm_allTrue_cons];refine aR<|(a h).run K λb l h z R s=>?_;rcases h with ⟨rfl,h⟩|⟨rfl,h⟩
 ·cases op<;>exact bA<|k _ _ h _ R s
 ·cases op<;>exact hb h R λO O h=>(k _ _ h).tr s
theorem Uh (h:xk D C op xs ts):eT D C (.BoolOp op xs pos) (.fZ op ts):=λe=>⟨λK k=>by
 rw[arm_isTrue_BoolOp]
 exact h e K k⟩
theorem WS (o: ∀whole,zi x env whole=(do let v<-whole;sO x.pos;oy [v] (Ho v))) (h:aO M A (b7 x env) (λv N=>aO M A (Ho v) Q Er N) Er s):
 aO M A (zi x env<|b7 x env) Q Er s:=by
 rw[o];exact aR<|eY h (λv N H=>aR<|iJ<|cO H) λO O x=>x
theorem RI (ok:hZ C nm i):eT D C (.Name nm pos) (.aC i):= @λl r h=>⟨λK k=>WS (λO=>rfl) ((si (K:=λv l=>dD (mf (aL l) v) λb=>r b l) ok h).run K λO O h p z R s1 q1=>by
 induction h with|mk e h=>exact xo e R q1<|(k _ _ h).tr s1)⟩
theorem FK {t:ba aI}:mM pos ((aE,t)::l)=(aE,t)::mM pos l:=rfl
theorem EY:fh D C [] []:= @λO O h=>⟨λK k=>lP<|k _ _ h _ _ K .refl .nil⟩
theorem yH {es:List E} (hs: ∀env,fI (x::xs) env=(aE,b7 x env)::fI xs env) (A:aZ D C x a) (hb:fh D C xs es):fh D C (x::xs) (a::es):= @λO O h=>⟨λ{X z pos Q Er} K k=>by
 simp only[hs X.env,FK]
 exact ua<|(A h).run K λO O h p Z R s1 q1=>(hb h).run R λO O h ps j P s2 q2=>k _ _ h _ _ P (s1.trans s2)<|.cons (q1.mon s2) q2⟩
theorem iy.ds (q:iy D X z us (xs.map .d)):iO X z us xs:=by
 induction xs generalizing us with
 |nil=>cases q;exact bB.nil
 |cons x xs i=>cases q with|cons a b=>exact bB.cons a<|i b
theorem kX {Kd:List aK->Ls->Prop} (h:JX D C xs l λvs l=>yP vs λds=>Kd ds l) (K:FX D C X (aL l) z) (k: ∀ds l us z',Kd ds l->FX D C X (aL l) z'->Sx z z'->iO X z' us ds->Qs us z'.s):aO (aY D.prog D.w) X.A (sM<|mM pos<|fI xs X.env) Qs Er z.s:=h.run K λvs l h us z' U s q=>by induction Si h with|mk e g=>subst e;exact k _ _ us z' g U s q.ds
theorem L5 (h:fh D C xs es):aZ D C (.List xs pos) (.list es):=λe=>⟨λK k=>Hu<|kX (h e) K λds l us z h R s q1=>⟨by simp only[jB,q1.len];exact bJ h.1,((k _ _ h.2).tr s).new R (Kl.push _) (R.fresh q1 0)<|bh _⟩⟩
theorem W5 (h:fh D C xs es):aZ D C (.Tuple xs j pos) (.tup es):=λe=>⟨λK k=>wpAny_Tuple<|kX (h e) K λds l us z h R s q1=>⟨by simp only[jB,q1.len];exact bJ h.1,((k _ _ h.2).tr s).new R (Kl.push _) (R.freshT q1 0)<|bh _⟩⟩
theorem QCk (s: ∀o i,wg y aE o i=wh [o,i] (wi o i)) (A:aZ D C x a) (hb:aZ D C y b):aZ D C (.Subscript x y pos) (.au a b):= @λO O h=>⟨λK k=>Pm ((A h).run K λO O h p z R s1 q1=>qN (hb h) R λi l t Z h P s2=>by
 induction h with|mk e h=>exact UU e s P (q1.mon s2)<|(k _ _ h).tr<|s1.trans s2)⟩
theorem CH {k:Nat} (h:Q .none s):aO M A (b7 (.Constant .none k pos) env) Q Er s:=λO O O=>h
theorem EZ {k:Nat} {b:Bool} (h:Q (.bool b) s):aO M A (b7 (.Constant (.bool b) k pos) env) Q Er s:=λO O O=>h
theorem Oe {w:bz} {s:aN} {neg b:Bool} {u u':aI} (p:plainIs u u'=aB) (e:(u==u')=b) (h:Q (.bool<|b !=neg) s):aO (aY prog w) A (sI (if neg then .IsNot else .Is) u u') Q Er s:=by
 cases neg
 ·exact QEl p (by erw[e];simpa using h)
 ·exact Pn p (by erw[e];simpa using h)
theorem Bf {w:bz} {neg B:Bool} (q:Rd Y s.heap u d) (hd:(d=.none/\B=aB)\/(d≠ .none/\B=aE)) (h:Q (.bool<|B !=neg) s):aO (aY prog w) A (sI (if neg then .IsNot else .Is) u .none) Q Er s:=by
 have:plainIs u .none=aB/\(u==.none)=B:=by
  refine aS q λl L b=>?_;clear q h L;rcases hd with ⟨rfl,rfl⟩|⟨hd,rfl⟩
  ·cases b;exact ⟨rfl,rfl⟩
  ·cases b<;>first|exact absurd rfl hd|exact ⟨rfl,rfl⟩
 exact Oe this.1 this.2 h
theorem OQ {whole} (F:sN op rr=aE)
 (h:aO M A (b7 l env) (λu N=>aO M A (b7 rr env) (λu' H=>aO M A (sI op u u') (λc R=> ∃b,c=.bool b/\Q b R) Er H) Er N) Er s) (m:M=aY D.prog D.w):aO M A (zi (.Compare l [op] [rr] pos) env whole) Q Er s:=by
 exact cw m<|wpAny_isTrue_Compare1 (wpAny_mono h (λO O h=>eY h (λO O h=>eY h (λc R q=>q.elim λb q=>by erw[q.1];exact ou q.2) λO O x=>x) λO O x=>x) λO O x=>x) F
theorem Ur {k:Nat} {neg:Bool} (o:op=if neg then .IsNot else .Is) (m:sN op (.Constant .none k P)=aE) (A:aZ D C x a):aZ D C (.Compare x [op] [.Constant .none k P] pos) (.iS neg a):= @λO O h=>⟨λK k=>Pk ((A h).run K λO O h p z R s q=>by
 erw[o];induction ja h with
 |mk e g=>
  clear h;subst e;rcases g with ⟨rfl,g⟩|⟨n,g⟩
  ·exact CH<|Bf q (.inl ⟨rfl,rfl⟩)<|k _ _ g _ _ R s<|Rd.bool _
  ·exact CH<|Bf q (.inr ⟨n,rfl⟩)<|k _ _ g _ _ R s<|Rd.bool _) m⟩
theorem Wn {k:Nat} {neg:Bool} (o:op=if neg then .IsNot else .Is) (m:sN op (.Constant .none k P)=aE) (A:aZ D C x a):eT D C (.Compare x [op] [.Constant .none k P] pos) (.iS neg a):= @λO O h=>⟨λK k=>OQ m ((A h).run K λO O h p z R s q=>by
 erw[o];induction ja h with
 |mk e g=>
  clear h;subst e;rcases g with ⟨rfl,g⟩|⟨n,g⟩
  ·exact CH<|Bf q (.inl ⟨rfl,rfl⟩)<|ax _ rfl (k _ _ g _ R s)
  ·exact CH<|Bf q (.inr ⟨n,rfl⟩)<|ax _ rfl (k _ _ g _ R s)) rfl⟩
theorem Vn {k:Nat} {P:bP} {neg b:Bool} {op:fV} (o:op=if neg then .IsNot else .Is) (m:sN op (.Constant (.bool b) k P)=aE) (A:aZ D C x a):eT D C (.Compare x [op] [.Constant (.bool b) k P] pos) (.eP neg b a):= @λO O h=>⟨λK k=>OQ m ((A h).run K λO O h p z R s q=>by
 erw[o];induction ja h with
 |mk e g=>
  clear o m A K;obtain ⟨c,rfl,g⟩:=g;clear h;subst e;cases Rd.bool_inv q
  exact EZ<|Oe rfl (by clear h k R s g q;cases b<;>cases c<;>rfl) (ax _ rfl (k _ _ g _ R s))) rfl⟩
end
theorem gK {E:aI->aN->Prop} (p:l.any (·.1)=aE)
 (h:aO M A (sM l) (λvs n=>Q ⟨vs,[]⟩ n) E s):aO M A (evalArgs f aB l []) Q E s:=by
 induction l with
 |nil=>refine aR<|eY h (λvs n H=>?_) λO O x=>x;refine aR<|bA<|cO<|aR<|bA<|aR<|bA<|bA H
 |cons a l=>
  obtain ⟨b,t⟩:=a;have:b=false:=by simp only[List.any_cons,Po] at p;exact p.1
  clear p;subst this;exact evalArgs_plain h
noncomputable def Pl (xs:List aP):Prop:= ∀env p,(mM p<|fI xs env).any (·.1)=aE
noncomputable def xy (b:Bi):Str:=match b with
 |.len=> "len" |.sum=> "sum" |.m9=> "max" |.max2=> "max" |.kZ=> "min" |.min2=> "min" |.abs=> "abs" |.chr=> "chr" |.ord=> "ord" |.rv=> "str" |.sd=> "int" |.divmod=> "divmod"
noncomputable def Lj (nm:aG):Bool:=AV.contains nm && !(nm==("__debug__" :aG)) && !(nm==("__name__" :aG))
theorem J6 (b:Bi):Hp (xy b)=aA (tT b)/\Lj (xy b)=true:=by induction b<;>exact ⟨by lia,by lia⟩
section
theorem x4 [H:cz D] (K:FX D C X r z) (P:C.K nm=aA .globalImplicit) (hn:Lj nm=aB) (hu:Hp nm=aA u) (h:Q u z.s):aO (aY D.prog D.w) X.A (b7 (.Name nm pos) X.env) Q Er z.s:=by
 refine bI (f7.mp hn) λhn i=>bI (f7.mp hn) λhn q=>Hv K.F.hk ((K.F.hK nm).trans P) ?_<|uZ _▸q;refine QEm (mg:=D.mg) (mb:=D.G.nsMap ic) ?_ (H.Jl nm<|Hx.mp hn) ?_ ?_ h
 ·exact sb K.F.hg<|H.gl.g.keeps K.F.base
 ·exact sb K.F.hb<|H.gl.b.keeps K.F.base
 ·exact sb (H.gl.bo nm λe=>by rw[e] at i;exact QHb i<|by decide+kernel)<|hu
theorem pV [H:cz D] (K:FX D C X r z) (o:nG C nm) (hu:D.mg nm=aA u) (h:Q u z.s):aO (aY D.prog D.w) X.A (b7 (.Name nm pos) X.env) Q Er z.s:=by refine Hv K.F.hk ((K.F.hK nm).trans o.k) ?_ o.d;refine QEn ?_ hu h;simp only[K.F.hg];exact H.gl.g.keeps K.F.base
theorem QCN [H:cz D] (o:nG C nm):aZ D C (.Name nm pos) (.qc nm):= @λO O h=>by
 induction h with|mk e g=>refine aV (H.gi _ _ e) λt e2=>?_;exact ⟨λK k=>pV K o e2<|(k _ _ g).id K<|Rd.int _ _⟩
theorem Uw (p:l.any (·.1)=aE) (h:aO M A (sM l) (λvs n=>aO M A (call (tT b) vs) Q Er n) Er s):aO M A (wj pos (tT b) [] l []) Q Er s:=by
 have k:(∃i,tT b=.builtin i)\/ ∃T,tT b=.type T:=by clear p h;induction b<;>first|exact .inl ⟨_,rfl⟩|exact .inr ⟨_,rfl⟩
 generalize tT b=B at*;rcases k with ⟨i,rfl⟩|⟨T,rfl⟩
 ·exact wm p<|gK p h
 ·exact wo p<|gK p h
theorem Wg [H:cz D] (hn:nm=xy b) (s:C.K nm=aA .globalImplicit) (P:Pl xs) (a:fh D C xs es):aZ D C (.Call (.Name nm p) xs [] pos) (.bi b es):= @λO O h=>⟨λ{X z Q Er} K k=>by
 subst hn
 exact qp (x4 K s (J6 b).2 (J6 b).1 (Uw (P X.env pos) ((a h).run K λO O h us Z R s1 q1=>by
  induction h with|mk e g=>exact QAw e R q1<|(k _ _ g).tr s1)))⟩
noncomputable def Dz (b:Sm):String:=match b with|.bits=> "int" |_=> "str"
theorem Ru (b:Sm):Pp (Dz b)/\Slot (Dz b) (BP b) (HH b)/\Hy (.builtin<|HH b)=pure (.type "method_descriptor"):=by
 induction b with
 |lower=>exact ⟨ub,PySem.F.slot_str_lower,PySem.F.type_str_lower⟩
 |upper=>exact ⟨ub,PySem.F.slot_str_upper,PySem.F.type_str_upper⟩
 |swapcase=>exact ⟨ub,PySem.F.slot_str_swapcase,PySem.F.type_str_swapcase⟩
 |rstrip=>exact ⟨ub,PySem.F.slot_str_rstrip,PySem.F.type_str_rstrip⟩
 |qa=>exact ⟨ub,PySem.F.slot_str_lstrip,PySem.F.type_str_lstrip⟩
 |split=>exact ⟨ub,PySem.F.slot_str_split,PySem.F.type_str_split⟩
 |join=>exact ⟨ub,PySem.F.slot_str_join,PySem.F.type_str_join⟩
 |bits=>exact ⟨PySem.F.plainAttrs_int,PySem.F.slot_int_bit_length,PySem.F.type_int_bit_length⟩
theorem v_ (e:Ef b v) (q:Vz D X z u v):z.s.TypeIs u (Dz b)/\ ∀a,u≠ .ref a:=by
 have i:(∃i,v=.d (.int i))->z.s.TypeIs u "int" /\ ∀a,u≠ .ref a:=λ⟨i,e⟩=>by subst e;exact aV (Rd.dk q) λt g=>sb g<|⟨typeIs_int _ _ _,nofun⟩
 have s:(∃i,v=.d (.str i))->z.s.TypeIs u "str" /\ ∀a,u≠ .ref a:=λ⟨i,e⟩=>by subst e;exact aV (Rd.dO q) λt g=>sb g<|⟨typeIs_str _ _ _,nofun⟩
 induction b<;>first|exact s e|exact i e
structure MC (o:aP) (name:aG) (apos pos:bP) (xs:List aP):Prop where
 base: ∀env,wq o name env (b7 o env)=b7 o env
 qG: ∀env,((mM pos<|fI xs env).all (λx=> !x.1) && (Pq pos<|Pr [] env).all (λx=>x.1.isSome)
  && decide (xs.length+([]:List wu).length+(if ([]:List wu).isEmpty then 0 else 1)<30))=aB
 line:(apos.endLine==pos.line)=aB
theorem MC.pl (h:MC o name a pos xs) (env:cg):(mM pos<|fI xs env).any (·.1)=false:=by have H:=(f7.mp (f7.mp<|h.qG env).1).1;rw[List.any_eq_false];intro x M;have:=dq.mp H x M;simpa using this
theorem Et {T id:String} {Kx:V->Ls->Prop} (m:MC x nm b pos xs) (p:Pp T) (sl:Slot T nm id) (F:Hy (.builtin id)=pure (.type "method_descriptor")) (M:Ev D C x l Kx) (K:FX D C X (aL l) z)
 (k: ∀v l,Kx v l-> ∀u Z,FX D C X (aL l) Z->Sx z Z->Vz D X Z u v->Z.s.TypeIs u T/\(∀a,u=.ref a-> ∃ob,Z.s.heap.get? a=aA ob/\ob.dict=aF)/\aO (aY D.prog D.w) X.A (sM<|mM pos<|fI xs X.env) (λus n=>aO (aY D.prog D.w) X.A (call (.builtin id)<|u::us) Q Er n) Er Z.s):
 aO (aY D.prog D.w) X.A (b7 (.Call (.Attribute x nm b) xs [] pos) X.env) Q Er z.s:=
 wx (m.base X.env) (m.qG X.env) m.line (M.run K λv l h u Z R i q=>by exact eN (k v l h u Z R i q) λt o H=>(uC T id p sl F t o<|wm (m.pl X.env)<|gK (m.pl X.env) H))
theorem Uv [H:cz D] (hn:nm=BP b) (hm:MC x nm ap pos xs) (M:aZ D C x a) (A:fh D C xs es):aZ D C (.Call (.Attribute x nm ap) xs [] pos) (.sm b a es):= @λO O h=>⟨λK k=>by
 subst hn;have q:=(Ru b);have p:=q.1;have sl:=q.2.1;have ty:=q.2.2;refine Et hm p sl ty (M h) K λv l h u z R s1 q1=>?_;have h0:=h.1;have h:=h.2;have q:=(v_ h0 q1);have t1:=q.1;have t:=q.2
 exact ⟨t1,λa e=>QHb e<|t a,(A h).run R λO O h us Z P s2 q2=>by
  clear hm p sl ty h0 t1
  induction h with|mk e g=>exact QAu e P (q1.mon s2) q2<|(k _ _ g).tr<|s1.trans s2⟩⟩
theorem Zc (hm:MC x "replace" ap pos [.Constant (.str Y) W p,.Constant (.str z) B P]) (n:(Y==z)=aE) (M:aZ D C x a):
 aZ D C (.Call (.Attribute x "replace" ap) [.Constant (.str Y) W p,.Constant (.str z) B P] [] pos) (.qd a Y z):=λh=>⟨λK k=>Et hm ub PySem.F.slot_str_replace PySem.F.type_str_replace (M h) K λO O h u Z R s1 q1=>by
 induction Jd h with
 |mk e g=>
  clear h;subst e;refine j5 g λi v L g=>aV (Rd.dO q1) λt' H=>sb H<|⟨typeIs_str _ _ _,nofun,spliced_cons<|Constant_str (k:=W) (pos:=p)<|spliced_cons<|Constant_str (k:=B) (pos:=P)<|spliced_nil ?_⟩
  have o:=R.t;refine wpAny_toks (SC.replace (λq=>QHb (q:Z.s.toks=0)<|wV ‹_›) (λq=>QHb (q:Z.s.toks+1=0)<|by (clear q;lia -abstractProof)) (λq=>QHb (q:Z.s.toks=Z.s.toks+1)<|by (clear q;exact λK=>ky<|nR K)) n (by erw[L];(clear g;exact az ‹_› (gA _ _))) λt' tk l=>?_)
  exact ((k _ _ g).tr s1).same R (Rd.str _ _)<|az (mO _ 2) l⟩
theorem UO:vK D C aF .none:= @λO O h=>λK k=>Hz<|(k _ _ h).id K Rd.none
theorem VT (h:aZ D C x a):vK D C (aA x) a:=λe=>λK k=>wpAny_evalPart_some<|(h e).run K k
theorem QAq {lo d st:Option aP} (s: ∀o i,∃ops,wg (.Slice lo d st p) aE o i=wh ops (wi o i)) (A:aZ D C x a) (hl:vK D C lo U) (H:vK D C d j) (hs:vK D C st es):
 aZ D C (.Subscript x (.Slice lo d st p) pos) (.dK a U j es):=λh=>⟨λK k=>Pm ((A h).run K λO O h p L R s1 q1=>wpAny_Slice (hl h R λO O h f N P s2 q2=>H h P λO O h p3 Z c s3 Y=>hs h c λO O h u z q s4 Q=>by
  induction h with|mk e g=>exact QCJ e q (q1.mon<|(s2.trans s3).trans s4) (q2.mon<|s3.trans s4) (Y.mon s4) Q s<|(k _ _ g).tr<|((s1.trans s2).trans s3).trans s4))⟩
end
theorem map_some {α β:Type} {x:Option α} {f:α->β} {b:β} (h:x.map f=aA b): ∃a,x=aA a/\f a=b:=lN.mp h
theorem Sf: ∀(names:List (aG×dQ)) (h:bK) (acc:List (aG×aM)) (x:aG) (c:aM),(jP h.objs.size names acc).lookup x=aA c->
 acc.lookup x=aA c/\(x,mP)∉names\/(h.objs.size<=c/\(kE h names).IsCell c aF/\(x,mP)∈names):=by
 intro O;induction O with
 |nil=>exact λh acc x c e=>.inl ⟨e,by simp⟩
 |cons O r i=>
  obtain ⟨n,k⟩:=O
  exact λh acc x c e=>by
   unfold jP at e;dsimp only[kE];by_cases K:(k==mP)=aB
   ·rw[if_pos K] at e⊢
    rw[beq_iff_eq] at K;erw[K];have hs:(h.push {cls:=.type "cell",data:=.cell aF}).objs.size=h.objs.size+1:=DA ..;rw[<-hs] at e;rcases i _ _ x c e with ⟨e1,e2⟩|⟨e1,e2,p⟩
    ·rw[iK] at e1
     by_cases M:(x==n)=aB
     ·rw[M] at e1
      clear hs;cases e1;rw[beq_iff_eq] at M;exact sb M<| .inr ⟨Nat.le_refl _,(show (h.push {cls:=.type "cell",data:=.cell none}).IsCell h.objs.size none from (ax _ (Heap.get?_push_size _ rfl) rfl)).keeps λb o e=>Pt _ _ b o e,.head _⟩
     ·rw[QEo] at M
      rw[M] at e1;refine .inl ⟨e1,λq=>?_⟩;refine cp (bp.mp q) (λq=>?_) λq=>?_
      ·clear e e1 e2
       cases q
       simp -iota at M
      ·exact e2 q
    ·exact .inr ⟨by exact aQ e1,e2,.tail _ p⟩
   ·rw[if_neg K] at e⊢
    rcases i _ _ x c e with ⟨e1,e2⟩|⟨e1,e2,p⟩
    ·refine .inl ⟨e1,λq=>?_⟩
     refine cp (bp.mp q) (λq=>?_) λq=>?_
     ·clear e e1 e2
      cases q
      exact K rfl
     ·exact e2 q
    ·exact .inr ⟨e1,e2,.tail _ p⟩
theorem BE: ∀(names:List (aG×dQ)) (n:Nat) (acc:List (aG×aM)) (x:aG),((x,mP)∉names->(jP n names acc).lookup x=acc.lookup x)/\((x,mP)∈names\/(acc.lookup x).isSome->((jP n names acc).lookup x).isSome):=by
 intro O;induction O with
 |nil=>exact λn acc x=>⟨λO=>rfl,λh=>by simpa -iota [jP] using h⟩
 |cons O r d=>
  obtain ⟨m,k⟩:=O
  exact λn acc x=>by
   dsimp only[jP];by_cases K:(k==mP)=aB
   ·erw[if_pos K]
    rw[beq_iff_eq] at K;refine sb K<|bI (d (n+1) ((m,n)::acc) x) λi1 i=>⟨λq=>?_,λq=>i ?_⟩
    ·simp! only[i1 λz=>q<|.tail _ z,iK]
     have:(x==m)=false:=by
      by_cases e:x=m
      ·clear i1 i
       subst e;exact QHb (.head _) q
      ·exact QHh e
     exact sb this rfl
    ·by_cases e:x=m
     ·exact .inr (by simp! only[iK,QHe.mpr e];rfl)
     ·rcases q with q|q
      ·rcases bp.mp q with q|q
       ·clear i1 i
        cases q
        exact QHb rfl e
       ·exact .inl q
      ·exact .inr (by simp! only[iK,QHh e];exact q)
   ·refine sb (QHc K)<|bI (d n acc x) λi1 i=>⟨λq=>i1 λz=>q<|.tail _ z,λq=>i ?_⟩
    rcases q with q|q
    ·rcases bp.mp q with q|q
     ·clear i1 i
      cases q
      exact QHb rfl K
     ·exact .inl q
    ·exact .inr q
set_option tactic.hygienic true in
theorem TB: ∀(names:List (aG×dQ)) (n:Nat) (a:List (aG×aM)) (P:aG->aM->Prop),(∀y c,a.lookup y=aA c->c<n)->(∀x y c,a.lookup x=aA c->a.lookup y=aA c->x=y)->
 ∀x y c,(jP n names a).lookup x=aA c->(jP n names a).lookup y=aA c->x=y:=by
 intro O;induction O with
 |nil=>exact λn a P l i=>i
 |cons O r d=>
  obtain ⟨m,k⟩:=O
  exact λn a P l i=>by
   dsimp only[jP];by_cases K:(k==mP)=aB
   ·refine sb (QHd K)<|d (n+1) ((m,n)::a) P (λy c e=>?_) λx y c e u=>?_
    ·rw[iK] at e
     split at e
     ·cases e;exact uc _
     ·exact sP<|l y c e
    ·rw[iK] at e u
     split at e<;>split at u
     ·rename_i H _ h
      rw[beq_iff_eq] at H h;exact sb H<|sb h rfl
     ·cases e;exact QHb (l y _ u)<|mK _
     ·cases u;exact QHb (l x _ e)<|mK _
     ·exact i x y c e u
   ·exact sb (QHc K)<|d n a P l i
theorem Ad {α:Type}: ∀{l:List (aG×α)} {n:aG} {c:α},(l.map (·.1)).Nodup->(n,c)∈l->l.lookup n=aA c:=by
 intro l;induction l with
 |nil=>exact λO h=>nomatch h
 |cons a r i=>
  exact @λn c N h=>by
   obtain ⟨k,v⟩:=a;simp only[gB,Pu] at N;rcases bp.mp h with e|h'
   ·clear h N i
    cases e
    simp only[iK,beq_self_eq_true]
   ·have:(n==k)=false:=by
     by_cases e:n=k
     ·clear h i
      subst e;exact QHb (ij.mpr<|ax (n,c) h' rfl) N.1
     ·exact QHh e
    simp only[iK,this];exact i N.2 h'
theorem FW (names:List (aG×dQ)) (h:bK) (o:bH) (b:aM) (ob:bH) (e:h.get? b=aA ob):(kE (h.push o) names).get? b=aA ob:=Pt _ _ _ _<|gS _ e
theorem ED {P:vL} {G:bK} {C:Fc} {h:bK} {names:List (aG×dQ)} {cl:List (aG×aM)} {env:cg} {Ob W:aM->Prop} {φ:Nat->Option aM} {r:bQ} {T:aI}
 (aa:(names.map (·.1)).Nodup) (e1:env.locals=h.objs.size) (e2:env.cells=jP (h.objs.size+1) names cl) (ek:env.scope.kind=.function) (eK: ∀x,env.kindOf x=C.K x) (eg:env.globals=nO) (eb:env.builtins=ic) (B: ∀c q,C.cd=aA (c,q)->env.code=.ref c/\env.qual=q)
 (hl: ∀x i,C.K x=aA .local->C.cM x=aA i->r i=.unb)
 (hc: ∀x i,C.K x=aA .cell\/C.K x=aA .free->C.cM x=aA i->(names.lookup x=aA .cell/\r i=.unb)\/(names.lookup x=aA .free/\ ∃c v,cl.lookup x=aA c/\h.IsCell c v/\da P φ env.cells (Ex Ob W) h i v (r i)))
 (hs: ∀x,C.K x=aA .cell->C.rZ x=aB->names.lookup x=aA .cell)
 (t: ∀x c,cl.lookup x=aA c-> ∃o,h.get? c=aA o) (U: ∀x y c,cl.lookup x=aA c->cl.lookup y=aA c->x=y)
 (base: ∀b o,G.get? b=aA o->h.get? b=aA o) (g: ∀b o,G.get? b=aA o-> ¬ Ex Ob W b)
 (own: ∀i xs,r i=.own xs-> ∃a vs n,φ i=aA a/\h.get? a=aA (listOf vs.toArray n)/\bB (Ex Ob W) h vs xs)
 (s:C.ow=aB-> ∀i xs a,r i=.own xs->φ i=aA a->i≠aT->W a) (F: ∀xs,r aT=.own xs->r bR=.emp-> ∀a,φ aT=aA a->W a) (H: ∀xs,r aT=.own xs->r bR≠ .emp-> ∀a,φ aT=aA a-> ¬ W a)
 (R:(∀xs,r aT≠ .own xs)->φ aT=aF) (inj: ∀i j a,φ i=aA a->φ j=aA a->i=j) (A: ∀i a,φ i=aA a-> ∃o,h.get? a=aA o) (l: ∀a,Ex Ob W a-> ∃o,h.get? a=aA o) (ab: ∀a,W a-> ¬ Ob a) (inv:P.Inv (Ex Ob W) h) (pf: ∀a,P.PF a->W a):
 FR P G C env Ob φ (λa=>W a\/(h.get? a=aF/\ ∃o,(kE (h.push {cls:=T,data:=.dict #[]}) names).get? a=aA o)) r (kE (h.push {cls:=T,data:=.dict #[]}) names):=by
 have Z: ∀b o,h.get? b=aA o->(kE (h.push {cls:=T,data:=.dict #[]}) names).get? b=aA o:=FW names h _
 have m:Mon (Ex Ob W) h (Ex Ob λa=>W a\/(h.get? a=aF/\ ∃o,(kE (h.push {cls:=T,data:=.dict #[]}) names).get? a=aA o)) (kE (h.push {cls:=T,data:=.dict #[]}) names):=
  λa o e n=>⟨Z a o e,λq=>by
   rcases q with q|q|⟨q,_⟩
   ·exact n<|.inl q
   ·exact n<|.inr q
   ·exact vB e q⟩
 have gk: ∀i v sl,da P φ env.cells (Ex Ob W) h i v sl->da P φ env.cells (Ex Ob λa=>W a\/(h.get? a=aF/\ ∃o,(kE (h.push {cls:=T,data:=.dict #[]}) names).get? a=aA o)) (kE (h.push {cls:=T,data:=.dict #[]}) names) i v sl:=by
  intro i v sl x;induction sl with
  |eC n=>exact iT x λa q e1 e2 e3 e4=>(jj a q e1 (m _ _ e2 e3).1 (m _ _ e2 e3).2 e4)
  |_=>exact x.mon m λn e=>by contradiction
 have N: ∀a,h.objs.size<=a->h.get? a=none:=λa ha=>ie ha;have hsz:(h.push {cls:=T,data:=.dict #[]}).objs.size=h.objs.size+1:=DA ..;have f:(kE (h.push {cls:=T,data:=.dict #[]}) names).Ns env.locals (λO=>aF):=sb e1<|(Heap.Ns.new h T).keeps λb o e=>Pt _ _ b o e
 have cell: ∀x c,env.cells.lookup x=aA c->(cl.lookup x=aA c/\(x,mP)∉names)\/(h.objs.size+1<=c/\(kE (h.push {cls:=T,data:=.dict #[]}) names).IsCell c aF/\(x,mP)∈names):=λx c e=>by rw[e2,<-hsz] at e;have:=Sf names _ cl x c e;rw[hsz] at this;exact this
 refine ⟨λb o e=>Z b o<|base b o e,λb o e q=>?_,ek,eK,eg,eb,B,(ax _ f (λx i a b=>by erw[hl x i a b];trivial)),.inr ⟨(by erw[e1];exact N _ (bh _):h.get? env.locals=aF),let ⟨o,_,_,q,_⟩:=f;⟨o,q⟩⟩,λx i a b=>?_,λx i c a b d e=>?_,λx y c e u=>?_,λi xs e=>?_,λcc i xs a e u n=>.inl<|s cc i xs a e u n,λxs e u a q=>.inl<|F xs e u a q,λxs e u a q w=>?_,R,inj,λi a e=>let ⟨o,q⟩:=A i a e;⟨o,Z _ _ q⟩,λa q=>?_,λa q Q=>?_,P.iM inv m λa p=>?_,λa p=>.inl<|pf a p⟩
 ·have:=g b o e
  rcases q with q|q|⟨q,_⟩
  ·exact this (.inl q)
  ·exact this (.inr q)
  ·exact vB (base b o e) q
 ·rcases hc x i a b with ⟨Y,L⟩|⟨Y,c,v,L,n3,n4⟩
  ·have M:=mem_of_lookup Y
   refine aV (mQ.mp<|(BE names (h.objs.size+1) cl x).2<|.inl M) λc q=>?_;rw[<-e2] at q;rcases cell x c q with ⟨_,Q⟩|⟨_,Q,_⟩
   ·exact QHb M Q
   ·exact (cy c aF q Q (by erw[L];trivial))
  ·have M:(x,mP)∉names:=λz=>by rw[Ad aa z] at Y;contradiction
   have q:=(BE names (h.objs.size+1) cl x).1 M;rw[<-e2] at q;exact (cy c v (q.trans L) (n3.keeps Z)<|gk _ _ _ n4)
 ·have Y:=hs x a b
  rcases cell x c e with ⟨_,Q⟩|⟨q,⟨o,Q,_⟩,_⟩
  ·exact QHb (mem_of_lookup Y) Q
  ·exact .inr ⟨N _<|H0 q,o,Q⟩
 ·rw[e2] at e u
  exact TB names (h.objs.size+1) cl (λO O=>True) (λy c e=>by refine aV (t y c e) λo q=>?_;exact sP<|kh q) U x y c e u
 ·exact dT (own i xs e) λa vs n q1 q2 q3=>(ly a vs n q1 (Z _ _ q2)<|q3.mon m)
 ·rcases w with w|⟨w,_⟩
  ·exact H xs e u a q w
  ·exact aV (A _ _ q) λo z=>vB z w
 ·rcases q with q|q|⟨_,q⟩
  ·exact aV (l a<|.inl q) λo z=>⟨o,Z _ _ z⟩
  ·exact aV (l a<|.inr q) λo z=>⟨o,Z _ _ z⟩
  ·exact q
 ·rcases q with q|⟨q,_⟩
  ·exact ab a q Q
  ·refine aV (l a<|.inl Q) λo z=>?_
   rw[z] at q;exact qU q
 ·exact cT (P.iN inv p) λo vs e O=>sb e<|Z a o e
theorem NN {M:DB} {A:cV} {E:aI->aN->Prop} {s:aN} {scope:jQ} {globals:aM} {cl:List (aG×aM)} {binds:List (aG×aI)} {qual:aG} {f:Option aM} {code:aI} {a:Option cg} {builtins:aM} {Q:cg->aN->Prop}
 (h: ∀env,env=H2 scope s.heap.objs.size globals (jP (s.heap.objs.size+1) scope.names cl) qual f code a builtins->
  aO M A (forIn binds lQ λx O=>do Ct env x.1 x.2;pure (oz lQ)) (λO n=>Q env n) E {s with heap:=kE (s.heap.push {cls:=.type<|if a.isSome then "dict" else "frame",data:=.dict #[]}) scope.names}):
 aO M A (H3 scope globals cl binds qual f code a builtins) Q E s:=by
 dsimp only[H3];refine aR<|H4 ?_;refine aR (wpAny_layCells _ (λN v c=>by cases K:v==mP<;>(rfl)) _ _ _ _ ?_);erw[DA ..];have:=h _ rfl;clear h;induction a with
 |none=>exact aR<|eY this (λO n H=>bA H) λO O x=>x
 |some o=>exact aR<|eY this (λO n H=>bA H) λO O x=>x
noncomputable def oX:Str:= ".0"
theorem vn {α:Type}: ∀{l:List (aG×α)} {x:aG} {k:α},l.lookup x=aA k->l.findIdx (·.1==x)<l.length/\ ∃p,l[l.findIdx (·.1==x)]?=aA p/\p.1=x:=by
 intro l;induction l with
 |nil=>exact λh=>nomatch h
 |cons a r d=>
  exact @λx k h=>by
   obtain ⟨n,v⟩:=a
   simp! only[iK] at h
   by_cases e:x=n
   ·erw[e]
    simp -iota [QEp]
   ·have e1:=QHh e
    simp! only[e1] at h
    have H:=(d h);have i1:=H.1;have m:=H.2;refine aS m λp i u=>?_
    simp! only[QEp,(QHh λq=>e q.symm)]
    exact ⟨by simpa -iota using i1,p,by simpa -iota using i,u⟩
noncomputable def j9 (k:dQ):Bool:=k==.local||k==.cell
noncomputable def Fc.sub (C:Fc) (names:List (aG×dQ)) (r own:Bool) (hb:C.bd+200<=1000000/\names.length<=200):Fc where
 K x:=(names.lookup x).map λk=>if r && k==.free && C.K x==aA .cell then .cell else k
 cM x:=match names.lookup x with
  |some k=>if j9 k then (if x==oX then aF else aA (C.bd+names.findIdx (·.1==x))) else if k==.free then C.cM x else aF
  |none=>aF
 rZ x:=match names.lookup x with|some k=>j9 k|none=>aE
 inj:=by
  intro x y i A H;induction M:names.lookup x with
  |none=>rw[M] at A;exact ay A
  |some k=>
   induction hy:names.lookup y with
   |none=>rw[hy] at H;exact ay H
   |some R=>
    rw[M] at A;rw[hy] at H;dsimp only at A H;have B: ∀{z:aG} {kz:dQ},(if z==oX then aF else aA (C.bd+names.findIdx (·.1==z)))=aA i->C.bd<=i:=λh=>by split at h<;>cases h;exact mO _ _
    split at A<;>split at H
    ·split at A
     ·exact ay A
     ·split at H
      ·exact ay H
      ·have:names.findIdx (·.1==x)=names.findIdx (·.1==y):=by
        have a:=kC A;have b:=kC H;clear H A;exact rF a b.symm
       have g:=(vn M);have o:=g.2;refine aS o λp v n=>?_;have N:=(vn hy);have Y:=N.2;refine aS Y λq u m=>?_
       simp! only[this,u] at v
       clear u;cases v
       simp! only[<-n,<-m]
    ·split at H
     ·exact QHb (B (kz:=k) A)<|H5<|C.q8 _ _ H
     ·exact ay H
    ·split at A
     ·exact QHb (B (kz:=k) H)<|H5<|C.q8 _ _ A
     ·exact ay A
    ·split at A
     ·split at H
      ·exact C.inj x y i A H
      ·exact ay H
     ·exact ay A
 bd:=C.bd+200
 q8:=by
  intro x i h;induction M:names.lookup x with
  |none=>rw[M] at h;exact ay h
  |some k=>
   rw[M] at h;dsimp only at h
   split at h
   ·split at h
    ·exact ay h
    ·have:=(vn M).1
     have a:=kC h;have:=hb.2;clear h hb;exact (bD (na (nR a) ‹List.findIdx (λe=>e.fst==x) names<names.length›) this)
   ·split at h
    ·exact mJ (C.q8 _ _ h)<|mO _ _
    ·exact ay h
 Bo:=hb.1
 ow:=own
 nw:=aE
 hn:=aE
 cd:=aF
noncomputable def clOf (cells:List (aG×aM)):List (aG×dQ)->List (aG×aM)->List (aG×aM)
 |[],acc=>acc
 |(n,k)::r,acc=>clOf cells r<|if k==.free then (n,(cells.lookup n).getD 0)::acc else acc
theorem BV {cells:List (aG×aM)} {acc}:clOf cells [] acc=acc:=rfl
theorem A5 {cells:List (aG×aM)} {n k r acc}:clOf cells ((n,k)::r) acc=clOf cells r (if k==.free then (n,(cells.lookup n).getD 0)::acc else acc):=rfl
theorem ML {scope:jQ} {env:cg} (h: ∀x∈scope.names,x.2=.free->(env.cells.lookup x.1).isSome=aB):closureFor scope env=pure (clOf env.cells scope.names []):=by
 have v: ∀(names:List (aG×dQ)) (a:List (aG×aM)),(∀x∈names,x.2=.free->(env.cells.lookup x.1).isSome=aB)->
  (forIn names a λ(x:aG×dQ) r=>if (x.2==o3)=aB then do let y<-cellOf env x.1;pure (oz<|(x.1,y)::r) else pure (oz r))=pure (clOf env.cells names a):=by
  intro names;induction names with
  |nil=>intro a _;rfl
  |cons x names i=>
   intro a h;obtain ⟨n,k⟩:=x
   simp! only[ud,BV,A5]
   by_cases K:(k==o3)=aB
   ·refine aV (mQ.mp<|h (n,k) (.head _)<|QHe.mp K) λc C=>?_
    have:cellOf env n=pure c:=by dsimp only[cellOf];exact sb C rfl
    simp! only[K,if_true,this,C,QEq]
    exact i _ λy Y=>h y<|.tail _ Y
   ·simp! only[K,if_false,wy]
    exact i _ λy Y=>h y<|.tail _ Y
 dsimp only[closureFor];have:=v scope.names [] h
 simp! only[bind_pure]
 exact this
theorem yS {cells:List (aG×aM)}: ∀(names:List (aG×dQ)) (acc:List (aG×aM)),(∀x∈names,x.2=.free->(cells.lookup x.1).isSome=aB)->(∀y c,acc.lookup y=aA c->cells.lookup y=aA c)->
 (∀y c,(clOf cells names acc).lookup y=aA c->cells.lookup y=aA c)/\ ∀y,((y,o3)∈names\/(acc.lookup y).isSome=aB)↔((clOf cells names acc).lookup y).isSome=true:=by
 intro O;induction O with
 |nil=>exact λacc O a=>⟨a,λy=>by simp -iota [BV,A5]⟩
 |cons O r d=>
  obtain ⟨n,k⟩:=O
  exact λacc h a=>by
   have R: ∀x∈r,x.2=.free->(cells.lookup x.1).isSome=true:=λx M=>h x<|.tail _ M;dsimp only[BV,A5];by_cases K:(k==o3)=aB
   ·refine sb (QHd K)<|aV (Option.isSome_iff_exists.mp<|h (n,k) (.head _)<|beq_iff_eq.mp K) λc C=>?_
    simp! only[C,QEq]
    refine bI (d ((n,c)::acc) R λy g e=>by
     rw[iK] at e;by_cases q:y=n
     ·clear h
      subst q;rw[beq_self_eq_true] at e;cases e;exact C
     ·rw[beq_false_of_ne q] at e
      exact a y g e) λi1 i=>?_
    refine ⟨i1,λy=>Iff.trans ⟨λq=>?_,λq=>?_⟩<|i y⟩
    ·by_cases z:y=n
     ·exact sb z<| .inr (by simp! only[List.lookup_cons,beq_self_eq_true];rfl)
     ·rcases q with q|q
      ·rcases bp.mp q with q|q
       ·clear h K C i1 i
        cases q
        exact QHb rfl z
       ·exact .inl q
      ·exact .inr (by simp! only[iK,QHh z];exact q)
    ·by_cases z:y=n
     ·exact sb z<| .inl (by erw[beq_iff_eq.mp K];exact .head _)
     ·rcases q with q|q
      ·exact .inl<|.tail _ q
      ·simp! only[iK,QHh z] at q
       exact .inr q
   ·refine sb (QHc K)<|bI (d acc R a) λi1 i=>⟨i1,λy=>Iff.trans ⟨λq=>?_,λq=>q.imp (.tail _) id⟩<|i y⟩
    rcases q with q|q
    ·rcases bp.mp q with q|q
     ·clear h
      cases q
      exact QHb rfl K
     ·exact .inl q
    ·exact .inr q
theorem Tu {env:cg} {C:Fc} (s:env.scope.kind=.function) (W: ∀x,env.kindOf x=C.K x): ∀(names:List (aG×dQ)) (x:aG),
 (names.map λ(n,k)=>if (k==o3 && env.scope.kind==.function && env.kindOf n==aA .cell) then (n,mP) else (n,k)).lookup x=(names.lookup x).map λk=>if aB && k==.free && C.K x==aA .cell then .cell else k:=by
 intro O;induction O with
 |nil=>exact λx=>rfl
 |cons O r i=>
  obtain ⟨n,k⟩:=O
  exact λx=>by
   have i:=i x;refine sb gB<|sb (List.lookup_cons (b:=k)) ?_
   have step: ∀(p:aG×dQ) (l:List (aG×dQ)),p.1≠x->QEr x (p::l)=QEr x l:=λp l P=>by obtain ⟨F,Q⟩:=p;exact sb iK<|sb (beq_false_of_ne<|Ne.symm P) rfl
   by_cases e:x=n
   ·subst e
    have:((if (k==o3 && env.scope.kind==.function && env.kindOf x==aA .cell) then (x,mP) else (x,k)))=(x,if aB && k==.free && C.K x==aA .cell then .cell else k):=by
     refine sb s<|sb (W x) ?_
     have:(ScopeKind.function==ScopeKind.function)=true:=rfl
     simp! only[this,Pw,Cv]
     split<;>rfl
    dsimp only;rw[this,iK,beq_self_eq_true];rfl
   ·have h:=QHh e
    exact sb (step _ _ (by dsimp only;split<;>exact λq=>e q.symm))<|sb i<|sb h rfl
structure jT (C:Fc) (env:cg) (φ:Nat->Option aM) (I:aM):Prop where
 p: ∀i,φ i≠aA I
 l:env.locals≠I
 c: ∀x i c,(C.K x=aA .cell\/C.K x=aA .free)->C.cM x=aA i->env.cells.lookup x=aA c->c≠I
section
variable {Ob Ob₁ Ob₂ Z W W':aM->Prop} {φ φ':Nat->Option aM} {r:bQ} {h h':bK}
theorem FR.CF (F:FR P G C env Ob φ W r h) {I:aM} (e:h.get? I=aF):jT C env φ I:=by
 refine ⟨λi q=>?_,λq=>?_,λx i c a b q z=>?_⟩
 ·exact aV (F.jv i I q) λo w=>cb e w
 ·refine aS F.loc λm R O=>oH R λo O O w O=>?_
  simp! only[q,e] at w
  exact ay w
 ·refine bc (F.hG x i a b) λg v w Q O=>aS Q λo d O=>?_
  rw[q] at w;clear q Q;cases w;rw[z,e] at d;exact ay d
theorem jT.not (nf: ∀a,Z a->jT C env φ a) {a:aM} (q:LW C env φ a): ¬ Z a:=λz=>q.elim (λq=>q.elim λi e=>(nf a z).p i e) λq=>bc q λx i k t e=>(nf a z).c x i a k t e rfl
theorem FR.FT (F:FR P G C env Ob₁ φ W r h) (u: ∀a,Z a->Ob₁ a) (nf: ∀a,Z a->jT C env φ a) (k: ∀a o,h.get? a=aA o-> ¬ Z a-> ¬ P.PF a->h'.get? a=aA o) (L: ∀a,Ob₂ a->(Ob₁ a\/h.get? a=aF)/\ ∃o,h'.get? a=aA o) (i:P.Inv (Ex Ob₂ W) h'):
 FR P G C env Ob₂ φ W r h'/\Mon (Ex Ob₁ W) h (Ex Ob₂ W) h':=by
 have m:Mon (Ex Ob₁ W) h (Ex Ob₂ W) h':=λa o e n=>⟨k a o e (λq=>n<|.inl<|u a q) λq=>n<|.inr<|F.pf a q,λq=>n<|q.imp (λq=>(L a q).1.resolve_right λz=>cb z e) id⟩;refine ⟨F.chg m (λa o e s f=>k a o e (jT.not nf f)<|F.np e s.nf) (λm n=>Dn n λo e d=>k _ o e (λz=>(nf _ z).l rfl)<|F.np e d) (λa q=>?_) (λa w q=>?_) i,m⟩
 ·rcases q with q|q|q
  ·exact F.El k i (jT.not nf<|.inl q)<|F.al<|.inl q
  ·exact (L a q).2
  ·exact F.El k i (λz=>F.dR a q<|u a z)<|F.dg a<|.inr q
 ·exact (L a q).1.elim (F.dR a w) λz=>aV (F.dg a<|.inr w) λO e=>cb z e
theorem FR.move (F:FR P G C env Ob₁ φ W r h) (u: ∀a,Z a->Ob₁ a) (nf: ∀a,Z a->jT C env φ a) (k: ∀a o,h.get? a=aA o-> ¬ Z a->h'.get? a=aA o) (L: ∀a,Ob₂ a->(Ob₁ a\/h.get? a=aF)/\ ∃o,h'.get? a=aA o):
 FR P G C env Ob₂ φ W r h'/\Mon (Ex Ob₁ W) h (Ex Ob₂ W) h':=
 F.FT u nf (λa o e z O=>k a o e z) L (P.iM F.inv (λa o e n=>⟨k a o e λq=>n<|.inl<|u a q,λq=>n<|q.imp (λq=>(L a q).1.resolve_right λz=>cb z e) id⟩)<|F.tc λa o O e O p=>k a o e λz=>F.dR a (F.pf a p)<|u a z)
theorem FR.QDi (o:List Nat) (d: ∀i∈o,i≠bR/\i≠aT): ∀{r:bQ},FR P G C env Ob φ W r h->FR P G C env Ob φ W (o.foldl (λr i=>upd r i .unb) r) h:=by
 induction o with
 |nil=>intro r F;exact F
 |cons i o e=>intro r F;exact e (λj s=>d j<|.tail _ s)<|F.forget i (d i<|.head _).1 (d i<|.head _).2
end
noncomputable def jz (t:cS):List Nat:=match t with
 |.one i=>[i]
 |.tup o=>o
theorem vW (t:cS) (r:bQ):fm t r=(jz t).foldl (λr i=>upd r i .unb) r:=by induction t<;>rfl
theorem xT: ∀(o:List Nat) (r:bQ) (j:Nat),(o.foldl (λr i=>upd r i .unb) r) j=if j∈o then .unb else r j:=by
 intro O;induction O with
 |nil=>exact λr j=>by rfl
 |cons i o d=>
  exact λr j=>by
   simp! only[ot,d]
   by_cases h:j∈o
   ·simp -iota [h]
   ·by_cases H:j=i
    ·subst H
     simp -iota [upd]
    ·simp -iota [h,H,upd]
theorem TK: ∀(ps:List (Nat×aK)) (r:bQ) (j:Nat),j∉ps.map (·.1)->(ps.foldl (λr p=>upd r p.1<|.val p.2) r) j=r j:=by
 intro O;induction O with
 |nil=>exact λr j O=>rfl
 |cons p ps i=>
  exact λr j h=>by
   refine sb ot<|sb (i _ j λq=>h (by rw[gB];exact .tail _ q)) ?_
   unfold upd;rw[if_neg λq=>h (by rw[gB,q];exact .head _)]
theorem QCi {t:cS} {x:aK} {r r':bQ} (e:oB t x r=aA r'):fm t r'=fm t r:=by
 funext j;simp only[vW,vW,xT,xT];by_cases s:j∈jz t
 ·simp only[if_pos s,if_pos s]
 ·simp only[if_neg s,if_neg s]
  induction t with
  |one i=>
   cases e
   unfold upd;rw[if_neg];intro q;exact s (by simp[jz,q])
  |tup is=>
   have K: ∀xs:List aK,(if xs.length=is.length then aA ((is.zip xs).foldl (λr p=>upd r p.1<|.val p.2) r) else aF)=aA r'->r' j=r j:=λxs e=>by
    split at e
    ·cases e
     exact TK _ _ _ λq=>s<|aS (List.mem_map.mp q) λp q1 q2=>cw q2<|(List.of_mem_zip q1).1
    ·exact ay e
   unfold oB at e;cases x<;>dsimp only at e<;>first|exact K _ e|(exact ay e)
section
theorem QBn {M:DB} {A:cV} {s:aN} {env:cg} {Q:Bool->aN->Prop} {E:aI->aN->Prop} (h:Q aE s): ∀xs:List aP,
 aO M A (forIn xs aE λc r=>if r=aB then do let o<-zi c env (b7 c env);pure (oz o) else pure (oz r)) Q E s:=by
 intro O;induction O with
 |nil=>exact by simp! only[zj];exact bA h
 |cons x xs i=>
  exact by
   simp! only[ud]
   skip
   exact aR<|bA<|i
end
section
variable {C:Fc}
structure m6 (C:Fc) (scope:jQ) (t:cS) (target iter:aP):Prop where
 nd:(scope.names.map (·.1)).Nodup
 kind:scope.kind=.function
 free: ∀x∈scope.names,x.2=.free->(C.cM x.1).isSome=aB/\(C.K x.1=aA .cell\/C.K x.1=aA .free)
 tid: ∀x∈scope.names,j9 x.2=aB->(x.1==oX)=aE->(C.bd+scope.names.findIdx (·.1==x.1))∈jz t
 y8: ∀i∈jz t,C.bd<=i/\i<1000000
 fold: ∀env x,H6 iter env x=pure x
theorem oP {names:List (aG×dQ)} {r own:Bool} {hb:C.bd+200<=1000000/\names.length<=200} {x:aG} {k:dQ} (h:(C.sub names r own hb).K x=aA k):
 (names.lookup x=aA k)\/(k=.cell/\names.lookup x=aA .free/\C.K x=aA .cell/\r=aB):=by
 refine aS (map_some h) λb u e=>?_
 split at e
 ·rename_i c
  simp! only[gn,QHe] at c
  exact .inr (kq e.symm (by (erw[u];exact sb c.1.2 rfl)) c.2 c.1.1)
 ·exact cw e<| .inl u
end
noncomputable def Fx.add (X:Fx) (I:aM):Fx:={X with Ob:=λa=>X.Ob a\/a=I}
noncomputable def vy:List String:=["enumerate","zip","dict_itemiterator","dict_reverseitemiterator","odict_iterator","itertools.zip_longest","itertools.pairwise"]
structure It (D:Wd) (C:Fc) (X:Fx) (r:bQ) (z z':Zs) (fl:Bool) (xs:List aK) (J:aM) (fp:List aM) (P:Nat->aI->Prop) (St:Nat->bK->Prop):Prop where
 F:FX D C (X.add J) r z'
 nJ: ¬ Ex X.Ob z'.W J
 nf:jT C X.env z'.φ J
 sx:Sx z z'
 new: ∀a o,z.s.heap.get? a=aA o-> ¬ z.W a->a≠J
 walk:sQ D.prog D.w X.A J fp [J] xs.length P St
 st:St 0 z'.s.heap
 alive: ∀i h,St i h-> ∃o T,h.get? J=aA o/\o.cls=.type T/\vy.contains T=aE
 nv: ∀b∈fp,∃o,z'.s.heap.get? b=aA o
 Mi:fl=aB-> ∀b∈fp,b≠J-> ¬ z'.W b
 Nu: ∀b∈fp, ¬ D.P.PF b
 items: ∀i v,P i v-> ∃d,xs[i]?=aA d/\Rz (X.add J) z' v d
noncomputable def KI (D:Wd) (C:Fc) (X:Fx) (r:bQ) (z:Zs) (fl:Bool) (xs:List aK) (Q:aI->aN->Prop):Prop:= ∀Z J f P St,It D C X r z Z fl xs J f P St->Q (.ref J) Z.s
noncomputable def Xp (D:Wd) (C:Fc) (X:Fx) (z:Zs) (fl:Bool) (K:List aK->Ls->Prop) (Q:aI->aN->Prop):Prop:= ∀x l,K x l->KI D C X (aL l) z fl x Q
noncomputable def iC (D:Wd) (C:Fc) (fl:Bool) (x:aP) (i:I):Prop:= ∀{l K},i D.o fl l K-> ∀{X:Fx} {z:Zs} {Q:aI->aN->Prop} {Er:aI->aN->Prop},FX D C X (aL l) z->Xp D C X z fl K Q->
 aO (aY D.prog D.w) X.A (b7 x X.env) (λu N=>aO (aY D.prog D.w) X.A (zl u) Q Er N) Er z.s
noncomputable def nE (D:Wd) (C:Fc) (x:aP) (t:cS):Prop:= ∀{d r R},oB t d r=aA R-> ∀{X:Fx} {z:Zs} {v:aI} {Q:Unit->aN->Prop} {Er:aI->aN->Prop},FX D C X r z->Rz X z v d->
 (∀Z,FX D C X R Z->Sx z Z->Z.W=z.W->Q () Z.s)->aO (aY D.prog D.w) X.A (mR x X.env v) Q Er z.s
structure lK (C:Fc) (nm:aG) (i:Nat):Prop where
 t:C.cM nm=aA i
 s:C.rZ nm=aB
 k:C.K nm=aA .local\/C.K nm=aA .cell
noncomputable def cu (C:Fc) (nm:aG) (i:Nat):Bool:=(C.cM nm==aA i) && C.rZ nm && (match C.K nm with|some .local=>aB|some .cell=>aB|_=>aE)
theorem ft (h:cu C nm i=aB):lK C nm i:=by
 refine bI (f7.mp h) λh H=>bI (f7.mp h) λA m=>⟨QHe.mp A,m,?_⟩;generalize C.K nm=k at H
 match k,H with
 |some .local,_=>exact .inl rfl
 |some .cell,_=>exact .inr rfl
theorem Fc.nM (C:Fc) (h:C.cM nm=aA i):i≠bR/\i≠aT:=by have l:=C.low nm i h;exact ⟨λq=>by rw[q] at l;exact QHb l (by decide),λq=>by rw[q] at l;exact QHb l<|by decide⟩
section
variable {fl:Bool}
theorem Sx.fresh {J:aM} (s:Sx z z') (e:z.s.heap.get? a=aA o) (n: ¬ z.W a):z'.s.heap.get? a=aA o/\ ¬ z'.W a:=⟨s.st.keep a o e n,λq=>(s.st.grow a q).elim n λq=>by rw[e] at q;exact qU q⟩
theorem It.tr {J fp P St} (i:It D C X r z' z'' fl xs J fp P St) (s:Sx z z'):It D C X r z z'' fl xs J fp P St:=⟨i.F,i.nJ,i.nf,s.trans i.sx,λa o e n=>i.new a o (s.fresh (J:=J) e n).1 (s.fresh (J:=J) e n).2,i.walk,i.st,i.alive,i.nv,i.Mi,i.Nu,i.items⟩
theorem KI.tr (k:KI D C X r z fl xs Q) (s:Sx z z'):KI D C X r z' fl xs Q:=λO O O O O i=>k _ _ _ _ _<|i.tr s
theorem yw (o:lK C nm i) (K:FX D C X r z) (q:Rz X z v d) (k: ∀z',FX D C X (upd r i<|.val d) z'->Sx z z'->z'.W=z.W->Q () z'.s):aO (aY D.prog D.w) X.A (Ct X.env nm v) Q Er z.s:=bI (C.nM o.t) λa h=>wpAny_toks ((K.F.forget i a h).store o.t o.s o.k (sl:=.val d) (λH O m=>(ax v rfl (Rd.mon q m))) (λx e=>by contradiction) λH Z F S l=>k (z.to H Z) ⟨F,K.R,az K.t l⟩ ⟨S,l,rfl,rfl⟩ rfl)
theorem Fj (o:lK C nm i):nE D C (.Name nm pos) (.one i):=λe=>λK q k=>by
 cases e
 exact uf<|yw o K q k
theorem vm {ob:bH} {St:Nat->bK->Prop} (K:FX D C X r z) (M:ob.isFreed=aE) (N: ∀b∈fp,b=z.s.heap.objs.size\/((∃o,z.s.heap.get? b=aA o)/\ ¬ D.P.PF b/\(fl=aB-> ¬ z.W b)))
 (len:n=xs.length) (H:sQ D.prog D.w X.A z.s.heap.objs.size fp [z.s.heap.objs.size] n P St) (st:St 0 (z.s.heap.push ob)) (x: ∀i h,St i h-> ∃o T,h.get? z.s.heap.objs.size=aA o/\o.cls=.type T/\vy.contains T=aE) (items: ∀i v,P i v-> ∃d,xs[i]?=aA d/\Rz X z v d) (k:KI D C X r z fl xs Q):
 Q (.ref z.s.heap.objs.size) {z.s with heap:=z.s.heap.push ob}:=by
 have u:z.s.heap.get? z.s.heap.objs.size=none:=ie<|bh _;have Z: ∀b o,z.s.heap.get? b=aA o->(z.s.heap.push ob).get? b=aA o:=λO O e=>gS _ e;have Y: ∀b o,z.s.heap.get? b=aA o->b≠z.s.heap.objs.size:=λb o e q=>by simp only[q,u] at e;exact ay e
 subst len;refine k (z.to (z.s.heap.push ob) z.s.toks) _ _ _ _ ⟨⟨K.F.apart Z u ⟨_,fH _ M⟩,K.R,K.t⟩,K.F.tD,K.F.CF u,.kl K (.push ob)<|bh _,λa o e O=>Y a o e,H,st,x,λb B=>?_,λf b B n=>?_,λb B=>?_,λi v e=>?_⟩
 ·rcases N b B with rfl|⟨⟨o,e⟩,_⟩
  ·exact ⟨_,fH _ M⟩
  ·exact ⟨o,Z b o e⟩
 ·exact ((N b B).resolve_left n).2.2 f
 ·rcases N b B with rfl|⟨_,q,_⟩
  ·exact λp=>K.F.tD<|.inr<|K.F.pf _ p
  ·exact q
 ·exact aS (items i v e) λd L j=>(ax d L<|Rd.mon j λb o e n=>⟨Z b o e,λq=>q.elim (λq=>q.elim (λq=>n<|.inl q)<|Y b o e) λq=>n<|.inr q⟩)
theorem Ee (K:FX D C X r z) (e:z.s.heap.get? a=aA o) (h: ∀vs,o.data≠ .fields vs): ¬ D.P.PF a:=λp=>by refine cT (D.P.iN K.F.inv p) λH v q d=>?_;obtain rfl:=bM e q;exact h _ d
theorem HP {vs:List aI} (q:iO X z vs xs) {i:Nat} (e:vs.toArray[i]?=aA v): ∃d,xs[i]?=aA d/\Rz X z v d:=by
 rw[zc] at e;have t:i<xs.length:=by erw[<-q.len];exact (zZ.mp e).1
 refine aS (q.get<|sR t) λF u p=>?_;obtain rfl:=bM e u;exact (ax _ (sR t) p)
theorem FP {P:aM->Prop} (H:P p) (h:P q): ∀b∈[p,q],P b:=λb B=>by
 cases B with
 |head=>exact H
 |tail _ B=>cases B with|head=>exact h|tail _ B=>contradiction
theorem Oc {a:aM} {vs:List aI} {n:Nat} (K:FX D C X r z) (e:z.s.heap.get? a=aA (listOf vs.toArray n)) (q:iO X z vs xs) (t:fl=aB-> ¬ z.W a) (k:KI D C X r z fl xs Q):aO (aY D.prog D.w) X.A (zl<|.ref a) Q Er z.s:=by
 exact QEs (gM e) (vm K rfl (FP (.inl rfl)<|.inr ⟨⟨_,e⟩,Ee K e λO=>nofun,t⟩) (by simp only[gm,q.len]:vs.toArray.size=xs.length) (Walks.list K.R.1 z.s.heap.objs.size a (λq=>by simp only[q,ie<|bh _] at e;exact ay e) vs.toArray) ⟨(gd _ (fH _ rfl) rfl rfl),(gM e).push _⟩
  (λi h q=>q.1.elim λo q=>cy o _ q.1 q.2.1<|by decide) (λi v e=>HP q e) k)
theorem VF {a:aM} {vs:List aI} {n:Nat} (K:FX D C X r z) (e:z.s.heap.get? a=aA {cls:=.type "tuple",data:=.seq vs.toArray n}) (q:iO X z vs xs) (t:fl=aB-> ¬ z.W a) (k:KI D C X r z fl xs Q):aO (aY D.prog D.w) X.A (zl<|.ref a) Q Er z.s:=by
 exact wpAny_pyIter_tuple ⟨_,e,rfl,_,rfl⟩ (vm K rfl (FP (.inl rfl)<|.inr ⟨⟨_,e⟩,Ee K e λO=>nofun,t⟩) (by simp only[gm,q.len]:vs.toArray.size=xs.length) (Walks.tuple K.R.1 z.s.heap.objs.size a (λq=>by simp only[q,ie<|bh _] at e;exact ay e) vs.toArray) ⟨(gd _ (fH _ rfl) rfl rfl),⟨_,gS _ e,rfl,_,rfl⟩⟩
  (λi h q=>q.1.elim λo q=>cy o _ q.1 q.2.1<|by decide) (λi v e=>HP q e) k)
theorem He {P:aM->Prop} (h:P p): ∀b∈[p],P b:=λb B=>by
 cases B with
 |head=>exact h
 |tail _ B=>exact nomatch B
theorem QBY {t:fG} (K:FX D C X r z) (k:KI D C X r z fl (nI x) Q):aO (aY D.prog D.w) X.A (zl<|.str x t) Q Er z.s:=by
 have l:x.cps.size=(nI x).length:=by simp[nI]
 have a: ∀i v,SignAt x i v-> ∃d,(nI x)[i]?=aA d/\Rz X z v d:=λi v q=>q.elim λc q=>q.elim λu q=>ax (.str ⟨#[c]⟩) (by simp[nI,q.1])<|q.2▸Rd.str _ _;cases H:x.cps.all (· <128)
 ·exact wpAny_pyIter_wide H (vm K rfl (He<|.inl rfl) l (Walks.strWide K.R.1 _ x t) (gd _ (fH _ rfl) rfl rfl) (λi h q=>q.elim λo q=>cy o _ q.1 q.2.1<|by decide) a k)
 ·exact wpAny_pyIter_ascii H (vm K rfl (He<|.inl rfl) l (Walks.strAscii K.R.1 _ x t) (gd _ (fH _ rfl) rfl rfl) (λi h q=>q.elim λo q=>cy o _ q.1 q.2.1<|by decide) a k)
theorem LB {m n:Int} (K:FX D C X r z) (q:IsRange z.s.heap g m n 1 t u v) (M: -(2^24)<m/\m<2^24/\ -(2^24)<n/\n<2^24) (k:KI D C X r z fl ((bg (n - m).toNat).map λ(i:Nat)=>cB<|m+(i:Int)) Q):aO (aY D.prog D.w) X.A (zl<|.ref g) Q Er z.s:=by
 refine wpAny_pyIter_range q (small_one (bE M.1) (bE M.2.1) (bE M.2.2.1)<|bE M.2.2.2)<|sb (by rw[rangeSize_one];split<;>lia -abstractProof:Builtin.Range.rangeSize m n 1=((n - m).toNat))<|vm (St:=λi h=>IsRangeIter h z.s.heap.objs.size (m+(i:Nat)*1) (((n - m).toNat) - (i:Nat)) 1) K rfl (He<|.inl rfl) (by simp:(n - m).toNat=((bg (n - m).toNat).map λ(i:Nat)=>cB<|m+(i:Int)).length) ((Walks.range (prog:=D.prog) (w:=D.w) K.R.1 z.s.heap.objs.size m 1 (n - m).toNat).bound) ?_ (λi h z=>(cy _ _ z rfl (by decide))) (λi v ⟨d,U,e⟩=>(ax (.int<|m+(i:Int)) (by simp[d]) ?_)) k
 ·show IsRangeIter _ _ _ _ _
  simpa using fH z.s.heap rfl
 ·simp only[e,ug]
  exact Rd.int _ _
theorem CV (K:FX D C X r z) (P:Vz D X z u v) (j:vZ r v xs) (M:fl=aB-> ∀i,v=.bor i-> ∀a,z.φ i=aA a-> ¬ z.W a) (k:KI D C X r z fl xs Q):aO (aY D.prog D.w) X.A (zl u) Q Er z.s:=by
 induction j with
 |s=>exact aV (Rd.dO P) λt g=>sb g<|QBY K k
 |q q=>
  induction q with
  |t=>exact dZ (Rd.BF P) λa H n e x Z p=>sb e<|VF K x p (λO w=>Z<|.inr w) k
  |l q=>
   induction q with
   |d=>exact dZ (Rd.lst_inv P) λa H n e x Z p=>sb e<|Oc K x p (λO w=>Z<|.inr w) k
   |bor R=>refine dT (K.F.own _ _ R) λa H n x Z p=>aS P λY m B=>sb B ?_;clear R P B;obtain rfl:=bM x m;exact Oc K Z p (λf=>M f _ rfl a x) k
theorem j_ (h:aZ D C x e):iC D C fl x (I.jU e):=λg=>λK k=>(h g).run K λv l g u z R s q=>by
 induction ja g with
 |mk e g=>subst e;induction g with|mk n g=>exact CV R q n (λO O=>nofun)<|(k _ _ g).tr s
set_option tactic.hygienic true in
theorem Ya (o:hZ C nm i):iC D C fl (.Name nm pos) (.aC i):= @λl r g=>λK k=>by
 delta I.aC at g;generalize e:aL l i=y at g;cases y with
 |val x=>
  induction (g) with
  |mk n g=>refine (si (K:=λv L=>v=.d x/\L=l) o (by dsimp only[kV];erw[e];exact ⟨rfl,rfl⟩:iB (kV (aL l) i) _ False)).run K ?_;clear o K e;intro _ _ H u z R s Q;obtain ⟨rfl,rfl⟩:=H;exact CV R Q n (λO O=>nofun)<|(k _ _ g).tr s
 |own A=>have h:=g;refine (si (K:=λv L=>v=.bor i/\L=l) o (by dsimp only[kV];erw[e];exact ⟨rfl,rfl⟩:iB (kV (aL l) i) _ False)).run K ?_;clear o K;intro _ _ H u z R s Q;obtain ⟨rfl,rfl⟩:=H;exact CV R Q (.q<|.l<|.bor e) (λf=>by rw[h.1] at f;exact bq f)<|(k _ _ h.2).tr s
 |_=>exact mG g
theorem J0 [H:cz D] (m:C.K "range" =aA .globalImplicit) (P:Pl xs) (K:FX D C X r z) (h:aO (aY D.prog D.w) X.A (sM<|mM pos<|fI xs X.env) (λus n=>aO (aY D.prog D.w) X.A (call (.type "range") us) Q Er n) Er z.s):
 aO (aY D.prog D.w) X.A (b7 (.Call (.Name "range" p) xs [] pos) X.env) Q Er z.s:=
 qp (x4 K m (by decide+kernel) (by lia)<|wo (P X.env pos)<|gK (P X.env pos) h)
theorem J_ [H:cz D] (c:C.K "range" =aA .globalImplicit) (P:Pl [x]) (hs:fh D C [x] [a]):iC D C fl (.Call (.Name "range" p) [x] [] pos) (.i3 a):=λe=>λ{X z Q Er} K k=>J0 c P K (kX (hs e) K λd l f Z h R U o=>by
 obtain ⟨n,rfl,A,N,h⟩:=h;refine bc o.hU λu f B q i=>sb B ?_;cases i.kJ;refine aV (Rd.dk q) λt g=>sb g<|wpAny_toks<|call_range_1 λv=>?_;have Y:=Kl.push (L:=X.env.locals) (h:=Z.s.heap) {cls:=.type "range",data:=.fields #[.int 0 Z.s.toks,.int n t,.int 1<|Z.s.toks+1]};refine LB (fl:=fl) (m:=0) (n:=n) (R.kl Y v) (fH _ rfl) (kq (by decide) (by decide) N A) ?_;simp only[Int.sub_zero,zo]
 exact ((k _ _ h).tr U).tr<|.kl R Y v)
theorem QBc [H:cz D] (c:C.K "range" =aA .globalImplicit) (P:Pl [x,y]) (hs:fh D C [x,y] [a,b]):iC D C fl (.Call (.Name "range" p) [x,y] [] pos) (.rO a b):=λe=>λ{X z Q Er} K k=>J0 c P K (kX (hs e) K λds l j Z h R v o=>by
 obtain ⟨m,n,rfl,A,N,W,r,h⟩:=h;refine bc o.hU λu j B q i=>sb B<|bc i.hU λu' U B f F=>sb B ?_;cases F.kJ;refine aV (Rd.dk q) λd g=>sb g<|aV (Rd.dk f) λt g=>sb g<|wpAny_toks<|call_range_2 λM=>?_;have Y:=Kl.push (L:=X.env.locals) (h:=Z.s.heap) {cls:=.type "range",data:=.fields #[.int m d,.int n t,.int 1 Z.s.toks]}
 exact LB (m:=m) (n:=n) (R.kl Y M) (fH _ rfl) (kq r W N A)<|((k _ _ h).tr v).tr<|.kl R Y M)
end
noncomputable def wL (xs:List aP) (env:cg):ba Bool:=forIn xs aB λc r=>if r=aB then do let o<-zi c env (b7 c env);pure (oz o) else pure (oz r)
noncomputable def oT (D:Wd) (C:Fc) (xs:List aP) (ts:List T):Prop:= ∀{l K},aW ts D.o l K-> ∀{X:Fx} {z:Zs} {Q:Bool->aN->Prop} {Er:aI->aN->Prop},FX D C X (aL l) z->KT D C X z K Q->aO (aY D.prog D.w) X.A (wL xs X.env) Q Er z.s
section
variable {D:Wd} {C:Fc} {x y w:aP} {a b c:E} {t:T} {ts:List T} {r r₁ r₂ r₃:bQ} {v v₁ v₂:V} {pos:bP} {X:Fx} {z z' z'':Zs} {Q:aI->aN->Prop} {Er:aI->aN->Prop} {d:aK} {fl:Bool} {xs:List aK}
theorem RZ:oT D C [] []:=λe=>λK k=>by
 unfold wL
 simp! only[zj]
 exact bA<|k _ _ e _ K .refl
theorem UR {xs:List aP} (a:eT D C x t) (hb:oT D C xs ts):oT D C (x::xs) (t::ts):=λe=>λK k=>by
 unfold wL;rw[ud]
 skip
 exact aR (aR ((a e).run K λb O g z R s=>bA (by
  rcases g with ⟨rfl,g⟩|⟨rfl,g⟩
  ·exact hb g R λO O g=>(k _ _ g).tr s
  ·exact QBn (k _ _ g _ R s) xs)))
theorem FX.turn {J:aM} (K:FX D C X r z) (H:X.Ob J) (nf:jT C X.env z.φ J) (k: ∀a o,z.s.heap.get? a=aA o->a≠J->h'.get? a=aA o) (j: ∃o,h'.get? J=aA o) (l:z.s.toks<=tk):
 FX D C X r (z.to h' tk)/\Mon (Ex X.Ob z.W) z.s.heap (Ex X.Ob z.W) h':=by
 refine bI (K.F.move (Ob₂:=X.Ob) (Z:=λa=>a=J) (h':=h') (λa q=>q▸H) (λa q=>q▸nf) k (λa q=>⟨.inl q,by
  by_cases e:a=J
  ·exact e▸j
  ·exact aV (K.F.dg a<|.inl q) λo w=>⟨o,k a o w e⟩⟩)) λF m=>?_
 exact ⟨⟨F,K.R,az K.t l⟩,m⟩
theorem FX.drop {J:aM} (K:FX D C (X.add J) r z) (nJ: ¬ Ex X.Ob z.W J) (nf:jT C X.env z.φ J) (k: ∀a o,z.s.heap.get? a=aA o->a≠J->h'.get? a=aA o) (l:z.s.toks<=tk):
 FX D C X r (z.to h' tk)/\Mon (Ex (X.add J).Ob z.W) z.s.heap (Ex X.Ob z.W) h':=by
 refine bI (K.F.move (λa q=>.inr q) (λa q=>q▸nf) k λa q=>⟨.inl<|.inl q,by exact aV (K.F.dg a<|.inl<|.inl q) λo w=>⟨o,k a o w λe=>nJ<|.inl<|e▸q⟩⟩) λF m=>?_;exact ⟨⟨F,K.R,az K.t l⟩,m⟩
set_option tactic.hygienic true in
theorem Mh {I:aM} {T:String} {Q:Unit->aN->Prop} (e:s.heap.get? I=aA o) (c:o.cls=.type T) (t:vy.contains T=aE) (h:Q () s):aO M A (Px x (.ref I) u) Q Er s:=by
 have K:aO M A (Px (.Tuple [] 0 default) (.ref I) u) Q Er s:=by
  induction u with
  |ref a=>
   refine aR<|wpAny_load e ?_;erw[c];generalize o.data=d;induction d with
   |fields v=>refine (?_:aO M A (if (vy.contains T && v[0]?==aA (o5 a))=aB then _ else pure ()) Q Er s);exact sb t<|wpAny_pure h
   |_=>exact bA h
  |_=>exact bA h
 exact x.casesOn (λO O O=>bA h) (λO O O=>bA h) (λO O O O=>bA h) (λO O O=>bA h) (λO O O O=>bA h) (λO O O O=>bA h) (λO O O=>bA h) (λO O O=>bA h) (λO O O O=>bA h) (λO O O O=>bA h) (λO O O O O=>bA h) (λO O O O=>bA h) (λO O=>bA h) (λO O=>bA h) (λO O=>bA h) (λO O O O=>bA h) (λO O O O=>bA h) (λO O O O=>bA h) (λO O=>bA h) (λO O O=>bA h) (λO O O=>bA h) (λO O O=>bA h) (λO O=>bA h) (λO O=>bA h) (λO O=>K) (λO O O=>K) λO O O O=>bA h
theorem QCS {w:bz} (I:Nat->aN->Prop)
 (turn: ∀n s,I n s-> ∀Er,aO (aY prog w) A (pyNext it) (λr s=>match r with
  |none=>R (.ok .next) s
  |some v=>aO (aY prog w) A (Px target it v) (λO s=>aO (aY prog w) A (mR target env v) (λO s=>aO (aY prog w) A (wL ifs env) (λf s=>if f=aB then aO (aY prog w) A (b7 elt env) (λx s=>aO (aY prog w) A (call (.builtin "list.append") [u,x]) (λO s=> ∃m,m<n/\I m s) Er s) Er s else∃m,m<n/\I m s) Er s) Er s) Er s) Er s)
 (n:Nat) (h:I n s):uh (aY prog w) A (.compLoop (.ListComp elt [⟨target,iter,ifs,0⟩] scope pos) 0 it u env) R s:=by
 refine codeAny_loop rfl I (λn s i=>?_) n h;refine (?_:aO _ A ((compTurn (.ListComp elt [⟨target,iter,ifs,0⟩] scope pos) 0 it u env).onRaise (λx=>do noteFrame x env;theTreesLotGoes x)) _ _ s);refine wpAny_noted ?_;rw[compTurn_list];refine aR<|iJ<|aR<|eY (turn n s i _) (λr s h=>?_) λO O h=>h;cases r with
 |none=>exact bA h
 |some v=>
  refine aR<|eY h (λO s h=>aR<|eY h (λO s h=>aR<|eY h (λf s h=>?_) λO O h=>h) λO O h=>h) λO O h=>h;cases f with
  |false=>exact bA ⟨rfl,h⟩
  |true=>exact aR<|aR<|eY h (λx s h=>aR<|eY h (λO s h=>bA<|bA ⟨rfl,h⟩) λO O h=>h) λO O h=>h
theorem QAT {w:bz} {J:aM} {St:Nat->bK->Prop}
 (z:sQ prog w A J fp [J] n P St) (I:Nat->aN->Prop) (C: ∀j s,I j s->St j s.heap) (N: ∀i h,St i h-> ∃o T,h.get? J=aA o/\o.cls=.type T/\vy.contains T=aE) (h0:I 0 s)
 (d: ∀s h' tk,I n s->(∀a o,s.heap.get? a=aA o->a≠J->h'.get? a=aA o)->s.toks<=tk->R (.ok .next) {s with heap:=h',toks:=tk})
 (turn: ∀j s h' tk v,j<n->I j s->P j v->St (j+1) h'->(∀a o,s.heap.get? a=aA o->a≠J->h'.get? a=aA o)->s.toks<=tk-> ∀Er,aO (aY prog w) A (mR target env v) (λO W=>aO (aY prog w) A (wL ifs env) (λf Q=>if f=aB then aO (aY prog w) A (b7 elt env) (λx c=>aO (aY prog w) A (call (.builtin "list.append") [u,x]) (λO g=>I (j+1) g) Er c) Er Q else I (j+1) Q) Er W) Er {s with heap:=h',toks:=tk}):
 uh (aY prog w) A (.compStart (.ListComp elt [⟨target,iter,ifs,0⟩] scope pos) 0 (.ref J) u env) R s:=by
 have nx: ∀{m j:Nat},m=n+1 - j->j<n->n+1 - (j+1)<m:=λe h=>e▸Nat.sub_lt_sub_left (sP h) (uc _)
 have core:uh (aY prog w) A (.compLoop (.ListComp elt [⟨target,iter,ifs,0⟩] scope pos) 0 (.ref J) u env) R s:=by
  refine QCS (λm U=> ∃j,j<=n/\m=n+1 - j/\I j U) ?_ (n+1)<|gd 0 (hJ _) rfl h0;intro m U B Er;refine dA B λj K M F=>?_;by_cases L:j<n
  ·refine wpAny_toks (z.item j _ _ _ L (C j U F) λv h' tk hP st k l=>?_)
   refine bc (N _ _ st) λob T p g q=>Mh p g q (eY (turn j U h' tk v L F hP st (λa o e q=>k a o (by simpa -iota using q) e) l _) (λO W i=>eY i (λf Q H=>?_) λO O x=>x) λO O x=>x);induction f with
   |false=>exact ⟨_,nx M L,j+1,L,rfl,H⟩
   |true=>exact eY H (λx c t=>eY t (λO g b=>⟨_,nx M L,j+1,L,rfl,b⟩) λO O x=>x) λO O x=>x
  ·cases jk K (iH.mp L)
   exact wpAny_toks (z.done _ _ _ (C _ U F) λh' tk k l=>d U h' tk F (λa o e q=>k a o (by simpa -iota using q) e) l)
 exact codeAny_compStart_list core<|z.self 0 _ _ _ (C _ _ h0) core
section
variable {elt target iter:aP} {ifs:List aP} {scope:jQ} {cpos:bP}
noncomputable def tj (D:Wd) (X:Fx) (z:Zs) (d:aM):aM->Prop:=λa=>(Ex X.Ob z.W a\/a=d)/\ ¬ D.P.PF a
noncomputable def fT (z:Zs):Heap:=z.s.heap.push<|listOf ([]:List aI).toArray 0
noncomputable def HQ (scope:jQ) (z:Zs):Heap:=kE ((fT z).push {cls:=.type "dict",data:=.dict #[]}) scope.names
noncomputable def zC (D:Wd) (scope:jQ) (z:Zs):Zs:={s:={z.s with heap:=HQ scope z},W:=λa=>D.P.PF a\/((fT z).get? a=aF/\ ∃o,(HQ scope z).get? a=aA o),φ:=z.φ}
theorem MG {x:aG} (h:(C.sub scope.names aB aE hb).cM x=aA i):(∃k,scope.names.lookup x=aA k/\j9 k=aB/\(x==oX)=aE/\i=C.bd+scope.names.findIdx (·.1==x))\/(scope.names.lookup x=aA .free/\C.cM x=aA i):=by
 have h':(match scope.names.lookup x with
  |some k=>if j9 k then (if x==oX then aF else aA (C.bd+scope.names.findIdx (·.1==x))) else if k==.free then C.cM x else aF
  |none=>aF)=aA i:=h
 induction e:scope.names.lookup x with
 |none=>rw[e] at h';exact ay h'
 |some k=>
  rw[e] at h';dsimp only at h';by_cases K:j9 k=aB
  ·rw[if_pos K] at h'
   by_cases hd:(x==oX)=aB
   ·exact cb (QHd hd) h'
   ·obtain rfl:=bM (QHc hd) h'
    exact .inl<|kM k rfl K (QEo _▸hd) rfl
  ·rw[if_neg K] at h'
   by_cases hf:(k==o3)=aB
   ·rw[if_pos hf] at h'
    exact .inr ⟨by exact sb (QHe.mp hf) rfl,h'⟩
   ·exact cb (QHc hf) h'
theorem uy (c:m6 C scope tt target iter):(i∈jz tt->fm tt (jZ r) i=.unb)/\(i∉jz tt->fm tt (jZ r) i=jZ r i):=by rw[vW,xT];exact ⟨λh=>QHd h,λh=>QHc h⟩
theorem Z7 (h:jZ r i=.own ys):r i=.own ys:=by
 unfold jZ at h
 split at h
 ·exact nomatch h
 ·cases e:r i<;>rw[e] at h<;>cases h;rfl
theorem da.QDr {φ cl Y Y' h h'} {v:Option aI} {sl:Sl} (q:da P φ cl Y h i v sl) (k: ∀a o,h.get? a=aA o->h'.get? a=aA o) (m:Mon Y h Y' h') {c:List (aG×aM)}:da P φ c Y' h' i v (wO sl):=by
 induction sl with
 |eC n=>exact iT q λa z x C l p=>(jj a z x (m _ _ C l).1 (m _ _ C l).2 p)
 |clo f=>trivial
 |unb=>trivial
 |val d=>exact aS q λu e z=>(ax u e<|z.mon m)
 |own R=>exact q
 |ali j=>exact q
 |inst=>exact bc q λy a x C z=>(cy y a x C<|P.kS z m)
 |emp=>exact dA q λa x Z g=>(ax a x<|m _ _ Z g)
theorem YE {env₀:cg} (f:m6 C scope tt target iter) (l: ∀x∈scope.names,x.2=.free->(X.env.cells.lookup x.1).isSome=aB) (K:FX D C X r z)
 (L:env₀=H2 scope (fT z).objs.size X.env.globals (jP ((fT z).objs.size+1) scope.names<|clOf X.env.cells scope.names []) X.env.qual aF .none (aA X.env) X.env.builtins):
 FX D (C.sub scope.names aB aE hb) {A:=X.A,env:={env₀ with scope:=relabel scope X.env},Ob:=tj D X z z.s.heap.objs.size} (fm tt<|jZ r) (zC D scope z):=by
 have N:=(yS scope.names [] l λy c q=>by exact ay q).1;have Z:=(yS scope.names [] l λy c q=>by exact ay q).2;have nD:z.s.heap.get? z.s.heap.objs.size=none:=ie<|bh _;have d: ∀b o,z.s.heap.get? b=aA o->(fT z).get? b=aA o:=λb o e=>gS _ e
 have M:Mon (Ex X.Ob z.W) z.s.heap (Ex (tj D X z z.s.heap.objs.size) D.P.PF) (fT z):=λa o e n=>⟨d a o e,λq=>by
  rcases q with ⟨q|q,_⟩|q
  ·exact n q
  ·simp! only[q,nD] at e
   exact ay e
  ·exact n<|.inr<|K.F.pf a q⟩
 have hz:aT∉jz tt:=λq=>QHb (f.y8 aT q).2 (by decide);have hw:bR∉jz tt:=λq=>QHb (f.y8 bR q).2 (by decide)
 have U: ∀{x:aG} {i:Nat} {k:dQ},scope.names.lookup x=aA k->j9 k=aB->(C.sub scope.names aB aE hb).cM x=aA i->fm tt (jZ r) i=.unb:=λ{x i k} e1 e2 e3=>by
  refine (uy f).1 ?_;rcases MG e3 with ⟨k',q1,q2,Y,rfl⟩|⟨q,_⟩
  ·exact f.tid _ (mem_of_lookup q1) q2 Y
  ·obtain rfl:=bM e1 q
   exact bq e2
 have Q: ∀{i:Nat} {ys:List aK},fm tt (jZ r) i=.own ys->r i=.own ys:=λ{i ys} q=>by
  by_cases m:i∈jz tt
  ·rw[(uy f).1 m] at q
   exact nomatch q
  ·exact Z7<|(uy f).2 m▸q
 have fr: ∀{x:aG} {i:Nat},scope.names.lookup x=aA .free->(C.sub scope.names aB aE hb).cM x=aA i-> ∃c v,(clOf X.env.cells scope.names []).lookup x=aA c/\(fT z).IsCell c v/\da D.P z.φ ({env₀ with scope:=relabel scope X.env}).cells (Ex (tj D X z z.s.heap.objs.size) D.P.PF) (fT z) i v (fm tt (jZ r) i):=λ{x i} q b=>by
  rcases MG b with ⟨k',q1,q2,_⟩|⟨_,B⟩
  ·obtain rfl:=bM q q1
   exact bq q2
  ·refine aV (mQ.mp<|(Z x).mp<|.inl<|mem_of_lookup q) λc q1=>bI (f.free _ (mem_of_lookup q) rfl) λh g=>bc (K.F.hG x i g B) λc' v Y q5 q6=>?_
   rw[N x c q1] at Y;cases Y;refine (cy c v q1 (q5.keeps d) ?_);have lt:=C.q8 x i B;have nt:i∉jz tt:=λq=>mK _ (mJ lt (f.y8 i q).1)
   simp! only[(uy f).2 nt,show jZ r i=wO (r i) from QHc (C.nM B).1]
   exact q6.QDr d M
 refine ⟨ED f.nd (by erw[L];rfl:env₀.locals=(fT z).objs.size) (by erw[L];rfl:env₀.cells=jP ((fT z).objs.size+1) scope.names (clOf X.env.cells scope.names [])) f.kind (λx=>Tu K.F.hk K.F.hK scope.names x) (by show env₀.globals=_;erw[L];exact K.F.hg) (by show env₀.builtins=_;erw[L];exact K.F.hb) nofun
  (λx i a b=>?_) (λx i a b=>?_) (λx a b=>?_) (λx c q=>?_) (λx y c q u=>K.F.oY x y c (N x c q)<|N y c u) (λb o e=>d b o<|K.F.base b o e) (λb o e q=>?_) (λi xs q=>?_) nofun (λxs q u a=>?_) (λxs q1 q2 a Y q4=>?_) (λq=>K.F.lD λxs hx=>q xs ?_)
  K.F.inj (λi a q=>let ⟨o,w⟩:=K.F.jv i a q;⟨o,d _ _ w⟩) (λa q=>?_) (λa q u=>u.2 q) (D.P.iM K.F.inv M λa p=>by refine cT (D.P.iN K.F.inv p) λo vs e O=>?_;erw[e];exact d a o e) (λa p=>p),K.R,K.t⟩
 ·rcases oP a with q|q
  ·exact U q rfl b
  ·cases q.1
 ·rcases a with a|a
  ·rcases oP a with q|q
   ·exact .inl ⟨q,U q rfl b⟩
   ·exact .inr ⟨q.2.1,fr q.2.1 b⟩
  ·rcases oP a with q|q
   ·exact .inr ⟨q,fr q b⟩
   ·cases q.1
 ·have B:(match scope.names.lookup x with|some k=>j9 k|none=>aE)=true:=b
  rcases oP a with q|q
  ·exact q
  ·rw[q.2.1] at B
   exact bq B
 ·have u:=N x c q
  refine bI (f.free _ (((Z x).mpr (by erw[q];rfl)).resolve_right nofun) rfl) λh g=>?_;refine aV (mQ.mp h) λi h=>bc (K.F.hG x i g h) λc' v q1 H O=>aS H λo w O=>?_;rw[u] at q1;clear H;cases q1;exact ⟨o,d _ _ w⟩
 ·rcases q with ⟨q|q,_⟩|q
  ·exact K.F.fO b o e q
  ·rw[q] at e
   rw[K.F.base _ _ e] at nD;exact qU nD
  ·exact K.F.fO b o e<|.inr<|K.F.pf b q
 ·exact dT (K.F.own i xs<|Q q) λa vs n e1 e2 e3=>(ly a vs n e1 (d _ _ e2)<|e3.mon M)
 ·simp! only[(uy f).2 hw,show jZ r bR=.unb from QHd rfl] at u
  exact nomatch u
 ·refine dT (K.F.own aT xs<|Q q1) λa' vs n e1 e2 O=>?_
  obtain rfl:=bM (Y:z.φ aT=aA a) e1;refine cT (D.P.iN K.F.inv q4) λo aa j d4=>?_;obtain rfl:=bM e2 j;clear e2;exact nomatch d4
 ·simp! only[(uy f).2 hz,show jZ r aT=wO (r aT) from QHc (by decide),hx]
  rfl
 ·rcases q with ⟨q|q,_⟩|q
  ·exact aV (K.F.dg a q) λo w=>⟨o,d _ _ w⟩
  ·exact sb q<|⟨_,Heap.get?_push_size _ rfl⟩
  ·exact cT (D.P.iN K.F.inv q) λo aa j O=>⟨o,d _ _ j⟩
structure CB (D:Wd) (Y X':Fx) (J:aM) (z2:Zs) (St:Nat->bK->Prop) (j:Nat) (ys:List aK) (z:Zs):Prop where
 st:St j z.s.heap
 mon:Mon (Ex Y.Ob z2.W) z2.s.heap (Ex X'.Ob z.W) z.s.heap
 keep: ∀a o,z2.s.heap.get? a=aA o->a≠J-> ¬ D.P.PF a->z.s.heap.get? a=aA o
 acc: ∃vs n,z.s.heap.get? z2.s.heap.objs.size=aA (listOf vs.toArray n)/\bB (Ex X'.Ob z.W) z.s.heap vs ys
 t:z2.s.toks<=z.s.toks
 f:z.φ=z2.φ
 e:z.s={z2.s with heap:=z.s.heap,toks:=z.s.toks,drawn:=z.s.drawn}
section
variable {St:Nat->bK->Prop} {j n:Nat} {ys:List aK} {C':Fc} {r':bQ}
theorem CB.nw (B:CB D Y X' J z2 St j ys z) (K:FX D C' X' r z) (Z:X'.Ob=tj D Y z2 z2.s.heap.objs.size): ∀a o,z2.s.heap.get? a=aA o-> ¬ D.P.PF a-> ¬ z.W a:=λa o e n w=>by
 by_cases q:Ex Y.Ob z2.W a
 ·exact K.F.dR a w (by simp! only[Z];exact ⟨.inl q,n⟩)
 ·exact (B.mon a o e q).2<|.inr w
theorem CB.sx (B:CB D Y X' J z2 St j ys z) (K:FX D C' X' r z) (s:Sx z z') (Z:X'.Ob=tj D Y z2 z2.s.heap.objs.size) (W:sQ D.prog D.w X.A J fp [J] n P St) (nv: ∀b∈fp,(∃o,z2.s.heap.get? b=aA o)/\ ¬ D.P.PF b) (hd:X'.Ob z2.s.heap.objs.size):CB D Y X' J z2 St j ys z':=by refine cT B.acc λv n x C=>?_;have u:=B.nw K Z;exact ⟨W.frame _ _ _ B.st λb h o e=>s.st.keep b o e (let ⟨⟨H,q⟩,N⟩:=nv b h;u b H q N),B.mon.trans s.mon,λa o e q N=>s.st.keep a o (B.keep a o e q N)<|u a o e N,(et v n (s.st.keep _ _ x λw=>K.F.dR _ w hd)<|C.mon s.mon),az B.t s.t,s.f.trans B.f,by (erw[s.e];exact sb B.e rfl)⟩
theorem MH (A:m6 C scope tt target iter) (K:FX D (C.sub scope.names aB aE hb) X' r z) (l:X'.env.cells=jP m scope.names cl) (xJ:X'.Ob J) (p: ∀i,z.φ i≠aA J) (Y: ∀x c,cl.lookup x=aA c->c≠J):jT (C.sub scope.names aB aE hb) X'.env z.φ J:=by
 refine ⟨p,λq=>K.F.dR _ K.F.lL<|q▸xJ,λx i c a b q e=>?_⟩;have f:scope.names.lookup x=aA .free->False:=λw=>by rw[l,(BE scope.names m _ x).1 λz=>by cases bM (Ad A.nd z) w] at q;exact Y x c q e
 have o:(C.sub scope.names aB aE hb).K x=aA .cell->scope.names.lookup x=aA .cell->False:=λw W=>by
  have:(C.sub scope.names aB aE hb).rZ x=true:=by show (match scope.names.lookup x with|some k=>j9 k|none=>aE)=aB;erw[W];rfl
  exact K.F.dR _ (K.F.qQ x i c w this b q)<|e▸xJ
 refine cp (a) (λa=>?_) λa=>?_
 ·refine cp (oP a) (λw=>?_) λw=>?_
  ·exact o a w
  ·exact f w.2.1
 ·refine cp (oP a) (λw=>?_) λw=>?_
  ·exact f w
  ·cases w.1
theorem Kf (c:m6 C scope tt target iter) (b:oB tt d (fm tt r)=aA N) (K:FX D C' X' N z):FX D C' X' (fm tt r) z:=by
 have e:fm tt N=fm tt r:=by
  erw[QCi b];funext j;rw[vW,vW,xT,xT];by_cases q:j∈jz tt
  ·exact sb (QHd q)<|sb (if_pos q) rfl
  ·exact sb (QHc q) rfl
 have:=K.F.QDi (jz tt) λi h=>⟨λq=>QHb (c.y8 i h).2 (q▸by decide),λq=>QHb (c.y8 i h).2<|q▸by decide⟩;rw[<-vW,e] at this;exact ⟨this,K.R,K.t⟩
theorem CB.app {y:aK} {vs:List aI} (B:CB D Y X' J z2 St j ys z) (K:FX D C' X' r z) (g:sQ D.prog D.w X.A J fp [J] n P St) (nv: ∀b∈fp,(∃o,z2.s.heap.get? b=aA o)/\ ¬ D.P.PF b) (m:Mon (Ex X'.Ob z.W) z.s.heap (Ex X'.Ob z.W) h')
 (e1:bB (Ex X'.Ob z.W) z.s.heap vs ys) (q:Rz X' z u y) (k: ∀a o,z.s.heap.get? a=aA o->a≠z2.s.heap.objs.size->h'.get? a=aA o) (e:h'.get? z2.s.heap.objs.size=aA (listOf (vs++[u]).toArray n')):CB D Y X' J z2 St j (ys++[y]) (z.to h' z.s.toks):=by
 have N: ∀a o,z2.s.heap.get? a=aA o->a≠z2.s.heap.objs.size:=λa o e q=>by rw[q,ie<|bh _] at e;exact ay e
 exact ⟨g.frame _ _ _ B.st λb h o e=>k b o e (let ⟨⟨H,q⟩,_⟩:=nv b h;N b H q),B.mon.trans m,λa o e q Z=>k a o (B.keep a o e q Z)<|N a o e,(et _ _ e<|(e1.mon m).app<|bB.cons (Rd.mon q m) bB.nil),B.t,B.f,by
  show {z.s with heap:=h',toks:=z.s.toks}=_;erw[B.e]
  rfl⟩
noncomputable def CI (D:Wd) (C':Fc) (Y x:Fx) (J:aM) (g:Zs) (St:Nat->bK->Prop) (e:E) (tt:cS) (c:List T) (xs:List aK) (l:Ls) (r:bQ) (K:List aK->Prop) (j:Nat) (s:aN):Prop:= ∃z p,s=z.s/\FX D C' x r z/\CB D Y x J g St j p z/\cW e tt c D.o l (xs.drop j) (λZ=>K<|p++Z)/\p.length<=j
structure Cx (D:Wd) (C:Fc) (X X':Fx) (r:bQ) (z z2:Zs) (scope:jQ) (xs:List aK) (J:aM) (fp:List aM) (P:Nat->aI->Prop) (St:Nat->bK->Prop):Prop where
 i:It D C X r z z2 aE xs J fp P St
 ho:X'.Ob=tj D (X.add J) z2 z2.s.heap.objs.size
 ec:X'.env.cells=jP ((fT z2).objs.size+1) scope.names (clOf X.env.cells scope.names [])
 el:X'.env.locals=(fT z2).objs.size
 hA:X'.A=X.A
 cin: ∀x c,(clOf X.env.cells scope.names []).lookup x=aA c->(∃o,z2.s.heap.get? c=aA o)/\c≠J
 aJ: ∃o,z2.s.heap.get? J=aA o
theorem nD (z:Zs):z.s.heap.get? z.s.heap.objs.size=none:=ie<|bh _
section
theorem Cx.NZ (c:Cx D C X X' r z z2 scope xs J fp P St): ¬ D.P.PF J:=λp=>c.i.nJ<|.inr<|c.i.F.F.pf J p
theorem Cx.QCc (c:Cx D C X X' r z z2 scope xs J fp P St): ¬ D.P.PF z2.s.heap.objs.size:=λp=>cT (D.P.iN c.i.F.F.inv p) λo v e O=>cb (nD z2) e
theorem Cx.xJ (c:Cx D C X X' r z z2 scope xs J fp P St):X'.Ob J:=by rw[c.ho];exact ⟨.inl<|.inl<|.inr rfl,c.NZ⟩
theorem Cx.xD (c:Cx D C X X' r z z2 scope xs J fp P St):X'.Ob z2.s.heap.objs.size:=by rw[c.ho];exact ⟨.inr rfl,c.QCc⟩
theorem Cx.nv (c:Cx D C X X' r z z2 scope xs J fp P St): ∀b∈fp,(∃o,z2.s.heap.get? b=aA o)/\ ¬ D.P.PF b:=λb B=>⟨c.i.nv b B,c.i.Nu b B⟩
theorem Cx.nJ (c:Cx D C X X' r z z2 scope xs J fp P St):z2.s.heap.objs.size≠J:=λq=>c.aJ.elim λo e=>by rw[<-q,nD] at e;exact ay e
theorem Cx.wk (c:Cx D C X X' r z z2 scope xs J fp P St):sQ D.prog D.w X'.A J fp [J] xs.length P St:=by rw[c.hA];exact c.i.walk
theorem Cx.b0 (c:Cx D C X X' r z z2 scope xs J fp P St):CB D (X.add J) X' J z2 St 0 [] (zC D scope z2):=by
 have d: ∀b o,z2.s.heap.get? b=aA o->(fT z2).get? b=aA o:=λb o e=>gS _ e;have K: ∀b o,(fT z2).get? b=aA o->(HQ scope z2).get? b=aA o:=FW scope.names (fT z2) _;refine ⟨c.i.walk.frame 0 _ _ c.i.st λb B o e=>K b o<|d b o e,λa o e n=>⟨K _ _<|d _ _ e,λq=>?_⟩,λa o e O O=>K _ _<|d _ _ e,et [] 0 (K _ _<|fH _ rfl) bB.nil,bh _,rfl,rfl⟩;rw[Ex,c.ho] at q;rcases q with ⟨q|q,_⟩|q|q
 ·exact n q
 ·rw[q,nD] at e
  exact ay e
 ·exact n<|.inr<|c.i.F.F.pf a q
 ·exact cb q.1<|d _ _ e
theorem Cx.step (c:Cx D C X X' r z z2 scope xs J fp P St) {r' za zb} (K:FX D C' X' r' za) (B:CB D (X.add J) X' J z2 St j ys za) (s:Sx za zb):CB D (X.add J) X' J z2 St j ys zb:=B.sx K s c.ho c.wk c.nv c.xD
end
section
theorem QBy (t:m6 C scope tt target iter) (c:Cx D C X X' r z z2 scope xs J fp P St) {y:aK} {w:aI} (hsz:xs.length<=16777216) (l:j<xs.length) (U:ys.length<=j) (b:oB tt d (fm tt rr)=aA R)
 (K:FX D (C.sub scope.names aB aE hb) X' R Z) (B:CB D (X.add J) X' J z2 St (j+1) ys Z) (q:Rz X' Z w y) (e:cW ee tt conds D.o l0 (xs.drop<|j+1) λzs=>Kc<|ys++[y]++zs):
 aO (aY D.prog D.w) X'.A (call (.builtin "list.append") [.ref z2.s.heap.objs.size,w]) (λO g=>CI D (C.sub scope.names aB aE hb) (X.add J) X' J z2 St ee tt conds xs l0 (fm tt rr) Kc (j+1) g) Er Z.s:=by
 refine cT B.acc λm n u p=>wpAny_toks (QEt (hsz:=by simp! only[gm,p.len,jB];exact bD (na hsz l) U) ⟨n,u⟩ λh pl sb N=>?_);refine aV pl λn7 M=>?_;have v:h.get? z2.s.heap.objs.size=aA (listOf (m++[w]).toArray n7):=by rw[M];simp -iota [zh]
 have L: ∀a o,Z.s.heap.get? a=aA o->a≠z2.s.heap.objs.size->h.get? a=aA o:=λa o e q=>(sb.2 a q).trans e;have H:=K.turn c.xD (MH t K c.ec c.xD (λY q=>aV (c.i.F.F.jv Y _<|B.f▸q) λo w=>cb (nD z2) w) λx a q Q=>aV (c.cin x a q).1 λo w=>cb (nD z2)<|Q▸w) L ⟨_,v⟩<|bh _;exact va _ (ys++[y]) rfl (Kf t b H.1) (B.app K c.wk c.nv H.2 p q L v) e (by rw[du];exact H7 U)
theorem Xc (hC:m6 C scope tt target iter) (hT:nE D (C.sub scope.names aB aE hb) target tt) (hA:oT D (C.sub scope.names aB aE hb) ifs conds) (hE:aZ D (C.sub scope.names aB aE hb) elt ee) (c:Cx D C X X' r z z2 scope xs J fp P St)
 (hL:aL l0=fm tt rr) (hsz:xs.length<=16777216) (L:j<xs.length) (H:CI D (C.sub scope.names aB aE hb) (X.add J) X' J z2 St ee tt conds xs l0 (fm tt rr) Kc j s) (hP:P j u) (R:St (j+1) h') (Z: ∀a o,s.heap.get? a=aA o->a≠J->h'.get? a=aA o) (l:s.toks<=tk) (Er:aI->aN->Prop):
 aO (aY D.prog D.w) X'.A (mR target X'.env u) (λO W=>aO (aY D.prog D.w) X'.A (wL ifs X'.env) (λok Q=>if ok=aB then aO (aY D.prog D.w) X'.A (b7 elt X'.env) (λx K=>aO (aY D.prog D.w) X'.A (call (.builtin "list.append") [.ref z2.s.heap.objs.size,x]) (λO M=>CI D (C.sub scope.names aB aE hb) (X.add J) X' J z2 St ee tt conds xs l0 (fm tt rr) Kc (j+1) M) Er K) Er Q else CI D (C.sub scope.names aB aE hb) (X.add J) X' J z2 St ee tt conds xs l0 (fm tt rr) Kc (j+1) Q) Er W) Er {s with heap:=h',toks:=tk}:=by
 refine oh H λz' Y es Kz B cj lj=>?_;clear H;subst es;refine aS (c.i.items j u hP) λd hd rd=>cT (c.i.alive _ _ R) λo1 O F O=>?_;have h:=Kz.turn c.xJ (MH hC Kz c.ec c.xJ (λi' q=>c.i.nf.p i'<|B.f▸q) λx a q=>(c.cin x a q).2) Z ⟨o1,F⟩ l
 have B1:CB D (X.add J) X' J z2 St (j+1) Y (z'.to h' tk):=cT B.acc λvs n e1 e3=>⟨R,B.mon.trans h.2,λa o e q np=>Z a o (B.keep a o e q np) q,et vs n (Z _ _ e1 c.nJ)<|e3.mon h.2,az B.t l,B.f,by
  show {z'.s with heap:=h',toks:=tk}=_;rw[B.e]
  rfl⟩
 have U:Rz X' (z'.to h' tk) u d:=Rd.mon rd<|B.mon.trans h.2;rw[show xs.drop j=d::xs.drop (j+1) by rw[H8 L];obtain rfl:=bM (sR L) hd;rfl] at cj;refine aS (by induction wM cj with|mk b a=>exact (ax _ b a): ∃lx,oB tt d (aL l0)=aA (aL lx)/\_) λlx b a=>?_;have b':=b;rw[hL] at b;clear hd F Z hP cj rd R B;refine hT b' (hL.symm▸h.1) U λz3 K3 s3 O=>hA a K3 λok l' g z5 N s5=>?_;have m:=g.1;have g:=g.2;have B5:=c.step K3 (c.step h.1 B1 s3) s5;clear B1 h b' a K3 s3 s5 U hT hA;rw[m] at N;rcases g with ⟨rfl,e⟩|⟨rfl,e⟩
 ·refine sb (QHd rfl)<|(hE e).run N λv aa g w z6 K6 s6 q6=>?_
  have B6:=c.step N B5 s6;have m:=g.1;have g:=g.2;clear N B5 s6 e;rw[m] at K6;induction ja g with
  | @mk y ev e=>clear g m;subst ev;exact QBy hC c hsz L lj b K6 B6 q6 (by simp! only[ik];exact e)
 ·rw[if_neg<|by decide]
  exact va z5 Y rfl (Kf hC b N) B5 e (Hl lj)
theorem W3 (c:Cx D C X X' r z z2 scope xs J fp P St) {s:aN} {h':bK} {R:zq->aN->Prop} (H:CI D C' (X.add J) X' J z2 St ee tt conds xs l0 (fm tt rr) Kc xs.length s) (M: ∀a o,s.heap.get? a=aA o->a≠J->h'.get? a=aA o) (l:s.toks<=tk)
 (k: ∀ys,Kc ys-> ∀h u z',FX D C (X.add h) r z'-> ¬ Ex X.Ob z'.W h->jT C X.env z'.φ h->Sx z z'->(∀a o,z.s.heap.get? a=aA o-> ¬ z.W a->a≠h)->Rz (X.add h) z' u (.list ys)->(∃m,z'.s.heap.Ns h m)->u=.ref z2.s.heap.objs.size->h=(fT z2).objs.size->R (.ok .next) z'.s):
 R (.ok .next) {s with heap:=h',toks:=tk}:=by
 refine oh H λz' Y es K B j Z=>?_;clear H Z;subst es;rw[QEu] at j;have j:Kc (Y++[]):=j;rw[eZ] at j;refine aS K.F.loc λm U O=>?_;rw[c.el] at U;have i:=c.i
 have g:z2.s.heap.get? (fT z2).objs.size=none:=by
  induction q:z2.s.heap.get? (fT z2).objs.size with
  |none=>rfl
  |some o=>exact cb (ie<|bh _)<|gS _ q
 have x:(fT z2).objs.size≠J:=λq=>c.aJ.elim λo e=>by rw[<-q,g] at e;exact ay e
 refine cT B.acc λvs n e1 A=>?_;have cW:z'.W (fT z2).objs.size:=c.el▸K.F.lL;have L: ∀a o,z2.s.heap.get? a=aA o->a≠J-> ¬ D.P.PF a->h'.get? a=aA o:=λa o e q np=>M a o (B.keep a o e q np) q
 have v:Mon (Ex X'.Ob z'.W) z'.s.heap (Ex (X.add (fT z2).objs.size).Ob z2.W) h':=λa o e n=>⟨M a o e λq=>n<|.inl<|q▸c.xJ,λq=>n (by
  by_cases p:D.P.PF a
  ·exact .inr<|K.F.pf a p
  ·rcases q with (q|q)|q
   ·rw[Ex,c.ho]
    exact .inl ⟨.inl<|.inl<|.inl q,p⟩
   ·exact .inr<|q▸cW
   ·rw[Ex,c.ho]
    exact .inl ⟨.inl<|.inr q,p⟩)⟩
 have Q:=D.P.iM K.F.inv v λa p=>cT (D.P.iN K.F.inv p) λo vs e d=>e.trans (M a o e λq=>c.NZ<|q▸p).symm▸rfl;have N:=U.at λo e=>M _ o e x
 have Hq:=i.F.F.FT (λa q=>.inr q) (λa q=>q▸i.nf) L (λa q=>by
  rcases q with q|q
  ·exact aV (i.F.F.dg a<|.inl<|.inl q) λo w=>⟨.inl<|.inl q,o,L a o w (λe=>i.nJ<|.inl<|e▸q) λp=>i.F.F.dR a (i.F.F.pf a p)<|.inl q⟩
  ·exact oH N λo O O w O=>⟨.inr<|q▸g,o,q▸w⟩) Q
 have b: ¬ Ex X.Ob z2.W (fT z2).objs.size:=λq=>aV (i.F.F.dg _<|q.imp .inl id) λo w=>cb g w;refine k _ j (fT z2).objs.size (.ref z2.s.heap.objs.size) {s:={z'.s with heap:=h',toks:=tk},W:=z2.W,φ:=z2.φ} ⟨Hq.1,i.F.R,az i.F.t<|az B.t l⟩ b (i.F.F.CF g) ⟨⟨λa o e w=>?_,i.sx.st.grow⟩,az i.sx.t<|az B.t l,i.sx.f,by rw[B.e,i.sx.e]⟩ (λa o e w q=>?_) ?_ ⟨m,N⟩ rfl rfl
 ·have f:=i.sx.fresh (J:=J) e w
  exact L a o f.1 (i.new a o e w) λp=>f.2<|i.F.F.pf a p
 ·have:=(i.sx.fresh (J:=J) e w).1
  rw[q,g] at this;exact ay this
 ·refine Rd.lst (M _ _ e1 c.nJ) (λq=>?_) (A.mon v)
  rcases q with (q|q)|q
  ·exact aV (i.F.F.dg _<|.inl<|.inl q) λo w=>cb (nD z2) w
  ·rw[show (fT z2).objs.size=z2.s.heap.objs.size+1 from DA ..] at q
   exact Nat.succ_ne_self _ q.symm
  ·exact aV (i.F.F.dg _<|.inr q) λo w=>cb (nD z2) w
end
noncomputable def cX (D:Wd) (scope:jQ) (X:Fx) (J:aM) (z:Zs) (env:cg):Fx:=Fx.mk (X.add J).A {env with scope:=relabel scope (X.add J).env} (tj D (X.add J) z z.s.heap.objs.size)
theorem M9 {U:Option (aI->ba Unit)} {Kc:List aK->Ls->Prop} (t:m6 C scope tt target iter) (hI:iC D C aE iter it) (hT:nE D (C.sub scope.names aB aE hb) target tt) (hA:oT D (C.sub scope.names aB aE hb) ifs conds) (hE:aZ D (C.sub scope.names aB aE hb) elt ee)
 (e1:it D.o aE l λxs l=>xs.length<=16777216/\cW ee tt conds D.o (nq tt<|oR l) xs λys=>Kc ys l) (K:FX D C X (aL l) z)
 (k: ∀ys L,Kc ys L-> ∀d u z',FX D C (X.add d) (aL L) z'-> ¬ Ex X.Ob z'.W d->jT C X.env z'.φ d->Sx z z'->(∀a o,z.s.heap.get? a=aA o-> ¬ z.W a->a≠d)->Rz (X.add d) z' u (.list ys)->(∃m,z'.s.heap.Ns d m)->compPost (aY D.prog D.w) X.A Er U Q u d (.ok .next) z'.s):
 aO (aY D.prog D.w) X.A (comprehension (.ListComp elt [⟨target,iter,ifs,0⟩] scope pos) scope X.env cpos (newList []) aE (b7 iter X.env) U) Q Er z.s:=by
 have b: ∀x∈scope.names,x.2=.free->(X.env.cells.lookup x.1).isSome=true:=λx N hf=>by
  have h:=(t.free x N hf);have M:=h.1;have f2:=h.2;refine aV (mQ.mp M) λi M=>cT (K.F.hG x.1 i f2 M) λc v q O=>?_
  simp! only[q]
  rfl
 refine wpAny_comprehension_free (g:=⟨target,iter,ifs,0⟩) (gs:=[]) rfl (t.fold X.env) (ML b) t.kind (λx N hl=>by simp! only[<-hl];exact Ad t.nd N) (hI e1 K λxs L e2 z2 J fp P St i=>QEv<|NN λenv₀ e=>?_);have aa:=e2.1;have e2:=e2.2;have hL:aL (nq tt<|oR L)=fm tt (jZ<|aL L):=by simp! only[TA,QCw]
 simp! only[zj]
 refine bA ?_;have K4:FX D (C.sub scope.names aB aE hb) _ _ (zC D scope z2):=YE (X:=X.add J) (env₀:=env₀) t b i.F e;have p:=(yS scope.names [] b λy c q=>by exact ay q).1;have Z:=(yS scope.names [] b λy c q=>by exact ay q).2;refine bc (i.alive _ _ i.st) λoJ TJ aJ O O=>?_
 have c:Cx D C X (cX D scope X J z2 env₀) (aL L) z z2 scope xs J fp P St:=⟨i,rfl,by rw[e];rfl,by rw[e];rfl,rfl,λx c q=>by
  have h:=t.free _ (show (x,o3)∈scope.names from ((Z x).mpr (by rw[q];rfl)).resolve_right nofun) rfl;refine aV (mQ.mp h.1) λi' M=>bc (i.F.F.hG x i' h.2 M) λc' v q1 n O=>aS n λo w O=>?_;rw[bM (p x c q) q1]
  exact ⟨⟨o,w⟩,i.nf.c x i' _ h.2 M q1⟩,⟨oJ,aJ⟩⟩
 clear b p Z
 exact QAT c.wk (CI D (C.sub scope.names aB aE hb) (X.add J) (cX D scope X J z2 env₀) J z2 St ee tt conds xs (nq tt<|oR L) (fm tt<|jZ<|aL L) (Kc · L)) (λj s H=>oh H λO O es O B O O=>es▸B.st) i.alive (va (zC D scope z2) [] rfl K4 c.b0 e2 (bh _))
  (λs h' tk H Y l=>W3 c H Y l λys kc d u z' f nx nf sx nw rz m eu ec=>eu▸(ec.trans c.el.symm:d=env₀.locals)▸k ys L kc d u z' f nx nf sx nw rz m)
  λj s h' tk u r H hP R Y l Er=>Xc t hT hA hE c hL aa r H hP R Y l Er
theorem Oz (c:m6 C scope tt target iter) (i:iC D C aE iter it) (v:nE D (C.sub scope.names aB aE hb) target tt) (A:oT D (C.sub scope.names aB aE hb) ifs conds) (l:aZ D (C.sub scope.names aB aE hb) elt ee):
 aZ D C (.ListComp elt [⟨target,iter,ifs,0⟩] scope pos) (.comp ee tt it conds):=λh=>⟨λ{X z Q Er} K k=>by
 rw[eval_ListComp];refine M9 c i v A l h K λY L g d u Z F N q s U r ⟨m,j⟩=>(ax m j λH sb=>?_)
 exact bI (F.drop N q (λa o e n=>(sb.2 a n).trans e)<|bh _) λp M=>k _ _ g u (Z.to H Z.s.toks) p ⟨⟨λa o e n=>(sb.2 a<|U a o e n).trans<|s.st.keep a o e n,s.st.grow⟩,s.t,s.f,by show {Z.s with heap:=H}=_;rw[s.e];rfl⟩<|Rd.mon r M⟩
end
end
end
structure Ca (o:aP) (name:aG) (apos pos:bP) (xs:List aP) (ks:List wu):Prop where
 base: ∀env,wq o name env (b7 o env)=b7 o env
 qG: ∀env,methodCallForm (xs.length+ks.length) (mM pos<|fI xs env) (Pq pos<|Pr ks env)=aB
 line:(apos.endLine==pos.line)=aB
section
theorem xU (m:Ca x nm a pos xs ks)
 (h:aO M A (b7 x env) (λov N=> ∀pl,aO M A (Cy ov nm pl) (λf H=>aO M A (wj pos f.1 f.2 (mM pos<|fI xs env)<|Pq pos<|Pr ks env) Q Er H) Er N) Er s):
 aO M A (b7 (.Call (.Attribute x nm a) xs ks pos) env) Q Er s:=by
 rw[arm_eval_Call,m.base env];refine aR<|eY h (λov N z=>?_) λO O e=>e;refine aR<|iJ ?_;unfold methodCall;refine sb (m.qG env)<|wpAny_bind<|wpAny_holding<|wpAny_mono (z _) (λf H j=>?_) λO O e=>e
 exact aR (qr (by unfold QEw;simp[m.line]:QEw aB x env a pos=pure pos) j)
theorem MC.k (h:MC o name a pos xs):Ca o name a pos xs []:=⟨h.base,h.qG,h.line⟩
theorem Gi {first:List aI}
 (h:aO M A (evalArgs (.ref a) aB args ks) (λx N=>(∃o fd,N.heap.get? a=aA o/\o.data=.func fd)/\aO M A (call (.ref a) (first++x.pos) x.kw) Q Er N) Er s):
 aO M A (wj pos (.ref a) first args ks) Q Er s:=by
 dsimp only[wj];refine aR<|cO<|eY h (λx N K=>?_) λO O x=>x;refine cT K.1 λo fd q i=>?_;have H:=K.2;refine aR<|iJ ?_;have n: ∀{t:ba aI},aO M A t Q Er N->aO M A (t>>=λr=>oy [r] point>>=λO=>pure r) Q Er N:=λZ=>aR<|eY Z (λr L R=>aR<|cO<|wpAny_point<|bA R) λO O x=>x;cases l:(args.any (·.1)||ks.any (·.1.isNone))<;>
  refine aR ?_<;>dsimp only[Py]<;>
  refine aR (wpAny_load q ?_)<;>rw[i]<;>refine bA ?_
 ·first
   |refine wpAny_ite ?_
   |skip
  split<;>first
   |exact n H
   |exact n (by dsimp only[callMarked];exact Calls.wpAny_keep H)
 ·first
   |exact n (by dsimp only[callMarked];exact Calls.wpAny_keep H)
   |exact n H
theorem FR.Dy {G:bK} (F:FR P G C env Ob φ W r h) (t:i≠bR) (e:r i=.own xs) (l:φ i=aA a) (A:W a)
 (k: ∀b o,h.get? b=aA o->b≠a-> ¬ P.PF b->h'.get? b=aA o) (B:P.Inv (Ex Ob W) h') (u:h'.get? a=aA (listOf vs'.toArray n')) (q:bB (Ex Ob W) h' vs' ys):FR P G C env Ob φ W (upd r i<|.own ys) h'/\dc W h W h':=by
 have st:dc W h W h':=⟨λb o e n=>k b o e (λz=>n<|z▸A) λz=>n<|F.pf b z,λO=>.inl⟩;have np: ∀b o,h.get? b=aA o->(∀vs,o.data≠ .fields vs)-> ¬ P.PF b:=λb o e d p=>by refine cT (P.iN F.inv p) λo' vs u d'=>?_;clear F t l A k B q st p;obtain rfl:=bM e u;exact d _ d'
 have m:Mon (Ex Ob W) h (Ex Ob W) h':=st.mon;refine dT (F.own i xs e) λa' vs n K U O=>?_;obtain rfl:=bM l K;have ne: ∀b o,h.get? b=aA o->(∀vs n,o.data≠ .seq vs n)->b≠a:=λb o eb d z=>by simp only[z,U] at eb;clear U;cases eb;exact d _ _ rfl
 have g: ∀j v,da P φ env.cells (Ex Ob W) h j v (r j)->da P φ env.cells (Ex Ob W) h' j v (upd r i (.own ys) j):=by
  intro j v x;by_cases s:j=i
  ·clear t l K
   subst s;unfold upd;erw[if_pos rfl];rw[e] at x;exact x
  ·unfold upd
   erw[if_neg s];induction hr:r j with
   |eC n=>rw[hr] at x;exact iT x λb q e1 e2 L Z=>(jj b q e1 (m _ _ e2 L).1 (m _ _ e2 L).2 Z)
   |_=>rw[hr] at x;exact x.mon m λn e=>by contradiction
 have al: ∀b,(∃o,h.get? b=aA o)-> ∃o,h'.get? b=aA o:=λb ⟨o,w⟩=>by
  by_cases z:b=a
  ·exact ⟨_,z▸u⟩
  ·by_cases pz:P.PF b
   ·exact cT (P.iN B pz) λo' vs u O=>⟨o',u⟩
   ·exact ⟨o,k _ _ w z pz⟩
 refine aS F.loc λmm R n2=>dT R λoL es ep N nd nr=>⟨⟨λb o w=>k b o (F.base b o w) (λz=>F.fO b o w<|.inr<|z▸A) λz=>F.fO b o w<|.inr<|F.pf b z,F.fO,F.hk,F.hK,F.hg,F.hb,F.rn,⟨mm,⟨oL,es,ep,k _ _ N (ne _ _ N λvs n d=>by rw[nd] at d;contradiction) (np _ _ N λvs d=>by rw[nd] at d;contradiction),nd,nr⟩,λx j p w=>g _ _<|n2 x j p w⟩,F.lL,λx j p w=>?_,F.qQ,F.oY,λj Y w=>?_,λcc j Y b w z s=>?_,λY w H b z=>?_,λY w H b z=>?_,λw=>F.lD (λf q'=>(by
  by_cases M:aT=i
  ·exact w ys (by unfold upd;exact sb (QHd M) rfl)
  ·exact w f (by unfold upd;erw[if_neg M];exact q'))),F.inj,λj b w=>al b<|F.jv j b w,λb w=>al b<|F.dg b w,F.dR,B,F.pf⟩,st⟩
 ·exact bc (F.hG x j p w) λc v e1 Q Z=>aS Q λo L d3=>⟨c,v,e1,(ax o (k _ _ L (ne _ _ L λvs n d=>by rw[d3] at d;clear Q;contradiction) (np _ _ L λvs d=>by rw[d3] at d;clear Q;contradiction)) d3),g _ _ Z⟩
 ·by_cases s:j=i
  ·clear t e K g
   subst s;unfold upd at w;rw[if_pos rfl] at w;cases w;exact (ly a vs' n' l u q)
  ·unfold upd at w
   rw[if_neg s] at w;exact dT (F.own j Y w) λb ws n q1 q2 q3=>(ly b ws n q1 (k _ _ q2 (λz=>s<|F.inj j i a (z▸q1) l) (np _ _ q2 λvs d=>by clear q2;contradiction))<|q3.mon m)
 ·by_cases M:j=i
  ·clear t e K g w s
   subst M;obtain rfl:=bM l z;exact A
  ·unfold upd at w
   rw[if_neg M] at w;exact F.gN cc j Y b w z s
 ·by_cases M:aT=i
  ·rw[<-M] at l
   clear k B u q st np m K U ne g al R n2 N nd nr;obtain rfl:=bM l z;exact A
  ·unfold upd at w H
   rw[if_neg M] at w;rw[if_neg<|lO t] at H;exact F.jf Y w H b z
 ·unfold upd at H
  rw[if_neg<|lO t] at H;by_cases M:aT=i
  ·rw[<-M] at e
   exact F.kn xs e H b z
  ·unfold upd at w
   rw[if_neg M] at w;exact F.kn Y w H b z
theorem FR.write {G:bK} (F:FR P G C env Ob φ W r h) (t:i≠bR) (e:r i=.own xs) (l:φ i=aA a) (p:W a)
 (k: ∀b o,h.get? b=aA o->b≠a->h'.get? b=aA o) (u:h'.get? a=aA (listOf vs'.toArray n')) (q:bB (Ex Ob W) h' vs' ys):FR P G C env Ob φ W (upd r i<|.own ys) h'/\dc W h W h':=by
 refine F.Dy t e l p (λb o e n O=>k b o e n) (P.iM F.inv (dc.mon ⟨λb o e n=>k b o e λz=>n<|z▸p,λO=>.inl⟩)<|F.tc λb o v w d O=>k b o w λz=>?_) u q;refine dT (F.own i xs e) λA v n m j O=>?_;obtain rfl:=bM l m;simp only[z,j] at w;cases w;contradiction
end
section
variable {fl:Bool}
theorem FX.ct (K:FX D C X r z) (c:CT D (Ex X.Ob z.W) (λO=>False) z.s s') (l:z.s.toks<=s'.toks):FX D C X r {z with s:=s'}/\Sx z {z with s:=s'}:=by have Z: ∀a o,z.s.heap.get? a=aA o-> ¬ D.P.PF a->s'.heap.get? a=aA o:=λa o e p=>c.keep a o e id p;exact ⟨⟨K.F.keepsP Z c.inv,K.R,az K.t l⟩,⟨K.F.Ag Z,l,rfl,c.e⟩⟩
theorem FX.keeps (K:FX D C X r z) (k: ∀a o,z.s.heap.get? a=aA o->h'.get? a=aA o) (l:z.s.toks<=tk):FX D C X r (z.to h' tk)/\Sx z (z.to h' tk):=⟨K.kl (.all k) l,.kl K (.all k) l⟩
theorem KE.ct (k:KE D C X r z (.d d) Q) (K:FX D C X r z) (c:CT D (Ex X.Ob z.W) (λO=>False) z.s s') (q:Rd (Ex X.Ob z.W) s'.heap u d):z.s.toks<=s'.toks->Q u s':=λl=>k u _ (K.ct c l).1 (K.ct c l).2 q
theorem YL [H:cz D] (hn:D.fns[f]?=aA nm) (r:D.mg nm=aA (.ref i)) (x:D.G.get? i=aA o) (hd:o.data=.func fd) (B:nG C nm) (P:Pl xs) (a:fh D C xs es):aZ D C (.Call (.Name nm p) xs [] pos) (.call f es):= @λO O h=>
 ⟨λ{X z Q Er} K k=>qp (pV K B r (zr (gK (P X.env pos) (kX (a h) K λN l U L g R s v=>⟨⟨R.F.base _ _ x,hd⟩,by
  clear x a h K;induction g with
  |mk e g=>
   refine uG (H.F _ _ _ e) λn Z M W b d O O j=>?_;clear H hd B P e;obtain rfl:=bM hn b;cases bM r d
   exact wpAny_toks<|j R.cs v λu A c q=>((k _ _ g).tr s).ct R c q⟩))))⟩
theorem U8 [H:cz D] (c:D.cN f C) (ok:hZ C nm i) (a:Pl xs) (A:fh D C xs es):aZ D C (.Call (.Name nm p) xs [] pos) (.jF f i es):= @λO O h=>⟨λ{X z Q Er} K k=>qp (uJ K ok λv q=>by
 have hf:=h.1;have h:=h.2;simp only[hf] at q
 exact aS q λF M cl=>(ax _ M (Gi (gK (a X.env pos) (kX (A h) K λds l us Z g R s1 r1=>⟨H.Lb<|D.P.xw cl s1.mon,by
  induction g with|mk e g=>exact H.L _ _ _ _ _ e c R (D.P.xw cl s1.mon) r1<|(k _ _ g).tr s1⟩)))))⟩
theorem FX.hl {u:V} (K:FX D C X r z) (h:r aT=.own hs) (q:Vz D X z x .inst): ∃R i vs n,x=.ref R/\z.φ aT=aA i/\D.P.HI (Ex X.Ob z.W) z.s.heap R i/\z.s.heap.get? i=aA (listOf vs.toArray n)/\bB (Ex X.Ob z.W) z.s.heap vs hs:=by refine bc q λR i p Q l=>dT (K.F.own _ _ h) λL vs n f A e=>?_;obtain rfl:=bM p f;exact (GK R i vs n Q p l A e)
section
variable[H:cz D]
include H
theorem NT {ds hs hs':List aK} (j:rU D f ds hs d hs') (K:FX D C X r z) (q:Vz D X z x .inst) (h:r aT=.own hs) (L:r bR=.emp) (rs:iO X z us ds) (k:KE D C X (upd r aT<|.own hs') z (.d d) Q):aO (aY D.prog D.w) X.A (call (.ref f)<|x::us) Q Er z.s:=by refine uG (K.hl (u:=.emp) h q) λM Y vs n m P p3 p5 a=>sb m ?_;have W:=K.F.jf _ h L _ P;refine wpAny_toks<|j K.cs p3 (.inr W) p5 a rs λu Z aa n' c U B v l=>?_;exact bI (K.F.Dy (i:=aT) (by decide) h P W (λb o e n p=>c.keep b o e n p) c.inv U B) λg N=>k u {z with s:=Z} ⟨g,K.R,az K.t l⟩ ⟨N,l,rfl,c.e⟩ v
theorem M3 {k:Nat} {ds:List aK} (hn:D.hm k=aA (nm,f)) (K:FX D C X (aL l) z) (q:Vz D X z u .inst) (rs:iO X z us ds) (g:iZ l aT λhs=>aL l bR=.emp/\zP (D.o.H k ds hs) λz hs'=>r (.d z)<|cL l aT<|.own hs') (i:KW D C X z r Q):aO (aY D.prog D.w) X.A (call (.ref f)<|u::us) Q Er z.s:=by
 induction jG g with
 |mk h g=>
  refine bI g λm g=>?_;induction g with
  |mk e g=>refine cT (H.H _ _ _ _ _ e) λn F b c=>?_;cases bM hn b;exact NT c K q h m rs<|fR _ _ _▸i _ _ g
theorem Wo {k:Nat} (hn:D.hm k=aA (nm,f)) (P:k<20) (m:MC x nm A pos xs) (M:aZ D C x a) (q:fh D C xs es):aZ D C (.Call (.Attribute x nm A) xs [] pos) (.jt k a es):= @λO O h=>⟨λ{X z Q Er} K p=>by
 refine cT (H.vi _ _ _ hn) λo j Y U=>xU m.k<|(M h).run K λv L h t Z R i b=>λpl=>?_;obtain ⟨rfl,h⟩:=BU h;have r:=b;refine bc r λB N u e n=>?_;subst e
 exact H.yU _ _ _ hn P R.F.base n<|zr<|gK (m.pl X.env)<|kX (q h) R λds l us W g d s c=>⟨⟨d.F.base _ _ Y,U⟩,M3 hn d (b.mon s) c g λO O g=>(p _ _ g).tr<|i.trans s⟩⟩
theorem Wh {k:Nat} (hn:D.hm k=aA (nm,f)) (m:20<=k) (q:nG C nm) (P:Pl (x::xs)) (hs: ∀env,fI (x::xs) env=(aE,b7 x env)::fI xs env) (M:aZ D C x a) (A:fh D C xs es):
 aZ D C (.Call (.Name nm p) (x::xs) [] pos) (.jt k a es):=λh=>⟨λ{X z Q Er} K u=>by
 refine cT (H.vi _ _ _ hn) λo fd Y U=>qp<|pV K q (H.JW _ _ _ hn m)<|zr (o:=o) (fd:=fd)<|gK (P X.env pos) ?_;refine sb (hs X.env)<|spliced_cons<|(M h).run K λv L h t Z R i b=>?_
 have B:=(BU h);have d:=B.1;have h:=B.2;clear B;subst d
 exact kX (A h) R λj l N W g c s r=>⟨⟨c.F.base _ _ Y,U⟩,M3 hn c (b.mon s) r g λO O g=>(u _ _ g).tr<|i.trans s⟩⟩
theorem SP {k:Nat} (hn:D.hm k=aA (nm,f)) (Y:k<20) (m:MC x nm A pos xs) (M:aZ D C x a) (Z:fh D C xs es):aZ D C (.Call (.Attribute x nm A) xs [] pos) (.jX k a es):= @λO O h=>⟨λ{X z Q Er} K t=>by
 refine cT (H.vi _ _ _ hn) λo fd q3 q4=>xU m.k<|(M h).run K λv l1 h ov z1 b i r1=>λpl=>?_;obtain ⟨rfl,h⟩:=BU h;have P:=r1;refine bc P λix ia p1 r p3=>?_;subst r;refine H.yU _ _ _ hn Y b.F.base p3<|zr<|gK (m.pl X.env)<|kX (Z h) b λds l us z3 g d s B=>⟨⟨d.F.base _ _ q3,q4⟩,?_⟩;induction jG g with
 |mk U g=>
  induction g with
  |mk e g=>
   refine cT (H.R _ _ _ _ e) λN W q1 j=>?_;cases bM hn q1;refine uG (d.hl (u:=.emp) U<|r1.mon s) λL aa vs n e p4 p5 p p7=>?_;cases e
   exact wpAny_toks<|j d.cs p5 p p7 B λu s' c q=>((t _ _ g).tr<|i.trans s).ct d c q⟩
theorem JZ (K:FX D C X r z) (o:hZ C nm 0) (b:r 0=.inst) (h: ∀i N,z.φ aT=aA N->D.P.HI (Ex X.Ob z.W) z.s.heap i N->Q (.ref i) z.s):aO (aY D.prog D.w) X.A (b7 (.Name nm p) X.env) Q Er z.s:=uJ K o λv q=>by simp only[b] at q;exact bc q λi N x e d=>(ax _ e<|h i N x d)
theorem Xa (ok:hZ C nm 0) (hb: ∀env,wq (.Name nm p) "_headers" env (b7 (.Name nm p) env)=b7 (.Name nm p) env):aZ D C (.Attribute (.Name nm p) "_headers" pos) .e6:= @λO O h=>⟨λ{X z Q Er} K k=>by
 refine aR<|JZ K ok h.1 λR i e1 d=>aR<|iJ<|aR<|cO<|wpAny_toks<|H.NA K.F.base d λtk l=>?_
 exact aR<|bA<|bA<|k _ _ h.2 _ (z.to z.s.heap tk) (K.kl (.refl _ _) l) (.kl K (.refl _ _) l)<|ax i e1 rfl⟩
theorem Um (h:aZ D C x .e6):iC D C fl x .e6:= @λl r g=>λK k=>by
 refine eN g λb i g=>?_;induction jG g with
 |mk A g=>refine (h (K:=λv L=>v=.bor aT/\L=l) ⟨b,rfl,rfl⟩).run K ?_;clear H h K b;intro _ _ n u z R s Q;obtain ⟨rfl,rfl⟩:=n;exact CV R Q (.q<|.l<|.bor A) (λf j e a d=>by cases e;exact R.F.kn _ A (i f) a d)<|(k _ _ g).tr s
theorem Ui {p ap q1 q2:bP} (ok:hZ C nm 0) (hm:Ca (.Name nm p) "_convert_string_type" ap pos [y] [⟨aA "name",.Constant (.bool b) W q1,q2⟩]) (hs: ∀env,fI [y] env=[(aE,b7 y env)]) (A:aZ D C y a):
 aZ D C (.Call (.Attribute (.Name nm p) "_convert_string_type" ap) [y] [⟨aA "name",.Constant (.bool b) W q1,q2⟩] pos) (.conv b a):=λh=>⟨λ{X z Q Er} K k=>by
 refine bI h λh0 h=>aS (H.conv b) λf g1 g2=>cT (H.vi _ _ _ g1) λo fd g3 Y=>xU hm (JZ K ok h0 λi B c p3 pl=>H.yU _ _ _ g1 (by decide) K.F.base p3<|Gi<|evalArgs_kw2 rfl ?_ (by simp only[hs X.env];rfl));simp only[hs X.env];refine ua<|(A h).run K λv N g u L j s1 r1=>lP<|kwAll_cons<|EZ<|kwAll_nil ?_;induction Jd g with
 |mk e g=>
  subst e;refine aV (Rd.dO r1) λt' s=>sb s<|⟨(et o fd (j.F.base _ _ g3) Y),wpAny_toks<|g2 _ g.1 j.R j.t j.F.base (D.P.kS p3 s1.mon) λh' tk Z l=>?_⟩
  exact bI (j.keeps Z l) λx s2=>k _ _ g.2 _ _ x (s1.trans s2)<|Rd.str _ _⟩
theorem Tw (ok:nG C "b1_set") (A:aZ D C x a):aZ D C (.Compare x [.In] [.Name "b1_set" p] pos) (.p9 a):= @λO O h=>aS H.b1 λb q1 q2=>⟨λK k=>Pk (qN (A h) K λi l t' z g j s1=>pV j ok q1<|wpAny_toks<|q2 j.R j.F.base λtk=>((k _ _ g).tr s1).same j<|Rd.bool _) rfl⟩
theorem W0 (o:nG C "b3_exceptions") (m:MC (.Name "b3_exceptions" p) "get" A pos [y]) (hs: ∀env,fI [y] env=[(aE,b7 y env)]) (s:aZ D C y a):
 aZ D C (.Call (.Attribute (.Name "b3_exceptions" p) "get" A) [y] [] pos) (.qJ a):=λh=>⟨λ{X z Q Er} K k=>by
 refine oh H.b3 λd B n b Y f q=>wx (m.base X.env) (m.qG X.env) m.line<|pV K o n ?_;refine ⟨"dict","dict.get",QEx,QEy,PySem.F.type_dict_get,⟨B,K.F.base _ _ b,Y⟩,λa e=>(by cases e;exact (ax B (K.F.base _ _ b) f)),wm (m.pl X.env)<|gK (m.pl X.env) ?_⟩
 exact sb (hs X.env)<|spliced_cons<|qN (s h) K λi l t Z g j U=>lP<|wpAny_toks<|q j.R j.F.base λu v r=>((k _ _ g).tr U).same j<|r _ _⟩
theorem Y8 (hk:C.K "type" =aA .globalImplicit) (hk2:C.K "int" =aA .globalImplicit) (hp:Pl [x]) (hs: ∀env,fI [x] env=[(aE,b7 x env)]) (ha:aZ D C x a):
 eT D C (.Compare (.Call (.Name "type" p1) [x] [] p) [.IsNot] [.Name "int" p2] pos) (.x8 a):=λh=>⟨λ{X z Q Er} K k=>by
 refine Hr (qp<|x4 K hk (by decide+kernel) (u:=.type "type") (by lia)<|wo (hp X.env p)<|gK (hp X.env p) ?_) rfl
 exact sb (hs X.env)<|spliced_cons<|qN (ha h) K λi l t' z1 g K1 s1=>lP<|Pz (typeIs_int _ _ _) (by decide+kernel)<|x4 K1 hk2 (by decide+kernel) (u:=.type "int") (by lia)<|Pn rfl (ou<|k _ _ g _ K1 s1)⟩
end
end
section
variable {A:cV} {E:aI->aN->Prop}
theorem QBj {I:aM} {St:Nat->bK->Prop} (W:sQ prog w A I fp [I] N P St): ∀n i s Q,St i s.heap->i+n<=N->
 (∀vs h' tk,vs.length=n->(∀j v,vs[j]?=aA v->P (i+j) v)->St (i+n) h'->(∀b o,b≠I->s.heap.get? b=aA o->h'.get? b=aA o)->Q vs {s with heap:=h',toks:=tk})->aO (aY prog w) A (draw (.ref I) n) Q E s:=by
 intro O;induction O with
 |zero=>exact λi s Q f O h=>by exact bA (h [] s.heap s.toks rfl (by simp) f λO O O e=>e)
 |succ n d=>
  exact λi s Q f p h=>by
   refine aR<|W.item i s _ _ (ig (mO _ _) ‹_›) f λv H t C q K=>?_;refine aR<|cO<|d (i+1) _ _ q (aQ p) λvs h' tk l m Z x=>bA ?_;refine h (v::vs) h' tk (by simp[l]) (λj u g=>?_) (by erw[(by simp+arith:i+(n+1)=i+1+n)];exact Z) λb o B e=>x b o B (K b o (by simpa using B) e);induction j with
   |zero=>cases g;exact C
   |succ j=>have:=m j u g;rwa[show i+1+j=i+(j+1) by exact zt _ _ _] at this
theorem X5 {items:Array aI} (C:A.handled=aF) (hl:s.heap.IsList a items)
 (h: ∀h' tk,(∀b o,s.heap.get? b=aA o->h'.get? b=aA o)->Q items.toList {s with heap:=h',toks:=tk}):aO (aY prog w) A (QA (.ref a) items.size aF) Q E s:=by
 dsimp only[QA];refine aR ?_;dsimp only[notIterableAtAll];refine aR<|QEz hl.typeIs PySem.F.slot_list_iter.lookup ?_;refine bA ?_
 skip
 refine aR<|cO<|QEs hl ?_;have W:=Walks.list (prog:=prog) (w:=w) C s.heap.objs.size a (by refine aS hl λo B O=>?_;exact qo (kh B):a≠s.heap.objs.size) items;refine aR (cO<|QBj W items.size 0 _ _ ⟨(gd _ (fH _ rfl) rfl rfl),hl.push _⟩ (by simp+arith) λvs z d l P q p=>?_)
 have v:vs=items.toList:=by
  refine QFA λj=>?_;by_cases g:j<vs.length
  ·have:=P j vs[j] (sR g)
   erw[sR g];simpa using this.symm
  ·erw[DC<|jN ‹_›]
   exact sb (DC (by simp;exact bD (nR l)<|jN g)) rfl
 refine sb (QHc λK=>cY K<|nR l)<|wpAny_bind (wpAny_holding<|W.done _ _ _ (by rw[Nat.zero_add] at q;exact q) λH t r=>?_)
 dsimp only[Option.isSome_none,wy,if_false];refine sb v<|wpAny_pure<|h H t λb o e=>?_
 have hb:=qo<|kh e;exact r b o (by simpa using hb)<|p b o hb<|gS _ e
theorem Ka {items:Array aI} {k:Int} (hl:s.heap.get? l=aA (listOf items n)) (h0:0<=k) (F:k<2^63) (hn:k<items.size)
 (hQ: ∀h' n',h'.get? l=aA (listOf (items.setIfInBounds k.toNat v) n')->Hk l s.heap h'->Q () {s with heap:=h'}):
 aO (aY prog w) A (H9 (.ref l) (.int k t) v) Q E s:=by
 have L:s.heap.IsList l items:=⟨_,hl,rfl,n,rfl⟩;unfold H9
 try with_reducible refine cO ?_
 first|refine wpAny_bind (wpAny_pure ?_)|skip
 refine aR (QFB L.typeIs (by decide) ?_)
 refine aR (QFC L.typeIs IA
  (IB IA L.typeIs QFD ?_<|QFE _ _ _))
 refine (?_:aO _ _ (Builtin.List.listSubscript? (.int k t)>>=_) _ _ s);refine aR<|wpAny_listSubscript_int (fitsIndex_of h0 F) ?_;clear F;refine aV (IC h0) λj e=>?_;subst e;have g:j<items.size:=mF.mp ‹_›
 have x:=QFF g;refine aR<|aR<|wpAny_seqItemAt hl rfl (bA ?_);erw[x];have f: ∃n',(s.heap.update l<|Obj.mapSeq (·.setIfInBounds j v)).get? l=aA (listOf (items.setIfInBounds j v) n'):=by refine ⟨if (items.setIfInBounds j v).size==items.size then n else n+1,?_⟩;erw[wz _ hl<|by rfl];rfl
 refine aV f λn' f=>aR<|wpAny_setSeqItemAt hl rfl ?_
 first
  |exact wpAny_bind<|wpAny_pure<|wpAny_pure<|ax .none rfl (wpAny_pure<|hQ _ n' f<|Heap.SameBut.update ..)
  |exact wpAny_pure ⟨.none,rfl,wpAny_pure<|hQ _ n' f<|Heap.SameBut.update ..⟩
end
section
theorem jV (W:jo [t] i pos.line env=pure aE) (e:mT [t] i env=pure aF) (a:(uj [t] env).map (·.2)=[mR t env])
 (h:aO M A (b7 i env) (λu N=>aO M A (mR t env u) (λO H=>Q .next H) Er N) Er s):aO M A (o6 (.Assign [t] i pos) env) Q Er s:=by
 rw[QB];refine aR<|iJ ?_;refine sb W<|wpAny_bind<|wpAny_pure ?_
 refine sb (QHc<|by decide)<|wpAny_bind<|wpAny_mono h (λv N z=>?_) λO O x=>x
 refine sb e<|sb a<|wpAny_bind<|wpAny_pure ?_
 exact aR<|eY z (λO O x=>bA x) λO O x=>x
theorem bB.rev {X:aM->Prop}: ∀{ds:List aK} {us:List aI},bB X h us ds->bB X h us.reverse ds.reverse:=by
 intro ds;induction ds with
 |nil=>exact @λus q=>sb q.kJ<|bB.nil
 |cons d ds i=>exact @λus q=>by refine bc q.hU λu us e Q s=>sb e ?_;simp only[zv,zv];exact (i s).app<|bB.cons Q bB.nil
theorem Vw: ∀(ps:List (Nat×aK)) (r:bQ) (i:Nat) (d:aK),i∉ps.map (·.1)->ps.foldl (λr p=>upd r p.1<|.val p.2) (upd r i<|.val d)=upd (ps.foldl (λr p=>upd r p.1<|.val p.2) r) i (.val d):=by
 intro O;induction O with
 |nil=>exact λr i d O=>rfl
 |cons p ps e=>
  exact λr i d h=>by
   refine sb ot<|sb List.foldl_cons ?_
   have:upd (upd r i<|.val d) p.1 (.val p.2)=upd (upd r p.1<|.val p.2) i (.val d):=by
    funext j;unfold upd;by_cases H:j=p.1
    ·exact sb (QHd H)<|sb (if_neg (by rw[H];exact (λq=>h<|by simp[q])))<|sb (if_pos H) rfl
    ·rw[if_neg H,if_neg H]
   rw[this];exact e _ i d λq=>h (by rw[gB];exact .tail _ q)
theorem QCH: ∀(ps:List (Nat×aK)) (r:bQ),(ps.map (·.1)).Nodup->ps.reverse.foldl (λr p=>upd r p.1<|.val p.2) r=ps.foldl (λr p=>upd r p.1<|.val p.2) r:=by
 intro O;induction O with
 |nil=>exact λr O=>rfl
 |cons p ps i=>exact λr h=>by simp only[gB,Pu] at h;simp only[zv,List.foldl_append,i r h.2,ot,List.foldl_nil,ot,Vw ps r p.1 p.2 h.1]
theorem NG {α β:Type}: ∀{l:List α} {m:List β},l.length=m.length->l.reverse.zip m.reverse=(l.zip m).reverse:=by
 intro l;induction l with
 |nil=>exact λO=>rfl
 |cons a l i=>
  exact @λm h=>by
   induction m with
   |nil=>contradiction
   |cons b m O=>
    have H:l.length=m.length:=by simpa using h
    refine sb zv<|sb List.reverse_cons<|sb (List.zip_append<|by simp[H])<|sb (i H) ?_
    simp
structure tX (C:Fc) (W:aM->Prop) (h:bK) (φ φ':Nat->Option aM):Prop where
 nw:C.nw=aE->φ'=φ
 hn:C.hn=aE->φ' aT=φ aT
 sub: ∀i a,φ' i=aA a->(∃j,φ j=aA a)\/W a\/h.get? a=aF
theorem tX.refl (C φ) {W h}:tX C W h φ φ:=⟨λO=>rfl,λO=>rfl,λi a e=>.inl ⟨i,e⟩⟩
theorem dc.new (s:dc W h W' h') (e:h'.get? a=aF):W a\/h.get? a=none:=by
 by_cases w:W a
 ·exact .inl w
 ·induction z:h.get? a with
  |none=>exact .inr rfl
  |some o=>have:=s.keep a o z w;exact cb e this
theorem tX.trans {C W h W' h' φ φ' φ''} (a:tX C W h φ φ') (s:dc W h W' h') (b:tX C W' h' φ' φ''):tX C W h φ φ'':=⟨λz=>(b.nw z).trans<|a.nw z,λz=>(b.hn z).trans<|a.hn z,λi x e=>by
 rcases b.sub i x e with ⟨j,q⟩|q|q
 ·exact a.sub j x q
 ·exact .inr<|s.grow x q
 ·exact .inr<|s.new q⟩
theorem FR.SI {G:bK} (F:FR P G C env Ob φ W r h) (k:Kl env.locals h h') {I:aM} (t:h.get? I=aF) (i: ∃o,h'.get? I=aA o):FR P G C env (λa=>Ob a\/a=I) φ W r h':=by have m:Mon (Ex Ob W) h (Ex (λa=>Ob a\/a=I) W) h':=λa o e n=>⟨k.keep a o e λq=>n<|.inr<|q▸F.lL,λq=>n<|q.imp (λq=>q.resolve_right λz=>cb (z▸t) e) id⟩;exact F.chg m (λa o e s O=>k.keep a o e<|F.nl e s.nd) k.ns (λa q=>F.Km i (F.LQ k) q) (F.Mn t)<|F.Ml k m
theorem FR.adopt {G:bK} (F:FR P G C env (λb=>Ob b\/b=a) φ W (upd r i .unb) h) (H:i≠aT) (t: ∀j k n,upd r i .unb j=.eC n->cU j k≠i) (al: ∃o,h.get? a=aA o) (na: ¬ Ex Ob W a) (nf:jT C env φ a):
 FR P G C env Ob (λj=>if j=i then aA a else φ j) (λb=>W b\/b=a) (upd r i .unb) h:=by
 have M:Ex (λb=>Ob b\/b=a) W=Ex Ob (λb=>W b\/b=a):=by
  funext b;refine propext ⟨λq=>?_,λq=>?_⟩
  ·rcases q with (q|q)|q
   ·exact .inl q
   ·exact .inr<|.inr q
   ·exact .inr<|.inl q
  ·rcases q with q|q|q
   ·exact .inl<|.inl q
   ·exact .inr q
   ·exact .inl<|.inr q
 have B: ∀j v,da P φ env.cells (Ex (λb=>Ob b\/b=a) W) h j v (upd r i .unb j)->da P (λj=>if j=i then aA a else φ j) env.cells (Ex Ob λb=>W b\/b=a) h j v (upd r i .unb j):=by
  intro j v x;erw[<-M];by_cases s:j=i
  ·erw[<-s]
   have:upd r j .unb j=.unb:=by unfold upd;exact sb (QHd rfl) rfl
   erw[this];trivial
  ·have e1:(if j=i then aA a else φ j)=φ j:=QHc s
   have e2:(if aT=i then aA a else φ aT)=φ aT:=QHc<|lO H;induction hr:upd r i .unb j with
   |own xs=>rw[hr] at x;exact aS x λb q1 q2=>(ax b (by refine (?_:(if j=i then aA a else φ j)=aA b);erw[e1];exact q1) q2)
   |ali k=>rw[hr] at x;obtain ⟨q0,b,q1,q2⟩:=x;subst q0;exact ⟨rfl,b,by refine (?_:(if aT=i then aA a else φ aT)=aA b);erw[e2];exact q1,q2⟩
   |inst=>rw[hr] at x;exact bc x λy b q1 q2 Y=>(cy y b (by refine (?_:(if aT=i then aA a else φ aT)=aA b);erw[e2];exact q1) q2 Y)
   |eC n=>rw[hr] at x;refine iT x λb m q1 q2 Y l=>?_;have u: ∀k,(if cU j k=i then aA a else φ (cU j k))=φ (cU j k):=λk=>QHc<|t j k n hr;refine (jj b m q1 ?_ Y (λk hk=>by refine (?_:(if cU j k=i then aA a else φ (cU j k)).isSome=aB);rw[u];exact l k hk));simp only[u];exact q2
   |unb=>trivial
   |val d=>rw[hr] at x;exact x
   |clo f=>rw[hr] at x;exact x
   |emp=>rw[hr] at x;exact x
 have R: ∀j b,(if j=i then aA a else φ j)=aA b->(j=i/\b=a)\/(j≠i/\φ j=aA b):=λj b q=>by
  by_cases s:j=i
  ·clear F t al na nf M H B
   obtain rfl:=bM (QHd s) q;exact .inl ⟨s,rfl⟩
  ·rw[if_neg s] at q
   exact .inr ⟨s,q⟩
 refine aS F.loc λL U N=>⟨F.base,λb o e q=>F.fO b o e (by erw[M];exact q),F.hk,F.hK,F.hg,F.hb,F.rn,(ax L U λx j p q=>B _ _<|N x j p q),.inl F.lL,λx j p q=>?_,λx j c p q w z=>.inl<|F.qQ x j c p q w z,F.oY,λj ys q=>?_,λcc j ys b q p z=>?_,λys q p b z=>?_,λys q p b z w=>?_,λq=>(by refine (?_);erw[if_neg<|lO H];exact F.lD q),λj k b q1 q2=>?_,λj b q=>?_,λb q=>F.dg b (by erw[M];exact q),λb w q=>?_,M▸F.inv,λb p=>.inl<|F.pf b p⟩
 ·exact bc (F.hG x j p q) λc v e1 u A=>(cy c v e1 u<|B _ _ A)
 ·have s:j≠i:=λz=>by clear t B N;clear al na nf H R U;subst z;unfold upd at q;rw[if_pos rfl] at q;exact nomatch q
  exact dT (F.own j ys q) λb vs n e1 e2 u=>(ly b vs n (by refine (?_);erw[if_neg s];exact e1) e2<|M▸u)
 ·rcases R j b p with ⟨_,z'⟩|⟨s,Q⟩
  ·exact .inr z'
  ·exact .inl<|F.gN cc j ys b q Q z
 ·rcases R aT b z with ⟨z',_⟩|⟨_,Q⟩
  ·exact QHb z'.symm H
  ·exact .inl<|F.jf ys q p b Q
 ·rcases R aT b z with ⟨z',_⟩|⟨_,Q⟩
  ·exact QHb z'.symm H
  ·refine cp (w) (λw=>?_) λw=>?_
   ·exact F.kn ys q p b Q w
   ·exact nf.p aT<|w▸Q
 ·rcases R j b q1 with ⟨Z,z2⟩|⟨Z,z2⟩<;>rcases R k b q2 with ⟨K,g⟩|⟨K,g⟩
  ·simp only[Z,K]
  ·exact QHb g<|z2▸nf.p k
  ·exact QHb z2<|g▸nf.p j
  ·exact F.inj j k b z2 g
 ·rcases R j b q with ⟨Z,z2⟩|⟨Z,z2⟩
  ·exact z2▸al
  ·exact F.jv j b z2
 ·refine cp (w) (λw=>?_) λw=>?_
  ·exact F.dR b w<|.inl q
  ·exact na<|.inl<|w▸q
end
theorem JV:Ex (λb=>Ob b\/b=a) W=Ex Ob (λb=>W b\/b=a):=by funext b;exact propext ⟨λq=>q.elim (λq=>q.elim .inl λq=>.inr<|.inr q) λq=>.inr<|.inl q,λq=>q.elim (λq=>.inl<|.inl q) λq=>q.elim .inr λq=>.inl<|.inr q⟩
structure Sy (C:Fc) (z z':Zs):Prop where
 st:dc z.W z.s.heap z'.W z'.s.heap
 t:z.s.toks<=z'.s.toks
 p:tX C z.W z.s.heap z.φ z'.φ
 e:z'.s={z.s with heap:=z'.s.heap,toks:=z'.s.toks,drawn:=z'.s.drawn}
theorem Sx.y (s:Sx z z'):Sy C z z':=⟨s.st,s.t,s.f▸ .refl _ _,s.e⟩
theorem Sy.trans (a:Sy C z z') (b:Sy C z' z''):Sy C z z'':=⟨a.st.trans b.st,az a.t b.t,a.p.trans a.st b.p,by (erw[b.e];exact sb a.e rfl)⟩
theorem Sy.fresh (s:Sy C z z') (e:z.s.heap.get? a=aA o) (n: ¬ z.W a):z'.s.heap.get? a=aA o/\ ¬ z'.W a:=⟨s.st.keep a o e n,λq=>(s.st.grow a q).elim n λq=>by exact vB e q⟩
inductive Af (D:Wd) (X:Fx) (r:bQ) (z:Zs):Fl->hM->Prop
 |next:Af D X r z .next .next
 |cont:Af D X r z .cont .cont
 |ret {v u d}:Vz D X z v u->yp r u d->Af D X r z (.ret d) (.ret v)
noncomputable def KS (D:Wd) (C:Fc) (X:Fx) (r:bQ) (z:Zs) (fl:Fl) (Q:hM->aN->Prop):Prop:= ∀f Z,FX D C X r Z->Sy C z Z->Af D X r Z fl f->Q f Z.s
noncomputable def JY (D:Wd) (C:Fc) (X:Fx) (z:Zs) (K:Fl->Ls->Prop) (Q:hM->aN->Prop):Prop:= ∀f l,K f l->KS D C X (aL l) z f Q
noncomputable def bV (D:Wd) (C:Fc) (st:cq) (a:S):Prop:= ∀{l K},a D.o l K-> ∀{X:Fx} {z:Zs} {Q:hM->aN->Prop} {Er:aI->aN->Prop},FX D C X (aL l) z->JY D C X z K Q->aO (aY D.prog D.w) X.A (o6 st X.env) Q Er z.s
noncomputable def je (D:Wd) (C:Fc) (h:List cq) (as:List S):Prop:= ∀{l K},sW as D.o l K-> ∀{X:Fx} {z:Zs} {Q:hM->aN->Prop} {Er:aI->aN->Prop},FX D C X (aL l) z->JY D C X z K Q->aO (aY D.prog D.w) X.A (fX h X.env) Q Er z.s
structure NL (D:Wd) (C:Fc) (X:Fx) (r:bQ) (z:Zs) (xs:List aK) (a:aM) (vs:List aI) (n:Nat) (z':Zs):Prop where
 F:FX D C (X.add a) r z'
 s:Sx z z'
 e:z'.s.heap.get? a=aA (listOf vs.toArray n)
 q:iO (X.add a) z' vs xs
 na: ¬ Ex X.Ob z'.W a
 nf:jT C X.env z'.φ a
 nw:z.W a\/z.s.heap.get? a=aF
noncomputable def pW (D:Wd) (C:Fc) (x:aP) (e:E):Prop:= ∀{l} {K:List aK->Ls->Prop},e D.o l (λv l=>jI v λd=> ∃R,d=.list R/\K R l)-> ∀{X:Fx} {z:Zs} {Q:aI->aN->Prop} {Er:aI->aN->Prop},FX D C X (aL l) z->(∀R l,K R l-> ∀a m n Z,NL D C X (aL l) z R a m n Z->Q (.ref a) Z.s)->aO (aY D.prog D.w) X.A (b7 x X.env) Q Er z.s
section
theorem KS.tr (k:KS D C X r z fl Qs) (s:Sy C z z'):KS D C X r z' fl Qs:=λf Z K n q=>k f Z K (s.trans n) q
theorem KS.nx (k:KS D C X r z .next Qs) (K:FX D C X r z') (s:Sx z z'):Qs .next z'.s:=k _ _ K s.y .next
theorem KD:je D C [] []:= @λO O h=>λK k=>zy<|(k _ _ h).nx K .refl
theorem su {st:cq} (A:bV D C st s) (H:je D C sts ss):je D C (st::sts) (s::ss):= @λO O h=>λK k=>ip (A h K λF l g f z R i o=>by
 induction o with
 |next=>exact H g R λO O g=>(k _ _ g).tr i
 |cont=>exact k _ _ g _ _ R i .cont
 |ret q Q=>exact k _ _ g _ _ R i<|.ret q Q)
theorem OT (W: ∀env,jo [c] x pos.line env=pure aE) (s: ∀env,mT [c] x env=pure aF) (A: ∀env,(uj [c] env).map (·.2)=[mR c env]) (M:aZ D C x a) (d:nE D C c t):bV D C (.Assign [c] x pos) (.asg t a):= @λO O h=>λ{X z Q Er} K k=>jV (W X.env) (s X.env) (A X.env) ((M h).run K λv L g u Z R i q=>by
 induction ja g with
 |mk e g=>
  subst e
  induction wM g with|mk b g=>exact d b R q λj P l O=>(k _ _ g).nx P<|i.trans l)
theorem Mw {ds:List aK} (K:FX D C X r z) (hd:d=.tuple ds\/d=.list ds) (q:Rz X z v d) (k: ∀us z',FX D C X r z'->Sx z z'->z'.W=z.W->iO X z' us ds->Q us z'.s):aO (aY D.prog D.w) X.A (QA v ds.length aF) Q Er z.s:=by
 rcases hd with rfl|rfl
 ·induction Ha (D:=D) q with
  | @mk p m n _ x u=>
   refine cw u.len<|cw List.size_toArray<|wpAny_unpackItems_tuple K.R.1 ⟨_,x,rfl,_,rfl⟩ λh P=>?_
   have Z: ∀b o,z.s.heap.get? b=aA o->h.get? b=aA o:=λb o e=>P b o (qo<|kh e) e;exact k m (z.to h z.s.toks) (K.keeps Z<|bh _).1 (K.keeps Z<|bh _).2 rfl (u.mon<|Mon.all Z)
 ·induction Jr (D:=D) q with
  | @mk p m n _ x u=>exact cw u.len<|cw List.size_toArray<|wpAny_toks<|X5 K.R.1 (gM x) λh t Z l=>k m (z.to h t) (K.keeps Z l).1 (K.keeps Z l).2 rfl (u.mon<|Mon.all Z)
noncomputable def EL (D:Wd) (C:Fc) (t:cg->aI->ba Unit) (i:Nat):Prop:= ∀{X:Fx} {z:Zs} {r:bQ} {v:aI} {d:aK} {Q:Unit->aN->Prop} {Er:aI->aN->Prop},FX D C X r z->Rz X z v d->(∀Z,FX D C X (upd r i<|.val d) Z->Sx z Z->Z.W=z.W->Q () Z.s)->aO (aY D.prog D.w) X.A (t X.env v) Q Er z.s
theorem O5: ∀(ts:List (cg->aI->ba Unit)) (o:List Nat) (ds:List aK) {X:Fx} {z:Zs} {r:bQ} {us:List aI} {Q:Unit->aN->Prop} {Er:aI->aN->Prop},ts.length=o.length->ds.length=o.length->(∀p∈ts.zip o,EL D C p.1 p.2)->FX D C X r z->iO X z us ds->
 (∀z',FX D C X ((o.zip ds).foldl (λr p=>upd r p.1<|.val p.2) r) z'->Sx z z'->z'.W=z.W->Q () z'.s)->aO (aY D.prog D.w) X.A (assignInOrder (ts.map λt=>t X.env) us) Q Er z.s:=by
 intro O;induction O with
 |nil=>
  exact λo ds X z r us Q Er l L O K q k=>by
   cases QFG.mp l.symm
   cases QFG.mp L
   exact sb q.kJ<|wpAny_pure<|k z K .refl rfl
 |cons F ts c=>
  exact λo ds X z r us Q Er l L P K q k=>by
   cases o with
   |nil=>contradiction
   |cons i o=>
    cases ds with
    |nil=>contradiction
    |cons d ds=>exact bc q.hU λu us e H b=>sb e<|wpAny_bind<|wpAny_holding<|P (F,i) (.head _) K H λZ R U a=>c o ds (zz l) (zz L) (λp h=>P p<|.tail _ h) R (b.mon U.mon) λz' j n v=>k z' j (U.trans n)<|v.trans a
inductive pb (C:Fc):List aP->List Nat->Prop
 |nil:pb C [] []
 |cons {nm:Str} {p:Pos} {i:Nat} {xs is}:lK C nm i->pb C xs is->pb C (.Name nm p::xs) (i::is)
theorem pb.each (h:pb C xs is): ∃ts:List (cg->aI->ba Unit),ts.length=is.length/\(∀p∈ts.zip is,EL D C p.1 p.2)/\ ∀env,(uj xs env).map (·.2)=ts.map (λt=>t env)/\(uj xs env).length=is.length/\(uj xs env).findIdx? (·.1)=none:=by
 induction h with
 |nil=>exact (gd [] rfl nofun (λenv=>⟨rfl,rfl,rfl⟩))
 | @cons nm p i xs is ok _ d=>
  refine dA d λts a1 a2 a3=>(gd ((λenv v=>mR (.Name nm p) env v)::ts) (QHf DD a1) (λq Q=>?_) λenv=>?_)
  ·cases Q with
   |head=>exact λK q k=>uf<|yw ok K q k
   |tail _ Q=>exact a2 q Q
  ·refine eN (a3 env) λb1 b2 b3=>?_
   have:uj (.Name nm p::xs) env=(aE,mR (.Name nm p) env)::uj xs env:=rfl;refine sb this<|⟨by (erw[List.map_cons];erw[b1]);rfl,congrArg Nat.succ b2,?_⟩
   erw[List.findIdx?_cons];erw[b3];rfl
theorem JQ (e:oB (.tup is) d r=aA r'): ∃ds,(d=.tuple ds\/d=.list ds)/\ds.length=is.length/\r'=(is.zip ds).foldl (λr p=>upd r p.1<|.val p.2) r:=by
 have K: ∀x,(if x.length=is.length then aA ((is.zip x).foldl (λr p=>upd r p.1<|.val p.2) r) else aF)=aA r'->x.length=is.length/\r'=(is.zip x).foldl (λr p=>upd r p.1<|.val p.2) r:=λx e=>by
  by_cases h:x.length=is.length
  ·obtain rfl:=bM (QHd h) e
   exact ⟨h,rfl⟩
  ·exact cb (QHc h) e
 cases d with
 |tuple x=>exact (ax x (.inl rfl)<|K x e)
 |list x=>exact (ax x (.inr rfl)<|K x e)
 |_=>exact ay e
theorem Dj (h:pb C xs is):nE D C (.Tuple xs j pos) (.tup is):=λe=>by obtain ⟨d,o,L,rfl⟩:=JQ e;obtain ⟨t,a,A,p⟩:=h.each;refine λ{X z v Q Er} K q k=>?_;obtain ⟨b,M,B⟩:=p X.env;rw[arm_assign_Tuple];refine aR<|iJ ?_;unfold unpack;simp only[M,B,<-L,b];exact aR<|cO<|Mw K o q λu Z R s W r=>O5 t is d a L A R r λg P l Y=>k g P (s.trans l)<|Y.trans W
inductive oK (C:Fc):List aG->List Nat->Prop
 |nil:oK C [] []
 |cons {nm:Str} {i:Nat} {xs is}:lK C nm i->oK C xs is->oK C (nm::xs) (i::is)
theorem oK.uO (h:oK C xs is):xs.length=is.length/\ ∀p∈(xs.map λn=>(λenv v=>z7 env n v)).zip is,EL D C p.1 p.2:=by
 induction h with
 |nil=>exact ⟨rfl,nofun⟩
 |cons ok _ i=>
  refine ⟨QHf DD i.1,λq Q=>?_⟩;cases Q with
  |head=>exact λK q k=>QFH<|yw ok K q k
  |tail _ Q=>exact i.2 q Q
theorem QCR (W: ∀env,jo [.Tuple L j r] x pos.line env=pure aE)
 (s: ∀env,env.scope.kind=.function->(∀x,env.kindOf x=C.K x)->mT [.Tuple L j r] x env=pure (aA names)) (hn:oK C names is) (hd:is.Nodup) (i:aZ D C x a):bV D C (.Assign [.Tuple L j r] x pos) (.asg (.tup is) a):=λh=>λ{X z Q Er} K k=>by
 have H:=(hn.uO (D:=D));have N:=H.1;have A:=H.2;refine Assign_Tuple_swapped (names:=names) ?_ (W X.env)<|s X.env K.F.hk K.F.hK;refine sb N<|(i h).run K λv o g u z1 Y q q1=>aS (by induction ja g with|mk e g=>exact (ax _ e g): ∃d,v=.d d/\_) λd ev g=>?_
 subst ev;refine aS (by induction wM (t:=.tup is) (x:=d) (l:=o) g with|mk b a=>exact (ax _ b a): ∃f,oB (.tup is) d (aL o)=aA (aL f)/\_) λf b g=>dA (JQ b) λds R hl m=>cw hl<|Mw Y R q1 λus z2 B M w2 Z=>sb (by rw[<-QC,DE];rfl:(names.reverse.map λn=>z7 X.env n)=((names.map λn=>(λenv v=>z7 env n v)).reverse).map λt=>t X.env)<|O5 _ is.reverse ds.reverse (by simp only[List.length_reverse,List.length_reverse,List.length_map,N]) (by rw[List.length_reverse,List.length_reverse,hl]) (λp P=>?_) B (bB.rev Z) λz3 c U O=>?_
 ·rw[NG<|by rw[dY,N]] at P
  exact A p<|DF.mp P
 ·rw[NG hl.symm,QCH] at c
  ·exact k _ _ g _ _ (m▸c) ((q.trans M).trans U).y .next
  ·rw[List.map_fst_zip<|qm hl.symm]
   exact hd
theorem zH {J:aM} {vs:List aI} (s:Sx z'' z) (K:FX D C X r z) (kl:Kl X.env.locals z.s.heap h') (hn:z.s.heap.get? J=aF) (e:h'.get? J=aA (listOf vs.toArray n)) (q:iO X z vs xs) (l:z.s.toks<=tk):NL D C X r z'' xs J vs n (z.to h' tk):=by
 refine ⟨⟨K.F.SI kl hn ⟨_,e⟩,K.R,az K.t l⟩,s.trans<|.kl K kl l,e,bB.mon q λb o e n=>⟨(K.F.F0 kl b o e n).1,λq=>?_⟩,K.F.vN hn,K.F.CF hn,s.st.new hn⟩;rcases q with (q|q)|q
 ·exact n<|.inl q
 ·simp only[q,hn] at e
  exact ay e
 ·exact n<|.inr q
theorem T5 (h:fh D C xs es):pW D C (.List xs pos) (.list es):=λe=>λK k=>Hu (kX (h e) K λds l us z g R i q1=>by
 obtain ⟨Z,_,e,g⟩:=g;cases e
 exact ⟨by simp only[jB,q1.len];exact bJ Z,k _ _ g _ us 0 (z.to _ z.s.toks)<|zH i R (.push _) (ie<|bh _) (fH _ rfl) q1<|bh _⟩)
theorem QBO (h:fh D C xs es) (hb:aZ D C y b):pW D C (.BinOp (.List xs L) .Mult y pos) (.aH .Mult (.list es) b):=λe=>λ{X z Q Er} K k=>wpAny_BinOp ((L5 h e).run K λv o g p x R i q1=>(hb g).run R λw W g A U P j d=>by
 induction I9 g with
 |mk e g=>
  obtain ⟨xs,rfl,g⟩:=g;cases e with
  |mul q u H Z=>
   refine aV (Rd.dk d) λt' t=>sb t ?_;induction kN P (q1.mon j) q with
   |mk M c=>exact dZ P.led λr m a F N kl nw=>wpAny_toks<|KMa.mul F N (gM M) Z H (c.len▸u) rfl λD' B f n Y l=>k _ _ g _ _ 0 (U.to B U.s.toks)<|zH (i.trans j) P (kl _ _ f n λp=>zV _) (nw _ _ _ _ n Y) (n _<|.head _).1 (c.rep _) l)
theorem Zi {vs:List aI} (g:C.nw=aB) (ok:lK C nm i) (N:NL D C X r z xs p vs n z') (k: ∀z'',FX D C X (upd r i<|.own xs) z''->Sy C z z''->Q () z''.s):aO (aY D.prog D.w) X.A (Ct X.env nm<|.ref p) Q Er z'.s:=by
 refine bI (C.nM ok.t) λhw H=>?_;have F:=FR.adopt (N.F.F.forget i hw H) H (λj k n _ q=>by have t:=C.low nm i ok.t;rw[<-q] at t;unfold cU at t;exact ky t) ⟨_,N.e⟩ N.na N.nf;have q2:bB (Ex X.Ob λb=>z'.W b\/b=p) z'.s.heap vs xs:=JV (Ob:=X.Ob)▸N.q;refine wpAny_toks (F.store ok.t ok.s ok.k (sl:=.own xs) (λh' O m=>(ax p (QHd rfl) rfl)) (λys Z=>by cases Z;exact (qT p vs n (QHd rfl) N.e q2<|.inr rfl)) λh' tk K s2 l=>?_);refine k {s:={z'.s with heap:=h',toks:=tk},W:=_,φ:=_} ⟨K,N.F.R,az N.F.t l⟩ ⟨⟨λb o e w=>?_,λb w=>?_⟩,az N.s.t l,⟨λz=>(by rw[g] at z;exact yr z),λO=>(QHc<|lO H).trans<|congrFun N.s.f aT,λj b e=>?_⟩,by exact sb N.s.e rfl⟩
 ·have f:=N.s.fresh (J:=p) e w
  refine s2.keep b o f.1 λq=>q.elim f.2 λq=>cp (N.nw) (λh=>?_) λh=>?_
  ·exact w<|q▸h
  ·rw[q,h] at e
   exact ay e
 ·refine cp (s2.grow b w) (λw=>?_) λw=>?_
  ·refine cp (w) (λw=>?_) λw=>?_
   ·exact N.s.st.grow b w
   ·exact w▸N.nw
  ·exact N.s.st.new w
 ·have u:(if j=i then aA p else z'.φ j)=aA b:=e
  by_cases B:j=i
  ·clear g ok k hw H F q2 K s2 l e
   obtain rfl:=bM (QHd B) u;exact .inr N.nw
  ·rw[if_neg B,N.s.f] at u
   exact .inl ⟨j,u⟩
theorem Ri (W:C.nw=aB) (o:lK C nm i) (s: ∀env,jo [.Name nm u] x pos.line env=pure aE) (M:pW D C x a):bV D C (.Assign [.Name nm u] x pos) (.own i a):= @λO O h=>λ{X z Q Er} K k=>jV (s X.env) rfl rfl (M h K λR L g p v n Z N=>uf<|Zi W o N λj P l=>k _ _ g _ _ (by rw[fR];exact P) l .next)
theorem G_ {tt:cS} (bb:Bool) (W: ∀env,env.scope.kind=.function->(∀x,env.kindOf x=C.K x)->jo [.Name nm p] (.ListComp elt [⟨target,iter,ifs,0⟩] scope N) pos.line env=pure bb)
 (q:lK C nm i) (hb:C.bd+200<=1000000/\scope.names.length<=200) (c:m6 C scope tt target iter) (M:iC D C aE iter it) (d:nE D (C.sub scope.names aB aE hb) target tt) (A:oT D (C.sub scope.names aB aE hb) ifs conds) (B:aZ D (C.sub scope.names aB aE hb) elt ee):
 bV D C (.Assign [.Name nm p] (.ListComp elt [⟨target,iter,ifs,0⟩] scope N) pos) (.asg (.one i)<|.comp ee tt it conds):=λh=>λ{X z Q Er} K k=>by
 induction bb with
 |false=>exact jV (W X.env K.F.hk K.F.hK) rfl rfl ((Oz c M d A B h).run K λv L g u z1 Z s1 q1=>by
  induction ja g with
  |mk e g=>
   subst e
   induction wM (t:=.one i) (l:=L) g with|mk b g=>exact Fj q b Z q1 λz2 P j O=>(k _ _ g).nx P<|s1.trans j)
 |true=>
  rw[QB];refine aR<|iJ ?_;refine sb (W X.env K.F.hk K.F.hK)<|wpAny_bind<|wpAny_pure ?_
  refine sb (QHd rfl)<|wpAny_bind<|wpAny_bind<|M9 c M d A B h K λys L g U u z' F nx nf s nn rd ⟨m,r⟩=>?_
  refine uf<|yw (X:=X.add U) q F rd λz2 P j Y=>(ax m (r.at λo e=>j.st.keep _ o e λw=>F.F.dR _ w<|.inr rfl) λH sb=>bA<|bA ?_);exact bI (P.drop (Y▸nx) (j.f▸nf) (λa o e n=>(sb.2 a n).trans e)<|bh _) λR m3=>k _ _ g .next (z2.to H z2.s.toks) (by rw[fR];exact R) (Sx.y ⟨⟨λa o e n=>(sb.2 a<|nn a o e n).trans<|(s.trans j).st.keep a o e n,(s.trans j).st.grow⟩,(s.trans j).t,(s.trans j).f,by refine (?_:{z2.s with heap:=H}=_);rw[(s.trans j).e];rfl⟩) .next
end
section
theorem Yw {w:bz} (hb:wG op a b z) (h: ∀t tk,Q (.int z t) {s with toks:=tk}):aO (aY prog w) A (inplaceOp op (.int a t)<|.int b t') Q Er s:=by
 induction hb with
 |add=>exact iadd_int<|h _ _
 |sub=>exact isub_int<|h _ _
 |shl q R=>exact ilshift_int q R<|h _ _
 |shr q=>exact irshift_int q<|h _ _
theorem Xx (o:lK C nm i) (P:C.K nm=aA .local) (W:(nm==("__classdict__"))=aE) (hd:(nm==("__debug__"))=aE) (f:aZ D C x a):bV D C (.AugAssign (.Name nm n) op x pos) (.aug i op a):= @λO O h=>λ{X z Q Er} K k=>wpAny_AugAssign_Name (by
 refine aS K.F.loc λm p N=>?_;have q:=N nm i P o.t;refine aS ((mj h).resolve_right id) λO b h=>?_;simp only[U5 b] at q;refine aS q λu e q=>aV (Rd.dk q) λv H=>?_;clear b q;subst H
 exact Pj K.F.hk ((K.F.hK nm).trans P) p e (qN (f h) K λj l r Z g R U=>by
  induction Zw g with
  |mk s g=>exact wpAny_toks<|Yw s λB A L=>yw o (R.kl (.refl _ _) L) (Rd.int _ B) λY c M O=>(k _ _ g).nx (by simp only[fR];exact c)<|(U.trans<|.kl R (.refl _ _) L).trans M))
theorem Bb (K:env.scope.kind=.function) (W:DG x aF pos.line env=pure aE) (h:aO M A (b7 x env) (λv N=>(z9 x pos v=pure .next)/\Qs .next N) Er s):aO M A (o6 (.Expr x pos) env) Qs Er s:=by
 rw[arm_exec_Expr];refine aR<|iJ ?_;have i:interactive env=false:=by dsimp only[interactive];erw[K];rfl
 erw[i]
 skip
 refine sb W<|wpAny_bind<|wpAny_pure ?_
 exact sb (QHc<|by decide)<|wpAny_bind (wpAny_mono h (λv N H=>by erw[H.1];exact bA H.2) λO O x=>x)
theorem Z1 (s: ∀env,DG x aF pos.line env=pure aE) (d:z9 x pos .none=pure .next) (q: ∀u t,z9 x pos (.str u t)=pure .next) (M:aZ D C x a):bV D C (.Expr x pos) (.expr a):= @λO O h=>λ{X z Q Er} K k=>Bb K.F.hk (s X.env) ((M h).run K λv l g p Z R i b=>by
 induction ja g with
 |mk e g=>
  subst e;refine bI g λe r=>?_;clear s M h K g;rcases e with rfl|⟨y,rfl⟩
  ·exact sb (Rd.none_inv b)<|⟨d,(k _ _ r).nx R i⟩
  ·exact aV (Rd.dO b) λo H=>sb H<|⟨q _ _,(k _ _ r).nx R i⟩)
theorem FX.write {vs:List aI} (K:FX D C X r z) (d:i≠bR) (e:r i=.own xs) (l:z.φ i=aA p) (a:z.W p) (k: ∀b o,z.s.heap.get? b=aA o->b≠p->h'.get? b=aA o) (u:h'.get? p=aA (listOf vs.toArray n'))
 (q:Mon (Ex X.Ob z.W) z.s.heap (Ex X.Ob z.W) h'->bB (Ex X.Ob z.W) h' vs ys):FX D C X (upd r i<|.own ys) (z.to h' z.s.toks)/\Sx z (z.to h' z.s.toks):=by
 exact bI (K.F.write d e l a k u<|q λb o e n=>⟨k b o e λq=>n<|.inr<|q▸a,n⟩) λF s=>⟨⟨F,K.R,K.t⟩,⟨s,bh _,rfl,rfl⟩⟩
theorem FX.ow (K:FX D C X r z) (h:r i=.own xs) (q:Vz D X z u (.bor i)): ∃p vs n,u=.ref p/\z.φ i=aA p/\z.s.heap.get? p=aA (listOf vs.toArray n)/\bB (Ex X.Ob z.W) z.s.heap vs xs:=by
 refine aS q λp x e=>sb e<|dT (K.F.own i xs h) λP vs n v l m=>?_
 rw[x] at v;cases v;exact (qT p vs n rfl x l m)
theorem Bv (o:hZ C nm i) (h:aL l i=.own xs):Ev D C (.Name nm pos) l λv L=>v=.bor i/\L=l:=si o (by dsimp only[kV];erw[h];exact ⟨rfl,rfl⟩:iB (kV (aL l) i) _ False)
theorem OZ {i:Nat} {q:aK->Ls->Prop} (hm:MC x "append" H pos [y]) (R:Ev D C x l λv l'=>v=.bor i/\l'=l) (h0:aL l i=.own ys) (hs: ∀env,fI [y] env=[(aE,b7 y env)]) (hy:Ev D C y l λv l=>jI v λd=>q d l) (t:i≠bR) (K:FX D C X (aL l) z)
 (M: ∀d l,q d l-> ∃xs,aL l i=.own xs/\xs.length<16777216/\(∀{Z a},FX D C X (aL l) Z->Z.φ i=aA a->Z.W a)/\KS D C X (aL<|cL l i<|.own<|xs++[d]) z .next Qs):aO (aY D.prog D.w) X.A (o6 (.Expr (.Call (.Attribute x "append" H) [y] [] pos) L) X.env) Qs Er z.s:=by
 refine Bb K.F.hk rfl (Et hm QFI PySem.F.slot_list_append PySem.F.type_list_append R K ?_)
 rintro _ _ ⟨rfl,rfl⟩ u z2 P Q q2
 refine dZ (P.ow h0 q2) λp aa n0 r f1 f f3=>?_;subst r;refine ⟨⟨_,f,rfl⟩,λb e=>(by cases e;exact (ax _ f rfl)),?_⟩;refine sb (hs X.env)<|spliced_cons<|hy.run P λv l1 g u z3 c U q3=>lP ?_
 cases ja g with
 | @mk d ev g=>subst ev;refine se (M _ _ g) λxs h hz w k=>dZ (c.ow h<|q2.mon U) λp' vs n e e1 B j=>?_;cases e;refine wpAny_toks (QEt (hsz:=by simp only[gm,j.len,jB];exact sD ‹_›) ⟨n,B⟩ λh4 pl sb l4=>?_);exact aV pl λn4 e7=>bI (c.write (ys:=xs++[d]) (vs:=vs++[u]) (n':=n4) t h e1 (w c e1) (λb o e n=>(sb.2 b n).trans e) (by rw[e7];simp[zh]) λm=>(j.mon m).app<|bB.cons (Rd.mon q3 m) bB.nil) λY N=>⟨rfl,k.nx (by rw[fR];exact Y)<|(Q.trans U).trans N⟩
theorem RR (o:C.ow=aB) (f:hZ C nm i) (m:MC (.Name nm p) "append" a pos [y]) (hs: ∀env,fI [y] env=[(aE,b7 y env)]) (Y:aZ D C y b):bV D C (.Expr (.Call (.Attribute (.Name nm p) "append" a) [y] [] pos) P) (.app i b):= @λO O h=>λK k=>by
 induction jG h with
 |mk L h=>
  have q:=(C.nM f.t);have W:=q.1;have A:=q.2;refine OZ m (Bv f L) L hs (Y h) W K λd l g=>?_;induction jG g with
  |mk H g=>exact (kM _ H g.1 (λF e=>F.F.gN o i _ _ H e A)<|k _ _ g.2)
theorem QEE [H:cz D] (hb:aZ D C x .e6) (m:MC x "append" a pos [y]) (hs: ∀env,fI [y] env=[(aE,b7 y env)]) (Y:aZ D C y b):bV D C (.Expr (.Call (.Attribute x "append" a) [y] [] pos) p) (.qP b):= @λO O h=>λK k=>by
 have i:=h.1;have h:=h.2;induction jG h with
 |mk q h=>
  refine OZ m (hb ⟨i,rfl,rfl⟩) q hs (Y h) (by decide) K λd l g=>?_;induction jG g with
  |mk A g=>exact (kM _ A g.2.1 (λF e=>F.F.jf _ A g.1 _ e)<|k _ _ g.2.2)
theorem YA (L:C.ow=aB) (f:hZ C nm i) (M:MC (.Name nm p) "reverse" a pos []):bV D C (.Expr (.Call (.Attribute (.Name nm p) "reverse" a) [] [] pos) c) (.qV i):= @λO O h=>λ{X z Q Er} K k=>by
 induction jG h with
 |mk h0 g=>
  have B:=g.1;have g:=g.2;have H:=(C.nM f.t);have v:=H.1;have A:=H.2;refine Bb K.F.hk rfl (wx (M.base X.env) (M.qG X.env) M.line<|(Bv (D:=D) f h0).run K ?_)
  rintro _ _ ⟨rfl,rfl⟩ u Z R j q2
  refine dZ (R.ow h0 q2) λp vs n r e1 l q=>?_;subst r;refine ⟨"list","list.reverse",QFI,PySem.F.slot_list_reverse,PySem.F.type_list_reverse,⟨_,l,rfl⟩,λb e=>(by cases e;exact (ax _ l rfl)),PySem.P.reverse_list (n:=n) l ?_<|jB▸Lo q B⟩
  have H:=(R.write (ys:=_) (h':=Z.s.heap.update p<|Obj.mapSeq λx=>x.reverse) v h0 e1 (R.F.gN L i _ p h0 e1 A) (λb o e n=>((ID ..).2 b n).trans e) (vs:=vs.reverse) (n':=n) (by
   erw[wz _ l<|by rfl];have:=mapSeq_reverse vs.toArray n
   simpa[zh] using this) λm=>bB.rev<|q.mon m);have U:=H.1;have N:=H.2
  exact ⟨rfl,(k _ _ g).nx (by simp only[fR];exact U)<|j.trans N⟩
theorem bB.set {X:aM->Prop}: ∀{ds:List aK} {us:List aI} (j:Nat) {u:aI} {d:aK},bB X h us ds->Rd X h u d->bB X h (us.set j u) (ds.set j d):=by
 intro ds;induction ds with
 |nil=>exact @λus j u d q O=>sb q.kJ<|bB.nil
 |cons W ds i=>
  exact @λus j u d q w=>by
   refine bc q.hU λU us e o Q=>sb e ?_;induction j with
   |zero=>exact bB.cons w Q
   |succ j O=>exact bB.cons o<|i j Q w
theorem Zh (L:C.ow=aB) (q:hZ C nm i) (s: ∀env,jo [.Subscript (.Name nm p) y N] x pos.line env=pure aE) (B:aZ D C x a) (hy:aZ D C y b):bV D C (.Assign [.Subscript (.Name nm p) y N] x pos) (.set i b a):= @λO O h=>λ{X z Q Er} K k=>jV (s X.env) rfl rfl ((B h).run K λv l1 g u z1 P s1 q1=>by
 refine bI (C.nM q.t) λhw Y=>?_;induction ja g with
 |mk ev g=>
  subst ev;induction jG g with
  |mk d g=>
   rw[QD];refine aR<|cO<|(Bv q d).run P ?_;clear q s B h K P d;intro _ _ H ov z2 K2 M q2;have f:=H.1;have Z:=H.2;clear H;subst f;subst Z;refine aR<|cO<|qN (hy g) K2 λj l t' z3 g c U=>?_;induction jG g with
   |mk h0 g=>
    refine j5 g λj0 j1 j2 g=>dZ (c.ow h0<|q2.mon U) λp vs n r A f3 R=>?_;clear q2;subst r;refine aR (iJ<|aR<|cO<|Ka f3 j0 ((bG ‹0<=j/\j<(↑a_3.length)/\a_3.length<2^63/\O Fl.next (cL l i<|Sl.own<|a_3.set j.toNat a_1)›.2.1 (oL ‹0<=j/\j<(↑a_3.length)/\a_3.length<2^63/\O Fl.next (cL l i<|Sl.own<|a_3.set j.toNat a_1)›.2.2.1))) (by simp only[gm,R.len];exact j1) λh4 n4 f5 sb=>?_)
    exact IE<|bI (c.write (h':=h4) hw h0 A (c.F.gN L i _ p h0 A Y) (λb o e n=>(sb.2 b n).trans e) (vs:=vs.set j.toNat u) (n':=n4) (by simp only[f5];simp[zh]) λm=>bB.set _ (R.mon m)<|Rd.mon (q1.mon<|M.trans U) m) λK4 s4=>(k _ _ g).nx (by simp only[fR];exact K4)<|((s1.trans M).trans U).trans s4)
theorem QAj {as bs:List S} (c:eT D C x t) (a:je D C xs as) (hb:je D C ys bs):bV D C (.If x xs ys pos) (.cA t as bs):= @λO O h=>λK k=>IF ((c h).run K λb l g z R s=>by
 rcases g with ⟨rfl,g⟩|⟨rfl,g⟩
 ·exact a g R λO O g=>(k _ _ g).tr s.y
 ·exact hb g R λO O g=>(k _ _ g).tr s.y)
theorem TG:bV D C (.Continue pos) .cont:= @λO O h=>λK k=>QFJ<|k _ _ h _ _ K Sx.refl.y .cont
theorem WI:bV D C (.Return aF pos) (.ret aF):= @λO O h=>λK k=>by rw[arm_exec_Return];exact aR<|iJ<|bA<|k _ _ h _ _ K Sx.refl.y<|.ret (v:=.none) (u:=.d .none) Rd.none .d
theorem Mz (M:aZ D C x a):bV D C (.Return (aA x) pos) (.ret<|aA a):= @λO O h=>λK k=>wpAny_Return_some ((M h).run K λv l g p z R s q=>by
 induction g with|mk e g=>exact k _ _ g _ _ R s.y<|.ret q e)
end
section
theorem MD {w:bz} {J:aM} {St:Nat->bK->Prop}
 (u:sQ prog w A J fp [J] n P St) (al: ∀i h,St i h-> ∃o T,h.get? J=aA o/\o.cls=.type T/\vy.contains T=aE) (I:Nat->aN->Prop) (C: ∀j s,I j s->St j s.heap) (h0:I 0 s)
 (d: ∀s h' tk,I n s->(∀a o,s.heap.get? a=aA o->a≠J->h'.get? a=aA o)->s.toks<=tk->R (.ok .next) {s with heap:=h',toks:=tk})
 (turn: ∀j s h' tk v,j<n->I j s->P j v->St (j+1) h'->(∀a o,s.heap.get? a=aA o->a≠J->h'.get? a=aA o)->s.toks<=tk-> ∀Er,aO (aY prog w) A (mR target env v) (λO W=>aO (aY prog w) A (fX body env) (λf Q=>match f with|.next=>I (j+1) Q|.cont=>I (j+1) Q|.brk=>False|.ret v=>R (.ok<|.ret v) Q) Er W) Er {s with heap:=h',toks:=tk}):
 uh (aY prog w) A (.forLoop target (.ref J) body [] env) R s:=by
 refine QFK (λm U=> ∃j,j<=n/\m=n+1 - j/\I j U) ?_ (n+1)<|gd 0 (hJ _) rfl h0;intro m U t;obtain ⟨j,K,r,F⟩:=t;by_cases L:j<n
 ·refine wpAny_toks (u.item j _ _ _ L (C j U F) λv h' tk hP st k l=>?_)
  refine bc (al _ _ st) λN Y p g z=>Mh p g z (eY (turn j U h' tk v L F hP st (λa o e q=>k a o (by simpa using q) e) l _) (λO W B=>eY B (λf Q H=>?_) λO O x=>x) λO O x=>x);have nx: ∀{Q},I (j+1) Q-> ∃M,M<m/\ ∃j,j<=n/\M=n+1 - j/\I j Q:=λh=>⟨n+1 - (j+1),by (clear turn d H B;exact (bD (na (nL<|sE ((aQ L):j+1<=n+1))<|nR<|sE ((aQ L):j<=n+1))<|nR r)),j+1,L,rfl,h⟩;induction f with
  |next=>exact nx H
  |cont=>exact nx H
  |brk=>exact H.elim
  |ret v=>exact H
 ·cases jk K (iH.mp L)
  exact wpAny_toks (u.done _ _ _ (C _ U F) λh' tk k l=>zy<|d U h' tk F (λa o e q=>k a o (by simpa using q) e) l)
end
section
structure FB (D:Wd) (C:Fc) (X:Fx) (J:aM) (fp:List aM) (St:Nat->bK->Prop) (z0 z2:Zs) (j:Nat) (z:Zs):Prop where
 st:St j z.s.heap
 nJ: ¬ Ex X.Ob z.W J
 nf:jT C X.env z.φ J
 mon:Mon (Ex (X.add J).Ob z2.W) z2.s.heap (Ex (X.add J).Ob z.W) z.s.heap
 fp: ∀b∈fp,(∃o,z.s.heap.get? b=aA o)/\(b≠J-> ¬ z.W b)
 sy:Sy C z0 z
theorem FB.Nk {J:aM} {L:List aM} {St:Nat->bK->Prop} (B:FB D C X J L St Z z2 j z) (K:FX D C (X.add J) r z) (U:FX D C (X.add J) r₁ z') (s:Sy C z z') (u:sQ D.prog D.w X.A J L [J] n P St):FB D C X J L St Z z2 j z':=by
 have N: ∀b∈L, ¬ z.W b:=λb h w=>by
  by_cases q:b=J
  ·exact K.F.dR b w<|.inr q
  ·exact (B.fp b h).2 q w
 refine aV (K.F.dg J<|.inl<|.inr rfl) λd a=>⟨u.frame _ _ _ B.st λb h o e=>s.st.keep b o e<|N b h,λq=>q.elim (λq=>B.nJ<|.inl q) λw=>U.F.dR J w<|.inr rfl,⟨λi q=>?_,B.nf.l,B.nf.c⟩,B.mon.trans s.st.mon,λb h=>?_,B.sy.trans s⟩
 ·rcases s.p.sub i J q with ⟨M,q⟩|q|q
  ·exact B.nf.p M q
  ·exact K.F.dR J q<|.inr rfl
  ·rw[a] at q
   exact qU q
 ·have H:=(B.fp b h)
  have Q:=H.1;refine aV Q λo e=>?_;have f:=s.fresh e<|N b h;exact ⟨⟨o,f.1⟩,λO=>f.2⟩
theorem Sy.L3 {J:aM} (s:Sy C z z') (nw: ∀a o,z.s.heap.get? a=aA o-> ¬ z.W a->a≠J) (k: ∀a o,z'.s.heap.get? a=aA o->a≠J->h'.get? a=aA o) (l:z'.s.toks<=tk):Sy C z (z'.to h' tk):=⟨⟨λa o e n=>k a o (s.st.keep a o e n)<|nw a o e n,s.st.grow⟩,az s.t l,s.p,by refine (?_:{z'.s with heap:=h',toks:=tk}=_);erw[s.e];rfl⟩
theorem Uk {tt:cS} (hf: ∀env x,H6 iter env x=pure x) (hI:iC D C aB iter it) (hT:nE D C target tt) (hB:je D C body bs):bV D C (.For target iter body [] pos) (.fE tt it bs):= @λl0 Kk h=>λ{X z Q Er} K k=>wpAny_For (hI h K λxs l1 e2 z2 J fp P St i=>by
 refine MD i.walk i.alive (λj s=> ∃z' lj,s=z'.s/\FX D C (X.add J) (aL lj) z'/\FB D C X J fp St z z2 j z'/\fW tt bs D.o (xs.drop j) lj Kk) ?_ (jj z2 l1 rfl i.F ⟨i.st,i.nJ,i.nf,Mon.refl _ _,λb hb=>⟨i.nv b hb,i.Mi rfl b hb⟩,i.sx.y⟩ e2) ?_ ?_
 ·intro j s n
  refine iT n λz' rj N O B O=>?_;clear n;subst N;exact B.st
 ·intro s h' tk p M l
  refine iT p λz' rj m Kj B W=>?_;clear p;subst m;rw[QEu] at W;exact k _ _ W .next _ (Kj.drop B.nJ B.nf M l).1 (B.sy.L3 i.new M l) .next
 ·intro j s h' tk u L Z hP R M l aa
  refine iT Z λz' rj r Kj B W=>?_;clear Z;subst r;refine aS (i.items j u hP) λd hd rd=>cT (i.alive _ _ R) λo1 T1 A O=>?_;have H:=(Kj.turn (X:=X.add J) (.inr rfl) B.nf M ⟨o1,A⟩ l);have K1:=H.1;have m1:=H.2
  have B1:FB D C X J fp St z z2 (j+1) (z'.to h' tk):=⟨R,B.nJ,B.nf,B.mon.trans m1,λb hb=>⟨by
   by_cases q:b=J
   ·exact ⟨o1,q▸A⟩
   ·have H:=(B.fp b hb)
    have t:=H.1
    exact aV t λo e=>⟨o,M b o e q⟩,(B.fp b hb).2⟩,B.sy.L3 i.new M l⟩
  have Y:=Rd.mon rd B1.mon;rw[show xs.drop j=d::xs.drop (j+1) by erw[H8 L];obtain rfl:=bM (sR L) hd;rfl] at W;refine aS (by induction wM W with|mk b a=>exact (ax _ b a): ∃lx,oB tt d (aL rj)=aA (aL lx)/\_) λlx b W=>hT b (X:=X.add J) K1 Y λz3 K3 s3 O=>hB W (X:=X.add J) K3 λfl l4 g f c U s4 fi=>?_;have v:=(B1.Nk K1 K3 s3.y i.walk).Nk K3 U s4 i.walk;induction fi with
  |next=>exact (jj c _ rfl U v g)
  |cont=>exact (jj c _ rfl U v g)
  |ret q q'=>
   have H:=(U.drop v.nJ v.nf (λO O e O=>e)<|bh _);have K5:=H.1;have m5:=H.2
   exact k _ _ g (.ret _) c K5 v.sy<|.ret (VR.mon q m5) q') (hf X.env)
theorem QAd (M:eT D C x t) (B:je D C body bs):bV D C (.While x body [] pos) (.n9 t bs):= @λp r h=>λ{X z Q Er} K k=>by
 refine aV h λn e=>wpAny_While<|QFL (λn Y=> ∃z' L,Y=z'.s/\FX D C X (aL L) z'/\Sy C z z'/\wW t bs D.o n L r) ?_ n<|jj z _ rfl K Sx.refl.y e;intro n Y H;refine iT H λz' L A u U d=>?_;clear H;subst A;induction n with
 |zero=>exact d.elim
 |succ n=>
  refine (M d).run u λb l g Z R i=>?_;rcases g with ⟨rfl,g⟩|⟨rfl,g⟩
  ·refine sb (QHd rfl)<|B g R λfl W g f N P j F=>?_
   induction F with
   |next=>exact ⟨_,uc _,N,_,rfl,P,(U.trans i.y).trans j,g⟩
   |cont=>exact ⟨_,uc _,N,_,rfl,P,(U.trans i.y).trans j,g⟩
   |ret q v=>exact k _ _ g _ _ P ((U.trans i.y).trans j)<|.ret q v
  ·exact sb (QHc<|by decide)<|wpAny_execs_nil<|k _ _ g _ _ R (U.trans i.y) .next
end
section
variable {A:cV} {E:aI->aN->Prop}
theorem Uj {l b sl:aM} {items i:Array aI} (hl:s.heap.get? l=aA (W.listOf items n)) (hb:s.heap.get? b=aA (W.listOf i e)) (N:l≠b)
 (hs:s.heap.IsSliceOf sl .none .none .none) (hsz:items.size+i.size<=mL)
 (hQ: ∀h' n',h'.get? l=aA (W.listOf i n')->Hk l s.heap h'->Q () {s with heap:=h'}):
 aO (aY prog w) A (H9 (.ref l) (.ref sl)<|.ref b) Q E s:=by
 have L:s.heap.IsList l items:=⟨_,hl,rfl,n,rfl⟩;have P:s.heap.IsList b i:=⟨_,hb,rfl,e,rfl⟩;refine dA (id hs) λos o c d=>?_;have t:s.TypeIs (.ref sl) "slice" :=(ax os o c);dsimp only[H9]
 try with_reducible refine cO ?_
 first|refine wpAny_bind (wpAny_pure ?_)|skip
 refine aR (QFB L.typeIs (by decide) ?_)
 refine aR (QFC L.typeIs IA
  (IB IA L.typeIs QFD ?_<|QFE _ _ _))
 refine (?_:aO _ _ (Builtin.List.listSubscript? (.ref sl)>>=_) _ _ s);refine aR<|wpAny_bind<|wpAny_specialOf t slice_no_index ?_
 refine bA<|wpAny_bind<|wpAny_typeOf t ?_
 erw[if_neg<|by decide];rw[listSliceParts_eq];refine aR<|aR<|wpAny_field o d rfl (aR<|QFM .none ?_);refine sb (QHc<|by decide)<|wpAny_bind<|wpAny_field o d rfl (wpAny_bind<|wpAny_listPart .none ?_)
 refine aR<|wpAny_field o d rfl (aR<|QFM .none<|bA ?_);have h:Builtin.List.listSameRef (.ref l) (.ref b)=false:=QHh N
 refine sb h<|wpAny_bind<|wpAny_bind<|wpAny_typeOf P.typeIs ?_
 refine sb (QHd<|by rfl)<|wpAny_bind<|wpAny_seqItems hb rfl (wpAny_pure ?_)
 refine aR<|aR<|IG hl rfl (bA ?_);have B:kf aF aF aF items.size=(0,(items.size:Int),1):=by rfl
 refine aR (qr (sliceIndices_raw aF aF aF items.size<|by simp) ?_);erw[B];dsimp only;refine sb (QHd<|by rfl)<|wpAny_bind<|wpAny_rule ?_
 have Y:Builtin.List.listTooLong (items.size+i.size)=false:=decide_eq_false<|iH.mpr hsz
 erw[Y]
 skip
 have F:(λx:Array aI=>x.extract 0 (0:Int).toNat++i++x.extract (max (0:Int) (items.size:Int)).toNat) items=i:=by have:(max (0:Int) (items.size:Int)).toNat=items.size:=Cs _;simp[this]
 have f: ∃n',(s.heap.update l<|Obj.mapSeq λx=>x.extract 0 (0:Int).toNat++i++x.extract (max (0:Int) (items.size:Int)).toNat).get? l=aA (W.listOf i n'):=by refine ⟨if i.size==items.size then n else n+1,?_⟩;erw[wz _ hl<|by rfl];unfold Obj.mapSeq;dsimp only;dsimp only at F;exact sb F rfl
 refine aV f λn' f=>aR (QFN hl rfl ?_ (az (mO _ _) ‹_›) (by dsimp only at F;erw[F];exact aQ hsz));refine aR<|wpAny_letGo ?_;exact bA<|ax .none rfl (bA<|hQ _ n' f<|ID ..)
end
section
theorem FR.swap {G:bK} {k:Nat} (F:FR P G C env Ob φ W r h) (o:C.ow=aB) (Y:k<1000000) (e:r k=.own xs) (eh: ∀ys,r aT≠ .own ys):
 FR P G C env Ob (λj=>if j=aT then φ k else if j=k then aF else φ j) W (upd (upd (upd r aT<|.own xs) bR .emp) k<|.ali aT) h:=by
 have N:k≠aT:=λq=>by rw[q] at Y;exact QHb Y (by decide)
 have kw:k≠bR:=λq=>by rw[q] at Y;exact QHb Y (by decide)
 have u:aT≠bR:=by decide
 have pn:=F.lD eh;have A: ∀j,j≠aT->j≠bR->j≠k->upd (upd (upd r aT<|.own xs) bR .emp) k (.ali aT) j=r j:=λj H L Q=>by unfold upd;(erw[if_neg Q];erw[if_neg L];exact sb (QHc H) rfl)
 have B:upd (upd (upd r aT<|.own xs) bR .emp) k (.ali aT) k=.ali aT:=by unfold upd;exact sb (QHd rfl) rfl
 have s:upd (upd (upd r aT<|.own xs) bR .emp) k (.ali aT) aT=.own xs:=by unfold upd;(erw[if_neg<|lO N];erw[if_neg u];exact sb (QHd rfl) rfl)
 have l:upd (upd (upd r aT<|.own xs) bR .emp) k (.ali aT) bR=.emp:=by unfold upd;(erw[if_neg<|lO kw];exact sb (QHd rfl) rfl)
 refine dT (F.own k xs e) λa vs n M e0 e1=>?_;have wa:=F.gN o k xs a e M N;have Z:(λj=>if j=aT then φ k else if j=k then aF else φ j) aT=aA a:=by refine (?_:(if aT=aT then φ k else _)=_);erw[if_pos rfl];exact M
 have U: ∀j,j≠aT->j≠k->(λj=>if j=aT then φ k else if j=k then aF else φ j) j=φ j:=λj H L=>by refine (?_:(if j=aT then φ k else if j=k then aF else φ j)=φ j);(erw[if_neg H];exact sb (QHc L) rfl)
 have gk: ∀j v,j<1000000->da P φ env.cells (Ex Ob W) h j v (r j)->da P (λj=>if j=aT then φ k else if j=k then aF else φ j) env.cells (Ex Ob W) h j v (upd (upd (upd r aT<|.own xs) bR .emp) k (.ali aT) j):=by
  intro j v g x;have jh:j≠aT:=λq=>by rw[q] at g;exact QHb g (by decide)
  have jw:j≠bR:=λq=>by rw[q] at g;exact QHb g (by decide)
  by_cases K:j=k
  ·clear Y N kw A s l U g jh jw
   subst K;erw[B];rw[e] at x;refine aS x λb q1 q2=>?_;obtain rfl:=bM M q1;exact ⟨rfl,a,Z,q2⟩
  ·erw[A j jh jw K]
   induction hr:r j with
   |own ys=>rw[hr] at x;exact aS x λb q1 q2=>(ax b ((U j jh K).trans q1) q2)
   |ali m=>rw[hr] at x;obtain ⟨q0,b,q1,q2⟩:=x;subst q0;exact cb pn q1
   |inst=>rw[hr] at x;exact bc x λy b q1 q2 q3=>cb pn q1
   |eC m=>rw[hr] at x;refine iT x λb m' q1 q2 q3 q4=>?_;have pe: ∀t,(λj=>if j=aT then φ k else if j=k then aF else φ j) (cU j t)=φ (cU j t):=λt=>U _ (λq=>by unfold cU aT at q;lia -abstractProof) (λq=>by rw[<-q] at Y;unfold cU at Y;exact ky Y);refine (jj b m' q1 ?_ q3 (λt ht=>by rw[pe];exact q4 t ht));simp only[pe];exact q2
   |unb=>trivial
   |val d=>rw[hr] at x;exact x
   |clo f=>rw[hr] at x;exact x
   |emp=>rw[hr] at x;exact x
 have own: ∀j ys,upd (upd (upd r aT<|.own xs) bR .emp) k (.ali aT) j=.own ys->(j=aT/\ys=xs)\/(j≠aT/\j≠k/\j≠bR/\r j=.own ys):=λj ys q=>by
  by_cases H:j=aT
  ·subst H
   rw[s] at q;clear e;cases q;exact .inl ⟨rfl,rfl⟩
  ·by_cases L:j=bR
   ·clear H
    subst L;rw[l] at q;exact nomatch q
   ·by_cases Q:j=k
    ·clear Y e N kw A s l M Z U gk H L
     subst Q;rw[B] at q;exact nomatch q
    ·rw[A j H L Q] at q
     exact .inr<|kq H Q L q
 have R: ∀j b,(λj=>if j=aT then φ k else if j=k then aF else φ j) j=aA b->(j=aT/\φ k=aA b)\/(j≠aT/\j≠k/\φ j=aA b):=λj b q=>by
  by_cases H:j=aT
  ·subst H
   clear o e eh N kw u pn A B;obtain rfl:=bM Z q;exact .inl ⟨rfl,M⟩
  ·by_cases Q:j=k
   ·have q':(if j=aT then φ k else if j=k then aF else φ j)=aA b:=q
    rw[if_neg H,if_pos Q] at q';exact ay q'
   ·rw[U j H Q] at q
    exact .inr ⟨H,Q,q⟩
 refine aS F.loc λmm n1 n2=>⟨F.base,F.fO,F.hk,F.hK,F.hg,F.hb,F.rn,⟨mm,n1,λx j p q=>gk _ _ (C.low x j q)<|n2 x j p q⟩,F.lL,λx j p q=>?_,F.qQ,F.oY,λj ys q=>?_,λcc j ys b q p z=>?_,λys q p b z=>?_,λys q p b z w=>QHb l p,λq=>QHb s<|q xs,λi j b q1 q2=>?_,λj b q=>?_,F.dg,F.dR,F.inv,F.pf⟩
 ·exact bc (F.hG x j p q) λc v f1 f3 f4=>(cy c v f1 f3<|gk _ _ (C.low x j q) f4)
 ·rcases own j ys q with ⟨H,L⟩|⟨H,L,Q,h4⟩
  ·exact sb H<|sb L<|(ly a vs n Z e0 e1)
  ·exact dT (F.own j ys h4) λb ws m g1 g2 g3=>(ly b ws m ((U j H L).trans g1) g2 g3)
 ·rcases own j ys q with ⟨H,L⟩|⟨H,L,Q,h4⟩
  ·exact QHb H z
  ·exact F.gN cc j ys b h4 ((U j H L).symm.trans p) z
 ·have z':=Z.symm.trans z
  clear M e0 Z;cases z';exact wa
 ·rcases R i b q1 with ⟨z1,z2⟩|⟨z1,z2,z3⟩<;>rcases R j b q2 with ⟨z4,z5⟩|⟨z4,z5,z6⟩
  ·exact sb z1<|sb z4 rfl
  ·exact QHb (F.inj j k b z6 z2) z5
  ·exact QHb (F.inj i k b z3 z5) z2
  ·exact F.inj i j b z3 z6
 ·rcases R j b q with ⟨_,z⟩|⟨_,_,z⟩
  ·exact F.jv _ _ z
  ·exact F.jv _ _ z
end
noncomputable def EC (D:Wd) (f:aM) (xs hs zs:List aK):Prop:=
 ∀{A:cV} {s:aN} {X:aM->Prop} {u m:List aI} {x a:aM} {n:Nat} {Q:aI->aN->Prop} {E:aI->aN->Prop},CS D A X s->D.P.HI X s.heap x a->s.heap.get? a=aA (listOf m.toArray n)->bB X s.heap m hs->bB X s.heap u xs->
  (∀Y v N F,CT D (λb=>X b\/b=Y) (λO=>False) s F->s.heap.get? Y=aF->F.heap.get? Y=aA (listOf v.toArray N)->bB (λb=>X b\/b=Y) F.heap v zs->Q (.ref Y) F)->aO (aY D.prog D.w) A (call (.ref f)<|.ref x::u) Q E s
class kx (D:Wd):Prop where
 RN: ∀xs hs zs,D.o.R 2 xs hs (.list zs)-> ∃nm fa,D.hm 2=aA (nm,fa)/\EC D fa xs hs zs
section
section
variable[H:cz D]
include H
theorem TC (hb:aZ D C x .e6) (W: ∀env,jo [.Subscript x (.Slice aF aF aF r) c] y pos.line env=pure aE) (Y:aZ D C y b):
 bV D C (.Assign [.Subscript x (.Slice aF aF aF r) c] y pos) (.qi b):=λh=>λ{X z Q Er} K k=>by
 refine jV (W X.env) rfl rfl ((Y h).run K λv l1 g u z1 t U q1=>?_);induction ja g with
 |mk ev g=>
 subst ev;clear H W Y h;obtain ⟨ys,rfl,h0,g⟩:=g;induction jG g with
 |mk A g=>
 have hw:=g.1;have hz:=g.2.1;have g:=g.2.2;rw[QD];refine aR<|cO<|(hb (K:=λv l'=>v=.bor aT/\l'=l1) ⟨h0,rfl,rfl⟩).run t ?_;intro _ _ f ov i P j q2;have l:=f.1;have R:=f.2;clear f;subst l;subst R;refine dZ (P.ow A q2) λp vs n L a f3 f4=>?_;subst L;refine dZ (Rd.lst_inv<|Rd.mon q1 j.mon) λbb ws m B Z g2 g3=>?_;subst B;have M:=P.F.jf _ A hw p a;have d: ∀b o,i.s.heap.get? b=aA o->(i.s.heap.push<|vt .none .none .none).get? b=aA o:=λO O e=>gS _ e;refine aR<|cO<|wpAny_Slice<|Hz<|Hz<|Hz ?_;refine aR (iJ<|aR<|cO<|Uj (d _ _ f3) (d _ _ Z) (λq=>g2<|.inr<|q▸M) (Heap.IsSliceOf.new ..) (by (erw[gm];erw[gm];erw[f4.len];erw[g3.len];erw[jB]);exact hz) λh4 n4 f5 sb=>?_);refine IE ?_;obtain ⟨N,s4⟩:=P.write (by decide) A a M (λb o e n=>(sb.2 b n).trans<|d b o e) f5 λm=>g3.mon m;exact (k _ _ g).nx (by rw[fR];exact N)<|(U.trans j).trans s4
theorem QCI (ok:hZ C nm i) (Y:aZ D C y b):bV D C (.Delete [.Subscript (.Name nm p) y sp] pos) (.oe i b):= @λO O h=>λ{X z Q Er} K k=>wpAny_Delete (wpAny_deleteEach_cons (by
 have h0:=h.1;have h:=h.2;rw[arm_delete_Subscript];refine aR ((si (D:=D) (K:=λv l=>v=.inst/\l=_) ok (by dsimp only[kV];erw[h0];exact ⟨rfl,rfl⟩:iB (kV (aL _) i) _ False)).run K ?_);clear ok K h0
 rintro _ _ ⟨rfl,rfl⟩ ov j P s2 q2
 refine aR<|cO<|(Y h).run P λv M g f Z d s3 a=>?_;induction ja g with
 |mk ev g=>
  subst ev;induction jG g with
  |mk o g=>
   have hw:=g.1;have g:=g.2;clear Y h P;induction g with
   |mk L g=>
    refine cT (H.H _ _ _ _ _ L) λn A q1 con=>?_;have q:=q2.mon s3;refine bc q λB N x e p3=>?_;clear q;subst e
    exact aR<|iJ<|aR<|cO<|H.JN q1 d.R d.F.base p3<|NT con d (q2.mon s3) o hw (us:=[f]) (bB.cons a bB.nil) λu s U s4 O=>IE<|wpAny_deleteEach_nil<|(k _ _ g).nx (by rw[fR];exact U)<|(s2.trans s3).trans s4))
theorem S6 (q:lK C nm i) (c:nG C "compute_powers") (P:Pl xs) (a:fh D C xs es):bV D C (.Assign [.Name nm N] (.Call (.Name "compute_powers" p) xs [] cpos) pos) (.pS i es):= @λO O h=>λ{X z Q Er} K k=>by refine dZ H.Jm λca o fd B g2 g3 g4=>bI (C.nM q.t) λb f=>jV rfl rfl rfl (qp<|pV K c B<|zr<|gK (P X.env cpos)<|kX (a h) K λds l us Z g j v q1=>⟨⟨j.F.base _ _ g2,g3⟩,?_⟩);clear H c P a h K B g2 g3;obtain ⟨n,rfl,h1,h2,g⟩:=g;obtain ⟨u1,us,rfl,e,q1⟩:=q1.hU;obtain ⟨u2,us,rfl,q2,q1⟩:=q1.hU;obtain ⟨u3,us,rfl,q3,q1⟩:=q1.hU;cases q1.kJ;clear q1;obtain ⟨t2,rfl⟩:=Rd.dk e;clear q1 e;obtain ⟨t3,rfl⟩:=Rd.dk q2;obtain ⟨t4,rfl⟩:=Rd.dk q3;refine wpAny_toks<|g4 n h2 h1 j.R j.t j.F.base λ{dr} d h' tk r e2 A L=>?_;have Y:=j.F.keeps r;exact uf (wpAny_toks<|(Y.forget i b f).store q.t q.s q.k (sl:=.emp) (λh' kk m=>(ax d rfl (m _ _ e2 (j.F.vN A: ¬ Ex X.Ob Z.W d)))) (λys x=>by exact nomatch x) λh' u F2 M U=>(k _ _ g).nx (z':={Z with s:={Z.s with heap:=h',toks:=u,drawn:=dr}}) ⟨by rw[fR];exact F2,j.R,az j.t<|az L U⟩<|v.trans ⟨(dc.all r).trans M,az L U,rfl,rfl⟩)
theorem QDy (L:hZ C nm i) (m:MC (.Name nm p) "items" a u []):bV D C (.For target (.Call (.Attribute (.Name nm p) "items" a) [] [] u) body [] pos) (.qF i):= @λO O h=>λ{X z Q Er} K k=>by
 have h0:=h.1;have g:=h.2;refine wpAny_For (wx (m.base X.env) (m.qG X.env) m.line<|uJ K L λN q=>?_) λO=>rfl;rw[h0] at q;refine dA q λd v f f3=>(ax _ v ?_);have t:(d==Cz)=false:=by refine QHh λq=>aS H.Oj λo r g2=>?_;have:=K.F.base _ _ r;rw[<-q,f] at this;cases this;exact g2 rfl
 have Y: ∀(h:bK),h.get? d=aA jJ->h.DictAt (strKind D.prog D.w) d [] 0:=λh e=>(uC jJ (#[]) e ⟨rfl,rfl,rfl⟩ rfl (by intro e M;simp at M) .nil QFO);refine ⟨"dict","dict.items",QEx,QFP,PySem.F.type_dict_items,⟨_,f,rfl⟩,λb e=>(by cases e;exact (ax _ f rfl)),wm (m.pl X.env)<|gK (m.pl X.env)<|lP ?_⟩;refine call_meetsIn QFP (ax _ f rfl) PySem.F.entry_dict_items (PySem.F.args_dict_items_1 _) (meets_dict_items (strKind D.prog D.w) d t) ⟨⟨[],(Y z.s.heap f).elim λo w=>w.elim λes w=>WX o es 0 w⟩,?_⟩;generalize c:({cls:=.type "dict_items",data:=.fields #[.ref d]}:bH)=W;have x: ∀b o,z.s.heap.get? b=aA o->(z.s.heap.push W).get? b=aA o:=λO O e=>gS _ e;refine wpAny_pyIter_items (gd _ (fH _<|c▸rfl) (c▸rfl)<|c▸rfl) (Y _<|x _ _ f) ?_;refine QFK (λn s'=>s'={z.s with heap:=(z.s.heap.push W).push {cls:=.type "dict_itemiterator",data:=.fields #[.none,.bool aE,.ref d,.int 0 0,.int (([]:List (aG×aI)).length) 0,.int ((0:Nat):Int) 0,.none,.none]}}) ?_ 0 rfl
 rintro n s' rfl
 have P: ∀b o,z.s.heap.get? b=aA o->((z.s.heap.push W).push {cls:=.type "dict_itemiterator",data:=.fields #[.none,.bool aE,.ref d,.int 0 0,.int (([]:List (aG×aI)).length) 0,.int ((0:Nat):Int) 0,.none,.none]}).get? b=aA o:=λb o e=>gS _<|x b o e;refine wpAny_pyNext_items_end K.R.1 (fH _ rfl) (Y _<|P _ _ f) rfl λh' B=>zy ?_
 have Z: ∀b o,z.s.heap.get? b=aA o->h'.get? b=aA o:=λb o e=>B b o (λq=>by
  have A:=kh e;rw[q,(DA .. :(z.s.heap.push W).objs.size=z.s.heap.objs.size+1)] at A
  exact mK _<|Nat.lt_of_succ_lt A) (P b o e)
 have l:=(K.keeps Z<|bh _);have j:=l.1;have U:=l.2;exact (k _ _ g).nx j U
theorem QBt (B:C.nw=aB) (Z:C.hn=aB) (how:C.ow=aB) (ok:lK C nm i) (hg:nG C "Headers") (o:hZ C L j):bV D C (.Assign [.Name nm N] (.Call (.Name "Headers" p) [.Name L kp] [] cpos) pos) (.qK i j):= @λl Kk h=>λ{X z Q Er} K k=>by
 induction jG h with
 |mk h0 g=>
  have Y:=g.1;have a:=g.2.1;have g:=g.2.2;have Hq:=(C.nM ok.t);have v:=Hq.1;have A:=Hq.2;refine jV rfl rfl rfl (qp<|pV K hg H.FY.1<|H.FY.2 rfl (ua<|(Bv o h0).run K ?_));clear hg h K
  rintro _ _ ⟨rfl,rfl⟩ ov z2 c s2 q2
  refine lP ⟨c.F.base,?_⟩;refine dZ (c.ow h0 q2) λp vs n u f1 f3 f4=>sb u<|wpAny_toks<|H.new c.R c.t c.F.base c.F.fO c.F.dg a f3 f4 λx h3 tk M hi l3=>?_
  have K3:=(c.F.keeps M).swap how (C.low _ _ o.t) h0 ((λY ys q=>by rw[Y] at q;exact nomatch q: ∀{r:bQ},r aT=.unb-> ∀ys,r aT≠ .own ys) Y);refine uf (wpAny_toks<|(K3.forget i v A).store ok.t ok.s ok.k (sl:=.inst) (λh' O m=>(cy x p ?_ rfl (D.P.kS hi m))) (λys ey=>by exact nomatch ey) λh' U F2 s4 l4=>?_)
  ·show (if aT=aT then z2.φ j else _)=_
   exact sb (QHd rfl)<|f1
  ·refine k _ _ g .next {s:={z2.s with heap:=h',toks:=U},W:=z2.W,φ:=_} ⟨by rw[fR,fR,fR,fR];exact F2,c.R,az c.t<|az l3 l4⟩ ⟨s2.st.trans<|(dc.all M).trans s4,az s2.t<|az l3 l4,⟨λz=>(by rw[B] at z;exact yr z),λz=>(by rw[Z] at z;exact yr z),λm b q=>?_⟩,by exact sb s2.e rfl⟩ .next
   have d:(if m=aT then z2.φ j else if m=j then aF else z2.φ m)=aA b:=q;rw[s2.f] at d
   split at d
   ·exact .inl ⟨j,d⟩
   ·split at d
    ·exact ay d
    ·exact .inl ⟨m,d⟩
end
theorem QDp [H:cz D] (m:C.K "reversed" =aA .globalImplicit) (L:Pl [x]) (hs:fh D C [x] [a]):iC D C fl (.Call (.Name "reversed" p) [x] [] pos) (.rev a):= @λO O h=>λ{X z Q Er} K k=>by
 refine qp (x4 K m (by decide+kernel) (u:=.type "reversed") (by lia)<|wo (L X.env pos)<|gK (L X.env pos)<|kX (hs h) K λds l us Z g b M q1=>?_);obtain ⟨xs,rfl,g⟩:=g;refine bc q1.hU λu us B Y N=>sb B ?_;cases N.kJ;refine dZ (Rd.lst_inv Y) λp vs n r e e2 q=>sb r ?_;have hsz:vs.toArray.size=xs.length:=by (erw[gm];exact sb q.len rfl)
 refine call_reversed_list (gM e) ?_;have j:(Z.s.heap.push<|revObj p<|(vs.toArray.size:Int) - 1).IsRevIter Z.s.heap.objs.size p ((vs.toArray.size:Int) - 1):=(gd _ (fH _ rfl) rfl rfl);refine wpAny_pyIter_revIter j ?_;have W:=Walks.listRev (prog:=D.prog) (w:=D.w) b.R.1 Z.s.heap.objs.size p (λq=>by rw[q,ie<|bh _] at e;exact ay e) vs.toArray
 refine vm (P:=λi v=>vs.toArray[vs.toArray.size - 1 - i]?=aA v/\i<vs.toArray.size) (St:=λi h=>i<=vs.toArray.size/\h.IsRevIter Z.s.heap.objs.size p ((vs.toArray.size:Int) - 1 - (i:Int))/\h.IsList p vs.toArray) b rfl (FP (.inl rfl)<|.inr ⟨⟨_,e⟩,Ee b e λO=>nofun,λO w=>e2<|.inr w⟩) (by erw[AA];exact hsz)
  ⟨W.sub,W.frame,λi f F c t st h=>W.item i f F c t st λv h' tk L=>h v h' tk ⟨L,t⟩,W.done,W.self⟩ ⟨hJ _,by simpa using j,(gM e).push _⟩ (λi h q=>q.2.1.elim λo q=>cy o _ q.1 q.2.1<|by decide) (λi v A=>?_) ((k _ _ g).tr M)
 have e1:=A.1;have t:=A.2;refine aS (HP q e1) λd U g2=>(ax d ?_ g2);rw[hsz] at U t;erw[List.getElem?_reverse t];exact cw U rfl
theorem QDP [H:cz D] [HR:kx D] (hn:D.hm 2=aA (nm,fa)) (hm:MC x nm m pos xs) (f:aZ D C x a) (ha:fh D C xs es):pW D C (.Call (.Attribute x nm m) xs [] pos) (.jX 2 a es):= @λO O h=>λ{X z Q Er} K kk=>by
 refine cT (H.vi _ _ _ hn) λo fd q3 q4=>xU hm.k<|(f h).run K λv l1 h ov z1 N i r1=>λpl=>?_;clear f K;obtain ⟨rfl,h⟩:=BU h;have B:=r1;refine bc B λix ia p1 M p3=>?_;clear B;clear p1;subst M;refine H.yU _ _ _ hn (by decide) N.F.base p3<|zr<|gK (hm.pl X.env)<|kX (ha h) N λds l us r g d U r3=>⟨⟨d.F.base _ _ q3,q4⟩,?_⟩;induction jG g with
 |mk h1 g=>
 induction g with
 |mk e3 g=>
 obtain ⟨zs,rfl,g⟩:=g;refine cT (HR.RN _ _ _ e3) λaa ab q1 j=>?_;cases bM hn q1;refine uG (d.hl (u:=.emp) h1<|r1.mon U) λaf ae vs n e p4 p5 p6 p7=>?_;cases e;refine wpAny_toks<|j d.cs p5 p6 p7 r3 λA ag n' s' c nw Y g2 lt=>?_;have hX:Ex (λb=>X.Ob b\/b=A) r.W=λb=>Ex X.Ob r.W b\/b=A:=by funext b;exact propext ⟨λq=>q.elim (λq=>q.elim (λq=>.inl<|.inl q) .inr) λq=>.inl<|.inr q,λq=>q.elim (λq=>q.elim (λq=>.inl<|.inl q) .inr) λq=>.inl<|.inr q⟩
 have L: ∀b o,r.s.heap.get? b=aA o-> ¬ D.P.PF b->s'.heap.get? b=aA o:=λb o e p=>c.keep b o e id p
 refine bI (d.F.FT (Ob₂:=(X.add A).Ob) (Z:=λO=>False) (h':=s'.heap) (λa z=>z.elim) (λa z=>z.elim) (λa o e O p=>L a o e p) (λb q=>by
  rcases q with q|q
  ·obtain ⟨o,w⟩:=d.F.dg b (.inl q)
   exact ⟨.inl q,o,L b o w λp=>d.F.dR b (d.F.pf b p) q⟩
  ·exact ⟨.inr<|q▸nw,_,q▸Y⟩) (hX▸c.inv)) λF4 m4=>?_
 exact kk _ _ g A ag n' {r with s:=s'} ⟨⟨F4,d.R,az d.t lt⟩,(i.trans U).trans ⟨d.F.Ag L,lt,rfl,c.e⟩,Y,(hX▸g2:bB (Ex (λb=>X.Ob b\/b=A) r.W) s'.heap ag _),d.F.vN nw,d.F.CF nw,(i.trans U).st.new nw⟩
end
noncomputable def Fc.fn (names:List (aG×dQ)) (bd:Nat) (nw hn:Bool) (cd:Option (aM×aG)) (hb:names.length<=bd/\bd<=1000000):Fc where
 K x:=names.lookup x
 cM x:=match names.lookup x with
  |some k=>if j9 k then aA (names.findIdx (·.1==x)) else aF
  |none=>aF
 rZ x:=match names.lookup x with|some k=>j9 k|none=>aE
 inj:=by
  intro x y i A H;induction M:names.lookup x with
  |none=>rw[M] at A;exact ay A
  |some k=>
   induction hy:names.lookup y with
   |none=>rw[hy] at H;exact ay H
   |some b=>
    rw[M] at A;rw[hy] at H;dsimp only at A H
    split at A
    ·split at H
     ·have m:=(vn M)
      have l:=m.2;refine aS l λp e1 e2=>?_;have g:=(vn hy);have o:=g.2;refine aS o λq e z=>?_
      simp! only[(kC A).trans (kC H).symm,e] at e1
      clear e;cases e1
      simp! only[<-e2,<-z]
     ·exact ay H
    ·exact ay A
 bd:=bd
 q8:=by
  intro x i h;induction M:names.lookup x with
  |none=>rw[M] at h;exact ay h
  |some k=>
   rw[M] at h;dsimp only at h
   split at h
   ·cases h;exact mJ (vn M).1 hb.1
   ·exact ay h
 Bo:=hb.2
 ow:=aB
 nw:=nw
 hn:=hn
 cd:=cd
noncomputable def Aa (D:Wd) (Ob:aM->Prop) (z:Zs) (v:aI):Sl->Prop
 |.val d=>Rd (Ex Ob z.W) z.s.heap v d
 |.inst=> ∃x a,z.φ aT=aA a/\v=.ref x/\D.P.HI (Ex Ob z.W) z.s.heap x a
 |.emp=> ∃a,v=.ref a/\z.s.heap.get? a=aA jJ/\ ¬ Ex Ob z.W a
 |_=>False
inductive eU (D:Wd) (Ob:aM->Prop) (z:Zs):List aI->List Sl->Prop
 |nil:eU D Ob z [] []
 |cons {v vs sl sls}:Aa D Ob z v sl->eU D Ob z vs sls->eU D Ob z (v::vs) (sl::sls)
noncomputable def OK (i:List Nat) (sls:List Sl) (r:bQ):bQ:=(i.zip sls).foldl (λr p=>upd r p.1 p.2) r
noncomputable def jK (i:List Nat) (sls:List Sl) (l:Ls):Ls:=(i.zip sls).foldl (λl p=>cL l p.1 p.2) l
theorem Z8 (i:List Nat) (sls:List Sl) (l:Ls):aL (jK i sls l)=OK i sls (aL l):=ER (λp:Nat×Sl=>(p.1,p.2)) _ l
inductive iY:Fl->aK->Prop
 |next:iY .next .none
 |ret {d}:iY (.ret d) d
theorem iY.fn (h:iY f d) (h':iY f R):d=R:=by induction h<;>cases h'<;>rfl
structure En (D:Wd) (Ob:aM->Prop) (r:bQ) (z:Zs):Prop where
 base: ∀b o,D.G.get? b=aA o->z.s.heap.get? b=aA o
 fO: ∀b o,D.G.get? b=aA o-> ¬ Ex Ob z.W b
 own: ∀i xs,r i=.own xs-> ∃a vs n,z.φ i=aA a/\z.s.heap.get? a=aA (listOf vs.toArray n)/\bB (Ex Ob z.W) z.s.heap vs xs
 gN: ∀i xs a,r i=.own xs->z.φ i=aA a->i≠aT->z.W a
 jf: ∀xs,r aT=.own xs->r bR=.emp-> ∀a,z.φ aT=aA a->z.W a
 kn: ∀xs,r aT=.own xs->r bR≠ .emp-> ∀a,z.φ aT=aA a-> ¬ z.W a
 lD:(∀xs,r aT≠ .own xs)->z.φ aT=aF
 inj: ∀i j a,z.φ i=aA a->z.φ j=aA a->i=j
 jv: ∀i a,z.φ i=aA a-> ∃o,z.s.heap.get? a=aA o
 dg: ∀a,Ex Ob z.W a-> ∃o,z.s.heap.get? a=aA o
 dR: ∀a,z.W a-> ¬ Ob a
 inv:D.P.Inv (Ex Ob z.W) z.s.heap
 pf: ∀a,D.P.PF a->z.W a
structure Bk (D:Wd) (C:Fc) (Ob:aM->Prop) (r:bQ) (d:aK) (z:Zs) (u:aI) (env:cg) (z':Zs):Prop where
 F:FR D.P D.G C env Ob z'.φ z'.W r z'.s.heap
 s:Sy C z z'
 rd: ∀X:aM->Prop,(∀b,X b->Ob b\/(z'.W b/\(z'.φ aT=aA b\/D.P.PF b)))->Rd X z'.s.heap u d
noncomputable def Zs.my (z:Zs) (names:List (aG×dQ)):Zs:={z with s:={z.s with heap:=kE (z.s.heap.push {cls:=.type "frame",data:=.dict #[]}) names},W:=λa=>z.W a\/(z.s.heap.get? a=aF/\ ∃o,(kE (z.s.heap.push {cls:=.type "frame",data:=.dict #[]}) names).get? a=aA o)}
theorem Zs.JK:Sx z (z.my names):=⟨⟨λa o e O=>FW _ _ _ _ _ e,λa q=>q.imp id And.left⟩,bh _,rfl,rfl⟩
section
theorem Aa.mon {sl:Sl} (x:Aa D Ob z v sl) (s:Sx z z'):Aa D Ob z' v sl:=by
 have m:Mon (Ex Ob z.W) z.s.heap (Ex Ob z'.W) z'.s.heap:=s.st.mon;induction sl with
 |val d=>exact Rd.mon x m
 |inst=>exact bc x λy a u n q=>(cy y a (s.f▸u) n<|D.P.kS q m)
 |emp=>exact dA x λa e Q b=>(ax a e<|m _ _ Q b)
 |_=>exact x
theorem eU.mon {vs:List aI} (x:eU D Ob z vs sls) (s:Sx z z'):eU D Ob z' vs sls:=by
 induction x with
 |nil=>exact .nil
 |cons a _ i=>exact .cons (a.mon s) i
theorem eU.len {vs:List aI} (x:eU D Ob z vs sls):vs.length=sls.length:=by
 induction x with
 |nil=>rfl
 |cons _ _ i=>exact QHf DD i
theorem eU.app {us vs:List aI} (a:eU D Ob z us ss) (b:eU D Ob z vs ts):eU D Ob z (us++vs) (ss++ts):=by
 induction a with
 |nil=>exact b
 |cons a _ i=>exact .cons a i
theorem eU.vals {vs:List aI} {ds:List aK} (q:bB (Ex Ob z.W) z.s.heap vs ds):eU D Ob z vs (ds.map .val):=by
 induction ds generalizing vs with
 |nil=>exact sb q.kJ<| .nil
 |cons d ds i=>exact bc q.hU λu U e Q b=>sb e<| .cons Q<|i b
theorem Uy (h:oK C ps g): ∀{A:cV} {X:Fx} {r:bQ} {z:Zs} {us:List aI} {sls:List Sl} {Q:PUnit->aN->Prop} {Er:aI->aN->Prop},FX D C X r z->eU D X.Ob z us sls->ps.length=sls.length->
 (∀z',FX D C X (OK g sls r) z'->Sx z z'->Q lQ z'.s)->aO (aY D.prog D.w) A (forIn (ps.zip us) lQ λx O=>do Ct X.env x.1 x.2;pure (oz lQ)) Q Er z.s:=by
 induction h with
 |nil=>
  intro A X r z us sls Q Er K q _ k
  simp! only[List.zip_nil_left,zj]
  exact bA<|k z K .refl
 | @cons p i ps g o _ c=>
  intro A X r z us sls Q Er K q L k;induction q with
  |nil=>contradiction
  | @cons u us sl sls b q2=>
   simp! only[List.zip_cons_cons,ud]
   refine bI (C.nM o.t) λM H=>aR<|aR<|wpAny_toks<|(K.F.forget i M H).store o.t o.s o.k (sl:=sl) (λN O m=>?_) (λxs e=>?_) λN Z F S l=>bA ?_
   ·clear L k
    induction sl with
    |val d=>exact (ax u rfl (Rd.mon b m))
    |inst=>exact bc b λy a Y n w=>(cy y a Y (n▸rfl)<|D.P.kS w m)
    |emp=>exact dA b λa e v W=>(ax a (e▸rfl)<|m _ _ v W)
    |_=>exact b.elim
   ·clear L k
    subst e;exact b.elim
   ·have U:Sx z (z.to N Z):=⟨S,l,rfl,rfl⟩
    exact c ⟨F,K.R,az K.t l⟩ (q2.mon U) (zz L) λf B j=>k f B<|U.trans j
theorem gz.go (R:gz (n+1) A):gz n (A.deeper env):=⟨R.1,by have:=R.2.1;refine (?_:A.depth+1+n<=900);exact aQ this,by have:=R.2.2;refine (?_:A.units+3+10*n+300<=9900);exact aQ this⟩
theorem gz.lt {n:Nat} {A:cV} (R:gz (n+1) A):A.depth<1000:=by have:=R.2.1;exact aQ this
structure Tx (D:Wd) (C:Fc) (body:List cq) (ps:List aG) (is:List Nat) (bs:List S):Prop where
 hp:oK C ps is
 hB:je D C body bs
 ow:C.ow=aB
theorem PA {body:List cq} {ps:List aG} {is:List Nat} {bs:List S} (T:Tx D C body ps is bs) (lim:D.G.NoLimit) {sls:List Sl} {l:Ls} {Kb:Fl->Ls->Prop} (hl:ps.length=sls.length) (he:sW bs D.o (jK is sls l) Kb)
 {A:cV} {scope:jQ} {gl N:aM} {cl:List (aG×aM)} {qual:aG} {func:Option aM} {code:aI} {us:List aI} {Q:aI->aN->Prop} {Er:aI->aN->Prop} (R:gz (D.n+1) A) (t:1<=z.s.toks) (m:eU D Ob z us sls)
 (Y: ∀env,env=H2 scope z.s.heap.objs.size gl (jP (z.s.heap.objs.size+1) scope.names cl) qual func code aF N->FR D.P D.G C env Ob z.φ (z.my scope.names).W (aL l) (z.my scope.names).s.heap)
 (k: ∀fl L d,Kb fl L->iY fl d-> ∀u env z',Bk D C Ob (aL L) d z u env z'->Q u z'.s) (Z: ∀L, ¬ Kb .cont L):
 aO (aY D.prog D.w) A.in1 (H3 scope gl cl (ps.zip us) qual func code aF N) (λenv H=>H.heap.NoLimit/\uh (aY D.prog D.w) A (.func body env) (λr s'=>match r with|.ok (.ret v)=>Q v s'|.ok _=>False|.error e=>Er e s') H) (λe s'=>Er e s') z.s:=by
 refine NN λenv p=>Uy (X:=⟨A.deeper env,env,Ob⟩) (z:=z.my scope.names) T.hp ⟨Y env p,R.go,t⟩ (m.mon Zs.JK) hl λz1 j s1=>⟨lim.keeps j.F.base,codeAny_func ?_⟩;rw[<-Z8] at j;refine T.hB he j λfl L g f z2 K s2 fi=>?_;have s3:=(Zs.JK.trans s1).y.trans s2;clear lim he R m Y p j s2;induction fi with
 |next=>exact k _ _ _ g .next .none env z2 ⟨K.F,s3,λX O=>Rd.none⟩
 |cont=>exact (Z _ g).elim
 | @ret v u _ q1 q2=>
  refine k _ _ _ g .ret v env z2 ⟨K.F,s3,λX x=>?_⟩;have U:Mon (Ex Ob z2.W) z2.s.heap X z2.s.heap:=λb o e n=>⟨e,λz=>n<|(x b z).imp id And.left⟩;clear g;induction q2 with
  |d=>exact Rd.mon q1 U
  | @bor i xs h q=>
   refine dT (K.F.own i xs q) λb vs n e1 e2 c=>aS q1 λb' a B=>sb B ?_;obtain rfl:=bM e1 a;refine Rd.lst e2 (λz=>?_)<|c.mon U;rcases x b z with z|⟨_,z|z⟩
   ·exact K.F.dR b (K.F.gN T.ow i xs b q e1 h) z
   ·exact h<|K.F.inj i aT b e1 z
   ·refine cT (D.P.iN K.F.inv z) λo' vs' M d'=>?_
    rw[e2] at M;cases M;contradiction
structure Dr (G:bK) (fd:FuncData) (body:List cq) (names:List (aG×dQ)) (cd:Option (aM×aG)):Prop where
 cr:G.CodeRec fd.code fd.qualname
 bd:fd.body=.stmts body
 nm:fd.scope.names=names
 kd:fd.scope.kind=.function
 co:fd.scope.isCoroutine=aE
 ge:fd.scope.isGenerator=aE
 cl:fd.closure=[]
 gl:fd.globals=nO
 bu:fd.builtins=ic
 cd: ∀c q,cd=aA (c,q)->fd.code=.ref c/\fd.qualname++ ".<locals>." =q
inductive qe (G:bK) (a:aM) (body:List cq) (names:List (aG×dQ)) (cd:Option (aM×aG)) (ps:List aG) (ex:List aI):Prop
 |mk {o fd}:G.get? a=some o->o.data=.func fd->Dr G fd body names cd->(∀us:List Value,us.length+ex.length=ps.length-> ∀{M:Model} {A:Around} {E:Value->Shared->Prop} {Q:List (Str×Value)->Shared->Prop} {s:Shared},(∀b o,G.get? b=some o->s.heap.get? b=some o)->Q (ps.zip<|us++ex) s->wpAny M A (bindArgs fd ⟨us,[]⟩) Q E s)->qe G a body names cd ps ex
section
variable {nw hn:Bool} {l:Ls} {d:aK} {Kb:Fl->Ls->Prop} {xs hs hs':List aK} {ex:List aI} {exs:List Sl} {o':bj} {A:cV} {us:List aI} {Q:aI->aN->Prop} {Er:aI->aN->Prop}
theorem Mj (T:Tx D (Fc.fn names bd nw hn cd hb) body ps is bs) (lim:D.G.NoLimit) (f:Dr D.G fd body names cd) (m:(names.map (·.1)).Nodup) (hl:ps.length=sls.length) (M:sW bs D.o (jK is sls l) Kb) (Z: ∀i,i<bd->aL l i=.unb)
 (R:gz (D.n+1) A) (t:1<=z.s.toks) (e:En D Ob (aL l) z) (P:eU D Ob z us sls) (k: ∀fl L d,Kb fl L->iY fl d-> ∀u env z',Bk D (Fc.fn names bd nw hn cd hb) Ob (aL L) d z u env z'->Q u z'.s) (C: ∀L, ¬ Kb .cont L):
 aO (aY D.prog D.w) A.in1 (H3 fd.scope fd.globals fd.closure (ps.zip us) (fd.qualname++ ".<locals>.") N fd.code aF fd.builtins) (λenv H=>H.heap.NoLimit/\uh (aY D.prog D.w) A (.func body env) (λr K=>match r with|.ok (.ret v)=>Q v K|.ok _=>False|.error e=>Er e K) H) (λe K=>Er e K) z.s:=by
 refine PA T lim hl M R t P (λenv F=>?_) k C;have h: ∀x i,(Fc.fn names bd nw hn cd hb).cM x=aA i->aL l i=.unb:=λx i q=>Z i ((Fc.fn names bd nw hn cd hb).q8 x i q)
 simp! only[f.cl,f.nm] at F
 refine sb f.nm<|ED m (by erw[F];rfl) (by erw[F];rfl) (by erw[F];exact f.kd) (λx=>by erw[F];refine (?_:fd.scope.names.lookup x=_);erw[f.nm];rfl) (by erw[F];exact f.gl) (by erw[F];exact f.bu) (λc q e=>by erw[F];exact f.cd c q e)
  (λx i a b=>h x i b) (λx i a b=>.inl ⟨?_,h x i b⟩) (λx a b=>a) (λx c q=>by exact ay q) (λx y c q=>by exact ay q) e.base e.fO e.own (λO=>e.gN) e.jf e.kn e.lD e.inj e.jv e.dg e.dR e.inv e.pf
 have B:(match names.lookup x with|some k=>if j9 k then aA (names.findIdx (·.1==x)) else aF|none=>aF)=aA i:=b;refine cp (a) (λa=>?_) λa=>?_
 ·exact a
 ·have Y:names.lookup x=aA .free:=a
  rw[Y] at B;exact ay B
theorem Dq (T:Tx D (Fc.fn names bd nw hn cd hb) body ps is bs) (lim:D.G.NoLimit) (q:qe D.G a body names cd ps ex) (N:(names.map (·.1)).Nodup) (hl:ps.length=sls.length) (Z:sW bs D.o (jK is sls l) Kb) (r: ∀i,i<bd->aL l i=.unb)
 (R:gz (D.n+1) A) (t:1<=z.s.toks) (e:En D Ob (aL l) z) (v:eU D Ob z (us++ex) sls) (k: ∀fl L d,Kb fl L->iY fl d-> ∀u env z',Bk D (Fc.fn names bd nw hn cd hb) Ob (aL L) d z u env z'->Q u z'.s) (C: ∀L, ¬ Kb .cont L):aO (aY D.prog D.w) A (call (.ref a) us) Q Er z.s:=by
 induction q with
 |mk W U f F=>exact xA (QE R.lt (e.base _ _ W) U f.co f.ge f.bd (f.cr.keeps e.base)<|F us (by (erw[<-du];erw[v.len];exact sb hl rfl)) e.base<|Mj T lim f N hl Z r R t e v k C)
noncomputable def ta (D:Wd) (X Y:aM->Prop) (b:aM):Prop:=X b/\ ¬ Y b/\ ¬ D.P.PF b
theorem Bw {X Y:aM->Prop} (h: ∀b,Y b->X b) (p: ∀b,D.P.PF b->X b) (q:Ex (ta D X Y) (λb=>Y b\/D.P.PF b) b):X b:=q.elim (·.1) λq=>q.elim (h b)<|p b
theorem Ds {X Y W:aM->Prop} (y: ∀b,Y b->W b) (p: ∀b,D.P.PF b->W b) (q:X b):Ex (ta D X Y) W b:=by
 by_cases h:Y b
 ·exact .inr<|y b h
 ·by_cases H:D.P.PF b
  ·exact .inr<|p b H
  ·exact .inl ⟨q,h,H⟩
theorem qj {X Y:aM->Prop} (y: ∀b,Y b->X b) (p: ∀b,D.P.PF b->X b):Mon X h (Ex (ta D X Y) λb=>Y b\/D.P.PF b) h:=λb o e n=>⟨e,λq=>n<|Bw y p q⟩
theorem Bk.ct {X Y:aM->Prop} {s:aN} {o':bj} (b:Bk D C (ta D X Y) r d ⟨s,λb=>Y b\/D.P.PF b,φ⟩ u env z') (a: ∀b,Y b->z'.W b) (h: ∀b,Y b->z'.φ aT=aA b):CT {D with n:=m,o:=o'} X Y s z'.s/\Rd X z'.s.heap u d:=by
 refine ⟨⟨λc o e n p=>b.s.st.keep c o e λw=>w.elim n p,D.P.iM b.F.inv (λc o e n=>⟨e,λw=>n<|Ds a b.F.pf w⟩) λO O=>rfl,b.s.e⟩,b.rd X λc q=>?_⟩;by_cases w:Y c
 ·exact .inr ⟨a c w,.inl<|h c w⟩
 ·by_cases p:D.P.PF c
  ·exact .inr ⟨b.F.pf c p,.inr p⟩
  ·exact .inl ⟨q,w,p⟩
noncomputable def u9 (P:List Nat):Ls:=P.map λi=>(i,.unb)
theorem Jx (P:List Nat):aL (u9 P)=aL []:=by
 funext i;induction P with
 |nil=>rfl
 |cons p P h=>
  refine (?_:cond (bt p i) Sl.unb (aL (u9 P) i)=_);cases bt p i
  ·exact h
  ·rfl
theorem KA {P:List Nat} (T:Tx D (Fc.fn names bd nw hn cd hb) body ps is bs) (lim:D.G.NoLimit) (f:qe D.G a body names cd ps []) (N:(names.map (·.1)).Nodup) (hl:ps.length=xs.length) (he:sW bs D.o (jK is (xs.map .val)<|u9 P) λfl O=>iY fl d):oV {D with n:=D.n+1,o:=o'} a xs d:=by
 intro A s X us Q E c v k;have y: ∀b,(λO:aM=>False) b->X b:=λO=>mG;have x:=λb=>Bw (b:=b) y c.pf
 refine Dq (D:=D) (z:=⟨s,λb=>False\/D.P.PF b,λO=>aF⟩) (Ob:=ta D X λO=>False) (l:=u9 P) T lim f N (by simp! only[dY,hl]) he (λi O=>congrFun (Jx P) i) c.R c.t (sb (Jx P) ⟨c.base,λb o e q=>c.fO b o e<|x b q,nofun,nofun,nofun,nofun,λO=>rfl,nofun,nofun,λb q=>c.al b<|x b q,λb q i=>q.elim id i.2.2,D.P.iM c.inv (qj y c.pf) λO O=>rfl,λb p=>.inr p⟩)
  (by simp! only[eZ];exact eU.vals<|v.mon<|qj y c.pf) (λfl L B g Z u env z' b=>?_) (λL g=>by cases g)
 obtain rfl:=g.fn Z;exact bI (b.ct (o':=o') (m:=D.n+1) (λO=>mG) λO=>mG) λH h=>k u z'.s H h
noncomputable def vD (N:aM) (i:Nat):Option Addr:=if i=aT then aA N else aF
theorem QBe (q:vD N i=aA a):i=aT/\a=N:=by
 unfold vD at q
 split at q
 ·cases q;exact ⟨‹_›,rfl⟩
 ·exact ay q
theorem wJ:vD i aT=aA i:=QHd rfl
theorem GV {X Y:aM->Prop} {vs:List aI} {ds:List aK} (c:CS {D with n:=D.n+1,o:=o'} A X s) (y: ∀b,Y b->X b) (Q:s.heap.get? N=aA (listOf vs.toArray n)) (v:bB X s.heap vs ds) (e1: ∀i ys,r i=.own ys->i=aT/\ys=ds) (e2:r aT=.own ds) (u:r bR=.emp->Y N) (W:r bR≠ .emp-> ¬ Y N):
 En D (ta D X Y) r ⟨s,λb=>Y b\/D.P.PF b,vD N⟩:=by
 have x:=λb=>Bw (D:=D) (b:=b) y c.pf;have M:=qj (D:=D) (h:=s.heap) y c.pf;have B: ∀i a,vD N i=aA a->i=aT/\a=N:=λO O=>QBe;refine ⟨c.base,λb o e q=>c.fO b o e<|x b q,λi ys e=>?_,λi ys a e O f=>QHb (e1 i ys e).1 f,λys O w a q=>.inl<|(B aT a q).2▸u w,λys O w a q z=>?_,λw=>QHb e2<|w ds,λi j a p q=>(B i a p).1.trans (B j a q).1.symm,λi a q=>⟨_,(B i a q).2▸Q⟩,λb q=>c.al b<|x b q,λb q R=>q.elim R.2.1 R.2.2,D.P.iM c.inv M λO O=>rfl,λb p=>.inr p⟩
 ·have H:=(e1 i ys e)
  have m:=H.1;have g:=H.2;exact sb m<|sb g<|(ly N vs n wJ Q<|v.mon M)
 ·rw[(B aT a q).2] at z
  refine cp (z) (λz=>?_) λz=>?_
  ·exact W w z
  ·refine cT (D.P.iN c.inv z) λo F e d=>?_
   obtain rfl:=bM Q e;exact nomatch d
noncomputable def rR (hs:List aK):Ls:=[(aT,.own hs)]
noncomputable def rH (hs:List aK):Ls:=[(aT,.own hs),(bR,.emp)]
theorem E0 (b:Bool) (e:aL (bif b then rH hs else rR hs) i=.own ys):i=aT/\ys=hs:=by
 have k: ∀l,(∀ys,aL l i≠ .own ys)->aL ((aT,.own hs)::l) i=.own ys->i=aT/\ys=hs:=λl n e=>by
  by_cases h:aT=i
  ·clear n
   subst h;cases e;exact ⟨rfl,rfl⟩
  ·have u:cond (bt aT i) _ (aL l i)=.own ys:=e
   rw[qC h] at u;exact QHb u<|n _
 induction b with
 |false=>exact k [] (λO=>nofun) e
 |true=>refine k [(bR,.emp)] (λys q=>?_) e;have Q:cond (bt bR i) Sl.emp .unb=.own ys:=q;cases w:bt bR i<;>rw[w] at Q<;>exact nomatch Q
theorem HF (b:Bool) (h:i<1000000):aL (bif b then rH hs else rR hs) i=.unb:=by
 have H:bt aT i=false:=qC λz=>by rw[<-z] at h;exact QHb h (by decide)
 have m:bt bR i=false:=qC λz=>by rw[<-z] at h;exact QHb h (by decide)
 induction b with
 |false=>show cond (bt aT i) _ _=_;erw[H];rfl
 |true=>show cond (bt aT i) _ (cond (bt bR i) _ _)=_;refine sb H<|sb m ?_;rfl
theorem Ww (T:Tx D (Fc.fn names bd nw aE cd hb) body ps is bs) (lim:D.G.NoLimit) (v: ∀{Ob z},eU D Ob z ex exs) (fa:qe D.G a body names cd ps ex) (L:(names.map (·.1)).Nodup) (hl:ps.length=(xs.map xS++exs).length+1)
 (Z:sW bs D.o (jK is (.inst::(xs.map .val++exs))<|rH hs) λfl l=>iY fl d/\aL l aT=.own hs'/\aL l bR=.emp):rU {D with n:=D.n+1,o:=o'} a xs hs d hs':=by
 intro A s X us vs x N n Q E c hi M U C j k;have y: ∀b,(λb=>b=N) b->X b:=λb q=>q▸M;refine Dq (D:=D) (us:=.ref x::us) (sls:=.inst::(xs.map .val++exs)) T lim fa L hl Z (λi q=>HF aB<|mJ q hb.2) c.R c.t (GV c y U C (λi ys e=>E0 aB e) rfl (λO=>rfl) (λw=>QHb rfl w)) (.cons (cy x N wJ rfl (D.P.kS hi<|qj y c.pf))<|(eU.vals<|j.mon<|qj y c.pf).app v) (λfl f d' g Y u env z' b=>?_) (λf g=>by cases g.1);refine eN g λg r B=>?_;obtain rfl:=g.fn Y;have h:=(b.s.p.hn rfl).trans wJ;refine dT (b.F.own aT hs' r) λaa vs' n' e1 e2 e3=>?_;obtain rfl:=bM h e1;have H: ∀b,b=N->z'.W b:=λO q=>q▸b.F.jf hs' r B N h;exact bI (b.ct H λO q=>q▸h) λm K=>k u z'.s vs' n' m e2 (e3.mon λc o e n=>⟨e,λw=>n<|Ds H b.F.pf w⟩) K
theorem t_ (T:Tx D (Fc.fn names bd nw aE cd hb) body ps is bs) (lim:D.G.NoLimit) (B: ∀{Ob z},eU D Ob z ex exs) (f:qe D.G a body names cd ps ex) (N:(names.map (·.1)).Nodup) (hl:ps.length=(xs.map xS++exs).length+1)
 (F:sW bs D.o (jK is (.inst::(xs.map .val++exs))<|rR hs) λfl O=>iY fl d):rT {D with n:=D.n+1,o:=o'} a xs hs d:=by
 intro A s X us m x C n Q E c j r v K k;have y: ∀b,(λO:aM=>False) b->X b:=λO=>mG;refine Dq (D:=D) (us:=.ref x::us) (sls:=.inst::(xs.map .val++exs)) T lim f N hl F (λi q=>HF aE<|mJ q hb.2) c.R c.t (GV (ds:=hs) c y r v (λi Y e=>E0 aE e) rfl (λw=>by have w:=w;exact nomatch w) (λO=>id)) (.cons (cy x C wJ rfl (D.P.kS j<|qj y c.pf))<|(eU.vals<|K.mon<|qj y c.pf).app B) (λfl l L g Z u env W b=>?_) (λl g=>by exact nomatch g);obtain rfl:=g.fn Z;exact bI (b.ct (λO=>mG) λO=>mG) λH h=>k u W.s H h
end
end
structure hF where
 nm:aG
 args:Arguments
 body:List cq
 scope:jQ
 ps:List aG
 pos:bP
 own:aM
 tab:aM
 qual:aG
structure Nq where
 HI:(aM->Prop)->bK->aM->aM->Prop
 kS: ∀{X h X' h' x a},HI X h x a->Mon X h X' h'->HI X' h' x a
inductive LL (cf:hF) (X:aM->Prop) (h:bK) (cl:List (aG×aM)) (a:aM):Prop
 |mk {o fd c' oc vs t}:h.get? a=some o-> ¬ X a->o.data=.func fd->fd.code=.ref c'->h.get? c'=some oc-> ¬ X c'->oc.data=.fields vs->vs[1]?=some (.str fd.qualname t)->fd.body=.stmts cf.body->fd.scope=cf.scope->fd.closure=clOf cl cf.scope.names []->
  (∀x∈cf.scope.names,x.2=.free->(cl.lookup x.1).isSome=aB)->fd.globals=nO->fd.builtins=ic->(∀us:List aI,us.length=cf.ps.length->nQ fd ⟨us,[]⟩=pure (cf.ps.zip us))->LL cf X h cl a
noncomputable def ET (cf:hF) (X:aM->Prop) (h:bK) (c:aM):Prop:= ∃o v t,h.get? c=aA o/\ ¬ X c/\o.data=.fields v/\v[1]?=aA (.str (cf.qual++cf.nm) t)
inductive nh (cf:hF) (X:aM->Prop) (h:bK):Prop
 |mk {ps}: ¬ X cf.own->h.IsCode cf.own cf.tab ps->h.TableAt cf.own cf.tab ps->(codeAmong cf.pos ps.toList=none\/ ∃c',codeAmong cf.pos ps.toList=some (.ref c')/\ET cf X h c')->nh cf X h
theorem vG {h:bK} {ps:Array aI} {G:Prop} (x:h.IsCode c P ps) (k: ∀o vs F tf f t i text tt op,h.get? c=aA o->o.data=.fields vs->vs.getD 11 .none=.ref P->vs.getD 18 .none=.str F tf->vs.getD 7 .none=.int f t->vs.getD 9 .none=.bool i->vs.getD 10 .none=.int text tt->h.get? P=aA op->op.data=.fields ps->TriplesOk ps.toList->c≠P->G):G:=x.elim λo x=>x.elim λvs x=>x.elim λF x=>x.elim λtf x=>x.elim λf x=>x.elim λt x=>x.elim λi x=>x.elim λtext x=>x.elim λtt x=>x.elim λop x=>k o vs F tf f t i text tt op x.1 x.2.1 x.2.2.1 x.2.2.2.1 x.2.2.2.2.1 x.2.2.2.2.2.1 x.2.2.2.2.2.2.1 x.2.2.2.2.2.2.2.1 x.2.2.2.2.2.2.2.2.1 x.2.2.2.2.2.2.2.2.2.1 x.2.2.2.2.2.2.2.2.2.2
theorem WU {h h':bK} (x:h.IsCode c P ps) (H: ∀o,h.get? c=aA o->h'.get? c=aA o) (K: ∀o,h.get? P=aA o->h'.get? P=aA o):h'.IsCode c P ps:=by have e:h'.get? c=h.get? c/\h'.get? P=h.get? P:=vG x λO O O O O O O O O O a O O O O O O b O O O=>⟨(H _ a).trans a.symm,(K _ b).trans b.symm⟩;delta Heap.IsCode;refine sb e.1<|sb e.2 x
theorem nh.mv {cf:hF} {X z:aM->Prop} {h h':bK} (i:nh cf X h) (m:Mon X h z h') (k: ∀o,h.get? cf.tab=aA o->h'.get? cf.tab=aA o):nh cf z h':=by
 induction i with
 |mk n Y x g=>have K:=λo e=>(m cf.own o e n).1;refine ⟨vG Y λo O O O O O O O O O e O O O O O O O O O O=>(m _ o e n).2,WU Y K k,⟨iT x.1 λo vs a b c d=>jj o vs (K _ a) b c d,k _ x.2⟩,g.imp id λq=>?_⟩;exact aS q λC r q=>⟨C,r,dZ q λoc vs t g2 g3 W j=>qT oc vs t (m _ _ g2 g3).1 (m _ _ g2 g3).2 W j⟩
theorem nh.TF {cf:hF} {X:aM->Prop} {h:bK} (i:nh cf X h): ∃o vs,h.get? cf.tab=aA o/\o.data=.fields vs:=by
 induction i with
 |mk n d t g=>exact vG d λO O O O O O O O O F O O O O O O O U p O O=>et F _ U p
noncomputable def h8 (cx:Nat->Option hF) (H:Nq):vL where
 CL f X h cl a:= ∃cf,cx f=aA cf/\LL cf X h cl a
 HI:=H.HI
 xw:=by intro f X h U h' cl a p m;obtain ⟨cf,e,⟨A,z,Q,v,d,P,B,F,Y,K,c,g,R,L,x⟩⟩:=p;exact (ax cf e<|.mk (m _ _ A z).1 (m _ _ A z).2 Q v (m _ _ d P).1 (m _ _ d P).2 B F Y K c g R L x)
 kS:=H.kS
 PF a:= ∃f cf,cx f=aA cf/\a=cf.tab
 Inv X h:= ∀f cf,cx f=aA cf->nh cf X h
 iM:=λi m j f cf e=>(i f cf e).mv m λo q=>(j _<|et f cf e rfl).trans q
 iN:=by intro X h a i l;refine cT l λf cf e b=>?_;clear l;subst b;exact (i f cf e).TF
section
variable {E:aI->aN->Prop} {s:aN}
theorem Rx {cf:hF} {X:aM->Prop} {env:cg} (C:env.code=.ref cf.own) (l: ∀b,X b-> ∃o,s.heap.get? b=aA o) (i:nh cf X s.heap)
 (hQ: ∀c h' tk,(∀b o,s.heap.get? b=aA o->b≠cf.tab->h'.get? b=aA o)->ET cf X h' c->nh cf X h'->Q (.ref c) {s with heap:=h',toks:=tk}):
 aO M A (QF env cf.pos f cf.nm (cf.qual++cf.nm) p scope body) Q E s:=by
 have m:=i;obtain ⟨n1,d,B,g⟩:=i;rcases g with g|⟨c,g1,N⟩
 ·refine wpAny_functionCodeX C d B g λc h' tk Z R lt Y cr v O=>QCs cr λc2 oc vs t e1 e2 u q=>?_
  cases e1
  have nx: ¬ X c:=λx=>aV (l _ x) λo w=>mK _<|mJ (kh w) R
  have N:ET cf X h' c:=(qT oc vs t e2 nx u q);refine hQ c h' tk (λb o e n=>Z b o n e) N ⟨n1,Y,v,.inr<|ax c ?_ N⟩;exact vG d λo W K tf F r j text tt op z hd h h2 h7 h9 H U P a L=>sb QFQ<|sb (codeAmong_snoc _ a g) rfl
 ·refine vG d λo vs K tf F r j text tt op z hd h h2 h7 h9 H U P a L=>?_
  delta QF codeAt;refine sb C<|sb (if_neg (Bool.false_ne_true: ¬ ((Value.ref cf.own==Value.none)=true)))<|wpAny_bind<|wpAny_fieldsOf z hd ?_
  refine sb h<|wpAny_bind<|wpAny_fieldsOf U P ?_
  exact sb g1<|wpAny_pure<|hQ c s.heap s.toks (λb o e O=>e) N m
end
section
theorem CK {h:bK} (ob:bH) (b:aM) (o:bH) (e:h.get? b=aA o):(h.push ob).get? b=aA o:=gS ob e
theorem X_ [H:cz D] (hP:D.P=h8 cx Hh) (hf:cx f=aA cf) (aj: ∀g r,cx g=aA r->r.tab=cf.tab->r=cf)
 (ah: ∃bm o,D.mg "__builtins__" =aA (.ref bm)/\bm≠ic/\D.G.get? bm=aA o/\o.cls=.type "module" /\o.dict=aA ic/\o.data=.plain)
 (ae:C.cd=aA (cf.own,cf.qual)) (ok:lK C cf.nm i)
 (ai:cf.args.kwonlyargs=[]) (ak:cf.args.kw_defaults=[]) (aq:cf.args.defaults=[]) (U: ∀env,annTrees cf.args aF env=[]) (M:docOf cf.body=aF)
 (N: ∀x∈cf.scope.names,x.2=.free->(C.cM x.1).isSome=aB/\(C.K x.1=aA .cell\/C.K x.1=aA .free))
 (B: ∀fd,fd.params=cf.args->fd.defaults=.none->fd.kwdefaults=.none-> ∀us,us.length=cf.ps.length->nQ fd ⟨us,[]⟩=pure (cf.ps.zip us)):
 bV D C (.FunctionDef cf.nm cf.args cf.body [] aF [] cf.scope aF cf.nm cf.pos) (.defn i f):=λe=>λ{X z Q Er} K k=>by
 refine bI (K.F.rn _ _ ae) λh L=>?_
 have aa: ∀x∈cf.scope.names,x.2=.free->(X.env.cells.lookup x.1).isSome=true:=λx hx af=>by
  refine bI (N x hx af) λf1 f2=>aV (mQ.mp f1) λj f1=>cT (K.F.hG x.1 j f2 f1) λc v q O=>?_
  simp! only[q]
  rfl
 have ao:qualnameIn X.env cf.nm cf.nm=cf.qual++cf.nm:=by
  unfold qualnameIn;refine sb (K.F.hK cf.nm)<|sb L ?_
  rcases ok.k with q|q<;>rw[q]<;>rfl
 rw[exec_def,ao,defaultsOf_eq,ak,aq,U X.env];refine aR<|iJ<|aR<|cO ?_;refine aR<|bA ?_;refine aR<|cO<|bA ?_;refine cO<|wpAny_bind<|wpAny_pure ?_
 rw[makeFunction_eq,ai];refine aR (bA<|aR<|bA<|aR<|bA ?_)
 simp! only[makeTail,ML aa]
 refine aR<|bA ?_
 have dh: ∀ct Y,(∀b o,z.s.heap.get? b=aA o->Y.get? b=aA o)->aO (aY D.prog D.w) X.A (do
  let code<-QF X.env cf.pos cf.pos.line cf.nm (cf.qual++cf.nm) cf.args cf.scope (.stmts cf.body)
  let bu<-builtinsFor X.env.globals X.env.builtins
  let pm<-nsGet X.env.globals "__name__"
  let doc<-(match docOf cf.body with|some s=>mkText s|none=>pure .none)
  newObj (.type "function") (.func {name:=cf.nm,qualname:=cf.qual++cf.nm,params:=cf.args,body:=.stmts cf.body,scope:=cf.scope,globals:=X.env.globals,closure:=clOf X.env.cells cf.scope.names [],closureTuple:=ct,code,builtins:=bu,defaults:=.none,kwdefaults:=.none,annotations:=aF,pyModule:=pm.getD .none,doc})) (λa s'=>aO (aY D.prog D.w) X.A (do
  sO cf.pos
  z7 X.env cf.nm a
  pure Flow.next) Q Er s') Er {z.s with heap:=Y}:=by
  intro ct Y Z;have K1:FX D C X (aL _) (z.to Y z.s.toks):=⟨K.F.keeps Z,K.R,K.t⟩;have iv:=K1.F.inv
  simp! only[hP] at iv
  refine aR<|wpAny_toks<|Rx h K1.F.dg (iv f cf hf) λc' h2 tk d nc i2 l2=>?_;have u: ∀b o,Y.get? b=aA o-> ¬ D.P.PF b->h2.get? b=aA o:=λb o e p=>d b o e λq=>p (by simp! only[hP];exact (et f cf hf q))
  have inv2:D.P.Inv (Ex X.Ob z.W) h2:=by
   erw[hP];intro g r eg;by_cases q:r.tab=cf.tab
   ·simp! only[aj g r eg q]
    exact i2
   ·exact (iv g r eg).mv (λb o e n=>⟨d b o e λq=>n (.inr<|q▸(K.F.pf _ (by simp! only[hP];exact (et f cf hf rfl)):z.W cf.tab)),n⟩) λo w=>d _ _ w q
  have F2:=K1.F.keepsP u inv2;refine Be ah λbm ob b1 b2 b3 b4 b5 b6=>?_;have ab:h2.Ns X.env.globals D.mg:=by simp! only[K.F.hg];exact H.gl.g.keeps F2.base
  refine aR<|wpAny_builtinsFor ab b1 b2 (F2.base _ _ b3) b4 b5 b6 ?_;refine aR (wpAny_nsGet ab ?_)
  simp! only[M]
  refine aR (bA<|QEv ?_<|by size_fits);refine bI (C.nM ok.t) λhw hh=>aR<|iJ<|aR<|QFH ?_;refine wpAny_toks (((F2.keeps<|CK _).forget i hw hh).store ok.t ok.s ok.k (sl:=.clo f) (λh' O m=>?_) (λys ey=>by exact nomatch ey) λh' ag F s4 l4=>?_)
  ·refine dZ nc λoc vs t e1 nx e3 e4=>(ax h2.objs.size rfl (D.P.xw ?_ m))
   exact sb hP<|(ax cf hf<|.mk (Heap.get?_push_size _ rfl) F2.tD rfl rfl (CK _ _ _ e1) nx e3 e4 rfl rfl rfl aa K.F.hg rfl λus hu=>B _ rfl rfl rfl us hu)
  ·have l:=az l2 l4
   exact bA (k _ _ e _ (z.to h' ag) ⟨by simp! only[fR];exact F,K.R,az K.t l⟩ (Sx.y ⟨(((dc.all Z).trans<|K1.F.Ag u).trans<|dc.all<|CK _).trans s4,l,rfl,rfl⟩) .next)
 split
 ·exact aR<|bA<|dh .none z.s.heap λO O e=>e
 ·exact aR<|wpAny_newTextTuple<|dh _ _<|CK _
end
noncomputable def kA (f:Nat) (m:Bool):Sl->Sl
 |.val d=>.val d
 |.own Y=>bif m then .own Y else .unb
 |.clo g=>if g=f then .clo g else .unb
 |.emp=>.emp
 |_=>.unb
noncomputable def qf (f:Nat) (c:List Nat) (o:Option Nat) (r:bQ):bQ:=λi=>if i∈c then kA f (o==aA i) (r i) else .unb
noncomputable def Gw:aK->Bool
 |.none=>aB
 |.int _=>aB
 |_=>aE
noncomputable def tA (f:Nat) (c:List Nat) (o:Option Nat) (l:Ls):Ls:=c.map λi=>(i,kA f (o==aA i)<|aL l i)
theorem XF (f:Nat) (c:List Nat) (o:Option Nat) (l:Ls):aL (tA f c o l)=qf f c o (aL l):=by
 funext j;unfold qf;induction c with
 |nil=>rfl
 |cons i W d=>
  refine (?_:cond (bt i j) _ (aL (tA f W o l) j)=_);by_cases h:i=j
  ·erw[h]
   rw[Co,if_pos<|.head _];rfl
  ·refine sb (qC h)<|sb d ?_
   by_cases q:j∈W
   ·refine sb (QHd q)<|sb (if_pos<|.tail _ q) ?_
    rfl
   ·refine sb (QHc q)<|sb (if_neg λw=>q<|(bp.mp w).resolve_left λe=>h e.symm) ?_
    rfl
inductive Bs (l l2:Ls):Option Nat->Ls->Prop
 |none:Bs l l2 none l
 |some {j xs ys}:aL l j=.own xs->aL l2 j=.own ys->Bs l l2 (some j) (cL l j<|.own ys)
noncomputable def vY (o:bj) (f:Nat) (i c:List Nat) (t:Option Nat) (bs:List S) (xs:List aK) (l:Ls) (d:aK) (L:Ls):Prop:=xs.length=i.length/\sW bs o (jK i (xs.map .val)<|tA f c t l) λF W=>iY F d/\Gw d=aB/\Bs l W t L
theorem RW {c1 c2:List (aG×aM)}: ∀(names:List (aG×dQ)) (a:List (aG×aM)),(∀x∈names,x.2=.free->c1.lookup x.1=c2.lookup x.1)->clOf c1 names a=clOf c2 names a:=by
 intro O;induction O with
 |nil=>exact λO O=>rfl
 |cons O r i=>
  obtain ⟨n,k⟩:=O
  exact λa h=>by
   dsimp only[BV,A5];by_cases K:(k==o3)=aB
   ·exact sb (QHd K)<|sb (if_pos K)<|sb (h (n,k) (.head _)<|beq_iff_eq.mp K)<|i _ λx M=>h x<|.tail _ M
   ·exact sb (QHc K)<|sb (if_neg K)<|i _ λx M=>h x<|.tail _ M
structure tL (Cow:Fc) (cf:hF) (C:Fc):Prop where
 free: ∀x∈cf.scope.names,x.2=.free->C.cM x.1=Cow.cM x.1/\(C.cM x.1).isSome=aB/\(C.K x.1=aA .cell\/C.K x.1=aA .free)
 ow:C.ow=aB
theorem Rd.atom {X x:aM->Prop} (q:Rd X h u d) (a:Gw d=aB):Rd x h' u d:=by
 cases d with
 |none=>refine aS q λO O b=>?_;cases b;exact Rd.none
 |int i=>exact aV q.dk λt e=>sb e<|Rd.int _ _
 |_=>exact bq a
noncomputable def vj (φ:Nat->Option aM) (j:Nat):Option Addr:=if j=aT then aF else φ j
theorem yc (h:vj φ j=aA a):j≠aT/\φ j=aA a:=by
 unfold vj at h
 split at h
 ·exact ay h
 ·exact ⟨‹_›,h⟩
theorem GG (n:j≠aT) (h:φ j=aA a):vj φ j=aA a:=(QHc n).trans h
inductive Wl (D:Wd) (oi:Option Nat) (r:bQ) (z:Zs) (b:aM):Prop
 |own {j ys}:oi=some j->r j=.own ys->z.φ j=some b->Wl D oi r z b
 |pf:D.P.PF b->Wl D oi r z b
noncomputable def zL (D:Wd) (o:Option Nat) (r:bQ) (z:Zs):Zs:=⟨z.s,Wl D o r z,vj z.φ⟩
noncomputable def tu (D:Wd) (o:Option Nat) (X:Fx) (r:bQ) (z:Zs) (b:aM):Prop:=Ex X.Ob z.W b/\ ¬ Wl D o r z b
structure rq (cf:hF) (Cow:Fc) (cN:List Nat) (oi:Option Nat):Prop where
 Pb:(cf.scope.names.map (·.1)).Nodup
 RL:cf.scope.kind=.function
 hco:cf.scope.isCoroutine=aE
 Tq:cf.scope.isGenerator=aE
 Df: ∀x∈cf.scope.names,x.2≠ .cell
 YW: ∀x i,cf.scope.names.lookup x=aA .free->Cow.cM x=aA i->i∈cN
 Oq: ∀i∈cN,i<Cow.bd
 Cd: ∀j,oi=aA j->j∈cN
section
theorem rq.big (I:rq cf Cow cN oi) (h:i∈cN):i≠aT/\i≠bR:=by have:=mJ (I.Oq i h) Cow.Bo;exact ⟨λw=>by rw[w] at this;exact QHb this (by decide),λw=>by rw[w] at this;exact QHb this (by decide)⟩
theorem OS (h:i∈cN):qf f cN oi r i=kA f (oi==aA i) (r i):=QHd h
theorem Li (h:i∉cN):qf f cN oi r i=.unb:=QHc h
theorem EB (e:qf f cN oi r i=.own ys):i∈cN/\oi=aA i/\r i=.own ys:=by
 by_cases d:i∈cN
 ·rw[OS d] at e
  induction hri:r i with
  |own zs=>
   rw[hri] at e;induction q:oi==aA i with
   |true=>rw[q] at e;clear hri;cases e;exact ⟨d,QHe.mp q,rfl⟩
   |false=>rw[q] at e;contradiction
  |clo g=>
   rw[hri] at e;unfold kA at e;dsimp only at e
   split at e<;>contradiction
  |_=>rw[hri] at e;contradiction
 ·rw[Li d] at e
  contradiction
theorem Wl.w (I:rq cf Cow cN oi) (i:tL Cow cf C) (K:FX D C X r z) (q:Wl D oi r z b):z.W b:=by
 induction q with
 |own o s Q=>exact K.F.gN i.ow _ _ b s Q (I.big<|I.Cd _ o).1
 |pf p=>exact K.F.pf b p
theorem Gj (I:rq cf Cow cN oi) (i:tL Cow cf C) (K:FX D C X r z):Ex (tu D oi X r z) (Wl D oi r z)=Ex X.Ob z.W:=by
 funext b;refine propext ⟨λq=>q.elim (·.1) λq=>.inr<|q.w I i K,λq=>?_⟩;by_cases w:Wl D oi r z b
 ·exact .inr w
 ·exact .inl ⟨q,w⟩
theorem Xz (I:rq cf Cow cN oi) (c:tL Cow cf C) (K:FX D C X r z):En D (tu D oi X r z) (qf f cN oi r) (zL D oi r z):=by
 have x:=Gj I c K;have N: ∀ys,qf f cN oi r aT≠ .own ys:=λys e=>(I.big (EB e).1).1 rfl;refine ⟨K.F.base,λb o e=>by erw[x];exact K.F.fO b o e,λi ys e=>?_,λi ys b e u n=>?_,λys e=>QHb e<|N ys,λys e=>QHb e<|N ys,λO=>(QHd rfl:vj z.φ aT=aF),λi j b e u=>K.F.inj i j b (yc e).2 (yc u).2,λi b e=>K.F.jv i b (yc e).2,λb q=>K.F.dg b<|x▸q,λb w q=>q.2 w,by erw[x];exact K.F.inv,λb p=>.pf p⟩
 ·exact eN (EB e) λd Y A=>dT (K.F.own i ys A) λb vs' n e1 e2 h=>(ly b vs' n (GG (I.big d).1 e1) e2 (by erw[x];exact h))
 ·exact eN (EB e) λd Y A=>.own Y A (yc u).2
theorem VI (hP:D.P=h8 cx Hh) (A:cx f=aA cf) (I:rq cf Cow cN oi) (j:tL Cow cf C) (K:FX D C X r z) {code:aI} (Z: ∀x∈cf.scope.names,x.2=.free->(X.env.cells.lookup x.1).isSome=aB)
 (t:m=H2 cf.scope z.s.heap.objs.size nO (jP (z.s.heap.objs.size+1) cf.scope.names<|clOf X.env.cells cf.scope.names []) qual B code aF ic):
 FR D.P D.G (Cow.sub cf.scope.names aE aB hb) m (tu D oi X r z) (zL D oi r z).φ ((zL D oi r z).my cf.scope.names).W (qf f cN oi r) ((zL D oi r z).my cf.scope.names).s.heap:=by
 have e:=Xz (f:=f) I j K;have hX:Ex (tu D oi X r z) (zL D oi r z).W=Ex X.Ob z.W:=Gj I j K;have l:=yS cf.scope.names [] Z λy c q=>ay q
 have L: ∀x c,(clOf X.env.cells cf.scope.names []).lookup x=aA c-> ∃i v,C.cM x=aA i/\Cow.cM x=aA i/\cf.scope.names.lookup x=aA .free/\X.env.cells.lookup x=aA c/\z.s.heap.IsCell c v/\da D.P z.φ X.env.cells (Ex X.Ob z.W) z.s.heap i v (r i):=by
  intro x c q;have hm:(x,o3)∈cf.scope.names:=((l.2 x).mpr (by erw[q];rfl)).elim id λw=>bq w
  refine eN (j.free _ hm rfl) λf1 f2 f3=>aV (mQ.mp f2) λi f4=>bc (K.F.hG x i f3 f4) λc' v q1 q2 q3=>?_;have q0:=l.1 x c q;clear hP A hb j K Z t e hX l q f2 f3;obtain rfl:=bM q1 q0;exact (uC i v f4 (f1▸f4) (Ad I.Pb hm) q1 q2 q3)
 have a: ∀x,(x,o3)∈cf.scope.names-> ∃c,(clOf X.env.cells cf.scope.names []).lookup x=aA c:=λx M=>mQ.mp<|(l.2 x).mp<|.inl M
 have N: ∀x∈cf.scope.names,x.2=.free->m.cells.lookup x.1=X.env.cells.lookup x.1:=λx M Z=>by
  simp! only[(by erw[t];rfl:m.cells=jP (z.s.heap.objs.size+1) cf.scope.names (clOf X.env.cells cf.scope.names [])),(BE cf.scope.names _ _ x.1).1 λw=>QHb rfl (I.Df _ w)]
  refine aV (a x.1 (by erw[<-Z];exact M)) λc q=>?_
  simp! only[q,l.1 x.1 c q]
 have h: ∀i v,i∈cN->da D.P z.φ X.env.cells (Ex X.Ob z.W) z.s.heap i v (r i)->da D.P (vj z.φ) m.cells (Ex X.Ob z.W) z.s.heap i v (qf f cN oi r i):=by
  intro i v u x;erw[OS u];induction R:r i with
  |val d=>rw[R] at x;exact x
  |own ys=>
   rw[R] at x;induction q:oi==aA i with
   |true=>exact aS x λb q1 q2=>(ax b (GG (I.big u).1 q1) q2)
   |false=>trivial
  |clo g=>
   rw[R] at x;unfold kA;dsimp only
   split
   ·rename_i q
    clear e R;subst q;refine aS x λb q1 q2=>(ax b q1 ?_);rw[hP] at q2⊢;refine aS q2 λx5 e2 o=>?_;obtain ⟨k1,k2,k3,k4,k5,k6,k7,k8,k9,ab,aa,ah,ag,n,af⟩:=o;obtain rfl:=bM A e2;exact (ax cf A<|.mk k1 k2 k3 k4 k5 k6 k7 k8 k9 ab (aa.trans<|RW _ _ λx M Z=>(N x M Z).symm) (λx M Z=>by erw[N x M Z];exact ah x M Z) ag n af)
   ·trivial
  |emp=>rw[R] at x;exact x
  |_=>trivial
 refine ED (cl:=clOf X.env.cells cf.scope.names []) I.Pb (by erw[t];rfl) (by erw[t];rfl) (by erw[t];exact I.RL) (λx=>?_) (by erw[t];rfl) (by erw[t];rfl) (λc q e=>by exact ay e) (λx i p q=>?_) (λx i p q=>?_) (λx p q=>?_) (λx c q=>?_) (λx y c q Q=>?_)
  e.base e.fO e.own (λO=>e.gN) e.jf e.kn e.lD e.inj e.jv e.dg e.dR e.inv e.pf
 ·refine sb t<|(?_:cf.scope.names.lookup x=(cf.scope.names.lookup x).map λk=>if aE && k==.free && Cow.K x==aA .cell then .cell else k)
  cases cf.scope.names.lookup x<;>rfl
 ·refine Li λu=>?_
  have Q:(match cf.scope.names.lookup x with
   |some k=>if j9 k then (if x==oX then aF else aA (Cow.bd+cf.scope.names.findIdx (·.1==x))) else if k==.free then Cow.cM x else aF
   |none=>aF)=aA i:=q
  rw[((oP p).elim id λw=>by cases w.1:cf.scope.names.lookup x=aA .local)] at Q;have Q:(if x==oX then aF else aA (Cow.bd+cf.scope.names.findIdx (·.1==x)))=aA i:=Q
  split at Q
  ·exact ay Q
  ·clear A hb j Z t l L a N p q
   cases Q
   exact QHb (I.Oq _ u)<|iH.mpr<|mO _ _
 ·have Q:(match cf.scope.names.lookup x with
   |some k=>if j9 k then (if x==oX then aF else aA (Cow.bd+cf.scope.names.findIdx (·.1==x))) else if k==.free then Cow.cM x else aF
   |none=>aF)=aA i:=q
  have H:cf.scope.names.lookup x=aA .free:=by
   refine cp (p) (λp=>?_) λp=>?_
   ·refine cp (oP p) (λw=>?_) λw=>?_
    ·exact QHb rfl (I.Df _<|mem_of_lookup w)
    ·exact w.2.1
   ·refine cp (oP p) (λw=>?_) λw=>?_
    ·exact w
    ·cases w.1
  rw[H] at Q;refine aV (a x<|mem_of_lookup H) λc q1=>Be (L x c q1) λi' v O k3 O O k5 k6=>?_;have U:Cow.cM x=aA i:=Q;clear hP A hb j K Z t e l L a N p q Q;obtain rfl:=bM U k3;exact .inr ⟨H,c,v,q1,k5,by erw[hX];exact h i v (I.YW x i H U) k6⟩
 ·exact (oP p).elim id λw=>bq w.2.2.2
 ·exact Be (L x c q) λO O O O O O Y O=>aS Y λo' w O=>⟨o',w⟩
 ·exact oh (L x c q) λO O O O O k4 O=>oh (L y c Q) λO O O O O ae O=>K.F.oY x y c k4 ae
theorem QCb (hP:D.P=h8 cx Hh) (hf:cx f=aA cf) (lim:D.G.NoLimit) (I:rq cf Cow cN oi) (T:Tx D (Cow.sub cf.scope.names aE aB hb) cf.body cf.ps is bs)
 (hc: ∀C,D.cN f C->tL Cow cf C) (he:vY D.o f is cN oi bs xs l d l'):zE {D with n:=D.n+1,o:=o'} f xs l d l':=by
 intro C X z a us Q E x K Z hv k;have r:=hc C x;have K:FX {D with n:=D.n+1} C X (aL l) z:=⟨K.F,K.R,K.t⟩;have hlen:=he.1;have v:=he.2
 ·skip
  have Z:=Z
  simp! only[hP] at Z
  refine aS Z λao af aa=>?_;obtain ⟨g1,g2,g3,g4,g5,g6,g7,g8,g9,B,ah,aj,ae,ag,ai⟩:=aa;obtain rfl:=bM hf af;have U:=(T.hp.uO (D:=D)).1.trans hlen.symm;refine xA (QE K.R.lt g1 g3 (by simp! only[B];exact I.hco) (by simp! only[B];exact I.Tq) g9 (FJ _ _ _ _ g4 g5 g7 g8) ?_)
  simp! only[ai us<|hv.len.trans U.symm]
  have K':FX D C X (aL l) z:=⟨K.F,⟨K.R.1,az (QFR _) K.R.2.1,az (Nat.add_le_add_right (Pc (gC 10<|QFR _) _) _) K.R.2.2⟩,K.t⟩;have hX:=Gj I r K';refine bA (PA (z:=zL D oi (aL l) z) (Ob:=tu D oi X (aL l) z) T lim (by simp! only[dY];exact U) v K.R K.t (eU.vals (by simp! only[hX];exact hv:bB (Ex (tu D oi X (aL l) z)<|Wl D oi (aL l) z) z.s.heap us xs)) (λak L=>?_) (λfl l2 d' g g' u env z' b=>?_) λl2 g=>by cases g.1)
  ·simp! only[B,ah,ae,ag] at L
   erw[B]
   simp! only[XF]
   exact VI hP hf I r K' aj L
  ·have hd:=g.1
   have ab:=g.2.1;have N:=g.2.2;obtain rfl:=hd.fn g';have pe:=b.s.p.nw rfl;have Y:=b.s.st.keep
   have A: ∀c,Wl D oi (aL l) z c->z'.W c:=λc q=>by
    induction q with
    | @own j ys q1 q2 m=>
     clear he v hX g Y q2;subst q1;cases N with
     |some z1 i=>exact b.F.gN T.ow j _ c i (pe▸GG (I.big<|I.Cd _ rfl).1 m) (I.big<|I.Cd _ rfl).1
    |pf p=>exact b.F.pf c p
   have mo:Mon (Ex (tu D oi X (aL l) z) z'.W) z'.s.heap (Ex X.Ob z.W) z'.s.heap:=λc o e n=>⟨e,λq=>n (by
    by_cases w:Wl D oi (aL l) z c
    ·exact .inr<|A c w
    ·exact .inl ⟨q,w⟩)⟩
   have M:=D.P.iM b.F.inv mo λO O=>rfl
   have dh:FR D.P D.G C X.env X.Ob z.φ z.W (aL l') z'.s.heap/\dc z.W z.s.heap z.W z'.s.heap:=by
    clear he k v K' hX g A;induction N with
    |none=>
     have h: ∀a o,z.s.heap.get? a=aA o-> ¬ D.P.PF a->z'.s.heap.get? a=aA o:=λa o e n=>Y a o e λq=>by
      induction q with
      |own q1=>exact ay q1
      |pf q=>exact n q
     exact ⟨K.F.keepsP h M,K.F.Ag h⟩
    | @some j _ _ z1 i=>
     have Hq:=(I.big<|I.Cd j rfl);have jl:=Hq.1;have jw:=Hq.2;refine dT (b.F.own j _ i) λc vs' n' e1 e2 e3=>?_
     simp! only[pe] at e1
     have H:=(yc e1).2
     simp! only[fR]
     refine K.F.Dy jw z1 H (K.F.gN r.ow j _ c z1 H jl) (λc' o e nb np=>Y c' o e λq=>?_) M e2<|e3.mon mo;induction q with
     |own q1 _ m=>cases q1;obtain rfl:=bM H m;exact nb rfl
     |pf q=>exact np q
   exact k u {z with s:=z'.s} ⟨dh.1,K.R,az K.t b.s.t⟩ ⟨dh.2,b.s.t,rfl,b.s.e⟩ (Rd.atom (b.rd (λO=>False) λO=>mG) ab)
end
inductive Hn|d (x:Dat)|b (z:Bool)|ds (xs:List Dat)|i (n:Int)|s (x:Str)|f (f:Fl) (l:Ls)|c (x:Dat) (l:Ls)|h (x:Dat) (hs:List Dat)
noncomputable abbrev Hs:=List Hn
noncomputable abbrev Wt (α:Type):=bj->Ls->(α->Ls->Prop)->Prop
noncomputable abbrev Xt (α:Type):=bj->Hs->Ls->(α->Ls->Hs->Prop)->Prop
structure bC {α:Type} (w:Wt α) (x:Xt α):Prop where r: ∀{o hs l} {K:α->Ls->Prop} {k:α->Ls->Hs->Prop} {P:Prop},(w o l K->P)->(∀v l hs,(K v l->P)->k v l hs)->x o hs l k
noncomputable def eM (b:Bool) (p:Prop):Prop:=match b with|true=>p|false=>True
theorem eO {p:Prop} (h:b=aB->p):eM b p:=by induction b;exact trivial;exact h rfl
noncomputable def bf {α:Type} (x:Option α) (f:α->Prop) (g:Prop):Prop:=match x with|some a=>f a|none=>g
section
variable {α β:Type} {P:Prop}
theorem xi {g u:Prop} (h:iB x f g->P) (r: ∀a,x=aA a->(f a->P)->F a) (i:(g->P)->u):bf x F u:=by
 induction x with
 |none=>exact i h
 |some a=>exact r a rfl h
noncomputable def pD:Hn->Option aK|.d x=>aA x|_=>aF
noncomputable def pB:Hn->Option Bool|.b x=>aA x|_=>aF
noncomputable def pI:Hn->Option Int|.i x=>aA x|_=>aF
noncomputable def lV (p:Hn->Option α) (hs:Hs) (k:α->Hs->Prop):Prop:=match hs with|h::hs=>bf (p h) (λa=>k a hs) True|[]=>True
theorem nz {k:α->Hs->Prop} (f: ∀a hs,k a hs):lV p hs k:=by
 induction hs with
 |nil=>exact trivial
 |cons h hs=>show bf (p h) _ _;cases p h;exact trivial;exact f _ _
noncomputable def kv (p:Hn->Option α) (R:α->Prop) (hs:Hs) (k:α->Hs->Prop):Prop:=lV p hs λa hs=>R a->k a hs
theorem lH {R K:α->Prop} {k:α->Hs->Prop} (h:dD R K->P) (f: ∀a hs,(K a->P)->k a hs):kv p R hs k:=nz λa hs r=>f a hs λq=>h<|.mk r q
noncomputable def sz (z:Bool) (hs:Hs) (p q:Hs->Prop):Prop:=lV pB hs λb hs=>match b with|true=>z=aB->p hs|false=>z=aE->q hs
theorem vC {p q:Prop} (h:two z p q->P) (f: ∀hs,(p->P)->C hs) (g: ∀hs,(q->P)->Q hs):sz z hs C Q:=nz λb hs=>by
 induction b
 ·exact λe=>g hs λx=>h<|.inr ⟨e,x⟩
 ·exact λe=>f hs λx=>h<|.inl ⟨e,x⟩
noncomputable def GQ (op:kg) (b:Bool) (hs:Hs) (p q:Hs->Prop):Prop:=lV pB hs λz hs=>match z with|true=>b=rV op->p hs|false=>b=(!rV op)->q hs
theorem OO {p q:Prop} (h:GH op z p q->P) (f: ∀hs,(p->P)->C hs) (g: ∀hs,(q->P)->Q hs):GQ op z hs C Q:=nz λb hs=>by
 induction b
 ·exact λe=>g hs λx=>h<|.inr ⟨e,x⟩
 ·exact λe=>f hs λx=>h<|.inl ⟨e,x⟩
noncomputable def LU (op:iG) (a b:Int) (k:Int->Prop):Prop:=match op with
 |.Add=>k<|a+b
 |.Sub=>k<|a - b
 |.Mult=>ib a+ib b<=134217728->k (a*b)
 |.FloorDiv=>decide (b=0)=aE->sC a b=aE->k (a.fdiv b)
 |.Mod=>decide (b=0)=aE->k (a.fmod b)
 |.Pow=>decide (0<=b)=aB->(ib a:Int)*b<=134217728->k (a^b.toNat)
 |.LShift=>0<=b->(ib a:Int)+b<=134217728->k (a*2^b.toNat)
 |.RShift=>0<=b->k (a.fdiv<|2^b.toNat)
 |.BitAnd=>k<|jM a b
 |.BitOr=>k<|uS a b
 |.BitXor=>k<|Cp a b
 |_=>True
theorem QAv {K k:Int->Prop} (h:HE op a b K->P) (f: ∀c,(K c->P)->k c):LU op a b k:=by
 induction op with
 |Add=>exact f _ h
 |Sub=>exact f _ h
 |Mult=>exact λc=>f _ λq=>h ⟨c,q⟩
 |FloorDiv=>exact λc d=>f _ λq=>h ⟨of_decide_eq_false c,d,q⟩
 |Mod=>exact λc=>f _ λq=>h ⟨of_decide_eq_false c,q⟩
 |Pow=>exact λc d=>f _ λq=>h ⟨eD c,d,q⟩
 |LShift=>exact λc d=>f _ λq=>h ⟨c,d,q⟩
 |RShift=>exact λc=>f _ λq=>h ⟨c,q⟩
 |BitAnd=>exact f _ h
 |BitOr=>exact f _ h
 |BitXor=>exact f _ h
 |_=>exact trivial
noncomputable def Le (l:Ls) (op:iG) (u w:V) (hs:Hs) (k:aK->Hs->Prop):Prop:=bf (gv u) (λa=>bf (gv w) (λb=>LU op a b λc=>k (.int c) hs)<|kv pD (fe (aL l) op u w) hs k)<|kv pD (fe (aL l) op u w) hs k
theorem QBG {u w:V} {K} {k:aK->Hs->Prop} (h:HY l op u w K->P) (f: ∀a hs,(K a->P)->k a hs):Le l op u w hs k:=xi h (λO O h=>xi h (λO O h=>QAv h λc h=>f _ _ h) (lH · f)) (lH · f)
noncomputable def Kv (op:fV) (a b:Int) (k:Bool->Prop):Prop:=match op with
 |.Eq=>k<|a==b
 |.NotEq=>k<|a !=b
 |.Lt=>k<|decide (a<b)
 |.LtE=>k<|decide (a<=b)
 |.Gt=>k<|decide (a>b)
 |.GtE=>k<|decide (a>=b)
 |_=>True
theorem VO {K k:Bool->Prop} (h:G6 op a b K->P) (f: ∀c,(K c->P)->k c):Kv op a b k:=by
 induction op<;>first|exact f _ h|exact trivial
noncomputable def Bd (l:Ls) (op:fV) (u w:V) (hs:Hs) (k:Bool->Hs->Prop):Prop:=bf (gv u) (λa=>bf (gv w) (λb=>Kv op a b λc=>k c hs)<|kv pB (gj (aL l) op u w) hs k)<|kv pB (gj (aL l) op u w) hs k
theorem Cb {u w:V} {K} {k:Bool->Hs->Prop} (h:vo l op u w K->P) (f: ∀a hs,(K a->P)->k a hs):Bd l op u w hs k:=xi h (λO O h=>xi h (λO O h=>VO h λc h=>f _ _ h) (lH · f)) (lH · f)
theorem cG {K k:α->Prop} (h:iB x K False->P) (f: ∀a,(K a->P)->k a):bf x k True:=xi h (λa O=>f a) λO=>trivial
noncomputable def fF:Ls->Nat->Sl->(Ls->Prop)->Prop
 |[],i,v,k=>k [(i,v)]
 |(j,s)::l,i,v,k=>match bt j i with
  |true=>k<|(j,v)::l
  |false=>fF l i v λl=>k<|(j,s)::l
theorem Rk: ∀l i v k,fF l i v k=k (cL l i v):=by
 intro O;induction O with
 |nil=>exact λO O O=>rfl
 |cons O l d=>
  obtain ⟨j,s⟩:=O
  exact λi v k=>by
   dsimp only[fF,cL];cases bt j i
   ·exact d i v _
   ·rfl
theorem gP {k:Ls->Prop} (h:k (cL l i v)):fF l i v k:=by simp only[Rk];exact h
noncomputable def HW:List Nat->List aK->Ls->(Ls->Prop)->Prop
 |i::is,x::xs,l,k=>fF l i (.val x) λl=>HW is xs l k
 |_,_,l,k=>k l
theorem HU: ∀{o:List Nat} {xs:List aK} {l:Ls} {k:Ls->Prop},k ((o.zip xs).foldl (λl p=>cL l p.1<|.val p.2) l)->HW o xs l k
 |[],_,_,_,h=>h
 |_::_,[],_,_,h=>h
 |i::o,x::xs,_,_,h=>gP<|HU h
noncomputable def ju:Ls->(Ls->Prop)->Prop
 |[],k=>k []
 |(j,s)::l,k=>ju l λl=>k<|(j,s)::l
theorem QDB: ∀l k,ju l k=k l:=by
 intro O;induction O with
 |nil=>exact λO=>rfl
 |cons O l i=>obtain ⟨j,s⟩:=O;exact λk=>i _
theorem mC {k:Ls->Prop} (h:k l):ju l k:=by simp only[QDB];exact h
noncomputable def Bh (t:cS) (x:aK) (l:Ls) (k:Ls->Prop):Prop:=match t with
 |.one i=>fF l i (.val x) k
 |.tup o=>match x with
  |.tuple R|.list R=>eM (bt R.length o.length)<|HW o R l k
  |_=>True
theorem HK {K k:Ls->Prop} (h:x6 t x l K->P) (f: ∀l,(K l->P)->k l):Bh t x l k:=by
 induction t with
 |one i=>exact gP<|f _ h
 |tup o=>cases x with
  |tuple R=>exact eO λe=>HU<|f _ λq=>h ⟨uR e,q⟩
  |list R=>exact eO λe=>HU<|f _ λq=>h ⟨uR e,q⟩
  |_=>exact trivial
inductive fc {α:Type}:List (Wt α)->List (Xt α)->Prop|nil:fc [] []|cons {w ws x xs}:bC w x->fc ws xs->fc (w::ws) (x::xs)
noncomputable def lX:List (Xt V)->Xt (List V)
 |[],_,s,l,k=>k [] l s
 |e::es,o,s,l,k=>e o s l λv l s=>lX es o s l λm l s=>k (v::m) l s
theorem Gy (h:fc es xs):bC (lW es) (lX xs):=by
 induction h with
 |nil=>exact ⟨λh f=>f _ _ _ h⟩
 |cons a _ i=>exact ⟨λh f=>a.r h λv l s h=>i.r h λm l s h=>f _ _ _ h⟩
noncomputable def EE:List V->(List aK->Prop)->Prop
 |[],k=>k []
 |v::vs,k=>bf (j3 v) (λd=>EE vs λA=>k<|d::A) True
theorem QBI: ∀{vs:List V} {K k:List aK->Prop},(yP vs K->P)->(∀a,(K a->P)->k a)->EE vs k:=by
 intro vs;induction vs with
 |nil=>exact λh f=>f _ h
 |cons v vs i=>exact λh f=>cG h λa h=>i h λO h=>f _ h
noncomputable def dX (es:List (Xt V)):Xt (List aK):=λo s l k=>lX es o s l λv l s=>EE v λd=>k d l s
theorem mq (h:fc es xs):bC (dW es) (dX xs):=⟨λq f=>(Gy h).r q λO O O q=>QBI q λO q=>f _ _ _ q⟩
noncomputable def aX:List (Xt Bool)->Xt Bool
 |[],_,s,l,k=>k aB l s
 |t::ts,o,s,l,k=>t o s l λz l s=>sz z s (λs=>aX ts o s l k) λs=>k aE l s
theorem Tp (h:fc ts xs):bC (aW ts) (aX xs):=by
 induction h with
 |nil=>exact ⟨λh f=>f _ _ _ h⟩
 |cons a _ i=>exact ⟨λh f=>a.r h λv l hs h=>vC h (λhs h=>i.r h f) λhs h=>f _ _ _ h⟩
noncomputable def bX (op:kg):List (Xt Bool)->Xt Bool
 |[],_,s,l,k=>k (!rV op) l s
 |t::ts,o,s,l,k=>t o s l λb l s=>GQ op b s (λs=>k (rV op) l s) λs=>bX op ts o s l k
theorem Rf (h:fc ts xs):bC (BR op ts) (bX op xs):=by
 induction h with
 |nil=>exact ⟨λh f=>f _ _ _ h⟩
 |cons a _ i=>exact ⟨λh f=>a.r h λv l hs h=>OO h (λhs h=>f _ _ _ h) λhs h=>i.r h f⟩
noncomputable def nxX (f:Fl) (p:Prop) (k:Fl->Prop):Prop:=match f with|.next=>p|f=>k f
noncomputable def sX:List (Xt Fl)->Xt Fl
 |[],_,A,l,k=>k .next l A
 |s::ss,o,A,l,k=>s o A l λf l A=>nxX f (sX ss o A l k) λf=>k f l A
theorem oW (h:fc ss xs):bC (sW ss) (sX xs):=by
 induction h with
 |nil=>exact ⟨λh f=>f _ _ _ h⟩
 |cons a _ i=>exact ⟨λh f=>a.r h λv l s h=>by induction v with
  |next=>exact i.r h f
  |_=>exact f _ _ _ h⟩
end
noncomputable abbrev XE:=Xt V
noncomputable abbrev XT:=Xt Bool
noncomputable abbrev XS:=Xt Fl
noncomputable abbrev XI:=bj->Bool->Hs->Ls->(List aK->Ls->Hs->Prop)->Prop
structure qL (w:I) (x:XI):Prop where r: ∀{o f hs l} {K:List aK->Ls->Prop} {k:List aK->Ls->Hs->Prop} {P:Prop},(w o f l K->P)->(∀v l hs,(K v l->P)->k v l hs)->x o f hs l k
section
variable {P:Prop}
noncomputable def X.ret (v:V):XE:=λO s l k=>k v l s
theorem yN:bC (λO l K=>K v l) (X.ret v):=⟨λq f=>f _ _ _ q⟩
noncomputable def X.aC (i:Nat):XE:=λO s l k=>bf (kV (aL l) i) (λv=>k v l s) True
theorem QBH {i}:bC (E.aC i) (X.aC i):=⟨λq f=>cG q λO=>f _ _ _⟩
noncomputable def X.qH (i:Nat):XE:=λO s l k=>bf (gh<|aL l i) (λx=>fF l i .unb λl=>k (.d<|.list x) l s) True
theorem SU {i}:bC (E.qH i) (X.qH i):=⟨λq f=>cG q λO q=>gP<|f _ _ _ q⟩
noncomputable def X.aH (op:iG) (A B:XE):XE:=λo s l k=>A o s l λu l s=>B o s l λw l s=>Le l op u w s λd s=>k (.d d) l s
theorem Nm {op} (s:bC a A) (hb:bC b B):bC (E.aH op a b) (X.aH op A B):=⟨λq f=>s.r q λO O O q=>hb.r q λO O O q=>QBG q λO O=>f _ _ _⟩
noncomputable def X.neg (A:XE):XE:=λo s l k=>A o s l λu l s=>bf (gv u) (λi=>k (.d<|.int (-i)) l s) True
theorem QBf (s:bC a A):bC (E.neg a) (X.neg A):=⟨λq f=>s.r q λO O O q=>cG q λO=>f _ _ _⟩
noncomputable def X.inv (A:XE):XE:=λo s l k=>A o s l λu l s=>bf (gv u) (λi=>k (.d<|.int<|QEV i) l s) True
theorem QCK (s:bC a A):bC (E.inv a) (X.inv A):=⟨λq f=>s.r q λO O O q=>cG q λO=>f _ _ _⟩
noncomputable def X.BG (op:fV) (A B:XE):XT:=λo s l k=>A o s l λu l s=>B o s l λw l s=>Bd l op u w s λc s=>k c l s
theorem X6 {op} (s:bC a A) (hb:bC b B):bC (T.cmp op a b) (X.BG op A B):=⟨λq f=>s.r q λO O O q=>hb.r q λO O O q=>Cb q λO O=>f _ _ _⟩
noncomputable def X.ofT (Y:XT):XE:=λo s l k=>Y o s l λb l s=>k (.d<|.bool b) l s
theorem b_ {op} (s:bC a A) (hb:bC b B):bC (E.cmp op a b) (X.ofT<|X.BG op A B):=⟨λq f=>s.r q λO O O q=>hb.r q λO O O q=>Cb q λO O=>f _ _ _⟩
noncomputable def X.ite (Y:XT) (A B:XE):XE:=λo s l k=>Y o s l λz l s=>sz z s (λs=>A o s l k) λs=>B o s l k
theorem u_ (Z:bC t Y) (s:bC a A) (hb:bC b B):bC (E.ite t a b) (X.ite Y A B):=⟨λq f=>Z.r q λO O O q=>vC q (λO q=>s.r q f) λO q=>hb.r q f⟩
noncomputable def X.list (e:List XE):XE:=λo s l k=>dX e o s l λx l s=>eM (eX x.length 16777216)<|k (.d<|.list x) l s
theorem Fe (h:fc es Es):bC (E.list es) (X.list Es):=⟨λq f=>(mq h).r q λO O O q=>eO λe=>f _ _ _ λr=>q ⟨e,r⟩⟩
noncomputable def X.tup (e:List XE):XE:=λo s l k=>dX e o s l λx l s=>eM (eX x.length 16777216)<|k (.d<|.tuple x) l s
theorem B_ (h:fc es Es):bC (E.tup es) (X.tup Es):=⟨λq f=>(mq h).r q λO O O q=>eO λe=>f _ _ _ λr=>q ⟨e,r⟩⟩
noncomputable def Y5:Hn->Option (List aK)|.ds x=>aA x|_=>aF
noncomputable def X.comp (e:E) (t:cS) (J:XI) (ts:List T):XE:=λo s l k=>J o aE s l λx l s=>lV Y5 s λY s=>x.length<=16777216->(∀K:List aK->Prop,K Y->cW e t ts o (nq t<|oR l) x K)->k (.d<|.list Y) l s
theorem NC {tg} (i:qL it J):bC (E.comp e tg it ts) (X.comp e tg J ts):=⟨λq f=>i.r q λO O O q=>nz λO O h H=>f _ _ _ λr=>q ⟨h,H _ r⟩⟩
noncomputable def X.au (A B:XE):XE:=λo s l k=>A o s l λu l s=>B o s l λw l s=>bf (gv w) (λi=>kv pD (cC (aL l) u i) s λd s=>k (.d d) l s) True
theorem Zz (s:bC a A) (hb:bC b B):bC (E.au a b) (X.au A B):=⟨λq f=>s.r q λO O O q=>hb.r q λO O O q=>cG q λO q=>lH q λO O=>f _ _ _⟩
noncomputable def X.dK (A B C D:XE):XE:=λo s l k=>A o s l λu l s=>B o s l λx l s=>C o s l λy l s=>D o s l λz l s=>kv pD (gR (aL l) u x y z) s λd s=>k (.d d) l s
theorem VK {D:XE} (s:bC a A) (hb:bC b B) (W:bC c C) (hd:bC d D):bC (E.dK a b c d) (X.dK A B C D):=⟨λq f=>s.r q λO O O q=>hb.r q λO O O q=>W.r q λO O O q=>hd.r q λO O O q=>lH q λO O=>f _ _ _⟩
noncomputable def X.call (g:Nat) (e:List XE):XE:=λo s l k=>dX e o s l λx l s=>kv pD (o.F g x) s λz s=>k (.d z) l s
theorem Vd {g} (h:fc es Es):bC (E.call g es) (X.call g Es):=⟨λq f=>(mq h).r q λO O O q=>lH q λO O=>f _ _ _⟩
noncomputable def pC:Hn->Option (aK×Ls)|.c x l=>aA (x,l)|_=>aF
noncomputable def KH (s:Sl):Option Nat:=match s with|.clo f=>aA f|_=>aF
theorem UL (h:(match KH s with|some f=>bt f g|none=>aE)=aB):s=.clo g:=by
 induction s with
 |clo f=>exact QHf _<|uR h
 |_=>exact bq h
noncomputable def X.jF (g i:Nat) (e:List XE):XE:=λo s l k=>eM (match KH (aL l i) with|some f=>bt f g|none=>aE) (dX e o s l λR l s=>lV pC s λr s=>match r with|(x,l')=>o.L g R l x l'->ju l' λl=>k (.d x) l s)
theorem QDL {g i} (h:fc es Es):bC (E.jF g i es) (X.jF g i Es):=⟨λq f=>eO λc=>(mq h).r (λr=>q ⟨UL c,r⟩) λO O O q=>nz λO O r=>mC<|f _ _ _ λs=>q<|.mk r s⟩
noncomputable def X.bi (b:Bi) (e:List XE):XE:=λo s l k=>lX e o s l λv l s=>kv pD (cn (aL l) b v) s λd s=>k (.d d) l s
theorem xBi {b} (h:fc es Es):bC (E.bi b es) (X.bi b Es):=⟨λq f=>(Gy h).r q λO O O q=>lH q λO O=>f _ _ _⟩
theorem MP {α:Type} {x:Option α} (h:x.isSome=aB): ∃a,x=aA a:=by cases x;exact bq h;exact ⟨_,rfl⟩
noncomputable def MW (m:Sm) (v:V):Bool:=match m with|.bits=>(gv v).isSome|_=>(xt v).isSome
theorem QDu {m v} (h:MW m v=aB):Ef m v:=by
 induction m with
 |bits=>exact (MP h).imp λO=>vP
 |_=>exact (MP h).imp λO=>Md
noncomputable def X.sm (m:Sm) (A:XE) (e:List XE):XE:=λo s l k=>A o s l λu l s=>eM (MW m u)<|lX e o s l λv l s=>kv pD (jC (aL l) m u v) s λd s=>k (.d d) l s
theorem xSm {m} (s:bC a A) (h:fc es Es):bC (E.sm m a es) (X.sm m A Es):=⟨λq f=>s.r q λO O O q=>eO λc=>(Gy h).r (λr=>q ⟨QDu c,r⟩) λO O O q=>lH q λO O=>f _ _ _⟩
noncomputable def X.qd (A:XE) (y z:aG):XE:=λo s l k=>A o s l λu l s=>bf (xt u) (λx=>eM (bt y.length 1 && bt z.length 0)<|x.length<=4096->k (.d<|.str<|Cr x y z) l s) True
theorem Ue {y z} (s:bC a A):bC (E.qd a y z) (X.qd A y z):=⟨λq f=>s.r q λO O O q=>cG q λO q=>eO λc h=>f _ _ _ λr=>q<|kq h (uR (f7.mp c).1) (uR (f7.mp c).2) r⟩
noncomputable def X.iS (n:Bool) (A:XE):XT:=λo s l k=>A o s l λu l s=>bf (j3 u) (λd=>lV pB s λb s=>match b with|true=>d=.none->k (aB !=n) l s|false=>d≠ .none->k (aE !=n) l s) True
theorem LX {d:aK} {k:Bool->Hs->Prop} {p q:Prop} (h:d=.none/\p\/d≠ .none/\q->P) (f: ∀hs,(p->P)->k aB hs) (g: ∀hs,(q->P)->k aE hs):lV pB hs λb hs=>match b with|true=>d=.none->k aB hs|false=>d≠ .none->k aE hs:=nz λb hs=>by
 cases b
 ·exact λe=>g _ λr=>h<|.inr ⟨e,r⟩
 ·exact λe=>f _ λr=>h<|.inl ⟨e,r⟩
theorem Zr {n} (s:bC a A):bC (T.iS n a) (X.iS n A):=⟨λ{o hs l K k P} q f=>s.r q λO l O q=>cG q λd q=>LX (k:=λb hs=>k (b !=n) l hs) q (λO=>f _ _ _) λO=>f _ _ _⟩
theorem QDd {n} (s:bC a A):bC (E.iS n a) (X.ofT<|X.iS n A):=⟨λ{o hs l K k P} q f=>s.r q λO l O q=>cG q λd q=>LX (k:=λb hs=>k (.d<|.bool<|b !=n) l hs) q (λO=>f _ _ _) λO=>f _ _ _⟩
noncomputable def X.p9 (A:XE):XE:=λo s l k=>A o s l λu l s=>bf (gv u) (λi=>k (.d<|.bool<|o.b1 i) l s) True
theorem Yg (s:bC a A):bC (E.p9 a) (X.p9 A):=⟨λq f=>s.r q λO O O q=>cG q λO=>f _ _ _⟩
noncomputable def X.qJ (A:XE):XE:=λo s l k=>A o s l λu l s=>bf (gv u) (λi=>k (.d<|o.b3 i) l s) True
theorem X4 (s:bC a A):bC (E.qJ a) (X.qJ A):=⟨λq f=>s.r q λO O O q=>cG q λO=>f _ _ _⟩
noncomputable def X.qc (x:aG):XE:=λo s l k=>kv pI (o.gi x) s λi s=>k (.d<|.int i) l s
theorem QEH {x}:bC (E.qc x) (X.qc x):=⟨λq f=>lH q λO O=>f _ _ _⟩
noncomputable def HA (v:V):Bool:=match v with|.inst=>aB|_=>aE
theorem Nj {p:Prop} (h:HA v=aB) (r:p):Al v p:=by cases v<;>first|exact r|(exact bq h)
noncomputable def pH:Hn->Option (aK×List aK)|.h x l=>aA (x,l)|_=>aF
noncomputable def rb (s:Sl):Bool:=match s with|.emp=>aB|_=>aE
theorem yv (h:rb s=aB):s=.emp:=by cases s<;>first|rfl|(exact bq h)
noncomputable def tE (s:Sl):Bool:=match s with|.inst=>aB|_=>aE
theorem wR (h:tE s=aB):s=.inst:=by cases s<;>first|rfl|(exact bq h)
noncomputable def X.jt (m:Nat) (A:XE) (e:List XE):XE:=λo s l k=>A o s l λu l s=>eM (HA u)<|dX e o s l λR l s=>bf (gh<|aL l aT) (λH=>eM (rb<|aL l bR) (lV pH s λr s=>match r with|(x,H')=>o.H m R H x H'->fF l aT (.own H') λl=>k (.d x) l s)) True
theorem Mb {m} (Q:bC a A) (h:fc es Es):bC (E.jt m a es) (X.jt m A Es):=⟨λq f=>Q.r q λO O O q=>eO λc=>(mq h).r (λr=>q<|Nj c r) λO O O q=>cG q λO q=>eO λc=>nz λO O r=>gP<|f _ _ _ λs=>q ⟨yv c,.mk r s⟩⟩
noncomputable def X.jX (m:Nat) (A:XE) (e:List XE):XE:=λo s l k=>A o s l λu l s=>eM (HA u)<|dX e o s l λx l s=>bf (gh<|aL l aT) (λH=>kv pD (o.R m x H) s λz s=>k (.d z) l s) True
theorem Ku {m} (s:bC a A) (h:fc es Es):bC (E.jX m a es) (X.jX m A Es):=⟨λq f=>s.r q λO O O q=>eO λc=>(mq h).r (λr=>q<|Nj c r) λO O O q=>cG q λO q=>lH q λO O=>f _ _ _⟩
noncomputable def X.conv (b:Bool) (A:XE):XE:=λo s l k=>eM (tE<|aL l 0)<|A o s l λu l s=>bf (xt u) (λx=>gO b x=aB->k (.d<|.str x) l s) True
theorem YB {b} (s:bC a A):bC (E.conv b a) (X.conv b A):=⟨λq f=>eO λc=>s.r (λr=>q ⟨wR c,r⟩) λO O O q=>cG q λO q e=>f _ _ _ λr=>q ⟨e,r⟩⟩
noncomputable def X.e6:XE:=λO s l k=>eM (tE<|aL l 0)<|k (.bor aT) l s
theorem QCU:bC E.e6 X.e6:=⟨λq f=>eO λc=>f _ _ _ λr=>q ⟨wR c,r⟩⟩
noncomputable def X.not (Y:XT):XT:=λo s l k=>Y o s l λb l s=>k (!b) l s
theorem XC (a:bC t Y):bC (T.not t) (X.not Y):=⟨λq f=>a.r q λO O O=>f _ _ _⟩
noncomputable def GB (l:Ls) (v:V) (hs:Hs) (k:Bool->Hs->Prop):Prop:=match v with
 |.d (.bool b)=>k b hs
 |.d (.int i)=>k (i !=0) hs
 |v=>kv pB (mf (aL l) v) hs k
theorem NY {K:Bool->Prop} {k:Bool->Hs->Prop} (h:dD (mf (aL l) v) K->P) (f: ∀a hs,(K a->P)->k a hs):GB l v hs k:=by
 induction v with
 |d x=>cases x with
  |bool b=>exact f _ _ λq=>h<|.mk .bool q
  |int i=>exact f _ _ λq=>h<|.mk .int q
  |_=>exact lH h f
 |_=>exact lH h f
noncomputable def X.Ol (i:Nat):XT:=λO s l k=>bf (kV (aL l) i) (λv=>GB l v s λb s=>k b l s) True
theorem R0 {i}:bC (T.aC i) (X.Ol i):=⟨λq f=>cG q λO q=>NY q λO O=>f _ _ _⟩
noncomputable def Nf:aK->Option Bool|.bool b=>aA b|_=>aF
theorem o_ {b} (h:Nf d=aA b):d=.bool b:=by cases d<;>cases h;rfl
noncomputable def X.eP (n b:Bool) (A:XE):XT:=λo s l k=>A o s l λu l s=>bf (j3 u) (λd=>bf (Nf d) (λc=>k ((c==b) !=n) l s) True) True
theorem wN {α:Type} {x:Option α} {k:α->Prop} (f: ∀a,x=aA a->k a):bf x k True:=by cases x;exact trivial;exact f _ rfl
theorem YY {n b} (s:bC a A):bC (T.eP n b a) (X.eP n b A):=⟨λq f=>s.r q λO O O q=>cG q λO q=>wN λO e=>f _ _ _ λr=>q<|ax _ (o_ e) r⟩
noncomputable def X.PQ (A:XE):XT:=λo s l k=>A o s l λu l s=>bf (gv u) (λO=>k aE l s) True
theorem R7 (s:bC a A):bC (T.x8 a) (X.PQ A):=⟨λq f=>s.r q λO O O q=>cG q λO=>f _ _ _⟩
end
section
variable {P:Prop}
noncomputable def Aq (n:Int):Bool:=decide (n<2^24) && decide (-(2^24)<n)
theorem vJ (h:Aq n=aB):n<2^24/\ -(2^24)<n:=⟨eD (f7.mp h).1,eD (f7.mp h).2⟩
noncomputable def l9 {α:Type} (o:Option α) (k:α->Prop):Prop:=o.rec True k
theorem mn {α:Type} {o:Option α} {k:α->Prop} (f: ∀a,o=aA a->k a):l9 o k:=by
 revert f;induction o with
 |none=>exact λO=>trivial
 |some a=>exact λf=>f a rfl
noncomputable def Ab {α:Type} (l:List α):Option α:=l.rec aF λa t O=>t.rec (aA a) λO O O=>aF
theorem HG {α:Type} {l:List α} {a:α} (h:Ab l=aA a):l=[a]:=by
 revert h;induction l with
 |nil=>exact λh=>ay h
 |cons b t _=>induction t with
  |nil=>exact λh=>QHf (· ::[])<|kC h
  |cons _ _ _=>exact λh=>ay h
noncomputable def CR {α:Type} (l:List α):Option (α×α):=l.rec aF λa t O=>(Ab t).map λb=>(a,b)
theorem FE {α:Type} {l:List α} {a:α×α} (h:CR l=aA a):l=[a.1,a.2]:=by
 revert h;induction l with
 |nil=>exact λh=>ay h
 |cons b t _=>exact λh=>(lN.mp h).elim λc q=>q.2▸QHf (b:: ·) (HG q.1)
noncomputable def te (d:aK):Option Int:=d.casesOn (motive_1:=λO=>Option Int) aF (λO=>aF) (λn=>aA n) (λO=>aF) (λO=>aF) (λO=>aF) λO=>aF
theorem vr:te d=aA n->d=.int n:=d.casesOn (λh=>ay h) (λO h=>ay h) (λO h=>QHf cB<|kC h) (λO h=>ay h) (λO h=>ay h) (λO h=>ay h) λO h=>ay h
noncomputable def I7 (d:aK):Option (List aK):=d.casesOn (motive_1:=λO=>Option<|List aK) aF (λO=>aF) (λO=>aF) (λO=>aF) (λO=>aF) (λO=>aF) λn=>aA n
theorem YK:I7 d=aA n->d=.list n:=d.casesOn (λh=>ay h) (λO h=>ay h) (λO h=>ay h) (λO h=>ay h) (λO h=>ay h) (λO h=>ay h) λO h=>QHf DH<|kC h
noncomputable def in1 (xs:List aK) (k:Int->Prop):Prop:=l9 (Ab xs) λd=>l9 (te d) k
theorem Xn {k:Int->Prop} (f: ∀n,xs=[.int n]->k n):in1 xs k:=mn λO e=>mn λn C=>f n<|vr C▸HG e
noncomputable def Ox (xs:List aK) (k:Int->Int->Prop):Prop:=l9 (CR xs) λp=>l9 (te p.1) λm=>l9 (te p.2) λn=>k m n
theorem D_ {k:Int->Int->Prop} (f: ∀m n,xs=[.int m,.int n]->k m n):Ox xs k:=mn λO e=>mn λm C=>mn λn p=>f m n<|vr C▸vr p▸FE e
noncomputable def X.i3 (A:XE):XI:=λo O s l k=>dX [A] o s l λd l s=>in1 d λn=>Aq n=aB->k ((bg n.toNat).map λ(i:Nat)=>cB (i:Int)) l s
theorem I_ (s:bC a A):qL (I.i3 a) (X.i3 A):=⟨λq f=>(mq<|.cons s .nil).r q λO O O q=>Xn λn e c=>f _ _ _ λr=>q<|kM n e ((vJ c).1) ((vJ c).2) r⟩
noncomputable def X.rO (A B:XE):XI:=λo O s l k=>dX [A,B] o s l λd l s=>Ox d λm n=>Aq n=aB->Aq m=aB->k ((bg (n - m).toNat).map λ(i:Nat)=>cB<|m+(i:Int)) l s
theorem Zl (s:bC a A) (hb:bC b B):qL (I.rO a b) (X.rO A B):=⟨λq f=>(mq<|.cons s<|.cons hb .nil).r q λO O O q=>D_ λm n e c d=>f _ _ _ λr=>q<|uC m n e ((vJ c).1) ((vJ c).2) ((vJ d).1) ((vJ d).2) r⟩
noncomputable def inl (xs:List aK) (k:List aK->Prop):Prop:=l9 (Ab xs) λd=>l9 (I7 d) k
theorem QCB {k:List aK->Prop} (f: ∀n,xs=[.list n]->k n):inl xs k:=mn λO e=>mn λn C=>f n<|YK C▸HG e
noncomputable def X.rev (A:XE):XI:=λo O s l k=>dX [A] o s l λd l s=>inl d λx=>k x.reverse l s
theorem QCo (s:bC a A):qL (I.rev a) (X.rev A):=⟨λq f=>(mq<|.cons s .nil).r q λO O O q=>QCB λn e=>f _ _ _ λr=>q<|ax n e r⟩
noncomputable def GC:aK->Option (List aK)|.list xs=>aA xs|.tuple xs=>aA xs|.str x=>aA (nI x)|_=>aF
theorem L2 {xs} (h:GC d=aA xs):vZ r (.d d) xs:=by
 cases d with
 |list x=>cases h;exact .q<|.l .d
 |tuple x=>cases h;exact .q .t
 |str x=>cases h;exact .s
 |_=>exact ay h
noncomputable def X.EP (i:Nat):XI:=λO f s l k=>match aL l i with
 |.val x=>bf (GC x) (λR=>k R l s) True
 |.own R=>eM (!f)<|k R l s
 |_=>True
theorem Yp {i}:qL (I.aC i) (X.EP i):=⟨λ{o f s l K k P} q g=>by
 unfold I.aC at q;unfold X.EP;induction h:aL l i with
 |val x=>rw[h] at q;exact wN λR e=>g _ _ _ λr=>q<|.mk (L2 e) r
 |own R=>rw[h] at q;exact eO λc=>g _ _ _ λr=>q ⟨(uZ _).mp c,r⟩
 |_=>exact trivial⟩
noncomputable def X.jU (A:XE):XI:=λo O s l k=>A o s l λv l s=>bf (j3 v) (λd=>bf (GC d) (λx=>k x l s) True) True
theorem Rj (s:bC a A):qL (I.jU a) (X.jU A):=⟨λq f=>s.r q λO O O q=>cG q λO q=>wN λO e=>f _ _ _ λr=>q<|.mk (L2 e) r⟩
noncomputable def X.LS:XI:=λO f s l k=>eM (tE<|aL l 0)<|eM (!f|| !rb (aL l bR)) (bf (gh (aL l aT)) (λx=>k x l s) True)
theorem QAl (d:(!f|| !rb s)=true) (e:f=true) (h:s=.emp):False:=by rw[e,h] at d;exact bq d
theorem W9:qL I.e6 X.LS:=⟨λq g=>eO λc=>eO λd=>cG (λr=>q ⟨wR c,QAl d,r⟩) λO=>g _ _ _⟩
noncomputable def X.asg (t:cS) (A:XE):XS:=λo s l k=>A o s l λv l s=>bf (j3 v) (λx=>Bh t x l λl=>k .next l s) True
theorem zM {tg} (s:bC a A):bC (S.asg tg a) (X.asg tg A):=⟨λq f=>s.r q λO O O q=>cG q λO q=>HK q λO=>f _ _ _⟩
noncomputable def De:aK->Option (List aK)|.list xs=>aA xs|_=>aF
theorem NS {xs} (h:De d=aA xs):d=.list xs:=by cases d<;>cases h;rfl
noncomputable def X.own (i:Nat) (A:XE):XS:=λo s l k=>A o s l λv l s=>bf (j3 v) (λx=>bf (De x) (λR=>fF l i (.own R) λl=>k .next l s) True) True
theorem QDE {i} (s:bC a A):bC (S.own i a) (X.own i A):=⟨λq f=>s.r q λO O O q=>cG q λO q=>wN λO e=>gP<|f _ _ _ λr=>q<|ax _ (NS e) r⟩
noncomputable def JF (op:iG) (a b:Int) (k:Int->Prop):Prop:=match op with
 |.Add=>k<|a+b
 |.Sub=>k<|a - b
 |.LShift=>0<=b->(ib a:Int)+b<=134217728->k (a*2^b.toNat)
 |.RShift=>0<=b->k (a.fdiv<|2^b.toNat)
 |_=>True
theorem T2 {K k:Int->Prop} (h:Fq op a b K->P) (f: ∀c,(K c->P)->k c):JF op a b k:=by
 induction op with
 |Add=>exact f _ h
 |Sub=>exact f _ h
 |LShift=>exact λc d=>f _ λq=>h ⟨c,d,q⟩
 |RShift=>exact λc=>f _ λq=>h ⟨c,q⟩
 |_=>exact trivial
noncomputable def X.aug (i:Nat) (op:iG) (A:XE):XS:=λo s l k=>bf (GL<|aL l i) (λa=>A o s l λv l s=>bf (gv v) (λb=>JF op a b λc=>fF l i (.val<|.int c) λl=>k .next l s) True) True
theorem QED {i op} (s:bC a A):bC (S.aug i op a) (X.aug i op A):=⟨λq f=>cG q λO q=>s.r q λO O O q=>cG q λO q=>T2 q λO q=>gP<|f _ _ _ q⟩
noncomputable def Jz:aK->Bool|.none=>aB|.str _=>aB|_=>aE
theorem TH (h:Jz d=aB):d=.none\/ ∃y,d=.str y:=by cases d<;>first|exact .inl rfl|exact .inr ⟨_,rfl⟩|(exact bq h)
noncomputable def X.expr (A:XE):XS:=λo s l k=>A o s l λv l s=>bf (j3 v) (λx=>eM (Jz x)<|k .next l s) True
theorem Yc (s:bC a A):bC (S.expr a) (X.expr A):=⟨λq f=>s.r q λO O O q=>cG q λO q=>eO λc=>f _ _ _ λr=>q ⟨TH c,r⟩⟩
noncomputable def X.app (i:Nat) (A:XE):XS:=λo s l k=>bf (gh<|aL l i) (λO=>A o s l λv l s=>bf (j3 v) (λx=>bf (gh<|aL l i) (λR=>R.length<16777216->fF l i (.own<|R++[x]) λl=>k .next l s) True) True) True
theorem ZC {i} (s:bC a A):bC (S.app i a) (X.app i A):=⟨λq f=>cG q λO q=>s.r q λO O O q=>cG q λO q=>cG q λO q c=>gP<|f _ _ _ λr=>q ⟨c,r⟩⟩
noncomputable def X.qP (A:XE):XS:=λo s l k=>eM (tE<|aL l 0)<|bf (gh<|aL l aT) (λO=>A o s l λv l s=>bf (j3 v) (λx=>bf (gh<|aL l aT) (λR=>eM (rb<|aL l bR)<|R.length<16777216->fF l aT (.own<|R++[x]) λl=>k .next l s) True) True) True
theorem Xk (s:bC a A):bC (S.qP a) (X.qP A):=⟨λq f=>eO λc=>cG (λr=>q ⟨wR c,r⟩) λO q=>s.r q λO O O q=>cG q λO q=>cG q λO q=>eO λc d=>gP<|f _ _ _ λr=>q ⟨yv c,d,r⟩⟩
noncomputable def X.qi (A:XE):XS:=λo s l k=>A o s l λv l s=>bf (j3 v) (λx=>bf (De x) (λY=>eM (tE<|aL l 0)<|bf (gh<|aL l aT) (λR=>eM (rb<|aL l bR)<|R.length+Y.length<=16777216->fF l aT (.own Y) λl=>k .next l s) True) True) True
theorem Xm (s:bC a A):bC (S.qi a) (X.qi A):=⟨λq f=>s.r q λO O O q=>cG q λO q=>wN λO e=>eO λc=>cG (λr=>q<|gd _ (NS e) (wR c) r) λO q=>eO λc d=>gP<|f _ _ _ λr=>q ⟨yv c,d,r⟩⟩
noncomputable def X.qV (i:Nat):XS:=λO s l k=>bf (gh<|aL l i) (λx=>x.length<=16777216->fF l i (.own x.reverse) λl=>k .next l s) True
theorem QBl {i}:bC (S.qV i) (X.qV i):=⟨λq f=>cG q λO q c=>gP<|f _ _ _ λr=>q ⟨c,r⟩⟩
noncomputable def X.set (i:Nat) (B A:XE):XS:=λo s l k=>A o s l λv l s=>bf (j3 v) (λx=>bf (gh<|aL l i) (λO=>B o s l λj l s=>bf (gv j) (λj=>bf (gh<|aL l i) (λR=>0<=j->j<R.length->R.length<2^63->fF l i (.own<|R.set j.toNat x) λl=>k .next l s) True) True) True) True
theorem So {i} (hb:bC b B) (s:bC a A):bC (S.set i b a) (X.set i B A):=⟨λq f=>s.r q λO O O q=>cG q λO q=>cG q λO q=>hb.r q λO O O q=>cG q λO q=>cG q λO q c d e=>gP<|f _ _ _ λr=>q<|kq c d e r⟩
noncomputable def Of (s:Sl):Bool:=match s with|.unb=>aB|_=>aE
theorem Zn (h:Of s=aB):s=.unb:=by cases s<;>first|rfl|(exact bq h)
noncomputable def X.qK (b m:Nat):XS:=λO s l k=>bf (gh<|aL l m) (λx=>eM (Of<|aL l aT)<|x.all v8=aB->fF l aT (.own x) λl=>fF l bR .emp λl=>fF l m (.ali aT) λl=>fF l b .inst λl=>k .next l s) True
theorem Uo {b m}:bC (S.qK b m) (X.qK b m):=⟨λq f=>cG q λO q=>eO λc d=>gP<|gP<|gP<|gP<|f _ _ _ λr=>q ⟨Zn c,d,r⟩⟩
noncomputable def X.oe (b:Nat) (A:XE):XS:=λo s l k=>eM (tE<|aL l b)<|A o s l λv l s=>bf (j3 v) (λx=>bf (gh<|aL l aT) (λH=>eM (rb<|aL l bR) (lV pH s λr s=>match r with|(y,H')=>o.H 9 [x] H y H'->fF l aT (.own H') λl=>k .next l s)) True) True
theorem XA {b} (Q:bC a A):bC (S.oe b a) (X.oe b A):=⟨λq f=>eO λc=>Q.r (λr=>q ⟨wR c,r⟩) λO O O q=>cG q λO q=>cG q λO q=>eO λc=>nz λO O r=>gP<|f _ _ _ λs=>q ⟨yv c,.mk r s⟩⟩
noncomputable def X.cA (Y:XT) (Q W:List XS):XS:=λo s l k=>Y o s l λz l s=>sz z s (λs=>sX Q o s l k) λs=>sX W o s l k
theorem QAi (a:bC t Y) (A:fc ss Ss) (hb:fc sr Sr):bC (S.cA t ss sr) (X.cA Y Ss Sr):=⟨λq f=>a.r q λO O O q=>vC q (λO q=>(oW A).r q f) λO q=>(oW hb).r q f⟩
noncomputable def pF:Hn->Option (Fl×Ls)|.f x l=>aA (x,l)|_=>aF
noncomputable def X.fE (t:cS) (J:XI) (ss:List S):XS:=λo s l k=>J o aB s l λx l s=>lV pF s λr s=>match r with|(f,l')=>(∀K:Fl->Ls->Prop,K f l'->fW t ss o x l K)->ju l' λl=>k f l s
theorem Wu {tg} (i:qL it J):bC (S.fE tg it ss) (X.fE tg J ss):=⟨λq f=>i.r q λO O O q=>nz λO O r=>mC<|f _ _ _ λs=>q<|r _ s⟩
noncomputable def X.n9 (t:T) (ss:List S):XS:=λo s l k=>lV pF s λr s=>match r with|(f,l')=>(∀K:Fl->Ls->Prop,K f l'-> ∃n,wW t ss o n l K)->ju l' λl=>k f l s
theorem QBP:bC (S.n9 t ss) (X.n9 t ss):=⟨λq f=>nz λO O r=>mC<|f _ _ _ λs=>q<|r _ s⟩
noncomputable def Kq (l:Ls) (v:V):Option Dat:=match v with|.d x=>aA x|.bor i=>bif bt i aT then aF else (gh<|aL l i).map .list|_=>aF
theorem RD {d} (h:Kq l v=aA d):yp (aL l) v d:=by
 induction v with
 |d x=>cases h;exact .d
 |bor i=>
  have h:(bif bt i aT then aF else (gh<|aL l i).map DH)=aA d:=h;induction e:bt i aT with
  |true=>rw[e] at h;exact ay h
  |false=>
   rw[e] at h;induction q:gh (aL l i) with
   |none=>rw[q] at h;exact ay h
   |some R=>rw[q] at h;cases h;exact .bor (λr=>by rw[r] at e;exact nomatch e)<|K8 q
 |_=>exact ay h
noncomputable def X.OM (A:XE):XS:=λo s l k=>A o s l λv l s=>bf (Kq l v) (λx=>k (.ret x) l s) True
theorem QDY (s:bC a A):bC (S.ret<|aA a) (X.OM A):=⟨λq f=>s.r q λO O O q=>wN λO e=>f _ _ _ λr=>q<|.mk (RD e) r⟩
noncomputable def X.Aw:XS:=λO s l k=>k (.ret .none) l s
theorem QCf:bC (S.ret aF) X.Aw:=⟨λq f=>f _ _ _ q⟩
noncomputable def X.cont:XS:=λO s l k=>k .cont l s
theorem Z4:bC S.cont X.cont:=⟨λq f=>f _ _ _ q⟩
noncomputable def X.defn (i g:Nat):XS:=λO s l k=>fF l i (.clo g) λl=>k .next l s
theorem H_ {i g}:bC (S.defn i g) (X.defn i g):=⟨λq f=>gP<|f _ _ _ q⟩
noncomputable def NM (l:List aK):Option (aK×aK×aK):=l.casesOn (motive:=λO=>Option<|aK×aK×aK) aF λa t=>(CR t).map λb=>(a,b)
theorem UE (h:NM l=aA a):l=[a.1,a.2.1,a.2.2]:=by
 revert h;induction l with
 |nil=>exact λh=>ay h
 |cons b t _=>exact λh=>(lN.mp h).elim λc q=>q.2▸QHf (b:: ·) (FE q.1)
noncomputable def MX (xs:List aK) (k:Int->Prop):Prop:=l9 (NM xs) λd=>l9 (te d.1) λn=>l9 (te d.2.1) λm=>l9 (te d.2.2) λp=>eM (decide (m=5) && decide (p=2048))<|k n
theorem QCY {k:Int->Prop} (f: ∀n,xs=[.int n,.int 5,.int 2048]->k n):MX xs k:=mn λO e=>mn λn x=>mn λm C=>mn λp u=>eO λc=>f n<|vr x▸(eD (f7.mp c).1▸vr C)▸(eD (f7.mp c).2▸vr u)▸UE e
noncomputable def X.pS (i:Nat) (e:List XE):XS:=λo s l k=>dX e o s l λx l s=>MX x λn=>n<=2048->0<=n->fF l i .emp λl=>k .next l s
theorem QBv {i} (h:fc es Es):bC (S.pS i es) (X.pS i Es):=⟨λq f=>(mq h).r q λO O O q=>QCY λn e c d=>gP<|f _ _ _ λr=>q<|kM n e c d r⟩
noncomputable def X.qF (i:Nat):XS:=λO s l k=>eM (rb<|aL l i)<|k .next l s
theorem QAe {i}:bC (S.qF i) (X.qF i):=⟨λq f=>eO λc=>f _ _ _ λr=>q ⟨yv c,r⟩⟩
noncomputable def X.stuck:XS:=λO O O O=>True
theorem QDG:bC S.stuck X.stuck:=⟨λO O=>trivial⟩
end
noncomputable def tU {R:Type} (o:R) (d:List (Option nS)->List nS->bP->R) (c0:Const->R) (s:R) (n:aG->bP->R) (x:nS):R:=x.casesOn (motive_1:=λO=>R) (λO O O=>o) (λO O O=>o) (λO O O O=>o) (λO O O=>o) (λO O O O=>o) (λO O O O=>o) (d) (λO O O=>o) (λO O O O=>o) (λO O O O=>o) (λO O O O O=>o) (λO O O O=>o) (λO O=>o) (λO O=>o) (λO O=>o) (λO O O O=>o) (λO O O O=>o) (λO O O O=>o) (λO O=>o) (λc O O=>c0 c) (λO O O=>o) (λO O O=>o) (λO O=>s) (n) (λO O=>o) (λO O O=>o) λO O O O=>o
noncomputable def AN {R:Type} (o:R) (f:Arguments->List cq->jQ->R) (c:List cq->R) (a:nS->R) (x:cq):R:=x.casesOn (motive_2:=λO=>R) (λO a b O O O s O O O=>f a b s) (λO O O O O O O O O O=>o) (λO O O b O O O O O O O=>c b) (λO O=>o) (λO O=>o) (λO v O=>a v) (λO O O O O O O=>o) (λO O O O=>o) (λO O O O O=>o) (λO O O O O=>o) (λO O O O O=>o) (λO O O O=>o) (λO O O O=>o) (λO O O=>o) (λO O O=>o) (λO O O=>o) (λO O O=>o) (λO O O O O=>o) (λO O O O O=>o) (λO O O=>o) (λO O=>o) (λO O O O=>o) (λO O=>o) (λO O=>o) (λO O=>o) (λO=>o) (λO=>o) λO=>o
namespace B01
noncomputable def KG:cq->Arguments:=AN {posonlyargs:=[],args:=[],vararg:=aF,kwonlyargs:=[],kw_defaults:=[],kwarg:=aF,defaults:=[]} (λa O O=>a) (λO=>{posonlyargs:=[],args:=[],vararg:=aF,kwonlyargs:=[],kw_defaults:=[],kwarg:=aF,defaults:=[]}) λO=>{posonlyargs:=[],args:=[],vararg:=aF,kwonlyargs:=[],kw_defaults:=[],kwarg:=aF,defaults:=[]}
noncomputable def fJ:cq->List Stmt:=AN [] (λO b O=>b) (λb=>b) λO=>[]
noncomputable def cI:cq->Scope:=AN {kind:=.function,names:=[],isGenerator:=aE,isCoroutine:=aE,more:=[]} (λO O s=>s) (λO=>{kind:=.function,names:=[],isGenerator:=aE,isCoroutine:=aE,more:=[]}) λO=>{kind:=.function,names:=[],isGenerator:=aE,isCoroutine:=aE,more:=[]}
noncomputable def xd (l:List cq):Nat->cq
 |0=>match l with|s::_=>s|[]=>.Pass default
 |n+1=>match l with|_::r=>xd r n|[]=>.Pass default
noncomputable abbrev pg:Program:=QHX
noncomputable def bO (i:Nat):Stmt:=xd pg.main.body i
noncomputable def dB (i j:Nat):Stmt:=xd (fJ<|bO i) j
end B01
theorem RH {α:Type} {o:Option α} {p:α->Bool} (h:o.any p=aB): ∃a,o=aA a/\p a=true:=by
 induction o with
 |none=>exact bq h
 |some a=>exact (ax a rfl h)
theorem aD (h:(a && b)=aB):a=aB/\b=true:=f7.mp h
inductive Kd|no|name|const|aH|un|cmp|fZ|ite|list|tup|comp|sub|dK|call|attr
noncomputable def Kd.num:Kd->Nat|.no=>0|.name=>1|.const=>2|.aH=>3|.un=>4|.cmp=>5|.fZ=>6|.ite=>7|.list=>8|.tup=>9|.comp=>10|.sub=>11|.dK=>12|.call=>13|.attr=>14
noncomputable def Kd.of:Nat->Kd|1=>.name|2=>.const|3=>.aH|4=>.un|5=>.cmp|6=>.fZ|7=>.ite|8=>.list|9=>.tup|10=>.comp|11=>.sub|12=>.dK|13=>.call|14=>.attr|_=>.no
theorem Kd.yG (k:Kd):Kd.of k.num=k:=by induction k<;>rfl
theorem Kd.eq {a b:Kd} (h:bt a.num b.num=aB):a=b:=cw a.yG<|cw b.yG<|sb (Nat.eq_of_beq_eq_true h) rfl
noncomputable abbrev x0:Expr:=.Constant .none 0 default
structure Nd where
 t:Kd:=.no
 a:Expr:=x0
 b:Expr:=x0
 c:Expr:=x0
 es:List Expr:=[]
 nm:Str:=⟨#[]⟩
 op:Operator:=.Add
 uo:UnaryOp:=.Not
 bo:BoolOp:=.And
 os:List CmpOp:=[]
 cs:Const:=.none
 k:Nat:=0
 oa:Option Expr:=aF
 ob:Option Expr:=aF
 oc:Option Expr:=aF
 ks:List Keyword:=[]
 gs:List Comprehension:=[]
 sc:Scope:={kind:=.function,names:=[],isGenerator:=aE,isCoroutine:=aE,more:=[]}
 p:Pos:=default
noncomputable def nd (x:aP):Nd:=x.casesOn (motive_1:=λO=>Nd) (λo es p=>{t:=.fZ,bo:=o,es,p}) (λO O O=>{}) (λa o b p=>{t:=.aH,a,b,op:=o,p}) (λo a p=>{t:=.un,uo:=o,a,p}) (λO O O O=>{}) (λa b c p=>{t:=.ite,a,b,c,p}) (λO O O=>{}) (λO O O=>{}) (λa gs sc p=>{t:=.comp,a,gs,sc,p}) (λO O O O=>{}) (λO O O O O=>{}) (λO O O O=>{}) (λO O=>{}) (λO O=>{}) (λO O=>{}) (λa os es p=>{t:=.cmp,a,os,es,p}) (λa es ks p=>{t:=.call,a,es,ks,p}) (λO O O O=>{}) (λO O=>{}) (λc k p=>{t:=.const,cs:=c,k,p}) (λa nm p=>{t:=.attr,a,nm,p}) (λa b p=>{t:=.sub,a,b,p}) (λO O=>{}) (λn p=>{t:=.name,nm:=n,p}) (λes p=>{t:=.list,es,p}) (λes k p=>{t:=.tup,es,k,p}) λoa ob oc p=>{t:=.dK,oa,ob,oc,p}
noncomputable def Nd.mk' (n:Nd):Expr:=match n.t with
 |.no=>x0
 |.name=>.Name n.nm n.p
 |.const=>.Constant n.cs n.k n.p
 |.aH=>.BinOp n.a n.op n.b n.p
 |.un=>.UnaryOp n.uo n.a n.p
 |.cmp=>.Compare n.a n.os n.es n.p
 |.fZ=>.BoolOp n.bo n.es n.p
 |.ite=>.IfExp n.a n.b n.c n.p
 |.list=>.List n.es n.p
 |.tup=>.Tuple n.es n.k n.p
 |.comp=>.ListComp n.a n.gs n.sc n.p
 |.sub=>.Subscript n.a n.b n.p
 |.dK=>.Slice n.oa n.ob n.oc n.p
 |.call=>.Call n.a n.es n.ks n.p
 |.attr=>.Attribute n.a n.nm n.p
theorem yZ (x:aP):(nd x).t=.no\/x=(nd x).mk':=by cases x<;>first|exact .inr rfl|exact .inl rfl
noncomputable def on (x:aP) (k:Kd) (b:Nd->Bool):Bool:=bt (nd x).t.num k.num && b (nd x)
theorem Ra {x:aP} {k:Kd} {b:Nd->Bool} (h:on x k b=aB) (K:k≠ .no): ∃n,n.t=k/\x=n.mk'/\b n=true:=by refine bI (aD h) λH i=>?_;have e:=Kd.eq H;exact (gd _ e ((yZ x).elim (λq=>QHb (e.symm.trans q) K) id) i)
theorem jW {P:aP->Prop} {n:Nd} {k:Kd} (e:n.t=k) (h:P (Nd.mk' {n with t:=k})):P n.mk':=by induction e;exact h
theorem kQ {P:aP->Prop} {k:Kd} (h:on x k b=aB) (K:k≠ .no) (f: ∀n,n.t=k->b n=aB->P n.mk'):P x:=dA (Ra h K) λn e q g=>q▸f n e g
inductive Lc (k:aG->Bool):aP->Prop|mk {n:Str} {p:Pos}:k n=true->Lc k (.Name n p)
noncomputable def bS (x:aP) (k:aG->Bool):Bool:=on x .name λn=>k n.nm
theorem dd {x:aP} {k} (h:bS x k=aB):Lc k x:=kQ h nofun λn e h=>jW e<|.mk h
inductive M6 (k:Const->Bool):aP->Prop|mk {c:Const} {m:Nat} {p:Pos}:k c=true->M6 k (.Constant c m p)
noncomputable def jb (x:aP) (k:Const->Bool):Bool:=on x .const λn=>k n.cs
theorem tQ {x:aP} {k} (h:jb x k=aB):M6 k x:=kQ h nofun λn e h=>jW e<|.mk h
inductive MV (k:aP->iG->aP->Bool):aP->Prop|mk {a:Expr} {o:Operator} {b:Expr} {p:Pos}:k a o b=true->MV k (.BinOp a o b p)
noncomputable def yA (x:aP) (k:aP->iG->aP->Bool):Bool:=on x .aH λn=>k n.a n.op n.b
theorem Lv {x:aP} {k} (h:yA x k=aB):MV k x:=kQ h nofun λn e h=>jW e<|.mk h
inductive L1 (k:UnaryOp->aP->Bool):aP->Prop|mk {o:UnaryOp} {a:Expr} {p:Pos}:k o a=true->L1 k (.UnaryOp o a p)
noncomputable def vz (x:aP) (k:UnaryOp->aP->Bool):Bool:=on x .un λn=>k n.uo n.a
theorem Jy {x:aP} {k} (h:vz x k=aB):L1 k x:=kQ h nofun λn e h=>jW e<|.mk h
inductive Oy (k:aP->List fV->List aP->Bool):aP->Prop|mk {a:Expr} {o:List CmpOp} {b:List Expr} {p:Pos}:k a o b=true->Oy k (.Compare a o b p)
noncomputable def An (x:aP) (k:aP->List fV->List aP->Bool):Bool:=on x .cmp λn=>k n.a n.os n.es
theorem LG {x:aP} {k} (h:An x k=aB):Oy k x:=kQ h nofun λn e h=>jW e<|.mk h
inductive ON (k:kg->List aP->Bool):aP->Prop|mk {o:BoolOp} {es:List Expr} {p:Pos}:k o es=true->ON k (.BoolOp o es p)
noncomputable def x7 (x:aP) (k:kg->List aP->Bool):Bool:=on x .fZ λn=>k n.bo n.es
theorem Jf {x:aP} {k} (h:x7 x k=aB):ON k x:=kQ h nofun λn e h=>jW e<|.mk h
inductive LY (k:aP->aP->aP->Bool):aP->Prop|mk {c:Expr} {a:Expr} {b:Expr} {p:Pos}:k c a b=true->LY k (.IfExp c a b p)
noncomputable def Gu (x:aP) (k:aP->aP->aP->Bool):Bool:=on x .ite λn=>k n.a n.b n.c
theorem ZO {x:aP} {k} (h:Gu x k=aB):LY k x:=kQ h nofun λn e h=>jW e<|.mk h
inductive PN (k:List aP->Bool):aP->Prop|mk {es:List Expr} {p:Pos}:k es=true->PN k (.List es p)
noncomputable def nu (x:aP) (k:List aP->Bool):Bool:=on x .list λn=>k n.es
theorem Bz {x:aP} {k} (h:nu x k=aB):PN k x:=kQ h nofun λn e h=>jW e<|.mk h
inductive JB (k:List aP->Bool):aP->Prop|mk {es:List Expr} {m:Nat} {p:Pos}:k es=true->JB k (.Tuple es m p)
noncomputable def gu (x:aP) (k:List aP->Bool):Bool:=on x .tup λn=>k n.es
theorem uB {x:aP} {k} (h:gu x k=aB):JB k x:=kQ h nofun λn e h=>jW e<|.mk h
inductive Lx (k:aP->List IH->jQ->Bool):aP->Prop|mk {e:Expr} {gs:List Comprehension} {s:Scope} {p:Pos}:k e gs s=true->Lx k (.ListComp e gs s p)
noncomputable def vE (x:aP) (k:aP->List IH->jQ->Bool):Bool:=on x .comp λn=>k n.a n.gs n.sc
theorem Ji {x:aP} {k} (h:vE x k=aB):Lx k x:=kQ h nofun λn e h=>jW e<|.mk h
inductive Kt (k:aP->aP->Bool):aP->Prop|mk {a:Expr} {b:Expr} {p:Pos}:k a b=true->Kt k (.Subscript a b p)
noncomputable def iu (x:aP) (k:aP->aP->Bool):Bool:=on x .sub λn=>k n.a n.b
theorem uA {x:aP} {k} (h:iu x k=aB):Kt k x:=kQ h nofun λn e h=>jW e<|.mk h
inductive Lr (k:Option aP->Option aP->Option aP->Bool):aP->Prop|mk {a:Option Expr} {b:Option Expr} {c:Option Expr} {p:Pos}:k a b c=true->Lr k (.Slice a b c p)
noncomputable def uz (x:aP) (k:Option aP->Option aP->Option aP->Bool):Bool:=on x .dK λn=>k n.oa n.ob n.oc
theorem Nb {x:aP} {k} (h:uz x k=aB):Lr k x:=kQ h nofun λn e h=>jW e<|.mk h
inductive LC (k:aP->List aP->List wu->bP->Bool):aP->Prop|mk {f:Expr} {xs:List Expr} {ks:List Keyword} {p:Pos}:k f xs ks p=true->LC k (.Call f xs ks p)
noncomputable def x9 (x:aP) (k:aP->List aP->List wu->bP->Bool):Bool:=on x .call λn=>k n.a n.es n.ks n.p
theorem HZ {x:aP} {k} (h:x9 x k=aB):LC k x:=kQ h nofun λn e h=>jW e<|.mk h
inductive PY (k:aP->aG->bP->Bool):aP->Prop|mk {a:Expr} {n:Str} {p:Pos}:k a n p=true->PY k (.Attribute a n p)
noncomputable def tO (x:aP) (k:aP->aG->bP->Bool):Bool:=on x .attr λn=>k n.a n.nm n.p
theorem Di {x:aP} {k} (h:tO x k=aB):PY k x:=kQ h nofun λn e h=>jW e<|.mk h
theorem FD {α:Type} {l:List α} (h:l.isEmpty=aB):l=[]:=QG.mp h
inductive Lf (k:aG->List aP->Bool):aP->Prop|mk {n:Str} {p:Pos} {xs:List Expr} {q:Pos}:k n xs=true->Lf k (.Call (.Name n p) xs [] q)
noncomputable def gQ (x:aP) (k:aG->List aP->Bool):Bool:=x9 x λf R K O=>K.isEmpty && bS f λn=>k n R
theorem qg {k} (h:gQ x k=aB):Lf k x:=by
 induction HZ h with
 |mk g=>
  cases FD (aD g).1
  induction dd (aD g).2 with
  |mk g=>exact .mk g
inductive K9 (k:aP->aG->bP->List aP->bP->Bool):aP->Prop|mk {a:Expr} {n:Str} {p:Pos} {xs:List Expr} {q:Pos}:k a n p xs q=true->K9 k (.Call (.Attribute a n p) xs [] q)
noncomputable def fk (x:aP) (k:aP->aG->bP->List aP->bP->Bool):Bool:=x9 x λf R K q=>K.isEmpty && tO f λa n p=>k a n p R q
theorem qR {k} (h:fk x k=aB):K9 k x:=by
 induction HZ h with
 |mk g=>
  cases FD (aD g).1
  induction Di (aD g).2 with
  |mk g=>exact .mk g
inductive I8 {α:Type} (k:α->Bool):List α->Prop|mk {a:α}:k a=true->I8 k [a]
noncomputable def cJ {α:Type} (l:List α) (k:α->Bool):Bool:=match l with|a::r=>r.isEmpty && k a|[]=>aE
theorem ll {α:Type} {l:List α} {k} (h:cJ l k=aB):I8 k l:=by
 induction l with
 |nil=>exact bq h
 |cons a r=>have g:(r.isEmpty && k a)=true:=h;cases FD (aD g).1;exact .mk (aD g).2
noncomputable def oE (x:aP) (b:Kd->Bool):Bool:=b (nd x).t
noncomputable def dE (x:aP):Bool:=oE x λk=> !bt k.num Kd.no.num
noncomputable def yn (x:aP):Bool:=oE x λk=> !bt k.num Kd.no.num && !bt k.num Kd.dK.num
noncomputable def eG (x:aP):Bool:=oE x λk=> !bt k.num Kd.no.num && !bt k.num Kd.comp.num
theorem yC (n:Nd):(∀xs env,fI (n.mk'::xs) env=(aE,b7 n.mk' env)::fI xs env)/\(∀env x,H6 n.mk' env x=pure x)/\(n.t=.dK\/ ∀o i,wg n.mk' aE o i=wh [o,i] (wi o i))/\
 (n.t=.comp\/ ∀t l env,DG n.mk' t l env=pure aE)/\(n.t=.call\/ ∀nm env w,wq n.mk' nm env w=w):=by
 unfold Nd.mk';cases n.t<;>exact (HM (λO O=>rfl) (λO O=>rfl) (by first|exact .inr λO O=>rfl|exact .inl rfl) (by first|exact .inr λO O O=>rfl|exact .inl rfl) (by first|exact .inr λO O O=>rfl|exact .inl rfl))
theorem rQ (h:dE x=aB):x=(nd x).mk':=(yZ x).elim (λq=>by unfold dE oE at h;rw[q] at h;exact bq h) id
theorem yt (h:dE x=aB) (xs:List aP) (env:cg):fI (x::xs) env=(aE,b7 x env)::fI xs env:=sb (rQ h)<|(yC _).1 _ _
noncomputable def uH (xs:List aP):Bool:=xs.all dE
theorem Lk (h:uH (x::xs)=aB):dE x=aB/\uH xs=true:=aD h
theorem pq (h:uH xs=aB):Pl xs:=λenv p=>by
 induction xs with
 |nil=>rfl
 |cons x xs d=>have H:=(Lk h);have A:=H.1;have i:=H.2;simp only[yt A,FK];exact d i
theorem Zq (h:uH xs=aB) (env:cg) (pos:bP):(mM pos<|fI xs env).all (λx=> !x.1)=true:=by
 induction xs with
 |nil=>rfl
 |cons x xs d=>have H:=(Lk h);have A:=H.1;have i:=H.2;simp only[yt A,FK];exact d i
theorem vl (h:dE x=aB) (env:cg):fI [x] env=[(aE,b7 x env)]:=yt h [] env
theorem QDU (n:Nd) (y:aP) (ys:List aP) (ks:List wu) (p:bP) (nm:aG) (env:cg) (w:ba aI):wq (.Call n.mk' (y::ys) ks p) nm env w=w:=by unfold Nd.mk';cases n.t<;>rfl
noncomputable def isAt (k:Kd):Bool:=bt k.num Kd.attr.num
noncomputable def Jt (x:aP):Bool:=dE x && (oE x λk=> !bt k.num Kd.call.num||(dE (nd x).a && (!(nd x).es.isEmpty||isAt (nd (nd x).a).t)))
theorem QDe {x:aP} (h:Jt x=aB) (nm:aG) (env:cg) (w:ba aI):wq x nm env w=w:=by
 refine bI (aD h) λA H=>?_;have e:=rQ A;rcases (yC<|nd x).2.2.2.2 with q|q
 ·have u:=e.trans (jW (P:=λy=>y=.Call (nd x).a (nd x).es (nd x).ks (nd x).p) q rfl)
  unfold oE at H;rw[q] at H;refine bI (aD H) λl b=>?_;cases Q:(nd x).es with
  |nil=>
   rw[Q] at b;have d:=b;have Z:(nd (nd x).a).t=.attr:=by generalize (nd (nd x).a).t=k at d;induction k<;>first|rfl|(exact bq d)
   exact sb u<|sb Q<|sb (rQ l)<|jW (P:=λy=>wq (.Call y [] (nd x).ks (nd x).p) nm env w=w) Z rfl
  |cons y Y=>exact sb u<|sb Q<|sb (rQ l)<|QDU _ _ _ _ _ _ _ _
 ·exact sb e<|q _ _ _
noncomputable def fy (x:aP) (a pos:bP) (xs:List aP):Bool:=Jt x && (uH xs && (cP xs.length 30 && (a.endLine==pos.line)))
theorem oC {x:aP} {nm:aG} {a pos:bP} {xs:List aP} (h:fy x a pos xs=aB):MC x nm a pos xs:=by refine bI (aD h) λA h=>bI (aD h) λi h=>bI (aD h) λQ H=>⟨λenv=>QDe A _ _ _,λenv=>?_,H⟩;rw[Zq i];exact QHj<|bJ Q
theorem PZ {y:aP} (h:yn y=aB) (o i:aI):wg y aE o i=wh [o,i] (wi o i):=by
 unfold yn oE at h;refine cp (yZ y) (λq=>?_) λq=>?_
 ·rw[q] at h
  exact bq h
 ·refine cp ((yC<|nd y).2.2.1) (λQ=>?_) λQ=>?_
  ·rw[Q] at h
   exact bq h
  ·exact sb q<|Q _ _
theorem OI {y:aP} (h:dE y=aB) (env:cg) (x:aI):H6 y env x=pure x:=sb (rQ h)<|(yC _).2.1 _ _
theorem I5 {y:aP} (h:eG y=aB) (t:Option aP) (l:Nat) (env:cg):DG y t l env=pure false:=by
 unfold eG oE at h;refine cp (yZ y) (λq=>?_) λq=>?_
 ·rw[q] at h
  exact bq h
 ·refine cp ((yC<|nd y).2.2.2.1) (λQ=>?_) λQ=>?_
  ·rw[Q] at h
   exact bq h
  ·exact sb q<|Q _ _ _
theorem rW {y:aP} (h:eG y=aB) (t:aP) (l:Nat) (env:cg):jo [t] y l env=pure false:=I5 h _ _ _
noncomputable def iw (C:Fc) (n:aG):Bool:=(match C.K n with|some .globalImplicit=>aB|_=>aE) && !(n==("__debug__" :aG))
theorem nZ (h:iw C n=aB):nG C n:=by
 refine bI (aD h) λH i=>⟨?_,uZ _▸i⟩;generalize C.K n=k at H
 match k,H with
 |some .globalImplicit,_=>rfl
structure Ci where
 fns:List (Nat×aG)
 hm:List (Nat×aG)
 cN:Nat->Fc->Bool
 ve:Nat->Nat->Fc->cq->Bool
structure cD (I:Ci) (D:Wd):Prop where
 H:cz D
 R:kx D
 fns: ∀f nm,I.fns.lookup f=aA nm->D.fns[f]?=aA nm/\ ∃fa o fd,D.mg nm=aA (.ref fa)/\D.G.get? fa=aA o/\o.data=.func fd
 hm: ∀k nm,I.hm.lookup k=aA nm-> ∃fa,D.hm k=aA (nm,fa)
 cN: ∀f C,I.cN f C=aB->D.cN f C
 ve: ∀f i C s,I.ve f i C s=aB->bV D C s (.defn i f)
structure EW where
 w:E
 x:XE
 ok:bC w x
 bU:Ci->Fc->aP->Bool
 snd: ∀{I D C x},cD I D->bU I C x=aB->aZ D C x w
structure TW where
 w:T
 x:XT
 ok:bC w x
 bU:Ci->Fc->aP->Bool
 snd: ∀{I D C x},cD I D->bU I C x=aB->eT D C x w
structure IW where
 w:I
 x:XI
 ok:qL w x
 bU:Ci->Fc->aP->Bool
 snd: ∀{I D C x f},cD I D->bU I C x=aB->iC D C f x w
structure SW where
 w:S
 x:XS
 ok:bC w x
 bU:Ci->Fc->cq->Bool
 snd: ∀{I D C x},cD I D->bU I C x=aB->bV D C x w
structure NW where
 w:E
 x:XE
 ok:bC w x
 bU:Ci->Fc->aP->Bool
 snd: ∀{I D C x},cD I D->bU I C x=aB->pW D C x w
theorem j7 (es:List EW):fc (es.map EW.w) (es.map EW.x):=by induction es with|nil=>exact .nil|cons e es i=>exact .cons e.ok i
theorem Jn (es:List TW):fc (es.map TW.w) (es.map TW.x):=by induction es with|nil=>exact .nil|cons e es i=>exact .cons e.ok i
theorem oF (es:List SW):fc (es.map SW.w) (es.map SW.x):=by induction es with|nil=>exact .nil|cons e es i=>exact .cons e.ok i
noncomputable def jH {α β:Type} (f:α->β->Bool):List α->List β->Bool
 |[],[]=>aB
 |a::as,b::bs=>f a b && jH f as bs
 |_,_=>aE
theorem md {α β:Type} {f:α->β->Bool} {P:List α->List β->Prop} (q:P [] []) (H: ∀a as b bs,f a b=aB->P as bs->P (a::as) (b::bs)): ∀{as:List α} {bs:List β},jH f as bs=aB->P as bs:=by
 intro as;induction as with
 |nil=>
  exact @λbs h=>by
   induction bs with
   |nil=>exact q
   |cons b bs O=>exact bq h
 |cons a as i=>
  exact @λbs h=>by
   induction bs with
   |nil=>exact bq h
   |cons b bs O=>exact H a as b bs (aD h).1 (i (aD h).2)
noncomputable def ck (I:Ci) (C:Fc):List EW->List aP->Bool:=jH λe x=>dE x && e.bU I C x
theorem gV {I:Ci} {D:Wd} (H:cD I D) (h:ck I C es xs=aB):fh D C xs (es.map EW.w)/\uH xs=true:=md (P:=λ(es:List EW) xs=>fh D C xs (es.map EW.w)/\uH xs=aB) ⟨EY,rfl⟩ (λe es x xs h g=>⟨yH (yt (aD h).1 xs) (e.snd H (aD h).2) g.1,f7.mpr ⟨(aD h).1,g.2⟩⟩) h
noncomputable def jx (I:Ci) (C:Fc):List SW->List cq->Bool:=jH λe x=>e.bU I C x
theorem lZ {I:Ci} {D:Wd} (H:cD I D) (h:jx I C es xs=aB):je D C xs (es.map SW.w):=md (P:=λ(es:List SW) xs=>je D C xs<|es.map SW.w) KD (λe es x xs h g=>su (e.snd H h) g) h
theorem rK (h:(!b)=aB):b=false:=(uZ b).mp h
section
variable {a b c:E} {t:T} {ka kb kc:aP->Bool} {op:iG}
theorem Ax (r: ∀{k pos},aZ D C (.Constant v k pos) a) (h:jb x (λc=>decide (c=v))=aB):aZ D C x a:=by induction tQ h with|mk g=>cases eD g;exact r
theorem TZ (h:bS x (λn=>cv C n i)=aB):aZ D C x (.aC i):=by induction dd h with|mk g=>exact si<|jg g
theorem Yt (h:(C.ow && bS x λn=>cv C n i)=aB):aZ D C x (.qH i):=by induction dd (aD h).2 with|mk g=>exact QCd (aD h).1<|jg g
theorem X7 (A: ∀{y},ka y=aB->aZ D C y a) (hb: ∀{y},kb y=aB->aZ D C y b) (h:yA x (λy o z=>decide (o=op) && (ka y && kb z))=aB):aZ D C x (.aH op a b):=by
 induction Lv h with|mk g=>cases eD (aD g).1;exact QCP (A (aD (aD g).2).1)<|hb (aD (aD g).2).2
theorem PO (r: ∀{y pos},aZ D C y a->aZ D C (.UnaryOp o y pos) f) (A: ∀{y},ka y=aB->aZ D C y a) (h:vz x (λp y=>decide (p=o) && ka y)=aB):aZ D C x f:=by
 induction Jy h with|mk g=>cases eD (aD g).1;exact r<|A (aD g).2
noncomputable def kr (x:aP) (op:fV) (k:aP->aP->Bool):Bool:=An x λy o z=>cJ o λo=>decide (o=op) && cJ z λz=>k y z
inductive NK (op:fV) (k:aP->aP->Bool):aP->Prop|mk {y z:Expr} {p:Pos}:k y z=true->NK op k (.Compare y [op] [z] p)
theorem yY {op:fV} {k} (h:kr x op k=aB):NK op k x:=by
 induction LG h with
 |mk g=>induction ll g with|mk t=>induction eD (aD t).1;induction ll (aD t).2 with|mk o=>exact .mk o
theorem MR {op:fV} (A: ∀{y},ka y=aB->aZ D C y a) (hb: ∀{y},kb y=aB->aZ D C y b) (h:kr x op (λy z=> !sN op z && (ka y && kb z))=aB):aZ D C x (.cmp op a b)/\eT D C x (.cmp op a b):=by
 induction yY h with
 |mk g=>exact ⟨TS (rK (aD g).1) (A (aD (aD g).2).1)<|hb (aD (aD g).2).2,QBM (rK (aD g).1) (A (aD (aD g).2).1)<|hb (aD (aD g).2).2⟩
noncomputable def isNone (x:aP):Bool:=jb x λc=>decide (c=.none)
theorem Ma {neg:Bool} (A: ∀{y},ka y=aB->aZ D C y a) (h:kr x (if neg then .IsNot else .Is) (λy z=>isNone z && ka y)=aB):aZ D C x (.iS neg a)/\eT D C x (.iS neg a):=by
 induction yY h with
 |mk g=>
  induction tQ (aD g).1 with
  |mk e=>cases eD e;exact ⟨Ur rfl (by clear h;induction neg<;>rfl) (A (aD g).2),Wn rfl (by clear h;induction neg<;>rfl) (A (aD g).2)⟩
theorem YO {neg b:Bool} (A: ∀{y},ka y=aB->aZ D C y a) (h:kr x (if neg then .IsNot else .Is) (λy z=>(jb z λc=>decide (c=.bool b)) && ka y)=aB):eT D C x (.eP neg b a):=by
 induction yY h with
 |mk g=>
  induction tQ (aD g).1 with
  |mk e=>cases eD e;exact Vn rfl (by clear h;induction neg<;>rfl) (A (aD g).2)
theorem Vu (c: ∀{y},kc y=aB->eT D C y t) (A: ∀{y},ka y=aB->aZ D C y a) (hb: ∀{y},kb y=aB->aZ D C y b) (h:Gu x (λz y w=>kc z && (ka y && kb w))=aB):aZ D C x (.ite t a b):=by
 induction ZO h with|mk g=>exact TV (c (aD g).1) (A (aD (aD g).2).1)<|hb (aD (aD g).2).2
theorem ND (H:cD J D) (h:nu x (ck J C es)=aB):aZ D C x (.list<|es.map EW.w)/\pW D C x (.list<|es.map EW.w):=by
 induction Bz h with|mk g=>exact ⟨L5 (gV H g).1,T5 (gV H g).1⟩
theorem Ti (H:cD J D) (h:gu x (ck J C es)=aB):aZ D C x (.tup<|es.map EW.w):=by
 induction uB h with|mk g=>exact W5 (gV H g).1
theorem SX (A: ∀{y},ka y=aB->aZ D C y a) (hb: ∀{y},kb y=aB->aZ D C y b) (h:iu x (λy z=>yn z && (ka y && kb z))=aB):aZ D C x (.au a b):=by
 induction uA h with|mk g=>exact QCk (PZ (aD g).1) (A (aD (aD g).2).1)<|hb (aD (aD g).2).2
noncomputable def pw (e:Option EW):E:=match e with|some e=>e.w|none=>.none
noncomputable def tv (I:Ci) (C:Fc) (e:Option EW) (x:Option aP):Bool:=match e,x with|some e,some x=>e.bU I C x|none,none=>aB|_,_=>aE
theorem Gf (H:cD J D) (h:tv J C e x=aB):vK D C x (pw e):=by
 induction e<;>induction x
 ·exact UO
 ·contradiction
 ·contradiction
 ·exact VT<|EW.snd _ H h
theorem Tn {l d st:Option EW} (H:cD J D) (A: ∀{y},ka y=aB->aZ D C y a) (h:iu x (λy z=>uz z λp q r=>ka y && (tv J C l p && (tv J C d q && tv J C st r)))=aB):aZ D C x (.dK a (pw l) (pw d)<|pw st):=by
 induction uA h with
 |mk g=>
  induction Nb g with
  | @mk p q r _ g=>exact QAq (λo i=>by clear h;clear g;induction r<;>exact ⟨_,rfl⟩) (A (aD g).1) (Gf H (aD (aD g).2).1) (Gf H (aD (aD (aD g).2).2).1)<|Gf H (aD (aD (aD g).2).2).2
noncomputable def eP (C:Fc) (n:aG):Bool:=decide (C.K n=aA .globalImplicit)
theorem vp (h:eP C n=aB):C.K n=aA .globalImplicit:=QHi h
theorem QEI (H:cD J D) (h:gQ x (λn xs=>(J.fns.lookup f==aA n) && (iw C n && ck J C es xs))=aB):aZ D C x (.call f<|es.map EW.w):=by
 induction qg h with
 |mk g=>obtain ⟨r,F,o,l,s,q,Q⟩:=H.fns _ _<|QHe.mp (aD g).1;exact YL (H:=H.H) r s q Q (nZ (aD (aD g).2).1) (pq (gV H (aD (aD g).2).2).2) (gV H (aD (aD g).2).2).1
theorem U_ (H:cD J D) (h:gQ x (λn xs=>J.cN f C && (cv C n i && ck J C es xs))=aB):aZ D C x (.jF f i<|es.map EW.w):=by
 induction qg h with
 |mk g=>exact U8 (H:=H.H) (H.cN _ _ (aD g).1) (jg (aD (aD g).2).1) (pq (gV H (aD (aD g).2).2).2) (gV H (aD (aD g).2).2).1
theorem Xr {b:Bi} {es:List EW} (H:cD J D) (h:gQ x (λn xs=>(n==xy b) && (eP C n && ck J C es xs))=aB):aZ D C x (.bi b<|es.map EW.w):=by
 induction qg h with
 |mk g=>exact Wg (H:=H.H) (QHe.mp (aD g).1) (vp (aD (aD g).2).1) (pq (gV H (aD (aD g).2).2).2) (gV H (aD (aD g).2).2).1
theorem kSm (H:cD J D) (A: ∀{y},ka y=aB->aZ D C y a) (h:fk x (λy n p xs q=>(n==BP m) && (fy y p q xs && (ka y && ck J C es xs)))=aB):aZ D C x (.sm m a<|es.map EW.w):=by
 induction qR h with
 |mk g=>exact Uv (H:=H.H) (QHe.mp (aD g).1) (oC (aD (aD g).2).1) (A (aD (aD (aD g).2).2).1) (gV H (aD (aD (aD g).2).2).2).1
theorem NF {k:Nat} (H:cD J D) (A: ∀{y},ka y=aB->aZ D C y a) (h:fk x (λy n p xs q=>(J.hm.lookup k==aA n) && (cP k 20 && (fy y p q xs && (ka y && ck J C es xs))))=aB):aZ D C x (.jt k a<|es.map EW.w)/\aZ D C x (.jX k a<|es.map EW.w):=by
 induction qR h with
 |mk g=>refine aV (H.hm _ _<|QHe.mp (aD g).1) λf q=>?_;have g:=(aD g).2;exact ⟨Wo (H:=H.H) q (bJ (aD g).1) (oC (aD (aD g).2).1) (A (aD (aD (aD g).2).2).1) (gV H (aD (aD (aD g).2).2).2).1,SP (H:=H.H) q (bJ (aD g).1) (oC (aD (aD g).2).1) (A (aD (aD (aD g).2).2).1) (gV H (aD (aD (aD g).2).2).2).1⟩
end
section
variable {a b c:E} {t:T} {ka kb kc:aP->Bool} {op:iG}
theorem RV {k:Nat} (H:cD J D) (A: ∀{y},ka y=aB->aZ D C y a) (h:gQ x (λn xs=>(J.hm.lookup k==aA n) && (eX 20 k && (iw C n && match xs with|y::xs=>dE y && (ka y && ck J C es xs)|[]=>aE)))=aB):aZ D C x (.jt k a<|es.map EW.w):=by
 induction qg h with
 | @mk n p xs q g=>
  obtain ⟨f,e⟩:=H.hm _ _<|QHe.mp (aD g).1;have g:=(aD g).2;clear h;induction xs with
  |nil=>cases (aD (aD g).2).2
  |cons y xs=>
   have t:=(aD (aD g).2).2;have l:=gV H (aD (aD t).2).2;refine @λL K=>Wh (H:=H.H) (D:=D) (C:=C) (x:=y) (a:=a) (p:=p) (pos:=q) (k:=k) e (bJ (aD g).1) (nZ (aD (aD g).2).1) (pq<|f7.mpr ⟨(aD t).1,l.2⟩) (yt (aD t).1 xs) ?_ ?_
   ·exact A (aD (aD t).2).1
   ·exact l.1
noncomputable def xZ (f:aP->aP->Bool):List aP->Bool
 |[s,r]=>f s r
 |_=>aE
theorem L0 (h:xZ f xs=aB): ∃s r,xs=[s,r]/\f s r=true:=by
 induction xs with
 |nil=>exact bq h
 |cons s xs _=>induction xs with
  |nil=>exact bq h
  |cons r xs _=>induction xs with
   |nil=>exact ⟨s,r,rfl,h⟩
   |cons _ _ _=>exact bq h
theorem F5 (h:ck J C [e] xs=aB): ∃y,xs=[y]:=by
 induction xs with
 |nil=>exact bq h
 |cons y xs _=>induction xs with
  |nil=>exact ⟨y,rfl⟩
  |cons _ _ _=>exact bq (aD h).2
theorem QBk (h:ck J C [e,u] xs=aB): ∃y z,xs=[y,z]:=by
 induction xs with
 |nil=>exact bq h
 |cons y xs _=>exact (F5 (aD h).2).elim λz q=>⟨y,z,QHf (y:: ·) q⟩
theorem WD {y z:aG} (A: ∀{y},ka y=aB->aZ D C y a) (h:fk x (λu n p xs q=>(n==("replace")) && (fy u p q xs && (!(y==z) && (ka u && xZ (λs r=>(jb s λc=>decide (c=.str y)) && (jb r λc=>decide (c=.str z))) xs))))=aB):aZ D C x (.qd a y z):=by
 induction qR h with
 | @mk u n p xs q g=>
  clear h;obtain rfl:=QHe.mp (aD g).1;have g:=(aD g).2;have o:=(aD (aD (aD g).2).2).2;have v:=λN=> @oC u N p q xs (aD g).1;have t:=rK (aD (aD g).2).1;have Z:=(aD (aD (aD g).2).2).1;clear g;refine @cT _ _ _ _ _ (L0 o) λs r Q o=>?_;induction tQ (aD o).1 with
  |mk Y=>
   induction tQ (aD o).2 with
   |mk e=>
    cases eD Y
    cases eD e
    subst Q;exact @λl K=>Zc (v _) t<|A Z
theorem Vv (H:cD J D) (h:bS x (λn=>(n==nm) && iw C n)=aB):aZ D C x (.qc nm):=by
 induction dd h with|mk g=>obtain rfl:=QHe.mp (aD g).1;exact QCN (H:=H.H)<|nZ (aD g).2
theorem QBg (H:cD J D) (A: ∀{y},ka y=aB->aZ D C y a) (h:kr x .In (λy z=>(bS z λn=>(n==("b1_set")) && iw C n) && ka y)=aB):aZ D C x (.p9 a):=by
 induction yY h with
 |mk g=>induction dd (aD g).1 with|mk e=>clear h;obtain rfl:=QHe.mp (aD e).1;exact Tw (H:=H.H) (nZ (aD e).2)<|A (aD g).2
theorem a_ (H:cD J D) (A: ∀{y},ka y=aB->aZ D C y a) (h:fk x (λu n p xs q=>(bS u λn=>(n==("b3_exceptions")) && iw C n) && ((n==("get")) && (fy u p q xs && cJ xs λy=>dE y && ka y)))=aB):aZ D C x (.qJ a):=by
 induction qR h with
 |mk g=>
  induction dd (aD g).1 with
  |mk e=>
   clear h;obtain rfl:=QHe.mp (aD e).1;have g:=(aD g).2;obtain rfl:=QHe.mp (aD g).1;induction ll (aD (aD g).2).2 with
   |mk t=>exact @λl K=>W0 (H:=H.H) (D:=D) (C:=C) (a:=a) (nZ (aD e).2) (oC (aD (aD g).2).1) (vl (aD t).1)<|A (aD t).2
theorem MY (H:cD J D) (h:tO x (λu n O=>(n==("_headers")) && bS u λn=>cv C n 0)=aB):aZ D C x .e6:=by
 induction Di h with
 |mk g=>clear h;obtain rfl:=QHe.mp (aD g).1;induction dd (aD g).2 with|mk e=>exact Xa (H:=H.H) (jg e) λO=>rfl
noncomputable def Bj (I:Ci) (C:Fc):List TW->List aP->Bool:=jH λe x=>e.bU I C x
theorem Tc (H:cD J D) (h:x7 x (λp es=>decide (p=o) && Bj J C ts es)=aB):eT D C x (.fZ o<|ts.map TW.w):=by
 induction Jf h with
 |mk g=>
  cases eD (aD g).1
  exact Uh<|md (P:=λ(ts:List TW) R=>xk D C o R<|ts.map TW.w) Xe (λt ts x R h g=>QBD (t.snd H h) g) (aD g).2
theorem ZH (H:cD J D) (h:Bj J C ts xs=aB):oT D C xs (ts.map TW.w):=md (P:=λ(ts:List TW) xs=>oT D C xs<|ts.map TW.w) RZ (λt ts x xs h g=>UR (t.snd H h) g) h
theorem p_ (h:bS x (λn=>cv C n i)=aB):eT D C x (.aC i):=by induction dd h with|mk g=>exact RI<|jg g
theorem Wf {K:aP->Bool} (a: ∀{y},K y=aB->eT D C y t) (h:vz x (λp y=>decide (p=.Not) && K y)=aB):eT D C x (.not t):=by
 induction Jy h with|mk g=>cases eD (aD g).1;exact WK<|a (aD g).2
theorem Rn (h:bS x (λn=>cv C n i)=aB):iC D C f x (.aC i):=by induction dd h with|mk g=>exact Ya<|jg g
theorem O7 (H:cD J D) (h:gQ x (λn xs=>(n==("range")) && (eP C n && ck J C es xs))=aB):(∀e f,es=[e]->iC D C f x (.i3 e.w))/\(∀e u f,es=[e,u]->iC D C f x (.rO e.w u.w)):=by
 induction qg h with
 | @mk n p xs q g=>
  clear h;obtain rfl:=QHe.mp (aD g).1;have g:=(aD g).2;constructor
  ·intro e f F
   subst F;refine @aV _ _ _ (F5 (aD g).2) λy Q=>?_;subst Q;have l:=gV H (aD g).2;exact @λL K=>J_ (H:=H.H) (D:=D) (C:=C) (x:=y) (a:=e.w) (p:=p) (pos:=q) (fl:=f) (vp (aD g).1) (pq l.2)<|l.1
  ·intro e u f F
   subst F;refine @jY _ _ _ _ (QBk (aD g).2) λy z Q=>?_;subst Q;have l:=gV H (aD g).2;exact @λL K=>QBc (H:=H.H) (D:=D) (C:=C) (x:=y) (y:=z) (a:=e.w) (b:=u.w) (p:=p) (pos:=q) (fl:=f) (vp (aD g).1) (pq l.2)<|l.1
theorem Yi (H:cD J D) (h:gQ x (λn xs=>(n==("reversed")) && (eP C n && ck J C [e] xs))=aB):iC D C f x (.rev e.w):=by
 induction qg h with
 | @mk n p xs q g=>clear h;obtain rfl:=QHe.mp (aD g).1;have g:=(aD g).2;refine @aV _ _ _ (F5 (aD g).2) λy Q=>?_;subst Q;have l:=gV H (aD g).2;exact @λL K=>QDp (H:=H.H) (D:=D) (C:=C) (x:=y) (a:=e.w) (p:=p) (pos:=q) (fl:=f) (vp (aD g).1) (pq l.2)<|l.1
end
noncomputable def Bu (o:Option dQ):Bool:=decide (o=aA .cell)||decide (o=some .free)
theorem Ga (h:Bu o=aB):o=aA .cell\/o=aA .free:=(QFS.mp h).imp QHi QHi
noncomputable def Ul (s:jQ):Bool:=decide (s.kind=.function)
noncomputable def M0 (C:Fc) (scope:jQ) (t:cS) (target iter:aP):Bool:=
 decide ((scope.names.map (·.1)).Nodup) && (Ul scope && (scope.names.all (λx=>if x.2==.free then (C.cM x.1).isSome && Bu (C.K x.1) else aB) &&
 (scope.names.all (λx=>if j9 x.2 && !(x.1==oX) then (jz t).contains (C.bd+scope.names.findIdx (·.1==x.1)) else aB) && ((jz t).all (λi=>eX C.bd i && cP i 1000000) &&
 (dE iter && (aB && (eX (C.bd+200) 1000000 && eX scope.names.length 200)))))))
structure QAt (C:Fc) (scope:jQ) (t:cS) (target iter:aP):Prop where
 ok:m6 C scope t target iter
 hb:C.bd+200<=1000000/\scope.names.length<=200
theorem Vb (h:M0 C scope t target iter=aB):QAt C scope t target iter:=by
 refine bI (aD h) λA h=>bI (aD h) λH h=>bI (aD h) λQ h=>bI (aD h) λb h=>bI (aD h) λd h=>bI (aD h) λP h=>bI (aD h) λB h=>⟨⟨eD A,?_,λx M f=>?_,λx M o hd=>?_,λi j=>?_,OI P⟩,bJ (aD h).1,bJ (aD h).2⟩
 ·exact QHi H
 ·have:=dq.mp Q x M
  rw[if_pos (by simp only[f];rfl)] at this;exact ⟨(aD this).1,Ga (aD this).2⟩
 ·have:=dq.mp b x M
  rw[if_pos (by (erw[o];erw[hd]);rfl)] at this;exact Hx.mp this
 ·have:=aD (dq.mp d i j)
  exact ⟨bJ this.1,bJ this.2⟩
noncomputable def CM (C:Fc) (t:cS) (x:aP):Bool:=match t with
 |.one i=>bS x λn=>cu C n i
 |.tup o=>gu x λR=>jH (λx i=>bS x λn=>cu C n i) R o
theorem NR {D:Wd} (h:CM C t x=aB):nE D C x t:=by
 induction t with
 |one i=>have h:bS x (λn=>cu C n i)=true:=h;induction dd h with|mk g=>exact @λd r R=>Fj<|ft g
 |tup o=>
  have h:gu x (λv=>jH (λx i=>bS x λn=>cu C n i) v o)=true:=h;induction uB h with
  |mk g=>have n:=md (P:=λv o=>pb C v o) .nil (λx v i o h g=>by induction dd h with|mk h=>exact .cons (ft h) g) g;exact @λd r R=>Dj n
section
noncomputable def vR (J:Ci) (C:Fc) (a:Fc->aP->Bool) (t:cS) (K:aP->Bool) (ts:List TW) (e:aP) (gs:List IH) (s:jQ):Bool:=cJ gs λg=>(g.is_async==0) && (M0 C s t g.target g.iter && (K g.iter &&
 (if h:C.bd+200<=1000000/\s.names.length<=200 then CM (C.sub s.names aB aE h) t g.target && (Bj J (C.sub s.names aB aE h) ts g.ifs && a (C.sub s.names aB aE h) e) else aE)))
inductive LO (J:Ci) (D:Wd) (C:Fc) (ke:Fc->aP->Bool) (t:cS) (ki:aP->Bool) (ts:List TW) (e:aP) (s:jQ):List IH->Prop
 |mk {target iter:Expr} {ifs:List Expr} (hb:C.bd+200<=1000000/\s.names.length<=200):m6 C s t target iter->ki iter=true->nE D (C.sub s.names true false hb) target t->oT D (C.sub s.names true false hb) ifs (ts.map TW.w)->ke (C.sub s.names true false hb) e=true->LO J D C ke t ki ts e s [⟨target,iter,ifs,0⟩]
theorem J8 (H:cD J D) (h:vR J C ke t ki ts e gs s=aB):LO J D C ke t ki ts e s gs:=by
 induction ll h with
 | @mk v g=>obtain ⟨c,i,f,as⟩:=v;clear h;obtain rfl:as=0:=QHe.mp (aD g).1;have g:=(aD g).2;have w:=Vb (aD g).1;have g:=(aD g).2;have o:=(aD g).2;rw[dif_pos w.hb] at o;exact .mk w.hb w.ok (aD g).1 (NR (aD o).1) (ZH H (aD (aD o).2).1) (aD (aD o).2).2
theorem WZ (H:cD J D) (e: ∀{C y},ke C y=aB->aZ D C y a) (i: ∀{y f},ki y=aB->iC D C f y it) (h:vE x (vR J C ke t ki ts)=aB):aZ D C x (.comp a t it<|ts.map TW.w):=by
 induction Ji h with
 |mk g=>induction J8 H g with|mk b o s Y Q q=>exact Oz o (i s) Y Q<|e q
end
inductive Ks|no|asg|aug|ex|cA|fE|mD|ret|cont|del
noncomputable def Ks.num:Ks->Nat|.no=>0|.asg=>1|.aug=>2|.ex=>3|.cA=>4|.fE=>5|.mD=>6|.ret=>7|.cont=>8|.del=>9
noncomputable def Ks.of:Nat->Ks|1=>.asg|2=>.aug|3=>.ex|4=>.cA|5=>.fE|6=>.mD|7=>.ret|8=>.cont|9=>.del|_=>.no
theorem Ks.yG (k:Ks):Ks.of k.num=k:=by induction k<;>rfl
theorem Ks.eq {a b:Ks} (h:bt a.num b.num=aB):a=b:=cw a.yG<|cw b.yG<|sb (Nat.eq_of_beq_eq_true h) rfl
structure Ns where
 t:Ks:=.no
 a:Expr:=x0
 b:Expr:=x0
 es:List Expr:=[]
 op:Operator:=.Add
 ss:List Stmt:=[]
 sr:List Stmt:=[]
 oa:Option Expr:=aF
 p:Pos:=default
noncomputable def ns (x:cq):Ns:=x.casesOn (motive_2:=λO=>Ns) (λO O O O O O O O O O=>{}) (λO O O O O O O O O O=>{}) (λO O O O O O O O O O O=>{}) (λoa p=>{t:=.ret,oa,p}) (λes p=>{t:=.del,es,p}) (λes a p=>{t:=.asg,es,a,p}) (λO O O O O O O=>{}) (λa op b p=>{t:=.aug,a,op,b,p}) (λO O O O O=>{}) (λa b ss sr p=>{t:=.fE,a,b,ss,sr,p}) (λO O O O O=>{}) (λa ss sr p=>{t:=.mD,a,ss,sr,p}) (λa ss sr p=>{t:=.cA,a,ss,sr,p}) (λO O O=>{}) (λO O O=>{}) (λO O O=>{}) (λO O O=>{}) (λO O O O O=>{}) (λO O O O O=>{}) (λO O O=>{}) (λO O=>{}) (λO O O O=>{}) (λO O=>{}) (λO O=>{}) (λa p=>{t:=.ex,a,p}) (λO=>{}) (λO=>{}) λp=>{t:=.cont,p}
noncomputable def Ns.mk' (n:Ns):Stmt:=match n.t with
 |.no=>.Pass n.p
 |.asg=>.Assign n.es n.a n.p
 |.aug=>.AugAssign n.a n.op n.b n.p
 |.ex=>.Expr n.a n.p
 |.cA=>.If n.a n.ss n.sr n.p
 |.fE=>.For n.a n.b n.ss n.sr n.p
 |.mD=>.While n.a n.ss n.sr n.p
 |.ret=>.Return n.oa n.p
 |.cont=>.Continue n.p
 |.del=>.Delete n.es n.p
theorem Wi (s:cq):(ns s).t=.no\/s=(ns s).mk':=by cases s<;>first|exact .inr rfl|exact .inl rfl
noncomputable def os (x:cq) (k:Ks) (b:Ns->Bool):Bool:=bt (ns x).t.num k.num && b (ns x)
theorem nA {P:cq->Prop} {k:Ks} (h:os x k b=aB) (K:k≠ .no) (f: ∀n,b n=aB->P (Ns.mk' {n with t:=k})):P x:=by
 refine bI (aD h) λA H=>?_;have e:=Ks.eq A;refine cp (Wi x) (λq=>?_) λq=>?_
 ·exact QHb (e.symm.trans q) K
 ·erw[q]
  have:=f _ H;rw[<-e] at this;exact this
section
variable {t:T} {it:I} {ss sr:List SW} {ka kb kc:aP->Bool} {i:Nat}
theorem yg {α:Type} {l:List α} (h:l.isEmpty=aB):l=[]:=QG.mp h
theorem lu {Y:S} {k:aP->aP->bP->Bool} (f: ∀t v p,k t v p=aB->bV D C (.Assign [t] v p) Y) (h:os s .asg (λn=>cJ n.es λt=>k t n.a n.p)=aB):bV D C s Y:=nA (P:=λs=>bV D C s Y) h nofun λn g=>by generalize n.es=es at g;induction ll g with|mk g=>exact f _ _ _ g
theorem Xi (A: ∀{y},ka y=aB->aZ D C y a) (h:os s .asg (λn=>cJ n.es λt=>bS t λx=>cu C x i && (eG n.a && ka n.a))=aB):bV D C s (.asg (.one i) a):=
 lu (k:=λt v O=>bS t λx=>cu C x i && (eG v && ka v)) (λt v p g=>by
  induction dd g with
  |mk r=>exact @λl K=>OT (D:=D) (C:=C) (t:=.one i) (a:=a) (λO=>rW (aD (aD r).2).1 _ _ _) (λO=>rfl) (λO=>rfl) (A (aD (aD r).2).2)<|@λd R U=>Fj<|ft (aD r).1) h
noncomputable def ye (x:aP):Bool:=oE x λk=> !bt k.num Kd.no.num && !bt k.num Kd.tup.num
theorem QCn (n:Nd) (h:n.t≠ .tup) (es:List aP) (k:Nat) (p:bP) (env:cg):mT [.Tuple es k p] n.mk' env=pure none:=by unfold Nd.mk';cases e:n.t<;>first|rfl|exact absurd e h
theorem S7 {y:aP} (h:ye y=aB) (es:List aP) (k:Nat) (p:bP) (env:cg):mT [.Tuple es k p] y env=pure none:=by
 unfold ye oE at h;refine cp (yZ y) (λq=>?_) λq=>?_
 ·rw[q] at h
  exact bq h
 ·exact sb q<|QCn _ (λe=>by rw[e] at h;exact bq h) _ _ _ _
theorem Z5 (A: ∀{y},ka y=aB->aZ D C y a) (h:os s .asg (λn=>cJ n.es λt=>gu t λxs=>jH (λx i=>bS x λn=>cu C n i) xs o && (ye n.a && (eG n.a && ka n.a)))=aB):bV D C s (.asg (.tup o) a):=
 lu (k:=λt v O=>gu t λxs=>jH (λx i=>bS x λn=>cu C n i) xs o && (ye v && (eG v && ka v))) (λt v p g=>by
  induction uB g with
  |mk r=>
   have n:=md (P:=λxs o=>pb C xs o) .nil (λx xs i o h g=>by induction dd h with|mk H=>exact .cons (ft H) g) (aD r).1;have g:=(aD r).2
   exact @λl K=>OT (D:=D) (C:=C) (t:=.tup o) (a:=a) (λO=>rW (aD (aD g).2).1 _ _ _) (S7 (aD g).1 _ _ _) (λO=>rfl) (A (aD (aD g).2).2)<|@λd R U=>Dj n) h
noncomputable def mc (K:aG->Option dQ) (ts:List aP):List Str:=
 let l:=(ts.head?.map (·.pos.line)).getD 0
 ts.filterMap λx=>swappedStores.match_8 (λO=>Option aG) x (λi p=>if K i==aA .local && p.line==l then aA i else aF) λO=>aF
noncomputable def CJ (K:aG->Option dQ) (ts vs:List aP):Bool:= !(!(ts.length==2||ts.length==3)||vs.length !=ts.length) && (!(vs.any λx=>swappedStores.match_5 (λO=>Bool) x (λO O=>aB) λO=>aE) && (!((mc K ts).length !=ts.length||(mc K ts).eraseDups.length !=(mc K ts).length) && (!(vs.all<|foldedForSure 8) && !(vs.all<|constantsAlone 8))))
theorem Am {α:Type} {x y:α} (h:(!c)=aB):(if c then x else y)=y:=by erw[rK h];rfl
theorem ZG {K:aG->Option dQ} {ts vs:List aP} {k b:Nat} (h:CJ K ts vs=aB) (A:env.scope.kind=.function) (H: ∀x,env.kindOf x=K x):mT [.Tuple ts k p] (.Tuple vs b P) env=pure (aA<|mc K ts):=by
 have g:=aD h;dsimp only[mT];refine sb (funext H:env.kindOf=K)<|(if_neg ?_).trans<|(Am (aD g.2).1).trans<|(Am (aD (aD g.2).2).1).trans<|(Am (aD (aD (aD g.2).2).2).1).trans<|(Am (aD (aD (aD g.2).2).2).2).trans rfl
 erw[(by dsimp only[Env.blockKind];refine sb A ?_;rfl:env.blockKind=.function)];exact sb (rK g.1)<|nofun
noncomputable def FF (C:Fc):List aG->List Nat->Bool:=jH λx i=>cu C x i
theorem Tj (A: ∀{y},ka y=aB->aZ D C y a) (h:os s .asg (λn=>cJ n.es λt=>gu t λxs=>gu n.a λvs=>(CJ C.K xs vs && (FF C (mc C.K xs) o && decide o.Nodup)) && (eG n.a && ka n.a))=aB):bV D C s (.asg (.tup o) a):=
 lu (k:=λt v O=>gu t λxs=>gu v λvs=>(CJ C.K xs vs && (FF C (mc C.K xs) o && decide o.Nodup)) && (eG v && ka v)) (λt v p g=>by
  induction uB g with
  |mk B=>
   cases uB B with
   |mk f=>
    have z:=aD (aD f).1
    exact @λl r=>QCR (D:=D) (C:=C) (a:=a) (λO=>rW (aD (aD f).2).1 _ _ _) (λenv H m=>ZG z.1 H m) (md (P:=λxs o=>oK C xs o) .nil (λx xs i o h g=>.cons (ft h) g) (aD z.2).1) (eD (aD z.2).2)<|A (aD (aD f).2).2) h
end
section
variable {J:Ci} {D:Wd} {C:Fc} {s:cq} {x:aP} {a b:E} {t:T} {it:I} {ss sr:List SW} {es:List EW} {ka kb kc:aP->Bool} {i j:Nat}
theorem Tb (H:cD J D) (hb: ∀{y},kb y=aB->aZ D C y b) (h:yA x (λy o z=>decide (o=.Mult) && (nu y (ck J C es) && kb z))=aB):pW D C x (.aH .Mult (.list<|es.map EW.w) b):=by
 induction Lv h with
 |mk g=>cases eD (aD g).1;induction Bz (aD (aD g).2).1 with|mk t=>exact @λl K=>QBO (gV H t).1<|hb (aD (aD g).2).2
theorem WE (H:cD J D) (A: ∀{y},ka y=aB->aZ D C y a) (h:fk x (λy n p xs q=>(J.hm.lookup 2==aA n) && (fy y p q xs && (ka y && ck J C es xs)))=aB):pW D C x (.jX 2 a<|es.map EW.w):=by
 induction qR h with
 |mk g=>obtain ⟨f,q⟩:=H.hm _ _<|QHe.mp (aD g).1;have g:=(aD g).2;exact @λl K=>QDP (H:=H.H) (HR:=H.R) (D:=D) (C:=C) q (oC (aD g).1) (A (aD (aD g).2).1) (gV H (aD (aD g).2).2).1
theorem RC (A: ∀{y},ka y=aB->pW D C y a) (h:os s .asg (λn=>cJ n.es λt=>bS t λx=>(C.nw && cu C x i) && (eG n.a && ka n.a))=aB):bV D C s (.own i a):=
 lu (k:=λt v O=>bS t λx=>(C.nw && cu C x i) && (eG v && ka v)) (λt v p g=>by
  induction dd g with
  |mk r=>exact @λl K=>Ri (D:=D) (C:=C) (aD (aD r).1).1 (ft (aD (aD r).1).2) (λO=>rW (aD (aD r).2).1 _ _ _)<|A (aD (aD r).2).2) h
theorem Ym: ∀env,env.scope.kind=.function->(∀x,env.kindOf x=C.K x)->
 jo [.Name nm N] (.ListComp elt gens scope v) l env=pure (C.K nm==aA .local && N.line==v.line && !(scope.names.any λ(n,k)=>n==nm && (k==.local||k==.cell))):=λenv h H=>by
 show pure (env.blockKind==.function && env.kindOf nm==aA .local && N.line==v.line && _)=_;rw[(by unfold Env.blockKind;erw[h];rfl:env.blockKind=.function),H];rfl
theorem ZV (H:cD J D) (F: ∀{C y},ke C y=aB->aZ D C y a) (d: ∀{y f},ki y=aB->iC D C f y it) (h:os s .asg (λn=>cJ n.es λt=>bS t λx=>vE n.a λe gs R=>cu C x i && vR J C ke c ki ts e gs R)=aB):bV D C s (.asg (.one i)<|.comp a c it<|ts.map TW.w):=
 lu (k:=λt v O=>bS t λx=>vE v λe gs R=>cu C x i && vR J C ke c ki ts e gs R) (λt v p g=>by
  induction dd g with
  |mk r=>
   induction Ji r with
   |mk o=>
    induction J8 H (aD o).2 with
    |mk B b Z Y Q q=>exact @λl K=>G_ (D:=D) (C:=C) _ Ym (ft (aD o).1) B b (d Z) Y Q<|F q) h
noncomputable def GR (o:Option dQ):Bool:=decide (o=aA .local)
theorem XU {o} (h:GR o=aB):o=aA .local:=QHi h
theorem QEA (A: ∀{y},ka y=aB->aZ D C y a) (h:os s .aug (λn=>decide (n.op=op) && bS n.a λx=>(cu C x i && GR (C.K x) && (!(x==("__classdict__")) && !(x==("__debug__")))) && ka n.b)=aB):bV D C s (.aug i op a):=
 nA (P:=λs=>bV D C s<|.aug i op a) h nofun λn g=>by
  have e:=eD (aD g).1;have g:=(aD g).2;generalize n.a=t at g;refine (?_);rw[e];induction dd g with
  |mk r=>have o:=aD (aD r).1;exact @λl u=>Xx (D:=D) (C:=C) (ft (aD o.1).1) (XU (aD o.1).2) (rK (aD o.2).1) (rK (aD o.2).2)<|A (aD r).2
theorem B4 {k:aP->Bool} (f: ∀t p,k t=aB->bV D C (.Expr t p) Y) (h:os s .ex (λn=>k n.a)=aB):bV D C s Y:=nA (P:=λs=>bV D C s Y) h nofun λn g=>f _ _ g
theorem KX (n:Nd) (p:bP):z9 n.mk' p .none=pure .next/\ ∀u t,z9 n.mk' p (.str u t)=pure .next:=by unfold Nd.mk';cases n.t<;>exact ⟨rfl,λO O=>rfl⟩
theorem QBb (A: ∀{y},ka y=aB->aZ D C y a) (h:os s .ex (λn=>eG n.a && (dE n.a && ka n.a))=aB):bV D C s (.expr a):=B4 (λv p g=> @λl K=>Z1 (λO=>I5 (aD g).1 _ _ _) (by erw[rQ (aD (aD g).2).1];exact (KX _ _).1) (by erw[rQ (aD (aD g).2).1];exact (KX _ _).2)<|A (aD (aD g).2).2) h
theorem Uq (A: ∀{y},ka y=aB->aZ D C y a) (h:os s .ex (λn=>fk n.a λy n p xs q=>(n==("append")) && (fy y p q xs && ((C.ow && bS y λm=>cv C m i) && cJ xs λz=>dE z && ka z)))=aB):bV D C s (.app i a):=
 B4 (k:=λv=>fk v λy n p xs q=>(n==("append")) && (fy y p q xs && ((C.ow && bS y λm=>cv C m i) && cJ xs λz=>dE z && ka z))) (λv p g=>by
  induction qR g with
  |mk t=>
   clear g;obtain rfl:=QHe.mp (aD t).1;have o:=aD (aD (aD t).2).2;induction ll o.2 with
   |mk Z=>
    have m:=oC (nm:=("append")) (aD (aD t).2).1;induction dd (aD o.1).2 with
    |mk Y=>exact @λl K=>RR (D:=D) (C:=C) (aD o.1).1 (jg Y) m (vl (aD Z).1)<|A (aD Z).2) h
theorem QBJ (H:cD J D) (A: ∀{y},ka y=aB->aZ D C y a) (hb: ∀{y},kb y=aB->aZ D C y .e6) (h:os s .ex (λn=>fk n.a λy n p xs q=>(n==("append")) && (fy y p q xs && (kb y && cJ xs λz=>dE z && ka z)))=aB):bV D C s (.qP a):=
 B4 (k:=λv=>fk v λy n p xs q=>(n==("append")) && (fy y p q xs && (kb y && cJ xs λz=>dE z && ka z))) (λv p g=>by
  induction qR g with
  |mk t=>
   clear g;obtain rfl:=QHe.mp (aD t).1;have o:=aD (aD (aD t).2).2;induction ll o.2 with
   |mk Z=>exact @λl K=>QEE (H:=H.H) (D:=D) (C:=C) (hb o.1) (oC (aD (aD t).2).1) (vl (aD Z).1)<|A (aD Z).2) h
theorem QDz (h:os s .ex (λn=>fk n.a λy n p xs q=>(n==("reverse")) && (fy y p q xs && ((C.ow && bS y λm=>cv C m i) && xs.isEmpty)))=aB):bV D C s (.qV i):=
 B4 (k:=λv=>fk v λy n p xs q=>(n==("reverse")) && (fy y p q xs && ((C.ow && bS y λm=>cv C m i) && xs.isEmpty))) (λv p g=>by
  induction qR g with
  |mk t=>
   clear g;obtain rfl:=QHe.mp (aD t).1;have o:=aD (aD (aD t).2).2;have m:=oC (nm:=("reverse")) (aD (aD t).2).1;cases yg o.2;induction dd (aD o.1).2 with
   |mk Y=>exact @λl K=>YA (D:=D) (C:=C) (aD o.1).1 (jg Y) m) h
theorem Vq (A: ∀{y},ka y=aB->aZ D C y a) (hb: ∀{y},kb y=aB->aZ D C y b) (h:os s .asg (λn=>cJ n.es λt=>iu t λo y=>(C.ow && bS o λm=>cv C m i) && (eG n.a && (ka n.a && kb y)))=aB):bV D C s (.set i b a):=
 lu (k:=λt v O=>iu t λo y=>(C.ow && bS o λm=>cv C m i) && (eG v && (ka v && kb y))) (λt v p g=>by
  induction uA g with
  |mk r=>
   induction dd (aD (aD r).1).2 with
   |mk f=>exact @λl K=>Zh (D:=D) (C:=C) (aD (aD r).1).1 (jg f) (λO=>rW (aD (aD r).2).1 _ _ _) (A (aD (aD (aD r).2).2).1)<|hb (aD (aD (aD r).2).2).2) h
noncomputable def nn (x:Option aP):Bool:=match x with|none=>aB|_=>aE
theorem Av {x:Option aP} (h:nn x=aB):x=none:=by induction x;rfl;exact bq h
theorem VA (n:Nd) (x y:aP) (p:bP) (l:Nat) (env:cg):jo [.Subscript x y p] n.mk' l env=pure false:=by unfold Nd.mk';cases n.t<;>rfl
theorem QDV (h:dE v=aB) (x y:aP) (p:bP) (l:Nat) (env:cg):jo [.Subscript x y p] v l env=pure false:=sb (rQ h)<|VA _ _ _ _ _ _
theorem QBr (H:cD J D) (A: ∀{y},ka y=aB->aZ D C y a) (hb: ∀{y},kb y=aB->aZ D C y .e6) (h:os s .asg (λn=>cJ n.es λt=>iu t λo y=>(uz y λp q r=>nn p && (nn q && nn r)) && (dE n.a && (ka n.a && kb o)))=aB):bV D C s (.qi a):=
 lu (k:=λt v O=>iu t λo y=>(uz y λp q r=>nn p && (nn q && nn r)) && (dE v && (ka v && kb o))) (λt v p g=>by
  induction uA g with
  |mk B=>
   induction Nb (aD B).1 with
   |mk f=>
    cases Av (aD f).1
    cases Av (aD (aD f).2).1
    cases Av (aD (aD f).2).2
    exact @λl K=>TC (H:=H.H) (D:=D) (C:=C) (hb (aD (aD (aD B).2).2).2) (λO=>QDV (aD (aD B).2).1 _ _ _ _ _)<|A (aD (aD (aD B).2).2).1) h
end
section
variable {t:T} {it:I} {ss sr:List SW} {es:List EW} {ka kb kc:aP->Bool} {i j:Nat}
theorem QAJ (H:cD J D) (h:os s .asg (λn=>cJ n.es λt=>bS t λx=>gQ n.a λf xs=>(f==("Headers")) && (cJ xs λy=>bS y λm=>cv C m j) && ((C.nw && (C.hn && C.ow)) && (cu C x i && iw C ("Headers"))))=aB):bV D C s (.qK i j):=
 lu (k:=λt v O=>bS t λx=>gQ v λf xs=>(f==("Headers")) && (cJ xs λy=>bS y λm=>cv C m j) && ((C.nw && (C.hn && C.ow)) && (cu C x i && iw C ("Headers")))) (λt v p g=>by
  induction dd g with
  |mk r=>
   induction qg r with
   |mk o=>
    clear r g;obtain rfl:=QHe.mp (aD (aD o).1).1;induction ll (aD (aD o).1).2 with
    |mk z=>
     induction dd z with
     |mk Y=>
      have e:=aD (aD o).2
      exact @λl K=>QBt (H:=H.H) (D:=D) (C:=C) (aD e.1).1 (aD (aD e.1).2).1 (aD (aD e.1).2).2 (ft (aD e.2).1) (nZ (aD e.2).2)<|jg Y) h
theorem RG (H:cD J D) (h:os s .asg (λn=>cJ n.es λt=>bS t λx=>gQ n.a λf xs=>(f==("compute_powers")) && (ck J C es xs && (cu C x i && iw C ("compute_powers"))))=aB):bV D C s (.pS i<|es.map EW.w):=
 lu (k:=λt v O=>bS t λx=>gQ v λf xs=>(f==("compute_powers")) && (ck J C es xs && (cu C x i && iw C ("compute_powers")))) (λt v p g=>by
  induction dd g with
  |mk r=>
   induction qg r with
   |mk o=>
    clear r g;obtain rfl:=QHe.mp (aD o).1;have z:=aD (aD o).2
    exact @λl K=>S6 (H:=H.H) (D:=D) (C:=C) (ft (aD z.2).1) (nZ (aD z.2).2) (pq (gV H z.1).2) (gV H z.1).1) h
theorem QBd (H:cD J D) (A: ∀{y},ka y=aB->aZ D C y a) (h:os s .del (λn=>cJ n.es λt=>iu t λo y=>(bS o λm=>cv C m i) && ka y)=aB):bV D C s (.oe i a):=
 nA (P:=λs=>bV D C s<|.oe i a) h nofun λn g=>by
  generalize n.es=es at g;refine (?_);induction ll g with
  |mk r=>
   induction uA r with
   |mk f=>
    induction dd (aD f).1 with
    |mk z=>exact @λl K=>QCI (H:=H.H) (D:=D) (C:=C) (jg z)<|A (aD f).2
theorem RF {K:aP->Bool} (H:cD J D) (Z: ∀{y},K y=aB->eT D C y t) (h:os s .cA (λn=>K n.a && (jx J C ss n.ss && jx J C sr n.sr))=aB):bV D C s (.cA t (ss.map SW.w)<|sr.map SW.w):=nA (P:=λs=>bV D C s _) h nofun λn g=> @λl p=>QAj (D:=D) (C:=C) (Z (aD g).1) (lZ H (aD (aD g).2).1)<|lZ H (aD (aD g).2).2
theorem Rb {q:aP->Bool} {t:cS} (H:cD J D) (i: ∀{y f},q y=aB->iC D C f y it) (h:os s .fE (λn=>(n.sr.isEmpty && dE n.b) && (q n.b && (CM C t n.a && jx J C ss n.ss)))=aB):bV D C s (.fE t it<|ss.map SW.w):=nA (P:=λs=>bV D C s _) h nofun λn g=>by have e:=yg (aD (aD g).1).1;rw[e];exact @λl K=>Uk (D:=D) (C:=C) (OI (aD (aD g).1).2) (i (aD (aD g).2).1) (@λd r R=>NR (aD (aD (aD g).2).2).1)<|lZ H (aD (aD (aD g).2).2).2
theorem VP {K:aP->Bool} (H:cD J D) (Z: ∀{y},K y=aB->eT D C y t) (h:os s .mD (λn=>n.sr.isEmpty && (K n.a && jx J C ss n.ss))=aB):bV D C s (.n9 t<|ss.map SW.w):=nA (P:=λs=>bV D C s _) h nofun λn g=>by have e:=yg (aD g).1;refine (?_);rw[e];exact @λl r=>QAd (D:=D) (C:=C) (Z (aD (aD g).2).1)<|lZ H (aD (aD g).2).2
theorem QDh (h:os s .ret (λn=>nn n.oa)=aB):bV D C s (.ret aF):=nA (P:=λs=>bV D C s _) h nofun λn g=>by refine (?_);rw[Av g];exact @λl K=>WI (D:=D) (C:=C)
theorem Xu (A: ∀{y},ka y=aB->aZ D C y a) (h:os s .ret (λn=>n.oa.any ka)=aB):bV D C s (.ret<|aA a):=nA (P:=λs=>bV D C s _) h nofun λn g=>by refine (?_);obtain ⟨y,e,g⟩:=RH g;rw[e];exact @λl K=>Mz (D:=D) (C:=C)<|A g
theorem QCV (h:os s .cont (λO=>aB)=aB):bV D C s .cont:=nA (P:=λs=>bV D C s _) h nofun λn g=> @λl K=>TG (D:=D) (C:=C)
theorem Wz (H:cD J D) (h:os s .fE (λn=>n.sr.isEmpty && fk n.b λy m p xs q=>(m==("items")) && (fy y p q xs && (xs.isEmpty && bS y λm=>cv C m i)))=aB):bV D C s (.qF i):=
 nA (P:=λs=>bV D C s _) h nofun λn g=>by
  have e:=yg (aD g).1;have g:=(aD g).2;generalize n.b=b at g;refine (?_);rw[e];induction qR g with
  |mk t=>
   clear h g e;obtain rfl:=QHe.mp (aD t).1;have o:=aD (aD t).2;have m:=oC (nm:=("items")) o.1;cases yg (aD o.2).1;induction dd (aD o.2).2 with
   |mk z=>exact @λl K=>QDy (H:=H.H) (D:=D) (C:=C) (jg z) m
noncomputable def PV (C:Fc) (b:Bool) (ka:aP->Bool) (f:aP) (xs:List aP) (ks:List wu) (q:bP):Bool:=tO f λy n p=>(n==("_convert_string_type" :aG)) && ((bS y λm=>cv C m 0) && ((p.endLine==q.line) && ((cJ xs λz=>dE z && ka z) && cJ ks λk=>(k.arg==aA ("name" :aG)) && jb k.value λc=>decide (c=.bool b))))
theorem Z9 (H:cD J D) (s: ∀{y},ka y=aB->aZ D C y a) (h:x9 x (PV C b ka)=aB):aZ D C x (.conv b a):=by
 induction HZ h with
 | @mk f xs ks q g=>
  induction Di g with
  | @mk y n p t=>
   clear g h;obtain rfl:=QHe.mp (aD t).1;have g2:=aD (aD t).2;have g3:=aD (aD g2.2).2;have e:=(aD g2.2).1;induction dd g2.1 with
   |mk W=>
    induction ll g3.1 with
    |mk r=>
     induction ll g3.2 with
     | @mk k A=>
      obtain ⟨j,L,Z⟩:=k;clear g3 t g2;obtain rfl:j=aA _:=QHe.mp (aD A).1;have U:jb L (λc=>decide (c=.bool b))=true:=(aD A).2;induction tQ U with
      |mk Y=>
       cases eD Y
       exact @λl K=>Ui (H:=H.H) (D:=D) (C:=C) (jg W) ⟨λO=>rfl,λenv=>by simp only[vl (aD r).1];rfl,e⟩ (vl (aD r).1)<|s (aD r).2
theorem Zk (H:cD J D) (h:(λx=>tO x λu n O=>(n==("_headers")) && bS u λn=>cv C n 0) x=aB):iC D C f x .e6:= @λl K=>Um (H:=H.H) (D:=D) (C:=C)<|MY H h
end
noncomputable def EV (op:kg):List XE->XE
 |[],_,_,_,_=>True
 |e::es,o,s,l,k=>match es with
  |[]=>e o s l k
  |_::_=>e o s l λv l s=>GB l v s λb s=>GQ op b s (λs=>k v l s) λs=>EV op es o s l k
theorem VB (h:fc es xs):bC (E.fZ op es) (EV op xs):=by
 induction h with
 |nil=>exact ⟨λO O=>trivial⟩
 | @cons w ws x xs a h i=>induction h with
  |nil=>exact ⟨λq f=>a.r q f⟩
  |cons b h=>exact ⟨λq f=>a.r q λO O O q=>NY q λO O q=>OO q (λO q=>f _ _ _ q) λO q=>i.r q f⟩
theorem ebs {J:Ci} {D:Wd} (H:cD J D): ∀{xs:List aP},ck J C es xs=aB->xs≠[]->xW D C o xs (es.map EW.w):=by
 induction es with
 |nil=>exact λ{xs} h n=>by cases xs;exact QHb rfl n;exact bq h
 |cons e es i=>
  exact λ{xs} h n=>by
   cases xs with
   |nil=>exact QHb rfl n
   |cons x xs=>
    have a:= @EW.snd e J D C x H (aD (aD h).1).2;clear n;cases es with
    |nil=>cases xs with
     |nil=>exact @λp l K=>QDC a
     |cons y Y=>cases (aD h).2
    |cons u es=>cases xs with
     |nil=>cases (aD h).2
     |cons y Y=>exact @λp l K=>QBV a<|i (aD h).2 nofun
theorem Q_ {J:Ci} {D:Wd} (H:cD J D) (h:x7 x (λp xs=>decide (p=o) && (ck J C es xs && !xs.isEmpty))=aB):aZ D C x (.fZ o<|es.map EW.w):=by
 induction Jf h with
 |mk g=>
  cases eD (aD g).1
  have t:=(aD g).2;exact @λl K=>QCl (ebs H (aD t).1 λe=>by rw[e] at t;exact bq<|(aD t).2)
namespace EW
noncomputable def none:EW:=⟨.none,X.ret<|.d .none,yN,λO O x=>jb x λc=>decide (c=.none),λO h=>Ax QAc h⟩
noncomputable def bool (b:Bool):EW:=⟨.bool b,X.ret<|.d<|.bool b,yN,λO O x=>jb x λc=>decide (c=.bool b),λO h=>Ax XM h⟩
noncomputable def int (i:Int):EW:=⟨.int i,X.ret<|.d<|.int i,yN,λO O x=>jb x λc=>decide (c=.int i),λO h=>Ax U9 h⟩
noncomputable def str (s:aG):EW:=⟨.str s,X.ret<|.d<|.str s,yN,λO O x=>jb x λc=>decide (c=.str s),λO h=>Ax O3 h⟩
noncomputable def aC (i:Nat):EW:=⟨.aC i,X.aC i,QBH,λO C x=>bS x λn=>cv C n i,λO h=>TZ h⟩
noncomputable def qH (i:Nat):EW:=⟨.qH i,X.qH i,SU,λO C x=>C.ow && bS x λn=>cv C n i,λO h=>Yt h⟩
noncomputable def aH (op:iG) (a b:EW):EW:=⟨.aH op a.w b.w,X.aH op a.x b.x,Nm a.ok b.ok,λJ C x=>yA x λy o z=>decide (o=op) && (a.bU J C y && b.bU J C z),λH h=>X7 (a.snd H) (b.snd H) h⟩
noncomputable def neg (a:EW):EW:=⟨.neg a.w,X.neg a.x,QBf a.ok,λJ C x=>vz x λp y=>decide (p=.USub) && a.bU J C y,λH h=>PO Sd (a.snd H) h⟩
noncomputable def inv (a:EW):EW:=⟨.inv a.w,X.inv a.x,QCK a.ok,λJ C x=>vz x λp y=>decide (p=.Invert) && a.bU J C y,λH h=>PO QAO (a.snd H) h⟩
noncomputable def cmp (op:fV) (a b:EW):EW:=⟨.cmp op a.w b.w,X.ofT<|X.BG op a.x b.x,b_ a.ok b.ok,λJ C x=>kr x op λy z=> !sN op z && (a.bU J C y && b.bU J C z),λH h=>(MR (a.snd H) (b.snd H) h).1⟩
noncomputable def fZ (op:kg) (es:List EW):EW:=⟨.fZ op<|es.map EW.w,EV op<|es.map EW.x,VB<|j7 es,λJ C x=>x7 x λp xs=>decide (p=op) && (ck J C es xs && !xs.isEmpty),λH h=>Q_ H h⟩
noncomputable def ite (c:TW) (a b:EW):EW:=⟨.ite c.w a.w b.w,X.ite c.x a.x b.x,u_ c.ok a.ok b.ok,λJ C x=>Gu x λz y w=>c.bU J C z && (a.bU J C y && b.bU J C w),λH h=>Vu (c.snd H) (a.snd H) (b.snd H) h⟩
noncomputable def list (es:List EW):EW:=⟨.list<|es.map EW.w,X.list<|es.map EW.x,Fe<|j7 es,λJ C x=>nu x<|ck J C es,λH h=>(ND H h).1⟩
noncomputable def tup (es:List EW):EW:=⟨.tup<|es.map EW.w,X.tup<|es.map EW.x,B_<|j7 es,λJ C x=>gu x<|ck J C es,λH h=>Ti H h⟩
noncomputable def comp (e:EW) (t:cS) (it:IW) (cs:List TW):EW:=⟨.comp e.w t it.w<|cs.map TW.w,X.comp e.w t it.x<|cs.map TW.w,NC it.ok,λJ C x=>vE x<|vR J C (e.bU J) t (it.bU J C) cs,λH h=>WZ H (e.snd H) (it.snd H) h⟩
noncomputable def au (a b:EW):EW:=⟨.au a.w b.w,X.au a.x b.x,Zz a.ok b.ok,λJ C x=>iu x λy z=>yn z && (a.bU J C y && b.bU J C z),λH h=>SX (a.snd H) (b.snd H) h⟩
noncomputable def px (e:Option EW):XE:=match e with|some e=>e.x|.none=>X.ret<|.d .none
theorem FZ (e:Option EW):bC (pw e) (px e):=by cases e;exact yN;exact EW.ok _
noncomputable def dK (a:EW) (l i st:Option EW):EW:=⟨.dK a.w (pw l) (pw i)<|pw st,X.dK a.x (px l) (px i)<|px st,VK a.ok (FZ l) (FZ i)<|FZ st,λJ C x=>iu x λy z=>uz z λp q r=>a.bU J C y && (tv J C l p && (tv J C i q && tv J C st r)),λH h=>Tn H (a.snd H) h⟩
noncomputable def call (f:Nat) (es:List EW):EW:=⟨.call f<|es.map EW.w,X.call f<|es.map EW.x,Vd<|j7 es,λJ C x=>gQ x λn xs=>(J.fns.lookup f==some n) && (iw C n && ck J C es xs),λH h=>QEI H h⟩
noncomputable def jF (f i:Nat) (es:List EW):EW:=⟨.jF f i<|es.map EW.w,X.jF f i<|es.map EW.x,QDL<|j7 es,λJ C x=>gQ x λn xs=>J.cN f C && (cv C n i && ck J C es xs),λH h=>U_ H h⟩
noncomputable def bi (b:Bi) (es:List EW):EW:=⟨.bi b<|es.map EW.w,X.bi b<|es.map EW.x,xBi<|j7 es,λJ C x=>gQ x λn xs=>(n==xy b) && (eP C n && ck J C es xs),λH h=>Xr H h⟩
noncomputable def sm (m:Sm) (a:EW) (es:List EW):EW:=⟨.sm m a.w<|es.map EW.w,X.sm m a.x<|es.map EW.x,xSm a.ok<|j7 es,λJ C x=>fk x λy n p xs q=>(n==BP m) && (fy y p q xs && (a.bU J C y && ck J C es xs)),λH h=>kSm H (a.snd H) h⟩
noncomputable def qd (a:EW) (y z:aG):EW:=⟨.qd a.w y z,X.qd a.x y z,Ue a.ok,λJ C x=>fk x λu n p xs q=>(n==("replace" :aG)) && (fy u p q xs && (!(y==z) && (a.bU J C u && xZ (λs r=>(jb s λc=>decide (c=.str y)) && (jb r λc=>decide (c=.str z))) xs))),λH h=>WD (a.snd H) h⟩
noncomputable def iS (n:Bool) (a:EW):EW:=⟨.iS n a.w,X.ofT<|X.iS n a.x,QDd a.ok,λJ C x=>kr x (if n then .IsNot else .Is) λy z=>isNone z && a.bU J C y,λH h=>(Ma (a.snd H) h).1⟩
noncomputable def p9 (a:EW):EW:=⟨.p9 a.w,X.p9 a.x,Yg a.ok,λJ C x=>kr x .In λy z=>(bS z λn=>(n==("b1_set" :aG)) && iw C n) && a.bU J C y,λH h=>QBg H (a.snd H) h⟩
noncomputable def qJ (a:EW):EW:=⟨.qJ a.w,X.qJ a.x,X4 a.ok,λJ C x=>fk x λu n p xs q=>(bS u λn=>(n==("b3_exceptions" :aG)) && iw C n) && ((n==("get" :aG)) && (fy u p q xs && cJ xs λy=>dE y && a.bU J C y)),λH h=>a_ H (a.snd H) h⟩
noncomputable def qc (s:aG):EW:=⟨.qc s,X.qc s,QEH,λO C x=>bS x λn=>(n==s) && iw C n,λH h=>Vv H h⟩
noncomputable def jt (k:Nat) (a:EW) (es:List EW):EW:=⟨.jt k a.w<|es.map EW.w,X.jt k a.x<|es.map EW.x,Mb a.ok<|j7 es,λJ C x=>fk x λy n p xs q=>(J.hm.lookup k==some n) && (cP k 20 && (fy y p q xs && (a.bU J C y && ck J C es xs))),λH h=>(NF H (a.snd H) h).1⟩
noncomputable def QHH (k:Nat) (a:EW) (es:List EW):EW:=⟨.jt k a.w<|es.map EW.w,X.jt k a.x<|es.map EW.x,Mb a.ok<|j7 es,λJ C x=>gQ x λn xs=>(J.hm.lookup k==some n) && (eX 20 k && (iw C n && match xs with|y::xs=>dE y && (a.bU J C y && ck J C es xs)|[]=>aE)),λH h=>RV H (a.snd H) h⟩
noncomputable def jX (k:Nat) (a:EW) (es:List EW):EW:=⟨.jX k a.w<|es.map EW.w,X.jX k a.x<|es.map EW.x,Ku a.ok<|j7 es,λJ C x=>fk x λy n p xs q=>(J.hm.lookup k==some n) && (cP k 20 && (fy y p q xs && (a.bU J C y && ck J C es xs))),λH h=>(NF H (a.snd H) h).2⟩
noncomputable def conv (b:Bool) (a:EW):EW:=⟨.conv b a.w,X.conv b a.x,YB a.ok,λJ C x=>x9 x<|PV C b<|a.bU J C,λH h=>Z9 H (a.snd H) h⟩
noncomputable def e6:EW:=⟨.e6,X.e6,QCU,λO C x=>tO x λu n O=>(n==("_headers" :aG)) && bS u λn=>cv C n 0,λH h=>MY H h⟩
end EW
namespace TW
noncomputable def not (t:TW):TW:=⟨.not t.w,X.not t.x,XC t.ok,λJ C x=>vz x λp y=>decide (p=.Not) && t.bU J C y,λH h=>Wf (t.snd H) h⟩
noncomputable def fZ (op:kg) (ts:List TW):TW:=⟨.fZ op<|ts.map TW.w,bX op<|ts.map TW.x,Rf<|Jn ts,λJ C x=>x7 x λp es=>decide (p=op) && Bj J C ts es,λH h=>Tc H h⟩
noncomputable def aC (i:Nat):TW:=⟨.aC i,X.Ol i,R0,λO C x=>bS x λn=>cv C n i,λO h=>p_ h⟩
noncomputable def cmp (op:fV) (a b:EW):TW:=⟨.cmp op a.w b.w,X.BG op a.x b.x,X6 a.ok b.ok,λJ C x=>kr x op λy z=> !sN op z && (a.bU J C y && b.bU J C z),λH h=>(MR (a.snd H) (b.snd H) h).2⟩
noncomputable def iS (n:Bool) (a:EW):TW:=⟨.iS n a.w,X.iS n a.x,Zr a.ok,λJ C x=>kr x (if n then .IsNot else .Is) λy z=>isNone z && a.bU J C y,λH h=>(Ma (a.snd H) h).2⟩
noncomputable def eP (n b:Bool) (a:EW):TW:=⟨.eP n b a.w,X.eP n b a.x,YY a.ok,λJ C x=>kr x (if n then .IsNot else .Is) λy z=>(jb z λc=>decide (c=.bool b)) && a.bU J C y,λH h=>YO (a.snd H) h⟩
end TW
namespace NW
noncomputable def list (es:List EW):NW:=⟨.list<|es.map EW.w,X.list<|es.map EW.x,Fe<|j7 es,λJ C x=>nu x<|ck J C es,λH h=>(ND H h).2⟩
noncomputable def mul (es:List EW) (b:EW):NW:=⟨.aH .Mult (.list<|es.map EW.w) b.w,X.aH .Mult (X.list<|es.map EW.x) b.x,Nm (Fe<|j7 es) b.ok,λJ C x=>yA x λy o z=>decide (o=.Mult) && (nu y (ck J C es) && b.bU J C z),λH h=>Tb H (b.snd H) h⟩
noncomputable def items (a:EW) (es:List EW):NW:=⟨.jX 2 a.w<|es.map EW.w,X.jX 2 a.x<|es.map EW.x,Ku a.ok<|j7 es,λJ C x=>fk x λy n p xs q=>(J.hm.lookup 2==some n) && (fy y p q xs && (a.bU J C y && ck J C es xs)),λH h=>WE H (a.snd H) h⟩
end NW
namespace IW
noncomputable def aC (i:Nat):IW:=⟨.aC i,X.EP i,Yp,λO C x=>bS x λn=>cv C n i,λO h=>Rn h⟩
noncomputable def i3 (a:EW):IW:=⟨.i3 a.w,X.i3 a.x,I_ a.ok,λJ C x=>gQ x λn xs=>(n==("range" :aG)) && (eP C n && ck J C [a] xs),λH h=>(O7 H h).1 _ _ rfl⟩
noncomputable def rO (a b:EW):IW:=⟨.rO a.w b.w,X.rO a.x b.x,Zl a.ok b.ok,λJ C x=>gQ x λn xs=>(n==("range" :aG)) && (eP C n && ck J C [a,b] xs),λH h=>(O7 H h).2 _ _ _ rfl⟩
noncomputable def rev (a:EW):IW:=⟨.rev a.w,X.rev a.x,QCo a.ok,λJ C x=>gQ x λn xs=>(n==("reversed" :aG)) && (eP C n && ck J C [a] xs),λH h=>Yi H h⟩
noncomputable def jU (a:EW):IW:=⟨.jU a.w,X.jU a.x,Rj a.ok,a.bU,λH h=>j_<|a.snd H h⟩
noncomputable def e6:IW:=⟨.e6,X.LS,W9,λO C x=>tO x λu n O=>(n==("_headers" :aG)) && bS u λn=>cv C n 0,λH h=>Zk H h⟩
end IW
open EW renaming call->RB
theorem QAX {J:Ci} {D:Wd} {ka:aP->Bool} (H:cD J D) (A: ∀{y},ka y=aB->aZ D C y a) (h:kr x .IsNot (λy z=>(gQ y λn xs=>(n==("type")) && (eP C n && cJ xs λu=>dE u && ka u)) && (bS z λn=>(n==("int")) && eP C n))=aB):eT D C x (.x8 a):=by
 induction yY h with
 |mk g=>
  induction qg (aD g).1 with
  |mk t=>
   clear h;obtain rfl:=QHe.mp (aD t).1;induction ll (aD (aD t).2).2 with
   | @mk u o=>
    induction dd (aD g).2 with
    |mk Z=>clear g;obtain rfl:=QHe.mp (aD Z).1;exact @λl K=>Y8 (H:=H.H) (D:=D) (C:=C) (vp (aD (aD t).2).1) (vp (aD Z).2) (pq<|f7.mpr ⟨(aD o).1,rfl⟩) (vl (aD o).1)<|A (aD o).2
noncomputable def TW.x8 (a:EW):TW:=⟨.x8 a.w,X.PQ a.x,R7 a.ok,λJ C x=>kr x .IsNot λy z=>(gQ y λn xs=>(n==("type" :aG)) && (Mine.eP C n && cJ xs λu=>dE u && a.bU J C u)) && (bS z λn=>(n==("int" :aG)) && Mine.eP C n),λH h=>QAX H (a.snd H) h⟩
namespace SW
noncomputable def one (i:Nat) (a:EW):SW:=⟨.asg (.one i) a.w,X.asg (.one i) a.x,zM a.ok,λJ C s=>os s .asg λn=>cJ n.es λt=>bS t λx=>cu C x i && (eG n.a && a.bU J C n.a),λH h=>Xi (a.snd H) h⟩
noncomputable def tup (is:List Nat) (a:EW):SW:=⟨.asg (.tup is) a.w,X.asg (.tup is) a.x,zM a.ok,λJ C s=>os s .asg λn=>cJ n.es λt=>gu t λxs=>jH (λx i=>bS x λn=>cu C n i) xs is && (ye n.a && (eG n.a && a.bU J C n.a)),λH h=>Z5 (a.snd H) h⟩
noncomputable def Ai (is:List Nat) (a:EW):SW:=⟨.asg (.tup is) a.w,X.asg (.tup is) a.x,zM a.ok,λJ C s=>os s .asg λn=>cJ n.es λt=>gu t λxs=>gu n.a λvs=>(CJ C.K xs vs && (FF C (mc C.K xs) is && decide is.Nodup)) && (eG n.a && a.bU J C n.a),λH h=>Tj (a.snd H) h⟩
noncomputable def cmp (i:Nat) (e:EW) (t:cS) (it:IW) (cs:List TW):SW:=⟨.asg (.one i)<|.comp e.w t it.w<|cs.map TW.w,X.asg (.one i)<|X.comp e.w t it.x<|cs.map TW.w,zM<|NC it.ok,λJ C s=>os s .asg λn=>cJ n.es λu=>bS u λx=>vE n.a λf gs R=>cu C x i && vR J C (e.bU J) t (it.bU J C) cs f gs R,λH h=>ZV H (e.snd H) (it.snd H) h⟩
noncomputable def own (i:Nat) (a:NW):SW:=⟨.own i a.w,X.own i a.x,QDE a.ok,λJ C s=>os s .asg λn=>cJ n.es λt=>bS t λx=>(C.nw && cu C x i) && (eG n.a && a.bU J C n.a),λH h=>RC (a.snd H) h⟩
noncomputable def aug (i:Nat) (op:iG) (a:EW):SW:=⟨.aug i op a.w,X.aug i op a.x,QED a.ok,λJ C s=>os s .aug λn=>decide (n.op=op) && bS n.a λx=>(cu C x i && GR (C.K x) && (!(x==("__classdict__" :aG)) && !(x==("__debug__" :aG)))) && a.bU J C n.b,λH h=>QEA (a.snd H) h⟩
noncomputable def expr (a:EW):SW:=⟨.expr a.w,X.expr a.x,Yc a.ok,λJ C s=>os s .ex λn=>eG n.a && (dE n.a && a.bU J C n.a),λH h=>QBb (a.snd H) h⟩
noncomputable def app (i:Nat) (a:EW):SW:=⟨.app i a.w,X.app i a.x,ZC a.ok,λJ C s=>os s .ex λn=>fk n.a λy n p xs q=>(n==("append" :aG)) && (fy y p q xs && ((C.ow && bS y λm=>cv C m i) && cJ xs λz=>dE z && a.bU J C z)),λH h=>Uq (a.snd H) h⟩
noncomputable def qP (a:EW):SW:=⟨.qP a.w,X.qP a.x,Xk a.ok,λJ C s=>os s .ex λn=>fk n.a λy n p xs q=>(n==("append" :aG)) && (fy y p q xs && (EW.e6.bU J C y && cJ xs λz=>dE z && a.bU J C z)),λH h=>QBJ H (a.snd H) (EW.e6.snd H) h⟩
noncomputable def qi (a:EW):SW:=⟨.qi a.w,X.qi a.x,Xm a.ok,λJ C s=>os s .asg λn=>cJ n.es λt=>iu t λo y=>(uz y λp q r=>nn p && (nn q && nn r)) && (dE n.a && (a.bU J C n.a && EW.e6.bU J C o)),λH h=>QBr H (a.snd H) (EW.e6.snd H) h⟩
noncomputable def qV (i:Nat):SW:=⟨.qV i,X.qV i,QBl,λJ C s=>os s .ex λn=>fk n.a λy n p xs q=>(n==("reverse" :aG)) && (fy y p q xs && ((C.ow && bS y λm=>cv C m i) && xs.isEmpty)),λH h=>QDz h⟩
noncomputable def set (i:Nat) (b a:EW):SW:=⟨.set i b.w a.w,X.set i b.x a.x,So b.ok a.ok,λJ C s=>os s .asg λn=>cJ n.es λt=>iu t λo y=>(C.ow && bS o λm=>cv C m i) && (eG n.a && (a.bU J C n.a && b.bU J C y)),λH h=>Vq (a.snd H) (b.snd H) h⟩
noncomputable def qK (i j:Nat):SW:=⟨.qK i j,X.qK i j,Uo,λJ C s=>os s .asg λn=>cJ n.es λt=>bS t λx=>gQ n.a λf xs=>(f==("Headers" :aG)) && (cJ xs λy=>bS y λm=>cv C m j) && ((C.nw && (C.hn && C.ow)) && (cu C x i && iw C ("Headers" :aG))),λH h=>QAJ H h⟩
noncomputable def oe (i:Nat) (a:EW):SW:=⟨.oe i a.w,X.oe i a.x,XA a.ok,λJ C s=>os s .del λn=>cJ n.es λt=>iu t λo y=>(bS o λm=>cv C m i) && a.bU J C y,λH h=>QBd H (a.snd H) h⟩
noncomputable def cA (c:TW) (ss sr:List SW):SW:=⟨.cA c.w (ss.map SW.w)<|sr.map SW.w,X.cA c.x (ss.map SW.x)<|sr.map SW.x,QAi c.ok (oF ss)<|oF sr,λJ C s=>os s .cA λn=>c.bU J C n.a && (jx J C ss n.ss && jx J C sr n.sr),λH h=>RF H (c.snd H) h⟩
noncomputable def fE (t:cS) (it:IW) (ss:List SW):SW:=⟨.fE t it.w<|ss.map SW.w,X.fE t it.x<|ss.map SW.w,Wu it.ok,λJ C s=>os s .fE λn=>(n.sr.isEmpty && dE n.b) && (it.bU J C n.b && (CM C t n.a && jx J C ss n.ss)),λH h=>Rb H (it.snd H) h⟩
noncomputable def n9 (c:TW) (ss:List SW):SW:=⟨.n9 c.w<|ss.map SW.w,X.n9 c.w<|ss.map SW.w,QBP,λJ C s=>os s .mD λn=>n.sr.isEmpty && (c.bU J C n.a && jx J C ss n.ss),λH h=>VP H (c.snd H) h⟩
noncomputable def ret (a:EW):SW:=⟨.ret<|some a.w,X.OM a.x,QDY a.ok,λJ C s=>os s .ret λn=>n.oa.any<|a.bU J C,λH h=>Xu (a.snd H) h⟩
noncomputable def Aw:SW:=⟨.ret none,X.Aw,QCf,λJ C s=>os s .ret λn=>nn n.oa,λH h=>QDh h⟩
noncomputable def cont:SW:=⟨.cont,X.cont,Z4,λJ C s=>os s .cont λO=>aB,λH h=>QCV h⟩
noncomputable def defn (i f:Nat):SW:=⟨.defn i f,X.defn i f,H_,λJ C s=>J.ve f i C s,λH h=>H.ve _ _ _ _ h⟩
noncomputable def pS (i:Nat) (es:List EW):SW:=⟨.pS i<|es.map EW.w,X.pS i<|es.map EW.x,QBv<|j7 es,λJ C s=>os s .asg λn=>cJ n.es λt=>bS t λx=>gQ n.a λf xs=>(f==("compute_powers" :aG)) && (ck J C es xs && (cu C x i && iw C ("compute_powers" :aG))),λH h=>RG H h⟩
noncomputable def qF (i:Nat):SW:=⟨.qF i,X.qF i,QAe,λJ C s=>os s .fE λn=>n.sr.isEmpty && fk n.b λy m p xs q=>(m==("items" :aG)) && (fy y p q xs && (xs.isEmpty && bS y λm=>cv C m i)),λH h=>Wz H h⟩
noncomputable def stuck:SW:=⟨.stuck,X.stuck,QDG,λO O O=>aB,λO O=> @λO O h=>h.elim⟩
end SW
theorem QHE (b:List SW) (hs:Hs) (l:Ls) (K:Fl->Ls->Prop):ju l λL=>sX (b.map SW.x) o hs L λv L O=>K v L->sW (b.map SW.w) o l K:=mC<|(oW<|oF b).r id λO O O q=>q
noncomputable def T.th (p q:fV) (a b c:E):T:=λo l K=>a o l λu l=>b o l λv l=>vo l p u v λz=>two z (c o l λw l=>vo l q v w λz=>K z l)<|K aE l
theorem QDm {o p} (hm:QH [o,p] [y,w]=aE) (A:aZ D C x a) (B:aZ D C y b) (W:aZ D C w c):eT D C (.Compare x [o,p] [y,w] pos) (.th o p a b c):= @λO O h=>⟨λK k=>isTrue_chain ((A h).run K λO O h O z R s q=>test_link ((B h).run R λO O h O Z P s2 q2=>by
 induction CN h with
 |mk e h=>
  refine wpAny_toks<|Bl e P (q.mon s2) q2 λtk l=>ou ?_;have s3:=Sx.kl P (.refl _ _) l;rcases h with ⟨rfl,h⟩|⟨rfl,h⟩
  ·exact test_last ((W h).run (P.kl (.refl _ _) l) λO O h O Y N s4 q4=>by
    induction CN h with|mk e h=>exact wpAny_toks<|Bl e N ((q2.mon s3).mon s4) q4 λtk l=>ou<|((k _ _ h).tr<|((s.trans s2).trans s3).trans s4).same N l)
  ·exact ((k _ _ h).tr<|s.trans s2).same P l)) hm⟩
noncomputable def X.OX (p q:fV) (a b c:XE):XT:=λo s l k=>a o s l λu l s=>b o s l λv l s=>Bd l p u v s λz s=>sz z s (λs=>c o s l λw l s=>Bd l q v w s λz s=>k z l s) λs=>k aE l s
theorem YX {p q} (s:bC a A) (r:bC b B) (t:bC c C):bC (T.th p q a b c) (X.OX p q A B C):=⟨λh f=>s.r h λO O O h=>r.r h λO O O h=>Cb h λO O h=>vC h (λO h=>t.r h λO O O h=>Cb h λO O h=>f _ _ _ h) λO h=>f _ _ _ h⟩
theorem SS {o p:fV} {ka kb kc:aP->Bool} (A: ∀{y},ka y=aB->aZ D C y a) (B: ∀{y},kb y=aB->aZ D C y b) (W: ∀{y},kc y=aB->aZ D C y c) (h:An x (λy os zs=>decide (os=[o,p]) && xZ (λz w=> !QH [o,p] [z,w] && (ka y && (kb z && kc w))) zs)=aB):eT D C x (.th o p a b c):=by
 induction LG h with
 |mk g=>
  cases eD (aD g).1
  refine @cT _ _ _ _ _ (L0 (aD g).2) λs r e q=>?_;subst e;have t:=(aD (aD q).2).2;exact @λO O=>QDm (rK (aD q).1) (A (aD (aD q).2).1) (B (aD t).1)<|W (aD t).2
noncomputable def TW.th (o p:fV) (a b c:EW):TW:=⟨.th o p a.w b.w c.w,X.OX o p a.x b.x c.x,YX a.ok b.ok c.ok,λJ C x=>An x λy os zs=>decide (os=[o,p]) && xZ (λz w=> !QH [o,p] [z,w] && (a.bU J C y && (b.bU J C z && c.bU J C w))) zs,λH h=>SS (a.snd H) (b.snd H) (c.snd H) h⟩
noncomputable def vA:Sl->Option Nat|.eC n=>aA n|_=>aF
theorem KR {i} (h:vA v=aA i):v=.eC i:=by cases v<;>cases h;rfl
noncomputable def E.gf (i k:Nat):E:=λo l K=>iB (vA<|aL l i) (λn=>(cP k n && eX k 100)=aB/\K (.bor<|cU i k) l) False
theorem Ly {o:bj} {K:V->Ls->Prop} (h:E.gf i k o l K): ∃n,aL l i=.eC n/\(k<n/\k<=100)/\K (.bor<|cU i k) l:=(mj h).elim (λq=>q.elim λn q=>⟨n,KR q.1,⟨bJ (aD q.2.1).1,bJ (aD q.2.1).2⟩,q.2.2⟩) mG
theorem Rl (s: ∀o i,wg (.Constant (.int (k:Nat)) kk p) aE o i=wh [o,i] (wi o i)) (ok:hZ C nm i):aZ D C (.Subscript (.Name nm q) (.Constant (.int (k:Nat)) kk p) pos) (.gf i k):= @λO O h=>⟨λ{X z Q Er} K c=>by
 refine dA (Ly h) λn e l h=>Pm<|uJ K ok λv q=>?_;rw[e] at q;refine iT q λa m u e1 na z1=>⟨.ref a,u,wpAny_toks<|QEi λL=>wpAny_toks ?_⟩;refine aV (mQ.mp<|z1 k l.1) λb eb=>?_;have hg:((bg n).map λk=>wY<|(z.φ<|cU i k).getD 0).toArray[bN (k:Int)]?=aA (.ref b):=by rw[lR,zc,DI,QI l.1];simp[eb]
 refine zY (gM e1).typeIs Pg.lookup (QEg (gM e1) (dP k) ?_ hg λM=>?_)<|s _ _
 ·exact o9 (oq.mpr l.2) (by decide)
 ·have s1:=Sx.kl K (.refl _ _) (az L M)
  exact c _ _ h _ _ (K.kl (.refl _ _)<|az L M) s1 ⟨b,eb,rfl⟩⟩
noncomputable def E4 (s:Sl):Bool:=(vA s).isNone
theorem Vk {l:Ls} (h:(l.all λp=>E4 p.2)=aB) (j n:Nat):aL l j≠ .eC n:=by
 induction l with
 |nil=>exact nofun
 |cons p l i=>
  have g:=aD<|QFT▸h;refine (?_:cond (bt p.1 j) p.2 (aL l j)≠_);induction bt p.1 j with
  |true=>exact λe=>by have:=g.1;rw[show p.2=_ from e] at this;exact bq this
  |false=>exact i g.2
theorem FR.L_ {G:bK} (F:FR P G C env Ob φ W r h) (g:1000001<i) (e:φ i=aA a) (l:h.get? a=aA (listOf vs.toArray n)) (q:bB (Ex Ob W) h vs xs) (w:W a):FR P G C env Ob φ W (upd r i<|.own xs) h:=by
 have u: ∀j,j≠i->upd r i (.own xs) j=r j:=λj d=>QHc d;have lw: ∀x j,C.cM x=aA j->upd r i (.own xs) j=r j:=λx j t=>u j λz=>QHb (C.low x j t) (by omega);have hh:upd r i (.own xs) aT=r aT:=u _ λz=>QHb (z▸g) (by decide);have hw:upd r i (.own xs) bR=r bR:=u _ λz=>QHb (z▸g) (by decide);have ii: ∀ys,upd r i (.own xs) i=.own ys->xs=ys:=λys z=>by unfold upd at z;rw[if_pos rfl] at z;cases z;rfl
 exact {F with
  loc:=aS F.loc λm a b=>⟨m,a,λx j k t=>by rw[lw x j t];exact b x j k t⟩
  hG:=λx j k t=>by rw[lw x j t];exact F.hG x j k t
  own:=λj ys z=>by
   by_cases d:j=i
   ·subst d;cases ii _ z;exact ⟨a,vs,n,e,l,q⟩
   ·rw[u j d] at z;exact F.own j ys z
  gN:=λc j ys b z p o=>by
   by_cases d:j=i
   ·subst d;obtain rfl:=bM e p;exact w
   ·rw[u j d] at z;exact F.gN c j ys b z p o
  jf:=λys z y=>F.jf ys (hh▸z) (hw▸y)
  kn:=λys z y=>F.kn ys (hh▸z) (hw▸y)
  lD:=λz=>F.lD<|hh▸z}
theorem QCx {vs:List aI} (g:C.nw=aB) (lo:1000001<i) (ng: ∀j n,r j≠ .eC n) (N:NL D C X r z xs a vs n z'): ∃z'',z''.s=z'.s/\FX D C X (upd r i<|.own xs) z''/\Sy C z z''/\z''.φ i=aA a/\ ∀j,j≠i->z''.φ j=z.φ j:=by
 have hw:i≠bR:=λq=>QHb (q▸lo) (by decide);have H:i≠aT:=λq=>QHb (q▸lo) (by decide)
 have F:=FR.adopt (N.F.F.forget i hw H) H (λj k n q=>by
  by_cases d:j=i
  ·unfold upd at q;rw[if_pos d] at q;contradiction
  ·unfold upd at q;rw[if_neg d] at q;exact QHb q<|ng j n) ⟨_,N.e⟩ N.na N.nf
 have q2:bB (Ex X.Ob λb=>z'.W b\/b=a) z'.s.heap vs xs:=JV (Ob:=X.Ob)▸N.q;have F:=F.L_ (xs:=xs) lo (QHd rfl) N.e q2<|.inr rfl;refine ⟨{s:=z'.s,W:=λb=>z'.W b\/b=a,φ:=λj=>if j=i then aA a else z'.φ j},rfl,⟨?_,N.F.R,N.F.t⟩,⟨⟨λb o e w=>?_,λb w=>?_⟩,N.s.t,⟨λz=>(by rw[g] at z;exact yr z),λO=>(QHc<|lO H).trans<|congrFun N.s.f aT,λj b e=>?_⟩,N.s.e⟩,QHd rfl,λj d=>(QHc d).trans<|congrFun N.s.f j⟩
 ·have:upd (upd r i .unb) i (.own xs)=upd r i (.own xs):=by
   funext j;unfold upd;by_cases d:j=i
   ·rw[if_pos d,if_pos d]
   ·rw[if_neg d,if_neg d,if_neg d]
  exact this▸F
 ·exact (N.s.fresh (J:=a) e w).1
 ·refine cp w (λw=>N.s.st.grow b w) λw=>w▸N.nw
 ·have u:(if j=i then aA a else z'.φ j)=aA b:=e
  by_cases B:j=i
  ·obtain rfl:=bM (QHd B) u
   exact .inr N.nw
  ·rw[if_neg B,N.s.f] at u
   exact .inl ⟨j,u⟩
noncomputable def gW (i:Nat):Nat->List (List E)->bj->Ls->(Ls->Prop)->Prop
 |_,[],_,l,K=>K l
 |k,es::rs,o,l,K=>dW es o l λd l=>(eX d.length 16777216 && l.all λp=>E4 p.2)=aB/\gW i (k+1) rs o (cL l (cU i k)<|.own d) K
noncomputable def S.eC (i:Nat) (rs:List (List E)):S:=λo l K=>eX rs.length 100=aB/\gW i 0 rs o l λl=>K .next (cL l i<|.eC rs.length)
inductive uE (D:Wd) (C:Fc):List aP->List (List E)->Prop
 |nil:uE D C [] []
 |cons {xs es p ys rs}:fh D C xs es->uE D C ys rs->uE D C (.List xs p::ys) (es::rs)
theorem VY (g:C.nw=aB) (H:uE D C ys rs): ∀(k:Nat) {l:Ls} {K:Ls->Prop},gW i k rs D.o l K-> ∀{X:Fx} {z:Zs} {pos:bP} {Q:List aI->aN->Prop} {Er:aI->aN->Prop},FX D C X (aL l) z->
 (∀l' us Z,K l'->FX D C X (aL l') Z->Sy C z Z->(∀j,j<cU i k->Z.φ j=z.φ j)->us.length=rs.length->(∀t,t<rs.length-> ∃b,Z.φ (cU i<|k+t)=aA b/\us[t]?=aA (.ref b))->Q us Z.s)->
 aO (aY D.prog D.w) X.A (sM<|mM pos<|fI ys X.env) Q Er z.s:=by
 induction H with
 |nil=>exact λk l K h X z pos Q Er F c=>lP<|c _ _ _ h F ⟨.refl _ _,bh _,.refl _ _,rfl⟩ (λj q=>rfl) rfl (λt q=>QHb q<|QJ t)
 | @cons xs es p ys rs A B ih=>
  exact λk l K h X z pos Q Er F c=>by
   refine ua (Hu<|kX (A h) F λds l₁ us z' g' R s q1=>⟨by simp only[jB,q1.len];exact bJ (aD g'.1).1,?_⟩);have N:NL D C X (aL l₁) z ds z'.s.heap.objs.size us 0 (z'.to (z'.s.heap.push<|listOf us.toArray 0) z'.s.toks):=zH s R (.push _) (ie<|bh _) (fH _ rfl) q1<|bh _;refine uL (QCx (i:=cU i k) g (by unfold cU;omega) (Vk (aD g'.1).2) N) λz2 e F2 y2 p2 q2=>?_;have:=ih (k+1) g'.2 (X:=X) (z:=z2) (pos:=pos) (Q:=λvs s=>Q (.ref z'.s.heap.objs.size::vs) s) (Er:=Er) (by rw[fR];exact F2) λl' us Z c1 F3 y3 ph len get=>?_
   ·rw[e] at this
    exact this
   ·refine c l' (.ref z'.s.heap.objs.size::us) Z c1 F3 (y2.trans y3) (λj q=>(ph j (by unfold cU at*;omega)).trans<|q2 j<|by omega) (QHf DD len) λt ht=>?_
    cases t with
    |zero=>exact ⟨_,(ph _ (by unfold cU;omega)).trans p2,rfl⟩
    |succ t=>exact (get t<|QFU ht).elim λb q=>⟨b,by rw[show k+(t+1)=k+1+t from by omega];exact q.1,q.2⟩
theorem UX {φ:Nat->Option aM} {us:List aI} (len:us.length=n) (get: ∀t,t<n-> ∃b,φ (cU i<|0+t)=aA b/\us[t]?=aA (.ref b)):us=(bg n).map λk=>wY<|(φ<|cU i k).getD 0:=by
 refine QFA λt=>?_;by_cases h:t<n
 ·refine (get t h).elim λb q=>q.2.trans ?_
  rw[DI,QI h];have:=q.1;rw[uk] at this;simp[this]
 ·rw[DC (by omega),DC (by simp;omega)]
theorem Zv (g:C.nw=aB) (ok:lK C nm i) (W: ∀env,jo [.Name nm q] (.List ys p) pos.line env=pure aE) (H:uE D C ys rs):bV D C (.Assign [.Name nm q] (.List ys p) pos) (.eC i rs):= @λl K h=>λ{X z Q Er} F k=>
 jV (W X.env) rfl rfl (Hu (VY g H 0 h.2 F λl' us Z c F y _ len get=>⟨by simp only[jB,len];exact az (bJ h.1) (by decide),uf (by
  have K1:FX D C X (aL l') (Z.to (Z.s.heap.push<|listOf us.toArray 0) Z.s.toks):=F.kl (.push _)<|bh _;have e1:(Z.s.heap.push<|listOf us.toArray 0).get? Z.s.heap.objs.size=aA (listOf us.toArray 0):=fH _ rfl;have nx:=F.F.tD;have ue:=UX len get;refine bI (C.nM ok.t) λa b=>wpAny_toks ((K1.F.forget i a b).store ok.t ok.s ok.k (sl:=.eC rs.length) (λh' O m=>⟨Z.s.heap.objs.size,0,rfl,ue▸(m _ _ e1 nx).1,(m _ _ e1 nx).2,λt ht=>?_⟩) (λxs e=>by contradiction) λh' tk S st l=>?_)
  ·exact (get t ht).elim λb q=>by rw[<-uk t];exact mQ.mpr ⟨b,q.1⟩
  ·exact ((k _ _ c).tr y).nx (z':=Z.to h' tk) (by rw[fR];exact ⟨S,F.R,az F.t l⟩)<|(Sx.kl F (.push _)<|bh _).trans ⟨st,l,rfl,rfl⟩)⟩))
noncomputable def S.qI (i k:Nat) (b e:E):S:=λo l K=>e o l λv l=>jI v λx=>E.gf i k o l λO l=>b o l λj l=>mx j λj=>iZ l (cU i k) λR=>0<=j/\j<R.length/\R.length<2^63/\K .next (cL l (cU i k)<|.own<|R.set j.toNat x)
theorem QDl (L:C.ow=aB) (s: ∀env,jo [.Subscript w y N] x pos.line env=pure aE) (A:aZ D C w (.gf i k)) (B:aZ D C x a) (hy:aZ D C y b):bV D C (.Assign [.Subscript w y N] x pos) (.qI i k b a):= @λO O h=>λ{X z Q Er} K c=>jV (s X.env) rfl rfl ((B h).run K λv l1 g u z1 P s1 q1=>by
 induction ja g with
 |mk ev g3=>
  subst ev;rw[QD];refine dA (Ly g3) λnn ge gl g=>?_;have g':E.gf i k D.o l1 λv l=>v=.bor (cU i k)/\l=l1:=by unfold E.gf;rw[ge];exact ⟨f7.mpr ⟨sS gl.1,sS gl.2⟩,rfl,rfl⟩
  refine aR<|cO<|(A g').run P ?_;intro _ _ H ov z2 K2 M q2;have f:=H.1;have Z:=H.2;clear H;subst f;subst Z;refine aR<|cO<|qN (hy g) K2 λj l t' z3 g c' U=>?_;induction jG g with
  |mk h0 g=>
   refine j5 g λj0 j1 j2 g=>dZ (c'.ow h0<|q2.mon U) λp vs n r A f3 R=>?_;subst r;refine aR (iJ<|aR<|cO<|Ka f3 j0 ((bG j1<|oL j2)) (by simp only[gm,R.len];exact j1) λh4 n4 f5 sb=>?_)
   exact IE<|bI (c'.write (i:=cU i k) (h':=h4) (by unfold cU bR;omega) h0 A (c'.F.gN L _ _ p h0 A (by unfold cU aT;omega)) (λb o e n=>(sb.2 b n).trans e) (vs:=vs.set j.toNat u) (n':=n4) (by simp only[f5];simp[zh]) λm=>bB.set _ (R.mon m)<|Rd.mon (q1.mon<|M.trans U) m) λK4 s4=>(c _ _ g).nx (by simp only[fR];exact K4)<|((s1.trans M).trans U).trans s4)
noncomputable def gF (i:Nat):Nat->Nat->Ls->(List aK->Ls->Prop)->Prop
 |0,_,l,K=>K [] l
 |n+1,k,l,K=>iZ l (cU i k) λxs=>gF i n (k+1) (cL l (cU i k) .unb) λds l=>K (.list xs::ds) l
noncomputable def E.qO (i:Nat):E:=λo l K=>iB (vA<|aL l i) (λn=>gF i n 0 l λds l=>K (.d<|.list ds) l) False
theorem Z0 (M:C.ow=aB): ∀(n k:Nat) {l:Ls} {K:List aK->Ls->Prop} {z:Zs},gF i n k l K->FX D C X (aL l) z-> ∃ds l' z',K ds l'/\FX D C X (aL l') z'/\Sx z z'/\z'.s=z.s/\iO X z' ((List.range' k n).map λk=>wY<|(z.φ<|cU i k).getD 0) ds:=by
 intro n;induction n with
 |zero=>exact λk l K z h F=>⟨[],l,z,h,F,.refl,rfl,bB.nil⟩
 |succ n ih=>
  exact λk l K z h F=>by
   induction jG h with
   |mk e g=>
    refine oh (F.freeze e M (by unfold cU aT;omega) (by unfold cU bR;omega)) λa z1 e1 e2 F1 s1 q1=>?_;rw[<-fR] at F1;obtain ⟨ds,l',z2,c,F2,s2,e3,q2⟩:=ih (k+1) g F1;refine ⟨_,l',z2,c,F2,s1.trans s2,e3.trans e2,?_⟩;rw[QFV,gB];refine bB.cons ?_ ?_
    ·rw[e1];exact q1.mon s2
    ·rw[<-s1.f];exact q2
theorem Rv (M:C.ow=aB) (ok:hZ C nm i):aZ D C (.Name nm pos) (.qO i):= @λO O h=>⟨λ{X z Q Er} K c=>uJ K ok λv q=>by
 rcases mj h with ⟨n,e,h⟩|h
 ·rw[KR e] at q
  refine iT q λa m u e1 na z1=>⟨.ref a,u,?_⟩;obtain ⟨ds,l',z',c',F,s,es,r⟩:=Z0 M n 0 h K;rw[<-QFW] at r;have m':=s.mon (X:=X) a _ e1 na;rw[<-es];exact c _ _ c' _ _ F s<|Rd.lst m'.1 m'.2 r
 ·exact h.elim⟩
noncomputable def yq (C:Fc) (i k:Nat) (x:aP):Bool:=iu x λu y=>yn y && ((bS u λm=>cv C m i) && jb y λc=>decide (c=.int (k:Nat)))
theorem Nt (h:yq C i k x=aB):aZ D C x (.gf i k):=by
 induction uA h with
 | @mk a b p g=>
  cases dd (aD (aD g).2).1 with
  |mk o=>cases tQ (aD (aD g).2).2 with
   |mk e=>cases eD e;exact Rl (PZ (aD g).1)<|jg o
noncomputable def X.gf (i k:Nat):XE:=λo s l c=>bf (vA<|aL l i) (λn=>eM (cP k n && eX k 100)<|c (.bor<|cU i k) l s) True
theorem Jq:bC (E.gf i k) (X.gf i k):=⟨λh f=>cG h λn h=>eO λe=>f _ _ _ λq=>h ⟨e,q⟩⟩
noncomputable def EW.gf (i k:Nat) (a:EW):EW:=.au ⟨.gf i k,X.gf i k,Jq,λJ C x=>yq C i k x,λH h=>Nt h⟩ a
theorem Yz {ka kb:aP->Bool} (A: ∀{y},ka y=aB->aZ D C y a) (hb: ∀{y},kb y=aB->aZ D C y b) (h:os s .asg (λn=>cJ n.es λt=>iu t λo y=>(C.ow && yq C i k o) && (eG n.a && (ka n.a && kb y)))=aB):bV D C s (.qI i k b a):=
 lu (k:=λt v O=>iu t λo y=>(C.ow && yq C i k o) && (eG v && (ka v && kb y))) (λt v p g=>by
  induction uA g with
  |mk r=>exact @λl K=>QDl (D:=D) (C:=C) (aD (aD r).1).1 (λO=>rW (aD (aD r).2).1 _ _ _) (Nt (aD (aD r).1).2) (A (aD (aD (aD r).2).2).1)<|hb (aD (aD (aD r).2).2).2) h
noncomputable def X.qI (i k:Nat) (B A:XE):XS:=λo s l c=>A o s l λv l s=>bf (j3 v) (λx=>X.gf i k o s l λO l s=>B o s l λj l s=>bf (gv j) (λj=>bf (gh<|aL l<|cU i k) (λR=>0<=j->j<R.length->R.length<2^63->fF l (cU i k) (.own<|R.set j.toNat x) λl=>c .next l s) True) True) True
theorem VW (hb:bC b B) (s:bC a A):bC (S.qI i k b a) (X.qI i k B A):=⟨λq f=>s.r q λO O O q=>cG q λO q=>Jq.r q λO O O q=>hb.r q λO O O q=>cG q λO q=>cG q λO q c d e=>gP<|f _ _ _ λr=>q<|kq c d e r⟩
noncomputable def SW.qI (i k:Nat) (b a:EW):SW:=⟨.qI i k b.w a.w,X.qI i k b.x a.x,VW b.ok a.ok,λJ C s=>os s .asg λn=>cJ n.es λt=>iu t λo y=>(C.ow && yq C i k o) && (eG n.a && (a.bU J C n.a && b.bU J C y)),λH h=>Yz (a.snd H) (b.snd H) h⟩
noncomputable def Gm (i:Nat):Nat->Nat->Ls->(List aK->Ls->Prop)->Prop
 |0,_,l,c=>c [] l
 |n+1,k,l,c=>bf (gh<|aL l<|cU i k) (λxs=>fF l (cU i k) .unb λl=>Gm i n (k+1) l λds l=>c (.list xs::ds) l) True
theorem ZX {P:Prop}: ∀(n k:Nat) {l:Ls} {K c:List aK->Ls->Prop},(gF i n k l K->P)->(∀a l,(K a l->P)->c a l)->Gm i n k l c:=by
 intro n;induction n with
 |zero=>exact λk l K c h f=>f _ _ h
 |succ n ih=>exact λk l K c h f=>cG h λxs h=>gP<|ih (k+1) h λa l h=>f _ _ h
noncomputable def X.qO (i:Nat):XE:=λo s l c=>bf (vA<|aL l i) (λn=>Gm i n 0 l λds l=>c (.d<|.list ds) l s) True
theorem QCO:bC (E.qO i) (X.qO i):=⟨λh f=>cG h λn h=>ZX n 0 h λa l h=>f _ _ _ h⟩
theorem QBR (h:(C.ow && bS x λn=>cv C n i)=aB):aZ D C x (.qO i):=by induction dd (aD h).2 with|mk g=>exact Rv (aD h).1<|jg g
noncomputable def EW.qO (i:Nat):EW:=⟨.qO i,X.qO i,QCO,λJ C x=>C.ow && bS x λn=>cv C n i,λH h=>QBR h⟩
noncomputable def gX (i:Nat):Nat->List (List XE)->bj->Hs->Ls->(Ls->Hs->Prop)->Prop
 |_,[],_,s,l,c=>c l s
 |k,es::rs,o,s,l,c=>dX es o s l λd l s=>eM (eX d.length 16777216 && l.all λp=>E4 p.2)<|fF l (cU i k) (.own d) λl=>gX i (k+1) rs o s l c
noncomputable def X.eC (i:Nat) (rs:List (List XE)):XS:=λo s l c=>eM (eX rs.length 100)<|gX i 0 rs o s l λl s=>fF l i (.eC rs.length) λl=>c .next l s
theorem RE {P:Prop} {o:bj}: ∀(rs:List (List EW)) (k:Nat) {s:Hs} {l:Ls} {K:Ls->Prop} {c:Ls->Hs->Prop},(gW i k (rs.map (·.map EW.w)) o l K->P)->(∀l s,(K l->P)->c l s)->gX i k (rs.map (·.map EW.x)) o s l c:=by
 intro rs;induction rs with
 |nil=>exact λk s l K c h f=>f _ _ h
 |cons es rs ih=>exact λk s l K c h f=>(mq<|j7 es).r h λd l s h=>eO λe=>gP<|ih (k+1) (λq=>h ⟨e,q⟩) f
theorem WH (rs:List (List EW)):bC (S.eC i<|rs.map (·.map EW.w)) (X.eC i<|rs.map (·.map EW.x)):=⟨λh f=>eO λe=>RE rs 0 (λq=>h ⟨by rw[dY] at*;exact e,q⟩) λl s q=>gP<|f _ _ _ (by rw[dY] at*;exact q)⟩
noncomputable def Ap (J:Ci) (C:Fc):List (List EW)->List aP->Bool:=jH λes x=>dE x && nu x (ck J C es)
theorem Yo {rs:List (List EW)} (H:cD J D) (h:Ap J C rs xs=aB):uE D C xs (rs.map (·.map EW.w)):=
 md (P:=λrs xs=>uE D C xs<|rs.map (·.map EW.w)) .nil (λes rs x xs h g=>by
  cases Bz (aD h).2 with|mk e=>exact .cons (gV H e).1 g) h
theorem SM {rs:List (List EW)} (H:cD J D) (h:os s .asg (λn=>cJ n.es λt=>bS t λx=>(C.nw && cu C x i) && (eG n.a && nu n.a (Ap J C rs)))=aB):bV D C s (.eC i<|rs.map (·.map EW.w)):=
 lu (k:=λt v O=>bS t λx=>(C.nw && cu C x i) && (eG v && nu v (Ap J C rs))) (λt v p g=>by
  cases dd g with
  |mk r=>
   have q:=aD (aD r).2;have w:=rW q.1;cases Bz q.2 with
   |mk e=>exact @λl K=>Zv (D:=D) (C:=C) (aD (aD r).1).1 (ft (aD (aD r).1).2) (λO=>w _ _ _)<|Yo H e) h
noncomputable def SW.eC (i:Nat) (rs:List (List EW)):SW:=⟨.eC i<|rs.map (·.map EW.w),X.eC i<|rs.map (·.map EW.x),WH rs,λJ C s=>os s .asg λn=>cJ n.es λt=>bS t λx=>(C.nw && cu C x i) && (eG n.a && nu n.a (Ap J C rs)),λH h=>SM H h⟩
theorem WN {K:aG->Option dQ} {ts vs:List aP} {k b:Nat} (h:((mc K ts).length !=ts.length)=aB) (H: ∀x,env.kindOf x=K x):mT [.Tuple ts k p] (.Tuple vs b P) env=pure none:=by
 dsimp only[mT];erw[(funext H:env.kindOf=K)]
 split
 ·rfl
 ·split
  ·rfl
  ·exact (QHd<|QFS.mpr<|.inl h).trans rfl
theorem x_ (W: ∀env,jo [c] x pos.line env=pure aE) (s: ∀env,(∀x,env.kindOf x=C.K x)->mT [c] x env=pure aF) (A: ∀env,(uj [c] env).map (·.2)=[mR c env]) (M:aZ D C x a) (d:nE D C c t):bV D C (.Assign [c] x pos) (.asg t a):= @λO O h=>λ{X z Q Er} K k=>jV (W X.env) (s X.env K.F.hK) (A X.env) ((M h).run K λv L g u Z R i q=>by
 induction ja g with
 |mk e g=>
  subst e
  induction wM g with|mk b g=>exact d b R q λj P l O=>(k _ _ g).nx P<|i.trans l)
theorem Tz {ka:aP->Bool} (A: ∀{y},ka y=aB->aZ D C y a) (h:os s .asg (λn=>cJ n.es λt=>gu t λxs=>gu n.a λvs=>(((mc C.K xs).length !=xs.length) && jH (λx i=>bS x λn=>cu C n i) xs o) && (eG n.a && ka n.a))=aB):bV D C s (.asg (.tup o) a):=
 lu (k:=λt v O=>gu t λxs=>gu v λvs=>(((mc C.K xs).length !=xs.length) && jH (λx i=>bS x λn=>cu C n i) xs o) && (eG v && ka v)) (λt v p g=>by
  cases uB g with
  |mk r=>cases uB r with
   |mk r=>
    have n:=md (P:=λxs o=>pb C xs o) .nil (λx xs i o h g=>by induction dd h with|mk H=>exact .cons (ft H) g) (aD (aD r).1).2;have q:=rW (aD (aD r).2).1
    exact @λl K=>x_ (D:=D) (C:=C) (t:=.tup o) (a:=a) (λO=>q _ _ _) (λenv H=>WN (aD (aD r).1).1 H) (λO=>rfl) (A (aD (aD r).2).2)<|@λd R U=>Dj n) h
noncomputable def SW.tpc (is:List Nat) (a:EW):SW:=⟨.asg (.tup is) a.w,X.asg (.tup is) a.x,zM a.ok,λJ C s=>os s .asg λn=>cJ n.es λt=>gu t λxs=>gu n.a λvs=>(((mc C.K xs).length !=xs.length) && jH (λx i=>bS x λn=>cu C n i) xs is) && (eG n.a && a.bU J C n.a),λH h=>Tz (a.snd H) h⟩
namespace B01
noncomputable def AR:List SW:=[.one 1<|.int 2048,.defn 2 0,.pS 3 [.bi .len [.aC 0],.int 5,.aC 1],.ret<|.jF 0 2 [.int 0,.bi .len [.aC 0]]]
noncomputable def MT:List SW:=[.cA (.cmp .LtE (.aH .Sub (.aC 201)<|.aC 200)<|.aC 1) [.ret<|.bi .sd [.dK (.aC 0) (aA<|.aC 200) (aA<|.aC 201) aF]] [],.one 202<|.aH .RShift (.aH .Add (.aH .Add (.aC 200)<|.aC 201)<|.int 1)<|.int 1,.ret<|.aH .Add (.jF 0 2 [.aC 202,.aC 201])<|.aH .LShift (.aH .Mult (.jF 0 2 [.aC 200,.aC 202])<|.au (.aC 3)<|.aH .Sub (.aC 201)<|.aC 202)<|.aH .Sub (.aC 201)<|.aC 202]
noncomputable def Nx:List SW:=[.one 0<|.qd (.sm .rstrip (.aC 0) []) ⟨#[95]⟩ ⟨#[]⟩,.ret<|.call 1 [.aC 0]]
noncomputable def uP:List SW:=[.cA (.cmp .LtE (.aH .Sub (.sm .bits (.aC 0) [])<|.aC 2)<|.qc ⟨#[95,68,73,86,95,76,73,77,73,84]⟩) [.ret<|.bi .divmod [.aC 0,.aC 1]] [],.one 3<|.aH .BitAnd (.aC 2)<|.int 1,.cA (.aC 3) [.aug 0 .LShift<|.int 1,.aug 1 .LShift<|.int 1,.aug 2 .Add<|.int 1] [],.one 4<|.aH .RShift (.aC 2)<|.int 1,.one 5<|.aH .Sub (.aH .LShift (.int 1)<|.aC 4)<|.int 1,.Ai [6,7]<|.tup [.aH .RShift (.aC 1)<|.aC 4,.aH .BitAnd (.aC 1)<|.aC 5],.tup [8,9]<|.call 4 [.aH .RShift (.aC 0)<|.aC 2,.aH .BitAnd (.aH .RShift (.aC 0)<|.aC 4)<|.aC 5,.aC 1,.aC 6,.aC 7,.aC 4],.tup [10,9]<|.call 4 [.aC 9,.aH .BitAnd (.aC 0)<|.aC 5,.aC 1,.aC 6,.aC 7,.aC 4],.cA (.aC 3) [.aug 9 .RShift<|.int 1] [],.ret<|.tup [.aH .BitOr (.aH .LShift (.aC 8)<|.aC 4)<|.aC 10,.aC 9]]
noncomputable def uK:List SW:=[.aug 6 .Sub<|.int 1,.aug 7 .Add<|.aC 2]
noncomputable def tK:TW:=.cmp .Lt (.aC 7)<|.int 0
noncomputable def b_div3n2n:List SW:=[.cA (.cmp .Eq (.aH .RShift (.aC 0)<|.aC 5)<|.aC 3) [.Ai [6,7]<|.tup [.aH .Sub (.aH .LShift (.int 1)<|.aC 5)<|.int 1,.aH .Add (.aH .Sub (.aC 0)<|.aH .LShift (.aC 3)<|.aC 5)<|.aC 3]] [.tup [6,7]<|.call 3 [.aC 0,.aC 3,.aC 5]],.one 7<|.aH .Sub (.aH .BitOr (.aH .LShift (.aC 7)<|.aC 5)<|.aC 1)<|.aH .Mult (.aC 6)<|.aC 4,.n9 tK uK,.ret<|.tup [.aC 6,.aC 7]]
noncomputable def yx:List SW:=[.own 2<|.mul [.int 0]<|.aH .FloorDiv (.aH .Sub (.aH .Add (.sm .bits (.aC 0) [])<|.aC 1)<|.int 1)<|.aC 1,.defn 3 1,.cA (.aC 0) [.expr<|.jF 1 3 [.aC 0,.int 0,.bi .len [.aC 2]]] [],.ret<|.aC 2]
noncomputable def G8:List SW:=[.cA (.cmp .Eq (.aH .Add (.aC 201)<|.int 1)<|.aC 202) [.set 2 (.aC 201)<|.aC 200,.Aw] [],.one 203<|.aH .RShift (.aH .Add (.aC 201)<|.aC 202)<|.int 1,.one 204<|.aH .Mult (.aH .Sub (.aC 203)<|.aC 201)<|.aC 1,.one 205<|.aH .RShift (.aC 200)<|.aC 204,.one 206<|.aH .BitXor (.aC 200)<|.aH .LShift (.aC 205)<|.aC 204,.expr<|.jF 1 3 [.aC 206,.aC 201,.aC 203],.expr<|.jF 1 3 [.aC 205,.aC 203,.aC 202]]
noncomputable def BM:List SW:=[.defn 2 2,.ret<|.ite (.aC 0) (.jF 2 2 [.int 0,.bi .len [.aC 0]])<|.int 0]
noncomputable def GI:List SW:=[.cA (.cmp .Eq (.aH .Add (.aC 200)<|.int 1)<|.aC 201) [.ret<|.au (.aC 0)<|.aC 200] [],.one 202<|.aH .RShift (.aH .Add (.aC 200)<|.aC 201)<|.int 1,.one 203<|.aH .Mult (.aH .Sub (.aC 202)<|.aC 200)<|.aC 1,.ret<|.aH .Add (.aH .LShift (.jF 2 2 [.aC 202,.aC 201])<|.aC 203)<|.jF 2 2 [.aC 200,.aC 202]]
noncomputable def vQ:List SW:=[.tup [7,4]<|.call 3 [.aH .Add (.aH .LShift (.aC 4)<|.aC 2)<|.aC 6,.aC 1,.aC 2],.app 5<|.aC 7]
noncomputable def b_divmod_pos:List SW:=[.one 2<|.sm .bits (.aC 1) [],.one 3<|.call 5 [.aC 0,.aC 2],.one 4<|.int 0,.own 5<|.list [],.fE (.one 6) (.rev<|.aC 3) vQ,.qV 5,.one 8<|.call 6 [.qH 5,.aC 2],.ret<|.tup [.aC 8,.aC 4]]
noncomputable def B8:List SW:=[.cA (.cmp .Eq (.aC 1)<|.int 0) [.stuck] [.cA (.cmp .Lt (.aC 1)<|.int 0) [.tup [2,3]<|.call 8 [.neg<|.aC 0,.neg<|.aC 1],.ret<|.tup [.aC 2,.neg<|.aC 3]] [.cA (.cmp .Lt (.aC 0)<|.int 0) [.tup [2,3]<|.call 8 [.inv<|.aC 0,.aC 1],.ret<|.tup [.inv<|.aC 2,.aH .Add (.aC 1)<|.inv<|.aC 3]] [.ret<|.call 7 [.aC 0,.aC 1]]]]]
noncomputable def NO:List SW:=[.ret<|.p9<|.bi .ord [.aC 0]]
noncomputable def HC:List SW:=[.one 1<|.qJ<|.bi .ord [.aC 0],.cA (.iS aB<|.aC 1) [.ret<|.aC 1] [],.ret<|.sm .lower (.aC 0) []]
noncomputable def Eg:List SW:=[.one 1<|.conv aB (.sm .lower (.aC 1) []),.qi<|.comp (.aC 201) (.one 201) .e6 [.cmp .NotEq (.sm .lower (.au (.aC 201)<|.int 0) [])<|.aC 1]]
noncomputable def GP:List SW:=[.one 1<|.conv aB (.sm .lower (.aC 1) []),.ret<|.comp (.au (.aC 201)<|.int 1) (.one 201) .e6 [.cmp .Eq (.sm .lower (.au (.aC 201)<|.int 0) [])<|.aC 1]]
noncomputable def CG:List SW:=[.ret<|.dK .e6 aF aF aF]
noncomputable def yE:List SW:=[.own 4<|.list [],.cA (.iS aB<|.aC 2) [.one 2<|.conv aE (.aC 2),.app 4<|.aC 2] [],.qF 3,.qP<|.tup [.conv aB (.aC 1),.sm .join (.str ⟨#[59,32]⟩) [.aC 4]]]
noncomputable def Fw:List SW:=[.ret<|.comp (.aH .Add (.au (.aC 1)<|.aC 201)<|.bi .sum [.dK (.aC 0) (aA<|.aC 201) aF<|aA<|.bi .len [.aC 1]]) (.one 201) (.i3<|.bi .len [.aC 1]) []]
noncomputable def MQ:List SW:=[.one 2<|.list [.int 97,.int 65,.int 119808,.int 119860,.int 119912,.int 120016,.int 120172,.int 120224,.int 120276,.int 120328,.int 120380,.int 120432],.ret<|.bi .chr [.aH .Sub (.aH .Add (.au (.aC 2)<|.aH .Mod (.aC 1)<|.int 12)<|.bi .ord [.aC 0])<|.int 97]]
noncomputable def EA:List SW:=[.one 1<|.list [.int 173,.int 847,.int 6150,.int 6155,.int 6156,.int 6157,.int 8203,.int 8204,.int 8205,.int 8288,.int 65279],.ret<|.bi .chr [.ite (.cmp .Lt (.aH .Mod (.aC 0)<|.int 27)<|.int 11) (.au (.aC 1)<|.aH .Mod (.aC 0)<|.int 27)<|.aH .Add (.int 65013)<|.aH .Mod (.aC 0)<|.int 27]]
noncomputable def M5:List SW:=[.one 1<|.list [.int 172,.int 174,.int 846,.int 848,.int 6149,.int 6151,.int 6154,.int 6158,.int 8202,.int 8206,.int 8287,.int 8289,.int 65278,.int 65280,.int 65023,.int 65040],.ret<|.bi .chr [.au (.aH .Add (.aC 1)<|.list [.int 11,.int 12,.int 28,.int 29,.int 30,.int 133,.int 8232,.int 8233])<|.aH .Mod (.aC 0)<|.int 24]]
noncomputable def Pa:List SW:=[.ret<|.sm .join (.str ⟨#[]⟩) [.comp (.call 11 [.aC 201]) (.one 201) (.aC 0) [.eP aE aE<|.call 10 [.aC 201]]]]
noncomputable def Ea:List SW:=[.eC 1 [[.int 0,.aH .Mod (.aH .FloorDiv (.aC 0)<|.int 3)<|.int 4],[.aH .Add (.int 1)<|.aH .Mod (.aC 0)<|.int 3,.aH .Mod (.aH .FloorDiv (.aC 0)<|.int 12)<|.int 4],[.aH .Mod (.aH .FloorDiv (.aC 0)<|.int 48)<|.int 4,.aH .Mod (.aH .FloorDiv (.aC 0)<|.int 192)<|.int 5]],.cA (.cmp .Eq (.aH .Mult (.gf 1 1<|.int 0)<|.aH .Sub (.gf 1 2<|.int 1)<|.gf 1 0<|.int 1)<|.aH .Mult (.gf 1 2<|.int 0)<|.aH .Sub (.gf 1 1<|.int 1)<|.gf 1 0<|.int 1) [.qI 1 2 (.int 1)<|.aH .Mod (.aH .Add (.gf 1 2<|.int 1)<|.int 1)<|.int 5] [],.ret<|.qO 1]
noncomputable def zG:List SW:=[.one 7<|.aH .Mod (.aH .Add (.aH .FloorDiv (.aC 1)<|.int 3)<|.aH .Mult (.au (.list [.int 1,.int 2])<|.aH .Mod (.aH .FloorDiv (.aC 1)<|.int 9)<|.int 2)<|.aC 6)<|.int 3,.one 8<|.call 17 [.aH .Add (.call 13 [.au (.str ⟨#[112,110,109]⟩)<|.aC 7,.aH .Add (.aH .FloorDiv (.aC 1)<|.int 18)<|.aC 6])<|.call 14 [.aH .Add (.aH .FloorDiv (.aC 1)<|.int 216)<|.aC 6]],.one 9<|.aH .Add (.aH .Add (.str ⟨#[48,95]⟩)<|.bi .rv [.au (.au (.aC 0)<|.aC 7)<|.aH .FloorDiv (.aC 6)<|.int 3])<|.au (.list [.str ⟨#[]⟩,.str ⟨#[32]⟩,.str ⟨#[9]⟩,.str ⟨#[9,32]⟩])<|.aH .Mod (.aH .Add (.aC 1)<|.aC 6)<|.int 4,.one 10<|.au (.str ⟨#[112,110,109]⟩)<|.aC 7,.cA (.cmp .Eq (.aH .Mod (.aC 6)<|.int 2)<|.int 1) [.Ai [10,8]<|.tup [.sm .upper (.aC 10) [],.sm .upper (.aC 8) []]] [],.app 4<|.jt 0 (.aC 3) [.aC 8,.aC 9],.app 5<|.tup [.aC 10,.aC 9]]
noncomputable def b_law_book:List SW:=[.own 2<|.list [.tup [.str ⟨#[109,112]⟩,.str ⟨#[]⟩]],.qK 3 2,.own 4<|.list [.jt 0 (.aC 3) [.au (.str ⟨#[80,78,77]⟩)<|.aH .Mod (.aC 1)<|.int 3,.str ⟨#[57]⟩],.jt 0 (.aC 3) [.au (.str ⟨#[80,78,77]⟩)<|.aH .Mod (.aC 1)<|.int 3,.str ⟨#[57]⟩]],.oe 3<|.au (.str ⟨#[112,110,109]⟩)<|.aH .Mod (.aC 1)<|.int 3,.own 5<|.list [.tup [.str ⟨#[109,112]⟩,.str ⟨#[]⟩]],.fE (.one 6) (.i3<|.int 6) zG,.cA (.fZ .Or [.cmp .NotEq (.aC 4)<|.aH .Mult (.list [.none])<|.int 8,.cmp .NotEq (.jX 2 (.aC 3) [])<|.aC 5,.cmp .NotEq (.aC 2)<|.aC 5]) [.ret<|.list []] [],.cmp 11 (.jX 1 (.aC 3) [.aC 201]) (.one 201) (.jU<|.list [.str ⟨#[112]⟩,.str ⟨#[78]⟩,.str ⟨#[109]⟩]) [],.cA (.cmp .NotEq (.aC 11)<|.comp (.comp (.au (.aC 401)<|.int 1) (.one 401) (.aC 5) [.cmp .Eq (.sm .lower (.au (.aC 401)<|.int 0) [])<|.aC 201]) (.one 201) (.jU<|.list [.str ⟨#[112]⟩,.str ⟨#[110]⟩,.str ⟨#[109]⟩]) []) [.ret<|.list []] [],.ret<|.comp (.comp (.call 2 [.aC 401]) (.one 401) (.aC 201) []) (.one 201) (.aC 11) []]
noncomputable def MN:List SW:=[.tup [2,3]<|.call 8 [.aC 0,.aC 1],.cA (.fZ .Or [.cmp .NotEq (.aH .Add (.aH .Mult (.aC 2)<|.aC 1)<|.aC 3)<|.aC 0,.cmp .Lt (.aH .Mult (.aC 3)<|.aC 1)<|.int 0,.cmp .GtE (.bi .abs [.aC 3])<|.bi .abs [.aC 1]]) [.ret<|.list [.aC 2,.neg<|.int 1]] [],.ret<|.list [.aC 2,.bi .abs [.aC 3]]]
noncomputable def rP:List SW:=[.cA (.fZ .And [.cmp .NotEq (.au (.aC 11)<|.int 1)<|.au (.aC 12)<|.int 1,.th .LtE .LtE (.bi .min2 [.au (.aC 11)<|.int 1,.au (.aC 12)<|.int 1]) (.aH .Add (.aC 1)<|.aC 8)<|.bi .max2 [.au (.aC 11)<|.int 1,.au (.aC 12)<|.int 1]]) [.one 13<|.aH .Add (.aH .Mult (.au (.aC 11)<|.int 0)<|.aH .Sub (.au (.aC 12)<|.int 1)<|.au (.aC 11)<|.int 1)<|.aH .Mult (.aH .Sub (.aH .Add (.aC 1)<|.aC 8)<|.au (.aC 11)<|.int 1)<|.aH .Sub (.au (.aC 12)<|.int 0)<|.au (.aC 11)<|.int 0,.tup [14,15]<|.call 28 [.aH .Mult (.aC 13)<|.aC 3,.aH .Mult (.aH .Sub (.au (.aC 12)<|.int 1)<|.au (.aC 11)<|.int 1)<|.aC 3],.cA (.cmp .Lt (.aC 15)<|.int 0) [.ret<|.list []] [],.app 9<|.aC 14,.app 10<|.aH .Add (.aC 14)<|.bi .min2 [.aC 15,.int 1]] []]
noncomputable def r9:List SW:=[.own 9<|.list [],.own 10<|.list [],.fE (.tup [11,12]) (.jU<|.list [.tup [.au (.aC 5)<|.int 0,.au (.aC 5)<|.int 1],.tup [.au (.aC 5)<|.int 1,.au (.aC 5)<|.int 2],.tup [.au (.aC 5)<|.int 2,.au (.aC 5)<|.int 0]]) rP,.cA (.cmp .NotEq (.aC 9)<|.list []) [.set 7 (.aC 8)<|.aH .Add (.aH .Sub (.bi .m9 [.aC 9])<|.bi .kZ [.aC 10])<|.int 1] [],.cA (.th .Lt .Lt (.bi .kZ [.aC 6]) (.aH .Add (.aC 1)<|.aC 8)<|.bi .m9 [.aC 6]) [.set 7 (.aH .Add (.int 4)<|.aC 8)<|.aH .Sub (.aH .Sub (.bi .m9 [.aC 10])<|.bi .kZ [.aC 9])<|.int 1] []]
noncomputable def b_law_counts:List SW:=[.one 3<|.aH .Add (.aH .LShift (.int 1)<|.int 200)<|.aH .Mod (.aC 2)<|.aH .LShift (.int 1)<|.int 200,.one 4<|.aH .Mult (.aH .Mod (.aH .FloorDiv (.aC 2)<|.int 3)<|.aH .LShift (.int 1)<|.int 150)<|.au (.list [.int 1,.neg<|.int 1])<|.aH .Mod (.aC 2)<|.int 2,.cmp 5 (.list [.aH .Add (.au (.aC 201)<|.int 0)<|.aH .Mult (.aC 4)<|.au (.aC 201)<|.int 1,.au (.aC 201)<|.int 1]) (.one 201) (.aC 0) [],.cmp 6 (.au (.aC 201)<|.int 1) (.one 201) (.aC 5) [],.own 7<|.mul [.int 0]<|.int 8,.fE (.one 8) (.i3<|.int 5) r9,.ret<|.aC 7]
noncomputable def tR:List SW:=[.one 6<|.bi .kZ [.comp (.aH .Mult (.aC 3)<|.aH .Sub (.aH .Mult (.aH .Sub (.au (.aC 202)<|.int 0)<|.au (.aC 201)<|.int 0)<|.aH .Sub (.aC 5)<|.au (.aC 201)<|.int 1)<|.aH .Mult (.aH .Sub (.au (.aC 202)<|.int 1)<|.au (.aC 201)<|.int 1)<|.aH .Sub (.aC 1)<|.au (.aC 201)<|.int 0) (.tup [201,202]) (.aC 2) []],.cA (.cmp .GtE (.aC 6)<|.int 0) [.app 4<|.aC 5] [],.cA (.cmp .Gt (.aC 6)<|.int 0) [.app 4<|.aH .Add (.int 4)<|.aC 5] []]
noncomputable def b_law_bare:List SW:=[.one 2<|.list [.tup [.au (.aC 0)<|.int 0,.au (.aC 0)<|.int 1],.tup [.au (.aC 0)<|.int 1,.au (.aC 0)<|.int 2],.tup [.au (.aC 0)<|.int 2,.au (.aC 0)<|.int 0]],.one 3<|.int 1,.cA (.cmp .Lt (.aH .Mult (.au (.au (.aC 0)<|.int 1)<|.int 0)<|.aH .Sub (.au (.au (.aC 0)<|.int 2)<|.int 1)<|.au (.au (.aC 0)<|.int 0)<|.int 1)<|.aH .Mult (.au (.au (.aC 0)<|.int 2)<|.int 0)<|.aH .Sub (.au (.au (.aC 0)<|.int 1)<|.int 1)<|.au (.au (.aC 0)<|.int 0)<|.int 1) [.one 3<|.neg<|.int 1] [],.own 4<|.list [],.fE (.one 5) (.i3<|.int 5) tR,.ret<|.aC 4]
noncomputable def wK:List SW:=[.one 6<|.aH .Mod (.aH .Add (.aC 1)<|.aC 5)<|.int 8,.one 7<|.sm .join (.str ⟨#[]⟩) [.comp (.call 13 [.aC 201,.aH .Add (.aH .FloorDiv (.aC 1)<|.int 8)<|.aC 5]) (.one 201) (.jU<|.au (.aC 2)<|.aC 6) []],.cA (.fZ .And [.cmp .Gt (.aC 6)<|.int 4,.cmp .Eq (.aH .Mod (.aH .Add (.aH .FloorDiv (.aC 1)<|.int 96)<|.aC 5)<|.int 2)<|.int 0]) [.one 7<|.bi .chr [.au (.list [.int 64256,.int 64257,.int 64262])<|.aH .Sub (.aC 6)<|.int 5]] [],.app 4<|.aH .Add (.aH .Add (.str ⟨#[46]⟩)<|.aC 7)<|.call 14 [.aH .Add (.aH .FloorDiv (.aC 1)<|.int 8)<|.aH .Mult (.int 5)<|.aC 5]]
noncomputable def sj:List SW:=[.cA (.cmp .NotIn (.aH .Mod (.aH .Add (.aC 1)<|.aC 5)<|.int 8)<|.aC 9) [.one 10<|.aH .Add (.aC 10)<|.call 14 [.aH .Add (.aH .Add (.aH .FloorDiv (.aC 1)<|.int 27)<|.aC 8)<|.aH .Mult (.int 7)<|.aC 5]] [],.one 10<|.aH .Add (.aH .Add (.aC 10)<|.au (.aC 4)<|.aC 5)<|.au (.aC 3)<|.aH .Mod (.aH .Add (.aH .Add (.aC 1)<|.aC 8)<|.aC 5)<|.int 3]
noncomputable def Ac:List SW:=[.one 9<|.call 30 [.aC 0,.aC 8],.one 10<|.str ⟨#[]⟩,.fE (.one 5) (.i3<|.int 8) sj,.one 10<|.aH .Add (.aH .Add (.aH .Add (.aH .Add (.aH .Add (.aC 10)<|.au (.aC 4)<|.int 8)<|.au (.aC 3)<|.aH .Mod (.aH .Add (.aH .Add (.aC 1)<|.aC 8)<|.int 8)<|.int 3)<|.au (.aC 4)<|.int 9)<|.au (.aC 3)<|.aH .Mod (.aH .Add (.aH .Add (.aC 1)<|.aC 8)<|.int 9)<|.int 3)<|.au (.aC 4)<|.int 10,.one 4<|.sm .split (.call 9 [.aC 10]) [.str ⟨#[13,10]⟩],.one 4<|.aH .Add (.comp (.ite (.eP aE aB<|.call 10 [.dK (.aC 201) aF (aA<|.int 1) aF]) (.dK (.aC 201) (aA<|.int 1) aF aF)<|.aC 201) (.one 201) (.jU<|.dK (.aC 4) aF (aA<|.int 8) aF) [])<|.dK (.aC 4) (aA<|.int 8) aF aF]
noncomputable def A3:List SW:=[.one 12<|.sm .qa (.au (.aC 4)<|.aC 5) [.str ⟨#[46]⟩],.cA (.cmp .NotEq (.call 17 [.aC 12])<|.au (.aC 2)<|.aH .Mod (.aH .Add (.aC 1)<|.aC 5)<|.int 8) [.ret<|.list []] [],.set 11 (.aH .Mod (.aH .Add (.aC 1)<|.aC 5)<|.int 8)<|.aH .Sub (.aH .Sub (.bi .len [.au (.aC 4)<|.aC 5])<|.bi .len [.aC 12])<|.int 1]
noncomputable def b_law_found:List SW:=[.one 2<|.list [.str ⟨#[102]⟩,.str ⟨#[105]⟩,.str ⟨#[108]⟩,.str ⟨#[115]⟩,.str ⟨#[116]⟩,.str ⟨#[102,102]⟩,.str ⟨#[102,105]⟩,.str ⟨#[115,116]⟩],.one 3<|.list [.str ⟨#[10]⟩,.str ⟨#[13]⟩,.str ⟨#[13,10]⟩],.own 4<|.list [],.fE (.one 5) (.i3<|.int 8) wK,.one 4<|.aH .Add (.aC 4)<|.list [.aH .Add (.call 15 [.aH .FloorDiv (.aC 1)<|.int 8])<|.str ⟨#[46,32]⟩,.str ⟨#[]⟩,.str ⟨#[46]⟩],.fE (.one 8) (.i3<|.int 4) Ac,.cA (.fZ .Or [.cmp .NotEq (.dK (.aC 4) (aA<|.int 8) aF aF)<|.list [.aH .Add (.call 15 [.aH .FloorDiv (.aC 1)<|.int 8])<|.str ⟨#[46,32]⟩,.str ⟨#[]⟩,.str ⟨#[46,46,46,46,46]⟩],.eP aB aE<|.call 10 [.call 15 [.aH .FloorDiv (.aC 1)<|.int 8]]]) [.ret<|.list []] [],.own 11<|.mul [.int 0]<|.int 8,.fE (.one 5) (.i3<|.int 8) A3,.ret<|.aC 11]
noncomputable def CX:List SW:=[.Ai [0,1]<|.tup [.aC 1,.aH .Mod (.aC 0)<|.aC 1]]
noncomputable def B7:TW:=.cmp .NotEq (.aC 1)<|.int 0
noncomputable def b_law_common:List SW:=[.n9 B7 CX,.ret<|.aC 0]
noncomputable def HV:List SW:=[.one 3<|.aH .Add (.int 16)<|.aH .Mod (.aC 2)<|.int 300,.one 4<|.aH .Add (.aH .LShift (.int 1)<|.int 4200)<|.aH .Mod (.aH .FloorDiv (.aC 2)<|.int 7)<|.aH .LShift (.int 1)<|.int 4200,.one 5<|.aH .Mult (.aH .Pow (.aH .Sub (.aH .LShift (.int 1)<|.aC 3)<|.int 1)<|.int 3)<|.aC 4,.one 6<|.aH .Sub (.aH .LShift (.int 1)<|.sm .bits (.aC 5) [])<|.int 1,.one 7<|.list [.list [],.aH .Mult (.list [.aH .Sub (.aH .LShift (.int 1)<|.aC 3)<|.int 1])<|.int 3],.cA (.fZ .Or [.cmp .NotEq (.call 8 [.aH .Mult (.aC 6)<|.aC 5,.aC 5])<|.tup [.aC 6,.int 0],.cmp .NotEq (.comp (.call 5 [.call 6 [.aC 201,.aC 3],.aC 3]) (.one 201) (.aC 7) [])<|.aC 7]) [.ret<|.list []] [],.one 8<|.aH .Mod (.aH .FloorDiv (.aC 2)<|.int 5)<|.aH .LShift (.int 1)<|.int 4300,.cA (.cmp .Eq (.aH .Mod (.aH .FloorDiv (.aC 2)<|.int 2)<|.int 2)<|.int 0) [.one 8<|.aH .Sub (.aC 6)<|.aH .Mod (.aC 8)<|.aH .LShift (.int 1)<|.int 2000] [],.one 9<|.aH .Add (.aH .Add (.aH .Add (.aH .Mult (.aH .LShift (.call 6 [.list [.aC 1,.aH .Sub (.aC 0)<|.int 3,.int 1],.aC 3])<|.aH .Mult (.int 5)<|.aC 3)<|.aC 4)<|.aH .Mult (.aC 8)<|.aC 5)<|.int 1)<|.aH .Mod (.aH .FloorDiv (.aC 2)<|.int 11)<|.aH .Sub (.aC 4)<|.int 1,.one 10<|.aH .Mod (.aH .FloorDiv (.aC 2)<|.int 13)<|.int 4,.tup [11,12]<|.call 28 [.aH .Mult (.aC 9)<|.au (.list [.int 1,.neg<|.int 1,.neg<|.int 1,.int 1])<|.aC 10,.aH .Mult (.aC 5)<|.au (.list [.int 1,.neg<|.int 1,.int 1,.neg<|.int 1])<|.aC 10],.cA (.cmp .Lt (.aC 12)<|.int 0) [.ret<|.list []] [],.ret<|.call 5 [.aH .Sub (.au (.list [.aC 11,.aC 11,.aH .Sub (.neg<|.int 1)<|.aC 11,.aH .Sub (.neg<|.int 1)<|.aC 11])<|.aC 10)<|.aC 8,.aC 3]]
noncomputable def Gd:List SW:=[.one 1<|.call 12 [.aC 0,.list [.int 629,.int 77,.int 4310,.int 314159265358979323,.aH .Pow (.int 7)<|.int 3100]],.one 2<|.call 27 [.au (.aC 1)<|.int 0],.tpc [3,4,5]<|.tup [.aH .Mod (.au (.aC 1)<|.int 3)<|.aH .Pow (.int 10)<|.int 6,.aH .Mod (.aH .FloorDiv (.au (.aC 1)<|.int 3)<|.aH .Pow (.int 10)<|.int 6)<|.aH .Pow (.int 10)<|.int 6,.aH .Mod (.aH .FloorDiv (.au (.aC 1)<|.int 3)<|.aH .Pow (.int 10)<|.int 12)<|.aH .Pow (.int 10)<|.int 6],.cmp 6 (.list [.aH .Add (.aH .Add (.au (.aC 201)<|.int 0)<|.aH .Mult (.aC 3)<|.au (.aC 201)<|.int 1)<|.aC 4,.aH .Add (.au (.aC 201)<|.int 1)<|.aC 5]) (.one 201) (.aC 2) [],.one 7<|.call 19 [.aC 6,.au (.aC 1)<|.int 1],.cA (.cmp .NotEq (.aC 7)<|.aC 6) [.ret<|.bool aE] [],.one 8<|.call 31 [.aC 2,.au (.aC 1)<|.int 2],.cA (.fZ .Or [.cmp .Eq (.aC 8)<|.list [],.cmp .NotEq (.aC 8)<|.call 29 [.aC 7,.aC 5,.au (.aC 1)<|.int 4]]) [.ret<|.bool aE] [],.cmp 9 (.list [.aH .Sub (.au (.au (.aC 2)<|.aC 201)<|.int 0)<|.au (.au (.aC 2)<|.aH .Sub (.aC 201)<|.int 1)<|.int 0,.aH .Sub (.au (.au (.aC 2)<|.aC 201)<|.int 1)<|.au (.au (.aC 2)<|.aH .Sub (.aC 201)<|.int 1)<|.int 1]) (.one 201) (.i3<|.int 3) [],.one 10<|.bi .abs [.aH .Sub (.aH .Mult (.au (.au (.aC 9)<|.int 1)<|.int 0)<|.au (.au (.aC 9)<|.int 2)<|.int 1)<|.aH .Mult (.au (.au (.aC 9)<|.int 1)<|.int 1)<|.au (.au (.aC 9)<|.int 2)<|.int 0],.one 11<|.bi .sum [.comp (.call 32 [.bi .abs [.au (.aC 201)<|.int 0],.bi .abs [.au (.aC 201)<|.int 1]]) (.one 201) (.aC 9) []],.cmp 12 (.aH .FloorDiv (.aH .Add (.aH .Add (.aH .Mult (.aH .Mult (.aC 10)<|.aC 201)<|.aC 201)<|.aH .Mult (.aC 11)<|.aC 201)<|.int 2)<|.int 2) (.one 201) (.jU<|.list [.int 4,.int 3,.int 2,.int 1,.int 0]) [],.ret<|.cmp .Eq (.call 33 [.bi .sum [.dK (.aC 8) aF (aA<|.int 5) aF],.bi .sum [.dK (.aC 8) (aA<|.int 5) aF aF],.au (.aC 1)<|.int 4])<|.aC 12]
end B01
section
open PySem.Sre (M)
noncomputable def QBC (n:Nat) (m g:M):Prop:= ∀k,M.runFor (n+k) m=M.runFor k g
noncomputable def Goes (b:Nat) (m g:M):Prop:= ∃n,n<=b/\QBC n m g
theorem Goes.refl (m:M):Goes 0 m m:=(ax 0 (bh _) λk=>by rw[uk])
theorem Goes.step (o:m.outcome=aF) (e:m.step=m1) (g:Goes b m1 r):Goes (b+1) m r:=by refine aS g λn N g=>(ax (n+1) (H7 N) λk=>?_);rw[zt];refine (?_:(if m.outcome.isSome then m else M.runFor (n+k) m.step)=_);exact sb o<|sb e<|g k
theorem Goes.trans (g:Goes b m m1) (u:Goes c m1 r):Goes (b+c) m r:=by refine aS g λn x g=>aS u λv N u=>(ax (n+v) (iF x N) λk=>?_);rw[wX,g,u]
theorem Goes.le (g:Goes b m m1) (h:b<=c):Goes c m m1:=let ⟨n,N,g⟩:=g;(ax n (az N h) g)
theorem GU (h:m.outcome.isSome=aB): ∀k,M.runFor k m=m:=by
 intro O;induction O with
 |zero=>exact rfl
 |succ k i=>exact by refine (?_:(if m.outcome.isSome then m else _)=m);exact sb (QHd h) rfl
theorem Ow: ∀a k m,M.runFor (a+k) m=M.runFor k (M.runFor a m):=by
 intro a;induction a with
 |zero=>intro k m;rw[uk];rfl
 |succ a i=>
  intro k m;rw[zt];refine (?_:(if m.outcome.isSome then m else M.runFor (a+k) m.step)=M.runFor k (if m.outcome.isSome then m else M.runFor a m.step));by_cases h:m.outcome.isSome=aB
  ·rw[if_pos h,if_pos h,GU h]
  ·rw[if_neg h,if_neg h,i]
theorem s_ {w:bz} {E:aI->aN->Prop}: ∀T b m e,b<=4*T->0<T->e.outcome.isSome=aB->Goes b m e->Q e s->aO (aY prog w) A (Builtin.Re.reDrive T m) Q E s:=by
 intro T;induction T with
 |zero=>exact λb m e O h=>QHb h<|mK _
 |succ T i=>
  intro b m e B O o G q;refine G.elim λn G=>?_;have N:=G.1;have g:=G.2;clear G;refine (?_:aO (aY prog w) A (if (M.runFor 4 m).outcome.isSome=aB then pure (M.runFor 4 m) else _) Q E s);by_cases H:n<=4
  ·have:M.runFor 4 m=e:=by
    have:=g<|4 - n;rw[show n+(4 - n)=4 by exact QK ‹_›,GU o] at this;exact this
   rw[this,if_pos o];exact bA q
  ·by_cases l:(M.runFor 4 m).outcome.isSome=aB
   ·rw[if_pos l]
    have x:=Ow 4 (n - 4) m;rw[GU l,show 4+(n - 4)=n+0 by exact (vV<|sE ((aQ<|qt H):4<=n)),g 0] at x;rw[<-x,(rfl:M.runFor 0 e=e)];exact bA q
   ·rw[if_neg l]
    have u:Goes (b - 4) (M.runFor 4 m) e:=(ax (n - 4) ((bD (na (nL<|sE ((aQ<|qt H):4<=n)) N)<|nR<|sE ((bD (qt H) N):4<=b))) (λk=>by
     rw[<-Ow,show 4+(n - 4+k)=n+k by exact (vV<|sE ((aQ<|qt H):4<=n))]
     exact g k))
    refine aR<|wpAny_rule ?_;exact i (b - 4) _ _ ((bD (nL<|sE ((bD (qt H) N):4<=b)) B)) ((II.mp λY=>(cY (na (na (qt H) N) B)<|gC 4 Y))) o u q
noncomputable def C1:Array Nat:= #[14,4,0,1,1,6,1,16,46,1]
noncomputable def yV (t:Array Nat) (s:Nat):Bool:=s==0||t.getD (s - 1) 0==10
noncomputable def X1 (t:Array Nat) (s:Nat) (f:Bool) (seen:jR) (pc pos hd:Nat) (a:Option Bool):M:={code:=C1,text:=t,lim:=t.size,start:=s,lastStart:=t.size,pc:=pc,pos:=pos,handed:=hd,outermost:=f,marks:= #[],frames:=[{wait:=.nextStart,pc:=5,pos:=s,outermost:=f}],weight:=1,seen:=seen,answer:=a}
noncomputable def Y1 (t:Array Nat) (s:Nat) (f:Bool) (seen:jR) (hd:Nat) (a:Bool):M:={code:=C1,text:=t,lim:=t.size,start:=s,lastStart:=t.size,pc:=5,pos:=s,handed:=hd,outermost:=f,marks:= #[],frames:=[],weight:=0,seen:=seen,answer:=aA a}
noncomputable abbrev S1 (t:Array Nat) (s:Nat) (f:Bool) (seen:jR):M:=X1 t s f seen 5 s s aF
theorem yQ {t s f seen}:(X1 t s f seen 5 s s aF).step=if yV t s=aB then X1 t s f ((seen.add 6).add 44) 7 s s aF else X1 t s f ((seen.add 6).add 44) 5 s s (aA aE):=rfl
theorem EG {t s f seen}:(X1 t s f seen 7 s s aF).step=if s>=t.size then X1 t s f (seen.add 16) 7 s s (aA aE) else
 (match (Except.ok (t.getD s 0==46,seen.add 16)) with
 |.error W=>(X1 t s f (seen.add 16) 7 s s aF).stick W
 |.ok (false,seen)=>X1 t s f seen 7 s s<|aA aE
 |.ok (true,seen)=>X1 t s f seen 9 (s+1) s aF):=rfl
theorem SK {t s f seen}:(X1 t s f seen 9 (s+1) s aF).step=if (f && ((aE && (s+1) !=t.size)||(false && (s+1)==s)))=true then X1 t s f (seen.add 1) 9 (s+1) s (some false) else X1 t s f (seen.add 1) 9 (s+1) (s+1) (some true):=rfl
theorem ZP {t s f seen}:(X1 t s f seen 9 (s+1) (s+1)<|aA aB).step=Y1 t s f seen (s+1) true:=rfl
theorem BX {t s f seen pc}:(X1 t s f seen pc s s<|aA aE).step=if s<t.size then S1 t (s+1) aE seen else Y1 t s f seen s false:=rfl
theorem FU {t s f seen h a}:(Y1 t s f seen h a).step={Y1 t s f seen h a with outcome:=aA<|if a then .matched else .failed}:=rfl
noncomputable def ko (t:Array Nat) (s:Nat):Bool:=yV t s && t.getD s 0==46 && cP s t.size
theorem QBs {t s f seen} (h:ko t s=aB): ∃m,Goes 5 (S1 t s f seen) m/\m.outcome=aA .matched/\m.start=s/\m.handed=s+1:=by unfold ko at h;simp only[gn] at h;refine bI h λq Q=>bI q λH i=>?_;have r:=bJ Q;exact (kM _ (Goes.step rfl (yQ.trans<|QHd H) (Goes.step rfl (EG.trans<|(QHc<|II.mpr ‹_›).trans<|sb i rfl) (Goes.step rfl (SK.trans<|QHc<|by induction f<;>simp) (Goes.step rfl ZP (Goes.step rfl FU (Goes.refl _)))))) rfl rfl rfl)
theorem UP {t s f seen} (h:ko t s=aE) (hs:s<t.size): ∃A,Goes 3 (S1 t s f seen)<|S1 t (s+1) aE A:=by
 by_cases H:yV t s=aB
 ·have i:(t.getD s 0==46)=false:=by
   unfold ko at h;rw[H,show cP s t.size=aB from sS hs] at h;simpa using h
  exact ⟨_,Goes.step rfl (yQ.trans<|QHd H) (Goes.step rfl (EG.trans<|(QHc<|(λW=>(cY hs W))).trans<|sb i rfl) (Goes.step rfl (BX.trans<|QHd hs) (Goes.refl _)))⟩
 ·exact ⟨_,(Goes.step rfl (yQ.trans<|QHc H) (Goes.step rfl (BX.trans<|QHd hs) (Goes.refl _))).le<|by decide⟩
theorem QAS {t f seen}: ∃m,Goes 4 (S1 t t.size f seen) m/\m.outcome=aA .failed:=by
 by_cases h:yV t t.size=aB
 ·exact (ax _ (Goes.step rfl (yQ.trans<|QHd h) (Goes.step rfl (EG.trans<|QHd<|bh _) (Goes.step rfl (BX.trans<|QHc<|mK _) (Goes.step rfl FU (Goes.refl _))))) rfl)
 ·exact (ax _ ((Goes.step rfl (yQ.trans<|QHc h) (Goes.step rfl (BX.trans<|QHc<|mK _) (Goes.step rfl FU (Goes.refl _)))).le<|by decide) rfl)
noncomputable def gZ (p:Nat->Bool):Nat->Nat->Option Nat
 |0,_=>aF
 |k+1,s=>if p s then aA s else gZ p k (s+1)
noncomputable def oQ (b:Nat) (m:M) (r:Option (Nat×Nat)):Prop:= ∃R,Goes b m R/\match r with|some (p,e)=>R.outcome=aA .matched/\R.start=p/\R.handed=e|none=>R.outcome=aA .failed
theorem Y2: ∀k s f seen,s+k=t.size->oQ (5*(k+1)) (S1 t s f seen) ((gZ (ko t) k s).map λp=>(p,p+1)):=by
 intro k;induction k with
 |zero=>
  exact λs f seen h=>by
   obtain rfl:s=t.size:=by assumption
   exact aS (QAS) λm g o=>(ax m (g.le<|gA _ _) o)
 |succ k i=>
  exact λs f seen h=>by
   dsimp only[gZ];by_cases a:ko t s=aB
   ·exact sb (QHd a)<|se (QBs a) λm g N r Q=>(kM m (g.le<|gA _ _) N r Q)
   ·exact sb (QHc a)<|aV (UP (by simpa using a)<|aQ<|nL h) λA g=>aS (i (s+1) aE A (by grind_order:s+1+k=t.size)) λm u o=>(ax m ((g.trans u).le<|by simp+arith) o)
theorem XD (t:Array Nat) (s:Nat) (hs:s<=t.size):oQ (5*(t.size+1)) (kj C1 t 0 s t.size aE) ((gZ (ko t) (t.size - s) s).map λp=>(p,p+1)):=by
 by_cases h:s<t.size
 ·have e:kj C1 t 0 s t.size aE=S1 t s aB (({}:jR).add 14):=by
   refine (?_:(if s>t.size||decide (t.size - s<1) then _ else _)=_);erw[if_neg (by simp;exact ⟨(aQ h),(λW=>(cY (na h<|nR<|sE ((aQ h):s<=t.size))<|nL W))⟩)];rfl
  exact sb e<|aS (Y2 (t.size - s) s true (({}:Sre.Seen).add 14) (Nat.add_sub_cancel' ‹_›)) λm g o=>(ax m (g.le<|(aQ<|gC 5<|nL<|sE ((aQ h):s<=t.size))) o)
 ·obtain rfl:s=t.size:=by exact jk (aQ hs) (aQ<|jN h)
  rw[Nat.sub_self];refine (ax ({kj C1 t 0 t.size t.size aE with outcome:=aA .failed}) ((Goes.step ?_ ?_<|Goes.refl _).le<|gA _ _) rfl)
  ·refine (?_:(if (decide (t.size>t.size)||decide (t.size - t.size<1))=true then _ else _:M).outcome=_)
   erw[if_pos<|by simp];rfl
  ·have e:kj C1 t 0 t.size t.size aE={code:=C1,text:=t,lim:=t.size,start:=t.size,pc:=5,pos:=t.size,handed:=t.size,marks:= #[],seen:=({}:jR).add 14,answer:=aA aE}:=by
    refine (?_:(if (decide (t.size>t.size)||decide (t.size - t.size<1))=true then _ else _:M)=_);erw[if_pos<|by simp];rfl
   erw[e];rfl
end
section
open PySem.Sre (M)
noncomputable def C2:Array Nat:= #[14,9,4,1,2,16,10,16,13,0,7,7,16,13,16,10,15,18,5,16,10,15,13,11,16,13,5,5,0,16,10,1,15,2,0,1]
noncomputable def jy (s:Nat) (f:Bool):IJ:={wait:=.nextStart,pc:=10,pos:=s,outermost:=f}
noncomputable def la (s:Nat) (f:Bool) (pc:Nat):IJ:={wait:=.nextBranch,pc:=pc,pos:=s,outermost:=f,kept:={lastmark:= -1,lastindex:= -1,whole:=aE,marks:= #[]}}
noncomputable def OG (s:Nat) (f:Bool):IJ:={wait:=.lookNot,pc:=26,pos:=s+1,outermost:=f,kept:={lastmark:= -1,lastindex:= -1,whole:=aE,marks:= #[]}}
noncomputable def Z2 (t:Array Nat) (s:Nat) (f:Bool) (seen:jR) (pc pos hd:Nat) (a:Option Bool) (F:List IJ) (W:Nat):M:={code:=C2,text:=t,lim:=t.size,start:=s,lastStart:=t.size,pc:=pc,pos:=pos,handed:=hd,outermost:=f,marks:= #[],frames:=F,weight:=W,seen:=seen,answer:=a}
section
variable {t:Array Nat} {s:Nat} {f:Bool} {seen:jR}
theorem Dk:(Z2 t s f seen 10 s s aF [jy s f] 1).step=Z2 t s f (seen.add 7) 12 s s aF [la s f 11,jy s f] 2:=rfl
theorem yF {pc pos hd fr wt} (h: ∀seen,(Z2 t s g seen pc pos hd aF fr wt).step=if pos>=t.size then Z2 t s g (seen.add 16) pc pos hd (aA aE) fr wt else
 (match (Except.ok (t.getD pos 0==c,seen.add 16)) with
 |.error W=>(Z2 t s g (seen.add 16) pc pos hd aF fr wt).stick W
 |.ok (false,seen)=>Z2 t s g seen pc pos hd (aA aE) fr wt
 |.ok (true,seen)=>Z2 t s g seen (pc+2) (pos+1) hd aF fr wt)):
 (Z2 t s g seen pc pos hd aF fr wt).step=if (cP pos t.size && t.getD pos 0==c)=aB then Z2 t s g (seen.add 16) (pc+2) (pos+1) hd aF fr wt else Z2 t s g (seen.add 16) pc pos hd (aA aE) fr wt:=by
 rw[h];by_cases p:pos>=t.size
 ·rw[if_pos p,if_neg]
  intro q;rw[gn] at q;have:=bJ q.1;exact QHb ‹_› (iH.mpr ‹_›)
 ·rw[if_neg p,show cP pos t.size=aB from sS<|qt ‹_›,Cv]
  cases t.getD pos 0==c<;>rfl
theorem Dd {hd fr wt g}:(Z2 t s g seen 12 s hd aF fr wt).step=if (cP s t.size && t.getD s 0==13)=aB then Z2 t s g (seen.add 16) 14 (s+1) hd aF fr wt else Z2 t s g (seen.add 16) 12 s hd (aA aE) fr wt:=yF λO=>rfl
theorem I1 {hd fr wt g}:(Z2 t s g seen 14 (s+1) hd aF fr wt).step=if (cP (s+1) t.size && t.getD (s+1) 0==10)=aB then Z2 t s g (seen.add 16) 16 (s+2) hd aF fr wt else Z2 t s g (seen.add 16) 14 (s+1) hd (aA aE) fr wt:=yF λO=>rfl
theorem MO {hd fr wt g}:(Z2 t s g seen 19 s hd aF fr wt).step=if (cP s t.size && t.getD s 0==10)=aB then Z2 t s g (seen.add 16) 21 (s+1) hd aF fr wt else Z2 t s g (seen.add 16) 19 s hd (aA aE) fr wt:=yF λO=>rfl
theorem z24 {hd fr wt g}:(Z2 t s g seen 24 s hd aF fr wt).step=if (cP s t.size && t.getD s 0==13)=aB then Z2 t s g (seen.add 16) 26 (s+1) hd aF fr wt else Z2 t s g (seen.add 16) 24 s hd (aA aE) fr wt:=yF λO=>rfl
theorem z29 {hd fr wt g}:(Z2 t s g seen 29 (s+1) hd aF fr wt).step=if (cP (s+1) t.size && t.getD (s+1) 0==10)=aB then Z2 t s g (seen.add 16) 31 (s+2) hd aF fr wt else Z2 t s g (seen.add 16) 29 (s+1) hd (aA aE) fr wt:=yF λO=>rfl
theorem TX {pos hd fr wt}:(Z2 t s f seen 16 pos hd aF fr wt).step=Z2 t s f (seen.add 15) 35 pos hd aF fr wt:=rfl
theorem QAx {pos hd fr wt}:(Z2 t s f seen 21 pos hd aF fr wt).step=Z2 t s f (seen.add 15) 35 pos hd aF fr wt:=rfl
theorem Su {pos hd fr wt}:(Z2 t s f seen 32 pos hd aF fr wt).step=Z2 t s f (seen.add 15) 35 pos hd aF fr wt:=rfl
theorem GF {pos hd fr wt}:(Z2 t s f seen 35 pos hd aF fr wt).step=if (f && ((aE && pos !=t.size)||(false && pos==s)))=true then Z2 t s f (seen.add 1) 35 pos hd (some false) fr wt else Z2 t s f (seen.add 1) 35 pos pos (some true) fr wt:=rfl
theorem JP {pc pos hd g}:(Z2 t s g seen pc pos hd (aA aE) [la s f 11,jy s f] 2).step=Z2 t s f seen 19 s s aF [la s f 18,jy s f] 2:=rfl
theorem QDI {pc pos hd g}:(Z2 t s g seen pc pos hd (aA aE) [la s f 18,jy s f] 2).step=Z2 t s f seen 24 s s aF [la s f 23,jy s f] 2:=rfl
theorem QBU {hd}:(Z2 t s f seen 26 (s+1) hd aF [la s f 23,jy s f] 2).step=Z2 t s aE (seen.add 5) 29 (s+1) (s+1) aF [OG s f,la s f 23,jy s f] 3:=rfl
theorem QAG {pc pos hd g}:(Z2 t s g seen pc pos hd (aA aE) [OG s f,la s f 23,jy s f] 3).step=Z2 t s f seen 32 (s+1) hd aF [la s f 23,jy s f] 2:=rfl
theorem Ej {k pc pos hd g}:(Z2 t s g seen pc pos hd (aA aB) [la s f k,jy s f] 2).step=Z2 t s f seen k s hd (aA aB) [jy s f] 1:=rfl
theorem Dt {pc pos hd g}:(Z2 t s g seen pc pos hd (aA aB) [jy s f] 1).step=Z2 t s f seen 10 s hd (aA aB) [] 0:=rfl
theorem G4 {a pc pos hd wt}:(Z2 t s f seen pc pos hd (aA a) [] wt).step={Z2 t s f seen pc pos hd (aA a) [] wt with outcome:=aA<|if a then .matched else .failed}:=rfl
theorem E1: ¬ ((f && ((aE && pos !=t.size)||(false && pos==s)))=true):=by induction f<;>simp
noncomputable def hV (t:Array Nat) (s:Nat):Bool:=cP s t.size && (t.getD s 0==10||t.getD s 0==13)
noncomputable def pY (t:Array Nat) (s:Nat):Nat:=if t.getD s 0==13 && (cP (s+1) t.size && t.getD (s+1) 0==10) then s+2 else s+1
theorem Xq (h:hV t s=aB): ∃m,Goes 20 (Z2 t s f seen 10 s s aF [jy s f] 1) m/\m.outcome=aA .matched/\m.start=s/\m.handed=pY t s:=by
 unfold hV at h;rw[gn] at h;refine bI h λA i=>?_;by_cases c:(t.getD s 0==13)=aB
 ·have H:(cP s t.size && t.getD s 0==13)=true:=by simp only[A,c];rfl
  have K: ¬ ((cP s t.size && t.getD s 0==10)=aB):=by rw[beq_iff_eq] at c;erw[c];simp
  by_cases n:(cP (s+1) t.size && t.getD (s+1) 0==10)=aB
  ·refine (kM _ ((Goes.step rfl Dk (Goes.step rfl (Dd.trans<|QHd H) (Goes.step rfl (I1.trans<|QHd n) (Goes.step rfl TX (Goes.step rfl (GF.trans<|QHc E1) (Goes.step rfl Ej (Goes.step rfl Dt (Goes.step rfl G4 (Goes.refl _))))))))).le<|by decide) rfl rfl ?_)
   exact (QHd (by simp only[c,n];rfl)).symm
  ·refine (kM _ ((Goes.step rfl Dk (Goes.step rfl (Dd.trans<|QHd H) (Goes.step rfl (I1.trans<|QHc n) (Goes.step rfl JP (Goes.step rfl (MO.trans<|QHc K) (Goes.step rfl QDI (Goes.step rfl (z24.trans<|QHd H) (Goes.step rfl QBU (Goes.step rfl (z29.trans<|QHc n) (Goes.step rfl QAG
    (Goes.step rfl Su (Goes.step rfl (GF.trans<|QHc E1) (Goes.step rfl Ej (Goes.step rfl Dt (Goes.step rfl G4 (Goes.refl _)))))))))))))))).le (by decide)) rfl rfl ?_)
   exact (QHc (by rw[gn];exact λq=>n q.2)).symm
 ·have K:(t.getD s 0==10)=true:=by
   rw[IK] at i;exact i.resolve_right c
  have H: ¬ ((cP s t.size && t.getD s 0==13)=aB):=by rw[gn];exact λq=>c q.2
  have l:(cP s t.size && t.getD s 0==10)=true:=by simp only[A,K];rfl
  refine (kM _ ((Goes.step rfl Dk (Goes.step rfl (Dd.trans<|QHc H) (Goes.step rfl JP (Goes.step rfl (MO.trans<|QHd l) (Goes.step rfl QAx (Goes.step rfl (GF.trans<|QHc E1) (Goes.step rfl Ej (Goes.step rfl Dt (Goes.step rfl G4 (Goes.refl _)))))))))).le<|by decide) rfl rfl ?_);exact (QHc (by rw[gn];exact λq=>c q.1)).symm
end
theorem QAp (c:Nat) (seen:jR): ∃s,AB C2 c C2.size 5 aB seen=.ok (c==10||c==13,s):=by
 have e:AB C2 c 36 5 aB seen=if (c==10)=aB then .ok (aB,seen.add 16) else if (c==13)=aB then .ok (aB,(seen.add 16).add 16) else .ok (aE,((seen.add 16).add 16).add 0):=rfl;erw[e];by_cases h:(c==10)=aB
 ·exact sb (QHd h)<|sb h<|⟨_,rfl⟩
 ·erw[if_neg h]
  by_cases H:(c==13)=aB
  ·rw[if_pos H,H,Bool.or_true]
   exact ⟨_,rfl⟩
  ·exact sb (QHc H)<|⟨_,by simp only[Bool.not_eq_true] at h H;(erw[h];erw[H]);rfl⟩
theorem Vp (c:m.code=C2) (a:m.text=t) (hl:m.lim=t.size): ∀k s seen,t.size<s+k-> ∃A,AD m k s seen=.ok (gZ (hV t) k s,A):=by
 intro O;induction O with
 |zero=>exact λs seen O=>⟨seen,rfl⟩
 |succ k i=>
  exact λs seen h=>by
   dsimp only[AD,gZ];erw[hl];by_cases hs:s>=t.size
   ·have hb:hV t s=false:=by
     dsimp only[hV];erw[(by rw[uQ];intro q;have:=bJ q;exact absurd ‹_› (iH.mpr ‹_›):cP s t.size=aE)];rfl
    rw[if_pos hs,hb];refine ⟨seen,?_⟩
    have: ∀k s,s>=t.size->gZ (hV t) k s=none:=by
     intro k;induction k with
     |zero=>intros;rfl
     |succ k i=>
      intro s hs;dsimp only[gZ];have hb:hV t s=false:=by dsimp only[hV];rw[show cP s t.size=aE by rw[uQ];intro q;have:=bJ q;exact cY hs this];rfl
      rw[hb];exact i (s+1)<|Hl ‹_›
    rw[if_neg (by decide),this k (s+1) (Hl ‹_›)]
   ·rw[if_neg hs,c,a]
    refine aV (QAp (t.getD s 0) seen) λA e=>?_;rw[e];have hb:hV t s=(t.getD s 0==10||t.getD s 0==13):=by dsimp only[hV];rw[show Nat.blt s t.size=true from Nat.ble_eq_true_of_le<|Nat.lt_of_not_le ‹_›];rfl
    rw[hb];induction hh:(t.getD s 0==10||t.getD s 0==13) with
    |true=>exact ⟨A,rfl⟩
    |false=>exact aV (i (s+1) A<|aQ h) λs2 e2=>⟨s2,by rw[if_neg<|by decide];exact e2⟩
theorem zJ: ∀{k s i:Nat},gZ p k s=aA i->p i=aB/\s<=i/\i<s+k:=by
 intro k;induction k with
 |zero=>exact λh=>ay h
 |succ k d=>
  exact @λs i h=>by
   unfold gZ at h;by_cases q:p s=aB
   ·rw[if_pos q] at h
    cases h
    exact ⟨q,bh _,by simp+arith⟩
   ·rw[if_neg q] at h
    exact eN (d h) λa b c=>⟨a,by exact sD ‹_›,by exact aQ c⟩
theorem QBX (t:Array Nat) (s:Nat) (hs:s<=t.size):oQ 21 (kj C2 t 0 s t.size aE) ((gZ (hV t) (t.size+1 - s) s).map λp=>(p,pY t p)):=by
 by_cases h:s<t.size
 ·have e:kj C2 t 0 s t.size aE=(match AD {code:=C2,text:=t,lim:=t.size,start:=s,lastStart:=t.size,pc:=10,pos:=s,handed:=s,marks:= #[],seen:=({}:jR).add 14} (t.size+1 - s) s (({}:jR).add 14) with
   |.ok (some p,seen)=>Z2 t p aB seen 10 p p aF [jy p aB] 1
   |.ok (none,seen)=>({code:=C2,text:=t,lim:=t.size,start:=s,lastStart:=t.size,pc:=10,pos:=s,handed:=s,marks:= #[],seen:=seen,answer:=aA aE}:M)
   |.error W=>({code:=C2,text:=t,lim:=t.size,start:=s,lastStart:=t.size,pc:=10,pos:=s,handed:=s,marks:= #[],seen:=({}:jR).add 14}:M).stick W):=by
   refine (?_:(if s>t.size||decide (t.size - s<1) then _ else _)=_);erw[if_neg (by simp;exact ⟨(aQ h),(λC=>(cY (na h<|nR<|sE ((aQ h):s<=t.size))<|nL C))⟩)];rfl
  refine sb e<|aV (Vp rfl rfl rfl (t.size+1 - s) s (({}:Sre.Seen).add 14) ((aQ<|nR<|sE ((aQ h):s<=t.size+1)))) λA e2=>sb e2 ?_
  induction F:gZ (hV t) (t.size+1 - s) s with
  |some p=>exact aS (Xq (zJ F).1) λR g o=>(ax R (g.le<|by decide) o)
  |none=>exact (ax _ ((Goes.step rfl rfl (Goes.refl _)).le<|by decide) rfl)
 ·obtain rfl:s=t.size:=by exact jk (aQ hs) (aQ<|jN h)
  have F:gZ (hV t) (t.size+1 - t.size) t.size=none:=by erw[(by simp+arith:t.size+1 - t.size=1)];dsimp only[gZ,gZ];rw[if_neg];dsimp only[hV];rw[show cP t.size t.size=aE by rw[uQ];intro q;have:=bJ q;exact absurd ‹_› (iH.mpr ‹_›),IL];decide
  rw[F];have e:kj C2 t 0 t.size t.size aE={code:=C2,text:=t,lim:=t.size,start:=t.size,pc:=10,pos:=t.size,handed:=t.size,marks:= #[],seen:=({}:jR).add 14,answer:=aA aE}:=by refine (?_:(if (decide (t.size>t.size)||decide (t.size - t.size<1))=true then _ else _:M)=_);rw[if_pos<|by simp];rfl
  rw[e];exact (ax _ ((Goes.step rfl rfl (Goes.refl _)).le<|by decide) rfl)
end
noncomputable def tS (t:Array Nat) (d:Nat):Option (Nat×Nat):=(gZ (ko t) (t.size - d) d).map λp=>(p,p+1)
noncomputable def q7 (t:Array Nat) (d:Nat):Option (Nat×Nat):=(gZ (hV t) (t.size+1 - d) d).map λp=>(p,pY t p)
noncomputable def xu:Str:=⟨#[46,46]⟩
noncomputable def yy:Str:=⟨#[13,10]⟩
noncomputable def hH (nx:Nat->Option (Nat×Nat)) (rep:aG) (t:Array Nat):Nat->Nat->List aG
 |0,_=>[]
 |k+1,d=>(nx d).elim (if d<t.size then [⟨t.extract d t.size⟩] else []) λq=>(if d<q.1 then [⟨t.extract d q.1⟩] else [])++rep::hH nx rep t k q.2
theorem KZ {nx:Nat->Option (Nat×Nat)} {rep:aG} {k d:Nat}:hH nx rep t (k+1) d=(nx d).elim (if d<t.size then [⟨t.extract d t.size⟩] else []) λq=>(if d<q.1 then [⟨t.extract d q.1⟩] else [])++rep::hH nx rep t k q.2:=rfl
theorem Bx {nx:Nat->Option (Nat×Nat)} {rep:aG} {k d:Nat} (h:nx d=aF):hH nx rep t (k+1) d=if d<t.size then [⟨t.extract d t.size⟩] else []:=KZ.trans (by rw[h];rfl)
theorem BY {nx:Nat->Option (Nat×Nat)} {rep:aG} {k d a e:Nat} (h:nx d=aA (a,e)):hH nx rep t (k+1) d=(if d<a then [⟨t.extract d a⟩] else [])++rep::hH nx rep t k e:=KZ.trans (by rw[h];rfl)
noncomputable def qZ (ts:List aG):Str:=if ts.isEmpty then ⟨#[]⟩ else DJ ⟨#[]⟩ ts
noncomputable def q1 (x:aG):Str:=qZ<|hH (tS x.cps) xu x.cps (x.cps.size+1) 0
noncomputable def q2 (x:aG):Str:=qZ<|hH (q7 x.cps) yy x.cps (x.cps.size+1) 0
noncomputable def MM (d:aK):Option (List aK):=d.casesOn (motive_1:=λO=>Option<|List aK) aF (λO=>aF) (λO=>aF) (λO=>aF) (λO=>aF) (λn=>aA n) λO=>aF
theorem QBL:MM d=aA n->d=.tuple n:=d.casesOn (λh=>ay h) (λO h=>ay h) (λO h=>ay h) (λO h=>ay h) (λO h=>ay h) (λO h=>QHf QFX<|kC h) λO h=>ay h
noncomputable def yu (d:aK):Option Str:=d.casesOn (motive_1:=λO=>Option aG) aF (λO=>aF) (λO=>aF) (λn=>aA n) (λO=>aF) (λO=>aF) λO=>aF
theorem J2:yu d=aA n->d=.str n:=d.casesOn (λh=>ay h) (λO h=>ay h) (λO h=>ay h) (λO h=>QHf sJ<|kC h) (λO h=>ay h) (λO h=>ay h) λO h=>ay h
noncomputable def uD (d:aK):Bool:=(((MM d).bind CR).bind λp=>(yu p.1).bind λO=>yu p.2).isSome
theorem QBm (h:uD d=aB): ∃x y,d=.tuple [.str x,.str y]:=aV (mQ.mp h) λy h=>aS (AE.mp h) λp A H=>aS (AE.mp A) λl Q b=>aS (AE.mp H) λx r P=>⟨x,y,(QBL Q).trans<|QHf QFX<|(FE b).trans<|by rw[J2 r,J2 P]⟩
noncomputable abbrev Eb (d:aK):Fl->Ls->Prop:=λf O=>iY f d
noncomputable def HJ (d:aK) (hs:List aK):Fl->Ls->Prop:=λf l=>iY f d/\aL l aT=.own hs/\aL l bR=.emp
noncomputable def mB (o:bj) (k:Nat) (b:List SW) (xs:List aK) (d:aK):Prop:=xs.length=k/\ ∃P,sW (b.map SW.w) o (jK (bg k) (xs.map .val)<|u9 P)<|Eb d
noncomputable def vv (o:bj) (k:Nat) (exs:List Sl) (b:List SW) (xs hs:List aK) (d:aK) (hs':List aK):Prop:=(xs.map xS++exs).length+1=k/\sW (b.map SW.w) o (jK (bg k) (.inst::(xs.map .val++exs))<|rH hs) (HJ d hs')
noncomputable def tH (o:bj) (k:Nat) (exs:List Sl) (b:List SW) (xs hs:List aK) (d:aK):Prop:=(xs.map xS++exs).length+1=k/\sW (b.map SW.w) o (jK (bg k) (.inst::(xs.map .val++exs))<|rR hs) (Eb d)
namespace B01
noncomputable def vh:Stmt:=xd (AF pg) 20
noncomputable def Gk:nS:=AN (.Constant .none 0 default) (λO O O=>.Constant .none 0 default) (λO=>.Constant .none 0 default) (λv=>v) vh
noncomputable def yh:List (Option nS):=tU [] (λk O O=>k) (λO=>[]) [] (λO O=>[]) Gk
noncomputable def xv:List nS:=tU [] (λO v O=>v) (λO=>[]) [] (λO O=>[]) Gk
noncomputable def yK:Pos:=tU default (λO O p=>p) (λO=>default) default (λO O=>default) Gk
noncomputable def Ov (x:nS):Const:=tU .none (λO O O=>.none) (λc=>c) .none (λO O=>.none) x
noncomputable def QDx (ks:List (Option nS)) (vs:List nS):List (Int×fY):=(ks.zip vs).filterMap λp=>p.1.bind λk=>match Ov k,Ov p.2 with
 |.int i,.str s=>aA (i,s)
 |_,_=>aF
noncomputable def b3:List (Int×fY):=QDx yh xv
noncomputable def gL:List Int:=[65024,65025,65026,65027,65028,65029,6150,65030,65031,65032,65033,6155,6156,6157,8203,8204,8205,65034,65035,65036,65037,65038,65039,173,847,8288,65279]
noncomputable def rC (i:Int):Dat:=match b3.lookup i with|some s=>.str s|none=>.none
noncomputable def GN:List (Nat×(Nat×List SW)):=[(1,(1,AR)),(2,(1,Nx)),(3,(3,uP)),(4,(6,b_div3n2n)),(5,(2,yx)),(6,(2,BM)),(7,(2,b_divmod_pos)),(8,(2,B8)),(10,(1,NO)),(11,(1,HC)),(12,(2,Fw)),(13,(2,MQ)),(14,(1,EA)),(15,(1,M5)),(17,(1,Pa)),(19,(2,b_law_book)),(26,(1,Gd)),(27,(1,Ea)),(28,(2,MN)),(29,(3,b_law_counts)),(30,(2,b_law_bare)),(31,(2,b_law_found)),(32,(2,b_law_common)),(33,(3,HV))]
inductive OF (o:bj) (f:Nat) (xs:List aK) (d:aK):Prop
 |q {x:Str}:f=9->xs=[.str x]->d=.str (q1<|q2 x)->x.cps.size<=400000->(q2 x).cps.size<=400000->OF o f xs d
 |mk {k bs}:GN.lookup f=some (k,bs)->mB o k bs xs d->OF o f xs d
inductive OH (o:bj) (k:Nat) (xs hs:List aK) (d:aK) (hs':List aK):Prop
 |add:k=0->vv o 4 [.emp] yE xs hs d hs'->OH o k xs hs d hs'
 |del:k=9->vv o 2 [] Eg xs hs d hs'->OH o k xs hs d hs'
inductive OR (o:bj) (k:Nat) (xs hs:List aK) (d:aK):Prop
 |all:k=1->tH o 2 [] GP xs hs d->OR o k xs hs d
 |items:k=2->hs.all uD=true->tH o 1 [] CG xs hs d->OR o k xs hs d
inductive OL (o:bj) (f:Nat) (xs:List aK) (r:Ls) (d:aK) (r':Ls):Prop
 |a:f=0->vY o 0 [200,201] [0,1,2,3] none (MT.map SW.w) xs r d r'->OL o f xs r d r'
 |b:f=1->vY o 1 [200,201,202] [1,2,3] (some 2) (G8.map SW.w) xs r d r'->OL o f xs r d r'
 |c:f=2->vY o 2 [200,201] [0,1,2] none (GI.map SW.w) xs r d r'->OL o f xs r d r'
noncomputable def Oo:bj:={F:=λO O O=>False,H:=λO O O O O=>False,R:=λO O O O=>False,L:=λO O O O O=>False,b1:=λi=>gL.contains i,b3:=rC,gi:=λx i=>x= "_DIV_LIMIT" /\i=4000,gs:=λO O=>False}
noncomputable def aU:Nat->bj
 |0=>Oo
 |n+1=>{Oo with F:=OF<|aU n,H:=OH<|aU n,R:=OR<|aU n,L:=OL<|aU n}
theorem oG (n:Nat) {x:aG} (h:x= "_DIV_LIMIT" /\i=4000):(aU n).gi x i:=by induction n<;>exact h
theorem dj {n f k:Nat} (h:mB (aU n) k bs xs d) (e:GN.lookup f=aA (k,bs)):(aU<|n+1).F f xs d:=OF.mk e h
end B01
theorem dz (b:List SW) (k:Nat) (hs:Hs) (o:bj) (xs:List aK) (d:aK) (e:xs.length=k):ju (jK (bg k) (xs.map .val) []) λl=>sX (b.map SW.x) o hs l λv l O=>iY v d->mB o k b xs d:=mC<|(oW<|oF b).r (λq=>⟨e,[],q⟩) λO O O q=>q
theorem rE (b:List SW) (k:Nat) (P:List Nat) (hs:Hs) (o:bj) (xs:List aK) (d:aK) (e:xs.length=k):ju (jK (bg k) (xs.map .val)<|u9 P) λl=>sX (b.map SW.x) o hs l λv l O=>iY v d->mB o k b xs d:=mC<|(oW<|oF b).r (λq=>⟨e,P,q⟩) λO O O q=>q
theorem O9 (b:List SW) (k:Nat) (exs:List Sl) (hs:Hs) (o:bj) (xs H:List aK) (d:aK) (h:List aK) (e:(xs.map xS++exs).length+1=k):ju (jK (bg k) (.inst::(xs.map .val++exs))<|rH H) λl=>sX (b.map SW.x) o hs l λv l O=>HJ d h v l->vv o k exs b xs H d h:=mC<|(oW<|oF b).r (λq=>⟨e,q⟩) λO O O q=>q
theorem NB (b:List SW) (k:Nat) (exs:List Sl) (hs:Hs) (o:bj) (xs H:List aK) (d:aK) (e:(xs.map xS++exs).length+1=k):ju (jK (bg k) (.inst::(xs.map .val++exs))<|rR H) λl=>sX (b.map SW.x) o hs l λv l O=>iY v d->tH o k exs b xs H d:=mC<|(oW<|oF b).r (λq=>⟨e,q⟩) λO O O q=>q
theorem SQ {P:List α->Prop} (h:P []): ∀us,us.length=0->P us
 |[],_=>h
theorem kB {P:List α->Prop} (h: ∀u us,us.length=n->P (u::us)): ∀us,us.length=n+1->P us
 |u::us,e=>h u us<|zz e
theorem lF {P:List α->Prop} (h: ∀a,P [a]): ∀us,us.length=1->P us:=kB λa=>SQ<|h a
theorem i9 {P:List α->Prop} (h: ∀a b,P [a,b]): ∀us,us.length=2->P us:=kB λa=>lF<|h a
theorem yJ {P:List α->Prop} (h: ∀a b c,P [a,b,c]): ∀us,us.length=3->P us:=kB λa=>i9<|h a
theorem R2 {P:List α->Prop} (h: ∀a b c d e,P [a,b,c,d,e]): ∀us,us.length=5->P us:=kB λa=>kB λb=>yJ<|h a b
theorem Kr {P:List α->Prop} (h: ∀a b c d e f,P [a,b,c,d,e,f]): ∀us,us.length=6->P us:=kB λa=>R2<|h a
theorem E_ {P:List α->Prop} (h: ∀a b c d e f g i j,P [a,b,c,d,e,f,g,i,j]): ∀us,us.length=9->P us:=kB λa=>kB λb=>kB λc=>Kr<|h a b c
theorem QGy {P:List α->Prop} (H:P []) (h: ∀a b c d e f g i j,P [a,b,c,d,e,f,g,i,j]) {us:List α} (e:us=[]\/us.length=9):P us:=e.elim (λe=>e▸H)<|E_ h us
theorem Zg {P:Nat->Prop}: ∀k,k<0->P k:=λk h=>QHb h<|QJ k
theorem By {P:Nat->Prop} (h: ∀k,k<n->P k) (hn:P n): ∀k,k<n+1->P k:=λk K=>(Nat.lt_succ_iff_lt_or_eq.mp K).elim (h k) λe=>e▸hn
theorem Xj {P:Nat->Prop} (a:P 0) (b:P 1): ∀k,k<2->P k:=By (By Zg a) b
theorem O6 {P:Nat->Prop} (a:P 0) (b:P 1) (c:P 2): ∀k,k<3->P k:=By (Xj a b) c
theorem Mm {P:Nat->Prop} (a:P 0) (b:P 1) (c:P 2) (d:P 3): ∀k,k<4->P k:=By (O6 a b c) d
theorem l3e {c:Nat} {G:Prop} (h:c<3) (a:c=0->G) (b:c=1->G) (d:c=2->G):G:=O6 (P:=λk=>c=k->G) a b d c h rfl
theorem l4e {c:Nat} {G:Prop} (h:c<4) (a:c=0->G) (b:c=1->G) (d:c=2->G) (e:c=3->G):G:=Mm (P:=λk=>c=k->G) a b d e c h rfl
noncomputable abbrev vS:=(h:Type)->Ctx->bP->hO->ba h->Option (Except aI h×bP×hO)
noncomputable abbrev yL:=Ctx->bP->hO->Option (zq×hO)
noncomputable def Om (pr:sH) (P:bZ) (ev:vS) (l:yL):vS:=λα H p s m=>m.casesOn (motive:=λO=>Option<|Except aI α×bP×hO)
 (λa=>aA (.ok a,p,s))
 (λe=>aA (.error e,p,s))
 (λO=>aF)
 (λO=>aF)
 (λO k=>ev α H p s<|k ())
 (λQ k=>ev α H Q s<|k ())
 (λa O k=>cond (cP a s.n) ((s.tree.get a).bind λo=>(alive o).bind λo'=>ev α H p s<|k o') aF)
 (λa O f k=>cond (cP a s.n) ((s.tree.get a).bind λo=>(alive o).bind λO=>ev α H p {s with tree:=s.tree.set a f} (k ())) aF)
 (λo k=>cond ((s.tree.ins s.n o).get s.n).isSome (ev α H p {s with tree:=s.tree.ins s.n o,n:=s.n+1} (k s.n)) aF)
 (λa k=>cond (cP a s.n) ((s.tree.get a).bind λo=>ev α H p s<|k<|alive o)<|ev α H p s<|k aF)
 (λO k=>ev α H p s<|k ())
 (λO O=>aF)
 (λk=>ev α H p {s with toks:=s.toks+1} (k s.toks))
 (λk=>ev α H p s<|k ⟨pr,P⟩)
 (λO O O=>aF)
 (λO O O=>aF)
 (λc h O O k=>(l (H.enter c h p) p s).bind λq=>ev α H p q.2<|k q.1)
 (λown k=>ev α H p s<|k<|if own then H.own else H.handled)
 (λO O=>aF)
 (λO O=>aF)
 (λO O O O=>aF)
 (λO O O O=>aF)
 (λk=>ev α H p s<|k<|(H.code,p)::H.below)
 (λO O=>aF)
 (λk=>ev α H p s<|k 0)
 (λO O O O O=>aF)
noncomputable def Lm (den:Code->ba Fin) (i:vS) (l:yL):yL:=λh p s=>(i Fin h p s<|den h.code).bind λq=>match q.1 with
 |.ok (.done f)=>aA (.ok f,q.2.2)
 |.ok (.again c)=>cond c.quiet (l (h.goto c) q.2.1 q.2.2) aF
 |.error e=>aA (.error e,q.2.2)
noncomputable def Ff (den:Code->ba Fin) (pr:sH) (P:bZ) (n:Nat):vS×yL:=n.rec (λO O O O O=>aF,λO O O=>aF) λO r=>(Om pr P r.1 r.2,Lm den r.1 r.2)
noncomputable def gc (den:Code->ba Fin) (pr:sH) (P:bZ) (n:Nat):vS:=(Ff den pr P n).1
theorem vX {α:Type} {x:Option α} {r:α} (h:cond b x aF=aA r):b=aB/\x=aA r:=by induction b;exact ay h;exact ⟨rfl,h⟩
theorem yd {α β:Type} {x:Option α} {f:α->Option β} {r:β} (h:x.bind f=aA r): ∃a,x=aA a/\f a=aA r:=AE.mp h
noncomputable def Ed {α:Type} (Q:α->bP->aN->Prop) (E:aI->bP->aN->Prop) (x:Except aI α×bP×hO):Prop:=x.1.rec (λe=>E e x.2.1 x.2.2.abs) λa=>Q a x.2.1 x.2.2.abs
noncomputable def F8 (M:DB) (e:vS):Prop:= ∀(h:Type) (H:Ctx) (p:bP) (s:hO) (m:ba h) (x:Except aI h×bP×hO),e h H p s m=aA x-> ∀(Q:h->bP->aN->Prop) (E:aI->bP->aN->Prop),Ed Q E x->f6 M H m Q E p s.abs
noncomputable def BW (M:DB) (e:yL):Prop:= ∀(h:Ctx) (p:bP) (s:hO) (x:zq×hO),e h p s=aA x-> ∀R:zq->aN->Prop,R x.1 x.2.abs->wpCode M h R p s.abs
theorem QEK {s:hO} (g:s.tree.get a=aA o):({s with tree:=s.tree.set a f}).abs={s.abs with heap:=s.abs.heap.update a f}:=QHf (λh=>QFY h _ _ _ _)<|absHeap_set g
theorem g_ {s:hO} (g:((s.tree.ins s.n o).get s.n).isSome=aB):({s with tree:=s.tree.ins s.n o,n:=s.n+1}).abs={s.abs with heap:=s.abs.heap.push o}:=QHf (λh=>QFY h _ _ _ _)<|absHeap_ins g
section
theorem A8 {β:Type} {P:β->Prop} {a b:β} (h:aA a=aA b) (k:P b):P a:=kC h▸k
theorem PC {s:hO} {β:Type} {f:bH->Option β} {x:β} (h:cond (cP a s.n) ((s.tree.get a).bind λo=>(alive o).bind f) aF=aA x): ∃o o',s.tree.get a=aA o/\s.abs.heap.get? a=aA o'/\f o'=aA x:=(yd (vX h).2).elim λo g=>(yd g.2).elim λo' al=>⟨o,o',g.1,(IM (bJ (vX h).1) g.1).trans al.1,al.2⟩
theorem UH {s:hO} {α β:Type} {k:Option bH->ba α} {f:ba α->Option β} {x:β} {Q:α->bP->aN->Prop} {E:aI->bP->aN->Prop} (i: ∀k,f k=aA x->f6 ⟨den,pr,w⟩ Γ k Q E p s.abs) (h:cond (cP a s.n) ((s.tree.get a).bind λo=>f<|k<|alive o) (f<|k aF)=aA x):f6 ⟨den,pr,w⟩ Γ (k<|s.abs.heap.get? a) Q E p s.abs:=by
 by_cases b:a<s.n
 ·exact (yd<|(QHf (cond · _ _)<|sS b).symm.trans h).elim λo h=>(IM b h.1).symm▸i _ h.2
 ·exact (abs_get_none b).symm▸i _ ((QHf (cond · _ _)<|uQ.mpr λq=>b<|bJ q).symm.trans h)
theorem UY (i:F8 ⟨den,pr,w⟩ ev) (r:BW ⟨den,pr,w⟩ ec) {α:Type} {s:hO} {m:ba α} {x:Except aI α×bP×hO} {Q:α->bP->aN->Prop} {E:aI->bP->aN->Prop} (M:Ed Q E x):Om pr w.params ev ec α Γ p s m=aA x->f6 ⟨den,pr,w⟩ Γ m Q E p s.abs:=
 m.casesOn
  (λa h=>A8 (P:=Ed Q E) h M)
  (λe h=>A8 (P:=Ed Q E) h M)
  (λO h=>ay h)
  (λO h=>ay h)
  (λO O h=>i _ _ _ _ _ _ h _ _ M)
  (λO O h=>i _ _ _ _ _ _ h _ _ M)
  (λa q k h=>(PC h).elim λo h=>h.elim λo' h=>⟨o',h.2.1,i _ _ _ _ _ _ h.2.2 _ _ M⟩)
  (λa q f k h=>(PC h).elim λo h=>h.elim λo' h=>⟨QHf Option.isSome h.2.1,QEK h.1▸i _ _ _ _ _ _ h.2.2 _ _ M⟩)
  (λo k h=>(QL s.tree s.n s.life▸g_ (vX h).1▸i _ _ _ _ _ _ (vX h).2 _ _ M:f6 _ _ (k s.abs.heap.objs.size) _ _ _ _))
  (λa k h=>UH (λk h=>i _ _ _ _ _ _ h _ _ M) h)
  (λO O h=>i _ _ _ _ _ _ h _ _ M)
  (λO O h=>ay h)
  (λO h=>i _ _ _ _ _ _ h _ _ M)
  (λO h=>i _ _ _ _ _ _ h _ _ M)
  (λO O O h=>ay h)
  (λO O O h=>ay h)
  (λc hd g l k h=>(yd h).elim λx h=>r _ _ _ _ h.1 _<|i _ _ _ _ _ _ h.2 _ _ M)
  (λO O h=>i _ _ _ _ _ _ h _ _ M)
  (λO O h=>ay h)
  (λO O h=>ay h)
  (λO O O O h=>ay h)
  (λO O O O h=>ay h)
  (λO h=>i _ _ _ _ _ _ h _ _ M)
  (λO O h=>ay h)
  (λO h=>i _ _ _ _ _ _ h _ _ M)
  (λO O O O O h=>ay h)
theorem SD (d:F8 ⟨den,pr,w⟩ ev) (i:BW ⟨den,pr,w⟩ ec):BW ⟨den,pr,w⟩ (Lm den ev ec):=λH p s x h R r=>by
 rw[QFZ];refine (yd h).elim λy hb=>d _ _ _ _ _ _ hb.1 _ _ ?_;have K:=hb.2;clear hb h;induction y with|mk y z=>
 induction y with
 |error e=>exact (A8 (P:=λq:zq×hO=>R q.1 q.2.abs) K r)
 |ok f=>
  induction f with
  |done f=>exact (A8 (P:=λq:zq×hO=>R q.1 q.2.abs) K r)
  |again c=>exact ⟨(vX K).1,i _ _ _ _ (vX K).2 R r⟩
theorem L6 (n:Nat):F8 ⟨den,pr,w⟩ (Ff den pr w.params n).1/\BW ⟨den,pr,w⟩ (Ff den pr w.params n).2:=by
 induction n with
 |zero=>exact ⟨λO O O O O O h=>ay h,λO O O O h=>ay h⟩
 |succ n i=>exact ⟨λO O O O O O h O O q=>UY i.1 i.2 q h,SD i.1 i.2⟩
end
noncomputable def QAY:Obj:=⟨.none,aF,.freed, #[]⟩
noncomputable def iE (t:BT) (n:Nat) (cZ:List Nat) (a:Nat):Option Obj:=if cP a n then (if cZ.contains a then aF else (t.get a).bind alive) else aF
noncomputable def sv (t:BT) (n:Nat) (cZ:List Nat):Heap:=⟨((bg n).map λa=>(iE t n cZ a).getD QAY).toArray,{}⟩
theorem RT (h:alive o=aA o'):o'=o/\alive o'=aA o':=by obtain ⟨c,d,j,s⟩:=o;induction j<;>cases h<;>exact ⟨rfl,rfl⟩
theorem Ba {t n cZ a o} (h:iE t n cZ a=aA o):alive o=aA o/\t.get a=aA o/\a<n/\cZ.contains a=false:=by
 unfold iE at h
 split at h
 ·rename_i hn
  split at h
  ·exact ay h
  ·rename_i f
   refine aS (AE.mp h) λo' A i=>?_;have H:=(RT i);have m:=H.1;have Q:=H.2;clear h i H;subst m;exact (kq Q A (bJ hn)<|by simpa -iota using f)
 ·exact ay h
theorem tF (t:BT) (n:Nat) (cZ:List Nat) (a:Nat):(sv t n cZ).get? a=iE t n cZ a:=by
 delta wZ sv
 simp! only[zc,DI]
 by_cases h:a<n
 ·simp! only[QI h]
  simp! only[Option.map_some]
  induction hg:iE t n cZ a with
  |none=>rfl
  |some o=>have:=(Ba hg).1;obtain ⟨c,d,j,s⟩:=o;clear hg;induction j<;>first|rfl|(exact ay this)
 ·erw[DC (by simp! only[xB];exact jN ‹_›)]
  have:iE t n cZ a=none:=by delta iE;rw[if_neg];intro q;exact h (bJ q)
  simp! only[this]
  rfl
theorem J9 {cZ:List Nat} (h:(sv t n cZ).get? a=aA o):(pJ t n life).get? a=aA o:=by rw[tF] at h;have H:=(Ba h);have A:=H.1;have i:=H.2.1;have Q:=H.2.2.1;exact sb (IM Q i)<|sb A rfl
theorem YC {cZ:List Nat} (h:(sv t n cZ).get? a=aA o):cZ.contains a=false:=by rw[tF] at h;exact (Ba h).2.2.2
noncomputable def dF (o:bH):FuncData:=match o.data with|.func f=>f|_=>default
noncomputable def kW (o:bH):Array Value:=match o.data with|.fields v=>v|_=> #[]
noncomputable def rS (o:bH):Array DictEntry:=match o.data with|.dict e _=>e|_=> #[]
noncomputable abbrev ti (t:BT) (n:Nat) (cZ:List Nat) (a c tk:Nat) (o oc:bH) (body:List cq) (names:List (aG×dQ)):Prop:=(iE t n cZ a,o.data,(dF o).code,iE t n cZ c,oc.data,(kW oc)[1]?,(dF o).body,(dF o).scope.names,(dF o).scope.kind,(dF o).scope.isCoroutine,(dF o).scope.isGenerator,(dF o).closure,(dF o).globals,(dF o).builtins)=(aA o,.func<|dF o,.ref c,aA oc,.fields<|kW oc,aA<|.str (dF o).qualname tk,.stmts body,names,.function,aE,aE,[],nO,ic)
section
theorem Jp (h:ti t n cZ a c tk o oc body names) (C: ∀e q,cd=aA (e,q)->(dF o).code=.ref e/\(dF o).qualname++ ".<locals>." =q):Dr (sv t n cZ) (dF o) body names cd:=by
 unfold ti at h
 simp! only[sT] at h
 obtain ⟨e1,e2,p,z,x,u,b,nm,K,M,L,cl,g,B⟩:=h;exact ⟨(FJ c oc (kW oc) tk p ((tF ..).trans z) x u),b,nm,K,M,L,cl,g,B,C⟩
theorem xc (h:ti t n cZ a c tk o oc body names) (C: ∀e q,cd=aA (e,q)->(dF o).code=.ref e/\(dF o).qualname++ ".<locals>." =q)
 (bi: ∀us,us.length=ps.length->nQ (dF o) ⟨us,[]⟩=pure (ps.zip us)):qe (sv t n cZ) a body names cd ps []:=
 .mk ((tF ..).trans (QM h).1) (QM (QM h).2).1 (Jp h C) λus l M A E Q s O k=>by erw[bi us<|by simpa -iota using l];rw[eZ] at k;exact bA k
end
section
open PySem.Sre (M)
noncomputable def C3:Array Nat:= #[14,10,4,1,1,22,0,31,16,127,0,13,7,22,0,31,16,127,0,1]
noncomputable def C4:Array Nat:= #[14,14,4,1,1,9,4294966783,0,0,2147483648,0,0,0,0,0,13,11,9,4294966783,0,0,2147483648,0,0,0,0,0,1]
theorem QCu {seen:jR} (h:(decide (c<=31)||c==127)=false): ∃s,Sre.inSet C3 c C3.size 5 true seen=.ok (false,s):=by have e:Sre.inSet C3 c 20 5 true seen=if (decide (0<=c) && decide (c<=31))=true then .ok (true,seen.add 22) else if (c==127)=true then .ok (true,(seen.add 22).add 16) else .ok (false,((seen.add 22).add 16).add 0):=rfl;rw[Bool.or_eq_false_iff] at h;exact sb e<|sb (if_neg (by rw[h.1];simp))<|sb (if_neg (by rw[h.2];decide))<|⟨_,rfl⟩
theorem Rr:((bg 256).all λc=>(decide (c<=8)||(decide (10<=c) && decide (c<=31))||c==127)|| !((C4.getD (5+(1+c / 32)) 0).testBit<|c % 32))=true:=by decide+kernel
theorem SE {seen:jR} (h:(decide (c<=8)||(decide (10<=c) && decide (c<=31))||c==127)=false): ∃s,Sre.inSet C4 c C4.size 5 true seen=.ok (false,s):=by
 have e:AB C4 c 28 5 aB seen=if (decide (c<256) && (C4.getD (5+(1+c / 32)) 0).testBit (c % 32))=aB then .ok (aB,seen.add 9) else .ok (aE,(seen.add 9).add 0):=rfl;show∃s,AB C4 c 28 5 aB seen=_;rw[e,if_neg]
 ·exact ⟨_,rfl⟩
 ·intro q
  simp only[gn,decide_eq_true_eq] at q;have:=dq.mp Rr c<|sG.mpr q.1;simp only[h,q.2] at this;exact bq this
theorem QCq (hs: ∀c∈t.toList,∀seen,∃A,AB C c C.size 5 aB seen=.ok (aE,A)) (W:m.code=C) (a:m.text=t) (Q:l<=t.size) (hl:m.lim=l): ∀k s seen,∃A,AD m k s seen=.ok (aF,A):=by
 intro O;induction O with
 |zero=>exact λs seen=>⟨seen,rfl⟩
 |succ k i=>
  exact λs seen=>by
   dsimp only[AD];erw[hl];by_cases h:s>=l
   ·exact sb (QHd h)<|⟨_,rfl⟩
   ·refine sb (QHc h)<|sb W<|sb a ?_
    have F:t.getD s 0∈t.toList:=by
     have L:s<t.size:=(bD (qt h) Q);refine sb (IP)<|sb (Array.getElem?_eq_getElem L) ?_
     exact Array.getElem_mem_toList L
    exact aV (hs _ F seen) λA e=>sb e<|i (s+1) A
noncomputable def mA (b:Bool):Array Nat:=if b then C3 else C4
theorem WO (b:Bool) (t:Array Nat) (l:Nat) (L:l<=t.size) (h:gO b ⟨t⟩=aB):oQ 2 (kj (mA b) t 0 0 l aE) none:=by
 have A: ∀c∈t.toList,∀seen,∃s,AB (mA b) c (mA b).size 5 aB seen=.ok (aE,s):=λc C seen=>by
  have o:=Array.all_eq_true_iff_forall_mem.mp h c (by simpa using C);clear h;induction b with
  |true=>exact QCu<|(uZ _).mp o
  |false=>exact SE<|(uZ _).mp o
 by_cases H:0<l
 ·have e:kj (mA b) t 0 0 l aE=(match AD {code:=mA b,text:=t,lim:=l,start:=0,lastStart:=l,pc:=if b then 11 else 15,pos:=0,handed:=0,marks:= #[],seen:=({}:jR).add 14} (l+1 - 0) 0 (({}:jR).add 14) with
   |.ok (some p,seen)=>Sre.M.attemptAt {code:=mA b,text:=t,lim:=l,start:=0,lastStart:=l,pc:=if b then 11 else 15,pos:=0,handed:=0,marks:= #[],seen:=seen} p aB
   |.ok (none,seen)=>({code:=mA b,text:=t,lim:=l,start:=0,lastStart:=l,pc:=if b then 11 else 15,pos:=0,handed:=0,marks:= #[],seen:=seen,answer:=aA aE}:M)
   |.error W=>({code:=mA b,text:=t,lim:=l,start:=0,lastStart:=l,pc:=if b then 11 else 15,pos:=0,handed:=0,marks:= #[],seen:=({}:jR).add 14}:M).stick W):=by
   clear h A;induction b with
   |true=>refine (?_:(if 0>l||decide (l - 0<1) then _ else _)=_);erw[if_neg (by intro q;rw[Bool.or_eq_true,decide_eq_true_eq,decide_eq_true_eq] at q;exact (q.elim (λu=>(ky u)) λu=>(cY (na H<|nR<|sE ((by simp+arith):0<=l)) u)))];rfl
   |false=>refine (?_:(if 0>l||decide (l - 0<1) then _ else _)=_);erw[if_neg (by intro q;rw[Bool.or_eq_true,decide_eq_true_eq,decide_eq_true_eq] at q;exact (q.elim (λu=>(ky u)) λu=>(cY (na H<|nR<|sE ((by simp+arith):0<=l)) u)))];rfl
  exact sb e<|aV (QCq A rfl rfl L rfl (l+1 - 0) 0 (({}:Sre.Seen).add 14)) λs n=>sb n<|(ax _ ((Goes.step rfl rfl (Goes.refl _)).le<|by decide) rfl)
 ·have z:l=0:=by exact Nat.eq_zero_of_not_pos ‹_›
  have e:kj (mA b) t 0 0 l aE={code:=mA b,text:=t,lim:=l,start:=0,pc:=if b then 11 else 15,pos:=0,handed:=0,marks:= #[],seen:=({}:jR).add 14,answer:=aA aE}:=by
   clear h A;induction b with
   |true=>refine (?_:(if (decide (0>l)||decide (l - 0<1))=true then _ else _:M)=_);erw[if_pos (by rw[Bool.or_eq_true,decide_eq_true_eq,decide_eq_true_eq];(clear H;grind_order))];rfl
   |false=>refine (?_:(if (decide (0>l)||decide (l - 0<1))=true then _ else _:M)=_);rw[if_pos (by rw[Bool.or_eq_true,decide_eq_true_eq,decide_eq_true_eq];(clear H;omega))];rfl
  rw[e];exact (ax _ ((Goes.step rfl rfl (Goes.refl _)).le<|by decide) rfl)
end
section
open PySem.Sre (M)
open Builtin.Re
theorem O0:Pp "re.Pattern" :=⟨(ax ("object.__getattribute__") (by ac_nf)<|by decide+kernel),by ac_nf⟩
theorem PJ:Slot "re.Pattern" "search" "re.Pattern.search" :=
 .of (owner:= "re.Pattern") (n:= "search") (by ac_nf) (by decide+kernel) (by decide+kernel) (by decide+kernel)
  (by first|exact .inl (by decide+kernel)|exact .inr<|by decide+kernel) (by rw[isSubtype_type];lia)
theorem OV:Slot "re.Pattern" "sub" "re.Pattern.sub" :=
 .of (owner:= "re.Pattern") (n:= "sub") (by ac_nf) (by decide+kernel) (by decide+kernel) (by decide+kernel)
  (by first|exact .inl (by decide+kernel)|exact .inr<|by decide+kernel) (by rw[isSubtype_type];lia)
theorem Sj:Hy (.builtin "re.Pattern.search")=pure (.type "method_descriptor"):=by refine (?_);erw[QFa];lia
theorem QBx:Hy (.builtin "re.Pattern.sub")=pure (.type "method_descriptor"):=by refine (?_);erw[QFa];lia
theorem UB:QN DK "re.Pattern.search" =aA xE.«re.Pattern.search»:=QO (by lia)
theorem R1:QN DK "re.Pattern.sub" =aA xE.«re.Pattern.sub»:=QO (by lia)
theorem c_:QN DK "re.Pattern.sub.loop" =aA xE.«re.Pattern.sub.loop»:=QO (by lia)
theorem Lh:Manifest.owners.lookup (String.ofList ['n','r','e','t','t','a','P','.','e','r'].reverse)=aA Manifest.sig_re_Pattern:=by lia
theorem Ts (a b:aI):IQ "re.Pattern.search" ⟨[a,b],[]⟩:=by unfold IQ;erw[QFb (id:= "re.Pattern.search") (n:=['h','c','r','a','e','s']) (o:=['n','r','e','t','t','a','P','.','e','r']) (by lia) Lh];lia
theorem Rc (a b c:aI):IQ "re.Pattern.sub" ⟨[a,b,c],[]⟩:=by unfold IQ;erw[QFb (id:= "re.Pattern.sub") (n:=['b','u','s']) (o:=['n','r','e','t','t','a','P','.','e','r']) (by lia) Lh];lia
section
variable {A:cV} {s:aN} {E:aI->aN->Prop}
theorem ZD {c:Nat->Bool} {f:Nat->String}: ∀(l:List Nat) {s:aN} {Q:PUnit->aN->Prop},Q lQ s->aO (aY prog w) A (forIn l lQ λi (_:PUnit)=>(do
 if c i then rule (f i)
 pure (oz lQ):ba (ForInStep PUnit))) Q E s:=by
 intro l;induction l with
 |nil=>exact @λs Q h=>sb zj<|wpAny_pure h
 |cons i l d=>
  exact @λs Q h=>by
   rw[ud];refine aR ?_;induction hc:c i with
   |true=>exact sb (QHd rfl)<|wpAny_bind<|wpAny_rule<|wpAny_pure<|d h
   |false=>exact sb (QHc<|by decide)<|wpAny_pure<|d h
theorem NQ {r:Option (Nat×Nat)} (F:oQ b m r) (hb:b<=4*2^64) (h: ∀x,r.elim (x=aF) (λq=> ∃e,x=aA e/\e.start=q.1/\e.handed=q.2)->Q x s):aO (aY prog w) A (reRunToEnd m) Q E s:=by
 obtain ⟨e,g,o⟩:=F
 have z:e.outcome.isSome=true:=by
  induction r with
  |none=>erw[o];rfl
  |some p=>erw[o.1];rfl
 refine aR (s_ (2^64) b m e hb (by decide) z g ?_);refine aR<|ZD _ ?_;induction r with
 |none=>dsimp only at o;exact sb o<|wpAny_pure<|h _ rfl
 |some p=>dsimp only at o;exact sb o.1<|wpAny_pure<|h _<|gd e rfl o.2.1 o.2.2
inductive gG (h:bK) (p:aM) (C:Array Nat):Prop
 |mk (o:Obj) (ct:Addr) (oc:Obj) (vs cs:Array Value) (n:Nat):h.get? p=some o->o.cls=.type "re.Pattern" ->o.dict=none->o.data=.fields vs->vs.getD 5 .none=.ref ct->reRawNat (vs.getD 6 .none)=0->reRawNat (vs.getD 2 .none)=0->h.get? ct=some oc->oc.data=.seq cs n->(cs.map reRawOf).map (·.toNat)=C->gG h p C
theorem gG.keeps (x:gG h p C) (k: ∀b o,h.get? b=aA o->h'.get? b=aA o):gG h' p C:=by
 induction x with|mk o Y v m H n a b c d e f g i j r=>exact ⟨o,Y,v,m,H,n,k _ _ a,b,c,d,e,f,g,k _ _ i,j,r⟩
theorem gG.own {h:bK} {p:aM} {C:Array Nat} (x:gG h p C): ∃o,h.get? p=aA o/\o.cls=.type "re.Pattern" /\o.dict=none:=by
 induction x with|mk o Y v m H n a b c=>exact ⟨o,a,b,c⟩
theorem gG.ct {p ct:aM} {vs:Array aI} (x:gG h p C) (e1:h.get? p=aA o) (e2:o.data=.fields vs) (u:vs.getD 5 .none=.ref ct): ∃oc,h.get? ct=aA oc:=by
 induction x with
 |mk H P oc v W n a b c d e f g i=>
  cases bM a e1
  cases d.symm.trans e2
  cases e.symm.trans u
  exact ⟨oc,i⟩
theorem gG.but (P:gG h p C) (n:p≠L) (c: ∀ct vs o,h.get? p=aA o->o.data=.fields vs->vs.getD 5 .none=.ref ct->ct≠L) (K: ∀b o,b≠L->h.get? b=aA o->h'.get? b=aA o):
 gG h' p C/\ ∀ct vs o,h'.get? p=aA o->o.data=.fields vs->vs.getD 5 .none=.ref ct->ct≠L:=by
 induction P with
 |mk o ct U vs W N a b s d e f g i j r=>exact ⟨⟨o,ct,U,vs,W,N,K _ _ n a,b,s,d,e,f,g,K _ _ (c ct vs o a d e) i,j,r⟩,λz v H x Z u=>c z v H (bM (K _ _ n a) x▸a) Z u⟩
theorem gG.typeIs (x:gG s.heap p C):s.TypeIs (.ref p) "re.Pattern" :=dA x.own λo a b O=>⟨o,a,b⟩
theorem Ll (P:gG s.heap p C) (h:Q {pattern:=.ref p,string:=.str x t,code:=C,text:=x.cps,kind:=0,groups:=0,pos:=0,lim:=x.cps.size} s):
 aO (aY prog w) A (reWholeTarget (.ref p)<|.str x t) Q E s:=by
 obtain ⟨o,Y,v,m,c,n,a,b,_,d,e,f,g,i,j,k⟩:=P;refine aR<|QP a d ?_;refine aR<|qr rfl ?_;refine sb f<|wpAny_bind<|wpAny_of_eq rfl ?_;refine sb e<|wpAny_bind<|wpAny_bind<|wpAny_seqItems i j<|wpAny_pure ?_;exact wpAny_pure<|sb k<|sb g<|h
theorem QCh (P:gG s.heap p C) (h: ∀l,l<=x.cps.size->Q {pattern:=.ref p,string:=.str x t,code:=C,text:=x.cps,kind:=0,groups:=0,pos:=0,lim:=l} s):
 aO (aY prog w) A (reTarget "re.Pattern.search" "search" ⟨[.ref p,.str x t],[]⟩) Q E s:=by
 obtain ⟨o,Y,v,m,c,n,a,b,_,d,e,f,g,i,j,k⟩:=P;refine aR (qr (a:=[aA<|.str x t,aF,aF]) (by lia) ?_);refine aR<|bA<|aR<|bA ?_;refine aR<|QP a d ?_;refine aR<|qr (a:=(x.cps,0)) rfl ?_;refine sb f<|wpAny_bind<|wpAny_of_eq (a:=()) rfl ?_;refine sb e<|wpAny_bind<|wpAny_bind<|wpAny_seqItems i j<|wpAny_pure ?_;refine wpAny_pure<|sb g<|(?_:Q {pattern:=.ref p,string:=.str x t,code:=(c.map reRawOf).map (·.toNat),text:=x.cps,kind:=0,groups:=0,pos:=min (Int.toNat 0) x.cps.size,lim:=min (Int.toNat<|2^63 - 1) x.cps.size} s)
 simp! only[(Cs _:min (bN 0) x.cps.size=0),k]
 exact h _<|Cw _ _
theorem Sp (P:gG s.heap p (mA b)) (o:gO b x=aB) (h:Q .none s):aO (aY prog w) A (call (.builtin "re.Pattern.search") [.ref p,.str x t]) Q E s:=by refine IB PJ P.typeIs UB ?_<|Ts _ _;dsimp only[xE.«re.Pattern.search»];refine aR<|QCh P λl L=>?_;dsimp only[reAnswer];refine aR (NQ (WO b x.cps l L o) (by decide) λy Y=>?_);exact sb (Y:y=aF)<|wpAny_pure<|ax _ rfl h
end
end
section
open PySem.Sre (M)
open Builtin.Re
noncomputable def mh (l:List (aG×fG)) (n:Nat):Obj:={cls:=.type "list",data:=.seq (wd l).toArray n}
section
variable {A:cV} {s:aN} {E:aI->aN->Prop}
theorem Hf {y:aG} (B:s.heap.get? L=aA (mh l n)) (z:l.length<=1000000)
 (h: ∀h' n',h'.get? L=aA (mh (l++[(y,u)]) n')->(∀b o,b≠L->s.heap.get? b=aA o->h'.get? b=aA o)->Q () {s with heap:=h'}):aO (aY prog w) A (IS L (·.push (.str y u))) Q E s:=by
 have r:(wd l).toArray.size=l.length:=dY _;refine QFN B rfl (h _ (n+1) ?_ λb o N e=>((ID ..).2 b N).trans e) (by simp only[r,AG];exact az ‹_› (gA _ _)) (by simp only[QQ,r,AG];exact ig ‹_› (by decide));erw[wz _ B rfl];refine (?_:aA (Obj.mk (.type "list") aF (.seq ((wd l).toArray.push<|.str y u)<|if ((wd l).toArray.push<|.str y u).size==(wd l).toArray.size then n else n+1) #[])=_);refine sb (QHc (by rw[QQ];simp))<|sb (by simp[strValues]:(strValues l).toArray.push (.str y u)=(strValues<|l++[(y,u)]).toArray) ?_
 rfl
noncomputable def yl (p:aM) (x:aG) (t:fG) (C:Array Nat):ReTarget:={pattern:=.ref p,string:=.str x t,code:=C,text:=x.cps,kind:=0,groups:=0,pos:=0,lim:=x.cps.size}
noncomputable abbrev Kp (L:aM) (s:aN) (h':bK):Prop:= ∀b o,b≠L->s.heap.get? b=aA o->h'.get? b=aA o
noncomputable def Ay (p:aM) (x:aG) (t:fG) (rep:aG) (r:fG) (L:aM) (it e f:Int) (b:Bool):Code:=.builtin "re.Pattern.sub.loop" ⟨[.ref p,.str x t,.str rep r,o5 0,o5 0,o5 it,o5 e,o5 f,.bool b,.ref L,.bool aE],[]⟩
noncomputable def Gx (p:aM) (x:aG) (t:fG) (rep:aG) (r:fG) (L:aM) (it:Int) (m:M):ba nT:=IS L (·.push (.str rep r))>>=λO=>again<|Ay p x t rep r L (it+1) m.handed m.handed<|m.handed==m.start
noncomputable def HS (tt:ReTarget) (p:aM) (x:aG) (t:fG) (rep:aG) (r:fG) (L:aM) (it:Int) (d:Nat) (m:M):ba nT:=if d<m.start then reSlice tt.text tt.kind d m.start>>=λy=>IS L (·.push y)>>=λO=>Gx p x t rep r L it m else Gx p x t rep r L it m
noncomputable def HB (tt:ReTarget) (L:aM):ba nT:=reSlice tt.text tt.kind 0 0>>=λj=>QR (.ref L)>>=λy=>if (y.getD #[]).isEmpty then pure j>>=λt=>ret t else call (.builtin<|if tt.kind==0 then "str.join" else "bytes.join") [j,.ref L]>>=λt=>ret t
noncomputable def GS (tt:ReTarget) (L:aM) (d:Nat):ba nT:=if d<tt.lim then reSlice tt.text tt.kind d tt.lim>>=λy=>IS L (·.push y)>>=λO=>HB tt L else HB tt L
noncomputable def Rp (p:aM) (x:aG) (t:fG) (rep:aG) (r:fG) (L:aM) (it:Int) (d:Nat):ba nT:=reWholeTarget (.ref p) (.str x t)>>=λN=>reLiteralCannotBeTurned (.str rep r)>>=λO=>reNextFound N d aE>>=λo=>o.elim (GS N L d)<|HS N p x t rep r L it d
theorem Ew {x:aG} (M:x.cps.size<=1000000) (a b:Nat):(⟨x.cps.extract a b⟩:aG).length<=sizeLine:=by refine (?_:(x.cps.extract a b).size<=mL);rw[uU,AG];exact (bD (na (QFc (min b x.cps.size)<|a)<|Cw (b)<|x.cps.size) M)
section
variable {it:Int}
theorem JA (B:s.heap.get? L=aA (mh l n)) (z:l.length<=1000000)
 (h: ∀h' n',Kp L s h'->h'.get? L=aA (mh (l++[(rep,rt)]) n')->Qf (.again<|Ay p x t rep rt L (it+1) m.handed m.handed<|m.handed==m.start) {s with heap:=h'}):
 aO (aY prog w) A (Gx p x t rep rt L it m) Qf E' s:=
 aR (Hf B z λh' n' e k=>bA<|h h' n' k e)
theorem RS (M:x.cps.size<=1000000) (i:s.heap.get? L=aA (mh l n)) (z:l.length+1<=1000000)
 (h: ∀f n' h' tk,Kp L s h'->h'.get? L=aA (mh f n')->f.length<=l.length+2->f.map (·.1)=l.map (·.1)++((if d<m.start then [⟨x.cps.extract d m.start⟩] else [])++[rep])->Qf (.again<|Ay p x t rep rt L (it+1) m.handed m.handed<|m.handed==m.start) {s with heap:=h',toks:=tk}):
 aO (aY prog w) A (HS (yl p x t C) p x t rep rt L it d m) Qf E' s:=by
 unfold HS;by_cases B:d<m.start
 ·rw[if_pos B] at h⊢
  refine aR<|QS (x:=⟨x.cps.extract d m.start⟩) ?_<|Ew M d m.start;refine aR<|Hf (s:={s with toks:=s.toks+1}) i (H0 z) λq a u W=>?_;exact JA u (by rw[du];exact z) λH N K v=>h _ N H _ (λb o F e=>K b o F<|W b o F e) v (by simp) (by simp)
 ·rw[if_neg B] at h⊢
  exact JA i (H0 z) λH N K v=>h _ N H s.toks K v (by simp) (by simp)
theorem Mf (M:x.cps.size<=1000000) (B:s.heap.get? L=aA (mh l n)) (j:nU ⟨#[]⟩ (l.map (·.1))=aB)
 (h: ∀t' tk,Qf (.done<|.ret<|.str (qZ<|l.map (·.1)) t') {s with toks:=tk}):
 aO (aY prog w) A (HB (yl p x t C) L) Qf E' s:=by
 refine aR<|QS (x:=⟨x.cps.extract 0 0⟩) ?_<|Ew M 0 0;refine aR<|IG (s:={s with toks:=s.toks+1}) B rfl ?_;rw[(by simp:(⟨x.cps.extract 0 0⟩:aG)=⟨#[]⟩)];induction l with
 |nil=>exact aR<|bA<|bA<|h _ _
 |cons a r=>exact aR<|SC.join (l:=a::r) ⟨_,B,rfl,n,rfl⟩ rfl j λt' k=>bA<|h t' k
theorem SF (M:x.cps.size<=1000000) (B:s.heap.get? L=aA (mh l n)) (z:l.length+1<=1000000)
 (j:nU ⟨#[]⟩ (l.map (·.1)++(if d<x.cps.size then [⟨x.cps.extract d x.cps.size⟩] else []))=aB)
 (h: ∀h' t' tk,Kp L s h'->Qf (.done<|.ret<|.str (qZ<|l.map (·.1)++(if d<x.cps.size then [⟨x.cps.extract d x.cps.size⟩] else [])) t') {s with heap:=h',toks:=tk}):
 aO (aY prog w) A (GS (yl p x t C) L d) Qf E' s:=by
 unfold GS;by_cases R:d<x.cps.size
 ·rw[if_pos R] at h j
  rw[if_pos<|show d<(yl p x t C).lim from R];refine aR<|QS (x:=⟨x.cps.extract d x.cps.size⟩) ?_<|Ew M d x.cps.size;refine aR<|Hf (s:={s with toks:=s.toks+1}) B (H0 z) λH N u K=>?_;have e:(l++[((⟨x.cps.extract d x.cps.size⟩:aG),s.toks)]).map (·.1)=l.map (·.1)++[⟨x.cps.extract d x.cps.size⟩]:=gp;exact Mf M u (by rw[e];exact j) λt' tk=>by rw[e];exact h H t' tk K
 ·rw[if_neg R,eZ] at h j
  rw[if_neg<|show ¬ d<(yl p x t C).lim from R];exact Mf M B j λt' tk=>h s.heap t' tk λO O O e=>e
end
theorem XX {p L:aM} {x rep:aG} {t r:fG} {d:Nat}:xE.«re.Pattern.sub.loop» ⟨[.ref p,.str x t,.str rep r,o5 0,o5 0,o5 it,o5 (d:Int),o5 (d:Int),.bool aE,.ref L,.bool aE],[]⟩=Rp p x t rep r L it d:=by lia
theorem RQ {x rep:aG} {nx:Nat->Option (Nat×Nat)} (hb:b<=4*2^64) (z:x.cps.size<=1000000)
 (N: ∀d,d<=x.cps.size->oQ b (kj C x.cps 0 d x.cps.size aE) (nx d)) (B: ∀d a e,nx d=aA (a,e)->d<=a/\a<e/\e<=x.cps.size) (k:Nat):
 ∀(d:Nat) (it:Int) (l:List (aG×fG)) (n:Nat) (s:aN),x.cps.size<d+k->d<=x.cps.size->gG s.heap p C->p≠L->(∀ct vs o,s.heap.get? p=aA o->o.data=.fields vs->vs.getD 5 .none=.ref ct->ct≠L)->s.heap.get? L=aA (mh l n)->l.length+2*k<=1000000->
 nU ⟨#[]⟩ (l.map (·.1)++hH nx rep x.cps k d)=aB->
 (∀h' t' tk,Kp L s h'->Q (.str (qZ<|l.map (·.1)++hH nx rep x.cps k d) t') {s with heap:=h',toks:=tk})->
 uh (aY prog w) A (Ay p x t rep rt L it d d aE) (wants Q E) s:=by
 induction k with
 |zero=>exact λd it l n s q H O O O O O O O=>QHb q<|iH.mpr H
 |succ k ih=>
  intro d it l n s q H P R c i hz j h;refine QT c_ ?_;rw[XX];refine aR<|Ll P<|aR<|qr rfl (aR<|NQ (N d H) hb λy Y=>?_);have g:l.length+1<=1000000:=aQ hz
  induction hn:nx d with
  |some ae=>
   obtain ⟨a,e⟩:=ae;rw[hn] at Y;refine Exists.elim (Y: ∃m,y=aA m/\m.start=a/\m.handed=e) λm Y=>?_;have M:=B d a e hn;have U:hH nx rep x.cps (k+1) d=(if d<m.start then [⟨x.cps.extract d m.start⟩] else [])++[rep]++hH nx rep x.cps k e:=by rw[Y.2.1,ik];exact BY hn
   rw[U,<-ik] at j h;rw[Y.1];refine RS z i g λF n' h' tk K u f Z=>?_;rw[<-Z] at j h;refine ⟨Code.quiet_builtin _ (by decide+kernel),?_⟩;rw[Y.2.2,Y.2.1,show (e==a)=aE from beq_eq_false_iff_ne.mpr<|wV M.2.1];exact ih e (it+1) F n' {s with heap:=h',toks:=tk} (bD (na q M.1) M.2.1) M.2.2 (P.but R c K).1 R (P.but R c K).2 u (bD hz f) j λH v r W=>h H v r λb o nb e=>W b o nb<|K b o nb e
  |none=>rw[hn] at Y;have U:hH nx rep x.cps (k+1) d=if d<x.cps.size then [⟨x.cps.extract d x.cps.size⟩] else []:=Bx hn;rw[U] at j h;rw[show y=aF from Y];exact SF z i g j λh' t' tk k=>h h' t' tk k
end
end
section
open PySem.Sre (M)
open Builtin.Re
theorem Yv:QU (.type "str") "__call__" =pure none:=by rw[QV,QW];lia
section
variable {A:cV} {s:aN} {E:aI->aN->Prop}
theorem QBN {x rep:aG} {nx:Nat->Option (Nat×Nat)} (hb:b<=4*2^64) (M:x.cps.size<=400000) (r:rep.cps.contains 92=aE)
 (n: ∀d,d<=x.cps.size->oQ b (kj C x.cps 0 d x.cps.size aE) (nx d)) (g: ∀d a e,nx d=aA (a,e)->d<=a/\a<e/\e<=x.cps.size)
 (P:gG s.heap p C) (j:nU ⟨#[]⟩ (hH nx rep x.cps (x.cps.size+1) 0)=aB)
 (h: ∀h' t' tk,(∀b o,s.heap.get? b=aA o->h'.get? b=aA o)->Q (.str (qZ<|hH nx rep x.cps (x.cps.size+1) 0) t') {s with heap:=h',toks:=tk}):
 aO (aY prog w) A (call (.builtin "re.Pattern.sub") [.ref p,.str rep rt,.str x t]) Q E s:=by
 refine xA (codeAny_call_builtin_code (Code.quiet_builtin _<|by decide+kernel)<|OV.check _ _ _ _ _ _ _ _ P.typeIs (Rc _ _ _) ?_);refine QT R1 ?_;delta xE.«re.Pattern.sub» reSubstitute;refine aR (qr (a:=[aA<|.str rep rt,aA<|.str x t,aF]) (by lia) ?_);refine aR<|bA ?_;refine aR<|QEz (Ph _ _ _) Yv ?_
 try dsimp only
 refine aR<|qr (a:=aA rep) rfl ?_;refine aR<|bA ?_;refine sb (QHc<|by decide)<|sb r<|sb (if_pos<|by decide)<|wpAny_bind<|wpAny_pure ?_
 dsimp only;refine aR<|cO<|Ll P ?_;refine sb (QHc<|by decide)<|wpAny_bind<|wpAny_newList ?_
 have hn:s.heap.get? s.heap.objs.size=none:=ie<|bh _;have K: ∀b o,s.heap.get? b=aA o->(s.heap.push<|mh [] 0).get? b=aA o:=λO O e=>gS _ e;refine bA ⟨Code.quiet_builtin _ (by decide+kernel),?_⟩;refine RQ (s:={s with heap:=s.heap.push<|mh [] 0}) (nx:=nx) (L:=s.heap.objs.size) (C:=C) hb (az ‹_› (gA _ _)) n g (x.cps.size+1) 0 0 [] 0 (gA _ _) (hJ _) (P.keeps K) (λq=>dA P.own λO a O O=>cb (q▸hn) a) (λct vs o e1 e2 u q=>?_) (fH _ rfl) (by simp;exact bD M M) (by simpa using j) λh' t' tk f=>?_
 ·exact dA P.own λo' a O O=>aV (P.ct (bM (K _ _ a) e1▸a) e2 u) λO i=>cb (q▸hn) i
 ·exact h h' t' tk λb o e=>f b o (λq=>by rw[q,hn] at e;exact ay e)<|K b o e
end
end
section
theorem Ao (h:step den p w s t=.go F t') (n:Nat):sU den p w (n+1) s t=sU den p w n F t':=by refine (?_:(match step den p w s t with|.go F t'=>sU den p w n F t'|.halt o F=>.halted o F)=_);simp only[h]
theorem JJ (h:step den p w s t=.halt o F) (n:Nat):sU den p w (n+1) s t=.halted o F:=by refine (?_:(match step den p w s t with|.go F U=>sU den p w n F U|.halt o F=>.halted o F)=_);exact sb h rfl
theorem ZA (n:Nat): ∀s t,sU den p w n s t=.halted o i-> ∃k N g,sU den p w k s t=.running N g/\step den p w N g=.halt o i:=by
 induction n with
 |zero=>exact λs t h=>by cases (h:Run.running s t=.halted o i)
 |succ n d=>
  intro s t h;induction A:step den p w s t with
  |go F U=>exact oH (d F U<|(Ao A n).symm.trans h) λk N g a b=>(Js (k+1) N g ((Ao A k).trans a) b)
  |halt H F=>cases (JJ A n).symm.trans h;exact (Js 0 s t rfl A)
theorem QDk (k:Nat): ∀s t,s.asleep->(∀j n t',sU den p w j s t=.running n t'->t'.calm=aB)->sU den p w k s t=.running N g->
 DL den p w k (.single s t)=.running (.single N g):=by
 induction k with
 |zero=>exact λs t O O h=>by cases (h:Run.running s t=.running N g);rfl
 |succ k i=>
  intro s t z c h;induction A:step den p w s t with
  |halt o n=>cases (JJ A k).symm.trans h
  |go n t'=>
   have e:sstep den p w (.single s t)=.go (.single n t'):=by
    refine cp (sstep_single den p w s t (c 0 s t rfl) z) (λe=>?_) λe=>?_
    ·simp only[e,A]
     rfl
    ·rw[A] at e
     exact nomatch e
   have C:DL den p w (k+1) (.single s t)=DL den p w k (.single n t'):=by refine (?_:(match sstep den p w (.single s t) with|.go n=>DL den p w k n|.halt o n=>.halted o n)=_);exact sb e rfl
   exact C.trans<|i n t' (QX (step_life den p w s n t t' A) z) (λj a b q=>c (j+1) a b<|(Ao A j).trans q)<|(Ao A k).symm.trans h
theorem We (h:finish o s=.halt (.done f) t):o=.done f/\t=s:=by
 unfold finish at h
 split at h
 ·exact nomatch h
 ·cases h;exact ⟨rfl,rfl⟩
noncomputable def zQ (s:Step):Bool:=s.casesOn (motive:=λO=>Bool) (λO O=>aB) λo O=>o.casesOn (motive:=λO=>Bool) (λO=>aE) (λO=>aB) (λO=>aB) (λO=>aB) (λO=>aB) aB
theorem okd {st:Step} {q:Prop} (g:zQ st=aB) (h:st=.halt (.done f) s):q:=by rw[h] at g;exact bq g
theorem Cg {q:Prop} [Decidable q] {x y:Step} (M:zQ x=aB) (Y:zQ y=aB):zQ (ite q x y)=true:=by
 by_cases k:q
 ·exact sb (QHd k) M
 ·exact sb (QHc k) Y
noncomputable def Dh (den:Code->ba nT) (p:sH) (w:bz) (s:aN) (t:Thread) (c:ba nT):Prop:=(∀f n,step den p w s ⟨c,t.code,t.pos,t.stack⟩=.halt (.done f) n->False)\/(through ⟨c,t.code,t.pos,t.stack⟩=aB/\ ∃g,step den p w s ⟨c,t.code,t.pos,t.stack⟩=finish (.done g) s)
theorem fQ (h:zQ (step den p w s ⟨c,t.code,t.pos,t.stack⟩)=aB):Dh den p w s t c:=.inl λf n e=>okd h e
theorem Ah (h: ∀f n,step den p w s ⟨c,t.code,t.pos,t.stack⟩=.halt (.done f) n->False):Dh den p w s t c:=.inl h
theorem ra {s t f s'} (h:Step.go s t=.halt (.done f) s'):False:=nomatch h
theorem BD {a f s b} (h:Step.halt (.stuck a) b=.halt (.done f) s):False:=nomatch h
theorem e_ (s:aN) (t:Thread) (C:ba nT):Dh den p w s t C:=by
 refine C.casesOn
  (λx=>by
   induction x with
   |again c=>exact fQ<|ej aB
   |done g=>obtain ⟨c,m,P,o⟩:=t;induction o with
    |nil=>exact .inr ⟨rfl,g,rfl⟩
    |cons F r _=>induction F<;>exact fQ<|ej aB)
  (λe=>by
   obtain ⟨c,m,P,o⟩:=t;induction o with
   |nil=>exact fQ<|Cg (ej aB)<|ej aB
   |cons F r _=>induction F<;>exact fQ<|ej aB)
  (λO=>fQ<|ej aB)
  (λO=>fQ<|Cg (ej aB)<|ej aB)
  (λO O=>fQ<|ej aB)
  (λO O=>fQ<|ej aB)
  (λa q k=>Ah λf n h=>by delta step at h;dsimp only at h;revert h;generalize s.heap.get? a=z;induction z;exact BD;exact ra)
  (λO O O O=>fQ<|Cg (ej aB)<|ej aB)
  (λO O=>fQ<|ej aB)
  (λO O=>fQ<|ej aB)
  (λO O=>fQ<|ej aB)
  (λO O=>fQ<|ej aB)
  (λO=>fQ<|ej aB)
  (λO=>fQ<|ej aB)
  (λO O O=>fQ<|Cg (ej aB)<|ej aB)
  (λO O O=>fQ<|ej aB)
  (λO O O O O=>fQ<|ej aB)
  (λO O=>fQ<|ej aB)
  (λO O=>fQ<|ej aB)
  (λg k=>Ah λf n h=>by delta step at h;dsimp only at h;revert h;generalize s.gens[g]?=z;induction z;exact BD;exact ra)
  (λg r l k=>Ah λf n h=>by
   delta step at h;dsimp only at h;revert h;generalize s.gens[g]?=z;induction z with
   |none=>exact BD
   |some N=>induction N with
    |fresh c=>induction r with
     |send v=>induction v<;>exact ra
     |throw e=>exact ra
    |suspended _ _ _ _ _ _=>exact ra
    |running=>exact ra
    |finished=>exact ra)
  (λv g l k=>Ah λf n h=>by delta step at h;dsimp only at h;revert h;generalize splitAtGen t.stack=z;induction z;exact BD;exact ra)
  (λO=>fQ<|ej aB)
  (λO O=>fQ<|ej aB)
  (λO=>fQ<|ej aB)
  (λO O O O O=>fQ<|ej aB)
theorem QEN (h:step den p w s t=.halt (.done f) i):through t=aB/\i=s:=(e_ s t t.cur).elim (λg=>(g _ _ h).elim) λg=>⟨g.1,g.2.elim λx e=>(We<|e.symm.trans h).2⟩
end
noncomputable def uM {α β:Type}:List α->β->(α->β->ba (ForInStep β))->ba (ForInStep β)
 |[],b,_=>pure<|.yield b
 |x::xs,b,f=>f x b>>=λr=>match r with
  |.done B=>pure<|.done B
  |.yield B=>uM xs B f
theorem Nw {α β:Type} (f:α->β->ba (ForInStep β)) (l r:List α) (b:β):forIn (l++r) b f=(uM l b f>>=λx=>match x with|.done B=>pure B|.yield B=>forIn r B f):=by
 induction l generalizing b with
 |nil=>exact (pure_bind ..).symm
 |cons x R i=>
  simp! only[sV,ud]
  refine Eq.trans ?_ (bind_assoc ..).symm
  congr 1
  funext y;induction y with
  |done B=>exact (pure_bind ..).symm
  |yield B=>exact i B
theorem Gv {α:Type} (x:List α) (h:x.length=n+1): ∃g,x=(bg<|n+1).map g:=by
 induction x with
 |nil=>contradiction
 |cons a l=>exact ⟨λi=>(a::l).getD i a,List.ext_getElem (by simp! only[h,dY,xB]) λi H m=>by simp! only[List.getElem_map,List.getElem_range];exact List.getElem_eq_getD a⟩
noncomputable abbrev DS:=Option aM×List (ba aI×ba aI)
noncomputable def oN:{f:((Option (ba aI)×ba aI)->DS->ba (ForInStep DS))×(DS->ba aI) // ∀items,QY items=(forIn items ((aF,[])) f.1>>=f.2)}:=⟨⟨_,_⟩,λO=>rfl⟩
noncomputable def fC (l:List xF) (n:Nat):Obj:=⟨.type "dict",aF,.dict l.toArray n, #[]⟩
noncomputable def kT (k:Int):ba Value:=mkInt k
noncomputable def vT (p:bP) (x:fY):ba Value:=do let v<-mkText x;sO p;pure v
noncomputable def lg (p:bP) (l:List (Int×fY)):List (ba aI×ba aI):=l.map λK=>(kT K.1,vT p K.2)
noncomputable def jE (p:bP) (l:List (Int×fY)):List (Option (ba aI)×ba aI):=(lg p l).map λq=>(aA q.1,q.2)
noncomputable def lh (k:Int) (v:aI) (t:fG):DictEntry:=⟨hashInt k,.int k t,v⟩
noncomputable def QAL (ks:Int×fY) (e:xF):Prop:= ∃t u,e=lh ks.1 (.str ks.2 u) t
inductive zF:List (Int×fY)->List (aI×aI)->Prop
 |nil:zF [] []
 |cons {k x l vs} (t u:Tok):zF l vs->zF ((k,x)::l) ((.int k t,.str x u)::vs)
inductive dJ:List (Int×fY)->List xF->Prop
 |nil:dJ [] []
 |cons {ks e l es}:QAL ks e->dJ l es->dJ (ks::l) (e::es)
theorem dJ.app {l es l' es'} (h:dJ l es) (h':dJ l' es'):dJ (l++l') (es++es'):=by
 induction h with
 |nil=>exact h'
 |cons a _ i=>exact .cons a i
theorem dJ.len {l es} (h:dJ l es):es.length=l.length:=by
 induction h with
 |nil=>rfl
 |cons _ _ i=>simp -iota [i]
theorem dJ.at {l es} (h:dJ l es): ∀{i:Nat},i<es.length-> ∃ks,l[i]?=aA ks/\ ∃t u,es[i]?=aA (lh ks.1 (.str ks.2 u) t):=by
 induction h with
 |nil=>intro i d;contradiction
 |cons a _ z=>
  intro i d;induction i with
  |zero=>exact jY a λt u e=>sb e<|⟨_,rfl,t,u,rfl⟩
  |succ i=>exact z<|QFU d
theorem dJ.keys {l es} (h:dJ l es):IntKeys es.toArray:=by
 induction h with
 |nil=>intro e he;simp -iota at he
 |cons a _ i=>
  intro e he;refine jY a λt u B=>?_;clear a;subst B
  simp! only[List.mem_toArray,bp] at he i
  rcases he with rfl|he
  ·exact (et _ t rfl rfl)
  ·exact i e (by simpa -iota using he)
theorem dJ.none {l es} {k:Int} (h:dJ l es) (K: ∀ks∈l,ks.1≠k):es.toArray.findIdx? (λe=>mU k e.key)=none:=by
 rw[List.findIdx?_toArray,List.findIdx?_eq_none_iff];intro e F;induction h with
 |nil=>contradiction
 |cons a _ i=>
  refine jY a λt u B=>?_;clear a;subst B;rcases bp.mp F with rfl|F
  ·have:=K _ (.head _)
   exact QHc ‹_›
  ·exact i (λks h=>K ks<|.tail _ h) F
section
variable {prog:sH} {w:bz} {A:cV} {E:aI->aN->Prop} {s:aN}
structure fq (d:aM) (h h':bK):Prop where
 size:h'.objs.size=h.objs.size
 same: ∀b,b≠d->h'.objs[b]?=h.objs[b]?
 life:h'.life=h.life
theorem fq.refl (d h):fq d h h:=⟨rfl,λO O=>rfl,rfl⟩
theorem fq.trans {d h h' h''} (a:fq d h h') (b:fq d h' h''):fq d h h'':=⟨b.size.trans a.size,λc C=>(b.same c C).trans<|a.same c C,b.life.trans a.life⟩
theorem fq.upd (d:aM) (h:bK) (f:bH->bH):fq d h (h.update d f):=by obtain ⟨o,l⟩:=h;refine ⟨by simp[Heap.update],λb B=>?_,rfl⟩;erw[Array.getElem?_modify];exact sb (QHc<|lO B) rfl
theorem fq.get {d h h'} (a:fq d h h') (hb:b≠d):h'.get? b=h.get? b:=by unfold wZ;exact sb (a.same b hb) rfl
theorem ZI {k:Int} (hd:s.heap.get? d=aA (fC es n)) (K:IntKeys es.toArray)
 (hn:es.toArray.findIdx? (λe=>mU k e.key)=aF) (z:es.length<=mL)
 (h: ∀h',fq d s.heap h'->h'.get? d=aA (fC (es++[lh k v t])<|n+1)->Q () {s with heap:=h'}):aO (aY prog w) A (dictPut d (hashInt k) (.int k t) v) Q E s:=by
 refine aR<|QFd hd rfl K ?_;refine sb hn<|wpAny_updateDictKeys hd rfl (h _ (fq.upd ..) ?_)
 erw[wz _ hd rfl];refine (?_:aA (⟨.type "dict",aF,.dict (es.toArray.push<|lh k v t)<|n+1, #[]⟩:bH)=_);rw[QFe];rfl
theorem Kg {k:Int} (hd:s.heap.get? d=aA (fC es n)) (K:IntKeys es.toArray)
 (hn:es.toArray.findIdx? (λe=>mU k e.key)=aF) (z:es.length<=mL)
 (h: ∀h',fq d s.heap h'->h'.get? d=aA (fC (es++[lh k v t])<|n+1)->Q () {s with heap:=h',toks:=s.toks+1}):aO (aY prog w) A (dictSet d (.int k t) v) Q E s:=by
 refine cO<|aR<|wpAny_pyHash_int ?_;refine cO<|aR<|QFd hd rfl K ?_;refine sb hn<|wpAny_bind<|wpAny_rule<|wpAny_updateDictKeys hd rfl (h _ (fq.upd ..) ?_)
 erw[wz _ hd rfl];refine (?_:aA (⟨.type "dict",aF,.dict (es.toArray.push<|lh k v t)<|n+1, #[]⟩:bH)=_);rw[QFe];rfl
theorem OW {k:Int} (h:Q (.int k s.toks) {s with toks:=s.toks+1}):aO (aY prog w) A (kT k) Q E s:=λO O O=>h
theorem PW (h:Q (.str x s.toks) {s with toks:=s.toks+1}):aO (aY prog w) A (vT p x) Q E s:=λO O O=>h
theorem fill (l:List (Int×fY)): ∀(done:List (Int×fY)) (es:List xF) (s:aN) (Q:PUnit->aN->Prop),dJ done es->s.heap.get? d=aA (fC es es.length)->
 ((done++l).map (·.1)).Nodup->(done++l).length<=mL->
 (∀h' P,fq d s.heap h'->dJ (done++l) P->h'.get? d=aA (fC P P.length)->Q lQ {s with heap:=h',toks:=s.toks+3*l.length})->
 aO (aY prog w) A (forIn (lg p l) lQ λ(x:ba aI×ba aI) (_:PUnit)=>(do
  let Y<-x.1
  let v<-oy [Y] x.2
  oy [Y,v] (dictSet d Y v)
  pure (oz lQ):ba (ForInStep PUnit))) Q E s:=by
 induction l with
 |nil=>intro done es s Q he hd _ _ hQ;refine bA ?_;have:=hQ s.heap es (fq.refl ..) (by simpa -iota using he) hd;simpa -iota using this
 |cons j l i=>
  intro done es s Q he hd n z hQ;obtain ⟨k,x⟩:=j;refine (?_:aO _ _ (forIn (_::_) _ _) _ _ _)
  simp! only[ud]
  have f: ∀ks∈done,ks.1≠k:=by intro ks K e;rw[gp,xG] at n;exact n.2.2 ks.1 (ij.mpr<|ax ks K rfl) k (.head _) e
  refine aR<|aR<|OW<|aR<|cO<|PW<|aR<|cO ?_;refine Kg hd he.keys (he.none f) (by simp -iota at z;exact bD (nL (he.len:es.length=done.length)) z) λh' b g=>bA (i (done++[(k,x)]) (es++[lh k (.str x<|s.toks+1) s.toks]) _ _ (he.app<|.cons (l6 _ _ rfl) .nil) (by simpa -iota using g) (by simpa -iota using n) (by simpa -iota using z) λh t B F u=>?_);have:=hQ h t (b.trans B) (by simpa -iota using F) u;simpa -iota [(by simp+arith:s.toks+1+1+1+3*l.length=s.toks+3*(l.length+1))] using this
theorem Va {vs:List (aI×aI)} (v:zF l vs): ∀(n:List (Int×fY)) (es:List xF) (s:aN) (Q:PUnit->aN->Prop),dJ n es->s.heap.get? d=aA (fC es es.length)->
 ((n++l).map (·.1)).Nodup->(n++l).length<=mL->
 (∀h' P,fq d s.heap h'->dJ (n++l) P->h'.get? d=aA (fC P P.length)->Q lQ {s with heap:=h',toks:=s.toks+l.length})->
 aO (aY prog w) A (forIn vs lQ λ(x:aI×aI) (_:PUnit)=>(do dictSet d x.1 x.2;pure (oz lQ))) Q E s:=by
 induction v with
 |nil=>
  intro n es s Q F L _ _ q
  simp! only[zj]
  refine bA ?_;have:=q s.heap es (fq.refl ..) (by simpa -iota using F) L;simpa -iota using this
 | @cons k x l vs t u r i=>
  intro n es s Q F L N Z q
  simp! only[ud]
  have f: ∀Y∈n,Y.1≠k:=by
   intro Y K e
   simp! only[gp,xG] at N
   exact N.2.2 Y.1 (ij.mpr<|ax Y K rfl) k (.head _) e
  refine aR<|aR ?_;refine Kg L F.keys (F.none f) (by simp -iota at Z;exact bD (nL (F.len:es.length=n.length)) Z) λh' b g=>bA (i (n++[(k,x)]) (es++[lh k (.str x u) t]) _ _ (F.app<|.cons (l6 _ _ rfl) .nil) (by simpa -iota using g) (by simpa -iota using N) (by simpa -iota using Z) λh B z p o=>?_);have:=q h B (b.trans z) (by simpa -iota using p) o;have e:s.toks+1+l.length=s.toks+(l.length+1):=zt _ _ _
  simpa -iota [e] using this
theorem QAQ (l:List (Int×fY)): ∀(s:aN) (Q:List (aI×aI)->aN->Prop),
 (∀vs,zF l vs->Q vs {s with toks:=s.toks+2*l.length})->aO (aY prog w) A (evalPairs<|lg p l) Q E s:=by
 induction l with
 |nil=>exact λs Q h=>evalPairs_nil (by simpa -iota using h [] .nil)
 |cons K l i=>intro s Q h;obtain ⟨k,x⟩:=K;refine evalPairs_cons<|OW<|PW<|i _ _ λvs v=>?_;simpa -iota [(by simp+arith:s.toks+1+1+2*l.length=s.toks+2*(l.length+1))] using h _ (.cons _ _ v)
structure pZ (h h':bK):Prop where
 size:h'.objs.size=h.objs.size+1
 same: ∀b,b<h.objs.size->h'.objs[b]?=h.objs[b]?
 life:h'.life=h.life
theorem pZ.push (h:bK) (o:bH):pZ h (h.push o):=by obtain ⟨p,l⟩:=h;refine ⟨by simp[Heap.push],λb B=>?_,rfl⟩;erw[Array.getElem?_push];exact sb (QHc<|qo B) rfl
theorem pZ.but (g:pZ h h') (b:fq h.objs.size h' H):pZ h H:=⟨b.size.trans g.size,λc C=>(b.same c<|qo C).trans<|g.same c C,b.life.trans g.life⟩
theorem Jk (L:15<l.length) (z:l.length<=mL) (n:(l.map (·.1)).Nodup)
 (h: ∀h' es,pZ s.heap h'->dJ l es->h'.get? s.heap.objs.size=aA (fC es es.length)->Q s.heap.objs.size {s with heap:=h',toks:=s.toks+3*l.length}):
 aO (aY prog w) A (xH<|lg p l) Q E s:=by
 dsimp only[xH];refine aR<|H4<|aR<|cO ?_;refine sb (QHc (by simp -iota [lg];assumption))<|wpAny_bind<|wpAny_rule<|wpAny_bind ?_
 refine fill l [] [] _ _ .nil (fH _ rfl) (by simpa -iota using n) (by simpa -iota using z) λh' es b e g=>?_;exact bA (bA<|h h' es ((pZ.push ..).but b) (by simpa -iota using e) g)
theorem Vo (L:l.length<=15) (n:(l.map (·.1)).Nodup)
 (h: ∀h' es,pZ s.heap h'->dJ l es->h'.get? s.heap.objs.size=aA (fC es es.length)->Q s.heap.objs.size {s with heap:=h',toks:=s.toks+3*l.length}):
 aO (aY prog w) A (xH<|lg p l) Q E s:=by
 dsimp only[xH];refine aR<|H4<|aR<|cO ?_;refine sb (QHd (by simp -iota [lg];assumption))<|wpAny_bind<|QAQ l _ _ λm v=>cO<|aR ?_
 refine Va v [] [] _ _ .nil (fH _ rfl) (by simpa -iota using n) (by simp! only[AG];simp;exact az ‹_› (gA _ _)) λh' es b e g=>?_;refine bA<|bA ?_;have:=h h' es ((pZ.push ..).but b) (by simpa -iota using e) g;simpa -iota [(by simp+arith:s.toks+2*l.length+l.length=s.toks+3*l.length)] using this
theorem QEP {l L:List (Int×fY)} (n:((l++L).map (·.1)).Nodup) (K:L[x]?=aA ks): ∀q∈l++L.take x,q.1≠ks.1:=by
 intro q Q e;have u:L=L.take x++ks::L.drop (x+1):=by refine aV (zZ.mp K) λh e=>?_;rw[<-e,List.getElem_cons_drop h,sY]
 rw[u,<-ik,gp,xG] at n;exact n.2.2 q.1 (ij.mpr ⟨q,Q,rfl⟩) ks.1 (.head _) e
inductive BO (d:aM) (s:aN) (l l':List (Int×fY)) (es':List xF) (rest:List Nat) (s':aN):Prop
 |mk (h':Heap) (i:Nat) (es'':List DictEntry):rest=List.range' i (es'.length - i)->i<=es'.length->s'={s with heap:=h'}->fq d s.heap h'->dJ (l++l'.take i) es''->h'.get? d=some (fC es'' es''.length)->BO d s l l' es' rest s'
theorem Ni {es e:List xF} (C:a≠d) (U:(a==Cz)=aE) (hd:s.heap.get? d=aA (fC es es.length)) (K:s.heap.get? a=aA (fC e e.length))
 (he:dJ l es) (p:dJ f e) (n:l≠[]) (N:((l++f).map (·.1)).Nodup) (hz:(l++f).length<=mL)
 (h: ∀h' B,fq d s.heap h'->dJ (l++f) B->h'.get? d=aA (fC B B.length)->Q () {s with heap:=h'}):
 aO (aY prog w) A (IT d (.ref a) aE) Q E s:=by
 dsimp only[IT];have z:s.TypeIs (.ref a) "dict" :=(ax _ K rfl);refine aR<|wpAny_isInstance z isSubtype_dict_dict ?_;refine sb (QHd rfl)<|wpAny_bind<|wpAny_specialOf z F.slot_dict_iter.lookup ?_
 refine (?_:aO (aY prog w) A (if (a==Cz)=aB then _ else _) Q E s);erw[if_neg λq=>bq<|U.symm.trans q];have g:es≠[]:=by intro q;clear C U hd K p z;subst q;clear N hz h;cases he;exact n rfl
 have r: ¬ es.toArray.isEmpty=true:=by simp[g]
 refine aR<|QFf hd rfl ?_;refine sb (QHc r)<|wpAny_bind<|wpAny_dictEntries K rfl (wpAny_bind<|wpAny_dictEpoch K rfl ?_)
 refine aR<|wpAny_forIn_list _ (λrest O s'=>BO d s l f e rest s') _ ?_ ?_ _ _ ?_
 ·clear U hd he n h z g r
  rintro x rest _ _ ⟨h',i,B,R,j,rfl,hb,b,Y⟩
  have L:i<e.length:=by
   refine cp (QZ i e.length) (λq=>?_) λq=>?_
   ·exact q
   ·rw[xI q] at R
    clear q;contradiction
  rw[show e.length - i=(e.length - (i+1))+1 by exact (rF (sE (L:i+1<=e.length)).symm<|sE ((aQ L):i<=e.length)),QFV] at R;refine bI (List.cons.inj R) λm c=>?_;subst m;subst c;refine aR<|QFf ((hb.get C).trans K:h'.get? a=aA (fC e e.length)) rfl ?_;refine aS (p.at L) λks Z W=>jY W λt u o=>sb (by simpa -iota using o:e.toArray[x]?=aA (lh ks.1 (.str ks.2 u) t))<|wpAny_bind (wpAny_holding<|ZI Y b.keys (b.none<|QEP N Z) (by rw[(by (erw[b.len];erw[List.length_append];erw[List.length_take];exact sb (Nat.min_eq_left (by rw[<-p.len];assumption)) rfl):B.length=l.length+x)];simp -iota at hz;exact bD (by rw[<-p.len];exact L:x<f.length) hz) λH P v=>?_)
  have M:fq d s.heap H:=hb.trans P;refine aR (wpAny_dictEpoch ((M.get C).trans K) rfl ?_)
  simp! only[QHk,wy,if_false]
  refine bA (BO.mk H (x+1) (B++[lh ks.1 (.str ks.2 u) t]) rfl L rfl M ?_ (by simpa -iota [lh] using v));rw[(by rw[List.take_add_one,Z];rfl:f.take (x+1)=f.take x++[ks]),<-ik];exact b.app<|.cons (l6 _ _ rfl) .nil
 ·clear C U hd K he n N hz z g r
  rintro _ _ ⟨h',i,B,R,j,rfl,hb,b,Y⟩
  have:i=e.length:=by have:=QHf Qa R;simp -iota at this;exact (rF (sE (j:i<=e.length)) this)
  clear R j;subst this;rw[p.len,List.take_length] at b;exact bA<|h h' B hb b Y
 ·exact BO.mk s.heap 0 es (by simp -iota [QFW]) (hJ _) rfl (fq.refl ..) (by simpa -iota using he) hd
noncomputable def again:ForInStep DS->ba (ForInStep DS):=λr=>match r with
 |.done b=>pure<|.done b
 |.yield b=>uM [] b oN.1.1
theorem QBW (x:List (ba aI×ba aI)) (h:x.length=17):
 uM (x.map λq=>(aA q.1,q.2)) ((aF,[])) oN.1.1=(((xH x>>=λd=>pure<|aA d)>>=λm=>pure<|.yield<|(m,[]))>>=again):=by
 refine aV (Gv x h) λg e=>?_;subst e;lia
theorem Wb (d:aM) (x:List (ba aI×ba aI)) (h:x.length=17):
 uM (x.map λq=>(aA q.1,q.2)) ((aA d,[])) oN.1.1=(((oy [.ref d] (xH x)>>=λa=>((oy [.ref d,.ref a]<|IT d (.ref a) aE).onRaise λx=>oy [.ref d,x] (Qb<|.builtin "proto.let_go" {})>>=λO=>pure ())>>=λO=>pure<|aA d)>>=λm=>pure<|.yield<|(m,[]))>>=again):=by
 refine aV (Gv x h) λg e=>sb e ?_;lia
theorem QDT (d:aM) (x:List (ba aI×ba aI)) (h:x.length=4):
 (forIn (x.map λq=>(aA q.1,q.2)) ((aA d,[])) oN.1.1>>=oN.1.2)=((oy [.ref d] (xH x)>>=λa=>((oy [.ref d,.ref a]<|IT d (.ref a) aE).onRaise λx=>oy [.ref d,x] (Qb<|.builtin "proto.let_go" {})>>=λO=>pure ())>>=λO=>pure<|aA d)>>=λm=>match m with
  |some d=>pure<|.ref d
  |none=>newDict):=by
 refine aV (Gv x h) λg e=>sb e ?_;lia
structure wB (h0 h:bK) (m:Nat) (l:List (Int×fY)):Prop where
 size:h.objs.size=h0.objs.size+1+m
 same: ∀b,b<h0.objs.size->h.objs[b]?=h0.objs[b]?
 life:h.life=h0.life
 tab: ∃es,dJ l es/\h.get? h0.objs.size=aA (fC es es.length)
theorem RX (hd:d=h0.objs.size) (q:1<h0.objs.size) (G:wB h0 s.heap m n) (hl:l.length=17) (W:n≠[])
 (N:((n++l).map (·.1)).Nodup) (z:(n++l).length<=mL) (h: ∀h',wB h0 h' (m+1) (n++l)->Q (.yield (aA d,[])) {s with heap:=h',toks:=s.toks+51}):
 aO (aY prog w) A (uM (jE p l) ((aA d,[])) oN.1.1) Q E s:=by
 subst hd;refine sb (Wb _ _<|by simp -iota [lg,hl])<|aS G.tab λes M u=>?_
 have a:(l.map (·.1)).Nodup:=by simp! only[gp,xG] at N;exact N.2.1
 refine aR (aR<|aR<|cO<|Jk (aQ<|nR hl) (by simp! only[AG];exact aQ<|nL hl) a λH F g i Z=>?_);have L:h0.objs.size<s.heap.objs.size:=by simp! only[G.size];exact mO _ _
 have C:H.get? h0.objs.size=aA (fC es es.length):=by
  simp! only[<-u]
  unfold wZ
  simp! only[g.same _ L]
 refine aR<|QFg<|cO<|Ni (wV L) (beq_eq_false_iff_ne.mpr<|wV<|sF ‹_› ‹_›) C Z M i W N z λx f B e Y=>?_;refine bA<|bA<|bA ?_;refine sb hl<|h x ⟨?_,λb hb=>?_,?_,f,e,Y⟩
 ·simp! only[B.size,g.size,G.size]
  exact wX _ _ _
 ·simp! only[B.same b<|qo hb,g.same b<|sF hb L,G.same b hb]
 ·simp! only[B.life,g.life,G.life]
theorem Zm (hl:l.length=17) (n:(l.map (·.1)).Nodup)
 (h: ∀h',wB s.heap h' 0 l->Q (.yield (aA s.heap.objs.size,[])) {s with heap:=h',toks:=s.toks+51}):
 aO (aY prog w) A (uM (jE p l) ((aF,[])) oN.1.1) Q E s:=by
 refine sb (QBW _<|by simp -iota [lg,hl])<|wpAny_bind (wpAny_bind<|wpAny_bind<|Jk (aQ<|nR hl) (by erw[sizeLine_eq];exact aQ<|nL hl) n λH e g L Z=>?_)
 refine bA<|bA<|bA ?_;exact sb hl<|h H ⟨g.size,g.same,g.life,e,L,Z⟩
theorem Yq (hd:d=h0.objs.size) (q:1<h0.objs.size) (n:Nat): ∀(l done:List (Int×fY)) (m:Nat) (s:aN),l.length=17*n+4->wB h0 s.heap m done->done≠[]->
 ((done++l).map (·.1)).Nodup->(done++l).length<=mL->
 (∀h',wB h0 h' (m+n+1) (done++l)->Q (.ref d) {s with heap:=h',toks:=s.toks+51*n+12})->
 aO (aY prog w) A (forIn (jE p l) ((aA d,[])) oN.1.1>>=oN.1.2) Q E s:=by
 induction n with
 |zero=>
  intro l done m s hl G L N R h;subst hd;delta jE;refine sb (QDT _ _<|by simp -iota [lg,hl])<|aS G.tab λes he a=>aR (aR<|cO<|Vo (aQ<|nL hl) (by simp! only[gp,xG] at N;exact N.2.1:(l.map (·.1)).Nodup) λH F g i Z=>?_)
  have K:h0.objs.size<s.heap.objs.size:=by simp! only[G.size];exact mO _ _
  have C:H.get? h0.objs.size=aA (fC es es.length):=by
   simp! only[<-a]
   delta wZ
   simp! only[g.same _ K]
  refine aR<|QFg<|cO<|Ni (wV K) (beq_eq_false_iff_ne.mpr<|wV<|sF ‹_› ‹_›) C Z he i L N R λx f B Y z=>?_;refine bA<|bA ?_;refine sb hl<|h x ⟨?_,λb hb=>?_,?_,f,Y,z⟩
  ·simp! only[B.size,g.size,G.size]
   exact wX _ _ _
  ·simp! only[B.same b<|qo hb,g.same b<|sF hb K,G.same b hb]
  ·simp! only[B.life,g.life,G.life]
 |succ n c=>
  intro l done m s hl G L N R h
  have e:jE p l=jE p (l.take 17)++jE p (l.drop 17):=by
   delta jE lg
   simp! only[<-gp,<-gp,sY]
  simp! only[e,Nw,bind_assoc]
  have W:done++l=(done++l.take 17)++l.drop 17:=by simp! only[ik,sY]
  have j:((done++l.take 17).map (·.1)).Nodup:=by rw[W,gp,xG] at N;exact N.1
  refine aR (RX hd q G (by simp! only[DM];exact (fz<|(aQ<|nR hl))) L j (by have:=QHf Qa W;simp -iota at this R⊢;(clear hl;exact (bD R<|Cw (17)<|l.length))) λh' o=>?_);refine c (l.drop 17) (done++l.take 17) (m+1) _ (by simp! only[IU];exact (rF hl<|sE ((aQ<|nR hl):17<=l.length))) o (by simp -iota [L]) (W▸N) (W▸R) λu v=>?_;have:=h u (by simp! only[W,show m+(n+1)+1=m+1+n+1 by exact zt _ _ _];exact v);simpa -iota [(by simp+arith:s.toks+51+51*n+12=s.toks+51*(n+1)+12)] using this
theorem TQ (i:1<s.heap.objs.size) (hl:l.length=17*(n+1)+4) (N:(l.map (·.1)).Nodup) (z:l.length<=mL)
 (h: ∀h',wB s.heap h' (n+1) l->Q (.ref s.heap.objs.size) {s with heap:=h',toks:=s.toks+51*(n+1)+12}):
 aO (aY prog w) A (QY<|jE p l) Q E s:=by
 rw[oN.2]
 have e:jE p l=jE p (l.take 17)++jE p (l.drop 17):=by
  delta jE lg
  simp! only[<-gp,<-gp,sY]
 simp! only[e,Nw,bind_assoc]
 have Y:((l.take 17).map (·.1)).Nodup:=by rw[<-sY 17 l,gp,xG] at N;exact N.1
 refine aR (Zm (by erw[DM];exact (fz<|(aQ<|nR hl))) Y λh' o=>?_);refine Yq rfl i n (l.drop 17) (l.take 17) 0 _ (by erw[IU];exact (rF hl<|sE ((aQ<|nR hl):17<=l.length))) o (by intro q;have:=QHf Qa q;rw[DM,um] at this;exact (cY (nR<|fz ((aQ<|nR hl):17<=l.length))<|nL this)) (by rw[sY];exact N) (by rw[sY];exact z) λH g=>?_
 simp! only[sY,uk] at g
 have:=h H g;simpa -iota [(by simp+arith:s.toks+51+51*n+12=s.toks+51*(n+1)+12)] using this
end
namespace B01
noncomputable abbrev en (P:bZ) (x:fY) (t:Nat) (v:aI):DictEntry:=⟨PyData.keyHash P x,.str x t,v⟩
noncomputable def iA (x:String):fY:=.ofString x
noncomputable def bY (x:String) (t:Nat):Value:=.str (iA x) t
noncomputable def qb (l:List String):Nat->List Value:=l.rec (λO=>[]) λx O f t=>bY x t::f (t+1)
noncomputable def ry (l:List Int):Nat->List Value:=l.rec (λO=>[]) λx O f t=>.int x t::f (t+1)
noncomputable def pT (l:List Int):List Value:=l.map (.int · 0)
noncomputable def bsH (l:List String):Nat->List (String×Nat×aI):=l.rec (λO=>[]) λx O f t=>(x,t,.builtin x)::f (t+1)
noncomputable def Mq (l:List String):Nat->List (String×Nat×aI):=l.rec (λO=>[]) λx O f t=>(x,t,.type x)::f (t+1)
noncomputable def vb (c:Int) (l:List (Int×Nat)):List Value:=l.rec [] λp O f=>.int p.1 0:: .int c 0:: .ref p.2::f
noncomputable def qW (P:bZ) (l:List (String×Nat×aI)) (n:Nat):Obj:=⟨.type "dict",aF,.dict (l.map λp=>en P (iA p.1) p.2.1 p.2.2).toArray n, #[]⟩
noncomputable def v7:Obj:=⟨.type "dict",aF,.dict #[] 0, #[]⟩
noncomputable def fU (l:List aI):Obj:=⟨.type "tuple",aF,.seq l.toArray 0, #[]⟩
noncomputable def kR:Obj:=⟨.type "tuple",aF,.seq #[] 0, #[]⟩
noncomputable def rA (l:List aI):Obj:=⟨.type "list",aF,.seq l.toArray 0, #[]⟩
noncomputable def vM (l:List aI):Obj:=⟨.none,aF,.fields l.toArray, #[]⟩
noncomputable def oA:Obj:=⟨.none,aF,.fields #[], #[]⟩
noncomputable def fu (c:String) (l:List aI):Obj:=⟨.type c,aF,.fields l.toArray, #[]⟩
noncomputable def PL (n q:String) (s:cq) (g:Nat) (d m c:aI):FuncData:={name:=iA n,qualname:=iA q,params:=KG s,body:=.stmts<|fJ s,scope:=cI s,globals:=g,closure:=[],defaults:=d,kwdefaults:=.none,doc:=.none,pyModule:=m,annotations:=aF,code:=c,closureTuple:=.none,builtins:=0}
noncomputable def vU (n q:String) (s:cq):Obj:=⟨.none,aF,.func<|PL n q s 0 .none .none .none, #[]⟩
noncomputable def v9 (n q:String) (s:cq) (d m:aI) (c:Nat):Obj:=⟨.type "function",aF,.func<|PL n q s 3 d m<|.ref c, #[]⟩
noncomputable def vq (n q:String) (t:Nat) (l a b c d:Int) (r1 r2:Nat) (L v:aI) (r:Nat) (e:Int) (u:Nat):Obj:=fu "code" [bY n t,bY q<|t+1,bY "/claim/cut.py"<|t+2,.int l 0,.int a 0,.int b 0,.int c 0,.int d 0,.ref r1,.bool aB,.int 276 0,.ref r2,.none,L,v,.ref r,.int e 0,.int l 0,bY "/claim/cut.py" u]
noncomputable def g3H:List (String×Nat×aI):=[("__doc__",166,.none),("__package__",167,.none),("__loader__",168,.builtin "__main__.__loader__#opaque"),("__spec__",169,.none),("__annotations__",170,.ref 6),("__builtins__",171,.ref 4),("__file__",173,bY "/claim/cut.py" 172),("__cached__",174,.none),("_sre",275,.ref 12),("_wall",288,.ref 38),("compute_powers",310,.ref 46),("_str_to_int_inner",321,.ref 53),("int_from_string",328,.ref 60),("_DIV_LIMIT",330,.int 4000 329),("_div2n1n",347,.ref 67),("_div3n2n",361,.ref 74),("_int2digits",372,.ref 81),("_digits2int",383,.ref 88),("_divmod_pos",398,.ref 95),("int_divmod",408,.ref 102),("_twin_re_1",426,.ref 107),("_twin_re_2",468,.ref 112),("CRLF",470,bY "\r\n" 469),("quotedata",477,.ref 119),("b1_set",539,.ref 127),("in_table_b1",546,.ref 137),("b3_exceptions",2497,.ref 138),("map_table_b3",2505,.ref 183),("tspecials",2541,.ref 188),("_name_disallowed_re",2567,.ref 193),("_value_disallowed_re",2601,.ref 198),("_formatparam",2611,.ref 206),("Headers",2768,.ref 327),("_law_cells",2776,.ref 336),("_law_letter",2785,.ref 343),("_law_hidden",2793,.ref 350),("_law_stay",2801,.ref 357),("_law_prepared",2807,.ref 362),("_law_corners",2815,.ref 369),("_law_book",2821,.ref 374),("_law_divided",2831,.ref 381),("_law_counts",2837,.ref 386),("_law_bare",2843,.ref 391),("_law_found",2849,.ref 396),("_law_common",2857,.ref 403),("_law_multiples",2863,.ref 408),("law",2869,.ref 413)]
noncomputable def qz (P:bZ) (n:aI) (k e:Nat):Obj:=qW P (("__name__",165,n)::g3H.take k) e
noncomputable def xb:List (Int×Nat):=[(2,37),(6,45),(47,52),(57,59),(61,66),(77,73),(87,80),(103,87),(112,94),(123,101),(138,118),(142,136),(145,182),(154,205),(163,212),(246,335),(248,342),(251,349),(254,356),(257,361),(259,368),(264,373),(285,380),(290,385),(312,390),(325,395),(355,402),(359,407),(376,412)]
noncomputable def QAr {α:Type} (d:α) (l:List α):Nat->α:=l.rec (λO=>d) λo O f i=>i.rec o λj O=>f j
noncomputable def VC:Value:=bY "__main__" 164
noncomputable def vO:Value:=bY "cpy313._pylong" 289
noncomputable def To:Value:=bY "cpy313.smtplib" 409
noncomputable def Nl:Value:=bY "cpy313.stringprep" 478
noncomputable def jD:Value:=bY "cpy313.wsgiref.headers" 2506
noncomputable def kK:Value:=bY "law_wf0123_02" 2769
noncomputable def jA (n q:String) (s:cq) (i t:Nat) (l a f:Int) (ns:List String) (v M:aI):List Obj:=kR::oA::ns.rec [vU n q s,vq n q t l a 0 0 f i (i+1) .none .none (i+2) (t+3:Nat)<|t+4,v9 n q s v M<|i+3] λO O O=>[fU<|qb ns<|t+3,kR,vU n q s,vq n q t l a 0 0 f i (i+1) (.ref<|i+2) (.ref<|i+3) (i+4) (t+3+ns.length:Nat)<|t+4+ns.length,v9 n q s v M<|i+5]
noncomputable def fL (n:String):=jA n n
noncomputable def XW (P:bZ):List (Nat×List bH):=[(32,[qW P ([("__name__",1,bY "builtins" 160),("__doc__",2,.builtin "builtins.__doc__:str#opaque"),("__package__",3,.builtin "builtins.__package__:str#opaque"),("__loader__",4,.builtin "builtins.__loader__:shared#opaque"),("__spec__",5,.builtin "builtins.__spec__#opaque")]++bsH ["__build_class__","__import__","abs","all","any","ascii","bin","breakpoint","callable","chr","compile","delattr","dir","divmod","eval","exec","format","getattr","globals","hasattr","hash","hex","id","input","isinstance","issubclass","iter","aiter","len","locals","max","min","next","anext","oct","ord","pow","print","repr","round","setattr","sorted","sum","vars"] 6++[("None",50,.none),("Ellipsis",51,.ellipsis),("NotImplemented",52,.notImplemented),("False",53,.bool aE),("True",54,.bool aB)]++Mq ["bool","memoryview","bytearray","bytes","classmethod","complex","dict","enumerate","filter","float","frozenset","property","int","list","map","object","range","reversed","set","slice","staticmethod","str","super","tuple","type","zip"] 55++[("__debug__",81,.bool aB)]++Mq ["BaseException","BaseExceptionGroup","Exception","GeneratorExit","KeyboardInterrupt","SystemExit","ArithmeticError","AssertionError","AttributeError","BufferError","EOFError","ImportError","LookupError","MemoryError","NameError","OSError","ReferenceError","RuntimeError","StopAsyncIteration","StopIteration","SyntaxError","SystemError","TypeError","ValueError","Warning","FloatingPointError","OverflowError","ZeroDivisionError","BytesWarning","DeprecationWarning","EncodingWarning","FutureWarning","ImportWarning","PendingDeprecationWarning","ResourceWarning","RuntimeWarning","SyntaxWarning","UnicodeWarning","UserWarning","BlockingIOError","ChildProcessError","ConnectionError","FileExistsError","FileNotFoundError","InterruptedError","IsADirectoryError","NotADirectoryError","PermissionError","ProcessLookupError","TimeoutError","IndentationError","_IncompleteInputError","IndexError","KeyError","ModuleNotFoundError","NotImplementedError","PythonFinalizationError","RecursionError","UnboundLocalError","UnicodeError","BrokenPipeError","ConnectionAbortedError","ConnectionRefusedError","ConnectionResetError","TabError","UnicodeDecodeError","UnicodeEncodeError","UnicodeTranslateError","ExceptionGroup"] 82++[("EnvironmentError",151,.type "OSError"),("IOError",152,.type "OSError"),("open",153,.builtin "open"),("quit",154,.builtin "builtins.quit#opaque"),("exit",155,.builtin "builtins.exit#opaque"),("copyright",156,.builtin "builtins.copyright#opaque"),("credits",157,.builtin "builtins.credits#opaque"),("license",158,.builtin "builtins.license#opaque"),("help",159,.builtin "builtins.help#opaque")]) 159,qW P [("builtins",162,.ref 4),("__main__",163,.ref 5),("_sre",244,.ref 12)] 3,⟨.none,aF,(.dict #[en P (iA "\x69mport.loaded._sre") 183<|.bool aB,en P (iA "class._frozen_importlib.BuiltinImporter") 185<|.ref 14,en P (iA "watched.\x69mport") 206<|.ref 18,en P (iA "class._frozen_importlib.ModuleSpec") 216<|.ref 22,en P (iA "sys.modules.booked-epoch") 245<|.int 3 0,en P (iA "\x69mport.later-laid._sre") 270<|.bool aB,en P (iA "watched.library") 272<|.ref 27,en P (iA "watched.library-objects") 0<|bY "\x0c" 0,en P (iA "watched.library-deep._sre") 273<|bY "\x04\x00\x00\x0b\x04\x00\x00\x0b\x04\x00\x00\x03\x04\x00\x00\x0b\x08\x04dict\x02" 0] 9), #[]⟩,qz P (bY "__main__" 164) 9 10,⟨(.type "module"),(aA 0),.plain, #[]⟩,⟨(.type "module"),(aA 3),.plain, #[]⟩,v7,kR,oA,fu "code"<|qb ["<module>","<module>","/claim/cut.py"] 176++pT [1,0,0,0,0]++[.ref 7,.bool aE,.int 175 0,.ref 8,.none,.none,.none,.none,.int 179 0,.int 1 0,bY "/claim/cut.py" 180],⟨(.type "frame"),aF,.plain, #[aA<|.ref 9,aA<|.ref 3,aA<|.ref 3,aF,aA<|bY "__main__" 164,aF,aA<|.ref 0]⟩,qW P [("__name__",247,bY "_sre" 246),("__doc__",248,.none),("__package__",250,bY "" 249),("__loader__",251,.builtin "off-the-table:_sre.__loader__:shared#opaque"),("__spec__",252,.builtin "off-the-table:_sre.__spec__:shared#opaque"),("compile",253,.builtin "_sre.compile"),("template",254,.builtin "off-the-table:_sre.template:shared#opaque"),("getcodesize",255,.builtin "off-the-table:_sre.getcodesize:shared#opaque"),("ascii_iscased",256,.builtin "off-the-table:_sre.ascii_iscased:shared#opaque"),("unicode_iscased",257,.builtin "off-the-table:_sre.unicode_iscased:shared#opaque"),("ascii_tolower",258,.builtin "off-the-table:_sre.ascii_tolower:shared#opaque"),("unicode_tolower",259,.builtin "off-the-table:_sre.unicode_tolower:shared#opaque"),("MAGIC",261,.int 20230612 260),("CODESIZE",263,.int 4 262),("MAXREPEAT",265,.int 4294967295 264),("MAXGROUPS",267,.int 1073741823 266),("copyright",269,bY " SRE 2.2.2 Copyright (c) 1997-2002 by Secret Labs AB " 268)] 17,⟨(.type "module"),(aA 11),.plain, #[]⟩,qW P [("__module__",189,bY "_frozen_importlib" 186),("__firstlineno__",190,.int 971 187),("__doc__",191,.builtin "_frozen_importlib.BuiltinImporter.__doc__:str#opaque"),("_ORIGIN",192,bY "built-in" 188),("find_spec",193,.builtin "_frozen_importlib.BuiltinImporter.find_spec#opaque"),("create_module",194,.builtin "_frozen_importlib.BuiltinImporter.create_module#opaque"),("exec_module",195,.builtin "_frozen_importlib.BuiltinImporter.exec_module#opaque"),("get_code",196,.builtin "_frozen_importlib.BuiltinImporter.get_code#opaque"),("get_source",197,.builtin "_frozen_importlib.BuiltinImporter.get_source#opaque"),("is_package",198,.builtin "_frozen_importlib.BuiltinImporter.is_package#opaque"),("load_module",199,.builtin "_frozen_importlib.BuiltinImporter.load_module#opaque"),("__static_attributes__",200,.ref 15),("__dict__",202,.ref 16),("__weakref__",204,.ref 17)] 14,⟨(.type "type"),aF,(.cls {name:=(iA "BuiltinImporter"),bases:=[(.type "object")],mro:=[(.ref 14),(.type "object")],ns:=13,qualname:=(iA "BuiltinImporter"),hasDict:=aB,slotNames:=[],subclasses:=[],abstract:=aE,collection:=aF,hasDel:=aE}), #[]⟩,kR,fu "getset_descriptor" [bY "__dict__" 201,.ref 14,.builtin "function.__dict__",.builtin "function.__dict__#set"],fu "getset_descriptor" [bY "__weakref__" 203,.ref 14,.builtin "ExceptionGroup.__weakref__",.none],⟨.none,aF,(.seq #[(.int 13 0),(bY "\x06\xbd\n__module__\x06\xba\x11_frozen_importlib\x06\xbe\x0f__firstlineno__\x04\xbb\x00ϋ\x06\xbf\x07__doc__\t4_frozen_importlib.BuiltinImporter.__doc__:str#opaque\x06\xc0\x07_ORIGIN\x06\xbc\x08built-in\x06\xc1\tfind_spec\t2_frozen_importlib.BuiltinImporter.find_spec#opaque\x06\xc2\rcreate_module\t6_frozen_importlib.BuiltinImporter.create_module#opaque\x06\xc3\x0bexec_module\t4_frozen_importlib.BuiltinImporter.exec_module#opaque\x06\xc4\x08get_code\t1_frozen_importlib.BuiltinImporter.get_code#opaque\x06\xc5\nget_source\t3_frozen_importlib.BuiltinImporter.get_source#opaque\x06\xc6\nis_package\t3_frozen_importlib.BuiltinImporter.is_package#opaque\x06\xc7\x0bload_module\t4_frozen_importlib.BuiltinImporter.load_module#opaque\x06\xc8\x15__static_attributes__\x04\x00\x00\x0f\x06\xca\x08__dict__\x04\x00\x00\x10\x06\xcc\x0b__weakref__\x04\x00\x00\x11" 0),(.bool aB),(.bool aB),(bY "" 205),(.int 21 0),(bY "\x06\xe3\n__module__\x06\xd9\x11_frozen_importlib\x06\xe4\x0f__firstlineno__\x04\xda\x00Ȳ\x06\xe5\x07__doc__\t/_frozen_importlib.ModuleSpec.__doc__:str#opaque\x06\xe6\x08__init__\t,_frozen_importlib.ModuleSpec.__init__#opaque\x06\xe7\x08__repr__\t,_frozen_importlib.ModuleSpec.__repr__#opaque\x06\xe8\x06__eq__\t*_frozen_importlib.ModuleSpec.__eq__#opaque\x06\xe9\x06cached\t*_frozen_importlib.ModuleSpec.cached#opaque\x06\xea\x06parent\t*_frozen_importlib.ModuleSpec.parent#opaque\x06\xeb\x0chas_location\t0_frozen_importlib.ModuleSpec.has_location#opaque\x06\xec\x15__static_attributes__\x04\x00\x00\x17\x06\xee\x08__dict__\x04\x00\x00\x18\x06\xf0\x0b__weakref__\x04\x00\x00\x19\x06\xf1\x08__hash__\x00" 0),(.bool aB),(.bool aB),(bY "" 242)] 1), #[]⟩,rA [],qW P [("name",208,bY "_sre" 207),("loader",209,.ref 14),("origin",210,bY "built-in" 184),("loader_state",211,.none),("submodule_search_locations",212,.none),("_uninitialized_submodules",213,.ref 19),("_set_fileattr",214,.bool aE),("_cached",215,.none),("_initializing",243,.bool aE)] 9,qW P [("__module__",227,bY "_frozen_importlib" 217),("__firstlineno__",228,.int 562 218),("__doc__",229,.builtin "_frozen_importlib.ModuleSpec.__doc__:str#opaque"),("__init__",230,.builtin "_frozen_importlib.ModuleSpec.__init__#opaque"),("__repr__",231,.builtin "_frozen_importlib.ModuleSpec.__repr__#opaque"),("__eq__",232,.builtin "_frozen_importlib.ModuleSpec.__eq__#opaque"),("cached",233,.builtin "_frozen_importlib.ModuleSpec.cached#opaque"),("parent",234,.builtin "_frozen_importlib.ModuleSpec.parent#opaque"),("has_location",235,.builtin "_frozen_importlib.ModuleSpec.has_location#opaque"),("__static_attributes__",236,.ref 23),("__dict__",238,.ref 24),("__weakref__",240,.ref 25),("__hash__",241,.none)] 13,⟨(.type "type"),aF,(.cls {name:=(iA "ModuleSpec"),bases:=[(.type "object")],mro:=[(.ref 22),(.type "object")],ns:=21,qualname:=(iA "ModuleSpec"),hasDict:=aB,slotNames:=[],subclasses:=[],abstract:=aE,collection:=aF,hasDel:=aE}), #[]⟩,fU<|qb ["_cached","_set_fileattr","_uninitialized_submodules","loader","loader_state","name","origin","submodule_search_locations"] 219,fu "getset_descriptor" [bY "__dict__" 237,.ref 22,.builtin "function.__dict__",.builtin "function.__dict__#set"],fu "getset_descriptor" [bY "__weakref__" 239,.ref 22,.builtin "ExceptionGroup.__weakref__",.none],⟨(.ref 22),(aA 20),.plain, #[]⟩,⟨.none,aF,(.seq #[(.int 11 0),(.str ⟨#[6,247,8,95,95,110,97,109,101,95,95,6,246,4,95,115,114,101,6,248,7,95,95,100,111,99,95,95,0,6,250,11,95,95,112,97,99,107,97,103,101,95,95,6,249,0,6,251,10,95,95,108,111,97,100,101,114,95,95,4,0,0,14,6,252,8,95,95,115,112,101,99,95,95,4,0,0,26,6,253,7,99,111,109,112,105,108,101,9,12,95,115,114,101,46,99,111,109,112,105,108,101,6,254,8,116,101,109,112,108,97,116,101,9,13,95,115,114,101,46,116,101,109,112,108,97,116,101,6,255,11,103,101,116,99,111,100,101,115,105,122,101,9,16,95,115,114,101,46,103,101,116,99,111,100,101,115,105,122,101,6,256,13,97,115,99,105,105,95,105,115,99,97,115,101,100,9,18,95,115,114,101,46,97,115,99,105,105,95,105,115,99,97,115,101,100,6,257,15,117,110,105,99,111,100,101,95,105,115,99,97,115,101,100,9,20,95,115,114,101,46,117,110,105,99,111,100,101,95,105,115,99,97,115,101,100,6,258,13,97,115,99,105,105,95,116,111,108,111,119,101,114,9,18,95,115,114,101,46,97,115,99,105,105,95,116,111,108,111,119,101,114,6,259,15,117,110,105,99,111,100,101,95,116,111,108,111,119,101,114,9,20,95,115,114,101,46,117,110,105,99,111,100,101,95,116,111,108,111,119,101,114,6,261,5,77,65,71,73,67,4,260,0,20230612,6,263,8,67,79,68,69,83,73,90,69,4,262,0,4,6,265,9,77,65,88,82,69,80,69,65,84,4,264,0,4294967295,6,267,9,77,65,88,71,82,79,85,80,83,4,266,0,1073741823,6,269,9,99,111,112,121,114,105,103,104,116,6,268,53,32,83,82,69,32,50,46,50,46,50,32,67,111,112,121,114,105,103,104,116,32,40,99,41,32,49,57,57,55,45,50,48,48,50,32,98,121,32,83,101,99,114,101,116,32,76,97,98,115,32,65,66,32]⟩ 0),(.bool aB),(.bool aE),(bY "_sre" 271)] 0), #[]⟩,kR,oA,fu "code"<|qb ["<module>","<module>","/claim/cut.py"] 277++pT [1,0,0,0,0]++[.ref 28,.bool aE,.int 276 0,.ref 29,.none,.none,.none,.none,.int 280 0,.int 1 0,bY "/claim/cut.py" 281],⟨(.type "frame"),aF,.plain, #[aA<|.ref 30,aA<|.ref 3,aA<|.ref 3,aF,aA<|bY "__main__" 164,aF,aA<|.ref 0]⟩]),
(39,fL "_wall" (bO 1) 32 282 2 1 3 ["k"] .none VC),
(40,[fU [.bool aE]]),
(47,fL "compute_powers" (bO 3) 40 291 6 4 3 ["w","base","more_than","show","seen","need","ws","lo","d","it","first","this","hi","sq"] (.ref 39) vO),
(54,[kR,oA,fU [bY "s" 314],fU<|qb ["s","DIGLIM","inner","w5pow"] 315,vU "_str_to_int_inner" "_str_to_int_inner"<|bO 4,vq "_str_to_int_inner" "_str_to_int_inner" 311 47 1 0 0 3 47 48 (.ref 49) (.ref 50) 51 319 320,v9 "_str_to_int_inner" "_str_to_int_inner" (bO 4) .none (bY "cpy313._pylong" 289) 52]),
(61,fL "int_from_string" (bO 5) 54 322 57 1 3 ["s"] .none vO),
(68,fL "_div2n1n" (bO 7) 61 331 61 3 3 ["a","b","n","pad","half_n","mask","b1","b2","q1","r","q2"] .none vO),
(75,fL "_div3n2n" (bO 8) 68 348 77 6 3 ["a12","a3","b","b1","b2","n","q","r"] .none vO),
(89,[kR,oA,fU [bY "a" 365,bY "n" 366],fU<|qb ["n","a_digits","inner"] 367,vU "_int2digits" "_int2digits"<|bO 9,vq "_int2digits" "_int2digits" 362 87 2 0 0 3 75 76 (.ref 77) (.ref 78) 79 370 371,v9 "_int2digits" "_int2digits" (bO 9) .none (bY "cpy313._pylong" 289) 80,kR,oA,fU [bY "digits" 376,bY "n" 377],fU<|qb ["digits","n","inner"] 378,vU "_digits2int" "_digits2int"<|bO 10,vq "_digits2int" "_digits2int" 373 103 2 0 0 3 82 83 (.ref 84) (.ref 85) 86 381 382,v9 "_digits2int" "_digits2int" (bO 10) .none (bY "cpy313._pylong" 289) 87]),
(96,fL "_divmod_pos" (bO 11) 89 384 112 2 3 ["a","b","n","a_digits","r","q_digits","a_digit","q_digit","q"] .none vO),
(103,fL "int_divmod" (bO 12) 96 399 123 2 3 ["a","b","q","r"] .none vO),
(113,[rA<|ry [14,4,0,1,1,6,1,16,46,1] 414,v7,fU [.none],fU<|pT [14,4,0,1,1,6,1,16,46,1],fu "re.Pattern" [bY "(?m)^\\." 412,.int 40 425,.int 0 0,.none,.none,.ref 106,.int 0 0],rA<|ry [14,9,4,1,2,16,10,16,13,0,7,7,16,13,16,10,15,18,5,16,10,15,13,11,16,13,5,5,0,16,10,1,15,2,0,1] 430,v7,fU [.none],fU<|pT [14,9,4,1,2,16,10,16,13,0,7,7,16,13,16,10,15,18,5,16,10,15,13,11,16,13,5,5,0,16,10,1,15,2,0,1],fu "re.Pattern" [bY "(?:\\r\\n|\\n|\\r(?!\\n))" 428,.int 32 467,.int 0 0,.none,.none,.ref 111,.int 0 0]]),
(120,fL "quotedata" (bO 17) 113 471 138 1 3 ["data"] .none To),
(131,[rA<|ry [173,847,6150,6155,6156,6157,8203,8204,8205,8288,65279] 480,fu "range" [.int 65024 491,.int 65040 492,.int 1 493],⟨(.type "list"),aF,(.seq #[(.int 65024 496),(.int 65025 497),(.int 65026 498),(.int 65027 499),(.int 65028 500),(.int 65029 501),(.int 65030 502),(.int 65031 503),(.int 65032 504),(.int 65033 505),(.int 65034 506),(.int 65035 507),(.int 65036 508),(.int 65037 509),(.int 65038 510),(.int 65039 511)] 18), #[]⟩,fu "range_iterator"<|pT [65040,0,1],kR,fu "StopIteration" [.ref 124,.none,.none,.none,.bool aE,.none],rA<|ry [173,847,6150,6155,6156,6157,8203,8204,8205,8288,65279] 480++ry [65024,65025,65026,65027,65028,65029,65030,65031,65032,65033,65034,65035,65036,65037,65038,65039] 496,⟨(.type "set"),aF,(.set ([(65024,496),(65025,497),(65026,498),(65027,499),(65028,500),(65029,501),(6150,482),(65030,502),(65031,503),(65032,504),(65033,505),(6155,483),(6156,484),(6157,485),(8203,486),(8204,487),(8205,488),(65034,506),(65035,507),(65036,508),(65037,509),(65038,510),(65039,511),(173,480),(847,481),(8288,489),(65279,490)].map λp:Nat×Nat=>((p.1:Int),Qc p.1 p.2)).toArray 29 {mask:=127,place:= #[0,1,2,3,4,5,6,7,8,9,10,11,12,13,14,15,16,17,18,19,20,21,22,45,79,96,127],dummies:= #[],finger:=0,led:= !(P.followText "set-order"),moves:=2,plain:=aB}), #[]⟩,fu "list_iterator" [.none,.int 27 0],kR,fu "StopIteration" [.ref 129,.none,.none,.none,.bool aE,.none]]),
(138,fL "in_table_b1" (bO 20) 131 540 142 1 3 ["code"] .none Nl),
(177,(bg 39).map λO=>oA),
(184,fL "map_table_b3" (bO 22) 177 2498 145 1 3 ["code","r"] .none Nl),
(200,[rA<|ry [14,14,4,1,1,9,0,4227896069,939524097,0,0,0,0,0,0,13,11,9,0,4227896069,939524097,0,0,0,0,0,0,1] 2511,v7,fU [.none],fU<|pT [14,14,4,1,1,9,0,4227896069,939524097,0,0,0,0,0,0,13,11,9,0,4227896069,939524097,0,0,0,0,0,0,1],fu "re.Pattern" [bY "[ \\(\\)<>@,;:\\\\\"/\\[\\]\\?=]" 2509,.int 32 2540,.int 0 0,.none,.none,.ref 187,.int 0 0],rA<|ry [14,10,4,1,1,22,0,31,16,127,0,13,7,22,0,31,16,127,0,1] 2545,v7,fU [.none],fU<|pT [14,10,4,1,1,22,0,31,16,127,0,13,7,22,0,31,16,127,0,1],fu "re.Pattern" [bY "[\\x00-\\x1F\\x7F]" 2543,.int 32 2566,.int 0 0,.none,.none,.ref 192,.int 0 0],rA<|ry [14,14,4,1,1,9,4294966783,0,0,2147483648,0,0,0,0,0,13,11,9,4294966783,0,0,2147483648,0,0,0,0,0,1] 2571,v7,fU [.none],fU<|pT [14,14,4,1,1,9,4294966783,0,0,2147483648,0,0,0,0,0,13,11,9,4294966783,0,0,2147483648,0,0,0,0,0,1],fu "re.Pattern" [bY "[\\x00-\\x08\\x0A-\\x1F\\x7F]" 2569,.int 32 2600,.int 0 0,.none,.none,.ref 197,.int 0 0],fU [.none,.int 1 2602]]),
(207,fL "_formatparam" (bO 27) 200 2603 154 3 3 ["param","value","quote"] (.ref 199) jD),
(215,[kR,fu "builtin_function_or_method" [.builtin "type.__prepare__",.type "type"],qW P [("__module__",2619,bY "cpy313.wsgiref.headers" 2506),("__qualname__",2621,bY "Headers" 2620),("__firstlineno__",2623,.int 163 2622),("__init__",2633,.ref 221),("_convert_string_type",2643,.ref 228),("__len__",2650,.ref 235),("__setitem__",2659,.ref 242),("__delitem__",2665,.ref 247),("__getitem__",2673,.ref 254),("__contains__",2681,.ref 261),("get_all",2687,.ref 266),("get",2698,.ref 274),("keys",2704,.ref 279),("values",2710,.ref 284),("items",2717,.ref 291),("__repr__",2724,.ref 298),("__str__",2730,.ref 303),("__bytes__",2737,.ref 310),("setdefault",2746,.ref 317),("add_header",2759,.ref 324),("__static_attributes__",2761,.ref 325)] 21,kR,vM<|vb 4 [(165,220),(175,227),(183,234),(186,241),(190,246),(194,253),(197,260),(200,265),(204,273),(211,278),(214,283),(217,290),(220,297),(223,302),(226,309),(229,316),(232,323)],fu "code"<|qb ["Headers","Headers","/claim/cut.py"] 2614++pT [163,0,0,0,0]++[.ref 210,.bool aE,.int 276 0,.ref 211,.none,.none,.none,.none,.int 2617 0,.int 163 0,bY "/claim/cut.py" 2618],⟨(.type "frame"),aF,.plain, #[aA<|.ref 212,aA<|.ref 3,aA<|.ref 209,aF,aA<|bY "cpy313.wsgiref.headers" 2506,aF,aA<|.ref 0]⟩,fU [.none]]),
(222,jA "__init__" "Headers.__init__" (dB 28 0) 215 2624 165 2 3 ["self","headers","k","v"] (.ref 214) jD),
(229,[kR,oA,fU<|qb ["self","value","name","regex"] 2637,kR,vU "_convert_string_type" "Headers._convert_string_type"<|dB 28 1,vq "_convert_string_type" "Headers._convert_string_type" 2634 175 2 0 1 3 222 223 (.ref 224) (.ref 225) 226 2641 2642,v9 "_convert_string_type" "Headers._convert_string_type" (dB 28 1) .none (bY "cpy313.wsgiref.headers" 2506) 227]),
(236,jA "__len__" "Headers.__len__" (dB 28 2) 229 2644 183 1 3 ["self"] .none jD),
(243,jA "__setitem__" "Headers.__setitem__" (dB 28 3) 236 2651 186 3 3 ["self","name","val"] .none jD),
(248,jA "__delitem__" "Headers.__delitem__" (dB 28 4) 243 2660 190 2 3 [] .none jD),
(255,jA "__getitem__" "Headers.__getitem__" (dB 28 5) 248 2666 194 2 3 ["self","name"] .none jD),
(262,jA "__contains__" "Headers.__contains__" (dB 28 6) 255 2674 197 2 3 ["self","name"] .none jD),
(267,jA "get_all" "Headers.get_all" (dB 28 7) 262 2682 200 2 3 [] .none jD),
(268,[fU [.none]]),
(275,jA "get" "Headers.get" (dB 28 8) 268 2688 204 3 3 ["self","name","default","k","v"] (.ref 267) jD),
(280,jA "keys" "Headers.keys" (dB 28 9) 275 2699 211 1 3 [] .none jD),
(285,jA "values" "Headers.values" (dB 28 10) 280 2705 214 1 3 [] .none jD),
(292,jA "items" "Headers.items" (dB 28 11) 285 2711 217 1 3 ["self"] .none jD),
(299,jA "__repr__" "Headers.__repr__" (dB 28 12) 292 2718 220 1 3 ["self"] .none jD),
(304,jA "__str__" "Headers.__str__" (dB 28 13) 299 2725 223 1 3 [] .none jD),
(311,jA "__bytes__" "Headers.__bytes__" (dB 28 14) 304 2731 226 1 3 ["self"] .none jD),
(318,jA "setdefault" "Headers.setdefault" (dB 28 15) 311 2738 229 3 3 ["self","name","value"] .none jD),
(325,jA "add_header" "Headers.add_header" (dB 28 16) 318 2747 232 3 11 ["self","_name","_value","_params","parts","k","v"] .none jD),
(332,[fU [bY "_headers" 2760],qW P [("__module__",2619,bY "cpy313.wsgiref.headers" 2506),("__firstlineno__",2623,.int 163 2622),("__init__",2633,.ref 221),("_convert_string_type",2643,.ref 228),("__len__",2650,.ref 235),("__setitem__",2659,.ref 242),("__delitem__",2665,.ref 247),("__getitem__",2673,.ref 254),("__contains__",2681,.ref 261),("get_all",2687,.ref 266),("get",2698,.ref 274),("keys",2704,.ref 279),("values",2710,.ref 284),("items",2717,.ref 291),("__repr__",2724,.ref 298),("__str__",2730,.ref 303),("__bytes__",2737,.ref 310),("setdefault",2746,.ref 317),("add_header",2759,.ref 324),("__static_attributes__",2761,.ref 325),("__dict__",2763,.ref 328),("__weakref__",2765,.ref 329),("__doc__",2766,.none)] 4,⟨(.type "type"),aF,(.cls {name:=(iA "Headers"),bases:=[(.type "object")],mro:=[(.ref 327),(.type "object")],ns:=326,qualname:=(iA "Headers"),hasDict:=aB,slotNames:=[],subclasses:=[],abstract:=aE,collection:=aF,hasDel:=aE}), #[aF,aF,aA<|bY "Headers" 2612,aA<|bY "Headers" 2620,aA<|.builtin "object.__new__",aA<|.bool aB]⟩,fu "getset_descriptor" [bY "__dict__" 2762,.ref 327,.builtin "function.__dict__",.builtin "function.__dict__#set"],fu "getset_descriptor" [bY "__weakref__" 2764,.ref 327,.builtin "ExceptionGroup.__weakref__",.none],fu "super" [.ref 327,.ref 327,.ref 327],fu "builtin_function_or_method" [.builtin "object.__init_subclass__",.ref 327]]),
(337,fL "_law_cells" (bO 30) 332 2771 246 2 3 [] .none kK),
(344,fL "_law_letter" (bO 31) 337 2777 248 2 3 ["letter","way","starts"] .none kK),
(351,fL "_law_hidden" (bO 32) 344 2786 251 1 3 ["way","lone"] .none kK),
(358,fL "_law_stay" (bO 33) 351 2794 254 1 3 ["way","beside"] .none kK),
(363,fL "_law_prepared" (bO 34) 358 2802 257 1 3 [] .none kK),
(370,fL "_law_corners" (bO 35) 363 2808 259 1 3 ["cell","corners"] .none kK),
(375,fL "_law_book" (bO 36) 370 2816 264 2 3 [] .none kK),
(382,fL "_law_divided" (bO 37) 375 2822 285 2 3 ["upper","lower","whole","rest"] .none kK),
(387,fL "_law_counts" (bO 38) 382 2832 290 3 3 [] .none kK),
(392,fL "_law_bare" (bO 39) 387 2838 312 2 3 [] .none kK),
(397,fL "_law_found" (bO 40) 392 2844 325 2 3 [] .none kK),
(404,fL "_law_common" (bO 41) 397 2850 355 2 3 ["one","other"] .none kK),
(409,fL "_law_multiples" (bO 42) 404 2858 359 3 3 [] .none kK),
(414,fL "law" (bO 43) 409 2864 376 1 3 [] .none kK)]
noncomputable def YR (l:List (Nat×List bH)) (i:Nat):Nat->Obj:=l.rec (λO=>oA) λp O f s=>(cP i p.1).rec (f p.1)<|QAr oA p.2<|i - s
noncomputable def ob (i:Nat) (P:bZ):Obj:=YR (XW P) i 0
noncomputable def A6 (n:Nat) (f:Nat->bH):Nat->Nat->Nat->BT:=Nat.rec (λO O=>.nil) λO g a b=>bif cP b n then .node (f b) (g (2*a)<|a+b) (g (2*a)<|2*a+b) else .nil
noncomputable def TY (P:bZ):Obj:=qz P (bY "cpy313.stringprep" 478) 24 25
noncomputable def PG (P:bZ):Obj:=vM<|vb 0<|xb.take 11
noncomputable def Z_ (P:bZ):Obj:=qz P (bY "cpy313.stringprep" 478) 25 26
noncomputable def QEB (P:bZ):Obj:=qz P (bY "cpy313.stringprep" 478) 26 27
noncomputable def PH (P:bZ):Obj:=vM<|vb 0<|xb.take 12
noncomputable def Z3 (P:bZ):Obj:=qz P (bY "cpy313.stringprep" 478) 27 28
noncomputable def Sn (P:bZ):Obj:=qz P (bY "cpy313.wsgiref.headers" 2506) 32 33
noncomputable def SV (P:bZ):Obj:=vM<|vb 0<|xb.take 14
noncomputable def Tr (P:bZ):Obj:=qz P (bY "cpy313.wsgiref.headers" 2506) 33 34
noncomputable def Y4 (P:bZ):Obj:=vM<|vb 0<|xb.take 15
noncomputable def yf (P:bZ):Obj:=qz P (bY "law_wf0123_02" 2769) 47 48
noncomputable def TO (P:bZ):Obj:=vM<|vb 0<|xb.take 29
noncomputable def GA (P:bZ) (p o:bH) (n:Nat):BT:=A6 n (λi=>bif bt i 3 then p else bif bt i 29 then o else ob i P) 10 1 0
noncomputable def Cc (P:bZ) (X:Nat->bH) (p o:bH) (n:Nat):BT:=A6 n (λi=>bif bt i 3 then p else bif bt i 29 then o else bif eX 138 i && cP i 177 then X i else ob i P) 10 1 0
noncomputable def tp (P:bZ):BT:=A6 28 (ob · P) 10 1 0
noncomputable def TM (P:bZ):BT:=A6 32 (ob · P) 10 1 0
noncomputable def QAz (P:bZ):BT:=GA P (TY P) (PG P) 120
noncomputable def QAy (P:bZ):BT:=GA P (Z_ P) (PG P) 131
noncomputable def tB (P:bZ):BT:=GA P (QEB P) (PH P) 138
noncomputable def YU (P:bZ) (X:Nat->bH):BT:=Cc P X (Z3 P) (PH P) 177
noncomputable def UD (P:bZ) (X:Nat->bH):BT:=Cc P X (Sn P) (SV P) 207
noncomputable def Ua (P:bZ) (X:Nat->bH):BT:=Cc P X (Tr P) (Y4 P) 332
noncomputable def eI (P:bZ) (X:Nat->bH):BT:=Cc P X (yf P) (TO P) 414
noncomputable def zN (P:bZ) (os:eH):SharedT:=⟨TM P,32,{}, #[],{},282,os⟩
noncomputable def FA (P:bZ) (os:eH):SharedT:=⟨QAz P,120,{}, #[],{},480,os⟩
noncomputable def GY (P:bZ) (os:eH):SharedT:=⟨QAy P,131,{}, #[],{},540,os⟩
noncomputable def rD (P:bZ) (os:eH):SharedT:=⟨tB P,138,{}, #[],{},547,os⟩
noncomputable def CY (P:bZ) (X:Nat->bH) (os:eH):SharedT:=⟨YU P X,177,{}, #[],{},2498,os⟩
noncomputable def OB (P:bZ) (X:Nat->bH) (os:eH):SharedT:=⟨UD P X,207,{}, #[],{},2612,os⟩
noncomputable def Jh (P:bZ) (X:Nat->bH) (os:eH):SharedT:=⟨Ua P X,332,{}, #[],{},2769,os⟩
noncomputable def vH (P:bZ) (X:Nat->bH) (os:eH):SharedT:=⟨eI P X,414,{}, #[],{},2870,os⟩
noncomputable def iW:Env:={scope:=pg.main.scope,locals:=lS,globals:=lS,cells:=[],code:=.ref 30,frame:=aA 31}
noncomputable def Γ0:Ctx:=⟨.builtin "claim.caller" {},aF,aF,[],aF⟩
noncomputable def Γ1:Ctx:=Γ0.enter (.body (AF pg) iW) aF default
noncomputable def sl (i n:Nat):List Stmt:=((AF pg).drop i).take n
noncomputable def rx:BT->Nat->List bH->BT
 |t,_,[]=>t
 |t,n,o::r=>rx (t.ins n o) (n+1) r
noncomputable def Lq (P:bZ):BT:=rx (tp P) 28 [ob 28 P,ob 29 P,ob 30 P]
noncomputable def Xs (X:Nat->bH):List Obj:=(bg 39).map λj=>X<|138+j
noncomputable def My (P:bZ) (X:Nat->bH) (os:eH):SharedT:=⟨rx (tB P) 138<|Xs X,177,{}, #[],{},2497,os⟩
end B01
namespace B01
theorem pA (w:bz) (os:eH):gc (kF km) pg w.params 3000 hM Γ1 default (zN w.params os) (fX (sl 0 18) iW)=aA (.ok .next,⟨140,0,140,8⟩,FA w.params os):=by lia
noncomputable def I6:Code->ba nT:=PySem.W.Fast.tw11892475500146522536 PySem.W.Fast.tw14364793385576792824
theorem l_:kF km=I6:=congr PySem.W.Fast.te11892475500146522536 PySem.W.Fast.te14364793385576792824
noncomputable def KU:List cq->cg->ba Flow:=PySem.W.Fast.tw12563942051412417395
theorem QBp:fX=KU:=PySem.W.Fast.te12563942051412417395
noncomputable def PB (w:bz):Prop:= ∀os:eH,gc I6 pg w.params 5000 hM Γ1 ⟨140,0,140,8⟩ (FA w.params os) (KU (sl 18 1) iW)=aA (.ok .next,⟨141,0,141,6⟩,GY w.params os)
section
variable (w:bz)
include w
theorem Vf:PB ((w.withFollow "special-get-raises" aE).withFollow "set-order" aE):=λos=>by lia
theorem Sw:PB ((w.withFollow "special-get-raises" aB).withFollow "set-order" aE):=λos=>by lia
theorem S4:PB ((w.withFollow "special-get-raises" aE).withFollow "set-order" aB):=λos=>by lia
theorem QBi:PB ((w.withFollow "special-get-raises" aB).withFollow "set-order" aB):=λos=>by lia
theorem pB (os:eH):gc (kF km) pg w.params 5000 hM Γ1 ⟨140,0,140,8⟩ (FA w.params os) (fX (sl 18 1) iW)=aA (.ok .next,⟨141,0,141,6⟩,GY w.params os):=by rw[l_,QBp];exact byRow2 "set-order" (P:=PB) (λw=>byRow2 "special-get-raises" (P:=λw=>PB<|w.withFollow "set-order" aE) Vf Sw w) (λw=>byRow2 "special-get-raises" (P:=λw=>PB<|w.withFollow "set-order" aB) S4 QBi w) w os
theorem pC (os:eH):gc (kF km) pg w.params 3000 hM Γ1 ⟨141,0,141,6⟩ (GY w.params os) (fX (sl 19 1) iW)=aA (.ok .next,⟨142,0,143,30⟩,rD w.params os):=by lia
theorem pD (X:Nat->bH) (os:eH) (p:bP):gc (kF km) pg w.params 1000 hM Γ1 p (My w.params X os) (do sO ⟨144,0,144,13⟩;z7 iW "b3_exceptions" (.ref 138);pure .next)=aA (.ok .next,⟨144,0,144,13⟩,CY w.params X os):=by lia
theorem pE (X:Nat->bH) (os:eH):gc (kF km) pg w.params 3000 hM Γ1 ⟨144,0,144,13⟩ (CY w.params X os) (fX (sl 21 6) iW)=aA (.ok .next,⟨154,0,162,20⟩,OB w.params X os):=by lia
theorem pF (X:Nat->bH) (os:eH):gc (kF km) pg w.params 5000 hM Γ1 ⟨154,0,162,20⟩ (OB w.params X os) (fX (sl 27 1) iW)=aA (.ok .next,⟨163,0,244,93⟩,Jh w.params X os):=by lia
theorem pG (X:Nat->bH) (os:eH):gc (kF km) pg w.params 3000 hM Γ1 ⟨163,0,244,93⟩ (Jh w.params X os) (fX (sl 28 15) iW)=aA (.ok .next,⟨376,0,391,74⟩,vH w.params X os):=by lia
theorem pM (os:eH):gc (kF km) pg w.params 1000 aI Γ0 default ⟨tp w.params,28,{}, #[],{},276,os⟩ (Qd pg.main)=aA (.ok<|.ref 30,default,⟨Lq w.params,31,{}, #[],{},282,os⟩):=by lia
theorem pN (os:eH):gc (kF km) pg w.params 1000 aM Γ0 default ⟨Lq w.params,31,{}, #[],{},282,os⟩ (Qe (.ref 30) lS lS)=aA (.ok 31,default,zN w.params os):=by lia
theorem pK (os:eH):gc (kF km) pg w.params 1000 Unit Γ1 default (zN w.params os) (Qg (AF pg) iW)=aA (.ok (),default,zN w.params os):=by lia
theorem pO:(fencedOpening km pg w 40000).map (λs=>(s.heap,s.gens,s.drawn,s.toks))=aA (pJ (tp w.params) 28 {}, #[],{},276):=by lia
end
theorem Xg:b3.length=650:=by lia
theorem SH:(Qh yh iW).zip ((Qi xv iW).map λv=>do let x<-v;sO yK;pure x)=jE yK b3:=by lia
noncomputable def CZ:Int->List (Int×fY)->Bool
 |_,[]=>aB
 |a,(k,_)::r=>decide (a<k) && CZ k r
theorem VZ:CZ 0 b3=true:=by lia
end B01
theorem tq {α:Type}: ∀(l:List (Nat×α)) (k:Nat) (x:α),l.lookup k=aA x->(k,x)∈l:=by
 intro l;induction l with
 |nil=>exact λO O h=>nomatch h
 |cons p l i=>
  exact λk x h=>by
   obtain ⟨a,b⟩:=p;by_cases e:k=a
   ·subst e
    simp only[iK,beq_self_eq_true] at h;cases h;exact .head _
   ·simp only[iK,beq_false_of_ne e] at h
    exact .tail _<|i k x h
theorem UI {α:Type}: ∀(l:List (Nat×(aG×α))) (k:Nat),(l.map λp=>(p.1,p.2.1)).lookup k=(l.lookup k).map (·.1):=by
 intro O;induction O with
 |nil=>exact λk=>rfl
 |cons O l i=>
  obtain ⟨a,b⟩:=O
  exact λk=>by
   simp! only[gB,iK,iK]
   cases k==a
   ·exact i k
   ·rfl
theorem J4 {α β:Type} {f g:α->β} {l:List α} (h:l.map f=l.map g): ∀x∈l,f x=g x:=QFh.mp h
noncomputable def Mc (c:Fc) (cf:hF) (C:Fc):Bool:=C.ow && cf.scope.names.all (λx=>if x.2==.free then (C.cM x.1==c.cM x.1) && (C.cM x.1).isSome && Bu (C.K x.1) else aB)
theorem Yk (h:Mc Cow cf C=aB):tL Cow cf C:=by refine bI (aD h) λow h=>⟨λx M f=>?_,ow⟩;have:=dq.mp h x M;rw[if_pos (by erw[f];rfl),gn,gn] at this;exact ⟨by simpa -iota using this.1.1,this.1.2,Ga this.2⟩
namespace B01
noncomputable def RJ (x:cq):Pos:=x.casesOn (motive_2:=λO=>bP) (λO O O O O O O O O p=>p) (λO O O O O O O O O O=>default) (λO O O O O O O O O O O=>default) (λO O=>default) (λO O=>default) (λO O O=>default) (λO O O O O O O=>default) (λO O O O=>default) (λO O O O O=>default) (λO O O O O=>default) (λO O O O O=>default) (λO O O O=>default) (λO O O O=>default) (λO O O=>default) (λO O O=>default) (λO O O=>default) (λO O O=>default) (λO O O O O=>default) (λO O O O O=>default) (λO O O=>default) (λO O=>default) (λO O O O=>default) (λO O=>default) (λO O=>default) (λO O=>default) (λO=>default) (λO=>default) λO=>default
noncomputable def my (i j:Nat):Stmt:=xd (fJ<|bO i) j
noncomputable def DX (i j:Nat) (own tab:aM) (qual:aG) (ps:List aG):hF:={nm:= "inner",args:=KG<|my i j,body:=fJ<|my i j,scope:=cI<|my i j,ps:=ps,pos:=RJ<|my i j,own:=own,tab:=tab,qual:=qual}
noncomputable def cZ:List Nat:=[19,103,108,120,122,126,184,189,194,48,76,83,139,140,141,142,143,144,145,146,147,148,149,150,151,152,153,154,155,156,157,158,159,160,161,162,163,164,165,166,167,168,169,170,171,172,173,174,175,176]
noncomputable def G (P:bZ) (X:Nat->bH):Heap:=sv (eI P X) 414 cZ
noncomputable def iz:Addr:=327
noncomputable def Ce:Str:=IV "_str_to_int_inner" ++ ".<locals>."
noncomputable def Br:Str:=IV "_int2digits" ++ ".<locals>."
noncomputable def A9:Str:=IV "_digits2int" ++ ".<locals>."
noncomputable def B9:hF:=DX 4 1 52 48 Ce ["a","b"]
noncomputable def AW:hF:=DX 9 1 80 76 Br ["x","L","R"]
noncomputable def x5:hF:=DX 10 0 87 83 A9 ["L","R"]
theorem ZE:(cI<|bO 4).names.length<=200/\200<=1000000:=⟨bJ (by lia),by decide⟩
theorem Rg:(cI<|bO 9).names.length<=200/\200<=1000000:=⟨bJ (by lia),by decide⟩
theorem XG:(cI<|bO 10).names.length<=200/\200<=1000000:=⟨bJ (by lia),by decide⟩
noncomputable def Mp:Fc:=Fc.fn (cI<|bO 4).names 200 aB aE (aA (52,Ce)) ZE
noncomputable def Ky:Fc:=Fc.fn (cI<|bO 9).names 200 aB aE (aA (80,Br)) Rg
noncomputable def Mu:Fc:=Fc.fn (cI<|bO 10).names 200 aB aE (aA (87,A9)) XG
theorem Th:Mp.bd+200<=1000000/\B9.scope.names.length<=200:=⟨by decide,bJ<|by lia⟩
theorem QCr:Ky.bd+200<=1000000/\AW.scope.names.length<=200:=⟨by decide,bJ<|by lia⟩
theorem Zp:Mu.bd+200<=1000000/\x5.scope.names.length<=200:=⟨by decide,bJ<|by lia⟩
noncomputable def tY:List (Nat×(Fc×hF)):=[(0,(Mp,B9)),(1,(Ky,AW)),(2,(Mu,x5))]
noncomputable def cx (f:Nat):Option hF:=(tY.lookup f).map (·.2)
noncomputable def MS (f:Nat) (C:Fc):Prop:= ∃r,tY.lookup f=aA r/\tL r.1 r.2 C
noncomputable def Ep (f:Nat) (C:Fc):Bool:=match tY.lookup f with|some r=>Mc r.1 r.2 C|none=>aE
theorem QAa (h:Ep f C=aB):MS f C:=by
 unfold Ep at h;induction q:tY.lookup f with
 |none=>rw[q] at h;exact bq h
 |some r=>rw[q] at h;exact (ax r q<|Yk h)
noncomputable def Cf (a:aM):aG->Option Value:=λy=>if y= "_headers" then aA (.ref a) else aF
noncomputable def ir:Nq where
 HI X h x a:= ¬ X x/\(∀o d,h.get? x=aA o->o.dict=aA d-> ¬ X d)/\h.Inst x iz (Cf a)
 kS:=by
  intro X h U p x a H m;obtain ⟨n,N,o,e,c,C,r⟩:=H;refine ⟨(m _ _ e n).2,λB d W u=>?_,o,(m _ _ e n).1,c,C,?_⟩
  ·obtain rfl:=bM ((m _ _ e n).1) W
   rcases r with ⟨r,_⟩|⟨R,r,_,K⟩
   ·exact cb r u
   ·obtain rfl:=bM r u
    exact oH K λb A Y v O=>(m _ _ v<|N _ _ e r).2
  ·rcases r with ⟨r,z⟩|⟨R,r,f,K⟩
   ·exact .inl ⟨r,z⟩
   ·exact .inr<|gd R r f<|K.at λb v=>(m _ _ v<|N _ _ e r).1
noncomputable def oD:List (Nat×(aG×aM)):=[(0,(("add_header" :aG),324)),(1,(("get_all" :aG),266)),(2,(("items" :aG),291)),(9,(("__delitem__" :aG),247)),(10,(("_convert_string_type" :aG),228))]
noncomputable def tV:List (Nat×aG×aM×(bZ->bH)):=[(1,"_str_to_int_inner",53,(ob 53)),(2,"int_from_string",60,(ob 60)),(3,"_div2n1n",67,(ob 67)),(4,"_div3n2n",74,(ob 74)),(5,"_int2digits",81,(ob 81)),(6,"_digits2int",88,(ob 88)),(7,"_divmod_pos",95,(ob 95)),(8,"int_divmod",102,(ob 102)),(9,"quotedata",119,(ob 119)),(10,"in_table_b1",137,(ob 137)),(11,"map_table_b3",183,(ob 183)),(12,"_law_cells",336,(ob 336)),(13,"_law_letter",343,(ob 343)),(14,"_law_hidden",350,(ob 350)),(15,"_law_stay",357,(ob 357)),(17,"_law_prepared",362,(ob 362)),(19,"_law_book",374,(ob 374)),(26,"law",413,(ob 413)),(27,"_law_corners",369,(ob 369)),(28,"_law_divided",381,(ob 381)),(29,"_law_counts",386,(ob 386)),(30,"_law_bare",391,(ob 391)),(31,"_law_found",396,(ob 396)),(32,"_law_common",403,(ob 403)),(33,"_law_multiples",408,(ob 408))]
noncomputable def Dx:List Str:=(bg 34).map λi=>((tV.lookup i).map (·.1)).getD ""
section
variable (w:bz) (X:Nat->bH)
noncomputable def mg:aG->Option Value:=(G w.params X).nsMap nO
noncomputable def D (n:Nat):Wd where
 prog:=pg
 w:=w
 P:=h8 cx ir
 G:=G w.params X
 n:=n
 o:=aU n
 mg:=mg w X
 fns:=Dx
 hm:=λk=>oD.lookup k
 cN:=MS
 hc:=iz
end
theorem gg {X:Nat->bH} (h:iE (eI P X) 414 cZ a=aA o):(G P X).get? a=aA o:=(tF ..).trans h
section
variable {w:bz}
theorem g3:(G w.params X).get? 3=aA (yf w.params):=gg (by lia)
theorem g0:(G w.params X).get? 0=aA (ob 0 w.params):=gg (by lia)
theorem g2:(G w.params X).get? 2=aA (ob 2 w.params):=gg (by lia)
theorem jd (x:aG):mg w X x=DN (rS<|yf w.params) x:=by refine (?_:(G w.params X).nsMap 3 x=_);unfold Qj;erw[g3];rfl
theorem yM {h:bK} {o:bH} (e:h.get? a=aA o) (k:(match o.data with|.dict es _=>es.all (λe=>match e.key with|.str _ _=>aB|_=>aE)|_=>aE)=aB):h.isNs a=true:=by
 unfold Heap.isNs
 simp! only[e]
 exact k
theorem nF:Gl (G w.params X) (mg w X) where
 g:=.of_isNs (yM g3<|by lia)
 b:=.of_isNs (yM g0<|by lia)
 bo:=λx M=>Heap.of_bltView (yM g0<|by lia) (by
  delta Heap.bltView Heap.nsPairs;erw[(g0:(G w.params X).get? ic=aA (ob 0 w.params))]
  lia) x M
 lim:=(ax _ (.of_isNs<|yM g2<|by lia) (by
  delta Qj;erw[(g2:(G w.params X).get? cStatics=aA (ob 2 w.params))]
  lia))
theorem yk: ∀x∈AV,mg w X x=none:=λx M=>(jd x).trans (J4 (l:=AV) (f:=DN<|rS<|yf w.params) (g:=λO=>aF) (by lia) x M)
theorem vg:(D w X n).G.NoLimit:=nF.lim
theorem G7: ∀r∈tV,Dx[r.1]?=aA r.2.1/\(D w X n).mg r.2.1=aA (.ref r.2.2.1)/\(D w X n).G.get? r.2.2.1=aA (r.2.2.2 w.params)/\(r.2.2.2 w.params).data=.func (dF<|r.2.2.2 w.params):=λr R=>by
 have:=J4 (l:=tV) (f:=λr=>(Dx[r.1]?,DN (rS<|yf w.params) r.2.1,iE (eI w.params X) 414 cZ r.2.2.1,(r.2.2.2 w.params).data)) (g:=λr=>(aA r.2.1,aA<|.ref r.2.2.1,aA<|r.2.2.2 w.params,.func<|dF<|r.2.2.2 w.params)) (by lia) r R
 simp! only[sT] at this
 exact (kq this.1 ((jd (w:=w) (X:=X) _).trans this.2.1) (gg this.2.2.1) this.2.2.2)
noncomputable def ci:Ci where
 fns:=tV.map λr=>(r.1,r.2.1)
 hm:=oD.map λr=>(r.1,r.2.1)
 cN:=Ep
 ve _ _ _ _:=aE
theorem nY [H:cz (D w X n)] [R:kx (D w X n)]:cD ci (D w X n) where
 H:=H
 R:=R
 fns f nm h:=by refine aS (ij.mp<|tq _ _ _ h) λr K e=>j5 (G7 (w:=w) (X:=X) (n:=n) r K) λW B b Y=>?_;clear h K;cases e;exact ⟨W,_,_,_,B,b,Y⟩
 hm k nm h:=by
  have h:(oD.map λr=>(r.1,r.2.1)).lookup k=aA nm:=h
  simp! only[UI] at h
  exact aS (lN.mp h) λp e e2=>⟨p.2,by refine (?_:oD.lookup k=_);(erw[e];exact cw e2 rfl)⟩
 cN f C h:=QAa h
 ve f i C s h:=by contradiction
end
end B01
noncomputable def BJ {α:Type} (P:α->Prop):List α->Prop
 |[]=>True
 |a::l=>P a/\BJ P l
theorem Kh {α:Type} {P:α->Prop}: ∀{l:List α},BJ P l-> ∀x∈l,P x:=by
 intro l;induction l with
 |nil=>exact λO x M=>nomatch M
 |cons a l i=>exact λh x M=>(bp.mp M).elim (λe=>e▸h.1)<|i h.2 x
noncomputable def rM (C:Fc) (names:List (aG×dQ)) (ps:List aG) (k:Nat):Bool:=decide ((names.map (·.1)).Nodup) && jH (cu C) ps (bg k)
theorem zO {k:Nat} (h:rM C names ps k=aB):(names.map (·.1)).Nodup/\oK C ps (bg k):=⟨eD (aD h).1,md .nil (λx xs i is h g=>.cons (ft h) g) (aD h).2⟩
namespace B01
theorem dM {names:List (aG×dQ)} (h:eX names.length 200=aB):names.length<=200/\200<=1000000:=⟨bJ h,by decide⟩
section
variable[H:cz (D w X n)] [R:kx (D w X n)] {hn:Bool}
theorem A4 (h:ti (eI w.params X) 414 cZ a c tk o oc (fJ s) (cI s).names) (i: ∀C q,cd=aA (C,q)->(dF o).code=.ref C/\(dF o).qualname++ ".<locals>." =q) (Q: ∀us,us.length=ps.length->nQ (dF o) ⟨us,[]⟩=pure (ps.zip us)) (f:eX (cI s).names.length 200=aB)
 (H:rM (Fc.fn (cI s).names 200 aB hn cd<|dM f) (cI s).names ps k=aB) (B:je (D w X n) (Fc.fn (cI s).names 200 aB hn cd<|dM f) (fJ s) (b.map SW.w)) (e:mB (aU n) k b xs d):oV (D w X<|n+1) a xs d:=
 have q:=zO H
 e.2.elim λP E=>KA (D:=D w X n) (o':=aU<|n+1) (P:=P) ⟨q.2,B,rfl⟩ vg (xc h i Q) q.1 (((q.2.uO (D:=D w X n)).1.trans xB).trans e.1.symm) E
theorem W8 (H:ti (eI w.params X) 414 cZ a c tk o oc (fJ s) (cI s).names) (Q: ∀us,us.length=ps.length->nQ (dF o) ⟨us,[]⟩=pure (ps.zip us)) (q:eX (cI s).names.length 200=aB)
 (h:(rM (Fc.fn (cI s).names 200 aB hn aF<|dM q) (cI s).names ps k && jx ci (Fc.fn (cI s).names 200 aB hn aF<|dM q) b (fJ s))=aB) (e:mB (aU n) k b xs d):oV (D w X<|n+1) a xs d:=
 A4 H (λO O e=>by exact ay e) Q q (aD h).1 (lZ nY (aD h).2) e
end
theorem SR: ∃b o,(D w X n).mg "__builtins__" =aA (.ref b)/\b≠ic/\(D w X n).G.get? b=aA o/\o.cls=.type "module" /\o.dict=aA ic/\o.data=.plain:=(uC 4 (ob 4 w.params) ((jd (w:=w) (X:=X) "__builtins__").trans<|by lia) (by decide) (gg<|by lia) rfl rfl rfl)
theorem Yb: ∀f g cf c,cx f=aA cf->cx g=aA c->c.tab=cf.tab->c=cf:=λf g cf c x n t=>by refine aS (lN.mp x) λp u e=>?_;clear x;subst e;refine aS (lN.mp n) λq z e=>?_;clear n;subst e;have h:=tq _ _ _ u;have H:=tq _ _ _ z;simp only[tY,bp,gU,or_false,sT] at h H;clear u z;rcases h with ⟨-,rfl⟩|⟨-,rfl⟩|⟨-,rfl⟩<;>rcases H with ⟨-,rfl⟩|⟨-,rfl⟩|⟨-,rfl⟩<;>first|rfl|exact absurd t (by decide)
noncomputable def ZR (C:Fc) (cf:hF) (i:Nat):Bool:=(C.cd==aA (cf.own,cf.qual)) && (cu C cf.nm i && cf.scope.names.all λx=>if x.2==.free then (C.cM x.1).isSome && Bu (C.K x.1) else aB)
theorem Em [H:cz (D w X n)] (r:cx f=aA cf) (h:ZR C cf i=aB) (A:(cf.args.kwonlyargs,cf.args.kw_defaults,cf.args.defaults,docOf cf.body)=([],[],[],aF)) (m: ∀env,annTrees cf.args aF env=[])
 (Q: ∀fd,fd.params=cf.args->fd.defaults=.none->fd.kwdefaults=.none-> ∀us,us.length=cf.ps.length->nQ fd ⟨us,[]⟩=pure (cf.ps.zip us)) (b:s=.FunctionDef cf.nm cf.args cf.body [] aF [] cf.scope aF cf.nm cf.pos):bV (D w X n) C s (.defn i f):=by
 subst b;simp only[sT] at A;refine X_ rfl r (λg c e t=>Yb f g cf c r e t) SR (QHe.mp (aD h).1) (ft (aD (aD h).2).1) A.1 A.2.1 A.2.2.1 m A.2.2.2 (λx M F=>?_) Q;have:=dq.mp (aD (aD h).2).2 x M;rw[if_pos (by erw[F];rfl)] at this;exact ⟨(aD this).1,Ga (aD this).2⟩
section
variable[cz<|D w X n] [kx<|D w X n]
theorem Yx {h0}:je (D w X n) (Fc.fn (cI<|bO 4).names 200 aB aE (aA (52,Ce)) h0) (fJ<|bO 4) (AR.map SW.w):=su (SW.snd (AR.getD 0 .stuck) nY<|by lia) (su (Em rfl (by lia) (by lia) (λO=>by lia) (λf h i H=>i9 λu v=>by unfold nQ;(erw[h];erw[i];erw[H]);lia) (by lia))<|lZ nY<|by lia)
theorem Wv {h0}:je (D w X n) (Fc.fn (cI<|bO 9).names 200 aB aE (aA (80,Br)) h0) (fJ<|bO 9) (yx.map SW.w):=su (SW.snd (yx.getD 0 .stuck) nY<|by lia) (su (Em rfl (by lia) (by lia) (λO=>by lia) (λf h i H=>yJ λu v z=>by unfold nQ;(erw[h];erw[i];erw[H]);lia) (by lia))<|lZ nY<|by lia)
theorem R8 {h0}:je (D w X n) (Fc.fn (cI<|bO 10).names 200 aB aE (aA (87,A9)) h0) (fJ<|bO 10) (BM.map SW.w):=su (Em rfl (by lia) (by lia) (λO=>by lia) (λf h i H=>i9 λu v=>by unfold nQ;(erw[h];erw[i];erw[H]);lia) (by lia)) (lZ nY<|by lia)
end
theorem gY [cz<|D w X n] [kx<|D w X n] {p:Nat×Nat×List SW} (i:Nat) (s:cq) (ps:List aG) (c tk:Nat) (H: ∀us,us.length=ps.length->nQ (dF<|ob (c+1) w.params) ⟨us,[]⟩=pure (ps.zip us)) (hn:Bool:=aE) (e1:tV[i]?=aA r:=by rfl) (e2:r.1=p.1:=by rfl) (A:ti (eI w.params X) 414 cZ r.2.2.1 c tk (ob (c+1) w.params) (ob c w.params) (fJ s) (cI s).names:=by lia)
 (h:eX (cI s).names.length 200=true:=by lia) (b:(rM (Fc.fn (cI s).names 200 aB hn aF<|dM h) (cI s).names ps p.2.1 && jx ci (Fc.fn (cI s).names 200 aB hn aF<|dM h) p.2.2 (fJ s))=true:=by lia):
 ∃(i:Nat) (r:Nat×aG×aM×(bZ->bH)),tV[i]?=aA r/\r.1=p.1/\ ∀xs d,mB (aU n) p.2.1 p.2.2 xs d->oV (D w X<|n+1) r.2.2.1 xs d:=
 (cy i r e1 e2 λO O=>W8 A H h b)
theorem QEQ [cz<|D w X n] [kx<|D w X n]:BJ (λp=> ∃(i:Nat) (r:Nat×aG×aM×(bZ->bH)),tV[i]?=aA r/\r.1=p.1/\ ∀xs d,mB (aU n) p.2.1 p.2.2 xs d->oV (D w X<|n+1) r.2.2.1 xs d) GN:=
 ⟨(cy 0 _ rfl rfl (λxs d=>A4 (s:=bO 4) (hn:=aE) (cd:=aA (52,Ce)) (ps:=["s"]) (o:=ob 53 w.params) (oc:=ob 52 w.params) (c:=52) (tk:=312) (by lia) (λc' q e=>by cases e;exact ⟨by lia,by lia⟩) (lF λO=>by lia) (by lia) (by lia) Yx)),
  gY 1 (bO 5) ["s"] 59 323 (lF λO=>by lia),
  gY 2 (bO 7) ["a","b","n"] 66 332 (yJ λO O O=>by lia),
  gY 3 (bO 8) ["a12","a3","b","b1","b2","n"] 73 349 (Kr λO O O O O O=>by lia),
  (cy 4 _ rfl rfl (λxs d=>A4 (s:=bO 9) (hn:=aE) (cd:=aA (80,Br)) (ps:=["a","n"]) (o:=ob 81 w.params) (oc:=ob 80 w.params) (c:=80) (tk:=363) (by lia) (λc' q e=>by cases e;exact ⟨by lia,by lia⟩) (i9 λO O=>by lia) (by lia) (by lia) Wv)),
  (cy 5 _ rfl rfl (λxs d=>A4 (s:=bO 10) (hn:=aE) (cd:=aA (87,A9)) (ps:=["digits","n"]) (o:=ob 88 w.params) (oc:=ob 87 w.params) (c:=87) (tk:=374) (by lia) (λc' q e=>by cases e;exact ⟨by lia,by lia⟩) (i9 λO O=>by lia) (by lia) (by lia) R8)),
  gY 6 (bO 11) ["a","b"] 94 385 (i9 λO O=>by lia),
  gY 7 (bO 12) ["a","b"] 101 400 (i9 λO O=>by lia),
  gY 9 (bO 20) ["code"] 136 541 (lF λO=>by lia),
  gY 10 (bO 22) ["code"] 182 2499 (lF λO=>by lia),
  gY 11 (bO 30) ["script","first"] 335 2772 (i9 λO O=>by lia),
  gY 12 (bO 31) ["letter","way"] 342 2778 (i9 λO O=>by lia),
  gY 13 (bO 32) ["way"] 349 2787 (lF λO=>by lia),
  gY 14 (bO 33) ["way"] 356 2795 (lF λO=>by lia),
  gY 15 (bO 34) ["text"] 361 2803 (lF λO=>by lia),
  gY 16 (bO 36) ["corners","cell"] 373 2817 (i9 λO O=>by lia) aB,
  gY 17 (bO 43) ["script"] 412 2865 (lF λO=>by lia),
  gY 18 (bO 35) ["cell"] 368 2809 (lF λO=>by lia),
  gY 19 (bO 37) ["upper","lower"] 380 2823 (i9 λO O=>by lia),
  gY 20 (bO 38) ["corners","low","cell"] 385 2833 (yJ λO O O=>by lia),
  gY 21 (bO 39) ["corners","x"] 390 2839 (i9 λO O=>by lia),
  gY 22 (bO 40) ["corners","cell"] 395 2845 (i9 λO O=>by lia),
  gY 23 (bO 41) ["one","other"] 402 2851 (i9 λO O=>by lia),
  gY 24 (bO 42) ["around","within","cell"] 407 2859 (yJ λO O O=>by lia),trivial⟩
end B01
theorem Oh: ∀d a e,tS t d=aA (a,e)->d<=a/\a<e/\e<=t.size:=λd a e h=>by
 refine aS (lN.mp h) λp A i=>?_;clear h;cases i;refine eN (zJ A) λH b r=>?_;have:cP a t.size=true:=by unfold ko at H;rw[gn] at H;exact H.2
 exact ⟨b,uc _,bJ this⟩
theorem ZM (t:Array Nat) (a:Nat):(pY t a=a+2/\cP (a+1) t.size=aB)\/pY t a=a+1:=by
 unfold pY
 split
 ·rename_i q
  simp only[gn,gn] at q;exact .inl ⟨rfl,q.2.1⟩
 ·exact .inr rfl
theorem M7: ∀d a e,q7 t d=aA (a,e)->d<=a/\a<e/\e<=t.size:=λd a e h=>by
 refine aS (lN.mp h) λp A i=>?_;clear h;cases i;refine eN (zJ A) λH b r=>?_;have P:=bJ (by unfold hV at H;rw[gn] at H;exact H.1:cP a t.size=aB);rcases ZM t a with ⟨e1,e2⟩|e1
 ·have:=bJ e2
  exact sb e1<|⟨b,by simp+arith,this⟩
 ·exact sb e1<|⟨b,by exact Nat.lt_succ_self _,P⟩
set_option tactic.hygienic true in
theorem Xd {nx:Nat->Option (Nat×Nat)} {rep:aG} (r:rep.length=2) (P: ∀d a e,nx d=aA (a,e)->d<=a/\a<e/\e<=t.size): ∀k d,d<=t.size->((hH nx rep t k d).map (·.length)).sum<=2*(t.size - d):=by
 intro O;induction O with
 |zero=>exact λd O=>hJ _
 |succ k z=>
  exact λd Y=>by
   induction h:nx d with
   |some p=>
    obtain ⟨a,e⟩:=p;refine sb (BY h)<|eN (P d a e h) λA i H=>?_;have z:=z e H;simp only[gp,List.sum_append,gB,Qk,r]
    have:((if d<a then [(⟨t.extract d a⟩:aG)] else []).map (·.length)).sum<=a - d:=by
     by_cases q:d<a
     ·rw[if_pos q]
      simp only[gB,jq,Qk,QFi];refine (?_:(t.extract d a).size+0<=_);exact sb uU<|(bD (na (nL<|sE ((bD q<|nR<|Nat.min_eq_left ((bD i H):a<=t.size)):d<=min a t.size))<|nL<|Nat.min_eq_left ((bD i H):a<=t.size))<|nR<|sE ((aQ q):d<=a))
     ·rw[if_neg q]
      exact hJ _
    exact (bD (na (na (na (na (na (na this z)<|nL<|sE (A:d<=a))<|gC 2<|nL<|sE (H:e<=t.size)) i)<|gC 2<|nR<|sE (Y:d<=t.size)) A) i)
   |none=>
    erw[Bx h];by_cases q:d<t.size
    ·rw[if_pos q]
     simp only[gB,jq,Qk,QFi];refine (?_:(t.extract d t.size).size+0<=_);exact sb uU<|(Nat.min_self t.size).symm▸Nat.le_mul_of_pos_left _ (by decide)
    ·rw[if_neg q]
     exact hJ _
theorem RY {nx:Nat->Option (Nat×Nat)} {rep:aG} (r:rep.length=2) (p: ∀d a e,nx d=aA (a,e)->d<=a/\a<e/\e<=t.size) (Z:t.size<=400000):nU ⟨#[]⟩ (hH nx rep t (t.size+1) 0)=true:=by refine joinOk_of ?_;have:=Xd r p (t.size+1) 0<|hJ _;have b:(⟨#[]⟩:aG).length=0:=rfl;simp only[b];exact (bD (na this (gC 2<|nL<|sE ((by simp+arith):0<=t.size)))<|gC 2 Z)
theorem QAh (t:Array Nat): ∀d,d<=t.size->oQ (5*(t.size+1)) (kj C1 t 0 d t.size aE) (tS t d):=λd Y=>XD t d Y
theorem ZL (t:Array Nat): ∀d,d<=t.size->oQ 21 (kj C2 t 0 d t.size aE) (q7 t d):=λd Y=>QBX t d Y
noncomputable def Gg (g:aG->aG) (rep:aG) (a b:E):E:=λo l K=>lW [a,b] o l λv L=> ∃x:aG,v=[.d<|.str rep,.d<|.str x]/\x.cps.size<=400000/\K (.d<|.str<|g x) L
section
theorem NU [H:cz D] {b:Nat->Nat} {nx:Array Nat->Nat->Option (Nat×Nat)} {rep:aG} {np j:bP} (f:nG C nm) (hm:D.mg nm=aA (.ref p)) (P:gG D.G p U) (M:MC (.Name nm np) "sub" j pos xs) (hb: ∀n,n<=400000->b n<=4*2^64) (r:rep.cps.contains 92=aE) (R:rep.length=2)
 (N: ∀t d,d<=t.size->oQ (b t.size) (kj U t 0 d t.size aE) (nx t d)) (B: ∀t d a e,nx t d=aA (a,e)->d<=a/\a<e/\e<=t.size) (q:fh D C xs [a,c]):
 aZ D C (.Call (.Attribute (.Name nm np) "sub" j) xs [] pos) (Gg (λx=>qZ<|hH (nx x.cps) rep x.cps (x.cps.size+1) 0) rep a c):=λh=>⟨λ{X z Q Er} K k=>by
 refine wx (M.base X.env) (M.qG X.env) M.line<|pV K f hm ?_;have u:=P.keeps K.F.base;have W: ∀A,wY p=.ref A-> ∃ob,z.s.heap.get? A=aA ob/\ob.dict=none:=λA e=>by refine dA u.own λo a O c=>?_;cases e;exact (ax o a c)
 refine (uC ("re.Pattern") ("re.Pattern.sub") O0 OV QBx u.typeIs W<|wm (M.pl X.env)<|gK (M.pl X.env)<|(q h).run K λvs l1 g us z1 v i q1=>?_);obtain ⟨x,rfl,Z,g⟩:=g;cases q1 with
 |cons q1 q2=>
  cases q2 with
  |cons q2 L=>
   cases L
   exact aV (Rd.dO q1) λY m=>sb m<|aV (Rd.dO q2) λl m=>sb m<|wpAny_toks<|QBN (hb _ Z) Z r (N _) (B _) (P.keeps v.F.base) (RY R (B _) Z) λh3 t' tk kk=>((k _ _ g).tr i).new v (.all kk)<|Rd.str _ _⟩
theorem Vh [H:cz D] (o:nG C nm) (m:D.mg nm=aA (.str i t)):aZ D C (.Name nm pos) (.str i):= @λO O h=>⟨λK k=>pV K o m<|(k _ _ h).id K<|Rd.str _ _⟩
end
namespace B01
variable {w:bz} {X:Nat->bH} {n:Nat}
noncomputable def BB (o:bH):Array Value:=match o.data with|.seq x _=>x|_=> #[]
theorem QDc:gG (G w.params X) 107 C1:=⟨ob 107 w.params,106,ob 106 w.params,kW<|ob 107 w.params,BB<|ob 106 w.params,0,gg (by lia),rfl,rfl,rfl,by lia,by lia,by lia,gg (by lia),rfl,by lia⟩
theorem QDa:gG (G w.params X) 112 C2:=⟨ob 112 w.params,111,ob 111 w.params,kW<|ob 112 w.params,BB<|ob 111 w.params,0,gg (by lia),rfl,rfl,rfl,by lia,by lia,by lia,gg (by lia),rfl,by lia⟩
noncomputable def VQ:List S:=[.ret<|aA<|Gg q1 xu (.str xu)<|Gg q2 yy (.str yy)<|.aC 0]
theorem QCE [cz<|D w X n] {h0}:je (D w X n) (Fc.fn (cI<|bO 17).names 200 aB aE aF h0) (fJ<|bO 17) VQ:=by
 refine su ?_ KD
 with_reducible refine Mz ?_
 refine NU (b:=λn=>5*(n+1)) (nx:=tS) (rep:=xu) (nZ<|by lia) ((jd (w:=w) (X:=X) "_twin_re_1").trans<|by lia) QDc ⟨λO=>rfl,λO=>rfl,rfl⟩ (λn h=>by exact (aQ<|gC 5 h)) (by decide+kernel) rfl QAh (λO=>Oh) (yH (λO=>rfl) O3<|yH (λO=>rfl) ?_ EY);exact NU (b:=λn=>21) (nx:=q7) (rep:=yy) (nZ<|by lia) ((jd (w:=w) (X:=X) "_twin_re_2").trans<|by lia) QDa ⟨λO=>rfl,λO=>rfl,rfl⟩ (λn h=>by decide) (by decide+kernel) rfl ZL (λO=>M7) (yH (λO=>rfl) (Vh (t:=469) (nZ<|by lia)<|(jd (w:=w) (X:=X) "CRLF").trans<|by lia)<|yH (λO=>rfl) (si<|jg<|by lia) EY)
theorem QBu [cz<|D w X n] {a k:Nat} (f:qe (G w.params X) a (fJ s) (cI s).names cd ps []) (h:rM (Fc.fn (cI s).names 200 aB hn cd hb) (cI s).names ps k=aB) (B:je (D w X n) (Fc.fn (cI s).names 200 aB hn cd hb) (fJ s) bs) (hl:xs.length=k) (e:sW bs (aU n) (jK (bg k) (xs.map .val) []) (Eb d)):oV (D w X<|n+1) a xs d:=
 have q:=zO h
 KA (D:=D w X n) (o':=aU<|n+1) (P:=[]) ⟨q.2,B,rfl⟩ vg f q.1 (((q.2.uO (D:=D w X n)).1.trans xB).trans hl.symm) e
theorem QAR [cz<|D w X n] (h:x.cps.size<=400000) (H:(q2 x).cps.size<=400000):oV (D w X<|n+1) 119 [.str x] (.str<|q1<|q2 x):=by intro A s Y us Q E;exact QBu (w:=w) (X:=X) (n:=n) (k:=1) (a:=119) (xs:=[.str x]) (d:=.str<|q1<|q2 x) (s:=bO 17) (ps:=["data"]) (cd:=aF) (hn:=aE) (hb:=dM<|by lia) (xc (o:=ob 119 w.params) (oc:=ob 118 w.params) (c:=118) (tk:=472) (by lia) (λO O e=>by exact ay e)<|lF λO=>by lia) (by lia) QCE rfl (⟨x,rfl,h,q2 x,rfl,H,.mk .d .ret⟩)
section
variable[H:cz (D w X n)] [R:kx (D w X n)] {a c tk k:Nat} {o oc:bH} {s:cq} {ps:List aG} {b:List SW} {xs hs hs':List aK} {d:aK} {ex:List aI} {exs:List Sl}
theorem Yf (P: ∀{Ob z},eU (D w X n) Ob z ex exs) (f:qe (G w.params X) a (fJ s) (cI s).names aF ps ex) (h0:eX (cI s).names.length 200=aB)
 (h:(rM (Fc.fn (cI s).names 200 aB aE aF<|dM h0) (cI s).names ps k && jx ci (Fc.fn (cI s).names 200 aB aE aF<|dM h0) b (fJ s))=aB) (e:vv (aU n) k exs b xs hs d hs'):rU (D w X<|n+1) a xs hs d hs':=
 have q:=zO (aD h).1
 Ww (D:=D w X n) (o':=aU<|n+1) ⟨q.2,lZ nY (aD h).2,rfl⟩ vg P f q.1 (((q.2.uO (D:=D w X n)).1.trans xB).trans e.1.symm) e.2
theorem Jg (P: ∀{Ob z},eU (D w X n) Ob z ex exs) (f:qe (G w.params X) a (fJ s) (cI s).names aF ps ex) (h0:eX (cI s).names.length 200=aB)
 (h:(rM (Fc.fn (cI s).names 200 aB aE aF<|dM h0) (cI s).names ps k && jx ci (Fc.fn (cI s).names 200 aB aE aF<|dM h0) b (fJ s))=aB) (e:tH (aU n) k exs b xs hs d):rT (D w X<|n+1) a xs hs d:=
 have q:=zO (aD h).1
 t_ (D:=D w X n) (o':=aU<|n+1) ⟨q.2,lZ nY (aD h).2,rfl⟩ vg P f q.1 (((q.2.uO (D:=D w X n)).1.trans xB).trans e.1.symm) e.2
theorem UG (e:vv (aU n) 2 [] Eg xs hs d hs'):rU (D w X<|n+1) 247 xs hs d hs':=Yf (s:=dB 28 4) (ps:=["self","name"]) .nil (xc (o:=ob 247 w.params) (oc:=ob 246 w.params) (c:=246) (tk:=2661) (by lia) (λO O e=>by exact ay e)<|i9 λO O=>by lia) (by lia) (by lia) e
theorem VS (e:tH (aU n) 2 [] GP xs hs d):rT (D w X<|n+1) 266 xs hs d:=Jg (s:=dB 28 7) (ps:=["self","name"]) .nil (xc (o:=ob 266 w.params) (oc:=ob 265 w.params) (c:=265) (tk:=2683) (by lia) (λO O e=>by exact ay e)<|i9 λO O=>by lia) (by lia) (by lia) e
theorem OU (e:tH (aU n) 1 [] CG xs hs d):rT (D w X<|n+1) 291 xs hs d:=Jg (s:=dB 28 11) (ps:=["self"]) .nil (xc (o:=ob 291 w.params) (oc:=ob 290 w.params) (c:=290) (tk:=2712) (by lia) (λO O e=>by exact ay e)<|lF λO=>by lia) (by lia) (by lia) e
end
end B01
namespace B01
variable {w:bz} {X:Nat->bH} {n:Nat}
theorem rX:(G w.params X).get? iz=aA (excClassObj "Headers" "Headers" iz 326 [.type "object"] [.type "object"] aB [] [] aE aF aF aF aF (aA<|.str (IX "Headers") 2612) (aA<|.str (IX "Headers") 2620) (aA<|.bool aB) "object.__new__"):=gg (by lia)
theorem LN:(G w.params X).get? 326=aA (ob 326 w.params):=gg (by lia)
noncomputable def mN (w:bz) (X:Nat->bH):aG->Option Value:=(G w.params X).nsMap 326
theorem kH (x:aG):mN w X x=DN (rS<|ob 326 w.params) x:=by delta mN Qj;erw[LN];rfl
theorem xY:(G w.params X).Ns 326 (mN w X):=.of_isNs (yM LN<|by lia)
theorem T9 {E:aI->aN->Prop} (B: ∀b o,(D w X n).G.get? b=aA o->s.heap.get? b=aA o) (I:(D w X n).P.HI Y s.heap x a) (k: ∀tk,Q (.ref a) {s with toks:=tk}):aO (aY pg w) A (getAttr (.ref x) "_headers" aB) Q E s:=by have I:=I.2.2;obtain ⟨h,g,d,t,os⟩:=s;exact load_attr (B _ _ rX) (xY.keeps B) ((kH _).trans<|by lia) ((kH _).trans<|by lia) (by ac_nf) I (QHd rfl) rfl (k _)
theorem vI {of:bH} {y:Option aI} {pl:ba Bool} {E:aI->aN->Prop} (B: ∀b o,(D w X n).G.get? b=aA o->s.heap.get? b=aA o) (I:(D w X n).P.HI Y s.heap x a)
 (r:mN w X nm=aA (.ref f)) (q:(G w.params X).get? f=aA of) (F:of.cls=.type "function") (C:QU (.type "object") nm=pure y) (N:nm≠ "_headers") (k:Q (.ref f,[.ref x]) s):aO (aY pg w) A (Cy (.ref x) nm pl) Q E s:=by
 have I:=I.2.2;obtain ⟨h,g,d,t,os⟩:=s;exact method_of (B _ _ rX) (xY.keeps B) ((kH _).trans<|by lia) ((kH _).trans<|by lia) r (B _ _ q) F C I (QHc N) k
noncomputable def HmG (w:bz) (X:Nat->bH) (n:Nat) (p:Nat×aG×aM):Prop:=p.1<20-> ∀{A:cV} {s:aN} {Y:aM->Prop} {x a:aM} {j:ba Bool} {Q:aI×List aI->aN->Prop} {E:aI->aN->Prop},(∀b o,(D w X n).G.get? b=aA o->s.heap.get? b=aA o)->(D w X n).P.HI Y s.heap x a->Q (.ref p.2.2,[.ref x]) s->aO (aY pg w) A (Cy (.ref x) p.2.1 j) Q E s
theorem Wj:BJ (HmG w X n) oD:=
 ⟨@λO A s Y x a pl Q E base I q=>vI (of:=ob 324 w.params) base I ((kH _).trans<|by lia) (gg<|by lia) rfl (y:=aF) (by ac_nf) (by decide) q,
  @λO A s Y x a pl Q E base I q=>vI (of:=ob 266 w.params) base I ((kH _).trans<|by lia) (gg<|by lia) rfl (y:=aF) (by ac_nf) (by decide) q,
  @λO A s Y x a pl Q E base I q=>vI (of:=ob 291 w.params) base I ((kH _).trans<|by lia) (gg<|by lia) rfl (y:=aF) (by ac_nf) (by decide) q,
  @λO A s Y x a pl Q E base I q=>vI (of:=ob 247 w.params) base I ((kH _).trans<|by lia) (gg<|by lia) rfl (y:=aF) (by ac_nf) (by decide) q,
  @λO A s Y x a pl Q E base I q=>vI (of:=ob 228 w.params) base I ((kH _).trans<|by lia) (gg<|by lia) rfl (y:=aF) (by ac_nf) (by decide) q,
  trivial⟩
theorem QAA: ∀k nm f,(D w X n).hm k=aA (nm,f)->k<20-> ∀{A:cV} {s:aN} {Y:aM->Prop} {x a:aM} {pl:ba Bool} {Q:aI×List aI->aN->Prop} {E:aI->aN->Prop},(∀b o,(D w X n).G.get? b=aA o->s.heap.get? b=aA o)->(D w X n).P.HI Y s.heap x a->Q (.ref f,[.ref x]) s->aO (aY pg w) A (Cy (.ref x) nm pl) Q E s:=by intro k nm f e K A s Y x a pl Q E B I q;exact Kh (Wj) _ (tq oD k (nm,f) e) K B I q
theorem Ub: ∀k nm f,(D w X n).hm k=aA (nm,f)-> ∃o fd,(D w X n).G.get? f=aA o/\o.data=.func fd:=by
 intro k nm f e;have u:=e
 have m:(k,(nm,f))∈oD:=by
  have: ∀(l:List (Nat×(aG×aM))),l.lookup k=aA (nm,f)->(k,(nm,f))∈l:=by
   intro l;induction l with
   |nil=>intro h;exact ay h
   |cons p l i=>
    intro h;obtain ⟨P,F⟩:=p
    simp! only[iK] at h
    split at h
    ·rename_i q
     clear e;cases h
     simp! only[QHe] at q
     subst q;exact .head _
    ·exact .tail _<|i h
  exact this _ u
 unfold oD at m
 simp! only[bp,gU,or_false,sT] at m
 clear e u;rcases m with ⟨_,_,rfl⟩|⟨_,_,rfl⟩|⟨_,_,rfl⟩|⟨_,_,rfl⟩|⟨_,_,rfl⟩
 ·exact (et (ob 324 w.params) (dF<|ob 324 w.params) (gg<|by lia)<|by lia)
 ·exact (et (ob 266 w.params) (dF<|ob 266 w.params) (gg<|by lia)<|by lia)
 ·exact (et (ob 291 w.params) (dF<|ob 291 w.params) (gg<|by lia)<|by lia)
 ·exact (et (ob 247 w.params) (dF<|ob 247 w.params) (gg<|by lia)<|by lia)
 ·exact (et (ob 228 w.params) (dF<|ob 228 w.params) (gg<|by lia)<|by lia)
theorem Uu: ∀{M:DB} {A:cV} {E:aI->aN->Prop} {s:aN} {x:aM} {u:aI} {Q:aI->aN->Prop},(∃o,s.heap.get? x=aA o/\o.cls=.ref iz)->s.heap.get? iz=aA (excClassObj "Headers" "Headers" iz 326 [.type "object"] [.type "object"] aB [] [] aE aF aF aF aF (aA<|.str (IX "Headers") 2612) (aA<|.str (IX "Headers") 2620) (aA<|.bool aB) "object.__new__")->Q u s->aO M A (sequenceKey (.ref x) u "__delitem__") Q E s:=by
 intro M A E s x u Q ⟨o,K,c⟩ C q;obtain ⟨h,g,d,t,os⟩:=s;delta sequenceKey seqItemTypes
 repeat (first|(with_reducible refine wpAny_loadPart_at K ?_;erw[c])|(with_reducible refine wpAny_loadPart_at C ?_)|wp_step)
 delta isSubtype mroOf
 repeat (first|(with_reducible refine wpAny_loadPart_at C ?_)|wp_step)
 exact q
theorem VM (e:(D w X n).hm 9=aA (nm,fa)) {E:aI->aN->Prop} (base: ∀b o,(D w X n).G.get? b=aA o->s.heap.get? b=aA o) (I:(D w X n).P.HI Y s.heap x a)
 (h:aO (aY pg w) A (call (.ref fa) [.ref x,u]) (λO s'=>Q () s') E s):aO (aY pg w) A (delItem (.ref x) u) Q E s:=by
 have e':=e;clear e;cases e';have I:=I.2.2;refine dA (id I) λo hx hc r=>?_;have os:s.heap.OwnSpecial x iz 247 "object" "__delitem__" :=⟨o,ob 247 w.params,_,_,326,_,_,_,_,_,_,_,_,_,_,_,_,_,"object.__new__",mN w X,aF,hx,hc,base _ _ rX,xY.keeps base,(kH _).trans (by lia),base _ _ (gg<|by lia),rfl,F.mro_object,by rw[QV,QW];lia⟩;refine cO<|aR<|Uu (ax o hx hc) (base _ _ rX)<|aR ?_;obtain ⟨hh,g,d,t,oss⟩:=s;refine wpAny_callSpecial?_own os<|eY h (λv s' q=>?_) λO O z=>z;exact bA q
theorem QCm:(D w X n).mg "Headers" =aA (.ref (D w X n).hc)/\ ∀{A:cV} {s:aN} {pos:bP} {l:List (Bool×ba aI)} {Q:aI->aN->Prop} {E:aI->aN->Prop},l.any (·.1)=aE->aO (aY pg w) A (sM l) (λvs s₁=>(∀b o,(D w X n).G.get? b=aA o->s₁.heap.get? b=aA o)/\aO (aY pg w) A (call (.ref (D w X n).hc) vs) Q E s₁) E s->
 aO (aY pg w) A (wj pos (.ref (D w X n).hc) [] l []) Q E s:=by
 refine ⟨(jd (w:=w) (X:=X) "Headers").trans (by lia),λ{A s pos l Q E} hp h=>?_⟩;have hst:(l.any (λx=>x.fst)||([]:List (Option Str×Sem Value)).any λx=>x.fst.isNone)=false:=by erw[hp];rfl
 delta wj;refine aR<|cO<|gK hp<|eY h (λvs s₁ h₁=>?_) λO O x=>x;obtain ⟨hh,g,d,t,os⟩:=s₁;have hC:=h₁.1 _ _ rX;have f1:=tc_lookup;have hT:=(ax _ hC rfl);refine aR<|iJ ?_;refine (?_:aO _ _ (Py (.ref iz)>>=_) _ _ _);delta Py specialOf
 repeat (any_goals (first|assumption|with_reducible refine wpAny_loadPart_at hC ?_|with_reducible refine wpAny_load' hC ?_|wp_step))
 refine sb (QHd<|by rfl)<|sb hst<|(?_:wpAny _ _ (call (.ref iz) vs []>>=λr=>do oy [r] point;pure r) _ _ _)
 exact aR<|eY h₁.2 (λr s' hr=>aR<|cO<|wpAny_point<|bA hr) λO O x=>x
end B01
noncomputable def lq (h:bK) (b:aM):Prop:= ∃v n,h.get? b=aA (listOf v n)
theorem BS (e:h.get? b=aA o) (c: ∀vs n,o≠listOf vs n): ¬ lq h b:=λ⟨vs,n,q⟩=>by rw[e] at q;exact c vs n<|kC q
theorem Sa {vs:Array aI}: ∀ws m,({cls:=.type "tuple",data:=.seq vs n})≠listOf ws m:=λws m q=>by have:=QHf Obj.cls q;exact QHb (Value.type.inj this) (by decide)
theorem Lz {vs:Array aI} (d:o.data=.fields vs): ∀ws m,o≠listOf ws m:=λws m q=>by rw[q] at d;contradiction
set_option tactic.hygienic true in
theorem Vm (hd:uD d=aB) (r:Rd Y h v d) (z: ∀b, ¬ Y b-> ¬ lq h b-> ¬ Z b):Rd Z h v d:=by
 refine jY (QBm hd) λx y l=>?_;clear hd;subst l;refine dZ r.BF λa u n m e M R=>?_;clear r;subst m;refine Rd.tup e (z _ M<|BS e Sa)<|bc R.hU λL F H U s=>?_
 subst H;refine bc s.hU λN P K q Q=>?_;clear s e R;subst K;refine sb Q.kJ<|aV U.dO λt g=>?_
 subst g;refine aV q.dO λo A=>?_;subst A;exact bB.cons (Rd.str _ _)<|bB.cons (Rd.str _ _) bB.nil
theorem OC: ∀{ds:List aK} {vs:List aI},ds.all uD=aB->bB Y h vs ds->(∀b, ¬ Y b-> ¬ lq h b-> ¬ Z b)->bB Z h vs ds:=by
 intro ds;induction ds with
 |nil=>exact @λvs O r O=>sb r.kJ<|bB.nil
 |cons d ds i=>exact @λvs L r z=>by refine bc r.hU λv R H Q q=>?_;clear r;erw[H];simp only[QFT,gn] at L;exact bB.cons (Vm L.1 Q z)<|i L.2 q z
theorem MB {cx:Nat->Option hF} (c:(h8 cx Hh).Inv Y h) (u: ∀b, ¬ Y b-> ¬ lq h b-> ¬ Z b):(h8 cx Hh).Inv Z h:=by
 intro f cf e;obtain ⟨n,i,x,g⟩:=c f cf e;refine vG i λo H K tf F P L text tt op z hd O O O O O O O O O=>.mk (u _ n<|BS z<|Lz hd) i x (g.imp id ?_)
 rintro ⟨C,t,oc,v,B,g2,g3,W,r⟩
 exact ⟨C,t,oc,v,B,g2,u _ g3<|BS g2<|Lz W,W,r⟩
theorem UW {D:Wd} {cx:Nat->Option hF} (hP:D.P=h8 cx Hh) (C:rT D f [] hs (.list zs)) (g:hs.all uD=aB) (hz:zs.all uD=aB) (l: ∀b, ¬ lq D.G b)
 (M: ∀(Y Z:aM->Prop) h x a,Hh.HI Y h x a->(∀b, ¬ Y b-> ¬ lq h b-> ¬ Z b)->Hh.HI Z h x a):EC D f [] hs zs:=by
 intro A s Y us vs x a n Q E c d K v j k;erw[j.kJ];have N: ∀b, ¬ Y b-> ¬ lq s.heap b-> ¬ (Y b\/lq s.heap b):=λb L z q=>q.elim L z;refine C ⟨c.R,c.t,c.base,λb o e q=>?_,λb q=>?_,λb p=>.inl<|c.pf b p,?_⟩ ?_ K (OC g v N) bB.nil λu s' ct r=>?_
 ·rcases q with q|⟨aa,n',q⟩
  ·exact c.fO b o e q
  ·clear hP C g hz M d K v j k N
   obtain rfl:=bM (c.base b o e) q;exact l b<|l6 aa n' e
 ·rcases q with q|⟨aa,n',q⟩
  ·exact c.al b q
  ·exact ⟨_,q⟩
 ·have ab:=c.inv
  rw[hP] at ab⊢;exact MB ab N
 ·rw[hP] at d⊢
  exact M _ _ _ _ _ d N
 ·refine dZ r.lst_inv λH ws m F e1 e2 B=>?_
  clear r;subst F;have i:=ct.inv
  have hn:s.heap.get? H=none:=by
   induction q:s.heap.get? H with
   |none=>rfl
   |some o=>
    exfalso;by_cases p:D.P.PF H
    ·refine cT (D.P.iN i p) λo' aa U d'=>?_
     obtain rfl:=bM e1 U;contradiction
    ·have:=ct.keep H o q id p
     obtain rfl:=bM e1 this;exact e2<|.inr<|l6 _ _ q
  have W: ∀b, ¬ (Y b\/lq s.heap b)-> ¬ lq s'.heap b-> ¬ (Y b\/b=H):=λb L z q=>q.elim (λq=>L<|.inl q) λq=>z<|q▸(l6 _ _ e1);refine k H ws m s' ⟨ct.keep,?_,ct.e⟩ hn e1<|OC hz B W;rw[hP] at i⊢;exact MB i W
namespace B01
variable {w:bz} {X:Nat->bH} {n:Nat}
theorem Rt (Y Z:aM->Prop) (h:bK) (x a:aM) (I:ir.HI Y h x a) (z: ∀b, ¬ Y b-> ¬ lq h b-> ¬ Z b):ir.HI Z h x a:=by
 obtain ⟨n,N,I⟩:=I;obtain ⟨o,M,c,C,r⟩:=id I;refine ⟨z _ n (BS M λW m q=>(by rw[q] at c;contradiction)),λH d e u=>z _ (N H d e u) λ⟨g,m,q⟩=>?_,I⟩;obtain rfl:=bM M e;rcases r with ⟨r,_⟩|⟨R,r,_,K⟩
 ·exact cb r u
 ·obtain rfl:=bM r u
  obtain ⟨v,A,B,j,p,_⟩:=K;obtain rfl:=bM j q;contradiction
noncomputable def kU (X:Nat->bH):Prop:= ∃e,dJ b3 e/\X 138=fC e e.length
noncomputable def PU (o:bH):Bool:=match o.cls with|.type T=>T != "list" |_=>aB
theorem Tg (P:bZ) (X:Nat->bH):((bg 414).all λa=>bt a 138||match iE (eI P X) 414 cZ a with|some o=>PU o|none=>aB)=true:=by lia
theorem Vc (hX:kU X) (b:aM): ¬ lq (D w X n).G b:=by
 rintro ⟨vs,m,e⟩
 have e':=(tF ..).symm.trans e;have:=dq.mp (Tg w.params X) b<|sG.mpr (Ba e').2.2.1;rw[e',IK] at this;refine cp (this) (λq=>?_) λq=>?_
 ·rw[uR q] at e'
  obtain ⟨es,_,hx⟩:=hX;rw[(by lia:iE (eI w.params X) 414 cZ 138=alive (X 138)),hx] at e';have e3:=kC<|e';exact QHb (Value.type.inj (QHf Obj.cls e3:(QFj "dict")=QFj "list")) (by decide)
 ·exact QHb (show PU (listOf #[] 0)=aB from q) (by decide)
theorem WB (Z:z∈lk xs l h s):z∈xs:=aS (Hj.mp Z) λk O e=>DO e
theorem QBa (M:kU X) [cz<|D w X n] [kx<|D w X n] (h:tH (aU n) 1 [] CG xs hs (.list zs)) (H:hs.all uD=aB):EC (D w X<|n+1) 291 xs hs zs:=by
 have h':=h;obtain ⟨hl,e⟩:=h
 obtain rfl:xs=[]:=by
  clear h' e;induction xs with
  |nil=>rfl
  |cons a l=>simp at hl
 have Z:zs=lk hs aF aF none:=by
  induction e.2 with
  |mk e1 e2=>
   clear H h' e;cases e1 with
   |lst i p P p3 _ _=>
    cases p;cases P;clear a_2;cases p3
    clear a_3;cases i with
    |bor i=>
     cases i
     induction e2 with
     |mk e1 e2=>cases e1;cases e2;rfl
 clear e;subst Z;intro A s Y us vs x a m Q E;exact UW rfl (by intro A s Y us vs x a m Q E;exact OU h') H (dq.mpr λz Z=>dq.mp H z<|WB Z) (Vc M) Rt
end B01
theorem Up (h:dJ l es) (k:Int):IY mU es.toArray k=aF/\l.lookup k=aF\/ ∃s u,l.lookup k=aA s/\IY mU es.toArray k=aA (.str s u):=by
 unfold IY;rw[List.find?_toArray];induction h with
 |nil=>exact .inl ⟨rfl,rfl⟩
 | @cons b e l es a _ i=>
  refine jY a λt u B=>sb B ?_;obtain ⟨K,s⟩:=b
  simp! only[List.find?_cons,iK]
  have x:mU k (lh K (.str s u) t).key=(K==k):=rfl;have n:(k==K)=(K==k):=by rw[uV,beq_iff_eq,beq_iff_eq];exact ⟨Eq.symm,Eq.symm⟩
  simp! only[x,n]
  induction hq:(K==k) with
  |true=>exact .inr<|et s u rfl rfl
  |false=>exact i
theorem QDH {w:bz} (h:dJ l es):KeysOf (iq prog w) es.toArray:=λe F=>cT (h.keys e F) λk t H i=>(ax k (by erw[H];exact QHg k) i)
namespace B01
variable {w:bz} {X:Nat->bH} {n:Nat}
theorem b3F (hX:kU X): ∃a ob,(D w X n).mg "b3_exceptions" =aA (.ref a)/\(D w X n).G.get? a=aA ob/\ob.cls=.type "dict" /\ob.dict=aF/\ ∀{A:cV} {s:aN} {i:Int} {t:fG} {Q:aI->aN->Prop} {E:aI->aN->Prop},gz (D w X n).n A->(∀b o,(D w X n).G.get? b=aA o->s.heap.get? b=aA o)->
 (∀u tk,(∀Y h,Rd Y h u<|(D w X n).o.b3 i)->Q u {s with toks:=tk})->aO (aY (D w X n).prog (D w X n).w) A (call (.builtin "dict.get") [.ref a,.int i t]) Q E s:=by
 refine aS hX λes he hx=>?_
 have eg:(D w X n).G.get? 138=aA (fC es es.length):=by
  refine (tF ..).trans ?_
  simp! only[(by lia:iE (eI w.params X) 414 cZ 138=alive (X 138)),hx]
  rfl
 refine (va 138 (fC es es.length) ((jd (w:=w) (X:=X) "b3_exceptions").trans<|by lia) eg rfl rfl (λ{A s i t Q E} R base k=>?_));have hm:s.heap.MapOf (iq pg w) 138 (λk=>IY mU es.toArray k):=(EK _ _ _ (base _ _ eg) ⟨rfl,rfl,rfl⟩ rfl (QDH he) (λO=>rfl));refine call_meetsIn QEy hm.typeIs PySem.F.entry_dict_get (PySem.F.args_dict_get_2 _ _) (meets_dict_get (iq pg w) 138 (QHg i:(iq pg w).is i (.int i t)=aB)<|by decide)<|ax _ hm ?_;refine k _ _ λY h=>(?_);erw[(by clear eg R base k;induction n<;>rfl:(D w X n).o.b3=rC)];unfold rC;rcases Up he i with ⟨e1,e2⟩|⟨s,u,e1,e2⟩
 ·simp! only[e1,e2]
  exact Rd.none
 ·simp! only[e1,e2]
  exact Rd.str _ _
noncomputable def vx (o:bH):Array (Int×aI):=match o.data with|.set e _ _=>e|_=> #[]
noncomputable def Zy (o:bH):SetTable:=match o.data with|.set _ _ t=>t|_=>default
theorem K_: ∀i,(gL.contains i=aB↔ ∃e∈(vx<|ob 127 w.params).toList,mU i e.2=aB):=by
 intro i;have e:(vx<|ob 127 w.params).toList.map (λe=>match e.2 with|.int k _=>k|_=>0)=gL:=by lia
 rw[<-e,Hx,ij];constructor
 ·rintro ⟨x,hx,rfl⟩
  have:=dq.mp (by lia:((vx<|ob 127 w.params).toList.all λe=>match e.2 with|.int _ _=>aB|_=>aE)=aB) x hx;obtain ⟨k,v⟩:=x;induction v<;>first|cases this|skip
  exact (ax _ hx<|QHg _)
 ·rintro ⟨x,hx,h⟩
  exact aV (QFk h) λt ht=>(ax x hx<|sb ht rfl)
theorem Y9: ∃a,(D w X n).mg "b1_set" =aA (.ref a)/\ ∀{A:cV} {s:aN} {i:Int} {t:fG} {Q:aI->aN->Prop} {E:aI->aN->Prop},gz (D w X n).n A->(∀b o,(D w X n).G.get? b=aA o->s.heap.get? b=aA o)->(∀tk,Q (.bool<|(D w X n).o.b1 i) {s with toks:=tk})->aO (aY (D w X n).prog (D w X n).w) A (sI .In (.int i t)<|.ref a) Q E s:=by
 refine (ax 127 ((jd (w:=w) (X:=X) "b1_set").trans<|by lia) λ{A s i t Q E} R base k=>?_);have eo:(D w X n).o.b1=λi=>gL.contains i:=by clear R base;clear k;induction n<;>rfl
 have hS:s.heap.SetOf (iq pg w) 127 (λi=>gL.contains i) 27:=by
  refine ⟨ob 127 w.params,vx<|ob 127 w.params,29,Zy<|ob 127 w.params,(base _ _<|gg<|by lia),⟨rfl,rfl,rfl⟩,rfl,?_,λi=>K_ i,(by lia:(vx<|ob 127 w.params).size=27)▸(by decide:27<scanBound),by lia,by lia⟩;intro e he;have:=dq.mp (by lia:((vx<|ob 127 w.params).toList.all λe=>match e.2 with|.int k t=>e.1==hashInt k && Value.scannable (.int k t)|_=>aE)=aB) e he;obtain ⟨k,v⟩:=e;clear he;induction v<;>first|(exact bq this)|skip
  rw[gn,beq_iff_eq] at this;exact ⟨(ax _ (QHg _) this.1),this.2⟩
 refine QFl (k:=i) (knd:=iq pg w) (QHg i:mU i (.int i t)=aB) rfl hS ?_;have:=k<|s.toks+1;rw[eo] at this;exact this
end B01
namespace B01
variable {w:bz} {X:Nat->bH} {n:Nat}
noncomputable def LJ (P:bZ):FuncData:=dF<|ob 324 P
theorem QCW (P:bZ) (q u U:aI):nQ (LJ P) ⟨[q,u,U],[]⟩=(alloc {cls:=.type "dict",data:=.dict #[]}>>=λd=>pure [(("self" :aG),q),(("_name" :aG),u),(("_value" :aG),U),(("_params" :aG),.ref d)]):=by lia
theorem QAM (P:bZ) (X:Nat->bH):ti (eI P X) 414 cZ 324 323 2748 (ob 324 P) (ob 323 P) (fJ<|dB 28 16) (cI<|dB 28 16).names:=by lia
theorem QCX [cz<|D w X n] [kx<|D w X n] (e:vv (aU n) 4 [.emp] yE xs hs d hs'):rU (D w X<|n+1) 324 xs hs d hs':=by
 intro A s Y us vs x ia m Q E c hi xa ha hvs hv k;refine bI e λhl he=>?_;have fo:=Jp (cd:=aF) (QAM w.params X) λO O e=>ay e
 have h0:eX (cI<|dB 28 16).names.length 200=true:=by lia
 have h4:(rM (Fc.fn (cI<|dB 28 16).names 200 aB aE aF<|dM h0) (cI<|dB 28 16).names ["self","_name","_value","_params"] 4 && jx ci (Fc.fn (cI<|dB 28 16).names 200 aB aE aF<|dM h0) yE (fJ<|dB 28 16))=true:=by lia
 have q:=zO (aD h4).1
 have hxl:us.length=2:=by
  have:=hv.len;rw[du,dY] at hl
  simp! only[this]
  exact zz<|zz hl
 have y: ∀b,(λb=>b=ia) b->Y b:=λb q=>q▸xa;have kp: ∀b o,s.heap.get? b=aA o->(s.heap.push jJ).get? b=aA o:=λO O e=>gS _ e;have mm:Mon Y s.heap Y (s.heap.push jJ):=λb o e n=>⟨kp _ _ e,n⟩;have npd: ∀b,(D w X n).P.PF b->(s.heap.push jJ).get? b=s.heap.get? b:=λb p=>cT ((D w X n).P.iN c.inv p) λo O e O=>sb e<|sb (kp _ _ e) rfl
 have c1:CS (D w X<|n+1) A Y {s with heap:=s.heap.push jJ}:=⟨c.R,c.t,λb o e=>kp _ _<|c.base b o e,c.fO,λb q=>let ⟨o,w⟩:=c.al b q;⟨o,kp _ _ w⟩,c.pf,(D w X n).P.iM c.inv mm npd⟩;revert hv;refine i9 (P:=λus=>bB Y s.heap us xs->aO (aY (D w X<|n+1).prog (D w X<|n+1).w) A (call (.ref 324)<|.ref x::us) Q E s) (λu1 u2 hv=>?_) us hxl;refine xA (QE c.R.lt (c.base _ _<|gg (by lia:iE (eI w.params X) 414 cZ 324=aA (ob 324 w.params))) (by lia:(ob 324 w.params).data=.func (LJ w.params)) fo.co fo.ge fo.bd (fo.cr.keeps c.base) ?_)
 simp! only[QCW]
 refine aR<|H4<|bA ?_;refine Mj (D:=D w X n) (z:=⟨{s with heap:=s.heap.push jJ},λb=>b=ia\/(D w X n).P.PF b,vD ia⟩) (Ob:=ta (D w X n) Y λb=>b=ia) (us:=[.ref x,u1,u2,.ref s.heap.objs.size]) (sls:=Sl.inst::(xs.map xS++[Sl.emp])) (l:=rH hs) (Kb:=HJ d hs') (bs:=yE.map SW.w) ⟨q.2,lZ nY (aD h4).2,rfl⟩ vg fo q.1 (((q.2.uO (D:=D w X n)).1.trans xB).trans hl.symm) he (λi q=>HF aB<|mJ q<|by decide) c.R c.t (GV c1 y (kp _ _ ha) (hvs.mon mm) (λi ys e=>E0 aB e) rfl (λO=>rfl) (λw=>QHb rfl w)) (.cons (cy x ia wJ rfl ((D w X n).P.kS hi λb o e n=>qj y c.pf b o (kp _ _ e) n))<|(eU.vals<|(hv.mon mm).mon<|qj y c.pf).app<|.cons (gd _ rfl (fH _ rfl) (λq=>(λq=>by refine aV (c.al _ q) λo w=>?_;exact cb (ie (bh _):s.heap.get? s.heap.objs.size=aF) w: ¬ Y s.heap.objs.size)<|Bw y c.pf q)) .nil) (λfl l' d' g g' u env z' b=>?_) (λl' g=>by cases g.1);refine eN g λg hr1 hr2=>?_;obtain rfl:=g.fn g';have pe:=(b.s.p.hn rfl).trans wJ;refine dT (b.F.own aT hs' hr1) λia' vs' n' e1 e2 e3=>?_;obtain rfl:=bM pe e1;have wa: ∀b,b=ia->z'.W b:=λO q=>q▸b.F.jf hs' hr1 hr2 ia pe;exact bI (b.ct (o':=aU<|n+1) (m:=n+1) wa λO q=>q▸pe) λh1 h2=>k u z'.s vs' n' ⟨λb o e q p=>h1.keep b o (kp _ _ e) q p,h1.inv,h1.e⟩ e2 (e3.mon λc o e n=>⟨e,λw=>n<|Ds wa b.F.pf w⟩) h2
end B01
structure fK (G:bK) (mg:aG->Option aI) (env:cg) (m:aG->Option aI) (h:bK):Prop where
 gl:Gl G mg
 base: ∀b o,G.get? b=aA o->h.get? b=aA o
 loc:h.Ns env.locals m
 hk:env.scope.kind=.function
 hg:env.globals=nO
 hb:env.builtins=ic
section
variable {G:bK} {mg:aG->Option aI} {env:cg} {m:aG->Option aI} {prog:sH} {w:bz} {A:cV} {s:aN} {E:aI->aN->Prop} {pos:bP}
theorem fK.keeps (F:fK G mg env m h) (k: ∀b o,h.get? b=aA o->h'.get? b=aA o):fK G mg env m h':=⟨F.gl,λb o e=>k b o<|F.base b o e,F.loc.keeps k,F.hk,F.hg,F.hb⟩
theorem gJ (F:fK G mg env m s.heap) (K:env.kindOf nm=aA .local) (hu:m nm=aA u) (h:Q u s) (hd:(nm==("__debug__"))=aE):aO (aY prog w) A (b7 (.Name nm pos) env) Q E s:=wpAny_Name (Pj F.hk K F.loc hu h) hd
theorem JL (F:fK G mg env m s.heap) (K:env.kindOf nm=aA .globalImplicit) (hu:mg nm=aA u) (h:Q u s) (hd:(nm==("__debug__"))=aE):aO (aY prog w) A (b7 (.Name nm pos) env) Q E s:=by refine Hv F.hk K ?_ hd;refine QEn ?_ hu h;exact sb F.hg<|F.gl.g.keeps F.base
theorem xm (F:fK G mg env m s.heap) (K:env.kindOf nm=aA .globalImplicit) (hn:mg nm=aF) (hu:Hp nm=aA u) (h:Q u s) (hd:(nm==("__debug__"))=aE) (n:nm≠ "__name__"):aO (aY prog w) A (b7 (.Name nm pos) env) Q E s:=by
 refine Hv F.hk K ?_ hd;refine QEm (mg:=mg) (mb:=G.nsMap ic) ?_ hn ?_ ?_ h
 ·exact sb F.hg<|F.gl.g.keeps F.base
 ·exact sb F.hb<|F.gl.b.keeps F.base
 ·exact sb (F.gl.bo nm n)<|hu
theorem rl (F:fK G mg env m s.heap) (K:env.kindOf nm=aA .local) (L:G.get? env.locals=aF) (h: ∀h' tk,fK G mg env (λy=>if y=nm then aA u else m y) h'->(∀b o,b≠env.locals->s.heap.get? b=aA o->h'.get? b=aA o)->Q () {s with heap:=h',toks:=tk}):
 aO (aY prog w) A (mR (.Name nm pos) env u) Q E s:=by
 refine uf (QEY K F.loc (λh' hn sb=>?_) (by erw[F.hk];rfl));have k: ∀b o,b≠env.locals->s.heap.get? b=aA o->h'.get? b=aA o:=λb o n e=>(sb.2 b n).trans e;exact h h' _ ⟨F.gl,λb o e=>k b o (λq=>by simp only[q,L] at e;exact ay e)<|F.base b o e,hn,F.hk,F.hg,F.hb⟩ k
end
namespace B01
variable {w:bz} {X:Nat->bH} {n:Nat}
noncomputable def rk (P:bZ):FuncData:=dF<|ob 228 P
theorem S5 (P:bZ) (X:Nat->bH):(G P X).CodeRec (rk P).code (rk P).qualname:=(FJ 227 (ob 227 P) (kW<|ob 227 P) 2635 (by lia) (gg<|by lia) (by lia)<|by lia)
theorem Un (P:bZ) (u v:aI) (b:Bool):nQ (rk P) ⟨[u,v],[("name",.bool b)]⟩=pure [(("self" :aG),u),(("value" :aG),v),(("name" :aG),.bool b)]:=by lia
theorem Uc (b:Bool):gG (G w.params X) (if b then 193 else 198) (mA b):=by
 induction b with
 |true=>exact ⟨ob 193 w.params,192,ob 192 w.params,kW<|ob 193 w.params,BB<|ob 192 w.params,0,gg (by lia),rfl,rfl,rfl,by lia,by lia,by lia,gg (by lia),rfl,by lia⟩
 |false=>exact ⟨ob 198 w.params,197,ob 197 w.params,kW<|ob 198 w.params,BB<|ob 197 w.params,0,gg (by lia),rfl,rfl,rfl,by lia,by lia,by lia,gg (by lia),rfl,by lia⟩
theorem J5 (ok:gO b xx=aB) {E:aI->aN->Prop} (hdp:A.depth<1000) (base: ∀b o,(G w.params X).get? b=aA o->s.heap.get? b=aA o)
 (k: ∀h' tk,(∀b o,s.heap.get? b=aA o->h'.get? b=aA o)->Q (.str xx t) {s with heap:=h',toks:=tk}):aO (aY pg w) A (call (.ref 228) [.ref x,.str xx t] [("name",.bool b)]) Q E s:=by
 refine xA (Ql (fd:=rk w.params) (body:=fJ<|dB 28 1) (binds:=[(("self" :aG),.ref x),(("value" :aG),.str xx t),(("name" :aG),.bool b)]) hdp (base _ _<|gg (by lia:iE (eI w.params X) 414 cZ 228=aA (ob 228 w.params))) (by lia) (nF.lim.keeps base) ((S5 w.params X).keeps base) (by lia) (.of_eq<|Un _ _ _ _) ?_ ?_ (λh1 ns k1=>?_) (by lia) (by lia)<|by lia)
 ·exact λx hx=>by simpa using dq.mp (by lia:(rk w.params).scope.names.all (λx=> !(x.2==.cell))=aB) x hx
 ·intro y hy
  simp only[bp,gU,or_false] at hy;clear ok hdp base k;rcases hy with rfl|rfl|rfl<;>lia
 have F:fK (G w.params X) (mg w X) (IZ (rk w.params) s.heap.objs.size 228) _ h1:=⟨nF,λb o e=>k1 _ _<|base b o e,ns,by lia,by lia,by lia⟩
 have hL:(G w.params X).get? s.heap.objs.size=none:=by
  induction q:(G w.params X).get? s.heap.objs.size with
  |none=>rfl
  |some o=>exact QHb (kh<|base _ _ q)<|mK _
 refine ip<|wpAny_If (wpAny_isTrue_Compare1 (wpAny_Call_Name_kw<|xm F (by lia) (yk _<|by decide+kernel) (u:=.type "type") (by lia) ?_ (by decide+kernel)<|by decide+kernel) rfl)
 refine wo rfl (gK rfl ?_);refine ua (gJ F (by lia) (u:=.str xx t) (by lia) (lP ?_)<|by decide+kernel);refine Pz (Ph _ _ _) (by decide+kernel)<|xm F (by lia) (yk _<|by decide+kernel) (u:=.type "str") (by lia) ?_ (by decide+kernel) (by decide+kernel)
 refine QEl rfl (ou ?_);refine sb (QHd<|by decide)<|wpAny_execs_cons ?_
 have hr:(mg w X) (if b then "_name_disallowed_re" else "_value_disallowed_re")=aA (.ref<|if b then 193 else 198):=by
  clear ok ns F;induction b with
  |true=>exact (jd (w:=w) (X:=X) "_name_disallowed_re").trans (by lia)
  |false=>exact (jd (w:=w) (X:=X) "_value_disallowed_re").trans (by lia)
 have go: ∀{E':aI->aN->Prop} {Q':aI->aN->Prop} {A':cV} {p0 p1 p2 p3:bP} {s1:aN},s1.heap=h1->Q' (.ref<|if b then 193 else 198) s1->aO (aY pg w) A' (b7 (.IfExp (.Name "name" p0) (.Name "_name_disallowed_re" p1) (.Name "_value_disallowed_re" p2) p3)<|IZ (rk w.params) s.heap.objs.size 228) Q' E' s1:=by
  intro E' Q' A' p0 p1 p2 p3 s1 es q;have F':=es▸F;refine wpAny_IfExp (Ia<|gJ F' (by lia) (u:=.bool b) (by lia) (ou ?_)<|by decide+kernel);clear ok ns F;induction b with
  |true=>exact JL F' (by lia) hr q (by decide+kernel)
  |false=>exact JL F' (by lia) hr q (by decide+kernel)
 refine jV rfl rfl rfl (go rfl ?_);refine rl F (by lia) hL λh2 t2 F2 k2=>ip ?_;have P2:=(Uc (w:=w) (X:=X) b).keeps F2.base;refine dA P2.own λo pa O pc=>IF (Ia<|wx rfl rfl rfl (gJ F2 (by lia) (u:=.ref<|if b then 193 else 198) (by lia) ?_<|by decide+kernel));refine (uC ("re.Pattern") ("re.Pattern.search") O0 PJ Sj P2.typeIs (λa' e=>?_)<|wm rfl (gK rfl ?_))
 ·clear ok ns F hr go F2 k2 P2
  cases e
  exact (ax o pa pc)
 refine ua (gJ F2 (by lia) (u:=.str xx t) (by lia) (lP ?_)<|by decide+kernel);refine Sp P2 ok<|wpAny_pure<|sb (if_neg<|by decide)<|wpAny_execs_nil<|wpAny_execs_cons<|wpAny_Return_some (gJ F2 (by lia) (u:=.str xx t) (by lia) ?_<|by decide+kernel)
 exact k h2 t2 λb' o' e=>k2 b' o' (λq=>by rw[q] at e;exact QHb (kh e)<|mK _)<|k1 b' o' e
end B01
namespace B01
variable {w:bz} {X:Nat->bH} {n:Nat}
noncomputable def wI (P:bZ):FuncData:=dF<|ob 221 P
theorem RU (P:bZ) (X:Nat->bH):(G P X).CodeRec (wI P).code (wI P).qualname:=⟨220,ob 220 P,kW<|ob 220 P,2625,by lia,gg (by lia),by lia,by lia⟩
theorem Zo {X:Nat->bH} (B: ∀b o,(G P X).get? b=aA o->s.heap.get? b=aA o) (u v:aI):BindsTo s (wI P) ⟨[u,v],[]⟩ [(("self" :aG),u),(("headers" :aG),v)]:=by intro M A E Q q;refine (?_:aO M A (QR (.ref 214)>>=_) Q E s);refine aR (IG (B _ _ (gg<|by lia):s.heap.get? 214=aA (ob 214 P)) rfl ?_);exact qr (by lia) q
noncomputable abbrev EN (P:bZ) (L:aM):Env:=IZ (wI P) L 221
theorem tU {nm y:aG} {p0 p1 p2 p3 p4 p5 p6:bP} {E:aI->aN->Prop} (hdp:A.depth<990) (F:fK (G w.params X) (mg w X) env m s.heap) (I:s.heap.Inst x iz (Cf a))
 (hS:env.kindOf "self" =aA .local) (mS:m "self" =aA (.ref x)) (hN:env.kindOf nm=aA .local) (mN':m nm=aA (.str y ty)) (hd:(nm==("__debug__"))=aE) (ok:gO b y=aB)
 (hm:Ca (.Name "self" p0) "_convert_string_type" p1 p5 [.Name nm p2] [⟨aA "name",.Constant (.bool b) kk p3,p4⟩]) (hsw:DG (.Call (.Attribute (.Name "self" p0) "_convert_string_type" p1) [.Name nm p2] [⟨aA "name",.Constant (.bool b) kk p3,p4⟩] p5) aF p6.line env=pure aE)
 (hdr: ∀u t,z9 (.Call (.Attribute (.Name "self" p0) "_convert_string_type" p1) [.Name nm p2] [⟨aA "name",.Constant (.bool b) kk p3,p4⟩] p5) p6 (.str u t)=pure .next)
 (hs:fI [.Name nm p2] env=[(aE,b7 (.Name nm p2) env)])
 (h: ∀h' tk,(∀b o,s.heap.get? b=aA o->h'.get? b=aA o)->Q .next {s with heap:=h',toks:=tk}):
 aO (aY pg w) A (o6 (.Expr (.Call (.Attribute (.Name "self" p0) "_convert_string_type" p1) [.Name nm p2] [⟨aA "name",.Constant (.bool b) kk p3,p4⟩] p5) p6) env) Q E s:=by
 refine Bb F.hk hsw (xU hm<|gJ F hS mS ?_<|by decide+kernel);intro pl;refine vI (n:=0) (Y:=λO=>False) (x:=x) (a:=a) (f:=228) (of:=ob 228 w.params) (y:=aF) F.base ⟨λq=>q,λO O O O q=>q,I⟩ ((kH _).trans<|by lia) (gg<|by lia) rfl (by ac_nf) (by decide)<|Gi (evalArgs_kw2 rfl ?_ (by simp! only[hs];rfl))
 refine ua<|gJ F hN mN' (lP<|kwAll_cons<|EZ<|kwAll_nil ?_) hd;refine ⟨⟨ob 228 w.params,rk w.params,F.base _ _ (gg<|by lia),by lia⟩,?_⟩;refine J5 ok (az ‹_› (gA _ _)) F.base λh' tk kp=>⟨hdr _ _,h h' tk kp⟩
noncomputable abbrev Kp (h h':bK):Prop:= ∀b o,h.get? b=aA o->h'.get? b=aA o
noncomputable abbrev Kx (L:aM) (h h':bK):Prop:= ∀b o,b≠L->h.get? b=aA o->h'.get? b=aA o
theorem Inst.but (I:h.Inst x c m) (k:Kx L h h') (n:x≠L) (N: ∀o d,h.get? x=aA o->o.dict=aA d->d≠L):h'.Inst x c m:=se I λo e q C r=>⟨o,k _ _ n e,q,C,r.imp id λr=>dA r λd a b c=>⟨d,a,b,c.at λO=>k _ _<|N o d e a⟩⟩
theorem QDt {nw k0 B k2:Nat} {pk pv pt p0 p p2 p3 c p5 p6 Z r1 r2 r3 r4 r r6:bP} {E:aI->aN->Prop}
 (C:A.handled=aF) (d:A.depth<990) (F:fK (G w.params X) (mg w X) env m s.heap) (L:(G w.params X).get? env.locals=aF) (e1:env.kindOf "self" =aA .local) (e2:env.kindOf "k" =aA .local) (u:env.kindOf "v" =aA .local) (N:m "self" =aA (.ref x))
 (I: ∀h',Kx env.locals s.heap h'->h'.Inst x iz (Cf a)) (e4:s.heap.get? b1=aA {cls:=.type "tuple",data:=.seq #[.str Y z,.str j z2] nw}) (v:gO aB Y=aB) (o2:gO aE j=aB) (l1:(p.endLine==p5.line)=aB) (W:(r1.endLine==r.line)=aB)
 (h: ∀h' tk g,fK (G w.params X) (mg w X) env g h'->g "self" =aA (.ref x)->Kx env.locals s.heap h'->R .next {s with heap:=h',toks:=tk}):
 aO (aY pg w) A (mR (.Tuple [.Name "k" pk,.Name "v" pv] k0 pt) env<|.ref b1) (λO H=>aO (aY pg w) A (fX [.Expr (.Call (.Attribute (.Name "self" p0) "_convert_string_type" p) [.Name "k" p2] [⟨aA "name",.Constant (.bool aB) B p3,c⟩] p5) p6,.Expr (.Call (.Attribute (.Name "self" Z) "_convert_string_type" r1) [.Name "v" r2] [⟨aA "name",.Constant (.bool aE) k2 r3,r4⟩] r) r6] env) R E H) E s:=by
 refine wpAny_assign_Tuple C ⟨_,e4,rfl,_,rfl⟩ rfl rfl λh6 U=>?_;have U:Kp s.heap h6:=λb o e=>U b o (qo<|kh e) e;refine aR<|cO<|rl (F.keeps U) e2 L λh7 t7 l P=>?_;refine aR<|cO<|rl l u L λq t8 f M=>?_;have M:Kx env.locals s.heap q:=λb o n e=>M b o n<|P b o n<|U b o e;have i:=I _ M;refine bA (ip<|tU d f i e1 N e2 rfl (by decide+kernel) v ⟨λO=>rfl,λO=>rfl,l1⟩ rfl (λO O=>rfl) rfl λh9 t9 t=>?_);exact ip (tU d (f.keeps t) (i.keeps t) e1 N u rfl (by decide+kernel) o2 ⟨λO=>rfl,λO=>rfl,W⟩ rfl (λO O=>rfl) rfl λQ aa K=>zy<|h _ _ _ ((f.keeps t).keeps K) N λb o n e=>K b o<|t b o<|M b o n e)
structure NI (w:bz) (X:Nat->bH) (env:cg) (J a x:aM) (vs:Array aI) (s3:aN) (j:Nat) (s:aN):Prop where
 e:s={s3 with heap:=s.heap,toks:=s.toks}
 it:s.heap.IsListIter J a j
 il:s.heap.IsList a vs
 F: ∃m,fK (G w.params X) (mg w X) env m s.heap/\m "self" =aA (.ref x)
 k: ∀b o,b≠J->b≠env.locals->s3.heap.get? b=aA o->s.heap.get? b=aA o
theorem Vy (h:v8 d=aB): ∃Y e,d=.tuple [.str Y,.str e]/\gO aB Y=aB/\gO aE e=true:=by
 cases d with
 |tuple x=>
  cases x with
  |nil=>contradiction
  |cons a x=>
   cases x with
   |nil=>cases a<;>contradiction
   |cons b x=>
    cases a with
    |str Y=>
     cases b with
     |str e=>
      cases x with
      |nil=>exact ⟨Y,e,rfl,f7.mp h⟩
      |cons=>contradiction
     |_=>contradiction
    |_=>contradiction
 |_=>contradiction
theorem TP (r:Rd Y h v (.tuple [.str s,.str e])): ∃b n z Z,v=.ref b/\h.get? b=aA {cls:=.type "tuple",data:=.seq #[.str s z,.str e Z] n}:=by refine dZ r.BF λb a n R C O r=>bc r.hU λu W p Q r=>bc r.hU λU N q d r=>aV Q.dO λz x=>aV d.dO λZ c=>?_;rw[p,q,x,c,r.kJ] at C;exact ⟨b,n,z,Z,R,C⟩
theorem zH {A:cV} {s:aN} {env:cg} {m0 k0 kk K:Nat} {vs:List aI} {xs:List aK} {pk pv pt p0 P p2 p3 p4 p5 p6 r0 r1 r2 r3 r4 r5 r6:bP}
 (N:A.handled=aF) (dp:A.depth<990) (F:fK (G w.params X) (mg w X) env m s.heap) (hL:(G w.params X).get? env.locals=aF) (e1:env.kindOf "self" =aA .local) (e2:env.kindOf "k" =aA .local) (e3:env.kindOf "v" =aA .local) (mS:m "self" =aA (.ref x))
 (I:s.heap.Inst x iz (Cf a)) (n1:x≠env.locals) (n2: ∀o d,s.heap.get? x=aA o->o.dict=aA d->d≠env.locals) (na:a≠env.locals) (Q:xs.all v8=aB) (t:s.heap.get? a=aA (listOf vs.toArray m0)) (u:bB Y s.heap vs xs) (l1:(P.endLine==p5.line)=aB) (l2:(r1.endLine==r5.line)=aB)
 (h: ∀h' tk,Kx env.locals s.heap h'->R (.ok .next) {s with heap:=h',toks:=tk}):
 uh (aY pg w) A (.forLoop (.Tuple [.Name "k" pk,.Name "v" pv] k0 pt) (.ref s.heap.objs.size) [.Expr (.Call (.Attribute (.Name "self" p0) "_convert_string_type" P) [.Name "k" p2] [⟨aA "name",.Constant (.bool aB) kk p3,p4⟩] p5) p6,.Expr (.Call (.Attribute (.Name "self" r0) "_convert_string_type" r1) [.Name "v" r2] [⟨aA "name",.Constant (.bool aE) K r3,r4⟩] r5) r6] [] env) R {s with heap:=s.heap.push {cls:=.type "list_iterator",data:=.fields #[.ref a,.int 0 0]}}:=by
 have nJ: ∀b o,s.heap.get? b=aA o->b≠s.heap.objs.size:=λb o e=>qo<|kh e;have Z:Kp s.heap (s.heap.push {cls:=.type "list_iterator",data:=.fields #[.ref a,.int 0 0]}):=λO O e=>gS _ e;refine dT F.loc λoL es ep L dL rL=>?_;have l:=nJ _ _ L
 refine MD (Walks.list N s.heap.objs.size a (nJ _ _ t) vs.toArray) (λi h st=>dA st.1 λo e c O=>⟨o,"list_iterator",e,c,by decide⟩) (NI w X env s.heap.objs.size a x vs.toArray s) (λj s' q=>⟨q.it,q.il⟩)
  ⟨rfl,⟨_,fH _ rfl,rfl,rfl⟩,(gM t).push _,⟨m,F.keeps Z,mS⟩,λb o O O e=>Z b o e⟩ (λs' h' tk q k O=>?_) λj s' h' tk v g q hP st k O Er=>?_
 ·exact sb q.e<|h h' tk λb o n e=>k b o (q.k b o (nJ b o e) n e)<|nJ b o e
 ·refine aS q.F λm4 f M=>?_
  rw[zc] at hP;have g:j<xs.length:=by rwa[gm,u.len] at g
  refine aS (u.get<|sR g) λv' e5 r=>?_;cases bM hP e5;refine bc (Vy<|dq.mp Q _<|List.getElem_mem g) λy1 y2 W o1 o2=>?_;rw[W] at r;refine Hc (TP r) λb1 nw z1 z2 ev p=>sb ev ?_;have U:=k _ _ (q.k _ _ (nJ _ _ p) (λz=>by rw[z,L] at p;clear L r W;cases p;contradiction) p)<|nJ _ _ p;exact QDt N dp ⟨f.gl,λb o e=>k b o (f.base b o e)<|nJ b o<|F.base b o e,f.loc.at λo e=>k _ o e l,f.hk,f.hg,f.hb⟩ hL e1 e2 e3 M (λH K=>Inst.but I ((λH K b o n e=>K b o n<|k b o (q.k b o (nJ b o e) n e)<|nJ b o e) H K) n1 n2) U o1 o2 l1 l2 λH t2 m2 F2 C K=>⟨by exact sb q.e rfl,st.1.at λo e=>K _ o (lO l) e,st.2.at λo e=>K _ o na e,⟨m2,F2,C⟩,λb o B nl e=>K b o nl<|k b o (q.k b o B nl e) B⟩
theorem QDo {A:cV} {s:aN} {vs:List aI} {xs:List aK} {E:aI->aN->Prop} (hA:A.handled=aF) (hdp:A.depth<950) (hu:A.units<9700) (base: ∀b o,(G w.params X).get? b=aA o->s.heap.get? b=aA o) (fO: ∀b o,(G w.params X).get? b=aA o-> ¬ Y b) (dg: ∀b,Y b-> ∃o,s.heap.get? b=aA o)
 (hall:xs.all v8=aB) (ha:s.heap.get? a=aA (listOf vs.toArray m)) (hv:bB Y s.heap vs xs)
 (k: ∀x h' tk,(∀b o,s.heap.get? b=aA o->h'.get? b=aA o)->ir.HI Y h' x a->Q (.ref x) {s with heap:=h',toks:=tk}):aO (aY pg w) A (call (.ref iz) [.ref a]) Q E s:=by
 obtain ⟨hh,g,d,t,os⟩:=s;refine wpAny_call_obj_init PySem.F.objNew (base _ _ rX) (xY.keeps base) ((kH _).trans (by lia:DN (rS<|ob 326 w.params) "__init__" =aA (.ref 221))) (base _ _<|gg (by lia:iE (eI w.params X) 414 cZ 221=aA (ob 221 w.params))) rfl (λh' x dx Mk=>?_);have base': ∀b o,(G w.params X).get? b=aA o->h'.get? b=aA o:=λb o e=>Mk.keeps _ _<|base b o e;refine xA (Ql (fd:=wI w.params) (body:=fJ<|dB 28 0) (binds:=[(("self"),.ref x),(("headers"),.ref a)]) ?_ (base' _ _<|gg (by lia:iE (eI w.params X) 414 cZ 221=aA (ob 221 w.params))) (by lia) (nF.lim.keeps base') ((RU w.params X).keeps base') (by lia) (Zo base' _ _) ?_ ?_ (λh1 ns k1=>?_) (by lia) (by lia)<|by lia)
 ·refine (?_)
  exact ig ‹_› (by decide)
 ·exact λx hx=>by simpa -iota using dq.mp (by lia:(wI w.params).scope.names.all (λx=> !(x.2==.cell))=aB) x hx
 ·intro y hy
  simp! only[bp,gU,or_false] at hy
  rcases hy with rfl|rfl<;>lia
 have F:fK (G w.params X) (mg w X) (EN w.params h'.objs.size) _ h1:=⟨nF,λb o e=>k1 _ _<|base' b o e,ns,by lia,by lia,by lia⟩
 have hL:(G w.params X).get? h'.objs.size=none:=by
  induction q:(G w.params X).get? h'.objs.size with
  |none=>rfl
  |some o=>exact QHb (kh<|base' _ _ q)<|mK _
 have ha1:=k1 _ _<|Mk.keeps _ _ ha;refine ip<|jV rfl rfl rfl (wpAny_IfExp<|wpAny_isTrue_Compare1 (gJ F (by lia) (u:=.ref a) (by lia) ?_<|by decide+kernel) rfl)
 refine bA<|wpAny_isNot_plain rfl (wpAny_truthy_bool ?_)
 dsimp only[show (!(wY a==Value.none))=aB from rfl];refine gJ F (by lia) (u:=.ref a) (by lia) ?_ (by decide+kernel);refine rl F (by lia) hL λh2 t2 F2 k2=>?_;obtain ⟨m2,F2,mS,mH⟩: ∃m2,fK (G w.params X) (mg w X) (EN w.params h'.objs.size) m2 h2/\m2 "self" =aA (.ref x)/\m2 "headers" =aA (.ref a):=⟨_,F2,by lia,by lia⟩;have iU: ∀b o,h'.get? b=aA o->b≠h'.objs.size:=λb o e q=>by simp! only[q,(ie<|bh _)] at e;exact ay e
 have k12: ∀b o,h'.get? b=aA o->h2.get? b=aA o:=λb o e=>k2 b o (iU b o e)<|k1 b o e;have xa:a≠x:=λq=>by have:=Mk.newX;simp! only[<-q] at this;exact cb this ha
 refine ip<|wpAny_If (wpAny_isTrue_Compare1 (wpAny_Call_Name_kw<|xm F2 (by lia) (yk _<|by decide+kernel) (u:=.type "type") (by lia) ?_ (by decide+kernel)<|by decide+kernel) rfl)
 refine wo rfl (gK rfl ?_);refine ua (gJ F2 (by lia) (u:=.ref a) mH (lP ?_)<|by decide+kernel);refine Pz (x:=.ref a) (Tx:= "list") ⟨_,(k12 _ _<|Mk.keeps _ _ ha),rfl⟩ (by decide+kernel)<|xm F2 (by lia) (yk _<|by decide+kernel) (u:=.type "list") (by lia) ?_ (by decide+kernel) (by decide+kernel)
 refine Pn rfl (ou ?_);refine sb (QHc<|by decide)<|wpAny_execs_nil ?_
 refine ip<|plainObj_wpAny_Assign_Attribute (gJ F2 (by lia) (u:=.ref a) mH (gJ F2 (by lia) (u:=.ref x) mS ?_<|by decide+kernel)<|by decide+kernel)
 have xC:x≠iz:=λq=>by
  have e:=base _ _<|rX (w:=w) (X:=X);have:=Mk.newX
  simp! only[q] at this
  exact QHb (e.symm.trans this) (by intro q;exact qU q)
 obtain ⟨ox,hx,hcx,Df,hdx⟩:=id Mk.inst;have hdd:=Mk.dict ox hx;refine store_attr PySem.F.store_object (F2.base _ _ rX:h2.get? iz=aA _) (xY.keeps F2.base) ((kH _).trans<|by lia) ((kH _).trans<|by lia) (by ac_nf) xC (Mk.inst.keeps k12:h2.Inst x iz λO=>aF) (ns:=[]) (λh3 t3 I3 k3 sm3=>?_) (λy hy=>QHb rfl hy) (by decide);refine uL (sm3 ox<|k12 _ _ hx) λox3 hx3 hcx3 Ld hs3 hdd3=>?_;have hdd3:=hdd3 dx hdd
 have k23: ∀b o,b≠x->b≠dx->h2.get? b=aA o->h3.get? b=aA o:=λb o n1 n2 e=>k3 b o n1 (λo₀ d' e₀ ed=>by
  obtain rfl:=bM (k12 _ _ hx) e₀;obtain rfl:=bM hdd ed
  exact n2) e
 have nx: ∀b o,hh.get? b=aA o->b≠x/\b≠dx:=λb o e=>⟨λq=>(by have:=Mk.newX;simp! only[<-q] at this;exact cb this e),λq=>(by have:=Mk.newD;simp! only[<-q] at this;exact cb this e)⟩;have k03: ∀b o,hh.get? b=aA o->h3.get? b=aA o:=λb o e=>k23 b o (nx b o e).1 (nx b o e).2<|k12 _ _<|Mk.keeps _ _ e
 have hdn: ∃od,h'.get? dx=aA od:=by
  rcases hdx with ⟨hn0,_⟩|⟨d',hd',_,hns'⟩
  ·exact cb hn0 hdd
  ·obtain rfl:=bM hdd hd'
   obtain ⟨od,_,_,e,_⟩:=hns';exact ⟨od,e⟩
 refine aV hdn λod hod=>?_;have F3:fK (G w.params X) (mg w X) (EN w.params h'.objs.size) m2 h3:=by obtain ⟨oL,es,ep,eL,rL⟩:=F2.loc;exact ⟨nF,λb o e=>k03 b o<|base b o e,⟨oL,es,ep,k23 _ _ (λq=>QHb q.symm<|iU _ _ hx) (λq=>QHb q.symm<|iU _ _ hod) eL,rL⟩,F2.hk,F2.hg,F2.hb⟩
 have ha3:=k03 _ _ ha
 have HI3:ir.HI Y h3 x a:=⟨λq=>(by refine aV (dg _ q) λo e=>?_;exact cb Mk.newX e),λo d' e ed q=>(by
  obtain rfl:=bM hx3 e;obtain rfl:=bM hdd3 ed
  exact aV (dg _ q) λo e=>cb Mk.newD e),I3⟩
 refine ip<|wpAny_If<|wpAny_isTrue_value ?_
 refine bA<|ou ?_;dsimp only[if_pos rfl];refine ip<|wpAny_For (gJ F3 (by lia) (u:=.ref a) mH (wpAny_pyIter_list (gM ha3) ?_)<|by decide+kernel) λO=>rfl
 have nx0:=iU _ _ hx
 have n2: ∀o d,h3.get? x=aA o->o.dict=aA d->d≠h'.objs.size:=λo d e ed=>by
  cases bM hx3 e
  cases bM hdd3 ed
  exact iU _ _ hod
 refine zH (m:=m2) hA (aQ hdp:A.depth+1+1<990) F3 hL (by lia) (by lia) (by lia) mS I3 nx0 n2 (iU _ _<|Mk.keeps _ _ ha) hall ha3 (hv.mon<|Mon.all k03) rfl rfl λh5 t5 k5=>zy<|zy ⟨rfl,k x h5 t5 (λb o e=>k5 b o (iU _ _<|Mk.keeps _ _ e)<|k03 b o e) ⟨HI3.1,λo d e ed=>?_,Inst.but I3 k5 nx0 n2⟩⟩;cases bM (k5 _ _ nx0 hx3) e;exact HI3.2.1 _ _ hx3 ed
end B01
section
variable {prog:sH} {w:bz} {A:cV} {E:aI->aN->Prop} {s:aN}
theorem Mx:QU (.type "set") "__bool__" =pure none:=by rw[QV,QW];lia
theorem Ny:AH #[x] 0= #[]:=rfl
theorem Sk {α:Type} (xs:Array α) (p:Nat) (x:α):(Qm xs p x).size=xs.size+1:=by
 unfold Qm
 simp! only[Qn,QQ,uU]
 exact ((Qo (p)<|xs.size).elim (λu=>(jk (bD (na (na (nL<|sE ((by simp+arith):0<=min p xs.size))<|nL<|sE ((bD u<|nR<|fz ((by simp+arith):xs.size<=xs.size)):p<=min xs.size xs.size))<|nL<|fz (u:p<=xs.size))<|nL<|fz ((by simp+arith):xs.size<=xs.size))<|bD (na (na (nR<|fz ((by simp+arith):xs.size<=xs.size))<|nR<|sE ((bD u<|nR<|fz ((by simp+arith):xs.size<=xs.size)):p<=min xs.size xs.size))<|nR<|fz (u:p<=xs.size))<|nR<|sE ((by simp+arith):0<=min p xs.size))) λu=>(rF (ea (QFm (u:xs.size<=p))<|sE ((by simp+arith):0<=min p xs.size))<|xI ((bD (nL<|fz ((by simp+arith):xs.size<=xs.size)) u):min xs.size xs.size<=p)))
theorem QDZ (h:Q 0 {s with drawn:=s.drawn.bump L}):aO M A (choose L 1) Q E s:=λH p _=>by
 unfold choose
 simp! only[Sem.wp_choose]
 refine ⟨by decide,?_⟩
 simp! only[Nat.mod_one]
 exact h
theorem HD {K:Type} [DecidableEq K] {knd:KeyKind prog w K} {S:K->Bool} (U:s.heap.SetOf knd a S n) (h: ∀tk,Q (n !=0) {s with toks:=tk}):aO (aY prog w) A (Ho<|.ref a) Q E s:=by
 have z:=U.typeIs;obtain ⟨o,c,x,t,j,P,Y,B,Z,b,M,N⟩:=U;have f:(c.size:Int)<2^63:=by have:c.size<4096:=b;exact bE<|oL this
 have v:aO (aY prog w) A (Qb<|.builtin "len" ⟨[.ref a],[]⟩) (λr d=>r=.int (c.size:Nat) (s.toks+1)/\Q (n !=0) d) E s:=by refine wpAny_runValue<|QT entry_len ?_;refine eY (wpAny_len_body_set (Q:=λr d=>r=.int (c.size:Nat) (s.toks+1)/\Q (n !=0) d) j P Y M f ⟨rfl,h _⟩) (λR d H=>by refine aS H λr g q=>?_;erw[g];exact q) λO O e=>e
 have C:(((c.size:Nat):Int) !=0)=(n !=0):=by rw[N,uV,bne_iff_ne,bne_iff_ne];clear N;simp+arith
 first
  |refine wpAny_bind<|wpAny_callSpecial?_none z Mx ?_
  |refine wpAny_bind<|wpAny_pure<|wpAny_bind<|wpAny_callSpecial?_none z Mx ?_
 first
  |refine wpAny_bind<|wpAny_specialOf z F.slot_set_len.lookup ?_
  |refine wpAny_bind<|wpAny_pure<|wpAny_bind<|wpAny_specialOf z F.slot_set_len.lookup ?_
 first
  |exact wpAny_bind (wpAny_mono v (λr d H=>by refine bI H λp q=>?_;erw[p];exact bA (by simp! only[C];exact q)) λO O e=>e)
  |exact wpAny_bind (wpAny_pure (wpAny_bind (wpAny_mono v (λr d H=>by obtain ⟨rfl,q⟩:=H;exact bA (by simp! only[C];exact q)) λO O e=>e)))
theorem Vs (U:s.heap.SetOf (iq prog w) a (λk=>decide (k=n)) 1)
 (h: ∀{d:Drawn} h' t,Hk a s.heap h'->h'.SetOf (iq prog w) a (λO=>aE) 0->Q (.int n t) {s with heap:=h',drawn:=d}):aO (aY prog w) A (call (.builtin "set.pop") [.ref a]) Q E s:=by
 refine IB F.slot_set_pop U.typeIs F.entry_set_pop ?_<|F.args_set_pop_1 _;obtain ⟨o,es,Y,t,z,hex,hd,N,B,hb,hf,hn⟩:=U;have c: ∃e,es= #[e]:=by obtain ⟨l⟩:=es;exact lF (P:=λl=> ∃e,(⟨l⟩:Array (Int×aI))= #[e]) (λe=>⟨e,rfl⟩) l hn
 refine aV c λx g=>?_;obtain ⟨H,v⟩:=x;clear hb hn;subst g;refine bI (N (H,v)<|.head _) λx O=>aS x λZ K O=>?_;have C:Z=n:=by have:=(B Z).mpr<|ax (H,v) (.head _) K;simpa -iota using this
 clear B;subst C;refine aV (QFk (K:mU Z v=aB)) λtk g=>?_;clear N K;subst g;have p:t.place.size=1/\t.fill<=t.mask:=by unfold QFn at hf;rw[gn,beq_iff_eq,decide_eq_true_eq] at hf;exact ⟨hf.1,hf.2⟩
 have W:t.popPlace=aA 0:=by
  delta SetTable.popPlace;have:t.place.isEmpty=false:=by rw[Array.isEmpty_eq_false_iff_exists_mem];exact ⟨t.place[0]'(aQ<|nR p.1),Array.getElem_mem _⟩
  refine sb this<|sb (if_neg<|by decide) ?_
  dsimp only;erw[p.1]
  congr 1
  split<;>omega
 have f:(t.popped 0).fits 0=true:=by
  delta SetTable.popped SetTable.drop;erw[(QFF ((aQ<|nR p.1)):t.place[0]?=aA (t.place[0]'(aQ<|nR p.1)))];delta QFn QFo;have L:=p.2;unfold QFo at L
  simp! only[gn,QHe,decide_eq_true_eq]
  refine ⟨?_,?_⟩
  ·refine (?_:(AH t.place 0).size=0)
   delta AH
   simp! only[Qn,uU]
   clear x c;exact (jk (bD (na (na (na (nL<|sE ((by simp+arith):0<=min 0 t.place.size))<|nL<|sE ((bD (nR p.1)<|nR<|fz ((by simp+arith):t.place.size<=t.place.size)):0+1<=min t.place.size t.place.size))<|nL<|fz ((by simp+arith):0<=t.place.size))<|nL<|fz ((by simp+arith):t.place.size<=t.place.size))<|nL p.1)<|by simp+arith)
  ·refine (?_:(AH t.place 0).size+(Qm t.dummies _ _).size<=t.mask)
   rw[Sk];delta AH
   simp! only[Qn,uU]
   clear x c;exact (bD (na (na (na (nL<|sE ((by simp+arith):0<=min 0 t.place.size))<|nL<|sE ((bD (nR p.1)<|nR<|fz ((by simp+arith):t.place.size<=t.place.size)):0+1<=min t.place.size t.place.size)) L)<|nL<|fz ((by simp+arith):0<=t.place.size))<|nL<|fz ((by simp+arith):t.place.size<=t.place.size))
 have dh: ∀d,aO (aY prog w) A.in1 (do
  storeSet a (AH #[(H,Qc Z tk)] 0) (t.popped 0)
  pure (aA<|Qc Z tk)) (λr i=> ∃y,r=aA y/\Q y i) E {s with drawn:=d}:=by
  intro d;refine aR (wpAny_storeSet_of (s:={s with drawn:=d}) z hd ?_ (by erw[Ny];exact hJ _));refine bA<|ax _ rfl (h _ tk (ID ..) ?_);refine sb Ny<|⟨{o with data:=.set #[] (Y+1)<|t.popped 0}, #[],Y+1,t.popped 0,?_,hex,rfl,(λe he=>by simp -iota at he),(λk=>by simp),by decide,f,rfl⟩
  erw[wz _ z (by rw[putSet_of _ _ hd];rfl)];exact sb (putSet_of _ _ hd) rfl
 delta xE.«set.pop» Builtin.Frozenset.noArgs Builtin.Frozenset.addrOf
 simp! only[bind_assoc]
 refine aR<|bA ?_;refine aR<|eY (Q:=λr i=> ∃y,r=aA y/\Q y i) (E:=E) ?_ (λr i R=>?_) λO O e=>e
 ·delta setPop
  refine aR<|wpAny_setState_of z hd hf ?_;dsimp only;rw[W];delta setsByText;refine aR<|aR<|QFp<|bA ?_;by_cases b:(w.params.followText "set-order" ||false)=true
  ·rw[if_pos (by
    refine (?_:(w.params.followText "set-order" ||(!t.plain && decide (1>1)))=true);rw[Bool.or_false] at b;rw[b]
    rfl)]
   refine aR<|QDZ ?_;exact dh _
  ·rw[if_neg (by
    refine (?_: ¬ (w.params.followText "set-order" ||(!t.plain && decide (1>1)))=true)
    simp! only[show decide (1>1)=aE from rfl,uq]
    exact b)]
   refine (?_:aO _ _ ((if (!t.led && decide (1>1))=aB then unsupported _ else pure ())>>=_) _ _ _);rw[if_neg (by rw[show decide (1>1)=aE from rfl,uq];decide)];refine aR<|bA<|aR<|bA ?_;exact dh s.drawn
 ·exact aS R λy g q=>sb g<|wpAny_pure<|ax _ rfl q
end
namespace B01
variable {w:bz} {X:Nat->bH} {n:Nat}
noncomputable def tI (P:bZ):FuncData:=dF<|ob 46 P
theorem W6 (P:bZ) (X:Nat->bH):(G P X).CodeRec (tI P).code (tI P).qualname:=⟨45,ob 45 P,kW<|ob 45 P,292,by lia,gg (by lia),by lia,by lia⟩
theorem QAI {X:Nat->bH} (B: ∀b o,(G P X).get? b=aA o->s.heap.get? b=aA o) (u v z:aI):BindsTo s (tI P) ⟨[u,v,z],[]⟩ [(("w" :aG),u),(("base" :aG),v),(("more_than" :aG),z),(("show" :aG),.bool aE)]:=by intro M A E Q q;refine (?_:aO M A (QR (.ref 39)>>=_) Q E s);refine aR (IG (B _ _ (gg<|by lia):s.heap.get? 39=aA (ob 39 P)) rfl ?_);exact qr (by lia) q
noncomputable abbrev xn (P:bZ) (L:aM):Env:=IZ (tI P) L 46
theorem nN {K:Type} [DecidableEq K] {knd:KeyKind prog w K} {h h':bK} {S:K->Bool} (x:h.SetOf knd a S n) (k: ∀o,h.get? a=aA o->h'.get? a=aA o):h'.SetOf knd a S n:=by have e:=x.elim λo x=>x.elim λO x=>x.elim λO x=>x.elim λO x=>(k o x.1).trans x.1.symm;delta Heap.SetOf;refine sb e x
theorem VH {vs:Array aI} {E:aI->aN->Prop} (e:env.code=.ref c) (z:s.heap.get? c=aA o) (hd:o.data=.fields vs) (h: ∀b,Q b s):aO M A (inMainModule env) Q E s:=by
 dsimp only[inMainModule];erw[e]
 split
 ·exact bA<|h _
 ·refine aR (QP z hd ?_)
  split
  ·exact aR<|QFp<|bA<|h _
  ·exact bA<|h _
theorem LA {w:bz} {K:Type} [DecidableEq K] {knd:KeyKind prog w K} {h:bK} (led:Bool):(h.push {cls:=.type "set",dict:=aF,data:=.set #[] 0<|.fresh 0 0 led}).SetOf knd h.objs.size (λO=>aE) 0:=⟨_, #[],0,_,fH _ rfl,⟨rfl,rfl,rfl⟩,rfl,λe F=>by simp at F,λk=>by simp,by decide,by rfl,rfl⟩
theorem HT (F:fK g M env m h) (e:h.get? a=aF):a≠env.locals:=λq=>by refine oH F.loc λo O O s O=>?_;rw[q] at e;exact cb e s
theorem mkSet {pos:bP} {env:cg} {s:aN} {E:aI->aN->Prop} (F:fK (G w.params X) (mg w X) env m s.heap) (C:env.kindOf nm=aA .local) (K:env.kindOf "set" =aA .globalImplicit) (L:(G w.params X).get? env.locals=aF)
 (H:jo [.Name nm P] (.Call (.Name "set" p) [] [] f) pos.line env=pure aE) (h:mT [.Name nm P] (.Call (.Name "set" p) [] [] f) env=pure aF)
 (q: ∀a h' tk,fK (G w.params X) (mg w X) env (λy=>if y=nm then aA (.ref a) else m y) h'->h'.SetOf (iq pg w) a (λO=>aE) 0->s.heap.get? a=aF->a≠env.locals->(∀b o,b≠env.locals->s.heap.get? b=aA o->h'.get? b=aA o)->Q .next {s with heap:=h',toks:=tk}):
 aO (aY pg w) A (o6 (.Assign [.Name nm P] (.Call (.Name "set" p) [] [] f) pos) env) Q E s:=by
 refine jV H h rfl (qp<|xm F K ((jd (w:=w) (X:=X) "set").trans<|by lia) (u:=.type "set") (by lia) ?_ (by decide+kernel)<|by decide+kernel);refine wo rfl (gK rfl (lP<|call_set_0 λR=>?_));have x:s.heap.get? s.heap.objs.size=none:=ie<|bh _;have Z: ∀b o,s.heap.get? b=aA o->(s.heap.push {cls:=.type "set",dict:=aF,data:=.set #[] 0<|.fresh 0 0 R}).get? b=aA o:=λO O e=>gS _ e;have N:=HT F x;exact rl (F.keeps Z) C L λl B M t=>q _ l B M (nN (LA R) λo e=>t _ o N e) x N λb o n e=>t b o n<|Z b o e
structure CQ (w:bz) (X:Nat->bH) (L a1 a2 a3:aM) (t3:fG) (s:aN) (h:bK):Prop where
 F: ∃m,fK (G w.params X) (mg w X) (xn w.params L) m h/\m "ws" =aA (.ref a3)/\m "seen" =aA (.ref a1)/\m "need" =aA (.ref a2)/\m "more_than" =aA (.int 2048 t3)
 S1:h.SetOf (iq pg w) a1 (λO=>aE) 0
 S2:h.SetOf (iq pg w) a2 (λO=>aE) 0
 k:Kp s.heap h
structure CA (w:bz) (X:Nat->bH) (L a1 a2 a3:aM) (s:aN):Prop where
 hL:(G w.params X).get? L=aF
 base:Kp (G w.params X) s.heap
 sL:s.heap.get? L=aF
 s3:s.heap.get? a3=aF
 e1:a1≠L
 e2:a2≠L
 e3:a3≠L
 MA:a1≠a3
 LF:a2≠a3
theorem wA {h:bK} (n:h.get? a=aF) (e:h.get? b=aA o):b≠a:=λq=>cb (q▸n) e
section
variable {L a1 a2 a3:aM} {t3:fG} {s:aN} {h h':bK} {A:cV} {E:aI->aN->Prop}
theorem CA.G3 (C:CA w X L a1 a2 a3 s) {b o} (e:(G w.params X).get? b=aA o):b≠a3:=wA C.s3<|C.base _ _ e
theorem Mr (F:fK (G w.params X) (mg w X) env m h) (g: ∀b o,(G w.params X).get? b=aA o->b≠a) (n:a≠env.locals) (k:Kx a h h'):fK (G w.params X) (mg w X) env m h':=⟨nF,λb o e=>k b o (g b o e)<|F.base b o e,F.loc.at λo e=>k _ o (lO n) e,F.hk,F.hg,F.hb⟩
theorem UA {k:Int} (P:k<=2048) {d:Drawn} {p0 v p p3 p4 u r1 r2 Z z R r j:bP} {Q:hM->aN->Prop} (C:CA w X L a1 a2 a3 s) (q:CQ w X L a1 a2 a3 t3 s h) (g:h.SetOf (iq pg w) a3 (λk'=>decide (k'=k)) 1)
 (l:(p.endLine==p3.line)=aB)
 (hQ: ∀h' tk d,CQ w X L a1 a2 a3 t3 s h'->h'.SetOf (iq pg w) a3 (λO=>aE) 0->Q .cont {s with heap:=h',toks:=tk,drawn:=d}):
 aO (aY pg w) A (fX (.Assign [.Name "w" p0] (.Call (.Attribute (.Name "ws" v) "pop" p) [] [] p3) p4:: .If (.BoolOp .Or [.Compare (.Name "w" u) [.In] [.Name "seen" r1] r2,.Compare (.Name "w" Z) [.LtE] [.Name "more_than" z] R] r) [.Continue j] [] r::rest)<|xn w.params L) Q E {s with heap:=h,toks:=tk,drawn:=d}:=by
 refine uL q.F λm F W N mN x=>ip (jV rfl rfl rfl (wx rfl rfl l (gJ F (by lia) W ?_<|by decide+kernel)));refine ⟨"set","set.pop",PySem.F.plainAttrs_set,PySem.F.slot_set_pop,PySem.F.type_set_pop,g.typeIs,g.noDict,wm rfl (gK rfl (lP<|Vs g λ{Y} H t U S8=>?_))⟩;have M:Kx a3 h H:=λb o n e=>(U.2 b n).trans e;refine rl (Mr F (λO O e=>C.G3 e) C.e3 M) (by lia) C.hL λB t9 f K=>?_;have S1:=nN q.S1 λo e=>K _ o C.e1<|M _ o C.MA e;have hq:=λtk d=>hQ B tk d (⟨⟨_,f,W,N,mN,x⟩,S1,nN q.S2 λo e=>K _ o C.e2<|M _ o C.LF e,λb o e=>K b o (wA C.sL e)<|M b o (wA C.s3 e)<|q.k b o e⟩)<|nN S8 λo e=>K _ o C.e3 e;refine ip<|IF ?_;refine aR (Hr (gJ f (by lia) rfl (gJ f (by lia) N ?_<|by decide+kernel) (by decide+kernel)) rfl);refine QFl (QHg k:mU k (.int k t)=aB) rfl S1 (ou ?_);refine aR (Hr (gJ f (by lia) rfl (gJ f (by lia) x ?_<|by decide+kernel) (by decide+kernel)) rfl);refine PS (op:=.LtE) (a:=k) (b:=2048) (c:=aB) ((QHj P:decide (k<=2048)=aB)▸ .le) λi=>ou<|bA ?_;exact ip<|QFJ<|hq _ _
theorem ZS {r:List cq} (C:CA w X L a1 a2 a3 s) (q:CQ w X L a1 a2 a3 t3 s h)
 (hQ: ∀d h' tk,Kp s.heap h'->h'.get? d=aA jJ->s.heap.get? d=aF->Q (.ret<|.ref d) {s with heap:=h',toks:=tk,drawn:=Z}):
 aO (aY pg w) A (fX (.Assign [.Name "d" N] (.Dict [] [] p) P:: .If (.UnaryOp .Not (.Name "need" l) r1) [.Return (aA<|.Name "d" r2) c] [] R::r)<|xn w.params L) Q E {s with heap:=h,toks:=tk,drawn:=Z}:=by
 refine uL q.F λm F W v U x=>?_;have u:h.get? h.objs.size=none:=ie<|bh _;have g:Kp h (h.push jJ):=λO O e=>gS _ e;have n:=HT F u
 have Y:s.heap.get? h.objs.size=none:=by
  induction z:s.heap.get? h.objs.size with
  |none=>rfl
  |some o=>exact vB (q.k _ _ z) u
 refine ip<|jV rfl rfl rfl (wpAny_Dict_empty<|?_);refine rl (F.keeps g) (by lia) C.hL λH a f K=>?_;have B:=nN q.S2 λo e=>K _ o C.e2<|g _ o e;have M:=λtk=>hQ _ H tk (λb o e=>K b o (wA C.sL e)<|g b o<|q.k b o e) (K _ _ n<|fH _ rfl) Y;refine ip (IF<|QEk<|Ia<|gJ f (by lia) U (HD B λt=>?_)<|by decide+kernel);exact sb (QHd<|by decide)<|wpAny_execs_cons (wpAny_Return_some<|gJ f (by lia) rfl (M _) (by decide+kernel))
end
theorem QBZ {k:Int} (hk:k<=2048) {A:cV} {s:aN} {E:aI->aN->Prop} (hA:A.handled=aF) (hdp:A.depth<950) (base: ∀b o,(G w.params X).get? b=aA o->s.heap.get? b=aA o)
 (q: ∀{dr:Drawn} d h' tk,(∀b o,s.heap.get? b=aA o->h'.get? b=aA o)->h'.get? d=aA jJ->s.heap.get? d=aF->Q (.ref d) {s with heap:=h',toks:=tk,drawn:=dr}):aO (aY pg w) A (call (.ref 46) [.int k t1,.int 5 t2,.int 2048 t3]) Q E s:=by
 refine xA (Ql (fd:=tI w.params) (body:=fJ<|bO 3) (binds:=[(("w" :aG),.int k t1),(("base" :aG),.int 5 t2),(("more_than" :aG),.int 2048 t3),(("show" :aG),.bool aE)]) (by refine (?_:A.depth<1000);exact az ‹_› (gA _ _)) (base _ _<|gg (by lia:iE (eI w.params X) 414 cZ 46=aA (ob 46 w.params))) (by lia) (nF.lim.keeps base) ((W6 w.params X).keeps base) (by lia) (QAI base _ _ _) ?_ ?_ (λh1 ns k1=>?_) (by lia) (by lia)<|by lia)
 ·exact λx hx=>by simpa using dq.mp (by lia:(tI w.params).scope.names.all (λx=> !(x.2==.cell))=aB) x hx
 ·intro y hy
  simp only[bp,gU,or_false] at hy;clear hk hA hdp base q;rcases hy with rfl|rfl|rfl|rfl<;>lia
 have F:fK (G w.params X) (mg w X) (xn w.params s.heap.objs.size) _ h1:=⟨nF,λb o e=>k1 _ _<|base b o e,ns,by lia,by lia,by lia⟩;have hLn:s.heap.get? s.heap.objs.size=none:=ie<|bh _;have iU: ∀b o,s.heap.get? b=aA o->b≠s.heap.objs.size:=λb o e q=>by simp only[q,hLn] at e;exact ay e
 have hL:(G w.params X).get? s.heap.objs.size=none:=by
  clear hA hdp ns k1 F hLn;induction q:(G w.params X).get? s.heap.objs.size with
  |none=>rfl
  |some o=>exact QHb rfl (iU _ _<|base _ _ q)
 have hLn':=hLn;generalize hLL:s.heap.objs.size=L at*;refine ip<|mkSet F (by lia) (by lia) hL rfl rfl λa1 h2 t2' F2 S1 n1 ne1 k2=>?_
 have k12: ∀b o,s.heap.get? b=aA o->h2.get? b=aA o:=λb o e=>k2 b o (iU b o e)<|k1 b o e;refine ip<|mkSet F2 (by lia) (by lia) hL rfl rfl λa2 h3 t3' F3 S2 n2 ne2 k3=>?_
 have S1:=nN S1 λo e=>k3 _ o ne1 e;have k13: ∀b o,s.heap.get? b=aA o->h3.get? b=aA o:=λb o e=>k3 b o (iU b o e)<|k12 b o e;refine ip<|jV rfl rfl rfl ?_
 rw[arm_eval_Set];refine aR (iJ<|aR<|VH (c:=45) (o:=ob 45 w.params) (vs:=kW<|ob 45 w.params) (by lia) (F3.base _ _<|gg<|by lia) (by lia) λbb=>?_);refine kds_core (ts:=[do let v<-b7 (.Name "w" _) _;sO _;pure v]) rfl rfl (by decide:(1:Nat)<=30) rfl λled=>?_;have hn3:h3.get? h3.objs.size=none:=ie<|bh _;have kp3: ∀b o,h3.get? b=aA o->(h3.push {cls:=.type "set",dict:=aF,data:=.set #[] 0<|.fresh 0 0 led}).get? b=aA o:=λO O e=>gS _ e;refine uL (⟨_,F3,by lia,by lia,by lia,by lia⟩: ∃m3,fK (G w.params X) (mg w X) (xn w.params L) m3 h3/\m3 "w" =aA (.int k t1)/\m3 "seen" =aA (.ref a1)/\m3 "need" =aA (.ref a2)/\m3 "more_than" =aA (.int 2048 t3)) λm3 F3 m3w m3s m3n m3m=>?_;have F4:=F3.keeps kp3;have ne3:=HT F3 hn3
 have n3:s.heap.get? h3.objs.size=none:=by
  induction z:s.heap.get? h3.objs.size with
  |none=>rfl
  |some o=>exact vB (k13 _ _ z) hn3
 have CC:CA w X L a1 a2 h3.objs.size s:=⟨hL,base,hLL▸hLn',n3,ne1,ne2,ne3,λq=>by refine Hc S1 λo O O O e O=>?_;rw[q] at e;exact cb hn3 e,λq=>by refine Hc S2 λo O O O e O=>?_;rw[q] at e;exact cb hn3 e⟩;have S30:(h3.push {cls:=.type "set",dict:=aF,data:=.set #[] 0<|.fresh 0 0 led}).SetOf (iq pg w) h3.objs.size (λO=>aE) 0:=LA led;have S1:=nN S1 λo e=>kp3 _ o e;have S2:=nN S2 λo e=>kp3 _ o e;have k14:Kp s.heap (h3.push {cls:=.type "set",dict:=aF,data:=.set #[] 0<|.fresh 0 0 led}):=λb o e=>kp3 b o<|k13 b o e;generalize h3.objs.size=a3 at*;generalize (h3.push {cls:=.type "set",dict:=aF,data:=.set #[] 0<|.fresh 0 0 led})=h4 at*;refine aR (aR<|gJ (s:={s with heap:=h4,toks:=_}) F4 (by lia) (u:=.int k t1) m3w (aR<|iJ<|bA ?_)<|by decide+kernel);refine aR<|cO<|bA<|bA ?_;refine kds_fill_cons ?_;dsimp only[setAdd];refine cO<|aR<|(iq pg w).pyHash (k:=k) (QHg k:mU k (.int k t1)=aB) ?_;refine wpAny_setAddHashed_of (knd:=iq pg w) (k:=k) (QHg k:mU k (.int k t1)=aB) rfl S30 (by decide) λh5 sb5 S3=>kds_fill_nil rfl ?_;have k5:Kx a3 h4 h5:=λb o n e=>(sb5.2 b n).trans e;refine rl (s:={s with heap:=h5,toks:=_}) (Mr F4 (λO O e=>CC.G3 e) CC.e3 k5) (by lia) hL λh6 t6 F6 k6=>?_;have q6:CQ w X L a1 a2 a3 t3 s h6:=⟨⟨_,F6,rfl,m3s,m3n,m3m⟩,nN S1 λo e=>k6 _ o CC.e1<|k5 _ o CC.MA e,nN S2 λo e=>k6 _ o CC.e2<|k5 _ o CC.LF e,λb o e=>k6 b o (wA CC.sL e)<|k5 b o (wA CC.s3 e)<|k14 b o e⟩;have S3:h6.SetOf (iq pg w) a3 (λk'=>decide (k'=k)) 1:=nN (by simpa using S3) λo e=>k6 _ o CC.e3 e;refine ip<|wpAny_While ?_;refine QFL (λq s'=> ∃h tk dr,s'={s with heap:=h,toks:=tk,drawn:=dr}/\CQ w X L a1 a2 a3 t3 s h/\((q=2/\h.SetOf (iq pg w) a3 (λk'=>decide (k'=k)) 1)\/(q=1/\h.SetOf (iq pg w) a3 (λO=>aE) 0))) ?_ 2 ⟨h6,t6,s.drawn,rfl,q6,.inl ⟨rfl,S3⟩⟩;refine λq' s' hs=>dT hs λh tk dr es Cq hq=>sb es<|uL Cq.F λm F7 mW O O O=>Ia (gJ F7 (by lia) (u:=.ref a3) mW ?_<|by decide+kernel)
 clear hA hdp base k1 hLL ns F hLn iU hL hLn' F2 S1 n1 ne1 k2 k12 F3 S2 n2 ne2 k3 k13 m3w m3s m3n m3m hn3 ne3 n3 kp3 F4 k14 S30 sb5 k5 F6 k6 q6 hs es F7 mW;rcases hq with ⟨rfl,S3⟩|⟨rfl,S3⟩
 ·exact HD S3 λtk8=>sb (QHd<|by decide)<|UA (s:=s) hk CC Cq S3 rfl λh9 tk9 dr9 q9 S9=>⟨1,by decide,h9,tk9,dr9,rfl,q9,.inr ⟨rfl,S9⟩⟩
 ·exact HD S3 λtk8=>sb (QHc<|by decide)<|wpAny_execs_nil<|ZS (s:=s) CC Cq λd h9 tk9 k9 e n=>q d h9 tk9 k9 e n
end B01
noncomputable def Jb (cf:hF) (C:Fc) (c:List Nat):Bool:=decide ((cf.scope.names.map (·.1)).Nodup) && (cf.scope.names.all (λx=> !(x.2==.cell)) && (cf.scope.names.all (λx=>if x.2==.free then (match C.cM x.1 with|some i=>c.contains i|none=>aB) else aB) && c.all λi=>cP i C.bd))
theorem W7 (h:Jb cf Cow cN=aB) (H:(cf.scope.kind,cf.scope.isCoroutine,cf.scope.isGenerator)=(.function,aE,aE)) (m: ∀j,oi=aA j->j∈cN):rq cf Cow cN oi:=by simp only[sT] at H;refine bI (aD h) λa h=>bI (aD h) λb h=>bI (aD h) λc d=>⟨eD a,H.1,H.2.1,H.2.2,λx M=>by simpa using dq.mp b x M,λx i e1 e2=>?_,λi t=>bJ<|dq.mp d i t,m⟩;have k:=dq.mp c (x,.free)<|mem_of_lookup e1;rw[if_pos<|by rfl] at k;dsimp only at k;rw[e2] at k;simpa using k
namespace B01
variable {w:bz} {X:Nat->bH} {n:Nat}
theorem Wa: ∀x i,(D w X n).o.gi x i-> ∃t,(D w X n).mg x=aA (.int i t):=by
 intro x i h;have h:x= "_DIV_LIMIT" /\i=4000:=by induction n<;>exact h
 have e0':=h.1;have e1':=h.2;exact sb e0'<|sb e1'<|⟨329,(jd (w:=w) (X:=X) "_DIV_LIMIT").trans<|by lia⟩
theorem Vg: ∃o,(D w X n).G.get? Cz=aA o/\o≠jJ:=(ax (ob 1 w.params) (gg<|by lia) (λq=>by
 have:(ob 1 w.params).data=jJ.data:=sb q rfl
 exact QHb (show (3:Nat)=0 from (by unfold rS;exact sb this rfl:(rS<|ob 1 w.params).size=(rS jJ).size))<|by decide))
theorem QEG: ∀k nm f,(D w X n).hm k=aA (nm,f)->20<=k->(D w X n).mg nm=aA (.ref f):=by
 intro k nm f e K;have:=tq _ _ _ (e:oD.lookup k=aA (nm,f));simp only[oD,bp,gU,or_false,sT] at this;clear e;rcases this with ⟨rfl,_⟩|⟨rfl,_⟩|⟨rfl,_⟩|⟨rfl,_⟩|⟨rfl,_⟩
 all_goals exact QHb K (by decide)
theorem R_: ∀{f:Nat} {Y:aM->Prop} {h:bK} {cl:List (aG×aM)} {a:aM},(D w X n).P.CL f Y h cl a-> ∃o fd,h.get? a=aA o/\o.data=.func fd:=by
 rintro f Y h cl a ⟨cf,e,⟨A,i,H,_⟩⟩
 exact (et _ _ A H)
section
variable[cz<|D w X n] [kx<|D w X n]
theorem WV: ∀f xs d,OF (aU n) f xs d-> ∃nm a o fd,(D w X<|n+1).fns[f]?=aA nm/\(D w X<|n+1).mg nm=aA (.ref a)/\(D w X<|n+1).G.get? a=aA o/\o.data=.func fd/\oV (D w X<|n+1) a xs d:=by
 intro f xs d h;induction h with
 |q F x L u m=>subst F x L;exact j5 (G7 (w:=w) (X:=X) (n:=n+1) (9,"quotedata",119,(ob 119))<|DO (i:=8) rfl) λH B b K=>(GK _ _ _ _ H B b K (by intro A s Y U Q E;exact QAR u m))
 |mk e h=>refine bc (Kh (QEQ (w:=w) (X:=X) (n:=n)) _<|tq _ _ _ e) λi r R C p=>j5 (G7 (w:=w) (X:=X) (n:=n+1) r<|DO R) λH B b K=>?_;have C:r.1=f:=C;exact cw C<|(GK _ _ _ _ H B b K<|p xs d h)
theorem QBA: ∀k xs hs z hs',OH (aU n) k xs hs z hs'-> ∃nm f,(D w X<|n+1).hm k=aA (nm,f)/\rU (D w X<|n+1) f xs hs z hs':=by
 intro k xs hs z hs' h;induction h with
 |add e h=>exact sb e<|(et _ _ rfl (QCX h))
 |del e h=>exact sb e<|(et _ _ rfl (UG h))
theorem Xf: ∀k xs hs z,OR (aU n) k xs hs z-> ∃nm f,(D w X<|n+1).hm k=aA (nm,f)/\rT (D w X<|n+1) f xs hs z:=by
 intro k xs hs z h;induction h with
 |all e h=>exact sb e<|(et _ _ rfl (VS h))
 |items e _ h=>exact sb e<|(et _ _ rfl (OU h))
theorem QAE (x:kU X):kx (D w X<|n+1) where
 RN:=λR s z h=>by
  induction (h) with
  |items e H h=>exact (et _ _ rfl (QBa x h H))
  |all e h=>exact nomatch e
theorem E6 (F:tY.lookup f=aA (Cow,cf)) (A:Jb cf Cow cN=aB) (m:(cf.scope.kind,cf.scope.isCoroutine,cf.scope.isGenerator)=(.function,aE,aE)) (Q: ∀j,oi=aA j->j∈cN)
 (H:(jH (cu<|Cow.sub cf.scope.names aE aB hbi) cf.ps is && jx ci (Cow.sub cf.scope.names aE aB hbi) b cf.body)=aB) (e:vY (aU n) f is cN oi (b.map SW.w) xs l d L):zE (D w X<|n+1) f xs l d L:=
 QCb rfl (by unfold cx;erw[F];rfl) vg (W7 A m Q) ⟨md .nil (λx xs i is h g=>.cons (ft h) g) (aD H).1,lZ nY (aD H).2,rfl⟩ (λC h=>by
  refine aS h λr e1 e2=>?_;obtain rfl:=bM F e1
  exact e2) e
theorem ZZ: ∀f xs l z L,OL (aU n) f xs l z L->zE (D w X<|n+1) f xs l z L:=by
 intro f xs l z L h;induction h with
 |a e h=>subst e;exact E6 (hbi:=Th) rfl (by lia) (by lia) (λj e=>by exact ay e) (by lia) h
 |b e h=>subst e;exact E6 (hbi:=QCr) rfl (by lia) (by lia) (λj e=>by cases e;decide) (by lia) h
 |c e h=>subst e;exact E6 (hbi:=Zp) rfl (by lia) (by lia) (λj e=>by exact ay e) (by lia) h
end
theorem KN (M:kU X) (F: ∀f xs d,(D w X n).o.F f xs d-> ∃nm a o fd,(D w X n).fns[f]?=aA nm/\(D w X n).mg nm=aA (.ref a)/\(D w X n).G.get? a=aA o/\o.data=.func fd/\oV (D w X n) a xs d)
 (H: ∀k xs hs z hs',(D w X n).o.H k xs hs z hs'-> ∃nm v,(D w X n).hm k=aA (nm,v)/\rU (D w X n) v xs hs z hs') (R: ∀k xs hs z,(D w X n).o.R k xs hs z-> ∃nm v,(D w X n).hm k=aA (nm,v)/\rT (D w X n) v xs hs z) (L: ∀f xs l z Z,(D w X n).o.L f xs l z Z->zE (D w X n) f xs l z Z):cz (D w X n) where
 gl:=nF
 Jl:=yk (X:=X)
 F:=F
 gi:=Wa
 gs:=λx i h=>by clear F;induction n<;>contradiction
 NA:=T9
 vi:=Ub
 yU:=QAA
 JW:=QEG
 H:=H
 R:=R
 Lb:=R_
 L:=L
 conv:=λb=>(ax 228 rfl (λW C {A s Y x a t Q E} R U B I k=>J5 C (by have:=R.2.1;refine (?_);exact aQ this) B k))
 b1:=Y9
 b3:=b3F M
 Oj:=Vg
 JN:=λ{nm v} e {A s Y x a u Q E} _ B I h=>VM e B I h
 new:=λ{A s Y a vs m xs Q E} R t B g p K r j k=>QDo R.1 (by have:=R.2.1;exact aQ this) (by have:=R.2.2;refine (?_);exact aQ this) B g p K r j k
 FY:=QCm
 Jm:=(qT 46 (ob 46 w.params) (tI w.params) ((jd (w:=w) (X:=X) "compute_powers").trans<|by lia) (gg<|by lia) (by lia) λk h0 P {A s N c t3 Q E} R t B q=>QBZ P R.1 (by have:=R.2.1;exact aQ this) B q)
theorem okw (x:kU X): ∀n,cz (D w X n)/\kx (D w X n):=by
 intro O;induction O with
 |zero=>exact ⟨KN x (λO O O h=>h.elim) (λO O O O O h=>h.elim) (λO O O O h=>h.elim) λO O O O O h=>h.elim,⟨λxs hs zs h=>h.elim⟩⟩
 |succ n i=>
  exact by
   have i:=i
   haveI:=i.1
   haveI:=i.2
   exact ⟨KN x WV QBA Xf ZZ,QAE x⟩
end B01
namespace B01
noncomputable abbrev LZ:EW:=.aC 0
noncomputable abbrev om:EW:=.aC 1
noncomputable abbrev cR:EW:=.aC 201
noncomputable abbrev QHD:EW:=.aC 200
noncomputable abbrev QHI:EW:=.aC 202
noncomputable abbrev Fb:EW:=.aC 3
noncomputable abbrev BK:EW:=.aC 2
noncomputable abbrev wv4:EW:=.aC 4
noncomputable abbrev HN:EW:=.aC 5
noncomputable abbrev wv6:EW:=.aC 6
noncomputable abbrev wv7:EW:=.aC 7
noncomputable abbrev wv9:EW:=.aC 9
noncomputable abbrev wv8:EW:=.aC 8
noncomputable abbrev QDM:EW:=.aC 10
noncomputable abbrev QGv:EW:=.aC 12
noncomputable abbrev QHC:EW:=.aC 17
noncomputable abbrev QGx:EW:=.aC 18
noncomputable abbrev QGw:EW:=.aC 20
noncomputable abbrev QHB:EW:=.aC 14
noncomputable abbrev QGu:EW:=.aC 15
noncomputable abbrev kP:EW:=.aC 401
noncomputable abbrev y9:cS:=.one 6
noncomputable abbrev eE:cS:=.one 201
noncomputable abbrev tn5:cS:=.one 5
noncomputable abbrev QGt:cS:=.one 17
noncomputable abbrev tn3:cS:=.one 3
noncomputable abbrev qM:cS:=.one 401
noncomputable abbrev tn4:cS:=.one 4
noncomputable abbrev QHG:cS:=.one 12
end B01
noncomputable abbrev hi (x:Int):Hn:=.d<|.int x
noncomputable abbrev ht (x:aG):Hn:=.d<|.str x
noncomputable abbrev hl (x:List aK):Hn:=.d<|.list x
theorem tt:aB=true:=rfl
theorem ff:aE=false:=rfl
theorem dt {p:Prop} {d:Decidable p} (h:p):decide p=true:=QHj h
theorem df {p:Prop} {d:Decidable p} (h: ¬ p):decide p=false:=decide_eq_false h
noncomputable def vs:Nat->List Int->Ls
 |_,[]=>[]
 |i,a::as=>(i,.val<|.int a)::vs (i+1) as
theorem xe (b:List SW) (hs:Hs) (o:bj) (f:Nat) (j c:List Nat) (t:Option Nat) (xs:List aK) (l R:Ls) (d:aK) (L:Ls) (e:xs.length=j.length) (h:tA f c t l=R) (a:Gw d=aB):ju (jK j (xs.map .val) R) λi=>sX (b.map SW.x) o hs i λv W O=>iY v d->Bs l W t L->vY o f j c t (b.map SW.w) xs l d L:=mC<|(oW<|oF b).r (λq=>⟨e,h▸q⟩) λO O O q g b=>q ⟨g,a,b⟩
theorem mD (c:TW) (b:List SW) (n:Nat) (o:bj) (hs:Hs) (L:Ls) (K:Fl->Ls->Prop):ju L λU=>c.x o hs U λz l hs=>sz z hs (λhs=>sX (b.map SW.x) o hs l λf A O=>Bn f (wW c.w (b.map SW.w) o n A K) (λv=>K (.ret v) A)->wW c.w (b.map SW.w) o (n+1) L K) λO=>K .next l->wW c.w (b.map SW.w) o (n+1) L K:=mC<|c.ok.r id λO O O q=>vC q (λO q=>(oW<|oF b).r q λO O O q=>q) λO q=>q
theorem fx (t:cS) (b:List SW) (o:bj) (hs:Hs) (x:aK) (xs:List aK) (L:Ls) (K:Fl->Ls->Prop):ju L λU=>Bh t x U λl=>sX (b.map SW.x) o hs l λf A O=>Bn f (fW t (b.map SW.w) o xs A K) (λv=>K (.ret v) A)->fW t (b.map SW.w) o (x::xs) L K:=mC<|HK id λO q=>(oW<|oF b).r q λO O O q=>q
theorem fN (e:EW) (t:cS) (cs:List TW) (o:bj) (hs:Hs) (l:Ls) (x:aK) (xs:List aK) (K:List aK->Prop):ju l λU=>Bh t x U λL=>aX (cs.map TW.x) o hs L λz A hs=>aL A=aL L->sz z hs (λhs=>e.x o hs L λv A O=>aL A=aL L->bf (j3 v) (λy=>cW e.w t (cs.map TW.w) o l xs (λys=>K<|y::ys)->cW e.w t (cs.map TW.w) o l (x::xs) K) True) λO=>cW e.w t (cs.map TW.w) o l xs K->cW e.w t (cs.map TW.w) o l (x::xs) K:=mC<|HK id λL q=>(Tp<|Jn cs).r q λO O O q h=>vC (λr=>q ⟨h,r⟩) (λO q=>e.ok.r q λO O O q h=>cG (λr=>q ⟨h,r⟩) λO q=>q) λO q=>q
noncomputable def CE (e:E) (t:cS) (cs:List T) (o:bj) (l:Ls) (x:aK) (r:Option aK):Prop:= ∀R K,(match r with|some y=>cW e t cs o l R λY=>K (y::Y)|none=>cW e t cs o l R K)->cW e t cs o l (x::R) K
theorem X0 {cs:List T}: ∀{xs:List aK},(∀x∈xs,CE e t cs o l x<|f x)-> ∀K,K (xs.filterMap f)->cW e t cs o l xs K:=by
 intro xs;induction xs with
 |nil=>exact λO K h=>h
 |cons x xs i=>
  exact λg K h=>by
   refine g x (.head _) xs K ?_;have i:=λK=>i (λy Y=>g y<|.tail _ Y) K;induction q:f x with
   |none=>exact i _ (by simp! only[nP,q] at h;exact h)
   |some y=>exact i _ (by simp! only[nP,q] at h;exact h)
theorem AP {cs:List T} {α:Type} {g:α->aK} {f:α->aK}: ∀{xs:List α},(∀x∈xs,CE e t cs o l (g x)<|aA<|f x)-> ∀K,K (xs.map f)->cW e t cs o l (xs.map g) K:=by
 intro xs;induction xs with
 |nil=>exact λO K h=>h
 |cons x xs i=>exact λq K h=>q x (.head _) _ K<|i (λy Y=>q y<|.tail _ Y) _ h
theorem fw (k:Nat):(0:Int)<2^k:=kbt_pos k
theorem QBK (u s r:Nat) (h:r<2^s):(2^s*u+r) &&& (2^s*u)=2^s*u:=by
 apply QFq;intro j;simp only[QFr,Nat.testBit_two_pow_mul_add _ h,QFs];by_cases q:j<s
 ·simp[q,H5 q]
 ·simp[q,jN q]
theorem Xl (u s r:Nat) (h:r<2^s):(2^s*u) &&& r=0:=by
 apply QFq;intro j;simp only[QFr,QFs,Nat.zero_testBit];by_cases q:j<s
 ·simp[H5 q]
 ·simp only[Nat.testBit_lt_two_pow<|mJ h<|QFt (by decide)<|jN q]
  simp
theorem LV (a b:Nat):jM (a:Int) (b:Int)=((a &&& b:Nat)):=by rfl
theorem U7 (x y:Int):uS x y=x+y - jM x y:=by have h:=bitXor_and x y;unfold Cp at h;exact vd h
theorem JO (hu:0<=u) (hr:0<=r) (h:r<2^s):uS (u*2^s) r=u*2^s+r:=by
 refine aV (IC hu) λa e1'=>sb e1'<|aV (Int.eq_ofNat_of_zero_le hr) λb e1'=>?_
 clear hr;subst e1';rw[U7];simp only[(by push_cast;exact jr _ _:((a:Int)*2^s)=((2^s*a:Nat))),LV,Xl a s b (by exact_mod_cast h:b<2^s)];rfl
theorem QCC (M:0<=x):Cp x (x.fdiv (2^s)*2^s)=x % 2^s:=by
 refine aV (IC M) λa e=>?_;clear M;subst e;simp only[Qp _<|bw<|fw s,bitXor_and];have n:=(QFu a<|2^s).symm
 have p:a &&& (2^s*(a / 2^s))=2^s*(a / 2^s):=by
  conv=>lhs;lhs;rw[n]
  exact QBK _ _ _<|dw _<|Nat.two_pow_pos s
 simp only[(by push_cast;exact jr _ _:((a:Int) / 2^s*2^s)=((2^s*(a / 2^s):Nat))),LV,p];simp only[(by push_cast;rfl:((a:Int) % 2^s)=((a % 2^s:Nat)))];exact uX (bE<|oL<|nL n)<|bE<|oL<|nR n
theorem ny:ib x<=m↔x.natAbs<2^m:=intBits_le_iff
theorem lJ (h:0<=x):ib x<=m↔x<2^m:=by
 rw[ny];refine aV (IC h) λa e=>sb e ?_;constructor
 ·intro q
  have:=q
  exact_mod_cast this
 ·intro q;have:a<2^m:=by exact_mod_cast q
  exact this
theorem Lp (h:2^m<=x) (H:x<2^(m+1)):ib x=m+1:=by
 have b:=kD (bw<|fw m) h;apply jk
 ·exact (lJ b).mpr H
 ·refine cp (QZ m<|ib x) (λq=>?_) λq=>?_
  ·exact q
  ·exact QHb ((lJ b).mp q)<|jL.mpr h
theorem YN (h:0<=x) (e:ib x=m+1):2^m<=x:=by
 refine cp (Qq x<|2^m) (λq=>?_) λq=>?_
 ·have:=(lJ h).mpr q
  exact (cY (nR e) this)
 ·exact q
theorem JS:ib 0=0:=rfl
theorem CW (h:0<x): ∃m,ib x=m+1:=by
 induction e:ib x with
 |zero=>have:=(lJ<|bw h).mp<|qm e;simp at this;exact fj h this
 |succ m=>exact ⟨m,rfl⟩
theorem oU {m:Nat} (H:0<=x) (h:x<2^m):(ib x:Int)<=m:=by exact_mod_cast (lJ H).mpr h
theorem hW (a:Int) (h:0<b):a.fdiv b=a / b:=Qp _<|bw h
theorem nC (a:Int) (h:0<b):a.fmod b=a % b:=Int.fmod_eq_emod_of_nonneg _<|bw h
theorem mr (m n:Nat):(2:Int)^(m+n)=2^m*2^n:=Int.pow_add ..
theorem rf (m:Nat):(2:Int)^(m+1)=2*2^m:=(Int.pow_succ ..).trans<|jr ..
theorem u5 {a b q r:Int} (hb:0<b) (e:a=q*b+r) (H:0<=r) (h:r<b):a / b=q/\a % b=r:=kbt_unique hb (by simp only[e,jr,xK]) H h
theorem Xy (n:0<N) (B:N<=2*b1) (i:0<=b2) (H:b2<N) (M:0<=q) (Q:q<N) (C:0<=r) (l:0<=a3) (hb:b=b1*N+b2): -(2*b)<=r*N+a3 - q*b2:=by have h:=Hm (bw Q) (bw H) i<|bw n;have R:=kG C<|bw n;have m:=mV B<|bw n;simp only[xM] at m;exact (bG (ni (ni (ni (ni R l) h)<|mI 2<|iR hb) m)<|mI 2 i)
namespace B01
section
variable {a12 a3 b b1 b2 n A:Int} {K:Fl->Ls->Prop}
theorem QDj (hb:0<b) (h:K .next (vs 0 [a12,a3,b,b1,b2,n,A / b,A % b])) (k:Nat): ∀{q:Int}, -(k*b)<=A - q*b->A - q*b<b->wW tK.w (uK.map SW.w) o (k+1) (vs 0 [a12,a3,b,b1,b2,n,q,A - q*b]) K:=by
 induction k with
 |zero=>
  intro q u i;have c: ¬ A - q*b<0:=λK=>fj K u
  have H:=(u5 (a:=A) (q:=q) hb (by simp+arith) (jL.mp c) i);have e1:=H.1;have e2:=H.2;simp only[e1,e2] at h;exact mD tK uK 0 o [.b aE] (vs 0 [a12,a3,b,b1,b2,n,q,A - q*b]) K (df c) h
 |succ k d=>
  intro q u i;by_cases c:A - q*b<0
  ·have e:A - (q - 1)*b=A - q*b+b:=by rw[Qr];simp+arith
   have e2:((k+1:Nat))*b=k*b+b:=by simp only[Int.natCast_succ,qu,gq]
   have:=d (q:=q - 1) (by grind_order) (by rw[Qr,gq];exact bE c);rw[e] at this;exact mD tK uK (k+1) o [.b aB] (vs 0 [a12,a3,b,b1,b2,n,q,A - q*b]) K (dt c) this
  ·have H:=(u5 (a:=A) (q:=q) hb (by simp+arith) (jL.mp c) i)
   have e1:=H.1;have e2:=H.2;simp only[e1,e2] at h;exact mD tK uK (k+1) o [.b aE] (vs 0 [a12,a3,b,b1,b2,n,q,A - q*b]) K (df c) h
theorem d3 (hb:0<b) (r:R=A - q*b) (u: -(2*b)<=R) (H:R<b) (K:Fl->Ls->Prop) (h:K .next (vs 0 [a12,a3,b,b1,b2,n,A / b,A % b])): ∃m,wW tK.w (uK.map SW.w) o m (vs 0 [a12,a3,b,b1,b2,n,q,R]) K:=⟨3,by rw[r] at u H⊢;exact QDj hb h 2 u H⟩
end
theorem L7 (L:Nat) {n:Nat} (hn:n<=40000000)
 (hd:a12<b1*2^n->(aU L).F 3 [.int a12,.int b1,.int n] (.tuple [.int<|a12 / b1,.int<|a12 % b1]))
 (hb:b=b1*2^n+b2) (v:2^n<=2*b1) (p:b1<2^n) (i:0<=b2) (H:b2<2^n) (W:0<=a3) (z:a3<2^n) (A:0<=a12) (a:a12<b):
 (aU<|L+1).F 4 [.int a12,.int a3,.int b,.int b1,.int b2,.int n] (.tuple [.int<|(a12*2^n+a3) / b,.int<|(a12*2^n+a3) % b]):=by
 have R:=fw n;have B:0<b1:=(zU.mp λy0=>(fj (ni R v)<|mI 2 y0))
 have j:0<b:=by have:=lU B R;exact o9 ‹_› ‹_›
 have N:(0:Int)<=n:=dP n;have l1:(ib b1:Int)<=n:=oU (bw B) p;have l2:(ib b2:Int)<=n:=oU i H;have k1:(ib b1:Int)+n<=134217728:=bG (ni (oL hn)<|oL hn) l1
 have tl: ∀{q r:Int},0<=q->q<2^n->0<=r->r<2^(n+1)->r*2^n+a3 - q*b2=a12*2^n+a3 - q*b->r*2^n+a3 - q*b2<b->(ib r:Int)+n<=134217728/\ib q+ib b2<=134217728/\
  ∀K,K .next (vs 0 [a12,a3,b,b1,b2,n,(a12*2^n+a3) / b,(a12*2^n+a3) % b])-> ∃m,wW tK.w (uK.map SW.w) (aU L) m (vs 0 [a12,a3,b,b1,b2,n,q,uS (r*2^n) a3 - q*b2]) K:=λ{q r} u Y C s e l=>by
  have l3:(ib q:Int)<=n:=oU u Y;have l4:(ib r:Int)<=(n+1):=oU C s;refine ⟨by exact bG (ni (oL hn)<|oL hn) l4,by exact (oM<|bG (ni l3 l2)<|mI 2<|oL hn),λK h=>?_⟩;exact sb (JO C W z)<|d3 j e (Xy R v i H u Y C W hb) l K h
 refine dj ?_ rfl;by_cases c:a12.fdiv (2^n)=b1
 ·have g:=c
  rw[hW _ R] at g;have c1:b1*2^n<=a12:=by erw[<-g];exact Int.ediv_mul_le _<|gE R
  have e:(a12 - b1*2^n+b1)*2^n+a3 - (1*2^n - 1)*b2=a12*2^n+a3 - (1*2^n - 1)*b:=by grind
  refine eN (tl (bE R) (by simp+arith) (by (clear v;exact bG B c1)) (by rw[rf];exact bG (ni (ni (iL hb) p) H) a) e (by
   erw[e];have:(a12+1)*2^n<=b*2^n:=mV (by assumption) (bw R)
   grind)) λP t t3=>?_
  exact dz b_div3n2n 6 [.b aB,.f .next (vs 0 [a12,a3,b,b1,b2,n,(a12*2^n+a3) / b,(a12*2^n+a3) % b])] (aU L) [.int a12,.int a3,.int b,.int b1,.int b2,.int n] _ rfl N (QHe.mpr c) N (bE (oL hn):(1:Int)+n<=_) N k1 N P t t3 .ret
 ·have c1:a12<b1*2^n:=zU.mp λh=>c (by erw[hW _ R];exact (u5 (r:=a12 - b1*2^n) R (by simp+arith) (bE h)<|bG (ni (iL hb) H) a).1)
  have Z:=nV a12 B;have M:=mX a12<|gE B;have Q:0<=a12 / b1:=ur A<|bw B;have o:a12 / b1<2^n:=sZ B (by rw[jr];exact c1);have U:a12=a12 / b1*b1+a12 % b1:=by have:=pL a12 b1;rw[jr] at this;exact this.symm
  refine eN (tl Q o M (by rw[rf];exact bG (ni (ni p p) B) Z) (by grind) (by
   have x:(a12 % b1+1)*2^n<=b1*2^n:=mV Z<|bw R;simp only[qu,gq] at x;have h4:0<=a12 / b1*b2:=kG Q i
   exact bG (ni (ni (ni (iR hb) i) z) x) h4)) λP t t3=>?_
  exact dz b_div3n2n 6 [.b aE,.d<|.tuple [.int<|a12 / b1,.int<|a12 % b1],.f .next (vs 0 [a12,a3,b,b1,b2,n,(a12*2^n+a3) / b,(a12*2^n+a3) % b])] (aU L) [.int a12,.int a3,.int b,.int b1,.int b2,.int n] _ rfl N (beq_eq_false_iff_ne.mpr c) (hd c1) N P t t3 .ret
end B01
theorem QCZ {x:Int} {m:Nat} (H:0<=x) (h:(ib x:Int)<=m):x<2^m:=(lJ H).mp (by exact_mod_cast h)
theorem BL (h:m<=n):(2:Int)^m<=2^n:=by refine aV (Nat.exists_eq_add_of_le h) λk e=>sb e ?_;simp only[mr];have:(2:Int)^m*1<=2^m*2^k:=Hg (fw k)<|bw<|fw m;rwa[ug] at this
theorem KY:ib 1=1:=rfl
theorem bT {x:Int} (h:x=1):(x !=0)=true:=h▸rfl
theorem bF {x:Int} (h:x=0):(x !=0)=false:=by erw[h];rfl
namespace B01
theorem FH {a b:Int} (h:(ib a:Int)<=ib b+4000):sC a b=false:=by dsimp only[sC];simp only[Bool.and_eq_false_imp,decide_eq_true_eq,decide_eq_false_iff_not];intro _;unfold ib Builtin.Int.intBits at h;by_cases A:a=0<;>by_cases B:b=0<;>simp[A,B] at h⊢ <;>lia -abstractProof
section
variable {a b n H q1 r1 q2 r2:Int}
theorem NJ (hb:0<b) (hn:(ib a:Int) - n<=4000) (p:sC a b=aE):mB (aU L) 3 uP [.int a,.int b,.int n] (.tuple [.int<|a / b,.int<|a % b]):=by simp only[<-hW a hb,<-nC a hb];exact dz uP 3 [hi<|ib a,.i 4000,.b aB,.d<|.tuple [.int<|a.fdiv b,.int<|a.fmod b]] (aU L) [.int a,.int b,.int n] _ rfl .bits (oG L ⟨rfl,rfl⟩) (dt hn) (.divmod (gE hb) p) .ret
theorem VV (e:n.fdiv (2^bN 1)=H) (A:jM n 1=0) (c: ¬ (ib a:Int) - n<=4000) (hn:0<=n) (h:0<=H) (hs:ib 1+H<=134217728) (q:(ib q1:Int)+H<=134217728)
 (W:(aU L).F 4 [.int<|a.fdiv<|2^n.toNat,.int<|jM (a.fdiv<|2^H.toNat)<|1*2^H.toNat - 1,.int b,.int<|b.fdiv<|2^H.toNat,.int<|jM b<|1*2^H.toNat - 1,.int H] (.tuple [.int q1,.int r1]))
 (K:(aU L).F 4 [.int r1,.int<|jM a<|1*2^H.toNat - 1,.int b,.int<|b.fdiv<|2^H.toNat,.int<|jM b<|1*2^H.toNat - 1,.int H] (.tuple [.int q2,.int r2])):
 mB (aU L) 3 uP [.int a,.int b,.int n] (.tuple [.int<|uS (q1*2^H.toNat) q2,.int r2]):=by
 subst e;exact dz uP 3 [hi<|ib a,.i 4000,.b aE,.b aE,.d<|.tuple [.int q1,.int r1],.d<|.tuple [.int q2,.int r2],.b aE] (aU L) [.int a,.int b,.int n] _ rfl .bits (oG L ⟨rfl,rfl⟩) (df c) (bF A) (by decide) h hs h hn h W K (bF A) h q .ret
theorem ZJ (e:(n+1).fdiv (2^bN 1)=H) (A:jM n 1=1) (c: ¬ (ib a:Int) - n<=4000) (hn:0<=n+1) (h:0<=H) (hs:ib 1+H<=134217728) (q:(ib q1:Int)+H<=134217728) (s:(ib a:Int)+1<=134217728) (hb:(ib b:Int)+1<=134217728)
 (W:(aU L).F 4 [.int<|(a*2).fdiv<|2^(n+1).toNat,.int<|jM ((a*2).fdiv<|2^H.toNat)<|1*2^H.toNat - 1,.int<|b*2,.int<|(b*2).fdiv<|2^H.toNat,.int<|jM (b*2)<|1*2^H.toNat - 1,.int H] (.tuple [.int q1,.int r1]))
 (K:(aU L).F 4 [.int r1,.int<|jM (a*2)<|1*2^H.toNat - 1,.int<|b*2,.int<|(b*2).fdiv<|2^H.toNat,.int<|jM (b*2)<|1*2^H.toNat - 1,.int H] (.tuple [.int q2,.int r2])):
 mB (aU L) 3 uP [.int a,.int b,.int n] (.tuple [.int<|uS (q1*2^H.toNat) q2,.int<|r2.fdiv 2]):=by
 subst e;exact dz uP 3 [hi<|ib a,.i 4000,.b aE,.b aB,.d<|.tuple [.int q1,.int r1],.d<|.tuple [.int q2,.int r2],.b aB] (aU L) [.int a,.int b,.int n] _ rfl .bits (oG L ⟨rfl,rfl⟩) (df c) (bT A) (by decide) s (by decide) hb (by decide) h hs h hn h W K (bT A) (by decide) h q .ret
end
theorem WY {a b H:Int} (hb:0<b) (h:0<H) (A:a<b*(H*H)) (s:0<=a):a / H / b*H+(a / H % b*H+a % H) / b=a / b/\(a / H % b*H+a % H) % b=a % b/\0<=a / H / b/\a / H / b<H/\0<=(a / H % b*H+a % H) / b/\(a / H % b*H+a % H) / b<H:=by
 have r:=mX (a / H)<|gE hb;have r1:=nV (a / H) hb;have L:=mX a<|gE h;have l:=nV a h;have e:a / H % b*H+a % H+a / H / b*H*b=a:=by have z:=pL (a / H) b;have Z:=pL a H;exact sb (by grind:a / H % b*H+a % H+a / H / b*H*b=H*(b*(a / H / b)+a / H % b)+a % H)<|sb z<|sb Z rfl
 have p:a / H % b*H+a % H<H*b:=by have:=mV (r1:a / H % b+1<=b)<|bw h;rw[qu,gq,jr b] at this;exact pP (QFv l _) this
 refine ⟨?_,?_,ur (ur s<|bw h)<|bw hb,sZ hb<|sZ h ?_,ur (qw (kG r<|bw h) L)<|bw hb,sZ hb p⟩
 ·have:=Int.add_mul_ediv_right (a / H % b*H+a % H) (a / H / b*H) (gE hb)
  rw[e] at this;rw[this,xK]
 ·have:=Int.add_mul_emod_self_right (a / H % b*H+a % H) (a / H / b*H) b
  rw[e] at this;exact this.symm
 ·rw[jr H b,xM]
  exact A
theorem upper {b:Int} (o:1<=h) (B:2^(2*h)<=2*b) (dM:b<2^(2*h)):0<b/\2^h<=2*(b / 2^h)/\b / 2^h<2^h:=by
 have H:=fw h;rw[show (2:Int)^(2*h)=2^h*2^h by rw[Pd,mr]] at B dM;refine ⟨by have:=lU H H;exact bG B dM,?_,sZ H dM⟩;clear dM;refine aV (DP o) λg m=>?_;subst m;have e:=rf g;have:2^g<=b / 2^(g+1):=by refine (Int.le_ediv_iff_mul_le H).mpr ?_;rw[e,xM] at B;exact sb e<|Int.le_of_mul_le_mul_left B (by decide)
 exact sb e<|Int.mul_le_mul_of_nonneg_left (e▸this) (by decide)
theorem PK (L:Nat) {a b:Int} {h:Nat} (d2: ∀x,0<=x->x<b / 2^h*2^h->(aU<|L+1).F 3 [.int x,.int<|b / 2^h,.int h] (.tuple [.int<|x / (b / 2^h),.int<|x % (b / 2^h)])) (Q:0<=a) (hn:h<=40000000) (o:1<=h) (v:2^(2*h)<=2*b) (dM:b<2^(2*h)) (A:a<b*2^(2*h)): ∃q1 r1 q2 r2,
 (aU<|L+1+1).F 4 [.int<|a.fdiv<|2^(2*h),.int<|jM (a.fdiv<|2^h)<|1*2^h - 1,.int b,.int<|b.fdiv<|2^h,.int<|jM b<|1*2^h - 1,.int h] (.tuple [.int q1,.int r1])/\
 (aU<|L+1+1).F 4 [.int r1,.int<|jM a<|1*2^h - 1,.int b,.int<|b.fdiv<|2^h,.int<|jM b<|1*2^h - 1,.int h] (.tuple [.int q2,.int r2])/\
 (ib q1:Int)<=h/\uS (q1*2^h) q2=a / b/\r2=a % b:=by
 refine eN (upper o v dM) λB u U=>?_;have H:=fw h;rw[show (2:Int)^(2*h)=2^h*2^h by rw[Pd,mr]] at A⊢;rw[hW _<|lU H H,hW _ H,hW _ H,gq,Qt,Qt,Qt];have d:=λx:Int=>show x=x / 2^h*2^h+x % 2^h by rw[jr];exact (pL x<|2^h).symm
 have m:=λx=>mX x<|gE H;have M:=λx=>nV x H;refine Fs (WY B H A Q) λi l s f s5 q=>?_;have N:=ur Q<|bw<|lU H H;have K:=L7 (L+1) hn (d2 _ N) (d b) u U (m b) (M b) (m<|a / 2^h) (M<|a / 2^h) N<|sZ (lU H H) A;rw[show a / (2^h*2^h)*2^h+a / 2^h % 2^h=a / 2^h by erw[<-QFw (bw H)];exact (d<|a / 2^h).symm] at K;have r:=mX (a / 2^h)<|gE B;have j:=L7 (L+1) hn (d2 _ r) (d b) u U (m b) (M b) (m a) (M a) r<|nV (a / 2^h) B;exact ⟨_,_,_,_,K,j,oU s f,by (erw[JO s s5 q];exact sb i rfl),l⟩
theorem Xw: ∀(j L:Nat),2*j<=L-> ∀(a b:Int) (n:Nat),0<=a->1<=n->2^n<=2*b->b<2^n->a<b*2^n->n<=4000*2^j->n<=30000000->
 (aU<|L+1).F 3 [.int a,.int b,.int n] (.tuple [.int<|a / b,.int<|a % b]):=by
 intro j;induction j with
 |zero=>
  intro L z a b n s hn B dM A Z N;have d:=fw n;have R:0<b:=(zU.mp λY=>(fj (ni d B)<|mI 2 Y))
  have l:a<2^(n+n):=by rw[mr];exact Ib A<|QFx dM d
  have q:=oU s l;have i:ib b=n:=by refine aV (DP hn) λm g=>?_;clear s hn A Z N d R l q;subst g;refine Lp ?_ dM;rw[rf] at B;exact (jL.mp λY=>(fj (ni Y B) Y))
  refine dj ?_ rfl;exact NJ R (bG q<|oL Z)<|FH<|bG (ni q<|oL Z)<|oL<|nR i
 |succ j ih=>
  intro L z a b n s hn B dM A Z N;have d:=fw n;have R:0<b:=(zU.mp λY=>(fj (ni d B)<|mI 2 Y))
  have l:a<2^(n+n):=by rw[mr];exact Ib A<|QFx dM d
  have q:=oU s l;have f:ib b=n:=by refine aV (DP hn) λm g=>?_;clear s hn A Z N d R l q;subst g;refine Lp ?_ dM;rw[rf] at B;exact (jL.mp λY=>(fj (ni Y B) Y))
  refine dj ?_ rfl;by_cases c:(ib a:Int) - n<=4000
  ·exact NJ R c<|FH<|bG c<|oL<|nR f
  ·have half:=λ(a' Q:Int) (h:Nat) (q:0<=a') (i:1<=h) (U:2^(2*h)<=2*Q) (o:Q<2^(2*h)) (h5:a'<Q*2^(2*h)) (h6:h<=4000*2^j) (h7:h<=30000000)=>eN (upper i U o) λO u0 u=>(PK (L - 2) (λx hx r=>ih (L - 2) ((bD z<|nR<|sE ((aQ z):2<=L))) x (Q / 2^h) h hx i u0 u r h6 h7) q (az ‹_› (gA _ _)) i U o h5)
   rw[show L - 2+1+1=L by exact (sE ((aQ z):2<=L))] at half;have p:(2:Nat)^(j+1)=2*2^j:=by rw[Qu];exact Ic _ _
   obtain ⟨h,e|e⟩: ∃h,n=2*h\/n=2*h+1:=⟨n / 2,by exact ((Decidable.em _).imp_right λo1=>((uu o1).elim (λu=>(jk (aQ u)<|bD (na (qx (n) 2) u)<|qx (n) 2)) λu=>(jk (aQ<|dG (n) (by decide:0<2)) u)))⟩
   ·subst e
    exact uG (half a b h s ((iH.mp λY=>(cY hn<|gC 2 Y))) B dM A (by (exact (iH.mp λY=>(cY (na (na Y Z)<|gC 4000<|nL p) Y))))<|aQ N) λq1 r1 q2 r2 P t M K W=>cw W<|cw K<|VV (H:=h) (by refine (?_);erw[hW _<|by decide];simp+arith) (by rw[bitAnd_m1];simp+arith) c (Int.natCast_nonneg _) (Int.natCast_nonneg _) (by erw[KY];exact bG (oL N)<|oZ h) (bG M<|oL N) P t
   ·subst e
    have e2:(2:Int)^(2*(h+1))=2*2^(2*h+1):=by rw[show 2*(h+1)=(2*h+1)+1 by simp+arith,rf]
    have v:=fw<|2*h+1
    refine uG (half (a*2) (b*2) (h+1) (bG s s) (by simp+arith) (by erw[e2];exact bG B B) (by erw[e2];exact bG dM dM) (by
     erw[e2];have:=kG (bw R) (bw v)
     grind) ((iH.mp λY=>(cY (na Z<|gC 4000<|nL p)<|gC 2 Y))) (aQ N)) λq1 r1 q2 r2 P t M K W=>?_;subst W
    have C:a*2 / (b*2)=a / b:=Int.mul_ediv_mul_of_pos_left _ _ (by decide);have e5:(a*2 % (b*2)).fdiv 2=a % b:=by have q:=pL (a*2)<|b*2;have i:=pL a b;rw[C] at q;exact sb (by grind:a*2 % (b*2)=a % b*2)<|sb (hW _<|by decide)<|Int.mul_ediv_cancel _ (by decide)
    rw[C] at K;simp only[<-K,<-e5];exact ZJ (H:=(h+1:Nat)) (by refine (?_:(((2*h+1:Nat):Int)+1).fdiv 2=(h+1:Nat));erw[hW _<|by decide];exact n_ h) (by rw[bitAnd_m1];simp+arith) c (dP _) (dP _) (by erw[KY];exact bG (oL N)<|oZ<|h+1) (bG M<|oL N) (bG (ni (oL N)<|oL N) q) (bG (oL N)<|oL<|nL f) P t
end B01
noncomputable def digs (n:Nat):Nat->Int->List Int
 |0,_=>[]
 |k+1,x=>x % 2^n::digs n k (x / 2^n)
theorem Bg {k x}:digs n (k+1) x=x % 2^n::digs n k (x / 2^n):=rfl
theorem zI (n:Nat): ∀k x,(digs n k x).length=k:=by
 intro O;induction O with
 |zero=>exact λO=>rfl
 |succ k i=>exact λx=>QHf _<|i _
theorem tJ (n k:Nat):(2:Int)^(n*(k+1))=2^n*2^(n*k):=by rw[DQ,uv,mr]
theorem RM (x:Int) (n k:Nat):x % 2^(n*(k+1)) % 2^n=x % 2^n:=by rw[tJ];exact QFy _ ⟨_,rfl⟩
theorem A_ (x:Int) (n k:Nat):x % 2^(n*(k+1)) / 2^n=x / 2^n % 2^(n*k):=by
 rw[tJ];have N:=fw n;have M:=fw<|n*k;have H:=pL x<|2^n;have h:=pL (x / 2^n)<|2^(n*k);have A:=mX x<|gE N;have z:=nV x N;have B:=mX (x / 2^n)<|gE M;have s:=nV (x / 2^n) M
 have o:x % (2^n*2^(n*k))=x / 2^n % 2^(n*k)*2^n+x % 2^n:=by
  refine (u5 (a:=x) (b:=2^n*2^(n*k)) (q:=x / 2^n / 2^(n*k)) (lU N M) (by grind) (qw (kG B<|bw N) A) ?_).2;have:=mV s (bw N)
  grind
 exact sb o<|(u5 N rfl A z).1
theorem Zt (n:Nat): ∀a b x,digs n (a+b) x=digs n a (x % 2^(n*a))++digs n b (x / 2^(n*a)):=by
 intro O;induction O with
 |zero=>exact λb x=>by rw[QFz,uk];exact QHf (digs n b) (QGA x).symm
 |succ a i=>exact λb x=>by rw[Nat.succ_add,Bg,Bg,i b,RM,A_,tJ,QFw<|bw<|fw n];rfl
theorem Z6 (H:0<=x) (h:x<2^n):digs n 1 x=[x]:=QHf (· ::[])<|QGB H h
theorem BQ (H:0<=x) (h:x<2^60):ib x<=60:=(lJ H).mpr h
theorem i1:(0:Int)<=1:=by decide
namespace B01
theorem Ms (r1:aL l 1=.val (.int n)) (r2:aL l 2=.own xs) (r:aL l 3=.clo 1):tA 1 [1,2,3] (aA 2) l=[(1,.val<|.int n),(2,.own xs),(3,.clo 1)]:=by
 refine (?_:[(1,kA 1 aE<|aL l 1),(2,kA 1 aB<|aL l 2),(3,kA 1 aE<|aL l 3)]=_);refine sb r1<|sb r2<|sb r ?_
 rfl
section
variable {n x L R M S U W:Int}
noncomputable def sA (n:Int) (xs:List aK) (x L R M S U W:Int):Ls:=(1,.val<|.int n)::(2,.own xs)::(3,.clo 1)::vs 200 [x,L,R,M,S,U,W]
theorem TR (r1:aL l 1=.val (.int n)) (r2:aL l 2=.own xs) (r:aL l 3=.clo 1) (q:0<=L) (h:L<xs.length) (H:xs.length<2^63):
 (aU<|m+1).L 1 [.int x,.int L,.int<|L+1] l .none (cL l 2<|.own<|xs.set L.toNat<|.int x):=
 .b rfl (xe G8 [.b aB] (aU m) 1 [200,201,202] [1,2,3] (aA 2) [.int x,.int L,.int<|L+1] l _ _ _ rfl (Ms r1 r2 r) rfl (QHg _) q h H .ret (.some r2 rfl))
theorem SA (r1:aL l 1=.val (.int n)) (r2:aL l 2=.own xs) (r:aL l 3=.clo 1) (e1: ¬ L+1=R) (v:(L+R).fdiv (2^bN 1)=M) (e:(M - L)*n=S) (Y:x.fdiv (2^S.toNat)=U) (s:Cp x (U*2^S.toNat)=W)
 (t:ib (M - L)+ib n<=134217728) (g:0<=S) (z:(ib U:Int)+S<=134217728) (K:(aU m).L 1 [.int W,.int L,.int M] (sA n xs x L R M S U W) .none (sA n ys x L R M S U W)) (B:(aU m).L 1 [.int U,.int M,.int R] (sA n ys x L R M S U W) .none (sA n zs x L R M S U W)):
 (aU<|m+1).L 1 [.int x,.int L,.int R] l .none (cL l 2<|.own zs):=by
 subst v;subst e;subst Y;subst s;exact .b rfl (xe G8 [.b aE,.c .none<|sA n ys x L R _ _ _ _,.c .none<|sA n zs x L R _ _ _ _] (aU m) 1 [200,201,202] [1,2,3] (aA 2) [.int x,.int L,.int R] l _ _ _ rfl (Ms r1 r2 r) rfl (beq_eq_false_iff_ne.mpr e1) i1 t g g z K B .next (.some r2 rfl))
end
theorem Ys: ∀(k z:Nat),k<=z->1<=k-> ∀(x:Int) (L n:Nat) (xs:List aK) (l:Ls),L+k<=xs.length->xs.length<=256->1<=n->n*k<=30000000->0<=x->x<2^(n*k)->
 aL l 1=.val (.int n)->aL l 2=.own xs->aL l 3=.clo 1->(aU z).L 1 [.int x,.int L,.int (L+k:Nat)] l .none (cL l 2<|.own<|xs.take L++(digs n k x).map .int++xs.drop (L+k)):=by
 intro k;induction k using QGC with
 |ind k i=>
  intro z hl K x L n xs l C d hn N q Q r1 r2 r;refine aV (DP<|az K hl) λm e=>?_;subst e;by_cases c:k=1
  ·clear i K N hl
   subst c;rw[Nat.mul_one] at Q;have:=TR (m:=m) (x:=x) r1 r2 r (dP L) (mF.mpr ‹_›) (ig ‹_› (by decide));rw[lR,List.set_eq_take_append_cons_drop,if_pos<|Nat.lt_of_succ_le C] at this;rw[Z6 q Q,ik];exact this
  ·-- the PK
   refine iT (by
    refine (jj (k / 2) (k - k / 2) (((uu c).elim (λg=>(bD K g)) λg=>(iH.mp λv=>(cY (na g<|dG (k) (by decide:0<2))<|gC 2 v)))) ((iH.mp λv=>(cY (na (na (na (na K<|nR<|sE ((aQ<|qx (k) 2):k / 2<=k)) v)<|qx (k) 2)<|nR<|sE ((aQ<|qx (k) 2):k / 2<=k)) v))) (by (exact (vV<|sE ((aQ<|qx (k) 2):k / 2<=k)))) ?_)
    exact sb (hW _<|by decide)<|Od L k: ∃a b,1<=a/\1<=b/\a+b=k/\((L:Int)+((L+k:Nat):Int)).fdiv (2^Int.toNat 1)=((L+a:Nat):Int)) λa b o hb A M=>?_
   have t:n*a+n*b=n*k:=by rw[<-A,QGD]
   have h:=fw<|n*a;have f:(((L+a:Nat):Int) - L)*n=((n*a:Nat):Int):=by rw[QGE,xK,Qv,<-QGF,Ic]
   have u:=ur q<|bw h;have p:=sZ h (by rw[<-mr,uv,t];exact Q);have F:=mX x<|gE h;have B:=nV x h;have g1:ib (((L+a:Nat):Int) - L)+ib (n:Int)<=134217728:=by have h1:=BQ (x:=((L+a:Nat):Int) - L) (bE<|oL o)<|bG (ni (ni (ni (oL C)<|oL d)<|oL hb)<|oL<|nL A)<|oZ L;have h2:=BQ (dP _)<|bG (oL N)<|oL (gC n K:n*1<=n*k);exact az (iF ‹_› ‹_›) (by decide)
   have g2:=oU u p;generalize Y:xs.take L++(digs n a<|x % 2^(n*a)).map .int++xs.drop (L+a)=ys at*;have W:ys.length=xs.length:=by erw[<-Y];simp[zI];exact (rF (sE ((bD C<|nL A):L+a<=xs.length))<|fz ((aQ C):L<=xs.length))
   have H:=i a (bD hb<|nL A) m (bD (na hl hb)<|nL A) o (x % 2^(n*a)) L n xs (sA n xs x L (L+k:Nat) (L+a:Nat) (n*a:Nat) (x / 2^(n*a))<|x % 2^(n*a)) (bD C<|nL A) d hn (bD N<|nL t) F B rfl rfl rfl;have j:=i b (bD o<|nL A) m (bD (na hl o)<|nL A) hb (x / 2^(n*a)) (L+a) n ys (sA n ys x L (L+k:Nat) (L+a:Nat) (n*a:Nat) (x / 2^(n*a))<|x % 2^(n*a)) (bD (na C<|nL A)<|nR W) (bD d<|nL W) hn (bD N<|nL t) u p rfl rfl rfl;rw[Y] at H;have R:ys.take (L+a)=xs.take L++(digs n a<|x % 2^(n*a)).map .int:=cw Y<|List.take_left' (by simp[zI];exact (Nat.min_eq_left ((aQ C):L<=xs.length)))
   have P:ys.drop (L+a+b)=xs.drop (L+k):=by
    rw[<-Y,List.drop_append,uw (by simp[zI];exact (aQ<|nL<|fz ((aQ C):L<=xs.length))),sa,QGG]
    congr 1
    simp[zI];exact (rF (ea A<|sE ((aQ<|nL<|fz ((aQ C):L<=xs.length)):min L xs.length+a<=L+a+b)) (fz ((aQ C):L<=xs.length)).symm)
   rw[R,P,wX,A,ik<|xs.take L,<-gp,<-Zt,A] at j;exact SA (S:=(n*a:Nat)) (U:=x / 2^(n*a)) r1 r2 r ((λZ=>((uu c).elim (λg=>(cY K g)) λg=>(fj (oL g)<|iR Z)))) M f (hW _ h) (by have:=QCC (s:=n*a) q;rw[hW _ h] at this;exact this) g1 (dP _) (bG (ni g2<|oL N)<|oL<|nL t) H j
end B01
noncomputable def undig (n:Nat):List Int->Int
 |[]=>0
 |d::ds=>d+2^n*undig n ds
theorem vu:undig n []=0:=rfl
theorem n5 {d ds}:undig n (d::ds)=d+2^n*undig n ds:=rfl
theorem Az (n:Nat): ∀a b,undig n (a++b)=undig n a+2^(n*a.length)*undig n b:=by
 intro O;induction O with
 |nil=>exact λb=>by rw[um,QFz];exact (gq _).symm.trans (zo _).symm
 |cons d a i=>exact λb=>by rw[sV,n5,n5,i b,pQ,tJ,Ie,xM,QGH]
theorem YT (n:Nat): ∀k x,0<=x->x<2^(n*k)->undig n (digs n k x)=x:=by
 intro O;induction O with
 |zero=>exact λx H h=>uX H<|Int.lt_add_one_iff.mp h
 |succ k i=>exact λx H h=>by have N:=fw n;simp only[tJ] at h;rw[Bg,n5,i (x / 2^n) (ur H<|bw N)<|sZ N (by simp only[jr];exact h)];exact (xK ..).trans<|pL x<|2^n
theorem QAB (n:Nat): ∀k x,∀d∈digs n k x,0<=d/\d<2^n:=by
 intro O;induction O with
 |zero=>exact λx d h=>by contradiction
 |succ k i=>
  exact λx d h=>by
   rcases bp.mp h with rfl|h
   ·exact ⟨mX _<|gE<|fw n,nV _<|fw n⟩
   ·exact i _ d h
theorem xj (n:Nat): ∀ds,(∀d∈ds,0<=d/\d<2^n)->0<=undig n ds/\undig n ds<2^(n*ds.length):=by
 intro O;induction O with
 |nil=>exact λO=>⟨uW _,Int.zero_lt_one⟩
 |cons d ds i=>exact λh=>by refine bI (i λx M=>h x<|.tail _ M) λa b=>bI (h d<|.head _) λc e=>?_;have N:=fw n;rw[n5,pQ,tJ];have H:=Hg b<|bw N;exact ⟨qw c<|kG (bw N) a,by rw[Ie,ug] at H;exact bG e H⟩
noncomputable def dU (n:Nat) (a:Int):Nat:=(ib a+n - 1) / n
theorem Eo {a:Int} (hn:1<=n) (A:0<=a):a<2^(n*dU n a):=by refine (lJ A).mp ?_;unfold dU;have:=QFu (ib a+n - 1) n;have:=dw (ib a+n - 1) hn;exact (bD (na (nR<|sE ((aQ this):1<=ib a+n))<|nR ‹n*((ib a+n - 1) / n)+(ib a+n - 1) % n=ib a+n - 1›) this)
theorem Ug (m:Nat):(dV m [cB 0]).flatten=dV m (cB 0):=by
 induction m with
 |zero=>rfl
 |succ m i=>refine sb xN<|sb List.flatten_cons<|sb i<|sb List.replicate_succ ?_;rfl
theorem b0 {a:Int} (h:a≠0):(a !=0)=true:=bne_iff_ne.mpr h
namespace B01
theorem CP (L:Nat) {a:Int} (A:0<=a) (hn:1<=n) (hl:dU n a<=L) (h:dU n a<=256) (hb:n*dU n a<=30000000) (R:n<=30000000):
 (aU<|L+1).F 5 [.int a,.int n] (.list<|(digs n (dU n a) a).map .int):=by
 have N:(0:Int)<n:=mF.mpr ‹_›;have i:ib a<=30000000:=az ((lJ A).mpr<|Eo hn A) hb;have e1:((ib a:Int)+n - 1).fdiv n=(dU n a:Int):=by erw[hW _ N];simp only[show ((ib a:Int)+n - 1)=((ib a+n - 1:Nat):Int) by exact (uX (bE<|oL<|nR<|sE ((aQ hn):1<=ib a+n))<|bE<|oL<|nL<|sE ((aQ hn):1<=ib a+n))];rfl
 have e2:sC ((ib a:Int)+n - 1) n=false:=FH (by
  have:=(lJ (x:=(ib a:Int)+n - 1) (m:=60)<|bE<|oL hn).mpr<|bG (oL R)<|oL i
  exact bG (oL this)<|oZ<|ib ↑n)
 have Q:decide ((n:Int)=0)=false:=df<|gE N;have B: ∀r,fe r .Mult (.d<|.list [.int 0]) (.d<|.int<|((ib a:Int)+n - 1).fdiv n)<|.list<|dV (dU n a)<|.int 0:=λr=>by erw[e1];have:=fe.mul (r:=r) (v:=.d<|.list [.int 0]) (xs:=[.int 0]) (n:=dU n a) .d (by simp only[lR];refine (?_:1*dU n a<=256);simp only[Nat.one_mul];exact h) (bE<|oL h)<|dP _;rwa[lR,Ug] at this
 have Z:(dV (dU n a)<|cB 0).length=dU n a:=AI;generalize dV (dU n a) (cB 0)=zs at*;refine dj ?_ rfl;by_cases c:a=0
 ·clear A hl h hb i e1
  subst c;have z:dU n 0=0:=Qw (by simp only[JS];exact (aQ<|nL<|sE ((oM<|bE N):1<=0+n)));simp only[z] at Z⊢;cases List.eq_nil_of_length_eq_zero Z;exact dz yx 2 [hi<|ib 0,hl [],.b aE] (aU L) [.int 0,.int n] _ rfl .bits Q e2 (B _) ff .ret
 ·have p:1<=dU n a:=by
   refine aV (CW (x:=a)<|by lia -abstractProof) λm e=>?_;unfold dU;exact sb e<|(Nat.one_le_div_iff hn).mpr (by simp+arith)
  have K:=Ys (dU n a) L hl p a 0 n zs ((0,.val<|.int a)::(1,.val<|.int n)::(2,.own zs)::[(3,.clo 1)]) (aQ<|nR Z) (bD h<|nL Z) hn hb A (Eo hn A) rfl rfl rfl;rw[List.take_zero,sa,uk,uw<|qm Z,eZ,<-Z] at K;simp only[<-Z];exact dz yx 2 [.d<|.int<|ib a,.d<|.list zs,.b aB,.d<|.int zs.length,.c .none<|(0,.val<|.int a)::(1,.val<|.int n)::(2,.own<|(digs n zs.length a).map .int)::[(3,.clo 1)]] (aU L) [.int a,.int n] _ rfl .bits Q e2 (B _) (b0 c) (.yR (.l<|.bor rfl)<|bD h<|nL Z) K .ret
theorem QAm {xs:List aK} (h:L<xs.length):we (L:Int) xs.length=aA L:=by dsimp only[we];simp;exact MU h
theorem L8 {n:Int} (r:aL l 0=.val (.list xs)) (r1:aL l 1=.val (.int n)) (r2:aL l 2=.clo 2):tA 2 [0,1,2] aF l=[(0,.val<|.list xs),(1,.val<|.int n),(2,.clo 2)]:=by
 refine (?_:[(0,kA 2 aE<|aL l 0),(1,kA 2 aE<|aL l 1),(2,kA 2 aE<|aL l 2)]=_);refine sb r<|sb r1<|sb r2 ?_
 rfl
section
variable {n L R M S u w:Int}
noncomputable def rY (n:Int) (xs:List aK) (L R M S:Int):Ls:=(0,.val<|.list xs)::(1,.val<|.int n)::(2,.clo 2)::vs 200 [L,R,M,S]
theorem Y0 (r:aL l 0=.val (.list xs)) (r1:aL l 1=.val (.int n)) (r2:aL l 2=.clo 2) (e1: ¬ L+1=R) (e:(L+R).fdiv (2^bN 1)=M) (Z:(M - L)*n=S) (t:ib (M - L)+ib n<=134217728) (z:0<=S) (g:(ib u:Int)+S<=134217728)
 (H:(aU m).L 2 [.int M,.int R] (rY n xs L R M S) (.int u) (rY n xs L R M S)) (K:(aU m).L 2 [.int L,.int M] (rY n xs L R M S) (.int w) (rY n xs L R M S)):(aU<|m+1).L 2 [.int L,.int R] l (.int<|u*2^S.toNat+w) l:=by
 subst e;subst Z;exact .c rfl (xe GI [.b aE,.c (.int u)<|rY n xs L R _ _,.c (.int w)<|rY n xs L R _ _] (aU m) 2 [200,201] [0,1,2] aF [.int L,.int R] l _ (.int<|u*2^((((L+R).fdiv<|2^bN 1) - L)*n).toNat+w) _ rfl (L8 r r1 r2) rfl (beq_eq_false_iff_ne.mpr e1) i1 t H z g K .ret .none)
theorem Zx {d:Int} (R:aL l 0=.val (.list xs)) (r1:aL l 1=.val (.int n)) (r2:aL l 2=.clo 2) (h: ∀r,cC r (.d<|.list xs) L<|.int d):(aU<|m+1).L 2 [.int L,.int<|L+1] l (.int d) l:=.c rfl (xe GI [.b aB,hi d] (aU m) 2 [200,201] [0,1,2] aF [.int L,.int<|L+1] l _ (.int d) _ rfl (L8 R r1 r2) rfl (QHg _) (h _) .ret .none)
end
theorem QDN: ∀(k z:Nat),k<=z->1<=k-> ∀(L n:Nat) (ds:List Int) (l:Ls),L+k<=ds.length->ds.length<=256->1<=n->n*k<=30000000->(∀d∈ds,0<=d/\d<2^n)->
 aL l 0=.val (.list<|ds.map .int)->aL l 1=.val (.int n)->aL l 2=.clo 2->(aU z).L 2 [.int L,.int (L+k:Nat)] l (.int<|undig n<|(ds.drop L).take k) l:=by
 intro k;induction k using QGC with
 |ind k i=>
  intro z hl C L n ds l U Q hn N R Z r1 r2;refine aV (DP<|az C hl) λm e=>?_;subst e;by_cases c:k=1
  ·clear i C N hl
   subst c;have K:=U
   have p:undig n ((ds.drop L).take 1)=ds[L]:=by
    refine sb (H8 K)<|(?_:ds[L]+2^n*0=ds[L])
    rw[Qx,QGI]
   exact sb p<|Zx Z r1 r2 λr=>.seq (.l .d) (by rw[dY];exact bE<|oL Q) (QAm (by rw[dY];exact K)) (by (erw[DI];erw[sR K]);rfl)
  ·refine iT (by
    refine (jj (k / 2) (k - k / 2) (((uu c).elim (λu=>(bD C u)) λu=>(iH.mp λY=>(cY (na u<|dG (k) (by decide:0<2))<|gC 2 Y)))) ((iH.mp λY=>(cY (na (na (na (na C<|nR<|sE ((aQ<|qx (k) 2):k / 2<=k)) Y)<|qx (k) 2)<|nR<|sE ((aQ<|qx (k) 2):k / 2<=k)) Y))) (by (exact (vV<|sE ((aQ<|qx (k) 2):k / 2<=k)))) ?_)
    exact sb (hW _<|by decide)<|Od L k: ∃a b,1<=a/\1<=b/\a+b=k/\((L:Int)+((L+k:Nat):Int)).fdiv (2^Int.toNat 1)=((L+a:Nat):Int)) λa b o hb A M=>?_
   have s:n*a+n*b=n*k:=by rw[<-A,QGD]
   have g:ib (((L+a:Nat):Int) - L)+ib (n:Int)<=134217728:=by have h:=BQ (x:=((L+a:Nat):Int) - L) (bE<|oL o)<|bG (ni (ni (ni (oL U)<|oL Q)<|oL hb)<|oL<|nL A)<|oZ L;have t:=BQ (dP _)<|bG (oL N)<|oL (gC n C:n*1<=n*k);exact az (iF ‹_› ‹_›) (by decide)
   have v:=xj n ((ds.drop<|L+a).take b) λd hd=>R d<|List.mem_of_mem_drop<|List.mem_of_mem_take hd;rw[(by (erw[DM];erw[IU]);exact (fz ((bD (na (nL A) U)<|nR<|sE ((bD U<|nL A):L+a<=ds.length)):b<=ds.length - (L+a))):((ds.drop<|L+a).take b).length=b)] at v;have g2:=oU v.1 v.2;have H:=i a (bD hb<|nL A) m (bD (na hl hb)<|nL A) o L n ds (rY n (ds.map .int) L (L+k:Nat) (L+a:Nat) (n*a:Nat)) (bD U<|nL A) Q hn (bD N<|nL s) R rfl rfl rfl;have B:=i b (bD o<|nL A) m (bD (na hl o)<|nL A) hb (L+a) n ds (rY n (ds.map .int) L (L+k:Nat) (L+a:Nat) (n*a:Nat)) (bD U<|nL A) Q hn (bD N<|nL s) R rfl rfl rfl;rw[wX,A] at B;have:(ds.drop L).take k=(ds.drop L).take a++(ds.drop<|L+a).take b:=cw A<|sb List.take_add<|sb List.drop_drop rfl
   rw[this,Az,(by (erw[DM];erw[IU]);exact (fz ((bD (na (nL A) U)<|nR<|sE ((aQ U):L<=ds.length)):a<=ds.length - L)):((ds.drop L).take a).length=a),xK,jr];exact Y0 Z r1 r2 ((λW=>((uu c).elim (λu=>(cY C u)) λu=>(fj (oL u)<|iR W)))) M (by rw[QGE,xK,Qv,<-QGF,Ic]:(((L+a:Nat):Int) - L)*n=((n*a:Nat):Int)) g (dP _) (bG (ni g2<|oL N)<|oL<|nL s) B H
theorem BN (L:Nat) {ds:List Int} (hl:ds.length<=L) (h:ds.length<=256) (hn:1<=n) (N:n*ds.length<=30000000) (R: ∀d∈ds,0<=d/\d<2^n):(aU<|L+1).F 6 [.list<|ds.map .int,.int n] (.int<|undig n ds):=by
 refine dj ?_ rfl;induction ds with
 |nil=>exact dz BM 2 [.b aE,.b aE] (aU L) [.list [],.int n] _ rfl (.lst .d<|hJ _) ff .ret
 |cons d ds=>have m:((d::ds).map cB).length=(d::ds).length:=dY ..;have K:=QDN (d::ds).length L hl (H7<|hJ _) 0 n (d::ds) [(0,.val<|.list<|(d::ds).map .int),(1,.val<|.int n),(2,.clo 2)] (by simp+arith) h hn N R rfl rfl rfl;rw[uk,Qy,uY<|bh _,<-m] at K;exact dz BM 2 [.b aB,.b aB,hi ((d::ds).map cB).length,.c (.int<|undig n<|d::ds) [(0,.val<|.list<|(d::ds).map .int),(1,.val<|.int n),(2,.clo 2)]] (aU L) [.list<|(d::ds).map .int,.int n] _ rfl (.lst .d (by erw[m];exact az ‹_› (gA _ _))) tt (.yR (.l .d) (by erw[m];exact ig ‹_› (by decide))) K .ret
end B01
noncomputable def ldiv (n:Nat) (b:Int):List Int->Int->List Int×Int
 |[],r=>([],r)
 |d::ds,r=>((r*2^n+d) / b::(ldiv n b ds<|(r*2^n+d) % b).1,(ldiv n b ds<|(r*2^n+d) % b).2)
theorem Ae {b:Int} {r}:ldiv n b [] r=([],r):=rfl
theorem zT {b:Int} {d ds r}:ldiv n b (d::ds) r=((r*2^n+d) / b::(ldiv n b ds<|(r*2^n+d) % b).1,(ldiv n b ds<|(r*2^n+d) % b).2):=rfl
theorem NV (n:Nat) (b:Int): ∀ds r,(ldiv n b ds r).1.length=ds.length:=by
 intro O;induction O with
 |nil=>exact λO=>rfl
 |cons d ds i=>exact λr=>by simp only[Ae,zT];simp[i]
theorem Ta {x d P u b q t e r':Int} (H:x*P+u=q*b+r') (h:d=t*b+x):d*P+u=(P*t+q)*b+r':=by
 erw[h]
 grind
theorem XQ (n:Nat) {b:Int} (hb:0<b) (dM:b<=2^n): ∀ds r,(∀d∈ds,0<=d/\d<2^n)->0<=r->r<b->
 r*2^(n*ds.length)+undig n ds.reverse=undig n (ldiv n b ds r).1.reverse*b+(ldiv n b ds r).2/\0<=(ldiv n b ds r).2/\(ldiv n b ds r).2<b/\ ∀q∈(ldiv n b ds r).1,0<=q/\q<2^n:=by
 intro O;induction O with
 |nil=>exact λr O h0 H=>by simp[Ae,zT,vu,n5,h0,H]
 |cons d ds u=>
  exact λr hd h0 H=>by
   have R:=fw n;refine bI (hd d<|.head _) λW d1=>?_;have x0:=mX (r*2^n+d)<|gE hb;have x1:=nV (r*2^n+d) hb;refine j5 (u _ (λq h=>hd q<|.tail _ h) x0 x1) λi1 t i g=>?_;rw[zT];have Q:0<=r*2^n:=kG h0<|bw R;have c:(r+1)*2^n<=b*2^n:=mV (by assumption)<|bw R;refine (kq ?_ t i ?_)
   ·have e:=pL (r*2^n+d) b
    simp only[zv,zv,Az,Az,pQ,tJ,AA,AA,NV];simp only[vu,n5];generalize hP:(2:Int)^(n*ds.length)=P at*;generalize (2:Int)^n=N at*;generalize Y:(r*N+d) % b=y at*;generalize Z:(r*N+d) / b=z at*;have:=Ta (e:=0) i1 (by erw[jr z b];exact e.symm:r*N+d=z*b+y)
    grind
   ·intro q h
    rcases bp.mp h with rfl|h
    ·exact ⟨ur (qw ‹_› ‹_›)<|bw hb,sZ hb (by grind:r*2^n+d<2^n*b)⟩
    ·exact g q h
namespace B01
section
variable {o:bj} {a b z y d:Int} {n:Nat} {D qs:List aK} {r:Int} {t:Option (Int×Int)} {K:Fl->Ls->Prop} {xs:List aK}
noncomputable def rm (a b n:Int) (D qs:List aK) (r:Int) (t:Option (Int×Int)):Ls:=(0,.val<|.int a)::(1,.val<|.int b)::(2,.val<|.int n)::(3,.val<|.list D)::(4,.val<|.int r)::(5,.own qs)::match t with|none=>[]|some p=>vs 6 [p.1,p.2]
theorem QAb (H:o.F 3 [.int<|r*2^n+d,.int b,.int n] (.tuple [.int z,.int y])) (g:(ib r:Int)+n<=134217728) (g2:qs.length<16777216) (h:fW y9 (vQ.map SW.w) o xs (rm a b n D (qs++[.int z]) y<|aA (d,z)) K):
 fW y9 (vQ.map SW.w) o (.int d::xs) (rm a b n D qs r t) K:=by
 have N:=dP n;induction t with
 |none=>exact fx y9 vQ o [.d<|.tuple [.int z,.int y]] (.int d) xs (rm a b n D qs r aF) K N g H g2 h
 |some p=>exact fx y9 vQ o [.d<|.tuple [.int z,.int y]] (.int d) xs (rm a b n D qs r<|aA p) K N g H g2 h
theorem YV (hb:0<b) (dM:b<=2^n) (hn:n<=30000000) (Q: ∀a,0<=a->a<b*2^n->o.F 3 [.int a,.int b,.int n] (.tuple [.int<|a / b,.int<|a % b])):
 ∀(ds:List Int) (r:Int) (qs:List aK) (t:Option (Int×Int)),(∀d∈ds,0<=d/\d<2^n)->0<=r->r<b->qs.length+ds.length<=1000->
  ∃t',∀K,K .next (rm a b n D (qs++(ldiv n b ds r).1.map .int) (ldiv n b ds r).2 t')->fW y9 (vQ.map SW.w) o (ds.map .int) (rm a b n D qs r t) K:=by
 intro O;induction O with
 |nil=>exact λr qs t hd h0 H hl=>⟨t,λK h=>by simp only[Ae,zT,jq,eZ] at h;exact h⟩
 |cons d ds i=>exact λr qs t hd h0 H hl=>by have N:=fw n;have x:=(hd d<|.head _);have W:=x.1;have d1:=x.2;have R:=mV H<|bw N;simp only[qu,gq] at R;have L:=Q (r*2^n+d) (qw (kG h0<|bw N) W)<|bG d1 R;have g:=oU h0<|pP H dM;dsimp only[pQ] at hl;obtain ⟨t',Z⟩:=i _ (qs++[.int<|(r*2^n+d) / b]) (aA (d,(r*2^n+d) / b)) (λq h=>hd q<|.tail _ h) (mX _<|gE hb) (nV _ hb) (by simp only[du];refine (?_);exact aQ hl);refine ⟨t',λK h=>QAb L (by exact bG (ni (oL hn)<|oL hn) g) (aQ hl)<|Z K ?_⟩;dsimp only[Ae,zT,gB] at h;simp only[ik];exact h
end
theorem XN (L:Nat) (B:300<=L) {a b:Int} (A:0<=a) (hb:0<b) (hn:ib b<=100000) (K:dU (ib b) a<=250):
 (aU<|L+1).F 7 [.int a,.int b] (.tuple [.int<|a / b,.int<|a % b]):=by
 obtain ⟨M,rfl⟩: ∃M,L=M+1:=⟨L - 1,by exact (sE<|(aQ B)).symm⟩;refine aV (CW hb) λm z=>?_;have l:=YN (bw hb) z;have H:=QCZ (m:=ib b) (bw hb)<|uW _;have C: ∀r,jC r .bits (.d<|.int b) []<|.int<|ib b:=λr=>.bits;generalize Y:ib b=n at*;have N:1<=n:=aQ<|nR z
 have j:n*dU n a<=30000000:=az (Cu hn K) (by decide);have W:=CP M A N (bD B K) (az ‹_› (gA _ _)) j<|az ‹_› (gA _ _);have P: ∀a,0<=a->a<b*2^n->(aU<|M+1).F 3 [.int a,.int b,.int n] (.tuple [.int<|a / b,.int<|a % b]):=λa h0 g=>Xw 5 M (aQ B) a b n h0 N (by simp only[z,rf];exact bG l l) H g (az ‹_› (by decide))<|aQ hn;have hdr:=QAB n (dU n a) a;have u:=YT n (dU n a) a A<|Eo N A;have e:=zI n (dU n a) a;generalize R:digs n (dU n a) a=ds at*;refine j5 (XQ n hb (bw H) ds.reverse 0 (λd h=>hdr d<|DF.mp h) (uW _) hb) λs i x Z=>?_;have s5:=NV n b ds.reverse 0;refine aV (YV (o:=aU<|M+1) (a:=a) (D:=ds.map .int) hb (bw H) (aQ hn) P ds.reverse 0 [] aF (λd h=>hdr d<|DF.mp h) (uW _) hb (by simp only[um,AA];exact bD K<|nL e)) λt c=>?_;simp only[sa,QC] at c;generalize (ldiv n b ds.reverse 0).1=qs at*;generalize (ldiv n b ds.reverse 0).2=y at*;simp only[List.reverse_reverse,u,Int.zero_mul,zo] at s;refine bI (u5 hb s i x) λe1 e2=>?_;have Q:qs.length=dU n a:=by simp only[s5,AA,e]
 have q:qs.reverse.length=dU n a:=by simp only[AA,Q]
 have U:=BN M (ds:=qs.reverse) (n:=n) (bD (na B K)<|nL q) (bD K<|nL q) N (by erw[q];exact j) λd h=>Z d<|DF.mp h;rw[QC] at U;have v:(qs.map cB).length<=16777216:=by rw[dY];exact bD K<|nL Q
 simp only[e1,e2];refine dj ?_ rfl;induction t with
 |none=>exact dz b_divmod_pos 2 [hi n,hl<|ds.map .int,.f .next (rm a b n (ds.map .int) (qs.map .int) y aF),hi<|undig n qs.reverse] (aU<|M+1) [.int a,.int b] _ rfl (C _) W c v U .ret
 |some p=>exact dz b_divmod_pos 2 [hi n,hl<|ds.map .int,.f .next (rm a b n (ds.map .int) (qs.map .int) y<|aA p),hi<|undig n qs.reverse] (aU<|M+1) [.int a,.int b] _ rfl (C _) W c v U .ret
theorem Ja (L:Nat) (l:310<=L) {a b:Int} (B:b≠0) (hn:ib b<=100000) (C:ib a<=100*ib b):
 (aU<|L+1).F 8 [.int a,.int b] (.tuple [.int<|a.fdiv b,.int<|a.fmod b]):=by
 have pos: ∀L,300<=L-> ∀x y,0<=x->0<y->ib y<=100000->ib x<=101*ib y->(aU<|L+2).F 8 [.int x,.int y] (.tuple [.int<|x / y,.int<|x % y]):=λL l x y o Y t R=>by refine aV (CW Y) λm j=>?_;have s:=XN L l o Y t<|QGJ<|(Nat.div_lt_iff_lt_mul<|aQ<|nR j).mpr<|bD R<|nR j;exact dj (dz B8 2 [.b aE,.b aE,.b aE,.d<|.tuple [.int<|x / y,.int<|x % y]] _ [.int x,.int y] _ rfl (beq_eq_false_iff_ne.mpr<|gE Y) (df<|jL.mpr<|bw Y) (df<|jL.mpr o) s .ret) rfl
 have neg: ∀L,301<=L-> ∀x y,0<y->ib y<=100000->ib x<=100*ib y->(aU<|L+2).F 8 [.int x,.int y] (.tuple [.int<|x / y,.int<|x % y]):=λL l x y Y t R=>by
  refine aV (CW Y) λm j=>?_;rcases Qq x 0 with c|c
  ·obtain ⟨M,rfl⟩: ∃M,L=M+1:=⟨L - 1,by exact (sE<|(aQ l)).symm⟩
   have q:ib (-x - 1)<=ib x+1:=by refine ny.mpr ?_;have:=ny.mp<|bh<|ib x;simp only[Qu];exact (oM<|bG (ni (ni (mI 2<|oL this)<|iL<|jS ((bE c):0<= -x - 1))<|mI 2<|iR<|xO ((bE c):x<=0)) c)
   have K:=pos M (Nat.le_of_succ_le_succ ‹_›) (-x - 1) y (bE c) Y t<|bD (na R<|nR j) q;exact bI (kbt_below x Y) λe2 e=>sb e2<|sb e<|sb (by simp+arith:y - 1 - (-x - 1) % y=y+(-((-x - 1) % y) - 1))<|dj (dz B8 2 [.b false,.b false,.b true,.d<|.tuple [.int<|(-x - 1) / y,.int<|(-x - 1) % y]] _ [.int x,.int y] _ rfl (beq_eq_false_iff_ne.mpr<|Int.ne_of_gt Y) (df<|Int.not_lt.mpr<|Int.le_of_lt Y) (dt c) K .ret) rfl
  ·exact pos L (sD ‹_›) x y c Y t<|aQ R
 obtain ⟨M,rfl⟩: ∃M,L=M+2:=⟨L - 2,by exact (sE<|(aQ l)).symm⟩;rcases Qq b 0 with c|c
 ·have i: ∀z,ib (-z)=ib z:=λz=>by simp[ib,Builtin.Int.intBits]
  have K:=neg M (aQ l) (-a) (-b) (bE c) (by rw[i];exact hn) (by rw[i,i];exact C);have e1: -a / -b=a.fdiv b:=cw (Qp _<|bE c)<|Int.neg_fdiv_neg a b
  have e2: -(-a % -b)=a.fmod b:=by
   have h:=pL (-a) (-b);have H:=Int.mul_fdiv_add_fmod a b;simp only[e1] at h
   grind
  exact cw e1<|cw e2<|dj (dz B8 2 [.b false,.b true,.d<|.tuple [.int (-a / -b),.int (-a % -b)]] _ [.int a,.int b] _ rfl (beq_eq_false_iff_ne.mpr B) (dt c) K .ret) rfl
 ·have:=neg (M+1) (aQ l) a b (((AJ B).elim (λu=>(bG (ni c u) c)) λu=>u)) hn C
  exact sb (hW _<|((AJ B).elim (λu=>(bG (ni c u) c)) λu=>u))<|sb (nC _<|by omega)<|this
end B01
theorem kY (a:Int) (h:0<n): ∃w:Nat,w<n/\a.fmod n=(w:Int):=by have q:=nW a<|mF.mpr ‹_›;have H:=nX a<|mF.mpr ‹_›;exact (ax ((a.fmod n).toNat) ((oM<|bG q<|iL<|jO (H:0<=a.fmod (↑n:Int))))<|(jO (H:0<=a.fmod (↑n:Int))).symm)
theorem MI {k n:Nat} (h:k<n):we (k:Int) n=aA k:=by dsimp only[we];simp;exact MU h
section
variable {k:Int} {w:Nat}
theorem dH (h:xs[w]?=aA d) (K:k=w) (hl:(xs.length:Int)<2^63):cC r (.d<|.list xs) k d:=K▸ .seq (.l .d) hl (MI (zZ.mp h).1) h
theorem pj {xs:List Int} {z:Int} (h:xs[w]?=aA z) (K:k=w) (hl:(xs.length:Int)<2^63):cC r (.d<|.list<|xs.map .int) k (.int z):=dH (by simp only[DI,h];rfl) K (by rw[dY];exact hl)
theorem AZ (h:x.cps[w]?=aA d) (K:k=w) (hl:x.length<2^63):cC r (.d<|.str x) k (.str ⟨#[d]⟩):=by
 refine aV (Array.getElem?_eq_some_iff.mp h) λA i=>?_;have H:w<x.length:=A
 have e:Txt.item x k=⟨#[d]⟩:=by
  erw[K];have b:(w:Int)<x.length:=mF.mpr ‹_›
  have v: ¬ (w:Int)<0:=by simp+arith
  simp[Txt.item,Txt.charAt,we,b,v,h]
 exact e▸ .str (bG (iR K)<|oZ w) (bG (iL K)<|oL H) hl
theorem yB {a:Int} (h:a=w) (K:w<=1114111):cn r .chr [.d<|.int a] (.str ⟨#[w]⟩):=sb h<| .chr (Int.natCast_nonneg _)<|Int.ofNat_le.mpr ‹_›
end
theorem getD_some {α:Type} {xs:List α} {w:Nat} {d:α} (h:w<xs.length):xs[w]?=aA (xs.getD w d):=by simp only[List.getD_eq_getElem?_getD,sR h];rfl
namespace B01
theorem Yr (L:Nat) (i:Int):(aU L).b1 i=gL.contains i:=by induction L<;>rfl
theorem Mv (L:Nat) (i:Int):(aU L).b3 i=rC i:=by induction L<;>rfl
noncomputable def mE:List Int:=[97,65,119808,119860,119912,120016,120172,120224,120276,120328,120380,120432]
noncomputable def dS (c w:Nat):Nat:=(mE.getD w 0).toNat+c - 97
theorem QAH: ∀w,w<12->65<=mE.getD w 0/\mE.getD w 0<=120432/\mE[w]?=aA (mE.getD w 0):=by decide
theorem EF (L:Nat) {c:Nat} (H:97<=c) (i:c<=122) {W:Int} {w:Nat} (t:W.fmod 12=w) (h:w<12):(aU<|L+1).F 13 [.str ⟨#[c]⟩,.int W] (.str ⟨#[dS c w]⟩):=eN (QAH w h) λK B b=>dj (dz MQ 2 [.d<|.int<|mE.getD w 0,.d<|.int c,.d<|.str ⟨#[dS c w]⟩] _ [.str ⟨#[c]⟩,.int W] _ rfl ff (pj b t<|by decide) (.ord rfl) (yB (by unfold dS;exact (uX (bG (oL<|nR<|sE ((aQ H):97<=(mE.getD w 0).toNat+c))<|iR<|jO ((bE K):0<=mE.getD w 0))<|bG (oL<|nL<|sE ((aQ H):97<=(mE.getD w 0).toNat+c))<|iL<|jO ((bE K):0<=mE.getD w 0))) (by unfold dS;exact (oM<|bG (ni (ni (oL<|QFc ((mE.getD w 0).toNat+c)<|97)<|iL<|jO ((bE K):0<=mE.getD w 0))<|oL i) B))) .ret) rfl
noncomputable def qD:List Int:=[173,847,6150,6155,6156,6157,8203,8204,8205,8288,65279]
noncomputable def cm (w:Nat):Nat:=if w<11 then (qD.getD w 0).toNat else 65013+w
theorem SN: ∀w,w<11->0<=qD.getD w 0/\qD.getD w 0<=65279/\qD[w]?=aA (qD.getD w 0):=by decide
theorem AQ (L:Nat) {W:Int} {w:Nat} (t:W.fmod 27=w) (h:w<27):(aU<|L+1).F 14 [.int W] (.str ⟨#[cm w]⟩):=by
 by_cases c:w<11
 ·refine eN (SN w c) λH B N=>?_
  have e:cm w=(qD.getD w 0).toNat:=QHd c;exact dj (dz EA 1 [.b aB,.d<|.int<|qD.getD w 0,.d<|.str ⟨#[cm w]⟩] _ [.int W] _ rfl ff (dt<|(bG (iL t)<|oL c)) ff (pj N t<|by decide) (yB ((uX (bG (oL<|nR e)<|iR<|jO (H:0<=qD.getD w 0))<|bG (oL<|nL e)<|iL<|jO (H:0<=qD.getD w 0)))<|by lia -abstractProof) .ret) rfl
 ·have e:cm w=65013+w:=QHc c
  exact dj (dz EA 1 [.b aE,.d<|.str ⟨#[cm w]⟩] _ [.int W] _ rfl ff (df λK=>fj (ni K<|iR t)<|oL<|jN c) ff (yB (uX (bG (iL t)<|oL<|nR e)<|bG (iR t)<|oL<|nL e)<|by (clear t;exact bD h<|nL e)) .ret) rfl
noncomputable def rG:List Int:=[172,174,846,848,6149,6151,6154,6158,8202,8206,8287,8289,65278,65280,65023,65040,11,12,28,29,30,133,8232,8233]
noncomputable def fS (w:Nat):Nat:=(rG.getD w 0).toNat
theorem Wr: ∀w,w<24->0<=rG.getD w 0/\rG.getD w 0<=65280/\rG[w]?=aA (rG.getD w 0):=by decide
theorem TN (L:Nat) {W:Int} {w:Nat} (t:W.fmod 24=w) (h:w<24):(aU<|L+1).F 15 [.int W] (.str ⟨#[fS w]⟩):=eN (Wr w h) λK B b=>dj (dz M5 1 [.d<|.list<|rG.map .int,.d<|.int<|rG.getD w 0,.d<|.str ⟨#[fS w]⟩] _ [.int W] _ rfl (.add .d .d<|by decide) ff (pj b t<|by decide) (yB (by unfold fS;exact (jO (K:0<=rG.getD w 0)).symm) (by unfold fS;lia -abstractProof)) .ret) rfl
noncomputable def lA (k:Nat):Str:=match rC k with
 |.str s=>s
 |_=>cH ⟨#[k]⟩
theorem B3 (L:Nat) (k:Nat):(aU<|L+1).F 10 [.str ⟨#[k]⟩] (.bool<|gL.contains (k:Int)):=by have:=dz NO 1 [hi k] (aU L) [.str ⟨#[k]⟩] _ rfl (.ord rfl) .ret;simp only[Yr] at this;exact dj this rfl
theorem Vx (L:Nat) (k:Nat):(aU<|L+1).F 11 [.str ⟨#[k]⟩] (.str<|lA k):=by
 refine dj ?_ rfl;have B:(∃s,rC k=.str s)\/rC k=.none:=by unfold rC;induction b3.lookup (k:Int) with|none=>exact .inr rfl|some s=>exact .inl ⟨s,rfl⟩
 unfold lA;rcases B with ⟨s,B⟩|B
 ·have e:=(Mv L k).trans B
  have:=dz HC 1 [hi k,.b aE,.b aB] (aU L) [.str ⟨#[k]⟩] _ rfl (.ord rfl) (by simp only[e];exact nofun) tt .ret;simp only[e] at this;exact sb B<|this
 ·have e:=(Mv L k).trans B
  exact sb B<|dz HC 1 [hi k,.b true,.b false,ht<|Txt.lower ⟨#[k]⟩] (aU L) [.str ⟨#[k]⟩] _ rfl (.ord rfl) e ff (.lower<|Nat.le_of_ble_eq_true rfl) .ret
noncomputable def tZ:List Nat:=[112,110,109,102,105,108,115,116]
theorem Cj: ∀c∈tZ,∀w,w<12->gL.contains (dS c w:Int)=aE/\lA (dS c w)=⟨#[c]⟩/\65<=dS c w:=by decide+kernel
theorem rN: ∀w,w<27->gL.contains (cm w:Int)=aB/\65<=cm w:=by decide+kernel
theorem QDD: ∀w,w<24->gL.contains (fS w:Int)=aE/\fS w≠10/\fS w≠13/\fS w≠46:=by decide+kernel
noncomputable def ma (k:Nat):Dat:=.str ⟨#[k]⟩
noncomputable def rp (d:aK):Option Dat:=match d with
 |.str s=>if gL.contains (s.cps.getD 0 0:Int) then aF else aA (.str<|lA<|s.cps.getD 0 0)
 |_=>aF
theorem FO {k:Nat} (h:gL.contains (k:Int)=aB):rp (ma k)=none:=QHd h
theorem BI {k:Nat} (h:gL.contains (k:Int)=aE) (e:lA k=s):rp (ma k)=aA (.str s):=(QHc (by (erw[(rfl:((#[k].getD 0 0:Nat))=k)];erw[h]);exact nofun)).trans (by erw[<-e];rfl)
theorem XH (L k:Nat) (d:aK):CE (RB 11 [cR]).w eE [(TW.eP aE aE<|.call 10 [cR]).w] (aU<|L+1) [(0,.val d),(201,.unb)] (ma k) (rp<|ma k):=λx K h=>by
 have H:=B3 L k;induction hb:gL.contains (k:Int) with
 |true=>rw[hb] at H;rw[FO hb] at h;exact fN (.call 11 [cR]) eE [.eP aE aE<|.call 10 [cR]] (aU<|L+1) [.d<|.bool aB,.b aE,.b aE] [(0,.val d),(201,.unb)] (ma k) x K H ff rfl ff h
 |false=>rw[hb] at H;rw[BI hb rfl] at h;exact fN (.call 11 [cR]) eE [.eP aE aE<|.call 10 [cR]] (aU<|L+1) [.d<|.bool aE,.b aB,.b aB,ht<|lA k] [(0,.val d),(201,.unb)] (ma k) x K H tt rfl tt (Vx L k) rfl h
theorem NH (L:Nat) (hl:(nI s).length<=16777216) (t:(nI s).filterMap rp=ts.map .str) (j:nU ⟨#[]⟩ ts):(aU<|L+2).F 17 [.str s] (.str<|DJ ⟨#[]⟩ ts):=dj (dz Pa 1 [.ds<|ts.map .str,ht<|DJ ⟨#[]⟩ ts] (aU<|L+1) [.str s] _ rfl hl (λK h=>X0 (λd Y=>by refine aS (ij.mp Y) λc O e=>?_;erw[<-e];exact XH L c<|.str s) K (by simp only[t];exact h)) (.join .d j) .ret) rfl
theorem HL: ∀c∈tZ,97<=c/\c<=122:=by decide
theorem oj {x y z:aG} (h:x++y=z) (hl:eX (x.length+y.length) 16777216=aB):fe r .Add (.d<|.str x) (.d<|.str y) (.str z):=h▸ .cat (bJ hl)
end B01
section
open PySem.StrLaws PySem.Builtin PySem.Builtin.Str
theorem W4 {s sub:aG} (W:1<=sub.length): ∀{c1 c2:List Nat} {a F f:Nat},ChainG s sub i a c1 F->(∀k,F<=k-> ¬ At s sub i k)->ChainG s sub i a c2 f->(∀k,f<=k-> ¬ At s sub i k)->c1=c2:=by
 intro c1;induction c1 with
 |nil=>
  exact @λc2=>by
   induction c2 with
   |nil=>exact λO O O O=>rfl
   |cons c r O=>exact @λa F f A N H n=>QHb H.2.1 (N c (by have e:=A;have:=H.1;exact bD (nL e) this))
 |cons c r z=>
  exact @λc2=>by
   induction c2 with
   |nil=>exact @λa F f A N H n=>QHb A.2.1 (n c (by have e:=H;have:=A.1;exact bD (nL e) this))
   |cons d t O=>
    exact @λa F f A N H n=>by
     have e:c=d:=by
      rcases Nat.lt_trichotomy c d with h|h|h
      ·exact QHb A.2.1<|H.2.2.1 c A.1 h
      ·exact h
      ·exact QHb H.2.1<|A.2.2.1 d H.1 h
     exact sb e<|congrArg (List.cons d)<|z A.2.2.2 N (e▸H.2.2.2) n
noncomputable def rowsOf (y:List Nat):List Nat->List (List Nat)->List Nat
 |r,[]=>r
 |r,r1::rs=>r++(y++rowsOf y r1 rs)
theorem E5 {y:List Nat} {r}:rowsOf y r []=r:=rfl
theorem GZ {y:List Nat} {r r1 rs}:rowsOf y r (r1::rs)=r++(y++rowsOf y r1 rs):=rfl
noncomputable def posn (w:Nat):Nat->List Nat->List (List Nat)->List Nat
 |_,_,[]=>[]
 |a,r,r1::rs=>(a+r.length)::posn w (a+r.length+w) r1 rs
theorem KQ {w:Nat} {u0 u1}:posn w u0 u1 []=[]:=rfl
theorem PR {w:Nat} {a r r1 rs}:posn w a r (r1::rs)=(a+r.length)::posn w (a+r.length+w) r1 rs:=rfl
theorem KC {x y:aG} {cs:List Nat} (Y:y.cps.toList=c::cs) {k:Nat} (h:x.cps.toList[k]?≠aA c): ¬ At x y x.length k:=by
 rintro ⟨_,i⟩
 simp! only[subAt_eq,Y] at i
 have H:=eq_of_beq i;apply h;have:y.length=cs.length+1:=by have e:y.cps.toList.length=y.length:=js;rw[Y] at e;exact e.symm
 rw[this] at H;have b:=QHf (λl=>l[0]?) H;simpa -iota [List.getElem?_take] using b
theorem QDW {x y:aG} (M:x.cps.toList=pre++(y.cps.toList++post)):At x y x.length pre.length:=by
 have L:x.cps.toList.length=x.length:=js;have l:y.cps.toList.length=y.length:=js;refine ⟨?_,?_⟩
 ·simp! only[<-L,M,du,du,l]
  simp+arith
 ·simp! only[subAt_eq,M,Qz,<-l,QGK]
  exact QHg _
theorem QBh {x y:aG} {cs:List Nat} (Y:y.cps.toList=c::cs): ∀(rs:List (List Nat)) (r pre:List Nat),x.cps.toList=pre++rowsOf (c::cs) r rs->(∀q∈r::rs,c∉q)->
 ∃f,ChainG x y x.length pre.length (posn y.length pre.length r rs) f/\(∀k,f<=k-> ¬ At x y x.length k)/\partsFrom x y.length pre.length (posn y.length pre.length r rs)=(r::rs).map λq=>⟨q.toArray⟩:=by
 intro O;induction O with
 |nil=>
  exact λr pre M F=>by
   have hl:x.cps.toList.length=x.length:=js
   simp! only[E5,GZ] at M
   refine (gd pre.length rfl (λk C=>KC Y ?_) ?_)
   ·refine sb M<|sb (List.getElem?_append_right C) ?_
    intro h;exact F r (.head _)<|DO h
   ·refine (?_:[strSub x pre.length x.length]=_)
    have:strSub x pre.length x.length=⟨r.toArray⟩:=by
     have e:=strSub_toList x pre.length x.length;rw[<-hl,M,Qz,uY<|by simp] at e
     have e2:(strSub x pre.length x.length).cps=r.toArray:=by
      apply Q0.mp;refine cw hl<|sb M ?_
      simpa -iota using e
     cases hs:strSub x pre.length x.length;simp! only[hs] at e2;exact QHf Q1 e2
    simp! only[this]
    rfl
 |cons r1 rs i=>
  exact λr pre M F=>by
   have hl:x.cps.toList.length=x.length:=js;have L:y.cps.toList.length=y.length:=js
   simp! only[E5,GZ] at M
   have m:x.cps.toList=(pre++r++(c::cs))++rowsOf (c::cs) r1 rs:=by simp! only[M];simp
   refine dA (i r1 (pre++r++(c::cs)) m λq Q=>F q<|.tail _ Q) λf A p H=>?_;have U:(pre++r++(c::cs)).length=pre.length+r.length+y.length:=by (erw[<-L];erw[Y]);simp;simp+arith
   simp! only[U] at A H
   have a:At x y x.length (pre.length+r.length):=by have:=QDW (x:=x) (y:=y) (pre:=pre++r) (post:=rowsOf (c::cs) r1 rs) (by (erw[Y];erw[M]);simp);simpa -iota using this
   refine ⟨f,(kq (mO _ _) a (λk K l=>KC Y ?_) A),p,?_⟩
   ·refine sb M<|sb (List.getElem?_append_right K) ?_
    erw[List.getElem?_append_left<|(bD (nL<|sE (K:pre.length<=k)) l)];intro h;exact F r (.head _)<|DO h
   ·refine (?_:strSub x pre.length (pre.length+r.length)::partsFrom x y.length (pre.length+r.length+y.length) (posn y.length (pre.length+r.length+y.length) r1 rs)=_)
    erw[H];have:strSub x pre.length (pre.length+r.length)=⟨r.toArray⟩:=by have e:=strSub_toList x pre.length<|pre.length+r.length;rw[M,Qz,List.take_left'<|by simp+arith] at e;have e2:(strSub x pre.length<|pre.length+r.length).cps=r.toArray:=Q0.mp (by simpa -iota using e);cases hs:strSub x pre.length (pre.length+r.length);simp! only[hs] at e2;exact QHf Q1 e2
    simp! only[this]
    rfl
theorem Oa {x y:aG} {cs:List Nat} (Y:y.cps.toList=c::cs) (M:x.cps.toList=rowsOf (c::cs) r rs) (F: ∀q∈r::rs,c∉q):
 occurrences x y 0 x.length (x.length+1)=posn y.length 0 r rs/\partsBetween x (occurrences x y 0 x.length<|x.length+1) y.length=(r::rs).map λq=>⟨q.toArray⟩:=by
 have l:y.cps.toList.length=y.length:=js;have W:1<=y.length:=by (erw[<-l];erw[Y]);exact Pf _
 refine dA (QBh Y rs r [] M F) λf A h H=>aS (occ_tight x y W) λg d K=>?_;have e:=W4 W d K A h;refine ⟨e,?_⟩;rw[e,partsBetween_eq];exact H
theorem yW {x y:aG} (h:x.cps.toList=y.cps.toList):x=y:=by
 induction x;induction y;exact QHf Q1<|Q0.mp h
theorem QAs (M:x.cps.toList=a++c::b) (A:c∉a) (hb:c∉b):Cr x ⟨#[c]⟩ ⟨#[]⟩=⟨(a++b).toArray⟩:=by
 have h:=Oa (x:=x) (y:=⟨#[c]⟩) (c:=c) (cs:=[]) rfl (r:=a) (rs:=[b]) (by erw[M];rfl) (by
  intro q Q;clear M;rcases bp.mp Q with rfl|Q
  ·exact A
  ·exact sb (Ig.mp Q)<|hb)
 unfold Cr;have e:(⟨#[c]⟩:aG).length=1:=rfl;rw[e] at h;refine sb e<|sb h.2<|sb h.1<|sb (if_neg<|by simp -iota [KQ,PR]) ?_
 apply yW;simp -iota [glued]
theorem Se (M:x.cps.toList=rowsOf [13,10] r (r1::rs)) (hf: ∀q∈r::r1::rs,13∉q):Txt.split x ⟨#[13,10]⟩=(r::r1::rs).map λq=>⟨q.toArray⟩:=by
 have h:=Oa (x:=x) (y:=⟨#[13,10]⟩) (c:=13) (cs:=[10]) rfl M hf;have hl:x.cps.toList.length=x.length:=js;have e1:(⟨#[13,10]⟩:aG).length=2:=rfl;unfold Txt.split;rw[e1] at h;refine sb e1<|sb h.2<|sb h.1 ?_
 have k:strKind ⟨#[13,10]⟩=1:=by decide+kernel
 have K:1<=strKind x:=by unfold QHY;split<;>(try split)<;>decide
 rw[if_neg,if_neg]
 ·simp -iota [KQ,PR]
 ·refine sb k<|cw hl<|sb M ?_
  simp -iota [E5,GZ];exact ⟨(by simp+arith),(λW=>(cY K<|nL W))⟩
theorem Yd (M:x.cps.toList=t++[c]++bl) (C:AK c=aE) (hb: ∀d∈bl,AK d=aB):Q2 x=⟨(t++[c]).toArray⟩:=by
 have l:x.cps.toList.length=x.length:=js;dsimp only[Q2];rw[QGL];dsimp only[QGM];apply yW
 simp! only[wy,if_false,if_true,strSub_toList,Qy]
 refine sb M<|sb List.reverse_append<|sb List.reverse_append ?_
 have e:(bl.reverse++([c].reverse++t.reverse)).takeWhile AK=bl.reverse:=by erw[QGN (by intro d Y;exact hb d<|DF.mp Y)];simp -iota [C]
 have n:(t++[c]++bl).length - bl.reverse.length=(t++[c]).length:=sb du<|sb List.length_reverse<|Nat.add_sub_cancel _ _
 rw[e,<-l,M,Cs,n,QGK]
theorem FQ {x:aG} (A:a<=b) (hb:b<=x.length):iI x (aA a) (aA b)=⟨((x.cps.toList.drop a).take<|b - a).toArray⟩:=by
 have h:=QHZ (x:=x) (i:=a) (j:=b) (dP _) (oq.mpr ‹_›)<|oq.mpr ‹_›;have:=eq_of_beq h;erw[this]
 congr 4
 exact (jk (oM<|bG (oL<|nR<|sE (A:a<=b))<|iL<|jO ((bE<|oL A):0<=(↑b:Int) - (↑a:Int)))<|oM<|bG (oL<|nL<|sE (A:a<=b))<|iR<|jO ((bE<|oL A):0<=(↑b:Int) - (↑a:Int)))
theorem KP {x:aG} (hb:b<=x.length):iI x aF (aA b)=⟨(x.cps.toList.take b).toArray⟩:=by
 have h:iI x aF (aA b)=iI x (aA<|(0:Nat)) (aA b):=by unfold iI;rw[sliceIdx_none_lo];rfl
 refine sb h<|sb (FQ (Nat.zero_le _) hb) ?_
 rfl
theorem PD {x:aG} (A:a<=x.length):iI x (aA a) aF=⟨(x.cps.toList.drop a).toArray⟩:=by
 have h:iI x (aA a) aF=iI x (aA a) (aA (x.length:Nat)):=by unfold iI;rw[sliceIdx_none_hi]
 have l:x.cps.toList.length=x.length:=js;exact sb h<|sb (FQ A<|Nat.le_of_eq ‹_›)<|sb (List.take_of_length_le<|by simp -iota [l]) rfl
theorem QHF {x:aG} (h:1<=x.length):iI x aF (aA (-1))=⟨(x.cps.toList.take<|x.length - 1).toArray⟩:=by
 have e:iI x aF (aA (-1))=iI x aF (aA<|(x.length - 1:Nat)):=by unfold iI;exact sb (sliceIdx_neg_hi _ _ (dP _)<|bE<|oL h)<|sb ((Int.le_antisymm (bE<|oL<|nL<|sE (h:1<=x.length))<|bE<|oL<|nR<|sE (h:1<=x.length)):((x.length - 1:Nat):Int)= -1+x.length) rfl
 exact sb e<|sb (KP<|(aQ<|nL<|sE (h:1<=x.length))) rfl
theorem QHA (h:1<=x.length):iI x (aA (-1)) aF=⟨(x.cps.toList.drop<|x.length - 1).toArray⟩:=by
 have e:iI x (aA (-1)) aF=iI x (aA<|(x.length - 1:Nat)) none:=by unfold iI;exact sb (sliceIdx_neg_lo _ _ (dP _)<|bE<|oL h)<|sb ((Int.le_antisymm (bE<|oL<|nL<|sE (h:1<=x.length))<|bE<|oL<|nR<|sE (h:1<=x.length)):((x.length - 1:Nat):Int)= -1+x.length) rfl
 exact sb e<|sb (PD<|Nat.sub_le _ _) rfl
end
section
open PySem.NumText
theorem Wk (x y:aG):(x++y).cps.toList=x.cps.toList++y.cps.toList:=QFQ
noncomputable def dC (n:Nat):List Nat:=(Nat.toDigits 10 n).map Char.toNat
theorem NP (n:Nat):IV (toString (n:Int))=⟨(dC n).toArray⟩:=yW (by simp only[KIN.signs_num];rfl)
theorem Bc (h:n<10^10):AllDigits (dC n)/\dC n≠[]/\(dC n).length<=10/\digitsVal (dC n)=n:=by
 have hl:=KT.len_num (n:=(n:Int)) (by simp+arith)<|bE<|oL h;rw[NP] at hl;refine (kq ?_ ?_ ?_<|KIN.val_back n)
 ·intro c W
  refine aS (ij.mp W) λH C e=>?_;have r:=digit_range (Nat.isDigit_of_mem_toDigits (by decide) (by decide) C);exact cw e<|r
 ·intro e
  have v:=KIN.val_back n;have h:=toDigits_len_ge 10 n;rw[QGO.mp e] at h;exact QHb h (by decide)
 ·simpa[Str.length] using hl
noncomputable def eF (n:Nat) (bl:List Nat):Str:=⟨([48,95]++dC n++bl).toArray⟩
namespace B01
theorem UK (R:aL l 0=.val (.str x)) (r1:aL l 1=.val (.int 2048)) (r2:aL l 2=.clo 0) (r:aL l 3=.emp):tA 0 [0,1,2,3] aF l=[(0,.val<|.str x),(1,.val<|.int 2048),(2,.clo 0),(3,.emp)]:=by refine (?_:[(0,kA 0 aE<|aL l 0),(1,kA 0 aE<|aL l 1),(2,kA 0 aE<|aL l 2),(3,kA 0 aE<|aL l 3)]=_);simp only[R,r1,r2,r];rfl
theorem X9 (L:Nat) {n:Int} (hl:x.length<=640) (M:QGP x=aA n):(aU<|L+2).F 1 [.str x] (.int n):=by
 have s:iI x (aA 0) (aA x.length)=x:=by have:=FQ (x:=x) (hJ _)<|bh _;simp only[Qy,Cs,uY (qm js:x.cps.toList.length<=x.length),Array.toArray_toList] at this;exact this
 have C: ∀r,gR r (.d<|.str x) (.d<|.int 0) (.d<|.int x.length) (.d .none)<|.str x:=λr=>by have:=gR.str (r:=r) (x:=x) (.int (i:=0)) (.int (i:=x.length))<|az ‹_› (gA _ _);rwa[s] at this
 have K:(aU<|L+1).L 0 [.int 0,.int x.length] [(0,.val<|.str x),(1,.val<|.int 2048),(2,.clo 0),(3,.emp)] (.int n) [(0,.val<|.str x),(1,.val<|.int 2048),(2,.clo 0),(3,.emp)]:=.a rfl (xe MT [.b aB,ht x,hi n] (aU L) 0 [200,201] [0,1,2,3] aF [.int 0,.int x.length] [(0,.val<|.str x),(1,.val<|.int 2048),(2,.clo 0),(3,.emp)] [(0,.val<|.str x),(1,.val<|.int 2048),(2,.clo 0),(3,.emp)] (.int n) _ rfl (UK rfl rfl rfl rfl) rfl (dt<|oq.mpr<|az ‹_› (by decide)) (C _) (.sd hl M) .ret .none);exact dj (dz AR 1 [hi x.length,hi x.length,.c (.int n) [(0,.val<|.str x),(1,.val<|.int 2048),(2,.clo 0),(3,.emp)]] (aU<|L+1) [.str x] _ rfl (.kB<|ig ‹_› (by decide)) (oq.mpr<|az ‹_› (by decide)) (dP _) (.kB<|aQ hl) K .ret) rfl
theorem C_ (L:Nat) (hn:n<10^10) (hb:bl∈[[],[32],[9],[9,32]]):(aU<|L+3).F 2 [.str<|eF n bl] (.int n):=by
 refine j5 (Bc hn) λH i Q P=>?_;have B: ∀d∈bl,AK d=true:=by simp only[bp,gU,or_false] at hb;rcases hb with rfl|rfl|rfl|rfl<;>decide+kernel
 have s:bl.length<=2:=by simp only[bp,gU,or_false] at hb;rcases hb with rfl|rfl|rfl|rfl<;>decide
 have g: ∀c,48<=c->c<=57->AK c=false:=by
  intro c a b;have: ∀c,c<58->48<=c->AK c=false:=by decide+kernel
  exact this c (ig ‹_› (by decide)) a
 have e1:Q2 (eF n bl)=⟨([48,95]++dC n).toArray⟩:=by have N:=List.dropLast_concat_getLast i;have m:=H _<|List.getLast_mem i;generalize (dC n).dropLast=t at*;generalize (dC n).getLast i=c at*;have:=Yd (x:=eF n bl) (t:=[48,95]++t) (c:=c) (bl:=bl) (by refine (?_:(([48,95]++dC n++bl).toArray).toList=_);erw[<-N];exact (ik _ _ _)) (g c m.1 m.2) B;simp only[this,<-N];simp
 have e2:Cr ⟨([48,95]++dC n).toArray⟩ ⟨#[95]⟩ ⟨#[]⟩=⟨(48::dC n).toArray⟩:=by have:=QAs (x:=⟨([48,95]++dC n).toArray⟩) (c:=95) (a:=[48]) (b:=dC n) (by simp) (by decide) (by intro h;have:=H _ h;exact ky this.2);erw[this];rfl
 have v:(⟨(48::dC n).toArray⟩:aG).length<=640:=by refine (?_:(48::dC n).toArray.size<=640);simp;exact az ‹_› (gA _ _)
 have e:QGP ⟨(48::dC n).toArray⟩=aA (n:Int):=by have:=intText_digits (x:=⟨(48::dC n).toArray⟩) (by intro c C;rcases bp.mp (by simpa using C) with rfl|C;simp+arith;exact H c C) (by simp)<|Nat.le_trans ‹_› (Nat.le_add_left _ _);erw[this];have:digitsVal (48::dC n)=digitsVal (dC n):=rfl;simp only[this,P]
 have K:=X9 L v e
 have c0: ∀r,jC r .rstrip (.d<|.str<|eF n bl) []<|.str ⟨([48,95]++dC n).toArray⟩:=λr=>e1▸ .rstrip (by
  refine (?_:([48,95]++dC n++bl).toArray.size<=16777216);simp
  exact az (iF ‹_› ‹_›)<|by decide)
 have l:(⟨([48,95]++dC n).toArray⟩:aG).length<=4096:=by refine (?_:([48,95]++dC n).toArray.size<=4096);simp;exact az ‹_› (gA _ _)
 rw[<-e2] at K;exact dj (dz Nx 1 [ht ⟨([48,95]++dC n).toArray⟩,hi n] (aU<|L+2) [.str<|eF n bl] _ rfl (c0 _) l K .ret) rfl
end B01
end
section
open PySem.StrLaws
theorem WR {a b:Nat}:Cn (a:Int) (b:Int) 1=(bg<|b - a).map (λk=>a+k):=by
 dsimp only[Cn]
 have e:(if (1:Int)>0 then (if (a:Int)<(b:Int) then ((b:Int) - a+1 - 1) / 1 else 0) else (if (a:Int)>(b:Int) then ((a:Int) - b - 1 - 1) / (-1) else 0)).toNat=b - a:=by
  rw[if_pos (by decide),QGA];by_cases h:(a:Int)<b
  ·rw[if_pos h,Qv]
   exact Int.toNat_sub b a
  ·rw[if_neg h]
   exact (xI<|oq.mp<|jL.mp h).symm
 erw[e];apply Ih;intro k _;exact (jk (oM<|bE<|iL<|jO ((bG (oZ<|a)<|oZ<|k):0<=(↑a:Int)+1*(↑k:Int)))<|oM<|bE<|iR<|jO ((bG (oZ<|a)<|oZ<|k):0<=(↑a:Int)+1*(↑k:Int)))
theorem yI {xs:List aK} {a b:Nat} (e:kf l h aF xs.length=((a:Int),(b:Int),1)) (A:a<=b) (hb:b<=xs.length):lk xs l h aF=(xs.drop a).take (b - a):=by unfold lk;exact sb e<|sb WR<|picks xs (b - a) a (bD hb<|sL (by assumption:a<=b))
theorem QBE (xs:List aK):lk xs aF aF aF=xs:=by erw[yI (by dsimp only[kf];rfl) (hJ _)<|by simp+arith];simp
theorem LI (xs:List aK) (a:Nat):lk xs (aA a) aF aF=xs.drop a:=by
 by_cases h:a<=xs.length
 ·exact sb (yI (by dsimp only[kf];simp;exact MK h) h<|by simp+arith)<|sb (List.take_of_length_le<|by simp) rfl
 ·erw[yI (a:=xs.length) (b:=xs.length) (by dsimp only[kf];simp;exact Yu h) (by simp+arith)<|by simp+arith]
  simp! only[uw (aQ (qt h):xs.length<=a),uw<|bh _,List.take_nil]
theorem QGz (xs:List aK) {b:Nat} (h:b<=xs.length):lk xs aF (aA b) aF=xs.take b:=by erw[yI (by dsimp only[kf];simp;exact MK h) (hJ _) h];rfl
theorem Gz {cs:List T} {α:Type} {g:α->aK} {f:α->Option aK}: ∀{xs:List α},(∀x∈xs,CE e t cs o l (g x)<|f x)-> ∀K,K (xs.filterMap f)->cW e t cs o l (xs.map g) K:=by
 intro xs;induction xs with
 |nil=>exact λO K h=>h
 |cons x xs i=>
  exact λq K h=>by
   refine q x (.head _) _ K ?_;have i:=λK=>i (λy Y=>q y<|.tail _ Y) K
   simp! only[nP] at h
   induction c:f x with
   |none=>simp! only[c] at h;exact i _ h
   |some y=>simp! only[c] at h;exact i _ h
theorem Fu {α β:Type} (c:α->Bool) (f:α->β) (xs:List α):xs.filterMap (λx=>if c x then aA (f x) else aF)=(xs.filter c).map f:=by
 induction xs with
 |nil=>rfl
 |cons x xs i=>
  simp! only[nP,xP]
  cases c x
  ·exact i
  ·exact QHf _ i
noncomputable def hP (p:aG×aG):Dat:=.tuple [.str p.1,.str p.2]
noncomputable def zA (ps:List (aG×aG)):Prop:= ∀p∈ps,p.1.length<=1000
section
theorem qy (h:x.length<=1000):jC r .lower (.d<|.str x) [] (.str<|cH x):=.lower (az h<|by decide)
theorem vF:cC r (.d<|.tuple [a,b]) 0 a:=.seq .t (by show (2:Int)<2^63;decide) (rfl:_=aA 0) rfl
theorem Ko:cC r (.d<|.tuple [a,b]) 1 b:=.seq .t (by show (2:Int)<2^63;decide) (rfl:_=aA 1) rfl
theorem CO (b:Bool) (h:(x==y)=b):gj r .Eq (.d<|.str x) (.d<|.str y) b:=.str (by induction b;exact .Bm<|beq_eq_false_iff_ne.mp h;exact .eqT<|QHe.mp h)
theorem Fp (b:Bool) (h:(x !=y)=b):gj r .NotEq (.d<|.str x) (.d<|.str y) b:=.str (by
 induction b
 ·exact .oo (QHa λq=>by rw[bne_iff_ne.mpr q] at h;exact yr h)
 ·exact .neT<|bne_iff_ne.mp h)
end
namespace B01
noncomputable def Ot (H:List aK) (q:aG) (w:List (Nat×Sl)):Ls:=(aT,.own H)::(0,.inst)::(1,.val<|.str q)::w
theorem Fd (L:Nat) (hs:zA ps) (hl:ps.length<=1000) (hn:nm.length<=1000) (o:gO aB (cH nm)=aB):(aU<|L+1).R 1 [.str nm] (ps.map hP) (.list<|(ps.filter λp=>cH p.1==cH nm).map λp=>.str p.2):=by
 refine .all rfl ?_;rw[<-Fu];generalize F:(λp:aG×aG=>if cH p.1==cH nm then aA (sJ p.2) else aF)=f
 exact NB GP 2 [] [ht<|cH nm,.ds<|ps.filterMap f] (aU L) [.str nm] (ps.map hP) _ rfl (qy hn) o (by rw[dY];exact az hl<|by decide)
  (λK h=>Gz (λp P r K h=>by
   have x:=hs p P;rw[<-F] at h;induction c:cH p.1==cH nm with
   |true=>dsimp only at h;rw[c] at h;exact fN (.au cR<|.int 1) eE [.cmp .Eq (.sm .lower (.au cR<|.int 0) []) om] (aU L) [ht p.1,ht<|cH p.1,.b aB,.b aB,.b aB,ht p.2] (Ot (ps.map hP) (cH nm) [(201,.unb)]) (hP p) r K vF (qy x) (CO aB c) tt rfl tt Ko rfl h
   |false=>
    dsimp only at h;rw[c] at h
    exact fN (.au cR<|.int 1) eE [.cmp .Eq (.sm .lower (.au cR<|.int 0) []) om] (aU L) [ht p.1,ht<|cH p.1,.b aE,.b aE,.b aE] (Ot (ps.map hP) (cH nm) [(201,.unb)]) (hP p) r K vF (qy x) (CO aE c) ff rfl ff h) K h) .ret
theorem Zu (L:Nat) (hs:zA ps) (hl:ps.length<=1000) (hn:nm.length<=1000) (o:gO aB (cH nm)=aB):(aU<|L+1).H 9 [.str nm] (ps.map hP) .none ((ps.filter λp=>cH p.1 !=cH nm).map hP):=by
 refine .del rfl ?_;have v:=QGQ (λp:aG×aG=>cH p.1 !=cH nm) ps;rw[<-Fu];have F:=List.length_filterMap_le (λp:aG×aG=>if cH p.1 !=cH nm then aA (hP p) else aF) ps;generalize r:(λp:aG×aG=>if cH p.1 !=cH nm then aA (hP p) else aF)=f at*
 exact O9 Eg 2 [] [ht<|cH nm,.ds<|ps.filterMap f] (aU L) [.str nm] (ps.map hP) _ _ rfl (qy hn) o (by rw[dY];exact az hl<|by decide)
  (λK h=>Gz (λp P R K h=>by
   have x:=hs p P;rw[<-r] at h;induction c:cH p.1 !=cH nm with
   |true=>dsimp only at h;rw[c] at h;exact fN cR eE [.cmp .NotEq (.sm .lower (.au cR<|.int 0) []) om] (aU L) [ht p.1,ht<|cH p.1,.b aB,.b aB,.b aB] [(aT,.own<|ps.map hP),(bR,.unb),(0,.inst),(1,.val<|.str<|cH nm),(201,.unb)] (hP p) R K vF (qy x) (Fp aB c) tt rfl tt rfl h
   |false=>
    dsimp only at h;rw[c] at h
    exact fN cR eE [.cmp .NotEq (.sm .lower (.au cR<|.int 0) []) om] (aU L) [ht p.1,ht<|cH p.1,.b aE,.b aE,.b aE] [(aT,.own<|ps.map hP),(bR,.unb),(0,.inst),(1,.val<|.str<|cH nm),(201,.unb)] (hP p) R K vF (qy x) (Fp aE c) ff rfl ff h) K h) (by rw[dY];exact bD (na hl hl) F) ⟨.next,rfl,rfl⟩
theorem Xo (L:Nat) {ps:List (aG×aG)} (hl:ps.length<=1000):(aU<|L+1).R 2 [] (ps.map hP) (.list<|ps.map hP):=by
 refine .items rfl (dq.mpr λd Y=>by refine aS (ij.mp Y) λO O e=>?_;erw[<-e];rfl) ?_;have c: ∀r v,gb r v (ps.map hP)->gR r v (.d .none) (.d .none) (.d .none) (.list<|ps.map hP):=λr v h=>by have:=gR.lst h .none .none .none nofun (by rw[dY];exact az hl (by decide):(ps.map hP).length<=16777216);rwa[QBE] at this
 exact NB CG 1 [] [.d<|.list<|ps.map hP] (aU L) [] (ps.map hP) _ rfl (c _ _<|.bor rfl) .ret
theorem FL (h:t.length<=1000) (M:x.length<=1000):nU x [t]:=by
 delta nU QGR;have:t.length+x.length<=sizeLine:=by refine (?_);exact az (iF ‹_› ‹_›) (by decide)
 simpa -iota using this
theorem Fh (L:Nat) (hl:hs.length<=1000) (hn:tx.length<=1000) (h:gO aB nm=aB) (o:gO aE tx=aB):(aU<|L+1).H 0 [.str nm,.str tx] hs .none (hs++[.tuple [.str nm,.str tx]]):=.add rfl (O9 yE 4 [.emp] [.b aE,.b aB,ht tx] (aU L) [.str nm,.str tx] hs _ _ rfl nofun tt o (by decide) h (.join (.bor rfl)<|FL hn<|by decide) (ig hl<|by decide) ⟨.next,rfl,rfl⟩)
end B01
end
section
open PySem.StrLaws PySem.Builtin.Str
theorem DZ {p:Nat->Bool}: ∀{k s i:Nat},gZ p k s=aA i-> ∀j,s<=j->j<i->p j=aE
 |0,s,i,h=>ay h
 |k+1,s,i,h=>by
  unfold gZ at h
  split at h
  ·cases h;intro j H m;exact QHb ‹_› (iH.mpr ‹_›)
  ·rename_i q
   intro j H m;by_cases e:j=s
   ·subst e
    simpa using q
   ·exact DZ h j (((uu e).elim (λu=>(bD (na H u) H)) λu=>u)) m
theorem JI: ∀{k s:Nat},gZ p k s=aF-> ∀j,s<=j->j<s+k->p j=false:=by
 intro k;induction k with
 |zero=>exact @λs h j H i=>QHb H<|II.mpr i
 |succ k d=>
  exact @λs h j H i=>by
   unfold gZ at h;by_cases q:p s=aB
   ·rw[if_pos q] at h
    exact qU h
   ·rw[if_neg q] at h
    by_cases e:j=s
    ·erw[e]
     simpa using q
    ·exact d h j (((uu e).elim (λu=>(bD (na H u) H)) λu=>u))<|aQ i
theorem UZ: ∀(r:List aG) (a:Array Nat),(r.foldl (λa p=>a++(#[])++p.cps) a).toList=a.toList++(r.map (·.cps.toList)).flatten:=by
 intro O;induction O with
 |nil=>exact λa=>by simp
 |cons p r i=>exact λa=>by rw[ot,i];simp
theorem JH (ts:List aG):(qZ ts).cps.toList=(ts.map (·.cps.toList)).flatten:=by
 delta qZ;induction ts with
 |nil=>rfl
 |cons t ts=>delta DJ glued;refine (?_:(ts.foldl (λa p=>a++(#[]:Array Nat)++p.cps) t.cps).toList=_);rw[UZ];rfl
noncomputable def e2:List Nat->List Nat
 |[]=>[]
 |[c]=>if c==13||c==10 then [13,10] else [c]
 |c::d::r=>if c==13 && d==10 then 13::10::e2 r else if c==13||c==10 then 13::10::e2 (d::r) else c::e2 (d::r)
theorem Gn:e2 []=[]:=rfl
theorem FC {c}:e2 [c]=if c==13||c==10 then [13,10] else [c]:=rfl
theorem Fn {c d r}:e2 (c::d::r)=if c==13 && d==10 then 13::10::e2 r else if c==13||c==10 then 13::10::e2 (d::r) else c::e2 (d::r):=rfl
theorem QEM (h:c≠13/\c≠10) (r:List Nat):e2 (c::r)=c::e2 r:=by
 have a:(c==13)=false:=by simp[h.1]
 have b:(c==10)=false:=by simp[h.2]
 induction r<;>simp[Gn,FC,Fn,a,b]
theorem Ak: ∀p r,(∀c∈p,c≠13/\c≠10)->e2 (p++r)=p++e2 r:=by
 intro O;induction O with
 |nil=>exact λO O=>rfl
 |cons c p i=>exact λr h=>by rw[sV,QEM<|h c<|.head _,i r λd Y=>h d<|.tail _ Y];rfl
theorem OJ (r:List Nat):e2 (10::r)=13::10::e2 r:=by induction r<;>(rfl)
theorem LP (r:List Nat):e2 (13::10::r)=13::10::e2 r:=by rfl
theorem JE (h:r.head?≠aA 10):e2 (13::r)=13::10::e2 r:=by
 induction r with
 |nil=>rfl
 |cons d r=>
  have:(d==10)=false:=by simp;intro e;apply h;simp[e]
  simp[Gn,FC,Fn,this]
theorem yO {t:List Nat} (h:a<t.length):t.drop a=t.getD a 0::t.drop (a+1):=by erw[H8 h];simp[Ii,h]
theorem vc (t:Array Nat) (a:Nat):t.getD a 0=t.toList.getD a 0:=by simp[Ii,IP]
theorem AO (t:Array Nat) (a b:Nat):(t.extract a b).toList=(t.toList.drop a).take (b - a):=by simp
theorem I4 {l:List Nat} (h:c∈(l.drop d).take (a - d)): ∃j,d<=j/\j<a/\j<l.length/\l.getD j 0=c:=by refine aV (List.getElem?_of_mem h) λi t=>?_;have H:=(zZ.mp t).1;simp at H;rw[List.getElem?_take_of_lt<|(bD H<|QGS (a - d)<|l.length - d),List.getElem?_drop] at t;refine (kM (d+i) (mO _ _) (((Qo (a)<|d).elim (λu=>(cY (na H<|nL<|fz ((aQ<|nL<|xI (u:a<=d)):a - d<=l.length - d))<|nL<|xI (u:a<=d))) λu=>(bD (na (nL<|sE (u:d<=a)) H)<|QGS (a - d)<|l.length - d))) (((Qo (l.length)<|d).elim (λu=>(cY (na H<|nL<|QFm ((aQ<|nL<|xI (u:l.length<=d)):l.length - d<=a - d))<|nL<|xI (u:l.length<=d))) λu=>(bD (na (nL<|sE (u:d<=l.length)) H)<|Cw (a - d)<|l.length - d))) ?_);simp[Ii,t]
theorem J1 (x:aG):(q2 x).cps.toList=e2 x.cps.toList:=by
 dsimp only[q2];rw[JH]
 have key: ∀k d,d<=x.cps.size->x.cps.size<d+k->((hH (q7 x.cps) yy x.cps k d).map (·.cps.toList)).flatten=e2 (x.cps.toList.drop d):=by
  intro k;induction k with
  |zero=>intro d u m;exact QHb ‹_› (iH.mpr ‹_›)
  |succ k z=>
   intro d u m;have hlen:x.cps.toList.length=x.cps.size:=js;induction hn:q7 x.cps d with
   |none=>
    erw[Bx hn];unfold q7 at hn;have N:=JI<|QGT.mp hn;have C: ∀c∈x.cps.toList.drop d,c≠13/\c≠10:=by intro c W;refine se (I4 (by erw[uY<|by simp];exact W:c∈(x.cps.toList.drop d).take (x.cps.size - d))) λj r Y t o=>?_;erw[<-o];have:=N j r<|(bD Y<|nR<|sE ((aQ u):d<=x.cps.size+1));unfold hV at this;rw[vc] at this;have hb:cP j x.cps.size=true:=sS Y;rw[hb,Cv,Po] at this;generalize x.cps.toList.getD j 0=v at this⊢;simp at this;omega
    have:=Ak (x.cps.toList.drop d) [] C;rw[eZ] at this;erw[this];dsimp only[Gn,FC,Fn,eZ];by_cases q:d<x.cps.size
    ·simp only[q,if_true,gB,jq,DR,Ij,eZ,AO]
     exact uY (by simp)
    ·simp only[q,if_false]
     erw[uw<|jN ‹_›];rfl
   |some p=>
    obtain ⟨a,e⟩:=p;erw[BY hn];have H:=(M7 d a e hn);have l:=H.1;have P:=H.2.1;have M:=H.2.2;unfold q7 at hn;refine aS (lN.mp hn) λR K n=>?_;clear u hlen hn;cases n;have b:=DZ K;have H:=(zJ K);have A:=H.1;have C: ∀c∈(x.cps.toList.drop d).take (a - d),c≠13/\c≠10:=by intro c W;refine se (I4 W) λj r Y t o=>cw o ?_;have:=b j r Y;unfold hV at this;rw[vc] at this;have hb:cP j x.cps.size=true:=sS (by assumption);rw[hb,Cv,Po] at this;generalize x.cps.toList.getD j 0=v at this⊢;simp at this;omega
    have s:x.cps.toList.drop d=(x.cps.toList.drop d).take (a - d)++x.cps.toList.drop a:=by
     conv=>lhs;rw[<-sY (a - d) (x.cps.toList.drop d)]
     rw[QGG,show d+(a - d)=a by exact QK ‹_›]
    have Q:e2 (x.cps.toList.drop a)=13::10::e2 (x.cps.toList.drop<|pY x.cps a):=by
     unfold hV at A;rw[gn] at A;have L:a<x.cps.size:=bJ A.1;have W:=A.2;dsimp only[pY];rw[vc] at W⊢;rw[vc,yO (by assumption:a<x.cps.toList.length)];generalize B:x.cps.toList.getD a 0=v at*;simp only[IK,beq_iff_eq] at W;clear z m l K H P M b A C s B;rcases W with rfl|rfl
     ·rw[OJ]
      rfl
     ·by_cases q:a+1<x.cps.size
      ·rw[yO (by assumption:a+1<x.cps.toList.length)]
       have hb:cP (a+1) x.cps.size=true:=sS q;rw[hb];by_cases q2:x.cps.toList.getD (a+1) 0=10
       ·rw[q2,LP]
        rfl
       ·rw[JE<|by simpa using q2]
        have:(x.cps.toList.getD (a+1) 0==10)=false:=by simpa using q2
        rw[this];simp only[uq,wy,if_false];rw[yO (by omega:a+1<x.cps.toList.length)]
      ·have hb:cP (a+1) x.cps.size=false:=by
        rw[uQ];intro h;have:=bJ h;clear L;exact cY (jN q) this
       rw[hb];simp only[IL,uq,wy,if_false];rw[uw<|jN ‹_›];rfl
    have i:=z (pY x.cps a) M<|bD (na m l) P;rw[s,Ak _ _ C,Q,gp,List.flatten_append,gB,DR,i]
    congr 1
    by_cases q:d<a
    ·simp only[q,if_true,gB,jq,DR,Ij,eZ,AO]
    ·simp only[q,if_false]
     rw[show a - d=0 by exact (jk (bD (nL<|sE (l:d<=a))<|jN q)<|by simp+arith)];rfl
 rw[key (x.cps.size+1) 0 (hJ _)<|gA _ _];rfl
noncomputable def e1:Bool->List Nat->List Nat
 |_,[]=>[]
 |b,c::r=>(if b && c==46 then [46,46] else [c])++e1 (c==10) r
theorem yT {u0}:e1 u0 []=[]:=rfl
theorem nK {b c r}:e1 b (c::r)=(if b && c==46 then [46,46] else [c])++e1 (c==10) r:=rfl
noncomputable def xh (b:Bool) (p:List Nat):Bool:=match p.getLast? with|none=>b|some c=>c==10
theorem Ng (x:aG):(q1 x).cps.toList=e1 aB x.cps.toList:=by
 delta q1;rw[JH];have hlen:x.cps.toList.length=x.cps.size:=js
 let fl:Nat->Bool:=λd=>if d=0 then aB else x.cps.toList.getD (d - 1) 0==10
 have Y: ∀s,s<x.cps.size->ko x.cps s=(fl s && x.cps.toList.getD s 0==46):=by
  intro s hs;have hb:cP s x.cps.size=true:=sS hs;delta ko yV;simp only[hb,Pw,vc,vc];refine (?_:_=((if s=0 then aB else x.cps.toList.getD (s - 1) 0==10) && _));generalize x.cps.toList.getD (s - 1) 0=u;generalize x.cps.toList.getD s 0=v;by_cases q:s=0
  ·erw[q]
   rfl
  ·have:(s==0)=false:=by simpa using q
   simp[q,this]
 have step: ∀d,d<x.cps.size->e1 (fl d) (x.cps.toList.drop d)=(if ko x.cps d then [46,46] else [x.cps.toList.getD d 0])++e1 (fl<|d+1) (x.cps.toList.drop<|d+1):=by intro d hd;simp only[yO (by omega:d<x.cps.toList.length),yT,nK,Y d hd];rfl
 have run: ∀n d,d+n<=x.cps.size->(∀j,d<=j->j<d+n->ko x.cps j=aE)->e1 (fl d) (x.cps.toList.drop d)=(x.cps.toList.drop d).take n++e1 (fl<|d+n) (x.cps.toList.drop<|d+n):=by
  intro n;induction n with
  |zero=>intro d _ _;simp
  |succ n z=>intro d H h;simp only[step d<|ig (mO _ _) ‹_›,h d (by simp+arith) (by simp+arith),z (d+1) (aQ H) λj P W=>h j (sD ‹_›)<|aQ W];simp only[yO (ig (mO _ _) ‹_› :d<x.cps.toList.length),List.take_succ_cons,show d+1+n=d+(n+1) by exact zt _ _ _];rfl
 have key: ∀k d,d<=x.cps.size->x.cps.size<d+k->((hH (tS x.cps) xu x.cps k d).map (·.cps.toList)).flatten=e1 (fl d) (x.cps.toList.drop d):=by
  intro k;induction k with
  |zero=>intro d H h;exact QHb ‹_› (iH.mpr ‹_›)
  |succ k z=>
   intro d H h;induction hn:tS x.cps d with
   |none=>
    erw[Bx hn];unfold tS at hn;have N:=JI<|QGT.mp hn;have r:=run (x.cps.size - d) d (aQ<|sL (by assumption:d<=x.cps.size)) N;simp only[r,show d+(x.cps.size - d)=x.cps.size by exact QK ‹_›,uw (qm ‹_› :x.cps.toList.length<=x.cps.size)];simp only[yT,nK,eZ];erw[uY<|by simp];by_cases q:d<x.cps.size
    ·simp only[q,if_true,gB,jq,DR,Ij,eZ,AO]
     exact uY (by simp)
    ·simp only[q,if_false]
     erw[uw<|jN ‹_›];rfl
   |some p=>
    obtain ⟨a,e⟩:=p;refine sb (BY hn)<|eN (Oh d a e hn) λl M K=>aS (lN.mp hn) λR Q g=>?_;clear hn l M;cases g;have b:=DZ Q;refine eN (zJ Q) λA O O=>?_;have r:=run (a - d) d (bD K<|sL (by assumption:d<=a)) (λj P W=>b j P<|bD W<|sL (by assumption:d<=a));rw[show d+(a - d)=a by exact (vV<|sE ((aQ ‹d<=a›):d<=a))] at r;refine sb r<|sb (step a<|aQ K)<|sb A<|sb (if_pos rfl) ?_;have i:=z (a+1) K<|(bD h ‹d<=a›);simp only[List.map_append,List.flatten_append,List.map_cons,List.flatten_cons,i]
    congr 1
    by_cases q:d<a
    ·simp only[q,if_true,gB,jq,DR,Ij,eZ,AO]
    ·simp only[q,if_false]
     erw[((jk (bD (nL<|sE ((aQ ‹d<=a›):d<=a))<|jN q)<|by simp+arith):a - d=0)];rfl
 erw[key (x.cps.size+1) 0 (hJ _)<|gA _ _];rfl
theorem Zf: ∀p r b,e1 b (p++r)=e1 b p++e1 (xh b p) r:=by
 intro p;induction p with
 |nil=>exact λO O=>rfl
 |cons c q i=>
  exact λr b=>by
   induction q with
   |nil=>simp[yT,nK,xh]
   |cons d p O=>
    rw[sV,nK,i r<|c==10];have:xh b (c::d::p)=xh (c==10) (d::p):=by rfl
    erw[this]
    conv=>rhs;lhs;rw[nK]
    rw[ik]
theorem Mg: ∀p,(∀c∈p,c≠10)->e1 aE p=p:=by
 intro O;induction O with
 |nil=>exact λO=>rfl
 |cons c p i=>
  exact λh=>by
   have:(c==10)=false:=by simpa using h c (.head _)
   simp only[yT,nK,this,i λd Y=>h d<|.tail _ Y];rfl
namespace B01
theorem f_ (L:Nat) (h:x.cps.size<=100000) (H:(q2 x).cps.size<=400000):(aU<|L+1).F 9 [.str x] (.str<|q1<|q2 x):=.q rfl rfl rfl (az h<|by decide) H
end B01
end
section
theorem QDq {t:ba nT} {s:aN} {P:aN->Prop} (z:s.asleep)
 (h:f6 (aY p w) ⟨.builtin "claim.caller" {},aF,aF,[],aF⟩ t (λdh O F=>dh=.done (.ret .none)/\F.gens= #[]/\P F) (λO O O=>False) d s):
 ∃N n g,N.gens= #[]/\P N/\DL (kF DK) p w n (.single s ⟨t,.builtin "claim.caller" {},d,[]⟩)=.running (.single N g)/\through g=true:=by
 have U:=(wp_iff_halts t (λr F=>r=.ok (.ret .none)/\F.gens= #[]/\P F) d s).mp
  (Ik _ _ _ (λdh Q F q=>by
   clear z;obtain ⟨rfl,x,q⟩:=q
   exact ⟨⟨rfl,x,q⟩,by rw[show QGU F.gens=aE from by rw[x];simp -iota [QGU]]⟩) (λO O O q=>q.elim) _ _ h)
 refine dZ U λn r F u o x K=>?_;subst o;refine dA (runNI_real (kF DK) p w u<|outcomeOf_ends _) λi R f C=>?_;clear h U u;obtain rfl:=Shared.eq_of_forget_eq f x;refine oH (ZA n _ _ R) λk H Y a b=>bI (QEN b) λc e=>?_;clear R f b;subst e;exact (qT _ k Y x K (QDk k _ _ z C a) c)
theorem wQ {E:aI->bP->aN->Prop}: ∀l p s,
 f6 M Γ (fX l env) (λf P n=>f=.next/\f6 M Γ (fX r env) Q E P n) E p s->f6 M Γ (fX (l++r) env) Q E p s:=by
 intro O;induction O with
 |nil=>exact λp s h=>by dsimp only[QGV,DT] at h;exact h.2
 |cons N l i=>
  exact λp s h=>by
   simp! only[Q3,pR] at h
   rw[sV,Q3,pR];refine Ik _ _ _ (λf P n q=>?_) (λO O O q=>q) _ _ h;induction f with
   |next=>exact i P n q
   |_=>dsimp only[DT] at q;exact QHb q.1 (by intro z;contradiction)
end
namespace B01
noncomputable def Fi:List bH->BT->Nat->Bool
 |[],_,_=>aB
 |o::r,t,n=>((t.ins n o).get n).isSome && Fi r (t.ins n o) (n+1)
theorem Wm: ∀l t n,Fi l t n=aB->(∀i,i<n->(rx t n l).get i=t.get i)/\ ∀j (o:bH),l[j]?=aA o->(rx t n l).get (n+j)=aA o:=by
 intro O;induction O with
 |nil=>exact λt n O=>⟨λO O=>rfl,λj o h=>by simp -iota at h⟩
 |cons o r d=>
  exact λt n h=>by
   refine bI (f7.mp h) λA H=>bI (d (t.ins n o) (n+1) H) λa b=>?_;have g:=BT.get_ins o t n A;refine ⟨λi M=>?_,λj o' s=>?_⟩
   ·refine (?_)
    exact sb (a i<|sP ‹_›)<|sb (g i)<|sb (if_neg<|Nat.ne_of_lt ‹_›) rfl
   ·refine (?_)
    induction j with
    |zero=>
     refine sb (a n<|uc _)<|sb (g n)<|sb (if_pos rfl) ?_
     simpa -iota using s
    |succ j=>simp! only[show n+(j+1)=n+1+j by simp+arith];exact b j o' (by simpa -iota using s)
theorem VG (P:bZ) (X:Nat->bH):Fi (Xs X) (tB P) 138=true:=by lia
theorem QDf {X:Nat->bH} (e:h=pJ (tB P) 138 {}) (hs:h'.objs.size=177) (s: ∀b,b<138->h'.objs[b]?=h.objs[b]?) (hl:h'.life=h.life) (x: ∀j,j<39->h'.objs[138+j]?=aA (X<|138+j)):
 h'=pJ (rx (tB P) 138<|Xs X) 177 {}:=by
 refine bI (Wm _ _ _<|VG P X) λt g2=>?_
 have o:h'.objs=(pJ (rx (tB P) 138<|Xs X) 177 {}).objs:=by
  apply Array.ext_getElem?;intro i;rw[Il];by_cases A:i<138
  ·rw[s i A,e,Il,if_pos A,if_pos (by exact az ‹_› (gA _ _)),t i A]
  ·by_cases H:i<177
   ·obtain ⟨j,rfl⟩: ∃j,i=138+j:=⟨i - 138,by exact (vV (sE ((aQ<|jN A):138<=i)).symm)⟩
    have g:j<39:=aQ H
    refine sb (QHd H)<|sb (x j g)<|sb (g2 j (X<|138+j) (by unfold Xs;rw[List.getElem?_map,List.getElem?_range g];rfl)) ?_
    rfl
   ·rw[if_neg H]
    exact Array.getElem?_eq_none<|bD (nL hs)<|jN H
 have f:h'.life={}:=by simp! only[hl,e];rfl
 obtain ⟨a,b⟩:=h';have:b={}:=f;exact sb this<|congrArg (Heap.mk · {}) o
end B01
namespace B01
noncomputable def QEJ:Around:={handled:=aF,depth:=1000,frames:=aF,guards:=aF,units:=1000}
theorem WW:Γ1.In QEJ:=by
 refine (HM rfl ?_ ?_ ?_ ?_)
 ·decide+kernel
 ·intro l h
  exact ay h
 ·intro l h
  exact ay h
 ·decide+kernel
theorem QAf:AF pg=sl 0 18++(sl 18 1++(sl 19 1++([vh]++(sl 21 6++(sl 27 1++sl 28 15))))):=by lia
theorem QDb:vh=.Assign [.Name "b3_exceptions" ⟨144,0,144,13⟩] (.Dict yh xv yK) ⟨144,0,144,8704⟩:=by lia
theorem m_: ∀(l:List (Int×fY)) (a:Int),CZ a l=aB-> ∀x∈l,a<x.1:=by
 intro O;induction O with
 |nil=>exact λO O x h=>by contradiction
 |cons O r d=>
  obtain ⟨k,y⟩:=O
  exact λa h x M=>by
   refine bI (f7.mp h) λH i=>?_;have H:=QHi H;rcases bp.mp M with rfl|M
   ·exact H
   ·have:=d k i x M
    exact Ib ‹_› ‹_›
theorem Xh: ∀(l:List (Int×fY)) (a:Int),CZ a l=aB->(l.map (·.1)).Nodup:=by
 intro O;induction O with
 |nil=>exact λO O=>QFO
 |cons O r i=>obtain ⟨k,y⟩:=O;exact λa h=>by refine bI (f7.mp h) λA H=>?_;rw[gB,Pu];refine ⟨λm=>?_,i k H⟩;refine aS (ij.mp m) λx M e=>?_;have:=m_ r k H x M;simp only[e] at this;exact QHb this (Int.lt_irrefl _)
theorem QEO {h:bK} (e:h.get? b=aA (fC l n)):h.objs.getD b default=fC l n:=by
 unfold wZ at e;rw[IP];revert e;generalize h.objs[b]?=x;intro e;induction x with
 |none=>exact ay e
 |some o=>refine (?_);obtain ⟨z,A,p,a⟩:=o;cases p<;>first|exact ay e|exact Option.some.inj e
theorem QCg {w:bz} (z:s.heap.objs.size=138) (hl:l.length=650) (N:(l.map (·.1)).Nodup):
 aO (aY prog w) A (QY<|jE p l) (λv F=> ∃h' es,v=.ref 138/\F={s with heap:=h',toks:=s.toks+1950}/\h'.objs.size=177/\(∀b,b<138->h'.objs[b]?=s.heap.objs[b]?)/\h'.life=s.heap.life/\dJ l es/\h'.get? 138=aA (fC es es.length)) (λO O=>False) s:=by
 refine TQ (n:=37) (aQ<|nR z) (by assumption) N (by (erw[hl];erw[AG]);decide) λh' G=>?_;refine aS G.tab λes e d=>?_;rw[z] at d⊢;exact (Rq h' es rfl rfl (by (erw[G.size];exact sb z rfl)) (λb B=>G.same b (by simp only[z];exact B)) G.life e d)
theorem U6 {w:bz} {vs:List nS} (i:(Qh ks env).zip ((Qi vs env).map λv=>do let x<-v;sO p;pure x)=jE p l) (z:s.heap.objs.size=138) (hl:l.length=650) (n:(l.map (·.1)).Nodup):
 aO (aY prog w) A (b7 (.Dict ks vs p) env) (λv F=> ∃h' es,v=.ref 138/\F={s with heap:=h',toks:=s.toks+1950}/\h'.objs.size=177/\(∀b,b<138->h'.objs[b]?=s.heap.objs[b]?)/\h'.life=s.heap.life/\dJ l es/\h'.get? 138=aA (fC es es.length)) (λO O=>False) s:=by
 simp only[arm_eval_Dict,i];exact aR<|iJ<|QCg z hl n
theorem yu {w:bz} (z:Γ.In A) {p q q2 pos:bP} {vs:List nS} (i:(Qh ks env).zip ((Qi vs env).map λv=>do let x<-v;sO p;pure x)=jE p l) (Z:s.heap.objs.size=138) (hl:l.length=650) (n:(l.map (·.1)).Nodup)
 {E:aI->bP->aN->Prop} (u:jo [.Name nm q] (.Dict ks vs p) pos.line env=pure aE) (H:mT [.Name nm q] (.Dict ks vs p) env=pure aF)
 (h: ∀P h' es,h'.objs.size=177->(∀b,b<138->h'.objs[b]?=s.heap.objs[b]?)->h'.life=s.heap.life->dJ l es->h'.get? 138=aA (fC es es.length)->
  f6 (aY prog w) Γ (do sO q;z7 env nm (.ref 138);pure .next) Q E P {s with heap:=h',toks:=s.toks+1950}):f6 (aY prog w) Γ (o6 (.Assign [.Name nm q] (.Dict ks vs p) pos) env) Q E q2 s:=by
 rw[QB,u,H,pR];refine (Sem.wp_cmd_standAt ..).mpr ?_;rw[pR,DT,if_neg (by decide),pR];refine Ik _ _ _ (λv P F q=>?_) (λO O O q=>q.elim) _ _<|U6 i Z hl n Γ _ z;exact QAF q λh' es B o a b c d e=>sb B<|sb o<|h P h' es a b c d e
end B01
namespace B01
theorem Oi (w:bz):(jo [.Name "b3_exceptions" ⟨144,0,144,13⟩] (.Dict yh xv yK) (⟨144,0,144,8704⟩:bP).line iW=pure aE)/\(mT [.Name "b3_exceptions" ⟨144,0,144,13⟩] (.Dict yh xv yK) iW=pure aF):=⟨rfl,rfl⟩
theorem QBq (w:bz) (os:eH) (p:bP) {E:aI->bP->aN->Prop}
 (h: ∀X,kU X->Q .next ⟨144,0,144,13⟩ (CY w.params X os).abs):f6 (aY pg w) Γ1 (o6 vh iW) Q E p (rD w.params os).abs:=by
 have z:(rD w.params os).abs.heap.objs.size=138:=QL _ _ _;erw[QDb]
 with_reducible refine yu WW SH z Xg (Xh _ _ VZ) (Oi w).1 (Oi w).2 ?_
 intro C h' c A s l v d
 have M: ∀j,j<39->h'.objs[138+j]?=aA ((λb=>h'.objs.getD b default)<|138+j):=λj g=>by
  refine (?_:_=aA (h'.objs.getD (138+j) default));refine sb (IP)<|sb (Array.getElem?_eq_getElem<|bD (nR A) g) ?_
  rfl
 have e:=QDf (P:=w.params) (h:=(rD w.params os).abs.heap) (h':=h') (X:=λb=>h'.objs.getD b default) rfl A s l M;have x:kU (λb=>h'.objs.getD b default):=(ax c v<|QEO d);generalize (λb=>h'.objs.getD b default)=X at*;erw[e];have n:({(rD w.params os).abs with heap:=pJ (rx (tB w.params) 138<|Xs X) 177 {},toks:=(rD w.params os).abs.toks+1950}:aN)=(My w.params X os).abs:=by lia
 erw[n];have q:=h X x;have K:=(L6 1000).1 _ _ _ _ _ _ (pD w X os C) Q E q;rw[<-Im] at K;unfold QGW
 with_reducible exact K
end B01
namespace B01
section
variable {den:Code->ba nT} {pr:sH} {w:bz}
theorem qA {k:Nat} {α:Type} {m:ba α} {a:α} (e:gc den pr w.params k α Γ p P m=aA (.ok a,C,s')) (hs:s=P.abs) {Q:α->bP->aN->Prop} {E:aI->bP->aN->Prop} (h:Q a C s'.abs):f6 ⟨den,pr,w⟩ Γ m Q E p s:=hs▸(L6 k).1 _ _ _ _ _ _ e _ _ h
theorem Ro {env:cg} {m:PySem.Module} {P:aN->Prop} {i l a:hO} {c:aI}
 (M:gc den pr w.params 1000 aI Γ0 default i (Qd m)=aA (.ok c,default,l)) (hs:s=i.abs)
 (N:gc den pr w.params 1000 aM Γ0 default l (Qe c lS lS)=aA (.ok f,default,a))
 (e:env={scope:=m.scope,locals:=lS,globals:=lS,cells:=[],code:=c,frame:=aA f})
 (hd:den (.body body env)=(do Qg body env;return .done (<-(fX body env).onRaise (leaving env))))
 (B:gc den pr w.params 1000 Unit (Γ0.enter (.body body env) aF default) default a (Qg body env)=aA (.ok (),default,a))
 (v:f6 ⟨den,pr,w⟩ (Γ0.enter (.body body env) aF default) (fX body env) (λfl O n=>P n) (λO O O=>False) default a.abs):
 f6 ⟨den,pr,w⟩ Γ0 (do let code<-Qd m;let frame<-Qe code lS lS;let _<-run (.body body {scope:=m.scope,locals:=lS,globals:=lS,cells:=[],code,frame:=aA frame});ret .none) (λdh O n=>dh=.done (.ret .none)/\P n) (λO O O=>False) default s:=by
 rw[pR];refine qA M hs ?_;rw[pR];refine qA N rfl ?_;rw[<-e,pR];unfold PySem.run;rw[Sem.wp_call,QFZ];refine (?_:f6 _ (Γ0.enter (.body body env) aF default) (den<|.body body env) _ _ _ _);rw[hd,pR];refine qA B rfl ?_;rw[pR,Sem.wp_onRaise];refine Ik _ _ _ (λfl p n q=>?_) (λO O O q=>q.elim) _ _ v;rw[DT];exact ⟨rfl,q⟩
theorem QDg {M:Ctx} {env:cg} {l L U n F q:List cq} {st:cq} {r p f p3 a p5 u R:bP} {c i j s:hO} {o:(Nat->bH)->Prop} {t z v g:(Nat->bH)->hO} {Y C e K N n7:Nat} {P:aN->Prop}
 (A:gc den pr w.params Y hM M r c (fX l env)=aA (.ok .next,p,i)) (h:gc den pr w.params C hM M p i (fX L env)=aA (.ok .next,f,j)) (H:gc den pr w.params e hM M f j (fX U env)=aA (.ok .next,p3,s))
 (hd: ∀Q,(∀X,o X->Q .next a (t X).abs)->f6 ⟨den,pr,w⟩ M (o6 st env) Q (λO O O=>False) p3 s.abs)
 (d: ∀X,gc den pr w.params K hM M a (t X) (fX n env)=aA (.ok .next,p5,z X)) (b: ∀X,gc den pr w.params N hM M p5 (z X) (fX F env)=aA (.ok .next,u,v X)) (B: ∀X,gc den pr w.params n7 hM M u (v X) (fX q env)=aA (.ok .next,R,g X))
 (hP: ∀X,o X->P (g X).abs):f6 ⟨den,pr,w⟩ M (fX (l++(L++(U++([st]++(n++(F++q)))))) env) (λO O W=>P W) (λO O O=>False) r c.abs:=by
 refine wQ _ _ _<|qA A rfl ⟨rfl,?_⟩;refine wQ _ _ _<|qA h rfl ⟨rfl,?_⟩;refine wQ _ _ _<|qA H rfl ⟨rfl,?_⟩;refine wQ _ _ _ ?_
 simp! only[Q3,pR]
 refine hd _ λX x=>(?_);rw[QGV,DT];refine ⟨rfl,?_⟩;refine wQ _ _ _<|qA (d X) rfl ⟨rfl,?_⟩;refine wQ _ _ _<|qA (b X) rfl ⟨rfl,?_⟩;exact qA (B X) rfl (hP X x)
end
noncomputable def zS (P:bZ) (os:eH):Shared:=⟨pJ (tp P) 28 {}, #[],{},276,os⟩
noncomputable def Fy (P:bZ) (os:eH) (s:aN):Prop:=s.gens= #[]/\ ∃X,kU X/\s=(vH P X os).abs
theorem T7 (w:bz) (os:eH) (X:Nat->bH) (x:kU X):Fy w.params os (vH w.params X os).abs:=⟨rfl,X,x,rfl⟩
theorem Y3 (w:bz) (os:eH) (p:bP) (Q:hM->bP->aN->Prop)
 (h: ∀X,kU X->Q .next ⟨144,0,144,13⟩ (CY w.params X os).abs):f6 ⟨kF km,pg,w⟩ Γ1 (o6 vh iW) Q (λO O O=>False) p (rD w.params os).abs:=by
 erw[<-Im];have key:f6 (aY pg w) Γ1 (o6 vh iW) Q (λO O O=>False) p (rD w.params os).abs:=by with_reducible exact QBq w os p h
 unfold QGW at key
 with_reducible exact key
theorem Yy (w:bz) (os:eH):f6 ⟨kF km,pg,w⟩ Γ1 (fX (AF pg) iW) (λO O s=>Fy w.params os s) (λO O O=>False) default (zN w.params os).abs:=by
 erw[QAf]
 with_reducible exact QDg (pA w os) (pB w os) (pC w os) (Y3 w os _) (λX=>pE w X os) (λX=>pF w X os) (λX=>pG w X os)<|T7 w os
theorem QCe (w:bz) (os:eH):f6 ⟨kF km,pg,w⟩ Γ0 (topStub pg).cur (λdh O s=>dh=.done (.ret .none)/\Fy w.params os s) (λO O O=>False) default (zS w.params os):=Ro (pM w os) rfl (pN w os) rfl rfl (pK w os) (Yy w os)
end B01
namespace B01
noncomputable def qv:Program:={pg with main:={pg.main with body:=[bO 43]}}
noncomputable def nH:List fY:=pg.boundNames.filter λn=> !(n== "law")
noncomputable def gr (P:bZ) (X:Nat->bH) (os:eH):Shared:=(vH P X os).abs
noncomputable def G9:List fY:=QGX pg.main.body
section
variable (P:bZ) (X:Nat->bH) (os:eH)
include P X os
theorem c1:seen ((recsOf qv).map (·.name)) (ownsOf qv) [] {gr P X os with gens:= #[]}=expectedOf qv:=by lia
theorem c2:(gr P X os).heap.bltView=bltViewBooted:=by lia
theorem c3:((gr P X os).heap.keysOk (Io qv nH) ((recsOf qv).map (·.name)) ((litsOf qv).map (·.1))<|(clssOf qv<|Io qv nH).map (·.name))=true:=by lia
theorem c4:(gr P X os).heap.accountedOkI G9=true:=by lia
theorem c5:((gr P X os).heap.isNs nO && (gr P X os).heap.isNs ic && tablesOk qv (gr P X os).heap && aB && ((gr P X os).gens.size==0))=true:=by lia
theorem c6:tabsOk qv (gr P X os)=true:=by lia
theorem c7:pinSeenD qv (drecsOf qv) (gr P X os)=pinGoodD (drecsOf qv):=by lia
theorem c8:plainSeenE qv (Io qv nH) (gr P X os)=plainGoodE qv (Io qv nH):=by lia
theorem c9:plainSeenD qv nH (gr P X os)=plainGoodD qv nH:=by lia
theorem YG:wideSeen qv (gr P X os)=wideGood qv:=by lia
theorem Ze:clsSeenW qv nH (gr P X os)=clsGoodW qv nH:=by lia
theorem d1:staticsOk G9 (zS P os).heap (gr P X os).heap=true:=by lia
theorem d2:namesBound pg (gr P X os).heap=true:=by lia
theorem Ld:gensDone (gr P X os)=true:=by lia
theorem d4:laidKept (zS P os).heap (gr P X os).heap=true:=by lia
end
theorem d6:chainsOk qv=true:=by lia
end B01
namespace B01
noncomputable def YP (w:bz) (h:bK):Prop:= ∃X,kU X/\ ∀b o,(pJ (eI w.params X) 414 {}).get? b=aA o->h.get? b=aA o
noncomputable def Nz:(fY->Option aI)->bK->Prop:=λO O=>True
theorem QBT (P:bZ) (X:Nat->bH):(bg 28).map (λb=>if b==2||b==3 then none else (tp P).get b)=(List.range 28).map (λb=>if b==2||b==3 then none else (eI P X).get b):=by lia
theorem R4 (P:bZ) (X:Nat->bH) (b:aM) (o:bH) (h:(pJ (tp P) 28 {}).get? b=aA o) (N:b≠2) (n:b≠3):(pJ (eI P X) 414 {}).get? b=aA o:=by
 have B:b<28:=by have:=kh h;rwa[QL] at this
 have e:=QFh.mp (QBT P X) b<|sG.mpr B;simp only[beq_iff_eq,N,n,IK,or_self,if_false,Bool.or_false,decide_false] at e;unfold wZ at h⊢;rw[Il,if_pos B] at h;rw[Il,if_pos (mJ B (by decide):b<414)];exact cw (by simpa[N,n] using e:(tp P).get b=(eI P X).get b)<|h
theorem WQ (P:bZ) (X:Nat->bH) (os:eH):openSeen qv nH G9 (λO=>aB) aB (gr P X os)=openGood qv nH:=by delta openSeen openGood;simp only[c1,c2,c3,c4,c6,c7,c8,c9,YG,Ze];have:=c5 P X os;simp only[gn] at this⊢;refine bI this λQ e=>bI Q λq d=>?_;have H:=q.1;have c:=q.2;have a:=H.1;have b:=H.2;simp only[a,b,c,(e:(gr P X os).gens.size==0),Pw,if_true,Bool.and_self]
theorem MZ (w:bz):(∃s,AfterRun (opening pg) w s)/\ ∀s,AfterRun (opening pg) w s-> ∃F,fenceModules? pg s=aA F/\F.gens= #[]/\ ∃N,TopRan pg w F N/\N.asleep/\N.gens= #[]/\N.heap.isNs nO=aB/\
 Ground qv nH [] Nz w N (N.heap.nsMap nO) (N.heap.nsMap ic) N.heap/\YP w N.heap/\N.toks=2870:=by
 refine aS (lN.mp<|pO w) λF h e=>?_;rw[<-Im] at h;refine aS (AE.mp h) λs H v=>?_;have A:=AfterImport.of_importEnds H;refine ⟨⟨s,A⟩,λi hs'=>?_⟩;obtain rfl:i=s:=AfterImport.unique hs' A;have z:F.asleep:=QX (fence_lifeW v) A.life;obtain ⟨os,rfl⟩: ∃os,F=zS w.params os:=by obtain ⟨a,g,d,t,os⟩:=F;refine ⟨os,?_⟩;simp only[sT] at e;clear hs' H A h v z;obtain ⟨rfl,rfl,rfl,rfl⟩:=e;rfl
 have wp:=QCe w os;rw[<-Im] at wp;refine dZ (QDq (p:=pg) (w:=w) (t:=(topStub pg).cur) (s:=zS w.params os) (P:=λi=> ∃X,kU X/\i=(vH w.params X os).abs) z wp) λN n Y x Q r j=>aS Q λX M U=>?_;clear hs' H A h wp x Q;subst U;refine Dl (ground_of_open (w:=w) (XP:=Nz) (λO O=>trivial) d6<|WQ w.params X os) λG g0 g1 g2 g3 W K=>⟨_,v,rfl,(vH w.params X os).abs,⟨(et n Y r j),rfl,Shared.rest_eq rfl,λb o hb hn=>?_,g2,statics_of_ok<|d1 w.params X os,g3,W,K,gens_of_done<|Ld w.params X os,names_of_bound<|d2 w.params X os,laid_of_kept<|d4 w.params X os⟩,QX rfl z,rfl,g1,G,(ax X M λO O e=>e),rfl⟩;exact R4 w.params X b o hb (λq=>hn<|.inr<|.inl q) λq=>hn<|.inl q
end B01
namespace B01
noncomputable abbrev me:OpenLaw:=QGY
theorem lb {a b:Bool} (x:a=aB) (y:b=aB):(a && b)=true:=by rw[x,y];rfl
noncomputable abbrev i6:Program:=me.row.prog
theorem R9:sreFenced i6.main=true:=by lia
theorem loB:((moduleNames i6.main.body).isEmpty||lookedIntoSs (moduleNames i6.main.body) i6.main.body)=true:=by lia
theorem SJ:namesResolve i6=true:=by lia
theorem YH:(i6.boundNames.all λn=> !worldNames.contains n)=true:=by lia
theorem loU:Q4 i6 i6.main.body "vars" =false:=by lia
theorem VN:Q4 i6 i6.main.body "dir" =false:=by lia
theorem loW:Q4 i6 i6.main.body "locals" =false:=by lia
theorem WC:Q5 {strict:= !(QGX i6.main.body).all cThrough.contains,foot:=aF,bare:=[]} i6.main.body=true:=by lia
theorem Ud {a b c:aG} {f:aG->Bool} (h:f a=aE) (g:f b=aE) (k:f c=aE):[a,b,c].filter f=[]:=by simp[h,g,k]
theorem R5 {s:Bool} {B:List aG} {b:List cq} (e:B=[]) (h:Q5 {strict:=s,foot:=aF,bare:=[]} b=aB):Q5 {strict:=s,foot:=aF,bare:=B} b=true:=by subst e;exact h
theorem UN:(namesMeet i6 i6.main.body λO n=>attrL n)=true:=by lia
theorem w_:looksOpen i6=true:=lb (lb (lb (lb (lb R9 loB) SJ) YH)<|R5 (Ud loU VN loW) WC) UN
theorem Tv:me.row.partSaid=true:=by
 unfold OpenRow.partSaid
 iterate 13 refine lb ?_ (by lia)
 exact w_
theorem Kw:me.row.wellSaid=true:=by
 unfold OpenRow.wellSaid
 iterate 2 refine lb ?_ (by lia)
 exact Tv
theorem YQ:me.wellSaid=true:=by
 unfold OpenLaw.wellSaid
 iterate 18 refine lb ?_ (by lia)
 exact Kw
theorem holds_of_row (h:me.row.Holds):QGY.Holds:=⟨YQ,h⟩
end B01
theorem XR (h:WShape.hasAll R args [.list .int]=aB): ∃ns:List Int,args=[ux<|xQ<|ns.map xR]:=by refine bc (hasAllW_cons h) λd r B A H=>sb B ?_;clear h B;obtain rfl:=hasAllW_nil H;exact aS (hasW_list A) λxs e Q=>sb e<|aV (items_int Q) λns e=>sb e<|⟨ns,by rw[<-ofPys_ints];rfl⟩
theorem QDn {i:Int} (x:Well P h v (.int i)): ∃t,v=.int i t:=by cases x;exact ⟨_,rfl⟩
theorem ZN {X:aM->Prop} (ns:List Int): ∀vs:List aI,DU P h vs (ns.map WData.int)->bB X h vs (ns.map cB):=by
 induction ns with
 |nil=>
  intro vs w;induction vs with
  |nil=>exact .nil
  |cons v vs=>exact nomatch w
 |cons n ns i=>intro vs w;exact bc (QGZ w) λv vs' B a b=>sb B<|aV (QDn a) λt e=>sb e<| .cons (.int _ _)<|i _ b
theorem QCM (x:Well P h v (.list xs)): ∃a vs o,v=.ref a/\h.get? a=aA o/\o=listOf vs.toArray 0/\DU P h vs xs:=by cases x with|list e r=>exact (qT _ _ _ rfl e rfl r)
theorem ZY {X:aM->Prop} {ns:List Int} {vs:List aI} (w:DU P h vs [ux<|xQ<|ns.map xR]) (nx: ∀a o,h.get? a=aA o->o.cls≠ .none-> ¬ X a):bB X h vs [DH<|ns.map cB]:=by
 refine bc (QGZ w) λv R B a b=>sb B ?_;have a:Well P h v (.list<|ofPys<|ns.map xR):=a;rw[ofPys_ints] at a;refine dZ (QCM a) λA u o K e f r=>sb K ?_;subst f;clear B;induction R with
 |nil=>exact .cons (.lst (n:=0) e (nx _ _ e λq=>Value.noConfusion q)<|ZN ns _ r) .nil
 |cons v vs=>exact nomatch b
namespace B01
noncomputable def dh (P:bZ) (X:Nat->bH):Heap:=pJ (eI P X) 414 {}
noncomputable def mZ:Obj:={cls:=.none,data:=.fields #[]}
theorem wF {X:Nat->bH} (h:a<414) (g:(eI P X).get a=aA o) (al:alive o=aA o'):(dh P X).get? a=aA o':=(IM h g).trans al
section
variable (P:bZ) (X:Nat->bH)
include P X
theorem As:(dh P X).get? 48=aA mZ:=wF (by decide) (by lia:(eI P X).get 48=aA mZ) (by lia)
theorem AX:(dh P X).get? 76=aA mZ:=wF (by decide) (by lia:(eI P X).get 76=aA mZ) (by lia)
theorem BA:(dh P X).get? 83=aA mZ:=wF (by decide) (by lia:(eI P X).get 83=aA mZ) (by lia)
theorem k_:(dh P X).get? 52=aA (ob 52 P):=wF (by decide) (by lia:(eI P X).get 52=aA (ob 52 P)) (by lia)
theorem Y6:(dh P X).get? 80=aA (ob 80 P):=wF (by decide) (by lia:(eI P X).get 80=aA (ob 80 P)) (by lia)
theorem QCy:(dh P X).get? 87=aA (ob 87 P):=wF (by decide) (by lia:(eI P X).get 87=aA (ob 87 P)) (by lia)
end
theorem Lw (e:cx f=aA cf):cf=B9\/cf=AW\/cf=x5:=by
 refine aS (lN.mp e) λp u B=>cw B ?_;have h:=tq _ _ _ u;simp only[tY,bp,gU,or_false,sT] at h;clear e u B;rcases h with ⟨-,rfl⟩|⟨-,rfl⟩|⟨-,rfl⟩
 ·exact .inl rfl
 ·exact .inr<|.inl rfl
 ·exact .inr<|.inr rfl
theorem xq (h:(h8 cx ir).PF a):a=48\/a=76\/a=83:=by
 refine cT h λf c e o=>sb o ?_;clear h o;rcases Lw e with rfl|rfl|rfl
 ·exact .inl rfl
 ·exact .inr<|.inl rfl
 ·exact .inr<|.inr rfl
noncomputable def LM:aI->Bool|.str .. =>aB|_=>aE
noncomputable def Gb:aI->Bool|.int .. =>aB|_=>aE
noncomputable def Mo:aI->Bool|.bool .. =>aB|_=>aE
theorem Wx (h:LM v=aB): ∃f t,v=.str f t:=by cases v<;>first|exact (l6 _ _ rfl)|(exact bq h)
theorem OD (h:Gb v=aB): ∃f t,v=.int f t:=by cases v<;>first|exact (l6 _ _ rfl)|(exact bq h)
theorem i_ (h:Mo v=aB): ∃f,v=.bool f:=by cases v<;>first|exact ⟨_,rfl⟩|(exact bq h)
theorem EX {X:aM->Prop} {vs:Array aI} (z:h.get? cf.own=aA o) (hd:o.data=.fields vs) (C:o.cls=.type "code") (F:vs.getD 11 .none=.ref cf.tab) (c:vs[11]?=aA (.ref cf.tab)) (Q:LM (vs.getD 18 .none)=aB)
 (B:Gb (vs.getD 7 .none)=aB) (m:Mo (vs.getD 9 .none)=aB) (H:Gb (vs.getD 10 .none)=aB) (a:h.get? cf.tab=aA mZ) (n:cf.own≠cf.tab) (nx: ¬ X cf.own):nh cf X h:=by
 exact jY (Wx Q) λf t Q=>jY (OD B) λK A B=>aV (i_ m) λb m=>jY (OD H) λx i H=>.mk (ps:= #[]) nx ⟨o,vs,f,t,K,A,b,x,i,mZ,z,hd,F,Q,B,m,H,a,rfl,trivial,n⟩ ⟨(jj o vs z C hd c),a⟩<|.inl rfl
theorem I2 {X:Nat->bH} (B: ∀b o,(dh P X).get? b=aA o->h.get? b=aA o):(h8 cx ir).Inv (h8 cx ir).PF h:=by
 intro f cf e;have n: ∀a,a≠48->a≠76->a≠83-> ¬ (h8 cx ir).PF a:=λa A i H q=>by rcases xq q with q|q|q<;>contradiction
 rcases Lw e with rfl|rfl|rfl
 ·exact EX (cf:=B9) (B _ _<|k_ P X) (vs:=kW<|ob 52 P) (by lia) (by lia) (by lia) (by lia) (by lia) (by lia) (by lia) (by lia) (B _ _<|As P X) (by decide) (n 52 (by decide) (by decide)<|by decide)
 ·exact EX (cf:=AW) (B _ _<|Y6 P X) (vs:=kW<|ob 80 P) (by lia) (by lia) (by lia) (by lia) (by lia) (by lia) (by lia) (by lia) (B _ _<|AX P X) (by decide) (n 80 (by decide) (by decide)<|by decide)
 ·exact EX (cf:=x5) (B _ _<|QCy P X) (vs:=kW<|ob 87 P) (by lia) (by lia) (by lia) (by lia) (by lia) (by lia) (by lia) (by lia) (B _ _<|BA P X) (by decide) (n 87 (by decide) (by decide)<|by decide)
end B01
section
open PySem.StrLaws
set_option exponentiation.threshold 100000
theorem Ve (h:xs.length+ys.length<=16777216):fe r .Add (.d<|.list xs) (.d<|.list ys) (.list<|xs++ys):=.add .d .d h
theorem nl (h:(decide (0<n) && decide (n<1000000000))=aB):sC a n=false:=PyProof.noPylong_small (by simp at h;exact (oM<|bG (iL<|jS ((bE h.1):0<=n)) h.2))
theorem QAo {k n:Nat} (h:0<n):(k:Int).fdiv (n:Int)=((k / n:Nat)):=by erw[hW _<|mF.mpr ‹_›];rfl
theorem J7 {k n:Nat} (h:0<n):(k:Int).fmod (n:Int)=((k % n:Nat)):=by erw[nC _<|mF.mpr ‹_›];rfl
theorem Vj (x y:List Nat):(⟨x.toArray⟩:aG)++⟨y.toArray⟩=⟨(x++y).toArray⟩:=yW (by simp only[Wk])
theorem rJ {x y:List Nat} (h:x.length+y.length<=16777216):fe r .Add (.d<|.str ⟨x.toArray⟩) (.d<|.str ⟨y.toArray⟩) (.str ⟨(x++y).toArray⟩):=Vj x y▸ .cat (by refine (?_:x.toArray.size+y.toArray.size<=_);simp only[gm,gm];exact h)
theorem JU (H:mY p.1=aB) (h:mY p.2=aB):fP 8 (hP p)=true:=by simp[hP,fP,H,h]
theorem d_ (h:mY s=aB):fP 8 (.str s)=true:=by assumption
theorem tN (i:Int):fP 8 (.int i)=true:=by simp[fP]
theorem kL (h: ∀x∈xs,fP 8 x=aB):mw xs:=dq.mpr h
theorem iU (P:gb r v xs) (h: ∀x∈xs,fP 8 x=aB):gj r .NotEq v (.d<|.list xs) false:=.lst P .d (kL h) (kL h)<|.oo rfl
theorem ES {α:Type} (xs:List α) (f:α->Int): ∀x∈xs.map λa=>cB<|f a,fP 8 x=true:=λx M=>aS (ij.mp M) λa O e=>cw e<|tN _
theorem SY (h: ∀y∈x::xs,fP 8 y=aB):gj r .Eq (.d<|.list<|x::xs) (.d<|.list []) false:=.lst .d .d (kL h) rfl (.Bm nofun)
theorem eqR (h: ∀y∈xs,fP 8 y=aB):gj r .Eq (.d<|.list xs) (.d<|.list xs) true:=.lst .d .d (kL h) (kL h)<|.eqT rfl
theorem PX (ns:List Int): ∀x∈ns.map cB,fP 8 x=true:=ES ns id
theorem YF (ns:List Int): ∀ks:List Nat,(ks.filterMap λk=>(ns.map cB)[k]?)=(ks.filterMap λk=>ns[k]?).map cB:=by
 intro O;induction O with
 |nil=>exact rfl
 |cons k ks i=>
  exact by
   refine sb nP<|sb List.filterMap_cons<|sb (i)<|sb (List.getElem?_map) ?_
   cases ns[k]?<;>rfl
noncomputable def vf (ns:List Int) (k:Nat):List Int:=(Cn (kf (aA (k:Int)) aF (aA 5) (ns.map cB).length).1 (kf (aA (k:Int)) aF (aA 5) (ns.map cB).length).2.1 (kf (aA (k:Int)) aF (aA 5) (ns.map cB).length).2.2).filterMap λ(k:Nat)=>ns[k]?
namespace B01
theorem QDQ (hn:n<10^10) (hb:bl∈[[],[32],[9],[9,32]]):(eF n bl).length<=100/\gO aE (eF n bl)=true:=by
 refine j5 (Bc hn) λH i Q v=>?_;have b:bl.length<=2/\ ∀c∈bl,c=32\/c=9:=by simp only[bp,gU,or_false] at hb;clear hn H i Q v;rcases hb with rfl|rfl|rfl|rfl<;>decide
 constructor
 ·refine (?_:([48,95]++dC n++bl).toArray.size<=100)
  simp;exact bD Q b.1
 ·unfold gO
  rw[<-QGa,dq];intro c C;have C:c∈[48,95]++dC n++bl:=by simpa[eF] using C
  have:c=9\/(32<=c/\c<127):=by
   refine cp (qn.mp C) (λC=>?_) λC=>?_
   ·refine cp (qn.mp C) (λC=>?_) λC=>?_
    ·simp at C
     exact ((Ip _).imp_right λo=>⟨(C.elim (λu=>(aQ<|nR u)) λu=>(aQ<|nR u)),(C.elim (λu=>(aQ<|nL u)) λu=>(aQ<|nL u))⟩)
    ·have:=H c C
     exact (.inr ⟨(aQ this.1),(aQ this.2)⟩)
   ·have:=b.2 c C
    exact (this.elim (λu=>(.inr ⟨(aQ<|nR u),(aQ<|nL u)⟩)) λu=>(.inl u))
  clear hn hb H i Q v b C;rcases this with rfl|h
  ·decide
  ·have a:(c==127)=false:=by simp;exact λK=>cY (nR K) h.2
   simp[a,(by simp;exact aQ h.1:decide (c<=8)=aE),(by simp;exact aQ h.1:decide (c<=31)=aE)]
noncomputable def FN:List Dat:=[.str ⟨#[]⟩,.str ⟨#[32]⟩,.str ⟨#[9]⟩,.str ⟨#[9,32]⟩]
theorem F_ {k:Nat} (h:k<4): ∃bl,bl∈[[],[32],[9],[9,32]]/\FN[k]?=aA (.str ⟨bl.toArray⟩):=Mm (P:=λk=> ∃bl,bl∈[[],[32],[9],[9,32]]/\FN[k]?=aA (.str ⟨bl.toArray⟩)) (ax [] (.head _) rfl) (ax [32] (.tail _<|.head _) rfl) (ax [9] (by decide) rfl) (ax [9,32] (by decide) rfl) k h
noncomputable def gI (l:Ls):Ls:=nq eE<|oR l
theorem Zd {ns fs:List Int} (hn:ns.length<=1000) (f:fs.length=5) {ks:List Nat} (C: ∀k∈ks,k<5) (K:List aK->Prop) (h:K (ks.map λk=>cB<|fs.getD k 0+(vf ns k).sum)):
 cW (EW.aH .Add (.au om cR)<|.bi .sum [.dK LZ (aA cR) aF<|aA<|.bi .len [om]]).w eE [] o (gI [(0,.val<|.list<|ns.map .int),(1,.val<|.list<|fs.map .int)]) (ks.map λ(k:Nat)=>cB k) K:=by
 refine AP (λk j x K h=>?_) K h;have Z:=C k j;have L: ∀r,cn r .len [.d<|.list<|fs.map .int]<|.int 5:=λr=>by have:=cn.yR (r:=r) (v:=.d<|.list<|fs.map .int) (.l .d) (by simp only[dY];exact aQ<|nL f);rwa[dY,f] at this
 have t: ∀r,gR r (.d<|.list<|ns.map .int) (.d<|.int k) (.d .none) (.d<|.int 5)<|.list<|(vf ns k).map .int:=λr=>by have:=gR.lst (r:=r) (v:=.d<|.list<|ns.map .int) .d (.int (i:=(k:Int))) .none (.int (i:=5)) (by decide) (by simp only[dY];exact az ‹_› (gA _ _));unfold lk at this;simp only[YF] at this;exact this
 exact fN (.aH .Add (.au om cR)<|.bi .sum [.dK LZ (aA cR) aF<|aA<|.bi .len [om]]) eE [] o [.b aB,.d<|.int<|fs.getD k 0,.d<|.int 5,.d<|.list<|(vf ns k).map .int,.d<|.int (vf ns k).sum] (gI [(0,.val<|.list<|ns.map .int),(1,.val<|.list<|fs.map .int)]) (.int k) x K rfl tt ((λr=>pj (w:=k) (by simp[Ii,show k<fs.length by exact bD (nR f) Z]) rfl (bE<|oL<|nL f)) _) (L _) (t _) (.sum .d) rfl h
theorem WM (L:Nat) {ns fs:List Int} (hn:ns.length<=1000) (f:fs.length=5): ∃c0 c1 c2 c3 c4,(aU<|L+1).F 12 [.list<|ns.map .int,.list<|fs.map .int]<|.list<|[c0,c1,c2,c3,c4].map .int:=by
 have p: ∀r,cn r .len [.d<|.list<|fs.map .int]<|.int 5:=λr=>by have:=cn.yR (r:=r) (v:=.d<|.list<|fs.map .int) (.l .d) (by rw[dY];exact aQ<|nL f);rwa[dY,f] at this
 let c:Nat->Int:=λk=>fs.getD k 0+(vf ns k).sum
 refine ⟨c 0,c 1,c 2,c 3,c 4,dj (n:=L) (k:=2) (bs:=Fw) ?_ rfl⟩;exact dz Fw 2 [hi 5,.ds<|[0,1,2,3,4].map λk=>cB<|fs.getD k 0+(vf ns k).sum] (aU L) [.list<|ns.map .int,.list<|fs.map .int] _ rfl (p _) tt (by decide) (Zd hn f (ks:=[0,1,2,3,4])<|by decide) .ret
end B01
end
theorem dm (c:Int) {k n q:Int} (hk:k≠0):(c / k) % n=((c % (k*(n*q))) / k) % n:=by
 conv=>lhs;rw[<-Int.emod_add_mul_ediv c (k*(n*q))]
 rw[xM k,Iq _ _ hk,xM n,QGb]
theorem lI {w:Nat} (R:r i=.own xs) (h:xs[w]?=aA d) (hl:eX xs.length 1000=aB):cC r (.bor i) (w:Int) d:=.seq (.l<|.bor R) (by have:=bJ hl;exact (bE<|oL this)) (MI (zZ.mp h).1) h
namespace B01
structure bx where
 y0:Nat
 x1:Nat
 y1:Nat
 x2:Nat
 y2:Nat
noncomputable def qY (x1 y1 x2 y2 y0:Nat):Bool:=(x1:Int)*((y2:Int) - y0)==(x2:Int)*((y1:Int) - y0)
noncomputable def lG (m:Nat):bx:=⟨m / 3 % 4,1+m % 3,m / 12 % 4,m / 48 % 4,bif qY (1+m % 3) (m / 12 % 4) (m / 48 % 4) (m / 192 % 5) (m / 3 % 4) then (m / 192 % 5+1) % 5 else m / 192 % 5⟩
noncomputable def di (t:bx):Dat:=.list [.list [.int 0,.int t.y0],.list [.int t.x1,.int t.y1],.list [.int t.x2,.int t.y2]]
theorem PI {a b c:Nat} (h:a<5) (g:b<5) (k:c<5):ib (a:Int)+ib ((b:Int) - c)<=134217728:=(by decide+kernel: ∀a,a<5-> ∀b,b<5-> ∀c,c<5->ib ((a:Nat):Int)+ib (((b:Nat):Int) - (c:Nat))<=134217728) a h b g c k
theorem WJ (L:Nat) (c:Int): ∃m,m<960/\(aU<|L+1).F 27 [.int c] (di<|lG m):=by
 refine aS (⟨(c % 960).toNat,by exact (oM<|bG (iL<|jO ((bE<|mX (c) (by decide:(960:Int)≠0)):0<=c % 960))<|nV (c) (by decide:(0:Int)<960)),by exact (jO ((bE<|mX (c) (by decide:(960:Int)≠0)):0<=c % 960)).symm⟩: ∃m:Nat,m<960/\c % 960=m) λm hm e=>?_;have f: ∀k n q:Nat,0<k->0<n->k*(n*q)=960->((c.fdiv k).fmod n)=((m / k % n:Nat):Int):=λk n q h1 h2 h=>by rw[hW _<|mF.mpr h1,nC _<|mF.mpr h2,dm c (q:=(q:Int))<|gE<|mF.mpr h1,show (k:Int)*((n:Int)*(q:Int))=960 from congrArg Int.ofNat h,e];rfl
 have e0:(c.fdiv 3).fmod 4=((m / 3 % 4:Nat):Int):=f 3 4 80 (by decide) (by decide) (by decide);have e1:1+c.fmod 3=((1+m % 3:Nat):Int):=by rw[nC _ (by decide),<-QFy c (by decide:(3:Int)∣960),e];rfl
 have e2:(c.fdiv 12).fmod 4=((m / 12 % 4:Nat):Int):=f 12 4 20 (by decide) (by decide) (by decide);have e3:(c.fdiv 48).fmod 4=((m / 48 % 4:Nat):Int):=f 48 4 5 (by decide) (by decide) (by decide);have e4:(c.fdiv 192).fmod 5=((m / 192 % 5:Nat):Int):=f 192 5 1 (by decide) (by decide) (by decide);refine ⟨m,hm,dj ?_ rfl⟩;unfold di lG;have b0:m / 3 % 4<4:=dw _ (by decide);have b1:1+m % 3<4:=(aQ<|dw (m) (by decide:0<3))
 have b2:m / 12 % 4<4:=dw _ (by decide);have b3:m / 48 % 4<4:=dw _ (by decide);have b4:m / 192 % 5<5:=dw _ (by decide);generalize m / 3 % 4=n0 at*;generalize 1+m % 3=n1 at*;generalize m / 12 % 4=n2 at*;generalize m / 48 % 4=n3 at*;generalize m / 192 % 5=n4 at*;have q1:=PI (sP b1) b4<|sP b0;have q2:=PI (sP b3) (sP b2)<|sP b0;unfold qY;induction hf:((n1:Int)*((n4:Int) - n0)==(n3:Int)*((n2:Int) - n0)) with
 |true=>
  have:=dz Ea 1 [hi n1,hi n4,hi n0,hi n3,hi n2,hi n0,.b aB,hi n4] (aU L) [.int c] (.list [.list [.int 0,.int<|(c.fdiv 3).fmod 4],.list [.int<|1+c.fmod 3,.int<|(c.fdiv 12).fmod 4],.list [.int<|(c.fdiv 48).fmod 4,.int<|((n4:Int)+1).fmod 5]]) rfl ff (nl rfl) ff ff ff (nl rfl) ff ff (nl rfl) ff ff (nl rfl) ff (lI (w:=0) rfl (by rw[e1];rfl) rfl) (lI (w:=1) rfl (by rw[e4];rfl) rfl) (lI (w:=1) rfl (by rw[e0];rfl) rfl) q1 (lI (w:=0) rfl (by rw[e3];rfl) rfl) (lI (w:=1) rfl (by rw[e2];rfl) rfl) (lI (w:=1) rfl (by rw[e0];rfl) rfl) q2 hf (lI (w:=1) rfl (by rw[e4];rfl) rfl) ff (by decide) (by show (1:Int)<2;decide) (by show 2<2^63;decide) .ret;rw[e0,e1,e2,e3] at this;have e5:((n4:Int)+1).fmod 5=((n4+1) % 5:Nat):=by rw[nC _<|by decide];simp+arith
  rw[e5] at this;exact this
 |false=>have:=dz Ea 1 [hi n1,hi n4,hi n0,hi n3,hi n2,hi n0,.b aE] (aU L) [.int c] (.list [.list [.int 0,.int<|(c.fdiv 3).fmod 4],.list [.int<|1+c.fmod 3,.int<|(c.fdiv 12).fmod 4],.list [.int<|(c.fdiv 48).fmod 4,.int<|(c.fdiv 192).fmod 5]]) rfl ff (nl rfl) ff ff ff (nl rfl) ff ff (nl rfl) ff ff (nl rfl) ff (lI (w:=0) rfl (by rw[e1];rfl) rfl) (lI (w:=1) rfl (by rw[e4];rfl) rfl) (lI (w:=1) rfl (by rw[e0];rfl) rfl) q1 (lI (w:=0) rfl (by rw[e3];rfl) rfl) (lI (w:=1) rfl (by rw[e2];rfl) rfl) (lI (w:=1) rfl (by rw[e0];rfl) rfl) q2 hf .ret;rw[e0,e1,e2,e3,e4] at this;exact this
end B01
theorem Ln: ∀k,k<8->k=0\/k=1\/k=2\/k=3\/k=4\/k=5\/k=6\/k=7:=by decide
theorem QBz: ∀k,k<4->k=0\/k=1\/k=2\/k=3:=by decide
theorem Au {x y:Int} (h:x.natAbs<=y.natAbs):ib x<=ib y:=ny.mpr<|ig h<|ny.mp<|bh _
theorem QDX (a:Int) {b:Int} (B:b≠0):0<=a.fmod b*b/\(a.fmod b).natAbs<b.natAbs:=by
 have pos: ∀a b:Int,0<b->0<=a.fmod b*b/\(a.fmod b).natAbs<b.natAbs:=λa b h=>by have h1:=nX a h;have h2:=nW a h;exact ⟨kG h1<|bw h,Int.natAbs_lt_natAbs_of_nonneg_of_lt h1 h2⟩
 rcases Int.lt_or_lt_of_ne B with h|h
 ·have:=pos (-a) (-b) (by exact (bE h))
  rw[Int.neg_fmod_neg] at this;rw[Int.neg_mul_neg,Q6,Q6] at this;exact this
 ·exact pos a b h
theorem QAV (a:Int):(if a<0 then -a else a)=(a.natAbs:Int):=by
 split
 ·exact (xO<|bw ‹_›).symm
 ·exact (jS<|jL.mp ‹_›).symm
theorem yj {r:bQ} (a:Int):cn r .abs [.d<|.int a] (.int (a.natAbs:Nat)):=QAV a▸ .abs
namespace B01
theorem Ke (L:Nat) (l:310<=L) {a b:Int} (B:b≠0) (hn:ib b<=100000) (C:ib a<=100*ib b):(aU<|L+2).F 28 [.int a,.int b] (.list [.int<|a.fdiv b,.int ((a.fmod b).natAbs:Nat)]):=by have f:=QDX a B;have s1:ib (a.fdiv b)<=ib a:=Au<|Int.natAbs_fdiv_le_natAbs a b;have s2:ib (a.fmod b)<=ib b:=Au<|sD f.2;exact dj (dz MN 2 [.d<|.tuple [.int<|a.fdiv b,.int<|a.fmod b],.b aE,.b aE,hi ((a.fmod b).natAbs:Nat),hi (b.natAbs:Nat),.b aE,.b aE,hi ((a.fmod b).natAbs:Nat)] (aU<|L+1) [.int a,.int b] _ rfl (Ja L l B hn C) (az (iF (az s1<|az C<|gC 100 hn) hn)<|by decide) (by rw[Int.fdiv_mul_add_fmod];exact QHk a) (by exact (bD s2<|gC 2 hn)) (df<|jL.mpr f.1) (yj _) (yj _) (df<|by exact (λw0=>(fj (oL f.2) w0))) rfl (yj _) .ret) rfl
noncomputable def yz (a b:Nat):Ls:=[(0,.val<|.int a),(1,.val<|.int b)]
theorem Wq (o:bj): ∀(n b a:Nat),b<n-> ∀K,K .next (yz (AL a b) 0)-> ∃m,wW B7.w (CX.map SW.w) o m (yz a b) K:=by
 intro n;induction n with
 |zero=>exact λb a h=>QHb h<|QJ b
 |succ n ih=>
  intro b a h K k;by_cases c:b=0
  ·subst c
   exact ⟨1,mD B7 CX 0 o [.b aE] (yz a 0) K rfl (by rw[Nat.gcd_zero_right] at k;exact k)⟩
  ·have e:AL a b=AL b (a % b):=by rw[QGc a b,Nat.gcd_rec b a,QGc]
   rw[e] at k;refine aV (ih (a % b) b (by have:=dw a<|Ir c;exact (bD this h)) K k) λm q=>?_;refine ⟨m+1,mD B7 CX m o [.b aB] (yz a b) K (bne_iff_ne.mpr<|QGd.mpr c) (df<|QGd.mpr c) ?_⟩;rw[J7<|Ir c];exact q
theorem h_ (L a b:Nat):(aU<|L+1).F 32 [.int a,.int b] (.int (AL a b:Nat)):=dj (dz b_law_common 2 [.f .next (yz (AL a b) 0)] (aU L) [.int a,.int b] _ rfl (Wq (aU L) (b+1) b a<|uc b) .ret) rfl
end B01
theorem OA {x:Int} (h:x.natAbs<2^60):ib x<=60:=ny.mpr h
theorem xX {x y:Int} (h:x.natAbs<2^60) (g:y.natAbs<2^60):ib x+ib y<=134217728:=az (iF (OA h)<|OA g) (by decide)
theorem oI {x y:Int} {m n:Nat} (h:x.natAbs<=m) (g:y.natAbs<=n) (i:eX m 1000000=aB) (j:eX n 1000000=aB):ib x+ib y<=134217728:=xX (ig (az h<|bJ i)<|by decide) (ig (az g<|bJ j)<|by decide)
theorem gH {x y:Int} (h:x.natAbs<=m) (g:y.natAbs<=n):(x - y).natAbs<=m+n:=az (Int.natAbs_sub_le x y)<|iF h g
theorem wU {p q:Int} (h:p.natAbs<=m) (g:q.natAbs<=n):(p*q).natAbs<=m*n:=by rw[Iu];exact Cu h g
namespace B01
noncomputable def aw (p:Int×Int):Dat:=.list [.int p.1,.int p.2]
theorem iV {r:bQ} (p:Int×Int):cC r (.d<|aw p) 0 (.int p.1):=.seq (.l .d) (by show (2:Int)<2^63;decide) (rfl:_=aA 0) rfl
theorem cK {r:bQ} (p:Int×Int):cC r (.d<|aw p) 1 (.int p.2):=.seq (.l .d) (by show (2:Int)<2^63;decide) (rfl:_=aA 1) rfl
noncomputable def p0 (t:bx):Int×Int:=(0,t.y0)
noncomputable def p1 (t:bx):Int×Int:=(t.x1,t.y1)
noncomputable def p2 (t:bx):Int×Int:=(t.x2,t.y2)
noncomputable def hj (p:Int×Int):Prop:=p.1.natAbs<=10/\p.2.natAbs<=10
structure l5 (t:bx):Prop where
 a:hj (p0 t)
 b:hj (p1 t)
 c:hj (p2 t)
theorem Za {m:Nat}:l5 (lG m):=by
 have h0:m / 3 % 4<4:=dw _ (by decide);have h2:m / 12 % 4<4:=dw _ (by decide);have h3:m / 48 % 4<4:=dw _ (by decide);have h4:m / 192 % 5<5:=dw _ (by decide)
 have h5:(lG m).y2<5:=by
  unfold lG;dsimp only;cases qY (1+m % 3) (m / 12 % 4) (m / 48 % 4) (m / 192 % 5) (m / 3 % 4)
  ·exact h4
  ·exact dw _ (by decide)
 exact ⟨⟨by show (0:Int).natAbs<=10;decide,by show ((m / 3 % 4:Nat):Int).natAbs<=10;exact (oM<|bG (iL<|jS ((bE<|oZ<|m / 3 % 4):0<=(↑(m / 3 % 4):Int)))<|oL h0)⟩,⟨by show ((1+m % 3:Nat):Int).natAbs<=10;exact (oM<|bG (iL<|jS ((bE<|oZ<|1+m % 3):0<=(↑(1+m % 3):Int)))<|oL<|dw (m) (by decide:0<3)),by show ((m / 12 % 4:Nat):Int).natAbs<=10;exact (oM<|bG (iL<|jS ((bE<|oZ<|m / 12 % 4):0<=(↑(m / 12 % 4):Int)))<|oL h2)⟩,⟨by show ((m / 48 % 4:Nat):Int).natAbs<=10;exact (oM<|bG (iL<|jS ((bE<|oZ<|m / 48 % 4):0<=(↑(m / 48 % 4):Int)))<|oL h3),by show (((lG m).y2:Nat):Int).natAbs<=10;exact (oM<|bG (iL<|jS ((bE<|oZ<|(lG m).y2):0<=(↑(lG m).y2:Int)))<|oL h5)⟩⟩
noncomputable def fb (t:bx):Int:=if (p1 t).1*((p2 t).2 - (p0 t).2)<(p2 t).1*((p1 t).2 - (p0 t).2) then -1 else 1
noncomputable def ev (u:Int) (a b:Int×Int) (x y:Int):Int:=u*((b.1 - a.1)*(y - a.2) - (b.2 - a.2)*(x - a.1))
noncomputable def mi (t:bx) (x y:Int):Int:=Ar (ev (fb t) (p0 t) (p1 t) x y) [ev (fb t) (p1 t) (p2 t) x y,ev (fb t) (p2 t) (p0 t) x y]
noncomputable def og (t:bx) (x y:Nat):List Nat:=(if 0<=mi t x y then [y] else [])++(if 0<mi t x y then [4+y] else [])
noncomputable def eV (t:bx) (x:Nat):List Nat:=(bg 5).flatMap<|og t x
noncomputable def Dp:EW:=.aH .Mult (.aC 3)<|.aH .Sub (.aH .Mult (.aH .Sub (.au (.aC 202)<|.int 0)<|.au (.aC 201)<|.int 0)<|.aH .Sub (.aC 5)<|.au (.aC 201)<|.int 1)<|.aH .Mult (.aH .Sub (.au (.aC 202)<|.int 1)<|.au (.aC 201)<|.int 1)<|.aH .Sub (.aC 1)<|.au (.aC 201)<|.int 0
noncomputable def wC (a b:Int×Int):Dat:=.tuple [aw a,aw b]
noncomputable def EO (t:bx):List Dat:=[wC (p0 t)<|p1 t,wC (p1 t)<|p2 t,wC (p2 t)<|p0 t]
noncomputable def ku (t:bx) (x:Nat) (bs:List Nat) (s5 s6:Sl):Ls:=[(2,.val<|.list<|EO t),(3,.val<|.int<|fb t),(4,.own<|bs.map λ(n:Nat)=>cB n),(5,s5),(6,s6),(0,.val<|di t),(1,.val<|.int x)]
noncomputable def HO (l:Ls) (y:Int):Ls:=nq (.tup [201,202])<|oR<|cL l 5<|.val<|.int y
theorem Yn {u x y:Int} {a b:Int×Int} (hu:u=1\/u= -1) (A:hj a) (B:hj b) (hx:x.natAbs<=10) (hy:y.natAbs<=10):
 (ib (b.1 - a.1)+ib (y - a.2)<=134217728)/\(ib (b.2 - a.2)+ib (x - a.1)<=134217728)/\(ib u+ib ((b.1 - a.1)*(y - a.2) - (b.2 - a.2)*(x - a.1))<=134217728):=by
 have A1:=A.1;have A2:=A.2;have B1:=B.1;have B2:=B.2;have s1:((b.1 - a.1)*(y - a.2)).natAbs<=(10+10)*(10+10):=wU (gH B1 A1)<|gH hy A2;have s2:((b.2 - a.2)*(x - a.1)).natAbs<=(10+10)*(10+10):=wU (gH B2 A2)<|gH hx A1;exact ⟨oI (gH B1 A1) (gH hy A2) rfl rfl,oI (gH B2 A2) (gH hx A1) rfl rfl,oI (m:=1) (by rcases hu with rfl|rfl<;>decide) (gH s1 s2) rfl rfl⟩
theorem E7 (o:bj) {t:bx} {x y:Nat} {bs:List Nat} {s5 s6:Sl} {a b:Int×Int} (hu:fb t=1\/fb t= -1) (A:hj a) (B:hj b) (hx:x<=10) (hy:y<=10):CE Dp.w (.tup [201,202]) [] o (HO (ku t x bs s5 s6) y) (wC a b) (aA<|.int<|ev (fb t) a b x y):=λR K h=>by have q:=Yn (x:=x) (y:=y) hu A B (by exact (oM<|bG (iL<|jS ((bE<|oZ<|x):0<=(↑x:Int)))<|oL hx)) (by exact (oM<|bG (iL<|jS ((bE<|oZ<|y):0<=(↑y:Int)))<|oL hy));exact fN Dp (.tup [201,202]) [] o [.b aB,hi b.1,hi a.1,hi a.2,hi b.2,hi a.2,hi a.1] (HO (ku t x bs s5 s6) y) (wC a b) R K rfl tt (iV b) (iV a) (cK a) q.1 (cK b) (cK a) (iV a) q.2.1 q.2.2 rfl h
theorem E3 (t:bx):fb t=1\/fb t= -1:=by unfold fb;split;exact .inr rfl;exact .inl rfl
theorem Zb (o:bj) {t:bx} (T:l5 t) {x y:Nat} {bs:List Nat} {s5 s6:Sl} (hx:x<=10) (hy:y<=10) (K:List aK->Prop) (h:K ([ev (fb t) (p0 t) (p1 t) x y,ev (fb t) (p1 t) (p2 t) x y,ev (fb t) (p2 t) (p0 t) x y].map .int)):cW Dp.w (.tup [201,202]) [] o (HO (ku t x bs s5 s6) y) (EO t) K:=E7 o (E3 t) T.a T.b hx hy _ _<|E7 o (E3 t) T.b T.c hx hy _ _<|E7 o (E3 t) T.c T.a hx hy _ _ h
theorem Dc {r:bQ} (t:bx) (x y:Int):cn r .kZ [.d<|.list<|[ev (fb t) (p0 t) (p1 t) x y,ev (fb t) (p1 t) (p2 t) x y,ev (fb t) (p2 t) (p0 t) x y].map .int] (.int<|mi t x y):=.kZ (a:=ev (fb t) (p0 t) (p1 t) x y) (ns:=[ev (fb t) (p1 t) (p2 t) x y,ev (fb t) (p2 t) (p0 t) x y]) .d
noncomputable def BH (t:bx) (x y:Int):List Dat:=[ev (fb t) (p0 t) (p1 t) x y,ev (fb t) (p1 t) (p2 t) x y,ev (fb t) (p2 t) (p0 t) x y].map .int
theorem ym (o:bj) {t:bx} (T:l5 t) {x y:Nat} {bs:List Nat} {s5 s6:Sl} (hx:x<=10) (hy:y<=10) (hb:bs.length<=100) {xs:List aK} {K:Fl->Ls->Prop} (h:fW (.one 5) (tR.map SW.w) o xs (ku t x (bs++og t x y) (.val<|.int y)<|.val<|.int<|mi t x y) K):
 fW (.one 5) (tR.map SW.w) o (.int (y:Nat)::xs) (ku t x bs s5 s6) K:=by
 have w:=λ(K:List aK->Prop) (h:K (BH t x y))=>Zb o T (bs:=bs) (s5:=s5) (s6:=s6) hx hy K h;have l3:(EO t).length<=16777216:=by show 3<=16777216;decide
 have lb:(bs.map λ(n:Nat)=>cB n).length<16777216:=by rw[dY];exact (aQ hb)
 unfold og at h;by_cases a:0<=mi t x y
 ·rw[if_pos a] at h
  by_cases b:0<mi t x y
  ·rw[if_pos b] at h
   have e:(bs++([y]++[4+y])).map (λ(n:Nat)=>cB n)=(bs.map λ(n:Nat)=>cB n)++[cB y]++[cB<|4+(y:Int)]:=by simp
   unfold ku at h;rw[e] at h;have lc:((bs.map λ(n:Nat)=>cB n)++[cB (y:Int)]).length<16777216:=by rw[du,dY];show bs.length+1<_;exact (aQ hb)
   exact fx (.one 5) tR o [.ds<|BH t x y,hi<|mi t x y,.b aB,.b aB] (.int y) xs (ku t x bs s5 s6) K l3 w (Dc t x y) (dt a) lb (dt b) lc h
  ·rw[if_neg b,eZ] at h
   unfold ku at h;rw[gp] at h;exact fx (.one 5) tR o [.ds<|BH t x y,hi<|mi t x y,.b aB,.b aE] (.int y) xs (ku t x bs s5 s6) K l3 w (Dc t x y) (dt a) lb (df b) h
 ·have b: ¬ 0<mi t x y:=λq=>a (bw q)
  rw[if_neg a,if_neg b,eZ,eZ] at h;exact fx (.one 5) tR o [.ds<|BH t x y,hi<|mi t x y,.b aE,.b aE] (.int y) xs (ku t x bs s5 s6) K l3 w (Dc t x y) (df a) (df b) h
theorem Tf (t:bx) (x y:Nat):(og t x y).length<=2:=by unfold og;split<;>split<;>simp
theorem QDA (o:bj) {t:bx} (T:l5 t) {x:Nat} (hx:x<=10) (K:Fl->Ls->Prop) (h:K .next (ku t x (eV t x) (.val<|.int (4:Nat))<|.val<|.int<|mi t x (4:Nat))):fW (.one 5) (tR.map SW.w) o ((bg 5).map λ(i:Nat)=>cB (i:Int)) (ku t x [] .unb .unb) K:=by
 have l:=Tf t x;have l0:=l 0;have l1:=l 1;have l2:=l 2;have l3:=l 3;refine ym o T hx (y:=0) (by decide) (by decide) (ym o T hx (y:=1) (by decide) (by simp only[du,um];exact (aQ l0))<|ym o T hx (y:=2) (by decide) (by simp only[du,um];exact (bD l0 l1))<|ym o T hx (y:=3) (by decide) (by simp only[du,um];exact (bD (na l0 l1) l2))<|ym o T hx (y:=4) (by decide) (by simp only[du,um];exact (bD (na l0 l1)<|na l2 l3)) ?_);have e:[]++og t x 0++og t x 1++og t x 2++og t x 3++og t x 4=eV t x:=by unfold eV;simp[List.range_succ]
 rw[e];exact h
theorem L9 {r:bQ} (t:bx):cC r (.d<|di t) 0 (aw<|p0 t)/\cC r (.d<|di t) 1 (aw<|p1 t)/\cC r (.d<|di t) 2 (aw<|p2 t):=⟨.seq (.l .d) (by show (3:Int)<2^63;decide) (rfl:_=aA 0) rfl,.seq (.l .d) (by show (3:Int)<2^63;decide) (rfl:_=aA 1) rfl,.seq (.l .d) (by show (3:Int)<2^63;decide) (rfl:_=aA 2) rfl⟩
theorem YZ (L:Nat) {t:bx} (T:l5 t) {x:Nat} (hx:x<=10):(aU<|L+1).F 30 [di t,.int x] (.list<|(eV t x).map λ(n:Nat)=>cB n):=by
 have A1:=T.a.2;have B1:=T.b.1;have B2:=T.b.2;have C1:=T.c.1;have C2:=T.c.2;have q1:ib (p1 t).1+ib ((p2 t).2 - (p0 t).2)<=134217728:=oI B1 (gH C2 T.a.2) rfl rfl;have q2:ib (p2 t).1+ib ((p1 t).2 - (p0 t).2)<=134217728:=oI C1 (gH B2 T.a.2) rfl rfl;have j:=λr=>L9 (r:=r) t;have k:=λK h=>QDA (aU L) T hx K h;unfold ku fb at k;by_cases c:(p1 t).1*((p2 t).2 - (p0 t).2)<(p2 t).1*((p1 t).2 - (p0 t).2)
 ·rw[if_pos c] at k
  exact dj (rE b_law_bare 2 [2,3,4,5,6] [.d<|aw<|p0 t,.d<|aw<|p1 t,.d<|aw<|p1 t,.d<|aw<|p2 t,.d<|aw<|p2 t,.d<|aw<|p0 t,.d<|aw<|p1 t,hi (p1 t).1,.d<|aw<|p2 t,hi (p2 t).2,.d<|aw<|p0 t,hi (p0 t).2,.d<|aw<|p2 t,hi (p2 t).1,.d<|aw<|p1 t,hi (p1 t).2,.d<|aw<|p0 t,hi (p0 t).2,.b aB,.f .next _] (aU L) [di t,.int x] _ rfl (j _).1 (j _).2.1 (j _).2.1 (j _).2.2 (j _).2.2 (j _).1 (j _).2.1 (iV _) (j _).2.2 (cK _) (j _).1 (cK _) q1 (j _).2.2 (iV _) (j _).2.1 (cK _) (j _).1 (cK _) q2 (dt c) tt k .ret) rfl
 ·rw[if_neg c] at k
  exact dj (rE b_law_bare 2 [2,3,4,5,6] [.d<|aw<|p0 t,.d<|aw<|p1 t,.d<|aw<|p1 t,.d<|aw<|p2 t,.d<|aw<|p2 t,.d<|aw<|p0 t,.d<|aw<|p1 t,hi (p1 t).1,.d<|aw<|p2 t,hi (p2 t).2,.d<|aw<|p0 t,hi (p0 t).2,.d<|aw<|p2 t,hi (p2 t).1,.d<|aw<|p1 t,hi (p1 t).2,.d<|aw<|p0 t,hi (p0 t).2,.b aE,.f .next _] (aU L) [di t,.int x] _ rfl (j _).1 (j _).2.1 (j _).2.1 (j _).2.2 (j _).2.2 (j _).1 (j _).2.1 (iV _) (j _).2.2 (cK _) (j _).1 (cK _) q1 (j _).2.2 (iV _) (j _).2.1 (cK _) (j _).1 (cK _) q2 (df c) tt k .ret) rfl
end B01
section
open PySem.StrLaws
namespace B01
theorem HX (L:Nat) {k v:Nat} {x:aG} (b:gL.contains (k:Int)=aE) (m:lA k=x) (hx:x.length<=1000) (hv:v<27):(aU<|L+2).F 17 [.str ⟨#[k,cm v]⟩] (.str x):=by
 have t:(nI ⟨#[k,cm v]⟩).filterMap rp=[x].map .str:=by show QGe rp [ma k,ma<|cm v]=_;rw[nP,BI b m,nP,FO (rN v hv).1];rfl
 exact NH L (bJ rfl) t (FL hx<|by decide)
noncomputable def gD (g:Nat->Nat->Nat):Dat:=.list [aw ((g 0 0:Nat),(g 0 1:Nat)),aw ((g 1 0:Nat),(g 1 1:Nat)),aw ((g 2 0:Nat),(g 2 1:Nat))]
noncomputable def fA:List Nat:=[112,110,109]
noncomputable def j6:List Nat:=[80,78,77]
noncomputable def kO (t i:Nat):Str:=if t % 2=1 then ⟨#[j6.getD i 0]⟩ else ⟨#[fA.getD i 0]⟩
theorem CD: ∀i,i<3->fA.getD i 0∈tZ/\Txt.upper ⟨#[fA.getD i 0]⟩=⟨#[j6.getD i 0]⟩/\gO aB ⟨#[j6.getD i 0]⟩=aB/\gO aB ⟨#[fA.getD i 0]⟩=aB/\ #[112,110,109][i]?=aA (fA.getD i 0)/\ #[80,78,77][i]?=aA (j6.getD i 0)/\cH ⟨#[j6.getD i 0]⟩=⟨#[fA.getD i 0]⟩/\cH ⟨#[fA.getD i 0]⟩=⟨#[fA.getD i 0]⟩:=by decide+kernel
noncomputable def tC (C:aK) (c:Int) (n:Nat) (ps:List (aG×aG)) (w6 w7 w8 w9 w10:Sl):Ls:=[(2,.ali aT),(3,.inst),(4,.own<|dV n .none),(5,.own<|ps.map hP),(6,w6),(7,w7),(8,w8),(9,w9),(10,w10),(11,.unb),(0,.val C),(1,.val<|.int c),(aT,.own<|ps.map hP),(bR,.emp)]
theorem UC (g:Nat->Nat->Nat): ∀i:Nat,i<3-> ∀r,cC r (.d<|gD g) (i:Int) (aw ((g i 0:Nat),(g i 1:Nat)))
 |0,_,r=>.seq (.l .d) (by show (3:Int)<2^63;decide) (rfl:_=aA 0) rfl
 |1,_,r=>.seq (.l .d) (by show (3:Int)<2^63;decide) (rfl:_=aA 1) rfl
 |2,_,r=>.seq (.l .d) (by show (3:Int)<2^63;decide) (rfl:_=aA 2) rfl
 |n+3,h,_=>QHb h λK=>ky K
theorem Rw (a:Nat->Nat): ∀j:Nat,j<2-> ∀r,cC r (.d<|aw ((a 0:Nat),(a 1:Nat))) (j:Int) (.int<|a j)
 |0,_,r=>iV _
 |1,_,r=>cK _
 |n+2,h,_=>QHb h λK=>ky K
theorem QDK (L:Nat) {g:Nat->Nat->Nat} (hg: ∀i j,g i j<10^10) {c:Int} {z s:Nat} (hz:(c.fdiv 3).fmod 3=z) (hs:s<3) (ks: ∀r,cC r (.d<|.list [.int 1,.int 2]) ((c.fdiv 9).fmod 2)<|.int s) (t:Nat) (ht6:t<6):
 ∃bl,bl∈[[],[32],[9],[9,32]]/\ ∀n (ps:List (aG×aG)) w6 w7 w8 w9 w10 xs K,n<=100->ps.length<=100->fW (.one 6) (zG.map SW.w) (aU<|L+3) xs (tC (gD g) c (n+1) (ps++[(kO t<|(z+s*t) % 3,eF (g ((z+s*t) % 3)<|t / 3) bl)]) (.val<|.int t) (.val<|.int ((z+s*t) % 3:Nat)) (.val<|.str<|kO t<|(z+s*t) % 3) (.val<|.str<|eF (g ((z+s*t) % 3)<|t / 3) bl)<|.val<|.str<|kO t<|(z+s*t) % 3) K->
  fW (.one 6) (zG.map SW.w) (aU<|L+3) (.int t::xs) (tC (gD g) c n ps w6 w7 w8 w9 w10) K:=by
 have ez:(c.fdiv 3+(s:Int)*t).fmod 3=(((z+s*t) % 3:Nat):Int):=by rw[nC _<|by decide] at hz⊢;rw[<-DV,hz];rfl
 have hi3:(z+s*t) % 3<3:=dw _ (by decide);have st:(s:Int).natAbs<2^60/\(t:Int).natAbs<2^60:=⟨sF hs (by decide),sF ht6<|by decide⟩;have td:(t:Int).fdiv 3=((t / 3:Nat):Int):=QAo (n:=3) (by decide);have tm:(t:Int).fmod 2=((t % 2:Nat):Int):=J7 (n:=2) (by decide);generalize (z+s*t) % 3=i at*;refine QCa (CD i hi3) λs1 s2 s3 s4 s5 s6 _ _=>?_;refine aS (kY (c.fdiv 18+t) (n:=12)<|by decide) λw hw ew=>?_;refine aS (kY (c.fdiv 216+t) (n:=27)<|by decide) λv hv ev=>?_;refine aS (kY (c+t) (n:=4)<|by decide) λb hb eb=>?_;refine aS (F_ hb) λbl B eB=>?_;have kl:=HL _ s1;refine eN (Cj _ s1 w hw) λf1 f2 f3=>?_;have tx:=QDQ (hg i<|t / 3) B;have p17:=HX (L+1) (v:=v) f1 f2 (show 1<=1000 by decide) hv;refine ⟨bl,B,λn ps w6 w7 w8 w9 w10 xs K hn hp h=>?_⟩;have e7: ∀r,cC r (.d<|.str ⟨#[112,110,109]⟩) ((c.fdiv 3+(s:Int)*t).fmod 3)<|.str ⟨#[fA.getD i 0]⟩:=λr=>AZ s5 ez (by decide);have e17: ∀r,cC r (.d<|gD g) ((c.fdiv 3+(s:Int)*t).fmod 3)<|aw ((g i 0:Nat),(g i 1:Nat)):=λr=>ez▸UC g i hi3 r;have e20: ∀r,cC r (.d<|aw ((g i 0:Nat),(g i 1:Nat))) ((t:Int).fdiv 3)<|.int<|g i<|t / 3:=λr=>td▸Rw (g i) (t / 3) (Nat.div_lt_of_lt_mul ht6) r;have e21: ∀r,cn r .rv [.d<|.int<|g i<|t / 3]<|.str ⟨(dC<|g i<|t / 3).toArray⟩:=λr=>NP _▸ .rv (by have:=hg i<|t / 3;exact (oM<|bG (iL<|jS ((bE<|oZ<|g i<|t / 3):0<=(↑(g i<|t / 3):Int)))<|oL this));have e22: ∀r,fe r .Add (.d<|.str ⟨#[48,95]⟩) (.d<|.str ⟨(dC<|g i<|t / 3).toArray⟩)<|.str ⟨([48,95]++dC (g i<|t / 3)).toArray⟩:=λr=>rJ (x:=[48,95]) (by have:=(Bc<|hg i<|t / 3).2.2.1;show 2+_<=_;exact (aQ this));have e24: ∀r,cC r (.d<|.list FN) ((c+t).fmod 4)<|.str ⟨bl.toArray⟩:=λr=>dH eB eb (by decide);have e25: ∀r,fe r .Add (.d<|.str ⟨([48,95]++dC (g i<|t / 3)).toArray⟩) (.d<|.str ⟨bl.toArray⟩)<|.str<|eF (g i<|t / 3) bl:=λr=>rJ (by have h1:=tx.1;unfold eF at h1;have:(([48,95]++dC (g i<|t / 3)++bl).toArray).size<=100:=h1;rw[gm,du] at this;exact (aQ this));have ad:=λnm (o:gO aB nm=aB)=>Fh (L+2) (hs:=ps.map hP) (nm:=nm) (tx:=eF (g i<|t / 3) bl) (by rw[dY];exact (aQ hp)) (az tx.1<|by decide) o tx.2;have ib5:ib (s:Int)+ib (t:Int)<=134217728:=xX st.1 st.2;have ln:(dV n Dat.none).length<16777216:=by rw[AI];exact (aQ hn)
 have lp:(ps.map hP).length<16777216:=by rw[dY];exact (aQ hp)
 rcases Nat.mod_two_eq_zero_or_one t with q|q
 ·have en:kO t i=⟨#[fA.getD i 0]⟩:=QHc (by exact (λw0=>(cY (nR w0)<|nL q)))
  rw[en] at h;unfold tC at h;rw[QGf,gp,<-ez] at h;exact fx (.one 6) zG _ [hi s,ht ⟨#[fA.getD i 0]⟩,ht _,ht _,ht _,ht _,.d _,hi _,ht _,ht _,ht _,ht _,ht _,.b aE,.h .none _] (.int t) xs (tC (gD g) c n ps w6 w7 w8 w9 w10) K ff (nl rfl) ff (nl rfl) ff (ks _) ib5 ff (e7 _) ff (nl rfl) (EF (L+2) kl.1 kl.2 ew hw) ff (nl rfl) (AQ (L+2) ev hv) (oj rfl rfl) p17 (e17 _) ff (nl rfl) (e20 _) (e21 _) (e22 _) ff (e24 _) (e25 _) (e7 _) ff (by rw[tm,q];rfl) (ad _ s4) ln lp h
 ·have en:kO t i=⟨#[j6.getD i 0]⟩:=QHd q
  rw[en] at h;unfold tC at h;rw[QGf,gp,<-ez] at h;have up: ∀r,jC r .upper (.d<|.str ⟨#[fA.getD i 0]⟩) []<|.str ⟨#[j6.getD i 0]⟩:=λr=>s2▸ .upper (by show 1<=_;decide);exact fx (.one 6) zG _ [hi s,ht ⟨#[fA.getD i 0]⟩,ht _,ht _,ht _,ht _,.d _,hi _,ht _,ht _,ht _,ht _,ht _,.b aB,ht _,ht _,.h .none _] (.int t) xs (tC (gD g) c n ps w6 w7 w8 w9 w10) K ff (nl rfl) ff (nl rfl) ff (ks _) ib5 ff (e7 _) ff (nl rfl) (EF (L+2) kl.1 kl.2 ew hw) ff (nl rfl) (AQ (L+2) ev hv) (oj rfl rfl) p17 (e17 _) ff (nl rfl) (e20 _) (e21 _) (e22 _) ff (e24 _) (e25 _) (e7 _) ff (by rw[tm,q];rfl) (up _) (up _) (ad _ s3) ln lp h
noncomputable def mz (C:aK) (c:Int) (ps:List (aG×aG)) (w6 w7 w8 w9 w10 w11:Sl):Ls:=[(2,.ali aT),(3,.inst),(4,.own<|dV 8 .none),(5,.own<|ps.map hP),(6,w6),(7,w7),(8,w8),(9,w9),(10,w10),(11,w11),(0,.val C),(1,.val<|.int c),(aT,.own<|ps.map hP),(bR,.emp)]
noncomputable def zR (l:Ls) (d:aK):Ls:=nq (.one 401)<|oR<|cL (gI l) 201<|.val d
section
variable {o:bj} {C:aK} {c:Int} {ps:List (aG×aG)} {a6 a7 a8 a9 a10 a11:aK}
theorem Ge {d u:aK} (h:o.R 1 [d] (ps.map hP) u):CE (EW.jX 1 Fb [cR]).w eE [] o (gI<|mz C c ps (.val a6) (.val a7) (.val a8) (.val a9) (.val a10) .unb) d (aA u):=λR K k=>fN (.jX 1 Fb [cR]) eE [] o [.b aB,.d u,.d u] (gI<|mz C c ps (.val a6) (.val a7) (.val a8) (.val a9) (.val a10) .unb) d R K rfl tt h rfl k
theorem ZF (hs:zA ps) {x:aG} (K:List aK->Prop) (h:K ((ps.filter λp=>cH p.1==x).map λp=>.str p.2)):cW (EW.au kP<|.int 1).w qM [(TW.cmp .Eq (.sm .lower (.au kP<|.int 0) []) cR).w] o (zR (mz C c ps (.val a6) (.val a7) (.val a8) (.val a9) (.val a10)<|.val a11)<|.str x) (ps.map hP) K:=by
 rw[<-Fu] at h;refine Gz (λp P R K h=>?_) K h;have y:=hs p P;induction q:cH p.1==x with
 |true=>rw[q] at h;exact fN (.au kP<|.int 1) qM [.cmp .Eq (.sm .lower (.au kP<|.int 0) []) cR] o [ht p.1,ht<|cH p.1,.b aB,.b aB,.b aB,ht p.2] (zR (mz C c ps (.val a6) (.val a7) (.val a8) (.val a9) (.val a10)<|.val a11)<|.str x) (hP p) R K vF (qy y) (CO aB q) tt rfl tt Ko rfl h
 |false=>rw[q] at h;exact fN (.au kP<|.int 1) qM [.cmp .Eq (.sm .lower (.au kP<|.int 0) []) cR] o [ht p.1,ht<|cH p.1,.b aE,.b aE,.b aE] (zR (mz C c ps (.val a6) (.val a7) (.val a8) (.val a9) (.val a10)<|.val a11)<|.str x) (hP p) R K vF (qy y) (CO aE q) ff rfl ff h
theorem DY (hs:zA ps) (hl:ps.length<=1000) {x:aG} {V:List aK} (e:(ps.filter λp=>cH p.1==x).map (λp=>sJ p.2)=V):CE (EW.comp (.au kP<|.int 1) qM (.aC 5) [.cmp .Eq (.sm .lower (.au kP<|.int 0) []) cR]).w eE [] o (gI<|mz C c ps (.val a6) (.val a7) (.val a8) (.val a9) (.val a10)<|.val a11) (.str x) (aA<|.list V):=λR K k=>fN (.comp (.au kP<|.int 1) qM (.aC 5) [.cmp .Eq (.sm .lower (.au kP<|.int 0) []) cR]) eE [] o [.b aB,.ds V,.d<|.list V] (gI<|mz C c ps (.val a6) (.val a7) (.val a8) (.val a9) (.val a10)<|.val a11) (.str x) R K rfl tt (by rw[dY];exact (aQ hl)) (λK h=>ZF hs K<|e.symm▸h) rfl k
theorem L4 {x:aG} {n:Int} {V:aK} (h:o.F 2 [.str x] (.int n)):CE (RB 2 [kP]).w qM [] o (zR (mz C c ps (.val a6) (.val a7) (.val a8) (.val a9) (.val a10)<|.val a11) V) (.str x) (aA<|.int n):=λR K k=>fN (.call 2 [kP]) qM [] o [.b aB,hi n,hi n] (zR (mz C c ps (.val a6) (.val a7) (.val a8) (.val a9) (.val a10)<|.val a11) V) (.str x) R K rfl tt h rfl k
theorem Eh {x y:aG} {n m:Int} (h:o.F 2 [.str x] (.int n)) (g:o.F 2 [.str y] (.int m)):CE (EW.comp (.call 2 [kP]) qM (.aC 201) []).w eE [] o (gI<|mz C c ps (.val a6) (.val a7) (.val a8) (.val a9) (.val a10)<|.val a11) (.list [.str x,.str y]) (aA<|.list [.int n,.int m]):=λR K k=>fN (.comp (.call 2 [kP]) qM (.aC 201) []) eE [] o [.b aB,.ds [.int n,.int m],.d<|.list [.int n,.int m]] (gI<|mz C c ps (.val a6) (.val a7) (.val a8) (.val a9) (.val a10)<|.val a11) (.list [.str x,.str y]) R K rfl tt (by show 2<=16777216;decide) (λK q=>L4 (V:=.list [.str x,.str y]) h [.str y] K<|L4 (V:=.list [.str x,.str y]) g [] _ q) rfl k
end
noncomputable def nB (g:Nat->Nat->Nat) (z s:Nat) (bl:Nat->List Nat):List (aG×aG):=(⟨#[109,112]⟩,⟨#[]⟩)::(bg 6).map λt=>(kO t<|(z+s*t) % 3,eF (g ((z+s*t) % 3)<|t / 3)<|bl t)
theorem chs {P:Nat->List Nat->Prop} (T: ∀t,t<6-> ∃b,P t b): ∃f:Nat->List Nat,∀t,t<6->P t (f t):=⟨λt=>if h:t<6 then QGg (T t h) else [],λt h=>by dsimp only;rw[dif_pos h];exact QGh<|T t h⟩
theorem XO: ∀z,z<3-> ∀s,s<3->s=0\/ ∀i,i<3->s*(i+3 - z) % 3<3/\(bg 6).filter (λt=>(z+s*t) % 3==i)=[s*(i+3 - z) % 3,s*(i+3 - z) % 3+3]/\(z+s*(s*(i+3 - z) % 3)) % 3=i/\(z+s*(s*(i+3 - z) % 3+3)) % 3=i:=by decide+kernel
theorem XY: ∀i,i<3-> ∀j,j<3->((⟨#[fA.getD i 0]⟩:aG)==⟨#[fA.getD j 0]⟩)=(i==j):=by decide+kernel
theorem Jo: ∀j,j<3->(cH ⟨#[109,112]⟩==⟨#[fA.getD j 0]⟩)=false:=by decide+kernel
theorem QBF (t:Nat) {i:Nat} (h:i<3):cH (kO t i)=⟨#[fA.getD i 0]⟩:=by
 unfold kO
 split
 ·exact (CD i h).2.2.2.2.2.2.1
 ·exact (CD i h).2.2.2.2.2.2.2
theorem N_ (g:Nat->Nat->Nat) {z s:Nat} (hz:z<3) (hs:s<3) (h0:0<s) (bl:Nat->List Nat) {i:Nat} (hi:i<3): ∃a,a<3/\((nB g z s bl).filter λp=>cH p.1==⟨#[fA.getD i 0]⟩).map (λp=>sJ p.2)=[.str<|eF (g i 0)<|bl a,.str<|eF (g i 1)<|bl<|a+3]:=by
 refine j5 (((XO z hz s hs).resolve_left<|by exact (λw0=>(cY h0<|nL w0))) i hi) λha e e1 e2=>?_;generalize s*(i+3 - z) % 3=a at*;refine ⟨a,ha,?_⟩;unfold nB;rw[xP,if_neg (by rw[Jo i hi];exact nofun),QGi];have:((λp:aG×aG=>cH p.1==⟨#[fA.getD i 0]⟩)∘λt=>(kO t<|(z+s*t) % 3,eF (g ((z+s*t) % 3)<|t / 3)<|bl t))=λt=>(z+s*t) % 3==i:=funext λt=>by show (cH (kO t<|(z+s*t) % 3)==_)=_;rw[QBF t (dw _<|by decide),XY _ (dw _<|by decide) i hi]
 rw[this,e,gB,gB,gB,gB,jq,jq,e1,e2,Nat.add_div_right a (by decide:0<3),Qw ha]
theorem r_ {x:aG} (h: ∀c∈x.cps.toList,c<128):mY x=true:=by unfold mY;rw[<-QGa,dq];intro c C;have:=h c C;simp;exact (aQ this)
theorem Ut (hn:n<10^10) (hb:bl∈[[],[32],[9],[9,32]]):mY (eF n bl)=true:=r_ λc C=>by
 have C:c∈[48,95]++dC n++bl:=by simpa[eF] using C
 rcases qn.mp C with C|C
 ·rcases qn.mp C with C|C
  ·simp at C
   exact (C.elim (λu1=>(aQ<|nL u1)) λu1=>(aQ<|nL u1))
  ·have:=(Bc hn).1 c C
   exact (aQ this.2)
 ·simp only[bp,gU,or_false] at hb
  exact (by decide: ∀b∈[[],[32],[9],[9,32]],∀c∈b,c<128) bl (by simpa using hb) c C
theorem Ki: ∀i,i<3->mY ⟨#[j6.getD i 0]⟩=aB/\mY ⟨#[fA.getD i 0]⟩=true:=by decide+kernel
theorem Ft {x y:aG} (hx:mY x=aB) (hy:mY y=aB):fP 8 (.list [.str x,.str y])=true:=by simp[fP,hx,hy]
theorem QCF (L:Nat) {g:Nat->Nat->Nat} (hg: ∀i j,g i j<10^10) (c:Int):(aU<|L+4).F 19 [gD g,.int c] (gD g):=by
 refine aS (kY (c.fdiv 3) (n:=3)<|by decide) λz hz ez=>?_;refine aS (kY c (n:=3)<|by decide) λq hq eq=>?_
 refine dA (by
  obtain ⟨w,hw,ew⟩:=kY (c.fdiv 9) (n:=2) (by decide);rcases (by exact ((Ip _).imp_right λo0=>(jk (aQ hw)<|aQ<|Ir o0)):w=0\/w=1) with e|e<;>subst e
  ·exact ⟨1,by decide,by decide,λr=>dH rfl ew (by decide)⟩
  ·exact ⟨2,by decide,by decide,λr=>dH rfl ew (by decide)⟩: ∃s:Nat,s<3/\0<s/\ ∀r,cC r (.d<|.list [.int 1,.int 2]) ((c.fdiv 9).fmod 2)<|.int s) λs hs h0 ks=>?_
 have T:=QDK L hg ez hs ks;refine aV (chs T) λbl BT=>?_;have B': ∀t,t<6->bl t∈[[],[32],[9],[9,32]]:=λt h=>(BT t h).1;have T:=λt h=>(BT t h).2;have sf:=CD q hq;have a0:=Fh (L+2) (hs:=[hP (⟨#[109,112]⟩,⟨#[]⟩)]) (nm:=⟨#[j6.getD q 0]⟩) (tx:=⟨#[57]⟩) (bJ rfl) (bJ rfl) sf.2.2.1 (by decide+kernel);have a1:=Fh (L+2) (hs:=[hP (⟨#[109,112]⟩,⟨#[]⟩)]++[.tuple [.str ⟨#[j6.getD q 0]⟩,.str ⟨#[57]⟩]]) (nm:=⟨#[j6.getD q 0]⟩) (tx:=⟨#[57]⟩) (bJ rfl) (bJ rfl) sf.2.2.1 (by decide+kernel);have d0:=Zu (L+2) (ps:=[(⟨#[109,112]⟩,⟨#[]⟩),(⟨#[j6.getD q 0]⟩,⟨#[57]⟩),(⟨#[j6.getD q 0]⟩,⟨#[57]⟩)]) (nm:=⟨#[fA.getD q 0]⟩) (by intro p m;simp only[bp,gU,or_false] at m;rcases m with rfl|rfl|rfl<;>exact (Nat.le_of_ble_eq_true rfl)) (Nat.le_of_ble_eq_true rfl) (Nat.le_of_ble_eq_true rfl) (by rw[sf.2.2.2.2.2.2.2];exact sf.2.2.2.1);have de:[(⟨#[109,112]⟩,⟨#[]⟩),(⟨#[j6.getD q 0]⟩,⟨#[57]⟩),(⟨#[j6.getD q 0]⟩,⟨#[57]⟩)].filter (λp:Str×Str=>cH p.1 !=cH ⟨#[fA.getD q 0]⟩)=[(⟨#[109,112]⟩,⟨#[]⟩)]:=by rw[sf.2.2.2.2.2.2.2,xP,xP,xP,List.filter_nil];simp only[bne,Jo q hq,sf.2.2.2.2.2.2.1,beq_self_eq_true];rfl
 rw[de] at d0;have pl:((nB g z s bl).map hP).length=7:=rfl
 have sh:zA (nB g z s bl):=by
  intro p m;rcases bp.mp m with rfl|m
  ·exact bJ rfl
  ·refine aS (ij.mp m) λt _ e=>?_
   subst e;show (kO t _).length<=1000;unfold kO
   split<;>exact bJ rfl
 have G: ∀i,i<3-> ∃a,a<3/\((nB g z s bl).filter λp=>cH p.1==⟨#[fA.getD i 0]⟩).map (λp=>sJ p.2)=[.str<|eF (g i 0)<|bl a,.str<|eF (g i 1)<|bl<|a+3]:=λi hi=>N_ g hz hs h0 bl hi;refine aS (G 0<|by decide) λx hx gx=>?_;refine aS (G 1<|by decide) λy hy gy=>?_;refine aS (G 2<|by decide) λw hw gw=>?_;have I: ∀i j t,t<6->(aU<|L+3).F 2 [.str<|eF (g i j)<|bl t] (.int<|g i j):=λi j t h=>C_ L (hg i j)<|B' t h;have r0:=Fd (L+2) (ps:=nB g z s bl) (nm:=⟨#[112]⟩) sh (bJ rfl) (bJ rfl) (by decide+kernel);have r1:=Fd (L+2) (ps:=nB g z s bl) (nm:=⟨#[78]⟩) sh (bJ rfl) (bJ rfl) (by decide+kernel);have r2:=Fd (L+2) (ps:=nB g z s bl) (nm:=⟨#[109]⟩) sh (bJ rfl) (bJ rfl) (by decide+kernel);rw[show cH ⟨#[112]⟩=⟨#[fA.getD 0 0]⟩ by decide+kernel,gx] at r0;rw[show cH ⟨#[78]⟩=⟨#[fA.getD 1 0]⟩ by decide+kernel,gy] at r1;rw[show cH ⟨#[109]⟩=⟨#[fA.getD 2 0]⟩ by decide+kernel,gw] at r2;have it:=Xo (L+2) (ps:=nB g z s bl)<|bJ rfl;have ft: ∀i j t,t<6->mY (eF (g i j)<|bl t)=true:=λi j t h=>Ut (hg i j)<|B' t h
 have p8: ∀d∈(nB g z s bl).map hP,fP 8 d=true:=by
  intro d m;refine aS (ij.mp m) λp n e=>?_;rw[<-e];rcases bp.mp n with e2|n
  ·rw[e2]
   exact JU (by decide+kernel) (by decide+kernel)
  ·refine aS (ij.mp n) λt k e3=>?_
   rw[<-e3];refine JU ?_<|ft _ _ t<|sG.mp k;show mY (kO t _)=aB;unfold kO
   split
   ·exact (Ki _<|dw _<|by decide).1
   ·exact (Ki _<|dw _<|by decide).2
 have t8: ∀d∈[DH [.str<|eF (g 0 0)<|bl x,.str<|eF (g 0 1)<|bl<|x+3],.list [.str<|eF (g 1 0)<|bl y,.str<|eF (g 1 1)<|bl<|y+3],.list [.str<|eF (g 2 0)<|bl w,.str<|eF (g 2 1)<|bl<|w+3]],fP 8 d=true:=by
  intro d m;simp only[bp,gU,or_false] at m;rcases m with rfl|rfl|rfl
  ·exact Ft (ft _ _ _<|by exact (aQ hx)) (ft _ _ _<|by exact (aQ hx))
  ·exact Ft (ft _ _ _<|by exact (aQ hy)) (ft _ _ _<|by exact (aQ hy))
  ·exact Ft (ft _ _ _<|by exact (aQ hw)) (ft _ _ _<|by exact (aQ hw))
 have n8: ∀d∈dV 8 Dat.none,fP 8 d=true:=by decide
 have lp:=λK h=>T 0 (by decide) 2 [(⟨#[109,112]⟩,⟨#[]⟩)] .unb .unb .unb .unb .unb _ K (by decide) (bJ rfl) (T 1 (by decide) 3 _ _ _ _ _ _ _ K (by decide) (bJ rfl)<|T 2 (by decide) 4 _ _ _ _ _ _ _ K (by decide) (bJ rfl)<|T 3 (by decide) 5 _ _ _ _ _ _ _ K (by decide) (bJ rfl)<|T 4 (by decide) 6 _ _ _ _ _ _ _ K (by decide) (bJ rfl)<|T 5 (by decide) 7 _ _ _ _ _ _ [] K (by decide) (bJ rfl) h);have mu: ∀r,fe r .Mult (.d<|.list [.none]) (.d<|.int 8)<|.list<|dV 8 .none:=λr=>.mul (n:=8) .d (by show 1*8<=256;decide) (by decide) (by decide);refine dj (rE b_law_book 2 [2,3,4,5,6,7,8,9,10,11] [ht _,.h .none _,ht _,.h .none _,ht _,.h .none _,.f .next (tC (gD g) c 8 (nB g z s bl) _ _ _ _ _),.d<|.list _,.b aE,.b aE,hl _,.b aE,.b aE,.b aE,.b aE,.b aE,.ds [_,_,_],.ds [_,_,_],.b aE,.b aE,.ds [.list [.int<|g 0 0,.int<|g 0 1],.list [.int<|g 1 0,.int<|g 1 1],.list [.int<|g 2 0,.int<|g 2 1]]] (aU<|L+3) [gD g,.int c] (gD g) rfl (by decide+kernel) ff (AZ sf.2.2.2.2.2.1 eq<|by decide) a0 ff (AZ sf.2.2.2.2.2.1 eq<|by decide) a1 ff (AZ sf.2.2.2.2.1 eq<|by decide) d0 tt lp (mu _) (iU (.bor rfl) n8) rfl it (.lst .d (.bor rfl) (kL p8) (kL p8)<|.oo rfl) rfl (.lst (.bor rfl) (.bor rfl) (kL p8) (kL p8)<|.oo rfl) rfl rfl (bJ rfl) (λK h=>Ge r0 _ K<|Ge r1 _ _<|Ge r2 [] _ h) (bJ rfl) (λK h=>DY sh (bJ rfl) gx _ K<|DY sh (bJ rfl) gy _ _<|DY sh (bJ rfl) gw [] _ h) (iU .d t8) ff (bJ rfl) (λK h=>Eh (I 0 0 x<|by omega) (I 0 1 _<|by omega) _ K<|Eh (I 1 0 y<|by omega) (I 1 1 _<|by omega) _ _<|Eh (I 2 0 w<|by omega) (I 2 1 _<|by omega) [] _ h) .ret) rfl
end B01
end
set_option exponentiation.threshold 100000
namespace B01
noncomputable abbrev Ed:=(Int×Int)×(Int×Int)
noncomputable def oO (a b:Int):Int:=if b<a then b else a
noncomputable def qB (a b:Int):Int:=if b>a then b else a
noncomputable def ji (e:Ed) (q:Int):Bool:=e.1.2 !=e.2.2 && (decide (oO e.1.2 e.2.2<=q) && decide (q<=qB e.1.2 e.2.2))
noncomputable def iP (e:Ed) (q:Int):Int:=e.1.1*(e.2.2 - e.1.2)+(q - e.1.2)*(e.2.1 - e.1.1)
noncomputable def j4 (e:Ed) (q:Int):Int:=(iP e q).fdiv<|e.2.2 - e.1.2
noncomputable def pX (e:Ed) (q:Int):Int:=j4 e q+(if (iP e q).fmod (e.2.2 - e.1.2)=0 then 0 else 1)
noncomputable def dN (es:List Ed) (q:Int):List Ed:=es.filter λe=>ji e q
noncomputable def dI (xs:List Int):List Dat:=xs.map .int
noncomputable def uI (e:Ed):Dat:=wC e.1 e.2
structure Sv where
 (a b c d e:Sl)
noncomputable def pU (u low k:Int) (A B C D E F:Sl) (fl ro:List Int) (v:Sv):Ls:=[(3,.val<|.int u),(4,A),(5,B),(6,C),(7,D),(8,.val<|.int k),(9,.own<|dI fl),(10,.own<|dI ro),(11,v.a),(12,v.b),(13,v.c),(14,v.d),(15,v.e),(0,E),(1,.val<|.int low),(2,F)]
structure wD (o:bj) (u low k:Int) (e:Ed):Prop where
 s1:ib e.1.1+ib (e.2.2 - e.1.2)<=134217728
 s2:ib (low+k - e.1.2)+ib (e.2.1 - e.1.1)<=134217728
 s3:ib (iP e<|low+k)+ib u<=134217728
 s4:ib (e.2.2 - e.1.2)+ib u<=134217728
 f:ji e (low+k)=aB-> ∃r:Int,0<=r/\(if 1<r then 1 else r)=(if (iP e<|low+k).fmod (e.2.2 - e.1.2)=0 then 0 else 1)/\o.F 28 [.int<|iP e (low+k)*u,.int<|(e.2.2 - e.1.2)*u] (.list [.int<|j4 e<|low+k,.int r])
theorem Rm {o:bj} {u low k:Int} {e:Ed} (h:wD o u low k e) {A B C D E F:Sl} {fl ro:List Int} {v:Sv} (hl:fl.length<=100/\ro.length<=100) {xs:List aK}: ∃v',∀K:Fl->Ls->Prop,
 fW (.tup [11,12]) (rP.map SW.w) o xs (pU u low k A B C D E F (fl++(dN [e]<|low+k).map (j4 · (low+k))) (ro++(dN [e]<|low+k).map (pX · (low+k))) v') K->fW (.tup [11,12]) (rP.map SW.w) o (uI e::xs) (pU u low k A B C D E F fl ro v) K:=by
 have lf:(dI fl).length<16777216:=by unfold dI;rw[dY];exact (aQ hl.1)
 have lr:(dI ro).length<16777216:=by unfold dI;rw[dY];exact (aQ hl.2)
 have out:ji e (low+k)=aE->dN [e] (low+k)=[]:=λc=>by unfold dN;rw[xP,c];rfl
 by_cases c1:e.1.2=e.2.2
 ·have c:ji e (low+k)=false:=by unfold ji;rw[bne_eq_false_iff_eq.mpr c1];rfl
  rw[out c,jq,eZ,jq,eZ];exact ⟨⟨.val<|aw e.1,.val<|aw e.2,v.c,v.d,v.e⟩,λK k'=>fx (.tup [11,12]) rP o [hi e.1.2,hi e.2.2,.b aB,.b aE] (uI e) xs (pU u low k A B C D E F fl ro v) K (cK _) (cK _) (bne_eq_false_iff_eq.mpr c1) rfl k'⟩
 ·have n1:(e.1.2 !=e.2.2)=true:=bne_iff_ne.mpr c1
  by_cases c2:oO e.1.2 e.2.2<=low+k
  ·by_cases c3:low+k<=qB e.1.2 e.2.2
   ·have c:ji e (low+k)=true:=by unfold ji;rw[n1,dt c2,dt c3];rfl
    have ce:dN [e] (low+k)=[e]:=by unfold dN;rw[xP,c];rfl
    rw[ce];refine dA (h.f c) λr r0 r1 f=>?_;have m: ∀R,cn R .min2 [.d<|.int r,.d<|.int 1]<|.int<|if (iP e<|low+k).fmod (e.2.2 - e.1.2)=0 then 0 else 1:=λR=>r1▸ .min2;refine ⟨⟨.val<|aw e.1,.val<|aw e.2,.val<|.int<|iP e<|low+k,.val<|.int<|j4 e<|low+k,.val<|.int r⟩,λK k'=>?_⟩;have e1:dI (fl++[e].map (j4 · (low+k)))=dI fl++[.int<|j4 e<|low+k]:=gp;have e2:dI (ro++[e].map (pX · (low+k)))=dI ro++[.int<|pX e<|low+k]:=gp;unfold pU at k';rw[e1,e2] at k';exact fx (.tup [11,12]) rP o [hi e.1.2,hi e.2.2,.b aE,hi e.1.2,hi e.2.2,hi<|oO e.1.2 e.2.2,.b aB,hi e.1.2,hi e.2.2,hi<|qB e.1.2 e.2.2,.b aE,.b aB,hi e.1.1,hi e.2.2,hi e.1.2,hi e.1.2,hi e.2.1,hi e.1.1,hi e.2.2,hi e.1.2,.d<|.list [.int<|j4 e<|low+k,.int r],.b aE,hi<|if (iP e<|low+k).fmod (e.2.2 - e.1.2)=0 then 0 else 1] (uI e) xs (pU u low k A B C D E F fl ro v) K (cK _) (cK _) n1 (cK _) (cK _) .min2 (dt c2) (cK _) (cK _) .max2 (dt c3) rfl (iV _) (cK _) (cK _) h.s1 (cK _) (iV _) (iV _) h.s2 h.s3 (cK _) (cK _) h.s4 f (df<|jL.mpr r0) lf (m _) lr k'
   ·have c:ji e (low+k)=false:=by unfold ji;rw[df c3,uq,uq]
    rw[out c,jq,eZ,jq,eZ];exact ⟨⟨.val<|aw e.1,.val<|aw e.2,v.c,v.d,v.e⟩,λK k'=>fx (.tup [11,12]) rP o [hi e.1.2,hi e.2.2,.b aE,hi e.1.2,hi e.2.2,hi<|oO e.1.2 e.2.2,.b aB,hi e.1.2,hi e.2.2,hi<|qB e.1.2 e.2.2,.b aB,.b aE] (uI e) xs (pU u low k A B C D E F fl ro v) K (cK _) (cK _) n1 (cK _) (cK _) .min2 (dt c2) (cK _) (cK _) .max2 (df c3) rfl k'⟩
  ·have c:ji e (low+k)=false:=by unfold ji;rw[df c2,IL,uq]
   rw[out c,jq,eZ,jq,eZ];exact ⟨⟨.val<|aw e.1,.val<|aw e.2,v.c,v.d,v.e⟩,λK k'=>fx (.tup [11,12]) rP o [hi e.1.2,hi e.2.2,.b aE,hi e.1.2,hi e.2.2,hi<|oO e.1.2 e.2.2,.b aE,.b aB,.b aE] (uI e) xs (pU u low k A B C D E F fl ro v) K (cK _) (cK _) n1 (cK _) (cK _) .min2 (df c2) rfl rfl k'⟩
theorem XJ {o:bj} {u low k:Int} {A B C D E F:Sl}: ∀(es:List Ed) (fl ro:List Int) (v:Sv),(∀e∈es,wD o u low k e)->fl.length+es.length<=100->ro.length+es.length<=100-> ∃v',∀K:Fl->Ls->Prop,
 K .next (pU u low k A B C D E F (fl++(dN es<|low+k).map (j4 · (low+k))) (ro++(dN es<|low+k).map (pX · (low+k))) v')->fW (.tup [11,12]) (rP.map SW.w) o (es.map uI) (pU u low k A B C D E F fl ro v) K:=by
 intro es;induction es with
 |nil=>exact λfl ro v h a b=>⟨v,λK k'=>by rw[show dN [] (low+k)=[] from rfl,jq,eZ,jq,eZ] at k';exact k'⟩
 |cons e es ih=>
  intro fl ro v h a b;rw[pQ] at a b;refine aV (Rm (h e<|.head _) (A:=A) (B:=B) (C:=C) (D:=D) (E:=E) (F:=F) (fl:=fl) (ro:=ro) (v:=v) (xs:=es.map uI) ⟨by exact (aQ a),by exact (aQ b)⟩) λv1 t=>?_;have l1:(dN [e]<|low+k).length<=1:=QGQ _ _;refine aV (ih (fl++(dN [e]<|low+k).map (j4 · (low+k))) (ro++(dN [e]<|low+k).map (pX · (low+k))) v1 (λe m=>h e<|.tail _ m) (by rw[du,dY];exact (bD a l1)) (by rw[du,dY];exact (bD b l1))) λv2 q=>?_;refine ⟨v2,λK k'=>t K<|q K ?_⟩;have s:dN (e::es) (low+k)=dN [e] (low+k)++dN es (low+k):=by unfold dN;rw[<-List.filter_append];rfl
  rw[s,gp,gp,<-ik,<-ik] at k';exact k'
end B01
set_option exponentiation.threshold 100000
namespace B01
noncomputable def fB (l:List Int):Int:=match l with|[]=>0|a::as=>GJ a as
noncomputable def eJ (l:List Int):Int:=match l with|[]=>0|a::as=>Ar a as
noncomputable def d5 (es:List Ed) (q:Int):List Int:=(dN es q).map (j4 · q)
noncomputable def eS (es:List Ed) (q:Int):List Int:=(dN es q).map (pX · q)
noncomputable def iQ (hs:List Int) (q:Int):Bool:=decide (eJ hs<q) && decide (q<fB hs)
noncomputable def vw (es:List Ed) (q:Int) (k:Nat) (xs:List Int):List Int:=bif (dN es q).isEmpty then xs else xs.set k (fB (d5 es q) - eJ (eS es q)+1)
noncomputable def qh (es:List Ed) (hs:List Int) (q:Int) (k:Nat) (xs:List Int):List Int:=bif iQ hs q then (vw es q k xs).set (4+k) (fB (eS es q) - eJ (d5 es q) - 1) else vw es q k xs
noncomputable def cQ (a b c:Int×Int):List Ed:=[(a,b),(b,c),(c,a)]
noncomputable def uN (u low:Int) (A:Sl) (a b c:Int×Int) (xs:List Int) (s8 s9 s10:Sl) (v:Sv) (E F:Sl):Ls:=[(3,.val<|.int u),(4,A),(5,.val<|.list [aw a,aw b,aw c]),(6,.val<|.list<|dI [a.2,b.2,c.2]),(7,.own<|dI xs),(8,s8),(9,s9),(10,s10),(11,v.a),(12,v.b),(13,v.c),(14,v.d),(15,v.e),(0,E),(1,.val<|.int low),(2,F)]
theorem XK {r:bQ} (a b c:Int×Int):cC r (.d<|.list [aw a,aw b,aw c]) 0 (aw a)/\cC r (.d<|.list [aw a,aw b,aw c]) 1 (aw b)/\cC r (.d<|.list [aw a,aw b,aw c]) 2 (aw c):=⟨.seq (.l .d) (by show (3:Int)<2^63;decide) (rfl:_=aA 0) rfl,.seq (.l .d) (by show (3:Int)<2^63;decide) (rfl:_=aA 1) rfl,.seq (.l .d) (by show (3:Int)<2^63;decide) (rfl:_=aA 2) rfl⟩
theorem xr {r:bQ} {v:V} {xs:List Int} (h:gb r v (dI xs)) (n:xs≠[]):cn r .m9 [v] (.int<|fB xs):=by
 cases xs with
 |nil=>exact QHb rfl n
 |cons a as=>exact .m9 h
theorem xf {r:bQ} {v:V} {xs:List Int} (h:gb r v (dI xs)) (n:xs≠[]):cn r .kZ [v] (.int<|eJ xs):=by
 cases xs with
 |nil=>exact QHb rfl n
 |cons a as=>exact .kZ h
theorem OE (xs:List Int):mw (dI xs):=kL<|ES xs id
theorem Jj {r:bQ} {i:Nat} {xs:List Int} (h:r i=.own (dI xs)):gj r .NotEq (.bor i) (.d<|.list []) (!xs.isEmpty):=by
 cases xs with
 |nil=>exact .lst (.bor h) .d (OE _) rfl (.oo rfl)
 |cons a as=>exact .lst (.bor h) .d (OE _) rfl (.neT nofun)
theorem Xv {o:bj} {u low:Int} {k:Nat} {A E F s8 s9 s10:Sl} {a b c:Int×Int} {xs:List Int} {v:Sv} (H: ∀e∈cQ a b c,wD o u low k e) (hx:xs.length=8) (hk:k<5) (S:iQ [a.2,b.2,c.2] (low+k)=aB->dN (cQ a b c) (low+k)≠[]/\k<4) {R:List aK}: ∃s8 s9 s10 v',∀K:Fl->Ls->Prop,
 fW (.one 8) (r9.map SW.w) o R (uN u low A a b c (qh (cQ a b c) [a.2,b.2,c.2] (low+k) k xs) s8 s9 s10 v' E F) K->fW (.one 8) (r9.map SW.w) o (.int (k:Nat)::R) (uN u low A a b c xs s8 s9 s10 v E F) K:=by
 refine aV (XJ (o:=o) (u:=u) (low:=low) (k:=k) (A:=A) (B:=.val<|.list [aw a,aw b,aw c]) (C:=.val<|.list<|dI [a.2,b.2,c.2]) (D:=.own<|dI xs) (E:=E) (F:=F) (cQ a b c) [] [] v H (by show 0+3<=100;decide) (by show 0+3<=100;decide)) λv' lp=>?_;refine ⟨.val<|.int k,.own<|dI<|d5 (cQ a b c)<|low+k,.own<|dI<|eS (cQ a b c)<|low+k,v',λK k'=>?_⟩;have j:=λr=>XK (r:=r) a b c
 have el: ∀P:List Ed->Int->List Int,(P=d5\/P=eS)->((P (cQ a b c)<|low+k).isEmpty=(dN (cQ a b c)<|low+k).isEmpty):=λP h=>by
  rcases h with rfl|rfl
  ·exact Q7
  ·exact Q7
 have ef:=el d5<|.inl rfl;have er:=el eS<|.inr rfl;have hn: ∀r,cn r .kZ [.d<|.list<|dI [a.2,b.2,c.2]]<|.int<|eJ [a.2,b.2,c.2]:=λr=>xf .d nofun;have hm: ∀r,cn r .m9 [.d<|.list<|dI [a.2,b.2,c.2]]<|.int<|fB [a.2,b.2,c.2]:=λr=>xr .d nofun;have ln: ∀(ys:List Int),ys.length=8-> ∀(j:Nat),j<8->((j:Int)<((dI ys).length:Nat))/\(dI ys).length<2^63:=λys h j l=>by unfold dI;rw[dY,h];exact ⟨by exact (bE<|oL l),by decide⟩
 have set1: ∀(ys:List Int) (j:Int) (z:Int),(dI ys).set j.toNat (.int z)=dI (ys.set j.toNat z):=λys j z=>by unfold dI;rw[List.map_set]
 unfold qh vw at k';induction hc:(dN (cQ a b c)<|low+k).isEmpty with
 |true=>
  have e0:dN (cQ a b c) (low+k)=[]:=QG.mp hc;have sf:iQ [a.2,b.2,c.2] (low+k)=false:=uQ.mpr λq=>(S q).1 e0;rw[sf,hc] at k';have nb: ∀r:bQ,r 9=.own (dI<|d5 (cQ a b c)<|low+k)->gj r .NotEq (.bor 9) (.d<|.list []) false:=λr h=>by have:=Jj h;rw[ef,hc] at this;exact this
  by_cases c1:eJ [a.2,b.2,c.2]<low+k
  ·have c2: ¬ low+k<fB [a.2,b.2,c.2]:=λq=>by unfold iQ at sf;rw[dt c1,dt q] at sf;exact bq sf.symm
   exact fx (.one 8) r9 o [.d<|aw a,.d<|aw b,.d<|aw b,.d<|aw c,.d<|aw c,.d<|aw a,.f .next _,.b aE,.b aE,hi<|eJ [a.2,b.2,c.2],.b aB,hi<|fB [a.2,b.2,c.2],.b aE] (.int k) R (uN u low A a b c xs s8 s9 s10 v E F) K (j _).1 (j _).2.1 (j _).2.1 (j _).2.2 (j _).2.2 (j _).1 lp (nb _ rfl) ff (hn _) (dt c1) (hm _) (df c2) k'
  ·exact fx (.one 8) r9 o [.d<|aw a,.d<|aw b,.d<|aw b,.d<|aw c,.d<|aw c,.d<|aw a,.f .next _,.b aE,.b aE,hi<|eJ [a.2,b.2,c.2],.b aE,.b aE] (.int k) R (uN u low A a b c xs s8 s9 s10 v E F) K (j _).1 (j _).2.1 (j _).2.1 (j _).2.2 (j _).2.2 (j _).1 lp (nb _ rfl) ff (hn _) (df c1) ff k'
 |false=>
  have nf:d5 (cQ a b c) (low+k)≠[]:=λq=>by rw[q,hc] at ef;exact bq ef.symm
  have nr:eS (cQ a b c) (low+k)≠[]:=λq=>by rw[q,hc] at er;exact bq er.symm
  have nb: ∀r:bQ,r 9=.own (dI<|d5 (cQ a b c)<|low+k)->gj r .NotEq (.bor 9) (.d<|.list []) true:=λr h=>by have:=Jj h;rw[ef,hc] at this;exact this
  have l1:=ln xs hx k (by exact (aQ hk));rw[hc] at k';by_cases c1:eJ [a.2,b.2,c.2]<low+k
  ·by_cases c2:low+k<fB [a.2,b.2,c.2]
   ·have st:iQ [a.2,b.2,c.2] (low+k)=true:=by unfold iQ;rw[dt c1,dt c2];rfl
    have k4:=(S st).2;rw[st] at k';have l2:=ln (xs.set k<|fB (d5 (cQ a b c)<|low+k) - eJ (eS (cQ a b c)<|low+k)+1) (by rw[List.length_set];exact hx) (4+k) (by exact (aQ k4));have s1:=set1 xs k<|fB (d5 (cQ a b c)<|low+k) - eJ (eS (cQ a b c)<|low+k)+1;have s2:=set1 (xs.set k<|fB (d5 (cQ a b c)<|low+k) - eJ (eS (cQ a b c)<|low+k)+1) (4+(k:Int))<|fB (eS (cQ a b c)<|low+k) - eJ (d5 (cQ a b c)<|low+k) - 1;rw[lR] at s1;rw[show ((4:Int)+(k:Int)).toNat=4+k from rfl] at s2;have:=fx (.one 8) r9 o [.d<|aw a,.d<|aw b,.d<|aw b,.d<|aw c,.d<|aw c,.d<|aw a,.f .next _,.b aB,.b aB,hi<|fB<|d5 (cQ a b c)<|low+k,hi<|eJ<|eS (cQ a b c)<|low+k,hi<|eJ [a.2,b.2,c.2],.b aB,hi<|fB [a.2,b.2,c.2],.b aB,hi<|fB<|eS (cQ a b c)<|low+k,hi<|eJ<|d5 (cQ a b c)<|low+k] (.int k) R (uN u low A a b c xs s8 s9 s10 v E F) K (j _).1 (j _).2.1 (j _).2.1 (j _).2.2 (j _).2.2 (j _).1 lp (nb _ rfl) tt (xr (.bor rfl) nf) (xf (.bor rfl) nr) (dP k) l1.1 l1.2 (hn _) (dt c1) (hm _) (dt c2) (xr (.bor rfl) nr) (xf (.bor rfl) nf) (by exact (bE<|oZ<|k)) (by rw[lR,s1];have:=l2.1;exact l2.1) (by rw[lR,s1];exact l2.2);rw[lR,s1,show ((4:Int)+(k:Int)).toNat=4+k from rfl,s2] at this;exact this k'
   ·have sf:iQ [a.2,b.2,c.2] (low+k)=false:=by unfold iQ;rw[df c2,uq]
    rw[sf] at k';have s1:=set1 xs k<|fB (d5 (cQ a b c)<|low+k) - eJ (eS (cQ a b c)<|low+k)+1;rw[lR] at s1;have:=fx (.one 8) r9 o [.d<|aw a,.d<|aw b,.d<|aw b,.d<|aw c,.d<|aw c,.d<|aw a,.f .next _,.b aB,.b aB,hi<|fB<|d5 (cQ a b c)<|low+k,hi<|eJ<|eS (cQ a b c)<|low+k,hi<|eJ [a.2,b.2,c.2],.b aB,hi<|fB [a.2,b.2,c.2],.b aE] (.int k) R (uN u low A a b c xs s8 s9 s10 v E F) K (j _).1 (j _).2.1 (j _).2.1 (j _).2.2 (j _).2.2 (j _).1 lp (nb _ rfl) tt (xr (.bor rfl) nf) (xf (.bor rfl) nr) (dP k) l1.1 l1.2 (hn _) (dt c1) (hm _)<|df c2;rw[lR,s1] at this;exact this k'
  ·have sf:iQ [a.2,b.2,c.2] (low+k)=false:=by unfold iQ;rw[df c1,IL]
   rw[sf] at k';have s1:=set1 xs k<|fB (d5 (cQ a b c)<|low+k) - eJ (eS (cQ a b c)<|low+k)+1;rw[lR] at s1;have:=fx (.one 8) r9 o [.d<|aw a,.d<|aw b,.d<|aw b,.d<|aw c,.d<|aw c,.d<|aw a,.f .next _,.b aB,.b aB,hi<|fB<|d5 (cQ a b c)<|low+k,hi<|eJ<|eS (cQ a b c)<|low+k,hi<|eJ [a.2,b.2,c.2],.b aE,.b aE] (.int k) R (uN u low A a b c xs s8 s9 s10 v E F) K (j _).1 (j _).2.1 (j _).2.1 (j _).2.2 (j _).2.2 (j _).1 lp (nb _ rfl) tt (xr (.bor rfl) nf) (xf (.bor rfl) nr) (dP k) l1.1 l1.2 (hn _) (df c1) ff;rw[lR,s1] at this;exact this k'
end B01
set_option exponentiation.threshold 100000
namespace B01
noncomputable def shr (A B w:Int) (p:Int×Int):Int×Int:=(p.1+A*p.2+B,p.2+w)
noncomputable def lE (A B w:Int) (e:Ed):Ed:=(shr A B w e.1,shr A B w e.2)
section
variable {A B w k:Int}
theorem y_ (a b w:Int):oO (a+w) (b+w)=oO a b+w:=by unfold oO;simp only[Iv];split<;>rfl
theorem VX (a b w:Int):qB (a+w) (b+w)=qB a b+w:=by unfold qB;simp only[gt_iff_lt,Iv];split<;>rfl
theorem SG (e:Ed):ji (lE A B w e) (w+k)=ji e k:=by
 show ((e.1.2+w) !=(e.2.2+w) && (decide (oO (e.1.2+w) (e.2.2+w)<=w+k) && decide (w+k<=qB (e.1.2+w) (e.2.2+w))))=(e.1.2 !=e.2.2 && (decide (oO e.1.2 e.2.2<=k) && decide (k<=qB e.1.2 e.2.2)));rw[y_,VX]
 congr 1
 ·rw[uV,bne_iff_ne,bne_iff_ne];exact ⟨λv1=>(λw1=>((AJ v1).elim (λu1=>(fj u1<|iR w1)) λu1=>(fj u1<|iL w1))),λv1=>(λw1=>((AJ v1).elim (λu1=>(fj u1<|iR w1)) λu1=>(fj u1<|iL w1)))⟩
 ·congr 1
  ·rw[uV,decide_eq_true_iff,decide_eq_true_iff];exact ⟨λv0=>(bE v0),λv0=>(bE v0)⟩
  ·rw[uV,decide_eq_true_iff,decide_eq_true_iff];exact ⟨λv0=>(bE v0),λv0=>(bE v0)⟩
theorem Mt (e:Ed):(lE A B w e).2.2 - (lE A B w e).1.2=e.2.2 - e.1.2:=by show (e.2.2+w) - (e.1.2+w)=_;exact (by simp+arith)
theorem Jw (e:Ed):iP (lE A B w e) (w+k)=iP e k+(A*k+B)*(e.2.2 - e.1.2):=by obtain ⟨⟨a,b⟩,⟨c,d⟩⟩:=e;show (a+A*b+B)*((d+w) - (b+w))+(w+k - (b+w))*((c+A*d+B) - (a+A*b+B))=a*(d - b)+(k - b)*(c - a)+(A*k+B)*(d - b);rw[show (d+w) - (b+w)=d - b by exact (by simp+arith),show w+k - (b+w)=k - b by exact (by simp+arith),show (c+A*d+B) - (a+A*b+B)=(c - a)+A*(d - b) by rw[QGj];exact (by simp+arith)];generalize d - b=D;generalize c - a=C;rw[Ie,<-xM (k - b) A D,jr (k - b) A,QGj,Qr<|A*k,qu,qu,qu];exact (by simp+arith)
theorem Np {e:Ed} (h:ji e k=aB):j4 (lE A B w e) (w+k)=j4 e k+(A*k+B)/\pX (lE A B w e) (w+k)=pX e k+(A*k+B):=by
 have n:e.2.2 - e.1.2≠0:=λq=>by unfold ji at h;rw[bne_eq_false_iff_eq.mpr (by exact (vd q.symm):e.1.2=e.2.2)] at h;exact bq h
 have a:j4 (lE A B w e) (w+k)=j4 e k+(A*k+B):=by unfold j4;rw[Mt,Jw,Int.add_mul_fdiv_right _ _ n]
 refine ⟨a,?_⟩;unfold pX;rw[a,Mt,Jw,Int.add_mul_fmod_self_right];exact (by simp+arith)
end
theorem Fz {A B w k:Int} (es:List Ed):dN (es.map<|lE A B w) (w+k)=(dN es k).map (lE A B w):=by
 unfold dN;rw[QGi]
 congr 1
 exact List.filter_congr λe _=>SG e
theorem LH {A B w k:Int} (es:List Ed):d5 (es.map<|lE A B w) (w+k)=(d5 es k).map (· +(A*k+B))/\eS (es.map<|lE A B w) (w+k)=(eS es k).map (· +(A*k+B)):=by unfold d5 eS;rw[Fz,DE,DE,DE,DE];exact ⟨Ih λe m=>(Np<|QHi<|by simpa using (QGk.mp m).2).1,Ih λe m=>(Np<|QHi<|by simpa using (QGk.mp m).2).2⟩
theorem Gh {s:Int} {l:List Int} (h:l≠[]):fB (l.map (· +s))=fB l+s:=by
 cases l with
 |nil=>exact QHb rfl h
 |cons a l=>
  show Iw _ (a+s) (l.map (· +s))=Iw _ a l+s;clear h;induction l generalizing a with
  |nil=>rfl
  |cons b l ih=>
   rw[gB,ot,ot,<-ih]
   congr 1
   simp only[gt_iff_lt,Iv];split<;>rfl
theorem Ei {s:Int} {l:List Int} (h:l≠[]):eJ (l.map (· +s))=eJ l+s:=by
 cases l with
 |nil=>exact QHb rfl h
 |cons a l=>
  show Iw _ (a+s) (l.map (· +s))=Iw _ a l+s;clear h;induction l generalizing a with
  |nil=>rfl
  |cons b l ih=>
   rw[gB,ot,ot,<-ih]
   congr 1
   simp only[gt_iff_lt,Iv];split<;>rfl
theorem Kn {w k:Int} {hs:List Int} (h:hs≠[]):iQ (hs.map (· +w)) (w+k)=iQ hs k:=by
 unfold iQ;rw[Ei h,Gh h]
 congr 1
 ·rw[uV,decide_eq_true_iff,decide_eq_true_iff];exact ⟨λv0=>(bE v0),λv0=>(bE v0)⟩
 ·rw[uV,decide_eq_true_iff,decide_eq_true_iff];exact ⟨λv0=>(bE v0),λv0=>(bE v0)⟩
theorem QCT {A B w:Int} {j:Nat} {k:Int} {es:List Ed} {hs xs:List Int} (h:hs≠[]):qh (es.map<|lE A B w) (hs.map (· +w)) (w+k) j xs=qh es hs k j xs:=by
 unfold qh vw;rw[Kn h,(LH es).1,(LH es).2,Fz,Q7];induction hc:(dN es k) with
 |nil=>
  have e1:d5 es k=[]:=by unfold d5;rw[hc];rfl
  have e2:eS es k=[]:=by unfold eS;rw[hc];rfl
  rw[e1,e2];rfl
 |cons c cs=>
  have e1:d5 es k≠[]:=by unfold d5;rw[hc];exact nofun
  have e2:eS es k≠[]:=by unfold eS;rw[hc];exact nofun
  rw[Gh e1,Ei e1,Gh e2,Ei e2];rw[show fB (d5 es k)+(A*k+B) - (eJ (eS es k)+(A*k+B))+1=fB (d5 es k) - eJ (eS es k)+1 by exact (by simp+arith),show fB (eS es k)+(A*k+B) - (eJ (d5 es k)+(A*k+B)) - 1=fB (eS es k) - eJ (d5 es k) - 1 by exact (by simp+arith)]
end B01
set_option exponentiation.threshold 100000
noncomputable def Sz (n:Nat) (x:Int):Prop:=x.natAbs<2^n
theorem qk (h:Sz n x):ib x<=n:=ny.mpr h
theorem fD (h:Sz m x) (l:m<=n):Sz n x:=mJ h (QFt (by decide) l)
theorem iD (h:Sz m x) (g:Sz n y):Sz (m+n) (x*y):=by unfold Sz at*;rw[Iu,Nat.pow_add];exact Nat.mul_lt_mul'' h g
theorem pd {x:Int} (h:0<=x) (g:x<2^n):Sz n x:=ny.mp<|(lJ h).mpr g
theorem La (h:Sz n x):Sz n (-x):=ig (qm<|Q6 x) h
theorem lY (h:Sz n x) (g:Sz n y):Sz (n+1) (x+y):=by unfold Sz;rw[Qu,Nat.mul_two];exact ig (AM x y)<|Nat.add_lt_add h g
theorem xg (h:Sz n x) (g:Sz n y):Sz (n+1) (x - y):=Int.sub_eq_add_neg▸lY h (La g)
theorem AY (n:Nat):Sz (n+1) ((2:Int)^n):=by unfold Sz;rw[Int.natAbs_pow];exact Nat.pow_lt_pow_right (by decide)<|uc n
theorem tM {x:Int} (h:x.natAbs<=10):Sz 4 x:=ig h (by decide)
theorem FV {m:Nat} {x:Int} (h:(m:Int)<=x):m<=x.natAbs:=oq.mp<|kD h QGl
theorem WT {x:Int} (h:2^n<=x):n<=ib x:=iH.mp λq=>QHb (FV (m:=2^n)<|by exact_mod_cast h)<|II.mpr<|ny.mp<|sD q
theorem lM {x y:Int} (h:Sz m x) (g:Sz n y) (l:m+n<=134217728):ib x+ib y<=134217728:=az (iF (qk h)<|qk g) l
namespace B01
theorem QDS (L:Nat) (hL:310<=L) {u low k:Int} {e:Ed} (u0:2^200<=u) (u1:Sz 210 u) (a1:Sz 200 e.1.1) (b1:Sz 200 e.2.1) (dy:Sz 10 (e.2.2 - e.1.2)) (q:Sz 10 (low+k - e.1.2)):wD (aU<|L+2) u low k e:=by
 have d1:=xg b1 a1;have p1:=iD a1 dy;have p2:=iD q d1;have pl:Sz 212 (iP e<|low+k):=lY (fD p1 (by decide:200+10<=211)) (fD p2 (by decide:10+201<=211));refine ⟨lM a1 dy (by decide),lM q d1 (by decide),lM pl u1 (by decide),lM dy u1 (by decide),λc=>?_⟩;have n:e.2.2 - e.1.2≠0:=λq=>by unfold ji at c;rw[bne_eq_false_iff_eq.mpr (by exact (vd q.symm):e.1.2=e.2.2)] at c;exact bq c
 have up:0<u:=pP (by decide) u0;have nb:(e.2.2 - e.1.2)*u≠0:=Int.mul_ne_zero n<|gE up
 have big:5<=ib ((e.2.2 - e.1.2)*u):=by
  rcases QZ (ib<|(e.2.2 - e.1.2)*u) 5 with h|h
  ·have:=ny.mp (QGJ h)
   rw[Iu] at this;have g:1<=(e.2.2 - e.1.2).natAbs:=((AJ n).elim (λu1=>(oM<|bG (iR<|xO ((bE u1):e.snd.snd - e.fst.snd<=0)) u1)) λu1=>(oM<|bG (iR<|jS ((bE u1):0<=e.snd.snd - e.fst.snd)) u1))
   have v2:(16:Int)<=2^200:=by decide
   have u2:16<=u.natAbs:=FV<|kD v2 u0;have:=Cu g u2;exact (cY this ‹(e.snd.snd - e.fst.snd).natAbs*u.natAbs<2^4›)
  ·exact h
 have f:=Ke L hL nb (az (qk<|iD dy u1)<|by decide) (az (qk<|iD pl u1)<|by exact (oM<|bE<|mI 100<|oL big));rw[Int.mul_fdiv_mul_of_pos_left _ _ up,jr (iP e<|low+k) u,jr (e.2.2 - e.1.2) u,Int.mul_fmod_mul_of_pos _ _ up] at f;refine ⟨((u*(iP e<|low+k).fmod (e.2.2 - e.1.2)).natAbs:Nat),dP _,?_,by rw[jr (iP e<|low+k) u,jr (e.2.2 - e.1.2) u];exact f⟩;by_cases z:(iP e<|low+k).fmod (e.2.2 - e.1.2)=0
 ·rw[z,if_pos rfl,Qx];rfl
 ·rw[if_neg z,if_pos]
  have g:1<=((iP e<|low+k).fmod<|e.2.2 - e.1.2).natAbs:=((AJ z).elim (λu1=>(oM<|bG (iR<|xO ((bE u1):(iP e<|low+k).fmod (e.snd.snd - e.fst.snd)<=0)) u1)) λu1=>(oM<|bG (iR<|jS ((bE u1):0<=(iP e<|low+k).fmod (e.snd.snd - e.fst.snd))) u1))
  have v2:(2:Int)<=2^200:=by decide
  have u2:2<=u.natAbs:=FV<|kD v2 u0;have:=Cu u2 g;rw[Iu];exact (bE<|oL this)
noncomputable def so (t:bx):List Int:=[(p0 t).2,(p1 t).2,(p2 t).2]
noncomputable def tP (t:bx) (k:Nat) (xs:List Int):List Int:=qh (cQ (p0 t) (p1 t)<|p2 t) (so t) k k xs
noncomputable def xp (t:bx):List Int:=tP t 4<|tP t 3<|tP t 2<|tP t 1<|tP t 0<|dV 8 0
noncomputable def strOk (t:bx) (k:Nat):Prop:=iQ (so t) k=aB->dN (cQ (p0 t) (p1 t)<|p2 t) k≠[]/\k<4
theorem QAP {es:List Ed} {q:Int} {k:Nat} {xs:List Int}:(vw es q k xs).length=xs.length:=by unfold vw;cases (dN es q).isEmpty<;>simp
theorem QAg {es:List Ed} {hs:List Int} {q:Int} {k:Nat} {xs:List Int}:(qh es hs q k xs).length=xs.length:=by unfold qh;cases iQ hs q<;>simp[QAP]
noncomputable def Du:EW:=.list [.aH .Add (.au (.aC 201)<|.int 0)<|.aH .Mult (.aC 4)<|.au (.aC 201)<|.int 1,.au (.aC 201)<|.int 1]
noncomputable def JC:EW:=.au (.aC 201)<|.int 1
noncomputable def yb (u:Int) (k2:Int) (s5:Sl) (ps:aK) (low c:Int):Ls:=[(3,.val<|.int u),(4,.val<|.int k2),(5,s5),(6,.unb),(7,.unb),(8,.unb),(9,.unb),(10,.unb),(11,.unb),(12,.unb),(13,.unb),(14,.unb),(15,.unb),(0,.val ps),(1,.val<|.int low),(2,.val<|.int c)]
noncomputable def rB (l:Ls):Ls:=nq (.one 201)<|oR l
noncomputable def fM (k2:Int) (p:Int×Int):Int×Int:=(p.1+k2*p.2,p.2)
theorem X8 (o:bj) {u k2 low c:Int} {ps:aK} {g:List (Int×Int)} (h: ∀p∈g,ib k2+ib p.2<=134217728) (K:List aK->Prop) (k:K (g.map λp=>aw<|fM k2 p)):cW Du.w (.one 201) [] o (rB<|yb u k2 .unb ps low c) (g.map aw) K:=AP (g:=aw) (f:=λp=>aw<|fM k2 p) (λp m x K k=>fN Du (.one 201) [] o [.b aB,hi p.1,hi p.2,hi p.2] (rB<|yb u k2 .unb ps low c) (aw p) x K rfl tt (iV p) (cK p) (h p m) (cK p) rfl k) K k
theorem Ux (o:bj) {u k2 low c:Int} {ps:aK} {g:List (Int×Int)} {s5:Sl} (K:List aK->Prop) (k:K (g.map λp=>.int p.2)):cW JC.w (.one 201) [] o (rB<|yb u k2 s5 ps low c) (g.map aw) K:=AP (g:=aw) (f:=λp=>.int p.2) (λp m x K k=>fN JC (.one 201) [] o [.b aB,hi p.2] (rB<|yb u k2 s5 ps low c) (aw p) x K rfl tt (cK p) rfl k) K k
theorem Sh (L:Nat) (hL:310<=L) {t:bx} (T:l5 t) (S: ∀k,k<5->strOk t k) {A B w:Int} (hA:0<=A/\A<10^6) (hB:0<=B/\B<10^6) (hw:0<=w/\w<10^6) (c:Int):
 (aU<|L+3).F 29 [.list [aw<|shr A B w<|p0 t,aw<|shr A B w<|p1 t,aw<|shr A B w<|p2 t],.int w,.int c] (.list<|dI<|xp t):=by
 have pw:(1:Int)*2^bN 200=2^200:=by rw[gq];rfl
 have pv:(1:Int)*2^bN 150=2^150:=by rw[gq];rfl
 have P2:(0:Int)<2^200:=by decide
 have P1:(0:Int)<2^150:=by decide
 have m0:=nX c P2;have m1:=nW c P2
 refine aS (by
  refine aS (kY c (n:=2)<|by decide) λz hz e=>?_;have e:c.fmod 2=(z:Int):=e;rcases (by exact ((Ip _).imp_right λo0=>(jk (aQ hz)<|aQ<|Ir o0)):z=0\/z=1) with q|q<;>subst q
  ·exact ⟨1,λr=>dH rfl e (by show (2:Int)<2^63;decide),.inl rfl⟩
  ·exact ⟨-1,λr=>dH rfl e (by show (2:Int)<2^63;decide),.inr rfl⟩: ∃n0:Int,(∀r,cC r (.d<|.list [.int 1,.int (-1)]) (c.fmod 2)<|.int n0)/\(n0=1\/n0= -1)) λn0 i0 hn=>?_
 have v0:=nX (c.fdiv 3) P1;have v1:=nW (c.fdiv 3) P1;have z150:Sz 150 ((c.fdiv 3).fmod<|2^150):=pd v0 v1;have zn:Sz 1 n0:=by unfold Sz;exact (hn.elim (λu1=>(oM<|bG (iL<|jS ((bE<|iR u1):0<=n0))<|iL u1)) λu1=>(oM<|bG (iL<|xO ((bE<|iL u1):n0<=0))<|iR u1))
 have zk:Sz 151 ((c.fdiv 3).fmod (2^150)*n0):=iD z150 zn;have zu:Sz 210 ((2:Int)^200+c.fmod (2^200)):=fD (lY (AY 200)<|fD (pd m0 m1) (by decide:200<=201)) (by decide);have u0:(2:Int)^200<=2^200+c.fmod (2^200):=(bE m0)
 generalize hk2:(c.fdiv 3).fmod (2^150)*n0=k2 at*;generalize hu:(2:Int)^200+c.fmod (2^200)=u at*;have z20: ∀{x:Int},0<=x/\x<10^6->Sz 20 x:=λq=>pd q.1 (Ib q.2<|by decide);have sm: ∀p,hj p->Sz 30 (shr A B w p).1/\Sz 30 (shr A B w p).2:=λp s=>⟨fD (lY (lY (fD (tM s.1) (by decide:4<=24))<|iD (z20 hA)<|tM s.2)<|fD (z20 hB)<|by decide) (by decide),fD (lY (fD (tM s.2) (by decide:4<=20))<|z20 hw)<|by decide⟩;have sq: ∀p,hj p->Sz 200 (fM k2<|shr A B w p).1:=λp s=>by have:=sm p s;exact fD (lY (fD this.1 (by decide:30<=181))<|iD zk this.2) (by decide)
 have eq: ∀p,fM k2 (shr A B w p)=shr (A+k2) (B+k2*w) w p:=λp=>by
  unfold fM shr;dsimp only
  congr 1
  rw[qu,Ie];exact (by simp+arith)
 have dyS: ∀p q:Int×Int,hj p->hj q->Sz 10 ((shr A B w q).2 - (shr A B w p).2):=λp q s r=>fD ((by exact (Int.add_sub_add_right ..):(shr A B w q).2 - (shr A B w p).2=q.2 - p.2)▸xg (tM r.2) (tM s.2)) (by decide);have qS: ∀(p:Int×Int) (k:Nat),hj p->k<5->Sz 10 (w+k - (shr A B w p).2):=λp k s l=>fD ((by unfold shr;rw[xK p.2 w];exact Int.add_sub_add_left .. :w+k - (shr A B w p).2=k - p.2)▸xg (tM (x:=(k:Int))<|az (sD l)<|by decide) (tM s.2)) (by decide)
 have H: ∀k,k<5-> ∀e∈cQ (fM k2<|shr A B w<|p0 t) (fM k2<|shr A B w<|p1 t) (fM k2<|shr A B w<|p2 t),wD (aU<|L+2) u w (k:Nat) e:=λk l e m=>by
  have f: ∀p q,hj p->hj q->wD (aU<|L+2) u w (k:Nat) (fM k2<|shr A B w p,fM k2<|shr A B w q):=λp q s r=>QDS L hL u0 zu (sq p s) (sq q r) (dyS p q s r)<|qS p k s l;rcases bp.mp m with rfl|m
  ·exact f _ _ T.a T.b
  ·rcases bp.mp m with rfl|m
   ·exact f _ _ T.b T.c
   ·rcases bp.mp m with rfl|m
    ·exact f _ _ T.c T.a
    ·exact nomatch m
 have tr: ∀(k:Nat) xs,qh (cQ (fM k2<|shr A B w<|p0 t) (fM k2<|shr A B w<|p1 t)<|fM k2<|shr A B w<|p2 t) [(fM k2<|shr A B w<|p0 t).2,(fM k2<|shr A B w<|p1 t).2,(fM k2<|shr A B w<|p2 t).2] (w+k) k xs=tP t k xs:=λk xs=>by rw[eq,eq,eq];exact QCT (es:=cQ (p0 t) (p1 t)<|p2 t) (hs:=so t) (by unfold so;exact nofun)
 have ts: ∀k:Nat,k<5->iQ [(shr A B w<|p0 t).2,(shr A B w<|p1 t).2,(shr A B w<|p2 t).2] (w+k)=aB->dN (cQ (fM k2<|shr A B w<|p0 t) (fM k2<|shr A B w<|p1 t)<|fM k2<|shr A B w<|p2 t) (w+k)≠[]/\k<4:=λk l h=>by have h:iQ ((so t).map (· +w)) (w+k)=true:=h;rw[Kn (by unfold so;exact nofun)] at h;have:=S k l h;refine ⟨λq=>this.1 ?_,this.2⟩;rw[eq,eq,eq] at q;have q:dN ((cQ (p0 t) (p1 t)<|p2 t).map<|lE (A+k2) (B+k2*w) w) (w+k)=[]:=q;rw[Fz] at q;exact QGO.mp q
 have tn:=λ(k:Nat) (l:k<5) (E F s8 s9 s10:Sl) (v:Sv) (xs:List Int) (hx:xs.length=8) (R:List aK)=>Xv (o:=aU<|L+2) (A:=.val<|.int k2) (E:=E) (F:=F) (s8:=s8) (s9:=s9) (s10:=s10) (v:=v) (H k l) hx l (ts k l) (R:=R);have l8:(dV 8 (0:Int)).length=8:=AI;have l1: ∀k xs,xs.length=8->(tP t k xs).length=8:=λk xs h=>QAg.trans h;generalize hD:DH [aw<|shr A B w<|p0 t,aw<|shr A B w<|p1 t,aw<|shr A B w<|p2 t]=D at*;refine zD (tn 0 (by decide) (.val D) (.val<|.int c) .unb .unb .unb ⟨.unb,.unb,.unb,.unb,.unb⟩ _ l8 [.int (1:Nat),.int (2:Nat),.int (3:Nat),.int (4:Nat)]) λa8 a9 a0 av t0=>?_;rw[tr] at t0;refine zD (tn 1 (by decide) (.val D) (.val<|.int c) a8 a9 a0 av _ (l1 0 _ l8) [.int (2:Nat),.int (3:Nat),.int (4:Nat)]) λb8 b9 b0 bv t1=>?_;rw[tr] at t1;refine zD (tn 2 (by decide) (.val D) (.val<|.int c) b8 b9 b0 bv _ (l1 1 _<|l1 0 _ l8) [.int (3:Nat),.int (4:Nat)]) λd8 d9 d0 dv t2=>?_;rw[tr] at t2;refine zD (tn 3 (by decide) (.val D) (.val<|.int c) d8 d9 d0 dv _ (l1 2 _<|l1 1 _<|l1 0 _ l8) [.int (4:Nat)]) λe8 e9 e0 ev t3=>?_;rw[tr] at t3;refine zD (tn 4 (by decide) (.val D) (.val<|.int c) e8 e9 e0 ev _ (l1 3 _<|l1 2 _<|l1 1 _<|l1 0 _ l8) []) λf8 f9 f0 fv t4=>?_;rw[tr] at t4;have lp:=λK h=>t0 K<|t1 K<|t2 K<|t3 K<|t4 K h;have ml: ∀r,fe r .Mult (.d<|.list [.int 0]) (.d<|.int 8)<|.list<|dI<|dV 8 0:=λr=>.mul (n:=8) .d (by decide) (by decide) (by decide)
 have c3: ∀K,K ([shr A B w<|p0 t,shr A B w<|p1 t,shr A B w<|p2 t].map λp=>aw<|fM k2 p)->cW Du.w (.one 201) [] (aU<|L+2) (rB<|yb u k2 .unb D w c) ([shr A B w<|p0 t,shr A B w<|p1 t,shr A B w<|p2 t].map aw) K:=X8 _ λp m=>by
  have f: ∀p,hj p->ib k2+ib (shr A B w p).2<=134217728:=λp s=>lM zk (sm p s).2 (by decide);rcases bp.mp m with rfl|m
  ·exact f _ T.a
  ·rcases bp.mp m with rfl|m
   ·exact f _ T.b
   ·rcases bp.mp m with rfl|m
    ·exact f _ T.c
    ·exact nomatch m
 have c4:=λK k=>Ux (aU<|L+2) (u:=u) (k2:=k2) (low:=w) (c:=c) (ps:=D) (g:=[fM k2<|shr A B w<|p0 t,fM k2<|shr A B w<|p1 t,fM k2<|shr A B w<|p2 t]) (s5:=.val<|.list<|[shr A B w<|p0 t,shr A B w<|p1 t,shr A B w<|p2 t].map λp=>aw<|fM k2 p) K k;subst hD;have hk:(c.fdiv 3).fmod (1*2^bN 150)*n0=k2:=by rw[pv];exact hk2
 have hv:1*2^bN 200+c.fmod (1*2^bN 200)=u:=by rw[pw];exact hu
 clear tn H t0 t1 t2 t3 t4 tr ts eq sq hk2 hu;subst hk;subst hv;exact dj (rE b_law_counts 3 [3,4,5,6,7,8,9,10,11,12,13,14,15] [hi n0,.ds<|[shr A B w<|p0 t,shr A B w<|p1 t,shr A B w<|p2 t].map λp=>aw<|fM ((c.fdiv 3).fmod (1*2^bN 150)*n0) p,.ds [.int (shr A B w<|p0 t).2,.int (shr A B w<|p1 t).2,.int (shr A B w<|p2 t).2],hl<|dI<|dV 8 0,.f .next _] (aU<|L+2) [.list [aw<|shr A B w<|p0 t,aw<|shr A B w<|p1 t,aw<|shr A B w<|p2 t],.int w,.int c] (.list<|dI<|xp t) rfl (by decide) (by decide) (by decide) (by decide) (df (by rw[pw];decide)) ff (nl rfl) (by decide) (by decide) (df (by rw[pv];decide)) ff (i0 _) (by rw[pv];exact lM z150 zn<|by decide) (by show 3<=16777216;decide) c3 (by show 3<=16777216;decide) c4 (ml _) tt lp .ret) rfl
end B01
set_option exponentiation.threshold 100000
theorem K7 (n:Nat): ∀ds:List Int,(∀d∈ds,0<=d/\d<2^n)->digs n ds.length (undig n ds)=ds:=by
 intro ds;induction ds with
 |nil=>exact λ_=>rfl
 |cons d ds ih=>intro h;have hd:=h d<|.head _;have N:=fw n;rw[pQ,Bg,n5,QGb,QGB hd.1 hd.2,Iq _ _<|gE N,Q8 hd.1 hd.2,zo,ih λx m=>h x<|.tail _ m]
theorem Ju {n:Nat} (hn:1<=n) {ds:List Int} {l:Int} (h: ∀d∈ds++[l],0<=d/\d<2^n) (hl:1<=l):dU n (undig n<|ds++[l])=ds.length+1:=by
 have r:=xj n _ h;have lo:2^(n*ds.length)<=undig n (ds++[l]):=by have a:=(xj n ds λd m=>h d<|Pe _ m).1;have P:=fw<|n*ds.length;rw[Az,n5,vu,Qx,QGI];have:=Hg hl<|bw P;exact (bG a this)
 rw[du] at r;have up:=(lJ r.1).mpr r.2;have dn: ¬ ib (undig n<|ds++[l])<=n*ds.length:=λq=>by have:=(lJ r.1).mp q;exact (fj this lo)
 unfold dU;have e:n*(ds.length+[l].length)=n*ds.length+n:=by rw[List.length_singleton,DQ]
 rw[e] at up;have e2:(ds.length+1)*n=n*ds.length+n:=by rw[QGm,Ic]
 have e3:(ds.length+1+1)*n=n*ds.length+n+n:=by rw[QGm,e2]
 exact Nat.div_eq_of_lt_le (by rw[e2];exact (bD (qt dn)<|nR<|sE ((aQ hn):1<=ib (undig n<|ds++[l])+n))) (by rw[e3];exact (bD (nL<|sE ((aQ hn):1<=ib (undig n<|ds++[l])+n)) up))
theorem Y7 (a b B:Int):(b+a*B+B*B)*(B*B*B*B*B)=((15+10*a+6*b)+B*(10+6*a+3*b)+B*B*(6+3*a+b)+B*B*B*(3+a)+B*B*B*B)*((B - 1)*(B - 1)*(B - 1))+((21+15*a+10*b)*(B*B) - (35+24*a+15*b)*B+(15+10*a+6*b)):=by grind
theorem Sg {a b B:Int} (h:2^16<=B) (A:0<=a/\a<=100) (C:0<=b/\b<=100):0<=(21+15*a+10*b)*(B*B) - (35+24*a+15*b)*B+(15+10*a+6*b)/\(21+15*a+10*b)*(B*B) - (35+24*a+15*b)*B+(15+10*a+6*b)+1<=(B - 1)*(B - 1)*(B - 1):=by
 have b0:0<=B:=(bE h)
 have bb:0<=B*B:=kG b0 b0;have h1:(35+24*a+15*b)*B<=21*(B*B):=by have:=mV (show 35+24*a+15*b<=4000 by exact (bG (mI 24 A.2)<|mI 15 C.2)) b0;exact kD this (kD (mV (by exact (bE h):4000<=B) b0)<|by exact (bE<|mI 20 bb))
 have h2:0<=(15*a+10*b)*(B*B):=kG (by exact (bG (mI 15 A.1)<|mI 10 C.1)) bb;have h3:(21+15*a+10*b)*(B*B)<=3000*(B*B):=mV (by exact (bG (mI 15 A.2)<|mI 10 C.2)) bb;have h4:0<=(35+24*a+15*b)*B:=kG (by exact (bG (mI 24 A.1)<|mI 15 C.1)) b0;have h5:(B - 1)*(B - 1)*(B - 1)=B*(B*B) - 3*(B*B)+3*B - 1:=by grind
 have h6:65536*(B*B)<=B*(B*B):=mV (by exact h) bb;have h7:(21+15*a+10*b)*(B*B)=21*(B*B)+(15*a+10*b)*(B*B):=by rw[QGH,qu]
 rw[h5];refine ⟨?_,?_⟩
 ·rw[h7]
  exact (bG (ni h1 h2)<|ni (mI 10 A.1)<|mI 6 C.1)
 ·generalize B*(B*B)=y at*
  generalize B*B=z at*;generalize (35+24*a+15*b)*B=v at*;exact (bG (ni (ni h3 h4)<|ni (mI 10 A.2)<|mI 6 C.2)<|ni h6<|ni (mI 62533 bb)<|mI 3 h)
noncomputable def iX (a b B:Int):Int:=(15+10*a+6*b)+B*(10+6*a+3*b)+B*B*(6+3*a+b)+B*B*B*(3+a)+B*B*B*B
theorem QCz {a b B U far e:Int} (h:2^16<=B) (A:0<=a/\a<=100) (C:0<=b/\b<=100) (u:0<U) (e0:0<e) (e1:e<U) {N D:Int} (hD:D=(B - 1)*(B - 1)*(B - 1)*U) (hN:N=(b+a*B+B*B)*(B*B*B*B*B)*U+far*D+e):
 0<D/\N.fdiv D=far+iX a b B/\(-N).fdiv (-D)=far+iX a b B/\(-N).fdiv D= -1 - (far+iX a b B)/\N.fdiv (-D)= -1 - (far+iX a b B):=by
 have R:=Sg h A C;have pl:=Y7 a b B;generalize hR:(21+15*a+10*b)*(B*B) - (35+24*a+15*b)*B+(15+10*a+6*b)=r at*;have hq:(15+10*a+6*b)+B*(10+6*a+3*b)+B*B*(6+3*a+b)+B*B*B*(3+a)+B*B*B*B=iX a b B:=rfl;rw[hq] at pl;have b1:0<B - 1:=(bE h)
 have c3:=lU (lU b1 b1) b1;generalize hc:(B - 1)*(B - 1)*(B - 1)=c at*;have D0:0<D:=hD▸lU c3 u;have ru:(r+1)*U<=c*U:=mV R.2<|bw u;have r0:0<=r*U:=kG R.1<|bw u;rw[qu,gq] at ru
 have n2:N=(r*U+e)+D*(far+iX a b B):=by
  rw[hN,pl,hD]
  grind
 have f:N.fdiv D=far+iX a b B:=by rw[hW _ D0,n2,Iq _ _<|gE D0,Q8 (by exact (bG r0 e0)) (by rw[hD];exact (bG ru e1)),zo]
 have g:(-N).fdiv D= -1 - (far+iX a b B):=by
  have n3: -N=(D - (r*U+e))+D*(-1 - (far+iX a b B)):=by rw[n2];grind
  rw[hW _ D0,n3,Iq _ _<|gE D0,Q8 (by rw[hD];exact (bG ru e1)) (by exact (bG r0 e0)),zo]
 refine ⟨D0,f,by rw[QGn];exact f,g,?_⟩;rw[<-g,<-QGn N (-D),Int.neg_neg]
set_option exponentiation.threshold 100000
namespace B01
noncomputable def jc (h w:Int):List Int:=[15+10*(h - 3)+6*w,10+6*(h - 3)+3*w,6+3*(h - 3)+w,h,1]
theorem Ws {W:Nat} {h w:Int}:iX (h - 3) w (2^W)=undig W (jc h w):=by
 unfold iX jc;simp only[n5,vu];generalize (2:Int)^W=B
 grind
theorem Dv {a b c x y B:Int} (h:(0<=a/\a<=10)/\(0<=b/\b<=6)/\0<=c/\c<=15) (A:3<=x/\x<=100) (C:0<=y/\y<=100) (g:65536<=B):0<=c+a*(x - 3)+b*y/\c+a*(x - 3)+b*y<B:=by have x0:0<=x - 3:=Iy A.1;have x1:x - 3<=100:=kD (QGo _<|by decide) A.2;refine ⟨qw (qw h.2.2.1<|kG h.1.1 x0)<|kG h.2.1.1 C.1,pP (o9 (Ck (Ck h.2.2.2<|Hm h.1.2 x1 x0<|by decide)<|Hm h.2.1.2 C.2 C.1<|by decide)<|by decide) g⟩
theorem QCL (L:Nat) {W:Nat} (h1:16<=W) (h2:W<=315) {h w:Int} (hh:3<=h/\h<=100) (hw:0<=w/\w<=100) (hL:5<=L):(aU<|L+1).F 5 [.int<|iX (h - 3) w<|2^W,.int W] (.list<|dI<|jc h w):=by
 have big:(65536:Int)<=2^W:=BL (m:=16) h1
 have rg: ∀d∈jc h w,0<=d/\d<2^W:=by
  intro d m;simp only[jc,bp,gU,or_false] at m;rcases m with rfl|rfl|rfl|rfl|rfl
  ·exact Dv (by decide) hh hw big
  ·exact Dv (by decide) hh hw big
  ·exact gq w▸Dv (b:=1) (by decide) hh hw big
  ·exact ⟨kD (by decide) hh.1,o9 hh.2<|pP (by decide) big⟩
  ·exact ⟨by decide,pP (by decide) big⟩
 have p:dU W (undig W<|jc h w)=5:=Ju (n:=W) (by exact (aQ h1)) (ds:=[15+10*(h - 3)+6*w,10+6*(h - 3)+3*w,6+3*(h - 3)+w,h]) (l:=1) rg (by decide);rw[Ws];have:=CP L (n:=W) (xj W _ rg).1 (az (by decide) h1) (by rw[p];exact hL) (by rw[p];decide) (by rw[p];exact (aQ<|gC 5 h2)) (by exact (aQ h2));rw[p,show digs W 5 (undig W<|jc h w)=jc h w from K7 W (jc h w) rg] at this;exact this
theorem Vr (L:Nat) {W:Nat} (h1:16<=W) (h2:W<=315) (hL:5<=L): ∃x y,(aU<|L+1).F 6 [.list<|dI [],.int W] (.int x)/\(aU<|L+1).F 5 [.int x,.int W] (.list<|dI [])/\(aU<|L+1).F 6 [.list<|dI [2^W - 1,2^W - 1,2^W - 1],.int W] (.int y)/\(aU<|L+1).F 5 [.int y,.int W] (.list<|dI [2^W - 1,2^W - 1,2^W - 1]):=by
 have big:(65536:Int)<=2^W:=BL (m:=16) h1;have rg: ∀d∈[(2:Int)^W - 1,2^W - 1]++[2^W - 1],0<=d/\d<2^W:=by intro d m;simp only[sV,sa,bp,gU,or_false] at m;have q:(0:Int)<=2^W - 1/\(2:Int)^W - 1<2^W:=⟨Iy<|fw W,Int.sub_lt_self _<|by decide⟩;rcases m with rfl|rfl|rfl<;>exact q
 have p:dU W (undig W<|[(2:Int)^W - 1,2^W - 1]++[2^W - 1])=3:=Ju (n:=W) (by exact (aQ h1)) rg (by exact (bE big));have z:dU W (undig W [])=0:=by rw[vu];unfold dU;rw[JS];exact Qw (by exact (aQ<|nL<|sE ((aQ h1):1<=0+W)))
 refine ⟨_,_,BN L (ds:=[]) (hJ _) (hJ _) (az (by decide) h1) (hJ _) nofun,?_,BN L (ds:=[(2:Int)^W - 1,2^W - 1]++[2^W - 1]) (by show 3<=L;exact (aQ hL)) (by show 3<=256;decide) (az (by decide) h1) (by show W*3<=_;exact (aQ<|gC 3 h2)) rg,?_⟩
 ·have:=CP L (n:=W) (a:=undig W []) (uW _) (az (by decide) h1) (by rw[z];exact (by simp+arith)) (by rw[z];exact (by simp+arith)) (by rw[z];exact (by simp+arith)) (by exact (aQ h2))
  rw[z] at this;exact this
 ·have:=CP L (n:=W) (xj W _ rg).1 (az (by decide) h1) (by rw[p];exact az (by decide) hL) (by rw[p];decide) (by rw[p];exact az (Nat.mul_le_mul_right 3 h2)<|by decide) (az h2<|by decide)
  rw[p,show digs W 3 (undig W<|[(2:Int)^W - 1,2^W - 1]++[2^W - 1])=[(2:Int)^W - 1,2^W - 1]++[2^W - 1] from K7 W _ rg] at this;exact this
noncomputable def GD:EW:=.call 5 [.call 6 [.aC 201,.aC 3],.aC 3]
noncomputable def FI (w' u d f:Int) (fs:aK) (h w c:Int):Ls:=[(3,.val<|.int w'),(4,.val<|.int u),(5,.val<|.int d),(6,.val<|.int f),(7,.val fs),(8,.unb),(9,.unb),(10,.unb),(11,.unb),(12,.unb),(0,.val<|.int h),(1,.val<|.int w),(2,.val<|.int c)]
theorem LR {o:bj} {w' u d f h w c x y:Int} {fs:aK} {A B:List Int} (a:o.F 6 [.list<|dI A,.int w'] (.int x)) (b:o.F 5 [.int x,.int w'] (.list<|dI A)) (a2:o.F 6 [.list<|dI B,.int w'] (.int y)) (b2:o.F 5 [.int y,.int w'] (.list<|dI B)) (K:List aK->Prop) (k:K [.list<|dI A,.list<|dI B]):cW GD.w (.one 201) [] o (rB<|FI w' u d f fs h w c) [.list<|dI A,.list<|dI B] K:=fN GD (.one 201) [] o [.b aB,hi x,.d<|.list<|dI A] (rB<|FI w' u d f fs h w c) (.list<|dI A) [.list<|dI B] K rfl tt a b rfl (fN GD (.one 201) [] o [.b aB,hi y,.d<|.list<|dI B] (rB<|FI w' u d f fs h w c) (.list<|dI B) [] _ rfl tt a2 b2 rfl k)
end B01
set_option exponentiation.threshold 100000
theorem M8 (x:Int):x^bN 3=x*x*x:=by
 show x^3=_
 grind
theorem Vl (W:Nat):(2:Int)^(5*W)=2^W*2^W*2^W*2^W*2^W:=by rw[show 5*W=W+W+W+W+W by exact (by simp+arith),mr,mr,mr,mr]
theorem Me:Sz 1 1:=by unfold Sz;decide
theorem XZ {u:Int} (h:2^n+m=u) (a:0<=m) (b:m<2^n):2^n<=u/\u<2^(n+1):=by subst h;rw[rf,Int.two_mul];exact ⟨Int.le_add_of_nonneg_right a,QFv b _⟩
theorem QDJ {a:Int} (A:0<=a) (h:a<300): ∃W:Nat,16+a=W/\16<=W/\W<=315:=⟨(16+a).toNat,by omega,by omega,by omega⟩
theorem Us {a b:Int} (h:0<b) (k:0<a):b<=a*b:=kD (Cm (gq b).symm)<|mV k<|bw h
theorem A7 (a b:Int):a+b - a=b:=by simp+arith
theorem O4 (x:Int): -1 - (-1 - x)=x:=by simp+arith
theorem tn5 (W:Nat):(5*(W:Int)).toNat=5*W:=rfl
theorem Zj {w h B:Int} (hh:3<=h/\h<=100) (hw:0<=w/\w<=100) (b:65536<=B): ∀d∈[w,h - 3,1],0<=d/\d<B:=by
 intro d q;simp only[bp,gU,or_false] at q;rcases q with rfl|rfl|rfl
 ·exact ⟨hw.1,o9 hw.2<|pP (by decide) b⟩
 ·exact ⟨Iy hh.1,o9 (QGo _<|by decide)<|o9 hh.2<|pP (by decide) b⟩
 ·exact ⟨by decide,pP (by decide) b⟩
namespace B01
theorem Jc {r:bQ} {f:Int}:gj r .NotEq (.d<|.tuple [.int f,.int 0]) (.d<|.tuple [.int f,.int 0]) false:=.tup (kL (by intro x m;rcases bp.mp m with rfl|m;exact tN _;rcases List.mem_cons.mp m with rfl|m;exact tN _;exact nomatch m)) (kL (by intro x m;rcases List.mem_cons.mp m with rfl|m;exact tN _;rcases List.mem_cons.mp m with rfl|m;exact tN _;exact nomatch m))<|.oo rfl
theorem EJ (A:List Int):fP 8 (.list<|dI A)=true:=by refine dq.mpr λy m=>?_;refine aS (ij.mp m) λi _ e=>?_;subst e;rfl
theorem Bp (A B:List Int):mw [.list<|dI A,.list<|dI B]:=kL (by intro x m;rcases bp.mp m with rfl|m;exact EJ A;rcases List.mem_cons.mp m with rfl|m;exact EJ B;exact nomatch m)
noncomputable def Hd (L:Nat) (h w c w' u d m e far:Int):Prop:=ib far+ib d<=134217728/\ ∀X,X=m*2^(5*w').toNat*u+far*d+1+e-> ∃w2 w3 q r w4:Int,(∀R,cC R (.d<|.list [.int 1,.int (-1),.int (-1),.int 1]) ((c.fdiv 13).fmod 4)<|.int w2)/\ib X+ib w2<=134217728/\(∀R,cC R (.d<|.list [.int 1,.int (-1),.int 1,.int (-1)]) ((c.fdiv 13).fmod 4)<|.int w3)/\ib d+ib w3<=134217728/\(aU<|L+2).F 28 [.int<|X*w2,.int<|d*w3] (.list [.int q,.int r])/\0<=r/\(∀R,cC R (.d<|.list [.int q,.int q,.int (-1 - q),.int (-1 - q)]) ((c.fdiv 13).fmod 4)<|.int w4)/\(aU<|L+2).F 5 [.int<|w4 - far,.int w'] (.list<|dI<|jc h w)
theorem QCt (L:Nat) (hL:320<=L) {h w:Int} (hh:3<=h/\h<=100) (hw:0<=w/\w<=100) (c w' u d f g e:Int) (hw':16+c.fmod 300=w') (hu:1*2^bN 4200+(c.fdiv 7).fmod (1*2^bN 4200)=u) (hd:(1*2^w'.toNat - 1)^bN 3*u=d) (hf:1*2^bN (ib d:Int) - 1=f) (hg:(c.fdiv 5).fmod (1*2^bN 4300)=g) (he:(c.fdiv 11).fmod (u - 1)=e): ∃x y m:Int,(aU<|L+2).F 6 [.list<|dI [],.int w'] (.int x)/\(aU<|L+2).F 5 [.int x,.int w'] (.list<|dI [])/\(aU<|L+2).F 6 [.list<|dI [1*2^w'.toNat - 1,1*2^w'.toNat - 1,1*2^w'.toNat - 1],.int w'] (.int y)/\(aU<|L+2).F 5 [.int y,.int w'] (.list<|dI [1*2^w'.toNat - 1,1*2^w'.toNat - 1,1*2^w'.toNat - 1])/\(aU<|L+2).F 6 [.list [.int w,.int<|h - 3,.int 1],.int w'] (.int m)/\(aU<|L+2).F 8 [.int<|f*d,.int d] (.tuple [.int f,.int 0])/\((ib 1:Nat):Int)+w'<=134217728/\((ib (1*2^w'.toNat - 1):Nat):Int)*3<=134217728/\ib ((1*2^w'.toNat - 1)^bN 3)+ib u<=134217728/\((ib 1:Nat):Int)+(ib d:Nat)<=134217728/\ib f+ib d<=134217728/\ib 5+ib w'<=134217728/\((ib m:Nat):Int)+5*w'<=134217728/\ib (m*2^(5*w').toNat)+ib u<=134217728/\ ¬ u - 1=0/\0<=w'/\0<=5*w'/\Hd L h w c w' u d m e (f - g.fmod (1*2^bN 2000))/\Hd L h w c w' u d m e g:=by
 have p4:(1:Int)*2^bN 4200=2^4200:=by rw[gq];rfl
 have p43:(1:Int)*2^bN 4300=2^4300:=by rw[gq];rfl
 have p20:(1:Int)*2^bN 2000=2^2000:=by rw[gq];rfl
 refine dA (QDJ (nX c<|by decide)<|nW c<|by decide) λW eW W1 W2=>?_;have eW:=hw'.symm.trans eW;have tW:w'.toNat=W:=eW▸rfl;have t5:(5*w').toNat=5*W:=eW▸rfl;have P42:(0:Int)<2^4200:=by decide
 have u0:2^4200<=u/\u<2^4201:=XZ (p4▸hu) (nX (c.fdiv 7) P42)<|nW (c.fdiv 7) P42;have up:0<u:=pP P42 u0.1;have up1:0<u - 1:=Int.sub_pos_of_lt (pP (by decide) u0.1);obtain ⟨B,hB⟩: ∃B:Int,2^W=B:=⟨_,rfl⟩;have big:(65536:Int)<=B:=hB▸BL (m:=16) W1;have hd2:d=(B - 1)*(B - 1)*(B - 1)*u:=by rw[<-hd,tW,gq,hB,M8]
 have b1:0<B - 1:=(bE big)
 have d0:0<d:=hd2▸lU (lU (lU b1 b1) b1) up;have zB:Sz 315 (B - 1):=pd (by exact (bE big)) (by have:B<=2^315:=hB▸BL W2;exact (bE this));have zu:Sz 4201 u:=pd (bw up) u0.2;have zB3:=iD (iD zB zB) zB;have zd:Sz 5146 d:=hd2▸iD zB3 zu;have dn:=qk zd;have dbig:4200<=ib d:=WT<|kD u0.1<|hd2▸Us up (lU (lU b1 b1) b1);have zf:Sz 5148 f:=by rw[<-hf,gq,lR];exact fD (xg (AY<|ib d)<|fD Me<|by exact (by simp+arith)) (by exact (aQ dn))
 have zg:Sz 4300 g:=by rw[p43] at hg;exact pd (hg▸nX _ (by decide)) (hg▸nW _ (by decide))
 have zg2:Sz 2000 (g.fmod<|1*2^bN 2000):=by rw[p20];exact pd (nX _<|by decide) (nW _<|by decide)
 have e0:0<=e/\e<u - 1:=⟨he▸nX _ up1,he▸nW _ up1⟩;have ze:Sz 4201 e:=pd e0.1 (by exact (bG u0.2 e0.2));obtain ⟨m,hm⟩: ∃m,undig W [w,h - 3,1]=m:=⟨_,rfl⟩;have m3:(aU<|L+2).F 6 [.list [.int w,.int<|h - 3,.int 1],.int W] (.int m):=hm▸BN (L+1) (ds:=[w,h - 3,1]) (by show 3<=L+1;exact (aQ hL)) (by show 3<=256;decide) (by exact (aQ W1)) (by show W*3<=_;exact (aQ<|gC 3 W2)) (hB▸Zj hh hw big)
 have m4:m=w+(h - 3)*B+B*B:=by
  rw[<-hm];simp only[n5,vu,hB]
  grind
 have zBB:Sz 316 B:=hB▸fD (AY W) (H7 W2);have z8: ∀{x:Int},0<=x/\x<=100->Sz 8 x:=λq=>pd q.1 (o9 q.2<|by decide);have zm:Sz 634 m:=m4▸lY (fD (lY (fD (z8 hw) (by decide:8<=324))<|iD (z8 ⟨Iy hh.1,by exact (bE hh.2)⟩) zBB)<|by decide) (fD (iD zBB zBB)<|by decide);have z5:Sz 1576 ((2:Int)^(5*W)):=fD (AY _) (by exact (aQ<|gC 5 W2))
 have dh: ∀far:Int,Sz 5149 far->ib far+ib d<=134217728/\ ∀X,X=m*2^(5*w').toNat*u+far*d+1+e-> ∃w2 w3 q r w4:Int,(∀R,cC R (.d<|.list [.int 1,.int (-1),.int (-1),.int 1]) ((c.fdiv 13).fmod 4)<|.int w2)/\ib X+ib w2<=134217728/\(∀R,cC R (.d<|.list [.int 1,.int (-1),.int 1,.int (-1)]) ((c.fdiv 13).fmod 4)<|.int w3)/\ib d+ib w3<=134217728/\(aU<|L+2).F 28 [.int<|X*w2,.int<|d*w3] (.list [.int q,.int r])/\0<=r/\(∀R,cC R (.d<|.list [.int q,.int q,.int (-1 - q),.int (-1 - q)]) ((c.fdiv 13).fmod 4)<|.int w4)/\w4 - far=iX (h - 3) w B:=λfar zfar=>by
  refine ⟨lM zfar zd (by decide),λX hX=>?_⟩;rw[t5] at hX;have zX:Sz 10300 X:=by rw[hX];exact fD (lY (lY (lY (fD (iD (iD zm z5) zu) (by decide:634+1576+4201<=10295))<|iD zfar zd)<|fD Me<|by decide)<|fD ze<|by decide) (by decide)
  have core:=QCz (a:=h - 3) (b:=w) (B:=B) (U:=u) (far:=far) (e:=1+e) (N:=X) (D:=d) (by exact big) ⟨by exact (bE hh.1),by exact (bE hh.2)⟩ hw up (by exact (bE e0.1)) (by exact (bE e0.2)) hd2 (by rw[hX,m4,Vl,hB];grind);have pm: ∀s:Int,s=1\/s= -1->Sz 1 s:=λs q=>by rcases q with q|q<;>subst q<;>(unfold Sz;decide)
  have go: ∀w2 w3:Int,(w2=1\/w2= -1)->(w3=1\/w3= -1)->ib X+ib w2<=134217728/\ib d+ib w3<=134217728/\(aU<|L+2).F 28 [.int<|X*w2,.int<|d*w3] (.list [.int<|(X*w2).fdiv<|d*w3,.int (((X*w2).fmod<|d*w3).natAbs:Nat)]):=λw2 w3 h2 h3=>by
   have ed:ib (d*w3)=ib d:=by
    rcases h3 with q|q<;>subst q
    ·rw[ug]
    ·exact jk (Au<|by exact (oM<|bG (iR<|jS ((bE d0):0<=d))<|iL<|xO ((bE d0):d* -1<=0))) (Au<|by exact (oM<|bG (iR<|xO ((bE d0):d* -1<=0))<|iL<|jS ((bE d0):0<=d)))
   have ex:ib (X*w2)<=10300:=qk (by rcases h2 with q|q<;>subst q;rw[Int.mul_one];exact zX;rw[Int.mul_neg_one];exact La zX);exact ⟨lM zX (pm w2 h2) (by decide),lM zd (pm w3 h3) (by decide),Ke L (by exact (aQ hL)) (Int.mul_ne_zero (Int.ne_of_gt d0) (by rcases h3 with q|q<;>subst q<;>decide)) (by rw[ed];exact (aQ dn)) (by rw[ed];exact Nat.le_trans ex<|Nat.le_trans (by decide)<|Nat.mul_le_mul_left 100 dbig)⟩
  refine aS (kY (c.fdiv 13) (n:=4)<|by decide) λz hz ez=>?_;have l4:(4:Int)<2^63:=by decide
  rcases (QBz z hz) with q|q|q|q<;>subst q
  ·have:=go 1 1 (.inl rfl) (.inl rfl)
   exact ⟨1,1,_,_,far+iX (h - 3) w B,λR=>dH rfl ez l4,this.1,λR=>dH rfl ez l4,this.2.1,this.2.2,dP _,λR=>dH (by rw[ug,ug,core.2.1];rfl) ez l4,A7 _ _⟩
  ·have:=go (-1) (-1) (.inr rfl) (.inr rfl)
   exact ⟨-1, -1,_,_,far+iX (h - 3) w B,λR=>dH rfl ez l4,this.1,λR=>dH rfl ez l4,this.2.1,this.2.2,dP _,λR=>dH (by rw[Iz,Iz,core.2.2.1];rfl) ez l4,A7 _ _⟩
  ·have:=go (-1) 1 (.inr rfl) (.inl rfl)
   exact ⟨-1,1,_,_,far+iX (h - 3) w B,λR=>dH rfl ez l4,this.1,λR=>dH rfl ez l4,this.2.1,this.2.2,dP _,λR=>dH (by rw[Iz,ug,core.2.2.2.1,O4];rfl) ez l4,A7 _ _⟩
  ·have:=go 1 (-1) (.inl rfl) (.inr rfl)
   exact ⟨1, -1,_,_,far+iX (h - 3) w B,λR=>dH rfl ez l4,this.1,λR=>dH rfl ez l4,this.2.1,this.2.2,dP _,λR=>dH (by rw[ug,Iz,core.2.2.2.2,O4];rfl) ez l4,A7 _ _⟩
 have zx:Sz 315 (1*2^w'.toNat - 1):=by rw[tW,gq,hB];exact zB
 have zx3:Sz 945 ((1*2^w'.toNat - 1)^bN 3):=by rw[M8];exact iD (iD zx zx) zx
 have ex:(2:Int)^W - 1=1*2^w'.toNat - 1:=by rw[tW,gq]
 have zw:Sz 10 w':=eW▸ig W2 (by decide);have z55:Sz 3 5:=by unfold Sz;decide
 have zp:Sz 1576 ((2:Int)^(5*w').toNat):=t5▸z5;obtain ⟨x,y,f1,f2,f3,f4⟩:=Vr (L+1) W1 W2 (by exact (aQ hL));rw[ex] at f3 f4;have f5:=λfar w4 (q:w4 - far=iX (h - 3) w B)=>QCL (L+1) W1 W2 hh hw (by exact (aQ hL));rw[hB] at f5;rw[<-eW] at f1 f2 f3 f4 m3 f5;have i8:=Ja (L+1) (by exact (aQ hL)) (a:=f*d) (gE d0) (by exact (aQ dn)) (az (qk<|iD zf zd)<|az (by decide)<|gC 100 dbig);rw[Int.mul_fdiv_cancel _<|gE d0,Int.mul_fmod_left] at i8;have i1:ib 1=1:=rfl;have zfr:Sz 5149 (f - g.fmod (1*2^bN 2000)):=xg zf (fD zg2<|by decide);have zmi:=qk zm;have zxi:=qk zx;have q9:((ib 1:Nat):Int)+w'<=134217728:=by rw[i1];exact (bG (iL eW)<|oL W2)
 have q11:((ib (1*2^w'.toNat - 1):Nat):Int)*3<=134217728:=(bE<|mI 3<|oL zxi)
 have q12:=lM zx3 zu (by decide);have q15:((ib 1:Nat):Int)+(ib d:Nat)<=134217728:=by rw[i1];exact (bE<|oL dn)
 have q19:=lM zf zd (by decide);have q41:=lM z55 zw (by decide);have q43:((ib m:Nat):Int)+5*w'<=134217728:=by omega
 have q44:=lM (iD zm zp) zu (by decide);have q48: ¬ u - 1=0:=gE up1;have w0:0<=w':=(bG (iR eW)<|oL W1)
 have w5:0<=5*w':=(bG (mI 5<|iR eW)<|mI 5<|oL W1)
 have bG: ∀far:Int,Sz 5149 far->Hd L h w c w' u d m e far:=λfar zfar=>⟨(dh far zfar).1,λX hX=>by
  obtain ⟨w2,w3,q,r,w4,a1,a2,a3,a4,a5,a6,a7,a8⟩:=(dh far zfar).2 X hX
  exact ⟨w2,w3,q,r,w4,a1,a2,a3,a4,a5,a6,a7,a8▸f5 far w4 a8⟩⟩
 exact ⟨x,y,m,f1,f2,f3,f4,m3,i8,q9,q11,q12,q15,q19,q41,q43,q44,q48,w0,w5,bG _ zfr,bG _<|fD zg<|by decide⟩
noncomputable def Na (c:Int):Int:=16+c.fmod 300
noncomputable def EM (c:Int):Int:=1*2^bN 4200+(c.fdiv 7).fmod (1*2^bN 4200)
noncomputable def OP (c:Int):Int:=(1*2^(Na c).toNat - 1)^bN 3*EM c
noncomputable def muB (c:Int):Int:=1*2^bN (ib (OP c):Int) - 1
noncomputable def UM (c:Int):Int:=(c.fdiv 5).fmod<|1*2^bN 4300
noncomputable def Tt (c:Int):Int:=(c.fdiv 11).fmod<|EM c - 1
theorem P_ (L:Nat) (hL:320<=L) {h w:Int} (hh:3<=h/\h<=100) (hw:0<=w/\w<=100) (c:Int):(aU<|L+3).F 33 [.int h,.int w,.int c] (.list<|dI<|jc h w):=by
 have p4:(1:Int)*2^bN 4200=2^4200:=by rw[gq];rfl
 have p43:(1:Int)*2^bN 4300=2^4300:=by rw[gq];rfl
 have p20:(1:Int)*2^bN 2000=2^2000:=by rw[gq];rfl
 obtain ⟨x,y,m,f1,f2,f3,f4,m3,i8,q9,q11,q12,q15,q19,q41,q43,q44,q48,w0,w5,G1,G2⟩:=QCt L hL hh hw c (Na c) (EM c) (OP c) (muB c) (UM c) (Tt c) rfl rfl rfl rfl rfl rfl;have ps: ∀(a:Int) R,fe R .Mult (.d<|.list [.int a]) (.d<|.int 3)<|.list<|dI [a,a,a]:=λa R=>.mul (n:=3) .d (by show 1*3<=256;decide) (by decide) (by decide);induction par:((c.fdiv 2).fmod 2==0) with
 |true=>obtain ⟨q45,G⟩:=G1;obtain ⟨w2,w3,q,r,w4,a1,a2,a3,a4,a5,a6,a7,a8⟩:=G _ rfl;exact dj (rE HV 3 [3,4,5,6,7,8,9,10,11,12] [hi _,.d<|.list _,.d<|.tuple _,.b aE,.b aE,.ds _,.b aE,.b aE,.b aE,.b aB,hi m,hi w2,hi w3,.d<|.list [.int q,.int r],.b aE,hi w4,.d<|.list<|dI<|jc h w] (aU<|L+2) [.int h,.int w,.int c] _ rfl ff (by decide) (by decide) ff (nl rfl) (by decide) (by decide) (df (by rw[p4];decide)) w0 q9 tt q11 q12 .bits (dP _) q15 w0 q9 (ps _ _) q19 i8 Jc rfl (by show 2<=16777216;decide) (λK k=>LR f1 f2 f3 f4 K k) (.lst .d .d (Bp [] _) (Bp [] _)<|.oo rfl) rfl rfl ff (nl rfl) (by decide) (by decide) (df (by rw[p43];decide)) ff (nl rfl) ff par (by decide) (by decide) (df (by rw[p20];decide)) m3 q41 w5 q43 q44 q45 ff (nl rfl) (df q48) ff (nl rfl) ff (a1 _) a2 (a3 _) a4 a5 (df<|jL.mpr a6) (a7 _) a8 .ret) rfl
 |false=>obtain ⟨q45,G⟩:=G2;obtain ⟨w2,w3,q,r,w4,a1,a2,a3,a4,a5,a6,a7,a8⟩:=G _ rfl;exact dj (rE HV 3 [3,4,5,6,7,8,9,10,11,12] [hi _,.d<|.list _,.d<|.tuple _,.b aE,.b aE,.ds _,.b aE,.b aE,.b aE,.b aE,hi m,hi w2,hi w3,.d<|.list [.int q,.int r],.b aE,hi w4,.d<|.list<|dI<|jc h w] (aU<|L+2) [.int h,.int w,.int c] _ rfl ff (by decide) (by decide) ff (nl rfl) (by decide) (by decide) (df (by rw[p4];decide)) w0 q9 tt q11 q12 .bits (dP _) q15 w0 q9 (ps _ _) q19 i8 Jc rfl (by show 2<=16777216;decide) (λK k=>LR f1 f2 f3 f4 K k) (.lst .d .d (Bp [] _) (Bp [] _)<|.oo rfl) rfl rfl ff (nl rfl) (by decide) (by decide) (df (by rw[p43];decide)) ff (nl rfl) ff par m3 q41 w5 q43 q44 q45 ff (nl rfl) (df q48) ff (nl rfl) ff (a1 _) a2 (a3 _) a4 a5 (df<|jL.mpr a6) (a7 _) a8 .ret) rfl
end B01
namespace B01
noncomputable def eR (t:bx):List Int:=(bg 8).map λj=>((bg 4).countP λx=>(eV t x).contains j:Nat)
noncomputable def cF (a b:Int×Int):Int×Int:=(b.1 - a.1,b.2 - a.2)
noncomputable def vk (t:bx):Int:=((cF (p0 t)<|p1 t).1*(cF (p1 t)<|p2 t).2 - (cF (p0 t)<|p1 t).2*(cF (p1 t)<|p2 t).1).natAbs
noncomputable def fg (p:Int×Int):Int:=(AL p.1.natAbs p.2.natAbs:Nat)
noncomputable def uF (t:bx):Int:=fg (cF (p2 t)<|p0 t)+fg (cF (p0 t)<|p1 t)+fg (cF (p1 t)<|p2 t)
noncomputable def Bq (t:bx):List Int:=[4,3,2,1,0].map λk=>(vk t*k*k+uF t*k+2).fdiv 2
noncomputable def tG (t:bx):Int:=((eR t).take 5).sum
noncomputable def qX (t:bx):Int:=((eR t).drop 5).sum
noncomputable def Ey (t:bx) (k:Nat):Bool:= !iQ (so t) k||(!(dN (cQ (p0 t) (p1 t)<|p2 t) k).isEmpty && Nat.blt k 4)
noncomputable def Aj (t:bx):Bool:=(bg 5).all (Ey t) && ((xp t==eR t) && ((decide (3<=tG t) && decide (tG t<=100)) && ((decide (0<=qX t) && decide (qX t<=100)) && (jc (tG t) (qX t)==Bq t))))
noncomputable def AU (n:Nat) (k:Nat->Bool):Bool:=Nat.rec (k 0) (λm O=>k<|DD m) n
noncomputable def v3 (x:Int) (k:Int->Bool):Bool:=Int.rec (λn=>AU n λm=>k<|.ofNat m) (λn=>AU n λm=>k<|.negSucc m) x
noncomputable def CU (l:List Int):(List Int->Bool)->Bool:=QGp (λk=>k []) (λa O ih k=>v3 a λa=>ih λl=>k<|a::l) l
noncomputable def u7 (l:List Nat):(List Nat->Bool)->Bool:=QGp (λk=>k []) (λa O ih k=>AU a λa=>ih λl=>k<|a::l) l
theorem Gp (n:Nat) (k:Nat->Bool):AU n k=k n:=by cases n<;>rfl
theorem KO (x:Int) (k:Int->Bool):v3 x k=k x:=by
 cases x with
 |ofNat n=>exact Gp n λm=>k<|.ofNat m
 |negSucc n=>exact Gp n λm=>k<|.negSucc m
theorem QCj (l:List Int): ∀k,CU l k=k l:=by
 induction l with
 |nil=>exact λk=>rfl
 |cons a l ih=>exact λk=>(KO a λa=>CU l λl=>k<|a::l).trans<|ih _
theorem S_ (l:List Nat): ∀k,u7 l k=k l:=by
 induction l with
 |nil=>exact λk=>rfl
 |cons a l ih=>exact λk=>(Gp a λa=>u7 l λl=>k<|a::l).trans<|ih _
noncomputable def RK (a b c d:List Nat):List Int:=(bg 8).map λj=>(([a,b,c,d].countP λx=>x.contains j:Nat):Int)
noncomputable def GX (t:bx):Bool:=(bg 5).all (Ey t) && CU (xp t) λc=>u7 (eV t 0) λb0=>u7 (eV t 1) λb1=>u7 (eV t 2) λb2=>u7 (eV t 3) λb3=>CU (RK b0 b1 b2 b3) λf=>c==f && v3 (f.take 5).sum λa=>v3 (f.drop 5).sum λi=>(decide (3<=a) && decide (a<=100)) && ((decide (0<=i) && decide (i<=100)) && v3 (vk t) λA=>v3 (uF t) λs=>jc a i==[4,3,2,1,0].map λk=>(A*k*k+s*k+2).fdiv 2)
theorem z_ (t:bx):GX t=Aj t:=by unfold GX;simp only[QCj,S_,KO];rfl
noncomputable def lB (y0 x1:Nat):Bool:=[0,1,2,3].all λy1=>[0,1,2,3].all λx2=>[0,1,2,3,4].all λy2=>qY x1 y1 x2 y2 y0||GX ⟨y0,x1,y1,x2,y2⟩
theorem QEF:lB 0 1=true:=by decide+kernel
theorem QBw:lB 0 2=true:=by decide+kernel
theorem ZU:lB 0 3=true:=by decide+kernel
theorem ZK:lB 1 1=true:=by decide+kernel
theorem TL:lB 1 2=true:=by decide+kernel
theorem Wy:lB 1 3=true:=by decide+kernel
theorem VJ:lB 2 1=true:=by decide+kernel
theorem QAN:lB 2 2=true:=by decide+kernel
theorem QAZ:lB 2 3=true:=by decide+kernel
theorem Te:lB 3 1=true:=by decide+kernel
theorem QAD:lB 3 2=true:=by decide+kernel
theorem T_:lB 3 3=true:=by decide+kernel
theorem WA: ∀y0∈[0,1,2,3],∀x1∈[1,2,3],lB y0 x1=true:=by simp only[List.forall_mem_cons];exact ⟨⟨QEF,QBw,ZU,nofun⟩,⟨ZK,TL,Wy,nofun⟩,⟨VJ,QAN,QAZ,nofun⟩,⟨Te,QAD,T_,nofun⟩,nofun⟩
end B01
section
open PySem.StrLaws
namespace B01
theorem QCp (L:Nat) {k l v:Nat} {x y:aG} (b:gL.contains (k:Int)=aE) (m:lA k=x) (b2:gL.contains (l:Int)=aE) (m2:lA l=y) (hv:v<27) (j:nU ⟨#[]⟩ [x,y]):(aU<|L+2).F 17 [.str ⟨#[k,l,cm v]⟩] (.str<|DJ ⟨#[]⟩ [x,y]):=by
 have t:(nI ⟨#[k,l,cm v]⟩).filterMap rp=[x,y].map .str:=by show QGe rp [ma k,ma l,ma<|cm v]=_;rw[nP,BI b m,nP,BI b2 m2,nP,FO (rN v hv).1];rfl
 exact NH L (bJ rfl) t j
noncomputable def nmL:List (List Nat):=[[102],[105],[108],[115],[116],[102,102],[102,105],[115,116]]
noncomputable def yX (k:Nat):Str:=⟨(nmL.getD k []).toArray⟩
noncomputable def Ez:List Dat:=[.str ⟨#[102]⟩,.str ⟨#[105]⟩,.str ⟨#[108]⟩,.str ⟨#[115]⟩,.str ⟨#[116]⟩,.str ⟨#[102,102]⟩,.str ⟨#[102,105]⟩,.str ⟨#[115,116]⟩]
noncomputable def GO:List Dat:=[.str ⟨#[10]⟩,.str ⟨#[13]⟩,.str ⟨#[13,10]⟩]
noncomputable def eQ (C:aK) (c:Int) (s4 s5 s6 s7 s8 s9 s10 s11 s12:Sl):Ls:=[(2,.val<|.list Ez),(3,.val<|.list GO),(4,s4),(5,s5),(6,s6),(7,s7),(8,s8),(9,s9),(10,s10),(11,s11),(12,s12),(0,.val C),(1,.val<|.int c)]
theorem Og: ∀k,k<8->Ez[k]?=aA (.str<|yX k)
 |0,_|1,_|2,_|3,_|4,_|5,_|6,_|7,_=>rfl
 |n+8,h=>QHb h λK=>ky K
structure Ek (k:Nat) (B:List Nat):Prop where
 ne:B≠[]
 len:B.length<=4
 big: ∀c∈B,46<c
 pre: ∀L,(aU<|L+2).F 17 [.str ⟨B.toArray⟩]<|.str<|yX k
theorem QAn:gL.contains ((64256:Nat):Int)=aE/\gL.contains ((64257:Nat):Int)=aE/\gL.contains ((64262:Nat):Int)=aE/\lA 64256=⟨#[102,102]⟩/\lA 64257=⟨#[102,105]⟩/\lA 64262=⟨#[115,116]⟩:=by decide+kernel
theorem yo (L:Nat) {C:aK} {c t:Int} {a w:Nat} {s4 s6 s7:Sl} (ha:a∈tZ) (ew:(c.fdiv 8+t).fmod 12=w) (hw:w<12):CE (RB 13 [cR,.aH .Add (.aH .FloorDiv om<|.int 8) HN]).w eE [] (aU<|L+1) (gI<|eQ C c s4 (.val<|.int t) s6 s7 .unb .unb .unb .unb .unb) (.str ⟨#[a]⟩) (aA<|.str ⟨#[dS a w]⟩):=λR K h=>fN (.call 13 [cR,.aH .Add (.aH .FloorDiv om<|.int 8) HN]) eE [] (aU<|L+1) [.b aB,ht ⟨#[dS a w]⟩] (gI<|eQ C c s4 (.val<|.int t) s6 s7 .unb .unb .unb .unb .unb) (.str ⟨#[a]⟩) R K rfl tt ff (nl rfl) (EF L (HL _ ha).1 (HL _ ha).2 ew hw) rfl h
theorem T6 (a:Nat):nU ⟨#[]⟩ [(⟨#[a]⟩:aG)]:=FL (by show 1<=1000;decide) (by decide)
theorem FG (a b:Nat):nU ⟨#[]⟩ [(⟨#[a]⟩:aG),⟨#[b]⟩]:=by delta nU QGR;rfl
noncomputable abbrev Eu (L:Nat) (C:aK) (c:Int) (t k:Nat):Prop:= ∃B,Ek k B/\ ∃y:aG,∀rs s5 s6 s7 xs K,rs.length<=100->
 fW (.one 5) (wK.map SW.w) (aU<|L+1) xs (eQ C c (.own<|rs++[.str ⟨(46::B).toArray⟩]) (.val<|.int t) (.val<|.int k) (.val<|.str y) .unb .unb .unb .unb .unb) K->
 fW (.one 5) (wK.map SW.w) (aU<|L+1) (.int t::xs) (eQ C c (.own rs) s5 s6 s7 .unb .unb .unb .unb .unb) K
theorem Td (L:Nat) (C:aK) (c:Int) (t k:Nat) (ht8:t<8) (ek:(c+t).fmod 8=k) (hk:k<8):Eu L C c t k:=by
 refine aS (kY (c.fdiv 8+t) (n:=12)<|by decide) λw hw ew=>?_;refine aS (kY (c.fdiv 8+5*t) (n:=27)<|by decide) λv hv ev=>?_;have hh:=AQ L ev hv;have i5:ib (5:Int)+ib (t:Int)<=134217728:=xX (by decide) (sF ht8<|by decide);have nk: ∀r,cC r (.d<|.list Ez) ((c+t).fmod 8)<|.str<|yX k:=λr=>dH (Og k hk) ek (by decide)
 have one: ∀a,a∈tZ->yX k=⟨#[a]⟩->k<=4->Eu L C c t k:=λa ha e h4=>by
  refine eN (Cj a ha w hw) λf1 f2 f3=>?_;have hb:=(rN v hv).2;refine ⟨[dS a w,cm v],⟨nofun,bJ rfl,λd m=>?_,λL=>?_⟩,⟨#[dS a w]⟩,λrs s5 s6 s7 xs K hr h=>?_⟩
  ·rcases bp.mp m with rfl|m
   ·exact (aQ f3)
   ·rw[Ig.mp m];exact (aQ hb)
  ·rw[e];exact HX L f1 f2 (by show 1<=1000;decide) hv
  ·rw[e] at nk
   rw[<-ek] at h;exact fx (.one 5) wK _ [ht _,.ds [.str ⟨#[dS a w]⟩],ht ⟨#[dS a w]⟩,.b aB,.b aE,ht ⟨#[46,dS a w]⟩,ht ⟨#[cm v]⟩,ht ⟨#[46,dS a w,cm v]⟩] (.int t) xs (eQ C c (.own rs) s5 s6 s7 .unb .unb .unb .unb .unb) K ff (nk _) (bJ rfl) (λK h=>yo L ha ew hw [] K h) (.join .d<|T6 _) (df<|jL.mpr<|by exact (bG (iL ek)<|oL h4)) rfl (oj rfl rfl) ff (nl rfl) i5 hh (oj rfl rfl) (by exact (aQ hr)) h
 have two: ∀(a b u:Nat),a∈tZ->b∈tZ->yX k=⟨#[a,b]⟩->4<k->gL.contains (u:Int)=aE->lA u=⟨#[a,b]⟩->46<u->u<=1114111->(∀r,cC r (.d<|.list [.int 64256,.int 64257,.int 64262]) ((c+t).fmod 8 - 5)<|.int u)->Eu L C c t k:=λa b u ha hb' e h4 u1 u2 u3 u4 ui=>by
  refine eN (Cj a ha w hw) λf1 f2 f3=>?_;refine eN (Cj b hb' w hw) λg1 g2 g3=>?_;have hb:=(rN v hv).2;rw[e] at nk;induction par:((c.fdiv 96+t).fmod 2==0) with
  |false=>
   refine ⟨[dS a w,dS b w,cm v],⟨nofun,bJ rfl,λd m=>?_,λL=>?_⟩,⟨#[dS a w,dS b w]⟩,λrs s5 s6 s7 xs K hr h=>?_⟩
   ·simp only[bp,gU,or_false] at m
    rcases m with rfl|rfl|rfl
    ·exact (aQ f3)
    ·exact (aQ g3)
    ·exact (aQ hb)
   ·rw[e];exact QCp L f1 f2 g1 g2 hv<|FG _ _
   ·rw[<-ek] at h
    exact fx (.one 5) wK _ [ht _,.ds [.str ⟨#[dS a w]⟩,.str ⟨#[dS b w]⟩],ht ⟨#[dS a w,dS b w]⟩,.b aE,.b aB,.b aE,ht ⟨#[46,dS a w,dS b w]⟩,ht ⟨#[cm v]⟩,ht ⟨#[46,dS a w,dS b w,cm v]⟩] (.int t) xs (eQ C c (.own rs) s5 s6 s7 .unb .unb .unb .unb .unb) K ff (nk _) (bJ rfl) (λK h=>yo L ha ew hw [.str ⟨#[b]⟩] K<|yo L hb' ew hw [] _ h) (.join .d<|FG _ _) (dt<|by exact (bG (iR ek)<|oL h4)) ff (nl rfl) ff par rfl (oj rfl rfl) ff (nl rfl) i5 hh (oj rfl rfl) (by exact (aQ hr)) h
  |true=>
   refine ⟨[u,cm v],⟨nofun,bJ rfl,λd m=>?_,λL=>?_⟩,⟨#[u]⟩,λrs s5 s6 s7 xs K hr h=>?_⟩
   ·simp only[bp,gU,or_false] at m
    rcases m with rfl|rfl
    ·exact u3
    ·exact (aQ hb)
   ·rw[e];exact HX L u1 u2 (by show 2<=1000;decide) hv
   ·rw[<-ek] at h
    exact fx (.one 5) wK _ [ht _,.ds [.str ⟨#[dS a w]⟩,.str ⟨#[dS b w]⟩],ht ⟨#[dS a w,dS b w]⟩,.b aE,.b aE,.b aB,hi u,ht ⟨#[u]⟩,ht ⟨#[46,u]⟩,ht ⟨#[cm v]⟩,ht ⟨#[46,u,cm v]⟩] (.int t) xs (eQ C c (.own rs) s5 s6 s7 .unb .unb .unb .unb .unb) K ff (nk _) (bJ rfl) (λK h=>yo L ha ew hw [.str ⟨#[b]⟩] K<|yo L hb' ew hw [] _ h) (.join .d<|FG _ _) (dt<|by exact (bG (iR ek)<|oL h4)) ff (nl rfl) ff par rfl (ui _) (yB rfl u4) (oj rfl rfl) ff (nl rfl) i5 hh (oj rfl rfl) (by exact (aQ hr)) h
 have lf:=QAn;rcases (Ln k hk) with rfl|rfl|rfl|rfl|rfl|rfl|rfl|rfl
 ·exact one 102 (by decide) rfl (by decide)
 ·exact one 105 (by decide) rfl (by decide)
 ·exact one 108 (by decide) rfl (by decide)
 ·exact one 115 (by decide) rfl (by decide)
 ·exact one 116 (by decide) rfl (by decide)
 ·exact two 102 102 64256 (by decide) (by decide) rfl (by decide) lf.1 lf.2.2.2.1 (by decide) (by decide) λr=>dH (w:=0) rfl (by exact (vd ek)) (by decide)
 ·exact two 102 105 64257 (by decide) (by decide) rfl (by decide) lf.2.1 lf.2.2.2.2.1 (by decide) (by decide) λr=>dH (w:=1) rfl (by exact (vd ek)) (by decide)
 ·exact two 115 116 64262 (by decide) (by decide) rfl (by decide) lf.2.2.1 lf.2.2.2.2.2 (by decide) (by decide) λr=>dH (w:=2) rfl (by exact (vd ek)) (by decide)
end B01
end
section
open PySem.StrLaws PySem.Builtin.Str
noncomputable def i4 (e:Nat):List Nat:=match e with|0=>[10]|1=>[13]|_=>[13,10]
theorem YM (r:List Nat) (h:e≠1\/r.head?≠aA 10):e2 (i4 e++r)=13::10::e2 r:=by
 rcases e with O|O|O
 ·exact OJ r
 ·exact JE<|h.resolve_left λq=>q rfl
 ·exact LP r
theorem Yj (b:Bool) (core r:List Nat):e1 b (core++13::10::r)=e1 b core++13::10::e1 aB r:=by
 simp only[Zf];generalize xh b core=c;have:e1 c (13::10::r)=13::10::e1 aB r:=by simp[nK]
 exact sb this rfl
theorem v5 (e:Nat):(i4 e).length<=2:=by rcases e with O|O|O<;>exact Nat.le_of_ble_eq_true rfl
noncomputable def j8:List (List Nat×Nat)->List Nat->List Nat
 |[],l=>l
 |p::s,l=>p.1++(i4 p.2++j8 s l)
noncomputable def jn (f:List Nat->List Nat):List (List Nat×Nat)->List Nat->List Nat
 |[],l=>f l
 |p::s,l=>f p.1++13::10::jn f s l
noncomputable def ya:List (List Nat×Nat)->List Nat->Prop
 |[],l=> ∀c∈l,c≠13/\c≠10
 |p::s,l=>(∀c∈p.1,c≠13/\c≠10)/\(p.2≠1\/(j8 s l).head?≠aA 10)/\ya s l
theorem Gq (l:List Nat): ∀s,ya s l->e2 (j8 s l)=jn id s l
 |[],h=>by have:=Ak l [] h;rw[eZ] at this;exact this.trans (eZ l)
 |p::s,h=>by show e2 (p.1++(i4 p.2++j8 s l))=_;rw[Ak _ _ h.1,YM _ h.2.1,Gq l s h.2.2];rfl
theorem JR (l:List Nat): ∀s,e1 aB (jn id s l)=jn (e1 aB) s l
 |[]=>rfl
 |p::s=>by show e1 aB (p.1++13::10::jn id s l)=_;rw[Yj,JR l s];rfl
theorem KJ (f:List Nat->List Nat) (l:List Nat): ∀s p,jn f (p::s) l=rowsOf [13,10] (f p.1) (s.map (λq=>f q.1)++[f l])
 |[],p=>rfl
 |q::s,p=>by show f p.1++13::10::jn f (q::s) l=_;rw[KJ f l s q];rfl
theorem QDR {x:aG} {s:List (List Nat×Nat)} {p q:List Nat×Nat} {l:List Nat} (hx:x.cps.toList=j8 (p::q::s) l) (h:ya (p::q::s) l) (h13: ∀r∈(p::q::s).map (λq=>e1 aB q.1)++[e1 aB l],13∉r):
 Txt.split (q1<|q2 x) ⟨#[13,10]⟩=((p::q::s).map (λq=>e1 aB q.1)++[e1 aB l]).map λr=>⟨r.toArray⟩:=
 Se (r:=e1 aB p.1) (r1:=e1 aB q.1) (rs:=s.map (λq=>e1 aB q.1)++[e1 aB l]) (by rw[Ng,J1,hx,Gq l _ h,JR,KJ];rfl) h13
noncomputable def br (n:Nat) (B:List Nat):List Nat:=dV (1+n) 46++B
theorem AS {n:Nat} {B:List Nat} (h: ∀c∈B,46<c):e1 aB (br n B)=br (n+1) B/\(∀v,46<v->e1 aB (v::br n B)=v::br n B)/\ ∀c∈br n B,c≠13/\c≠10:=by
 have a: ∀c∈br n B,c≠13/\c≠10:=by
  intro c m;rcases qn.mp m with m|m
  ·have:=(DW.mp m).2;exact ⟨(λw0=>(cY (nR this)<|nL w0)),(λw0=>(cY (nR this)<|nL w0))⟩
  ·have:=h c m;exact ⟨(λw0=>(cY this (nL w0))),(λw0=>(cY this (nL w0)))⟩
 refine ⟨?_,λv hv=>?_,a⟩
 ·have b: ∀c∈dV n 46++B,c≠10:=λc m=>by
   rcases qn.mp m with m|m
   ·have:=(DW.mp m).2;exact (λw0=>(cY (nR this)<|nL w0))
   ·have:=h c m;exact (λw0=>(cY this (nL w0)))
  unfold br;rw[uv 1 n,uv 1<|n+1,xN,xN,xN,sV,sV,sV,nK];show [46,46]++e1 aE _=_;rw[Mg _ b];rfl
 ·rw[nK]
  have c1:(v==46)=false:=by simp;exact (λw0=>(cY hv<|nL w0))
  have c2:(v==10)=false:=by simp;omega
  rw[c1,c2,Mg _ λc m=>(a c m).2];rfl
end
section
open PySem.StrLaws
theorem Nh {x y:aG} (e:iI x l h=y) (P:nj a l) (p:nj b h) (hl:x.length<=16777216):gR r (.d<|.str x) a b (.d .none) (.str y):=e▸ .str P p hl
theorem I0 {bs:List Nat} {k:Nat}:cB (k:Int)∈bs.map (λ(n:Nat)=>cB n)↔bs.contains k=true:=by
 rw[Hx,ij];constructor
 ·rintro ⟨a,h,e⟩
  have:(a:Int)=k:=Dat.int.inj e;have:a=k:=(jk (oM<|bE<|iL this)<|oM<|bE<|iR this)
  exact this▸h
 ·intro h
  exact ⟨k,h,rfl⟩
theorem GW {W:Int} {z:Nat} (Z:W.fmod 3=z) (t:Nat):(W+(t:Int)).fmod 3=(((z+t) % 3:Nat)):=by rw[nC _<|by decide] at Z⊢;rw[<-DV,Z];rfl
namespace B01
theorem Gr: ∀k,k<3->GO[k]?=aA (.str ⟨(i4 k).toArray⟩)
 |0,_=>rfl
 |1,_=>rfl
 |2,_=>rfl
 |n+3,h=>QHb h λK=>ky K
noncomputable def BC (bs:List Nat) (k:Nat) (P:List Nat):Prop:=(bs.contains k=aB/\P=[])\/(bs.contains k=aE/\ ∃v,v<27/\P=[cm v])
theorem T4 (L:Nat) (C:aK) (c:Int) {x t k e:Nat} (ht8:t<8) (ek:(c+t).fmod 8=k) (ee:(c+x).fmod 3=e) (bs:List Nat): ∃P,BC bs k P/\ ∀rs (row T:List Nat) s5 s6 s7 xs K,rs[t]?=aA (.str ⟨row.toArray⟩)->row.length<=100->T.length<=10000->rs.length<100->
 fW (.one 5) (sj.map SW.w) (aU<|L+1) xs (eQ C c (.val<|.list rs) (.val<|.int t) s6 s7 (.val<|.int x) (.val<|.list<|bs.map λ(n:Nat)=>cB n) (.val<|.str ⟨(T++(P++row++i4 ((e+t) % 3))).toArray⟩) .unb .unb) K->
 fW (.one 5) (sj.map SW.w) (aU<|L+1) (.int t::xs) (eQ C c (.val<|.list rs) s5 s6 s7 (.val<|.int x) (.val<|.list<|bs.map λ(n:Nat)=>cB n) (.val<|.str ⟨T.toArray⟩) .unb .unb) K:=by
 refine aS (kY (c.fdiv 27+x+7*t) (n:=27)<|by decide) λv hv ev=>?_;have i7:ib (7:Int)+ib (t:Int)<=134217728:=xX (by decide) (sF ht8<|by decide);have en: ∀r,cC r (.d<|.list GO) ((c+x+t).fmod 3)<|.str ⟨(i4<|(e+t) % 3).toArray⟩:=λr=>dH (Gr _<|dw _<|by decide) (GW ee t) (by decide);have el:=v5<|(e+t) % 3;have b8:mw (bs.map λ(n:Nat)=>cB n):=kL<|ES bs λn=>(n:Int);induction q:bs.contains k with
 |true=>refine ⟨[],.inl ⟨q,rfl⟩,λrs row T s5 s6 s7 xs K hr h1 h2 h3 h=>?_⟩;rw[sa,<-ik] at h;exact fx (.one 5) sj _ [.b aE,.b aE,ht _,ht ⟨(T++row).toArray⟩,ht _,ht ⟨(T++row++i4 ((e+t) % 3)).toArray⟩] (.int t) xs (eQ C c (.val<|.list rs) s5 s6 s7 (.val<|.int x) (.val<|.list<|bs.map λ(n:Nat)=>cB n) (.val<|.str ⟨T.toArray⟩) .unb .unb) K ff (by rw[ek];exact .inl .d b8 (tN _)<|.Ou<|I0.mpr q) rfl (dH hr rfl (by exact (bE<|oL h3))) (rJ<|by exact (bD h2 h1)) ff (en _) (rJ (by rw[du];exact (bD (na h2 h1) el))) h
 |false=>refine ⟨[cm v],.inr ⟨q,v,hv,rfl⟩,λrs row T s5 s6 s7 xs K hr h1 h2 h3 h=>?_⟩;rw[<-ik,<-ik] at h;exact fx (.one 5) sj _ [.b aB,.b aB,ht ⟨[cm v].toArray⟩,ht ⟨(T++[cm v]).toArray⟩,ht _,ht ⟨(T++[cm v]++row).toArray⟩,ht _,ht ⟨(T++[cm v]++row++i4 ((e+t) % 3)).toArray⟩] (.int t) xs (eQ C c (.val<|.list rs) s5 s6 s7 (.val<|.int x) (.val<|.list<|bs.map λ(n:Nat)=>cB n) (.val<|.str ⟨T.toArray⟩) .unb .unb) K ff (by rw[ek];exact .inl .d b8 (tN _) (.JG λm=>by rw[I0.mp m] at q;exact nomatch q)) rfl ff (nl rfl) i7 (AQ L ev hv) (rJ (by show _+1<=_;exact (aQ h2))) (dH hr rfl (by exact (bE<|oL h3))) (rJ (by rw[du];show _+1+_<=_;exact (bD h2 h1))) ff (en _) (rJ (by rw[du,du];show _+1+_+_<=_;exact (bD (na h2 h1) el))) h
noncomputable def F9:EW:=.ite (.eP aE aB<|.call 10 [.dK cR aF (aA<|.int 1) aF]) (.dK cR (aA<|.int 1) aF aF) cR
theorem LK (a:Nat) (r:List Nat) (h:r.length<=1000):(∀R,gR R (.d<|.str ⟨(a::r).toArray⟩) (.d .none) (.d<|.int 1) (.d .none)<|.str ⟨#[a]⟩)/\ ∀R,gR R (.d<|.str ⟨(a::r).toArray⟩) (.d<|.int 1) (.d .none) (.d .none)<|.str ⟨r.toArray⟩:=by
 have l:(⟨(a::r).toArray⟩:aG).length=r.length+1:=by show (a::r).toArray.size=_;simp
 exact ⟨λR=>Nh ((KP (x:=⟨(a::r).toArray⟩) (b:=1)<|by exact (aQ<|nR l)).trans rfl) .none .int (by exact (bD (nL l) h)),λR=>Nh ((PD (x:=⟨(a::r).toArray⟩) (a:=1)<|by exact (aQ<|nR l)).trans rfl) .int .none<|by exact (bD (nL l) h)⟩
theorem XB (L:Nat) {C:aK} {c:Int} {s4 s5 s6 s7 s8 s9 s10:Sl} {n k:Nat} {bs B P:List Nat} (hP:BC bs k P) (hB: ∀c∈B,46<c) (hl:B.length<=4) (hn:n<=100):CE F9.w eE [] (aU<|L+1) (gI<|eQ C c s4 s5 s6 s7 s8 s9 s10 .unb .unb) (.str ⟨(e1 aB<|P++br n B).toArray⟩) (aA<|.str ⟨(br (n+if bs.contains k then 1 else 0) B).toArray⟩):=λR K h=>by
 have E:=AS (n:=n) hB;have dl: ∀m,m<=101->(br m B).length<=200:=λm hm=>by unfold br;rw[du,AI];exact (bD hm hl)
 rcases hP with ⟨q,e⟩|⟨q,v,hv,e⟩
 ·rw[e,sa,E.1]
  rw[q] at h;have d:br (n+1) B=46::br n B:=by unfold br;rw[<-wX,uv (1+n) 1,uv 1<|1+n,xN];rfl
  have s:=LK 46 (br n B) (az (dl n<|by exact (aQ hn))<|by decide);rw[<-d] at s;have y:=B3 L 46;rw[show gL.contains ((46:Nat):Int)=aE by decide+kernel] at y;exact fN F9 eE [] (aU<|L+1) [.b aB,ht ⟨#[46]⟩,.d<|.bool aE,.b aE,ht ⟨(br (n+1) B).toArray⟩] (gI<|eQ C c s4 s5 s6 s7 s8 s9 s10 .unb .unb) (.str ⟨(br (n+1) B).toArray⟩) R K rfl tt (s.1 _) y rfl rfl h
 ·rw[e]
  rw[q] at h;rw[show [cm v]++br n B=cm v::br n B from rfl,E.2.1 _ (by have:=(rN v hv).2;exact (aQ this))];have s:=LK (cm v) (br n B) (az (dl n<|by exact (aQ hn))<|by decide);have y:=B3 L<|cm v;rw[(rN v hv).1] at y;exact fN F9 eE [] (aU<|L+1) [.b aB,ht ⟨#[cm v]⟩,.d<|.bool aB,.b aB,ht ⟨(br n B).toArray⟩] (gI<|eQ C c s4 s5 s6 s7 s8 s9 s10 .unb .unb) (.str ⟨(cm v::br n B).toArray⟩) R K rfl tt (s.1 _) y rfl (s.2 _) rfl h
end B01
end
section
open PySem.StrLaws
theorem OY {P:Nat->List Nat->Prop} (T: ∀t,t<8-> ∃b,P t b): ∃f:Nat->List Nat,∀t,t<8->P t (f t):=⟨λt=>if h:t<8 then QGg (T t h) else [],λt h=>by dsimp only;rw[dif_pos h];exact QGh<|T t h⟩
namespace B01
noncomputable def lC (n:Nat->Nat) (B:Nat->List Nat) (st x:Nat):List Dat:=[.str ⟨(br (n 0)<|B 0).toArray⟩,.str ⟨(br (n 1)<|B 1).toArray⟩,.str ⟨(br (n 2)<|B 2).toArray⟩,.str ⟨(br (n 3)<|B 3).toArray⟩,.str ⟨(br (n 4)<|B 4).toArray⟩,.str ⟨(br (n 5)<|B 5).toArray⟩,.str ⟨(br (n 6)<|B 6).toArray⟩,.str ⟨(br (n 7)<|B 7).toArray⟩,.str ⟨#[st,46,32]⟩,.str ⟨#[]⟩,.str ⟨(dV (1+x) 46).toArray⟩]
theorem KL {n:Nat->Nat} {B:Nat->List Nat} {st x:Nat}: ∀t,t<8->(lC n B st x)[t]?=aA (.str ⟨(br (n t)<|B t).toArray⟩)
 |0,_|1,_|2,_|3,_|4,_|5,_|6,_|7,_=>rfl
 |n+8,h=>QHb h λK=>ky K
theorem O_ {bs P z:List Nat} {k n:Nat} {B:List Nat} (h:BC bs k P):((P++br n B)++z).head?≠aA 10:=by
 rcases h with ⟨-,e⟩|⟨-,v,hv,e⟩
 ·rw[e]
  unfold br;rw[uv 1 n,xN];simp
 ·rw[e]
  have:=(rN v hv).2;simp;exact (λw0=>(cY this (nL w0)))
theorem QDw {bs P:List Nat} {k n:Nat} {B:List Nat} (h:BC bs k P) (hB: ∀c∈B,46<c):(∀c∈P++br n B,c≠13/\c≠10)/\13∉e1 aB (P++br n B)/\P.length<=1:=by
 have E:=AS (n:=n) hB;have F:=AS (n:=n+1) hB;rcases h with ⟨-,e⟩|⟨-,v,hv,e⟩
 ·rw[e,sa,E.1]
  exact ⟨E.2.2,λm=>(F.2.2 _ m).1 rfl,hJ _⟩
 ·rw[e,show [cm v]++br n B=cm v::br n B from rfl]
  have g:=(rN v hv).2;rw[E.2.1 _<|by exact (aQ g)]
  have q: ∀c∈cm v::br n B,c≠13/\c≠10:=λc m=>by
   rcases bp.mp m with rfl|m
   ·exact ⟨(λw0=>(cY g<|nL w0)),(λw0=>(cY g<|nL w0))⟩
   ·exact E.2.2 c m
  exact ⟨q,λm=>(q _ m).1 rfl,bh _⟩
theorem QBQ (e:Nat):(e+8) % 3≠1\/ ∀z,(i4 ((e+9) % 3)++z).head?≠aA 10:=by refine (Ip<|(e+8) % 3=1).elim (λq=>.inr λz=>?_) .inl;rw[show e+9=e+8+1 from rfl,Nat.add_mod,q];exact nofun
theorem PM: ∀(l:List Nat) b,(e1 b l).length<=2*l.length
 |[],b=>bh _
 |c::l,b=>by
  have:=PM l<|c==10;rw[nK,du,pQ]
  split<;>simp only[pQ,um]<;>(exact (aQ this))
theorem E2 (a0 a1 a2 a3 a4 a5 a6 a7 a8 a9 a10:aK):(∀r,gR r (.d<|.list [a0,a1,a2,a3,a4,a5,a6,a7,a8,a9,a10]) (.d .none) (.d<|.int 8) (.d .none)<|.list [a0,a1,a2,a3,a4,a5,a6,a7])/\ ∀r,gR r (.d<|.list [a0,a1,a2,a3,a4,a5,a6,a7,a8,a9,a10]) (.d<|.int 8) (.d .none) (.d .none)<|.list [a8,a9,a10]:=
 ⟨λr=>gR.lst (xs:=[a0,a1,a2,a3,a4,a5,a6,a7,a8,a9,a10]) .d .none (.int (i:=8)) .none nofun (bJ rfl),λr=>by
  have:=gR.lst (r:=r) (v:=.d<|.list [a0,a1,a2,a3,a4,a5,a6,a7,a8,a9,a10]) .d (.int (i:=8)) .none .none nofun (bJ rfl);rw[show lk _ (aA 8) aF aF=_ from LI _ 8] at this
  exact this⟩
theorem MJ {b m:Nat} (l:List Nat): ∀s:List (List Nat×Nat),(∀p∈s,p.1.length<=b)->b+2<=m->(j8 s l).length<=m*s.length+l.length/\(jn id s l).length<=m*s.length+l.length
 |[],h,hb=>⟨gA _ _,gA _ _⟩
 |p::s,h,hb=>by have i:=MJ l s (λq m=>h q<|.tail _ m) hb;have q:=h p<|.head _;have e:=v5 p.2;unfold j8 jn;simp only[du,pQ,DQ];exact ⟨bD (na i.1 q)<|na e hb,by show p.1.length+_<=_;exact bD (na i.2 q) hb⟩
theorem Lu {f:Nat->List Nat×Nat} {s:List (List Nat×Nat)} {l:List Nat} (h:ya s l) (g:(j8 s l).head?≠aA 10): ∀ts:List Nat,(∀t∈ts,(∀c∈(f t).1,c≠13/\c≠10)/\ ∀z,((f t).1++z).head?≠aA 10)->ya (ts.map f++s) l/\(j8 (ts.map f++s) l).head?≠aA 10
 |[],k=>⟨h,g⟩
 |t::ts,k=>by have i:=Lu h g ts λq m=>k q<|.tail _ m;have q:=k t<|.head _;exact ⟨⟨q.1,.inr i.2,i.1⟩,q.2 _⟩
theorem M1 {f:Nat->List Nat×Nat} {s:List (List Nat×Nat)} {l:List Nat}: ∀(ts:List Nat) T,ts.foldl (λT t=>T++((f t).1++i4 (f t).2)) T++j8 s l=T++j8 (ts.map f++s) l
 |[],T=>rfl
 |t::ts,T=>by refine (M1 ts _).trans ?_;rw[ik,ik];rfl
theorem Lg {f:Nat->List Nat×Nat} {b m:Nat} (hb:b+2<=m): ∀(ts:List Nat) T,(∀t∈ts,(f t).1.length<=b)->(ts.foldl (λT t=>T++((f t).1++i4 (f t).2)) T).length<=T.length+m*ts.length
 |[],T,h=>bh _
 |t::ts,T,h=>by refine az (Lg hb ts _ λq m=>h q<|.tail _ m) ?_;have:=h t<|.head _;have e:=v5 (f t).2;rw[du,du,pQ,DQ];exact bD (na this e) hb
theorem O1 {Z:List aK->Sl->List Nat->Prop} {q:Nat->List Nat} (hq: ∀t,t<8->(q t).length<=110) (TU: ∀t:Nat,t<8-> ∀xs s T,T.length<=10000->Z xs (.val<|.int t) (T++q t)->Z (.int t::xs) s T): ∀(ts:List Nat) T s,(∀t∈ts,t<8)->T.length+110*ts.length<=10000->Z [] (ts.foldl (λ_ t=>.val<|.int (t:Nat)) s) (ts.foldl (λT t=>T++q t) T)->Z (ts.map λ(t:Nat)=>cB t) s T
 |[],T,s,h,g,z=>z
 |t::ts,T,s,h,g,z=>by have k:=h t<|.head _;have:=hq t k;rw[pQ,DQ] at g;exact TU t k _ _ T (aQ g) (O1 hq TU ts _ _ (λq m=>h q<|.tail _ m) (by rw[du];exact bD g this) z)
theorem Bt (L:Nat) {u:bx} (T:l5 u) (c:Int) {z st x:Nat} (ez:c.fmod 8=z) (hst:st≠10/\st≠13/\st≠46) {n:Nat->Nat} {B:Nat->List Nat} (hx:x<=10) (hn: ∀t,t<8->n t<=50) (hB: ∀t,t<8->Ek ((z+t) % 8) (B t)):
 ∃a9 a10:aK,∀s5 s6 s7 s8 s9 s10 xs K,fW (.one 8) (Ac.map SW.w) (aU<|L+1) xs (eQ (di u) c (.val<|.list<|lC (λt=>n t+if (eV u x).contains ((z+t) % 8) then 1 else 0) B st<|x+1) (.val<|.int (7:Nat)) s6 s7 (.val<|.int x) (.val a9) (.val a10) .unb .unb) K->
  fW (.one 8) (Ac.map SW.w) (aU<|L+1) (.int x::xs) (eQ (di u) c (.val<|.list<|lC n B st x) s5 s6 s7 s8 s9 s10 .unb .unb) K:=by
 have em: ∀t:Nat,(c+t).fmod 8=(((z+t) % 8:Nat):Int):=λt=>by rw[nC _<|by decide] at ez⊢;rw[<-DV,ez];rfl
 refine aS (kY (c+x) (n:=3)<|by decide) λe he ee=>?_;refine aV (OY λt ht8=>T4 L (di u) c (x:=x) ht8 (em t) ee<|eV u x) λP PT=>?_;have PP:=λt h=>(PT t h).1;have TT:=λt h=>(PT t h).2;have bb:=YZ L T hx;have ok:=λt h=>QDw (n:=n t) (PP t h) (hB t h).big;have dl: ∀t,t<8->(br (n t)<|B t).length<=100:=λt h=>by have h1:=hn t h;have h2:=(hB t h).len;unfold br;rw[du,AI];exact (bD h1 h2)
 have sl: ∀t,t<8->(P t++br (n t) (B t)).length<=101:=λt h=>by have h1:=(ok t h).2.2;have h2:=dl t h;rw[du];exact az (iF h1 h2)<|bJ rfl
 refine aV (⟨_,rfl⟩: ∃f:Nat->List Nat×Nat,f=λt=>(P t++br (n t) (B t),(e+t) % 3)) λf hf=>?_;have r8: ∀t∈bg 8,t<8:=λt m=>sG.mp m;refine aV (⟨_,rfl⟩: ∃T8,(bg 8).foldl (λT t=>T++((f t).1++i4 (f t).2)) []=T8) λT8 hT8=>?_;have lf: ∀t∈bg 8,(f t).1.length<=101:=λt m=>by rw[hf];exact sl t<|r8 t m
 have lT:T8.length<=880:=by have:=Lg (f:=f) (m:=110) (by decide) (bg 8) [] lf;rwa[hT8] at this
 have lp: ∀s5 s6 s7 K,K .next (eQ (di u) c (.val<|.list<|lC n B st x) (.val<|.int (7:Nat)) s6 s7 (.val<|.int x) (.val<|.list<|(eV u x).map λ(n:Nat)=>cB n) (.val<|.str ⟨T8.toArray⟩) .unb .unb)->fW (.one 5) (sj.map SW.w) (aU<|L+1) ((bg 8).map λ(i:Nat)=>cB (i:Int)) (eQ (di u) c (.val<|.list<|lC n B st x) s5 s6 s7 (.val<|.int x) (.val<|.list<|(eV u x).map λ(n:Nat)=>cB n) (.val<|.str ⟨#[]⟩) .unb .unb) K:=λs5 s6 s7 K h=>by refine O1 (Z:=λxs s T=>fW (.one 5) (sj.map SW.w) (aU<|L+1) xs (eQ (di u) c (.val<|.list<|lC n B st x) s s6 s7 (.val<|.int x) (.val<|.list<|(eV u x).map λ(n:Nat)=>cB n) (.val<|.str ⟨T.toArray⟩) .unb .unb) K) (q:=λt=>(f t).1++i4 (f t).2) (λt h=>?_) (λt h xs s T hT z=>TT t h _ _ T s s6 s7 xs K (KL t h) (dl t h) hT (by show 11<100;decide) (by rw[hf] at z;exact z)) (bg 8) [] s5 r8 (by decide) (by rw[hT8];exact h);have h1:=lf t<|sG.mpr h;have h3:=v5 (f t).2;show ((f t).1++i4 (f t).2).length<=110;rw[du];exact az (iF h1 h3)<|bJ rfl
 have E8:=v5<|(e+8) % 3;have E9:=v5<|(e+9) % 3;refine aV (⟨_,rfl⟩: ∃X,T8++[st,46,32]++i4 ((e+8) % 3)++[]++i4 ((e+9) % 3)++dV (1+x) 46=X) λX hX=>?_;have rep: ∀c∈dV (1+x) 46,c≠13/\c≠10:=λc m=>by have:=(DW.mp m).2;exact ⟨(λw0=>(cY (nR this)<|nL w0)),(λw0=>(cY (nR this)<|nL w0))⟩
 have dB: ∀c∈[st,46,32],c≠13/\c≠10:=λc m=>by
  simp only[bp,gU,or_false] at m;rcases m with rfl|rfl|rfl
  ·exact ⟨hst.2.1,hst.1⟩
  ·decide
  ·decide
 refine aV (⟨_,rfl⟩: ∃s2,s2=[([st,46,32],(e+8) % 3),([],(e+9) % 3)]) λs2 hs2=>?_;have tx:X=j8 ((bg 8).map f++s2) (dV (1+x) 46):=by rw[<-sa (j8 _ _),<-M1,hT8,<-hX,hs2];simp only[j8,ik,sa]
 have oS:=(Lu (f:=f) (s:=s2) (l:=dV (1+x) 46) (by rw[hs2];exact ⟨dB,(QBQ e).imp id λh=>h _,(λc m=>nomatch m),.inr (by show (dV (1+x) 46).head?≠aA 10;rw[uv,xN];exact nofun),rep⟩) (by rw[hs2];exact λh=>hst.1<|kC h) (bg 8) (λt m=>by rw[hf];exact ⟨(ok t<|r8 t m).1,λz=>O_<|PP t<|r8 t m⟩)).1;have es:e1 aB [st,46,32]=[st,46,32]:=by simp[yT,nK,(by simp[hst.2.2]:(st==46)=aE),(by simp[hst.1]:(st==10)=aE)]
 have el:e1 aB (dV (1+x) 46)=dV (1+(x+1)) 46:=by have:=(AS (n:=x) (B:=[]) λc m=>nomatch m).1;unfold br at this;rwa[eZ,eZ] at this
 have len:=MJ (b:=101) (m:=110) (dV (1+x) 46) ((bg 8).map f++s2) (λp m=>by
  rcases qn.mp m with m|m
  ·refine aS (ij.mp m) λt h q=>?_
   exact q▸lf t h
  ·rw[hs2] at m
   simp only[bp,gU,or_false] at m
   rcases m with rfl|rfl<;>exact Nat.le_of_ble_eq_true rfl) (by decide)
 have l10:((bg 8).map f++s2).length=10:=by rw[hs2];rfl
 rw[l10,AI] at len;have lX:X.length<=1111:=by rw[tx];exact az len.1<|aQ hx
 have xs:(⟨X.toArray⟩:aG).cps.toList=j8 ((bg 8).map f++s2) (dV (1+x) 46):=tx
 have sp:=QDR (x:=⟨X.toArray⟩) (s:=((bg 6).map λt=>f<|t+2)++s2) (p:=f 0) (q:=f 1) xs oS (by
  intro r m;rcases qn.mp m with m|m
  ·refine aS (ij.mp m) λp m q=>?_
   rw[<-q];rcases qn.mp (show p∈(bg 8).map f++s2 from m) with m|m
   ·refine aS (ij.mp m) λt h q=>?_
    rw[<-q,hf];exact (ok t<|r8 t h).2.1
   ·rw[hs2] at m
    simp only[bp,gU,or_false] at m;rcases m with rfl|rfl
    ·rw[es];exact λm=>(dB _ m).1 rfl
    ·exact λm=>nomatch m
  ·rw[Ig.mp m,el]
   exact λm=>by have:=(DW.mp m).2;exact (ky<|nR this))
 have xl:(⟨X.toArray⟩:aG).cps.size<=100000:=by show X.toArray.size<=_;rw[gm];exact az lX (by decide)
 have ql:(q2 ⟨X.toArray⟩).cps.size<=1111:=by have:(q2 ⟨X.toArray⟩).cps.toList.length=(q2 ⟨X.toArray⟩).cps.size:=js;rw[<-this,J1,xs,Gq _ _ oS];exact az len.2<|aQ hx
 have qq:=f_ L (x:=⟨X.toArray⟩) xl (az ql<|by decide);have q1l:(q1<|q2 ⟨X.toArray⟩).length<=16777000:=by have a:(q1<|q2 ⟨X.toArray⟩).cps.toList.length=(q1<|q2 ⟨X.toArray⟩).length:=js;have b:(q2 ⟨X.toArray⟩).cps.toList.length=(q2 ⟨X.toArray⟩).cps.size:=js;have c:=PM (q2 ⟨X.toArray⟩).cps.toList aB;rw[<-Ng,a,b] at c;exact az c (az (gC 2 ql)<|by decide)
 have spl: ∀r,jC r .split (.d<|.str<|q1<|q2 ⟨X.toArray⟩) [.d<|.str ⟨#[13,10]⟩] (.list _):=λr=>.split q1l (by decide);rw[sp,hs2] at spl;rw[show (f 0::f 1::(((bg 6).map λt=>f<|t+2)++[([st,46,32],(e+8) % 3),([],(e+9) % 3)])).map (λq=>e1 aB q.1)++[e1 aB<|dV (1+x) 46]=(bg 8).map (λt=>e1 aB (f t).1)++[e1 aB [st,46,32],[],e1 aB<|dV (1+x) 46] from rfl,es,el,hf] at spl;have e8:=Gr ((e+8) % 3) (dw _<|by decide);have e9:=Gr ((e+9) % 3) (dw _<|by decide);have lr: ∀{a:List Nat},a.length<=2000-> ∀{b:List Nat},b.length<=2000-> ∀r,fe r .Add (.d<|.str ⟨a.toArray⟩) (.d<|.str ⟨b.toArray⟩)<|.str ⟨(a++b).toArray⟩:=λh1 b h2 r=>rJ (by exact (bD h1 h2));have lx: ∀{a b c:List Nat},a++b=c->c.length<=1111->a.length<=1111/\b.length<=1111:=λe h=>by rw[<-e,du] at h;exact ⟨az (mO _ _) h,az (gA _ _) h⟩
 have z5:=lx hX lX;have z4:=lx rfl z5.1;have z3:=lx rfl z4.1;have z2:=lx rfl z3.1;have z1:=lx rfl z2.1;have up: ∀{k:Nat},k<=1111->k<=2000:=λh=>az h (by decide);have b5:=lr (up z5.1)<|up z5.2;rw[hX] at b5;have ce:=λt (h:t<8) s4 s6 s7 s9 s10=>XB L (C:=di u) (c:=c) (s4:=s4) (s5:=.val<|.int (7:Nat)) (s6:=s6) (s7:=s7) (s8:=.val<|.int x) (s9:=s9) (s10:=s10) (n:=n t) (PP t h) (hB t h).big (hB t h).len (az (hn t h)<|by decide);refine ⟨.list<|(eV u x).map λ(n:Nat)=>cB n,.str ⟨X.toArray⟩,λs5 s6 s7 s8 s9 s10 xs K h=>?_⟩;exact fx (.one 8) Ac (aU<|L+1) [.d _,.f .next (eQ (di u) c (.val<|.list<|lC n B st x) (.val<|.int (7:Nat)) s6 s7 (.val<|.int x) (.val<|.list<|(eV u x).map λ(n:Nat)=>cB n) (.val<|.str ⟨T8.toArray⟩) .unb .unb),ht ⟨[st,46,32].toArray⟩,ht _,ht _,ht _,ht ⟨([]:List Nat).toArray⟩,ht _,ht _,ht _,ht ⟨(dV (1+x) 46).toArray⟩,ht _,ht _,hl _,hl _,.ds _,hl _,hl _] (.int x) xs (eQ (di u) c (.val<|.list<|lC n B st x) s5 s6 s7 s8 s9 s10 .unb .unb) K bb tt (lp _ _ _) (dH (w:=8) rfl rfl (by show (11:Int)<_;decide)) (lr (up z1.1) (up z1.2) _) ff (dH e8 (GW ee 8)<|by decide) (lr (up z2.1) (up z2.2) _) (dH (w:=9) rfl rfl (by show (11:Int)<_;decide)) (lr (up z3.1) (up z3.2) _) ff (dH e9 (GW ee 9)<|by decide) (lr (up z4.1) (up z4.2) _) (dH (w:=10) rfl rfl (by show (11:Int)<_;decide)) (b5 _) qq (spl _) ((E2 _ _ _ _ _ _ _ _ _ _ _).1 _) (bJ rfl) (λK h=>AP (g:=λt=>sJ ⟨(e1 aB<|P t++br (n t) (B t)).toArray⟩) (f:=λt=>sJ ⟨(br (n t+if (eV u x).contains ((z+t) % 8) then 1 else 0)<|B t).toArray⟩) (xs:=bg 8) (λt m=>ce t (sG.mp m) _ _ _ _ _) K h) ((E2 _ _ _ _ _ _ _ _ _ _ _).2 _) (Ve<|bJ rfl) h
end B01
end
namespace B01
theorem Ec: ∀a,a<4->a∈[0,1,2,3]:=by decide
theorem US: ∀a,a<4->1<=a->a∈[1,2,3]:=by decide
theorem V_: ∀a,a<5->a∈[0,1,2,3,4]:=by decide
theorem ne5: ∀a,a<5->(a+1) % 5≠a:=by decide
theorem Rh {x1 y1 x2 y2 y0 z:Nat} (h:qY x1 y1 x2 y2 y0=aB) (x:1<=x1) (n:z≠y2):qY x1 y1 x2 z y0=false:=by unfold qY at*;refine beq_eq_false_iff_ne.mpr λq=>?_;have e:=q.trans (QHe.mp h).symm;have:=Int.eq_of_mul_eq_mul_left (by exact (λw0=>(fj (oL x)<|iL w0)):(x1:Int)≠0) e;exact ((uu n).elim (λu1=>(fj (oL u1)<|iR this)) λu1=>(fj (oL u1)<|iL this))
theorem QBS (m:Nat):Aj (lG m)=true:=by
 have h0:m / 3 % 4<4:=dw _ (by decide);have h1:1<=1+m % 3/\1+m % 3<=3:=⟨(by simp+arith),(aQ<|dw (m) (by decide:0<3))⟩
 have h2:m / 12 % 4<4:=dw _ (by decide);have h3:m / 48 % 4<4:=dw _ (by decide);have h4:m / 192 % 5<5:=dw _ (by decide);unfold lG;generalize m / 3 % 4=a at*;generalize 1+m % 3=b at*;generalize m / 12 % 4=c at*;generalize m / 48 % 4=d at*;generalize m / 192 % 5=e at*;have k: ∀e',e'<5->qY b c d e' a=aE->Aj ⟨a,b,c,d,e'⟩=true:=λe' he n=>by have A:a∈[0,1,2,3]:=Ec a h0;have B:b∈[1,2,3]:=US b (Nat.lt_succ_of_le h1.2) h1.1;have C:c∈[0,1,2,3]:=Ec c h2;have D:d∈[0,1,2,3]:=Ec d h3;have E:e'∈[0,1,2,3,4]:=V_ e' he;have:=dq.mp (dq.mp (dq.mp (WA a A b B) c C) d D) e' E;rw[n,QGq,z_] at this;exact this
 induction hf:qY b c d e a with
 |true=>exact k _ (dw _<|by decide)<|Rh hf h1.1<|ne5 e h4
 |false=>exact k _ h4 hf
structure QCv (t:bx):Prop where
 st: ∀k,k<5->strOk t k
 eq:xp t=eR t
 a:3<=tG t/\tG t<=100
 i:0<=qX t/\qX t<=100
 ZQ:jc (tG t) (qX t)=Bq t
theorem T3 (m:Nat):QCv (lG m):=by have h:=QBS m;unfold Aj at h;generalize lG m=t at*;have h1:=aD h;have h2:=aD h1.2;have h3:=aD h2.2;have h4:=aD h3.2;refine ⟨λk hk s=>?_,QHe.mp h2.1,⟨eD (aD h3.1).1,eD (aD h3.1).2⟩,⟨eD (aD h4.1).1,eD (aD h4.1).2⟩,QHe.mp h4.2⟩;have:=dq.mp h1.1 k<|sG.mpr hk;unfold Ey at this;rw[s,Bool.not_true,QGq] at this;have:=aD this;exact ⟨λq=>by have:=this.1;rw[q] at this;exact bq this,bJ this.2⟩
end B01
section
open PySem.StrLaws
theorem ZW {x:aG} {n c:Nat} {B:List Nat} (M:x.cps.toList=dV n 46++c::B) (C:c≠46):Q9 x ⟨#[46]⟩=⟨(c::B).toArray⟩:=by
 dsimp only[Q9];rw[QGL];dsimp only[QGM];apply yW;have g:(⟨#[46]⟩:aG).cps.contains=λd=>d==46:=funext λd=>by simp[Array.contains,eq_comm]
 have tw:(x.cps.toList.takeWhile (⟨#[46]⟩:aG).cps.contains).length=n:=by
  rw[g,M,QGN (by intro d m;rw[(DW.mp m).2];rfl)];have:(c==46)=false:=by simpa using C
  simp[this]
 have l:x.cps.toList.length=x.length:=js
 simp! only[wy,if_false,if_true,strSub_toList]
 rw[tw,<-l,M];simp
namespace B01
theorem QAK (L:Nat) (C:aK) (c:Int) {z st t:Nat} (ht8:t<8) (ez:c.fmod 8=z) {N:Nat->Nat} {B:Nat->List Nat} (hN:N t<=50) (hB:Ek ((z+t) % 8) (B t)) {us:List aK} (hu:us.length=8) {s5 s6 s7 s8 s9 s10 s12:Sl} {xs K}
 (h:fW (.one 5) (A3.map SW.w) (aU<|L+2) xs (eQ C c (.val<|.list<|lC N B st 4) (.val<|.int t) s6 s7 s8 s9 s10 (.own<|us.set ((z+t) % 8)<|.int<|N t)<|.val<|.str ⟨(B t).toArray⟩) K):
 fW (.one 5) (A3.map SW.w) (aU<|L+2) (.int t::xs) (eQ C c (.val<|.list<|lC N B st 4) s5 s6 s7 s8 s9 s10 (.own us) s12) K:=by
 have em:(c+t).fmod 8=(((z+t) % 8:Nat):Int):=by rw[nC _<|by decide] at ez⊢;rw[<-DV,ez];rfl
 have k8:(z+t) % 8<8:=dw _ (by decide);have r4:=KL (n:=N) (B:=B) (st:=st) (x:=4) t ht8;have bl:=hB.len;have dl:(⟨(br (N t)<|B t).toArray⟩:aG).length=1+N t+(B t).length:=by show (br (N t)<|B t).toArray.size=_;unfold br;simp
 have bL:(⟨(B t).toArray⟩:aG).length=(B t).length:=by show (B t).toArray.size=_;simp
 have ls: ∀r,jC r .qa (.d<|.str ⟨(br (N t)<|B t).toArray⟩) [.d<|.str ⟨#[46]⟩]<|.str ⟨(B t).toArray⟩:=λr=>by
  have e:Q9 ⟨(br (N t)<|B t).toArray⟩ ⟨#[46]⟩=⟨(B t).toArray⟩:=by
   have hb:=hB.big;have hne:=hB.ne;generalize B t=b at*;cases b with
   |nil=>exact QHb rfl hne
   |cons a b=>exact ZW (x:=⟨(br (N t)<|a::b).toArray⟩) (n:=1+N t) (c:=a) (B:=b) rfl (by have:=hb a<|.head _;exact (λw0=>(cY this (nL w0))))
  exact e▸ .qa (by exact (bD (nL dl)<|na hN bl))
 have l1: ∀r,cn r .len [.d<|.str ⟨(br (N t)<|B t).toArray⟩]<|.int ((1+N t+(B t).length:Nat):Int):=λr=>dl▸ .kB (by exact (bD (nL dl)<|na hN bl));have l2: ∀r,cn r .len [.d<|.str ⟨(B t).toArray⟩]<|.int ((B t).length:Int):=λr=>by have:=cn.kB (r:=r) (x:=⟨(B t).toArray⟩) (by exact (bD (nL bL) bl));rwa[bL] at this
 have en:us.set ((z+t) % 8) (.int<|N t)=us.set ((c+t).fmod 8).toNat (.int<|((1+N t+(B t).length:Nat):Int) - ((B t).length:Int) - 1):=by
  rw[em,lR]
  congr 2
  exact (by simp+arith)
 rw[en] at h;exact fx (.one 5) A3 (aU<|L+2) [ht _,ht _,ht _,ht _,.b aE,.b aE,ht _,hi _,hi _] (.int t) xs (eQ C c (.val<|.list<|lC N B st 4) s5 s6 s7 s8 s9 s10 (.own us) s12) K (dH r4 rfl (by show (11:Int)<_;decide)) (ls _) (hB.pre L) ff (dH (Og _ k8) em<|by decide) (Fp aE<|by simp) ff (dH r4 rfl (by show (11:Int)<_;decide)) (l1 _) (l2 _) ff (by rw[em];exact (bE<|oZ<|(z+t) % 8)) (by rw[em,hu];exact (bE<|oL<|dw (z+t) (by decide:0<8))) (by rw[hu];decide) h
end B01
end
section
open PySem.StrLaws
theorem Xb {r:bQ} {xs ys zs:List aK} (h:r 4=.own xs) (e:xs++ys=zs) (hl:xs.length+ys.length<=16777216):fe r .Add (.bor 4) (.d<|.list ys) (.list zs):=e▸ .add (.bor h) .d hl
namespace B01
theorem RP: ∀s,s<24->mY ⟨#[fS s,46,32]⟩=true:=by decide+kernel
theorem QCD {z:Nat} (hz:z<8) (f:Nat->Int):((((((((dI [0,0,0,0,0,0,0,0]).set ((z+0) % 8)<|.int<|f<|(z+0) % 8).set ((z+1) % 8)<|.int<|f<|(z+1) % 8).set ((z+2) % 8)<|.int<|f<|(z+2) % 8).set ((z+3) % 8)<|.int<|f<|(z+3) % 8).set ((z+4) % 8)<|.int<|f<|(z+4) % 8).set ((z+5) % 8)<|.int<|f<|(z+5) % 8).set ((z+6) % 8)<|.int<|f<|(z+6) % 8).set ((z+7) % 8) (.int<|f<|(z+7) % 8)=dI ((bg 8).map f):=by rcases (Ln z hz) with rfl|rfl|rfl|rfl|rfl|rfl|rfl|rfl<;>rfl
noncomputable def u6 (u:bx) (j:Nat):Nat:=0+(if (eV u 0).contains j then 1 else 0)+(if (eV u 1).contains j then 1 else 0)+(if (eV u 2).contains j then 1 else 0)+(if (eV u 3).contains j then 1 else 0)
theorem Ye (u:bx):eR u=(bg 8).map λj=>((u6 u j:Nat):Int):=by
 unfold eR u6;apply Ih;intro j _;rw[show bg 4=[0,1,2,3] from rfl];simp only[List.countP_cons,List.countP_nil];have: ∀a b c d:Nat,0+a+b+c+d=0+d+c+b+a:=by simp+arith
 exact QHf _<|this _ _ _ _
theorem Y_ (L:Nat) {u:bx} (T:l5 u) (c:Int):(aU<|L+3).F 31 [di u,.int c] (.list<|dI<|eR u):=by
 refine aS (kY c (n:=8)<|by decide) λz hz ez=>?_;refine aS (kY (c.fdiv 8) (n:=24)<|by decide) λs hs es=>?_;have em: ∀t:Nat,(c+t).fmod 8=(((z+t) % 8:Nat):Int):=λt=>by have ez:c.fmod 8=z:=ez;rw[nC _<|by decide] at ez⊢;rw[<-DV,ez];rfl
 refine aV (OY λt h=>Td (L+1) (di u) c t ((z+t) % 8) h (em t)<|dw _<|by decide) λB BT=>?_;have G:=λt h=>(BT t h).1;have ys:=TN (L+1) es hs;have sf:=QDD s hs;have yi:=B3 (L+1)<|fS s;rw[sf.1] at yi;refine aV ((BT 0<|by decide).2) λy0 r0=>?_;refine aV ((BT 1<|by decide).2) λy1 r1=>?_;refine aV ((BT 2<|by decide).2) λy2 r2=>?_;refine aV ((BT 3<|by decide).2) λy3 r3=>?_;refine aV ((BT 4<|by decide).2) λy4 r4=>?_;refine aV ((BT 5<|by decide).2) λy5 r5=>?_;refine aV ((BT 6<|by decide).2) λy6 r6=>?_;refine aV ((BT 7<|by decide).2) λy7 r7=>?_;have le:=λ(n:Nat) (h:n<=100)=>h;have lp1:=λK h=>r0 [] .unb .unb .unb _ K (bJ rfl)<|r1 _ _ _ _ _ K (bJ rfl)<|r2 _ _ _ _ _ K (bJ rfl)<|r3 _ _ _ _ _ K (bJ rfl)<|r4 _ _ _ _ _ K (bJ rfl)<|r5 _ _ _ _ _ K (bJ rfl)<|r6 _ _ _ _ _ K (bJ rfl)<|r7 _ _ _ _ [] K (bJ rfl) h;refine jY (Bt (L+1) T c ez (x:=0) (st:=fS s) ⟨sf.2.1,sf.2.2.1,sf.2.2.2⟩ (n:=λ_=>0) (by decide) (λt h=>by decide) G) λa0 b0 q0=>?_;refine jY (Bt (L+1) T c ez (x:=1) (st:=fS s) ⟨sf.2.1,sf.2.2.1,sf.2.2.2⟩ (n:=λt=>0+if (eV u 0).contains ((z+t) % 8) then 1 else 0) (by decide) (λt h=>by split<;>decide) G) λa1 b1 q1=>?_;refine jY (Bt (L+1) T c ez (x:=2) (st:=fS s) ⟨sf.2.1,sf.2.2.1,sf.2.2.2⟩ (n:=λt=>(0+if (eV u 0).contains ((z+t) % 8) then 1 else 0)+if (eV u 1).contains ((z+t) % 8) then 1 else 0) (by decide) (λt h=>by split<;>split<;>decide) G) λa2 b2 q2=>?_;refine jY (Bt (L+1) T c ez (x:=3) (st:=fS s) ⟨sf.2.1,sf.2.2.1,sf.2.2.2⟩ (n:=λt=>((0+if (eV u 0).contains ((z+t) % 8) then 1 else 0)+if (eV u 1).contains ((z+t) % 8) then 1 else 0)+if (eV u 2).contains ((z+t) % 8) then 1 else 0) (by decide) (λt h=>by split<;>split<;>split<;>decide) G) λa3 b3 q3=>?_;have lp2:=λK h=>q0 (.val<|.int (7:Nat)) (.val<|.int ((z+7) % 8:Nat)) (.val<|.str y7) .unb .unb .unb _ K<|q1 _ _ _ _ _ _ _ K<|q2 _ _ _ _ _ _ _ K<|q3 _ _ _ _ _ _ [] K h;have c50: ∀j,u6 u j<=50:=λj=>by unfold u6;split<;>split<;>split<;>split<;>decide
 have t4:=λ(t:Nat) (h:t<8)=> @QAK L (di u) c z (fS s) t h ez (λt=>u6 u<|(z+t) % 8) B (c50 _)<|G t h
 have st8: ∀d∈[sJ ⟨#[fS s,46,32]⟩,.str ⟨#[]⟩,.str ⟨#[46,46,46,46,46]⟩],fP 8 d=true:=λd m=>by
  simp only[bp,gU,or_false] at m;rcases m with rfl|rfl|rfl
  ·exact d_<|RP s hs
  ·decide+kernel
  ·decide+kernel
 rw[Ye,<-QCD hz];refine dj (rE b_law_found 2 [2,3,4,5,6,7,8,9,10,11,12] [.f .next (eQ (di u) c (.own _) _ _ _ .unb .unb .unb .unb .unb),ht ⟨#[fS s]⟩,ht ⟨#[fS s,46,32]⟩,hl<|lC (λ_=>0) B (fS s) 0,.f .next (eQ (di u) c (.val<|.list<|lC (λt=>u6 u<|(z+t) % 8) B (fS s) 4) (.val<|.int (7:Nat)) (.val<|.int ((z+7) % 8:Nat)) (.val<|.str y7) (.val<|.int (3:Nat)) (.val a3) (.val b3) .unb .unb),hl [.str ⟨#[fS s,46,32]⟩,.str ⟨#[]⟩,.str ⟨#[46,46,46,46,46]⟩],ht ⟨#[fS s]⟩,ht ⟨#[fS s,46,32]⟩,.b aE,.b aE,ht ⟨#[fS s]⟩,.d<|.bool aE,.b aE,.b aE,hl<|dI [0,0,0,0,0,0,0,0],.f .next (eQ (di u) c _ _ _ _ _ _ _ (.own _) _)] (aU<|L+2) [di u,.int c] _ rfl tt lp1 ff (nl rfl) ys (oj rfl rfl) (Xb rfl rfl (bJ rfl)) tt lp2 ((E2 _ _ _ _ _ _ _ _ _ _ _).2 _) ff (nl rfl) ys (oj rfl rfl) (iU .d st8) rfl ff (nl rfl) ys yi rfl rfl (.mul (n:=8) .d (by show 1*8<=256;decide) (by decide)<|by decide) tt (λK h=>t4 0 (by decide) rfl (t4 1 (by decide) (by simp[dI])<|t4 2 (by decide) (by simp[dI])<|t4 3 (by decide) (by simp[dI])<|t4 4 (by decide) (by simp[dI])<|t4 5 (by decide) (by simp[dI])<|t4 6 (by decide) (by simp[dI])<|t4 7 (by decide) (by simp[dI]) h)) .ret) rfl
end B01
end
namespace B01
noncomputable def rh (X:aK) (cs:List Int) (t:bx) (A B w:Int) (s6 s7 s8 s9 s10 s11:Sl):Ls:=[(1,.val<|.list<|cs.map .int),(2,.val<|di t),(3,.val<|.int A),(4,.val<|.int B),(5,.val<|.int w),(6,s6),(7,s7),(8,s8),(9,s9),(10,s10),(11,s11),(12,.unb),(0,.val X)]
section
variable {o:bj} {X:aK} {cs:List Int} {t:bx} {A B w:Int}
noncomputable def M4:EW:=.list [.aH .Add (.aH .Add (.au cR<|.int 0)<|.aH .Mult Fb<|.au cR<|.int 1) wv4,.aH .Add (.au cR<|.int 1) HN]
theorem Fg {p:Int×Int} (hA:0<=A/\A<10^6) (hp:hj p):CE M4.w eE [] o (gI<|rh X cs t A B w .unb .unb .unb .unb .unb .unb) (aw p) (aA<|aw<|shr A B w p):=λR K h=>fN M4 eE [] o [.b aB,hi p.1,hi p.2,hi p.2] (gI<|rh X cs t A B w .unb .unb .unb .unb .unb .unb) (aw p) R K rfl tt (iV p) (cK p) (xX (by exact (oM<|bG (iL<|jS (hA.1:0<=A)) hA.2)) (by have:=hp.2;exact (aQ this))) (cK p) rfl h
noncomputable def O8:EW:=.list [.aH .Sub (.au (.au BK cR)<|.int 0)<|.au (.au BK<|.aH .Sub cR<|.int 1)<|.int 0,.aH .Sub (.au (.au BK cR)<|.int 1)<|.au (.au BK<|.aH .Sub cR<|.int 1)<|.int 1]
theorem EI {d6 d7 d8:aK} {k:Int} {a b:Int×Int} (h1: ∀r,cC r (.d<|di t) k<|aw a) (h2: ∀r,cC r (.d<|di t) (k - 1)<|aw b):CE O8.w eE [] o (gI<|rh X cs t A B w (.val d6) (.val d7) (.val d8) .unb .unb .unb) (.int k) (aA<|aw<|cF b a):=λR K h=>fN O8 eE [] o [.b aB,.d<|aw a,hi a.1,.d<|aw b,hi b.1,.d<|aw a,hi a.2,.d<|aw b,hi b.2] (gI<|rh X cs t A B w (.val d6) (.val d7) (.val d8) .unb .unb .unb) (.int k) R K rfl tt (h1 _) (iV a) (h2 _) (iV b) (h1 _) (cK a) (h2 _) (cK b) rfl h
noncomputable def Jv:EW:=.call 32 [.bi .abs [.au cR<|.int 0],.bi .abs [.au cR<|.int 1]]
theorem JM {r:bQ} (x:Int):cn r .abs [.d<|.int x] (.int (x.natAbs:Int)):=yj x
theorem Dw (L:Nat) {d6 d7 d8 d9 d10:aK} {p:Int×Int}:CE Jv.w eE [] (aU<|L+1) (gI<|rh X cs t A B w (.val d6) (.val d7) (.val d8) (.val d9) (.val d10) .unb) (aw p) (aA<|.int<|fg p):=λR K h=>fN Jv eE [] (aU<|L+1) [.b aB,hi p.1,hi p.1.natAbs,hi p.2,hi p.2.natAbs,hi<|fg p] (gI<|rh X cs t A B w (.val d6) (.val d7) (.val d8) (.val d9) (.val d10) .unb) (aw p) R K rfl tt (iV p) (JM _) (cK p) (JM _) (h_ L p.1.natAbs p.2.natAbs) rfl h
noncomputable def JT:EW:=.aH .FloorDiv (.aH .Add (.aH .Add (.aH .Mult (.aH .Mult QDM cR) cR)<|.aH .Mult (.aC 11) cR)<|.int 2)<|.int 2
theorem yD {d6 d7 d8 d9:aK} {a s k:Int} (ha:a.natAbs<=1000) (hs:s.natAbs<=1000) (hk:k.natAbs<=10):CE JT.w eE [] o (gI<|rh X cs t A B w (.val d6) (.val d7) (.val d8) (.val d9) (.val<|.int a)<|.val<|.int s) (.int k) (aA<|.int<|(a*k*k+s*k+2).fdiv 2):=λR K h=>fN JT eE [] o [.b aB] (gI<|rh X cs t A B w (.val d6) (.val d7) (.val d8) (.val d9) (.val<|.int a)<|.val<|.int s) (.int k) R K rfl tt (oI ha hk rfl rfl) (oI (wU ha hk) hk rfl rfl) (oI hs hk rfl rfl) ff (nl rfl) rfl h
end
noncomputable def lz (t:bx):Nat->Int×Int
 |0=>p0 t
 |1=>p1 t
 |_=>p2 t
theorem QBB {t:bx} (T:l5 t): ∀i,hj (lz t i)/\0<=(lz t i).1/\0<=(lz t i).2
 |0=>⟨T.a,uW _,dP _⟩
 |1=>⟨T.b,dP _,dP _⟩
 |n+2=>⟨T.c,dP _,dP _⟩
noncomputable def gT (A B w:Int) (t:bx) (i j:Nat):Nat:=if j=0 then (shr A B w<|lz t i).1.toNat else (shr A B w<|lz t i).2.toNat
theorem EH {a:Int} (h:0<=a/\a<10^6):a.natAbs<=1000000:=oM<|kD (Cm<|jS h.1)<|bw h.2
theorem PE {x:Int} (g:0<=x) (h:x<10^10):x.toNat<10^10:=mF.mp<|o9 (Cm<|jO g) h
theorem K0 {x:Int} {m:Nat} (h:x.natAbs<=m) (g:eX m 20000000=aB):x<10^10:=o9 QGl (o9 (oq.mpr<|az h<|bJ g)<|by decide)
theorem QAW {A B w:Int} {t:bx} (T:l5 t) (hA:0<=A/\A<10^6) (hB:0<=B/\B<10^6) (hw:0<=w/\w<10^6):(∀i j,gT A B w t i j<10^10)/\gD (gT A B w t)=.list [aw<|shr A B w<|p0 t,aw<|shr A B w<|p1 t,aw<|shr A B w<|p2 t]:=by
 have q: ∀i,0<=(shr A B w<|lz t i).1/\(shr A B w<|lz t i).1<10^10/\0<=(shr A B w<|lz t i).2/\(shr A B w<|lz t i).2<10^10:=λi=>by refine eN (QBB T i) λs h1 h2=>?_;have m1:=wU (EH hA) s.2;have n1:(shr A B w<|lz t i).1.natAbs<=_:=az (AM _ _)<|iF (az (AM _ _)<|iF s.1 m1)<|EH hB;have n2:(shr A B w<|lz t i).2.natAbs<=_:=az (AM _ _)<|iF s.2<|EH hw;exact ⟨qw (qw h1<|kG hA.1 h2) hB.1,K0 n1 rfl,qw h2 hw.1,K0 n2 rfl⟩
 refine ⟨λi j=>?_,?_⟩
 ·have:=q i
  unfold gT
  split
  ·exact PE this.1 this.2.1
  ·exact PE this.2.2.1 this.2.2.2
 ·have e: ∀i,aw ((gT A B w t i 0:Nat),(gT A B w t i 1:Nat))=aw (shr A B w<|lz t i):=λi=>by
   have:=q i;unfold gT aw;rw[if_pos rfl,if_neg<|by decide];dsimp only;rw[jO this.1,jO this.2.2.1]
  unfold gD;rw[e 0,e 1,e 2];rfl
theorem QDs {t:bx} (T:l5 t):(vk t).natAbs<=1000:=by unfold vk;rw[QGr];exact az (gH (wU (gH T.b.1 T.a.1)<|gH T.c.2 T.b.2)<|wU (gH T.b.2 T.a.2)<|gH T.c.1 T.b.1) (by decide)
theorem QAC (p:Int×Int):(fg p).natAbs<=p.1.natAbs+p.2.natAbs:=by
 unfold fg;rw[QGr];rcases Nat.eq_zero_or_pos p.1.natAbs with q|q
 ·rw[q,Nat.gcd_zero_left];exact (by simp+arith)
 ·have:=Nat.gcd_le_left p.2.natAbs q
  exact (aQ this)
theorem Dg {a b:Int×Int} (A:hj a) (B:hj b):(fg<|cF a b).natAbs<=40:=az (QAC<|cF a b)<|iF (gH B.1 A.1)<|gH B.2 A.2
theorem S0 {a b c:Int} (h:a.natAbs<=40) (i:b.natAbs<=40) (j:c.natAbs<=40):(a+b+c).natAbs<=1000:=az (AM _ _) (az (iF (az (AM _ _)<|iF h i) j)<|by decide)
theorem RO {t:bx} (T:l5 t):(uF t).natAbs<=1000:=S0 (Dg T.c T.a) (Dg T.a T.b)<|Dg T.b T.c
theorem QCQ {ns:List Int} (hn:ns.length<=63):mB (aU 400) 1 Gd [.list<|ns.map .int] (.bool aB):=by
 refine aV (⟨_,rfl⟩: ∃P:Int,7^bN 3100=P) λP hP=>?_;obtain ⟨c0,c1,c2,c3,c4,H⟩:=WM 399 (ns:=ns) (fs:=[629,77,4310,314159265358979323,P]) (az hn<|by decide) rfl;refine aS (WJ 399 c0) λm hm hc=>?_;have T:=Za (m:=m);have O:=T3 m;generalize lG m=t at*;refine aS (⟨_,rfl,nX _ (by decide),nW _<|by decide⟩: ∃A,c3.fmod (10^bN 6)=A/\(0<=A/\A<10^6)) λA eA A0=>?_;refine aS (⟨_,rfl,nX _ (by decide),nW _<|by decide⟩: ∃B,(c3.fdiv<|10^bN 6).fmod (10^bN 6)=B/\(0<=B/\B<10^6)) λB eB B0=>?_;refine aS (⟨_,rfl,nX _ (by decide),nW _<|by decide⟩: ∃w,(c3.fdiv<|10^bN 12).fmod (10^bN 6)=w/\(0<=w/\w<10^6)) λw ew w0=>?_;refine bI (QAW T A0 B0 w0) λhg eg=>?_;have bk:=QCF 396 hg c1;rw[eg] at bk;have fo:=Y_ 397 T c2;have co:=Sh 397 (by decide) T O.st A0 B0 w0 c4;rw[O.eq] at co;have mu:=P_ 397 (by decide) O.a O.i c4;rw[O.ZQ] at mu;have j:=λr=>L9 (r:=r) t;have jm: ∀r,cC r (.d<|di t) (0 - 1)<|aw<|p2 t:=λr=>.seq (.l .d) (by show (3:Int)<2^63;decide) (rfl:_=aA 2) rfl;have tb:(10:Int)^bN 6=1000000/\(10:Int)^bN 12=1000000000000:=by decide
 have n6: ∀x:Int,sC x (10^bN 6)=false:=λx=>nl (by decide);have n12: ∀x:Int,sC x (10^bN 12)=false:=λx=>PyProof.noPylong_of_log2 (by decide+kernel);have k0:decide ((10:Int)^bN 6=0)=false:=by decide
 have k1:decide ((10:Int)^bN 12=0)=false:=by decide
 have ibt:((ib 10:Nat):Int)*6<=134217728/\((ib 10:Nat):Int)*12<=134217728/\((ib 7:Nat):Int)*3100<=134217728:=by decide
 have X:(∀r,cC r (.d<|.list<|[c0,c1,c2,c3,c4].map .int) 0<|.int c0)/\(∀r,cC r (.d<|.list<|[c0,c1,c2,c3,c4].map .int) 1<|.int c1)/\(∀r,cC r (.d<|.list<|[c0,c1,c2,c3,c4].map .int) 2<|.int c2)/\(∀r,cC r (.d<|.list<|[c0,c1,c2,c3,c4].map .int) 3<|.int c3)/\ ∀r,cC r (.d<|.list<|[c0,c1,c2,c3,c4].map .int) 4<|.int c4:=⟨λr=>pj (xs:=[c0,c1,c2,c3,c4]) (w:=0) rfl rfl (by show (5:Int)<_;decide),λr=>pj (xs:=[c0,c1,c2,c3,c4]) (w:=1) rfl rfl (by show (5:Int)<_;decide),λr=>pj (xs:=[c0,c1,c2,c3,c4]) (w:=2) rfl rfl (by show (5:Int)<_;decide),λr=>pj (xs:=[c0,c1,c2,c3,c4]) (w:=3) rfl rfl (by show (5:Int)<_;decide),λr=>pj (xs:=[c0,c1,c2,c3,c4]) (w:=4) rfl rfl (by show (5:Int)<_;decide)⟩;have f8: ∀d∈dI (eR t),fP 8 d=true:=PX<|eR t;have fne:eR t≠[]:=by unfold eR;exact nofun
 refine jY (by
  cases q:eR t with
  |nil=>exact QHb q fne
  |cons a b=>exact ⟨a,b,rfl⟩: ∃f0 fs,eR t=f0::fs) λf0 fs ef=>?_
 have g8: ∀d∈[aw<|shr A B w<|p0 t,aw<|shr A B w<|p1 t,aw<|shr A B w<|p2 t],fP 8 d=true:=λd m=>by simp only[bp,gU,or_false] at m;rcases m with rfl|rfl|rfl<;>exact EJ [_,_]
 have cE: ∀r,gj r .Eq (.d<|.list<|dI<|eR t) (.d<|.list []) false:=λr=>by rw[ef] at f8⊢;exact SY f8
 have s1: ∀r,gR r (.d<|.list<|dI<|eR t) (.d .none) (.d<|.int 5) (.d .none)<|.list<|dI<|(eR t).take 5:=λr=>by have l8:(dI<|eR t).length=8:=rfl;have:=gR.lst (r:=r) (v:=.d<|.list<|dI<|eR t) .d .none (.int (i:=5)) .none nofun (by rw[l8];decide);rw[yI (a:=0) (b:=5) (by rw[l8];rfl) (by decide) (by rw[l8];decide)] at this;rw[show dI ((eR t).take 5)=_ from List.map_take ..];exact this
 have s2: ∀r,gR r (.d<|.list<|dI<|eR t) (.d<|.int 5) (.d .none) (.d .none)<|.list<|dI<|(eR t).drop 5:=λr=>by have:=gR.lst (r:=r) (v:=.d<|.list<|dI<|eR t) .d (.int (i:=5)) .none .none nofun (bJ rfl);rw[show lk _ (aA 5) aF aF=_ from LI _ 5] at this;rw[show dI ((eR t).drop 5)=_ from List.map_drop ..];exact this
 have al:=QDs T;have sl:=RO T;have sg: ∀K:List aK->Prop,K [aw<|shr A B w<|p0 t,aw<|shr A B w<|p1 t,aw<|shr A B w<|p2 t]->_:=λK h=>Fg (o:=aU 400) (X:=.list<|ns.map .int) (cs:=[c0,c1,c2,c3,c4]) (t:=t) (A:=A) (B:=B) (w:=w) A0 T.a [aw<|p1 t,aw<|p2 t] K<|Fg A0 T.b _ _<|Fg A0 T.c [] _ h;have sm: ∀r,cn r .sum [.d<|.list<|[fg<|cF (p2 t)<|p0 t,fg<|cF (p0 t)<|p1 t,fg<|cF (p1 t)<|p2 t].map .int]<|.int<|uF t:=λr=>by have:=cn.sum (r:=r) (v:=.d<|.list<|[fg<|cF (p2 t)<|p0 t,fg<|cF (p0 t)<|p1 t,fg<|cF (p1 t)<|p2 t].map .int) (ns:=[fg<|cF (p2 t)<|p0 t,fg<|cF (p0 t)<|p1 t,fg<|cF (p1 t)<|p2 t]) .d;rwa[show [fg<|cF (p2 t)<|p0 t,fg<|cF (p0 t)<|p1 t,fg<|cF (p1 t)<|p2 t].sum=uF t by unfold uF;simp;exact (by simp+arith)] at this
 have A1:=T.a.1;have A2:=T.a.2;have B1:=T.b.1;have B2:=T.b.2;have C1:=T.c.1;have C2:=T.c.2;have ar: ∀r,cn r .abs [.d<|.int<|(cF (p0 t)<|p1 t).1*(cF (p1 t)<|p2 t).2 - (cF (p0 t)<|p1 t).2*(cF (p1 t)<|p2 t).1]<|.int<|vk t:=λr=>yj _;have i1:ib (cF (p0 t)<|p1 t).1+ib (cF (p1 t)<|p2 t).2<=134217728:=oI (gH B1 A1) (gH C2 B2) rfl rfl;have i2:ib (cF (p0 t)<|p1 t).2+ib (cF (p1 t)<|p2 t).1<=134217728:=oI (gH B2 A2) (gH C1 B1) rfl rfl;have x3: ∀(a b c:aK) r,(cC r (.d<|.list [a,b,c]) 1 b)/\cC r (.d<|.list [a,b,c]) 2 c:=λa b c r=>⟨.seq (.l .d) (by show (3:Int)<2^63;decide) (rfl:_=aA 1) rfl,.seq (.l .d) (by show (3:Int)<2^63;decide) (rfl:_=aA 2) rfl⟩;have y3:=x3 (aw<|cF (p2 t)<|p0 t) (aw<|cF (p0 t)<|p1 t)<|aw<|cF (p1 t)<|p2 t;rw[<-hP] at H;subst eA eB ew;exact rE Gd 1 [1,2,3,4,5,6,7,8,9,10,11,12] [hl<|[c0,c1,c2,c3,c4].map .int,hi c0,.d<|di t,hi c3,hi c3,hi c3,.ds [aw<|shr (c3.fmod<|10^bN 6) ((c3.fdiv<|10^bN 6).fmod<|10^bN 6) ((c3.fdiv<|10^bN 12).fmod<|10^bN 6)<|p0 t,aw<|shr (c3.fmod<|10^bN 6) ((c3.fdiv<|10^bN 6).fmod<|10^bN 6) ((c3.fdiv<|10^bN 12).fmod<|10^bN 6)<|p1 t,aw<|shr (c3.fmod<|10^bN 6) ((c3.fdiv<|10^bN 6).fmod<|10^bN 6) ((c3.fdiv<|10^bN 12).fmod<|10^bN 6)<|p2 t],hi c1,.d<|.list [aw<|shr (c3.fmod<|10^bN 6) ((c3.fdiv<|10^bN 6).fmod<|10^bN 6) ((c3.fdiv<|10^bN 12).fmod<|10^bN 6)<|p0 t,aw<|shr (c3.fmod<|10^bN 6) ((c3.fdiv<|10^bN 6).fmod<|10^bN 6) ((c3.fdiv<|10^bN 12).fmod<|10^bN 6)<|p1 t,aw<|shr (c3.fmod<|10^bN 6) ((c3.fdiv<|10^bN 6).fmod<|10^bN 6) ((c3.fdiv<|10^bN 12).fmod<|10^bN 6)<|p2 t],.b aE,.b aE,hi c2,hl<|dI<|eR t,.b aE,.b aE,hi c4,hl<|dI<|eR t,.b aE,.b aE,.b aE,.ds [aw<|cF (p2 t)<|p0 t,aw<|cF (p0 t)<|p1 t,aw<|cF (p1 t)<|p2 t],.d<|aw<|cF (p0 t)<|p1 t,hi (cF (p0 t)<|p1 t).1,.d<|aw<|cF (p1 t)<|p2 t,hi (cF (p1 t)<|p2 t).2,.d<|aw<|cF (p0 t)<|p1 t,hi (cF (p0 t)<|p1 t).2,.d<|aw<|cF (p1 t)<|p2 t,hi (cF (p1 t)<|p2 t).1,hi<|vk t,.ds<|[fg<|cF (p2 t)<|p0 t,fg<|cF (p0 t)<|p1 t,fg<|cF (p1 t)<|p2 t].map .int,hi<|uF t,.ds<|dI<|Bq t,hl<|dI<|(eR t).take 5,hi<|tG t,hl<|dI<|(eR t).drop 5,hi<|qX t,hi c4,hl<|dI<|Bq t,.b aB] (aU 400) [.list<|ns.map .int] (.bool aB) rfl tt ibt.2.2 H (X.1 _) hc (X.2.2.2.1 _) tt ibt.1 k0 (X.2.2.2.1 _) tt ibt.1 k0 (n6 _) tt ibt.1 k0 (X.2.2.2.1 _) tt ibt.2.1 k1 (n12 _) tt ibt.1 k0 (bJ rfl) sg (X.2.1 _) bk (iU .d g8) rfl (X.2.2.1 _) fo (cE _) rfl (X.2.2.2.2 _) co (iU .d f8) rfl rfl tt (bJ rfl) (λK h=>EI (λr=>(j r).1) jm [.int (1:Nat),.int (2:Nat)] K<|EI (λr=>(j r).2.1) (λr=>(j r).1) [.int (2:Nat)] _<|EI (λr=>(j r).2.2) (λr=>(j r).2.1) [] _ h) (y3 _).1 (iV _) (y3 _).2 (cK _) i1 (y3 _).1 (cK _) (y3 _).2 (iV _) i2 (ar _) (bJ rfl) (λK h=>Dw 399 [_,_] K<|Dw 399 [_] _<|Dw 399 [] _ h) (sm _) (bJ rfl) (λK h=>yD al sl (by decide) [_,_,_,_] K<|yD al sl (by decide) [_,_,_] _<|yD al sl (by decide) [_,_] _<|yD al sl (by decide) [_] _<|yD al sl (by decide) [] _ h) (s1 _) (.sum .d) (s2 _) (.sum .d) (X.2.2.2.2 _) mu (eqR<|PX _) .ret
end B01
namespace B01
noncomputable abbrev rR:RowW:=me.row.toRowW
theorem Je:rR.promised:=(ax [.list [.int 3,.int 1]] (by decide+kernel)<|by decide+kernel)
theorem ow1:opensWell pg=true:=by lia
theorem ba1:pg.bare:=(QCA rfl rfl rfl rfl rfl (by decide+kernel))
theorem la:frees rR=true:=by lia
theorem SO: ∃d K,defOf qv "law" =aA (d,K)/\pg.theDef "law" =aA (d.params,d.body,d.scope)/\kwWritten? d.params.kwonlyargs d.params.kw_defaults=aA K:=(cy _ _ rfl rfl rfl)
noncomputable def Vt (vs:List aI):ba nT:=do match<-nsGet lS "law" with
 |some f=>do ret (<-QGs f vs)
 |none=>unsupported "claim.caller:no-such-global"
theorem Nr (i:(h8 cx ir).Inv Y s) (hf:cx f=aA cf):isCodeTable s cf.tab/\ ∃ps,s.get? cf.tab=aA {cls:=.none,data:=.fields ps}:=by obtain ⟨n,L,t0,_⟩:=i f cf hf;exact ⟨t0.isCodeTable,_,t0.2⟩
theorem VD {X:Nat->bH} (base: ∀b o,(dh P X).get? b=aA o->s.get? b=aA o) (k: ∀b o,s.get? b=aA o-> ¬ (h8 cx ir).PF b->h'.get? b=aA o) (i:(h8 cx ir).Inv (h8 cx ir).PF h'):OldK s h':=by
 have key: ∀b o,s.get? b=aA o->(h8 cx ir).PF b->(isCodeTable s b/\o=mZ/\ ∃ps,h'.get? b=aA {cls:=.none,data:=.fields ps}):=by
  rintro b o e ⟨f,cf,hf,rfl⟩
  refine ⟨(Nr (I2 (P:=P) (X:=X) base) hf).1,?_,(Nr i hf).2⟩
  have hb:s.get? cf.tab=aA mZ:=by
   rcases xq (et f cf hf rfl) with q|q|q
   ·exact sb q<|base _ _<|As P X
   ·exact sb q<|base _ _<|AX P X
   ·exact sb q<|base _ _<|BA P X
  rw[hb] at e;exact (kC e).symm
 refine ⟨λb o e=>?_,λb o e=>?_⟩
 ·by_cases p:(h8 cx ir).PF b
  ·obtain ⟨a1,rfl,ps,a3⟩:=key b o e p
   exact .inr (.inl ⟨a1,rfl, #[],ps,rfl,by erw[a3];simp[mZ]⟩)
  ·exact .inl<|k b o e p
 ·by_cases p:(h8 cx ir).PF b
  ·obtain ⟨a1,rfl,ps,a3⟩:=key b o e p
   exact ⟨_,a3⟩
  ·exact ⟨o,k b o e p⟩
theorem Wc (args:List WData):rR.claim.post args (.bool aB) args=true:=by lia
theorem Uz {w:bz} {X:Nat->bH} (hX:kU X) {ns:List Int} (hl:ns.length<=63) {vs:List aI} (base: ∀b o,(dh w.params X).get? b=aA o->s.heap.get? b=aA o)
 (ht:1<=s.toks) (hg:s.gens= #[]) (hw:DU w.params s.heap vs [ux<|xQ<|ns.map xR]) (cl:fY->Option aM) (mean:ExcName->Option aI):
 aO (aY pg w) callerA (QGs (.ref 413) vs) (λv s'=>GoodWG rR.claim cl mean [ux<|xQ<|ns.map xR] s (.ok<|.ret v) s') (λe s'=>GoodWG rR.claim cl mean [ux<|xQ<|ns.map xR] s (.error e) s') s:=by
 have ok:=okw (w:=w) hX 401;refine uG (ok.1.F 26 _ _<|dj (QCQ hl) rfl) λnm a o fd k1 k2 O O hc=>?_;obtain rfl:a=413:=by have k1:aA ("law" :aG)=aA nm:=k1;cases k1;cases bM ((jd (w:=w) (X:=X) "law").trans (by lia:_=aA (wY 413))) (k2:mg w X "law" =aA (.ref a));rfl
 have pfG: ∀b o,(D w X 401).G.get? b=aA o-> ¬ (D w X 401).P.PF b:=λb o e p=>by have q:=YC e;rcases xq p with rfl|rfl|rfl<;>exact absurd q (by decide+kernel)
 refine hc (X:=(h8 cx ir).PF) ⟨(⟨rfl,by refine (?_:1+claimMargin+401<=900);decide,by refine (?_:4+10*401+300<=9900);decide⟩:gz (D w X 401).n callerA),ht,λb o e=>base b o<|J9 e,pfG,λb p=>?_,λO p=>p,I2 base⟩ (ZY hw ?_) λu s' ct rd=>?_
 ·rcases xq p with rfl|rfl|rfl
  ·exact ⟨_,base _ _<|As _ X⟩
  ·exact ⟨_,base _ _<|AX _ X⟩
  ·exact ⟨_,base _ _<|BA _ X⟩
 ·intro a o e hc p
  rcases xq p with rfl|rfl|rfl
  ·obtain rfl:=bM (base _ _<|As _ X) e
   exact hc rfl
  ·obtain rfl:=bM (base _ _<|AX _ X) e
   exact hc rfl
  ·obtain rfl:=bM (base _ _<|BA _ X) e
   exact hc rfl
 ·obtain rfl:=rd.bool_inv
  exact sb ct.e<|⟨.inl<|EK _ (.bool true) [] rfl (λO=>rfl) (.bool _) (Wc _) (λO=>⟨.nil,λO ha=>nomatch ha⟩),VD (X:=X) base (λb o e p=>ct.keep b o e id p) ct.inv,rfl,.of_eq hg⟩
theorem VE (w:bz) (X:Nat->bH):mg w X "law" =aA (.ref 413):=(jd (w:=w) (X:=X) "law").trans (by lia)
theorem R3 {ns:List Int} (h:me.pre.holds R {args:=[ux<|xQ<|ns.map xR]}=aB):ns.length<=63:=by
 have e:me.pre=.and (.not<|.lt (.lit<|.int (63:Nat))<|.len<|.arg 0) (.lit<|.bool aB):=rfl;rw[e] at h;refine jN λq=>?_
 have l: ∀r:List PyData,(ofPys r).length=r.length:=by
  intro r;induction r with
  |nil=>rfl
  |cons x r i=>simp[ofPys,i]
 have d:decide ((63:Int)<(ns.length:Int))=true:=by simp;exact (bE<|oL q)
 simp[WTm.holds,WTm.value,ux,l,less?,Num.less?,d] at h
theorem QDv {vs:List aI} (w:DU P h vs [ux<|xQ d]): ∃a,vs=[.ref a]:=by
 cases w with
 |cons a b=>cases b;cases a;exact ⟨_,rfl⟩
theorem rowHolds:me.row.Holds:=by
 refine Gs (frees_parts la) λf hu ha Y hm=>(HM Kw Je ⟨ba1,ow1,rfl⟩ Je.witness λw=>⟨(MZ w).1,λs' hs'=>?_⟩);refine dA ((MZ w).2 s' hs') λF hf j h=>J3 h λs hT hz Z hg G0 hY U=>aS hY λX hX base=>?_;clear h hY;refine ⟨F,hf,j,s,hT,λn hn=>?_,(by intro x C;exact nomatch C),(by intro x C;exact nomatch C),?_⟩
 ·refine bc SO λd aa e1 e2 e3=>?_
  obtain rfl:n= "law" :=by
   have:n∈(if me.row.pinned then [me.row.name] else []):=hn
   split at this
   ·exact Ig.mp this
   ·clear hn
    exact nomatch this
  exact pinned_of_view hg G0 e1 e2 e3
 ·refine ClaimW.callFrom_of_specG (c:=rR.claim) (tree:=Vt) hz Z λargs p M ord m=>aV (mQ.mp<|layAllW_isSome (R:=rR.claim.records) (cl:=classAt s.heap) (P:=w.params) (ord:=ord) (by intro c hc;exact bq hc) args rR.args s (RA p).1) λQ l=>?_
  obtain ⟨vs,N⟩:=Q;have keeps:=layAllW_keeps _ _ _ l;have A:=layAllW_rest _ _ _ l;refine dA (reads_layAllW m _ _ _ l M N.heap λO O e=>e) λas K i hold=>?_;have L:Laid rR.claim.records w s N args vs as:=⟨(ax ord m l),K,i,hold,keeps,A.1.trans Z,A.2.2.1⟩;refine aV (XR (RA p).1) λns H=>?_;clear M K;subst H;have hi:=ident_freeW (r:=rR) hu ha Y;have B: ∀b o,(dh w.params X).get? b=aA o->N.heap.get? b=aA o:=λb o e=>keeps b o<|base b o e;have u:N.heap.Ns lS (mg w X):=nF.g.keeps λb o e=>B b o<|J9 e;have t:1<=N.toks:=(QDv L.well).elim λa e=>az (by decide)<|PySem.W.X.script_toks (e▸L) U
  refine (et vs N l ?_);refine aR<|wpAny_nsGet u ?_;rw[VE];refine aR<|eY (Uz hX (R3 (RA p).2) B t L.gens L.well (classAt s.heap)<|ExcName.means s.heap) (λv s' g=>bA ?_) λe s' g=>?_
  ·have z:=g.laid (c:=rR.claim) f rfl hi L
   exact (NX _ rfl z.1 z.2.1 z.2.2 (by intro q;exact nomatch q))
  ·have z:=g.laid (c:=rR.claim) f rfl hi L
   exact (kq z.1 z.2.1 z.2.2 (by intro q;exact nomatch q))
end B01
end Mine
end
theorem PySem.Challenge.cw_wf0123_02_holds : PySem.Challenge.rw_wf0123_02.Holds :=
 Mine.B01.holds_of_row Mine.B01.rowHolds
