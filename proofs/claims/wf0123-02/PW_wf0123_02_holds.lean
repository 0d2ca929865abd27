import PyProof.Rows.All
import Wide.All
import OpenK.AllK
import Wide.FinOn
import KE.KSetDisp
import KE.KBits
import OpenK.ZHead
import Lean
import PySem.Challenge.RW_wf0123_02
set_option Elab.async false
set_option linter.all false
set_option bootstrap.genMatcherCode false
set_option genInjectivity false
set_option genSizeOf false
set_option tactic.hygienic false
set_option maxRecDepth 100000
set_option maxHeartbeats 0
noncomputable section
open Option renaming some->aA,none->aF,map_eq_some_iff->lN,isSome_iff_exists->mQ,bind_eq_some_iff->AE,getD_some->QEo,map_eq_none_iff->QGR
open Bool renaming true->aB,false->aE,and_eq_true_iff->f7,and_eq_true->gn,eq_false_iff->uQ,eq_iff_iff->uV,not_eq_true'->uZ,and_false->uq,false_eq_true->wy,true_and->Cv,or_eq_true->IK,false_and->IL,or_eq_false_iff->Po,and_true->Pw,not_eq_true->QEm,or_eq_true_iff->QFQ,false_or->QGo
open Nat renaming le_trans->az,le_of_ble_eq_true->bJ,le_refl->bh,beq->bt,blt->cP,mod_lt->dw,ble->eX,min_eq_left->fz,le_add_left->gA,mul_le_mul_left->gC,zero_le->hJ,add_le_add->iF,not_lt->iH,lt_of_le_of_lt->ig,le_of_not_lt->jN,le_antisymm->jk,lt_of_lt_of_le->mJ,lt_irrefl->mK,le_add_right->mO,le_of_eq->qm,ne_of_lt->qo,lt_of_not_le->qt,div_mul_le_self->qx,le_of_lt->sD,lt_trans->sF,lt_succ_of_lt->sP,ble_eq_true_of_le->sS,eq_of_beq_eq_true->uR,lt_succ_self->uc,zero_add->uk,lt_or_gt_of_ne->uu,add_comm->uv,ne_of_gt->wV,add_assoc->wX,sub_eq_zero_of_le->xI,add_right_comm->zt,gcd->AL,beq_refl->Co,sub_zero->Cs,mul_le_mul->Cu,min_le_right->Cw,succ->DD,exists_eq_add_of_le'->DP,mul_succ->DQ,le_succ_of_le->Hl,le_of_succ_le->H0,not_le_of_lt->H5,succ_le_succ->H7,not_le->II,mul_comm->Ic,pos_of_ne_zero->Ir,add_le_add_left->Pc,two_mul->Pd,succ_pos->Pf,not_lt_zero->QJ,add_sub_cancel'->QK,lt_or_ge->QZ,le_total->Qo,pow_succ->Qu,div_eq_of_lt->Qw,add_right_cancel->QEP,sub_add_cancel->QER,le_succ->QFP,lt_of_succ_lt_succ->QFS,sub_le->QFa,min_eq_right->QFk,eq_of_testBit_eq->QFo,testBit_and->QFp,testBit_two_pow_mul->QFq,pow_le_pow_right->QFr,div_add_mod->QFs,mul_zero->QFx,strongRecOn->QGA,mul_add->QGB,le_of_lt_succ->QGH,min_le_left->QGQ,gcd_comm->QGa,succ_mul->QGk
open Int renaming toNat->bN,le_of_lt->bw,natCast_nonneg->dP,ne_of_gt->gE,one_mul->gq,not_lt->jL,toNat_of_nonneg->jO,natAbs_of_nonneg->jS,mul_comm->jr,le_trans->kD,mul_nonneg->kG,toNat_natCast->lR,mul_pos->lU,ofNat_lt->mF,mul_le_mul_of_nonneg_right->mV,emod_nonneg->mX,emod_lt_of_pos->nV,fmod_lt_of_pos->nW,fmod_nonneg_of_pos->nX,ofNat_le->oq,lt_of_le_of_lt->o9,mul_ediv_add_emod->pL,lt_of_lt_of_le->pP,add_mul->qu,add_nonneg->qw,ediv_lt_of_lt_mul->sZ,le_refl->uW,le_antisymm->uX,mul_one->ug,ediv_nonneg->ur,add_comm->xK,mul_assoc->xM,ofNat_natAbs_of_nonpos->xO,not_le->zU,zero_add->zo,lt_or_gt_of_ne->AJ,natAbs_add_le->AM,add_le_add->Ck,le_of_eq->Cm,emod_add_emod->DV,mul_le_mul_of_nonneg_left->Hg,mul_le_mul->Hm,eq_ofNat_of_zero_le->IC,lt_trans->Ib,mul_add->Ie,add_mul_ediv_left->Iq,natAbs_mul->Iu,add_lt_add_iff_right->Iv,sub_nonneg_of_le->Iy,mul_neg_one->Iz,fdiv_eq_ediv_of_nonneg->Qp,lt_or_le->Qq,sub_mul->Qr,add_sub_cancel->Qv,mul_zero->Qx,natAbs_neg->Q6,ediv_eq_zero_of_lt->Q8,add_left_inj->QEQ,max_eq_right->QES,le_of_not_gt->QEc,add_lt_add_left->QFt,ediv_ediv_of_nonneg->QFu,mul_lt_mul_of_pos_right->QFv,emod_emod_of_dvd->QFw,ediv_one->QFy,emod_eq_of_lt->QFz,natCast_add->QGC,natCast_mul->QGD,add_assoc->QGF,add_zero->QGG,add_mul_emod_self_left->QGZ,ofNat_ne_zero->QGb,mul_sub->QGh,le_natAbs->QGj,neg_fdiv_neg->QGl,sub_le_self->QGm,natAbs_natCast->QGp
open List renaming range->bg,mem_cons->bp,replicate->dV,length_map->dY,all_eq_true->dq,length_append->du,append_nil->eZ,map_cons->gB,not_mem_nil->gU,size_toArray->gm,map_append->gp,lookup_cons->iK,mem_map->ij,append_assoc->ik,map_nil->jq,filterMap_cons->nP,foldl_cons->ot,length_cons->pQ,mem_append->qn,mem_range->sG,getElem?_eq_getElem->sR,cons_append->sV,take_append_drop->sY,nil_append->sa,take_of_length_le->uY,forIn_cons->ud,length_nil->um,drop_eq_nil_of_le->uw,length_range->xB,nodup_append->xG,replicate_succ->xN,filter_cons->xP,mem_cons_of_mem->zV,getElem?_eq_some_iff->zZ,getElem?_toArray->zc,forIn_nil->zj,reverse_cons->zv,length_reverse->AA,length_replicate->AI,getElem?_eq_none->DC,map_map->DE,mem_reverse->DF,getElem?_map->DI,length_take->DM,mem_of_getElem?->DO,flatten_cons->DR,mem_replicate->DW,mem_filterMap->Hj,contains_iff_mem->Hx,drop_eq_getElem_cons->H8,length_drop->IU,mem_singleton->Ig,map_congr_left->Ih,getD->Ii,flatten_nil->Ij,foldl->Iw,mem_append_left->Pe,nodup_cons->Pu,map_reverse->QC,isEmpty_iff->QG,getElem?_range->QI,length->Qa,sum_cons->Qk,drop_zero->Qy,drop_left->Qz,isEmpty_map->Q7,mem_append_right->QEU,getElem?_eq_none_iff->QEf,findIdx_cons->QEn,lookup->QEp,drop_length->QEs,ext_getElem?->QEy,length_eq_zero_iff->QFE,nodup_nil->QFM,all_cons->QFR,range'_succ->QFT,range_eq_range'->QFU,push_toArray->QFc,map_inj_left->QFf,sum_nil->QFg,drop_drop->QGE,take_left->QGI,takeWhile_append_of_pos->QGL,map_eq_nil_iff->QGM,length_filter_le->QGO,filterMap->QGc,replicate_succ'->QGd,filter_map->QGg,mem_filter->QGi,rec->QGn
open Or renaming elim->cp
open Eq renaming refl->ej
open Array renaming length_toList->js,size_extract->uU,getD_eq_getD_getElem?->IP,size_push->QQ,size_append->Qn,toList_inj->Q0,getElem?_extract->QEV,getElem?_eq_getElem->QFD,toList_append->QFO,all_toList->QGY
open Option.some renaming inj->kC
open Ne renaming symm->lO
open PUnit renaming unit->lQ
open False renaming elim->mG
open ForInStep renaming yield->oz
open Prod.mk renaming injEq->sT,inj->QM
open Nat.succ renaming inj->zz
open Decidable renaming em->Ip,byContradiction->QHY
open Classical renaming choose->QGe,choose_spec->QGf,byContradiction->QHI
open PySem PySem.W PyProof.Rows PySem.Calls PyProof.V
local macro_rules | `(tactic|ac_rfl)=> `(tactic|first|(simp+arith only;done)|(simp+arith only[Int.natCast_add,Int.natCast_mul,Int.cast_ofNat_Int];done)|simp+arith)
local macro_rules | `(tactic|lia)=> `(tactic|kernel_rfl)
local macro_rules | `(tactic|simp! only[$ts,*] $(l)?)=> `(tactic|simp -iota only[$ts,*] $(l)?)
local macro_rules | `(tactic|omega)=> `(tactic|lia+abstractProof)
local macro_rules | `(tactic|ac_nf)=> `(tactic|(simp -iota only[typeLookup_type,builtinLookup_eq_fast];kernel_rfl))
universe u v w
open PySem renaming Str->aG,Value->aI,Addr->aM,Shared->aN,wpAny->aO,Expr->aP,wpAny_bind->aR,model->aY,wpAny_pure->bA,Obj->bH,Heap->bK,Pos->bP,Params->bZ,Sem->ba,World->bz,eval->b7,wpAny_holding->cO,Around->cV,Env->cg,Stmt->cq,NameKind->dQ,OsState->eH,wpAny_mono->eY,Tok->fG,starEach->fI,CmpOp->fV,execs->fX,Str->fY,Flow->hM,Operator->iG,wpAny_standAt->iJ,builtinsNs->ic,wpAny_execs_cons->ip,intKind->iq,cellsFrom->jP,Scope->jQ,swapsWithSole->jo,pushCells->kE,denote->kF,sliceBounds->kf,BoolOp->kg,treeTable->km,mainNs->lS,sizeLine->mL,backTo->mM,assign->mR,swappedStores->mT,mainGlobals->nO,bindArgs->nQ,Expr->nS,Fin->nT,JoinOk->nU,wpAny_truthy_bool->ou,holding->oy,rawInt->o5,exec->o6,wpAny_Call_Name_kw->qp,wpAny_of_eq->qr,Program->sH,compareOp->sI,spliced->sM,behindInMarks->sN,standAt->sO,Walks->sQ,runN->sU,wpAny_assign_Name->uf,codeAny->uh,assignEach->uj,strValues->wd,seqIndex?->we,subscripted->wg,operate->wh,getItem->wi,callWith->wj,callWith_type->wo,attributeBase->wq,Keyword->wu,wpAny_Call_method_lateS->wx,wpAny_call->xA,Builtin->xE,DictEntry->xF,subDict->xH,Reads->zW,isTrue->zi,pyIter->zl,Result->zq,wpAny_execs_nil->zy,bindName->z7,dropValue->z9,sizeLine_eq->AG,sliceRange->Cn,storeName->Ct,getMethod->Cy,sysModules->Cz,Model->DB,swapsWith->DG,table->DK,schedN->DL,nsFind->DN,truthy->Ho,bootBuiltins->Hp,wpAny_isTrue_Compare1->Hr,wpAny_List->Hu,typeOf->Hy,wpAny_evalPart_none->Hz,newEnv->H2,newFunctionEnv->H3,wpAny_alloc->H4,foldedSetIterable->H6,setItem->H9,slot_list_setitem->IA,wpAny_call_entry->IB,wpAny_If->IF,wpAny_seqItems->IG,Comprehension->IH,argsOk->IQ,updateSeq->IS,mergeMapping->IT,findBy->IY,callEnv->IZ,wpAny_isTrue_value->Ia,table_eq_tree->Im,slot_list_getitem->Pg,typeIs_str->Ph,wpAny_loadName_local->Pj,wpAny_Compare1->Pk,wpAny_isNot_plain->Pn,PlainAttrs->Pp,backToKw->Pq,keywordEach->Pr,pushCells_keeps->Pt,letOwnedTupleGo->Px,keeperOf->Py,call_type_of->Pz,unpackItems->QA,arm_exec_Assign->QB,arm_assign_Subscript->QD,codeAny_call_function->QE,functionCode->QF,lastMarks->QH,entryFor->QN,entryFor_of_tree->QO,wpAny_fieldsOf->QP,seqItems?->QR,wpAny_mkStr->QS,codeAny_builtin->QT,typeLookup->QU,typeLookup_type->QV,builtinLookup_eq_fast->QW,dictDisplay->QY,runValue->Qb,moduleCode->Qd,newBodyFrame->Qe,blockStart->Qg,evalEachOpt->Qh,evalEach->Qi,codeAny_call_def->Ql,arm_execs_cons->Q3,wpAny_storeName_local->QEW,wpAny_getItem_list->QEe,wpAny_Constant_int->QEg,wpAny_UnaryOp->QEh,wpAny_isTrue_Not->QEi,wpAny_is_plain->QEj,wpAny_pyIter_list->QEq,wpAny_list_append_plain->QEr,wpAny_newObj_type->QEt,methodCallPos->QEu,wpAny_specialOf->QEx,wpAny_sequenceKey->QEz,wpAny_callSpecial?_slot->QFA,entry_list_setitem->QFB,args_list_setitem->QFC,wpAny_bindName->QFF,wpAny_Continue->QFH,codeAny_forLoop_any->QFI,codeAny_whileLoop->QFJ,wpAny_listPart->QFK,wpAny_updateSeq->QFL,wpCode_iff_wp->QFX,builtinType_eq_fast->QFY,signature?_of->QFZ,wpAny_dictFind_int->QFb,wpAny_dictEntries->QFd,wpAny_onRaise->QFe,wpAny_inSet_of->QFj,wpAny_askSetting->QFn,intText?->QGN,leftWithCleanup->QGS,arm_execs_nil->QGT,model->QGU,importedModules->QGV,call->QGq
open PySem.W renaming Dat->aK,kqdOk->fP,SharedT->hO,absHeap->pJ,ofPy->ux,kqdP->wc,listOf->zh,behindTheImports->AF,WellAll->DU,abs_get->IM,absHeap_at->Il,looseW->Io,absHeap_size->QL,kbt_mask->Qt,readsOut->Q4,noRoadLSs->Q5,pre_splitW->RA,stripBy_eq->QGJ,stripped->QGK,wellAll_cons_inv->QGX
open PySem.W.Dat renaming int->cB,str->sJ,list->DH,tuple->QFV
open PySem.Txt renaming lower->cH,slice->iI,replace->Cr,join->DJ,rstrip->Q2,lstripChars->Q9
open PySem.Heap renaming get?_push_size->fH,get?_push_of_some->gS,get?_none_of_le->ie,lt_size->kh,get?->wZ,get?_update_self->wz,size_push->DA,get?_some_iff->Hi,SameBut->Hk,nsMap->Qj
open PySem.Sem renaming wp->f6,wp_bind'->pR,wp_pure'->DT,wp_mono->Ik
open PySem.Builtin renaming bitAnd->jM,divisionGoesByPylong->sC,bitOr->uS,bitXor->Cp,bitNot->QET
open PySem.Sre renaming Seen->jR,forSearch->kj,inSet->AB,Frame->IJ
open PySem.Calls renaming spliced_nil->lP,spliced_cons->ua,callWith_builtin->wm,callWith_function->zr,Name_function_global->Hv,loadGlobal_builtin->QEk,loadGlobal_global->QEl
open PySem.NameKind renaming cell->mP,free->o3
open PySem.Value renaming isInt->mU,ref->wY,int->Qc,type->QFh,isInt_shape->QFi
open PySem.PyData renaming strOk->mY,list->xQ,int->xR
open PyProof.Rows renaming News->uT,tail_any->zY,wpAny_release'->IE,Subscript_->Pm,eq_str->QEa,ne_str->QEb,subscriptTail->QEd,add_int->QHJ,sub_int->QHK,mul_int->QHL,eq_int->QHN,ne_int->QHO,lt_int->QHP,le_int->QHQ,gt_int->QHR,ge_int->QHS,len_list->QHT,len_tuple->QHU,slice_closesL->QHX
open PySem.F renaming plainAttrs_str->ub,plainAttrs_dict->QEv,slot_dict_get->QEw,plainAttrs_list->QFG,slot_dict_items->QFN
open PySem.Sre.M renaming admitted->AD
open PySem.SetTable renaming eraseAt->AH,insertAt->Qm,fits->QFl,fill->QFm
open PySem.Unicode renaming isSpace->AK
open PySem.Heap.SameBut renaming update->ID
open PySem.Str renaming ofString->IV,ofString->IX,mk->Q1
open PySem.Shared renaming asleep_of_life->QX,mk->QFW
open PySem.SeqAt renaming shaped->QEX,in_list_reads->QEY,notIn_list_reads->QEZ
open PySem.Builtin.Str renaming tooLong->QGP,tooLong->QHM,strKind->QHW
open PySem.Challenge renaming rw_wf0123_02->QGW,pw_wf0123_02->QHV
namespace Mine
noncomputable def QHZ:= @absurd
noncomputable def QHa:= @if_neg
noncomputable def QHb:= @if_pos
noncomputable def QHc:= @beq_iff_eq
noncomputable def QHd:= @congrArg
noncomputable def QHe:= @beq_self_eq_true
noncomputable def QHf:= @beq_false_of_ne
noncomputable def QHg:= @of_decide_eq_true
noncomputable def QHh:= @decide_eq_true
noncomputable def QHi:= @bne_self_eq_false
section
variable {g:Prop}
section
variable {p q r s t k l m:Prop}
theorem bI (h:p/\q) (f:p->q->g):g:=f h.1 h.2
theorem eN (h:p/\q/\r) (f:p->q->r->g):g:=bI h λa b=>bI b<|f a
theorem jv (h:p/\q/\r/\s) (f:p->q->r->s->g):g:=bI h λa b=>eN b<|f a
theorem GR (h:p/\q/\r/\s/\t) (f:p->q->r->s->t->g):g:=bI h λa b=>jv b<|f a
theorem EL (h:p/\q/\r/\s/\t/\k) (f:p->q->r->s->t->k->g):g:=bI h λa b=>GR b<|f a
theorem GV (h:p/\q/\r/\s/\t/\k/\l) (f:p->q->r->s->t->k->l->g):g:=bI h λa b=>EL b<|f a
theorem X7 (h:p/\q/\r/\s/\t/\k/\l/\m) (f:p->q->r->s->t->k->l->m->g):g:=bI h λa b=>GV b<|f a
end
section
variable {A:Sort _} {p q r s t k l m:A->Prop}
theorem aV (h: ∃x,p x) (f: ∀x,p x->g):g:=h.elim f
theorem aS (h: ∃x,p x/\q x) (f: ∀x,p x->q x->g):g:=h.elim λa b=>bI b<|f a
theorem cy (h: ∃x,p x/\q x/\r x) (f: ∀x,p x->q x->r x->g):g:=h.elim λa b=>eN b<|f a
theorem sv (h: ∃x,p x/\q x/\r x/\s x) (f: ∀x,p x->q x->r x->s x->g):g:=h.elim λa b=>jv b<|f a
theorem sj (h: ∃x,p x/\q x/\r x/\s x/\t x) (f: ∀x,p x->q x->r x->s x->t x->g):g:=h.elim λa b=>GR b<|f a
theorem QBe (h: ∃x,p x/\q x/\r x/\s x/\t x/\k x) (f: ∀x,p x->q x->r x->s x->t x->k x->g):g:=h.elim λa b=>EL b<|f a
theorem MF (h: ∃x,p x/\q x/\r x/\s x/\t x/\k x/\l x) (f: ∀x,p x->q x->r x->s x->t x->k x->l x->g):g:=h.elim λa b=>GV b<|f a
end
section
variable {A B:Sort _} {p q r s t k l m:A->B->Prop}
theorem jT (h: ∃x y,p x y) (f: ∀x y,p x y->g):g:=h.elim λa b=>aV b<|f a
theorem cQ (h: ∃x y,p x y/\q x y) (f: ∀x y,p x y->q x y->g):g:=h.elim λa b=>aS b<|f a
theorem bf (h: ∃x y,p x y/\q x y/\r x y) (f: ∀x y,p x y->q x y->r x y->g):g:=h.elim λa b=>cy b<|f a
theorem iN (h: ∃x y,p x y/\q x y/\r x y/\s x y) (f: ∀x y,p x y->q x y->r x y->s x y->g):g:=h.elim λa b=>sv b<|f a
theorem oC (h: ∃x y,p x y/\q x y/\r x y/\s x y/\t x y) (f: ∀x y,p x y->q x y->r x y->s x y->t x y->g):g:=h.elim λa b=>sj b<|f a
theorem Bu (h: ∃x y,p x y/\q x y/\r x y/\s x y/\t x y/\k x y) (f: ∀x y,p x y->q x y->r x y->s x y->t x y->k x y->g):g:=h.elim λa b=>QBe b<|f a
theorem a_ (h: ∃x y,p x y/\q x y/\r x y/\s x y/\t x y/\k x y/\l x y) (f: ∀x y,p x y->q x y->r x y->s x y->t x y->k x y->l x y->g):g:=h.elim λa b=>MF b<|f a
end
section
variable {A B C:Sort _} {p q r s t k l m:A->B->C->Prop}
theorem Ti (h: ∃x y z,p x y z) (f: ∀x y z,p x y z->g):g:=h.elim λa b=>jT b<|f a
theorem oI (h: ∃x y z,p x y z/\q x y z) (f: ∀x y z,p x y z->q x y z->g):g:=h.elim λa b=>cQ b<|f a
theorem dU (h: ∃x y z,p x y z/\q x y z/\r x y z) (f: ∀x y z,p x y z->q x y z->r x y z->g):g:=h.elim λa b=>bf b<|f a
theorem dk (h: ∃x y z,p x y z/\q x y z/\r x y z/\s x y z) (f: ∀x y z,p x y z->q x y z->r x y z->s x y z->g):g:=h.elim λa b=>iN b<|f a
theorem QCI (h: ∃x y z,p x y z/\q x y z/\r x y z/\s x y z/\t x y z) (f: ∀x y z,p x y z->q x y z->r x y z->s x y z->t x y z->g):g:=h.elim λa b=>oC b<|f a
theorem QHG (h: ∃x y z,p x y z/\q x y z/\r x y z/\s x y z/\t x y z/\k x y z) (f: ∀x y z,p x y z->q x y z->r x y z->s x y z->t x y z->k x y z->g):g:=h.elim λa b=>Bu b<|f a
end
section
variable {A B C D:Sort _} {p q r s t k l m:A->B->C->D->Prop}
theorem yk (h: ∃x y z u,p x y z u) (f: ∀x y z u,p x y z u->g):g:=h.elim λa b=>Ti b<|f a
theorem Dp (h: ∃x y z u,p x y z u/\q x y z u) (f: ∀x y z u,p x y z u->q x y z u->g):g:=h.elim λa b=>oI b<|f a
theorem QAv (h: ∃x y z u,p x y z u/\q x y z u/\r x y z u/\s x y z u) (f: ∀x y z u,p x y z u->q x y z u->r x y z u->s x y z u->g):g:=h.elim λa b=>dk b<|f a
theorem uP (h: ∃x y z u,p x y z u/\q x y z u/\r x y z u/\s x y z u/\t x y z u) (f: ∀x y z u,p x y z u->q x y z u->r x y z u->s x y z u->t x y z u->g):g:=h.elim λa b=>QCI b<|f a
end
section
variable {p q r s t k l m:Prop}
theorem lK (h0:p) (h1:q) (h2:r) (h3:s):p/\q/\r/\s:=⟨h0,h1,h2,h3⟩
theorem E3 (h0:p) (h1:q) (h2:r) (h3:s) (h4:t):p/\q/\r/\s/\t:=⟨h0,h1,h2,h3,h4⟩
theorem U7 (h0:p) (h1:q) (h2:r) (h3:s) (h4:t) (h5:k):p/\q/\r/\s/\t/\k:=⟨h0,h1,h2,h3,h4,h5⟩
end
section
variable {A:Sort _} {p q r s t k l m:A->Prop}
theorem ZP (x:A) (h0:p x): ∃x,p x:=⟨x,h0⟩
theorem ax (x:A) (h0:p x) (h1:q x): ∃x,p x/\q x:=⟨x,h0,h1⟩
theorem gd (x:A) (h0:p x) (h1:q x) (h2:r x): ∃x,p x/\q x/\r x:=⟨x,h0,h1,h2⟩
theorem kU (x:A) (h0:p x) (h1:q x) (h2:r x) (h3:s x): ∃x,p x/\q x/\r x/\s x:=⟨x,h0,h1,h2,h3⟩
theorem Ng (x:A) (h0:p x) (h1:q x) (h2:r x) (h3:s x) (h4:t x): ∃x,p x/\q x/\r x/\s x/\t x:=⟨x,h0,h1,h2,h3,h4⟩
theorem Sp (x:A) (h0:p x) (h1:q x) (h2:r x) (h3:s x) (h4:t x) (h5:k x): ∃x,p x/\q x/\r x/\s x/\t x/\k x:=⟨x,h0,h1,h2,h3,h4,h5⟩
theorem RE (x:A) (h0:p x) (h1:q x) (h2:r x) (h3:s x) (h4:t x) (h5:k x) (h6:l x): ∃x,p x/\q x/\r x/\s x/\t x/\k x/\l x:=⟨x,h0,h1,h2,h3,h4,h5,h6⟩
end
section
variable {A B:Sort _} {p q r s t k l m:A->B->Prop}
theorem lz (x:A) (y:B) (h0:p x y): ∃x y,p x y:=⟨x,ZP y h0⟩
theorem fA (x:A) (y:B) (h0:p x y) (h1:q x y): ∃x y,p x y/\q x y:=⟨x,ax y h0 h1⟩
theorem cz (x:A) (y:B) (h0:p x y) (h1:q x y) (h2:r x y): ∃x y,p x y/\q x y/\r x y:=⟨x,gd y h0 h1 h2⟩
theorem jY (x:A) (y:B) (h0:p x y) (h1:q x y) (h2:r x y) (h3:s x y): ∃x y,p x y/\q x y/\r x y/\s x y:=⟨x,kU y h0 h1 h2 h3⟩
theorem vi (x:A) (y:B) (h0:p x y) (h1:q x y) (h2:r x y) (h3:s x y) (h4:t x y): ∃x y,p x y/\q x y/\r x y/\s x y/\t x y:=⟨x,Ng y h0 h1 h2 h3 h4⟩
theorem tU (x:A) (y:B) (h0:p x y) (h1:q x y) (h2:r x y) (h3:s x y) (h4:t x y) (h5:k x y): ∃x y,p x y/\q x y/\r x y/\s x y/\t x y/\k x y:=⟨x,Sp y h0 h1 h2 h3 h4 h5⟩
theorem ZF (x:A) (y:B) (h0:p x y) (h1:q x y) (h2:r x y) (h3:s x y) (h4:t x y) (h5:k x y) (h6:l x y): ∃x y,p x y/\q x y/\r x y/\s x y/\t x y/\k x y/\l x y:=⟨x,RE y h0 h1 h2 h3 h4 h5 h6⟩
end
section
variable {A B C:Sort _} {p q r s t k l m:A->B->C->Prop}
theorem XR (x:A) (y:B) (z:C) (h0:p x y z): ∃x y z,p x y z:=⟨x,lz y z h0⟩
theorem JV (x:A) (y:B) (z:C) (h0:p x y z) (h1:q x y z): ∃x y z,p x y z/\q x y z:=⟨x,fA y z h0 h1⟩
theorem la (x:A) (y:B) (z:C) (h0:p x y z) (h1:q x y z) (h2:r x y z): ∃x y z,p x y z/\q x y z/\r x y z:=⟨x,cz y z h0 h1 h2⟩
theorem p9 (x:A) (y:B) (z:C) (h0:p x y z) (h1:q x y z) (h2:r x y z) (h3:s x y z): ∃x y z,p x y z/\q x y z/\r x y z/\s x y z:=⟨x,jY y z h0 h1 h2 h3⟩
theorem HY (x:A) (y:B) (z:C) (h0:p x y z) (h1:q x y z) (h2:r x y z) (h3:s x y z) (h4:t x y z): ∃x y z,p x y z/\q x y z/\r x y z/\s x y z/\t x y z:=⟨x,vi y z h0 h1 h2 h3 h4⟩
end
section
variable {A B C D:Sort _} {p q r s t k l m:A->B->C->D->Prop}
theorem Hb (x:A) (y:B) (z:C) (u:D) (h0:p x y z u) (h1:q x y z u) (h2:r x y z u) (h3:s x y z u): ∃x y z u,p x y z u/\q x y z u/\r x y z u/\s x y z u:=⟨x,p9 y z u h0 h1 h2 h3⟩
theorem EP (x:A) (y:B) (z:C) (u:D) (h0:p x y z u) (h1:q x y z u) (h2:r x y z u) (h3:s x y z u) (h4:t x y z u): ∃x y z u,p x y z u/\q x y z u/\r x y z u/\s x y z u/\t x y z u:=⟨x,HY y z u h0 h1 h2 h3 h4⟩
end
end
theorem ay {α:Type u} {p:Prop} {a:α} (e:aF=aA a):p:=nomatch e
theorem qO {α:Type u} {p:Prop} {a:α} (e:aA a=aF):p:=nomatch e
theorem br {p:Prop} (e:aE=aB):p:=nomatch e
theorem yr {p:Prop} (e:aB=aE):p:=nomatch e
theorem cb {α:Type u} {p:Prop} {o:Option α} {a:α} (h:o=aF) (e:o=aA a):p:=nomatch h.symm.trans e
theorem wD {α:Type u} {p:Prop} {o:Option α} {a:α} (h:o=aA a) (e:o=aF):p:=nomatch h.symm.trans e
theorem bM {α:Type u} {o:Option α} {a b:α} (h:o=aA a) (e:o=aA b):a=b:=kC<|h.symm.trans e
@[elab_as_elim] theorem sb {α:Sort u} {b:α} {motive:α->Prop} {a:α} (h:b=a) (k:motive a):motive b:=h.symm▸k
@[elab_as_elim] theorem cx {α:Sort u} {b:α} {motive:α->Prop} {a:α} (h:a=b) (k:motive a):motive b:=h▸k
theorem na {a b c d:Nat} (h:a<=b) (k:c<=d):a+c<=b+d:=iF h k
theorem ni {a b c d:Int} (h:a<=b) (k:c<=d):a+c<=b+d:=Ck h k
theorem ea {a b c d:Nat} (h:a=b) (k:c=d):a+c=b+d:=h▸k▸rfl
theorem ei {a b c d:Int} (h:a=b) (k:c=d):a+c=b+d:=h▸k▸rfl
theorem aQ {a0 b0 c d:Nat} (h0:a0<=b0) (e:c+b0<=d+a0:=by ac_rfl):c<=d:=Nat.le_of_add_le_add_right<|az e<|Pc h0 d
theorem lA {a0 b0:Nat} {p:Prop} (h0:a0<=b0) (e:b0+1<=a0:=by ac_rfl):p:=QHZ (az e h0)<|Nat.not_succ_le_self b0
theorem bD {a0 b0 a1 b1 c d:Nat} (h0:a0<=b0) (h1:a1<=b1) (e:c+(b0+b1)<=d+(a0+a1):=by ac_rfl):c<=d:=aQ (iF h0 h1) e
theorem cY {a0 b0 a1 b1:Nat} {p:Prop} (h0:a0<=b0) (h1:a1<=b1) (e:b0+b1+1<=a0+a1:=by ac_rfl):p:=lA (iF h0 h1) e
theorem rJ {a0 b0 a1 b1 c d:Nat} (h0:a0=b0) (h1:a1=b1) (e:c+(b0+b1)=d+(a0+a1):=by ac_rfl):c=d:=by subst h0;subst h1;exact QEP e
theorem bE {a0 b0 c d:Int} (h0:a0<=b0) (e:c+b0<=d+a0:=by ac_rfl):c<=d:=Int.le_of_add_le_add_right<|kD e<|Int.add_le_add_left h0 d
theorem bG {a0 b0 a1 b1 c d:Int} (h0:a0<=b0) (h1:a1<=b1) (e:c+(b0+b1)<=d+(a0+a1):=by ac_rfl):c<=d:=bE (Ck h0 h1) e
theorem fh {a0 b0 a1 b1:Int} {p:Prop} (h0:a0<=b0) (h1:a1<=b1) (e:b0+b1+1<=a0+a1:=by ac_rfl):p:=QHZ (kD e<|Ck h0 h1)<|zU.mpr<|Int.lt_succ _
theorem u6 {a0 b0 c d:Int} (h0:a0=b0) (e:c+b0=d+a0:=by ac_rfl):c=d:=by subst h0;exact (QEQ _).mp e
theorem nL {a b:Nat} (h:a=b):a<=b:=qm h
theorem nR {a b:Nat} (h:a=b):b<=a:=qm h.symm
theorem iL {a b:Int} (h:a=b):a<=b:=Cm h
theorem iR {a b:Int} (h:a=b):b<=a:=Cm h.symm
theorem oL {a b:Nat} (h:a<=b):(a:Int)<=b:=oq.mpr h
theorem oZ (n:Nat):(0:Int)<=n:=dP n
theorem sL {a b:Nat} (h:b<=a):a - b+b<=a:=qm<|QER h
theorem vY {a0 b0 c d:Nat} (h0:a0=b0) (e:c+b0=d+a0:=by ac_rfl):c=d:=by subst h0;exact QEP e
theorem mI {a b:Int} (k:Nat) (h:a<=b):(k:Int)*a<=k*b:=Hg h<|dP k
theorem oM {a b:Nat} (h:(a:Int)<=b):a<=b:=oq.mp h
theorem dG (x:Nat) {c:Nat} (h:0<c):x+1<=x / c*c+c:=Nat.lt_div_mul_add h
theorem sE {a b:Nat} (h:b<=a):a - b+b=a:=QER h
theorem o4 {k:Nat} (h:k=0\/k=1\/k=2\/k=3):k<4:=h.elim (λe=>e▸by decide) λh=>h.elim (λe=>e▸by decide) λh=>h.elim (λe=>e▸by decide) λh=>h▸by decide
theorem o8 {k:Nat} (h:k=0\/k=1\/k=2\/k=3\/k=4\/k=5\/k=6\/k=7):k<8:=h.elim (λe=>e▸by decide) λh=>h.elim (λe=>e▸by decide) λh=>h.elim (λe=>e▸by decide) λh=>h.elim (λe=>e▸by decide) λh=>h.elim (λe=>e▸by decide) λh=>h.elim (λe=>e▸by decide) λh=>h.elim (λe=>e▸by decide) λh=>h▸by decide
theorem o7 {s:Nat} (h:s=1\/s=2\/s=3\/s=4\/s=5\/s=6\/s=7):s<8:=h.elim (λe=>e▸by decide) λh=>h.elim (λe=>e▸by decide) λh=>h.elim (λe=>e▸by decide) λh=>h.elim (λe=>e▸by decide) λh=>h.elim (λe=>e▸by decide) λh=>h.elim (λe=>e▸by decide) λh=>h▸by decide
theorem o7p {s:Nat} (h:s=1\/s=2\/s=3\/s=4\/s=5\/s=6\/s=7):0<s:=h.elim (λe=>e▸by decide) λh=>h.elim (λe=>e▸by decide) λh=>h.elim (λe=>e▸by decide) λh=>h.elim (λe=>e▸by decide) λh=>h.elim (λe=>e▸by decide) λh=>h.elim (λe=>e▸by decide) λh=>h▸by decide
theorem n4 {k:Nat} (h:k<4):k=0\/k=1\/k=2\/k=3:=(by decide: ∀k,k<4->(k=0\/k=1\/k=2\/k=3)) k h
theorem n8 {k:Nat} (h:k<8):k=0\/k=1\/k=2\/k=3\/k=4\/k=5\/k=6\/k=7:=(by decide: ∀k,k<8->(k=0\/k=1\/k=2\/k=3\/k=4\/k=5\/k=6\/k=7)) k h
theorem n7 {s:Nat} (h:0<s) (k:s<8):s=1\/s=2\/s=3\/s=4\/s=5\/s=6\/s=7:=(n8 k).resolve_left<|wV h
theorem HZ (a:Nat): ¬ (a:Int)<0:=jL.mpr<|oZ a
theorem M6 {a n:Nat} (h:a<=n):max 0 (min (if (a:Int)<0 then (a:Int)+(n:Nat) else (a:Int)) n)=(a:Int):=by rw[if_neg<|HZ a,Int.min_eq_left<|oL h,QES<|oZ a]
theorem ZJ {a n:Nat} (h: ¬ a<=n):max 0 (min (if (a:Int)<0 then (a:Int)+(n:Nat) else (a:Int)) n)=(n:Int):=by rw[if_neg<|HZ a,Int.min_eq_right<|oL<|Nat.le_of_not_le h,QES<|oZ n]
theorem MA {k n:Nat} (h:k<n):(0<=(if (k:Int)<0 then (k:Int)+(n:Nat) else (k:Int))/\(if (k:Int)<0 then (k:Int)+(n:Nat) else (k:Int))<n)/\(if (k:Int)<0 then (k:Int)+(n:Nat) else (k:Int)).toNat=k:=by rw[if_neg<|HZ k];exact ⟨⟨oZ k,mF.mpr h⟩,rfl⟩
theorem Zp (L k:Nat):(L+(L+k)) / 2=L+k / 2:=by rw[<-wX,<-Pd,Nat.mul_add_div<|by decide]
theorem Jn (L k:Nat):((L:Int)+((L+k:Nat):Int)) / 2^bN 1=((L+k / 2:Nat):Int):=QHd (Nat.cast (R:=Int))<|Zp L k
theorem ZA (h:Nat):(((2*h+1:Nat):Int)+1) / 2=((h+1:Nat):Int):=QHd (Nat.cast (R:=Int)) (Nat.mul_div_cancel_left (h+1) (by decide):2*(h+1) / 2=h+1)
theorem qi2 {a0 b0 a1 b1 c d:Int} (h0:a0=b0) (h1:a1=b1) (e:c+(b0+b1)=d+(a0+a1):=by ac_rfl):c=d:=by subst h0;subst h1;exact (QEQ _).mp e
theorem m4 {k:Nat} (h:k∈[0,1,2,3]):k<4:=(by decide: ∀k∈[0,1,2,3],k<4) k h
theorem m8 {k:Nat} (h:k∈[0,1,2,3,4,5,6,7]):k<8:=(by decide: ∀k∈[0,1,2,3,4,5,6,7],k<8) k h
theorem m7 {k:Nat} (h:k∈[1,2,3,4,5,6,7]):k<8:=(by decide: ∀k∈[1,2,3,4,5,6,7],k<8) k h
theorem m7p {k:Nat} (h:k∈[1,2,3,4,5,6,7]):0<k:=(by decide: ∀k∈[1,2,3,4,5,6,7],0<k) k h
theorem l8 {k:Nat} (h:k<8):k∈[0,1,2,3,4,5,6,7]:=(by decide: ∀k,k<8->k∈[0,1,2,3,4,5,6,7]) k h
theorem l7 {k:Nat} (h:0<k) (i:k<8):k∈[1,2,3,4,5,6,7]:=(by decide: ∀k,k<8->0<k->k∈[1,2,3,4,5,6,7]) k i h
local macro_rules | `(tactic|erw[$t:term])=> `(tactic|refine sb $t ?_)| `(tactic|erw[<- $t:term])=> `(tactic|refine cx $t ?_)
inductive V|d (x:Dat)|bor (i:Nat)|inst|emp
inductive Sl|unb|val (x:Dat)|own (xs:List Dat)|ali (j:Nat)|inst|clo (f:Nat)|dz (n:Nat)|emp
noncomputable abbrev bQ:=Nat->Sl
noncomputable def upd (r:bQ) (i:Nat) (s:Sl):bQ:=λj=>if j=i then s else r j
noncomputable def aT:Nat:=1000000
noncomputable def bR:Nat:=1000001
noncomputable def cR (i r:Nat):Nat:=2000000+100*i+r
inductive cS|one (i:Nat)|tup (is:List Nat)
inductive Bi|len|sum|ma|max2|kS|min2|abs|chr|ord|rB|tv|divmod
inductive Sm|lower|upper|swapcase|rstrip|qP|split|join|bits
inductive Fl|next|cont|ret (v:Dat)
noncomputable abbrev Ls:=List<|Nat×Sl
noncomputable def aL:Ls->bQ
 |[],_=>.unb
 |(j,s)::l,i=>bif bt j i then s else aL l i
noncomputable def cL:Ls->Nat->Sl->Ls
 |[],i,v=>[(i,v)]
 |(j,s)::l,i,v=>bif bt j i then (j,v)::l else (j,s)::cL l i v
structure bj where
 F:Nat->List aK->aK->Prop
 H:Nat->List aK->List aK->aK->List aK->Prop
 R:Nat->List aK->List aK->aK->Prop
 L:Nat->List aK->Ls->aK->Ls->Prop
 b1:Int->Bool
 b3:Int->aK
 gi:aG->Int->Prop
 gs:aG->aG->Prop
noncomputable def mq (x:aG):List Dat:=x.cps.toList.map λc=>.str ⟨#[c]⟩
inductive gZ (r:bQ):V->List aK->Prop
 |d {xs}:gZ r (.d<|.list xs) xs
 |bor {i xs}:r i=.own xs->gZ r (.bor i) xs
inductive yQ (r:bQ):V->List aK->Prop
 |l {v xs}:gZ r v xs->yQ r v xs
 |t {xs}:yQ r (.d<|.tuple xs) xs
inductive wA (r:bQ):V->List aK->Prop
 |q {v xs}:yQ r v xs->wA r v xs
 |s {x}:wA r (.d<|.str x) (mq x)
noncomputable abbrev ib (a:Int):Nat:=Builtin.Int.intBits a
inductive kI:iG->Int->Int->Int->Prop
 |add {a b}:kI .Add a b (a+b)
 |sub {a b}:kI .Sub a b (a - b)
 |mul {a b}:ib a+ib b<=134217728->kI .Mult a b (a*b)
 |fdiv {a b}:b≠0->Builtin.divisionGoesByPylong a b=false->kI .FloorDiv a b (a.fdiv b)
 |fmod {a b}:b≠0->kI .Mod a b (a.fmod b)
 |pow {a b}:0<=b->(ib a:Int)*b<=134217728->kI .Pow a b (a^b.toNat)
 |shl {a b}:0<=b->(ib a:Int)+b<=134217728->kI .LShift a b (a*2^b.toNat)
 |shr {a b}:0<=b->kI .RShift a b (a.fdiv<|2^b.toNat)
 |and {a b}:kI .BitAnd a b (Builtin.bitAnd a b)
 |or {a b}:kI .BitOr a b (Builtin.bitOr a b)
 |xor {a b}:kI .BitXor a b (Builtin.bitXor a b)
inductive ft (r:bQ):iG->V->V->aK->Prop
 |int {op a b c}:kI op a b c->ft r op (.d<|.int a) (.d<|.int b) (.int c)
 |cat {x y}:x.length+y.length<=16777216->ft r .Add (.d<|.str x) (.d<|.str y) (.str<|x++y)
 |rep {x n}:x.length<=4096->n<=4096-> -4096<=n->ft r .Mult (.d<|.str x) (.d<|.int n) (.str<|Txt.mul x n)
 |mul {v xs n}:gZ r v xs->xs.length*n.toNat<=256->n<2^63-> -(2^63)<=n->ft r .Mult v (.d<|.int n) (.list (List.replicate n.toNat xs).flatten)
 |add {v w xs ys}:gZ r v xs->gZ r w ys->xs.length+ys.length<=16777216->ft r .Add v w (.list<|xs++ys)
noncomputable def mZ (xs:List aK):Prop:=xs.all (fP 8)=aB
inductive qK:fV->Int->Int->Bool->Prop
 |eq {a b}:qK .Eq a b (a==b)
 |ne {a b}:qK .NotEq a b (a !=b)
 |lt {a b}:qK .Lt a b (decide (a<b))
 |le {a b}:qK .LtE a b (decide (a<=b))
 |gt {a b}:qK .Gt a b (decide (a>b))
 |ge {a b}:qK .GtE a b (decide (a>=b))
inductive rk (p:Prop):fV->Bool->Prop
 |eqT:p->rk p .Eq true
 |A6: ¬ p->rk p .Eq false
 |neT: ¬ p->rk p .NotEq true
 |oW:p->rk p .NotEq false
inductive vG (p:Prop):fV->Bool->Prop
 |qh:p->vG p .In true
 |Yc: ¬ p->vG p .In false
 |K0: ¬ p->vG p .NotIn true
 |NF:p->vG p .NotIn false
inductive gV (r:bQ):fV->V->V->Bool->Prop
 |int {op a b c}:qK op a b c->gV r op (.d<|.int a) (.d<|.int b) c
 |str {op x y c}:rk (x=y) op c->gV r op (.d<|.str x) (.d<|.str y) c
 |inl {op x w ys c}:gZ r w ys->mZ ys->kqdOk 8 x=true->vG (x∈ys) op c->gV r op (.d x) w c
 |tup {op xs ys c}:mZ xs->mZ ys->rk (xs=ys) op c->gV r op (.d<|.tuple xs) (.d<|.tuple ys) c
 |lst {op v w xs ys c}:gZ r v xs->gZ r w ys->mZ xs->mZ ys->rk (xs=ys) op c->gV r op v w c
inductive nC (r:bQ):V->Bool->Prop
 |none:nC r (.d .none) false
 |bool {b}:nC r (.d<|.bool b) b
 |int {i:Int}:nC r (.d<|.int i) (i !=0)
 |str {x:Str}:x.length<=16777216->nC r (.d<|.str x) (x.length !=0)
 |lst {v xs}:gZ r v xs->xs.length<=16777216->nC r v (!xs.isEmpty)
noncomputable def HM (a:Int) (r:List Int):Int:=r.foldl (λm x=>if x>m then x else m) a
noncomputable def By (a:Int) (r:List Int):Int:=r.foldl (λm x=>if x<m then x else m) a
inductive cn (r:bQ):Bi->List V->aK->Prop
 |j6 {x:Str}:x.length<2^63->cn r .len [.d<|.str x] (.int x.length)
 |yg {v xs}:yQ r v xs->xs.length<2^63->cn r .len [v] (.int xs.length)
 |sum {v} {ns:List Int}:gZ r v (ns.map .int)->cn r .sum [v] (.int ns.sum)
 |ma {v a} {ns:List Int}:gZ r v ((a::ns).map .int)->cn r .ma [v] (.int<|HM a ns)
 |kS {v a} {ns:List Int}:gZ r v ((a::ns).map .int)->cn r .kS [v] (.int<|By a ns)
 |max2 {a b:Int}:cn r .max2 [.d<|.int a,.d<|.int b] (.int<|if b>a then b else a)
 |min2 {a b:Int}:cn r .min2 [.d<|.int a,.d<|.int b] (.int<|if b<a then b else a)
 |abs {a:Int}:cn r .abs [.d<|.int a] (.int<|if a<0 then -a else a)
 |chr {a:Int}:0<=a->a<=1114111->cn r .chr [.d<|.int a] (.str ⟨#[a.toNat]⟩)
 |ord {x:Str}:x.length=1->cn r .ord [.d<|.str x] (.int (x.cps.getD 0 0:Nat))
 |rB {a:Int}:a.natAbs<10^10->cn r .rB [.d<|.int a] (.str<|Str.ofString<|toString a)
 |tv {x i}:x.length<=640->PySem.intText? x=some i->cn r .tv [.d<|.str x] (.int i)
 |divmod {a b:Int}:b≠0->Builtin.divisionGoesByPylong a b=false->cn r .divmod [.d<|.int a,.d<|.int b] (.tuple [.int<|a.fdiv b,.int<|a.fmod b])
inductive jI (r:bQ):Sm->V->List V->aK->Prop
 |lower {x}:x.length<=5592405->jI r .lower (.d<|.str x) [] (.str<|Txt.lower x)
 |upper {x}:x.length<=5592405->jI r .upper (.d<|.str x) [] (.str<|Txt.upper x)
 |swapcase {x}:x.length<=5592405->jI r .swapcase (.d<|.str x) [] (.str<|Txt.swapcase x)
 |rstrip {x}:x.length<=16777216->jI r .rstrip (.d<|.str x) [] (.str<|Txt.rstrip x)
 |qP {x y}:x.length<=16777216->jI r .qP (.d<|.str x) [.d<|.str y] (.str<|Txt.lstripChars x y)
 |split {x y}:x.length<=16777000->y.length≠0->jI r .split (.d<|.str x) [.d<|.str y] (.list<|(Txt.split x y).map .str)
 |join {x v} {ts:List Str}:gZ r v (ts.map .str)->JoinOk x ts->jI r .join (.d<|.str x) [v] (.str<|Txt.join x ts)
 |bits {a}:jI r .bits (.d<|.int a) [] (.int<|ib a)
inductive cC (r:bQ):V->Int->aK->Prop
 |str {x:Str} {k:Int}: -(x.length:Int)<=k->k<x.length->x.length<2^63->cC r (.d<|.str x) k (.str<|Txt.item x k)
 |seq {v xs k j d}:yQ r v xs->(xs.length:Int)<2^63->seqIndex? k xs.length=some j->xs[j]?=some d->cC r v k d
inductive nY:V->Option Int->Prop
 |none:nY (.d .none) none
 |int {i}:nY (.d<|.int i) (some i)
noncomputable def mE (xs:List aK) (l h s:Option Int):List Dat:=(Cn (kf l h s xs.length).1 (kf l h s xs.length).2.1 (kf l h s xs.length).2.2).filterMap λ(k:Nat)=>xs[k]?
inductive gR (r:bQ):V->V->V->V->aK->Prop
 |str {x a b l h}:nY a l->nY b h->x.length<=16777216->gR r (.d<|.str x) a b (.d .none) (.str<|Txt.slice x l h)
 |lst {v xs a b c l h s}:gZ r v xs->nY a l->nY b h->nY c s->s≠some 0->xs.length<=16777216->gR r v a b c (.list<|mE xs l h s)
noncomputable def nh (t:cS) (x:aK) (r:bQ):Option bQ:=
 match t with
 |.one i=>aA<|upd r i<|.val x
 |.tup o=>match x with
  |.tuple R|.list R=>if R.length=o.length then aA ((o.zip R).foldl (λr p=>upd r p.1<|.val p.2) r) else aF
  |_=>aF
noncomputable def v5 (s:Sl):Sl:=match s with
 |.clo _=>.unb
 |s=>s
noncomputable def jc (r:bQ):bQ:=λi=>if i=bR then .unb else v5 (r i)
noncomputable def fc (t:cS) (r:bQ):bQ:=match t with
 |.one i=>upd r i .unb
 |.tup o=>o.foldl (λr i=>upd r i .unb) r
noncomputable def gL (b:Bool) (x:aG):Bool:=x.cps.all λc=>if b then !(decide (c<=31)||c==127) else !(decide (c<=8)||(decide (10<=c) && decide (c<=31))||c==127)
noncomputable def kX (r:bQ) (i:Nat):Option V:=match r i with|.val x=>aA (V.d x)|.own _=>aA (.bor i)|.ali j=>aA (.bor j)|.inst=>aA .inst|.emp=>aA .emp|_=>aF
theorem qd (h: ¬ j=i):bt j i=false:=uQ.mpr λq=>h<|uR q
theorem fS (l:Ls) (i:Nat) (v:Sl):aL (cL l i v)=upd (aL l) i v:=by
 funext k;induction l with
 |nil=>
  unfold upd;by_cases h:k=i
  ·refine cx h<|sb (if_pos rfl)<|(?_:cond (Nat.beq k k) _ _=_)
   rw[Co];rfl
  ·refine sb (QHa h)<|(?_:cond (Nat.beq i k) _ _=_)
   erw[qd λq=>h q.symm];rfl
 |cons p l d=>
  obtain ⟨j,s⟩:=p;show aL (cond (bt j i) _ _) k=ite _ _ (cond (bt j k) _ _);by_cases h:j=i
  ·erw[<-h]
   rw[Co];refine (?_:cond (bt j k) _ _=_);by_cases q:k=j
   ·erw[q]
    rw[Co,if_pos rfl];rfl
   ·refine sb (qd λQ=>q Q.symm)<|sb (if_neg q) ?_
    rfl
  ·refine sb (qd h)<|(?_:cond (Nat.beq j k) _ (aL (cL l i v) k)=_)
   by_cases q:j=k
   ·erw[<-q]
    rw[Co,if_neg h];rfl
   ·refine sb (qd q)<|sb d ?_
    rfl
noncomputable def xt (t:cS) (x:aK) (l:Ls) (K:Ls->Prop):Prop:=
 match t with
 |.one i=>K<|cL l i<|.val x
 |.tup o=>match x with
  |.tuple R|.list R=>R.length=o.length/\K ((o.zip R).foldl (λl p=>cL l p.1<|.val p.2) l)
  |_=>False
theorem Gn {α:Type} (f:α->Nat×Sl): ∀(ps:List α) (l:Ls),aL (ps.foldl (λl p=>cL l (f p).1 (f p).2) l)=ps.foldl (λr p=>upd r (f p).1 (f p).2) (aL l):=by
 intro O;induction O with
 |nil=>exact λl=>rfl
 |cons p ps i=>exact λl=>(i _).trans (by rw[fS];rfl)
inductive dE {α:Type} (R:α->Prop) (K:α->Prop):Prop|mk {a}:R a->K a->dE R K
theorem vv {K:Ls->Prop} (h:xt t x l K):dE (λL=>nh t x (aL l)=aA (aL L)) K:=by
 have f: ∀(o:List Nat) (R:List aK),(R.length=o.length/\K ((o.zip R).foldl (λl p=>cL l p.1<|.val p.2) l))->
  dE (λL=>(if R.length=o.length then aA ((o.zip R).foldl (λr p=>upd r p.1<|.val p.2)<|aL l) else aF)=aA (aL L)) K:=λo R h=>
  .mk (by erw[if_pos h.1];exact QHd aA (Gn (λp:Nat×aK=>(p.1,.val p.2)) _ l).symm) h.2
 induction t with
 |one i=>exact .mk (QHd aA (fS l i _).symm) h
 |tup o=>
  cases x with
  |tuple R=>exact f o R h
  |list R=>exact f o R h
  |_=>exact h.elim
noncomputable def oD (l:Ls):Ls:=l.map λp=>(p.1,bif bt p.1 bR then .unb else v5 p.2)
theorem VN (f:Nat->Sl->Sl) (F: ∀i,f i .unb=.unb) (l:Ls) (i:Nat):aL (l.map λp=>(p.1,f p.1 p.2)) i=f i (aL l i):=by
 induction l with
 |nil=>exact (F i).symm
 |cons p l d=>
  refine (?_:cond (bt p.1 i) _ _=f i (cond (bt p.1 i) _ _));induction q:bt p.1 i with
  |true=>erw[uR q];rfl
  |false=>exact d
theorem Xw (l:Ls):aL (oD l)=jc (aL l):=by
 funext i;refine (VN (λi s=>bif bt i bR then .unb else v5 s) (λi=>by cases bt i bR<;>rfl) l i).trans ?_;unfold jc;by_cases h:i=bR
 ·erw[h]
  rfl
 ·refine sb (QHa h)<|sb (qd h) ?_
  rfl
noncomputable def oE (t:cS) (l:Ls):Ls:=match t with
 |.one i=>cL l i .unb
 |.tup o=>o.foldl (λl i=>cL l i .unb) l
theorem SY (t:cS) (l:Ls):aL (oE t l)=fc t (aL l):=by
 induction t with
 |one i=>exact fS ..
 |tup o=>exact Gn (λi=>(i,.unb)) o l
noncomputable def hG:V->Option Int|.d (.int i)=>aA i|_=>aF
theorem v9 (h:hG v=aA i):v=.d (.int i):=by
 induction v with
 |d x=>cases x<;>cases h;rfl
 |_=>exact ay h
noncomputable def h8 {α:Type} (x:Option α) (f:α->Prop) (g:Prop):Prop:=match x with|some a=>f a|none=>g
theorem nH {α:Type} {x:Option α} {f:α->Prop} {g:Prop} (h:h8 x f g):(∃a,x=aA a/\f a)\/g:=by
 induction x with
 |none=>exact .inr h
 |some a=>exact .inl<|ax a rfl h
noncomputable def HS (op:iG) (a b:Int) (K:Int->Prop):Prop:=match op with
 |.Add=>K<|a+b
 |.Sub=>K<|a - b
 |.Mult=>ib a+ib b<=134217728/\K (a*b)
 |.FloorDiv=>b≠0/\sC a b=aE/\K (a.fdiv b)
 |.Mod=>b≠0/\K (a.fmod b)
 |.Pow=>0<=b/\(ib a:Int)*b<=134217728/\K (a^b.toNat)
 |.LShift=>0<=b/\(ib a:Int)+b<=134217728/\K (a*2^b.toNat)
 |.RShift=>0<=b/\K (a.fdiv<|2^b.toNat)
 |.BitAnd=>K<|jM a b
 |.BitOr=>K<|uS a b
 |.BitXor=>K<|Cp a b
 |_=>False
theorem XB {K} (h:HS op a b K):dE (kI op a b) K:=by
 induction op with
 |Add=>exact .mk .add h
 |Sub=>exact .mk .sub h
 |Mult=>exact .mk (.mul h.1) h.2
 |FloorDiv=>exact .mk (.fdiv h.1 h.2.1) h.2.2
 |Mod=>exact .mk (.fmod h.1) h.2
 |Pow=>exact .mk (.pow h.1 h.2.1) h.2.2
 |LShift=>exact .mk (.shl h.1 h.2.1) h.2.2
 |RShift=>exact .mk (.shr h.1) h.2
 |BitAnd=>exact .mk .and h
 |BitOr=>exact .mk .or h
 |BitXor=>exact .mk .xor h
 |_=>exact h.elim
noncomputable def Gv (l:Ls) (op:iG) (u w:V) (K:aK->Prop):Prop:=h8 (hG u) (λa=>h8 (hG w) (λb=>HS op a b λc=>K<|.int c)<|dE (ft (aL l) op u w) K)<|dE (ft (aL l) op u w) K
theorem JE {u w:V} {K} (h:Gv l op u w K):dE (ft (aL l) op u w) K:=by
 rcases nH h with ⟨a,x,h⟩|h
 ·rcases nH h with ⟨b,e,h⟩|h
  ·induction XB h with|mk H h=>simp only[v9 x,v9 e];exact .mk (.int H) h
  ·exact h
 ·exact h
noncomputable def Dy (op:fV) (a b:Int) (K:Bool->Prop):Prop:=match op with
 |.Eq=>K<|a==b
 |.NotEq=>K<|a !=b
 |.Lt=>K<|decide (a<b)
 |.LtE=>K<|decide (a<=b)
 |.Gt=>K<|decide (a>b)
 |.GtE=>K<|decide (a>=b)
 |_=>False
theorem Rh {K} (h:Dy op a b K):dE (qK op a b) K:=by
 induction op with
 |Eq=>exact .mk .eq h
 |NotEq=>exact .mk .ne h
 |Lt=>exact .mk .lt h
 |LtE=>exact .mk .le h
 |Gt=>exact .mk .gt h
 |GtE=>exact .mk .ge h
 |_=>exact h.elim
noncomputable def vO (l:Ls) (op:fV) (u w:V) (K:Bool->Prop):Prop:=h8 (hG u) (λa=>h8 (hG w) (λb=>Dy op a b K)<|dE (gV (aL l) op u w) K)<|dE (gV (aL l) op u w) K
theorem As {u w:V} {K} (h:vO l op u w K):dE (gV (aL l) op u w) K:=by
 rcases nH h with ⟨a,x,h⟩|h
 ·rcases nH h with ⟨b,e,h⟩|h
  ·induction Rh h with|mk H h=>simp only[v9 x,v9 e];exact .mk (.int H) h
  ·exact h
 ·exact h
noncomputable def nF (v:V) (K:Int->Prop):Prop:=h8 (hG v) K False
theorem X4 {K} (h:nF v K):dE (λi=>v=.d (.int i)) K:=(nH h).elim (λq=>q.elim λO q=>.mk (v9 q.1) q.2) mG
noncomputable def yY:V->Option aG|.d (.str i)=>aA i|_=>aF
theorem I9 (h:yY v=aA i):v=.d (.str i):=by
 induction v with
 |d x=>cases x<;>cases h;rfl
 |_=>exact ay h
noncomputable def Ds (v:V) (K:aG->Prop):Prop:=h8 (yY v) K False
theorem Ol {K} (h:Ds v K):dE (λi=>v=.d (.str i)) K:=(nH h).elim (λq=>q.elim λO q=>.mk (I9 q.1) q.2) mG
noncomputable def jz:V->Option aK|.d d=>aA d|_=>aF
noncomputable def i4 (v:V) (K:aK->Prop):Prop:=h8 (jz v) K False
theorem jU {K} (h:i4 v K):dE (λi=>v=.d i) K:=by
 induction v with
 |d x=>exact .mk rfl h
 |_=>exact h.elim
noncomputable def Ew (l:Ls) (i:Nat) (K:V->Prop):Prop:=h8 (kX (aL l) i) K False
theorem WM {K} (h:Ew l i K):dE (λv=>kX (aL l) i=aA v) K:=(nH h).elim (λq=>q.elim λO q=>.mk q.1 q.2) mG
noncomputable def gj:Sl->Option (List aK)|.own xs=>aA xs|_=>aF
theorem M3 {i} (h:gj v=aA i):v=.own i:=by cases v<;>cases h;rfl
noncomputable def iX (l:Ls) (i:Nat) (K:List aK->Prop):Prop:=h8 (gj<|aL l i) K False
theorem i6 {K} (h:iX l i K):dE (λv=>aL l i=.own v) K:=(nH h).elim (λq=>q.elim λO q=>.mk (M3 q.1) q.2) mG
theorem eC {p:Prop} {d:Decidable p} (h:decide p=aB):p:=QHg h
noncomputable abbrev E:=bj->Ls->(V->Ls->Prop)->Prop
noncomputable abbrev T:=bj->Ls->(Bool->Ls->Prop)->Prop
noncomputable abbrev I:=bj->Bool->Ls->(List aK->Ls->Prop)->Prop
noncomputable abbrev S:=bj->Ls->(Fl->Ls->Prop)->Prop
noncomputable def lW:List E->bj->Ls->(List V->Ls->Prop)->Prop
 |[],_,l,K=>K [] l
 |e::es,o,l,K=>e o l λv l=>lW es o l λm l=>K (v::m) l
noncomputable def xd:List V->(List aK->Prop)->Prop
 |[],K=>K []
 |v::vs,K=>i4 v λd=>xd vs λA=>K<|d::A
theorem QAN: ∀{vs:List V} {K},xd vs K->dE (λds=>vs=ds.map .d) K:=by
 intro vs;induction vs with
 |nil=>exact λh=>.mk rfl h
 |cons v vs i=>
  exact λh=>by
   induction jU h with
   |mk e h=>induction i h with|mk u h=>exact .mk (by simp only[e,u];rfl) h
noncomputable def dW (es:List E) (o:bj) (l:Ls) (K:List aK->Ls->Prop):Prop:=lW es o l λv l=>xd v λd=>K d l
noncomputable def two (b:Bool) (p q:Prop):Prop:=b=aB/\p\/b=aE/\q
noncomputable def aW:List T->T
 |[],_,l,K=>K aB l
 |t::ts,o,l,K=>t o l λz l=>two z (aW ts o l K)<|K aE l
noncomputable def cW (elt:E) (t:cS) (cs:List T) (o:bj) (l:Ls):List aK->(List aK->Prop)->Prop
 |[],K=>K []
 |x::xs,K=>xt t x l λL=>aW cs o L λz A=>aL A=aL L/\two z (elt o L λv A=>aL A=aL L/\i4 v λy=>cW elt t cs o l xs λY=>K<|y::Y) (cW elt t cs o l xs K)
noncomputable def rQ (op:kg):Bool:=match op with|.And=>aE|.Or=>aB
noncomputable def FC (op:kg) (b:Bool) (p q:Prop):Prop:=b=rQ op/\p\/b=(!rQ op)/\q
noncomputable def bW (op:kg):List E->E
 |[],_,_,_=>False
 |[e],o,l,K=>e o l K
 |e::es,o,l,K=>e o l λv l=>dE (nC (aL l) v) λb=>FC op b (K v l)<|bW op es o l K
noncomputable def Bw (op:kg):List T->T
 |[],_,l,K=>K (!rQ op) l
 |t::ts,o,l,K=>t o l λb l=>FC op b (K (rQ op) l)<|Bw op ts o l K
noncomputable def E.none:E:=λO l K=>K (.d .none) l
noncomputable def E.bool (b:Bool):E:=λO l K=>K (.d<|.bool b) l
noncomputable def E.int (i:Int):E:=λO l K=>K (.d<|.int i) l
noncomputable def E.str (x:aG):E:=λO l K=>K (.d<|.str x) l
noncomputable def E.aC (i:Nat):E:=λO l K=>Ew l i λv=>K v l
noncomputable def E.qa (i:Nat):E:=λO l K=>iX l i λx=>K (.d<|.list x)<|cL l i .unb
noncomputable def E.aH (op:iG) (a b:E):E:=λo l K=>a o l λu l=>b o l λw l=>Gv l op u w λd=>K (.d d) l
noncomputable def E.neg (a:E):E:=λo l K=>a o l λu l=>nF u λi=>K (.d<|.int (-i)) l
noncomputable def E.inv (a:E):E:=λo l K=>a o l λu l=>nF u λi=>K (.d<|.int<|QET i) l
noncomputable def E.cmp (op:fV) (a b:E):E:=λo l K=>a o l λu l=>b o l λw l=>vO l op u w λc=>K (.d<|.bool c) l
noncomputable def E.fx (op:kg) (es:List E):E:=bW op es
noncomputable def E.ite (c:T) (a b:E):E:=λo l K=>c o l λz l=>two z (a o l K)<|b o l K
noncomputable def E.list (es:List E):E:=λo l K=>dW es o l λx l=>eX x.length 16777216=aB/\K (.d<|.list x) l
noncomputable def E.tup (es:List E):E:=λo l K=>dW es o l λx l=>eX x.length 16777216=aB/\K (.d<|.tuple x) l
noncomputable def E.comp (elt:E) (t:cS) (it:I) (cs:List T):E:=λo l K=>it o aE l λx l=>x.length<=16777216/\cW elt t cs o (oE t<|oD l) x λY=>K (.d<|.list Y) l
noncomputable def E.au (a i:E):E:=λo l K=>a o l λu l=>i o l λk l=>nF k λk=>dE (cC (aL l) u k) λd=>K (.d d) l
noncomputable def E.dJ (a L i st:E):E:=λo l K=>a o l λu l=>L o l λx l=>i o l λy l=>st o l λz l=>dE (gR (aL l) u x y z) λd=>K (.d d) l
noncomputable def E.call (f:Nat) (es:List E):E:=λo l K=>dW es o l λx l=>dE (o.F f x) λz=>K (.d z) l
inductive xw {α β:Type} (R:α->β->Prop) (K:α->β->Prop):Prop|mk {a b}:R a b->K a b->xw R K
noncomputable def E.i9 (f i:Nat) (es:List E):E:=λo l K=>aL l i=.clo f/\dW es o l λx l=>xw (o.L f x l) λz l=>K (.d z) l
noncomputable def E.bi (b:Bi) (es:List E):E:=λo l K=>lW es o l λv l=>dE (cn (aL l) b v) λd=>K (.d d) l
noncomputable def GB (m:Sm) (v:V):Prop:=match m with|.bits=> ∃i,v=.d (.int i)|_=> ∃x,v=.d (.str x)
noncomputable def E.sm (m:Sm) (a:E) (es:List E):E:=λo l K=>a o l λu l=>GB m u/\lW es o l λv l=>dE (jI (aL l) m u v) λd=>K (.d d) l
noncomputable def E.qU (a:E) (y z:aG):E:=λo l K=>a o l λu l=>Ds u λx=>x.length<=4096/\y.length=1/\z.length=0/\K (.d<|.str<|Cr x y z) l
noncomputable def Nl (v:V) (K:Bool->Prop):Prop:=i4 v λd=>d=.none/\K aB\/d≠ .none/\K aE
noncomputable def E.iM (neg:Bool) (a:E):E:=λo l K=>a o l λu l=>Nl u λb=>K (.d<|.bool<|b !=neg) l
noncomputable def E.pT (a:E):E:=λo l K=>a o l λu l=>nF u λi=>K (.d<|.bool<|o.b1 i) l
noncomputable def E.qF (a:E):E:=λo l K=>a o l λu l=>nF u λi=>K (.d<|o.b3 i) l
noncomputable def E.qY (x:aG):E:=λo l K=>dE (o.gi x) λi=>K (.d<|.int i) l
noncomputable def CH (v:V) (K:Prop):Prop:=match v with|.inst=>K|_=>False
theorem AV {K:Prop} (h:CH v K):v=.inst/\K:=by cases v<;>first|exact ⟨rfl,h⟩|exact h.elim
noncomputable def E.j4 (k:Nat) (a:E) (es:List E):E:=λo l K=>a o l λu l=>CH u<|dW es o l λx l=>iX l aT λA=>aL l bR=.emp/\xw (o.H k x A) λz s=>K (.d z)<|cL l aT<|.own s
noncomputable def E.jZ (k:Nat) (a:E) (es:List E):E:=λo l K=>a o l λu l=>CH u<|dW es o l λx l=>iX l aT λs=>dE (o.R k x s) λz=>K (.d z) l
noncomputable def E.conv (b:Bool) (a:E):E:=λo l K=>aL l 0=.inst/\a o l λu l=>Ds u λx=>gL b x=aB/\K (.d<|.str x) l
noncomputable def E.fE:E:=λO l K=>aL l 0=.inst/\K (.bor aT) l
noncomputable def T.not (t:T):T:=λo l K=>t o l λb l=>K (!b) l
noncomputable def T.fx (op:kg) (ts:List T):T:=Bw op ts
noncomputable def T.aC (i:Nat):T:=λO l K=>Ew l i λv=>dE (nC (aL l) v) λb=>K b l
noncomputable def T.cmp (op:fV) (a b:E):T:=λo l K=>a o l λu l=>b o l λw l=>vO l op u w λc=>K c l
noncomputable def T.iM (neg:Bool) (a:E):T:=λo l K=>a o l λu l=>Nl u λb=>K (b !=neg) l
noncomputable def T.eP (neg b:Bool) (a:E):T:=λo l K=>a o l λu l=>i4 u λd=> ∃c,d=.bool c/\K ((c==b) !=neg) l
noncomputable def T.yq (a:E):T:=λo l K=>a o l λu l=>nF u λO=>K aE l
noncomputable def I.jA (a:E):I:=λo O l K=>dW [a] o l λd l=> ∃n:Int,d=[.int n]/\n<2^24/\ -(2^24)<n/\K ((bg n.toNat).map λ(i:Nat)=>cB (i:Int)) l
noncomputable def I.rK (a b:E):I:=λo O l K=>dW [a,b] o l λd l=> ∃m n:Int,d=[.int m,.int n]/\n<2^24/\ -(2^24)<n/\m<2^24/\ -(2^24)<m/\K ((bg (n - m).toNat).map λ(i:Nat)=>cB<|m+(i:Int)) l
noncomputable def I.rev (a:E):I:=λo O l K=>dW [a] o l λd l=> ∃x,d=[.list x]/\K x.reverse l
noncomputable def I.aC (i:Nat):I:=λO f l K=>match aL l i with
 |.val x=>dE (wA (aL l)<|.d x) λR=>K R l
 |.own R=>f=aE/\K R l
 |_=>False
noncomputable def I.jb (e:E):I:=λo O l K=>e o l λv l=>i4 v λd=>dE (wA (aL l)<|.d d) λx=>K x l
noncomputable def I.list (es:List E):I:=I.jb<|.list es
noncomputable def I.au (a i:E):I:=I.jb<|.au a i
noncomputable def I.dJ (a l i st:E):I:=I.jb<|.dJ a l i st
noncomputable def I.fE:I:=λO f l K=>aL l 0=.inst/\(f=aB->aL l bR≠ .emp)/\iX l aT λx=>K x l
inductive wH:iG->Int->Int->Int->Prop
 |add {a b}:wH .Add a b (a+b)
 |sub {a b}:wH .Sub a b (a - b)
 |shl {a b}:0<=b->(ib a:Int)+b<=134217728->wH .LShift a b (a*2^b.toNat)
 |shr {a b}:0<=b->wH .RShift a b (a.fdiv<|2^b.toNat)
noncomputable def VW (f:Fl) (p:Prop) (K:Fl->Prop):Prop:=match f with|.next=>p|f=>K f
noncomputable def sW:List S->S
 |[],_,l,K=>K .next l
 |s::ss,o,l,K=>s o l λf l=>VW f (sW ss o l K) λf=>K f l
noncomputable def Al (f:Fl) (p:Prop) (K:aK->Prop):Prop:=match f with|.ret v=>K v|_=>p
noncomputable def fW (t:cS) (b:List S) (o:bj):List aK->Ls->(Fl->Ls->Prop)->Prop
 |[],l,K=>K .next l
 |x::xs,l,K=>xt t x l λL=>sW b o L λf l=>Al f (fW t b o xs l K) λv=>K (.ret v) l
noncomputable def wW (c:T) (b:List S) (o:bj):Nat->Ls->(Fl->Ls->Prop)->Prop
 |0,_,_=>False
 |n+1,l,K=>c o l λz l=>two z (sW b o l λf l=>Al f (wW c b o n l K) λv=>K (.ret v) l)<|K .next l
inductive yO (r:bQ):V->aK->Prop
 |d {x}:yO r (.d x) x
 |bor {i xs}:i≠aT->r i=.own xs->yO r (.bor i) (.list xs)
noncomputable def vS (d:aK):Bool:=match d with
 |.tuple [.str x,.str y]=>gL aB x && gL aE y
 |_=>aE
noncomputable def S.asg (t:cS) (e:E):S:=λo l K=>e o l λv l=>i4 v λx=>xt t x l λl=>K .next l
noncomputable def S.own (i:Nat) (e:E):S:=λo l K=>e o l λv l=>i4 v λx=> ∃R,x=.list R/\K .next (cL l i<|.own R)
noncomputable def G4 (op:iG) (a b:Int) (K:Int->Prop):Prop:=match op with
 |.Add=>K<|a+b
 |.Sub=>K<|a - b
 |.LShift=>0<=b/\(ib a:Int)+b<=134217728/\K (a*2^b.toNat)
 |.RShift=>0<=b/\K (a.fdiv<|2^b.toNat)
 |_=>False
theorem QDF {K} (h:G4 op a b K):dE (wH op a b) K:=by
 induction op with
 |Add=>exact .mk .add h
 |Sub=>exact .mk .sub h
 |LShift=>exact .mk (.shl h.1 h.2.1) h.2.2
 |RShift=>exact .mk (.shr h.1) h.2
 |_=>exact h.elim
noncomputable def FV:Sl->Option Int|.val (.int i)=>aA i|_=>aF
theorem QCz {i} (h:FV v=aA i):v=.val (.int i):=by
 induction v with
 |val x=>cases x<;>cases h;rfl
 |_=>exact ay h
noncomputable def S.aug (i:Nat) (op:iG) (e:E):S:=λo l K=>h8 (FV<|aL l i) (λa=>e o l λv l=>nF v λb=>G4 op a b λc=>K .next (cL l i<|.val<|.int c)) False
noncomputable def S.expr (e:E):S:=λo l K=>e o l λv l=>i4 v λx=>(x=.none\/ ∃y,x=.str y)/\K .next l
noncomputable def S.app (i:Nat) (e:E):S:=λo l K=>iX l i λO=>e o l λv l=>i4 v λx=>iX l i λR=>R.length<16777216/\K .next (cL l i<|.own<|R++[x])
noncomputable def S.qk (e:E):S:=λo l K=>aL l 0=.inst/\iX l aT λO=>e o l λv l=>i4 v λx=>iX l aT λR=>aL l bR=.emp/\R.length<16777216/\K .next (cL l aT<|.own<|R++[x])
noncomputable def S.pX (e:E):S:=λo l K=>e o l λv l=>i4 v λx=> ∃Y,x=.list Y/\aL l 0=.inst/\iX l aT λR=>aL l bR=.emp/\R.length+Y.length<=16777216/\K .next (cL l aT<|.own Y)
noncomputable def S.qi (i:Nat):S:=λO l K=>iX l i λx=>x.length<=16777216/\K .next (cL l i<|.own x.reverse)
noncomputable def S.set (i:Nat) (k e:E):S:=λo l K=>e o l λv l=>i4 v λx=>iX l i λO=>k o l λj l=>nF j λj=>iX l i λR=>0<=j/\j<R.length/\R.length<2^63/\K .next (cL l i<|.own<|R.set j.toNat x)
noncomputable def S.pj (b k:Nat):S:=λO l K=>iX l k λx=>aL l aT=.unb/\x.all vS=aB/\K .next (cL (cL (cL (cL l aT<|.own x) bR .emp) k<|.ali aT) b .inst)
noncomputable def S.oh (b:Nat) (e:E):S:=λo l K=>aL l b=.inst/\e o l λv l=>i4 v λx=>iX l aT λA=>aL l bR=.emp/\xw (o.H 9 [x] A) λO s=>K .next (cL l aT<|.own s)
noncomputable def S.cA (c:T) (a b:List S):S:=λo l K=>c o l λz l=>two z (sW a o l K)<|sW b o l K
noncomputable def S.fF (t:cS) (it:I) (b:List S):S:=λo l K=>it o aB l λx l=>fW t b o x l K
noncomputable def S.oR (c:T) (b:List S):S:=λo l K=> ∃n,wW c b o n l K
noncomputable def S.ret (e:Option E):S:=λo l K=>match e with
 |none=>K (.ret .none) l
 |some a=>a o l λv l=>dE (yO (aL l) v) λx=>K (.ret x) l
noncomputable def S.cont:S:=λO l K=>K .cont l
noncomputable def S.defn (i f:Nat):S:=λO l K=>K .next (cL l i<|.clo f)
noncomputable def S.pd (i:Nat) (es:List E):S:=λo l K=>dW es o l λx l=> ∃n:Int,x=[.int n,.int 5,.int 2048]/\n<=2048/\0<=n/\K .next (cL l i .emp)
noncomputable def S.qN (i:Nat):S:=λO l K=>aL l i=.emp/\K .next l
noncomputable def S.stuck:S:=λO O O=>False
open Sl renaming val->xS
noncomputable def Mon (X:aM->Prop) (h:bK) (x:aM->Prop) (h':bK):Prop:= ∀a o,h.get? a=aA o-> ¬ X a->h'.get? a=aA o/\ ¬ x a
theorem Mon.refl (X h):Mon X h X h:=λO O e n=>⟨e,n⟩
theorem Mon.trans {X h X' h' X'' h''} (a:Mon X h X' h') (b:Mon X' h' X'' h''):Mon X h X'' h'':=λx o e n=>b x o (a x o e n).1 (a x o e n).2
noncomputable def Led (X:aM->Prop) (h:bK) (led:List (aM×bH)):Prop:= ∀p∈led,h.get? p.1=aA p.2/\ ¬ X p.1
noncomputable def Rd (X:aM->Prop) (h:bK) (v:aI) (d:aK):Prop:= ∃l,Led X h l/\DatIn l v d
noncomputable def bB (X:aM->Prop) (h:bK) (vs:List aI) (ds:List aK):Prop:= ∃l,Led X h l/\DatAll l vs ds
section
theorem Led.mon {led} (l:Led X h led) (m:Mon X h X' h'):Led X' h' led:=λp P=>m _ _ (l p P).1 (l p P).2
theorem Rd.mon (x:Rd X h v d) (m:Mon X h X' h'):Rd X' h' v d:=let ⟨l,a,b⟩:=x;(ax l (a.mon m) b)
theorem bB.mon (x:bB X h vs ds) (m:Mon X h X' h'):bB X' h' vs ds:=let ⟨l,a,b⟩:=x;(ax l (a.mon m) b)
theorem Led.app {l l'} (a:Led X h l) (b:Led X h l'):Led X h (l++l'):=λp P=>(qn.mp P).elim (a p)<|b p
theorem bB.nil:bB X h [] []:=(ax [] (λO p=>(nomatch p)) .nil)
theorem bB.cons (a:Rd X h v d) (b:bB X h vs ds):bB X h (v::vs) (d::ds):=aS a λl c o=>aS b λL u W=>(ax (l++L) (c.app u)<|.cons (o.mono λO=>Pe _)<|W.mono λO=>QEU _)
theorem bB.app (a:bB X h vs ds) (b:bB X h ws es):bB X h (vs++ws) (ds++es):=aS a λl c o=>aS b λL u d=>(ax (l++L) (c.app u)<|(o.mono λO=>Pe _).append<|d.mono λO=>QEU _)
theorem bB.len (a:bB X h vs ds):vs.length=ds.length:=a.choose_spec.2.length
theorem bB.head (a:bB X h (v::vs) (d::ds)):Rd X h v d:=by refine aS a λl L o=>?_;cases o with|cons x y=>exact (ax l L x)
theorem bB.tail (a:bB X h (v::vs) (d::ds)):bB X h vs ds:=by refine aS a λl L o=>?_;cases o with|cons x y=>exact (ax l L y)
theorem bB.kK (a:bB X h vs []):vs=[]:=by refine aS a λl L d=>?_;clear a L;cases d;rfl
theorem bB.hU (a:bB X h vs (d::ds)): ∃v vs',vs=v::vs'/\Rd X h v d/\bB X h vs' ds:=by refine aS a λl L o=>?_;clear a;cases o with|cons x y=>exact ⟨_,_,rfl,(ax l L x),(ax l L y)⟩
theorem bB.get (a:bB X h vs ds) {i:Nat} (hd:ds[i]?=aA d): ∃v,vs[i]?=aA v/\Rd X h v d:=by
 induction ds generalizing vs i with
 |nil=>simp at hd
 |cons x r z=>
  refine bf a.hU λv R e p q=>sb e ?_;induction i with
  |zero=>simp at hd;exact cx hd<|(ax v rfl p)
  |succ i=>exact z q (by simpa using hd)
theorem Rd.none:Rd X h .none .none:=(ax [] (λO p=>(nomatch p)) .none)
theorem Rd.bool (b):Rd X h (.bool b) (.bool b):=(ax [] (λO p=>(nomatch p))<|.bool b)
theorem Rd.int (i t):Rd X h (.int i t) (.int i):=(ax [] (λO p=>(nomatch p))<|.int i t)
theorem Rd.str (x t):Rd X h (.str x t) (.str x):=(ax [] (λO p=>(nomatch p))<|.str x t)
theorem Rd.lst {a:aM} {n:Nat} (e:h.get? a=aA (listOf vs.toArray n)) (nx: ¬ X a) (r:bB X h vs ds):Rd X h (.ref a) (.list ds):=aS r λl L d=>(ax ((a,listOf vs.toArray n)::l) (λp P=>(bp.mp P).elim (λq=>q▸⟨e,nx⟩)<|L p)<|.list (.head _)<|d.mono λO=>zV _)
theorem Rd.tup (e:h.get? a=aA {cls:=.type "tuple",data:=.seq vs.toArray n}) (nx: ¬ X a) (r:bB X h vs ds):Rd X h (.ref a) (.tuple ds):=aS r λl L d=>(ax ((a,{cls:=.type "tuple",data:=.seq vs.toArray n})::l) (λp P=>(bp.mp P).elim (λq=>q▸⟨e,nx⟩)<|L p)<|.tuple (.head _)<|d.mono λO=>zV _)
theorem Rd.none_inv (x:Rd X h v .none):v=.none:=by refine aS x λl O b=>?_;clear x;cases b;rfl
theorem Rd.bool_inv (x:Rd X h v (.bool b)):v=.bool b:=by refine aS x λl O b=>?_;clear x;cases b;rfl
theorem Rd.dd (x:Rd X h v (.int i)): ∃t,v=.int i t:=by refine aS x λl O b=>?_;clear x;cases b;exact ⟨_,rfl⟩
theorem Rd.dM {y:aG} (x:Rd X h v (.str y)): ∃t,v=.str y t:=by refine aS x λl O b=>?_;clear x;cases b;exact ⟨_,rfl⟩
theorem Rd.lst_inv (x:Rd X h v (.list ds)): ∃a vs n,v=.ref a/\h.get? a=aA (listOf vs.toArray n)/\ ¬ X a/\bB X h vs ds:=by refine aS x λl L b=>?_;clear x;cases b with|list m r=>exact ⟨_,_,_,rfl,(L _ m).1,(L _ m).2,l,L,r⟩
theorem Rd.Aj (x:Rd X h v (.tuple ds)): ∃a vs n,v=.ref a/\h.get? a=aA {cls:=.type "tuple",data:=.seq vs.toArray n}/\ ¬ X a/\bB X h vs ds:=by refine aS x λl L b=>?_;clear x;cases b with|tuple m r=>exact ⟨_,_,_,rfl,(L _ m).1,(L _ m).2,l,L,r⟩
theorem Led.news {led} (l:Led X h led):uT {objs:= #[],life:=h.life} h.objs.size h led:=λp P=>⟨(l p P).1,qo<|kh (l p P).1,by rfl⟩
end
noncomputable abbrev Ex (Ob W:aM->Prop):aM->Prop:=λa=>Ob a\/W a
structure dg (W:aM->Prop) (h:bK) (W':aM->Prop) (h':bK):Prop where
 keep: ∀a o,h.get? a=aA o-> ¬ W a->h'.get? a=aA o
 grow: ∀a,W' a->W a\/h.get? a=aF
theorem dg.refl (W h):dg W h W h:=⟨λO O e O=>e,λO=>.inl⟩
theorem dg.trans {W h W' h' W'' h''} (a:dg W h W' h') (b:dg W' h' W'' h''):dg W h W'' h'':=by
 refine ⟨λx o e n=>b.keep x o (a.keep x o e n) λq=>?_,λx q=>?_⟩
 ·refine cp (a.grow x q) (λq=>?_) λq=>?_
  ·exact n q
  ·rw[e] at q
   exact qO q
 ·refine cp (b.grow x q) (λq=>?_) λq=>?_
  ·exact a.grow x q
  ·induction e:h.get? x with
   |none=>exact .inr rfl
   |some o=>refine .inl<|QHI λn=>?_;rw[a.keep x o e n] at q;exact qO q
theorem dg.all {W h h'} (k: ∀a o,h.get? a=aA o->h'.get? a=aA o):dg W h W h':=⟨λa o e O=>k a o e,λO=>.inl⟩
theorem dg.mon {Ob W h W' h'} (a:dg W h W' h'):Mon (Ex Ob W) h (Ex Ob W') h':=λx o e n=>⟨a.keep x o e λq=>n<|.inr q,λq=>q.elim (λq=>n<|.inl q) λq=>(a.grow x q).elim (λq=>n<|.inr q) λq=>by rw[e] at q;exact qO q⟩
theorem Mon.all {X h h'} (k: ∀a o,h.get? a=aA o->h'.get? a=aA o):Mon X h X h':=λa o e n=>⟨k a o e,n⟩
structure vE where
 CL:Nat->(aM->Prop)->bK->List (aG×aM)->aM->Prop
 HI:(aM->Prop)->bK->aM->aM->Prop
 ym: ∀{f X h X' h' cl a},CL f X h cl a->Mon X h X' h'->CL f X' h' cl a
 kN: ∀{X h X' h' x a},HI X h x a->Mon X h X' h'->HI X' h' x a
 PF:aM->Prop
 Inv:(aM->Prop)->bK->Prop
 iU: ∀{X h X' h'},Inv X h->Mon X h X' h'->(∀a,PF a->h'.get? a=h.get? a)->Inv X' h'
 iS: ∀{X h a},Inv X h->PF a-> ∃o vs,h.get? a=aA o/\o.data=.fields vs
structure Fc where
 K:aG->Option dQ
 cM:aG->Option Nat
 rU:aG->Bool
 inj: ∀x y i,cM x=aA i->cM y=aA i->x=y
 bd:Nat
 rD: ∀x i,cM x=aA i->i<bd
 Cg:bd<=1000000
 ow:Bool
 nw:Bool
 hn:Bool
 cd:Option (aM×aG)
theorem Fc.low (C:Fc) (x:aG) (i:Nat) (e:C.cM x=aA i):i<1000000:=mJ (C.rD x i e) C.Cg
noncomputable def jJ:Obj:={cls:=.type "dict",data:=.dict #[]}
section
variable (P:vE) (φ:Nat->Option aM) (cl:List (aG×aM)) (X:aM->Prop) (h:bK)
noncomputable def dZ (i:Nat) (v:Option aI):Sl->Prop
 |.unb=>True
 |.emp=> ∃a,v=aA (.ref a)/\h.get? a=aA jJ/\ ¬ X a
 |.val d=> ∃u,v=aA u/\Rd X h u d
 |.own _=> ∃a,φ i=aA a/\v=aA (.ref a)
 |.ali j=>j=aT/\ ∃a,φ j=aA a/\v=aA (.ref a)
 |.inst=> ∃x a,φ aT=aA a/\v=aA (.ref x)/\P.HI X h x a
 |.clo f=> ∃a,v=aA (.ref a)/\P.CL f X h cl a
 |.dz n=> ∃a m,v=aA (.ref a)/\h.get? a=aA (listOf ((bg n).map λk=>wY<|(φ<|cR i k).getD 0).toArray m)/\ ¬ X a/\ ∀k,k<n->(φ<|cR i k).isSome
end
structure FR (P:vE) (G:bK) (C:Fc) (env:cg) (Ob:aM->Prop) (φ:Nat->Option aM) (W:aM->Prop) (r:bQ) (h:bK):Prop where
 base: ∀b o,G.get? b=aA o->h.get? b=aA o
 fN: ∀b o,G.get? b=aA o-> ¬ Ex Ob W b
 hk:env.scope.kind=.function
 hK: ∀x,env.kindOf x=C.K x
 hg:env.globals=nO
 hb:env.builtins=ic
 rV: ∀c q,C.cd=aA (c,q)->env.code=.ref c/\env.qual=q
 loc: ∃m,h.Ns env.locals m/\ ∀x i,C.K x=aA .local->C.cM x=aA i->dZ P φ env.cells (Ex Ob W) h i (m x) (r i)
 ku:W env.locals
 gr: ∀x i,(C.K x=aA .cell\/C.K x=aA .free)->C.cM x=aA i-> ∃c v,env.cells.lookup x=aA c/\h.IsCell c v/\dZ P φ env.cells (Ex Ob W) h i v (r i)
 qj: ∀x i c,C.K x=aA .cell->C.rU x=aB->C.cM x=aA i->env.cells.lookup x=aA c->W c
 oe: ∀x y c,env.cells.lookup x=aA c->env.cells.lookup y=aA c->x=y
 own: ∀i xs,r i=.own xs-> ∃a vs n,φ i=aA a/\h.get? a=aA (listOf vs.toArray n)/\bB (Ex Ob W) h vs xs
 gH:C.ow=aB-> ∀i xs a,r i=.own xs->φ i=aA a->i≠aT->W a
 jf: ∀xs,r aT=.own xs->r bR=.emp-> ∀a,φ aT=aA a->W a
 ko: ∀xs,r aT=.own xs->r bR≠ .emp-> ∀a,φ aT=aA a-> ¬ W a
 lD:(∀xs,r aT≠ .own xs)->φ aT=aF
 inj: ∀i j a,φ i=aA a->φ j=aA a->i=j
 j5: ∀i a,φ i=aA a-> ∃o,h.get? a=aA o
 dj: ∀a,Ex Ob W a-> ∃o,h.get? a=aA o
 dT: ∀a,W a-> ¬ Ob a
 inv:P.Inv (Ex Ob W) h
 pf: ∀a,P.PF a->W a
section
variable {Ob W W':aM->Prop} {φ φ':Nat->Option aM} {r:bQ} {h h':bK}
theorem dZ.mon {cl X X'} {i v} {sl:Sl} (x:dZ P φ cl X h i v sl) (m:Mon X h X' h') (hl: ∀n,sl=.dz n-> ∀a,φ i=aA a->h'.get? a=h.get? a):dZ P φ cl X' h' i v sl:=by
 induction sl with
 |val d=>exact aS x λu e q=>(ax u e<|q.mon m)
 |inst=>exact bf x λy a Y C q=>(cz y a Y C<|P.kN q m)
 |clo f=>exact aS x λa e q=>(ax a e<|P.ym q m)
 |emp=>exact cy x λa e Q s=>(ax a e<|m _ _ Q s)
 |dz n=>exact iN x λa k Y C p z=>jY a k Y (m _ _ C p).1 (m _ _ C p).2 z
 |_=>exact x
theorem FR.tB (F:FR P G C env Ob φ W r h) (k: ∀a o vs,h.get? a=aA o->o.data=.fields vs->P.PF a->h'.get? a=aA o): ∀a,P.PF a->h'.get? a=h.get? a:=λa p=>by refine cQ (P.iS F.inv p) λo vs e d=>?_;simp only[e];exact k a o vs e d p
inductive Sq:Data->Prop
 |seq {vs n}:Sq (.seq vs n)
 |cell {v}:Sq (.cell v)
theorem Sq.nf (h:Sq d) (vs):d≠ .fields vs:=λe=>nomatch e▸h
theorem Sq.nd (h:Sq d) (es ep):d≠ .dict es ep:=λe=>nomatch e▸h
noncomputable def Kn (C:Fc) (env:cg) (φ:Nat->Option aM) (a:aM):Prop:=(∃i,φ i=aA a)\/ ∃x i,(C.K x=aA .cell\/C.K x=aA .free)/\C.cM x=aA i/\env.cells.lookup x=aA a
theorem FR.al (F:FR P G C env Ob φ W r h) (q:(∃i,φ i=aA a)\/Ex Ob W a): ∃o,h.get? a=aA o:=q.elim (λq=>q.elim λi q=>F.j5 i a q)<|F.dj a
theorem FR.nl (F:FR P G C env Ob φ W r h) (e:h.get? a=aA o) (d: ∀es H,o.data≠ .dict es H):a≠env.locals:=λq=>aS F.loc λO n O=>dU n λB es H u R O=>d es H<|bM e (q▸u)▸R
theorem FR.np (F:FR P G C env Ob φ W r h) (e:h.get? a=aA o) (d: ∀vs,o.data≠ .fields vs): ¬ P.PF a:=λp=>cQ (P.iS F.inv p) λH vs u R=>d vs<|bM e u▸R
theorem E7 {m} (n:h.Ns a m) (k: ∀o,h.get? a=aA o->(∀vs,o.data≠ .fields vs)->h'.get? a=aA o):h'.Ns a m:=dU n λo K H e d q=>la o K H (k o e λvs z=>nomatch d.symm.trans z) d q
theorem FR.chg {K:aM->Prop} (F:FR P G C env Ob φ W r h) (m:Mon (Ex Ob W) h (Ex K W) h') (k: ∀a o,h.get? a=aA o->Sq o.data->Kn C env φ a->h'.get? a=aA o) (l: ∀m,h.Ns env.locals m->h'.Ns env.locals m)
 (al: ∀a,(∃i,φ i=aA a)\/Ex K W a-> ∃o,h'.get? a=aA o) (A: ∀a,W a-> ¬ K a) (inv:P.Inv (Ex K W) h'):FR P G C env K φ W r h':=by
 have g: ∀i v sl,dZ P φ env.cells (Ex Ob W) h i v sl->dZ P φ env.cells (Ex K W) h' i v sl:=by
  intro i v sl x;induction sl with
  |dz n=>exact iN x λa q e1 e2 p z=>jY a q e1 (m _ _ e2 p).1 (m _ _ e2 p).2 z
  |_=>exact x.mon m nofun
 exact aS F.loc λM Y N=>⟨λb o e=>(m b o (F.base b o e)<|F.fN b o e).1,λb o e=>(m b o (F.base b o e)<|F.fN b o e).2,F.hk,F.hK,F.hg,F.hb,F.rV,⟨M,l _ Y,λx i a b=>g _ _ _<|N x i a b⟩,F.ku,
  λx i a b=>bf (F.gr x i a b) λc v e1 p z=>cz c v e1 (aS p λo e d=>⟨o,k _ _ e (d▸ .cell)<|.inr<|cz x i a b e1,d⟩)<|g _ _ _ z,F.qj,F.oe,
  λi xs e=>dU (F.own i xs e) λa vs n e1 e2 p=>la a vs n e1 (k _ _ e2 .seq<|.inl ⟨i,e1⟩)<|p.mon m,F.gH,F.jf,F.ko,F.lD,F.inj,λi a e=>al a<|.inl ⟨i,e⟩,λa e=>al a<|.inr e,A,inv,F.pf⟩
theorem FR.keeps (F:FR P G C env Ob φ W r h) (k: ∀a o,h.get? a=aA o->h'.get? a=aA o):FR P G C env Ob φ W r h':=F.chg (Mon.all k) (λa o e O O=>k a o e) (λm n=>n.keeps k) (λa q=>aV (F.al q) λo e=>⟨o,k _ _ e⟩) F.dT<|P.iU F.inv (Mon.all k)<|F.tB λa o O e O O=>k a o e
structure Kl (L:aM) (h h':bK):Prop where
 keep: ∀a o,h.get? a=aA o->a≠L->h'.get? a=aA o
 ns: ∀m,h.Ns L m->h'.Ns L m
theorem Kl.refl (L h):Kl L h h:=⟨λO O e O=>e,λO n=>n⟩
theorem Kl.trans {L h h' h''} (a:Kl L h h') (b:Kl L h' h''):Kl L h h'':=⟨λx o e n=>b.keep x o (a.keep x o e n) n,λm n=>b.ns m<|a.ns m n⟩
theorem Kl.all {L h h'} (k: ∀a o,h.get? a=aA o->h'.get? a=aA o):Kl L h h':=⟨λa o e O=>k a o e,λm n=>n.keeps k⟩
theorem Kl.push {L h} (o:bH):Kl L h (h.push o):=.all λO O e=>gS _ e
theorem FR.MT (F:FR P G C env Ob φ W r h) (k:Kl env.locals h h') (q: ∃o,h.get? a=aA o): ∃o,h'.get? a=aA o:=by
 by_cases L:a=env.locals
 ·exact aS F.loc λO n O=>oI (k.ns _ n) λo O O e O=>⟨o,L▸e⟩
 ·exact aV q λo q=>⟨o,k.keep _ _ q L⟩
theorem FR.MM {X:aM->Prop} (F:FR P G C env Ob φ W r h) (k:Kl env.locals h h') (m:Mon (Ex Ob W) h X h'):P.Inv X h':=P.iU F.inv m<|F.tB λa o v e d O=>k.keep a o e<|F.nl e λK H q=>nomatch d.symm.trans q
theorem FR.kl (F:FR P G C env Ob φ W r h) (k:Kl env.locals h h'):FR P G C env Ob φ W r h':=by have m:Mon (Ex Ob W) h (Ex Ob W) h':=λa o e n=>⟨k.keep a o e λq=>n<|.inr<|q▸F.ku,n⟩;exact F.chg m (λa o e s O=>k.keep a o e<|F.nl e s.nd) k.ns (λa q=>F.MT k<|F.al q) F.dT<|F.MM k m
theorem FR.JJ (F:FR P G C env Ob φ W r h) (k:Kl env.locals h h'):dg W h W h':=⟨λa o e n=>k.keep a o e λq=>n<|q▸F.ku,λO=>.inl⟩
theorem FR.Gr (F:FR P G C env Ob φ W r h) (k:Kl env.locals h h'):Mon (Ex Ob W) h (Ex Ob W) h':=(F.JJ k).mon
theorem QBs (h:bK) (hn:h.Ns L m): ∃h₀ news,Fr h₀ L h m/\uT h₀ L h news/\(∀p∈news,p.1<h.objs.size)/\(news.map (·.1)).Nodup/\
 (∀b o,h.get? b=aA o->b≠L->h₀.get? b=aA o\/(b,o)∈news):=by
 have hsz:(h.objs.extract 0 L).size=L:=by simp only[uU];exact (Cs _).trans<|fz<|sD (hn.lt: @LT.lt Nat _ L h.objs.size)
 refine (vi ({objs:=h.objs.extract 0 L,life:=h.life}) ((bg h.objs.size).filterMap λb=>if L<b then (h.get? b).map (b, ·) else aF) ⟨hn,λb o e=>?_,qm hsz⟩ ?_ ?_ ?_ ?_)
 ·refine bI (Hi.mp e) λe1 e2=>?_
  refine Hi.mpr ⟨?_,e2⟩;simp only[QEV] at e1
  split at e1
  ·simpa using e1
  ·exact ay e1
 ·intro p P
  refine aS (Hj.mp P) λb hb e=>?_
  split at e
  ·rename_i K
   refine aS (lN.mp e) λo eo B=>cx B<|⟨eo,Nat.ne_of_gt K,?_⟩
   induction q:wZ {objs:=h.objs.extract 0 L,life:=h.life} b with
   |none=>rfl
   |some o'=>have Q:=kh q;simp only[hsz] at Q;exact QHZ (sF Q K)<|mK _
  ·exact ay e
 ·intro p P
  refine aS (Hj.mp P) λb hb e=>?_
  split at e
  ·exact aS (lN.mp e) λo eo B=>cx B<|Heap.lt_size eo
  ·exact ay e
 ·have:((bg h.objs.size).filterMap λb=>if L<b then (h.get? b).map (b, ·) else aF).map (·.1)=(bg h.objs.size).filter λb=>decide (L<b) && (h.get? b).isSome:=by
   generalize bg h.objs.size=l;induction l with
   |nil=>rfl
   |cons x l i=>
    by_cases M:L<x
    ·induction ho:h.get? x with
     |none=>simp[M,ho,i]
     |some o=>simp[M,ho,i]
    ·simp[M,i]
  simp only[this];exact (List.filter_sublist).nodup List.nodup_range
 ·intro b o e n
  by_cases hb:L<b
  ·exact .inr (Hj.mpr<|ax b (sG.mpr<|kh e) (by (erw[if_pos hb];erw[e]);rfl))
  ·have Y:=Nat.lt_of_le_of_ne (jN hb) n
   refine bI (Hi.mp e) λe1 e2=>?_;refine .inl<|Hi.mpr ⟨?_,e2⟩;simp only[QEV];simp only[uU] at hsz;erw[if_pos (by simp only[hsz];exact Y)];simpa using e1
theorem Kl.of {news t:List (aM×bH)} (hn:h.Ns L m) (hl: ∀b o,h.get? b=aA o->b≠L->h₀.get? b=aA o\/(b,o)∈news) (F:Fr h₀ L h' m) (N:uT h₀ L h' t) (hs: ∀p∈news,p∈t):Kl L h h':=
 ⟨λa o e n=>(hl a o e n).elim (F.keep a o) λq=>(N _<|hs _ q).1,λM n'=>by
  have:=funext λx=>n'.agree hn x;simp only[this]
  exact F.ns⟩
theorem FR.less {K:aM->Prop} (F:FR P G C env K φ W r h) (k: ∀a,Ob a->K a):FR P G C env Ob φ W r h:=by have j: ∀a,Ex Ob W a->Ex K W a:=λa q=>q.imp (k a) id;have m:Mon (Ex K W) h (Ex Ob W) h:=λa o e n=>⟨e,λq=>n<|j a q⟩;exact F.chg m (λO O e O O=>e) (λO n=>n) (λa q=>F.al<|q.imp id<|j a) (λa w q=>F.dT a w<|k a q)<|P.iU F.inv m λO O=>rfl
theorem FR.Ni {I a:aM} (F:FR P G C env Ob φ W r h) (f: ∃o,h'.get? I=aA o) (k:(∃o,h.get? a=aA o)-> ∃o,h'.get? a=aA o) (q:(∃i,φ i=aA a)\/Ex (λa=>Ob a\/a=I) W a): ∃o,h'.get? a=aA o:=by
 by_cases z:a=I
 ·exact z▸f
 ·exact k<|F.al<|q.imp id λq=>q.imp (λq=>q.resolve_right z) id
theorem FR.Mo {I:aM} (F:FR P G C env Ob φ W r h) (i:h.get? I=aF) (a) (w:W a): ¬ (Ob a\/a=I):=λq=>q.elim (F.dT a w) λq=>aV (F.dj a<|.inr w) λO e=>cb (q▸i) e
theorem FR.apart {I:aM} (F:FR P G C env Ob φ W r h) (k: ∀a o,h.get? a=aA o->h'.get? a=aA o) (t:h.get? I=aF) (i: ∃o,h'.get? I=aA o):FR P G C env (λa=>Ob a\/a=I) φ W r h':=by have m:Mon (Ex Ob W) h (Ex (λa=>Ob a\/a=I) W) h':=λa o e n=>⟨k a o e,λq=>n<|q.imp (λq=>q.resolve_right λz=>cb (z▸t) e) id⟩;exact F.chg m (λa o e O O=>k a o e) (λm n=>n.keeps k) (λa q=>F.Ni i (λq=>aV q λo e=>⟨o,k _ _ e⟩) q) (F.Mo t)<|P.iU F.inv m<|F.tB λa o O e O O=>k a o e
theorem FR.turned {I:aM} (F:FR P G C env Ob φ W r h) (t:Ob I) (hn: ¬ W I) (f: ∃o vs,h.get? I=aA o/\o.data=.fields vs) (k: ∀a o,a≠I->h.get? a=aA o->h'.get? a=aA o) (i: ∃o,h'.get? I=aA o):FR P G C env Ob φ W r h':=by
 have m:Mon (Ex Ob W) h (Ex Ob W) h':=λa o e n=>⟨k a o (λq=>n<|.inl<|q▸t) e,n⟩;have N: ∀a o,h.get? a=aA o->(∀vs,o.data≠ .fields vs)->a≠I:=λa o e d q=>cQ f λY v x g=>d v<|bM e (q▸x)▸g;refine F.chg m (λa o e s O=>k a o (N a o e s.nf) e) (λm n=>E7 n λo e d=>k _ o (N _ o e d) e) (λa q=>?_) F.dT<|P.iU F.inv m<|F.tB λa o O e O p=>k a o (λq=>F.dT a (F.pf a p)<|q▸t) e;by_cases z:a=I
 ·exact z▸i
 ·exact aV (F.al q) λo e=>⟨o,k a o z e⟩
theorem FR.Ez (F:FR P G C env Ob φ W r h) {X Z:aM->Prop} (k: ∀a o,h.get? a=aA o-> ¬ Z a-> ¬ P.PF a->h'.get? a=aA o) (i:P.Inv X h') (z: ¬ Z a) (q: ∃o,h.get? a=aA o): ∃o,h'.get? a=aA o:=by
 by_cases p:P.PF a
 ·exact cQ (P.iS i p) λo O e O=>⟨o,e⟩
 ·exact aV q λo q=>⟨o,k a o q z p⟩
theorem FR.keepsP (F:FR P G C env Ob φ W r h) (k: ∀a o,h.get? a=aA o-> ¬ P.PF a->h'.get? a=aA o) (i:P.Inv (Ex Ob W) h'):FR P G C env Ob φ W r h':=F.chg (λa o e n=>⟨k a o e λp=>n<|.inr<|F.pf a p,n⟩) (λa o e s O=>k a o e<|F.np e s.nf) (λm n=>E7 n λo e d=>k _ o e<|F.np e d) (λa q=>F.Ez (Z:=λO=>False) (λa o e O p=>k a o e p) i id<|F.al q) F.dT i
theorem FR.CZ (F:FR P G C env Ob φ W r h) (k: ∀a o,h.get? a=aA o-> ¬ P.PF a->h'.get? a=aA o):dg W h W h':=⟨λa o e n=>k a o e λp=>n<|F.pf a p,λO=>.inl⟩
theorem FR.push (F:FR P G C env Ob φ W r h) (o:bH):FR P G C env Ob φ W r (h.push o):=F.keeps λO O e=>gS _ e
theorem FR.forget (F:FR P G C env Ob φ W r h) (i:Nat) (d:i≠bR) (H:i≠aT):FR P G C env Ob φ W (upd r i .unb) h:=by
 have s: ∀j v,dZ P φ env.cells (Ex Ob W) h j v (r j)->dZ P φ env.cells (Ex Ob W) h j v (upd r i .unb j):=by
  intro j v x;unfold upd
  split
  ·trivial
  ·exact x
 refine aS F.loc λm Y N=>⟨F.base,F.fN,F.hk,F.hK,F.hg,F.hb,F.rV,⟨m,Y,λx j a b=>s _ _<|N x j a b⟩,F.ku,λx j a b=>?_,F.qj,F.oe,λj R e=>?_,λc j R a e u n=>?_,λR e u=>?_,λR e u=>?_,λe=>F.lD (λR q=>e R (by unfold upd;erw[if_neg<|lO H];exact q)),F.inj,F.j5,F.dj,F.dT,F.inv,F.pf⟩
 ·exact bf (F.gr x j a b) λc v t p z=>(cz c v t p<|s _ _ z)
 ·unfold upd at e
  split at e
  ·exact nomatch e
  ·exact F.own j R e
 ·unfold upd at e
  split at e
  ·exact nomatch e
  ·exact F.gH c j R a e u n
 ·unfold upd at e u
  split at e
  ·exact nomatch e
  ·rw[if_neg<|lO d] at u
   exact F.jf R e u
 ·unfold upd at e u
  split at e
  ·exact nomatch e
  ·rw[if_neg<|lO d] at u
   exact F.ko R e u
theorem FR.store {sl:Sl} {E:aI->aN->Prop}
 (F:FR P G C env Ob φ W (upd r i .unb) s.heap) (ht:C.cM x=aA i) (hs:C.rU x=aB) (hK:C.K x=aA .local\/C.K x=aA .cell)
 (hv: ∀h',(∀a o,s.heap.get? a=aA o->a≠env.locals->(∀c,env.cells.lookup x=aA c->a≠c)->h'.get? a=aA o)->Mon (Ex Ob W) s.heap (Ex Ob W) h'->dZ P φ env.cells (Ex Ob W) h' i (aA v) sl)
 (ho: ∀xs,sl=.own xs-> ∃a vs n,φ i=aA a/\s.heap.get? a=aA (listOf vs.toArray n)/\bB (Ex Ob W) s.heap vs xs/\W a)
 (h: ∀h' tk,FR P G C env Ob φ W (upd r i sl) h'->dg W s.heap W h'->Q () {s with heap:=h',toks:=tk}):aO M A (Ct env x v) Q E s:=by
 have Y:=C.low x i ht
 have af: ∀b h',W b->(∃o,s.heap.get? b=aA o/\((∃es ep,o.data=.dict es ep)\/ ∃c,o.data=.cell c))->Hk b s.heap h'->
  (b=env.locals\/env.cells.lookup x=aA b)->
  (∃m,h'.Ns env.locals m/\(∀y,y≠x->b=env.locals-> ∀L,s.heap.Ns env.locals L->m y=L y)/\(b≠env.locals->s.heap.Ns env.locals m)/\(b=env.locals->m x=aA v))->
  (∀y c U,y≠x\/b=env.locals->env.cells.lookup y=aA c->s.heap.IsCell c U->h'.IsCell c U)->
  (∀c,b≠env.locals->env.cells.lookup x=aA c->h'.IsCell c (aA v))->
  (C.K x=aA .local->b=env.locals)->(C.K x=aA .cell->b≠env.locals)->FR P G C env Ob φ W (upd r i sl) h'/\dg W s.heap W h':=by
  intro b h' wb Z sb B hm H f aa l;have st:dg W s.heap W h':=⟨λa o e n=>(sb.2 a λq=>n<|q▸wb).trans e,λO=>.inl⟩;have mo:Mon (Ex Ob W) s.heap (Ex Ob W) h':=st.mon
  have al: ∀a,(∃o,s.heap.get? a=aA o)-> ∃o,h'.get? a=aA o:=λa h0=>h0.elim λo q=>by
   by_cases hL:a=b
   ·refine cp (B) (λg=>?_) λg=>?_
    ·exact aS hm λm ai O=>oI ai λo' O O u O=>⟨o',by simp only[hL,g];exact u⟩
    ·by_cases hb:b=env.locals
     ·exact aS hm λm ai O=>oI ai λo' O O u O=>⟨o',by simp only[hL,hb];exact u⟩
     ·exact aS (f b hb g) λo' u O=>⟨o',hL▸u⟩
   ·exact ⟨o,(sb.2 a hL).trans q⟩
  have ae: ∀a o,s.heap.get? a=aA o->(∃vs n,o.data=.seq vs n)->h'.get? a=aA o:=λa o e h0=>h0.elim λvs h0=>h0.elim λn d=>by refine (sb.2 a λq=>?_).trans e;clear wb sb B hm H f aa l;subst q;refine aS Z λo' u g=>?_;obtain rfl:=bM e u;rcases g with ⟨es,ep,d'⟩|⟨c,d'⟩<;>rw[d] at d'<;>contradiction
  have ab:=hv h' (λa o e N n2=>(sb.2 a λq=>by
   clear wb Z sb hm H f aa l;subst q;refine cp (B) (λq=>?_) λq=>?_
   ·exact N q
   ·exact n2 _ q rfl).trans e) mo
  have sk: ∀j U,j≠i->dZ P φ env.cells (Ex Ob W) s.heap j U (upd r i .unb j)->dZ P φ env.cells (Ex Ob W) h' j U (upd r i sl j):=by
   intro j U n y;have e1:upd r i sl j=r j:=by unfold upd;rw[if_neg n]
   have e2:upd r i .unb j=r j:=by unfold upd;rw[if_neg n]
   rw[e1];rw[e2] at y;induction hsl:r j with
   |dz k=>rw[hsl] at y;exact iN y λa q e1 e2 e3 e4=>⟨a,q,e1,(mo _ _ e2 e3).1,(mo _ _ e2 e3).2,e4⟩
   |_=>rw[hsl] at y;exact y.mon mo λn e=>by contradiction
  refine sv hm λm m1 m2 m3 m4=>aS F.loc λL N n2=>⟨⟨λq o e=>st.keep q o (F.base q o e) λw=>F.fN q o e<|.inr w,F.fN,F.hk,F.hK,F.hg,F.hb,F.rV,⟨m,m1,λy j a c=>?_⟩,F.ku,λy j a c=>?_,F.qj,F.oe,λj xs e=>?_,λcc j xs a e u n=>?_,λxs e u=>?_,λxs e u=>?_,λe=>F.lD (λxs q=>e xs (by have h1:aT≠i:=λq=>(by rw[<-q] at Y;exact QHZ Y<|by decide);unfold upd at q⊢;rw[if_neg h1] at q⊢;exact q)),F.inj,λj a e=>al a<|F.j5 j a e,λa e=>al a<|F.dj a e,F.dT,P.iU F.inv mo (F.tB λa o vs e d O=>by
   refine (sb.2 a λq=>?_).trans e;clear wb sb B hm H f aa l m2 m3 m4;subst q;refine aS Z λo' u g=>?_;obtain rfl:=bM e u
   rcases g with ⟨es,ep,d'⟩|⟨c,d'⟩<;>rw[d] at d'<;>contradiction),F.pf⟩,st⟩
  ·by_cases t:y=x
   ·clear hs hK hv B hm H f l m2
    subst t;obtain rfl:=bM ht c;have:=aa a;rw[m4 this];unfold upd;rw[if_pos rfl];exact ab
   ·have p:j≠i:=λq=>t (C.inj y x i (q▸c) ht)
    have:=sk j (L y) p<|n2 y j a c;by_cases hb:b=env.locals
    ·rw[m2 y t hb L N]
     exact this
    ·rw[show m y=L y from (m3 hb).agree N y]
     exact this
  ·refine bf (F.gr y j a c) λc' U e1 e3 e4=>?_
   by_cases t:y=x
   ·clear hs hv B hm H aa m2 m4
    subst t;obtain rfl:=bM ht c
    have hb:b≠env.locals:=λq=>by
     refine cp (hK) (λg=>?_) λg=>?_
     ·rw[g] at a
      rcases a with a|a<;>contradiction
     ·exact l g q
    refine (cz c' (aA v) e1 (f c' hb e1) ?_);unfold upd;rw[if_pos rfl];exact ab
   ·have p:j≠i:=λq=>t (C.inj y x i (q▸c) ht)
    exact (cz c' U e1 (H y c' U (.inl t) e1 e3)<|sk j U p e4)
  ·by_cases p:j=i
   ·clear F ht hv h Y ab sk n2
    subst p;unfold upd at e;rw[if_pos rfl] at e;exact dk (ho xs e) λa vs n q1 q2 q3 q4=>⟨a,vs,n,q1,ae _ _ q2<|lz _ _ rfl,q3.mon mo⟩
   ·have u:upd r i .unb j=.own xs:=by unfold upd at e⊢;rw[if_neg p] at e⊢;exact e
    exact dU (F.own j xs u) λa vs n q1 q2 q3=>⟨a,vs,n,q1,ae _ _ q2<|lz _ _ rfl,q3.mon mo⟩
  ·by_cases p:j=i
   ·clear F ht hv h Y ab sk n2
    subst p;unfold upd at e;rw[if_pos rfl] at e;refine dk (ho xs e) λa' vs n q1 q2 q3 q4=>?_;obtain rfl:=bM q1 u;exact q4
   ·exact F.gH cc j xs a (by unfold upd at e⊢;rw[if_neg p] at e⊢;exact e) u n
  ·have h1:aT≠i:=λq=>by rw[<-q] at Y;exact QHZ Y (by decide)
   have h2:bR≠i:=λq=>by rw[<-q] at Y;exact QHZ Y (by decide)
   unfold upd at e u;rw[if_neg h1] at e;rw[if_neg h2] at u;exact F.jf xs (by unfold upd;rw[if_neg h1];exact e) (by unfold upd;rw[if_neg h2];exact u)
  ·have h1:aT≠i:=λq=>by rw[<-q] at Y;exact QHZ Y (by decide)
   have h2:bR≠i:=λq=>by rw[<-q] at Y;exact QHZ Y (by decide)
   unfold upd at e u;rw[if_neg h1] at e;rw[if_neg h2] at u;exact F.ko xs (by unfold upd;rw[if_neg h1];exact e) (by unfold upd;rw[if_neg h2];exact u)
 refine aS F.loc λL N n2=>cp (hK) (λz=>?_) λz=>?_
 ·refine QEW ((F.hK x).trans z) N (λh' hn sb=>?_) (by rw[F.hk];rfl)
  have Z: ∃o,s.heap.get? env.locals=aA o/\((∃es ep,o.data=.dict es ep)\/ ∃c,o.data=.cell c):=dU N λo es ep e d O=>⟨o,e,.inl<|lz es ep d⟩
  refine bI (af env.locals h' F.ku Z sb (.inl rfl) (kU _ hn (λy t O ak ah=>by rw[if_neg t];exact N.agree ah y) (λq=>QHZ rfl q) λO=>QHb rfl)
   (λy c U O e1 e3=>e3.sameBut sb λq=>by
    refine dU N λo es ep e d O=>aS e3 λo' u d'=>?_;simp only[q,e] at u;cases u
    rw[d'] at d;contradiction) (λc q=>QHZ rfl q) (λO=>rfl) (λq=>by cases bM z q)) λR st=>?_
  exact h h' _ R st
 ·refine bf (F.gr x i (.inl z) ht) λc U e1 e3 e4=>wpAny_storeName_cell F.hk ((F.hK x).trans z) e1 e3 λh' hc sb=>?_
  have cl:c≠env.locals:=λq=>by refine dU N λo es ep e d O=>aS e3 λo' u d'=>?_;simp only[q,e] at u;cases u;rw[d'] at d;clear e4 d';contradiction
  refine bI (af c h' (F.qj x i c z hs ht e1) (by refine aS e3 λo e d=>?_;exact (ax o e<|.inr ⟨_,d⟩)) sb (.inr e1)
   (kU L (N.sameBut sb cl.symm) (λy t q=>QHZ q cl) (λO=>N) λq=>QHZ q cl)
   (λy c' ao t ag aj=>aj.sameBut sb λq=>by
    refine cp (t) (λt=>?_) λt=>?_
    ·exact t<|F.oe y x c (q▸ag) e1
    ·exact cl t) (λc' O ag=>by clear F ht hs hK hv ho Y af N n2 e3 e4 sb;obtain rfl:=bM e1 ag;exact hc) (λq=>by cases bM z q) (λO=>cl)) λR st=>?_
  exact h h' s.toks R st
end
theorem Runs.toks (h:Runs M Γ p t fs s e s'):s.toks<=s'.toks:=by
 induction h<;>first|exact Nat.le_refl _|assumption|(simp only[Shared.setGen] at*;omega)|omega
theorem Xg (R:Wakes M Γ p g r s C s'):s.toks<=s'.toks:=by
 have n: ∀{W N q d t f} {P:Prop},Runs M q d t f (s.setGen g .running) W N->W.quiet=aB/\P/\s'=N.setGen g W.genState->s.toks<=s'.toks:=λq e=>by rw[e.2.2];exact (Runs.toks q:)
 delta Wakes at R;revert R;generalize s.gens[g]?=x;intro R;induction x with
 |none=>exact R.elim
 |some c=>cases c with
  |fresh c=>cases r with
   |send v=>cases v with
    |none=>exact Exists.elim R λW h=>h.elim λN h=>n h.1 h.2
    |_=>exact (And.right R)▸bh _
   |throw x=>exact (And.right R)▸bh _
  |suspended=>exact Exists.elim R λW h=>h.elim λN h=>n h.1 h.2
  |_=>exact (And.right R)▸bh _
theorem Z1 {α:Type} (m:ba α) (F:Nat) {Q:α->bP->aN->Prop} {E:aI->bP->aN->Prop}: ∀p s,F<=s.toks->
 f6 M Γ m (λa P d=>F<=d.toks->Q a P d) (λa P d=>F<=d.toks->E a P d) p s->f6 M Γ m Q E p s:=by
 induction m with
 |pure a=>exact λp s h w=>w h
 |raise e=>exact λp s h w=>w h
 |rule t k i=>exact i _
 | «at» q k i=>exact λp=>i _ q
 |load a q k i=>exact λp s h w=>w.elim λo w=>⟨o,w.1,i _ p s h w.2⟩
 |update a q f k i=>exact λp s h w=>⟨w.1,i _ p _ h w.2⟩
 |alloc o k i=>exact λp s h=>i _ p _ h
 |loadIfAlive a k i=>exact λp s=>i _ p s
 |point l k i=>exact i _
 |fresh k i=>exact λp s h=>i _ p _<|Hl h
 |ask k i=>exact λp s=>i _ p s
 |choose L n k i=>exact λp s h w=>⟨w.1,i _ p _ h w.2⟩
 |os q l k i=>exact λp s h=>i _ p _ h
 |call c hd g l k i=>exact λp s h w=>w.elim λr w=>w.elim λd w=>⟨r,d,w.1,i _ p d (az h<|Runs.toks w.1) w.2⟩
 |handled o k i=>exact λp s=>i _ p s
 |genState g k i=>exact λp s h w=>w.elim λo w=>⟨o,w.1,i _ p s h w.2⟩
 |newGen c k i=>exact λp s h=>i _ p _ h
 |resume g r l k i=>exact λp s h w=>w.elim λr w=>w.elim λd w=>⟨r,d,w.1,i _ p d (az h<|Xg w.1) w.2⟩
 |stack k i=>exact λp s=>i _ p s
 |thread k i=>exact λp s=>i _ p s
 |_=>exact λp s h w=>w.elim
theorem wpAny_toks {α:Type} {m:ba α} {Q:α->aN->Prop} {E:aI->aN->Prop} (h:aO M A m (λa n=>s.toks<=n.toks->Q a n) (λe n=>s.toks<=n.toks->E e n) s):aO M A m Q E s:=λL p H=>Z1 m s.toks p s (bh _)<|h L p H
noncomputable def gv (n:Nat) (A:cV):Prop:=A.handled=aF/\A.depth+n<=900/\A.units+10*n+300<=9900
structure Wd where
 prog:sH
 w:bz
 P:vE
 G:bK
 n:Nat
 o:bj
 mg:aG->Option aI
 fns:List aG
 hm:Nat->Option (aG×aM)
 cN:Nat->Fc->Prop
 hc:aM
structure Fx where
 A:cV
 env:cg
 Ob:aM->Prop
structure Zs where
 s:aN
 W:aM->Prop
 φ:Nat->Option aM
noncomputable def Zs.to (z:Zs) (h:bK) (tk:fG):Zs:={z with s:={z.s with heap:=h,toks:=tk}}
structure FX (D:Wd) (C:Fc) (X:Fx) (r:bQ) (z:Zs):Prop where
 F:FR D.P D.G C X.env X.Ob z.φ z.W r z.s.heap
 R:gv D.n X.A
 t:1<=z.s.toks
structure Sx (z z':Zs):Prop where
 st:dg z.W z.s.heap z'.W z'.s.heap
 t:z.s.toks<=z'.s.toks
 f:z'.φ=z.φ
 e:z'.s={z.s with heap:=z'.s.heap,toks:=z'.s.toks,drawn:=z'.s.drawn}
noncomputable def VR (P:vE) (φ:Nat->Option aM) (X:aM->Prop) (h:bK) (v:aI):V->Prop
 |.d d=>Rd X h v d
 |.bor i=> ∃a,φ i=aA a/\v=.ref a
 |.inst=> ∃x a,φ aT=aA a/\v=.ref x/\P.HI X h x a
 |.emp=>True
theorem VR.mon {P φ X h v X' h'} (x:VR P φ X h v u) (m:Mon X h X' h'):VR P φ X' h' v u:=by
 induction u with
 |d d=>exact Rd.mon x m
 |bor i=>exact x
 |inst=>exact bf x λy a Y e q=>(cz y a Y e<|P.kN q m)
 |emp=>trivial
noncomputable def Rz (X:Fx) (z:Zs) (u:aI) (d:aK):Prop:=Rd (Ex X.Ob z.W) z.s.heap u d
noncomputable def iV (X:Fx) (z:Zs) (us:List aI) (ds:List aK):Prop:=bB (Ex X.Ob z.W) z.s.heap us ds
noncomputable def Vz (D:Wd) (X:Fx) (z:Zs) (u:aI) (v:V):Prop:=VR D.P z.φ (Ex X.Ob z.W) z.s.heap u v
inductive jC (D:Wd) (X:Fx) (z:Zs):List aI->List V->Prop
 |nil:jC D X z [] []
 |cons {u us v vs}:Vz D X z u v->jC D X z us vs->jC D X z (u::us) (v::vs)
section
variable {v x y:V} {d:aK} {h':bK} {tk:fG} {Q:aI->aN->Prop} {E:aI->aN->Prop}
theorem Sx.mon {X:Fx} (s:Sx z z'):Mon (Ex X.Ob z.W) z.s.heap (Ex X.Ob z'.W) z'.s.heap:=s.st.mon
theorem Sx.refl:Sx z z:=⟨.refl _ _,bh _,rfl,rfl⟩
theorem Sx.trans (a:Sx z z') (b:Sx z' z''):Sx z z'':=⟨a.st.trans b.st,az a.t b.t,b.f.trans a.f,by (erw[b.e];exact sb a.e rfl)⟩
theorem Vz.mon (q:Vz D X z u v) (s:Sx z z'):Vz D X z' u v:=by unfold Vz;exact sb s.f<|VR.mon q s.mon
theorem Rz.mon (q:Rz X z u d) (s:Sx z z'):Rz X z' u d:=Rd.mon q s.mon
theorem iV.mon {us ds} (q:iV X z us ds) (s:Sx z z'):iV X z' us ds:=bB.mon q s.mon
theorem jC.mon {us vs} (q:jC D X z us vs) (s:Sx z z'):jC D X z' us vs:=by
 induction q with
 |nil=>exact .nil
 |cons a _ i=>exact .cons (a.mon s) i
theorem Sx.kl (K:FX D C X r z) (k:Kl X.env.locals z.s.heap h') (l:z.s.toks<=tk):Sx z (z.to h' tk):=⟨K.F.JJ k,l,rfl,rfl⟩
theorem FX.kl (K:FX D C X r z) (k:Kl X.env.locals z.s.heap h') (l:z.s.toks<=tk):FX D C X r (z.to h' tk):=⟨K.F.kl k,K.R,az K.t l⟩
noncomputable def KE (D:Wd) (C:Fc) (X:Fx) (r:bQ) (z:Zs) (v:V) (Q:aI->aN->Prop):Prop:= ∀u Z,FX D C X r Z->Sx z Z->Vz D X Z u v->Q u Z.s
theorem KE.new (k:KE D C X r z (.d d) Q) (K:FX D C X r z) (kl:Kl X.env.locals z.s.heap h') (q:Rd (Ex X.Ob z.W) h' u d):z.s.toks<=tk->Q u {z.s with heap:=h',toks:=tk}:=λl=>k u (z.to h' tk) (K.kl kl l) (.kl K kl l) q
theorem KE.same (k:KE D C X r z (.d d) Q) (K:FX D C X r z) (q:Rd (Ex X.Ob z.W) z.s.heap u d):z.s.toks<=tk->Q u {z.s with toks:=tk}:=k.new K (.refl _ _) q
noncomputable def KB (D:Wd) (C:Fc) (X:Fx) (r:bQ) (z:Zs) (b:Bool) (Q:Bool->aN->Prop):Prop:= ∀Z,FX D C X r Z->Sx z Z->Q b Z.s
theorem KB.same {Q:Bool->aN->Prop} (k:KB D C X r z b Q) (K:FX D C X r z):z.s.toks<=tk->Q b {z.s with toks:=tk}:=λl=>k (z.to z.s.heap tk) (K.kl (.refl _ _) l)<|.kl K (.refl _ _) l
inductive ES (X:Fx) (z:Zs):aI->List aK->Prop
 |mk {a vs n xs}:z.s.heap.get? a=some (listOf vs.toArray n)->bB (Ex X.Ob z.W) z.s.heap vs xs->ES X z (.ref a) xs
inductive JO (X:Fx) (z:Zs):aI->List aK->Prop
 |mk {a vs n xs}:z.s.heap.get? a=some {cls:=.type "tuple",data:=.seq vs.toArray n}->bB (Ex X.Ob z.W) z.s.heap vs xs->JO X z (.ref a) xs
theorem PR {xs} (q:Vz D X z u (.d<|.list xs)):ES X z u xs:=dk (Rd.lst_inv q) λa v n e C O p=>sb e<| .mk C p
theorem kZ {xs} (K:FX D C X r z) (q:Vz D X z u x) (e:gZ r x xs):ES X z u xs:=by
 induction e with
 |d=>exact PR q
 |bor R=>refine dU (K.F.own _ _ R) λa m n Y v h=>aS q λb p B=>sb B ?_;clear K R q B;obtain rfl:=bM Y p;exact .mk v h
theorem GS {xs} (q:Vz D X z u (.d<|.tuple xs)):JO X z u xs:=dk (Rd.Aj q) λa v n e C O p=>sb e<| .mk C p
theorem gN {h:bK} {vs:List aI} (e:h.get? a=aA (listOf vs.toArray n)):h.IsList a vs.toArray:=⟨_,e,rfl,n,rfl⟩
theorem iy:mL=16777216:=by decide
theorem FR.u7 {P G C env Ob φ W r} (K:FR P G C env Ob φ W r h) (e:h.get? a=aF): ¬ Ex Ob W a:=λq=>aV (K.dj _ q) λo q=>cb e q
theorem FR.tN {P G C env Ob φ W r} (K:FR P G C env Ob φ W r h): ¬ Ex Ob W h.objs.size:=K.u7<|ie<|bh _
theorem FX.fresh {vs ds} (K:FX D C X r z) (R:iV X z vs ds) (n:Nat):Rd (Ex X.Ob z.W) (z.s.heap.push<|listOf vs.toArray n) (.ref z.s.heap.objs.size) (.list ds):=Rd.lst (fH _ rfl) K.F.tN<|bB.mon R<|.all λO O e=>gS _ e
theorem FX.freshT {vs ds} (K:FX D C X r z) (R:iV X z vs ds) (n:Nat):Rd (Ex X.Ob z.W) (z.s.heap.push {cls:=.type "tuple",data:=.seq vs.toArray n}) (.ref z.s.heap.objs.size) (.tuple ds):=Rd.tup (fH _ rfl) K.F.tN<|bB.mon R<|.all λO O e=>gS _ e
theorem FX.led (K:FX D C X r z): ∃h m news,Fr h X.env.locals z.s.heap m/\uT h X.env.locals z.s.heap news/\
 (∀h' n,Fr h X.env.locals h' m->uT h X.env.locals h' n->(∀p∈news,p∈n)->Kl X.env.locals z.s.heap h')/\
 (∀h' D o n,uT h X.env.locals h' ((D,o)::n)->(∀p∈news,p.1<D)->z.s.heap.get? D=aF):=by
 refine aS K.F.loc λm e O=>oC (QBs z.s.heap e) λh news F N L O x=>(p9 h m news F N (λh' n f l s=>Kl.of e x f l s) λh' D o n l g=>?_);have t:=l _<|.head _;induction q:z.s.heap.get? D with
 |none=>rfl
 |some H=>
  rcases x D H q t.2.1 with Q|Q
  ·exact cb t.2.2 Q
  ·exact QHZ (g _ Q)<|mK _
theorem X8 {w:bz} (hb:kI op a b c) (h: ∀t tk,Q (.int c t) {s with toks:=tk}):aO (aY prog w) A (binaryOp op (.int a t)<|.int b t') Q E s:=by
 induction hb with
 |add=>exact QHJ<|h _ _
 |sub=>exact QHK<|h _ _
 |mul q=>exact QHL (h _ _)<|IntMulOk.of_le (bh _) (bh _) q
 |fdiv q R=>exact floordiv_int q (h _ _)<|.inl R
 |fmod q=>exact mod_int' q<|h _ _
 |pow q R=>exact pow_int q R<|h _ _
 |shl q R=>exact lshift_int q R<|h _ _
 |shr q=>exact rshift_int q<|h _ _
 |and=>exact and_int<|h _ _
 |or=>exact or_int<|h _ _
 |xor=>exact xor_int<|h _ _
theorem bB.rep {X h} {vs:List aI} (r:bB X h vs xs): ∀n,bB X h (dV n vs).flatten (dV n xs).flatten:=by
 intro O;induction O with
 |zero=>exact bB.nil
 |succ n i=>exact r.app<|i
theorem WR {X:aG} {k:Int} (x:X.length<=4096) (H:k<=4096) (i: -4096<=k):MulOk X k:=by
 refine ⟨by simp;exact ⟨(bE i),(bE H)⟩,λh O c=>?_,λh O=>?_⟩
 ·have:=kD (Hm (oq.mpr x) H (by grind_order)<|dP _) (by decide:(4096:Nat)*(4096:Int)<=2^63 - 1)
  exact QHZ (Int.le_ediv_of_mul_le (jL.mp ‹_›) this) λK=>fh K c
 ·have:X.length*k.toNat<=4096*4096:=Cu x (((Int.le_total 0<|k).elim (λu=>(oM<|bG (iL<|jO (u:0<=k)) H)) λu=>(aQ<|nL<|Int.toNat_of_nonpos (u:k<=0))))
  simp only[QHM,decide_eq_false_iff_not];simp only[iy];exact iH.mpr ‹_›
theorem TM {op:iG} (hb:ft r op x y d) (K:FX D C X r z) (M:Vz D X z u x) (Y:Vz D X z u' y) (k:KE D C X r z (.d d) Q):aO (aY D.prog D.w) X.A (binaryOp op u u') Q E z.s:=by
 induction hb with
 |int e=>exact aV (Rd.dd M) λt g=>sb g<|aV (Rd.dd Y) λU g=>sb g<|wpAny_toks<|X8 e λt i=>k.same K<|.int _ _
 |cat e=>exact aV (Rd.dM M) λt g=>sb g<|aV (Rd.dM Y) λU g=>sb g<|wpAny_toks<|PyProof.Rows.add_str (λt i=>k.same K<|.str _ _)<|iy▸e
 |rep R Z l=>exact aV (Rd.dM M) λt g=>sb g<|aV (Rd.dd Y) λU g=>sb g<|wpAny_toks<|SB.mul (WR R Z l) λt i=>k.same K<|.str _ _
 |mul e R Z l=>
  refine aV (Rd.dd Y) λU g=>sb g ?_;induction kZ K M e with
  |mk B v=>refine dk K.led λh m a F N H q=>wpAny_toks<|KMa.mul F N (gN B) l Z (v.len▸R) rfl λD L f n P=>?_;have b:=H _ _ f n λp=>zV _;exact k.new K b<|Rd.lst (n _<|.head _).1 (K.F.u7<|q _ _ _ _ n P)<|(v.rep _).mon<|K.F.Gr b
 |add R Z o=>
  induction kZ K M R with
  |mk B v=>
   induction kZ K Y Z with
   |mk c j=>refine dk K.led λh m a F N H q=>wpAny_toks (add_lists F N (gN B) (gN c) (λL f n=>?_) (by simp only[iy,v.len,j.len];exact o));have b:=H _ _ f n λp=>zV _;exact k.new K b<|Rd.lst (n _<|.head _).1 K.F.tN<|(v.app j).mon<|K.F.Gr b
theorem GK {X:aM->Prop} {v:aI} {k:Nat} (R:Rd X h v d) (o:fP k d=aB): ∃as,zW h v (wc d) as:=aS R λL l i=>kqd_in l.news k i o
theorem HQ {X:aM->Prop} {vs:List aI} {k:Nat} (e:h.get? a=aA (listOf vs.toArray k)) (R:bB X h vs xs) (ok:mZ xs): ∃as,zW h (.ref a) (wc<|.list xs) as:=aS R λled l i=>aV (kqd_all l.news 8 i<|dq.mp ok) λas q=>⟨_,reads_list_at e rfl rfl q⟩
theorem ri (hd:fP 9 d=aB):QEX (wc d)=true:=by have l:=kqd_lay 9 d hd;unfold QEX;simp only[l.1,Cv];exact QHh (az l.2<|by decide)
theorem T3 (R:gv n A):A.units+1+64<cLine:=by have:=R.2.2;refine (?_:A.units+1+64<9900);exact aQ this
theorem Ao (h:u+1+64<c):u+64<c:=sD ‹_›
theorem tf {p:Prop} (h:b=aB↔p):(p->b=aB)/\(¬ p->b=aE):=⟨h.mpr,λn=>uQ.mpr λq=>n<|h.mp q⟩
theorem MJ {w:bz} {A:cV} {s:aN} {v P:aI} {p:Prop} {c:Bool} {as bs:List aM} (r:zW s.heap v (wc d) as) (R:zW s.heap P (wc e) bs) (hd:fP 9 d=aB) (F:fP 9 e=aB) (hu:A.units+1+64<cLine)
 (o:rk p op c) (a:d=e↔p) (h:Q (.bool c) s):aO (aY prog w) A (sI op v P) Q E s:=by
 have k:=tf<|(kqd_eqv 9 d e 9 hd F).trans a;induction o with
 |eqT q=>exact eq_dataH r R (ri hd) (ri F) (Ao hu)<|k.1 q▸h
 |A6 q=>exact eq_dataH r R (ri hd) (ri F) (Ao hu)<|k.2 q▸h
 |neT q=>exact ne_dataH r R (ri hd) (ri F) (Ao hu)<|k.2 q▸h
 |oW q=>exact ne_dataH r R (ri hd) (ri F) (Ao hu)<|k.1 q▸h
theorem Su {w:bz} {A:cV} {s:aN} {v F:aI} {c:Bool} {as bs:List aM} (r:zW s.heap F (wc<|.list ys) as) (R:zW s.heap v (wc d) bs) (q1:mZ ys) (q2:fP 8 d=aB) (hu:A.units+1+64<cLine)
 (o:vG (d∈ys) op c) (h:Q (.bool c) s):aO (aY prog w) A (sI op v F) Q E s:=by
 have k:=tf<|kqd_any ys d (dq.mp q1) q2;have l:=kqd_lay 8 _ q2;have g:=ig (Pc (az (Cw (PyData.depthAll<|kqdPs ys) _)<|az l.2<|by decide) _) hu;have L:=(kqd_layL<|dq.mp q1).1;induction o with
 |qh q=>exact QEY r R L l.1 g<|k.1 q▸h
 |Yc q=>exact QEY r R L l.1 g<|k.2 q▸h
 |K0 q=>exact QEZ r R L l.1 g<|k.2 q▸h
 |NF q=>exact QEZ r R L l.1 g<|k.1 q▸h
theorem Jd {w:bz} (hb:qK op a b c) (h: ∀tk,Q (.bool c) {s with toks:=tk}):aO (aY prog w) A (sI op (.int a t)<|.int b t') Q E s:=by
 induction hb with
 |eq=>exact QHN<|h _
 |ne=>exact QHO<|h _
 |lt=>exact QHP<|h _
 |le=>exact QHQ<|h _
 |gt=>exact QHR<|h _
 |ge=>exact QHS<|h _
theorem BA {op:fV} (hb:gV r op x y c) (K:FX D C X r z) (M:Vz D X z u x) (Y:Vz D X z u' y) (k: ∀tk,Q (.bool c) {z.s with toks:=tk}):aO (aY D.prog D.w) X.A (sI op u u') Q E z.s:=by
 have U:=T3 K.R;induction hb with
 |int e=>exact aV (Rd.dd M) λt g=>sb g<|aV (Rd.dd Y) λN g=>sb g<|Jd e k
 |str e=>
  refine aV (Rd.dM M) λt g=>sb g<|aV (Rd.dM Y) λN g=>sb g ?_
  clear K U M Y g;induction e with
  |eqT q=>exact QEa<|(QHc).mpr q▸k _
  |A6 q=>exact QEa<|beq_eq_false_iff_ne.mpr q▸k _
  |neT q=>exact QEb<|(bne_iff_ne).mpr q▸k _
  |oW q=>exact QEb<|q▸(QHi (α:=aG) _).symm▸k _
 |inl e o d i=>
  induction kZ K Y e with
  |mk b B=>exact aV (HQ b B o) λas f=>aV (GK M d) λa F=>Su f F o d U i<|k _
 |tup o d e=>exact aV (GK (k:=9) M o) λas f=>aV (GK (k:=9) Y d) λa F=>MJ f F o d U e ⟨λe=>by clear o d M Y k f F;cases e;rfl,λe=>by exact sb e rfl⟩<|k _
 |lst L n o d e=>
  induction kZ K M L with
  |mk H v=>
   induction kZ K Y n with
   |mk b B=>exact aV (HQ H v o) λas f=>aV (HQ b B d) λa F=>MJ f F o d U e ⟨λe=>by clear v L o B n d f F;clear H M b Y;cases e;rfl,λe=>by exact sb e rfl⟩<|k _
end
section
variable {v x y:V} {d:aK} {h':bK} {tk:fG} {Q:aI->aN->Prop} {E:aI->aN->Prop}
theorem KE.tr (k:KE D C X r z v Q) (s:Sx z z'):KE D C X r z' v Q:=λu Z K n q=>k u Z K (s.trans n) q
theorem KB.tr {Q:Bool->aN->Prop} (k:KB D C X r z b Q) (s:Sx z z'):KB D C X r z' b Q:=λZ K n=>k Z K<|s.trans n
theorem QBK {vs:List aI} {xs:List aK} (h:vs.length=xs.length):(!vs.toArray.isEmpty)= !xs.isEmpty:=by
 cases vs<;>cases xs<;>first|rfl|contradiction
theorem Jj {X:aM->Prop} {vs:List aI} (R:bB X h vs xs) (l:xs.length<=n):vs.toArray.size<=n:=by simp! only[gm,R.len];exact l
theorem Ea {X:aM->Prop} {vs:List aI} (R:bB X h vs xs) (l:xs.length<2^63):(vs.toArray.size:Int)<2^63:=by simp! only[gm,R.len];exact bE<|oL l
theorem Ra {n:Nat} (l:n<2^63):(n:Int)<2^63:=bE<|oL l
theorem j_ (l:n<=16777216):n<2^63:=ig ‹_› (by decide)
theorem zE {Q:Bool->aN->Prop} (hb:nC r x b) (K:FX D C X r z) (M:Vz D X z u x) (k:KB D C X r z b Q):aO (aY D.prog D.w) X.A (Ho u) Q E z.s:=by
 refine wpAny_toks ?_;induction hb with
 |none=>exact sb (Rd.none_inv M)<|PyProof.Rows.truthy_none<|k.same K
 |bool=>exact sb (Rd.bool_inv M)<|wpAny_truthy_bool<|k.same K
 |int=>exact aV (Rd.dd M) λt g=>sb g<|PyProof.Rows.truthy_int<|k.same K
 |str q=>
  refine aV (Rd.dM M) λt g=>sb g<|PySem.P.truthy_str ((λW=>(fh W<|oL q))) ?_
  rw[show∀n:Nat,((n:Int) !=0)=(n !=0) from λn=>by rw[uV];simp];exact k.same K
 |lst e q=>
  induction kZ K M e with
  |mk Y v=>refine wpAny_truthy_list (gN Y) (Ea v<|j_ q) ?_;rw[QBK v.len];exact k.same K
theorem I1 {X:aM->Prop}: ∀{ns:List Int} {vs:List aI},bB X h vs (ns.map .int)->IntsAre vs ns:=by
 intro ns;induction ns with
 |nil=>exact @λvs R=>sb R.kK<| .nil
 |cons i ns d=>exact @λvs R=>by exact bf R.hU λv b B p q=>sb B<|aV p.dd λt e=>sb e<| .cons i t<|d q
theorem Tf {X:aM->Prop}: ∀{ns:List aG} {vs:List aI},bB X h vs (ns.map .str)-> ∃l,vs=wd l/\l.map (·.1)=ns:=by
 intro ns;induction ns with
 |nil=>exact @λvs R=>sb R.kK<|(ax [] rfl rfl)
 |cons i x d=>exact @λvs R=>by exact bf R.hU λv b B p q=>sb B<|aV p.dM λt e=>sb e<|aS (d q) λl e B=>sb e<|cx B<|(ax ((i,t)::l) rfl rfl)
theorem KX (lt:Int->Int->Prop) [DecidableRel lt] (le:Int->Int->Prop) (H: ∀a,le a a) (p: ∀a b,lt a b->le a b) (Q: ∀a b, ¬ lt a b->le b a) (t: ∀a b c,le a b->le b c->le a c):
 ∀l a,(l.foldl (λm x=>if lt m x then x else m) a)∈a::l/\ ∀b∈a::l,le b<|l.foldl (λm x=>if lt m x then x else m) a:=by
 intro O;induction O with
 |nil=>exact λa=>⟨.head _,λb hb=>by cases hb with|head=>exact H _|tail _ h=>contradiction⟩
 |cons c l d=>
  exact λa=>by
   refine bI (d<|if lt a c then c else a) λi1 i=>?_
   simp! only[ot]
   have u:=i _<|.head _
   have A:le a (if lt a c then c else a)/\le c (if lt a c then c else a):=by
    split
    ·exact ⟨p _ _ ‹_›,H _⟩
    ·exact ⟨H _,Q _ _ ‹_›⟩
   refine ⟨?_,λb hb=>?_⟩
   ·refine cp (bp.mp i1) (λq=>?_) λq=>?_
    ·simp! only[q]
     split
     ·exact .tail _<|.head _
     ·exact .head _
    ·exact .tail _<|.tail _ q
   ·cases hb with
    |head=>exact t _ _ _ A.1 u
    |tail _ hb=>
     cases hb with
     |head=>exact t _ _ _ A.2 u
     |tail _ hb=>exact i _<|.tail _ hb
theorem VX {ns:List Int} (A:M∈a::ns) (H: ∀b,b∈a::ns->b<=M):M=HM a ns:=bI (KX (λm x=>x>m) (· <= ·) (λO=>uW _) (λO O=>bw) (λO O h=>jL.mp h) (λO O O=>kD) ns a) λp i=>uX (i _ A)<|H _ p
theorem QDm {ns:List Int} (A:M∈a::ns) (H: ∀b,b∈a::ns->M<=b):M=By a ns:=bI (KX (λm x=>x<m) (· >= ·) (λO=>uW _) (λO O=>bw) (λO O h=>jL.mp h) (λO O O h o=>kD o h) ns a) λp i=>uX (H _ p)<|i _ A
theorem jC.one (q:jC D X z us [v]): ∃u,us=[u]/\Vz D X z u v:=by cases q with|cons a b=>cases b;exact (ax _ rfl a)
theorem jC.two {us:List aI} (q:jC D X z us [x,y]): ∃u u',us=[u,u']/\Vz D X z u x/\Vz D X z u' y:=by
 cases q with|cons a b=>cases b with|cons b c=>cases c;exact (cz _ _ rfl a b)
theorem jC.zero (q:jC D X z us []):us=[]:=by cases q;rfl
noncomputable def tc (b:Bi):Value:=match b with
 |.len=>.builtin "len" |.sum=>.builtin "sum" |.ma=>.builtin "max" |.max2=>.builtin "max" |.kS=>.builtin "min" |.min2=>.builtin "min" |.abs=>.builtin "abs" |.chr=>.builtin "chr" |.ord=>.builtin "ord"
 |.rB=>.type "str" |.tv=>.type "int" |.divmod=>.builtin "divmod"
theorem PX {id:String} {ns:List Int} {G:Int} (e:gZ r x ((a::ns).map .int)) (K:FX D C X r z) (M:Vz D X z u x) (k:KE D C X r z (.d<|.int G) Q)
 (P: ∀{p:aM} {vs:List aI} {h:bK} {m:aG->Option aI} {news:List (aM×bH)} {Q:aI->aN->Prop} {E:aI->aN->Prop},Fr h X.env.locals z.s.heap m->uT h X.env.locals z.s.heap news->z.s.heap.IsList p vs.toArray->IntsAre vs (a::ns)->
  (∀h' t tk,Fr h X.env.locals h' m->uT h X.env.locals h' news->Q (.int G t) {z.s with heap:=h',toks:=tk})->aO (aY D.prog D.w) X.A (call (.builtin id) [.ref p]) Q E z.s):aO (aY D.prog D.w) X.A (call (.builtin id) [u]) Q E z.s:=by
 cases kZ K M e with
 |mk Y v=>exact dk K.led λh m news F N b Z=>wpAny_toks<|P F N (gN Y) (I1 v) λh' t tk f n=>k.new K (b _ _ f n λp L=>L)<|.int _ _
theorem Rq {b:Bi} {vs:List V} {us:List aI} (hb:cn r b vs d) (K:FX D C X r z) (x:jC D X z us vs) (k:KE D C X r z (.d d) Q):aO (aY D.prog D.w) X.A (call (tc b) us) Q E z.s:=by
 induction hb with
 |j6 h=>exact aS x.one λu g q=>sb g<|aV (Rd.dM q) λt g=>sb g<|wpAny_toks<|SBL.len (Ra h)<|k.same K<|.int _ _
 |yg e h=>
  refine aS x.one λu g q=>sb g ?_;clear x;clear g;induction e with
  |l e=>
   induction kZ K q e with
   |mk p v=>refine wpAny_toks<|QHT (gN p) (Ea v h) ?_;exact sb gm<|sb v.len<|k.same K<|.int _ _
  |t=>
   cases GS q with
   |mk p v=>refine wpAny_toks<|QHU ⟨_,p,rfl,_,rfl⟩ (Ea v h) ?_;exact sb gm<|sb v.len<|k.same K<|.int _ _
 | @sum _ ns e=>
  refine aS x.one λu g q=>sb g ?_;cases kZ K q e with
  |mk p v=>
   have i:=I1 v;refine aV i.allInts.items λys W=>wpAny_toks<|sum_intListG K.R.1 (W▸gN p) λU Y t' m=>?_;have:preSum (numAt ys) ys.size=ns.sum:=by rw[preSum_eq,uY (by simp),<-nums_intItems,<-W,<-i.numsOf]
   exact sb this<|k.new K (.all m)<|.int _ _
 |ma e=>exact aS x.one λu g q=>sb g<|PX e K q k λF N j i h=>max_list_N K.R.1 F N j i (Pf _) λU M t Y f n o Z=>VX o Z▸h U t Y f n
 |kS e=>exact aS x.one λu g q=>sb g<|PX e K q k λF N j i h=>min_list_N K.R.1 F N j i (Pf _) λU M t Y f n o Z=>QDm o Z▸h U t Y f n
 |max2=>exact bf x.two λu u' B o Z=>sb B<|aV (Rd.dd o) λt g=>sb g<|aV (Rd.dd Z) λt' g=>sb g<|wpAny_toks (max_two_ints K.R.1 λU Y m=>k.new K (.all m)<|by split<;>exact .int _ _)
 |min2=>exact bf x.two λu u' B o Z=>sb B<|aV (Rd.dd o) λt g=>sb g<|aV (Rd.dd Z) λt' g=>sb g<|wpAny_toks (min_two_ints K.R.1 λU Y m=>k.new K (.all m)<|by split<;>exact .int _ _)
 |abs=>exact aS x.one λu g q=>sb g<|aV (Rd.dd q) λt g=>sb g<|wpAny_toks<|PyProof.Rows.call_abs_int λO O=>k.same K<|.int _ _
 |chr L H=>exact aS x.one λu g q=>sb g<|aV (Rd.dd q) λt g=>sb g<|wpAny_toks<|chr_of_range L H<|k.same K<|.str _ _
 |ord h=>exact aS x.one λu g q=>sb g<|aV (Rd.dM q) λt g=>sb g<|wpAny_toks<|ord_of_one h<|k.same K<|.int _ _
 | @rB a c=>
  refine aS x.one λu g q=>sb g<|aV (Rd.dd q) λt g=>sb g<|wpAny_toks<|PySem.P.str_of_int ?_<|k.same K<|.str _ _
  by_cases h0:a.natAbs=0
  ·erw[h0]
   decide
  ·exact (Nat.log2_lt h0).mpr (mJ c<|by decide+kernel)
 |tv h e=>exact aS x.one λu g q=>sb g<|aV (Rd.dM q) λt g=>sb g<|wpAny_toks<|KIN.call_text e h<|k.same K<|.int _ _
 | @divmod a b L H=>exact bf x.two λu u' B o Z=>sb B<|aV (Rd.dd o) λt g=>sb g<|aV (Rd.dd Z) λt' g=>sb g<|wpAny_toks<|divmod_int L (k.new K (Kl.push _)<|K.freshT (.cons (.int _ _)<|.cons (.int _ _) .nil) 0)<|.inl H
noncomputable def EB (b:Sm):String:=match b with
 |.lower=> "str.lower" |.upper=> "str.upper" |.swapcase=> "str.swapcase" |.rstrip=> "str.rstrip" |.qP=> "str.lstrip" |.split=> "str.split" |.join=> "str.join" |.bits=> "int.bit_length"
noncomputable def CY (b:Sm):Str:=match b with
 |.lower=> "lower" |.upper=> "upper" |.swapcase=> "swapcase" |.rstrip=> "rstrip" |.qP=> "lstrip" |.split=> "split" |.join=> "join" |.bits=> "bit_length"
theorem QAP {X:aM->Prop}: ∀l:List (aG×fG),bB X h (wd l)<|(l.map (·.1)).map sJ:=by
 intro O;induction O with
 |nil=>exact bB.nil
 |cons O l i=>obtain ⟨x,t⟩:=O;exact bB.cons (.str x t)<|i
theorem S7 {vs:List V} (hb:jI r b x vs d) (K:FX D C X r z) (M:Vz D X z u x) (v:jC D X z us vs) (k:KE D C X r z (.d d) Q):aO (aY D.prog D.w) X.A (call (.builtin<|EB b)<|u::us) Q E z.s:=by
 refine wpAny_toks ?_;cases hb with
 |bits=>exact sb v.zero<|aV (Rd.dd M) λt g=>sb g<|call_int_bit_length<|k.same K<|.int _ _
 |lower h=>exact sb v.zero<|aV (Rd.dM M) λt g=>sb g<|SCL.lower h λO=>k.same K<|.str _ _
 |upper h=>exact sb v.zero<|aV (Rd.dM M) λt g=>sb g<|SCL.upper h λO=>k.same K<|.str _ _
 |swapcase h=>exact sb v.zero<|aV (Rd.dM M) λt g=>sb g<|SCL.swapcase h λO=>k.same K<|.str _ _
 |rstrip h=>exact sb v.zero<|aV (Rd.dM M) λt g=>sb g<|SC.rstrip (λO O=>k.same K<|.str _ _)<|iy▸h
 |qP h=>exact aS v.one λU g q=>sb g<|aV (Rd.dM M) λt g=>sb g<|aV (Rd.dM q) λc g=>sb g<|SC.lstripChars (λO O=>k.same K<|.str _ _)<|iy▸h
 |split L i=>
  refine aS v.one λU g q=>sb g<|aV (Rd.dM M) λt g=>sb g<|aV (Rd.dM q) λc g=>sb g<|dk K.led λH m a F N B P=>KSpl.split1 F N (by simpa -iota using i) (λD l o W e O f n R=>?_) (by erw[iy];exact aQ L)
  exact k.new K (B _ _ f n λp=>zV _)<|Rd.lst (n _<|.head _).1 (K.F.u7<|P _ _ _ _ n R)<|e▸QAP l
 |join e h=>
  refine aS v.one λU g q=>sb g<|aV (Rd.dM M) λt g=>sb g ?_
  cases kZ K q e with
  |mk Y Z=>refine aS (Tf Z) λl g j=>?_;clear Z;subst g;exact SC.join (gN Y) j h λO O=>k.same K<|.str _ _
theorem Mw {k:Int} (e:we k n=aA j) (s:j<n): -(n:Int)<=k/\k<n/\(0<=k->k.toNat=j)/\(k<0->(k+(n:Int)).toNat=j):=by
 unfold we at e;by_cases h0:k<0
 ·simp! only[h0,if_true] at e
  split at e
  ·rename_i c
   simp! only[gn,decide_eq_true_eq] at c
   cases e
   exact ⟨(bE c.1),⟨(bG c.1<|mI 2 h0),⟨(λx0=>(fh h0 x0)),(λx0=>(by simp+arith))⟩⟩⟩
  ·exact ay e
 ·simp! only[h0,if_false] at e
  split at e
  ·rename_i c
   simp! only[gn,decide_eq_true_eq] at c
   cases e
   exact ⟨(bG (QEc h0)<|oZ<|n),⟨c.2,⟨(λx0=>(by simp+arith)),(λx0=>(fh x0<|QEc h0))⟩⟩⟩
  ·exact ay e
theorem Sw (hb:cC r x i d) (F: ∀o i,wg L aE o i=wh [o,i] (wi o i)) (K:FX D C X r z) (M:Vz D X z u x) (k:KE D C X r z (.d d) Q):aO (aY D.prog D.w) X.A (QEd h L u<|.int i t) Q E z.s:=by
 refine wpAny_toks ?_;cases hb with
 |str Y N p=>refine aV (Rd.dM M) λt g=>?_;subst g;exact bf (SB.item (by simp -iota [fitsSsize];exact ⟨(bG Y<|oL p),(bG N<|oL p)⟩) (charAt_isSome Y N)<|k.same K<|.str _ _) λT id hl U a=>zY U hl a<|F _ _
 |seq e Z H ex=>
  have j:=(zZ.mp ex).1;cases e with
  |l e=>
   cases kZ K M e with
   |mk e1 e2=>
    refine jv (Mw H j) λq B m f=>aS (e2.get ex) λv ev R=>zY (gN e1).typeIs Pg.lookup ?_<|F _ _;rw[<-zc] at ev;by_cases h0:0<=i
    ·exact QEe (gN e1) h0 (bG Z B) (m h0▸ev)<|k.same K R
    ·have h0:=zU.mp h0
     exact wpAny_getItem_list_neg (gN e1) h0 (by simp! only[gm,e2.len];assumption) (bG Z q) (by simp! only[gm,e2.len,f h0];exact ev)<|k.same K R
  |t=>
   cases GS M with
   |mk e1 e2=>exact jv (Mw H j) λq B O O=>aS (e2.get ex) λv ev R=>zY (ax _ e1 rfl) slot_tuple_getitem.lookup (getItem_tuple ⟨_,e1,rfl,_,rfl⟩ (bG Z q) (bG Z B) (by simp! only[gm,e2.len];exact H) (by erw[zc];exact ev)<|k.same K R)<|F _ _
theorem yU (e:nY v l) (q:Vz D X z u v): ∃p:Option (Int×fG),u=partValue p/\p.map (·.1)=l/\IsPart u l:=by
 induction e with
 |none=>exact sb (Rd.none_inv q)<|(gd none rfl rfl .none)
 |int=>exact aV (Rd.dd q) λt g=>sb g<|(gd (some (_,t)) rfl rfl (.int _ _))
theorem bB.picked {X:aM->Prop} {vs:List aI} (R:bB X h vs xs): ∀ks:List Nat,bB X h (ks.filterMap λk=>vs[k]?)<|ks.filterMap λk=>xs[k]?:=by
 intro O;induction O with
 |nil=>exact bB.nil
 |cons k ks i=>
  exact by
   simp! only[nP,nP]
   induction e:xs[k]? with
   |none=>erw[(by rw[QEf,R.len];exact QEf.mp e:vs[k]?=aF)];exact i
   |some d=>
    refine aS (R.get e) λv m r=>?_
    simp! only[m]
    exact bB.cons r<|i
noncomputable def wN (a b c:aI):Obj:={cls:=.type "slice",data:=.fields #[a,b,c]}
theorem YN {R m vs:V} (e:gR r v R m vs d) (K:FX D C X r z) (N:Vz D X z u v) (hl:Vz D X z U R) (H:Vz D X z c m) (hs:Vz D X z us vs) (b: ∀o i,∃q,wg L aE o i=wh q (wi o i)) (k:KE D C X r z (.d d) Q):
 aO (aY D.prog D.w) X.A (QEd p L u<|.ref z.s.heap.objs.size) Q E {z.s with heap:=z.s.heap.push<|wN U c us}:=by
 refine aV (b u<|.ref z.s.heap.objs.size) λq M=>wpAny_toks ?_;clear b;induction e with
 | @str Y _ _ l h n x hz=>
  refine cy (yU n hl) λj g B O=>sb g ?_;subst B;refine cy (yU x H) λP g B O=>?_;subst g;clear x hl n H;subst B;refine aV (Rd.dM N) λt g=>?_;subst g;cases Rd.none_inv hs;refine zY (Ph _ _ _) PySem.F.slot_str_getitem.lookup ?_ M;refine wpAny_getItem_str_slice (l:=j) (u:=P) (st:=aF) (gd _ (fH _ rfl) rfl rfl) rfl ?_;have Z:=az (Txt.slice_le Y (j.map (·.1))<|P.map (·.1)) (by simp! only[iy];exact hz:Y.length<=mL);refine post_val_or_str<|⟨Z,λt' tk=>?_⟩
  exact k.new K (Kl.push _)<|Rd.str (iI Y (j.map (·.1))<|P.map (·.1)) t'
 | @lst _ xs _ _ _ l h st ex n x es f Z=>
  cases kZ K N ex with
  |mk e1 e2=>
   have g:=gN<|gS (wN U c us) e1;refine cy (yU n hl) λO O O j=>cy (yU x H) λO O O P=>cy (yU es hs) λO O O ps=>zY (g.typeIs) Pg.lookup ?_ M;refine wpAny_getItem_list_slice g (Heap.IsSliceOf.new ..) j P ps f ?_ (by simp! only[iy];exact Jj e2 Z);have a:=e2.mon<|Mon.all (X:=Ex X.Ob z.W) (h':=z.s.heap.push<|wN U c us) λO O e=>gS _ e;refine k.new K ((Kl.push _).trans<|Kl.push _) ?_;have:Rd (Ex X.Ob z.W) ((z.s.heap.push<|wN U c us).push _) (.ref (z.s.heap.push<|wN U c us).objs.size) _:=(K.kl (Kl.push _)<|bh _).fresh (bB.picked a<|Cn (kf l h st xs.length).1 (kf l h st xs.length).2.1 (kf l h st xs.length).2.2) 0;delta mE slicePick
   simp! only[gm,e2.len]
   simpa -iota [zh] using this
end
structure Gl (G:bK) (mg:aG->Option aI):Prop where
 g:G.Ns nO mg
 b:G.Ns ic (G.nsMap ic)
 bo: ∀x:aG,x≠ "__name__" ->G.nsMap ic x=Hp x
 lim:G.NoLimit
structure CS (D:Wd) (A:cV) (X:aM->Prop) (s:aN):Prop where
 R:gv D.n A
 t:1<=s.toks
 base: ∀b o,D.G.get? b=aA o->s.heap.get? b=aA o
 fN: ∀b o,D.G.get? b=aA o-> ¬ X b
 al: ∀b,X b-> ∃o,s.heap.get? b=aA o
 pf: ∀b,D.P.PF b->X b
 inv:D.P.Inv X s.heap
structure CT (D:Wd) (X Y:aM->Prop) (s s':aN):Prop where
 keep: ∀b o,s.heap.get? b=aA o-> ¬ Y b-> ¬ D.P.PF b->s'.heap.get? b=aA o
 inv:D.P.Inv X s'.heap
 e:s'={s with heap:=s'.heap,toks:=s'.toks,drawn:=s'.drawn}
noncomputable def oB (D:Wd) (a:aM) (xs:List aK) (d:aK):Prop:= ∀{A:cV} {s:aN} {X:aM->Prop} {U:List aI} {Q:aI->aN->Prop} {E:aI->aN->Prop},CS D A X s->bB X s.heap U xs->(∀u n,CT D X (λO=>False) s n->Rd X n.heap u d->Q u n)->aO (aY D.prog D.w) A (call (.ref a) U) Q E s
noncomputable def rA (D:Wd) (f:aM) (xs hs:List aK) (z:aK):Prop:=
 ∀{A:cV} {s:aN} {X:aM->Prop} {U v:List aI} {x a:aM} {n:Nat} {Q:aI->aN->Prop} {E:aI->aN->Prop},CS D A X s->D.P.HI X s.heap x a->s.heap.get? a=aA (listOf v.toArray n)->bB X s.heap v hs->bB X s.heap U xs->
  (∀u F,CT D X (λO=>False) s F->Rd X F.heap u z->Q u F)->aO (aY D.prog D.w) A (call (.ref f)<|.ref x::U) Q E s
noncomputable def qy (D:Wd) (f:aM) (xs hs:List aK) (z:aK) (hs':List aK):Prop:=
 ∀{A:cV} {s:aN} {X:aM->Prop} {U m:List aI} {x a:aM} {n:Nat} {Q:aI->aN->Prop} {E:aI->aN->Prop},CS D A X s->D.P.HI X s.heap x a->X a->s.heap.get? a=aA (listOf m.toArray n)->bB X s.heap m hs->bB X s.heap U xs->
  (∀u F v N,CT D X (λb=>b=a) s F->F.heap.get? a=aA (listOf v.toArray N)->bB X F.heap v hs'->Rd X F.heap u z->Q u F)->aO (aY D.prog D.w) A (call (.ref f)<|.ref x::U) Q E s
noncomputable def yh (D:Wd) (f:Nat) (xs:List aK) (l:Ls) (d:aK) (L:Ls):Prop:= ∀{C:Fc} {X:Fx} {z:Zs} {a:aM} {u:List aI} {Q:aI->aN->Prop} {E:aI->aN->Prop},D.cN f C->FX D C X (aL l) z->D.P.CL f (Ex X.Ob z.W) z.s.heap X.env.cells a->iV X z u xs->KE D C X (aL L) z (.d d) Q->aO (aY D.prog D.w) X.A (call (.ref a) u) Q E z.s
noncomputable def AQ:List Str:=["len","sum","max","min","abs","chr","ord","str","int","divmod","range","reversed","type","list"]
class dA (D:Wd):Prop where
 gl:Gl D.G D.mg
 Lz: ∀x∈AQ,D.mg x=aF
 F: ∀f xs d,D.o.F f xs d-> ∃nm a o fd,D.fns[f]?=aA nm/\D.mg nm=aA (.ref a)/\D.G.get? a=aA o/\o.data=.func fd/\oB D a xs d
 gi: ∀x i,D.o.gi x i-> ∃t,D.mg x=aA (.int i t)
 gs: ∀x i,D.o.gs x i-> ∃t,D.mg x=aA (.str i t)
 JZ: ∀{A:cV} {s:aN} {X:aM->Prop} {x a:aM} {Q:aI->aN->Prop} {E:aI->aN->Prop},(∀b o,D.G.get? b=aA o->s.heap.get? b=aA o)->D.P.HI X s.heap x a->(∀tk,Q (.ref a) {s with toks:=tk})->aO (aY D.prog D.w) A (getAttr (.ref x) "_headers" aB) Q E s
 vM: ∀k nm fa,D.hm k=aA (nm,fa)-> ∃o fd,D.G.get? fa=aA o/\o.data=.func fd
 zQ: ∀k nm fa,D.hm k=aA (nm,fa)->k<20-> ∀{A:cV} {s:aN} {X:aM->Prop} {x a:aM} {pl:ba Bool} {Q:aI×List aI->aN->Prop} {E:aI->aN->Prop},(∀b o,D.G.get? b=aA o->s.heap.get? b=aA o)->D.P.HI X s.heap x a->Q (.ref fa,[.ref x]) s->aO (aY D.prog D.w) A (Cy (.ref x) nm pl) Q E s
 Lm: ∀k nm fa,D.hm k=aA (nm,fa)->20<=k->D.mg nm=aA (.ref fa)
 H: ∀k xs hs z hs',D.o.H k xs hs z hs'-> ∃nm fa,D.hm k=aA (nm,fa)/\qy D fa xs hs z hs'
 R: ∀k xs hs z,D.o.R k xs hs z-> ∃nm fa,D.hm k=aA (nm,fa)/\rA D fa xs hs z
 J3: ∀{f:Nat} {X:aM->Prop} {h:bK} {cl:List (aG×aM)} {a:aM},D.P.CL f X h cl a-> ∃o fd,h.get? a=aA o/\o.data=.func fd
 L: ∀f xs l z l',D.o.L f xs l z l'->yh D f xs l z l'
 conv: ∀b,∃fa,D.hm 10=aA (("_convert_string_type" :aG),fa)/\ ∀xx,gL b xx=aB-> ∀{A:cV} {s:aN} {X:aM->Prop} {x a:aM} {t:fG} {Q:aI->aN->Prop} {E:aI->aN->Prop},gv D.n A->1<=s.toks->(∀b o,D.G.get? b=aA o->s.heap.get? b=aA o)->
  D.P.HI X s.heap x a->(∀h' tk,(∀b o,s.heap.get? b=aA o->h'.get? b=aA o)->Q (.str xx t) {s with heap:=h',toks:=tk})->aO (aY D.prog D.w) A (call (.ref fa) [.ref x,.str xx t] [("name",.bool b)]) Q E s
 b1: ∃a,D.mg "b1_set" =aA (.ref a)/\ ∀{A:cV} {s:aN} {i:Int} {t:fG} {Q:aI->aN->Prop} {E:aI->aN->Prop},gv D.n A->(∀b o,D.G.get? b=aA o->s.heap.get? b=aA o)->(∀tk,Q (.bool<|D.o.b1 i) {s with toks:=tk})->aO (aY D.prog D.w) A (sI .In (.int i t)<|.ref a) Q E s
 b3: ∃a ob,D.mg "b3_exceptions" =aA (.ref a)/\D.G.get? a=aA ob/\ob.cls=.type "dict" /\ob.dict=aF/\ ∀{A:cV} {s:aN} {i:Int} {t:fG} {Q:aI->aN->Prop} {E:aI->aN->Prop},gv D.n A->(∀b o,D.G.get? b=aA o->s.heap.get? b=aA o)->
  (∀u tk,(∀X h,Rd X h u<|D.o.b3 i)->Q u {s with toks:=tk})->aO (aY D.prog D.w) A (call (.builtin "dict.get") [.ref a,.int i t]) Q E s
 Pb: ∃o,D.G.get? Cz=aA o/\o≠jJ
 PV: ∀{nm:aG} {fa:aM},D.hm 9=aA (nm,fa)-> ∀{A:cV} {s:aN} {X:aM->Prop} {x a:aM} {u:aI} {Q:Unit->aN->Prop} {E:aI->aN->Prop},gv D.n A->(∀b o,D.G.get? b=aA o->s.heap.get? b=aA o)->D.P.HI X s.heap x a->
  aO (aY D.prog D.w) A (call (.ref fa) [.ref x,u]) (λO s'=>Q () s') E s->aO (aY D.prog D.w) A (delItem (.ref x) u) Q E s
 new: ∀{A:cV} {s:aN} {X:aM->Prop} {a:aM} {vs:List aI} {n:Nat} {xs:List aK} {Q:aI->aN->Prop} {E:aI->aN->Prop},gv D.n A->1<=s.toks->(∀b o,D.G.get? b=aA o->s.heap.get? b=aA o)->(∀b o,D.G.get? b=aA o-> ¬ X b)->(∀b,X b-> ∃o,s.heap.get? b=aA o)->
  xs.all vS=aB->s.heap.get? a=aA (listOf vs.toArray n)->bB X s.heap vs xs->
  (∀x h' tk,(∀b o,s.heap.get? b=aA o->h'.get? b=aA o)->D.P.HI X h' x a->Q (.ref x) {s with heap:=h',toks:=tk})->aO (aY D.prog D.w) A (call (.ref D.hc) [.ref a]) Q E s
 F8:D.mg "Headers" =aA (.ref D.hc)/\ ∀{A:cV} {s:aN} {pos:bP} {l:List (Bool×ba aI)} {Q:aI->aN->Prop} {E:aI->aN->Prop},l.any (·.1)=aE->aO (aY D.prog D.w) A (sM l) (λvs s₁=>(∀b o,D.G.get? b=aA o->s₁.heap.get? b=aA o)/\aO (aY D.prog D.w) A (call (.ref D.hc) vs) Q E s₁) E s->
  aO (aY D.prog D.w) A (wj pos (.ref D.hc) [] l []) Q E s
 Mh: ∃ca o fd,D.mg "compute_powers" =aA (.ref ca)/\D.G.get? ca=aA o/\o.data=.func fd/\ ∀n:Int,0<=n->n<=2048-> ∀{A:cV} {s:aN} {t1 t2 t3:fG} {Q:aI->aN->Prop} {E:aI->aN->Prop},gv D.n A->1<=s.toks->(∀b o,D.G.get? b=aA o->s.heap.get? b=aA o)->
  (∀{dr:Drawn} d h' tk,(∀b o,s.heap.get? b=aA o->h'.get? b=aA o)->h'.get? d=aA jJ->s.heap.get? d=aF->Q (.ref d) {s with heap:=h',toks:=tk,drawn:=dr})->aO (aY D.prog D.w) A (call (.ref ca) [.int n t1,.int 5 t2,.int 2048 t3]) Q E s
section
variable (D:Wd) (C:Fc)
noncomputable def KW (X:Fx) (z:Zs) (K:V->Ls->Prop) (Q:aI->aN->Prop):Prop:= ∀v l,K v l->KE D C X (aL l) z v Q
noncomputable def KT (X:Fx) (z:Zs) (K:Bool->Ls->Prop) (Q:Bool->aN->Prop):Prop:= ∀b l,K b l->KB D C X (aL l) z b Q
noncomputable def Ud (X:Fx) (z:Zs) (K:List V->Ls->Prop) (Q:List aI->aN->Prop):Prop:= ∀v l,K v l-> ∀u Z,FX D C X (aL l) Z->Sx z Z->jC D X Z u v->Q u Z.s
structure Ev (x:aP) (l:Ls) (K:V->Ls->Prop):Prop where
 run: ∀{X:Fx} {z:Zs} {Q:aI->aN->Prop} {E:aI->aN->Prop},FX D C X (aL l) z->KW D C X z K Q->aO (aY D.prog D.w) X.A (b7 x X.env) Q E z.s
structure Ux (x:aP) (l:Ls) (K:Bool->Ls->Prop):Prop where
 run: ∀{X:Fx} {z:Zs} {Q:Bool->aN->Prop} {E:aI->aN->Prop},FX D C X (aL l) z->KT D C X z K Q->aO (aY D.prog D.w) X.A (zi x X.env<|b7 x X.env) Q E z.s
structure Md (xs:List aP) (l:Ls) (K:List V->Ls->Prop):Prop where
 run: ∀{X:Fx} {z:Zs} {pos:bP} {Q:List aI->aN->Prop} {E:aI->aN->Prop},FX D C X (aL l) z->Ud D C X z K Q->aO (aY D.prog D.w) X.A (sM<|mM pos<|fI xs X.env) Q E z.s
noncomputable def aZ (x:aP) (e:E):Prop:= ∀{l K},e D.o l K->Ev D C x l K
noncomputable def eQ (x:aP) (t:T):Prop:= ∀{l K},t D.o l K->Ux D C x l K
noncomputable def fu (xs:List aP) (es:List E):Prop:= ∀{l K},lW es D.o l K->Md D C xs l K
noncomputable def yA (op:kg) (xs:List aP) (es:List E):Prop:= ∀{p l K},bW op es D.o l K->Ev D C (.BoolOp op xs p) l K
noncomputable def yM (op:kg) (xs:List aP) (ts:List T):Prop:= ∀{l K},Bw op ts D.o l K-> ∀{X:Fx} {z:Zs} {Q:Bool->aN->Prop} {E:aI->aN->Prop},FX D C X (aL l) z->KT D C X z K Q->aO (aY D.prog D.w) X.A (allTrue op xs X.env) Q E z.s
noncomputable def v8 (x:Option aP) (e:E):Prop:= ∀{l K},e D.o l K-> ∀{X:Fx} {z:Zs} {Q:aI->aN->Prop} {E:aI->aN->Prop},FX D C X (aL l) z->KW D C X z K Q->aO (aY D.prog D.w) X.A (evalPart x X.env) Q E z.s
end
structure iD (C:Fc) (nm:aG) (i:Nat):Prop where
 k:C.K nm=aA .local\/C.K nm=aA .cell\/C.K nm=aA .free
 t:C.cM nm=aA i
 c:(nm==("__classdict__" :aG))=aE
 d:(nm==("__debug__" :aG))=aE
structure nB (C:Fc) (nm:aG):Prop where
 k:C.K nm=aA .globalImplicit
 d:(nm==("__debug__" :aG))=aE
noncomputable def cv (C:Fc) (nm:aG) (i:Nat):Bool:=(match C.K nm with|some .local=>aB|some .cell=>aB|some .free=>aB|_=>aE) && (C.cM nm==aA i) && !(nm==("__classdict__" :aG)) && !(nm==("__debug__" :aG))
theorem jg (h:cv C nm i=aB):iD C nm i:=by
 refine bI (f7.mp h) λh b=>bI (f7.mp h) λh Q=>bI (f7.mp h) λH m=>⟨?_,QHc.mp m,uZ _▸Q,uZ _▸b⟩;generalize C.K nm=k at H
 match k,H with
 |some .local,_=>exact .inl rfl
 |some .cell,_=>exact .inr<|.inl rfl
 |some .free,_=>exact .inr<|.inr rfl
section
variable {D:Wd} {C:Fc} {x y w:aP} {a b c:E} {t t':T} {r r₁ r₂ r₃:bQ}
theorem FX.cs (K:FX D C X r z):CS D X.A (Ex X.Ob z.W) z.s:=⟨K.R,K.t,K.F.base,K.F.fN,K.F.dj,λb p=>.inr<|K.F.pf b p,K.F.inv⟩
theorem KE.id (k:KE D C X r z v Q) (K:FX D C X r z) (q:Vz D X z u v):Q u z.s:=k u z K .refl q
theorem Rr {k}:aZ D C (.Constant .none k pos) .none:= @λO O h=>⟨λK k=>λO O O=>(k _ _ h).id K Rd.none⟩
theorem TB {b k}:aZ D C (.Constant (.bool b) k pos) (.bool b):= @λO O h=>⟨λK k=>λO O O=>(k _ _ h).id K<|Rd.bool _⟩
theorem QAw {i k}:aZ D C (.Constant (.int i) k pos) (.int i):= @λO O h=>⟨λK k=>wpAny_toks<|QEg<|(k _ _ h).same K<|Rd.int _ _⟩
theorem My {i k}:aZ D C (.Constant (.str i) k pos) (.str i):= @λO O h=>⟨λK k=>wpAny_toks<|Constant_str<|(k _ _ h).same K<|Rd.str _ _⟩
theorem QBw {cl X h} (hs:dZ P φ cl X h i W (r i)) (e:kX r i=aA v): ∃u,W=aA u/\VR P φ X h u v:=by
 unfold kX at e;induction hr:r i with
 |val d=>simp only[hr] at hs e;cases e;exact hs
 |own R=>simp only[hr] at hs e;cases e;exact aS hs λa Y n=>⟨_,n,a,Y,rfl⟩
 |ali j=>simp only[hr] at hs e;cases e;obtain ⟨_,a,Y,n⟩:=hs;exact ⟨_,n,a,Y,rfl⟩
 |inst=>simp only[hr] at hs e;cases e;exact bf hs λx a Y n p=>⟨_,n,x,a,Y,rfl,p⟩
 |emp=>simp only[hr] at hs e;cases e;exact aS hs λu e O=>(ax _ e trivial)
 |_=>simp only[hr] at e;exact ay e
theorem uO (K:FX D C X r z) (o:iD C nm i) (h: ∀v,dZ D.P z.φ X.env.cells (Ex X.Ob z.W) z.s.heap i v (r i)-> ∃u,v=aA u/\Q u z.s):aO (aY D.prog D.w) X.A (b7 (.Name nm pos) X.env) Q Er z.s:=by
 refine wpAny_Name ?_ o.d;rcases o.k with Y|Y|Y
 ·exact aS K.F.loc λm n N=>aS (h _<|N nm i Y o.t) λu e q=>Pj K.F.hk ((K.F.hK nm).trans Y) n e q
 ·refine bf (K.F.gr nm i (.inl Y) o.t) λc v x l p=>aS (h _ p) λu g q=>?_
  clear p;subst g;exact wpAny_loadName_cell K.F.hk ((K.F.hK nm).trans Y) x l q
 ·refine bf (K.F.gr nm i (.inr Y) o.t) λc v x l p=>aS (h _ p) λu g q=>?_
  clear p;subst g;exact wpAny_loadName_free K.F.hk ((K.F.hK nm).trans Y) x l q o.c
theorem tL (o:iD C nm i):aZ D C (.Name nm pos) (.aC i):= @λO O h=>⟨λK k=>uO K o λv q=>by
 induction WM h with|mk e h=>exact let ⟨u,x,n⟩:=QBw q e;(ax u x<|(k _ _ h).id K n)⟩
theorem FX.freeze (K:FX D C X r z) (e:r i=.own xs) (M:C.ow=aB) (L:i≠aT) (N:i≠bR):
 ∃a z',z.φ i=aA a/\z'.s=z.s/\FX D C X (upd r i .unb) z'/\Sx z z'/\Rz X z' (.ref a) (.list xs):=by
 refine dU (K.F.own i xs e) λa vs n e1 e2 l=>?_;have A:=K.F.gH M i xs a e e1 L;have st:dg z.W z.s.heap (λb=>z.W b/\b≠a) z.s.heap:=⟨λO O e O=>e,λO q=>.inl q.1⟩;have m:Mon (Ex X.Ob z.W) z.s.heap (Ex X.Ob λb=>z.W b/\b≠a) z.s.heap:=st.mon;have U:=K.F.forget i N L;refine aS U.loc λmm H f=>?_;have nl: ∀b o,z.s.heap.get? b=aA o->(∀vs n,o.data≠ .seq vs n)->b≠a:=λb o e d q=>by simp only[q,e2] at e;cases e;exact d _ _ rfl
 refine ⟨a,{z with W:=λb=>z.W b/\b≠a},e1,rfl,⟨⟨U.base,λb o e q=>U.fN b o e<|q.imp id λq=>q.1,U.hk,U.hK,U.hg,U.hb,U.rV,⟨mm,H,λx j p q=>(f x j p q).mon m λO O O O=>rfl⟩,⟨U.ku,?_⟩,λx j p q=>?_,λx j c p q g z=>⟨U.qj x j c p q g z,?_⟩,U.oe,λj ys q=>?_,λcc j ys b q p z=>⟨U.gH cc j ys b q p z,λv=>?_⟩,λys q p b z=>⟨U.jf ys q p b z,λv=>?_⟩,λys q p b z w=>U.ko ys q p b z w.1,U.lD,U.inj,U.j5,λb q=>U.dj b<|q.imp id λq=>q.1,λb q=>U.dT b q.1,D.P.iU U.inv m λO O=>rfl,λb p=>⟨U.pf b p,λq=>?_⟩⟩,K.R,K.t⟩,⟨st,bh _,rfl,rfl⟩,?_⟩
 ·exact dU H λo es ep q1 q2 O=>nl _ o q1 λO O d=>by rw[q2] at d;contradiction
 ·exact bf (U.gr x j p q) λc u q1 q2 Q=>(cz c u q1 q2<|Q.mon m λO O O O=>rfl)
 ·refine bf (U.gr x j (.inl p) g) λc' u q1 Y Q=>aS Y λo q2 Z=>?_
  clear K e M e1 e2 l L N A st m U H f p q g Y Q;obtain rfl:=bM z q1;exact nl _ o q2 λO O d=>by rw[Z] at d;contradiction
 ·exact dU (U.own j ys q) λb ws k q1 q2 Q=>(la b ws k q1 q2<|Q.mon m)
 ·have:j=i:=K.F.inj j i a (v▸p) e1
  clear e e1 L N U f p z;subst this;unfold upd at q;rw[if_pos rfl] at q;contradiction
 ·exact L (K.F.inj aT i a (v▸z) e1).symm
 ·refine cQ (D.P.iS U.inv p) λo aa B d4=>?_
  simp only[q,e2] at B;cases B;contradiction
 ·exact Rd.lst e2 (λq=>q.elim (K.F.dT a A) λq=>q.2 rfl)<|l.mon m
theorem WK (hw:C.ow=aB) (ok:iD C nm i):aZ D C (.Name nm pos) (.qa i):= @λO O h=>⟨λK k=>uO K ok λv q=>by
 induction i6 h with
 |mk r h=>
  refine oC (K.freeze r hw (λq=>QHZ (q▸C.low nm i ok.t)<|by decide) λq=>QHZ (q▸C.low nm i ok.t)<|by decide) λa z' e1 e2 U st R=>?_;rw[r] at q;refine aS q λA e z=>?_;obtain rfl:=bM e1 e;rw[<-fS] at U
  exact (ax _ z<|e2▸k _ _ h _ z' U st R)⟩
theorem QDl (A:aZ D C x a) (hb:aZ D C y b):aZ D C (.BinOp x op y pos) (.aH op a b):= @λO O h=>⟨λK k=>wpAny_BinOp ((A h).run K λO O h p z R s1 q1=>(hb h).run R λO O h Q Z P s2 q2=>by
 induction JE h with|mk e h=>exact TM e P (q1.mon s2) q2<|(k _ _ h).tr<|s1.trans s2)⟩
theorem qQ {f:Int->Ls->Prop} (h:Ev D C x l λv l=>nF v λi=>f i l) (K:FX D C X (aL l) z) (k: ∀i l t z',f i l->FX D C X (aL l) z'->Sx z z'->Q (.int i t) z'.s):aO (aY D.prog D.w) X.A (b7 x X.env) Q Er z.s:=h.run K λv l h u z' U n q=>by induction X4 h with|mk e h=>subst e;refine aV (Rd.dd q) λt g=>?_;erw[g];exact k _ _ t z' h U n
theorem Vc (A:aZ D C x a):aZ D C (.UnaryOp .USub x pos) (.neg a):= @λO O h=>⟨λK k=>QEh<|qQ (A h) K λi l t z h R s1=>wpAny_toks<|neg_int<|((k _ _ h).tr s1).same R<|.int _ _⟩
theorem Vw (A:aZ D C x a):aZ D C (.UnaryOp .Invert x pos) (.inv a):= @λO O h=>⟨λK k=>QEh<|qQ (A h) K λi l t z h R s1=>wpAny_toks<|invert_int<|((k _ _ h).tr s1).same R<|.int _ _⟩
theorem SE (hm:sN op y=aE) (A:aZ D C x a) (hb:aZ D C y b):aZ D C (.Compare x [op] [y] pos) (.cmp op a b):= @λO O h=>⟨λK k=>Pk ((A h).run K λO O h p z R s1 q1=>(hb h).run R λO O h Q Z P s2 q2=>by
 induction As h with|mk e h=>exact wpAny_toks<|BA e P (q1.mon s2) q2 λtk=>((k _ _ h).tr<|s1.trans s2).same P<|.bool _) hm⟩
theorem w_ (hm:sN op y=aE) (A:aZ D C x a) (hb:aZ D C y b):eQ D C (.Compare x [op] [y] pos) (.cmp op a b):= @λO O h=>⟨λK k=>Hr ((A h).run K λO O h p z R s1 q1=>(hb h).run R λO O h Q Z P s2 q2=>by
 induction As h with|mk e h=>exact wpAny_toks<|BA e P (q1.mon s2) q2 λtk l=>ou<|((k _ _ h).tr<|s1.trans s2).same P l) hm⟩
theorem Zc (a:eQ D C x t):eQ D C (.UnaryOp .Not x pos) (.not t):= @λO O h=>⟨λK k=>QEi<|(a h).run K λO O h z R s1=>k _ _ h z R s1⟩
theorem Rp (a:eQ D C x t) (hb:aZ D C y b) (W:aZ D C w c):aZ D C (.IfExp x y w pos) (.ite t b c):= @λO O h=>⟨λK k=>wpAny_IfExp ((a h).run K λz O h Z R s=>by
 rcases h with ⟨rfl,h⟩|⟨rfl,h⟩
 ·exact (hb h).run R λO O h=>(k _ _ h).tr s
 ·exact (W h).run R λO O h=>(k _ _ h).tr s)⟩
theorem QBP (A:aZ D C x a):yA D C op [x] [a]:= @λO O O h=>⟨λK k=>BoolOp_one<|(A h).run K k⟩
theorem ZM (A:aZ D C x a) (hb:yA D C op (y::xs) (b::es)):yA D C op (x::y::xs) (a::b::es):= @λO O O h=>⟨λ{X z Q Er} K k=>by
 induction op with
 |And=>exact BoolOp_and ((A h).run K λv l h u Z R i q=>by
  induction h with
  |mk e h=>
   rcases h with ⟨rfl,h⟩|⟨rfl,h⟩
   ·exact zE e R q λj P s=>k _ _ h _ _ P (i.trans s)<|q.mon s
   ·exact zE e R q λj P s=>(hb h).run P λO O h=>(k _ _ h).tr<|i.trans s)
 |Or=>exact BoolOp_or ((A h).run K λv l h u Z R i q=>by
  induction h with
  |mk e h=>
   rcases h with ⟨rfl,h⟩|⟨rfl,h⟩
   ·exact zE e R q λj P s=>k _ _ h _ _ P (i.trans s)<|q.mon s
   ·exact zE e R q λj P s=>(hb h).run P λO O h=>(k _ _ h).tr<|i.trans s)⟩
theorem UD (h:yA D C op xs es):aZ D C (.BoolOp op xs pos) (.fx op es):=λe=>h e
theorem Zu:yM D C op [] []:= @λO O h=>λK k=>by rw[arm_allTrue_nil];refine bA ?_;cases op<;>exact k _ _ h _ K .refl
theorem WG (a:eQ D C x t) (hb:yM D C op xs ts):yM D C op (x::xs) (t::ts):= @λO O h=>λK k=>by
 rw[arm_allTrue_cons];refine aR<|(a h).run K λb l h z R s=>?_;rcases h with ⟨rfl,h⟩|⟨rfl,h⟩
 ·cases op<;>exact bA<|k _ _ h _ R s
 ·cases op<;>exact hb h R λO O h=>(k _ _ h).tr s
theorem V_ (h:yM D C op xs ts):eQ D C (.BoolOp op xs pos) (.fx op ts):=λe=>⟨λK k=>by
 rw[arm_isTrue_BoolOp]
 exact h e K k⟩
theorem Vn (o: ∀whole,zi x env whole=(do let v<-whole;sO x.pos;oy [v] (Ho v))) (h:aO M A (b7 x env) (λv N=>aO M A (Ho v) Q Er N) Er s):
 aO M A (zi x env<|b7 x env) Q Er s:=by
 rw[o];exact aR<|eY h (λv N H=>aR<|iJ<|cO H) λO O x=>x
theorem QCK (ok:iD C nm i):eQ D C (.Name nm pos) (.aC i):= @λl r h=>⟨λK k=>Vn (λO=>rfl) ((tL (K:=λv l=>dE (nC (aL l) v) λb=>r b l) ok h).run K λO O h p z R s1 q1=>by
 induction h with|mk e h=>exact zE e R q1<|(k _ _ h).tr s1)⟩
theorem FD {t:ba aI}:mM pos ((aE,t)::l)=(aE,t)::mM pos l:=rfl
theorem Gg:fu D C [] []:= @λO O h=>⟨λK k=>lP<|k _ _ h _ _ K .refl .nil⟩
theorem xh {es:List E} (hs: ∀env,fI (x::xs) env=(aE,b7 x env)::fI xs env) (A:aZ D C x a) (hb:fu D C xs es):fu D C (x::xs) (a::es):= @λO O h=>⟨λ{X z pos Q Er} K k=>by
 simp only[hs X.env,FD]
 exact ua<|(A h).run K λO O h p Z R s1 q1=>(hb h).run R λO O h ps j P s2 q2=>k _ _ h _ _ P (s1.trans s2)<|.cons (q1.mon s2) q2⟩
theorem jC.ds (q:jC D X z us (xs.map .d)):iV X z us xs:=by
 induction xs generalizing us with
 |nil=>cases q;exact bB.nil
 |cons x xs i=>cases q with|cons a b=>exact bB.cons a<|i b
theorem kP {Kd:List aK->Ls->Prop} (h:Md D C xs l λvs l=>xd vs λds=>Kd ds l) (K:FX D C X (aL l) z) (k: ∀ds l us z',Kd ds l->FX D C X (aL l) z'->Sx z z'->iV X z' us ds->Qs us z'.s):aO (aY D.prog D.w) X.A (sM<|mM pos<|fI xs X.env) Qs Er z.s:=h.run K λvs l h us z' U s q=>by induction QAN h with|mk e g=>subst e;exact k _ _ us z' g U s q.ds
theorem Na (h:fu D C xs es):aZ D C (.List xs pos) (.list es):=λe=>⟨λK k=>Hu<|kP (h e) K λds l us z h R s q1=>⟨by simp only[iy,q1.len];exact bJ h.1,((k _ _ h.2).tr s).new R (Kl.push _) (R.fresh q1 0)<|bh _⟩⟩
theorem QDf (h:fu D C xs es):aZ D C (.Tuple xs j pos) (.tup es):=λe=>⟨λK k=>wpAny_Tuple<|kP (h e) K λds l us z h R s q1=>⟨by simp only[iy,q1.len];exact bJ h.1,((k _ _ h.2).tr s).new R (Kl.push _) (R.freshT q1 0)<|bh _⟩⟩
theorem Uu (s: ∀o i,wg y aE o i=wh [o,i] (wi o i)) (A:aZ D C x a) (hb:aZ D C y b):aZ D C (.Subscript x y pos) (.au a b):= @λO O h=>⟨λK k=>Pm ((A h).run K λO O h p z R s1 q1=>qQ (hb h) R λi l t Z h P s2=>by
 induction h with|mk e h=>exact Sw e s P (q1.mon s2)<|(k _ _ h).tr<|s1.trans s2)⟩
theorem A7 {k:Nat} (h:Q .none s):aO M A (b7 (.Constant .none k pos) env) Q Er s:=λO O O=>h
theorem HG {k:Nat} {b:Bool} (h:Q (.bool b) s):aO M A (b7 (.Constant (.bool b) k pos) env) Q Er s:=λO O O=>h
theorem KQ {w:bz} {s:aN} {neg b:Bool} {u u':aI} (p:plainIs u u'=aB) (e:(u==u')=b) (h:Q (.bool<|b !=neg) s):aO (aY prog w) A (sI (if neg then .IsNot else .Is) u u') Q Er s:=by
 cases neg
 ·exact QEj p (by erw[e];simpa using h)
 ·exact Pn p (by erw[e];simpa using h)
theorem BX {w:bz} {neg B:Bool} (q:Rd Y s.heap u d) (hd:(d=.none/\B=aB)\/(d≠ .none/\B=aE)) (h:Q (.bool<|B !=neg) s):aO (aY prog w) A (sI (if neg then .IsNot else .Is) u .none) Q Er s:=by
 have:plainIs u .none=aB/\(u==.none)=B:=by
  refine aS q λl L b=>?_;clear q h L;rcases hd with ⟨rfl,rfl⟩|⟨hd,rfl⟩
  ·cases b;exact ⟨rfl,rfl⟩
  ·cases b<;>first|exact absurd rfl hd|exact ⟨rfl,rfl⟩
 exact KQ this.1 this.2 h
theorem MD {whole} (F:sN op rr=aE)
 (h:aO M A (b7 l env) (λu N=>aO M A (b7 rr env) (λu' H=>aO M A (sI op u u') (λc R=> ∃b,c=.bool b/\Q b R) Er H) Er N) Er s) (m:M=aY D.prog D.w):aO M A (zi (.Compare l [op] [rr] pos) env whole) Q Er s:=by
 exact cx m<|wpAny_isTrue_Compare1 (wpAny_mono h (λO O h=>eY h (λO O h=>eY h (λc R q=>q.elim λb q=>by erw[q.1];exact ou q.2) λO O x=>x) λO O x=>x) λO O x=>x) F
theorem QCl {k:Nat} {neg:Bool} (o:op=if neg then .IsNot else .Is) (m:sN op (.Constant .none k P)=aE) (A:aZ D C x a):aZ D C (.Compare x [op] [.Constant .none k P] pos) (.iM neg a):= @λO O h=>⟨λK k=>Pk ((A h).run K λO O h p z R s q=>by
 erw[o];induction jU h with
 |mk e g=>
  clear h;subst e;rcases g with ⟨rfl,g⟩|⟨n,g⟩
  ·exact A7<|BX q (.inl ⟨rfl,rfl⟩)<|k _ _ g _ _ R s<|Rd.bool _
  ·exact A7<|BX q (.inr ⟨n,rfl⟩)<|k _ _ g _ _ R s<|Rd.bool _) m⟩
theorem QAp {k:Nat} {neg:Bool} (o:op=if neg then .IsNot else .Is) (m:sN op (.Constant .none k P)=aE) (A:aZ D C x a):eQ D C (.Compare x [op] [.Constant .none k P] pos) (.iM neg a):= @λO O h=>⟨λK k=>MD m ((A h).run K λO O h p z R s q=>by
 erw[o];induction jU h with
 |mk e g=>
  clear h;subst e;rcases g with ⟨rfl,g⟩|⟨n,g⟩
  ·exact A7<|BX q (.inl ⟨rfl,rfl⟩)<|ax _ rfl (k _ _ g _ R s)
  ·exact A7<|BX q (.inr ⟨n,rfl⟩)<|ax _ rfl (k _ _ g _ R s)) rfl⟩
theorem TG {k:Nat} {P:bP} {neg b:Bool} {op:fV} (o:op=if neg then .IsNot else .Is) (m:sN op (.Constant (.bool b) k P)=aE) (A:aZ D C x a):eQ D C (.Compare x [op] [.Constant (.bool b) k P] pos) (.eP neg b a):= @λO O h=>⟨λK k=>MD m ((A h).run K λO O h p z R s q=>by
 erw[o];induction jU h with
 |mk e g=>
  clear o m A K;obtain ⟨c,rfl,g⟩:=g;clear h;subst e;cases Rd.bool_inv q
  exact HG<|KQ rfl (by clear h k R s g q;cases b<;>cases c<;>rfl) (ax _ rfl (k _ _ g _ R s))) rfl⟩
end
theorem gG {E:aI->aN->Prop} (p:l.any (·.1)=aE)
 (h:aO M A (sM l) (λvs n=>Q ⟨vs,[]⟩ n) E s):aO M A (evalArgs f aB l []) Q E s:=by
 induction l with
 |nil=>refine aR<|eY h (λvs n H=>?_) λO O x=>x;refine aR<|bA<|cO<|aR<|bA<|aR<|bA<|bA H
 |cons a l=>
  obtain ⟨b,t⟩:=a;have:b=false:=by simp only[List.any_cons,Po] at p;exact p.1
  clear p;subst this;exact evalArgs_plain h
noncomputable def Pl (xs:List aP):Prop:= ∀env p,(mM p<|fI xs env).any (·.1)=aE
noncomputable def yn (b:Bi):Str:=match b with
 |.len=> "len" |.sum=> "sum" |.ma=> "max" |.max2=> "max" |.kS=> "min" |.min2=> "min" |.abs=> "abs" |.chr=> "chr" |.ord=> "ord" |.rB=> "str" |.tv=> "int" |.divmod=> "divmod"
noncomputable def Nc (nm:aG):Bool:=AQ.contains nm && !(nm==("__debug__" :aG)) && !(nm==("__name__" :aG))
theorem JC (b:Bi):Hp (yn b)=aA (tc b)/\Nc (yn b)=true:=by induction b<;>exact ⟨by lia,by lia⟩
section
theorem zM [H:dA D] (K:FX D C X r z) (P:C.K nm=aA .globalImplicit) (hn:Nc nm=aB) (hu:Hp nm=aA u) (h:Q u z.s):aO (aY D.prog D.w) X.A (b7 (.Name nm pos) X.env) Q Er z.s:=by
 refine bI (f7.mp hn) λhn i=>bI (f7.mp hn) λhn q=>Hv K.F.hk ((K.F.hK nm).trans P) ?_<|uZ _▸q;refine QEk (mg:=D.mg) (mb:=D.G.nsMap ic) ?_ (H.Lz nm<|Hx.mp hn) ?_ ?_ h
 ·exact sb K.F.hg<|H.gl.g.keeps K.F.base
 ·exact sb K.F.hb<|H.gl.b.keeps K.F.base
 ·exact sb (H.gl.bo nm λe=>by rw[e] at i;exact QHZ i<|by decide+kernel)<|hu
theorem qe [H:dA D] (K:FX D C X r z) (o:nB C nm) (hu:D.mg nm=aA u) (h:Q u z.s):aO (aY D.prog D.w) X.A (b7 (.Name nm pos) X.env) Q Er z.s:=by refine Hv K.F.hk ((K.F.hK nm).trans o.k) ?_ o.d;refine QEl ?_ hu h;simp only[K.F.hg];exact H.gl.g.keeps K.F.base
theorem Ye [H:dA D] (o:nB C nm):aZ D C (.Name nm pos) (.qY nm):= @λO O h=>by
 induction h with|mk e g=>refine aV (H.gi _ _ e) λt e2=>?_;exact ⟨λK k=>qe K o e2<|(k _ _ g).id K<|Rd.int _ _⟩
theorem k_ (p:l.any (·.1)=aE) (h:aO M A (sM l) (λvs n=>aO M A (call (tc b) vs) Q Er n) Er s):aO M A (wj pos (tc b) [] l []) Q Er s:=by
 have k:(∃i,tc b=.builtin i)\/ ∃T,tc b=.type T:=by clear p h;induction b<;>first|exact .inl ⟨_,rfl⟩|exact .inr ⟨_,rfl⟩
 generalize tc b=B at*;rcases k with ⟨i,rfl⟩|⟨T,rfl⟩
 ·exact wm p<|gG p h
 ·exact wo p<|gG p h
theorem QCd [H:dA D] (hn:nm=yn b) (s:C.K nm=aA .globalImplicit) (P:Pl xs) (a:fu D C xs es):aZ D C (.Call (.Name nm p) xs [] pos) (.bi b es):= @λO O h=>⟨λ{X z Q Er} K k=>by
 subst hn
 exact qp (zM K s (JC b).2 (JC b).1 (k_ (P X.env pos) ((a h).run K λO O h us Z R s1 q1=>by
  induction h with|mk e g=>exact Rq e R q1<|(k _ _ g).tr s1)))⟩
noncomputable def EI (b:Sm):String:=match b with|.bits=> "int" |_=> "str"
theorem ZI (b:Sm):Pp (EI b)/\Slot (EI b) (CY b) (EB b)/\Hy (.builtin<|EB b)=pure (.type "method_descriptor"):=by
 induction b with
 |lower=>exact ⟨ub,PySem.F.slot_str_lower,PySem.F.type_str_lower⟩
 |upper=>exact ⟨ub,PySem.F.slot_str_upper,PySem.F.type_str_upper⟩
 |swapcase=>exact ⟨ub,PySem.F.slot_str_swapcase,PySem.F.type_str_swapcase⟩
 |rstrip=>exact ⟨ub,PySem.F.slot_str_rstrip,PySem.F.type_str_rstrip⟩
 |qP=>exact ⟨ub,PySem.F.slot_str_lstrip,PySem.F.type_str_lstrip⟩
 |split=>exact ⟨ub,PySem.F.slot_str_split,PySem.F.type_str_split⟩
 |join=>exact ⟨ub,PySem.F.slot_str_join,PySem.F.type_str_join⟩
 |bits=>exact ⟨PySem.F.plainAttrs_int,PySem.F.slot_int_bit_length,PySem.F.type_int_bit_length⟩
theorem QAx (e:GB b v) (q:Vz D X z u v):z.s.TypeIs u (EI b)/\ ∀a,u≠ .ref a:=by
 have i:(∃i,v=.d (.int i))->z.s.TypeIs u "int" /\ ∀a,u≠ .ref a:=λ⟨i,e⟩=>by subst e;exact aV (Rd.dd q) λt g=>sb g<|⟨typeIs_int _ _ _,nofun⟩
 have s:(∃i,v=.d (.str i))->z.s.TypeIs u "str" /\ ∀a,u≠ .ref a:=λ⟨i,e⟩=>by subst e;exact aV (Rd.dM q) λt g=>sb g<|⟨typeIs_str _ _ _,nofun⟩
 induction b<;>first|exact s e|exact i e
structure MC (o:aP) (name:aG) (apos pos:bP) (xs:List aP):Prop where
 base: ∀env,wq o name env (b7 o env)=b7 o env
 pV: ∀env,((mM pos<|fI xs env).all (λx=> !x.1) && (Pq pos<|Pr [] env).all (λx=>x.1.isSome)
  && decide (xs.length+([]:List wu).length+(if ([]:List wu).isEmpty then 0 else 1)<30))=aB
 line:(apos.endLine==pos.line)=aB
theorem MC.pl (h:MC o name a pos xs) (env:cg):(mM pos<|fI xs env).any (·.1)=false:=by have H:=(f7.mp (f7.mp<|h.pV env).1).1;rw[List.any_eq_false];intro x M;have:=dq.mp H x M;simpa using this
theorem El {T id:String} {Kx:V->Ls->Prop} (m:MC x nm b pos xs) (p:Pp T) (sl:Slot T nm id) (F:Hy (.builtin id)=pure (.type "method_descriptor")) (M:Ev D C x l Kx) (K:FX D C X (aL l) z)
 (k: ∀v l,Kx v l-> ∀u Z,FX D C X (aL l) Z->Sx z Z->Vz D X Z u v->Z.s.TypeIs u T/\(∀a,u=.ref a-> ∃ob,Z.s.heap.get? a=aA ob/\ob.dict=aF)/\aO (aY D.prog D.w) X.A (sM<|mM pos<|fI xs X.env) (λus n=>aO (aY D.prog D.w) X.A (call (.builtin id)<|u::us) Q Er n) Er Z.s):
 aO (aY D.prog D.w) X.A (b7 (.Call (.Attribute x nm b) xs [] pos) X.env) Q Er z.s:=
 wx (m.base X.env) (m.pV X.env) m.line (M.run K λv l h u Z R i q=>by exact eN (k v l h u Z R i q) λt o H=>(tU T id p sl F t o<|wm (m.pl X.env)<|gG (m.pl X.env) H))
theorem P_ [H:dA D] (hn:nm=CY b) (hm:MC x nm ap pos xs) (M:aZ D C x a) (A:fu D C xs es):aZ D C (.Call (.Attribute x nm ap) xs [] pos) (.sm b a es):= @λO O h=>⟨λK k=>by
 subst hn;have q:=(ZI b);have p:=q.1;have sl:=q.2.1;have ty:=q.2.2;refine El hm p sl ty (M h) K λv l h u z R s1 q1=>?_;have h0:=h.1;have h:=h.2;have q:=(QAx h0 q1);have t1:=q.1;have t:=q.2
 exact ⟨t1,λa e=>QHZ e<|t a,(A h).run R λO O h us Z P s2 q2=>by
  clear hm p sl ty h0 t1
  induction h with|mk e g=>exact S7 e P (q1.mon s2) q2<|(k _ _ g).tr<|s1.trans s2⟩⟩
theorem Ui (hm:MC x "replace" ap pos [.Constant (.str Y) W p,.Constant (.str z) B P]) (n:(Y==z)=aE) (M:aZ D C x a):
 aZ D C (.Call (.Attribute x "replace" ap) [.Constant (.str Y) W p,.Constant (.str z) B P] [] pos) (.qU a Y z):=λh=>⟨λK k=>El hm ub PySem.F.slot_str_replace PySem.F.type_str_replace (M h) K λO O h u Z R s1 q1=>by
 induction Ol h with
 |mk e g=>
  clear h;subst e;refine jv g λi v L g=>aV (Rd.dM q1) λt' H=>sb H<|⟨typeIs_str _ _ _,nofun,spliced_cons<|Constant_str (k:=W) (pos:=p)<|spliced_cons<|Constant_str (k:=B) (pos:=P)<|spliced_nil ?_⟩
  have o:=R.t;refine wpAny_toks (SC.replace (λq=>QHZ (q:Z.s.toks=0)<|wV ‹_›) (λq=>QHZ (q:Z.s.toks+1=0)<|by (clear q;lia -abstractProof)) (λq=>QHZ (q:Z.s.toks=Z.s.toks+1)<|by (clear q;exact λK=>lA<|nR K)) n (by erw[L];(clear g;exact az ‹_› (gA _ _))) λt' tk l=>?_)
  exact ((k _ _ g).tr s1).same R (Rd.str _ _)<|az (mO _ 2) l⟩
theorem Ta:v8 D C aF .none:= @λO O h=>λK k=>Hz<|(k _ _ h).id K Rd.none
theorem QAD (h:aZ D C x a):v8 D C (aA x) a:=λe=>λK k=>wpAny_evalPart_some<|(h e).run K k
theorem UK {lo d st:Option aP} (s: ∀o i,∃ops,wg (.Slice lo d st p) aE o i=wh ops (wi o i)) (A:aZ D C x a) (hl:v8 D C lo U) (H:v8 D C d j) (hs:v8 D C st es):
 aZ D C (.Subscript x (.Slice lo d st p) pos) (.dJ a U j es):=λh=>⟨λK k=>Pm ((A h).run K λO O h p L R s1 q1=>wpAny_Slice (hl h R λO O h f N P s2 q2=>H h P λO O h p3 Z c s3 Y=>hs h c λO O h u z q s4 Q=>by
  induction h with|mk e g=>exact YN e q (q1.mon<|(s2.trans s3).trans s4) (q2.mon<|s3.trans s4) (Y.mon s4) Q s<|(k _ _ g).tr<|((s1.trans s2).trans s3).trans s4))⟩
end
theorem map_some {α β:Type} {x:Option α} {f:α->β} {b:β} (h:x.map f=aA b): ∃a,x=aA a/\f a=b:=lN.mp h
theorem Yj: ∀(names:List (aG×dQ)) (h:bK) (acc:List (aG×aM)) (x:aG) (c:aM),(jP h.objs.size names acc).lookup x=aA c->
 acc.lookup x=aA c/\(x,mP)∉names\/(h.objs.size<=c/\(kE h names).IsCell c aF/\(x,mP)∈names):=by
 intro O;induction O with
 |nil=>exact λh acc x c e=>.inl ⟨e,by simp⟩
 |cons O r i=>
  obtain ⟨n,k⟩:=O
  exact λh acc x c e=>by
   unfold jP at e;dsimp only[kE];by_cases K:(k==mP)=aB
   ·rw[if_pos K] at e⊢
    rw[beq_iff_eq] at K;erw[K];have hs:(h.push {cls:=.type "cell",data:=.cell aF}).objs.size=h.objs.size+1:=DA ..;rw[<-hs] at e;rcases i _ _ x c e with ⟨e1,e2⟩|⟨e1,e2,p⟩
    ·rw[iK] at e1
     by_cases M:(x==n)=aB
     ·rw[M] at e1
      clear hs;cases e1;rw[beq_iff_eq] at M;exact sb M<| .inr ⟨Nat.le_refl _,(show (h.push {cls:=.type "cell",data:=.cell none}).IsCell h.objs.size none from (ax _ (Heap.get?_push_size _ rfl) rfl)).keeps λb o e=>Pt _ _ b o e,.head _⟩
     ·rw[QEm] at M
      rw[M] at e1;refine .inl ⟨e1,λq=>?_⟩;refine cp (bp.mp q) (λq=>?_) λq=>?_
      ·clear e e1 e2
       cases q
       simp -iota at M
      ·exact e2 q
    ·exact .inr ⟨by exact aQ e1,e2,.tail _ p⟩
   ·rw[if_neg K] at e⊢
    rcases i _ _ x c e with ⟨e1,e2⟩|⟨e1,e2,p⟩
    ·refine .inl ⟨e1,λq=>?_⟩
     refine cp (bp.mp q) (λq=>?_) λq=>?_
     ·clear e e1 e2
      cases q
      exact K rfl
     ·exact e2 q
    ·exact .inr ⟨e1,e2,.tail _ p⟩
theorem Ag: ∀(names:List (aG×dQ)) (n:Nat) (acc:List (aG×aM)) (x:aG),((x,mP)∉names->(jP n names acc).lookup x=acc.lookup x)/\((x,mP)∈names\/(acc.lookup x).isSome->((jP n names acc).lookup x).isSome):=by
 intro O;induction O with
 |nil=>exact λn acc x=>⟨λO=>rfl,λh=>by simpa -iota [jP] using h⟩
 |cons O r d=>
  obtain ⟨m,k⟩:=O
  exact λn acc x=>by
   dsimp only[jP];by_cases K:(k==mP)=aB
   ·erw[if_pos K]
    rw[beq_iff_eq] at K;refine sb K<|bI (d (n+1) ((m,n)::acc) x) λi1 i=>⟨λq=>?_,λq=>i ?_⟩
    ·simp! only[i1 λz=>q<|.tail _ z,iK]
     have:(x==m)=false:=by
      by_cases e:x=m
      ·clear i1 i
       subst e;exact QHZ (.head _) q
      ·exact QHf e
     exact sb this rfl
    ·by_cases e:x=m
     ·exact .inr (by simp! only[iK,QHc.mpr e];rfl)
     ·rcases q with q|q
      ·rcases bp.mp q with q|q
       ·clear i1 i
        cases q
        exact QHZ rfl e
       ·exact .inl q
      ·exact .inr (by simp! only[iK,QHf e];exact q)
   ·refine sb (QHa K)<|bI (d n acc x) λi1 i=>⟨λq=>i1 λz=>q<|.tail _ z,λq=>i ?_⟩
    rcases q with q|q
    ·rcases bp.mp q with q|q
     ·clear i1 i
      cases q
      exact QHZ rfl K
     ·exact .inl q
    ·exact .inr q
set_option tactic.hygienic true in
theorem QCS: ∀(names:List (aG×dQ)) (n:Nat) (a:List (aG×aM)) (P:aG->aM->Prop),(∀y c,a.lookup y=aA c->c<n)->(∀x y c,a.lookup x=aA c->a.lookup y=aA c->x=y)->
 ∀x y c,(jP n names a).lookup x=aA c->(jP n names a).lookup y=aA c->x=y:=by
 intro O;induction O with
 |nil=>exact λn a P l i=>i
 |cons O r d=>
  obtain ⟨m,k⟩:=O
  exact λn a P l i=>by
   dsimp only[jP];by_cases K:(k==mP)=aB
   ·refine sb (QHb K)<|d (n+1) ((m,n)::a) P (λy c e=>?_) λx y c e u=>?_
    ·rw[iK] at e
     split at e
     ·cases e;exact uc _
     ·exact sP<|l y c e
    ·rw[iK] at e u
     split at e<;>split at u
     ·rename_i H _ h
      rw[beq_iff_eq] at H h;exact sb H<|sb h rfl
     ·cases e;exact QHZ (l y _ u)<|mK _
     ·cases u;exact QHZ (l x _ e)<|mK _
     ·exact i x y c e u
   ·exact sb (QHa K)<|d n a P l i
theorem CU {α:Type}: ∀{l:List (aG×α)} {n:aG} {c:α},(l.map (·.1)).Nodup->(n,c)∈l->l.lookup n=aA c:=by
 intro l;induction l with
 |nil=>exact λO h=>nomatch h
 |cons a r i=>
  exact @λn c N h=>by
   obtain ⟨k,v⟩:=a;simp only[gB,Pu] at N;rcases bp.mp h with e|h'
   ·clear h N i
    cases e
    simp only[iK,beq_self_eq_true]
   ·have:(n==k)=false:=by
     by_cases e:n=k
     ·clear h i
      subst e;exact QHZ (ij.mpr<|ax (n,c) h' rfl) N.1
     ·exact QHf e
    simp only[iK,this];exact i N.2 h'
theorem HL (names:List (aG×dQ)) (h:bK) (o:bH) (b:aM) (ob:bH) (e:h.get? b=aA ob):(kE (h.push o) names).get? b=aA ob:=Pt _ _ _ _<|gS _ e
theorem HP {P:vE} {G:bK} {C:Fc} {h:bK} {names:List (aG×dQ)} {cl:List (aG×aM)} {env:cg} {Ob W:aM->Prop} {φ:Nat->Option aM} {r:bQ} {T:aI}
 (aa:(names.map (·.1)).Nodup) (e1:env.locals=h.objs.size) (e2:env.cells=jP (h.objs.size+1) names cl) (ek:env.scope.kind=.function) (eK: ∀x,env.kindOf x=C.K x) (eg:env.globals=nO) (eb:env.builtins=ic) (B: ∀c q,C.cd=aA (c,q)->env.code=.ref c/\env.qual=q)
 (hl: ∀x i,C.K x=aA .local->C.cM x=aA i->r i=.unb)
 (hc: ∀x i,C.K x=aA .cell\/C.K x=aA .free->C.cM x=aA i->(names.lookup x=aA .cell/\r i=.unb)\/(names.lookup x=aA .free/\ ∃c v,cl.lookup x=aA c/\h.IsCell c v/\dZ P φ env.cells (Ex Ob W) h i v (r i)))
 (hs: ∀x,C.K x=aA .cell->C.rU x=aB->names.lookup x=aA .cell)
 (t: ∀x c,cl.lookup x=aA c-> ∃o,h.get? c=aA o) (U: ∀x y c,cl.lookup x=aA c->cl.lookup y=aA c->x=y)
 (base: ∀b o,G.get? b=aA o->h.get? b=aA o) (g: ∀b o,G.get? b=aA o-> ¬ Ex Ob W b)
 (own: ∀i xs,r i=.own xs-> ∃a vs n,φ i=aA a/\h.get? a=aA (listOf vs.toArray n)/\bB (Ex Ob W) h vs xs)
 (s:C.ow=aB-> ∀i xs a,r i=.own xs->φ i=aA a->i≠aT->W a) (F: ∀xs,r aT=.own xs->r bR=.emp-> ∀a,φ aT=aA a->W a) (H: ∀xs,r aT=.own xs->r bR≠ .emp-> ∀a,φ aT=aA a-> ¬ W a)
 (R:(∀xs,r aT≠ .own xs)->φ aT=aF) (inj: ∀i j a,φ i=aA a->φ j=aA a->i=j) (A: ∀i a,φ i=aA a-> ∃o,h.get? a=aA o) (l: ∀a,Ex Ob W a-> ∃o,h.get? a=aA o) (ab: ∀a,W a-> ¬ Ob a) (inv:P.Inv (Ex Ob W) h) (pf: ∀a,P.PF a->W a):
 FR P G C env Ob φ (λa=>W a\/(h.get? a=aF/\ ∃o,(kE (h.push {cls:=T,data:=.dict #[]}) names).get? a=aA o)) r (kE (h.push {cls:=T,data:=.dict #[]}) names):=by
 have Z: ∀b o,h.get? b=aA o->(kE (h.push {cls:=T,data:=.dict #[]}) names).get? b=aA o:=HL names h _
 have m:Mon (Ex Ob W) h (Ex Ob λa=>W a\/(h.get? a=aF/\ ∃o,(kE (h.push {cls:=T,data:=.dict #[]}) names).get? a=aA o)) (kE (h.push {cls:=T,data:=.dict #[]}) names):=
  λa o e n=>⟨Z a o e,λq=>by
   rcases q with q|q|⟨q,_⟩
   ·exact n<|.inl q
   ·exact n<|.inr q
   ·exact wD e q⟩
 have gk: ∀i v sl,dZ P φ env.cells (Ex Ob W) h i v sl->dZ P φ env.cells (Ex Ob λa=>W a\/(h.get? a=aF/\ ∃o,(kE (h.push {cls:=T,data:=.dict #[]}) names).get? a=aA o)) (kE (h.push {cls:=T,data:=.dict #[]}) names) i v sl:=by
  intro i v sl x;induction sl with
  |dz n=>exact iN x λa q e1 e2 e3 e4=>(jY a q e1 (m _ _ e2 e3).1 (m _ _ e2 e3).2 e4)
  |_=>exact x.mon m λn e=>by contradiction
 have N: ∀a,h.objs.size<=a->h.get? a=none:=λa ha=>ie ha;have hsz:(h.push {cls:=T,data:=.dict #[]}).objs.size=h.objs.size+1:=DA ..;have f:(kE (h.push {cls:=T,data:=.dict #[]}) names).Ns env.locals (λO=>aF):=sb e1<|(Heap.Ns.new h T).keeps λb o e=>Pt _ _ b o e
 have cell: ∀x c,env.cells.lookup x=aA c->(cl.lookup x=aA c/\(x,mP)∉names)\/(h.objs.size+1<=c/\(kE (h.push {cls:=T,data:=.dict #[]}) names).IsCell c aF/\(x,mP)∈names):=λx c e=>by rw[e2,<-hsz] at e;have:=Yj names _ cl x c e;rw[hsz] at this;exact this
 refine ⟨λb o e=>Z b o<|base b o e,λb o e q=>?_,ek,eK,eg,eb,B,(ax _ f (λx i a b=>by erw[hl x i a b];trivial)),.inr ⟨(by erw[e1];exact N _ (bh _):h.get? env.locals=aF),let ⟨o,_,_,q,_⟩:=f;⟨o,q⟩⟩,λx i a b=>?_,λx i c a b d e=>?_,λx y c e u=>?_,λi xs e=>?_,λcc i xs a e u n=>.inl<|s cc i xs a e u n,λxs e u a q=>.inl<|F xs e u a q,λxs e u a q w=>?_,R,inj,λi a e=>let ⟨o,q⟩:=A i a e;⟨o,Z _ _ q⟩,λa q=>?_,λa q Q=>?_,P.iU inv m λa p=>?_,λa p=>.inl<|pf a p⟩
 ·have:=g b o e
  rcases q with q|q|⟨q,_⟩
  ·exact this (.inl q)
  ·exact this (.inr q)
  ·exact wD (base b o e) q
 ·rcases hc x i a b with ⟨Y,L⟩|⟨Y,c,v,L,n3,n4⟩
  ·have M:=mem_of_lookup Y
   refine aV (mQ.mp<|(Ag names (h.objs.size+1) cl x).2<|.inl M) λc q=>?_;rw[<-e2] at q;rcases cell x c q with ⟨_,Q⟩|⟨_,Q,_⟩
   ·exact QHZ M Q
   ·exact (cz c aF q Q (by erw[L];trivial))
  ·have M:(x,mP)∉names:=λz=>by rw[CU aa z] at Y;contradiction
   have q:=(Ag names (h.objs.size+1) cl x).1 M;rw[<-e2] at q;exact (cz c v (q.trans L) (n3.keeps Z)<|gk _ _ _ n4)
 ·have Y:=hs x a b
  rcases cell x c e with ⟨_,Q⟩|⟨q,⟨o,Q,_⟩,_⟩
  ·exact QHZ (mem_of_lookup Y) Q
  ·exact .inr ⟨N _<|H0 q,o,Q⟩
 ·rw[e2] at e u
  exact QCS names (h.objs.size+1) cl (λO O=>True) (λy c e=>by refine aV (t y c e) λo q=>?_;exact sP<|kh q) U x y c e u
 ·exact dU (own i xs e) λa vs n q1 q2 q3=>(la a vs n q1 (Z _ _ q2)<|q3.mon m)
 ·rcases w with w|⟨w,_⟩
  ·exact H xs e u a q w
  ·exact aV (A _ _ q) λo z=>wD z w
 ·rcases q with q|q|⟨_,q⟩
  ·exact aV (l a<|.inl q) λo z=>⟨o,Z _ _ z⟩
  ·exact aV (l a<|.inr q) λo z=>⟨o,Z _ _ z⟩
  ·exact q
 ·rcases q with q|⟨q,_⟩
  ·exact ab a q Q
  ·refine aV (l a<|.inl Q) λo z=>?_
   rw[z] at q;exact qO q
 ·exact cQ (P.iS inv p) λo vs e O=>sb e<|Z a o e
theorem Lg {M:DB} {A:cV} {E:aI->aN->Prop} {s:aN} {scope:jQ} {globals:aM} {cl:List (aG×aM)} {binds:List (aG×aI)} {qual:aG} {f:Option aM} {code:aI} {a:Option cg} {builtins:aM} {Q:cg->aN->Prop}
 (h: ∀env,env=H2 scope s.heap.objs.size globals (jP (s.heap.objs.size+1) scope.names cl) qual f code a builtins->
  aO M A (forIn binds lQ λx O=>do Ct env x.1 x.2;pure (oz lQ)) (λO n=>Q env n) E {s with heap:=kE (s.heap.push {cls:=.type<|if a.isSome then "dict" else "frame",data:=.dict #[]}) scope.names}):
 aO M A (H3 scope globals cl binds qual f code a builtins) Q E s:=by
 dsimp only[H3];refine aR<|H4 ?_;refine aR (wpAny_layCells _ (λN v c=>by cases K:v==mP<;>(rfl)) _ _ _ _ ?_);erw[DA ..];have:=h _ rfl;clear h;induction a with
 |none=>exact aR<|eY this (λO n H=>bA H) λO O x=>x
 |some o=>exact aR<|eY this (λO n H=>bA H) λO O x=>x
noncomputable def nv:Str:= ".0"
theorem vz {α:Type}: ∀{l:List (aG×α)} {x:aG} {k:α},l.lookup x=aA k->l.findIdx (·.1==x)<l.length/\ ∃p,l[l.findIdx (·.1==x)]?=aA p/\p.1=x:=by
 intro l;induction l with
 |nil=>exact λh=>nomatch h
 |cons a r d=>
  exact @λx k h=>by
   obtain ⟨n,v⟩:=a
   simp! only[iK] at h
   by_cases e:x=n
   ·erw[e]
    simp -iota [QEn]
   ·have e1:=QHf e
    simp! only[e1] at h
    have H:=(d h);have i1:=H.1;have m:=H.2;refine aS m λp i u=>?_
    simp! only[QEn,(QHf λq=>e q.symm)]
    exact ⟨by simpa -iota using i1,p,by simpa -iota using i,u⟩
noncomputable def j3 (k:dQ):Bool:=k==.local||k==.cell
noncomputable def Fc.sub (C:Fc) (names:List (aG×dQ)) (r own:Bool) (hb:C.bd+200<=1000000/\names.length<=200):Fc where
 K x:=(names.lookup x).map λk=>if r && k==.free && C.K x==aA .cell then .cell else k
 cM x:=match names.lookup x with
  |some k=>if j3 k then (if x==nv then aF else aA (C.bd+names.findIdx (·.1==x))) else if k==.free then C.cM x else aF
  |none=>aF
 rU x:=match names.lookup x with|some k=>j3 k|none=>aE
 inj:=by
  intro x y i A H;induction M:names.lookup x with
  |none=>rw[M] at A;exact ay A
  |some k=>
   induction hy:names.lookup y with
   |none=>rw[hy] at H;exact ay H
   |some R=>
    rw[M] at A;rw[hy] at H;dsimp only at A H;have B: ∀{z:aG} {kz:dQ},(if z==nv then aF else aA (C.bd+names.findIdx (·.1==z)))=aA i->C.bd<=i:=λh=>by split at h<;>cases h;exact mO _ _
    split at A<;>split at H
    ·split at A
     ·exact ay A
     ·split at H
      ·exact ay H
      ·have:names.findIdx (·.1==x)=names.findIdx (·.1==y):=by
        have a:=kC A;have b:=kC H;clear H A;exact rJ a b.symm
       have g:=(vz M);have o:=g.2;refine aS o λp v n=>?_;have N:=(vz hy);have Y:=N.2;refine aS Y λq u m=>?_
       simp! only[this,u] at v
       clear u;cases v
       simp! only[<-n,<-m]
    ·split at H
     ·exact QHZ (B (kz:=k) A)<|H5<|C.rD _ _ H
     ·exact ay H
    ·split at A
     ·exact QHZ (B (kz:=k) H)<|H5<|C.rD _ _ A
     ·exact ay A
    ·split at A
     ·split at H
      ·exact C.inj x y i A H
      ·exact ay H
     ·exact ay A
 bd:=C.bd+200
 rD:=by
  intro x i h;induction M:names.lookup x with
  |none=>rw[M] at h;exact ay h
  |some k=>
   rw[M] at h;dsimp only at h
   split at h
   ·split at h
    ·exact ay h
    ·have:=(vz M).1
     have a:=kC h;have:=hb.2;clear h hb;exact (bD (na (nR a) ‹List.findIdx (λe=>e.fst==x) names<names.length›) this)
   ·split at h
    ·exact mJ (C.rD _ _ h)<|mO _ _
    ·exact ay h
 Cg:=hb.1
 ow:=own
 nw:=aE
 hn:=aE
 cd:=aF
noncomputable def clOf (cells:List (aG×aM)):List (aG×dQ)->List (aG×aM)->List (aG×aM)
 |[],acc=>acc
 |(n,k)::r,acc=>clOf cells r<|if k==.free then (n,(cells.lookup n).getD 0)::acc else acc
theorem Ab {cells:List (aG×aM)} {acc}:clOf cells [] acc=acc:=rfl
theorem Aw {cells:List (aG×aM)} {n k r acc}:clOf cells ((n,k)::r) acc=clOf cells r (if k==.free then (n,(cells.lookup n).getD 0)::acc else acc):=rfl
theorem LM {scope:jQ} {env:cg} (h: ∀x∈scope.names,x.2=.free->(env.cells.lookup x.1).isSome=aB):closureFor scope env=pure (clOf env.cells scope.names []):=by
 have v: ∀(names:List (aG×dQ)) (a:List (aG×aM)),(∀x∈names,x.2=.free->(env.cells.lookup x.1).isSome=aB)->
  (forIn names a λ(x:aG×dQ) r=>if (x.2==o3)=aB then do let y<-cellOf env x.1;pure (oz<|(x.1,y)::r) else pure (oz r))=pure (clOf env.cells names a):=by
  intro names;induction names with
  |nil=>intro a _;rfl
  |cons x names i=>
   intro a h;obtain ⟨n,k⟩:=x
   simp! only[ud,Ab,Aw]
   by_cases K:(k==o3)=aB
   ·refine aV (mQ.mp<|h (n,k) (.head _)<|QHc.mp K) λc C=>?_
    have:cellOf env n=pure c:=by dsimp only[cellOf];exact sb C rfl
    simp! only[K,if_true,this,C,QEo]
    exact i _ λy Y=>h y<|.tail _ Y
   ·simp! only[K,if_false,wy]
    exact i _ λy Y=>h y<|.tail _ Y
 dsimp only[closureFor];have:=v scope.names [] h
 simp! only[bind_pure]
 exact this
theorem yt {cells:List (aG×aM)}: ∀(names:List (aG×dQ)) (acc:List (aG×aM)),(∀x∈names,x.2=.free->(cells.lookup x.1).isSome=aB)->(∀y c,acc.lookup y=aA c->cells.lookup y=aA c)->
 (∀y c,(clOf cells names acc).lookup y=aA c->cells.lookup y=aA c)/\ ∀y,((y,o3)∈names\/(acc.lookup y).isSome=aB)↔((clOf cells names acc).lookup y).isSome=true:=by
 intro O;induction O with
 |nil=>exact λacc O a=>⟨a,λy=>by simp -iota [Ab,Aw]⟩
 |cons O r d=>
  obtain ⟨n,k⟩:=O
  exact λacc h a=>by
   have R: ∀x∈r,x.2=.free->(cells.lookup x.1).isSome=true:=λx M=>h x<|.tail _ M;dsimp only[Ab,Aw];by_cases K:(k==o3)=aB
   ·refine sb (QHb K)<|aV (Option.isSome_iff_exists.mp<|h (n,k) (.head _)<|beq_iff_eq.mp K) λc C=>?_
    simp! only[C,QEo]
    refine bI (d ((n,c)::acc) R λy g e=>by
     rw[iK] at e;by_cases q:y=n
     ·clear h
      subst q;rw[beq_self_eq_true] at e;cases e;exact C
     ·rw[beq_false_of_ne q] at e
      exact a y g e) λi1 i=>?_
    refine ⟨i1,λy=>Iff.trans ⟨λq=>?_,λq=>?_⟩<|i y⟩
    ·by_cases z:y=n
     ·exact sb z<| .inr (by simp! only[List.lookup_cons,beq_self_eq_true];rfl)
     ·rcases q with q|q
      ·rcases bp.mp q with q|q
       ·clear h K C i1 i
        cases q
        exact QHZ rfl z
       ·exact .inl q
      ·exact .inr (by simp! only[iK,QHf z];exact q)
    ·by_cases z:y=n
     ·exact sb z<| .inl (by erw[beq_iff_eq.mp K];exact .head _)
     ·rcases q with q|q
      ·exact .inl<|.tail _ q
      ·simp! only[iK,QHf z] at q
       exact .inr q
   ·refine sb (QHa K)<|bI (d acc R a) λi1 i=>⟨i1,λy=>Iff.trans ⟨λq=>?_,λq=>q.imp (.tail _) id⟩<|i y⟩
    rcases q with q|q
    ·rcases bp.mp q with q|q
     ·clear h
      cases q
      exact QHZ rfl K
     ·exact .inl q
    ·exact .inr q
theorem Rn {env:cg} {C:Fc} (s:env.scope.kind=.function) (W: ∀x,env.kindOf x=C.K x): ∀(names:List (aG×dQ)) (x:aG),
 (names.map λ(n,k)=>if (k==o3 && env.scope.kind==.function && env.kindOf n==aA .cell) then (n,mP) else (n,k)).lookup x=(names.lookup x).map λk=>if aB && k==.free && C.K x==aA .cell then .cell else k:=by
 intro O;induction O with
 |nil=>exact λx=>rfl
 |cons O r i=>
  obtain ⟨n,k⟩:=O
  exact λx=>by
   have i:=i x;refine sb gB<|sb (List.lookup_cons (b:=k)) ?_
   have step: ∀(p:aG×dQ) (l:List (aG×dQ)),p.1≠x->QEp x (p::l)=QEp x l:=λp l P=>by obtain ⟨F,Q⟩:=p;exact sb iK<|sb (beq_false_of_ne<|Ne.symm P) rfl
   by_cases e:x=n
   ·subst e
    have:((if (k==o3 && env.scope.kind==.function && env.kindOf x==aA .cell) then (x,mP) else (x,k)))=(x,if aB && k==.free && C.K x==aA .cell then .cell else k):=by
     refine sb s<|sb (W x) ?_
     have:(ScopeKind.function==ScopeKind.function)=true:=rfl
     simp! only[this,Pw,Cv]
     split<;>rfl
    dsimp only;rw[this,iK,beq_self_eq_true];rfl
   ·have h:=QHf e
    exact sb (step _ _ (by dsimp only;split<;>exact λq=>e q.symm))<|sb i<|sb h rfl
structure jV (C:Fc) (env:cg) (φ:Nat->Option aM) (I:aM):Prop where
 p: ∀i,φ i≠aA I
 l:env.locals≠I
 c: ∀x i c,(C.K x=aA .cell\/C.K x=aA .free)->C.cM x=aA i->env.cells.lookup x=aA c->c≠I
section
variable {Ob Ob₁ Ob₂ Z W W':aM->Prop} {φ φ':Nat->Option aM} {r:bQ} {h h':bK}
theorem FR.BH (F:FR P G C env Ob φ W r h) {I:aM} (e:h.get? I=aF):jV C env φ I:=by
 refine ⟨λi q=>?_,λq=>?_,λx i c a b q z=>?_⟩
 ·exact aV (F.j5 i I q) λo w=>cb e w
 ·refine aS F.loc λm R O=>oI R λo O O w O=>?_
  simp! only[q,e] at w
  exact ay w
 ·refine bf (F.gr x i a b) λg v w Q O=>aS Q λo d O=>?_
  rw[q] at w;clear q Q;cases w;rw[z,e] at d;exact ay d
theorem jV.not (nf: ∀a,Z a->jV C env φ a) {a:aM} (q:Kn C env φ a): ¬ Z a:=λz=>q.elim (λq=>q.elim λi e=>(nf a z).p i e) λq=>bf q λx i k t e=>(nf a z).c x i a k t e rfl
theorem FR.Fq (F:FR P G C env Ob₁ φ W r h) (u: ∀a,Z a->Ob₁ a) (nf: ∀a,Z a->jV C env φ a) (k: ∀a o,h.get? a=aA o-> ¬ Z a-> ¬ P.PF a->h'.get? a=aA o) (L: ∀a,Ob₂ a->(Ob₁ a\/h.get? a=aF)/\ ∃o,h'.get? a=aA o) (i:P.Inv (Ex Ob₂ W) h'):
 FR P G C env Ob₂ φ W r h'/\Mon (Ex Ob₁ W) h (Ex Ob₂ W) h':=by
 have m:Mon (Ex Ob₁ W) h (Ex Ob₂ W) h':=λa o e n=>⟨k a o e (λq=>n<|.inl<|u a q) λq=>n<|.inr<|F.pf a q,λq=>n<|q.imp (λq=>(L a q).1.resolve_right λz=>cb z e) id⟩;refine ⟨F.chg m (λa o e s f=>k a o e (jV.not nf f)<|F.np e s.nf) (λm n=>E7 n λo e d=>k _ o e (λz=>(nf _ z).l rfl)<|F.np e d) (λa q=>?_) (λa w q=>?_) i,m⟩
 ·rcases q with q|q|q
  ·exact F.Ez k i (jV.not nf<|.inl q)<|F.al<|.inl q
  ·exact (L a q).2
  ·exact F.Ez k i (λz=>F.dT a q<|u a z)<|F.dj a<|.inr q
 ·exact (L a q).1.elim (F.dT a w) λz=>aV (F.dj a<|.inr w) λO e=>cb z e
theorem FR.move (F:FR P G C env Ob₁ φ W r h) (u: ∀a,Z a->Ob₁ a) (nf: ∀a,Z a->jV C env φ a) (k: ∀a o,h.get? a=aA o-> ¬ Z a->h'.get? a=aA o) (L: ∀a,Ob₂ a->(Ob₁ a\/h.get? a=aF)/\ ∃o,h'.get? a=aA o):
 FR P G C env Ob₂ φ W r h'/\Mon (Ex Ob₁ W) h (Ex Ob₂ W) h':=
 F.Fq u nf (λa o e z O=>k a o e z) L (P.iU F.inv (λa o e n=>⟨k a o e λq=>n<|.inl<|u a q,λq=>n<|q.imp (λq=>(L a q).1.resolve_right λz=>cb z e) id⟩)<|F.tB λa o O e O p=>k a o e λz=>F.dT a (F.pf a p)<|u a z)
theorem FR.Um (o:List Nat) (d: ∀i∈o,i≠bR/\i≠aT): ∀{r:bQ},FR P G C env Ob φ W r h->FR P G C env Ob φ W (o.foldl (λr i=>upd r i .unb) r) h:=by
 induction o with
 |nil=>intro r F;exact F
 |cons i o e=>intro r F;exact e (λj s=>d j<|.tail _ s)<|F.forget i (d i<|.head _).1 (d i<|.head _).2
end
noncomputable def j8 (t:cS):List Nat:=match t with
 |.one i=>[i]
 |.tup o=>o
theorem wJ (t:cS) (r:bQ):fc t r=(j8 t).foldl (λr i=>upd r i .unb) r:=by induction t<;>rfl
theorem xp: ∀(o:List Nat) (r:bQ) (j:Nat),(o.foldl (λr i=>upd r i .unb) r) j=if j∈o then .unb else r j:=by
 intro O;induction O with
 |nil=>exact λr j=>by rfl
 |cons i o d=>
  exact λr j=>by
   simp! only[ot,d]
   by_cases h:j∈o
   ·simp -iota [h]
   ·by_cases H:j=i
    ·subst H
     simp -iota [upd]
    ·simp -iota [h,H,upd]
theorem YL: ∀(ps:List (Nat×aK)) (r:bQ) (j:Nat),j∉ps.map (·.1)->(ps.foldl (λr p=>upd r p.1<|.val p.2) r) j=r j:=by
 intro O;induction O with
 |nil=>exact λr j O=>rfl
 |cons p ps i=>
  exact λr j h=>by
   refine sb ot<|sb (i _ j λq=>h (by rw[gB];exact .tail _ q)) ?_
   unfold upd;rw[if_neg λq=>h (by rw[gB,q];exact .head _)]
theorem Sb {t:cS} {x:aK} {r r':bQ} (e:nh t x r=aA r'):fc t r'=fc t r:=by
 funext j;simp only[wJ,wJ,xp,xp];by_cases s:j∈j8 t
 ·simp only[if_pos s,if_pos s]
 ·simp only[if_neg s,if_neg s]
  induction t with
  |one i=>
   cases e
   unfold upd;rw[if_neg];intro q;exact s (by simp[j8,q])
  |tup is=>
   have K: ∀xs:List aK,(if xs.length=is.length then aA ((is.zip xs).foldl (λr p=>upd r p.1<|.val p.2) r) else aF)=aA r'->r' j=r j:=λxs e=>by
    split at e
    ·cases e
     exact YL _ _ _ λq=>s<|aS (List.mem_map.mp q) λp q1 q2=>cx q2<|(List.of_mem_zip q1).1
    ·exact ay e
   unfold nh at e;cases x<;>dsimp only at e<;>first|exact K _ e|(exact ay e)
section
theorem QCr {M:DB} {A:cV} {s:aN} {env:cg} {Q:Bool->aN->Prop} {E:aI->aN->Prop} (h:Q aE s): ∀xs:List aP,
 aO M A (forIn xs aE λc r=>if r=aB then do let o<-zi c env (b7 c env);pure (oz o) else pure (oz r)) Q E s:=by
 intro O;induction O with
 |nil=>exact by simp! only[zj];exact bA h
 |cons x xs i=>
  exact by
   simp! only[ud]
   skip
   exact aR<|bA<|i
end
section
variable {C:Fc}
structure mw (C:Fc) (scope:jQ) (t:cS) (target iter:aP):Prop where
 nd:(scope.names.map (·.1)).Nodup
 kind:scope.kind=.function
 free: ∀x∈scope.names,x.2=.free->(C.cM x.1).isSome=aB/\(C.K x.1=aA .cell\/C.K x.1=aA .free)
 tid: ∀x∈scope.names,j3 x.2=aB->(x.1==nv)=aE->(C.bd+scope.names.findIdx (·.1==x.1))∈j8 t
 xW: ∀i∈j8 t,C.bd<=i/\i<1000000
 fold: ∀env x,H6 iter env x=pure x
theorem n9 {names:List (aG×dQ)} {r own:Bool} {hb:C.bd+200<=1000000/\names.length<=200} {x:aG} {k:dQ} (h:(C.sub names r own hb).K x=aA k):
 (names.lookup x=aA k)\/(k=.cell/\names.lookup x=aA .free/\C.K x=aA .cell/\r=aB):=by
 refine aS (map_some h) λb u e=>?_
 split at e
 ·rename_i c
  simp! only[gn,QHc] at c
  exact .inr (lK e.symm (by (erw[u];exact sb c.1.2 rfl)) c.2 c.1.1)
 ·exact cx e<| .inl u
end
noncomputable def Fx.add (X:Fx) (I:aM):Fx:={X with Ob:=λa=>X.Ob a\/a=I}
noncomputable def wR:List String:=["enumerate","zip","dict_itemiterator","dict_reverseitemiterator","odict_iterator","itertools.zip_longest","itertools.pairwise"]
structure It (D:Wd) (C:Fc) (X:Fx) (r:bQ) (z z':Zs) (fl:Bool) (xs:List aK) (J:aM) (fp:List aM) (P:Nat->aI->Prop) (St:Nat->bK->Prop):Prop where
 F:FX D C (X.add J) r z'
 nJ: ¬ Ex X.Ob z'.W J
 nf:jV C X.env z'.φ J
 sx:Sx z z'
 new: ∀a o,z.s.heap.get? a=aA o-> ¬ z.W a->a≠J
 walk:sQ D.prog D.w X.A J fp [J] xs.length P St
 st:St 0 z'.s.heap
 alive: ∀i h,St i h-> ∃o T,h.get? J=aA o/\o.cls=.type T/\wR.contains T=aE
 nq: ∀b∈fp,∃o,z'.s.heap.get? b=aA o
 Kt:fl=aB-> ∀b∈fp,b≠J-> ¬ z'.W b
 Np: ∀b∈fp, ¬ D.P.PF b
 items: ∀i v,P i v-> ∃d,xs[i]?=aA d/\Rz (X.add J) z' v d
noncomputable def KI (D:Wd) (C:Fc) (X:Fx) (r:bQ) (z:Zs) (fl:Bool) (xs:List aK) (Q:aI->aN->Prop):Prop:= ∀Z J f P St,It D C X r z Z fl xs J f P St->Q (.ref J) Z.s
noncomputable def KIw (D:Wd) (C:Fc) (X:Fx) (z:Zs) (fl:Bool) (K:List aK->Ls->Prop) (Q:aI->aN->Prop):Prop:= ∀x l,K x l->KI D C X (aL l) z fl x Q
noncomputable def hZ (D:Wd) (C:Fc) (fl:Bool) (x:aP) (i:I):Prop:= ∀{l K},i D.o fl l K-> ∀{X:Fx} {z:Zs} {Q:aI->aN->Prop} {Er:aI->aN->Prop},FX D C X (aL l) z->KIw D C X z fl K Q->
 aO (aY D.prog D.w) X.A (b7 x X.env) (λu N=>aO (aY D.prog D.w) X.A (zl u) Q Er N) Er z.s
noncomputable def mx (D:Wd) (C:Fc) (x:aP) (t:cS):Prop:= ∀{d r R},nh t d r=aA R-> ∀{X:Fx} {z:Zs} {v:aI} {Q:Unit->aN->Prop} {Er:aI->aN->Prop},FX D C X r z->Rz X z v d->
 (∀Z,FX D C X R Z->Sx z Z->Z.W=z.W->Q () Z.s)->aO (aY D.prog D.w) X.A (mR x X.env v) Q Er z.s
structure lF (C:Fc) (nm:aG) (i:Nat):Prop where
 t:C.cM nm=aA i
 s:C.rU nm=aB
 k:C.K nm=aA .local\/C.K nm=aA .cell
noncomputable def cw (C:Fc) (nm:aG) (i:Nat):Bool:=(C.cM nm==aA i) && C.rU nm && (match C.K nm with|some .local=>aB|some .cell=>aB|_=>aE)
theorem fy (h:cw C nm i=aB):lF C nm i:=by
 refine bI (f7.mp h) λh H=>bI (f7.mp h) λA m=>⟨QHc.mp A,m,?_⟩;generalize C.K nm=k at H
 match k,H with
 |some .local,_=>exact .inl rfl
 |some .cell,_=>exact .inr rfl
theorem Fc.nA (C:Fc) (h:C.cM nm=aA i):i≠bR/\i≠aT:=by have l:=C.low nm i h;exact ⟨λq=>by rw[q] at l;exact QHZ l (by decide),λq=>by rw[q] at l;exact QHZ l<|by decide⟩
section
variable {fl:Bool}
theorem Sx.fresh {J:aM} (s:Sx z z') (e:z.s.heap.get? a=aA o) (n: ¬ z.W a):z'.s.heap.get? a=aA o/\ ¬ z'.W a:=⟨s.st.keep a o e n,λq=>(s.st.grow a q).elim n λq=>by rw[e] at q;exact qO q⟩
theorem It.tr {J fp P St} (i:It D C X r z' z'' fl xs J fp P St) (s:Sx z z'):It D C X r z z'' fl xs J fp P St:=⟨i.F,i.nJ,i.nf,s.trans i.sx,λa o e n=>i.new a o (s.fresh (J:=J) e n).1 (s.fresh (J:=J) e n).2,i.walk,i.st,i.alive,i.nq,i.Kt,i.Np,i.items⟩
theorem KI.tr (k:KI D C X r z fl xs Q) (s:Sx z z'):KI D C X r z' fl xs Q:=λO O O O O i=>k _ _ _ _ _<|i.tr s
theorem yB (o:lF C nm i) (K:FX D C X r z) (q:Rz X z v d) (k: ∀z',FX D C X (upd r i<|.val d) z'->Sx z z'->z'.W=z.W->Q () z'.s):aO (aY D.prog D.w) X.A (Ct X.env nm v) Q Er z.s:=bI (C.nA o.t) λa h=>wpAny_toks ((K.F.forget i a h).store o.t o.s o.k (sl:=.val d) (λH O m=>(ax v rfl (Rd.mon q m))) (λx e=>by contradiction) λH Z F S l=>k (z.to H Z) ⟨F,K.R,az K.t l⟩ ⟨S,l,rfl,rfl⟩ rfl)
theorem GW (o:lF C nm i):mx D C (.Name nm pos) (.one i):=λe=>λK q k=>by
 cases e
 exact uf<|yB o K q k
theorem vc {ob:bH} {St:Nat->bK->Prop} (K:FX D C X r z) (M:ob.isFreed=aE) (N: ∀b∈fp,b=z.s.heap.objs.size\/((∃o,z.s.heap.get? b=aA o)/\ ¬ D.P.PF b/\(fl=aB-> ¬ z.W b)))
 (len:n=xs.length) (H:sQ D.prog D.w X.A z.s.heap.objs.size fp [z.s.heap.objs.size] n P St) (st:St 0 (z.s.heap.push ob)) (x: ∀i h,St i h-> ∃o T,h.get? z.s.heap.objs.size=aA o/\o.cls=.type T/\wR.contains T=aE) (items: ∀i v,P i v-> ∃d,xs[i]?=aA d/\Rz X z v d) (k:KI D C X r z fl xs Q):
 Q (.ref z.s.heap.objs.size) {z.s with heap:=z.s.heap.push ob}:=by
 have u:z.s.heap.get? z.s.heap.objs.size=none:=ie<|bh _;have Z: ∀b o,z.s.heap.get? b=aA o->(z.s.heap.push ob).get? b=aA o:=λO O e=>gS _ e;have Y: ∀b o,z.s.heap.get? b=aA o->b≠z.s.heap.objs.size:=λb o e q=>by simp only[q,u] at e;exact ay e
 subst len;refine k (z.to (z.s.heap.push ob) z.s.toks) _ _ _ _ ⟨⟨K.F.apart Z u ⟨_,fH _ M⟩,K.R,K.t⟩,K.F.tN,K.F.BH u,.kl K (.push ob)<|bh _,λa o e O=>Y a o e,H,st,x,λb B=>?_,λf b B n=>?_,λb B=>?_,λi v e=>?_⟩
 ·rcases N b B with rfl|⟨⟨o,e⟩,_⟩
  ·exact ⟨_,fH _ M⟩
  ·exact ⟨o,Z b o e⟩
 ·exact ((N b B).resolve_left n).2.2 f
 ·rcases N b B with rfl|⟨_,q,_⟩
  ·exact λp=>K.F.tN<|.inr<|K.F.pf _ p
  ·exact q
 ·exact aS (items i v e) λd L j=>(ax d L<|Rd.mon j λb o e n=>⟨Z b o e,λq=>q.elim (λq=>q.elim (λq=>n<|.inl q)<|Y b o e) λq=>n<|.inr q⟩)
theorem GO (K:FX D C X r z) (e:z.s.heap.get? a=aA o) (h: ∀vs,o.data≠ .fields vs): ¬ D.P.PF a:=λp=>by refine cQ (D.P.iS K.F.inv p) λH v q d=>?_;obtain rfl:=bM e q;exact h _ d
theorem GJ {vs:List aI} (q:iV X z vs xs) {i:Nat} (e:vs.toArray[i]?=aA v): ∃d,xs[i]?=aA d/\Rz X z v d:=by
 rw[zc] at e;have t:i<xs.length:=by erw[<-q.len];exact (zZ.mp e).1
 refine aS (q.get<|sR t) λF u p=>?_;obtain rfl:=bM e u;exact (ax _ (sR t) p)
theorem Ei {P:aM->Prop} (H:P p) (h:P q): ∀b∈[p,q],P b:=λb B=>by
 cases B with
 |head=>exact H
 |tail _ B=>cases B with|head=>exact h|tail _ B=>contradiction
theorem Lu {a:aM} {vs:List aI} {n:Nat} (K:FX D C X r z) (e:z.s.heap.get? a=aA (listOf vs.toArray n)) (q:iV X z vs xs) (t:fl=aB-> ¬ z.W a) (k:KI D C X r z fl xs Q):aO (aY D.prog D.w) X.A (zl<|.ref a) Q Er z.s:=by
 exact QEq (gN e) (vc K rfl (Ei (.inl rfl)<|.inr ⟨⟨_,e⟩,GO K e λO=>nofun,t⟩) (by simp only[gm,q.len]:vs.toArray.size=xs.length) (Walks.list K.R.1 z.s.heap.objs.size a (λq=>by simp only[q,ie<|bh _] at e;exact ay e) vs.toArray) ⟨(gd _ (fH _ rfl) rfl rfl),(gN e).push _⟩
  (λi h q=>q.1.elim λo q=>cz o _ q.1 q.2.1<|by decide) (λi v e=>GJ q e) k)
theorem o_ {a:aM} {vs:List aI} {n:Nat} (K:FX D C X r z) (e:z.s.heap.get? a=aA {cls:=.type "tuple",data:=.seq vs.toArray n}) (q:iV X z vs xs) (t:fl=aB-> ¬ z.W a) (k:KI D C X r z fl xs Q):aO (aY D.prog D.w) X.A (zl<|.ref a) Q Er z.s:=by
 exact wpAny_pyIter_tuple ⟨_,e,rfl,_,rfl⟩ (vc K rfl (Ei (.inl rfl)<|.inr ⟨⟨_,e⟩,GO K e λO=>nofun,t⟩) (by simp only[gm,q.len]:vs.toArray.size=xs.length) (Walks.tuple K.R.1 z.s.heap.objs.size a (λq=>by simp only[q,ie<|bh _] at e;exact ay e) vs.toArray) ⟨(gd _ (fH _ rfl) rfl rfl),⟨_,gS _ e,rfl,_,rfl⟩⟩
  (λi h q=>q.1.elim λo q=>cz o _ q.1 q.2.1<|by decide) (λi v e=>GJ q e) k)
theorem E1 {P:aM->Prop} (h:P p): ∀b∈[p],P b:=λb B=>by
 cases B with
 |head=>exact h
 |tail _ B=>exact nomatch B
theorem VT {t:fG} (K:FX D C X r z) (k:KI D C X r z fl (mq x) Q):aO (aY D.prog D.w) X.A (zl<|.str x t) Q Er z.s:=by
 have l:x.cps.size=(mq x).length:=by simp[mq]
 have a: ∀i v,SignAt x i v-> ∃d,(mq x)[i]?=aA d/\Rz X z v d:=λi v q=>q.elim λc q=>q.elim λu q=>ax (.str ⟨#[c]⟩) (by simp[mq,q.1])<|q.2▸Rd.str _ _;cases H:x.cps.all (· <128)
 ·exact wpAny_pyIter_wide H (vc K rfl (E1<|.inl rfl) l (Walks.strWide K.R.1 _ x t) (gd _ (fH _ rfl) rfl rfl) (λi h q=>q.elim λo q=>cz o _ q.1 q.2.1<|by decide) a k)
 ·exact wpAny_pyIter_ascii H (vc K rfl (E1<|.inl rfl) l (Walks.strAscii K.R.1 _ x t) (gd _ (fH _ rfl) rfl rfl) (λi h q=>q.elim λo q=>cz o _ q.1 q.2.1<|by decide) a k)
theorem KO {m n:Int} (K:FX D C X r z) (q:IsRange z.s.heap g m n 1 t u v) (M: -(2^24)<m/\m<2^24/\ -(2^24)<n/\n<2^24) (k:KI D C X r z fl ((bg (n - m).toNat).map λ(i:Nat)=>cB<|m+(i:Int)) Q):aO (aY D.prog D.w) X.A (zl<|.ref g) Q Er z.s:=by
 refine wpAny_pyIter_range q (small_one (bE M.1) (bE M.2.1) (bE M.2.2.1)<|bE M.2.2.2)<|sb (by rw[rangeSize_one];split<;>lia -abstractProof:Builtin.Range.rangeSize m n 1=((n - m).toNat))<|vc (St:=λi h=>IsRangeIter h z.s.heap.objs.size (m+(i:Nat)*1) (((n - m).toNat) - (i:Nat)) 1) K rfl (E1<|.inl rfl) (by simp:(n - m).toNat=((bg (n - m).toNat).map λ(i:Nat)=>cB<|m+(i:Int)).length) ((Walks.range (prog:=D.prog) (w:=D.w) K.R.1 z.s.heap.objs.size m 1 (n - m).toNat).bound) ?_ (λi h z=>(cz _ _ z rfl (by decide))) (λi v ⟨d,U,e⟩=>(ax (.int<|m+(i:Int)) (by simp[d]) ?_)) k
 ·show IsRangeIter _ _ _ _ _
  simpa using fH z.s.heap rfl
 ·simp only[e,ug]
  exact Rd.int _ _
theorem BC (K:FX D C X r z) (P:Vz D X z u v) (j:wA r v xs) (M:fl=aB-> ∀i,v=.bor i-> ∀a,z.φ i=aA a-> ¬ z.W a) (k:KI D C X r z fl xs Q):aO (aY D.prog D.w) X.A (zl u) Q Er z.s:=by
 induction j with
 |s=>exact aV (Rd.dM P) λt g=>sb g<|VT K k
 |q q=>
  induction q with
  |t=>exact dk (Rd.Aj P) λa H n e x Z p=>sb e<|o_ K x p (λO w=>Z<|.inr w) k
  |l q=>
   induction q with
   |d=>exact dk (Rd.lst_inv P) λa H n e x Z p=>sb e<|Lu K x p (λO w=>Z<|.inr w) k
   |bor R=>refine dU (K.F.own _ _ R) λa H n x Z p=>aS P λY m B=>sb B ?_;clear R P B;obtain rfl:=bM x m;exact Lu K Z p (λf=>M f _ rfl a x) k
theorem U9 (h:aZ D C x e):hZ D C fl x (I.jb e):=λg=>λK k=>(h g).run K λv l g u z R s q=>by
 induction jU g with
 |mk e g=>subst e;induction g with|mk n g=>exact BC R q n (λO O=>nofun)<|(k _ _ g).tr s
set_option tactic.hygienic true in
theorem QAV (o:iD C nm i):hZ D C fl (.Name nm pos) (.aC i):= @λl r g=>λK k=>by
 delta I.aC at g;generalize e:aL l i=y at g;cases y with
 |val x=>
  induction (g) with
  |mk n g=>refine (tL (K:=λv L=>v=.d x/\L=l) o (by dsimp only[kX];erw[e];exact ⟨rfl,rfl⟩:h8 (kX (aL l) i) _ False)).run K ?_;clear o K e;intro _ _ H u z R s Q;obtain ⟨rfl,rfl⟩:=H;exact BC R Q n (λO O=>nofun)<|(k _ _ g).tr s
 |own A=>have h:=g;refine (tL (K:=λv L=>v=.bor i/\L=l) o (by dsimp only[kX];erw[e];exact ⟨rfl,rfl⟩:h8 (kX (aL l) i) _ False)).run K ?_;clear o K;intro _ _ H u z R s Q;obtain ⟨rfl,rfl⟩:=H;exact BC R Q (.q<|.l<|.bor e) (λf=>by rw[h.1] at f;exact br f)<|(k _ _ h.2).tr s
 |_=>exact mG g
theorem Jo [H:dA D] (m:C.K "range" =aA .globalImplicit) (P:Pl xs) (K:FX D C X r z) (h:aO (aY D.prog D.w) X.A (sM<|mM pos<|fI xs X.env) (λus n=>aO (aY D.prog D.w) X.A (call (.type "range") us) Q Er n) Er z.s):
 aO (aY D.prog D.w) X.A (b7 (.Call (.Name "range" p) xs [] pos) X.env) Q Er z.s:=
 qp (zM K m (by decide+kernel) (by lia)<|wo (P X.env pos)<|gG (P X.env pos) h)
theorem VF [H:dA D] (c:C.K "range" =aA .globalImplicit) (P:Pl [x]) (hs:fu D C [x] [a]):hZ D C fl (.Call (.Name "range" p) [x] [] pos) (.jA a):=λe=>λ{X z Q Er} K k=>Jo c P K (kP (hs e) K λd l f Z h R U o=>by
 obtain ⟨n,rfl,A,N,h⟩:=h;refine bf o.hU λu f B q i=>sb B ?_;cases i.kK;refine aV (Rd.dd q) λt g=>sb g<|wpAny_toks<|call_range_1 λv=>?_;have Y:=Kl.push (L:=X.env.locals) (h:=Z.s.heap) {cls:=.type "range",data:=.fields #[.int 0 Z.s.toks,.int n t,.int 1<|Z.s.toks+1]};refine KO (fl:=fl) (m:=0) (n:=n) (R.kl Y v) (fH _ rfl) (lK (by decide) (by decide) N A) ?_;simp only[Int.sub_zero,zo]
 exact ((k _ _ h).tr U).tr<|.kl R Y v)
theorem QAO [H:dA D] (c:C.K "range" =aA .globalImplicit) (P:Pl [x,y]) (hs:fu D C [x,y] [a,b]):hZ D C fl (.Call (.Name "range" p) [x,y] [] pos) (.rK a b):=λe=>λ{X z Q Er} K k=>Jo c P K (kP (hs e) K λds l j Z h R v o=>by
 obtain ⟨m,n,rfl,A,N,W,r,h⟩:=h;refine bf o.hU λu j B q i=>sb B<|bf i.hU λu' U B f F=>sb B ?_;cases F.kK;refine aV (Rd.dd q) λd g=>sb g<|aV (Rd.dd f) λt g=>sb g<|wpAny_toks<|call_range_2 λM=>?_;have Y:=Kl.push (L:=X.env.locals) (h:=Z.s.heap) {cls:=.type "range",data:=.fields #[.int m d,.int n t,.int 1 Z.s.toks]}
 exact KO (m:=m) (n:=n) (R.kl Y M) (fH _ rfl) (lK r W N A)<|((k _ _ h).tr v).tr<|.kl R Y M)
end
noncomputable def vj (xs:List aP) (env:cg):ba Bool:=forIn xs aB λc r=>if r=aB then do let o<-zi c env (b7 c env);pure (oz o) else pure (oz r)
noncomputable def oQ (D:Wd) (C:Fc) (xs:List aP) (ts:List T):Prop:= ∀{l K},aW ts D.o l K-> ∀{X:Fx} {z:Zs} {Q:Bool->aN->Prop} {Er:aI->aN->Prop},FX D C X (aL l) z->KT D C X z K Q->aO (aY D.prog D.w) X.A (vj xs X.env) Q Er z.s
section
variable {D:Wd} {C:Fc} {x y w:aP} {a b c:E} {t:T} {ts:List T} {r r₁ r₂ r₃:bQ} {v v₁ v₂:V} {pos:bP} {X:Fx} {z z' z'':Zs} {Q:aI->aN->Prop} {Er:aI->aN->Prop} {d:aK} {fl:Bool} {xs:List aK}
theorem QAr:oQ D C [] []:=λe=>λK k=>by
 unfold vj
 simp! only[zj]
 exact bA<|k _ _ e _ K .refl
theorem T_ {xs:List aP} (a:eQ D C x t) (hb:oQ D C xs ts):oQ D C (x::xs) (t::ts):=λe=>λK k=>by
 unfold vj;rw[ud]
 skip
 exact aR (aR ((a e).run K λb O g z R s=>bA (by
  rcases g with ⟨rfl,g⟩|⟨rfl,g⟩
  ·exact hb g R λO O g=>(k _ _ g).tr s
  ·exact QCr (k _ _ g _ R s) xs)))
theorem FX.turn {J:aM} (K:FX D C X r z) (H:X.Ob J) (nf:jV C X.env z.φ J) (k: ∀a o,z.s.heap.get? a=aA o->a≠J->h'.get? a=aA o) (j: ∃o,h'.get? J=aA o) (l:z.s.toks<=tk):
 FX D C X r (z.to h' tk)/\Mon (Ex X.Ob z.W) z.s.heap (Ex X.Ob z.W) h':=by
 refine bI (K.F.move (Ob₂:=X.Ob) (Z:=λa=>a=J) (h':=h') (λa q=>q▸H) (λa q=>q▸nf) k (λa q=>⟨.inl q,by
  by_cases e:a=J
  ·exact e▸j
  ·exact aV (K.F.dj a<|.inl q) λo w=>⟨o,k a o w e⟩⟩)) λF m=>?_
 exact ⟨⟨F,K.R,az K.t l⟩,m⟩
theorem FX.drop {J:aM} (K:FX D C (X.add J) r z) (nJ: ¬ Ex X.Ob z.W J) (nf:jV C X.env z.φ J) (k: ∀a o,z.s.heap.get? a=aA o->a≠J->h'.get? a=aA o) (l:z.s.toks<=tk):
 FX D C X r (z.to h' tk)/\Mon (Ex (X.add J).Ob z.W) z.s.heap (Ex X.Ob z.W) h':=by
 refine bI (K.F.move (λa q=>.inr q) (λa q=>q▸nf) k λa q=>⟨.inl<|.inl q,by exact aV (K.F.dj a<|.inl<|.inl q) λo w=>⟨o,k a o w λe=>nJ<|.inl<|e▸q⟩⟩) λF m=>?_;exact ⟨⟨F,K.R,az K.t l⟩,m⟩
set_option tactic.hygienic true in
theorem MS {I:aM} {T:String} {Q:Unit->aN->Prop} (e:s.heap.get? I=aA o) (c:o.cls=.type T) (t:wR.contains T=aE) (h:Q () s):aO M A (Px x (.ref I) u) Q Er s:=by
 have K:aO M A (Px (.Tuple [] 0 default) (.ref I) u) Q Er s:=by
  induction u with
  |ref a=>
   refine aR<|wpAny_load e ?_;erw[c];generalize o.data=d;induction d with
   |fields v=>refine (?_:aO M A (if (wR.contains T && v[0]?==aA (o5 a))=aB then _ else pure ()) Q Er s);exact sb t<|wpAny_pure h
   |_=>exact bA h
  |_=>exact bA h
 exact x.casesOn (λO O O=>bA h) (λO O O=>bA h) (λO O O O=>bA h) (λO O O=>bA h) (λO O O O=>bA h) (λO O O O=>bA h) (λO O O=>bA h) (λO O O=>bA h) (λO O O O=>bA h) (λO O O O=>bA h) (λO O O O O=>bA h) (λO O O O=>bA h) (λO O=>bA h) (λO O=>bA h) (λO O=>bA h) (λO O O O=>bA h) (λO O O O=>bA h) (λO O O O=>bA h) (λO O=>bA h) (λO O O=>bA h) (λO O O=>bA h) (λO O O=>bA h) (λO O=>bA h) (λO O=>bA h) (λO O=>K) (λO O O=>K) λO O O O=>bA h
theorem Ze {w:bz} (I:Nat->aN->Prop)
 (turn: ∀n s,I n s-> ∀Er,aO (aY prog w) A (pyNext it) (λr s=>match r with
  |none=>R (.ok .next) s
  |some v=>aO (aY prog w) A (Px target it v) (λO s=>aO (aY prog w) A (mR target env v) (λO s=>aO (aY prog w) A (vj ifs env) (λf s=>if f=aB then aO (aY prog w) A (b7 elt env) (λx s=>aO (aY prog w) A (call (.builtin "list.append") [u,x]) (λO s=> ∃m,m<n/\I m s) Er s) Er s else∃m,m<n/\I m s) Er s) Er s) Er s) Er s)
 (n:Nat) (h:I n s):uh (aY prog w) A (.compLoop (.ListComp elt [⟨target,iter,ifs,0⟩] scope pos) 0 it u env) R s:=by
 refine codeAny_loop rfl I (λn s i=>?_) n h;refine (?_:aO _ A ((compTurn (.ListComp elt [⟨target,iter,ifs,0⟩] scope pos) 0 it u env).onRaise (λx=>do noteFrame x env;theTreesLotGoes x)) _ _ s);refine wpAny_noted ?_;rw[compTurn_list];refine aR<|iJ<|aR<|eY (turn n s i _) (λr s h=>?_) λO O h=>h;cases r with
 |none=>exact bA h
 |some v=>
  refine aR<|eY h (λO s h=>aR<|eY h (λO s h=>aR<|eY h (λf s h=>?_) λO O h=>h) λO O h=>h) λO O h=>h;cases f with
  |false=>exact bA ⟨rfl,h⟩
  |true=>exact aR<|aR<|eY h (λx s h=>aR<|eY h (λO s h=>bA<|bA ⟨rfl,h⟩) λO O h=>h) λO O h=>h
theorem Uj {w:bz} {J:aM} {St:Nat->bK->Prop}
 (z:sQ prog w A J fp [J] n P St) (I:Nat->aN->Prop) (C: ∀j s,I j s->St j s.heap) (N: ∀i h,St i h-> ∃o T,h.get? J=aA o/\o.cls=.type T/\wR.contains T=aE) (h0:I 0 s)
 (d: ∀s h' tk,I n s->(∀a o,s.heap.get? a=aA o->a≠J->h'.get? a=aA o)->s.toks<=tk->R (.ok .next) {s with heap:=h',toks:=tk})
 (turn: ∀j s h' tk v,j<n->I j s->P j v->St (j+1) h'->(∀a o,s.heap.get? a=aA o->a≠J->h'.get? a=aA o)->s.toks<=tk-> ∀Er,aO (aY prog w) A (mR target env v) (λO W=>aO (aY prog w) A (vj ifs env) (λf Q=>if f=aB then aO (aY prog w) A (b7 elt env) (λx c=>aO (aY prog w) A (call (.builtin "list.append") [u,x]) (λO g=>I (j+1) g) Er c) Er Q else I (j+1) Q) Er W) Er {s with heap:=h',toks:=tk}):
 uh (aY prog w) A (.compStart (.ListComp elt [⟨target,iter,ifs,0⟩] scope pos) 0 (.ref J) u env) R s:=by
 have nx: ∀{m j:Nat},m=n+1 - j->j<n->n+1 - (j+1)<m:=λe h=>e▸Nat.sub_lt_sub_left (sP h) (uc _)
 have core:uh (aY prog w) A (.compLoop (.ListComp elt [⟨target,iter,ifs,0⟩] scope pos) 0 (.ref J) u env) R s:=by
  refine Ze (λm U=> ∃j,j<=n/\m=n+1 - j/\I j U) ?_ (n+1)<|gd 0 (hJ _) rfl h0;intro m U B Er;refine cy B λj K M F=>?_;by_cases L:j<n
  ·refine wpAny_toks (z.item j _ _ _ L (C j U F) λv h' tk hP st k l=>?_)
   refine bf (N _ _ st) λob T p g q=>MS p g q (eY (turn j U h' tk v L F hP st (λa o e q=>k a o (by simpa -iota using q) e) l _) (λO W i=>eY i (λf Q H=>?_) λO O x=>x) λO O x=>x);induction f with
   |false=>exact ⟨_,nx M L,j+1,L,rfl,H⟩
   |true=>exact eY H (λx c t=>eY t (λO g b=>⟨_,nx M L,j+1,L,rfl,b⟩) λO O x=>x) λO O x=>x
  ·cases jk K (iH.mp L)
   exact wpAny_toks (z.done _ _ _ (C _ U F) λh' tk k l=>d U h' tk F (λa o e q=>k a o (by simpa -iota using q) e) l)
 exact codeAny_compStart_list core<|z.self 0 _ _ _ (C _ _ h0) core
section
variable {elt target iter:aP} {ifs:List aP} {scope:jQ} {cpos:bP}
noncomputable def tA (D:Wd) (X:Fx) (z:Zs) (d:aM):aM->Prop:=λa=>(Ex X.Ob z.W a\/a=d)/\ ¬ D.P.PF a
noncomputable def fR (z:Zs):Heap:=z.s.heap.push<|listOf ([]:List aI).toArray 0
noncomputable def G6 (scope:jQ) (z:Zs):Heap:=kE ((fR z).push {cls:=.type "dict",data:=.dict #[]}) scope.names
noncomputable def zC (D:Wd) (scope:jQ) (z:Zs):Zs:={s:={z.s with heap:=G6 scope z},W:=λa=>D.P.PF a\/((fR z).get? a=aF/\ ∃o,(G6 scope z).get? a=aA o),φ:=z.φ}
theorem MG {x:aG} (h:(C.sub scope.names aB aE hb).cM x=aA i):(∃k,scope.names.lookup x=aA k/\j3 k=aB/\(x==nv)=aE/\i=C.bd+scope.names.findIdx (·.1==x))\/(scope.names.lookup x=aA .free/\C.cM x=aA i):=by
 have h':(match scope.names.lookup x with
  |some k=>if j3 k then (if x==nv then aF else aA (C.bd+scope.names.findIdx (·.1==x))) else if k==.free then C.cM x else aF
  |none=>aF)=aA i:=h
 induction e:scope.names.lookup x with
 |none=>rw[e] at h';exact ay h'
 |some k=>
  rw[e] at h';dsimp only at h';by_cases K:j3 k=aB
  ·rw[if_pos K] at h'
   by_cases hd:(x==nv)=aB
   ·exact cb (QHb hd) h'
   ·obtain rfl:=bM (QHa hd) h'
    exact .inl<|kU k rfl K (QEm _▸hd) rfl
  ·rw[if_neg K] at h'
   by_cases hf:(k==o3)=aB
   ·rw[if_pos hf] at h'
    exact .inr ⟨by exact sb (QHc.mp hf) rfl,h'⟩
   ·exact cb (QHa hf) h'
theorem vl (c:mw C scope tt target iter):(i∈j8 tt->fc tt (jc r) i=.unb)/\(i∉j8 tt->fc tt (jc r) i=jc r i):=by rw[wJ,xp];exact ⟨λh=>QHb h,λh=>QHa h⟩
theorem UZ (h:jc r i=.own ys):r i=.own ys:=by
 unfold jc at h
 split at h
 ·exact nomatch h
 ·cases e:r i<;>rw[e] at h<;>cases h;rfl
theorem dZ.Ro {φ cl Y Y' h h'} {v:Option aI} {sl:Sl} (q:dZ P φ cl Y h i v sl) (k: ∀a o,h.get? a=aA o->h'.get? a=aA o) (m:Mon Y h Y' h') {c:List (aG×aM)}:dZ P φ c Y' h' i v (v5 sl):=by
 induction sl with
 |dz n=>exact iN q λa z x C l p=>(jY a z x (m _ _ C l).1 (m _ _ C l).2 p)
 |clo f=>trivial
 |unb=>trivial
 |val d=>exact aS q λu e z=>(ax u e<|z.mon m)
 |own R=>exact q
 |ali j=>exact q
 |inst=>exact bf q λy a x C z=>(cz y a x C<|P.kN z m)
 |emp=>exact cy q λa x Z g=>(ax a x<|m _ _ Z g)
theorem Wb {env₀:cg} (f:mw C scope tt target iter) (l: ∀x∈scope.names,x.2=.free->(X.env.cells.lookup x.1).isSome=aB) (K:FX D C X r z)
 (L:env₀=H2 scope (fR z).objs.size X.env.globals (jP ((fR z).objs.size+1) scope.names<|clOf X.env.cells scope.names []) X.env.qual aF .none (aA X.env) X.env.builtins):
 FX D (C.sub scope.names aB aE hb) {A:=X.A,env:={env₀ with scope:=relabel scope X.env},Ob:=tA D X z z.s.heap.objs.size} (fc tt<|jc r) (zC D scope z):=by
 have N:=(yt scope.names [] l λy c q=>by exact ay q).1;have Z:=(yt scope.names [] l λy c q=>by exact ay q).2;have nD:z.s.heap.get? z.s.heap.objs.size=none:=ie<|bh _;have d: ∀b o,z.s.heap.get? b=aA o->(fR z).get? b=aA o:=λb o e=>gS _ e
 have M:Mon (Ex X.Ob z.W) z.s.heap (Ex (tA D X z z.s.heap.objs.size) D.P.PF) (fR z):=λa o e n=>⟨d a o e,λq=>by
  rcases q with ⟨q|q,_⟩|q
  ·exact n q
  ·simp! only[q,nD] at e
   exact ay e
  ·exact n<|.inr<|K.F.pf a q⟩
 have hz:aT∉j8 tt:=λq=>QHZ (f.xW aT q).2 (by decide);have hw:bR∉j8 tt:=λq=>QHZ (f.xW bR q).2 (by decide)
 have U: ∀{x:aG} {i:Nat} {k:dQ},scope.names.lookup x=aA k->j3 k=aB->(C.sub scope.names aB aE hb).cM x=aA i->fc tt (jc r) i=.unb:=λ{x i k} e1 e2 e3=>by
  refine (vl f).1 ?_;rcases MG e3 with ⟨k',q1,q2,Y,rfl⟩|⟨q,_⟩
  ·exact f.tid _ (mem_of_lookup q1) q2 Y
  ·obtain rfl:=bM e1 q
   exact br e2
 have Q: ∀{i:Nat} {ys:List aK},fc tt (jc r) i=.own ys->r i=.own ys:=λ{i ys} q=>by
  by_cases m:i∈j8 tt
  ·rw[(vl f).1 m] at q
   exact nomatch q
  ·exact UZ<|(vl f).2 m▸q
 have fr: ∀{x:aG} {i:Nat},scope.names.lookup x=aA .free->(C.sub scope.names aB aE hb).cM x=aA i-> ∃c v,(clOf X.env.cells scope.names []).lookup x=aA c/\(fR z).IsCell c v/\dZ D.P z.φ ({env₀ with scope:=relabel scope X.env}).cells (Ex (tA D X z z.s.heap.objs.size) D.P.PF) (fR z) i v (fc tt (jc r) i):=λ{x i} q b=>by
  rcases MG b with ⟨k',q1,q2,_⟩|⟨_,B⟩
  ·obtain rfl:=bM q q1
   exact br q2
  ·refine aV (mQ.mp<|(Z x).mp<|.inl<|mem_of_lookup q) λc q1=>bI (f.free _ (mem_of_lookup q) rfl) λh g=>bf (K.F.gr x i g B) λc' v Y q5 q6=>?_
   rw[N x c q1] at Y;cases Y;refine (cz c v q1 (q5.keeps d) ?_);have lt:=C.rD x i B;have nt:i∉j8 tt:=λq=>mK _ (mJ lt (f.xW i q).1)
   simp! only[(vl f).2 nt,show jc r i=v5 (r i) from QHa (C.nA B).1]
   exact q6.Ro d M
 refine ⟨HP f.nd (by erw[L];rfl:env₀.locals=(fR z).objs.size) (by erw[L];rfl:env₀.cells=jP ((fR z).objs.size+1) scope.names (clOf X.env.cells scope.names [])) f.kind (λx=>Rn K.F.hk K.F.hK scope.names x) (by show env₀.globals=_;erw[L];exact K.F.hg) (by show env₀.builtins=_;erw[L];exact K.F.hb) nofun
  (λx i a b=>?_) (λx i a b=>?_) (λx a b=>?_) (λx c q=>?_) (λx y c q u=>K.F.oe x y c (N x c q)<|N y c u) (λb o e=>d b o<|K.F.base b o e) (λb o e q=>?_) (λi xs q=>?_) nofun (λxs q u a=>?_) (λxs q1 q2 a Y q4=>?_) (λq=>K.F.lD λxs hx=>q xs ?_)
  K.F.inj (λi a q=>let ⟨o,w⟩:=K.F.j5 i a q;⟨o,d _ _ w⟩) (λa q=>?_) (λa q u=>u.2 q) (D.P.iU K.F.inv M λa p=>by refine cQ (D.P.iS K.F.inv p) λo vs e O=>?_;erw[e];exact d a o e) (λa p=>p),K.R,K.t⟩
 ·rcases n9 a with q|q
  ·exact U q rfl b
  ·cases q.1
 ·rcases a with a|a
  ·rcases n9 a with q|q
   ·exact .inl ⟨q,U q rfl b⟩
   ·exact .inr ⟨q.2.1,fr q.2.1 b⟩
  ·rcases n9 a with q|q
   ·exact .inr ⟨q,fr q b⟩
   ·cases q.1
 ·have B:(match scope.names.lookup x with|some k=>j3 k|none=>aE)=true:=b
  rcases n9 a with q|q
  ·exact q
  ·rw[q.2.1] at B
   exact br B
 ·have u:=N x c q
  refine bI (f.free _ (((Z x).mpr (by erw[q];rfl)).resolve_right nofun) rfl) λh g=>?_;refine aV (mQ.mp h) λi h=>bf (K.F.gr x i g h) λc' v q1 H O=>aS H λo w O=>?_;rw[u] at q1;clear H;cases q1;exact ⟨o,d _ _ w⟩
 ·rcases q with ⟨q|q,_⟩|q
  ·exact K.F.fN b o e q
  ·rw[q] at e
   rw[K.F.base _ _ e] at nD;exact qO nD
  ·exact K.F.fN b o e<|.inr<|K.F.pf b q
 ·exact dU (K.F.own i xs<|Q q) λa vs n e1 e2 e3=>(la a vs n e1 (d _ _ e2)<|e3.mon M)
 ·simp! only[(vl f).2 hw,show jc r bR=.unb from QHb rfl] at u
  exact nomatch u
 ·refine dU (K.F.own aT xs<|Q q1) λa' vs n e1 e2 O=>?_
  obtain rfl:=bM (Y:z.φ aT=aA a) e1;refine cQ (D.P.iS K.F.inv q4) λo aa j d4=>?_;obtain rfl:=bM e2 j;clear e2;exact nomatch d4
 ·simp! only[(vl f).2 hz,show jc r aT=v5 (r aT) from QHa (by decide),hx]
  rfl
 ·rcases q with ⟨q|q,_⟩|q
  ·exact aV (K.F.dj a q) λo w=>⟨o,d _ _ w⟩
  ·exact sb q<|⟨_,Heap.get?_push_size _ rfl⟩
  ·exact cQ (D.P.iS K.F.inv q) λo aa j O=>⟨o,d _ _ j⟩
structure CB (D:Wd) (Y X':Fx) (J:aM) (z2:Zs) (St:Nat->bK->Prop) (j:Nat) (ys:List aK) (z:Zs):Prop where
 st:St j z.s.heap
 mon:Mon (Ex Y.Ob z2.W) z2.s.heap (Ex X'.Ob z.W) z.s.heap
 keep: ∀a o,z2.s.heap.get? a=aA o->a≠J-> ¬ D.P.PF a->z.s.heap.get? a=aA o
 acc: ∃vs n,z.s.heap.get? z2.s.heap.objs.size=aA (listOf vs.toArray n)/\bB (Ex X'.Ob z.W) z.s.heap vs ys
 t:z2.s.toks<=z.s.toks
 f:z.φ=z2.φ
 e:z.s={z2.s with heap:=z.s.heap,toks:=z.s.toks,drawn:=z.s.drawn}
section
variable {St:Nat->bK->Prop} {j n:Nat} {ys:List aK} {C':Fc} {r':bQ}
theorem CB.nw (B:CB D Y X' J z2 St j ys z) (K:FX D C' X' r z) (Z:X'.Ob=tA D Y z2 z2.s.heap.objs.size): ∀a o,z2.s.heap.get? a=aA o-> ¬ D.P.PF a-> ¬ z.W a:=λa o e n w=>by
 by_cases q:Ex Y.Ob z2.W a
 ·exact K.F.dT a w (by simp! only[Z];exact ⟨.inl q,n⟩)
 ·exact (B.mon a o e q).2<|.inr w
theorem CB.sx (B:CB D Y X' J z2 St j ys z) (K:FX D C' X' r z) (s:Sx z z') (Z:X'.Ob=tA D Y z2 z2.s.heap.objs.size) (W:sQ D.prog D.w X.A J fp [J] n P St) (nq: ∀b∈fp,(∃o,z2.s.heap.get? b=aA o)/\ ¬ D.P.PF b) (hd:X'.Ob z2.s.heap.objs.size):CB D Y X' J z2 St j ys z':=by refine cQ B.acc λv n x C=>?_;have u:=B.nw K Z;exact ⟨W.frame _ _ _ B.st λb h o e=>s.st.keep b o e (let ⟨⟨H,q⟩,N⟩:=nq b h;u b H q N),B.mon.trans s.mon,λa o e q N=>s.st.keep a o (B.keep a o e q N)<|u a o e N,(fA v n (s.st.keep _ _ x λw=>K.F.dT _ w hd)<|C.mon s.mon),az B.t s.t,s.f.trans B.f,by (erw[s.e];exact sb B.e rfl)⟩
theorem O8 (A:mw C scope tt target iter) (K:FX D (C.sub scope.names aB aE hb) X' r z) (l:X'.env.cells=jP m scope.names cl) (xJ:X'.Ob J) (p: ∀i,z.φ i≠aA J) (Y: ∀x c,cl.lookup x=aA c->c≠J):jV (C.sub scope.names aB aE hb) X'.env z.φ J:=by
 refine ⟨p,λq=>K.F.dT _ K.F.ku<|q▸xJ,λx i c a b q e=>?_⟩;have f:scope.names.lookup x=aA .free->False:=λw=>by rw[l,(Ag scope.names m _ x).1 λz=>by cases bM (CU A.nd z) w] at q;exact Y x c q e
 have o:(C.sub scope.names aB aE hb).K x=aA .cell->scope.names.lookup x=aA .cell->False:=λw W=>by
  have:(C.sub scope.names aB aE hb).rU x=true:=by show (match scope.names.lookup x with|some k=>j3 k|none=>aE)=aB;erw[W];rfl
  exact K.F.dT _ (K.F.qj x i c w this b q)<|e▸xJ
 refine cp (a) (λa=>?_) λa=>?_
 ·refine cp (n9 a) (λw=>?_) λw=>?_
  ·exact o a w
  ·exact f w.2.1
 ·refine cp (n9 a) (λw=>?_) λw=>?_
  ·exact f w
  ·cases w.1
theorem M0 (c:mw C scope tt target iter) (b:nh tt d (fc tt r)=aA N) (K:FX D C' X' N z):FX D C' X' (fc tt r) z:=by
 have e:fc tt N=fc tt r:=by
  erw[Sb b];funext j;rw[wJ,wJ,xp,xp];by_cases q:j∈j8 tt
  ·exact sb (QHb q)<|sb (if_pos q) rfl
  ·exact sb (QHa q) rfl
 have:=K.F.Um (j8 tt) λi h=>⟨λq=>QHZ (c.xW i h).2 (q▸by decide),λq=>QHZ (c.xW i h).2<|q▸by decide⟩;rw[<-wJ,e] at this;exact ⟨this,K.R,K.t⟩
theorem CB.app {y:aK} {vs:List aI} (B:CB D Y X' J z2 St j ys z) (K:FX D C' X' r z) (g:sQ D.prog D.w X.A J fp [J] n P St) (nq: ∀b∈fp,(∃o,z2.s.heap.get? b=aA o)/\ ¬ D.P.PF b) (m:Mon (Ex X'.Ob z.W) z.s.heap (Ex X'.Ob z.W) h')
 (e1:bB (Ex X'.Ob z.W) z.s.heap vs ys) (q:Rz X' z u y) (k: ∀a o,z.s.heap.get? a=aA o->a≠z2.s.heap.objs.size->h'.get? a=aA o) (e:h'.get? z2.s.heap.objs.size=aA (listOf (vs++[u]).toArray n')):CB D Y X' J z2 St j (ys++[y]) (z.to h' z.s.toks):=by
 have N: ∀a o,z2.s.heap.get? a=aA o->a≠z2.s.heap.objs.size:=λa o e q=>by rw[q,ie<|bh _] at e;exact ay e
 exact ⟨g.frame _ _ _ B.st λb h o e=>k b o e (let ⟨⟨H,q⟩,_⟩:=nq b h;N b H q),B.mon.trans m,λa o e q Z=>k a o (B.keep a o e q Z)<|N a o e,(fA _ _ e<|(e1.mon m).app<|bB.cons (Rd.mon q m) bB.nil),B.t,B.f,by
  show {z.s with heap:=h',toks:=z.s.toks}=_;erw[B.e]
  rfl⟩
noncomputable def CI (D:Wd) (C':Fc) (Y x:Fx) (J:aM) (g:Zs) (St:Nat->bK->Prop) (e:E) (tt:cS) (c:List T) (xs:List aK) (l:Ls) (r:bQ) (K:List aK->Prop) (j:Nat) (s:aN):Prop:= ∃z p,s=z.s/\FX D C' x r z/\CB D Y x J g St j p z/\cW e tt c D.o l (xs.drop j) (λZ=>K<|p++Z)/\p.length<=j
structure Cx (D:Wd) (C:Fc) (X X':Fx) (r:bQ) (z z2:Zs) (scope:jQ) (xs:List aK) (J:aM) (fp:List aM) (P:Nat->aI->Prop) (St:Nat->bK->Prop):Prop where
 i:It D C X r z z2 aE xs J fp P St
 ho:X'.Ob=tA D (X.add J) z2 z2.s.heap.objs.size
 ec:X'.env.cells=jP ((fR z2).objs.size+1) scope.names (clOf X.env.cells scope.names [])
 el:X'.env.locals=(fR z2).objs.size
 hA:X'.A=X.A
 cin: ∀x c,(clOf X.env.cells scope.names []).lookup x=aA c->(∃o,z2.s.heap.get? c=aA o)/\c≠J
 aJ: ∃o,z2.s.heap.get? J=aA o
theorem nD (z:Zs):z.s.heap.get? z.s.heap.objs.size=none:=ie<|bh _
section
theorem Cx.Ml (c:Cx D C X X' r z z2 scope xs J fp P St): ¬ D.P.PF J:=λp=>c.i.nJ<|.inr<|c.i.F.F.pf J p
theorem Cx.Ru (c:Cx D C X X' r z z2 scope xs J fp P St): ¬ D.P.PF z2.s.heap.objs.size:=λp=>cQ (D.P.iS c.i.F.F.inv p) λo v e O=>cb (nD z2) e
theorem Cx.xJ (c:Cx D C X X' r z z2 scope xs J fp P St):X'.Ob J:=by rw[c.ho];exact ⟨.inl<|.inl<|.inr rfl,c.Ml⟩
theorem Cx.xD (c:Cx D C X X' r z z2 scope xs J fp P St):X'.Ob z2.s.heap.objs.size:=by rw[c.ho];exact ⟨.inr rfl,c.Ru⟩
theorem Cx.nq (c:Cx D C X X' r z z2 scope xs J fp P St): ∀b∈fp,(∃o,z2.s.heap.get? b=aA o)/\ ¬ D.P.PF b:=λb B=>⟨c.i.nq b B,c.i.Np b B⟩
theorem Cx.nJ (c:Cx D C X X' r z z2 scope xs J fp P St):z2.s.heap.objs.size≠J:=λq=>c.aJ.elim λo e=>by rw[<-q,nD] at e;exact ay e
theorem Cx.wk (c:Cx D C X X' r z z2 scope xs J fp P St):sQ D.prog D.w X'.A J fp [J] xs.length P St:=by rw[c.hA];exact c.i.walk
theorem Cx.b0 (c:Cx D C X X' r z z2 scope xs J fp P St):CB D (X.add J) X' J z2 St 0 [] (zC D scope z2):=by
 have d: ∀b o,z2.s.heap.get? b=aA o->(fR z2).get? b=aA o:=λb o e=>gS _ e;have K: ∀b o,(fR z2).get? b=aA o->(G6 scope z2).get? b=aA o:=HL scope.names (fR z2) _;refine ⟨c.i.walk.frame 0 _ _ c.i.st λb B o e=>K b o<|d b o e,λa o e n=>⟨K _ _<|d _ _ e,λq=>?_⟩,λa o e O O=>K _ _<|d _ _ e,fA [] 0 (K _ _<|fH _ rfl) bB.nil,bh _,rfl,rfl⟩;rw[Ex,c.ho] at q;rcases q with ⟨q|q,_⟩|q|q
 ·exact n q
 ·rw[q,nD] at e
  exact ay e
 ·exact n<|.inr<|c.i.F.F.pf a q
 ·exact cb q.1<|d _ _ e
theorem Cx.step (c:Cx D C X X' r z z2 scope xs J fp P St) {r' za zb} (K:FX D C' X' r' za) (B:CB D (X.add J) X' J z2 St j ys za) (s:Sx za zb):CB D (X.add J) X' J z2 St j ys zb:=B.sx K s c.ho c.wk c.nq c.xD
end
section
theorem WH (t:mw C scope tt target iter) (c:Cx D C X X' r z z2 scope xs J fp P St) {y:aK} {w:aI} (hsz:xs.length<=16777216) (l:j<xs.length) (U:ys.length<=j) (b:nh tt d (fc tt rr)=aA R)
 (K:FX D (C.sub scope.names aB aE hb) X' R Z) (B:CB D (X.add J) X' J z2 St (j+1) ys Z) (q:Rz X' Z w y) (e:cW ee tt conds D.o l0 (xs.drop<|j+1) λzs=>Kc<|ys++[y]++zs):
 aO (aY D.prog D.w) X'.A (call (.builtin "list.append") [.ref z2.s.heap.objs.size,w]) (λO g=>CI D (C.sub scope.names aB aE hb) (X.add J) X' J z2 St ee tt conds xs l0 (fc tt rr) Kc (j+1) g) Er Z.s:=by
 refine cQ B.acc λm n u p=>wpAny_toks (QEr (hsz:=by simp! only[gm,p.len,iy];exact bD (na hsz l) U) ⟨n,u⟩ λh pl sb N=>?_);refine aV pl λn7 M=>?_;have v:h.get? z2.s.heap.objs.size=aA (listOf (m++[w]).toArray n7):=by rw[M];simp -iota [zh]
 have L: ∀a o,Z.s.heap.get? a=aA o->a≠z2.s.heap.objs.size->h.get? a=aA o:=λa o e q=>(sb.2 a q).trans e;have H:=K.turn c.xD (O8 t K c.ec c.xD (λY q=>aV (c.i.F.F.j5 Y _<|B.f▸q) λo w=>cb (nD z2) w) λx a q Q=>aV (c.cin x a q).1 λo w=>cb (nD z2)<|Q▸w) L ⟨_,v⟩<|bh _;exact vi _ (ys++[y]) rfl (M0 t b H.1) (B.app K c.wk c.nq H.2 p q L v) e (by rw[du];exact H7 U)
theorem QBn (hC:mw C scope tt target iter) (hT:mx D (C.sub scope.names aB aE hb) target tt) (hA:oQ D (C.sub scope.names aB aE hb) ifs conds) (hE:aZ D (C.sub scope.names aB aE hb) elt ee) (c:Cx D C X X' r z z2 scope xs J fp P St)
 (hL:aL l0=fc tt rr) (hsz:xs.length<=16777216) (L:j<xs.length) (H:CI D (C.sub scope.names aB aE hb) (X.add J) X' J z2 St ee tt conds xs l0 (fc tt rr) Kc j s) (hP:P j u) (R:St (j+1) h') (Z: ∀a o,s.heap.get? a=aA o->a≠J->h'.get? a=aA o) (l:s.toks<=tk) (Er:aI->aN->Prop):
 aO (aY D.prog D.w) X'.A (mR target X'.env u) (λO W=>aO (aY D.prog D.w) X'.A (vj ifs X'.env) (λok Q=>if ok=aB then aO (aY D.prog D.w) X'.A (b7 elt X'.env) (λx K=>aO (aY D.prog D.w) X'.A (call (.builtin "list.append") [.ref z2.s.heap.objs.size,x]) (λO M=>CI D (C.sub scope.names aB aE hb) (X.add J) X' J z2 St ee tt conds xs l0 (fc tt rr) Kc (j+1) M) Er K) Er Q else CI D (C.sub scope.names aB aE hb) (X.add J) X' J z2 St ee tt conds xs l0 (fc tt rr) Kc (j+1) Q) Er W) Er {s with heap:=h',toks:=tk}:=by
 refine oC H λz' Y es Kz B cj lj=>?_;clear H;subst es;refine aS (c.i.items j u hP) λd hd rd=>cQ (c.i.alive _ _ R) λo1 O F O=>?_;have h:=Kz.turn c.xJ (O8 hC Kz c.ec c.xJ (λi' q=>c.i.nf.p i'<|B.f▸q) λx a q=>(c.cin x a q).2) Z ⟨o1,F⟩ l
 have B1:CB D (X.add J) X' J z2 St (j+1) Y (z'.to h' tk):=cQ B.acc λvs n e1 e3=>⟨R,B.mon.trans h.2,λa o e q np=>Z a o (B.keep a o e q np) q,fA vs n (Z _ _ e1 c.nJ)<|e3.mon h.2,az B.t l,B.f,by
  show {z'.s with heap:=h',toks:=tk}=_;rw[B.e]
  rfl⟩
 have U:Rz X' (z'.to h' tk) u d:=Rd.mon rd<|B.mon.trans h.2;rw[show xs.drop j=d::xs.drop (j+1) by rw[H8 L];obtain rfl:=bM (sR L) hd;rfl] at cj;refine aS (by induction vv cj with|mk b a=>exact (ax _ b a): ∃lx,nh tt d (aL l0)=aA (aL lx)/\_) λlx b a=>?_;have b':=b;rw[hL] at b;clear hd F Z hP cj rd R B;refine hT b' (hL.symm▸h.1) U λz3 K3 s3 O=>hA a K3 λok l' g z5 N s5=>?_;have m:=g.1;have g:=g.2;have B5:=c.step K3 (c.step h.1 B1 s3) s5;clear B1 h b' a K3 s3 s5 U hT hA;rw[m] at N;rcases g with ⟨rfl,e⟩|⟨rfl,e⟩
 ·refine sb (QHb rfl)<|(hE e).run N λv aa g w z6 K6 s6 q6=>?_
  have B6:=c.step N B5 s6;have m:=g.1;have g:=g.2;clear N B5 s6 e;rw[m] at K6;induction jU g with
  | @mk y ev e=>clear g m;subst ev;exact WH hC c hsz L lj b K6 B6 q6 (by simp! only[ik];exact e)
 ·rw[if_neg<|by decide]
  exact vi z5 Y rfl (M0 hC b N) B5 e (Hl lj)
theorem n_ (c:Cx D C X X' r z z2 scope xs J fp P St) {s:aN} {h':bK} {R:zq->aN->Prop} (H:CI D C' (X.add J) X' J z2 St ee tt conds xs l0 (fc tt rr) Kc xs.length s) (M: ∀a o,s.heap.get? a=aA o->a≠J->h'.get? a=aA o) (l:s.toks<=tk)
 (k: ∀ys,Kc ys-> ∀h u z',FX D C (X.add h) r z'-> ¬ Ex X.Ob z'.W h->jV C X.env z'.φ h->Sx z z'->(∀a o,z.s.heap.get? a=aA o-> ¬ z.W a->a≠h)->Rz (X.add h) z' u (.list ys)->(∃m,z'.s.heap.Ns h m)->u=.ref z2.s.heap.objs.size->h=(fR z2).objs.size->R (.ok .next) z'.s):
 R (.ok .next) {s with heap:=h',toks:=tk}:=by
 refine oC H λz' Y es K B j Z=>?_;clear H Z;subst es;rw[QEs] at j;have j:Kc (Y++[]):=j;rw[eZ] at j;refine aS K.F.loc λm U O=>?_;rw[c.el] at U;have i:=c.i
 have g:z2.s.heap.get? (fR z2).objs.size=none:=by
  induction q:z2.s.heap.get? (fR z2).objs.size with
  |none=>rfl
  |some o=>exact cb (ie<|bh _)<|gS _ q
 have x:(fR z2).objs.size≠J:=λq=>c.aJ.elim λo e=>by rw[<-q,g] at e;exact ay e
 refine cQ B.acc λvs n e1 A=>?_;have cW:z'.W (fR z2).objs.size:=c.el▸K.F.ku;have L: ∀a o,z2.s.heap.get? a=aA o->a≠J-> ¬ D.P.PF a->h'.get? a=aA o:=λa o e q np=>M a o (B.keep a o e q np) q
 have v:Mon (Ex X'.Ob z'.W) z'.s.heap (Ex (X.add (fR z2).objs.size).Ob z2.W) h':=λa o e n=>⟨M a o e λq=>n<|.inl<|q▸c.xJ,λq=>n (by
  by_cases p:D.P.PF a
  ·exact .inr<|K.F.pf a p
  ·rcases q with (q|q)|q
   ·rw[Ex,c.ho]
    exact .inl ⟨.inl<|.inl<|.inl q,p⟩
   ·exact .inr<|q▸cW
   ·rw[Ex,c.ho]
    exact .inl ⟨.inl<|.inr q,p⟩)⟩
 have Q:=D.P.iU K.F.inv v λa p=>cQ (D.P.iS K.F.inv p) λo vs e d=>e.trans (M a o e λq=>c.Ml<|q▸p).symm▸rfl;have N:=U.at λo e=>M _ o e x
 have Hq:=i.F.F.Fq (λa q=>.inr q) (λa q=>q▸i.nf) L (λa q=>by
  rcases q with q|q
  ·exact aV (i.F.F.dj a<|.inl<|.inl q) λo w=>⟨.inl<|.inl q,o,L a o w (λe=>i.nJ<|.inl<|e▸q) λp=>i.F.F.dT a (i.F.F.pf a p)<|.inl q⟩
  ·exact oI N λo O O w O=>⟨.inr<|q▸g,o,q▸w⟩) Q
 have b: ¬ Ex X.Ob z2.W (fR z2).objs.size:=λq=>aV (i.F.F.dj _<|q.imp .inl id) λo w=>cb g w;refine k _ j (fR z2).objs.size (.ref z2.s.heap.objs.size) {s:={z'.s with heap:=h',toks:=tk},W:=z2.W,φ:=z2.φ} ⟨Hq.1,i.F.R,az i.F.t<|az B.t l⟩ b (i.F.F.BH g) ⟨⟨λa o e w=>?_,i.sx.st.grow⟩,az i.sx.t<|az B.t l,i.sx.f,by rw[B.e,i.sx.e]⟩ (λa o e w q=>?_) ?_ ⟨m,N⟩ rfl rfl
 ·have f:=i.sx.fresh (J:=J) e w
  exact L a o f.1 (i.new a o e w) λp=>f.2<|i.F.F.pf a p
 ·have:=(i.sx.fresh (J:=J) e w).1
  rw[q,g] at this;exact ay this
 ·refine Rd.lst (M _ _ e1 c.nJ) (λq=>?_) (A.mon v)
  rcases q with (q|q)|q
  ·exact aV (i.F.F.dj _<|.inl<|.inl q) λo w=>cb (nD z2) w
  ·rw[show (fR z2).objs.size=z2.s.heap.objs.size+1 from DA ..] at q
   exact Nat.succ_ne_self _ q.symm
  ·exact aV (i.F.F.dj _<|.inr q) λo w=>cb (nD z2) w
end
noncomputable def cX (D:Wd) (scope:jQ) (X:Fx) (J:aM) (z:Zs) (env:cg):Fx:=Fx.mk (X.add J).A {env with scope:=relabel scope (X.add J).env} (tA D (X.add J) z z.s.heap.objs.size)
theorem I2 {U:Option (aI->ba Unit)} {Kc:List aK->Ls->Prop} (t:mw C scope tt target iter) (hI:hZ D C aE iter it) (hT:mx D (C.sub scope.names aB aE hb) target tt) (hA:oQ D (C.sub scope.names aB aE hb) ifs conds) (hE:aZ D (C.sub scope.names aB aE hb) elt ee)
 (e1:it D.o aE l λxs l=>xs.length<=16777216/\cW ee tt conds D.o (oE tt<|oD l) xs λys=>Kc ys l) (K:FX D C X (aL l) z)
 (k: ∀ys L,Kc ys L-> ∀d u z',FX D C (X.add d) (aL L) z'-> ¬ Ex X.Ob z'.W d->jV C X.env z'.φ d->Sx z z'->(∀a o,z.s.heap.get? a=aA o-> ¬ z.W a->a≠d)->Rz (X.add d) z' u (.list ys)->(∃m,z'.s.heap.Ns d m)->compPost (aY D.prog D.w) X.A Er U Q u d (.ok .next) z'.s):
 aO (aY D.prog D.w) X.A (comprehension (.ListComp elt [⟨target,iter,ifs,0⟩] scope pos) scope X.env cpos (newList []) aE (b7 iter X.env) U) Q Er z.s:=by
 have b: ∀x∈scope.names,x.2=.free->(X.env.cells.lookup x.1).isSome=true:=λx N hf=>by
  have h:=(t.free x N hf);have M:=h.1;have f2:=h.2;refine aV (mQ.mp M) λi M=>cQ (K.F.gr x.1 i f2 M) λc v q O=>?_
  simp! only[q]
  rfl
 refine wpAny_comprehension_free (g:=⟨target,iter,ifs,0⟩) (gs:=[]) rfl (t.fold X.env) (LM b) t.kind (λx N hl=>by simp! only[<-hl];exact CU t.nd N) (hI e1 K λxs L e2 z2 J fp P St i=>QEt<|Lg λenv₀ e=>?_);have aa:=e2.1;have e2:=e2.2;have hL:aL (oE tt<|oD L)=fc tt (jc<|aL L):=by simp! only[SY,Xw]
 simp! only[zj]
 refine bA ?_;have K4:FX D (C.sub scope.names aB aE hb) _ _ (zC D scope z2):=Wb (X:=X.add J) (env₀:=env₀) t b i.F e;have p:=(yt scope.names [] b λy c q=>by exact ay q).1;have Z:=(yt scope.names [] b λy c q=>by exact ay q).2;refine bf (i.alive _ _ i.st) λoJ TJ aJ O O=>?_
 have c:Cx D C X (cX D scope X J z2 env₀) (aL L) z z2 scope xs J fp P St:=⟨i,rfl,by rw[e];rfl,by rw[e];rfl,rfl,λx c q=>by
  have h:=t.free _ (show (x,o3)∈scope.names from ((Z x).mpr (by rw[q];rfl)).resolve_right nofun) rfl;refine aV (mQ.mp h.1) λi' M=>bf (i.F.F.gr x i' h.2 M) λc' v q1 n O=>aS n λo w O=>?_;rw[bM (p x c q) q1]
  exact ⟨⟨o,w⟩,i.nf.c x i' _ h.2 M q1⟩,⟨oJ,aJ⟩⟩
 clear b p Z
 exact Uj c.wk (CI D (C.sub scope.names aB aE hb) (X.add J) (cX D scope X J z2 env₀) J z2 St ee tt conds xs (oE tt<|oD L) (fc tt<|jc<|aL L) (Kc · L)) (λj s H=>oC H λO O es O B O O=>es▸B.st) i.alive (vi (zC D scope z2) [] rfl K4 c.b0 e2 (bh _))
  (λs h' tk H Y l=>n_ c H Y l λys kc d u z' f nx nf sx nw rz m eu ec=>eu▸(ec.trans c.el.symm:d=env₀.locals)▸k ys L kc d u z' f nx nf sx nw rz m)
  λj s h' tk u r H hP R Y l Er=>QBn t hT hA hE c hL aa r H hP R Y l Er
theorem Nh (c:mw C scope tt target iter) (i:hZ D C aE iter it) (v:mx D (C.sub scope.names aB aE hb) target tt) (A:oQ D (C.sub scope.names aB aE hb) ifs conds) (l:aZ D (C.sub scope.names aB aE hb) elt ee):
 aZ D C (.ListComp elt [⟨target,iter,ifs,0⟩] scope pos) (.comp ee tt it conds):=λh=>⟨λ{X z Q Er} K k=>by
 rw[eval_ListComp];refine I2 c i v A l h K λY L g d u Z F N q s U r ⟨m,j⟩=>(ax m j λH sb=>?_)
 exact bI (F.drop N q (λa o e n=>(sb.2 a n).trans e)<|bh _) λp M=>k _ _ g u (Z.to H Z.s.toks) p ⟨⟨λa o e n=>(sb.2 a<|U a o e n).trans<|s.st.keep a o e n,s.st.grow⟩,s.t,s.f,by show {Z.s with heap:=H}=_;rw[s.e];rfl⟩<|Rd.mon r M⟩
end
end
end
structure CX (o:aP) (name:aG) (apos pos:bP) (xs:List aP) (ks:List wu):Prop where
 base: ∀env,wq o name env (b7 o env)=b7 o env
 pV: ∀env,methodCallForm (xs.length+ks.length) (mM pos<|fI xs env) (Pq pos<|Pr ks env)=aB
 line:(apos.endLine==pos.line)=aB
section
theorem yC (m:CX x nm a pos xs ks)
 (h:aO M A (b7 x env) (λov N=> ∀pl,aO M A (Cy ov nm pl) (λf H=>aO M A (wj pos f.1 f.2 (mM pos<|fI xs env)<|Pq pos<|Pr ks env) Q Er H) Er N) Er s):
 aO M A (b7 (.Call (.Attribute x nm a) xs ks pos) env) Q Er s:=by
 rw[arm_eval_Call,m.base env];refine aR<|eY h (λov N z=>?_) λO O e=>e;refine aR<|iJ ?_;unfold methodCall;refine sb (m.pV env)<|wpAny_bind<|wpAny_holding<|wpAny_mono (z _) (λf H j=>?_) λO O e=>e
 exact aR (qr (by unfold QEu;simp[m.line]:QEu aB x env a pos=pure pos) j)
theorem MC.k (h:MC o name a pos xs):CX o name a pos xs []:=⟨h.base,h.pV,h.line⟩
theorem Fo {first:List aI}
 (h:aO M A (evalArgs (.ref a) aB args ks) (λx N=>(∃o fd,N.heap.get? a=aA o/\o.data=.func fd)/\aO M A (call (.ref a) (first++x.pos) x.kw) Q Er N) Er s):
 aO M A (wj pos (.ref a) first args ks) Q Er s:=by
 dsimp only[wj];refine aR<|cO<|eY h (λx N K=>?_) λO O x=>x;refine cQ K.1 λo fd q i=>?_;have H:=K.2;refine aR<|iJ ?_;have n: ∀{t:ba aI},aO M A t Q Er N->aO M A (t>>=λr=>oy [r] point>>=λO=>pure r) Q Er N:=λZ=>aR<|eY Z (λr L R=>aR<|cO<|wpAny_point<|bA R) λO O x=>x;cases l:(args.any (·.1)||ks.any (·.1.isNone))<;>
  refine aR ?_<;>dsimp only[Py]<;>
  refine aR (wpAny_load q ?_)<;>rw[i]<;>refine bA ?_
 ·first
   |refine wpAny_ite ?_
   |skip
  split<;>first
   |exact n H
   |exact n (by dsimp only[callMarked];exact Calls.wpAny_keep H)
 ·first
   |exact n (by dsimp only[callMarked];exact Calls.wpAny_keep H)
   |exact n H
theorem FR.Gd {G:bK} (F:FR P G C env Ob φ W r h) (t:i≠bR) (e:r i=.own xs) (l:φ i=aA a) (A:W a)
 (k: ∀b o,h.get? b=aA o->b≠a-> ¬ P.PF b->h'.get? b=aA o) (B:P.Inv (Ex Ob W) h') (u:h'.get? a=aA (listOf vs'.toArray n')) (q:bB (Ex Ob W) h' vs' ys):FR P G C env Ob φ W (upd r i<|.own ys) h'/\dg W h W h':=by
 have st:dg W h W h':=⟨λb o e n=>k b o e (λz=>n<|z▸A) λz=>n<|F.pf b z,λO=>.inl⟩;have np: ∀b o,h.get? b=aA o->(∀vs,o.data≠ .fields vs)-> ¬ P.PF b:=λb o e d p=>by refine cQ (P.iS F.inv p) λo' vs u d'=>?_;clear F t l A k B q st p;obtain rfl:=bM e u;exact d _ d'
 have m:Mon (Ex Ob W) h (Ex Ob W) h':=st.mon;refine dU (F.own i xs e) λa' vs n K U O=>?_;obtain rfl:=bM l K;have ne: ∀b o,h.get? b=aA o->(∀vs n,o.data≠ .seq vs n)->b≠a:=λb o eb d z=>by simp only[z,U] at eb;clear U;cases eb;exact d _ _ rfl
 have g: ∀j v,dZ P φ env.cells (Ex Ob W) h j v (r j)->dZ P φ env.cells (Ex Ob W) h' j v (upd r i (.own ys) j):=by
  intro j v x;by_cases s:j=i
  ·clear t l K
   subst s;unfold upd;erw[if_pos rfl];rw[e] at x;exact x
  ·unfold upd
   erw[if_neg s];induction hr:r j with
   |dz n=>rw[hr] at x;exact iN x λb q e1 e2 L Z=>(jY b q e1 (m _ _ e2 L).1 (m _ _ e2 L).2 Z)
   |_=>rw[hr] at x;exact x.mon m λn e=>by contradiction
 have al: ∀b,(∃o,h.get? b=aA o)-> ∃o,h'.get? b=aA o:=λb ⟨o,w⟩=>by
  by_cases z:b=a
  ·exact ⟨_,z▸u⟩
  ·by_cases pz:P.PF b
   ·exact cQ (P.iS B pz) λo' vs u O=>⟨o',u⟩
   ·exact ⟨o,k _ _ w z pz⟩
 refine aS F.loc λmm R n2=>dU R λoL es ep N nd nr=>⟨⟨λb o w=>k b o (F.base b o w) (λz=>F.fN b o w<|.inr<|z▸A) λz=>F.fN b o w<|.inr<|F.pf b z,F.fN,F.hk,F.hK,F.hg,F.hb,F.rV,⟨mm,⟨oL,es,ep,k _ _ N (ne _ _ N λvs n d=>by rw[nd] at d;contradiction) (np _ _ N λvs d=>by rw[nd] at d;contradiction),nd,nr⟩,λx j p w=>g _ _<|n2 x j p w⟩,F.ku,λx j p w=>?_,F.qj,F.oe,λj Y w=>?_,λcc j Y b w z s=>?_,λY w H b z=>?_,λY w H b z=>?_,λw=>F.lD (λf q'=>(by
  by_cases M:aT=i
  ·exact w ys (by unfold upd;exact sb (QHb M) rfl)
  ·exact w f (by unfold upd;erw[if_neg M];exact q'))),F.inj,λj b w=>al b<|F.j5 j b w,λb w=>al b<|F.dj b w,F.dT,B,F.pf⟩,st⟩
 ·exact bf (F.gr x j p w) λc v e1 Q Z=>aS Q λo L d3=>⟨c,v,e1,(ax o (k _ _ L (ne _ _ L λvs n d=>by rw[d3] at d;clear Q;contradiction) (np _ _ L λvs d=>by rw[d3] at d;clear Q;contradiction)) d3),g _ _ Z⟩
 ·by_cases s:j=i
  ·clear t e K g
   subst s;unfold upd at w;rw[if_pos rfl] at w;cases w;exact (la a vs' n' l u q)
  ·unfold upd at w
   rw[if_neg s] at w;exact dU (F.own j Y w) λb ws n q1 q2 q3=>(la b ws n q1 (k _ _ q2 (λz=>s<|F.inj j i a (z▸q1) l) (np _ _ q2 λvs d=>by clear q2;contradiction))<|q3.mon m)
 ·by_cases M:j=i
  ·clear t e K g w s
   subst M;obtain rfl:=bM l z;exact A
  ·unfold upd at w
   rw[if_neg M] at w;exact F.gH cc j Y b w z s
 ·by_cases M:aT=i
  ·rw[<-M] at l
   clear k B u q st np m K U ne g al R n2 N nd nr;obtain rfl:=bM l z;exact A
  ·unfold upd at w H
   rw[if_neg M] at w;rw[if_neg<|lO t] at H;exact F.jf Y w H b z
 ·unfold upd at H
  rw[if_neg<|lO t] at H;by_cases M:aT=i
  ·rw[<-M] at e
   exact F.ko xs e H b z
  ·unfold upd at w
   rw[if_neg M] at w;exact F.ko Y w H b z
theorem FR.write {G:bK} (F:FR P G C env Ob φ W r h) (t:i≠bR) (e:r i=.own xs) (l:φ i=aA a) (p:W a)
 (k: ∀b o,h.get? b=aA o->b≠a->h'.get? b=aA o) (u:h'.get? a=aA (listOf vs'.toArray n')) (q:bB (Ex Ob W) h' vs' ys):FR P G C env Ob φ W (upd r i<|.own ys) h'/\dg W h W h':=by
 refine F.Gd t e l p (λb o e n O=>k b o e n) (P.iU F.inv (dg.mon ⟨λb o e n=>k b o e λz=>n<|z▸p,λO=>.inl⟩)<|F.tB λb o v w d O=>k b o w λz=>?_) u q;refine dU (F.own i xs e) λA v n m j O=>?_;obtain rfl:=bM l m;simp only[z,j] at w;cases w;contradiction
end
section
variable {fl:Bool}
theorem FX.ct (K:FX D C X r z) (c:CT D (Ex X.Ob z.W) (λO=>False) z.s s') (l:z.s.toks<=s'.toks):FX D C X r {z with s:=s'}/\Sx z {z with s:=s'}:=by have Z: ∀a o,z.s.heap.get? a=aA o-> ¬ D.P.PF a->s'.heap.get? a=aA o:=λa o e p=>c.keep a o e id p;exact ⟨⟨K.F.keepsP Z c.inv,K.R,az K.t l⟩,⟨K.F.CZ Z,l,rfl,c.e⟩⟩
theorem FX.keeps (K:FX D C X r z) (k: ∀a o,z.s.heap.get? a=aA o->h'.get? a=aA o) (l:z.s.toks<=tk):FX D C X r (z.to h' tk)/\Sx z (z.to h' tk):=⟨K.kl (.all k) l,.kl K (.all k) l⟩
theorem KE.ct (k:KE D C X r z (.d d) Q) (K:FX D C X r z) (c:CT D (Ex X.Ob z.W) (λO=>False) z.s s') (q:Rd (Ex X.Ob z.W) s'.heap u d):z.s.toks<=s'.toks->Q u s':=λl=>k u _ (K.ct c l).1 (K.ct c l).2 q
theorem TL [H:dA D] (hn:D.fns[f]?=aA nm) (r:D.mg nm=aA (.ref i)) (x:D.G.get? i=aA o) (hd:o.data=.func fd) (B:nB C nm) (P:Pl xs) (a:fu D C xs es):aZ D C (.Call (.Name nm p) xs [] pos) (.call f es):= @λO O h=>
 ⟨λ{X z Q Er} K k=>qp (qe K B r (zr (gG (P X.env pos) (kP (a h) K λN l U L g R s v=>⟨⟨R.F.base _ _ x,hd⟩,by
  clear x a h K;induction g with
  |mk e g=>
   refine uP (H.F _ _ _ e) λn Z M W b d O O j=>?_;clear H hd B P e;obtain rfl:=bM hn b;cases bM r d
   exact wpAny_toks<|j R.cs v λu A c q=>((k _ _ g).tr s).ct R c q⟩))))⟩
theorem Sg [H:dA D] (c:D.cN f C) (ok:iD C nm i) (a:Pl xs) (A:fu D C xs es):aZ D C (.Call (.Name nm p) xs [] pos) (.i9 f i es):= @λO O h=>⟨λ{X z Q Er} K k=>qp (uO K ok λv q=>by
 have hf:=h.1;have h:=h.2;simp only[hf] at q
 exact aS q λF M cl=>(ax _ M (Fo (gG (a X.env pos) (kP (A h) K λds l us Z g R s1 r1=>⟨H.J3<|D.P.ym cl s1.mon,by
  induction g with|mk e g=>exact H.L _ _ _ _ _ e c R (D.P.ym cl s1.mon) r1<|(k _ _ g).tr s1⟩)))))⟩
theorem FX.hl {u:V} (K:FX D C X r z) (h:r aT=.own hs) (q:Vz D X z x .inst): ∃R i vs n,x=.ref R/\z.φ aT=aA i/\D.P.HI (Ex X.Ob z.W) z.s.heap R i/\z.s.heap.get? i=aA (listOf vs.toArray n)/\bB (Ex X.Ob z.W) z.s.heap vs hs:=by refine bf q λR i p Q l=>dU (K.F.own _ _ h) λL vs n f A e=>?_;obtain rfl:=bM p f;exact (EP R i vs n Q p l A e)
section
variable[H:dA D]
include H
theorem JW {ds hs hs':List aK} (j:qy D f ds hs d hs') (K:FX D C X r z) (q:Vz D X z x .inst) (h:r aT=.own hs) (L:r bR=.emp) (rs:iV X z us ds) (k:KE D C X (upd r aT<|.own hs') z (.d d) Q):aO (aY D.prog D.w) X.A (call (.ref f)<|x::us) Q Er z.s:=by refine uP (K.hl (u:=.emp) h q) λM Y vs n m P p3 p5 a=>sb m ?_;have W:=K.F.jf _ h L _ P;refine wpAny_toks<|j K.cs p3 (.inr W) p5 a rs λu Z aa n' c U B v l=>?_;exact bI (K.F.Gd (i:=aT) (by decide) h P W (λb o e n p=>c.keep b o e n p) c.inv U B) λg N=>k u {z with s:=Z} ⟨g,K.R,az K.t l⟩ ⟨N,l,rfl,c.e⟩ v
theorem PH {k:Nat} {ds:List aK} (hn:D.hm k=aA (nm,f)) (K:FX D C X (aL l) z) (q:Vz D X z u .inst) (rs:iV X z us ds) (g:iX l aT λhs=>aL l bR=.emp/\xw (D.o.H k ds hs) λz hs'=>r (.d z)<|cL l aT<|.own hs') (i:KW D C X z r Q):aO (aY D.prog D.w) X.A (call (.ref f)<|u::us) Q Er z.s:=by
 induction i6 g with
 |mk h g=>
  refine bI g λm g=>?_;induction g with
  |mk e g=>refine cQ (H.H _ _ _ _ _ e) λn F b c=>?_;cases bM hn b;exact JW c K q h m rs<|fS _ _ _▸i _ _ g
theorem XM {k:Nat} (hn:D.hm k=aA (nm,f)) (P:k<20) (m:MC x nm A pos xs) (M:aZ D C x a) (q:fu D C xs es):aZ D C (.Call (.Attribute x nm A) xs [] pos) (.j4 k a es):= @λO O h=>⟨λ{X z Q Er} K p=>by
 refine cQ (H.vM _ _ _ hn) λo j Y U=>yC m.k<|(M h).run K λv L h t Z R i b=>λpl=>?_;obtain ⟨rfl,h⟩:=AV h;have r:=b;refine bf r λB N u e n=>?_;subst e
 exact H.zQ _ _ _ hn P R.F.base n<|zr<|gG (m.pl X.env)<|kP (q h) R λds l us W g d s c=>⟨⟨d.F.base _ _ Y,U⟩,PH hn d (b.mon s) c g λO O g=>(p _ _ g).tr<|i.trans s⟩⟩
theorem QAC {k:Nat} (hn:D.hm k=aA (nm,f)) (m:20<=k) (q:nB C nm) (P:Pl (x::xs)) (hs: ∀env,fI (x::xs) env=(aE,b7 x env)::fI xs env) (M:aZ D C x a) (A:fu D C xs es):
 aZ D C (.Call (.Name nm p) (x::xs) [] pos) (.j4 k a es):=λh=>⟨λ{X z Q Er} K u=>by
 refine cQ (H.vM _ _ _ hn) λo fd Y U=>qp<|qe K q (H.Lm _ _ _ hn m)<|zr (o:=o) (fd:=fd)<|gG (P X.env pos) ?_;refine sb (hs X.env)<|spliced_cons<|(M h).run K λv L h t Z R i b=>?_
 have B:=(AV h);have d:=B.1;have h:=B.2;clear B;subst d
 exact kP (A h) R λj l N W g c s r=>⟨⟨c.F.base _ _ Y,U⟩,PH hn c (b.mon s) r g λO O g=>(u _ _ g).tr<|i.trans s⟩⟩
theorem Yg {k:Nat} (hn:D.hm k=aA (nm,f)) (Y:k<20) (m:MC x nm A pos xs) (M:aZ D C x a) (Z:fu D C xs es):aZ D C (.Call (.Attribute x nm A) xs [] pos) (.jZ k a es):= @λO O h=>⟨λ{X z Q Er} K t=>by
 refine cQ (H.vM _ _ _ hn) λo fd q3 q4=>yC m.k<|(M h).run K λv l1 h ov z1 b i r1=>λpl=>?_;obtain ⟨rfl,h⟩:=AV h;have P:=r1;refine bf P λix ia p1 r p3=>?_;subst r;refine H.zQ _ _ _ hn Y b.F.base p3<|zr<|gG (m.pl X.env)<|kP (Z h) b λds l us z3 g d s B=>⟨⟨d.F.base _ _ q3,q4⟩,?_⟩;induction i6 g with
 |mk U g=>
  induction g with
  |mk e g=>
   refine cQ (H.R _ _ _ _ e) λN W q1 j=>?_;cases bM hn q1;refine uP (d.hl (u:=.emp) U<|r1.mon s) λL aa vs n e p4 p5 p p7=>?_;cases e
   exact wpAny_toks<|j d.cs p5 p p7 B λu s' c q=>((t _ _ g).tr<|i.trans s).ct d c q⟩
theorem J7 (K:FX D C X r z) (o:iD C nm 0) (b:r 0=.inst) (h: ∀i N,z.φ aT=aA N->D.P.HI (Ex X.Ob z.W) z.s.heap i N->Q (.ref i) z.s):aO (aY D.prog D.w) X.A (b7 (.Name nm p) X.env) Q Er z.s:=uO K o λv q=>by simp only[b] at q;exact bf q λi N x e d=>(ax _ e<|h i N x d)
theorem Rv (ok:iD C nm 0) (hb: ∀env,wq (.Name nm p) "_headers" env (b7 (.Name nm p) env)=b7 (.Name nm p) env):aZ D C (.Attribute (.Name nm p) "_headers" pos) .fE:= @λO O h=>⟨λ{X z Q Er} K k=>by
 refine aR<|J7 K ok h.1 λR i e1 d=>aR<|iJ<|aR<|cO<|wpAny_toks<|H.JZ K.F.base d λtk l=>?_
 exact aR<|bA<|bA<|k _ _ h.2 _ (z.to z.s.heap tk) (K.kl (.refl _ _) l) (.kl K (.refl _ _) l)<|ax i e1 rfl⟩
theorem QAH (h:aZ D C x .fE):hZ D C fl x .fE:= @λl r g=>λK k=>by
 refine eN g λb i g=>?_;induction i6 g with
 |mk A g=>refine (h (K:=λv L=>v=.bor aT/\L=l) ⟨b,rfl,rfl⟩).run K ?_;clear H h K b;intro _ _ n u z R s Q;obtain ⟨rfl,rfl⟩:=n;exact BC R Q (.q<|.l<|.bor A) (λf j e a d=>by cases e;exact R.F.ko _ A (i f) a d)<|(k _ _ g).tr s
theorem YS {p ap q1 q2:bP} (ok:iD C nm 0) (hm:CX (.Name nm p) "_convert_string_type" ap pos [y] [⟨aA "name",.Constant (.bool b) W q1,q2⟩]) (hs: ∀env,fI [y] env=[(aE,b7 y env)]) (A:aZ D C y a):
 aZ D C (.Call (.Attribute (.Name nm p) "_convert_string_type" ap) [y] [⟨aA "name",.Constant (.bool b) W q1,q2⟩] pos) (.conv b a):=λh=>⟨λ{X z Q Er} K k=>by
 refine bI h λh0 h=>aS (H.conv b) λf g1 g2=>cQ (H.vM _ _ _ g1) λo fd g3 Y=>yC hm (J7 K ok h0 λi B c p3 pl=>H.zQ _ _ _ g1 (by decide) K.F.base p3<|Fo<|evalArgs_kw2 rfl ?_ (by simp only[hs X.env];rfl));simp only[hs X.env];refine ua<|(A h).run K λv N g u L j s1 r1=>lP<|kwAll_cons<|HG<|kwAll_nil ?_;induction Ol g with
 |mk e g=>
  subst e;refine aV (Rd.dM r1) λt' s=>sb s<|⟨(fA o fd (j.F.base _ _ g3) Y),wpAny_toks<|g2 _ g.1 j.R j.t j.F.base (D.P.kN p3 s1.mon) λh' tk Z l=>?_⟩
  exact bI (j.keeps Z l) λx s2=>k _ _ g.2 _ _ x (s1.trans s2)<|Rd.str _ _⟩
theorem QDR (ok:nB C "b1_set") (A:aZ D C x a):aZ D C (.Compare x [.In] [.Name "b1_set" p] pos) (.pT a):= @λO O h=>aS H.b1 λb q1 q2=>⟨λK k=>Pk (qQ (A h) K λi l t' z g j s1=>qe j ok q1<|wpAny_toks<|q2 j.R j.F.base λtk=>((k _ _ g).tr s1).same j<|Rd.bool _) rfl⟩
theorem QDP (o:nB C "b3_exceptions") (m:MC (.Name "b3_exceptions" p) "get" A pos [y]) (hs: ∀env,fI [y] env=[(aE,b7 y env)]) (s:aZ D C y a):
 aZ D C (.Call (.Attribute (.Name "b3_exceptions" p) "get" A) [y] [] pos) (.qF a):=λh=>⟨λ{X z Q Er} K k=>by
 refine oC H.b3 λd B n b Y f q=>wx (m.base X.env) (m.pV X.env) m.line<|qe K o n ?_;refine ⟨"dict","dict.get",QEv,QEw,PySem.F.type_dict_get,⟨B,K.F.base _ _ b,Y⟩,λa e=>(by cases e;exact (ax B (K.F.base _ _ b) f)),wm (m.pl X.env)<|gG (m.pl X.env) ?_⟩
 exact sb (hs X.env)<|spliced_cons<|qQ (s h) K λi l t Z g j U=>lP<|wpAny_toks<|q j.R j.F.base λu v r=>((k _ _ g).tr U).same j<|r _ _⟩
theorem ZO (hk:C.K "type" =aA .globalImplicit) (hk2:C.K "int" =aA .globalImplicit) (hp:Pl [x]) (hs: ∀env,fI [x] env=[(aE,b7 x env)]) (ha:aZ D C x a):
 eQ D C (.Compare (.Call (.Name "type" p1) [x] [] p) [.IsNot] [.Name "int" p2] pos) (.yq a):=λh=>⟨λ{X z Q Er} K k=>by
 refine Hr (qp<|zM K hk (by decide+kernel) (u:=.type "type") (by lia)<|wo (hp X.env p)<|gG (hp X.env p) ?_) rfl
 exact sb (hs X.env)<|spliced_cons<|qQ (ha h) K λi l t' z1 g K1 s1=>lP<|Pz (typeIs_int _ _ _) (by decide+kernel)<|zM K1 hk2 (by decide+kernel) (u:=.type "int") (by lia)<|Pn rfl (ou<|k _ _ g _ K1 s1)⟩
end
end
section
variable {A:cV} {E:aI->aN->Prop}
theorem QEG {I:aM} {St:Nat->bK->Prop} (W:sQ prog w A I fp [I] N P St): ∀n i s Q,St i s.heap->i+n<=N->
 (∀vs h' tk,vs.length=n->(∀j v,vs[j]?=aA v->P (i+j) v)->St (i+n) h'->(∀b o,b≠I->s.heap.get? b=aA o->h'.get? b=aA o)->Q vs {s with heap:=h',toks:=tk})->aO (aY prog w) A (draw (.ref I) n) Q E s:=by
 intro O;induction O with
 |zero=>exact λi s Q f O h=>by exact bA (h [] s.heap s.toks rfl (by simp) f λO O O e=>e)
 |succ n d=>
  exact λi s Q f p h=>by
   refine aR<|W.item i s _ _ (ig (mO _ _) ‹_›) f λv H t C q K=>?_;refine aR<|cO<|d (i+1) _ _ q (aQ p) λvs h' tk l m Z x=>bA ?_;refine h (v::vs) h' tk (by simp[l]) (λj u g=>?_) (by erw[(by simp+arith:i+(n+1)=i+1+n)];exact Z) λb o B e=>x b o B (K b o (by simpa using B) e);induction j with
   |zero=>cases g;exact C
   |succ j=>have:=m j u g;rwa[show i+1+j=i+(j+1) by exact zt _ _ _] at this
theorem UB {items:Array aI} (C:A.handled=aF) (hl:s.heap.IsList a items)
 (h: ∀h' tk,(∀b o,s.heap.get? b=aA o->h'.get? b=aA o)->Q items.toList {s with heap:=h',toks:=tk}):aO (aY prog w) A (QA (.ref a) items.size aF) Q E s:=by
 dsimp only[QA];refine aR ?_;dsimp only[notIterableAtAll];refine aR<|QEx hl.typeIs PySem.F.slot_list_iter.lookup ?_;refine bA ?_
 skip
 refine aR<|cO<|QEq hl ?_;have W:=Walks.list (prog:=prog) (w:=w) C s.heap.objs.size a (by refine aS hl λo B O=>?_;exact qo (kh B):a≠s.heap.objs.size) items;refine aR (cO<|QEG W items.size 0 _ _ ⟨(gd _ (fH _ rfl) rfl rfl),hl.push _⟩ (by simp+arith) λvs z d l P q p=>?_)
 have v:vs=items.toList:=by
  refine QEy λj=>?_;by_cases g:j<vs.length
  ·have:=P j vs[j] (sR g)
   erw[sR g];simpa using this.symm
  ·erw[DC<|jN ‹_›]
   exact sb (DC (by simp;exact bD (nR l)<|jN g)) rfl
 refine sb (QHa λK=>cY K<|nR l)<|wpAny_bind (wpAny_holding<|W.done _ _ _ (by rw[Nat.zero_add] at q;exact q) λH t r=>?_)
 dsimp only[Option.isSome_none,wy,if_false];refine sb v<|wpAny_pure<|h H t λb o e=>?_
 have hb:=qo<|kh e;exact r b o (by simpa using hb)<|p b o hb<|gS _ e
theorem NQ {items:Array aI} {k:Int} (hl:s.heap.get? l=aA (listOf items n)) (h0:0<=k) (F:k<2^63) (hn:k<items.size)
 (hQ: ∀h' n',h'.get? l=aA (listOf (items.setIfInBounds k.toNat v) n')->Hk l s.heap h'->Q () {s with heap:=h'}):
 aO (aY prog w) A (H9 (.ref l) (.int k t) v) Q E s:=by
 have L:s.heap.IsList l items:=⟨_,hl,rfl,n,rfl⟩;unfold H9
 try with_reducible refine cO ?_
 first|refine wpAny_bind (wpAny_pure ?_)|skip
 refine aR (QEz L.typeIs (by decide) ?_)
 refine aR (QFA L.typeIs IA
  (IB IA L.typeIs QFB ?_<|QFC _ _ _))
 refine (?_:aO _ _ (Builtin.List.listSubscript? (.int k t)>>=_) _ _ s);refine aR<|wpAny_listSubscript_int (fitsIndex_of h0 F) ?_;clear F;refine aV (IC h0) λj e=>?_;subst e;have g:j<items.size:=mF.mp ‹_›
 have x:=QFD g;refine aR<|aR<|wpAny_seqItemAt hl rfl (bA ?_);erw[x];have f: ∃n',(s.heap.update l<|Obj.mapSeq (·.setIfInBounds j v)).get? l=aA (listOf (items.setIfInBounds j v) n'):=by refine ⟨if (items.setIfInBounds j v).size==items.size then n else n+1,?_⟩;erw[wz _ hl<|by rfl];rfl
 refine aV f λn' f=>aR<|wpAny_setSeqItemAt hl rfl ?_
 first
  |exact wpAny_bind<|wpAny_pure<|wpAny_pure<|ax .none rfl (wpAny_pure<|hQ _ n' f<|Heap.SameBut.update ..)
  |exact wpAny_pure ⟨.none,rfl,wpAny_pure<|hQ _ n' f<|Heap.SameBut.update ..⟩
end
section
theorem jj (W:jo [t] i pos.line env=pure aE) (e:mT [t] i env=pure aF) (a:(uj [t] env).map (·.2)=[mR t env])
 (h:aO M A (b7 i env) (λu N=>aO M A (mR t env u) (λO H=>Q .next H) Er N) Er s):aO M A (o6 (.Assign [t] i pos) env) Q Er s:=by
 rw[QB];refine aR<|iJ ?_;refine sb W<|wpAny_bind<|wpAny_pure ?_
 refine sb (QHa<|by decide)<|wpAny_bind<|wpAny_mono h (λv N z=>?_) λO O x=>x
 refine sb e<|sb a<|wpAny_bind<|wpAny_pure ?_
 exact aR<|eY z (λO O x=>bA x) λO O x=>x
theorem bB.rev {X:aM->Prop}: ∀{ds:List aK} {us:List aI},bB X h us ds->bB X h us.reverse ds.reverse:=by
 intro ds;induction ds with
 |nil=>exact @λus q=>sb q.kK<|bB.nil
 |cons d ds i=>exact @λus q=>by refine bf q.hU λu us e Q s=>sb e ?_;simp only[zv,zv];exact (i s).app<|bB.cons Q bB.nil
theorem Xu: ∀(ps:List (Nat×aK)) (r:bQ) (i:Nat) (d:aK),i∉ps.map (·.1)->ps.foldl (λr p=>upd r p.1<|.val p.2) (upd r i<|.val d)=upd (ps.foldl (λr p=>upd r p.1<|.val p.2) r) i (.val d):=by
 intro O;induction O with
 |nil=>exact λr i d O=>rfl
 |cons p ps e=>
  exact λr i d h=>by
   refine sb ot<|sb List.foldl_cons ?_
   have:upd (upd r i<|.val d) p.1 (.val p.2)=upd (upd r p.1<|.val p.2) i (.val d):=by
    funext j;unfold upd;by_cases H:j=p.1
    ·exact sb (QHb H)<|sb (if_neg (by rw[H];exact (λq=>h<|by simp[q])))<|sb (if_pos H) rfl
    ·rw[if_neg H,if_neg H]
   rw[this];exact e _ i d λq=>h (by rw[gB];exact .tail _ q)
theorem QBQ: ∀(ps:List (Nat×aK)) (r:bQ),(ps.map (·.1)).Nodup->ps.reverse.foldl (λr p=>upd r p.1<|.val p.2) r=ps.foldl (λr p=>upd r p.1<|.val p.2) r:=by
 intro O;induction O with
 |nil=>exact λr O=>rfl
 |cons p ps i=>exact λr h=>by simp only[gB,Pu] at h;simp only[zv,List.foldl_append,i r h.2,ot,List.foldl_nil,ot,Xu ps r p.1 p.2 h.1]
theorem NO {α β:Type}: ∀{l:List α} {m:List β},l.length=m.length->l.reverse.zip m.reverse=(l.zip m).reverse:=by
 intro l;induction l with
 |nil=>exact λO=>rfl
 |cons a l i=>
  exact @λm h=>by
   induction m with
   |nil=>contradiction
   |cons b m O=>
    have H:l.length=m.length:=by simpa using h
    refine sb zv<|sb List.reverse_cons<|sb (List.zip_append<|by simp[H])<|sb (i H) ?_
    simp
structure si (C:Fc) (W:aM->Prop) (h:bK) (φ φ':Nat->Option aM):Prop where
 nw:C.nw=aE->φ'=φ
 hn:C.hn=aE->φ' aT=φ aT
 sub: ∀i a,φ' i=aA a->(∃j,φ j=aA a)\/W a\/h.get? a=aF
theorem si.refl (C φ) {W h}:si C W h φ φ:=⟨λO=>rfl,λO=>rfl,λi a e=>.inl ⟨i,e⟩⟩
theorem dg.new (s:dg W h W' h') (e:h'.get? a=aF):W a\/h.get? a=none:=by
 by_cases w:W a
 ·exact .inl w
 ·induction z:h.get? a with
  |none=>exact .inr rfl
  |some o=>have:=s.keep a o z w;exact cb e this
theorem si.trans {C W h W' h' φ φ' φ''} (a:si C W h φ φ') (s:dg W h W' h') (b:si C W' h' φ' φ''):si C W h φ φ'':=⟨λz=>(b.nw z).trans<|a.nw z,λz=>(b.hn z).trans<|a.hn z,λi x e=>by
 rcases b.sub i x e with ⟨j,q⟩|q|q
 ·exact a.sub j x q
 ·exact .inr<|s.grow x q
 ·exact .inr<|s.new q⟩
theorem FR.Sd {G:bK} (F:FR P G C env Ob φ W r h) (k:Kl env.locals h h') {I:aM} (t:h.get? I=aF) (i: ∃o,h'.get? I=aA o):FR P G C env (λa=>Ob a\/a=I) φ W r h':=by have m:Mon (Ex Ob W) h (Ex (λa=>Ob a\/a=I) W) h':=λa o e n=>⟨k.keep a o e λq=>n<|.inr<|q▸F.ku,λq=>n<|q.imp (λq=>q.resolve_right λz=>cb (z▸t) e) id⟩;exact F.chg m (λa o e s O=>k.keep a o e<|F.nl e s.nd) k.ns (λa q=>F.Ni i (F.MT k) q) (F.Mo t)<|F.MM k m
theorem FR.adopt {G:bK} (F:FR P G C env (λb=>Ob b\/b=a) φ W (upd r i .unb) h) (H:i≠aT) (t: ∀j k n,upd r i .unb j=.dz n->cR j k≠i) (al: ∃o,h.get? a=aA o) (na: ¬ Ex Ob W a) (nf:jV C env φ a):
 FR P G C env Ob (λj=>if j=i then aA a else φ j) (λb=>W b\/b=a) (upd r i .unb) h:=by
 have M:Ex (λb=>Ob b\/b=a) W=Ex Ob (λb=>W b\/b=a):=by
  funext b;refine propext ⟨λq=>?_,λq=>?_⟩
  ·rcases q with (q|q)|q
   ·exact .inl q
   ·exact .inr<|.inr q
   ·exact .inr<|.inl q
  ·rcases q with q|q|q
   ·exact .inl<|.inl q
   ·exact .inr q
   ·exact .inl<|.inr q
 have B: ∀j v,dZ P φ env.cells (Ex (λb=>Ob b\/b=a) W) h j v (upd r i .unb j)->dZ P (λj=>if j=i then aA a else φ j) env.cells (Ex Ob λb=>W b\/b=a) h j v (upd r i .unb j):=by
  intro j v x;erw[<-M];by_cases s:j=i
  ·erw[<-s]
   have:upd r j .unb j=.unb:=by unfold upd;exact sb (QHb rfl) rfl
   erw[this];trivial
  ·have e1:(if j=i then aA a else φ j)=φ j:=QHa s
   have e2:(if aT=i then aA a else φ aT)=φ aT:=QHa<|lO H;induction hr:upd r i .unb j with
   |own xs=>rw[hr] at x;exact aS x λb q1 q2=>(ax b (by refine (?_:(if j=i then aA a else φ j)=aA b);erw[e1];exact q1) q2)
   |ali k=>rw[hr] at x;obtain ⟨q0,b,q1,q2⟩:=x;subst q0;exact ⟨rfl,b,by refine (?_:(if aT=i then aA a else φ aT)=aA b);erw[e2];exact q1,q2⟩
   |inst=>rw[hr] at x;exact bf x λy b q1 q2 Y=>(cz y b (by refine (?_:(if aT=i then aA a else φ aT)=aA b);erw[e2];exact q1) q2 Y)
   |dz n=>rw[hr] at x;refine iN x λb m q1 q2 Y l=>?_;have u: ∀k,(if cR j k=i then aA a else φ (cR j k))=φ (cR j k):=λk=>QHa<|t j k n hr;refine (jY b m q1 ?_ Y (λk hk=>by refine (?_:(if cR j k=i then aA a else φ (cR j k)).isSome=aB);rw[u];exact l k hk));simp only[u];exact q2
   |unb=>trivial
   |val d=>rw[hr] at x;exact x
   |clo f=>rw[hr] at x;exact x
   |emp=>rw[hr] at x;exact x
 have R: ∀j b,(if j=i then aA a else φ j)=aA b->(j=i/\b=a)\/(j≠i/\φ j=aA b):=λj b q=>by
  by_cases s:j=i
  ·clear F t al na nf M H B
   obtain rfl:=bM (QHb s) q;exact .inl ⟨s,rfl⟩
  ·rw[if_neg s] at q
   exact .inr ⟨s,q⟩
 refine aS F.loc λL U N=>⟨F.base,λb o e q=>F.fN b o e (by erw[M];exact q),F.hk,F.hK,F.hg,F.hb,F.rV,(ax L U λx j p q=>B _ _<|N x j p q),.inl F.ku,λx j p q=>?_,λx j c p q w z=>.inl<|F.qj x j c p q w z,F.oe,λj ys q=>?_,λcc j ys b q p z=>?_,λys q p b z=>?_,λys q p b z w=>?_,λq=>(by refine (?_);erw[if_neg<|lO H];exact F.lD q),λj k b q1 q2=>?_,λj b q=>?_,λb q=>F.dj b (by erw[M];exact q),λb w q=>?_,M▸F.inv,λb p=>.inl<|F.pf b p⟩
 ·exact bf (F.gr x j p q) λc v e1 u A=>(cz c v e1 u<|B _ _ A)
 ·have s:j≠i:=λz=>by clear t B N;clear al na nf H R U;subst z;unfold upd at q;rw[if_pos rfl] at q;exact nomatch q
  exact dU (F.own j ys q) λb vs n e1 e2 u=>(la b vs n (by refine (?_);erw[if_neg s];exact e1) e2<|M▸u)
 ·rcases R j b p with ⟨_,z'⟩|⟨s,Q⟩
  ·exact .inr z'
  ·exact .inl<|F.gH cc j ys b q Q z
 ·rcases R aT b z with ⟨z',_⟩|⟨_,Q⟩
  ·exact QHZ z'.symm H
  ·exact .inl<|F.jf ys q p b Q
 ·rcases R aT b z with ⟨z',_⟩|⟨_,Q⟩
  ·exact QHZ z'.symm H
  ·refine cp (w) (λw=>?_) λw=>?_
   ·exact F.ko ys q p b Q w
   ·exact nf.p aT<|w▸Q
 ·rcases R j b q1 with ⟨Z,z2⟩|⟨Z,z2⟩<;>rcases R k b q2 with ⟨K,g⟩|⟨K,g⟩
  ·simp only[Z,K]
  ·exact QHZ g<|z2▸nf.p k
  ·exact QHZ z2<|g▸nf.p j
  ·exact F.inj j k b z2 g
 ·rcases R j b q with ⟨Z,z2⟩|⟨Z,z2⟩
  ·exact z2▸al
  ·exact F.j5 j b z2
 ·refine cp (w) (λw=>?_) λw=>?_
  ·exact F.dT b w<|.inl q
  ·exact na<|.inl<|w▸q
end
theorem Js:Ex (λb=>Ob b\/b=a) W=Ex Ob (λb=>W b\/b=a):=by funext b;exact propext ⟨λq=>q.elim (λq=>q.elim .inl λq=>.inr<|.inr q) λq=>.inr<|.inl q,λq=>q.elim (λq=>.inl<|.inl q) λq=>q.elim .inr λq=>.inl<|.inr q⟩
structure Sy (C:Fc) (z z':Zs):Prop where
 st:dg z.W z.s.heap z'.W z'.s.heap
 t:z.s.toks<=z'.s.toks
 p:si C z.W z.s.heap z.φ z'.φ
 e:z'.s={z.s with heap:=z'.s.heap,toks:=z'.s.toks,drawn:=z'.s.drawn}
theorem Sx.y (s:Sx z z'):Sy C z z':=⟨s.st,s.t,s.f▸ .refl _ _,s.e⟩
theorem Sy.trans (a:Sy C z z') (b:Sy C z' z''):Sy C z z'':=⟨a.st.trans b.st,az a.t b.t,a.p.trans a.st b.p,by (erw[b.e];exact sb a.e rfl)⟩
theorem Sy.fresh (s:Sy C z z') (e:z.s.heap.get? a=aA o) (n: ¬ z.W a):z'.s.heap.get? a=aA o/\ ¬ z'.W a:=⟨s.st.keep a o e n,λq=>(s.st.grow a q).elim n λq=>by exact wD e q⟩
inductive CJ (D:Wd) (X:Fx) (r:bQ) (z:Zs):Fl->hM->Prop
 |next:CJ D X r z .next .next
 |cont:CJ D X r z .cont .cont
 |ret {v u d}:Vz D X z v u->yO r u d->CJ D X r z (.ret d) (.ret v)
noncomputable def KS (D:Wd) (C:Fc) (X:Fx) (r:bQ) (z:Zs) (fl:Fl) (Q:hM->aN->Prop):Prop:= ∀f Z,FX D C X r Z->Sy C z Z->CJ D X r Z fl f->Q f Z.s
noncomputable def PO (D:Wd) (C:Fc) (X:Fx) (z:Zs) (K:Fl->Ls->Prop) (Q:hM->aN->Prop):Prop:= ∀f l,K f l->KS D C X (aL l) z f Q
noncomputable def bV (D:Wd) (C:Fc) (st:cq) (a:S):Prop:= ∀{l K},a D.o l K-> ∀{X:Fx} {z:Zs} {Q:hM->aN->Prop} {Er:aI->aN->Prop},FX D C X (aL l) z->PO D C X z K Q->aO (aY D.prog D.w) X.A (o6 st X.env) Q Er z.s
noncomputable def ji (D:Wd) (C:Fc) (h:List cq) (as:List S):Prop:= ∀{l K},sW as D.o l K-> ∀{X:Fx} {z:Zs} {Q:hM->aN->Prop} {Er:aI->aN->Prop},FX D C X (aL l) z->PO D C X z K Q->aO (aY D.prog D.w) X.A (fX h X.env) Q Er z.s
structure NL (D:Wd) (C:Fc) (X:Fx) (r:bQ) (z:Zs) (xs:List aK) (a:aM) (vs:List aI) (n:Nat) (z':Zs):Prop where
 F:FX D C (X.add a) r z'
 s:Sx z z'
 e:z'.s.heap.get? a=aA (listOf vs.toArray n)
 q:iV (X.add a) z' vs xs
 na: ¬ Ex X.Ob z'.W a
 nf:jV C X.env z'.φ a
 nw:z.W a\/z.s.heap.get? a=aF
noncomputable def qc (D:Wd) (C:Fc) (x:aP) (e:E):Prop:= ∀{l} {K:List aK->Ls->Prop},e D.o l (λv l=>i4 v λd=> ∃R,d=.list R/\K R l)-> ∀{X:Fx} {z:Zs} {Q:aI->aN->Prop} {Er:aI->aN->Prop},FX D C X (aL l) z->(∀R l,K R l-> ∀a m n Z,NL D C X (aL l) z R a m n Z->Q (.ref a) Z.s)->aO (aY D.prog D.w) X.A (b7 x X.env) Q Er z.s
section
theorem KS.tr (k:KS D C X r z fl Qs) (s:Sy C z z'):KS D C X r z' fl Qs:=λf Z K n q=>k f Z K (s.trans n) q
theorem KS.nx (k:KS D C X r z .next Qs) (K:FX D C X r z') (s:Sx z z'):Qs .next z'.s:=k _ _ K s.y .next
theorem JD:ji D C [] []:= @λO O h=>λK k=>zy<|(k _ _ h).nx K .refl
theorem tP {st:cq} (A:bV D C st s) (H:ji D C sts ss):ji D C (st::sts) (s::ss):= @λO O h=>λK k=>ip (A h K λF l g f z R i o=>by
 induction o with
 |next=>exact H g R λO O g=>(k _ _ g).tr i
 |cont=>exact k _ _ g _ _ R i .cont
 |ret q Q=>exact k _ _ g _ _ R i<|.ret q Q)
theorem JT (W: ∀env,jo [c] x pos.line env=pure aE) (s: ∀env,mT [c] x env=pure aF) (A: ∀env,(uj [c] env).map (·.2)=[mR c env]) (M:aZ D C x a) (d:mx D C c t):bV D C (.Assign [c] x pos) (.asg t a):= @λO O h=>λ{X z Q Er} K k=>jj (W X.env) (s X.env) (A X.env) ((M h).run K λv L g u Z R i q=>by
 induction jU g with
 |mk e g=>
  subst e
  induction vv g with|mk b g=>exact d b R q λj P l O=>(k _ _ g).nx P<|i.trans l)
theorem JX {ds:List aK} (K:FX D C X r z) (hd:d=.tuple ds\/d=.list ds) (q:Rz X z v d) (k: ∀us z',FX D C X r z'->Sx z z'->z'.W=z.W->iV X z' us ds->Q us z'.s):aO (aY D.prog D.w) X.A (QA v ds.length aF) Q Er z.s:=by
 rcases hd with rfl|rfl
 ·induction GS (D:=D) q with
  | @mk p m n _ x u=>
   refine cx u.len<|cx List.size_toArray<|wpAny_unpackItems_tuple K.R.1 ⟨_,x,rfl,_,rfl⟩ λh P=>?_
   have Z: ∀b o,z.s.heap.get? b=aA o->h.get? b=aA o:=λb o e=>P b o (qo<|kh e) e;exact k m (z.to h z.s.toks) (K.keeps Z<|bh _).1 (K.keeps Z<|bh _).2 rfl (u.mon<|Mon.all Z)
 ·induction PR (D:=D) q with
  | @mk p m n _ x u=>exact cx u.len<|cx List.size_toArray<|wpAny_toks<|UB K.R.1 (gN x) λh t Z l=>k m (z.to h t) (K.keeps Z l).1 (K.keeps Z l).2 rfl (u.mon<|Mon.all Z)
noncomputable def HF (D:Wd) (C:Fc) (t:cg->aI->ba Unit) (i:Nat):Prop:= ∀{X:Fx} {z:Zs} {r:bQ} {v:aI} {d:aK} {Q:Unit->aN->Prop} {Er:aI->aN->Prop},FX D C X r z->Rz X z v d->(∀Z,FX D C X (upd r i<|.val d) Z->Sx z Z->Z.W=z.W->Q () Z.s)->aO (aY D.prog D.w) X.A (t X.env v) Q Er z.s
theorem KJ: ∀(ts:List (cg->aI->ba Unit)) (o:List Nat) (ds:List aK) {X:Fx} {z:Zs} {r:bQ} {us:List aI} {Q:Unit->aN->Prop} {Er:aI->aN->Prop},ts.length=o.length->ds.length=o.length->(∀p∈ts.zip o,HF D C p.1 p.2)->FX D C X r z->iV X z us ds->
 (∀z',FX D C X ((o.zip ds).foldl (λr p=>upd r p.1<|.val p.2) r) z'->Sx z z'->z'.W=z.W->Q () z'.s)->aO (aY D.prog D.w) X.A (assignInOrder (ts.map λt=>t X.env) us) Q Er z.s:=by
 intro O;induction O with
 |nil=>
  exact λo ds X z r us Q Er l L O K q k=>by
   cases QFE.mp l.symm
   cases QFE.mp L
   exact sb q.kK<|wpAny_pure<|k z K .refl rfl
 |cons F ts c=>
  exact λo ds X z r us Q Er l L P K q k=>by
   cases o with
   |nil=>contradiction
   |cons i o=>
    cases ds with
    |nil=>contradiction
    |cons d ds=>exact bf q.hU λu us e H b=>sb e<|wpAny_bind<|wpAny_holding<|P (F,i) (.head _) K H λZ R U a=>c o ds (zz l) (zz L) (λp h=>P p<|.tail _ h) R (b.mon U.mon) λz' j n v=>k z' j (U.trans n)<|v.trans a
inductive pS (C:Fc):List aP->List Nat->Prop
 |nil:pS C [] []
 |cons {nm:Str} {p:Pos} {i:Nat} {xs is}:lF C nm i->pS C xs is->pS C (.Name nm p::xs) (i::is)
theorem pS.each (h:pS C xs is): ∃ts:List (cg->aI->ba Unit),ts.length=is.length/\(∀p∈ts.zip is,HF D C p.1 p.2)/\ ∀env,(uj xs env).map (·.2)=ts.map (λt=>t env)/\(uj xs env).length=is.length/\(uj xs env).findIdx? (·.1)=none:=by
 induction h with
 |nil=>exact (gd [] rfl nofun (λenv=>⟨rfl,rfl,rfl⟩))
 | @cons nm p i xs is ok _ d=>
  refine cy d λts a1 a2 a3=>(gd ((λenv v=>mR (.Name nm p) env v)::ts) (QHd DD a1) (λq Q=>?_) λenv=>?_)
  ·cases Q with
   |head=>exact λK q k=>uf<|yB ok K q k
   |tail _ Q=>exact a2 q Q
  ·refine eN (a3 env) λb1 b2 b3=>?_
   have:uj (.Name nm p::xs) env=(aE,mR (.Name nm p) env)::uj xs env:=rfl;refine sb this<|⟨by (erw[List.map_cons];erw[b1]);rfl,congrArg Nat.succ b2,?_⟩
   erw[List.findIdx?_cons];erw[b3];rfl
theorem NB (e:nh (.tup is) d r=aA r'): ∃ds,(d=.tuple ds\/d=.list ds)/\ds.length=is.length/\r'=(is.zip ds).foldl (λr p=>upd r p.1<|.val p.2) r:=by
 have K: ∀x,(if x.length=is.length then aA ((is.zip x).foldl (λr p=>upd r p.1<|.val p.2) r) else aF)=aA r'->x.length=is.length/\r'=(is.zip x).foldl (λr p=>upd r p.1<|.val p.2) r:=λx e=>by
  by_cases h:x.length=is.length
  ·obtain rfl:=bM (QHb h) e
   exact ⟨h,rfl⟩
  ·exact cb (QHa h) e
 cases d with
 |tuple x=>exact (ax x (.inl rfl)<|K x e)
 |list x=>exact (ax x (.inr rfl)<|K x e)
 |_=>exact ay e
theorem Gj (h:pS C xs is):mx D C (.Tuple xs j pos) (.tup is):=λe=>by obtain ⟨d,o,L,rfl⟩:=NB e;obtain ⟨t,a,A,p⟩:=h.each;refine λ{X z v Q Er} K q k=>?_;obtain ⟨b,M,B⟩:=p X.env;rw[arm_assign_Tuple];refine aR<|iJ ?_;unfold unpack;simp only[M,B,<-L,b];exact aR<|cO<|JX K o q λu Z R s W r=>KJ t is d a L A R r λg P l Y=>k g P (s.trans l)<|Y.trans W
inductive oK (C:Fc):List aG->List Nat->Prop
 |nil:oK C [] []
 |cons {nm:Str} {i:Nat} {xs is}:lF C nm i->oK C xs is->oK C (nm::xs) (i::is)
theorem oK.so (h:oK C xs is):xs.length=is.length/\ ∀p∈(xs.map λn=>(λenv v=>z7 env n v)).zip is,HF D C p.1 p.2:=by
 induction h with
 |nil=>exact ⟨rfl,nofun⟩
 |cons ok _ i=>
  refine ⟨QHd DD i.1,λq Q=>?_⟩;cases Q with
  |head=>exact λK q k=>QFF<|yB ok K q k
  |tail _ Q=>exact i.2 q Q
theorem QBO (W: ∀env,jo [.Tuple L j r] x pos.line env=pure aE)
 (s: ∀env,env.scope.kind=.function->(∀x,env.kindOf x=C.K x)->mT [.Tuple L j r] x env=pure (aA names)) (hn:oK C names is) (hd:is.Nodup) (i:aZ D C x a):bV D C (.Assign [.Tuple L j r] x pos) (.asg (.tup is) a):=λh=>λ{X z Q Er} K k=>by
 have H:=(hn.so (D:=D));have N:=H.1;have A:=H.2;refine Assign_Tuple_swapped (names:=names) ?_ (W X.env)<|s X.env K.F.hk K.F.hK;refine sb N<|(i h).run K λv o g u z1 Y q q1=>aS (by induction jU g with|mk e g=>exact (ax _ e g): ∃d,v=.d d/\_) λd ev g=>?_
 subst ev;refine aS (by induction vv (t:=.tup is) (x:=d) (l:=o) g with|mk b a=>exact (ax _ b a): ∃f,nh (.tup is) d (aL o)=aA (aL f)/\_) λf b g=>cy (NB b) λds R hl m=>cx hl<|JX Y R q1 λus z2 B M w2 Z=>sb (by rw[<-QC,DE];rfl:(names.reverse.map λn=>z7 X.env n)=((names.map λn=>(λenv v=>z7 env n v)).reverse).map λt=>t X.env)<|KJ _ is.reverse ds.reverse (by simp only[List.length_reverse,List.length_reverse,List.length_map,N]) (by rw[List.length_reverse,List.length_reverse,hl]) (λp P=>?_) B (bB.rev Z) λz3 c U O=>?_
 ·rw[NO<|by rw[dY,N]] at P
  exact A p<|DF.mp P
 ·rw[NO hl.symm,QBQ] at c
  ·exact k _ _ g _ _ (m▸c) ((q.trans M).trans U).y .next
  ·rw[List.map_fst_zip<|qm hl.symm]
   exact hd
theorem yp {J:aM} {vs:List aI} (s:Sx z'' z) (K:FX D C X r z) (kl:Kl X.env.locals z.s.heap h') (hn:z.s.heap.get? J=aF) (e:h'.get? J=aA (listOf vs.toArray n)) (q:iV X z vs xs) (l:z.s.toks<=tk):NL D C X r z'' xs J vs n (z.to h' tk):=by
 refine ⟨⟨K.F.Sd kl hn ⟨_,e⟩,K.R,az K.t l⟩,s.trans<|.kl K kl l,e,bB.mon q λb o e n=>⟨(K.F.Gr kl b o e n).1,λq=>?_⟩,K.F.u7 hn,K.F.BH hn,s.st.new hn⟩;rcases q with (q|q)|q
 ·exact n<|.inl q
 ·simp only[q,hn] at e
  exact ay e
 ·exact n<|.inr q
theorem QAs (h:fu D C xs es):qc D C (.List xs pos) (.list es):=λe=>λK k=>Hu (kP (h e) K λds l us z g R i q1=>by
 obtain ⟨Z,_,e,g⟩:=g;cases e
 exact ⟨by simp only[iy,q1.len];exact bJ Z,k _ _ g _ us 0 (z.to _ z.s.toks)<|yp i R (.push _) (ie<|bh _) (fH _ rfl) q1<|bh _⟩)
theorem T6 (h:fu D C xs es) (hb:aZ D C y b):qc D C (.BinOp (.List xs L) .Mult y pos) (.aH .Mult (.list es) b):=λe=>λ{X z Q Er} K k=>wpAny_BinOp ((Na h e).run K λv o g p x R i q1=>(hb g).run R λw W g A U P j d=>by
 induction JE g with
 |mk e g=>
  obtain ⟨xs,rfl,g⟩:=g;cases e with
  |mul q u H Z=>
   refine aV (Rd.dd d) λt' t=>sb t ?_;induction kZ P (q1.mon j) q with
   |mk M c=>exact dk P.led λr m a F N kl nw=>wpAny_toks<|KMa.mul F N (gN M) Z H (c.len▸u) rfl λD' B f n Y l=>k _ _ g _ _ 0 (U.to B U.s.toks)<|yp (i.trans j) P (kl _ _ f n λp=>zV _) (nw _ _ _ _ n Y) (n _<|.head _).1 (c.rep _) l)
theorem QBF {vs:List aI} (g:C.nw=aB) (ok:lF C nm i) (N:NL D C X r z xs p vs n z') (k: ∀z'',FX D C X (upd r i<|.own xs) z''->Sy C z z''->Q () z''.s):aO (aY D.prog D.w) X.A (Ct X.env nm<|.ref p) Q Er z'.s:=by
 refine bI (C.nA ok.t) λhw H=>?_;have F:=FR.adopt (N.F.F.forget i hw H) H (λj k n _ q=>by have t:=C.low nm i ok.t;rw[<-q] at t;unfold cR at t;exact lA t) ⟨_,N.e⟩ N.na N.nf;have q2:bB (Ex X.Ob λb=>z'.W b\/b=p) z'.s.heap vs xs:=Js (Ob:=X.Ob)▸N.q;refine wpAny_toks (F.store ok.t ok.s ok.k (sl:=.own xs) (λh' O m=>(ax p (QHb rfl) rfl)) (λys Z=>by cases Z;exact (p9 p vs n (QHb rfl) N.e q2<|.inr rfl)) λh' tk K s2 l=>?_);refine k {s:={z'.s with heap:=h',toks:=tk},W:=_,φ:=_} ⟨K,N.F.R,az N.F.t l⟩ ⟨⟨λb o e w=>?_,λb w=>?_⟩,az N.s.t l,⟨λz=>(by rw[g] at z;exact yr z),λO=>(QHa<|lO H).trans<|congrFun N.s.f aT,λj b e=>?_⟩,by exact sb N.s.e rfl⟩
 ·have f:=N.s.fresh (J:=p) e w
  refine s2.keep b o f.1 λq=>q.elim f.2 λq=>cp (N.nw) (λh=>?_) λh=>?_
  ·exact w<|q▸h
  ·rw[q,h] at e
   exact ay e
 ·refine cp (s2.grow b w) (λw=>?_) λw=>?_
  ·refine cp (w) (λw=>?_) λw=>?_
   ·exact N.s.st.grow b w
   ·exact w▸N.nw
  ·exact N.s.st.new w
 ·have u:(if j=i then aA p else z'.φ j)=aA b:=e
  by_cases B:j=i
  ·clear g ok k hw H F q2 K s2 l e
   obtain rfl:=bM (QHb B) u;exact .inr N.nw
  ·rw[if_neg B,N.s.f] at u
   exact .inl ⟨j,u⟩
theorem Wj (W:C.nw=aB) (o:lF C nm i) (s: ∀env,jo [.Name nm u] x pos.line env=pure aE) (M:qc D C x a):bV D C (.Assign [.Name nm u] x pos) (.own i a):= @λO O h=>λ{X z Q Er} K k=>jj (s X.env) rfl rfl (M h K λR L g p v n Z N=>uf<|QBF W o N λj P l=>k _ _ g _ _ (by rw[fS];exact P) l .next)
theorem ZT {tt:cS} (bb:Bool) (W: ∀env,env.scope.kind=.function->(∀x,env.kindOf x=C.K x)->jo [.Name nm p] (.ListComp elt [⟨target,iter,ifs,0⟩] scope N) pos.line env=pure bb)
 (q:lF C nm i) (hb:C.bd+200<=1000000/\scope.names.length<=200) (c:mw C scope tt target iter) (M:hZ D C aE iter it) (d:mx D (C.sub scope.names aB aE hb) target tt) (A:oQ D (C.sub scope.names aB aE hb) ifs conds) (B:aZ D (C.sub scope.names aB aE hb) elt ee):
 bV D C (.Assign [.Name nm p] (.ListComp elt [⟨target,iter,ifs,0⟩] scope N) pos) (.asg (.one i)<|.comp ee tt it conds):=λh=>λ{X z Q Er} K k=>by
 induction bb with
 |false=>exact jj (W X.env K.F.hk K.F.hK) rfl rfl ((Nh c M d A B h).run K λv L g u z1 Z s1 q1=>by
  induction jU g with
  |mk e g=>
   subst e
   induction vv (t:=.one i) (l:=L) g with|mk b g=>exact GW q b Z q1 λz2 P j O=>(k _ _ g).nx P<|s1.trans j)
 |true=>
  rw[QB];refine aR<|iJ ?_;refine sb (W X.env K.F.hk K.F.hK)<|wpAny_bind<|wpAny_pure ?_
  refine sb (QHb rfl)<|wpAny_bind<|wpAny_bind<|I2 c M d A B h K λys L g U u z' F nx nf s nn rd ⟨m,r⟩=>?_
  refine uf<|yB (X:=X.add U) q F rd λz2 P j Y=>(ax m (r.at λo e=>j.st.keep _ o e λw=>F.F.dT _ w<|.inr rfl) λH sb=>bA<|bA ?_);exact bI (P.drop (Y▸nx) (j.f▸nf) (λa o e n=>(sb.2 a n).trans e)<|bh _) λR m3=>k _ _ g .next (z2.to H z2.s.toks) (by rw[fS];exact R) (Sx.y ⟨⟨λa o e n=>(sb.2 a<|nn a o e n).trans<|(s.trans j).st.keep a o e n,(s.trans j).st.grow⟩,(s.trans j).t,(s.trans j).f,by refine (?_:{z2.s with heap:=H}=_);rw[(s.trans j).e];rfl⟩) .next
end
section
theorem QBD {w:bz} (hb:wH op a b z) (h: ∀t tk,Q (.int z t) {s with toks:=tk}):aO (aY prog w) A (inplaceOp op (.int a t)<|.int b t') Q Er s:=by
 induction hb with
 |add=>exact iadd_int<|h _ _
 |sub=>exact isub_int<|h _ _
 |shl q R=>exact ilshift_int q R<|h _ _
 |shr q=>exact irshift_int q<|h _ _
theorem Xd (o:lF C nm i) (P:C.K nm=aA .local) (W:(nm==("__classdict__"))=aE) (hd:(nm==("__debug__"))=aE) (f:aZ D C x a):bV D C (.AugAssign (.Name nm n) op x pos) (.aug i op a):= @λO O h=>λ{X z Q Er} K k=>wpAny_AugAssign_Name (by
 refine aS K.F.loc λm p N=>?_;have q:=N nm i P o.t;refine aS ((nH h).resolve_right id) λO b h=>?_;simp only[QCz b] at q;refine aS q λu e q=>aV (Rd.dd q) λv H=>?_;clear b q;subst H
 exact Pj K.F.hk ((K.F.hK nm).trans P) p e (qQ (f h) K λj l r Z g R U=>by
  induction QDF g with
  |mk s g=>exact wpAny_toks<|QBD s λB A L=>yB o (R.kl (.refl _ _) L) (Rd.int _ B) λY c M O=>(k _ _ g).nx (by simp only[fS];exact c)<|(U.trans<|.kl R (.refl _ _) L).trans M))
theorem AP (K:env.scope.kind=.function) (W:DG x aF pos.line env=pure aE) (h:aO M A (b7 x env) (λv N=>(z9 x pos v=pure .next)/\Qs .next N) Er s):aO M A (o6 (.Expr x pos) env) Qs Er s:=by
 rw[arm_exec_Expr];refine aR<|iJ ?_;have i:interactive env=false:=by dsimp only[interactive];erw[K];rfl
 erw[i]
 skip
 refine sb W<|wpAny_bind<|wpAny_pure ?_
 exact sb (QHa<|by decide)<|wpAny_bind (wpAny_mono h (λv N H=>by erw[H.1];exact bA H.2) λO O x=>x)
theorem QCf (s: ∀env,DG x aF pos.line env=pure aE) (d:z9 x pos .none=pure .next) (q: ∀u t,z9 x pos (.str u t)=pure .next) (M:aZ D C x a):bV D C (.Expr x pos) (.expr a):= @λO O h=>λ{X z Q Er} K k=>AP K.F.hk (s X.env) ((M h).run K λv l g p Z R i b=>by
 induction jU g with
 |mk e g=>
  subst e;refine bI g λe r=>?_;clear s M h K g;rcases e with rfl|⟨y,rfl⟩
  ·exact sb (Rd.none_inv b)<|⟨d,(k _ _ r).nx R i⟩
  ·exact aV (Rd.dM b) λo H=>sb H<|⟨q _ _,(k _ _ r).nx R i⟩)
theorem FX.write {vs:List aI} (K:FX D C X r z) (d:i≠bR) (e:r i=.own xs) (l:z.φ i=aA p) (a:z.W p) (k: ∀b o,z.s.heap.get? b=aA o->b≠p->h'.get? b=aA o) (u:h'.get? p=aA (listOf vs.toArray n'))
 (q:Mon (Ex X.Ob z.W) z.s.heap (Ex X.Ob z.W) h'->bB (Ex X.Ob z.W) h' vs ys):FX D C X (upd r i<|.own ys) (z.to h' z.s.toks)/\Sx z (z.to h' z.s.toks):=by
 exact bI (K.F.write d e l a k u<|q λb o e n=>⟨k b o e λq=>n<|.inr<|q▸a,n⟩) λF s=>⟨⟨F,K.R,K.t⟩,⟨s,bh _,rfl,rfl⟩⟩
theorem FX.ow (K:FX D C X r z) (h:r i=.own xs) (q:Vz D X z u (.bor i)): ∃p vs n,u=.ref p/\z.φ i=aA p/\z.s.heap.get? p=aA (listOf vs.toArray n)/\bB (Ex X.Ob z.W) z.s.heap vs xs:=by
 refine aS q λp x e=>sb e<|dU (K.F.own i xs h) λP vs n v l m=>?_
 rw[x] at v;cases v;exact (p9 p vs n rfl x l m)
theorem Bm (o:iD C nm i) (h:aL l i=.own xs):Ev D C (.Name nm pos) l λv L=>v=.bor i/\L=l:=tL o (by dsimp only[kX];erw[h];exact ⟨rfl,rfl⟩:h8 (kX (aL l) i) _ False)
theorem Nt {i:Nat} {q:aK->Ls->Prop} (hm:MC x "append" H pos [y]) (R:Ev D C x l λv l'=>v=.bor i/\l'=l) (h0:aL l i=.own ys) (hs: ∀env,fI [y] env=[(aE,b7 y env)]) (hy:Ev D C y l λv l=>i4 v λd=>q d l) (t:i≠bR) (K:FX D C X (aL l) z)
 (M: ∀d l,q d l-> ∃xs,aL l i=.own xs/\xs.length<16777216/\(∀{Z a},FX D C X (aL l) Z->Z.φ i=aA a->Z.W a)/\KS D C X (aL<|cL l i<|.own<|xs++[d]) z .next Qs):aO (aY D.prog D.w) X.A (o6 (.Expr (.Call (.Attribute x "append" H) [y] [] pos) L) X.env) Qs Er z.s:=by
 refine AP K.F.hk rfl (El hm QFG PySem.F.slot_list_append PySem.F.type_list_append R K ?_)
 rintro _ _ ⟨rfl,rfl⟩ u z2 P Q q2
 refine dk (P.ow h0 q2) λp aa n0 r f1 f f3=>?_;subst r;refine ⟨⟨_,f,rfl⟩,λb e=>(by cases e;exact (ax _ f rfl)),?_⟩;refine sb (hs X.env)<|spliced_cons<|hy.run P λv l1 g u z3 c U q3=>lP ?_
 cases jU g with
 | @mk d ev g=>subst ev;refine sv (M _ _ g) λxs h hz w k=>dk (c.ow h<|q2.mon U) λp' vs n e e1 B j=>?_;cases e;refine wpAny_toks (QEr (hsz:=by simp only[gm,j.len,iy];exact sD ‹_›) ⟨n,B⟩ λh4 pl sb l4=>?_);exact aV pl λn4 e7=>bI (c.write (ys:=xs++[d]) (vs:=vs++[u]) (n':=n4) t h e1 (w c e1) (λb o e n=>(sb.2 b n).trans e) (by rw[e7];simp[zh]) λm=>(j.mon m).app<|bB.cons (Rd.mon q3 m) bB.nil) λY N=>⟨rfl,k.nx (by rw[fS];exact Y)<|(Q.trans U).trans N⟩
theorem Xn (o:C.ow=aB) (f:iD C nm i) (m:MC (.Name nm p) "append" a pos [y]) (hs: ∀env,fI [y] env=[(aE,b7 y env)]) (Y:aZ D C y b):bV D C (.Expr (.Call (.Attribute (.Name nm p) "append" a) [y] [] pos) P) (.app i b):= @λO O h=>λK k=>by
 induction i6 h with
 |mk L h=>
  have q:=(C.nA f.t);have W:=q.1;have A:=q.2;refine Nt m (Bm f L) L hs (Y h) W K λd l g=>?_;induction i6 g with
  |mk H g=>exact (kU _ H g.1 (λF e=>F.F.gH o i _ _ H e A)<|k _ _ g.2)
theorem ZG [H:dA D] (hb:aZ D C x .fE) (m:MC x "append" a pos [y]) (hs: ∀env,fI [y] env=[(aE,b7 y env)]) (Y:aZ D C y b):bV D C (.Expr (.Call (.Attribute x "append" a) [y] [] pos) p) (.qk b):= @λO O h=>λK k=>by
 have i:=h.1;have h:=h.2;induction i6 h with
 |mk q h=>
  refine Nt m (hb ⟨i,rfl,rfl⟩) q hs (Y h) (by decide) K λd l g=>?_;induction i6 g with
  |mk A g=>exact (kU _ A g.2.1 (λF e=>F.F.jf _ A g.1 _ e)<|k _ _ g.2.2)
theorem YK (L:C.ow=aB) (f:iD C nm i) (M:MC (.Name nm p) "reverse" a pos []):bV D C (.Expr (.Call (.Attribute (.Name nm p) "reverse" a) [] [] pos) c) (.qi i):= @λO O h=>λ{X z Q Er} K k=>by
 induction i6 h with
 |mk h0 g=>
  have B:=g.1;have g:=g.2;have H:=(C.nA f.t);have v:=H.1;have A:=H.2;refine AP K.F.hk rfl (wx (M.base X.env) (M.pV X.env) M.line<|(Bm (D:=D) f h0).run K ?_)
  rintro _ _ ⟨rfl,rfl⟩ u Z R j q2
  refine dk (R.ow h0 q2) λp vs n r e1 l q=>?_;subst r;refine ⟨"list","list.reverse",QFG,PySem.F.slot_list_reverse,PySem.F.type_list_reverse,⟨_,l,rfl⟩,λb e=>(by cases e;exact (ax _ l rfl)),PySem.P.reverse_list (n:=n) l ?_<|iy▸Jj q B⟩
  have H:=(R.write (ys:=_) (h':=Z.s.heap.update p<|Obj.mapSeq λx=>x.reverse) v h0 e1 (R.F.gH L i _ p h0 e1 A) (λb o e n=>((ID ..).2 b n).trans e) (vs:=vs.reverse) (n':=n) (by
   erw[wz _ l<|by rfl];have:=mapSeq_reverse vs.toArray n
   simpa[zh] using this) λm=>bB.rev<|q.mon m);have U:=H.1;have N:=H.2
  exact ⟨rfl,(k _ _ g).nx (by simp only[fS];exact U)<|j.trans N⟩
theorem bB.set {X:aM->Prop}: ∀{ds:List aK} {us:List aI} (j:Nat) {u:aI} {d:aK},bB X h us ds->Rd X h u d->bB X h (us.set j u) (ds.set j d):=by
 intro ds;induction ds with
 |nil=>exact @λus j u d q O=>sb q.kK<|bB.nil
 |cons W ds i=>
  exact @λus j u d q w=>by
   refine bf q.hU λU us e o Q=>sb e ?_;induction j with
   |zero=>exact bB.cons w Q
   |succ j O=>exact bB.cons o<|i j Q w
theorem Ut (L:C.ow=aB) (q:iD C nm i) (s: ∀env,jo [.Subscript (.Name nm p) y N] x pos.line env=pure aE) (B:aZ D C x a) (hy:aZ D C y b):bV D C (.Assign [.Subscript (.Name nm p) y N] x pos) (.set i b a):= @λO O h=>λ{X z Q Er} K k=>jj (s X.env) rfl rfl ((B h).run K λv l1 g u z1 P s1 q1=>by
 refine bI (C.nA q.t) λhw Y=>?_;induction jU g with
 |mk ev g=>
  subst ev;induction i6 g with
  |mk d g=>
   rw[QD];refine aR<|cO<|(Bm q d).run P ?_;clear q s B h K P d;intro _ _ H ov z2 K2 M q2;have f:=H.1;have Z:=H.2;clear H;subst f;subst Z;refine aR<|cO<|qQ (hy g) K2 λj l t' z3 g c U=>?_;induction i6 g with
   |mk h0 g=>
    refine jv g λj0 j1 j2 g=>dk (c.ow h0<|q2.mon U) λp vs n r A f3 R=>?_;clear q2;subst r;refine aR (iJ<|aR<|cO<|NQ f3 j0 ((bG ‹0<=j/\j<(↑a_3.length)/\a_3.length<2^63/\O Fl.next (cL l i<|Sl.own<|a_3.set j.toNat a_1)›.2.1 (oL ‹0<=j/\j<(↑a_3.length)/\a_3.length<2^63/\O Fl.next (cL l i<|Sl.own<|a_3.set j.toNat a_1)›.2.2.1))) (by simp only[gm,R.len];exact j1) λh4 n4 f5 sb=>?_)
    exact IE<|bI (c.write (h':=h4) hw h0 A (c.F.gH L i _ p h0 A Y) (λb o e n=>(sb.2 b n).trans e) (vs:=vs.set j.toNat u) (n':=n4) (by simp only[f5];simp[zh]) λm=>bB.set _ (R.mon m)<|Rd.mon (q1.mon<|M.trans U) m) λK4 s4=>(k _ _ g).nx (by simp only[fS];exact K4)<|((s1.trans M).trans U).trans s4)
theorem O_ {as bs:List S} (c:eQ D C x t) (a:ji D C xs as) (hb:ji D C ys bs):bV D C (.If x xs ys pos) (.cA t as bs):= @λO O h=>λK k=>IF ((c h).run K λb l g z R s=>by
 rcases g with ⟨rfl,g⟩|⟨rfl,g⟩
 ·exact a g R λO O g=>(k _ _ g).tr s.y
 ·exact hb g R λO O g=>(k _ _ g).tr s.y)
theorem QDy:bV D C (.Continue pos) .cont:= @λO O h=>λK k=>QFH<|k _ _ h _ _ K Sx.refl.y .cont
theorem QDN:bV D C (.Return aF pos) (.ret aF):= @λO O h=>λK k=>by rw[arm_exec_Return];exact aR<|iJ<|bA<|k _ _ h _ _ K Sx.refl.y<|.ret (v:=.none) (u:=.d .none) Rd.none .d
theorem Ki (M:aZ D C x a):bV D C (.Return (aA x) pos) (.ret<|aA a):= @λO O h=>λK k=>wpAny_Return_some ((M h).run K λv l g p z R s q=>by
 induction g with|mk e g=>exact k _ _ g _ _ R s.y<|.ret q e)
end
section
theorem MY {w:bz} {J:aM} {St:Nat->bK->Prop}
 (u:sQ prog w A J fp [J] n P St) (al: ∀i h,St i h-> ∃o T,h.get? J=aA o/\o.cls=.type T/\wR.contains T=aE) (I:Nat->aN->Prop) (C: ∀j s,I j s->St j s.heap) (h0:I 0 s)
 (d: ∀s h' tk,I n s->(∀a o,s.heap.get? a=aA o->a≠J->h'.get? a=aA o)->s.toks<=tk->R (.ok .next) {s with heap:=h',toks:=tk})
 (turn: ∀j s h' tk v,j<n->I j s->P j v->St (j+1) h'->(∀a o,s.heap.get? a=aA o->a≠J->h'.get? a=aA o)->s.toks<=tk-> ∀Er,aO (aY prog w) A (mR target env v) (λO W=>aO (aY prog w) A (fX body env) (λf Q=>match f with|.next=>I (j+1) Q|.cont=>I (j+1) Q|.brk=>False|.ret v=>R (.ok<|.ret v) Q) Er W) Er {s with heap:=h',toks:=tk}):
 uh (aY prog w) A (.forLoop target (.ref J) body [] env) R s:=by
 refine QFI (λm U=> ∃j,j<=n/\m=n+1 - j/\I j U) ?_ (n+1)<|gd 0 (hJ _) rfl h0;intro m U t;obtain ⟨j,K,r,F⟩:=t;by_cases L:j<n
 ·refine wpAny_toks (u.item j _ _ _ L (C j U F) λv h' tk hP st k l=>?_)
  refine bf (al _ _ st) λN Y p g z=>MS p g z (eY (turn j U h' tk v L F hP st (λa o e q=>k a o (by simpa using q) e) l _) (λO W B=>eY B (λf Q H=>?_) λO O x=>x) λO O x=>x);have nx: ∀{Q},I (j+1) Q-> ∃M,M<m/\ ∃j,j<=n/\M=n+1 - j/\I j Q:=λh=>⟨n+1 - (j+1),by (clear turn d H B;exact (bD (na (nL<|sE ((aQ L):j+1<=n+1))<|nR<|sE ((aQ L):j<=n+1))<|nR r)),j+1,L,rfl,h⟩;induction f with
  |next=>exact nx H
  |cont=>exact nx H
  |brk=>exact H.elim
  |ret v=>exact H
 ·cases jk K (iH.mp L)
  exact wpAny_toks (u.done _ _ _ (C _ U F) λh' tk k l=>zy<|d U h' tk F (λa o e q=>k a o (by simpa using q) e) l)
end
section
structure FB (D:Wd) (C:Fc) (X:Fx) (J:aM) (fp:List aM) (St:Nat->bK->Prop) (z0 z2:Zs) (j:Nat) (z:Zs):Prop where
 st:St j z.s.heap
 nJ: ¬ Ex X.Ob z.W J
 nf:jV C X.env z.φ J
 mon:Mon (Ex (X.add J).Ob z2.W) z2.s.heap (Ex (X.add J).Ob z.W) z.s.heap
 fp: ∀b∈fp,(∃o,z.s.heap.get? b=aA o)/\(b≠J-> ¬ z.W b)
 sy:Sy C z0 z
theorem FB.Ll {J:aM} {L:List aM} {St:Nat->bK->Prop} (B:FB D C X J L St Z z2 j z) (K:FX D C (X.add J) r z) (U:FX D C (X.add J) r₁ z') (s:Sy C z z') (u:sQ D.prog D.w X.A J L [J] n P St):FB D C X J L St Z z2 j z':=by
 have N: ∀b∈L, ¬ z.W b:=λb h w=>by
  by_cases q:b=J
  ·exact K.F.dT b w<|.inr q
  ·exact (B.fp b h).2 q w
 refine aV (K.F.dj J<|.inl<|.inr rfl) λd a=>⟨u.frame _ _ _ B.st λb h o e=>s.st.keep b o e<|N b h,λq=>q.elim (λq=>B.nJ<|.inl q) λw=>U.F.dT J w<|.inr rfl,⟨λi q=>?_,B.nf.l,B.nf.c⟩,B.mon.trans s.st.mon,λb h=>?_,B.sy.trans s⟩
 ·rcases s.p.sub i J q with ⟨M,q⟩|q|q
  ·exact B.nf.p M q
  ·exact K.F.dT J q<|.inr rfl
  ·rw[a] at q
   exact qO q
 ·have H:=(B.fp b h)
  have Q:=H.1;refine aV Q λo e=>?_;have f:=s.fresh e<|N b h;exact ⟨⟨o,f.1⟩,λO=>f.2⟩
theorem Sy.LH {J:aM} (s:Sy C z z') (nw: ∀a o,z.s.heap.get? a=aA o-> ¬ z.W a->a≠J) (k: ∀a o,z'.s.heap.get? a=aA o->a≠J->h'.get? a=aA o) (l:z'.s.toks<=tk):Sy C z (z'.to h' tk):=⟨⟨λa o e n=>k a o (s.st.keep a o e n)<|nw a o e n,s.st.grow⟩,az s.t l,s.p,by refine (?_:{z'.s with heap:=h',toks:=tk}=_);erw[s.e];rfl⟩
theorem RQ {tt:cS} (hf: ∀env x,H6 iter env x=pure x) (hI:hZ D C aB iter it) (hT:mx D C target tt) (hB:ji D C body bs):bV D C (.For target iter body [] pos) (.fF tt it bs):= @λl0 Kk h=>λ{X z Q Er} K k=>wpAny_For (hI h K λxs l1 e2 z2 J fp P St i=>by
 refine MY i.walk i.alive (λj s=> ∃z' lj,s=z'.s/\FX D C (X.add J) (aL lj) z'/\FB D C X J fp St z z2 j z'/\fW tt bs D.o (xs.drop j) lj Kk) ?_ (jY z2 l1 rfl i.F ⟨i.st,i.nJ,i.nf,Mon.refl _ _,λb hb=>⟨i.nq b hb,i.Kt rfl b hb⟩,i.sx.y⟩ e2) ?_ ?_
 ·intro j s n
  refine iN n λz' rj N O B O=>?_;clear n;subst N;exact B.st
 ·intro s h' tk p M l
  refine iN p λz' rj m Kj B W=>?_;clear p;subst m;rw[QEs] at W;exact k _ _ W .next _ (Kj.drop B.nJ B.nf M l).1 (B.sy.LH i.new M l) .next
 ·intro j s h' tk u L Z hP R M l aa
  refine iN Z λz' rj r Kj B W=>?_;clear Z;subst r;refine aS (i.items j u hP) λd hd rd=>cQ (i.alive _ _ R) λo1 T1 A O=>?_;have H:=(Kj.turn (X:=X.add J) (.inr rfl) B.nf M ⟨o1,A⟩ l);have K1:=H.1;have m1:=H.2
  have B1:FB D C X J fp St z z2 (j+1) (z'.to h' tk):=⟨R,B.nJ,B.nf,B.mon.trans m1,λb hb=>⟨by
   by_cases q:b=J
   ·exact ⟨o1,q▸A⟩
   ·have H:=(B.fp b hb)
    have t:=H.1
    exact aV t λo e=>⟨o,M b o e q⟩,(B.fp b hb).2⟩,B.sy.LH i.new M l⟩
  have Y:=Rd.mon rd B1.mon;rw[show xs.drop j=d::xs.drop (j+1) by erw[H8 L];obtain rfl:=bM (sR L) hd;rfl] at W;refine aS (by induction vv W with|mk b a=>exact (ax _ b a): ∃lx,nh tt d (aL rj)=aA (aL lx)/\_) λlx b W=>hT b (X:=X.add J) K1 Y λz3 K3 s3 O=>hB W (X:=X.add J) K3 λfl l4 g f c U s4 fi=>?_;have v:=(B1.Ll K1 K3 s3.y i.walk).Ll K3 U s4 i.walk;induction fi with
  |next=>exact (jY c _ rfl U v g)
  |cont=>exact (jY c _ rfl U v g)
  |ret q q'=>
   have H:=(U.drop v.nJ v.nf (λO O e O=>e)<|bh _);have K5:=H.1;have m5:=H.2
   exact k _ _ g (.ret _) c K5 v.sy<|.ret (VR.mon q m5) q') (hf X.env)
theorem QCw (M:eQ D C x t) (B:ji D C body bs):bV D C (.While x body [] pos) (.oR t bs):= @λp r h=>λ{X z Q Er} K k=>by
 refine aV h λn e=>wpAny_While<|QFJ (λn Y=> ∃z' L,Y=z'.s/\FX D C X (aL L) z'/\Sy C z z'/\wW t bs D.o n L r) ?_ n<|jY z _ rfl K Sx.refl.y e;intro n Y H;refine iN H λz' L A u U d=>?_;clear H;subst A;induction n with
 |zero=>exact d.elim
 |succ n=>
  refine (M d).run u λb l g Z R i=>?_;rcases g with ⟨rfl,g⟩|⟨rfl,g⟩
  ·refine sb (QHb rfl)<|B g R λfl W g f N P j F=>?_
   induction F with
   |next=>exact ⟨_,uc _,N,_,rfl,P,(U.trans i.y).trans j,g⟩
   |cont=>exact ⟨_,uc _,N,_,rfl,P,(U.trans i.y).trans j,g⟩
   |ret q v=>exact k _ _ g _ _ P ((U.trans i.y).trans j)<|.ret q v
  ·exact sb (QHa<|by decide)<|wpAny_execs_nil<|k _ _ g _ _ R (U.trans i.y) .next
end
section
variable {A:cV} {E:aI->aN->Prop}
theorem QAd {l b sl:aM} {items i:Array aI} (hl:s.heap.get? l=aA (W.listOf items n)) (hb:s.heap.get? b=aA (W.listOf i e)) (N:l≠b)
 (hs:s.heap.IsSliceOf sl .none .none .none) (hsz:items.size+i.size<=mL)
 (hQ: ∀h' n',h'.get? l=aA (W.listOf i n')->Hk l s.heap h'->Q () {s with heap:=h'}):
 aO (aY prog w) A (H9 (.ref l) (.ref sl)<|.ref b) Q E s:=by
 have L:s.heap.IsList l items:=⟨_,hl,rfl,n,rfl⟩;have P:s.heap.IsList b i:=⟨_,hb,rfl,e,rfl⟩;refine cy (id hs) λos o c d=>?_;have t:s.TypeIs (.ref sl) "slice" :=(ax os o c);dsimp only[H9]
 try with_reducible refine cO ?_
 first|refine wpAny_bind (wpAny_pure ?_)|skip
 refine aR (QEz L.typeIs (by decide) ?_)
 refine aR (QFA L.typeIs IA
  (IB IA L.typeIs QFB ?_<|QFC _ _ _))
 refine (?_:aO _ _ (Builtin.List.listSubscript? (.ref sl)>>=_) _ _ s);refine aR<|wpAny_bind<|wpAny_specialOf t slice_no_index ?_
 refine bA<|wpAny_bind<|wpAny_typeOf t ?_
 erw[if_neg<|by decide];rw[listSliceParts_eq];refine aR<|aR<|wpAny_field o d rfl (aR<|QFK .none ?_);refine sb (QHa<|by decide)<|wpAny_bind<|wpAny_field o d rfl (wpAny_bind<|wpAny_listPart .none ?_)
 refine aR<|wpAny_field o d rfl (aR<|QFK .none<|bA ?_);have h:Builtin.List.listSameRef (.ref l) (.ref b)=false:=QHf N
 refine sb h<|wpAny_bind<|wpAny_bind<|wpAny_typeOf P.typeIs ?_
 refine sb (QHb<|by rfl)<|wpAny_bind<|wpAny_seqItems hb rfl (wpAny_pure ?_)
 refine aR<|aR<|IG hl rfl (bA ?_);have B:kf aF aF aF items.size=(0,(items.size:Int),1):=by rfl
 refine aR (qr (sliceIndices_raw aF aF aF items.size<|by simp) ?_);erw[B];dsimp only;refine sb (QHb<|by rfl)<|wpAny_bind<|wpAny_rule ?_
 have Y:Builtin.List.listTooLong (items.size+i.size)=false:=decide_eq_false<|iH.mpr hsz
 erw[Y]
 skip
 have F:(λx:Array aI=>x.extract 0 (0:Int).toNat++i++x.extract (max (0:Int) (items.size:Int)).toNat) items=i:=by have:(max (0:Int) (items.size:Int)).toNat=items.size:=Cs _;simp[this]
 have f: ∃n',(s.heap.update l<|Obj.mapSeq λx=>x.extract 0 (0:Int).toNat++i++x.extract (max (0:Int) (items.size:Int)).toNat).get? l=aA (W.listOf i n'):=by refine ⟨if i.size==items.size then n else n+1,?_⟩;erw[wz _ hl<|by rfl];unfold Obj.mapSeq;dsimp only;dsimp only at F;exact sb F rfl
 refine aV f λn' f=>aR (QFL hl rfl ?_ (az (mO _ _) ‹_›) (by dsimp only at F;erw[F];exact aQ hsz));refine aR<|wpAny_letGo ?_;exact bA<|ax .none rfl (bA<|hQ _ n' f<|ID ..)
end
section
theorem FR.swap {G:bK} {k:Nat} (F:FR P G C env Ob φ W r h) (o:C.ow=aB) (Y:k<1000000) (e:r k=.own xs) (eh: ∀ys,r aT≠ .own ys):
 FR P G C env Ob (λj=>if j=aT then φ k else if j=k then aF else φ j) W (upd (upd (upd r aT<|.own xs) bR .emp) k<|.ali aT) h:=by
 have N:k≠aT:=λq=>by rw[q] at Y;exact QHZ Y (by decide)
 have kw:k≠bR:=λq=>by rw[q] at Y;exact QHZ Y (by decide)
 have u:aT≠bR:=by decide
 have pn:=F.lD eh;have A: ∀j,j≠aT->j≠bR->j≠k->upd (upd (upd r aT<|.own xs) bR .emp) k (.ali aT) j=r j:=λj H L Q=>by unfold upd;(erw[if_neg Q];erw[if_neg L];exact sb (QHa H) rfl)
 have B:upd (upd (upd r aT<|.own xs) bR .emp) k (.ali aT) k=.ali aT:=by unfold upd;exact sb (QHb rfl) rfl
 have s:upd (upd (upd r aT<|.own xs) bR .emp) k (.ali aT) aT=.own xs:=by unfold upd;(erw[if_neg<|lO N];erw[if_neg u];exact sb (QHb rfl) rfl)
 have l:upd (upd (upd r aT<|.own xs) bR .emp) k (.ali aT) bR=.emp:=by unfold upd;(erw[if_neg<|lO kw];exact sb (QHb rfl) rfl)
 refine dU (F.own k xs e) λa vs n M e0 e1=>?_;have wa:=F.gH o k xs a e M N;have Z:(λj=>if j=aT then φ k else if j=k then aF else φ j) aT=aA a:=by refine (?_:(if aT=aT then φ k else _)=_);erw[if_pos rfl];exact M
 have U: ∀j,j≠aT->j≠k->(λj=>if j=aT then φ k else if j=k then aF else φ j) j=φ j:=λj H L=>by refine (?_:(if j=aT then φ k else if j=k then aF else φ j)=φ j);(erw[if_neg H];exact sb (QHa L) rfl)
 have gk: ∀j v,j<1000000->dZ P φ env.cells (Ex Ob W) h j v (r j)->dZ P (λj=>if j=aT then φ k else if j=k then aF else φ j) env.cells (Ex Ob W) h j v (upd (upd (upd r aT<|.own xs) bR .emp) k (.ali aT) j):=by
  intro j v g x;have jh:j≠aT:=λq=>by rw[q] at g;exact QHZ g (by decide)
  have jw:j≠bR:=λq=>by rw[q] at g;exact QHZ g (by decide)
  by_cases K:j=k
  ·clear Y N kw A s l U g jh jw
   subst K;erw[B];rw[e] at x;refine aS x λb q1 q2=>?_;obtain rfl:=bM M q1;exact ⟨rfl,a,Z,q2⟩
  ·erw[A j jh jw K]
   induction hr:r j with
   |own ys=>rw[hr] at x;exact aS x λb q1 q2=>(ax b ((U j jh K).trans q1) q2)
   |ali m=>rw[hr] at x;obtain ⟨q0,b,q1,q2⟩:=x;subst q0;exact cb pn q1
   |inst=>rw[hr] at x;exact bf x λy b q1 q2 q3=>cb pn q1
   |dz m=>rw[hr] at x;refine iN x λb m' q1 q2 q3 q4=>?_;have pe: ∀t,(λj=>if j=aT then φ k else if j=k then aF else φ j) (cR j t)=φ (cR j t):=λt=>U _ (λq=>by unfold cR aT at q;lia -abstractProof) (λq=>by rw[<-q] at Y;unfold cR at Y;exact lA Y);refine (jY b m' q1 ?_ q3 (λt ht=>by rw[pe];exact q4 t ht));simp only[pe];exact q2
   |unb=>trivial
   |val d=>rw[hr] at x;exact x
   |clo f=>rw[hr] at x;exact x
   |emp=>rw[hr] at x;exact x
 have own: ∀j ys,upd (upd (upd r aT<|.own xs) bR .emp) k (.ali aT) j=.own ys->(j=aT/\ys=xs)\/(j≠aT/\j≠k/\j≠bR/\r j=.own ys):=λj ys q=>by
  by_cases H:j=aT
  ·subst H
   rw[s] at q;clear e;cases q;exact .inl ⟨rfl,rfl⟩
  ·by_cases L:j=bR
   ·clear H
    subst L;rw[l] at q;exact nomatch q
   ·by_cases Q:j=k
    ·clear Y e N kw A s l M Z U gk H L
     subst Q;rw[B] at q;exact nomatch q
    ·rw[A j H L Q] at q
     exact .inr<|lK H Q L q
 have R: ∀j b,(λj=>if j=aT then φ k else if j=k then aF else φ j) j=aA b->(j=aT/\φ k=aA b)\/(j≠aT/\j≠k/\φ j=aA b):=λj b q=>by
  by_cases H:j=aT
  ·subst H
   clear o e eh N kw u pn A B;obtain rfl:=bM Z q;exact .inl ⟨rfl,M⟩
  ·by_cases Q:j=k
   ·have q':(if j=aT then φ k else if j=k then aF else φ j)=aA b:=q
    rw[if_neg H,if_pos Q] at q';exact ay q'
   ·rw[U j H Q] at q
    exact .inr ⟨H,Q,q⟩
 refine aS F.loc λmm n1 n2=>⟨F.base,F.fN,F.hk,F.hK,F.hg,F.hb,F.rV,⟨mm,n1,λx j p q=>gk _ _ (C.low x j q)<|n2 x j p q⟩,F.ku,λx j p q=>?_,F.qj,F.oe,λj ys q=>?_,λcc j ys b q p z=>?_,λys q p b z=>?_,λys q p b z w=>QHZ l p,λq=>QHZ s<|q xs,λi j b q1 q2=>?_,λj b q=>?_,F.dj,F.dT,F.inv,F.pf⟩
 ·exact bf (F.gr x j p q) λc v f1 f3 f4=>(cz c v f1 f3<|gk _ _ (C.low x j q) f4)
 ·rcases own j ys q with ⟨H,L⟩|⟨H,L,Q,h4⟩
  ·exact sb H<|sb L<|(la a vs n Z e0 e1)
  ·exact dU (F.own j ys h4) λb ws m g1 g2 g3=>(la b ws m ((U j H L).trans g1) g2 g3)
 ·rcases own j ys q with ⟨H,L⟩|⟨H,L,Q,h4⟩
  ·exact QHZ H z
  ·exact F.gH cc j ys b h4 ((U j H L).symm.trans p) z
 ·have z':=Z.symm.trans z
  clear M e0 Z;cases z';exact wa
 ·rcases R i b q1 with ⟨z1,z2⟩|⟨z1,z2,z3⟩<;>rcases R j b q2 with ⟨z4,z5⟩|⟨z4,z5,z6⟩
  ·exact sb z1<|sb z4 rfl
  ·exact QHZ (F.inj j k b z6 z2) z5
  ·exact QHZ (F.inj i k b z3 z5) z2
  ·exact F.inj i j b z3 z6
 ·rcases R j b q with ⟨_,z⟩|⟨_,_,z⟩
  ·exact F.j5 _ _ z
  ·exact F.j5 _ _ z
end
noncomputable def F5 (D:Wd) (f:aM) (xs hs zs:List aK):Prop:=
 ∀{A:cV} {s:aN} {X:aM->Prop} {u m:List aI} {x a:aM} {n:Nat} {Q:aI->aN->Prop} {E:aI->aN->Prop},CS D A X s->D.P.HI X s.heap x a->s.heap.get? a=aA (listOf m.toArray n)->bB X s.heap m hs->bB X s.heap u xs->
  (∀Y v N F,CT D (λb=>X b\/b=Y) (λO=>False) s F->s.heap.get? Y=aF->F.heap.get? Y=aA (listOf v.toArray N)->bB (λb=>X b\/b=Y) F.heap v zs->Q (.ref Y) F)->aO (aY D.prog D.w) A (call (.ref f)<|.ref x::u) Q E s
class kn (D:Wd):Prop where
 RN: ∀xs hs zs,D.o.R 2 xs hs (.list zs)-> ∃nm fa,D.hm 2=aA (nm,fa)/\F5 D fa xs hs zs
section
section
variable[H:dA D]
include H
theorem Yo (hb:aZ D C x .fE) (W: ∀env,jo [.Subscript x (.Slice aF aF aF r) c] y pos.line env=pure aE) (Y:aZ D C y b):
 bV D C (.Assign [.Subscript x (.Slice aF aF aF r) c] y pos) (.pX b):=λh=>λ{X z Q Er} K k=>by
 refine jj (W X.env) rfl rfl ((Y h).run K λv l1 g u z1 t U q1=>?_);induction jU g with
 |mk ev g=>
 subst ev;clear H W Y h;obtain ⟨ys,rfl,h0,g⟩:=g;induction i6 g with
 |mk A g=>
 have hw:=g.1;have hz:=g.2.1;have g:=g.2.2;rw[QD];refine aR<|cO<|(hb (K:=λv l'=>v=.bor aT/\l'=l1) ⟨h0,rfl,rfl⟩).run t ?_;intro _ _ f ov i P j q2;have l:=f.1;have R:=f.2;clear f;subst l;subst R;refine dk (P.ow A q2) λp vs n L a f3 f4=>?_;subst L;refine dk (Rd.lst_inv<|Rd.mon q1 j.mon) λbb ws m B Z g2 g3=>?_;subst B;have M:=P.F.jf _ A hw p a;have d: ∀b o,i.s.heap.get? b=aA o->(i.s.heap.push<|wN .none .none .none).get? b=aA o:=λO O e=>gS _ e;refine aR<|cO<|wpAny_Slice<|Hz<|Hz<|Hz ?_;refine aR (iJ<|aR<|cO<|QAd (d _ _ f3) (d _ _ Z) (λq=>g2<|.inr<|q▸M) (Heap.IsSliceOf.new ..) (by (erw[gm];erw[gm];erw[f4.len];erw[g3.len];erw[iy]);exact hz) λh4 n4 f5 sb=>?_);refine IE ?_;obtain ⟨N,s4⟩:=P.write (by decide) A a M (λb o e n=>(sb.2 b n).trans<|d b o e) f5 λm=>g3.mon m;exact (k _ _ g).nx (by rw[fS];exact N)<|(U.trans j).trans s4
theorem QEO (ok:iD C nm i) (Y:aZ D C y b):bV D C (.Delete [.Subscript (.Name nm p) y sp] pos) (.oh i b):= @λO O h=>λ{X z Q Er} K k=>wpAny_Delete (wpAny_deleteEach_cons (by
 have h0:=h.1;have h:=h.2;rw[arm_delete_Subscript];refine aR ((tL (D:=D) (K:=λv l=>v=.inst/\l=_) ok (by dsimp only[kX];erw[h0];exact ⟨rfl,rfl⟩:h8 (kX (aL _) i) _ False)).run K ?_);clear ok K h0
 rintro _ _ ⟨rfl,rfl⟩ ov j P s2 q2
 refine aR<|cO<|(Y h).run P λv M g f Z d s3 a=>?_;induction jU g with
 |mk ev g=>
  subst ev;induction i6 g with
  |mk o g=>
   have hw:=g.1;have g:=g.2;clear Y h P;induction g with
   |mk L g=>
    refine cQ (H.H _ _ _ _ _ L) λn A q1 con=>?_;have q:=q2.mon s3;refine bf q λB N x e p3=>?_;clear q;subst e
    exact aR<|iJ<|aR<|cO<|H.PV q1 d.R d.F.base p3<|JW con d (q2.mon s3) o hw (us:=[f]) (bB.cons a bB.nil) λu s U s4 O=>IE<|wpAny_deleteEach_nil<|(k _ _ g).nx (by rw[fS];exact U)<|(s2.trans s3).trans s4))
theorem Y4 (q:lF C nm i) (c:nB C "compute_powers") (P:Pl xs) (a:fu D C xs es):bV D C (.Assign [.Name nm N] (.Call (.Name "compute_powers" p) xs [] cpos) pos) (.pd i es):= @λO O h=>λ{X z Q Er} K k=>by refine dk H.Mh λca o fd B g2 g3 g4=>bI (C.nA q.t) λb f=>jj rfl rfl rfl (qp<|qe K c B<|zr<|gG (P X.env cpos)<|kP (a h) K λds l us Z g j v q1=>⟨⟨j.F.base _ _ g2,g3⟩,?_⟩);clear H c P a h K B g2 g3;obtain ⟨n,rfl,h1,h2,g⟩:=g;obtain ⟨u1,us,rfl,e,q1⟩:=q1.hU;obtain ⟨u2,us,rfl,q2,q1⟩:=q1.hU;obtain ⟨u3,us,rfl,q3,q1⟩:=q1.hU;cases q1.kK;clear q1;obtain ⟨t2,rfl⟩:=Rd.dd e;clear q1 e;obtain ⟨t3,rfl⟩:=Rd.dd q2;obtain ⟨t4,rfl⟩:=Rd.dd q3;refine wpAny_toks<|g4 n h2 h1 j.R j.t j.F.base λ{dr} d h' tk r e2 A L=>?_;have Y:=j.F.keeps r;exact uf (wpAny_toks<|(Y.forget i b f).store q.t q.s q.k (sl:=.emp) (λh' kk m=>(ax d rfl (m _ _ e2 (j.F.u7 A: ¬ Ex X.Ob Z.W d)))) (λys x=>by exact nomatch x) λh' u F2 M U=>(k _ _ g).nx (z':={Z with s:={Z.s with heap:=h',toks:=u,drawn:=dr}}) ⟨by rw[fS];exact F2,j.R,az j.t<|az L U⟩<|v.trans ⟨(dg.all r).trans M,az L U,rfl,rfl⟩)
theorem XO (L:iD C nm i) (m:MC (.Name nm p) "items" a u []):bV D C (.For target (.Call (.Attribute (.Name nm p) "items" a) [] [] u) body [] pos) (.qN i):= @λO O h=>λ{X z Q Er} K k=>by
 have h0:=h.1;have g:=h.2;refine wpAny_For (wx (m.base X.env) (m.pV X.env) m.line<|uO K L λN q=>?_) λO=>rfl;rw[h0] at q;refine cy q λd v f f3=>(ax _ v ?_);have t:(d==Cz)=false:=by refine QHf λq=>aS H.Pb λo r g2=>?_;have:=K.F.base _ _ r;rw[<-q,f] at this;cases this;exact g2 rfl
 have Y: ∀(h:bK),h.get? d=aA jJ->h.DictAt (strKind D.prog D.w) d [] 0:=λh e=>(tU jJ (#[]) e ⟨rfl,rfl,rfl⟩ rfl (by intro e M;simp at M) .nil QFM);refine ⟨"dict","dict.items",QEv,QFN,PySem.F.type_dict_items,⟨_,f,rfl⟩,λb e=>(by cases e;exact (ax _ f rfl)),wm (m.pl X.env)<|gG (m.pl X.env)<|lP ?_⟩;refine call_meetsIn QFN (ax _ f rfl) PySem.F.entry_dict_items (PySem.F.args_dict_items_1 _) (meets_dict_items (strKind D.prog D.w) d t) ⟨⟨[],(Y z.s.heap f).elim λo w=>w.elim λes w=>XR o es 0 w⟩,?_⟩;generalize c:({cls:=.type "dict_items",data:=.fields #[.ref d]}:bH)=W;have x: ∀b o,z.s.heap.get? b=aA o->(z.s.heap.push W).get? b=aA o:=λO O e=>gS _ e;refine wpAny_pyIter_items (gd _ (fH _<|c▸rfl) (c▸rfl)<|c▸rfl) (Y _<|x _ _ f) ?_;refine QFI (λn s'=>s'={z.s with heap:=(z.s.heap.push W).push {cls:=.type "dict_itemiterator",data:=.fields #[.none,.bool aE,.ref d,.int 0 0,.int (([]:List (aG×aI)).length) 0,.int ((0:Nat):Int) 0,.none,.none]}}) ?_ 0 rfl
 rintro n s' rfl
 have P: ∀b o,z.s.heap.get? b=aA o->((z.s.heap.push W).push {cls:=.type "dict_itemiterator",data:=.fields #[.none,.bool aE,.ref d,.int 0 0,.int (([]:List (aG×aI)).length) 0,.int ((0:Nat):Int) 0,.none,.none]}).get? b=aA o:=λb o e=>gS _<|x b o e;refine wpAny_pyNext_items_end K.R.1 (fH _ rfl) (Y _<|P _ _ f) rfl λh' B=>zy ?_
 have Z: ∀b o,z.s.heap.get? b=aA o->h'.get? b=aA o:=λb o e=>B b o (λq=>by
  have A:=kh e;rw[q,(DA .. :(z.s.heap.push W).objs.size=z.s.heap.objs.size+1)] at A
  exact mK _<|Nat.lt_of_succ_lt A) (P b o e)
 have l:=(K.keeps Z<|bh _);have j:=l.1;have U:=l.2;exact (k _ _ g).nx j U
theorem UW (B:C.nw=aB) (Z:C.hn=aB) (how:C.ow=aB) (ok:lF C nm i) (hg:nB C "Headers") (o:iD C L j):bV D C (.Assign [.Name nm N] (.Call (.Name "Headers" p) [.Name L kp] [] cpos) pos) (.pj i j):= @λl Kk h=>λ{X z Q Er} K k=>by
 induction i6 h with
 |mk h0 g=>
  have Y:=g.1;have a:=g.2.1;have g:=g.2.2;have Hq:=(C.nA ok.t);have v:=Hq.1;have A:=Hq.2;refine jj rfl rfl rfl (qp<|qe K hg H.F8.1<|H.F8.2 rfl (ua<|(Bm o h0).run K ?_));clear hg h K
  rintro _ _ ⟨rfl,rfl⟩ ov z2 c s2 q2
  refine lP ⟨c.F.base,?_⟩;refine dk (c.ow h0 q2) λp vs n u f1 f3 f4=>sb u<|wpAny_toks<|H.new c.R c.t c.F.base c.F.fN c.F.dj a f3 f4 λx h3 tk M hi l3=>?_
  have K3:=(c.F.keeps M).swap how (C.low _ _ o.t) h0 ((λY ys q=>by rw[Y] at q;exact nomatch q: ∀{r:bQ},r aT=.unb-> ∀ys,r aT≠ .own ys) Y);refine uf (wpAny_toks<|(K3.forget i v A).store ok.t ok.s ok.k (sl:=.inst) (λh' O m=>(cz x p ?_ rfl (D.P.kN hi m))) (λys ey=>by exact nomatch ey) λh' U F2 s4 l4=>?_)
  ·show (if aT=aT then z2.φ j else _)=_
   exact sb (QHb rfl)<|f1
  ·refine k _ _ g .next {s:={z2.s with heap:=h',toks:=U},W:=z2.W,φ:=_} ⟨by rw[fS,fS,fS,fS];exact F2,c.R,az c.t<|az l3 l4⟩ ⟨s2.st.trans<|(dg.all M).trans s4,az s2.t<|az l3 l4,⟨λz=>(by rw[B] at z;exact yr z),λz=>(by rw[Z] at z;exact yr z),λm b q=>?_⟩,by exact sb s2.e rfl⟩ .next
   have d:(if m=aT then z2.φ j else if m=j then aF else z2.φ m)=aA b:=q;rw[s2.f] at d
   split at d
   ·exact .inl ⟨j,d⟩
   ·split at d
    ·exact ay d
    ·exact .inl ⟨m,d⟩
end
theorem Wk [H:dA D] (m:C.K "reversed" =aA .globalImplicit) (L:Pl [x]) (hs:fu D C [x] [a]):hZ D C fl (.Call (.Name "reversed" p) [x] [] pos) (.rev a):= @λO O h=>λ{X z Q Er} K k=>by
 refine qp (zM K m (by decide+kernel) (u:=.type "reversed") (by lia)<|wo (L X.env pos)<|gG (L X.env pos)<|kP (hs h) K λds l us Z g b M q1=>?_);obtain ⟨xs,rfl,g⟩:=g;refine bf q1.hU λu us B Y N=>sb B ?_;cases N.kK;refine dk (Rd.lst_inv Y) λp vs n r e e2 q=>sb r ?_;have hsz:vs.toArray.size=xs.length:=by (erw[gm];exact sb q.len rfl)
 refine call_reversed_list (gN e) ?_;have j:(Z.s.heap.push<|revObj p<|(vs.toArray.size:Int) - 1).IsRevIter Z.s.heap.objs.size p ((vs.toArray.size:Int) - 1):=(gd _ (fH _ rfl) rfl rfl);refine wpAny_pyIter_revIter j ?_;have W:=Walks.listRev (prog:=D.prog) (w:=D.w) b.R.1 Z.s.heap.objs.size p (λq=>by rw[q,ie<|bh _] at e;exact ay e) vs.toArray
 refine vc (P:=λi v=>vs.toArray[vs.toArray.size - 1 - i]?=aA v/\i<vs.toArray.size) (St:=λi h=>i<=vs.toArray.size/\h.IsRevIter Z.s.heap.objs.size p ((vs.toArray.size:Int) - 1 - (i:Int))/\h.IsList p vs.toArray) b rfl (Ei (.inl rfl)<|.inr ⟨⟨_,e⟩,GO b e λO=>nofun,λO w=>e2<|.inr w⟩) (by erw[AA];exact hsz)
  ⟨W.sub,W.frame,λi f F c t st h=>W.item i f F c t st λv h' tk L=>h v h' tk ⟨L,t⟩,W.done,W.self⟩ ⟨hJ _,by simpa using j,(gN e).push _⟩ (λi h q=>q.2.1.elim λo q=>cz o _ q.1 q.2.1<|by decide) (λi v A=>?_) ((k _ _ g).tr M)
 have e1:=A.1;have t:=A.2;refine aS (GJ q e1) λd U g2=>(ax d ?_ g2);rw[hsz] at U t;erw[List.getElem?_reverse t];exact cx U rfl
theorem VC [H:dA D] [HR:kn D] (hn:D.hm 2=aA (nm,fa)) (hm:MC x nm m pos xs) (f:aZ D C x a) (ha:fu D C xs es):qc D C (.Call (.Attribute x nm m) xs [] pos) (.jZ 2 a es):= @λO O h=>λ{X z Q Er} K kk=>by
 refine cQ (H.vM _ _ _ hn) λo fd q3 q4=>yC hm.k<|(f h).run K λv l1 h ov z1 N i r1=>λpl=>?_;clear f K;obtain ⟨rfl,h⟩:=AV h;have B:=r1;refine bf B λix ia p1 M p3=>?_;clear B;clear p1;subst M;refine H.zQ _ _ _ hn (by decide) N.F.base p3<|zr<|gG (hm.pl X.env)<|kP (ha h) N λds l us r g d U r3=>⟨⟨d.F.base _ _ q3,q4⟩,?_⟩;induction i6 g with
 |mk h1 g=>
 induction g with
 |mk e3 g=>
 obtain ⟨zs,rfl,g⟩:=g;refine cQ (HR.RN _ _ _ e3) λaa ab q1 j=>?_;cases bM hn q1;refine uP (d.hl (u:=.emp) h1<|r1.mon U) λaf ae vs n e p4 p5 p6 p7=>?_;cases e;refine wpAny_toks<|j d.cs p5 p6 p7 r3 λA ag n' s' c nw Y g2 lt=>?_;have hX:Ex (λb=>X.Ob b\/b=A) r.W=λb=>Ex X.Ob r.W b\/b=A:=by funext b;exact propext ⟨λq=>q.elim (λq=>q.elim (λq=>.inl<|.inl q) .inr) λq=>.inl<|.inr q,λq=>q.elim (λq=>q.elim (λq=>.inl<|.inl q) .inr) λq=>.inl<|.inr q⟩
 have L: ∀b o,r.s.heap.get? b=aA o-> ¬ D.P.PF b->s'.heap.get? b=aA o:=λb o e p=>c.keep b o e id p
 refine bI (d.F.Fq (Ob₂:=(X.add A).Ob) (Z:=λO=>False) (h':=s'.heap) (λa z=>z.elim) (λa z=>z.elim) (λa o e O p=>L a o e p) (λb q=>by
  rcases q with q|q
  ·obtain ⟨o,w⟩:=d.F.dj b (.inl q)
   exact ⟨.inl q,o,L b o w λp=>d.F.dT b (d.F.pf b p) q⟩
  ·exact ⟨.inr<|q▸nw,_,q▸Y⟩) (hX▸c.inv)) λF4 m4=>?_
 exact kk _ _ g A ag n' {r with s:=s'} ⟨⟨F4,d.R,az d.t lt⟩,(i.trans U).trans ⟨d.F.CZ L,lt,rfl,c.e⟩,Y,(hX▸g2:bB (Ex (λb=>X.Ob b\/b=A) r.W) s'.heap ag _),d.F.u7 nw,d.F.BH nw,(i.trans U).st.new nw⟩
end
noncomputable def Fc.fn (names:List (aG×dQ)) (bd:Nat) (nw hn:Bool) (cd:Option (aM×aG)) (hb:names.length<=bd/\bd<=1000000):Fc where
 K x:=names.lookup x
 cM x:=match names.lookup x with
  |some k=>if j3 k then aA (names.findIdx (·.1==x)) else aF
  |none=>aF
 rU x:=match names.lookup x with|some k=>j3 k|none=>aE
 inj:=by
  intro x y i A H;induction M:names.lookup x with
  |none=>rw[M] at A;exact ay A
  |some k=>
   induction hy:names.lookup y with
   |none=>rw[hy] at H;exact ay H
   |some b=>
    rw[M] at A;rw[hy] at H;dsimp only at A H
    split at A
    ·split at H
     ·have m:=(vz M)
      have l:=m.2;refine aS l λp e1 e2=>?_;have g:=(vz hy);have o:=g.2;refine aS o λq e z=>?_
      simp! only[(kC A).trans (kC H).symm,e] at e1
      clear e;cases e1
      simp! only[<-e2,<-z]
     ·exact ay H
    ·exact ay A
 bd:=bd
 rD:=by
  intro x i h;induction M:names.lookup x with
  |none=>rw[M] at h;exact ay h
  |some k=>
   rw[M] at h;dsimp only at h
   split at h
   ·cases h;exact mJ (vz M).1 hb.1
   ·exact ay h
 Cg:=hb.2
 ow:=aB
 nw:=nw
 hn:=hn
 cd:=cd
noncomputable def AN (D:Wd) (Ob:aM->Prop) (z:Zs) (v:aI):Sl->Prop
 |.val d=>Rd (Ex Ob z.W) z.s.heap v d
 |.inst=> ∃x a,z.φ aT=aA a/\v=.ref x/\D.P.HI (Ex Ob z.W) z.s.heap x a
 |.emp=> ∃a,v=.ref a/\z.s.heap.get? a=aA jJ/\ ¬ Ex Ob z.W a
 |_=>False
inductive eS (D:Wd) (Ob:aM->Prop) (z:Zs):List aI->List Sl->Prop
 |nil:eS D Ob z [] []
 |cons {v vs sl sls}:AN D Ob z v sl->eS D Ob z vs sls->eS D Ob z (v::vs) (sl::sls)
noncomputable def PC (i:List Nat) (sls:List Sl) (r:bQ):bQ:=(i.zip sls).foldl (λr p=>upd r p.1 p.2) r
noncomputable def jH (i:List Nat) (sls:List Sl) (l:Ls):Ls:=(i.zip sls).foldl (λl p=>cL l p.1 p.2) l
theorem QAt (i:List Nat) (sls:List Sl) (l:Ls):aL (jH i sls l)=PC i sls (aL l):=Gn (λp:Nat×Sl=>(p.1,p.2)) _ l
inductive iW:Fl->aK->Prop
 |next:iW .next .none
 |ret {d}:iW (.ret d) d
theorem iW.fn (h:iW f d) (h':iW f R):d=R:=by induction h<;>cases h'<;>rfl
structure En (D:Wd) (Ob:aM->Prop) (r:bQ) (z:Zs):Prop where
 base: ∀b o,D.G.get? b=aA o->z.s.heap.get? b=aA o
 fN: ∀b o,D.G.get? b=aA o-> ¬ Ex Ob z.W b
 own: ∀i xs,r i=.own xs-> ∃a vs n,z.φ i=aA a/\z.s.heap.get? a=aA (listOf vs.toArray n)/\bB (Ex Ob z.W) z.s.heap vs xs
 gH: ∀i xs a,r i=.own xs->z.φ i=aA a->i≠aT->z.W a
 jf: ∀xs,r aT=.own xs->r bR=.emp-> ∀a,z.φ aT=aA a->z.W a
 ko: ∀xs,r aT=.own xs->r bR≠ .emp-> ∀a,z.φ aT=aA a-> ¬ z.W a
 lD:(∀xs,r aT≠ .own xs)->z.φ aT=aF
 inj: ∀i j a,z.φ i=aA a->z.φ j=aA a->i=j
 j5: ∀i a,z.φ i=aA a-> ∃o,z.s.heap.get? a=aA o
 dj: ∀a,Ex Ob z.W a-> ∃o,z.s.heap.get? a=aA o
 dT: ∀a,z.W a-> ¬ Ob a
 inv:D.P.Inv (Ex Ob z.W) z.s.heap
 pf: ∀a,D.P.PF a->z.W a
structure Bk (D:Wd) (C:Fc) (Ob:aM->Prop) (r:bQ) (d:aK) (z:Zs) (u:aI) (env:cg) (z':Zs):Prop where
 F:FR D.P D.G C env Ob z'.φ z'.W r z'.s.heap
 s:Sy C z z'
 rd: ∀X:aM->Prop,(∀b,X b->Ob b\/(z'.W b/\(z'.φ aT=aA b\/D.P.PF b)))->Rd X z'.s.heap u d
noncomputable def Zs.nK (z:Zs) (names:List (aG×dQ)):Zs:={z with s:={z.s with heap:=kE (z.s.heap.push {cls:=.type "frame",data:=.dict #[]}) names},W:=λa=>z.W a\/(z.s.heap.get? a=aF/\ ∃o,(kE (z.s.heap.push {cls:=.type "frame",data:=.dict #[]}) names).get? a=aA o)}
theorem Zs.Nb:Sx z (z.nK names):=⟨⟨λa o e O=>HL _ _ _ _ _ e,λa q=>q.imp id And.left⟩,bh _,rfl,rfl⟩
section
theorem AN.mon {sl:Sl} (x:AN D Ob z v sl) (s:Sx z z'):AN D Ob z' v sl:=by
 have m:Mon (Ex Ob z.W) z.s.heap (Ex Ob z'.W) z'.s.heap:=s.st.mon;induction sl with
 |val d=>exact Rd.mon x m
 |inst=>exact bf x λy a u n q=>(cz y a (s.f▸u) n<|D.P.kN q m)
 |emp=>exact cy x λa e Q b=>(ax a e<|m _ _ Q b)
 |_=>exact x
theorem eS.mon {vs:List aI} (x:eS D Ob z vs sls) (s:Sx z z'):eS D Ob z' vs sls:=by
 induction x with
 |nil=>exact .nil
 |cons a _ i=>exact .cons (a.mon s) i
theorem eS.len {vs:List aI} (x:eS D Ob z vs sls):vs.length=sls.length:=by
 induction x with
 |nil=>rfl
 |cons _ _ i=>exact QHd DD i
theorem eS.app {us vs:List aI} (a:eS D Ob z us ss) (b:eS D Ob z vs ts):eS D Ob z (us++vs) (ss++ts):=by
 induction a with
 |nil=>exact b
 |cons a _ i=>exact .cons a i
theorem eS.vals {vs:List aI} {ds:List aK} (q:bB (Ex Ob z.W) z.s.heap vs ds):eS D Ob z vs (ds.map .val):=by
 induction ds generalizing vs with
 |nil=>exact sb q.kK<| .nil
 |cons d ds i=>exact bf q.hU λu U e Q b=>sb e<| .cons Q<|i b
theorem ZN (h:oK C ps g): ∀{A:cV} {X:Fx} {r:bQ} {z:Zs} {us:List aI} {sls:List Sl} {Q:PUnit->aN->Prop} {Er:aI->aN->Prop},FX D C X r z->eS D X.Ob z us sls->ps.length=sls.length->
 (∀z',FX D C X (PC g sls r) z'->Sx z z'->Q lQ z'.s)->aO (aY D.prog D.w) A (forIn (ps.zip us) lQ λx O=>do Ct X.env x.1 x.2;pure (oz lQ)) Q Er z.s:=by
 induction h with
 |nil=>
  intro A X r z us sls Q Er K q _ k
  simp! only[List.zip_nil_left,zj]
  exact bA<|k z K .refl
 | @cons p i ps g o _ c=>
  intro A X r z us sls Q Er K q L k;induction q with
  |nil=>contradiction
  | @cons u us sl sls b q2=>
   simp! only[List.zip_cons_cons,ud]
   refine bI (C.nA o.t) λM H=>aR<|aR<|wpAny_toks<|(K.F.forget i M H).store o.t o.s o.k (sl:=sl) (λN O m=>?_) (λxs e=>?_) λN Z F S l=>bA ?_
   ·clear L k
    induction sl with
    |val d=>exact (ax u rfl (Rd.mon b m))
    |inst=>exact bf b λy a Y n w=>(cz y a Y (n▸rfl)<|D.P.kN w m)
    |emp=>exact cy b λa e v W=>(ax a (e▸rfl)<|m _ _ v W)
    |_=>exact b.elim
   ·clear L k
    subst e;exact b.elim
   ·have U:Sx z (z.to N Z):=⟨S,l,rfl,rfl⟩
    exact c ⟨F,K.R,az K.t l⟩ (q2.mon U) (zz L) λf B j=>k f B<|U.trans j
theorem gv.go (R:gv (n+1) A):gv n (A.deeper env):=⟨R.1,by have:=R.2.1;refine (?_:A.depth+1+n<=900);exact aQ this,by have:=R.2.2;refine (?_:A.units+3+10*n+300<=9900);exact aQ this⟩
theorem gv.lt {n:Nat} {A:cV} (R:gv (n+1) A):A.depth<1000:=by have:=R.2.1;exact aQ this
structure Tx (D:Wd) (C:Fc) (body:List cq) (ps:List aG) (is:List Nat) (bs:List S):Prop where
 hp:oK C ps is
 hB:ji D C body bs
 ow:C.ow=aB
theorem PS {body:List cq} {ps:List aG} {is:List Nat} {bs:List S} (T:Tx D C body ps is bs) (lim:D.G.NoLimit) {sls:List Sl} {l:Ls} {Kb:Fl->Ls->Prop} (hl:ps.length=sls.length) (he:sW bs D.o (jH is sls l) Kb)
 {A:cV} {scope:jQ} {gl N:aM} {cl:List (aG×aM)} {qual:aG} {func:Option aM} {code:aI} {us:List aI} {Q:aI->aN->Prop} {Er:aI->aN->Prop} (R:gv (D.n+1) A) (t:1<=z.s.toks) (m:eS D Ob z us sls)
 (Y: ∀env,env=H2 scope z.s.heap.objs.size gl (jP (z.s.heap.objs.size+1) scope.names cl) qual func code aF N->FR D.P D.G C env Ob z.φ (z.nK scope.names).W (aL l) (z.nK scope.names).s.heap)
 (k: ∀fl L d,Kb fl L->iW fl d-> ∀u env z',Bk D C Ob (aL L) d z u env z'->Q u z'.s) (Z: ∀L, ¬ Kb .cont L):
 aO (aY D.prog D.w) A.in1 (H3 scope gl cl (ps.zip us) qual func code aF N) (λenv H=>H.heap.NoLimit/\uh (aY D.prog D.w) A (.func body env) (λr s'=>match r with|.ok (.ret v)=>Q v s'|.ok _=>False|.error e=>Er e s') H) (λe s'=>Er e s') z.s:=by
 refine Lg λenv p=>ZN (X:=⟨A.deeper env,env,Ob⟩) (z:=z.nK scope.names) T.hp ⟨Y env p,R.go,t⟩ (m.mon Zs.Nb) hl λz1 j s1=>⟨lim.keeps j.F.base,codeAny_func ?_⟩;rw[<-QAt] at j;refine T.hB he j λfl L g f z2 K s2 fi=>?_;have s3:=(Zs.Nb.trans s1).y.trans s2;clear lim he R m Y p j s2;induction fi with
 |next=>exact k _ _ _ g .next .none env z2 ⟨K.F,s3,λX O=>Rd.none⟩
 |cont=>exact (Z _ g).elim
 | @ret v u _ q1 q2=>
  refine k _ _ _ g .ret v env z2 ⟨K.F,s3,λX x=>?_⟩;have U:Mon (Ex Ob z2.W) z2.s.heap X z2.s.heap:=λb o e n=>⟨e,λz=>n<|(x b z).imp id And.left⟩;clear g;induction q2 with
  |d=>exact Rd.mon q1 U
  | @bor i xs h q=>
   refine dU (K.F.own i xs q) λb vs n e1 e2 c=>aS q1 λb' a B=>sb B ?_;obtain rfl:=bM e1 a;refine Rd.lst e2 (λz=>?_)<|c.mon U;rcases x b z with z|⟨_,z|z⟩
   ·exact K.F.dT b (K.F.gH T.ow i xs b q e1 h) z
   ·exact h<|K.F.inj i aT b e1 z
   ·refine cQ (D.P.iS K.F.inv z) λo' vs' M d'=>?_
    rw[e2] at M;cases M;contradiction
structure Du (G:bK) (fd:FuncData) (body:List cq) (names:List (aG×dQ)) (cd:Option (aM×aG)):Prop where
 cr:G.CodeRec fd.code fd.qualname
 bd:fd.body=.stmts body
 nm:fd.scope.names=names
 kd:fd.scope.kind=.function
 co:fd.scope.isCoroutine=aE
 ge:fd.scope.isGenerator=aE
 cl:fd.closure=[]
 gl:fd.globals=nO
 bu:fd.builtins=ic
 cd: ∀c q,cd=aA (c,q)->fd.code=.ref c/\fd.qualname++ ".<locals>." =q
inductive qI (G:bK) (a:aM) (body:List cq) (names:List (aG×dQ)) (cd:Option (aM×aG)) (ps:List aG) (ex:List aI):Prop
 |mk {o fd}:G.get? a=some o->o.data=.func fd->Du G fd body names cd->(∀us:List Value,us.length+ex.length=ps.length-> ∀{M:Model} {A:Around} {E:Value->Shared->Prop} {Q:List (Str×Value)->Shared->Prop} {s:Shared},(∀b o,G.get? b=some o->s.heap.get? b=some o)->Q (ps.zip<|us++ex) s->wpAny M A (bindArgs fd ⟨us,[]⟩) Q E s)->qI G a body names cd ps ex
section
variable {nw hn:Bool} {l:Ls} {d:aK} {Kb:Fl->Ls->Prop} {xs hs hs':List aK} {ex:List aI} {exs:List Sl} {o':bj} {A:cV} {us:List aI} {Q:aI->aN->Prop} {Er:aI->aN->Prop}
theorem MH (T:Tx D (Fc.fn names bd nw hn cd hb) body ps is bs) (lim:D.G.NoLimit) (f:Du D.G fd body names cd) (m:(names.map (·.1)).Nodup) (hl:ps.length=sls.length) (M:sW bs D.o (jH is sls l) Kb) (Z: ∀i,i<bd->aL l i=.unb)
 (R:gv (D.n+1) A) (t:1<=z.s.toks) (e:En D Ob (aL l) z) (P:eS D Ob z us sls) (k: ∀fl L d,Kb fl L->iW fl d-> ∀u env z',Bk D (Fc.fn names bd nw hn cd hb) Ob (aL L) d z u env z'->Q u z'.s) (C: ∀L, ¬ Kb .cont L):
 aO (aY D.prog D.w) A.in1 (H3 fd.scope fd.globals fd.closure (ps.zip us) (fd.qualname++ ".<locals>.") N fd.code aF fd.builtins) (λenv H=>H.heap.NoLimit/\uh (aY D.prog D.w) A (.func body env) (λr K=>match r with|.ok (.ret v)=>Q v K|.ok _=>False|.error e=>Er e K) H) (λe K=>Er e K) z.s:=by
 refine PS T lim hl M R t P (λenv F=>?_) k C;have h: ∀x i,(Fc.fn names bd nw hn cd hb).cM x=aA i->aL l i=.unb:=λx i q=>Z i ((Fc.fn names bd nw hn cd hb).rD x i q)
 simp! only[f.cl,f.nm] at F
 refine sb f.nm<|HP m (by erw[F];rfl) (by erw[F];rfl) (by erw[F];exact f.kd) (λx=>by erw[F];refine (?_:fd.scope.names.lookup x=_);erw[f.nm];rfl) (by erw[F];exact f.gl) (by erw[F];exact f.bu) (λc q e=>by erw[F];exact f.cd c q e)
  (λx i a b=>h x i b) (λx i a b=>.inl ⟨?_,h x i b⟩) (λx a b=>a) (λx c q=>by exact ay q) (λx y c q=>by exact ay q) e.base e.fN e.own (λO=>e.gH) e.jf e.ko e.lD e.inj e.j5 e.dj e.dT e.inv e.pf
 have B:(match names.lookup x with|some k=>if j3 k then aA (names.findIdx (·.1==x)) else aF|none=>aF)=aA i:=b;refine cp (a) (λa=>?_) λa=>?_
 ·exact a
 ·have Y:names.lookup x=aA .free:=a
  rw[Y] at B;exact ay B
theorem EC (T:Tx D (Fc.fn names bd nw hn cd hb) body ps is bs) (lim:D.G.NoLimit) (q:qI D.G a body names cd ps ex) (N:(names.map (·.1)).Nodup) (hl:ps.length=sls.length) (Z:sW bs D.o (jH is sls l) Kb) (r: ∀i,i<bd->aL l i=.unb)
 (R:gv (D.n+1) A) (t:1<=z.s.toks) (e:En D Ob (aL l) z) (v:eS D Ob z (us++ex) sls) (k: ∀fl L d,Kb fl L->iW fl d-> ∀u env z',Bk D (Fc.fn names bd nw hn cd hb) Ob (aL L) d z u env z'->Q u z'.s) (C: ∀L, ¬ Kb .cont L):aO (aY D.prog D.w) A (call (.ref a) us) Q Er z.s:=by
 induction q with
 |mk W U f F=>exact xA (QE R.lt (e.base _ _ W) U f.co f.ge f.bd (f.cr.keeps e.base)<|F us (by (erw[<-du];erw[v.len];exact sb hl rfl)) e.base<|MH T lim f N hl Z r R t e v k C)
noncomputable def tE (D:Wd) (X Y:aM->Prop) (b:aM):Prop:=X b/\ ¬ Y b/\ ¬ D.P.PF b
theorem Ca {X Y:aM->Prop} (h: ∀b,Y b->X b) (p: ∀b,D.P.PF b->X b) (q:Ex (tE D X Y) (λb=>Y b\/D.P.PF b) b):X b:=q.elim (·.1) λq=>q.elim (h b)<|p b
theorem Em {X Y W:aM->Prop} (y: ∀b,Y b->W b) (p: ∀b,D.P.PF b->W b) (q:X b):Ex (tE D X Y) W b:=by
 by_cases h:Y b
 ·exact .inr<|y b h
 ·by_cases H:D.P.PF b
  ·exact .inr<|p b H
  ·exact .inl ⟨q,h,H⟩
theorem qA {X Y:aM->Prop} (y: ∀b,Y b->X b) (p: ∀b,D.P.PF b->X b):Mon X h (Ex (tE D X Y) λb=>Y b\/D.P.PF b) h:=λb o e n=>⟨e,λq=>n<|Ca y p q⟩
theorem Bk.ct {X Y:aM->Prop} {s:aN} {o':bj} (b:Bk D C (tE D X Y) r d ⟨s,λb=>Y b\/D.P.PF b,φ⟩ u env z') (a: ∀b,Y b->z'.W b) (h: ∀b,Y b->z'.φ aT=aA b):CT {D with n:=m,o:=o'} X Y s z'.s/\Rd X z'.s.heap u d:=by
 refine ⟨⟨λc o e n p=>b.s.st.keep c o e λw=>w.elim n p,D.P.iU b.F.inv (λc o e n=>⟨e,λw=>n<|Em a b.F.pf w⟩) λO O=>rfl,b.s.e⟩,b.rd X λc q=>?_⟩;by_cases w:Y c
 ·exact .inr ⟨a c w,.inl<|h c w⟩
 ·by_cases p:D.P.PF c
  ·exact .inr ⟨b.F.pf c p,.inr p⟩
  ·exact .inl ⟨q,w,p⟩
noncomputable def vq (P:List Nat):Ls:=P.map λi=>(i,.unb)
theorem NU (P:List Nat):aL (vq P)=aL []:=by
 funext i;induction P with
 |nil=>rfl
 |cons p P h=>
  refine (?_:cond (bt p i) Sl.unb (aL (vq P) i)=_);cases bt p i
  ·exact h
  ·rfl
theorem PD {P:List Nat} (T:Tx D (Fc.fn names bd nw hn cd hb) body ps is bs) (lim:D.G.NoLimit) (f:qI D.G a body names cd ps []) (N:(names.map (·.1)).Nodup) (hl:ps.length=xs.length) (he:sW bs D.o (jH is (xs.map .val)<|vq P) λfl O=>iW fl d):oB {D with n:=D.n+1,o:=o'} a xs d:=by
 intro A s X us Q E c v k;have y: ∀b,(λO:aM=>False) b->X b:=λO=>mG;have x:=λb=>Ca (b:=b) y c.pf
 refine EC (D:=D) (z:=⟨s,λb=>False\/D.P.PF b,λO=>aF⟩) (Ob:=tE D X λO=>False) (l:=vq P) T lim f N (by simp! only[dY,hl]) he (λi O=>congrFun (NU P) i) c.R c.t (sb (NU P) ⟨c.base,λb o e q=>c.fN b o e<|x b q,nofun,nofun,nofun,nofun,λO=>rfl,nofun,nofun,λb q=>c.al b<|x b q,λb q i=>q.elim id i.2.2,D.P.iU c.inv (qA y c.pf) λO O=>rfl,λb p=>.inr p⟩)
  (by simp! only[eZ];exact eS.vals<|v.mon<|qA y c.pf) (λfl L B g Z u env z' b=>?_) (λL g=>by cases g)
 obtain rfl:=g.fn Z;exact bI (b.ct (o':=o') (m:=D.n+1) (λO=>mG) λO=>mG) λH h=>k u z'.s H h
noncomputable def vh (N:aM) (i:Nat):Option Addr:=if i=aT then aA N else aF
theorem QBH (q:vh N i=aA a):i=aT/\a=N:=by
 unfold vh at q
 split at q
 ·cases q;exact ⟨‹_›,rfl⟩
 ·exact ay q
theorem vm:vh i aT=aA i:=QHb rfl
theorem Ga {X Y:aM->Prop} {vs:List aI} {ds:List aK} (c:CS {D with n:=D.n+1,o:=o'} A X s) (y: ∀b,Y b->X b) (Q:s.heap.get? N=aA (listOf vs.toArray n)) (v:bB X s.heap vs ds) (e1: ∀i ys,r i=.own ys->i=aT/\ys=ds) (e2:r aT=.own ds) (u:r bR=.emp->Y N) (W:r bR≠ .emp-> ¬ Y N):
 En D (tE D X Y) r ⟨s,λb=>Y b\/D.P.PF b,vh N⟩:=by
 have x:=λb=>Ca (D:=D) (b:=b) y c.pf;have M:=qA (D:=D) (h:=s.heap) y c.pf;have B: ∀i a,vh N i=aA a->i=aT/\a=N:=λO O=>QBH;refine ⟨c.base,λb o e q=>c.fN b o e<|x b q,λi ys e=>?_,λi ys a e O f=>QHZ (e1 i ys e).1 f,λys O w a q=>.inl<|(B aT a q).2▸u w,λys O w a q z=>?_,λw=>QHZ e2<|w ds,λi j a p q=>(B i a p).1.trans (B j a q).1.symm,λi a q=>⟨_,(B i a q).2▸Q⟩,λb q=>c.al b<|x b q,λb q R=>q.elim R.2.1 R.2.2,D.P.iU c.inv M λO O=>rfl,λb p=>.inr p⟩
 ·have H:=(e1 i ys e)
  have m:=H.1;have g:=H.2;exact sb m<|sb g<|(la N vs n vm Q<|v.mon M)
 ·rw[(B aT a q).2] at z
  refine cp (z) (λz=>?_) λz=>?_
  ·exact W w z
  ·refine cQ (D.P.iS c.inv z) λo F e d=>?_
   obtain rfl:=bM Q e;exact nomatch d
noncomputable def rR (hs:List aK):Ls:=[(aT,.own hs)]
noncomputable def rH (hs:List aK):Ls:=[(aT,.own hs),(bR,.emp)]
theorem FQ (b:Bool) (e:aL (bif b then rH hs else rR hs) i=.own ys):i=aT/\ys=hs:=by
 have k: ∀l,(∀ys,aL l i≠ .own ys)->aL ((aT,.own hs)::l) i=.own ys->i=aT/\ys=hs:=λl n e=>by
  by_cases h:aT=i
  ·clear n
   subst h;cases e;exact ⟨rfl,rfl⟩
  ·have u:cond (bt aT i) _ (aL l i)=.own ys:=e
   rw[qd h] at u;exact QHZ u<|n _
 induction b with
 |false=>exact k [] (λO=>nofun) e
 |true=>refine k [(bR,.emp)] (λys q=>?_) e;have Q:cond (bt bR i) Sl.emp .unb=.own ys:=q;cases w:bt bR i<;>rw[w] at Q<;>exact nomatch Q
theorem Dt (b:Bool) (h:i<1000000):aL (bif b then rH hs else rR hs) i=.unb:=by
 have H:bt aT i=false:=qd λz=>by rw[<-z] at h;exact QHZ h (by decide)
 have m:bt bR i=false:=qd λz=>by rw[<-z] at h;exact QHZ h (by decide)
 induction b with
 |false=>show cond (bt aT i) _ _=_;erw[H];rfl
 |true=>show cond (bt aT i) _ (cond (bt bR i) _ _)=_;refine sb H<|sb m ?_;rfl
theorem R6 (T:Tx D (Fc.fn names bd nw aE cd hb) body ps is bs) (lim:D.G.NoLimit) (v: ∀{Ob z},eS D Ob z ex exs) (fa:qI D.G a body names cd ps ex) (L:(names.map (·.1)).Nodup) (hl:ps.length=(xs.map xS++exs).length+1)
 (Z:sW bs D.o (jH is (.inst::(xs.map .val++exs))<|rH hs) λfl l=>iW fl d/\aL l aT=.own hs'/\aL l bR=.emp):qy {D with n:=D.n+1,o:=o'} a xs hs d hs':=by
 intro A s X us vs x N n Q E c hi M U C j k;have y: ∀b,(λb=>b=N) b->X b:=λb q=>q▸M;refine EC (D:=D) (us:=.ref x::us) (sls:=.inst::(xs.map .val++exs)) T lim fa L hl Z (λi q=>Dt aB<|mJ q hb.2) c.R c.t (Ga c y U C (λi ys e=>FQ aB e) rfl (λO=>rfl) (λw=>QHZ rfl w)) (.cons (cz x N vm rfl (D.P.kN hi<|qA y c.pf))<|(eS.vals<|j.mon<|qA y c.pf).app v) (λfl f d' g Y u env z' b=>?_) (λf g=>by cases g.1);refine eN g λg r B=>?_;obtain rfl:=g.fn Y;have h:=(b.s.p.hn rfl).trans vm;refine dU (b.F.own aT hs' r) λaa vs' n' e1 e2 e3=>?_;obtain rfl:=bM h e1;have H: ∀b,b=N->z'.W b:=λO q=>q▸b.F.jf hs' r B N h;exact bI (b.ct H λO q=>q▸h) λm K=>k u z'.s vs' n' m e2 (e3.mon λc o e n=>⟨e,λw=>n<|Em H b.F.pf w⟩) K
theorem QAq (T:Tx D (Fc.fn names bd nw aE cd hb) body ps is bs) (lim:D.G.NoLimit) (B: ∀{Ob z},eS D Ob z ex exs) (f:qI D.G a body names cd ps ex) (N:(names.map (·.1)).Nodup) (hl:ps.length=(xs.map xS++exs).length+1)
 (F:sW bs D.o (jH is (.inst::(xs.map .val++exs))<|rR hs) λfl O=>iW fl d):rA {D with n:=D.n+1,o:=o'} a xs hs d:=by
 intro A s X us m x C n Q E c j r v K k;have y: ∀b,(λO:aM=>False) b->X b:=λO=>mG;refine EC (D:=D) (us:=.ref x::us) (sls:=.inst::(xs.map .val++exs)) T lim f N hl F (λi q=>Dt aE<|mJ q hb.2) c.R c.t (Ga (ds:=hs) c y r v (λi Y e=>FQ aE e) rfl (λw=>by have w:=w;exact nomatch w) (λO=>id)) (.cons (cz x C vm rfl (D.P.kN j<|qA y c.pf))<|(eS.vals<|K.mon<|qA y c.pf).app B) (λfl l L g Z u env W b=>?_) (λl g=>by exact nomatch g);obtain rfl:=g.fn Z;exact bI (b.ct (λO=>mG) λO=>mG) λH h=>k u W.s H h
end
end
structure hH where
 nm:aG
 args:Arguments
 body:List cq
 scope:jQ
 ps:List aG
 pos:bP
 own:aM
 tab:aM
 qual:aG
structure L3 where
 HI:(aM->Prop)->bK->aM->aM->Prop
 kN: ∀{X h X' h' x a},HI X h x a->Mon X h X' h'->HI X' h' x a
inductive M4 (cf:hH) (X:aM->Prop) (h:bK) (cl:List (aG×aM)) (a:aM):Prop
 |mk {o fd c' oc vs t}:h.get? a=some o-> ¬ X a->o.data=.func fd->fd.code=.ref c'->h.get? c'=some oc-> ¬ X c'->oc.data=.fields vs->vs[1]?=some (.str fd.qualname t)->fd.body=.stmts cf.body->fd.scope=cf.scope->fd.closure=clOf cl cf.scope.names []->
  (∀x∈cf.scope.names,x.2=.free->(cl.lookup x.1).isSome=aB)->fd.globals=nO->fd.builtins=ic->(∀us:List aI,us.length=cf.ps.length->nQ fd ⟨us,[]⟩=pure (cf.ps.zip us))->M4 cf X h cl a
noncomputable def Eg (cf:hH) (X:aM->Prop) (h:bK) (c:aM):Prop:= ∃o v t,h.get? c=aA o/\ ¬ X c/\o.data=.fields v/\v[1]?=aA (.str (cf.qual++cf.nm) t)
inductive oN (cf:hH) (X:aM->Prop) (h:bK):Prop
 |mk {ps}: ¬ X cf.own->h.IsCode cf.own cf.tab ps->h.TableAt cf.own cf.tab ps->(codeAmong cf.pos ps.toList=none\/ ∃c',codeAmong cf.pos ps.toList=some (.ref c')/\Eg cf X h c')->oN cf X h
theorem v7 {h:bK} {ps:Array aI} {G:Prop} (x:h.IsCode c P ps) (k: ∀o vs F tf f t i text tt op,h.get? c=aA o->o.data=.fields vs->vs.getD 11 .none=.ref P->vs.getD 18 .none=.str F tf->vs.getD 7 .none=.int f t->vs.getD 9 .none=.bool i->vs.getD 10 .none=.int text tt->h.get? P=aA op->op.data=.fields ps->TriplesOk ps.toList->c≠P->G):G:=x.elim λo x=>x.elim λvs x=>x.elim λF x=>x.elim λtf x=>x.elim λf x=>x.elim λt x=>x.elim λi x=>x.elim λtext x=>x.elim λtt x=>x.elim λop x=>k o vs F tf f t i text tt op x.1 x.2.1 x.2.2.1 x.2.2.2.1 x.2.2.2.2.1 x.2.2.2.2.2.1 x.2.2.2.2.2.2.1 x.2.2.2.2.2.2.2.1 x.2.2.2.2.2.2.2.2.1 x.2.2.2.2.2.2.2.2.2.1 x.2.2.2.2.2.2.2.2.2.2
theorem YM {h h':bK} (x:h.IsCode c P ps) (H: ∀o,h.get? c=aA o->h'.get? c=aA o) (K: ∀o,h.get? P=aA o->h'.get? P=aA o):h'.IsCode c P ps:=by have e:h'.get? c=h.get? c/\h'.get? P=h.get? P:=v7 x λO O O O O O O O O O a O O O O O O b O O O=>⟨(H _ a).trans a.symm,(K _ b).trans b.symm⟩;delta Heap.IsCode;refine sb e.1<|sb e.2 x
theorem oN.mv {cf:hH} {X z:aM->Prop} {h h':bK} (i:oN cf X h) (m:Mon X h z h') (k: ∀o,h.get? cf.tab=aA o->h'.get? cf.tab=aA o):oN cf z h':=by
 induction i with
 |mk n Y x g=>have K:=λo e=>(m cf.own o e n).1;refine ⟨v7 Y λo O O O O O O O O O e O O O O O O O O O O=>(m _ o e n).2,YM Y K k,⟨iN x.1 λo vs a b c d=>jY o vs (K _ a) b c d,k _ x.2⟩,g.imp id λq=>?_⟩;exact aS q λC r q=>⟨C,r,dk q λoc vs t g2 g3 W j=>p9 oc vs t (m _ _ g2 g3).1 (m _ _ g2 g3).2 W j⟩
theorem oN.QCF {cf:hH} {X:aM->Prop} {h:bK} (i:oN cf X h): ∃o vs,h.get? cf.tab=aA o/\o.data=.fields vs:=by
 induction i with
 |mk n d t g=>exact v7 d λO O O O O O O O O F O O O O O O O U p O O=>fA F _ U p
noncomputable def iA (cu:Nat->Option hH) (H:L3):vE where
 CL f X h cl a:= ∃cf,cu f=aA cf/\M4 cf X h cl a
 HI:=H.HI
 ym:=by intro f X h U h' cl a p m;obtain ⟨cf,e,⟨A,z,Q,v,d,P,B,F,Y,K,c,g,R,L,x⟩⟩:=p;exact (ax cf e<|.mk (m _ _ A z).1 (m _ _ A z).2 Q v (m _ _ d P).1 (m _ _ d P).2 B F Y K c g R L x)
 kN:=H.kN
 PF a:= ∃f cf,cu f=aA cf/\a=cf.tab
 Inv X h:= ∀f cf,cu f=aA cf->oN cf X h
 iU:=λi m j f cf e=>(i f cf e).mv m λo q=>(j _<|fA f cf e rfl).trans q
 iS:=by intro X h a i l;refine cQ l λf cf e b=>?_;clear l;subst b;exact (i f cf e).QCF
section
variable {E:aI->aN->Prop} {s:aN}
theorem Yk {cf:hH} {X:aM->Prop} {env:cg} (C:env.code=.ref cf.own) (l: ∀b,X b-> ∃o,s.heap.get? b=aA o) (i:oN cf X s.heap)
 (hQ: ∀c h' tk,(∀b o,s.heap.get? b=aA o->b≠cf.tab->h'.get? b=aA o)->Eg cf X h' c->oN cf X h'->Q (.ref c) {s with heap:=h',toks:=tk}):
 aO M A (QF env cf.pos f cf.nm (cf.qual++cf.nm) p scope body) Q E s:=by
 have m:=i;obtain ⟨n1,d,B,g⟩:=i;rcases g with g|⟨c,g1,N⟩
 ·refine wpAny_functionCodeX C d B g λc h' tk Z R lt Y cr v O=>QAv cr λc2 oc vs t e1 e2 u q=>?_
  cases e1
  have nx: ¬ X c:=λx=>aV (l _ x) λo w=>mK _<|mJ (kh w) R
  have N:Eg cf X h' c:=(p9 oc vs t e2 nx u q);refine hQ c h' tk (λb o e n=>Z b o n e) N ⟨n1,Y,v,.inr<|ax c ?_ N⟩;exact v7 d λo W K tf F r j text tt op z hd h h2 h7 h9 H U P a L=>sb QFO<|sb (codeAmong_snoc _ a g) rfl
 ·refine v7 d λo vs K tf F r j text tt op z hd h h2 h7 h9 H U P a L=>?_
  delta QF codeAt;refine sb C<|sb (if_neg (Bool.false_ne_true: ¬ ((Value.ref cf.own==Value.none)=true)))<|wpAny_bind<|wpAny_fieldsOf z hd ?_
  refine sb h<|wpAny_bind<|wpAny_fieldsOf U P ?_
  exact sb g1<|wpAny_pure<|hQ c s.heap s.toks (λb o e O=>e) N m
end
section
theorem A4 {h:bK} (ob:bH) (b:aM) (o:bH) (e:h.get? b=aA o):(h.push ob).get? b=aA o:=gS ob e
theorem QCR [H:dA D] (hP:D.P=iA cu Hh) (hf:cu f=aA cf) (aj: ∀g r,cu g=aA r->r.tab=cf.tab->r=cf)
 (ah: ∃bm o,D.mg "__builtins__" =aA (.ref bm)/\bm≠ic/\D.G.get? bm=aA o/\o.cls=.type "module" /\o.dict=aA ic/\o.data=.plain)
 (ae:C.cd=aA (cf.own,cf.qual)) (ok:lF C cf.nm i)
 (ai:cf.args.kwonlyargs=[]) (ak:cf.args.kw_defaults=[]) (aq:cf.args.defaults=[]) (U: ∀env,annTrees cf.args aF env=[]) (M:docOf cf.body=aF)
 (N: ∀x∈cf.scope.names,x.2=.free->(C.cM x.1).isSome=aB/\(C.K x.1=aA .cell\/C.K x.1=aA .free))
 (B: ∀fd,fd.params=cf.args->fd.defaults=.none->fd.kwdefaults=.none-> ∀us,us.length=cf.ps.length->nQ fd ⟨us,[]⟩=pure (cf.ps.zip us)):
 bV D C (.FunctionDef cf.nm cf.args cf.body [] aF [] cf.scope aF cf.nm cf.pos) (.defn i f):=λe=>λ{X z Q Er} K k=>by
 refine bI (K.F.rV _ _ ae) λh L=>?_
 have aa: ∀x∈cf.scope.names,x.2=.free->(X.env.cells.lookup x.1).isSome=true:=λx hx af=>by
  refine bI (N x hx af) λf1 f2=>aV (mQ.mp f1) λj f1=>cQ (K.F.gr x.1 j f2 f1) λc v q O=>?_
  simp! only[q]
  rfl
 have ao:qualnameIn X.env cf.nm cf.nm=cf.qual++cf.nm:=by
  unfold qualnameIn;refine sb (K.F.hK cf.nm)<|sb L ?_
  rcases ok.k with q|q<;>rw[q]<;>rfl
 rw[exec_def,ao,defaultsOf_eq,ak,aq,U X.env];refine aR<|iJ<|aR<|cO ?_;refine aR<|bA ?_;refine aR<|cO<|bA ?_;refine cO<|wpAny_bind<|wpAny_pure ?_
 rw[makeFunction_eq,ai];refine aR (bA<|aR<|bA<|aR<|bA ?_)
 simp! only[makeTail,LM aa]
 refine aR<|bA ?_
 have dc: ∀ct Y,(∀b o,z.s.heap.get? b=aA o->Y.get? b=aA o)->aO (aY D.prog D.w) X.A (do
  let code<-QF X.env cf.pos cf.pos.line cf.nm (cf.qual++cf.nm) cf.args cf.scope (.stmts cf.body)
  let bu<-builtinsFor X.env.globals X.env.builtins
  let pm<-nsGet X.env.globals "__name__"
  let doc<-(match docOf cf.body with|some s=>mkText s|none=>pure .none)
  newObj (.type "function") (.func {name:=cf.nm,qualname:=cf.qual++cf.nm,params:=cf.args,body:=.stmts cf.body,scope:=cf.scope,globals:=X.env.globals,closure:=clOf X.env.cells cf.scope.names [],closureTuple:=ct,code,builtins:=bu,defaults:=.none,kwdefaults:=.none,annotations:=aF,pyModule:=pm.getD .none,doc})) (λa s'=>aO (aY D.prog D.w) X.A (do
  sO cf.pos
  z7 X.env cf.nm a
  pure Flow.next) Q Er s') Er {z.s with heap:=Y}:=by
  intro ct Y Z;have K1:FX D C X (aL _) (z.to Y z.s.toks):=⟨K.F.keeps Z,K.R,K.t⟩;have iv:=K1.F.inv
  simp! only[hP] at iv
  refine aR<|wpAny_toks<|Yk h K1.F.dj (iv f cf hf) λc' h2 tk d nc i2 l2=>?_;have u: ∀b o,Y.get? b=aA o-> ¬ D.P.PF b->h2.get? b=aA o:=λb o e p=>d b o e λq=>p (by simp! only[hP];exact (fA f cf hf q))
  have inv2:D.P.Inv (Ex X.Ob z.W) h2:=by
   erw[hP];intro g r eg;by_cases q:r.tab=cf.tab
   ·simp! only[aj g r eg q]
    exact i2
   ·exact (iv g r eg).mv (λb o e n=>⟨d b o e λq=>n (.inr<|q▸(K.F.pf _ (by simp! only[hP];exact (fA f cf hf rfl)):z.W cf.tab)),n⟩) λo w=>d _ _ w q
  have F2:=K1.F.keepsP u inv2;refine Bu ah λbm ob b1 b2 b3 b4 b5 b6=>?_;have ab:h2.Ns X.env.globals D.mg:=by simp! only[K.F.hg];exact H.gl.g.keeps F2.base
  refine aR<|wpAny_builtinsFor ab b1 b2 (F2.base _ _ b3) b4 b5 b6 ?_;refine aR (wpAny_nsGet ab ?_)
  simp! only[M]
  refine aR (bA<|QEt ?_<|by size_fits);refine bI (C.nA ok.t) λhw hh=>aR<|iJ<|aR<|QFF ?_;refine wpAny_toks (((F2.keeps<|A4 _).forget i hw hh).store ok.t ok.s ok.k (sl:=.clo f) (λh' O m=>?_) (λys ey=>by exact nomatch ey) λh' ag F s4 l4=>?_)
  ·refine dk nc λoc vs t e1 nx e3 e4=>(ax h2.objs.size rfl (D.P.ym ?_ m))
   exact sb hP<|(ax cf hf<|.mk (Heap.get?_push_size _ rfl) F2.tN rfl rfl (A4 _ _ _ e1) nx e3 e4 rfl rfl rfl aa K.F.hg rfl λus hu=>B _ rfl rfl rfl us hu)
  ·have l:=az l2 l4
   exact bA (k _ _ e _ (z.to h' ag) ⟨by simp! only[fS];exact F,K.R,az K.t l⟩ (Sx.y ⟨(((dg.all Z).trans<|K1.F.CZ u).trans<|dg.all<|A4 _).trans s4,l,rfl,rfl⟩) .next)
 split
 ·exact aR<|bA<|dc .none z.s.heap λO O e=>e
 ·exact aR<|wpAny_newTextTuple<|dc _ _<|A4 _
end
noncomputable def ju (f:Nat) (m:Bool):Sl->Sl
 |.val d=>.val d
 |.own Y=>bif m then .own Y else .unb
 |.clo g=>if g=f then .clo g else .unb
 |.emp=>.emp
 |_=>.unb
noncomputable def qE (f:Nat) (c:List Nat) (o:Option Nat) (r:bQ):bQ:=λi=>if i∈c then ju f (o==aA i) (r i) else .unb
noncomputable def Dg:aK->Bool
 |.none=>aB
 |.int _=>aB
 |_=>aE
noncomputable def tG (f:Nat) (c:List Nat) (o:Option Nat) (l:Ls):Ls:=c.map λi=>(i,ju f (o==aA i)<|aL l i)
theorem Wx (f:Nat) (c:List Nat) (o:Option Nat) (l:Ls):aL (tG f c o l)=qE f c o (aL l):=by
 funext j;unfold qE;induction c with
 |nil=>rfl
 |cons i W d=>
  refine (?_:cond (bt i j) _ (aL (tG f W o l) j)=_);by_cases h:i=j
  ·erw[h]
   rw[Co,if_pos<|.head _];rfl
  ·refine sb (qd h)<|sb d ?_
   by_cases q:j∈W
   ·refine sb (QHb q)<|sb (if_pos<|.tail _ q) ?_
    rfl
   ·refine sb (QHa q)<|sb (if_neg λw=>q<|(bp.mp w).resolve_left λe=>h e.symm) ?_
    rfl
inductive BO (l l2:Ls):Option Nat->Ls->Prop
 |none:BO l l2 none l
 |some {j xs ys}:aL l j=.own xs->aL l2 j=.own ys->BO l l2 (some j) (cL l j<|.own ys)
noncomputable def vy (o:bj) (f:Nat) (i c:List Nat) (t:Option Nat) (bs:List S) (xs:List aK) (l:Ls) (d:aK) (L:Ls):Prop:=xs.length=i.length/\sW bs o (jH i (xs.map .val)<|tG f c t l) λF W=>iW F d/\Dg d=aB/\BO l W t L
theorem WT {c1 c2:List (aG×aM)}: ∀(names:List (aG×dQ)) (a:List (aG×aM)),(∀x∈names,x.2=.free->c1.lookup x.1=c2.lookup x.1)->clOf c1 names a=clOf c2 names a:=by
 intro O;induction O with
 |nil=>exact λO O=>rfl
 |cons O r i=>
  obtain ⟨n,k⟩:=O
  exact λa h=>by
   dsimp only[Ab,Aw];by_cases K:(k==o3)=aB
   ·exact sb (QHb K)<|sb (if_pos K)<|sb (h (n,k) (.head _)<|beq_iff_eq.mp K)<|i _ λx M=>h x<|.tail _ M
   ·exact sb (QHa K)<|sb (if_neg K)<|i _ λx M=>h x<|.tail _ M
structure ta (Cow:Fc) (cf:hH) (C:Fc):Prop where
 free: ∀x∈cf.scope.names,x.2=.free->C.cM x.1=Cow.cM x.1/\(C.cM x.1).isSome=aB/\(C.K x.1=aA .cell\/C.K x.1=aA .free)
 ow:C.ow=aB
theorem Rd.atom {X x:aM->Prop} (q:Rd X h u d) (a:Dg d=aB):Rd x h' u d:=by
 cases d with
 |none=>refine aS q λO O b=>?_;cases b;exact Rd.none
 |int i=>exact aV q.dd λt e=>sb e<|Rd.int _ _
 |_=>exact br a
noncomputable def vb (φ:Nat->Option aM) (j:Nat):Option Addr:=if j=aT then aF else φ j
theorem yW (h:vb φ j=aA a):j≠aT/\φ j=aA a:=by
 unfold vb at h
 split at h
 ·exact ay h
 ·exact ⟨‹_›,h⟩
theorem Hc (n:j≠aT) (h:φ j=aA a):vb φ j=aA a:=(QHa n).trans h
inductive Wl (D:Wd) (oi:Option Nat) (r:bQ) (z:Zs) (b:aM):Prop
 |own {j ys}:oi=some j->r j=.own ys->z.φ j=some b->Wl D oi r z b
 |pf:D.P.PF b->Wl D oi r z b
noncomputable def zL (D:Wd) (o:Option Nat) (r:bQ) (z:Zs):Zs:=⟨z.s,Wl D o r z,vb z.φ⟩
noncomputable def tD (D:Wd) (o:Option Nat) (X:Fx) (r:bQ) (z:Zs) (b:aM):Prop:=Ex X.Ob z.W b/\ ¬ Wl D o r z b
structure rX (cf:hH) (Cow:Fc) (cN:List Nat) (oi:Option Nat):Prop where
 O3:(cf.scope.names.map (·.1)).Nodup
 Yt:cf.scope.kind=.function
 Zx:cf.scope.isCoroutine=aE
 i_:cf.scope.isGenerator=aE
 FH: ∀x∈cf.scope.names,x.2≠ .cell
 RR: ∀x i,cf.scope.names.lookup x=aA .free->Cow.cM x=aA i->i∈cN
 Nr: ∀i∈cN,i<Cow.bd
 CV: ∀j,oi=aA j->j∈cN
section
theorem rX.big (I:rX cf Cow cN oi) (h:i∈cN):i≠aT/\i≠bR:=by have:=mJ (I.Nr i h) Cow.Cg;exact ⟨λw=>by rw[w] at this;exact QHZ this (by decide),λw=>by rw[w] at this;exact QHZ this (by decide)⟩
theorem NH (h:i∈cN):qE f cN oi r i=ju f (oi==aA i) (r i):=QHb h
theorem PU (h:i∉cN):qE f cN oi r i=.unb:=QHa h
theorem Hd (e:qE f cN oi r i=.own ys):i∈cN/\oi=aA i/\r i=.own ys:=by
 by_cases d:i∈cN
 ·rw[NH d] at e
  induction hri:r i with
  |own zs=>
   rw[hri] at e;induction q:oi==aA i with
   |true=>rw[q] at e;clear hri;cases e;exact ⟨d,QHc.mp q,rfl⟩
   |false=>rw[q] at e;contradiction
  |clo g=>
   rw[hri] at e;unfold ju at e;dsimp only at e
   split at e<;>contradiction
  |_=>rw[hri] at e;contradiction
 ·rw[PU d] at e
  contradiction
theorem Wl.w (I:rX cf Cow cN oi) (i:ta Cow cf C) (K:FX D C X r z) (q:Wl D oi r z b):z.W b:=by
 induction q with
 |own o s Q=>exact K.F.gH i.ow _ _ b s Q (I.big<|I.CV _ o).1
 |pf p=>exact K.F.pf b p
theorem Fw (I:rX cf Cow cN oi) (i:ta Cow cf C) (K:FX D C X r z):Ex (tD D oi X r z) (Wl D oi r z)=Ex X.Ob z.W:=by
 funext b;refine propext ⟨λq=>q.elim (·.1) λq=>.inr<|q.w I i K,λq=>?_⟩;by_cases w:Wl D oi r z b
 ·exact .inr w
 ·exact .inl ⟨q,w⟩
theorem VQ (I:rX cf Cow cN oi) (c:ta Cow cf C) (K:FX D C X r z):En D (tD D oi X r z) (qE f cN oi r) (zL D oi r z):=by
 have x:=Fw I c K;have N: ∀ys,qE f cN oi r aT≠ .own ys:=λys e=>(I.big (Hd e).1).1 rfl;refine ⟨K.F.base,λb o e=>by erw[x];exact K.F.fN b o e,λi ys e=>?_,λi ys b e u n=>?_,λys e=>QHZ e<|N ys,λys e=>QHZ e<|N ys,λO=>(QHb rfl:vb z.φ aT=aF),λi j b e u=>K.F.inj i j b (yW e).2 (yW u).2,λi b e=>K.F.j5 i b (yW e).2,λb q=>K.F.dj b<|x▸q,λb w q=>q.2 w,by erw[x];exact K.F.inv,λb p=>.pf p⟩
 ·exact eN (Hd e) λd Y A=>dU (K.F.own i ys A) λb vs' n e1 e2 h=>(la b vs' n (Hc (I.big d).1 e1) e2 (by erw[x];exact h))
 ·exact eN (Hd e) λd Y A=>.own Y A (yW u).2
theorem Vf (hP:D.P=iA cu Hh) (A:cu f=aA cf) (I:rX cf Cow cN oi) (j:ta Cow cf C) (K:FX D C X r z) {code:aI} (Z: ∀x∈cf.scope.names,x.2=.free->(X.env.cells.lookup x.1).isSome=aB)
 (t:m=H2 cf.scope z.s.heap.objs.size nO (jP (z.s.heap.objs.size+1) cf.scope.names<|clOf X.env.cells cf.scope.names []) qual B code aF ic):
 FR D.P D.G (Cow.sub cf.scope.names aE aB hb) m (tD D oi X r z) (zL D oi r z).φ ((zL D oi r z).nK cf.scope.names).W (qE f cN oi r) ((zL D oi r z).nK cf.scope.names).s.heap:=by
 have e:=VQ (f:=f) I j K;have hX:Ex (tD D oi X r z) (zL D oi r z).W=Ex X.Ob z.W:=Fw I j K;have l:=yt cf.scope.names [] Z λy c q=>ay q
 have L: ∀x c,(clOf X.env.cells cf.scope.names []).lookup x=aA c-> ∃i v,C.cM x=aA i/\Cow.cM x=aA i/\cf.scope.names.lookup x=aA .free/\X.env.cells.lookup x=aA c/\z.s.heap.IsCell c v/\dZ D.P z.φ X.env.cells (Ex X.Ob z.W) z.s.heap i v (r i):=by
  intro x c q;have hm:(x,o3)∈cf.scope.names:=((l.2 x).mpr (by erw[q];rfl)).elim id λw=>br w
  refine eN (j.free _ hm rfl) λf1 f2 f3=>aV (mQ.mp f2) λi f4=>bf (K.F.gr x i f3 f4) λc' v q1 q2 q3=>?_;have q0:=l.1 x c q;clear hP A hb j K Z t e hX l q f2 f3;obtain rfl:=bM q1 q0;exact (tU i v f4 (f1▸f4) (CU I.O3 hm) q1 q2 q3)
 have a: ∀x,(x,o3)∈cf.scope.names-> ∃c,(clOf X.env.cells cf.scope.names []).lookup x=aA c:=λx M=>mQ.mp<|(l.2 x).mp<|.inl M
 have N: ∀x∈cf.scope.names,x.2=.free->m.cells.lookup x.1=X.env.cells.lookup x.1:=λx M Z=>by
  simp! only[(by erw[t];rfl:m.cells=jP (z.s.heap.objs.size+1) cf.scope.names (clOf X.env.cells cf.scope.names [])),(Ag cf.scope.names _ _ x.1).1 λw=>QHZ rfl (I.FH _ w)]
  refine aV (a x.1 (by erw[<-Z];exact M)) λc q=>?_
  simp! only[q,l.1 x.1 c q]
 have h: ∀i v,i∈cN->dZ D.P z.φ X.env.cells (Ex X.Ob z.W) z.s.heap i v (r i)->dZ D.P (vb z.φ) m.cells (Ex X.Ob z.W) z.s.heap i v (qE f cN oi r i):=by
  intro i v u x;erw[NH u];induction R:r i with
  |val d=>rw[R] at x;exact x
  |own ys=>
   rw[R] at x;induction q:oi==aA i with
   |true=>exact aS x λb q1 q2=>(ax b (Hc (I.big u).1 q1) q2)
   |false=>trivial
  |clo g=>
   rw[R] at x;unfold ju;dsimp only
   split
   ·rename_i q
    clear e R;subst q;refine aS x λb q1 q2=>(ax b q1 ?_);rw[hP] at q2⊢;refine aS q2 λxV e2 o=>?_;obtain ⟨k1,k2,k3,k4,k5,k6,k7,k8,k9,ab,aa,ah,ag,n,af⟩:=o;obtain rfl:=bM A e2;exact (ax cf A<|.mk k1 k2 k3 k4 k5 k6 k7 k8 k9 ab (aa.trans<|WT _ _ λx M Z=>(N x M Z).symm) (λx M Z=>by erw[N x M Z];exact ah x M Z) ag n af)
   ·trivial
  |emp=>rw[R] at x;exact x
  |_=>trivial
 refine HP (cl:=clOf X.env.cells cf.scope.names []) I.O3 (by erw[t];rfl) (by erw[t];rfl) (by erw[t];exact I.Yt) (λx=>?_) (by erw[t];rfl) (by erw[t];rfl) (λc q e=>by exact ay e) (λx i p q=>?_) (λx i p q=>?_) (λx p q=>?_) (λx c q=>?_) (λx y c q Q=>?_)
  e.base e.fN e.own (λO=>e.gH) e.jf e.ko e.lD e.inj e.j5 e.dj e.dT e.inv e.pf
 ·refine sb t<|(?_:cf.scope.names.lookup x=(cf.scope.names.lookup x).map λk=>if aE && k==.free && Cow.K x==aA .cell then .cell else k)
  cases cf.scope.names.lookup x<;>rfl
 ·refine PU λu=>?_
  have Q:(match cf.scope.names.lookup x with
   |some k=>if j3 k then (if x==nv then aF else aA (Cow.bd+cf.scope.names.findIdx (·.1==x))) else if k==.free then Cow.cM x else aF
   |none=>aF)=aA i:=q
  rw[((n9 p).elim id λw=>by cases w.1:cf.scope.names.lookup x=aA .local)] at Q;have Q:(if x==nv then aF else aA (Cow.bd+cf.scope.names.findIdx (·.1==x)))=aA i:=Q
  split at Q
  ·exact ay Q
  ·clear A hb j Z t l L a N p q
   cases Q
   exact QHZ (I.Nr _ u)<|iH.mpr<|mO _ _
 ·have Q:(match cf.scope.names.lookup x with
   |some k=>if j3 k then (if x==nv then aF else aA (Cow.bd+cf.scope.names.findIdx (·.1==x))) else if k==.free then Cow.cM x else aF
   |none=>aF)=aA i:=q
  have H:cf.scope.names.lookup x=aA .free:=by
   refine cp (p) (λp=>?_) λp=>?_
   ·refine cp (n9 p) (λw=>?_) λw=>?_
    ·exact QHZ rfl (I.FH _<|mem_of_lookup w)
    ·exact w.2.1
   ·refine cp (n9 p) (λw=>?_) λw=>?_
    ·exact w
    ·cases w.1
  rw[H] at Q;refine aV (a x<|mem_of_lookup H) λc q1=>Bu (L x c q1) λi' v O k3 O O k5 k6=>?_;have U:Cow.cM x=aA i:=Q;clear hP A hb j K Z t e l L a N p q Q;obtain rfl:=bM U k3;exact .inr ⟨H,c,v,q1,k5,by erw[hX];exact h i v (I.RR x i H U) k6⟩
 ·exact (n9 p).elim id λw=>br w.2.2.2
 ·exact Bu (L x c q) λO O O O O O Y O=>aS Y λo' w O=>⟨o',w⟩
 ·exact oC (L x c q) λO O O O O k4 O=>oC (L y c Q) λO O O O O ae O=>K.F.oe x y c k4 ae
theorem r_ (hP:D.P=iA cu Hh) (hf:cu f=aA cf) (lim:D.G.NoLimit) (I:rX cf Cow cN oi) (T:Tx D (Cow.sub cf.scope.names aE aB hb) cf.body cf.ps is bs)
 (hc: ∀C,D.cN f C->ta Cow cf C) (he:vy D.o f is cN oi bs xs l d l'):yh {D with n:=D.n+1,o:=o'} f xs l d l':=by
 intro C X z a us Q E x K Z hv k;have r:=hc C x;have K:FX {D with n:=D.n+1} C X (aL l) z:=⟨K.F,K.R,K.t⟩;have hlen:=he.1;have v:=he.2
 ·skip
  have Z:=Z
  simp! only[hP] at Z
  refine aS Z λao af aa=>?_;obtain ⟨g1,g2,g3,g4,g5,g6,g7,g8,g9,B,ah,aj,ae,ag,ai⟩:=aa;obtain rfl:=bM hf af;have U:=(T.hp.so (D:=D)).1.trans hlen.symm;refine xA (QE K.R.lt g1 g3 (by simp! only[B];exact I.Zx) (by simp! only[B];exact I.i_) g9 (Hb _ _ _ _ g4 g5 g7 g8) ?_)
  simp! only[ai us<|hv.len.trans U.symm]
  have K':FX D C X (aL l) z:=⟨K.F,⟨K.R.1,az (QFP _) K.R.2.1,az (Nat.add_le_add_right (Pc (gC 10<|QFP _) _) _) K.R.2.2⟩,K.t⟩;have hX:=Fw I r K';refine bA (PS (z:=zL D oi (aL l) z) (Ob:=tD D oi X (aL l) z) T lim (by simp! only[dY];exact U) v K.R K.t (eS.vals (by simp! only[hX];exact hv:bB (Ex (tD D oi X (aL l) z)<|Wl D oi (aL l) z) z.s.heap us xs)) (λak L=>?_) (λfl l2 d' g g' u env z' b=>?_) λl2 g=>by cases g.1)
  ·simp! only[B,ah,ae,ag] at L
   erw[B]
   simp! only[Wx]
   exact Vf hP hf I r K' aj L
  ·have hd:=g.1
   have ab:=g.2.1;have N:=g.2.2;obtain rfl:=hd.fn g';have pe:=b.s.p.nw rfl;have Y:=b.s.st.keep
   have A: ∀c,Wl D oi (aL l) z c->z'.W c:=λc q=>by
    induction q with
    | @own j ys q1 q2 m=>
     clear he v hX g Y q2;subst q1;cases N with
     |some z1 i=>exact b.F.gH T.ow j _ c i (pe▸Hc (I.big<|I.CV _ rfl).1 m) (I.big<|I.CV _ rfl).1
    |pf p=>exact b.F.pf c p
   have mo:Mon (Ex (tD D oi X (aL l) z) z'.W) z'.s.heap (Ex X.Ob z.W) z'.s.heap:=λc o e n=>⟨e,λq=>n (by
    by_cases w:Wl D oi (aL l) z c
    ·exact .inr<|A c w
    ·exact .inl ⟨q,w⟩)⟩
   have M:=D.P.iU b.F.inv mo λO O=>rfl
   have dc:FR D.P D.G C X.env X.Ob z.φ z.W (aL l') z'.s.heap/\dg z.W z.s.heap z.W z'.s.heap:=by
    clear he k v K' hX g A;induction N with
    |none=>
     have h: ∀a o,z.s.heap.get? a=aA o-> ¬ D.P.PF a->z'.s.heap.get? a=aA o:=λa o e n=>Y a o e λq=>by
      induction q with
      |own q1=>exact ay q1
      |pf q=>exact n q
     exact ⟨K.F.keepsP h M,K.F.CZ h⟩
    | @some j _ _ z1 i=>
     have Hq:=(I.big<|I.CV j rfl);have jl:=Hq.1;have jw:=Hq.2;refine dU (b.F.own j _ i) λc vs' n' e1 e2 e3=>?_
     simp! only[pe] at e1
     have H:=(yW e1).2
     simp! only[fS]
     refine K.F.Gd jw z1 H (K.F.gH r.ow j _ c z1 H jl) (λc' o e nb np=>Y c' o e λq=>?_) M e2<|e3.mon mo;induction q with
     |own q1 _ m=>cases q1;obtain rfl:=bM H m;exact nb rfl
     |pf q=>exact np q
   exact k u {z with s:=z'.s} ⟨dc.1,K.R,az K.t b.s.t⟩ ⟨dc.2,b.s.t,rfl,b.s.e⟩ (Rd.atom (b.rd (λO=>False) λO=>mG) ab)
end
inductive Hn|d (x:Dat)|b (z:Bool)|ds (xs:List Dat)|i (n:Int)|s (x:Str)|f (f:Fl) (l:Ls)|c (x:Dat) (l:Ls)|h (x:Dat) (hs:List Dat)
noncomputable abbrev Hs:=List Hn
noncomputable abbrev Wt (α:Type):=bj->Ls->(α->Ls->Prop)->Prop
noncomputable abbrev Xt (α:Type):=bj->Hs->Ls->(α->Ls->Hs->Prop)->Prop
structure bC {α:Type} (w:Wt α) (x:Xt α):Prop where r: ∀{o hs l} {K:α->Ls->Prop} {k:α->Ls->Hs->Prop} {P:Prop},(w o l K->P)->(∀v l hs,(K v l->P)->k v l hs)->x o hs l k
noncomputable def eJ (b:Bool) (p:Prop):Prop:=match b with|true=>p|false=>True
theorem eO {p:Prop} (h:b=aB->p):eJ b p:=by induction b;exact trivial;exact h rfl
noncomputable def bc {α:Type} (x:Option α) (f:α->Prop) (g:Prop):Prop:=match x with|some a=>f a|none=>g
section
variable {α β:Type} {P:Prop}
theorem yG {g u:Prop} (h:h8 x f g->P) (r: ∀a,x=aA a->(f a->P)->F a) (i:(g->P)->u):bc x F u:=by
 induction x with
 |none=>exact i h
 |some a=>exact r a rfl h
noncomputable def pD:Hn->Option aK|.d x=>aA x|_=>aF
noncomputable def pB:Hn->Option Bool|.b x=>aA x|_=>aF
noncomputable def pI:Hn->Option Int|.i x=>aA x|_=>aF
noncomputable def ly (p:Hn->Option α) (hs:Hs) (k:α->Hs->Prop):Prop:=match hs with|h::hs=>bc (p h) (λa=>k a hs) True|[]=>True
theorem nZ {k:α->Hs->Prop} (f: ∀a hs,k a hs):ly p hs k:=by
 induction hs with
 |nil=>exact trivial
 |cons h hs=>show bc (p h) _ _;cases p h;exact trivial;exact f _ _
noncomputable def kq (p:Hn->Option α) (R:α->Prop) (hs:Hs) (k:α->Hs->Prop):Prop:=ly p hs λa hs=>R a->k a hs
theorem lL {R K:α->Prop} {k:α->Hs->Prop} (h:dE R K->P) (f: ∀a hs,(K a->P)->k a hs):kq p R hs k:=nZ λa hs r=>f a hs λq=>h<|.mk r q
noncomputable def uD (z:Bool) (hs:Hs) (p q:Hs->Prop):Prop:=ly pB hs λb hs=>match b with|true=>z=aB->p hs|false=>z=aE->q hs
theorem vN {p q:Prop} (h:two z p q->P) (f: ∀hs,(p->P)->C hs) (g: ∀hs,(q->P)->Q hs):uD z hs C Q:=nZ λb hs=>by
 induction b
 ·exact λe=>g hs λx=>h<|.inr ⟨e,x⟩
 ·exact λe=>f hs λx=>h<|.inl ⟨e,x⟩
noncomputable def FT (op:kg) (b:Bool) (hs:Hs) (p q:Hs->Prop):Prop:=ly pB hs λz hs=>match z with|true=>b=rQ op->p hs|false=>b=(!rQ op)->q hs
theorem MU {p q:Prop} (h:FC op z p q->P) (f: ∀hs,(p->P)->C hs) (g: ∀hs,(q->P)->Q hs):FT op z hs C Q:=nZ λb hs=>by
 induction b
 ·exact λe=>g hs λx=>h<|.inr ⟨e,x⟩
 ·exact λe=>f hs λx=>h<|.inl ⟨e,x⟩
noncomputable def Nq (op:iG) (a b:Int) (k:Int->Prop):Prop:=match op with
 |.Add=>k<|a+b
 |.Sub=>k<|a - b
 |.Mult=>ib a+ib b<=134217728->k (a*b)
 |.FloorDiv=>decide (b=0)=aE->sC a b=aE->k (a.fdiv b)
 |.Mod=>decide (b=0)=aE->k (a.fmod b)
 |.Pow=>decide (0<=b)=aB->(ib a:Int)*b<=134217728->k (a^b.toNat)
 |.LShift=>0<=b->(ib a:Int)+b<=134217728->k (a*2^b.toNat)
 |.RShift=>0<=b->k (a.fdiv<|2^b.toNat)
 |.BitAnd=>k<|jM a b
 |.BitOr=>k<|uS a b
 |.BitXor=>k<|Cp a b
 |_=>True
theorem RG {K k:Int->Prop} (h:HS op a b K->P) (f: ∀c,(K c->P)->k c):Nq op a b k:=by
 induction op with
 |Add=>exact f _ h
 |Sub=>exact f _ h
 |Mult=>exact λc=>f _ λq=>h ⟨c,q⟩
 |FloorDiv=>exact λc d=>f _ λq=>h ⟨of_decide_eq_false c,d,q⟩
 |Mod=>exact λc=>f _ λq=>h ⟨of_decide_eq_false c,q⟩
 |Pow=>exact λc d=>f _ λq=>h ⟨eC c,d,q⟩
 |LShift=>exact λc d=>f _ λq=>h ⟨c,d,q⟩
 |RShift=>exact λc=>f _ λq=>h ⟨c,q⟩
 |BitAnd=>exact f _ h
 |BitOr=>exact f _ h
 |BitXor=>exact f _ h
 |_=>exact trivial
noncomputable def Jp (l:Ls) (op:iG) (u w:V) (hs:Hs) (k:aK->Hs->Prop):Prop:=bc (hG u) (λa=>bc (hG w) (λb=>Nq op a b λc=>k (.int c) hs)<|kq pD (ft (aL l) op u w) hs k)<|kq pD (ft (aL l) op u w) hs k
theorem Uv {u w:V} {K} {k:aK->Hs->Prop} (h:Gv l op u w K->P) (f: ∀a hs,(K a->P)->k a hs):Jp l op u w hs k:=yG h (λO O h=>yG h (λO O h=>RG h λc h=>f _ _ h) (lL · f)) (lL · f)
noncomputable def MN (op:fV) (a b:Int) (k:Bool->Prop):Prop:=match op with
 |.Eq=>k<|a==b
 |.NotEq=>k<|a !=b
 |.Lt=>k<|decide (a<b)
 |.LtE=>k<|decide (a<=b)
 |.Gt=>k<|decide (a>b)
 |.GtE=>k<|decide (a>=b)
 |_=>True
theorem QBE {K k:Bool->Prop} (h:Dy op a b K->P) (f: ∀c,(K c->P)->k c):MN op a b k:=by
 induction op<;>first|exact f _ h|exact trivial
noncomputable def Ac (l:Ls) (op:fV) (u w:V) (hs:Hs) (k:Bool->Hs->Prop):Prop:=bc (hG u) (λa=>bc (hG w) (λb=>MN op a b λc=>k c hs)<|kq pB (gV (aL l) op u w) hs k)<|kq pB (gV (aL l) op u w) hs k
theorem Ap {u w:V} {K} {k:Bool->Hs->Prop} (h:vO l op u w K->P) (f: ∀a hs,(K a->P)->k a hs):Ac l op u w hs k:=yG h (λO O h=>yG h (λO O h=>QBE h λc h=>f _ _ h) (lL · f)) (lL · f)
theorem cG {K k:α->Prop} (h:h8 x K False->P) (f: ∀a,(K a->P)->k a):bc x k True:=yG h (λa O=>f a) λO=>trivial
noncomputable def et:Ls->Nat->Sl->(Ls->Prop)->Prop
 |[],i,v,k=>k [(i,v)]
 |(j,s)::l,i,v,k=>match bt j i with
  |true=>k<|(j,v)::l
  |false=>et l i v λl=>k<|(j,s)::l
theorem QBV: ∀l i v k,et l i v k=k (cL l i v):=by
 intro O;induction O with
 |nil=>exact λO O O=>rfl
 |cons O l d=>
  obtain ⟨j,s⟩:=O
  exact λi v k=>by
   dsimp only[et,cL];cases bt j i
   ·exact d i v _
   ·rfl
theorem gO {k:Ls->Prop} (h:k (cL l i v)):et l i v k:=by simp only[QBV];exact h
noncomputable def EZ:List Nat->List aK->Ls->(Ls->Prop)->Prop
 |i::is,x::xs,l,k=>et l i (.val x) λl=>EZ is xs l k
 |_,_,l,k=>k l
theorem Dx: ∀{o:List Nat} {xs:List aK} {l:Ls} {k:Ls->Prop},k ((o.zip xs).foldl (λl p=>cL l p.1<|.val p.2) l)->EZ o xs l k
 |[],_,_,_,h=>h
 |_::_,[],_,_,h=>h
 |i::o,x::xs,_,_,h=>gO<|Dx h
noncomputable def kA:Ls->(Ls->Prop)->Prop
 |[],k=>k []
 |(j,s)::l,k=>kA l λl=>k<|(j,s)::l
theorem z_: ∀l k,kA l k=k l:=by
 intro O;induction O with
 |nil=>exact λO=>rfl
 |cons O l i=>obtain ⟨j,s⟩:=O;exact λk=>i _
theorem lq {k:Ls->Prop} (h:k l):kA l k:=by simp only[z_];exact h
noncomputable def CG (t:cS) (x:aK) (l:Ls) (k:Ls->Prop):Prop:=match t with
 |.one i=>et l i (.val x) k
 |.tup o=>match x with
  |.tuple R|.list R=>eJ (bt R.length o.length)<|EZ o R l k
  |_=>True
theorem Dm {K k:Ls->Prop} (h:xt t x l K->P) (f: ∀l,(K l->P)->k l):CG t x l k:=by
 induction t with
 |one i=>exact gO<|f _ h
 |tup o=>cases x with
  |tuple R=>exact eO λe=>Dx<|f _ λq=>h ⟨uR e,q⟩
  |list R=>exact eO λe=>Dx<|f _ λq=>h ⟨uR e,q⟩
  |_=>exact trivial
inductive fb {α:Type}:List (Wt α)->List (Xt α)->Prop|nil:fb [] []|cons {w ws x xs}:bC w x->fb ws xs->fb (w::ws) (x::xs)
noncomputable def lX:List (Xt V)->Xt (List V)
 |[],_,s,l,k=>k [] l s
 |e::es,o,s,l,k=>e o s l λv l s=>lX es o s l λm l s=>k (v::m) l s
theorem Ge (h:fb es xs):bC (lW es) (lX xs):=by
 induction h with
 |nil=>exact ⟨λh f=>f _ _ _ h⟩
 |cons a _ i=>exact ⟨λh f=>a.r h λv l s h=>i.r h λm l s h=>f _ _ _ h⟩
noncomputable def Gz:List V->(List aK->Prop)->Prop
 |[],k=>k []
 |v::vs,k=>bc (jz v) (λd=>Gz vs λA=>k<|d::A) True
theorem W5: ∀{vs:List V} {K k:List aK->Prop},(xd vs K->P)->(∀a,(K a->P)->k a)->Gz vs k:=by
 intro vs;induction vs with
 |nil=>exact λh f=>f _ h
 |cons v vs i=>exact λh f=>cG h λa h=>i h λO h=>f _ h
noncomputable def dX (es:List (Xt V)):Xt (List aK):=λo s l k=>lX es o s l λv l s=>Gz v λd=>k d l s
theorem nI (h:fb es xs):bC (dW es) (dX xs):=⟨λq f=>(Ge h).r q λO O O q=>W5 q λO q=>f _ _ _ q⟩
noncomputable def aX:List (Xt Bool)->Xt Bool
 |[],_,s,l,k=>k aB l s
 |t::ts,o,s,l,k=>t o s l λz l s=>uD z s (λs=>aX ts o s l k) λs=>k aE l s
theorem U8 (h:fb ts xs):bC (aW ts) (aX xs):=by
 induction h with
 |nil=>exact ⟨λh f=>f _ _ _ h⟩
 |cons a _ i=>exact ⟨λh f=>a.r h λv l hs h=>vN h (λhs h=>i.r h f) λhs h=>f _ _ _ h⟩
noncomputable def bX (op:kg):List (Xt Bool)->Xt Bool
 |[],_,s,l,k=>k (!rQ op) l s
 |t::ts,o,s,l,k=>t o s l λb l s=>FT op b s (λs=>k (rQ op) l s) λs=>bX op ts o s l k
theorem Uq (h:fb ts xs):bC (Bw op ts) (bX op xs):=by
 induction h with
 |nil=>exact ⟨λh f=>f _ _ _ h⟩
 |cons a _ i=>exact ⟨λh f=>a.r h λv l hs h=>MU h (λhs h=>f _ _ _ h) λhs h=>i.r h f⟩
noncomputable def R5 (f:Fl) (p:Prop) (k:Fl->Prop):Prop:=match f with|.next=>p|f=>k f
noncomputable def sX:List (Xt Fl)->Xt Fl
 |[],_,A,l,k=>k .next l A
 |s::ss,o,A,l,k=>s o A l λf l A=>R5 f (sX ss o A l k) λf=>k f l A
theorem oA (h:fb ss xs):bC (sW ss) (sX xs):=by
 induction h with
 |nil=>exact ⟨λh f=>f _ _ _ h⟩
 |cons a _ i=>exact ⟨λh f=>a.r h λv l s h=>by induction v with
  |next=>exact i.r h f
  |_=>exact f _ _ _ h⟩
end
noncomputable abbrev XE:=Xt V
noncomputable abbrev XT:=Xt Bool
noncomputable abbrev XS:=Xt Fl
noncomputable abbrev XI:=bj->Bool->Hs->Ls->(List aK->Ls->Hs->Prop)->Prop
structure qX (w:I) (x:XI):Prop where r: ∀{o f hs l} {K:List aK->Ls->Prop} {k:List aK->Ls->Hs->Prop} {P:Prop},(w o f l K->P)->(∀v l hs,(K v l->P)->k v l hs)->x o f hs l k
section
variable {P:Prop}
noncomputable def X.ret (v:V):XE:=λO s l k=>k v l s
theorem yN:bC (λO l K=>K v l) (X.ret v):=⟨λq f=>f _ _ _ q⟩
noncomputable def X.aC (i:Nat):XE:=λO s l k=>bc (kX (aL l) i) (λv=>k v l s) True
theorem U5 {i}:bC (E.aC i) (X.aC i):=⟨λq f=>cG q λO=>f _ _ _⟩
noncomputable def X.qa (i:Nat):XE:=λO s l k=>bc (gj<|aL l i) (λx=>et l i .unb λl=>k (.d<|.list x) l s) True
theorem QDG {i}:bC (E.qa i) (X.qa i):=⟨λq f=>cG q λO q=>gO<|f _ _ _ q⟩
noncomputable def X.aH (op:iG) (A B:XE):XE:=λo s l k=>A o s l λu l s=>B o s l λw l s=>Jp l op u w s λd s=>k (.d d) l s
theorem I7 {op} (s:bC a A) (hb:bC b B):bC (E.aH op a b) (X.aH op A B):=⟨λq f=>s.r q λO O O q=>hb.r q λO O O q=>Uv q λO O=>f _ _ _⟩
noncomputable def X.neg (A:XE):XE:=λo s l k=>A o s l λu l s=>bc (hG u) (λi=>k (.d<|.int (-i)) l s) True
theorem Rb (s:bC a A):bC (E.neg a) (X.neg A):=⟨λq f=>s.r q λO O O q=>cG q λO=>f _ _ _⟩
noncomputable def X.inv (A:XE):XE:=λo s l k=>A o s l λu l s=>bc (hG u) (λi=>k (.d<|.int<|QET i) l s) True
theorem QDa (s:bC a A):bC (E.inv a) (X.inv A):=⟨λq f=>s.r q λO O O q=>cG q λO=>f _ _ _⟩
noncomputable def X.CO (op:fV) (A B:XE):XT:=λo s l k=>A o s l λu l s=>B o s l λw l s=>Ac l op u w s λc s=>k c l s
theorem QBu {op} (s:bC a A) (hb:bC b B):bC (T.cmp op a b) (X.CO op A B):=⟨λq f=>s.r q λO O O q=>hb.r q λO O O q=>Ap q λO O=>f _ _ _⟩
noncomputable def X.ofT (Y:XT):XE:=λo s l k=>Y o s l λb l s=>k (.d<|.bool b) l s
theorem ZQ {op} (s:bC a A) (hb:bC b B):bC (E.cmp op a b) (X.ofT<|X.CO op A B):=⟨λq f=>s.r q λO O O q=>hb.r q λO O O q=>Ap q λO O=>f _ _ _⟩
noncomputable def X.ite (Y:XT) (A B:XE):XE:=λo s l k=>Y o s l λz l s=>uD z s (λs=>A o s l k) λs=>B o s l k
theorem Xf (Z:bC t Y) (s:bC a A) (hb:bC b B):bC (E.ite t a b) (X.ite Y A B):=⟨λq f=>Z.r q λO O O q=>vN q (λO q=>s.r q f) λO q=>hb.r q f⟩
noncomputable def X.list (e:List XE):XE:=λo s l k=>dX e o s l λx l s=>eJ (eX x.length 16777216)<|k (.d<|.list x) l s
theorem DX (h:fb es Es):bC (E.list es) (X.list Es):=⟨λq f=>(nI h).r q λO O O q=>eO λe=>f _ _ _ λr=>q ⟨e,r⟩⟩
noncomputable def X.tup (e:List XE):XE:=λo s l k=>dX e o s l λx l s=>eJ (eX x.length 16777216)<|k (.d<|.tuple x) l s
theorem XG (h:fb es Es):bC (E.tup es) (X.tup Es):=⟨λq f=>(nI h).r q λO O O q=>eO λe=>f _ _ _ λr=>q ⟨e,r⟩⟩
noncomputable def Ys:Hn->Option (List aK)|.ds x=>aA x|_=>aF
noncomputable def X.comp (e:E) (t:cS) (J:XI) (ts:List T):XE:=λo s l k=>J o aE s l λx l s=>ly Ys s λY s=>x.length<=16777216->(∀K:List aK->Prop,K Y->cW e t ts o (oE t<|oD l) x K)->k (.d<|.list Y) l s
theorem OW {tg} (i:qX it J):bC (E.comp e tg it ts) (X.comp e tg J ts):=⟨λq f=>i.r q λO O O q=>nZ λO O h H=>f _ _ _ λr=>q ⟨h,H _ r⟩⟩
noncomputable def X.au (A B:XE):XE:=λo s l k=>A o s l λu l s=>B o s l λw l s=>bc (hG w) (λi=>kq pD (cC (aL l) u i) s λd s=>k (.d d) l s) True
theorem QDE (s:bC a A) (hb:bC b B):bC (E.au a b) (X.au A B):=⟨λq f=>s.r q λO O O q=>hb.r q λO O O q=>cG q λO q=>lL q λO O=>f _ _ _⟩
noncomputable def X.dJ (A B C D:XE):XE:=λo s l k=>A o s l λu l s=>B o s l λx l s=>C o s l λy l s=>D o s l λz l s=>kq pD (gR (aL l) u x y z) s λd s=>k (.d d) l s
theorem Zm {D:XE} (s:bC a A) (hb:bC b B) (W:bC c C) (hd:bC d D):bC (E.dJ a b c d) (X.dJ A B C D):=⟨λq f=>s.r q λO O O q=>hb.r q λO O O q=>W.r q λO O O q=>hd.r q λO O O q=>lL q λO O=>f _ _ _⟩
noncomputable def X.call (g:Nat) (e:List XE):XE:=λo s l k=>dX e o s l λx l s=>kq pD (o.F g x) s λz s=>k (.d z) l s
theorem R7 {g} (h:fb es Es):bC (E.call g es) (X.call g Es):=⟨λq f=>(nI h).r q λO O O q=>lL q λO O=>f _ _ _⟩
noncomputable def pC:Hn->Option (aK×Ls)|.c x l=>aA (x,l)|_=>aF
noncomputable def LQ (s:Sl):Option Nat:=match s with|.clo f=>aA f|_=>aF
theorem QBC (h:(match LQ s with|some f=>bt f g|none=>aE)=aB):s=.clo g:=by
 induction s with
 |clo f=>exact QHd _<|uR h
 |_=>exact br h
noncomputable def X.i9 (g i:Nat) (e:List XE):XE:=λo s l k=>eJ (match LQ (aL l i) with|some f=>bt f g|none=>aE) (dX e o s l λR l s=>ly pC s λr s=>match r with|(x,l')=>o.L g R l x l'->kA l' λl=>k (.d x) l s)
theorem XQ {g i} (h:fb es Es):bC (E.i9 g i es) (X.i9 g i Es):=⟨λq f=>eO λc=>(nI h).r (λr=>q ⟨QBC c,r⟩) λO O O q=>nZ λO O r=>lq<|f _ _ _ λs=>q<|.mk r s⟩
noncomputable def X.bi (b:Bi) (e:List XE):XE:=λo s l k=>lX e o s l λv l s=>kq pD (cn (aL l) b v) s λd s=>k (.d d) l s
theorem xBi {b} (h:fb es Es):bC (E.bi b es) (X.bi b Es):=⟨λq f=>(Ge h).r q λO O O q=>lL q λO O=>f _ _ _⟩
theorem I6 {α:Type} {x:Option α} (h:x.isSome=aB): ∃a,x=aA a:=by cases x;exact br h;exact ⟨_,rfl⟩
noncomputable def La (m:Sm) (v:V):Bool:=match m with|.bits=>(hG v).isSome|_=>(yY v).isSome
theorem QBS {m v} (h:La m v=aB):GB m v:=by
 induction m with
 |bits=>exact (I6 h).imp λO=>v9
 |_=>exact (I6 h).imp λO=>I9
noncomputable def X.sm (m:Sm) (A:XE) (e:List XE):XE:=λo s l k=>A o s l λu l s=>eJ (La m u)<|lX e o s l λv l s=>kq pD (jI (aL l) m u v) s λd s=>k (.d d) l s
theorem xSm {m} (s:bC a A) (h:fb es Es):bC (E.sm m a es) (X.sm m A Es):=⟨λq f=>s.r q λO O O q=>eO λc=>(Ge h).r (λr=>q ⟨QBS c,r⟩) λO O O q=>lL q λO O=>f _ _ _⟩
noncomputable def X.qU (A:XE) (y z:aG):XE:=λo s l k=>A o s l λu l s=>bc (yY u) (λx=>eJ (bt y.length 1 && bt z.length 0)<|x.length<=4096->k (.d<|.str<|Cr x y z) l s) True
theorem Ry {y z} (s:bC a A):bC (E.qU a y z) (X.qU A y z):=⟨λq f=>s.r q λO O O q=>cG q λO q=>eO λc h=>f _ _ _ λr=>q<|lK h (uR (f7.mp c).1) (uR (f7.mp c).2) r⟩
noncomputable def X.iM (n:Bool) (A:XE):XT:=λo s l k=>A o s l λu l s=>bc (jz u) (λd=>ly pB s λb s=>match b with|true=>d=.none->k (aB !=n) l s|false=>d≠ .none->k (aE !=n) l s) True
theorem L7 {d:aK} {k:Bool->Hs->Prop} {p q:Prop} (h:d=.none/\p\/d≠ .none/\q->P) (f: ∀hs,(p->P)->k aB hs) (g: ∀hs,(q->P)->k aE hs):ly pB hs λb hs=>match b with|true=>d=.none->k aB hs|false=>d≠ .none->k aE hs:=nZ λb hs=>by
 cases b
 ·exact λe=>g _ λr=>h<|.inr ⟨e,r⟩
 ·exact λe=>f _ λr=>h<|.inl ⟨e,r⟩
theorem QCb {n} (s:bC a A):bC (T.iM n a) (X.iM n A):=⟨λ{o hs l K k P} q f=>s.r q λO l O q=>cG q λd q=>L7 (k:=λb hs=>k (b !=n) l hs) q (λO=>f _ _ _) λO=>f _ _ _⟩
theorem Yd {n} (s:bC a A):bC (E.iM n a) (X.ofT<|X.iM n A):=⟨λ{o hs l K k P} q f=>s.r q λO l O q=>cG q λd q=>L7 (k:=λb hs=>k (.d<|.bool<|b !=n) l hs) q (λO=>f _ _ _) λO=>f _ _ _⟩
noncomputable def X.pT (A:XE):XE:=λo s l k=>A o s l λu l s=>bc (hG u) (λi=>k (.d<|.bool<|o.b1 i) l s) True
theorem QCk (s:bC a A):bC (E.pT a) (X.pT A):=⟨λq f=>s.r q λO O O q=>cG q λO=>f _ _ _⟩
noncomputable def X.qF (A:XE):XE:=λo s l k=>A o s l λu l s=>bc (hG u) (λi=>k (.d<|o.b3 i) l s) True
theorem Ug (s:bC a A):bC (E.qF a) (X.qF A):=⟨λq f=>s.r q λO O O q=>cG q λO=>f _ _ _⟩
noncomputable def X.qY (x:aG):XE:=λo s l k=>kq pI (o.gi x) s λi s=>k (.d<|.int i) l s
theorem YJ {x}:bC (E.qY x) (X.qY x):=⟨λq f=>lL q λO O=>f _ _ _⟩
noncomputable def Dq (v:V):Bool:=match v with|.inst=>aB|_=>aE
theorem KL {p:Prop} (h:Dq v=aB) (r:p):CH v p:=by cases v<;>first|exact r|(exact br h)
noncomputable def pH:Hn->Option (aK×List aK)|.h x l=>aA (x,l)|_=>aF
noncomputable def rq (s:Sl):Bool:=match s with|.emp=>aB|_=>aE
theorem xq (h:rq s=aB):s=.emp:=by cases s<;>first|rfl|(exact br h)
noncomputable def uK (s:Sl):Bool:=match s with|.inst=>aB|_=>aE
theorem vX (h:uK s=aB):s=.inst:=by cases s<;>first|rfl|(exact br h)
noncomputable def X.j4 (m:Nat) (A:XE) (e:List XE):XE:=λo s l k=>A o s l λu l s=>eJ (Dq u)<|dX e o s l λR l s=>bc (gj<|aL l aT) (λH=>eJ (rq<|aL l bR) (ly pH s λr s=>match r with|(x,H')=>o.H m R H x H'->et l aT (.own H') λl=>k (.d x) l s)) True
theorem Jg {m} (Q:bC a A) (h:fb es Es):bC (E.j4 m a es) (X.j4 m A Es):=⟨λq f=>Q.r q λO O O q=>eO λc=>(nI h).r (λr=>q<|KL c r) λO O O q=>cG q λO q=>eO λc=>nZ λO O r=>gO<|f _ _ _ λs=>q ⟨xq c,.mk r s⟩⟩
noncomputable def X.jZ (m:Nat) (A:XE) (e:List XE):XE:=λo s l k=>A o s l λu l s=>eJ (Dq u)<|dX e o s l λx l s=>bc (gj<|aL l aT) (λH=>kq pD (o.R m x H) s λz s=>k (.d z) l s) True
theorem L2 {m} (s:bC a A) (h:fb es Es):bC (E.jZ m a es) (X.jZ m A Es):=⟨λq f=>s.r q λO O O q=>eO λc=>(nI h).r (λr=>q<|KL c r) λO O O q=>cG q λO q=>lL q λO O=>f _ _ _⟩
noncomputable def X.conv (b:Bool) (A:XE):XE:=λo s l k=>eJ (uK<|aL l 0)<|A o s l λu l s=>bc (yY u) (λx=>gL b x=aB->k (.d<|.str x) l s) True
theorem Vy {b} (s:bC a A):bC (E.conv b a) (X.conv b A):=⟨λq f=>eO λc=>s.r (λr=>q ⟨vX c,r⟩) λO O O q=>cG q λO q e=>f _ _ _ λr=>q ⟨e,r⟩⟩
noncomputable def X.fE:XE:=λO s l k=>eJ (uK<|aL l 0)<|k (.bor aT) l s
theorem VI:bC E.fE X.fE:=⟨λq f=>eO λc=>f _ _ _ λr=>q ⟨vX c,r⟩⟩
noncomputable def X.not (Y:XT):XT:=λo s l k=>Y o s l λb l s=>k (!b) l s
theorem Un (a:bC t Y):bC (T.not t) (X.not Y):=⟨λq f=>a.r q λO O O=>f _ _ _⟩
noncomputable def EJ (l:Ls) (v:V) (hs:Hs) (k:Bool->Hs->Prop):Prop:=match v with
 |.d (.bool b)=>k b hs
 |.d (.int i)=>k (i !=0) hs
 |v=>kq pB (nC (aL l) v) hs k
theorem LU {K:Bool->Prop} {k:Bool->Hs->Prop} (h:dE (nC (aL l) v) K->P) (f: ∀a hs,(K a->P)->k a hs):EJ l v hs k:=by
 induction v with
 |d x=>cases x with
  |bool b=>exact f _ _ λq=>h<|.mk .bool q
  |int i=>exact f _ _ λq=>h<|.mk .int q
  |_=>exact lL h f
 |_=>exact lL h f
noncomputable def X.MB (i:Nat):XT:=λO s l k=>bc (kX (aL l) i) (λv=>EJ l v s λb s=>k b l s) True
theorem QCV {i}:bC (T.aC i) (X.MB i):=⟨λq f=>cG q λO q=>LU q λO O=>f _ _ _⟩
noncomputable def JP:aK->Option Bool|.bool b=>aA b|_=>aF
theorem S6 {b} (h:JP d=aA b):d=.bool b:=by cases d<;>cases h;rfl
noncomputable def X.eP (n b:Bool) (A:XE):XT:=λo s l k=>A o s l λu l s=>bc (jz u) (λd=>bc (JP d) (λc=>k ((c==b) !=n) l s) True) True
theorem vP {α:Type} {x:Option α} {k:α->Prop} (f: ∀a,x=aA a->k a):bc x k True:=by cases x;exact trivial;exact f _ rfl
theorem WZ {n b} (s:bC a A):bC (T.eP n b a) (X.eP n b A):=⟨λq f=>s.r q λO O O q=>cG q λO q=>vP λO e=>f _ _ _ λr=>q<|ax _ (S6 e) r⟩
noncomputable def X.LZ (A:XE):XT:=λo s l k=>A o s l λu l s=>bc (hG u) (λO=>k aE l s) True
theorem UJ (s:bC a A):bC (T.yq a) (X.LZ A):=⟨λq f=>s.r q λO O O q=>cG q λO=>f _ _ _⟩
end
section
variable {P:Prop}
noncomputable def CP (n:Int):Bool:=decide (n<2^24) && decide (-(2^24)<n)
theorem vk (h:CP n=aB):n<2^24/\ -(2^24)<n:=⟨eC (f7.mp h).1,eC (f7.mp h).2⟩
noncomputable def lZ {α:Type} (o:Option α) (k:α->Prop):Prop:=o.rec True k
theorem my {α:Type} {o:Option α} {k:α->Prop} (f: ∀a,o=aA a->k a):lZ o k:=by
 revert f;induction o with
 |none=>exact λO=>trivial
 |some a=>exact λf=>f a rfl
noncomputable def Aq {α:Type} (l:List α):Option α:=l.rec aF λa t O=>t.rec (aA a) λO O O=>aF
theorem Fh {α:Type} {l:List α} {a:α} (h:Aq l=aA a):l=[a]:=by
 revert h;induction l with
 |nil=>exact λh=>ay h
 |cons b t _=>induction t with
  |nil=>exact λh=>QHd (· ::[])<|kC h
  |cons _ _ _=>exact λh=>ay h
noncomputable def B9 {α:Type} (l:List α):Option (α×α):=l.rec aF λa t O=>(Aq t).map λb=>(a,b)
theorem HK {α:Type} {l:List α} {a:α×α} (h:B9 l=aA a):l=[a.1,a.2]:=by
 revert h;induction l with
 |nil=>exact λh=>ay h
 |cons b t _=>exact λh=>(lN.mp h).elim λc q=>q.2▸QHd (b:: ·) (Fh q.1)
noncomputable def tI (d:aK):Option Int:=d.casesOn (motive_1:=λO=>Option Int) aF (λO=>aF) (λn=>aA n) (λO=>aF) (λO=>aF) (λO=>aF) λO=>aF
theorem vV:tI d=aA n->d=.int n:=d.casesOn (λh=>ay h) (λO h=>ay h) (λO h=>QHd cB<|kC h) (λO h=>ay h) (λO h=>ay h) (λO h=>ay h) λO h=>ay h
noncomputable def Kq (d:aK):Option (List aK):=d.casesOn (motive_1:=λO=>Option<|List aK) aF (λO=>aF) (λO=>aF) (λO=>aF) (λO=>aF) (λO=>aF) λn=>aA n
theorem QDA:Kq d=aA n->d=.list n:=d.casesOn (λh=>ay h) (λO h=>ay h) (λO h=>ay h) (λO h=>ay h) (λO h=>ay h) (λO h=>ay h) λO h=>QHd DH<|kC h
noncomputable def in1 (xs:List aK) (k:Int->Prop):Prop:=lZ (Aq xs) λd=>lZ (tI d) k
theorem Y8 {k:Int->Prop} (f: ∀n,xs=[.int n]->k n):in1 xs k:=my λO e=>my λn C=>f n<|vV C▸Fh e
noncomputable def NX (xs:List aK) (k:Int->Int->Prop):Prop:=lZ (B9 xs) λp=>lZ (tI p.1) λm=>lZ (tI p.2) λn=>k m n
theorem QDW {k:Int->Int->Prop} (f: ∀m n,xs=[.int m,.int n]->k m n):NX xs k:=my λO e=>my λm C=>my λn p=>f m n<|vV C▸vV p▸HK e
noncomputable def X.jA (A:XE):XI:=λo O s l k=>dX [A] o s l λd l s=>in1 d λn=>CP n=aB->k ((bg n.toNat).map λ(i:Nat)=>cB (i:Int)) l s
theorem QDC (s:bC a A):qX (I.jA a) (X.jA A):=⟨λq f=>(nI<|.cons s .nil).r q λO O O q=>Y8 λn e c=>f _ _ _ λr=>q<|kU n e ((vk c).1) ((vk c).2) r⟩
noncomputable def X.rK (A B:XE):XI:=λo O s l k=>dX [A,B] o s l λd l s=>NX d λm n=>CP n=aB->CP m=aB->k ((bg (n - m).toNat).map λ(i:Nat)=>cB<|m+(i:Int)) l s
theorem S_ (s:bC a A) (hb:bC b B):qX (I.rK a b) (X.rK A B):=⟨λq f=>(nI<|.cons s<|.cons hb .nil).r q λO O O q=>QDW λm n e c d=>f _ _ _ λr=>q<|tU m n e ((vk c).1) ((vk c).2) ((vk d).1) ((vk d).2) r⟩
noncomputable def inl (xs:List aK) (k:List aK->Prop):Prop:=lZ (Aq xs) λd=>lZ (Kq d) k
theorem I_ {k:List aK->Prop} (f: ∀n,xs=[.list n]->k n):inl xs k:=my λO e=>my λn C=>f n<|QDA C▸Fh e
noncomputable def X.rev (A:XE):XI:=λo O s l k=>dX [A] o s l λd l s=>inl d λx=>k x.reverse l s
theorem WU (s:bC a A):qX (I.rev a) (X.rev A):=⟨λq f=>(nI<|.cons s .nil).r q λO O O q=>I_ λn e=>f _ _ _ λr=>q<|ax n e r⟩
noncomputable def Ha:aK->Option (List aK)|.list xs=>aA xs|.tuple xs=>aA xs|.str x=>aA (mq x)|_=>aF
theorem Mc {xs} (h:Ha d=aA xs):wA r (.d d) xs:=by
 cases d with
 |list x=>cases h;exact .q<|.l .d
 |tuple x=>cases h;exact .q .t
 |str x=>cases h;exact .s
 |_=>exact ay h
noncomputable def X.GY (i:Nat):XI:=λO f s l k=>match aL l i with
 |.val x=>bc (Ha x) (λR=>k R l s) True
 |.own R=>eJ (!f)<|k R l s
 |_=>True
theorem Ww {i}:qX (I.aC i) (X.GY i):=⟨λ{o f s l K k P} q g=>by
 unfold I.aC at q;unfold X.GY;induction h:aL l i with
 |val x=>rw[h] at q;exact vP λR e=>g _ _ _ λr=>q<|.mk (Mc e) r
 |own R=>rw[h] at q;exact eO λc=>g _ _ _ λr=>q ⟨(uZ _).mp c,r⟩
 |_=>exact trivial⟩
noncomputable def X.jb (A:XE):XI:=λo O s l k=>A o s l λv l s=>bc (jz v) (λd=>bc (Ha d) (λx=>k x l s) True) True
theorem Y6 (s:bC a A):qX (I.jb a) (X.jb A):=⟨λq f=>s.r q λO O O q=>cG q λO q=>vP λO e=>f _ _ _ λr=>q<|.mk (Mc e) r⟩
noncomputable def X.OA:XI:=λO f s l k=>eJ (uK<|aL l 0)<|eJ (!f|| !rq (aL l bR)) (bc (gj (aL l aT)) (λx=>k x l s) True)
theorem Y_ (d:(!f|| !rq s)=true) (e:f=true) (h:s=.emp):False:=by rw[e,h] at d;exact br d
theorem QDX:qX I.fE X.OA:=⟨λq g=>eO λc=>eO λd=>cG (λr=>q ⟨vX c,Y_ d,r⟩) λO=>g _ _ _⟩
noncomputable def X.asg (t:cS) (A:XE):XS:=λo s l k=>A o s l λv l s=>bc (jz v) (λx=>CG t x l λl=>k .next l s) True
theorem zG {tg} (s:bC a A):bC (S.asg tg a) (X.asg tg A):=⟨λq f=>s.r q λO O O q=>cG q λO q=>Dm q λO=>f _ _ _⟩
noncomputable def Gq:aK->Option (List aK)|.list xs=>aA xs|_=>aF
theorem LA {xs} (h:Gq d=aA xs):d=.list xs:=by cases d<;>cases h;rfl
noncomputable def X.own (i:Nat) (A:XE):XS:=λo s l k=>A o s l λv l s=>bc (jz v) (λx=>bc (Gq x) (λR=>et l i (.own R) λl=>k .next l s) True) True
theorem Wa {i} (s:bC a A):bC (S.own i a) (X.own i A):=⟨λq f=>s.r q λO O O q=>cG q λO q=>vP λO e=>gO<|f _ _ _ λr=>q<|ax _ (LA e) r⟩
noncomputable def O4 (op:iG) (a b:Int) (k:Int->Prop):Prop:=match op with
 |.Add=>k<|a+b
 |.Sub=>k<|a - b
 |.LShift=>0<=b->(ib a:Int)+b<=134217728->k (a*2^b.toNat)
 |.RShift=>0<=b->k (a.fdiv<|2^b.toNat)
 |_=>True
theorem QDD {K k:Int->Prop} (h:G4 op a b K->P) (f: ∀c,(K c->P)->k c):O4 op a b k:=by
 induction op with
 |Add=>exact f _ h
 |Sub=>exact f _ h
 |LShift=>exact λc d=>f _ λq=>h ⟨c,d,q⟩
 |RShift=>exact λc=>f _ λq=>h ⟨c,q⟩
 |_=>exact trivial
noncomputable def X.aug (i:Nat) (op:iG) (A:XE):XS:=λo s l k=>bc (FV<|aL l i) (λa=>A o s l λv l s=>bc (hG v) (λb=>O4 op a b λc=>et l i (.val<|.int c) λl=>k .next l s) True) True
theorem S4 {i op} (s:bC a A):bC (S.aug i op a) (X.aug i op A):=⟨λq f=>cG q λO q=>s.r q λO O O q=>cG q λO q=>QDD q λO q=>gO<|f _ _ _ q⟩
noncomputable def LX:aK->Bool|.none=>aB|.str _=>aB|_=>aE
theorem Va (h:LX d=aB):d=.none\/ ∃y,d=.str y:=by cases d<;>first|exact .inl rfl|exact .inr ⟨_,rfl⟩|(exact br h)
noncomputable def X.expr (A:XE):XS:=λo s l k=>A o s l λv l s=>bc (jz v) (λx=>eJ (LX x)<|k .next l s) True
theorem QBG (s:bC a A):bC (S.expr a) (X.expr A):=⟨λq f=>s.r q λO O O q=>cG q λO q=>eO λc=>f _ _ _ λr=>q ⟨Va c,r⟩⟩
noncomputable def X.app (i:Nat) (A:XE):XS:=λo s l k=>bc (gj<|aL l i) (λO=>A o s l λv l s=>bc (jz v) (λx=>bc (gj<|aL l i) (λR=>R.length<16777216->et l i (.own<|R++[x]) λl=>k .next l s) True) True) True
theorem Us {i} (s:bC a A):bC (S.app i a) (X.app i A):=⟨λq f=>cG q λO q=>s.r q λO O O q=>cG q λO q=>cG q λO q c=>gO<|f _ _ _ λr=>q ⟨c,r⟩⟩
noncomputable def X.qk (A:XE):XS:=λo s l k=>eJ (uK<|aL l 0)<|bc (gj<|aL l aT) (λO=>A o s l λv l s=>bc (jz v) (λx=>bc (gj<|aL l aT) (λR=>eJ (rq<|aL l bR)<|R.length<16777216->et l aT (.own<|R++[x]) λl=>k .next l s) True) True) True
theorem R9 (s:bC a A):bC (S.qk a) (X.qk A):=⟨λq f=>eO λc=>cG (λr=>q ⟨vX c,r⟩) λO q=>s.r q λO O O q=>cG q λO q=>cG q λO q=>eO λc d=>gO<|f _ _ _ λr=>q ⟨xq c,d,r⟩⟩
noncomputable def X.pX (A:XE):XS:=λo s l k=>A o s l λv l s=>bc (jz v) (λx=>bc (Gq x) (λY=>eJ (uK<|aL l 0)<|bc (gj<|aL l aT) (λR=>eJ (rq<|aL l bR)<|R.length+Y.length<=16777216->et l aT (.own Y) λl=>k .next l s) True) True) True
theorem Xo (s:bC a A):bC (S.pX a) (X.pX A):=⟨λq f=>s.r q λO O O q=>cG q λO q=>vP λO e=>eO λc=>cG (λr=>q<|gd _ (LA e) (vX c) r) λO q=>eO λc d=>gO<|f _ _ _ λr=>q ⟨xq c,d,r⟩⟩
noncomputable def X.qi (i:Nat):XS:=λO s l k=>bc (gj<|aL l i) (λx=>x.length<=16777216->et l i (.own x.reverse) λl=>k .next l s) True
theorem RT {i}:bC (S.qi i) (X.qi i):=⟨λq f=>cG q λO q c=>gO<|f _ _ _ λr=>q ⟨c,r⟩⟩
noncomputable def X.set (i:Nat) (B A:XE):XS:=λo s l k=>A o s l λv l s=>bc (jz v) (λx=>bc (gj<|aL l i) (λO=>B o s l λj l s=>bc (hG j) (λj=>bc (gj<|aL l i) (λR=>0<=j->j<R.length->R.length<2^63->et l i (.own<|R.set j.toNat x) λl=>k .next l s) True) True) True) True
theorem QCm {i} (hb:bC b B) (s:bC a A):bC (S.set i b a) (X.set i B A):=⟨λq f=>s.r q λO O O q=>cG q λO q=>cG q λO q=>hb.r q λO O O q=>cG q λO q=>cG q λO q c d e=>gO<|f _ _ _ λr=>q<|lK c d e r⟩
noncomputable def Lb (s:Sl):Bool:=match s with|.unb=>aB|_=>aE
theorem WS (h:Lb s=aB):s=.unb:=by cases s<;>first|rfl|(exact br h)
noncomputable def X.pj (b m:Nat):XS:=λO s l k=>bc (gj<|aL l m) (λx=>eJ (Lb<|aL l aT)<|x.all vS=aB->et l aT (.own x) λl=>et l bR .emp λl=>et l m (.ali aT) λl=>et l b .inst λl=>k .next l s) True
theorem WD {b m}:bC (S.pj b m) (X.pj b m):=⟨λq f=>cG q λO q=>eO λc d=>gO<|gO<|gO<|gO<|f _ _ _ λr=>q ⟨WS c,d,r⟩⟩
noncomputable def X.oh (b:Nat) (A:XE):XS:=λo s l k=>eJ (uK<|aL l b)<|A o s l λv l s=>bc (jz v) (λx=>bc (gj<|aL l aT) (λH=>eJ (rq<|aL l bR) (ly pH s λr s=>match r with|(y,H')=>o.H 9 [x] H y H'->et l aT (.own H') λl=>k .next l s)) True) True
theorem RI {b} (Q:bC a A):bC (S.oh b a) (X.oh b A):=⟨λq f=>eO λc=>Q.r (λr=>q ⟨vX c,r⟩) λO O O q=>cG q λO q=>cG q λO q=>eO λc=>nZ λO O r=>gO<|f _ _ _ λs=>q ⟨xq c,.mk r s⟩⟩
noncomputable def X.cA (Y:XT) (Q W:List XS):XS:=λo s l k=>Y o s l λz l s=>uD z s (λs=>sX Q o s l k) λs=>sX W o s l k
theorem Rk (a:bC t Y) (A:fb ss Ss) (hb:fb sr Sr):bC (S.cA t ss sr) (X.cA Y Ss Sr):=⟨λq f=>a.r q λO O O q=>vN q (λO q=>(oA A).r q f) λO q=>(oA hb).r q f⟩
noncomputable def pF:Hn->Option (Fl×Ls)|.f x l=>aA (x,l)|_=>aF
noncomputable def X.fF (t:cS) (J:XI) (ss:List S):XS:=λo s l k=>J o aB s l λx l s=>ly pF s λr s=>match r with|(f,l')=>(∀K:Fl->Ls->Prop,K f l'->fW t ss o x l K)->kA l' λl=>k f l s
theorem U6 {tg} (i:qX it J):bC (S.fF tg it ss) (X.fF tg J ss):=⟨λq f=>i.r q λO O O q=>nZ λO O r=>lq<|f _ _ _ λs=>q<|r _ s⟩
noncomputable def X.oR (t:T) (ss:List S):XS:=λo s l k=>ly pF s λr s=>match r with|(f,l')=>(∀K:Fl->Ls->Prop,K f l'-> ∃n,wW t ss o n l K)->kA l' λl=>k f l s
theorem TP:bC (S.oR t ss) (X.oR t ss):=⟨λq f=>nZ λO O r=>lq<|f _ _ _ λs=>q<|r _ s⟩
noncomputable def Jz (l:Ls) (v:V):Option Dat:=match v with|.d x=>aA x|.bor i=>bif bt i aT then aF else (gj<|aL l i).map .list|_=>aF
theorem QCX {d} (h:Jz l v=aA d):yO (aL l) v d:=by
 induction v with
 |d x=>cases h;exact .d
 |bor i=>
  have h:(bif bt i aT then aF else (gj<|aL l i).map DH)=aA d:=h;induction e:bt i aT with
  |true=>rw[e] at h;exact ay h
  |false=>
   rw[e] at h;induction q:gj (aL l i) with
   |none=>rw[q] at h;exact ay h
   |some R=>rw[q] at h;cases h;exact .bor (λr=>by rw[r] at e;exact nomatch e)<|M3 q
 |_=>exact ay h
noncomputable def X.Ou (A:XE):XS:=λo s l k=>A o s l λv l s=>bc (Jz l v) (λx=>k (.ret x) l s) True
theorem UR (s:bC a A):bC (S.ret<|aA a) (X.Ou A):=⟨λq f=>s.r q λO O O q=>vP λO e=>f _ _ _ λr=>q<|.mk (QCX e) r⟩
noncomputable def X.BP:XS:=λO s l k=>k (.ret .none) l s
theorem YV:bC (S.ret aF) X.BP:=⟨λq f=>f _ _ _ q⟩
noncomputable def X.cont:XS:=λO s l k=>k .cont l s
theorem YQ:bC S.cont X.cont:=⟨λq f=>f _ _ _ q⟩
noncomputable def X.defn (i g:Nat):XS:=λO s l k=>et l i (.clo g) λl=>k .next l s
theorem UI {i g}:bC (S.defn i g) (X.defn i g):=⟨λq f=>gO<|f _ _ _ q⟩
noncomputable def JB (l:List aK):Option (aK×aK×aK):=l.casesOn (motive:=λO=>Option<|aK×aK×aK) aF λa t=>(B9 t).map λb=>(a,b)
theorem u_ (h:JB l=aA a):l=[a.1,a.2.1,a.2.2]:=by
 revert h;induction l with
 |nil=>exact λh=>ay h
 |cons b t _=>exact λh=>(lN.mp h).elim λc q=>q.2▸QHd (b:: ·) (HK q.1)
noncomputable def NS (xs:List aK) (k:Int->Prop):Prop:=lZ (JB xs) λd=>lZ (tI d.1) λn=>lZ (tI d.2.1) λm=>lZ (tI d.2.2) λp=>eJ (decide (m=5) && decide (p=2048))<|k n
theorem Tw {k:Int->Prop} (f: ∀n,xs=[.int n,.int 5,.int 2048]->k n):NS xs k:=my λO e=>my λn x=>my λm C=>my λp u=>eO λc=>f n<|vV x▸(eC (f7.mp c).1▸vV C)▸(eC (f7.mp c).2▸vV u)▸u_ e
noncomputable def X.pd (i:Nat) (e:List XE):XS:=λo s l k=>dX e o s l λx l s=>NS x λn=>n<=2048->0<=n->et l i .emp λl=>k .next l s
theorem QDV {i} (h:fb es Es):bC (S.pd i es) (X.pd i Es):=⟨λq f=>(nI h).r q λO O O q=>Tw λn e c d=>gO<|f _ _ _ λr=>q<|kU n e c d r⟩
noncomputable def X.qN (i:Nat):XS:=λO s l k=>eJ (rq<|aL l i)<|k .next l s
theorem SP {i}:bC (S.qN i) (X.qN i):=⟨λq f=>eO λc=>f _ _ _ λr=>q ⟨xq c,r⟩⟩
noncomputable def X.stuck:XS:=λO O O O=>True
theorem Tn:bC S.stuck X.stuck:=⟨λO O=>trivial⟩
end
noncomputable def tC {R:Type} (o:R) (d:List (Option nS)->List nS->bP->R) (c0:Const->R) (s:R) (n:aG->bP->R) (x:nS):R:=x.casesOn (motive_1:=λO=>R) (λO O O=>o) (λO O O=>o) (λO O O O=>o) (λO O O=>o) (λO O O O=>o) (λO O O O=>o) (d) (λO O O=>o) (λO O O O=>o) (λO O O O=>o) (λO O O O O=>o) (λO O O O=>o) (λO O=>o) (λO O=>o) (λO O=>o) (λO O O O=>o) (λO O O O=>o) (λO O O O=>o) (λO O=>o) (λc O O=>c0 c) (λO O O=>o) (λO O O=>o) (λO O=>s) (n) (λO O=>o) (λO O O=>o) λO O O O=>o
noncomputable def Ba {R:Type} (o:R) (f:Arguments->List cq->jQ->R) (c:List cq->R) (a:nS->R) (x:cq):R:=x.casesOn (motive_2:=λO=>R) (λO a b O O O s O O O=>f a b s) (λO O O O O O O O O O=>o) (λO O O b O O O O O O O=>c b) (λO O=>o) (λO O=>o) (λO v O=>a v) (λO O O O O O O=>o) (λO O O O=>o) (λO O O O O=>o) (λO O O O O=>o) (λO O O O O=>o) (λO O O O=>o) (λO O O O=>o) (λO O O=>o) (λO O O=>o) (λO O O=>o) (λO O O=>o) (λO O O O O=>o) (λO O O O O=>o) (λO O O=>o) (λO O=>o) (λO O O O=>o) (λO O=>o) (λO O=>o) (λO O=>o) (λO=>o) (λO=>o) λO=>o
namespace B01
noncomputable def Nf:cq->Arguments:=Ba {posonlyargs:=[],args:=[],vararg:=aF,kwonlyargs:=[],kw_defaults:=[],kwarg:=aF,defaults:=[]} (λa O O=>a) (λO=>{posonlyargs:=[],args:=[],vararg:=aF,kwonlyargs:=[],kw_defaults:=[],kwarg:=aF,defaults:=[]}) λO=>{posonlyargs:=[],args:=[],vararg:=aF,kwonlyargs:=[],kw_defaults:=[],kwarg:=aF,defaults:=[]}
noncomputable def fK:cq->List Stmt:=Ba [] (λO b O=>b) (λb=>b) λO=>[]
noncomputable def cJ:cq->Scope:=Ba {kind:=.function,names:=[],isGenerator:=aE,isCoroutine:=aE,more:=[]} (λO O s=>s) (λO=>{kind:=.function,names:=[],isGenerator:=aE,isCoroutine:=aE,more:=[]}) λO=>{kind:=.function,names:=[],isGenerator:=aE,isCoroutine:=aE,more:=[]}
noncomputable def yy (l:List cq):Nat->cq
 |0=>match l with|s::_=>s|[]=>.Pass default
 |n+1=>match l with|_::r=>yy r n|[]=>.Pass default
noncomputable abbrev pg:Program:=QHV
noncomputable def bO (i:Nat):Stmt:=yy pg.main.body i
noncomputable def dD (i j:Nat):Stmt:=yy (fK<|bO i) j
end B01
theorem QAZ {α:Type} {o:Option α} {p:α->Bool} (h:o.any p=aB): ∃a,o=aA a/\p a=true:=by
 induction o with
 |none=>exact br h
 |some a=>exact (ax a rfl h)
theorem aD (h:(a && b)=aB):a=aB/\b=true:=f7.mp h
inductive Kd|no|name|const|aH|un|cmp|fx|ite|list|tup|comp|sub|dJ|call|attr
noncomputable def Kd.num:Kd->Nat|.no=>0|.name=>1|.const=>2|.aH=>3|.un=>4|.cmp=>5|.fx=>6|.ite=>7|.list=>8|.tup=>9|.comp=>10|.sub=>11|.dJ=>12|.call=>13|.attr=>14
noncomputable def Kd.of:Nat->Kd|1=>.name|2=>.const|3=>.aH|4=>.un|5=>.cmp|6=>.fx|7=>.ite|8=>.list|9=>.tup|10=>.comp|11=>.sub|12=>.dJ|13=>.call|14=>.attr|_=>.no
theorem Kd.xm (k:Kd):Kd.of k.num=k:=by induction k<;>rfl
theorem Kd.eq {a b:Kd} (h:bt a.num b.num=aB):a=b:=cx a.xm<|cx b.xm<|sb (Nat.eq_of_beq_eq_true h) rfl
noncomputable abbrev x0:Expr:=.Constant .none 0 default
structure Nd where
 t:Kd:=.no
 a:Expr:=x0
 b:Expr:=x0
 c:Expr:=x0
 es:List Expr:=[]
 nm:Str:=⟨#[]⟩
 op:Operator:=.Add
 uo:UnaryOp:=.Not
 bo:BoolOp:=.And
 os:List CmpOp:=[]
 cs:Const:=.none
 k:Nat:=0
 oa:Option Expr:=aF
 ob:Option Expr:=aF
 oc:Option Expr:=aF
 ks:List Keyword:=[]
 gs:List Comprehension:=[]
 sc:Scope:={kind:=.function,names:=[],isGenerator:=aE,isCoroutine:=aE,more:=[]}
 p:Pos:=default
noncomputable def nd (x:aP):Nd:=x.casesOn (motive_1:=λO=>Nd) (λo es p=>{t:=.fx,bo:=o,es,p}) (λO O O=>{}) (λa o b p=>{t:=.aH,a,b,op:=o,p}) (λo a p=>{t:=.un,uo:=o,a,p}) (λO O O O=>{}) (λa b c p=>{t:=.ite,a,b,c,p}) (λO O O=>{}) (λO O O=>{}) (λa gs sc p=>{t:=.comp,a,gs,sc,p}) (λO O O O=>{}) (λO O O O O=>{}) (λO O O O=>{}) (λO O=>{}) (λO O=>{}) (λO O=>{}) (λa os es p=>{t:=.cmp,a,os,es,p}) (λa es ks p=>{t:=.call,a,es,ks,p}) (λO O O O=>{}) (λO O=>{}) (λc k p=>{t:=.const,cs:=c,k,p}) (λa nm p=>{t:=.attr,a,nm,p}) (λa b p=>{t:=.sub,a,b,p}) (λO O=>{}) (λn p=>{t:=.name,nm:=n,p}) (λes p=>{t:=.list,es,p}) (λes k p=>{t:=.tup,es,k,p}) λoa ob oc p=>{t:=.dJ,oa,ob,oc,p}
noncomputable def Nd.mk' (n:Nd):Expr:=match n.t with
 |.no=>x0
 |.name=>.Name n.nm n.p
 |.const=>.Constant n.cs n.k n.p
 |.aH=>.BinOp n.a n.op n.b n.p
 |.un=>.UnaryOp n.uo n.a n.p
 |.cmp=>.Compare n.a n.os n.es n.p
 |.fx=>.BoolOp n.bo n.es n.p
 |.ite=>.IfExp n.a n.b n.c n.p
 |.list=>.List n.es n.p
 |.tup=>.Tuple n.es n.k n.p
 |.comp=>.ListComp n.a n.gs n.sc n.p
 |.sub=>.Subscript n.a n.b n.p
 |.dJ=>.Slice n.oa n.ob n.oc n.p
 |.call=>.Call n.a n.es n.ks n.p
 |.attr=>.Attribute n.a n.nm n.p
theorem y8 (x:aP):(nd x).t=.no\/x=(nd x).mk':=by cases x<;>first|exact .inr rfl|exact .inl rfl
noncomputable def on (x:aP) (k:Kd) (b:Nd->Bool):Bool:=bt (nd x).t.num k.num && b (nd x)
theorem Tt {x:aP} {k:Kd} {b:Nd->Bool} (h:on x k b=aB) (K:k≠ .no): ∃n,n.t=k/\x=n.mk'/\b n=true:=by refine bI (aD h) λH i=>?_;have e:=Kd.eq H;exact (gd _ e ((y8 x).elim (λq=>QHZ (e.symm.trans q) K) id) i)
theorem je {P:aP->Prop} {n:Nd} {k:Kd} (e:n.t=k) (h:P (Nd.mk' {n with t:=k})):P n.mk':=by induction e;exact h
theorem kO {P:aP->Prop} {k:Kd} (h:on x k b=aB) (K:k≠ .no) (f: ∀n,n.t=k->b n=aB->P n.mk'):P x:=cy (Tt h K) λn e q g=>q▸f n e g
inductive NZ (k:aG->Bool):aP->Prop|mk {n:Str} {p:Pos}:k n=true->NZ k (.Name n p)
noncomputable def bS (x:aP) (k:aG->Bool):Bool:=on x .name λn=>k n.nm
theorem dh {x:aP} {k} (h:bS x k=aB):NZ k x:=kO h nofun λn e h=>je e<|.mk h
inductive PJ (k:Const->Bool):aP->Prop|mk {c:Const} {m:Nat} {p:Pos}:k c=true->PJ k (.Constant c m p)
noncomputable def ja (x:aP) (k:Const->Bool):Bool:=on x .const λn=>k n.cs
theorem tO {x:aP} {k} (h:ja x k=aB):PJ k x:=kO h nofun λn e h=>je e<|.mk h
inductive PI (k:aP->iG->aP->Bool):aP->Prop|mk {a:Expr} {o:Operator} {b:Expr} {p:Pos}:k a o b=true->PI k (.BinOp a o b p)
noncomputable def ye (x:aP) (k:aP->iG->aP->Bool):Bool:=on x .aH λn=>k n.a n.op n.b
theorem MV {x:aP} {k} (h:ye x k=aB):PI k x:=kO h nofun λn e h=>je e<|.mk h
inductive ND (k:UnaryOp->aP->Bool):aP->Prop|mk {o:UnaryOp} {a:Expr} {p:Pos}:k o a=true->ND k (.UnaryOp o a p)
noncomputable def vH (x:aP) (k:UnaryOp->aP->Bool):Bool:=on x .un λn=>k n.uo n.a
theorem Ms {x:aP} {k} (h:vH x k=aB):ND k x:=kO h nofun λn e h=>je e<|.mk h
inductive L6 (k:aP->List fV->List aP->Bool):aP->Prop|mk {a:Expr} {o:List CmpOp} {b:List Expr} {p:Pos}:k a o b=true->L6 k (.Compare a o b p)
noncomputable def Bt (x:aP) (k:aP->List fV->List aP->Bool):Bool:=on x .cmp λn=>k n.a n.os n.es
theorem OO {x:aP} {k} (h:Bt x k=aB):L6 k x:=kO h nofun λn e h=>je e<|.mk h
inductive Of (k:kg->List aP->Bool):aP->Prop|mk {o:BoolOp} {es:List Expr} {p:Pos}:k o es=true->Of k (.BoolOp o es p)
noncomputable def x4 (x:aP) (k:kg->List aP->Bool):Bool:=on x .fx λn=>k n.bo n.es
theorem KD {x:aP} {k} (h:x4 x k=aB):Of k x:=kO h nofun λn e h=>je e<|.mk h
inductive NT (k:aP->aP->aP->Bool):aP->Prop|mk {c:Expr} {a:Expr} {b:Expr} {p:Pos}:k c a b=true->NT k (.IfExp c a b p)
noncomputable def Fm (x:aP) (k:aP->aP->aP->Bool):Bool:=on x .ite λn=>k n.a n.b n.c
theorem QDB {x:aP} {k} (h:Fm x k=aB):NT k x:=kO h nofun λn e h=>je e<|.mk h
inductive Jl (k:List aP->Bool):aP->Prop|mk {es:List Expr} {p:Pos}:k es=true->Jl k (.List es p)
noncomputable def og (x:aP) (k:List aP->Bool):Bool:=on x .list λn=>k n.es
theorem Bo {x:aP} {k} (h:og x k=aB):Jl k x:=kO h nofun λn e h=>je e<|.mk h
inductive KV (k:List aP->Bool):aP->Prop|mk {es:List Expr} {m:Nat} {p:Pos}:k es=true->KV k (.Tuple es m p)
noncomputable def gu (x:aP) (k:List aP->Bool):Bool:=on x .tup λn=>k n.es
theorem tY {x:aP} {k} (h:gu x k=aB):KV k x:=kO h nofun λn e h=>je e<|.mk h
inductive OT (k:aP->List IH->jQ->Bool):aP->Prop|mk {e:Expr} {gs:List Comprehension} {s:Scope} {p:Pos}:k e gs s=true->OT k (.ListComp e gs s p)
noncomputable def vW (x:aP) (k:aP->List IH->jQ->Bool):Bool:=on x .comp λn=>k n.a n.gs n.sc
theorem Ot {x:aP} {k} (h:vW x k=aB):OT k x:=kO h nofun λn e h=>je e<|.mk h
inductive Ke (k:aP->aP->Bool):aP->Prop|mk {a:Expr} {b:Expr} {p:Pos}:k a b=true->Ke k (.Subscript a b p)
noncomputable def iu (x:aP) (k:aP->aP->Bool):Bool:=on x .sub λn=>k n.a n.b
theorem uF {x:aP} {k} (h:iu x k=aB):Ke k x:=kO h nofun λn e h=>je e<|.mk h
inductive Ku (k:Option aP->Option aP->Option aP->Bool):aP->Prop|mk {a:Option Expr} {b:Option Expr} {c:Option Expr} {p:Pos}:k a b c=true->Ku k (.Slice a b c p)
noncomputable def wI (x:aP) (k:Option aP->Option aP->Option aP->Bool):Bool:=on x .dJ λn=>k n.oa n.ob n.oc
theorem KG {x:aP} {k} (h:wI x k=aB):Ku k x:=kO h nofun λn e h=>je e<|.mk h
inductive Nv (k:aP->List aP->List wu->bP->Bool):aP->Prop|mk {f:Expr} {xs:List Expr} {ks:List Keyword} {p:Pos}:k f xs ks p=true->Nv k (.Call f xs ks p)
noncomputable def yK (x:aP) (k:aP->List aP->List wu->bP->Bool):Bool:=on x .call λn=>k n.a n.es n.ks n.p
theorem EF {x:aP} {k} (h:yK x k=aB):Nv k x:=kO h nofun λn e h=>je e<|.mk h
inductive Ja (k:aP->aG->bP->Bool):aP->Prop|mk {a:Expr} {n:Str} {p:Pos}:k a n p=true->Ja k (.Attribute a n p)
noncomputable def tq (x:aP) (k:aP->aG->bP->Bool):Bool:=on x .attr λn=>k n.a n.nm n.p
theorem Df {x:aP} {k} (h:tq x k=aB):Ja k x:=kO h nofun λn e h=>je e<|.mk h
theorem Fj {α:Type} {l:List α} (h:l.isEmpty=aB):l=[]:=QG.mp h
inductive Kf (k:aG->List aP->Bool):aP->Prop|mk {n:Str} {p:Pos} {xs:List Expr} {q:Pos}:k n xs=true->Kf k (.Call (.Name n p) xs [] q)
noncomputable def gI (x:aP) (k:aG->List aP->Bool):Bool:=yK x λf R K O=>K.isEmpty && bS f λn=>k n R
theorem qg {k} (h:gI x k=aB):Kf k x:=by
 induction EF h with
 |mk g=>
  cases Fj (aD g).1
  induction dh (aD g).2 with
  |mk g=>exact .mk g
inductive KZ (k:aP->aG->bP->List aP->bP->Bool):aP->Prop|mk {a:Expr} {n:Str} {p:Pos} {xs:List Expr} {q:Pos}:k a n p xs q=true->KZ k (.Call (.Attribute a n p) xs [] q)
noncomputable def fk (x:aP) (k:aP->aG->bP->List aP->bP->Bool):Bool:=yK x λf R K q=>K.isEmpty && tq f λa n p=>k a n p R q
theorem qG {k} (h:fk x k=aB):KZ k x:=by
 induction EF h with
 |mk g=>
  cases Fj (aD g).1
  induction Df (aD g).2 with
  |mk g=>exact .mk g
inductive Mz {α:Type} (k:α->Bool):List α->Prop|mk {a:α}:k a=true->Mz k [a]
noncomputable def cI {α:Type} (l:List α) (k:α->Bool):Bool:=match l with|a::r=>r.isEmpty && k a|[]=>aE
theorem l9 {α:Type} {l:List α} {k} (h:cI l k=aB):Mz k l:=by
 induction l with
 |nil=>exact br h
 |cons a r=>have g:(r.isEmpty && k a)=true:=h;cases Fj (aD g).1;exact .mk (aD g).2
noncomputable def oF (x:aP) (b:Kd->Bool):Bool:=b (nd x).t
noncomputable def dH (x:aP):Bool:=oF x λk=> !bt k.num Kd.no.num
noncomputable def xy (x:aP):Bool:=oF x λk=> !bt k.num Kd.no.num && !bt k.num Kd.dJ.num
noncomputable def eF (x:aP):Bool:=oF x λk=> !bt k.num Kd.no.num && !bt k.num Kd.comp.num
theorem xY (n:Nd):(∀xs env,fI (n.mk'::xs) env=(aE,b7 n.mk' env)::fI xs env)/\(∀env x,H6 n.mk' env x=pure x)/\(n.t=.dJ\/ ∀o i,wg n.mk' aE o i=wh [o,i] (wi o i))/\
 (n.t=.comp\/ ∀t l env,DG n.mk' t l env=pure aE)/\(n.t=.call\/ ∀nm env w,wq n.mk' nm env w=w):=by
 unfold Nd.mk';cases n.t<;>exact (E3 (λO O=>rfl) (λO O=>rfl) (by first|exact .inr λO O=>rfl|exact .inl rfl) (by first|exact .inr λO O O=>rfl|exact .inl rfl) (by first|exact .inr λO O O=>rfl|exact .inl rfl))
theorem rf (h:dH x=aB):x=(nd x).mk':=(y8 x).elim (λq=>by unfold dH oF at h;rw[q] at h;exact br h) id
theorem y9 (h:dH x=aB) (xs:List aP) (env:cg):fI (x::xs) env=(aE,b7 x env)::fI xs env:=sb (rf h)<|(xY _).1 _ _
noncomputable def uM (xs:List aP):Bool:=xs.all dH
theorem KH (h:uM (x::xs)=aB):dH x=aB/\uM xs=true:=aD h
theorem qB (h:uM xs=aB):Pl xs:=λenv p=>by
 induction xs with
 |nil=>rfl
 |cons x xs d=>have H:=(KH h);have A:=H.1;have i:=H.2;simp only[y9 A,FD];exact d i
theorem QBW (h:uM xs=aB) (env:cg) (pos:bP):(mM pos<|fI xs env).all (λx=> !x.1)=true:=by
 induction xs with
 |nil=>rfl
 |cons x xs d=>have H:=(KH h);have A:=H.1;have i:=H.2;simp only[y9 A,FD];exact d i
theorem vD (h:dH x=aB) (env:cg):fI [x] env=[(aE,b7 x env)]:=y9 h [] env
theorem QCu (n:Nd) (y:aP) (ys:List aP) (ks:List wu) (p:bP) (nm:aG) (env:cg) (w:ba aI):wq (.Call n.mk' (y::ys) ks p) nm env w=w:=by unfold Nd.mk';cases n.t<;>rfl
noncomputable def isAt (k:Kd):Bool:=bt k.num Kd.attr.num
noncomputable def NP (x:aP):Bool:=dH x && (oF x λk=> !bt k.num Kd.call.num||(dH (nd x).a && (!(nd x).es.isEmpty||isAt (nd (nd x).a).t)))
theorem RD {x:aP} (h:NP x=aB) (nm:aG) (env:cg) (w:ba aI):wq x nm env w=w:=by
 refine bI (aD h) λA H=>?_;have e:=rf A;rcases (xY<|nd x).2.2.2.2 with q|q
 ·have u:=e.trans (je (P:=λy=>y=.Call (nd x).a (nd x).es (nd x).ks (nd x).p) q rfl)
  unfold oF at H;rw[q] at H;refine bI (aD H) λl b=>?_;cases Q:(nd x).es with
  |nil=>
   rw[Q] at b;have d:=b;have Z:(nd (nd x).a).t=.attr:=by generalize (nd (nd x).a).t=k at d;induction k<;>first|rfl|(exact br d)
   exact sb u<|sb Q<|sb (rf l)<|je (P:=λy=>wq (.Call y [] (nd x).ks (nd x).p) nm env w=w) Z rfl
  |cons y Y=>exact sb u<|sb Q<|sb (rf l)<|QCu _ _ _ _ _ _ _ _
 ·exact sb e<|q _ _ _
noncomputable def fg (x:aP) (a pos:bP) (xs:List aP):Bool:=NP x && (uM xs && (cP xs.length 30 && (a.endLine==pos.line)))
theorem oU {x:aP} {nm:aG} {a pos:bP} {xs:List aP} (h:fg x a pos xs=aB):MC x nm a pos xs:=by refine bI (aD h) λA h=>bI (aD h) λi h=>bI (aD h) λQ H=>⟨λenv=>RD A _ _ _,λenv=>?_,H⟩;rw[QBW i];exact QHh<|bJ Q
theorem Lv {y:aP} (h:xy y=aB) (o i:aI):wg y aE o i=wh [o,i] (wi o i):=by
 unfold xy oF at h;refine cp (y8 y) (λq=>?_) λq=>?_
 ·rw[q] at h
  exact br h
 ·refine cp ((xY<|nd y).2.2.1) (λQ=>?_) λQ=>?_
  ·rw[Q] at h
   exact br h
  ·exact sb q<|Q _ _
theorem Ko {y:aP} (h:dH y=aB) (env:cg) (x:aI):H6 y env x=pure x:=sb (rf h)<|(xY _).2.1 _ _
theorem J5 {y:aP} (h:eF y=aB) (t:Option aP) (l:Nat) (env:cg):DG y t l env=pure false:=by
 unfold eF oF at h;refine cp (y8 y) (λq=>?_) λq=>?_
 ·rw[q] at h
  exact br h
 ·refine cp ((xY<|nd y).2.2.2.1) (λQ=>?_) λQ=>?_
  ·rw[Q] at h
   exact br h
  ·exact sb q<|Q _ _ _
theorem ry {y:aP} (h:eF y=aB) (t:aP) (l:Nat) (env:cg):jo [t] y l env=pure false:=J5 h _ _ _
noncomputable def ir (C:Fc) (n:aG):Bool:=(match C.K n with|some .globalImplicit=>aB|_=>aE) && !(n==("__debug__" :aG))
theorem ny (h:ir C n=aB):nB C n:=by
 refine bI (aD h) λH i=>⟨?_,uZ _▸i⟩;generalize C.K n=k at H
 match k,H with
 |some .globalImplicit,_=>rfl
structure Ci where
 fns:List (Nat×aG)
 hm:List (Nat×aG)
 cN:Nat->Fc->Bool
 vI:Nat->Nat->Fc->cq->Bool
structure cF (I:Ci) (D:Wd):Prop where
 H:dA D
 R:kn D
 fns: ∀f nm,I.fns.lookup f=aA nm->D.fns[f]?=aA nm/\ ∃fa o fd,D.mg nm=aA (.ref fa)/\D.G.get? fa=aA o/\o.data=.func fd
 hm: ∀k nm,I.hm.lookup k=aA nm-> ∃fa,D.hm k=aA (nm,fa)
 cN: ∀f C,I.cN f C=aB->D.cN f C
 vI: ∀f i C s,I.vI f i C s=aB->bV D C s (.defn i f)
structure EW where
 w:E
 x:XE
 ok:bC w x
 bU:Ci->Fc->aP->Bool
 snd: ∀{I D C x},cF I D->bU I C x=aB->aZ D C x w
structure TW where
 w:T
 x:XT
 ok:bC w x
 bU:Ci->Fc->aP->Bool
 snd: ∀{I D C x},cF I D->bU I C x=aB->eQ D C x w
structure IW where
 w:I
 x:XI
 ok:qX w x
 bU:Ci->Fc->aP->Bool
 snd: ∀{I D C x f},cF I D->bU I C x=aB->hZ D C f x w
structure SW where
 w:S
 x:XS
 ok:bC w x
 bU:Ci->Fc->cq->Bool
 snd: ∀{I D C x},cF I D->bU I C x=aB->bV D C x w
structure NW where
 w:E
 x:XE
 ok:bC w x
 bU:Ci->Fc->aP->Bool
 snd: ∀{I D C x},cF I D->bU I C x=aB->qc D C x w
theorem jt (es:List EW):fb (es.map EW.w) (es.map EW.x):=by induction es with|nil=>exact .nil|cons e es i=>exact .cons e.ok i
theorem JS (es:List TW):fb (es.map TW.w) (es.map TW.x):=by induction es with|nil=>exact .nil|cons e es i=>exact .cons e.ok i
theorem oT (es:List SW):fb (es.map SW.w) (es.map SW.x):=by induction es with|nil=>exact .nil|cons e es i=>exact .cons e.ok i
noncomputable def jE {α β:Type} (f:α->β->Bool):List α->List β->Bool
 |[],[]=>aB
 |a::as,b::bs=>f a b && jE f as bs
 |_,_=>aE
theorem mr {α β:Type} {f:α->β->Bool} {P:List α->List β->Prop} (q:P [] []) (H: ∀a as b bs,f a b=aB->P as bs->P (a::as) (b::bs)): ∀{as:List α} {bs:List β},jE f as bs=aB->P as bs:=by
 intro as;induction as with
 |nil=>
  exact @λbs h=>by
   induction bs with
   |nil=>exact q
   |cons b bs O=>exact br h
 |cons a as i=>
  exact @λbs h=>by
   induction bs with
   |nil=>exact br h
   |cons b bs O=>exact H a as b bs (aD h).1 (i (aD h).2)
noncomputable def ck (I:Ci) (C:Fc):List EW->List aP->Bool:=jE λe x=>dH x && e.bU I C x
theorem gf {I:Ci} {D:Wd} (H:cF I D) (h:ck I C es xs=aB):fu D C xs (es.map EW.w)/\uM xs=true:=mr (P:=λ(es:List EW) xs=>fu D C xs (es.map EW.w)/\uM xs=aB) ⟨Gg,rfl⟩ (λe es x xs h g=>⟨xh (y9 (aD h).1 xs) (e.snd H (aD h).2) g.1,f7.mpr ⟨(aD h).1,g.2⟩⟩) h
noncomputable def j7 (I:Ci) (C:Fc):List SW->List cq->Bool:=jE λe x=>e.bU I C x
theorem ll {I:Ci} {D:Wd} (H:cF I D) (h:j7 I C es xs=aB):ji D C xs (es.map SW.w):=mr (P:=λ(es:List SW) xs=>ji D C xs<|es.map SW.w) JD (λe es x xs h g=>tP (e.snd H h) g) h
theorem rY (h:(!b)=aB):b=false:=(uZ b).mp h
section
variable {a b c:E} {t:T} {ka kb kc:aP->Bool} {op:iG}
theorem BW (r: ∀{k pos},aZ D C (.Constant v k pos) a) (h:ja x (λc=>decide (c=v))=aB):aZ D C x a:=by induction tO h with|mk g=>cases eC g;exact r
theorem YZ (h:bS x (λn=>cv C n i)=aB):aZ D C x (.aC i):=by induction dh h with|mk g=>exact tL<|jg g
theorem YE (h:(C.ow && bS x λn=>cv C n i)=aB):aZ D C x (.qa i):=by induction dh (aD h).2 with|mk g=>exact WK (aD h).1<|jg g
theorem TH (A: ∀{y},ka y=aB->aZ D C y a) (hb: ∀{y},kb y=aB->aZ D C y b) (h:ye x (λy o z=>decide (o=op) && (ka y && kb z))=aB):aZ D C x (.aH op a b):=by
 induction MV h with|mk g=>cases eC (aD g).1;exact QDl (A (aD (aD g).2).1)<|hb (aD (aD g).2).2
theorem Lx (r: ∀{y pos},aZ D C y a->aZ D C (.UnaryOp o y pos) f) (A: ∀{y},ka y=aB->aZ D C y a) (h:vH x (λp y=>decide (p=o) && ka y)=aB):aZ D C x f:=by
 induction Ms h with|mk g=>cases eC (aD g).1;exact r<|A (aD g).2
noncomputable def kx (x:aP) (op:fV) (k:aP->aP->Bool):Bool:=Bt x λy o z=>cI o λo=>decide (o=op) && cI z λz=>k y z
inductive J6 (op:fV) (k:aP->aP->Bool):aP->Prop|mk {y z:Expr} {p:Pos}:k y z=true->J6 op k (.Compare y [op] [z] p)
theorem yH {op:fV} {k} (h:kx x op k=aB):J6 op k x:=by
 induction OO h with
 |mk g=>induction l9 g with|mk t=>induction eC (aD t).1;induction l9 (aD t).2 with|mk o=>exact .mk o
theorem JG {op:fV} (A: ∀{y},ka y=aB->aZ D C y a) (hb: ∀{y},kb y=aB->aZ D C y b) (h:kx x op (λy z=> !sN op z && (ka y && kb z))=aB):aZ D C x (.cmp op a b)/\eQ D C x (.cmp op a b):=by
 induction yH h with
 |mk g=>exact ⟨SE (rY (aD g).1) (A (aD (aD g).2).1)<|hb (aD (aD g).2).2,w_ (rY (aD g).1) (A (aD (aD g).2).1)<|hb (aD (aD g).2).2⟩
noncomputable def isNone (x:aP):Bool:=ja x λc=>decide (c=.none)
theorem O1 {neg:Bool} (A: ∀{y},ka y=aB->aZ D C y a) (h:kx x (if neg then .IsNot else .Is) (λy z=>isNone z && ka y)=aB):aZ D C x (.iM neg a)/\eQ D C x (.iM neg a):=by
 induction yH h with
 |mk g=>
  induction tO (aD g).1 with
  |mk e=>cases eC e;exact ⟨QCl rfl (by clear h;induction neg<;>rfl) (A (aD g).2),QAp rfl (by clear h;induction neg<;>rfl) (A (aD g).2)⟩
theorem RH {neg b:Bool} (A: ∀{y},ka y=aB->aZ D C y a) (h:kx x (if neg then .IsNot else .Is) (λy z=>(ja z λc=>decide (c=.bool b)) && ka y)=aB):eQ D C x (.eP neg b a):=by
 induction yH h with
 |mk g=>
  induction tO (aD g).1 with
  |mk e=>cases eC e;exact TG rfl (by clear h;induction neg<;>rfl) (A (aD g).2)
theorem QDM (c: ∀{y},kc y=aB->eQ D C y t) (A: ∀{y},ka y=aB->aZ D C y a) (hb: ∀{y},kb y=aB->aZ D C y b) (h:Fm x (λz y w=>kc z && (ka y && kb w))=aB):aZ D C x (.ite t a b):=by
 induction QDB h with|mk g=>exact Rp (c (aD g).1) (A (aD (aD g).2).1)<|hb (aD (aD g).2).2
theorem OQ (H:cF J D) (h:og x (ck J C es)=aB):aZ D C x (.list<|es.map EW.w)/\qc D C x (.list<|es.map EW.w):=by
 induction Bo h with|mk g=>exact ⟨Na (gf H g).1,QAs (gf H g).1⟩
theorem QDY (H:cF J D) (h:gu x (ck J C es)=aB):aZ D C x (.tup<|es.map EW.w):=by
 induction tY h with|mk g=>exact QDf (gf H g).1
theorem UU (A: ∀{y},ka y=aB->aZ D C y a) (hb: ∀{y},kb y=aB->aZ D C y b) (h:iu x (λy z=>xy z && (ka y && kb z))=aB):aZ D C x (.au a b):=by
 induction uF h with|mk g=>exact Uu (Lv (aD g).1) (A (aD (aD g).2).1)<|hb (aD (aD g).2).2
noncomputable def pw (e:Option EW):E:=match e with|some e=>e.w|none=>.none
noncomputable def tS (I:Ci) (C:Fc) (e:Option EW) (x:Option aP):Bool:=match e,x with|some e,some x=>e.bU I C x|none,none=>aB|_,_=>aE
theorem GQ (H:cF J D) (h:tS J C e x=aB):v8 D C x (pw e):=by
 induction e<;>induction x
 ·exact Ta
 ·contradiction
 ·contradiction
 ·exact QAD<|EW.snd _ H h
theorem Vt {l d st:Option EW} (H:cF J D) (A: ∀{y},ka y=aB->aZ D C y a) (h:iu x (λy z=>wI z λp q r=>ka y && (tS J C l p && (tS J C d q && tS J C st r)))=aB):aZ D C x (.dJ a (pw l) (pw d)<|pw st):=by
 induction uF h with
 |mk g=>
  induction KG g with
  | @mk p q r _ g=>exact UK (λo i=>by clear h;clear g;induction r<;>exact ⟨_,rfl⟩) (A (aD g).1) (GQ H (aD (aD g).2).1) (GQ H (aD (aD (aD g).2).2).1)<|GQ H (aD (aD (aD g).2).2).2
noncomputable def eP (C:Fc) (n:aG):Bool:=decide (C.K n=aA .globalImplicit)
theorem wF (h:eP C n=aB):C.K n=aA .globalImplicit:=QHg h
theorem Sa (H:cF J D) (h:gI x (λn xs=>(J.fns.lookup f==aA n) && (ir C n && ck J C es xs))=aB):aZ D C x (.call f<|es.map EW.w):=by
 induction qg h with
 |mk g=>obtain ⟨r,F,o,l,s,q,Q⟩:=H.fns _ _<|QHc.mp (aD g).1;exact TL (H:=H.H) r s q Q (ny (aD (aD g).2).1) (qB (gf H (aD (aD g).2).2).2) (gf H (aD (aD g).2).2).1
theorem RY (H:cF J D) (h:gI x (λn xs=>J.cN f C && (cv C n i && ck J C es xs))=aB):aZ D C x (.i9 f i<|es.map EW.w):=by
 induction qg h with
 |mk g=>exact Sg (H:=H.H) (H.cN _ _ (aD g).1) (jg (aD (aD g).2).1) (qB (gf H (aD (aD g).2).2).2) (gf H (aD (aD g).2).2).1
theorem T5 {b:Bi} {es:List EW} (H:cF J D) (h:gI x (λn xs=>(n==yn b) && (eP C n && ck J C es xs))=aB):aZ D C x (.bi b<|es.map EW.w):=by
 induction qg h with
 |mk g=>exact QCd (H:=H.H) (QHc.mp (aD g).1) (wF (aD (aD g).2).1) (qB (gf H (aD (aD g).2).2).2) (gf H (aD (aD g).2).2).1
theorem W4 (H:cF J D) (A: ∀{y},ka y=aB->aZ D C y a) (h:fk x (λy n p xs q=>(n==CY m) && (fg y p q xs && (ka y && ck J C es xs)))=aB):aZ D C x (.sm m a<|es.map EW.w):=by
 induction qG h with
 |mk g=>exact P_ (H:=H.H) (QHc.mp (aD g).1) (oU (aD (aD g).2).1) (A (aD (aD (aD g).2).2).1) (gf H (aD (aD (aD g).2).2).2).1
theorem NG {k:Nat} (H:cF J D) (A: ∀{y},ka y=aB->aZ D C y a) (h:fk x (λy n p xs q=>(J.hm.lookup k==aA n) && (cP k 20 && (fg y p q xs && (ka y && ck J C es xs))))=aB):aZ D C x (.j4 k a<|es.map EW.w)/\aZ D C x (.jZ k a<|es.map EW.w):=by
 induction qG h with
 |mk g=>refine aV (H.hm _ _<|QHc.mp (aD g).1) λf q=>?_;have g:=(aD g).2;exact ⟨XM (H:=H.H) q (bJ (aD g).1) (oU (aD (aD g).2).1) (A (aD (aD (aD g).2).2).1) (gf H (aD (aD (aD g).2).2).2).1,Yg (H:=H.H) q (bJ (aD g).1) (oU (aD (aD g).2).1) (A (aD (aD (aD g).2).2).1) (gf H (aD (aD (aD g).2).2).2).1⟩
end
section
variable {a b c:E} {t:T} {ka kb kc:aP->Bool} {op:iG}
theorem Vj {k:Nat} (H:cF J D) (A: ∀{y},ka y=aB->aZ D C y a) (h:gI x (λn xs=>(J.hm.lookup k==aA n) && (eX 20 k && (ir C n && match xs with|y::xs=>dH y && (ka y && ck J C es xs)|[]=>aE)))=aB):aZ D C x (.j4 k a<|es.map EW.w):=by
 induction qg h with
 | @mk n p xs q g=>
  obtain ⟨f,e⟩:=H.hm _ _<|QHc.mp (aD g).1;have g:=(aD g).2;clear h;induction xs with
  |nil=>cases (aD (aD g).2).2
  |cons y xs=>
   have t:=(aD (aD g).2).2;have l:=gf H (aD (aD t).2).2;refine @λL K=>QAC (H:=H.H) (D:=D) (C:=C) (x:=y) (a:=a) (p:=p) (pos:=q) (k:=k) e (bJ (aD g).1) (ny (aD (aD g).2).1) (qB<|f7.mpr ⟨(aD t).1,l.2⟩) (y9 (aD t).1 xs) ?_ ?_
   ·exact A (aD (aD t).2).1
   ·exact l.1
noncomputable def yw (f:aP->aP->Bool):List aP->Bool
 |[s,r]=>f s r
 |_=>aE
theorem OI (h:yw f xs=aB): ∃s r,xs=[s,r]/\f s r=true:=by
 induction xs with
 |nil=>exact br h
 |cons s xs _=>induction xs with
  |nil=>exact br h
  |cons r xs _=>induction xs with
   |nil=>exact ⟨s,r,rfl,h⟩
   |cons _ _ _=>exact br h
theorem Gi (h:ck J C [e] xs=aB): ∃y,xs=[y]:=by
 induction xs with
 |nil=>exact br h
 |cons y xs _=>induction xs with
  |nil=>exact ⟨y,rfl⟩
  |cons _ _ _=>exact br (aD h).2
theorem Uk (h:ck J C [e,u] xs=aB): ∃y z,xs=[y,z]:=by
 induction xs with
 |nil=>exact br h
 |cons y xs _=>exact (Gi (aD h).2).elim λz q=>⟨y,z,QHd (y:: ·) q⟩
theorem QEH {y z:aG} (A: ∀{y},ka y=aB->aZ D C y a) (h:fk x (λu n p xs q=>(n==("replace")) && (fg u p q xs && (!(y==z) && (ka u && yw (λs r=>(ja s λc=>decide (c=.str y)) && (ja r λc=>decide (c=.str z))) xs))))=aB):aZ D C x (.qU a y z):=by
 induction qG h with
 | @mk u n p xs q g=>
  clear h;obtain rfl:=QHc.mp (aD g).1;have g:=(aD g).2;have o:=(aD (aD (aD g).2).2).2;have v:=λN=> @oU u N p q xs (aD g).1;have t:=rY (aD (aD g).2).1;have Z:=(aD (aD (aD g).2).2).1;clear g;refine @cQ _ _ _ _ _ (OI o) λs r Q o=>?_;induction tO (aD o).1 with
  |mk Y=>
   induction tO (aD o).2 with
   |mk e=>
    cases eC Y
    cases eC e
    subst Q;exact @λl K=>Ui (v _) t<|A Z
theorem R2 (H:cF J D) (h:bS x (λn=>(n==nm) && ir C n)=aB):aZ D C x (.qY nm):=by
 induction dh h with|mk g=>obtain rfl:=QHc.mp (aD g).1;exact Ye (H:=H.H)<|ny (aD g).2
theorem QDQ (H:cF J D) (A: ∀{y},ka y=aB->aZ D C y a) (h:kx x .In (λy z=>(bS z λn=>(n==("b1_set")) && ir C n) && ka y)=aB):aZ D C x (.pT a):=by
 induction yH h with
 |mk g=>induction dh (aD g).1 with|mk e=>clear h;obtain rfl:=QHc.mp (aD e).1;exact QDR (H:=H.H) (ny (aD e).2)<|A (aD g).2
theorem Yq (H:cF J D) (A: ∀{y},ka y=aB->aZ D C y a) (h:fk x (λu n p xs q=>(bS u λn=>(n==("b3_exceptions")) && ir C n) && ((n==("get")) && (fg u p q xs && cI xs λy=>dH y && ka y)))=aB):aZ D C x (.qF a):=by
 induction qG h with
 |mk g=>
  induction dh (aD g).1 with
  |mk e=>
   clear h;obtain rfl:=QHc.mp (aD e).1;have g:=(aD g).2;obtain rfl:=QHc.mp (aD g).1;induction l9 (aD (aD g).2).2 with
   |mk t=>exact @λl K=>QDP (H:=H.H) (D:=D) (C:=C) (a:=a) (ny (aD e).2) (oU (aD (aD g).2).1) (vD (aD t).1)<|A (aD t).2
theorem ON (H:cF J D) (h:tq x (λu n O=>(n==("_headers")) && bS u λn=>cv C n 0)=aB):aZ D C x .fE:=by
 induction Df h with
 |mk g=>clear h;obtain rfl:=QHc.mp (aD g).1;induction dh (aD g).2 with|mk e=>exact Rv (H:=H.H) (jg e) λO=>rfl
noncomputable def Bv (I:Ci) (C:Fc):List TW->List aP->Bool:=jE λe x=>e.bU I C x
theorem R4 (H:cF J D) (h:x4 x (λp es=>decide (p=o) && Bv J C ts es)=aB):eQ D C x (.fx o<|ts.map TW.w):=by
 induction KD h with
 |mk g=>
  cases eC (aD g).1
  exact V_<|mr (P:=λ(ts:List TW) R=>yM D C o R<|ts.map TW.w) Zu (λt ts x R h g=>WG (t.snd H h) g) (aD g).2
theorem YB (H:cF J D) (h:Bv J C ts xs=aB):oQ D C xs (ts.map TW.w):=mr (P:=λ(ts:List TW) xs=>oQ D C xs<|ts.map TW.w) QAr (λt ts x xs h g=>T_ (t.snd H h) g) h
theorem Xl (h:bS x (λn=>cv C n i)=aB):eQ D C x (.aC i):=by induction dh h with|mk g=>exact QCK<|jg g
theorem QDT {K:aP->Bool} (a: ∀{y},K y=aB->eQ D C y t) (h:vH x (λp y=>decide (p=.Not) && K y)=aB):eQ D C x (.not t):=by
 induction Ms h with|mk g=>cases eC (aD g).1;exact Zc<|a (aD g).2
theorem QBq (h:bS x (λn=>cv C n i)=aB):hZ D C f x (.aC i):=by induction dh h with|mk g=>exact QAV<|jg g
theorem Kr (H:cF J D) (h:gI x (λn xs=>(n==("range")) && (eP C n && ck J C es xs))=aB):(∀e f,es=[e]->hZ D C f x (.jA e.w))/\(∀e u f,es=[e,u]->hZ D C f x (.rK e.w u.w)):=by
 induction qg h with
 | @mk n p xs q g=>
  clear h;obtain rfl:=QHc.mp (aD g).1;have g:=(aD g).2;constructor
  ·intro e f F
   subst F;refine @aV _ _ _ (Gi (aD g).2) λy Q=>?_;subst Q;have l:=gf H (aD g).2;exact @λL K=>VF (H:=H.H) (D:=D) (C:=C) (x:=y) (a:=e.w) (p:=p) (pos:=q) (fl:=f) (wF (aD g).1) (qB l.2)<|l.1
  ·intro e u f F
   subst F;refine @jT _ _ _ _ (Uk (aD g).2) λy z Q=>?_;subst Q;have l:=gf H (aD g).2;exact @λL K=>QAO (H:=H.H) (D:=D) (C:=C) (x:=y) (y:=z) (a:=e.w) (b:=u.w) (p:=p) (pos:=q) (fl:=f) (wF (aD g).1) (qB l.2)<|l.1
theorem Rf (H:cF J D) (h:gI x (λn xs=>(n==("reversed")) && (eP C n && ck J C [e] xs))=aB):hZ D C f x (.rev e.w):=by
 induction qg h with
 | @mk n p xs q g=>clear h;obtain rfl:=QHc.mp (aD g).1;have g:=(aD g).2;refine @aV _ _ _ (Gi (aD g).2) λy Q=>?_;subst Q;have l:=gf H (aD g).2;exact @λL K=>Wk (H:=H.H) (D:=D) (C:=C) (x:=y) (a:=e.w) (p:=p) (pos:=q) (fl:=f) (wF (aD g).1) (qB l.2)<|l.1
end
noncomputable def Av (o:Option dQ):Bool:=decide (o=aA .cell)||decide (o=some .free)
theorem Fz (h:Av o=aB):o=aA .cell\/o=aA .free:=(QFQ.mp h).imp QHg QHg
noncomputable def Y7 (s:jQ):Bool:=decide (s.kind=.function)
noncomputable def O6 (C:Fc) (scope:jQ) (t:cS) (target iter:aP):Bool:=
 decide ((scope.names.map (·.1)).Nodup) && (Y7 scope && (scope.names.all (λx=>if x.2==.free then (C.cM x.1).isSome && Av (C.K x.1) else aB) &&
 (scope.names.all (λx=>if j3 x.2 && !(x.1==nv) then (j8 t).contains (C.bd+scope.names.findIdx (·.1==x.1)) else aB) && ((j8 t).all (λi=>eX C.bd i && cP i 1000000) &&
 (dH iter && (aB && (eX (C.bd+200) 1000000 && eX scope.names.length 200)))))))
structure g_ (C:Fc) (scope:jQ) (t:cS) (target iter:aP):Prop where
 ok:mw C scope t target iter
 hb:C.bd+200<=1000000/\scope.names.length<=200
theorem QCi (h:O6 C scope t target iter=aB):g_ C scope t target iter:=by
 refine bI (aD h) λA h=>bI (aD h) λH h=>bI (aD h) λQ h=>bI (aD h) λb h=>bI (aD h) λd h=>bI (aD h) λP h=>bI (aD h) λB h=>⟨⟨eC A,?_,λx M f=>?_,λx M o hd=>?_,λi j=>?_,Ko P⟩,bJ (aD h).1,bJ (aD h).2⟩
 ·exact QHg H
 ·have:=dq.mp Q x M
  rw[if_pos (by simp only[f];rfl)] at this;exact ⟨(aD this).1,Fz (aD this).2⟩
 ·have:=dq.mp b x M
  rw[if_pos (by (erw[o];erw[hd]);rfl)] at this;exact Hx.mp this
 ·have:=aD (dq.mp d i j)
  exact ⟨bJ this.1,bJ this.2⟩
noncomputable def AY (C:Fc) (t:cS) (x:aP):Bool:=match t with
 |.one i=>bS x λn=>cw C n i
 |.tup o=>gu x λR=>jE (λx i=>bS x λn=>cw C n i) R o
theorem Ln {D:Wd} (h:AY C t x=aB):mx D C x t:=by
 induction t with
 |one i=>have h:bS x (λn=>cw C n i)=true:=h;induction dh h with|mk g=>exact @λd r R=>GW<|fy g
 |tup o=>
  have h:gu x (λv=>jE (λx i=>bS x λn=>cw C n i) v o)=true:=h;induction tY h with
  |mk g=>have n:=mr (P:=λv o=>pS C v o) .nil (λx v i o h g=>by induction dh h with|mk h=>exact .cons (fy h) g) g;exact @λd r R=>Gj n
section
noncomputable def vL (J:Ci) (C:Fc) (a:Fc->aP->Bool) (t:cS) (K:aP->Bool) (ts:List TW) (e:aP) (gs:List IH) (s:jQ):Bool:=cI gs λg=>(g.is_async==0) && (O6 C s t g.target g.iter && (K g.iter &&
 (if h:C.bd+200<=1000000/\s.names.length<=200 then AY (C.sub s.names aB aE h) t g.target && (Bv J (C.sub s.names aB aE h) ts g.ifs && a (C.sub s.names aB aE h) e) else aE)))
inductive MR (J:Ci) (D:Wd) (C:Fc) (ke:Fc->aP->Bool) (t:cS) (ki:aP->Bool) (ts:List TW) (e:aP) (s:jQ):List IH->Prop
 |mk {target iter:Expr} {ifs:List Expr} (hb:C.bd+200<=1000000/\s.names.length<=200):mw C s t target iter->ki iter=true->mx D (C.sub s.names true false hb) target t->oQ D (C.sub s.names true false hb) ifs (ts.map TW.w)->ke (C.sub s.names true false hb) e=true->MR J D C ke t ki ts e s [⟨target,iter,ifs,0⟩]
theorem JQ (H:cF J D) (h:vL J C ke t ki ts e gs s=aB):MR J D C ke t ki ts e s gs:=by
 induction l9 h with
 | @mk v g=>obtain ⟨c,i,f,as⟩:=v;clear h;obtain rfl:as=0:=QHc.mp (aD g).1;have g:=(aD g).2;have w:=QCi (aD g).1;have g:=(aD g).2;have o:=(aD g).2;rw[dif_pos w.hb] at o;exact .mk w.hb w.ok (aD g).1 (Ln (aD o).1) (YB H (aD (aD o).2).1) (aD (aD o).2).2
theorem f_ (H:cF J D) (e: ∀{C y},ke C y=aB->aZ D C y a) (i: ∀{y f},ki y=aB->hZ D C f y it) (h:vW x (vL J C ke t ki ts)=aB):aZ D C x (.comp a t it<|ts.map TW.w):=by
 induction Ot h with
 |mk g=>induction JQ H g with|mk b o s Y Q q=>exact Nh o (i s) Y Q<|e q
end
inductive Ks|no|asg|aug|ex|cA|fF|lg|ret|cont|del
noncomputable def Ks.num:Ks->Nat|.no=>0|.asg=>1|.aug=>2|.ex=>3|.cA=>4|.fF=>5|.lg=>6|.ret=>7|.cont=>8|.del=>9
noncomputable def Ks.of:Nat->Ks|1=>.asg|2=>.aug|3=>.ex|4=>.cA|5=>.fF|6=>.lg|7=>.ret|8=>.cont|9=>.del|_=>.no
theorem Ks.xm (k:Ks):Ks.of k.num=k:=by induction k<;>rfl
theorem Ks.eq {a b:Ks} (h:bt a.num b.num=aB):a=b:=cx a.xm<|cx b.xm<|sb (Nat.eq_of_beq_eq_true h) rfl
structure Ns where
 t:Ks:=.no
 a:Expr:=x0
 b:Expr:=x0
 es:List Expr:=[]
 op:Operator:=.Add
 ss:List Stmt:=[]
 sr:List Stmt:=[]
 oa:Option Expr:=aF
 p:Pos:=default
noncomputable def ns (x:cq):Ns:=x.casesOn (motive_2:=λO=>Ns) (λO O O O O O O O O O=>{}) (λO O O O O O O O O O=>{}) (λO O O O O O O O O O O=>{}) (λoa p=>{t:=.ret,oa,p}) (λes p=>{t:=.del,es,p}) (λes a p=>{t:=.asg,es,a,p}) (λO O O O O O O=>{}) (λa op b p=>{t:=.aug,a,op,b,p}) (λO O O O O=>{}) (λa b ss sr p=>{t:=.fF,a,b,ss,sr,p}) (λO O O O O=>{}) (λa ss sr p=>{t:=.lg,a,ss,sr,p}) (λa ss sr p=>{t:=.cA,a,ss,sr,p}) (λO O O=>{}) (λO O O=>{}) (λO O O=>{}) (λO O O=>{}) (λO O O O O=>{}) (λO O O O O=>{}) (λO O O=>{}) (λO O=>{}) (λO O O O=>{}) (λO O=>{}) (λO O=>{}) (λa p=>{t:=.ex,a,p}) (λO=>{}) (λO=>{}) λp=>{t:=.cont,p}
noncomputable def Ns.mk' (n:Ns):Stmt:=match n.t with
 |.no=>.Pass n.p
 |.asg=>.Assign n.es n.a n.p
 |.aug=>.AugAssign n.a n.op n.b n.p
 |.ex=>.Expr n.a n.p
 |.cA=>.If n.a n.ss n.sr n.p
 |.fF=>.For n.a n.b n.ss n.sr n.p
 |.lg=>.While n.a n.ss n.sr n.p
 |.ret=>.Return n.oa n.p
 |.cont=>.Continue n.p
 |.del=>.Delete n.es n.p
theorem QAW (s:cq):(ns s).t=.no\/s=(ns s).mk':=by cases s<;>first|exact .inr rfl|exact .inl rfl
noncomputable def os (x:cq) (k:Ks) (b:Ns->Bool):Bool:=bt (ns x).t.num k.num && b (ns x)
theorem nM {P:cq->Prop} {k:Ks} (h:os x k b=aB) (K:k≠ .no) (f: ∀n,b n=aB->P (Ns.mk' {n with t:=k})):P x:=by
 refine bI (aD h) λA H=>?_;have e:=Ks.eq A;refine cp (QAW x) (λq=>?_) λq=>?_
 ·exact QHZ (e.symm.trans q) K
 ·erw[q]
  have:=f _ H;rw[<-e] at this;exact this
section
variable {t:T} {it:I} {ss sr:List SW} {ka kb kc:aP->Bool} {i:Nat}
theorem yP {α:Type} {l:List α} (h:l.isEmpty=aB):l=[]:=QG.mp h
theorem lu {Y:S} {k:aP->aP->bP->Bool} (f: ∀t v p,k t v p=aB->bV D C (.Assign [t] v p) Y) (h:os s .asg (λn=>cI n.es λt=>k t n.a n.p)=aB):bV D C s Y:=nM (P:=λs=>bV D C s Y) h nofun λn g=>by generalize n.es=es at g;induction l9 g with|mk g=>exact f _ _ _ g
theorem TV (A: ∀{y},ka y=aB->aZ D C y a) (h:os s .asg (λn=>cI n.es λt=>bS t λx=>cw C x i && (eF n.a && ka n.a))=aB):bV D C s (.asg (.one i) a):=
 lu (k:=λt v O=>bS t λx=>cw C x i && (eF v && ka v)) (λt v p g=>by
  induction dh g with
  |mk r=>exact @λl K=>JT (D:=D) (C:=C) (t:=.one i) (a:=a) (λO=>ry (aD (aD r).2).1 _ _ _) (λO=>rfl) (λO=>rfl) (A (aD (aD r).2).2)<|@λd R U=>GW<|fy (aD r).1) h
noncomputable def zK (x:aP):Bool:=oF x λk=> !bt k.num Kd.no.num && !bt k.num Kd.tup.num
theorem Rw (n:Nd) (h:n.t≠ .tup) (es:List aP) (k:Nat) (p:bP) (env:cg):mT [.Tuple es k p] n.mk' env=pure none:=by unfold Nd.mk';cases e:n.t<;>first|rfl|exact absurd e h
theorem Zr {y:aP} (h:zK y=aB) (es:List aP) (k:Nat) (p:bP) (env:cg):mT [.Tuple es k p] y env=pure none:=by
 unfold zK oF at h;refine cp (y8 y) (λq=>?_) λq=>?_
 ·rw[q] at h
  exact br h
 ·exact sb q<|Rw _ (λe=>by rw[e] at h;exact br h) _ _ _ _
theorem SD (A: ∀{y},ka y=aB->aZ D C y a) (h:os s .asg (λn=>cI n.es λt=>gu t λxs=>jE (λx i=>bS x λn=>cw C n i) xs o && (zK n.a && (eF n.a && ka n.a)))=aB):bV D C s (.asg (.tup o) a):=
 lu (k:=λt v O=>gu t λxs=>jE (λx i=>bS x λn=>cw C n i) xs o && (zK v && (eF v && ka v))) (λt v p g=>by
  induction tY g with
  |mk r=>
   have n:=mr (P:=λxs o=>pS C xs o) .nil (λx xs i o h g=>by induction dh h with|mk H=>exact .cons (fy H) g) (aD r).1;have g:=(aD r).2
   exact @λl K=>JT (D:=D) (C:=C) (t:=.tup o) (a:=a) (λO=>ry (aD (aD g).2).1 _ _ _) (Zr (aD g).1 _ _ _) (λO=>rfl) (A (aD (aD g).2).2)<|@λd R U=>Gj n) h
noncomputable def mf (K:aG->Option dQ) (ts:List aP):List Str:=
 let l:=(ts.head?.map (·.pos.line)).getD 0
 ts.filterMap λx=>swappedStores.match_8 (λO=>Option aG) x (λi p=>if K i==aA .local && p.line==l then aA i else aF) λO=>aF
noncomputable def BM (K:aG->Option dQ) (ts vs:List aP):Bool:= !(!(ts.length==2||ts.length==3)||vs.length !=ts.length) && (!(vs.any λx=>swappedStores.match_5 (λO=>Bool) x (λO O=>aB) λO=>aE) && (!((mf K ts).length !=ts.length||(mf K ts).eraseDups.length !=(mf K ts).length) && (!(vs.all<|foldedForSure 8) && !(vs.all<|constantsAlone 8))))
theorem BB {α:Type} {x y:α} (h:(!c)=aB):(if c then x else y)=y:=by erw[rY h];rfl
theorem QDu {K:aG->Option dQ} {ts vs:List aP} {k b:Nat} (h:BM K ts vs=aB) (A:env.scope.kind=.function) (H: ∀x,env.kindOf x=K x):mT [.Tuple ts k p] (.Tuple vs b P) env=pure (aA<|mf K ts):=by
 have g:=aD h;dsimp only[mT];refine sb (funext H:env.kindOf=K)<|(if_neg ?_).trans<|(BB (aD g.2).1).trans<|(BB (aD (aD g.2).2).1).trans<|(BB (aD (aD (aD g.2).2).2).1).trans<|(BB (aD (aD (aD g.2).2).2).2).trans rfl
 erw[(by dsimp only[Env.blockKind];refine sb A ?_;rfl:env.blockKind=.function)];exact sb (rY g.1)<|nofun
noncomputable def HT (C:Fc):List aG->List Nat->Bool:=jE λx i=>cw C x i
theorem QDg (A: ∀{y},ka y=aB->aZ D C y a) (h:os s .asg (λn=>cI n.es λt=>gu t λxs=>gu n.a λvs=>(BM C.K xs vs && (HT C (mf C.K xs) o && decide o.Nodup)) && (eF n.a && ka n.a))=aB):bV D C s (.asg (.tup o) a):=
 lu (k:=λt v O=>gu t λxs=>gu v λvs=>(BM C.K xs vs && (HT C (mf C.K xs) o && decide o.Nodup)) && (eF v && ka v)) (λt v p g=>by
  induction tY g with
  |mk B=>
   cases tY B with
   |mk f=>
    have z:=aD (aD f).1
    exact @λl r=>QBO (D:=D) (C:=C) (a:=a) (λO=>ry (aD (aD f).2).1 _ _ _) (λenv H m=>QDu z.1 H m) (mr (P:=λxs o=>oK C xs o) .nil (λx xs i o h g=>.cons (fy h) g) (aD z.2).1) (eC (aD z.2).2)<|A (aD (aD f).2).2) h
end
section
variable {J:Ci} {D:Wd} {C:Fc} {s:cq} {x:aP} {a b:E} {t:T} {it:I} {ss sr:List SW} {es:List EW} {ka kb kc:aP->Bool} {i j:Nat}
theorem QCT (H:cF J D) (hb: ∀{y},kb y=aB->aZ D C y b) (h:ye x (λy o z=>decide (o=.Mult) && (og y (ck J C es) && kb z))=aB):qc D C x (.aH .Mult (.list<|es.map EW.w) b):=by
 induction MV h with
 |mk g=>cases eC (aD g).1;induction Bo (aD (aD g).2).1 with|mk t=>exact @λl K=>T6 (gf H t).1<|hb (aD (aD g).2).2
theorem RM (H:cF J D) (A: ∀{y},ka y=aB->aZ D C y a) (h:fk x (λy n p xs q=>(J.hm.lookup 2==aA n) && (fg y p q xs && (ka y && ck J C es xs)))=aB):qc D C x (.jZ 2 a<|es.map EW.w):=by
 induction qG h with
 |mk g=>obtain ⟨f,q⟩:=H.hm _ _<|QHc.mp (aD g).1;have g:=(aD g).2;exact @λl K=>VC (H:=H.H) (HR:=H.R) (D:=D) (C:=C) q (oU (aD g).1) (A (aD (aD g).2).1) (gf H (aD (aD g).2).2).1
theorem US (A: ∀{y},ka y=aB->qc D C y a) (h:os s .asg (λn=>cI n.es λt=>bS t λx=>(C.nw && cw C x i) && (eF n.a && ka n.a))=aB):bV D C s (.own i a):=
 lu (k:=λt v O=>bS t λx=>(C.nw && cw C x i) && (eF v && ka v)) (λt v p g=>by
  induction dh g with
  |mk r=>exact @λl K=>Wj (D:=D) (C:=C) (aD (aD r).1).1 (fy (aD (aD r).1).2) (λO=>ry (aD (aD r).2).1 _ _ _)<|A (aD (aD r).2).2) h
theorem QAM: ∀env,env.scope.kind=.function->(∀x,env.kindOf x=C.K x)->
 jo [.Name nm N] (.ListComp elt gens scope v) l env=pure (C.K nm==aA .local && N.line==v.line && !(scope.names.any λ(n,k)=>n==nm && (k==.local||k==.cell))):=λenv h H=>by
 show pure (env.blockKind==.function && env.kindOf nm==aA .local && N.line==v.line && _)=_;rw[(by unfold Env.blockKind;erw[h];rfl:env.blockKind=.function),H];rfl
theorem Wy (H:cF J D) (F: ∀{C y},ke C y=aB->aZ D C y a) (d: ∀{y f},ki y=aB->hZ D C f y it) (h:os s .asg (λn=>cI n.es λt=>bS t λx=>vW n.a λe gs R=>cw C x i && vL J C ke c ki ts e gs R)=aB):bV D C s (.asg (.one i)<|.comp a c it<|ts.map TW.w):=
 lu (k:=λt v O=>bS t λx=>vW v λe gs R=>cw C x i && vL J C ke c ki ts e gs R) (λt v p g=>by
  induction dh g with
  |mk r=>
   induction Ot r with
   |mk o=>
    induction JQ H (aD o).2 with
    |mk B b Z Y Q q=>exact @λl K=>ZT (D:=D) (C:=C) _ QAM (fy (aD o).1) B b (d Z) Y Q<|F q) h
noncomputable def HE (o:Option dQ):Bool:=decide (o=aA .local)
theorem WN {o} (h:HE o=aB):o=aA .local:=QHg h
theorem QAG (A: ∀{y},ka y=aB->aZ D C y a) (h:os s .aug (λn=>decide (n.op=op) && bS n.a λx=>(cw C x i && HE (C.K x) && (!(x==("__classdict__")) && !(x==("__debug__")))) && ka n.b)=aB):bV D C s (.aug i op a):=
 nM (P:=λs=>bV D C s<|.aug i op a) h nofun λn g=>by
  have e:=eC (aD g).1;have g:=(aD g).2;generalize n.a=t at g;refine (?_);rw[e];induction dh g with
  |mk r=>have o:=aD (aD r).1;exact @λl u=>Xd (D:=D) (C:=C) (fy (aD o.1).1) (WN (aD o.1).2) (rY (aD o.2).1) (rY (aD o.2).2)<|A (aD r).2
theorem BZ {k:aP->Bool} (f: ∀t p,k t=aB->bV D C (.Expr t p) Y) (h:os s .ex (λn=>k n.a)=aB):bV D C s Y:=nM (P:=λs=>bV D C s Y) h nofun λn g=>f _ _ g
theorem LD (n:Nd) (p:bP):z9 n.mk' p .none=pure .next/\ ∀u t,z9 n.mk' p (.str u t)=pure .next:=by unfold Nd.mk';cases n.t<;>exact ⟨rfl,λO O=>rfl⟩
theorem Zf (A: ∀{y},ka y=aB->aZ D C y a) (h:os s .ex (λn=>eF n.a && (dH n.a && ka n.a))=aB):bV D C s (.expr a):=BZ (λv p g=> @λl K=>QCf (λO=>J5 (aD g).1 _ _ _) (by erw[rf (aD (aD g).2).1];exact (LD _ _).1) (by erw[rf (aD (aD g).2).1];exact (LD _ _).2)<|A (aD (aD g).2).2) h
theorem Wu (A: ∀{y},ka y=aB->aZ D C y a) (h:os s .ex (λn=>fk n.a λy n p xs q=>(n==("append")) && (fg y p q xs && ((C.ow && bS y λm=>cv C m i) && cI xs λz=>dH z && ka z)))=aB):bV D C s (.app i a):=
 BZ (k:=λv=>fk v λy n p xs q=>(n==("append")) && (fg y p q xs && ((C.ow && bS y λm=>cv C m i) && cI xs λz=>dH z && ka z))) (λv p g=>by
  induction qG g with
  |mk t=>
   clear g;obtain rfl:=QHc.mp (aD t).1;have o:=aD (aD (aD t).2).2;induction l9 o.2 with
   |mk Z=>
    have m:=oU (nm:=("append")) (aD (aD t).2).1;induction dh (aD o.1).2 with
    |mk Y=>exact @λl K=>Xn (D:=D) (C:=C) (aD o.1).1 (jg Y) m (vD (aD Z).1)<|A (aD Z).2) h
theorem QEN (H:cF J D) (A: ∀{y},ka y=aB->aZ D C y a) (hb: ∀{y},kb y=aB->aZ D C y .fE) (h:os s .ex (λn=>fk n.a λy n p xs q=>(n==("append")) && (fg y p q xs && (kb y && cI xs λz=>dH z && ka z)))=aB):bV D C s (.qk a):=
 BZ (k:=λv=>fk v λy n p xs q=>(n==("append")) && (fg y p q xs && (kb y && cI xs λz=>dH z && ka z))) (λv p g=>by
  induction qG g with
  |mk t=>
   clear g;obtain rfl:=QHc.mp (aD t).1;have o:=aD (aD (aD t).2).2;induction l9 o.2 with
   |mk Z=>exact @λl K=>ZG (H:=H.H) (D:=D) (C:=C) (hb o.1) (oU (aD (aD t).2).1) (vD (aD Z).1)<|A (aD Z).2) h
theorem QCL (h:os s .ex (λn=>fk n.a λy n p xs q=>(n==("reverse")) && (fg y p q xs && ((C.ow && bS y λm=>cv C m i) && xs.isEmpty)))=aB):bV D C s (.qi i):=
 BZ (k:=λv=>fk v λy n p xs q=>(n==("reverse")) && (fg y p q xs && ((C.ow && bS y λm=>cv C m i) && xs.isEmpty))) (λv p g=>by
  induction qG g with
  |mk t=>
   clear g;obtain rfl:=QHc.mp (aD t).1;have o:=aD (aD (aD t).2).2;have m:=oU (nm:=("reverse")) (aD (aD t).2).1;cases yP o.2;induction dh (aD o.1).2 with
   |mk Y=>exact @λl K=>YK (D:=D) (C:=C) (aD o.1).1 (jg Y) m) h
theorem Yr (A: ∀{y},ka y=aB->aZ D C y a) (hb: ∀{y},kb y=aB->aZ D C y b) (h:os s .asg (λn=>cI n.es λt=>iu t λo y=>(C.ow && bS o λm=>cv C m i) && (eF n.a && (ka n.a && kb y)))=aB):bV D C s (.set i b a):=
 lu (k:=λt v O=>iu t λo y=>(C.ow && bS o λm=>cv C m i) && (eF v && (ka v && kb y))) (λt v p g=>by
  induction uF g with
  |mk r=>
   induction dh (aD (aD r).1).2 with
   |mk f=>exact @λl K=>Ut (D:=D) (C:=C) (aD (aD r).1).1 (jg f) (λO=>ry (aD (aD r).2).1 _ _ _) (A (aD (aD (aD r).2).2).1)<|hb (aD (aD (aD r).2).2).2) h
noncomputable def nn (x:Option aP):Bool:=match x with|none=>aB|_=>aE
theorem CN {x:Option aP} (h:nn x=aB):x=none:=by induction x;rfl;exact br h
theorem WA (n:Nd) (x y:aP) (p:bP) (l:Nat) (env:cg):jo [.Subscript x y p] n.mk' l env=pure false:=by unfold Nd.mk';cases n.t<;>rfl
theorem ZU (h:dH v=aB) (x y:aP) (p:bP) (l:Nat) (env:cg):jo [.Subscript x y p] v l env=pure false:=sb (rf h)<|WA _ _ _ _ _ _
theorem G_ (H:cF J D) (A: ∀{y},ka y=aB->aZ D C y a) (hb: ∀{y},kb y=aB->aZ D C y .fE) (h:os s .asg (λn=>cI n.es λt=>iu t λo y=>(wI y λp q r=>nn p && (nn q && nn r)) && (dH n.a && (ka n.a && kb o)))=aB):bV D C s (.pX a):=
 lu (k:=λt v O=>iu t λo y=>(wI y λp q r=>nn p && (nn q && nn r)) && (dH v && (ka v && kb o))) (λt v p g=>by
  induction uF g with
  |mk B=>
   induction KG (aD B).1 with
   |mk f=>
    cases CN (aD f).1
    cases CN (aD (aD f).2).1
    cases CN (aD (aD f).2).2
    exact @λl K=>Yo (H:=H.H) (D:=D) (C:=C) (hb (aD (aD (aD B).2).2).2) (λO=>ZU (aD (aD B).2).1 _ _ _ _ _)<|A (aD (aD (aD B).2).2).1) h
end
section
variable {t:T} {it:I} {ss sr:List SW} {es:List EW} {ka kb kc:aP->Bool} {i j:Nat}
theorem ZX (H:cF J D) (h:os s .asg (λn=>cI n.es λt=>bS t λx=>gI n.a λf xs=>(f==("Headers")) && (cI xs λy=>bS y λm=>cv C m j) && ((C.nw && (C.hn && C.ow)) && (cw C x i && ir C ("Headers"))))=aB):bV D C s (.pj i j):=
 lu (k:=λt v O=>bS t λx=>gI v λf xs=>(f==("Headers")) && (cI xs λy=>bS y λm=>cv C m j) && ((C.nw && (C.hn && C.ow)) && (cw C x i && ir C ("Headers")))) (λt v p g=>by
  induction dh g with
  |mk r=>
   induction qg r with
   |mk o=>
    clear r g;obtain rfl:=QHc.mp (aD (aD o).1).1;induction l9 (aD (aD o).1).2 with
    |mk z=>
     induction dh z with
     |mk Y=>
      have e:=aD (aD o).2
      exact @λl K=>UW (H:=H.H) (D:=D) (C:=C) (aD e.1).1 (aD (aD e.1).2).1 (aD (aD e.1).2).2 (fy (aD e.2).1) (ny (aD e.2).2)<|jg Y) h
theorem QAL (H:cF J D) (h:os s .asg (λn=>cI n.es λt=>bS t λx=>gI n.a λf xs=>(f==("compute_powers")) && (ck J C es xs && (cw C x i && ir C ("compute_powers"))))=aB):bV D C s (.pd i<|es.map EW.w):=
 lu (k:=λt v O=>bS t λx=>gI v λf xs=>(f==("compute_powers")) && (ck J C es xs && (cw C x i && ir C ("compute_powers")))) (λt v p g=>by
  induction dh g with
  |mk r=>
   induction qg r with
   |mk o=>
    clear r g;obtain rfl:=QHc.mp (aD o).1;have z:=aD (aD o).2
    exact @λl K=>Y4 (H:=H.H) (D:=D) (C:=C) (fy (aD z.2).1) (ny (aD z.2).2) (qB (gf H z.1).2) (gf H z.1).1) h
theorem QDH (H:cF J D) (A: ∀{y},ka y=aB->aZ D C y a) (h:os s .del (λn=>cI n.es λt=>iu t λo y=>(bS o λm=>cv C m i) && ka y)=aB):bV D C s (.oh i a):=
 nM (P:=λs=>bV D C s<|.oh i a) h nofun λn g=>by
  generalize n.es=es at g;refine (?_);induction l9 g with
  |mk r=>
   induction uF r with
   |mk f=>
    induction dh (aD f).1 with
    |mk z=>exact @λl K=>QEO (H:=H.H) (D:=D) (C:=C) (jg z)<|A (aD f).2
theorem Z3 {K:aP->Bool} (H:cF J D) (Z: ∀{y},K y=aB->eQ D C y t) (h:os s .cA (λn=>K n.a && (j7 J C ss n.ss && j7 J C sr n.sr))=aB):bV D C s (.cA t (ss.map SW.w)<|sr.map SW.w):=nM (P:=λs=>bV D C s _) h nofun λn g=> @λl p=>O_ (D:=D) (C:=C) (Z (aD g).1) (ll H (aD (aD g).2).1)<|ll H (aD (aD g).2).2
theorem QCa {q:aP->Bool} {t:cS} (H:cF J D) (i: ∀{y f},q y=aB->hZ D C f y it) (h:os s .fF (λn=>(n.sr.isEmpty && dH n.b) && (q n.b && (AY C t n.a && j7 J C ss n.ss)))=aB):bV D C s (.fF t it<|ss.map SW.w):=nM (P:=λs=>bV D C s _) h nofun λn g=>by have e:=yP (aD (aD g).1).1;rw[e];exact @λl K=>RQ (D:=D) (C:=C) (Ko (aD (aD g).1).2) (i (aD (aD g).2).1) (@λd r R=>Ln (aD (aD (aD g).2).2).1)<|ll H (aD (aD (aD g).2).2).2
theorem XH {K:aP->Bool} (H:cF J D) (Z: ∀{y},K y=aB->eQ D C y t) (h:os s .lg (λn=>n.sr.isEmpty && (K n.a && j7 J C ss n.ss))=aB):bV D C s (.oR t<|ss.map SW.w):=nM (P:=λs=>bV D C s _) h nofun λn g=>by have e:=yP (aD g).1;refine (?_);rw[e];exact @λl r=>QCw (D:=D) (C:=C) (Z (aD (aD g).2).1)<|ll H (aD (aD g).2).2
theorem Tb (h:os s .ret (λn=>nn n.oa)=aB):bV D C s (.ret aF):=nM (P:=λs=>bV D C s _) h nofun λn g=>by refine (?_);rw[CN g];exact @λl K=>QDN (D:=D) (C:=C)
theorem QBL (A: ∀{y},ka y=aB->aZ D C y a) (h:os s .ret (λn=>n.oa.any ka)=aB):bV D C s (.ret<|aA a):=nM (P:=λs=>bV D C s _) h nofun λn g=>by refine (?_);obtain ⟨y,e,g⟩:=QAZ g;rw[e];exact @λl K=>Ki (D:=D) (C:=C)<|A g
theorem Zv (h:os s .cont (λO=>aB)=aB):bV D C s .cont:=nM (P:=λs=>bV D C s _) h nofun λn g=> @λl K=>QDy (D:=D) (C:=C)
theorem Th (H:cF J D) (h:os s .fF (λn=>n.sr.isEmpty && fk n.b λy m p xs q=>(m==("items")) && (fg y p q xs && (xs.isEmpty && bS y λm=>cv C m i)))=aB):bV D C s (.qN i):=
 nM (P:=λs=>bV D C s _) h nofun λn g=>by
  have e:=yP (aD g).1;have g:=(aD g).2;generalize n.b=b at g;refine (?_);rw[e];induction qG g with
  |mk t=>
   clear h g e;obtain rfl:=QHc.mp (aD t).1;have o:=aD (aD t).2;have m:=oU (nm:=("items")) o.1;cases yP (aD o.2).1;induction dh (aD o.2).2 with
   |mk z=>exact @λl K=>XO (H:=H.H) (D:=D) (C:=C) (jg z) m
noncomputable def Nu (C:Fc) (b:Bool) (ka:aP->Bool) (f:aP) (xs:List aP) (ks:List wu) (q:bP):Bool:=tq f λy n p=>(n==("_convert_string_type" :aG)) && ((bS y λm=>cv C m 0) && ((p.endLine==q.line) && ((cI xs λz=>dH z && ka z) && cI ks λk=>(k.arg==aA ("name" :aG)) && ja k.value λc=>decide (c=.bool b))))
theorem Ri (H:cF J D) (s: ∀{y},ka y=aB->aZ D C y a) (h:yK x (Nu C b ka)=aB):aZ D C x (.conv b a):=by
 induction EF h with
 | @mk f xs ks q g=>
  induction Df g with
  | @mk y n p t=>
   clear g h;obtain rfl:=QHc.mp (aD t).1;have g2:=aD (aD t).2;have g3:=aD (aD g2.2).2;have e:=(aD g2.2).1;induction dh g2.1 with
   |mk W=>
    induction l9 g3.1 with
    |mk r=>
     induction l9 g3.2 with
     | @mk k A=>
      obtain ⟨j,L,Z⟩:=k;clear g3 t g2;obtain rfl:j=aA _:=QHc.mp (aD A).1;have U:ja L (λc=>decide (c=.bool b))=true:=(aD A).2;induction tO U with
      |mk Y=>
       cases eC Y
       exact @λl K=>YS (H:=H.H) (D:=D) (C:=C) (jg W) ⟨λO=>rfl,λenv=>by simp only[vD (aD r).1];rfl,e⟩ (vD (aD r).1)<|s (aD r).2
theorem Ya (H:cF J D) (h:(λx=>tq x λu n O=>(n==("_headers")) && bS u λn=>cv C n 0) x=aB):hZ D C f x .fE:= @λl K=>QAH (H:=H.H) (D:=D) (C:=C)<|ON H h
end
noncomputable def Fp (op:kg):List XE->XE
 |[],_,_,_,_=>True
 |e::es,o,s,l,k=>match es with
  |[]=>e o s l k
  |_::_=>e o s l λv l s=>EJ l v s λb s=>FT op b s (λs=>k v l s) λs=>Fp op es o s l k
theorem Yu (h:fb es xs):bC (E.fx op es) (Fp op xs):=by
 induction h with
 |nil=>exact ⟨λO O=>trivial⟩
 | @cons w ws x xs a h i=>induction h with
  |nil=>exact ⟨λq f=>a.r q f⟩
  |cons b h=>exact ⟨λq f=>a.r q λO O O q=>LU q λO O q=>MU q (λO q=>f _ _ _ q) λO q=>i.r q f⟩
theorem RZ {J:Ci} {D:Wd} (H:cF J D): ∀{xs:List aP},ck J C es xs=aB->xs≠[]->yA D C o xs (es.map EW.w):=by
 induction es with
 |nil=>exact λ{xs} h n=>by cases xs;exact QHZ rfl n;exact br h
 |cons e es i=>
  exact λ{xs} h n=>by
   cases xs with
   |nil=>exact QHZ rfl n
   |cons x xs=>
    have a:= @EW.snd e J D C x H (aD (aD h).1).2;clear n;cases es with
    |nil=>cases xs with
     |nil=>exact @λp l K=>QBP a
     |cons y Y=>cases (aD h).2
    |cons u es=>cases xs with
     |nil=>cases (aD h).2
     |cons y Y=>exact @λp l K=>ZM a<|i (aD h).2 nofun
theorem Se {J:Ci} {D:Wd} (H:cF J D) (h:x4 x (λp xs=>decide (p=o) && (ck J C es xs && !xs.isEmpty))=aB):aZ D C x (.fx o<|es.map EW.w):=by
 induction KD h with
 |mk g=>
  cases eC (aD g).1
  have t:=(aD g).2;exact @λl K=>UD (RZ H (aD t).1 λe=>by rw[e] at t;exact br<|(aD t).2)
namespace EW
noncomputable def none:EW:=⟨.none,X.ret<|.d .none,yN,λO O x=>ja x λc=>decide (c=.none),λO h=>BW Rr h⟩
noncomputable def bool (b:Bool):EW:=⟨.bool b,X.ret<|.d<|.bool b,yN,λO O x=>ja x λc=>decide (c=.bool b),λO h=>BW TB h⟩
noncomputable def int (i:Int):EW:=⟨.int i,X.ret<|.d<|.int i,yN,λO O x=>ja x λc=>decide (c=.int i),λO h=>BW QAw h⟩
noncomputable def str (s:aG):EW:=⟨.str s,X.ret<|.d<|.str s,yN,λO O x=>ja x λc=>decide (c=.str s),λO h=>BW My h⟩
noncomputable def aC (i:Nat):EW:=⟨.aC i,X.aC i,U5,λO C x=>bS x λn=>cv C n i,λO h=>YZ h⟩
noncomputable def qa (i:Nat):EW:=⟨.qa i,X.qa i,QDG,λO C x=>C.ow && bS x λn=>cv C n i,λO h=>YE h⟩
noncomputable def aH (op:iG) (a b:EW):EW:=⟨.aH op a.w b.w,X.aH op a.x b.x,I7 a.ok b.ok,λJ C x=>ye x λy o z=>decide (o=op) && (a.bU J C y && b.bU J C z),λH h=>TH (a.snd H) (b.snd H) h⟩
noncomputable def neg (a:EW):EW:=⟨.neg a.w,X.neg a.x,Rb a.ok,λJ C x=>vH x λp y=>decide (p=.USub) && a.bU J C y,λH h=>Lx Vc (a.snd H) h⟩
noncomputable def inv (a:EW):EW:=⟨.inv a.w,X.inv a.x,QDa a.ok,λJ C x=>vH x λp y=>decide (p=.Invert) && a.bU J C y,λH h=>Lx Vw (a.snd H) h⟩
noncomputable def cmp (op:fV) (a b:EW):EW:=⟨.cmp op a.w b.w,X.ofT<|X.CO op a.x b.x,ZQ a.ok b.ok,λJ C x=>kx x op λy z=> !sN op z && (a.bU J C y && b.bU J C z),λH h=>(JG (a.snd H) (b.snd H) h).1⟩
noncomputable def fx (op:kg) (es:List EW):EW:=⟨.fx op<|es.map EW.w,Fp op<|es.map EW.x,Yu<|jt es,λJ C x=>x4 x λp xs=>decide (p=op) && (ck J C es xs && !xs.isEmpty),λH h=>Se H h⟩
noncomputable def ite (c:TW) (a b:EW):EW:=⟨.ite c.w a.w b.w,X.ite c.x a.x b.x,Xf c.ok a.ok b.ok,λJ C x=>Fm x λz y w=>c.bU J C z && (a.bU J C y && b.bU J C w),λH h=>QDM (c.snd H) (a.snd H) (b.snd H) h⟩
noncomputable def list (es:List EW):EW:=⟨.list<|es.map EW.w,X.list<|es.map EW.x,DX<|jt es,λJ C x=>og x<|ck J C es,λH h=>(OQ H h).1⟩
noncomputable def tup (es:List EW):EW:=⟨.tup<|es.map EW.w,X.tup<|es.map EW.x,XG<|jt es,λJ C x=>gu x<|ck J C es,λH h=>QDY H h⟩
noncomputable def comp (e:EW) (t:cS) (it:IW) (cs:List TW):EW:=⟨.comp e.w t it.w<|cs.map TW.w,X.comp e.w t it.x<|cs.map TW.w,OW it.ok,λJ C x=>vW x<|vL J C (e.bU J) t (it.bU J C) cs,λH h=>f_ H (e.snd H) (it.snd H) h⟩
noncomputable def au (a b:EW):EW:=⟨.au a.w b.w,X.au a.x b.x,QDE a.ok b.ok,λJ C x=>iu x λy z=>xy z && (a.bU J C y && b.bU J C z),λH h=>UU (a.snd H) (b.snd H) h⟩
noncomputable def px (e:Option EW):XE:=match e with|some e=>e.x|.none=>X.ret<|.d .none
theorem FJ (e:Option EW):bC (pw e) (px e):=by cases e;exact yN;exact EW.ok _
noncomputable def dJ (a:EW) (l i st:Option EW):EW:=⟨.dJ a.w (pw l) (pw i)<|pw st,X.dJ a.x (px l) (px i)<|px st,Zm a.ok (FJ l) (FJ i)<|FJ st,λJ C x=>iu x λy z=>wI z λp q r=>a.bU J C y && (tS J C l p && (tS J C i q && tS J C st r)),λH h=>Vt H (a.snd H) h⟩
noncomputable def call (f:Nat) (es:List EW):EW:=⟨.call f<|es.map EW.w,X.call f<|es.map EW.x,R7<|jt es,λJ C x=>gI x λn xs=>(J.fns.lookup f==some n) && (ir C n && ck J C es xs),λH h=>Sa H h⟩
noncomputable def i9 (f i:Nat) (es:List EW):EW:=⟨.i9 f i<|es.map EW.w,X.i9 f i<|es.map EW.x,XQ<|jt es,λJ C x=>gI x λn xs=>J.cN f C && (cv C n i && ck J C es xs),λH h=>RY H h⟩
noncomputable def bi (b:Bi) (es:List EW):EW:=⟨.bi b<|es.map EW.w,X.bi b<|es.map EW.x,xBi<|jt es,λJ C x=>gI x λn xs=>(n==yn b) && (eP C n && ck J C es xs),λH h=>T5 H h⟩
noncomputable def sm (m:Sm) (a:EW) (es:List EW):EW:=⟨.sm m a.w<|es.map EW.w,X.sm m a.x<|es.map EW.x,xSm a.ok<|jt es,λJ C x=>fk x λy n p xs q=>(n==CY m) && (fg y p q xs && (a.bU J C y && ck J C es xs)),λH h=>W4 H (a.snd H) h⟩
noncomputable def qU (a:EW) (y z:aG):EW:=⟨.qU a.w y z,X.qU a.x y z,Ry a.ok,λJ C x=>fk x λu n p xs q=>(n==("replace" :aG)) && (fg u p q xs && (!(y==z) && (a.bU J C u && yw (λs r=>(ja s λc=>decide (c=.str y)) && (ja r λc=>decide (c=.str z))) xs))),λH h=>QEH (a.snd H) h⟩
noncomputable def iM (n:Bool) (a:EW):EW:=⟨.iM n a.w,X.ofT<|X.iM n a.x,Yd a.ok,λJ C x=>kx x (if n then .IsNot else .Is) λy z=>isNone z && a.bU J C y,λH h=>(O1 (a.snd H) h).1⟩
noncomputable def pT (a:EW):EW:=⟨.pT a.w,X.pT a.x,QCk a.ok,λJ C x=>kx x .In λy z=>(bS z λn=>(n==("b1_set" :aG)) && ir C n) && a.bU J C y,λH h=>QDQ H (a.snd H) h⟩
noncomputable def qF (a:EW):EW:=⟨.qF a.w,X.qF a.x,Ug a.ok,λJ C x=>fk x λu n p xs q=>(bS u λn=>(n==("b3_exceptions" :aG)) && ir C n) && ((n==("get" :aG)) && (fg u p q xs && cI xs λy=>dH y && a.bU J C y)),λH h=>Yq H (a.snd H) h⟩
noncomputable def qY (s:aG):EW:=⟨.qY s,X.qY s,YJ,λO C x=>bS x λn=>(n==s) && ir C n,λH h=>R2 H h⟩
noncomputable def j4 (k:Nat) (a:EW) (es:List EW):EW:=⟨.j4 k a.w<|es.map EW.w,X.j4 k a.x<|es.map EW.x,Jg a.ok<|jt es,λJ C x=>fk x λy n p xs q=>(J.hm.lookup k==some n) && (cP k 20 && (fg y p q xs && (a.bU J C y && ck J C es xs))),λH h=>(NG H (a.snd H) h).1⟩
noncomputable def QGr (k:Nat) (a:EW) (es:List EW):EW:=⟨.j4 k a.w<|es.map EW.w,X.j4 k a.x<|es.map EW.x,Jg a.ok<|jt es,λJ C x=>gI x λn xs=>(J.hm.lookup k==some n) && (eX 20 k && (ir C n && match xs with|y::xs=>dH y && (a.bU J C y && ck J C es xs)|[]=>aE)),λH h=>Vj H (a.snd H) h⟩
noncomputable def jZ (k:Nat) (a:EW) (es:List EW):EW:=⟨.jZ k a.w<|es.map EW.w,X.jZ k a.x<|es.map EW.x,L2 a.ok<|jt es,λJ C x=>fk x λy n p xs q=>(J.hm.lookup k==some n) && (cP k 20 && (fg y p q xs && (a.bU J C y && ck J C es xs))),λH h=>(NG H (a.snd H) h).2⟩
noncomputable def conv (b:Bool) (a:EW):EW:=⟨.conv b a.w,X.conv b a.x,Vy a.ok,λJ C x=>yK x<|Nu C b<|a.bU J C,λH h=>Ri H (a.snd H) h⟩
noncomputable def fE:EW:=⟨.fE,X.fE,VI,λO C x=>tq x λu n O=>(n==("_headers" :aG)) && bS u λn=>cv C n 0,λH h=>ON H h⟩
end EW
namespace TW
noncomputable def not (t:TW):TW:=⟨.not t.w,X.not t.x,Un t.ok,λJ C x=>vH x λp y=>decide (p=.Not) && t.bU J C y,λH h=>QDT (t.snd H) h⟩
noncomputable def fx (op:kg) (ts:List TW):TW:=⟨.fx op<|ts.map TW.w,bX op<|ts.map TW.x,Uq<|JS ts,λJ C x=>x4 x λp es=>decide (p=op) && Bv J C ts es,λH h=>R4 H h⟩
noncomputable def aC (i:Nat):TW:=⟨.aC i,X.MB i,QCV,λO C x=>bS x λn=>cv C n i,λO h=>Xl h⟩
noncomputable def cmp (op:fV) (a b:EW):TW:=⟨.cmp op a.w b.w,X.CO op a.x b.x,QBu a.ok b.ok,λJ C x=>kx x op λy z=> !sN op z && (a.bU J C y && b.bU J C z),λH h=>(JG (a.snd H) (b.snd H) h).2⟩
noncomputable def iM (n:Bool) (a:EW):TW:=⟨.iM n a.w,X.iM n a.x,QCb a.ok,λJ C x=>kx x (if n then .IsNot else .Is) λy z=>isNone z && a.bU J C y,λH h=>(O1 (a.snd H) h).2⟩
noncomputable def eP (n b:Bool) (a:EW):TW:=⟨.eP n b a.w,X.eP n b a.x,WZ a.ok,λJ C x=>kx x (if n then .IsNot else .Is) λy z=>(ja z λc=>decide (c=.bool b)) && a.bU J C y,λH h=>RH (a.snd H) h⟩
end TW
namespace NW
noncomputable def list (es:List EW):NW:=⟨.list<|es.map EW.w,X.list<|es.map EW.x,DX<|jt es,λJ C x=>og x<|ck J C es,λH h=>(OQ H h).2⟩
noncomputable def mul (es:List EW) (b:EW):NW:=⟨.aH .Mult (.list<|es.map EW.w) b.w,X.aH .Mult (X.list<|es.map EW.x) b.x,I7 (DX<|jt es) b.ok,λJ C x=>ye x λy o z=>decide (o=.Mult) && (og y (ck J C es) && b.bU J C z),λH h=>QCT H (b.snd H) h⟩
noncomputable def items (a:EW) (es:List EW):NW:=⟨.jZ 2 a.w<|es.map EW.w,X.jZ 2 a.x<|es.map EW.x,L2 a.ok<|jt es,λJ C x=>fk x λy n p xs q=>(J.hm.lookup 2==some n) && (fg y p q xs && (a.bU J C y && ck J C es xs)),λH h=>RM H (a.snd H) h⟩
end NW
namespace IW
noncomputable def aC (i:Nat):IW:=⟨.aC i,X.GY i,Ww,λO C x=>bS x λn=>cv C n i,λO h=>QBq h⟩
noncomputable def jA (a:EW):IW:=⟨.jA a.w,X.jA a.x,QDC a.ok,λJ C x=>gI x λn xs=>(n==("range" :aG)) && (eP C n && ck J C [a] xs),λH h=>(Kr H h).1 _ _ rfl⟩
noncomputable def rK (a b:EW):IW:=⟨.rK a.w b.w,X.rK a.x b.x,S_ a.ok b.ok,λJ C x=>gI x λn xs=>(n==("range" :aG)) && (eP C n && ck J C [a,b] xs),λH h=>(Kr H h).2 _ _ _ rfl⟩
noncomputable def rev (a:EW):IW:=⟨.rev a.w,X.rev a.x,WU a.ok,λJ C x=>gI x λn xs=>(n==("reversed" :aG)) && (eP C n && ck J C [a] xs),λH h=>Rf H h⟩
noncomputable def jb (a:EW):IW:=⟨.jb a.w,X.jb a.x,Y6 a.ok,a.bU,λH h=>U9<|a.snd H h⟩
noncomputable def fE:IW:=⟨.fE,X.OA,QDX,λO C x=>tq x λu n O=>(n==("_headers" :aG)) && bS u λn=>cv C n 0,λH h=>Ya H h⟩
end IW
open EW renaming call->RB
theorem Zo {J:Ci} {D:Wd} {ka:aP->Bool} (H:cF J D) (A: ∀{y},ka y=aB->aZ D C y a) (h:kx x .IsNot (λy z=>(gI y λn xs=>(n==("type")) && (eP C n && cI xs λu=>dH u && ka u)) && (bS z λn=>(n==("int")) && eP C n))=aB):eQ D C x (.yq a):=by
 induction yH h with
 |mk g=>
  induction qg (aD g).1 with
  |mk t=>
   clear h;obtain rfl:=QHc.mp (aD t).1;induction l9 (aD (aD t).2).2 with
   | @mk u o=>
    induction dh (aD g).2 with
    |mk Z=>clear g;obtain rfl:=QHc.mp (aD Z).1;exact @λl K=>ZO (H:=H.H) (D:=D) (C:=C) (wF (aD (aD t).2).1) (wF (aD Z).2) (qB<|f7.mpr ⟨(aD o).1,rfl⟩) (vD (aD o).1)<|A (aD o).2
noncomputable def TW.yq (a:EW):TW:=⟨.yq a.w,X.LZ a.x,UJ a.ok,λJ C x=>kx x .IsNot λy z=>(gI y λn xs=>(n==("type" :aG)) && (Mine.eP C n && cI xs λu=>dH u && a.bU J C u)) && (bS z λn=>(n==("int" :aG)) && Mine.eP C n),λH h=>Zo H (a.snd H) h⟩
namespace SW
noncomputable def one (i:Nat) (a:EW):SW:=⟨.asg (.one i) a.w,X.asg (.one i) a.x,zG a.ok,λJ C s=>os s .asg λn=>cI n.es λt=>bS t λx=>cw C x i && (eF n.a && a.bU J C n.a),λH h=>TV (a.snd H) h⟩
noncomputable def tup (is:List Nat) (a:EW):SW:=⟨.asg (.tup is) a.w,X.asg (.tup is) a.x,zG a.ok,λJ C s=>os s .asg λn=>cI n.es λt=>gu t λxs=>jE (λx i=>bS x λn=>cw C n i) xs is && (zK n.a && (eF n.a && a.bU J C n.a)),λH h=>SD (a.snd H) h⟩
noncomputable def Ad (is:List Nat) (a:EW):SW:=⟨.asg (.tup is) a.w,X.asg (.tup is) a.x,zG a.ok,λJ C s=>os s .asg λn=>cI n.es λt=>gu t λxs=>gu n.a λvs=>(BM C.K xs vs && (HT C (mf C.K xs) is && decide is.Nodup)) && (eF n.a && a.bU J C n.a),λH h=>QDg (a.snd H) h⟩
noncomputable def cmp (i:Nat) (e:EW) (t:cS) (it:IW) (cs:List TW):SW:=⟨.asg (.one i)<|.comp e.w t it.w<|cs.map TW.w,X.asg (.one i)<|X.comp e.w t it.x<|cs.map TW.w,zG<|OW it.ok,λJ C s=>os s .asg λn=>cI n.es λu=>bS u λx=>vW n.a λf gs R=>cw C x i && vL J C (e.bU J) t (it.bU J C) cs f gs R,λH h=>Wy H (e.snd H) (it.snd H) h⟩
noncomputable def own (i:Nat) (a:NW):SW:=⟨.own i a.w,X.own i a.x,Wa a.ok,λJ C s=>os s .asg λn=>cI n.es λt=>bS t λx=>(C.nw && cw C x i) && (eF n.a && a.bU J C n.a),λH h=>US (a.snd H) h⟩
noncomputable def aug (i:Nat) (op:iG) (a:EW):SW:=⟨.aug i op a.w,X.aug i op a.x,S4 a.ok,λJ C s=>os s .aug λn=>decide (n.op=op) && bS n.a λx=>(cw C x i && HE (C.K x) && (!(x==("__classdict__" :aG)) && !(x==("__debug__" :aG)))) && a.bU J C n.b,λH h=>QAG (a.snd H) h⟩
noncomputable def expr (a:EW):SW:=⟨.expr a.w,X.expr a.x,QBG a.ok,λJ C s=>os s .ex λn=>eF n.a && (dH n.a && a.bU J C n.a),λH h=>Zf (a.snd H) h⟩
noncomputable def app (i:Nat) (a:EW):SW:=⟨.app i a.w,X.app i a.x,Us a.ok,λJ C s=>os s .ex λn=>fk n.a λy n p xs q=>(n==("append" :aG)) && (fg y p q xs && ((C.ow && bS y λm=>cv C m i) && cI xs λz=>dH z && a.bU J C z)),λH h=>Wu (a.snd H) h⟩
noncomputable def qk (a:EW):SW:=⟨.qk a.w,X.qk a.x,R9 a.ok,λJ C s=>os s .ex λn=>fk n.a λy n p xs q=>(n==("append" :aG)) && (fg y p q xs && (EW.fE.bU J C y && cI xs λz=>dH z && a.bU J C z)),λH h=>QEN H (a.snd H) (EW.fE.snd H) h⟩
noncomputable def pX (a:EW):SW:=⟨.pX a.w,X.pX a.x,Xo a.ok,λJ C s=>os s .asg λn=>cI n.es λt=>iu t λo y=>(wI y λp q r=>nn p && (nn q && nn r)) && (dH n.a && (a.bU J C n.a && EW.fE.bU J C o)),λH h=>G_ H (a.snd H) (EW.fE.snd H) h⟩
noncomputable def qi (i:Nat):SW:=⟨.qi i,X.qi i,RT,λJ C s=>os s .ex λn=>fk n.a λy n p xs q=>(n==("reverse" :aG)) && (fg y p q xs && ((C.ow && bS y λm=>cv C m i) && xs.isEmpty)),λH h=>QCL h⟩
noncomputable def set (i:Nat) (b a:EW):SW:=⟨.set i b.w a.w,X.set i b.x a.x,QCm b.ok a.ok,λJ C s=>os s .asg λn=>cI n.es λt=>iu t λo y=>(C.ow && bS o λm=>cv C m i) && (eF n.a && (a.bU J C n.a && b.bU J C y)),λH h=>Yr (a.snd H) (b.snd H) h⟩
noncomputable def pj (i j:Nat):SW:=⟨.pj i j,X.pj i j,WD,λJ C s=>os s .asg λn=>cI n.es λt=>bS t λx=>gI n.a λf xs=>(f==("Headers" :aG)) && (cI xs λy=>bS y λm=>cv C m j) && ((C.nw && (C.hn && C.ow)) && (cw C x i && ir C ("Headers" :aG))),λH h=>ZX H h⟩
noncomputable def oh (i:Nat) (a:EW):SW:=⟨.oh i a.w,X.oh i a.x,RI a.ok,λJ C s=>os s .del λn=>cI n.es λt=>iu t λo y=>(bS o λm=>cv C m i) && a.bU J C y,λH h=>QDH H (a.snd H) h⟩
noncomputable def cA (c:TW) (ss sr:List SW):SW:=⟨.cA c.w (ss.map SW.w)<|sr.map SW.w,X.cA c.x (ss.map SW.x)<|sr.map SW.x,Rk c.ok (oT ss)<|oT sr,λJ C s=>os s .cA λn=>c.bU J C n.a && (j7 J C ss n.ss && j7 J C sr n.sr),λH h=>Z3 H (c.snd H) h⟩
noncomputable def fF (t:cS) (it:IW) (ss:List SW):SW:=⟨.fF t it.w<|ss.map SW.w,X.fF t it.x<|ss.map SW.w,U6 it.ok,λJ C s=>os s .fF λn=>(n.sr.isEmpty && dH n.b) && (it.bU J C n.b && (AY C t n.a && j7 J C ss n.ss)),λH h=>QCa H (it.snd H) h⟩
noncomputable def oR (c:TW) (ss:List SW):SW:=⟨.oR c.w<|ss.map SW.w,X.oR c.w<|ss.map SW.w,TP,λJ C s=>os s .lg λn=>n.sr.isEmpty && (c.bU J C n.a && j7 J C ss n.ss),λH h=>XH H (c.snd H) h⟩
noncomputable def ret (a:EW):SW:=⟨.ret<|some a.w,X.Ou a.x,UR a.ok,λJ C s=>os s .ret λn=>n.oa.any<|a.bU J C,λH h=>QBL (a.snd H) h⟩
noncomputable def BP:SW:=⟨.ret none,X.BP,YV,λJ C s=>os s .ret λn=>nn n.oa,λH h=>Tb h⟩
noncomputable def cont:SW:=⟨.cont,X.cont,YQ,λJ C s=>os s .cont λO=>aB,λH h=>Zv h⟩
noncomputable def defn (i f:Nat):SW:=⟨.defn i f,X.defn i f,UI,λJ C s=>J.vI f i C s,λH h=>H.vI _ _ _ _ h⟩
noncomputable def pd (i:Nat) (es:List EW):SW:=⟨.pd i<|es.map EW.w,X.pd i<|es.map EW.x,QDV<|jt es,λJ C s=>os s .asg λn=>cI n.es λt=>bS t λx=>gI n.a λf xs=>(f==("compute_powers" :aG)) && (ck J C es xs && (cw C x i && ir C ("compute_powers" :aG))),λH h=>QAL H h⟩
noncomputable def qN (i:Nat):SW:=⟨.qN i,X.qN i,SP,λJ C s=>os s .fF λn=>n.sr.isEmpty && fk n.b λy m p xs q=>(m==("items" :aG)) && (fg y p q xs && (xs.isEmpty && bS y λm=>cv C m i)),λH h=>Th H h⟩
noncomputable def stuck:SW:=⟨.stuck,X.stuck,Tn,λO O O=>aB,λO O=> @λO O h=>h.elim⟩
end SW
theorem QGz (b:List SW) (hs:Hs) (l:Ls) (K:Fl->Ls->Prop):kA l λL=>sX (b.map SW.x) o hs L λv L O=>K v L->sW (b.map SW.w) o l K:=lq<|(oA<|oT b).r id λO O O q=>q
noncomputable def T.uL (p q:fV) (a b c:E):T:=λo l K=>a o l λu l=>b o l λv l=>vO l p u v λz=>two z (c o l λw l=>vO l q v w λz=>K z l)<|K aE l
theorem SQ {o p} (hm:QH [o,p] [y,w]=aE) (A:aZ D C x a) (B:aZ D C y b) (W:aZ D C w c):eQ D C (.Compare x [o,p] [y,w] pos) (.uL o p a b c):= @λO O h=>⟨λK k=>isTrue_chain ((A h).run K λO O h O z R s q=>test_link ((B h).run R λO O h O Z P s2 q2=>by
 induction As h with
 |mk e h=>
  refine wpAny_toks<|BA e P (q.mon s2) q2 λtk l=>ou ?_;have s3:=Sx.kl P (.refl _ _) l;rcases h with ⟨rfl,h⟩|⟨rfl,h⟩
  ·exact test_last ((W h).run (P.kl (.refl _ _) l) λO O h O Y N s4 q4=>by
    induction As h with|mk e h=>exact wpAny_toks<|BA e N ((q2.mon s3).mon s4) q4 λtk l=>ou<|((k _ _ h).tr<|((s.trans s2).trans s3).trans s4).same N l)
  ·exact ((k _ _ h).tr<|s.trans s2).same P l)) hm⟩
noncomputable def X.Oy (p q:fV) (a b c:XE):XT:=λo s l k=>a o s l λu l s=>b o s l λv l s=>Ac l p u v s λz s=>uD z s (λs=>c o s l λw l s=>Ac l q v w s λz s=>k z l s) λs=>k aE l s
theorem QBd {p q} (s:bC a A) (r:bC b B) (t:bC c C):bC (T.uL p q a b c) (X.Oy p q A B C):=⟨λh f=>s.r h λO O O h=>r.r h λO O O h=>Ap h λO O h=>vN h (λO h=>t.r h λO O O h=>Ap h λO O h=>f _ _ _ h) λO h=>f _ _ _ h⟩
theorem QBB {o p:fV} {ka kb kc:aP->Bool} (A: ∀{y},ka y=aB->aZ D C y a) (B: ∀{y},kb y=aB->aZ D C y b) (W: ∀{y},kc y=aB->aZ D C y c) (h:Bt x (λy os zs=>decide (os=[o,p]) && yw (λz w=> !QH [o,p] [z,w] && (ka y && (kb z && kc w))) zs)=aB):eQ D C x (.uL o p a b c):=by
 induction OO h with
 |mk g=>
  cases eC (aD g).1
  refine @cQ _ _ _ _ _ (OI (aD g).2) λs r e q=>?_;subst e;have t:=(aD (aD q).2).2;exact @λO O=>SQ (rY (aD q).1) (A (aD (aD q).2).1) (B (aD t).1)<|W (aD t).2
noncomputable def TW.uL (o p:fV) (a b c:EW):TW:=⟨.uL o p a.w b.w c.w,X.Oy o p a.x b.x c.x,QBd a.ok b.ok c.ok,λJ C x=>Bt x λy os zs=>decide (os=[o,p]) && yw (λz w=> !QH [o,p] [z,w] && (a.bU J C y && (b.bU J C z && c.bU J C w))) zs,λH h=>QBB (a.snd H) (b.snd H) (c.snd H) h⟩
noncomputable def vt:Sl->Option Nat|.dz n=>aA n|_=>aF
theorem KC {i} (h:vt v=aA i):v=.dz i:=by cases v<;>cases h;rfl
noncomputable def E.gY (i k:Nat):E:=λo l K=>h8 (vt<|aL l i) (λn=>(cP k n && eX k 100)=aB/\K (.bor<|cR i k) l) False
theorem OU {o:bj} {K:V->Ls->Prop} (h:E.gY i k o l K): ∃n,aL l i=.dz n/\(k<n/\k<=100)/\K (.bor<|cR i k) l:=(nH h).elim (λq=>q.elim λn q=>⟨n,KC q.1,⟨bJ (aD q.2.1).1,bJ (aD q.2.1).2⟩,q.2.2⟩) mG
theorem ZZ (s: ∀o i,wg (.Constant (.int (k:Nat)) kk p) aE o i=wh [o,i] (wi o i)) (ok:iD C nm i):aZ D C (.Subscript (.Name nm q) (.Constant (.int (k:Nat)) kk p) pos) (.gY i k):= @λO O h=>⟨λ{X z Q Er} K c=>by
 refine cy (OU h) λn e l h=>Pm<|uO K ok λv q=>?_;rw[e] at q;refine iN q λa m u e1 na z1=>⟨.ref a,u,wpAny_toks<|QEg λL=>wpAny_toks ?_⟩;refine aV (mQ.mp<|z1 k l.1) λb eb=>?_;have hg:((bg n).map λk=>wY<|(z.φ<|cR i k).getD 0).toArray[bN (k:Int)]?=aA (.ref b):=by rw[lR,zc,DI,QI l.1];simp[eb]
 refine zY (gN e1).typeIs Pg.lookup (QEe (gN e1) (dP k) ?_ hg λM=>?_)<|s _ _
 ·exact o9 (oq.mpr l.2) (by decide)
 ·have s1:=Sx.kl K (.refl _ _) (az L M)
  exact c _ _ h _ _ (K.kl (.refl _ _)<|az L M) s1 ⟨b,eb,rfl⟩⟩
noncomputable def Eh (s:Sl):Bool:=(vt s).isNone
theorem QCB {l:Ls} (h:(l.all λp=>Eh p.2)=aB) (j n:Nat):aL l j≠ .dz n:=by
 induction l with
 |nil=>exact nofun
 |cons p l i=>
  have g:=aD<|QFR▸h;refine (?_:cond (bt p.1 j) p.2 (aL l j)≠_);induction bt p.1 j with
  |true=>exact λe=>by have:=g.1;rw[show p.2=_ from e] at this;exact br this
  |false=>exact i g.2
theorem FR.RW {G:bK} (F:FR P G C env Ob φ W r h) (g:1000001<i) (e:φ i=aA a) (l:h.get? a=aA (listOf vs.toArray n)) (q:bB (Ex Ob W) h vs xs) (w:W a):FR P G C env Ob φ W (upd r i<|.own xs) h:=by
 have u: ∀j,j≠i->upd r i (.own xs) j=r j:=λj d=>QHa d;have lw: ∀x j,C.cM x=aA j->upd r i (.own xs) j=r j:=λx j t=>u j λz=>QHZ (C.low x j t) (by omega);have hh:upd r i (.own xs) aT=r aT:=u _ λz=>QHZ (z▸g) (by decide);have hw:upd r i (.own xs) bR=r bR:=u _ λz=>QHZ (z▸g) (by decide);have ii: ∀ys,upd r i (.own xs) i=.own ys->xs=ys:=λys z=>by unfold upd at z;rw[if_pos rfl] at z;cases z;rfl
 exact {F with
  loc:=aS F.loc λm a b=>⟨m,a,λx j k t=>by rw[lw x j t];exact b x j k t⟩
  gr:=λx j k t=>by rw[lw x j t];exact F.gr x j k t
  own:=λj ys z=>by
   by_cases d:j=i
   ·subst d;cases ii _ z;exact ⟨a,vs,n,e,l,q⟩
   ·rw[u j d] at z;exact F.own j ys z
  gH:=λc j ys b z p o=>by
   by_cases d:j=i
   ·subst d;obtain rfl:=bM e p;exact w
   ·rw[u j d] at z;exact F.gH c j ys b z p o
  jf:=λys z y=>F.jf ys (hh▸z) (hw▸y)
  ko:=λys z y=>F.ko ys (hh▸z) (hw▸y)
  lD:=λz=>F.lD<|hh▸z}
theorem QBh {vs:List aI} (g:C.nw=aB) (lo:1000001<i) (ng: ∀j n,r j≠ .dz n) (N:NL D C X r z xs a vs n z'): ∃z'',z''.s=z'.s/\FX D C X (upd r i<|.own xs) z''/\Sy C z z''/\z''.φ i=aA a/\ ∀j,j≠i->z''.φ j=z.φ j:=by
 have hw:i≠bR:=λq=>QHZ (q▸lo) (by decide);have H:i≠aT:=λq=>QHZ (q▸lo) (by decide)
 have F:=FR.adopt (N.F.F.forget i hw H) H (λj k n q=>by
  by_cases d:j=i
  ·unfold upd at q;rw[if_pos d] at q;contradiction
  ·unfold upd at q;rw[if_neg d] at q;exact QHZ q<|ng j n) ⟨_,N.e⟩ N.na N.nf
 have q2:bB (Ex X.Ob λb=>z'.W b\/b=a) z'.s.heap vs xs:=Js (Ob:=X.Ob)▸N.q;have F:=F.RW (xs:=xs) lo (QHb rfl) N.e q2<|.inr rfl;refine ⟨{s:=z'.s,W:=λb=>z'.W b\/b=a,φ:=λj=>if j=i then aA a else z'.φ j},rfl,⟨?_,N.F.R,N.F.t⟩,⟨⟨λb o e w=>?_,λb w=>?_⟩,N.s.t,⟨λz=>(by rw[g] at z;exact yr z),λO=>(QHa<|lO H).trans<|congrFun N.s.f aT,λj b e=>?_⟩,N.s.e⟩,QHb rfl,λj d=>(QHa d).trans<|congrFun N.s.f j⟩
 ·have:upd (upd r i .unb) i (.own xs)=upd r i (.own xs):=by
   funext j;unfold upd;by_cases d:j=i
   ·rw[if_pos d,if_pos d]
   ·rw[if_neg d,if_neg d,if_neg d]
  exact this▸F
 ·exact (N.s.fresh (J:=a) e w).1
 ·refine cp w (λw=>N.s.st.grow b w) λw=>w▸N.nw
 ·have u:(if j=i then aA a else z'.φ j)=aA b:=e
  by_cases B:j=i
  ·obtain rfl:=bM (QHb B) u
   exact .inr N.nw
  ·rw[if_neg B,N.s.f] at u
   exact .inl ⟨j,u⟩
noncomputable def gW (i:Nat):Nat->List (List E)->bj->Ls->(Ls->Prop)->Prop
 |_,[],_,l,K=>K l
 |k,es::rs,o,l,K=>dW es o l λd l=>(eX d.length 16777216 && l.all λp=>Eh p.2)=aB/\gW i (k+1) rs o (cL l (cR i k)<|.own d) K
noncomputable def S.dz (i:Nat) (rs:List (List E)):S:=λo l K=>eX rs.length 100=aB/\gW i 0 rs o l λl=>K .next (cL l i<|.dz rs.length)
inductive te (D:Wd) (C:Fc):List aP->List (List E)->Prop
 |nil:te D C [] []
 |cons {xs es p ys rs}:fu D C xs es->te D C ys rs->te D C (.List xs p::ys) (es::rs)
theorem Uc (g:C.nw=aB) (H:te D C ys rs): ∀(k:Nat) {l:Ls} {K:Ls->Prop},gW i k rs D.o l K-> ∀{X:Fx} {z:Zs} {pos:bP} {Q:List aI->aN->Prop} {Er:aI->aN->Prop},FX D C X (aL l) z->
 (∀l' us Z,K l'->FX D C X (aL l') Z->Sy C z Z->(∀j,j<cR i k->Z.φ j=z.φ j)->us.length=rs.length->(∀t,t<rs.length-> ∃b,Z.φ (cR i<|k+t)=aA b/\us[t]?=aA (.ref b))->Q us Z.s)->
 aO (aY D.prog D.w) X.A (sM<|mM pos<|fI ys X.env) Q Er z.s:=by
 induction H with
 |nil=>exact λk l K h X z pos Q Er F c=>lP<|c _ _ _ h F ⟨.refl _ _,bh _,.refl _ _,rfl⟩ (λj q=>rfl) rfl (λt q=>QHZ q<|QJ t)
 | @cons xs es p ys rs A B ih=>
  exact λk l K h X z pos Q Er F c=>by
   refine ua (Hu<|kP (A h) F λds l₁ us z' g' R s q1=>⟨by simp only[iy,q1.len];exact bJ (aD g'.1).1,?_⟩);have N:NL D C X (aL l₁) z ds z'.s.heap.objs.size us 0 (z'.to (z'.s.heap.push<|listOf us.toArray 0) z'.s.toks):=yp s R (.push _) (ie<|bh _) (fH _ rfl) q1<|bh _;refine sj (QBh (i:=cR i k) g (by unfold cR;omega) (QCB (aD g'.1).2) N) λz2 e F2 y2 p2 q2=>?_;have:=ih (k+1) g'.2 (X:=X) (z:=z2) (pos:=pos) (Q:=λvs s=>Q (.ref z'.s.heap.objs.size::vs) s) (Er:=Er) (by rw[fS];exact F2) λl' us Z c1 F3 y3 ph len get=>?_
   ·rw[e] at this
    exact this
   ·refine c l' (.ref z'.s.heap.objs.size::us) Z c1 F3 (y2.trans y3) (λj q=>(ph j (by unfold cR at*;omega)).trans<|q2 j<|by omega) (QHd DD len) λt ht=>?_
    cases t with
    |zero=>exact ⟨_,(ph _ (by unfold cR;omega)).trans p2,rfl⟩
    |succ t=>exact (get t<|QFS ht).elim λb q=>⟨b,by rw[show k+(t+1)=k+1+t from by omega];exact q.1,q.2⟩
theorem Yz {φ:Nat->Option aM} {us:List aI} (len:us.length=n) (get: ∀t,t<n-> ∃b,φ (cR i<|0+t)=aA b/\us[t]?=aA (.ref b)):us=(bg n).map λk=>wY<|(φ<|cR i k).getD 0:=by
 refine QEy λt=>?_;by_cases h:t<n
 ·refine (get t h).elim λb q=>q.2.trans ?_
  rw[DI,QI h];have:=q.1;rw[uk] at this;simp[this]
 ·rw[DC (by omega),DC (by simp;omega)]
theorem p_ (g:C.nw=aB) (ok:lF C nm i) (W: ∀env,jo [.Name nm q] (.List ys p) pos.line env=pure aE) (H:te D C ys rs):bV D C (.Assign [.Name nm q] (.List ys p) pos) (.dz i rs):= @λl K h=>λ{X z Q Er} F k=>
 jj (W X.env) rfl rfl (Hu (Uc g H 0 h.2 F λl' us Z c F y _ len get=>⟨by simp only[iy,len];exact az (bJ h.1) (by decide),uf (by
  have K1:FX D C X (aL l') (Z.to (Z.s.heap.push<|listOf us.toArray 0) Z.s.toks):=F.kl (.push _)<|bh _;have e1:(Z.s.heap.push<|listOf us.toArray 0).get? Z.s.heap.objs.size=aA (listOf us.toArray 0):=fH _ rfl;have nx:=F.F.tN;have ue:=Yz len get;refine bI (C.nA ok.t) λa b=>wpAny_toks ((K1.F.forget i a b).store ok.t ok.s ok.k (sl:=.dz rs.length) (λh' O m=>⟨Z.s.heap.objs.size,0,rfl,ue▸(m _ _ e1 nx).1,(m _ _ e1 nx).2,λt ht=>?_⟩) (λxs e=>by contradiction) λh' tk S st l=>?_)
  ·exact (get t ht).elim λb q=>by rw[<-uk t];exact mQ.mpr ⟨b,q.1⟩
  ·exact ((k _ _ c).tr y).nx (z':=Z.to h' tk) (by rw[fS];exact ⟨S,F.R,az F.t l⟩)<|(Sx.kl F (.push _)<|bh _).trans ⟨st,l,rfl,rfl⟩)⟩))
noncomputable def S.qR (i k:Nat) (b e:E):S:=λo l K=>e o l λv l=>i4 v λx=>E.gY i k o l λO l=>b o l λj l=>nF j λj=>iX l (cR i k) λR=>0<=j/\j<R.length/\R.length<2^63/\K .next (cL l (cR i k)<|.own<|R.set j.toNat x)
theorem YC (L:C.ow=aB) (s: ∀env,jo [.Subscript w y N] x pos.line env=pure aE) (A:aZ D C w (.gY i k)) (B:aZ D C x a) (hy:aZ D C y b):bV D C (.Assign [.Subscript w y N] x pos) (.qR i k b a):= @λO O h=>λ{X z Q Er} K c=>jj (s X.env) rfl rfl ((B h).run K λv l1 g u z1 P s1 q1=>by
 induction jU g with
 |mk ev g3=>
  subst ev;rw[QD];refine cy (OU g3) λnn ge gl g=>?_;have g':E.gY i k D.o l1 λv l=>v=.bor (cR i k)/\l=l1:=by unfold E.gY;rw[ge];exact ⟨f7.mpr ⟨sS gl.1,sS gl.2⟩,rfl,rfl⟩
  refine aR<|cO<|(A g').run P ?_;intro _ _ H ov z2 K2 M q2;have f:=H.1;have Z:=H.2;clear H;subst f;subst Z;refine aR<|cO<|qQ (hy g) K2 λj l t' z3 g c' U=>?_;induction i6 g with
  |mk h0 g=>
   refine jv g λj0 j1 j2 g=>dk (c'.ow h0<|q2.mon U) λp vs n r A f3 R=>?_;subst r;refine aR (iJ<|aR<|cO<|NQ f3 j0 ((bG j1<|oL j2)) (by simp only[gm,R.len];exact j1) λh4 n4 f5 sb=>?_)
   exact IE<|bI (c'.write (i:=cR i k) (h':=h4) (by unfold cR bR;omega) h0 A (c'.F.gH L _ _ p h0 A (by unfold cR aT;omega)) (λb o e n=>(sb.2 b n).trans e) (vs:=vs.set j.toNat u) (n':=n4) (by simp only[f5];simp[zh]) λm=>bB.set _ (R.mon m)<|Rd.mon (q1.mon<|M.trans U) m) λK4 s4=>(c _ _ g).nx (by simp only[fS];exact K4)<|((s1.trans M).trans U).trans s4)
noncomputable def gF (i:Nat):Nat->Nat->Ls->(List aK->Ls->Prop)->Prop
 |0,_,l,K=>K [] l
 |n+1,k,l,K=>iX l (cR i k) λxs=>gF i n (k+1) (cL l (cR i k) .unb) λds l=>K (.list xs::ds) l
noncomputable def E.qD (i:Nat):E:=λo l K=>h8 (vt<|aL l i) (λn=>gF i n 0 l λds l=>K (.d<|.list ds) l) False
theorem RJ (M:C.ow=aB): ∀(n k:Nat) {l:Ls} {K:List aK->Ls->Prop} {z:Zs},gF i n k l K->FX D C X (aL l) z-> ∃ds l' z',K ds l'/\FX D C X (aL l') z'/\Sx z z'/\z'.s=z.s/\iV X z' ((List.range' k n).map λk=>wY<|(z.φ<|cR i k).getD 0) ds:=by
 intro n;induction n with
 |zero=>exact λk l K z h F=>⟨[],l,z,h,F,.refl,rfl,bB.nil⟩
 |succ n ih=>
  exact λk l K z h F=>by
   induction i6 h with
   |mk e g=>
    refine oC (F.freeze e M (by unfold cR aT;omega) (by unfold cR bR;omega)) λa z1 e1 e2 F1 s1 q1=>?_;rw[<-fS] at F1;obtain ⟨ds,l',z2,c,F2,s2,e3,q2⟩:=ih (k+1) g F1;refine ⟨_,l',z2,c,F2,s1.trans s2,e3.trans e2,?_⟩;rw[QFT,gB];refine bB.cons ?_ ?_
    ·rw[e1];exact q1.mon s2
    ·rw[<-s1.f];exact q2
theorem QAa (M:C.ow=aB) (ok:iD C nm i):aZ D C (.Name nm pos) (.qD i):= @λO O h=>⟨λ{X z Q Er} K c=>uO K ok λv q=>by
 rcases nH h with ⟨n,e,h⟩|h
 ·rw[KC e] at q
  refine iN q λa m u e1 na z1=>⟨.ref a,u,?_⟩;obtain ⟨ds,l',z',c',F,s,es,r⟩:=RJ M n 0 h K;rw[<-QFU] at r;have m':=s.mon (X:=X) a _ e1 na;rw[<-es];exact c _ _ c' _ _ F s<|Rd.lst m'.1 m'.2 r
 ·exact h.elim⟩
noncomputable def zP (C:Fc) (i k:Nat) (x:aP):Bool:=iu x λu y=>xy y && ((bS u λm=>cv C m i) && ja y λc=>decide (c=.int (k:Nat)))
theorem Kw (h:zP C i k x=aB):aZ D C x (.gY i k):=by
 induction uF h with
 | @mk a b p g=>
  cases dh (aD (aD g).2).1 with
  |mk o=>cases tO (aD (aD g).2).2 with
   |mk e=>cases eC e;exact ZZ (Lv (aD g).1)<|jg o
noncomputable def X.gY (i k:Nat):XE:=λo s l c=>bc (vt<|aL l i) (λn=>eJ (cP k n && eX k 100)<|c (.bor<|cR i k) l s) True
theorem MQ:bC (E.gY i k) (X.gY i k):=⟨λh f=>cG h λn h=>eO λe=>f _ _ _ λq=>h ⟨e,q⟩⟩
noncomputable def EW.gY (i k:Nat) (a:EW):EW:=.au ⟨.gY i k,X.gY i k,MQ,λJ C x=>zP C i k x,λH h=>Kw h⟩ a
theorem QBI {ka kb:aP->Bool} (A: ∀{y},ka y=aB->aZ D C y a) (hb: ∀{y},kb y=aB->aZ D C y b) (h:os s .asg (λn=>cI n.es λt=>iu t λo y=>(C.ow && zP C i k o) && (eF n.a && (ka n.a && kb y)))=aB):bV D C s (.qR i k b a):=
 lu (k:=λt v O=>iu t λo y=>(C.ow && zP C i k o) && (eF v && (ka v && kb y))) (λt v p g=>by
  induction uF g with
  |mk r=>exact @λl K=>YC (D:=D) (C:=C) (aD (aD r).1).1 (λO=>ry (aD (aD r).2).1 _ _ _) (Kw (aD (aD r).1).2) (A (aD (aD (aD r).2).2).1)<|hb (aD (aD (aD r).2).2).2) h
noncomputable def X.qR (i k:Nat) (B A:XE):XS:=λo s l c=>A o s l λv l s=>bc (jz v) (λx=>X.gY i k o s l λO l s=>B o s l λj l s=>bc (hG j) (λj=>bc (gj<|aL l<|cR i k) (λR=>0<=j->j<R.length->R.length<2^63->et l (cR i k) (.own<|R.set j.toNat x) λl=>c .next l s) True) True) True
theorem Vx (hb:bC b B) (s:bC a A):bC (S.qR i k b a) (X.qR i k B A):=⟨λq f=>s.r q λO O O q=>cG q λO q=>MQ.r q λO O O q=>hb.r q λO O O q=>cG q λO q=>cG q λO q c d e=>gO<|f _ _ _ λr=>q<|lK c d e r⟩
noncomputable def SW.qR (i k:Nat) (b a:EW):SW:=⟨.qR i k b.w a.w,X.qR i k b.x a.x,Vx b.ok a.ok,λJ C s=>os s .asg λn=>cI n.es λt=>iu t λo y=>(C.ow && zP C i k o) && (eF n.a && (a.bU J C n.a && b.bU J C y)),λH h=>QBI (a.snd H) (b.snd H) h⟩
noncomputable def F9 (i:Nat):Nat->Nat->Ls->(List aK->Ls->Prop)->Prop
 |0,_,l,c=>c [] l
 |n+1,k,l,c=>bc (gj<|aL l<|cR i k) (λxs=>et l (cR i k) .unb λl=>F9 i n (k+1) l λds l=>c (.list xs::ds) l) True
theorem Z4 {P:Prop}: ∀(n k:Nat) {l:Ls} {K c:List aK->Ls->Prop},(gF i n k l K->P)->(∀a l,(K a l->P)->c a l)->F9 i n k l c:=by
 intro n;induction n with
 |zero=>exact λk l K c h f=>f _ _ h
 |succ n ih=>exact λk l K c h f=>cG h λxs h=>gO<|ih (k+1) h λa l h=>f _ _ h
noncomputable def X.qD (i:Nat):XE:=λo s l c=>bc (vt<|aL l i) (λn=>F9 i n 0 l λds l=>c (.d<|.list ds) l s) True
theorem QBT:bC (E.qD i) (X.qD i):=⟨λh f=>cG h λn h=>Z4 n 0 h λa l h=>f _ _ _ h⟩
theorem YI (h:(C.ow && bS x λn=>cv C n i)=aB):aZ D C x (.qD i):=by induction dh (aD h).2 with|mk g=>exact QAa (aD h).1<|jg g
noncomputable def EW.qD (i:Nat):EW:=⟨.qD i,X.qD i,QBT,λJ C x=>C.ow && bS x λn=>cv C n i,λH h=>YI h⟩
noncomputable def gX (i:Nat):Nat->List (List XE)->bj->Hs->Ls->(Ls->Hs->Prop)->Prop
 |_,[],_,s,l,c=>c l s
 |k,es::rs,o,s,l,c=>dX es o s l λd l s=>eJ (eX d.length 16777216 && l.all λp=>Eh p.2)<|et l (cR i k) (.own d) λl=>gX i (k+1) rs o s l c
noncomputable def X.dz (i:Nat) (rs:List (List XE)):XS:=λo s l c=>eJ (eX rs.length 100)<|gX i 0 rs o s l λl s=>et l i (.dz rs.length) λl=>c .next l s
theorem c_ {P:Prop} {o:bj}: ∀(rs:List (List EW)) (k:Nat) {s:Hs} {l:Ls} {K:Ls->Prop} {c:Ls->Hs->Prop},(gW i k (rs.map (·.map EW.w)) o l K->P)->(∀l s,(K l->P)->c l s)->gX i k (rs.map (·.map EW.x)) o s l c:=by
 intro rs;induction rs with
 |nil=>exact λk s l K c h f=>f _ _ h
 |cons es rs ih=>exact λk s l K c h f=>(nI<|jt es).r h λd l s h=>eO λe=>gO<|ih (k+1) (λq=>h ⟨e,q⟩) f
theorem Vr (rs:List (List EW)):bC (S.dz i<|rs.map (·.map EW.w)) (X.dz i<|rs.map (·.map EW.x)):=⟨λh f=>eO λe=>c_ rs 0 (λq=>h ⟨by rw[dY] at*;exact e,q⟩) λl s q=>gO<|f _ _ _ (by rw[dY] at*;exact q)⟩
noncomputable def Ax (J:Ci) (C:Fc):List (List EW)->List aP->Bool:=jE λes x=>dH x && og x (ck J C es)
theorem QAA {rs:List (List EW)} (H:cF J D) (h:Ax J C rs xs=aB):te D C xs (rs.map (·.map EW.w)):=
 mr (P:=λrs xs=>te D C xs<|rs.map (·.map EW.w)) .nil (λes rs x xs h g=>by
  cases Bo (aD h).2 with|mk e=>exact .cons (gf H e).1 g) h
theorem QCZ {rs:List (List EW)} (H:cF J D) (h:os s .asg (λn=>cI n.es λt=>bS t λx=>(C.nw && cw C x i) && (eF n.a && og n.a (Ax J C rs)))=aB):bV D C s (.dz i<|rs.map (·.map EW.w)):=
 lu (k:=λt v O=>bS t λx=>(C.nw && cw C x i) && (eF v && og v (Ax J C rs))) (λt v p g=>by
  cases dh g with
  |mk r=>
   have q:=aD (aD r).2;have w:=ry q.1;cases Bo q.2 with
   |mk e=>exact @λl K=>p_ (D:=D) (C:=C) (aD (aD r).1).1 (fy (aD (aD r).1).2) (λO=>w _ _ _)<|QAA H e) h
noncomputable def SW.dz (i:Nat) (rs:List (List EW)):SW:=⟨.dz i<|rs.map (·.map EW.w),X.dz i<|rs.map (·.map EW.x),Vr rs,λJ C s=>os s .asg λn=>cI n.es λt=>bS t λx=>(C.nw && cw C x i) && (eF n.a && og n.a (Ax J C rs)),λH h=>QCZ H h⟩
theorem Wf {K:aG->Option dQ} {ts vs:List aP} {k b:Nat} (h:((mf K ts).length !=ts.length)=aB) (H: ∀x,env.kindOf x=K x):mT [.Tuple ts k p] (.Tuple vs b P) env=pure none:=by
 dsimp only[mT];erw[(funext H:env.kindOf=K)]
 split
 ·rfl
 ·split
  ·rfl
  ·exact (QHb<|QFQ.mpr<|.inl h).trans rfl
theorem QCg (W: ∀env,jo [c] x pos.line env=pure aE) (s: ∀env,(∀x,env.kindOf x=C.K x)->mT [c] x env=pure aF) (A: ∀env,(uj [c] env).map (·.2)=[mR c env]) (M:aZ D C x a) (d:mx D C c t):bV D C (.Assign [c] x pos) (.asg t a):= @λO O h=>λ{X z Q Er} K k=>jj (W X.env) (s X.env K.F.hK) (A X.env) ((M h).run K λv L g u Z R i q=>by
 induction jU g with
 |mk e g=>
  subst e
  induction vv g with|mk b g=>exact d b R q λj P l O=>(k _ _ g).nx P<|i.trans l)
theorem W6 {ka:aP->Bool} (A: ∀{y},ka y=aB->aZ D C y a) (h:os s .asg (λn=>cI n.es λt=>gu t λxs=>gu n.a λvs=>(((mf C.K xs).length !=xs.length) && jE (λx i=>bS x λn=>cw C n i) xs o) && (eF n.a && ka n.a))=aB):bV D C s (.asg (.tup o) a):=
 lu (k:=λt v O=>gu t λxs=>gu v λvs=>(((mf C.K xs).length !=xs.length) && jE (λx i=>bS x λn=>cw C n i) xs o) && (eF v && ka v)) (λt v p g=>by
  cases tY g with
  |mk r=>cases tY r with
   |mk r=>
    have n:=mr (P:=λxs o=>pS C xs o) .nil (λx xs i o h g=>by induction dh h with|mk H=>exact .cons (fy H) g) (aD (aD r).1).2;have q:=ry (aD (aD r).2).1
    exact @λl K=>QCg (D:=D) (C:=C) (t:=.tup o) (a:=a) (λO=>q _ _ _) (λenv H=>Wf (aD (aD r).1).1 H) (λO=>rfl) (A (aD (aD r).2).2)<|@λd R U=>Gj n) h
noncomputable def SW.Vs (is:List Nat) (a:EW):SW:=⟨.asg (.tup is) a.w,X.asg (.tup is) a.x,zG a.ok,λJ C s=>os s .asg λn=>cI n.es λt=>gu t λxs=>gu n.a λvs=>(((mf C.K xs).length !=xs.length) && jE (λx i=>bS x λn=>cw C n i) xs is) && (eF n.a && a.bU J C n.a),λH h=>W6 (a.snd H) h⟩
namespace B01
noncomputable def Cc:List SW:=[.one 1<|.int 2048,.defn 2 0,.pd 3 [.bi .len [.aC 0],.int 5,.aC 1],.ret<|.i9 0 2 [.int 0,.bi .len [.aC 0]]]
noncomputable def L5:List SW:=[.cA (.cmp .LtE (.aH .Sub (.aC 201)<|.aC 200)<|.aC 1) [.ret<|.bi .tv [.dJ (.aC 0) (aA<|.aC 200) (aA<|.aC 201) aF]] [],.one 202<|.aH .RShift (.aH .Add (.aH .Add (.aC 200)<|.aC 201)<|.int 1)<|.int 1,.ret<|.aH .Add (.i9 0 2 [.aC 202,.aC 201])<|.aH .LShift (.aH .Mult (.i9 0 2 [.aC 200,.aC 202])<|.au (.aC 3)<|.aH .Sub (.aC 201)<|.aC 202)<|.aH .Sub (.aC 201)<|.aC 202]
noncomputable def Ox:List SW:=[.one 0<|.qU (.sm .rstrip (.aC 0) []) ⟨#[95]⟩ ⟨#[]⟩,.ret<|.call 1 [.aC 0]]
noncomputable def tM:List SW:=[.cA (.cmp .LtE (.aH .Sub (.sm .bits (.aC 0) [])<|.aC 2)<|.qY ⟨#[95,68,73,86,95,76,73,77,73,84]⟩) [.ret<|.bi .divmod [.aC 0,.aC 1]] [],.one 3<|.aH .BitAnd (.aC 2)<|.int 1,.cA (.aC 3) [.aug 0 .LShift<|.int 1,.aug 1 .LShift<|.int 1,.aug 2 .Add<|.int 1] [],.one 4<|.aH .RShift (.aC 2)<|.int 1,.one 5<|.aH .Sub (.aH .LShift (.int 1)<|.aC 4)<|.int 1,.Ad [6,7]<|.tup [.aH .RShift (.aC 1)<|.aC 4,.aH .BitAnd (.aC 1)<|.aC 5],.tup [8,9]<|.call 4 [.aH .RShift (.aC 0)<|.aC 2,.aH .BitAnd (.aH .RShift (.aC 0)<|.aC 4)<|.aC 5,.aC 1,.aC 6,.aC 7,.aC 4],.tup [10,9]<|.call 4 [.aC 9,.aH .BitAnd (.aC 0)<|.aC 5,.aC 1,.aC 6,.aC 7,.aC 4],.cA (.aC 3) [.aug 9 .RShift<|.int 1] [],.ret<|.tup [.aH .BitOr (.aH .LShift (.aC 8)<|.aC 4)<|.aC 10,.aC 9]]
noncomputable def uH:List SW:=[.aug 6 .Sub<|.int 1,.aug 7 .Add<|.aC 2]
noncomputable def tR:TW:=.cmp .Lt (.aC 7)<|.int 0
noncomputable def b_div3n2n:List SW:=[.cA (.cmp .Eq (.aH .RShift (.aC 0)<|.aC 5)<|.aC 3) [.Ad [6,7]<|.tup [.aH .Sub (.aH .LShift (.int 1)<|.aC 5)<|.int 1,.aH .Add (.aH .Sub (.aC 0)<|.aH .LShift (.aC 3)<|.aC 5)<|.aC 3]] [.tup [6,7]<|.call 3 [.aC 0,.aC 3,.aC 5]],.one 7<|.aH .Sub (.aH .BitOr (.aH .LShift (.aC 7)<|.aC 5)<|.aC 1)<|.aH .Mult (.aC 6)<|.aC 4,.oR tR uH,.ret<|.tup [.aC 6,.aC 7]]
noncomputable def x8:List SW:=[.own 2<|.mul [.int 0]<|.aH .FloorDiv (.aH .Sub (.aH .Add (.sm .bits (.aC 0) [])<|.aC 1)<|.int 1)<|.aC 1,.defn 3 1,.cA (.aC 0) [.expr<|.i9 1 3 [.aC 0,.int 0,.bi .len [.aC 2]]] [],.ret<|.aC 2]
noncomputable def E5:List SW:=[.cA (.cmp .Eq (.aH .Add (.aC 201)<|.int 1)<|.aC 202) [.set 2 (.aC 201)<|.aC 200,.BP] [],.one 203<|.aH .RShift (.aH .Add (.aC 201)<|.aC 202)<|.int 1,.one 204<|.aH .Mult (.aH .Sub (.aC 203)<|.aC 201)<|.aC 1,.one 205<|.aH .RShift (.aC 200)<|.aC 204,.one 206<|.aH .BitXor (.aC 200)<|.aH .LShift (.aC 205)<|.aC 204,.expr<|.i9 1 3 [.aC 206,.aC 201,.aC 203],.expr<|.i9 1 3 [.aC 205,.aC 203,.aC 202]]
noncomputable def BY:List SW:=[.defn 2 2,.ret<|.ite (.aC 0) (.i9 2 2 [.int 0,.bi .len [.aC 0]])<|.int 0]
noncomputable def Dv:List SW:=[.cA (.cmp .Eq (.aH .Add (.aC 200)<|.int 1)<|.aC 201) [.ret<|.au (.aC 0)<|.aC 200] [],.one 202<|.aH .RShift (.aH .Add (.aC 200)<|.aC 201)<|.int 1,.one 203<|.aH .Mult (.aH .Sub (.aC 202)<|.aC 200)<|.aC 1,.ret<|.aH .Add (.aH .LShift (.i9 2 2 [.aC 202,.aC 201])<|.aC 203)<|.i9 2 2 [.aC 200,.aC 202]]
noncomputable def vZ:List SW:=[.tup [7,4]<|.call 3 [.aH .Add (.aH .LShift (.aC 4)<|.aC 2)<|.aC 6,.aC 1,.aC 2],.app 5<|.aC 7]
noncomputable def b_divmod_pos:List SW:=[.one 2<|.sm .bits (.aC 1) [],.one 3<|.call 5 [.aC 0,.aC 2],.one 4<|.int 0,.own 5<|.list [],.fF (.one 6) (.rev<|.aC 3) vZ,.qi 5,.one 8<|.call 6 [.qa 5,.aC 2],.ret<|.tup [.aC 8,.aC 4]]
noncomputable def CK:List SW:=[.cA (.cmp .Eq (.aC 1)<|.int 0) [.stuck] [.cA (.cmp .Lt (.aC 1)<|.int 0) [.tup [2,3]<|.call 8 [.neg<|.aC 0,.neg<|.aC 1],.ret<|.tup [.aC 2,.neg<|.aC 3]] [.cA (.cmp .Lt (.aC 0)<|.int 0) [.tup [2,3]<|.call 8 [.inv<|.aC 0,.aC 1],.ret<|.tup [.inv<|.aC 2,.aH .Add (.aC 1)<|.inv<|.aC 3]] [.ret<|.call 7 [.aC 0,.aC 1]]]]]
noncomputable def OS:List SW:=[.ret<|.pT<|.bi .ord [.aC 0]]
noncomputable def Gp:List SW:=[.one 1<|.qF<|.bi .ord [.aC 0],.cA (.iM aB<|.aC 1) [.ret<|.aC 1] [],.ret<|.sm .lower (.aC 0) []]
noncomputable def Gh:List SW:=[.one 1<|.conv aB (.sm .lower (.aC 1) []),.pX<|.comp (.aC 201) (.one 201) .fE [.cmp .NotEq (.sm .lower (.au (.aC 201)<|.int 0) [])<|.aC 1]]
noncomputable def FA:List SW:=[.one 1<|.conv aB (.sm .lower (.aC 1) []),.ret<|.comp (.au (.aC 201)<|.int 1) (.one 201) .fE [.cmp .Eq (.sm .lower (.au (.aC 201)<|.int 0) [])<|.aC 1]]
noncomputable def CR:List SW:=[.ret<|.dJ .fE aF aF aF]
noncomputable def yz:List SW:=[.own 4<|.list [],.cA (.iM aB<|.aC 2) [.one 2<|.conv aE (.aC 2),.app 4<|.aC 2] [],.qN 3,.qk<|.tup [.conv aB (.aC 1),.sm .join (.str ⟨#[59,32]⟩) [.aC 4]]]
noncomputable def HJ:List SW:=[.ret<|.comp (.aH .Add (.au (.aC 1)<|.aC 201)<|.bi .sum [.dJ (.aC 0) (aA<|.aC 201) aF<|aA<|.bi .len [.aC 1]]) (.one 201) (.jA<|.bi .len [.aC 1]) []]
noncomputable def OY:List SW:=[.one 2<|.list [.int 97,.int 65,.int 119808,.int 119860,.int 119912,.int 120016,.int 120172,.int 120224,.int 120276,.int 120328,.int 120380,.int 120432],.ret<|.bi .chr [.aH .Sub (.aH .Add (.au (.aC 2)<|.aH .Mod (.aC 1)<|.int 12)<|.bi .ord [.aC 0])<|.int 97]]
noncomputable def GC:List SW:=[.one 1<|.list [.int 173,.int 847,.int 6150,.int 6155,.int 6156,.int 6157,.int 8203,.int 8204,.int 8205,.int 8288,.int 65279],.ret<|.bi .chr [.ite (.cmp .Lt (.aH .Mod (.aC 0)<|.int 27)<|.int 11) (.au (.aC 1)<|.aH .Mod (.aC 0)<|.int 27)<|.aH .Add (.int 65013)<|.aH .Mod (.aC 0)<|.int 27]]
noncomputable def Ow:List SW:=[.one 1<|.list [.int 172,.int 174,.int 846,.int 848,.int 6149,.int 6151,.int 6154,.int 6158,.int 8202,.int 8206,.int 8287,.int 8289,.int 65278,.int 65280,.int 65023,.int 65040],.ret<|.bi .chr [.au (.aH .Add (.aC 1)<|.list [.int 11,.int 12,.int 28,.int 29,.int 30,.int 133,.int 8232,.int 8233])<|.aH .Mod (.aC 0)<|.int 24]]
noncomputable def JA:List SW:=[.ret<|.sm .join (.str ⟨#[]⟩) [.comp (.call 11 [.aC 201]) (.one 201) (.aC 0) [.eP aE aE<|.call 10 [.aC 201]]]]
noncomputable def Dk:List SW:=[.dz 1 [[.int 0,.aH .Mod (.aH .FloorDiv (.aC 0)<|.int 3)<|.int 4],[.aH .Add (.int 1)<|.aH .Mod (.aC 0)<|.int 3,.aH .Mod (.aH .FloorDiv (.aC 0)<|.int 12)<|.int 4],[.aH .Mod (.aH .FloorDiv (.aC 0)<|.int 48)<|.int 4,.aH .Mod (.aH .FloorDiv (.aC 0)<|.int 192)<|.int 5]],.cA (.cmp .Eq (.aH .Mult (.gY 1 1<|.int 0)<|.aH .Sub (.gY 1 2<|.int 1)<|.gY 1 0<|.int 1)<|.aH .Mult (.gY 1 2<|.int 0)<|.aH .Sub (.gY 1 1<|.int 1)<|.gY 1 0<|.int 1) [.qR 1 2 (.int 1)<|.aH .Mod (.aH .Add (.gY 1 2<|.int 1)<|.int 1)<|.int 5] [],.ret<|.qD 1]
noncomputable def zH:List SW:=[.one 7<|.aH .Mod (.aH .Add (.aH .FloorDiv (.aC 1)<|.int 3)<|.aH .Mult (.au (.list [.int 1,.int 2])<|.aH .Mod (.aH .FloorDiv (.aC 1)<|.int 9)<|.int 2)<|.aC 6)<|.int 3,.one 8<|.call 17 [.aH .Add (.call 13 [.au (.str ⟨#[112,110,109]⟩)<|.aC 7,.aH .Add (.aH .FloorDiv (.aC 1)<|.int 18)<|.aC 6])<|.call 14 [.aH .Add (.aH .FloorDiv (.aC 1)<|.int 216)<|.aC 6]],.one 9<|.aH .Add (.aH .Add (.str ⟨#[48,95]⟩)<|.bi .rB [.au (.au (.aC 0)<|.aC 7)<|.aH .FloorDiv (.aC 6)<|.int 3])<|.au (.list [.str ⟨#[]⟩,.str ⟨#[32]⟩,.str ⟨#[9]⟩,.str ⟨#[9,32]⟩])<|.aH .Mod (.aH .Add (.aC 1)<|.aC 6)<|.int 4,.one 10<|.au (.str ⟨#[112,110,109]⟩)<|.aC 7,.cA (.cmp .Eq (.aH .Mod (.aC 6)<|.int 2)<|.int 1) [.Ad [10,8]<|.tup [.sm .upper (.aC 10) [],.sm .upper (.aC 8) []]] [],.app 4<|.j4 0 (.aC 3) [.aC 8,.aC 9],.app 5<|.tup [.aC 10,.aC 9]]
noncomputable def b_law_book:List SW:=[.own 2<|.list [.tup [.str ⟨#[109,112]⟩,.str ⟨#[]⟩]],.pj 3 2,.own 4<|.list [.j4 0 (.aC 3) [.au (.str ⟨#[80,78,77]⟩)<|.aH .Mod (.aC 1)<|.int 3,.str ⟨#[57]⟩],.j4 0 (.aC 3) [.au (.str ⟨#[80,78,77]⟩)<|.aH .Mod (.aC 1)<|.int 3,.str ⟨#[57]⟩]],.oh 3<|.au (.str ⟨#[112,110,109]⟩)<|.aH .Mod (.aC 1)<|.int 3,.own 5<|.list [.tup [.str ⟨#[109,112]⟩,.str ⟨#[]⟩]],.fF (.one 6) (.jA<|.int 6) zH,.cA (.fx .Or [.cmp .NotEq (.aC 4)<|.aH .Mult (.list [.none])<|.int 8,.cmp .NotEq (.jZ 2 (.aC 3) [])<|.aC 5,.cmp .NotEq (.aC 2)<|.aC 5]) [.ret<|.list []] [],.cmp 11 (.jZ 1 (.aC 3) [.aC 201]) (.one 201) (.jb<|.list [.str ⟨#[112]⟩,.str ⟨#[78]⟩,.str ⟨#[109]⟩]) [],.cA (.cmp .NotEq (.aC 11)<|.comp (.comp (.au (.aC 401)<|.int 1) (.one 401) (.aC 5) [.cmp .Eq (.sm .lower (.au (.aC 401)<|.int 0) [])<|.aC 201]) (.one 201) (.jb<|.list [.str ⟨#[112]⟩,.str ⟨#[110]⟩,.str ⟨#[109]⟩]) []) [.ret<|.list []] [],.ret<|.comp (.comp (.call 2 [.aC 401]) (.one 401) (.aC 201) []) (.one 201) (.aC 11) []]
noncomputable def LB:List SW:=[.tup [2,3]<|.call 8 [.aC 0,.aC 1],.cA (.fx .Or [.cmp .NotEq (.aH .Add (.aH .Mult (.aC 2)<|.aC 1)<|.aC 3)<|.aC 0,.cmp .Lt (.aH .Mult (.aC 3)<|.aC 1)<|.int 0,.cmp .GtE (.bi .abs [.aC 3])<|.bi .abs [.aC 1]]) [.ret<|.list [.aC 2,.neg<|.int 1]] [],.ret<|.list [.aC 2,.bi .abs [.aC 3]]]
noncomputable def qz:List SW:=[.cA (.fx .And [.cmp .NotEq (.au (.aC 11)<|.int 1)<|.au (.aC 12)<|.int 1,.uL .LtE .LtE (.bi .min2 [.au (.aC 11)<|.int 1,.au (.aC 12)<|.int 1]) (.aH .Add (.aC 1)<|.aC 8)<|.bi .max2 [.au (.aC 11)<|.int 1,.au (.aC 12)<|.int 1]]) [.one 13<|.aH .Add (.aH .Mult (.au (.aC 11)<|.int 0)<|.aH .Sub (.au (.aC 12)<|.int 1)<|.au (.aC 11)<|.int 1)<|.aH .Mult (.aH .Sub (.aH .Add (.aC 1)<|.aC 8)<|.au (.aC 11)<|.int 1)<|.aH .Sub (.au (.aC 12)<|.int 0)<|.au (.aC 11)<|.int 0,.tup [14,15]<|.call 28 [.aH .Mult (.aC 13)<|.aC 3,.aH .Mult (.aH .Sub (.au (.aC 12)<|.int 1)<|.au (.aC 11)<|.int 1)<|.aC 3],.cA (.cmp .Lt (.aC 15)<|.int 0) [.ret<|.list []] [],.app 9<|.aC 14,.app 10<|.aH .Add (.aC 14)<|.bi .min2 [.aC 15,.int 1]] []]
noncomputable def rN:List SW:=[.own 9<|.list [],.own 10<|.list [],.fF (.tup [11,12]) (.jb<|.list [.tup [.au (.aC 5)<|.int 0,.au (.aC 5)<|.int 1],.tup [.au (.aC 5)<|.int 1,.au (.aC 5)<|.int 2],.tup [.au (.aC 5)<|.int 2,.au (.aC 5)<|.int 0]]) qz,.cA (.cmp .NotEq (.aC 9)<|.list []) [.set 7 (.aC 8)<|.aH .Add (.aH .Sub (.bi .ma [.aC 9])<|.bi .kS [.aC 10])<|.int 1] [],.cA (.uL .Lt .Lt (.bi .kS [.aC 6]) (.aH .Add (.aC 1)<|.aC 8)<|.bi .ma [.aC 6]) [.set 7 (.aH .Add (.int 4)<|.aC 8)<|.aH .Sub (.aH .Sub (.bi .ma [.aC 10])<|.bi .kS [.aC 9])<|.int 1] []]
noncomputable def b_law_counts:List SW:=[.one 3<|.aH .Add (.aH .LShift (.int 1)<|.int 200)<|.aH .Mod (.aC 2)<|.aH .LShift (.int 1)<|.int 200,.one 4<|.aH .Mult (.aH .Mod (.aH .FloorDiv (.aC 2)<|.int 3)<|.aH .LShift (.int 1)<|.int 150)<|.au (.list [.int 1,.neg<|.int 1])<|.aH .Mod (.aC 2)<|.int 2,.cmp 5 (.list [.aH .Add (.au (.aC 201)<|.int 0)<|.aH .Mult (.aC 4)<|.au (.aC 201)<|.int 1,.au (.aC 201)<|.int 1]) (.one 201) (.aC 0) [],.cmp 6 (.au (.aC 201)<|.int 1) (.one 201) (.aC 5) [],.own 7<|.mul [.int 0]<|.int 8,.fF (.one 8) (.jA<|.int 5) rN,.ret<|.aC 7]
noncomputable def tX:List SW:=[.one 6<|.bi .kS [.comp (.aH .Mult (.aC 3)<|.aH .Sub (.aH .Mult (.aH .Sub (.au (.aC 202)<|.int 0)<|.au (.aC 201)<|.int 0)<|.aH .Sub (.aC 5)<|.au (.aC 201)<|.int 1)<|.aH .Mult (.aH .Sub (.au (.aC 202)<|.int 1)<|.au (.aC 201)<|.int 1)<|.aH .Sub (.aC 1)<|.au (.aC 201)<|.int 0) (.tup [201,202]) (.aC 2) []],.cA (.cmp .GtE (.aC 6)<|.int 0) [.app 4<|.aC 5] [],.cA (.cmp .Gt (.aC 6)<|.int 0) [.app 4<|.aH .Add (.int 4)<|.aC 5] []]
noncomputable def b_law_bare:List SW:=[.one 2<|.list [.tup [.au (.aC 0)<|.int 0,.au (.aC 0)<|.int 1],.tup [.au (.aC 0)<|.int 1,.au (.aC 0)<|.int 2],.tup [.au (.aC 0)<|.int 2,.au (.aC 0)<|.int 0]],.one 3<|.int 1,.cA (.cmp .Lt (.aH .Mult (.au (.au (.aC 0)<|.int 1)<|.int 0)<|.aH .Sub (.au (.au (.aC 0)<|.int 2)<|.int 1)<|.au (.au (.aC 0)<|.int 0)<|.int 1)<|.aH .Mult (.au (.au (.aC 0)<|.int 2)<|.int 0)<|.aH .Sub (.au (.au (.aC 0)<|.int 1)<|.int 1)<|.au (.au (.aC 0)<|.int 0)<|.int 1) [.one 3<|.neg<|.int 1] [],.own 4<|.list [],.fF (.one 5) (.jA<|.int 5) tX,.ret<|.aC 4]
noncomputable def vJ:List SW:=[.one 6<|.aH .Mod (.aH .Add (.aC 1)<|.aC 5)<|.int 8,.one 7<|.sm .join (.str ⟨#[]⟩) [.comp (.call 13 [.aC 201,.aH .Add (.aH .FloorDiv (.aC 1)<|.int 8)<|.aC 5]) (.one 201) (.jb<|.au (.aC 2)<|.aC 6) []],.cA (.fx .And [.cmp .Gt (.aC 6)<|.int 4,.cmp .Eq (.aH .Mod (.aH .Add (.aH .FloorDiv (.aC 1)<|.int 96)<|.aC 5)<|.int 2)<|.int 0]) [.one 7<|.bi .chr [.au (.list [.int 64256,.int 64257,.int 64262])<|.aH .Sub (.aC 6)<|.int 5]] [],.app 4<|.aH .Add (.aH .Add (.str ⟨#[46]⟩)<|.aC 7)<|.call 14 [.aH .Add (.aH .FloorDiv (.aC 1)<|.int 8)<|.aH .Mult (.int 5)<|.aC 5]]
noncomputable def uC:List SW:=[.cA (.cmp .NotIn (.aH .Mod (.aH .Add (.aC 1)<|.aC 5)<|.int 8)<|.aC 9) [.one 10<|.aH .Add (.aC 10)<|.call 14 [.aH .Add (.aH .Add (.aH .FloorDiv (.aC 1)<|.int 27)<|.aC 8)<|.aH .Mult (.int 7)<|.aC 5]] [],.one 10<|.aH .Add (.aH .Add (.aC 10)<|.au (.aC 4)<|.aC 5)<|.au (.aC 3)<|.aH .Mod (.aH .Add (.aH .Add (.aC 1)<|.aC 8)<|.aC 5)<|.int 3]
noncomputable def BS:List SW:=[.one 9<|.call 30 [.aC 0,.aC 8],.one 10<|.str ⟨#[]⟩,.fF (.one 5) (.jA<|.int 8) uC,.one 10<|.aH .Add (.aH .Add (.aH .Add (.aH .Add (.aH .Add (.aC 10)<|.au (.aC 4)<|.int 8)<|.au (.aC 3)<|.aH .Mod (.aH .Add (.aH .Add (.aC 1)<|.aC 8)<|.int 8)<|.int 3)<|.au (.aC 4)<|.int 9)<|.au (.aC 3)<|.aH .Mod (.aH .Add (.aH .Add (.aC 1)<|.aC 8)<|.int 9)<|.int 3)<|.au (.aC 4)<|.int 10,.one 4<|.sm .split (.call 9 [.aC 10]) [.str ⟨#[13,10]⟩],.one 4<|.aH .Add (.comp (.ite (.eP aE aB<|.call 10 [.dJ (.aC 201) aF (aA<|.int 1) aF]) (.dJ (.aC 201) (aA<|.int 1) aF aF)<|.aC 201) (.one 201) (.jb<|.dJ (.aC 4) aF (aA<|.int 8) aF) [])<|.dJ (.aC 4) (aA<|.int 8) aF aF]
noncomputable def AR:List SW:=[.one 12<|.sm .qP (.au (.aC 4)<|.aC 5) [.str ⟨#[46]⟩],.cA (.cmp .NotEq (.call 17 [.aC 12])<|.au (.aC 2)<|.aH .Mod (.aH .Add (.aC 1)<|.aC 5)<|.int 8) [.ret<|.list []] [],.set 11 (.aH .Mod (.aH .Add (.aC 1)<|.aC 5)<|.int 8)<|.aH .Sub (.aH .Sub (.bi .len [.au (.aC 4)<|.aC 5])<|.bi .len [.aC 12])<|.int 1]
noncomputable def b_law_found:List SW:=[.one 2<|.list [.str ⟨#[102]⟩,.str ⟨#[105]⟩,.str ⟨#[108]⟩,.str ⟨#[115]⟩,.str ⟨#[116]⟩,.str ⟨#[102,102]⟩,.str ⟨#[102,105]⟩,.str ⟨#[115,116]⟩],.one 3<|.list [.str ⟨#[10]⟩,.str ⟨#[13]⟩,.str ⟨#[13,10]⟩],.own 4<|.list [],.fF (.one 5) (.jA<|.int 8) vJ,.one 4<|.aH .Add (.aC 4)<|.list [.aH .Add (.call 15 [.aH .FloorDiv (.aC 1)<|.int 8])<|.str ⟨#[46,32]⟩,.str ⟨#[]⟩,.str ⟨#[46]⟩],.fF (.one 8) (.jA<|.int 4) BS,.cA (.fx .Or [.cmp .NotEq (.dJ (.aC 4) (aA<|.int 8) aF aF)<|.list [.aH .Add (.call 15 [.aH .FloorDiv (.aC 1)<|.int 8])<|.str ⟨#[46,32]⟩,.str ⟨#[]⟩,.str ⟨#[46,46,46,46,46]⟩],.eP aB aE<|.call 10 [.call 15 [.aH .FloorDiv (.aC 1)<|.int 8]]]) [.ret<|.list []] [],.own 11<|.mul [.int 0]<|.int 8,.fF (.one 5) (.jA<|.int 8) AR,.ret<|.aC 11]
noncomputable def B4:List SW:=[.Ad [0,1]<|.tup [.aC 1,.aH .Mod (.aC 0)<|.aC 1]]
noncomputable def Cb:TW:=.cmp .NotEq (.aC 1)<|.int 0
noncomputable def b_law_common:List SW:=[.oR Cb B4,.ret<|.aC 0]
noncomputable def HA:List SW:=[.one 3<|.aH .Add (.int 16)<|.aH .Mod (.aC 2)<|.int 300,.one 4<|.aH .Add (.aH .LShift (.int 1)<|.int 4200)<|.aH .Mod (.aH .FloorDiv (.aC 2)<|.int 7)<|.aH .LShift (.int 1)<|.int 4200,.one 5<|.aH .Mult (.aH .Pow (.aH .Sub (.aH .LShift (.int 1)<|.aC 3)<|.int 1)<|.int 3)<|.aC 4,.one 6<|.aH .Sub (.aH .LShift (.int 1)<|.sm .bits (.aC 5) [])<|.int 1,.one 7<|.list [.list [],.aH .Mult (.list [.aH .Sub (.aH .LShift (.int 1)<|.aC 3)<|.int 1])<|.int 3],.cA (.fx .Or [.cmp .NotEq (.call 8 [.aH .Mult (.aC 6)<|.aC 5,.aC 5])<|.tup [.aC 6,.int 0],.cmp .NotEq (.comp (.call 5 [.call 6 [.aC 201,.aC 3],.aC 3]) (.one 201) (.aC 7) [])<|.aC 7]) [.ret<|.list []] [],.one 8<|.aH .Mod (.aH .FloorDiv (.aC 2)<|.int 5)<|.aH .LShift (.int 1)<|.int 4300,.cA (.cmp .Eq (.aH .Mod (.aH .FloorDiv (.aC 2)<|.int 2)<|.int 2)<|.int 0) [.one 8<|.aH .Sub (.aC 6)<|.aH .Mod (.aC 8)<|.aH .LShift (.int 1)<|.int 2000] [],.one 9<|.aH .Add (.aH .Add (.aH .Add (.aH .Mult (.aH .LShift (.call 6 [.list [.aC 1,.aH .Sub (.aC 0)<|.int 3,.int 1],.aC 3])<|.aH .Mult (.int 5)<|.aC 3)<|.aC 4)<|.aH .Mult (.aC 8)<|.aC 5)<|.int 1)<|.aH .Mod (.aH .FloorDiv (.aC 2)<|.int 11)<|.aH .Sub (.aC 4)<|.int 1,.one 10<|.aH .Mod (.aH .FloorDiv (.aC 2)<|.int 13)<|.int 4,.tup [11,12]<|.call 28 [.aH .Mult (.aC 9)<|.au (.list [.int 1,.neg<|.int 1,.neg<|.int 1,.int 1])<|.aC 10,.aH .Mult (.aC 5)<|.au (.list [.int 1,.neg<|.int 1,.int 1,.neg<|.int 1])<|.aC 10],.cA (.cmp .Lt (.aC 12)<|.int 0) [.ret<|.list []] [],.ret<|.call 5 [.aH .Sub (.au (.list [.aC 11,.aC 11,.aH .Sub (.neg<|.int 1)<|.aC 11,.aH .Sub (.neg<|.int 1)<|.aC 11])<|.aC 10)<|.aC 8,.aC 3]]
noncomputable def FE:List SW:=[.one 1<|.call 12 [.aC 0,.list [.int 629,.int 77,.int 4310,.int 314159265358979323,.aH .Pow (.int 7)<|.int 3100]],.one 2<|.call 27 [.au (.aC 1)<|.int 0],.Vs [3,4,5]<|.tup [.aH .Mod (.au (.aC 1)<|.int 3)<|.aH .Pow (.int 10)<|.int 6,.aH .Mod (.aH .FloorDiv (.au (.aC 1)<|.int 3)<|.aH .Pow (.int 10)<|.int 6)<|.aH .Pow (.int 10)<|.int 6,.aH .Mod (.aH .FloorDiv (.au (.aC 1)<|.int 3)<|.aH .Pow (.int 10)<|.int 12)<|.aH .Pow (.int 10)<|.int 6],.cmp 6 (.list [.aH .Add (.aH .Add (.au (.aC 201)<|.int 0)<|.aH .Mult (.aC 3)<|.au (.aC 201)<|.int 1)<|.aC 4,.aH .Add (.au (.aC 201)<|.int 1)<|.aC 5]) (.one 201) (.aC 2) [],.one 7<|.call 19 [.aC 6,.au (.aC 1)<|.int 1],.cA (.cmp .NotEq (.aC 7)<|.aC 6) [.ret<|.bool aE] [],.one 8<|.call 31 [.aC 2,.au (.aC 1)<|.int 2],.cA (.fx .Or [.cmp .Eq (.aC 8)<|.list [],.cmp .NotEq (.aC 8)<|.call 29 [.aC 7,.aC 5,.au (.aC 1)<|.int 4]]) [.ret<|.bool aE] [],.cmp 9 (.list [.aH .Sub (.au (.au (.aC 2)<|.aC 201)<|.int 0)<|.au (.au (.aC 2)<|.aH .Sub (.aC 201)<|.int 1)<|.int 0,.aH .Sub (.au (.au (.aC 2)<|.aC 201)<|.int 1)<|.au (.au (.aC 2)<|.aH .Sub (.aC 201)<|.int 1)<|.int 1]) (.one 201) (.jA<|.int 3) [],.one 10<|.bi .abs [.aH .Sub (.aH .Mult (.au (.au (.aC 9)<|.int 1)<|.int 0)<|.au (.au (.aC 9)<|.int 2)<|.int 1)<|.aH .Mult (.au (.au (.aC 9)<|.int 1)<|.int 1)<|.au (.au (.aC 9)<|.int 2)<|.int 0],.one 11<|.bi .sum [.comp (.call 32 [.bi .abs [.au (.aC 201)<|.int 0],.bi .abs [.au (.aC 201)<|.int 1]]) (.one 201) (.aC 9) []],.cmp 12 (.aH .FloorDiv (.aH .Add (.aH .Add (.aH .Mult (.aH .Mult (.aC 10)<|.aC 201)<|.aC 201)<|.aH .Mult (.aC 11)<|.aC 201)<|.int 2)<|.int 2) (.one 201) (.jb<|.list [.int 4,.int 3,.int 2,.int 1,.int 0]) [],.ret<|.cmp .Eq (.call 33 [.bi .sum [.dJ (.aC 8) aF (aA<|.int 5) aF],.bi .sum [.dJ (.aC 8) (aA<|.int 5) aF aF],.au (.aC 1)<|.int 4])<|.aC 12]
end B01
section
open PySem.Sre (M)
noncomputable def QDn (n:Nat) (m g:M):Prop:= ∀k,M.runFor (n+k) m=M.runFor k g
noncomputable def Goes (b:Nat) (m g:M):Prop:= ∃n,n<=b/\QDn n m g
theorem Goes.refl (m:M):Goes 0 m m:=(ax 0 (bh _) λk=>by rw[uk])
theorem Goes.step (o:m.outcome=aF) (e:m.step=m1) (g:Goes b m1 r):Goes (b+1) m r:=by refine aS g λn N g=>(ax (n+1) (H7 N) λk=>?_);rw[zt];refine (?_:(if m.outcome.isSome then m else M.runFor (n+k) m.step)=_);exact sb o<|sb e<|g k
theorem Goes.trans (g:Goes b m m1) (u:Goes c m1 r):Goes (b+c) m r:=by refine aS g λn x g=>aS u λv N u=>(ax (n+v) (iF x N) λk=>?_);rw[wX,g,u]
theorem Goes.le (g:Goes b m m1) (h:b<=c):Goes c m m1:=let ⟨n,N,g⟩:=g;(ax n (az N h) g)
theorem Eb (h:m.outcome.isSome=aB): ∀k,M.runFor k m=m:=by
 intro O;induction O with
 |zero=>exact rfl
 |succ k i=>exact by refine (?_:(if m.outcome.isSome then m else _)=m);exact sb (QHb h) rfl
theorem K7: ∀a k m,M.runFor (a+k) m=M.runFor k (M.runFor a m):=by
 intro a;induction a with
 |zero=>intro k m;rw[uk];rfl
 |succ a i=>
  intro k m;rw[zt];refine (?_:(if m.outcome.isSome then m else M.runFor (a+k) m.step)=M.runFor k (if m.outcome.isSome then m else M.runFor a m.step));by_cases h:m.outcome.isSome=aB
  ·rw[if_pos h,if_pos h,Eb h]
  ·rw[if_neg h,if_neg h,i]
theorem QBj {w:bz} {E:aI->aN->Prop}: ∀T b m e,b<=4*T->0<T->e.outcome.isSome=aB->Goes b m e->Q e s->aO (aY prog w) A (Builtin.Re.reDrive T m) Q E s:=by
 intro T;induction T with
 |zero=>exact λb m e O h=>QHZ h<|mK _
 |succ T i=>
  intro b m e B O o G q;refine G.elim λn G=>?_;have N:=G.1;have g:=G.2;clear G;refine (?_:aO (aY prog w) A (if (M.runFor 4 m).outcome.isSome=aB then pure (M.runFor 4 m) else _) Q E s);by_cases H:n<=4
  ·have:M.runFor 4 m=e:=by
    have:=g<|4 - n;rw[show n+(4 - n)=4 by exact QK ‹_›,Eb o] at this;exact this
   rw[this,if_pos o];exact bA q
  ·by_cases l:(M.runFor 4 m).outcome.isSome=aB
   ·rw[if_pos l]
    have x:=K7 4 (n - 4) m;rw[Eb l,show 4+(n - 4)=n+0 by exact (vY<|sE ((aQ<|qt H):4<=n)),g 0] at x;rw[<-x,(rfl:M.runFor 0 e=e)];exact bA q
   ·rw[if_neg l]
    have u:Goes (b - 4) (M.runFor 4 m) e:=(ax (n - 4) ((bD (na (nL<|sE ((aQ<|qt H):4<=n)) N)<|nR<|sE ((bD (qt H) N):4<=b))) (λk=>by
     rw[<-K7,show 4+(n - 4+k)=n+k by exact (vY<|sE ((aQ<|qt H):4<=n))]
     exact g k))
    refine aR<|wpAny_rule ?_;exact i (b - 4) _ _ ((bD (nL<|sE ((bD (qt H) N):4<=b)) B)) ((II.mp λY=>(cY (na (na (qt H) N) B)<|gC 4 Y))) o u q
noncomputable def C1:Array Nat:= #[14,4,0,1,1,6,1,16,46,1]
noncomputable def yc (t:Array Nat) (s:Nat):Bool:=s==0||t.getD (s - 1) 0==10
noncomputable def X1 (t:Array Nat) (s:Nat) (f:Bool) (seen:jR) (pc pos hd:Nat) (a:Option Bool):M:={code:=C1,text:=t,lim:=t.size,start:=s,lastStart:=t.size,pc:=pc,pos:=pos,handed:=hd,outermost:=f,marks:= #[],frames:=[{wait:=.nextStart,pc:=5,pos:=s,outermost:=f}],weight:=1,seen:=seen,answer:=a}
noncomputable def Y1 (t:Array Nat) (s:Nat) (f:Bool) (seen:jR) (hd:Nat) (a:Bool):M:={code:=C1,text:=t,lim:=t.size,start:=s,lastStart:=t.size,pc:=5,pos:=s,handed:=hd,outermost:=f,marks:= #[],frames:=[],weight:=0,seen:=seen,answer:=aA a}
noncomputable abbrev S1 (t:Array Nat) (s:Nat) (f:Bool) (seen:jR):M:=X1 t s f seen 5 s s aF
theorem xg {t s f seen}:(X1 t s f seen 5 s s aF).step=if yc t s=aB then X1 t s f ((seen.add 6).add 44) 7 s s aF else X1 t s f ((seen.add 6).add 44) 5 s s (aA aE):=rfl
theorem Dl {t s f seen}:(X1 t s f seen 7 s s aF).step=if s>=t.size then X1 t s f (seen.add 16) 7 s s (aA aE) else
 (match (Except.ok (t.getD s 0==46,seen.add 16)) with
 |.error W=>(X1 t s f (seen.add 16) 7 s s aF).stick W
 |.ok (false,seen)=>X1 t s f seen 7 s s<|aA aE
 |.ok (true,seen)=>X1 t s f seen 9 (s+1) s aF):=rfl
theorem Ua {t s f seen}:(X1 t s f seen 9 (s+1) s aF).step=if (f && ((aE && (s+1) !=t.size)||(false && (s+1)==s)))=true then X1 t s f (seen.add 1) 9 (s+1) s (some false) else X1 t s f (seen.add 1) 9 (s+1) (s+1) (some true):=rfl
theorem XF {t s f seen}:(X1 t s f seen 9 (s+1) (s+1)<|aA aB).step=Y1 t s f seen (s+1) true:=rfl
theorem B8 {t s f seen pc}:(X1 t s f seen pc s s<|aA aE).step=if s<t.size then S1 t (s+1) aE seen else Y1 t s f seen s false:=rfl
theorem Dj {t s f seen h a}:(Y1 t s f seen h a).step={Y1 t s f seen h a with outcome:=aA<|if a then .matched else .failed}:=rfl
noncomputable def lJ (t:Array Nat) (s:Nat):Bool:=yc t s && t.getD s 0==46 && cP s t.size
theorem Sn {t s f seen} (h:lJ t s=aB): ∃m,Goes 5 (S1 t s f seen) m/\m.outcome=aA .matched/\m.start=s/\m.handed=s+1:=by unfold lJ at h;simp only[gn] at h;refine bI h λq Q=>bI q λH i=>?_;have r:=bJ Q;exact (kU _ (Goes.step rfl (xg.trans<|QHb H) (Goes.step rfl (Dl.trans<|(QHa<|II.mpr ‹_›).trans<|sb i rfl) (Goes.step rfl (Ua.trans<|QHa<|by induction f<;>simp) (Goes.step rfl XF (Goes.step rfl Dj (Goes.refl _)))))) rfl rfl rfl)
theorem QAe {t s f seen} (h:lJ t s=aE) (hs:s<t.size): ∃A,Goes 3 (S1 t s f seen)<|S1 t (s+1) aE A:=by
 by_cases H:yc t s=aB
 ·have i:(t.getD s 0==46)=false:=by
   unfold lJ at h;rw[H,show cP s t.size=aB from sS hs] at h;simpa using h
  exact ⟨_,Goes.step rfl (xg.trans<|QHb H) (Goes.step rfl (Dl.trans<|(QHa<|(λW=>(cY hs W))).trans<|sb i rfl) (Goes.step rfl (B8.trans<|QHb hs) (Goes.refl _)))⟩
 ·exact ⟨_,(Goes.step rfl (xg.trans<|QHa H) (Goes.step rfl (B8.trans<|QHb hs) (Goes.refl _))).le<|by decide⟩
theorem RC {t f seen}: ∃m,Goes 4 (S1 t t.size f seen) m/\m.outcome=aA .failed:=by
 by_cases h:yc t t.size=aB
 ·exact (ax _ (Goes.step rfl (xg.trans<|QHb h) (Goes.step rfl (Dl.trans<|QHb<|bh _) (Goes.step rfl (B8.trans<|QHa<|mK _) (Goes.step rfl Dj (Goes.refl _))))) rfl)
 ·exact (ax _ ((Goes.step rfl (xg.trans<|QHa h) (Goes.step rfl (B8.trans<|QHa<|mK _) (Goes.step rfl Dj (Goes.refl _)))).le<|by decide) rfl)
noncomputable def gb (p:Nat->Bool):Nat->Nat->Option Nat
 |0,_=>aF
 |k+1,s=>if p s then aA s else gb p k (s+1)
noncomputable def nz (b:Nat) (m:M) (r:Option (Nat×Nat)):Prop:= ∃R,Goes b m R/\match r with|some (p,e)=>R.outcome=aA .matched/\R.start=p/\R.handed=e|none=>R.outcome=aA .failed
theorem XY: ∀k s f seen,s+k=t.size->nz (5*(k+1)) (S1 t s f seen) ((gb (lJ t) k s).map λp=>(p,p+1)):=by
 intro k;induction k with
 |zero=>
  exact λs f seen h=>by
   obtain rfl:s=t.size:=by assumption
   exact aS (RC) λm g o=>(ax m (g.le<|gA _ _) o)
 |succ k i=>
  exact λs f seen h=>by
   dsimp only[gb];by_cases a:lJ t s=aB
   ·exact sb (QHb a)<|sv (Sn a) λm g N r Q=>(kU m (g.le<|gA _ _) N r Q)
   ·exact sb (QHa a)<|aV (QAe (by simpa using a)<|aQ<|nL h) λA g=>aS (i (s+1) aE A (by grind_order:s+1+k=t.size)) λm u o=>(ax m ((g.trans u).le<|by simp+arith) o)
theorem QDk (t:Array Nat) (s:Nat) (hs:s<=t.size):nz (5*(t.size+1)) (kj C1 t 0 s t.size aE) ((gb (lJ t) (t.size - s) s).map λp=>(p,p+1)):=by
 by_cases h:s<t.size
 ·have e:kj C1 t 0 s t.size aE=S1 t s aB (({}:jR).add 14):=by
   refine (?_:(if s>t.size||decide (t.size - s<1) then _ else _)=_);erw[if_neg (by simp;exact ⟨(aQ h),(λW=>(cY (na h<|nR<|sE ((aQ h):s<=t.size))<|nL W))⟩)];rfl
  exact sb e<|aS (XY (t.size - s) s true (({}:Sre.Seen).add 14) (Nat.add_sub_cancel' ‹_›)) λm g o=>(ax m (g.le<|(aQ<|gC 5<|nL<|sE ((aQ h):s<=t.size))) o)
 ·obtain rfl:s=t.size:=by exact jk (aQ hs) (aQ<|jN h)
  rw[Nat.sub_self];refine (ax ({kj C1 t 0 t.size t.size aE with outcome:=aA .failed}) ((Goes.step ?_ ?_<|Goes.refl _).le<|gA _ _) rfl)
  ·refine (?_:(if (decide (t.size>t.size)||decide (t.size - t.size<1))=true then _ else _:M).outcome=_)
   erw[if_pos<|by simp];rfl
  ·have e:kj C1 t 0 t.size t.size aE={code:=C1,text:=t,lim:=t.size,start:=t.size,pc:=5,pos:=t.size,handed:=t.size,marks:= #[],seen:=({}:jR).add 14,answer:=aA aE}:=by
    refine (?_:(if (decide (t.size>t.size)||decide (t.size - t.size<1))=true then _ else _:M)=_);erw[if_pos<|by simp];rfl
   erw[e];rfl
end
section
open PySem.Sre (M)
noncomputable def C2:Array Nat:= #[14,9,4,1,2,16,10,16,13,0,7,7,16,13,16,10,15,18,5,16,10,15,13,11,16,13,5,5,0,16,10,1,15,2,0,1]
noncomputable def jy (s:Nat) (f:Bool):IJ:={wait:=.nextStart,pc:=10,pos:=s,outermost:=f}
noncomputable def lV (s:Nat) (f:Bool) (pc:Nat):IJ:={wait:=.nextBranch,pc:=pc,pos:=s,outermost:=f,kept:={lastmark:= -1,lastindex:= -1,whole:=aE,marks:= #[]}}
noncomputable def Mg (s:Nat) (f:Bool):IJ:={wait:=.lookNot,pc:=26,pos:=s+1,outermost:=f,kept:={lastmark:= -1,lastindex:= -1,whole:=aE,marks:= #[]}}
noncomputable def Z2 (t:Array Nat) (s:Nat) (f:Bool) (seen:jR) (pc pos hd:Nat) (a:Option Bool) (F:List IJ) (W:Nat):M:={code:=C2,text:=t,lim:=t.size,start:=s,lastStart:=t.size,pc:=pc,pos:=pos,handed:=hd,outermost:=f,marks:= #[],frames:=F,weight:=W,seen:=seen,answer:=a}
section
variable {t:Array Nat} {s:Nat} {f:Bool} {seen:jR}
theorem Eu:(Z2 t s f seen 10 s s aF [jy s f] 1).step=Z2 t s f (seen.add 7) 12 s s aF [lV s f 11,jy s f] 2:=rfl
theorem xj {pc pos hd fr wt} (h: ∀seen,(Z2 t s g seen pc pos hd aF fr wt).step=if pos>=t.size then Z2 t s g (seen.add 16) pc pos hd (aA aE) fr wt else
 (match (Except.ok (t.getD pos 0==c,seen.add 16)) with
 |.error W=>(Z2 t s g (seen.add 16) pc pos hd aF fr wt).stick W
 |.ok (false,seen)=>Z2 t s g seen pc pos hd (aA aE) fr wt
 |.ok (true,seen)=>Z2 t s g seen (pc+2) (pos+1) hd aF fr wt)):
 (Z2 t s g seen pc pos hd aF fr wt).step=if (cP pos t.size && t.getD pos 0==c)=aB then Z2 t s g (seen.add 16) (pc+2) (pos+1) hd aF fr wt else Z2 t s g (seen.add 16) pc pos hd (aA aE) fr wt:=by
 rw[h];by_cases p:pos>=t.size
 ·rw[if_pos p,if_neg]
  intro q;rw[gn] at q;have:=bJ q.1;exact QHZ ‹_› (iH.mpr ‹_›)
 ·rw[if_neg p,show cP pos t.size=aB from sS<|qt ‹_›,Cv]
  cases t.getD pos 0==c<;>rfl
theorem HV {hd fr wt g}:(Z2 t s g seen 12 s hd aF fr wt).step=if (cP s t.size && t.getD s 0==13)=aB then Z2 t s g (seen.add 16) 14 (s+1) hd aF fr wt else Z2 t s g (seen.add 16) 12 s hd (aA aE) fr wt:=xj λO=>rfl
theorem Mb {hd fr wt g}:(Z2 t s g seen 14 (s+1) hd aF fr wt).step=if (cP (s+1) t.size && t.getD (s+1) 0==10)=aB then Z2 t s g (seen.add 16) 16 (s+2) hd aF fr wt else Z2 t s g (seen.add 16) 14 (s+1) hd (aA aE) fr wt:=xj λO=>rfl
theorem PY {hd fr wt g}:(Z2 t s g seen 19 s hd aF fr wt).step=if (cP s t.size && t.getD s 0==10)=aB then Z2 t s g (seen.add 16) 21 (s+1) hd aF fr wt else Z2 t s g (seen.add 16) 19 s hd (aA aE) fr wt:=xj λO=>rfl
theorem Uo {hd fr wt g}:(Z2 t s g seen 24 s hd aF fr wt).step=if (cP s t.size && t.getD s 0==13)=aB then Z2 t s g (seen.add 16) 26 (s+1) hd aF fr wt else Z2 t s g (seen.add 16) 24 s hd (aA aE) fr wt:=xj λO=>rfl
theorem Yv {hd fr wt g}:(Z2 t s g seen 29 (s+1) hd aF fr wt).step=if (cP (s+1) t.size && t.getD (s+1) 0==10)=aB then Z2 t s g (seen.add 16) 31 (s+2) hd aF fr wt else Z2 t s g (seen.add 16) 29 (s+1) hd (aA aE) fr wt:=xj λO=>rfl
theorem Tg {pos hd fr wt}:(Z2 t s f seen 16 pos hd aF fr wt).step=Z2 t s f (seen.add 15) 35 pos hd aF fr wt:=rfl
theorem Xz {pos hd fr wt}:(Z2 t s f seen 21 pos hd aF fr wt).step=Z2 t s f (seen.add 15) 35 pos hd aF fr wt:=rfl
theorem QBM {pos hd fr wt}:(Z2 t s f seen 32 pos hd aF fr wt).step=Z2 t s f (seen.add 15) 35 pos hd aF fr wt:=rfl
theorem E0 {pos hd fr wt}:(Z2 t s f seen 35 pos hd aF fr wt).step=if (f && ((aE && pos !=t.size)||(false && pos==s)))=true then Z2 t s f (seen.add 1) 35 pos hd (some false) fr wt else Z2 t s f (seen.add 1) 35 pos pos (some true) fr wt:=rfl
theorem Lh {pc pos hd g}:(Z2 t s g seen pc pos hd (aA aE) [lV s f 11,jy s f] 2).step=Z2 t s f seen 19 s s aF [lV s f 18,jy s f] 2:=rfl
theorem X0 {pc pos hd g}:(Z2 t s g seen pc pos hd (aA aE) [lV s f 18,jy s f] 2).step=Z2 t s f seen 24 s s aF [lV s f 23,jy s f] 2:=rfl
theorem YA {hd}:(Z2 t s f seen 26 (s+1) hd aF [lV s f 23,jy s f] 2).step=Z2 t s aE (seen.add 5) 29 (s+1) (s+1) aF [Mg s f,lV s f 23,jy s f] 3:=rfl
theorem QCe {pc pos hd g}:(Z2 t s g seen pc pos hd (aA aE) [Mg s f,lV s f 23,jy s f] 3).step=Z2 t s f seen 32 (s+1) hd aF [lV s f 23,jy s f] 2:=rfl
theorem Ek {k pc pos hd g}:(Z2 t s g seen pc pos hd (aA aB) [lV s f k,jy s f] 2).step=Z2 t s f seen k s hd (aA aB) [jy s f] 1:=rfl
theorem Ej {pc pos hd g}:(Z2 t s g seen pc pos hd (aA aB) [jy s f] 1).step=Z2 t s f seen 10 s hd (aA aB) [] 0:=rfl
theorem GX {a pc pos hd wt}:(Z2 t s f seen pc pos hd (aA a) [] wt).step={Z2 t s f seen pc pos hd (aA a) [] wt with outcome:=aA<|if a then .matched else .failed}:=rfl
theorem GD: ¬ ((f && ((aE && pos !=t.size)||(false && pos==s)))=true):=by induction f<;>simp
noncomputable def hj (t:Array Nat) (s:Nat):Bool:=cP s t.size && (t.getD s 0==10||t.getD s 0==13)
noncomputable def qL (t:Array Nat) (s:Nat):Nat:=if t.getD s 0==13 && (cP (s+1) t.size && t.getD (s+1) 0==10) then s+2 else s+1
theorem QED (h:hj t s=aB): ∃m,Goes 20 (Z2 t s f seen 10 s s aF [jy s f] 1) m/\m.outcome=aA .matched/\m.start=s/\m.handed=qL t s:=by
 unfold hj at h;rw[gn] at h;refine bI h λA i=>?_;by_cases c:(t.getD s 0==13)=aB
 ·have H:(cP s t.size && t.getD s 0==13)=true:=by simp only[A,c];rfl
  have K: ¬ ((cP s t.size && t.getD s 0==10)=aB):=by rw[beq_iff_eq] at c;erw[c];simp
  by_cases n:(cP (s+1) t.size && t.getD (s+1) 0==10)=aB
  ·refine (kU _ ((Goes.step rfl Eu (Goes.step rfl (HV.trans<|QHb H) (Goes.step rfl (Mb.trans<|QHb n) (Goes.step rfl Tg (Goes.step rfl (E0.trans<|QHa GD) (Goes.step rfl Ek (Goes.step rfl Ej (Goes.step rfl GX (Goes.refl _))))))))).le<|by decide) rfl rfl ?_)
   exact (QHb (by simp only[c,n];rfl)).symm
  ·refine (kU _ ((Goes.step rfl Eu (Goes.step rfl (HV.trans<|QHb H) (Goes.step rfl (Mb.trans<|QHa n) (Goes.step rfl Lh (Goes.step rfl (PY.trans<|QHa K) (Goes.step rfl X0 (Goes.step rfl (Uo.trans<|QHb H) (Goes.step rfl YA (Goes.step rfl (Yv.trans<|QHa n) (Goes.step rfl QCe
    (Goes.step rfl QBM (Goes.step rfl (E0.trans<|QHa GD) (Goes.step rfl Ek (Goes.step rfl Ej (Goes.step rfl GX (Goes.refl _)))))))))))))))).le (by decide)) rfl rfl ?_)
   exact (QHa (by rw[gn];exact λq=>n q.2)).symm
 ·have K:(t.getD s 0==10)=true:=by
   rw[IK] at i;exact i.resolve_right c
  have H: ¬ ((cP s t.size && t.getD s 0==13)=aB):=by rw[gn];exact λq=>c q.2
  have l:(cP s t.size && t.getD s 0==10)=true:=by simp only[A,K];rfl
  refine (kU _ ((Goes.step rfl Eu (Goes.step rfl (HV.trans<|QHa H) (Goes.step rfl Lh (Goes.step rfl (PY.trans<|QHb l) (Goes.step rfl Xz (Goes.step rfl (E0.trans<|QHa GD) (Goes.step rfl Ek (Goes.step rfl Ej (Goes.step rfl GX (Goes.refl _)))))))))).le<|by decide) rfl rfl ?_);exact (QHa (by rw[gn];exact λq=>c q.1)).symm
end
theorem QAg (c:Nat) (seen:jR): ∃s,AB C2 c C2.size 5 aB seen=.ok (c==10||c==13,s):=by
 have e:AB C2 c 36 5 aB seen=if (c==10)=aB then .ok (aB,seen.add 16) else if (c==13)=aB then .ok (aB,(seen.add 16).add 16) else .ok (aE,((seen.add 16).add 16).add 0):=rfl;erw[e];by_cases h:(c==10)=aB
 ·exact sb (QHb h)<|sb h<|⟨_,rfl⟩
 ·erw[if_neg h]
  by_cases H:(c==13)=aB
  ·rw[if_pos H,H,Bool.or_true]
   exact ⟨_,rfl⟩
  ·exact sb (QHa H)<|⟨_,by simp only[Bool.not_eq_true] at h H;(erw[h];erw[H]);rfl⟩
theorem Q_ (c:m.code=C2) (a:m.text=t) (hl:m.lim=t.size): ∀k s seen,t.size<s+k-> ∃A,AD m k s seen=.ok (gb (hj t) k s,A):=by
 intro O;induction O with
 |zero=>exact λs seen O=>⟨seen,rfl⟩
 |succ k i=>
  exact λs seen h=>by
   dsimp only[AD,gb];erw[hl];by_cases hs:s>=t.size
   ·have hb:hj t s=false:=by
     dsimp only[hj];erw[(by rw[uQ];intro q;have:=bJ q;exact absurd ‹_› (iH.mpr ‹_›):cP s t.size=aE)];rfl
    rw[if_pos hs,hb];refine ⟨seen,?_⟩
    have: ∀k s,s>=t.size->gb (hj t) k s=none:=by
     intro k;induction k with
     |zero=>intros;rfl
     |succ k i=>
      intro s hs;dsimp only[gb];have hb:hj t s=false:=by dsimp only[hj];rw[show cP s t.size=aE by rw[uQ];intro q;have:=bJ q;exact cY hs this];rfl
      rw[hb];exact i (s+1)<|Hl ‹_›
    rw[if_neg (by decide),this k (s+1) (Hl ‹_›)]
   ·rw[if_neg hs,c,a]
    refine aV (QAg (t.getD s 0) seen) λA e=>?_;rw[e];have hb:hj t s=(t.getD s 0==10||t.getD s 0==13):=by dsimp only[hj];rw[show Nat.blt s t.size=true from Nat.ble_eq_true_of_le<|Nat.lt_of_not_le ‹_›];rfl
    rw[hb];induction hh:(t.getD s 0==10||t.getD s 0==13) with
    |true=>exact ⟨A,rfl⟩
    |false=>exact aV (i (s+1) A<|aQ h) λs2 e2=>⟨s2,by rw[if_neg<|by decide];exact e2⟩
theorem yv: ∀{k s i:Nat},gb p k s=aA i->p i=aB/\s<=i/\i<s+k:=by
 intro k;induction k with
 |zero=>exact λh=>ay h
 |succ k d=>
  exact @λs i h=>by
   unfold gb at h;by_cases q:p s=aB
   ·rw[if_pos q] at h
    cases h
    exact ⟨q,bh _,by simp+arith⟩
   ·rw[if_neg q] at h
    exact eN (d h) λa b c=>⟨a,by exact sD ‹_›,by exact aQ c⟩
theorem QCn (t:Array Nat) (s:Nat) (hs:s<=t.size):nz 21 (kj C2 t 0 s t.size aE) ((gb (hj t) (t.size+1 - s) s).map λp=>(p,qL t p)):=by
 by_cases h:s<t.size
 ·have e:kj C2 t 0 s t.size aE=(match AD {code:=C2,text:=t,lim:=t.size,start:=s,lastStart:=t.size,pc:=10,pos:=s,handed:=s,marks:= #[],seen:=({}:jR).add 14} (t.size+1 - s) s (({}:jR).add 14) with
   |.ok (some p,seen)=>Z2 t p aB seen 10 p p aF [jy p aB] 1
   |.ok (none,seen)=>({code:=C2,text:=t,lim:=t.size,start:=s,lastStart:=t.size,pc:=10,pos:=s,handed:=s,marks:= #[],seen:=seen,answer:=aA aE}:M)
   |.error W=>({code:=C2,text:=t,lim:=t.size,start:=s,lastStart:=t.size,pc:=10,pos:=s,handed:=s,marks:= #[],seen:=({}:jR).add 14}:M).stick W):=by
   refine (?_:(if s>t.size||decide (t.size - s<1) then _ else _)=_);erw[if_neg (by simp;exact ⟨(aQ h),(λC=>(cY (na h<|nR<|sE ((aQ h):s<=t.size))<|nL C))⟩)];rfl
  refine sb e<|aV (Q_ rfl rfl rfl (t.size+1 - s) s (({}:Sre.Seen).add 14) ((aQ<|nR<|sE ((aQ h):s<=t.size+1)))) λA e2=>sb e2 ?_
  induction F:gb (hj t) (t.size+1 - s) s with
  |some p=>exact aS (QED (yv F).1) λR g o=>(ax R (g.le<|by decide) o)
  |none=>exact (ax _ ((Goes.step rfl rfl (Goes.refl _)).le<|by decide) rfl)
 ·obtain rfl:s=t.size:=by exact jk (aQ hs) (aQ<|jN h)
  have F:gb (hj t) (t.size+1 - t.size) t.size=none:=by erw[(by simp+arith:t.size+1 - t.size=1)];dsimp only[gb,gb];rw[if_neg];dsimp only[hj];rw[show cP t.size t.size=aE by rw[uQ];intro q;have:=bJ q;exact absurd ‹_› (iH.mpr ‹_›),IL];decide
  rw[F];have e:kj C2 t 0 t.size t.size aE={code:=C2,text:=t,lim:=t.size,start:=t.size,pc:=10,pos:=t.size,handed:=t.size,marks:= #[],seen:=({}:jR).add 14,answer:=aA aE}:=by refine (?_:(if (decide (t.size>t.size)||decide (t.size - t.size<1))=true then _ else _:M)=_);rw[if_pos<|by simp];rfl
  rw[e];exact (ax _ ((Goes.step rfl rfl (Goes.refl _)).le<|by decide) rfl)
end
noncomputable def se (t:Array Nat) (d:Nat):Option (Nat×Nat):=(gb (lJ t) (t.size - d) d).map λp=>(p,p+1)
noncomputable def rO (t:Array Nat) (d:Nat):Option (Nat×Nat):=(gb (hj t) (t.size+1 - d) d).map λp=>(p,qL t p)
noncomputable def yo:Str:=⟨#[46,46]⟩
noncomputable def yu:Str:=⟨#[13,10]⟩
noncomputable def hF (nx:Nat->Option (Nat×Nat)) (rep:aG) (t:Array Nat):Nat->Nat->List aG
 |0,_=>[]
 |k+1,d=>(nx d).elim (if d<t.size then [⟨t.extract d t.size⟩] else []) λq=>(if d<q.1 then [⟨t.extract d q.1⟩] else [])++rep::hF nx rep t k q.2
theorem Mp {nx:Nat->Option (Nat×Nat)} {rep:aG} {k d:Nat}:hF nx rep t (k+1) d=(nx d).elim (if d<t.size then [⟨t.extract d t.size⟩] else []) λq=>(if d<q.1 then [⟨t.extract d q.1⟩] else [])++rep::hF nx rep t k q.2:=rfl
theorem BE {nx:Nat->Option (Nat×Nat)} {rep:aG} {k d:Nat} (h:nx d=aF):hF nx rep t (k+1) d=if d<t.size then [⟨t.extract d t.size⟩] else []:=Mp.trans (by rw[h];rfl)
theorem Bb {nx:Nat->Option (Nat×Nat)} {rep:aG} {k d a e:Nat} (h:nx d=aA (a,e)):hF nx rep t (k+1) d=(if d<a then [⟨t.extract d a⟩] else [])++rep::hF nx rep t k e:=Mp.trans (by rw[h];rfl)
noncomputable def qC (ts:List aG):Str:=if ts.isEmpty then ⟨#[]⟩ else DJ ⟨#[]⟩ ts
noncomputable def q1 (x:aG):Str:=qC<|hF (se x.cps) yo x.cps (x.cps.size+1) 0
noncomputable def q2 (x:aG):Str:=qC<|hF (rO x.cps) yu x.cps (x.cps.size+1) 0
noncomputable def Mi (d:aK):Option (List aK):=d.casesOn (motive_1:=λO=>Option<|List aK) aF (λO=>aF) (λO=>aF) (λO=>aF) (λO=>aF) (λn=>aA n) λO=>aF
theorem VJ:Mi d=aA n->d=.tuple n:=d.casesOn (λh=>ay h) (λO h=>ay h) (λO h=>ay h) (λO h=>ay h) (λO h=>ay h) (λO h=>QHd QFV<|kC h) λO h=>ay h
noncomputable def yT (d:aK):Option Str:=d.casesOn (motive_1:=λO=>Option aG) aF (λO=>aF) (λO=>aF) (λn=>aA n) (λO=>aF) (λO=>aF) λO=>aF
theorem Oi:yT d=aA n->d=.str n:=d.casesOn (λh=>ay h) (λO h=>ay h) (λO h=>ay h) (λO h=>QHd sJ<|kC h) (λO h=>ay h) (λO h=>ay h) λO h=>ay h
noncomputable def tQ (d:aK):Bool:=(((Mi d).bind B9).bind λp=>(yT p.1).bind λO=>yT p.2).isSome
theorem QBJ (h:tQ d=aB): ∃x y,d=.tuple [.str x,.str y]:=aV (mQ.mp h) λy h=>aS (AE.mp h) λp A H=>aS (AE.mp A) λl Q b=>aS (AE.mp H) λx r P=>⟨x,y,(VJ Q).trans<|QHd QFV<|(HK b).trans<|by rw[Oi r,Oi P]⟩
noncomputable abbrev Gu (d:aK):Fl->Ls->Prop:=λf O=>iW f d
noncomputable def Gw (d:aK) (hs:List aK):Fl->Ls->Prop:=λf l=>iW f d/\aL l aT=.own hs/\aL l bR=.emp
noncomputable def l6 (o:bj) (k:Nat) (b:List SW) (xs:List aK) (d:aK):Prop:=xs.length=k/\ ∃P,sW (b.map SW.w) o (jH (bg k) (xs.map .val)<|vq P)<|Gu d
noncomputable def vg (o:bj) (k:Nat) (exs:List Sl) (b:List SW) (xs hs:List aK) (d:aK) (hs':List aK):Prop:=(xs.map xS++exs).length+1=k/\sW (b.map SW.w) o (jH (bg k) (.inst::(xs.map .val++exs))<|rH hs) (Gw d hs')
noncomputable def tF (o:bj) (k:Nat) (exs:List Sl) (b:List SW) (xs hs:List aK) (d:aK):Prop:=(xs.map xS++exs).length+1=k/\sW (b.map SW.w) o (jH (bg k) (.inst::(xs.map .val++exs))<|rR hs) (Gu d)
namespace B01
noncomputable def wO:Stmt:=yy (AF pg) 20
noncomputable def E2:nS:=Ba (.Constant .none 0 default) (λO O O=>.Constant .none 0 default) (λO=>.Constant .none 0 default) (λv=>v) wO
noncomputable def x6:List (Option nS):=tC [] (λk O O=>k) (λO=>[]) [] (λO O=>[]) E2
noncomputable def xf:List nS:=tC [] (λO v O=>v) (λO=>[]) [] (λO O=>[]) E2
noncomputable def xT:Pos:=tC default (λO O p=>p) (λO=>default) default (λO O=>default) E2
noncomputable def Jv (x:nS):Const:=tC .none (λO O O=>.none) (λc=>c) .none (λO O=>.none) x
noncomputable def QBY (ks:List (Option nS)) (vs:List nS):List (Int×fY):=(ks.zip vs).filterMap λp=>p.1.bind λk=>match Jv k,Jv p.2 with
 |.int i,.str s=>aA (i,s)
 |_,_=>aF
noncomputable def b3:List (Int×fY):=QBY x6 xf
noncomputable def gQ:List Int:=[65024,65025,65026,65027,65028,65029,6150,65030,65031,65032,65033,6155,6156,6157,8203,8204,8205,65034,65035,65036,65037,65038,65039,173,847,8288,65279]
noncomputable def rh (i:Int):Dat:=match b3.lookup i with|some s=>.str s|none=>.none
noncomputable def EK:List (Nat×(Nat×List SW)):=[(1,(1,Cc)),(2,(1,Ox)),(3,(3,tM)),(4,(6,b_div3n2n)),(5,(2,x8)),(6,(2,BY)),(7,(2,b_divmod_pos)),(8,(2,CK)),(10,(1,OS)),(11,(1,Gp)),(12,(2,HJ)),(13,(2,OY)),(14,(1,GC)),(15,(1,Ow)),(17,(1,JA)),(19,(2,b_law_book)),(26,(1,FE)),(27,(1,Dk)),(28,(2,LB)),(29,(3,b_law_counts)),(30,(2,b_law_bare)),(31,(2,b_law_found)),(32,(2,b_law_common)),(33,(3,HA))]
inductive OF (o:bj) (f:Nat) (xs:List aK) (d:aK):Prop
 |q {x:Str}:f=9->xs=[.str x]->d=.str (q1<|q2 x)->x.cps.size<=400000->(q2 x).cps.size<=400000->OF o f xs d
 |mk {k bs}:EK.lookup f=some (k,bs)->l6 o k bs xs d->OF o f xs d
inductive OH (o:bj) (k:Nat) (xs hs:List aK) (d:aK) (hs':List aK):Prop
 |add:k=0->vg o 4 [.emp] yz xs hs d hs'->OH o k xs hs d hs'
 |del:k=9->vg o 2 [] Gh xs hs d hs'->OH o k xs hs d hs'
inductive OR (o:bj) (k:Nat) (xs hs:List aK) (d:aK):Prop
 |all:k=1->tF o 2 [] FA xs hs d->OR o k xs hs d
 |items:k=2->hs.all tQ=true->tF o 1 [] CR xs hs d->OR o k xs hs d
inductive OL (o:bj) (f:Nat) (xs:List aK) (r:Ls) (d:aK) (r':Ls):Prop
 |a:f=0->vy o 0 [200,201] [0,1,2,3] none (L5.map SW.w) xs r d r'->OL o f xs r d r'
 |b:f=1->vy o 1 [200,201,202] [1,2,3] (some 2) (E5.map SW.w) xs r d r'->OL o f xs r d r'
 |c:f=2->vy o 2 [200,201] [0,1,2] none (Dv.map SW.w) xs r d r'->OL o f xs r d r'
noncomputable def Kh:bj:={F:=λO O O=>False,H:=λO O O O O=>False,R:=λO O O O=>False,L:=λO O O O O=>False,b1:=λi=>gQ.contains i,b3:=rh,gi:=λx i=>x= "_DIV_LIMIT" /\i=4000,gs:=λO O=>False}
noncomputable def aU:Nat->bj
 |0=>Kh
 |n+1=>{Kh with F:=OF<|aU n,H:=OH<|aU n,R:=OR<|aU n,L:=OL<|aU n}
theorem oG (n:Nat) {x:aG} (h:x= "_DIV_LIMIT" /\i=4000):(aU n).gi x i:=by induction n<;>exact h
theorem da {n f k:Nat} (h:l6 (aU n) k bs xs d) (e:EK.lookup f=aA (k,bs)):(aU<|n+1).F f xs d:=OF.mk e h
end B01
theorem d5 (b:List SW) (k:Nat) (hs:Hs) (o:bj) (xs:List aK) (d:aK) (e:xs.length=k):kA (jH (bg k) (xs.map .val) []) λl=>sX (b.map SW.x) o hs l λv l O=>iW v d->l6 o k b xs d:=lq<|(oA<|oT b).r (λq=>⟨e,[],q⟩) λO O O q=>q
theorem rm (b:List SW) (k:Nat) (P:List Nat) (hs:Hs) (o:bj) (xs:List aK) (d:aK) (e:xs.length=k):kA (jH (bg k) (xs.map .val)<|vq P) λl=>sX (b.map SW.x) o hs l λv l O=>iW v d->l6 o k b xs d:=lq<|(oA<|oT b).r (λq=>⟨e,P,q⟩) λO O O q=>q
theorem LG (b:List SW) (k:Nat) (exs:List Sl) (hs:Hs) (o:bj) (xs H:List aK) (d:aK) (h:List aK) (e:(xs.map xS++exs).length+1=k):kA (jH (bg k) (.inst::(xs.map .val++exs))<|rH H) λl=>sX (b.map SW.x) o hs l λv l O=>Gw d h v l->vg o k exs b xs H d h:=lq<|(oA<|oT b).r (λq=>⟨e,q⟩) λO O O q=>q
theorem Nn (b:List SW) (k:Nat) (exs:List Sl) (hs:Hs) (o:bj) (xs H:List aK) (d:aK) (e:(xs.map xS++exs).length+1=k):kA (jH (bg k) (.inst::(xs.map .val++exs))<|rR H) λl=>sX (b.map SW.x) o hs l λv l O=>iW v d->tF o k exs b xs H d:=lq<|(oA<|oT b).r (λq=>⟨e,q⟩) λO O O q=>q
theorem R8 {P:List α->Prop} (h:P []): ∀us,us.length=0->P us
 |[],_=>h
theorem j6 {P:List α->Prop} (h: ∀u us,us.length=n->P (u::us)): ∀us,us.length=n+1->P us
 |u::us,e=>h u us<|zz e
theorem lC {P:List α->Prop} (h: ∀a,P [a]): ∀us,us.length=1->P us:=j6 λa=>R8<|h a
theorem jK {P:List α->Prop} (h: ∀a b,P [a,b]): ∀us,us.length=2->P us:=j6 λa=>lC<|h a
theorem yl {P:List α->Prop} (h: ∀a b c,P [a,b,c]): ∀us,us.length=3->P us:=j6 λa=>jK<|h a
theorem Zd {P:List α->Prop} (h: ∀a b c d e,P [a,b,c,d,e]): ∀us,us.length=5->P us:=j6 λa=>j6 λb=>yl<|h a b
theorem Me {P:List α->Prop} (h: ∀a b c d e f,P [a,b,c,d,e,f]): ∀us,us.length=6->P us:=j6 λa=>Zd<|h a
theorem QBp {P:List α->Prop} (h: ∀a b c d e f g i j,P [a,b,c,d,e,f,g,i,j]): ∀us,us.length=9->P us:=j6 λa=>j6 λb=>j6 λc=>Me<|h a b c
theorem QGs {P:List α->Prop} (H:P []) (h: ∀a b c d e f g i j,P [a,b,c,d,e,f,g,i,j]) {us:List α} (e:us=[]\/us.length=9):P us:=e.elim (λe=>e▸H)<|QBp h us
theorem lt0 {P:Nat->Prop}: ∀k,k<0->P k:=λk h=>QHZ h<|QJ k
theorem Cj {P:Nat->Prop} (h: ∀k,k<n->P k) (hn:P n): ∀k,k<n+1->P k:=λk K=>(Nat.lt_succ_iff_lt_or_eq.mp K).elim (h k) λe=>e▸hn
theorem SX {P:Nat->Prop} (a:P 0) (b:P 1): ∀k,k<2->P k:=Cj (Cj lt0 a) b
theorem LW {P:Nat->Prop} (a:P 0) (b:P 1) (c:P 2): ∀k,k<3->P k:=Cj (SX a b) c
theorem M9 {P:Nat->Prop} (a:P 0) (b:P 1) (c:P 2) (d:P 3): ∀k,k<4->P k:=Cj (LW a b c) d
theorem l3e {c:Nat} {G:Prop} (h:c<3) (a:c=0->G) (b:c=1->G) (d:c=2->G):G:=LW (P:=λk=>c=k->G) a b d c h rfl
theorem l4e {c:Nat} {G:Prop} (h:c<4) (a:c=0->G) (b:c=1->G) (d:c=2->G) (e:c=3->G):G:=M9 (P:=λk=>c=k->G) a b d e c h rfl
noncomputable abbrev vA:=(h:Type)->Ctx->bP->hO->ba h->Option (Except aI h×bP×hO)
noncomputable abbrev yV:=Ctx->bP->hO->Option (zq×hO)
noncomputable def Oj (pr:sH) (P:bZ) (ev:vA) (l:yV):vA:=λα H p s m=>m.casesOn (motive:=λO=>Option<|Except aI α×bP×hO)
 (λa=>aA (.ok a,p,s))
 (λe=>aA (.error e,p,s))
 (λO=>aF)
 (λO=>aF)
 (λO k=>ev α H p s<|k ())
 (λQ k=>ev α H Q s<|k ())
 (λa O k=>cond (cP a s.n) ((s.tree.get a).bind λo=>(alive o).bind λo'=>ev α H p s<|k o') aF)
 (λa O f k=>cond (cP a s.n) ((s.tree.get a).bind λo=>(alive o).bind λO=>ev α H p {s with tree:=s.tree.set a f} (k ())) aF)
 (λo k=>cond ((s.tree.ins s.n o).get s.n).isSome (ev α H p {s with tree:=s.tree.ins s.n o,n:=s.n+1} (k s.n)) aF)
 (λa k=>cond (cP a s.n) ((s.tree.get a).bind λo=>ev α H p s<|k<|alive o)<|ev α H p s<|k aF)
 (λO k=>ev α H p s<|k ())
 (λO O=>aF)
 (λk=>ev α H p {s with toks:=s.toks+1} (k s.toks))
 (λk=>ev α H p s<|k ⟨pr,P⟩)
 (λO O O=>aF)
 (λO O O=>aF)
 (λc h O O k=>(l (H.enter c h p) p s).bind λq=>ev α H p q.2<|k q.1)
 (λown k=>ev α H p s<|k<|if own then H.own else H.handled)
 (λO O=>aF)
 (λO O=>aF)
 (λO O O O=>aF)
 (λO O O O=>aF)
 (λk=>ev α H p s<|k<|(H.code,p)::H.below)
 (λO O=>aF)
 (λk=>ev α H p s<|k 0)
 (λO O O O O=>aF)
noncomputable def M5 (den:Code->ba Fin) (i:vA) (l:yV):yV:=λh p s=>(i Fin h p s<|den h.code).bind λq=>match q.1 with
 |.ok (.done f)=>aA (.ok f,q.2.2)
 |.ok (.again c)=>cond c.quiet (l (h.goto c) q.2.1 q.2.2) aF
 |.error e=>aA (.error e,q.2.2)
noncomputable def Dw (den:Code->ba Fin) (pr:sH) (P:bZ) (n:Nat):vA×yV:=n.rec (λO O O O O=>aF,λO O O=>aF) λO r=>(Oj pr P r.1 r.2,M5 den r.1 r.2)
noncomputable def gh (den:Code->ba Fin) (pr:sH) (P:bZ) (n:Nat):vA:=(Dw den pr P n).1
theorem uy {α:Type} {x:Option α} {r:α} (h:cond b x aF=aA r):b=aB/\x=aA r:=by induction b;exact ay h;exact ⟨rfl,h⟩
theorem yS {α β:Type} {x:Option α} {f:α->Option β} {r:β} (h:x.bind f=aA r): ∃a,x=aA a/\f a=aA r:=AE.mp h
noncomputable def Ed {α:Type} (Q:α->bP->aN->Prop) (E:aI->bP->aN->Prop) (x:Except aI α×bP×hO):Prop:=x.1.rec (λe=>E e x.2.1 x.2.2.abs) λa=>Q a x.2.1 x.2.2.abs
noncomputable def FY (M:DB) (e:vA):Prop:= ∀(h:Type) (H:Ctx) (p:bP) (s:hO) (m:ba h) (x:Except aI h×bP×hO),e h H p s m=aA x-> ∀(Q:h->bP->aN->Prop) (E:aI->bP->aN->Prop),Ed Q E x->f6 M H m Q E p s.abs
noncomputable def Bl (M:DB) (e:yV):Prop:= ∀(h:Ctx) (p:bP) (s:hO) (x:zq×hO),e h p s=aA x-> ∀R:zq->aN->Prop,R x.1 x.2.abs->wpCode M h R p s.abs
theorem WE {s:hO} (g:s.tree.get a=aA o):({s with tree:=s.tree.set a f}).abs={s.abs with heap:=s.abs.heap.update a f}:=QHd (λh=>QFW h _ _ _ _)<|absHeap_set g
theorem Rx {s:hO} (g:((s.tree.ins s.n o).get s.n).isSome=aB):({s with tree:=s.tree.ins s.n o,n:=s.n+1}).abs={s.abs with heap:=s.abs.heap.push o}:=QHd (λh=>QFW h _ _ _ _)<|absHeap_ins g
section
theorem Bp {β:Type} {P:β->Prop} {a b:β} (h:aA a=aA b) (k:P b):P a:=kC h▸k
theorem Je {s:hO} {β:Type} {f:bH->Option β} {x:β} (h:cond (cP a s.n) ((s.tree.get a).bind λo=>(alive o).bind f) aF=aA x): ∃o o',s.tree.get a=aA o/\s.abs.heap.get? a=aA o'/\f o'=aA x:=(yS (uy h).2).elim λo g=>(yS g.2).elim λo' al=>⟨o,o',g.1,(IM (bJ (uy h).1) g.1).trans al.1,al.2⟩
theorem Tc {s:hO} {α β:Type} {k:Option bH->ba α} {f:ba α->Option β} {x:β} {Q:α->bP->aN->Prop} {E:aI->bP->aN->Prop} (i: ∀k,f k=aA x->f6 ⟨den,pr,w⟩ Γ k Q E p s.abs) (h:cond (cP a s.n) ((s.tree.get a).bind λo=>f<|k<|alive o) (f<|k aF)=aA x):f6 ⟨den,pr,w⟩ Γ (k<|s.abs.heap.get? a) Q E p s.abs:=by
 by_cases b:a<s.n
 ·exact (yS<|(QHd (cond · _ _)<|sS b).symm.trans h).elim λo h=>(IM b h.1).symm▸i _ h.2
 ·exact (abs_get_none b).symm▸i _ ((QHd (cond · _ _)<|uQ.mpr λq=>b<|bJ q).symm.trans h)
theorem Uh (i:FY ⟨den,pr,w⟩ ev) (r:Bl ⟨den,pr,w⟩ ec) {α:Type} {s:hO} {m:ba α} {x:Except aI α×bP×hO} {Q:α->bP->aN->Prop} {E:aI->bP->aN->Prop} (M:Ed Q E x):Oj pr w.params ev ec α Γ p s m=aA x->f6 ⟨den,pr,w⟩ Γ m Q E p s.abs:=
 m.casesOn
  (λa h=>Bp (P:=Ed Q E) h M)
  (λe h=>Bp (P:=Ed Q E) h M)
  (λO h=>ay h)
  (λO h=>ay h)
  (λO O h=>i _ _ _ _ _ _ h _ _ M)
  (λO O h=>i _ _ _ _ _ _ h _ _ M)
  (λa q k h=>(Je h).elim λo h=>h.elim λo' h=>⟨o',h.2.1,i _ _ _ _ _ _ h.2.2 _ _ M⟩)
  (λa q f k h=>(Je h).elim λo h=>h.elim λo' h=>⟨QHd Option.isSome h.2.1,WE h.1▸i _ _ _ _ _ _ h.2.2 _ _ M⟩)
  (λo k h=>(QL s.tree s.n s.life▸Rx (uy h).1▸i _ _ _ _ _ _ (uy h).2 _ _ M:f6 _ _ (k s.abs.heap.objs.size) _ _ _ _))
  (λa k h=>Tc (λk h=>i _ _ _ _ _ _ h _ _ M) h)
  (λO O h=>i _ _ _ _ _ _ h _ _ M)
  (λO O h=>ay h)
  (λO h=>i _ _ _ _ _ _ h _ _ M)
  (λO h=>i _ _ _ _ _ _ h _ _ M)
  (λO O O h=>ay h)
  (λO O O h=>ay h)
  (λc hd g l k h=>(yS h).elim λx h=>r _ _ _ _ h.1 _<|i _ _ _ _ _ _ h.2 _ _ M)
  (λO O h=>i _ _ _ _ _ _ h _ _ M)
  (λO O h=>ay h)
  (λO O h=>ay h)
  (λO O O O h=>ay h)
  (λO O O O h=>ay h)
  (λO h=>i _ _ _ _ _ _ h _ _ M)
  (λO O h=>ay h)
  (λO h=>i _ _ _ _ _ _ h _ _ M)
  (λO O O O O h=>ay h)
theorem Zz (d:FY ⟨den,pr,w⟩ ev) (i:Bl ⟨den,pr,w⟩ ec):Bl ⟨den,pr,w⟩ (M5 den ev ec):=λH p s x h R r=>by
 rw[QFX];refine (yS h).elim λy hb=>d _ _ _ _ _ _ hb.1 _ _ ?_;have K:=hb.2;clear hb h;induction y with|mk y z=>
 induction y with
 |error e=>exact (Bp (P:=λq:zq×hO=>R q.1 q.2.abs) K r)
 |ok f=>
  induction f with
  |done f=>exact (Bp (P:=λq:zq×hO=>R q.1 q.2.abs) K r)
  |again c=>exact ⟨(uy K).1,i _ _ _ _ (uy K).2 R r⟩
theorem Ld (n:Nat):FY ⟨den,pr,w⟩ (Dw den pr w.params n).1/\Bl ⟨den,pr,w⟩ (Dw den pr w.params n).2:=by
 induction n with
 |zero=>exact ⟨λO O O O O O h=>ay h,λO O O O h=>ay h⟩
 |succ n i=>exact ⟨λO O O O O O h O O q=>Uh i.1 i.2 q h,Zz i.1 i.2⟩
end
noncomputable def QEM:Obj:=⟨.none,aF,.freed, #[]⟩
noncomputable def iC (t:BT) (n:Nat) (cZ:List Nat) (a:Nat):Option Obj:=if cP a n then (if cZ.contains a then aF else (t.get a).bind alive) else aF
noncomputable def tj (t:BT) (n:Nat) (cZ:List Nat):Heap:=⟨((bg n).map λa=>(iC t n cZ a).getD QEM).toArray,{}⟩
theorem QBt (h:alive o=aA o'):o'=o/\alive o'=aA o':=by obtain ⟨c,d,j,s⟩:=o;induction j<;>cases h<;>exact ⟨rfl,rfl⟩
theorem CF {t n cZ a o} (h:iC t n cZ a=aA o):alive o=aA o/\t.get a=aA o/\a<n/\cZ.contains a=false:=by
 unfold iC at h
 split at h
 ·rename_i hn
  split at h
  ·exact ay h
  ·rename_i f
   refine aS (AE.mp h) λo' A i=>?_;have H:=(QBt i);have m:=H.1;have Q:=H.2;clear h i H;subst m;exact (lK Q A (bJ hn)<|by simpa -iota using f)
 ·exact ay h
theorem uN (t:BT) (n:Nat) (cZ:List Nat) (a:Nat):(tj t n cZ).get? a=iC t n cZ a:=by
 delta wZ tj
 simp! only[zc,DI]
 by_cases h:a<n
 ·simp! only[QI h]
  simp! only[Option.map_some]
  induction hg:iC t n cZ a with
  |none=>rfl
  |some o=>have:=(CF hg).1;obtain ⟨c,d,j,s⟩:=o;clear hg;induction j<;>first|rfl|(exact ay this)
 ·erw[DC (by simp! only[xB];exact jN ‹_›)]
  have:iC t n cZ a=none:=by delta iC;rw[if_neg];intro q;exact h (bJ q)
  simp! only[this]
  rfl
theorem Nk {cZ:List Nat} (h:(tj t n cZ).get? a=aA o):(pJ t n life).get? a=aA o:=by rw[uN] at h;have H:=(CF h);have A:=H.1;have i:=H.2.1;have Q:=H.2.2.1;exact sb (IM Q i)<|sb A rfl
theorem X6 {cZ:List Nat} (h:(tj t n cZ).get? a=aA o):cZ.contains a=false:=by rw[uN] at h;exact (CF h).2.2.2
noncomputable def dF (o:bH):FuncData:=match o.data with|.func f=>f|_=>default
noncomputable def kR (o:bH):Array Value:=match o.data with|.fields v=>v|_=> #[]
noncomputable def rT (o:bH):Array DictEntry:=match o.data with|.dict e _=>e|_=> #[]
noncomputable abbrev ti (t:BT) (n:Nat) (cZ:List Nat) (a c tk:Nat) (o oc:bH) (body:List cq) (names:List (aG×dQ)):Prop:=(iC t n cZ a,o.data,(dF o).code,iC t n cZ c,oc.data,(kR oc)[1]?,(dF o).body,(dF o).scope.names,(dF o).scope.kind,(dF o).scope.isCoroutine,(dF o).scope.isGenerator,(dF o).closure,(dF o).globals,(dF o).builtins)=(aA o,.func<|dF o,.ref c,aA oc,.fields<|kR oc,aA<|.str (dF o).qualname tk,.stmts body,names,.function,aE,aE,[],nO,ic)
section
theorem L4 (h:ti t n cZ a c tk o oc body names) (C: ∀e q,cd=aA (e,q)->(dF o).code=.ref e/\(dF o).qualname++ ".<locals>." =q):Du (tj t n cZ) (dF o) body names cd:=by
 unfold ti at h
 simp! only[sT] at h
 obtain ⟨e1,e2,p,z,x,u,b,nm,K,M,L,cl,g,B⟩:=h;exact ⟨(Hb c oc (kR oc) tk p ((uN ..).trans z) x u),b,nm,K,M,L,cl,g,B,C⟩
theorem xb (h:ti t n cZ a c tk o oc body names) (C: ∀e q,cd=aA (e,q)->(dF o).code=.ref e/\(dF o).qualname++ ".<locals>." =q)
 (bi: ∀us,us.length=ps.length->nQ (dF o) ⟨us,[]⟩=pure (ps.zip us)):qI (tj t n cZ) a body names cd ps []:=
 .mk ((uN ..).trans (QM h).1) (QM (QM h).2).1 (L4 h C) λus l M A E Q s O k=>by erw[bi us<|by simpa -iota using l];rw[eZ] at k;exact bA k
end
section
open PySem.Sre (M)
noncomputable def C3:Array Nat:= #[14,10,4,1,1,22,0,31,16,127,0,13,7,22,0,31,16,127,0,1]
noncomputable def C4:Array Nat:= #[14,14,4,1,1,9,4294966783,0,0,2147483648,0,0,0,0,0,13,11,9,4294966783,0,0,2147483648,0,0,0,0,0,1]
theorem QBZ {seen:jR} (h:(decide (c<=31)||c==127)=false): ∃s,Sre.inSet C3 c C3.size 5 true seen=.ok (false,s):=by have e:Sre.inSet C3 c 20 5 true seen=if (decide (0<=c) && decide (c<=31))=true then .ok (true,seen.add 22) else if (c==127)=true then .ok (true,(seen.add 22).add 16) else .ok (false,((seen.add 22).add 16).add 0):=rfl;rw[Bool.or_eq_false_iff] at h;exact sb e<|sb (if_neg (by rw[h.1];simp))<|sb (if_neg (by rw[h.2];decide))<|⟨_,rfl⟩
theorem Wh:((bg 256).all λc=>(decide (c<=8)||(decide (10<=c) && decide (c<=31))||c==127)|| !((C4.getD (5+(1+c / 32)) 0).testBit<|c % 32))=true:=by decide+kernel
theorem QBi {seen:jR} (h:(decide (c<=8)||(decide (10<=c) && decide (c<=31))||c==127)=false): ∃s,Sre.inSet C4 c C4.size 5 true seen=.ok (false,s):=by
 have e:AB C4 c 28 5 aB seen=if (decide (c<256) && (C4.getD (5+(1+c / 32)) 0).testBit (c % 32))=aB then .ok (aB,seen.add 9) else .ok (aE,(seen.add 9).add 0):=rfl;show∃s,AB C4 c 28 5 aB seen=_;rw[e,if_neg]
 ·exact ⟨_,rfl⟩
 ·intro q
  simp only[gn,decide_eq_true_eq] at q;have:=dq.mp Wh c<|sG.mpr q.1;simp only[h,q.2] at this;exact br this
theorem QDJ (hs: ∀c∈t.toList,∀seen,∃A,AB C c C.size 5 aB seen=.ok (aE,A)) (W:m.code=C) (a:m.text=t) (Q:l<=t.size) (hl:m.lim=l): ∀k s seen,∃A,AD m k s seen=.ok (aF,A):=by
 intro O;induction O with
 |zero=>exact λs seen=>⟨seen,rfl⟩
 |succ k i=>
  exact λs seen=>by
   dsimp only[AD];erw[hl];by_cases h:s>=l
   ·exact sb (QHb h)<|⟨_,rfl⟩
   ·refine sb (QHa h)<|sb W<|sb a ?_
    have F:t.getD s 0∈t.toList:=by
     have L:s<t.size:=(bD (qt h) Q);refine sb (IP)<|sb (Array.getElem?_eq_getElem L) ?_
     exact Array.getElem_mem_toList L
    exact aV (hs _ F seen) λA e=>sb e<|i (s+1) A
noncomputable def lY (b:Bool):Array Nat:=if b then C3 else C4
theorem QBz (b:Bool) (t:Array Nat) (l:Nat) (L:l<=t.size) (h:gL b ⟨t⟩=aB):nz 2 (kj (lY b) t 0 0 l aE) none:=by
 have A: ∀c∈t.toList,∀seen,∃s,AB (lY b) c (lY b).size 5 aB seen=.ok (aE,s):=λc C seen=>by
  have o:=Array.all_eq_true_iff_forall_mem.mp h c (by simpa using C);clear h;induction b with
  |true=>exact QBZ<|(uZ _).mp o
  |false=>exact QBi<|(uZ _).mp o
 by_cases H:0<l
 ·have e:kj (lY b) t 0 0 l aE=(match AD {code:=lY b,text:=t,lim:=l,start:=0,lastStart:=l,pc:=if b then 11 else 15,pos:=0,handed:=0,marks:= #[],seen:=({}:jR).add 14} (l+1 - 0) 0 (({}:jR).add 14) with
   |.ok (some p,seen)=>Sre.M.attemptAt {code:=lY b,text:=t,lim:=l,start:=0,lastStart:=l,pc:=if b then 11 else 15,pos:=0,handed:=0,marks:= #[],seen:=seen} p aB
   |.ok (none,seen)=>({code:=lY b,text:=t,lim:=l,start:=0,lastStart:=l,pc:=if b then 11 else 15,pos:=0,handed:=0,marks:= #[],seen:=seen,answer:=aA aE}:M)
   |.error W=>({code:=lY b,text:=t,lim:=l,start:=0,lastStart:=l,pc:=if b then 11 else 15,pos:=0,handed:=0,marks:= #[],seen:=({}:jR).add 14}:M).stick W):=by
   clear h A;induction b with
   |true=>refine (?_:(if 0>l||decide (l - 0<1) then _ else _)=_);erw[if_neg (by intro q;rw[Bool.or_eq_true,decide_eq_true_eq,decide_eq_true_eq] at q;exact (q.elim (λu=>(lA u)) λu=>(cY (na H<|nR<|sE ((by simp+arith):0<=l)) u)))];rfl
   |false=>refine (?_:(if 0>l||decide (l - 0<1) then _ else _)=_);erw[if_neg (by intro q;rw[Bool.or_eq_true,decide_eq_true_eq,decide_eq_true_eq] at q;exact (q.elim (λu=>(lA u)) λu=>(cY (na H<|nR<|sE ((by simp+arith):0<=l)) u)))];rfl
  exact sb e<|aV (QDJ A rfl rfl L rfl (l+1 - 0) 0 (({}:Sre.Seen).add 14)) λs n=>sb n<|(ax _ ((Goes.step rfl rfl (Goes.refl _)).le<|by decide) rfl)
 ·have z:l=0:=by exact Nat.eq_zero_of_not_pos ‹_›
  have e:kj (lY b) t 0 0 l aE={code:=lY b,text:=t,lim:=l,start:=0,pc:=if b then 11 else 15,pos:=0,handed:=0,marks:= #[],seen:=({}:jR).add 14,answer:=aA aE}:=by
   clear h A;induction b with
   |true=>refine (?_:(if (decide (0>l)||decide (l - 0<1))=true then _ else _:M)=_);erw[if_pos (by rw[Bool.or_eq_true,decide_eq_true_eq,decide_eq_true_eq];(clear H;grind_order))];rfl
   |false=>refine (?_:(if (decide (0>l)||decide (l - 0<1))=true then _ else _:M)=_);rw[if_pos (by rw[Bool.or_eq_true,decide_eq_true_eq,decide_eq_true_eq];(clear H;omega))];rfl
  rw[e];exact (ax _ ((Goes.step rfl rfl (Goes.refl _)).le<|by decide) rfl)
end
section
open PySem.Sre (M)
open Builtin.Re
theorem OM:Pp "re.Pattern" :=⟨(ax ("object.__getattribute__") (by ac_nf)<|by decide+kernel),by ac_nf⟩
theorem NA:Slot "re.Pattern" "search" "re.Pattern.search" :=
 .of (owner:= "re.Pattern") (n:= "search") (by ac_nf) (by decide+kernel) (by decide+kernel) (by decide+kernel)
  (by first|exact .inl (by decide+kernel)|exact .inr<|by decide+kernel) (by rw[isSubtype_type];lia)
theorem I0:Slot "re.Pattern" "sub" "re.Pattern.sub" :=
 .of (owner:= "re.Pattern") (n:= "sub") (by ac_nf) (by decide+kernel) (by decide+kernel) (by decide+kernel)
  (by first|exact .inl (by decide+kernel)|exact .inr<|by decide+kernel) (by rw[isSubtype_type];lia)
theorem SF:Hy (.builtin "re.Pattern.search")=pure (.type "method_descriptor"):=by refine (?_);erw[QFY];lia
theorem J_:Hy (.builtin "re.Pattern.sub")=pure (.type "method_descriptor"):=by refine (?_);erw[QFY];lia
theorem QDc:QN DK "re.Pattern.search" =aA xE.«re.Pattern.search»:=QO (by lia)
theorem VA:QN DK "re.Pattern.sub" =aA xE.«re.Pattern.sub»:=QO (by lia)
theorem Z9:QN DK "re.Pattern.sub.loop" =aA xE.«re.Pattern.sub.loop»:=QO (by lia)
theorem L9:Manifest.owners.lookup (String.ofList ['n','r','e','t','t','a','P','.','e','r'].reverse)=aA Manifest.sig_re_Pattern:=by lia
theorem SH (a b:aI):IQ "re.Pattern.search" ⟨[a,b],[]⟩:=by unfold IQ;erw[QFZ (id:= "re.Pattern.search") (n:=['h','c','r','a','e','s']) (o:=['n','r','e','t','t','a','P','.','e','r']) (by lia) L9];lia
theorem ZK (a b c:aI):IQ "re.Pattern.sub" ⟨[a,b,c],[]⟩:=by unfold IQ;erw[QFZ (id:= "re.Pattern.sub") (n:=['b','u','s']) (o:=['n','r','e','t','t','a','P','.','e','r']) (by lia) L9];lia
section
variable {A:cV} {s:aN} {E:aI->aN->Prop}
theorem QAn {c:Nat->Bool} {f:Nat->String}: ∀(l:List Nat) {s:aN} {Q:PUnit->aN->Prop},Q lQ s->aO (aY prog w) A (forIn l lQ λi (_:PUnit)=>(do
 if c i then rule (f i)
 pure (oz lQ):ba (ForInStep PUnit))) Q E s:=by
 intro l;induction l with
 |nil=>exact @λs Q h=>sb zj<|wpAny_pure h
 |cons i l d=>
  exact @λs Q h=>by
   rw[ud];refine aR ?_;induction hc:c i with
   |true=>exact sb (QHb rfl)<|wpAny_bind<|wpAny_rule<|wpAny_pure<|d h
   |false=>exact sb (QHa<|by decide)<|wpAny_pure<|d h
theorem Ka {r:Option (Nat×Nat)} (F:nz b m r) (hb:b<=4*2^64) (h: ∀x,r.elim (x=aF) (λq=> ∃e,x=aA e/\e.start=q.1/\e.handed=q.2)->Q x s):aO (aY prog w) A (reRunToEnd m) Q E s:=by
 obtain ⟨e,g,o⟩:=F
 have z:e.outcome.isSome=true:=by
  induction r with
  |none=>erw[o];rfl
  |some p=>erw[o.1];rfl
 refine aR (QBj (2^64) b m e hb (by decide) z g ?_);refine aR<|QAn _ ?_;induction r with
 |none=>dsimp only at o;exact sb o<|wpAny_pure<|h _ rfl
 |some p=>dsimp only at o;exact sb o.1<|wpAny_pure<|h _<|gd e rfl o.2.1 o.2.2
inductive gP (h:bK) (p:aM) (C:Array Nat):Prop
 |mk (o:Obj) (ct:Addr) (oc:Obj) (vs cs:Array Value) (n:Nat):h.get? p=some o->o.cls=.type "re.Pattern" ->o.dict=none->o.data=.fields vs->vs.getD 5 .none=.ref ct->reRawNat (vs.getD 6 .none)=0->reRawNat (vs.getD 2 .none)=0->h.get? ct=some oc->oc.data=.seq cs n->(cs.map reRawOf).map (·.toNat)=C->gP h p C
theorem gP.keeps (x:gP h p C) (k: ∀b o,h.get? b=aA o->h'.get? b=aA o):gP h' p C:=by
 induction x with|mk o Y v m H n a b c d e f g i j r=>exact ⟨o,Y,v,m,H,n,k _ _ a,b,c,d,e,f,g,k _ _ i,j,r⟩
theorem gP.own {h:bK} {p:aM} {C:Array Nat} (x:gP h p C): ∃o,h.get? p=aA o/\o.cls=.type "re.Pattern" /\o.dict=none:=by
 induction x with|mk o Y v m H n a b c=>exact ⟨o,a,b,c⟩
theorem gP.ct {p ct:aM} {vs:Array aI} (x:gP h p C) (e1:h.get? p=aA o) (e2:o.data=.fields vs) (u:vs.getD 5 .none=.ref ct): ∃oc,h.get? ct=aA oc:=by
 induction x with
 |mk H P oc v W n a b c d e f g i=>
  cases bM a e1
  cases d.symm.trans e2
  cases e.symm.trans u
  exact ⟨oc,i⟩
theorem gP.but (P:gP h p C) (n:p≠L) (c: ∀ct vs o,h.get? p=aA o->o.data=.fields vs->vs.getD 5 .none=.ref ct->ct≠L) (K: ∀b o,b≠L->h.get? b=aA o->h'.get? b=aA o):
 gP h' p C/\ ∀ct vs o,h'.get? p=aA o->o.data=.fields vs->vs.getD 5 .none=.ref ct->ct≠L:=by
 induction P with
 |mk o ct U vs W N a b s d e f g i j r=>exact ⟨⟨o,ct,U,vs,W,N,K _ _ n a,b,s,d,e,f,g,K _ _ (c ct vs o a d e) i,j,r⟩,λz v H x Z u=>c z v H (bM (K _ _ n a) x▸a) Z u⟩
theorem gP.typeIs (x:gP s.heap p C):s.TypeIs (.ref p) "re.Pattern" :=cy x.own λo a b O=>⟨o,a,b⟩
theorem MZ (P:gP s.heap p C) (h:Q {pattern:=.ref p,string:=.str x t,code:=C,text:=x.cps,kind:=0,groups:=0,pos:=0,lim:=x.cps.size} s):
 aO (aY prog w) A (reWholeTarget (.ref p)<|.str x t) Q E s:=by
 obtain ⟨o,Y,v,m,c,n,a,b,_,d,e,f,g,i,j,k⟩:=P;refine aR<|QP a d ?_;refine aR<|qr rfl ?_;refine sb f<|wpAny_bind<|wpAny_of_eq rfl ?_;refine sb e<|wpAny_bind<|wpAny_bind<|wpAny_seqItems i j<|wpAny_pure ?_;exact wpAny_pure<|sb k<|sb g<|h
theorem YD (P:gP s.heap p C) (h: ∀l,l<=x.cps.size->Q {pattern:=.ref p,string:=.str x t,code:=C,text:=x.cps,kind:=0,groups:=0,pos:=0,lim:=l} s):
 aO (aY prog w) A (reTarget "re.Pattern.search" "search" ⟨[.ref p,.str x t],[]⟩) Q E s:=by
 obtain ⟨o,Y,v,m,c,n,a,b,_,d,e,f,g,i,j,k⟩:=P;refine aR (qr (a:=[aA<|.str x t,aF,aF]) (by lia) ?_);refine aR<|bA<|aR<|bA ?_;refine aR<|QP a d ?_;refine aR<|qr (a:=(x.cps,0)) rfl ?_;refine sb f<|wpAny_bind<|wpAny_of_eq (a:=()) rfl ?_;refine sb e<|wpAny_bind<|wpAny_bind<|wpAny_seqItems i j<|wpAny_pure ?_;refine wpAny_pure<|sb g<|(?_:Q {pattern:=.ref p,string:=.str x t,code:=(c.map reRawOf).map (·.toNat),text:=x.cps,kind:=0,groups:=0,pos:=min (Int.toNat 0) x.cps.size,lim:=min (Int.toNat<|2^63 - 1) x.cps.size} s)
 simp! only[(Cs _:min (bN 0) x.cps.size=0),k]
 exact h _<|Cw _ _
theorem QDe (P:gP s.heap p (lY b)) (o:gL b x=aB) (h:Q .none s):aO (aY prog w) A (call (.builtin "re.Pattern.search") [.ref p,.str x t]) Q E s:=by refine IB NA P.typeIs QDc ?_<|SH _ _;dsimp only[xE.«re.Pattern.search»];refine aR<|YD P λl L=>?_;dsimp only[reAnswer];refine aR (Ka (QBz b x.cps l L o) (by decide) λy Y=>?_);exact sb (Y:y=aF)<|wpAny_pure<|ax _ rfl h
end
end
section
open PySem.Sre (M)
open Builtin.Re
noncomputable def mh (l:List (aG×fG)) (n:Nat):Obj:={cls:=.type "list",data:=.seq (wd l).toArray n}
section
variable {A:cV} {s:aN} {E:aI->aN->Prop}
theorem FZ {y:aG} (B:s.heap.get? L=aA (mh l n)) (z:l.length<=1000000)
 (h: ∀h' n',h'.get? L=aA (mh (l++[(y,u)]) n')->(∀b o,b≠L->s.heap.get? b=aA o->h'.get? b=aA o)->Q () {s with heap:=h'}):aO (aY prog w) A (IS L (·.push (.str y u))) Q E s:=by
 have r:(wd l).toArray.size=l.length:=dY _;refine QFL B rfl (h _ (n+1) ?_ λb o N e=>((ID ..).2 b N).trans e) (by simp only[r,AG];exact az ‹_› (gA _ _)) (by simp only[QQ,r,AG];exact ig ‹_› (by decide));erw[wz _ B rfl];refine (?_:aA (Obj.mk (.type "list") aF (.seq ((wd l).toArray.push<|.str y u)<|if ((wd l).toArray.push<|.str y u).size==(wd l).toArray.size then n else n+1) #[])=_);refine sb (QHa (by rw[QQ];simp))<|sb (by simp[strValues]:(strValues l).toArray.push (.str y u)=(strValues<|l++[(y,u)]).toArray) ?_
 rfl
noncomputable def x7 (p:aM) (x:aG) (t:fG) (C:Array Nat):ReTarget:={pattern:=.ref p,string:=.str x t,code:=C,text:=x.cps,kind:=0,groups:=0,pos:=0,lim:=x.cps.size}
noncomputable abbrev Kp (L:aM) (s:aN) (h':bK):Prop:= ∀b o,b≠L->s.heap.get? b=aA o->h'.get? b=aA o
noncomputable def B3 (p:aM) (x:aG) (t:fG) (rep:aG) (r:fG) (L:aM) (it e f:Int) (b:Bool):Code:=.builtin "re.Pattern.sub.loop" ⟨[.ref p,.str x t,.str rep r,o5 0,o5 0,o5 it,o5 e,o5 f,.bool b,.ref L,.bool aE],[]⟩
noncomputable def Fn (p:aM) (x:aG) (t:fG) (rep:aG) (r:fG) (L:aM) (it:Int) (m:M):ba nT:=IS L (·.push (.str rep r))>>=λO=>again<|B3 p x t rep r L (it+1) m.handed m.handed<|m.handed==m.start
noncomputable def Fv (tt:ReTarget) (p:aM) (x:aG) (t:fG) (rep:aG) (r:fG) (L:aM) (it:Int) (d:Nat) (m:M):ba nT:=if d<m.start then reSlice tt.text tt.kind d m.start>>=λy=>IS L (·.push y)>>=λO=>Fn p x t rep r L it m else Fn p x t rep r L it m
noncomputable def HW (tt:ReTarget) (L:aM):ba nT:=reSlice tt.text tt.kind 0 0>>=λj=>QR (.ref L)>>=λy=>if (y.getD #[]).isEmpty then pure j>>=λt=>ret t else call (.builtin<|if tt.kind==0 then "str.join" else "bytes.join") [j,.ref L]>>=λt=>ret t
noncomputable def G7 (tt:ReTarget) (L:aM) (d:Nat):ba nT:=if d<tt.lim then reSlice tt.text tt.kind d tt.lim>>=λy=>IS L (·.push y)>>=λO=>HW tt L else HW tt L
noncomputable def Vo (p:aM) (x:aG) (t:fG) (rep:aG) (r:fG) (L:aM) (it:Int) (d:Nat):ba nT:=reWholeTarget (.ref p) (.str x t)>>=λN=>reLiteralCannotBeTurned (.str rep r)>>=λO=>reNextFound N d aE>>=λo=>o.elim (G7 N L d)<|Fv N p x t rep r L it d
theorem EY {x:aG} (M:x.cps.size<=1000000) (a b:Nat):(⟨x.cps.extract a b⟩:aG).length<=sizeLine:=by refine (?_:(x.cps.extract a b).size<=mL);rw[uU,AG];exact (bD (na (QFa (min b x.cps.size)<|a)<|Cw (b)<|x.cps.size) M)
section
variable {it:Int}
theorem Jc (B:s.heap.get? L=aA (mh l n)) (z:l.length<=1000000)
 (h: ∀h' n',Kp L s h'->h'.get? L=aA (mh (l++[(rep,rt)]) n')->Qf (.again<|B3 p x t rep rt L (it+1) m.handed m.handed<|m.handed==m.start) {s with heap:=h'}):
 aO (aY prog w) A (Fn p x t rep rt L it m) Qf E' s:=
 aR (FZ B z λh' n' e k=>bA<|h h' n' k e)
theorem Ts (M:x.cps.size<=1000000) (i:s.heap.get? L=aA (mh l n)) (z:l.length+1<=1000000)
 (h: ∀f n' h' tk,Kp L s h'->h'.get? L=aA (mh f n')->f.length<=l.length+2->f.map (·.1)=l.map (·.1)++((if d<m.start then [⟨x.cps.extract d m.start⟩] else [])++[rep])->Qf (.again<|B3 p x t rep rt L (it+1) m.handed m.handed<|m.handed==m.start) {s with heap:=h',toks:=tk}):
 aO (aY prog w) A (Fv (x7 p x t C) p x t rep rt L it d m) Qf E' s:=by
 unfold Fv;by_cases B:d<m.start
 ·rw[if_pos B] at h⊢
  refine aR<|QS (x:=⟨x.cps.extract d m.start⟩) ?_<|EY M d m.start;refine aR<|FZ (s:={s with toks:=s.toks+1}) i (H0 z) λq a u W=>?_;exact Jc u (by rw[du];exact z) λH N K v=>h _ N H _ (λb o F e=>K b o F<|W b o F e) v (by simp) (by simp)
 ·rw[if_neg B] at h⊢
  exact Jc i (H0 z) λH N K v=>h _ N H s.toks K v (by simp) (by simp)
theorem I5 (M:x.cps.size<=1000000) (B:s.heap.get? L=aA (mh l n)) (j:nU ⟨#[]⟩ (l.map (·.1))=aB)
 (h: ∀t' tk,Qf (.done<|.ret<|.str (qC<|l.map (·.1)) t') {s with toks:=tk}):
 aO (aY prog w) A (HW (x7 p x t C) L) Qf E' s:=by
 refine aR<|QS (x:=⟨x.cps.extract 0 0⟩) ?_<|EY M 0 0;refine aR<|IG (s:={s with toks:=s.toks+1}) B rfl ?_;rw[(by simp:(⟨x.cps.extract 0 0⟩:aG)=⟨#[]⟩)];induction l with
 |nil=>exact aR<|bA<|bA<|h _ _
 |cons a r=>exact aR<|SC.join (l:=a::r) ⟨_,B,rfl,n,rfl⟩ rfl j λt' k=>bA<|h t' k
theorem ZY (M:x.cps.size<=1000000) (B:s.heap.get? L=aA (mh l n)) (z:l.length+1<=1000000)
 (j:nU ⟨#[]⟩ (l.map (·.1)++(if d<x.cps.size then [⟨x.cps.extract d x.cps.size⟩] else []))=aB)
 (h: ∀h' t' tk,Kp L s h'->Qf (.done<|.ret<|.str (qC<|l.map (·.1)++(if d<x.cps.size then [⟨x.cps.extract d x.cps.size⟩] else [])) t') {s with heap:=h',toks:=tk}):
 aO (aY prog w) A (G7 (x7 p x t C) L d) Qf E' s:=by
 unfold G7;by_cases R:d<x.cps.size
 ·rw[if_pos R] at h j
  rw[if_pos<|show d<(x7 p x t C).lim from R];refine aR<|QS (x:=⟨x.cps.extract d x.cps.size⟩) ?_<|EY M d x.cps.size;refine aR<|FZ (s:={s with toks:=s.toks+1}) B (H0 z) λH N u K=>?_;have e:(l++[((⟨x.cps.extract d x.cps.size⟩:aG),s.toks)]).map (·.1)=l.map (·.1)++[⟨x.cps.extract d x.cps.size⟩]:=gp;exact I5 M u (by rw[e];exact j) λt' tk=>by rw[e];exact h H t' tk K
 ·rw[if_neg R,eZ] at h j
  rw[if_neg<|show ¬ d<(x7 p x t C).lim from R];exact I5 M B j λt' tk=>h s.heap t' tk λO O O e=>e
end
theorem Vh {p L:aM} {x rep:aG} {t r:fG} {d:Nat}:xE.«re.Pattern.sub.loop» ⟨[.ref p,.str x t,.str rep r,o5 0,o5 0,o5 it,o5 (d:Int),o5 (d:Int),.bool aE,.ref L,.bool aE],[]⟩=Vo p x t rep r L it d:=by lia
theorem W7 {x rep:aG} {nx:Nat->Option (Nat×Nat)} (hb:b<=4*2^64) (z:x.cps.size<=1000000)
 (N: ∀d,d<=x.cps.size->nz b (kj C x.cps 0 d x.cps.size aE) (nx d)) (B: ∀d a e,nx d=aA (a,e)->d<=a/\a<e/\e<=x.cps.size) (k:Nat):
 ∀(d:Nat) (it:Int) (l:List (aG×fG)) (n:Nat) (s:aN),x.cps.size<d+k->d<=x.cps.size->gP s.heap p C->p≠L->(∀ct vs o,s.heap.get? p=aA o->o.data=.fields vs->vs.getD 5 .none=.ref ct->ct≠L)->s.heap.get? L=aA (mh l n)->l.length+2*k<=1000000->
 nU ⟨#[]⟩ (l.map (·.1)++hF nx rep x.cps k d)=aB->
 (∀h' t' tk,Kp L s h'->Q (.str (qC<|l.map (·.1)++hF nx rep x.cps k d) t') {s with heap:=h',toks:=tk})->
 uh (aY prog w) A (B3 p x t rep rt L it d d aE) (wants Q E) s:=by
 induction k with
 |zero=>exact λd it l n s q H O O O O O O O=>QHZ q<|iH.mpr H
 |succ k ih=>
  intro d it l n s q H P R c i hz j h;refine QT Z9 ?_;rw[Vh];refine aR<|MZ P<|aR<|qr rfl (aR<|Ka (N d H) hb λy Y=>?_);have g:l.length+1<=1000000:=aQ hz
  induction hn:nx d with
  |some ae=>
   obtain ⟨a,e⟩:=ae;rw[hn] at Y;refine Exists.elim (Y: ∃m,y=aA m/\m.start=a/\m.handed=e) λm Y=>?_;have M:=B d a e hn;have U:hF nx rep x.cps (k+1) d=(if d<m.start then [⟨x.cps.extract d m.start⟩] else [])++[rep]++hF nx rep x.cps k e:=by rw[Y.2.1,ik];exact Bb hn
   rw[U,<-ik] at j h;rw[Y.1];refine Ts z i g λF n' h' tk K u f Z=>?_;rw[<-Z] at j h;refine ⟨Code.quiet_builtin _ (by decide+kernel),?_⟩;rw[Y.2.2,Y.2.1,show (e==a)=aE from beq_eq_false_iff_ne.mpr<|wV M.2.1];exact ih e (it+1) F n' {s with heap:=h',toks:=tk} (bD (na q M.1) M.2.1) M.2.2 (P.but R c K).1 R (P.but R c K).2 u (bD hz f) j λH v r W=>h H v r λb o nb e=>W b o nb<|K b o nb e
  |none=>rw[hn] at Y;have U:hF nx rep x.cps (k+1) d=if d<x.cps.size then [⟨x.cps.extract d x.cps.size⟩] else []:=BE hn;rw[U] at j h;rw[show y=aF from Y];exact ZY z i g j λh' t' tk k=>h h' t' tk k
end
end
section
open PySem.Sre (M)
open Builtin.Re
theorem UC:QU (.type "str") "__call__" =pure none:=by rw[QV,QW];lia
section
variable {A:cV} {s:aN} {E:aI->aN->Prop}
theorem Vi {x rep:aG} {nx:Nat->Option (Nat×Nat)} (hb:b<=4*2^64) (M:x.cps.size<=400000) (r:rep.cps.contains 92=aE)
 (n: ∀d,d<=x.cps.size->nz b (kj C x.cps 0 d x.cps.size aE) (nx d)) (g: ∀d a e,nx d=aA (a,e)->d<=a/\a<e/\e<=x.cps.size)
 (P:gP s.heap p C) (j:nU ⟨#[]⟩ (hF nx rep x.cps (x.cps.size+1) 0)=aB)
 (h: ∀h' t' tk,(∀b o,s.heap.get? b=aA o->h'.get? b=aA o)->Q (.str (qC<|hF nx rep x.cps (x.cps.size+1) 0) t') {s with heap:=h',toks:=tk}):
 aO (aY prog w) A (call (.builtin "re.Pattern.sub") [.ref p,.str rep rt,.str x t]) Q E s:=by
 refine xA (codeAny_call_builtin_code (Code.quiet_builtin _<|by decide+kernel)<|I0.check _ _ _ _ _ _ _ _ P.typeIs (ZK _ _ _) ?_);refine QT VA ?_;delta xE.«re.Pattern.sub» reSubstitute;refine aR (qr (a:=[aA<|.str rep rt,aA<|.str x t,aF]) (by lia) ?_);refine aR<|bA ?_;refine aR<|QEx (Ph _ _ _) UC ?_
 try dsimp only
 refine aR<|qr (a:=aA rep) rfl ?_;refine aR<|bA ?_;refine sb (QHa<|by decide)<|sb r<|sb (if_pos<|by decide)<|wpAny_bind<|wpAny_pure ?_
 dsimp only;refine aR<|cO<|MZ P ?_;refine sb (QHa<|by decide)<|wpAny_bind<|wpAny_newList ?_
 have hn:s.heap.get? s.heap.objs.size=none:=ie<|bh _;have K: ∀b o,s.heap.get? b=aA o->(s.heap.push<|mh [] 0).get? b=aA o:=λO O e=>gS _ e;refine bA ⟨Code.quiet_builtin _ (by decide+kernel),?_⟩;refine W7 (s:={s with heap:=s.heap.push<|mh [] 0}) (nx:=nx) (L:=s.heap.objs.size) (C:=C) hb (az ‹_› (gA _ _)) n g (x.cps.size+1) 0 0 [] 0 (gA _ _) (hJ _) (P.keeps K) (λq=>cy P.own λO a O O=>cb (q▸hn) a) (λct vs o e1 e2 u q=>?_) (fH _ rfl) (by simp;exact bD M M) (by simpa using j) λh' t' tk f=>?_
 ·exact cy P.own λo' a O O=>aV (P.ct (bM (K _ _ a) e1▸a) e2 u) λO i=>cb (q▸hn) i
 ·exact h h' t' tk λb o e=>f b o (λq=>by rw[q,hn] at e;exact ay e)<|K b o e
end
end
section
theorem Bc (h:step den p w s t=.go F t') (n:Nat):sU den p w (n+1) s t=sU den p w n F t':=by refine (?_:(match step den p w s t with|.go F t'=>sU den p w n F t'|.halt o F=>.halted o F)=_);simp only[h]
theorem NC (h:step den p w s t=.halt o F) (n:Nat):sU den p w (n+1) s t=.halted o F:=by refine (?_:(match step den p w s t with|.go F U=>sU den p w n F U|.halt o F=>.halted o F)=_);exact sb h rfl
theorem QEI (n:Nat): ∀s t,sU den p w n s t=.halted o i-> ∃k N g,sU den p w k s t=.running N g/\step den p w N g=.halt o i:=by
 induction n with
 |zero=>exact λs t h=>by cases (h:Run.running s t=.halted o i)
 |succ n d=>
  intro s t h;induction A:step den p w s t with
  |go F U=>exact oI (d F U<|(Bc A n).symm.trans h) λk N g a b=>(JV (k+1) N g ((Bc A k).trans a) b)
  |halt H F=>cases (NC A n).symm.trans h;exact (JV 0 s t rfl A)
theorem TY (k:Nat): ∀s t,s.asleep->(∀j n t',sU den p w j s t=.running n t'->t'.calm=aB)->sU den p w k s t=.running N g->
 DL den p w k (.single s t)=.running (.single N g):=by
 induction k with
 |zero=>exact λs t O O h=>by cases (h:Run.running s t=.running N g);rfl
 |succ k i=>
  intro s t z c h;induction A:step den p w s t with
  |halt o n=>cases (NC A k).symm.trans h
  |go n t'=>
   have e:sstep den p w (.single s t)=.go (.single n t'):=by
    refine cp (sstep_single den p w s t (c 0 s t rfl) z) (λe=>?_) λe=>?_
    ·simp only[e,A]
     rfl
    ·rw[A] at e
     exact nomatch e
   have C:DL den p w (k+1) (.single s t)=DL den p w k (.single n t'):=by refine (?_:(match sstep den p w (.single s t) with|.go n=>DL den p w k n|.halt o n=>.halted o n)=_);exact sb e rfl
   exact C.trans<|i n t' (QX (step_life den p w s n t t' A) z) (λj a b q=>c (j+1) a b<|(Bc A j).trans q)<|(Bc A k).symm.trans h
theorem Yw (h:finish o s=.halt (.done f) t):o=.done f/\t=s:=by
 unfold finish at h
 split at h
 ·exact nomatch h
 ·cases h;exact ⟨rfl,rfl⟩
noncomputable def x9 (s:Step):Bool:=s.casesOn (motive:=λO=>Bool) (λO O=>aB) λo O=>o.casesOn (motive:=λO=>Bool) (λO=>aE) (λO=>aB) (λO=>aB) (λO=>aB) (λO=>aB) aB
theorem okd {st:Step} {q:Prop} (g:x9 st=aB) (h:st=.halt (.done f) s):q:=by rw[h] at g;exact br g
theorem Aa {q:Prop} [Decidable q] {x y:Step} (M:x9 x=aB) (Y:x9 y=aB):x9 (ite q x y)=true:=by
 by_cases k:q
 ·exact sb (QHb k) M
 ·exact sb (QHa k) Y
noncomputable def EN (den:Code->ba nT) (p:sH) (w:bz) (s:aN) (t:Thread) (c:ba nT):Prop:=(∀f n,step den p w s ⟨c,t.code,t.pos,t.stack⟩=.halt (.done f) n->False)\/(through ⟨c,t.code,t.pos,t.stack⟩=aB/\ ∃g,step den p w s ⟨c,t.code,t.pos,t.stack⟩=finish (.done g) s)
theorem fU (h:x9 (step den p w s ⟨c,t.code,t.pos,t.stack⟩)=aB):EN den p w s t c:=.inl λf n e=>okd h e
theorem BN (h: ∀f n,step den p w s ⟨c,t.code,t.pos,t.stack⟩=.halt (.done f) n->False):EN den p w s t c:=.inl h
theorem rW {s t f s'} (h:Step.go s t=.halt (.done f) s'):False:=nomatch h
theorem AZ {a f s b} (h:Step.halt (.stuck a) b=.halt (.done f) s):False:=nomatch h
theorem QBX (s:aN) (t:Thread) (C:ba nT):EN den p w s t C:=by
 refine C.casesOn
  (λx=>by
   induction x with
   |again c=>exact fU<|ej aB
   |done g=>obtain ⟨c,m,P,o⟩:=t;induction o with
    |nil=>exact .inr ⟨rfl,g,rfl⟩
    |cons F r _=>induction F<;>exact fU<|ej aB)
  (λe=>by
   obtain ⟨c,m,P,o⟩:=t;induction o with
   |nil=>exact fU<|Aa (ej aB)<|ej aB
   |cons F r _=>induction F<;>exact fU<|ej aB)
  (λO=>fU<|ej aB)
  (λO=>fU<|Aa (ej aB)<|ej aB)
  (λO O=>fU<|ej aB)
  (λO O=>fU<|ej aB)
  (λa q k=>BN λf n h=>by delta step at h;dsimp only at h;revert h;generalize s.heap.get? a=z;induction z;exact AZ;exact rW)
  (λO O O O=>fU<|Aa (ej aB)<|ej aB)
  (λO O=>fU<|ej aB)
  (λO O=>fU<|ej aB)
  (λO O=>fU<|ej aB)
  (λO O=>fU<|ej aB)
  (λO=>fU<|ej aB)
  (λO=>fU<|ej aB)
  (λO O O=>fU<|Aa (ej aB)<|ej aB)
  (λO O O=>fU<|ej aB)
  (λO O O O O=>fU<|ej aB)
  (λO O=>fU<|ej aB)
  (λO O=>fU<|ej aB)
  (λg k=>BN λf n h=>by delta step at h;dsimp only at h;revert h;generalize s.gens[g]?=z;induction z;exact AZ;exact rW)
  (λg r l k=>BN λf n h=>by
   delta step at h;dsimp only at h;revert h;generalize s.gens[g]?=z;induction z with
   |none=>exact AZ
   |some N=>induction N with
    |fresh c=>induction r with
     |send v=>induction v<;>exact rW
     |throw e=>exact rW
    |suspended _ _ _ _ _ _=>exact rW
    |running=>exact rW
    |finished=>exact rW)
  (λv g l k=>BN λf n h=>by delta step at h;dsimp only at h;revert h;generalize splitAtGen t.stack=z;induction z;exact AZ;exact rW)
  (λO=>fU<|ej aB)
  (λO O=>fU<|ej aB)
  (λO=>fU<|ej aB)
  (λO O O O O=>fU<|ej aB)
theorem Wz (h:step den p w s t=.halt (.done f) i):through t=aB/\i=s:=(QBX s t t.cur).elim (λg=>(g _ _ h).elim) λg=>⟨g.1,g.2.elim λx e=>(Yw<|e.symm.trans h).2⟩
end
noncomputable def tV {α β:Type}:List α->β->(α->β->ba (ForInStep β))->ba (ForInStep β)
 |[],b,_=>pure<|.yield b
 |x::xs,b,f=>f x b>>=λr=>match r with
  |.done B=>pure<|.done B
  |.yield B=>tV xs B f
theorem J1 {α β:Type} (f:α->β->ba (ForInStep β)) (l r:List α) (b:β):forIn (l++r) b f=(tV l b f>>=λx=>match x with|.done B=>pure B|.yield B=>forIn r B f):=by
 induction l generalizing b with
 |nil=>exact (pure_bind ..).symm
 |cons x R i=>
  simp! only[sV,ud]
  refine Eq.trans ?_ (bind_assoc ..).symm
  congr 1
  funext y;induction y with
  |done B=>exact (pure_bind ..).symm
  |yield B=>exact i B
theorem ED {α:Type} (x:List α) (h:x.length=n+1): ∃g,x=(bg<|n+1).map g:=by
 induction x with
 |nil=>contradiction
 |cons a l=>exact ⟨λi=>(a::l).getD i a,List.ext_getElem (by simp! only[h,dY,xB]) λi H m=>by simp! only[List.getElem_map,List.getElem_range];exact List.getElem_eq_getD a⟩
noncomputable abbrev DS:=Option aM×List (ba aI×ba aI)
noncomputable def n5:{f:((Option (ba aI)×ba aI)->DS->ba (ForInStep DS))×(DS->ba aI) // ∀items,QY items=(forIn items ((aF,[])) f.1>>=f.2)}:=⟨⟨_,_⟩,λO=>rfl⟩
noncomputable def fB (l:List xF) (n:Nat):Obj:=⟨.type "dict",aF,.dict l.toArray n, #[]⟩
noncomputable def kT (k:Int):ba Value:=mkInt k
noncomputable def vT (p:bP) (x:fY):ba Value:=do let v<-mkText x;sO p;pure v
noncomputable def mD (p:bP) (l:List (Int×fY)):List (ba aI×ba aI):=l.map λK=>(kT K.1,vT p K.2)
noncomputable def jG (p:bP) (l:List (Int×fY)):List (Option (ba aI)×ba aI):=(mD p l).map λq=>(aA q.1,q.2)
noncomputable def lh (k:Int) (v:aI) (t:fG):DictEntry:=⟨hashInt k,.int k t,v⟩
noncomputable def Zg (ks:Int×fY) (e:xF):Prop:= ∃t u,e=lh ks.1 (.str ks.2 u) t
inductive xX:List (Int×fY)->List (aI×aI)->Prop
 |nil:xX [] []
 |cons {k x l vs} (t u:Tok):xX l vs->xX ((k,x)::l) ((.int k t,.str x u)::vs)
inductive dO:List (Int×fY)->List xF->Prop
 |nil:dO [] []
 |cons {ks e l es}:Zg ks e->dO l es->dO (ks::l) (e::es)
theorem dO.app {l es l' es'} (h:dO l es) (h':dO l' es'):dO (l++l') (es++es'):=by
 induction h with
 |nil=>exact h'
 |cons a _ i=>exact .cons a i
theorem dO.len {l es} (h:dO l es):es.length=l.length:=by
 induction h with
 |nil=>rfl
 |cons _ _ i=>simp -iota [i]
theorem dO.at {l es} (h:dO l es): ∀{i:Nat},i<es.length-> ∃ks,l[i]?=aA ks/\ ∃t u,es[i]?=aA (lh ks.1 (.str ks.2 u) t):=by
 induction h with
 |nil=>intro i d;contradiction
 |cons a _ z=>
  intro i d;induction i with
  |zero=>exact jT a λt u e=>sb e<|⟨_,rfl,t,u,rfl⟩
  |succ i=>exact z<|QFS d
theorem dO.keys {l es} (h:dO l es):IntKeys es.toArray:=by
 induction h with
 |nil=>intro e he;simp -iota at he
 |cons a _ i=>
  intro e he;refine jT a λt u B=>?_;clear a;subst B
  simp! only[List.mem_toArray,bp] at he i
  rcases he with rfl|he
  ·exact (fA _ t rfl rfl)
  ·exact i e (by simpa -iota using he)
theorem dO.none {l es} {k:Int} (h:dO l es) (K: ∀ks∈l,ks.1≠k):es.toArray.findIdx? (λe=>mU k e.key)=none:=by
 rw[List.findIdx?_toArray,List.findIdx?_eq_none_iff];intro e F;induction h with
 |nil=>contradiction
 |cons a _ i=>
  refine jT a λt u B=>?_;clear a;subst B;rcases bp.mp F with rfl|F
  ·have:=K _ (.head _)
   exact QHa ‹_›
  ·exact i (λks h=>K ks<|.tail _ h) F
section
variable {prog:sH} {w:bz} {A:cV} {E:aI->aN->Prop} {s:aN}
structure fe (d:aM) (h h':bK):Prop where
 size:h'.objs.size=h.objs.size
 same: ∀b,b≠d->h'.objs[b]?=h.objs[b]?
 life:h'.life=h.life
theorem fe.refl (d h):fe d h h:=⟨rfl,λO O=>rfl,rfl⟩
theorem fe.trans {d h h' h''} (a:fe d h h') (b:fe d h' h''):fe d h h'':=⟨b.size.trans a.size,λc C=>(b.same c C).trans<|a.same c C,b.life.trans a.life⟩
theorem fe.upd (d:aM) (h:bK) (f:bH->bH):fe d h (h.update d f):=by obtain ⟨o,l⟩:=h;refine ⟨by simp[Heap.update],λb B=>?_,rfl⟩;erw[Array.getElem?_modify];exact sb (QHa<|lO B) rfl
theorem fe.get {d h h'} (a:fe d h h') (hb:b≠d):h'.get? b=h.get? b:=by unfold wZ;exact sb (a.same b hb) rfl
theorem QAT {k:Int} (hd:s.heap.get? d=aA (fB es n)) (K:IntKeys es.toArray)
 (hn:es.toArray.findIdx? (λe=>mU k e.key)=aF) (z:es.length<=mL)
 (h: ∀h',fe d s.heap h'->h'.get? d=aA (fB (es++[lh k v t])<|n+1)->Q () {s with heap:=h'}):aO (aY prog w) A (dictPut d (hashInt k) (.int k t) v) Q E s:=by
 refine aR<|QFb hd rfl K ?_;refine sb hn<|wpAny_updateDictKeys hd rfl (h _ (fe.upd ..) ?_)
 erw[wz _ hd rfl];refine (?_:aA (⟨.type "dict",aF,.dict (es.toArray.push<|lh k v t)<|n+1, #[]⟩:bH)=_);rw[QFc];rfl
theorem Nx {k:Int} (hd:s.heap.get? d=aA (fB es n)) (K:IntKeys es.toArray)
 (hn:es.toArray.findIdx? (λe=>mU k e.key)=aF) (z:es.length<=mL)
 (h: ∀h',fe d s.heap h'->h'.get? d=aA (fB (es++[lh k v t])<|n+1)->Q () {s with heap:=h',toks:=s.toks+1}):aO (aY prog w) A (dictSet d (.int k t) v) Q E s:=by
 refine cO<|aR<|wpAny_pyHash_int ?_;refine cO<|aR<|QFb hd rfl K ?_;refine sb hn<|wpAny_bind<|wpAny_rule<|wpAny_updateDictKeys hd rfl (h _ (fe.upd ..) ?_)
 erw[wz _ hd rfl];refine (?_:aA (⟨.type "dict",aF,.dict (es.toArray.push<|lh k v t)<|n+1, #[]⟩:bH)=_);rw[QFc];rfl
theorem Le {k:Int} (h:Q (.int k s.toks) {s with toks:=s.toks+1}):aO (aY prog w) A (kT k) Q E s:=λO O O=>h
theorem L0 (h:Q (.str x s.toks) {s with toks:=s.toks+1}):aO (aY prog w) A (vT p x) Q E s:=λO O O=>h
theorem fill (l:List (Int×fY)): ∀(done:List (Int×fY)) (es:List xF) (s:aN) (Q:PUnit->aN->Prop),dO done es->s.heap.get? d=aA (fB es es.length)->
 ((done++l).map (·.1)).Nodup->(done++l).length<=mL->
 (∀h' P,fe d s.heap h'->dO (done++l) P->h'.get? d=aA (fB P P.length)->Q lQ {s with heap:=h',toks:=s.toks+3*l.length})->
 aO (aY prog w) A (forIn (mD p l) lQ λ(x:ba aI×ba aI) (_:PUnit)=>(do
  let Y<-x.1
  let v<-oy [Y] x.2
  oy [Y,v] (dictSet d Y v)
  pure (oz lQ):ba (ForInStep PUnit))) Q E s:=by
 induction l with
 |nil=>intro done es s Q he hd _ _ hQ;refine bA ?_;have:=hQ s.heap es (fe.refl ..) (by simpa -iota using he) hd;simpa -iota using this
 |cons j l i=>
  intro done es s Q he hd n z hQ;obtain ⟨k,x⟩:=j;refine (?_:aO _ _ (forIn (_::_) _ _) _ _ _)
  simp! only[ud]
  have f: ∀ks∈done,ks.1≠k:=by intro ks K e;rw[gp,xG] at n;exact n.2.2 ks.1 (ij.mpr<|ax ks K rfl) k (.head _) e
  refine aR<|aR<|Le<|aR<|cO<|L0<|aR<|cO ?_;refine Nx hd he.keys (he.none f) (by simp -iota at z;exact bD (nL (he.len:es.length=done.length)) z) λh' b g=>bA (i (done++[(k,x)]) (es++[lh k (.str x<|s.toks+1) s.toks]) _ _ (he.app<|.cons (lz _ _ rfl) .nil) (by simpa -iota using g) (by simpa -iota using n) (by simpa -iota using z) λh t B F u=>?_);have:=hQ h t (b.trans B) (by simpa -iota using F) u;simpa -iota [(by simp+arith:s.toks+1+1+1+3*l.length=s.toks+3*(l.length+1))] using this
theorem We {vs:List (aI×aI)} (v:xX l vs): ∀(n:List (Int×fY)) (es:List xF) (s:aN) (Q:PUnit->aN->Prop),dO n es->s.heap.get? d=aA (fB es es.length)->
 ((n++l).map (·.1)).Nodup->(n++l).length<=mL->
 (∀h' P,fe d s.heap h'->dO (n++l) P->h'.get? d=aA (fB P P.length)->Q lQ {s with heap:=h',toks:=s.toks+l.length})->
 aO (aY prog w) A (forIn vs lQ λ(x:aI×aI) (_:PUnit)=>(do dictSet d x.1 x.2;pure (oz lQ))) Q E s:=by
 induction v with
 |nil=>
  intro n es s Q F L _ _ q
  simp! only[zj]
  refine bA ?_;have:=q s.heap es (fe.refl ..) (by simpa -iota using F) L;simpa -iota using this
 | @cons k x l vs t u r i=>
  intro n es s Q F L N Z q
  simp! only[ud]
  have f: ∀Y∈n,Y.1≠k:=by
   intro Y K e
   simp! only[gp,xG] at N
   exact N.2.2 Y.1 (ij.mpr<|ax Y K rfl) k (.head _) e
  refine aR<|aR ?_;refine Nx L F.keys (F.none f) (by simp -iota at Z;exact bD (nL (F.len:es.length=n.length)) Z) λh' b g=>bA (i (n++[(k,x)]) (es++[lh k (.str x u) t]) _ _ (F.app<|.cons (lz _ _ rfl) .nil) (by simpa -iota using g) (by simpa -iota using N) (by simpa -iota using Z) λh B z p o=>?_);have:=q h B (b.trans z) (by simpa -iota using p) o;have e:s.toks+1+l.length=s.toks+(l.length+1):=zt _ _ _
  simpa -iota [e] using this
theorem Yx (l:List (Int×fY)): ∀(s:aN) (Q:List (aI×aI)->aN->Prop),
 (∀vs,xX l vs->Q vs {s with toks:=s.toks+2*l.length})->aO (aY prog w) A (evalPairs<|mD p l) Q E s:=by
 induction l with
 |nil=>exact λs Q h=>evalPairs_nil (by simpa -iota using h [] .nil)
 |cons K l i=>intro s Q h;obtain ⟨k,x⟩:=K;refine evalPairs_cons<|Le<|L0<|i _ _ λvs v=>?_;simpa -iota [(by simp+arith:s.toks+1+1+2*l.length=s.toks+2*(l.length+1))] using h _ (.cons _ _ v)
structure qV (h h':bK):Prop where
 size:h'.objs.size=h.objs.size+1
 same: ∀b,b<h.objs.size->h'.objs[b]?=h.objs[b]?
 life:h'.life=h.life
theorem qV.push (h:bK) (o:bH):qV h (h.push o):=by obtain ⟨p,l⟩:=h;refine ⟨by simp[Heap.push],λb B=>?_,rfl⟩;erw[Array.getElem?_push];exact sb (QHa<|qo B) rfl
theorem qV.but (g:qV h h') (b:fe h.objs.size h' H):qV h H:=⟨b.size.trans g.size,λc C=>(b.same c<|qo C).trans<|g.same c C,b.life.trans g.life⟩
theorem Og (L:15<l.length) (z:l.length<=mL) (n:(l.map (·.1)).Nodup)
 (h: ∀h' es,qV s.heap h'->dO l es->h'.get? s.heap.objs.size=aA (fB es es.length)->Q s.heap.objs.size {s with heap:=h',toks:=s.toks+3*l.length}):
 aO (aY prog w) A (xH<|mD p l) Q E s:=by
 dsimp only[xH];refine aR<|H4<|aR<|cO ?_;refine sb (QHa (by simp -iota [mD];assumption))<|wpAny_bind<|wpAny_rule<|wpAny_bind ?_
 refine fill l [] [] _ _ .nil (fH _ rfl) (by simpa -iota using n) (by simpa -iota using z) λh' es b e g=>?_;exact bA (bA<|h h' es ((qV.push ..).but b) (by simpa -iota using e) g)
theorem Tr (L:l.length<=15) (n:(l.map (·.1)).Nodup)
 (h: ∀h' es,qV s.heap h'->dO l es->h'.get? s.heap.objs.size=aA (fB es es.length)->Q s.heap.objs.size {s with heap:=h',toks:=s.toks+3*l.length}):
 aO (aY prog w) A (xH<|mD p l) Q E s:=by
 dsimp only[xH];refine aR<|H4<|aR<|cO ?_;refine sb (QHb (by simp -iota [mD];assumption))<|wpAny_bind<|Yx l _ _ λm v=>cO<|aR ?_
 refine We v [] [] _ _ .nil (fH _ rfl) (by simpa -iota using n) (by simp! only[AG];simp;exact az ‹_› (gA _ _)) λh' es b e g=>?_;refine bA<|bA ?_;have:=h h' es ((qV.push ..).but b) (by simpa -iota using e) g;simpa -iota [(by simp+arith:s.toks+2*l.length+l.length=s.toks+3*l.length)] using this
theorem Tp {l L:List (Int×fY)} (n:((l++L).map (·.1)).Nodup) (K:L[x]?=aA ks): ∀q∈l++L.take x,q.1≠ks.1:=by
 intro q Q e;have u:L=L.take x++ks::L.drop (x+1):=by refine aV (zZ.mp K) λh e=>?_;rw[<-e,List.getElem_cons_drop h,sY]
 rw[u,<-ik,gp,xG] at n;exact n.2.2 q.1 (ij.mpr ⟨q,Q,rfl⟩) ks.1 (.head _) e
inductive A9 (d:aM) (s:aN) (l l':List (Int×fY)) (es':List xF) (rest:List Nat) (s':aN):Prop
 |mk (h':Heap) (i:Nat) (es'':List DictEntry):rest=List.range' i (es'.length - i)->i<=es'.length->s'={s with heap:=h'}->fe d s.heap h'->dO (l++l'.take i) es''->h'.get? d=some (fB es'' es''.length)->A9 d s l l' es' rest s'
theorem Mm {es e:List xF} (C:a≠d) (U:(a==Cz)=aE) (hd:s.heap.get? d=aA (fB es es.length)) (K:s.heap.get? a=aA (fB e e.length))
 (he:dO l es) (p:dO f e) (n:l≠[]) (N:((l++f).map (·.1)).Nodup) (hz:(l++f).length<=mL)
 (h: ∀h' B,fe d s.heap h'->dO (l++f) B->h'.get? d=aA (fB B B.length)->Q () {s with heap:=h'}):
 aO (aY prog w) A (IT d (.ref a) aE) Q E s:=by
 dsimp only[IT];have z:s.TypeIs (.ref a) "dict" :=(ax _ K rfl);refine aR<|wpAny_isInstance z isSubtype_dict_dict ?_;refine sb (QHb rfl)<|wpAny_bind<|wpAny_specialOf z F.slot_dict_iter.lookup ?_
 refine (?_:aO (aY prog w) A (if (a==Cz)=aB then _ else _) Q E s);erw[if_neg λq=>br<|U.symm.trans q];have g:es≠[]:=by intro q;clear C U hd K p z;subst q;clear N hz h;cases he;exact n rfl
 have r: ¬ es.toArray.isEmpty=true:=by simp[g]
 refine aR<|QFd hd rfl ?_;refine sb (QHa r)<|wpAny_bind<|wpAny_dictEntries K rfl (wpAny_bind<|wpAny_dictEpoch K rfl ?_)
 refine aR<|wpAny_forIn_list _ (λrest O s'=>A9 d s l f e rest s') _ ?_ ?_ _ _ ?_
 ·clear U hd he n h z g r
  rintro x rest _ _ ⟨h',i,B,R,j,rfl,hb,b,Y⟩
  have L:i<e.length:=by
   refine cp (QZ i e.length) (λq=>?_) λq=>?_
   ·exact q
   ·rw[xI q] at R
    clear q;contradiction
  rw[show e.length - i=(e.length - (i+1))+1 by exact (rJ (sE (L:i+1<=e.length)).symm<|sE ((aQ L):i<=e.length)),QFT] at R;refine bI (List.cons.inj R) λm c=>?_;subst m;subst c;refine aR<|QFd ((hb.get C).trans K:h'.get? a=aA (fB e e.length)) rfl ?_;refine aS (p.at L) λks Z W=>jT W λt u o=>sb (by simpa -iota using o:e.toArray[x]?=aA (lh ks.1 (.str ks.2 u) t))<|wpAny_bind (wpAny_holding<|QAT Y b.keys (b.none<|Tp N Z) (by rw[(by (erw[b.len];erw[List.length_append];erw[List.length_take];exact sb (Nat.min_eq_left (by rw[<-p.len];assumption)) rfl):B.length=l.length+x)];simp -iota at hz;exact bD (by rw[<-p.len];exact L:x<f.length) hz) λH P v=>?_)
  have M:fe d s.heap H:=hb.trans P;refine aR (wpAny_dictEpoch ((M.get C).trans K) rfl ?_)
  simp! only[QHi,wy,if_false]
  refine bA (A9.mk H (x+1) (B++[lh ks.1 (.str ks.2 u) t]) rfl L rfl M ?_ (by simpa -iota [lh] using v));rw[(by rw[List.take_add_one,Z];rfl:f.take (x+1)=f.take x++[ks]),<-ik];exact b.app<|.cons (lz _ _ rfl) .nil
 ·clear C U hd K he n N hz z g r
  rintro _ _ ⟨h',i,B,R,j,rfl,hb,b,Y⟩
  have:i=e.length:=by have:=QHd Qa R;simp -iota at this;exact (rJ (sE (j:i<=e.length)) this)
  clear R j;subst this;rw[p.len,List.take_length] at b;exact bA<|h h' B hb b Y
 ·exact A9.mk s.heap 0 es (by simp -iota [QFU]) (hJ _) rfl (fe.refl ..) (by simpa -iota using he) hd
noncomputable def again:ForInStep DS->ba (ForInStep DS):=λr=>match r with
 |.done b=>pure<|.done b
 |.yield b=>tV [] b n5.1.1
theorem Vu (x:List (ba aI×ba aI)) (h:x.length=17):
 tV (x.map λq=>(aA q.1,q.2)) ((aF,[])) n5.1.1=(((xH x>>=λd=>pure<|aA d)>>=λm=>pure<|.yield<|(m,[]))>>=again):=by
 refine aV (ED x h) λg e=>?_;subst e;lia
theorem QAm (d:aM) (x:List (ba aI×ba aI)) (h:x.length=17):
 tV (x.map λq=>(aA q.1,q.2)) ((aA d,[])) n5.1.1=(((oy [.ref d] (xH x)>>=λa=>((oy [.ref d,.ref a]<|IT d (.ref a) aE).onRaise λx=>oy [.ref d,x] (Qb<|.builtin "proto.let_go" {})>>=λO=>pure ())>>=λO=>pure<|aA d)>>=λm=>pure<|.yield<|(m,[]))>>=again):=by
 refine aV (ED x h) λg e=>sb e ?_;lia
theorem W8 (d:aM) (x:List (ba aI×ba aI)) (h:x.length=4):
 (forIn (x.map λq=>(aA q.1,q.2)) ((aA d,[])) n5.1.1>>=n5.1.2)=((oy [.ref d] (xH x)>>=λa=>((oy [.ref d,.ref a]<|IT d (.ref a) aE).onRaise λx=>oy [.ref d,x] (Qb<|.builtin "proto.let_go" {})>>=λO=>pure ())>>=λO=>pure<|aA d)>>=λm=>match m with
  |some d=>pure<|.ref d
  |none=>newDict):=by
 refine aV (ED x h) λg e=>sb e ?_;lia
structure va (h0 h:bK) (m:Nat) (l:List (Int×fY)):Prop where
 size:h.objs.size=h0.objs.size+1+m
 same: ∀b,b<h0.objs.size->h.objs[b]?=h0.objs[b]?
 life:h.life=h0.life
 tab: ∃es,dO l es/\h.get? h0.objs.size=aA (fB es es.length)
theorem N_ (hd:d=h0.objs.size) (q:1<h0.objs.size) (G:va h0 s.heap m n) (hl:l.length=17) (W:n≠[])
 (N:((n++l).map (·.1)).Nodup) (z:(n++l).length<=mL) (h: ∀h',va h0 h' (m+1) (n++l)->Q (.yield (aA d,[])) {s with heap:=h',toks:=s.toks+51}):
 aO (aY prog w) A (tV (jG p l) ((aA d,[])) n5.1.1) Q E s:=by
 subst hd;refine sb (QAm _ _<|by simp -iota [mD,hl])<|aS G.tab λes M u=>?_
 have a:(l.map (·.1)).Nodup:=by simp! only[gp,xG] at N;exact N.2.1
 refine aR (aR<|aR<|cO<|Og (aQ<|nR hl) (by simp! only[AG];exact aQ<|nL hl) a λH F g i Z=>?_);have L:h0.objs.size<s.heap.objs.size:=by simp! only[G.size];exact mO _ _
 have C:H.get? h0.objs.size=aA (fB es es.length):=by
  simp! only[<-u]
  unfold wZ
  simp! only[g.same _ L]
 refine aR<|QFe<|cO<|Mm (wV L) (beq_eq_false_iff_ne.mpr<|wV<|sF ‹_› ‹_›) C Z M i W N z λx f B e Y=>?_;refine bA<|bA<|bA ?_;refine sb hl<|h x ⟨?_,λb hb=>?_,?_,f,e,Y⟩
 ·simp! only[B.size,g.size,G.size]
  exact wX _ _ _
 ·simp! only[B.same b<|qo hb,g.same b<|sF hb L,G.same b hb]
 ·simp! only[B.life,g.life,G.life]
theorem QCo (hl:l.length=17) (n:(l.map (·.1)).Nodup)
 (h: ∀h',va s.heap h' 0 l->Q (.yield (aA s.heap.objs.size,[])) {s with heap:=h',toks:=s.toks+51}):
 aO (aY prog w) A (tV (jG p l) ((aF,[])) n5.1.1) Q E s:=by
 refine sb (Vu _<|by simp -iota [mD,hl])<|wpAny_bind (wpAny_bind<|wpAny_bind<|Og (aQ<|nR hl) (by erw[sizeLine_eq];exact aQ<|nL hl) n λH e g L Z=>?_)
 refine bA<|bA<|bA ?_;exact sb hl<|h H ⟨g.size,g.same,g.life,e,L,Z⟩
theorem TQ (hd:d=h0.objs.size) (q:1<h0.objs.size) (n:Nat): ∀(l done:List (Int×fY)) (m:Nat) (s:aN),l.length=17*n+4->va h0 s.heap m done->done≠[]->
 ((done++l).map (·.1)).Nodup->(done++l).length<=mL->
 (∀h',va h0 h' (m+n+1) (done++l)->Q (.ref d) {s with heap:=h',toks:=s.toks+51*n+12})->
 aO (aY prog w) A (forIn (jG p l) ((aA d,[])) n5.1.1>>=n5.1.2) Q E s:=by
 induction n with
 |zero=>
  intro l done m s hl G L N R h;subst hd;delta jG;refine sb (W8 _ _<|by simp -iota [mD,hl])<|aS G.tab λes he a=>aR (aR<|cO<|Tr (aQ<|nL hl) (by simp! only[gp,xG] at N;exact N.2.1:(l.map (·.1)).Nodup) λH F g i Z=>?_)
  have K:h0.objs.size<s.heap.objs.size:=by simp! only[G.size];exact mO _ _
  have C:H.get? h0.objs.size=aA (fB es es.length):=by
   simp! only[<-a]
   delta wZ
   simp! only[g.same _ K]
  refine aR<|QFe<|cO<|Mm (wV K) (beq_eq_false_iff_ne.mpr<|wV<|sF ‹_› ‹_›) C Z he i L N R λx f B Y z=>?_;refine bA<|bA ?_;refine sb hl<|h x ⟨?_,λb hb=>?_,?_,f,Y,z⟩
  ·simp! only[B.size,g.size,G.size]
   exact wX _ _ _
  ·simp! only[B.same b<|qo hb,g.same b<|sF hb K,G.same b hb]
  ·simp! only[B.life,g.life,G.life]
 |succ n c=>
  intro l done m s hl G L N R h
  have e:jG p l=jG p (l.take 17)++jG p (l.drop 17):=by
   delta jG mD
   simp! only[<-gp,<-gp,sY]
  simp! only[e,J1,bind_assoc]
  have W:done++l=(done++l.take 17)++l.drop 17:=by simp! only[ik,sY]
  have j:((done++l.take 17).map (·.1)).Nodup:=by rw[W,gp,xG] at N;exact N.1
  refine aR (N_ hd q G (by simp! only[DM];exact (fz<|(aQ<|nR hl))) L j (by have:=QHd Qa W;simp -iota at this R⊢;(clear hl;exact (bD R<|Cw (17)<|l.length))) λh' o=>?_);refine c (l.drop 17) (done++l.take 17) (m+1) _ (by simp! only[IU];exact (rJ hl<|sE ((aQ<|nR hl):17<=l.length))) o (by simp -iota [L]) (W▸N) (W▸R) λu v=>?_;have:=h u (by simp! only[W,show m+(n+1)+1=m+1+n+1 by exact zt _ _ _];exact v);simpa -iota [(by simp+arith:s.toks+51+51*n+12=s.toks+51*(n+1)+12)] using this
theorem YY (i:1<s.heap.objs.size) (hl:l.length=17*(n+1)+4) (N:(l.map (·.1)).Nodup) (z:l.length<=mL)
 (h: ∀h',va s.heap h' (n+1) l->Q (.ref s.heap.objs.size) {s with heap:=h',toks:=s.toks+51*(n+1)+12}):
 aO (aY prog w) A (QY<|jG p l) Q E s:=by
 rw[n5.2]
 have e:jG p l=jG p (l.take 17)++jG p (l.drop 17):=by
  delta jG mD
  simp! only[<-gp,<-gp,sY]
 simp! only[e,J1,bind_assoc]
 have Y:((l.take 17).map (·.1)).Nodup:=by rw[<-sY 17 l,gp,xG] at N;exact N.1
 refine aR (QCo (by erw[DM];exact (fz<|(aQ<|nR hl))) Y λh' o=>?_);refine TQ rfl i n (l.drop 17) (l.take 17) 0 _ (by erw[IU];exact (rJ hl<|sE ((aQ<|nR hl):17<=l.length))) o (by intro q;have:=QHd Qa q;rw[DM,um] at this;exact (cY (nR<|fz ((aQ<|nR hl):17<=l.length))<|nL this)) (by rw[sY];exact N) (by rw[sY];exact z) λH g=>?_
 simp! only[sY,uk] at g
 have:=h H g;simpa -iota [(by simp+arith:s.toks+51+51*n+12=s.toks+51*(n+1)+12)] using this
end
namespace B01
noncomputable abbrev en (P:bZ) (x:fY) (t:Nat) (v:aI):DictEntry:=⟨PyData.keyHash P x,.str x t,v⟩
noncomputable def hV (x:String):fY:=.ofString x
noncomputable def bY (x:String) (t:Nat):Value:=.str (hV x) t
noncomputable def qW (l:List String):Nat->List Value:=l.rec (λO=>[]) λx O f t=>bY x t::f (t+1)
noncomputable def rx (l:List Int):Nat->List Value:=l.rec (λO=>[]) λx O f t=>.int x t::f (t+1)
noncomputable def qf (l:List Int):List Value:=l.map (.int · 0)
noncomputable def bsH (l:List String):Nat->List (String×Nat×aI):=l.rec (λO=>[]) λx O f t=>(x,t,.builtin x)::f (t+1)
noncomputable def Jx (l:List String):Nat->List (String×Nat×aI):=l.rec (λO=>[]) λx O f t=>(x,t,.type x)::f (t+1)
noncomputable def wG (c:Int) (l:List (Int×Nat)):List Value:=l.rec [] λp O f=>.int p.1 0:: .int c 0:: .ref p.2::f
noncomputable def qJ (P:bZ) (l:List (String×Nat×aI)) (n:Nat):Obj:=⟨.type "dict",aF,.dict (l.map λp=>en P (hV p.1) p.2.1 p.2.2).toArray n, #[]⟩
noncomputable def vR:Obj:=⟨.type "dict",aF,.dict #[] 0, #[]⟩
noncomputable def fT (l:List aI):Obj:=⟨.type "tuple",aF,.seq l.toArray 0, #[]⟩
noncomputable def kV:Obj:=⟨.type "tuple",aF,.seq #[] 0, #[]⟩
noncomputable def rZ (l:List aI):Obj:=⟨.type "list",aF,.seq l.toArray 0, #[]⟩
noncomputable def vo (l:List aI):Obj:=⟨.none,aF,.fields l.toArray, #[]⟩
noncomputable def om:Obj:=⟨.none,aF,.fields #[], #[]⟩
noncomputable def fm (c:String) (l:List aI):Obj:=⟨.type c,aF,.fields l.toArray, #[]⟩
noncomputable def Pa (n q:String) (s:cq) (g:Nat) (d m c:aI):FuncData:={name:=hV n,qualname:=hV q,params:=Nf s,body:=.stmts<|fK s,scope:=cJ s,globals:=g,closure:=[],defaults:=d,kwdefaults:=.none,doc:=.none,pyModule:=m,annotations:=aF,code:=c,closureTuple:=.none,builtins:=0}
noncomputable def wK (n q:String) (s:cq):Obj:=⟨.none,aF,.func<|Pa n q s 0 .none .none .none, #[]⟩
noncomputable def wQ (n q:String) (s:cq) (d m:aI) (c:Nat):Obj:=⟨.type "function",aF,.func<|Pa n q s 3 d m<|.ref c, #[]⟩
noncomputable def vu (n q:String) (t:Nat) (l a b c d:Int) (r1 r2:Nat) (L v:aI) (r:Nat) (e:Int) (u:Nat):Obj:=fm "code" [bY n t,bY q<|t+1,bY "/claim/cut.py"<|t+2,.int l 0,.int a 0,.int b 0,.int c 0,.int d 0,.ref r1,.bool aB,.int 276 0,.ref r2,.none,L,v,.ref r,.int e 0,.int l 0,bY "/claim/cut.py" u]
noncomputable def VD:List (String×Nat×aI):=[("__doc__",166,.none),("__package__",167,.none),("__loader__",168,.builtin "__main__.__loader__#opaque"),("__spec__",169,.none),("__annotations__",170,.ref 6),("__builtins__",171,.ref 4),("__file__",173,bY "/claim/cut.py" 172),("__cached__",174,.none),("_sre",275,.ref 12),("_wall",288,.ref 38),("compute_powers",310,.ref 46),("_str_to_int_inner",321,.ref 53),("int_from_string",328,.ref 60),("_DIV_LIMIT",330,.int 4000 329),("_div2n1n",347,.ref 67),("_div3n2n",361,.ref 74),("_int2digits",372,.ref 81),("_digits2int",383,.ref 88),("_divmod_pos",398,.ref 95),("int_divmod",408,.ref 102),("_twin_re_1",426,.ref 107),("_twin_re_2",468,.ref 112),("CRLF",470,bY "\r\n" 469),("quotedata",477,.ref 119),("b1_set",539,.ref 127),("in_table_b1",546,.ref 137),("b3_exceptions",2497,.ref 138),("map_table_b3",2505,.ref 183),("tspecials",2541,.ref 188),("_name_disallowed_re",2567,.ref 193),("_value_disallowed_re",2601,.ref 198),("_formatparam",2611,.ref 206),("Headers",2768,.ref 327),("_law_cells",2776,.ref 336),("_law_letter",2785,.ref 343),("_law_hidden",2793,.ref 350),("_law_stay",2801,.ref 357),("_law_prepared",2807,.ref 362),("_law_corners",2815,.ref 369),("_law_book",2821,.ref 374),("_law_divided",2831,.ref 381),("_law_counts",2837,.ref 386),("_law_bare",2843,.ref 391),("_law_found",2849,.ref 396),("_law_common",2857,.ref 403),("_law_multiples",2863,.ref 408),("law",2869,.ref 413)]
noncomputable def rl (P:bZ) (n:aI) (k e:Nat):Obj:=qJ P (("__name__",165,n)::VD.take k) e
noncomputable def yI:List (Int×Nat):=[(2,37),(6,45),(47,52),(57,59),(61,66),(77,73),(87,80),(103,87),(112,94),(123,101),(138,118),(142,136),(145,182),(154,205),(163,212),(246,335),(248,342),(251,349),(254,356),(257,361),(259,368),(264,373),(285,380),(290,385),(312,390),(325,395),(355,402),(359,407),(376,412)]
noncomputable def QCA {α:Type} (d:α) (l:List α):Nat->α:=l.rec (λO=>d) λo O f i=>i.rec o λj O=>f j
noncomputable def s_:Value:=bY "__main__" 164
noncomputable def wL:Value:=bY "cpy313._pylong" 289
noncomputable def VG:Value:=bY "cpy313.smtplib" 409
noncomputable def J0:Value:=bY "cpy313.stringprep" 478
noncomputable def jD:Value:=bY "cpy313.wsgiref.headers" 2506
noncomputable def kL:Value:=bY "law_wf0123_02" 2769
noncomputable def jB (n q:String) (s:cq) (i t:Nat) (l a f:Int) (ns:List String) (v M:aI):List Obj:=kV::om::ns.rec [wK n q s,vu n q t l a 0 0 f i (i+1) .none .none (i+2) (t+3:Nat)<|t+4,wQ n q s v M<|i+3] λO O O=>[fT<|qW ns<|t+3,kV,wK n q s,vu n q t l a 0 0 f i (i+1) (.ref<|i+2) (.ref<|i+3) (i+4) (t+3+ns.length:Nat)<|t+4+ns.length,wQ n q s v M<|i+5]
noncomputable def fM (n:String):=jB n n
noncomputable def W_ (P:bZ):List (Nat×List bH):=[(32,[qJ P ([("__name__",1,bY "builtins" 160),("__doc__",2,.builtin "builtins.__doc__:str#opaque"),("__package__",3,.builtin "builtins.__package__:str#opaque"),("__loader__",4,.builtin "builtins.__loader__:shared#opaque"),("__spec__",5,.builtin "builtins.__spec__#opaque")]++bsH ["__build_class__","__import__","abs","all","any","ascii","bin","breakpoint","callable","chr","compile","delattr","dir","divmod","eval","exec","format","getattr","globals","hasattr","hash","hex","id","input","isinstance","issubclass","iter","aiter","len","locals","max","min","next","anext","oct","ord","pow","print","repr","round","setattr","sorted","sum","vars"] 6++[("None",50,.none),("Ellipsis",51,.ellipsis),("NotImplemented",52,.notImplemented),("False",53,.bool aE),("True",54,.bool aB)]++Jx ["bool","memoryview","bytearray","bytes","classmethod","complex","dict","enumerate","filter","float","frozenset","property","int","list","map","object","range","reversed","set","slice","staticmethod","str","super","tuple","type","zip"] 55++[("__debug__",81,.bool aB)]++Jx ["BaseException","BaseExceptionGroup","Exception","GeneratorExit","KeyboardInterrupt","SystemExit","ArithmeticError","AssertionError","AttributeError","BufferError","EOFError","ImportError","LookupError","MemoryError","NameError","OSError","ReferenceError","RuntimeError","StopAsyncIteration","StopIteration","SyntaxError","SystemError","TypeError","ValueError","Warning","FloatingPointError","OverflowError","ZeroDivisionError","BytesWarning","DeprecationWarning","EncodingWarning","FutureWarning","ImportWarning","PendingDeprecationWarning","ResourceWarning","RuntimeWarning","SyntaxWarning","UnicodeWarning","UserWarning","BlockingIOError","ChildProcessError","ConnectionError","FileExistsError","FileNotFoundError","InterruptedError","IsADirectoryError","NotADirectoryError","PermissionError","ProcessLookupError","TimeoutError","IndentationError","_IncompleteInputError","IndexError","KeyError","ModuleNotFoundError","NotImplementedError","PythonFinalizationError","RecursionError","UnboundLocalError","UnicodeError","BrokenPipeError","ConnectionAbortedError","ConnectionRefusedError","ConnectionResetError","TabError","UnicodeDecodeError","UnicodeEncodeError","UnicodeTranslateError","ExceptionGroup"] 82++[("EnvironmentError",151,.type "OSError"),("IOError",152,.type "OSError"),("open",153,.builtin "open"),("quit",154,.builtin "builtins.quit#opaque"),("exit",155,.builtin "builtins.exit#opaque"),("copyright",156,.builtin "builtins.copyright#opaque"),("credits",157,.builtin "builtins.credits#opaque"),("license",158,.builtin "builtins.license#opaque"),("help",159,.builtin "builtins.help#opaque")]) 159,qJ P [("builtins",162,.ref 4),("__main__",163,.ref 5),("_sre",244,.ref 12)] 3,⟨.none,aF,(.dict #[en P (hV "\x69mport.loaded._sre") 183<|.bool aB,en P (hV "class._frozen_importlib.BuiltinImporter") 185<|.ref 14,en P (hV "watched.\x69mport") 206<|.ref 18,en P (hV "class._frozen_importlib.ModuleSpec") 216<|.ref 22,en P (hV "sys.modules.booked-epoch") 245<|.int 3 0,en P (hV "\x69mport.later-laid._sre") 270<|.bool aB,en P (hV "watched.library") 272<|.ref 27,en P (hV "watched.library-objects") 0<|bY "\x0c" 0,en P (hV "watched.library-deep._sre") 273<|bY "\x04\x00\x00\x0b\x04\x00\x00\x0b\x04\x00\x00\x03\x04\x00\x00\x0b\x08\x04dict\x02" 0] 9), #[]⟩,rl P (bY "__main__" 164) 9 10,⟨(.type "module"),(aA 0),.plain, #[]⟩,⟨(.type "module"),(aA 3),.plain, #[]⟩,vR,kV,om,fm "code"<|qW ["<module>","<module>","/claim/cut.py"] 176++qf [1,0,0,0,0]++[.ref 7,.bool aE,.int 175 0,.ref 8,.none,.none,.none,.none,.int 179 0,.int 1 0,bY "/claim/cut.py" 180],⟨(.type "frame"),aF,.plain, #[aA<|.ref 9,aA<|.ref 3,aA<|.ref 3,aF,aA<|bY "__main__" 164,aF,aA<|.ref 0]⟩,qJ P [("__name__",247,bY "_sre" 246),("__doc__",248,.none),("__package__",250,bY "" 249),("__loader__",251,.builtin "off-the-table:_sre.__loader__:shared#opaque"),("__spec__",252,.builtin "off-the-table:_sre.__spec__:shared#opaque"),("compile",253,.builtin "_sre.compile"),("template",254,.builtin "off-the-table:_sre.template:shared#opaque"),("getcodesize",255,.builtin "off-the-table:_sre.getcodesize:shared#opaque"),("ascii_iscased",256,.builtin "off-the-table:_sre.ascii_iscased:shared#opaque"),("unicode_iscased",257,.builtin "off-the-table:_sre.unicode_iscased:shared#opaque"),("ascii_tolower",258,.builtin "off-the-table:_sre.ascii_tolower:shared#opaque"),("unicode_tolower",259,.builtin "off-the-table:_sre.unicode_tolower:shared#opaque"),("MAGIC",261,.int 20230612 260),("CODESIZE",263,.int 4 262),("MAXREPEAT",265,.int 4294967295 264),("MAXGROUPS",267,.int 1073741823 266),("copyright",269,bY " SRE 2.2.2 Copyright (c) 1997-2002 by Secret Labs AB " 268)] 17,⟨(.type "module"),(aA 11),.plain, #[]⟩,qJ P [("__module__",189,bY "_frozen_importlib" 186),("__firstlineno__",190,.int 971 187),("__doc__",191,.builtin "_frozen_importlib.BuiltinImporter.__doc__:str#opaque"),("_ORIGIN",192,bY "built-in" 188),("find_spec",193,.builtin "_frozen_importlib.BuiltinImporter.find_spec#opaque"),("create_module",194,.builtin "_frozen_importlib.BuiltinImporter.create_module#opaque"),("exec_module",195,.builtin "_frozen_importlib.BuiltinImporter.exec_module#opaque"),("get_code",196,.builtin "_frozen_importlib.BuiltinImporter.get_code#opaque"),("get_source",197,.builtin "_frozen_importlib.BuiltinImporter.get_source#opaque"),("is_package",198,.builtin "_frozen_importlib.BuiltinImporter.is_package#opaque"),("load_module",199,.builtin "_frozen_importlib.BuiltinImporter.load_module#opaque"),("__static_attributes__",200,.ref 15),("__dict__",202,.ref 16),("__weakref__",204,.ref 17)] 14,⟨(.type "type"),aF,(.cls {name:=(hV "BuiltinImporter"),bases:=[(.type "object")],mro:=[(.ref 14),(.type "object")],ns:=13,qualname:=(hV "BuiltinImporter"),hasDict:=aB,slotNames:=[],subclasses:=[],abstract:=aE,collection:=aF,hasDel:=aE}), #[]⟩,kV,fm "getset_descriptor" [bY "__dict__" 201,.ref 14,.builtin "function.__dict__",.builtin "function.__dict__#set"],fm "getset_descriptor" [bY "__weakref__" 203,.ref 14,.builtin "ExceptionGroup.__weakref__",.none],⟨.none,aF,(.seq #[(.int 13 0),(.str ⟨#[6,189,10,95,95,109,111,100,117,108,101,95,95,6,186,17,95,102,114,111,122,101,110,95,105,109,112,111,114,116,108,105,98,6,190,15,95,95,102,105,114,115,116,108,105,110,101,110,111,95,95,4,187,0,971,6,191,7,95,95,100,111,99,95,95,9,52,95,102,114,111,122,101,110,95,105,109,112,111,114,116,108,105,98,46,66,117,105,108,116,105,110,73,109,112,111,114,116,101,114,46,95,95,100,111,99,95,95,58,115,116,114,35,111,112,97,113,117,101,6,192,7,95,79,82,73,71,73,78,6,188,8,98,117,105,108,116,45,105,110,6,193,9,102,105,110,100,95,115,112,101,99,9,50,95,102,114,111,122,101,110,95,105,109,112,111,114,116,108,105,98,46,66,117,105,108,116,105,110,73,109,112,111,114,116,101,114,46,102,105,110,100,95,115,112,101,99,35,111,112,97,113,117,101,6,194,13,99,114,101,97,116,101,95,109,111,100,117,108,101,9,54,95,102,114,111,122,101,110,95,105,109,112,111,114,116,108,105,98,46,66,117,105,108,116,105,110,73,109,112,111,114,116,101,114,46,99,114,101,97,116,101,95,109,111,100,117,108,101,35,111,112,97,113,117,101,6,195,11,101,120,101,99,95,109,111,100,117,108,101,9,52,95,102,114,111,122,101,110,95,105,109,112,111,114,116,108,105,98,46,66,117,105,108,116,105,110,73,109,112,111,114,116,101,114,46,101,120,101,99,95,109,111,100,117,108,101,35,111,112,97,113,117,101,6,196,8,103,101,116,95,99,111,100,101,9,49,95,102,114,111,122,101,110,95,105,109,112,111,114,116,108,105,98,46,66,117,105,108,116,105,110,73,109,112,111,114,116,101,114,46,103,101,116,95,99,111,100,101,35,111,112,97,113,117,101,6,197,10,103,101,116,95,115,111,117,114,99,101,9,51,95,102,114,111,122,101,110,95,105,109,112,111,114,116,108,105,98,46,66,117,105,108,116,105,110,73,109,112,111,114,116,101,114,46,103,101,116,95,115,111,117,114,99,101,35,111,112,97,113,117,101,6,198,10,105,115,95,112,97,99,107,97,103,101,9,51,95,102,114,111,122,101,110,95,105,109,112,111,114,116,108,105,98,46,66,117,105,108,116,105,110,73,109,112,111,114,116,101,114,46,105,115,95,112,97,99,107,97,103,101,35,111,112,97,113,117,101,6,199,11,108,111,97,100,95,109,111,100,117,108,101,9,52,95,102,114,111,122,101,110,95,105,109,112,111,114,116,108,105,98,46,66,117,105,108,116,105,110,73,109,112,111,114,116,101,114,46,108,111,97,100,95,109,111,100,117,108,101,35,111,112,97,113,117,101,6,200,21,95,95,115,116,97,116,105,99,95,97,116,116,114,105,98,117,116,101,115,95,95,4,0,0,15,6,202,8,95,95,100,105,99,116,95,95,4,0,0,16,6,204,11,95,95,119,101,97,107,114,101,102,95,95,4,0,0,17]⟩ 0),(.bool aB),(.bool aB),(bY "" 205),(.int 21 0),(bY "\x06\xe3\n__module__\x06\xd9\x11_frozen_importlib\x06\xe4\x0f__firstlineno__\x04\xda\x00Ȳ\x06\xe5\x07__doc__\t/_frozen_importlib.ModuleSpec.__doc__:str#opaque\x06\xe6\x08__init__\t,_frozen_importlib.ModuleSpec.__init__#opaque\x06\xe7\x08__repr__\t,_frozen_importlib.ModuleSpec.__repr__#opaque\x06\xe8\x06__eq__\t*_frozen_importlib.ModuleSpec.__eq__#opaque\x06\xe9\x06cached\t*_frozen_importlib.ModuleSpec.cached#opaque\x06\xea\x06parent\t*_frozen_importlib.ModuleSpec.parent#opaque\x06\xeb\x0chas_location\t0_frozen_importlib.ModuleSpec.has_location#opaque\x06\xec\x15__static_attributes__\x04\x00\x00\x17\x06\xee\x08__dict__\x04\x00\x00\x18\x06\xf0\x0b__weakref__\x04\x00\x00\x19\x06\xf1\x08__hash__\x00" 0),(.bool aB),(.bool aB),(bY "" 242)] 1), #[]⟩,rZ [],qJ P [("name",208,bY "_sre" 207),("loader",209,.ref 14),("origin",210,bY "built-in" 184),("loader_state",211,.none),("submodule_search_locations",212,.none),("_uninitialized_submodules",213,.ref 19),("_set_fileattr",214,.bool aE),("_cached",215,.none),("_initializing",243,.bool aE)] 9,qJ P [("__module__",227,bY "_frozen_importlib" 217),("__firstlineno__",228,.int 562 218),("__doc__",229,.builtin "_frozen_importlib.ModuleSpec.__doc__:str#opaque"),("__init__",230,.builtin "_frozen_importlib.ModuleSpec.__init__#opaque"),("__repr__",231,.builtin "_frozen_importlib.ModuleSpec.__repr__#opaque"),("__eq__",232,.builtin "_frozen_importlib.ModuleSpec.__eq__#opaque"),("cached",233,.builtin "_frozen_importlib.ModuleSpec.cached#opaque"),("parent",234,.builtin "_frozen_importlib.ModuleSpec.parent#opaque"),("has_location",235,.builtin "_frozen_importlib.ModuleSpec.has_location#opaque"),("__static_attributes__",236,.ref 23),("__dict__",238,.ref 24),("__weakref__",240,.ref 25),("__hash__",241,.none)] 13,⟨(.type "type"),aF,(.cls {name:=(hV "ModuleSpec"),bases:=[(.type "object")],mro:=[(.ref 22),(.type "object")],ns:=21,qualname:=(hV "ModuleSpec"),hasDict:=aB,slotNames:=[],subclasses:=[],abstract:=aE,collection:=aF,hasDel:=aE}), #[]⟩,fT<|qW ["_cached","_set_fileattr","_uninitialized_submodules","loader","loader_state","name","origin","submodule_search_locations"] 219,fm "getset_descriptor" [bY "__dict__" 237,.ref 22,.builtin "function.__dict__",.builtin "function.__dict__#set"],fm "getset_descriptor" [bY "__weakref__" 239,.ref 22,.builtin "ExceptionGroup.__weakref__",.none],⟨(.ref 22),(aA 20),.plain, #[]⟩,⟨.none,aF,(.seq #[(.int 11 0),(.str ⟨#[6,247,8,95,95,110,97,109,101,95,95,6,246,4,95,115,114,101,6,248,7,95,95,100,111,99,95,95,0,6,250,11,95,95,112,97,99,107,97,103,101,95,95,6,249,0,6,251,10,95,95,108,111,97,100,101,114,95,95,4,0,0,14,6,252,8,95,95,115,112,101,99,95,95,4,0,0,26,6,253,7,99,111,109,112,105,108,101,9,12,95,115,114,101,46,99,111,109,112,105,108,101,6,254,8,116,101,109,112,108,97,116,101,9,13,95,115,114,101,46,116,101,109,112,108,97,116,101,6,255,11,103,101,116,99,111,100,101,115,105,122,101,9,16,95,115,114,101,46,103,101,116,99,111,100,101,115,105,122,101,6,256,13,97,115,99,105,105,95,105,115,99,97,115,101,100,9,18,95,115,114,101,46,97,115,99,105,105,95,105,115,99,97,115,101,100,6,257,15,117,110,105,99,111,100,101,95,105,115,99,97,115,101,100,9,20,95,115,114,101,46,117,110,105,99,111,100,101,95,105,115,99,97,115,101,100,6,258,13,97,115,99,105,105,95,116,111,108,111,119,101,114,9,18,95,115,114,101,46,97,115,99,105,105,95,116,111,108,111,119,101,114,6,259,15,117,110,105,99,111,100,101,95,116,111,108,111,119,101,114,9,20,95,115,114,101,46,117,110,105,99,111,100,101,95,116,111,108,111,119,101,114,6,261,5,77,65,71,73,67,4,260,0,20230612,6,263,8,67,79,68,69,83,73,90,69,4,262,0,4,6,265,9,77,65,88,82,69,80,69,65,84,4,264,0,4294967295,6,267,9,77,65,88,71,82,79,85,80,83,4,266,0,1073741823,6,269,9,99,111,112,121,114,105,103,104,116,6,268,53,32,83,82,69,32,50,46,50,46,50,32,67,111,112,121,114,105,103,104,116,32,40,99,41,32,49,57,57,55,45,50,48,48,50,32,98,121,32,83,101,99,114,101,116,32,76,97,98,115,32,65,66,32]⟩ 0),(.bool aB),(.bool aE),(bY "_sre" 271)] 0), #[]⟩,kV,om,fm "code"<|qW ["<module>","<module>","/claim/cut.py"] 277++qf [1,0,0,0,0]++[.ref 28,.bool aE,.int 276 0,.ref 29,.none,.none,.none,.none,.int 280 0,.int 1 0,bY "/claim/cut.py" 281],⟨(.type "frame"),aF,.plain, #[aA<|.ref 30,aA<|.ref 3,aA<|.ref 3,aF,aA<|bY "__main__" 164,aF,aA<|.ref 0]⟩]),
(39,fM "_wall" (bO 1) 32 282 2 1 3 ["k"] .none s_),
(40,[fT [.bool aE]]),
(47,fM "compute_powers" (bO 3) 40 291 6 4 3 ["w","base","more_than","show","seen","need","ws","lo","d","it","first","this","hi","sq"] (.ref 39) wL),
(54,[kV,om,fT [bY "s" 314],fT<|qW ["s","DIGLIM","inner","w5pow"] 315,wK "_str_to_int_inner" "_str_to_int_inner"<|bO 4,vu "_str_to_int_inner" "_str_to_int_inner" 311 47 1 0 0 3 47 48 (.ref 49) (.ref 50) 51 319 320,wQ "_str_to_int_inner" "_str_to_int_inner" (bO 4) .none (bY "cpy313._pylong" 289) 52]),
(61,fM "int_from_string" (bO 5) 54 322 57 1 3 ["s"] .none wL),
(68,fM "_div2n1n" (bO 7) 61 331 61 3 3 ["a","b","n","pad","half_n","mask","b1","b2","q1","r","q2"] .none wL),
(75,fM "_div3n2n" (bO 8) 68 348 77 6 3 ["a12","a3","b","b1","b2","n","q","r"] .none wL),
(89,[kV,om,fT [bY "a" 365,bY "n" 366],fT<|qW ["n","a_digits","inner"] 367,wK "_int2digits" "_int2digits"<|bO 9,vu "_int2digits" "_int2digits" 362 87 2 0 0 3 75 76 (.ref 77) (.ref 78) 79 370 371,wQ "_int2digits" "_int2digits" (bO 9) .none (bY "cpy313._pylong" 289) 80,kV,om,fT [bY "digits" 376,bY "n" 377],fT<|qW ["digits","n","inner"] 378,wK "_digits2int" "_digits2int"<|bO 10,vu "_digits2int" "_digits2int" 373 103 2 0 0 3 82 83 (.ref 84) (.ref 85) 86 381 382,wQ "_digits2int" "_digits2int" (bO 10) .none (bY "cpy313._pylong" 289) 87]),
(96,fM "_divmod_pos" (bO 11) 89 384 112 2 3 ["a","b","n","a_digits","r","q_digits","a_digit","q_digit","q"] .none wL),
(103,fM "int_divmod" (bO 12) 96 399 123 2 3 ["a","b","q","r"] .none wL),
(113,[rZ<|rx [14,4,0,1,1,6,1,16,46,1] 414,vR,fT [.none],fT<|qf [14,4,0,1,1,6,1,16,46,1],fm "re.Pattern" [bY "(?m)^\\." 412,.int 40 425,.int 0 0,.none,.none,.ref 106,.int 0 0],rZ<|rx [14,9,4,1,2,16,10,16,13,0,7,7,16,13,16,10,15,18,5,16,10,15,13,11,16,13,5,5,0,16,10,1,15,2,0,1] 430,vR,fT [.none],fT<|qf [14,9,4,1,2,16,10,16,13,0,7,7,16,13,16,10,15,18,5,16,10,15,13,11,16,13,5,5,0,16,10,1,15,2,0,1],fm "re.Pattern" [bY "(?:\\r\\n|\\n|\\r(?!\\n))" 428,.int 32 467,.int 0 0,.none,.none,.ref 111,.int 0 0]]),
(120,fM "quotedata" (bO 17) 113 471 138 1 3 ["data"] .none VG),
(131,[rZ<|rx [173,847,6150,6155,6156,6157,8203,8204,8205,8288,65279] 480,fm "range" [.int 65024 491,.int 65040 492,.int 1 493],⟨(.type "list"),aF,(.seq #[(.int 65024 496),(.int 65025 497),(.int 65026 498),(.int 65027 499),(.int 65028 500),(.int 65029 501),(.int 65030 502),(.int 65031 503),(.int 65032 504),(.int 65033 505),(.int 65034 506),(.int 65035 507),(.int 65036 508),(.int 65037 509),(.int 65038 510),(.int 65039 511)] 18), #[]⟩,fm "range_iterator"<|qf [65040,0,1],kV,fm "StopIteration" [.ref 124,.none,.none,.none,.bool aE,.none],rZ<|rx [173,847,6150,6155,6156,6157,8203,8204,8205,8288,65279] 480++rx [65024,65025,65026,65027,65028,65029,65030,65031,65032,65033,65034,65035,65036,65037,65038,65039] 496,⟨(.type "set"),aF,(.set ([(65024,496),(65025,497),(65026,498),(65027,499),(65028,500),(65029,501),(6150,482),(65030,502),(65031,503),(65032,504),(65033,505),(6155,483),(6156,484),(6157,485),(8203,486),(8204,487),(8205,488),(65034,506),(65035,507),(65036,508),(65037,509),(65038,510),(65039,511),(173,480),(847,481),(8288,489),(65279,490)].map λp:Nat×Nat=>((p.1:Int),Qc p.1 p.2)).toArray 29 {mask:=127,place:= #[0,1,2,3,4,5,6,7,8,9,10,11,12,13,14,15,16,17,18,19,20,21,22,45,79,96,127],dummies:= #[],finger:=0,led:= !(P.followText "set-order"),moves:=2,plain:=aB}), #[]⟩,fm "list_iterator" [.none,.int 27 0],kV,fm "StopIteration" [.ref 129,.none,.none,.none,.bool aE,.none]]),
(138,fM "in_table_b1" (bO 20) 131 540 142 1 3 ["code"] .none J0),
(177,(bg 39).map λO=>om),
(184,fM "map_table_b3" (bO 22) 177 2498 145 1 3 ["code","r"] .none J0),
(200,[rZ<|rx [14,14,4,1,1,9,0,4227896069,939524097,0,0,0,0,0,0,13,11,9,0,4227896069,939524097,0,0,0,0,0,0,1] 2511,vR,fT [.none],fT<|qf [14,14,4,1,1,9,0,4227896069,939524097,0,0,0,0,0,0,13,11,9,0,4227896069,939524097,0,0,0,0,0,0,1],fm "re.Pattern" [bY "[ \\(\\)<>@,;:\\\\\"/\\[\\]\\?=]" 2509,.int 32 2540,.int 0 0,.none,.none,.ref 187,.int 0 0],rZ<|rx [14,10,4,1,1,22,0,31,16,127,0,13,7,22,0,31,16,127,0,1] 2545,vR,fT [.none],fT<|qf [14,10,4,1,1,22,0,31,16,127,0,13,7,22,0,31,16,127,0,1],fm "re.Pattern" [bY "[\\x00-\\x1F\\x7F]" 2543,.int 32 2566,.int 0 0,.none,.none,.ref 192,.int 0 0],rZ<|rx [14,14,4,1,1,9,4294966783,0,0,2147483648,0,0,0,0,0,13,11,9,4294966783,0,0,2147483648,0,0,0,0,0,1] 2571,vR,fT [.none],fT<|qf [14,14,4,1,1,9,4294966783,0,0,2147483648,0,0,0,0,0,13,11,9,4294966783,0,0,2147483648,0,0,0,0,0,1],fm "re.Pattern" [bY "[\\x00-\\x08\\x0A-\\x1F\\x7F]" 2569,.int 32 2600,.int 0 0,.none,.none,.ref 197,.int 0 0],fT [.none,.int 1 2602]]),
(207,fM "_formatparam" (bO 27) 200 2603 154 3 3 ["param","value","quote"] (.ref 199) jD),
(215,[kV,fm "builtin_function_or_method" [.builtin "type.__prepare__",.type "type"],qJ P [("__module__",2619,bY "cpy313.wsgiref.headers" 2506),("__qualname__",2621,bY "Headers" 2620),("__firstlineno__",2623,.int 163 2622),("__init__",2633,.ref 221),("_convert_string_type",2643,.ref 228),("__len__",2650,.ref 235),("__setitem__",2659,.ref 242),("__delitem__",2665,.ref 247),("__getitem__",2673,.ref 254),("__contains__",2681,.ref 261),("get_all",2687,.ref 266),("get",2698,.ref 274),("keys",2704,.ref 279),("values",2710,.ref 284),("items",2717,.ref 291),("__repr__",2724,.ref 298),("__str__",2730,.ref 303),("__bytes__",2737,.ref 310),("setdefault",2746,.ref 317),("add_header",2759,.ref 324),("__static_attributes__",2761,.ref 325)] 21,kV,vo<|wG 4 [(165,220),(175,227),(183,234),(186,241),(190,246),(194,253),(197,260),(200,265),(204,273),(211,278),(214,283),(217,290),(220,297),(223,302),(226,309),(229,316),(232,323)],fm "code"<|qW ["Headers","Headers","/claim/cut.py"] 2614++qf [163,0,0,0,0]++[.ref 210,.bool aE,.int 276 0,.ref 211,.none,.none,.none,.none,.int 2617 0,.int 163 0,bY "/claim/cut.py" 2618],⟨(.type "frame"),aF,.plain, #[aA<|.ref 212,aA<|.ref 3,aA<|.ref 209,aF,aA<|bY "cpy313.wsgiref.headers" 2506,aF,aA<|.ref 0]⟩,fT [.none]]),
(222,jB "__init__" "Headers.__init__" (dD 28 0) 215 2624 165 2 3 ["self","headers","k","v"] (.ref 214) jD),
(229,[kV,om,fT<|qW ["self","value","name","regex"] 2637,kV,wK "_convert_string_type" "Headers._convert_string_type"<|dD 28 1,vu "_convert_string_type" "Headers._convert_string_type" 2634 175 2 0 1 3 222 223 (.ref 224) (.ref 225) 226 2641 2642,wQ "_convert_string_type" "Headers._convert_string_type" (dD 28 1) .none (bY "cpy313.wsgiref.headers" 2506) 227]),
(236,jB "__len__" "Headers.__len__" (dD 28 2) 229 2644 183 1 3 ["self"] .none jD),
(243,jB "__setitem__" "Headers.__setitem__" (dD 28 3) 236 2651 186 3 3 ["self","name","val"] .none jD),
(248,jB "__delitem__" "Headers.__delitem__" (dD 28 4) 243 2660 190 2 3 [] .none jD),
(255,jB "__getitem__" "Headers.__getitem__" (dD 28 5) 248 2666 194 2 3 ["self","name"] .none jD),
(262,jB "__contains__" "Headers.__contains__" (dD 28 6) 255 2674 197 2 3 ["self","name"] .none jD),
(267,jB "get_all" "Headers.get_all" (dD 28 7) 262 2682 200 2 3 [] .none jD),
(268,[fT [.none]]),
(275,jB "get" "Headers.get" (dD 28 8) 268 2688 204 3 3 ["self","name","default","k","v"] (.ref 267) jD),
(280,jB "keys" "Headers.keys" (dD 28 9) 275 2699 211 1 3 [] .none jD),
(285,jB "values" "Headers.values" (dD 28 10) 280 2705 214 1 3 [] .none jD),
(292,jB "items" "Headers.items" (dD 28 11) 285 2711 217 1 3 ["self"] .none jD),
(299,jB "__repr__" "Headers.__repr__" (dD 28 12) 292 2718 220 1 3 ["self"] .none jD),
(304,jB "__str__" "Headers.__str__" (dD 28 13) 299 2725 223 1 3 [] .none jD),
(311,jB "__bytes__" "Headers.__bytes__" (dD 28 14) 304 2731 226 1 3 ["self"] .none jD),
(318,jB "setdefault" "Headers.setdefault" (dD 28 15) 311 2738 229 3 3 ["self","name","value"] .none jD),
(325,jB "add_header" "Headers.add_header" (dD 28 16) 318 2747 232 3 11 ["self","_name","_value","_params","parts","k","v"] .none jD),
(332,[fT [bY "_headers" 2760],qJ P [("__module__",2619,bY "cpy313.wsgiref.headers" 2506),("__firstlineno__",2623,.int 163 2622),("__init__",2633,.ref 221),("_convert_string_type",2643,.ref 228),("__len__",2650,.ref 235),("__setitem__",2659,.ref 242),("__delitem__",2665,.ref 247),("__getitem__",2673,.ref 254),("__contains__",2681,.ref 261),("get_all",2687,.ref 266),("get",2698,.ref 274),("keys",2704,.ref 279),("values",2710,.ref 284),("items",2717,.ref 291),("__repr__",2724,.ref 298),("__str__",2730,.ref 303),("__bytes__",2737,.ref 310),("setdefault",2746,.ref 317),("add_header",2759,.ref 324),("__static_attributes__",2761,.ref 325),("__dict__",2763,.ref 328),("__weakref__",2765,.ref 329),("__doc__",2766,.none)] 4,⟨(.type "type"),aF,(.cls {name:=(hV "Headers"),bases:=[(.type "object")],mro:=[(.ref 327),(.type "object")],ns:=326,qualname:=(hV "Headers"),hasDict:=aB,slotNames:=[],subclasses:=[],abstract:=aE,collection:=aF,hasDel:=aE}), #[aF,aF,aA<|bY "Headers" 2612,aA<|bY "Headers" 2620,aA<|.builtin "object.__new__",aA<|.bool aB]⟩,fm "getset_descriptor" [bY "__dict__" 2762,.ref 327,.builtin "function.__dict__",.builtin "function.__dict__#set"],fm "getset_descriptor" [bY "__weakref__" 2764,.ref 327,.builtin "ExceptionGroup.__weakref__",.none],fm "super" [.ref 327,.ref 327,.ref 327],fm "builtin_function_or_method" [.builtin "object.__init_subclass__",.ref 327]]),
(337,fM "_law_cells" (bO 30) 332 2771 246 2 3 [] .none kL),
(344,fM "_law_letter" (bO 31) 337 2777 248 2 3 ["letter","way","starts"] .none kL),
(351,fM "_law_hidden" (bO 32) 344 2786 251 1 3 ["way","lone"] .none kL),
(358,fM "_law_stay" (bO 33) 351 2794 254 1 3 ["way","beside"] .none kL),
(363,fM "_law_prepared" (bO 34) 358 2802 257 1 3 [] .none kL),
(370,fM "_law_corners" (bO 35) 363 2808 259 1 3 ["cell","corners"] .none kL),
(375,fM "_law_book" (bO 36) 370 2816 264 2 3 [] .none kL),
(382,fM "_law_divided" (bO 37) 375 2822 285 2 3 ["upper","lower","whole","rest"] .none kL),
(387,fM "_law_counts" (bO 38) 382 2832 290 3 3 [] .none kL),
(392,fM "_law_bare" (bO 39) 387 2838 312 2 3 [] .none kL),
(397,fM "_law_found" (bO 40) 392 2844 325 2 3 [] .none kL),
(404,fM "_law_common" (bO 41) 397 2850 355 2 3 ["one","other"] .none kL),
(409,fM "_law_multiples" (bO 42) 404 2858 359 3 3 [] .none kL),
(414,fM "law" (bO 43) 409 2864 376 1 3 [] .none kL)]
noncomputable def nxH (l:List (Nat×List bH)) (i:Nat):Nat->Obj:=l.rec (λO=>om) λp O f s=>(cP i p.1).rec (f p.1)<|QCA om p.2<|i - s
noncomputable def ob (i:Nat) (P:bZ):Obj:=nxH (W_ P) i 0
noncomputable def CW (n:Nat) (f:Nat->bH):Nat->Nat->Nat->BT:=Nat.rec (λO O=>.nil) λO g a b=>bif cP b n then .node (f b) (g (2*a)<|a+b) (g (2*a)<|2*a+b) else .nil
noncomputable def Xv (P:bZ):Obj:=rl P (bY "cpy313.stringprep" 478) 24 25
noncomputable def MW (P:bZ):Obj:=vo<|wG 0<|yI.take 11
noncomputable def YT (P:bZ):Obj:=rl P (bY "cpy313.stringprep" 478) 25 26
noncomputable def XA (P:bZ):Obj:=rl P (bY "cpy313.stringprep" 478) 26 27
noncomputable def LL (P:bZ):Obj:=vo<|wG 0<|yI.take 12
noncomputable def QCN (P:bZ):Obj:=rl P (bY "cpy313.stringprep" 478) 27 28
noncomputable def Yb (P:bZ):Obj:=rl P (bY "cpy313.wsgiref.headers" 2506) 32 33
noncomputable def QAI (P:bZ):Obj:=vo<|wG 0<|yI.take 14
noncomputable def TC (P:bZ):Obj:=rl P (bY "cpy313.wsgiref.headers" 2506) 33 34
noncomputable def Yy (P:bZ):Obj:=vo<|wG 0<|yI.take 15
noncomputable def xu (P:bZ):Obj:=rl P (bY "law_wf0123_02" 2769) 47 48
noncomputable def WV (P:bZ):Obj:=vo<|wG 0<|yI.take 29
noncomputable def Fy (P:bZ) (p o:bH) (n:Nat):BT:=CW n (λi=>(bt i 3).rec ((bt i 29).rec (ob i P) o) p) 10 1 0
noncomputable def BV (P:bZ) (X:Nat->bH) (p o:bH) (n:Nat):BT:=CW n (λi=>(bt i 3).rec ((bt i 29).rec ((eX 138 i && cP i 177).rec (ob i P)<|X i) o) p) 10 1 0
noncomputable def uE (P:bZ):BT:=CW 28 (ob · P) 10 1 0
noncomputable def QAo (P:bZ):BT:=CW 32 (ob · P) 10 1 0
noncomputable def Vq (P:bZ):BT:=Fy P (Xv P) (MW P) 120
noncomputable def K_ (P:bZ):BT:=Fy P (YT P) (MW P) 131
noncomputable def uA (P:bZ):BT:=Fy P (XA P) (LL P) 138
noncomputable def Zn (P:bZ) (X:Nat->bH):BT:=BV P X (QCN P) (LL P) 177
noncomputable def UG (P:bZ) (X:Nat->bH):BT:=BV P X (Yb P) (QAI P) 207
noncomputable def QBN (P:bZ) (X:Nat->bH):BT:=BV P X (TC P) (Yy P) 332
noncomputable def eM (P:bZ) (X:Nat->bH):BT:=BV P X (xu P) (WV P) 414
noncomputable def xv (P:bZ) (os:eH):SharedT:=⟨QAo P,32,{}, #[],{},282,os⟩
noncomputable def F0 (P:bZ) (os:eH):SharedT:=⟨Vq P,120,{}, #[],{},480,os⟩
noncomputable def GH (P:bZ) (os:eH):SharedT:=⟨K_ P,131,{}, #[],{},540,os⟩
noncomputable def rv (P:bZ) (os:eH):SharedT:=⟨uA P,138,{}, #[],{},547,os⟩
noncomputable def Ay (P:bZ) (X:Nat->bH) (os:eH):SharedT:=⟨Zn P X,177,{}, #[],{},2498,os⟩
noncomputable def Jt (P:bZ) (X:Nat->bH) (os:eH):SharedT:=⟨UG P X,207,{}, #[],{},2612,os⟩
noncomputable def NK (P:bZ) (X:Nat->bH) (os:eH):SharedT:=⟨QBN P X,332,{}, #[],{},2769,os⟩
noncomputable def vB (P:bZ) (X:Nat->bH) (os:eH):SharedT:=⟨eM P X,414,{}, #[],{},2870,os⟩
noncomputable def iO:Env:={scope:=pg.main.scope,locals:=lS,globals:=lS,cells:=[],code:=.ref 30,frame:=aA 31}
noncomputable def Γ0:Ctx:=⟨.builtin "claim.caller" {},aF,aF,[],aF⟩
noncomputable def Γ1:Ctx:=Γ0.enter (.body (AF pg) iO) aF default
noncomputable def sl (i n:Nat):List Stmt:=((AF pg).drop i).take n
noncomputable def rS:BT->Nat->List bH->BT
 |t,_,[]=>t
 |t,n,o::r=>rS (t.ins n o) (n+1) r
noncomputable def LR (P:bZ):BT:=rS (uE P) 28 [ob 28 P,ob 29 P,ob 30 P]
noncomputable def Xs (X:Nat->bH):List Obj:=(bg 39).map λj=>X<|138+j
noncomputable def PK (P:bZ) (X:Nat->bH) (os:eH):SharedT:=⟨rS (uA P) 138<|Xs X,177,{}, #[],{},2497,os⟩
end B01
namespace B01
theorem pA (w:bz) (os:eH):gh (kF km) pg w.params 3000 hM Γ1 default (xv w.params os) (fX (sl 0 18) iO)=aA (.ok .next,⟨140,0,140,8⟩,F0 w.params os):=by lia
noncomputable def KR:Code->ba nT:=PySem.W.Fast.tw11892475500146522536 PySem.W.Fast.tw14364793385576792824
theorem QDb:kF km=KR:=congr PySem.W.Fast.te11892475500146522536 PySem.W.Fast.te14364793385576792824
noncomputable def Kv:List cq->cg->ba Flow:=PySem.W.Fast.tw12563942051412417395
theorem H_:fX=Kv:=PySem.W.Fast.te12563942051412417395
noncomputable def PB (w:bz):Prop:= ∀os:eH,gh KR pg w.params 5000 hM Γ1 ⟨140,0,140,8⟩ (F0 w.params os) (Kv (sl 18 1) iO)=aA (.ok .next,⟨141,0,141,6⟩,GH w.params os)
section
variable (w:bz)
include w
theorem QCp:PB ((w.withFollow "special-get-raises" aE).withFollow "set-order" aE):=λos=>by lia
theorem Xj:PB ((w.withFollow "special-get-raises" aB).withFollow "set-order" aE):=λos=>by lia
theorem VE:PB ((w.withFollow "special-get-raises" aE).withFollow "set-order" aB):=λos=>by lia
theorem QDo:PB ((w.withFollow "special-get-raises" aB).withFollow "set-order" aB):=λos=>by lia
theorem pB (os:eH):gh (kF km) pg w.params 5000 hM Γ1 ⟨140,0,140,8⟩ (F0 w.params os) (fX (sl 18 1) iO)=aA (.ok .next,⟨141,0,141,6⟩,GH w.params os):=by rw[QDb,H_];exact byRow2 "set-order" (P:=PB) (λw=>byRow2 "special-get-raises" (P:=λw=>PB<|w.withFollow "set-order" aE) QCp Xj w) (λw=>byRow2 "special-get-raises" (P:=λw=>PB<|w.withFollow "set-order" aB) VE QDo w) w os
theorem pC (os:eH):gh (kF km) pg w.params 3000 hM Γ1 ⟨141,0,141,6⟩ (GH w.params os) (fX (sl 19 1) iO)=aA (.ok .next,⟨142,0,143,30⟩,rv w.params os):=by lia
theorem pD (X:Nat->bH) (os:eH) (p:bP):gh (kF km) pg w.params 1000 hM Γ1 p (PK w.params X os) (do sO ⟨144,0,144,13⟩;z7 iO "b3_exceptions" (.ref 138);pure .next)=aA (.ok .next,⟨144,0,144,13⟩,Ay w.params X os):=by lia
theorem pE (X:Nat->bH) (os:eH):gh (kF km) pg w.params 3000 hM Γ1 ⟨144,0,144,13⟩ (Ay w.params X os) (fX (sl 21 6) iO)=aA (.ok .next,⟨154,0,162,20⟩,Jt w.params X os):=by lia
theorem pF (X:Nat->bH) (os:eH):gh (kF km) pg w.params 5000 hM Γ1 ⟨154,0,162,20⟩ (Jt w.params X os) (fX (sl 27 1) iO)=aA (.ok .next,⟨163,0,244,93⟩,NK w.params X os):=by lia
theorem pG (X:Nat->bH) (os:eH):gh (kF km) pg w.params 3000 hM Γ1 ⟨163,0,244,93⟩ (NK w.params X os) (fX (sl 28 15) iO)=aA (.ok .next,⟨376,0,391,74⟩,vB w.params X os):=by lia
theorem pM (os:eH):gh (kF km) pg w.params 1000 aI Γ0 default ⟨uE w.params,28,{}, #[],{},276,os⟩ (Qd pg.main)=aA (.ok<|.ref 30,default,⟨LR w.params,31,{}, #[],{},282,os⟩):=by lia
theorem pN (os:eH):gh (kF km) pg w.params 1000 aM Γ0 default ⟨LR w.params,31,{}, #[],{},282,os⟩ (Qe (.ref 30) lS lS)=aA (.ok 31,default,xv w.params os):=by lia
theorem pK (os:eH):gh (kF km) pg w.params 1000 Unit Γ1 default (xv w.params os) (Qg (AF pg) iO)=aA (.ok (),default,xv w.params os):=by lia
theorem pO:(fencedOpening km pg w 40000).map (λs=>(s.heap,s.gens,s.drawn,s.toks))=aA (pJ (uE w.params) 28 {}, #[],{},276):=by lia
end
theorem QCD:b3.length=650:=by lia
theorem QCh:(Qh x6 iO).zip ((Qi xf iO).map λv=>do let x<-v;sO xT;pure x)=jG xT b3:=by lia
noncomputable def Az:Int->List (Int×fY)->Bool
 |_,[]=>aB
 |a,(k,_)::r=>decide (a<k) && Az k r
theorem VY:Az 0 b3=true:=by lia
end B01
theorem tJ {α:Type}: ∀(l:List (Nat×α)) (k:Nat) (x:α),l.lookup k=aA x->(k,x)∈l:=by
 intro l;induction l with
 |nil=>exact λO O h=>nomatch h
 |cons p l i=>
  exact λk x h=>by
   obtain ⟨a,b⟩:=p;by_cases e:k=a
   ·subst e
    simp only[iK,beq_self_eq_true] at h;cases h;exact .head _
   ·simp only[iK,beq_false_of_ne e] at h
    exact .tail _<|i k x h
theorem QAU {α:Type}: ∀(l:List (Nat×(aG×α))) (k:Nat),(l.map λp=>(p.1,p.2.1)).lookup k=(l.lookup k).map (·.1):=by
 intro O;induction O with
 |nil=>exact λk=>rfl
 |cons O l i=>
  obtain ⟨a,b⟩:=O
  exact λk=>by
   simp! only[gB,iK,iK]
   cases k==a
   ·exact i k
   ·rfl
theorem O5 {α β:Type} {f g:α->β} {l:List α} (h:l.map f=l.map g): ∀x∈l,f x=g x:=QFf.mp h
noncomputable def JY (c:Fc) (cf:hH) (C:Fc):Bool:=C.ow && cf.scope.names.all (λx=>if x.2==.free then (C.cM x.1==c.cM x.1) && (C.cM x.1).isSome && Av (C.K x.1) else aB)
theorem QBv (h:JY Cow cf C=aB):ta Cow cf C:=by refine bI (aD h) λow h=>⟨λx M f=>?_,ow⟩;have:=dq.mp h x M;rw[if_pos (by erw[f];rfl),gn,gn] at this;exact ⟨by simpa -iota using this.1.1,this.1.2,Fz this.2⟩
namespace B01
noncomputable def QCs (x:cq):Pos:=x.casesOn (motive_2:=λO=>bP) (λO O O O O O O O O p=>p) (λO O O O O O O O O O=>default) (λO O O O O O O O O O O=>default) (λO O=>default) (λO O=>default) (λO O O=>default) (λO O O O O O O=>default) (λO O O O=>default) (λO O O O O=>default) (λO O O O O=>default) (λO O O O O=>default) (λO O O O=>default) (λO O O O=>default) (λO O O=>default) (λO O O=>default) (λO O O=>default) (λO O O=>default) (λO O O O O=>default) (λO O O O O=>default) (λO O O=>default) (λO O=>default) (λO O O O=>default) (λO O=>default) (λO O=>default) (λO O=>default) (λO=>default) (λO=>default) λO=>default
noncomputable def nK (i j:Nat):Stmt:=yy (fK<|bO i) j
noncomputable def DZ (i j:Nat) (own tab:aM) (qual:aG) (ps:List aG):hH:={nm:= "inner",args:=Nf<|nK i j,body:=fK<|nK i j,scope:=cJ<|nK i j,ps:=ps,pos:=QCs<|nK i j,own:=own,tab:=tab,qual:=qual}
noncomputable def cZ:List Nat:=[19,103,108,120,122,126,184,189,194,48,76,83,139,140,141,142,143,144,145,146,147,148,149,150,151,152,153,154,155,156,157,158,159,160,161,162,163,164,165,166,167,168,169,170,171,172,173,174,175,176]
noncomputable def G (P:bZ) (X:Nat->bH):Heap:=tj (eM P X) 414 cZ
noncomputable def jF:Addr:=327
noncomputable def Ce:Str:=IV "_str_to_int_inner" ++ ".<locals>."
noncomputable def AS:Str:=IV "_int2digits" ++ ".<locals>."
noncomputable def Br:Str:=IV "_digits2int" ++ ".<locals>."
noncomputable def Bf:hH:=DZ 4 1 52 48 Ce ["a","b"]
noncomputable def Bz:hH:=DZ 9 1 80 76 AS ["x","L","R"]
noncomputable def xV:hH:=DZ 10 0 87 83 Br ["L","R"]
theorem Ur:(cJ<|bO 4).names.length<=200/\200<=1000000:=⟨bJ (by lia),by decide⟩
theorem T4:(cJ<|bO 9).names.length<=200/\200<=1000000:=⟨bJ (by lia),by decide⟩
theorem QDK:(cJ<|bO 10).names.length<=200/\200<=1000000:=⟨bJ (by lia),by decide⟩
noncomputable def JK:Fc:=Fc.fn (cJ<|bO 4).names 200 aB aE (aA (52,Ce)) Ur
noncomputable def Lf:Fc:=Fc.fn (cJ<|bO 9).names 200 aB aE (aA (80,AS)) T4
noncomputable def OZ:Fc:=Fc.fn (cJ<|bO 10).names 200 aB aE (aA (87,Br)) QDK
theorem QCE:JK.bd+200<=1000000/\Bf.scope.names.length<=200:=⟨by decide,bJ<|by lia⟩
theorem Zh:Lf.bd+200<=1000000/\Bz.scope.names.length<=200:=⟨by decide,bJ<|by lia⟩
theorem YW:OZ.bd+200<=1000000/\xV.scope.names.length<=200:=⟨by decide,bJ<|by lia⟩
noncomputable def uB:List (Nat×(Fc×hH)):=[(0,(JK,Bf)),(1,(Lf,Bz)),(2,(OZ,xV))]
noncomputable def cu (f:Nat):Option hH:=(uB.lookup f).map (·.2)
noncomputable def LN (f:Nat) (C:Fc):Prop:= ∃r,uB.lookup f=aA r/\ta r.1 r.2 C
noncomputable def Gs (f:Nat) (C:Fc):Bool:=match uB.lookup f with|some r=>JY r.1 r.2 C|none=>aE
theorem QBk (h:Gs f C=aB):LN f C:=by
 unfold Gs at h;induction q:uB.lookup f with
 |none=>rw[q] at h;exact br h
 |some r=>rw[q] at h;exact (ax r q<|QBv h)
noncomputable def Au (a:aM):aG->Option Value:=λy=>if y= "_headers" then aA (.ref a) else aF
noncomputable def iw:L3 where
 HI X h x a:= ¬ X x/\(∀o d,h.get? x=aA o->o.dict=aA d-> ¬ X d)/\h.Inst x jF (Au a)
 kN:=by
  intro X h U p x a H m;obtain ⟨n,N,o,e,c,C,r⟩:=H;refine ⟨(m _ _ e n).2,λB d W u=>?_,o,(m _ _ e n).1,c,C,?_⟩
  ·obtain rfl:=bM ((m _ _ e n).1) W
   rcases r with ⟨r,_⟩|⟨R,r,_,K⟩
   ·exact cb r u
   ·obtain rfl:=bM r u
    exact oI K λb A Y v O=>(m _ _ v<|N _ _ e r).2
  ·rcases r with ⟨r,z⟩|⟨R,r,f,K⟩
   ·exact .inl ⟨r,z⟩
   ·exact .inr<|gd R r f<|K.at λb v=>(m _ _ v<|N _ _ e r).1
noncomputable def oY:List (Nat×(aG×aM)):=[(0,(("add_header" :aG),324)),(1,(("get_all" :aG),266)),(2,(("items" :aG),291)),(9,(("__delitem__" :aG),247)),(10,(("_convert_string_type" :aG),228))]
noncomputable def uJ:List (Nat×aG×aM×(bZ->bH)):=[(1,"_str_to_int_inner",53,(ob 53)),(2,"int_from_string",60,(ob 60)),(3,"_div2n1n",67,(ob 67)),(4,"_div3n2n",74,(ob 74)),(5,"_int2digits",81,(ob 81)),(6,"_digits2int",88,(ob 88)),(7,"_divmod_pos",95,(ob 95)),(8,"int_divmod",102,(ob 102)),(9,"quotedata",119,(ob 119)),(10,"in_table_b1",137,(ob 137)),(11,"map_table_b3",183,(ob 183)),(12,"_law_cells",336,(ob 336)),(13,"_law_letter",343,(ob 343)),(14,"_law_hidden",350,(ob 350)),(15,"_law_stay",357,(ob 357)),(17,"_law_prepared",362,(ob 362)),(19,"_law_book",374,(ob 374)),(26,"law",413,(ob 413)),(27,"_law_corners",369,(ob 369)),(28,"_law_divided",381,(ob 381)),(29,"_law_counts",386,(ob 386)),(30,"_law_bare",391,(ob 391)),(31,"_law_found",396,(ob 396)),(32,"_law_common",403,(ob 403)),(33,"_law_multiples",408,(ob 408))]
noncomputable def Gx:List Str:=(bg 34).map λi=>((uJ.lookup i).map (·.1)).getD ""
section
variable (w:bz) (X:Nat->bH)
noncomputable def mg:aG->Option Value:=(G w.params X).nsMap nO
noncomputable def D (n:Nat):Wd where
 prog:=pg
 w:=w
 P:=iA cu iw
 G:=G w.params X
 n:=n
 o:=aU n
 mg:=mg w X
 fns:=Gx
 hm:=λk=>oY.lookup k
 cN:=LN
 hc:=jF
end
theorem gg {X:Nat->bH} (h:iC (eM P X) 414 cZ a=aA o):(G P X).get? a=aA o:=(uN ..).trans h
section
variable {w:bz}
theorem g3:(G w.params X).get? 3=aA (xu w.params):=gg (by lia)
theorem g0:(G w.params X).get? 0=aA (ob 0 w.params):=gg (by lia)
theorem g2:(G w.params X).get? 2=aA (ob 2 w.params):=gg (by lia)
theorem jX (x:aG):mg w X x=DN (rT<|xu w.params) x:=by refine (?_:(G w.params X).nsMap 3 x=_);unfold Qj;erw[g3];rfl
theorem zA {h:bK} {o:bH} (e:h.get? a=aA o) (k:(match o.data with|.dict es _=>es.all (λe=>match e.key with|.str _ _=>aB|_=>aE)|_=>aE)=aB):h.isNs a=true:=by
 unfold Heap.isNs
 simp! only[e]
 exact k
theorem me:Gl (G w.params X) (mg w X) where
 g:=.of_isNs (zA g3<|by lia)
 b:=.of_isNs (zA g0<|by lia)
 bo:=λx M=>Heap.of_bltView (zA g0<|by lia) (by
  delta Heap.bltView Heap.nsPairs;erw[(g0:(G w.params X).get? ic=aA (ob 0 w.params))]
  lia) x M
 lim:=(ax _ (.of_isNs<|zA g2<|by lia) (by
  delta Qj;erw[(g2:(G w.params X).get? cStatics=aA (ob 2 w.params))]
  lia))
theorem xZ: ∀x∈AQ,mg w X x=none:=λx M=>(jX x).trans (O5 (l:=AQ) (f:=DN<|rT<|xu w.params) (g:=λO=>aF) (by lia) x M)
theorem vr:(D w X n).G.NoLimit:=me.lim
theorem Eo: ∀r∈uJ,Gx[r.1]?=aA r.2.1/\(D w X n).mg r.2.1=aA (.ref r.2.2.1)/\(D w X n).G.get? r.2.2.1=aA (r.2.2.2 w.params)/\(r.2.2.2 w.params).data=.func (dF<|r.2.2.2 w.params):=λr R=>by
 have:=O5 (l:=uJ) (f:=λr=>(Gx[r.1]?,DN (rT<|xu w.params) r.2.1,iC (eM w.params X) 414 cZ r.2.2.1,(r.2.2.2 w.params).data)) (g:=λr=>(aA r.2.1,aA<|.ref r.2.2.1,aA<|r.2.2.2 w.params,.func<|dF<|r.2.2.2 w.params)) (by lia) r R
 simp! only[sT] at this
 exact (lK this.1 ((jX (w:=w) (X:=X) _).trans this.2.1) (gg this.2.2.1) this.2.2.2)
noncomputable def ci:Ci where
 fns:=uJ.map λr=>(r.1,r.2.1)
 hm:=oY.map λr=>(r.1,r.2.1)
 cN:=Gs
 vI _ _ _ _:=aE
theorem oj [H:dA (D w X n)] [R:kn (D w X n)]:cF ci (D w X n) where
 H:=H
 R:=R
 fns f nm h:=by refine aS (ij.mp<|tJ _ _ _ h) λr K e=>jv (Eo (w:=w) (X:=X) (n:=n) r K) λW B b Y=>?_;clear h K;cases e;exact ⟨W,_,_,_,B,b,Y⟩
 hm k nm h:=by
  have h:(oY.map λr=>(r.1,r.2.1)).lookup k=aA nm:=h
  simp! only[QAU] at h
  exact aS (lN.mp h) λp e e2=>⟨p.2,by refine (?_:oY.lookup k=_);(erw[e];exact cx e2 rfl)⟩
 cN f C h:=QBk h
 vI f i C s h:=by contradiction
end
end B01
noncomputable def CM {α:Type} (P:α->Prop):List α->Prop
 |[]=>True
 |a::l=>P a/\CM P l
theorem M7 {α:Type} {P:α->Prop}: ∀{l:List α},CM P l-> ∀x∈l,P x:=by
 intro l;induction l with
 |nil=>exact λO x M=>nomatch M
 |cons a l i=>exact λh x M=>(bp.mp M).elim (λe=>e▸h.1)<|i h.2 x
noncomputable def ra (C:Fc) (names:List (aG×dQ)) (ps:List aG) (k:Nat):Bool:=decide ((names.map (·.1)).Nodup) && jE (cw C) ps (bg k)
theorem zO {k:Nat} (h:ra C names ps k=aB):(names.map (·.1)).Nodup/\oK C ps (bg k):=⟨eC (aD h).1,mr .nil (λx xs i is h g=>.cons (fy h) g) (aD h).2⟩
namespace B01
theorem dN {names:List (aG×dQ)} (h:eX names.length 200=aB):names.length<=200/\200<=1000000:=⟨bJ h,by decide⟩
section
variable[H:dA (D w X n)] [R:kn (D w X n)] {hn:Bool}
theorem Bq (h:ti (eM w.params X) 414 cZ a c tk o oc (fK s) (cJ s).names) (i: ∀C q,cd=aA (C,q)->(dF o).code=.ref C/\(dF o).qualname++ ".<locals>." =q) (Q: ∀us,us.length=ps.length->nQ (dF o) ⟨us,[]⟩=pure (ps.zip us)) (f:eX (cJ s).names.length 200=aB)
 (H:ra (Fc.fn (cJ s).names 200 aB hn cd<|dN f) (cJ s).names ps k=aB) (B:ji (D w X n) (Fc.fn (cJ s).names 200 aB hn cd<|dN f) (fK s) (b.map SW.w)) (e:l6 (aU n) k b xs d):oB (D w X<|n+1) a xs d:=
 have q:=zO H
 e.2.elim λP E=>PD (D:=D w X n) (o':=aU<|n+1) (P:=P) ⟨q.2,B,rfl⟩ vr (xb h i Q) q.1 (((q.2.so (D:=D w X n)).1.trans xB).trans e.1.symm) E
theorem QAi (H:ti (eM w.params X) 414 cZ a c tk o oc (fK s) (cJ s).names) (Q: ∀us,us.length=ps.length->nQ (dF o) ⟨us,[]⟩=pure (ps.zip us)) (q:eX (cJ s).names.length 200=aB)
 (h:(ra (Fc.fn (cJ s).names 200 aB hn aF<|dN q) (cJ s).names ps k && j7 ci (Fc.fn (cJ s).names 200 aB hn aF<|dN q) b (fK s))=aB) (e:l6 (aU n) k b xs d):oB (D w X<|n+1) a xs d:=
 Bq H (λO O e=>by exact ay e) Q q (aD h).1 (ll oj (aD h).2) e
end
theorem QBA: ∃b o,(D w X n).mg "__builtins__" =aA (.ref b)/\b≠ic/\(D w X n).G.get? b=aA o/\o.cls=.type "module" /\o.dict=aA ic/\o.data=.plain:=(tU 4 (ob 4 w.params) ((jX (w:=w) (X:=X) "__builtins__").trans<|by lia) (by decide) (gg<|by lia) rfl rfl rfl)
theorem SO: ∀f g cf c,cu f=aA cf->cu g=aA c->c.tab=cf.tab->c=cf:=λf g cf c x n t=>by refine aS (lN.mp x) λp u e=>?_;clear x;subst e;refine aS (lN.mp n) λq z e=>?_;clear n;subst e;have h:=tJ _ _ _ u;have H:=tJ _ _ _ z;simp only[uB,bp,gU,or_false,sT] at h H;clear u z;rcases h with ⟨-,rfl⟩|⟨-,rfl⟩|⟨-,rfl⟩<;>rcases H with ⟨-,rfl⟩|⟨-,rfl⟩|⟨-,rfl⟩<;>first|rfl|exact absurd t (by decide)
noncomputable def dfB (C:Fc) (cf:hH) (i:Nat):Bool:=(C.cd==aA (cf.own,cf.qual)) && (cw C cf.nm i && cf.scope.names.all λx=>if x.2==.free then (C.cM x.1).isSome && Av (C.K x.1) else aB)
theorem E6 [H:dA (D w X n)] (r:cu f=aA cf) (h:dfB C cf i=aB) (A:(cf.args.kwonlyargs,cf.args.kw_defaults,cf.args.defaults,docOf cf.body)=([],[],[],aF)) (m: ∀env,annTrees cf.args aF env=[])
 (Q: ∀fd,fd.params=cf.args->fd.defaults=.none->fd.kwdefaults=.none-> ∀us,us.length=cf.ps.length->nQ fd ⟨us,[]⟩=pure (cf.ps.zip us)) (b:s=.FunctionDef cf.nm cf.args cf.body [] aF [] cf.scope aF cf.nm cf.pos):bV (D w X n) C s (.defn i f):=by
 subst b;simp only[sT] at A;refine QCR rfl r (λg c e t=>SO f g cf c r e t) QBA (QHc.mp (aD h).1) (fy (aD (aD h).2).1) A.1 A.2.1 A.2.2.1 m A.2.2.2 (λx M F=>?_) Q;have:=dq.mp (aD (aD h).2).2 x M;rw[if_pos (by erw[F];rfl)] at this;exact ⟨(aD this).1,Fz (aD this).2⟩
section
variable[dA<|D w X n] [kn<|D w X n]
theorem D_ {h0}:ji (D w X n) (Fc.fn (cJ<|bO 4).names 200 aB aE (aA (52,Ce)) h0) (fK<|bO 4) (Cc.map SW.w):=tP (SW.snd (Cc.getD 0 .stuck) oj<|by lia) (tP (E6 rfl (by lia) (by lia) (λO=>by lia) (λf h i H=>jK λu v=>by unfold nQ;(erw[h];erw[i];erw[H]);lia) (by lia))<|ll oj<|by lia)
theorem sb1 {h0}:ji (D w X n) (Fc.fn (cJ<|bO 9).names 200 aB aE (aA (80,AS)) h0) (fK<|bO 9) (x8.map SW.w):=tP (SW.snd (x8.getD 0 .stuck) oj<|by lia) (tP (E6 rfl (by lia) (by lia) (λO=>by lia) (λf h i H=>yl λu v z=>by unfold nQ;(erw[h];erw[i];erw[H]);lia) (by lia))<|ll oj<|by lia)
theorem Z5 {h0}:ji (D w X n) (Fc.fn (cJ<|bO 10).names 200 aB aE (aA (87,Br)) h0) (fK<|bO 10) (BY.map SW.w):=tP (E6 rfl (by lia) (by lia) (λO=>by lia) (λf h i H=>jK λu v=>by unfold nQ;(erw[h];erw[i];erw[H]);lia) (by lia)) (ll oj<|by lia)
end
theorem gc [dA<|D w X n] [kn<|D w X n] {p:Nat×Nat×List SW} (i:Nat) (s:cq) (ps:List aG) (c tk:Nat) (H: ∀us,us.length=ps.length->nQ (dF<|ob (c+1) w.params) ⟨us,[]⟩=pure (ps.zip us)) (hn:Bool:=aE) (e1:uJ[i]?=aA r:=by rfl) (e2:r.1=p.1:=by rfl) (A:ti (eM w.params X) 414 cZ r.2.2.1 c tk (ob (c+1) w.params) (ob c w.params) (fK s) (cJ s).names:=by lia)
 (h:eX (cJ s).names.length 200=true:=by lia) (b:(ra (Fc.fn (cJ s).names 200 aB hn aF<|dN h) (cJ s).names ps p.2.1 && j7 ci (Fc.fn (cJ s).names 200 aB hn aF<|dN h) p.2.2 (fK s))=true:=by lia):
 ∃(i:Nat) (r:Nat×aG×aM×(bZ->bH)),uJ[i]?=aA r/\r.1=p.1/\ ∀xs d,l6 (aU n) p.2.1 p.2.2 xs d->oB (D w X<|n+1) r.2.2.1 xs d:=
 (cz i r e1 e2 λO O=>QAi A H h b)
theorem UO [dA<|D w X n] [kn<|D w X n]:CM (λp=> ∃(i:Nat) (r:Nat×aG×aM×(bZ->bH)),uJ[i]?=aA r/\r.1=p.1/\ ∀xs d,l6 (aU n) p.2.1 p.2.2 xs d->oB (D w X<|n+1) r.2.2.1 xs d) EK:=
 ⟨(cz 0 _ rfl rfl (λxs d=>Bq (s:=bO 4) (hn:=aE) (cd:=aA (52,Ce)) (ps:=["s"]) (o:=ob 53 w.params) (oc:=ob 52 w.params) (c:=52) (tk:=312) (by lia) (λc' q e=>by cases e;exact ⟨by lia,by lia⟩) (lC λO=>by lia) (by lia) (by lia) D_)),
  gc 1 (bO 5) ["s"] 59 323 (lC λO=>by lia),
  gc 2 (bO 7) ["a","b","n"] 66 332 (yl λO O O=>by lia),
  gc 3 (bO 8) ["a12","a3","b","b1","b2","n"] 73 349 (Me λO O O O O O=>by lia),
  (cz 4 _ rfl rfl (λxs d=>Bq (s:=bO 9) (hn:=aE) (cd:=aA (80,AS)) (ps:=["a","n"]) (o:=ob 81 w.params) (oc:=ob 80 w.params) (c:=80) (tk:=363) (by lia) (λc' q e=>by cases e;exact ⟨by lia,by lia⟩) (jK λO O=>by lia) (by lia) (by lia) sb1)),
  (cz 5 _ rfl rfl (λxs d=>Bq (s:=bO 10) (hn:=aE) (cd:=aA (87,Br)) (ps:=["digits","n"]) (o:=ob 88 w.params) (oc:=ob 87 w.params) (c:=87) (tk:=374) (by lia) (λc' q e=>by cases e;exact ⟨by lia,by lia⟩) (jK λO O=>by lia) (by lia) (by lia) Z5)),
  gc 6 (bO 11) ["a","b"] 94 385 (jK λO O=>by lia),
  gc 7 (bO 12) ["a","b"] 101 400 (jK λO O=>by lia),
  gc 9 (bO 20) ["code"] 136 541 (lC λO=>by lia),
  gc 10 (bO 22) ["code"] 182 2499 (lC λO=>by lia),
  gc 11 (bO 30) ["script","first"] 335 2772 (jK λO O=>by lia),
  gc 12 (bO 31) ["letter","way"] 342 2778 (jK λO O=>by lia),
  gc 13 (bO 32) ["way"] 349 2787 (lC λO=>by lia),
  gc 14 (bO 33) ["way"] 356 2795 (lC λO=>by lia),
  gc 15 (bO 34) ["text"] 361 2803 (lC λO=>by lia),
  gc 16 (bO 36) ["corners","cell"] 373 2817 (jK λO O=>by lia) aB,
  gc 17 (bO 43) ["script"] 412 2865 (lC λO=>by lia),
  gc 18 (bO 35) ["cell"] 368 2809 (lC λO=>by lia),
  gc 19 (bO 37) ["upper","lower"] 380 2823 (jK λO O=>by lia),
  gc 20 (bO 38) ["corners","low","cell"] 385 2833 (yl λO O O=>by lia),
  gc 21 (bO 39) ["corners","x"] 390 2839 (jK λO O=>by lia),
  gc 22 (bO 40) ["corners","cell"] 395 2845 (jK λO O=>by lia),
  gc 23 (bO 41) ["one","other"] 402 2851 (jK λO O=>by lia),
  gc 24 (bO 42) ["around","within","cell"] 407 2859 (yl λO O O=>by lia),trivial⟩
end B01
theorem L8: ∀d a e,se t d=aA (a,e)->d<=a/\a<e/\e<=t.size:=λd a e h=>by
 refine aS (lN.mp h) λp A i=>?_;clear h;cases i;refine eN (yv A) λH b r=>?_;have:cP a t.size=true:=by unfold lJ at H;rw[gn] at H;exact H.2
 exact ⟨b,uc _,bJ this⟩
theorem C_ (t:Array Nat) (a:Nat):(qL t a=a+2/\cP (a+1) t.size=aB)\/qL t a=a+1:=by
 unfold qL
 split
 ·rename_i q
  simp only[gn,gn] at q;exact .inl ⟨rfl,q.2.1⟩
 ·exact .inr rfl
theorem LC: ∀d a e,rO t d=aA (a,e)->d<=a/\a<e/\e<=t.size:=λd a e h=>by
 refine aS (lN.mp h) λp A i=>?_;clear h;cases i;refine eN (yv A) λH b r=>?_;have P:=bJ (by unfold hj at H;rw[gn] at H;exact H.1:cP a t.size=aB);rcases C_ t a with ⟨e1,e2⟩|e1
 ·have:=bJ e2
  exact sb e1<|⟨b,by simp+arith,this⟩
 ·exact sb e1<|⟨b,by exact Nat.lt_succ_self _,P⟩
set_option tactic.hygienic true in
theorem Yf {nx:Nat->Option (Nat×Nat)} {rep:aG} (r:rep.length=2) (P: ∀d a e,nx d=aA (a,e)->d<=a/\a<e/\e<=t.size): ∀k d,d<=t.size->((hF nx rep t k d).map (·.length)).sum<=2*(t.size - d):=by
 intro O;induction O with
 |zero=>exact λd O=>hJ _
 |succ k z=>
  exact λd Y=>by
   induction h:nx d with
   |some p=>
    obtain ⟨a,e⟩:=p;refine sb (Bb h)<|eN (P d a e h) λA i H=>?_;have z:=z e H;simp only[gp,List.sum_append,gB,Qk,r]
    have:((if d<a then [(⟨t.extract d a⟩:aG)] else []).map (·.length)).sum<=a - d:=by
     by_cases q:d<a
     ·rw[if_pos q]
      simp only[gB,jq,Qk,QFg];refine (?_:(t.extract d a).size+0<=_);exact sb uU<|(bD (na (nL<|sE ((bD q<|nR<|Nat.min_eq_left ((bD i H):a<=t.size)):d<=min a t.size))<|nL<|Nat.min_eq_left ((bD i H):a<=t.size))<|nR<|sE ((aQ q):d<=a))
     ·rw[if_neg q]
      exact hJ _
    exact (bD (na (na (na (na (na (na this z)<|nL<|sE (A:d<=a))<|gC 2<|nL<|sE (H:e<=t.size)) i)<|gC 2<|nR<|sE (Y:d<=t.size)) A) i)
   |none=>
    erw[BE h];by_cases q:d<t.size
    ·rw[if_pos q]
     simp only[gB,jq,Qk,QFg];refine (?_:(t.extract d t.size).size+0<=_);exact sb uU<|(Nat.min_self t.size).symm▸Nat.le_mul_of_pos_left _ (by decide)
    ·rw[if_neg q]
     exact hJ _
theorem QEJ {nx:Nat->Option (Nat×Nat)} {rep:aG} (r:rep.length=2) (p: ∀d a e,nx d=aA (a,e)->d<=a/\a<e/\e<=t.size) (Z:t.size<=400000):nU ⟨#[]⟩ (hF nx rep t (t.size+1) 0)=true:=by refine joinOk_of ?_;have:=Yf r p (t.size+1) 0<|hJ _;have b:(⟨#[]⟩:aG).length=0:=rfl;simp only[b];exact (bD (na this (gC 2<|nL<|sE ((by simp+arith):0<=t.size)))<|gC 2 Z)
theorem QBr (t:Array Nat): ∀d,d<=t.size->nz (5*(t.size+1)) (kj C1 t 0 d t.size aE) (se t d):=λd Y=>QDk t d Y
theorem QDd (t:Array Nat): ∀d,d<=t.size->nz 21 (kj C2 t 0 d t.size aE) (rO t d):=λd Y=>QCn t d Y
noncomputable def Ep (g:aG->aG) (rep:aG) (a b:E):E:=λo l K=>lW [a,b] o l λv L=> ∃x:aG,v=[.d<|.str rep,.d<|.str x]/\x.cps.size<=400000/\K (.d<|.str<|g x) L
section
theorem Jf [H:dA D] {b:Nat->Nat} {nx:Array Nat->Nat->Option (Nat×Nat)} {rep:aG} {np j:bP} (f:nB C nm) (hm:D.mg nm=aA (.ref p)) (P:gP D.G p U) (M:MC (.Name nm np) "sub" j pos xs) (hb: ∀n,n<=400000->b n<=4*2^64) (r:rep.cps.contains 92=aE) (R:rep.length=2)
 (N: ∀t d,d<=t.size->nz (b t.size) (kj U t 0 d t.size aE) (nx t d)) (B: ∀t d a e,nx t d=aA (a,e)->d<=a/\a<e/\e<=t.size) (q:fu D C xs [a,c]):
 aZ D C (.Call (.Attribute (.Name nm np) "sub" j) xs [] pos) (Ep (λx=>qC<|hF (nx x.cps) rep x.cps (x.cps.size+1) 0) rep a c):=λh=>⟨λ{X z Q Er} K k=>by
 refine wx (M.base X.env) (M.pV X.env) M.line<|qe K f hm ?_;have u:=P.keeps K.F.base;have W: ∀A,wY p=.ref A-> ∃ob,z.s.heap.get? A=aA ob/\ob.dict=none:=λA e=>by refine cy u.own λo a O c=>?_;cases e;exact (ax o a c)
 refine (tU ("re.Pattern") ("re.Pattern.sub") OM I0 J_ u.typeIs W<|wm (M.pl X.env)<|gG (M.pl X.env)<|(q h).run K λvs l1 g us z1 v i q1=>?_);obtain ⟨x,rfl,Z,g⟩:=g;cases q1 with
 |cons q1 q2=>
  cases q2 with
  |cons q2 L=>
   cases L
   exact aV (Rd.dM q1) λY m=>sb m<|aV (Rd.dM q2) λl m=>sb m<|wpAny_toks<|Vi (hb _ Z) Z r (N _) (B _) (P.keeps v.F.base) (QEJ R (B _) Z) λh3 t' tk kk=>((k _ _ g).tr i).new v (.all kk)<|Rd.str _ _⟩
theorem QBo [H:dA D] (o:nB C nm) (m:D.mg nm=aA (.str i t)):aZ D C (.Name nm pos) (.str i):= @λO O h=>⟨λK k=>qe K o m<|(k _ _ h).id K<|Rd.str _ _⟩
end
namespace B01
variable {w:bz} {X:Nat->bH} {n:Nat}
noncomputable def Bh (o:bH):Array Value:=match o.data with|.seq x _=>x|_=> #[]
theorem Wo:gP (G w.params X) 107 C1:=⟨ob 107 w.params,106,ob 106 w.params,kR<|ob 107 w.params,Bh<|ob 106 w.params,0,gg (by lia),rfl,rfl,rfl,by lia,by lia,by lia,gg (by lia),rfl,by lia⟩
theorem VL:gP (G w.params X) 112 C2:=⟨ob 112 w.params,111,ob 111 w.params,kR<|ob 112 w.params,Bh<|ob 111 w.params,0,gg (by lia),rfl,rfl,rfl,by lia,by lia,by lia,gg (by lia),rfl,by lia⟩
noncomputable def qdB:List S:=[.ret<|aA<|Ep q1 yo (.str yo)<|Ep q2 yu (.str yu)<|.aC 0]
theorem TN [dA<|D w X n] {h0}:ji (D w X n) (Fc.fn (cJ<|bO 17).names 200 aB aE aF h0) (fK<|bO 17) qdB:=by
 refine tP ?_ JD
 with_reducible refine Ki ?_
 refine Jf (b:=λn=>5*(n+1)) (nx:=se) (rep:=yo) (ny<|by lia) ((jX (w:=w) (X:=X) "_twin_re_1").trans<|by lia) Wo ⟨λO=>rfl,λO=>rfl,rfl⟩ (λn h=>by exact (aQ<|gC 5 h)) (by decide+kernel) rfl QBr (λO=>L8) (xh (λO=>rfl) My<|xh (λO=>rfl) ?_ Gg);exact Jf (b:=λn=>21) (nx:=rO) (rep:=yu) (ny<|by lia) ((jX (w:=w) (X:=X) "_twin_re_2").trans<|by lia) VL ⟨λO=>rfl,λO=>rfl,rfl⟩ (λn h=>by decide) (by decide+kernel) rfl QDd (λO=>LC) (xh (λO=>rfl) (QBo (t:=469) (ny<|by lia)<|(jX (w:=w) (X:=X) "CRLF").trans<|by lia)<|xh (λO=>rfl) (tL<|jg<|by lia) Gg)
theorem TS [dA<|D w X n] {a k:Nat} (f:qI (G w.params X) a (fK s) (cJ s).names cd ps []) (h:ra (Fc.fn (cJ s).names 200 aB hn cd hb) (cJ s).names ps k=aB) (B:ji (D w X n) (Fc.fn (cJ s).names 200 aB hn cd hb) (fK s) bs) (hl:xs.length=k) (e:sW bs (aU n) (jH (bg k) (xs.map .val) []) (Gu d)):oB (D w X<|n+1) a xs d:=
 have q:=zO h
 PD (D:=D w X n) (o':=aU<|n+1) (P:=[]) ⟨q.2,B,rfl⟩ vr f q.1 (((q.2.so (D:=D w X n)).1.trans xB).trans hl.symm) e
theorem QBb [dA<|D w X n] (h:x.cps.size<=400000) (H:(q2 x).cps.size<=400000):oB (D w X<|n+1) 119 [.str x] (.str<|q1<|q2 x):=by intro A s Y us Q E;exact TS (w:=w) (X:=X) (n:=n) (k:=1) (a:=119) (xs:=[.str x]) (d:=.str<|q1<|q2 x) (s:=bO 17) (ps:=["data"]) (cd:=aF) (hn:=aE) (hb:=dN<|by lia) (xb (o:=ob 119 w.params) (oc:=ob 118 w.params) (c:=118) (tk:=472) (by lia) (λO O e=>by exact ay e)<|lC λO=>by lia) (by lia) TN rfl (⟨x,rfl,h,q2 x,rfl,H,.mk .d .ret⟩)
section
variable[H:dA (D w X n)] [R:kn (D w X n)] {a c tk k:Nat} {o oc:bH} {s:cq} {ps:List aG} {b:List SW} {xs hs hs':List aK} {d:aK} {ex:List aI} {exs:List Sl}
theorem SA (P: ∀{Ob z},eS (D w X n) Ob z ex exs) (f:qI (G w.params X) a (fK s) (cJ s).names aF ps ex) (h0:eX (cJ s).names.length 200=aB)
 (h:(ra (Fc.fn (cJ s).names 200 aB aE aF<|dN h0) (cJ s).names ps k && j7 ci (Fc.fn (cJ s).names 200 aB aE aF<|dN h0) b (fK s))=aB) (e:vg (aU n) k exs b xs hs d hs'):qy (D w X<|n+1) a xs hs d hs':=
 have q:=zO (aD h).1
 R6 (D:=D w X n) (o':=aU<|n+1) ⟨q.2,ll oj (aD h).2,rfl⟩ vr P f q.1 (((q.2.so (D:=D w X n)).1.trans xB).trans e.1.symm) e.2
theorem MP (P: ∀{Ob z},eS (D w X n) Ob z ex exs) (f:qI (G w.params X) a (fK s) (cJ s).names aF ps ex) (h0:eX (cJ s).names.length 200=aB)
 (h:(ra (Fc.fn (cJ s).names 200 aB aE aF<|dN h0) (cJ s).names ps k && j7 ci (Fc.fn (cJ s).names 200 aB aE aF<|dN h0) b (fK s))=aB) (e:tF (aU n) k exs b xs hs d):rA (D w X<|n+1) a xs hs d:=
 have q:=zO (aD h).1
 QAq (D:=D w X n) (o':=aU<|n+1) ⟨q.2,ll oj (aD h).2,rfl⟩ vr P f q.1 (((q.2.so (D:=D w X n)).1.trans xB).trans e.1.symm) e.2
theorem X5 (e:vg (aU n) 2 [] Gh xs hs d hs'):qy (D w X<|n+1) 247 xs hs d hs':=SA (s:=dD 28 4) (ps:=["self","name"]) .nil (xb (o:=ob 247 w.params) (oc:=ob 246 w.params) (c:=246) (tk:=2661) (by lia) (λO O e=>by exact ay e)<|jK λO O=>by lia) (by lia) (by lia) e
theorem WX (e:tF (aU n) 2 [] FA xs hs d):rA (D w X<|n+1) 266 xs hs d:=MP (s:=dD 28 7) (ps:=["self","name"]) .nil (xb (o:=ob 266 w.params) (oc:=ob 265 w.params) (c:=265) (tk:=2683) (by lia) (λO O e=>by exact ay e)<|jK λO O=>by lia) (by lia) (by lia) e
theorem Oc (e:tF (aU n) 1 [] CR xs hs d):rA (D w X<|n+1) 291 xs hs d:=MP (s:=dD 28 11) (ps:=["self"]) .nil (xb (o:=ob 291 w.params) (oc:=ob 290 w.params) (c:=290) (tk:=2712) (by lia) (λO O e=>by exact ay e)<|lC λO=>by lia) (by lia) (by lia) e
end
end B01
namespace B01
variable {w:bz} {X:Nat->bH} {n:Nat}
theorem r9:(G w.params X).get? jF=aA (excClassObj "Headers" "Headers" jF 326 [.type "object"] [.type "object"] aB [] [] aE aF aF aF aF (aA<|.str (IX "Headers") 2612) (aA<|.str (IX "Headers") 2620) (aA<|.bool aB) "object.__new__"):=gg (by lia)
theorem OJ:(G w.params X).get? 326=aA (ob 326 w.params):=gg (by lia)
noncomputable def mN (w:bz) (X:Nat->bH):aG->Option Value:=(G w.params X).nsMap 326
theorem kW (x:aG):mN w X x=DN (rT<|ob 326 w.params) x:=by delta mN Qj;erw[OJ];rfl
theorem xn:(G w.params X).Ns 326 (mN w X):=.of_isNs (zA OJ<|by lia)
theorem QEC {E:aI->aN->Prop} (B: ∀b o,(D w X n).G.get? b=aA o->s.heap.get? b=aA o) (I:(D w X n).P.HI Y s.heap x a) (k: ∀tk,Q (.ref a) {s with toks:=tk}):aO (aY pg w) A (getAttr (.ref x) "_headers" aB) Q E s:=by have I:=I.2.2;obtain ⟨h,g,d,t,os⟩:=s;exact load_attr (B _ _ r9) (xn.keeps B) ((kW _).trans<|by lia) ((kW _).trans<|by lia) (by ac_nf) I (QHb rfl) rfl (k _)
theorem v3 {of:bH} {y:Option aI} {pl:ba Bool} {E:aI->aN->Prop} (B: ∀b o,(D w X n).G.get? b=aA o->s.heap.get? b=aA o) (I:(D w X n).P.HI Y s.heap x a)
 (r:mN w X nm=aA (.ref f)) (q:(G w.params X).get? f=aA of) (F:of.cls=.type "function") (C:QU (.type "object") nm=pure y) (N:nm≠ "_headers") (k:Q (.ref f,[.ref x]) s):aO (aY pg w) A (Cy (.ref x) nm pl) Q E s:=by
 have I:=I.2.2;obtain ⟨h,g,d,t,os⟩:=s;exact method_of (B _ _ r9) (xn.keeps B) ((kW _).trans<|by lia) ((kW _).trans<|by lia) r (B _ _ q) F C I (QHa N) k
noncomputable def ZW (w:bz) (X:Nat->bH) (n:Nat) (p:Nat×aG×aM):Prop:=p.1<20-> ∀{A:cV} {s:aN} {Y:aM->Prop} {x a:aM} {j:ba Bool} {Q:aI×List aI->aN->Prop} {E:aI->aN->Prop},(∀b o,(D w X n).G.get? b=aA o->s.heap.get? b=aA o)->(D w X n).P.HI Y s.heap x a->Q (.ref p.2.2,[.ref x]) s->aO (aY pg w) A (Cy (.ref x) p.2.1 j) Q E s
theorem XX:CM (ZW w X n) oY:=
 ⟨@λO A s Y x a pl Q E base I q=>v3 (of:=ob 324 w.params) base I ((kW _).trans<|by lia) (gg<|by lia) rfl (y:=aF) (by ac_nf) (by decide) q,
  @λO A s Y x a pl Q E base I q=>v3 (of:=ob 266 w.params) base I ((kW _).trans<|by lia) (gg<|by lia) rfl (y:=aF) (by ac_nf) (by decide) q,
  @λO A s Y x a pl Q E base I q=>v3 (of:=ob 291 w.params) base I ((kW _).trans<|by lia) (gg<|by lia) rfl (y:=aF) (by ac_nf) (by decide) q,
  @λO A s Y x a pl Q E base I q=>v3 (of:=ob 247 w.params) base I ((kW _).trans<|by lia) (gg<|by lia) rfl (y:=aF) (by ac_nf) (by decide) q,
  @λO A s Y x a pl Q E base I q=>v3 (of:=ob 228 w.params) base I ((kW _).trans<|by lia) (gg<|by lia) rfl (y:=aF) (by ac_nf) (by decide) q,
  trivial⟩
theorem Xp: ∀k nm f,(D w X n).hm k=aA (nm,f)->k<20-> ∀{A:cV} {s:aN} {Y:aM->Prop} {x a:aM} {pl:ba Bool} {Q:aI×List aI->aN->Prop} {E:aI->aN->Prop},(∀b o,(D w X n).G.get? b=aA o->s.heap.get? b=aA o)->(D w X n).P.HI Y s.heap x a->Q (.ref f,[.ref x]) s->aO (aY pg w) A (Cy (.ref x) nm pl) Q E s:=by intro k nm f e K A s Y x a pl Q E B I q;exact M7 (XX) _ (tJ oY k (nm,f) e) K B I q
theorem YR: ∀k nm f,(D w X n).hm k=aA (nm,f)-> ∃o fd,(D w X n).G.get? f=aA o/\o.data=.func fd:=by
 intro k nm f e;have u:=e
 have m:(k,(nm,f))∈oY:=by
  have: ∀(l:List (Nat×(aG×aM))),l.lookup k=aA (nm,f)->(k,(nm,f))∈l:=by
   intro l;induction l with
   |nil=>intro h;exact ay h
   |cons p l i=>
    intro h;obtain ⟨P,F⟩:=p
    simp! only[iK] at h
    split at h
    ·rename_i q
     clear e;cases h
     simp! only[QHc] at q
     subst q;exact .head _
    ·exact .tail _<|i h
  exact this _ u
 unfold oY at m
 simp! only[bp,gU,or_false,sT] at m
 clear e u;rcases m with ⟨_,_,rfl⟩|⟨_,_,rfl⟩|⟨_,_,rfl⟩|⟨_,_,rfl⟩|⟨_,_,rfl⟩
 ·exact (fA (ob 324 w.params) (dF<|ob 324 w.params) (gg<|by lia)<|by lia)
 ·exact (fA (ob 266 w.params) (dF<|ob 266 w.params) (gg<|by lia)<|by lia)
 ·exact (fA (ob 291 w.params) (dF<|ob 291 w.params) (gg<|by lia)<|by lia)
 ·exact (fA (ob 247 w.params) (dF<|ob 247 w.params) (gg<|by lia)<|by lia)
 ·exact (fA (ob 228 w.params) (dF<|ob 228 w.params) (gg<|by lia)<|by lia)
theorem Uw: ∀{M:DB} {A:cV} {E:aI->aN->Prop} {s:aN} {x:aM} {u:aI} {Q:aI->aN->Prop},(∃o,s.heap.get? x=aA o/\o.cls=.ref jF)->s.heap.get? jF=aA (excClassObj "Headers" "Headers" jF 326 [.type "object"] [.type "object"] aB [] [] aE aF aF aF aF (aA<|.str (IX "Headers") 2612) (aA<|.str (IX "Headers") 2620) (aA<|.bool aB) "object.__new__")->Q u s->aO M A (sequenceKey (.ref x) u "__delitem__") Q E s:=by
 intro M A E s x u Q ⟨o,K,c⟩ C q;obtain ⟨h,g,d,t,os⟩:=s;delta sequenceKey seqItemTypes
 repeat (first|(with_reducible refine wpAny_loadPart_at K ?_;erw[c])|(with_reducible refine wpAny_loadPart_at C ?_)|wp_step)
 delta isSubtype mroOf
 repeat (first|(with_reducible refine wpAny_loadPart_at C ?_)|wp_step)
 exact q
theorem Vg (e:(D w X n).hm 9=aA (nm,fa)) {E:aI->aN->Prop} (base: ∀b o,(D w X n).G.get? b=aA o->s.heap.get? b=aA o) (I:(D w X n).P.HI Y s.heap x a)
 (h:aO (aY pg w) A (call (.ref fa) [.ref x,u]) (λO s'=>Q () s') E s):aO (aY pg w) A (delItem (.ref x) u) Q E s:=by
 have e':=e;clear e;cases e';have I:=I.2.2;refine cy (id I) λo hx hc r=>?_;have os:s.heap.OwnSpecial x jF 247 "object" "__delitem__" :=⟨o,ob 247 w.params,_,_,326,_,_,_,_,_,_,_,_,_,_,_,_,_,"object.__new__",mN w X,aF,hx,hc,base _ _ r9,xn.keeps base,(kW _).trans (by lia),base _ _ (gg<|by lia),rfl,F.mro_object,by rw[QV,QW];lia⟩;refine cO<|aR<|Uw (ax o hx hc) (base _ _ r9)<|aR ?_;obtain ⟨hh,g,d,t,oss⟩:=s;refine wpAny_callSpecial?_own os<|eY h (λv s' q=>?_) λO O z=>z;exact bA q
theorem Sk:(D w X n).mg "Headers" =aA (.ref (D w X n).hc)/\ ∀{A:cV} {s:aN} {pos:bP} {l:List (Bool×ba aI)} {Q:aI->aN->Prop} {E:aI->aN->Prop},l.any (·.1)=aE->aO (aY pg w) A (sM l) (λvs s₁=>(∀b o,(D w X n).G.get? b=aA o->s₁.heap.get? b=aA o)/\aO (aY pg w) A (call (.ref (D w X n).hc) vs) Q E s₁) E s->
 aO (aY pg w) A (wj pos (.ref (D w X n).hc) [] l []) Q E s:=by
 refine ⟨(jX (w:=w) (X:=X) "Headers").trans (by lia),λ{A s pos l Q E} hp h=>?_⟩;have hst:(l.any (λx=>x.fst)||([]:List (Option Str×Sem Value)).any λx=>x.fst.isNone)=false:=by erw[hp];rfl
 delta wj;refine aR<|cO<|gG hp<|eY h (λvs s₁ h₁=>?_) λO O x=>x;obtain ⟨hh,g,d,t,os⟩:=s₁;have hC:=h₁.1 _ _ r9;have f1:=tc_lookup;have hT:=(ax _ hC rfl);refine aR<|iJ ?_;refine (?_:aO _ _ (Py (.ref jF)>>=_) _ _ _);delta Py specialOf
 repeat (any_goals (first|assumption|with_reducible refine wpAny_loadPart_at hC ?_|with_reducible refine wpAny_load' hC ?_|wp_step))
 refine sb (QHb<|by rfl)<|sb hst<|(?_:wpAny _ _ (call (.ref jF) vs []>>=λr=>do oy [r] point;pure r) _ _ _)
 exact aR<|eY h₁.2 (λr s' hr=>aR<|cO<|wpAny_point<|bA hr) λO O x=>x
end B01
noncomputable def mA (h:bK) (b:aM):Prop:= ∃v n,h.get? b=aA (listOf v n)
theorem Bj (e:h.get? b=aA o) (c: ∀vs n,o≠listOf vs n): ¬ mA h b:=λ⟨vs,n,q⟩=>by rw[e] at q;exact c vs n<|kC q
theorem VV {vs:Array aI}: ∀ws m,({cls:=.type "tuple",data:=.seq vs n})≠listOf ws m:=λws m q=>by have:=QHd Obj.cls q;exact QHZ (Value.type.inj this) (by decide)
theorem K9 {vs:Array aI} (d:o.data=.fields vs): ∀ws m,o≠listOf ws m:=λws m q=>by rw[q] at d;contradiction
set_option tactic.hygienic true in
theorem Up (hd:tQ d=aB) (r:Rd Y h v d) (z: ∀b, ¬ Y b-> ¬ mA h b-> ¬ Z b):Rd Z h v d:=by
 refine jT (QBJ hd) λx y l=>?_;clear hd;subst l;refine dk r.Aj λa u n m e M R=>?_;clear r;subst m;refine Rd.tup e (z _ M<|Bj e VV)<|bf R.hU λL F H U s=>?_
 subst H;refine bf s.hU λN P K q Q=>?_;clear s e R;subst K;refine sb Q.kK<|aV U.dM λt g=>?_
 subst g;refine aV q.dM λo A=>?_;subst A;exact bB.cons (Rd.str _ _)<|bB.cons (Rd.str _ _) bB.nil
theorem PE: ∀{ds:List aK} {vs:List aI},ds.all tQ=aB->bB Y h vs ds->(∀b, ¬ Y b-> ¬ mA h b-> ¬ Z b)->bB Z h vs ds:=by
 intro ds;induction ds with
 |nil=>exact @λvs O r O=>sb r.kK<|bB.nil
 |cons d ds i=>exact @λvs L r z=>by refine bf r.hU λv R H Q q=>?_;clear r;erw[H];simp only[QFR,gn] at L;exact bB.cons (Up L.1 Q z)<|i L.2 q z
theorem Nz {cu:Nat->Option hH} (c:(iA cu Hh).Inv Y h) (u: ∀b, ¬ Y b-> ¬ mA h b-> ¬ Z b):(iA cu Hh).Inv Z h:=by
 intro f cf e;obtain ⟨n,i,x,g⟩:=c f cf e;refine v7 i λo H K tf F P L text tt op z hd O O O O O O O O O=>.mk (u _ n<|Bj z<|K9 hd) i x (g.imp id ?_)
 rintro ⟨C,t,oc,v,B,g2,g3,W,r⟩
 exact ⟨C,t,oc,v,B,g2,u _ g3<|Bj g2<|K9 W,W,r⟩
theorem Za {D:Wd} {cu:Nat->Option hH} (hP:D.P=iA cu Hh) (C:rA D f [] hs (.list zs)) (g:hs.all tQ=aB) (hz:zs.all tQ=aB) (l: ∀b, ¬ mA D.G b)
 (M: ∀(Y Z:aM->Prop) h x a,Hh.HI Y h x a->(∀b, ¬ Y b-> ¬ mA h b-> ¬ Z b)->Hh.HI Z h x a):F5 D f [] hs zs:=by
 intro A s Y us vs x a n Q E c d K v j k;erw[j.kK];have N: ∀b, ¬ Y b-> ¬ mA s.heap b-> ¬ (Y b\/mA s.heap b):=λb L z q=>q.elim L z;refine C ⟨c.R,c.t,c.base,λb o e q=>?_,λb q=>?_,λb p=>.inl<|c.pf b p,?_⟩ ?_ K (PE g v N) bB.nil λu s' ct r=>?_
 ·rcases q with q|⟨aa,n',q⟩
  ·exact c.fN b o e q
  ·clear hP C g hz M d K v j k N
   obtain rfl:=bM (c.base b o e) q;exact l b<|lz aa n' e
 ·rcases q with q|⟨aa,n',q⟩
  ·exact c.al b q
  ·exact ⟨_,q⟩
 ·have ab:=c.inv
  rw[hP] at ab⊢;exact Nz ab N
 ·rw[hP] at d⊢
  exact M _ _ _ _ _ d N
 ·refine dk r.lst_inv λH ws m F e1 e2 B=>?_
  clear r;subst F;have i:=ct.inv
  have hn:s.heap.get? H=none:=by
   induction q:s.heap.get? H with
   |none=>rfl
   |some o=>
    exfalso;by_cases p:D.P.PF H
    ·refine cQ (D.P.iS i p) λo' aa U d'=>?_
     obtain rfl:=bM e1 U;contradiction
    ·have:=ct.keep H o q id p
     obtain rfl:=bM e1 this;exact e2<|.inr<|lz _ _ q
  have W: ∀b, ¬ (Y b\/mA s.heap b)-> ¬ mA s'.heap b-> ¬ (Y b\/b=H):=λb L z q=>q.elim (λq=>L<|.inl q) λq=>z<|q▸(lz _ _ e1);refine k H ws m s' ⟨ct.keep,?_,ct.e⟩ hn e1<|PE hz B W;rw[hP] at i⊢;exact Nz i W
namespace B01
variable {w:bz} {X:Nat->bH} {n:Nat}
theorem YO (Y Z:aM->Prop) (h:bK) (x a:aM) (I:iw.HI Y h x a) (z: ∀b, ¬ Y b-> ¬ mA h b-> ¬ Z b):iw.HI Z h x a:=by
 obtain ⟨n,N,I⟩:=I;obtain ⟨o,M,c,C,r⟩:=id I;refine ⟨z _ n (Bj M λW m q=>(by rw[q] at c;contradiction)),λH d e u=>z _ (N H d e u) λ⟨g,m,q⟩=>?_,I⟩;obtain rfl:=bM M e;rcases r with ⟨r,_⟩|⟨R,r,_,K⟩
 ·exact cb r u
 ·obtain rfl:=bM r u
  obtain ⟨v,A,B,j,p,_⟩:=K;obtain rfl:=bM j q;contradiction
noncomputable def kM (X:Nat->bH):Prop:= ∃e,dO b3 e/\X 138=fB e e.length
noncomputable def Oh (o:bH):Bool:=match o.cls with|.type T=>T != "list" |_=>aB
theorem QCq (P:bZ) (X:Nat->bH):((bg 414).all λa=>bt a 138||match iC (eM P X) 414 cZ a with|some o=>Oh o|none=>aB)=true:=by lia
theorem QBl (hX:kM X) (b:aM): ¬ mA (D w X n).G b:=by
 rintro ⟨vs,m,e⟩
 have e':=(uN ..).symm.trans e;have:=dq.mp (QCq w.params X) b<|sG.mpr (CF e').2.2.1;rw[e',IK] at this;refine cp (this) (λq=>?_) λq=>?_
 ·rw[uR q] at e'
  obtain ⟨es,_,hx⟩:=hX;rw[(by lia:iC (eM w.params X) 414 cZ 138=alive (X 138)),hx] at e';have e3:=kC<|e';exact QHZ (Value.type.inj (QHd Obj.cls e3:(QFh "dict")=QFh "list")) (by decide)
 ·exact QHZ (show Oh (listOf #[] 0)=aB from q) (by decide)
theorem Rt (Z:z∈mE xs l h s):z∈xs:=aS (Hj.mp Z) λk O e=>DO e
theorem XN (M:kM X) [dA<|D w X n] [kn<|D w X n] (h:tF (aU n) 1 [] CR xs hs (.list zs)) (H:hs.all tQ=aB):F5 (D w X<|n+1) 291 xs hs zs:=by
 have h':=h;obtain ⟨hl,e⟩:=h
 obtain rfl:xs=[]:=by
  clear h' e;induction xs with
  |nil=>rfl
  |cons a l=>simp at hl
 have Z:zs=mE hs aF aF none:=by
  induction e.2 with
  |mk e1 e2=>
   clear H h' e;cases e1 with
   |lst i p P p3 _ _=>
    cases p;cases P;clear a_2;cases p3
    clear a_3;cases i with
    |bor i=>
     cases i
     induction e2 with
     |mk e1 e2=>cases e1;cases e2;rfl
 clear e;subst Z;intro A s Y us vs x a m Q E;exact Za rfl (by intro A s Y us vs x a m Q E;exact Oc h') H (dq.mpr λz Z=>dq.mp H z<|Rt Z) (QBl M) YO
end B01
theorem Ve (h:dO l es) (k:Int):IY mU es.toArray k=aF/\l.lookup k=aF\/ ∃s u,l.lookup k=aA s/\IY mU es.toArray k=aA (.str s u):=by
 unfold IY;rw[List.find?_toArray];induction h with
 |nil=>exact .inl ⟨rfl,rfl⟩
 | @cons b e l es a _ i=>
  refine jT a λt u B=>sb B ?_;obtain ⟨K,s⟩:=b
  simp! only[List.find?_cons,iK]
  have x:mU k (lh K (.str s u) t).key=(K==k):=rfl;have n:(k==K)=(K==k):=by rw[uV,beq_iff_eq,beq_iff_eq];exact ⟨Eq.symm,Eq.symm⟩
  simp! only[x,n]
  induction hq:(K==k) with
  |true=>exact .inr<|fA s u rfl rfl
  |false=>exact i
theorem Zk {w:bz} (h:dO l es):KeysOf (iq prog w) es.toArray:=λe F=>cQ (h.keys e F) λk t H i=>(ax k (by erw[H];exact QHe k) i)
namespace B01
variable {w:bz} {X:Nat->bH} {n:Nat}
theorem F_ (hX:kM X): ∃a ob,(D w X n).mg "b3_exceptions" =aA (.ref a)/\(D w X n).G.get? a=aA ob/\ob.cls=.type "dict" /\ob.dict=aF/\ ∀{A:cV} {s:aN} {i:Int} {t:fG} {Q:aI->aN->Prop} {E:aI->aN->Prop},gv (D w X n).n A->(∀b o,(D w X n).G.get? b=aA o->s.heap.get? b=aA o)->
 (∀u tk,(∀Y h,Rd Y h u<|(D w X n).o.b3 i)->Q u {s with toks:=tk})->aO (aY (D w X n).prog (D w X n).w) A (call (.builtin "dict.get") [.ref a,.int i t]) Q E s:=by
 refine aS hX λes he hx=>?_
 have eg:(D w X n).G.get? 138=aA (fB es es.length):=by
  refine (uN ..).trans ?_
  simp! only[(by lia:iC (eM w.params X) 414 cZ 138=alive (X 138)),hx]
  rfl
 refine (vi 138 (fB es es.length) ((jX (w:=w) (X:=X) "b3_exceptions").trans<|by lia) eg rfl rfl (λ{A s i t Q E} R base k=>?_));have hm:s.heap.MapOf (iq pg w) 138 (λk=>IY mU es.toArray k):=(HY _ _ _ (base _ _ eg) ⟨rfl,rfl,rfl⟩ rfl (Zk he) (λO=>rfl));refine call_meetsIn QEw hm.typeIs PySem.F.entry_dict_get (PySem.F.args_dict_get_2 _ _) (meets_dict_get (iq pg w) 138 (QHe i:(iq pg w).is i (.int i t)=aB)<|by decide)<|ax _ hm ?_;refine k _ _ λY h=>(?_);erw[(by clear eg R base k;induction n<;>rfl:(D w X n).o.b3=rh)];unfold rh;rcases Ve he i with ⟨e1,e2⟩|⟨s,u,e1,e2⟩
 ·simp! only[e1,e2]
  exact Rd.none
 ·simp! only[e1,e2]
  exact Rd.str _ _
noncomputable def vp (o:bH):Array (Int×aI):=match o.data with|.set e _ _=>e|_=> #[]
noncomputable def Xk (o:bH):SetTable:=match o.data with|.set _ _ t=>t|_=>default
theorem QAS: ∀i,(gQ.contains i=aB↔ ∃e∈(vp<|ob 127 w.params).toList,mU i e.2=aB):=by
 intro i;have e:(vp<|ob 127 w.params).toList.map (λe=>match e.2 with|.int k _=>k|_=>0)=gQ:=by lia
 rw[<-e,Hx,ij];constructor
 ·rintro ⟨x,hx,rfl⟩
  have:=dq.mp (by lia:((vp<|ob 127 w.params).toList.all λe=>match e.2 with|.int _ _=>aB|_=>aE)=aB) x hx;obtain ⟨k,v⟩:=x;induction v<;>first|cases this|skip
  exact (ax _ hx<|QHe _)
 ·rintro ⟨x,hx,h⟩
  exact aV (QFi h) λt ht=>(ax x hx<|sb ht rfl)
theorem b1F: ∃a,(D w X n).mg "b1_set" =aA (.ref a)/\ ∀{A:cV} {s:aN} {i:Int} {t:fG} {Q:aI->aN->Prop} {E:aI->aN->Prop},gv (D w X n).n A->(∀b o,(D w X n).G.get? b=aA o->s.heap.get? b=aA o)->(∀tk,Q (.bool<|(D w X n).o.b1 i) {s with toks:=tk})->aO (aY (D w X n).prog (D w X n).w) A (sI .In (.int i t)<|.ref a) Q E s:=by
 refine (ax 127 ((jX (w:=w) (X:=X) "b1_set").trans<|by lia) λ{A s i t Q E} R base k=>?_);have eo:(D w X n).o.b1=λi=>gQ.contains i:=by clear R base;clear k;induction n<;>rfl
 have hS:s.heap.SetOf (iq pg w) 127 (λi=>gQ.contains i) 27:=by
  refine ⟨ob 127 w.params,vp<|ob 127 w.params,29,Xk<|ob 127 w.params,(base _ _<|gg<|by lia),⟨rfl,rfl,rfl⟩,rfl,?_,λi=>QAS i,(by lia:(vp<|ob 127 w.params).size=27)▸(by decide:27<scanBound),by lia,by lia⟩;intro e he;have:=dq.mp (by lia:((vp<|ob 127 w.params).toList.all λe=>match e.2 with|.int k t=>e.1==hashInt k && Value.scannable (.int k t)|_=>aE)=aB) e he;obtain ⟨k,v⟩:=e;clear he;induction v<;>first|(exact br this)|skip
  rw[gn,beq_iff_eq] at this;exact ⟨(ax _ (QHe _) this.1),this.2⟩
 refine QFj (k:=i) (knd:=iq pg w) (QHe i:mU i (.int i t)=aB) rfl hS ?_;have:=k<|s.toks+1;rw[eo] at this;exact this
end B01
namespace B01
variable {w:bz} {X:Nat->bH} {n:Nat}
noncomputable def JF (P:bZ):FuncData:=dF<|ob 324 P
theorem QDU (P:bZ) (q u U:aI):nQ (JF P) ⟨[q,u,U],[]⟩=(alloc {cls:=.type "dict",data:=.dict #[]}>>=λd=>pure [(("self" :aG),q),(("_name" :aG),u),(("_value" :aG),U),(("_params" :aG),.ref d)]):=by lia
theorem ZE (P:bZ) (X:Nat->bH):ti (eM P X) 414 cZ 324 323 2748 (ob 324 P) (ob 323 P) (fK<|dD 28 16) (cJ<|dD 28 16).names:=by lia
theorem XJ [dA<|D w X n] [kn<|D w X n] (e:vg (aU n) 4 [.emp] yz xs hs d hs'):qy (D w X<|n+1) 324 xs hs d hs':=by
 intro A s Y us vs x ia m Q E c hi xa ha hvs hv k;refine bI e λhl he=>?_;have fo:=L4 (cd:=aF) (ZE w.params X) λO O e=>ay e
 have h0:eX (cJ<|dD 28 16).names.length 200=true:=by lia
 have h4:(ra (Fc.fn (cJ<|dD 28 16).names 200 aB aE aF<|dN h0) (cJ<|dD 28 16).names ["self","_name","_value","_params"] 4 && j7 ci (Fc.fn (cJ<|dD 28 16).names 200 aB aE aF<|dN h0) yz (fK<|dD 28 16))=true:=by lia
 have q:=zO (aD h4).1
 have hxl:us.length=2:=by
  have:=hv.len;rw[du,dY] at hl
  simp! only[this]
  exact zz<|zz hl
 have y: ∀b,(λb=>b=ia) b->Y b:=λb q=>q▸xa;have kp: ∀b o,s.heap.get? b=aA o->(s.heap.push jJ).get? b=aA o:=λO O e=>gS _ e;have mm:Mon Y s.heap Y (s.heap.push jJ):=λb o e n=>⟨kp _ _ e,n⟩;have npd: ∀b,(D w X n).P.PF b->(s.heap.push jJ).get? b=s.heap.get? b:=λb p=>cQ ((D w X n).P.iS c.inv p) λo O e O=>sb e<|sb (kp _ _ e) rfl
 have c1:CS (D w X<|n+1) A Y {s with heap:=s.heap.push jJ}:=⟨c.R,c.t,λb o e=>kp _ _<|c.base b o e,c.fN,λb q=>let ⟨o,w⟩:=c.al b q;⟨o,kp _ _ w⟩,c.pf,(D w X n).P.iU c.inv mm npd⟩;revert hv;refine jK (P:=λus=>bB Y s.heap us xs->aO (aY (D w X<|n+1).prog (D w X<|n+1).w) A (call (.ref 324)<|.ref x::us) Q E s) (λu1 u2 hv=>?_) us hxl;refine xA (QE c.R.lt (c.base _ _<|gg (by lia:iC (eM w.params X) 414 cZ 324=aA (ob 324 w.params))) (by lia:(ob 324 w.params).data=.func (JF w.params)) fo.co fo.ge fo.bd (fo.cr.keeps c.base) ?_)
 simp! only[QDU]
 refine aR<|H4<|bA ?_;refine MH (D:=D w X n) (z:=⟨{s with heap:=s.heap.push jJ},λb=>b=ia\/(D w X n).P.PF b,vh ia⟩) (Ob:=tE (D w X n) Y λb=>b=ia) (us:=[.ref x,u1,u2,.ref s.heap.objs.size]) (sls:=Sl.inst::(xs.map xS++[Sl.emp])) (l:=rH hs) (Kb:=Gw d hs') (bs:=yz.map SW.w) ⟨q.2,ll oj (aD h4).2,rfl⟩ vr fo q.1 (((q.2.so (D:=D w X n)).1.trans xB).trans hl.symm) he (λi q=>Dt aB<|mJ q<|by decide) c.R c.t (Ga c1 y (kp _ _ ha) (hvs.mon mm) (λi ys e=>FQ aB e) rfl (λO=>rfl) (λw=>QHZ rfl w)) (.cons (cz x ia vm rfl ((D w X n).P.kN hi λb o e n=>qA y c.pf b o (kp _ _ e) n))<|(eS.vals<|(hv.mon mm).mon<|qA y c.pf).app<|.cons (gd _ rfl (fH _ rfl) (λq=>(λq=>by refine aV (c.al _ q) λo w=>?_;exact cb (ie (bh _):s.heap.get? s.heap.objs.size=aF) w: ¬ Y s.heap.objs.size)<|Ca y c.pf q)) .nil) (λfl l' d' g g' u env z' b=>?_) (λl' g=>by cases g.1);refine eN g λg hr1 hr2=>?_;obtain rfl:=g.fn g';have pe:=(b.s.p.hn rfl).trans vm;refine dU (b.F.own aT hs' hr1) λia' vs' n' e1 e2 e3=>?_;obtain rfl:=bM pe e1;have wa: ∀b,b=ia->z'.W b:=λO q=>q▸b.F.jf hs' hr1 hr2 ia pe;exact bI (b.ct (o':=aU<|n+1) (m:=n+1) wa λO q=>q▸pe) λh1 h2=>k u z'.s vs' n' ⟨λb o e q p=>h1.keep b o (kp _ _ e) q p,h1.inv,h1.e⟩ e2 (e3.mon λc o e n=>⟨e,λw=>n<|Em wa b.F.pf w⟩) h2
end B01
structure fO (G:bK) (mg:aG->Option aI) (env:cg) (m:aG->Option aI) (h:bK):Prop where
 gl:Gl G mg
 base: ∀b o,G.get? b=aA o->h.get? b=aA o
 loc:h.Ns env.locals m
 hk:env.scope.kind=.function
 hg:env.globals=nO
 hb:env.builtins=ic
section
variable {G:bK} {mg:aG->Option aI} {env:cg} {m:aG->Option aI} {prog:sH} {w:bz} {A:cV} {s:aN} {E:aI->aN->Prop} {pos:bP}
theorem fO.keeps (F:fO G mg env m h) (k: ∀b o,h.get? b=aA o->h'.get? b=aA o):fO G mg env m h':=⟨F.gl,λb o e=>k b o<|F.base b o e,F.loc.keeps k,F.hk,F.hg,F.hb⟩
theorem gM (F:fO G mg env m s.heap) (K:env.kindOf nm=aA .local) (hu:m nm=aA u) (h:Q u s) (hd:(nm==("__debug__"))=aE):aO (aY prog w) A (b7 (.Name nm pos) env) Q E s:=wpAny_Name (Pj F.hk K F.loc hu h) hd
theorem Mf (F:fO G mg env m s.heap) (K:env.kindOf nm=aA .globalImplicit) (hu:mg nm=aA u) (h:Q u s) (hd:(nm==("__debug__"))=aE):aO (aY prog w) A (b7 (.Name nm pos) env) Q E s:=by refine Hv F.hk K ?_ hd;refine QEl ?_ hu h;exact sb F.hg<|F.gl.g.keeps F.base
theorem yj (F:fO G mg env m s.heap) (K:env.kindOf nm=aA .globalImplicit) (hn:mg nm=aF) (hu:Hp nm=aA u) (h:Q u s) (hd:(nm==("__debug__"))=aE) (n:nm≠ "__name__"):aO (aY prog w) A (b7 (.Name nm pos) env) Q E s:=by
 refine Hv F.hk K ?_ hd;refine QEk (mg:=mg) (mb:=G.nsMap ic) ?_ hn ?_ ?_ h
 ·exact sb F.hg<|F.gl.g.keeps F.base
 ·exact sb F.hb<|F.gl.b.keeps F.base
 ·exact sb (F.gl.bo nm n)<|hu
theorem rF (F:fO G mg env m s.heap) (K:env.kindOf nm=aA .local) (L:G.get? env.locals=aF) (h: ∀h' tk,fO G mg env (λy=>if y=nm then aA u else m y) h'->(∀b o,b≠env.locals->s.heap.get? b=aA o->h'.get? b=aA o)->Q () {s with heap:=h',toks:=tk}):
 aO (aY prog w) A (mR (.Name nm pos) env u) Q E s:=by
 refine uf (QEW K F.loc (λh' hn sb=>?_) (by erw[F.hk];rfl));have k: ∀b o,b≠env.locals->s.heap.get? b=aA o->h'.get? b=aA o:=λb o n e=>(sb.2 b n).trans e;exact h h' _ ⟨F.gl,λb o e=>k b o (λq=>by simp only[q,L] at e;exact ay e)<|F.base b o e,hn,F.hk,F.hg,F.hb⟩ k
end
namespace B01
variable {w:bz} {X:Nat->bH} {n:Nat}
noncomputable def rE (P:bZ):FuncData:=dF<|ob 228 P
theorem TZ (P:bZ) (X:Nat->bH):(G P X).CodeRec (rE P).code (rE P).qualname:=(Hb 227 (ob 227 P) (kR<|ob 227 P) 2635 (by lia) (gg<|by lia) (by lia)<|by lia)
theorem ZH (P:bZ) (u v:aI) (b:Bool):nQ (rE P) ⟨[u,v],[("name",.bool b)]⟩=pure [(("self" :aG),u),(("value" :aG),v),(("name" :aG),.bool b)]:=by lia
theorem h_ (b:Bool):gP (G w.params X) (if b then 193 else 198) (lY b):=by
 induction b with
 |true=>exact ⟨ob 193 w.params,192,ob 192 w.params,kR<|ob 193 w.params,Bh<|ob 192 w.params,0,gg (by lia),rfl,rfl,rfl,by lia,by lia,by lia,gg (by lia),rfl,by lia⟩
 |false=>exact ⟨ob 198 w.params,197,ob 197 w.params,kR<|ob 198 w.params,Bh<|ob 197 w.params,0,gg (by lia),rfl,rfl,rfl,by lia,by lia,by lia,gg (by lia),rfl,by lia⟩
theorem Ly (ok:gL b xx=aB) {E:aI->aN->Prop} (hdp:A.depth<1000) (base: ∀b o,(G w.params X).get? b=aA o->s.heap.get? b=aA o)
 (k: ∀h' tk,(∀b o,s.heap.get? b=aA o->h'.get? b=aA o)->Q (.str xx t) {s with heap:=h',toks:=tk}):aO (aY pg w) A (call (.ref 228) [.ref x,.str xx t] [("name",.bool b)]) Q E s:=by
 refine xA (Ql (fd:=rE w.params) (body:=fK<|dD 28 1) (binds:=[(("self" :aG),.ref x),(("value" :aG),.str xx t),(("name" :aG),.bool b)]) hdp (base _ _<|gg (by lia:iC (eM w.params X) 414 cZ 228=aA (ob 228 w.params))) (by lia) (me.lim.keeps base) ((TZ w.params X).keeps base) (by lia) (.of_eq<|ZH _ _ _ _) ?_ ?_ (λh1 ns k1=>?_) (by lia) (by lia)<|by lia)
 ·exact λx hx=>by simpa using dq.mp (by lia:(rE w.params).scope.names.all (λx=> !(x.2==.cell))=aB) x hx
 ·intro y hy
  simp only[bp,gU,or_false] at hy;clear ok hdp base k;rcases hy with rfl|rfl|rfl<;>lia
 have F:fO (G w.params X) (mg w X) (IZ (rE w.params) s.heap.objs.size 228) _ h1:=⟨me,λb o e=>k1 _ _<|base b o e,ns,by lia,by lia,by lia⟩
 have hL:(G w.params X).get? s.heap.objs.size=none:=by
  induction q:(G w.params X).get? s.heap.objs.size with
  |none=>rfl
  |some o=>exact QHZ (kh<|base _ _ q)<|mK _
 refine ip<|wpAny_If (wpAny_isTrue_Compare1 (wpAny_Call_Name_kw<|yj F (by lia) (xZ _<|by decide+kernel) (u:=.type "type") (by lia) ?_ (by decide+kernel)<|by decide+kernel) rfl)
 refine wo rfl (gG rfl ?_);refine ua (gM F (by lia) (u:=.str xx t) (by lia) (lP ?_)<|by decide+kernel);refine Pz (Ph _ _ _) (by decide+kernel)<|yj F (by lia) (xZ _<|by decide+kernel) (u:=.type "str") (by lia) ?_ (by decide+kernel) (by decide+kernel)
 refine QEj rfl (ou ?_);refine sb (QHb<|by decide)<|wpAny_execs_cons ?_
 have hr:(mg w X) (if b then "_name_disallowed_re" else "_value_disallowed_re")=aA (.ref<|if b then 193 else 198):=by
  clear ok ns F;induction b with
  |true=>exact (jX (w:=w) (X:=X) "_name_disallowed_re").trans (by lia)
  |false=>exact (jX (w:=w) (X:=X) "_value_disallowed_re").trans (by lia)
 have go: ∀{E':aI->aN->Prop} {Q':aI->aN->Prop} {A':cV} {p0 p1 p2 p3:bP} {s1:aN},s1.heap=h1->Q' (.ref<|if b then 193 else 198) s1->aO (aY pg w) A' (b7 (.IfExp (.Name "name" p0) (.Name "_name_disallowed_re" p1) (.Name "_value_disallowed_re" p2) p3)<|IZ (rE w.params) s.heap.objs.size 228) Q' E' s1:=by
  intro E' Q' A' p0 p1 p2 p3 s1 es q;have F':=es▸F;refine wpAny_IfExp (Ia<|gM F' (by lia) (u:=.bool b) (by lia) (ou ?_)<|by decide+kernel);clear ok ns F;induction b with
  |true=>exact Mf F' (by lia) hr q (by decide+kernel)
  |false=>exact Mf F' (by lia) hr q (by decide+kernel)
 refine jj rfl rfl rfl (go rfl ?_);refine rF F (by lia) hL λh2 t2 F2 k2=>ip ?_;have P2:=(h_ (w:=w) (X:=X) b).keeps F2.base;refine cy P2.own λo pa O pc=>IF (Ia<|wx rfl rfl rfl (gM F2 (by lia) (u:=.ref<|if b then 193 else 198) (by lia) ?_<|by decide+kernel));refine (tU ("re.Pattern") ("re.Pattern.search") OM NA SF P2.typeIs (λa' e=>?_)<|wm rfl (gG rfl ?_))
 ·clear ok ns F hr go F2 k2 P2
  cases e
  exact (ax o pa pc)
 refine ua (gM F2 (by lia) (u:=.str xx t) (by lia) (lP ?_)<|by decide+kernel);refine QDe P2 ok<|wpAny_pure<|sb (if_neg<|by decide)<|wpAny_execs_nil<|wpAny_execs_cons<|wpAny_Return_some (gM F2 (by lia) (u:=.str xx t) (by lia) ?_<|by decide+kernel)
 exact k h2 t2 λb' o' e=>k2 b' o' (λq=>by rw[q] at e;exact QHZ (kh e)<|mK _)<|k1 b' o' e
end B01
namespace B01
variable {w:bz} {X:Nat->bH} {n:Nat}
noncomputable def wB (P:bZ):FuncData:=dF<|ob 221 P
theorem QAj (P:bZ) (X:Nat->bH):(G P X).CodeRec (wB P).code (wB P).qualname:=⟨220,ob 220 P,kR<|ob 220 P,2625,by lia,gg (by lia),by lia,by lia⟩
theorem Xr {X:Nat->bH} (B: ∀b o,(G P X).get? b=aA o->s.heap.get? b=aA o) (u v:aI):BindsTo s (wB P) ⟨[u,v],[]⟩ [(("self" :aG),u),(("headers" :aG),v)]:=by intro M A E Q q;refine (?_:aO M A (QR (.ref 214)>>=_) Q E s);refine aR (IG (B _ _ (gg<|by lia):s.heap.get? 214=aA (ob 214 P)) rfl ?_);exact qr (by lia) q
noncomputable abbrev Fs (P:bZ) (L:aM):Env:=IZ (wB P) L 221
theorem tC {nm y:aG} {p0 p1 p2 p3 p4 p5 p6:bP} {E:aI->aN->Prop} (hdp:A.depth<990) (F:fO (G w.params X) (mg w X) env m s.heap) (I:s.heap.Inst x jF (Au a))
 (hS:env.kindOf "self" =aA .local) (mS:m "self" =aA (.ref x)) (hN:env.kindOf nm=aA .local) (mN':m nm=aA (.str y ty)) (hd:(nm==("__debug__"))=aE) (ok:gL b y=aB)
 (hm:CX (.Name "self" p0) "_convert_string_type" p1 p5 [.Name nm p2] [⟨aA "name",.Constant (.bool b) kk p3,p4⟩]) (hsw:DG (.Call (.Attribute (.Name "self" p0) "_convert_string_type" p1) [.Name nm p2] [⟨aA "name",.Constant (.bool b) kk p3,p4⟩] p5) aF p6.line env=pure aE)
 (hdr: ∀u t,z9 (.Call (.Attribute (.Name "self" p0) "_convert_string_type" p1) [.Name nm p2] [⟨aA "name",.Constant (.bool b) kk p3,p4⟩] p5) p6 (.str u t)=pure .next)
 (hs:fI [.Name nm p2] env=[(aE,b7 (.Name nm p2) env)])
 (h: ∀h' tk,(∀b o,s.heap.get? b=aA o->h'.get? b=aA o)->Q .next {s with heap:=h',toks:=tk}):
 aO (aY pg w) A (o6 (.Expr (.Call (.Attribute (.Name "self" p0) "_convert_string_type" p1) [.Name nm p2] [⟨aA "name",.Constant (.bool b) kk p3,p4⟩] p5) p6) env) Q E s:=by
 refine AP F.hk hsw (yC hm<|gM F hS mS ?_<|by decide+kernel);intro pl;refine v3 (n:=0) (Y:=λO=>False) (x:=x) (a:=a) (f:=228) (of:=ob 228 w.params) (y:=aF) F.base ⟨λq=>q,λO O O O q=>q,I⟩ ((kW _).trans<|by lia) (gg<|by lia) rfl (by ac_nf) (by decide)<|Fo (evalArgs_kw2 rfl ?_ (by simp! only[hs];rfl))
 refine ua<|gM F hN mN' (lP<|kwAll_cons<|HG<|kwAll_nil ?_) hd;refine ⟨⟨ob 228 w.params,rE w.params,F.base _ _ (gg<|by lia),by lia⟩,?_⟩;refine Ly ok (az ‹_› (gA _ _)) F.base λh' tk kp=>⟨hdr _ _,h h' tk kp⟩
noncomputable abbrev Kp (h h':bK):Prop:= ∀b o,h.get? b=aA o->h'.get? b=aA o
noncomputable abbrev Kx (L:aM) (h h':bK):Prop:= ∀b o,b≠L->h.get? b=aA o->h'.get? b=aA o
theorem Inst.but (I:h.Inst x c m) (k:Kx L h h') (n:x≠L) (N: ∀o d,h.get? x=aA o->o.dict=aA d->d≠L):h'.Inst x c m:=sv I λo e q C r=>⟨o,k _ _ n e,q,C,r.imp id λr=>cy r λd a b c=>⟨d,a,b,c.at λO=>k _ _<|N o d e a⟩⟩
theorem Z6 {nw k0 B k2:Nat} {pk pv pt p0 p p2 p3 c p5 p6 Z r1 r2 r3 r4 r r6:bP} {E:aI->aN->Prop}
 (C:A.handled=aF) (d:A.depth<990) (F:fO (G w.params X) (mg w X) env m s.heap) (L:(G w.params X).get? env.locals=aF) (e1:env.kindOf "self" =aA .local) (e2:env.kindOf "k" =aA .local) (u:env.kindOf "v" =aA .local) (N:m "self" =aA (.ref x))
 (I: ∀h',Kx env.locals s.heap h'->h'.Inst x jF (Au a)) (e4:s.heap.get? b1=aA {cls:=.type "tuple",data:=.seq #[.str Y z,.str j z2] nw}) (v:gL aB Y=aB) (o2:gL aE j=aB) (l1:(p.endLine==p5.line)=aB) (W:(r1.endLine==r.line)=aB)
 (h: ∀h' tk g,fO (G w.params X) (mg w X) env g h'->g "self" =aA (.ref x)->Kx env.locals s.heap h'->R .next {s with heap:=h',toks:=tk}):
 aO (aY pg w) A (mR (.Tuple [.Name "k" pk,.Name "v" pv] k0 pt) env<|.ref b1) (λO H=>aO (aY pg w) A (fX [.Expr (.Call (.Attribute (.Name "self" p0) "_convert_string_type" p) [.Name "k" p2] [⟨aA "name",.Constant (.bool aB) B p3,c⟩] p5) p6,.Expr (.Call (.Attribute (.Name "self" Z) "_convert_string_type" r1) [.Name "v" r2] [⟨aA "name",.Constant (.bool aE) k2 r3,r4⟩] r) r6] env) R E H) E s:=by
 refine wpAny_assign_Tuple C ⟨_,e4,rfl,_,rfl⟩ rfl rfl λh6 U=>?_;have U:Kp s.heap h6:=λb o e=>U b o (qo<|kh e) e;refine aR<|cO<|rF (F.keeps U) e2 L λh7 t7 l P=>?_;refine aR<|cO<|rF l u L λq t8 f M=>?_;have M:Kx env.locals s.heap q:=λb o n e=>M b o n<|P b o n<|U b o e;have i:=I _ M;refine bA (ip<|tC d f i e1 N e2 rfl (by decide+kernel) v ⟨λO=>rfl,λO=>rfl,l1⟩ rfl (λO O=>rfl) rfl λh9 t9 t=>?_);exact ip (tC d (f.keeps t) (i.keeps t) e1 N u rfl (by decide+kernel) o2 ⟨λO=>rfl,λO=>rfl,W⟩ rfl (λO O=>rfl) rfl λQ aa K=>zy<|h _ _ _ ((f.keeps t).keeps K) N λb o n e=>K b o<|t b o<|M b o n e)
structure NI (w:bz) (X:Nat->bH) (env:cg) (J a x:aM) (vs:Array aI) (s3:aN) (j:Nat) (s:aN):Prop where
 e:s={s3 with heap:=s.heap,toks:=s.toks}
 it:s.heap.IsListIter J a j
 il:s.heap.IsList a vs
 F: ∃m,fO (G w.params X) (mg w X) env m s.heap/\m "self" =aA (.ref x)
 k: ∀b o,b≠J->b≠env.locals->s3.heap.get? b=aA o->s.heap.get? b=aA o
theorem QDt (h:vS d=aB): ∃Y e,d=.tuple [.str Y,.str e]/\gL aB Y=aB/\gL aE e=true:=by
 cases d with
 |tuple x=>
  cases x with
  |nil=>contradiction
  |cons a x=>
   cases x with
   |nil=>cases a<;>contradiction
   |cons b x=>
    cases a with
    |str Y=>
     cases b with
     |str e=>
      cases x with
      |nil=>exact ⟨Y,e,rfl,f7.mp h⟩
      |cons=>contradiction
     |_=>contradiction
    |_=>contradiction
 |_=>contradiction
theorem Vp (r:Rd Y h v (.tuple [.str s,.str e])): ∃b n z Z,v=.ref b/\h.get? b=aA {cls:=.type "tuple",data:=.seq #[.str s z,.str e Z] n}:=by refine dk r.Aj λb a n R C O r=>bf r.hU λu W p Q r=>bf r.hU λU N q d r=>aV Q.dM λz x=>aV d.dM λZ c=>?_;rw[p,q,x,c,r.kK] at C;exact ⟨b,n,z,Z,R,C⟩
theorem yp {A:cV} {s:aN} {env:cg} {m0 k0 kk K:Nat} {vs:List aI} {xs:List aK} {pk pv pt p0 P p2 p3 p4 p5 p6 r0 r1 r2 r3 r4 r5 r6:bP}
 (N:A.handled=aF) (dp:A.depth<990) (F:fO (G w.params X) (mg w X) env m s.heap) (hL:(G w.params X).get? env.locals=aF) (e1:env.kindOf "self" =aA .local) (e2:env.kindOf "k" =aA .local) (e3:env.kindOf "v" =aA .local) (mS:m "self" =aA (.ref x))
 (I:s.heap.Inst x jF (Au a)) (n1:x≠env.locals) (n2: ∀o d,s.heap.get? x=aA o->o.dict=aA d->d≠env.locals) (na:a≠env.locals) (Q:xs.all vS=aB) (t:s.heap.get? a=aA (listOf vs.toArray m0)) (u:bB Y s.heap vs xs) (l1:(P.endLine==p5.line)=aB) (l2:(r1.endLine==r5.line)=aB)
 (h: ∀h' tk,Kx env.locals s.heap h'->R (.ok .next) {s with heap:=h',toks:=tk}):
 uh (aY pg w) A (.forLoop (.Tuple [.Name "k" pk,.Name "v" pv] k0 pt) (.ref s.heap.objs.size) [.Expr (.Call (.Attribute (.Name "self" p0) "_convert_string_type" P) [.Name "k" p2] [⟨aA "name",.Constant (.bool aB) kk p3,p4⟩] p5) p6,.Expr (.Call (.Attribute (.Name "self" r0) "_convert_string_type" r1) [.Name "v" r2] [⟨aA "name",.Constant (.bool aE) K r3,r4⟩] r5) r6] [] env) R {s with heap:=s.heap.push {cls:=.type "list_iterator",data:=.fields #[.ref a,.int 0 0]}}:=by
 have nJ: ∀b o,s.heap.get? b=aA o->b≠s.heap.objs.size:=λb o e=>qo<|kh e;have Z:Kp s.heap (s.heap.push {cls:=.type "list_iterator",data:=.fields #[.ref a,.int 0 0]}):=λO O e=>gS _ e;refine dU F.loc λoL es ep L dL rL=>?_;have l:=nJ _ _ L
 refine MY (Walks.list N s.heap.objs.size a (nJ _ _ t) vs.toArray) (λi h st=>cy st.1 λo e c O=>⟨o,"list_iterator",e,c,by decide⟩) (NI w X env s.heap.objs.size a x vs.toArray s) (λj s' q=>⟨q.it,q.il⟩)
  ⟨rfl,⟨_,fH _ rfl,rfl,rfl⟩,(gN t).push _,⟨m,F.keeps Z,mS⟩,λb o O O e=>Z b o e⟩ (λs' h' tk q k O=>?_) λj s' h' tk v g q hP st k O Er=>?_
 ·exact sb q.e<|h h' tk λb o n e=>k b o (q.k b o (nJ b o e) n e)<|nJ b o e
 ·refine aS q.F λm4 f M=>?_
  rw[zc] at hP;have g:j<xs.length:=by rwa[gm,u.len] at g
  refine aS (u.get<|sR g) λv' e5 r=>?_;cases bM hP e5;refine bf (QDt<|dq.mp Q _<|List.getElem_mem g) λy1 y2 W o1 o2=>?_;rw[W] at r;refine Dp (Vp r) λb1 nw z1 z2 ev p=>sb ev ?_;have U:=k _ _ (q.k _ _ (nJ _ _ p) (λz=>by rw[z,L] at p;clear L r W;cases p;contradiction) p)<|nJ _ _ p;exact Z6 N dp ⟨f.gl,λb o e=>k b o (f.base b o e)<|nJ b o<|F.base b o e,f.loc.at λo e=>k _ o e l,f.hk,f.hg,f.hb⟩ hL e1 e2 e3 M (λH K=>Inst.but I ((λH K b o n e=>K b o n<|k b o (q.k b o (nJ b o e) n e)<|nJ b o e) H K) n1 n2) U o1 o2 l1 l2 λH t2 m2 F2 C K=>⟨by exact sb q.e rfl,st.1.at λo e=>K _ o (lO l) e,st.2.at λo e=>K _ o na e,⟨m2,F2,C⟩,λb o B nl e=>K b o nl<|k b o (q.k b o B nl e) B⟩
theorem UL {A:cV} {s:aN} {vs:List aI} {xs:List aK} {E:aI->aN->Prop} (hA:A.handled=aF) (hdp:A.depth<950) (hu:A.units<9700) (base: ∀b o,(G w.params X).get? b=aA o->s.heap.get? b=aA o) (fN: ∀b o,(G w.params X).get? b=aA o-> ¬ Y b) (dj: ∀b,Y b-> ∃o,s.heap.get? b=aA o)
 (hall:xs.all vS=aB) (ha:s.heap.get? a=aA (listOf vs.toArray m)) (hv:bB Y s.heap vs xs)
 (k: ∀x h' tk,(∀b o,s.heap.get? b=aA o->h'.get? b=aA o)->iw.HI Y h' x a->Q (.ref x) {s with heap:=h',toks:=tk}):aO (aY pg w) A (call (.ref jF) [.ref a]) Q E s:=by
 obtain ⟨hh,g,d,t,os⟩:=s;refine wpAny_call_obj_init PySem.F.objNew (base _ _ r9) (xn.keeps base) ((kW _).trans (by lia:DN (rT<|ob 326 w.params) "__init__" =aA (.ref 221))) (base _ _<|gg (by lia:iC (eM w.params X) 414 cZ 221=aA (ob 221 w.params))) rfl (λh' x dx Mk=>?_);have base': ∀b o,(G w.params X).get? b=aA o->h'.get? b=aA o:=λb o e=>Mk.keeps _ _<|base b o e;refine xA (Ql (fd:=wB w.params) (body:=fK<|dD 28 0) (binds:=[(("self"),.ref x),(("headers"),.ref a)]) ?_ (base' _ _<|gg (by lia:iC (eM w.params X) 414 cZ 221=aA (ob 221 w.params))) (by lia) (me.lim.keeps base') ((QAj w.params X).keeps base') (by lia) (Xr base' _ _) ?_ ?_ (λh1 ns k1=>?_) (by lia) (by lia)<|by lia)
 ·refine (?_)
  exact ig ‹_› (by decide)
 ·exact λx hx=>by simpa -iota using dq.mp (by lia:(wB w.params).scope.names.all (λx=> !(x.2==.cell))=aB) x hx
 ·intro y hy
  simp! only[bp,gU,or_false] at hy
  rcases hy with rfl|rfl<;>lia
 have F:fO (G w.params X) (mg w X) (Fs w.params h'.objs.size) _ h1:=⟨me,λb o e=>k1 _ _<|base' b o e,ns,by lia,by lia,by lia⟩
 have hL:(G w.params X).get? h'.objs.size=none:=by
  induction q:(G w.params X).get? h'.objs.size with
  |none=>rfl
  |some o=>exact QHZ (kh<|base' _ _ q)<|mK _
 have ha1:=k1 _ _<|Mk.keeps _ _ ha;refine ip<|jj rfl rfl rfl (wpAny_IfExp<|wpAny_isTrue_Compare1 (gM F (by lia) (u:=.ref a) (by lia) ?_<|by decide+kernel) rfl)
 refine bA<|wpAny_isNot_plain rfl (wpAny_truthy_bool ?_)
 dsimp only[show (!(wY a==Value.none))=aB from rfl];refine gM F (by lia) (u:=.ref a) (by lia) ?_ (by decide+kernel);refine rF F (by lia) hL λh2 t2 F2 k2=>?_;obtain ⟨m2,F2,mS,mH⟩: ∃m2,fO (G w.params X) (mg w X) (Fs w.params h'.objs.size) m2 h2/\m2 "self" =aA (.ref x)/\m2 "headers" =aA (.ref a):=⟨_,F2,by lia,by lia⟩;have iQ: ∀b o,h'.get? b=aA o->b≠h'.objs.size:=λb o e q=>by simp! only[q,(ie<|bh _)] at e;exact ay e
 have k12: ∀b o,h'.get? b=aA o->h2.get? b=aA o:=λb o e=>k2 b o (iQ b o e)<|k1 b o e;have xa:a≠x:=λq=>by have:=Mk.newX;simp! only[<-q] at this;exact cb this ha
 refine ip<|wpAny_If (wpAny_isTrue_Compare1 (wpAny_Call_Name_kw<|yj F2 (by lia) (xZ _<|by decide+kernel) (u:=.type "type") (by lia) ?_ (by decide+kernel)<|by decide+kernel) rfl)
 refine wo rfl (gG rfl ?_);refine ua (gM F2 (by lia) (u:=.ref a) mH (lP ?_)<|by decide+kernel);refine Pz (x:=.ref a) (Tx:= "list") ⟨_,(k12 _ _<|Mk.keeps _ _ ha),rfl⟩ (by decide+kernel)<|yj F2 (by lia) (xZ _<|by decide+kernel) (u:=.type "list") (by lia) ?_ (by decide+kernel) (by decide+kernel)
 refine Pn rfl (ou ?_);refine sb (QHa<|by decide)<|wpAny_execs_nil ?_
 refine ip<|plainObj_wpAny_Assign_Attribute (gM F2 (by lia) (u:=.ref a) mH (gM F2 (by lia) (u:=.ref x) mS ?_<|by decide+kernel)<|by decide+kernel)
 have xC:x≠jF:=λq=>by
  have e:=base _ _<|r9 (w:=w) (X:=X);have:=Mk.newX
  simp! only[q] at this
  exact QHZ (e.symm.trans this) (by intro q;exact qO q)
 obtain ⟨ox,hx,hcx,FH,hdx⟩:=id Mk.inst;have hdd:=Mk.dict ox hx;refine store_attr PySem.F.store_object (F2.base _ _ r9:h2.get? jF=aA _) (xn.keeps F2.base) ((kW _).trans<|by lia) ((kW _).trans<|by lia) (by ac_nf) xC (Mk.inst.keeps k12:h2.Inst x jF λO=>aF) (ns:=[]) (λh3 t3 I3 k3 sm3=>?_) (λy hy=>QHZ rfl hy) (by decide);refine sj (sm3 ox<|k12 _ _ hx) λox3 hx3 hcx3 OP hs3 hdd3=>?_;have hdd3:=hdd3 dx hdd
 have k23: ∀b o,b≠x->b≠dx->h2.get? b=aA o->h3.get? b=aA o:=λb o n1 n2 e=>k3 b o n1 (λo₀ d' e₀ ed=>by
  obtain rfl:=bM (k12 _ _ hx) e₀;obtain rfl:=bM hdd ed
  exact n2) e
 have nx: ∀b o,hh.get? b=aA o->b≠x/\b≠dx:=λb o e=>⟨λq=>(by have:=Mk.newX;simp! only[<-q] at this;exact cb this e),λq=>(by have:=Mk.newD;simp! only[<-q] at this;exact cb this e)⟩;have k03: ∀b o,hh.get? b=aA o->h3.get? b=aA o:=λb o e=>k23 b o (nx b o e).1 (nx b o e).2<|k12 _ _<|Mk.keeps _ _ e
 have hdn: ∃od,h'.get? dx=aA od:=by
  rcases hdx with ⟨hn0,_⟩|⟨d',hd',_,hns'⟩
  ·exact cb hn0 hdd
  ·obtain rfl:=bM hdd hd'
   obtain ⟨od,_,_,e,_⟩:=hns';exact ⟨od,e⟩
 refine aV hdn λod hod=>?_;have F3:fO (G w.params X) (mg w X) (Fs w.params h'.objs.size) m2 h3:=by obtain ⟨oL,es,ep,eL,rL⟩:=F2.loc;exact ⟨me,λb o e=>k03 b o<|base b o e,⟨oL,es,ep,k23 _ _ (λq=>QHZ q.symm<|iQ _ _ hx) (λq=>QHZ q.symm<|iQ _ _ hod) eL,rL⟩,F2.hk,F2.hg,F2.hb⟩
 have ha3:=k03 _ _ ha
 have HI3:iw.HI Y h3 x a:=⟨λq=>(by refine aV (dj _ q) λo e=>?_;exact cb Mk.newX e),λo d' e ed q=>(by
  obtain rfl:=bM hx3 e;obtain rfl:=bM hdd3 ed
  exact aV (dj _ q) λo e=>cb Mk.newD e),I3⟩
 refine ip<|wpAny_If<|wpAny_isTrue_value ?_
 refine bA<|ou ?_;dsimp only[if_pos rfl];refine ip<|wpAny_For (gM F3 (by lia) (u:=.ref a) mH (wpAny_pyIter_list (gN ha3) ?_)<|by decide+kernel) λO=>rfl
 have nx0:=iQ _ _ hx
 have n2: ∀o d,h3.get? x=aA o->o.dict=aA d->d≠h'.objs.size:=λo d e ed=>by
  cases bM hx3 e
  cases bM hdd3 ed
  exact iQ _ _ hod
 refine yp (m:=m2) hA (aQ hdp:A.depth+1+1<990) F3 hL (by lia) (by lia) (by lia) mS I3 nx0 n2 (iQ _ _<|Mk.keeps _ _ ha) hall ha3 (hv.mon<|Mon.all k03) rfl rfl λh5 t5 k5=>zy<|zy ⟨rfl,k x h5 t5 (λb o e=>k5 b o (iQ _ _<|Mk.keeps _ _ e)<|k03 b o e) ⟨HI3.1,λo d e ed=>?_,Inst.but I3 k5 nx0 n2⟩⟩;cases bM (k5 _ _ nx0 hx3) e;exact HI3.2.1 _ _ hx3 ed
end B01
section
variable {prog:sH} {w:bz} {A:cV} {E:aI->aN->Prop} {s:aN}
theorem Mx:QU (.type "set") "__bool__" =pure none:=by rw[QV,QW];lia
theorem JM:AH #[x] 0= #[]:=rfl
theorem S5 {α:Type} (xs:Array α) (p:Nat) (x:α):(Qm xs p x).size=xs.size+1:=by
 unfold Qm
 simp! only[Qn,QQ,uU]
 exact ((Qo (p)<|xs.size).elim (λu=>(jk (bD (na (na (nL<|sE ((by simp+arith):0<=min p xs.size))<|nL<|sE ((bD u<|nR<|fz ((by simp+arith):xs.size<=xs.size)):p<=min xs.size xs.size))<|nL<|fz (u:p<=xs.size))<|nL<|fz ((by simp+arith):xs.size<=xs.size))<|bD (na (na (nR<|fz ((by simp+arith):xs.size<=xs.size))<|nR<|sE ((bD u<|nR<|fz ((by simp+arith):xs.size<=xs.size)):p<=min xs.size xs.size))<|nR<|fz (u:p<=xs.size))<|nR<|sE ((by simp+arith):0<=min p xs.size))) λu=>(rJ (ea (QFk (u:xs.size<=p))<|sE ((by simp+arith):0<=min p xs.size))<|xI ((bD (nL<|fz ((by simp+arith):xs.size<=xs.size)) u):min xs.size xs.size<=p)))
theorem XD (h:Q 0 {s with drawn:=s.drawn.bump L}):aO M A (choose L 1) Q E s:=λH p _=>by
 unfold choose
 simp! only[Sem.wp_choose]
 refine ⟨by decide,?_⟩
 simp! only[Nat.mod_one]
 exact h
theorem De {K:Type} [DecidableEq K] {knd:KeyKind prog w K} {S:K->Bool} (U:s.heap.SetOf knd a S n) (h: ∀tk,Q (n !=0) {s with toks:=tk}):aO (aY prog w) A (Ho<|.ref a) Q E s:=by
 have z:=U.typeIs;obtain ⟨o,c,x,t,j,P,Y,B,Z,b,M,N⟩:=U;have f:(c.size:Int)<2^63:=by have:c.size<4096:=b;exact bE<|oL this
 have v:aO (aY prog w) A (Qb<|.builtin "len" ⟨[.ref a],[]⟩) (λr d=>r=.int (c.size:Nat) (s.toks+1)/\Q (n !=0) d) E s:=by refine wpAny_runValue<|QT entry_len ?_;refine eY (wpAny_len_body_set (Q:=λr d=>r=.int (c.size:Nat) (s.toks+1)/\Q (n !=0) d) j P Y M f ⟨rfl,h _⟩) (λR d H=>by refine aS H λr g q=>?_;erw[g];exact q) λO O e=>e
 have C:(((c.size:Nat):Int) !=0)=(n !=0):=by rw[N,uV,bne_iff_ne,bne_iff_ne];clear N;simp+arith
 first
  |refine wpAny_bind<|wpAny_callSpecial?_none z Mx ?_
  |refine wpAny_bind<|wpAny_pure<|wpAny_bind<|wpAny_callSpecial?_none z Mx ?_
 first
  |refine wpAny_bind<|wpAny_specialOf z F.slot_set_len.lookup ?_
  |refine wpAny_bind<|wpAny_pure<|wpAny_bind<|wpAny_specialOf z F.slot_set_len.lookup ?_
 first
  |exact wpAny_bind (wpAny_mono v (λr d H=>by refine bI H λp q=>?_;erw[p];exact bA (by simp! only[C];exact q)) λO O e=>e)
  |exact wpAny_bind (wpAny_pure (wpAny_bind (wpAny_mono v (λr d H=>by obtain ⟨rfl,q⟩:=H;exact bA (by simp! only[C];exact q)) λO O e=>e)))
theorem QCJ (U:s.heap.SetOf (iq prog w) a (λk=>decide (k=n)) 1)
 (h: ∀{d:Drawn} h' t,Hk a s.heap h'->h'.SetOf (iq prog w) a (λO=>aE) 0->Q (.int n t) {s with heap:=h',drawn:=d}):aO (aY prog w) A (call (.builtin "set.pop") [.ref a]) Q E s:=by
 refine IB F.slot_set_pop U.typeIs F.entry_set_pop ?_<|F.args_set_pop_1 _;obtain ⟨o,es,Y,t,z,hex,hd,N,B,hb,hf,hn⟩:=U;have c: ∃e,es= #[e]:=by obtain ⟨l⟩:=es;exact lC (P:=λl=> ∃e,(⟨l⟩:Array (Int×aI))= #[e]) (λe=>⟨e,rfl⟩) l hn
 refine aV c λx g=>?_;obtain ⟨H,v⟩:=x;clear hb hn;subst g;refine bI (N (H,v)<|.head _) λx O=>aS x λZ K O=>?_;have C:Z=n:=by have:=(B Z).mpr<|ax (H,v) (.head _) K;simpa -iota using this
 clear B;subst C;refine aV (QFi (K:mU Z v=aB)) λtk g=>?_;clear N K;subst g;have p:t.place.size=1/\t.fill<=t.mask:=by unfold QFl at hf;rw[gn,beq_iff_eq,decide_eq_true_eq] at hf;exact ⟨hf.1,hf.2⟩
 have W:t.popPlace=aA 0:=by
  delta SetTable.popPlace;have:t.place.isEmpty=false:=by rw[Array.isEmpty_eq_false_iff_exists_mem];exact ⟨t.place[0]'(aQ<|nR p.1),Array.getElem_mem _⟩
  refine sb this<|sb (if_neg<|by decide) ?_
  dsimp only;erw[p.1]
  congr 1
  split<;>omega
 have f:(t.popped 0).fits 0=true:=by
  delta SetTable.popped SetTable.drop;erw[(QFD ((aQ<|nR p.1)):t.place[0]?=aA (t.place[0]'(aQ<|nR p.1)))];delta QFl QFm;have L:=p.2;unfold QFm at L
  simp! only[gn,QHc,decide_eq_true_eq]
  refine ⟨?_,?_⟩
  ·refine (?_:(AH t.place 0).size=0)
   delta AH
   simp! only[Qn,uU]
   clear x c;exact (jk (bD (na (na (na (nL<|sE ((by simp+arith):0<=min 0 t.place.size))<|nL<|sE ((bD (nR p.1)<|nR<|fz ((by simp+arith):t.place.size<=t.place.size)):0+1<=min t.place.size t.place.size))<|nL<|fz ((by simp+arith):0<=t.place.size))<|nL<|fz ((by simp+arith):t.place.size<=t.place.size))<|nL p.1)<|by simp+arith)
  ·refine (?_:(AH t.place 0).size+(Qm t.dummies _ _).size<=t.mask)
   rw[S5];delta AH
   simp! only[Qn,uU]
   clear x c;exact (bD (na (na (na (nL<|sE ((by simp+arith):0<=min 0 t.place.size))<|nL<|sE ((bD (nR p.1)<|nR<|fz ((by simp+arith):t.place.size<=t.place.size)):0+1<=min t.place.size t.place.size)) L)<|nL<|fz ((by simp+arith):0<=t.place.size))<|nL<|fz ((by simp+arith):t.place.size<=t.place.size))
 have dc: ∀d,aO (aY prog w) A.in1 (do
  storeSet a (AH #[(H,Qc Z tk)] 0) (t.popped 0)
  pure (aA<|Qc Z tk)) (λr i=> ∃y,r=aA y/\Q y i) E {s with drawn:=d}:=by
  intro d;refine aR (wpAny_storeSet_of (s:={s with drawn:=d}) z hd ?_ (by erw[JM];exact hJ _));refine bA<|ax _ rfl (h _ tk (ID ..) ?_);refine sb JM<|⟨{o with data:=.set #[] (Y+1)<|t.popped 0}, #[],Y+1,t.popped 0,?_,hex,rfl,(λe he=>by simp -iota at he),(λk=>by simp),by decide,f,rfl⟩
  erw[wz _ z (by rw[putSet_of _ _ hd];rfl)];exact sb (putSet_of _ _ hd) rfl
 delta xE.«set.pop» Builtin.Frozenset.noArgs Builtin.Frozenset.addrOf
 simp! only[bind_assoc]
 refine aR<|bA ?_;refine aR<|eY (Q:=λr i=> ∃y,r=aA y/\Q y i) (E:=E) ?_ (λr i R=>?_) λO O e=>e
 ·delta setPop
  refine aR<|wpAny_setState_of z hd hf ?_;dsimp only;rw[W];delta setsByText;refine aR<|aR<|QFn<|bA ?_;by_cases b:(w.params.followText "set-order" ||false)=true
  ·rw[if_pos (by
    refine (?_:(w.params.followText "set-order" ||(!t.plain && decide (1>1)))=true);rw[Bool.or_false] at b;rw[b]
    rfl)]
   refine aR<|XD ?_;exact dc _
  ·rw[if_neg (by
    refine (?_: ¬ (w.params.followText "set-order" ||(!t.plain && decide (1>1)))=true)
    simp! only[show decide (1>1)=aE from rfl,uq]
    exact b)]
   refine (?_:aO _ _ ((if (!t.led && decide (1>1))=aB then unsupported _ else pure ())>>=_) _ _ _);rw[if_neg (by rw[show decide (1>1)=aE from rfl,uq];decide)];refine aR<|bA<|aR<|bA ?_;exact dc s.drawn
 ·exact aS R λy g q=>sb g<|wpAny_pure<|ax _ rfl q
end
namespace B01
variable {w:bz} {X:Nat->bH} {n:Nat}
noncomputable def sd (P:bZ):FuncData:=dF<|ob 46 P
theorem SS (P:bZ) (X:Nat->bH):(G P X).CodeRec (sd P).code (sd P).qualname:=⟨45,ob 45 P,kR<|ob 45 P,292,by lia,gg (by lia),by lia,by lia⟩
theorem B_ {X:Nat->bH} (B: ∀b o,(G P X).get? b=aA o->s.heap.get? b=aA o) (u v z:aI):BindsTo s (sd P) ⟨[u,v,z],[]⟩ [(("w" :aG),u),(("base" :aG),v),(("more_than" :aG),z),(("show" :aG),.bool aE)]:=by intro M A E Q q;refine (?_:aO M A (QR (.ref 39)>>=_) Q E s);refine aR (IG (B _ _ (gg<|by lia):s.heap.get? 39=aA (ob 39 P)) rfl ?_);exact qr (by lia) q
noncomputable abbrev zJ (P:bZ) (L:aM):Env:=IZ (sd P) L 46
theorem mz {K:Type} [DecidableEq K] {knd:KeyKind prog w K} {h h':bK} {S:K->Bool} (x:h.SetOf knd a S n) (k: ∀o,h.get? a=aA o->h'.get? a=aA o):h'.SetOf knd a S n:=by have e:=x.elim λo x=>x.elim λO x=>x.elim λO x=>x.elim λO x=>(k o x.1).trans x.1.symm;delta Heap.SetOf;refine sb e x
theorem E_ {vs:Array aI} {E:aI->aN->Prop} (e:env.code=.ref c) (z:s.heap.get? c=aA o) (hd:o.data=.fields vs) (h: ∀b,Q b s):aO M A (inMainModule env) Q E s:=by
 dsimp only[inMainModule];erw[e]
 split
 ·exact bA<|h _
 ·refine aR (QP z hd ?_)
  split
  ·exact aR<|QFn<|bA<|h _
  ·exact bA<|h _
theorem KN {w:bz} {K:Type} [DecidableEq K] {knd:KeyKind prog w K} {h:bK} (led:Bool):(h.push {cls:=.type "set",dict:=aF,data:=.set #[] 0<|.fresh 0 0 led}).SetOf knd h.objs.size (λO=>aE) 0:=⟨_, #[],0,_,fH _ rfl,⟨rfl,rfl,rfl⟩,rfl,λe F=>by simp at F,λk=>by simp,by decide,by rfl,rfl⟩
theorem EO (F:fO g M env m h) (e:h.get? a=aF):a≠env.locals:=λq=>by refine oI F.loc λo O O s O=>?_;rw[q] at e;exact cb e s
theorem mkSet {pos:bP} {env:cg} {s:aN} {E:aI->aN->Prop} (F:fO (G w.params X) (mg w X) env m s.heap) (C:env.kindOf nm=aA .local) (K:env.kindOf "set" =aA .globalImplicit) (L:(G w.params X).get? env.locals=aF)
 (H:jo [.Name nm P] (.Call (.Name "set" p) [] [] f) pos.line env=pure aE) (h:mT [.Name nm P] (.Call (.Name "set" p) [] [] f) env=pure aF)
 (q: ∀a h' tk,fO (G w.params X) (mg w X) env (λy=>if y=nm then aA (.ref a) else m y) h'->h'.SetOf (iq pg w) a (λO=>aE) 0->s.heap.get? a=aF->a≠env.locals->(∀b o,b≠env.locals->s.heap.get? b=aA o->h'.get? b=aA o)->Q .next {s with heap:=h',toks:=tk}):
 aO (aY pg w) A (o6 (.Assign [.Name nm P] (.Call (.Name "set" p) [] [] f) pos) env) Q E s:=by
 refine jj H h rfl (qp<|yj F K ((jX (w:=w) (X:=X) "set").trans<|by lia) (u:=.type "set") (by lia) ?_ (by decide+kernel)<|by decide+kernel);refine wo rfl (gG rfl (lP<|call_set_0 λR=>?_));have x:s.heap.get? s.heap.objs.size=none:=ie<|bh _;have Z: ∀b o,s.heap.get? b=aA o->(s.heap.push {cls:=.type "set",dict:=aF,data:=.set #[] 0<|.fresh 0 0 R}).get? b=aA o:=λO O e=>gS _ e;have N:=EO F x;exact rF (F.keeps Z) C L λl B M t=>q _ l B M (mz (KN R) λo e=>t _ o N e) x N λb o n e=>t b o n<|Z b o e
structure CQ (w:bz) (X:Nat->bH) (L a1 a2 a3:aM) (t3:fG) (s:aN) (h:bK):Prop where
 F: ∃m,fO (G w.params X) (mg w X) (zJ w.params L) m h/\m "ws" =aA (.ref a3)/\m "seen" =aA (.ref a1)/\m "need" =aA (.ref a2)/\m "more_than" =aA (.int 2048 t3)
 S1:h.SetOf (iq pg w) a1 (λO=>aE) 0
 S2:h.SetOf (iq pg w) a2 (λO=>aE) 0
 k:Kp s.heap h
structure CA (w:bz) (X:Nat->bH) (L a1 a2 a3:aM) (s:aN):Prop where
 hL:(G w.params X).get? L=aF
 base:Kp (G w.params X) s.heap
 sL:s.heap.get? L=aF
 s3:s.heap.get? a3=aF
 e1:a1≠L
 e2:a2≠L
 e3:a3≠L
 LF:a1≠a3
 MX:a2≠a3
theorem vx {h:bK} (n:h.get? a=aF) (e:h.get? b=aA o):b≠a:=λq=>cb (q▸n) e
section
variable {L a1 a2 a3:aM} {t3:fG} {s:aN} {h h':bK} {A:cV} {E:aI->aN->Prop}
theorem CA.G3 (C:CA w X L a1 a2 a3 s) {b o} (e:(G w.params X).get? b=aA o):b≠a3:=vx C.s3<|C.base _ _ e
theorem LV (F:fO (G w.params X) (mg w X) env m h) (g: ∀b o,(G w.params X).get? b=aA o->b≠a) (n:a≠env.locals) (k:Kx a h h'):fO (G w.params X) (mg w X) env m h':=⟨me,λb o e=>k b o (g b o e)<|F.base b o e,F.loc.at λo e=>k _ o (lO n) e,F.hk,F.hg,F.hb⟩
theorem Zj {k:Int} (P:k<=2048) {d:Drawn} {p0 v p p3 p4 u r1 r2 Z z R r j:bP} {Q:hM->aN->Prop} (C:CA w X L a1 a2 a3 s) (q:CQ w X L a1 a2 a3 t3 s h) (g:h.SetOf (iq pg w) a3 (λk'=>decide (k'=k)) 1)
 (l:(p.endLine==p3.line)=aB)
 (hQ: ∀h' tk d,CQ w X L a1 a2 a3 t3 s h'->h'.SetOf (iq pg w) a3 (λO=>aE) 0->Q .cont {s with heap:=h',toks:=tk,drawn:=d}):
 aO (aY pg w) A (fX (.Assign [.Name "w" p0] (.Call (.Attribute (.Name "ws" v) "pop" p) [] [] p3) p4:: .If (.BoolOp .Or [.Compare (.Name "w" u) [.In] [.Name "seen" r1] r2,.Compare (.Name "w" Z) [.LtE] [.Name "more_than" z] R] r) [.Continue j] [] r::rest)<|zJ w.params L) Q E {s with heap:=h,toks:=tk,drawn:=d}:=by
 refine sj q.F λm F W N mN x=>ip (jj rfl rfl rfl (wx rfl rfl l (gM F (by lia) W ?_<|by decide+kernel)));refine ⟨"set","set.pop",PySem.F.plainAttrs_set,PySem.F.slot_set_pop,PySem.F.type_set_pop,g.typeIs,g.noDict,wm rfl (gG rfl (lP<|QCJ g λ{Y} H t U S8=>?_))⟩;have M:Kx a3 h H:=λb o n e=>(U.2 b n).trans e;refine rF (LV F (λO O e=>C.G3 e) C.e3 M) (by lia) C.hL λB t9 f K=>?_;have S1:=mz q.S1 λo e=>K _ o C.e1<|M _ o C.LF e;have hq:=λtk d=>hQ B tk d (⟨⟨_,f,W,N,mN,x⟩,S1,mz q.S2 λo e=>K _ o C.e2<|M _ o C.MX e,λb o e=>K b o (vx C.sL e)<|M b o (vx C.s3 e)<|q.k b o e⟩)<|mz S8 λo e=>K _ o C.e3 e;refine ip<|IF ?_;refine aR (Hr (gM f (by lia) rfl (gM f (by lia) N ?_<|by decide+kernel) (by decide+kernel)) rfl);refine QFj (QHe k:mU k (.int k t)=aB) rfl S1 (ou ?_);refine aR (Hr (gM f (by lia) rfl (gM f (by lia) x ?_<|by decide+kernel) (by decide+kernel)) rfl);refine Jd (op:=.LtE) (a:=k) (b:=2048) (c:=aB) ((QHh P:decide (k<=2048)=aB)▸ .le) λi=>ou<|bA ?_;exact ip<|QFH<|hq _ _
theorem QDS {r:List cq} (C:CA w X L a1 a2 a3 s) (q:CQ w X L a1 a2 a3 t3 s h)
 (hQ: ∀d h' tk,Kp s.heap h'->h'.get? d=aA jJ->s.heap.get? d=aF->Q (.ret<|.ref d) {s with heap:=h',toks:=tk,drawn:=Z}):
 aO (aY pg w) A (fX (.Assign [.Name "d" N] (.Dict [] [] p) P:: .If (.UnaryOp .Not (.Name "need" l) r1) [.Return (aA<|.Name "d" r2) c] [] R::r)<|zJ w.params L) Q E {s with heap:=h,toks:=tk,drawn:=Z}:=by
 refine sj q.F λm F W v U x=>?_;have u:h.get? h.objs.size=none:=ie<|bh _;have g:Kp h (h.push jJ):=λO O e=>gS _ e;have n:=EO F u
 have Y:s.heap.get? h.objs.size=none:=by
  induction z:s.heap.get? h.objs.size with
  |none=>rfl
  |some o=>exact wD (q.k _ _ z) u
 refine ip<|jj rfl rfl rfl (wpAny_Dict_empty<|?_);refine rF (F.keeps g) (by lia) C.hL λH a f K=>?_;have B:=mz q.S2 λo e=>K _ o C.e2<|g _ o e;have M:=λtk=>hQ _ H tk (λb o e=>K b o (vx C.sL e)<|g b o<|q.k b o e) (K _ _ n<|fH _ rfl) Y;refine ip (IF<|QEi<|Ia<|gM f (by lia) U (De B λt=>?_)<|by decide+kernel);exact sb (QHb<|by decide)<|wpAny_execs_cons (wpAny_Return_some<|gM f (by lia) rfl (M _) (by decide+kernel))
end
theorem ZD {k:Int} (hk:k<=2048) {A:cV} {s:aN} {E:aI->aN->Prop} (hA:A.handled=aF) (hdp:A.depth<950) (base: ∀b o,(G w.params X).get? b=aA o->s.heap.get? b=aA o)
 (q: ∀{dr:Drawn} d h' tk,(∀b o,s.heap.get? b=aA o->h'.get? b=aA o)->h'.get? d=aA jJ->s.heap.get? d=aF->Q (.ref d) {s with heap:=h',toks:=tk,drawn:=dr}):aO (aY pg w) A (call (.ref 46) [.int k t1,.int 5 t2,.int 2048 t3]) Q E s:=by
 refine xA (Ql (fd:=sd w.params) (body:=fK<|bO 3) (binds:=[(("w" :aG),.int k t1),(("base" :aG),.int 5 t2),(("more_than" :aG),.int 2048 t3),(("show" :aG),.bool aE)]) (by refine (?_:A.depth<1000);exact az ‹_› (gA _ _)) (base _ _<|gg (by lia:iC (eM w.params X) 414 cZ 46=aA (ob 46 w.params))) (by lia) (me.lim.keeps base) ((SS w.params X).keeps base) (by lia) (B_ base _ _ _) ?_ ?_ (λh1 ns k1=>?_) (by lia) (by lia)<|by lia)
 ·exact λx hx=>by simpa using dq.mp (by lia:(sd w.params).scope.names.all (λx=> !(x.2==.cell))=aB) x hx
 ·intro y hy
  simp only[bp,gU,or_false] at hy;clear hk hA hdp base q;rcases hy with rfl|rfl|rfl|rfl<;>lia
 have F:fO (G w.params X) (mg w X) (zJ w.params s.heap.objs.size) _ h1:=⟨me,λb o e=>k1 _ _<|base b o e,ns,by lia,by lia,by lia⟩;have hLn:s.heap.get? s.heap.objs.size=none:=ie<|bh _;have iQ: ∀b o,s.heap.get? b=aA o->b≠s.heap.objs.size:=λb o e q=>by simp only[q,hLn] at e;exact ay e
 have hL:(G w.params X).get? s.heap.objs.size=none:=by
  clear hA hdp ns k1 F hLn;induction q:(G w.params X).get? s.heap.objs.size with
  |none=>rfl
  |some o=>exact QHZ rfl (iQ _ _<|base _ _ q)
 have hLn':=hLn;generalize hLL:s.heap.objs.size=L at*;refine ip<|mkSet F (by lia) (by lia) hL rfl rfl λa1 h2 t2' F2 S1 n1 ne1 k2=>?_
 have k12: ∀b o,s.heap.get? b=aA o->h2.get? b=aA o:=λb o e=>k2 b o (iQ b o e)<|k1 b o e;refine ip<|mkSet F2 (by lia) (by lia) hL rfl rfl λa2 h3 t3' F3 S2 n2 ne2 k3=>?_
 have S1:=mz S1 λo e=>k3 _ o ne1 e;have k13: ∀b o,s.heap.get? b=aA o->h3.get? b=aA o:=λb o e=>k3 b o (iQ b o e)<|k12 b o e;refine ip<|jj rfl rfl rfl ?_
 rw[arm_eval_Set];refine aR (iJ<|aR<|E_ (c:=45) (o:=ob 45 w.params) (vs:=kR<|ob 45 w.params) (by lia) (F3.base _ _<|gg<|by lia) (by lia) λbb=>?_);refine kds_core (ts:=[do let v<-b7 (.Name "w" _) _;sO _;pure v]) rfl rfl (by decide:(1:Nat)<=30) rfl λled=>?_;have hn3:h3.get? h3.objs.size=none:=ie<|bh _;have kp3: ∀b o,h3.get? b=aA o->(h3.push {cls:=.type "set",dict:=aF,data:=.set #[] 0<|.fresh 0 0 led}).get? b=aA o:=λO O e=>gS _ e;refine sj (⟨_,F3,by lia,by lia,by lia,by lia⟩: ∃m3,fO (G w.params X) (mg w X) (zJ w.params L) m3 h3/\m3 "w" =aA (.int k t1)/\m3 "seen" =aA (.ref a1)/\m3 "need" =aA (.ref a2)/\m3 "more_than" =aA (.int 2048 t3)) λm3 F3 m3w m3s m3n m3m=>?_;have F4:=F3.keeps kp3;have ne3:=EO F3 hn3
 have n3:s.heap.get? h3.objs.size=none:=by
  induction z:s.heap.get? h3.objs.size with
  |none=>rfl
  |some o=>exact wD (k13 _ _ z) hn3
 have CC:CA w X L a1 a2 h3.objs.size s:=⟨hL,base,hLL▸hLn',n3,ne1,ne2,ne3,λq=>by refine Dp S1 λo O O O e O=>?_;rw[q] at e;exact cb hn3 e,λq=>by refine Dp S2 λo O O O e O=>?_;rw[q] at e;exact cb hn3 e⟩;have S30:(h3.push {cls:=.type "set",dict:=aF,data:=.set #[] 0<|.fresh 0 0 led}).SetOf (iq pg w) h3.objs.size (λO=>aE) 0:=KN led;have S1:=mz S1 λo e=>kp3 _ o e;have S2:=mz S2 λo e=>kp3 _ o e;have k14:Kp s.heap (h3.push {cls:=.type "set",dict:=aF,data:=.set #[] 0<|.fresh 0 0 led}):=λb o e=>kp3 b o<|k13 b o e;generalize h3.objs.size=a3 at*;generalize (h3.push {cls:=.type "set",dict:=aF,data:=.set #[] 0<|.fresh 0 0 led})=h4 at*;refine aR (aR<|gM (s:={s with heap:=h4,toks:=_}) F4 (by lia) (u:=.int k t1) m3w (aR<|iJ<|bA ?_)<|by decide+kernel);refine aR<|cO<|bA<|bA ?_;refine kds_fill_cons ?_;dsimp only[setAdd];refine cO<|aR<|(iq pg w).pyHash (k:=k) (QHe k:mU k (.int k t1)=aB) ?_;refine wpAny_setAddHashed_of (knd:=iq pg w) (k:=k) (QHe k:mU k (.int k t1)=aB) rfl S30 (by decide) λh5 sb5 S3=>kds_fill_nil rfl ?_;have k5:Kx a3 h4 h5:=λb o n e=>(sb5.2 b n).trans e;refine rF (s:={s with heap:=h5,toks:=_}) (LV F4 (λO O e=>CC.G3 e) CC.e3 k5) (by lia) hL λh6 t6 F6 k6=>?_;have q6:CQ w X L a1 a2 a3 t3 s h6:=⟨⟨_,F6,rfl,m3s,m3n,m3m⟩,mz S1 λo e=>k6 _ o CC.e1<|k5 _ o CC.LF e,mz S2 λo e=>k6 _ o CC.e2<|k5 _ o CC.MX e,λb o e=>k6 b o (vx CC.sL e)<|k5 b o (vx CC.s3 e)<|k14 b o e⟩;have S3:h6.SetOf (iq pg w) a3 (λk'=>decide (k'=k)) 1:=mz (by simpa using S3) λo e=>k6 _ o CC.e3 e;refine ip<|wpAny_While ?_;refine QFJ (λq s'=> ∃h tk dr,s'={s with heap:=h,toks:=tk,drawn:=dr}/\CQ w X L a1 a2 a3 t3 s h/\((q=2/\h.SetOf (iq pg w) a3 (λk'=>decide (k'=k)) 1)\/(q=1/\h.SetOf (iq pg w) a3 (λO=>aE) 0))) ?_ 2 ⟨h6,t6,s.drawn,rfl,q6,.inl ⟨rfl,S3⟩⟩;refine λq' s' hs=>dU hs λh tk dr es Cq hq=>sb es<|sj Cq.F λm F7 mW O O O=>Ia (gM F7 (by lia) (u:=.ref a3) mW ?_<|by decide+kernel)
 clear hA hdp base k1 hLL ns F hLn iQ hL hLn' F2 S1 n1 ne1 k2 k12 F3 S2 n2 ne2 k3 k13 m3w m3s m3n m3m hn3 ne3 n3 kp3 F4 k14 S30 sb5 k5 F6 k6 q6 hs es F7 mW;rcases hq with ⟨rfl,S3⟩|⟨rfl,S3⟩
 ·exact De S3 λtk8=>sb (QHb<|by decide)<|Zj (s:=s) hk CC Cq S3 rfl λh9 tk9 dr9 q9 S9=>⟨1,by decide,h9,tk9,dr9,rfl,q9,.inr ⟨rfl,S9⟩⟩
 ·exact De S3 λtk8=>sb (QHa<|by decide)<|wpAny_execs_nil<|QDS (s:=s) CC Cq λd h9 tk9 k9 e n=>q d h9 tk9 k9 e n
end B01
noncomputable def Oe (cf:hH) (C:Fc) (c:List Nat):Bool:=decide ((cf.scope.names.map (·.1)).Nodup) && (cf.scope.names.all (λx=> !(x.2==.cell)) && (cf.scope.names.all (λx=>if x.2==.free then (match C.cM x.1 with|some i=>c.contains i|none=>aB) else aB) && c.all λi=>cP i C.bd))
theorem Ym (h:Oe cf Cow cN=aB) (H:(cf.scope.kind,cf.scope.isCoroutine,cf.scope.isGenerator)=(.function,aE,aE)) (m: ∀j,oi=aA j->j∈cN):rX cf Cow cN oi:=by simp only[sT] at H;refine bI (aD h) λa h=>bI (aD h) λb h=>bI (aD h) λc d=>⟨eC a,H.1,H.2.1,H.2.2,λx M=>by simpa using dq.mp b x M,λx i e1 e2=>?_,λi t=>bJ<|dq.mp d i t,m⟩;have k:=dq.mp c (x,.free)<|mem_of_lookup e1;rw[if_pos<|by rfl] at k;dsimp only at k;rw[e2] at k;simpa using k
namespace B01
variable {w:bz} {X:Nat->bH} {n:Nat}
theorem d_: ∀x i,(D w X n).o.gi x i-> ∃t,(D w X n).mg x=aA (.int i t):=by
 intro x i h;have h:x= "_DIV_LIMIT" /\i=4000:=by induction n<;>exact h
 have e0':=h.1;have e1':=h.2;exact sb e0'<|sb e1'<|⟨329,(jX (w:=w) (X:=X) "_DIV_LIMIT").trans<|by lia⟩
theorem UQ: ∃o,(D w X n).G.get? Cz=aA o/\o≠jJ:=(ax (ob 1 w.params) (gg<|by lia) (λq=>by
 have:(ob 1 w.params).data=jJ.data:=sb q rfl
 exact QHZ (show (3:Nat)=0 from (by unfold rT;exact sb this rfl:(rT<|ob 1 w.params).size=(rT jJ).size))<|by decide))
theorem QDq: ∀k nm f,(D w X n).hm k=aA (nm,f)->20<=k->(D w X n).mg nm=aA (.ref f):=by
 intro k nm f e K;have:=tJ _ _ _ (e:oY.lookup k=aA (nm,f));simp only[oY,bp,gU,or_false,sT] at this;clear e;rcases this with ⟨rfl,_⟩|⟨rfl,_⟩|⟨rfl,_⟩|⟨rfl,_⟩|⟨rfl,_⟩
 all_goals exact QHZ K (by decide)
theorem Xh: ∀{f:Nat} {Y:aM->Prop} {h:bK} {cl:List (aG×aM)} {a:aM},(D w X n).P.CL f Y h cl a-> ∃o fd,h.get? a=aA o/\o.data=.func fd:=by
 rintro f Y h cl a ⟨cf,e,⟨A,i,H,_⟩⟩
 exact (fA _ _ A H)
section
variable[dA<|D w X n] [kn<|D w X n]
theorem Rc: ∀f xs d,OF (aU n) f xs d-> ∃nm a o fd,(D w X<|n+1).fns[f]?=aA nm/\(D w X<|n+1).mg nm=aA (.ref a)/\(D w X<|n+1).G.get? a=aA o/\o.data=.func fd/\oB (D w X<|n+1) a xs d:=by
 intro f xs d h;induction h with
 |q F x L u m=>subst F x L;exact jv (Eo (w:=w) (X:=X) (n:=n+1) (9,"quotedata",119,(ob 119))<|DO (i:=8) rfl) λH B b K=>(EP _ _ _ _ H B b K (by intro A s Y U Q E;exact QBb u m))
 |mk e h=>refine bf (M7 (UO (w:=w) (X:=X) (n:=n)) _<|tJ _ _ _ e) λi r R C p=>jv (Eo (w:=w) (X:=X) (n:=n+1) r<|DO R) λH B b K=>?_;have C:r.1=f:=C;exact cx C<|(EP _ _ _ _ H B b K<|p xs d h)
theorem QBa: ∀k xs hs z hs',OH (aU n) k xs hs z hs'-> ∃nm f,(D w X<|n+1).hm k=aA (nm,f)/\qy (D w X<|n+1) f xs hs z hs':=by
 intro k xs hs z hs' h;induction h with
 |add e h=>exact sb e<|(fA _ _ rfl (XJ h))
 |del e h=>exact sb e<|(fA _ _ rfl (X5 h))
theorem QCC: ∀k xs hs z,OR (aU n) k xs hs z-> ∃nm f,(D w X<|n+1).hm k=aA (nm,f)/\rA (D w X<|n+1) f xs hs z:=by
 intro k xs hs z h;induction h with
 |all e h=>exact sb e<|(fA _ _ rfl (WX h))
 |items e _ h=>exact sb e<|(fA _ _ rfl (Oc h))
theorem Tj (x:kM X):kn (D w X<|n+1) where
 RN:=λR s z h=>by
  induction (h) with
  |items e H h=>exact (fA _ _ rfl (XN x h H))
  |all e h=>exact nomatch e
theorem GL (F:uB.lookup f=aA (Cow,cf)) (A:Oe cf Cow cN=aB) (m:(cf.scope.kind,cf.scope.isCoroutine,cf.scope.isGenerator)=(.function,aE,aE)) (Q: ∀j,oi=aA j->j∈cN)
 (H:(jE (cw<|Cow.sub cf.scope.names aE aB hbi) cf.ps is && j7 ci (Cow.sub cf.scope.names aE aB hbi) b cf.body)=aB) (e:vy (aU n) f is cN oi (b.map SW.w) xs l d L):yh (D w X<|n+1) f xs l d L:=
 r_ rfl (by unfold cu;erw[F];rfl) vr (Ym A m Q) ⟨mr .nil (λx xs i is h g=>.cons (fy h) g) (aD H).1,ll oj (aD H).2,rfl⟩ (λC h=>by
  refine aS h λr e1 e2=>?_;obtain rfl:=bM F e1
  exact e2) e
theorem QEL: ∀f xs l z L,OL (aU n) f xs l z L->yh (D w X<|n+1) f xs l z L:=by
 intro f xs l z L h;induction h with
 |a e h=>subst e;exact GL (hbi:=QCE) rfl (by lia) (by lia) (λj e=>by exact ay e) (by lia) h
 |b e h=>subst e;exact GL (hbi:=Zh) rfl (by lia) (by lia) (λj e=>by cases e;decide) (by lia) h
 |c e h=>subst e;exact GL (hbi:=YW) rfl (by lia) (by lia) (λj e=>by exact ay e) (by lia) h
end
theorem Jh (M:kM X) (F: ∀f xs d,(D w X n).o.F f xs d-> ∃nm a o fd,(D w X n).fns[f]?=aA nm/\(D w X n).mg nm=aA (.ref a)/\(D w X n).G.get? a=aA o/\o.data=.func fd/\oB (D w X n) a xs d)
 (H: ∀k xs hs z hs',(D w X n).o.H k xs hs z hs'-> ∃nm v,(D w X n).hm k=aA (nm,v)/\qy (D w X n) v xs hs z hs') (R: ∀k xs hs z,(D w X n).o.R k xs hs z-> ∃nm v,(D w X n).hm k=aA (nm,v)/\rA (D w X n) v xs hs z) (L: ∀f xs l z Z,(D w X n).o.L f xs l z Z->yh (D w X n) f xs l z Z):dA (D w X n) where
 gl:=me
 Lz:=xZ (X:=X)
 F:=F
 gi:=d_
 gs:=λx i h=>by clear F;induction n<;>contradiction
 JZ:=QEC
 vM:=YR
 zQ:=Xp
 Lm:=QDq
 H:=H
 R:=R
 J3:=Xh
 L:=L
 conv:=λb=>(ax 228 rfl (λW C {A s Y x a t Q E} R U B I k=>Ly C (by have:=R.2.1;refine (?_);exact aQ this) B k))
 b1:=b1F
 b3:=F_ M
 Pb:=UQ
 PV:=λ{nm v} e {A s Y x a u Q E} _ B I h=>Vg e B I h
 new:=λ{A s Y a vs m xs Q E} R t B g p K r j k=>UL R.1 (by have:=R.2.1;exact aQ this) (by have:=R.2.2;refine (?_);exact aQ this) B g p K r j k
 F8:=Sk
 Mh:=(p9 46 (ob 46 w.params) (sd w.params) ((jX (w:=w) (X:=X) "compute_powers").trans<|by lia) (gg<|by lia) (by lia) λk h0 P {A s N c t3 Q E} R t B q=>ZD P R.1 (by have:=R.2.1;exact aQ this) B q)
theorem RL (x:kM X): ∀n,dA (D w X n)/\kn (D w X n):=by
 intro O;induction O with
 |zero=>exact ⟨Jh x (λO O O h=>h.elim) (λO O O O O h=>h.elim) (λO O O O h=>h.elim) λO O O O O h=>h.elim,⟨λxs hs zs h=>h.elim⟩⟩
 |succ n i=>
  exact by
   have i:=i
   haveI:=i.1
   haveI:=i.2
   exact ⟨Jh x Rc QBa QCC QEL,Tj x⟩
end B01
namespace B01
noncomputable abbrev I8:EW:=.aC 0
noncomputable abbrev oO:EW:=.aC 1
noncomputable abbrev cU:EW:=.aC 201
noncomputable abbrev QGv:EW:=.aC 200
noncomputable abbrev QHB:EW:=.aC 202
noncomputable abbrev GA:EW:=.aC 3
noncomputable abbrev Af:EW:=.aC 2
noncomputable abbrev wv4:EW:=.aC 4
noncomputable abbrev FG:EW:=.aC 5
noncomputable abbrev wv6:EW:=.aC 6
noncomputable abbrev wv7:EW:=.aC 7
noncomputable abbrev wv9:EW:=.aC 9
noncomputable abbrev wv8:EW:=.aC 8
noncomputable abbrev Vd:EW:=.aC 10
noncomputable abbrev QGx:EW:=.aC 12
noncomputable abbrev QGy:EW:=.aC 17
noncomputable abbrev QGu:EW:=.aC 18
noncomputable abbrev QHH:EW:=.aC 20
noncomputable abbrev QGw:EW:=.aC 14
noncomputable abbrev QGt:EW:=.aC 15
noncomputable abbrev kQ:EW:=.aC 401
noncomputable abbrev xe:cS:=.one 6
noncomputable abbrev eE:cS:=.one 201
noncomputable abbrev To:cS:=.one 5
noncomputable abbrev QHE:cS:=.one 17
noncomputable abbrev tn3:cS:=.one 3
noncomputable abbrev pY:cS:=.one 401
noncomputable abbrev tn4:cS:=.one 4
noncomputable abbrev QHA:cS:=.one 12
end B01
noncomputable abbrev hi (x:Int):Hn:=.d<|.int x
noncomputable abbrev ht (x:aG):Hn:=.d<|.str x
noncomputable abbrev hl (x:List aK):Hn:=.d<|.list x
theorem tt:aB=true:=rfl
theorem ff:aE=false:=rfl
theorem dt {p:Prop} {d:Decidable p} (h:p):decide p=true:=QHh h
theorem df {p:Prop} {d:Decidable p} (h: ¬ p):decide p=false:=decide_eq_false h
noncomputable def vs:Nat->List Int->Ls
 |_,[]=>[]
 |i,a::as=>(i,.val<|.int a)::vs (i+1) as
theorem yF (b:List SW) (hs:Hs) (o:bj) (f:Nat) (j c:List Nat) (t:Option Nat) (xs:List aK) (l R:Ls) (d:aK) (L:Ls) (e:xs.length=j.length) (h:tG f c t l=R) (a:Dg d=aB):kA (jH j (xs.map .val) R) λi=>sX (b.map SW.x) o hs i λv W O=>iW v d->BO l W t L->vy o f j c t (b.map SW.w) xs l d L:=lq<|(oA<|oT b).r (λq=>⟨e,h▸q⟩) λO O O q g b=>q ⟨g,a,b⟩
theorem lg (c:TW) (b:List SW) (n:Nat) (o:bj) (hs:Hs) (L:Ls) (K:Fl->Ls->Prop):kA L λU=>c.x o hs U λz l hs=>uD z hs (λhs=>sX (b.map SW.x) o hs l λf A O=>Al f (wW c.w (b.map SW.w) o n A K) (λv=>K (.ret v) A)->wW c.w (b.map SW.w) o (n+1) L K) λO=>K .next l->wW c.w (b.map SW.w) o (n+1) L K:=lq<|c.ok.r id λO O O q=>vN q (λO q=>(oA<|oT b).r q λO O O q=>q) λO q=>q
theorem fq (t:cS) (b:List SW) (o:bj) (hs:Hs) (x:aK) (xs:List aK) (L:Ls) (K:Fl->Ls->Prop):kA L λU=>CG t x U λl=>sX (b.map SW.x) o hs l λf A O=>Al f (fW t (b.map SW.w) o xs A K) (λv=>K (.ret v) A)->fW t (b.map SW.w) o (x::xs) L K:=lq<|Dm id λO q=>(oA<|oT b).r q λO O O q=>q
theorem fL (e:EW) (t:cS) (cs:List TW) (o:bj) (hs:Hs) (l:Ls) (x:aK) (xs:List aK) (K:List aK->Prop):kA l λU=>CG t x U λL=>aX (cs.map TW.x) o hs L λz A hs=>aL A=aL L->uD z hs (λhs=>e.x o hs L λv A O=>aL A=aL L->bc (jz v) (λy=>cW e.w t (cs.map TW.w) o l xs (λys=>K<|y::ys)->cW e.w t (cs.map TW.w) o l (x::xs) K) True) λO=>cW e.w t (cs.map TW.w) o l xs K->cW e.w t (cs.map TW.w) o l (x::xs) K:=lq<|Dm id λL q=>(U8<|JS cs).r q λO O O q h=>vN (λr=>q ⟨h,r⟩) (λO q=>e.ok.r q λO O O q h=>cG (λr=>q ⟨h,r⟩) λO q=>q) λO q=>q
noncomputable def CE (e:E) (t:cS) (cs:List T) (o:bj) (l:Ls) (x:aK) (r:Option aK):Prop:= ∀R K,(match r with|some y=>cW e t cs o l R λY=>K (y::Y)|none=>cW e t cs o l R K)->cW e t cs o l (x::R) K
theorem VZ {cs:List T}: ∀{xs:List aK},(∀x∈xs,CE e t cs o l x<|f x)-> ∀K,K (xs.filterMap f)->cW e t cs o l xs K:=by
 intro xs;induction xs with
 |nil=>exact λO K h=>h
 |cons x xs i=>
  exact λg K h=>by
   refine g x (.head _) xs K ?_;have i:=λK=>i (λy Y=>g y<|.tail _ Y) K;induction q:f x with
   |none=>exact i _ (by simp! only[nP,q] at h;exact h)
   |some y=>exact i _ (by simp! only[nP,q] at h;exact h)
theorem BQ {cs:List T} {α:Type} {g:α->aK} {f:α->aK}: ∀{xs:List α},(∀x∈xs,CE e t cs o l (g x)<|aA<|f x)-> ∀K,K (xs.map f)->cW e t cs o l (xs.map g) K:=by
 intro xs;induction xs with
 |nil=>exact λO K h=>h
 |cons x xs i=>exact λq K h=>q x (.head _) _ K<|i (λy Y=>q y<|.tail _ Y) _ h
theorem fw (k:Nat):(0:Int)<2^k:=kbt_pos k
theorem YH (u s r:Nat) (h:r<2^s):(2^s*u+r) &&& (2^s*u)=2^s*u:=by
 apply QFo;intro j;simp only[QFp,Nat.testBit_two_pow_mul_add _ h,QFq];by_cases q:j<s
 ·simp[q,H5 q]
 ·simp[q,jN q]
theorem Y0 (u s r:Nat) (h:r<2^s):(2^s*u) &&& r=0:=by
 apply QFo;intro j;simp only[QFp,QFq,Nat.zero_testBit];by_cases q:j<s
 ·simp[H5 q]
 ·simp only[Nat.testBit_lt_two_pow<|mJ h<|QFr (by decide)<|jN q]
  simp
theorem Nm (a b:Nat):jM (a:Int) (b:Int)=((a &&& b:Nat)):=by rfl
theorem Wv (x y:Int):uS x y=x+y - jM x y:=by have h:=bitXor_and x y;unfold Cp at h;exact u6 h
theorem I4 (hu:0<=u) (hr:0<=r) (h:r<2^s):uS (u*2^s) r=u*2^s+r:=by
 refine aV (IC hu) λa e1'=>sb e1'<|aV (Int.eq_ofNat_of_zero_le hr) λb e1'=>?_
 clear hr;subst e1';rw[Wv];simp only[(by push_cast;exact jr _ _:((a:Int)*2^s)=((2^s*a:Nat))),Nm,Y0 a s b (by exact_mod_cast h:b<2^s)];rfl
theorem QDw (M:0<=x):Cp x (x.fdiv (2^s)*2^s)=x % 2^s:=by
 refine aV (IC M) λa e=>?_;clear M;subst e;simp only[Qp _<|bw<|fw s,bitXor_and];have n:=(QFs a<|2^s).symm
 have p:a &&& (2^s*(a / 2^s))=2^s*(a / 2^s):=by
  conv=>lhs;lhs;rw[n]
  exact YH _ _ _<|dw _<|Nat.two_pow_pos s
 simp only[(by push_cast;exact jr _ _:((a:Int) / 2^s*2^s)=((2^s*(a / 2^s):Nat))),Nm,p];simp only[(by push_cast;rfl:((a:Int) % 2^s)=((a % 2^s:Nat)))];exact uX (bE<|oL<|nL n)<|bE<|oL<|nR n
theorem oo:ib x<=m↔x.natAbs<2^m:=intBits_le_iff
theorem lH (h:0<=x):ib x<=m↔x<2^m:=by
 rw[oo];refine aV (IC h) λa e=>sb e ?_;constructor
 ·intro q
  have:=q
  exact_mod_cast this
 ·intro q;have:a<2^m:=by exact_mod_cast q
  exact this
theorem Mj (h:2^m<=x) (H:x<2^(m+1)):ib x=m+1:=by
 have b:=kD (bw<|fw m) h;apply jk
 ·exact (lH b).mpr H
 ·refine cp (QZ m<|ib x) (λq=>?_) λq=>?_
  ·exact q
  ·exact QHZ ((lH b).mp q)<|jL.mpr h
theorem QCH (h:0<=x) (e:ib x=m+1):2^m<=x:=by
 refine cp (Qq x<|2^m) (λq=>?_) λq=>?_
 ·have:=(lH h).mpr q
  exact (cY (nR e) this)
 ·exact q
theorem MO:ib 0=0:=rfl
theorem CD (h:0<x): ∃m,ib x=m+1:=by
 induction e:ib x with
 |zero=>have:=(lH<|bw h).mp<|qm e;simp at this;exact fh h this
 |succ m=>exact ⟨m,rfl⟩
theorem oV {m:Nat} (H:0<=x) (h:x<2^m):(ib x:Int)<=m:=by exact_mod_cast (lH H).mpr h
theorem iB (a:Int) (h:0<b):a.fdiv b=a / b:=Qp _<|bw h
theorem mi (a:Int) (h:0<b):a.fmod b=a % b:=Int.fmod_eq_emod_of_nonneg _<|bw h
theorem m6 (m n:Nat):(2:Int)^(m+n)=2^m*2^n:=Int.pow_add ..
theorem rP (m:Nat):(2:Int)^(m+1)=2*2^m:=(Int.pow_succ ..).trans<|jr ..
theorem wU {a b q r:Int} (hb:0<b) (e:a=q*b+r) (H:0<=r) (h:r<b):a / b=q/\a % b=r:=kbt_unique hb (by simp only[e,jr,xK]) H h
theorem T7 (n:0<N) (B:N<=2*b1) (i:0<=b2) (H:b2<N) (M:0<=q) (Q:q<N) (C:0<=r) (l:0<=a3) (hb:b=b1*N+b2): -(2*b)<=r*N+a3 - q*b2:=by have h:=Hm (bw Q) (bw H) i<|bw n;have R:=kG C<|bw n;have m:=mV B<|bw n;simp only[xM] at m;exact (bG (ni (ni (ni (ni R l) h)<|mI 2<|iR hb) m)<|mI 2 i)
namespace B01
section
variable {a12 a3 b b1 b2 n A:Int} {K:Fl->Ls->Prop}
theorem UH (hb:0<b) (h:K .next (vs 0 [a12,a3,b,b1,b2,n,A / b,A % b])) (k:Nat): ∀{q:Int}, -(k*b)<=A - q*b->A - q*b<b->wW tR.w (uH.map SW.w) o (k+1) (vs 0 [a12,a3,b,b1,b2,n,q,A - q*b]) K:=by
 induction k with
 |zero=>
  intro q u i;have c: ¬ A - q*b<0:=λK=>fh K u
  have H:=(wU (a:=A) (q:=q) hb (by simp+arith) (jL.mp c) i);have e1:=H.1;have e2:=H.2;simp only[e1,e2] at h;exact lg tR uH 0 o [.b aE] (vs 0 [a12,a3,b,b1,b2,n,q,A - q*b]) K (df c) h
 |succ k d=>
  intro q u i;by_cases c:A - q*b<0
  ·have e:A - (q - 1)*b=A - q*b+b:=by rw[Qr];simp+arith
   have e2:((k+1:Nat))*b=k*b+b:=by simp only[Int.natCast_succ,qu,gq]
   have:=d (q:=q - 1) (by grind_order) (by rw[Qr,gq];exact bE c);rw[e] at this;exact lg tR uH (k+1) o [.b aB] (vs 0 [a12,a3,b,b1,b2,n,q,A - q*b]) K (dt c) this
  ·have H:=(wU (a:=A) (q:=q) hb (by simp+arith) (jL.mp c) i)
   have e1:=H.1;have e2:=H.2;simp only[e1,e2] at h;exact lg tR uH (k+1) o [.b aE] (vs 0 [a12,a3,b,b1,b2,n,q,A - q*b]) K (df c) h
theorem d3 (hb:0<b) (r:R=A - q*b) (u: -(2*b)<=R) (H:R<b) (K:Fl->Ls->Prop) (h:K .next (vs 0 [a12,a3,b,b1,b2,n,A / b,A % b])): ∃m,wW tR.w (uH.map SW.w) o m (vs 0 [a12,a3,b,b1,b2,n,q,R]) K:=⟨3,by rw[r] at u H⊢;exact UH hb h 2 u H⟩
end
theorem Jy (L:Nat) {n:Nat} (hn:n<=40000000)
 (hd:a12<b1*2^n->(aU L).F 3 [.int a12,.int b1,.int n] (.tuple [.int<|a12 / b1,.int<|a12 % b1]))
 (hb:b=b1*2^n+b2) (v:2^n<=2*b1) (p:b1<2^n) (i:0<=b2) (H:b2<2^n) (W:0<=a3) (z:a3<2^n) (A:0<=a12) (a:a12<b):
 (aU<|L+1).F 4 [.int a12,.int a3,.int b,.int b1,.int b2,.int n] (.tuple [.int<|(a12*2^n+a3) / b,.int<|(a12*2^n+a3) % b]):=by
 have R:=fw n;have B:0<b1:=(zU.mp λy0=>(fh (ni R v)<|mI 2 y0))
 have j:0<b:=by have:=lU B R;exact o9 ‹_› ‹_›
 have N:(0:Int)<=n:=dP n;have l1:(ib b1:Int)<=n:=oV (bw B) p;have l2:(ib b2:Int)<=n:=oV i H;have k1:(ib b1:Int)+n<=134217728:=bG (ni (oL hn)<|oL hn) l1
 have tl: ∀{q r:Int},0<=q->q<2^n->0<=r->r<2^(n+1)->r*2^n+a3 - q*b2=a12*2^n+a3 - q*b->r*2^n+a3 - q*b2<b->(ib r:Int)+n<=134217728/\ib q+ib b2<=134217728/\
  ∀K,K .next (vs 0 [a12,a3,b,b1,b2,n,(a12*2^n+a3) / b,(a12*2^n+a3) % b])-> ∃m,wW tR.w (uH.map SW.w) (aU L) m (vs 0 [a12,a3,b,b1,b2,n,q,uS (r*2^n) a3 - q*b2]) K:=λ{q r} u Y C s e l=>by
  have l3:(ib q:Int)<=n:=oV u Y;have l4:(ib r:Int)<=(n+1):=oV C s;refine ⟨by exact bG (ni (oL hn)<|oL hn) l4,by exact (oM<|bG (ni l3 l2)<|mI 2<|oL hn),λK h=>?_⟩;exact sb (I4 C W z)<|d3 j e (T7 R v i H u Y C W hb) l K h
 refine da ?_ rfl;by_cases c:a12.fdiv (2^n)=b1
 ·have g:=c
  rw[iB _ R] at g;have c1:b1*2^n<=a12:=by erw[<-g];exact Int.ediv_mul_le _<|gE R
  have e:(a12 - b1*2^n+b1)*2^n+a3 - (1*2^n - 1)*b2=a12*2^n+a3 - (1*2^n - 1)*b:=by grind
  refine eN (tl (bE R) (by simp+arith) (by (clear v;exact bG B c1)) (by rw[rP];exact bG (ni (ni (iL hb) p) H) a) e (by
   erw[e];have:(a12+1)*2^n<=b*2^n:=mV (by assumption) (bw R)
   grind)) λP t t3=>?_
  exact d5 b_div3n2n 6 [.b aB,.f .next (vs 0 [a12,a3,b,b1,b2,n,(a12*2^n+a3) / b,(a12*2^n+a3) % b])] (aU L) [.int a12,.int a3,.int b,.int b1,.int b2,.int n] _ rfl N (QHc.mpr c) N (bE (oL hn):(1:Int)+n<=_) N k1 N P t t3 .ret
 ·have c1:a12<b1*2^n:=zU.mp λh=>c (by erw[iB _ R];exact (wU (r:=a12 - b1*2^n) R (by simp+arith) (bE h)<|bG (ni (iL hb) H) a).1)
  have Z:=nV a12 B;have M:=mX a12<|gE B;have Q:0<=a12 / b1:=ur A<|bw B;have o:a12 / b1<2^n:=sZ B (by rw[jr];exact c1);have U:a12=a12 / b1*b1+a12 % b1:=by have:=pL a12 b1;rw[jr] at this;exact this.symm
  refine eN (tl Q o M (by rw[rP];exact bG (ni (ni p p) B) Z) (by grind) (by
   have x:(a12 % b1+1)*2^n<=b1*2^n:=mV Z<|bw R;simp only[qu,gq] at x;have h4:0<=a12 / b1*b2:=kG Q i
   exact bG (ni (ni (ni (iR hb) i) z) x) h4)) λP t t3=>?_
  exact d5 b_div3n2n 6 [.b aE,.d<|.tuple [.int<|a12 / b1,.int<|a12 % b1],.f .next (vs 0 [a12,a3,b,b1,b2,n,(a12*2^n+a3) / b,(a12*2^n+a3) % b])] (aU L) [.int a12,.int a3,.int b,.int b1,.int b2,.int n] _ rfl N (beq_eq_false_iff_ne.mpr c) (hd c1) N P t t3 .ret
end B01
theorem WJ {x:Int} {m:Nat} (H:0<=x) (h:(ib x:Int)<=m):x<2^m:=(lH H).mp (by exact_mod_cast h)
theorem BF (h:m<=n):(2:Int)^m<=2^n:=by refine aV (Nat.exists_eq_add_of_le h) λk e=>sb e ?_;simp only[m6];have:(2:Int)^m*1<=2^m*2^k:=Hg (fw k)<|bw<|fw m;rwa[ug] at this
theorem LK:ib 1=1:=rfl
theorem bT {x:Int} (h:x=1):(x !=0)=true:=h▸rfl
theorem bF {x:Int} (h:x=0):(x !=0)=false:=by erw[h];rfl
namespace B01
theorem Fi {a b:Int} (h:(ib a:Int)<=ib b+4000):sC a b=false:=by dsimp only[sC];simp only[Bool.and_eq_false_imp,decide_eq_true_eq,decide_eq_false_iff_not];intro _;unfold ib Builtin.Int.intBits at h;by_cases A:a=0<;>by_cases B:b=0<;>simp[A,B] at h⊢ <;>lia -abstractProof
section
variable {a b n H q1 r1 q2 r2:Int}
theorem LJ (hb:0<b) (hn:(ib a:Int) - n<=4000) (p:sC a b=aE):l6 (aU L) 3 tM [.int a,.int b,.int n] (.tuple [.int<|a / b,.int<|a % b]):=by simp only[<-iB a hb,<-mi a hb];exact d5 tM 3 [hi<|ib a,.i 4000,.b aB,.d<|.tuple [.int<|a.fdiv b,.int<|a.fmod b]] (aU L) [.int a,.int b,.int n] _ rfl .bits (oG L ⟨rfl,rfl⟩) (dt hn) (.divmod (gE hb) p) .ret
theorem QBc (e:n.fdiv (2^bN 1)=H) (A:jM n 1=0) (c: ¬ (ib a:Int) - n<=4000) (hn:0<=n) (h:0<=H) (hs:ib 1+H<=134217728) (q:(ib q1:Int)+H<=134217728)
 (W:(aU L).F 4 [.int<|a.fdiv<|2^n.toNat,.int<|jM (a.fdiv<|2^H.toNat)<|1*2^H.toNat - 1,.int b,.int<|b.fdiv<|2^H.toNat,.int<|jM b<|1*2^H.toNat - 1,.int H] (.tuple [.int q1,.int r1]))
 (K:(aU L).F 4 [.int r1,.int<|jM a<|1*2^H.toNat - 1,.int b,.int<|b.fdiv<|2^H.toNat,.int<|jM b<|1*2^H.toNat - 1,.int H] (.tuple [.int q2,.int r2])):
 l6 (aU L) 3 tM [.int a,.int b,.int n] (.tuple [.int<|uS (q1*2^H.toNat) q2,.int r2]):=by
 subst e;exact d5 tM 3 [hi<|ib a,.i 4000,.b aE,.b aE,.d<|.tuple [.int q1,.int r1],.d<|.tuple [.int q2,.int r2],.b aE] (aU L) [.int a,.int b,.int n] _ rfl .bits (oG L ⟨rfl,rfl⟩) (df c) (bF A) (by decide) h hs h hn h W K (bF A) h q .ret
theorem QDp (e:(n+1).fdiv (2^bN 1)=H) (A:jM n 1=1) (c: ¬ (ib a:Int) - n<=4000) (hn:0<=n+1) (h:0<=H) (hs:ib 1+H<=134217728) (q:(ib q1:Int)+H<=134217728) (s:(ib a:Int)+1<=134217728) (hb:(ib b:Int)+1<=134217728)
 (W:(aU L).F 4 [.int<|(a*2).fdiv<|2^(n+1).toNat,.int<|jM ((a*2).fdiv<|2^H.toNat)<|1*2^H.toNat - 1,.int<|b*2,.int<|(b*2).fdiv<|2^H.toNat,.int<|jM (b*2)<|1*2^H.toNat - 1,.int H] (.tuple [.int q1,.int r1]))
 (K:(aU L).F 4 [.int r1,.int<|jM (a*2)<|1*2^H.toNat - 1,.int<|b*2,.int<|(b*2).fdiv<|2^H.toNat,.int<|jM (b*2)<|1*2^H.toNat - 1,.int H] (.tuple [.int q2,.int r2])):
 l6 (aU L) 3 tM [.int a,.int b,.int n] (.tuple [.int<|uS (q1*2^H.toNat) q2,.int<|r2.fdiv 2]):=by
 subst e;exact d5 tM 3 [hi<|ib a,.i 4000,.b aE,.b aB,.d<|.tuple [.int q1,.int r1],.d<|.tuple [.int q2,.int r2],.b aB] (aU L) [.int a,.int b,.int n] _ rfl .bits (oG L ⟨rfl,rfl⟩) (df c) (bT A) (by decide) s (by decide) hb (by decide) h hs h hn h W K (bT A) (by decide) h q .ret
end
theorem T2 {a b H:Int} (hb:0<b) (h:0<H) (A:a<b*(H*H)) (s:0<=a):a / H / b*H+(a / H % b*H+a % H) / b=a / b/\(a / H % b*H+a % H) % b=a % b/\0<=a / H / b/\a / H / b<H/\0<=(a / H % b*H+a % H) / b/\(a / H % b*H+a % H) / b<H:=by
 have r:=mX (a / H)<|gE hb;have r1:=nV (a / H) hb;have L:=mX a<|gE h;have l:=nV a h;have e:a / H % b*H+a % H+a / H / b*H*b=a:=by have z:=pL (a / H) b;have Z:=pL a H;exact sb (by grind:a / H % b*H+a % H+a / H / b*H*b=H*(b*(a / H / b)+a / H % b)+a % H)<|sb z<|sb Z rfl
 have p:a / H % b*H+a % H<H*b:=by have:=mV (r1:a / H % b+1<=b)<|bw h;rw[qu,gq,jr b] at this;exact pP (QFt l _) this
 refine ⟨?_,?_,ur (ur s<|bw h)<|bw hb,sZ hb<|sZ h ?_,ur (qw (kG r<|bw h) L)<|bw hb,sZ hb p⟩
 ·have:=Int.add_mul_ediv_right (a / H % b*H+a % H) (a / H / b*H) (gE hb)
  rw[e] at this;rw[this,xK]
 ·have:=Int.add_mul_emod_self_right (a / H % b*H+a % H) (a / H / b*H) b
  rw[e] at this;exact this.symm
 ·rw[jr H b,xM]
  exact A
theorem upper {b:Int} (o:1<=h) (B:2^(2*h)<=2*b) (dN:b<2^(2*h)):0<b/\2^h<=2*(b / 2^h)/\b / 2^h<2^h:=by
 have H:=fw h;rw[show (2:Int)^(2*h)=2^h*2^h by rw[Pd,m6]] at B dN;refine ⟨by have:=lU H H;exact bG B dN,?_,sZ H dN⟩;clear dN;refine aV (DP o) λg m=>?_;subst m;have e:=rP g;have:2^g<=b / 2^(g+1):=by refine (Int.le_ediv_iff_mul_le H).mpr ?_;rw[e,xM] at B;exact sb e<|Int.le_of_mul_le_mul_left B (by decide)
 exact sb e<|Int.mul_le_mul_of_nonneg_left (e▸this) (by decide)
theorem Mv (L:Nat) {a b:Int} {h:Nat} (d2: ∀x,0<=x->x<b / 2^h*2^h->(aU<|L+1).F 3 [.int x,.int<|b / 2^h,.int h] (.tuple [.int<|x / (b / 2^h),.int<|x % (b / 2^h)])) (Q:0<=a) (hn:h<=40000000) (o:1<=h) (v:2^(2*h)<=2*b) (dN:b<2^(2*h)) (A:a<b*2^(2*h)): ∃q1 r1 q2 r2,
 (aU<|L+1+1).F 4 [.int<|a.fdiv<|2^(2*h),.int<|jM (a.fdiv<|2^h)<|1*2^h - 1,.int b,.int<|b.fdiv<|2^h,.int<|jM b<|1*2^h - 1,.int h] (.tuple [.int q1,.int r1])/\
 (aU<|L+1+1).F 4 [.int r1,.int<|jM a<|1*2^h - 1,.int b,.int<|b.fdiv<|2^h,.int<|jM b<|1*2^h - 1,.int h] (.tuple [.int q2,.int r2])/\
 (ib q1:Int)<=h/\uS (q1*2^h) q2=a / b/\r2=a % b:=by
 refine eN (upper o v dN) λB u U=>?_;have H:=fw h;rw[show (2:Int)^(2*h)=2^h*2^h by rw[Pd,m6]] at A⊢;rw[iB _<|lU H H,iB _ H,iB _ H,gq,Qt,Qt,Qt];have d:=λx:Int=>show x=x / 2^h*2^h+x % 2^h by rw[jr];exact (pL x<|2^h).symm
 have m:=λx=>mX x<|gE H;have M:=λx=>nV x H;refine EL (T2 B H A Q) λi l s f s5 q=>?_;have N:=ur Q<|bw<|lU H H;have K:=Jy (L+1) hn (d2 _ N) (d b) u U (m b) (M b) (m<|a / 2^h) (M<|a / 2^h) N<|sZ (lU H H) A;rw[show a / (2^h*2^h)*2^h+a / 2^h % 2^h=a / 2^h by erw[<-QFu (bw H)];exact (d<|a / 2^h).symm] at K;have r:=mX (a / 2^h)<|gE B;have j:=Jy (L+1) hn (d2 _ r) (d b) u U (m b) (M b) (m a) (M a) r<|nV (a / 2^h) B;exact ⟨_,_,_,_,K,j,oV s f,by (erw[I4 s s5 q];exact sb i rfl),l⟩
theorem YF: ∀(j L:Nat),2*j<=L-> ∀(a b:Int) (n:Nat),0<=a->1<=n->2^n<=2*b->b<2^n->a<b*2^n->n<=4000*2^j->n<=30000000->
 (aU<|L+1).F 3 [.int a,.int b,.int n] (.tuple [.int<|a / b,.int<|a % b]):=by
 intro j;induction j with
 |zero=>
  intro L z a b n s hn B dN A Z N;have d:=fw n;have R:0<b:=(zU.mp λY=>(fh (ni d B)<|mI 2 Y))
  have l:a<2^(n+n):=by rw[m6];exact Ib A<|QFv dN d
  have q:=oV s l;have i:ib b=n:=by refine aV (DP hn) λm g=>?_;clear s hn A Z N d R l q;subst g;refine Mj ?_ dN;rw[rP] at B;exact (jL.mp λY=>(fh (ni Y B) Y))
  refine da ?_ rfl;exact LJ R (bG q<|oL Z)<|Fi<|bG (ni q<|oL Z)<|oL<|nR i
 |succ j ih=>
  intro L z a b n s hn B dN A Z N;have d:=fw n;have R:0<b:=(zU.mp λY=>(fh (ni d B)<|mI 2 Y))
  have l:a<2^(n+n):=by rw[m6];exact Ib A<|QFv dN d
  have q:=oV s l;have f:ib b=n:=by refine aV (DP hn) λm g=>?_;clear s hn A Z N d R l q;subst g;refine Mj ?_ dN;rw[rP] at B;exact (jL.mp λY=>(fh (ni Y B) Y))
  refine da ?_ rfl;by_cases c:(ib a:Int) - n<=4000
  ·exact LJ R c<|Fi<|bG c<|oL<|nR f
  ·have half:=λ(a' Q:Int) (h:Nat) (q:0<=a') (i:1<=h) (U:2^(2*h)<=2*Q) (o:Q<2^(2*h)) (h5:a'<Q*2^(2*h)) (h6:h<=4000*2^j) (h7:h<=30000000)=>eN (upper i U o) λO u0 u=>(Mv (L - 2) (λx hx r=>ih (L - 2) ((bD z<|nR<|sE ((aQ z):2<=L))) x (Q / 2^h) h hx i u0 u r h6 h7) q (az ‹_› (gA _ _)) i U o h5)
   rw[show L - 2+1+1=L by exact (sE ((aQ z):2<=L))] at half;have p:(2:Nat)^(j+1)=2*2^j:=by rw[Qu];exact Ic _ _
   obtain ⟨h,e|e⟩: ∃h,n=2*h\/n=2*h+1:=⟨n / 2,by exact ((Decidable.em _).imp_right λo1=>((uu o1).elim (λu=>(jk (aQ u)<|bD (na (qx (n) 2) u)<|qx (n) 2)) λu=>(jk (aQ<|dG (n) (by decide:0<2)) u)))⟩
   ·subst e
    exact uP (half a b h s ((iH.mp λY=>(cY hn<|gC 2 Y))) B dN A (by (exact (iH.mp λY=>(cY (na (na Y Z)<|gC 4000<|nL p) Y))))<|aQ N) λq1 r1 q2 r2 P t M K W=>cx W<|cx K<|QBc (H:=h) (by refine (?_);erw[iB _<|by decide];simp+arith) (by rw[bitAnd_m1];simp+arith) c (Int.natCast_nonneg _) (Int.natCast_nonneg _) (by erw[LK];exact bG (oL N)<|oZ h) (bG M<|oL N) P t
   ·subst e
    have e2:(2:Int)^(2*(h+1))=2*2^(2*h+1):=by rw[show 2*(h+1)=(2*h+1)+1 by simp+arith,rP]
    have v:=fw<|2*h+1
    refine uP (half (a*2) (b*2) (h+1) (bG s s) (by simp+arith) (by erw[e2];exact bG B B) (by erw[e2];exact bG dN dN) (by
     erw[e2];have:=kG (bw R) (bw v)
     grind) ((iH.mp λY=>(cY (na Z<|gC 4000<|nL p)<|gC 2 Y))) (aQ N)) λq1 r1 q2 r2 P t M K W=>?_;subst W
    have C:a*2 / (b*2)=a / b:=Int.mul_ediv_mul_of_pos_left _ _ (by decide);have e5:(a*2 % (b*2)).fdiv 2=a % b:=by have q:=pL (a*2)<|b*2;have i:=pL a b;rw[C] at q;exact sb (by grind:a*2 % (b*2)=a % b*2)<|sb (iB _<|by decide)<|Int.mul_ediv_cancel _ (by decide)
    rw[C] at K;simp only[<-K,<-e5];exact QDp (H:=(h+1:Nat)) (by refine (?_:(((2*h+1:Nat):Int)+1).fdiv 2=(h+1:Nat));erw[iB _<|by decide];exact ZA h) (by rw[bitAnd_m1];simp+arith) c (dP _) (dP _) (by erw[LK];exact bG (oL N)<|oZ<|h+1) (bG M<|oL N) (bG (ni (oL N)<|oL N) q) (bG (oL N)<|oL<|nL f) P t
end B01
noncomputable def digs (n:Nat):Nat->Int->List Int
 |0,_=>[]
 |k+1,x=>x % 2^n::digs n k (x / 2^n)
theorem BK {k x}:digs n (k+1) x=x % 2^n::digs n k (x / 2^n):=rfl
theorem zI (n:Nat): ∀k x,(digs n k x).length=k:=by
 intro O;induction O with
 |zero=>exact λO=>rfl
 |succ k i=>exact λx=>QHd _<|i _
theorem tT (n k:Nat):(2:Int)^(n*(k+1))=2^n*2^(n*k):=by rw[DQ,uv,m6]
theorem M_ (x:Int) (n k:Nat):x % 2^(n*(k+1)) % 2^n=x % 2^n:=by rw[tT];exact QFw _ ⟨_,rfl⟩
theorem SG (x:Int) (n k:Nat):x % 2^(n*(k+1)) / 2^n=x / 2^n % 2^(n*k):=by
 rw[tT];have N:=fw n;have M:=fw<|n*k;have H:=pL x<|2^n;have h:=pL (x / 2^n)<|2^(n*k);have A:=mX x<|gE N;have z:=nV x N;have B:=mX (x / 2^n)<|gE M;have s:=nV (x / 2^n) M
 have o:x % (2^n*2^(n*k))=x / 2^n % 2^(n*k)*2^n+x % 2^n:=by
  refine (wU (a:=x) (b:=2^n*2^(n*k)) (q:=x / 2^n / 2^(n*k)) (lU N M) (by grind) (qw (kG B<|bw N) A) ?_).2;have:=mV s (bw N)
  grind
 exact sb o<|(wU N rfl A z).1
theorem QAF (n:Nat): ∀a b x,digs n (a+b) x=digs n a (x % 2^(n*a))++digs n b (x / 2^(n*a)):=by
 intro O;induction O with
 |zero=>exact λb x=>by rw[QFx,uk];exact QHd (digs n b) (QFy x).symm
 |succ a i=>exact λb x=>by rw[Nat.succ_add,BK,BK,i b,M_,SG,tT,QFu<|bw<|fw n];rfl
theorem Wc (H:0<=x) (h:x<2^n):digs n 1 x=[x]:=QHd (· ::[])<|QFz H h
theorem BR (H:0<=x) (h:x<2^60):ib x<=60:=(lH H).mpr h
theorem i1:(0:Int)<=1:=by decide
namespace B01
theorem Jb (r1:aL l 1=.val (.int n)) (r2:aL l 2=.own xs) (r:aL l 3=.clo 1):tG 1 [1,2,3] (aA 2) l=[(1,.val<|.int n),(2,.own xs),(3,.clo 1)]:=by
 refine (?_:[(1,ju 1 aE<|aL l 1),(2,ju 1 aB<|aL l 2),(3,ju 1 aE<|aL l 3)]=_);refine sb r1<|sb r2<|sb r ?_
 rfl
section
variable {n x L R M S U W:Int}
noncomputable def rn (n:Int) (xs:List aK) (x L R M S U W:Int):Ls:=(1,.val<|.int n)::(2,.own xs)::(3,.clo 1)::vs 200 [x,L,R,M,S,U,W]
theorem Tu (r1:aL l 1=.val (.int n)) (r2:aL l 2=.own xs) (r:aL l 3=.clo 1) (q:0<=L) (h:L<xs.length) (H:xs.length<2^63):
 (aU<|m+1).L 1 [.int x,.int L,.int<|L+1] l .none (cL l 2<|.own<|xs.set L.toNat<|.int x):=
 .b rfl (yF E5 [.b aB] (aU m) 1 [200,201,202] [1,2,3] (aA 2) [.int x,.int L,.int<|L+1] l _ _ _ rfl (Jb r1 r2 r) rfl (QHe _) q h H .ret (.some r2 rfl))
theorem QAQ (r1:aL l 1=.val (.int n)) (r2:aL l 2=.own xs) (r:aL l 3=.clo 1) (e1: ¬ L+1=R) (v:(L+R).fdiv (2^bN 1)=M) (e:(M - L)*n=S) (Y:x.fdiv (2^S.toNat)=U) (s:Cp x (U*2^S.toNat)=W)
 (t:ib (M - L)+ib n<=134217728) (g:0<=S) (z:(ib U:Int)+S<=134217728) (K:(aU m).L 1 [.int W,.int L,.int M] (rn n xs x L R M S U W) .none (rn n ys x L R M S U W)) (B:(aU m).L 1 [.int U,.int M,.int R] (rn n ys x L R M S U W) .none (rn n zs x L R M S U W)):
 (aU<|m+1).L 1 [.int x,.int L,.int R] l .none (cL l 2<|.own zs):=by
 subst v;subst e;subst Y;subst s;exact .b rfl (yF E5 [.b aE,.c .none<|rn n ys x L R _ _ _ _,.c .none<|rn n zs x L R _ _ _ _] (aU m) 1 [200,201,202] [1,2,3] (aA 2) [.int x,.int L,.int R] l _ _ _ rfl (Jb r1 r2 r) rfl (beq_eq_false_iff_ne.mpr e1) i1 t g g z K B .next (.some r2 rfl))
end
theorem QAY: ∀(k z:Nat),k<=z->1<=k-> ∀(x:Int) (L n:Nat) (xs:List aK) (l:Ls),L+k<=xs.length->xs.length<=256->1<=n->n*k<=30000000->0<=x->x<2^(n*k)->
 aL l 1=.val (.int n)->aL l 2=.own xs->aL l 3=.clo 1->(aU z).L 1 [.int x,.int L,.int (L+k:Nat)] l .none (cL l 2<|.own<|xs.take L++(digs n k x).map .int++xs.drop (L+k)):=by
 intro k;induction k using QGA with
 |ind k i=>
  intro z hl K x L n xs l C d hn N q Q r1 r2 r;refine aV (DP<|az K hl) λm e=>?_;subst e;by_cases c:k=1
  ·clear i K N hl
   subst c;rw[Nat.mul_one] at Q;have:=Tu (m:=m) (x:=x) r1 r2 r (dP L) (mF.mpr ‹_›) (ig ‹_› (by decide));rw[lR,List.set_eq_take_append_cons_drop,if_pos<|Nat.lt_of_succ_le C] at this;rw[Wc q Q,ik];exact this
  ·-- the Mv
   refine iN (by
    refine (jY (k / 2) (k - k / 2) (((uu c).elim (λg=>(bD K g)) λg=>(iH.mp λv=>(cY (na g<|dG (k) (by decide:0<2))<|gC 2 v)))) ((iH.mp λv=>(cY (na (na (na (na K<|nR<|sE ((aQ<|qx (k) 2):k / 2<=k)) v)<|qx (k) 2)<|nR<|sE ((aQ<|qx (k) 2):k / 2<=k)) v))) (by (exact (vY<|sE ((aQ<|qx (k) 2):k / 2<=k)))) ?_)
    exact sb (iB _<|by decide)<|Jn L k: ∃a b,1<=a/\1<=b/\a+b=k/\((L:Int)+((L+k:Nat):Int)).fdiv (2^Int.toNat 1)=((L+a:Nat):Int)) λa b o hb A M=>?_
   have t:n*a+n*b=n*k:=by rw[<-A,QGB]
   have h:=fw<|n*a;have f:(((L+a:Nat):Int) - L)*n=((n*a:Nat):Int):=by rw[QGC,xK,Qv,<-QGD,Ic]
   have u:=ur q<|bw h;have p:=sZ h (by rw[<-m6,uv,t];exact Q);have F:=mX x<|gE h;have B:=nV x h;have g1:ib (((L+a:Nat):Int) - L)+ib (n:Int)<=134217728:=by have h1:=BR (x:=((L+a:Nat):Int) - L) (bE<|oL o)<|bG (ni (ni (ni (oL C)<|oL d)<|oL hb)<|oL<|nL A)<|oZ L;have h2:=BR (dP _)<|bG (oL N)<|oL (gC n K:n*1<=n*k);exact az (iF ‹_› ‹_›) (by decide)
   have g2:=oV u p;generalize Y:xs.take L++(digs n a<|x % 2^(n*a)).map .int++xs.drop (L+a)=ys at*;have W:ys.length=xs.length:=by erw[<-Y];simp[zI];exact (rJ (sE ((bD C<|nL A):L+a<=xs.length))<|fz ((aQ C):L<=xs.length))
   have H:=i a (bD hb<|nL A) m (bD (na hl hb)<|nL A) o (x % 2^(n*a)) L n xs (rn n xs x L (L+k:Nat) (L+a:Nat) (n*a:Nat) (x / 2^(n*a))<|x % 2^(n*a)) (bD C<|nL A) d hn (bD N<|nL t) F B rfl rfl rfl;have j:=i b (bD o<|nL A) m (bD (na hl o)<|nL A) hb (x / 2^(n*a)) (L+a) n ys (rn n ys x L (L+k:Nat) (L+a:Nat) (n*a:Nat) (x / 2^(n*a))<|x % 2^(n*a)) (bD (na C<|nL A)<|nR W) (bD d<|nL W) hn (bD N<|nL t) u p rfl rfl rfl;rw[Y] at H;have R:ys.take (L+a)=xs.take L++(digs n a<|x % 2^(n*a)).map .int:=cx Y<|List.take_left' (by simp[zI];exact (Nat.min_eq_left ((aQ C):L<=xs.length)))
   have P:ys.drop (L+a+b)=xs.drop (L+k):=by
    rw[<-Y,List.drop_append,uw (by simp[zI];exact (aQ<|nL<|fz ((aQ C):L<=xs.length))),sa,QGE]
    congr 1
    simp[zI];exact (rJ (ea A<|sE ((aQ<|nL<|fz ((aQ C):L<=xs.length)):min L xs.length+a<=L+a+b)) (fz ((aQ C):L<=xs.length)).symm)
   rw[R,P,wX,A,ik<|xs.take L,<-gp,<-QAF,A] at j;exact QAQ (S:=(n*a:Nat)) (U:=x / 2^(n*a)) r1 r2 r ((λZ=>((uu c).elim (λg=>(cY K g)) λg=>(fh (oL g)<|iR Z)))) M f (iB _ h) (by have:=QDw (s:=n*a) q;rw[iB _ h] at this;exact this) g1 (dP _) (bG (ni g2<|oL N)<|oL<|nL t) H j
end B01
noncomputable def undig (n:Nat):List Int->Int
 |[]=>0
 |d::ds=>d+2^n*undig n ds
theorem u9:undig n []=0:=rfl
theorem oX {d ds}:undig n (d::ds)=d+2^n*undig n ds:=rfl
theorem Cf (n:Nat): ∀a b,undig n (a++b)=undig n a+2^(n*a.length)*undig n b:=by
 intro O;induction O with
 |nil=>exact λb=>by rw[um,QFx];exact (gq _).symm.trans (zo _).symm
 |cons d a i=>exact λb=>by rw[sV,oX,oX,i b,pQ,tT,Ie,xM,QGF]
theorem QDx (n:Nat): ∀k x,0<=x->x<2^(n*k)->undig n (digs n k x)=x:=by
 intro O;induction O with
 |zero=>exact λx H h=>uX H<|Int.lt_add_one_iff.mp h
 |succ k i=>exact λx H h=>by have N:=fw n;simp only[tT] at h;rw[BK,oX,i (x / 2^n) (ur H<|bw N)<|sZ N (by simp only[jr];exact h)];exact (xK ..).trans<|pL x<|2^n
theorem UP (n:Nat): ∀k x,∀d∈digs n k x,0<=d/\d<2^n:=by
 intro O;induction O with
 |zero=>exact λx d h=>by contradiction
 |succ k i=>
  exact λx d h=>by
   rcases bp.mp h with rfl|h
   ·exact ⟨mX _<|gE<|fw n,nV _<|fw n⟩
   ·exact i _ d h
theorem yD (n:Nat): ∀ds,(∀d∈ds,0<=d/\d<2^n)->0<=undig n ds/\undig n ds<2^(n*ds.length):=by
 intro O;induction O with
 |nil=>exact λO=>⟨uW _,Int.zero_lt_one⟩
 |cons d ds i=>exact λh=>by refine bI (i λx M=>h x<|.tail _ M) λa b=>bI (h d<|.head _) λc e=>?_;have N:=fw n;rw[oX,pQ,tT];have H:=Hg b<|bw N;exact ⟨qw c<|kG (bw N) a,by rw[Ie,ug] at H;exact bG e H⟩
noncomputable def dR (n:Nat) (a:Int):Nat:=(ib a+n - 1) / n
theorem FI {a:Int} (hn:1<=n) (A:0<=a):a<2^(n*dR n a):=by refine (lH A).mp ?_;unfold dR;have:=QFs (ib a+n - 1) n;have:=dw (ib a+n - 1) hn;exact (bD (na (nR<|sE ((aQ this):1<=ib a+n))<|nR ‹n*((ib a+n - 1) / n)+(ib a+n - 1) % n=ib a+n - 1›) this)
theorem Zi (m:Nat):(dV m [cB 0]).flatten=dV m (cB 0):=by
 induction m with
 |zero=>rfl
 |succ m i=>refine sb xN<|sb List.flatten_cons<|sb i<|sb List.replicate_succ ?_;rfl
theorem b0 {a:Int} (h:a≠0):(a !=0)=true:=bne_iff_ne.mpr h
namespace B01
theorem Am (L:Nat) {a:Int} (A:0<=a) (hn:1<=n) (hl:dR n a<=L) (h:dR n a<=256) (hb:n*dR n a<=30000000) (R:n<=30000000):
 (aU<|L+1).F 5 [.int a,.int n] (.list<|(digs n (dR n a) a).map .int):=by
 have N:(0:Int)<n:=mF.mpr ‹_›;have i:ib a<=30000000:=az ((lH A).mpr<|FI hn A) hb;have e1:((ib a:Int)+n - 1).fdiv n=(dR n a:Int):=by erw[iB _ N];simp only[show ((ib a:Int)+n - 1)=((ib a+n - 1:Nat):Int) by exact (uX (bE<|oL<|nR<|sE ((aQ hn):1<=ib a+n))<|bE<|oL<|nL<|sE ((aQ hn):1<=ib a+n))];rfl
 have e2:sC ((ib a:Int)+n - 1) n=false:=Fi (by
  have:=(lH (x:=(ib a:Int)+n - 1) (m:=60)<|bE<|oL hn).mpr<|bG (oL R)<|oL i
  exact bG (oL this)<|oZ<|ib ↑n)
 have Q:decide ((n:Int)=0)=false:=df<|gE N;have B: ∀r,ft r .Mult (.d<|.list [.int 0]) (.d<|.int<|((ib a:Int)+n - 1).fdiv n)<|.list<|dV (dR n a)<|.int 0:=λr=>by erw[e1];have:=ft.mul (r:=r) (v:=.d<|.list [.int 0]) (xs:=[.int 0]) (n:=dR n a) .d (by simp only[lR];refine (?_:1*dR n a<=256);simp only[Nat.one_mul];exact h) (bE<|oL h)<|dP _;rwa[lR,Zi] at this
 have Z:(dV (dR n a)<|cB 0).length=dR n a:=AI;generalize dV (dR n a) (cB 0)=zs at*;refine da ?_ rfl;by_cases c:a=0
 ·clear A hl h hb i e1
  subst c;have z:dR n 0=0:=Qw (by simp only[MO];exact (aQ<|nL<|sE ((oM<|bE N):1<=0+n)));simp only[z] at Z⊢;cases List.eq_nil_of_length_eq_zero Z;exact d5 x8 2 [hi<|ib 0,hl [],.b aE] (aU L) [.int 0,.int n] _ rfl .bits Q e2 (B _) ff .ret
 ·have p:1<=dR n a:=by
   refine aV (CD (x:=a)<|by lia -abstractProof) λm e=>?_;unfold dR;exact sb e<|(Nat.one_le_div_iff hn).mpr (by simp+arith)
  have K:=QAY (dR n a) L hl p a 0 n zs ((0,.val<|.int a)::(1,.val<|.int n)::(2,.own zs)::[(3,.clo 1)]) (aQ<|nR Z) (bD h<|nL Z) hn hb A (FI hn A) rfl rfl rfl;rw[List.take_zero,sa,uk,uw<|qm Z,eZ,<-Z] at K;simp only[<-Z];exact d5 x8 2 [.d<|.int<|ib a,.d<|.list zs,.b aB,.d<|.int zs.length,.c .none<|(0,.val<|.int a)::(1,.val<|.int n)::(2,.own<|(digs n zs.length a).map .int)::[(3,.clo 1)]] (aU L) [.int a,.int n] _ rfl .bits Q e2 (B _) (b0 c) (.yg (.l<|.bor rfl)<|bD h<|nL Z) K .ret
theorem QAz {xs:List aK} (h:L<xs.length):we (L:Int) xs.length=aA L:=by dsimp only[we];simp;exact MA h
theorem Lq {n:Int} (r:aL l 0=.val (.list xs)) (r1:aL l 1=.val (.int n)) (r2:aL l 2=.clo 2):tG 2 [0,1,2] aF l=[(0,.val<|.list xs),(1,.val<|.int n),(2,.clo 2)]:=by
 refine (?_:[(0,ju 2 aE<|aL l 0),(1,ju 2 aE<|aL l 1),(2,ju 2 aE<|aL l 2)]=_);refine sb r<|sb r1<|sb r2 ?_
 rfl
section
variable {n L R M S u w:Int}
noncomputable def rI (n:Int) (xs:List aK) (L R M S:Int):Ls:=(0,.val<|.list xs)::(1,.val<|.int n)::(2,.clo 2)::vs 200 [L,R,M,S]
theorem t_ (r:aL l 0=.val (.list xs)) (r1:aL l 1=.val (.int n)) (r2:aL l 2=.clo 2) (e1: ¬ L+1=R) (e:(L+R).fdiv (2^bN 1)=M) (Z:(M - L)*n=S) (t:ib (M - L)+ib n<=134217728) (z:0<=S) (g:(ib u:Int)+S<=134217728)
 (H:(aU m).L 2 [.int M,.int R] (rI n xs L R M S) (.int u) (rI n xs L R M S)) (K:(aU m).L 2 [.int L,.int M] (rI n xs L R M S) (.int w) (rI n xs L R M S)):(aU<|m+1).L 2 [.int L,.int R] l (.int<|u*2^S.toNat+w) l:=by
 subst e;subst Z;exact .c rfl (yF Dv [.b aE,.c (.int u)<|rI n xs L R _ _,.c (.int w)<|rI n xs L R _ _] (aU m) 2 [200,201] [0,1,2] aF [.int L,.int R] l _ (.int<|u*2^((((L+R).fdiv<|2^bN 1) - L)*n).toNat+w) _ rfl (Lq r r1 r2) rfl (beq_eq_false_iff_ne.mpr e1) i1 t H z g K .ret .none)
theorem QCx {d:Int} (R:aL l 0=.val (.list xs)) (r1:aL l 1=.val (.int n)) (r2:aL l 2=.clo 2) (h: ∀r,cC r (.d<|.list xs) L<|.int d):(aU<|m+1).L 2 [.int L,.int<|L+1] l (.int d) l:=.c rfl (yF Dv [.b aB,hi d] (aU m) 2 [200,201] [0,1,2] aF [.int L,.int<|L+1] l _ (.int d) _ rfl (Lq R r1 r2) rfl (QHe _) (h _) .ret .none)
end
theorem QDO: ∀(k z:Nat),k<=z->1<=k-> ∀(L n:Nat) (ds:List Int) (l:Ls),L+k<=ds.length->ds.length<=256->1<=n->n*k<=30000000->(∀d∈ds,0<=d/\d<2^n)->
 aL l 0=.val (.list<|ds.map .int)->aL l 1=.val (.int n)->aL l 2=.clo 2->(aU z).L 2 [.int L,.int (L+k:Nat)] l (.int<|undig n<|(ds.drop L).take k) l:=by
 intro k;induction k using QGA with
 |ind k i=>
  intro z hl C L n ds l U Q hn N R Z r1 r2;refine aV (DP<|az C hl) λm e=>?_;subst e;by_cases c:k=1
  ·clear i C N hl
   subst c;have K:=U
   have p:undig n ((ds.drop L).take 1)=ds[L]:=by
    refine sb (H8 K)<|(?_:ds[L]+2^n*0=ds[L])
    rw[Qx,QGG]
   exact sb p<|QCx Z r1 r2 λr=>.seq (.l .d) (by rw[dY];exact bE<|oL Q) (QAz (by rw[dY];exact K)) (by (erw[DI];erw[sR K]);rfl)
  ·refine iN (by
    refine (jY (k / 2) (k - k / 2) (((uu c).elim (λu=>(bD C u)) λu=>(iH.mp λY=>(cY (na u<|dG (k) (by decide:0<2))<|gC 2 Y)))) ((iH.mp λY=>(cY (na (na (na (na C<|nR<|sE ((aQ<|qx (k) 2):k / 2<=k)) Y)<|qx (k) 2)<|nR<|sE ((aQ<|qx (k) 2):k / 2<=k)) Y))) (by (exact (vY<|sE ((aQ<|qx (k) 2):k / 2<=k)))) ?_)
    exact sb (iB _<|by decide)<|Jn L k: ∃a b,1<=a/\1<=b/\a+b=k/\((L:Int)+((L+k:Nat):Int)).fdiv (2^Int.toNat 1)=((L+a:Nat):Int)) λa b o hb A M=>?_
   have s:n*a+n*b=n*k:=by rw[<-A,QGB]
   have g:ib (((L+a:Nat):Int) - L)+ib (n:Int)<=134217728:=by have h:=BR (x:=((L+a:Nat):Int) - L) (bE<|oL o)<|bG (ni (ni (ni (oL U)<|oL Q)<|oL hb)<|oL<|nL A)<|oZ L;have t:=BR (dP _)<|bG (oL N)<|oL (gC n C:n*1<=n*k);exact az (iF ‹_› ‹_›) (by decide)
   have v:=yD n ((ds.drop<|L+a).take b) λd hd=>R d<|List.mem_of_mem_drop<|List.mem_of_mem_take hd;rw[(by (erw[DM];erw[IU]);exact (fz ((bD (na (nL A) U)<|nR<|sE ((bD U<|nL A):L+a<=ds.length)):b<=ds.length - (L+a))):((ds.drop<|L+a).take b).length=b)] at v;have g2:=oV v.1 v.2;have H:=i a (bD hb<|nL A) m (bD (na hl hb)<|nL A) o L n ds (rI n (ds.map .int) L (L+k:Nat) (L+a:Nat) (n*a:Nat)) (bD U<|nL A) Q hn (bD N<|nL s) R rfl rfl rfl;have B:=i b (bD o<|nL A) m (bD (na hl o)<|nL A) hb (L+a) n ds (rI n (ds.map .int) L (L+k:Nat) (L+a:Nat) (n*a:Nat)) (bD U<|nL A) Q hn (bD N<|nL s) R rfl rfl rfl;rw[wX,A] at B;have:(ds.drop L).take k=(ds.drop L).take a++(ds.drop<|L+a).take b:=cx A<|sb List.take_add<|sb List.drop_drop rfl
   rw[this,Cf,(by (erw[DM];erw[IU]);exact (fz ((bD (na (nL A) U)<|nR<|sE ((aQ U):L<=ds.length)):a<=ds.length - L)):((ds.drop L).take a).length=a),xK,jr];exact t_ Z r1 r2 ((λW=>((uu c).elim (λu=>(cY C u)) λu=>(fh (oL u)<|iR W)))) M (by rw[QGC,xK,Qv,<-QGD,Ic]:(((L+a:Nat):Int) - L)*n=((n*a:Nat):Int)) g (dP _) (bG (ni g2<|oL N)<|oL<|nL s) B H
theorem BG (L:Nat) {ds:List Int} (hl:ds.length<=L) (h:ds.length<=256) (hn:1<=n) (N:n*ds.length<=30000000) (R: ∀d∈ds,0<=d/\d<2^n):(aU<|L+1).F 6 [.list<|ds.map .int,.int n] (.int<|undig n ds):=by
 refine da ?_ rfl;induction ds with
 |nil=>exact d5 BY 2 [.b aE,.b aE] (aU L) [.list [],.int n] _ rfl (.lst .d<|hJ _) ff .ret
 |cons d ds=>have m:((d::ds).map cB).length=(d::ds).length:=dY ..;have K:=QDO (d::ds).length L hl (H7<|hJ _) 0 n (d::ds) [(0,.val<|.list<|(d::ds).map .int),(1,.val<|.int n),(2,.clo 2)] (by simp+arith) h hn N R rfl rfl rfl;rw[uk,Qy,uY<|bh _,<-m] at K;exact d5 BY 2 [.b aB,.b aB,hi ((d::ds).map cB).length,.c (.int<|undig n<|d::ds) [(0,.val<|.list<|(d::ds).map .int),(1,.val<|.int n),(2,.clo 2)]] (aU L) [.list<|(d::ds).map .int,.int n] _ rfl (.lst .d (by erw[m];exact az ‹_› (gA _ _))) tt (.yg (.l .d) (by erw[m];exact ig ‹_› (by decide))) K .ret
end B01
noncomputable def ldiv (n:Nat) (b:Int):List Int->Int->List Int×Int
 |[],r=>([],r)
 |d::ds,r=>((r*2^n+d) / b::(ldiv n b ds<|(r*2^n+d) % b).1,(ldiv n b ds<|(r*2^n+d) % b).2)
theorem A8 {b:Int} {r}:ldiv n b [] r=([],r):=rfl
theorem zD {b:Int} {d ds r}:ldiv n b (d::ds) r=((r*2^n+d) / b::(ldiv n b ds<|(r*2^n+d) % b).1,(ldiv n b ds<|(r*2^n+d) % b).2):=rfl
theorem Ov (n:Nat) (b:Int): ∀ds r,(ldiv n b ds r).1.length=ds.length:=by
 intro O;induction O with
 |nil=>exact λO=>rfl
 |cons d ds i=>exact λr=>by simp only[A8,zD];simp[i]
theorem QCt {x d P u b q t e r':Int} (H:x*P+u=q*b+r') (h:d=t*b+x):d*P+u=(P*t+q)*b+r':=by
 erw[h]
 grind
theorem SN (n:Nat) {b:Int} (hb:0<b) (dN:b<=2^n): ∀ds r,(∀d∈ds,0<=d/\d<2^n)->0<=r->r<b->
 r*2^(n*ds.length)+undig n ds.reverse=undig n (ldiv n b ds r).1.reverse*b+(ldiv n b ds r).2/\0<=(ldiv n b ds r).2/\(ldiv n b ds r).2<b/\ ∀q∈(ldiv n b ds r).1,0<=q/\q<2^n:=by
 intro O;induction O with
 |nil=>exact λr O h0 H=>by simp[A8,zD,u9,oX,h0,H]
 |cons d ds u=>
  exact λr hd h0 H=>by
   have R:=fw n;refine bI (hd d<|.head _) λW d1=>?_;have x0:=mX (r*2^n+d)<|gE hb;have x1:=nV (r*2^n+d) hb;refine jv (u _ (λq h=>hd q<|.tail _ h) x0 x1) λi1 t i g=>?_;rw[zD];have Q:0<=r*2^n:=kG h0<|bw R;have c:(r+1)*2^n<=b*2^n:=mV (by assumption)<|bw R;refine (lK ?_ t i ?_)
   ·have e:=pL (r*2^n+d) b
    simp only[zv,zv,Cf,Cf,pQ,tT,AA,AA,Ov];simp only[u9,oX];generalize hP:(2:Int)^(n*ds.length)=P at*;generalize (2:Int)^n=N at*;generalize Y:(r*N+d) % b=y at*;generalize Z:(r*N+d) / b=z at*;have:=QCt (e:=0) i1 (by erw[jr z b];exact e.symm:r*N+d=z*b+y)
    grind
   ·intro q h
    rcases bp.mp h with rfl|h
    ·exact ⟨ur (qw ‹_› ‹_›)<|bw hb,sZ hb (by grind:r*2^n+d<2^n*b)⟩
    ·exact g q h
namespace B01
section
variable {o:bj} {a b z y d:Int} {n:Nat} {D qs:List aK} {r:Int} {t:Option (Int×Int)} {K:Fl->Ls->Prop} {xs:List aK}
noncomputable def q8 (a b n:Int) (D qs:List aK) (r:Int) (t:Option (Int×Int)):Ls:=(0,.val<|.int a)::(1,.val<|.int b)::(2,.val<|.int n)::(3,.val<|.list D)::(4,.val<|.int r)::(5,.own qs)::match t with|none=>[]|some p=>vs 6 [p.1,p.2]
theorem TA (H:o.F 3 [.int<|r*2^n+d,.int b,.int n] (.tuple [.int z,.int y])) (g:(ib r:Int)+n<=134217728) (g2:qs.length<16777216) (h:fW xe (vZ.map SW.w) o xs (q8 a b n D (qs++[.int z]) y<|aA (d,z)) K):
 fW xe (vZ.map SW.w) o (.int d::xs) (q8 a b n D qs r t) K:=by
 have N:=dP n;induction t with
 |none=>exact fq xe vZ o [.d<|.tuple [.int z,.int y]] (.int d) xs (q8 a b n D qs r aF) K N g H g2 h
 |some p=>exact fq xe vZ o [.d<|.tuple [.int z,.int y]] (.int d) xs (q8 a b n D qs r<|aA p) K N g H g2 h
theorem QDv (hb:0<b) (dN:b<=2^n) (hn:n<=30000000) (Q: ∀a,0<=a->a<b*2^n->o.F 3 [.int a,.int b,.int n] (.tuple [.int<|a / b,.int<|a % b])):
 ∀(ds:List Int) (r:Int) (qs:List aK) (t:Option (Int×Int)),(∀d∈ds,0<=d/\d<2^n)->0<=r->r<b->qs.length+ds.length<=1000->
  ∃t',∀K,K .next (q8 a b n D (qs++(ldiv n b ds r).1.map .int) (ldiv n b ds r).2 t')->fW xe (vZ.map SW.w) o (ds.map .int) (q8 a b n D qs r t) K:=by
 intro O;induction O with
 |nil=>exact λr qs t hd h0 H hl=>⟨t,λK h=>by simp only[A8,zD,jq,eZ] at h;exact h⟩
 |cons d ds i=>exact λr qs t hd h0 H hl=>by have N:=fw n;have x:=(hd d<|.head _);have W:=x.1;have d1:=x.2;have R:=mV H<|bw N;simp only[qu,gq] at R;have L:=Q (r*2^n+d) (qw (kG h0<|bw N) W)<|bG d1 R;have g:=oV h0<|pP H dN;dsimp only[pQ] at hl;obtain ⟨t',Z⟩:=i _ (qs++[.int<|(r*2^n+d) / b]) (aA (d,(r*2^n+d) / b)) (λq h=>hd q<|.tail _ h) (mX _<|gE hb) (nV _ hb) (by simp only[du];refine (?_);exact aQ hl);refine ⟨t',λK h=>TA L (by exact bG (ni (oL hn)<|oL hn) g) (aQ hl)<|Z K ?_⟩;dsimp only[A8,zD,gB] at h;simp only[ik];exact h
end
theorem A_ (L:Nat) (B:300<=L) {a b:Int} (A:0<=a) (hb:0<b) (hn:ib b<=100000) (K:dR (ib b) a<=250):
 (aU<|L+1).F 7 [.int a,.int b] (.tuple [.int<|a / b,.int<|a % b]):=by
 obtain ⟨M,rfl⟩: ∃M,L=M+1:=⟨L - 1,by exact (sE<|(aQ B)).symm⟩;refine aV (CD hb) λm z=>?_;have l:=QCH (bw hb) z;have H:=WJ (m:=ib b) (bw hb)<|uW _;have C: ∀r,jI r .bits (.d<|.int b) []<|.int<|ib b:=λr=>.bits;generalize Y:ib b=n at*;have N:1<=n:=aQ<|nR z
 have j:n*dR n a<=30000000:=az (Cu hn K) (by decide);have W:=Am M A N (bD B K) (az ‹_› (gA _ _)) j<|az ‹_› (gA _ _);have P: ∀a,0<=a->a<b*2^n->(aU<|M+1).F 3 [.int a,.int b,.int n] (.tuple [.int<|a / b,.int<|a % b]):=λa h0 g=>YF 5 M (aQ B) a b n h0 N (by simp only[z,rP];exact bG l l) H g (az ‹_› (by decide))<|aQ hn;have hdr:=UP n (dR n a) a;have u:=QDx n (dR n a) a A<|FI N A;have e:=zI n (dR n a) a;generalize R:digs n (dR n a) a=ds at*;refine jv (SN n hb (bw H) ds.reverse 0 (λd h=>hdr d<|DF.mp h) (uW _) hb) λs i x Z=>?_;have s5:=Ov n b ds.reverse 0;refine aV (QDv (o:=aU<|M+1) (a:=a) (D:=ds.map .int) hb (bw H) (aQ hn) P ds.reverse 0 [] aF (λd h=>hdr d<|DF.mp h) (uW _) hb (by simp only[um,AA];exact bD K<|nL e)) λt c=>?_;simp only[sa,QC] at c;generalize (ldiv n b ds.reverse 0).1=qs at*;generalize (ldiv n b ds.reverse 0).2=y at*;simp only[List.reverse_reverse,u,Int.zero_mul,zo] at s;refine bI (wU hb s i x) λe1 e2=>?_;have Q:qs.length=dR n a:=by simp only[s5,AA,e]
 have q:qs.reverse.length=dR n a:=by simp only[AA,Q]
 have U:=BG M (ds:=qs.reverse) (n:=n) (bD (na B K)<|nL q) (bD K<|nL q) N (by erw[q];exact j) λd h=>Z d<|DF.mp h;rw[QC] at U;have v:(qs.map cB).length<=16777216:=by rw[dY];exact bD K<|nL Q
 simp only[e1,e2];refine da ?_ rfl;induction t with
 |none=>exact d5 b_divmod_pos 2 [hi n,hl<|ds.map .int,.f .next (q8 a b n (ds.map .int) (qs.map .int) y aF),hi<|undig n qs.reverse] (aU<|M+1) [.int a,.int b] _ rfl (C _) W c v U .ret
 |some p=>exact d5 b_divmod_pos 2 [hi n,hl<|ds.map .int,.f .next (q8 a b n (ds.map .int) (qs.map .int) y<|aA p),hi<|undig n qs.reverse] (aU<|M+1) [.int a,.int b] _ rfl (C _) W c v U .ret
theorem PL (L:Nat) (l:310<=L) {a b:Int} (B:b≠0) (hn:ib b<=100000) (C:ib a<=100*ib b):
 (aU<|L+1).F 8 [.int a,.int b] (.tuple [.int<|a.fdiv b,.int<|a.fmod b]):=by
 have pos: ∀L,300<=L-> ∀x y,0<=x->0<y->ib y<=100000->ib x<=101*ib y->(aU<|L+2).F 8 [.int x,.int y] (.tuple [.int<|x / y,.int<|x % y]):=λL l x y o Y t R=>by refine aV (CD Y) λm j=>?_;have s:=A_ L l o Y t<|QGH<|(Nat.div_lt_iff_lt_mul<|aQ<|nR j).mpr<|bD R<|nR j;exact da (d5 CK 2 [.b aE,.b aE,.b aE,.d<|.tuple [.int<|x / y,.int<|x % y]] _ [.int x,.int y] _ rfl (beq_eq_false_iff_ne.mpr<|gE Y) (df<|jL.mpr<|bw Y) (df<|jL.mpr o) s .ret) rfl
 have neg: ∀L,301<=L-> ∀x y,0<y->ib y<=100000->ib x<=100*ib y->(aU<|L+2).F 8 [.int x,.int y] (.tuple [.int<|x / y,.int<|x % y]):=λL l x y Y t R=>by
  refine aV (CD Y) λm j=>?_;rcases Qq x 0 with c|c
  ·obtain ⟨M,rfl⟩: ∃M,L=M+1:=⟨L - 1,by exact (sE<|(aQ l)).symm⟩
   have q:ib (-x - 1)<=ib x+1:=by refine oo.mpr ?_;have:=oo.mp<|bh<|ib x;simp only[Qu];exact (oM<|bG (ni (ni (mI 2<|oL this)<|iL<|jS ((bE c):0<= -x - 1))<|mI 2<|iR<|xO ((bE c):x<=0)) c)
   have K:=pos M (Nat.le_of_succ_le_succ ‹_›) (-x - 1) y (bE c) Y t<|bD (na R<|nR j) q;exact bI (kbt_below x Y) λe2 e=>sb e2<|sb e<|sb (by simp+arith:y - 1 - (-x - 1) % y=y+(-((-x - 1) % y) - 1))<|da (d5 CK 2 [.b false,.b false,.b true,.d<|.tuple [.int<|(-x - 1) / y,.int<|(-x - 1) % y]] _ [.int x,.int y] _ rfl (beq_eq_false_iff_ne.mpr<|Int.ne_of_gt Y) (df<|Int.not_lt.mpr<|Int.le_of_lt Y) (dt c) K .ret) rfl
  ·exact pos L (sD ‹_›) x y c Y t<|aQ R
 obtain ⟨M,rfl⟩: ∃M,L=M+2:=⟨L - 2,by exact (sE<|(aQ l)).symm⟩;rcases Qq b 0 with c|c
 ·have i: ∀z,ib (-z)=ib z:=λz=>by simp[ib,Builtin.Int.intBits]
  have K:=neg M (aQ l) (-a) (-b) (bE c) (by rw[i];exact hn) (by rw[i,i];exact C);have e1: -a / -b=a.fdiv b:=cx (Qp _<|bE c)<|Int.neg_fdiv_neg a b
  have e2: -(-a % -b)=a.fmod b:=by
   have h:=pL (-a) (-b);have H:=Int.mul_fdiv_add_fmod a b;simp only[e1] at h
   grind
  exact cx e1<|cx e2<|da (d5 CK 2 [.b false,.b true,.d<|.tuple [.int (-a / -b),.int (-a % -b)]] _ [.int a,.int b] _ rfl (beq_eq_false_iff_ne.mpr B) (dt c) K .ret) rfl
 ·have:=neg (M+1) (aQ l) a b (((AJ B).elim (λu=>(bG (ni c u) c)) λu=>u)) hn C
  exact sb (iB _<|((AJ B).elim (λu=>(bG (ni c u) c)) λu=>u))<|sb (mi _<|by omega)<|this
end B01
theorem kY (a:Int) (h:0<n): ∃w:Nat,w<n/\a.fmod n=(w:Int):=by have q:=nW a<|mF.mpr ‹_›;have H:=nX a<|mF.mpr ‹_›;exact (ax ((a.fmod n).toNat) ((oM<|bG q<|iL<|jO (H:0<=a.fmod (↑n:Int))))<|(jO (H:0<=a.fmod (↑n:Int))).symm)
theorem Jr {k n:Nat} (h:k<n):we (k:Int) n=aA k:=by dsimp only[we];simp;exact MA h
section
variable {k:Int} {w:Nat}
theorem dB (h:xs[w]?=aA d) (K:k=w) (hl:(xs.length:Int)<2^63):cC r (.d<|.list xs) k d:=K▸ .seq (.l .d) hl (Jr (zZ.mp h).1) h
theorem pW {xs:List Int} {z:Int} (h:xs[w]?=aA z) (K:k=w) (hl:(xs.length:Int)<2^63):cC r (.d<|.list<|xs.map .int) k (.int z):=dB (by simp only[DI,h];rfl) K (by rw[dY];exact hl)
theorem AO (h:x.cps[w]?=aA d) (K:k=w) (hl:x.length<2^63):cC r (.d<|.str x) k (.str ⟨#[d]⟩):=by
 refine aV (Array.getElem?_eq_some_iff.mp h) λA i=>?_;have H:w<x.length:=A
 have e:Txt.item x k=⟨#[d]⟩:=by
  erw[K];have b:(w:Int)<x.length:=mF.mpr ‹_›
  have v: ¬ (w:Int)<0:=by simp+arith
  simp[Txt.item,Txt.charAt,we,b,v,h]
 exact e▸ .str (bG (iR K)<|oZ w) (bG (iL K)<|oL H) hl
theorem yL {a:Int} (h:a=w) (K:w<=1114111):cn r .chr [.d<|.int a] (.str ⟨#[w]⟩):=sb h<| .chr (Int.natCast_nonneg _)<|Int.ofNat_le.mpr ‹_›
end
theorem getD_some {α:Type} {xs:List α} {w:Nat} {d:α} (h:w<xs.length):xs[w]?=aA (xs.getD w d):=by simp only[List.getD_eq_getElem?_getD,sR h];rfl
namespace B01
theorem Y5 (L:Nat) (i:Int):(aU L).b1 i=gQ.contains i:=by induction L<;>rfl
theorem M8 (L:Nat) (i:Int):(aU L).b3 i=rh i:=by induction L<;>rfl
noncomputable def mB:List Int:=[97,65,119808,119860,119912,120016,120172,120224,120276,120328,120380,120432]
noncomputable def dS (c w:Nat):Nat:=(mB.getD w 0).toNat+c - 97
theorem WQ: ∀w,w<12->65<=mB.getD w 0/\mB.getD w 0<=120432/\mB[w]?=aA (mB.getD w 0):=by decide
theorem EV (L:Nat) {c:Nat} (H:97<=c) (i:c<=122) {W:Int} {w:Nat} (t:W.fmod 12=w) (h:w<12):(aU<|L+1).F 13 [.str ⟨#[c]⟩,.int W] (.str ⟨#[dS c w]⟩):=eN (WQ w h) λK B b=>da (d5 OY 2 [.d<|.int<|mB.getD w 0,.d<|.int c,.d<|.str ⟨#[dS c w]⟩] _ [.str ⟨#[c]⟩,.int W] _ rfl ff (pW b t<|by decide) (.ord rfl) (yL (by unfold dS;exact (uX (bG (oL<|nR<|sE ((aQ H):97<=(mB.getD w 0).toNat+c))<|iR<|jO ((bE K):0<=mB.getD w 0))<|bG (oL<|nL<|sE ((aQ H):97<=(mB.getD w 0).toNat+c))<|iL<|jO ((bE K):0<=mB.getD w 0))) (by unfold dS;exact (oM<|bG (ni (ni (oL<|QFa ((mB.getD w 0).toNat+c)<|97)<|iL<|jO ((bE K):0<=mB.getD w 0))<|oL i) B))) .ret) rfl
noncomputable def qH:List Int:=[173,847,6150,6155,6156,6157,8203,8204,8205,8288,65279]
noncomputable def cm (w:Nat):Nat:=if w<11 then (qH.getD w 0).toNat else 65013+w
theorem QAR: ∀w,w<11->0<=qH.getD w 0/\qH.getD w 0<=65279/\qH[w]?=aA (qH.getD w 0):=by decide
theorem Ar (L:Nat) {W:Int} {w:Nat} (t:W.fmod 27=w) (h:w<27):(aU<|L+1).F 14 [.int W] (.str ⟨#[cm w]⟩):=by
 by_cases c:w<11
 ·refine eN (QAR w c) λH B N=>?_
  have e:cm w=(qH.getD w 0).toNat:=QHb c;exact da (d5 GC 1 [.b aB,.d<|.int<|qH.getD w 0,.d<|.str ⟨#[cm w]⟩] _ [.int W] _ rfl ff (dt<|(bG (iL t)<|oL c)) ff (pW N t<|by decide) (yL ((uX (bG (oL<|nR e)<|iR<|jO (H:0<=qH.getD w 0))<|bG (oL<|nL e)<|iL<|jO (H:0<=qH.getD w 0)))<|by lia -abstractProof) .ret) rfl
 ·have e:cm w=65013+w:=QHa c
  exact da (d5 GC 1 [.b aE,.d<|.str ⟨#[cm w]⟩] _ [.int W] _ rfl ff (df λK=>fh (ni K<|iR t)<|oL<|jN c) ff (yL (uX (bG (iL t)<|oL<|nR e)<|bG (iR t)<|oL<|nL e)<|by (clear t;exact bD h<|nL e)) .ret) rfl
noncomputable def rM:List Int:=[172,174,846,848,6149,6151,6154,6158,8202,8206,8287,8289,65278,65280,65023,65040,11,12,28,29,30,133,8232,8233]
noncomputable def fQ (w:Nat):Nat:=(rM.getD w 0).toNat
theorem Td: ∀w,w<24->0<=rM.getD w 0/\rM.getD w 0<=65280/\rM[w]?=aA (rM.getD w 0):=by decide
theorem SJ (L:Nat) {W:Int} {w:Nat} (t:W.fmod 24=w) (h:w<24):(aU<|L+1).F 15 [.int W] (.str ⟨#[fQ w]⟩):=eN (Td w h) λK B b=>da (d5 Ow 1 [.d<|.list<|rM.map .int,.d<|.int<|rM.getD w 0,.d<|.str ⟨#[fQ w]⟩] _ [.int W] _ rfl (.add .d .d<|by decide) ff (pW b t<|by decide) (yL (by unfold fQ;exact (jO (K:0<=rM.getD w 0)).symm) (by unfold fQ;lia -abstractProof)) .ret) rfl
noncomputable def lG (k:Nat):Str:=match rh k with
 |.str s=>s
 |_=>cH ⟨#[k]⟩
theorem Bg (L:Nat) (k:Nat):(aU<|L+1).F 10 [.str ⟨#[k]⟩] (.bool<|gQ.contains (k:Int)):=by have:=d5 OS 1 [hi k] (aU L) [.str ⟨#[k]⟩] _ rfl (.ord rfl) .ret;simp only[Y5] at this;exact da this rfl
theorem WY (L:Nat) (k:Nat):(aU<|L+1).F 11 [.str ⟨#[k]⟩] (.str<|lG k):=by
 refine da ?_ rfl;have B:(∃s,rh k=.str s)\/rh k=.none:=by unfold rh;induction b3.lookup (k:Int) with|none=>exact .inr rfl|some s=>exact .inl ⟨s,rfl⟩
 unfold lG;rcases B with ⟨s,B⟩|B
 ·have e:=(M8 L k).trans B
  have:=d5 Gp 1 [hi k,.b aE,.b aB] (aU L) [.str ⟨#[k]⟩] _ rfl (.ord rfl) (by simp only[e];exact nofun) tt .ret;simp only[e] at this;exact sb B<|this
 ·have e:=(M8 L k).trans B
  exact sb B<|d5 Gp 1 [hi k,.b true,.b false,ht<|Txt.lower ⟨#[k]⟩] (aU L) [.str ⟨#[k]⟩] _ rfl (.ord rfl) e ff (.lower<|Nat.le_of_ble_eq_true rfl) .ret
noncomputable def th:List Nat:=[112,110,109,102,105,108,115,116]
theorem B7: ∀c∈th,∀w,w<12->gQ.contains (dS c w:Int)=aE/\lG (dS c w)=⟨#[c]⟩/\65<=dS c w:=by decide+kernel
theorem rp: ∀w,w<27->gQ.contains (cm w:Int)=aB/\65<=cm w:=by decide+kernel
theorem Yn: ∀w,w<24->gQ.contains (fQ w:Int)=aE/\fQ w≠10/\fQ w≠13/\fQ w≠46:=by decide+kernel
noncomputable def mn (k:Nat):Dat:=.str ⟨#[k]⟩
noncomputable def rC (d:aK):Option Dat:=match d with
 |.str s=>if gQ.contains (s.cps.getD 0 0:Int) then aF else aA (.str<|lG<|s.cps.getD 0 0)
 |_=>aF
theorem G8 {k:Nat} (h:gQ.contains (k:Int)=aB):rC (mn k)=none:=QHb h
theorem Bd {k:Nat} (h:gQ.contains (k:Int)=aE) (e:lG k=s):rC (mn k)=aA (.str s):=(QHa (by (erw[(rfl:((#[k].getD 0 0:Nat))=k)];erw[h]);exact nofun)).trans (by erw[<-e];rfl)
theorem Vb (L k:Nat) (d:aK):CE (RB 11 [cU]).w eE [(TW.eP aE aE<|.call 10 [cU]).w] (aU<|L+1) [(0,.val d),(201,.unb)] (mn k) (rC<|mn k):=λx K h=>by
 have H:=Bg L k;induction hb:gQ.contains (k:Int) with
 |true=>rw[hb] at H;rw[G8 hb] at h;exact fL (.call 11 [cU]) eE [.eP aE aE<|.call 10 [cU]] (aU<|L+1) [.d<|.bool aB,.b aE,.b aE] [(0,.val d),(201,.unb)] (mn k) x K H ff rfl ff h
 |false=>rw[hb] at H;rw[Bd hb rfl] at h;exact fL (.call 11 [cU]) eE [.eP aE aE<|.call 10 [cU]] (aU<|L+1) [.d<|.bool aE,.b aB,.b aB,ht<|lG k] [(0,.val d),(201,.unb)] (mn k) x K H tt rfl tt (WY L k) rfl h
theorem Mu (L:Nat) (hl:(mq s).length<=16777216) (t:(mq s).filterMap rC=ts.map .str) (j:nU ⟨#[]⟩ ts):(aU<|L+2).F 17 [.str s] (.str<|DJ ⟨#[]⟩ ts):=da (d5 JA 1 [.ds<|ts.map .str,ht<|DJ ⟨#[]⟩ ts] (aU<|L+1) [.str s] _ rfl hl (λK h=>VZ (λd Y=>by refine aS (ij.mp Y) λc O e=>?_;erw[<-e];exact Vb L c<|.str s) K (by simp only[t];exact h)) (.join .d j) .ret) rfl
theorem Di: ∀c∈th,97<=c/\c<=122:=by decide
theorem oH {x y z:aG} (h:x++y=z) (hl:eX (x.length+y.length) 16777216=aB):ft r .Add (.d<|.str x) (.d<|.str y) (.str z):=h▸ .cat (bJ hl)
end B01
section
open PySem.StrLaws PySem.Builtin PySem.Builtin.Str
theorem Y2 {s sub:aG} (W:1<=sub.length): ∀{c1 c2:List Nat} {a F f:Nat},ChainG s sub i a c1 F->(∀k,F<=k-> ¬ At s sub i k)->ChainG s sub i a c2 f->(∀k,f<=k-> ¬ At s sub i k)->c1=c2:=by
 intro c1;induction c1 with
 |nil=>
  exact @λc2=>by
   induction c2 with
   |nil=>exact λO O O O=>rfl
   |cons c r O=>exact @λa F f A N H n=>QHZ H.2.1 (N c (by have e:=A;have:=H.1;exact bD (nL e) this))
 |cons c r z=>
  exact @λc2=>by
   induction c2 with
   |nil=>exact @λa F f A N H n=>QHZ A.2.1 (n c (by have e:=H;have:=A.1;exact bD (nL e) this))
   |cons d t O=>
    exact @λa F f A N H n=>by
     have e:c=d:=by
      rcases Nat.lt_trichotomy c d with h|h|h
      ·exact QHZ A.2.1<|H.2.2.1 c A.1 h
      ·exact h
      ·exact QHZ H.2.1<|A.2.2.1 d H.1 h
     exact sb e<|congrArg (List.cons d)<|z A.2.2.2 N (e▸H.2.2.2) n
noncomputable def rowsOf (y:List Nat):List Nat->List (List Nat)->List Nat
 |r,[]=>r
 |r,r1::rs=>r++(y++rowsOf y r1 rs)
theorem HX {y:List Nat} {r}:rowsOf y r []=r:=rfl
theorem HH {y:List Nat} {r r1 rs}:rowsOf y r (r1::rs)=r++(y++rowsOf y r1 rs):=rfl
noncomputable def posn (w:Nat):Nat->List Nat->List (List Nat)->List Nat
 |_,_,[]=>[]
 |a,r,r1::rs=>(a+r.length)::posn w (a+r.length+w) r1 rs
theorem PG {w:Nat} {u0 u1}:posn w u0 u1 []=[]:=rfl
theorem JN {w:Nat} {a r r1 rs}:posn w a r (r1::rs)=(a+r.length)::posn w (a+r.length+w) r1 rs:=rfl
theorem Ju {x y:aG} {cs:List Nat} (Y:y.cps.toList=c::cs) {k:Nat} (h:x.cps.toList[k]?≠aA c): ¬ At x y x.length k:=by
 rintro ⟨_,i⟩
 simp! only[subAt_eq,Y] at i
 have H:=eq_of_beq i;apply h;have:y.length=cs.length+1:=by have e:y.cps.toList.length=y.length:=js;rw[Y] at e;exact e.symm
 rw[this] at H;have b:=QHd (λl=>l[0]?) H;simpa -iota [List.getElem?_take] using b
theorem QBf {x y:aG} (M:x.cps.toList=pre++(y.cps.toList++post)):At x y x.length pre.length:=by
 have L:x.cps.toList.length=x.length:=js;have l:y.cps.toList.length=y.length:=js;refine ⟨?_,?_⟩
 ·simp! only[<-L,M,du,du,l]
  simp+arith
 ·simp! only[subAt_eq,M,Qz,<-l,QGI]
  exact QHe _
theorem XC {x y:aG} {cs:List Nat} (Y:y.cps.toList=c::cs): ∀(rs:List (List Nat)) (r pre:List Nat),x.cps.toList=pre++rowsOf (c::cs) r rs->(∀q∈r::rs,c∉q)->
 ∃f,ChainG x y x.length pre.length (posn y.length pre.length r rs) f/\(∀k,f<=k-> ¬ At x y x.length k)/\partsFrom x y.length pre.length (posn y.length pre.length r rs)=(r::rs).map λq=>⟨q.toArray⟩:=by
 intro O;induction O with
 |nil=>
  exact λr pre M F=>by
   have hl:x.cps.toList.length=x.length:=js
   simp! only[HX,HH] at M
   refine (gd pre.length rfl (λk C=>Ju Y ?_) ?_)
   ·refine sb M<|sb (List.getElem?_append_right C) ?_
    intro h;exact F r (.head _)<|DO h
   ·refine (?_:[strSub x pre.length x.length]=_)
    have:strSub x pre.length x.length=⟨r.toArray⟩:=by
     have e:=strSub_toList x pre.length x.length;rw[<-hl,M,Qz,uY<|by simp] at e
     have e2:(strSub x pre.length x.length).cps=r.toArray:=by
      apply Q0.mp;refine cx hl<|sb M ?_
      simpa -iota using e
     cases hs:strSub x pre.length x.length;simp! only[hs] at e2;exact QHd Q1 e2
    simp! only[this]
    rfl
 |cons r1 rs i=>
  exact λr pre M F=>by
   have hl:x.cps.toList.length=x.length:=js;have L:y.cps.toList.length=y.length:=js
   simp! only[HX,HH] at M
   have m:x.cps.toList=(pre++r++(c::cs))++rowsOf (c::cs) r1 rs:=by simp! only[M];simp
   refine cy (i r1 (pre++r++(c::cs)) m λq Q=>F q<|.tail _ Q) λf A p H=>?_;have U:(pre++r++(c::cs)).length=pre.length+r.length+y.length:=by (erw[<-L];erw[Y]);simp;simp+arith
   simp! only[U] at A H
   have a:At x y x.length (pre.length+r.length):=by have:=QBf (x:=x) (y:=y) (pre:=pre++r) (post:=rowsOf (c::cs) r1 rs) (by (erw[Y];erw[M]);simp);simpa -iota using this
   refine ⟨f,(lK (mO _ _) a (λk K l=>Ju Y ?_) A),p,?_⟩
   ·refine sb M<|sb (List.getElem?_append_right K) ?_
    erw[List.getElem?_append_left<|(bD (nL<|sE (K:pre.length<=k)) l)];intro h;exact F r (.head _)<|DO h
   ·refine (?_:strSub x pre.length (pre.length+r.length)::partsFrom x y.length (pre.length+r.length+y.length) (posn y.length (pre.length+r.length+y.length) r1 rs)=_)
    erw[H];have:strSub x pre.length (pre.length+r.length)=⟨r.toArray⟩:=by have e:=strSub_toList x pre.length<|pre.length+r.length;rw[M,Qz,List.take_left'<|by simp+arith] at e;have e2:(strSub x pre.length<|pre.length+r.length).cps=r.toArray:=Q0.mp (by simpa -iota using e);cases hs:strSub x pre.length (pre.length+r.length);simp! only[hs] at e2;exact QHd Q1 e2
    simp! only[this]
    rfl
theorem JR {x y:aG} {cs:List Nat} (Y:y.cps.toList=c::cs) (M:x.cps.toList=rowsOf (c::cs) r rs) (F: ∀q∈r::rs,c∉q):
 occurrences x y 0 x.length (x.length+1)=posn y.length 0 r rs/\partsBetween x (occurrences x y 0 x.length<|x.length+1) y.length=(r::rs).map λq=>⟨q.toArray⟩:=by
 have l:y.cps.toList.length=y.length:=js;have W:1<=y.length:=by (erw[<-l];erw[Y]);exact Pf _
 refine cy (XC Y rs r [] M F) λf A h H=>aS (occ_tight x y W) λg d K=>?_;have e:=Y2 W d K A h;refine ⟨e,?_⟩;rw[e,partsBetween_eq];exact H
theorem yJ {x y:aG} (h:x.cps.toList=y.cps.toList):x=y:=by
 induction x;induction y;exact QHd Q1<|Q0.mp h
theorem m_ (M:x.cps.toList=a++c::b) (A:c∉a) (hb:c∉b):Cr x ⟨#[c]⟩ ⟨#[]⟩=⟨(a++b).toArray⟩:=by
 have h:=JR (x:=x) (y:=⟨#[c]⟩) (c:=c) (cs:=[]) rfl (r:=a) (rs:=[b]) (by erw[M];rfl) (by
  intro q Q;clear M;rcases bp.mp Q with rfl|Q
  ·exact A
  ·exact sb (Ig.mp Q)<|hb)
 unfold Cr;have e:(⟨#[c]⟩:aG).length=1:=rfl;rw[e] at h;refine sb e<|sb h.2<|sb h.1<|sb (if_neg<|by simp -iota [PG,JN]) ?_
 apply yJ;simp -iota [glued]
theorem QCP (M:x.cps.toList=rowsOf [13,10] r (r1::rs)) (hf: ∀q∈r::r1::rs,13∉q):Txt.split x ⟨#[13,10]⟩=(r::r1::rs).map λq=>⟨q.toArray⟩:=by
 have h:=JR (x:=x) (y:=⟨#[13,10]⟩) (c:=13) (cs:=[10]) rfl M hf;have hl:x.cps.toList.length=x.length:=js;have e1:(⟨#[13,10]⟩:aG).length=2:=rfl;unfold Txt.split;rw[e1] at h;refine sb e1<|sb h.2<|sb h.1 ?_
 have k:strKind ⟨#[13,10]⟩=1:=by decide+kernel
 have K:1<=strKind x:=by unfold QHW;split<;>(try split)<;>decide
 rw[if_neg,if_neg]
 ·simp -iota [PG,JN]
 ·refine sb k<|cx hl<|sb M ?_
  simp -iota [HX,HH];exact ⟨(by simp+arith),(λW=>(cY K<|nL W))⟩
theorem QEB (M:x.cps.toList=t++[c]++bl) (C:AK c=aE) (hb: ∀d∈bl,AK d=aB):Q2 x=⟨(t++[c]).toArray⟩:=by
 have l:x.cps.toList.length=x.length:=js;dsimp only[Q2];rw[QGJ];dsimp only[QGK];apply yJ
 simp! only[wy,if_false,if_true,strSub_toList,Qy]
 refine sb M<|sb List.reverse_append<|sb List.reverse_append ?_
 have e:(bl.reverse++([c].reverse++t.reverse)).takeWhile AK=bl.reverse:=by erw[QGL (by intro d Y;exact hb d<|DF.mp Y)];simp -iota [C]
 have n:(t++[c]++bl).length - bl.reverse.length=(t++[c]).length:=sb du<|sb List.length_reverse<|Nat.add_sub_cancel _ _
 rw[e,<-l,M,Cs,n,QGI]
theorem HC {x:aG} (A:a<=b) (hb:b<=x.length):iI x (aA a) (aA b)=⟨((x.cps.toList.drop a).take<|b - a).toArray⟩:=by
 have h:=QHX (x:=x) (i:=a) (j:=b) (dP _) (oq.mpr ‹_›)<|oq.mpr ‹_›;have:=eq_of_beq h;erw[this]
 congr 4
 exact (jk (oM<|bG (oL<|nR<|sE (A:a<=b))<|iL<|jO ((bE<|oL A):0<=(↑b:Int) - (↑a:Int)))<|oM<|bG (oL<|nL<|sE (A:a<=b))<|iR<|jO ((bE<|oL A):0<=(↑b:Int) - (↑a:Int)))
theorem PQ {x:aG} (hb:b<=x.length):iI x aF (aA b)=⟨(x.cps.toList.take b).toArray⟩:=by
 have h:iI x aF (aA b)=iI x (aA<|(0:Nat)) (aA b):=by unfold iI;rw[sliceIdx_none_lo];rfl
 refine sb h<|sb (HC (Nat.zero_le _) hb) ?_
 rfl
theorem Li {x:aG} (A:a<=x.length):iI x (aA a) aF=⟨(x.cps.toList.drop a).toArray⟩:=by
 have h:iI x (aA a) aF=iI x (aA a) (aA (x.length:Nat)):=by unfold iI;rw[sliceIdx_none_hi]
 have l:x.cps.toList.length=x.length:=js;exact sb h<|sb (HC A<|Nat.le_of_eq ‹_›)<|sb (List.take_of_length_le<|by simp -iota [l]) rfl
theorem QHC {x:aG} (h:1<=x.length):iI x aF (aA (-1))=⟨(x.cps.toList.take<|x.length - 1).toArray⟩:=by
 have e:iI x aF (aA (-1))=iI x aF (aA<|(x.length - 1:Nat)):=by unfold iI;exact sb (sliceIdx_neg_hi _ _ (dP _)<|bE<|oL h)<|sb ((Int.le_antisymm (bE<|oL<|nL<|sE (h:1<=x.length))<|bE<|oL<|nR<|sE (h:1<=x.length)):((x.length - 1:Nat):Int)= -1+x.length) rfl
 exact sb e<|sb (PQ<|(aQ<|nL<|sE (h:1<=x.length))) rfl
theorem QHD (h:1<=x.length):iI x (aA (-1)) aF=⟨(x.cps.toList.drop<|x.length - 1).toArray⟩:=by
 have e:iI x (aA (-1)) aF=iI x (aA<|(x.length - 1:Nat)) none:=by unfold iI;exact sb (sliceIdx_neg_lo _ _ (dP _)<|bE<|oL h)<|sb ((Int.le_antisymm (bE<|oL<|nL<|sE (h:1<=x.length))<|bE<|oL<|nR<|sE (h:1<=x.length)):((x.length - 1:Nat):Int)= -1+x.length) rfl
 exact sb e<|sb (Li<|Nat.sub_le _ _) rfl
end
section
open PySem.NumText
theorem QAh (x y:aG):(x++y).cps.toList=x.cps.toList++y.cps.toList:=QFO
noncomputable def dC (n:Nat):List Nat:=(Nat.toDigits 10 n).map Char.toNat
theorem NM (n:Nat):IV (toString (n:Int))=⟨(dC n).toArray⟩:=yJ (by simp only[KIN.signs_num];rfl)
theorem Ah (h:n<10^10):AllDigits (dC n)/\dC n≠[]/\(dC n).length<=10/\digitsVal (dC n)=n:=by
 have hl:=KT.len_num (n:=(n:Int)) (by simp+arith)<|bE<|oL h;rw[NM] at hl;refine (lK ?_ ?_ ?_<|KIN.val_back n)
 ·intro c W
  refine aS (ij.mp W) λH C e=>?_;have r:=digit_range (Nat.isDigit_of_mem_toDigits (by decide) (by decide) C);exact cx e<|r
 ·intro e
  have v:=KIN.val_back n;have h:=toDigits_len_ge 10 n;rw[QGM.mp e] at h;exact QHZ h (by decide)
 ·simpa[Str.length] using hl
noncomputable def eD (n:Nat) (bl:List Nat):Str:=⟨([48,95]++dC n++bl).toArray⟩
namespace B01
theorem Ub (R:aL l 0=.val (.str x)) (r1:aL l 1=.val (.int 2048)) (r2:aL l 2=.clo 0) (r:aL l 3=.emp):tG 0 [0,1,2,3] aF l=[(0,.val<|.str x),(1,.val<|.int 2048),(2,.clo 0),(3,.emp)]:=by refine (?_:[(0,ju 0 aE<|aL l 0),(1,ju 0 aE<|aL l 1),(2,ju 0 aE<|aL l 2),(3,ju 0 aE<|aL l 3)]=_);simp only[R,r1,r2,r];rfl
theorem Tv (L:Nat) {n:Int} (hl:x.length<=640) (M:QGN x=aA n):(aU<|L+2).F 1 [.str x] (.int n):=by
 have s:iI x (aA 0) (aA x.length)=x:=by have:=HC (x:=x) (hJ _)<|bh _;simp only[Qy,Cs,uY (qm js:x.cps.toList.length<=x.length),Array.toArray_toList] at this;exact this
 have C: ∀r,gR r (.d<|.str x) (.d<|.int 0) (.d<|.int x.length) (.d .none)<|.str x:=λr=>by have:=gR.str (r:=r) (x:=x) (.int (i:=0)) (.int (i:=x.length))<|az ‹_› (gA _ _);rwa[s] at this
 have K:(aU<|L+1).L 0 [.int 0,.int x.length] [(0,.val<|.str x),(1,.val<|.int 2048),(2,.clo 0),(3,.emp)] (.int n) [(0,.val<|.str x),(1,.val<|.int 2048),(2,.clo 0),(3,.emp)]:=.a rfl (yF L5 [.b aB,ht x,hi n] (aU L) 0 [200,201] [0,1,2,3] aF [.int 0,.int x.length] [(0,.val<|.str x),(1,.val<|.int 2048),(2,.clo 0),(3,.emp)] [(0,.val<|.str x),(1,.val<|.int 2048),(2,.clo 0),(3,.emp)] (.int n) _ rfl (Ub rfl rfl rfl rfl) rfl (dt<|oq.mpr<|az ‹_› (by decide)) (C _) (.tv hl M) .ret .none);exact da (d5 Cc 1 [hi x.length,hi x.length,.c (.int n) [(0,.val<|.str x),(1,.val<|.int 2048),(2,.clo 0),(3,.emp)]] (aU<|L+1) [.str x] _ rfl (.j6<|ig ‹_› (by decide)) (oq.mpr<|az ‹_› (by decide)) (dP _) (.j6<|aQ hl) K .ret) rfl
theorem QAc (L:Nat) (hn:n<10^10) (hb:bl∈[[],[32],[9],[9,32]]):(aU<|L+3).F 2 [.str<|eD n bl] (.int n):=by
 refine jv (Ah hn) λH i Q P=>?_;have B: ∀d∈bl,AK d=true:=by simp only[bp,gU,or_false] at hb;rcases hb with rfl|rfl|rfl|rfl<;>decide+kernel
 have s:bl.length<=2:=by simp only[bp,gU,or_false] at hb;rcases hb with rfl|rfl|rfl|rfl<;>decide
 have g: ∀c,48<=c->c<=57->AK c=false:=by
  intro c a b;have: ∀c,c<58->48<=c->AK c=false:=by decide+kernel
  exact this c (ig ‹_› (by decide)) a
 have e1:Q2 (eD n bl)=⟨([48,95]++dC n).toArray⟩:=by have N:=List.dropLast_concat_getLast i;have m:=H _<|List.getLast_mem i;generalize (dC n).dropLast=t at*;generalize (dC n).getLast i=c at*;have:=QEB (x:=eD n bl) (t:=[48,95]++t) (c:=c) (bl:=bl) (by refine (?_:(([48,95]++dC n++bl).toArray).toList=_);erw[<-N];exact (ik _ _ _)) (g c m.1 m.2) B;simp only[this,<-N];simp
 have e2:Cr ⟨([48,95]++dC n).toArray⟩ ⟨#[95]⟩ ⟨#[]⟩=⟨(48::dC n).toArray⟩:=by have:=m_ (x:=⟨([48,95]++dC n).toArray⟩) (c:=95) (a:=[48]) (b:=dC n) (by simp) (by decide) (by intro h;have:=H _ h;exact lA this.2);erw[this];rfl
 have v:(⟨(48::dC n).toArray⟩:aG).length<=640:=by refine (?_:(48::dC n).toArray.size<=640);simp;exact az ‹_› (gA _ _)
 have e:QGN ⟨(48::dC n).toArray⟩=aA (n:Int):=by have:=intText_digits (x:=⟨(48::dC n).toArray⟩) (by intro c C;rcases bp.mp (by simpa using C) with rfl|C;simp+arith;exact H c C) (by simp)<|Nat.le_trans ‹_› (Nat.le_add_left _ _);erw[this];have:digitsVal (48::dC n)=digitsVal (dC n):=rfl;simp only[this,P]
 have K:=Tv L v e
 have c0: ∀r,jI r .rstrip (.d<|.str<|eD n bl) []<|.str ⟨([48,95]++dC n).toArray⟩:=λr=>e1▸ .rstrip (by
  refine (?_:([48,95]++dC n++bl).toArray.size<=16777216);simp
  exact az (iF ‹_› ‹_›)<|by decide)
 have l:(⟨([48,95]++dC n).toArray⟩:aG).length<=4096:=by refine (?_:([48,95]++dC n).toArray.size<=4096);simp;exact az ‹_› (gA _ _)
 rw[<-e2] at K;exact da (d5 Ox 1 [ht ⟨([48,95]++dC n).toArray⟩,hi n] (aU<|L+2) [.str<|eD n bl] _ rfl (c0 _) l K .ret) rfl
end B01
end
section
open PySem.StrLaws
theorem QCc {a b:Nat}:Cn (a:Int) (b:Int) 1=(bg<|b - a).map (λk=>a+k):=by
 dsimp only[Cn]
 have e:(if (1:Int)>0 then (if (a:Int)<(b:Int) then ((b:Int) - a+1 - 1) / 1 else 0) else (if (a:Int)>(b:Int) then ((a:Int) - b - 1 - 1) / (-1) else 0)).toNat=b - a:=by
  rw[if_pos (by decide),QFy];by_cases h:(a:Int)<b
  ·rw[if_pos h,Qv]
   exact Int.toNat_sub b a
  ·rw[if_neg h]
   exact (xI<|oq.mp<|jL.mp h).symm
 erw[e];apply Ih;intro k _;exact (jk (oM<|bE<|iL<|jO ((bG (oZ<|a)<|oZ<|k):0<=(↑a:Int)+1*(↑k:Int)))<|oM<|bE<|iR<|jO ((bG (oZ<|a)<|oZ<|k):0<=(↑a:Int)+1*(↑k:Int)))
theorem yX {xs:List aK} {a b:Nat} (e:kf l h aF xs.length=((a:Int),(b:Int),1)) (A:a<=b) (hb:b<=xs.length):mE xs l h aF=(xs.drop a).take (b - a):=by unfold mE;exact sb e<|sb QCc<|picks xs (b - a) a (bD hb<|sL (by assumption:a<=b))
theorem Wg (xs:List aK):mE xs aF aF aF=xs:=by erw[yX (by dsimp only[kf];rfl) (hJ _)<|by simp+arith];simp
theorem LP (xs:List aK) (a:Nat):mE xs (aA a) aF aF=xs.drop a:=by
 by_cases h:a<=xs.length
 ·exact sb (yX (by dsimp only[kf];simp;exact M6 h) h<|by simp+arith)<|sb (List.take_of_length_le<|by simp) rfl
 ·erw[yX (a:=xs.length) (b:=xs.length) (by dsimp only[kf];simp;exact ZJ h) (by simp+arith)<|by simp+arith]
  simp! only[uw (aQ (qt h):xs.length<=a),uw<|bh _,List.take_nil]
theorem QHF (xs:List aK) {b:Nat} (h:b<=xs.length):mE xs aF (aA b) aF=xs.take b:=by erw[yX (by dsimp only[kf];simp;exact M6 h) (hJ _) h];rfl
theorem GF {cs:List T} {α:Type} {g:α->aK} {f:α->Option aK}: ∀{xs:List α},(∀x∈xs,CE e t cs o l (g x)<|f x)-> ∀K,K (xs.filterMap f)->cW e t cs o l (xs.map g) K:=by
 intro xs;induction xs with
 |nil=>exact λO K h=>h
 |cons x xs i=>
  exact λq K h=>by
   refine q x (.head _) _ K ?_;have i:=λK=>i (λy Y=>q y<|.tail _ Y) K
   simp! only[nP] at h
   induction c:f x with
   |none=>simp! only[c] at h;exact i _ h
   |some y=>simp! only[c] at h;exact i _ h
theorem Fu {α β:Type} (c:α->Bool) (f:α->β) (xs:List α):xs.filterMap (λx=>if c x then aA (f x) else aF)=(xs.filter c).map f:=by
 induction xs with
 |nil=>rfl
 |cons x xs i=>
  simp! only[nP,xP]
  cases c x
  ·exact i
  ·exact QHd _ i
noncomputable def hP (p:aG×aG):Dat:=.tuple [.str p.1,.str p.2]
noncomputable def yR (ps:List (aG×aG)):Prop:= ∀p∈ps,p.1.length<=1000
section
theorem rb (h:x.length<=1000):jI r .lower (.d<|.str x) [] (.str<|cH x):=.lower (az h<|by decide)
theorem vC:cC r (.d<|.tuple [a,b]) 0 a:=.seq .t (by show (2:Int)<2^63;decide) (rfl:_=aA 0) rfl
theorem PZ:cC r (.d<|.tuple [a,b]) 1 b:=.seq .t (by show (2:Int)<2^63;decide) (rfl:_=aA 1) rfl
theorem AU (b:Bool) (h:(x==y)=b):gV r .Eq (.d<|.str x) (.d<|.str y) b:=.str (by induction b;exact .A6<|beq_eq_false_iff_ne.mp h;exact .eqT<|QHc.mp h)
theorem FO (b:Bool) (h:(x !=y)=b):gV r .NotEq (.d<|.str x) (.d<|.str y) b:=.str (by
 induction b
 ·exact .oW (QHY λq=>by rw[bne_iff_ne.mpr q] at h;exact yr h)
 ·exact .neT<|bne_iff_ne.mp h)
end
namespace B01
noncomputable def KP (H:List aK) (q:aG) (w:List (Nat×Sl)):Ls:=(aT,.own H)::(0,.inst)::(1,.val<|.str q)::w
theorem Dc (L:Nat) (hs:yR ps) (hl:ps.length<=1000) (hn:nm.length<=1000) (o:gL aB (cH nm)=aB):(aU<|L+1).R 1 [.str nm] (ps.map hP) (.list<|(ps.filter λp=>cH p.1==cH nm).map λp=>.str p.2):=by
 refine .all rfl ?_;rw[<-Fu];generalize F:(λp:aG×aG=>if cH p.1==cH nm then aA (sJ p.2) else aF)=f
 exact Nn FA 2 [] [ht<|cH nm,.ds<|ps.filterMap f] (aU L) [.str nm] (ps.map hP) _ rfl (rb hn) o (by rw[dY];exact az hl<|by decide)
  (λK h=>GF (λp P r K h=>by
   have x:=hs p P;rw[<-F] at h;induction c:cH p.1==cH nm with
   |true=>dsimp only at h;rw[c] at h;exact fL (.au cU<|.int 1) eE [.cmp .Eq (.sm .lower (.au cU<|.int 0) []) oO] (aU L) [ht p.1,ht<|cH p.1,.b aB,.b aB,.b aB,ht p.2] (KP (ps.map hP) (cH nm) [(201,.unb)]) (hP p) r K vC (rb x) (AU aB c) tt rfl tt PZ rfl h
   |false=>
    dsimp only at h;rw[c] at h
    exact fL (.au cU<|.int 1) eE [.cmp .Eq (.sm .lower (.au cU<|.int 0) []) oO] (aU L) [ht p.1,ht<|cH p.1,.b aE,.b aE,.b aE] (KP (ps.map hP) (cH nm) [(201,.unb)]) (hP p) r K vC (rb x) (AU aE c) ff rfl ff h) K h) .ret
theorem WW (L:Nat) (hs:yR ps) (hl:ps.length<=1000) (hn:nm.length<=1000) (o:gL aB (cH nm)=aB):(aU<|L+1).H 9 [.str nm] (ps.map hP) .none ((ps.filter λp=>cH p.1 !=cH nm).map hP):=by
 refine .del rfl ?_;have v:=QGO (λp:aG×aG=>cH p.1 !=cH nm) ps;rw[<-Fu];have F:=List.length_filterMap_le (λp:aG×aG=>if cH p.1 !=cH nm then aA (hP p) else aF) ps;generalize r:(λp:aG×aG=>if cH p.1 !=cH nm then aA (hP p) else aF)=f at*
 exact LG Gh 2 [] [ht<|cH nm,.ds<|ps.filterMap f] (aU L) [.str nm] (ps.map hP) _ _ rfl (rb hn) o (by rw[dY];exact az hl<|by decide)
  (λK h=>GF (λp P R K h=>by
   have x:=hs p P;rw[<-r] at h;induction c:cH p.1 !=cH nm with
   |true=>dsimp only at h;rw[c] at h;exact fL cU eE [.cmp .NotEq (.sm .lower (.au cU<|.int 0) []) oO] (aU L) [ht p.1,ht<|cH p.1,.b aB,.b aB,.b aB] [(aT,.own<|ps.map hP),(bR,.unb),(0,.inst),(1,.val<|.str<|cH nm),(201,.unb)] (hP p) R K vC (rb x) (FO aB c) tt rfl tt rfl h
   |false=>
    dsimp only at h;rw[c] at h
    exact fL cU eE [.cmp .NotEq (.sm .lower (.au cU<|.int 0) []) oO] (aU L) [ht p.1,ht<|cH p.1,.b aE,.b aE,.b aE] [(aT,.own<|ps.map hP),(bR,.unb),(0,.inst),(1,.val<|.str<|cH nm),(201,.unb)] (hP p) R K vC (rb x) (FO aE c) ff rfl ff h) K h) (by rw[dY];exact bD (na hl hl) F) ⟨.next,rfl,rfl⟩
theorem XZ (L:Nat) {ps:List (aG×aG)} (hl:ps.length<=1000):(aU<|L+1).R 2 [] (ps.map hP) (.list<|ps.map hP):=by
 refine .items rfl (dq.mpr λd Y=>by refine aS (ij.mp Y) λO O e=>?_;erw[<-e];rfl) ?_;have c: ∀r v,gZ r v (ps.map hP)->gR r v (.d .none) (.d .none) (.d .none) (.list<|ps.map hP):=λr v h=>by have:=gR.lst h .none .none .none nofun (by rw[dY];exact az hl (by decide):(ps.map hP).length<=16777216);rwa[Wg] at this
 exact Nn CR 1 [] [.d<|.list<|ps.map hP] (aU L) [] (ps.map hP) _ rfl (c _ _<|.bor rfl) .ret
theorem Fg (h:t.length<=1000) (M:x.length<=1000):nU x [t]:=by
 delta nU QGP;have:t.length+x.length<=sizeLine:=by refine (?_);exact az (iF ‹_› ‹_›) (by decide)
 simpa -iota using this
theorem FN (L:Nat) (hl:hs.length<=1000) (hn:tx.length<=1000) (h:gL aB nm=aB) (o:gL aE tx=aB):(aU<|L+1).H 0 [.str nm,.str tx] hs .none (hs++[.tuple [.str nm,.str tx]]):=.add rfl (LG yz 4 [.emp] [.b aE,.b aB,ht tx] (aU L) [.str nm,.str tx] hs _ _ rfl nofun tt o (by decide) h (.join (.bor rfl)<|Fg hn<|by decide) (ig hl<|by decide) ⟨.next,rfl,rfl⟩)
end B01
end
section
open PySem.StrLaws PySem.Builtin.Str
theorem Ef {p:Nat->Bool}: ∀{k s i:Nat},gb p k s=aA i-> ∀j,s<=j->j<i->p j=aE
 |0,s,i,h=>ay h
 |k+1,s,i,h=>by
  unfold gb at h
  split at h
  ·cases h;intro j H m;exact QHZ ‹_› (iH.mpr ‹_›)
  ·rename_i q
   intro j H m;by_cases e:j=s
   ·subst e
    simpa using q
   ·exact Ef h j (((uu e).elim (λu=>(bD (na H u) H)) λu=>u)) m
theorem KY: ∀{k s:Nat},gb p k s=aF-> ∀j,s<=j->j<s+k->p j=false:=by
 intro k;induction k with
 |zero=>exact @λs h j H i=>QHZ H<|II.mpr i
 |succ k d=>
  exact @λs h j H i=>by
   unfold gb at h;by_cases q:p s=aB
   ·rw[if_pos q] at h
    exact qO h
   ·rw[if_neg q] at h
    by_cases e:j=s
    ·erw[e]
     simpa using q
    ·exact d h j (((uu e).elim (λu=>(bD (na H u) H)) λu=>u))<|aQ i
theorem UY: ∀(r:List aG) (a:Array Nat),(r.foldl (λa p=>a++(#[])++p.cps) a).toList=a.toList++(r.map (·.cps.toList)).flatten:=by
 intro O;induction O with
 |nil=>exact λa=>by simp
 |cons p r i=>exact λa=>by rw[ot,i];simp
theorem LI (ts:List aG):(qC ts).cps.toList=(ts.map (·.cps.toList)).flatten:=by
 delta qC;induction ts with
 |nil=>rfl
 |cons t ts=>delta DJ glued;refine (?_:(ts.foldl (λa p=>a++(#[]:Array Nat)++p.cps) t.cps).toList=_);rw[UY];rfl
noncomputable def e2:List Nat->List Nat
 |[]=>[]
 |[c]=>if c==13||c==10 then [13,10] else [c]
 |c::d::r=>if c==13 && d==10 then 13::10::e2 r else if c==13||c==10 then 13::10::e2 (d::r) else c::e2 (d::r)
theorem EE:e2 []=[]:=rfl
theorem Hf {c}:e2 [c]=if c==13||c==10 then [13,10] else [c]:=rfl
theorem EM {c d r}:e2 (c::d::r)=if c==13 && d==10 then 13::10::e2 r else if c==13||c==10 then 13::10::e2 (d::r) else c::e2 (d::r):=rfl
theorem Vm (h:c≠13/\c≠10) (r:List Nat):e2 (c::r)=c::e2 r:=by
 have a:(c==13)=false:=by simp[h.1]
 have b:(c==10)=false:=by simp[h.2]
 induction r<;>simp[EE,Hf,EM,a,b]
theorem Bs: ∀p r,(∀c∈p,c≠13/\c≠10)->e2 (p++r)=p++e2 r:=by
 intro O;induction O with
 |nil=>exact λO O=>rfl
 |cons c p i=>exact λr h=>by rw[sV,Vm<|h c<|.head _,i r λd Y=>h d<|.tail _ Y];rfl
theorem Oo (r:List Nat):e2 (10::r)=13::10::e2 r:=by induction r<;>(rfl)
theorem Jm (r:List Nat):e2 (13::10::r)=13::10::e2 r:=by rfl
theorem J8 (h:r.head?≠aA 10):e2 (13::r)=13::10::e2 r:=by
 induction r with
 |nil=>rfl
 |cons d r=>
  have:(d==10)=false:=by simp;intro e;apply h;simp[e]
  simp[EE,Hf,EM,this]
theorem zS {t:List Nat} (h:a<t.length):t.drop a=t.getD a 0::t.drop (a+1):=by erw[H8 h];simp[Ii,h]
theorem vQ (t:Array Nat) (a:Nat):t.getD a 0=t.toList.getD a 0:=by simp[Ii,IP]
theorem BU (t:Array Nat) (a b:Nat):(t.extract a b).toList=(t.toList.drop a).take (b - a):=by simp
theorem Oz {l:List Nat} (h:c∈(l.drop d).take (a - d)): ∃j,d<=j/\j<a/\j<l.length/\l.getD j 0=c:=by refine aV (List.getElem?_of_mem h) λi t=>?_;have H:=(zZ.mp t).1;simp at H;rw[List.getElem?_take_of_lt<|(bD H<|QGQ (a - d)<|l.length - d),List.getElem?_drop] at t;refine (kU (d+i) (mO _ _) (((Qo (a)<|d).elim (λu=>(cY (na H<|nL<|fz ((aQ<|nL<|xI (u:a<=d)):a - d<=l.length - d))<|nL<|xI (u:a<=d))) λu=>(bD (na (nL<|sE (u:d<=a)) H)<|QGQ (a - d)<|l.length - d))) (((Qo (l.length)<|d).elim (λu=>(cY (na H<|nL<|QFk ((aQ<|nL<|xI (u:l.length<=d)):l.length - d<=a - d))<|nL<|xI (u:l.length<=d))) λu=>(bD (na (nL<|sE (u:d<=l.length)) H)<|Cw (a - d)<|l.length - d))) ?_);simp[Ii,t]
theorem Oa (x:aG):(q2 x).cps.toList=e2 x.cps.toList:=by
 dsimp only[q2];rw[LI]
 have key: ∀k d,d<=x.cps.size->x.cps.size<d+k->((hF (rO x.cps) yu x.cps k d).map (·.cps.toList)).flatten=e2 (x.cps.toList.drop d):=by
  intro k;induction k with
  |zero=>intro d u m;exact QHZ ‹_› (iH.mpr ‹_›)
  |succ k z=>
   intro d u m;have hlen:x.cps.toList.length=x.cps.size:=js;induction hn:rO x.cps d with
   |none=>
    erw[BE hn];unfold rO at hn;have N:=KY<|QGR.mp hn;have C: ∀c∈x.cps.toList.drop d,c≠13/\c≠10:=by intro c W;refine sv (Oz (by erw[uY<|by simp];exact W:c∈(x.cps.toList.drop d).take (x.cps.size - d))) λj r Y t o=>?_;erw[<-o];have:=N j r<|(bD Y<|nR<|sE ((aQ u):d<=x.cps.size+1));unfold hj at this;rw[vQ] at this;have hb:cP j x.cps.size=true:=sS Y;rw[hb,Cv,Po] at this;generalize x.cps.toList.getD j 0=v at this⊢;simp at this;omega
    have:=Bs (x.cps.toList.drop d) [] C;rw[eZ] at this;erw[this];dsimp only[EE,Hf,EM,eZ];by_cases q:d<x.cps.size
    ·simp only[q,if_true,gB,jq,DR,Ij,eZ,BU]
     exact uY (by simp)
    ·simp only[q,if_false]
     erw[uw<|jN ‹_›];rfl
   |some p=>
    obtain ⟨a,e⟩:=p;erw[Bb hn];have H:=(LC d a e hn);have l:=H.1;have P:=H.2.1;have M:=H.2.2;unfold rO at hn;refine aS (lN.mp hn) λR K n=>?_;clear u hlen hn;cases n;have b:=Ef K;have H:=(yv K);have A:=H.1;have C: ∀c∈(x.cps.toList.drop d).take (a - d),c≠13/\c≠10:=by intro c W;refine sv (Oz W) λj r Y t o=>cx o ?_;have:=b j r Y;unfold hj at this;rw[vQ] at this;have hb:cP j x.cps.size=true:=sS (by assumption);rw[hb,Cv,Po] at this;generalize x.cps.toList.getD j 0=v at this⊢;simp at this;omega
    have s:x.cps.toList.drop d=(x.cps.toList.drop d).take (a - d)++x.cps.toList.drop a:=by
     conv=>lhs;rw[<-sY (a - d) (x.cps.toList.drop d)]
     rw[QGE,show d+(a - d)=a by exact QK ‹_›]
    have Q:e2 (x.cps.toList.drop a)=13::10::e2 (x.cps.toList.drop<|qL x.cps a):=by
     unfold hj at A;rw[gn] at A;have L:a<x.cps.size:=bJ A.1;have W:=A.2;dsimp only[qL];rw[vQ] at W⊢;rw[vQ,zS (by assumption:a<x.cps.toList.length)];generalize B:x.cps.toList.getD a 0=v at*;simp only[IK,beq_iff_eq] at W;clear z m l K H P M b A C s B;rcases W with rfl|rfl
     ·rw[Oo]
      rfl
     ·by_cases q:a+1<x.cps.size
      ·rw[zS (by assumption:a+1<x.cps.toList.length)]
       have hb:cP (a+1) x.cps.size=true:=sS q;rw[hb];by_cases q2:x.cps.toList.getD (a+1) 0=10
       ·rw[q2,Jm]
        rfl
       ·rw[J8<|by simpa using q2]
        have:(x.cps.toList.getD (a+1) 0==10)=false:=by simpa using q2
        rw[this];simp only[uq,wy,if_false];rw[zS (by omega:a+1<x.cps.toList.length)]
      ·have hb:cP (a+1) x.cps.size=false:=by
        rw[uQ];intro h;have:=bJ h;clear L;exact cY (jN q) this
       rw[hb];simp only[IL,uq,wy,if_false];rw[uw<|jN ‹_›];rfl
    have i:=z (qL x.cps a) M<|bD (na m l) P;rw[s,Bs _ _ C,Q,gp,List.flatten_append,gB,DR,i]
    congr 1
    by_cases q:d<a
    ·simp only[q,if_true,gB,jq,DR,Ij,eZ,BU]
    ·simp only[q,if_false]
     rw[show a - d=0 by exact (jk (bD (nL<|sE (l:d<=a))<|jN q)<|by simp+arith)];rfl
 rw[key (x.cps.size+1) 0 (hJ _)<|gA _ _];rfl
noncomputable def e1:Bool->List Nat->List Nat
 |_,[]=>[]
 |b,c::r=>(if b && c==46 then [46,46] else [c])++e1 (c==10) r
theorem zF {u0}:e1 u0 []=[]:=rfl
theorem m9 {b c r}:e1 b (c::r)=(if b && c==46 then [46,46] else [c])++e1 (c==10) r:=rfl
noncomputable def zT (b:Bool) (p:List Nat):Bool:=match p.getLast? with|none=>b|some c=>c==10
theorem OB (x:aG):(q1 x).cps.toList=e1 aB x.cps.toList:=by
 delta q1;rw[LI];have hlen:x.cps.toList.length=x.cps.size:=js
 let fl:Nat->Bool:=λd=>if d=0 then aB else x.cps.toList.getD (d - 1) 0==10
 have Y: ∀s,s<x.cps.size->lJ x.cps s=(fl s && x.cps.toList.getD s 0==46):=by
  intro s hs;have hb:cP s x.cps.size=true:=sS hs;delta lJ yc;simp only[hb,Pw,vQ,vQ];refine (?_:_=((if s=0 then aB else x.cps.toList.getD (s - 1) 0==10) && _));generalize x.cps.toList.getD (s - 1) 0=u;generalize x.cps.toList.getD s 0=v;by_cases q:s=0
  ·erw[q]
   rfl
  ·have:(s==0)=false:=by simpa using q
   simp[q,this]
 have step: ∀d,d<x.cps.size->e1 (fl d) (x.cps.toList.drop d)=(if lJ x.cps d then [46,46] else [x.cps.toList.getD d 0])++e1 (fl<|d+1) (x.cps.toList.drop<|d+1):=by intro d hd;simp only[zS (by omega:d<x.cps.toList.length),zF,m9,Y d hd];rfl
 have run: ∀n d,d+n<=x.cps.size->(∀j,d<=j->j<d+n->lJ x.cps j=aE)->e1 (fl d) (x.cps.toList.drop d)=(x.cps.toList.drop d).take n++e1 (fl<|d+n) (x.cps.toList.drop<|d+n):=by
  intro n;induction n with
  |zero=>intro d _ _;simp
  |succ n z=>intro d H h;simp only[step d<|ig (mO _ _) ‹_›,h d (by simp+arith) (by simp+arith),z (d+1) (aQ H) λj P W=>h j (sD ‹_›)<|aQ W];simp only[zS (ig (mO _ _) ‹_› :d<x.cps.toList.length),List.take_succ_cons,show d+1+n=d+(n+1) by exact zt _ _ _];rfl
 have key: ∀k d,d<=x.cps.size->x.cps.size<d+k->((hF (se x.cps) yo x.cps k d).map (·.cps.toList)).flatten=e1 (fl d) (x.cps.toList.drop d):=by
  intro k;induction k with
  |zero=>intro d H h;exact QHZ ‹_› (iH.mpr ‹_›)
  |succ k z=>
   intro d H h;induction hn:se x.cps d with
   |none=>
    erw[BE hn];unfold se at hn;have N:=KY<|QGR.mp hn;have r:=run (x.cps.size - d) d (aQ<|sL (by assumption:d<=x.cps.size)) N;simp only[r,show d+(x.cps.size - d)=x.cps.size by exact QK ‹_›,uw (qm ‹_› :x.cps.toList.length<=x.cps.size)];simp only[zF,m9,eZ];erw[uY<|by simp];by_cases q:d<x.cps.size
    ·simp only[q,if_true,gB,jq,DR,Ij,eZ,BU]
     exact uY (by simp)
    ·simp only[q,if_false]
     erw[uw<|jN ‹_›];rfl
   |some p=>
    obtain ⟨a,e⟩:=p;refine sb (Bb hn)<|eN (L8 d a e hn) λl M K=>aS (lN.mp hn) λR Q g=>?_;clear hn l M;cases g;have b:=Ef Q;refine eN (yv Q) λA O O=>?_;have r:=run (a - d) d (bD K<|sL (by assumption:d<=a)) (λj P W=>b j P<|bD W<|sL (by assumption:d<=a));rw[show d+(a - d)=a by exact (vY<|sE ((aQ ‹d<=a›):d<=a))] at r;refine sb r<|sb (step a<|aQ K)<|sb A<|sb (if_pos rfl) ?_;have i:=z (a+1) K<|(bD h ‹d<=a›);simp only[List.map_append,List.flatten_append,List.map_cons,List.flatten_cons,i]
    congr 1
    by_cases q:d<a
    ·simp only[q,if_true,gB,jq,DR,Ij,eZ,BU]
    ·simp only[q,if_false]
     erw[((jk (bD (nL<|sE ((aQ ‹d<=a›):d<=a))<|jN q)<|by simp+arith):a - d=0)];rfl
 erw[key (x.cps.size+1) 0 (hJ _)<|gA _ _];rfl
theorem ZL: ∀p r b,e1 b (p++r)=e1 b p++e1 (zT b p) r:=by
 intro p;induction p with
 |nil=>exact λO O=>rfl
 |cons c q i=>
  exact λr b=>by
   induction q with
   |nil=>simp[zF,m9,zT]
   |cons d p O=>
    rw[sV,m9,i r<|c==10];have:zT b (c::d::p)=zT (c==10) (d::p):=by rfl
    erw[this]
    conv=>rhs;lhs;rw[m9]
    rw[ik]
theorem Jk: ∀p,(∀c∈p,c≠10)->e1 aE p=p:=by
 intro O;induction O with
 |nil=>exact λO=>rfl
 |cons c p i=>
  exact λh=>by
   have:(c==10)=false:=by simpa using h c (.head _)
   simp only[zF,m9,this,i λd Y=>h d<|.tail _ Y];rfl
namespace B01
theorem Xx (L:Nat) (h:x.cps.size<=100000) (H:(q2 x).cps.size<=400000):(aU<|L+1).F 9 [.str x] (.str<|q1<|q2 x):=.q rfl rfl rfl (az h<|by decide) H
end B01
end
section
theorem Rg {t:ba nT} {s:aN} {P:aN->Prop} (z:s.asleep)
 (h:f6 (aY p w) ⟨.builtin "claim.caller" {},aF,aF,[],aF⟩ t (λdc O F=>dc=.done (.ret .none)/\F.gens= #[]/\P F) (λO O O=>False) d s):
 ∃N n g,N.gens= #[]/\P N/\DL (kF DK) p w n (.single s ⟨t,.builtin "claim.caller" {},d,[]⟩)=.running (.single N g)/\through g=true:=by
 have U:=(wp_iff_halts t (λr F=>r=.ok (.ret .none)/\F.gens= #[]/\P F) d s).mp
  (Ik _ _ _ (λdc Q F q=>by
   clear z;obtain ⟨rfl,x,q⟩:=q
   exact ⟨⟨rfl,x,q⟩,by rw[show QGS F.gens=aE from by rw[x];simp -iota [QGS]]⟩) (λO O O q=>q.elim) _ _ h)
 refine dk U λn r F u o x K=>?_;subst o;refine cy (runNI_real (kF DK) p w u<|outcomeOf_ends _) λi R f C=>?_;clear h U u;obtain rfl:=Shared.eq_of_forget_eq f x;refine oI (QEI n _ _ R) λk H Y a b=>bI (Wz b) λc e=>?_;clear R f b;subst e;exact (p9 _ k Y x K (TY k _ _ z C a) c)
theorem vd {E:aI->bP->aN->Prop}: ∀l p s,
 f6 M Γ (fX l env) (λf P n=>f=.next/\f6 M Γ (fX r env) Q E P n) E p s->f6 M Γ (fX (l++r) env) Q E p s:=by
 intro O;induction O with
 |nil=>exact λp s h=>by dsimp only[QGT,DT] at h;exact h.2
 |cons N l i=>
  exact λp s h=>by
   simp! only[Q3,pR] at h
   rw[sV,Q3,pR];refine Ik _ _ _ (λf P n q=>?_) (λO O O q=>q) _ _ h;induction f with
   |next=>exact i P n q
   |_=>dsimp only[DT] at q;exact QHZ q.1 (by intro z;contradiction)
end
namespace B01
noncomputable def ER:List bH->BT->Nat->Bool
 |[],_,_=>aB
 |o::r,t,n=>((t.ins n o).get n).isSome && ER r (t.ins n o) (n+1)
theorem QBg: ∀l t n,ER l t n=aB->(∀i,i<n->(rS t n l).get i=t.get i)/\ ∀j (o:bH),l[j]?=aA o->(rS t n l).get (n+j)=aA o:=by
 intro O;induction O with
 |nil=>exact λt n O=>⟨λO O=>rfl,λj o h=>by simp -iota at h⟩
 |cons o r d=>
  exact λt n h=>by
   refine bI (f7.mp h) λA H=>bI (d (t.ins n o) (n+1) H) λa b=>?_;have g:=BT.get_ins o t n A;refine ⟨λi M=>?_,λj o' s=>?_⟩
   ·refine (?_)
    exact sb (a i<|sP ‹_›)<|sb (g i)<|sb (if_neg<|Nat.ne_of_lt ‹_›) rfl
   ·refine (?_)
    induction j with
    |zero=>
     refine sb (a n<|uc _)<|sb (g n)<|sb (if_pos rfl) ?_
     simpa -iota using s
    |succ j=>simp! only[show n+(j+1)=n+1+j by simp+arith];exact b j o' (by simpa -iota using s)
theorem SR (P:bZ) (X:Nat->bH):ER (Xs X) (uA P) 138=true:=by lia
theorem Vv {X:Nat->bH} (e:h=pJ (uA P) 138 {}) (hs:h'.objs.size=177) (s: ∀b,b<138->h'.objs[b]?=h.objs[b]?) (hl:h'.life=h.life) (x: ∀j,j<39->h'.objs[138+j]?=aA (X<|138+j)):
 h'=pJ (rS (uA P) 138<|Xs X) 177 {}:=by
 refine bI (QBg _ _ _<|SR P X) λt g2=>?_
 have o:h'.objs=(pJ (rS (uA P) 138<|Xs X) 177 {}).objs:=by
  apply Array.ext_getElem?;intro i;rw[Il];by_cases A:i<138
  ·rw[s i A,e,Il,if_pos A,if_pos (by exact az ‹_› (gA _ _)),t i A]
  ·by_cases H:i<177
   ·obtain ⟨j,rfl⟩: ∃j,i=138+j:=⟨i - 138,by exact (vY (sE ((aQ<|jN A):138<=i)).symm)⟩
    have g:j<39:=aQ H
    refine sb (QHb H)<|sb (x j g)<|sb (g2 j (X<|138+j) (by unfold Xs;rw[List.getElem?_map,List.getElem?_range g];rfl)) ?_
    rfl
   ·rw[if_neg H]
    exact Array.getElem?_eq_none<|bD (nL hs)<|jN H
 have f:h'.life={}:=by simp! only[hl,e];rfl
 obtain ⟨a,b⟩:=h';have:b={}:=f;exact sb this<|congrArg (Heap.mk · {}) o
end B01
namespace B01
noncomputable def QCj:Around:={handled:=aF,depth:=1000,frames:=aF,guards:=aF,units:=1000}
theorem Zy:Γ1.In QCj:=by
 refine (E3 rfl ?_ ?_ ?_ ?_)
 ·decide+kernel
 ·intro l h
  exact ay h
 ·intro l h
  exact ay h
 ·decide+kernel
theorem WO:AF pg=sl 0 18++(sl 18 1++(sl 19 1++([wO]++(sl 21 6++(sl 27 1++sl 28 15))))):=by lia
theorem QBm:wO=.Assign [.Name "b3_exceptions" ⟨144,0,144,13⟩] (.Dict x6 xf xT) ⟨144,0,144,8704⟩:=by lia
theorem UX: ∀(l:List (Int×fY)) (a:Int),Az a l=aB-> ∀x∈l,a<x.1:=by
 intro O;induction O with
 |nil=>exact λO O x h=>by contradiction
 |cons O r d=>
  obtain ⟨k,y⟩:=O
  exact λa h x M=>by
   refine bI (f7.mp h) λH i=>?_;have H:=QHg H;rcases bp.mp M with rfl|M
   ·exact H
   ·have:=d k i x M
    exact Ib ‹_› ‹_›
theorem Xb: ∀(l:List (Int×fY)) (a:Int),Az a l=aB->(l.map (·.1)).Nodup:=by
 intro O;induction O with
 |nil=>exact λO O=>QFM
 |cons O r i=>obtain ⟨k,y⟩:=O;exact λa h=>by refine bI (f7.mp h) λA H=>?_;rw[gB,Pu];refine ⟨λm=>?_,i k H⟩;refine aS (ij.mp m) λx M e=>?_;have:=UX r k H x M;simp only[e] at this;exact QHZ this (Int.lt_irrefl _)
theorem RP {h:bK} (e:h.get? b=aA (fB l n)):h.objs.getD b default=fB l n:=by
 unfold wZ at e;rw[IP];revert e;generalize h.objs[b]?=x;intro e;induction x with
 |none=>exact ay e
 |some o=>refine (?_);obtain ⟨z,A,p,a⟩:=o;cases p<;>first|exact ay e|exact Option.some.inj e
theorem UN {w:bz} (z:s.heap.objs.size=138) (hl:l.length=650) (N:(l.map (·.1)).Nodup):
 aO (aY prog w) A (QY<|jG p l) (λv F=> ∃h' es,v=.ref 138/\F={s with heap:=h',toks:=s.toks+1950}/\h'.objs.size=177/\(∀b,b<138->h'.objs[b]?=s.heap.objs[b]?)/\h'.life=s.heap.life/\dO l es/\h'.get? 138=aA (fB es es.length)) (λO O=>False) s:=by
 refine YY (n:=37) (aQ<|nR z) (by assumption) N (by (erw[hl];erw[AG]);decide) λh' G=>?_;refine aS G.tab λes e d=>?_;rw[z] at d⊢;exact (ZF h' es rfl rfl (by (erw[G.size];exact sb z rfl)) (λb B=>G.same b (by simp only[z];exact B)) G.life e d)
theorem Xy {w:bz} {vs:List nS} (i:(Qh ks env).zip ((Qi vs env).map λv=>do let x<-v;sO p;pure x)=jG p l) (z:s.heap.objs.size=138) (hl:l.length=650) (n:(l.map (·.1)).Nodup):
 aO (aY prog w) A (b7 (.Dict ks vs p) env) (λv F=> ∃h' es,v=.ref 138/\F={s with heap:=h',toks:=s.toks+1950}/\h'.objs.size=177/\(∀b,b<138->h'.objs[b]?=s.heap.objs[b]?)/\h'.life=s.heap.life/\dO l es/\h'.get? 138=aA (fB es es.length)) (λO O=>False) s:=by
 simp only[arm_eval_Dict,i];exact aR<|iJ<|UN z hl n
theorem yT {w:bz} (z:Γ.In A) {p q q2 pos:bP} {vs:List nS} (i:(Qh ks env).zip ((Qi vs env).map λv=>do let x<-v;sO p;pure x)=jG p l) (Z:s.heap.objs.size=138) (hl:l.length=650) (n:(l.map (·.1)).Nodup)
 {E:aI->bP->aN->Prop} (u:jo [.Name nm q] (.Dict ks vs p) pos.line env=pure aE) (H:mT [.Name nm q] (.Dict ks vs p) env=pure aF)
 (h: ∀P h' es,h'.objs.size=177->(∀b,b<138->h'.objs[b]?=s.heap.objs[b]?)->h'.life=s.heap.life->dO l es->h'.get? 138=aA (fB es es.length)->
  f6 (aY prog w) Γ (do sO q;z7 env nm (.ref 138);pure .next) Q E P {s with heap:=h',toks:=s.toks+1950}):f6 (aY prog w) Γ (o6 (.Assign [.Name nm q] (.Dict ks vs p) pos) env) Q E q2 s:=by
 rw[QB,u,H,pR];refine (Sem.wp_cmd_standAt ..).mpr ?_;rw[pR,DT,if_neg (by decide),pR];refine Ik _ _ _ (λv P F q=>?_) (λO O O q=>q.elim) _ _<|Xy i Z hl n Γ _ z;exact a_ q λh' es B o a b c d e=>sb B<|sb o<|h P h' es a b c d e
end B01
namespace B01
theorem JH (w:bz):(jo [.Name "b3_exceptions" ⟨144,0,144,13⟩] (.Dict x6 xf xT) (⟨144,0,144,8704⟩:bP).line iO=pure aE)/\(mT [.Name "b3_exceptions" ⟨144,0,144,13⟩] (.Dict x6 xf xT) iO=pure aF):=⟨rfl,rfl⟩
theorem Z8 (w:bz) (os:eH) (p:bP) {E:aI->bP->aN->Prop}
 (h: ∀X,kM X->Q .next ⟨144,0,144,13⟩ (Ay w.params X os).abs):f6 (aY pg w) Γ1 (o6 wO iO) Q E p (rv w.params os).abs:=by
 have z:(rv w.params os).abs.heap.objs.size=138:=QL _ _ _;erw[QBm]
 with_reducible refine yT Zy QCh z QCD (Xb _ _ VY) (JH w).1 (JH w).2 ?_
 intro C h' c A s l v d
 have M: ∀j,j<39->h'.objs[138+j]?=aA ((λb=>h'.objs.getD b default)<|138+j):=λj g=>by
  refine (?_:_=aA (h'.objs.getD (138+j) default));refine sb (IP)<|sb (Array.getElem?_eq_getElem<|bD (nR A) g) ?_
  rfl
 have e:=Vv (P:=w.params) (h:=(rv w.params os).abs.heap) (h':=h') (X:=λb=>h'.objs.getD b default) rfl A s l M;have x:kM (λb=>h'.objs.getD b default):=(ax c v<|RP d);generalize (λb=>h'.objs.getD b default)=X at*;erw[e];have n:({(rv w.params os).abs with heap:=pJ (rS (uA w.params) 138<|Xs X) 177 {},toks:=(rv w.params os).abs.toks+1950}:aN)=(PK w.params X os).abs:=by lia
 erw[n];have q:=h X x;have K:=(Ld 1000).1 _ _ _ _ _ _ (pD w X os C) Q E q;rw[<-Im] at K;unfold QGU
 with_reducible exact K
end B01
namespace B01
section
variable {den:Code->ba nT} {pr:sH} {w:bz}
theorem qb {k:Nat} {α:Type} {m:ba α} {a:α} (e:gh den pr w.params k α Γ p P m=aA (.ok a,C,s')) (hs:s=P.abs) {Q:α->bP->aN->Prop} {E:aI->bP->aN->Prop} (h:Q a C s'.abs):f6 ⟨den,pr,w⟩ Γ m Q E p s:=hs▸(Ld k).1 _ _ _ _ _ _ e _ _ h
theorem Sf {env:cg} {m:PySem.Module} {P:aN->Prop} {i l a:hO} {c:aI}
 (M:gh den pr w.params 1000 aI Γ0 default i (Qd m)=aA (.ok c,default,l)) (hs:s=i.abs)
 (N:gh den pr w.params 1000 aM Γ0 default l (Qe c lS lS)=aA (.ok f,default,a))
 (e:env={scope:=m.scope,locals:=lS,globals:=lS,cells:=[],code:=c,frame:=aA f})
 (hd:den (.body body env)=(do Qg body env;return .done (<-(fX body env).onRaise (leaving env))))
 (B:gh den pr w.params 1000 Unit (Γ0.enter (.body body env) aF default) default a (Qg body env)=aA (.ok (),default,a))
 (v:f6 ⟨den,pr,w⟩ (Γ0.enter (.body body env) aF default) (fX body env) (λfl O n=>P n) (λO O O=>False) default a.abs):
 f6 ⟨den,pr,w⟩ Γ0 (do let code<-Qd m;let frame<-Qe code lS lS;let _<-run (.body body {scope:=m.scope,locals:=lS,globals:=lS,cells:=[],code,frame:=aA frame});ret .none) (λdc O n=>dc=.done (.ret .none)/\P n) (λO O O=>False) default s:=by
 rw[pR];refine qb M hs ?_;rw[pR];refine qb N rfl ?_;rw[<-e,pR];unfold PySem.run;rw[Sem.wp_call,QFX];refine (?_:f6 _ (Γ0.enter (.body body env) aF default) (den<|.body body env) _ _ _ _);rw[hd,pR];refine qb B rfl ?_;rw[pR,Sem.wp_onRaise];refine Ik _ _ _ (λfl p n q=>?_) (λO O O q=>q.elim) _ _ v;rw[DT];exact ⟨rfl,q⟩
theorem Xc {M:Ctx} {env:cg} {l L U n F q:List cq} {st:cq} {r p f p3 a p5 u R:bP} {c i j s:hO} {o:(Nat->bH)->Prop} {t z v g:(Nat->bH)->hO} {Y C e K N n7:Nat} {P:aN->Prop}
 (A:gh den pr w.params Y hM M r c (fX l env)=aA (.ok .next,p,i)) (h:gh den pr w.params C hM M p i (fX L env)=aA (.ok .next,f,j)) (H:gh den pr w.params e hM M f j (fX U env)=aA (.ok .next,p3,s))
 (hd: ∀Q,(∀X,o X->Q .next a (t X).abs)->f6 ⟨den,pr,w⟩ M (o6 st env) Q (λO O O=>False) p3 s.abs)
 (d: ∀X,gh den pr w.params K hM M a (t X) (fX n env)=aA (.ok .next,p5,z X)) (b: ∀X,gh den pr w.params N hM M p5 (z X) (fX F env)=aA (.ok .next,u,v X)) (B: ∀X,gh den pr w.params n7 hM M u (v X) (fX q env)=aA (.ok .next,R,g X))
 (hP: ∀X,o X->P (g X).abs):f6 ⟨den,pr,w⟩ M (fX (l++(L++(U++([st]++(n++(F++q)))))) env) (λO O W=>P W) (λO O O=>False) r c.abs:=by
 refine vd _ _ _<|qb A rfl ⟨rfl,?_⟩;refine vd _ _ _<|qb h rfl ⟨rfl,?_⟩;refine vd _ _ _<|qb H rfl ⟨rfl,?_⟩;refine vd _ _ _ ?_
 simp! only[Q3,pR]
 refine hd _ λX x=>(?_);rw[QGT,DT];refine ⟨rfl,?_⟩;refine vd _ _ _<|qb (d X) rfl ⟨rfl,?_⟩;refine vd _ _ _<|qb (b X) rfl ⟨rfl,?_⟩;exact qb (B X) rfl (hP X x)
end
noncomputable def zR (P:bZ) (os:eH):Shared:=⟨pJ (uE P) 28 {}, #[],{},276,os⟩
noncomputable def Fb (P:bZ) (os:eH) (s:aN):Prop:=s.gens= #[]/\ ∃X,kM X/\s=(vB P X os).abs
theorem Wr (w:bz) (os:eH) (X:Nat->bH) (x:kM X):Fb w.params os (vB w.params X os).abs:=⟨rfl,X,x,rfl⟩
theorem SK (w:bz) (os:eH) (p:bP) (Q:hM->bP->aN->Prop)
 (h: ∀X,kM X->Q .next ⟨144,0,144,13⟩ (Ay w.params X os).abs):f6 ⟨kF km,pg,w⟩ Γ1 (o6 wO iO) Q (λO O O=>False) p (rv w.params os).abs:=by
 erw[<-Im];have key:f6 (aY pg w) Γ1 (o6 wO iO) Q (λO O O=>False) p (rv w.params os).abs:=by with_reducible exact Z8 w os p h
 unfold QGU at key
 with_reducible exact key
theorem QCv (w:bz) (os:eH):f6 ⟨kF km,pg,w⟩ Γ1 (fX (AF pg) iO) (λO O s=>Fb w.params os s) (λO O O=>False) default (xv w.params os).abs:=by
 erw[WO]
 with_reducible exact Xc (pA w os) (pB w os) (pC w os) (SK w os _) (λX=>pE w X os) (λX=>pF w X os) (λX=>pG w X os)<|Wr w os
theorem v_ (w:bz) (os:eH):f6 ⟨kF km,pg,w⟩ Γ0 (topStub pg).cur (λdc O s=>dc=.done (.ret .none)/\Fb w.params os s) (λO O O=>False) default (zR w.params os):=Sf (pM w os) rfl (pN w os) rfl rfl (pK w os) (QCv w os)
end B01
namespace B01
noncomputable def qv:Program:={pg with main:={pg.main with body:=[bO 43]}}
noncomputable def mc:List fY:=pg.boundNames.filter λn=> !(n== "law")
noncomputable def gz (P:bZ) (X:Nat->bH) (os:eH):Shared:=(vB P X os).abs
noncomputable def Dh:List fY:=QGV pg.main.body
section
variable (P:bZ) (X:Nat->bH) (os:eH)
include P X os
theorem c1:seen ((recsOf qv).map (·.name)) (ownsOf qv) [] {gz P X os with gens:= #[]}=expectedOf qv:=by lia
theorem c2:(gz P X os).heap.bltView=bltViewBooted:=by lia
theorem c3:((gz P X os).heap.keysOk (Io qv mc) ((recsOf qv).map (·.name)) ((litsOf qv).map (·.1))<|(clssOf qv<|Io qv mc).map (·.name))=true:=by lia
theorem c4:(gz P X os).heap.accountedOkI Dh=true:=by lia
theorem c5:((gz P X os).heap.isNs nO && (gz P X os).heap.isNs ic && tablesOk qv (gz P X os).heap && aB && ((gz P X os).gens.size==0))=true:=by lia
theorem c6:tabsOk qv (gz P X os)=true:=by lia
theorem c7:pinSeenD qv (drecsOf qv) (gz P X os)=pinGoodD (drecsOf qv):=by lia
theorem c8:plainSeenE qv (Io qv mc) (gz P X os)=plainGoodE qv (Io qv mc):=by lia
theorem c9:plainSeenD qv mc (gz P X os)=plainGoodD qv mc:=by lia
theorem c10:wideSeen qv (gz P X os)=wideGood qv:=by lia
theorem So:clsSeenW qv mc (gz P X os)=clsGoodW qv mc:=by lia
theorem d1:staticsOk Dh (zR P os).heap (gz P X os).heap=true:=by lia
theorem d2:namesBound pg (gz P X os).heap=true:=by lia
theorem OP:gensDone (gz P X os)=true:=by lia
theorem d4:laidKept (zR P os).heap (gz P X os).heap=true:=by lia
end
theorem d6:chainsOk qv=true:=by lia
end B01
namespace B01
noncomputable def YP (w:bz) (h:bK):Prop:= ∃X,kM X/\ ∀b o,(pJ (eM w.params X) 414 {}).get? b=aA o->h.get? b=aA o
noncomputable def Lo:(fY->Option aI)->bK->Prop:=λO O=>True
theorem QEA (P:bZ) (X:Nat->bH):(bg 28).map (λb=>if b==2||b==3 then none else (uE P).get b)=(List.range 28).map (λb=>if b==2||b==3 then none else (eM P X).get b):=by lia
theorem XK (P:bZ) (X:Nat->bH) (b:aM) (o:bH) (h:(pJ (uE P) 28 {}).get? b=aA o) (N:b≠2) (n:b≠3):(pJ (eM P X) 414 {}).get? b=aA o:=by
 have B:b<28:=by have:=kh h;rwa[QL] at this
 have e:=QFf.mp (QEA P X) b<|sG.mpr B;simp only[beq_iff_eq,N,n,IK,or_self,if_false,Bool.or_false,decide_false] at e;unfold wZ at h⊢;rw[Il,if_pos B] at h;rw[Il,if_pos (mJ B (by decide):b<414)];exact cx (by simpa[N,n] using e:(uE P).get b=(eM P X).get b)<|h
theorem L_ (P:bZ) (X:Nat->bH) (os:eH):openSeen qv mc Dh (λO=>aB) aB (gz P X os)=openGood qv mc:=by delta openSeen openGood;simp only[c1,c2,c3,c4,c6,c7,c8,c9,c10,So];have:=c5 P X os;simp only[gn] at this⊢;refine bI this λQ e=>bI Q λq d=>?_;have H:=q.1;have c:=q.2;have a:=H.1;have b:=H.2;simp only[a,b,c,(e:(gz P X os).gens.size==0),Pw,if_true,Bool.and_self]
theorem NN (w:bz):(∃s,AfterRun (opening pg) w s)/\ ∀s,AfterRun (opening pg) w s-> ∃F,fenceModules? pg s=aA F/\F.gens= #[]/\ ∃N,TopRan pg w F N/\N.asleep/\N.gens= #[]/\N.heap.isNs nO=aB/\
 Ground qv mc [] Lo w N (N.heap.nsMap nO) (N.heap.nsMap ic) N.heap/\YP w N.heap/\N.toks=2870:=by
 refine aS (lN.mp<|pO w) λF h e=>?_;rw[<-Im] at h;refine aS (AE.mp h) λs H v=>?_;have A:=AfterImport.of_importEnds H;refine ⟨⟨s,A⟩,λi hs'=>?_⟩;obtain rfl:i=s:=AfterImport.unique hs' A;have z:F.asleep:=QX (fence_lifeW v) A.life;obtain ⟨os,rfl⟩: ∃os,F=zR w.params os:=by obtain ⟨a,g,d,t,os⟩:=F;refine ⟨os,?_⟩;simp only[sT] at e;clear hs' H A h v z;obtain ⟨rfl,rfl,rfl,rfl⟩:=e;rfl
 have wp:=v_ w os;rw[<-Im] at wp;refine dk (Rg (p:=pg) (w:=w) (t:=(topStub pg).cur) (s:=zR w.params os) (P:=λi=> ∃X,kM X/\i=(vB w.params X os).abs) z wp) λN n Y x Q r j=>aS Q λX M U=>?_;clear hs' H A h wp x Q;subst U;refine GV (ground_of_open (w:=w) (XP:=Lo) (λO O=>trivial) d6<|L_ w.params X os) λG g0 g1 g2 g3 W K=>⟨_,v,rfl,(vB w.params X os).abs,⟨(fA n Y r j),rfl,Shared.rest_eq rfl,λb o hb hn=>?_,g2,statics_of_ok<|d1 w.params X os,g3,W,K,gens_of_done<|OP w.params X os,names_of_bound<|d2 w.params X os,laid_of_kept<|d4 w.params X os⟩,QX rfl z,rfl,g1,G,(ax X M λO O e=>e),rfl⟩;exact XK w.params X b o hb (λq=>hn<|.inr<|.inl q) λq=>hn<|.inl q
end B01
namespace B01
noncomputable abbrev nE:OpenLaw:=QGW
theorem lb {a b:Bool} (x:a=aB) (y:b=aB):(a && b)=true:=by rw[x,y];rfl
noncomputable abbrev i3:Program:=nE.row.prog
theorem loA:sreFenced i3.main=true:=by lia
theorem Xm:((moduleNames i3.main.body).isEmpty||lookedIntoSs (moduleNames i3.main.body) i3.main.body)=true:=by lia
theorem loC:namesResolve i3=true:=by lia
theorem VM:(i3.boundNames.all λn=> !worldNames.contains n)=true:=by lia
theorem loU:Q4 i3 i3.main.body "vars" =false:=by lia
theorem UE:Q4 i3 i3.main.body "dir" =false:=by lia
theorem loW:Q4 i3 i3.main.body "locals" =false:=by lia
theorem Tz:Q5 {strict:= !(QGV i3.main.body).all cThrough.contains,foot:=aF,bare:=[]} i3.main.body=true:=by lia
theorem Rj {a b c:aG} {f:aG->Bool} (h:f a=aE) (g:f b=aE) (k:f c=aE):[a,b,c].filter f=[]:=by simp[h,g,k]
theorem loZ {s:Bool} {B:List aG} {b:List cq} (e:B=[]) (h:Q5 {strict:=s,foot:=aF,bare:=[]} b=aB):Q5 {strict:=s,foot:=aF,bare:=B} b=true:=by subst e;exact h
theorem loF:(namesMeet i3 i3.main.body λO n=>attrL n)=true:=by lia
theorem Zt:looksOpen i3=true:=lb (lb (lb (lb (lb loA Xm) loC) VM)<|loZ (Rj loU UE loW) Tz) loF
theorem Yl:nE.row.partSaid=true:=by
 unfold OpenRow.partSaid
 iterate 13 refine lb ?_ (by lia)
 exact Zt
theorem ML:nE.row.wellSaid=true:=by
 unfold OpenRow.wellSaid
 iterate 2 refine lb ?_ (by lia)
 exact Yl
theorem Uz:nE.wellSaid=true:=by
 unfold OpenLaw.wellSaid
 iterate 18 refine lb ?_ (by lia)
 exact ML
theorem holds_of_row (h:nE.row.Holds):QGW.Holds:=⟨Uz,h⟩
end B01
theorem QDZ (h:WShape.hasAll R args [.list .int]=aB): ∃ns:List Int,args=[ux<|xQ<|ns.map xR]:=by refine bf (hasAllW_cons h) λd r B A H=>sb B ?_;clear h B;obtain rfl:=hasAllW_nil H;exact aS (hasW_list A) λxs e Q=>sb e<|aV (items_int Q) λns e=>sb e<|⟨ns,by rw[<-ofPys_ints];rfl⟩
theorem ZR {i:Int} (x:Well P h v (.int i)): ∃t,v=.int i t:=by cases x;exact ⟨_,rfl⟩
theorem WB {X:aM->Prop} (ns:List Int): ∀vs:List aI,DU P h vs (ns.map WData.int)->bB X h vs (ns.map cB):=by
 induction ns with
 |nil=>
  intro vs w;induction vs with
  |nil=>exact .nil
  |cons v vs=>exact nomatch w
 |cons n ns i=>intro vs w;exact bf (QGX w) λv vs' B a b=>sb B<|aV (ZR a) λt e=>sb e<| .cons (.int _ _)<|i _ b
theorem Yp (x:Well P h v (.list xs)): ∃a vs o,v=.ref a/\h.get? a=aA o/\o=listOf vs.toArray 0/\DU P h vs xs:=by cases x with|list e r=>exact (p9 _ _ _ rfl e rfl r)
theorem Xi {X:aM->Prop} {ns:List Int} {vs:List aI} (w:DU P h vs [ux<|xQ<|ns.map xR]) (nx: ∀a o,h.get? a=aA o->o.cls≠ .none-> ¬ X a):bB X h vs [DH<|ns.map cB]:=by
 refine bf (QGX w) λv R B a b=>sb B ?_;have a:Well P h v (.list<|ofPys<|ns.map xR):=a;rw[ofPys_ints] at a;refine dk (Yp a) λA u o K e f r=>sb K ?_;subst f;clear B;induction R with
 |nil=>exact .cons (.lst (n:=0) e (nx _ _ e λq=>Value.noConfusion q)<|WB ns _ r) .nil
 |cons v vs=>exact nomatch b
namespace B01
noncomputable def dc (P:bZ) (X:Nat->bH):Heap:=pJ (eM P X) 414 {}
noncomputable def md:Obj:={cls:=.none,data:=.fields #[]}
theorem uz {X:Nat->bH} (h:a<414) (g:(eM P X).get a=aA o) (al:alive o=aA o'):(dc P X).get? a=aA o':=(IM h g).trans al
section
variable (P:bZ) (X:Nat->bH)
include P X
theorem Ak:(dc P X).get? 48=aA md:=uz (by decide) (by lia:(eM P X).get 48=aA md) (by lia)
theorem AX:(dc P X).get? 76=aA md:=uz (by decide) (by lia:(eM P X).get 76=aA md) (by lia)
theorem AW:(dc P X).get? 83=aA md:=uz (by decide) (by lia:(eM P X).get 83=aA md) (by lia)
theorem U_:(dc P X).get? 52=aA (ob 52 P):=uz (by decide) (by lia:(eM P X).get 52=aA (ob 52 P)) (by lia)
theorem QEK:(dc P X).get? 80=aA (ob 80 P):=uz (by decide) (by lia:(eM P X).get 80=aA (ob 80 P)) (by lia)
theorem SI:(dc P X).get? 87=aA (ob 87 P):=uz (by decide) (by lia:(eM P X).get 87=aA (ob 87 P)) (by lia)
end
theorem Ny (e:cu f=aA cf):cf=Bf\/cf=Bz\/cf=xV:=by
 refine aS (lN.mp e) λp u B=>cx B ?_;have h:=tJ _ _ _ u;simp only[uB,bp,gU,or_false,sT] at h;clear e u B;rcases h with ⟨-,rfl⟩|⟨-,rfl⟩|⟨-,rfl⟩
 ·exact .inl rfl
 ·exact .inr<|.inl rfl
 ·exact .inr<|.inr rfl
theorem yb (h:(iA cu iw).PF a):a=48\/a=76\/a=83:=by
 refine cQ h λf c e o=>sb o ?_;clear h o;rcases Ny e with rfl|rfl|rfl
 ·exact .inl rfl
 ·exact .inr<|.inl rfl
 ·exact .inr<|.inr rfl
noncomputable def OE:aI->Bool|.str .. =>aB|_=>aE
noncomputable def HN:aI->Bool|.int .. =>aB|_=>aE
noncomputable def O7:aI->Bool|.bool .. =>aB|_=>aE
theorem QDI (h:OE v=aB): ∃f t,v=.str f t:=by cases v<;>first|exact (lz _ _ rfl)|(exact br h)
theorem PW (h:HN v=aB): ∃f t,v=.int f t:=by cases v<;>first|exact (lz _ _ rfl)|(exact br h)
theorem QDs (h:O7 v=aB): ∃f,v=.bool f:=by cases v<;>first|exact ⟨_,rfl⟩|(exact br h)
theorem EH {X:aM->Prop} {vs:Array aI} (z:h.get? cf.own=aA o) (hd:o.data=.fields vs) (C:o.cls=.type "code") (F:vs.getD 11 .none=.ref cf.tab) (c:vs[11]?=aA (.ref cf.tab)) (Q:OE (vs.getD 18 .none)=aB)
 (B:HN (vs.getD 7 .none)=aB) (m:O7 (vs.getD 9 .none)=aB) (H:HN (vs.getD 10 .none)=aB) (a:h.get? cf.tab=aA md) (n:cf.own≠cf.tab) (nx: ¬ X cf.own):oN cf X h:=by
 exact jT (QDI Q) λf t Q=>jT (PW B) λK A B=>aV (QDs m) λb m=>jT (PW H) λx i H=>.mk (ps:= #[]) nx ⟨o,vs,f,t,K,A,b,x,i,md,z,hd,F,Q,B,m,H,a,rfl,trivial,n⟩ ⟨(jY o vs z C hd c),a⟩<|.inl rfl
theorem MI {X:Nat->bH} (B: ∀b o,(dc P X).get? b=aA o->h.get? b=aA o):(iA cu iw).Inv (iA cu iw).PF h:=by
 intro f cf e;have n: ∀a,a≠48->a≠76->a≠83-> ¬ (iA cu iw).PF a:=λa A i H q=>by rcases yb q with q|q|q<;>contradiction
 rcases Ny e with rfl|rfl|rfl
 ·exact EH (cf:=Bf) (B _ _<|U_ P X) (vs:=kR<|ob 52 P) (by lia) (by lia) (by lia) (by lia) (by lia) (by lia) (by lia) (by lia) (B _ _<|Ak P X) (by decide) (n 52 (by decide) (by decide)<|by decide)
 ·exact EH (cf:=Bz) (B _ _<|QEK P X) (vs:=kR<|ob 80 P) (by lia) (by lia) (by lia) (by lia) (by lia) (by lia) (by lia) (by lia) (B _ _<|AX P X) (by decide) (n 80 (by decide) (by decide)<|by decide)
 ·exact EH (cf:=xV) (B _ _<|SI P X) (vs:=kR<|ob 87 P) (by lia) (by lia) (by lia) (by lia) (by lia) (by lia) (by lia) (by lia) (B _ _<|AW P X) (by decide) (n 87 (by decide) (by decide)<|by decide)
end B01
section
open PySem.StrLaws
set_option exponentiation.threshold 100000
theorem RU (h:xs.length+ys.length<=16777216):ft r .Add (.d<|.list xs) (.d<|.list ys) (.list<|xs++ys):=.add .d .d h
theorem nl (h:(decide (0<n) && decide (n<1000000000))=aB):sC a n=false:=PyProof.noPylong_small (by simp at h;exact (oM<|bG (iL<|jS ((bE h.1):0<=n)) h.2))
theorem QCM {k n:Nat} (h:0<n):(k:Int).fdiv (n:Int)=((k / n:Nat)):=by erw[iB _<|mF.mpr ‹_›];rfl
theorem JU {k n:Nat} (h:0<n):(k:Int).fmod (n:Int)=((k % n:Nat)):=by erw[mi _<|mF.mpr ‹_›];rfl
theorem q_ (x y:List Nat):(⟨x.toArray⟩:aG)++⟨y.toArray⟩=⟨(x++y).toArray⟩:=yJ (by simp only[QAh])
theorem sA {x y:List Nat} (h:x.length+y.length<=16777216):ft r .Add (.d<|.str ⟨x.toArray⟩) (.d<|.str ⟨y.toArray⟩) (.str ⟨(x++y).toArray⟩):=q_ x y▸ .cat (by refine (?_:x.toArray.size+y.toArray.size<=_);simp only[gm,gm];exact h)
theorem M1 (H:mY p.1=aB) (h:mY p.2=aB):fP 8 (hP p)=true:=by simp[hP,fP,H,h]
theorem VK (h:mY s=aB):fP 8 (.str s)=true:=by assumption
theorem tK (i:Int):fP 8 (.int i)=true:=by simp[fP]
theorem kH (h: ∀x∈xs,fP 8 x=aB):mZ xs:=dq.mpr h
theorem iQ (P:gZ r v xs) (h: ∀x∈xs,fP 8 x=aB):gV r .NotEq v (.d<|.list xs) false:=.lst P .d (kH h) (kH h)<|.oW rfl
theorem Ey {α:Type} (xs:List α) (f:α->Int): ∀x∈xs.map λa=>cB<|f a,fP 8 x=true:=λx M=>aS (ij.mp M) λa O e=>cx e<|tK _
theorem eqN (h: ∀y∈x::xs,fP 8 y=aB):gV r .Eq (.d<|.list<|x::xs) (.d<|.list []) false:=.lst .d .d (kH h) rfl (.A6 nofun)
theorem Wn (h: ∀y∈xs,fP 8 y=aB):gV r .Eq (.d<|.list xs) (.d<|.list xs) true:=.lst .d .d (kH h) (kH h)<|.eqT rfl
theorem Kg (ns:List Int): ∀x∈ns.map cB,fP 8 x=true:=Ey ns id
theorem W3 (ns:List Int): ∀ks:List Nat,(ks.filterMap λk=>(ns.map cB)[k]?)=(ks.filterMap λk=>ns[k]?).map cB:=by
 intro O;induction O with
 |nil=>exact rfl
 |cons k ks i=>
  exact by
   refine sb nP<|sb List.filterMap_cons<|sb (i)<|sb (List.getElem?_map) ?_
   cases ns[k]?<;>rfl
noncomputable def vK (ns:List Int) (k:Nat):List Int:=(Cn (kf (aA (k:Int)) aF (aA 5) (ns.map cB).length).1 (kf (aA (k:Int)) aF (aA 5) (ns.map cB).length).2.1 (kf (aA (k:Int)) aF (aA 5) (ns.map cB).length).2.2).filterMap λ(k:Nat)=>ns[k]?
namespace B01
theorem W9 (hn:n<10^10) (hb:bl∈[[],[32],[9],[9,32]]):(eD n bl).length<=100/\gL aE (eD n bl)=true:=by
 refine jv (Ah hn) λH i Q v=>?_;have b:bl.length<=2/\ ∀c∈bl,c=32\/c=9:=by simp only[bp,gU,or_false] at hb;clear hn H i Q v;rcases hb with rfl|rfl|rfl|rfl<;>decide
 constructor
 ·refine (?_:([48,95]++dC n++bl).toArray.size<=100)
  simp;exact bD Q b.1
 ·unfold gL
  rw[<-QGY,dq];intro c C;have C:c∈[48,95]++dC n++bl:=by simpa[eD] using C
  have:c=9\/(32<=c/\c<127):=by
   refine cp (qn.mp C) (λC=>?_) λC=>?_
   ·refine cp (qn.mp C) (λC=>?_) λC=>?_
    ·simp at C
     exact ((Ip _).imp_right λo=>⟨(C.elim (λu=>(aQ<|nR u)) λu=>(aQ<|nR u)),(C.elim (λu=>(aQ<|nL u)) λu=>(aQ<|nL u))⟩)
    ·have:=H c C
     exact (.inr ⟨(aQ this.1),(aQ this.2)⟩)
   ·have:=b.2 c C
    exact (this.elim (λu=>(.inr ⟨(aQ<|nR u),(aQ<|nL u)⟩)) λu=>(.inl u))
  clear hn hb H i Q v b C;rcases this with rfl|h
  ·decide
  ·have a:(c==127)=false:=by simp;exact λK=>cY (nR K) h.2
   simp[a,(by simp;exact aQ h.1:decide (c<=8)=aE),(by simp;exact aQ h.1:decide (c<=31)=aE)]
noncomputable def Ee:List Dat:=[.str ⟨#[]⟩,.str ⟨#[32]⟩,.str ⟨#[9]⟩,.str ⟨#[9,32]⟩]
theorem Wq {k:Nat} (h:k<4): ∃bl,bl∈[[],[32],[9],[9,32]]/\Ee[k]?=aA (.str ⟨bl.toArray⟩):=M9 (P:=λk=> ∃bl,bl∈[[],[32],[9],[9,32]]/\Ee[k]?=aA (.str ⟨bl.toArray⟩)) (ax [] (.head _) rfl) (ax [32] (.tail _<|.head _) rfl) (ax [9] (by decide) rfl) (ax [9,32] (by decide) rfl) k h
noncomputable def gK (l:Ls):Ls:=oE eE<|oD l
theorem Xq {ns fs:List Int} (hn:ns.length<=1000) (f:fs.length=5) {ks:List Nat} (C: ∀k∈ks,k<5) (K:List aK->Prop) (h:K (ks.map λk=>cB<|fs.getD k 0+(vK ns k).sum)):
 cW (EW.aH .Add (.au oO cU)<|.bi .sum [.dJ I8 (aA cU) aF<|aA<|.bi .len [oO]]).w eE [] o (gK [(0,.val<|.list<|ns.map .int),(1,.val<|.list<|fs.map .int)]) (ks.map λ(k:Nat)=>cB k) K:=by
 refine BQ (λk j x K h=>?_) K h;have Z:=C k j;have L: ∀r,cn r .len [.d<|.list<|fs.map .int]<|.int 5:=λr=>by have:=cn.yg (r:=r) (v:=.d<|.list<|fs.map .int) (.l .d) (by simp only[dY];exact aQ<|nL f);rwa[dY,f] at this
 have t: ∀r,gR r (.d<|.list<|ns.map .int) (.d<|.int k) (.d .none) (.d<|.int 5)<|.list<|(vK ns k).map .int:=λr=>by have:=gR.lst (r:=r) (v:=.d<|.list<|ns.map .int) .d (.int (i:=(k:Int))) .none (.int (i:=5)) (by decide) (by simp only[dY];exact az ‹_› (gA _ _));unfold mE at this;simp only[W3] at this;exact this
 exact fL (.aH .Add (.au oO cU)<|.bi .sum [.dJ I8 (aA cU) aF<|aA<|.bi .len [oO]]) eE [] o [.b aB,.d<|.int<|fs.getD k 0,.d<|.int 5,.d<|.list<|(vK ns k).map .int,.d<|.int (vK ns k).sum] (gK [(0,.val<|.list<|ns.map .int),(1,.val<|.list<|fs.map .int)]) (.int k) x K rfl tt ((λr=>pW (w:=k) (by simp[Ii,show k<fs.length by exact bD (nR f) Z]) rfl (bE<|oL<|nL f)) _) (L _) (t _) (.sum .d) rfl h
theorem TX (L:Nat) {ns fs:List Int} (hn:ns.length<=1000) (f:fs.length=5): ∃c0 c1 c2 c3 c4,(aU<|L+1).F 12 [.list<|ns.map .int,.list<|fs.map .int]<|.list<|[c0,c1,c2,c3,c4].map .int:=by
 have p: ∀r,cn r .len [.d<|.list<|fs.map .int]<|.int 5:=λr=>by have:=cn.yg (r:=r) (v:=.d<|.list<|fs.map .int) (.l .d) (by rw[dY];exact aQ<|nL f);rwa[dY,f] at this
 let c:Nat->Int:=λk=>fs.getD k 0+(vK ns k).sum
 refine ⟨c 0,c 1,c 2,c 3,c 4,da (n:=L) (k:=2) (bs:=HJ) ?_ rfl⟩;exact d5 HJ 2 [hi 5,.ds<|[0,1,2,3,4].map λk=>cB<|fs.getD k 0+(vK ns k).sum] (aU L) [.list<|ns.map .int,.list<|fs.map .int] _ rfl (p _) tt (by decide) (Xq hn f (ks:=[0,1,2,3,4])<|by decide) .ret
end B01
end
theorem dm (c:Int) {k n q:Int} (hk:k≠0):(c / k) % n=((c % (k*(n*q))) / k) % n:=by
 conv=>lhs;rw[<-Int.emod_add_mul_ediv c (k*(n*q))]
 rw[xM k,Iq _ _ hk,xM n,QGZ]
theorem lI {w:Nat} (R:r i=.own xs) (h:xs[w]?=aA d) (hl:eX xs.length 1000=aB):cC r (.bor i) (w:Int) d:=.seq (.l<|.bor R) (by have:=bJ hl;exact (bE<|oL this)) (Jr (zZ.mp h).1) h
namespace B01
structure bx where
 y0:Nat
 x1:Nat
 y1:Nat
 x2:Nat
 y2:Nat
noncomputable def qM (x1 y1 x2 y2 y0:Nat):Bool:=(x1:Int)*((y2:Int) - y0)==(x2:Int)*((y1:Int) - y0)
noncomputable def kr (m:Nat):bx:=⟨m / 3 % 4,1+m % 3,m / 12 % 4,m / 48 % 4,bif qM (1+m % 3) (m / 12 % 4) (m / 48 % 4) (m / 192 % 5) (m / 3 % 4) then (m / 192 % 5+1) % 5 else m / 192 % 5⟩
noncomputable def di (t:bx):Dat:=.list [.list [.int 0,.int t.y0],.list [.int t.x1,.int t.y1],.list [.int t.x2,.int t.y2]]
theorem L1 {a b c:Nat} (h:a<5) (g:b<5) (k:c<5):ib (a:Int)+ib ((b:Int) - c)<=134217728:=(by decide+kernel: ∀a,a<5-> ∀b,b<5-> ∀c,c<5->ib ((a:Nat):Int)+ib (((b:Nat):Int) - (c:Nat))<=134217728) a h b g c k
theorem R_ (L:Nat) (c:Int): ∃m,m<960/\(aU<|L+1).F 27 [.int c] (di<|kr m):=by
 refine aS (⟨(c % 960).toNat,by exact (oM<|bG (iL<|jO ((bE<|mX (c) (by decide:(960:Int)≠0)):0<=c % 960))<|nV (c) (by decide:(0:Int)<960)),by exact (jO ((bE<|mX (c) (by decide:(960:Int)≠0)):0<=c % 960)).symm⟩: ∃m:Nat,m<960/\c % 960=m) λm hm e=>?_;have f: ∀k n q:Nat,0<k->0<n->k*(n*q)=960->((c.fdiv k).fmod n)=((m / k % n:Nat):Int):=λk n q h1 h2 h=>by rw[iB _<|mF.mpr h1,mi _<|mF.mpr h2,dm c (q:=(q:Int))<|gE<|mF.mpr h1,show (k:Int)*((n:Int)*(q:Int))=960 from congrArg Int.ofNat h,e];rfl
 have e0:(c.fdiv 3).fmod 4=((m / 3 % 4:Nat):Int):=f 3 4 80 (by decide) (by decide) (by decide);have e1:1+c.fmod 3=((1+m % 3:Nat):Int):=by rw[mi _ (by decide),<-QFw c (by decide:(3:Int)∣960),e];rfl
 have e2:(c.fdiv 12).fmod 4=((m / 12 % 4:Nat):Int):=f 12 4 20 (by decide) (by decide) (by decide);have e3:(c.fdiv 48).fmod 4=((m / 48 % 4:Nat):Int):=f 48 4 5 (by decide) (by decide) (by decide);have e4:(c.fdiv 192).fmod 5=((m / 192 % 5:Nat):Int):=f 192 5 1 (by decide) (by decide) (by decide);refine ⟨m,hm,da ?_ rfl⟩;unfold di kr;have b0:m / 3 % 4<4:=dw _ (by decide);have b1:1+m % 3<4:=(aQ<|dw (m) (by decide:0<3))
 have b2:m / 12 % 4<4:=dw _ (by decide);have b3:m / 48 % 4<4:=dw _ (by decide);have b4:m / 192 % 5<5:=dw _ (by decide);generalize m / 3 % 4=n0 at*;generalize 1+m % 3=n1 at*;generalize m / 12 % 4=n2 at*;generalize m / 48 % 4=n3 at*;generalize m / 192 % 5=n4 at*;have q1:=L1 (sP b1) b4<|sP b0;have q2:=L1 (sP b3) (sP b2)<|sP b0;unfold qM;induction hf:((n1:Int)*((n4:Int) - n0)==(n3:Int)*((n2:Int) - n0)) with
 |true=>
  have:=d5 Dk 1 [hi n1,hi n4,hi n0,hi n3,hi n2,hi n0,.b aB,hi n4] (aU L) [.int c] (.list [.list [.int 0,.int<|(c.fdiv 3).fmod 4],.list [.int<|1+c.fmod 3,.int<|(c.fdiv 12).fmod 4],.list [.int<|(c.fdiv 48).fmod 4,.int<|((n4:Int)+1).fmod 5]]) rfl ff (nl rfl) ff ff ff (nl rfl) ff ff (nl rfl) ff ff (nl rfl) ff (lI (w:=0) rfl (by rw[e1];rfl) rfl) (lI (w:=1) rfl (by rw[e4];rfl) rfl) (lI (w:=1) rfl (by rw[e0];rfl) rfl) q1 (lI (w:=0) rfl (by rw[e3];rfl) rfl) (lI (w:=1) rfl (by rw[e2];rfl) rfl) (lI (w:=1) rfl (by rw[e0];rfl) rfl) q2 hf (lI (w:=1) rfl (by rw[e4];rfl) rfl) ff (by decide) (by show (1:Int)<2;decide) (by show 2<2^63;decide) .ret;rw[e0,e1,e2,e3] at this;have e5:((n4:Int)+1).fmod 5=((n4+1) % 5:Nat):=by rw[mi _<|by decide];simp+arith
  rw[e5] at this;exact this
 |false=>have:=d5 Dk 1 [hi n1,hi n4,hi n0,hi n3,hi n2,hi n0,.b aE] (aU L) [.int c] (.list [.list [.int 0,.int<|(c.fdiv 3).fmod 4],.list [.int<|1+c.fmod 3,.int<|(c.fdiv 12).fmod 4],.list [.int<|(c.fdiv 48).fmod 4,.int<|(c.fdiv 192).fmod 5]]) rfl ff (nl rfl) ff ff ff (nl rfl) ff ff (nl rfl) ff ff (nl rfl) ff (lI (w:=0) rfl (by rw[e1];rfl) rfl) (lI (w:=1) rfl (by rw[e4];rfl) rfl) (lI (w:=1) rfl (by rw[e0];rfl) rfl) q1 (lI (w:=0) rfl (by rw[e3];rfl) rfl) (lI (w:=1) rfl (by rw[e2];rfl) rfl) (lI (w:=1) rfl (by rw[e0];rfl) rfl) q2 hf .ret;rw[e0,e1,e2,e3,e4] at this;exact this
end B01
theorem PN: ∀k,k<8->k=0\/k=1\/k=2\/k=3\/k=4\/k=5\/k=6\/k=7:=by decide
theorem RF: ∀k,k<4->k=0\/k=1\/k=2\/k=3:=by decide
theorem Bn {x y:Int} (h:x.natAbs<=y.natAbs):ib x<=ib y:=oo.mpr<|ig h<|oo.mp<|bh _
theorem QAb (a:Int) {b:Int} (B:b≠0):0<=a.fmod b*b/\(a.fmod b).natAbs<b.natAbs:=by
 have pos: ∀a b:Int,0<b->0<=a.fmod b*b/\(a.fmod b).natAbs<b.natAbs:=λa b h=>by have h1:=nX a h;have h2:=nW a h;exact ⟨kG h1<|bw h,Int.natAbs_lt_natAbs_of_nonneg_of_lt h1 h2⟩
 rcases Int.lt_or_lt_of_ne B with h|h
 ·have:=pos (-a) (-b) (by exact (bE h))
  rw[Int.neg_fmod_neg] at this;rw[Int.neg_mul_neg,Q6,Q6] at this;exact this
 ·exact pos a b h
theorem TO (a:Int):(if a<0 then -a else a)=(a.natAbs:Int):=by
 split
 ·exact (xO<|bw ‹_›).symm
 ·exact (jS<|jL.mp ‹_›).symm
theorem yZ {r:bQ} (a:Int):cn r .abs [.d<|.int a] (.int (a.natAbs:Nat)):=TO a▸ .abs
namespace B01
theorem J4 (L:Nat) (l:310<=L) {a b:Int} (B:b≠0) (hn:ib b<=100000) (C:ib a<=100*ib b):(aU<|L+2).F 28 [.int a,.int b] (.list [.int<|a.fdiv b,.int ((a.fmod b).natAbs:Nat)]):=by have f:=QAb a B;have s1:ib (a.fdiv b)<=ib a:=Bn<|Int.natAbs_fdiv_le_natAbs a b;have s2:ib (a.fmod b)<=ib b:=Bn<|sD f.2;exact da (d5 LB 2 [.d<|.tuple [.int<|a.fdiv b,.int<|a.fmod b],.b aE,.b aE,hi ((a.fmod b).natAbs:Nat),hi (b.natAbs:Nat),.b aE,.b aE,hi ((a.fmod b).natAbs:Nat)] (aU<|L+1) [.int a,.int b] _ rfl (PL L l B hn C) (az (iF (az s1<|az C<|gC 100 hn) hn)<|by decide) (by rw[Int.fdiv_mul_add_fmod];exact QHi a) (by exact (bD s2<|gC 2 hn)) (df<|jL.mpr f.1) (yZ _) (yZ _) (df<|by exact (λw0=>(fh (oL f.2) w0))) rfl (yZ _) .ret) rfl
noncomputable def xk (a b:Nat):Ls:=[(0,.val<|.int a),(1,.val<|.int b)]
theorem QDh (o:bj): ∀(n b a:Nat),b<n-> ∀K,K .next (xk (AL a b) 0)-> ∃m,wW Cb.w (B4.map SW.w) o m (xk a b) K:=by
 intro n;induction n with
 |zero=>exact λb a h=>QHZ h<|QJ b
 |succ n ih=>
  intro b a h K k;by_cases c:b=0
  ·subst c
   exact ⟨1,lg Cb B4 0 o [.b aE] (xk a 0) K rfl (by rw[Nat.gcd_zero_right] at k;exact k)⟩
  ·have e:AL a b=AL b (a % b):=by rw[QGa a b,Nat.gcd_rec b a,QGa]
   rw[e] at k;refine aV (ih (a % b) b (by have:=dw a<|Ir c;exact (bD this h)) K k) λm q=>?_;refine ⟨m+1,lg Cb B4 m o [.b aB] (xk a b) K (bne_iff_ne.mpr<|QGb.mpr c) (df<|QGb.mpr c) ?_⟩;rw[JU<|Ir c];exact q
theorem TR (L a b:Nat):(aU<|L+1).F 32 [.int a,.int b] (.int (AL a b:Nat)):=da (d5 b_law_common 2 [.f .next (xk (AL a b) 0)] (aU L) [.int a,.int b] _ rfl (QDh (aU L) (b+1) b a<|uc b) .ret) rfl
end B01
theorem LY {x:Int} (h:x.natAbs<2^60):ib x<=60:=oo.mpr h
theorem xr {x y:Int} (h:x.natAbs<2^60) (g:y.natAbs<2^60):ib x+ib y<=134217728:=az (iF (LY h)<|LY g) (by decide)
theorem nu {x y:Int} {m n:Nat} (h:x.natAbs<=m) (g:y.natAbs<=n) (i:eX m 1000000=aB) (j:eX n 1000000=aB):ib x+ib y<=134217728:=xr (ig (az h<|bJ i)<|by decide) (ig (az g<|bJ j)<|by decide)
theorem gJ {x y:Int} (h:x.natAbs<=m) (g:y.natAbs<=n):(x - y).natAbs<=m+n:=az (Int.natAbs_sub_le x y)<|iF h g
theorem u5 {p q:Int} (h:p.natAbs<=m) (g:q.natAbs<=n):(p*q).natAbs<=m*n:=by rw[Iu];exact Cu h g
namespace B01
noncomputable def aw (p:Int×Int):Dat:=.list [.int p.1,.int p.2]
theorem iT {r:bQ} (p:Int×Int):cC r (.d<|aw p) 0 (.int p.1):=.seq (.l .d) (by show (2:Int)<2^63;decide) (rfl:_=aA 0) rfl
theorem cK {r:bQ} (p:Int×Int):cC r (.d<|aw p) 1 (.int p.2):=.seq (.l .d) (by show (2:Int)<2^63;decide) (rfl:_=aA 1) rfl
noncomputable def p0 (t:bx):Int×Int:=(0,t.y0)
noncomputable def p1 (t:bx):Int×Int:=(t.x1,t.y1)
noncomputable def p2 (t:bx):Int×Int:=(t.x2,t.y2)
noncomputable def iE (p:Int×Int):Prop:=p.1.natAbs<=10/\p.2.natAbs<=10
structure lk (t:bx):Prop where
 a:iE (p0 t)
 b:iE (p1 t)
 c:iE (p2 t)
theorem R3 {m:Nat}:lk (kr m):=by
 have h0:m / 3 % 4<4:=dw _ (by decide);have h2:m / 12 % 4<4:=dw _ (by decide);have h3:m / 48 % 4<4:=dw _ (by decide);have h4:m / 192 % 5<5:=dw _ (by decide)
 have h5:(kr m).y2<5:=by
  unfold kr;dsimp only;cases qM (1+m % 3) (m / 12 % 4) (m / 48 % 4) (m / 192 % 5) (m / 3 % 4)
  ·exact h4
  ·exact dw _ (by decide)
 exact ⟨⟨by show (0:Int).natAbs<=10;decide,by show ((m / 3 % 4:Nat):Int).natAbs<=10;exact (oM<|bG (iL<|jS ((bE<|oZ<|m / 3 % 4):0<=(↑(m / 3 % 4):Int)))<|oL h0)⟩,⟨by show ((1+m % 3:Nat):Int).natAbs<=10;exact (oM<|bG (iL<|jS ((bE<|oZ<|1+m % 3):0<=(↑(1+m % 3):Int)))<|oL<|dw (m) (by decide:0<3)),by show ((m / 12 % 4:Nat):Int).natAbs<=10;exact (oM<|bG (iL<|jS ((bE<|oZ<|m / 12 % 4):0<=(↑(m / 12 % 4):Int)))<|oL h2)⟩,⟨by show ((m / 48 % 4:Nat):Int).natAbs<=10;exact (oM<|bG (iL<|jS ((bE<|oZ<|m / 48 % 4):0<=(↑(m / 48 % 4):Int)))<|oL h3),by show (((kr m).y2:Nat):Int).natAbs<=10;exact (oM<|bG (iL<|jS ((bE<|oZ<|(kr m).y2):0<=(↑(kr m).y2:Int)))<|oL h5)⟩⟩
noncomputable def fZ (t:bx):Int:=if (p1 t).1*((p2 t).2 - (p0 t).2)<(p2 t).1*((p1 t).2 - (p0 t).2) then -1 else 1
noncomputable def ev (u:Int) (a b:Int×Int) (x y:Int):Int:=u*((b.1 - a.1)*(y - a.2) - (b.2 - a.2)*(x - a.1))
noncomputable def mj (t:bx) (x y:Int):Int:=By (ev (fZ t) (p0 t) (p1 t) x y) [ev (fZ t) (p1 t) (p2 t) x y,ev (fZ t) (p2 t) (p0 t) x y]
noncomputable def nj (t:bx) (x y:Nat):List Nat:=(if 0<=mj t x y then [y] else [])++(if 0<mj t x y then [4+y] else [])
noncomputable def eT (t:bx) (x:Nat):List Nat:=(bg 5).flatMap<|nj t x
noncomputable def HD:EW:=.aH .Mult (.aC 3)<|.aH .Sub (.aH .Mult (.aH .Sub (.au (.aC 202)<|.int 0)<|.au (.aC 201)<|.int 0)<|.aH .Sub (.aC 5)<|.au (.aC 201)<|.int 1)<|.aH .Mult (.aH .Sub (.au (.aC 202)<|.int 1)<|.au (.aC 201)<|.int 1)<|.aH .Sub (.aC 1)<|.au (.aC 201)<|.int 0
noncomputable def vU (a b:Int×Int):Dat:=.tuple [aw a,aw b]
noncomputable def GU (t:bx):List Dat:=[vU (p0 t)<|p1 t,vU (p1 t)<|p2 t,vU (p2 t)<|p0 t]
noncomputable def lM (t:bx) (x:Nat) (bs:List Nat) (s5 s6:Sl):Ls:=[(2,.val<|.list<|GU t),(3,.val<|.int<|fZ t),(4,.own<|bs.map λ(n:Nat)=>cB n),(5,s5),(6,s6),(0,.val<|di t),(1,.val<|.int x)]
noncomputable def FF (l:Ls) (y:Int):Ls:=oE (.tup [201,202])<|oD<|cL l 5<|.val<|.int y
theorem QCG {u x y:Int} {a b:Int×Int} (hu:u=1\/u= -1) (A:iE a) (B:iE b) (hx:x.natAbs<=10) (hy:y.natAbs<=10):
 (ib (b.1 - a.1)+ib (y - a.2)<=134217728)/\(ib (b.2 - a.2)+ib (x - a.1)<=134217728)/\(ib u+ib ((b.1 - a.1)*(y - a.2) - (b.2 - a.2)*(x - a.1))<=134217728):=by
 have A1:=A.1;have A2:=A.2;have B1:=B.1;have B2:=B.2;have s1:((b.1 - a.1)*(y - a.2)).natAbs<=(10+10)*(10+10):=u5 (gJ B1 A1)<|gJ hy A2;have s2:((b.2 - a.2)*(x - a.1)).natAbs<=(10+10)*(10+10):=u5 (gJ B2 A2)<|gJ hx A1;exact ⟨nu (gJ B1 A1) (gJ hy A2) rfl rfl,nu (gJ B2 A2) (gJ hx A1) rfl rfl,nu (m:=1) (by rcases hu with rfl|rfl<;>decide) (gJ s1 s2) rfl rfl⟩
theorem FL (o:bj) {t:bx} {x y:Nat} {bs:List Nat} {s5 s6:Sl} {a b:Int×Int} (hu:fZ t=1\/fZ t= -1) (A:iE a) (B:iE b) (hx:x<=10) (hy:y<=10):CE HD.w (.tup [201,202]) [] o (FF (lM t x bs s5 s6) y) (vU a b) (aA<|.int<|ev (fZ t) a b x y):=λR K h=>by have q:=QCG (x:=x) (y:=y) hu A B (by exact (oM<|bG (iL<|jS ((bE<|oZ<|x):0<=(↑x:Int)))<|oL hx)) (by exact (oM<|bG (iL<|jS ((bE<|oZ<|y):0<=(↑y:Int)))<|oL hy));exact fL HD (.tup [201,202]) [] o [.b aB,hi b.1,hi a.1,hi a.2,hi b.2,hi a.2,hi a.1] (FF (lM t x bs s5 s6) y) (vU a b) R K rfl tt (iT b) (iT a) (cK a) q.1 (cK b) (cK a) (iT a) q.2.1 q.2.2 rfl h
theorem FP (t:bx):fZ t=1\/fZ t= -1:=by unfold fZ;split;exact .inr rfl;exact .inl rfl
theorem Uy (o:bj) {t:bx} (T:lk t) {x y:Nat} {bs:List Nat} {s5 s6:Sl} (hx:x<=10) (hy:y<=10) (K:List aK->Prop) (h:K ([ev (fZ t) (p0 t) (p1 t) x y,ev (fZ t) (p1 t) (p2 t) x y,ev (fZ t) (p2 t) (p0 t) x y].map .int)):cW HD.w (.tup [201,202]) [] o (FF (lM t x bs s5 s6) y) (GU t) K:=FL o (FP t) T.a T.b hx hy _ _<|FL o (FP t) T.b T.c hx hy _ _<|FL o (FP t) T.c T.a hx hy _ _ h
theorem GG {r:bQ} (t:bx) (x y:Int):cn r .kS [.d<|.list<|[ev (fZ t) (p0 t) (p1 t) x y,ev (fZ t) (p1 t) (p2 t) x y,ev (fZ t) (p2 t) (p0 t) x y].map .int] (.int<|mj t x y):=.kS (a:=ev (fZ t) (p0 t) (p1 t) x y) (ns:=[ev (fZ t) (p1 t) (p2 t) x y,ev (fZ t) (p2 t) (p0 t) x y]) .d
noncomputable def An (t:bx) (x y:Int):List Dat:=[ev (fZ t) (p0 t) (p1 t) x y,ev (fZ t) (p1 t) (p2 t) x y,ev (fZ t) (p2 t) (p0 t) x y].map .int
theorem xc (o:bj) {t:bx} (T:lk t) {x y:Nat} {bs:List Nat} {s5 s6:Sl} (hx:x<=10) (hy:y<=10) (hb:bs.length<=100) {xs:List aK} {K:Fl->Ls->Prop} (h:fW (.one 5) (tX.map SW.w) o xs (lM t x (bs++nj t x y) (.val<|.int y)<|.val<|.int<|mj t x y) K):
 fW (.one 5) (tX.map SW.w) o (.int (y:Nat)::xs) (lM t x bs s5 s6) K:=by
 have w:=λ(K:List aK->Prop) (h:K (An t x y))=>Uy o T (bs:=bs) (s5:=s5) (s6:=s6) hx hy K h;have l3:(GU t).length<=16777216:=by show 3<=16777216;decide
 have lb:(bs.map λ(n:Nat)=>cB n).length<16777216:=by rw[dY];exact (aQ hb)
 unfold nj at h;by_cases a:0<=mj t x y
 ·rw[if_pos a] at h
  by_cases b:0<mj t x y
  ·rw[if_pos b] at h
   have e:(bs++([y]++[4+y])).map (λ(n:Nat)=>cB n)=(bs.map λ(n:Nat)=>cB n)++[cB y]++[cB<|4+(y:Int)]:=by simp
   unfold lM at h;rw[e] at h;have lc:((bs.map λ(n:Nat)=>cB n)++[cB (y:Int)]).length<16777216:=by rw[du,dY];show bs.length+1<_;exact (aQ hb)
   exact fq (.one 5) tX o [.ds<|An t x y,hi<|mj t x y,.b aB,.b aB] (.int y) xs (lM t x bs s5 s6) K l3 w (GG t x y) (dt a) lb (dt b) lc h
  ·rw[if_neg b,eZ] at h
   unfold lM at h;rw[gp] at h;exact fq (.one 5) tX o [.ds<|An t x y,hi<|mj t x y,.b aB,.b aE] (.int y) xs (lM t x bs s5 s6) K l3 w (GG t x y) (dt a) lb (df b) h
 ·have b: ¬ 0<mj t x y:=λq=>a (bw q)
  rw[if_neg a,if_neg b,eZ,eZ] at h;exact fq (.one 5) tX o [.ds<|An t x y,hi<|mj t x y,.b aE,.b aE] (.int y) xs (lM t x bs s5 s6) K l3 w (GG t x y) (df a) (df b) h
theorem QDj (t:bx) (x y:Nat):(nj t x y).length<=2:=by unfold nj;split<;>split<;>simp
theorem QEE (o:bj) {t:bx} (T:lk t) {x:Nat} (hx:x<=10) (K:Fl->Ls->Prop) (h:K .next (lM t x (eT t x) (.val<|.int (4:Nat))<|.val<|.int<|mj t x (4:Nat))):fW (.one 5) (tX.map SW.w) o ((bg 5).map λ(i:Nat)=>cB (i:Int)) (lM t x [] .unb .unb) K:=by
 have l:=QDj t x;have l0:=l 0;have l1:=l 1;have l2:=l 2;have l3:=l 3;refine xc o T hx (y:=0) (by decide) (by decide) (xc o T hx (y:=1) (by decide) (by simp only[du,um];exact (aQ l0))<|xc o T hx (y:=2) (by decide) (by simp only[du,um];exact (bD l0 l1))<|xc o T hx (y:=3) (by decide) (by simp only[du,um];exact (bD (na l0 l1) l2))<|xc o T hx (y:=4) (by decide) (by simp only[du,um];exact (bD (na l0 l1)<|na l2 l3)) ?_);have e:[]++nj t x 0++nj t x 1++nj t x 2++nj t x 3++nj t x 4=eT t x:=by unfold eT;simp[List.range_succ]
 rw[e];exact h
theorem Mn {r:bQ} (t:bx):cC r (.d<|di t) 0 (aw<|p0 t)/\cC r (.d<|di t) 1 (aw<|p1 t)/\cC r (.d<|di t) 2 (aw<|p2 t):=⟨.seq (.l .d) (by show (3:Int)<2^63;decide) (rfl:_=aA 0) rfl,.seq (.l .d) (by show (3:Int)<2^63;decide) (rfl:_=aA 1) rfl,.seq (.l .d) (by show (3:Int)<2^63;decide) (rfl:_=aA 2) rfl⟩
theorem QCy (L:Nat) {t:bx} (T:lk t) {x:Nat} (hx:x<=10):(aU<|L+1).F 30 [di t,.int x] (.list<|(eT t x).map λ(n:Nat)=>cB n):=by
 have A1:=T.a.2;have B1:=T.b.1;have B2:=T.b.2;have C1:=T.c.1;have C2:=T.c.2;have q1:ib (p1 t).1+ib ((p2 t).2 - (p0 t).2)<=134217728:=nu B1 (gJ C2 T.a.2) rfl rfl;have q2:ib (p2 t).1+ib ((p1 t).2 - (p0 t).2)<=134217728:=nu C1 (gJ B2 T.a.2) rfl rfl;have j:=λr=>Mn (r:=r) t;have k:=λK h=>QEE (aU L) T hx K h;unfold lM fZ at k;by_cases c:(p1 t).1*((p2 t).2 - (p0 t).2)<(p2 t).1*((p1 t).2 - (p0 t).2)
 ·rw[if_pos c] at k
  exact da (rm b_law_bare 2 [2,3,4,5,6] [.d<|aw<|p0 t,.d<|aw<|p1 t,.d<|aw<|p1 t,.d<|aw<|p2 t,.d<|aw<|p2 t,.d<|aw<|p0 t,.d<|aw<|p1 t,hi (p1 t).1,.d<|aw<|p2 t,hi (p2 t).2,.d<|aw<|p0 t,hi (p0 t).2,.d<|aw<|p2 t,hi (p2 t).1,.d<|aw<|p1 t,hi (p1 t).2,.d<|aw<|p0 t,hi (p0 t).2,.b aB,.f .next _] (aU L) [di t,.int x] _ rfl (j _).1 (j _).2.1 (j _).2.1 (j _).2.2 (j _).2.2 (j _).1 (j _).2.1 (iT _) (j _).2.2 (cK _) (j _).1 (cK _) q1 (j _).2.2 (iT _) (j _).2.1 (cK _) (j _).1 (cK _) q2 (dt c) tt k .ret) rfl
 ·rw[if_neg c] at k
  exact da (rm b_law_bare 2 [2,3,4,5,6] [.d<|aw<|p0 t,.d<|aw<|p1 t,.d<|aw<|p1 t,.d<|aw<|p2 t,.d<|aw<|p2 t,.d<|aw<|p0 t,.d<|aw<|p1 t,hi (p1 t).1,.d<|aw<|p2 t,hi (p2 t).2,.d<|aw<|p0 t,hi (p0 t).2,.d<|aw<|p2 t,hi (p2 t).1,.d<|aw<|p1 t,hi (p1 t).2,.d<|aw<|p0 t,hi (p0 t).2,.b aE,.f .next _] (aU L) [di t,.int x] _ rfl (j _).1 (j _).2.1 (j _).2.1 (j _).2.2 (j _).2.2 (j _).1 (j _).2.1 (iT _) (j _).2.2 (cK _) (j _).1 (cK _) q1 (j _).2.2 (iT _) (j _).2.1 (cK _) (j _).1 (cK _) q2 (df c) tt k .ret) rfl
end B01
section
open PySem.StrLaws
namespace B01
theorem EG (L:Nat) {k v:Nat} {x:aG} (b:gQ.contains (k:Int)=aE) (m:lG k=x) (hx:x.length<=1000) (hv:v<27):(aU<|L+2).F 17 [.str ⟨#[k,cm v]⟩] (.str x):=by
 have t:(mq ⟨#[k,cm v]⟩).filterMap rC=[x].map .str:=by show QGc rC [mn k,mn<|cm v]=_;rw[nP,Bd b m,nP,G8 (rp v hv).1];rfl
 exact Mu L (bJ rfl) t (Fg hx<|by decide)
noncomputable def gD (g:Nat->Nat->Nat):Dat:=.list [aw ((g 0 0:Nat),(g 0 1:Nat)),aw ((g 1 0:Nat),(g 1 1:Nat)),aw ((g 2 0:Nat),(g 2 1:Nat))]
noncomputable def fC:List Nat:=[112,110,109]
noncomputable def j9:List Nat:=[80,78,77]
noncomputable def kJ (t i:Nat):Str:=if t % 2=1 then ⟨#[j9.getD i 0]⟩ else ⟨#[fC.getD i 0]⟩
theorem BD: ∀i,i<3->fC.getD i 0∈th/\Txt.upper ⟨#[fC.getD i 0]⟩=⟨#[j9.getD i 0]⟩/\gL aB ⟨#[j9.getD i 0]⟩=aB/\gL aB ⟨#[fC.getD i 0]⟩=aB/\ #[112,110,109][i]?=aA (fC.getD i 0)/\ #[80,78,77][i]?=aA (j9.getD i 0)/\cH ⟨#[j9.getD i 0]⟩=⟨#[fC.getD i 0]⟩/\cH ⟨#[fC.getD i 0]⟩=⟨#[fC.getD i 0]⟩:=by decide+kernel
noncomputable def su (C:aK) (c:Int) (n:Nat) (ps:List (aG×aG)) (w6 w7 w8 w9 w10:Sl):Ls:=[(2,.ali aT),(3,.inst),(4,.own<|dV n .none),(5,.own<|ps.map hP),(6,w6),(7,w7),(8,w8),(9,w9),(10,w10),(11,.unb),(0,.val C),(1,.val<|.int c),(aT,.own<|ps.map hP),(bR,.emp)]
theorem Rm (g:Nat->Nat->Nat): ∀i:Nat,i<3-> ∀r,cC r (.d<|gD g) (i:Int) (aw ((g i 0:Nat),(g i 1:Nat)))
 |0,_,r=>.seq (.l .d) (by show (3:Int)<2^63;decide) (rfl:_=aA 0) rfl
 |1,_,r=>.seq (.l .d) (by show (3:Int)<2^63;decide) (rfl:_=aA 1) rfl
 |2,_,r=>.seq (.l .d) (by show (3:Int)<2^63;decide) (rfl:_=aA 2) rfl
 |n+3,h,_=>QHZ h λK=>lA K
theorem RK (a:Nat->Nat): ∀j:Nat,j<2-> ∀r,cC r (.d<|aw ((a 0:Nat),(a 1:Nat))) (j:Int) (.int<|a j)
 |0,_,r=>iT _
 |1,_,r=>cK _
 |n+2,h,_=>QHZ h λK=>lA K
theorem TK (L:Nat) {g:Nat->Nat->Nat} (hg: ∀i j,g i j<10^10) {c:Int} {z s:Nat} (hz:(c.fdiv 3).fmod 3=z) (hs:s<3) (ks: ∀r,cC r (.d<|.list [.int 1,.int 2]) ((c.fdiv 9).fmod 2)<|.int s) (t:Nat) (ht6:t<6):
 ∃bl,bl∈[[],[32],[9],[9,32]]/\ ∀n (ps:List (aG×aG)) w6 w7 w8 w9 w10 xs K,n<=100->ps.length<=100->fW (.one 6) (zH.map SW.w) (aU<|L+3) xs (su (gD g) c (n+1) (ps++[(kJ t<|(z+s*t) % 3,eD (g ((z+s*t) % 3)<|t / 3) bl)]) (.val<|.int t) (.val<|.int ((z+s*t) % 3:Nat)) (.val<|.str<|kJ t<|(z+s*t) % 3) (.val<|.str<|eD (g ((z+s*t) % 3)<|t / 3) bl)<|.val<|.str<|kJ t<|(z+s*t) % 3) K->
  fW (.one 6) (zH.map SW.w) (aU<|L+3) (.int t::xs) (su (gD g) c n ps w6 w7 w8 w9 w10) K:=by
 have ez:(c.fdiv 3+(s:Int)*t).fmod 3=(((z+s*t) % 3:Nat):Int):=by rw[mi _<|by decide] at hz⊢;rw[<-DV,hz];rfl
 have hi3:(z+s*t) % 3<3:=dw _ (by decide);have st:(s:Int).natAbs<2^60/\(t:Int).natAbs<2^60:=⟨sF hs (by decide),sF ht6<|by decide⟩;have td:(t:Int).fdiv 3=((t / 3:Nat):Int):=QCM (n:=3) (by decide);have tm:(t:Int).fmod 2=((t % 2:Nat):Int):=JU (n:=2) (by decide);generalize (z+s*t) % 3=i at*;refine X7 (BD i hi3) λs1 s2 s3 s4 s5 s6 _ _=>?_;refine aS (kY (c.fdiv 18+t) (n:=12)<|by decide) λw hw ew=>?_;refine aS (kY (c.fdiv 216+t) (n:=27)<|by decide) λv hv ev=>?_;refine aS (kY (c+t) (n:=4)<|by decide) λb hb eb=>?_;refine aS (Wq hb) λbl B eB=>?_;have kl:=Di _ s1;refine eN (B7 _ s1 w hw) λf1 f2 f3=>?_;have tx:=W9 (hg i<|t / 3) B;have p17:=EG (L+1) (v:=v) f1 f2 (show 1<=1000 by decide) hv;refine ⟨bl,B,λn ps w6 w7 w8 w9 w10 xs K hn hp h=>?_⟩;have e7: ∀r,cC r (.d<|.str ⟨#[112,110,109]⟩) ((c.fdiv 3+(s:Int)*t).fmod 3)<|.str ⟨#[fC.getD i 0]⟩:=λr=>AO s5 ez (by decide);have e17: ∀r,cC r (.d<|gD g) ((c.fdiv 3+(s:Int)*t).fmod 3)<|aw ((g i 0:Nat),(g i 1:Nat)):=λr=>ez▸Rm g i hi3 r;have e20: ∀r,cC r (.d<|aw ((g i 0:Nat),(g i 1:Nat))) ((t:Int).fdiv 3)<|.int<|g i<|t / 3:=λr=>td▸RK (g i) (t / 3) (Nat.div_lt_of_lt_mul ht6) r;have e21: ∀r,cn r .rB [.d<|.int<|g i<|t / 3]<|.str ⟨(dC<|g i<|t / 3).toArray⟩:=λr=>NM _▸ .rB (by have:=hg i<|t / 3;exact (oM<|bG (iL<|jS ((bE<|oZ<|g i<|t / 3):0<=(↑(g i<|t / 3):Int)))<|oL this));have e22: ∀r,ft r .Add (.d<|.str ⟨#[48,95]⟩) (.d<|.str ⟨(dC<|g i<|t / 3).toArray⟩)<|.str ⟨([48,95]++dC (g i<|t / 3)).toArray⟩:=λr=>sA (x:=[48,95]) (by have:=(Ah<|hg i<|t / 3).2.2.1;show 2+_<=_;exact (aQ this));have e24: ∀r,cC r (.d<|.list Ee) ((c+t).fmod 4)<|.str ⟨bl.toArray⟩:=λr=>dB eB eb (by decide);have e25: ∀r,ft r .Add (.d<|.str ⟨([48,95]++dC (g i<|t / 3)).toArray⟩) (.d<|.str ⟨bl.toArray⟩)<|.str<|eD (g i<|t / 3) bl:=λr=>sA (by have h1:=tx.1;unfold eD at h1;have:(([48,95]++dC (g i<|t / 3)++bl).toArray).size<=100:=h1;rw[gm,du] at this;exact (aQ this));have ad:=λnm (o:gL aB nm=aB)=>FN (L+2) (hs:=ps.map hP) (nm:=nm) (tx:=eD (g i<|t / 3) bl) (by rw[dY];exact (aQ hp)) (az tx.1<|by decide) o tx.2;have ib5:ib (s:Int)+ib (t:Int)<=134217728:=xr st.1 st.2;have ln:(dV n Dat.none).length<16777216:=by rw[AI];exact (aQ hn)
 have lp:(ps.map hP).length<16777216:=by rw[dY];exact (aQ hp)
 rcases Nat.mod_two_eq_zero_or_one t with q|q
 ·have en:kJ t i=⟨#[fC.getD i 0]⟩:=QHa (by exact (λw0=>(cY (nR w0)<|nL q)))
  rw[en] at h;unfold su at h;rw[QGd,gp,<-ez] at h;exact fq (.one 6) zH _ [hi s,ht ⟨#[fC.getD i 0]⟩,ht _,ht _,ht _,ht _,.d _,hi _,ht _,ht _,ht _,ht _,ht _,.b aE,.h .none _] (.int t) xs (su (gD g) c n ps w6 w7 w8 w9 w10) K ff (nl rfl) ff (nl rfl) ff (ks _) ib5 ff (e7 _) ff (nl rfl) (EV (L+2) kl.1 kl.2 ew hw) ff (nl rfl) (Ar (L+2) ev hv) (oH rfl rfl) p17 (e17 _) ff (nl rfl) (e20 _) (e21 _) (e22 _) ff (e24 _) (e25 _) (e7 _) ff (by rw[tm,q];rfl) (ad _ s4) ln lp h
 ·have en:kJ t i=⟨#[j9.getD i 0]⟩:=QHb q
  rw[en] at h;unfold su at h;rw[QGd,gp,<-ez] at h;have up: ∀r,jI r .upper (.d<|.str ⟨#[fC.getD i 0]⟩) []<|.str ⟨#[j9.getD i 0]⟩:=λr=>s2▸ .upper (by show 1<=_;decide);exact fq (.one 6) zH _ [hi s,ht ⟨#[fC.getD i 0]⟩,ht _,ht _,ht _,ht _,.d _,hi _,ht _,ht _,ht _,ht _,ht _,.b aB,ht _,ht _,.h .none _] (.int t) xs (su (gD g) c n ps w6 w7 w8 w9 w10) K ff (nl rfl) ff (nl rfl) ff (ks _) ib5 ff (e7 _) ff (nl rfl) (EV (L+2) kl.1 kl.2 ew hw) ff (nl rfl) (Ar (L+2) ev hv) (oH rfl rfl) p17 (e17 _) ff (nl rfl) (e20 _) (e21 _) (e22 _) ff (e24 _) (e25 _) (e7 _) ff (by rw[tm,q];rfl) (up _) (up _) (ad _ s3) ln lp h
noncomputable def nG (C:aK) (c:Int) (ps:List (aG×aG)) (w6 w7 w8 w9 w10 w11:Sl):Ls:=[(2,.ali aT),(3,.inst),(4,.own<|dV 8 .none),(5,.own<|ps.map hP),(6,w6),(7,w7),(8,w8),(9,w9),(10,w10),(11,w11),(0,.val C),(1,.val<|.int c),(aT,.own<|ps.map hP),(bR,.emp)]
noncomputable def xU (l:Ls) (d:aK):Ls:=oE (.one 401)<|oD<|cL (gK l) 201<|.val d
section
variable {o:bj} {C:aK} {c:Int} {ps:List (aG×aG)} {a6 a7 a8 a9 a10 a11:aK}
theorem GZ {d u:aK} (h:o.R 1 [d] (ps.map hP) u):CE (EW.jZ 1 GA [cU]).w eE [] o (gK<|nG C c ps (.val a6) (.val a7) (.val a8) (.val a9) (.val a10) .unb) d (aA u):=λR K k=>fL (.jZ 1 GA [cU]) eE [] o [.b aB,.d u,.d u] (gK<|nG C c ps (.val a6) (.val a7) (.val a8) (.val a9) (.val a10) .unb) d R K rfl tt h rfl k
theorem SM (hs:yR ps) {x:aG} (K:List aK->Prop) (h:K ((ps.filter λp=>cH p.1==x).map λp=>.str p.2)):cW (EW.au kQ<|.int 1).w pY [(TW.cmp .Eq (.sm .lower (.au kQ<|.int 0) []) cU).w] o (xU (nG C c ps (.val a6) (.val a7) (.val a8) (.val a9) (.val a10)<|.val a11)<|.str x) (ps.map hP) K:=by
 rw[<-Fu] at h;refine GF (λp P R K h=>?_) K h;have y:=hs p P;induction q:cH p.1==x with
 |true=>rw[q] at h;exact fL (.au kQ<|.int 1) pY [.cmp .Eq (.sm .lower (.au kQ<|.int 0) []) cU] o [ht p.1,ht<|cH p.1,.b aB,.b aB,.b aB,ht p.2] (xU (nG C c ps (.val a6) (.val a7) (.val a8) (.val a9) (.val a10)<|.val a11)<|.str x) (hP p) R K vC (rb y) (AU aB q) tt rfl tt PZ rfl h
 |false=>rw[q] at h;exact fL (.au kQ<|.int 1) pY [.cmp .Eq (.sm .lower (.au kQ<|.int 0) []) cU] o [ht p.1,ht<|cH p.1,.b aE,.b aE,.b aE] (xU (nG C c ps (.val a6) (.val a7) (.val a8) (.val a9) (.val a10)<|.val a11)<|.str x) (hP p) R K vC (rb y) (AU aE q) ff rfl ff h
theorem E4 (hs:yR ps) (hl:ps.length<=1000) {x:aG} {V:List aK} (e:(ps.filter λp=>cH p.1==x).map (λp=>sJ p.2)=V):CE (EW.comp (.au kQ<|.int 1) pY (.aC 5) [.cmp .Eq (.sm .lower (.au kQ<|.int 0) []) cU]).w eE [] o (gK<|nG C c ps (.val a6) (.val a7) (.val a8) (.val a9) (.val a10)<|.val a11) (.str x) (aA<|.list V):=λR K k=>fL (.comp (.au kQ<|.int 1) pY (.aC 5) [.cmp .Eq (.sm .lower (.au kQ<|.int 0) []) cU]) eE [] o [.b aB,.ds V,.d<|.list V] (gK<|nG C c ps (.val a6) (.val a7) (.val a8) (.val a9) (.val a10)<|.val a11) (.str x) R K rfl tt (by rw[dY];exact (aQ hl)) (λK h=>SM hs K<|e.symm▸h) rfl k
theorem KA {x:aG} {n:Int} {V:aK} (h:o.F 2 [.str x] (.int n)):CE (RB 2 [kQ]).w pY [] o (xU (nG C c ps (.val a6) (.val a7) (.val a8) (.val a9) (.val a10)<|.val a11) V) (.str x) (aA<|.int n):=λR K k=>fL (.call 2 [kQ]) pY [] o [.b aB,hi n,hi n] (xU (nG C c ps (.val a6) (.val a7) (.val a8) (.val a9) (.val a10)<|.val a11) V) (.str x) R K rfl tt h rfl k
theorem Dz {x y:aG} {n m:Int} (h:o.F 2 [.str x] (.int n)) (g:o.F 2 [.str y] (.int m)):CE (EW.comp (.call 2 [kQ]) pY (.aC 201) []).w eE [] o (gK<|nG C c ps (.val a6) (.val a7) (.val a8) (.val a9) (.val a10)<|.val a11) (.list [.str x,.str y]) (aA<|.list [.int n,.int m]):=λR K k=>fL (.comp (.call 2 [kQ]) pY (.aC 201) []) eE [] o [.b aB,.ds [.int n,.int m],.d<|.list [.int n,.int m]] (gK<|nG C c ps (.val a6) (.val a7) (.val a8) (.val a9) (.val a10)<|.val a11) (.list [.str x,.str y]) R K rfl tt (by show 2<=16777216;decide) (λK q=>KA (V:=.list [.str x,.str y]) h [.str y] K<|KA (V:=.list [.str x,.str y]) g [] _ q) rfl k
end
noncomputable def nN (g:Nat->Nat->Nat) (z s:Nat) (bl:Nat->List Nat):List (aG×aG):=(⟨#[109,112]⟩,⟨#[]⟩)::(bg 6).map λt=>(kJ t<|(z+s*t) % 3,eD (g ((z+s*t) % 3)<|t / 3)<|bl t)
theorem chs {P:Nat->List Nat->Prop} (T: ∀t,t<6-> ∃b,P t b): ∃f:Nat->List Nat,∀t,t<6->P t (f t):=⟨λt=>if h:t<6 then QGe (T t h) else [],λt h=>by dsimp only;rw[dif_pos h];exact QGf<|T t h⟩
theorem Zq: ∀z,z<3-> ∀s,s<3->s=0\/ ∀i,i<3->s*(i+3 - z) % 3<3/\(bg 6).filter (λt=>(z+s*t) % 3==i)=[s*(i+3 - z) % 3,s*(i+3 - z) % 3+3]/\(z+s*(s*(i+3 - z) % 3)) % 3=i/\(z+s*(s*(i+3 - z) % 3+3)) % 3=i:=by decide+kernel
theorem QAE: ∀i,i<3-> ∀j,j<3->((⟨#[fC.getD i 0]⟩:aG)==⟨#[fC.getD j 0]⟩)=(i==j):=by decide+kernel
theorem Lp: ∀j,j<3->(cH ⟨#[109,112]⟩==⟨#[fC.getD j 0]⟩)=false:=by decide+kernel
theorem Xe (t:Nat) {i:Nat} (h:i<3):cH (kJ t i)=⟨#[fC.getD i 0]⟩:=by
 unfold kJ
 split
 ·exact (BD i h).2.2.2.2.2.2.1
 ·exact (BD i h).2.2.2.2.2.2.2
theorem S0 (g:Nat->Nat->Nat) {z s:Nat} (hz:z<3) (hs:s<3) (h0:0<s) (bl:Nat->List Nat) {i:Nat} (hi:i<3): ∃a,a<3/\((nN g z s bl).filter λp=>cH p.1==⟨#[fC.getD i 0]⟩).map (λp=>sJ p.2)=[.str<|eD (g i 0)<|bl a,.str<|eD (g i 1)<|bl<|a+3]:=by
 refine jv (((Zq z hz s hs).resolve_left<|by exact (λw0=>(cY h0<|nL w0))) i hi) λha e e1 e2=>?_;generalize s*(i+3 - z) % 3=a at*;refine ⟨a,ha,?_⟩;unfold nN;rw[xP,if_neg (by rw[Lp i hi];exact nofun),QGg];have:((λp:aG×aG=>cH p.1==⟨#[fC.getD i 0]⟩)∘λt=>(kJ t<|(z+s*t) % 3,eD (g ((z+s*t) % 3)<|t / 3)<|bl t))=λt=>(z+s*t) % 3==i:=funext λt=>by show (cH (kJ t<|(z+s*t) % 3)==_)=_;rw[Xe t (dw _<|by decide),QAE _ (dw _<|by decide) i hi]
 rw[this,e,gB,gB,gB,gB,jq,jq,e1,e2,Nat.add_div_right a (by decide:0<3),Qw ha]
theorem QAl {x:aG} (h: ∀c∈x.cps.toList,c<128):mY x=true:=by unfold mY;rw[<-QGY,dq];intro c C;have:=h c C;simp;exact (aQ this)
theorem X_ (hn:n<10^10) (hb:bl∈[[],[32],[9],[9,32]]):mY (eD n bl)=true:=QAl λc C=>by
 have C:c∈[48,95]++dC n++bl:=by simpa[eD] using C
 rcases qn.mp C with C|C
 ·rcases qn.mp C with C|C
  ·simp at C
   exact (C.elim (λu1=>(aQ<|nL u1)) λu1=>(aQ<|nL u1))
  ·have:=(Ah hn).1 c C
   exact (aQ this.2)
 ·simp only[bp,gU,or_false] at hb
  exact (by decide: ∀b∈[[],[32],[9],[9,32]],∀c∈b,c<128) bl (by simpa using hb) c C
theorem Nw: ∀i,i<3->mY ⟨#[j9.getD i 0]⟩=aB/\mY ⟨#[fC.getD i 0]⟩=true:=by decide+kernel
theorem Dd {x y:aG} (hx:mY x=aB) (hy:mY y=aB):fP 8 (.list [.str x,.str y])=true:=by simp[fP,hx,hy]
theorem QBU (L:Nat) {g:Nat->Nat->Nat} (hg: ∀i j,g i j<10^10) (c:Int):(aU<|L+4).F 19 [gD g,.int c] (gD g):=by
 refine aS (kY (c.fdiv 3) (n:=3)<|by decide) λz hz ez=>?_;refine aS (kY c (n:=3)<|by decide) λq hq eq=>?_
 refine cy (by
  obtain ⟨w,hw,ew⟩:=kY (c.fdiv 9) (n:=2) (by decide);rcases (by exact ((Ip _).imp_right λo0=>(jk (aQ hw)<|aQ<|Ir o0)):w=0\/w=1) with e|e<;>subst e
  ·exact ⟨1,by decide,by decide,λr=>dB rfl ew (by decide)⟩
  ·exact ⟨2,by decide,by decide,λr=>dB rfl ew (by decide)⟩: ∃s:Nat,s<3/\0<s/\ ∀r,cC r (.d<|.list [.int 1,.int 2]) ((c.fdiv 9).fmod 2)<|.int s) λs hs h0 ks=>?_
 have T:=TK L hg ez hs ks;refine aV (chs T) λbl BT=>?_;have B': ∀t,t<6->bl t∈[[],[32],[9],[9,32]]:=λt h=>(BT t h).1;have T:=λt h=>(BT t h).2;have sf:=BD q hq;have a0:=FN (L+2) (hs:=[hP (⟨#[109,112]⟩,⟨#[]⟩)]) (nm:=⟨#[j9.getD q 0]⟩) (tx:=⟨#[57]⟩) (bJ rfl) (bJ rfl) sf.2.2.1 (by decide+kernel);have a1:=FN (L+2) (hs:=[hP (⟨#[109,112]⟩,⟨#[]⟩)]++[.tuple [.str ⟨#[j9.getD q 0]⟩,.str ⟨#[57]⟩]]) (nm:=⟨#[j9.getD q 0]⟩) (tx:=⟨#[57]⟩) (bJ rfl) (bJ rfl) sf.2.2.1 (by decide+kernel);have d0:=WW (L+2) (ps:=[(⟨#[109,112]⟩,⟨#[]⟩),(⟨#[j9.getD q 0]⟩,⟨#[57]⟩),(⟨#[j9.getD q 0]⟩,⟨#[57]⟩)]) (nm:=⟨#[fC.getD q 0]⟩) (by intro p m;simp only[bp,gU,or_false] at m;rcases m with rfl|rfl|rfl<;>exact (Nat.le_of_ble_eq_true rfl)) (Nat.le_of_ble_eq_true rfl) (Nat.le_of_ble_eq_true rfl) (by rw[sf.2.2.2.2.2.2.2];exact sf.2.2.2.1);have de:[(⟨#[109,112]⟩,⟨#[]⟩),(⟨#[j9.getD q 0]⟩,⟨#[57]⟩),(⟨#[j9.getD q 0]⟩,⟨#[57]⟩)].filter (λp:Str×Str=>cH p.1 !=cH ⟨#[fC.getD q 0]⟩)=[(⟨#[109,112]⟩,⟨#[]⟩)]:=by rw[sf.2.2.2.2.2.2.2,xP,xP,xP,List.filter_nil];simp only[bne,Lp q hq,sf.2.2.2.2.2.2.1,beq_self_eq_true];rfl
 rw[de] at d0;have pl:((nN g z s bl).map hP).length=7:=rfl
 have sh:yR (nN g z s bl):=by
  intro p m;rcases bp.mp m with rfl|m
  ·exact bJ rfl
  ·refine aS (ij.mp m) λt _ e=>?_
   subst e;show (kJ t _).length<=1000;unfold kJ
   split<;>exact bJ rfl
 have G: ∀i,i<3-> ∃a,a<3/\((nN g z s bl).filter λp=>cH p.1==⟨#[fC.getD i 0]⟩).map (λp=>sJ p.2)=[.str<|eD (g i 0)<|bl a,.str<|eD (g i 1)<|bl<|a+3]:=λi hi=>S0 g hz hs h0 bl hi;refine aS (G 0<|by decide) λx hx gx=>?_;refine aS (G 1<|by decide) λy hy gy=>?_;refine aS (G 2<|by decide) λw hw gw=>?_;have I: ∀i j t,t<6->(aU<|L+3).F 2 [.str<|eD (g i j)<|bl t] (.int<|g i j):=λi j t h=>QAc L (hg i j)<|B' t h;have r0:=Dc (L+2) (ps:=nN g z s bl) (nm:=⟨#[112]⟩) sh (bJ rfl) (bJ rfl) (by decide+kernel);have r1:=Dc (L+2) (ps:=nN g z s bl) (nm:=⟨#[78]⟩) sh (bJ rfl) (bJ rfl) (by decide+kernel);have r2:=Dc (L+2) (ps:=nN g z s bl) (nm:=⟨#[109]⟩) sh (bJ rfl) (bJ rfl) (by decide+kernel);rw[show cH ⟨#[112]⟩=⟨#[fC.getD 0 0]⟩ by decide+kernel,gx] at r0;rw[show cH ⟨#[78]⟩=⟨#[fC.getD 1 0]⟩ by decide+kernel,gy] at r1;rw[show cH ⟨#[109]⟩=⟨#[fC.getD 2 0]⟩ by decide+kernel,gw] at r2;have it:=XZ (L+2) (ps:=nN g z s bl)<|bJ rfl;have fy: ∀i j t,t<6->mY (eD (g i j)<|bl t)=true:=λi j t h=>X_ (hg i j)<|B' t h
 have p8: ∀d∈(nN g z s bl).map hP,fP 8 d=true:=by
  intro d m;refine aS (ij.mp m) λp n e=>?_;rw[<-e];rcases bp.mp n with e2|n
  ·rw[e2]
   exact M1 (by decide+kernel) (by decide+kernel)
  ·refine aS (ij.mp n) λt k e3=>?_
   rw[<-e3];refine M1 ?_<|fy _ _ t<|sG.mp k;show mY (kJ t _)=aB;unfold kJ
   split
   ·exact (Nw _<|dw _<|by decide).1
   ·exact (Nw _<|dw _<|by decide).2
 have t8: ∀d∈[DH [.str<|eD (g 0 0)<|bl x,.str<|eD (g 0 1)<|bl<|x+3],.list [.str<|eD (g 1 0)<|bl y,.str<|eD (g 1 1)<|bl<|y+3],.list [.str<|eD (g 2 0)<|bl w,.str<|eD (g 2 1)<|bl<|w+3]],fP 8 d=true:=by
  intro d m;simp only[bp,gU,or_false] at m;rcases m with rfl|rfl|rfl
  ·exact Dd (fy _ _ _<|by exact (aQ hx)) (fy _ _ _<|by exact (aQ hx))
  ·exact Dd (fy _ _ _<|by exact (aQ hy)) (fy _ _ _<|by exact (aQ hy))
  ·exact Dd (fy _ _ _<|by exact (aQ hw)) (fy _ _ _<|by exact (aQ hw))
 have n8: ∀d∈dV 8 Dat.none,fP 8 d=true:=by decide
 have lp:=λK h=>T 0 (by decide) 2 [(⟨#[109,112]⟩,⟨#[]⟩)] .unb .unb .unb .unb .unb _ K (by decide) (bJ rfl) (T 1 (by decide) 3 _ _ _ _ _ _ _ K (by decide) (bJ rfl)<|T 2 (by decide) 4 _ _ _ _ _ _ _ K (by decide) (bJ rfl)<|T 3 (by decide) 5 _ _ _ _ _ _ _ K (by decide) (bJ rfl)<|T 4 (by decide) 6 _ _ _ _ _ _ _ K (by decide) (bJ rfl)<|T 5 (by decide) 7 _ _ _ _ _ _ [] K (by decide) (bJ rfl) h);have mu: ∀r,ft r .Mult (.d<|.list [.none]) (.d<|.int 8)<|.list<|dV 8 .none:=λr=>.mul (n:=8) .d (by show 1*8<=256;decide) (by decide) (by decide);refine da (rm b_law_book 2 [2,3,4,5,6,7,8,9,10,11] [ht _,.h .none _,ht _,.h .none _,ht _,.h .none _,.f .next (su (gD g) c 8 (nN g z s bl) _ _ _ _ _),.d<|.list _,.b aE,.b aE,hl _,.b aE,.b aE,.b aE,.b aE,.b aE,.ds [_,_,_],.ds [_,_,_],.b aE,.b aE,.ds [.list [.int<|g 0 0,.int<|g 0 1],.list [.int<|g 1 0,.int<|g 1 1],.list [.int<|g 2 0,.int<|g 2 1]]] (aU<|L+3) [gD g,.int c] (gD g) rfl (by decide+kernel) ff (AO sf.2.2.2.2.2.1 eq<|by decide) a0 ff (AO sf.2.2.2.2.2.1 eq<|by decide) a1 ff (AO sf.2.2.2.2.1 eq<|by decide) d0 tt lp (mu _) (iQ (.bor rfl) n8) rfl it (.lst .d (.bor rfl) (kH p8) (kH p8)<|.oW rfl) rfl (.lst (.bor rfl) (.bor rfl) (kH p8) (kH p8)<|.oW rfl) rfl rfl (bJ rfl) (λK h=>GZ r0 _ K<|GZ r1 _ _<|GZ r2 [] _ h) (bJ rfl) (λK h=>E4 sh (bJ rfl) gx _ K<|E4 sh (bJ rfl) gy _ _<|E4 sh (bJ rfl) gw [] _ h) (iQ .d t8) ff (bJ rfl) (λK h=>Dz (I 0 0 x<|by omega) (I 0 1 _<|by omega) _ K<|Dz (I 1 0 y<|by omega) (I 1 1 _<|by omega) _ _<|Dz (I 2 0 w<|by omega) (I 2 1 _<|by omega) [] _ h) .ret) rfl
end B01
end
set_option exponentiation.threshold 100000
namespace B01
noncomputable abbrev Ed:=(Int×Int)×(Int×Int)
noncomputable def oP (a b:Int):Int:=if b<a then b else a
noncomputable def pU (a b:Int):Int:=if b>a then b else a
noncomputable def jd (e:Ed) (q:Int):Bool:=e.1.2 !=e.2.2 && (decide (oP e.1.2 e.2.2<=q) && decide (q<=pU e.1.2 e.2.2))
noncomputable def iZ (e:Ed) (q:Int):Int:=e.1.1*(e.2.2 - e.1.2)+(q - e.1.2)*(e.2.1 - e.1.1)
noncomputable def kB (e:Ed) (q:Int):Int:=(iZ e q).fdiv<|e.2.2 - e.1.2
noncomputable def pq (e:Ed) (q:Int):Int:=kB e q+(if (iZ e q).fmod (e.2.2 - e.1.2)=0 then 0 else 1)
noncomputable def dK (es:List Ed) (q:Int):List Ed:=es.filter λe=>jd e q
noncomputable def dI (xs:List Int):List Dat:=xs.map .int
noncomputable def tu (e:Ed):Dat:=vU e.1 e.2
structure Sv where
 (a b c d e:Sl)
noncomputable def qT (u low k:Int) (A B C D E F:Sl) (fl ro:List Int) (v:Sv):Ls:=[(3,.val<|.int u),(4,A),(5,B),(6,C),(7,D),(8,.val<|.int k),(9,.own<|dI fl),(10,.own<|dI ro),(11,v.a),(12,v.b),(13,v.c),(14,v.d),(15,v.e),(0,E),(1,.val<|.int low),(2,F)]
structure vw (o:bj) (u low k:Int) (e:Ed):Prop where
 s1:ib e.1.1+ib (e.2.2 - e.1.2)<=134217728
 s2:ib (low+k - e.1.2)+ib (e.2.1 - e.1.1)<=134217728
 s3:ib (iZ e<|low+k)+ib u<=134217728
 s4:ib (e.2.2 - e.1.2)+ib u<=134217728
 f:jd e (low+k)=aB-> ∃r:Int,0<=r/\(if 1<r then 1 else r)=(if (iZ e<|low+k).fmod (e.2.2 - e.1.2)=0 then 0 else 1)/\o.F 28 [.int<|iZ e (low+k)*u,.int<|(e.2.2 - e.1.2)*u] (.list [.int<|kB e<|low+k,.int r])
theorem QAy {o:bj} {u low k:Int} {e:Ed} (h:vw o u low k e) {A B C D E F:Sl} {fl ro:List Int} {v:Sv} (hl:fl.length<=100/\ro.length<=100) {xs:List aK}: ∃v',∀K:Fl->Ls->Prop,
 fW (.tup [11,12]) (qz.map SW.w) o xs (qT u low k A B C D E F (fl++(dK [e]<|low+k).map (kB · (low+k))) (ro++(dK [e]<|low+k).map (pq · (low+k))) v') K->fW (.tup [11,12]) (qz.map SW.w) o (tu e::xs) (qT u low k A B C D E F fl ro v) K:=by
 have lf:(dI fl).length<16777216:=by unfold dI;rw[dY];exact (aQ hl.1)
 have lr:(dI ro).length<16777216:=by unfold dI;rw[dY];exact (aQ hl.2)
 have out:jd e (low+k)=aE->dK [e] (low+k)=[]:=λc=>by unfold dK;rw[xP,c];rfl
 by_cases c1:e.1.2=e.2.2
 ·have c:jd e (low+k)=false:=by unfold jd;rw[bne_eq_false_iff_eq.mpr c1];rfl
  rw[out c,jq,eZ,jq,eZ];exact ⟨⟨.val<|aw e.1,.val<|aw e.2,v.c,v.d,v.e⟩,λK k'=>fq (.tup [11,12]) qz o [hi e.1.2,hi e.2.2,.b aB,.b aE] (tu e) xs (qT u low k A B C D E F fl ro v) K (cK _) (cK _) (bne_eq_false_iff_eq.mpr c1) rfl k'⟩
 ·have n1:(e.1.2 !=e.2.2)=true:=bne_iff_ne.mpr c1
  by_cases c2:oP e.1.2 e.2.2<=low+k
  ·by_cases c3:low+k<=pU e.1.2 e.2.2
   ·have c:jd e (low+k)=true:=by unfold jd;rw[n1,dt c2,dt c3];rfl
    have ce:dK [e] (low+k)=[e]:=by unfold dK;rw[xP,c];rfl
    rw[ce];refine cy (h.f c) λr r0 r1 f=>?_;have m: ∀R,cn R .min2 [.d<|.int r,.d<|.int 1]<|.int<|if (iZ e<|low+k).fmod (e.2.2 - e.1.2)=0 then 0 else 1:=λR=>r1▸ .min2;refine ⟨⟨.val<|aw e.1,.val<|aw e.2,.val<|.int<|iZ e<|low+k,.val<|.int<|kB e<|low+k,.val<|.int r⟩,λK k'=>?_⟩;have e1:dI (fl++[e].map (kB · (low+k)))=dI fl++[.int<|kB e<|low+k]:=gp;have e2:dI (ro++[e].map (pq · (low+k)))=dI ro++[.int<|pq e<|low+k]:=gp;unfold qT at k';rw[e1,e2] at k';exact fq (.tup [11,12]) qz o [hi e.1.2,hi e.2.2,.b aE,hi e.1.2,hi e.2.2,hi<|oP e.1.2 e.2.2,.b aB,hi e.1.2,hi e.2.2,hi<|pU e.1.2 e.2.2,.b aE,.b aB,hi e.1.1,hi e.2.2,hi e.1.2,hi e.1.2,hi e.2.1,hi e.1.1,hi e.2.2,hi e.1.2,.d<|.list [.int<|kB e<|low+k,.int r],.b aE,hi<|if (iZ e<|low+k).fmod (e.2.2 - e.1.2)=0 then 0 else 1] (tu e) xs (qT u low k A B C D E F fl ro v) K (cK _) (cK _) n1 (cK _) (cK _) .min2 (dt c2) (cK _) (cK _) .max2 (dt c3) rfl (iT _) (cK _) (cK _) h.s1 (cK _) (iT _) (iT _) h.s2 h.s3 (cK _) (cK _) h.s4 f (df<|jL.mpr r0) lf (m _) lr k'
   ·have c:jd e (low+k)=false:=by unfold jd;rw[df c3,uq,uq]
    rw[out c,jq,eZ,jq,eZ];exact ⟨⟨.val<|aw e.1,.val<|aw e.2,v.c,v.d,v.e⟩,λK k'=>fq (.tup [11,12]) qz o [hi e.1.2,hi e.2.2,.b aE,hi e.1.2,hi e.2.2,hi<|oP e.1.2 e.2.2,.b aB,hi e.1.2,hi e.2.2,hi<|pU e.1.2 e.2.2,.b aB,.b aE] (tu e) xs (qT u low k A B C D E F fl ro v) K (cK _) (cK _) n1 (cK _) (cK _) .min2 (dt c2) (cK _) (cK _) .max2 (df c3) rfl k'⟩
  ·have c:jd e (low+k)=false:=by unfold jd;rw[df c2,IL,uq]
   rw[out c,jq,eZ,jq,eZ];exact ⟨⟨.val<|aw e.1,.val<|aw e.2,v.c,v.d,v.e⟩,λK k'=>fq (.tup [11,12]) qz o [hi e.1.2,hi e.2.2,.b aE,hi e.1.2,hi e.2.2,hi<|oP e.1.2 e.2.2,.b aE,.b aB,.b aE] (tu e) xs (qT u low k A B C D E F fl ro v) K (cK _) (cK _) n1 (cK _) (cK _) .min2 (df c2) rfl rfl k'⟩
theorem RS {o:bj} {u low k:Int} {A B C D E F:Sl}: ∀(es:List Ed) (fl ro:List Int) (v:Sv),(∀e∈es,vw o u low k e)->fl.length+es.length<=100->ro.length+es.length<=100-> ∃v',∀K:Fl->Ls->Prop,
 K .next (qT u low k A B C D E F (fl++(dK es<|low+k).map (kB · (low+k))) (ro++(dK es<|low+k).map (pq · (low+k))) v')->fW (.tup [11,12]) (qz.map SW.w) o (es.map tu) (qT u low k A B C D E F fl ro v) K:=by
 intro es;induction es with
 |nil=>exact λfl ro v h a b=>⟨v,λK k'=>by rw[show dK [] (low+k)=[] from rfl,jq,eZ,jq,eZ] at k';exact k'⟩
 |cons e es ih=>
  intro fl ro v h a b;rw[pQ] at a b;refine aV (QAy (h e<|.head _) (A:=A) (B:=B) (C:=C) (D:=D) (E:=E) (F:=F) (fl:=fl) (ro:=ro) (v:=v) (xs:=es.map tu) ⟨by exact (aQ a),by exact (aQ b)⟩) λv1 t=>?_;have l1:(dK [e]<|low+k).length<=1:=QGO _ _;refine aV (ih (fl++(dK [e]<|low+k).map (kB · (low+k))) (ro++(dK [e]<|low+k).map (pq · (low+k))) v1 (λe m=>h e<|.tail _ m) (by rw[du,dY];exact (bD a l1)) (by rw[du,dY];exact (bD b l1))) λv2 q=>?_;refine ⟨v2,λK k'=>t K<|q K ?_⟩;have s:dK (e::es) (low+k)=dK [e] (low+k)++dK es (low+k):=by unfold dK;rw[<-List.filter_append];rfl
  rw[s,gp,gp,<-ik,<-ik] at k';exact k'
end B01
set_option exponentiation.threshold 100000
namespace B01
noncomputable def e6 (l:List Int):Int:=match l with|[]=>0|a::as=>HM a as
noncomputable def eI (l:List Int):Int:=match l with|[]=>0|a::as=>By a as
noncomputable def eG (es:List Ed) (q:Int):List Int:=(dK es q).map (kB · q)
noncomputable def eU (es:List Ed) (q:Int):List Int:=(dK es q).map (pq · q)
noncomputable def iY (hs:List Int) (q:Int):Bool:=decide (eI hs<q) && decide (q<e6 hs)
noncomputable def vF (es:List Ed) (q:Int) (k:Nat) (xs:List Int):List Int:=bif (dK es q).isEmpty then xs else xs.set k (e6 (eG es q) - eI (eU es q)+1)
noncomputable def pZ (es:List Ed) (hs:List Int) (q:Int) (k:Nat) (xs:List Int):List Int:=bif iY hs q then (vF es q k xs).set (4+k) (e6 (eU es q) - eI (eG es q) - 1) else vF es q k xs
noncomputable def cT (a b c:Int×Int):List Ed:=[(a,b),(b,c),(c,a)]
noncomputable def tZ (u low:Int) (A:Sl) (a b c:Int×Int) (xs:List Int) (s8 s9 s10:Sl) (v:Sv) (E F:Sl):Ls:=[(3,.val<|.int u),(4,A),(5,.val<|.list [aw a,aw b,aw c]),(6,.val<|.list<|dI [a.2,b.2,c.2]),(7,.own<|dI xs),(8,s8),(9,s9),(10,s10),(11,v.a),(12,v.b),(13,v.c),(14,v.d),(15,v.e),(0,E),(1,.val<|.int low),(2,F)]
theorem YX {r:bQ} (a b c:Int×Int):cC r (.d<|.list [aw a,aw b,aw c]) 0 (aw a)/\cC r (.d<|.list [aw a,aw b,aw c]) 1 (aw b)/\cC r (.d<|.list [aw a,aw b,aw c]) 2 (aw c):=⟨.seq (.l .d) (by show (3:Int)<2^63;decide) (rfl:_=aA 0) rfl,.seq (.l .d) (by show (3:Int)<2^63;decide) (rfl:_=aA 1) rfl,.seq (.l .d) (by show (3:Int)<2^63;decide) (rfl:_=aA 2) rfl⟩
theorem xi {r:bQ} {v:V} {xs:List Int} (h:gZ r v (dI xs)) (n:xs≠[]):cn r .ma [v] (.int<|e6 xs):=by
 cases xs with
 |nil=>exact QHZ rfl n
 |cons a as=>exact .ma h
theorem yE {r:bQ} {v:V} {xs:List Int} (h:gZ r v (dI xs)) (n:xs≠[]):cn r .kS [v] (.int<|eI xs):=by
 cases xs with
 |nil=>exact QHZ rfl n
 |cons a as=>exact .kS h
theorem Lk (xs:List Int):mZ (dI xs):=kH<|Ey xs id
theorem K8 {r:bQ} {i:Nat} {xs:List Int} (h:r i=.own (dI xs)):gV r .NotEq (.bor i) (.d<|.list []) (!xs.isEmpty):=by
 cases xs with
 |nil=>exact .lst (.bor h) .d (Lk _) rfl (.oW rfl)
 |cons a as=>exact .lst (.bor h) .d (Lk _) rfl (.neT nofun)
theorem ZS {o:bj} {u low:Int} {k:Nat} {A E F s8 s9 s10:Sl} {a b c:Int×Int} {xs:List Int} {v:Sv} (H: ∀e∈cT a b c,vw o u low k e) (hx:xs.length=8) (hk:k<5) (S:iY [a.2,b.2,c.2] (low+k)=aB->dK (cT a b c) (low+k)≠[]/\k<4) {R:List aK}: ∃s8 s9 s10 v',∀K:Fl->Ls->Prop,
 fW (.one 8) (rN.map SW.w) o R (tZ u low A a b c (pZ (cT a b c) [a.2,b.2,c.2] (low+k) k xs) s8 s9 s10 v' E F) K->fW (.one 8) (rN.map SW.w) o (.int (k:Nat)::R) (tZ u low A a b c xs s8 s9 s10 v E F) K:=by
 refine aV (RS (o:=o) (u:=u) (low:=low) (k:=k) (A:=A) (B:=.val<|.list [aw a,aw b,aw c]) (C:=.val<|.list<|dI [a.2,b.2,c.2]) (D:=.own<|dI xs) (E:=E) (F:=F) (cT a b c) [] [] v H (by show 0+3<=100;decide) (by show 0+3<=100;decide)) λv' lp=>?_;refine ⟨.val<|.int k,.own<|dI<|eG (cT a b c)<|low+k,.own<|dI<|eU (cT a b c)<|low+k,v',λK k'=>?_⟩;have j:=λr=>YX (r:=r) a b c
 have el: ∀P:List Ed->Int->List Int,(P=eG\/P=eU)->((P (cT a b c)<|low+k).isEmpty=(dK (cT a b c)<|low+k).isEmpty):=λP h=>by
  rcases h with rfl|rfl
  ·exact Q7
  ·exact Q7
 have ef:=el eG<|.inl rfl;have er:=el eU<|.inr rfl;have hn: ∀r,cn r .kS [.d<|.list<|dI [a.2,b.2,c.2]]<|.int<|eI [a.2,b.2,c.2]:=λr=>yE .d nofun;have hm: ∀r,cn r .ma [.d<|.list<|dI [a.2,b.2,c.2]]<|.int<|e6 [a.2,b.2,c.2]:=λr=>xi .d nofun;have ln: ∀(ys:List Int),ys.length=8-> ∀(j:Nat),j<8->((j:Int)<((dI ys).length:Nat))/\(dI ys).length<2^63:=λys h j l=>by unfold dI;rw[dY,h];exact ⟨by exact (bE<|oL l),by decide⟩
 have set1: ∀(ys:List Int) (j:Int) (z:Int),(dI ys).set j.toNat (.int z)=dI (ys.set j.toNat z):=λys j z=>by unfold dI;rw[List.map_set]
 unfold pZ vF at k';induction hc:(dK (cT a b c)<|low+k).isEmpty with
 |true=>
  have e0:dK (cT a b c) (low+k)=[]:=QG.mp hc;have sf:iY [a.2,b.2,c.2] (low+k)=false:=uQ.mpr λq=>(S q).1 e0;rw[sf,hc] at k';have nb: ∀r:bQ,r 9=.own (dI<|eG (cT a b c)<|low+k)->gV r .NotEq (.bor 9) (.d<|.list []) false:=λr h=>by have:=K8 h;rw[ef,hc] at this;exact this
  by_cases c1:eI [a.2,b.2,c.2]<low+k
  ·have c2: ¬ low+k<e6 [a.2,b.2,c.2]:=λq=>by unfold iY at sf;rw[dt c1,dt q] at sf;exact br sf.symm
   exact fq (.one 8) rN o [.d<|aw a,.d<|aw b,.d<|aw b,.d<|aw c,.d<|aw c,.d<|aw a,.f .next _,.b aE,.b aE,hi<|eI [a.2,b.2,c.2],.b aB,hi<|e6 [a.2,b.2,c.2],.b aE] (.int k) R (tZ u low A a b c xs s8 s9 s10 v E F) K (j _).1 (j _).2.1 (j _).2.1 (j _).2.2 (j _).2.2 (j _).1 lp (nb _ rfl) ff (hn _) (dt c1) (hm _) (df c2) k'
  ·exact fq (.one 8) rN o [.d<|aw a,.d<|aw b,.d<|aw b,.d<|aw c,.d<|aw c,.d<|aw a,.f .next _,.b aE,.b aE,hi<|eI [a.2,b.2,c.2],.b aE,.b aE] (.int k) R (tZ u low A a b c xs s8 s9 s10 v E F) K (j _).1 (j _).2.1 (j _).2.1 (j _).2.2 (j _).2.2 (j _).1 lp (nb _ rfl) ff (hn _) (df c1) ff k'
 |false=>
  have nf:eG (cT a b c) (low+k)≠[]:=λq=>by rw[q,hc] at ef;exact br ef.symm
  have nr:eU (cT a b c) (low+k)≠[]:=λq=>by rw[q,hc] at er;exact br er.symm
  have nb: ∀r:bQ,r 9=.own (dI<|eG (cT a b c)<|low+k)->gV r .NotEq (.bor 9) (.d<|.list []) true:=λr h=>by have:=K8 h;rw[ef,hc] at this;exact this
  have l1:=ln xs hx k (by exact (aQ hk));rw[hc] at k';by_cases c1:eI [a.2,b.2,c.2]<low+k
  ·by_cases c2:low+k<e6 [a.2,b.2,c.2]
   ·have st:iY [a.2,b.2,c.2] (low+k)=true:=by unfold iY;rw[dt c1,dt c2];rfl
    have k4:=(S st).2;rw[st] at k';have l2:=ln (xs.set k<|e6 (eG (cT a b c)<|low+k) - eI (eU (cT a b c)<|low+k)+1) (by rw[List.length_set];exact hx) (4+k) (by exact (aQ k4));have s1:=set1 xs k<|e6 (eG (cT a b c)<|low+k) - eI (eU (cT a b c)<|low+k)+1;have s2:=set1 (xs.set k<|e6 (eG (cT a b c)<|low+k) - eI (eU (cT a b c)<|low+k)+1) (4+(k:Int))<|e6 (eU (cT a b c)<|low+k) - eI (eG (cT a b c)<|low+k) - 1;rw[lR] at s1;rw[show ((4:Int)+(k:Int)).toNat=4+k from rfl] at s2;have:=fq (.one 8) rN o [.d<|aw a,.d<|aw b,.d<|aw b,.d<|aw c,.d<|aw c,.d<|aw a,.f .next _,.b aB,.b aB,hi<|e6<|eG (cT a b c)<|low+k,hi<|eI<|eU (cT a b c)<|low+k,hi<|eI [a.2,b.2,c.2],.b aB,hi<|e6 [a.2,b.2,c.2],.b aB,hi<|e6<|eU (cT a b c)<|low+k,hi<|eI<|eG (cT a b c)<|low+k] (.int k) R (tZ u low A a b c xs s8 s9 s10 v E F) K (j _).1 (j _).2.1 (j _).2.1 (j _).2.2 (j _).2.2 (j _).1 lp (nb _ rfl) tt (xi (.bor rfl) nf) (yE (.bor rfl) nr) (dP k) l1.1 l1.2 (hn _) (dt c1) (hm _) (dt c2) (xi (.bor rfl) nr) (yE (.bor rfl) nf) (by exact (bE<|oZ<|k)) (by rw[lR,s1];have:=l2.1;exact l2.1) (by rw[lR,s1];exact l2.2);rw[lR,s1,show ((4:Int)+(k:Int)).toNat=4+k from rfl,s2] at this;exact this k'
   ·have sf:iY [a.2,b.2,c.2] (low+k)=false:=by unfold iY;rw[df c2,uq]
    rw[sf] at k';have s1:=set1 xs k<|e6 (eG (cT a b c)<|low+k) - eI (eU (cT a b c)<|low+k)+1;rw[lR] at s1;have:=fq (.one 8) rN o [.d<|aw a,.d<|aw b,.d<|aw b,.d<|aw c,.d<|aw c,.d<|aw a,.f .next _,.b aB,.b aB,hi<|e6<|eG (cT a b c)<|low+k,hi<|eI<|eU (cT a b c)<|low+k,hi<|eI [a.2,b.2,c.2],.b aB,hi<|e6 [a.2,b.2,c.2],.b aE] (.int k) R (tZ u low A a b c xs s8 s9 s10 v E F) K (j _).1 (j _).2.1 (j _).2.1 (j _).2.2 (j _).2.2 (j _).1 lp (nb _ rfl) tt (xi (.bor rfl) nf) (yE (.bor rfl) nr) (dP k) l1.1 l1.2 (hn _) (dt c1) (hm _)<|df c2;rw[lR,s1] at this;exact this k'
  ·have sf:iY [a.2,b.2,c.2] (low+k)=false:=by unfold iY;rw[df c1,IL]
   rw[sf] at k';have s1:=set1 xs k<|e6 (eG (cT a b c)<|low+k) - eI (eU (cT a b c)<|low+k)+1;rw[lR] at s1;have:=fq (.one 8) rN o [.d<|aw a,.d<|aw b,.d<|aw b,.d<|aw c,.d<|aw c,.d<|aw a,.f .next _,.b aB,.b aB,hi<|e6<|eG (cT a b c)<|low+k,hi<|eI<|eU (cT a b c)<|low+k,hi<|eI [a.2,b.2,c.2],.b aE,.b aE] (.int k) R (tZ u low A a b c xs s8 s9 s10 v E F) K (j _).1 (j _).2.1 (j _).2.1 (j _).2.2 (j _).2.2 (j _).1 lp (nb _ rfl) tt (xi (.bor rfl) nf) (yE (.bor rfl) nr) (dP k) l1.1 l1.2 (hn _) (df c1) ff;rw[lR,s1] at this;exact this k'
end B01
set_option exponentiation.threshold 100000
namespace B01
noncomputable def shr (A B w:Int) (p:Int×Int):Int×Int:=(p.1+A*p.2+B,p.2+w)
noncomputable def ky (A B w:Int) (e:Ed):Ed:=(shr A B w e.1,shr A B w e.2)
section
variable {A B w k:Int}
theorem Zb (a b w:Int):oP (a+w) (b+w)=oP a b+w:=by unfold oP;simp only[Iv];split<;>rfl
theorem V0 (a b w:Int):pU (a+w) (b+w)=pU a b+w:=by unfold pU;simp only[gt_iff_lt,Iv];split<;>rfl
theorem RV (e:Ed):jd (ky A B w e) (w+k)=jd e k:=by
 show ((e.1.2+w) !=(e.2.2+w) && (decide (oP (e.1.2+w) (e.2.2+w)<=w+k) && decide (w+k<=pU (e.1.2+w) (e.2.2+w))))=(e.1.2 !=e.2.2 && (decide (oP e.1.2 e.2.2<=k) && decide (k<=pU e.1.2 e.2.2)));rw[Zb,V0]
 congr 1
 ·rw[uV,bne_iff_ne,bne_iff_ne];exact ⟨λv1=>(λw1=>((AJ v1).elim (λu1=>(fh u1<|iR w1)) λu1=>(fh u1<|iL w1))),λv1=>(λw1=>((AJ v1).elim (λu1=>(fh u1<|iR w1)) λu1=>(fh u1<|iL w1)))⟩
 ·congr 1
  ·rw[uV,decide_eq_true_iff,decide_eq_true_iff];exact ⟨λv0=>(bE v0),λv0=>(bE v0)⟩
  ·rw[uV,decide_eq_true_iff,decide_eq_true_iff];exact ⟨λv0=>(bE v0),λv0=>(bE v0)⟩
theorem Mt (e:Ed):(ky A B w e).2.2 - (ky A B w e).1.2=e.2.2 - e.1.2:=by show (e.2.2+w) - (e.1.2+w)=_;exact (by simp+arith)
theorem PA (e:Ed):iZ (ky A B w e) (w+k)=iZ e k+(A*k+B)*(e.2.2 - e.1.2):=by obtain ⟨⟨a,b⟩,⟨c,d⟩⟩:=e;show (a+A*b+B)*((d+w) - (b+w))+(w+k - (b+w))*((c+A*d+B) - (a+A*b+B))=a*(d - b)+(k - b)*(c - a)+(A*k+B)*(d - b);rw[show (d+w) - (b+w)=d - b by exact (by simp+arith),show w+k - (b+w)=k - b by exact (by simp+arith),show (c+A*d+B) - (a+A*b+B)=(c - a)+A*(d - b) by rw[QGh];exact (by simp+arith)];generalize d - b=D;generalize c - a=C;rw[Ie,<-xM (k - b) A D,jr (k - b) A,QGh,Qr<|A*k,qu,qu,qu];exact (by simp+arith)
theorem J9 {e:Ed} (h:jd e k=aB):kB (ky A B w e) (w+k)=kB e k+(A*k+B)/\pq (ky A B w e) (w+k)=pq e k+(A*k+B):=by
 have n:e.2.2 - e.1.2≠0:=λq=>by unfold jd at h;rw[bne_eq_false_iff_eq.mpr (by exact (u6 q.symm):e.1.2=e.2.2)] at h;exact br h
 have a:kB (ky A B w e) (w+k)=kB e k+(A*k+B):=by unfold kB;rw[Mt,PA,Int.add_mul_fdiv_right _ _ n]
 refine ⟨a,?_⟩;unfold pq;rw[a,Mt,PA,Int.add_mul_fmod_self_right];exact (by simp+arith)
end
theorem GP {A B w k:Int} (es:List Ed):dK (es.map<|ky A B w) (w+k)=(dK es k).map (ky A B w):=by
 unfold dK;rw[QGg]
 congr 1
 exact List.filter_congr λe _=>RV e
theorem Nj {A B w k:Int} (es:List Ed):eG (es.map<|ky A B w) (w+k)=(eG es k).map (· +(A*k+B))/\eU (es.map<|ky A B w) (w+k)=(eU es k).map (· +(A*k+B)):=by unfold eG eU;rw[GP,DE,DE,DE,DE];exact ⟨Ih λe m=>(J9<|QHg<|by simpa using (QGi.mp m).2).1,Ih λe m=>(J9<|QHg<|by simpa using (QGi.mp m).2).2⟩
theorem HU {s:Int} {l:List Int} (h:l≠[]):e6 (l.map (· +s))=e6 l+s:=by
 cases l with
 |nil=>exact QHZ rfl h
 |cons a l=>
  show Iw _ (a+s) (l.map (· +s))=Iw _ a l+s;clear h;induction l generalizing a with
  |nil=>rfl
  |cons b l ih=>
   rw[gB,ot,ot,<-ih]
   congr 1
   simp only[gt_iff_lt,Iv];split<;>rfl
theorem DY {s:Int} {l:List Int} (h:l≠[]):eI (l.map (· +s))=eI l+s:=by
 cases l with
 |nil=>exact QHZ rfl h
 |cons a l=>
  show Iw _ (a+s) (l.map (· +s))=Iw _ a l+s;clear h;induction l generalizing a with
  |nil=>rfl
  |cons b l ih=>
   rw[gB,ot,ot,<-ih]
   congr 1
   simp only[gt_iff_lt,Iv];split<;>rfl
theorem OX {w k:Int} {hs:List Int} (h:hs≠[]):iY (hs.map (· +w)) (w+k)=iY hs k:=by
 unfold iY;rw[DY h,HU h]
 congr 1
 ·rw[uV,decide_eq_true_iff,decide_eq_true_iff];exact ⟨λv0=>(bE v0),λv0=>(bE v0)⟩
 ·rw[uV,decide_eq_true_iff,decide_eq_true_iff];exact ⟨λv0=>(bE v0),λv0=>(bE v0)⟩
theorem Vl {A B w:Int} {j:Nat} {k:Int} {es:List Ed} {hs xs:List Int} (h:hs≠[]):pZ (es.map<|ky A B w) (hs.map (· +w)) (w+k) j xs=pZ es hs k j xs:=by
 unfold pZ vF;rw[OX h,(Nj es).1,(Nj es).2,GP,Q7];induction hc:(dK es k) with
 |nil=>
  have e1:eG es k=[]:=by unfold eG;rw[hc];rfl
  have e2:eU es k=[]:=by unfold eU;rw[hc];rfl
  rw[e1,e2];rfl
 |cons c cs=>
  have e1:eG es k≠[]:=by unfold eG;rw[hc];exact nofun
  have e2:eU es k≠[]:=by unfold eU;rw[hc];exact nofun
  rw[HU e1,DY e1,HU e2,DY e2];rw[show e6 (eG es k)+(A*k+B) - (eI (eU es k)+(A*k+B))+1=e6 (eG es k) - eI (eU es k)+1 by exact (by simp+arith),show e6 (eU es k)+(A*k+B) - (eI (eG es k)+(A*k+B)) - 1=e6 (eU es k) - eI (eG es k) - 1 by exact (by simp+arith)]
end B01
set_option exponentiation.threshold 100000
noncomputable def Sz (n:Nat) (x:Int):Prop:=x.natAbs<2^n
theorem qZ (h:Sz n x):ib x<=n:=oo.mpr h
theorem fD (h:Sz m x) (l:m<=n):Sz n x:=mJ h (QFr (by decide) l)
theorem hW (h:Sz m x) (g:Sz n y):Sz (m+n) (x*y):=by unfold Sz at*;rw[Iu,Nat.pow_add];exact Nat.mul_lt_mul'' h g
theorem pb {x:Int} (h:0<=x) (g:x<2^n):Sz n x:=oo.mp<|(lH h).mpr g
theorem O0 (h:Sz n x):Sz n (-x):=ig (qm<|Q6 x) h
theorem mC (h:Sz n x) (g:Sz n y):Sz (n+1) (x+y):=by unfold Sz;rw[Qu,Nat.mul_two];exact ig (AM x y)<|Nat.add_lt_add h g
theorem x5 (h:Sz n x) (g:Sz n y):Sz (n+1) (x - y):=Int.sub_eq_add_neg▸mC h (O0 g)
theorem BJ (n:Nat):Sz (n+1) ((2:Int)^n):=by unfold Sz;rw[Int.natAbs_pow];exact Nat.pow_lt_pow_right (by decide)<|uc n
theorem tp {x:Int} (h:x.natAbs<=10):Sz 4 x:=ig h (by decide)
theorem Gb {m:Nat} {x:Int} (h:(m:Int)<=x):m<=x.natAbs:=oq.mp<|kD h QGj
theorem UA {x:Int} (h:2^n<=x):n<=ib x:=iH.mp λq=>QHZ (Gb (m:=2^n)<|by exact_mod_cast h)<|II.mpr<|oo.mp<|sD q
theorem lB {x y:Int} (h:Sz m x) (g:Sz n y) (l:m+n<=134217728):ib x+ib y<=134217728:=az (iF (qZ h)<|qZ g) l
namespace B01
theorem QCO (L:Nat) (hL:310<=L) {u low k:Int} {e:Ed} (u0:2^200<=u) (u1:Sz 210 u) (a1:Sz 200 e.1.1) (b1:Sz 200 e.2.1) (dy:Sz 10 (e.2.2 - e.1.2)) (q:Sz 10 (low+k - e.1.2)):vw (aU<|L+2) u low k e:=by
 have d1:=x5 b1 a1;have p1:=hW a1 dy;have p2:=hW q d1;have pl:Sz 212 (iZ e<|low+k):=mC (fD p1 (by decide:200+10<=211)) (fD p2 (by decide:10+201<=211));refine ⟨lB a1 dy (by decide),lB q d1 (by decide),lB pl u1 (by decide),lB dy u1 (by decide),λc=>?_⟩;have n:e.2.2 - e.1.2≠0:=λq=>by unfold jd at c;rw[bne_eq_false_iff_eq.mpr (by exact (u6 q.symm):e.1.2=e.2.2)] at c;exact br c
 have up:0<u:=pP (by decide) u0;have nb:(e.2.2 - e.1.2)*u≠0:=Int.mul_ne_zero n<|gE up
 have big:5<=ib ((e.2.2 - e.1.2)*u):=by
  rcases QZ (ib<|(e.2.2 - e.1.2)*u) 5 with h|h
  ·have:=oo.mp (QGH h)
   rw[Iu] at this;have g:1<=(e.2.2 - e.1.2).natAbs:=((AJ n).elim (λu1=>(oM<|bG (iR<|xO ((bE u1):e.snd.snd - e.fst.snd<=0)) u1)) λu1=>(oM<|bG (iR<|jS ((bE u1):0<=e.snd.snd - e.fst.snd)) u1))
   have v2:(16:Int)<=2^200:=by decide
   have u2:16<=u.natAbs:=Gb<|kD v2 u0;have:=Cu g u2;exact (cY this ‹(e.snd.snd - e.fst.snd).natAbs*u.natAbs<2^4›)
  ·exact h
 have f:=J4 L hL nb (az (qZ<|hW dy u1)<|by decide) (az (qZ<|hW pl u1)<|by exact (oM<|bE<|mI 100<|oL big));rw[Int.mul_fdiv_mul_of_pos_left _ _ up,jr (iZ e<|low+k) u,jr (e.2.2 - e.1.2) u,Int.mul_fmod_mul_of_pos _ _ up] at f;refine ⟨((u*(iZ e<|low+k).fmod (e.2.2 - e.1.2)).natAbs:Nat),dP _,?_,by rw[jr (iZ e<|low+k) u,jr (e.2.2 - e.1.2) u];exact f⟩;by_cases z:(iZ e<|low+k).fmod (e.2.2 - e.1.2)=0
 ·rw[z,if_pos rfl,Qx];rfl
 ·rw[if_neg z,if_pos]
  have g:1<=((iZ e<|low+k).fmod<|e.2.2 - e.1.2).natAbs:=((AJ z).elim (λu1=>(oM<|bG (iR<|xO ((bE u1):(iZ e<|low+k).fmod (e.snd.snd - e.fst.snd)<=0)) u1)) λu1=>(oM<|bG (iR<|jS ((bE u1):0<=(iZ e<|low+k).fmod (e.snd.snd - e.fst.snd))) u1))
  have v2:(2:Int)<=2^200:=by decide
  have u2:2<=u.natAbs:=Gb<|kD v2 u0;have:=Cu u2 g;rw[Iu];exact (bE<|oL this)
noncomputable def uI (t:bx):List Int:=[(p0 t).2,(p1 t).2,(p2 t).2]
noncomputable def uG (t:bx) (k:Nat) (xs:List Int):List Int:=pZ (cT (p0 t) (p1 t)<|p2 t) (uI t) k k xs
noncomputable def zN (t:bx):List Int:=uG t 4<|uG t 3<|uG t 2<|uG t 1<|uG t 0<|dV 8 0
noncomputable def strOk (t:bx) (k:Nat):Prop:=iY (uI t) k=aB->dK (cT (p0 t) (p1 t)<|p2 t) k≠[]/\k<4
theorem WI {es:List Ed} {q:Int} {k:Nat} {xs:List Int}:(vF es q k xs).length=xs.length:=by unfold vF;cases (dK es q).isEmpty<;>simp
theorem XW {es:List Ed} {hs:List Int} {q:Int} {k:Nat} {xs:List Int}:(pZ es hs q k xs).length=xs.length:=by unfold pZ;cases iY hs q<;>simp[WI]
noncomputable def FW:EW:=.list [.aH .Add (.au (.aC 201)<|.int 0)<|.aH .Mult (.aC 4)<|.au (.aC 201)<|.int 1,.au (.aC 201)<|.int 1]
noncomputable def NY:EW:=.au (.aC 201)<|.int 1
noncomputable def yd (u:Int) (k2:Int) (s5:Sl) (ps:aK) (low c:Int):Ls:=[(3,.val<|.int u),(4,.val<|.int k2),(5,s5),(6,.unb),(7,.unb),(8,.unb),(9,.unb),(10,.unb),(11,.unb),(12,.unb),(13,.unb),(14,.unb),(15,.unb),(0,.val ps),(1,.val<|.int low),(2,.val<|.int c)]
noncomputable def q7 (l:Ls):Ls:=oE (.one 201)<|oD l
noncomputable def fJ (k2:Int) (p:Int×Int):Int×Int:=(p.1+k2*p.2,p.2)
theorem TF (o:bj) {u k2 low c:Int} {ps:aK} {g:List (Int×Int)} (h: ∀p∈g,ib k2+ib p.2<=134217728) (K:List aK->Prop) (k:K (g.map λp=>aw<|fJ k2 p)):cW FW.w (.one 201) [] o (q7<|yd u k2 .unb ps low c) (g.map aw) K:=BQ (g:=aw) (f:=λp=>aw<|fJ k2 p) (λp m x K k=>fL FW (.one 201) [] o [.b aB,hi p.1,hi p.2,hi p.2] (q7<|yd u k2 .unb ps low c) (aw p) x K rfl tt (iT p) (cK p) (h p m) (cK p) rfl k) K k
theorem e_ (o:bj) {u k2 low c:Int} {ps:aK} {g:List (Int×Int)} {s5:Sl} (K:List aK->Prop) (k:K (g.map λp=>.int p.2)):cW NY.w (.one 201) [] o (q7<|yd u k2 s5 ps low c) (g.map aw) K:=BQ (g:=aw) (f:=λp=>.int p.2) (λp m x K k=>fL NY (.one 201) [] o [.b aB,hi p.2] (q7<|yd u k2 s5 ps low c) (aw p) x K rfl tt (cK p) rfl k) K k
theorem Wi (L:Nat) (hL:310<=L) {t:bx} (T:lk t) (S: ∀k,k<5->strOk t k) {A B w:Int} (hA:0<=A/\A<10^6) (hB:0<=B/\B<10^6) (hw:0<=w/\w<10^6) (c:Int):
 (aU<|L+3).F 29 [.list [aw<|shr A B w<|p0 t,aw<|shr A B w<|p1 t,aw<|shr A B w<|p2 t],.int w,.int c] (.list<|dI<|zN t):=by
 have pw:(1:Int)*2^bN 200=2^200:=by rw[gq];rfl
 have pv:(1:Int)*2^bN 150=2^150:=by rw[gq];rfl
 have P2:(0:Int)<2^200:=by decide
 have P1:(0:Int)<2^150:=by decide
 have m0:=nX c P2;have m1:=nW c P2
 refine aS (by
  refine aS (kY c (n:=2)<|by decide) λz hz e=>?_;have e:c.fmod 2=(z:Int):=e;rcases (by exact ((Ip _).imp_right λo0=>(jk (aQ hz)<|aQ<|Ir o0)):z=0\/z=1) with q|q<;>subst q
  ·exact ⟨1,λr=>dB rfl e (by show (2:Int)<2^63;decide),.inl rfl⟩
  ·exact ⟨-1,λr=>dB rfl e (by show (2:Int)<2^63;decide),.inr rfl⟩: ∃n0:Int,(∀r,cC r (.d<|.list [.int 1,.int (-1)]) (c.fmod 2)<|.int n0)/\(n0=1\/n0= -1)) λn0 i0 hn=>?_
 have v0:=nX (c.fdiv 3) P1;have v1:=nW (c.fdiv 3) P1;have z150:Sz 150 ((c.fdiv 3).fmod<|2^150):=pb v0 v1;have zn:Sz 1 n0:=by unfold Sz;exact (hn.elim (λu1=>(oM<|bG (iL<|jS ((bE<|iR u1):0<=n0))<|iL u1)) λu1=>(oM<|bG (iL<|xO ((bE<|iL u1):n0<=0))<|iR u1))
 have zk:Sz 151 ((c.fdiv 3).fmod (2^150)*n0):=hW z150 zn;have zu:Sz 210 ((2:Int)^200+c.fmod (2^200)):=fD (mC (BJ 200)<|fD (pb m0 m1) (by decide:200<=201)) (by decide);have u0:(2:Int)^200<=2^200+c.fmod (2^200):=(bE m0)
 generalize hk2:(c.fdiv 3).fmod (2^150)*n0=k2 at*;generalize hu:(2:Int)^200+c.fmod (2^200)=u at*;have z20: ∀{x:Int},0<=x/\x<10^6->Sz 20 x:=λq=>pb q.1 (Ib q.2<|by decide);have sm: ∀p,iE p->Sz 30 (shr A B w p).1/\Sz 30 (shr A B w p).2:=λp s=>⟨fD (mC (mC (fD (tp s.1) (by decide:4<=24))<|hW (z20 hA)<|tp s.2)<|fD (z20 hB)<|by decide) (by decide),fD (mC (fD (tp s.2) (by decide:4<=20))<|z20 hw)<|by decide⟩;have sq: ∀p,iE p->Sz 200 (fJ k2<|shr A B w p).1:=λp s=>by have:=sm p s;exact fD (mC (fD this.1 (by decide:30<=181))<|hW zk this.2) (by decide)
 have eq: ∀p,fJ k2 (shr A B w p)=shr (A+k2) (B+k2*w) w p:=λp=>by
  unfold fJ shr;dsimp only
  congr 1
  rw[qu,Ie];exact (by simp+arith)
 have dyS: ∀p q:Int×Int,iE p->iE q->Sz 10 ((shr A B w q).2 - (shr A B w p).2):=λp q s r=>fD ((by exact (Int.add_sub_add_right ..):(shr A B w q).2 - (shr A B w p).2=q.2 - p.2)▸x5 (tp r.2) (tp s.2)) (by decide);have qS: ∀(p:Int×Int) (k:Nat),iE p->k<5->Sz 10 (w+k - (shr A B w p).2):=λp k s l=>fD ((by unfold shr;rw[xK p.2 w];exact Int.add_sub_add_left .. :w+k - (shr A B w p).2=k - p.2)▸x5 (tp (x:=(k:Int))<|az (sD l)<|by decide) (tp s.2)) (by decide)
 have H: ∀k,k<5-> ∀e∈cT (fJ k2<|shr A B w<|p0 t) (fJ k2<|shr A B w<|p1 t) (fJ k2<|shr A B w<|p2 t),vw (aU<|L+2) u w (k:Nat) e:=λk l e m=>by
  have f: ∀p q,iE p->iE q->vw (aU<|L+2) u w (k:Nat) (fJ k2<|shr A B w p,fJ k2<|shr A B w q):=λp q s r=>QCO L hL u0 zu (sq p s) (sq q r) (dyS p q s r)<|qS p k s l;rcases bp.mp m with rfl|m
  ·exact f _ _ T.a T.b
  ·rcases bp.mp m with rfl|m
   ·exact f _ _ T.b T.c
   ·rcases bp.mp m with rfl|m
    ·exact f _ _ T.c T.a
    ·exact nomatch m
 have tr: ∀(k:Nat) xs,pZ (cT (fJ k2<|shr A B w<|p0 t) (fJ k2<|shr A B w<|p1 t)<|fJ k2<|shr A B w<|p2 t) [(fJ k2<|shr A B w<|p0 t).2,(fJ k2<|shr A B w<|p1 t).2,(fJ k2<|shr A B w<|p2 t).2] (w+k) k xs=uG t k xs:=λk xs=>by rw[eq,eq,eq];exact Vl (es:=cT (p0 t) (p1 t)<|p2 t) (hs:=uI t) (by unfold uI;exact nofun)
 have ts: ∀k:Nat,k<5->iY [(shr A B w<|p0 t).2,(shr A B w<|p1 t).2,(shr A B w<|p2 t).2] (w+k)=aB->dK (cT (fJ k2<|shr A B w<|p0 t) (fJ k2<|shr A B w<|p1 t)<|fJ k2<|shr A B w<|p2 t) (w+k)≠[]/\k<4:=λk l h=>by have h:iY ((uI t).map (· +w)) (w+k)=true:=h;rw[OX (by unfold uI;exact nofun)] at h;have:=S k l h;refine ⟨λq=>this.1 ?_,this.2⟩;rw[eq,eq,eq] at q;have q:dK ((cT (p0 t) (p1 t)<|p2 t).map<|ky (A+k2) (B+k2*w) w) (w+k)=[]:=q;rw[GP] at q;exact QGM.mp q
 have tn:=λ(k:Nat) (l:k<5) (E F s8 s9 s10:Sl) (v:Sv) (xs:List Int) (hx:xs.length=8) (R:List aK)=>ZS (o:=aU<|L+2) (A:=.val<|.int k2) (E:=E) (F:=F) (s8:=s8) (s9:=s9) (s10:=s10) (v:=v) (H k l) hx l (ts k l) (R:=R);have l8:(dV 8 (0:Int)).length=8:=AI;have l1: ∀k xs,xs.length=8->(uG t k xs).length=8:=λk xs h=>XW.trans h;generalize hD:DH [aw<|shr A B w<|p0 t,aw<|shr A B w<|p1 t,aw<|shr A B w<|p2 t]=D at*;refine yk (tn 0 (by decide) (.val D) (.val<|.int c) .unb .unb .unb ⟨.unb,.unb,.unb,.unb,.unb⟩ _ l8 [.int (1:Nat),.int (2:Nat),.int (3:Nat),.int (4:Nat)]) λa8 a9 a0 av t0=>?_;rw[tr] at t0;refine yk (tn 1 (by decide) (.val D) (.val<|.int c) a8 a9 a0 av _ (l1 0 _ l8) [.int (2:Nat),.int (3:Nat),.int (4:Nat)]) λb8 b9 b0 bv t1=>?_;rw[tr] at t1;refine yk (tn 2 (by decide) (.val D) (.val<|.int c) b8 b9 b0 bv _ (l1 1 _<|l1 0 _ l8) [.int (3:Nat),.int (4:Nat)]) λd8 d9 d0 dv t2=>?_;rw[tr] at t2;refine yk (tn 3 (by decide) (.val D) (.val<|.int c) d8 d9 d0 dv _ (l1 2 _<|l1 1 _<|l1 0 _ l8) [.int (4:Nat)]) λe8 e9 e0 ev t3=>?_;rw[tr] at t3;refine yk (tn 4 (by decide) (.val D) (.val<|.int c) e8 e9 e0 ev _ (l1 3 _<|l1 2 _<|l1 1 _<|l1 0 _ l8) []) λf8 f9 f0 fv t4=>?_;rw[tr] at t4;have lp:=λK h=>t0 K<|t1 K<|t2 K<|t3 K<|t4 K h;have ml: ∀r,ft r .Mult (.d<|.list [.int 0]) (.d<|.int 8)<|.list<|dI<|dV 8 0:=λr=>.mul (n:=8) .d (by decide) (by decide) (by decide)
 have c3: ∀K,K ([shr A B w<|p0 t,shr A B w<|p1 t,shr A B w<|p2 t].map λp=>aw<|fJ k2 p)->cW FW.w (.one 201) [] (aU<|L+2) (q7<|yd u k2 .unb D w c) ([shr A B w<|p0 t,shr A B w<|p1 t,shr A B w<|p2 t].map aw) K:=TF _ λp m=>by
  have f: ∀p,iE p->ib k2+ib (shr A B w p).2<=134217728:=λp s=>lB zk (sm p s).2 (by decide);rcases bp.mp m with rfl|m
  ·exact f _ T.a
  ·rcases bp.mp m with rfl|m
   ·exact f _ T.b
   ·rcases bp.mp m with rfl|m
    ·exact f _ T.c
    ·exact nomatch m
 have c4:=λK k=>e_ (aU<|L+2) (u:=u) (k2:=k2) (low:=w) (c:=c) (ps:=D) (g:=[fJ k2<|shr A B w<|p0 t,fJ k2<|shr A B w<|p1 t,fJ k2<|shr A B w<|p2 t]) (s5:=.val<|.list<|[shr A B w<|p0 t,shr A B w<|p1 t,shr A B w<|p2 t].map λp=>aw<|fJ k2 p) K k;subst hD;have hk:(c.fdiv 3).fmod (1*2^bN 150)*n0=k2:=by rw[pv];exact hk2
 have hv:1*2^bN 200+c.fmod (1*2^bN 200)=u:=by rw[pw];exact hu
 clear tn H t0 t1 t2 t3 t4 tr ts eq sq hk2 hu;subst hk;subst hv;exact da (rm b_law_counts 3 [3,4,5,6,7,8,9,10,11,12,13,14,15] [hi n0,.ds<|[shr A B w<|p0 t,shr A B w<|p1 t,shr A B w<|p2 t].map λp=>aw<|fJ ((c.fdiv 3).fmod (1*2^bN 150)*n0) p,.ds [.int (shr A B w<|p0 t).2,.int (shr A B w<|p1 t).2,.int (shr A B w<|p2 t).2],hl<|dI<|dV 8 0,.f .next _] (aU<|L+2) [.list [aw<|shr A B w<|p0 t,aw<|shr A B w<|p1 t,aw<|shr A B w<|p2 t],.int w,.int c] (.list<|dI<|zN t) rfl (by decide) (by decide) (by decide) (by decide) (df (by rw[pw];decide)) ff (nl rfl) (by decide) (by decide) (df (by rw[pv];decide)) ff (i0 _) (by rw[pv];exact lB z150 zn<|by decide) (by show 3<=16777216;decide) c3 (by show 3<=16777216;decide) c4 (ml _) tt lp .ret) rfl
end B01
set_option exponentiation.threshold 100000
theorem Lw (n:Nat): ∀ds:List Int,(∀d∈ds,0<=d/\d<2^n)->digs n ds.length (undig n ds)=ds:=by
 intro ds;induction ds with
 |nil=>exact λ_=>rfl
 |cons d ds ih=>intro h;have hd:=h d<|.head _;have N:=fw n;rw[pQ,BK,oX,QGZ,QFz hd.1 hd.2,Iq _ _<|gE N,Q8 hd.1 hd.2,zo,ih λx m=>h x<|.tail _ m]
theorem Jw {n:Nat} (hn:1<=n) {ds:List Int} {l:Int} (h: ∀d∈ds++[l],0<=d/\d<2^n) (hl:1<=l):dR n (undig n<|ds++[l])=ds.length+1:=by
 have r:=yD n _ h;have lo:2^(n*ds.length)<=undig n (ds++[l]):=by have a:=(yD n ds λd m=>h d<|Pe _ m).1;have P:=fw<|n*ds.length;rw[Cf,oX,u9,Qx,QGG];have:=Hg hl<|bw P;exact (bG a this)
 rw[du] at r;have up:=(lH r.1).mpr r.2;have dn: ¬ ib (undig n<|ds++[l])<=n*ds.length:=λq=>by have:=(lH r.1).mp q;exact (fh this lo)
 unfold dR;have e:n*(ds.length+[l].length)=n*ds.length+n:=by rw[List.length_singleton,DQ]
 rw[e] at up;have e2:(ds.length+1)*n=n*ds.length+n:=by rw[QGk,Ic]
 have e3:(ds.length+1+1)*n=n*ds.length+n+n:=by rw[QGk,e2]
 exact Nat.div_eq_of_lt_le (by rw[e2];exact (bD (qt dn)<|nR<|sE ((aQ hn):1<=ib (undig n<|ds++[l])+n))) (by rw[e3];exact (bD (nL<|sE ((aQ hn):1<=ib (undig n<|ds++[l])+n)) up))
theorem ZC (a b B:Int):(b+a*B+B*B)*(B*B*B*B*B)=((15+10*a+6*b)+B*(10+6*a+3*b)+B*B*(6+3*a+b)+B*B*B*(3+a)+B*B*B*B)*((B - 1)*(B - 1)*(B - 1))+((21+15*a+10*b)*(B*B) - (35+24*a+15*b)*B+(15+10*a+6*b)):=by grind
theorem Sj {a b B:Int} (h:2^16<=B) (A:0<=a/\a<=100) (C:0<=b/\b<=100):0<=(21+15*a+10*b)*(B*B) - (35+24*a+15*b)*B+(15+10*a+6*b)/\(21+15*a+10*b)*(B*B) - (35+24*a+15*b)*B+(15+10*a+6*b)+1<=(B - 1)*(B - 1)*(B - 1):=by
 have b0:0<=B:=(bE h)
 have bb:0<=B*B:=kG b0 b0;have h1:(35+24*a+15*b)*B<=21*(B*B):=by have:=mV (show 35+24*a+15*b<=4000 by exact (bG (mI 24 A.2)<|mI 15 C.2)) b0;exact kD this (kD (mV (by exact (bE h):4000<=B) b0)<|by exact (bE<|mI 20 bb))
 have h2:0<=(15*a+10*b)*(B*B):=kG (by exact (bG (mI 15 A.1)<|mI 10 C.1)) bb;have h3:(21+15*a+10*b)*(B*B)<=3000*(B*B):=mV (by exact (bG (mI 15 A.2)<|mI 10 C.2)) bb;have h4:0<=(35+24*a+15*b)*B:=kG (by exact (bG (mI 24 A.1)<|mI 15 C.1)) b0;have h5:(B - 1)*(B - 1)*(B - 1)=B*(B*B) - 3*(B*B)+3*B - 1:=by grind
 have h6:65536*(B*B)<=B*(B*B):=mV (by exact h) bb;have h7:(21+15*a+10*b)*(B*B)=21*(B*B)+(15*a+10*b)*(B*B):=by rw[QGF,qu]
 rw[h5];refine ⟨?_,?_⟩
 ·rw[h7]
  exact (bG (ni h1 h2)<|ni (mI 10 A.1)<|mI 6 C.1)
 ·generalize B*(B*B)=y at*
  generalize B*B=z at*;generalize (35+24*a+15*b)*B=v at*;exact (bG (ni (ni h3 h4)<|ni (mI 10 A.2)<|mI 6 C.2)<|ni h6<|ni (mI 62533 bb)<|mI 3 h)
noncomputable def iP (a b B:Int):Int:=(15+10*a+6*b)+B*(10+6*a+3*b)+B*B*(6+3*a+b)+B*B*B*(3+a)+B*B*B*B
theorem QDL {a b B U far e:Int} (h:2^16<=B) (A:0<=a/\a<=100) (C:0<=b/\b<=100) (u:0<U) (e0:0<e) (e1:e<U) {N D:Int} (hD:D=(B - 1)*(B - 1)*(B - 1)*U) (hN:N=(b+a*B+B*B)*(B*B*B*B*B)*U+far*D+e):
 0<D/\N.fdiv D=far+iP a b B/\(-N).fdiv (-D)=far+iP a b B/\(-N).fdiv D= -1 - (far+iP a b B)/\N.fdiv (-D)= -1 - (far+iP a b B):=by
 have R:=Sj h A C;have pl:=ZC a b B;generalize hR:(21+15*a+10*b)*(B*B) - (35+24*a+15*b)*B+(15+10*a+6*b)=r at*;have hq:(15+10*a+6*b)+B*(10+6*a+3*b)+B*B*(6+3*a+b)+B*B*B*(3+a)+B*B*B*B=iP a b B:=rfl;rw[hq] at pl;have b1:0<B - 1:=(bE h)
 have c3:=lU (lU b1 b1) b1;generalize hc:(B - 1)*(B - 1)*(B - 1)=c at*;have D0:0<D:=hD▸lU c3 u;have ru:(r+1)*U<=c*U:=mV R.2<|bw u;have r0:0<=r*U:=kG R.1<|bw u;rw[qu,gq] at ru
 have n2:N=(r*U+e)+D*(far+iP a b B):=by
  rw[hN,pl,hD]
  grind
 have f:N.fdiv D=far+iP a b B:=by rw[iB _ D0,n2,Iq _ _<|gE D0,Q8 (by exact (bG r0 e0)) (by rw[hD];exact (bG ru e1)),zo]
 have g:(-N).fdiv D= -1 - (far+iP a b B):=by
  have n3: -N=(D - (r*U+e))+D*(-1 - (far+iP a b B)):=by rw[n2];grind
  rw[iB _ D0,n3,Iq _ _<|gE D0,Q8 (by rw[hD];exact (bG ru e1)) (by exact (bG r0 e0)),zo]
 refine ⟨D0,f,by rw[QGl];exact f,g,?_⟩;rw[<-g,<-QGl N (-D),Int.neg_neg]
set_option exponentiation.threshold 100000
namespace B01
noncomputable def jW (h w:Int):List Int:=[15+10*(h - 3)+6*w,10+6*(h - 3)+3*w,6+3*(h - 3)+w,h,1]
theorem ZV {W:Nat} {h w:Int}:iP (h - 3) w (2^W)=undig W (jW h w):=by
 unfold iP jW;simp only[oX,u9];generalize (2:Int)^W=B
 grind
theorem He {a b c x y B:Int} (h:(0<=a/\a<=10)/\(0<=b/\b<=6)/\0<=c/\c<=15) (A:3<=x/\x<=100) (C:0<=y/\y<=100) (g:65536<=B):0<=c+a*(x - 3)+b*y/\c+a*(x - 3)+b*y<B:=by have x0:0<=x - 3:=Iy A.1;have x1:x - 3<=100:=kD (QGm _<|by decide) A.2;refine ⟨qw (qw h.2.2.1<|kG h.1.1 x0)<|kG h.2.1.1 C.1,pP (o9 (Ck (Ck h.2.2.2<|Hm h.1.2 x1 x0<|by decide)<|Hm h.2.1.2 C.2 C.1<|by decide)<|by decide) g⟩
theorem Tq (L:Nat) {W:Nat} (h1:16<=W) (h2:W<=315) {h w:Int} (hh:3<=h/\h<=100) (hw:0<=w/\w<=100) (hL:5<=L):(aU<|L+1).F 5 [.int<|iP (h - 3) w<|2^W,.int W] (.list<|dI<|jW h w):=by
 have big:(65536:Int)<=2^W:=BF (m:=16) h1
 have rg: ∀d∈jW h w,0<=d/\d<2^W:=by
  intro d m;simp only[jW,bp,gU,or_false] at m;rcases m with rfl|rfl|rfl|rfl|rfl
  ·exact He (by decide) hh hw big
  ·exact He (by decide) hh hw big
  ·exact gq w▸He (b:=1) (by decide) hh hw big
  ·exact ⟨kD (by decide) hh.1,o9 hh.2<|pP (by decide) big⟩
  ·exact ⟨by decide,pP (by decide) big⟩
 have p:dR W (undig W<|jW h w)=5:=Jw (n:=W) (by exact (aQ h1)) (ds:=[15+10*(h - 3)+6*w,10+6*(h - 3)+3*w,6+3*(h - 3)+w,h]) (l:=1) rg (by decide);rw[ZV];have:=Am L (n:=W) (yD W _ rg).1 (az (by decide) h1) (by rw[p];exact hL) (by rw[p];decide) (by rw[p];exact (aQ<|gC 5 h2)) (by exact (aQ h2));rw[p,show digs W 5 (undig W<|jW h w)=jW h w from Lw W (jW h w) rg] at this;exact this
theorem W0 (L:Nat) {W:Nat} (h1:16<=W) (h2:W<=315) (hL:5<=L): ∃x y,(aU<|L+1).F 6 [.list<|dI [],.int W] (.int x)/\(aU<|L+1).F 5 [.int x,.int W] (.list<|dI [])/\(aU<|L+1).F 6 [.list<|dI [2^W - 1,2^W - 1,2^W - 1],.int W] (.int y)/\(aU<|L+1).F 5 [.int y,.int W] (.list<|dI [2^W - 1,2^W - 1,2^W - 1]):=by
 have big:(65536:Int)<=2^W:=BF (m:=16) h1;have rg: ∀d∈[(2:Int)^W - 1,2^W - 1]++[2^W - 1],0<=d/\d<2^W:=by intro d m;simp only[sV,sa,bp,gU,or_false] at m;have q:(0:Int)<=2^W - 1/\(2:Int)^W - 1<2^W:=⟨Iy<|fw W,Int.sub_lt_self _<|by decide⟩;rcases m with rfl|rfl|rfl<;>exact q
 have p:dR W (undig W<|[(2:Int)^W - 1,2^W - 1]++[2^W - 1])=3:=Jw (n:=W) (by exact (aQ h1)) rg (by exact (bE big));have z:dR W (undig W [])=0:=by rw[u9];unfold dR;rw[MO];exact Qw (by exact (aQ<|nL<|sE ((aQ h1):1<=0+W)))
 refine ⟨_,_,BG L (ds:=[]) (hJ _) (hJ _) (az (by decide) h1) (hJ _) nofun,?_,BG L (ds:=[(2:Int)^W - 1,2^W - 1]++[2^W - 1]) (by show 3<=L;exact (aQ hL)) (by show 3<=256;decide) (az (by decide) h1) (by show W*3<=_;exact (aQ<|gC 3 h2)) rg,?_⟩
 ·have:=Am L (n:=W) (a:=undig W []) (uW _) (az (by decide) h1) (by rw[z];exact (by simp+arith)) (by rw[z];exact (by simp+arith)) (by rw[z];exact (by simp+arith)) (by exact (aQ h2))
  rw[z] at this;exact this
 ·have:=Am L (n:=W) (yD W _ rg).1 (az (by decide) h1) (by rw[p];exact az (by decide) hL) (by rw[p];decide) (by rw[p];exact az (Nat.mul_le_mul_right 3 h2)<|by decide) (az h2<|by decide)
  rw[p,show digs W 3 (undig W<|[(2:Int)^W - 1,2^W - 1]++[2^W - 1])=[(2:Int)^W - 1,2^W - 1]++[2^W - 1] from Lw W _ rg] at this;exact this
noncomputable def Ff:EW:=.call 5 [.call 6 [.aC 201,.aC 3],.aC 3]
noncomputable def GN (w' u d f:Int) (fs:aK) (h w c:Int):Ls:=[(3,.val<|.int w'),(4,.val<|.int u),(5,.val<|.int d),(6,.val<|.int f),(7,.val fs),(8,.unb),(9,.unb),(10,.unb),(11,.unb),(12,.unb),(0,.val<|.int h),(1,.val<|.int w),(2,.val<|.int c)]
theorem NV {o:bj} {w' u d f h w c x y:Int} {fs:aK} {A B:List Int} (a:o.F 6 [.list<|dI A,.int w'] (.int x)) (b:o.F 5 [.int x,.int w'] (.list<|dI A)) (a2:o.F 6 [.list<|dI B,.int w'] (.int y)) (b2:o.F 5 [.int y,.int w'] (.list<|dI B)) (K:List aK->Prop) (k:K [.list<|dI A,.list<|dI B]):cW Ff.w (.one 201) [] o (q7<|GN w' u d f fs h w c) [.list<|dI A,.list<|dI B] K:=fL Ff (.one 201) [] o [.b aB,hi x,.d<|.list<|dI A] (q7<|GN w' u d f fs h w c) (.list<|dI A) [.list<|dI B] K rfl tt a b rfl (fL Ff (.one 201) [] o [.b aB,hi y,.d<|.list<|dI B] (q7<|GN w' u d f fs h w c) (.list<|dI B) [] _ rfl tt a2 b2 rfl k)
end B01
set_option exponentiation.threshold 100000
theorem OV (x:Int):x^bN 3=x*x*x:=by
 show x^3=_
 grind
theorem pw5 (W:Nat):(2:Int)^(5*W)=2^W*2^W*2^W*2^W*2^W:=by rw[show 5*W=W+W+W+W+W by exact (by simp+arith),m6,m6,m6,m6]
theorem JL:Sz 1 1:=by unfold Sz;decide
theorem up2 {u:Int} (h:2^n+m=u) (a:0<=m) (b:m<2^n):2^n<=u/\u<2^(n+1):=by subst h;rw[rP,Int.two_mul];exact ⟨Int.le_add_of_nonneg_right a,QFt b _⟩
theorem QAK {a:Int} (A:0<=a) (h:a<300): ∃W:Nat,16+a=W/\16<=W/\W<=315:=⟨(16+a).toNat,by omega,by omega,by omega⟩
theorem Si {a b:Int} (h:0<b) (k:0<a):b<=a*b:=kD (Cm (gq b).symm)<|mV k<|bw h
theorem BI (a b:Int):a+b - a=b:=by simp+arith
theorem KU (x:Int): -1 - (-1 - x)=x:=by simp+arith
theorem To (W:Nat):(5*(W:Int)).toNat=5*W:=rfl
theorem y_ {w h B:Int} (hh:3<=h/\h<=100) (hw:0<=w/\w<=100) (b:65536<=B): ∀d∈[w,h - 3,1],0<=d/\d<B:=by
 intro d q;simp only[bp,gU,or_false] at q;rcases q with rfl|rfl|rfl
 ·exact ⟨hw.1,o9 hw.2<|pP (by decide) b⟩
 ·exact ⟨Iy hh.1,o9 (QGm _<|by decide)<|o9 hh.2<|pP (by decide) b⟩
 ·exact ⟨by decide,pP (by decide) b⟩
namespace B01
theorem Lj {r:bQ} {f:Int}:gV r .NotEq (.d<|.tuple [.int f,.int 0]) (.d<|.tuple [.int f,.int 0]) false:=.tup (kH (by intro x m;rcases bp.mp m with rfl|m;exact tK _;rcases List.mem_cons.mp m with rfl|m;exact tK _;exact nomatch m)) (kH (by intro x m;rcases List.mem_cons.mp m with rfl|m;exact tK _;rcases List.mem_cons.mp m with rfl|m;exact tK _;exact nomatch m))<|.oW rfl
theorem EX (A:List Int):fP 8 (.list<|dI A)=true:=by refine dq.mpr λy m=>?_;refine aS (ij.mp m) λi _ e=>?_;subst e;rfl
theorem BL (A B:List Int):mZ [.list<|dI A,.list<|dI B]:=kH (by intro x m;rcases bp.mp m with rfl|m;exact EX A;rcases List.mem_cons.mp m with rfl|m;exact EX B;exact nomatch m)
noncomputable def EU (L:Nat) (h w c w' u d m e far:Int):Prop:=ib far+ib d<=134217728/\ ∀X,X=m*2^(5*w').toNat*u+far*d+1+e-> ∃w2 w3 q r w4:Int,(∀R,cC R (.d<|.list [.int 1,.int (-1),.int (-1),.int 1]) ((c.fdiv 13).fmod 4)<|.int w2)/\ib X+ib w2<=134217728/\(∀R,cC R (.d<|.list [.int 1,.int (-1),.int 1,.int (-1)]) ((c.fdiv 13).fmod 4)<|.int w3)/\ib d+ib w3<=134217728/\(aU<|L+2).F 28 [.int<|X*w2,.int<|d*w3] (.list [.int q,.int r])/\0<=r/\(∀R,cC R (.d<|.list [.int q,.int q,.int (-1 - q),.int (-1 - q)]) ((c.fdiv 13).fmod 4)<|.int w4)/\(aU<|L+2).F 5 [.int<|w4 - far,.int w'] (.list<|dI<|jW h w)
theorem QAu (L:Nat) (hL:320<=L) {h w:Int} (hh:3<=h/\h<=100) (hw:0<=w/\w<=100) (c w' u d f g e:Int) (hw':16+c.fmod 300=w') (hu:1*2^bN 4200+(c.fdiv 7).fmod (1*2^bN 4200)=u) (hd:(1*2^w'.toNat - 1)^bN 3*u=d) (hf:1*2^bN (ib d:Int) - 1=f) (hg:(c.fdiv 5).fmod (1*2^bN 4300)=g) (he:(c.fdiv 11).fmod (u - 1)=e): ∃x y m:Int,(aU<|L+2).F 6 [.list<|dI [],.int w'] (.int x)/\(aU<|L+2).F 5 [.int x,.int w'] (.list<|dI [])/\(aU<|L+2).F 6 [.list<|dI [1*2^w'.toNat - 1,1*2^w'.toNat - 1,1*2^w'.toNat - 1],.int w'] (.int y)/\(aU<|L+2).F 5 [.int y,.int w'] (.list<|dI [1*2^w'.toNat - 1,1*2^w'.toNat - 1,1*2^w'.toNat - 1])/\(aU<|L+2).F 6 [.list [.int w,.int<|h - 3,.int 1],.int w'] (.int m)/\(aU<|L+2).F 8 [.int<|f*d,.int d] (.tuple [.int f,.int 0])/\((ib 1:Nat):Int)+w'<=134217728/\((ib (1*2^w'.toNat - 1):Nat):Int)*3<=134217728/\ib ((1*2^w'.toNat - 1)^bN 3)+ib u<=134217728/\((ib 1:Nat):Int)+(ib d:Nat)<=134217728/\ib f+ib d<=134217728/\ib 5+ib w'<=134217728/\((ib m:Nat):Int)+5*w'<=134217728/\ib (m*2^(5*w').toNat)+ib u<=134217728/\ ¬ u - 1=0/\0<=w'/\0<=5*w'/\EU L h w c w' u d m e (f - g.fmod (1*2^bN 2000))/\EU L h w c w' u d m e g:=by
 have p4:(1:Int)*2^bN 4200=2^4200:=by rw[gq];rfl
 have p43:(1:Int)*2^bN 4300=2^4300:=by rw[gq];rfl
 have p20:(1:Int)*2^bN 2000=2^2000:=by rw[gq];rfl
 refine cy (QAK (nX c<|by decide)<|nW c<|by decide) λW eW W1 W2=>?_;have eW:=hw'.symm.trans eW;have tW:w'.toNat=W:=eW▸rfl;have t5:(5*w').toNat=5*W:=eW▸rfl;have P42:(0:Int)<2^4200:=by decide
 have u0:2^4200<=u/\u<2^4201:=up2 (p4▸hu) (nX (c.fdiv 7) P42)<|nW (c.fdiv 7) P42;have up:0<u:=pP P42 u0.1;have up1:0<u - 1:=Int.sub_pos_of_lt (pP (by decide) u0.1);obtain ⟨B,hB⟩: ∃B:Int,2^W=B:=⟨_,rfl⟩;have big:(65536:Int)<=B:=hB▸BF (m:=16) W1;have hd2:d=(B - 1)*(B - 1)*(B - 1)*u:=by rw[<-hd,tW,gq,hB,OV]
 have b1:0<B - 1:=(bE big)
 have d0:0<d:=hd2▸lU (lU (lU b1 b1) b1) up;have zB:Sz 315 (B - 1):=pb (by exact (bE big)) (by have:B<=2^315:=hB▸BF W2;exact (bE this));have zu:Sz 4201 u:=pb (bw up) u0.2;have zB3:=hW (hW zB zB) zB;have zd:Sz 5146 d:=hd2▸hW zB3 zu;have dn:=qZ zd;have dbig:4200<=ib d:=UA<|kD u0.1<|hd2▸Si up (lU (lU b1 b1) b1);have zf:Sz 5148 f:=by rw[<-hf,gq,lR];exact fD (x5 (BJ<|ib d)<|fD JL<|by exact (by simp+arith)) (by exact (aQ dn))
 have zg:Sz 4300 g:=by rw[p43] at hg;exact pb (hg▸nX _ (by decide)) (hg▸nW _ (by decide))
 have zg2:Sz 2000 (g.fmod<|1*2^bN 2000):=by rw[p20];exact pb (nX _<|by decide) (nW _<|by decide)
 have e0:0<=e/\e<u - 1:=⟨he▸nX _ up1,he▸nW _ up1⟩;have ze:Sz 4201 e:=pb e0.1 (by exact (bG u0.2 e0.2));obtain ⟨m,hm⟩: ∃m,undig W [w,h - 3,1]=m:=⟨_,rfl⟩;have m3:(aU<|L+2).F 6 [.list [.int w,.int<|h - 3,.int 1],.int W] (.int m):=hm▸BG (L+1) (ds:=[w,h - 3,1]) (by show 3<=L+1;exact (aQ hL)) (by show 3<=256;decide) (by exact (aQ W1)) (by show W*3<=_;exact (aQ<|gC 3 W2)) (hB▸y_ hh hw big)
 have m4:m=w+(h - 3)*B+B*B:=by
  rw[<-hm];simp only[oX,u9,hB]
  grind
 have zBB:Sz 316 B:=hB▸fD (BJ W) (H7 W2);have z8: ∀{x:Int},0<=x/\x<=100->Sz 8 x:=λq=>pb q.1 (o9 q.2<|by decide);have zm:Sz 634 m:=m4▸mC (fD (mC (fD (z8 hw) (by decide:8<=324))<|hW (z8 ⟨Iy hh.1,by exact (bE hh.2)⟩) zBB)<|by decide) (fD (hW zBB zBB)<|by decide);have z5:Sz 1576 ((2:Int)^(5*W)):=fD (BJ _) (by exact (aQ<|gC 5 W2))
 have dc: ∀far:Int,Sz 5149 far->ib far+ib d<=134217728/\ ∀X,X=m*2^(5*w').toNat*u+far*d+1+e-> ∃w2 w3 q r w4:Int,(∀R,cC R (.d<|.list [.int 1,.int (-1),.int (-1),.int 1]) ((c.fdiv 13).fmod 4)<|.int w2)/\ib X+ib w2<=134217728/\(∀R,cC R (.d<|.list [.int 1,.int (-1),.int 1,.int (-1)]) ((c.fdiv 13).fmod 4)<|.int w3)/\ib d+ib w3<=134217728/\(aU<|L+2).F 28 [.int<|X*w2,.int<|d*w3] (.list [.int q,.int r])/\0<=r/\(∀R,cC R (.d<|.list [.int q,.int q,.int (-1 - q),.int (-1 - q)]) ((c.fdiv 13).fmod 4)<|.int w4)/\w4 - far=iP (h - 3) w B:=λfar zfar=>by
  refine ⟨lB zfar zd (by decide),λX hX=>?_⟩;rw[t5] at hX;have zX:Sz 10300 X:=by rw[hX];exact fD (mC (mC (mC (fD (hW (hW zm z5) zu) (by decide:634+1576+4201<=10295))<|hW zfar zd)<|fD JL<|by decide)<|fD ze<|by decide) (by decide)
  have core:=QDL (a:=h - 3) (b:=w) (B:=B) (U:=u) (far:=far) (e:=1+e) (N:=X) (D:=d) (by exact big) ⟨by exact (bE hh.1),by exact (bE hh.2)⟩ hw up (by exact (bE e0.1)) (by exact (bE e0.2)) hd2 (by rw[hX,m4,pw5,hB];grind);have pm: ∀s:Int,s=1\/s= -1->Sz 1 s:=λs q=>by rcases q with q|q<;>subst q<;>(unfold Sz;decide)
  have go: ∀w2 w3:Int,(w2=1\/w2= -1)->(w3=1\/w3= -1)->ib X+ib w2<=134217728/\ib d+ib w3<=134217728/\(aU<|L+2).F 28 [.int<|X*w2,.int<|d*w3] (.list [.int<|(X*w2).fdiv<|d*w3,.int (((X*w2).fmod<|d*w3).natAbs:Nat)]):=λw2 w3 h2 h3=>by
   have ed:ib (d*w3)=ib d:=by
    rcases h3 with q|q<;>subst q
    ·rw[ug]
    ·exact jk (Bn<|by exact (oM<|bG (iR<|jS ((bE d0):0<=d))<|iL<|xO ((bE d0):d* -1<=0))) (Bn<|by exact (oM<|bG (iR<|xO ((bE d0):d* -1<=0))<|iL<|jS ((bE d0):0<=d)))
   have ex:ib (X*w2)<=10300:=qZ (by rcases h2 with q|q<;>subst q;rw[Int.mul_one];exact zX;rw[Int.mul_neg_one];exact O0 zX);exact ⟨lB zX (pm w2 h2) (by decide),lB zd (pm w3 h3) (by decide),J4 L (by exact (aQ hL)) (Int.mul_ne_zero (Int.ne_of_gt d0) (by rcases h3 with q|q<;>subst q<;>decide)) (by rw[ed];exact (aQ dn)) (by rw[ed];exact Nat.le_trans ex<|Nat.le_trans (by decide)<|Nat.mul_le_mul_left 100 dbig)⟩
  refine aS (kY (c.fdiv 13) (n:=4)<|by decide) λz hz ez=>?_;have l4:(4:Int)<2^63:=by decide
  rcases (RF z hz) with q|q|q|q<;>subst q
  ·have:=go 1 1 (.inl rfl) (.inl rfl)
   exact ⟨1,1,_,_,far+iP (h - 3) w B,λR=>dB rfl ez l4,this.1,λR=>dB rfl ez l4,this.2.1,this.2.2,dP _,λR=>dB (by rw[ug,ug,core.2.1];rfl) ez l4,BI _ _⟩
  ·have:=go (-1) (-1) (.inr rfl) (.inr rfl)
   exact ⟨-1, -1,_,_,far+iP (h - 3) w B,λR=>dB rfl ez l4,this.1,λR=>dB rfl ez l4,this.2.1,this.2.2,dP _,λR=>dB (by rw[Iz,Iz,core.2.2.1];rfl) ez l4,BI _ _⟩
  ·have:=go (-1) 1 (.inr rfl) (.inl rfl)
   exact ⟨-1,1,_,_,far+iP (h - 3) w B,λR=>dB rfl ez l4,this.1,λR=>dB rfl ez l4,this.2.1,this.2.2,dP _,λR=>dB (by rw[Iz,ug,core.2.2.2.1,KU];rfl) ez l4,BI _ _⟩
  ·have:=go 1 (-1) (.inl rfl) (.inr rfl)
   exact ⟨1, -1,_,_,far+iP (h - 3) w B,λR=>dB rfl ez l4,this.1,λR=>dB rfl ez l4,this.2.1,this.2.2,dP _,λR=>dB (by rw[ug,Iz,core.2.2.2.2,KU];rfl) ez l4,BI _ _⟩
 have zx:Sz 315 (1*2^w'.toNat - 1):=by rw[tW,gq,hB];exact zB
 have zx3:Sz 945 ((1*2^w'.toNat - 1)^bN 3):=by rw[OV];exact hW (hW zx zx) zx
 have ex:(2:Int)^W - 1=1*2^w'.toNat - 1:=by rw[tW,gq]
 have zw:Sz 10 w':=eW▸ig W2 (by decide);have z55:Sz 3 5:=by unfold Sz;decide
 have zp:Sz 1576 ((2:Int)^(5*w').toNat):=t5▸z5;obtain ⟨x,y,f1,f2,f3,f4⟩:=W0 (L+1) W1 W2 (by exact (aQ hL));rw[ex] at f3 f4;have f5:=λfar w4 (q:w4 - far=iP (h - 3) w B)=>Tq (L+1) W1 W2 hh hw (by exact (aQ hL));rw[hB] at f5;rw[<-eW] at f1 f2 f3 f4 m3 f5;have i8:=PL (L+1) (by exact (aQ hL)) (a:=f*d) (gE d0) (by exact (aQ dn)) (az (qZ<|hW zf zd)<|az (by decide)<|gC 100 dbig);rw[Int.mul_fdiv_cancel _<|gE d0,Int.mul_fmod_left] at i8;have i1:ib 1=1:=rfl;have zfr:Sz 5149 (f - g.fmod (1*2^bN 2000)):=x5 zf (fD zg2<|by decide);have zmi:=qZ zm;have zxi:=qZ zx;have q9:((ib 1:Nat):Int)+w'<=134217728:=by rw[i1];exact (bG (iL eW)<|oL W2)
 have q11:((ib (1*2^w'.toNat - 1):Nat):Int)*3<=134217728:=(bE<|mI 3<|oL zxi)
 have q12:=lB zx3 zu (by decide);have q15:((ib 1:Nat):Int)+(ib d:Nat)<=134217728:=by rw[i1];exact (bE<|oL dn)
 have q19:=lB zf zd (by decide);have q41:=lB z55 zw (by decide);have q43:((ib m:Nat):Int)+5*w'<=134217728:=by omega
 have q44:=lB (hW zm zp) zu (by decide);have q48: ¬ u - 1=0:=gE up1;have w0:0<=w':=(bG (iR eW)<|oL W1)
 have w5:0<=5*w':=(bG (mI 5<|iR eW)<|mI 5<|oL W1)
 have bG: ∀far:Int,Sz 5149 far->EU L h w c w' u d m e far:=λfar zfar=>⟨(dc far zfar).1,λX hX=>by
  obtain ⟨w2,w3,q,r,w4,a1,a2,a3,a4,a5,a6,a7,a8⟩:=(dc far zfar).2 X hX
  exact ⟨w2,w3,q,r,w4,a1,a2,a3,a4,a5,a6,a7,a8▸f5 far w4 a8⟩⟩
 exact ⟨x,y,m,f1,f2,f3,f4,m3,i8,q9,q11,q12,q15,q19,q41,q43,q44,q48,w0,w5,bG _ zfr,bG _<|fD zg<|by decide⟩
noncomputable def NR (c:Int):Int:=16+c.fmod 300
noncomputable def GI (c:Int):Int:=1*2^bN 4200+(c.fdiv 7).fmod (1*2^bN 4200)
noncomputable def Lr (c:Int):Int:=(1*2^(NR c).toNat - 1)^bN 3*GI c
noncomputable def muB (c:Int):Int:=1*2^bN (ib (Lr c):Int) - 1
noncomputable def Y3 (c:Int):Int:=(c.fdiv 5).fmod<|1*2^bN 4300
noncomputable def R1 (c:Int):Int:=(c.fdiv 11).fmod<|GI c - 1
theorem SV (L:Nat) (hL:320<=L) {h w:Int} (hh:3<=h/\h<=100) (hw:0<=w/\w<=100) (c:Int):(aU<|L+3).F 33 [.int h,.int w,.int c] (.list<|dI<|jW h w):=by
 have p4:(1:Int)*2^bN 4200=2^4200:=by rw[gq];rfl
 have p43:(1:Int)*2^bN 4300=2^4300:=by rw[gq];rfl
 have p20:(1:Int)*2^bN 2000=2^2000:=by rw[gq];rfl
 obtain ⟨x,y,m,f1,f2,f3,f4,m3,i8,q9,q11,q12,q15,q19,q41,q43,q44,q48,w0,w5,G1,G2⟩:=QAu L hL hh hw c (NR c) (GI c) (Lr c) (muB c) (Y3 c) (R1 c) rfl rfl rfl rfl rfl rfl;have ps: ∀(a:Int) R,ft R .Mult (.d<|.list [.int a]) (.d<|.int 3)<|.list<|dI [a,a,a]:=λa R=>.mul (n:=3) .d (by show 1*3<=256;decide) (by decide) (by decide);induction par:((c.fdiv 2).fmod 2==0) with
 |true=>obtain ⟨q45,G⟩:=G1;obtain ⟨w2,w3,q,r,w4,a1,a2,a3,a4,a5,a6,a7,a8⟩:=G _ rfl;exact da (rm HA 3 [3,4,5,6,7,8,9,10,11,12] [hi _,.d<|.list _,.d<|.tuple _,.b aE,.b aE,.ds _,.b aE,.b aE,.b aE,.b aB,hi m,hi w2,hi w3,.d<|.list [.int q,.int r],.b aE,hi w4,.d<|.list<|dI<|jW h w] (aU<|L+2) [.int h,.int w,.int c] _ rfl ff (by decide) (by decide) ff (nl rfl) (by decide) (by decide) (df (by rw[p4];decide)) w0 q9 tt q11 q12 .bits (dP _) q15 w0 q9 (ps _ _) q19 i8 Lj rfl (by show 2<=16777216;decide) (λK k=>NV f1 f2 f3 f4 K k) (.lst .d .d (BL [] _) (BL [] _)<|.oW rfl) rfl rfl ff (nl rfl) (by decide) (by decide) (df (by rw[p43];decide)) ff (nl rfl) ff par (by decide) (by decide) (df (by rw[p20];decide)) m3 q41 w5 q43 q44 q45 ff (nl rfl) (df q48) ff (nl rfl) ff (a1 _) a2 (a3 _) a4 a5 (df<|jL.mpr a6) (a7 _) a8 .ret) rfl
 |false=>obtain ⟨q45,G⟩:=G2;obtain ⟨w2,w3,q,r,w4,a1,a2,a3,a4,a5,a6,a7,a8⟩:=G _ rfl;exact da (rm HA 3 [3,4,5,6,7,8,9,10,11,12] [hi _,.d<|.list _,.d<|.tuple _,.b aE,.b aE,.ds _,.b aE,.b aE,.b aE,.b aE,hi m,hi w2,hi w3,.d<|.list [.int q,.int r],.b aE,hi w4,.d<|.list<|dI<|jW h w] (aU<|L+2) [.int h,.int w,.int c] _ rfl ff (by decide) (by decide) ff (nl rfl) (by decide) (by decide) (df (by rw[p4];decide)) w0 q9 tt q11 q12 .bits (dP _) q15 w0 q9 (ps _ _) q19 i8 Lj rfl (by show 2<=16777216;decide) (λK k=>NV f1 f2 f3 f4 K k) (.lst .d .d (BL [] _) (BL [] _)<|.oW rfl) rfl rfl ff (nl rfl) (by decide) (by decide) (df (by rw[p43];decide)) ff (nl rfl) ff par m3 q41 w5 q43 q44 q45 ff (nl rfl) (df q48) ff (nl rfl) ff (a1 _) a2 (a3 _) a4 a5 (df<|jL.mpr a6) (a7 _) a8 .ret) rfl
end B01
namespace B01
noncomputable def eV (t:bx):List Int:=(bg 8).map λj=>((bg 4).countP λx=>(eT t x).contains j:Nat)
noncomputable def cD (a b:Int×Int):Int×Int:=(b.1 - a.1,b.2 - a.2)
noncomputable def wC (t:bx):Int:=((cD (p0 t)<|p1 t).1*(cD (p1 t)<|p2 t).2 - (cD (p0 t)<|p1 t).2*(cD (p1 t)<|p2 t).1).natAbs
noncomputable def fj (p:Int×Int):Int:=(AL p.1.natAbs p.2.natAbs:Nat)
noncomputable def sz (t:bx):Int:=fj (cD (p2 t)<|p0 t)+fj (cD (p0 t)<|p1 t)+fj (cD (p1 t)<|p2 t)
noncomputable def Be (t:bx):List Int:=[4,3,2,1,0].map λk=>(wC t*k*k+sz t*k+2).fdiv 2
noncomputable def tH (t:bx):Int:=((eV t).take 5).sum
noncomputable def qh (t:bx):Int:=((eV t).drop 5).sum
noncomputable def HB (t:bx) (k:Nat):Bool:= !iY (uI t) k||(!(dK (cT (p0 t) (p1 t)<|p2 t) k).isEmpty && Nat.blt k 4)
noncomputable def Ae (t:bx):Bool:=(bg 5).all (HB t) && ((zN t==eV t) && ((decide (3<=tH t) && decide (tH t<=100)) && ((decide (0<=qh t) && decide (qh t<=100)) && (jW (tH t) (qh t)==Be t))))
noncomputable def A3 (n:Nat) (k:Nat->Bool):Bool:=Nat.rec (k 0) (λm O=>k<|DD m) n
noncomputable def wM (x:Int) (k:Int->Bool):Bool:=Int.rec (λn=>A3 n λm=>k<|.ofNat m) (λn=>A3 n λm=>k<|.negSucc m) x
noncomputable def Bx (l:List Int):(List Int->Bool)->Bool:=QGn (λk=>k []) (λa O ih k=>wM a λa=>ih λl=>k<|a::l) l
noncomputable def vn (l:List Nat):(List Nat->Bool)->Bool:=QGn (λk=>k []) (λa O ih k=>A3 a λa=>ih λl=>k<|a::l) l
theorem Gm (n:Nat) (k:Nat->Bool):A3 n k=k n:=by cases n<;>rfl
theorem LO (x:Int) (k:Int->Bool):wM x k=k x:=by
 cases x with
 |ofNat n=>exact Gm n λm=>k<|.ofNat m
 |negSucc n=>exact Gm n λm=>k<|.negSucc m
theorem XU (l:List Int): ∀k,Bx l k=k l:=by
 induction l with
 |nil=>exact λk=>rfl
 |cons a l ih=>exact λk=>(LO a λa=>Bx l λl=>k<|a::l).trans<|ih _
theorem VO (l:List Nat): ∀k,vn l k=k l:=by
 induction l with
 |nil=>exact λk=>rfl
 |cons a l ih=>exact λk=>(Gm a λa=>vn l λl=>k<|a::l).trans<|ih _
noncomputable def fd4 (a b c d:List Nat):List Int:=(bg 8).map λj=>(([a,b,c,d].countP λx=>x.contains j:Nat):Int)
noncomputable def Dr (t:bx):Bool:=(bg 5).all (HB t) && Bx (zN t) λc=>vn (eT t 0) λb0=>vn (eT t 1) λb1=>vn (eT t 2) λb2=>vn (eT t 3) λb3=>Bx (fd4 b0 b1 b2 b3) λf=>c==f && wM (f.take 5).sum λa=>wM (f.drop 5).sum λi=>(decide (3<=a) && decide (a<=100)) && ((decide (0<=i) && decide (i<=100)) && wM (wC t) λA=>wM (sz t) λs=>jW a i==[4,3,2,1,0].map λk=>(A*k*k+s*k+2).fdiv 2)
theorem QAB (t:bx):Dr t=Ae t:=by unfold Dr;simp only[XU,VO,LO];rfl
noncomputable def kv (y0 x1:Nat):Bool:=[0,1,2,3].all λy1=>[0,1,2,3].all λx2=>[0,1,2,3,4].all λy2=>qM x1 y1 x2 y2 y0||Dr ⟨y0,x1,y1,x2,y2⟩
theorem Te:kv 0 1=true:=by decide+kernel
theorem QBx:kv 0 2=true:=by decide+kernel
theorem Ul:kv 0 3=true:=by decide+kernel
theorem QCY:kv 1 1=true:=by decide+kernel
theorem Wm:kv 1 2=true:=by decide+kernel
theorem Ws:kv 1 3=true:=by decide+kernel
theorem QBy:kv 2 1=true:=by decide+kernel
theorem VB:kv 2 2=true:=by decide+kernel
theorem X9:kv 2 3=true:=by decide+kernel
theorem T9:kv 3 1=true:=by decide+kernel
theorem YU:kv 3 2=true:=by decide+kernel
theorem QAk:kv 3 3=true:=by decide+kernel
theorem x_: ∀y0∈[0,1,2,3],∀x1∈[1,2,3],kv y0 x1=true:=by simp only[List.forall_mem_cons];exact ⟨⟨Te,QBx,Ul,nofun⟩,⟨QCY,Wm,Ws,nofun⟩,⟨QBy,VB,X9,nofun⟩,⟨T9,YU,QAk,nofun⟩,nofun⟩
end B01
section
open PySem.StrLaws
namespace B01
theorem QCU (L:Nat) {k l v:Nat} {x y:aG} (b:gQ.contains (k:Int)=aE) (m:lG k=x) (b2:gQ.contains (l:Int)=aE) (m2:lG l=y) (hv:v<27) (j:nU ⟨#[]⟩ [x,y]):(aU<|L+2).F 17 [.str ⟨#[k,l,cm v]⟩] (.str<|DJ ⟨#[]⟩ [x,y]):=by
 have t:(mq ⟨#[k,l,cm v]⟩).filterMap rC=[x,y].map .str:=by show QGc rC [mn k,mn l,mn<|cm v]=_;rw[nP,Bd b m,nP,Bd b2 m2,nP,G8 (rp v hv).1];rfl
 exact Mu L (bJ rfl) t j
noncomputable def Yh:List (List Nat):=[[102],[105],[108],[115],[116],[102,102],[102,105],[115,116]]
noncomputable def yx (k:Nat):Str:=⟨(Yh.getD k []).toArray⟩
noncomputable def Ft:List Dat:=[.str ⟨#[102]⟩,.str ⟨#[105]⟩,.str ⟨#[108]⟩,.str ⟨#[115]⟩,.str ⟨#[116]⟩,.str ⟨#[102,102]⟩,.str ⟨#[102,105]⟩,.str ⟨#[115,116]⟩]
noncomputable def Ec:List Dat:=[.str ⟨#[10]⟩,.str ⟨#[13]⟩,.str ⟨#[13,10]⟩]
noncomputable def eR (C:aK) (c:Int) (s4 s5 s6 s7 s8 s9 s10 s11 s12:Sl):Ls:=[(2,.val<|.list Ft),(3,.val<|.list Ec),(4,s4),(5,s5),(6,s6),(7,s7),(8,s8),(9,s9),(10,s10),(11,s11),(12,s12),(0,.val C),(1,.val<|.int c)]
theorem Ma: ∀k,k<8->Ft[k]?=aA (.str<|yx k)
 |0,_|1,_|2,_|3,_|4,_|5,_|6,_|7,_=>rfl
 |n+8,h=>QHZ h λK=>lA K
structure EA (k:Nat) (B:List Nat):Prop where
 ne:B≠[]
 len:B.length<=4
 big: ∀c∈B,46<c
 pre: ∀L,(aU<|L+2).F 17 [.str ⟨B.toArray⟩]<|.str<|yx k
theorem VS:gQ.contains ((64256:Nat):Int)=aE/\gQ.contains ((64257:Nat):Int)=aE/\gQ.contains ((64262:Nat):Int)=aE/\lG 64256=⟨#[102,102]⟩/\lG 64257=⟨#[102,105]⟩/\lG 64262=⟨#[115,116]⟩:=by decide+kernel
theorem ya (L:Nat) {C:aK} {c t:Int} {a w:Nat} {s4 s6 s7:Sl} (ha:a∈th) (ew:(c.fdiv 8+t).fmod 12=w) (hw:w<12):CE (RB 13 [cU,.aH .Add (.aH .FloorDiv oO<|.int 8) FG]).w eE [] (aU<|L+1) (gK<|eR C c s4 (.val<|.int t) s6 s7 .unb .unb .unb .unb .unb) (.str ⟨#[a]⟩) (aA<|.str ⟨#[dS a w]⟩):=λR K h=>fL (.call 13 [cU,.aH .Add (.aH .FloorDiv oO<|.int 8) FG]) eE [] (aU<|L+1) [.b aB,ht ⟨#[dS a w]⟩] (gK<|eR C c s4 (.val<|.int t) s6 s7 .unb .unb .unb .unb .unb) (.str ⟨#[a]⟩) R K rfl tt ff (nl rfl) (EV L (Di _ ha).1 (Di _ ha).2 ew hw) rfl h
theorem Vk (a:Nat):nU ⟨#[]⟩ [(⟨#[a]⟩:aG)]:=Fg (by show 1<=1000;decide) (by decide)
theorem Fe (a b:Nat):nU ⟨#[]⟩ [(⟨#[a]⟩:aG),⟨#[b]⟩]:=by delta nU QGP;rfl
noncomputable abbrev ET (L:Nat) (C:aK) (c:Int) (t k:Nat):Prop:= ∃B,EA k B/\ ∃y:aG,∀rs s5 s6 s7 xs K,rs.length<=100->
 fW (.one 5) (vJ.map SW.w) (aU<|L+1) xs (eR C c (.own<|rs++[.str ⟨(46::B).toArray⟩]) (.val<|.int t) (.val<|.int k) (.val<|.str y) .unb .unb .unb .unb .unb) K->
 fW (.one 5) (vJ.map SW.w) (aU<|L+1) (.int t::xs) (eR C c (.own rs) s5 s6 s7 .unb .unb .unb .unb .unb) K
theorem RX (L:Nat) (C:aK) (c:Int) (t k:Nat) (ht8:t<8) (ek:(c+t).fmod 8=k) (hk:k<8):ET L C c t k:=by
 refine aS (kY (c.fdiv 8+t) (n:=12)<|by decide) λw hw ew=>?_;refine aS (kY (c.fdiv 8+5*t) (n:=27)<|by decide) λv hv ev=>?_;have hh:=Ar L ev hv;have i5:ib (5:Int)+ib (t:Int)<=134217728:=xr (by decide) (sF ht8<|by decide);have nk: ∀r,cC r (.d<|.list Ft) ((c+t).fmod 8)<|.str<|yx k:=λr=>dB (Ma k hk) ek (by decide)
 have one: ∀a,a∈th->yx k=⟨#[a]⟩->k<=4->ET L C c t k:=λa ha e h4=>by
  refine eN (B7 a ha w hw) λf1 f2 f3=>?_;have hb:=(rp v hv).2;refine ⟨[dS a w,cm v],⟨nofun,bJ rfl,λd m=>?_,λL=>?_⟩,⟨#[dS a w]⟩,λrs s5 s6 s7 xs K hr h=>?_⟩
  ·rcases bp.mp m with rfl|m
   ·exact (aQ f3)
   ·rw[Ig.mp m];exact (aQ hb)
  ·rw[e];exact EG L f1 f2 (by show 1<=1000;decide) hv
  ·rw[e] at nk
   rw[<-ek] at h;exact fq (.one 5) vJ _ [ht _,.ds [.str ⟨#[dS a w]⟩],ht ⟨#[dS a w]⟩,.b aB,.b aE,ht ⟨#[46,dS a w]⟩,ht ⟨#[cm v]⟩,ht ⟨#[46,dS a w,cm v]⟩] (.int t) xs (eR C c (.own rs) s5 s6 s7 .unb .unb .unb .unb .unb) K ff (nk _) (bJ rfl) (λK h=>ya L ha ew hw [] K h) (.join .d<|Vk _) (df<|jL.mpr<|by exact (bG (iL ek)<|oL h4)) rfl (oH rfl rfl) ff (nl rfl) i5 hh (oH rfl rfl) (by exact (aQ hr)) h
 have two: ∀(a b u:Nat),a∈th->b∈th->yx k=⟨#[a,b]⟩->4<k->gQ.contains (u:Int)=aE->lG u=⟨#[a,b]⟩->46<u->u<=1114111->(∀r,cC r (.d<|.list [.int 64256,.int 64257,.int 64262]) ((c+t).fmod 8 - 5)<|.int u)->ET L C c t k:=λa b u ha hb' e h4 u1 u2 u3 u4 ui=>by
  refine eN (B7 a ha w hw) λf1 f2 f3=>?_;refine eN (B7 b hb' w hw) λg1 g2 g3=>?_;have hb:=(rp v hv).2;rw[e] at nk;induction par:((c.fdiv 96+t).fmod 2==0) with
  |false=>
   refine ⟨[dS a w,dS b w,cm v],⟨nofun,bJ rfl,λd m=>?_,λL=>?_⟩,⟨#[dS a w,dS b w]⟩,λrs s5 s6 s7 xs K hr h=>?_⟩
   ·simp only[bp,gU,or_false] at m
    rcases m with rfl|rfl|rfl
    ·exact (aQ f3)
    ·exact (aQ g3)
    ·exact (aQ hb)
   ·rw[e];exact QCU L f1 f2 g1 g2 hv<|Fe _ _
   ·rw[<-ek] at h
    exact fq (.one 5) vJ _ [ht _,.ds [.str ⟨#[dS a w]⟩,.str ⟨#[dS b w]⟩],ht ⟨#[dS a w,dS b w]⟩,.b aE,.b aB,.b aE,ht ⟨#[46,dS a w,dS b w]⟩,ht ⟨#[cm v]⟩,ht ⟨#[46,dS a w,dS b w,cm v]⟩] (.int t) xs (eR C c (.own rs) s5 s6 s7 .unb .unb .unb .unb .unb) K ff (nk _) (bJ rfl) (λK h=>ya L ha ew hw [.str ⟨#[b]⟩] K<|ya L hb' ew hw [] _ h) (.join .d<|Fe _ _) (dt<|by exact (bG (iR ek)<|oL h4)) ff (nl rfl) ff par rfl (oH rfl rfl) ff (nl rfl) i5 hh (oH rfl rfl) (by exact (aQ hr)) h
  |true=>
   refine ⟨[u,cm v],⟨nofun,bJ rfl,λd m=>?_,λL=>?_⟩,⟨#[u]⟩,λrs s5 s6 s7 xs K hr h=>?_⟩
   ·simp only[bp,gU,or_false] at m
    rcases m with rfl|rfl
    ·exact u3
    ·exact (aQ hb)
   ·rw[e];exact EG L u1 u2 (by show 2<=1000;decide) hv
   ·rw[<-ek] at h
    exact fq (.one 5) vJ _ [ht _,.ds [.str ⟨#[dS a w]⟩,.str ⟨#[dS b w]⟩],ht ⟨#[dS a w,dS b w]⟩,.b aE,.b aE,.b aB,hi u,ht ⟨#[u]⟩,ht ⟨#[46,u]⟩,ht ⟨#[cm v]⟩,ht ⟨#[46,u,cm v]⟩] (.int t) xs (eR C c (.own rs) s5 s6 s7 .unb .unb .unb .unb .unb) K ff (nk _) (bJ rfl) (λK h=>ya L ha ew hw [.str ⟨#[b]⟩] K<|ya L hb' ew hw [] _ h) (.join .d<|Fe _ _) (dt<|by exact (bG (iR ek)<|oL h4)) ff (nl rfl) ff par rfl (ui _) (yL rfl u4) (oH rfl rfl) ff (nl rfl) i5 hh (oH rfl rfl) (by exact (aQ hr)) h
 have lf:=VS;rcases (PN k hk) with rfl|rfl|rfl|rfl|rfl|rfl|rfl|rfl
 ·exact one 102 (by decide) rfl (by decide)
 ·exact one 105 (by decide) rfl (by decide)
 ·exact one 108 (by decide) rfl (by decide)
 ·exact one 115 (by decide) rfl (by decide)
 ·exact one 116 (by decide) rfl (by decide)
 ·exact two 102 102 64256 (by decide) (by decide) rfl (by decide) lf.1 lf.2.2.2.1 (by decide) (by decide) λr=>dB (w:=0) rfl (by exact (u6 ek)) (by decide)
 ·exact two 102 105 64257 (by decide) (by decide) rfl (by decide) lf.2.1 lf.2.2.2.2.1 (by decide) (by decide) λr=>dB (w:=1) rfl (by exact (u6 ek)) (by decide)
 ·exact two 115 116 64262 (by decide) (by decide) rfl (by decide) lf.2.2.1 lf.2.2.2.2.2 (by decide) (by decide) λr=>dB (w:=2) rfl (by exact (u6 ek)) (by decide)
end B01
end
section
open PySem.StrLaws PySem.Builtin.Str
noncomputable def iz (e:Nat):List Nat:=match e with|0=>[10]|1=>[13]|_=>[13,10]
theorem UT (r:List Nat) (h:e≠1\/r.head?≠aA 10):e2 (iz e++r)=13::10::e2 r:=by
 rcases e with O|O|O
 ·exact Oo r
 ·exact J8<|h.resolve_left λq=>q rfl
 ·exact Jm r
theorem l_ (b:Bool) (core r:List Nat):e1 b (core++13::10::r)=e1 b core++13::10::e1 aB r:=by
 simp only[ZL];generalize zT b core=c;have:e1 c (13::10::r)=13::10::e1 aB r:=by simp[m9]
 exact sb this rfl
theorem vf (e:Nat):(iz e).length<=2:=by rcases e with O|O|O<;>exact Nat.le_of_ble_eq_true rfl
noncomputable def jx:List (List Nat×Nat)->List Nat->List Nat
 |[],l=>l
 |p::s,l=>p.1++(iz p.2++jx s l)
noncomputable def jn (f:List Nat->List Nat):List (List Nat×Nat)->List Nat->List Nat
 |[],l=>f l
 |p::s,l=>f p.1++13::10::jn f s l
noncomputable def xo:List (List Nat×Nat)->List Nat->Prop
 |[],l=> ∀c∈l,c≠13/\c≠10
 |p::s,l=>(∀c∈p.1,c≠13/\c≠10)/\(p.2≠1\/(jx s l).head?≠aA 10)/\xo s l
theorem Gk (l:List Nat): ∀s,xo s l->e2 (jx s l)=jn id s l
 |[],h=>by have:=Bs l [] h;rw[eZ] at this;exact this.trans (eZ l)
 |p::s,h=>by show e2 (p.1++(iz p.2++jx s l))=_;rw[Bs _ _ h.1,UT _ h.2.1,Gk l s h.2.2];rfl
theorem Ky (l:List Nat): ∀s,e1 aB (jn id s l)=jn (e1 aB) s l
 |[]=>rfl
 |p::s=>by show e1 aB (p.1++13::10::jn id s l)=_;rw[l_,Ky l s];rfl
theorem Ji (f:List Nat->List Nat) (l:List Nat): ∀s p,jn f (p::s) l=rowsOf [13,10] (f p.1) (s.map (λq=>f q.1)++[f l])
 |[],p=>rfl
 |q::s,p=>by show f p.1++13::10::jn f (q::s) l=_;rw[Ji f l s q];rfl
theorem VU {x:aG} {s:List (List Nat×Nat)} {p q:List Nat×Nat} {l:List Nat} (hx:x.cps.toList=jx (p::q::s) l) (h:xo (p::q::s) l) (h13: ∀r∈(p::q::s).map (λq=>e1 aB q.1)++[e1 aB l],13∉r):
 Txt.split (q1<|q2 x) ⟨#[13,10]⟩=((p::q::s).map (λq=>e1 aB q.1)++[e1 aB l]).map λr=>⟨r.toArray⟩:=
 QCP (r:=e1 aB p.1) (r1:=e1 aB q.1) (rs:=s.map (λq=>e1 aB q.1)++[e1 aB l]) (by rw[OB,Oa,hx,Gk l _ h,Ky,Ji];rfl) h13
noncomputable def bq (n:Nat) (B:List Nat):List Nat:=dV (1+n) 46++B
theorem Cd {n:Nat} {B:List Nat} (h: ∀c∈B,46<c):e1 aB (bq n B)=bq (n+1) B/\(∀v,46<v->e1 aB (v::bq n B)=v::bq n B)/\ ∀c∈bq n B,c≠13/\c≠10:=by
 have a: ∀c∈bq n B,c≠13/\c≠10:=by
  intro c m;rcases qn.mp m with m|m
  ·have:=(DW.mp m).2;exact ⟨(λw0=>(cY (nR this)<|nL w0)),(λw0=>(cY (nR this)<|nL w0))⟩
  ·have:=h c m;exact ⟨(λw0=>(cY this (nL w0))),(λw0=>(cY this (nL w0)))⟩
 refine ⟨?_,λv hv=>?_,a⟩
 ·have b: ∀c∈dV n 46++B,c≠10:=λc m=>by
   rcases qn.mp m with m|m
   ·have:=(DW.mp m).2;exact (λw0=>(cY (nR this)<|nL w0))
   ·have:=h c m;exact (λw0=>(cY this (nL w0)))
  unfold bq;rw[uv 1 n,uv 1<|n+1,xN,xN,xN,sV,sV,sV,m9];show [46,46]++e1 aE _=_;rw[Jk _ b];rfl
 ·rw[m9]
  have c1:(v==46)=false:=by simp;exact (λw0=>(cY hv<|nL w0))
  have c2:(v==10)=false:=by simp;omega
  rw[c1,c2,Jk _ λc m=>(a c m).2];rfl
end
section
open PySem.StrLaws
theorem OG {x y:aG} (e:iI x l h=y) (P:nY a l) (p:nY b h) (hl:x.length<=16777216):gR r (.d<|.str x) a b (.d .none) (.str y):=e▸ .str P p hl
theorem Od {bs:List Nat} {k:Nat}:cB (k:Int)∈bs.map (λ(n:Nat)=>cB n)↔bs.contains k=true:=by
 rw[Hx,ij];constructor
 ·rintro ⟨a,h,e⟩
  have:(a:Int)=k:=Dat.int.inj e;have:a=k:=(jk (oM<|bE<|iL this)<|oM<|bE<|iR this)
  exact this▸h
 ·intro h
  exact ⟨k,h,rfl⟩
theorem FU {W:Int} {z:Nat} (Z:W.fmod 3=z) (t:Nat):(W+(t:Int)).fmod 3=(((z+t) % 3:Nat)):=by rw[mi _<|by decide] at Z⊢;rw[<-DV,Z];rfl
namespace B01
theorem Dn: ∀k,k<3->Ec[k]?=aA (.str ⟨(iz k).toArray⟩)
 |0,_=>rfl
 |1,_=>rfl
 |2,_=>rfl
 |n+3,h=>QHZ h λK=>lA K
noncomputable def A5 (bs:List Nat) (k:Nat) (P:List Nat):Prop:=(bs.contains k=aB/\P=[])\/(bs.contains k=aE/\ ∃v,v<27/\P=[cm v])
theorem QCQ (L:Nat) (C:aK) (c:Int) {x t k e:Nat} (ht8:t<8) (ek:(c+t).fmod 8=k) (ee:(c+x).fmod 3=e) (bs:List Nat): ∃P,A5 bs k P/\ ∀rs (row T:List Nat) s5 s6 s7 xs K,rs[t]?=aA (.str ⟨row.toArray⟩)->row.length<=100->T.length<=10000->rs.length<100->
 fW (.one 5) (uC.map SW.w) (aU<|L+1) xs (eR C c (.val<|.list rs) (.val<|.int t) s6 s7 (.val<|.int x) (.val<|.list<|bs.map λ(n:Nat)=>cB n) (.val<|.str ⟨(T++(P++row++iz ((e+t) % 3))).toArray⟩) .unb .unb) K->
 fW (.one 5) (uC.map SW.w) (aU<|L+1) (.int t::xs) (eR C c (.val<|.list rs) s5 s6 s7 (.val<|.int x) (.val<|.list<|bs.map λ(n:Nat)=>cB n) (.val<|.str ⟨T.toArray⟩) .unb .unb) K:=by
 refine aS (kY (c.fdiv 27+x+7*t) (n:=27)<|by decide) λv hv ev=>?_;have i7:ib (7:Int)+ib (t:Int)<=134217728:=xr (by decide) (sF ht8<|by decide);have en: ∀r,cC r (.d<|.list Ec) ((c+x+t).fmod 3)<|.str ⟨(iz<|(e+t) % 3).toArray⟩:=λr=>dB (Dn _<|dw _<|by decide) (FU ee t) (by decide);have el:=vf<|(e+t) % 3;have b8:mZ (bs.map λ(n:Nat)=>cB n):=kH<|Ey bs λn=>(n:Int);induction q:bs.contains k with
 |true=>refine ⟨[],.inl ⟨q,rfl⟩,λrs row T s5 s6 s7 xs K hr h1 h2 h3 h=>?_⟩;rw[sa,<-ik] at h;exact fq (.one 5) uC _ [.b aE,.b aE,ht _,ht ⟨(T++row).toArray⟩,ht _,ht ⟨(T++row++iz ((e+t) % 3)).toArray⟩] (.int t) xs (eR C c (.val<|.list rs) s5 s6 s7 (.val<|.int x) (.val<|.list<|bs.map λ(n:Nat)=>cB n) (.val<|.str ⟨T.toArray⟩) .unb .unb) K ff (by rw[ek];exact .inl .d b8 (tK _)<|.NF<|Od.mpr q) rfl (dB hr rfl (by exact (bE<|oL h3))) (sA<|by exact (bD h2 h1)) ff (en _) (sA (by rw[du];exact (bD (na h2 h1) el))) h
 |false=>refine ⟨[cm v],.inr ⟨q,v,hv,rfl⟩,λrs row T s5 s6 s7 xs K hr h1 h2 h3 h=>?_⟩;rw[<-ik,<-ik] at h;exact fq (.one 5) uC _ [.b aB,.b aB,ht ⟨[cm v].toArray⟩,ht ⟨(T++[cm v]).toArray⟩,ht _,ht ⟨(T++[cm v]++row).toArray⟩,ht _,ht ⟨(T++[cm v]++row++iz ((e+t) % 3)).toArray⟩] (.int t) xs (eR C c (.val<|.list rs) s5 s6 s7 (.val<|.int x) (.val<|.list<|bs.map λ(n:Nat)=>cB n) (.val<|.str ⟨T.toArray⟩) .unb .unb) K ff (by rw[ek];exact .inl .d b8 (tK _) (.K0 λm=>by rw[Od.mp m] at q;exact nomatch q)) rfl ff (nl rfl) i7 (Ar L ev hv) (sA (by show _+1<=_;exact (aQ h2))) (dB hr rfl (by exact (bE<|oL h3))) (sA (by rw[du];show _+1+_<=_;exact (bD h2 h1))) ff (en _) (sA (by rw[du,du];show _+1+_+_<=_;exact (bD (na h2 h1) el))) h
noncomputable def Fd:EW:=.ite (.eP aE aB<|.call 10 [.dJ cU aF (aA<|.int 1) aF]) (.dJ cU (aA<|.int 1) aF aF) cU
theorem OC (a:Nat) (r:List Nat) (h:r.length<=1000):(∀R,gR R (.d<|.str ⟨(a::r).toArray⟩) (.d .none) (.d<|.int 1) (.d .none)<|.str ⟨#[a]⟩)/\ ∀R,gR R (.d<|.str ⟨(a::r).toArray⟩) (.d<|.int 1) (.d .none) (.d .none)<|.str ⟨r.toArray⟩:=by
 have l:(⟨(a::r).toArray⟩:aG).length=r.length+1:=by show (a::r).toArray.size=_;simp
 exact ⟨λR=>OG ((PQ (x:=⟨(a::r).toArray⟩) (b:=1)<|by exact (aQ<|nR l)).trans rfl) .none .int (by exact (bD (nL l) h)),λR=>OG ((Li (x:=⟨(a::r).toArray⟩) (a:=1)<|by exact (aQ<|nR l)).trans rfl) .int .none<|by exact (bD (nL l) h)⟩
theorem VH (L:Nat) {C:aK} {c:Int} {s4 s5 s6 s7 s8 s9 s10:Sl} {n k:Nat} {bs B P:List Nat} (hP:A5 bs k P) (hB: ∀c∈B,46<c) (hl:B.length<=4) (hn:n<=100):CE Fd.w eE [] (aU<|L+1) (gK<|eR C c s4 s5 s6 s7 s8 s9 s10 .unb .unb) (.str ⟨(e1 aB<|P++bq n B).toArray⟩) (aA<|.str ⟨(bq (n+if bs.contains k then 1 else 0) B).toArray⟩):=λR K h=>by
 have E:=Cd (n:=n) hB;have dl: ∀m,m<=101->(bq m B).length<=200:=λm hm=>by unfold bq;rw[du,AI];exact (bD hm hl)
 rcases hP with ⟨q,e⟩|⟨q,v,hv,e⟩
 ·rw[e,sa,E.1]
  rw[q] at h;have d:bq (n+1) B=46::bq n B:=by unfold bq;rw[<-wX,uv (1+n) 1,uv 1<|1+n,xN];rfl
  have s:=OC 46 (bq n B) (az (dl n<|by exact (aQ hn))<|by decide);rw[<-d] at s;have y:=Bg L 46;rw[show gQ.contains ((46:Nat):Int)=aE by decide+kernel] at y;exact fL Fd eE [] (aU<|L+1) [.b aB,ht ⟨#[46]⟩,.d<|.bool aE,.b aE,ht ⟨(bq (n+1) B).toArray⟩] (gK<|eR C c s4 s5 s6 s7 s8 s9 s10 .unb .unb) (.str ⟨(bq (n+1) B).toArray⟩) R K rfl tt (s.1 _) y rfl rfl h
 ·rw[e]
  rw[q] at h;rw[show [cm v]++bq n B=cm v::bq n B from rfl,E.2.1 _ (by have:=(rp v hv).2;exact (aQ this))];have s:=OC (cm v) (bq n B) (az (dl n<|by exact (aQ hn))<|by decide);have y:=Bg L<|cm v;rw[(rp v hv).1] at y;exact fL Fd eE [] (aU<|L+1) [.b aB,ht ⟨#[cm v]⟩,.d<|.bool aB,.b aB,ht ⟨(bq n B).toArray⟩] (gK<|eR C c s4 s5 s6 s7 s8 s9 s10 .unb .unb) (.str ⟨(cm v::bq n B).toArray⟩) R K rfl tt (s.1 _) y rfl (s.2 _) rfl h
end B01
end
section
open PySem.StrLaws
theorem Mr {P:Nat->List Nat->Prop} (T: ∀t,t<8-> ∃b,P t b): ∃f:Nat->List Nat,∀t,t<8->P t (f t):=⟨λt=>if h:t<8 then QGe (T t h) else [],λt h=>by dsimp only;rw[dif_pos h];exact QGf<|T t h⟩
namespace B01
noncomputable def lE (n:Nat->Nat) (B:Nat->List Nat) (st x:Nat):List Dat:=[.str ⟨(bq (n 0)<|B 0).toArray⟩,.str ⟨(bq (n 1)<|B 1).toArray⟩,.str ⟨(bq (n 2)<|B 2).toArray⟩,.str ⟨(bq (n 3)<|B 3).toArray⟩,.str ⟨(bq (n 4)<|B 4).toArray⟩,.str ⟨(bq (n 5)<|B 5).toArray⟩,.str ⟨(bq (n 6)<|B 6).toArray⟩,.str ⟨(bq (n 7)<|B 7).toArray⟩,.str ⟨#[st,46,32]⟩,.str ⟨#[]⟩,.str ⟨(dV (1+x) 46).toArray⟩]
theorem Oq {n:Nat->Nat} {B:Nat->List Nat} {st x:Nat}: ∀t,t<8->(lE n B st x)[t]?=aA (.str ⟨(bq (n t)<|B t).toArray⟩)
 |0,_|1,_|2,_|3,_|4,_|5,_|6,_|7,_=>rfl
 |n+8,h=>QHZ h λK=>lA K
theorem Y9 {bs P z:List Nat} {k n:Nat} {B:List Nat} (h:A5 bs k P):((P++bq n B)++z).head?≠aA 10:=by
 rcases h with ⟨-,e⟩|⟨-,v,hv,e⟩
 ·rw[e]
  unfold bq;rw[uv 1 n,xN];simp
 ·rw[e]
  have:=(rp v hv).2;simp;exact (λw0=>(cY this (nL w0)))
theorem Z7 {bs P:List Nat} {k n:Nat} {B:List Nat} (h:A5 bs k P) (hB: ∀c∈B,46<c):(∀c∈P++bq n B,c≠13/\c≠10)/\13∉e1 aB (P++bq n B)/\P.length<=1:=by
 have E:=Cd (n:=n) hB;have F:=Cd (n:=n+1) hB;rcases h with ⟨-,e⟩|⟨-,v,hv,e⟩
 ·rw[e,sa,E.1]
  exact ⟨E.2.2,λm=>(F.2.2 _ m).1 rfl,hJ _⟩
 ·rw[e,show [cm v]++bq n B=cm v::bq n B from rfl]
  have g:=(rp v hv).2;rw[E.2.1 _<|by exact (aQ g)]
  have q: ∀c∈cm v::bq n B,c≠13/\c≠10:=λc m=>by
   rcases bp.mp m with rfl|m
   ·exact ⟨(λw0=>(cY g<|nL w0)),(λw0=>(cY g<|nL w0))⟩
   ·exact E.2.2 c m
  exact ⟨q,λm=>(q _ m).1 rfl,bh _⟩
theorem YG (e:Nat):(e+8) % 3≠1\/ ∀z,(iz ((e+9) % 3)++z).head?≠aA 10:=by refine (Ip<|(e+8) % 3=1).elim (λq=>.inr λz=>?_) .inl;rw[show e+9=e+8+1 from rfl,Nat.add_mod,q];exact nofun
theorem Mq: ∀(l:List Nat) b,(e1 b l).length<=2*l.length
 |[],b=>bh _
 |c::l,b=>by
  have:=Mq l<|c==10;rw[m9,du,pQ]
  split<;>simp only[pQ,um]<;>(exact (aQ this))
theorem HO (a0 a1 a2 a3 a4 a5 a6 a7 a8 a9 a10:aK):(∀r,gR r (.d<|.list [a0,a1,a2,a3,a4,a5,a6,a7,a8,a9,a10]) (.d .none) (.d<|.int 8) (.d .none)<|.list [a0,a1,a2,a3,a4,a5,a6,a7])/\ ∀r,gR r (.d<|.list [a0,a1,a2,a3,a4,a5,a6,a7,a8,a9,a10]) (.d<|.int 8) (.d .none) (.d .none)<|.list [a8,a9,a10]:=
 ⟨λr=>gR.lst (xs:=[a0,a1,a2,a3,a4,a5,a6,a7,a8,a9,a10]) .d .none (.int (i:=8)) .none nofun (bJ rfl),λr=>by
  have:=gR.lst (r:=r) (v:=.d<|.list [a0,a1,a2,a3,a4,a5,a6,a7,a8,a9,a10]) .d (.int (i:=8)) .none .none nofun (bJ rfl);rw[show mE _ (aA 8) aF aF=_ from LP _ 8] at this
  exact this⟩
theorem J2 {b m:Nat} (l:List Nat): ∀s:List (List Nat×Nat),(∀p∈s,p.1.length<=b)->b+2<=m->(jx s l).length<=m*s.length+l.length/\(jn id s l).length<=m*s.length+l.length
 |[],h,hb=>⟨gA _ _,gA _ _⟩
 |p::s,h,hb=>by have i:=J2 l s (λq m=>h q<|.tail _ m) hb;have q:=h p<|.head _;have e:=vf p.2;unfold jx jn;simp only[du,pQ,DQ];exact ⟨bD (na i.1 q)<|na e hb,by show p.1.length+_<=_;exact bD (na i.2 q) hb⟩
theorem Jq {f:Nat->List Nat×Nat} {s:List (List Nat×Nat)} {l:List Nat} (h:xo s l) (g:(jx s l).head?≠aA 10): ∀ts:List Nat,(∀t∈ts,(∀c∈(f t).1,c≠13/\c≠10)/\ ∀z,((f t).1++z).head?≠aA 10)->xo (ts.map f++s) l/\(jx (ts.map f++s) l).head?≠aA 10
 |[],k=>⟨h,g⟩
 |t::ts,k=>by have i:=Jq h g ts λq m=>k q<|.tail _ m;have q:=k t<|.head _;exact ⟨⟨q.1,.inr i.2,i.1⟩,q.2 _⟩
theorem LS {f:Nat->List Nat×Nat} {s:List (List Nat×Nat)} {l:List Nat}: ∀(ts:List Nat) T,ts.foldl (λT t=>T++((f t).1++iz (f t).2)) T++jx s l=T++jx (ts.map f++s) l
 |[],T=>rfl
 |t::ts,T=>by refine (LS ts _).trans ?_;rw[ik,ik];rfl
theorem Lc {f:Nat->List Nat×Nat} {b m:Nat} (hb:b+2<=m): ∀(ts:List Nat) T,(∀t∈ts,(f t).1.length<=b)->(ts.foldl (λT t=>T++((f t).1++iz (f t).2)) T).length<=T.length+m*ts.length
 |[],T,h=>bh _
 |t::ts,T,h=>by refine az (Lc hb ts _ λq m=>h q<|.tail _ m) ?_;have:=h t<|.head _;have e:=vf (f t).2;rw[du,du,pQ,DQ];exact bD (na this e) hb
theorem Om {Z:List aK->Sl->List Nat->Prop} {q:Nat->List Nat} (hq: ∀t,t<8->(q t).length<=110) (TU: ∀t:Nat,t<8-> ∀xs s T,T.length<=10000->Z xs (.val<|.int t) (T++q t)->Z (.int t::xs) s T): ∀(ts:List Nat) T s,(∀t∈ts,t<8)->T.length+110*ts.length<=10000->Z [] (ts.foldl (λ_ t=>.val<|.int (t:Nat)) s) (ts.foldl (λT t=>T++q t) T)->Z (ts.map λ(t:Nat)=>cB t) s T
 |[],T,s,h,g,z=>z
 |t::ts,T,s,h,g,z=>by have k:=h t<|.head _;have:=hq t k;rw[pQ,DQ] at g;exact TU t k _ _ T (aQ g) (Om hq TU ts _ _ (λq m=>h q<|.tail _ m) (by rw[du];exact bD g this) z)
theorem Ai (L:Nat) {u:bx} (T:lk u) (c:Int) {z st x:Nat} (ez:c.fmod 8=z) (hst:st≠10/\st≠13/\st≠46) {n:Nat->Nat} {B:Nat->List Nat} (hx:x<=10) (hn: ∀t,t<8->n t<=50) (hB: ∀t,t<8->EA ((z+t) % 8) (B t)):
 ∃a9 a10:aK,∀s5 s6 s7 s8 s9 s10 xs K,fW (.one 8) (BS.map SW.w) (aU<|L+1) xs (eR (di u) c (.val<|.list<|lE (λt=>n t+if (eT u x).contains ((z+t) % 8) then 1 else 0) B st<|x+1) (.val<|.int (7:Nat)) s6 s7 (.val<|.int x) (.val a9) (.val a10) .unb .unb) K->
  fW (.one 8) (BS.map SW.w) (aU<|L+1) (.int x::xs) (eR (di u) c (.val<|.list<|lE n B st x) s5 s6 s7 s8 s9 s10 .unb .unb) K:=by
 have em: ∀t:Nat,(c+t).fmod 8=(((z+t) % 8:Nat):Int):=λt=>by rw[mi _<|by decide] at ez⊢;rw[<-DV,ez];rfl
 refine aS (kY (c+x) (n:=3)<|by decide) λe he ee=>?_;refine aV (Mr λt ht8=>QCQ L (di u) c (x:=x) ht8 (em t) ee<|eT u x) λP PT=>?_;have PP:=λt h=>(PT t h).1;have TT:=λt h=>(PT t h).2;have bb:=QCy L T hx;have ok:=λt h=>Z7 (n:=n t) (PP t h) (hB t h).big;have dl: ∀t,t<8->(bq (n t)<|B t).length<=100:=λt h=>by have h1:=hn t h;have h2:=(hB t h).len;unfold bq;rw[du,AI];exact (bD h1 h2)
 have sl: ∀t,t<8->(P t++bq (n t) (B t)).length<=101:=λt h=>by have h1:=(ok t h).2.2;have h2:=dl t h;rw[du];exact az (iF h1 h2)<|bJ rfl
 refine aV (⟨_,rfl⟩: ∃f:Nat->List Nat×Nat,f=λt=>(P t++bq (n t) (B t),(e+t) % 3)) λf hf=>?_;have r8: ∀t∈bg 8,t<8:=λt m=>sG.mp m;refine aV (⟨_,rfl⟩: ∃T8,(bg 8).foldl (λT t=>T++((f t).1++iz (f t).2)) []=T8) λT8 hT8=>?_;have lf: ∀t∈bg 8,(f t).1.length<=101:=λt m=>by rw[hf];exact sl t<|r8 t m
 have lT:T8.length<=880:=by have:=Lc (f:=f) (m:=110) (by decide) (bg 8) [] lf;rwa[hT8] at this
 have lp: ∀s5 s6 s7 K,K .next (eR (di u) c (.val<|.list<|lE n B st x) (.val<|.int (7:Nat)) s6 s7 (.val<|.int x) (.val<|.list<|(eT u x).map λ(n:Nat)=>cB n) (.val<|.str ⟨T8.toArray⟩) .unb .unb)->fW (.one 5) (uC.map SW.w) (aU<|L+1) ((bg 8).map λ(i:Nat)=>cB (i:Int)) (eR (di u) c (.val<|.list<|lE n B st x) s5 s6 s7 (.val<|.int x) (.val<|.list<|(eT u x).map λ(n:Nat)=>cB n) (.val<|.str ⟨#[]⟩) .unb .unb) K:=λs5 s6 s7 K h=>by refine Om (Z:=λxs s T=>fW (.one 5) (uC.map SW.w) (aU<|L+1) xs (eR (di u) c (.val<|.list<|lE n B st x) s s6 s7 (.val<|.int x) (.val<|.list<|(eT u x).map λ(n:Nat)=>cB n) (.val<|.str ⟨T.toArray⟩) .unb .unb) K) (q:=λt=>(f t).1++iz (f t).2) (λt h=>?_) (λt h xs s T hT z=>TT t h _ _ T s s6 s7 xs K (Oq t h) (dl t h) hT (by show 11<100;decide) (by rw[hf] at z;exact z)) (bg 8) [] s5 r8 (by decide) (by rw[hT8];exact h);have h1:=lf t<|sG.mpr h;have h3:=vf (f t).2;show ((f t).1++iz (f t).2).length<=110;rw[du];exact az (iF h1 h3)<|bJ rfl
 have E8:=vf<|(e+8) % 3;have E9:=vf<|(e+9) % 3;refine aV (⟨_,rfl⟩: ∃X,T8++[st,46,32]++iz ((e+8) % 3)++[]++iz ((e+9) % 3)++dV (1+x) 46=X) λX hX=>?_;have rep: ∀c∈dV (1+x) 46,c≠13/\c≠10:=λc m=>by have:=(DW.mp m).2;exact ⟨(λw0=>(cY (nR this)<|nL w0)),(λw0=>(cY (nR this)<|nL w0))⟩
 have dD: ∀c∈[st,46,32],c≠13/\c≠10:=λc m=>by
  simp only[bp,gU,or_false] at m;rcases m with rfl|rfl|rfl
  ·exact ⟨hst.2.1,hst.1⟩
  ·decide
  ·decide
 refine aV (⟨_,rfl⟩: ∃s2,s2=[([st,46,32],(e+8) % 3),([],(e+9) % 3)]) λs2 hs2=>?_;have tx:X=jx ((bg 8).map f++s2) (dV (1+x) 46):=by rw[<-sa (jx _ _),<-LS,hT8,<-hX,hs2];simp only[jx,ik,sa]
 have oS:=(Jq (f:=f) (s:=s2) (l:=dV (1+x) 46) (by rw[hs2];exact ⟨dD,(YG e).imp id λh=>h _,(λc m=>nomatch m),.inr (by show (dV (1+x) 46).head?≠aA 10;rw[uv,xN];exact nofun),rep⟩) (by rw[hs2];exact λh=>hst.1<|kC h) (bg 8) (λt m=>by rw[hf];exact ⟨(ok t<|r8 t m).1,λz=>Y9<|PP t<|r8 t m⟩)).1;have es:e1 aB [st,46,32]=[st,46,32]:=by simp[zF,m9,(by simp[hst.2.2]:(st==46)=aE),(by simp[hst.1]:(st==10)=aE)]
 have el:e1 aB (dV (1+x) 46)=dV (1+(x+1)) 46:=by have:=(Cd (n:=x) (B:=[]) λc m=>nomatch m).1;unfold bq at this;rwa[eZ,eZ] at this
 have len:=J2 (b:=101) (m:=110) (dV (1+x) 46) ((bg 8).map f++s2) (λp m=>by
  rcases qn.mp m with m|m
  ·refine aS (ij.mp m) λt h q=>?_
   exact q▸lf t h
  ·rw[hs2] at m
   simp only[bp,gU,or_false] at m
   rcases m with rfl|rfl<;>exact Nat.le_of_ble_eq_true rfl) (by decide)
 have l10:((bg 8).map f++s2).length=10:=by rw[hs2];rfl
 rw[l10,AI] at len;have lX:X.length<=1111:=by rw[tx];exact az len.1<|aQ hx
 have xs:(⟨X.toArray⟩:aG).cps.toList=jx ((bg 8).map f++s2) (dV (1+x) 46):=tx
 have sp:=VU (x:=⟨X.toArray⟩) (s:=((bg 6).map λt=>f<|t+2)++s2) (p:=f 0) (q:=f 1) xs oS (by
  intro r m;rcases qn.mp m with m|m
  ·refine aS (ij.mp m) λp m q=>?_
   rw[<-q];rcases qn.mp (show p∈(bg 8).map f++s2 from m) with m|m
   ·refine aS (ij.mp m) λt h q=>?_
    rw[<-q,hf];exact (ok t<|r8 t h).2.1
   ·rw[hs2] at m
    simp only[bp,gU,or_false] at m;rcases m with rfl|rfl
    ·rw[es];exact λm=>(dD _ m).1 rfl
    ·exact λm=>nomatch m
  ·rw[Ig.mp m,el]
   exact λm=>by have:=(DW.mp m).2;exact (lA<|nR this))
 have xl:(⟨X.toArray⟩:aG).cps.size<=100000:=by show X.toArray.size<=_;rw[gm];exact az lX (by decide)
 have ql:(q2 ⟨X.toArray⟩).cps.size<=1111:=by have:(q2 ⟨X.toArray⟩).cps.toList.length=(q2 ⟨X.toArray⟩).cps.size:=js;rw[<-this,Oa,xs,Gk _ _ oS];exact az len.2<|aQ hx
 have qq:=Xx L (x:=⟨X.toArray⟩) xl (az ql<|by decide);have q1l:(q1<|q2 ⟨X.toArray⟩).length<=16777000:=by have a:(q1<|q2 ⟨X.toArray⟩).cps.toList.length=(q1<|q2 ⟨X.toArray⟩).length:=js;have b:(q2 ⟨X.toArray⟩).cps.toList.length=(q2 ⟨X.toArray⟩).cps.size:=js;have c:=Mq (q2 ⟨X.toArray⟩).cps.toList aB;rw[<-OB,a,b] at c;exact az c (az (gC 2 ql)<|by decide)
 have spl: ∀r,jI r .split (.d<|.str<|q1<|q2 ⟨X.toArray⟩) [.d<|.str ⟨#[13,10]⟩] (.list _):=λr=>.split q1l (by decide);rw[sp,hs2] at spl;rw[show (f 0::f 1::(((bg 6).map λt=>f<|t+2)++[([st,46,32],(e+8) % 3),([],(e+9) % 3)])).map (λq=>e1 aB q.1)++[e1 aB<|dV (1+x) 46]=(bg 8).map (λt=>e1 aB (f t).1)++[e1 aB [st,46,32],[],e1 aB<|dV (1+x) 46] from rfl,es,el,hf] at spl;have e8:=Dn ((e+8) % 3) (dw _<|by decide);have e9:=Dn ((e+9) % 3) (dw _<|by decide);have lr: ∀{a:List Nat},a.length<=2000-> ∀{b:List Nat},b.length<=2000-> ∀r,ft r .Add (.d<|.str ⟨a.toArray⟩) (.d<|.str ⟨b.toArray⟩)<|.str ⟨(a++b).toArray⟩:=λh1 b h2 r=>sA (by exact (bD h1 h2));have lx: ∀{a b c:List Nat},a++b=c->c.length<=1111->a.length<=1111/\b.length<=1111:=λe h=>by rw[<-e,du] at h;exact ⟨az (mO _ _) h,az (gA _ _) h⟩
 have z5:=lx hX lX;have z4:=lx rfl z5.1;have z3:=lx rfl z4.1;have z2:=lx rfl z3.1;have z1:=lx rfl z2.1;have up: ∀{k:Nat},k<=1111->k<=2000:=λh=>az h (by decide);have b5:=lr (up z5.1)<|up z5.2;rw[hX] at b5;have ce:=λt (h:t<8) s4 s6 s7 s9 s10=>VH L (C:=di u) (c:=c) (s4:=s4) (s5:=.val<|.int (7:Nat)) (s6:=s6) (s7:=s7) (s8:=.val<|.int x) (s9:=s9) (s10:=s10) (n:=n t) (PP t h) (hB t h).big (hB t h).len (az (hn t h)<|by decide);refine ⟨.list<|(eT u x).map λ(n:Nat)=>cB n,.str ⟨X.toArray⟩,λs5 s6 s7 s8 s9 s10 xs K h=>?_⟩;exact fq (.one 8) BS (aU<|L+1) [.d _,.f .next (eR (di u) c (.val<|.list<|lE n B st x) (.val<|.int (7:Nat)) s6 s7 (.val<|.int x) (.val<|.list<|(eT u x).map λ(n:Nat)=>cB n) (.val<|.str ⟨T8.toArray⟩) .unb .unb),ht ⟨[st,46,32].toArray⟩,ht _,ht _,ht _,ht ⟨([]:List Nat).toArray⟩,ht _,ht _,ht _,ht ⟨(dV (1+x) 46).toArray⟩,ht _,ht _,hl _,hl _,.ds _,hl _,hl _] (.int x) xs (eR (di u) c (.val<|.list<|lE n B st x) s5 s6 s7 s8 s9 s10 .unb .unb) K bb tt (lp _ _ _) (dB (w:=8) rfl rfl (by show (11:Int)<_;decide)) (lr (up z1.1) (up z1.2) _) ff (dB e8 (FU ee 8)<|by decide) (lr (up z2.1) (up z2.2) _) (dB (w:=9) rfl rfl (by show (11:Int)<_;decide)) (lr (up z3.1) (up z3.2) _) ff (dB e9 (FU ee 9)<|by decide) (lr (up z4.1) (up z4.2) _) (dB (w:=10) rfl rfl (by show (11:Int)<_;decide)) (b5 _) qq (spl _) ((HO _ _ _ _ _ _ _ _ _ _ _).1 _) (bJ rfl) (λK h=>BQ (g:=λt=>sJ ⟨(e1 aB<|P t++bq (n t) (B t)).toArray⟩) (f:=λt=>sJ ⟨(bq (n t+if (eT u x).contains ((z+t) % 8) then 1 else 0)<|B t).toArray⟩) (xs:=bg 8) (λt m=>ce t (sG.mp m) _ _ _ _ _) K h) ((HO _ _ _ _ _ _ _ _ _ _ _).2 _) (RU<|bJ rfl) h
end B01
end
namespace B01
theorem Gf: ∀a,a<4->a∈[0,1,2,3]:=by decide
theorem me3: ∀a,a<4->1<=a->a∈[1,2,3]:=by decide
theorem me5: ∀a,a<5->a∈[0,1,2,3,4]:=by decide
theorem Ue: ∀a,a<5->(a+1) % 5≠a:=by decide
theorem Z_ {x1 y1 x2 y2 y0 z:Nat} (h:qM x1 y1 x2 y2 y0=aB) (x:1<=x1) (n:z≠y2):qM x1 y1 x2 z y0=false:=by unfold qM at*;refine beq_eq_false_iff_ne.mpr λq=>?_;have e:=q.trans (QHc.mp h).symm;have:=Int.eq_of_mul_eq_mul_left (by exact (λw0=>(fh (oL x)<|iL w0)):(x1:Int)≠0) e;exact ((uu n).elim (λu1=>(fh (oL u1)<|iR this)) λu1=>(fh (oL u1)<|iL this))
theorem Sh (m:Nat):Ae (kr m)=true:=by
 have h0:m / 3 % 4<4:=dw _ (by decide);have h1:1<=1+m % 3/\1+m % 3<=3:=⟨(by simp+arith),(aQ<|dw (m) (by decide:0<3))⟩
 have h2:m / 12 % 4<4:=dw _ (by decide);have h3:m / 48 % 4<4:=dw _ (by decide);have h4:m / 192 % 5<5:=dw _ (by decide);unfold kr;generalize m / 3 % 4=a at*;generalize 1+m % 3=b at*;generalize m / 12 % 4=c at*;generalize m / 48 % 4=d at*;generalize m / 192 % 5=e at*;have k: ∀e',e'<5->qM b c d e' a=aE->Ae ⟨a,b,c,d,e'⟩=true:=λe' he n=>by have A:a∈[0,1,2,3]:=Gf a h0;have B:b∈[1,2,3]:=me3 b (Nat.lt_succ_of_le h1.2) h1.1;have C:c∈[0,1,2,3]:=Gf c h2;have D:d∈[0,1,2,3]:=Gf d h3;have E:e'∈[0,1,2,3,4]:=me5 e' he;have:=dq.mp (dq.mp (dq.mp (x_ a A b B) c C) d D) e' E;rw[n,QGo,QAB] at this;exact this
 induction hf:qM b c d e a with
 |true=>exact k _ (dw _<|by decide)<|Z_ hf h1.1<|Ue e h4
 |false=>exact k _ h4 hf
structure Z0 (t:bx):Prop where
 st: ∀k,k<5->strOk t k
 eq:zN t=eV t
 a:3<=tH t/\tH t<=100
 i:0<=qh t/\qh t<=100
 due:jW (tH t) (qh t)=Be t
theorem Yi (m:Nat):Z0 (kr m):=by have h:=Sh m;unfold Ae at h;generalize kr m=t at*;have h1:=aD h;have h2:=aD h1.2;have h3:=aD h2.2;have h4:=aD h3.2;refine ⟨λk hk s=>?_,QHc.mp h2.1,⟨eC (aD h3.1).1,eC (aD h3.1).2⟩,⟨eC (aD h4.1).1,eC (aD h4.1).2⟩,QHc.mp h4.2⟩;have:=dq.mp h1.1 k<|sG.mpr hk;unfold HB at this;rw[s,Bool.not_true,QGo] at this;have:=aD this;exact ⟨λq=>by have:=this.1;rw[q] at this;exact br this,bJ this.2⟩
end B01
section
open PySem.StrLaws
theorem b_ {x:aG} {n c:Nat} {B:List Nat} (M:x.cps.toList=dV n 46++c::B) (C:c≠46):Q9 x ⟨#[46]⟩=⟨(c::B).toArray⟩:=by
 dsimp only[Q9];rw[QGJ];dsimp only[QGK];apply yJ;have g:(⟨#[46]⟩:aG).cps.contains=λd=>d==46:=funext λd=>by simp[Array.contains,eq_comm]
 have tw:(x.cps.toList.takeWhile (⟨#[46]⟩:aG).cps.contains).length=n:=by
  rw[g,M,QGL (by intro d m;rw[(DW.mp m).2];rfl)];have:(c==46)=false:=by simpa using C
  simp[this]
 have l:x.cps.toList.length=x.length:=js
 simp! only[wy,if_false,if_true,strSub_toList]
 rw[tw,<-l,M];simp
namespace B01
theorem Xa (L:Nat) (C:aK) (c:Int) {z st t:Nat} (ht8:t<8) (ez:c.fmod 8=z) {N:Nat->Nat} {B:Nat->List Nat} (hN:N t<=50) (hB:EA ((z+t) % 8) (B t)) {us:List aK} (hu:us.length=8) {s5 s6 s7 s8 s9 s10 s12:Sl} {xs K}
 (h:fW (.one 5) (AR.map SW.w) (aU<|L+2) xs (eR C c (.val<|.list<|lE N B st 4) (.val<|.int t) s6 s7 s8 s9 s10 (.own<|us.set ((z+t) % 8)<|.int<|N t)<|.val<|.str ⟨(B t).toArray⟩) K):
 fW (.one 5) (AR.map SW.w) (aU<|L+2) (.int t::xs) (eR C c (.val<|.list<|lE N B st 4) s5 s6 s7 s8 s9 s10 (.own us) s12) K:=by
 have em:(c+t).fmod 8=(((z+t) % 8:Nat):Int):=by rw[mi _<|by decide] at ez⊢;rw[<-DV,ez];rfl
 have k8:(z+t) % 8<8:=dw _ (by decide);have r4:=Oq (n:=N) (B:=B) (st:=st) (x:=4) t ht8;have bl:=hB.len;have dl:(⟨(bq (N t)<|B t).toArray⟩:aG).length=1+N t+(B t).length:=by show (bq (N t)<|B t).toArray.size=_;unfold bq;simp
 have bL:(⟨(B t).toArray⟩:aG).length=(B t).length:=by show (B t).toArray.size=_;simp
 have ls: ∀r,jI r .qP (.d<|.str ⟨(bq (N t)<|B t).toArray⟩) [.d<|.str ⟨#[46]⟩]<|.str ⟨(B t).toArray⟩:=λr=>by
  have e:Q9 ⟨(bq (N t)<|B t).toArray⟩ ⟨#[46]⟩=⟨(B t).toArray⟩:=by
   have hb:=hB.big;have hne:=hB.ne;generalize B t=b at*;cases b with
   |nil=>exact QHZ rfl hne
   |cons a b=>exact b_ (x:=⟨(bq (N t)<|a::b).toArray⟩) (n:=1+N t) (c:=a) (B:=b) rfl (by have:=hb a<|.head _;exact (λw0=>(cY this (nL w0))))
  exact e▸ .qP (by exact (bD (nL dl)<|na hN bl))
 have l1: ∀r,cn r .len [.d<|.str ⟨(bq (N t)<|B t).toArray⟩]<|.int ((1+N t+(B t).length:Nat):Int):=λr=>dl▸ .j6 (by exact (bD (nL dl)<|na hN bl));have l2: ∀r,cn r .len [.d<|.str ⟨(B t).toArray⟩]<|.int ((B t).length:Int):=λr=>by have:=cn.j6 (r:=r) (x:=⟨(B t).toArray⟩) (by exact (bD (nL bL) bl));rwa[bL] at this
 have en:us.set ((z+t) % 8) (.int<|N t)=us.set ((c+t).fmod 8).toNat (.int<|((1+N t+(B t).length:Nat):Int) - ((B t).length:Int) - 1):=by
  rw[em,lR]
  congr 2
  exact (by simp+arith)
 rw[en] at h;exact fq (.one 5) AR (aU<|L+2) [ht _,ht _,ht _,ht _,.b aE,.b aE,ht _,hi _,hi _] (.int t) xs (eR C c (.val<|.list<|lE N B st 4) s5 s6 s7 s8 s9 s10 (.own us) s12) K (dB r4 rfl (by show (11:Int)<_;decide)) (ls _) (hB.pre L) ff (dB (Ma _ k8) em<|by decide) (FO aE<|by simp) ff (dB r4 rfl (by show (11:Int)<_;decide)) (l1 _) (l2 _) ff (by rw[em];exact (bE<|oZ<|(z+t) % 8)) (by rw[em,hu];exact (bE<|oL<|dw (z+t) (by decide:0<8))) (by rw[hu];decide) h
end B01
end
section
open PySem.StrLaws
theorem ad1 {r:bQ} {xs ys zs:List aK} (h:r 4=.own xs) (e:xs++ys=zs) (hl:xs.length+ys.length<=16777216):ft r .Add (.bor 4) (.d<|.list ys) (.list zs):=e▸ .add (.bor h) .d hl
namespace B01
theorem Zw: ∀s,s<24->mY ⟨#[fQ s,46,32]⟩=true:=by decide+kernel
theorem SU {z:Nat} (hz:z<8) (f:Nat->Int):((((((((dI [0,0,0,0,0,0,0,0]).set ((z+0) % 8)<|.int<|f<|(z+0) % 8).set ((z+1) % 8)<|.int<|f<|(z+1) % 8).set ((z+2) % 8)<|.int<|f<|(z+2) % 8).set ((z+3) % 8)<|.int<|f<|(z+3) % 8).set ((z+4) % 8)<|.int<|f<|(z+4) % 8).set ((z+5) % 8)<|.int<|f<|(z+5) % 8).set ((z+6) % 8)<|.int<|f<|(z+6) % 8).set ((z+7) % 8) (.int<|f<|(z+7) % 8)=dI ((bg 8).map f):=by rcases (PN z hz) with rfl|rfl|rfl|rfl|rfl|rfl|rfl|rfl<;>rfl
noncomputable def ve (u:bx) (j:Nat):Nat:=0+(if (eT u 0).contains j then 1 else 0)+(if (eT u 1).contains j then 1 else 0)+(if (eT u 2).contains j then 1 else 0)+(if (eT u 3).contains j then 1 else 0)
theorem UM (u:bx):eV u=(bg 8).map λj=>((ve u j:Nat):Int):=by
 unfold eV ve;apply Ih;intro j _;rw[show bg 4=[0,1,2,3] from rfl];simp only[List.countP_cons,List.countP_nil];have: ∀a b c d:Nat,0+a+b+c+d=0+d+c+b+a:=by simp+arith
 exact QHd _<|this _ _ _ _
theorem QBR (L:Nat) {u:bx} (T:lk u) (c:Int):(aU<|L+3).F 31 [di u,.int c] (.list<|dI<|eV u):=by
 refine aS (kY c (n:=8)<|by decide) λz hz ez=>?_;refine aS (kY (c.fdiv 8) (n:=24)<|by decide) λs hs es=>?_;have em: ∀t:Nat,(c+t).fmod 8=(((z+t) % 8:Nat):Int):=λt=>by have ez:c.fmod 8=z:=ez;rw[mi _<|by decide] at ez⊢;rw[<-DV,ez];rfl
 refine aV (Mr λt h=>RX (L+1) (di u) c t ((z+t) % 8) h (em t)<|dw _<|by decide) λB BT=>?_;have G:=λt h=>(BT t h).1;have ys:=SJ (L+1) es hs;have sf:=Yn s hs;have yi:=Bg (L+1)<|fQ s;rw[sf.1] at yi;refine aV ((BT 0<|by decide).2) λy0 r0=>?_;refine aV ((BT 1<|by decide).2) λy1 r1=>?_;refine aV ((BT 2<|by decide).2) λy2 r2=>?_;refine aV ((BT 3<|by decide).2) λy3 r3=>?_;refine aV ((BT 4<|by decide).2) λy4 r4=>?_;refine aV ((BT 5<|by decide).2) λy5 r5=>?_;refine aV ((BT 6<|by decide).2) λy6 r6=>?_;refine aV ((BT 7<|by decide).2) λy7 r7=>?_;have le:=λ(n:Nat) (h:n<=100)=>h;have lp1:=λK h=>r0 [] .unb .unb .unb _ K (bJ rfl)<|r1 _ _ _ _ _ K (bJ rfl)<|r2 _ _ _ _ _ K (bJ rfl)<|r3 _ _ _ _ _ K (bJ rfl)<|r4 _ _ _ _ _ K (bJ rfl)<|r5 _ _ _ _ _ K (bJ rfl)<|r6 _ _ _ _ _ K (bJ rfl)<|r7 _ _ _ _ [] K (bJ rfl) h;refine jT (Ai (L+1) T c ez (x:=0) (st:=fQ s) ⟨sf.2.1,sf.2.2.1,sf.2.2.2⟩ (n:=λ_=>0) (by decide) (λt h=>by decide) G) λa0 b0 q0=>?_;refine jT (Ai (L+1) T c ez (x:=1) (st:=fQ s) ⟨sf.2.1,sf.2.2.1,sf.2.2.2⟩ (n:=λt=>0+if (eT u 0).contains ((z+t) % 8) then 1 else 0) (by decide) (λt h=>by split<;>decide) G) λa1 b1 q1=>?_;refine jT (Ai (L+1) T c ez (x:=2) (st:=fQ s) ⟨sf.2.1,sf.2.2.1,sf.2.2.2⟩ (n:=λt=>(0+if (eT u 0).contains ((z+t) % 8) then 1 else 0)+if (eT u 1).contains ((z+t) % 8) then 1 else 0) (by decide) (λt h=>by split<;>split<;>decide) G) λa2 b2 q2=>?_;refine jT (Ai (L+1) T c ez (x:=3) (st:=fQ s) ⟨sf.2.1,sf.2.2.1,sf.2.2.2⟩ (n:=λt=>((0+if (eT u 0).contains ((z+t) % 8) then 1 else 0)+if (eT u 1).contains ((z+t) % 8) then 1 else 0)+if (eT u 2).contains ((z+t) % 8) then 1 else 0) (by decide) (λt h=>by split<;>split<;>split<;>decide) G) λa3 b3 q3=>?_;have lp2:=λK h=>q0 (.val<|.int (7:Nat)) (.val<|.int ((z+7) % 8:Nat)) (.val<|.str y7) .unb .unb .unb _ K<|q1 _ _ _ _ _ _ _ K<|q2 _ _ _ _ _ _ _ K<|q3 _ _ _ _ _ _ [] K h;have c50: ∀j,ve u j<=50:=λj=>by unfold ve;split<;>split<;>split<;>split<;>decide
 have t4:=λ(t:Nat) (h:t<8)=> @Xa L (di u) c z (fQ s) t h ez (λt=>ve u<|(z+t) % 8) B (c50 _)<|G t h
 have st8: ∀d∈[sJ ⟨#[fQ s,46,32]⟩,.str ⟨#[]⟩,.str ⟨#[46,46,46,46,46]⟩],fP 8 d=true:=λd m=>by
  simp only[bp,gU,or_false] at m;rcases m with rfl|rfl|rfl
  ·exact VK<|Zw s hs
  ·decide+kernel
  ·decide+kernel
 rw[UM,<-SU hz];refine da (rm b_law_found 2 [2,3,4,5,6,7,8,9,10,11,12] [.f .next (eR (di u) c (.own _) _ _ _ .unb .unb .unb .unb .unb),ht ⟨#[fQ s]⟩,ht ⟨#[fQ s,46,32]⟩,hl<|lE (λ_=>0) B (fQ s) 0,.f .next (eR (di u) c (.val<|.list<|lE (λt=>ve u<|(z+t) % 8) B (fQ s) 4) (.val<|.int (7:Nat)) (.val<|.int ((z+7) % 8:Nat)) (.val<|.str y7) (.val<|.int (3:Nat)) (.val a3) (.val b3) .unb .unb),hl [.str ⟨#[fQ s,46,32]⟩,.str ⟨#[]⟩,.str ⟨#[46,46,46,46,46]⟩],ht ⟨#[fQ s]⟩,ht ⟨#[fQ s,46,32]⟩,.b aE,.b aE,ht ⟨#[fQ s]⟩,.d<|.bool aE,.b aE,.b aE,hl<|dI [0,0,0,0,0,0,0,0],.f .next (eR (di u) c _ _ _ _ _ _ _ (.own _) _)] (aU<|L+2) [di u,.int c] _ rfl tt lp1 ff (nl rfl) ys (oH rfl rfl) (ad1 rfl rfl (bJ rfl)) tt lp2 ((HO _ _ _ _ _ _ _ _ _ _ _).2 _) ff (nl rfl) ys (oH rfl rfl) (iQ .d st8) rfl ff (nl rfl) ys yi rfl rfl (.mul (n:=8) .d (by show 1*8<=256;decide) (by decide)<|by decide) tt (λK h=>t4 0 (by decide) rfl (t4 1 (by decide) (by simp[dI])<|t4 2 (by decide) (by simp[dI])<|t4 3 (by decide) (by simp[dI])<|t4 4 (by decide) (by simp[dI])<|t4 5 (by decide) (by simp[dI])<|t4 6 (by decide) (by simp[dI])<|t4 7 (by decide) (by simp[dI]) h)) .ret) rfl
end B01
end
namespace B01
noncomputable def rG (X:aK) (cs:List Int) (t:bx) (A B w:Int) (s6 s7 s8 s9 s10 s11:Sl):Ls:=[(1,.val<|.list<|cs.map .int),(2,.val<|di t),(3,.val<|.int A),(4,.val<|.int B),(5,.val<|.int w),(6,s6),(7,s7),(8,s8),(9,s9),(10,s10),(11,s11),(12,.unb),(0,.val X)]
section
variable {o:bj} {X:aK} {cs:List Int} {t:bx} {A B w:Int}
noncomputable def OD:EW:=.list [.aH .Add (.aH .Add (.au cU<|.int 0)<|.aH .Mult GA<|.au cU<|.int 1) wv4,.aH .Add (.au cU<|.int 1) FG]
theorem G5 {p:Int×Int} (hA:0<=A/\A<10^6) (hp:iE p):CE OD.w eE [] o (gK<|rG X cs t A B w .unb .unb .unb .unb .unb .unb) (aw p) (aA<|aw<|shr A B w p):=λR K h=>fL OD eE [] o [.b aB,hi p.1,hi p.2,hi p.2] (gK<|rG X cs t A B w .unb .unb .unb .unb .unb .unb) (aw p) R K rfl tt (iT p) (cK p) (xr (by exact (oM<|bG (iL<|jS (hA.1:0<=A)) hA.2)) (by have:=hp.2;exact (aQ this))) (cK p) rfl h
noncomputable def OK:EW:=.list [.aH .Sub (.au (.au Af cU)<|.int 0)<|.au (.au Af<|.aH .Sub cU<|.int 1)<|.int 0,.aH .Sub (.au (.au Af cU)<|.int 1)<|.au (.au Af<|.aH .Sub cU<|.int 1)<|.int 1]
theorem FK {d6 d7 d8:aK} {k:Int} {a b:Int×Int} (h1: ∀r,cC r (.d<|di t) k<|aw a) (h2: ∀r,cC r (.d<|di t) (k - 1)<|aw b):CE OK.w eE [] o (gK<|rG X cs t A B w (.val d6) (.val d7) (.val d8) .unb .unb .unb) (.int k) (aA<|aw<|cD b a):=λR K h=>fL OK eE [] o [.b aB,.d<|aw a,hi a.1,.d<|aw b,hi b.1,.d<|aw a,hi a.2,.d<|aw b,hi b.2] (gK<|rG X cs t A B w (.val d6) (.val d7) (.val d8) .unb .unb .unb) (.int k) R K rfl tt (h1 _) (iT a) (h2 _) (iT b) (h1 _) (cK a) (h2 _) (cK b) rfl h
noncomputable def MK:EW:=.call 32 [.bi .abs [.au cU<|.int 0],.bi .abs [.au cU<|.int 1]]
theorem O9 {r:bQ} (x:Int):cn r .abs [.d<|.int x] (.int (x.natAbs:Int)):=yZ x
theorem Et (L:Nat) {d6 d7 d8 d9 d10:aK} {p:Int×Int}:CE MK.w eE [] (aU<|L+1) (gK<|rG X cs t A B w (.val d6) (.val d7) (.val d8) (.val d9) (.val d10) .unb) (aw p) (aA<|.int<|fj p):=λR K h=>fL MK eE [] (aU<|L+1) [.b aB,hi p.1,hi p.1.natAbs,hi p.2,hi p.2.natAbs,hi<|fj p] (gK<|rG X cs t A B w (.val d6) (.val d7) (.val d8) (.val d9) (.val d10) .unb) (aw p) R K rfl tt (iT p) (O9 _) (cK p) (O9 _) (TR L p.1.natAbs p.2.natAbs) rfl h
noncomputable def ME:EW:=.aH .FloorDiv (.aH .Add (.aH .Add (.aH .Mult (.aH .Mult Vd cU) cU)<|.aH .Mult (.aC 11) cU)<|.int 2)<|.int 2
theorem yf {d6 d7 d8 d9:aK} {a s k:Int} (ha:a.natAbs<=1000) (hs:s.natAbs<=1000) (hk:k.natAbs<=10):CE ME.w eE [] o (gK<|rG X cs t A B w (.val d6) (.val d7) (.val d8) (.val d9) (.val<|.int a)<|.val<|.int s) (.int k) (aA<|.int<|(a*k*k+s*k+2).fdiv 2):=λR K h=>fL ME eE [] o [.b aB] (gK<|rG X cs t A B w (.val d6) (.val d7) (.val d8) (.val d9) (.val<|.int a)<|.val<|.int s) (.int k) R K rfl tt (nu ha hk rfl rfl) (nu (u5 ha hk) hk rfl rfl) (nu hs hk rfl rfl) ff (nl rfl) rfl h
end
noncomputable def l5 (t:bx):Nat->Int×Int
 |0=>p0 t
 |1=>p1 t
 |_=>p2 t
theorem RO {t:bx} (T:lk t): ∀i,iE (l5 t i)/\0<=(l5 t i).1/\0<=(l5 t i).2
 |0=>⟨T.a,uW _,dP _⟩
 |1=>⟨T.b,dP _,dP _⟩
 |n+2=>⟨T.c,dP _,dP _⟩
noncomputable def gT (A B w:Int) (t:bx) (i j:Nat):Nat:=if j=0 then (shr A B w<|l5 t i).1.toNat else (shr A B w<|l5 t i).2.toNat
theorem Gy {a:Int} (h:0<=a/\a<10^6):a.natAbs<=1000000:=oM<|kD (Cm<|jS h.1)<|bw h.2
theorem NJ {x:Int} (g:0<=x) (h:x<10^10):x.toNat<10^10:=mF.mp<|o9 (Cm<|jO g) h
theorem Km {x:Int} {m:Nat} (h:x.natAbs<=m) (g:eX m 20000000=aB):x<10^10:=o9 QGj (o9 (oq.mpr<|az h<|bJ g)<|by decide)
theorem QAX {A B w:Int} {t:bx} (T:lk t) (hA:0<=A/\A<10^6) (hB:0<=B/\B<10^6) (hw:0<=w/\w<10^6):(∀i j,gT A B w t i j<10^10)/\gD (gT A B w t)=.list [aw<|shr A B w<|p0 t,aw<|shr A B w<|p1 t,aw<|shr A B w<|p2 t]:=by
 have q: ∀i,0<=(shr A B w<|l5 t i).1/\(shr A B w<|l5 t i).1<10^10/\0<=(shr A B w<|l5 t i).2/\(shr A B w<|l5 t i).2<10^10:=λi=>by refine eN (RO T i) λs h1 h2=>?_;have m1:=u5 (Gy hA) s.2;have n1:(shr A B w<|l5 t i).1.natAbs<=_:=az (AM _ _)<|iF (az (AM _ _)<|iF s.1 m1)<|Gy hB;have n2:(shr A B w<|l5 t i).2.natAbs<=_:=az (AM _ _)<|iF s.2<|Gy hw;exact ⟨qw (qw h1<|kG hA.1 h2) hB.1,Km n1 rfl,qw h2 hw.1,Km n2 rfl⟩
 refine ⟨λi j=>?_,?_⟩
 ·have:=q i
  unfold gT
  split
  ·exact NJ this.1 this.2.1
  ·exact NJ this.2.2.1 this.2.2.2
 ·have e: ∀i,aw ((gT A B w t i 0:Nat),(gT A B w t i 1:Nat))=aw (shr A B w<|l5 t i):=λi=>by
   have:=q i;unfold gT aw;rw[if_pos rfl,if_neg<|by decide];dsimp only;rw[jO this.1,jO this.2.2.1]
  unfold gD;rw[e 0,e 1,e 2];rfl
theorem QDi {t:bx} (T:lk t):(wC t).natAbs<=1000:=by unfold wC;rw[QGp];exact az (gJ (u5 (gJ T.b.1 T.a.1)<|gJ T.c.2 T.b.2)<|u5 (gJ T.b.2 T.a.2)<|gJ T.c.1 T.b.1) (by decide)
theorem VP (p:Int×Int):(fj p).natAbs<=p.1.natAbs+p.2.natAbs:=by
 unfold fj;rw[QGp];rcases Nat.eq_zero_or_pos p.1.natAbs with q|q
 ·rw[q,Nat.gcd_zero_left];exact (by simp+arith)
 ·have:=Nat.gcd_le_left p.2.natAbs q
  exact (aQ this)
theorem G9 {a b:Int×Int} (A:iE a) (B:iE b):(fj<|cD a b).natAbs<=40:=az (VP<|cD a b)<|iF (gJ B.1 A.1)<|gJ B.2 A.2
theorem QDz {a b c:Int} (h:a.natAbs<=40) (i:b.natAbs<=40) (j:c.natAbs<=40):(a+b+c).natAbs<=1000:=az (AM _ _) (az (iF (az (AM _ _)<|iF h i) j)<|by decide)
theorem WC {t:bx} (T:lk t):(sz t).natAbs<=1000:=QDz (G9 T.c T.a) (G9 T.a T.b)<|G9 T.b T.c
theorem QAf {ns:List Int} (hn:ns.length<=63):l6 (aU 400) 1 FE [.list<|ns.map .int] (.bool aB):=by
 refine aV (⟨_,rfl⟩: ∃P:Int,7^bN 3100=P) λP hP=>?_;obtain ⟨c0,c1,c2,c3,c4,H⟩:=TX 399 (ns:=ns) (fs:=[629,77,4310,314159265358979323,P]) (az hn<|by decide) rfl;refine aS (R_ 399 c0) λm hm hc=>?_;have T:=R3 (m:=m);have O:=Yi m;generalize kr m=t at*;refine aS (⟨_,rfl,nX _ (by decide),nW _<|by decide⟩: ∃A,c3.fmod (10^bN 6)=A/\(0<=A/\A<10^6)) λA eA A0=>?_;refine aS (⟨_,rfl,nX _ (by decide),nW _<|by decide⟩: ∃B,(c3.fdiv<|10^bN 6).fmod (10^bN 6)=B/\(0<=B/\B<10^6)) λB eB B0=>?_;refine aS (⟨_,rfl,nX _ (by decide),nW _<|by decide⟩: ∃w,(c3.fdiv<|10^bN 12).fmod (10^bN 6)=w/\(0<=w/\w<10^6)) λw ew w0=>?_;refine bI (QAX T A0 B0 w0) λhg eg=>?_;have bk:=QBU 396 hg c1;rw[eg] at bk;have fo:=QBR 397 T c2;have co:=Wi 397 (by decide) T O.st A0 B0 w0 c4;rw[O.eq] at co;have mu:=SV 397 (by decide) O.a O.i c4;rw[O.due] at mu;have j:=λr=>Mn (r:=r) t;have jm: ∀r,cC r (.d<|di t) (0 - 1)<|aw<|p2 t:=λr=>.seq (.l .d) (by show (3:Int)<2^63;decide) (rfl:_=aA 2) rfl;have tb:(10:Int)^bN 6=1000000/\(10:Int)^bN 12=1000000000000:=by decide
 have n6: ∀x:Int,sC x (10^bN 6)=false:=λx=>nl (by decide);have n12: ∀x:Int,sC x (10^bN 12)=false:=λx=>PyProof.noPylong_of_log2 (by decide+kernel);have k0:decide ((10:Int)^bN 6=0)=false:=by decide
 have k1:decide ((10:Int)^bN 12=0)=false:=by decide
 have ibt:((ib 10:Nat):Int)*6<=134217728/\((ib 10:Nat):Int)*12<=134217728/\((ib 7:Nat):Int)*3100<=134217728:=by decide
 have X:(∀r,cC r (.d<|.list<|[c0,c1,c2,c3,c4].map .int) 0<|.int c0)/\(∀r,cC r (.d<|.list<|[c0,c1,c2,c3,c4].map .int) 1<|.int c1)/\(∀r,cC r (.d<|.list<|[c0,c1,c2,c3,c4].map .int) 2<|.int c2)/\(∀r,cC r (.d<|.list<|[c0,c1,c2,c3,c4].map .int) 3<|.int c3)/\ ∀r,cC r (.d<|.list<|[c0,c1,c2,c3,c4].map .int) 4<|.int c4:=⟨λr=>pW (xs:=[c0,c1,c2,c3,c4]) (w:=0) rfl rfl (by show (5:Int)<_;decide),λr=>pW (xs:=[c0,c1,c2,c3,c4]) (w:=1) rfl rfl (by show (5:Int)<_;decide),λr=>pW (xs:=[c0,c1,c2,c3,c4]) (w:=2) rfl rfl (by show (5:Int)<_;decide),λr=>pW (xs:=[c0,c1,c2,c3,c4]) (w:=3) rfl rfl (by show (5:Int)<_;decide),λr=>pW (xs:=[c0,c1,c2,c3,c4]) (w:=4) rfl rfl (by show (5:Int)<_;decide)⟩;have f8: ∀d∈dI (eV t),fP 8 d=true:=Kg<|eV t;have fne:eV t≠[]:=by unfold eV;exact nofun
 refine jT (by
  cases q:eV t with
  |nil=>exact QHZ q fne
  |cons a b=>exact ⟨a,b,rfl⟩: ∃f0 fs,eV t=f0::fs) λf0 fs ef=>?_
 have g8: ∀d∈[aw<|shr A B w<|p0 t,aw<|shr A B w<|p1 t,aw<|shr A B w<|p2 t],fP 8 d=true:=λd m=>by simp only[bp,gU,or_false] at m;rcases m with rfl|rfl|rfl<;>exact EX [_,_]
 have cE: ∀r,gV r .Eq (.d<|.list<|dI<|eV t) (.d<|.list []) false:=λr=>by rw[ef] at f8⊢;exact eqN f8
 have s1: ∀r,gR r (.d<|.list<|dI<|eV t) (.d .none) (.d<|.int 5) (.d .none)<|.list<|dI<|(eV t).take 5:=λr=>by have l8:(dI<|eV t).length=8:=rfl;have:=gR.lst (r:=r) (v:=.d<|.list<|dI<|eV t) .d .none (.int (i:=5)) .none nofun (by rw[l8];decide);rw[yX (a:=0) (b:=5) (by rw[l8];rfl) (by decide) (by rw[l8];decide)] at this;rw[show dI ((eV t).take 5)=_ from List.map_take ..];exact this
 have s2: ∀r,gR r (.d<|.list<|dI<|eV t) (.d<|.int 5) (.d .none) (.d .none)<|.list<|dI<|(eV t).drop 5:=λr=>by have:=gR.lst (r:=r) (v:=.d<|.list<|dI<|eV t) .d (.int (i:=5)) .none .none nofun (bJ rfl);rw[show mE _ (aA 5) aF aF=_ from LP _ 5] at this;rw[show dI ((eV t).drop 5)=_ from List.map_drop ..];exact this
 have al:=QDi T;have sl:=WC T;have sg: ∀K:List aK->Prop,K [aw<|shr A B w<|p0 t,aw<|shr A B w<|p1 t,aw<|shr A B w<|p2 t]->_:=λK h=>G5 (o:=aU 400) (X:=.list<|ns.map .int) (cs:=[c0,c1,c2,c3,c4]) (t:=t) (A:=A) (B:=B) (w:=w) A0 T.a [aw<|p1 t,aw<|p2 t] K<|G5 A0 T.b _ _<|G5 A0 T.c [] _ h;have sm: ∀r,cn r .sum [.d<|.list<|[fj<|cD (p2 t)<|p0 t,fj<|cD (p0 t)<|p1 t,fj<|cD (p1 t)<|p2 t].map .int]<|.int<|sz t:=λr=>by have:=cn.sum (r:=r) (v:=.d<|.list<|[fj<|cD (p2 t)<|p0 t,fj<|cD (p0 t)<|p1 t,fj<|cD (p1 t)<|p2 t].map .int) (ns:=[fj<|cD (p2 t)<|p0 t,fj<|cD (p0 t)<|p1 t,fj<|cD (p1 t)<|p2 t]) .d;rwa[show [fj<|cD (p2 t)<|p0 t,fj<|cD (p0 t)<|p1 t,fj<|cD (p1 t)<|p2 t].sum=sz t by unfold sz;simp;exact (by simp+arith)] at this
 have A1:=T.a.1;have A2:=T.a.2;have B1:=T.b.1;have B2:=T.b.2;have C1:=T.c.1;have C2:=T.c.2;have ar: ∀r,cn r .abs [.d<|.int<|(cD (p0 t)<|p1 t).1*(cD (p1 t)<|p2 t).2 - (cD (p0 t)<|p1 t).2*(cD (p1 t)<|p2 t).1]<|.int<|wC t:=λr=>yZ _;have i1:ib (cD (p0 t)<|p1 t).1+ib (cD (p1 t)<|p2 t).2<=134217728:=nu (gJ B1 A1) (gJ C2 B2) rfl rfl;have i2:ib (cD (p0 t)<|p1 t).2+ib (cD (p1 t)<|p2 t).1<=134217728:=nu (gJ B2 A2) (gJ C1 B1) rfl rfl;have x3: ∀(a b c:aK) r,(cC r (.d<|.list [a,b,c]) 1 b)/\cC r (.d<|.list [a,b,c]) 2 c:=λa b c r=>⟨.seq (.l .d) (by show (3:Int)<2^63;decide) (rfl:_=aA 1) rfl,.seq (.l .d) (by show (3:Int)<2^63;decide) (rfl:_=aA 2) rfl⟩;have y3:=x3 (aw<|cD (p2 t)<|p0 t) (aw<|cD (p0 t)<|p1 t)<|aw<|cD (p1 t)<|p2 t;rw[<-hP] at H;subst eA eB ew;exact rm FE 1 [1,2,3,4,5,6,7,8,9,10,11,12] [hl<|[c0,c1,c2,c3,c4].map .int,hi c0,.d<|di t,hi c3,hi c3,hi c3,.ds [aw<|shr (c3.fmod<|10^bN 6) ((c3.fdiv<|10^bN 6).fmod<|10^bN 6) ((c3.fdiv<|10^bN 12).fmod<|10^bN 6)<|p0 t,aw<|shr (c3.fmod<|10^bN 6) ((c3.fdiv<|10^bN 6).fmod<|10^bN 6) ((c3.fdiv<|10^bN 12).fmod<|10^bN 6)<|p1 t,aw<|shr (c3.fmod<|10^bN 6) ((c3.fdiv<|10^bN 6).fmod<|10^bN 6) ((c3.fdiv<|10^bN 12).fmod<|10^bN 6)<|p2 t],hi c1,.d<|.list [aw<|shr (c3.fmod<|10^bN 6) ((c3.fdiv<|10^bN 6).fmod<|10^bN 6) ((c3.fdiv<|10^bN 12).fmod<|10^bN 6)<|p0 t,aw<|shr (c3.fmod<|10^bN 6) ((c3.fdiv<|10^bN 6).fmod<|10^bN 6) ((c3.fdiv<|10^bN 12).fmod<|10^bN 6)<|p1 t,aw<|shr (c3.fmod<|10^bN 6) ((c3.fdiv<|10^bN 6).fmod<|10^bN 6) ((c3.fdiv<|10^bN 12).fmod<|10^bN 6)<|p2 t],.b aE,.b aE,hi c2,hl<|dI<|eV t,.b aE,.b aE,hi c4,hl<|dI<|eV t,.b aE,.b aE,.b aE,.ds [aw<|cD (p2 t)<|p0 t,aw<|cD (p0 t)<|p1 t,aw<|cD (p1 t)<|p2 t],.d<|aw<|cD (p0 t)<|p1 t,hi (cD (p0 t)<|p1 t).1,.d<|aw<|cD (p1 t)<|p2 t,hi (cD (p1 t)<|p2 t).2,.d<|aw<|cD (p0 t)<|p1 t,hi (cD (p0 t)<|p1 t).2,.d<|aw<|cD (p1 t)<|p2 t,hi (cD (p1 t)<|p2 t).1,hi<|wC t,.ds<|[fj<|cD (p2 t)<|p0 t,fj<|cD (p0 t)<|p1 t,fj<|cD (p1 t)<|p2 t].map .int,hi<|sz t,.ds<|dI<|Be t,hl<|dI<|(eV t).take 5,hi<|tH t,hl<|dI<|(eV t).drop 5,hi<|qh t,hi c4,hl<|dI<|Be t,.b aB] (aU 400) [.list<|ns.map .int] (.bool aB) rfl tt ibt.2.2 H (X.1 _) hc (X.2.2.2.1 _) tt ibt.1 k0 (X.2.2.2.1 _) tt ibt.1 k0 (n6 _) tt ibt.1 k0 (X.2.2.2.1 _) tt ibt.2.1 k1 (n12 _) tt ibt.1 k0 (bJ rfl) sg (X.2.1 _) bk (iQ .d g8) rfl (X.2.2.1 _) fo (cE _) rfl (X.2.2.2.2 _) co (iQ .d f8) rfl rfl tt (bJ rfl) (λK h=>FK (λr=>(j r).1) jm [.int (1:Nat),.int (2:Nat)] K<|FK (λr=>(j r).2.1) (λr=>(j r).1) [.int (2:Nat)] _<|FK (λr=>(j r).2.2) (λr=>(j r).2.1) [] _ h) (y3 _).1 (iT _) (y3 _).2 (cK _) i1 (y3 _).1 (cK _) (y3 _).2 (iT _) i2 (ar _) (bJ rfl) (λK h=>Et 399 [_,_] K<|Et 399 [_] _<|Et 399 [] _ h) (sm _) (bJ rfl) (λK h=>yf al sl (by decide) [_,_,_,_] K<|yf al sl (by decide) [_,_,_] _<|yf al sl (by decide) [_,_] _<|yf al sl (by decide) [_] _<|yf al sl (by decide) [] _ h) (s1 _) (.sum .d) (s2 _) (.sum .d) (X.2.2.2.2 _) mu (Wn<|Kg _) .ret
end B01
namespace B01
noncomputable abbrev rR:RowW:=nE.row.toRowW
theorem PM:rR.promised:=(ax [.list [.int 3,.int 1]] (by decide+kernel)<|by decide+kernel)
theorem ow1:opensWell pg=true:=by lia
theorem ba1:pg.bare:=(U7 rfl rfl rfl rfl rfl (by decide+kernel))
theorem lV:frees rR=true:=by lia
theorem WL: ∃d K,defOf qv "law" =aA (d,K)/\pg.theDef "law" =aA (d.params,d.body,d.scope)/\kwWritten? d.params.kwonlyargs d.params.kw_defaults=aA K:=(cz _ _ rfl rfl rfl)
noncomputable def Rl (vs:List aI):ba nT:=do match<-nsGet lS "law" with
 |some f=>do ret (<-QGq f vs)
 |none=>unsupported "claim.caller:no-such-global"
theorem JI (i:(iA cu iw).Inv Y s) (hf:cu f=aA cf):isCodeTable s cf.tab/\ ∃ps,s.get? cf.tab=aA {cls:=.none,data:=.fields ps}:=by obtain ⟨n,L,t0,_⟩:=i f cf hf;exact ⟨t0.isCodeTable,_,t0.2⟩
theorem R0 {X:Nat->bH} (base: ∀b o,(dc P X).get? b=aA o->s.get? b=aA o) (k: ∀b o,s.get? b=aA o-> ¬ (iA cu iw).PF b->h'.get? b=aA o) (i:(iA cu iw).Inv (iA cu iw).PF h'):OldK s h':=by
 have key: ∀b o,s.get? b=aA o->(iA cu iw).PF b->(isCodeTable s b/\o=md/\ ∃ps,h'.get? b=aA {cls:=.none,data:=.fields ps}):=by
  rintro b o e ⟨f,cf,hf,rfl⟩
  refine ⟨(JI (MI (P:=P) (X:=X) base) hf).1,?_,(JI i hf).2⟩
  have hb:s.get? cf.tab=aA md:=by
   rcases yb (fA f cf hf rfl) with q|q|q
   ·exact sb q<|base _ _<|Ak P X
   ·exact sb q<|base _ _<|AX P X
   ·exact sb q<|base _ _<|AW P X
  rw[hb] at e;exact (kC e).symm
 refine ⟨λb o e=>?_,λb o e=>?_⟩
 ·by_cases p:(iA cu iw).PF b
  ·obtain ⟨a1,rfl,ps,a3⟩:=key b o e p
   exact .inr (.inl ⟨a1,rfl, #[],ps,rfl,by erw[a3];simp[md]⟩)
  ·exact .inl<|k b o e p
 ·by_cases p:(iA cu iw).PF b
  ·obtain ⟨a1,rfl,ps,a3⟩:=key b o e p
   exact ⟨_,a3⟩
  ·exact ⟨o,k b o e p⟩
theorem QCW (args:List WData):rR.claim.post args (.bool aB) args=true:=by lia
theorem QEF {w:bz} {X:Nat->bH} (hX:kM X) {ns:List Int} (hl:ns.length<=63) {vs:List aI} (base: ∀b o,(dc w.params X).get? b=aA o->s.heap.get? b=aA o)
 (ht:1<=s.toks) (hg:s.gens= #[]) (hw:DU w.params s.heap vs [ux<|xQ<|ns.map xR]) (cl:fY->Option aM) (mean:ExcName->Option aI):
 aO (aY pg w) callerA (QGq (.ref 413) vs) (λv s'=>GoodWG rR.claim cl mean [ux<|xQ<|ns.map xR] s (.ok<|.ret v) s') (λe s'=>GoodWG rR.claim cl mean [ux<|xQ<|ns.map xR] s (.error e) s') s:=by
 have ok:=RL (w:=w) hX 401;refine uP (ok.1.F 26 _ _<|da (QAf hl) rfl) λnm a o fd k1 k2 O O hc=>?_;obtain rfl:a=413:=by have k1:aA ("law" :aG)=aA nm:=k1;cases k1;cases bM ((jX (w:=w) (X:=X) "law").trans (by lia:_=aA (wY 413))) (k2:mg w X "law" =aA (.ref a));rfl
 have pfG: ∀b o,(D w X 401).G.get? b=aA o-> ¬ (D w X 401).P.PF b:=λb o e p=>by have q:=X6 e;rcases yb p with rfl|rfl|rfl<;>exact absurd q (by decide+kernel)
 refine hc (X:=(iA cu iw).PF) ⟨(⟨rfl,by refine (?_:1+claimMargin+401<=900);decide,by refine (?_:4+10*401+300<=9900);decide⟩:gv (D w X 401).n callerA),ht,λb o e=>base b o<|Nk e,pfG,λb p=>?_,λO p=>p,MI base⟩ (Xi hw ?_) λu s' ct rd=>?_
 ·rcases yb p with rfl|rfl|rfl
  ·exact ⟨_,base _ _<|Ak _ X⟩
  ·exact ⟨_,base _ _<|AX _ X⟩
  ·exact ⟨_,base _ _<|AW _ X⟩
 ·intro a o e hc p
  rcases yb p with rfl|rfl|rfl
  ·obtain rfl:=bM (base _ _<|Ak _ X) e
   exact hc rfl
  ·obtain rfl:=bM (base _ _<|AX _ X) e
   exact hc rfl
  ·obtain rfl:=bM (base _ _<|AW _ X) e
   exact hc rfl
 ·obtain rfl:=rd.bool_inv
  exact sb ct.e<|⟨.inl<|HY _ (.bool true) [] rfl (λO=>rfl) (.bool _) (QCW _) (λO=>⟨.nil,λO ha=>nomatch ha⟩),R0 (X:=X) base (λb o e p=>ct.keep b o e id p) ct.inv,rfl,.of_eq hg⟩
theorem QDr (w:bz) (X:Nat->bH):mg w X "law" =aA (.ref 413):=(jX (w:=w) (X:=X) "law").trans (by lia)
theorem Zl {ns:List Int} (h:nE.pre.holds R {args:=[ux<|xQ<|ns.map xR]}=aB):ns.length<=63:=by
 have e:nE.pre=.and (.not<|.lt (.lit<|.int (63:Nat))<|.len<|.arg 0) (.lit<|.bool aB):=rfl;rw[e] at h;refine jN λq=>?_
 have l: ∀r:List PyData,(ofPys r).length=r.length:=by
  intro r;induction r with
  |nil=>rfl
  |cons x r i=>simp[ofPys,i]
 have d:decide ((63:Int)<(ns.length:Int))=true:=by simp;exact (bE<|oL q)
 simp[WTm.holds,WTm.value,ux,l,less?,Num.less?,d] at h
theorem QAJ {vs:List aI} (w:DU P h vs [ux<|xQ d]): ∃a,vs=[.ref a]:=by
 cases w with
 |cons a b=>cases b;cases a;exact ⟨_,rfl⟩
theorem rowHolds:nE.row.Holds:=by
 refine GR (frees_parts lV) λf hu ha Y hm=>(E3 ML PM ⟨ba1,ow1,rfl⟩ PM.witness λw=>⟨(NN w).1,λs' hs'=>?_⟩);refine cy ((NN w).2 s' hs') λF hf j h=>MF h λs hT hz Z hg G0 hY U=>aS hY λX hX base=>?_;clear h hY;refine ⟨F,hf,j,s,hT,λn hn=>?_,(by intro x C;exact nomatch C),(by intro x C;exact nomatch C),?_⟩
 ·refine bf WL λd aa e1 e2 e3=>?_
  obtain rfl:n= "law" :=by
   have:n∈(if nE.row.pinned then [nE.row.name] else []):=hn
   split at this
   ·exact Ig.mp this
   ·clear hn
    exact nomatch this
  exact pinned_of_view hg G0 e1 e2 e3
 ·refine ClaimW.callFrom_of_specG (c:=rR.claim) (tree:=Rl) hz Z λargs p M ord m=>aV (mQ.mp<|layAllW_isSome (R:=rR.claim.records) (cl:=classAt s.heap) (P:=w.params) (ord:=ord) (by intro c hc;exact br hc) args rR.args s (RA p).1) λQ l=>?_
  obtain ⟨vs,N⟩:=Q;have keeps:=layAllW_keeps _ _ _ l;have A:=layAllW_rest _ _ _ l;refine cy (reads_layAllW m _ _ _ l M N.heap λO O e=>e) λas K i hold=>?_;have L:Laid rR.claim.records w s N args vs as:=⟨(ax ord m l),K,i,hold,keeps,A.1.trans Z,A.2.2.1⟩;refine aV (QDZ (RA p).1) λns H=>?_;clear M K;subst H;have hi:=ident_freeW (r:=rR) hu ha Y;have B: ∀b o,(dc w.params X).get? b=aA o->N.heap.get? b=aA o:=λb o e=>keeps b o<|base b o e;have u:N.heap.Ns lS (mg w X):=me.g.keeps λb o e=>B b o<|Nk e;have t:1<=N.toks:=(QAJ L.well).elim λa e=>az (by decide)<|PySem.W.X.script_toks (e▸L) U
  refine (fA vs N l ?_);refine aR<|wpAny_nsGet u ?_;rw[QDr];refine aR<|eY (QEF hX (Zl (RA p).2) B t L.gens L.well (classAt s.heap)<|ExcName.means s.heap) (λv s' g=>bA ?_) λe s' g=>?_
  ·have z:=g.laid (c:=rR.claim) f rfl hi L
   exact (Ng _ rfl z.1 z.2.1 z.2.2 (by intro q;exact nomatch q))
  ·have z:=g.laid (c:=rR.claim) f rfl hi L
   exact (lK z.1 z.2.1 z.2.2 (by intro q;exact nomatch q))
end B01
end Mine
end
theorem PySem.Challenge.cw_wf0123_02_holds : PySem.Challenge.rw_wf0123_02.Holds :=
 Mine.B01.holds_of_row Mine.B01.rowHolds
