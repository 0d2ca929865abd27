import PyProof.Rows.All
import Wide.All
import OpenK.AllK
import Wide.FinOn
import KE.KSetDisp
import KE.KBits
import OpenK.ZHead
import Lean
import PySem.Challenge.RW_wf0123_01
set_option Elab.async false
set_option linter.all false
set_option bootstrap.genMatcherCode false
set_option genInjectivity false
set_option genSizeOf false
set_option tactic.hygienic false
set_option maxRecDepth 100000
set_option maxHeartbeats 0
noncomputable section
open Option renaming some->aA,none->aE,map_eq_some_iff->nE,isSome_iff_exists->q8,bind_eq_some_iff->BJ,getD_some->QGY,map_eq_none_iff->QHz
open Bool renaming true->aC,false->aD,and_eq_true->gb,and_eq_true_iff->iH,false_eq_true->rB,not_eq_true'->s9,eq_false_iff->yB,or_eq_true->yU,true_and->Az,eq_iff_iff->Ec,and_true->Et,and_false->Jt,toNat_true->J5,or_eq_false_iff->RA,false_and->RZ,not_true->SV,or_false->Sd,not_eq_true->QGW,not_false->QHs,toNat_false->QIC
open Nat renaming le_trans->bO,le_refl->cY,le_of_ble_eq_true->cn,le_add_left->dI,beq->dK,blt->di,le_of_not_lt->fJ,mul_le_mul_left->fO,lt_of_le_of_lt->fq,min_eq_left->gO,ble->iF,zero_le->iz,le_add_right->jb,not_lt->jt,add_le_add->kI,le_antisymm->mQ,lt_of_lt_of_le->oC,lt_irrefl->oD,mul_le_mul->oH,mod_lt->oT,le_of_eq->pZ,ble_eq_true_of_le->qA,div_mul_le_self->qC,ne_of_lt->qy,lt_of_not_le->rG,lt_or_gt_of_ne->rK,ne_of_gt->sv,add_assoc->sz,le_of_lt->s7,eq_of_beq_eq_true->vp,add_right_comm->v5,zero_add->v9,sub_eq_zero_of_le->wC,mul_comm->wF,add_comm->wG,lt_succ_self->yN,lt_succ_of_lt->yO,sub_le->yX,sub_zero->Aw,le_succ_of_le->Ax,testBit_and->BS,testBit->Ba,add_le_add_left->ES,beq_refl->EU,lt_trans->EY,min_le_right->Eb,not_le->E3,min_eq_right->FA,exists_eq_add_of_le'->FC,pow_succ->FD,mul_add->FE,le_of_succ_le_succ->FG,mul_le_mul_right->FK,le_of_succ_le->JJ,not_le_of_lt->JN,le_total->Js,two_mul->Qz,succ_pos->Q2,succ_le_succ->RH,succ->RP,add_le_add_right->RW,add_sub_cancel'->RY,mul_succ->SE,add_right_cancel->QFv,sub_add_cancel->QFy,mul_div_cancel_left->QFz,le_succ->QHF,eq_zero_of_not_pos->QHJ,lt_or_ge->QHP,eq_of_testBit_eq->QHX,testBit_two_pow_mul->QHY,zero_testBit->QHZ,testBit_lt_two_pow->QHa,pow_le_pow_right->QHb,div_add_mod->QHc,two_pow_pos->QHd,mul_zero->QHh,strongRecOn->QHj,one_mul->QHn,div_eq_of_lt->QHo,min_le_left->QHy,pos_of_ne_zero->QIA,testBit_one_eq_true_iff_self_eq_zero->QIF
open Int renaming le_of_lt->cR,natCast_nonneg->cT,toNat->da,ne_of_gt->gG,mul_comm->kO,one_mul->kq,emod_lt_of_pos->kr,mul_ediv_add_emod->ku,le_trans->lN,emod_nonneg->lU,le_antisymm->nF,fmod_lt_of_pos->nO,toNat_of_nonneg->oI,mul_nonneg->oU,mul_le_mul_of_nonneg_right->oV,not_lt->pb,ofNat_lt->pd,toNat_natCast->qD,ofNat_le->su,ediv_nonneg->tJ,mul_one->uW,ediv_lt_of_lt_mul->ue,mul_le_mul_of_nonneg_left->vo,le_refl->yF,add_comm->ye,mul_pos->yf,not_le->As,add_nonneg->BU,fmod_nonneg_of_pos->BX,natAbs_of_nonneg->FF,max_eq_right->I7,zero_add->JQ,eq_ofNat_of_zero_le->JU,lt_or_le->Ju,mul_assoc->Jv,add_mul->Jw,lt_of_le_of_lt->Jx,mul_lt_mul_of_pos_right->Jy,natCast_add->Jz,le_max_left->J3,le_max_right->J4,add_le_add->Qy,le_of_not_gt->Q3,fdiv_eq_ediv_of_nonneg->R8,lt_of_lt_of_le->R9,lt_trans->SD,add_sub_cancel->SF,add_assoc->SG,ofNat_natAbs_of_nonpos->SJ,lt_or_gt_of_ne->SM,add_left_inj->QFw,le_of_eq->QFx,mul_le_mul->QGE,le_total->QGF,sub_mul->QHe,add_mul_ediv_right->QHf,ediv_ediv_of_nonneg->QHg,ediv_one->QHi,natCast_mul->QHk,mul_add->QHm,add_zero->QHp,mul_fdiv_add_fmod->QHq,max_eq_left->QIB,neg_neg->QIH,mul_neg->QII
open List renaming range->cg,length_map->cp,mem_cons->dR,map_cons->dg,all_eq_true->fN,mem_map->gQ,map_append->gR,replicate->hG,length_append->i4,not_mem_nil->i5,size_toArray->jH,mem_append->jZ,lookup_cons->jc,length_cons->jd,count_cons->kP,append_nil->lQ,sum_cons->lT,append_assoc->nI,getElem?_map->nM,filterMap_cons->oK,mem_singleton->oW,getElem?_eq_getElem->p8,map_nil->rJ,take_append_drop->tH,length_nil->tI,filter_cons->tK,mem_append_right->uP,map_map->uX,length_range->uZ,drop_eq_nil_of_le->uf,length_filter_le->ug,mem_filter->uh,foldl_cons->vu,take_of_length_le->vv,forIn_cons->vz,cons_append->wB,nodup_append->yZ,length_take->yb,range_succ->yh,getD->yi,mem_append_left->Au,mem_cons_of_mem->Av,forIn_nil->A6,reverse_cons->BA,length_reverse->BE,length_drop->BN,sum_append->BO,mem_of_getElem?->BP,nil_append->BV,replicate_succ->BW,getD_eq_getElem?_getD->BY,mem_range->EZ,getElem?_eq_some_iff->Ef,getElem?_toArray->Eg,drop_eq_getElem_cons->Eu,mem_reverse->Ew,isEmpty_iff->E1,find?_cons->E9,range'->FH,flatten_cons->FI,Perm->FJ,mem_filterMap->JA,getElem?_range->Je,range'_succ->Jk,length->Jl,sum_nil->Jm,getElem_mem->Jr,drop_left->J0,flatten_nil->J2,mem_flatMap->J6,length_eraseIdx_of_lt->J7,contains_iff_mem->RB,nodup_cons->RG,getElem?_eq_none->RL,length_eq_zero_iff->RO,map_reverse->RQ,range_eq_range'->Rq,length_replicate->SH,drop_zero->SI,take_left->SO,map_eq_nil_iff->SS,map_congr_left->SU,filter_eq_nil_iff->SX,length_set->SY,mem_replicate->Sa,count->Sb,eraseIdx_eq_take_drop_succ->Se,flatMap_cons->Sf,flatMap_nil->Sg,count_le_length->Sh,filter_sublist->QGC,getElem?_eq_none_iff->QGN,findIdx_cons->QGX,lookup->QGZ,drop_length->QGc,nodup_nil->QGz,zip_cons_cons->QHB,push_toArray->QHN,map_inj_left->QHR,drop_drop->QHl,map_drop->QHt,any_eq_true->QHu,find?_eq_none->QHv,filter_append->QHx,length_pos_iff->QID,count_pos_iff->QIG
open Eq renaming refl->gS
open Option.some renaming inj->kj
open Array renaming length_toList->mY,size_extract->vt,getD_eq_getD_getElem?->Jf,size_push->Rh,size_append->R7,toList_inj->SP,getElem?_extract->QGB,getElem?_eq_getElem->QGm,toList_append->QHD,all_toList->QHw
open PUnit renaming unit->nH
open Ne renaming symm->oE
open False renaming elim->ph
open ForInStep renaming yield->rA
open Prod.mk renaming injEq->ua,inj->Rb
open Nat.succ renaming inj->v7
open Classical renaming byContradiction->Q0
open PySem PySem.W PyProof.Rows PySem.Calls PyProof.V
local macro_rules | `(tactic|ac_rfl)=> `(tactic|first|(simp+arith only;done)|(simp+arith only[Int.natCast_add,Int.natCast_mul,Int.cast_ofNat_Int];done)|simp+arith)
local macro_rules | `(tactic|lia)=> `(tactic|kernel_rfl)
local macro_rules | `(tactic|simp! only[$ts,*] $(l)?)=> `(tactic|simp -iota only[$ts,*] $(l)?)
local macro_rules | `(tactic|omega)=> `(tactic|lia+abstractProof)
local macro_rules | `(tactic|ac_nf)=> `(tactic|(simp -iota only[typeLookup_type,builtinLookup_eq_fast];kernel_rfl))
local macro_rules | `(tactic|show $e:term)=> `(tactic|refine $e)
local macro_rules | `(tactic| ext) => `(tactic| decide)
universe u v w
open PySem.W.Dat renaming int->aB,str->aI,list->aK,none->br,tuple->bw,bool->fI
open PySem.Value renaming ref->aG,none->bG,int->bS,type->bp,builtin->bx,str->cP,bool->dD,isInt->oS,isInt_shape->QHS
open PySem.W renaming Dat->aM,kqdOk->gr,SharedT->jJ,absHeap->rI,ofPy->wH,kqdP->yD,behindTheImports->BK,listOf->Eh,WellAll->FO,abs_get->Jd,absHeap_at->J9,looseW->KC,absHeap_size->Ra,kbt_mask->SA,pre_splitW->Sk,wellAll_cons_inv->QIN
open PySem renaming Str->aN,Value->aO,Addr->aP,Shared->aV,wpAny->aZ,Expr->az,wpAny_bind->bD,model->bH,wpAny_pure->bQ,Obj->bk,Heap->bq,Pos->cA,Params->cH,Sem->cM,World->dF,eval->dH,Around->de,wpAny_holding->dq,Env->eB,Stmt->eT,NameKind->fX,OsState->fz,Tok->gZ,starEach->gv,execs->hJ,Str->hM,wpAny_mono->iy,CmpOp->jF,Flow->jI,Operator->jY,builtinsNs->js,wpAny_execs_cons->jv,intKind->jx,wpAny_standAt->kK,cellsFrom->kL,Scope->kM,pushCells->lP,denote->lS,sliceBounds->mM,BoolOp->mO,treeTable->mX,swapsWithSole->nK,mainNs->nN,sizeLine->oF,bindArgs->oR,mainGlobals->pj,backTo->pq,Expr->p9,Fin->qB,holding->q7,assign->rC,wpAny_of_eq->rD,exec->rE,rawInt->rF,wpAny_Call_Name_kw->tD,swappedStores->tE,Program->uQ,compareOp->uR,behindInMarks->uS,wpAny_truthy_bool->uT,standAt->uU,Walks->uV,runN->ub,seqIndex?->vw,spliced->vx,JoinOk->wA,strValues->yE,callWith->yG,callWith_type->yJ,attributeBase->yK,Keyword->yL,wpAny_Call_method_lateS->yM,wpAny_assign_Name->yP,codeAny->yQ,assignEach->yS,wpAny_call->yT,Builtin->yV,DictEntry->yY,subDict->ya,Reads->Ay,subscripted->A0,operate->A1,getItem->A2,isTrue->A4,pyIter->A7,Result->A8,wpAny_execs_nil->BB,bindName->BC,dropValue->BD,sizeLine_eq->BL,sliceRange->ET,storeName->Ea,getMethod->Ei,sysModules->Ej,Model->Ep,swapsWith->Ey,wpAny_seqItems->Ez,table->E4,schedN->E6,nsFind->E8,truthy->JC,bootBuiltins->JD,wpAny_isTrue_Compare1->JE,typeOf->JH,wpAny_evalPart_none->JI,newEnv->JK,newFunctionEnv->JL,wpAny_alloc->JM,foldedSetIterable->JO,letOwnedTupleGo->JP,setItem->JR,slot_list_setitem->JS,wpAny_call_entry->JT,wpAny_If->JX,Comprehension->JZ,argsOk->Jg,updateSeq->Jh,seqItems?->Ji,mergeMapping->Jj,findBy->Jo,callEnv->Jp,wpAny_isTrue_value->Jq,table_eq_tree->KA,typeIs_str->Q4,wpAny_loadName_local->Q5,wpAny_Compare1->Q7,wpAny_isNot_plain->Q9,PlainAttrs->RC,backToKw->RD,keywordEach->RE,pushCells_keeps->RF,keeperOf->RI,call_type_of->RJ,unpackItems->RK,arm_exec_Assign->RM,codeAny_call_function->RU,functionCode->RV,entryFor->Rc,entryFor_of_tree->Rf,wpAny_fieldsOf->Rg,wpAny_mkStr->Ri,codeAny_builtin->Rj,typeLookup->Rl,typeLookup_type->Rm,builtinLookup_eq_fast->Rn,dictDisplay->Rp,runValue->Rr,moduleCode->Ru,newBodyFrame->Rv,blockStart->Rw,evalEachOpt->Rx,evalEach->Ry,codeAny_call_def->R5,arm_execs_cons->Si,wpAny_storeName_local->QGD,slot_list_getitem->QGM,wpAny_UnaryOp->QGQ,wpAny_isTrue_Not->QGS,wpAny_is_plain->QGT,wpAny_pyIter_list->QGa,wpAny_list_append_plain->QGb,wpAny_newObj_type->QGd,methodCallPos->QGe,wpAny_specialOf->QGh,wpAny_sequenceKey->QGi,wpAny_callSpecial?_slot->QGj,entry_list_setitem->QGk,args_list_setitem->QGl,wpAny_bindName->QGn,arm_assign_Subscript->QGq,wpAny_Continue->QGr,codeAny_forLoop_any->QGt,codeAny_whileLoop->QGv,wpAny_listPart->QGw,wpAny_updateSeq->QGx,wpCode_iff_wp->QHI,builtinType_eq_fast->QHK,signature?_of->QHL,wpAny_dictFind_int->QHM,wpAny_dictEntries->QHO,wpAny_onRaise->QHQ,wpAny_inSet_of->QHT,wpAny_askSetting->QHW,intText?->QHr,leftWithCleanup->QIJ,arm_execs_nil->QIK,model->QIL,call->QIO
open PySem.Operator renaming Add->bV,Mult->cV,Sub->dc,LShift->dj,BitAnd->fP,Mod->fb,FloorDiv->fy,RShift->mU,Pow->E2,BitOr->QHG
open PySem.Expr renaming Name->bf,Call->du,Constant->fY,Attribute->hH,Tuple->oO,Compare->qz,Subscript->tB,ListComp->v3,Dict->wD,UnaryOp->A5,BoolOp->Ek,Slice->Em,List->JF,BinOp->Q6,IfExp->Q8
open PySem.CmpOp renaming Eq->b9,NotEq->dT,IsNot->oP,Is->tC,In->A3,Lt->BF,Gt->BG,LtE->Ja
open PySem.Txt renaming lower->cQ,slice->ja,replace->EX,join->Jc,swapcase->J1,rstrip->SR
open PySem.NameKind renaming free->ck,cell->dS,globalImplicit->nG
open PySem.Data renaming fields->eY,dict->gu,seq->jr,func->kn,plain->uY,set->yc,cell->Q1,cls->Rt
open PySem.ScopeKind renaming function->gy
open PySem.Heap renaming get?_push_size->gz,get?_push_of_some->iW,get?_none_of_le->kJ,lt_size->mP,get?->yC,get?_update_self->yR,size_push->Eo,get?_some_iff->I9,SameBut->JB,nsMap->R4
open PySem.Sem renaming wp->iG,wp_bind'->rM,wp_pure'->FL,wp_mono->J8
open PySem.Builtin renaming bitAnd->jG,divisionGoesByPylong->lO,bitOr->vq,bitXor->EV,bitNot->QGA
open PySem.Const renaming bool->ju,none->ko,str->tA,int->QGO
open PySem.Sre renaming Seen->kN,forSearch->mV,inSet->BH,Frame->Jb
open PySem.Stmt renaming Assign->lR,Expr->oQ,If->JW,Return->JY,Continue->RS,For->RT,Pass->RX,AugAssign->QGo,While->QGu,Delete->QGy,FunctionDef->QHE
open PySem.BoolOp renaming And->mR,Or->v8
open PySem.Calls renaming spliced_nil->oN,spliced_cons->yH,callWith_builtin->yI,callWith_function->A9,Name_function_global->JG,loadGlobal_builtin->QGU,loadGlobal_global->QGV
open PySem.Flow renaming ret->tF
open PySem.Step renaming halt->tG
open PySem.Config renaming single->uc
open PySem.Outcome renaming done->ud
open PyProof.Rows renaming News->vr,tail_any->Ee,wpAny_release'->RR,eq_str->QGJ,ne_str->QGK,subscriptTail->QGL,add_int->QIR,sub_int->QIS,mul_int->QIT,eq_int->QIU,ne_int->QIV,lt_int->QIW,le_int->QIX,gt_int->QIY,ge_int->QIZ,len_list->QIa,len_tuple->QIb,slice_closesL->QId
open PySem.F renaming plainAttrs_str->vy,plainAttrs_dict->QGf,slot_dict_get->QGg,plainAttrs_list->QGp,slot_dict_items->QHA
open PySem.Code renaming builtin->yW,body->yd,quiet_builtin->Rk,forLoop->QGs,func->QHC
open PySem.PyData renaming strOk->yg,list->yj,int->yk
open PySem.Sre.M renaming admitted->BI
open PySem.Run renaming running->BM,halted->E5
open PySem.SetTable renaming eraseAt->BQ,fresh->BR,insertAt->R6,fits->QHU,fill->QHV
open PySem.Unicode renaming isSpace->BZ
open PySem.UnaryOp renaming Not->El,USub->QGP,Invert->QGR
open PySem.FuncBody renaming stmts->E0
open PySem.Str renaming ofString->E7,ofString->Jn,mk->SQ
open PySem.W.WData renaming int->FN,list->Sj,bool->QIP
open PySem.Builtin.Int renaming intBits->I8
open PySem.Heap.SameBut renaming update->JV
open PySem.Shared renaming asleep_of_life->Ro,mk->QHH
open PyProof renaming noPylong_small->SN,noPylong_of_log2->QIE
open PySem.SeqAt renaming shaped->QGG,in_list_reads->QGH,notIn_list_reads->QGI
open PySem.Challenge renaming rw_wf0123_01->QIM,pw_wf0123_01->QIc
namespace Mine
noncomputable def QIe:= @absurd
noncomputable def QIf:= @if_neg
noncomputable def QIg:= @if_pos
noncomputable def QIh:= @congrArg
noncomputable def QIi:= @beq_iff_eq
noncomputable def QIj:= @beq_self_eq_true
noncomputable def QIk:= @bne_self_eq_false
noncomputable def QIl:= @beq_false_of_ne
noncomputable def QIm:= @of_decide_eq_true
noncomputable def QIn:= @if_false
noncomputable def QIo:= @decide_eq_true
noncomputable def QIp:= @bne_eq_false_iff_eq
section
variable {g:Prop}
section
variable {p q r s t k l m:Prop}
theorem bP (h:p/\q) (f:p->q->g):g:=f h.1 h.2
theorem eA (h:p/\q/\r) (f:p->q->r->g):g:=bP h λa b=>bP b<|f a
theorem fR (h:p/\q/\r/\s) (f:p->q->r->s->g):g:=bP h λa b=>eA b<|f a
theorem wZ (h:p/\q/\r/\s/\t) (f:p->q->r->s->t->g):g:=bP h λa b=>fR b<|f a
theorem EL (h:p/\q/\r/\s/\t/\k) (f:p->q->r->s->t->k->g):g:=bP h λa b=>wZ b<|f a
theorem Fd (h:p/\q/\r/\s/\t/\k/\l) (f:p->q->r->s->t->k->l->g):g:=bP h λa b=>EL b<|f a
theorem Wx (h:p/\q/\r/\s/\t/\k/\l/\m) (f:p->q->r->s->t->k->l->m->g):g:=bP h λa b=>Fd b<|f a
end
section
variable {A:Sort _} {p q r s t k l m:A->Prop}
theorem bE (h: ∃x,p x) (f: ∀x,p x->g):g:=h.elim f
theorem aT (h: ∃x,p x/\q x) (f: ∀x,p x->q x->g):g:=h.elim λa b=>bP b<|f a
theorem eE (h: ∃x,p x/\q x/\r x) (f: ∀x,p x->q x->r x->g):g:=h.elim λa b=>eA b<|f a
theorem rV (h: ∃x,p x/\q x/\r x/\s x) (f: ∀x,p x->q x->r x->s x->g):g:=h.elim λa b=>fR b<|f a
theorem xE (h: ∃x,p x/\q x/\r x/\s x/\t x) (f: ∀x,p x->q x->r x->s x->t x->g):g:=h.elim λa b=>wZ b<|f a
theorem Tj (h: ∃x,p x/\q x/\r x/\s x/\t x/\k x) (f: ∀x,p x->q x->r x->s x->t x->k x->g):g:=h.elim λa b=>EL b<|f a
theorem NB (h: ∃x,p x/\q x/\r x/\s x/\t x/\k x/\l x) (f: ∀x,p x->q x->r x->s x->t x->k x->l x->g):g:=h.elim λa b=>Fd b<|f a
end
section
variable {A B:Sort _} {p q r s t k l m:A->B->Prop}
theorem lL (h: ∃x y,p x y) (f: ∀x y,p x y->g):g:=h.elim λa b=>bE b<|f a
theorem dU (h: ∃x y,p x y/\q x y) (f: ∀x y,p x y->q x y->g):g:=h.elim λa b=>aT b<|f a
theorem cI (h: ∃x y,p x y/\q x y/\r x y) (f: ∀x y,p x y->q x y->r x y->g):g:=h.elim λa b=>eE b<|f a
theorem ik (h: ∃x y,p x y/\q x y/\r x y/\s x y) (f: ∀x y,p x y->q x y->r x y->s x y->g):g:=h.elim λa b=>rV b<|f a
theorem sJ (h: ∃x y,p x y/\q x y/\r x y/\s x y/\t x y) (f: ∀x y,p x y->q x y->r x y->s x y->t x y->g):g:=h.elim λa b=>xE b<|f a
theorem Be (h: ∃x y,p x y/\q x y/\r x y/\s x y/\t x y/\k x y) (f: ∀x y,p x y->q x y->r x y->s x y->t x y->k x y->g):g:=h.elim λa b=>Tj b<|f a
theorem NA (h: ∃x y,p x y/\q x y/\r x y/\s x y/\t x y/\k x y/\l x y) (f: ∀x y,p x y->q x y->r x y->s x y->t x y->k x y->l x y->g):g:=h.elim λa b=>NB b<|f a
end
section
variable {A B C:Sort _} {p q r s t k l m:A->B->C->Prop}
theorem QDz (h: ∃x y z,p x y z) (f: ∀x y z,p x y z->g):g:=h.elim λa b=>lL b<|f a
theorem qF (h: ∃x y z,p x y z/\q x y z) (f: ∀x y z,p x y z->q x y z->g):g:=h.elim λa b=>dU b<|f a
theorem fH (h: ∃x y z,p x y z/\q x y z/\r x y z) (f: ∀x y z,p x y z->q x y z->r x y z->g):g:=h.elim λa b=>cI b<|f a
theorem fh (h: ∃x y z,p x y z/\q x y z/\r x y z/\s x y z) (f: ∀x y z,p x y z->q x y z->r x y z->s x y z->g):g:=h.elim λa b=>ik b<|f a
theorem QAC (h: ∃x y z,p x y z/\q x y z/\r x y z/\s x y z/\t x y z) (f: ∀x y z,p x y z->q x y z->r x y z->s x y z->t x y z->g):g:=h.elim λa b=>sJ b<|f a
theorem Qe (h: ∃x y z,p x y z/\q x y z/\r x y z/\s x y z/\t x y z/\k x y z) (f: ∀x y z,p x y z->q x y z->r x y z->s x y z->t x y z->k x y z->g):g:=h.elim λa b=>Be b<|f a
end
section
variable {A B C D:Sort _} {p q r s t k l m:A->B->C->D->Prop}
theorem qK (h: ∃x y z u,p x y z u) (f: ∀x y z u,p x y z u->g):g:=h.elim λa b=>QDz b<|f a
theorem IC (h: ∃x y z u,p x y z u/\q x y z u) (f: ∀x y z u,p x y z u->q x y z u->g):g:=h.elim λa b=>qF b<|f a
theorem YH (h: ∃x y z u,p x y z u/\q x y z u/\r x y z u/\s x y z u) (f: ∀x y z u,p x y z u->q x y z u->r x y z u->s x y z u->g):g:=h.elim λa b=>fh b<|f a
theorem uu (h: ∃x y z u,p x y z u/\q x y z u/\r x y z u/\s x y z u/\t x y z u) (f: ∀x y z u,p x y z u->q x y z u->r x y z u->s x y z u->t x y z u->g):g:=h.elim λa b=>QAC b<|f a
end
section
variable {p q r s t k l m:Prop}
theorem mA (h0:p) (h1:q) (h2:r) (h3:s):p/\q/\r/\s:=⟨h0,h1,h2,h3⟩
theorem DD (h0:p) (h1:q) (h2:r) (h3:s) (h4:t):p/\q/\r/\s/\t:=⟨h0,h1,h2,h3,h4⟩
theorem Yr (h0:p) (h1:q) (h2:r) (h3:s) (h4:t) (h5:k):p/\q/\r/\s/\t/\k:=⟨h0,h1,h2,h3,h4,h5⟩
end
section
variable {A:Sort _} {p q r s t k l m:A->Prop}
theorem Zy (x:A) (h0:p x): ∃x,p x:=⟨x,h0⟩
theorem bJ (x:A) (h0:p x) (h1:q x): ∃x,p x/\q x:=⟨x,h0,h1⟩
theorem fw (x:A) (h0:p x) (h1:q x) (h2:r x): ∃x,p x/\q x/\r x:=⟨x,h0,h1,h2⟩
theorem ij (x:A) (h0:p x) (h1:q x) (h2:r x) (h3:s x): ∃x,p x/\q x/\r x/\s x:=⟨x,h0,h1,h2,h3⟩
theorem KU (x:A) (h0:p x) (h1:q x) (h2:r x) (h3:s x) (h4:t x): ∃x,p x/\q x/\r x/\s x/\t x:=⟨x,h0,h1,h2,h3,h4⟩
theorem TF (x:A) (h0:p x) (h1:q x) (h2:r x) (h3:s x) (h4:t x) (h5:k x): ∃x,p x/\q x/\r x/\s x/\t x/\k x:=⟨x,h0,h1,h2,h3,h4,h5⟩
theorem TL (x:A) (h0:p x) (h1:q x) (h2:r x) (h3:s x) (h4:t x) (h5:k x) (h6:l x): ∃x,p x/\q x/\r x/\s x/\t x/\k x/\l x:=⟨x,h0,h1,h2,h3,h4,h5,h6⟩
end
section
variable {A B:Sort _} {p q r s t k l m:A->B->Prop}
theorem mz (x:A) (y:B) (h0:p x y): ∃x y,p x y:=⟨x,Zy y h0⟩
theorem eS (x:A) (y:B) (h0:p x y) (h1:q x y): ∃x y,p x y/\q x y:=⟨x,bJ y h0 h1⟩
theorem d0 (x:A) (y:B) (h0:p x y) (h1:q x y) (h2:r x y): ∃x y,p x y/\q x y/\r x y:=⟨x,fw y h0 h1 h2⟩
theorem iX (x:A) (y:B) (h0:p x y) (h1:q x y) (h2:r x y) (h3:s x y): ∃x y,p x y/\q x y/\r x y/\s x y:=⟨x,ij y h0 h1 h2 h3⟩
theorem yA (x:A) (y:B) (h0:p x y) (h1:q x y) (h2:r x y) (h3:s x y) (h4:t x y): ∃x y,p x y/\q x y/\r x y/\s x y/\t x y:=⟨x,KU y h0 h1 h2 h3 h4⟩
theorem vc (x:A) (y:B) (h0:p x y) (h1:q x y) (h2:r x y) (h3:s x y) (h4:t x y) (h5:k x y): ∃x y,p x y/\q x y/\r x y/\s x y/\t x y/\k x y:=⟨x,TF y h0 h1 h2 h3 h4 h5⟩
theorem AG (x:A) (y:B) (h0:p x y) (h1:q x y) (h2:r x y) (h3:s x y) (h4:t x y) (h5:k x y) (h6:l x y): ∃x y,p x y/\q x y/\r x y/\s x y/\t x y/\k x y/\l x y:=⟨x,TL y h0 h1 h2 h3 h4 h5 h6⟩
end
section
variable {A B C:Sort _} {p q r s t k l m:A->B->C->Prop}
theorem YC (x:A) (y:B) (z:C) (h0:p x y z): ∃x y z,p x y z:=⟨x,mz y z h0⟩
theorem Nu (x:A) (y:B) (z:C) (h0:p x y z) (h1:q x y z): ∃x y z,p x y z/\q x y z:=⟨x,eS y z h0 h1⟩
theorem mf (x:A) (y:B) (z:C) (h0:p x y z) (h1:q x y z) (h2:r x y z): ∃x y z,p x y z/\q x y z/\r x y z:=⟨x,d0 y z h0 h1 h2⟩
theorem om (x:A) (y:B) (z:C) (h0:p x y z) (h1:q x y z) (h2:r x y z) (h3:s x y z): ∃x y z,p x y z/\q x y z/\r x y z/\s x y z:=⟨x,iX y z h0 h1 h2 h3⟩
theorem Hg (x:A) (y:B) (z:C) (h0:p x y z) (h1:q x y z) (h2:r x y z) (h3:s x y z) (h4:t x y z): ∃x y z,p x y z/\q x y z/\r x y z/\s x y z/\t x y z:=⟨x,yA y z h0 h1 h2 h3 h4⟩
end
section
variable {A B C D:Sort _} {p q r s t k l m:A->B->C->D->Prop}
theorem GC (x:A) (y:B) (z:C) (u:D) (h0:p x y z u) (h1:q x y z u) (h2:r x y z u) (h3:s x y z u): ∃x y z u,p x y z u/\q x y z u/\r x y z u/\s x y z u:=⟨x,om y z u h0 h1 h2 h3⟩
theorem Io (x:A) (y:B) (z:C) (u:D) (h0:p x y z u) (h1:q x y z u) (h2:r x y z u) (h3:s x y z u) (h4:t x y z u): ∃x y z u,p x y z u/\q x y z u/\r x y z u/\s x y z u/\t x y z u:=⟨x,Hg y z u h0 h1 h2 h3 h4⟩
end
end
theorem bM {α:Type u} {p:Prop} {a:α} (e:aE=aA a):p:=nomatch e
theorem sT {α:Type u} {p:Prop} {a:α} (e:aA a=aE):p:=nomatch e
theorem dP {p:Prop} (e:aD=aC):p:=nomatch e
theorem vZ {p:Prop} (e:aC=aD):p:=nomatch e
theorem dy {α:Type u} {p:Prop} {o:Option α} {a:α} (h:o=aE) (e:o=aA a):p:=nomatch h.symm.trans e
theorem wV {α:Type u} {p:Prop} {o:Option α} {a:α} (h:o=aA a) (e:o=aE):p:=nomatch h.symm.trans e
theorem bt {α:Type u} {o:Option α} {a b:α} (h:o=aA a) (e:o=aA b):a=b:=kj<|h.symm.trans e
@[elab_as_elim] theorem sb {α:Sort u} {b:α} {motive:α->Prop} {a:α} (h:b=a) (k:motive a):motive b:=h.symm▸k
@[elab_as_elim] theorem dA {α:Sort u} {b:α} {motive:α->Prop} {a:α} (h:a=b) (k:motive a):motive b:=h▸k
theorem na {a b c d:Nat} (h:a<=b) (k:c<=d):a+c<=b+d:=kI h k
theorem ni {a b c d:Int} (h:a<=b) (k:c<=d):a+c<=b+d:=Qy h k
theorem ea {a b c d:Nat} (h:a=b) (k:c=d):a+c=b+d:=h▸k▸rfl
theorem ei {a b c d:Int} (h:a=b) (k:c=d):a+c=b+d:=h▸k▸rfl
theorem aS {a0 b0 c d:Nat} (h0:a0<=b0) (e:c+b0<=d+a0:=by ac_rfl):c<=d:=Nat.le_of_add_le_add_right<|bO e<|ES h0 d
theorem n6 {a0 b0:Nat} {p:Prop} (h0:a0<=b0) (e:b0+1<=a0:=by ac_rfl):p:=QIe (bO e h0)<|Nat.not_succ_le_self b0
theorem bB {a0 b0 a1 b1 c d:Nat} (h0:a0<=b0) (h1:a1<=b1) (e:c+(b0+b1)<=d+(a0+a1):=by ac_rfl):c<=d:=aS (kI h0 h1) e
theorem dC {a0 b0 a1 b1:Nat} {p:Prop} (h0:a0<=b0) (h1:a1<=b1) (e:b0+b1+1<=a0+a1:=by ac_rfl):p:=n6 (kI h0 h1) e
theorem qj {a0 b0 a1 b1 c d:Nat} (h0:a0=b0) (h1:a1=b1) (e:c+(b0+b1)=d+(a0+a1):=by ac_rfl):c=d:=by subst h0;subst h1;show QFv e
theorem bR {a0 b0 c d:Int} (h0:a0<=b0) (e:c+b0<=d+a0:=by ac_rfl):c<=d:=Int.le_of_add_le_add_right<|lN e<|Int.add_le_add_left h0 d
theorem bN {a0 b0 a1 b1 c d:Int} (h0:a0<=b0) (h1:a1<=b1) (e:c+(b0+b1)<=d+(a0+a1):=by ac_rfl):c<=d:=bR (Qy h0 h1) e
theorem gX {a0 b0 a1 b1:Int} {p:Prop} (h0:a0<=b0) (h1:a1<=b1) (e:b0+b1+1<=a0+a1:=by ac_rfl):p:=QIe (lN e<|Qy h0 h1)<|As.mpr<|Int.lt_succ _
theorem r8 {a0 b0 c d:Int} (h0:a0=b0) (e:c+b0=d+a0:=by ac_rfl):c=d:=by subst h0;show (QFw _).mp e
theorem nL {a b:Nat} (h:a=b):a<=b:=pZ h
theorem nR {a b:Nat} (h:a=b):b<=a:=pZ h.symm
theorem iL {a b:Int} (h:a=b):a<=b:=QFx h
theorem iR {a b:Int} (h:a=b):b<=a:=QFx h.symm
theorem oL {a b:Nat} (h:a<=b):(a:Int)<=b:=su.mpr h
theorem oZ (n:Nat):(0:Int)<=n:=cT n
theorem sL {a b:Nat} (h:b<=a):a - b+b<=a:=pZ<|QFy h
theorem xg {a0 b0 c d:Nat} (h0:a0=b0) (e:c+b0=d+a0:=by ac_rfl):c=d:=by subst h0;show QFv e
theorem mI {a b:Int} (k:Nat) (h:a<=b):(k:Int)*a<=k*b:=vo h<|cT k
theorem oM {a b:Nat} (h:(a:Int)<=b):a<=b:=su.mp h
theorem dG (x:Nat) {c:Nat} (h:0<c):x+1<=x / c*c+c:=Nat.lt_div_mul_add h
theorem sE {a b:Nat} (h:b<=a):a - b+b=a:=QFy h
theorem o4 {k:Nat} (h:k=0\/k=1\/k=2\/k=3):k<4:=h.elim (λe=>e▸by ext) λh=>h.elim (λe=>e▸by ext) λh=>h.elim (λe=>e▸by ext) λh=>h▸by decide
theorem o8 {k:Nat} (h:k=0\/k=1\/k=2\/k=3\/k=4\/k=5\/k=6\/k=7):k<8:=h.elim (λe=>e▸by ext) λh=>h.elim (λe=>e▸by ext) λh=>h.elim (λe=>e▸by ext) λh=>h.elim (λe=>e▸by ext) λh=>h.elim (λe=>e▸by ext) λh=>h.elim (λe=>e▸by ext) λh=>h.elim (λe=>e▸by ext) λh=>h▸by decide
theorem o7 {s:Nat} (h:s=1\/s=2\/s=3\/s=4\/s=5\/s=6\/s=7):s<8:=h.elim (λe=>e▸by ext) λh=>h.elim (λe=>e▸by ext) λh=>h.elim (λe=>e▸by ext) λh=>h.elim (λe=>e▸by ext) λh=>h.elim (λe=>e▸by ext) λh=>h.elim (λe=>e▸by ext) λh=>h▸by decide
theorem o7p {s:Nat} (h:s=1\/s=2\/s=3\/s=4\/s=5\/s=6\/s=7):0<s:=h.elim (λe=>e▸by ext) λh=>h.elim (λe=>e▸by ext) λh=>h.elim (λe=>e▸by ext) λh=>h.elim (λe=>e▸by ext) λh=>h.elim (λe=>e▸by ext) λh=>h.elim (λe=>e▸by ext) λh=>h▸by decide
theorem n4 {k:Nat} (h:k<4):k=0\/k=1\/k=2\/k=3:=(by decide: ∀k,k<4->(k=0\/k=1\/k=2\/k=3)) k h
theorem n8 {k:Nat} (h:k<8):k=0\/k=1\/k=2\/k=3\/k=4\/k=5\/k=6\/k=7:=(by decide: ∀k,k<8->(k=0\/k=1\/k=2\/k=3\/k=4\/k=5\/k=6\/k=7)) k h
theorem n7 {s:Nat} (h:0<s) (k:s<8):s=1\/s=2\/s=3\/s=4\/s=5\/s=6\/s=7:=(n8 k).resolve_left<|sv h
theorem F8 (a:Nat): ¬ (a:Int)<0:=pb.mpr<|oZ a
theorem ND {a n:Nat} (h:a<=n):max 0 (min (if (a:Int)<0 then (a:Int)+(n:Nat) else (a:Int)) n)=(a:Int):=by rw[if_neg<|F8 a,Int.min_eq_left<|oL h,I7<|oZ a]
theorem Tb {a n:Nat} (h: ¬ a<=n):max 0 (min (if (a:Int)<0 then (a:Int)+(n:Nat) else (a:Int)) n)=(n:Int):=by rw[if_neg<|F8 a,Int.min_eq_right<|oL<|Nat.le_of_not_le h,I7<|oZ n]
theorem Qx {k n:Nat} (h:k<n):(0<=(if (k:Int)<0 then (k:Int)+(n:Nat) else (k:Int))/\(if (k:Int)<0 then (k:Int)+(n:Nat) else (k:Int))<n)/\(if (k:Int)<0 then (k:Int)+(n:Nat) else (k:Int)).toNat=k:=by rw[if_neg<|F8 k];show ⟨⟨oZ k,pd.mpr h⟩,rfl⟩
theorem W5 (L k:Nat):(L+(L+k)) / 2=L+k / 2:=by rw[<-sz,<-Qz,Nat.mul_add_div<|by ext]
theorem PJ (L k:Nat):((L:Int)+((L+k:Nat):Int)) / 2^da 1=((L+k / 2:Nat):Int):=QIh (Nat.cast (R:=Int))<|W5 L k
theorem h1I (h:Nat):(((2*h+1:Nat):Int)+1) / 2=((h+1:Nat):Int):=QIh (Nat.cast (R:=Int)) (QFz (h+1) (by ext):2*(h+1) / 2=h+1)
theorem O7 {a0 b0 a1 b1 c d:Int} (h0:a0=b0) (h1:a1=b1) (e:c+(b0+b1)=d+(a0+a1):=by ac_rfl):c=d:=by subst h0;subst h1;show (QFw _).mp e
theorem m4 {k:Nat} (h:k∈[0,1,2,3]):k<4:=(by decide: ∀k∈[0,1,2,3],k<4) k h
theorem m8 {k:Nat} (h:k∈[0,1,2,3,4,5,6,7]):k<8:=(by decide: ∀k∈[0,1,2,3,4,5,6,7],k<8) k h
theorem m7 {k:Nat} (h:k∈[1,2,3,4,5,6,7]):k<8:=(by decide: ∀k∈[1,2,3,4,5,6,7],k<8) k h
theorem Fw {k:Nat} (h:k∈[1,2,3,4,5,6,7]):0<k:=(by decide: ∀k∈[1,2,3,4,5,6,7],0<k) k h
theorem l8 {k:Nat} (h:k<8):k∈[0,1,2,3,4,5,6,7]:=(by decide: ∀k,k<8->k∈[0,1,2,3,4,5,6,7]) k h
theorem l7 {k:Nat} (h:0<k) (i:k<8):k∈[1,2,3,4,5,6,7]:=(by decide: ∀k,k<8->0<k->k∈[1,2,3,4,5,6,7]) k i h
local macro_rules | `(tactic|erw[$t:term])=> `(tactic|refine sb $t ?_)| `(tactic|erw[<- $t:term])=> `(tactic|refine dA $t ?_)
inductive V|d (x:Dat)|bor (i:Nat)|inst|emp
inductive Sl|unb|val (x:Dat)|own (xs:List Dat)|ali (j:Nat)|inst|clo (f:Nat)|grid (n:Nat)|emp
abbrev cU:=Nat->Sl
noncomputable def upd (r:cU) (i:Nat) (s:Sl):cU:=λj=>if j=i then s else r j
noncomputable def bC:Nat:=1000000
noncomputable def cG:Nat:=1000001
noncomputable def nq (i r:Nat):Nat:=2000000+100*i+r
inductive cB|one (i:Nat)|tup (is:List Nat)
inductive Bi|len|sum|lZ|max2|zr|min2|abs|chr|ord|tv|vA|divmod
inductive Sm|lower|upper|swapcase|rstrip|wU|split|join|bits
inductive Fl|next|cont|ret (v:Dat)
abbrev Ls:=List<|Nat×Sl
noncomputable def aR:Ls->cU
 |[],_=>.unb
 |(j,s)::l,i=>bif dK j i then s else aR l i
noncomputable def dm:Ls->Nat->Sl->Ls
 |[],i,v=>[(i,v)]
 |(j,s)::l,i,v=>bif dK j i then (j,v)::l else (j,s)::dm l i v
structure dn where
 F:Nat->List aM->aM->Prop
 H:Nat->List aM->List aM->aM->List aM->Prop
 R:Nat->List aM->List aM->aM->Prop
 L:Nat->List aM->Ls->aM->Ls->Prop
 b1:Int->Bool
 b3:Int->aM
 gi:aN->Int->Prop
 gs:aN->aN->Prop
noncomputable def sF (x:aN):List Dat:=x.cps.toList.map λc=>aI ⟨#[c]⟩
inductive jP (r:cU):V->List aM->Prop
 |d {xs}:jP r (.d<|Dat.list xs) xs
 |bor {i xs}:r i=Sl.own xs->jP r (V.bor i) xs
inductive AH (r:cU):V->List aM->Prop
 |l {v xs}:jP r v xs->AH r v xs
 |t {xs}:AH r (.d<|Dat.tuple xs) xs
inductive xW (r:cU):V->List aM->Prop
 |q {v xs}:AH r v xs->xW r v xs
 |s {x}:xW r (.d<|Dat.str x) (sF x)
noncomputable abbrev ib (a:Int):Nat:=I8 a
inductive mD:jY->Int->Int->Int->Prop
 |add {a b}:mD Operator.Add a b (a+b)
 |sub {a b}:mD Operator.Sub a b (a - b)
 |mul {a b}:ib a+ib b<=134217728->mD Operator.Mult a b (a*b)
 |fdiv {a b}:b≠0->Builtin.divisionGoesByPylong a b=false->mD Operator.FloorDiv a b (a.fdiv b)
 |fmod {a b}:b≠0->mD Operator.Mod a b (a.fmod b)
 |pow {a b}:0<=b->(ib a:Int)*b<=134217728->mD Operator.Pow a b (a^b.toNat)
 |shl {a b}:0<=b->(ib a:Int)+b<=134217728->mD Operator.LShift a b (a*2^b.toNat)
 |shr {a b}:0<=b->mD Operator.RShift a b (a.fdiv<|2^b.toNat)
 |and {a b}:mD Operator.BitAnd a b (Builtin.bitAnd a b)
 |or {a b}:mD Operator.BitOr a b (Builtin.bitOr a b)
 |xor {a b}:mD Operator.BitXor a b (Builtin.bitXor a b)
inductive d7 (r:cU):jY->V->V->aM->Prop
 |int {op a b c}:mD op a b c->d7 r op (.d<|Dat.int a) (.d<|Dat.int b) (Dat.int c)
 |cat {x y}:x.length+y.length<=16777216->d7 r Operator.Add (.d<|Dat.str x) (.d<|Dat.str y) (Dat.str<|x++y)
 |rep {x n}:x.length<=4096->n<=4096-> -4096<=n->d7 r Operator.Mult (.d<|Dat.str x) (.d<|Dat.int n) (Dat.str<|Txt.mul x n)
 |mul {v xs n}:jP r v xs->xs.length*n.toNat<=256->n<2^63-> -(2^63)<=n->d7 r Operator.Mult v (.d<|Dat.int n) (Dat.list (List.replicate n.toNat xs).flatten)
 |add {v w xs ys}:jP r v xs->jP r w ys->xs.length+ys.length<=16777216->d7 r Operator.Add v w (Dat.list<|xs++ys)
def tN (xs:List aM):Prop:=xs.all (gr 8)=aC
inductive sj:jF->Int->Int->Bool->Prop
 |eq {a b}:sj CmpOp.Eq a b (a==b)
 |ne {a b}:sj CmpOp.NotEq a b (a !=b)
 |lt {a b}:sj CmpOp.Lt a b (decide (a<b))
 |le {a b}:sj CmpOp.LtE a b (decide (a<=b))
 |gt {a b}:sj CmpOp.Gt a b (decide (a>b))
 |ge {a b}:sj CmpOp.GtE a b (decide (a>=b))
inductive tY (p:Prop):jF->Bool->Prop
 |eqT:p->tY p CmpOp.Eq true
 |xI: ¬ p->tY p CmpOp.Eq false
 |neT: ¬ p->tY p CmpOp.NotEq true
 |CP:p->tY p CmpOp.NotEq false
inductive xP (p:Prop):jF->Bool->Prop
 |TA:p->xP p CmpOp.In true
 |inF: ¬ p->xP p CmpOp.In false
 |niT: ¬ p->xP p CmpOp.NotIn true
 |S0:p->xP p CmpOp.NotIn false
inductive f9 (r:cU):jF->V->V->Bool->Prop
 |int {op a b c}:sj op a b c->f9 r op (.d<|Dat.int a) (.d<|Dat.int b) c
 |str {op x y c}:tY (x=y) op c->f9 r op (.d<|Dat.str x) (.d<|Dat.str y) c
 |inl {op x w ys c}:jP r w ys->tN ys->kqdOk 8 x=true->xP (x∈ys) op c->f9 r op (.d x) w c
 |tup {op xs ys c}:tN xs->tN ys->tY (xs=ys) op c->f9 r op (.d<|Dat.tuple xs) (.d<|Dat.tuple ys) c
 |lst {op v w xs ys c}:jP r v xs->jP r w ys->tN xs->tN ys->tY (xs=ys) op c->f9 r op v w c
inductive oz (r:cU):V->Bool->Prop
 |none:oz r (.d Dat.none) false
 |bool {b}:oz r (.d<|Dat.bool b) b
 |int {i:Int}:oz r (.d<|Dat.int i) (i !=0)
 |str {x:Str}:x.length<=16777216->oz r (.d<|Dat.str x) (x.length !=0)
 |lst {v xs}:jP r v xs->xs.length<=16777216->oz r v (!xs.isEmpty)
noncomputable def F9 (a:Int) (r:List Int):Int:=r.foldl (λm x=>if x>m then x else m) a
noncomputable def M9 (a:Int) (r:List Int):Int:=r.foldl (λm x=>if x<m then x else m) a
inductive cy (r:cU):Bi->List V->aM->Prop
 |kX {x:Str}:x.length<2^63->cy r .len [.d<|Dat.str x] (Dat.int x.length)
 |oo {v xs}:AH r v xs->xs.length<2^63->cy r .len [v] (Dat.int xs.length)
 |sum {v} {ns:List Int}:jP r v (ns.map Dat.int)->cy r .sum [v] (Dat.int ns.sum)
 |lZ {v a} {ns:List Int}:jP r v ((a::ns).map Dat.int)->cy r .lZ [v] (Dat.int<|F9 a ns)
 |zr {v a} {ns:List Int}:jP r v ((a::ns).map Dat.int)->cy r .zr [v] (Dat.int<|M9 a ns)
 |max2 {a b:Int}:cy r .max2 [.d<|Dat.int a,.d<|Dat.int b] (Dat.int<|if b>a then b else a)
 |min2 {a b:Int}:cy r .min2 [.d<|Dat.int a,.d<|Dat.int b] (Dat.int<|if b<a then b else a)
 |abs {a:Int}:cy r .abs [.d<|Dat.int a] (Dat.int<|if a<0 then -a else a)
 |chr {a:Int}:0<=a->a<=1114111->cy r .chr [.d<|Dat.int a] (Dat.str ⟨#[a.toNat]⟩)
 |ord {x:Str}:x.length=1->cy r .ord [.d<|Dat.str x] (Dat.int (x.cps.getD 0 0:Nat))
 |tv {a:Int}:a.natAbs<10^10->cy r .tv [.d<|Dat.int a] (Dat.str<|Str.ofString<|toString a)
 |vA {x i}:x.length<=640->PySem.intText? x=some i->cy r .vA [.d<|Dat.str x] (Dat.int i)
 |divmod {a b:Int}:b≠0->Builtin.divisionGoesByPylong a b=false->cy r .divmod [.d<|Dat.int a,.d<|Dat.int b] (Dat.tuple [Dat.int<|a.fdiv b,Dat.int<|a.fmod b])
inductive j8 (r:cU):Sm->V->List V->aM->Prop
 |lower {x}:x.length<=5592405->j8 r .lower (.d<|Dat.str x) [] (Dat.str<|Txt.lower x)
 |upper {x}:x.length<=5592405->j8 r .upper (.d<|Dat.str x) [] (Dat.str<|Txt.upper x)
 |swapcase {x}:x.length<=5592405->j8 r .swapcase (.d<|Dat.str x) [] (Dat.str<|Txt.swapcase x)
 |rstrip {x}:x.length<=16777216->j8 r .rstrip (.d<|Dat.str x) [] (Dat.str<|Txt.rstrip x)
 |wU {x y}:x.length<=16777216->j8 r .wU (.d<|Dat.str x) [.d<|Dat.str y] (Dat.str<|Txt.lstripChars x y)
 |split {x y}:x.length<=16777000->y.length≠0->j8 r .split (.d<|Dat.str x) [.d<|Dat.str y] (Dat.list<|(Txt.split x y).map Dat.str)
 |join {x v} {ts:List Str}:jP r v (ts.map Dat.str)->JoinOk x ts->j8 r .join (.d<|Dat.str x) [v] (Dat.str<|Txt.join x ts)
 |bits {a}:j8 r .bits (.d<|Dat.int a) [] (Dat.int<|ib a)
inductive cN (r:cU):V->Int->aM->Prop
 |str {x:Str} {k:Int}: -(x.length:Int)<=k->k<x.length->x.length<2^63->cN r (.d<|Dat.str x) k (Dat.str<|Txt.item x k)
 |seq {v xs k j d}:AH r v xs->(xs.length:Int)<2^63->seqIndex? k xs.length=some j->xs[j]?=some d->cN r v k d
inductive qV:V->Option Int->Prop
 |none:qV (.d Dat.none) none
 |int {i}:qV (.d<|Dat.int i) (some i)
noncomputable def pJ (xs:List aM) (l h s:Option Int):List Dat:=(ET (mM l h s xs.length).1 (mM l h s xs.length).2.1 (mM l h s xs.length).2.2).filterMap λ(k:Nat)=>xs[k]?
inductive fx (r:cU):V->V->V->V->aM->Prop
 |str {x a b l h}:qV a l->qV b h->x.length<=16777216->fx r (.d<|Dat.str x) a b (.d Dat.none) (Dat.str<|Txt.slice x l h)
 |lst {v xs a b c l h s}:jP r v xs->qV a l->qV b h->qV c s->s≠some 0->xs.length<=16777216->fx r v a b c (Dat.list<|pJ xs l h s)
def qQ (t:cB) (x:aM) (r:cU):Option cU:=
 match t with
 |.one i=>aA<|upd r i<|Sl.val x
 |.tup o=>match x with
  |.tuple R|.list R=>if R.length=o.length then aA ((o.zip R).foldl (λr p=>upd r p.1<|Sl.val p.2) r) else aE
  |_=>aE
def xk (s:Sl):Sl:=match s with
 |.clo _=>.unb
 |s=>s
def kU (r:cU):cU:=λi=>if i=cG then .unb else xk (r i)
def hW (t:cB) (r:cU):cU:=match t with
 |.one i=>upd r i .unb
 |.tup o=>o.foldl (λr i=>upd r i .unb) r
noncomputable def gU (b:Bool) (x:aN):Bool:=x.cps.all λc=>if b then !(decide (c<=31)||c==127) else !(decide (c<=8)||(decide (10<=c) && decide (c<=31))||c==127)
def lz (r:cU) (i:Nat):Option V:=match r i with|.val x=>aA (V.d x)|.own _=>aA (V.bor i)|.ali j=>aA (V.bor j)|.inst=>aA V.inst|.emp=>aA V.emp|_=>aE
theorem r7 (h: ¬ j=i):dK j i=false:=yB.mpr λq=>h<|vp q
theorem i9 (l:Ls) (i:Nat) (v:Sl):aR (dm l i v)=upd (aR l) i v:=by
 funext k;induction l with
 |nil=>
  unfold upd;by_cases h:k=i
  ·show dA h<|sb (if_pos rfl)<|(?_:cond (Nat.beq k k) _ _=_)
   rw[EU];rfl
  ·show sb (QIf h)<|(?_:cond (Nat.beq i k) _ _=_)
   erw[r7 λq=>h q.symm];rfl
 |cons p l d=>
  obtain ⟨j,s⟩:=p;change aR (cond (dK j i) _ _) k=ite _ _ (cond (dK j k) _ _);by_cases h:j=i
  ·erw[<-h]
   rw[EU];show (?_:cond (dK j k) _ _=_);by_cases q:k=j
   ·erw[q]
    rw[EU,if_pos rfl];rfl
   ·show sb (r7 λQ=>q Q.symm)<|sb (if_neg q) ?_
    rfl
  ·show sb (r7 h)<|(?_:cond (Nat.beq j k) _ (aR (dm l i v) k)=_)
   by_cases q:j=k
   ·erw[<-q]
    rw[EU,if_neg h];rfl
   ·show sb (r7 q)<|sb d ?_
    rfl
def zV (t:cB) (x:aM) (l:Ls) (K:Ls->Prop):Prop:=
 match t with
 |.one i=>K<|dm l i<|Sl.val x
 |.tup o=>match x with
  |.tuple R|.list R=>R.length=o.length/\K ((o.zip R).foldl (λl p=>dm l p.1<|Sl.val p.2) l)
  |_=>False
theorem HP {α:Type} (f:α->Nat×Sl): ∀(ps:List α) (l:Ls),aR (ps.foldl (λl p=>dm l (f p).1 (f p).2) l)=ps.foldl (λr p=>upd r (f p).1 (f p).2) (aR l):=by
 intro O;induction O with
 |nil=>show λl=>rfl
 |cons p ps i=>show λl=>(i _).trans (by rw[i9];rfl)
inductive er {α:Type} (R:α->Prop) (K:α->Prop):Prop|mk {a}:R a->K a->er R K
theorem zD {K:Ls->Prop} (h:zV t x l K):er (λL=>qQ t x (aR l)=aA (aR L)) K:=by
 have f: ∀(o:List Nat) (R:List aM),(R.length=o.length/\K ((o.zip R).foldl (λl p=>dm l p.1<|Sl.val p.2) l))->
  er (λL=>(if R.length=o.length then aA ((o.zip R).foldl (λr p=>upd r p.1<|Sl.val p.2)<|aR l) else aE)=aA (aR L)) K:=λo R h=>
  .mk (by erw[if_pos h.1];show QIh aA (HP (λp:Nat×aM=>(p.1,Sl.val p.2)) _ l).symm) h.2
 induction t with
 |one i=>show .mk (QIh aA (i9 l i _).symm) h
 |tup o=>
  cases x with
  |tuple R=>show f o R h
  |list R=>show f o R h
  |_=>show h.elim
def rn (l:Ls):Ls:=l.map λp=>(p.1,bif dK p.1 cG then .unb else xk p.2)
theorem Zi (f:Nat->Sl->Sl) (F: ∀i,f i .unb=.unb) (l:Ls) (i:Nat):aR (l.map λp=>(p.1,f p.1 p.2)) i=f i (aR l i):=by
 induction l with
 |nil=>show (F i).symm
 |cons p l d=>
  show (?_:cond (dK p.1 i) _ _=f i (cond (dK p.1 i) _ _));induction q:dK p.1 i with
  |true=>erw[vp q];rfl
  |false=>show d
theorem QFH (l:Ls):aR (rn l)=kU (aR l):=by
 funext i;show (Zi (λi s=>bif dK i cG then .unb else xk s) (λi=>by cases dK i cG<;>rfl) l i).trans ?_;unfold kU;by_cases h:i=cG
 ·erw[h]
  rfl
 ·show sb (QIf h)<|sb (r7 h) ?_
  rfl
def sH (t:cB) (l:Ls):Ls:=match t with
 |.one i=>dm l i .unb
 |.tup o=>o.foldl (λl i=>dm l i .unb) l
theorem YW (t:cB) (l:Ls):aR (sH t l)=hW t (aR l):=by
 induction t with
 |one i=>show i9 ..
 |tup o=>show HP (λi=>(i,.unb)) o l
def jU:V->Option Int|.d (.int i)=>aA i|_=>aE
theorem wj (h:jU v=aA i):v=.d (aB i):=by
 induction v with
 |d x=>cases x<;>cases h;rfl
 |_=>show bM h
def jz {α:Type} (x:Option α) (f:α->Prop) (g:Prop):Prop:=match x with|some a=>f a|none=>g
theorem rq {α:Type} {x:Option α} {f:α->Prop} {g:Prop} (h:jz x f g):(∃a,x=aA a/\f a)\/g:=by
 induction x with
 |none=>show .inr h
 |some a=>show .inl<|bJ a rfl h
def Iu (op:jY) (a b:Int) (K:Int->Prop):Prop:=match op with
 |.Add=>K<|a+b
 |.Sub=>K<|a - b
 |.Mult=>ib a+ib b<=134217728/\K (a*b)
 |.FloorDiv=>b≠0/\lO a b=aD/\K (a.fdiv b)
 |.Mod=>b≠0/\K (a.fmod b)
 |.Pow=>0<=b/\(ib a:Int)*b<=134217728/\K (a^b.toNat)
 |.LShift=>0<=b/\(ib a:Int)+b<=134217728/\K (a*2^b.toNat)
 |.RShift=>0<=b/\K (a.fdiv<|2^b.toNat)
 |.BitAnd=>K<|jG a b
 |.BitOr=>K<|vq a b
 |.BitXor=>K<|EV a b
 |_=>False
theorem Ww {K} (h:Iu op a b K):er (mD op a b) K:=by
 induction op with
 |Add=>show .mk .add h
 |Sub=>show .mk .sub h
 |Mult=>show .mk (.mul h.1) h.2
 |FloorDiv=>show .mk (.fdiv h.1 h.2.1) h.2.2
 |Mod=>show .mk (.fmod h.1) h.2
 |Pow=>show .mk (.pow h.1 h.2.1) h.2.2
 |LShift=>show .mk (.shl h.1 h.2.1) h.2.2
 |RShift=>show .mk (.shr h.1) h.2
 |BitAnd=>show .mk .and h
 |BitOr=>show .mk .or h
 |BitXor=>show .mk .xor h
 |_=>show h.elim
def GV (l:Ls) (op:jY) (u w:V) (K:aM->Prop):Prop:=jz (jU u) (λa=>jz (jU w) (λb=>Iu op a b λc=>K<|aB c)<|er (d7 (aR l) op u w) K)<|er (d7 (aR l) op u w) K
theorem OY {u w:V} {K} (h:GV l op u w K):er (d7 (aR l) op u w) K:=by
 rcases rq h with ⟨a,x,h⟩|h
 ·rcases rq h with ⟨b,e,h⟩|h
  ·induction Ww h with|mk H h=>simp only[wj x,wj e];show .mk (.int H) h
  ·show h
 ·show h
def Ha (op:jF) (a b:Int) (K:Bool->Prop):Prop:=match op with
 |.Eq=>K<|a==b
 |.NotEq=>K<|a !=b
 |.Lt=>K<|decide (a<b)
 |.LtE=>K<|decide (a<=b)
 |.Gt=>K<|decide (a>b)
 |.GtE=>K<|decide (a>=b)
 |_=>False
theorem QAb {K} (h:Ha op a b K):er (sj op a b) K:=by
 induction op with
 |Eq=>show .mk .eq h
 |NotEq=>show .mk .ne h
 |Lt=>show .mk .lt h
 |LtE=>show .mk .le h
 |Gt=>show .mk .gt h
 |GtE=>show .mk .ge h
 |_=>show h.elim
def DR (l:Ls) (op:jF) (u w:V) (K:Bool->Prop):Prop:=jz (jU u) (λa=>jz (jU w) (λb=>Ha op a b K)<|er (f9 (aR l) op u w) K)<|er (f9 (aR l) op u w) K
theorem Mo {u w:V} {K} (h:DR l op u w K):er (f9 (aR l) op u w) K:=by
 rcases rq h with ⟨a,x,h⟩|h
 ·rcases rq h with ⟨b,e,h⟩|h
  ·induction QAb h with|mk H h=>simp only[wj x,wj e];show .mk (.int H) h
  ·show h
 ·show h
def qt (v:V) (K:Int->Prop):Prop:=jz (jU v) K False
theorem Uk {K} (h:qt v K):er (λi=>v=.d (aB i)) K:=(rq h).elim (λq=>q.elim λO q=>.mk (wj q.1) q.2) ph
def zg:V->Option aN|.d (.str i)=>aA i|_=>aE
theorem QX (h:zg v=aA i):v=.d (aI i):=by
 induction v with
 |d x=>cases x<;>cases h;rfl
 |_=>show bM h
def F5 (v:V) (K:aN->Prop):Prop:=jz (zg v) K False
theorem QY {K} (h:F5 v K):er (λi=>v=.d (aI i)) K:=(rq h).elim (λq=>q.elim λO q=>.mk (QX q.1) q.2) ph
def ll:V->Option aM|.d d=>aA d|_=>aE
def kY (v:V) (K:aM->Prop):Prop:=jz (ll v) K False
theorem lq {K} (h:kY v K):er (λi=>v=.d i) K:=by
 induction v with
 |d x=>show .mk rfl h
 |_=>show h.elim
def HE (l:Ls) (i:Nat) (K:V->Prop):Prop:=jz (lz (aR l) i) K False
theorem QDb {K} (h:HE l i K):er (λv=>lz (aR l) i=aA v) K:=(rq h).elim (λq=>q.elim λO q=>.mk q.1 q.2) ph
def jW:Sl->Option (List aM)|.own xs=>aA xs|_=>aE
theorem Od {i} (h:jW v=aA i):v=Sl.own i:=by cases v<;>cases h;rfl
def kf (l:Ls) (i:Nat) (K:List aM->Prop):Prop:=jz (jW<|aR l i) K False
theorem lE {K} (h:kf l i K):er (λv=>aR l i=Sl.own v) K:=(rq h).elim (λq=>q.elim λO q=>.mk (Od q.1) q.2) ph
theorem iD {p:Prop} {d:Decidable p} (h:decide p=aC):p:=QIm h
abbrev E:=dn->Ls->(V->Ls->Prop)->Prop
abbrev T:=dn->Ls->(Bool->Ls->Prop)->Prop
abbrev I:=dn->Bool->Ls->(List aM->Ls->Prop)->Prop
abbrev S:=dn->Ls->(Fl->Ls->Prop)->Prop
def lW:List E->dn->Ls->(List V->Ls->Prop)->Prop
 |[],_,l,K=>K [] l
 |e::es,o,l,K=>e o l λv l=>lW es o l λm l=>K (v::m) l
def y3:List V->(List aM->Prop)->Prop
 |[],K=>K []
 |v::vs,K=>kY v λd=>y3 vs λA=>K<|d::A
theorem QAs: ∀{vs:List V} {K},y3 vs K->er (λds=>vs=ds.map .d) K:=by
 intro vs;induction vs with
 |nil=>show λh=>.mk rfl h
 |cons v vs i=>
  show λh=>by
   induction lq h with
   |mk e h=>induction i h with|mk u h=>show .mk (by simp only[e,u];rfl) h
def dW (es:List E) (o:dn) (l:Ls) (K:List aM->Ls->Prop):Prop:=lW es o l λv l=>y3 v λd=>K d l
def two (b:Bool) (p q:Prop):Prop:=b=aC/\p\/b=aD/\q
def aW:List T->T
 |[],_,l,K=>K aC l
 |t::ts,o,l,K=>t o l λz l=>two z (aW ts o l K)<|K aD l
def cW (elt:E) (t:cB) (cs:List T) (o:dn) (l:Ls):List aM->(List aM->Prop)->Prop
 |[],K=>K []
 |x::xs,K=>zV t x l λL=>aW cs o L λz A=>aR A=aR L/\two z (elt o L λv A=>aR A=aR L/\kY v λy=>cW elt t cs o l xs λY=>K<|y::Y) (cW elt t cs o l xs K)
def tu (op:mO):Bool:=match op with|.And=>aD|.Or=>aC
def FY (op:mO) (b:Bool) (p q:Prop):Prop:=b=tu op/\p\/b=(!tu op)/\q
def bW (op:mO):List E->E
 |[],_,_,_=>False
 |[e],o,l,K=>e o l K
 |e::es,o,l,K=>e o l λv l=>er (oz (aR l) v) λb=>FY op b (K v l)<|bW op es o l K
def Dn (op:mO):List T->T
 |[],_,l,K=>K (!tu op) l
 |t::ts,o,l,K=>t o l λb l=>FY op b (K (tu op) l)<|Dn op ts o l K
def E.none:E:=λO l K=>K (.d br) l
def E.bool (b:Bool):E:=λO l K=>K (.d<|fI b) l
def E.int (i:Int):E:=λO l K=>K (.d<|aB i) l
def E.str (x:aN):E:=λO l K=>K (.d<|aI x) l
def E.bL (i:Nat):E:=λO l K=>HE l i λv=>K v l
def E.rW (i:Nat):E:=λO l K=>kf l i λx=>K (.d<|aK x)<|dm l i .unb
def E.aL (op:jY) (a b:E):E:=λo l K=>a o l λu l=>b o l λw l=>GV l op u w λd=>K (.d d) l
def E.neg (a:E):E:=λo l K=>a o l λu l=>qt u λi=>K (.d<|aB (-i)) l
def E.inv (a:E):E:=λo l K=>a o l λu l=>qt u λi=>K (.d<|aB<|QGA i) l
def E.cmp (op:jF) (a b:E):E:=λo l K=>a o l λu l=>b o l λw l=>DR l op u w λc=>K (.d<|fI c) l
def E.eH (op:mO) (es:List E):E:=bW op es
def E.ite (c:T) (a b:E):E:=λo l K=>c o l λz l=>two z (a o l K)<|b o l K
def E.list (es:List E):E:=λo l K=>dW es o l λx l=>iF x.length 16777216=aC/\K (.d<|aK x) l
def E.tup (es:List E):E:=λo l K=>dW es o l λx l=>iF x.length 16777216=aC/\K (.d<|bw x) l
def E.comp (elt:E) (t:cB) (it:I) (cs:List T):E:=λo l K=>it o aD l λx l=>x.length<=16777216/\cW elt t cs o (sH t<|rn l) x λY=>K (.d<|aK Y) l
def E.bA (a i:E):E:=λo l K=>a o l λu l=>i o l λk l=>qt k λk=>er (cN (aR l) u k) λd=>K (.d d) l
def E.d9 (a L i st:E):E:=λo l K=>a o l λu l=>L o l λx l=>i o l λy l=>st o l λz l=>er (fx (aR l) u x y z) λd=>K (.d d) l
def E.call (f:Nat) (es:List E):E:=λo l K=>dW es o l λx l=>er (o.F f x) λz=>K (.d z) l
inductive zZ {α β:Type} (R:α->β->Prop) (K:α->β->Prop):Prop|mk {a b}:R a b->K a b->zZ R K
def E.kA (f i:Nat) (es:List E):E:=λo l K=>aR l i=.clo f/\dW es o l λx l=>zZ (o.L f x l) λz l=>K (.d z) l
def E.bi (b:Bi) (es:List E):E:=λo l K=>lW es o l λv l=>er (cy (aR l) b v) λd=>K (.d d) l
def Fg (m:Sm) (v:V):Prop:=match m with|.bits=> ∃i,v=.d (aB i)|_=> ∃x,v=.d (aI x)
def E.sm (m:Sm) (a:E) (es:List E):E:=λo l K=>a o l λu l=>Fg m u/\lW es o l λv l=>er (j8 (aR l) m u v) λd=>K (.d d) l
def E.sU (a:E) (y z:aN):E:=λo l K=>a o l λu l=>F5 u λx=>x.length<=4096/\y.length=1/\z.length=0/\K (.d<|aI<|EX x y z) l
def LC (v:V) (K:Bool->Prop):Prop:=kY v λd=>d=br/\K aC\/d≠br/\K aD
def E.ig (neg:Bool) (a:E):E:=λo l K=>a o l λu l=>LC u λb=>K (.d<|fI<|b !=neg) l
def E.rg (a:E):E:=λo l K=>a o l λu l=>qt u λi=>K (.d<|fI<|o.b1 i) l
def E.si (a:E):E:=λo l K=>a o l λu l=>qt u λi=>K (.d<|o.b3 i) l
def E.sG (x:aN):E:=λo l K=>er (o.gi x) λi=>K (.d<|aB i) l
def Bg (v:V) (K:Prop):Prop:=match v with|.inst=>K|_=>False
theorem ER {K:Prop} (h:Bg v K):v=V.inst/\K:=by cases v<;>first|show ⟨rfl,h⟩|show h.elim
def E.kZ (k:Nat) (a:E) (es:List E):E:=λo l K=>a o l λu l=>Bg u<|dW es o l λx l=>kf l bC λA=>aR l cG=Sl.emp/\zZ (o.H k x A) λz s=>K (.d z)<|dm l bC<|Sl.own s
def E.ly (k:Nat) (a:E) (es:List E):E:=λo l K=>a o l λu l=>Bg u<|dW es o l λx l=>kf l bC λs=>er (o.R k x s) λz=>K (.d z) l
def E.conv (b:Bool) (a:E):E:=λo l K=>aR l 0=Sl.inst/\a o l λu l=>F5 u λx=>gU b x=aC/\K (.d<|aI x) l
def E.gL:E:=λO l K=>aR l 0=Sl.inst/\K (V.bor bC) l
def T.not (t:T):T:=λo l K=>t o l λb l=>K (!b) l
def T.eH (op:mO) (ts:List T):T:=Dn op ts
def T.bL (i:Nat):T:=λO l K=>HE l i λv=>er (oz (aR l) v) λb=>K b l
def T.cmp (op:jF) (a b:E):T:=λo l K=>a o l λu l=>b o l λw l=>DR l op u w λc=>K c l
def T.ig (neg:Bool) (a:E):T:=λo l K=>a o l λu l=>LC u λb=>K (b !=neg) l
def T.gK (neg b:Bool) (a:E):T:=λo l K=>a o l λu l=>kY u λd=> ∃c,d=fI c/\K ((c==b) !=neg) l
def T.rZ (a:E):T:=λo l K=>a o l λu l=>qt u λO=>K aD l
def I.fv (a:E):I:=λo O l K=>dW [a] o l λd l=> ∃n:Int,d=[aB n]/\n<2^24/\ -(2^24)<n/\K ((cg n.toNat).map λ(i:Nat)=>aB (i:Int)) l
def I.rm (a b:E):I:=λo O l K=>dW [a,b] o l λd l=> ∃m n:Int,d=[aB m,aB n]/\n<2^24/\ -(2^24)<n/\m<2^24/\ -(2^24)<m/\K ((cg (n - m).toNat).map λ(i:Nat)=>aB<|m+(i:Int)) l
def I.rev (a:E):I:=λo O l K=>dW [a] o l λd l=> ∃x,d=[aK x]/\K x.reverse l
def I.bL (i:Nat):I:=λO f l K=>match aR l i with
 |.val x=>er (xW (aR l)<|.d x) λR=>K R l
 |.own R=>f=aD/\K R l
 |_=>False
def I.m9 (e:E):I:=λo O l K=>e o l λv l=>kY v λd=>er (xW (aR l)<|.d d) λx=>K x l
def I.list (es:List E):I:=I.m9<|.list es
def I.bA (a i:E):I:=I.m9<|.bA a i
def I.d9 (a l i st:E):I:=I.m9<|.d9 a l i st
def I.gL:I:=λO f l K=>aR l 0=Sl.inst/\(f=aC->aR l cG≠Sl.emp)/\kf l bC λx=>K x l
inductive x9:jY->Int->Int->Int->Prop
 |add {a b}:x9 Operator.Add a b (a+b)
 |sub {a b}:x9 Operator.Sub a b (a - b)
 |shl {a b}:0<=b->(ib a:Int)+b<=134217728->x9 Operator.LShift a b (a*2^b.toNat)
 |shr {a b}:0<=b->x9 Operator.RShift a b (a.fdiv<|2^b.toNat)
def UW (f:Fl) (p:Prop) (K:Fl->Prop):Prop:=match f with|.next=>p|f=>K f
def sW:List S->S
 |[],_,l,K=>K Fl.next l
 |s::ss,o,l,K=>s o l λf l=>UW f (sW ss o l K) λf=>K f l
def CD (f:Fl) (p:Prop) (K:aM->Prop):Prop:=match f with|.ret v=>K v|_=>p
def fW (t:cB) (b:List S) (o:dn):List aM->Ls->(Fl->Ls->Prop)->Prop
 |[],l,K=>K Fl.next l
 |x::xs,l,K=>zV t x l λL=>sW b o L λf l=>CD f (fW t b o xs l K) λv=>K (Fl.ret v) l
def wW (c:T) (b:List S) (o:dn):Nat->Ls->(Fl->Ls->Prop)->Prop
 |0,_,_=>False
 |n+1,l,K=>c o l λz l=>two z (sW b o l λf l=>CD f (wW c b o n l K) λv=>K (Fl.ret v) l)<|K Fl.next l
inductive yu (r:cU):V->aM->Prop
 |d {x}:yu r (.d x) x
 |bor {i xs}:i≠bC->r i=Sl.own xs->yu r (V.bor i) (Dat.list xs)
def vg (d:aM):Bool:=match d with
 |.tuple [.str x,.str y]=>gU aC x && gU aD y
 |_=>aD
def S.asg (t:cB) (e:E):S:=λo l K=>e o l λv l=>kY v λx=>zV t x l λl=>K Fl.next l
def S.own (i:Nat) (e:E):S:=λo l K=>e o l λv l=>kY v λx=> ∃R,x=aK R/\K Fl.next (dm l i<|Sl.own R)
def FV (op:jY) (a b:Int) (K:Int->Prop):Prop:=match op with
 |.Add=>K<|a+b
 |.Sub=>K<|a - b
 |.LShift=>0<=b/\(ib a:Int)+b<=134217728/\K (a*2^b.toNat)
 |.RShift=>0<=b/\K (a.fdiv<|2^b.toNat)
 |_=>False
theorem w_ {K} (h:FV op a b K):er (x9 op a b) K:=by
 induction op with
 |Add=>show .mk .add h
 |Sub=>show .mk .sub h
 |LShift=>show .mk (.shl h.1 h.2.1) h.2.2
 |RShift=>show .mk (.shr h.1) h.2
 |_=>show h.elim
def HV:Sl->Option Int|.val (.int i)=>aA i|_=>aE
theorem g_ {i} (h:HV v=aA i):v=Sl.val (aB i):=by
 induction v with
 |val x=>cases x<;>cases h;rfl
 |_=>show bM h
def S.aug (i:Nat) (op:jY) (e:E):S:=λo l K=>jz (HV<|aR l i) (λa=>e o l λv l=>qt v λb=>FV op a b λc=>K Fl.next (dm l i<|Sl.val<|aB c)) False
def S.expr (e:E):S:=λo l K=>e o l λv l=>kY v λx=>(x=br\/ ∃y,x=aI y)/\K Fl.next l
def S.app (i:Nat) (e:E):S:=λo l K=>kf l i λO=>e o l λv l=>kY v λx=>kf l i λR=>R.length<16777216/\K Fl.next (dm l i<|Sl.own<|R++[x])
def S.qe (e:E):S:=λo l K=>aR l 0=Sl.inst/\kf l bC λO=>e o l λv l=>kY v λx=>kf l bC λR=>aR l cG=Sl.emp/\R.length<16777216/\K Fl.next (dm l bC<|Sl.own<|R++[x])
def S.rT (e:E):S:=λo l K=>e o l λv l=>kY v λx=> ∃Y,x=aK Y/\aR l 0=Sl.inst/\kf l bC λR=>aR l cG=Sl.emp/\R.length+Y.length<=16777216/\K Fl.next (dm l bC<|Sl.own Y)
def S.sS (i:Nat):S:=λO l K=>kf l i λx=>x.length<=16777216/\K Fl.next (dm l i<|Sl.own x.reverse)
def S.set (i:Nat) (k e:E):S:=λo l K=>e o l λv l=>kY v λx=>kf l i λO=>k o l λj l=>qt j λj=>kf l i λR=>0<=j/\j<R.length/\R.length<2^63/\K Fl.next (dm l i<|Sl.own<|R.set j.toNat x)
def S.ri (b k:Nat):S:=λO l K=>kf l k λx=>aR l bC=.unb/\x.all vg=aC/\K Fl.next (dm (dm (dm (dm l bC<|Sl.own x) cG Sl.emp) k<|.ali bC) b Sl.inst)
def S.qx (b:Nat) (e:E):S:=λo l K=>aR l b=Sl.inst/\e o l λv l=>kY v λx=>kf l bC λA=>aR l cG=Sl.emp/\zZ (o.H 9 [x] A) λO s=>K Fl.next (dm l bC<|Sl.own s)
def S.cx (c:T) (a b:List S):S:=λo l K=>c o l λz l=>two z (sW a o l K)<|sW b o l K
def S.gH (t:cB) (it:I) (b:List S):S:=λo l K=>it o aC l λx l=>fW t b o x l K
def S.r9 (c:T) (b:List S):S:=λo l K=> ∃n,wW c b o n l K
def S.ret (e:Option E):S:=λo l K=>match e with
 |none=>K (Fl.ret br) l
 |some a=>a o l λv l=>er (yu (aR l) v) λx=>K (Fl.ret x) l
def S.cont:S:=λO l K=>K Fl.cont l
def S.defn (i f:Nat):S:=λO l K=>K Fl.next (dm l i<|.clo f)
def S.rQ (i:Nat) (es:List E):S:=λo l K=>dW es o l λx l=> ∃n:Int,x=[aB n,aB 5,aB 2048]/\n<=2048/\0<=n/\K Fl.next (dm l i Sl.emp)
def S.rU (i:Nat):S:=λO l K=>aR l i=Sl.emp/\K Fl.next l
def S.stuck:S:=λO O O=>False
open Sl renaming val->aQ,own->bg,emp->eC,inst->jy
open Fl renaming next->dE,ret->ui,cont->KG
open cB renaming tup->lV,one->nP
open V renaming bor->tL,inst->KD
def Mon (X:aP->Prop) (h:bq) (x:aP->Prop) (h':bq):Prop:= ∀a o,h.get? a=aA o-> ¬ X a->h'.get? a=aA o/\ ¬ x a
theorem Mon.refl (X h):Mon X h X h:=λO O e n=>⟨e,n⟩
theorem Mon.trans {X h X' h' X'' h''} (a:Mon X h X' h') (b:Mon X' h' X'' h''):Mon X h X'' h'':=λx o e n=>b x o (a x o e n).1 (a x o e n).2
def Led (X:aP->Prop) (h:bq) (led:List (aP×bk)):Prop:= ∀p∈led,h.get? p.1=aA p.2/\ ¬ X p.1
def Rd (X:aP->Prop) (h:bq) (v:aO) (d:aM):Prop:= ∃l,Led X h l/\DatIn l v d
def bU (X:aP->Prop) (h:bq) (vs:List aO) (ds:List aM):Prop:= ∃l,Led X h l/\DatAll l vs ds
section
theorem Led.mon {led} (l:Led X h led) (m:Mon X h X' h'):Led X' h' led:=λp P=>m _ _ (l p P).1 (l p P).2
theorem Rd.mon (x:Rd X h v d) (m:Mon X h X' h'):Rd X' h' v d:=let ⟨l,a,b⟩:=x;(bJ l (a.mon m) b)
theorem bU.mon (x:bU X h vs ds) (m:Mon X h X' h'):bU X' h' vs ds:=let ⟨l,a,b⟩:=x;(bJ l (a.mon m) b)
theorem Led.app {l l'} (a:Led X h l) (b:Led X h l'):Led X h (l++l'):=λp P=>(jZ.mp P).elim (a p)<|b p
theorem bU.nil:bU X h [] []:=(bJ [] (λO p=>(nomatch p)) DatAll.nil)
theorem bU.cons (a:Rd X h v d) (b:bU X h vs ds):bU X h (v::vs) (d::ds):=aT a λl c o=>aT b λL u W=>(bJ (l++L) (c.app u)<|DatAll.cons (o.mono λO=>Au _)<|W.mono λO=>uP _)
theorem bU.app (a:bU X h vs ds) (b:bU X h ws es):bU X h (vs++ws) (ds++es):=aT a λl c o=>aT b λL u d=>(bJ (l++L) (c.app u)<|(o.mono λO=>Au _).append<|d.mono λO=>uP _)
theorem bU.len (a:bU X h vs ds):vs.length=ds.length:=a.choose_spec.2.length
theorem bU.head (a:bU X h (v::vs) (d::ds)):Rd X h v d:=by show aT a λl L o=>?_;cases o with|cons x y=>show (bJ l L x)
theorem bU.tail (a:bU X h (v::vs) (d::ds)):bU X h vs ds:=by show aT a λl L o=>?_;cases o with|cons x y=>show (bJ l L y)
theorem bU.lg (a:bU X h vs []):vs=[]:=by show aT a λl L d=>?_;clear a L;cases d;rfl
theorem bU.jR (a:bU X h vs (d::ds)): ∃v vs',vs=v::vs'/\Rd X h v d/\bU X h vs' ds:=by show aT a λl L o=>?_;clear a;cases o with|cons x y=>show ⟨_,_,rfl,(bJ l L x),(bJ l L y)⟩
theorem bU.get (a:bU X h vs ds) {i:Nat} (hd:ds[i]?=aA d): ∃v,vs[i]?=aA v/\Rd X h v d:=by
 induction ds generalizing vs i with
 |nil=>simp at hd
 |cons x r z=>
  show cI a.jR λv R e p q=>sb e ?_;induction i with
  |zero=>simp at hd;show dA hd<|(bJ v rfl p)
  |succ i=>show z q (by simpa using hd)
theorem Rd.none:Rd X h bG br:=(bJ [] (λO p=>(nomatch p)) DatIn.none)
theorem Rd.bool (b):Rd X h (dD b) (fI b):=(bJ [] (λO p=>(nomatch p))<|DatIn.bool b)
theorem Rd.int (i t):Rd X h (bS i t) (aB i):=(bJ [] (λO p=>(nomatch p))<|DatIn.int i t)
theorem Rd.str (x t):Rd X h (cP x t) (aI x):=(bJ [] (λO p=>(nomatch p))<|DatIn.str x t)
theorem Rd.lst {a:aP} {n:Nat} (e:h.get? a=aA (listOf vs.toArray n)) (nx: ¬ X a) (r:bU X h vs ds):Rd X h (aG a) (aK ds):=aT r λl L d=>(bJ ((a,listOf vs.toArray n)::l) (λp P=>(dR.mp P).elim (λq=>q▸⟨e,nx⟩)<|L p)<|DatIn.list (.head _)<|d.mono λO=>Av _)
theorem Rd.tup (e:h.get? a=aA {cls:=bp "tuple",data:=jr vs.toArray n}) (nx: ¬ X a) (r:bU X h vs ds):Rd X h (aG a) (bw ds):=aT r λl L d=>(bJ ((a,{cls:=bp "tuple",data:=jr vs.toArray n})::l) (λp P=>(dR.mp P).elim (λq=>q▸⟨e,nx⟩)<|L p)<|DatIn.tuple (.head _)<|d.mono λO=>Av _)
theorem Rd.none_inv (x:Rd X h v br):v=bG:=by show aT x λl O b=>?_;clear x;cases b;rfl
theorem Rd.bool_inv (x:Rd X h v (fI b)):v=dD b:=by show aT x λl O b=>?_;clear x;cases b;rfl
theorem Rd.fm (x:Rd X h v (aB i)): ∃t,v=bS i t:=by show aT x λl O b=>?_;clear x;cases b;show ⟨_,rfl⟩
theorem Rd.fD {y:aN} (x:Rd X h v (aI y)): ∃t,v=cP y t:=by show aT x λl O b=>?_;clear x;cases b;show ⟨_,rfl⟩
theorem Rd.lst_inv (x:Rd X h v (aK ds)): ∃a vs n,v=aG a/\h.get? a=aA (listOf vs.toArray n)/\ ¬ X a/\bU X h vs ds:=by show aT x λl L b=>?_;clear x;cases b with|list m r=>show ⟨_,_,_,rfl,(L _ m).1,(L _ m).2,l,L,r⟩
theorem Rd.Dy (x:Rd X h v (bw ds)): ∃a vs n,v=aG a/\h.get? a=aA {cls:=bp "tuple",data:=jr vs.toArray n}/\ ¬ X a/\bU X h vs ds:=by show aT x λl L b=>?_;clear x;cases b with|tuple m r=>show ⟨_,_,_,rfl,(L _ m).1,(L _ m).2,l,L,r⟩
theorem Led.news {led} (l:Led X h led):vr {objs:= #[],life:=h.life} h.objs.size h led:=λp P=>⟨(l p P).1,qy<|mP (l p P).1,by rfl⟩
end
abbrev Ex (Ob W:aP->Prop):aP->Prop:=λa=>Ob a\/W a
structure fk (W:aP->Prop) (h:bq) (W':aP->Prop) (h':bq):Prop where
 keep: ∀a o,h.get? a=aA o-> ¬ W a->h'.get? a=aA o
 grow: ∀a,W' a->W a\/h.get? a=aE
theorem fk.refl (W h):fk W h W h:=⟨λO O e O=>e,λO=>.inl⟩
theorem fk.trans {W h W' h' W'' h''} (a:fk W h W' h') (b:fk W' h' W'' h''):fk W h W'' h'':=by
 show ⟨λx o e n=>b.keep x o (a.keep x o e n) λq=>?_,λx q=>?_⟩
 ·show Or.elim (a.grow x q) (λq=>?_) λq=>?_
  ·show n q
  ·rw[e] at q
   show sT q
 ·show Or.elim (b.grow x q) (λq=>?_) λq=>?_
  ·show a.grow x q
  ·induction e:h.get? x with
   |none=>show .inr rfl
   |some o=>show .inl<|Q0 λn=>?_;rw[a.keep x o e n] at q;show sT q
theorem fk.all {W h h'} (k: ∀a o,h.get? a=aA o->h'.get? a=aA o):fk W h W h':=⟨λa o e O=>k a o e,λO=>.inl⟩
theorem fk.mon {Ob W h W' h'} (a:fk W h W' h'):Mon (Ex Ob W) h (Ex Ob W') h':=λx o e n=>⟨a.keep x o e λq=>n<|.inr q,λq=>q.elim (λq=>n<|.inl q) λq=>(a.grow x q).elim (λq=>n<|.inr q) λq=>by rw[e] at q;show sT q⟩
theorem Mon.all {X h h'} (k: ∀a o,h.get? a=aA o->h'.get? a=aA o):Mon X h X h':=λa o e n=>⟨k a o e,n⟩
structure wx where
 CL:Nat->(aP->Prop)->bq->List (aN×aP)->aP->Prop
 HI:(aP->Prop)->bq->aP->aP->Prop
 Ak: ∀{f X h X' h' cl a},CL f X h cl a->Mon X h X' h'->CL f X' h' cl a
 lh: ∀{X h X' h' x a},HI X h x a->Mon X h X' h'->HI X' h' x a
 PF:aP->Prop
 Inv:(aP->Prop)->bq->Prop
 jo: ∀{X h X' h'},Inv X h->Mon X h X' h'->(∀a,PF a->h'.get? a=h.get? a)->Inv X' h'
 jk: ∀{X h a},Inv X h->PF a-> ∃o vs,h.get? a=aA o/\o.data=eY vs
structure Fc where
 K:aN->Option fX
 dY:aN->Option Nat
 tT:aN->Bool
 inj: ∀x y i,dY x=aA i->dY y=aA i->x=y
 bd:Nat
 tQ: ∀x i,dY x=aA i->i<bd
 Bf:bd<=1000000
 ow:Bool
 nw:Bool
 hn:Bool
 cd:Option (aP×aN)
theorem Fc.low (C:Fc) (x:aN) (i:Nat) (e:C.dY x=aA i):i<1000000:=oC (C.tQ x i e) C.Bf
noncomputable def kF:Obj:={cls:=bp "dict",data:=gu #[]}
section
variable (P:wx) (φ:Nat->Option aP) (cl:List (aN×aP)) (X:aP->Prop) (h:bq)
def fg (i:Nat) (v:Option aO):Sl->Prop
 |.unb=>True
 |.emp=> ∃a,v=aA (aG a)/\h.get? a=aA kF/\ ¬ X a
 |.val d=> ∃u,v=aA u/\Rd X h u d
 |.own _=> ∃a,φ i=aA a/\v=aA (aG a)
 |.ali j=>j=bC/\ ∃a,φ j=aA a/\v=aA (aG a)
 |.inst=> ∃x a,φ bC=aA a/\v=aA (aG x)/\P.HI X h x a
 |.clo f=> ∃a,v=aA (aG a)/\P.CL f X h cl a
 |.grid n=> ∃a m,φ i=aA a/\v=aA (aG a)/\h.get? a=aA (listOf ((cg n).map λk=>aG<|(φ<|nq i k).getD 0).toArray m)/\ ∀k,k<n->(φ<|nq i k).isSome
end
structure FR (P:wx) (G:bq) (C:Fc) (env:eB) (Ob:aP->Prop) (φ:Nat->Option aP) (W:aP->Prop) (r:cU) (h:bq):Prop where
 base: ∀b o,G.get? b=aA o->h.get? b=aA o
 gd: ∀b o,G.get? b=aA o-> ¬ Ex Ob W b
 hk:env.scope.kind=gy
 hK: ∀x,env.kindOf x=C.K x
 hg:env.globals=pj
 hb:env.builtins=js
 uJ: ∀c q,C.cd=aA (c,q)->env.code=aG c/\env.qual=q
 loc: ∃m,h.Ns env.locals m/\ ∀x i,C.K x=aA NameKind.local->C.dY x=aA i->fg P φ env.cells (Ex Ob W) h i (m x) (r i)
 mn:W env.locals
 jj: ∀x i,(C.K x=aA dS\/C.K x=aA ck)->C.dY x=aA i-> ∃c v,env.cells.lookup x=aA c/\h.IsCell c v/\fg P φ env.cells (Ex Ob W) h i v (r i)
 rf: ∀x i c,C.K x=aA dS->C.tT x=aC->C.dY x=aA i->env.cells.lookup x=aA c->W c
 qM: ∀x y c,env.cells.lookup x=aA c->env.cells.lookup y=aA c->x=y
 own: ∀i xs,r i=bg xs-> ∃a vs n,φ i=aA a/\h.get? a=aA (listOf vs.toArray n)/\bU (Ex Ob W) h vs xs
 jO:C.ow=aC-> ∀i xs a,r i=bg xs->φ i=aA a->i≠bC->W a
 mJ: ∀xs,r bC=bg xs->r cG=eC-> ∀a,φ bC=aA a->W a
 oq: ∀xs,r bC=bg xs->r cG≠eC-> ∀a,φ bC=aA a-> ¬ W a
 pW:(∀xs,r bC≠bg xs)->φ bC=aE
 inj: ∀i j a,φ i=aA a->φ j=aA a->i=j
 lB: ∀i a,φ i=aA a-> ∃o,h.get? a=aA o
 fe: ∀a,Ex Ob W a-> ∃o,h.get? a=aA o
 fQ: ∀a,W a-> ¬ Ob a
 inv:P.Inv (Ex Ob W) h
 pf: ∀a,P.PF a->W a
section
variable {Ob W W':aP->Prop} {φ φ':Nat->Option aP} {r:cU} {h h':bq}
theorem fg.mon {cl X X'} {i v} {sl:Sl} (x:fg P φ cl X h i v sl) (m:Mon X h X' h') (hl: ∀n,sl=.grid n-> ∀a,φ i=aA a->h'.get? a=h.get? a):fg P φ cl X' h' i v sl:=by
 induction sl with
 |val d=>show aT x λu e q=>(bJ u e<|q.mon m)
 |inst=>show cI x λy a Y C q=>(d0 y a Y C<|P.lh q m)
 |clo f=>show aT x λa e q=>(bJ a e<|P.Ak q m)
 |emp=>show eE x λa e Q s=>(bJ a e<|m _ _ Q s)
 |grid n=>show ik x λa k Y C p z=>(iX a k Y C (by simp only[hl n rfl a Y];show p) z)
 |_=>show x
theorem FR.vk (F:FR P G C env Ob φ W r h) (k: ∀a o vs,h.get? a=aA o->o.data=eY vs->P.PF a->h'.get? a=aA o): ∀a,P.PF a->h'.get? a=h.get? a:=λa p=>by show dU (P.jk F.inv p) λo vs e d=>?_;simp only[e];show k a o vs e d p
inductive Sq:Data->Prop
 |seq {vs n}:Sq (Data.seq vs n)
 |cell {v}:Sq (Data.cell v)
theorem Sq.nf (h:Sq d) (vs):d≠eY vs:=λe=>nomatch e▸h
theorem Sq.nd (h:Sq d) (es ep):d≠gu es ep:=λe=>nomatch e▸h
def QL (C:Fc) (env:eB) (φ:Nat->Option aP) (a:aP):Prop:=(∃i,φ i=aA a)\/ ∃x i,(C.K x=aA dS\/C.K x=aA ck)/\C.dY x=aA i/\env.cells.lookup x=aA a
theorem FR.al (F:FR P G C env Ob φ W r h) (q:(∃i,φ i=aA a)\/Ex Ob W a): ∃o,h.get? a=aA o:=q.elim (λq=>q.elim λi q=>F.lB i a q)<|F.fe a
theorem FR.nl (F:FR P G C env Ob φ W r h) (e:h.get? a=aA o) (d: ∀es H,o.data≠gu es H):a≠env.locals:=λq=>aT F.loc λO n O=>fH n λB es H u R O=>d es H<|bt e (q▸u)▸R
theorem FR.np (F:FR P G C env Ob φ W r h) (e:h.get? a=aA o) (d: ∀vs,o.data≠eY vs): ¬ P.PF a:=λp=>dU (P.jk F.inv p) λH vs u R=>d vs<|bt e u▸R
theorem Gh {m} (n:h.Ns a m) (k: ∀o,h.get? a=aA o->(∀vs,o.data≠eY vs)->h'.get? a=aA o):h'.Ns a m:=fH n λo K H e d q=>mf o K H (k o e λvs z=>nomatch d.symm.trans z) d q
theorem FR.chg {K:aP->Prop} (F:FR P G C env Ob φ W r h) (m:Mon (Ex Ob W) h (Ex K W) h') (k: ∀a o,h.get? a=aA o->Sq o.data->QL C env φ a->h'.get? a=aA o) (l: ∀m,h.Ns env.locals m->h'.Ns env.locals m)
 (al: ∀a,(∃i,φ i=aA a)\/Ex K W a-> ∃o,h'.get? a=aA o) (A: ∀a,W a-> ¬ K a) (inv:P.Inv (Ex K W) h'):FR P G C env K φ W r h':=by
 have g: ∀i v sl,fg P φ env.cells (Ex Ob W) h i v sl->fg P φ env.cells (Ex K W) h' i v sl:=by
  intro i v sl x;induction sl with
  |grid n=>show ik x λa q e1 e2 p z=>iX a q e1 e2 (k _ _ p .seq<|.inl ⟨i,e1⟩) z
  |_=>show x.mon m nofun
 show aT F.loc λM Y N=>⟨λb o e=>(m b o (F.base b o e)<|F.gd b o e).1,λb o e=>(m b o (F.base b o e)<|F.gd b o e).2,F.hk,F.hK,F.hg,F.hb,F.uJ,⟨M,l _ Y,λx i a b=>g _ _ _<|N x i a b⟩,F.mn,
  λx i a b=>cI (F.jj x i a b) λc v e1 p z=>d0 c v e1 (aT p λo e d=>⟨o,k _ _ e (d▸ .cell)<|.inr<|d0 x i a b e1,d⟩)<|g _ _ _ z,F.rf,F.qM,
  λi xs e=>fH (F.own i xs e) λa vs n e1 e2 p=>mf a vs n e1 (k _ _ e2 .seq<|.inl ⟨i,e1⟩)<|p.mon m,F.jO,F.mJ,F.oq,F.pW,F.inj,λi a e=>al a<|.inl ⟨i,e⟩,λa e=>al a<|.inr e,A,inv,F.pf⟩
theorem FR.keeps (F:FR P G C env Ob φ W r h) (k: ∀a o,h.get? a=aA o->h'.get? a=aA o):FR P G C env Ob φ W r h':=F.chg (Mon.all k) (λa o e O O=>k a o e) (λm n=>n.keeps k) (λa q=>bE (F.al q) λo e=>⟨o,k _ _ e⟩) F.fQ<|P.jo F.inv (Mon.all k)<|F.vk λa o O e O O=>k a o e
structure Kl (L:aP) (h h':bq):Prop where
 keep: ∀a o,h.get? a=aA o->a≠L->h'.get? a=aA o
 ns: ∀m,h.Ns L m->h'.Ns L m
theorem Kl.refl (L h):Kl L h h:=⟨λO O e O=>e,λO n=>n⟩
theorem Kl.trans {L h h' h''} (a:Kl L h h') (b:Kl L h' h''):Kl L h h'':=⟨λx o e n=>b.keep x o (a.keep x o e n) n,λm n=>b.ns m<|a.ns m n⟩
theorem Kl.all {L h h'} (k: ∀a o,h.get? a=aA o->h'.get? a=aA o):Kl L h h':=⟨λa o e O=>k a o e,λm n=>n.keeps k⟩
theorem Kl.push {L h} (o:bk):Kl L h (h.push o):=.all λO O e=>iW _ e
theorem FR.Qk (F:FR P G C env Ob φ W r h) (k:Kl env.locals h h') (q: ∃o,h.get? a=aA o): ∃o,h'.get? a=aA o:=by
 by_cases L:a=env.locals
 ·show aT F.loc λO n O=>qF (k.ns _ n) λo O O e O=>⟨o,L▸e⟩
 ·show bE q λo q=>⟨o,k.keep _ _ q L⟩
theorem FR.Ny {X:aP->Prop} (F:FR P G C env Ob φ W r h) (k:Kl env.locals h h') (m:Mon (Ex Ob W) h X h'):P.Inv X h':=P.jo F.inv m<|F.vk λa o v e d O=>k.keep a o e<|F.nl e λK H q=>nomatch d.symm.trans q
theorem FR.kl (F:FR P G C env Ob φ W r h) (k:Kl env.locals h h'):FR P G C env Ob φ W r h':=by have m:Mon (Ex Ob W) h (Ex Ob W) h':=λa o e n=>⟨k.keep a o e λq=>n<|.inr<|q▸F.mn,n⟩;show F.chg m (λa o e s O=>k.keep a o e<|F.nl e s.nd) k.ns (λa q=>F.Qk k<|F.al q) F.fQ<|F.Ny k m
theorem FR.QK (F:FR P G C env Ob φ W r h) (k:Kl env.locals h h'):fk W h W h':=⟨λa o e n=>k.keep a o e λq=>n<|q▸F.mn,λO=>.inl⟩
theorem FR.I2 (F:FR P G C env Ob φ W r h) (k:Kl env.locals h h'):Mon (Ex Ob W) h (Ex Ob W) h':=(F.QK k).mon
theorem C_ (h:bq) (hn:h.Ns L m): ∃h₀ news,Fr h₀ L h m/\vr h₀ L h news/\(∀p∈news,p.1<h.objs.size)/\(news.map (·.1)).Nodup/\
 (∀b o,h.get? b=aA o->b≠L->h₀.get? b=aA o\/(b,o)∈news):=by
 have hsz:(h.objs.extract 0 L).size=L:=by simp only[vt];show (Aw _).trans<|gO<|s7 (hn.lt: @LT.lt Nat _ L h.objs.size)
 show (yA ({objs:=h.objs.extract 0 L,life:=h.life}) ((cg h.objs.size).filterMap λb=>if L<b then (h.get? b).map (b, ·) else aE) ⟨hn,λb o e=>?_,pZ hsz⟩ ?_ ?_ ?_ ?_)
 ·show bP (I9.mp e) λe1 e2=>?_
  show I9.mpr ⟨?_,e2⟩;simp only[QGB] at e1
  split at e1
  ·simpa using e1
  ·show bM e1
 ·intro p P
  show aT (JA.mp P) λb hb e=>?_
  split at e
  ·rename_i K
   show aT (nE.mp e) λo eo B=>dA B<|⟨eo,Nat.ne_of_gt K,?_⟩
   induction q:yC {objs:=h.objs.extract 0 L,life:=h.life} b with
   |none=>rfl
   |some o'=>have Q:=mP q;simp only[hsz] at Q;show QIe (EY Q K)<|oD _
  ·show bM e
 ·intro p P
  show aT (JA.mp P) λb hb e=>?_
  split at e
  ·show aT (nE.mp e) λo eo B=>dA B<|Heap.lt_size eo
  ·show bM e
 ·have:((cg h.objs.size).filterMap λb=>if L<b then (h.get? b).map (b, ·) else aE).map (·.1)=(cg h.objs.size).filter λb=>decide (L<b) && (h.get? b).isSome:=by
   generalize cg h.objs.size=l;induction l with
   |nil=>rfl
   |cons x l i=>
    by_cases M:L<x
    ·induction ho:h.get? x with
     |none=>simp[M,ho,i]
     |some o=>simp[M,ho,i]
    ·simp[M,i]
  simp only[this];show (QGC).nodup List.nodup_range
 ·intro b o e n
  by_cases hb:L<b
  ·show .inr (JA.mpr<|bJ b (EZ.mpr<|mP e) (by (erw[if_pos hb];erw[e]);rfl))
  ·have Y:=Nat.lt_of_le_of_ne (fJ hb) n
   show bP (I9.mp e) λe1 e2=>?_;show .inl<|I9.mpr ⟨?_,e2⟩;simp only[QGB];simp only[vt] at hsz;erw[if_pos (by simp only[hsz];show Y)];simpa using e1
theorem Kl.of {news t:List (aP×bk)} (hn:h.Ns L m) (hl: ∀b o,h.get? b=aA o->b≠L->h₀.get? b=aA o\/(b,o)∈news) (F:Fr h₀ L h' m) (N:vr h₀ L h' t) (hs: ∀p∈news,p∈t):Kl L h h':=
 ⟨λa o e n=>(hl a o e n).elim (F.keep a o) λq=>(N _<|hs _ q).1,λM n'=>by
  have:=funext λx=>n'.agree hn x;simp only[this]
  show F.ns⟩
theorem FR.less {K:aP->Prop} (F:FR P G C env K φ W r h) (k: ∀a,Ob a->K a):FR P G C env Ob φ W r h:=by have j: ∀a,Ex Ob W a->Ex K W a:=λa q=>q.imp (k a) id;have m:Mon (Ex K W) h (Ex Ob W) h:=λa o e n=>⟨e,λq=>n<|j a q⟩;show F.chg m (λO O e O O=>e) (λO n=>n) (λa q=>F.al<|q.imp id<|j a) (λa w q=>F.fQ a w<|k a q)<|P.jo F.inv m λO O=>rfl
theorem FR.OX {I a:aP} (F:FR P G C env Ob φ W r h) (f: ∃o,h'.get? I=aA o) (k:(∃o,h.get? a=aA o)-> ∃o,h'.get? a=aA o) (q:(∃i,φ i=aA a)\/Ex (λa=>Ob a\/a=I) W a): ∃o,h'.get? a=aA o:=by
 by_cases z:a=I
 ·show z▸f
 ·show k<|F.al<|q.imp id λq=>q.imp (λq=>q.resolve_right z) id
theorem FR.LH {I:aP} (F:FR P G C env Ob φ W r h) (i:h.get? I=aE) (a) (w:W a): ¬ (Ob a\/a=I):=λq=>q.elim (F.fQ a w) λq=>bE (F.fe a<|.inr w) λO e=>dy (q▸i) e
theorem FR.apart {I:aP} (F:FR P G C env Ob φ W r h) (k: ∀a o,h.get? a=aA o->h'.get? a=aA o) (t:h.get? I=aE) (i: ∃o,h'.get? I=aA o):FR P G C env (λa=>Ob a\/a=I) φ W r h':=by have m:Mon (Ex Ob W) h (Ex (λa=>Ob a\/a=I) W) h':=λa o e n=>⟨k a o e,λq=>n<|q.imp (λq=>q.resolve_right λz=>dy (z▸t) e) id⟩;show F.chg m (λa o e O O=>k a o e) (λm n=>n.keeps k) (λa q=>F.OX i (λq=>bE q λo e=>⟨o,k _ _ e⟩) q) (F.LH t)<|P.jo F.inv m<|F.vk λa o O e O O=>k a o e
theorem FR.turned {I:aP} (F:FR P G C env Ob φ W r h) (t:Ob I) (hn: ¬ W I) (f: ∃o vs,h.get? I=aA o/\o.data=eY vs) (k: ∀a o,a≠I->h.get? a=aA o->h'.get? a=aA o) (i: ∃o,h'.get? I=aA o):FR P G C env Ob φ W r h':=by
 have m:Mon (Ex Ob W) h (Ex Ob W) h':=λa o e n=>⟨k a o (λq=>n<|.inl<|q▸t) e,n⟩;have N: ∀a o,h.get? a=aA o->(∀vs,o.data≠eY vs)->a≠I:=λa o e d q=>dU f λY v x g=>d v<|bt e (q▸x)▸g;show F.chg m (λa o e s O=>k a o (N a o e s.nf) e) (λm n=>Gh n λo e d=>k _ o (N _ o e d) e) (λa q=>?_) F.fQ<|P.jo F.inv m<|F.vk λa o O e O p=>k a o (λq=>F.fQ a (F.pf a p)<|q▸t) e;by_cases z:a=I
 ·show z▸i
 ·show bE (F.al q) λo e=>⟨o,k a o z e⟩
theorem FR.GU (F:FR P G C env Ob φ W r h) {X Z:aP->Prop} (k: ∀a o,h.get? a=aA o-> ¬ Z a-> ¬ P.PF a->h'.get? a=aA o) (i:P.Inv X h') (z: ¬ Z a) (q: ∃o,h.get? a=aA o): ∃o,h'.get? a=aA o:=by
 by_cases p:P.PF a
 ·show dU (P.jk i p) λo O e O=>⟨o,e⟩
 ·show bE q λo q=>⟨o,k a o q z p⟩
theorem FR.keepsP (F:FR P G C env Ob φ W r h) (k: ∀a o,h.get? a=aA o-> ¬ P.PF a->h'.get? a=aA o) (i:P.Inv (Ex Ob W) h'):FR P G C env Ob φ W r h':=F.chg (λa o e n=>⟨k a o e λp=>n<|.inr<|F.pf a p,n⟩) (λa o e s O=>k a o e<|F.np e s.nf) (λm n=>Gh n λo e d=>k _ o e<|F.np e d) (λa q=>F.GU (Z:=λO=>False) (λa o e O p=>k a o e p) i id<|F.al q) F.fQ i
theorem FR.Cv (F:FR P G C env Ob φ W r h) (k: ∀a o,h.get? a=aA o-> ¬ P.PF a->h'.get? a=aA o):fk W h W h':=⟨λa o e n=>k a o e λp=>n<|F.pf a p,λO=>.inl⟩
theorem FR.push (F:FR P G C env Ob φ W r h) (o:bk):FR P G C env Ob φ W r (h.push o):=F.keeps λO O e=>iW _ e
theorem FR.forget (F:FR P G C env Ob φ W r h) (i:Nat) (d:i≠cG) (H:i≠bC):FR P G C env Ob φ W (upd r i .unb) h:=by
 have s: ∀j v,fg P φ env.cells (Ex Ob W) h j v (r j)->fg P φ env.cells (Ex Ob W) h j v (upd r i .unb j):=by
  intro j v x;unfold upd
  split
  ·trivial
  ·show x
 show aT F.loc λm Y N=>⟨F.base,F.gd,F.hk,F.hK,F.hg,F.hb,F.uJ,⟨m,Y,λx j a b=>s _ _<|N x j a b⟩,F.mn,λx j a b=>?_,F.rf,F.qM,λj R e=>?_,λc j R a e u n=>?_,λR e u=>?_,λR e u=>?_,λe=>F.pW (λR q=>e R (by unfold upd;erw[if_neg<|oE H];show q)),F.inj,F.lB,F.fe,F.fQ,F.inv,F.pf⟩
 ·show cI (F.jj x j a b) λc v t p z=>(d0 c v t p<|s _ _ z)
 ·unfold upd at e
  split at e
  ·show nomatch e
  ·show F.own j R e
 ·unfold upd at e
  split at e
  ·show nomatch e
  ·show F.jO c j R a e u n
 ·unfold upd at e u
  split at e
  ·show nomatch e
  ·rw[if_neg<|oE d] at u
   show F.mJ R e u
 ·unfold upd at e u
  split at e
  ·show nomatch e
  ·rw[if_neg<|oE d] at u
   show F.oq R e u
theorem FR.store {sl:Sl} {E:aO->aV->Prop}
 (F:FR P G C env Ob φ W (upd r i .unb) s.heap) (ht:C.dY x=aA i) (hs:C.tT x=aC) (hK:C.K x=aA NameKind.local\/C.K x=aA dS)
 (hv: ∀h',(∀a o,s.heap.get? a=aA o->a≠env.locals->(∀c,env.cells.lookup x=aA c->a≠c)->h'.get? a=aA o)->Mon (Ex Ob W) s.heap (Ex Ob W) h'->fg P φ env.cells (Ex Ob W) h' i (aA v) sl)
 (ho: ∀xs,sl=bg xs-> ∃a vs n,φ i=aA a/\s.heap.get? a=aA (listOf vs.toArray n)/\bU (Ex Ob W) s.heap vs xs/\W a)
 (h: ∀h' tk,FR P G C env Ob φ W (upd r i sl) h'->fk W s.heap W h'->Q () {s with heap:=h',toks:=tk}):aZ M A (Ea env x v) Q E s:=by
 have Y:=C.low x i ht
 have af: ∀b h',W b->(∃o,s.heap.get? b=aA o/\((∃es ep,o.data=gu es ep)\/ ∃c,o.data=Q1 c))->JB b s.heap h'->
  (b=env.locals\/env.cells.lookup x=aA b)->
  (∃m,h'.Ns env.locals m/\(∀y,y≠x->b=env.locals-> ∀L,s.heap.Ns env.locals L->m y=L y)/\(b≠env.locals->s.heap.Ns env.locals m)/\(b=env.locals->m x=aA v))->
  (∀y c U,y≠x\/b=env.locals->env.cells.lookup y=aA c->s.heap.IsCell c U->h'.IsCell c U)->
  (∀c,b≠env.locals->env.cells.lookup x=aA c->h'.IsCell c (aA v))->
  (C.K x=aA NameKind.local->b=env.locals)->(C.K x=aA dS->b≠env.locals)->FR P G C env Ob φ W (upd r i sl) h'/\fk W s.heap W h':=by
  intro b h' wb Z sb B hm H f aa l;have st:fk W s.heap W h':=⟨λa o e n=>(sb.2 a λq=>n<|q▸wb).trans e,λO=>.inl⟩;have mo:Mon (Ex Ob W) s.heap (Ex Ob W) h':=st.mon
  have al: ∀a,(∃o,s.heap.get? a=aA o)-> ∃o,h'.get? a=aA o:=λa h0=>h0.elim λo q=>by
   by_cases hL:a=b
   ·show Or.elim (B) (λg=>?_) λg=>?_
    ·show aT hm λm ai O=>qF ai λo' O O u O=>⟨o',by simp only[hL,g];show u⟩
    ·by_cases hb:b=env.locals
     ·show aT hm λm ai O=>qF ai λo' O O u O=>⟨o',by simp only[hL,hb];show u⟩
     ·show aT (f b hb g) λo' u O=>⟨o',hL▸u⟩
   ·show ⟨o,(sb.2 a hL).trans q⟩
  have ae: ∀a o,s.heap.get? a=aA o->(∃vs n,o.data=jr vs n)->h'.get? a=aA o:=λa o e h0=>h0.elim λvs h0=>h0.elim λn d=>by show (sb.2 a λq=>?_).trans e;clear wb sb B hm H f aa l;subst q;show aT Z λo' u g=>?_;obtain rfl:=bt e u;rcases g with ⟨es,ep,d'⟩|⟨c,d'⟩<;>rw[d] at d'<;>trivial
  have ab:=hv h' (λa o e N n2=>(sb.2 a λq=>by
   clear wb Z sb hm H f aa l;subst q;show Or.elim (B) (λq=>?_) λq=>?_
   ·show N q
   ·show n2 _ q rfl).trans e) mo
  have sk: ∀j U,j≠i->fg P φ env.cells (Ex Ob W) s.heap j U (upd r i .unb j)->fg P φ env.cells (Ex Ob W) h' j U (upd r i sl j):=by
   intro j U n y;have e1:upd r i sl j=r j:=by unfold upd;rw[if_neg n]
   have e2:upd r i .unb j=r j:=by unfold upd;rw[if_neg n]
   rw[e1];rw[e2] at y;induction hsl:r j with
   |grid k=>rw[hsl] at y;show ik y λa q e1 e2 e3 e4=>⟨a,q,e1,e2,ae _ _ e3<|mz _ _ rfl,e4⟩
   |_=>rw[hsl] at y;show y.mon mo λn e=>by trivial
  show rV hm λm m1 m2 m3 m4=>aT F.loc λL N n2=>⟨⟨λq o e=>st.keep q o (F.base q o e) λw=>F.gd q o e<|.inr w,F.gd,F.hk,F.hK,F.hg,F.hb,F.uJ,⟨m,m1,λy j a c=>?_⟩,F.mn,λy j a c=>?_,F.rf,F.qM,λj xs e=>?_,λcc j xs a e u n=>?_,λxs e u=>?_,λxs e u=>?_,λe=>F.pW (λxs q=>e xs (by have h1:bC≠i:=λq=>(by rw[<-q] at Y;show QIe Y<|by ext);unfold upd at q⊢;rw[if_neg h1] at q⊢;show q)),F.inj,λj a e=>al a<|F.lB j a e,λa e=>al a<|F.fe a e,F.fQ,P.jo F.inv mo (F.vk λa o vs e d O=>by
   show (sb.2 a λq=>?_).trans e;clear wb sb B hm H f aa l m2 m3 m4;subst q;show aT Z λo' u g=>?_;obtain rfl:=bt e u
   rcases g with ⟨es,ep,d'⟩|⟨c,d'⟩<;>rw[d] at d'<;>trivial),F.pf⟩,st⟩
  ·by_cases t:y=x
   ·clear hs hK hv B hm H f l m2
    subst t;obtain rfl:=bt ht c;have:=aa a;rw[m4 this];unfold upd;rw[if_pos rfl];show ab
   ·have p:j≠i:=λq=>t (C.inj y x i (q▸c) ht)
    have:=sk j (L y) p<|n2 y j a c;by_cases hb:b=env.locals
    ·rw[m2 y t hb L N]
     show this
    ·rw[show m y=L y from (m3 hb).agree N y]
     show this
  ·show cI (F.jj y j a c) λc' U e1 e3 e4=>?_
   by_cases t:y=x
   ·clear hs hv B hm H aa m2 m4
    subst t;obtain rfl:=bt ht c
    have hb:b≠env.locals:=λq=>by
     show Or.elim (hK) (λg=>?_) λg=>?_
     ·rw[g] at a
      rcases a with a|a<;>trivial
     ·show l g q
    show (d0 c' (aA v) e1 (f c' hb e1) ?_);unfold upd;rw[if_pos rfl];show ab
   ·have p:j≠i:=λq=>t (C.inj y x i (q▸c) ht)
    show (d0 c' U e1 (H y c' U (.inl t) e1 e3)<|sk j U p e4)
  ·by_cases p:j=i
   ·clear F ht hv h Y ab sk n2
    subst p;unfold upd at e;rw[if_pos rfl] at e;show fh (ho xs e) λa vs n q1 q2 q3 q4=>⟨a,vs,n,q1,ae _ _ q2<|mz _ _ rfl,q3.mon mo⟩
   ·have u:upd r i .unb j=bg xs:=by unfold upd at e⊢;rw[if_neg p] at e⊢;show e
    show fH (F.own j xs u) λa vs n q1 q2 q3=>⟨a,vs,n,q1,ae _ _ q2<|mz _ _ rfl,q3.mon mo⟩
  ·by_cases p:j=i
   ·clear F ht hv h Y ab sk n2
    subst p;unfold upd at e;rw[if_pos rfl] at e;show fh (ho xs e) λa' vs n q1 q2 q3 q4=>?_;obtain rfl:=bt q1 u;show q4
   ·show F.jO cc j xs a (by unfold upd at e⊢;rw[if_neg p] at e⊢;show e) u n
  ·have h1:bC≠i:=λq=>by rw[<-q] at Y;show QIe Y (by ext)
   have h2:cG≠i:=λq=>by rw[<-q] at Y;show QIe Y (by ext)
   unfold upd at e u;rw[if_neg h1] at e;rw[if_neg h2] at u;show F.mJ xs (by unfold upd;rw[if_neg h1];show e) (by unfold upd;rw[if_neg h2];show u)
  ·have h1:bC≠i:=λq=>by rw[<-q] at Y;show QIe Y (by ext)
   have h2:cG≠i:=λq=>by rw[<-q] at Y;show QIe Y (by ext)
   unfold upd at e u;rw[if_neg h1] at e;rw[if_neg h2] at u;show F.oq xs (by unfold upd;rw[if_neg h1];show e) (by unfold upd;rw[if_neg h2];show u)
 show aT F.loc λL N n2=>Or.elim (hK) (λz=>?_) λz=>?_
 ·show QGD ((F.hK x).trans z) N (λh' hn sb=>?_) (by rw[F.hk];rfl)
  have Z: ∃o,s.heap.get? env.locals=aA o/\((∃es ep,o.data=gu es ep)\/ ∃c,o.data=Q1 c):=fH N λo es ep e d O=>⟨o,e,.inl<|mz es ep d⟩
  show bP (af env.locals h' F.mn Z sb (.inl rfl) (ij _ hn (λy t O ak ah=>by rw[if_neg t];show N.agree ah y) (λq=>QIe rfl q) λO=>QIg rfl)
   (λy c U O e1 e3=>e3.sameBut sb λq=>by
    show fH N λo es ep e d O=>aT e3 λo' u d'=>?_;simp only[q,e] at u;cases u
    rw[d'] at d;trivial) (λc q=>QIe rfl q) (λO=>rfl) (λq=>by cases bt z q)) λR st=>?_
  show h h' _ R st
 ·show cI (F.jj x i (.inl z) ht) λc U e1 e3 e4=>wpAny_storeName_cell F.hk ((F.hK x).trans z) e1 e3 λh' hc sb=>?_
  have cl:c≠env.locals:=λq=>by show fH N λo es ep e d O=>aT e3 λo' u d'=>?_;simp only[q,e] at u;cases u;rw[d'] at d;clear e4 d';trivial
  show bP (af c h' (F.rf x i c z hs ht e1) (by show aT e3 λo e d=>?_;show (bJ o e<|.inr ⟨_,d⟩)) sb (.inr e1)
   (ij L (N.sameBut sb cl.symm) (λy t q=>QIe q cl) (λO=>N) λq=>QIe q cl)
   (λy c' ao t ag aj=>aj.sameBut sb λq=>by
    show Or.elim (t) (λt=>?_) λt=>?_
    ·show t<|F.qM y x c (q▸ag) e1
    ·show cl t) (λc' O ag=>by clear F ht hs hK hv ho Y af N n2 e3 e4 sb;obtain rfl:=bt e1 ag;show hc) (λq=>by cases bt z q) (λO=>cl)) λR st=>?_
  show h h' s.toks R st
end
theorem Runs.toks (h:Runs M Γ p t fs s e s'):s.toks<=s'.toks:=by
 induction h<;>first|show Nat.le_refl _|assumption|(simp only[Shared.setGen] at*;omega)|omega
theorem QDh (R:Wakes M Γ p g r s C s'):s.toks<=s'.toks:=by
 have n: ∀{W N q d t f} {P:Prop},Runs M q d t f (s.setGen g GenState.running) W N->W.quiet=aC/\P/\s'=N.setGen g W.genState->s.toks<=s'.toks:=λq e=>by rw[e.2.2];show (Runs.toks q:)
 delta Wakes at R;revert R;generalize s.gens[g]?=x;intro R;induction x with
 |none=>show R.elim
 |some c=>cases c with
  |fresh c=>cases r with
   |send v=>cases v with
    |none=>show Exists.elim R λW h=>h.elim λN h=>n h.1 h.2
    |_=>show (And.right R)▸cY _
   |throw x=>show (And.right R)▸cY _
  |suspended=>show Exists.elim R λW h=>h.elim λN h=>n h.1 h.2
  |_=>show (And.right R)▸cY _
theorem WL {α:Type} (m:cM α) (F:Nat) {Q:α->cA->aV->Prop} {E:aO->cA->aV->Prop}: ∀p s,F<=s.toks->
 iG M Γ m (λa P d=>F<=d.toks->Q a P d) (λa P d=>F<=d.toks->E a P d) p s->iG M Γ m Q E p s:=by
 induction m with
 |pure a=>show λp s h w=>w h
 |raise e=>show λp s h w=>w h
 |rule t k i=>show i _
 | «at» q k i=>show λp=>i _ q
 |load a q k i=>show λp s h w=>w.elim λo w=>⟨o,w.1,i _ p s h w.2⟩
 |update a q f k i=>show λp s h w=>⟨w.1,i _ p _ h w.2⟩
 |alloc o k i=>show λp s h=>i _ p _ h
 |loadIfAlive a k i=>show λp s=>i _ p s
 |point l k i=>show i _
 |fresh k i=>show λp s h=>i _ p _<|Ax h
 |ask k i=>show λp s=>i _ p s
 |choose L n k i=>show λp s h w=>⟨w.1,i _ p _ h w.2⟩
 |os q l k i=>show λp s h=>i _ p _ h
 |call c hd g l k i=>show λp s h w=>w.elim λr w=>w.elim λd w=>⟨r,d,w.1,i _ p d (bO h<|Runs.toks w.1) w.2⟩
 |handled o k i=>show λp s=>i _ p s
 |genState g k i=>show λp s h w=>w.elim λo w=>⟨o,w.1,i _ p s h w.2⟩
 |newGen c k i=>show λp s h=>i _ p _ h
 |resume g r l k i=>show λp s h w=>w.elim λr w=>w.elim λd w=>⟨r,d,w.1,i _ p d (bO h<|QDh w.1) w.2⟩
 |stack k i=>show λp s=>i _ p s
 |thread k i=>show λp s=>i _ p s
 |_=>show λp s h w=>w.elim
theorem wpAny_toks {α:Type} {m:cM α} {Q:α->aV->Prop} {E:aO->aV->Prop} (h:aZ M A m (λa n=>s.toks<=n.toks->Q a n) (λe n=>s.toks<=n.toks->E e n) s):aZ M A m Q E s:=λL p H=>WL m s.toks p s (cY _)<|h L p H
def jD (n:Nat) (A:de):Prop:=A.handled=aE/\A.depth+n<=900/\A.units+10*n+300<=9900
structure Wd where
 prog:uQ
 w:dF
 P:wx
 G:bq
 n:Nat
 o:dn
 mg:aN->Option aO
 fns:List aN
 hm:Nat->Option (aN×aP)
 dV:Nat->Fc->Prop
 hc:aP
structure Fx where
 A:de
 env:eB
 Ob:aP->Prop
structure Zs where
 s:aV
 W:aP->Prop
 φ:Nat->Option aP
def Zs.to (z:Zs) (h:bq) (tk:gZ):Zs:={z with s:={z.s with heap:=h,toks:=tk}}
structure FX (D:Wd) (C:Fc) (X:Fx) (r:cU) (z:Zs):Prop where
 F:FR D.P D.G C X.env X.Ob z.φ z.W r z.s.heap
 R:jD D.n X.A
 t:1<=z.s.toks
structure Sx (z z':Zs):Prop where
 st:fk z.W z.s.heap z'.W z'.s.heap
 t:z.s.toks<=z'.s.toks
 f:z'.φ=z.φ
 e:z'.s={z.s with heap:=z'.s.heap,toks:=z'.s.toks,drawn:=z'.s.drawn}
def VR (P:wx) (φ:Nat->Option aP) (X:aP->Prop) (h:bq) (v:aO):V->Prop
 |.d d=>Rd X h v d
 |.bor i=> ∃a,φ i=aA a/\v=aG a
 |.inst=> ∃x a,φ bC=aA a/\v=aG x/\P.HI X h x a
 |.emp=>True
theorem VR.mon {P φ X h v X' h'} (x:VR P φ X h v u) (m:Mon X h X' h'):VR P φ X' h' v u:=by
 induction u with
 |d d=>show Rd.mon x m
 |bor i=>show x
 |inst=>show cI x λy a Y e q=>(d0 y a Y e<|P.lh q m)
 |emp=>trivial
def Rz (X:Fx) (z:Zs) (u:aO) (d:aM):Prop:=Rd (Ex X.Ob z.W) z.s.heap u d
def kH (X:Fx) (z:Zs) (us:List aO) (ds:List aM):Prop:=bU (Ex X.Ob z.W) z.s.heap us ds
def Vz (D:Wd) (X:Fx) (z:Zs) (u:aO) (v:V):Prop:=VR D.P z.φ (Ex X.Ob z.W) z.s.heap u v
inductive j7 (D:Wd) (X:Fx) (z:Zs):List aO->List V->Prop
 |nil:j7 D X z [] []
 |cons {u us v vs}:Vz D X z u v->j7 D X z us vs->j7 D X z (u::us) (v::vs)
section
variable {v x y:V} {d:aM} {h':bq} {tk:gZ} {Q:aO->aV->Prop} {E:aO->aV->Prop}
theorem Sx.mon {X:Fx} (s:Sx z z'):Mon (Ex X.Ob z.W) z.s.heap (Ex X.Ob z'.W) z'.s.heap:=s.st.mon
theorem Sx.refl:Sx z z:=⟨.refl _ _,cY _,rfl,rfl⟩
theorem Sx.trans (a:Sx z z') (b:Sx z' z''):Sx z z'':=⟨a.st.trans b.st,bO a.t b.t,b.f.trans a.f,by (erw[b.e];show sb a.e rfl)⟩
theorem Vz.mon (q:Vz D X z u v) (s:Sx z z'):Vz D X z' u v:=by unfold Vz;show sb s.f<|VR.mon q s.mon
theorem Rz.mon (q:Rz X z u d) (s:Sx z z'):Rz X z' u d:=Rd.mon q s.mon
theorem kH.mon {us ds} (q:kH X z us ds) (s:Sx z z'):kH X z' us ds:=bU.mon q s.mon
theorem j7.mon {us vs} (q:j7 D X z us vs) (s:Sx z z'):j7 D X z' us vs:=by
 induction q with
 |nil=>show .nil
 |cons a _ i=>show .cons (a.mon s) i
theorem Sx.kl (K:FX D C X r z) (k:Kl X.env.locals z.s.heap h') (l:z.s.toks<=tk):Sx z (z.to h' tk):=⟨K.F.QK k,l,rfl,rfl⟩
theorem FX.kl (K:FX D C X r z) (k:Kl X.env.locals z.s.heap h') (l:z.s.toks<=tk):FX D C X r (z.to h' tk):=⟨K.F.kl k,K.R,bO K.t l⟩
def KE (D:Wd) (C:Fc) (X:Fx) (r:cU) (z:Zs) (v:V) (Q:aO->aV->Prop):Prop:= ∀u Z,FX D C X r Z->Sx z Z->Vz D X Z u v->Q u Z.s
theorem KE.new (k:KE D C X r z (.d d) Q) (K:FX D C X r z) (kl:Kl X.env.locals z.s.heap h') (q:Rd (Ex X.Ob z.W) h' u d):z.s.toks<=tk->Q u {z.s with heap:=h',toks:=tk}:=λl=>k u (z.to h' tk) (K.kl kl l) (.kl K kl l) q
theorem KE.same (k:KE D C X r z (.d d) Q) (K:FX D C X r z) (q:Rd (Ex X.Ob z.W) z.s.heap u d):z.s.toks<=tk->Q u {z.s with toks:=tk}:=k.new K (.refl _ _) q
def KB (D:Wd) (C:Fc) (X:Fx) (r:cU) (z:Zs) (b:Bool) (Q:Bool->aV->Prop):Prop:= ∀Z,FX D C X r Z->Sx z Z->Q b Z.s
theorem KB.same {Q:Bool->aV->Prop} (k:KB D C X r z b Q) (K:FX D C X r z):z.s.toks<=tk->Q b {z.s with toks:=tk}:=λl=>k (z.to z.s.heap tk) (K.kl (.refl _ _) l)<|.kl K (.refl _ _) l
inductive HF (X:Fx) (z:Zs):aO->List aM->Prop
 |mk {a vs n xs}:z.s.heap.get? a=some (listOf vs.toArray n)->bU (Ex X.Ob z.W) z.s.heap vs xs->HF X z (Value.ref a) xs
inductive Oi (X:Fx) (z:Zs):aO->List aM->Prop
 |mk {a vs n xs}:z.s.heap.get? a=some {cls:=Value.type "tuple",data:=Data.seq vs.toArray n}->bU (Ex X.Ob z.W) z.s.heap vs xs->Oi X z (Value.ref a) xs
theorem Mr {xs} (q:Vz D X z u (.d<|aK xs)):HF X z u xs:=fh (Rd.lst_inv q) λa v n e C O p=>sb e<| .mk C p
theorem l6 {xs} (K:FX D C X r z) (q:Vz D X z u x) (e:jP r x xs):HF X z u xs:=by
 induction e with
 |d=>show Mr q
 |bor R=>show fH (K.F.own _ _ R) λa m n Y v h=>aT q λb p B=>sb B ?_;clear K R q B;obtain rfl:=bt Y p;show .mk v h
theorem Fo {xs} (q:Vz D X z u (.d<|bw xs)):Oi X z u xs:=fh (Rd.Dy q) λa v n e C O p=>sb e<| .mk C p
theorem i6 {h:bq} {vs:List aO} (e:h.get? a=aA (listOf vs.toArray n)):h.IsList a vs.toArray:=⟨_,e,rfl,n,rfl⟩
theorem ky:oF=16777216:=by decide
theorem FR.xi {P G C env Ob φ W r} (K:FR P G C env Ob φ W r h) (e:h.get? a=aE): ¬ Ex Ob W a:=λq=>bE (K.fe _ q) λo q=>dy e q
theorem FR.xM {P G C env Ob φ W r} (K:FR P G C env Ob φ W r h): ¬ Ex Ob W h.objs.size:=K.xi<|kJ<|cY _
theorem FX.fresh {vs ds} (K:FX D C X r z) (R:kH X z vs ds) (n:Nat):Rd (Ex X.Ob z.W) (z.s.heap.push<|listOf vs.toArray n) (aG z.s.heap.objs.size) (aK ds):=Rd.lst (gz _ rfl) K.F.xM<|bU.mon R<|.all λO O e=>iW _ e
theorem FX.freshT {vs ds} (K:FX D C X r z) (R:kH X z vs ds) (n:Nat):Rd (Ex X.Ob z.W) (z.s.heap.push {cls:=bp "tuple",data:=jr vs.toArray n}) (aG z.s.heap.objs.size) (bw ds):=Rd.tup (gz _ rfl) K.F.xM<|bU.mon R<|.all λO O e=>iW _ e
theorem FX.led (K:FX D C X r z): ∃h m news,Fr h X.env.locals z.s.heap m/\vr h X.env.locals z.s.heap news/\
 (∀h' n,Fr h X.env.locals h' m->vr h X.env.locals h' n->(∀p∈news,p∈n)->Kl X.env.locals z.s.heap h')/\
 (∀h' D o n,vr h X.env.locals h' ((D,o)::n)->(∀p∈news,p.1<D)->z.s.heap.get? D=aE):=by
 show aT K.F.loc λm e O=>sJ (C_ z.s.heap e) λh news F N L O x=>(om h m news F N (λh' n f l s=>Kl.of e x f l s) λh' D o n l g=>?_);have t:=l _<|.head _;induction q:z.s.heap.get? D with
 |none=>rfl
 |some H=>
  rcases x D H q t.2.1 with Q|Q
  ·show dy t.2.2 Q
  ·show QIe (g _ Q)<|oD _
theorem Zj {w:dF} (hb:mD op a b c) (h: ∀t tk,Q (bS c t) {s with toks:=tk}):aZ (bH prog w) A (binaryOp op (bS a t)<|bS b t') Q E s:=by
 induction hb with
 |add=>show QIR<|h _ _
 |sub=>show QIS<|h _ _
 |mul q=>show QIT (h _ _)<|IntMulOk.of_le (cY _) (cY _) q
 |fdiv q R=>show floordiv_int q (h _ _)<|.inl R
 |fmod q=>show mod_int' q<|h _ _
 |pow q R=>show pow_int q R<|h _ _
 |shl q R=>show lshift_int q R<|h _ _
 |shr q=>show rshift_int q<|h _ _
 |and=>show and_int<|h _ _
 |or=>show or_int<|h _ _
 |xor=>show xor_int<|h _ _
theorem bU.rep {X h} {vs:List aO} (r:bU X h vs xs): ∀n,bU X h (hG n vs).flatten (hG n xs).flatten:=by
 intro O;induction O with
 |zero=>show bU.nil
 |succ n i=>show r.app<|i
theorem o_ {X:aN} {k:Int} (x:X.length<=4096) (H:k<=4096) (i: -4096<=k):MulOk X k:=by
 show ⟨by simp;show ⟨(bR i),(bR H)⟩,λh O c=>?_,λh O=>?_⟩
 ·have:=lN (QGE (su.mpr x) H (by grind_order)<|cT _) (by decide:(4096:Nat)*(4096:Int)<=2^63 - 1)
  show QIe (Int.le_ediv_of_mul_le (pb.mp ‹_›) this) λK=>gX K c
 ·have:X.length*k.toNat<=4096*4096:=oH x (((QGF 0<|k).elim (λu=>(oM<|bN (iL<|oI (u:0<=k)) H)) λu=>(aS<|nL<|Int.toNat_of_nonpos (u:k<=0))))
  simp only[Builtin.Str.tooLong,decide_eq_false_iff_not];simp only[ky];show jt.mpr ‹_›
theorem s_ {op:jY} (hb:d7 r op x y d) (K:FX D C X r z) (M:Vz D X z u x) (Y:Vz D X z u' y) (k:KE D C X r z (.d d) Q):aZ (bH D.prog D.w) X.A (binaryOp op u u') Q E z.s:=by
 induction hb with
 |int e=>show bE (Rd.fm M) λt g=>sb g<|bE (Rd.fm Y) λU g=>sb g<|wpAny_toks<|Zj e λt i=>k.same K<|.int _ _
 |cat e=>show bE (Rd.fD M) λt g=>sb g<|bE (Rd.fD Y) λU g=>sb g<|wpAny_toks<|PyProof.Rows.add_str (λt i=>k.same K<|.str _ _)<|ky▸e
 |rep R Z l=>show bE (Rd.fD M) λt g=>sb g<|bE (Rd.fm Y) λU g=>sb g<|wpAny_toks<|SB.mul (o_ R Z l) λt i=>k.same K<|.str _ _
 |mul e R Z l=>
  show bE (Rd.fm Y) λU g=>sb g ?_;induction l6 K M e with
  |mk B v=>show fh K.led λh m a F N H q=>wpAny_toks<|KMa.mul F N (i6 B) l Z (v.len▸R) rfl λD L f n P=>?_;have b:=H _ _ f n λp=>Av _;show k.new K b<|Rd.lst (n _<|.head _).1 (K.F.xi<|q _ _ _ _ n P)<|(v.rep _).mon<|K.F.I2 b
 |add R Z o=>
  induction l6 K M R with
  |mk B v=>
   induction l6 K Y Z with
   |mk c j=>show fh K.led λh m a F N H q=>wpAny_toks (add_lists F N (i6 B) (i6 c) (λL f n=>?_) (by simp only[ky,v.len,j.len];show o));have b:=H _ _ f n λp=>Av _;show k.new K b<|Rd.lst (n _<|.head _).1 K.F.xM<|(v.app j).mon<|K.F.I2 b
theorem IY {X:aP->Prop} {v:aO} {k:Nat} (R:Rd X h v d) (o:gr k d=aC): ∃as,Ay h v (yD d) as:=aT R λL l i=>kqd_in l.news k i o
theorem H5 {X:aP->Prop} {vs:List aO} {k:Nat} (e:h.get? a=aA (listOf vs.toArray k)) (R:bU X h vs xs) (ok:tN xs): ∃as,Ay h (aG a) (yD<|aK xs) as:=aT R λled l i=>bE (kqd_all l.news 8 i<|fN.mp ok) λas q=>⟨_,reads_list_at e rfl rfl q⟩
theorem tm (hd:gr 9 d=aC):QGG (yD d)=true:=by have l:=kqd_lay 9 d hd;unfold QGG;simp only[l.1,Az];show QIo (bO l.2<|by ext)
theorem XX (R:jD n A):A.units+1+64<cLine:=by have:=R.2.2;show (?_:A.units+1+64<9900);show aS this
theorem Cu (h:u+1+64<c):u+64<c:=s7 ‹_›
theorem tf {p:Prop} (h:b=aC↔p):(p->b=aC)/\(¬ p->b=aD):=⟨h.mpr,λn=>yB.mpr λq=>n<|h.mp q⟩
theorem KP {w:dF} {A:de} {s:aV} {v P:aO} {p:Prop} {c:Bool} {as bs:List aP} (r:Ay s.heap v (yD d) as) (R:Ay s.heap P (yD e) bs) (hd:gr 9 d=aC) (F:gr 9 e=aC) (hu:A.units+1+64<cLine)
 (o:tY p op c) (a:d=e↔p) (h:Q (dD c) s):aZ (bH prog w) A (uR op v P) Q E s:=by
 have k:=tf<|(kqd_eqv 9 d e 9 hd F).trans a;induction o with
 |eqT q=>show eq_dataH r R (tm hd) (tm F) (Cu hu)<|k.1 q▸h
 |xI q=>show eq_dataH r R (tm hd) (tm F) (Cu hu)<|k.2 q▸h
 |neT q=>show ne_dataH r R (tm hd) (tm F) (Cu hu)<|k.2 q▸h
 |CP q=>show ne_dataH r R (tm hd) (tm F) (Cu hu)<|k.1 q▸h
theorem QFl {w:dF} {A:de} {s:aV} {v F:aO} {c:Bool} {as bs:List aP} (r:Ay s.heap F (yD<|aK ys) as) (R:Ay s.heap v (yD d) bs) (q1:tN ys) (q2:gr 8 d=aC) (hu:A.units+1+64<cLine)
 (o:xP (d∈ys) op c) (h:Q (dD c) s):aZ (bH prog w) A (uR op v F) Q E s:=by
 have k:=tf<|kqd_any ys d (fN.mp q1) q2;have l:=kqd_lay 8 _ q2;have g:=fq (ES (bO (Eb (PyData.depthAll<|kqdPs ys) _)<|bO l.2<|by ext) _) hu;have L:=(kqd_layL<|fN.mp q1).1;induction o with
 |TA q=>show QGH r R L l.1 g<|k.1 q▸h
 |inF q=>show QGH r R L l.1 g<|k.2 q▸h
 |niT q=>show QGI r R L l.1 g<|k.2 q▸h
 |S0 q=>show QGI r R L l.1 g<|k.1 q▸h
theorem Lv {w:dF} (hb:sj op a b c) (h: ∀tk,Q (dD c) {s with toks:=tk}):aZ (bH prog w) A (uR op (bS a t)<|bS b t') Q E s:=by
 induction hb with
 |eq=>show QIU<|h _
 |ne=>show QIV<|h _
 |lt=>show QIW<|h _
 |le=>show QIX<|h _
 |gt=>show QIY<|h _
 |ge=>show QIZ<|h _
theorem Nb {op:jF} (hb:f9 r op x y c) (K:FX D C X r z) (M:Vz D X z u x) (Y:Vz D X z u' y) (k: ∀tk,Q (dD c) {z.s with toks:=tk}):aZ (bH D.prog D.w) X.A (uR op u u') Q E z.s:=by
 have U:=XX K.R;induction hb with
 |int e=>show bE (Rd.fm M) λt g=>sb g<|bE (Rd.fm Y) λN g=>sb g<|Lv e k
 |str e=>
  show bE (Rd.fD M) λt g=>sb g<|bE (Rd.fD Y) λN g=>sb g ?_
  clear K U M Y g;induction e with
  |eqT q=>show QGJ<|(QIi).mpr q▸k _
  |xI q=>show QGJ<|beq_eq_false_iff_ne.mpr q▸k _
  |neT q=>show QGK<|(bne_iff_ne).mpr q▸k _
  |CP q=>show QGK<|q▸(QIk (α:=aN) _).symm▸k _
 |inl e o d i=>
  induction l6 K Y e with
  |mk b B=>show bE (H5 b B o) λas f=>bE (IY M d) λa F=>QFl f F o d U i<|k _
 |tup o d e=>show bE (IY (k:=9) M o) λas f=>bE (IY (k:=9) Y d) λa F=>KP f F o d U e ⟨λe=>by clear o d M Y k f F;cases e;rfl,λe=>by show sb e rfl⟩<|k _
 |lst L n o d e=>
  induction l6 K M L with
  |mk H v=>
   induction l6 K Y n with
   |mk b B=>show bE (H5 H v o) λas f=>bE (H5 b B d) λa F=>KP f F o d U e ⟨λe=>by clear v L o B n d f F;clear H M b Y;cases e;rfl,λe=>by show sb e rfl⟩<|k _
end
section
variable {v x y:V} {d:aM} {h':bq} {tk:gZ} {Q:aO->aV->Prop} {E:aO->aV->Prop}
theorem KE.tr (k:KE D C X r z v Q) (s:Sx z z'):KE D C X r z' v Q:=λu Z K n q=>k u Z K (s.trans n) q
theorem KB.tr {Q:Bool->aV->Prop} (k:KB D C X r z b Q) (s:Sx z z'):KB D C X r z' b Q:=λZ K n=>k Z K<|s.trans n
theorem Tf {vs:List aO} {xs:List aM} (h:vs.length=xs.length):(!vs.toArray.isEmpty)= !xs.isEmpty:=by
 cases vs<;>cases xs<;>first|rfl|trivial
theorem NK {X:aP->Prop} {vs:List aO} (R:bU X h vs xs) (l:xs.length<=n):vs.toArray.size<=n:=by simp! only[jH,R.len];show l
theorem HQ {X:aP->Prop} {vs:List aO} (R:bU X h vs xs) (l:xs.length<2^63):(vs.toArray.size:Int)<2^63:=by simp! only[jH,R.len];show bR<|oL l
theorem WK {n:Nat} (l:n<2^63):(n:Int)<2^63:=bR<|oL l
theorem Yv (l:n<=16777216):n<2^63:=fq ‹_› (by ext)
theorem yz {Q:Bool->aV->Prop} (hb:oz r x b) (K:FX D C X r z) (M:Vz D X z u x) (k:KB D C X r z b Q):aZ (bH D.prog D.w) X.A (JC u) Q E z.s:=by
 show wpAny_toks ?_;induction hb with
 |none=>show sb (Rd.none_inv M)<|PyProof.Rows.truthy_none<|k.same K
 |bool=>show sb (Rd.bool_inv M)<|wpAny_truthy_bool<|k.same K
 |int=>show bE (Rd.fm M) λt g=>sb g<|PyProof.Rows.truthy_int<|k.same K
 |str q=>
  show bE (Rd.fD M) λt g=>sb g<|PySem.P.truthy_str ((λW=>(gX W<|oL q))) ?_
  rw[show∀n:Nat,((n:Int) !=0)=(n !=0) from λn=>by rw[Ec];simp];show k.same K
 |lst e q=>
  induction l6 K M e with
  |mk Y v=>show wpAny_truthy_list (i6 Y) (HQ v<|Yv q) ?_;rw[Tf v.len];show k.same K
theorem NO {X:aP->Prop}: ∀{ns:List Int} {vs:List aO},bU X h vs (ns.map aB)->IntsAre vs ns:=by
 intro ns;induction ns with
 |nil=>show @λvs R=>sb R.lg<| .nil
 |cons i ns d=>show @λvs R=>by show cI R.jR λv b B p q=>sb B<|bE p.fm λt e=>sb e<| .cons i t<|d q
theorem WD {X:aP->Prop}: ∀{ns:List aN} {vs:List aO},bU X h vs (ns.map aI)-> ∃l,vs=yE l/\l.map (·.1)=ns:=by
 intro ns;induction ns with
 |nil=>show @λvs R=>sb R.lg<|(bJ [] rfl rfl)
 |cons i x d=>show @λvs R=>by show cI R.jR λv b B p q=>sb B<|bE p.fD λt e=>sb e<|aT (d q) λl e B=>sb e<|dA B<|(bJ ((i,t)::l) rfl rfl)
theorem Lj (lt:Int->Int->Prop) [DecidableRel lt] (le:Int->Int->Prop) (H: ∀a,le a a) (p: ∀a b,lt a b->le a b) (Q: ∀a b, ¬ lt a b->le b a) (t: ∀a b c,le a b->le b c->le a c):
 ∀l a,(l.foldl (λm x=>if lt m x then x else m) a)∈a::l/\ ∀b∈a::l,le b<|l.foldl (λm x=>if lt m x then x else m) a:=by
 intro O;induction O with
 |nil=>show λa=>⟨.head _,λb hb=>by cases hb with|head=>show H _|tail _ h=>trivial⟩
 |cons c l d=>
  show λa=>by
   show bP (d<|if lt a c then c else a) λi1 i=>?_
   simp! only[vu]
   have u:=i _<|.head _
   have A:le a (if lt a c then c else a)/\le c (if lt a c then c else a):=by
    split
    ·show ⟨p _ _ ‹_›,H _⟩
    ·show ⟨H _,Q _ _ ‹_›⟩
   show ⟨?_,λb hb=>?_⟩
   ·show Or.elim (dR.mp i1) (λq=>?_) λq=>?_
    ·simp! only[q]
     split
     ·show .tail _<|.head _
     ·show .head _
    ·show .tail _<|.tail _ q
   ·cases hb with
    |head=>show t _ _ _ A.1 u
    |tail _ hb=>
     cases hb with
     |head=>show t _ _ _ A.2 u
     |tail _ hb=>show i _<|.tail _ hb
theorem TH {ns:List Int} (A:M∈a::ns) (H: ∀b,b∈a::ns->b<=M):M=F9 a ns:=bP (Lj (λm x=>x>m) (· <= ·) (λO=>yF _) (λO O=>cR) (λO O h=>pb.mp h) (λO O O=>lN) ns a) λp i=>nF (i _ A)<|H _ p
theorem QCi {ns:List Int} (A:M∈a::ns) (H: ∀b,b∈a::ns->M<=b):M=M9 a ns:=bP (Lj (λm x=>x<m) (· >= ·) (λO=>yF _) (λO O=>cR) (λO O h=>pb.mp h) (λO O O h o=>lN o h) ns a) λp i=>nF (H _ p)<|i _ A
theorem j7.one (q:j7 D X z us [v]): ∃u,us=[u]/\Vz D X z u v:=by cases q with|cons a b=>cases b;show (bJ _ rfl a)
theorem j7.two {us:List aO} (q:j7 D X z us [x,y]): ∃u u',us=[u,u']/\Vz D X z u x/\Vz D X z u' y:=by
 cases q with|cons a b=>cases b with|cons b c=>cases c;show (d0 _ _ rfl a b)
theorem j7.zero (q:j7 D X z us []):us=[]:=by cases q;rfl
def vI (b:Bi):Value:=match b with
 |.len=>bx "len" |.sum=>bx "sum" |.lZ=>bx "max" |.max2=>bx "max" |.zr=>bx "min" |.min2=>bx "min" |.abs=>bx "abs" |.chr=>bx "chr" |.ord=>bx "ord"
 |.tv=>bp "str" |.vA=>bp "int" |.divmod=>bx "divmod"
theorem Nx {id:String} {ns:List Int} {G:Int} (e:jP r x ((a::ns).map aB)) (K:FX D C X r z) (M:Vz D X z u x) (k:KE D C X r z (.d<|aB G) Q)
 (P: ∀{p:aP} {vs:List aO} {h:bq} {m:aN->Option aO} {news:List (aP×bk)} {Q:aO->aV->Prop} {E:aO->aV->Prop},Fr h X.env.locals z.s.heap m->vr h X.env.locals z.s.heap news->z.s.heap.IsList p vs.toArray->IntsAre vs (a::ns)->
  (∀h' t tk,Fr h X.env.locals h' m->vr h X.env.locals h' news->Q (bS G t) {z.s with heap:=h',toks:=tk})->aZ (bH D.prog D.w) X.A (call (bx id) [aG p]) Q E z.s):aZ (bH D.prog D.w) X.A (call (bx id) [u]) Q E z.s:=by
 cases l6 K M e with
 |mk Y v=>show fh K.led λh m news F N b Z=>wpAny_toks<|P F N (i6 Y) (NO v) λh' t tk f n=>k.new K (b _ _ f n λp L=>L)<|.int _ _
theorem c_ {b:Bi} {vs:List V} {us:List aO} (hb:cy r b vs d) (K:FX D C X r z) (x:j7 D X z us vs) (k:KE D C X r z (.d d) Q):aZ (bH D.prog D.w) X.A (call (vI b) us) Q E z.s:=by
 induction hb with
 |kX h=>show aT x.one λu g q=>sb g<|bE (Rd.fD q) λt g=>sb g<|wpAny_toks<|SBL.len (WK h)<|k.same K<|.int _ _
 |oo e h=>
  show aT x.one λu g q=>sb g ?_;clear x;clear g;induction e with
  |l e=>
   induction l6 K q e with
   |mk p v=>show wpAny_toks<|QIa (i6 p) (HQ v h) ?_;show sb jH<|sb v.len<|k.same K<|.int _ _
  |t=>
   cases Fo q with
   |mk p v=>show wpAny_toks<|QIb ⟨_,p,rfl,_,rfl⟩ (HQ v h) ?_;show sb jH<|sb v.len<|k.same K<|.int _ _
 | @sum _ ns e=>
  show aT x.one λu g q=>sb g ?_;cases l6 K q e with
  |mk p v=>
   have i:=NO v;show bE i.allInts.items λys W=>wpAny_toks<|sum_intListG K.R.1 (W▸i6 p) λU Y t' m=>?_;have:preSum (numAt ys) ys.size=ns.sum:=by rw[preSum_eq,vv (by simp),<-nums_intItems,<-W,<-i.numsOf]
   show sb this<|k.new K (.all m)<|.int _ _
 |lZ e=>show aT x.one λu g q=>sb g<|Nx e K q k λF N j i h=>max_list_N K.R.1 F N j i (Q2 _) λU M t Y f n o Z=>TH o Z▸h U t Y f n
 |zr e=>show aT x.one λu g q=>sb g<|Nx e K q k λF N j i h=>min_list_N K.R.1 F N j i (Q2 _) λU M t Y f n o Z=>QCi o Z▸h U t Y f n
 |max2=>show cI x.two λu u' B o Z=>sb B<|bE (Rd.fm o) λt g=>sb g<|bE (Rd.fm Z) λt' g=>sb g<|wpAny_toks (max_two_ints K.R.1 λU Y m=>k.new K (.all m)<|by split<;>show .int _ _)
 |min2=>show cI x.two λu u' B o Z=>sb B<|bE (Rd.fm o) λt g=>sb g<|bE (Rd.fm Z) λt' g=>sb g<|wpAny_toks (min_two_ints K.R.1 λU Y m=>k.new K (.all m)<|by split<;>show .int _ _)
 |abs=>show aT x.one λu g q=>sb g<|bE (Rd.fm q) λt g=>sb g<|wpAny_toks<|PyProof.Rows.call_abs_int λO O=>k.same K<|.int _ _
 |chr L H=>show aT x.one λu g q=>sb g<|bE (Rd.fm q) λt g=>sb g<|wpAny_toks<|chr_of_range L H<|k.same K<|.str _ _
 |ord h=>show aT x.one λu g q=>sb g<|bE (Rd.fD q) λt g=>sb g<|wpAny_toks<|ord_of_one h<|k.same K<|.int _ _
 | @tv a c=>
  show aT x.one λu g q=>sb g<|bE (Rd.fm q) λt g=>sb g<|wpAny_toks<|PySem.P.str_of_int ?_<|k.same K<|.str _ _
  by_cases h0:a.natAbs=0
  ·erw[h0]
   decide
  ·show (Nat.log2_lt h0).mpr (oC c<|by decide+kernel)
 |vA h e=>show aT x.one λu g q=>sb g<|bE (Rd.fD q) λt g=>sb g<|wpAny_toks<|KIN.call_text e h<|k.same K<|.int _ _
 | @divmod a b L H=>show cI x.two λu u' B o Z=>sb B<|bE (Rd.fm o) λt g=>sb g<|bE (Rd.fm Z) λt' g=>sb g<|wpAny_toks<|divmod_int L (k.new K (Kl.push _)<|K.freshT (.cons (.int _ _)<|.cons (.int _ _) .nil) 0)<|.inl H
def Ip (b:Sm):String:=match b with
 |.lower=> "str.lower" |.upper=> "str.upper" |.swapcase=> "str.swapcase" |.rstrip=> "str.rstrip" |.wU=> "str.lstrip" |.split=> "str.split" |.join=> "str.join" |.bits=> "int.bit_length"
def Bn (b:Sm):Str:=match b with
 |.lower=> "lower" |.upper=> "upper" |.swapcase=> "swapcase" |.rstrip=> "rstrip" |.wU=> "lstrip" |.split=> "split" |.join=> "join" |.bits=> "bit_length"
theorem Ul {X:aP->Prop}: ∀l:List (aN×gZ),bU X h (yE l)<|(l.map (·.1)).map aI:=by
 intro O;induction O with
 |nil=>show bU.nil
 |cons O l i=>obtain ⟨x,t⟩:=O;show bU.cons (.str x t)<|i
theorem UO {vs:List V} (hb:j8 r b x vs d) (K:FX D C X r z) (M:Vz D X z u x) (v:j7 D X z us vs) (k:KE D C X r z (.d d) Q):aZ (bH D.prog D.w) X.A (call (bx<|Ip b)<|u::us) Q E z.s:=by
 show wpAny_toks ?_;cases hb with
 |bits=>show sb v.zero<|bE (Rd.fm M) λt g=>sb g<|call_int_bit_length<|k.same K<|.int _ _
 |lower h=>show sb v.zero<|bE (Rd.fD M) λt g=>sb g<|SCL.lower h λO=>k.same K<|.str _ _
 |upper h=>show sb v.zero<|bE (Rd.fD M) λt g=>sb g<|SCL.upper h λO=>k.same K<|.str _ _
 |swapcase h=>show sb v.zero<|bE (Rd.fD M) λt g=>sb g<|SCL.swapcase h λO=>k.same K<|.str _ _
 |rstrip h=>show sb v.zero<|bE (Rd.fD M) λt g=>sb g<|SC.rstrip (λO O=>k.same K<|.str _ _)<|ky▸h
 |wU h=>show aT v.one λU g q=>sb g<|bE (Rd.fD M) λt g=>sb g<|bE (Rd.fD q) λc g=>sb g<|SC.lstripChars (λO O=>k.same K<|.str _ _)<|ky▸h
 |split L i=>
  show aT v.one λU g q=>sb g<|bE (Rd.fD M) λt g=>sb g<|bE (Rd.fD q) λc g=>sb g<|fh K.led λH m a F N B P=>KSpl.split1 F N (by simpa -iota using i) (λD l o W e O f n R=>?_) (by erw[ky];show aS L)
  show k.new K (B _ _ f n λp=>Av _)<|Rd.lst (n _<|.head _).1 (K.F.xi<|P _ _ _ _ n R)<|e▸Ul l
 |join e h=>
  show aT v.one λU g q=>sb g<|bE (Rd.fD M) λt g=>sb g ?_
  cases l6 K q e with
  |mk Y Z=>show aT (WD Z) λl g j=>?_;clear Z;subst g;show SC.join (i6 Y) j h λO O=>k.same K<|.str _ _
theorem M0 {k:Int} (e:vw k n=aA j) (s:j<n): -(n:Int)<=k/\k<n/\(0<=k->k.toNat=j)/\(k<0->(k+(n:Int)).toNat=j):=by
 unfold vw at e;by_cases h0:k<0
 ·simp! only[h0,if_true] at e
  split at e
  ·rename_i c
   simp! only[gb,decide_eq_true_eq] at c
   cases e
   show ⟨(bR c.1),⟨(bN c.1<|mI 2 h0),⟨(λx0=>(gX h0 x0)),(λx0=>(by simp+arith))⟩⟩⟩
  ·show bM e
 ·simp! only[h0,QIn] at e
  split at e
  ·rename_i c
   simp! only[gb,decide_eq_true_eq] at c
   cases e
   show ⟨(bN (Q3 h0)<|oZ<|n),⟨c.2,⟨(λx0=>(by simp+arith)),(λx0=>(gX x0<|Q3 h0))⟩⟩⟩
  ·show bM e
theorem QDH (hb:cN r x i d) (F: ∀o i,A0 L aD o i=A1 [o,i] (A2 o i)) (K:FX D C X r z) (M:Vz D X z u x) (k:KE D C X r z (.d d) Q):aZ (bH D.prog D.w) X.A (QGL h L u<|bS i t) Q E z.s:=by
 show wpAny_toks ?_;cases hb with
 |str Y N p=>show bE (Rd.fD M) λt g=>?_;subst g;show cI (SB.item (by simp -iota [fitsSsize];show ⟨(bN Y<|oL p),(bN N<|oL p)⟩) (charAt_isSome Y N)<|k.same K<|.str _ _) λT id hl U a=>Ee U hl a<|F _ _
 |seq e Z H ex=>
  have j:=(Ef.mp ex).1;cases e with
  |l e=>
   cases l6 K M e with
   |mk e1 e2=>
    show fR (M0 H j) λq B m f=>aT (e2.get ex) λv ev R=>Ee (i6 e1).typeIs QGM.lookup ?_<|F _ _;rw[<-Eg] at ev;by_cases h0:0<=i
    ·show wpAny_getItem_list (i6 e1) h0 (bN Z B) (m h0▸ev)<|k.same K R
    ·have h0:=As.mp h0
     show wpAny_getItem_list_neg (i6 e1) h0 (by simp! only[jH,e2.len];assumption) (bN Z q) (by simp! only[jH,e2.len,f h0];show ev)<|k.same K R
  |t=>
   cases Fo M with
   |mk e1 e2=>show fR (M0 H j) λq B O O=>aT (e2.get ex) λv ev R=>Ee (bJ _ e1 rfl) slot_tuple_getitem.lookup (getItem_tuple ⟨_,e1,rfl,_,rfl⟩ (bN Z q) (bN Z B) (by simp! only[jH,e2.len];show H) (by erw[Eg];show ev)<|k.same K R)<|F _ _
theorem zA (e:qV v l) (q:Vz D X z u v): ∃p:Option (Int×gZ),u=partValue p/\p.map (·.1)=l/\IsPart u l:=by
 induction e with
 |none=>show sb (Rd.none_inv q)<|(fw none rfl rfl IsPart.none)
 |int=>show bE (Rd.fm q) λt g=>sb g<|(fw (some (_,t)) rfl rfl (IsPart.int _ _))
theorem bU.picked {X:aP->Prop} {vs:List aO} (R:bU X h vs xs): ∀ks:List Nat,bU X h (ks.filterMap λk=>vs[k]?)<|ks.filterMap λk=>xs[k]?:=by
 intro O;induction O with
 |nil=>show bU.nil
 |cons k ks i=>
  show by
   simp! only[oK,oK]
   induction e:xs[k]? with
   |none=>erw[(by rw[QGN,R.len];show QGN.mp e:vs[k]?=aE)];show i
   |some d=>
    show aT (R.get e) λv m r=>?_
    simp! only[m]
    show bU.cons r<|i
noncomputable def xc (a b c:aO):Obj:={cls:=bp "slice",data:=eY #[a,b,c]}
theorem WE {R m vs:V} (e:fx r v R m vs d) (K:FX D C X r z) (N:Vz D X z u v) (hl:Vz D X z U R) (H:Vz D X z c m) (hs:Vz D X z us vs) (b: ∀o i,∃q,A0 L aD o i=A1 q (A2 o i)) (k:KE D C X r z (.d d) Q):
 aZ (bH D.prog D.w) X.A (QGL p L u<|aG z.s.heap.objs.size) Q E {z.s with heap:=z.s.heap.push<|xc U c us}:=by
 show bE (b u<|aG z.s.heap.objs.size) λq M=>wpAny_toks ?_;clear b;induction e with
 | @str Y _ _ l h n x hz=>
  show eE (zA n hl) λj g B O=>sb g ?_;subst B;show eE (zA x H) λP g B O=>?_;subst g;clear x hl n H;subst B;show bE (Rd.fD N) λt g=>?_;subst g;cases Rd.none_inv hs;show Ee (Q4 _ _ _) PySem.F.slot_str_getitem.lookup ?_ M;show wpAny_getItem_str_slice (l:=j) (u:=P) (st:=aE) (fw _ (gz _ rfl) rfl rfl) rfl ?_;have Z:=bO (Txt.slice_le Y (j.map (·.1))<|P.map (·.1)) (by simp! only[ky];show hz:Y.length<=oF);show post_val_or_str<|⟨Z,λt' tk=>?_⟩
  show k.new K (Kl.push _)<|Rd.str (ja Y (j.map (·.1))<|P.map (·.1)) t'
 | @lst _ xs _ _ _ l h st ex n x es f Z=>
  cases l6 K N ex with
  |mk e1 e2=>
   have g:=i6<|iW (xc U c us) e1;show eE (zA n hl) λO O O j=>eE (zA x H) λO O O P=>eE (zA es hs) λO O O ps=>Ee (g.typeIs) QGM.lookup ?_ M;show wpAny_getItem_list_slice g (Heap.IsSliceOf.new ..) j P ps f ?_ (by simp! only[ky];show NK e2 Z);have a:=e2.mon<|Mon.all (X:=Ex X.Ob z.W) (h':=z.s.heap.push<|xc U c us) λO O e=>iW _ e;show k.new K ((Kl.push _).trans<|Kl.push _) ?_;have:Rd (Ex X.Ob z.W) ((z.s.heap.push<|xc U c us).push _) (aG (z.s.heap.push<|xc U c us).objs.size) _:=(K.kl (Kl.push _)<|cY _).fresh (bU.picked a<|ET (mM l h st xs.length).1 (mM l h st xs.length).2.1 (mM l h st xs.length).2.2) 0;delta pJ slicePick
   simp! only[jH,e2.len]
   simpa -iota [Eh] using this
end
structure Gl (G:bq) (mg:aN->Option aO):Prop where
 g:G.Ns pj mg
 b:G.Ns js (G.nsMap js)
 bo: ∀x:aN,x≠ "__name__" ->G.nsMap js x=JD x
 lim:G.NoLimit
structure CS (D:Wd) (A:de) (X:aP->Prop) (s:aV):Prop where
 R:jD D.n A
 t:1<=s.toks
 base: ∀b o,D.G.get? b=aA o->s.heap.get? b=aA o
 gd: ∀b o,D.G.get? b=aA o-> ¬ X b
 al: ∀b,X b-> ∃o,s.heap.get? b=aA o
 pf: ∀b,D.P.PF b->X b
 inv:D.P.Inv X s.heap
structure CT (D:Wd) (X Y:aP->Prop) (s s':aV):Prop where
 keep: ∀b o,s.heap.get? b=aA o-> ¬ Y b-> ¬ D.P.PF b->s'.heap.get? b=aA o
 inv:D.P.Inv X s'.heap
 e:s'={s with heap:=s'.heap,toks:=s'.toks,drawn:=s'.drawn}
def qi (D:Wd) (a:aP) (xs:List aM) (d:aM):Prop:= ∀{A:de} {s:aV} {X:aP->Prop} {U:List aO} {Q:aO->aV->Prop} {E:aO->aV->Prop},CS D A X s->bU X s.heap U xs->(∀u n,CT D X (λO=>False) s n->Rd X n.heap u d->Q u n)->aZ (bH D.prog D.w) A (call (aG a) U) Q E s
def sV (D:Wd) (f:aP) (xs hs:List aM) (z:aM):Prop:=
 ∀{A:de} {s:aV} {X:aP->Prop} {U v:List aO} {x a:aP} {n:Nat} {Q:aO->aV->Prop} {E:aO->aV->Prop},CS D A X s->D.P.HI X s.heap x a->s.heap.get? a=aA (listOf v.toArray n)->bU X s.heap v hs->bU X s.heap U xs->
  (∀u F,CT D X (λO=>False) s F->Rd X F.heap u z->Q u F)->aZ (bH D.prog D.w) A (call (aG f)<|aG x::U) Q E s
def qo (D:Wd) (f:aP) (xs hs:List aM) (z:aM) (hs':List aM):Prop:=
 ∀{A:de} {s:aV} {X:aP->Prop} {U m:List aO} {x a:aP} {n:Nat} {Q:aO->aV->Prop} {E:aO->aV->Prop},CS D A X s->D.P.HI X s.heap x a->X a->s.heap.get? a=aA (listOf m.toArray n)->bU X s.heap m hs->bU X s.heap U xs->
  (∀u F v N,CT D X (λb=>b=a) s F->F.heap.get? a=aA (listOf v.toArray N)->bU X F.heap v hs'->Rd X F.heap u z->Q u F)->aZ (bH D.prog D.w) A (call (aG f)<|aG x::U) Q E s
def zM (D:Wd) (f:Nat) (xs:List aM) (l:Ls) (d:aM) (L:Ls):Prop:= ∀{C:Fc} {X:Fx} {z:Zs} {a:aP} {u:List aO} {Q:aO->aV->Prop} {E:aO->aV->Prop},D.dV f C->FX D C X (aR l) z->D.P.CL f (Ex X.Ob z.W) z.s.heap X.env.cells a->kH X z u xs->KE D C X (aR L) z (.d d) Q->aZ (bH D.prog D.w) X.A (call (aG a) u) Q E z.s
noncomputable def Cd:List Str:=["len","sum","max","min","abs","chr","ord","str","int","divmod","range","reversed","type","list"]
class eV (D:Wd):Prop where
 gl:Gl D.G D.mg
 Nc: ∀x∈Cd,D.mg x=aE
 F: ∀f xs d,D.o.F f xs d-> ∃nm a o fd,D.fns[f]?=aA nm/\D.mg nm=aA (aG a)/\D.G.get? a=aA o/\o.data=kn fd/\qi D a xs d
 gi: ∀x i,D.o.gi x i-> ∃t,D.mg x=aA (bS i t)
 gs: ∀x i,D.o.gs x i-> ∃t,D.mg x=aA (cP i t)
 Qm: ∀{A:de} {s:aV} {X:aP->Prop} {x a:aP} {Q:aO->aV->Prop} {E:aO->aV->Prop},(∀b o,D.G.get? b=aA o->s.heap.get? b=aA o)->D.P.HI X s.heap x a->(∀tk,Q (aG a) {s with toks:=tk})->aZ (bH D.prog D.w) A (getAttr (aG x) "_headers" aC) Q E s
 w9: ∀k nm fa,D.hm k=aA (nm,fa)-> ∃o fd,D.G.get? fa=aA o/\o.data=kn fd
 Ac: ∀k nm fa,D.hm k=aA (nm,fa)->k<20-> ∀{A:de} {s:aV} {X:aP->Prop} {x a:aP} {pl:cM Bool} {Q:aO×List aO->aV->Prop} {E:aO->aV->Prop},(∀b o,D.G.get? b=aA o->s.heap.get? b=aA o)->D.P.HI X s.heap x a->Q (aG fa,[aG x]) s->aZ (bH D.prog D.w) A (Ei (aG x) nm pl) Q E s
 MV: ∀k nm fa,D.hm k=aA (nm,fa)->20<=k->D.mg nm=aA (aG fa)
 H: ∀k xs hs z hs',D.o.H k xs hs z hs'-> ∃nm fa,D.hm k=aA (nm,fa)/\qo D fa xs hs z hs'
 R: ∀k xs hs z,D.o.R k xs hs z-> ∃nm fa,D.hm k=aA (nm,fa)/\sV D fa xs hs z
 QS: ∀{f:Nat} {X:aP->Prop} {h:bq} {cl:List (aN×aP)} {a:aP},D.P.CL f X h cl a-> ∃o fd,h.get? a=aA o/\o.data=kn fd
 L: ∀f xs l z l',D.o.L f xs l z l'->zM D f xs l z l'
 conv: ∀b,∃fa,D.hm 10=aA (("_convert_string_type" :aN),fa)/\ ∀xx,gU b xx=aC-> ∀{A:de} {s:aV} {X:aP->Prop} {x a:aP} {t:gZ} {Q:aO->aV->Prop} {E:aO->aV->Prop},jD D.n A->1<=s.toks->(∀b o,D.G.get? b=aA o->s.heap.get? b=aA o)->
  D.P.HI X s.heap x a->(∀h' tk,(∀b o,s.heap.get? b=aA o->h'.get? b=aA o)->Q (cP xx t) {s with heap:=h',toks:=tk})->aZ (bH D.prog D.w) A (call (aG fa) [aG x,cP xx t] [("name",dD b)]) Q E s
 b1: ∃a,D.mg "b1_set" =aA (aG a)/\ ∀{A:de} {s:aV} {i:Int} {t:gZ} {Q:aO->aV->Prop} {E:aO->aV->Prop},jD D.n A->(∀b o,D.G.get? b=aA o->s.heap.get? b=aA o)->(∀tk,Q (dD<|D.o.b1 i) {s with toks:=tk})->aZ (bH D.prog D.w) A (uR A3 (bS i t)<|aG a) Q E s
 b3: ∃a ob,D.mg "b3_exceptions" =aA (aG a)/\D.G.get? a=aA ob/\ob.cls=bp "dict" /\ob.dict=aE/\ ∀{A:de} {s:aV} {i:Int} {t:gZ} {Q:aO->aV->Prop} {E:aO->aV->Prop},jD D.n A->(∀b o,D.G.get? b=aA o->s.heap.get? b=aA o)->
  (∀u tk,(∀X h,Rd X h u<|D.o.b3 i)->Q u {s with toks:=tk})->aZ (bH D.prog D.w) A (call (bx "dict.get") [aG a,bS i t]) Q E s
 MP: ∃o,D.G.get? Ej=aA o/\o≠kF
 Qr: ∀{nm:aN} {fa:aP},D.hm 9=aA (nm,fa)-> ∀{A:de} {s:aV} {X:aP->Prop} {x a:aP} {u:aO} {Q:Unit->aV->Prop} {E:aO->aV->Prop},jD D.n A->(∀b o,D.G.get? b=aA o->s.heap.get? b=aA o)->D.P.HI X s.heap x a->
  aZ (bH D.prog D.w) A (call (aG fa) [aG x,u]) (λO s'=>Q () s') E s->aZ (bH D.prog D.w) A (delItem (aG x) u) Q E s
 new: ∀{A:de} {s:aV} {X:aP->Prop} {a:aP} {vs:List aO} {n:Nat} {xs:List aM} {Q:aO->aV->Prop} {E:aO->aV->Prop},jD D.n A->1<=s.toks->(∀b o,D.G.get? b=aA o->s.heap.get? b=aA o)->(∀b o,D.G.get? b=aA o-> ¬ X b)->(∀b,X b-> ∃o,s.heap.get? b=aA o)->
  xs.all vg=aC->s.heap.get? a=aA (listOf vs.toArray n)->bU X s.heap vs xs->
  (∀x h' tk,(∀b o,s.heap.get? b=aA o->h'.get? b=aA o)->D.P.HI X h' x a->Q (aG x) {s with heap:=h',toks:=tk})->aZ (bH D.prog D.w) A (call (aG D.hc) [aG a]) Q E s
 F0:D.mg "Headers" =aA (aG D.hc)/\ ∀{A:de} {s:aV} {pos:cA} {l:List (Bool×cM aO)} {Q:aO->aV->Prop} {E:aO->aV->Prop},l.any (·.1)=aD->aZ (bH D.prog D.w) A (vx l) (λvs s₁=>(∀b o,D.G.get? b=aA o->s₁.heap.get? b=aA o)/\aZ (bH D.prog D.w) A (call (aG D.hc) vs) Q E s₁) E s->
  aZ (bH D.prog D.w) A (yG pos (aG D.hc) [] l []) Q E s
 QE: ∃ca o fd,D.mg "compute_powers" =aA (aG ca)/\D.G.get? ca=aA o/\o.data=kn fd/\ ∀n:Int,0<=n->n<=2048-> ∀{A:de} {s:aV} {t1 t2 t3:gZ} {Q:aO->aV->Prop} {E:aO->aV->Prop},jD D.n A->1<=s.toks->(∀b o,D.G.get? b=aA o->s.heap.get? b=aA o)->
  (∀{dr:Drawn} d h' tk,(∀b o,s.heap.get? b=aA o->h'.get? b=aA o)->h'.get? d=aA kF->s.heap.get? d=aE->Q (aG d) {s with heap:=h',toks:=tk,drawn:=dr})->aZ (bH D.prog D.w) A (call (aG ca) [bS n t1,bS 5 t2,bS 2048 t3]) Q E s
section
variable (D:Wd) (C:Fc)
def KW (X:Fx) (z:Zs) (K:V->Ls->Prop) (Q:aO->aV->Prop):Prop:= ∀v l,K v l->KE D C X (aR l) z v Q
def KT (X:Fx) (z:Zs) (K:Bool->Ls->Prop) (Q:Bool->aV->Prop):Prop:= ∀b l,K b l->KB D C X (aR l) z b Q
def KLw (X:Fx) (z:Zs) (K:List V->Ls->Prop) (Q:List aO->aV->Prop):Prop:= ∀v l,K v l-> ∀u Z,FX D C X (aR l) Z->Sx z Z->j7 D X Z u v->Q u Z.s
structure Ev (x:az) (l:Ls) (K:V->Ls->Prop):Prop where
 run: ∀{X:Fx} {z:Zs} {Q:aO->aV->Prop} {E:aO->aV->Prop},FX D C X (aR l) z->KW D C X z K Q->aZ (bH D.prog D.w) X.A (dH x X.env) Q E z.s
structure Uq (x:az) (l:Ls) (K:Bool->Ls->Prop):Prop where
 run: ∀{X:Fx} {z:Zs} {Q:Bool->aV->Prop} {E:aO->aV->Prop},FX D C X (aR l) z->KT D C X z K Q->aZ (bH D.prog D.w) X.A (A4 x X.env<|dH x X.env) Q E z.s
structure Pr (xs:List az) (l:Ls) (K:List V->Ls->Prop):Prop where
 run: ∀{X:Fx} {z:Zs} {pos:cA} {Q:List aO->aV->Prop} {E:aO->aV->Prop},FX D C X (aR l) z->KLw D C X z K Q->aZ (bH D.prog D.w) X.A (vx<|pq pos<|gv xs X.env) Q E z.s
def bI (x:az) (e:E):Prop:= ∀{l K},e D.o l K->Ev D C x l K
def gh (x:az) (t:T):Prop:= ∀{l K},t D.o l K->Uq D C x l K
def iQ (xs:List az) (es:List E):Prop:= ∀{l K},lW es D.o l K->Pr D C xs l K
def ym (op:mO) (xs:List az) (es:List E):Prop:= ∀{p l K},bW op es D.o l K->Ev D C (Ek op xs p) l K
def yx (op:mO) (xs:List az) (ts:List T):Prop:= ∀{l K},Dn op ts D.o l K-> ∀{X:Fx} {z:Zs} {Q:Bool->aV->Prop} {E:aO->aV->Prop},FX D C X (aR l) z->KT D C X z K Q->aZ (bH D.prog D.w) X.A (allTrue op xs X.env) Q E z.s
def wu (x:Option az) (e:E):Prop:= ∀{l K},e D.o l K-> ∀{X:Fx} {z:Zs} {Q:aO->aV->Prop} {E:aO->aV->Prop},FX D C X (aR l) z->KW D C X z K Q->aZ (bH D.prog D.w) X.A (evalPart x X.env) Q E z.s
end
structure kD (C:Fc) (nm:aN) (i:Nat):Prop where
 k:C.K nm=aA NameKind.local\/C.K nm=aA dS\/C.K nm=aA ck
 t:C.dY nm=aA i
 c:(nm==("__classdict__" :aN))=aD
 d:(nm==("__debug__" :aN))=aD
structure oj (C:Fc) (nm:aN):Prop where
 k:C.K nm=aA nG
 d:(nm==("__debug__" :aN))=aD
def fA (C:Fc) (nm:aN) (i:Nat):Bool:=(match C.K nm with|some .local=>aC|some .cell=>aC|some .free=>aC|_=>aD) && (C.dY nm==aA i) && !(nm==("__classdict__" :aN)) && !(nm==("__debug__" :aN))
theorem mE (h:fA C nm i=aC):kD C nm i:=by
 show bP (iH.mp h) λh b=>bP (iH.mp h) λh Q=>bP (iH.mp h) λH m=>⟨?_,QIi.mp m,s9 _▸Q,s9 _▸b⟩;generalize C.K nm=k at H
 match k,H with
 |some .local,_=>show .inl rfl
 |some .cell,_=>show .inr<|.inl rfl
 |some .free,_=>show .inr<|.inr rfl
section
variable {D:Wd} {C:Fc} {x y w:az} {a b c:E} {t t':T} {r r₁ r₂ r₃:cU}
theorem FX.cs (K:FX D C X r z):CS D X.A (Ex X.Ob z.W) z.s:=⟨K.R,K.t,K.F.base,K.F.gd,K.F.fe,λb p=>.inr<|K.F.pf b p,K.F.inv⟩
theorem KE.id (k:KE D C X r z v Q) (K:FX D C X r z) (q:Vz D X z u v):Q u z.s:=k u z K .refl q
theorem Up {k}:bI D C (fY ko k pos) .none:= @λO O h=>⟨λK k=>λO O O=>(k _ _ h).id K Rd.none⟩
theorem t_ {b k}:bI D C (fY (ju b) k pos) (.bool b):= @λO O h=>⟨λK k=>λO O O=>(k _ _ h).id K<|Rd.bool _⟩
theorem Vt {i k}:bI D C (fY (QGO i) k pos) (.int i):= @λO O h=>⟨λK k=>wpAny_toks<|wpAny_Constant_int<|(k _ _ h).same K<|Rd.int _ _⟩
theorem Ni {i k}:bI D C (fY (tA i) k pos) (.str i):= @λO O h=>⟨λK k=>wpAny_toks<|Constant_str<|(k _ _ h).same K<|Rd.str _ _⟩
theorem VN {cl X h} (hs:fg P φ cl X h i W (r i)) (e:lz r i=aA v): ∃u,W=aA u/\VR P φ X h u v:=by
 unfold lz at e;induction hr:r i with
 |val d=>simp only[hr] at hs e;cases e;show hs
 |own R=>simp only[hr] at hs e;cases e;show aT hs λa Y n=>⟨_,n,a,Y,rfl⟩
 |ali j=>simp only[hr] at hs e;cases e;obtain ⟨_,a,Y,n⟩:=hs;show ⟨_,n,a,Y,rfl⟩
 |inst=>simp only[hr] at hs e;cases e;show cI hs λx a Y n p=>⟨_,n,x,a,Y,rfl,p⟩
 |emp=>simp only[hr] at hs e;cases e;show aT hs λu e O=>(bJ _ e trivial)
 |_=>simp only[hr] at e;show bM e
theorem zE (K:FX D C X r z) (o:kD C nm i) (h: ∀v,fg D.P z.φ X.env.cells (Ex X.Ob z.W) z.s.heap i v (r i)-> ∃u,v=aA u/\Q u z.s):aZ (bH D.prog D.w) X.A (dH (bf nm pos) X.env) Q Er z.s:=by
 show wpAny_Name ?_ o.d;rcases o.k with Y|Y|Y
 ·show aT K.F.loc λm n N=>aT (h _<|N nm i Y o.t) λu e q=>Q5 K.F.hk ((K.F.hK nm).trans Y) n e q
 ·show cI (K.F.jj nm i (.inl Y) o.t) λc v x l p=>aT (h _ p) λu g q=>?_
  clear p;subst g;show wpAny_loadName_cell K.F.hk ((K.F.hK nm).trans Y) x l q
 ·show cI (K.F.jj nm i (.inr Y) o.t) λc v x l p=>aT (h _ p) λu g q=>?_
  clear p;subst g;show wpAny_loadName_free K.F.hk ((K.F.hK nm).trans Y) x l q o.c
theorem vX (o:kD C nm i):bI D C (bf nm pos) (.bL i):= @λO O h=>⟨λK k=>zE K o λv q=>by
 induction QDb h with|mk e h=>show let ⟨u,x,n⟩:=VN q e;(bJ u x<|(k _ _ h).id K n)⟩
theorem FX.freeze (K:FX D C X r z) (e:r i=bg xs) (M:C.ow=aC) (h:i<1000000):
 ∃a z',z.φ i=aA a/\z'.s=z.s/\FX D C X (upd r i .unb) z'/\Sx z z'/\Rz X z' (aG a) (aK xs):=by
 show fH (K.F.own i xs e) λa vs n e1 e2 l=>?_;have L:i≠bC:=λq=>by rw[q] at h;show QIe h (by ext)
 have N:i≠cG:=λq=>by rw[q] at h;show QIe h (by ext)
 have A:=K.F.jO M i xs a e e1 L;have st:fk z.W z.s.heap (λb=>z.W b/\b≠a) z.s.heap:=⟨λO O e O=>e,λO q=>.inl q.1⟩;have m:Mon (Ex X.Ob z.W) z.s.heap (Ex X.Ob λb=>z.W b/\b≠a) z.s.heap:=st.mon;have U:=K.F.forget i N L;show aT U.loc λmm H f=>?_;have nl: ∀b o,z.s.heap.get? b=aA o->(∀vs n,o.data≠jr vs n)->b≠a:=λb o e d q=>by simp only[q,e2] at e;cases e;show d _ _ rfl
 show ⟨a,{z with W:=λb=>z.W b/\b≠a},e1,rfl,⟨⟨U.base,λb o e q=>U.gd b o e<|q.imp id λq=>q.1,U.hk,U.hK,U.hg,U.hb,U.uJ,⟨mm,H,λx j p q=>(f x j p q).mon m λO O O O=>rfl⟩,⟨U.mn,?_⟩,λx j p q=>?_,λx j c p q g z=>⟨U.rf x j c p q g z,?_⟩,U.qM,λj ys q=>?_,λcc j ys b q p z=>⟨U.jO cc j ys b q p z,λv=>?_⟩,λys q p b z=>⟨U.mJ ys q p b z,λv=>?_⟩,λys q p b z w=>U.oq ys q p b z w.1,U.pW,U.inj,U.lB,λb q=>U.fe b<|q.imp id λq=>q.1,λb q=>U.fQ b q.1,D.P.jo U.inv m λO O=>rfl,λb p=>⟨U.pf b p,λq=>?_⟩⟩,K.R,K.t⟩,⟨st,cY _,rfl,rfl⟩,?_⟩
 ·show fH H λo es ep q1 q2 O=>nl _ o q1 λO O d=>by rw[q2] at d;trivial
 ·show cI (U.jj x j p q) λc u q1 q2 Q=>(d0 c u q1 q2<|Q.mon m λO O O O=>rfl)
 ·show cI (U.jj x j (.inl p) g) λc' u q1 Y Q=>aT Y λo q2 Z=>?_
  clear K e M h e1 e2 l L N A st m U H f p q g Y Q;obtain rfl:=bt z q1;show nl _ o q2 λO O d=>by rw[Z] at d;trivial
 ·show fH (U.own j ys q) λb ws k q1 q2 Q=>(mf b ws k q1 q2<|Q.mon m)
 ·have:j=i:=K.F.inj j i a (v▸p) e1
  clear e h e1 L N U f p z;subst this;unfold upd at q;rw[if_pos rfl] at q;trivial
 ·show L (K.F.inj bC i a (v▸z) e1).symm
 ·show dU (D.P.jk U.inv p) λo aa B d4=>?_
  simp only[q,e2] at B;cases B;trivial
 ·show Rd.lst e2 (λq=>q.elim (K.F.fQ a A) λq=>q.2 rfl)<|l.mon m
theorem QDD (hw:C.ow=aC) (ok:kD C nm i):bI D C (bf nm pos) (.rW i):= @λO O h=>⟨λK k=>zE K ok λv q=>by
 induction lE h with
 |mk r h=>
  show sJ (K.freeze r hw<|C.low nm i ok.t) λa z' e1 e2 U st R=>?_;rw[r] at q;show aT q λA e z=>?_;obtain rfl:=bt e1 e;rw[<-i9] at U
  show (bJ _ z<|e2▸k _ _ h _ z' U st R)⟩
theorem QBW (A:bI D C x a) (hb:bI D C y b):bI D C (Q6 x op y pos) (.aL op a b):= @λO O h=>⟨λK k=>wpAny_BinOp ((A h).run K λO O h p z R s1 q1=>(hb h).run R λO O h Q Z P s2 q2=>by
 induction OY h with|mk e h=>show s_ e P (q1.mon s2) q2<|(k _ _ h).tr<|s1.trans s2)⟩
theorem uN {f:Int->Ls->Prop} (h:Ev D C x l λv l=>qt v λi=>f i l) (K:FX D C X (aR l) z) (k: ∀i l t z',f i l->FX D C X (aR l) z'->Sx z z'->Q (bS i t) z'.s):aZ (bH D.prog D.w) X.A (dH x X.env) Q Er z.s:=h.run K λv l h u z' U n q=>by induction Uk h with|mk e h=>subst e;show bE (Rd.fm q) λt g=>?_;erw[g];show k _ _ t z' h U n
theorem Vv (A:bI D C x a):bI D C (A5 QGP x pos) (.neg a):= @λO O h=>⟨λK k=>QGQ<|uN (A h) K λi l t z h R s1=>wpAny_toks<|neg_int<|((k _ _ h).tr s1).same R<|.int _ _⟩
theorem QEc (A:bI D C x a):bI D C (A5 QGR x pos) (.inv a):= @λO O h=>⟨λK k=>QGQ<|uN (A h) K λi l t z h R s1=>wpAny_toks<|invert_int<|((k _ _ h).tr s1).same R<|.int _ _⟩
theorem Z0 (hm:uS op y=aD) (A:bI D C x a) (hb:bI D C y b):bI D C (qz x [op] [y] pos) (.cmp op a b):= @λO O h=>⟨λK k=>Q7 ((A h).run K λO O h p z R s1 q1=>(hb h).run R λO O h Q Z P s2 q2=>by
 induction Mo h with|mk e h=>show wpAny_toks<|Nb e P (q1.mon s2) q2 λtk=>((k _ _ h).tr<|s1.trans s2).same P<|.bool _) hm⟩
theorem Ze (hm:uS op y=aD) (A:bI D C x a) (hb:bI D C y b):gh D C (qz x [op] [y] pos) (.cmp op a b):= @λO O h=>⟨λK k=>JE ((A h).run K λO O h p z R s1 q1=>(hb h).run R λO O h Q Z P s2 q2=>by
 induction Mo h with|mk e h=>show wpAny_toks<|Nb e P (q1.mon s2) q2 λtk l=>uT<|((k _ _ h).tr<|s1.trans s2).same P l) hm⟩
theorem QDj (a:gh D C x t):gh D C (A5 El x pos) (.not t):= @λO O h=>⟨λK k=>QGS<|(a h).run K λO O h z R s1=>k _ _ h z R s1⟩
theorem T5 (a:gh D C x t) (hb:bI D C y b) (W:bI D C w c):bI D C (Q8 x y w pos) (.ite t b c):= @λO O h=>⟨λK k=>wpAny_IfExp ((a h).run K λz O h Z R s=>by
 rcases h with ⟨rfl,h⟩|⟨rfl,h⟩
 ·show (hb h).run R λO O h=>(k _ _ h).tr s
 ·show (W h).run R λO O h=>(k _ _ h).tr s)⟩
theorem VI (A:bI D C x a):ym D C op [x] [a]:= @λO O O h=>⟨λK k=>BoolOp_one<|(A h).run K k⟩
theorem QDJ (A:bI D C x a) (hb:ym D C op (y::xs) (b::es)):ym D C op (x::y::xs) (a::b::es):= @λO O O h=>⟨λ{X z Q Er} K k=>by
 induction op with
 |And=>show BoolOp_and ((A h).run K λv l h u Z R i q=>by
  induction h with
  |mk e h=>
   rcases h with ⟨rfl,h⟩|⟨rfl,h⟩
   ·show yz e R q λj P s=>k _ _ h _ _ P (i.trans s)<|q.mon s
   ·show yz e R q λj P s=>(hb h).run P λO O h=>(k _ _ h).tr<|i.trans s)
 |Or=>show BoolOp_or ((A h).run K λv l h u Z R i q=>by
  induction h with
  |mk e h=>
   rcases h with ⟨rfl,h⟩|⟨rfl,h⟩
   ·show yz e R q λj P s=>k _ _ h _ _ P (i.trans s)<|q.mon s
   ·show yz e R q λj P s=>(hb h).run P λO O h=>(k _ _ h).tr<|i.trans s)⟩
theorem QEp (h:ym D C op xs es):bI D C (Ek op xs pos) (.eH op es):=λe=>h e
theorem YT:yx D C op [] []:= @λO O h=>λK k=>by rw[arm_allTrue_nil];show bQ ?_;cases op<;>show k _ _ h _ K .refl
theorem QAi (a:gh D C x t) (hb:yx D C op xs ts):yx D C op (x::xs) (t::ts):= @λO O h=>λK k=>by
 rw[arm_allTrue_cons];show bD<|(a h).run K λb l h z R s=>?_;rcases h with ⟨rfl,h⟩|⟨rfl,h⟩
 ·cases op<;>show bQ<|k _ _ h _ R s
 ·cases op<;>show hb h R λO O h=>(k _ _ h).tr s
theorem XD (h:yx D C op xs ts):gh D C (Ek op xs pos) (.eH op ts):=λe=>⟨λK k=>by
 rw[arm_isTrue_BoolOp]
 show h e K k⟩
theorem N_ (o: ∀whole,A4 x env whole=(do let v<-whole;uU x.pos;q7 [v] (JC v))) (h:aZ M A (dH x env) (λv N=>aZ M A (JC v) Q Er N) Er s):
 aZ M A (A4 x env<|dH x env) Q Er s:=by
 rw[o];show bD<|iy h (λv N H=>bD<|kK<|dq H) λO O x=>x
theorem ZS (ok:kD C nm i):gh D C (bf nm pos) (.bL i):= @λl r h=>⟨λK k=>N_ (λO=>rfl) ((vX (K:=λv l=>er (oz (aR l) v) λb=>r b l) ok h).run K λO O h p z R s1 q1=>by
 induction h with|mk e h=>show yz e R q1<|(k _ _ h).tr s1)⟩
theorem GO {t:cM aO}:pq pos ((aD,t)::l)=(aD,t)::pq pos l:=rfl
theorem HU:iQ D C [] []:= @λO O h=>⟨λK k=>oN<|k _ _ h _ _ K .refl .nil⟩
theorem AY {es:List E} (hs: ∀env,gv (x::xs) env=(aD,dH x env)::gv xs env) (A:bI D C x a) (hb:iQ D C xs es):iQ D C (x::xs) (a::es):= @λO O h=>⟨λ{X z pos Q Er} K k=>by
 simp only[hs X.env,GO]
 show yH<|(A h).run K λO O h p Z R s1 q1=>(hb h).run R λO O h ps j P s2 q2=>k _ _ h _ _ P (s1.trans s2)<|.cons (q1.mon s2) q2⟩
theorem j7.ds (q:j7 D X z us (xs.map .d)):kH X z us xs:=by
 induction xs generalizing us with
 |nil=>cases q;show bU.nil
 |cons x xs i=>cases q with|cons a b=>show bU.cons a<|i b
theorem ma {Kd:List aM->Ls->Prop} (h:Pr D C xs l λvs l=>y3 vs λds=>Kd ds l) (K:FX D C X (aR l) z) (k: ∀ds l us z',Kd ds l->FX D C X (aR l) z'->Sx z z'->kH X z' us ds->Qs us z'.s):aZ (bH D.prog D.w) X.A (vx<|pq pos<|gv xs X.env) Qs Er z.s:=h.run K λvs l h us z' U s q=>by induction QAs h with|mk e g=>subst e;show k _ _ us z' g U s q.ds
theorem K0 (h:iQ D C xs es):bI D C (JF xs pos) (.list es):=λe=>⟨λK k=>wpAny_List<|ma (h e) K λds l us z h R s q1=>⟨by simp only[ky,q1.len];show cn h.1,((k _ _ h.2).tr s).new R (Kl.push _) (R.fresh q1 0)<|cY _⟩⟩
theorem Tu (h:iQ D C xs es):bI D C (oO xs j pos) (.tup es):=λe=>⟨λK k=>wpAny_Tuple<|ma (h e) K λds l us z h R s q1=>⟨by simp only[ky,q1.len];show cn h.1,((k _ _ h.2).tr s).new R (Kl.push _) (R.freshT q1 0)<|cY _⟩⟩
theorem US (s: ∀o i,A0 y aD o i=A1 [o,i] (A2 o i)) (A:bI D C x a) (hb:bI D C y b):bI D C (tB x y pos) (.bA a b):= @λO O h=>⟨λK k=>Subscript_ ((A h).run K λO O h p z R s1 q1=>uN (hb h) R λi l t Z h P s2=>by
 induction h with|mk e h=>show QDH e s P (q1.mon s2)<|(k _ _ h).tr<|s1.trans s2)⟩
theorem Df {k:Nat} (h:Q bG s):aZ M A (dH (fY ko k pos) env) Q Er s:=λO O O=>h
theorem Fu {k:Nat} {b:Bool} (h:Q (dD b) s):aZ M A (dH (fY (ju b) k pos) env) Q Er s:=λO O O=>h
theorem Kt {w:dF} {s:aV} {neg b:Bool} {u u':aO} (p:plainIs u u'=aC) (e:(u==u')=b) (h:Q (dD<|b !=neg) s):aZ (bH prog w) A (uR (if neg then oP else tC) u u') Q Er s:=by
 cases neg
 ·show QGT p (by erw[e];simpa using h)
 ·show Q9 p (by erw[e];simpa using h)
theorem Dm {w:dF} {neg B:Bool} (q:Rd Y s.heap u d) (hd:(d=br/\B=aC)\/(d≠br/\B=aD)) (h:Q (dD<|B !=neg) s):aZ (bH prog w) A (uR (if neg then oP else tC) u bG) Q Er s:=by
 have:plainIs u bG=aC/\(u==bG)=B:=by
  show aT q λl L b=>?_;clear q h L;rcases hd with ⟨rfl,rfl⟩|⟨hd,rfl⟩
  ·cases b;show ⟨rfl,rfl⟩
  ·cases b<;>first|show absurd rfl hd|show ⟨rfl,rfl⟩
 show Kt this.1 this.2 h
theorem L5 {whole} (F:uS op rr=aD)
 (h:aZ M A (dH l env) (λu N=>aZ M A (dH rr env) (λu' H=>aZ M A (uR op u u') (λc R=> ∃b,c=dD b/\Q b R) Er H) Er N) Er s) (m:M=bH D.prog D.w):aZ M A (A4 (qz l [op] [rr] pos) env whole) Q Er s:=by
 show dA m<|wpAny_isTrue_Compare1 (wpAny_mono h (λO O h=>iy h (λO O h=>iy h (λc R q=>q.elim λb q=>by erw[q.1];show uT q.2) λO O x=>x) λO O x=>x) λO O x=>x) F
theorem TY {k:Nat} {neg:Bool} (o:op=if neg then oP else tC) (m:uS op (fY ko k P)=aD) (A:bI D C x a):bI D C (qz x [op] [fY ko k P] pos) (.ig neg a):= @λO O h=>⟨λK k=>Q7 ((A h).run K λO O h p z R s q=>by
 erw[o];induction lq h with
 |mk e g=>
  clear h;subst e;rcases g with ⟨rfl,g⟩|⟨n,g⟩
  ·show Df<|Dm q (.inl ⟨rfl,rfl⟩)<|k _ _ g _ _ R s<|Rd.bool _
  ·show Df<|Dm q (.inr ⟨n,rfl⟩)<|k _ _ g _ _ R s<|Rd.bool _) m⟩
theorem Y9 {k:Nat} {neg:Bool} (o:op=if neg then oP else tC) (m:uS op (fY ko k P)=aD) (A:bI D C x a):gh D C (qz x [op] [fY ko k P] pos) (.ig neg a):= @λO O h=>⟨λK k=>L5 m ((A h).run K λO O h p z R s q=>by
 erw[o];induction lq h with
 |mk e g=>
  clear h;subst e;rcases g with ⟨rfl,g⟩|⟨n,g⟩
  ·show Df<|Dm q (.inl ⟨rfl,rfl⟩)<|bJ _ rfl (k _ _ g _ R s)
  ·show Df<|Dm q (.inr ⟨n,rfl⟩)<|bJ _ rfl (k _ _ g _ R s)) rfl⟩
theorem QCa {k:Nat} {P:cA} {neg b:Bool} {op:jF} (o:op=if neg then oP else tC) (m:uS op (fY (ju b) k P)=aD) (A:bI D C x a):gh D C (qz x [op] [fY (ju b) k P] pos) (.gK neg b a):= @λO O h=>⟨λK k=>L5 m ((A h).run K λO O h p z R s q=>by
 erw[o];induction lq h with
 |mk e g=>
  clear o m A K;obtain ⟨c,rfl,g⟩:=g;clear h;subst e;cases Rd.bool_inv q
  show Fu<|Kt rfl (by clear h k R s g q;cases b<;>cases c<;>rfl) (bJ _ rfl (k _ _ g _ R s))) rfl⟩
end
theorem iU {E:aO->aV->Prop} (p:l.any (·.1)=aD)
 (h:aZ M A (vx l) (λvs n=>Q ⟨vs,[]⟩ n) E s):aZ M A (evalArgs f aC l []) Q E s:=by
 induction l with
 |nil=>show bD<|iy h (λvs n H=>?_) λO O x=>x;show bD<|bQ<|dq<|bD<|bQ<|bD<|bQ<|bQ H
 |cons a l=>
  obtain ⟨b,t⟩:=a;have:b=false:=by simp only[List.any_cons,RA] at p;show p.1
  clear p;subst this;show evalArgs_plain h
def Pl (xs:List az):Prop:= ∀env p,(pq p<|gv xs env).any (·.1)=aD
def y8 (b:Bi):Str:=match b with
 |.len=> "len" |.sum=> "sum" |.lZ=> "max" |.max2=> "max" |.zr=> "min" |.min2=> "min" |.abs=> "abs" |.chr=> "chr" |.ord=> "ord" |.tv=> "str" |.vA=> "int" |.divmod=> "divmod"
def Mu (nm:aN):Bool:=Cd.contains nm && !(nm==("__debug__" :aN)) && !(nm==("__name__" :aN))
theorem NV (b:Bi):JD (y8 b)=aA (vI b)/\Mu (y8 b)=true:=by induction b<;>show ⟨by lia,by lia⟩
section
theorem zw [H:eV D] (K:FX D C X r z) (P:C.K nm=aA nG) (hn:Mu nm=aC) (hu:JD nm=aA u) (h:Q u z.s):aZ (bH D.prog D.w) X.A (dH (bf nm pos) X.env) Q Er z.s:=by
 show bP (iH.mp hn) λhn i=>bP (iH.mp hn) λhn q=>JG K.F.hk ((K.F.hK nm).trans P) ?_<|s9 _▸q;show QGU (mg:=D.mg) (mb:=D.G.nsMap js) ?_ (H.Nc nm<|RB.mp hn) ?_ ?_ h
 ·show sb K.F.hg<|H.gl.g.keeps K.F.base
 ·show sb K.F.hb<|H.gl.b.keeps K.F.base
 ·show sb (H.gl.bo nm λe=>by rw[e] at i;show QIe i<|by decide+kernel)<|hu
theorem rv [H:eV D] (K:FX D C X r z) (o:oj C nm) (hu:D.mg nm=aA u) (h:Q u z.s):aZ (bH D.prog D.w) X.A (dH (bf nm pos) X.env) Q Er z.s:=by show JG K.F.hk ((K.F.hK nm).trans o.k) ?_ o.d;show QGV ?_ hu h;simp only[K.F.hg];show H.gl.g.keeps K.F.base
theorem QEv [H:eV D] (o:oj C nm):bI D C (bf nm pos) (.sG nm):= @λO O h=>by
 induction h with|mk e g=>show bE (H.gi _ _ e) λt e2=>?_;show ⟨λK k=>rv K o e2<|(k _ _ g).id K<|Rd.int _ _⟩
theorem k_ (p:l.any (·.1)=aD) (h:aZ M A (vx l) (λvs n=>aZ M A (call (vI b) vs) Q Er n) Er s):aZ M A (yG pos (vI b) [] l []) Q Er s:=by
 have k:(∃i,vI b=bx i)\/ ∃T,vI b=bp T:=by clear p h;induction b<;>first|show .inl ⟨_,rfl⟩|show .inr ⟨_,rfl⟩
 generalize vI b=B at*;rcases k with ⟨i,rfl⟩|⟨T,rfl⟩
 ·show yI p<|iU p h
 ·show yJ p<|iU p h
theorem QEu [H:eV D] (hn:nm=y8 b) (s:C.K nm=aA nG) (P:Pl xs) (a:iQ D C xs es):bI D C (du (bf nm p) xs [] pos) (.bi b es):= @λO O h=>⟨λ{X z Q Er} K k=>by
 subst hn
 show tD (zw K s (NV b).2 (NV b).1 (k_ (P X.env pos) ((a h).run K λO O h us Z R s1 q1=>by
  induction h with|mk e g=>show c_ e R q1<|(k _ _ g).tr s1)))⟩
def Ge (b:Sm):String:=match b with|.bits=> "int" |_=> "str"
theorem QAU (b:Sm):RC (Ge b)/\Slot (Ge b) (Bn b) (Ip b)/\JH (bx<|Ip b)=pure (bp "method_descriptor"):=by
 induction b with
 |lower=>show ⟨vy,PySem.F.slot_str_lower,PySem.F.type_str_lower⟩
 |upper=>show ⟨vy,PySem.F.slot_str_upper,PySem.F.type_str_upper⟩
 |swapcase=>show ⟨vy,PySem.F.slot_str_swapcase,PySem.F.type_str_swapcase⟩
 |rstrip=>show ⟨vy,PySem.F.slot_str_rstrip,PySem.F.type_str_rstrip⟩
 |wU=>show ⟨vy,PySem.F.slot_str_lstrip,PySem.F.type_str_lstrip⟩
 |split=>show ⟨vy,PySem.F.slot_str_split,PySem.F.type_str_split⟩
 |join=>show ⟨vy,PySem.F.slot_str_join,PySem.F.type_str_join⟩
 |bits=>show ⟨PySem.F.plainAttrs_int,PySem.F.slot_int_bit_length,PySem.F.type_int_bit_length⟩
theorem UP (e:Fg b v) (q:Vz D X z u v):z.s.TypeIs u (Ge b)/\ ∀a,u≠aG a:=by
 have i:(∃i,v=.d (aB i))->z.s.TypeIs u "int" /\ ∀a,u≠aG a:=λ⟨i,e⟩=>by subst e;show bE (Rd.fm q) λt g=>sb g<|⟨typeIs_int _ _ _,nofun⟩
 have s:(∃i,v=.d (aI i))->z.s.TypeIs u "str" /\ ∀a,u≠aG a:=λ⟨i,e⟩=>by subst e;show bE (Rd.fD q) λt g=>sb g<|⟨typeIs_str _ _ _,nofun⟩
 induction b<;>first|show s e|show i e
structure MC (o:az) (name:aN) (apos pos:cA) (xs:List az):Prop where
 base: ∀env,yK o name env (dH o env)=dH o env
 sg: ∀env,((pq pos<|gv xs env).all (λx=> !x.1) && (RD pos<|RE [] env).all (λx=>x.1.isSome)
  && decide (xs.length+([]:List yL).length+(if ([]:List yL).isEmpty then 0 else 1)<30))=aC
 line:(apos.endLine==pos.line)=aC
theorem MC.pl (h:MC o name a pos xs) (env:eB):(pq pos<|gv xs env).any (·.1)=false:=by have H:=(iH.mp (iH.mp<|h.sg env).1).1;rw[List.any_eq_false];intro x M;have:=fN.mp H x M;simpa using this
theorem H4 {T id:String} {Kx:V->Ls->Prop} (m:MC x nm b pos xs) (p:RC T) (sl:Slot T nm id) (F:JH (bx id)=pure (bp "method_descriptor")) (M:Ev D C x l Kx) (K:FX D C X (aR l) z)
 (k: ∀v l,Kx v l-> ∀u Z,FX D C X (aR l) Z->Sx z Z->Vz D X Z u v->Z.s.TypeIs u T/\(∀a,u=aG a-> ∃ob,Z.s.heap.get? a=aA ob/\ob.dict=aE)/\aZ (bH D.prog D.w) X.A (vx<|pq pos<|gv xs X.env) (λus n=>aZ (bH D.prog D.w) X.A (call (bx id)<|u::us) Q Er n) Er Z.s):
 aZ (bH D.prog D.w) X.A (dH (du (hH x nm b) xs [] pos) X.env) Q Er z.s:=
 yM (m.base X.env) (m.sg X.env) m.line (M.run K λv l h u Z R i q=>by show eA (k v l h u Z R i q) λt o H=>(vc T id p sl F t o<|yI (m.pl X.env)<|iU (m.pl X.env) H))
theorem YF [H:eV D] (hn:nm=Bn b) (hm:MC x nm ap pos xs) (M:bI D C x a) (A:iQ D C xs es):bI D C (du (hH x nm ap) xs [] pos) (.sm b a es):= @λO O h=>⟨λK k=>by
 subst hn;have q:=(QAU b);have p:=q.1;have sl:=q.2.1;have ty:=q.2.2;show H4 hm p sl ty (M h) K λv l h u z R s1 q1=>?_;have h0:=h.1;have h:=h.2;have q:=(UP h0 q1);have t1:=q.1;have t:=q.2
 show ⟨t1,λa e=>QIe e<|t a,(A h).run R λO O h us Z P s2 q2=>by
  clear hm p sl ty h0 t1
  induction h with|mk e g=>show UO e P (q1.mon s2) q2<|(k _ _ g).tr<|s1.trans s2⟩⟩
theorem QFB (hm:MC x "replace" ap pos [fY (tA Y) W p,fY (tA z) B P]) (n:(Y==z)=aD) (M:bI D C x a):
 bI D C (du (hH x "replace" ap) [fY (tA Y) W p,fY (tA z) B P] [] pos) (.sU a Y z):=λh=>⟨λK k=>H4 hm vy PySem.F.slot_str_replace PySem.F.type_str_replace (M h) K λO O h u Z R s1 q1=>by
 induction QY h with
 |mk e g=>
  clear h;subst e;show fR g λi v L g=>bE (Rd.fD q1) λt' H=>sb H<|⟨typeIs_str _ _ _,nofun,spliced_cons<|Constant_str (k:=W) (pos:=p)<|spliced_cons<|Constant_str (k:=B) (pos:=P)<|spliced_nil ?_⟩
  have o:=R.t;show wpAny_toks (SC.replace (λq=>QIe (q:Z.s.toks=0)<|sv ‹_›) (λq=>QIe (q:Z.s.toks+1=0)<|by (clear q;lia -abstractProof)) (λq=>QIe (q:Z.s.toks=Z.s.toks+1)<|by (clear q;show λK=>n6<|nR K)) n (by erw[L];(clear g;show bO ‹_› (dI _ _))) λt' tk l=>?_)
  show ((k _ _ g).tr s1).same R (Rd.str _ _)<|bO (jb _ 2) l⟩
theorem QFP:wu D C aE .none:= @λO O h=>λK k=>JI<|(k _ _ h).id K Rd.none
theorem QFk (h:bI D C x a):wu D C (aA x) a:=λe=>λK k=>wpAny_evalPart_some<|(h e).run K k
theorem QCI {lo d st:Option az} (s: ∀o i,∃ops,A0 (Em lo d st p) aD o i=A1 ops (A2 o i)) (A:bI D C x a) (hl:wu D C lo U) (H:wu D C d j) (hs:wu D C st es):
 bI D C (tB x (Em lo d st p) pos) (.d9 a U j es):=λh=>⟨λK k=>Subscript_ ((A h).run K λO O h p L R s1 q1=>wpAny_Slice (hl h R λO O h f N P s2 q2=>H h P λO O h p3 Z c s3 Y=>hs h c λO O h u z q s4 Q=>by
  induction h with|mk e g=>show WE e q (q1.mon<|(s2.trans s3).trans s4) (q2.mon<|s3.trans s4) (Y.mon s4) Q s<|(k _ _ g).tr<|((s1.trans s2).trans s3).trans s4))⟩
end
theorem map_some {α β:Type} {x:Option α} {f:α->β} {b:β} (h:x.map f=aA b): ∃a,x=aA a/\f a=b:=nE.mp h
theorem YY: ∀(names:List (aN×fX)) (h:bq) (acc:List (aN×aP)) (x:aN) (c:aP),(kL h.objs.size names acc).lookup x=aA c->
 acc.lookup x=aA c/\(x,dS)∉names\/(h.objs.size<=c/\(lP h names).IsCell c aE/\(x,dS)∈names):=by
 intro O;induction O with
 |nil=>show λh acc x c e=>.inl ⟨e,by simp⟩
 |cons O r i=>
  obtain ⟨n,k⟩:=O
  show λh acc x c e=>by
   unfold kL at e;dsimp only[lP];by_cases K:(k==dS)=aC
   ·rw[if_pos K] at e⊢
    rw[beq_iff_eq] at K;erw[K];have hs:(h.push {cls:=bp "cell",data:=Q1 aE}).objs.size=h.objs.size+1:=Eo ..;rw[<-hs] at e;rcases i _ _ x c e with ⟨e1,e2⟩|⟨e1,e2,p⟩
    ·rw[jc] at e1
     by_cases M:(x==n)=aC
     ·rw[M] at e1
      clear hs;cases e1;rw[beq_iff_eq] at M;show sb M<| .inr ⟨Nat.le_refl _,(show (h.push {cls:=.type "cell",data:=.cell none}).IsCell h.objs.size none from (bJ _ (Heap.get?_push_size _ rfl) rfl)).keeps λb o e=>RF _ _ b o e,.head _⟩
     ·rw[QGW] at M
      rw[M] at e1;show .inl ⟨e1,λq=>?_⟩;show Or.elim (dR.mp q) (λq=>?_) λq=>?_
      ·clear e e1 e2
       cases q
       simp -iota at M
      ·show e2 q
    ·show .inr ⟨by show aS e1,e2,.tail _ p⟩
   ·rw[if_neg K] at e⊢
    rcases i _ _ x c e with ⟨e1,e2⟩|⟨e1,e2,p⟩
    ·show .inl ⟨e1,λq=>?_⟩
     show Or.elim (dR.mp q) (λq=>?_) λq=>?_
     ·clear e e1 e2
      cases q
      show K rfl
     ·show e2 q
    ·show .inr ⟨e1,e2,.tail _ p⟩
theorem Dc: ∀(names:List (aN×fX)) (n:Nat) (acc:List (aN×aP)) (x:aN),((x,dS)∉names->(kL n names acc).lookup x=acc.lookup x)/\((x,dS)∈names\/(acc.lookup x).isSome->((kL n names acc).lookup x).isSome):=by
 intro O;induction O with
 |nil=>show λn acc x=>⟨λO=>rfl,λh=>by simpa -iota [kL] using h⟩
 |cons O r d=>
  obtain ⟨m,k⟩:=O
  show λn acc x=>by
   dsimp only[kL];by_cases K:(k==dS)=aC
   ·erw[if_pos K]
    rw[beq_iff_eq] at K;show sb K<|bP (d (n+1) ((m,n)::acc) x) λi1 i=>⟨λq=>?_,λq=>i ?_⟩
    ·simp! only[i1 λz=>q<|.tail _ z,jc]
     have:(x==m)=false:=by
      by_cases e:x=m
      ·clear i1 i
       subst e;show QIe (.head _) q
      ·show QIl e
     show sb this rfl
    ·by_cases e:x=m
     ·show .inr (by simp! only[jc,QIi.mpr e];rfl)
     ·rcases q with q|q
      ·rcases dR.mp q with q|q
       ·clear i1 i
        cases q
        show QIe rfl e
       ·show .inl q
      ·show .inr (by simp! only[jc,QIl e];show q)
   ·show sb (QIf K)<|bP (d n acc x) λi1 i=>⟨λq=>i1 λz=>q<|.tail _ z,λq=>i ?_⟩
    rcases q with q|q
    ·rcases dR.mp q with q|q
     ·clear i1 i
      cases q
      show QIe rfl K
     ·show .inl q
    ·show .inr q
set_option tactic.hygienic true in
theorem QAZ: ∀(names:List (aN×fX)) (n:Nat) (a:List (aN×aP)) (P:aN->aP->Prop),(∀y c,a.lookup y=aA c->c<n)->(∀x y c,a.lookup x=aA c->a.lookup y=aA c->x=y)->
 ∀x y c,(kL n names a).lookup x=aA c->(kL n names a).lookup y=aA c->x=y:=by
 intro O;induction O with
 |nil=>show λn a P l i=>i
 |cons O r d=>
  obtain ⟨m,k⟩:=O
  show λn a P l i=>by
   dsimp only[kL];by_cases K:(k==dS)=aC
   ·show sb (QIg K)<|d (n+1) ((m,n)::a) P (λy c e=>?_) λx y c e u=>?_
    ·rw[jc] at e
     split at e
     ·cases e;show yN _
     ·show yO<|l y c e
    ·rw[jc] at e u
     split at e<;>split at u
     ·rename_i H _ h
      rw[beq_iff_eq] at H h;show sb H<|sb h rfl
     ·cases e;show QIe (l y _ u)<|oD _
     ·cases u;show QIe (l x _ e)<|oD _
     ·show i x y c e u
   ·show sb (QIf K)<|d n a P l i
theorem CZ {α:Type}: ∀{l:List (aN×α)} {n:aN} {c:α},(l.map (·.1)).Nodup->(n,c)∈l->l.lookup n=aA c:=by
 intro l;induction l with
 |nil=>show λO h=>nomatch h
 |cons a r i=>
  show @λn c N h=>by
   obtain ⟨k,v⟩:=a;simp only[dg,RG] at N;rcases dR.mp h with e|h'
   ·clear h N i
    cases e
    simp only[jc,beq_self_eq_true]
   ·have:(n==k)=false:=by
     by_cases e:n=k
     ·clear h i
      subst e;show QIe (gQ.mpr<|bJ (n,c) h' rfl) N.1
     ·show QIl e
    simp only[jc,this];show i N.2 h'
theorem I0 (names:List (aN×fX)) (h:bq) (o:bk) (b:aP) (ob:bk) (e:h.get? b=aA ob):(lP (h.push o) names).get? b=aA ob:=RF _ _ _ _<|iW _ e
theorem HX {P:wx} {G:bq} {C:Fc} {h:bq} {names:List (aN×fX)} {cl:List (aN×aP)} {env:eB} {Ob W:aP->Prop} {φ:Nat->Option aP} {r:cU} {T:aO}
 (aa:(names.map (·.1)).Nodup) (e1:env.locals=h.objs.size) (e2:env.cells=kL (h.objs.size+1) names cl) (ek:env.scope.kind=gy) (eK: ∀x,env.kindOf x=C.K x) (eg:env.globals=pj) (eb:env.builtins=js) (B: ∀c q,C.cd=aA (c,q)->env.code=aG c/\env.qual=q)
 (hl: ∀x i,C.K x=aA NameKind.local->C.dY x=aA i->r i=.unb)
 (hc: ∀x i,C.K x=aA dS\/C.K x=aA ck->C.dY x=aA i->(names.lookup x=aA dS/\r i=.unb)\/(names.lookup x=aA ck/\ ∃c v,cl.lookup x=aA c/\h.IsCell c v/\fg P φ env.cells (Ex Ob W) h i v (r i)))
 (hs: ∀x,C.K x=aA dS->C.tT x=aC->names.lookup x=aA dS)
 (t: ∀x c,cl.lookup x=aA c-> ∃o,h.get? c=aA o) (U: ∀x y c,cl.lookup x=aA c->cl.lookup y=aA c->x=y)
 (base: ∀b o,G.get? b=aA o->h.get? b=aA o) (g: ∀b o,G.get? b=aA o-> ¬ Ex Ob W b)
 (own: ∀i xs,r i=bg xs-> ∃a vs n,φ i=aA a/\h.get? a=aA (listOf vs.toArray n)/\bU (Ex Ob W) h vs xs)
 (s:C.ow=aC-> ∀i xs a,r i=bg xs->φ i=aA a->i≠bC->W a) (F: ∀xs,r bC=bg xs->r cG=eC-> ∀a,φ bC=aA a->W a) (H: ∀xs,r bC=bg xs->r cG≠eC-> ∀a,φ bC=aA a-> ¬ W a)
 (R:(∀xs,r bC≠bg xs)->φ bC=aE) (inj: ∀i j a,φ i=aA a->φ j=aA a->i=j) (A: ∀i a,φ i=aA a-> ∃o,h.get? a=aA o) (l: ∀a,Ex Ob W a-> ∃o,h.get? a=aA o) (ab: ∀a,W a-> ¬ Ob a) (inv:P.Inv (Ex Ob W) h) (pf: ∀a,P.PF a->W a):
 FR P G C env Ob φ (λa=>W a\/(h.get? a=aE/\ ∃o,(lP (h.push {cls:=T,data:=gu #[]}) names).get? a=aA o)) r (lP (h.push {cls:=T,data:=gu #[]}) names):=by
 have Z: ∀b o,h.get? b=aA o->(lP (h.push {cls:=T,data:=gu #[]}) names).get? b=aA o:=I0 names h _
 have m:Mon (Ex Ob W) h (Ex Ob λa=>W a\/(h.get? a=aE/\ ∃o,(lP (h.push {cls:=T,data:=gu #[]}) names).get? a=aA o)) (lP (h.push {cls:=T,data:=gu #[]}) names):=
  λa o e n=>⟨Z a o e,λq=>by
   rcases q with q|q|⟨q,_⟩
   ·show n<|.inl q
   ·show n<|.inr q
   ·show wV e q⟩
 have gk: ∀i v sl,fg P φ env.cells (Ex Ob W) h i v sl->fg P φ env.cells (Ex Ob λa=>W a\/(h.get? a=aE/\ ∃o,(lP (h.push {cls:=T,data:=gu #[]}) names).get? a=aA o)) (lP (h.push {cls:=T,data:=gu #[]}) names) i v sl:=by
  intro i v sl x;induction sl with
  |grid n=>show ik x λa q e1 e2 e3 e4=>(iX a q e1 e2 (Z _ _ e3) e4)
  |_=>show x.mon m λn e=>by trivial
 have N: ∀a,h.objs.size<=a->h.get? a=none:=λa ha=>kJ ha;have hsz:(h.push {cls:=T,data:=gu #[]}).objs.size=h.objs.size+1:=Eo ..;have f:(lP (h.push {cls:=T,data:=gu #[]}) names).Ns env.locals (λO=>aE):=sb e1<|(Heap.Ns.new h T).keeps λb o e=>RF _ _ b o e
 have cell: ∀x c,env.cells.lookup x=aA c->(cl.lookup x=aA c/\(x,dS)∉names)\/(h.objs.size+1<=c/\(lP (h.push {cls:=T,data:=gu #[]}) names).IsCell c aE/\(x,dS)∈names):=λx c e=>by rw[e2,<-hsz] at e;have:=YY names _ cl x c e;rw[hsz] at this;show this
 show ⟨λb o e=>Z b o<|base b o e,λb o e q=>?_,ek,eK,eg,eb,B,(bJ _ f (λx i a b=>by erw[hl x i a b];trivial)),.inr ⟨(by erw[e1];show N _ (cY _):h.get? env.locals=aE),let ⟨o,_,_,q,_⟩:=f;⟨o,q⟩⟩,λx i a b=>?_,λx i c a b d e=>?_,λx y c e u=>?_,λi xs e=>?_,λcc i xs a e u n=>.inl<|s cc i xs a e u n,λxs e u a q=>.inl<|F xs e u a q,λxs e u a q w=>?_,R,inj,λi a e=>let ⟨o,q⟩:=A i a e;⟨o,Z _ _ q⟩,λa q=>?_,λa q Q=>?_,P.jo inv m λa p=>?_,λa p=>.inl<|pf a p⟩
 ·have:=g b o e
  rcases q with q|q|⟨q,_⟩
  ·show this (.inl q)
  ·show this (.inr q)
  ·show wV (base b o e) q
 ·rcases hc x i a b with ⟨Y,L⟩|⟨Y,c,v,L,n3,n4⟩
  ·have M:=mem_of_lookup Y
   show bE (q8.mp<|(Dc names (h.objs.size+1) cl x).2<|.inl M) λc q=>?_;rw[<-e2] at q;rcases cell x c q with ⟨_,Q⟩|⟨_,Q,_⟩
   ·show QIe M Q
   ·show (d0 c aE q Q (by erw[L];trivial))
  ·have M:(x,dS)∉names:=λz=>by rw[CZ aa z] at Y;trivial
   have q:=(Dc names (h.objs.size+1) cl x).1 M;rw[<-e2] at q;show (d0 c v (q.trans L) (n3.keeps Z)<|gk _ _ _ n4)
 ·have Y:=hs x a b
  rcases cell x c e with ⟨_,Q⟩|⟨q,⟨o,Q,_⟩,_⟩
  ·show QIe (mem_of_lookup Y) Q
  ·show .inr ⟨N _<|JJ q,o,Q⟩
 ·rw[e2] at e u
  show QAZ names (h.objs.size+1) cl (λO O=>True) (λy c e=>by show bE (t y c e) λo q=>?_;show yO<|mP q) U x y c e u
 ·show fH (own i xs e) λa vs n q1 q2 q3=>(mf a vs n q1 (Z _ _ q2)<|q3.mon m)
 ·rcases w with w|⟨w,_⟩
  ·show H xs e u a q w
  ·show bE (A _ _ q) λo z=>wV z w
 ·rcases q with q|q|⟨_,q⟩
  ·show bE (l a<|.inl q) λo z=>⟨o,Z _ _ z⟩
  ·show bE (l a<|.inr q) λo z=>⟨o,Z _ _ z⟩
  ·show q
 ·rcases q with q|⟨q,_⟩
  ·show ab a q Q
  ·show bE (l a<|.inl Q) λo z=>?_
   rw[z] at q;show sT q
 ·show dU (P.jk inv p) λo vs e O=>sb e<|Z a o e
theorem KR {M:Ep} {A:de} {E:aO->aV->Prop} {s:aV} {scope:kM} {globals:aP} {cl:List (aN×aP)} {binds:List (aN×aO)} {qual:aN} {f:Option aP} {code:aO} {a:Option eB} {builtins:aP} {Q:eB->aV->Prop}
 (h: ∀env,env=JK scope s.heap.objs.size globals (kL (s.heap.objs.size+1) scope.names cl) qual f code a builtins->
  aZ M A (forIn binds nH λx O=>do Ea env x.1 x.2;pure (rA nH)) (λO n=>Q env n) E {s with heap:=lP (s.heap.push {cls:=bp<|if a.isSome then "dict" else "frame",data:=gu #[]}) scope.names}):
 aZ M A (JL scope globals cl binds qual f code a builtins) Q E s:=by
 dsimp only[JL];show bD<|JM ?_;show bD (wpAny_layCells _ (λN v c=>by cases K:v==dS<;>(rfl)) _ _ _ _ ?_);erw[Eo ..];have:=h _ rfl;clear h;induction a with
 |none=>show bD<|iy this (λO n H=>bQ H) λO O x=>x
 |some o=>show bD<|iy this (λO n H=>bQ H) λO O x=>x
noncomputable def qU:Str:= ".0"
theorem we {α:Type}: ∀{l:List (aN×α)} {x:aN} {k:α},l.lookup x=aA k->l.findIdx (·.1==x)<l.length/\ ∃p,l[l.findIdx (·.1==x)]?=aA p/\p.1=x:=by
 intro l;induction l with
 |nil=>show λh=>nomatch h
 |cons a r d=>
  show @λx k h=>by
   obtain ⟨n,v⟩:=a
   simp! only[jc] at h
   by_cases e:x=n
   ·erw[e]
    simp -iota [QGX]
   ·have e1:=QIl e
    simp! only[e1] at h
    have H:=(d h);have i1:=H.1;have m:=H.2;show aT m λp i u=>?_
    simp! only[QGX,(QIl λq=>e q.symm)]
    show ⟨by simpa -iota using i1,p,by simpa -iota using i,u⟩
noncomputable def lM (k:fX):Bool:=k==NameKind.local||k==NameKind.cell
def Fc.sub (C:Fc) (names:List (aN×fX)) (r own:Bool) (hb:C.bd+200<=1000000/\names.length<=200):Fc where
 K x:=(names.lookup x).map λk=>if r && k==ck && C.K x==aA dS then dS else k
 dY x:=match names.lookup x with
  |some k=>if lM k then (if x==qU then aE else aA (C.bd+names.findIdx (·.1==x))) else if k==ck then C.dY x else aE
  |none=>aE
 tT x:=match names.lookup x with|some k=>lM k|none=>aD
 inj:=by
  intro x y i A H;induction M:names.lookup x with
  |none=>rw[M] at A;show bM A
  |some k=>
   induction hy:names.lookup y with
   |none=>rw[hy] at H;show bM H
   |some R=>
    rw[M] at A;rw[hy] at H;dsimp only at A H;have B: ∀{z:aN} {kz:fX},(if z==qU then aE else aA (C.bd+names.findIdx (·.1==z)))=aA i->C.bd<=i:=λh=>by split at h<;>cases h;show jb _ _
    split at A<;>split at H
    ·split at A
     ·show bM A
     ·split at H
      ·show bM H
      ·have:names.findIdx (·.1==x)=names.findIdx (·.1==y):=by
        have a:=kj A;have b:=kj H;clear H A;show qj a b.symm
       have g:=(we M);have o:=g.2;show aT o λp v n=>?_;have N:=(we hy);have Y:=N.2;show aT Y λq u m=>?_
       simp! only[this,u] at v
       clear u;cases v
       simp! only[<-n,<-m]
    ·split at H
     ·show QIe (B (kz:=k) A)<|JN<|C.tQ _ _ H
     ·show bM H
    ·split at A
     ·show QIe (B (kz:=k) H)<|JN<|C.tQ _ _ A
     ·show bM A
    ·split at A
     ·split at H
      ·show C.inj x y i A H
      ·show bM H
     ·show bM A
 bd:=C.bd+200
 tQ:=by
  intro x i h;induction M:names.lookup x with
  |none=>rw[M] at h;show bM h
  |some k=>
   rw[M] at h;dsimp only at h
   split at h
   ·split at h
    ·show bM h
    ·have:=(we M).1
     have a:=kj h;have:=hb.2;clear h hb;show (bB (na (nR a) ‹List.findIdx (λe=>e.fst==x) names<names.length›) this)
   ·split at h
    ·show oC (C.tQ _ _ h)<|jb _ _
    ·show bM h
 Bf:=hb.1
 ow:=own
 nw:=aD
 hn:=aD
 cd:=aE
noncomputable def clOf (cells:List (aN×aP)):List (aN×fX)->List (aN×aP)->List (aN×aP)
 |[],acc=>acc
 |(n,k)::r,acc=>clOf cells r<|if k==ck then (n,(cells.lookup n).getD 0)::acc else acc
theorem EO {cells:List (aN×aP)} {acc}:clOf cells [] acc=acc:=rfl
theorem Bz {cells:List (aN×aP)} {n k r acc}:clOf cells ((n,k)::r) acc=clOf cells r (if k==ck then (n,(cells.lookup n).getD 0)::acc else acc):=rfl
theorem Qu {scope:kM} {env:eB} (h: ∀x∈scope.names,x.2=ck->(env.cells.lookup x.1).isSome=aC):closureFor scope env=pure (clOf env.cells scope.names []):=by
 have v: ∀(names:List (aN×fX)) (a:List (aN×aP)),(∀x∈names,x.2=ck->(env.cells.lookup x.1).isSome=aC)->
  (forIn names a λ(x:aN×fX) r=>if (x.2==ck)=aC then do let y<-cellOf env x.1;pure (rA<|(x.1,y)::r) else pure (rA r))=pure (clOf env.cells names a):=by
  intro names;induction names with
  |nil=>intro a _;rfl
  |cons x names i=>
   intro a h;obtain ⟨n,k⟩:=x
   simp! only[vz,EO,Bz]
   by_cases K:(k==ck)=aC
   ·show bE (q8.mp<|h (n,k) (.head _)<|QIi.mp K) λc C=>?_
    have:cellOf env n=pure c:=by dsimp only[cellOf];show sb C rfl
    simp! only[K,if_true,this,C,QGY]
    show i _ λy Y=>h y<|.tail _ Y
   ·simp! only[K,QIn,rB]
    show i _ λy Y=>h y<|.tail _ Y
 dsimp only[closureFor];have:=v scope.names [] h
 simp! only[bind_pure]
 show this
theorem yt {cells:List (aN×aP)}: ∀(names:List (aN×fX)) (acc:List (aN×aP)),(∀x∈names,x.2=ck->(cells.lookup x.1).isSome=aC)->(∀y c,acc.lookup y=aA c->cells.lookup y=aA c)->
 (∀y c,(clOf cells names acc).lookup y=aA c->cells.lookup y=aA c)/\ ∀y,((y,ck)∈names\/(acc.lookup y).isSome=aC)↔((clOf cells names acc).lookup y).isSome=true:=by
 intro O;induction O with
 |nil=>show λacc O a=>⟨a,λy=>by simp -iota [EO,Bz]⟩
 |cons O r d=>
  obtain ⟨n,k⟩:=O
  show λacc h a=>by
   have R: ∀x∈r,x.2=ck->(cells.lookup x.1).isSome=true:=λx M=>h x<|.tail _ M;dsimp only[EO,Bz];by_cases K:(k==ck)=aC
   ·show sb (QIg K)<|bE (Option.isSome_iff_exists.mp<|h (n,k) (.head _)<|beq_iff_eq.mp K) λc C=>?_
    simp! only[C,QGY]
    show bP (d ((n,c)::acc) R λy g e=>by
     rw[jc] at e;by_cases q:y=n
     ·clear h
      subst q;rw[beq_self_eq_true] at e;cases e;show C
     ·rw[beq_false_of_ne q] at e
      show a y g e) λi1 i=>?_
    show ⟨i1,λy=>Iff.trans ⟨λq=>?_,λq=>?_⟩<|i y⟩
    ·by_cases z:y=n
     ·show sb z<| .inr (by simp! only[List.lookup_cons,beq_self_eq_true];rfl)
     ·rcases q with q|q
      ·rcases dR.mp q with q|q
       ·clear h K C i1 i
        cases q
        show QIe rfl z
       ·show .inl q
      ·show .inr (by simp! only[jc,QIl z];show q)
    ·by_cases z:y=n
     ·show sb z<| .inl (by erw[beq_iff_eq.mp K];show .head _)
     ·rcases q with q|q
      ·show .inl<|.tail _ q
      ·simp! only[jc,QIl z] at q
       show .inr q
   ·show sb (QIf K)<|bP (d acc R a) λi1 i=>⟨i1,λy=>Iff.trans ⟨λq=>?_,λq=>q.imp (.tail _) id⟩<|i y⟩
    rcases q with q|q
    ·rcases dR.mp q with q|q
     ·clear h
      cases q
      show QIe rfl K
     ·show .inl q
    ·show .inr q
theorem Xn {env:eB} {C:Fc} (s:env.scope.kind=gy) (W: ∀x,env.kindOf x=C.K x): ∀(names:List (aN×fX)) (x:aN),
 (names.map λ(n,k)=>if (k==ck && env.scope.kind==gy && env.kindOf n==aA dS) then (n,dS) else (n,k)).lookup x=(names.lookup x).map λk=>if aC && k==ck && C.K x==aA dS then dS else k:=by
 intro O;induction O with
 |nil=>show λx=>rfl
 |cons O r i=>
  obtain ⟨n,k⟩:=O
  show λx=>by
   have i:=i x;show sb dg<|sb (List.lookup_cons (b:=k)) ?_
   have step: ∀(p:aN×fX) (l:List (aN×fX)),p.1≠x->QGZ x (p::l)=QGZ x l:=λp l P=>by obtain ⟨F,Q⟩:=p;show sb jc<|sb (beq_false_of_ne<|Ne.symm P) rfl
   by_cases e:x=n
   ·subst e
    have:((if (k==ck && env.scope.kind==gy && env.kindOf x==aA dS) then (x,dS) else (x,k)))=(x,if aC && k==ck && C.K x==aA dS then dS else k):=by
     show sb s<|sb (W x) ?_
     have:(gy==gy)=true:=rfl
     simp! only[this,Et,Az]
     split<;>rfl
    dsimp only;rw[this,jc,beq_self_eq_true];rfl
   ·have h:=QIl e
    show sb (step _ _ (by dsimp only;split<;>show λq=>e q.symm))<|sb i<|sb h rfl
structure kR (C:Fc) (env:eB) (φ:Nat->Option aP) (I:aP):Prop where
 p: ∀i,φ i≠aA I
 l:env.locals≠I
 c: ∀x i c,(C.K x=aA dS\/C.K x=aA ck)->C.dY x=aA i->env.cells.lookup x=aA c->c≠I
section
variable {Ob Ob₁ Ob₂ Z W W':aP->Prop} {φ φ':Nat->Option aP} {r:cU} {h h':bq}
theorem FR.DV (F:FR P G C env Ob φ W r h) {I:aP} (e:h.get? I=aE):kR C env φ I:=by
 show ⟨λi q=>?_,λq=>?_,λx i c a b q z=>?_⟩
 ·show bE (F.lB i I q) λo w=>dy e w
 ·show aT F.loc λm R O=>qF R λo O O w O=>?_
  simp! only[q,e] at w
  show bM w
 ·show cI (F.jj x i a b) λg v w Q O=>aT Q λo d O=>?_
  rw[q] at w;clear q Q;cases w;rw[z,e] at d;show bM d
theorem kR.not (nf: ∀a,Z a->kR C env φ a) {a:aP} (q:QL C env φ a): ¬ Z a:=λz=>q.elim (λq=>q.elim λi e=>(nf a z).p i e) λq=>cI q λx i k t e=>(nf a z).c x i a k t e rfl
theorem FR.HG (F:FR P G C env Ob₁ φ W r h) (u: ∀a,Z a->Ob₁ a) (nf: ∀a,Z a->kR C env φ a) (k: ∀a o,h.get? a=aA o-> ¬ Z a-> ¬ P.PF a->h'.get? a=aA o) (L: ∀a,Ob₂ a->(Ob₁ a\/h.get? a=aE)/\ ∃o,h'.get? a=aA o) (i:P.Inv (Ex Ob₂ W) h'):
 FR P G C env Ob₂ φ W r h'/\Mon (Ex Ob₁ W) h (Ex Ob₂ W) h':=by
 have m:Mon (Ex Ob₁ W) h (Ex Ob₂ W) h':=λa o e n=>⟨k a o e (λq=>n<|.inl<|u a q) λq=>n<|.inr<|F.pf a q,λq=>n<|q.imp (λq=>(L a q).1.resolve_right λz=>dy z e) id⟩;show ⟨F.chg m (λa o e s f=>k a o e (kR.not nf f)<|F.np e s.nf) (λm n=>Gh n λo e d=>k _ o e (λz=>(nf _ z).l rfl)<|F.np e d) (λa q=>?_) (λa w q=>?_) i,m⟩
 ·rcases q with q|q|q
  ·show F.GU k i (kR.not nf<|.inl q)<|F.al<|.inl q
  ·show (L a q).2
  ·show F.GU k i (λz=>F.fQ a q<|u a z)<|F.fe a<|.inr q
 ·show (L a q).1.elim (F.fQ a w) λz=>bE (F.fe a<|.inr w) λO e=>dy z e
theorem FR.move (F:FR P G C env Ob₁ φ W r h) (u: ∀a,Z a->Ob₁ a) (nf: ∀a,Z a->kR C env φ a) (k: ∀a o,h.get? a=aA o-> ¬ Z a->h'.get? a=aA o) (L: ∀a,Ob₂ a->(Ob₁ a\/h.get? a=aE)/\ ∃o,h'.get? a=aA o):
 FR P G C env Ob₂ φ W r h'/\Mon (Ex Ob₁ W) h (Ex Ob₂ W) h':=
 F.HG u nf (λa o e z O=>k a o e z) L (P.jo F.inv (λa o e n=>⟨k a o e λq=>n<|.inl<|u a q,λq=>n<|q.imp (λq=>(L a q).1.resolve_right λz=>dy z e) id⟩)<|F.vk λa o O e O p=>k a o e λz=>F.fQ a (F.pf a p)<|u a z)
theorem FR.QEX (o:List Nat) (d: ∀i∈o,i≠cG/\i≠bC): ∀{r:cU},FR P G C env Ob φ W r h->FR P G C env Ob φ W (o.foldl (λr i=>upd r i .unb) r) h:=by
 induction o with
 |nil=>intro r F;show F
 |cons i o e=>intro r F;show e (λj s=>d j<|.tail _ s)<|F.forget i (d i<|.head _).1 (d i<|.head _).2
end
def lA (t:cB):List Nat:=match t with
 |.one i=>[i]
 |.tup o=>o
theorem xV (t:cB) (r:cU):hW t r=(lA t).foldl (λr i=>upd r i .unb) r:=by induction t<;>rfl
theorem y9: ∀(o:List Nat) (r:cU) (j:Nat),(o.foldl (λr i=>upd r i .unb) r) j=if j∈o then .unb else r j:=by
 intro O;induction O with
 |nil=>show λr j=>by rfl
 |cons i o d=>
  show λr j=>by
   simp! only[vu,d]
   by_cases h:j∈o
   ·simp -iota [h]
   ·by_cases H:j=i
    ·subst H
     simp -iota [upd]
    ·simp -iota [h,H,upd]
theorem QAm: ∀(ps:List (Nat×aM)) (r:cU) (j:Nat),j∉ps.map (·.1)->(ps.foldl (λr p=>upd r p.1<|aQ p.2) r) j=r j:=by
 intro O;induction O with
 |nil=>show λr j O=>rfl
 |cons p ps i=>
  show λr j h=>by
   show sb vu<|sb (i _ j λq=>h (by rw[dg];show .tail _ q)) ?_
   unfold upd;rw[if_neg λq=>h (by rw[dg,q];show .head _)]
theorem QBK {t:cB} {x:aM} {r r':cU} (e:qQ t x r=aA r'):hW t r'=hW t r:=by
 funext j;simp only[xV,xV,y9,y9];by_cases s:j∈lA t
 ·simp only[if_pos s,if_pos s]
 ·simp only[if_neg s,if_neg s]
  induction t with
  |one i=>
   cases e
   unfold upd;rw[if_neg];intro q;show s (by simp[lA,q])
  |tup is=>
   have K: ∀xs:List aM,(if xs.length=is.length then aA ((is.zip xs).foldl (λr p=>upd r p.1<|aQ p.2) r) else aE)=aA r'->r' j=r j:=λxs e=>by
    split at e
    ·cases e
     show QAm _ _ _ λq=>s<|aT (List.mem_map.mp q) λp q1 q2=>dA q2<|(List.of_mem_zip q1).1
    ·show bM e
   unfold qQ at e;cases x<;>dsimp only at e<;>first|show K _ e|(show bM e)
section
theorem QBe {M:Ep} {A:de} {s:aV} {env:eB} {Q:Bool->aV->Prop} {E:aO->aV->Prop} (h:Q aD s): ∀xs:List az,
 aZ M A (forIn xs aD λc r=>if r=aC then do let o<-A4 c env (dH c env);pure (rA o) else pure (rA r)) Q E s:=by
 intro O;induction O with
 |nil=>show by simp! only[A6];show bQ h
 |cons x xs i=>
  show by
   simp! only[vz]
   skip
   show bD<|bQ<|i
end
section
variable {C:Fc}
structure o9 (C:Fc) (scope:kM) (t:cB) (target iter:az):Prop where
 nd:(scope.names.map (·.1)).Nodup
 kind:scope.kind=gy
 free: ∀x∈scope.names,x.2=ck->(C.dY x.1).isSome=aC/\(C.K x.1=aA dS\/C.K x.1=aA ck)
 tid: ∀x∈scope.names,lM x.2=aC->(x.1==qU)=aD->(C.bd+scope.names.findIdx (·.1==x.1))∈lA t
 zR: ∀i∈lA t,C.bd<=i/\i<1000000
 fold: ∀env x,JO iter env x=pure x
 go: ∀it v,JP target it v=pure ()
theorem qm {names:List (aN×fX)} {r own:Bool} {hb:C.bd+200<=1000000/\names.length<=200} {x:aN} {k:fX} (h:(C.sub names r own hb).K x=aA k):
 (names.lookup x=aA k)\/(k=dS/\names.lookup x=aA ck/\C.K x=aA dS/\r=aC):=by
 show aT (map_some h) λb u e=>?_
 split at e
 ·rename_i c
  simp! only[gb,QIi] at c
  show .inr (mA e.symm (by (erw[u];show sb c.1.2 rfl)) c.2 c.1.1)
 ·show dA e<| .inl u
end
def Fx.add (X:Fx) (I:aP):Fx:={X with Ob:=λa=>X.Ob a\/a=I}
noncomputable def AJ:List String:=["enumerate","zip","dict_itemiterator","dict_reverseitemiterator","odict_iterator","itertools.zip_longest","itertools.pairwise"]
structure It (D:Wd) (C:Fc) (X:Fx) (r:cU) (z z':Zs) (fl:Bool) (xs:List aM) (J:aP) (fp:List aP) (P:Nat->aO->Prop) (St:Nat->bq->Prop):Prop where
 F:FX D C (X.add J) r z'
 nJ: ¬ Ex X.Ob z'.W J
 nf:kR C X.env z'.φ J
 sx:Sx z z'
 new: ∀a o,z.s.heap.get? a=aA o-> ¬ z.W a->a≠J
 walk:uV D.prog D.w X.A J fp [J] xs.length P St
 st:St 0 z'.s.heap
 alive: ∀i h,St i h-> ∃o T,h.get? J=aA o/\o.cls=bp T/\AJ.contains T=aD
 qk: ∀b∈fp,∃o,z'.s.heap.get? b=aA o
 MR:fl=aC-> ∀b∈fp,b≠J-> ¬ z'.W b
 P0: ∀b∈fp, ¬ D.P.PF b
 items: ∀i v,P i v-> ∃d,xs[i]?=aA d/\Rz (X.add J) z' v d
def KI (D:Wd) (C:Fc) (X:Fx) (r:cU) (z:Zs) (fl:Bool) (xs:List aM) (Q:aO->aV->Prop):Prop:= ∀Z J f P St,It D C X r z Z fl xs J f P St->Q (aG J) Z.s
def TX (D:Wd) (C:Fc) (X:Fx) (z:Zs) (fl:Bool) (K:List aM->Ls->Prop) (Q:aO->aV->Prop):Prop:= ∀x l,K x l->KI D C X (aR l) z fl x Q
def jS (D:Wd) (C:Fc) (fl:Bool) (x:az) (i:I):Prop:= ∀{l K},i D.o fl l K-> ∀{X:Fx} {z:Zs} {Q:aO->aV->Prop} {Er:aO->aV->Prop},FX D C X (aR l) z->TX D C X z fl K Q->
 aZ (bH D.prog D.w) X.A (dH x X.env) (λu N=>aZ (bH D.prog D.w) X.A (A7 u) Q Er N) Er z.s
def qh (D:Wd) (C:Fc) (x:az) (t:cB):Prop:= ∀{d r R},qQ t d r=aA R-> ∀{X:Fx} {z:Zs} {v:aO} {Q:Unit->aV->Prop} {Er:aO->aV->Prop},FX D C X r z->Rz X z v d->
 (∀Z,FX D C X R Z->Sx z Z->Z.W=z.W->Q () Z.s)->aZ (bH D.prog D.w) X.A (rC x X.env v) Q Er z.s
structure n9 (C:Fc) (nm:aN) (i:Nat):Prop where
 t:C.dY nm=aA i
 s:C.tT nm=aC
 k:C.K nm=aA NameKind.local\/C.K nm=aA dS
def ft (C:Fc) (nm:aN) (i:Nat):Bool:=(C.dY nm==aA i) && C.tT nm && (match C.K nm with|some .local=>aC|some .cell=>aC|_=>aD)
theorem me (h:ft C nm i=aC):n9 C nm i:=by
 show bP (iH.mp h) λh H=>bP (iH.mp h) λA m=>⟨QIi.mp A,m,?_⟩;generalize C.K nm=k at H
 match k,H with
 |some .local,_=>show .inl rfl
 |some .cell,_=>show .inr rfl
theorem Fc.qf (C:Fc) (h:C.dY nm=aA i):i≠cG/\i≠bC:=by have l:=C.low nm i h;show ⟨λq=>by rw[q] at l;show QIe l (by ext),λq=>by rw[q] at l;show QIe l<|by ext⟩
section
variable {fl:Bool}
theorem Sx.fresh {J:aP} (s:Sx z z') (e:z.s.heap.get? a=aA o) (n: ¬ z.W a):z'.s.heap.get? a=aA o/\ ¬ z'.W a:=⟨s.st.keep a o e n,λq=>(s.st.grow a q).elim n λq=>by rw[e] at q;show sT q⟩
theorem It.tr {J fp P St} (i:It D C X r z' z'' fl xs J fp P St) (s:Sx z z'):It D C X r z z'' fl xs J fp P St:=⟨i.F,i.nJ,i.nf,s.trans i.sx,λa o e n=>i.new a o (s.fresh (J:=J) e n).1 (s.fresh (J:=J) e n).2,i.walk,i.st,i.alive,i.qk,i.MR,i.P0,i.items⟩
theorem KI.tr (k:KI D C X r z fl xs Q) (s:Sx z z'):KI D C X r z' fl xs Q:=λO O O O O i=>k _ _ _ _ _<|i.tr s
theorem zj (o:n9 C nm i) (K:FX D C X r z) (q:Rz X z v d) (k: ∀z',FX D C X (upd r i<|aQ d) z'->Sx z z'->z'.W=z.W->Q () z'.s):aZ (bH D.prog D.w) X.A (Ea X.env nm v) Q Er z.s:=bP (C.qf o.t) λa h=>wpAny_toks ((K.F.forget i a h).store o.t o.s o.k (sl:=aQ d) (λH O m=>(bJ v rfl (Rd.mon q m))) (λx e=>by trivial) λH Z F S l=>k (z.to H Z) ⟨F,K.R,bO K.t l⟩ ⟨S,l,rfl,rfl⟩ rfl)
theorem H6 (o:n9 C nm i):qh D C (bf nm pos) (nP i):=λe=>λK q k=>by
 cases e
 show yP<|zj o K q k
theorem xT {ob:bk} {St:Nat->bq->Prop} (K:FX D C X r z) (M:ob.isFreed=aD) (N: ∀b∈fp,b=z.s.heap.objs.size\/((∃o,z.s.heap.get? b=aA o)/\ ¬ D.P.PF b/\(fl=aC-> ¬ z.W b)))
 (len:n=xs.length) (H:uV D.prog D.w X.A z.s.heap.objs.size fp [z.s.heap.objs.size] n P St) (st:St 0 (z.s.heap.push ob)) (x: ∀i h,St i h-> ∃o T,h.get? z.s.heap.objs.size=aA o/\o.cls=bp T/\AJ.contains T=aD) (items: ∀i v,P i v-> ∃d,xs[i]?=aA d/\Rz X z v d) (k:KI D C X r z fl xs Q):
 Q (aG z.s.heap.objs.size) {z.s with heap:=z.s.heap.push ob}:=by
 have u:z.s.heap.get? z.s.heap.objs.size=none:=kJ<|cY _;have Z: ∀b o,z.s.heap.get? b=aA o->(z.s.heap.push ob).get? b=aA o:=λO O e=>iW _ e;have Y: ∀b o,z.s.heap.get? b=aA o->b≠z.s.heap.objs.size:=λb o e q=>by simp only[q,u] at e;show bM e
 subst len;show k (z.to (z.s.heap.push ob) z.s.toks) _ _ _ _ ⟨⟨K.F.apart Z u ⟨_,gz _ M⟩,K.R,K.t⟩,K.F.xM,K.F.DV u,.kl K (.push ob)<|cY _,λa o e O=>Y a o e,H,st,x,λb B=>?_,λf b B n=>?_,λb B=>?_,λi v e=>?_⟩
 ·rcases N b B with rfl|⟨⟨o,e⟩,_⟩
  ·show ⟨_,gz _ M⟩
  ·show ⟨o,Z b o e⟩
 ·show ((N b B).resolve_left n).2.2 f
 ·rcases N b B with rfl|⟨_,q,_⟩
  ·show λp=>K.F.xM<|.inr<|K.F.pf _ p
  ·show q
 ·show aT (items i v e) λd L j=>(bJ d L<|Rd.mon j λb o e n=>⟨Z b o e,λq=>q.elim (λq=>q.elim (λq=>n<|.inl q)<|Y b o e) λq=>n<|.inr q⟩)
theorem Gu (K:FX D C X r z) (e:z.s.heap.get? a=aA o) (h: ∀vs,o.data≠eY vs): ¬ D.P.PF a:=λp=>by show dU (D.P.jk K.F.inv p) λH v q d=>?_;obtain rfl:=bt e q;show h _ d
theorem Gs {vs:List aO} (q:kH X z vs xs) {i:Nat} (e:vs.toArray[i]?=aA v): ∃d,xs[i]?=aA d/\Rz X z v d:=by
 rw[Eg] at e;have t:i<xs.length:=by erw[<-q.len];show (Ef.mp e).1
 show aT (q.get<|p8 t) λF u p=>?_;obtain rfl:=bt e u;show (bJ _ (p8 t) p)
theorem Ic {P:aP->Prop} (H:P p) (h:P q): ∀b∈[p,q],P b:=λb B=>by
 cases B with
 |head=>show H
 |tail _ B=>cases B with|head=>show h|tail _ B=>trivial
theorem Kq {a:aP} {vs:List aO} {n:Nat} (K:FX D C X r z) (e:z.s.heap.get? a=aA (listOf vs.toArray n)) (q:kH X z vs xs) (t:fl=aC-> ¬ z.W a) (k:KI D C X r z fl xs Q):aZ (bH D.prog D.w) X.A (A7<|aG a) Q Er z.s:=by
 show QGa (i6 e) (xT K rfl (Ic (.inl rfl)<|.inr ⟨⟨_,e⟩,Gu K e λO=>nofun,t⟩) (by simp only[jH,q.len]:vs.toArray.size=xs.length) (Walks.list K.R.1 z.s.heap.objs.size a (λq=>by simp only[q,kJ<|cY _] at e;show bM e) vs.toArray) ⟨(fw _ (gz _ rfl) rfl rfl),(i6 e).push _⟩
  (λi h q=>q.1.elim λo q=>d0 o _ q.1 q.2.1<|by ext) (λi v e=>Gs q e) k)
theorem H_ {a:aP} {vs:List aO} {n:Nat} (K:FX D C X r z) (e:z.s.heap.get? a=aA {cls:=bp "tuple",data:=jr vs.toArray n}) (q:kH X z vs xs) (t:fl=aC-> ¬ z.W a) (k:KI D C X r z fl xs Q):aZ (bH D.prog D.w) X.A (A7<|aG a) Q Er z.s:=by
 show wpAny_pyIter_tuple ⟨_,e,rfl,_,rfl⟩ (xT K rfl (Ic (.inl rfl)<|.inr ⟨⟨_,e⟩,Gu K e λO=>nofun,t⟩) (by simp only[jH,q.len]:vs.toArray.size=xs.length) (Walks.tuple K.R.1 z.s.heap.objs.size a (λq=>by simp only[q,kJ<|cY _] at e;show bM e) vs.toArray) ⟨(fw _ (gz _ rfl) rfl rfl),⟨_,iW _ e,rfl,_,rfl⟩⟩
  (λi h q=>q.1.elim λo q=>d0 o _ q.1 q.2.1<|by ext) (λi v e=>Gs q e) k)
theorem G9 {P:aP->Prop} (h:P p): ∀b∈[p],P b:=λb B=>by
 cases B with
 |head=>show h
 |tail _ B=>show nomatch B
theorem UR {t:gZ} (K:FX D C X r z) (k:KI D C X r z fl (sF x) Q):aZ (bH D.prog D.w) X.A (A7<|cP x t) Q Er z.s:=by
 have l:x.cps.size=(sF x).length:=by simp[sF]
 have a: ∀i v,SignAt x i v-> ∃d,(sF x)[i]?=aA d/\Rz X z v d:=λi v q=>q.elim λc q=>q.elim λu q=>bJ (aI ⟨#[c]⟩) (by simp[sF,q.1])<|q.2▸Rd.str _ _;cases H:x.cps.all (· <128)
 ·show wpAny_pyIter_wide H (xT K rfl (G9<|.inl rfl) l (Walks.strWide K.R.1 _ x t) (fw _ (gz _ rfl) rfl rfl) (λi h q=>q.elim λo q=>d0 o _ q.1 q.2.1<|by ext) a k)
 ·show wpAny_pyIter_ascii H (xT K rfl (G9<|.inl rfl) l (Walks.strAscii K.R.1 _ x t) (fw _ (gz _ rfl) rfl rfl) (λi h q=>q.elim λo q=>d0 o _ q.1 q.2.1<|by ext) a k)
theorem OS {m n:Int} (K:FX D C X r z) (q:IsRange z.s.heap g m n 1 t u v) (M: -(2^24)<m/\m<2^24/\ -(2^24)<n/\n<2^24) (k:KI D C X r z fl ((cg (n - m).toNat).map λ(i:Nat)=>aB<|m+(i:Int)) Q):aZ (bH D.prog D.w) X.A (A7<|aG g) Q Er z.s:=by
 show wpAny_pyIter_range q (small_one (bR M.1) (bR M.2.1) (bR M.2.2.1)<|bR M.2.2.2)<|sb (by rw[rangeSize_one];split<;>lia -abstractProof:Builtin.Range.rangeSize m n 1=((n - m).toNat))<|xT (St:=λi h=>IsRangeIter h z.s.heap.objs.size (m+(i:Nat)*1) (((n - m).toNat) - (i:Nat)) 1) K rfl (G9<|.inl rfl) (by simp:(n - m).toNat=((cg (n - m).toNat).map λ(i:Nat)=>aB<|m+(i:Int)).length) ((Walks.range (prog:=D.prog) (w:=D.w) K.R.1 z.s.heap.objs.size m 1 (n - m).toNat).bound) ?_ (λi h z=>(d0 _ _ z rfl (by ext))) (λi v ⟨d,U,e⟩=>(bJ (aB<|m+(i:Int)) (by simp[d]) ?_)) k
 ·change IsRangeIter _ _ _ _ _
  simpa using gz z.s.heap rfl
 ·simp only[e,uW]
  show Rd.int _ _
theorem DA (K:FX D C X r z) (P:Vz D X z u v) (j:xW r v xs) (M:fl=aC-> ∀i,v=tL i-> ∀a,z.φ i=aA a-> ¬ z.W a) (k:KI D C X r z fl xs Q):aZ (bH D.prog D.w) X.A (A7 u) Q Er z.s:=by
 induction j with
 |s=>show bE (Rd.fD P) λt g=>sb g<|UR K k
 |q q=>
  induction q with
  |t=>show fh (Rd.Dy P) λa H n e x Z p=>sb e<|H_ K x p (λO w=>Z<|.inr w) k
  |l q=>
   induction q with
   |d=>show fh (Rd.lst_inv P) λa H n e x Z p=>sb e<|Kq K x p (λO w=>Z<|.inr w) k
   |bor R=>show fH (K.F.own _ _ R) λa H n x Z p=>aT P λY m B=>sb B ?_;clear R P B;obtain rfl:=bt x m;show Kq K Z p (λf=>M f _ rfl a x) k
theorem QAe (h:bI D C x e):jS D C fl x (I.m9 e):=λg=>λK k=>(h g).run K λv l g u z R s q=>by
 induction lq g with
 |mk e g=>subst e;induction g with|mk n g=>show DA R q n (λO O=>nofun)<|(k _ _ g).tr s
set_option tactic.hygienic true in
theorem T7 (o:kD C nm i):jS D C fl (bf nm pos) (.bL i):= @λl r g=>λK k=>by
 delta I.bL at g;generalize e:aR l i=y at g;cases y with
 |val x=>
  induction (g) with
  |mk n g=>show (vX (K:=λv L=>v=.d x/\L=l) o (by dsimp only[lz];erw[e];show ⟨rfl,rfl⟩:jz (lz (aR l) i) _ False)).run K ?_;clear o K e;intro _ _ H u z R s Q;obtain ⟨rfl,rfl⟩:=H;show DA R Q n (λO O=>nofun)<|(k _ _ g).tr s
 |own A=>have h:=g;show (vX (K:=λv L=>v=tL i/\L=l) o (by dsimp only[lz];erw[e];show ⟨rfl,rfl⟩:jz (lz (aR l) i) _ False)).run K ?_;clear o K;intro _ _ H u z R s Q;obtain ⟨rfl,rfl⟩:=H;show DA R Q (.q<|.l<|.bor e) (λf=>by rw[h.1] at f;show dP f)<|(k _ _ h.2).tr s
 |_=>show ph g
theorem NP [H:eV D] (m:C.K "range" =aA nG) (P:Pl xs) (K:FX D C X r z) (h:aZ (bH D.prog D.w) X.A (vx<|pq pos<|gv xs X.env) (λus n=>aZ (bH D.prog D.w) X.A (call (bp "range") us) Q Er n) Er z.s):
 aZ (bH D.prog D.w) X.A (dH (du (bf "range" p) xs [] pos) X.env) Q Er z.s:=
 tD (zw K m (by decide+kernel) (by lia)<|yJ (P X.env pos)<|iU (P X.env pos) h)
theorem QEh [H:eV D] (c:C.K "range" =aA nG) (P:Pl [x]) (hs:iQ D C [x] [a]):jS D C fl (du (bf "range" p) [x] [] pos) (.fv a):=λe=>λ{X z Q Er} K k=>NP c P K (ma (hs e) K λd l f Z h R U o=>by
 obtain ⟨n,rfl,A,N,h⟩:=h;show cI o.jR λu f B q i=>sb B ?_;cases i.lg;show bE (Rd.fm q) λt g=>sb g<|wpAny_toks<|call_range_1 λv=>?_;have Y:=Kl.push (L:=X.env.locals) (h:=Z.s.heap) {cls:=bp "range",data:=eY #[bS 0 Z.s.toks,bS n t,bS 1<|Z.s.toks+1]};show OS (fl:=fl) (m:=0) (n:=n) (R.kl Y v) (gz _ rfl) (mA (by ext) (by ext) N A) ?_;simp only[Int.sub_zero,JQ]
 show ((k _ _ h).tr U).tr<|.kl R Y v)
theorem Zg [H:eV D] (c:C.K "range" =aA nG) (P:Pl [x,y]) (hs:iQ D C [x,y] [a,b]):jS D C fl (du (bf "range" p) [x,y] [] pos) (.rm a b):=λe=>λ{X z Q Er} K k=>NP c P K (ma (hs e) K λds l j Z h R v o=>by
 obtain ⟨m,n,rfl,A,N,W,r,h⟩:=h;show cI o.jR λu j B q i=>sb B<|cI i.jR λu' U B f F=>sb B ?_;cases F.lg;show bE (Rd.fm q) λd g=>sb g<|bE (Rd.fm f) λt g=>sb g<|wpAny_toks<|call_range_2 λM=>?_;have Y:=Kl.push (L:=X.env.locals) (h:=Z.s.heap) {cls:=bp "range",data:=eY #[bS m d,bS n t,bS 1 Z.s.toks]}
 show OS (m:=m) (n:=n) (R.kl Y M) (gz _ rfl) (mA r W N A)<|((k _ _ h).tr v).tr<|.kl R Y M)
end
noncomputable def zT (xs:List az) (env:eB):cM Bool:=forIn xs aC λc r=>if r=aC then do let o<-A4 c env (dH c env);pure (rA o) else pure (rA r)
def qn (D:Wd) (C:Fc) (xs:List az) (ts:List T):Prop:= ∀{l K},aW ts D.o l K-> ∀{X:Fx} {z:Zs} {Q:Bool->aV->Prop} {Er:aO->aV->Prop},FX D C X (aR l) z->KT D C X z K Q->aZ (bH D.prog D.w) X.A (zT xs X.env) Q Er z.s
section
variable {D:Wd} {C:Fc} {x y w:az} {a b c:E} {t:T} {ts:List T} {r r₁ r₂ r₃:cU} {v v₁ v₂:V} {pos:cA} {X:Fx} {z z' z'':Zs} {Q:aO->aV->Prop} {Er:aO->aV->Prop} {d:aM} {fl:Bool} {xs:List aM}
theorem QAu:qn D C [] []:=λe=>λK k=>by
 unfold zT
 simp! only[A6]
 show bQ<|k _ _ e _ K .refl
theorem ZM {xs:List az} (a:gh D C x t) (hb:qn D C xs ts):qn D C (x::xs) (t::ts):=λe=>λK k=>by
 unfold zT;rw[vz]
 skip
 show bD (bD ((a e).run K λb O g z R s=>bQ (by
  rcases g with ⟨rfl,g⟩|⟨rfl,g⟩
  ·show hb g R λO O g=>(k _ _ g).tr s
  ·show QBe (k _ _ g _ R s) xs)))
theorem FX.turn {J:aP} (K:FX D C X r z) (H:X.Ob J) (nf:kR C X.env z.φ J) (k: ∀a o,z.s.heap.get? a=aA o->a≠J->h'.get? a=aA o) (j: ∃o,h'.get? J=aA o) (l:z.s.toks<=tk):
 FX D C X r (z.to h' tk)/\Mon (Ex X.Ob z.W) z.s.heap (Ex X.Ob z.W) h':=by
 show bP (K.F.move (Ob₂:=X.Ob) (Z:=λa=>a=J) (h':=h') (λa q=>q▸H) (λa q=>q▸nf) k (λa q=>⟨.inl q,by
  by_cases e:a=J
  ·show e▸j
  ·show bE (K.F.fe a<|.inl q) λo w=>⟨o,k a o w e⟩⟩)) λF m=>?_
 show ⟨⟨F,K.R,bO K.t l⟩,m⟩
theorem FX.drop {J:aP} (K:FX D C (X.add J) r z) (nJ: ¬ Ex X.Ob z.W J) (nf:kR C X.env z.φ J) (k: ∀a o,z.s.heap.get? a=aA o->a≠J->h'.get? a=aA o) (l:z.s.toks<=tk):
 FX D C X r (z.to h' tk)/\Mon (Ex (X.add J).Ob z.W) z.s.heap (Ex X.Ob z.W) h':=by
 show bP (K.F.move (λa q=>.inr q) (λa q=>q▸nf) k λa q=>⟨.inl<|.inl q,by show bE (K.F.fe a<|.inl<|.inl q) λo w=>⟨o,k a o w λe=>nJ<|.inl<|e▸q⟩⟩) λF m=>?_;show ⟨⟨F,K.R,bO K.t l⟩,m⟩
theorem Wm {w:dF} {J:aP} {St:Nat->bq->Prop}
 (z:uV prog w A J fp [J] n P St) (I:Nat->aV->Prop) (C: ∀j s,I j s->St j s.heap) (N: ∀v,JP target (aG J) v=pure ()) (h0:I 0 s)
 (d: ∀s h' tk,I n s->(∀a o,s.heap.get? a=aA o->a≠J->h'.get? a=aA o)->s.toks<=tk->R (.ok Flow.next) {s with heap:=h',toks:=tk})
 (turn: ∀j s h' tk v,j<n->I j s->P j v->St (j+1) h'->(∀a o,s.heap.get? a=aA o->a≠J->h'.get? a=aA o)->s.toks<=tk-> ∀Er,aZ (bH prog w) A (rC target env v) (λO W=>aZ (bH prog w) A (zT ifs env) (λf Q=>if f=aC then aZ (bH prog w) A (dH elt env) (λx c=>aZ (bH prog w) A (call (bx "list.append") [u,x]) (λO g=>I (j+1) g) Er c) Er Q else I (j+1) Q) Er W) Er {s with heap:=h',toks:=tk}):
 yQ (bH prog w) A (Code.compStart (v3 elt [⟨target,iter,ifs,0⟩] scope pos) 0 (aG J) u env) R s:=by
 have nx: ∀{m j:Nat},m=n+1 - j->j<n->n+1 - (j+1)<m:=λe h=>e▸Nat.sub_lt_sub_left (yO h) (yN _)
 have e8:yQ (bH prog w) A (Code.compLoop (v3 elt [⟨target,iter,ifs,0⟩] scope pos) 0 (aG J) u env) R s:=by
  show codeAny_compLoop_tests (λm U=> ∃j,j<=n/\m=n+1 - j/\I j U) ?_ (n+1) (fw 0 (iz _) rfl h0) N;intro m U B;show eE B λj K M F=>?_;by_cases L:j<n
  ·show wpAny_toks (z.item j _ _ _ L (C j U F) λv h' tk hP st k l=>?_)
   show iy (turn j U h' tk v L F hP st (λa o e q=>k a o (by simpa -iota using q) e) l _) (λO W i=>iy i (λf Q H=>?_) λO O x=>x) λO O x=>x;induction f with
   |false=>show ⟨_,nx M L,j+1,L,rfl,H⟩
   |true=>show iy H (λx c t=>iy t (λO g b=>⟨_,nx M L,j+1,L,rfl,b⟩) λO O x=>x) λO O x=>x
  ·cases mQ K (jt.mp L)
   show wpAny_toks (z.done _ _ _ (C _ U F) λh' tk k l=>d U h' tk F (λa o e q=>k a o (by simpa -iota using q) e) l)
 show codeAny_compStart_list e8<|z.self 0 _ _ _ (C _ _ h0) e8
section
variable {elt target iter:az} {ifs:List az} {scope:kM} {cpos:cA}
def vU (D:Wd) (X:Fx) (z:Zs) (d:aP):aP->Prop:=λa=>(Ex X.Ob z.W a\/a=d)/\ ¬ D.P.PF a
def gT (z:Zs):Heap:=z.s.heap.push<|listOf ([]:List aO).toArray 0
def y4 (scope:kM) (z:Zs):Heap:=lP ((gT z).push {cls:=bp "dict",data:=gu #[]}) scope.names
def zC (D:Wd) (scope:kM) (z:Zs):Zs:={s:={z.s with heap:=y4 scope z},W:=λa=>D.P.PF a\/((gT z).get? a=aE/\ ∃o,(y4 scope z).get? a=aA o),φ:=z.φ}
theorem MH {x:aN} (h:(C.sub scope.names aC aD hb).dY x=aA i):(∃k,scope.names.lookup x=aA k/\lM k=aC/\(x==qU)=aD/\i=C.bd+scope.names.findIdx (·.1==x))\/(scope.names.lookup x=aA ck/\C.dY x=aA i):=by
 have h':(match scope.names.lookup x with
  |some k=>if lM k then (if x==qU then aE else aA (C.bd+scope.names.findIdx (·.1==x))) else if k==ck then C.dY x else aE
  |none=>aE)=aA i:=h
 induction e:scope.names.lookup x with
 |none=>rw[e] at h';show bM h'
 |some k=>
  rw[e] at h';dsimp only at h';by_cases K:lM k=aC
  ·rw[if_pos K] at h'
   by_cases hd:(x==qU)=aC
   ·show dy (QIg hd) h'
   ·obtain rfl:=bt (QIf hd) h'
    show .inl<|ij k rfl K (QGW _▸hd) rfl
  ·rw[if_neg K] at h'
   by_cases hf:(k==ck)=aC
   ·rw[if_pos hf] at h'
    show .inr ⟨by show sb (QIi.mp hf) rfl,h'⟩
   ·show dy (QIf hf) h'
theorem wN (c:o9 C scope tt target iter):(i∈lA tt->hW tt (kU r) i=.unb)/\(i∉lA tt->hW tt (kU r) i=kU r i):=by rw[xV,y9];show ⟨λh=>QIg h,λh=>QIf h⟩
theorem QCd (h:kU r i=bg ys):r i=bg ys:=by
 unfold kU at h
 split at h
 ·show nomatch h
 ·cases e:r i<;>rw[e] at h<;>cases h;rfl
theorem fg.Uz {φ cl Y Y' h h'} {v:Option aO} {sl:Sl} (q:fg P φ cl Y h i v sl) (k: ∀a o,h.get? a=aA o->h'.get? a=aA o) (m:Mon Y h Y' h') {c:List (aN×aP)}:fg P φ c Y' h' i v (xk sl):=by
 induction sl with
 |grid n=>show ik q λa z x C l p=>(iX a z x C (k _ _ l) p)
 |clo f=>trivial
 |unb=>trivial
 |val d=>show aT q λu e z=>(bJ u e<|z.mon m)
 |own R=>show q
 |ali j=>show q
 |inst=>show cI q λy a x C z=>(d0 y a x C<|P.lh z m)
 |emp=>show eE q λa x Z g=>(bJ a x<|m _ _ Z g)
theorem QCo {env₀:eB} (f:o9 C scope tt target iter) (l: ∀x∈scope.names,x.2=ck->(X.env.cells.lookup x.1).isSome=aC) (K:FX D C X r z)
 (L:env₀=JK scope (gT z).objs.size X.env.globals (kL ((gT z).objs.size+1) scope.names<|clOf X.env.cells scope.names []) X.env.qual aE bG (aA X.env) X.env.builtins):
 FX D (C.sub scope.names aC aD hb) {A:=X.A,env:={env₀ with scope:=relabel scope X.env},Ob:=vU D X z z.s.heap.objs.size} (hW tt<|kU r) (zC D scope z):=by
 have N:=(yt scope.names [] l λy c q=>by show bM q).1;have Z:=(yt scope.names [] l λy c q=>by show bM q).2;have nD:z.s.heap.get? z.s.heap.objs.size=none:=kJ<|cY _;have d: ∀b o,z.s.heap.get? b=aA o->(gT z).get? b=aA o:=λb o e=>iW _ e
 have M:Mon (Ex X.Ob z.W) z.s.heap (Ex (vU D X z z.s.heap.objs.size) D.P.PF) (gT z):=λa o e n=>⟨d a o e,λq=>by
  rcases q with ⟨q|q,_⟩|q
  ·show n q
  ·simp! only[q,nD] at e
   show bM e
  ·show n<|.inr<|K.F.pf a q⟩
 have hz:bC∉lA tt:=λq=>QIe (f.zR bC q).2 (by ext);have hw:cG∉lA tt:=λq=>QIe (f.zR cG q).2 (by ext)
 have U: ∀{x:aN} {i:Nat} {k:fX},scope.names.lookup x=aA k->lM k=aC->(C.sub scope.names aC aD hb).dY x=aA i->hW tt (kU r) i=.unb:=λ{x i k} e1 e2 e3=>by
  show (wN f).1 ?_;rcases MH e3 with ⟨k',q1,q2,Y,rfl⟩|⟨q,_⟩
  ·show f.tid _ (mem_of_lookup q1) q2 Y
  ·obtain rfl:=bt e1 q
   show dP e2
 have Q: ∀{i:Nat} {ys:List aM},hW tt (kU r) i=bg ys->r i=bg ys:=λ{i ys} q=>by
  by_cases m:i∈lA tt
  ·rw[(wN f).1 m] at q
   show nomatch q
  ·show QCd<|(wN f).2 m▸q
 have fr: ∀{x:aN} {i:Nat},scope.names.lookup x=aA ck->(C.sub scope.names aC aD hb).dY x=aA i-> ∃c v,(clOf X.env.cells scope.names []).lookup x=aA c/\(gT z).IsCell c v/\fg D.P z.φ ({env₀ with scope:=relabel scope X.env}).cells (Ex (vU D X z z.s.heap.objs.size) D.P.PF) (gT z) i v (hW tt (kU r) i):=λ{x i} q b=>by
  rcases MH b with ⟨k',q1,q2,_⟩|⟨_,B⟩
  ·obtain rfl:=bt q q1
   show dP q2
  ·show bE (q8.mp<|(Z x).mp<|.inl<|mem_of_lookup q) λc q1=>bP (f.free _ (mem_of_lookup q) rfl) λh g=>cI (K.F.jj x i g B) λc' v Y q5 q6=>?_
   rw[N x c q1] at Y;cases Y;show (d0 c v q1 (q5.keeps d) ?_);have lt:=C.tQ x i B;have nt:i∉lA tt:=λq=>oD _ (oC lt (f.zR i q).1)
   simp! only[(wN f).2 nt,show kU r i=xk (r i) from QIf (C.qf B).1]
   show q6.Uz d M
 show ⟨HX f.nd (by erw[L];rfl:env₀.locals=(gT z).objs.size) (by erw[L];rfl:env₀.cells=kL ((gT z).objs.size+1) scope.names (clOf X.env.cells scope.names [])) f.kind (λx=>Xn K.F.hk K.F.hK scope.names x) (by change env₀.globals=_;erw[L];show K.F.hg) (by change env₀.builtins=_;erw[L];show K.F.hb) nofun
  (λx i a b=>?_) (λx i a b=>?_) (λx a b=>?_) (λx c q=>?_) (λx y c q u=>K.F.qM x y c (N x c q)<|N y c u) (λb o e=>d b o<|K.F.base b o e) (λb o e q=>?_) (λi xs q=>?_) nofun (λxs q u a=>?_) (λxs q1 q2 a Y q4=>?_) (λq=>K.F.pW λxs hx=>q xs ?_)
  K.F.inj (λi a q=>let ⟨o,w⟩:=K.F.lB i a q;⟨o,d _ _ w⟩) (λa q=>?_) (λa q u=>u.2 q) (D.P.jo K.F.inv M λa p=>by show dU (D.P.jk K.F.inv p) λo vs e O=>?_;erw[e];show d a o e) (λa p=>p),K.R,K.t⟩
 ·rcases qm a with q|q
  ·show U q rfl b
  ·cases q.1
 ·rcases a with a|a
  ·rcases qm a with q|q
   ·show .inl ⟨q,U q rfl b⟩
   ·show .inr ⟨q.2.1,fr q.2.1 b⟩
  ·rcases qm a with q|q
   ·show .inr ⟨q,fr q b⟩
   ·cases q.1
 ·have B:(match scope.names.lookup x with|some k=>lM k|none=>aD)=true:=b
  rcases qm a with q|q
  ·show q
  ·rw[q.2.1] at B
   show dP B
 ·have u:=N x c q
  show bP (f.free _ (((Z x).mpr (by erw[q];rfl)).resolve_right nofun) rfl) λh g=>?_;show bE (q8.mp h) λi h=>cI (K.F.jj x i g h) λc' v q1 H O=>aT H λo w O=>?_;rw[u] at q1;clear H;cases q1;show ⟨o,d _ _ w⟩
 ·rcases q with ⟨q|q,_⟩|q
  ·show K.F.gd b o e q
  ·rw[q] at e
   rw[K.F.base _ _ e] at nD;show sT nD
  ·show K.F.gd b o e<|.inr<|K.F.pf b q
 ·show fH (K.F.own i xs<|Q q) λa vs n e1 e2 e3=>(mf a vs n e1 (d _ _ e2)<|e3.mon M)
 ·simp! only[(wN f).2 hw,show kU r cG=.unb from QIg rfl] at u
  show nomatch u
 ·show fH (K.F.own bC xs<|Q q1) λa' vs n e1 e2 O=>?_
  obtain rfl:=bt (Y:z.φ bC=aA a) e1;show dU (D.P.jk K.F.inv q4) λo aa j d4=>?_;obtain rfl:=bt e2 j;clear e2;show nomatch d4
 ·simp! only[(wN f).2 hz,show kU r bC=xk (r bC) from QIf (by ext),hx]
  rfl
 ·rcases q with ⟨q|q,_⟩|q
  ·show bE (K.F.fe a q) λo w=>⟨o,d _ _ w⟩
  ·show sb q<|⟨_,Heap.get?_push_size _ rfl⟩
  ·show dU (D.P.jk K.F.inv q) λo aa j O=>⟨o,d _ _ j⟩
structure CB (D:Wd) (Y X':Fx) (J:aP) (z2:Zs) (St:Nat->bq->Prop) (j:Nat) (ys:List aM) (z:Zs):Prop where
 st:St j z.s.heap
 mon:Mon (Ex Y.Ob z2.W) z2.s.heap (Ex X'.Ob z.W) z.s.heap
 keep: ∀a o,z2.s.heap.get? a=aA o->a≠J-> ¬ D.P.PF a->z.s.heap.get? a=aA o
 acc: ∃vs n,z.s.heap.get? z2.s.heap.objs.size=aA (listOf vs.toArray n)/\bU (Ex X'.Ob z.W) z.s.heap vs ys
 t:z2.s.toks<=z.s.toks
 f:z.φ=z2.φ
 e:z.s={z2.s with heap:=z.s.heap,toks:=z.s.toks,drawn:=z.s.drawn}
section
variable {St:Nat->bq->Prop} {j n:Nat} {ys:List aM} {C':Fc} {r':cU}
theorem CB.nw (B:CB D Y X' J z2 St j ys z) (K:FX D C' X' r z) (Z:X'.Ob=vU D Y z2 z2.s.heap.objs.size): ∀a o,z2.s.heap.get? a=aA o-> ¬ D.P.PF a-> ¬ z.W a:=λa o e n w=>by
 by_cases q:Ex Y.Ob z2.W a
 ·show K.F.fQ a w (by simp! only[Z];show ⟨.inl q,n⟩)
 ·show (B.mon a o e q).2<|.inr w
theorem CB.sx (B:CB D Y X' J z2 St j ys z) (K:FX D C' X' r z) (s:Sx z z') (Z:X'.Ob=vU D Y z2 z2.s.heap.objs.size) (W:uV D.prog D.w X.A J fp [J] n P St) (qk: ∀b∈fp,(∃o,z2.s.heap.get? b=aA o)/\ ¬ D.P.PF b) (hd:X'.Ob z2.s.heap.objs.size):CB D Y X' J z2 St j ys z':=by show dU B.acc λv n x C=>?_;have u:=B.nw K Z;show ⟨W.frame _ _ _ B.st λb h o e=>s.st.keep b o e (let ⟨⟨H,q⟩,N⟩:=qk b h;u b H q N),B.mon.trans s.mon,λa o e q N=>s.st.keep a o (B.keep a o e q N)<|u a o e N,(eS v n (s.st.keep _ _ x λw=>K.F.fQ _ w hd)<|C.mon s.mon),bO B.t s.t,s.f.trans B.f,by (erw[s.e];show sb B.e rfl)⟩
theorem QP (A:o9 C scope tt target iter) (K:FX D (C.sub scope.names aC aD hb) X' r z) (l:X'.env.cells=kL m scope.names cl) (xJ:X'.Ob J) (p: ∀i,z.φ i≠aA J) (Y: ∀x c,cl.lookup x=aA c->c≠J):kR (C.sub scope.names aC aD hb) X'.env z.φ J:=by
 show ⟨p,λq=>K.F.fQ _ K.F.mn<|q▸xJ,λx i c a b q e=>?_⟩;have f:scope.names.lookup x=aA ck->False:=λw=>by rw[l,(Dc scope.names m _ x).1 λz=>by cases bt (CZ A.nd z) w] at q;show Y x c q e
 have o:(C.sub scope.names aC aD hb).K x=aA dS->scope.names.lookup x=aA dS->False:=λw W=>by
  have:(C.sub scope.names aC aD hb).tT x=true:=by change (match scope.names.lookup x with|some k=>lM k|none=>aD)=aC;erw[W];rfl
  show K.F.fQ _ (K.F.rf x i c w this b q)<|e▸xJ
 show Or.elim (a) (λa=>?_) λa=>?_
 ·show Or.elim (qm a) (λw=>?_) λw=>?_
  ·show o a w
  ·show f w.2.1
 ·show Or.elim (qm a) (λw=>?_) λw=>?_
  ·show f w
  ·cases w.1
theorem Lc (c:o9 C scope tt target iter) (b:qQ tt d (hW tt r)=aA N) (K:FX D C' X' N z):FX D C' X' (hW tt r) z:=by
 have e:hW tt N=hW tt r:=by
  erw[QBK b];funext j;rw[xV,xV,y9,y9];by_cases q:j∈lA tt
  ·show sb (QIg q)<|sb (if_pos q) rfl
  ·show sb (QIf q) rfl
 have:=K.F.QEX (lA tt) λi h=>⟨λq=>QIe (c.zR i h).2 (q▸by ext),λq=>QIe (c.zR i h).2<|q▸by ext⟩;rw[<-xV,e] at this;show ⟨this,K.R,K.t⟩
theorem CB.app {y:aM} {vs:List aO} (B:CB D Y X' J z2 St j ys z) (K:FX D C' X' r z) (g:uV D.prog D.w X.A J fp [J] n P St) (qk: ∀b∈fp,(∃o,z2.s.heap.get? b=aA o)/\ ¬ D.P.PF b) (m:Mon (Ex X'.Ob z.W) z.s.heap (Ex X'.Ob z.W) h')
 (e1:bU (Ex X'.Ob z.W) z.s.heap vs ys) (q:Rz X' z u y) (k: ∀a o,z.s.heap.get? a=aA o->a≠z2.s.heap.objs.size->h'.get? a=aA o) (e:h'.get? z2.s.heap.objs.size=aA (listOf (vs++[u]).toArray n')):CB D Y X' J z2 St j (ys++[y]) (z.to h' z.s.toks):=by
 have N: ∀a o,z2.s.heap.get? a=aA o->a≠z2.s.heap.objs.size:=λa o e q=>by rw[q,kJ<|cY _] at e;show bM e
 show ⟨g.frame _ _ _ B.st λb h o e=>k b o e (let ⟨⟨H,q⟩,_⟩:=qk b h;N b H q),B.mon.trans m,λa o e q Z=>k a o (B.keep a o e q Z)<|N a o e,(eS _ _ e<|(e1.mon m).app<|bU.cons (Rd.mon q m) bU.nil),B.t,B.f,by
  change {z.s with heap:=h',toks:=z.s.toks}=_;erw[B.e]
  rfl⟩
def CI (D:Wd) (C':Fc) (Y x:Fx) (J:aP) (g:Zs) (St:Nat->bq->Prop) (e:E) (tt:cB) (c:List T) (xs:List aM) (l:Ls) (r:cU) (K:List aM->Prop) (j:Nat) (s:aV):Prop:= ∃z p,s=z.s/\FX D C' x r z/\CB D Y x J g St j p z/\cW e tt c D.o l (xs.drop j) (λZ=>K<|p++Z)/\p.length<=j
structure Cx (D:Wd) (C:Fc) (X X':Fx) (r:cU) (z z2:Zs) (scope:kM) (xs:List aM) (J:aP) (fp:List aP) (P:Nat->aO->Prop) (St:Nat->bq->Prop):Prop where
 i:It D C X r z z2 aD xs J fp P St
 ho:X'.Ob=vU D (X.add J) z2 z2.s.heap.objs.size
 ec:X'.env.cells=kL ((gT z2).objs.size+1) scope.names (clOf X.env.cells scope.names [])
 el:X'.env.locals=(gT z2).objs.size
 hA:X'.A=X.A
 cin: ∀x c,(clOf X.env.cells scope.names []).lookup x=aA c->(∃o,z2.s.heap.get? c=aA o)/\c≠J
 aJ: ∃o,z2.s.heap.get? J=aA o
theorem nD (z:Zs):z.s.heap.get? z.s.heap.objs.size=none:=kJ<|cY _
section
theorem Cx.PG (c:Cx D C X X' r z z2 scope xs J fp P St): ¬ D.P.PF J:=λp=>c.i.nJ<|.inr<|c.i.F.F.pf J p
theorem Cx.QCp (c:Cx D C X X' r z z2 scope xs J fp P St): ¬ D.P.PF z2.s.heap.objs.size:=λp=>dU (D.P.jk c.i.F.F.inv p) λo v e O=>dy (nD z2) e
theorem Cx.xJ (c:Cx D C X X' r z z2 scope xs J fp P St):X'.Ob J:=by rw[c.ho];show ⟨.inl<|.inl<|.inr rfl,c.PG⟩
theorem Cx.xD (c:Cx D C X X' r z z2 scope xs J fp P St):X'.Ob z2.s.heap.objs.size:=by rw[c.ho];show ⟨.inr rfl,c.QCp⟩
theorem Cx.qk (c:Cx D C X X' r z z2 scope xs J fp P St): ∀b∈fp,(∃o,z2.s.heap.get? b=aA o)/\ ¬ D.P.PF b:=λb B=>⟨c.i.qk b B,c.i.P0 b B⟩
theorem Cx.nJ (c:Cx D C X X' r z z2 scope xs J fp P St):z2.s.heap.objs.size≠J:=λq=>c.aJ.elim λo e=>by rw[<-q,nD] at e;show bM e
theorem Cx.wk (c:Cx D C X X' r z z2 scope xs J fp P St):uV D.prog D.w X'.A J fp [J] xs.length P St:=by rw[c.hA];show c.i.walk
theorem Cx.b0 (c:Cx D C X X' r z z2 scope xs J fp P St):CB D (X.add J) X' J z2 St 0 [] (zC D scope z2):=by
 have d: ∀b o,z2.s.heap.get? b=aA o->(gT z2).get? b=aA o:=λb o e=>iW _ e;have K: ∀b o,(gT z2).get? b=aA o->(y4 scope z2).get? b=aA o:=I0 scope.names (gT z2) _;show ⟨c.i.walk.frame 0 _ _ c.i.st λb B o e=>K b o<|d b o e,λa o e n=>⟨K _ _<|d _ _ e,λq=>?_⟩,λa o e O O=>K _ _<|d _ _ e,eS [] 0 (K _ _<|gz _ rfl) bU.nil,cY _,rfl,rfl⟩;rw[Ex,c.ho] at q;rcases q with ⟨q|q,_⟩|q|q
 ·show n q
 ·rw[q,nD] at e
  show bM e
 ·show n<|.inr<|c.i.F.F.pf a q
 ·show dy q.1<|d _ _ e
theorem Cx.step (c:Cx D C X X' r z z2 scope xs J fp P St) {r' za zb} (K:FX D C' X' r' za) (B:CB D (X.add J) X' J z2 St j ys za) (s:Sx za zb):CB D (X.add J) X' J z2 St j ys zb:=B.sx K s c.ho c.wk c.qk c.xD
end
section
theorem QBm (t:o9 C scope tt target iter) (c:Cx D C X X' r z z2 scope xs J fp P St) {y:aM} {w:aO} (hsz:xs.length<=16777216) (l:j<xs.length) (U:ys.length<=j) (b:qQ tt d (hW tt rr)=aA R)
 (K:FX D (C.sub scope.names aC aD hb) X' R Z) (B:CB D (X.add J) X' J z2 St (j+1) ys Z) (q:Rz X' Z w y) (e:cW ee tt conds D.o l0 (xs.drop<|j+1) λzs=>Kc<|ys++[y]++zs):
 aZ (bH D.prog D.w) X'.A (call (bx "list.append") [aG z2.s.heap.objs.size,w]) (λO g=>CI D (C.sub scope.names aC aD hb) (X.add J) X' J z2 St ee tt conds xs l0 (hW tt rr) Kc (j+1) g) Er Z.s:=by
 show dU B.acc λm n u p=>wpAny_toks (QGb (hsz:=by simp! only[jH,p.len,ky];show bB (na hsz l) U) ⟨n,u⟩ λh pl sb N=>?_);show bE pl λn7 M=>?_;have v:h.get? z2.s.heap.objs.size=aA (listOf (m++[w]).toArray n7):=by rw[M];simp -iota [Eh]
 have L: ∀a o,Z.s.heap.get? a=aA o->a≠z2.s.heap.objs.size->h.get? a=aA o:=λa o e q=>(sb.2 a q).trans e;have H:=K.turn c.xD (QP t K c.ec c.xD (λY q=>bE (c.i.F.F.lB Y _<|B.f▸q) λo w=>dy (nD z2) w) λx a q Q=>bE (c.cin x a q).1 λo w=>dy (nD z2)<|Q▸w) L ⟨_,v⟩<|cY _;show yA _ (ys++[y]) rfl (Lc t b H.1) (B.app K c.wk c.qk H.2 p q L v) e (by rw[i4];show RH U)
theorem Xk (hC:o9 C scope tt target iter) (hT:qh D (C.sub scope.names aC aD hb) target tt) (hA:qn D (C.sub scope.names aC aD hb) ifs conds) (hE:bI D (C.sub scope.names aC aD hb) elt ee) (c:Cx D C X X' r z z2 scope xs J fp P St)
 (hL:aR l0=hW tt rr) (hsz:xs.length<=16777216) (L:j<xs.length) (H:CI D (C.sub scope.names aC aD hb) (X.add J) X' J z2 St ee tt conds xs l0 (hW tt rr) Kc j s) (hP:P j u) (R:St (j+1) h') (Z: ∀a o,s.heap.get? a=aA o->a≠J->h'.get? a=aA o) (l:s.toks<=tk) (Er:aO->aV->Prop):
 aZ (bH D.prog D.w) X'.A (rC target X'.env u) (λO W=>aZ (bH D.prog D.w) X'.A (zT ifs X'.env) (λok Q=>if ok=aC then aZ (bH D.prog D.w) X'.A (dH elt X'.env) (λx K=>aZ (bH D.prog D.w) X'.A (call (bx "list.append") [aG z2.s.heap.objs.size,x]) (λO M=>CI D (C.sub scope.names aC aD hb) (X.add J) X' J z2 St ee tt conds xs l0 (hW tt rr) Kc (j+1) M) Er K) Er Q else CI D (C.sub scope.names aC aD hb) (X.add J) X' J z2 St ee tt conds xs l0 (hW tt rr) Kc (j+1) Q) Er W) Er {s with heap:=h',toks:=tk}:=by
 show sJ H λz' Y es Kz B cj lj=>?_;clear H;subst es;show aT (c.i.items j u hP) λd hd rd=>dU (c.i.alive _ _ R) λo1 O F O=>?_;have h:=Kz.turn c.xJ (QP hC Kz c.ec c.xJ (λi' q=>c.i.nf.p i'<|B.f▸q) λx a q=>(c.cin x a q).2) Z ⟨o1,F⟩ l
 have B1:CB D (X.add J) X' J z2 St (j+1) Y (z'.to h' tk):=dU B.acc λvs n e1 e3=>⟨R,B.mon.trans h.2,λa o e q np=>Z a o (B.keep a o e q np) q,eS vs n (Z _ _ e1 c.nJ)<|e3.mon h.2,bO B.t l,B.f,by
  change {z'.s with heap:=h',toks:=tk}=_;rw[B.e]
  rfl⟩
 have U:Rz X' (z'.to h' tk) u d:=Rd.mon rd<|B.mon.trans h.2;rw[show xs.drop j=d::xs.drop (j+1) by rw[Eu L];obtain rfl:=bt (p8 L) hd;rfl] at cj;show aT (by induction zD cj with|mk b a=>show (bJ _ b a): ∃lx,qQ tt d (aR l0)=aA (aR lx)/\_) λlx b a=>?_;have b':=b;rw[hL] at b;clear hd F Z hP cj rd R B;show hT b' (hL.symm▸h.1) U λz3 K3 s3 O=>hA a K3 λok l' g z5 N s5=>?_;have m:=g.1;have g:=g.2;have B5:=c.step K3 (c.step h.1 B1 s3) s5;clear B1 h b' a K3 s3 s5 U hT hA;rw[m] at N;rcases g with ⟨rfl,e⟩|⟨rfl,e⟩
 ·show sb (QIg rfl)<|(hE e).run N λv aa g w z6 K6 s6 q6=>?_
  have B6:=c.step N B5 s6;have m:=g.1;have g:=g.2;clear N B5 s6 e;rw[m] at K6;induction lq g with
  | @mk y ev e=>clear g m;subst ev;show QBm hC c hsz L lj b K6 B6 q6 (by simp! only[nI];show e)
 ·rw[if_neg<|by ext]
  show yA z5 Y rfl (Lc hC b N) B5 e (Ax lj)
theorem QEf (c:Cx D C X X' r z z2 scope xs J fp P St) {s:aV} {h':bq} {R:A8->aV->Prop} (H:CI D C' (X.add J) X' J z2 St ee tt conds xs l0 (hW tt rr) Kc xs.length s) (M: ∀a o,s.heap.get? a=aA o->a≠J->h'.get? a=aA o) (l:s.toks<=tk)
 (k: ∀ys,Kc ys-> ∀h u z',FX D C (X.add h) r z'-> ¬ Ex X.Ob z'.W h->kR C X.env z'.φ h->Sx z z'->(∀a o,z.s.heap.get? a=aA o-> ¬ z.W a->a≠h)->Rz (X.add h) z' u (aK ys)->(∃m,z'.s.heap.Ns h m)->u=aG z2.s.heap.objs.size->h=(gT z2).objs.size->R (.ok Flow.next) z'.s):
 R (.ok Flow.next) {s with heap:=h',toks:=tk}:=by
 show sJ H λz' Y es K B j Z=>?_;clear H Z;subst es;rw[QGc] at j;have j:Kc (Y++[]):=j;rw[lQ] at j;show aT K.F.loc λm U O=>?_;rw[c.el] at U;have i:=c.i
 have g:z2.s.heap.get? (gT z2).objs.size=none:=by
  induction q:z2.s.heap.get? (gT z2).objs.size with
  |none=>rfl
  |some o=>show dy (kJ<|cY _)<|iW _ q
 have x:(gT z2).objs.size≠J:=λq=>c.aJ.elim λo e=>by rw[<-q,g] at e;show bM e
 show dU B.acc λvs n e1 A=>?_;have cW:z'.W (gT z2).objs.size:=c.el▸K.F.mn;have L: ∀a o,z2.s.heap.get? a=aA o->a≠J-> ¬ D.P.PF a->h'.get? a=aA o:=λa o e q np=>M a o (B.keep a o e q np) q
 have v:Mon (Ex X'.Ob z'.W) z'.s.heap (Ex (X.add (gT z2).objs.size).Ob z2.W) h':=λa o e n=>⟨M a o e λq=>n<|.inl<|q▸c.xJ,λq=>n (by
  by_cases p:D.P.PF a
  ·show .inr<|K.F.pf a p
  ·rcases q with (q|q)|q
   ·rw[Ex,c.ho]
    show .inl ⟨.inl<|.inl<|.inl q,p⟩
   ·show .inr<|q▸cW
   ·rw[Ex,c.ho]
    show .inl ⟨.inl<|.inr q,p⟩)⟩
 have Q:=D.P.jo K.F.inv v λa p=>dU (D.P.jk K.F.inv p) λo vs e d=>e.trans (M a o e λq=>c.PG<|q▸p).symm▸rfl;have N:=U.at λo e=>M _ o e x
 have Hq:=i.F.F.HG (λa q=>.inr q) (λa q=>q▸i.nf) L (λa q=>by
  rcases q with q|q
  ·show bE (i.F.F.fe a<|.inl<|.inl q) λo w=>⟨.inl<|.inl q,o,L a o w (λe=>i.nJ<|.inl<|e▸q) λp=>i.F.F.fQ a (i.F.F.pf a p)<|.inl q⟩
  ·show qF N λo O O w O=>⟨.inr<|q▸g,o,q▸w⟩) Q
 have b: ¬ Ex X.Ob z2.W (gT z2).objs.size:=λq=>bE (i.F.F.fe _<|q.imp .inl id) λo w=>dy g w;show k _ j (gT z2).objs.size (aG z2.s.heap.objs.size) {s:={z'.s with heap:=h',toks:=tk},W:=z2.W,φ:=z2.φ} ⟨Hq.1,i.F.R,bO i.F.t<|bO B.t l⟩ b (i.F.F.DV g) ⟨⟨λa o e w=>?_,i.sx.st.grow⟩,bO i.sx.t<|bO B.t l,i.sx.f,by rw[B.e,i.sx.e]⟩ (λa o e w q=>?_) ?_ ⟨m,N⟩ rfl rfl
 ·have f:=i.sx.fresh (J:=J) e w
  show L a o f.1 (i.new a o e w) λp=>f.2<|i.F.F.pf a p
 ·have:=(i.sx.fresh (J:=J) e w).1
  rw[q,g] at this;show bM this
 ·show Rd.lst (M _ _ e1 c.nJ) (λq=>?_) (A.mon v)
  rcases q with (q|q)|q
  ·show bE (i.F.F.fe _<|.inl<|.inl q) λo w=>dy (nD z2) w
  ·rw[show (gT z2).objs.size=z2.s.heap.objs.size+1 from Eo ..] at q
   show Nat.succ_ne_self _ q.symm
  ·show bE (i.F.F.fe _<|.inr q) λo w=>dy (nD z2) w
end
def cX (D:Wd) (scope:kM) (X:Fx) (J:aP) (z:Zs) (env:eB):Fx:=Fx.mk (X.add J).A {env with scope:=relabel scope (X.add J).env} (vU D (X.add J) z z.s.heap.objs.size)
theorem O6 {U:Option (aO->cM Unit)} {Kc:List aM->Ls->Prop} (t:o9 C scope tt target iter) (hI:jS D C aD iter it) (hT:qh D (C.sub scope.names aC aD hb) target tt) (hA:qn D (C.sub scope.names aC aD hb) ifs conds) (hE:bI D (C.sub scope.names aC aD hb) elt ee)
 (e1:it D.o aD l λxs l=>xs.length<=16777216/\cW ee tt conds D.o (sH tt<|rn l) xs λys=>Kc ys l) (K:FX D C X (aR l) z)
 (k: ∀ys L,Kc ys L-> ∀d u z',FX D C (X.add d) (aR L) z'-> ¬ Ex X.Ob z'.W d->kR C X.env z'.φ d->Sx z z'->(∀a o,z.s.heap.get? a=aA o-> ¬ z.W a->a≠d)->Rz (X.add d) z' u (aK ys)->(∃m,z'.s.heap.Ns d m)->compPost (bH D.prog D.w) X.A Er U Q u d (.ok Flow.next) z'.s):
 aZ (bH D.prog D.w) X.A (comprehension (v3 elt [⟨target,iter,ifs,0⟩] scope pos) scope X.env cpos (newList []) aD (dH iter X.env) U) Q Er z.s:=by
 have b: ∀x∈scope.names,x.2=ck->(X.env.cells.lookup x.1).isSome=true:=λx N hf=>by
  have h:=(t.free x N hf);have M:=h.1;have f2:=h.2;show bE (q8.mp M) λi M=>dU (K.F.jj x.1 i f2 M) λc v q O=>?_
  simp! only[q]
  rfl
 show wpAny_comprehension_free (g:=⟨target,iter,ifs,0⟩) (gs:=[]) rfl (t.fold X.env) (Qu b) t.kind (λx N hl=>by simp! only[<-hl];show CZ t.nd N) (hI e1 K λxs L e2 z2 J fp P St i=>QGd<|KR λenv₀ e=>?_);have aa:=e2.1;have e2:=e2.2;have hL:aR (sH tt<|rn L)=hW tt (kU<|aR L):=by simp! only[YW,QFH]
 simp! only[A6]
 show bQ ?_;have K4:FX D (C.sub scope.names aC aD hb) _ _ (zC D scope z2):=QCo (X:=X.add J) (env₀:=env₀) t b i.F e;have p:=(yt scope.names [] b λy c q=>by show bM q).1;have Z:=(yt scope.names [] b λy c q=>by show bM q).2;show cI (i.alive _ _ i.st) λoJ TJ aJ O O=>?_
 have c:Cx D C X (cX D scope X J z2 env₀) (aR L) z z2 scope xs J fp P St:=⟨i,rfl,by rw[e];rfl,by rw[e];rfl,rfl,λx c q=>by
  have h:=t.free _ (show (x,ck)∈scope.names from ((Z x).mpr (by rw[q];rfl)).resolve_right nofun) rfl;show bE (q8.mp h.1) λi' M=>cI (i.F.F.jj x i' h.2 M) λc' v q1 n O=>aT n λo w O=>?_;rw[bt (p x c q) q1]
  show ⟨⟨o,w⟩,i.nf.c x i' _ h.2 M q1⟩,⟨oJ,aJ⟩⟩
 clear b p Z
 show Wm c.wk (CI D (C.sub scope.names aC aD hb) (X.add J) (cX D scope X J z2 env₀) J z2 St ee tt conds xs (sH tt<|rn L) (hW tt<|kU<|aR L) (Kc · L)) (λj s H=>sJ H λO O es O B O O=>es▸B.st) (t.go _) (yA (zC D scope z2) [] rfl K4 c.b0 e2 (cY _))
  (λs h' tk H Y l=>QEf c H Y l λys kc d u z' f nx nf sx nw rz m eu ec=>eu▸(ec.trans c.el.symm:d=env₀.locals)▸k ys L kc d u z' f nx nf sx nw rz m)
  λj s h' tk u r H hP R Y l Er=>Xk t hT hA hE c hL aa r H hP R Y l Er
theorem OM (c:o9 C scope tt target iter) (i:jS D C aD iter it) (v:qh D (C.sub scope.names aC aD hb) target tt) (A:qn D (C.sub scope.names aC aD hb) ifs conds) (l:bI D (C.sub scope.names aC aD hb) elt ee):
 bI D C (v3 elt [⟨target,iter,ifs,0⟩] scope pos) (.comp ee tt it conds):=λh=>⟨λ{X z Q Er} K k=>by
 rw[eval_ListComp];show O6 c i v A l h K λY L g d u Z F N q s U r ⟨m,j⟩=>(bJ m j λH sb=>?_)
 show bP (F.drop N q (λa o e n=>(sb.2 a n).trans e)<|cY _) λp M=>k _ _ g u (Z.to H Z.s.toks) p ⟨⟨λa o e n=>(sb.2 a<|U a o e n).trans<|s.st.keep a o e n,s.st.grow⟩,s.t,s.f,by change {Z.s with heap:=H}=_;rw[s.e];rfl⟩<|Rd.mon r M⟩
end
end
end
structure EN (o:az) (name:aN) (apos pos:cA) (xs:List az) (ks:List yL):Prop where
 base: ∀env,yK o name env (dH o env)=dH o env
 sg: ∀env,methodCallForm (xs.length+ks.length) (pq pos<|gv xs env) (RD pos<|RE ks env)=aC
 line:(apos.endLine==pos.line)=aC
section
theorem Ar (m:EN x nm a pos xs ks)
 (h:aZ M A (dH x env) (λov N=> ∀pl,aZ M A (Ei ov nm pl) (λf H=>aZ M A (yG pos f.1 f.2 (pq pos<|gv xs env)<|RD pos<|RE ks env) Q Er H) Er N) Er s):
 aZ M A (dH (du (hH x nm a) xs ks pos) env) Q Er s:=by
 rw[arm_eval_Call,m.base env];show bD<|iy h (λov N z=>?_) λO O e=>e;show bD<|kK ?_;unfold methodCall;show sb (m.sg env)<|wpAny_bind<|wpAny_holding<|wpAny_mono (z _) (λf H j=>?_) λO O e=>e
 show bD (rD (by unfold QGe;simp[m.line]:QGe aC x env a pos=pure pos) j)
theorem MC.k (h:MC o name a pos xs):EN o name a pos xs []:=⟨h.base,h.sg,h.line⟩
theorem HY {first:List aO}
 (h:aZ M A (evalArgs (aG a) aC args ks) (λx N=>(∃o fd,N.heap.get? a=aA o/\o.data=kn fd)/\aZ M A (call (aG a) (first++x.pos) x.kw) Q Er N) Er s):
 aZ M A (yG pos (aG a) first args ks) Q Er s:=by
 dsimp only[yG];show bD<|dq<|iy h (λx N K=>?_) λO O x=>x;show dU K.1 λo fd q i=>?_;have H:=K.2;show bD<|kK ?_;have n: ∀{t:cM aO},aZ M A t Q Er N->aZ M A (t>>=λr=>q7 [r] point>>=λO=>pure r) Q Er N:=λZ=>bD<|iy Z (λr L R=>bD<|dq<|wpAny_point<|bQ R) λO O x=>x;cases l:(args.any (·.1)||ks.any (·.1.isNone))<;>
  show bD ?_<;>dsimp only[RI]<;>
  show bD (wpAny_load q ?_)<;>rw[i]<;>show bQ ?_
 ·first
   |show wpAny_ite ?_
   |skip
  split<;>first
   |show n H
   |show n (by dsimp only[callMarked];show Calls.wpAny_keep H)
 ·first
   |show n (by dsimp only[callMarked];show Calls.wpAny_keep H)
   |show n H
theorem FR.G4 {G:bq} (F:FR P G C env Ob φ W r h) (t:i≠cG) (e:r i=bg xs) (l:φ i=aA a) (A:W a)
 (k: ∀b o,h.get? b=aA o->b≠a-> ¬ P.PF b->h'.get? b=aA o) (B:P.Inv (Ex Ob W) h') (u:h'.get? a=aA (listOf vs'.toArray n')) (q:bU (Ex Ob W) h' vs' ys):FR P G C env Ob φ W (upd r i<|bg ys) h'/\fk W h W h':=by
 have st:fk W h W h':=⟨λb o e n=>k b o e (λz=>n<|z▸A) λz=>n<|F.pf b z,λO=>.inl⟩;have np: ∀b o,h.get? b=aA o->(∀vs,o.data≠eY vs)-> ¬ P.PF b:=λb o e d p=>by show dU (P.jk F.inv p) λo' vs u d'=>?_;clear F t l A k B q st p;obtain rfl:=bt e u;show d _ d'
 have m:Mon (Ex Ob W) h (Ex Ob W) h':=st.mon;show fH (F.own i xs e) λa' vs n K U O=>?_;obtain rfl:=bt l K;have ne: ∀b o,h.get? b=aA o->(∀vs n,o.data≠jr vs n)->b≠a:=λb o eb d z=>by simp only[z,U] at eb;clear U;cases eb;show d _ _ rfl
 have g: ∀j v,fg P φ env.cells (Ex Ob W) h j v (r j)->fg P φ env.cells (Ex Ob W) h' j v (upd r i (bg ys) j):=by
  intro j v x;by_cases s:j=i
  ·clear t l K
   subst s;unfold upd;erw[if_pos rfl];rw[e] at x;show x
  ·unfold upd
   erw[if_neg s];induction hr:r j with
   |grid n=>rw[hr] at x;show ik x λb q e1 e2 L Z=>(iX b q e1 e2 (k _ _ L (λz=>s<|F.inj j i a (z▸e1) l) (np _ _ L λvs d=>by clear K;trivial)) Z)
   |_=>rw[hr] at x;show x.mon m λn e=>by trivial
 have al: ∀b,(∃o,h.get? b=aA o)-> ∃o,h'.get? b=aA o:=λb ⟨o,w⟩=>by
  by_cases z:b=a
  ·show ⟨_,z▸u⟩
  ·by_cases pz:P.PF b
   ·show dU (P.jk B pz) λo' vs u O=>⟨o',u⟩
   ·show ⟨o,k _ _ w z pz⟩
 show aT F.loc λmm R n2=>fH R λoL es ep N nd nr=>⟨⟨λb o w=>k b o (F.base b o w) (λz=>F.gd b o w<|.inr<|z▸A) λz=>F.gd b o w<|.inr<|F.pf b z,F.gd,F.hk,F.hK,F.hg,F.hb,F.uJ,⟨mm,⟨oL,es,ep,k _ _ N (ne _ _ N λvs n d=>by rw[nd] at d;trivial) (np _ _ N λvs d=>by rw[nd] at d;trivial),nd,nr⟩,λx j p w=>g _ _<|n2 x j p w⟩,F.mn,λx j p w=>?_,F.rf,F.qM,λj Y w=>?_,λcc j Y b w z s=>?_,λY w H b z=>?_,λY w H b z=>?_,λw=>F.pW (λf q'=>(by
  by_cases M:bC=i
  ·show w ys (by unfold upd;show sb (QIg M) rfl)
  ·show w f (by unfold upd;erw[if_neg M];show q'))),F.inj,λj b w=>al b<|F.lB j b w,λb w=>al b<|F.fe b w,F.fQ,B,F.pf⟩,st⟩
 ·show cI (F.jj x j p w) λc v e1 Q Z=>aT Q λo L d3=>⟨c,v,e1,(bJ o (k _ _ L (ne _ _ L λvs n d=>by rw[d3] at d;clear Q;trivial) (np _ _ L λvs d=>by rw[d3] at d;clear Q;trivial)) d3),g _ _ Z⟩
 ·by_cases s:j=i
  ·clear t e K g
   subst s;unfold upd at w;rw[if_pos rfl] at w;cases w;show (mf a vs' n' l u q)
  ·unfold upd at w
   rw[if_neg s] at w;show fH (F.own j Y w) λb ws n q1 q2 q3=>(mf b ws n q1 (k _ _ q2 (λz=>s<|F.inj j i a (z▸q1) l) (np _ _ q2 λvs d=>by clear q2;trivial))<|q3.mon m)
 ·by_cases M:j=i
  ·clear t e K g w s
   subst M;obtain rfl:=bt l z;show A
  ·unfold upd at w
   rw[if_neg M] at w;show F.jO cc j Y b w z s
 ·by_cases M:bC=i
  ·rw[<-M] at l
   clear k B u q st np m K U ne g al R n2 N nd nr;obtain rfl:=bt l z;show A
  ·unfold upd at w H
   rw[if_neg M] at w;rw[if_neg<|oE t] at H;show F.mJ Y w H b z
 ·unfold upd at H
  rw[if_neg<|oE t] at H;by_cases M:bC=i
  ·rw[<-M] at e
   show F.oq xs e H b z
  ·unfold upd at w
   rw[if_neg M] at w;show F.oq Y w H b z
theorem FR.write {G:bq} (F:FR P G C env Ob φ W r h) (t:i≠cG) (e:r i=bg xs) (l:φ i=aA a) (p:W a)
 (k: ∀b o,h.get? b=aA o->b≠a->h'.get? b=aA o) (u:h'.get? a=aA (listOf vs'.toArray n')) (q:bU (Ex Ob W) h' vs' ys):FR P G C env Ob φ W (upd r i<|bg ys) h'/\fk W h W h':=by
 show F.G4 t e l p (λb o e n O=>k b o e n) (P.jo F.inv (fk.mon ⟨λb o e n=>k b o e λz=>n<|z▸p,λO=>.inl⟩)<|F.vk λb o v w d O=>k b o w λz=>?_) u q;show fH (F.own i xs e) λA v n m j O=>?_;obtain rfl:=bt l m;simp only[z,j] at w;cases w;trivial
end
section
variable {fl:Bool}
theorem FX.ct (K:FX D C X r z) (c:CT D (Ex X.Ob z.W) (λO=>False) z.s s') (l:z.s.toks<=s'.toks):FX D C X r {z with s:=s'}/\Sx z {z with s:=s'}:=by have Z: ∀a o,z.s.heap.get? a=aA o-> ¬ D.P.PF a->s'.heap.get? a=aA o:=λa o e p=>c.keep a o e id p;show ⟨⟨K.F.keepsP Z c.inv,K.R,bO K.t l⟩,⟨K.F.Cv Z,l,rfl,c.e⟩⟩
theorem FX.keeps (K:FX D C X r z) (k: ∀a o,z.s.heap.get? a=aA o->h'.get? a=aA o) (l:z.s.toks<=tk):FX D C X r (z.to h' tk)/\Sx z (z.to h' tk):=⟨K.kl (.all k) l,.kl K (.all k) l⟩
theorem KE.ct (k:KE D C X r z (.d d) Q) (K:FX D C X r z) (c:CT D (Ex X.Ob z.W) (λO=>False) z.s s') (q:Rd (Ex X.Ob z.W) s'.heap u d):z.s.toks<=s'.toks->Q u s':=λl=>k u _ (K.ct c l).1 (K.ct c l).2 q
theorem h_ [H:eV D] (hn:D.fns[f]?=aA nm) (r:D.mg nm=aA (aG i)) (x:D.G.get? i=aA o) (hd:o.data=kn fd) (B:oj C nm) (P:Pl xs) (a:iQ D C xs es):bI D C (du (bf nm p) xs [] pos) (.call f es):= @λO O h=>
 ⟨λ{X z Q Er} K k=>tD (rv K B r (A9 (iU (P X.env pos) (ma (a h) K λN l U L g R s v=>⟨⟨R.F.base _ _ x,hd⟩,by
  clear x a h K;induction g with
  |mk e g=>
   show uu (H.F _ _ _ e) λn Z M W b d O O j=>?_;clear H hd B P e;obtain rfl:=bt hn b;cases bt r d
   show wpAny_toks<|j R.cs v λu A c q=>((k _ _ g).tr s).ct R c q⟩))))⟩
theorem QCL [H:eV D] (c:D.dV f C) (ok:kD C nm i) (a:Pl xs) (A:iQ D C xs es):bI D C (du (bf nm p) xs [] pos) (.kA f i es):= @λO O h=>⟨λ{X z Q Er} K k=>tD (zE K ok λv q=>by
 have hf:=h.1;have h:=h.2;simp only[hf] at q
 show aT q λF M cl=>(bJ _ M (HY (iU (a X.env pos) (ma (A h) K λds l us Z g R s1 r1=>⟨H.QS<|D.P.Ak cl s1.mon,by
  induction g with|mk e g=>show H.L _ _ _ _ _ e c R (D.P.Ak cl s1.mon) r1<|(k _ _ g).tr s1⟩)))))⟩
theorem FX.hl {u:V} (K:FX D C X r z) (h:r bC=bg hs) (q:Vz D X z x KD): ∃R i vs n,x=aG R/\z.φ bC=aA i/\D.P.HI (Ex X.Ob z.W) z.s.heap R i/\z.s.heap.get? i=aA (listOf vs.toArray n)/\bU (Ex X.Ob z.W) z.s.heap vs hs:=by show cI q λR i p Q l=>fH (K.F.own _ _ h) λL vs n f A e=>?_;obtain rfl:=bt p f;show (Io R i vs n Q p l A e)
section
variable[H:eV D]
include H
theorem OB {ds hs hs':List aM} (j:qo D f ds hs d hs') (K:FX D C X r z) (q:Vz D X z x KD) (h:r bC=bg hs) (L:r cG=eC) (rs:kH X z us ds) (k:KE D C X (upd r bC<|bg hs') z (.d d) Q):aZ (bH D.prog D.w) X.A (call (aG f)<|x::us) Q Er z.s:=by show uu (K.hl (u:=V.emp) h q) λM Y vs n m P p3 p5 a=>sb m ?_;have W:=K.F.mJ _ h L _ P;show wpAny_toks<|j K.cs p3 (.inr W) p5 a rs λu Z aa n' c U B v l=>?_;show bP (K.F.G4 (i:=bC) (by ext) h P W (λb o e n p=>c.keep b o e n p) c.inv U B) λg N=>k u {z with s:=Z} ⟨g,K.R,bO K.t l⟩ ⟨N,l,rfl,c.e⟩ v
theorem Oe {k:Nat} {ds:List aM} (hn:D.hm k=aA (nm,f)) (K:FX D C X (aR l) z) (q:Vz D X z u KD) (rs:kH X z us ds) (g:kf l bC λhs=>aR l cG=eC/\zZ (D.o.H k ds hs) λz hs'=>r (.d z)<|dm l bC<|bg hs') (i:KW D C X z r Q):aZ (bH D.prog D.w) X.A (call (aG f)<|u::us) Q Er z.s:=by
 induction lE g with
 |mk h g=>
  show bP g λm g=>?_;induction g with
  |mk e g=>show dU (H.H _ _ _ _ _ e) λn F b c=>?_;cases bt hn b;show OB c K q h m rs<|i9 _ _ _▸i _ _ g
theorem S5 {k:Nat} (hn:D.hm k=aA (nm,f)) (P:k<20) (m:MC x nm A pos xs) (M:bI D C x a) (q:iQ D C xs es):bI D C (du (hH x nm A) xs [] pos) (.kZ k a es):= @λO O h=>⟨λ{X z Q Er} K p=>by
 show dU (H.w9 _ _ _ hn) λo j Y U=>Ar m.k<|(M h).run K λv L h t Z R i b=>λpl=>?_;obtain ⟨rfl,h⟩:=ER h;have r:=b;show cI r λB N u e n=>?_;subst e
 show H.Ac _ _ _ hn P R.F.base n<|A9<|iU (m.pl X.env)<|ma (q h) R λds l us W g d s c=>⟨⟨d.F.base _ _ Y,U⟩,Oe hn d (b.mon s) c g λO O g=>(p _ _ g).tr<|i.trans s⟩⟩
theorem QCn {k:Nat} (hn:D.hm k=aA (nm,f)) (m:20<=k) (q:oj C nm) (P:Pl (x::xs)) (hs: ∀env,gv (x::xs) env=(aD,dH x env)::gv xs env) (M:bI D C x a) (A:iQ D C xs es):
 bI D C (du (bf nm p) (x::xs) [] pos) (.kZ k a es):=λh=>⟨λ{X z Q Er} K u=>by
 show dU (H.w9 _ _ _ hn) λo fd Y U=>tD<|rv K q (H.MV _ _ _ hn m)<|A9 (o:=o) (fd:=fd)<|iU (P X.env pos) ?_;show sb (hs X.env)<|spliced_cons<|(M h).run K λv L h t Z R i b=>?_
 have B:=(ER h);have d:=B.1;have h:=B.2;clear B;subst d
 show ma (A h) R λj l N W g c s r=>⟨⟨c.F.base _ _ Y,U⟩,Oe hn c (b.mon s) r g λO O g=>(u _ _ g).tr<|i.trans s⟩⟩
theorem X7 {k:Nat} (hn:D.hm k=aA (nm,f)) (Y:k<20) (m:MC x nm A pos xs) (M:bI D C x a) (Z:iQ D C xs es):bI D C (du (hH x nm A) xs [] pos) (.ly k a es):= @λO O h=>⟨λ{X z Q Er} K t=>by
 show dU (H.w9 _ _ _ hn) λo fd q3 q4=>Ar m.k<|(M h).run K λv l1 h ov z1 b i r1=>λpl=>?_;obtain ⟨rfl,h⟩:=ER h;have P:=r1;show cI P λix ia p1 r p3=>?_;subst r;show H.Ac _ _ _ hn Y b.F.base p3<|A9<|iU (m.pl X.env)<|ma (Z h) b λds l us z3 g d s B=>⟨⟨d.F.base _ _ q3,q4⟩,?_⟩;induction lE g with
 |mk U g=>
  induction g with
  |mk e g=>
   show dU (H.R _ _ _ _ e) λN W q1 j=>?_;cases bt hn q1;show uu (d.hl (u:=V.emp) U<|r1.mon s) λL aa vs n e p4 p5 p p7=>?_;cases e
   show wpAny_toks<|j d.cs p5 p p7 B λu s' c q=>((t _ _ g).tr<|i.trans s).ct d c q⟩
theorem Nn (K:FX D C X r z) (o:kD C nm 0) (b:r 0=jy) (h: ∀i N,z.φ bC=aA N->D.P.HI (Ex X.Ob z.W) z.s.heap i N->Q (aG i) z.s):aZ (bH D.prog D.w) X.A (dH (bf nm p) X.env) Q Er z.s:=zE K o λv q=>by simp only[b] at q;show cI q λi N x e d=>(bJ _ e<|h i N x d)
theorem QFJ (ok:kD C nm 0) (hb: ∀env,yK (bf nm p) "_headers" env (dH (bf nm p) env)=dH (bf nm p) env):bI D C (hH (bf nm p) "_headers" pos) .gL:= @λO O h=>⟨λ{X z Q Er} K k=>by
 show bD<|Nn K ok h.1 λR i e1 d=>bD<|kK<|bD<|dq<|wpAny_toks<|H.Qm K.F.base d λtk l=>?_
 show bD<|bQ<|bQ<|k _ _ h.2 _ (z.to z.s.heap tk) (K.kl (.refl _ _) l) (.kl K (.refl _ _) l)<|bJ i e1 rfl⟩
theorem QDN (h:bI D C x .gL):jS D C fl x .gL:= @λl r g=>λK k=>by
 show eA g λb i g=>?_;induction lE g with
 |mk A g=>show (h (K:=λv L=>v=tL bC/\L=l) ⟨b,rfl,rfl⟩).run K ?_;clear H h K b;intro _ _ n u z R s Q;obtain ⟨rfl,rfl⟩:=n;show DA R Q (.q<|.l<|.bor A) (λf j e a d=>by cases e;show R.F.oq _ A (i f) a d)<|(k _ _ g).tr s
theorem QFR {p ap q1 q2:cA} (ok:kD C nm 0) (hm:EN (bf nm p) "_convert_string_type" ap pos [y] [⟨aA "name",fY (ju b) W q1,q2⟩]) (hs: ∀env,gv [y] env=[(aD,dH y env)]) (A:bI D C y a):
 bI D C (du (hH (bf nm p) "_convert_string_type" ap) [y] [⟨aA "name",fY (ju b) W q1,q2⟩] pos) (.conv b a):=λh=>⟨λ{X z Q Er} K k=>by
 show bP h λh0 h=>aT (H.conv b) λf g1 g2=>dU (H.w9 _ _ _ g1) λo fd g3 Y=>Ar hm (Nn K ok h0 λi B c p3 pl=>H.Ac _ _ _ g1 (by ext) K.F.base p3<|HY<|evalArgs_kw2 rfl ?_ (by simp only[hs X.env];rfl));simp only[hs X.env];show yH<|(A h).run K λv N g u L j s1 r1=>oN<|kwAll_cons<|Fu<|kwAll_nil ?_;induction QY g with
 |mk e g=>
  subst e;show bE (Rd.fD r1) λt' s=>sb s<|⟨(eS o fd (j.F.base _ _ g3) Y),wpAny_toks<|g2 _ g.1 j.R j.t j.F.base (D.P.lh p3 s1.mon) λh' tk Z l=>?_⟩
  show bP (j.keeps Z l) λx s2=>k _ _ g.2 _ _ x (s1.trans s2)<|Rd.str _ _⟩
theorem Vd (ok:oj C "b1_set") (A:bI D C x a):bI D C (qz x [A3] [bf "b1_set" p] pos) (.rg a):= @λO O h=>aT H.b1 λb q1 q2=>⟨λK k=>Q7 (uN (A h) K λi l t' z g j s1=>rv j ok q1<|wpAny_toks<|q2 j.R j.F.base λtk=>((k _ _ g).tr s1).same j<|Rd.bool _) rfl⟩
theorem YI (o:oj C "b3_exceptions") (m:MC (bf "b3_exceptions" p) "get" A pos [y]) (hs: ∀env,gv [y] env=[(aD,dH y env)]) (s:bI D C y a):
 bI D C (du (hH (bf "b3_exceptions" p) "get" A) [y] [] pos) (.si a):=λh=>⟨λ{X z Q Er} K k=>by
 show sJ H.b3 λd B n b Y f q=>yM (m.base X.env) (m.sg X.env) m.line<|rv K o n ?_;show ⟨"dict","dict.get",QGf,QGg,PySem.F.type_dict_get,⟨B,K.F.base _ _ b,Y⟩,λa e=>(by cases e;show (bJ B (K.F.base _ _ b) f)),yI (m.pl X.env)<|iU (m.pl X.env) ?_⟩
 show sb (hs X.env)<|spliced_cons<|uN (s h) K λi l t Z g j U=>oN<|wpAny_toks<|q j.R j.F.base λu v r=>((k _ _ g).tr U).same j<|r _ _⟩
theorem Vx (hk:C.K "type" =aA nG) (hk2:C.K "int" =aA nG) (hp:Pl [x]) (hs: ∀env,gv [x] env=[(aD,dH x env)]) (ha:bI D C x a):
 gh D C (qz (du (bf "type" p1) [x] [] p) [oP] [bf "int" p2] pos) (.rZ a):=λh=>⟨λ{X z Q Er} K k=>by
 show JE (tD<|zw K hk (by decide+kernel) (u:=bp "type") (by lia)<|yJ (hp X.env p)<|iU (hp X.env p) ?_) rfl
 show sb (hs X.env)<|spliced_cons<|uN (ha h) K λi l t' z1 g K1 s1=>oN<|RJ (typeIs_int _ _ _) (by decide+kernel)<|zw K1 hk2 (by decide+kernel) (u:=bp "int") (by lia)<|Q9 rfl (uT<|k _ _ g _ K1 s1)⟩
end
end
section
variable {A:de} {E:aO->aV->Prop}
theorem QFV {I:aP} {St:Nat->bq->Prop} (W:uV prog w A I fp [I] N P St): ∀n i s Q,St i s.heap->i+n<=N->
 (∀vs h' tk,vs.length=n->(∀j v,vs[j]?=aA v->P (i+j) v)->St (i+n) h'->(∀b o,b≠I->s.heap.get? b=aA o->h'.get? b=aA o)->Q vs {s with heap:=h',toks:=tk})->aZ (bH prog w) A (draw (aG I) n) Q E s:=by
 intro O;induction O with
 |zero=>show λi s Q f O h=>by show bQ (h [] s.heap s.toks rfl (by simp) f λO O O e=>e)
 |succ n d=>
  show λi s Q f p h=>by
   show bD<|W.item i s _ _ (fq (jb _ _) ‹_›) f λv H t C q K=>?_;show bD<|dq<|d (i+1) _ _ q (aS p) λvs h' tk l m Z x=>bQ ?_;show h (v::vs) h' tk (by simp[l]) (λj u g=>?_) (by erw[(by simp+arith:i+(n+1)=i+1+n)];show Z) λb o B e=>x b o B (K b o (by simpa using B) e);induction j with
   |zero=>cases g;show C
   |succ j=>have:=m j u g;rwa[show i+1+j=i+(j+1) by show v5 _ _ _] at this
theorem ZN {items:Array aO} (C:A.handled=aE) (hl:s.heap.IsList a items)
 (h: ∀h' tk,(∀b o,s.heap.get? b=aA o->h'.get? b=aA o)->Q items.toList {s with heap:=h',toks:=tk}):aZ (bH prog w) A (RK (aG a) items.size aE) Q E s:=by
 dsimp only[RK];show bD ?_;dsimp only[notIterableAtAll];show bD<|QGh hl.typeIs PySem.F.slot_list_iter.lookup ?_;show bQ ?_
 skip
 show bD<|dq<|QGa hl ?_;have W:=Walks.list (prog:=prog) (w:=w) C s.heap.objs.size a (by show aT hl λo B O=>?_;show qy (mP B):a≠s.heap.objs.size) items;show bD (dq<|QFV W items.size 0 _ _ ⟨(fw _ (gz _ rfl) rfl rfl),hl.push _⟩ (by simp+arith) λvs z d l P q p=>?_)
 have v:vs=items.toList:=by
  show List.ext_getElem? λj=>?_;by_cases g:j<vs.length
  ·have:=P j vs[j] (p8 g)
   erw[p8 g];simpa using this.symm
  ·erw[RL<|fJ ‹_›]
   show sb (RL (by simp;show bB (nR l)<|fJ g)) rfl
 show sb (QIf λK=>dC K<|nR l)<|wpAny_bind (wpAny_holding<|W.done _ _ _ (by rw[Nat.zero_add] at q;show q) λH t r=>?_)
 dsimp only[Option.isSome_none,rB,if_false];show sb v<|wpAny_pure<|h H t λb o e=>?_
 have hb:=qy<|mP e;show r b o (by simpa using hb)<|p b o hb<|iW _ e
theorem QDP {items:Array aO} {k:Int} (hl:s.heap.get? l=aA (listOf items n)) (h0:0<=k) (F:k<2^63) (hn:k<items.size)
 (hQ: ∀h' n',h'.get? l=aA (listOf (items.setIfInBounds k.toNat v) n')->JB l s.heap h'->Q () {s with heap:=h'}):
 aZ (bH prog w) A (JR (aG l) (bS k t) v) Q E s:=by
 have L:s.heap.IsList l items:=⟨_,hl,rfl,n,rfl⟩;unfold JR
 try with_reducible show dq ?_
 first|show wpAny_bind (wpAny_pure ?_)|skip
 show bD (QGi L.typeIs (by ext) ?_)
 show bD (QGj L.typeIs JS
  (JT JS L.typeIs QGk ?_<|QGl _ _ _))
 show (?_:aZ _ _ (Builtin.List.listSubscript? (bS k t)>>=_) _ _ s);show bD<|wpAny_listSubscript_int (fitsIndex_of h0 F) ?_;clear F;show bE (JU h0) λj e=>?_;subst e;have g:j<items.size:=pd.mp ‹_›
 have x:=QGm g;show bD<|bD<|wpAny_seqItemAt hl rfl (bQ ?_);erw[x];have f: ∃n',(s.heap.update l<|Obj.mapSeq (·.setIfInBounds j v)).get? l=aA (listOf (items.setIfInBounds j v) n'):=by show ⟨if (items.setIfInBounds j v).size==items.size then n else n+1,?_⟩;erw[yR _ hl<|by rfl];rfl
 show bE f λn' f=>bD<|wpAny_setSeqItemAt hl rfl ?_
 first
  |show wpAny_bind<|wpAny_pure<|wpAny_pure<|bJ .none rfl (wpAny_pure<|hQ _ n' f<|Heap.SameBut.update ..)
  |show wpAny_pure ⟨Value.none,rfl,wpAny_pure<|hQ _ n' f<|Heap.SameBut.update ..⟩
end
section
theorem my (W:nK [t] i pos.line env=pure aD) (e:tE [t] i env=pure aE) (a:(yS [t] env).map (·.2)=[rC t env])
 (h:aZ M A (dH i env) (λu N=>aZ M A (rC t env u) (λO H=>Q Flow.next H) Er N) Er s):aZ M A (rE (lR [t] i pos) env) Q Er s:=by
 rw[RM];show bD<|kK ?_;show sb W<|wpAny_bind<|wpAny_pure ?_
 show sb (QIf<|by ext)<|wpAny_bind<|wpAny_mono h (λv N z=>?_) λO O x=>x
 show sb e<|sb a<|wpAny_bind<|wpAny_pure ?_
 show bD<|iy z (λO O x=>bQ x) λO O x=>x
theorem bU.rev {X:aP->Prop}: ∀{ds:List aM} {us:List aO},bU X h us ds->bU X h us.reverse ds.reverse:=by
 intro ds;induction ds with
 |nil=>show @λus q=>sb q.lg<|bU.nil
 |cons d ds i=>show @λus q=>by show cI q.jR λu us e Q s=>sb e ?_;simp only[BA,BA];show (i s).app<|bU.cons Q bU.nil
theorem Xr: ∀(ps:List (Nat×aM)) (r:cU) (i:Nat) (d:aM),i∉ps.map (·.1)->ps.foldl (λr p=>upd r p.1<|aQ p.2) (upd r i<|aQ d)=upd (ps.foldl (λr p=>upd r p.1<|aQ p.2) r) i (aQ d):=by
 intro O;induction O with
 |nil=>show λr i d O=>rfl
 |cons p ps e=>
  show λr i d h=>by
   show sb vu<|sb List.foldl_cons ?_
   have:upd (upd r i<|aQ d) p.1 (aQ p.2)=upd (upd r p.1<|aQ p.2) i (aQ d):=by
    funext j;unfold upd;by_cases H:j=p.1
    ·show sb (QIg H)<|sb (if_neg (by rw[H];show (λq=>h<|by simp[q])))<|sb (if_pos H) rfl
    ·rw[if_neg H,if_neg H]
   rw[this];show e _ i d λq=>h (by rw[dg];show .tail _ q)
theorem T2: ∀(ps:List (Nat×aM)) (r:cU),(ps.map (·.1)).Nodup->ps.reverse.foldl (λr p=>upd r p.1<|aQ p.2) r=ps.foldl (λr p=>upd r p.1<|aQ p.2) r:=by
 intro O;induction O with
 |nil=>show λr O=>rfl
 |cons p ps i=>show λr h=>by simp only[dg,RG] at h;simp only[BA,List.foldl_append,i r h.2,vu,List.foldl_nil,vu,Xr ps r p.1 p.2 h.1]
theorem Qc {α β:Type}: ∀{l:List α} {m:List β},l.length=m.length->l.reverse.zip m.reverse=(l.zip m).reverse:=by
 intro l;induction l with
 |nil=>show λO=>rfl
 |cons a l i=>
  show @λm h=>by
   induction m with
   |nil=>trivial
   |cons b m O=>
    have H:l.length=m.length:=by simpa using h
    show sb BA<|sb List.reverse_cons<|sb (List.zip_append<|by simp[H])<|sb (i H) ?_
    simp
structure vP (C:Fc) (W:aP->Prop) (h:bq) (φ φ':Nat->Option aP):Prop where
 nw:C.nw=aD->φ'=φ
 hn:C.hn=aD->φ' bC=φ bC
 sub: ∀i a,φ' i=aA a->(∃j,φ j=aA a)\/W a\/h.get? a=aE
theorem vP.refl (C φ) {W h}:vP C W h φ φ:=⟨λO=>rfl,λO=>rfl,λi a e=>.inl ⟨i,e⟩⟩
theorem fk.new (s:fk W h W' h') (e:h'.get? a=aE):W a\/h.get? a=none:=by
 by_cases w:W a
 ·show .inl w
 ·induction z:h.get? a with
  |none=>show .inr rfl
  |some o=>have:=s.keep a o z w;show dy e this
theorem vP.trans {C W h W' h' φ φ' φ''} (a:vP C W h φ φ') (s:fk W h W' h') (b:vP C W' h' φ' φ''):vP C W h φ φ'':=⟨λz=>(b.nw z).trans<|a.nw z,λz=>(b.hn z).trans<|a.hn z,λi x e=>by
 rcases b.sub i x e with ⟨j,q⟩|q|q
 ·show a.sub j x q
 ·show .inr<|s.grow x q
 ·show .inr<|s.new q⟩
theorem FR.klA {G:bq} (F:FR P G C env Ob φ W r h) (k:Kl env.locals h h') {I:aP} (t:h.get? I=aE) (i: ∃o,h'.get? I=aA o):FR P G C env (λa=>Ob a\/a=I) φ W r h':=by have m:Mon (Ex Ob W) h (Ex (λa=>Ob a\/a=I) W) h':=λa o e n=>⟨k.keep a o e λq=>n<|.inr<|q▸F.mn,λq=>n<|q.imp (λq=>q.resolve_right λz=>dy (z▸t) e) id⟩;show F.chg m (λa o e s O=>k.keep a o e<|F.nl e s.nd) k.ns (λa q=>F.OX i (F.Qk k) q) (F.LH t)<|F.Ny k m
theorem FR.adopt {G:bq} (F:FR P G C env (λb=>Ob b\/b=a) φ W (upd r i .unb) h) (t:i<1000000) (al: ∃o,h.get? a=aA o) (na: ¬ Ex Ob W a) (nf:kR C env φ a):
 FR P G C env Ob (λj=>if j=i then aA a else φ j) (λb=>W b\/b=a) (upd r i .unb) h:=by
 have M:Ex (λb=>Ob b\/b=a) W=Ex Ob (λb=>W b\/b=a):=by
  funext b;show propext ⟨λq=>?_,λq=>?_⟩
  ·rcases q with (q|q)|q
   ·show .inl q
   ·show .inr<|.inr q
   ·show .inr<|.inl q
  ·rcases q with q|q|q
   ·show .inl<|.inl q
   ·show .inr q
   ·show .inl<|.inr q
 have H:i≠bC:=λq=>by rw[q] at t;show QIe t (by ext)
 have B: ∀j v,fg P φ env.cells (Ex (λb=>Ob b\/b=a) W) h j v (upd r i .unb j)->fg P (λj=>if j=i then aA a else φ j) env.cells (Ex Ob λb=>W b\/b=a) h j v (upd r i .unb j):=by
  intro j v x;erw[<-M];by_cases s:j=i
  ·erw[<-s]
   have:upd r j .unb j=.unb:=by unfold upd;show sb (QIg rfl) rfl
   erw[this];trivial
  ·have e1:(if j=i then aA a else φ j)=φ j:=QIf s
   have e2:(if bC=i then aA a else φ bC)=φ bC:=QIf<|oE H;induction hr:upd r i .unb j with
   |own xs=>rw[hr] at x;show aT x λb q1 q2=>(bJ b (by show (?_:(if j=i then aA a else φ j)=aA b);erw[e1];show q1) q2)
   |ali k=>rw[hr] at x;obtain ⟨q0,b,q1,q2⟩:=x;subst q0;show ⟨rfl,b,by show (?_:(if bC=i then aA a else φ bC)=aA b);erw[e2];show q1,q2⟩
   |inst=>rw[hr] at x;show cI x λy b q1 q2 Y=>(d0 y b (by show (?_:(if bC=i then aA a else φ bC)=aA b);erw[e2];show q1) q2 Y)
   |grid n=>
    rw[hr] at x;show ik x λb m q1 q2 Y l=>?_;have u: ∀k,(if nq j k=i then aA a else φ (nq j k))=φ (nq j k):=λk=>QIf λq=>by rw[<-q] at t;unfold nq at t;show n6 t
    show (iX b m (by show (?_:(if j=i then aA a else φ j)=aA b);erw[e1];show q1) q2 ?_ (λk hk=>by show (?_:(if nq j k=i then aA a else φ (nq j k)).isSome=aC);rw[u];show l k hk));simp only[u];show Y
   |unb=>trivial
   |val d=>rw[hr] at x;show x
   |clo f=>rw[hr] at x;show x
   |emp=>rw[hr] at x;show x
 have R: ∀j b,(if j=i then aA a else φ j)=aA b->(j=i/\b=a)\/(j≠i/\φ j=aA b):=λj b q=>by
  by_cases s:j=i
  ·clear F t al na nf M H B
   obtain rfl:=bt (QIg s) q;show .inl ⟨s,rfl⟩
  ·rw[if_neg s] at q
   show .inr ⟨s,q⟩
 show aT F.loc λL U N=>⟨F.base,λb o e q=>F.gd b o e (by erw[M];show q),F.hk,F.hK,F.hg,F.hb,F.uJ,(bJ L U λx j p q=>B _ _<|N x j p q),.inl F.mn,λx j p q=>?_,λx j c p q w z=>.inl<|F.rf x j c p q w z,F.qM,λj ys q=>?_,λcc j ys b q p z=>?_,λys q p b z=>?_,λys q p b z w=>?_,λq=>(by show (?_);erw[if_neg<|oE H];show F.pW q),λj k b q1 q2=>?_,λj b q=>?_,λb q=>F.fe b (by erw[M];show q),λb w q=>?_,M▸F.inv,λb p=>.inl<|F.pf b p⟩
 ·show cI (F.jj x j p q) λc v e1 u A=>(d0 c v e1 u<|B _ _ A)
 ·have s:j≠i:=λz=>by clear t B N;clear al na nf H R U;subst z;unfold upd at q;rw[if_pos rfl] at q;show nomatch q
  show fH (F.own j ys q) λb vs n e1 e2 u=>(mf b vs n (by show (?_);erw[if_neg s];show e1) e2<|M▸u)
 ·rcases R j b p with ⟨_,z'⟩|⟨s,Q⟩
  ·show .inr z'
  ·show .inl<|F.jO cc j ys b q Q z
 ·rcases R bC b z with ⟨z',_⟩|⟨_,Q⟩
  ·show QIe z'.symm H
  ·show .inl<|F.mJ ys q p b Q
 ·rcases R bC b z with ⟨z',_⟩|⟨_,Q⟩
  ·show QIe z'.symm H
  ·show Or.elim (w) (λw=>?_) λw=>?_
   ·show F.oq ys q p b Q w
   ·show nf.p bC<|w▸Q
 ·rcases R j b q1 with ⟨Z,z2⟩|⟨Z,z2⟩<;>rcases R k b q2 with ⟨K,g⟩|⟨K,g⟩
  ·simp only[Z,K]
  ·show QIe g<|z2▸nf.p k
  ·show QIe z2<|g▸nf.p j
  ·show F.inj j k b z2 g
 ·rcases R j b q with ⟨Z,z2⟩|⟨Z,z2⟩
  ·show z2▸al
  ·show F.lB j b z2
 ·show Or.elim (w) (λw=>?_) λw=>?_
  ·show F.fQ b w<|.inl q
  ·show na<|.inl<|w▸q
end
theorem TC:Ex (λb=>Ob b\/b=a) W=Ex Ob (λb=>W b\/b=a):=by funext b;show propext ⟨λq=>q.elim (λq=>q.elim .inl λq=>.inr<|.inr q) λq=>.inr<|.inl q,λq=>q.elim (λq=>.inl<|.inl q) λq=>q.elim .inr λq=>.inl<|.inr q⟩
structure Sy (C:Fc) (z z':Zs):Prop where
 st:fk z.W z.s.heap z'.W z'.s.heap
 t:z.s.toks<=z'.s.toks
 p:vP C z.W z.s.heap z.φ z'.φ
 e:z'.s={z.s with heap:=z'.s.heap,toks:=z'.s.toks,drawn:=z'.s.drawn}
theorem Sx.y (s:Sx z z'):Sy C z z':=⟨s.st,s.t,s.f▸ .refl _ _,s.e⟩
theorem Sy.trans (a:Sy C z z') (b:Sy C z' z''):Sy C z z'':=⟨a.st.trans b.st,bO a.t b.t,a.p.trans a.st b.p,by (erw[b.e];show sb a.e rfl)⟩
theorem Sy.fresh (s:Sy C z z') (e:z.s.heap.get? a=aA o) (n: ¬ z.W a):z'.s.heap.get? a=aA o/\ ¬ z'.W a:=⟨s.st.keep a o e n,λq=>(s.st.grow a q).elim n λq=>by show wV e q⟩
inductive CY (D:Wd) (X:Fx) (r:cU) (z:Zs):Fl->jI->Prop
 |next:CY D X r z Fl.next Flow.next
 |cont:CY D X r z Fl.cont Flow.cont
 |ret {v u d}:Vz D X z v u->yu r u d->CY D X r z (Fl.ret d) (Flow.ret v)
def KS (D:Wd) (C:Fc) (X:Fx) (r:cU) (z:Zs) (fl:Fl) (Q:jI->aV->Prop):Prop:= ∀f Z,FX D C X r Z->Sy C z Z->CY D X r Z fl f->Q f Z.s
def LN (D:Wd) (C:Fc) (X:Fx) (z:Zs) (K:Fl->Ls->Prop) (Q:jI->aV->Prop):Prop:= ∀f l,K f l->KS D C X (aR l) z f Q
def cO (D:Wd) (C:Fc) (st:eT) (a:S):Prop:= ∀{l K},a D.o l K-> ∀{X:Fx} {z:Zs} {Q:jI->aV->Prop} {Er:aO->aV->Prop},FX D C X (aR l) z->LN D C X z K Q->aZ (bH D.prog D.w) X.A (rE st X.env) Q Er z.s
def kW (D:Wd) (C:Fc) (h:List eT) (as:List S):Prop:= ∀{l K},sW as D.o l K-> ∀{X:Fx} {z:Zs} {Q:jI->aV->Prop} {Er:aO->aV->Prop},FX D C X (aR l) z->LN D C X z K Q->aZ (bH D.prog D.w) X.A (hJ h X.env) Q Er z.s
structure NL (D:Wd) (C:Fc) (X:Fx) (r:cU) (z:Zs) (xs:List aM) (a:aP) (vs:List aO) (n:Nat) (z':Zs):Prop where
 F:FX D C (X.add a) r z'
 s:Sx z z'
 e:z'.s.heap.get? a=aA (listOf vs.toArray n)
 q:kH (X.add a) z' vs xs
 na: ¬ Ex X.Ob z'.W a
 nf:kR C X.env z'.φ a
 nw:z.W a\/z.s.heap.get? a=aE
def sM (D:Wd) (C:Fc) (x:az) (e:E):Prop:= ∀{l} {K:List aM->Ls->Prop},e D.o l (λv l=>kY v λd=> ∃R,d=aK R/\K R l)-> ∀{X:Fx} {z:Zs} {Q:aO->aV->Prop} {Er:aO->aV->Prop},FX D C X (aR l) z->(∀R l,K R l-> ∀a m n Z,NL D C X (aR l) z R a m n Z->Q (aG a) Z.s)->aZ (bH D.prog D.w) X.A (dH x X.env) Q Er z.s
section
theorem KS.tr (k:KS D C X r z fl Qs) (s:Sy C z z'):KS D C X r z' fl Qs:=λf Z K n q=>k f Z K (s.trans n) q
theorem KS.nx (k:KS D C X r z dE Qs) (K:FX D C X r z') (s:Sx z z'):Qs Flow.next z'.s:=k _ _ K s.y .next
theorem Nq:kW D C [] []:= @λO O h=>λK k=>BB<|(k _ _ h).nx K .refl
theorem vd {st:eT} (A:cO D C st s) (H:kW D C sts ss):kW D C (st::sts) (s::ss):= @λO O h=>λK k=>jv (A h K λF l g f z R i o=>by
 induction o with
 |next=>show H g R λO O g=>(k _ _ g).tr i
 |cont=>show k _ _ g _ _ R i .cont
 |ret q Q=>show k _ _ g _ _ R i<|.ret q Q)
theorem MQ (W: ∀env,nK [c] x pos.line env=pure aD) (s: ∀env,tE [c] x env=pure aE) (A: ∀env,(yS [c] env).map (·.2)=[rC c env]) (M:bI D C x a) (d:qh D C c t):cO D C (lR [c] x pos) (.asg t a):= @λO O h=>λ{X z Q Er} K k=>my (W X.env) (s X.env) (A X.env) ((M h).run K λv L g u Z R i q=>by
 induction lq g with
 |mk e g=>
  subst e
  induction zD g with|mk b g=>show d b R q λj P l O=>(k _ _ g).nx P<|i.trans l)
theorem Ql {ds:List aM} (K:FX D C X r z) (hd:d=bw ds\/d=aK ds) (q:Rz X z v d) (k: ∀us z',FX D C X r z'->Sx z z'->z'.W=z.W->kH X z' us ds->Q us z'.s):aZ (bH D.prog D.w) X.A (RK v ds.length aE) Q Er z.s:=by
 rcases hd with rfl|rfl
 ·induction Fo (D:=D) q with
  | @mk p m n _ x u=>
   show dA u.len<|dA List.size_toArray<|wpAny_unpackItems_tuple K.R.1 ⟨_,x,rfl,_,rfl⟩ λh P=>?_
   have Z: ∀b o,z.s.heap.get? b=aA o->h.get? b=aA o:=λb o e=>P b o (qy<|mP e) e;show k m (z.to h z.s.toks) (K.keeps Z<|cY _).1 (K.keeps Z<|cY _).2 rfl (u.mon<|Mon.all Z)
 ·induction Mr (D:=D) q with
  | @mk p m n _ x u=>show dA u.len<|dA List.size_toArray<|wpAny_toks<|ZN K.R.1 (i6 x) λh t Z l=>k m (z.to h t) (K.keeps Z l).1 (K.keeps Z l).2 rfl (u.mon<|Mon.all Z)
def HW (D:Wd) (C:Fc) (t:eB->aO->cM Unit) (i:Nat):Prop:= ∀{X:Fx} {z:Zs} {r:cU} {v:aO} {d:aM} {Q:Unit->aV->Prop} {Er:aO->aV->Prop},FX D C X r z->Rz X z v d->(∀Z,FX D C X (upd r i<|aQ d) Z->Sx z Z->Z.W=z.W->Q () Z.s)->aZ (bH D.prog D.w) X.A (t X.env v) Q Er z.s
theorem QQ: ∀(ts:List (eB->aO->cM Unit)) (o:List Nat) (ds:List aM) {X:Fx} {z:Zs} {r:cU} {us:List aO} {Q:Unit->aV->Prop} {Er:aO->aV->Prop},ts.length=o.length->ds.length=o.length->(∀p∈ts.zip o,HW D C p.1 p.2)->FX D C X r z->kH X z us ds->
 (∀z',FX D C X ((o.zip ds).foldl (λr p=>upd r p.1<|aQ p.2) r) z'->Sx z z'->z'.W=z.W->Q () z'.s)->aZ (bH D.prog D.w) X.A (assignInOrder (ts.map λt=>t X.env) us) Q Er z.s:=by
 intro O;induction O with
 |nil=>
  show λo ds X z r us Q Er l L O K q k=>by
   cases RO.mp l.symm
   cases RO.mp L
   show sb q.lg<|wpAny_pure<|k z K .refl rfl
 |cons F ts c=>
  show λo ds X z r us Q Er l L P K q k=>by
   cases o with
   |nil=>trivial
   |cons i o=>
    cases ds with
    |nil=>trivial
    |cons d ds=>show cI q.jR λu us e H b=>sb e<|wpAny_bind<|wpAny_holding<|P (F,i) (.head _) K H λZ R U a=>c o ds (v7 l) (v7 L) (λp h=>P p<|.tail _ h) R (b.mon U.mon) λz' j n v=>k z' j (U.trans n)<|v.trans a
inductive uF (C:Fc):List az->List Nat->Prop
 |nil:uF C [] []
 |cons {nm:Str} {p:Pos} {i:Nat} {xs is}:n9 C nm i->uF C xs is->uF C (Expr.Name nm p::xs) (i::is)
theorem uF.each (h:uF C xs is): ∃ts:List (eB->aO->cM Unit),ts.length=is.length/\(∀p∈ts.zip is,HW D C p.1 p.2)/\ ∀env,(yS xs env).map (·.2)=ts.map (λt=>t env)/\(yS xs env).length=is.length/\(yS xs env).findIdx? (·.1)=none:=by
 induction h with
 |nil=>show (fw [] rfl nofun (λenv=>⟨rfl,rfl,rfl⟩))
 | @cons nm p i xs is ok _ d=>
  show eE d λts a1 a2 a3=>(fw ((λenv v=>rC (bf nm p) env v)::ts) (QIh RP a1) (λq Q=>?_) λenv=>?_)
  ·cases Q with
   |head=>show λK q k=>yP<|zj ok K q k
   |tail _ Q=>show a2 q Q
  ·show eA (a3 env) λb1 b2 b3=>?_
   have:yS (bf nm p::xs) env=(aD,rC (bf nm p) env)::yS xs env:=rfl;show sb this<|⟨by (erw[List.map_cons];erw[b1]);rfl,congrArg Nat.succ b2,?_⟩
   erw[List.findIdx?_cons];erw[b3];rfl
theorem ME (e:qQ (lV is) d r=aA r'): ∃ds,(d=bw ds\/d=aK ds)/\ds.length=is.length/\r'=(is.zip ds).foldl (λr p=>upd r p.1<|aQ p.2) r:=by
 have K: ∀x,(if x.length=is.length then aA ((is.zip x).foldl (λr p=>upd r p.1<|aQ p.2) r) else aE)=aA r'->x.length=is.length/\r'=(is.zip x).foldl (λr p=>upd r p.1<|aQ p.2) r:=λx e=>by
  by_cases h:x.length=is.length
  ·obtain rfl:=bt (QIg h) e
   show ⟨h,rfl⟩
  ·show dy (QIf h) e
 cases d with
 |tuple x=>show (bJ x (.inl rfl)<|K x e)
 |list x=>show (bJ x (.inr rfl)<|K x e)
 |_=>show bM e
theorem PD (h:uF C xs is):qh D C (oO xs j pos) (lV is):=λe=>by obtain ⟨d,o,L,rfl⟩:=ME e;obtain ⟨t,a,A,p⟩:=h.each;show λ{X z v Q Er} K q k=>?_;obtain ⟨b,M,B⟩:=p X.env;rw[arm_assign_Tuple];show bD<|kK ?_;unfold unpack;simp only[M,B,<-L,b];show bD<|dq<|Ql K o q λu Z R s W r=>QQ t is d a L A R r λg P l Y=>k g P (s.trans l)<|Y.trans W
inductive qL (C:Fc):List aN->List Nat->Prop
 |nil:qL C [] []
 |cons {nm:Str} {i:Nat} {xs is}:n9 C nm i->qL C xs is->qL C (nm::xs) (i::is)
theorem qL.vB (h:qL C xs is):xs.length=is.length/\ ∀p∈(xs.map λn=>(λenv v=>BC env n v)).zip is,HW D C p.1 p.2:=by
 induction h with
 |nil=>show ⟨rfl,nofun⟩
 |cons ok _ i=>
  show ⟨QIh RP i.1,λq Q=>?_⟩;cases Q with
  |head=>show λK q k=>QGn<|zj ok K q k
  |tail _ Q=>show i.2 q Q
theorem QAB (W: ∀env,nK [oO L j r] x pos.line env=pure aD)
 (s: ∀env,env.scope.kind=gy->(∀x,env.kindOf x=C.K x)->tE [oO L j r] x env=pure (aA names)) (hn:qL C names is) (hd:is.Nodup) (i:bI D C x a):cO D C (lR [oO L j r] x pos) (.asg (lV is) a):=λh=>λ{X z Q Er} K k=>by
 have H:=(hn.vB (D:=D));have N:=H.1;have A:=H.2;show Assign_Tuple_swapped (names:=names) ?_ (W X.env)<|s X.env K.F.hk K.F.hK;show sb N<|(i h).run K λv o g u z1 Y q q1=>aT (by induction lq g with|mk e g=>show (bJ _ e g): ∃d,v=.d d/\_) λd ev g=>?_
 subst ev;show aT (by induction zD (t:=lV is) (x:=d) (l:=o) g with|mk b a=>show (bJ _ b a): ∃f,qQ (.tup is) d (aR o)=aA (aR f)/\_) λf b g=>eE (ME b) λds R hl m=>dA hl<|Ql Y R q1 λus z2 B M w2 Z=>sb (by rw[<-RQ,uX];rfl:(names.reverse.map λn=>BC X.env n)=((names.map λn=>(λenv v=>BC env n v)).reverse).map λt=>t X.env)<|QQ _ is.reverse ds.reverse (by simp only[List.length_reverse,List.length_reverse,List.length_map,N]) (by rw[List.length_reverse,List.length_reverse,hl]) (λp P=>?_) B (bU.rev Z) λz3 c U O=>?_
 ·rw[Qc<|by rw[cp,N]] at P
  show A p<|Ew.mp P
 ·rw[Qc hl.symm,T2] at c
  ·show k _ _ g _ _ (m▸c) ((q.trans M).trans U).y .next
  ·rw[List.map_fst_zip<|pZ hl.symm]
   show hd
theorem CF {J:aP} {vs:List aO} (s:Sx z'' z) (K:FX D C X r z) (kl:Kl X.env.locals z.s.heap h') (hn:z.s.heap.get? J=aE) (e:h'.get? J=aA (listOf vs.toArray n)) (q:kH X z vs xs) (l:z.s.toks<=tk):NL D C X r z'' xs J vs n (z.to h' tk):=by
 show ⟨⟨K.F.klA kl hn ⟨_,e⟩,K.R,bO K.t l⟩,s.trans<|.kl K kl l,e,bU.mon q λb o e n=>⟨(K.F.I2 kl b o e n).1,λq=>?_⟩,K.F.xi hn,K.F.DV hn,s.st.new hn⟩;rcases q with (q|q)|q
 ·show n<|.inl q
 ·simp only[q,hn] at e
  show bM e
 ·show n<|.inr q
theorem QCX (h:iQ D C xs es):sM D C (JF xs pos) (.list es):=λe=>λK k=>wpAny_List (ma (h e) K λds l us z g R i q1=>by
 obtain ⟨Z,_,e,g⟩:=g;cases e
 show ⟨by simp only[ky,q1.len];show cn Z,k _ _ g _ us 0 (z.to _ z.s.toks)<|CF i R (.push _) (kJ<|cY _) (gz _ rfl) q1<|cY _⟩)
theorem QAA (h:iQ D C xs es) (hb:bI D C y b):sM D C (Q6 (JF xs L) cV y pos) (.aL cV (.list es) b):=λe=>λ{X z Q Er} K k=>wpAny_BinOp ((K0 h e).run K λv o g p x R i q1=>(hb g).run R λw W g A U P j d=>by
 induction OY g with
 |mk e g=>
  obtain ⟨xs,rfl,g⟩:=g;cases e with
  |mul q u H Z=>
   show bE (Rd.fm d) λt' t=>sb t ?_;induction l6 P (q1.mon j) q with
   |mk M c=>show fh P.led λr m a F N kl nw=>wpAny_toks<|KMa.mul F N (i6 M) Z H (c.len▸u) rfl λD' B f n Y l=>k _ _ g _ _ 0 (U.to B U.s.toks)<|CF (i.trans j) P (kl _ _ f n λp=>Av _) (nw _ _ _ _ n Y) (n _<|.head _).1 (c.rep _) l)
theorem QAz {vs:List aO} (g:C.nw=aC) (ok:n9 C nm i) (N:NL D C X r z xs p vs n z') (k: ∀z'',FX D C X (upd r i<|bg xs) z''->Sy C z z''->Q () z''.s):aZ (bH D.prog D.w) X.A (Ea X.env nm<|aG p) Q Er z'.s:=by
 show bP (C.qf ok.t) λhw H=>?_;have F:=FR.adopt (N.F.F.forget i hw H) (C.low nm i ok.t) ⟨_,N.e⟩ N.na N.nf;have q2:bU (Ex X.Ob λb=>z'.W b\/b=p) z'.s.heap vs xs:=TC (Ob:=X.Ob)▸N.q;show wpAny_toks (F.store ok.t ok.s ok.k (sl:=bg xs) (λh' O m=>(bJ p (QIg rfl) rfl)) (λys Z=>by cases Z;show (om p vs n (QIg rfl) N.e q2<|.inr rfl)) λh' tk K s2 l=>?_);show k {s:={z'.s with heap:=h',toks:=tk},W:=_,φ:=_} ⟨K,N.F.R,bO N.F.t l⟩ ⟨⟨λb o e w=>?_,λb w=>?_⟩,bO N.s.t l,⟨λz=>(by rw[g] at z;show vZ z),λO=>(QIf<|oE H).trans<|congrFun N.s.f bC,λj b e=>?_⟩,by show sb N.s.e rfl⟩
 ·have f:=N.s.fresh (J:=p) e w
  show s2.keep b o f.1 λq=>q.elim f.2 λq=>Or.elim (N.nw) (λh=>?_) λh=>?_
  ·show w<|q▸h
  ·rw[q,h] at e
   show bM e
 ·show Or.elim (s2.grow b w) (λw=>?_) λw=>?_
  ·show Or.elim (w) (λw=>?_) λw=>?_
   ·show N.s.st.grow b w
   ·show w▸N.nw
  ·show N.s.st.new w
 ·have u:(if j=i then aA p else z'.φ j)=aA b:=e
  by_cases B:j=i
  ·clear g ok k hw H F q2 K s2 l e
   obtain rfl:=bt (QIg B) u;show .inr N.nw
  ·rw[if_neg B,N.s.f] at u
   show .inl ⟨j,u⟩
theorem QCg (W:C.nw=aC) (o:n9 C nm i) (s: ∀env,nK [bf nm u] x pos.line env=pure aD) (M:sM D C x a):cO D C (lR [bf nm u] x pos) (.own i a):= @λO O h=>λ{X z Q Er} K k=>my (s X.env) rfl rfl (M h K λR L g p v n Z N=>yP<|QAz W o N λj P l=>k _ _ g _ _ (by rw[i9];show P) l .next)
theorem QEz {tt:cB} (bb:Bool) (W: ∀env,env.scope.kind=gy->(∀x,env.kindOf x=C.K x)->nK [bf nm p] (v3 elt [⟨target,iter,ifs,0⟩] scope N) pos.line env=pure bb)
 (q:n9 C nm i) (hb:C.bd+200<=1000000/\scope.names.length<=200) (c:o9 C scope tt target iter) (M:jS D C aD iter it) (d:qh D (C.sub scope.names aC aD hb) target tt) (A:qn D (C.sub scope.names aC aD hb) ifs conds) (B:bI D (C.sub scope.names aC aD hb) elt ee):
 cO D C (lR [bf nm p] (v3 elt [⟨target,iter,ifs,0⟩] scope N) pos) (.asg (nP i)<|.comp ee tt it conds):=λh=>λ{X z Q Er} K k=>by
 induction bb with
 |false=>show my (W X.env K.F.hk K.F.hK) rfl rfl ((OM c M d A B h).run K λv L g u z1 Z s1 q1=>by
  induction lq g with
  |mk e g=>
   subst e
   induction zD (t:=nP i) (l:=L) g with|mk b g=>show H6 q b Z q1 λz2 P j O=>(k _ _ g).nx P<|s1.trans j)
 |true=>
  rw[RM];show bD<|kK ?_;show sb (W X.env K.F.hk K.F.hK)<|wpAny_bind<|wpAny_pure ?_
  show sb (QIg rfl)<|wpAny_bind<|wpAny_bind<|O6 c M d A B h K λys L g U u z' F nx nf s nn rd ⟨m,r⟩=>?_
  show yP<|zj (X:=X.add U) q F rd λz2 P j Y=>(bJ m (r.at λo e=>j.st.keep _ o e λw=>F.F.fQ _ w<|.inr rfl) λH sb=>bQ<|bQ ?_);show bP (P.drop (Y▸nx) (j.f▸nf) (λa o e n=>(sb.2 a n).trans e)<|cY _) λR m3=>k _ _ g Flow.next (z2.to H z2.s.toks) (by rw[i9];show R) (Sx.y ⟨⟨λa o e n=>(sb.2 a<|nn a o e n).trans<|(s.trans j).st.keep a o e n,(s.trans j).st.grow⟩,(s.trans j).t,(s.trans j).f,by show (?_:{z2.s with heap:=H}=_);rw[(s.trans j).e];rfl⟩) .next
end
section
theorem Ys {w:dF} (hb:x9 op a b z) (h: ∀t tk,Q (bS z t) {s with toks:=tk}):aZ (bH prog w) A (inplaceOp op (bS a t)<|bS b t') Q Er s:=by
 induction hb with
 |add=>show iadd_int<|h _ _
 |sub=>show isub_int<|h _ _
 |shl q R=>show ilshift_int q R<|h _ _
 |shr q=>show irshift_int q<|h _ _
theorem ZQ (o:n9 C nm i) (P:C.K nm=aA NameKind.local) (W:(nm==("__classdict__"))=aD) (hd:(nm==("__debug__"))=aD) (f:bI D C x a):cO D C (QGo (bf nm n) op x pos) (.aug i op a):= @λO O h=>λ{X z Q Er} K k=>wpAny_AugAssign_Name (by
 show aT K.F.loc λm p N=>?_;have q:=N nm i P o.t;show aT ((rq h).resolve_right id) λO b h=>?_;simp only[g_ b] at q;show aT q λu e q=>bE (Rd.fm q) λv H=>?_;clear b q;subst H
 show Q5 K.F.hk ((K.F.hK nm).trans P) p e (uN (f h) K λj l r Z g R U=>by
  induction w_ g with
  |mk s g=>show wpAny_toks<|Ys s λB A L=>zj o (R.kl (.refl _ _) L) (Rd.int _ B) λY c M O=>(k _ _ g).nx (by simp only[i9];show c)<|(U.trans<|.kl R (.refl _ _) L).trans M))
theorem EP (K:env.scope.kind=gy) (W:Ey x aE pos.line env=pure aD) (h:aZ M A (dH x env) (λv N=>(BD x pos v=pure Flow.next)/\Qs Flow.next N) Er s):aZ M A (rE (oQ x pos) env) Qs Er s:=by
 rw[arm_exec_Expr];show bD<|kK ?_;have i:interactive env=false:=by dsimp only[interactive];erw[K];rfl
 erw[i]
 skip
 show sb W<|wpAny_bind<|wpAny_pure ?_
 show sb (QIf<|by ext)<|wpAny_bind (wpAny_mono h (λv N H=>by erw[H.1];show bQ H.2) λO O x=>x)
theorem QAt (s: ∀env,Ey x aE pos.line env=pure aD) (d:BD x pos bG=pure Flow.next) (q: ∀u t,BD x pos (cP u t)=pure Flow.next) (M:bI D C x a):cO D C (oQ x pos) (.expr a):= @λO O h=>λ{X z Q Er} K k=>EP K.F.hk (s X.env) ((M h).run K λv l g p Z R i b=>by
 induction lq g with
 |mk e g=>
  subst e;show bP g λe r=>?_;clear s M h K g;rcases e with rfl|⟨y,rfl⟩
  ·show sb (Rd.none_inv b)<|⟨d,(k _ _ r).nx R i⟩
  ·show bE (Rd.fD b) λo H=>sb H<|⟨q _ _,(k _ _ r).nx R i⟩)
theorem FX.write {vs:List aO} (K:FX D C X r z) (d:i≠cG) (e:r i=bg xs) (l:z.φ i=aA p) (a:z.W p) (k: ∀b o,z.s.heap.get? b=aA o->b≠p->h'.get? b=aA o) (u:h'.get? p=aA (listOf vs.toArray n'))
 (q:Mon (Ex X.Ob z.W) z.s.heap (Ex X.Ob z.W) h'->bU (Ex X.Ob z.W) h' vs ys):FX D C X (upd r i<|bg ys) (z.to h' z.s.toks)/\Sx z (z.to h' z.s.toks):=by
 show bP (K.F.write d e l a k u<|q λb o e n=>⟨k b o e λq=>n<|.inr<|q▸a,n⟩) λF s=>⟨⟨F,K.R,K.t⟩,⟨s,cY _,rfl,rfl⟩⟩
theorem FX.ow (K:FX D C X r z) (h:r i=bg xs) (q:Vz D X z u (tL i)): ∃p vs n,u=aG p/\z.φ i=aA p/\z.s.heap.get? p=aA (listOf vs.toArray n)/\bU (Ex X.Ob z.W) z.s.heap vs xs:=by
 show aT q λp x e=>sb e<|fH (K.F.own i xs h) λP vs n v l m=>?_
 rw[x] at v;cases v;show (om p vs n rfl x l m)
theorem Dq (o:kD C nm i) (h:aR l i=bg xs):Ev D C (bf nm pos) l λv L=>v=tL i/\L=l:=vX o (by dsimp only[lz];erw[h];show ⟨rfl,rfl⟩:jz (lz (aR l) i) _ False)
theorem MW {i:Nat} {q:aM->Ls->Prop} (hm:MC x "append" H pos [y]) (R:Ev D C x l λv l'=>v=tL i/\l'=l) (h0:aR l i=bg ys) (hs: ∀env,gv [y] env=[(aD,dH y env)]) (hy:Ev D C y l λv l=>kY v λd=>q d l) (t:i≠cG) (K:FX D C X (aR l) z)
 (M: ∀d l,q d l-> ∃xs,aR l i=bg xs/\xs.length<16777216/\(∀{Z a},FX D C X (aR l) Z->Z.φ i=aA a->Z.W a)/\KS D C X (aR<|dm l i<|bg<|xs++[d]) z dE Qs):aZ (bH D.prog D.w) X.A (rE (oQ (du (hH x "append" H) [y] [] pos) L) X.env) Qs Er z.s:=by
 show EP K.F.hk rfl (H4 hm QGp PySem.F.slot_list_append PySem.F.type_list_append R K ?_)
 rintro _ _ ⟨rfl,rfl⟩ u z2 P Q q2
 show fh (P.ow h0 q2) λp aa n0 r f1 f f3=>?_;subst r;show ⟨⟨_,f,rfl⟩,λb e=>(by cases e;show (bJ _ f rfl)),?_⟩;show sb (hs X.env)<|spliced_cons<|hy.run P λv l1 g u z3 c U q3=>oN ?_
 cases lq g with
 | @mk d ev g=>subst ev;show rV (M _ _ g) λxs h hz w k=>fh (c.ow h<|q2.mon U) λp' vs n e e1 B j=>?_;cases e;show wpAny_toks (QGb (hsz:=by simp only[jH,j.len,ky];show s7 ‹_›) ⟨n,B⟩ λh4 pl sb l4=>?_);show bE pl λn4 e7=>bP (c.write (ys:=xs++[d]) (vs:=vs++[u]) (n':=n4) t h e1 (w c e1) (λb o e n=>(sb.2 b n).trans e) (by rw[e7];simp[Eh]) λm=>(j.mon m).app<|bU.cons (Rd.mon q3 m) bU.nil) λY N=>⟨rfl,k.nx (by rw[i9];show Y)<|(Q.trans U).trans N⟩
theorem XO (o:C.ow=aC) (f:kD C nm i) (m:MC (bf nm p) "append" a pos [y]) (hs: ∀env,gv [y] env=[(aD,dH y env)]) (Y:bI D C y b):cO D C (oQ (du (hH (bf nm p) "append" a) [y] [] pos) P) (.app i b):= @λO O h=>λK k=>by
 induction lE h with
 |mk L h=>
  have q:=(C.qf f.t);have W:=q.1;have A:=q.2;show MW m (Dq f L) L hs (Y h) W K λd l g=>?_;induction lE g with
  |mk H g=>show (ij _ H g.1 (λF e=>F.F.jO o i _ _ H e A)<|k _ _ g.2)
theorem QCw [H:eV D] (hb:bI D C x .gL) (m:MC x "append" a pos [y]) (hs: ∀env,gv [y] env=[(aD,dH y env)]) (Y:bI D C y b):cO D C (oQ (du (hH x "append" a) [y] [] pos) p) (.qe b):= @λO O h=>λK k=>by
 have i:=h.1;have h:=h.2;induction lE h with
 |mk q h=>
  show MW m (hb ⟨i,rfl,rfl⟩) q hs (Y h) (by ext) K λd l g=>?_;induction lE g with
  |mk A g=>show (ij _ A g.2.1 (λF e=>F.F.mJ _ A g.1 _ e)<|k _ _ g.2.2)
theorem Ve (L:C.ow=aC) (f:kD C nm i) (M:MC (bf nm p) "reverse" a pos []):cO D C (oQ (du (hH (bf nm p) "reverse" a) [] [] pos) c) (.sS i):= @λO O h=>λ{X z Q Er} K k=>by
 induction lE h with
 |mk h0 g=>
  have B:=g.1;have g:=g.2;have H:=(C.qf f.t);have v:=H.1;have A:=H.2;show EP K.F.hk rfl (yM (M.base X.env) (M.sg X.env) M.line<|(Dq (D:=D) f h0).run K ?_)
  rintro _ _ ⟨rfl,rfl⟩ u Z R j q2
  show fh (R.ow h0 q2) λp vs n r e1 l q=>?_;subst r;show ⟨"list","list.reverse",QGp,PySem.F.slot_list_reverse,PySem.F.type_list_reverse,⟨_,l,rfl⟩,λb e=>(by cases e;show (bJ _ l rfl)),PySem.P.reverse_list (n:=n) l ?_<|ky▸NK q B⟩
  have H:=(R.write (ys:=_) (h':=Z.s.heap.update p<|Obj.mapSeq λx=>x.reverse) v h0 e1 (R.F.jO L i _ p h0 e1 A) (λb o e n=>((JV ..).2 b n).trans e) (vs:=vs.reverse) (n':=n) (by
   erw[yR _ l<|by rfl];have:=mapSeq_reverse vs.toArray n
   simpa[Eh] using this) λm=>bU.rev<|q.mon m);have U:=H.1;have N:=H.2
  show ⟨rfl,(k _ _ g).nx (by simp only[i9];show U)<|j.trans N⟩
theorem bU.set {X:aP->Prop}: ∀{ds:List aM} {us:List aO} (j:Nat) {u:aO} {d:aM},bU X h us ds->Rd X h u d->bU X h (us.set j u) (ds.set j d):=by
 intro ds;induction ds with
 |nil=>show @λus j u d q O=>sb q.lg<|bU.nil
 |cons W ds i=>
  show @λus j u d q w=>by
   show cI q.jR λU us e o Q=>sb e ?_;induction j with
   |zero=>show bU.cons w Q
   |succ j O=>show bU.cons o<|i j Q w
theorem ZR (L:C.ow=aC) (q:kD C nm i) (s: ∀env,nK [tB (bf nm p) y N] x pos.line env=pure aD) (B:bI D C x a) (hy:bI D C y b):cO D C (lR [tB (bf nm p) y N] x pos) (.set i b a):= @λO O h=>λ{X z Q Er} K k=>my (s X.env) rfl rfl ((B h).run K λv l1 g u z1 P s1 q1=>by
 show bP (C.qf q.t) λhw Y=>?_;induction lq g with
 |mk ev g=>
  subst ev;induction lE g with
  |mk d g=>
   rw[QGq];show bD<|dq<|(Dq q d).run P ?_;clear q s B h K P d;intro _ _ H ov z2 K2 M q2;have f:=H.1;have Z:=H.2;clear H;subst f;subst Z;show bD<|dq<|uN (hy g) K2 λj l t' z3 g c U=>?_;induction lE g with
   |mk h0 g=>
    show fR g λj0 j1 j2 g=>fh (c.ow h0<|q2.mon U) λp vs n r A f3 R=>?_;clear q2;subst r;show bD (kK<|bD<|dq<|QDP f3 j0 ((bN ‹0<=j/\j<(↑a_3.length)/\a_3.length<2^63/\O dE (dm l i<|bg<|a_3.set j.toNat a_1)›.2.1 (oL ‹0<=j/\j<(↑a_3.length)/\a_3.length<2^63/\O dE (dm l i<|bg<|a_3.set j.toNat a_1)›.2.2.1))) (by simp only[jH,R.len];show j1) λh4 n4 f5 sb=>?_)
    show RR<|bP (c.write (h':=h4) hw h0 A (c.F.jO L i _ p h0 A Y) (λb o e n=>(sb.2 b n).trans e) (vs:=vs.set j.toNat u) (n':=n4) (by simp only[f5];simp[Eh]) λm=>bU.set _ (R.mon m)<|Rd.mon (q1.mon<|M.trans U) m) λK4 s4=>(k _ _ g).nx (by simp only[i9];show K4)<|((s1.trans M).trans U).trans s4)
theorem QEK {as bs:List S} (c:gh D C x t) (a:kW D C xs as) (hb:kW D C ys bs):cO D C (JW x xs ys pos) (.cx t as bs):= @λO O h=>λK k=>JX ((c h).run K λb l g z R s=>by
 rcases g with ⟨rfl,g⟩|⟨rfl,g⟩
 ·show a g R λO O g=>(k _ _ g).tr s.y
 ·show hb g R λO O g=>(k _ _ g).tr s.y)
theorem QDw:cO D C (RS pos) .cont:= @λO O h=>λK k=>QGr<|k _ _ h _ _ K Sx.refl.y .cont
theorem QEF:cO D C (JY aE pos) (.ret aE):= @λO O h=>λK k=>by rw[arm_exec_Return];show bD<|kK<|bQ<|k _ _ h _ _ K Sx.refl.y<|.ret (v:=bG) (u:=.d br) Rd.none .d
theorem PU (M:bI D C x a):cO D C (JY (aA x) pos) (.ret<|aA a):= @λO O h=>λK k=>wpAny_Return_some ((M h).run K λv l g p z R s q=>by
 induction g with|mk e g=>show k _ _ g _ _ R s.y<|.ret q e)
end
section
set_option tactic.hygienic true in
theorem QDf {I:aP} {T:String} (e:s.heap.get? I=aA o) (c:o.cls=bp T) (t:AJ.contains T=aD) (h:Q () s):aZ M A (JP x (aG I) u) Q Er s:=by
 have K:aZ M A (JP (oO [] 0 default) (aG I) u) Q Er s:=by
  induction u with
  |ref a=>
   show bD<|wpAny_load e ?_;erw[c];generalize o.data=d;induction d with
   |fields v=>show (?_:aZ M A (if (AJ.contains T && v[0]?==aA (rF a))=aC then _ else pure ()) Q Er s);show sb t<|wpAny_pure h
   |_=>show bQ h
  |_=>show bQ h
 show x.casesOn (λO O O=>bQ h) (λO O O=>bQ h) (λO O O O=>bQ h) (λO O O=>bQ h) (λO O O O=>bQ h) (λO O O O=>bQ h) (λO O O=>bQ h) (λO O O=>bQ h) (λO O O O=>bQ h) (λO O O O=>bQ h) (λO O O O O=>bQ h) (λO O O O=>bQ h) (λO O=>bQ h) (λO O=>bQ h) (λO O=>bQ h) (λO O O O=>bQ h) (λO O O O=>bQ h) (λO O O O=>bQ h) (λO O=>bQ h) (λO O O=>bQ h) (λO O O=>bQ h) (λO O O=>bQ h) (λO O=>bQ h) (λO O=>bQ h) (λO O=>K) (λO O O=>K) λO O O O=>bQ h
theorem MJ {w:dF} {J:aP} {St:Nat->bq->Prop}
 (u:uV prog w A J fp [J] n P St) (al: ∀i h,St i h-> ∃o T,h.get? J=aA o/\o.cls=bp T/\AJ.contains T=aD) (I:Nat->aV->Prop) (C: ∀j s,I j s->St j s.heap) (h0:I 0 s)
 (d: ∀s h' tk,I n s->(∀a o,s.heap.get? a=aA o->a≠J->h'.get? a=aA o)->s.toks<=tk->R (.ok Flow.next) {s with heap:=h',toks:=tk})
 (turn: ∀j s h' tk v,j<n->I j s->P j v->St (j+1) h'->(∀a o,s.heap.get? a=aA o->a≠J->h'.get? a=aA o)->s.toks<=tk-> ∀Er,aZ (bH prog w) A (rC target env v) (λO W=>aZ (bH prog w) A (hJ body env) (λf Q=>match f with|.next=>I (j+1) Q|.cont=>I (j+1) Q|.brk=>False|.ret v=>R (.ok<|tF v) Q) Er W) Er {s with heap:=h',toks:=tk}):
 yQ (bH prog w) A (QGs target (aG J) body [] env) R s:=by
 show QGt (λm U=> ∃j,j<=n/\m=n+1 - j/\I j U) ?_ (n+1)<|fw 0 (iz _) rfl h0;intro m U t;obtain ⟨j,K,r,F⟩:=t;by_cases L:j<n
 ·show wpAny_toks (u.item j _ _ _ L (C j U F) λv h' tk hP st k l=>?_)
  show cI (al _ _ st) λN Y p g z=>QDf p g z (iy (turn j U h' tk v L F hP st (λa o e q=>k a o (by simpa using q) e) l _) (λO W B=>iy B (λf Q H=>?_) λO O x=>x) λO O x=>x);have nx: ∀{Q},I (j+1) Q-> ∃M,M<m/\ ∃j,j<=n/\M=n+1 - j/\I j Q:=λh=>⟨n+1 - (j+1),by (clear turn d H B;show (bB (na (nL<|sE ((aS L):j+1<=n+1))<|nR<|sE ((aS L):j<=n+1))<|nR r)),j+1,L,rfl,h⟩;induction f with
  |next=>show nx H
  |cont=>show nx H
  |brk=>show H.elim
  |ret v=>show H
 ·cases mQ K (jt.mp L)
  show wpAny_toks (u.done _ _ _ (C _ U F) λh' tk k l=>BB<|d U h' tk F (λa o e q=>k a o (by simpa using q) e) l)
end
section
structure FB (D:Wd) (C:Fc) (X:Fx) (J:aP) (fp:List aP) (St:Nat->bq->Prop) (z0 z2:Zs) (j:Nat) (z:Zs):Prop where
 st:St j z.s.heap
 nJ: ¬ Ex X.Ob z.W J
 nf:kR C X.env z.φ J
 mon:Mon (Ex (X.add J).Ob z2.W) z2.s.heap (Ex (X.add J).Ob z.W) z.s.heap
 fp: ∀b∈fp,(∃o,z.s.heap.get? b=aA o)/\(b≠J-> ¬ z.W b)
 sy:Sy C z0 z
theorem FB.NR {J:aP} {L:List aP} {St:Nat->bq->Prop} (B:FB D C X J L St Z z2 j z) (K:FX D C (X.add J) r z) (U:FX D C (X.add J) r₁ z') (s:Sy C z z') (u:uV D.prog D.w X.A J L [J] n P St):FB D C X J L St Z z2 j z':=by
 have N: ∀b∈L, ¬ z.W b:=λb h w=>by
  by_cases q:b=J
  ·show K.F.fQ b w<|.inr q
  ·show (B.fp b h).2 q w
 show bE (K.F.fe J<|.inl<|.inr rfl) λd a=>⟨u.frame _ _ _ B.st λb h o e=>s.st.keep b o e<|N b h,λq=>q.elim (λq=>B.nJ<|.inl q) λw=>U.F.fQ J w<|.inr rfl,⟨λi q=>?_,B.nf.l,B.nf.c⟩,B.mon.trans s.st.mon,λb h=>?_,B.sy.trans s⟩
 ·rcases s.p.sub i J q with ⟨M,q⟩|q|q
  ·show B.nf.p M q
  ·show K.F.fQ J q<|.inr rfl
  ·rw[a] at q
   show sT q
 ·have H:=(B.fp b h)
  have Q:=H.1;show bE Q λo e=>?_;have f:=s.fresh e<|N b h;show ⟨⟨o,f.1⟩,λO=>f.2⟩
theorem Sy.Ov {J:aP} (s:Sy C z z') (nw: ∀a o,z.s.heap.get? a=aA o-> ¬ z.W a->a≠J) (k: ∀a o,z'.s.heap.get? a=aA o->a≠J->h'.get? a=aA o) (l:z'.s.toks<=tk):Sy C z (z'.to h' tk):=⟨⟨λa o e n=>k a o (s.st.keep a o e n)<|nw a o e n,s.st.grow⟩,bO s.t l,s.p,by show (?_:{z'.s with heap:=h',toks:=tk}=_);erw[s.e];rfl⟩
theorem QBx {tt:cB} (hf: ∀env x,JO iter env x=pure x) (hI:jS D C aC iter it) (hT:qh D C target tt) (hB:kW D C body bs):cO D C (RT target iter body [] pos) (.gH tt it bs):= @λl0 Kk h=>λ{X z Q Er} K k=>wpAny_For (hI h K λxs l1 e2 z2 J fp P St i=>by
 show MJ i.walk i.alive (λj s=> ∃z' lj,s=z'.s/\FX D C (X.add J) (aR lj) z'/\FB D C X J fp St z z2 j z'/\fW tt bs D.o (xs.drop j) lj Kk) ?_ (iX z2 l1 rfl i.F ⟨i.st,i.nJ,i.nf,Mon.refl _ _,λb hb=>⟨i.qk b hb,i.MR rfl b hb⟩,i.sx.y⟩ e2) ?_ ?_
 ·intro j s n
  show ik n λz' rj N O B O=>?_;clear n;subst N;show B.st
 ·intro s h' tk p M l
  show ik p λz' rj m Kj B W=>?_;clear p;subst m;rw[QGc] at W;show k _ _ W Flow.next _ (Kj.drop B.nJ B.nf M l).1 (B.sy.Ov i.new M l) .next
 ·intro j s h' tk u L Z hP R M l aa
  show ik Z λz' rj r Kj B W=>?_;clear Z;subst r;show aT (i.items j u hP) λd hd rd=>dU (i.alive _ _ R) λo1 T1 A O=>?_;have H:=(Kj.turn (X:=X.add J) (.inr rfl) B.nf M ⟨o1,A⟩ l);have K1:=H.1;have m1:=H.2
  have B1:FB D C X J fp St z z2 (j+1) (z'.to h' tk):=⟨R,B.nJ,B.nf,B.mon.trans m1,λb hb=>⟨by
   by_cases q:b=J
   ·show ⟨o1,q▸A⟩
   ·have H:=(B.fp b hb)
    have t:=H.1
    show bE t λo e=>⟨o,M b o e q⟩,(B.fp b hb).2⟩,B.sy.Ov i.new M l⟩
  have Y:=Rd.mon rd B1.mon;rw[show xs.drop j=d::xs.drop (j+1) by erw[Eu L];obtain rfl:=bt (p8 L) hd;rfl] at W;show aT (by induction zD W with|mk b a=>show (bJ _ b a): ∃lx,qQ tt d (aR rj)=aA (aR lx)/\_) λlx b W=>hT b (X:=X.add J) K1 Y λz3 K3 s3 O=>hB W (X:=X.add J) K3 λfl l4 g f c U s4 fi=>?_;have v:=(B1.NR K1 K3 s3.y i.walk).NR K3 U s4 i.walk;induction fi with
  |next=>show (iX c _ rfl U v g)
  |cont=>show (iX c _ rfl U v g)
  |ret q q'=>
   have H:=(U.drop v.nJ v.nf (λO O e O=>e)<|cY _);have K5:=H.1;have m5:=H.2
   show k _ _ g (tF _) c K5 v.sy<|.ret (VR.mon q m5) q') (hf X.env)
theorem QAd (M:gh D C x t) (B:kW D C body bs):cO D C (QGu x body [] pos) (.r9 t bs):= @λp r h=>λ{X z Q Er} K k=>by
 show bE h λn e=>wpAny_While<|QGv (λn Y=> ∃z' L,Y=z'.s/\FX D C X (aR L) z'/\Sy C z z'/\wW t bs D.o n L r) ?_ n<|iX z _ rfl K Sx.refl.y e;intro n Y H;show ik H λz' L A u U d=>?_;clear H;subst A;induction n with
 |zero=>show d.elim
 |succ n=>
  show (M d).run u λb l g Z R i=>?_;rcases g with ⟨rfl,g⟩|⟨rfl,g⟩
  ·show sb (QIg rfl)<|B g R λfl W g f N P j F=>?_
   induction F with
   |next=>show ⟨_,yN _,N,_,rfl,P,(U.trans i.y).trans j,g⟩
   |cont=>show ⟨_,yN _,N,_,rfl,P,(U.trans i.y).trans j,g⟩
   |ret q v=>show k _ _ g _ _ P ((U.trans i.y).trans j)<|.ret q v
  ·show sb (QIf<|by ext)<|wpAny_execs_nil<|k _ _ g _ _ R (U.trans i.y) .next
end
section
variable {A:de} {E:aO->aV->Prop}
theorem UH {l b sl:aP} {items i:Array aO} (hl:s.heap.get? l=aA (W.listOf items n)) (hb:s.heap.get? b=aA (W.listOf i e)) (N:l≠b)
 (hs:s.heap.IsSliceOf sl bG bG bG) (hsz:items.size+i.size<=oF)
 (hQ: ∀h' n',h'.get? l=aA (W.listOf i n')->JB l s.heap h'->Q () {s with heap:=h'}):
 aZ (bH prog w) A (JR (aG l) (aG sl)<|aG b) Q E s:=by
 have L:s.heap.IsList l items:=⟨_,hl,rfl,n,rfl⟩;have P:s.heap.IsList b i:=⟨_,hb,rfl,e,rfl⟩;show eE (id hs) λos o c d=>?_;have t:s.TypeIs (aG sl) "slice" :=(bJ os o c);dsimp only[JR]
 try with_reducible show dq ?_
 first|show wpAny_bind (wpAny_pure ?_)|skip
 show bD (QGi L.typeIs (by ext) ?_)
 show bD (QGj L.typeIs JS
  (JT JS L.typeIs QGk ?_<|QGl _ _ _))
 show (?_:aZ _ _ (Builtin.List.listSubscript? (aG sl)>>=_) _ _ s);show bD<|wpAny_bind<|wpAny_specialOf t slice_no_index ?_
 show bQ<|wpAny_bind<|wpAny_typeOf t ?_
 erw[if_neg<|by ext];rw[listSliceParts_eq];show bD<|bD<|wpAny_field o d rfl (bD<|QGw IsPart.none ?_);show sb (QIf<|by ext)<|wpAny_bind<|wpAny_field o d rfl (wpAny_bind<|wpAny_listPart IsPart.none ?_)
 show bD<|wpAny_field o d rfl (bD<|QGw IsPart.none<|bQ ?_);have h:Builtin.List.listSameRef (aG l) (aG b)=false:=QIl N
 show sb h<|wpAny_bind<|wpAny_bind<|wpAny_typeOf P.typeIs ?_
 show sb (QIg<|by rfl)<|wpAny_bind<|wpAny_seqItems hb rfl (wpAny_pure ?_)
 show bD<|bD<|Ez hl rfl (bQ ?_);have B:mM aE aE aE items.size=(0,(items.size:Int),1):=by rfl
 show bD (rD (sliceIndices_raw aE aE aE items.size<|by simp) ?_);erw[B];dsimp only;show sb (QIg<|by rfl)<|wpAny_bind<|wpAny_rule ?_
 have Y:Builtin.List.listTooLong (items.size+i.size)=false:=decide_eq_false<|jt.mpr hsz
 erw[Y]
 skip
 have F:(λx:Array aO=>x.extract 0 (0:Int).toNat++i++x.extract (max (0:Int) (items.size:Int)).toNat) items=i:=by have:(max (0:Int) (items.size:Int)).toNat=items.size:=Aw _;simp[this]
 have f: ∃n',(s.heap.update l<|Obj.mapSeq λx=>x.extract 0 (0:Int).toNat++i++x.extract (max (0:Int) (items.size:Int)).toNat).get? l=aA (W.listOf i n'):=by show ⟨if i.size==items.size then n else n+1,?_⟩;erw[yR _ hl<|by rfl];unfold Obj.mapSeq;dsimp only;dsimp only at F;show sb F rfl
 show bE f λn' f=>bD (QGx hl rfl ?_ (bO (jb _ _) ‹_›) (by dsimp only at F;erw[F];show aS hsz));show bD<|wpAny_letGo ?_;show bQ<|bJ bG rfl (bQ<|hQ _ n' f<|JV ..)
end
section
theorem FR.swap {G:bq} {k:Nat} (F:FR P G C env Ob φ W r h) (o:C.ow=aC) (Y:k<1000000) (e:r k=bg xs) (eh: ∀ys,r bC≠bg ys):
 FR P G C env Ob (λj=>if j=bC then φ k else if j=k then aE else φ j) W (upd (upd (upd r bC<|bg xs) cG eC) k<|.ali bC) h:=by
 have N:k≠bC:=λq=>by rw[q] at Y;show QIe Y (by ext)
 have kw:k≠cG:=λq=>by rw[q] at Y;show QIe Y (by ext)
 have u:bC≠cG:=by decide
 have pn:=F.pW eh;have A: ∀j,j≠bC->j≠cG->j≠k->upd (upd (upd r bC<|bg xs) cG eC) k (.ali bC) j=r j:=λj H L Q=>by unfold upd;(erw[if_neg Q];erw[if_neg L];show sb (QIf H) rfl)
 have B:upd (upd (upd r bC<|bg xs) cG eC) k (.ali bC) k=.ali bC:=by unfold upd;show sb (QIg rfl) rfl
 have s:upd (upd (upd r bC<|bg xs) cG eC) k (.ali bC) bC=bg xs:=by unfold upd;(erw[if_neg<|oE N];erw[if_neg u];show sb (QIg rfl) rfl)
 have l:upd (upd (upd r bC<|bg xs) cG eC) k (.ali bC) cG=eC:=by unfold upd;(erw[if_neg<|oE kw];show sb (QIg rfl) rfl)
 show fH (F.own k xs e) λa vs n M e0 e1=>?_;have wa:=F.jO o k xs a e M N;have Z:(λj=>if j=bC then φ k else if j=k then aE else φ j) bC=aA a:=by show (?_:(if bC=bC then φ k else _)=_);erw[if_pos rfl];show M
 have U: ∀j,j≠bC->j≠k->(λj=>if j=bC then φ k else if j=k then aE else φ j) j=φ j:=λj H L=>by show (?_:(if j=bC then φ k else if j=k then aE else φ j)=φ j);(erw[if_neg H];show sb (QIf L) rfl)
 have gk: ∀j v,j<1000000->fg P φ env.cells (Ex Ob W) h j v (r j)->fg P (λj=>if j=bC then φ k else if j=k then aE else φ j) env.cells (Ex Ob W) h j v (upd (upd (upd r bC<|bg xs) cG eC) k (.ali bC) j):=by
  intro j v g x;have jh:j≠bC:=λq=>by rw[q] at g;show QIe g (by ext)
  have jw:j≠cG:=λq=>by rw[q] at g;show QIe g (by ext)
  by_cases K:j=k
  ·clear Y N kw A s l U g jh jw
   subst K;erw[B];rw[e] at x;show aT x λb q1 q2=>?_;obtain rfl:=bt M q1;show ⟨rfl,a,Z,q2⟩
  ·erw[A j jh jw K]
   induction hr:r j with
   |own ys=>rw[hr] at x;show aT x λb q1 q2=>(bJ b ((U j jh K).trans q1) q2)
   |ali m=>rw[hr] at x;obtain ⟨q0,b,q1,q2⟩:=x;subst q0;show dy pn q1
   |inst=>rw[hr] at x;show cI x λy b q1 q2 q3=>dy pn q1
   |grid m=>rw[hr] at x;show ik x λb m' q1 q2 q3 q4=>?_;have pe: ∀t,(λj=>if j=bC then φ k else if j=k then aE else φ j) (nq j t)=φ (nq j t):=λt=>U _ (λq=>by unfold nq bC at q;lia -abstractProof) (λq=>by rw[<-q] at Y;unfold nq at Y;show n6 Y);show (iX b m' ((U j jh K).trans q1) q2 ?_ (λt ht=>by rw[pe];show q4 t ht));simp only[pe];show q3
   |unb=>trivial
   |val d=>rw[hr] at x;show x
   |clo f=>rw[hr] at x;show x
   |emp=>rw[hr] at x;show x
 have own: ∀j ys,upd (upd (upd r bC<|bg xs) cG eC) k (.ali bC) j=bg ys->(j=bC/\ys=xs)\/(j≠bC/\j≠k/\j≠cG/\r j=bg ys):=λj ys q=>by
  by_cases H:j=bC
  ·subst H
   rw[s] at q;clear e;cases q;show .inl ⟨rfl,rfl⟩
  ·by_cases L:j=cG
   ·clear H
    subst L;rw[l] at q;show nomatch q
   ·by_cases Q:j=k
    ·clear Y e N kw A s l M Z U gk H L
     subst Q;rw[B] at q;show nomatch q
    ·rw[A j H L Q] at q
     show .inr<|mA H Q L q
 have R: ∀j b,(λj=>if j=bC then φ k else if j=k then aE else φ j) j=aA b->(j=bC/\φ k=aA b)\/(j≠bC/\j≠k/\φ j=aA b):=λj b q=>by
  by_cases H:j=bC
  ·subst H
   clear o e eh N kw u pn A B;obtain rfl:=bt Z q;show .inl ⟨rfl,M⟩
  ·by_cases Q:j=k
   ·have q':(if j=bC then φ k else if j=k then aE else φ j)=aA b:=q
    rw[if_neg H,if_pos Q] at q';show bM q'
   ·rw[U j H Q] at q
    show .inr ⟨H,Q,q⟩
 show aT F.loc λmm n1 n2=>⟨F.base,F.gd,F.hk,F.hK,F.hg,F.hb,F.uJ,⟨mm,n1,λx j p q=>gk _ _ (C.low x j q)<|n2 x j p q⟩,F.mn,λx j p q=>?_,F.rf,F.qM,λj ys q=>?_,λcc j ys b q p z=>?_,λys q p b z=>?_,λys q p b z w=>QIe l p,λq=>QIe s<|q xs,λi j b q1 q2=>?_,λj b q=>?_,F.fe,F.fQ,F.inv,F.pf⟩
 ·show cI (F.jj x j p q) λc v f1 f3 f4=>(d0 c v f1 f3<|gk _ _ (C.low x j q) f4)
 ·rcases own j ys q with ⟨H,L⟩|⟨H,L,Q,h4⟩
  ·show sb H<|sb L<|(mf a vs n Z e0 e1)
  ·show fH (F.own j ys h4) λb ws m g1 g2 g3=>(mf b ws m ((U j H L).trans g1) g2 g3)
 ·rcases own j ys q with ⟨H,L⟩|⟨H,L,Q,h4⟩
  ·show QIe H z
  ·show F.jO cc j ys b h4 ((U j H L).symm.trans p) z
 ·have z':=Z.symm.trans z
  clear M e0 Z;cases z';show wa
 ·rcases R i b q1 with ⟨z1,z2⟩|⟨z1,z2,z3⟩<;>rcases R j b q2 with ⟨z4,z5⟩|⟨z4,z5,z6⟩
  ·show sb z1<|sb z4 rfl
  ·show QIe (F.inj j k b z6 z2) z5
  ·show QIe (F.inj i k b z3 z5) z2
  ·show F.inj i j b z3 z6
 ·rcases R j b q with ⟨_,z⟩|⟨_,_,z⟩
  ·show F.lB _ _ z
  ·show F.lB _ _ z
end
def Fz (D:Wd) (f:aP) (xs hs zs:List aM):Prop:=
 ∀{A:de} {s:aV} {X:aP->Prop} {u m:List aO} {x a:aP} {n:Nat} {Q:aO->aV->Prop} {E:aO->aV->Prop},CS D A X s->D.P.HI X s.heap x a->s.heap.get? a=aA (listOf m.toArray n)->bU X s.heap m hs->bU X s.heap u xs->
  (∀Y v N F,CT D (λb=>X b\/b=Y) (λO=>False) s F->s.heap.get? Y=aE->F.heap.get? Y=aA (listOf v.toArray N)->bU (λb=>X b\/b=Y) F.heap v zs->Q (aG Y) F)->aZ (bH D.prog D.w) A (call (aG f)<|aG x::u) Q E s
class nB (D:Wd):Prop where
 RN: ∀xs hs zs,D.o.R 2 xs hs (aK zs)-> ∃nm fa,D.hm 2=aA (nm,fa)/\Fz D fa xs hs zs
section
section
variable[H:eV D]
include H
theorem QFW (hb:bI D C x .gL) (W: ∀env,nK [tB x (Em aE aE aE r) c] y pos.line env=pure aD) (Y:bI D C y b):
 cO D C (lR [tB x (Em aE aE aE r) c] y pos) (.rT b):=λh=>λ{X z Q Er} K k=>by
 show my (W X.env) rfl rfl ((Y h).run K λv l1 g u z1 t U q1=>?_);induction lq g with
 |mk ev g=>
 subst ev;clear H W Y h;obtain ⟨ys,rfl,h0,g⟩:=g;induction lE g with
 |mk A g=>
 have hw:=g.1;have hz:=g.2.1;have g:=g.2.2;rw[QGq];show bD<|dq<|(hb (K:=λv l'=>v=tL bC/\l'=l1) ⟨h0,rfl,rfl⟩).run t ?_;intro _ _ f ov i P j q2;have l:=f.1;have R:=f.2;clear f;subst l;subst R;show fh (P.ow A q2) λp vs n L a f3 f4=>?_;subst L;show fh (Rd.lst_inv<|Rd.mon q1 j.mon) λbb ws m B Z g2 g3=>?_;subst B;have M:=P.F.mJ _ A hw p a;have d: ∀b o,i.s.heap.get? b=aA o->(i.s.heap.push<|xc bG bG bG).get? b=aA o:=λO O e=>iW _ e;show bD<|dq<|wpAny_Slice<|JI<|JI<|JI ?_;show bD (kK<|bD<|dq<|UH (d _ _ f3) (d _ _ Z) (λq=>g2<|.inr<|q▸M) (Heap.IsSliceOf.new ..) (by (erw[jH];erw[jH];erw[f4.len];erw[g3.len];erw[ky]);show hz) λh4 n4 f5 sb=>?_);show RR ?_;obtain ⟨N,s4⟩:=P.write (by ext) A a M (λb o e n=>(sb.2 b n).trans<|d b o e) f5 λm=>g3.mon m;show (k _ _ g).nx (by rw[i9];show N)<|(U.trans j).trans s4
theorem QFh (ok:kD C nm i) (Y:bI D C y b):cO D C (QGy [tB (bf nm p) y sp] pos) (.qx i b):= @λO O h=>λ{X z Q Er} K k=>wpAny_Delete (wpAny_deleteEach_cons (by
 have h0:=h.1;have h:=h.2;rw[arm_delete_Subscript];show bD ((vX (D:=D) (K:=λv l=>v=KD/\l=_) ok (by dsimp only[lz];erw[h0];show ⟨rfl,rfl⟩:jz (lz (aR _) i) _ False)).run K ?_);clear ok K h0
 rintro _ _ ⟨rfl,rfl⟩ ov j P s2 q2
 show bD<|dq<|(Y h).run P λv M g f Z d s3 a=>?_;induction lq g with
 |mk ev g=>
  subst ev;induction lE g with
  |mk o g=>
   have hw:=g.1;have g:=g.2;clear Y h P;induction g with
   |mk L g=>
    show dU (H.H _ _ _ _ _ L) λn A q1 con=>?_;have q:=q2.mon s3;show cI q λB N x e p3=>?_;clear q;subst e
    show bD<|kK<|bD<|dq<|H.Qr q1 d.R d.F.base p3<|OB con d (q2.mon s3) o hw (us:=[f]) (bU.cons a bU.nil) λu s U s4 O=>RR<|wpAny_deleteEach_nil<|(k _ _ g).nx (by rw[i9];show U)<|(s2.trans s3).trans s4))
theorem TP (q:n9 C nm i) (c:oj C "compute_powers") (P:Pl xs) (a:iQ D C xs es):cO D C (lR [bf nm N] (du (bf "compute_powers" p) xs [] cpos) pos) (.rQ i es):= @λO O h=>λ{X z Q Er} K k=>by show fh H.QE λca o fd B g2 g3 g4=>bP (C.qf q.t) λb f=>my rfl rfl rfl (tD<|rv K c B<|A9<|iU (P X.env cpos)<|ma (a h) K λds l us Z g j v q1=>⟨⟨j.F.base _ _ g2,g3⟩,?_⟩);clear H c P a h K B g2 g3;obtain ⟨n,rfl,h1,h2,g⟩:=g;obtain ⟨u1,us,rfl,e,q1⟩:=q1.jR;obtain ⟨u2,us,rfl,q2,q1⟩:=q1.jR;obtain ⟨u3,us,rfl,q3,q1⟩:=q1.jR;cases q1.lg;clear q1;obtain ⟨t2,rfl⟩:=Rd.fm e;clear q1 e;obtain ⟨t3,rfl⟩:=Rd.fm q2;obtain ⟨t4,rfl⟩:=Rd.fm q3;show wpAny_toks<|g4 n h2 h1 j.R j.t j.F.base λ{dr} d h' tk r e2 A L=>?_;have Y:=j.F.keeps r;show yP (wpAny_toks<|(Y.forget i b f).store q.t q.s q.k (sl:=eC) (λh' kk m=>(bJ d rfl (m _ _ e2 (j.F.xi A: ¬ Ex X.Ob Z.W d)))) (λys x=>by show nomatch x) λh' u F2 M U=>(k _ _ g).nx (z':={Z with s:={Z.s with heap:=h',toks:=u,drawn:=dr}}) ⟨by rw[i9];show F2,j.R,bO j.t<|bO L U⟩<|v.trans ⟨(fk.all r).trans M,bO L U,rfl,rfl⟩)
theorem Xw (L:kD C nm i) (m:MC (bf nm p) "items" a u []):cO D C (RT target (du (hH (bf nm p) "items" a) [] [] u) body [] pos) (.rU i):= @λO O h=>λ{X z Q Er} K k=>by
 have h0:=h.1;have g:=h.2;show wpAny_For (yM (m.base X.env) (m.sg X.env) m.line<|zE K L λN q=>?_) λO=>rfl;rw[h0] at q;show eE q λd v f f3=>(bJ _ v ?_);have t:(d==Ej)=false:=by show QIl λq=>aT H.MP λo r g2=>?_;have:=K.F.base _ _ r;rw[<-q,f] at this;cases this;show g2 rfl
 have Y: ∀(h:bq),h.get? d=aA kF->h.DictAt (strKind D.prog D.w) d [] 0:=λh e=>(vc kF (#[]) e ⟨rfl,rfl,rfl⟩ rfl (by intro e M;simp at M) Pairs.nil QGz);show ⟨"dict","dict.items",QGf,QHA,PySem.F.type_dict_items,⟨_,f,rfl⟩,λb e=>(by cases e;show (bJ _ f rfl)),yI (m.pl X.env)<|iU (m.pl X.env)<|oN ?_⟩;show call_meetsIn QHA (bJ _ f rfl) PySem.F.entry_dict_items (PySem.F.args_dict_items_1 _) (meets_dict_items (strKind D.prog D.w) d t) ⟨⟨[],(Y z.s.heap f).elim λo w=>w.elim λes w=>YC o es 0 w⟩,?_⟩;generalize c:({cls:=bp "dict_items",data:=eY #[aG d]}:bk)=W;have x: ∀b o,z.s.heap.get? b=aA o->(z.s.heap.push W).get? b=aA o:=λO O e=>iW _ e;show wpAny_pyIter_items (fw _ (gz _<|c▸rfl) (c▸rfl)<|c▸rfl) (Y _<|x _ _ f) ?_;show QGt (λn s'=>s'={z.s with heap:=(z.s.heap.push W).push {cls:=bp "dict_itemiterator",data:=eY #[bG,dD aD,aG d,bS 0 0,bS (([]:List (aN×aO)).length) 0,bS ((0:Nat):Int) 0,bG,bG]}}) ?_ 0 rfl
 rintro n s' rfl
 have P: ∀b o,z.s.heap.get? b=aA o->((z.s.heap.push W).push {cls:=bp "dict_itemiterator",data:=eY #[bG,dD aD,aG d,bS 0 0,bS (([]:List (aN×aO)).length) 0,bS ((0:Nat):Int) 0,bG,bG]}).get? b=aA o:=λb o e=>iW _<|x b o e;show wpAny_pyNext_items_end K.R.1 (gz _ rfl) (Y _<|P _ _ f) rfl λh' B=>BB ?_
 have Z: ∀b o,z.s.heap.get? b=aA o->h'.get? b=aA o:=λb o e=>B b o (λq=>by
  have A:=mP e;rw[q,(Eo .. :(z.s.heap.push W).objs.size=z.s.heap.objs.size+1)] at A
  show oD _<|Nat.lt_of_succ_lt A) (P b o e)
 have l:=(K.keeps Z<|cY _);have j:=l.1;have U:=l.2;show (k _ _ g).nx j U
theorem QEB (B:C.nw=aC) (Z:C.hn=aC) (how:C.ow=aC) (ok:n9 C nm i) (hg:oj C "Headers") (o:kD C L j):cO D C (lR [bf nm N] (du (bf "Headers" p) [bf L kp] [] cpos) pos) (.ri i j):= @λl Kk h=>λ{X z Q Er} K k=>by
 induction lE h with
 |mk h0 g=>
  have Y:=g.1;have a:=g.2.1;have g:=g.2.2;have Hq:=(C.qf ok.t);have v:=Hq.1;have A:=Hq.2;show my rfl rfl rfl (tD<|rv K hg H.F0.1<|H.F0.2 rfl (yH<|(Dq o h0).run K ?_));clear hg h K
  rintro _ _ ⟨rfl,rfl⟩ ov z2 c s2 q2
  show oN ⟨c.F.base,?_⟩;show fh (c.ow h0 q2) λp vs n u f1 f3 f4=>sb u<|wpAny_toks<|H.new c.R c.t c.F.base c.F.gd c.F.fe a f3 f4 λx h3 tk M hi l3=>?_
  have K3:=(c.F.keeps M).swap how (C.low _ _ o.t) h0 ((λY ys q=>by rw[Y] at q;show nomatch q: ∀{r:cU},r bC=.unb-> ∀ys,r bC≠bg ys) Y);show yP (wpAny_toks<|(K3.forget i v A).store ok.t ok.s ok.k (sl:=jy) (λh' O m=>(d0 x p ?_ rfl (D.P.lh hi m))) (λys ey=>by show nomatch ey) λh' U F2 s4 l4=>?_)
  ·change (if bC=bC then z2.φ j else _)=_
   show sb (QIg rfl)<|f1
  ·show k _ _ g Flow.next {s:={z2.s with heap:=h',toks:=U},W:=z2.W,φ:=_} ⟨by rw[i9,i9,i9,i9];show F2,c.R,bO c.t<|bO l3 l4⟩ ⟨s2.st.trans<|(fk.all M).trans s4,bO s2.t<|bO l3 l4,⟨λz=>(by rw[B] at z;show vZ z),λz=>(by rw[Z] at z;show vZ z),λm b q=>?_⟩,by show sb s2.e rfl⟩ .next
   have d:(if m=bC then z2.φ j else if m=j then aE else z2.φ m)=aA b:=q;rw[s2.f] at d
   split at d
   ·show .inl ⟨j,d⟩
   ·split at d
    ·show bM d
    ·show .inl ⟨m,d⟩
end
theorem Yl [H:eV D] (m:C.K "reversed" =aA nG) (L:Pl [x]) (hs:iQ D C [x] [a]):jS D C fl (du (bf "reversed" p) [x] [] pos) (.rev a):= @λO O h=>λ{X z Q Er} K k=>by
 show tD (zw K m (by decide+kernel) (u:=bp "reversed") (by lia)<|yJ (L X.env pos)<|iU (L X.env pos)<|ma (hs h) K λds l us Z g b M q1=>?_);obtain ⟨xs,rfl,g⟩:=g;show cI q1.jR λu us B Y N=>sb B ?_;cases N.lg;show fh (Rd.lst_inv Y) λp vs n r e e2 q=>sb r ?_;have hsz:vs.toArray.size=xs.length:=by (erw[jH];show sb q.len rfl)
 show call_reversed_list (i6 e) ?_;have j:(Z.s.heap.push<|revObj p<|(vs.toArray.size:Int) - 1).IsRevIter Z.s.heap.objs.size p ((vs.toArray.size:Int) - 1):=(fw _ (gz _ rfl) rfl rfl);show wpAny_pyIter_revIter j ?_;have W:=Walks.listRev (prog:=D.prog) (w:=D.w) b.R.1 Z.s.heap.objs.size p (λq=>by rw[q,kJ<|cY _] at e;show bM e) vs.toArray
 show xT (P:=λi v=>vs.toArray[vs.toArray.size - 1 - i]?=aA v/\i<vs.toArray.size) (St:=λi h=>i<=vs.toArray.size/\h.IsRevIter Z.s.heap.objs.size p ((vs.toArray.size:Int) - 1 - (i:Int))/\h.IsList p vs.toArray) b rfl (Ic (.inl rfl)<|.inr ⟨⟨_,e⟩,Gu b e λO=>nofun,λO w=>e2<|.inr w⟩) (by erw[BE];show hsz)
  ⟨W.sub,W.frame,λi f F c t st h=>W.item i f F c t st λv h' tk L=>h v h' tk ⟨L,t⟩,W.done,W.self⟩ ⟨iz _,by simpa using j,(i6 e).push _⟩ (λi h q=>q.2.1.elim λo q=>d0 o _ q.1 q.2.1<|by ext) (λi v A=>?_) ((k _ _ g).tr M)
 have e1:=A.1;have t:=A.2;show aT (Gs q e1) λd U g2=>(bJ d ?_ g2);rw[hsz] at U t;erw[List.getElem?_reverse t];show dA U rfl
theorem X5 [H:eV D] [HR:nB D] (hn:D.hm 2=aA (nm,fa)) (hm:MC x nm m pos xs) (f:bI D C x a) (ha:iQ D C xs es):sM D C (du (hH x nm m) xs [] pos) (.ly 2 a es):= @λO O h=>λ{X z Q Er} K kk=>by
 show dU (H.w9 _ _ _ hn) λo fd q3 q4=>Ar hm.k<|(f h).run K λv l1 h ov z1 N i r1=>λpl=>?_;clear f K;obtain ⟨rfl,h⟩:=ER h;have B:=r1;show cI B λix ia p1 M p3=>?_;clear B;clear p1;subst M;show H.Ac _ _ _ hn (by ext) N.F.base p3<|A9<|iU (hm.pl X.env)<|ma (ha h) N λds l us r g d U r3=>⟨⟨d.F.base _ _ q3,q4⟩,?_⟩;induction lE g with
 |mk h1 g=>
 induction g with
 |mk e3 g=>
 obtain ⟨zs,rfl,g⟩:=g;show dU (HR.RN _ _ _ e3) λaa ab q1 j=>?_;cases bt hn q1;show uu (d.hl (u:=V.emp) h1<|r1.mon U) λaf ae vs n e p4 p5 p6 p7=>?_;cases e;show wpAny_toks<|j d.cs p5 p6 p7 r3 λA ag n' s' c nw Y g2 lt=>?_;have hX:Ex (λb=>X.Ob b\/b=A) r.W=λb=>Ex X.Ob r.W b\/b=A:=by funext b;show propext ⟨λq=>q.elim (λq=>q.elim (λq=>.inl<|.inl q) .inr) λq=>.inl<|.inr q,λq=>q.elim (λq=>q.elim (λq=>.inl<|.inl q) .inr) λq=>.inl<|.inr q⟩
 have L: ∀b o,r.s.heap.get? b=aA o-> ¬ D.P.PF b->s'.heap.get? b=aA o:=λb o e p=>c.keep b o e id p
 show bP (d.F.HG (Ob₂:=(X.add A).Ob) (Z:=λO=>False) (h':=s'.heap) (λa z=>z.elim) (λa z=>z.elim) (λa o e O p=>L a o e p) (λb q=>by
  rcases q with q|q
  ·obtain ⟨o,w⟩:=d.F.fe b (.inl q)
   show ⟨.inl q,o,L b o w λp=>d.F.fQ b (d.F.pf b p) q⟩
  ·show ⟨.inr<|q▸nw,_,q▸Y⟩) (hX▸c.inv)) λF4 m4=>?_
 show kk _ _ g A ag n' {r with s:=s'} ⟨⟨F4,d.R,bO d.t lt⟩,(i.trans U).trans ⟨d.F.Cv L,lt,rfl,c.e⟩,Y,(hX▸g2:bU (Ex (λb=>X.Ob b\/b=A) r.W) s'.heap ag _),d.F.xi nw,d.F.DV nw,(i.trans U).st.new nw⟩
end
def Fc.fn (names:List (aN×fX)) (bd:Nat) (nw hn:Bool) (cd:Option (aP×aN)) (hb:names.length<=bd/\bd<=1000000):Fc where
 K x:=names.lookup x
 dY x:=match names.lookup x with
  |some k=>if lM k then aA (names.findIdx (·.1==x)) else aE
  |none=>aE
 tT x:=match names.lookup x with|some k=>lM k|none=>aD
 inj:=by
  intro x y i A H;induction M:names.lookup x with
  |none=>rw[M] at A;show bM A
  |some k=>
   induction hy:names.lookup y with
   |none=>rw[hy] at H;show bM H
   |some b=>
    rw[M] at A;rw[hy] at H;dsimp only at A H
    split at A
    ·split at H
     ·have m:=(we M)
      have l:=m.2;show aT l λp e1 e2=>?_;have g:=(we hy);have o:=g.2;show aT o λq e z=>?_
      simp! only[(kj A).trans (kj H).symm,e] at e1
      clear e;cases e1
      simp! only[<-e2,<-z]
     ·show bM H
    ·show bM A
 bd:=bd
 tQ:=by
  intro x i h;induction M:names.lookup x with
  |none=>rw[M] at h;show bM h
  |some k=>
   rw[M] at h;dsimp only at h
   split at h
   ·cases h;show oC (we M).1 hb.1
   ·show bM h
 Bf:=hb.2
 ow:=aC
 nw:=nw
 hn:=hn
 cd:=cd
def DB (D:Wd) (Ob:aP->Prop) (z:Zs) (v:aO):Sl->Prop
 |.val d=>Rd (Ex Ob z.W) z.s.heap v d
 |.inst=> ∃x a,z.φ bC=aA a/\v=aG x/\D.P.HI (Ex Ob z.W) z.s.heap x a
 |.emp=> ∃a,v=aG a/\z.s.heap.get? a=aA kF/\ ¬ Ex Ob z.W a
 |_=>False
inductive gM (D:Wd) (Ob:aP->Prop) (z:Zs):List aO->List Sl->Prop
 |nil:gM D Ob z [] []
 |cons {v vs sl sls}:DB D Ob z v sl->gM D Ob z vs sls->gM D Ob z (v::vs) (sl::sls)
def P7 (i:List Nat) (sls:List Sl) (r:cU):cU:=(i.zip sls).foldl (λr p=>upd r p.1 p.2) r
def kS (i:List Nat) (sls:List Sl) (l:Ls):Ls:=(i.zip sls).foldl (λl p=>dm l p.1 p.2) l
theorem Xo (i:List Nat) (sls:List Sl) (l:Ls):aR (kS i sls l)=P7 i sls (aR l):=HP (λp:Nat×Sl=>(p.1,p.2)) _ l
inductive j6:Fl->aM->Prop
 |next:j6 Fl.next Dat.none
 |ret {d}:j6 (Fl.ret d) d
theorem j6.fn (h:j6 f d) (h':j6 f R):d=R:=by induction h<;>cases h'<;>rfl
structure En (D:Wd) (Ob:aP->Prop) (r:cU) (z:Zs):Prop where
 base: ∀b o,D.G.get? b=aA o->z.s.heap.get? b=aA o
 gd: ∀b o,D.G.get? b=aA o-> ¬ Ex Ob z.W b
 own: ∀i xs,r i=bg xs-> ∃a vs n,z.φ i=aA a/\z.s.heap.get? a=aA (listOf vs.toArray n)/\bU (Ex Ob z.W) z.s.heap vs xs
 jO: ∀i xs a,r i=bg xs->z.φ i=aA a->i≠bC->z.W a
 mJ: ∀xs,r bC=bg xs->r cG=eC-> ∀a,z.φ bC=aA a->z.W a
 oq: ∀xs,r bC=bg xs->r cG≠eC-> ∀a,z.φ bC=aA a-> ¬ z.W a
 pW:(∀xs,r bC≠bg xs)->z.φ bC=aE
 inj: ∀i j a,z.φ i=aA a->z.φ j=aA a->i=j
 lB: ∀i a,z.φ i=aA a-> ∃o,z.s.heap.get? a=aA o
 fe: ∀a,Ex Ob z.W a-> ∃o,z.s.heap.get? a=aA o
 fQ: ∀a,z.W a-> ¬ Ob a
 inv:D.P.Inv (Ex Ob z.W) z.s.heap
 pf: ∀a,D.P.PF a->z.W a
structure Bk (D:Wd) (C:Fc) (Ob:aP->Prop) (r:cU) (d:aM) (z:Zs) (u:aO) (env:eB) (z':Zs):Prop where
 F:FR D.P D.G C env Ob z'.φ z'.W r z'.s.heap
 s:Sy C z z'
 rd: ∀X:aP->Prop,(∀b,X b->Ob b\/(z'.W b/\(z'.φ bC=aA b\/D.P.PF b)))->Rd X z'.s.heap u d
def Zs.o5 (z:Zs) (names:List (aN×fX)):Zs:={z with s:={z.s with heap:=lP (z.s.heap.push {cls:=bp "frame",data:=gu #[]}) names},W:=λa=>z.W a\/(z.s.heap.get? a=aE/\ ∃o,(lP (z.s.heap.push {cls:=bp "frame",data:=gu #[]}) names).get? a=aA o)}
theorem Zs.Nl:Sx z (z.o5 names):=⟨⟨λa o e O=>I0 _ _ _ _ _ e,λa q=>q.imp id And.left⟩,cY _,rfl,rfl⟩
section
theorem DB.mon {sl:Sl} (x:DB D Ob z v sl) (s:Sx z z'):DB D Ob z' v sl:=by
 have m:Mon (Ex Ob z.W) z.s.heap (Ex Ob z'.W) z'.s.heap:=s.st.mon;induction sl with
 |val d=>show Rd.mon x m
 |inst=>show cI x λy a u n q=>(d0 y a (s.f▸u) n<|D.P.lh q m)
 |emp=>show eE x λa e Q b=>(bJ a e<|m _ _ Q b)
 |_=>show x
theorem gM.mon {vs:List aO} (x:gM D Ob z vs sls) (s:Sx z z'):gM D Ob z' vs sls:=by
 induction x with
 |nil=>show .nil
 |cons a _ i=>show .cons (a.mon s) i
theorem gM.len {vs:List aO} (x:gM D Ob z vs sls):vs.length=sls.length:=by
 induction x with
 |nil=>rfl
 |cons _ _ i=>show QIh RP i
theorem gM.app {us vs:List aO} (a:gM D Ob z us ss) (b:gM D Ob z vs ts):gM D Ob z (us++vs) (ss++ts):=by
 induction a with
 |nil=>show b
 |cons a _ i=>show .cons a i
theorem gM.vals {vs:List aO} {ds:List aM} (q:bU (Ex Ob z.W) z.s.heap vs ds):gM D Ob z vs (ds.map aQ):=by
 induction ds generalizing vs with
 |nil=>show sb q.lg<| .nil
 |cons d ds i=>show cI q.jR λu U e Q b=>sb e<| .cons Q<|i b
theorem ZG (h:qL C ps g): ∀{A:de} {X:Fx} {r:cU} {z:Zs} {us:List aO} {sls:List Sl} {Q:PUnit->aV->Prop} {Er:aO->aV->Prop},FX D C X r z->gM D X.Ob z us sls->ps.length=sls.length->
 (∀z',FX D C X (P7 g sls r) z'->Sx z z'->Q nH z'.s)->aZ (bH D.prog D.w) A (forIn (ps.zip us) nH λx O=>do Ea X.env x.1 x.2;pure (rA nH)) Q Er z.s:=by
 induction h with
 |nil=>
  intro A X r z us sls Q Er K q _ k
  simp! only[List.zip_nil_left,A6]
  show bQ<|k z K .refl
 | @cons p i ps g o _ c=>
  intro A X r z us sls Q Er K q L k;induction q with
  |nil=>trivial
  | @cons u us sl sls b q2=>
   simp! only[QHB,vz]
   show bP (C.qf o.t) λM H=>bD<|bD<|wpAny_toks<|(K.F.forget i M H).store o.t o.s o.k (sl:=sl) (λN O m=>?_) (λxs e=>?_) λN Z F S l=>bQ ?_
   ·clear L k
    induction sl with
    |val d=>show (bJ u rfl (Rd.mon b m))
    |inst=>show cI b λy a Y n w=>(d0 y a Y (n▸rfl)<|D.P.lh w m)
    |emp=>show eE b λa e v W=>(bJ a (e▸rfl)<|m _ _ v W)
    |_=>show b.elim
   ·clear L k
    subst e;show b.elim
   ·have U:Sx z (z.to N Z):=⟨S,l,rfl,rfl⟩
    show c ⟨F,K.R,bO K.t l⟩ (q2.mon U) (v7 L) λf B j=>k f B<|U.trans j
theorem jD.go (R:jD (n+1) A):jD n (A.deeper env):=⟨R.1,by have:=R.2.1;show (?_:A.depth+1+n<=900);show aS this,by have:=R.2.2;show (?_:A.units+3+10*n+300<=9900);show aS this⟩
theorem jD.lt {n:Nat} {A:de} (R:jD (n+1) A):A.depth<1000:=by have:=R.2.1;show aS this
structure Tx (D:Wd) (C:Fc) (body:List eT) (ps:List aN) (is:List Nat) (bs:List S):Prop where
 hp:qL C ps is
 hB:kW D C body bs
 ow:C.ow=aC
theorem PX {body:List eT} {ps:List aN} {is:List Nat} {bs:List S} (T:Tx D C body ps is bs) (lim:D.G.NoLimit) {sls:List Sl} {l:Ls} {Kb:Fl->Ls->Prop} (hl:ps.length=sls.length) (he:sW bs D.o (kS is sls l) Kb)
 {A:de} {scope:kM} {gl N:aP} {cl:List (aN×aP)} {qual:aN} {func:Option aP} {code:aO} {us:List aO} {Q:aO->aV->Prop} {Er:aO->aV->Prop} (R:jD (D.n+1) A) (t:1<=z.s.toks) (m:gM D Ob z us sls)
 (Y: ∀env,env=JK scope z.s.heap.objs.size gl (kL (z.s.heap.objs.size+1) scope.names cl) qual func code aE N->FR D.P D.G C env Ob z.φ (z.o5 scope.names).W (aR l) (z.o5 scope.names).s.heap)
 (k: ∀fl L d,Kb fl L->j6 fl d-> ∀u env z',Bk D C Ob (aR L) d z u env z'->Q u z'.s) (Z: ∀L, ¬ Kb KG L):
 aZ (bH D.prog D.w) A.in1 (JL scope gl cl (ps.zip us) qual func code aE N) (λenv H=>H.heap.NoLimit/\yQ (bH D.prog D.w) A (QHC body env) (λr s'=>match r with|.ok (.ret v)=>Q v s'|.ok _=>False|.error e=>Er e s') H) (λe s'=>Er e s') z.s:=by
 show KR λenv p=>ZG (X:=⟨A.deeper env,env,Ob⟩) (z:=z.o5 scope.names) T.hp ⟨Y env p,R.go,t⟩ (m.mon Zs.Nl) hl λz1 j s1=>⟨lim.keeps j.F.base,codeAny_func ?_⟩;rw[<-Xo] at j;show T.hB he j λfl L g f z2 K s2 fi=>?_;have s3:=(Zs.Nl.trans s1).y.trans s2;clear lim he R m Y p j s2;induction fi with
 |next=>show k _ _ _ g .next bG env z2 ⟨K.F,s3,λX O=>Rd.none⟩
 |cont=>show (Z _ g).elim
 | @ret v u _ q1 q2=>
  show k _ _ _ g .ret v env z2 ⟨K.F,s3,λX x=>?_⟩;have U:Mon (Ex Ob z2.W) z2.s.heap X z2.s.heap:=λb o e n=>⟨e,λz=>n<|(x b z).imp id And.left⟩;clear g;induction q2 with
  |d=>show Rd.mon q1 U
  | @bor i xs h q=>
   show fH (K.F.own i xs q) λb vs n e1 e2 c=>aT q1 λb' a B=>sb B ?_;obtain rfl:=bt e1 a;show Rd.lst e2 (λz=>?_)<|c.mon U;rcases x b z with z|⟨_,z|z⟩
   ·show K.F.fQ b (K.F.jO T.ow i xs b q e1 h) z
   ·show h<|K.F.inj i bC b e1 z
   ·show dU (D.P.jk K.F.inv z) λo' vs' M d'=>?_
    rw[e2] at M;cases M;trivial
structure Gk (G:bq) (fd:FuncData) (body:List eT) (names:List (aN×fX)) (cd:Option (aP×aN)):Prop where
 cr:G.CodeRec fd.code fd.qualname
 bd:fd.body=E0 body
 nm:fd.scope.names=names
 kd:fd.scope.kind=gy
 co:fd.scope.isCoroutine=aD
 ge:fd.scope.isGenerator=aD
 cl:fd.closure=[]
 gl:fd.globals=pj
 bu:fd.builtins=js
 cd: ∀c q,cd=aA (c,q)->fd.code=aG c/\fd.qualname++ ".<locals>." =q
inductive qX (G:bq) (a:aP) (body:List eT) (names:List (aN×fX)) (cd:Option (aP×aN)) (ps:List aN) (ex:List aO):Prop
 |mk {o fd}:G.get? a=some o->o.data=Data.func fd->Gk G fd body names cd->(∀us:List Value,us.length+ex.length=ps.length-> ∀{M:Model} {A:Around} {E:Value->Shared->Prop} {Q:List (Str×Value)->Shared->Prop} {s:Shared},(∀b o,G.get? b=some o->s.heap.get? b=some o)->Q (ps.zip<|us++ex) s->wpAny M A (bindArgs fd ⟨us,[]⟩) Q E s)->qX G a body names cd ps ex
section
variable {nw hn:Bool} {l:Ls} {d:aM} {Kb:Fl->Ls->Prop} {xs hs hs':List aM} {ex:List aO} {exs:List Sl} {o':dn} {A:de} {us:List aO} {Q:aO->aV->Prop} {Er:aO->aV->Prop}
theorem Mq (T:Tx D (Fc.fn names bd nw hn cd hb) body ps is bs) (lim:D.G.NoLimit) (f:Gk D.G fd body names cd) (m:(names.map (·.1)).Nodup) (hl:ps.length=sls.length) (M:sW bs D.o (kS is sls l) Kb) (Z: ∀i,i<bd->aR l i=.unb)
 (R:jD (D.n+1) A) (t:1<=z.s.toks) (e:En D Ob (aR l) z) (P:gM D Ob z us sls) (k: ∀fl L d,Kb fl L->j6 fl d-> ∀u env z',Bk D (Fc.fn names bd nw hn cd hb) Ob (aR L) d z u env z'->Q u z'.s) (C: ∀L, ¬ Kb KG L):
 aZ (bH D.prog D.w) A.in1 (JL fd.scope fd.globals fd.closure (ps.zip us) (fd.qualname++ ".<locals>.") N fd.code aE fd.builtins) (λenv H=>H.heap.NoLimit/\yQ (bH D.prog D.w) A (QHC body env) (λr K=>match r with|.ok (.ret v)=>Q v K|.ok _=>False|.error e=>Er e K) H) (λe K=>Er e K) z.s:=by
 show PX T lim hl M R t P (λenv F=>?_) k C;have h: ∀x i,(Fc.fn names bd nw hn cd hb).dY x=aA i->aR l i=.unb:=λx i q=>Z i ((Fc.fn names bd nw hn cd hb).tQ x i q)
 simp! only[f.cl,f.nm] at F
 show sb f.nm<|HX m (by erw[F];rfl) (by erw[F];rfl) (by erw[F];show f.kd) (λx=>by erw[F];show (?_:fd.scope.names.lookup x=_);erw[f.nm];rfl) (by erw[F];show f.gl) (by erw[F];show f.bu) (λc q e=>by erw[F];show f.cd c q e)
  (λx i a b=>h x i b) (λx i a b=>.inl ⟨?_,h x i b⟩) (λx a b=>a) (λx c q=>by show bM q) (λx y c q=>by show bM q) e.base e.gd e.own (λO=>e.jO) e.mJ e.oq e.pW e.inj e.lB e.fe e.fQ e.inv e.pf
 have B:(match names.lookup x with|some k=>if lM k then aA (names.findIdx (·.1==x)) else aE|none=>aE)=aA i:=b;show Or.elim (a) (λa=>?_) λa=>?_
 ·show a
 ·have Y:names.lookup x=aA ck:=a
  rw[Y] at B;show bM B
theorem Ga (T:Tx D (Fc.fn names bd nw hn cd hb) body ps is bs) (lim:D.G.NoLimit) (q:qX D.G a body names cd ps ex) (N:(names.map (·.1)).Nodup) (hl:ps.length=sls.length) (Z:sW bs D.o (kS is sls l) Kb) (r: ∀i,i<bd->aR l i=.unb)
 (R:jD (D.n+1) A) (t:1<=z.s.toks) (e:En D Ob (aR l) z) (v:gM D Ob z (us++ex) sls) (k: ∀fl L d,Kb fl L->j6 fl d-> ∀u env z',Bk D (Fc.fn names bd nw hn cd hb) Ob (aR L) d z u env z'->Q u z'.s) (C: ∀L, ¬ Kb KG L):aZ (bH D.prog D.w) A (call (aG a) us) Q Er z.s:=by
 induction q with
 |mk W U f F=>show yT (RU R.lt (e.base _ _ W) U f.co f.ge f.bd (f.cr.keeps e.base)<|F us (by (erw[<-i4];erw[v.len];show sb hl rfl)) e.base<|Mq T lim f N hl Z r R t e v k C)
def ur (D:Wd) (X Y:aP->Prop) (b:aP):Prop:=X b/\ ¬ Y b/\ ¬ D.P.PF b
theorem Br {X Y:aP->Prop} (h: ∀b,Y b->X b) (p: ∀b,D.P.PF b->X b) (q:Ex (ur D X Y) (λb=>Y b\/D.P.PF b) b):X b:=q.elim (·.1) λq=>q.elim (h b)<|p b
theorem GQ {X Y W:aP->Prop} (y: ∀b,Y b->W b) (p: ∀b,D.P.PF b->W b) (q:X b):Ex (ur D X Y) W b:=by
 by_cases h:Y b
 ·show .inr<|y b h
 ·by_cases H:D.P.PF b
  ·show .inr<|p b H
  ·show .inl ⟨q,h,H⟩
theorem sQ {X Y:aP->Prop} (y: ∀b,Y b->X b) (p: ∀b,D.P.PF b->X b):Mon X h (Ex (ur D X Y) λb=>Y b\/D.P.PF b) h:=λb o e n=>⟨e,λq=>n<|Br y p q⟩
theorem Bk.ct {X Y:aP->Prop} {s:aV} {o':dn} (b:Bk D C (ur D X Y) r d ⟨s,λb=>Y b\/D.P.PF b,φ⟩ u env z') (a: ∀b,Y b->z'.W b) (h: ∀b,Y b->z'.φ bC=aA b):CT {D with n:=m,o:=o'} X Y s z'.s/\Rd X z'.s.heap u d:=by
 show ⟨⟨λc o e n p=>b.s.st.keep c o e λw=>w.elim n p,D.P.jo b.F.inv (λc o e n=>⟨e,λw=>n<|GQ a b.F.pf w⟩) λO O=>rfl,b.s.e⟩,b.rd X λc q=>?_⟩;by_cases w:Y c
 ·show .inr ⟨a c w,.inl<|h c w⟩
 ·by_cases p:D.P.PF c
  ·show .inr ⟨b.F.pf c p,.inr p⟩
  ·show .inl ⟨q,w,p⟩
theorem L7 (T:Tx D (Fc.fn names bd nw hn cd hb) body ps is bs) (lim:D.G.NoLimit) (f:qX D.G a body names cd ps []) (N:(names.map (·.1)).Nodup) (hl:ps.length=xs.length) (he:sW bs D.o (kS is (xs.map aQ) []) λfl O=>j6 fl d):qi {D with n:=D.n+1,o:=o'} a xs d:=by
 intro A s X us Q E c v k;have y: ∀b,(λO:aP=>False) b->X b:=λO=>ph;have x:=λb=>Br (b:=b) y c.pf
 show Ga (D:=D) (z:=⟨s,λb=>False\/D.P.PF b,λO=>aE⟩) (Ob:=ur D X λO=>False) (l:=[]) T lim f N (by simp! only[cp,hl]) he (λO O=>rfl) c.R c.t ⟨c.base,λb o e q=>c.gd b o e<|x b q,nofun,nofun,nofun,nofun,λO=>rfl,nofun,nofun,λb q=>c.al b<|x b q,λb q i=>q.elim id i.2.2,D.P.jo c.inv (sQ y c.pf) λO O=>rfl,λb p=>.inr p⟩
  (by simp! only[lQ];show gM.vals<|v.mon<|sQ y c.pf) (λfl L B g Z u env z' b=>?_) (λL g=>by cases g)
 obtain rfl:=g.fn Z;show bP (b.ct (o':=o') (m:=D.n+1) (λO=>ph) λO=>ph) λH h=>k u z'.s H h
def wg (N:aP) (i:Nat):Option Addr:=if i=bC then aA N else aE
theorem XW (q:wg N i=aA a):i=bC/\a=N:=by
 unfold wg at q
 split at q
 ·cases q;show ⟨‹_›,rfl⟩
 ·show bM q
theorem wm:wg i bC=aA i:=QIg rfl
theorem GG {X Y:aP->Prop} {vs:List aO} {ds:List aM} (c:CS {D with n:=D.n+1,o:=o'} A X s) (y: ∀b,Y b->X b) (Q:s.heap.get? N=aA (listOf vs.toArray n)) (v:bU X s.heap vs ds) (e1: ∀i ys,r i=bg ys->i=bC/\ys=ds) (e2:r bC=bg ds) (u:r cG=eC->Y N) (W:r cG≠eC-> ¬ Y N):
 En D (ur D X Y) r ⟨s,λb=>Y b\/D.P.PF b,wg N⟩:=by
 have x:=λb=>Br (D:=D) (b:=b) y c.pf;have M:=sQ (D:=D) (h:=s.heap) y c.pf;have B: ∀i a,wg N i=aA a->i=bC/\a=N:=λO O=>XW;show ⟨c.base,λb o e q=>c.gd b o e<|x b q,λi ys e=>?_,λi ys a e O f=>QIe (e1 i ys e).1 f,λys O w a q=>.inl<|(B bC a q).2▸u w,λys O w a q z=>?_,λw=>QIe e2<|w ds,λi j a p q=>(B i a p).1.trans (B j a q).1.symm,λi a q=>⟨_,(B i a q).2▸Q⟩,λb q=>c.al b<|x b q,λb q R=>q.elim R.2.1 R.2.2,D.P.jo c.inv M λO O=>rfl,λb p=>.inr p⟩
 ·have H:=(e1 i ys e)
  have m:=H.1;have g:=H.2;show sb m<|sb g<|(mf N vs n wm Q<|v.mon M)
 ·rw[(B bC a q).2] at z
  show Or.elim (z) (λz=>?_) λz=>?_
  ·show W w z
  ·show dU (D.P.jk c.inv z) λo F e d=>?_
   obtain rfl:=bt Q e;show nomatch d
def rR (hs:List aM):Ls:=[(bC,bg hs)]
def rH (hs:List aM):Ls:=[(bC,bg hs),(cG,eC)]
theorem IX (b:Bool) (e:aR (bif b then rH hs else rR hs) i=bg ys):i=bC/\ys=hs:=by
 have k: ∀l,(∀ys,aR l i≠bg ys)->aR ((bC,bg hs)::l) i=bg ys->i=bC/\ys=hs:=λl n e=>by
  by_cases h:bC=i
  ·clear n
   subst h;cases e;show ⟨rfl,rfl⟩
  ·have u:cond (dK bC i) _ (aR l i)=bg ys:=e
   rw[r7 h] at u;show QIe u<|n _
 induction b with
 |false=>show k [] (λO=>nofun) e
 |true=>show k [(cG,eC)] (λys q=>?_) e;have Q:cond (dK cG i) eC .unb=bg ys:=q;cases w:dK cG i<;>rw[w] at Q<;>show nomatch Q
theorem GK (b:Bool) (h:i<1000000):aR (bif b then rH hs else rR hs) i=.unb:=by
 have H:dK bC i=false:=r7 λz=>by rw[<-z] at h;show QIe h (by ext)
 have m:dK cG i=false:=r7 λz=>by rw[<-z] at h;show QIe h (by ext)
 induction b with
 |false=>change cond (dK bC i) _ _=_;erw[H];rfl
 |true=>change cond (dK bC i) _ (cond (dK cG i) _ _)=_;show sb H<|sb m ?_;rfl
theorem Vn (T:Tx D (Fc.fn names bd nw aD cd hb) body ps is bs) (lim:D.G.NoLimit) (v: ∀{Ob z},gM D Ob z ex exs) (fa:qX D.G a body names cd ps ex) (L:(names.map (·.1)).Nodup) (hl:ps.length=(xs.map aQ++exs).length+1)
 (Z:sW bs D.o (kS is (jy::(xs.map aQ++exs))<|rH hs) λfl l=>j6 fl d/\aR l bC=bg hs'/\aR l cG=eC):qo {D with n:=D.n+1,o:=o'} a xs hs d hs':=by
 intro A s X us vs x N n Q E c hi M U C j k;have y: ∀b,(λb=>b=N) b->X b:=λb q=>q▸M;show Ga (D:=D) (us:=aG x::us) (sls:=jy::(xs.map aQ++exs)) T lim fa L hl Z (λi q=>GK aC<|oC q hb.2) c.R c.t (GG c y U C (λi ys e=>IX aC e) rfl (λO=>rfl) (λw=>QIe rfl w)) (.cons (d0 x N wm rfl (D.P.lh hi<|sQ y c.pf))<|(gM.vals<|j.mon<|sQ y c.pf).app v) (λfl f d' g Y u env z' b=>?_) (λf g=>by cases g.1);show eA g λg r B=>?_;obtain rfl:=g.fn Y;have h:=(b.s.p.hn rfl).trans wm;show fH (b.F.own bC hs' r) λaa vs' n' e1 e2 e3=>?_;obtain rfl:=bt h e1;have H: ∀b,b=N->z'.W b:=λO q=>q▸b.F.mJ hs' r B N h;show bP (b.ct H λO q=>q▸h) λm K=>k u z'.s vs' n' m e2 (e3.mon λc o e n=>⟨e,λw=>n<|GQ H b.F.pf w⟩) K
theorem QEP (T:Tx D (Fc.fn names bd nw aD cd hb) body ps is bs) (lim:D.G.NoLimit) (B: ∀{Ob z},gM D Ob z ex exs) (f:qX D.G a body names cd ps ex) (N:(names.map (·.1)).Nodup) (hl:ps.length=(xs.map aQ++exs).length+1)
 (F:sW bs D.o (kS is (jy::(xs.map aQ++exs))<|rR hs) λfl O=>j6 fl d):sV {D with n:=D.n+1,o:=o'} a xs hs d:=by
 intro A s X us m x C n Q E c j r v K k;have y: ∀b,(λO:aP=>False) b->X b:=λO=>ph;show Ga (D:=D) (us:=aG x::us) (sls:=jy::(xs.map aQ++exs)) T lim f N hl F (λi q=>GK aD<|oC q hb.2) c.R c.t (GG (ds:=hs) c y r v (λi Y e=>IX aD e) rfl (λw=>by have w:=w;show nomatch w) (λO=>id)) (.cons (d0 x C wm rfl (D.P.lh j<|sQ y c.pf))<|(gM.vals<|K.mon<|sQ y c.pf).app B) (λfl l L g Z u env W b=>?_) (λl g=>by show nomatch g);obtain rfl:=g.fn Z;show bP (b.ct (λO=>ph) λO=>ph) λH h=>k u W.s H h
end
end
structure jC where
 nm:aN
 args:Arguments
 body:List eT
 scope:kM
 ps:List aN
 pos:cA
 own:aP
 tab:aP
 qual:aN
structure M4 where
 HI:(aP->Prop)->bq->aP->aP->Prop
 lh: ∀{X h X' h' x a},HI X h x a->Mon X h X' h'->HI X' h' x a
inductive Mt (cf:jC) (X:aP->Prop) (h:bq) (cl:List (aN×aP)) (a:aP):Prop
 |mk {o fd c' oc vs t}:h.get? a=some o-> ¬ X a->o.data=Data.func fd->fd.code=Value.ref c'->h.get? c'=some oc-> ¬ X c'->oc.data=Data.fields vs->vs[1]?=some (Value.str fd.qualname t)->fd.body=FuncBody.stmts cf.body->fd.scope=cf.scope->fd.closure=clOf cl cf.scope.names []->
  (∀x∈cf.scope.names,x.2=ck->(cl.lookup x.1).isSome=aC)->fd.globals=pj->fd.builtins=js->(∀us:List aO,us.length=cf.ps.length->oR fd ⟨us,[]⟩=pure (cf.ps.zip us))->Mt cf X h cl a
def HK (cf:jC) (X:aP->Prop) (h:bq) (c:aP):Prop:= ∃o v t,h.get? c=aA o/\ ¬ X c/\o.data=eY v/\v[1]?=aA (cP (cf.qual++cf.nm) t)
inductive qq (cf:jC) (X:aP->Prop) (h:bq):Prop
 |mk {ps}: ¬ X cf.own->h.IsCode cf.own cf.tab ps->h.TableAt cf.own cf.tab ps->(codeAmong cf.pos ps.toList=none\/ ∃c',codeAmong cf.pos ps.toList=some (Value.ref c')/\HK cf X h c')->qq cf X h
theorem xU {h:bq} {ps:Array aO} {G:Prop} (x:h.IsCode c P ps) (k: ∀o vs F tf f t i text tt op,h.get? c=aA o->o.data=eY vs->vs.getD 11 bG=aG P->vs.getD 18 bG=cP F tf->vs.getD 7 bG=bS f t->vs.getD 9 bG=dD i->vs.getD 10 bG=bS text tt->h.get? P=aA op->op.data=eY ps->TriplesOk ps.toList->c≠P->G):G:=x.elim λo x=>x.elim λvs x=>x.elim λF x=>x.elim λtf x=>x.elim λf x=>x.elim λt x=>x.elim λi x=>x.elim λtext x=>x.elim λtt x=>x.elim λop x=>k o vs F tf f t i text tt op x.1 x.2.1 x.2.2.1 x.2.2.2.1 x.2.2.2.2.1 x.2.2.2.2.2.1 x.2.2.2.2.2.2.1 x.2.2.2.2.2.2.2.1 x.2.2.2.2.2.2.2.2.1 x.2.2.2.2.2.2.2.2.2.1 x.2.2.2.2.2.2.2.2.2.2
theorem YA {h h':bq} (x:h.IsCode c P ps) (H: ∀o,h.get? c=aA o->h'.get? c=aA o) (K: ∀o,h.get? P=aA o->h'.get? P=aA o):h'.IsCode c P ps:=by have e:h'.get? c=h.get? c/\h'.get? P=h.get? P:=xU x λO O O O O O O O O O a O O O O O O b O O O=>⟨(H _ a).trans a.symm,(K _ b).trans b.symm⟩;delta Heap.IsCode;show sb e.1<|sb e.2 x
theorem qq.mv {cf:jC} {X z:aP->Prop} {h h':bq} (i:qq cf X h) (m:Mon X h z h') (k: ∀o,h.get? cf.tab=aA o->h'.get? cf.tab=aA o):qq cf z h':=by
 induction i with
 |mk n Y x g=>have K:=λo e=>(m cf.own o e n).1;show ⟨xU Y λo O O O O O O O O O e O O O O O O O O O O=>(m _ o e n).2,YA Y K k,⟨ik x.1 λo vs a b c d=>iX o vs (K _ a) b c d,k _ x.2⟩,g.imp id λq=>?_⟩;show aT q λC r q=>⟨C,r,fh q λoc vs t g2 g3 W j=>om oc vs t (m _ _ g2 g3).1 (m _ _ g2 g3).2 W j⟩
theorem qq.Xx {cf:jC} {X:aP->Prop} {h:bq} (i:qq cf X h): ∃o vs,h.get? cf.tab=aA o/\o.data=eY vs:=by
 induction i with
 |mk n d t g=>show xU d λO O O O O O O O O F O O O O O O O U p O O=>eS F _ U p
noncomputable def jM (eR:Nat->Option jC) (H:M4):wx where
 CL f X h cl a:= ∃cf,eR f=aA cf/\Mt cf X h cl a
 HI:=H.HI
 Ak:=by intro f X h U h' cl a p m;obtain ⟨cf,e,⟨A,z,Q,v,d,P,B,F,Y,K,c,g,R,L,x⟩⟩:=p;show (bJ cf e<|.mk (m _ _ A z).1 (m _ _ A z).2 Q v (m _ _ d P).1 (m _ _ d P).2 B F Y K c g R L x)
 lh:=H.lh
 PF a:= ∃f cf,eR f=aA cf/\a=cf.tab
 Inv X h:= ∀f cf,eR f=aA cf->qq cf X h
 jo:=λi m j f cf e=>(i f cf e).mv m λo q=>(j _<|eS f cf e rfl).trans q
 jk:=by intro X h a i l;show dU l λf cf e b=>?_;clear l;subst b;show (i f cf e).Xx
section
variable {E:aO->aV->Prop} {s:aV}
theorem ZY {cf:jC} {X:aP->Prop} {env:eB} (C:env.code=aG cf.own) (l: ∀b,X b-> ∃o,s.heap.get? b=aA o) (i:qq cf X s.heap)
 (hQ: ∀c h' tk,(∀b o,s.heap.get? b=aA o->b≠cf.tab->h'.get? b=aA o)->HK cf X h' c->qq cf X h'->Q (aG c) {s with heap:=h',toks:=tk}):
 aZ M A (RV env cf.pos f cf.nm (cf.qual++cf.nm) p scope body) Q E s:=by
 have m:=i;obtain ⟨n1,d,B,g⟩:=i;rcases g with g|⟨c,g1,N⟩
 ·show wpAny_functionCodeX C d B g λc h' tk Z R lt Y cr v O=>YH cr λc2 oc vs t e1 e2 u q=>?_
  cases e1
  have nx: ¬ X c:=λx=>bE (l _ x) λo w=>oD _<|oC (mP w) R
  have N:HK cf X h' c:=(om oc vs t e2 nx u q);show hQ c h' tk (λb o e n=>Z b o n e) N ⟨n1,Y,v,.inr<|bJ c ?_ N⟩;show xU d λo W K tf F r j text tt op z hd h h2 h7 h9 H U P a L=>sb QHD<|sb (codeAmong_snoc _ a g) rfl
 ·show xU d λo vs K tf F r j text tt op z hd h h2 h7 h9 H U P a L=>?_
  delta RV codeAt;show sb C<|sb (if_neg (Bool.false_ne_true: ¬ ((Value.ref cf.own==Value.none)=true)))<|wpAny_bind<|wpAny_fieldsOf z hd ?_
  show sb h<|wpAny_bind<|wpAny_fieldsOf U P ?_
  show sb g1<|wpAny_pure<|hQ c s.heap s.toks (λb o e O=>e) N m
end
section
theorem DL {h:bq} (ob:bk) (b:aP) (o:bk) (e:h.get? b=aA o):(h.push ob).get? b=aA o:=iW ob e
theorem QBN [H:eV D] (hP:D.P=jM eR Hh) (hf:eR f=aA cf) (aj: ∀g r,eR g=aA r->r.tab=cf.tab->r=cf)
 (ah: ∃bm o,D.mg "__builtins__" =aA (aG bm)/\bm≠js/\D.G.get? bm=aA o/\o.cls=bp "module" /\o.dict=aA js/\o.data=uY)
 (ae:C.cd=aA (cf.own,cf.qual)) (ok:n9 C cf.nm i)
 (ai:cf.args.kwonlyargs=[]) (ak:cf.args.kw_defaults=[]) (aq:cf.args.defaults=[]) (U: ∀env,annTrees cf.args aE env=[]) (M:docOf cf.body=aE)
 (N: ∀x∈cf.scope.names,x.2=ck->(C.dY x.1).isSome=aC/\(C.K x.1=aA dS\/C.K x.1=aA ck))
 (B: ∀fd,fd.params=cf.args->fd.defaults=bG->fd.kwdefaults=bG-> ∀us,us.length=cf.ps.length->oR fd ⟨us,[]⟩=pure (cf.ps.zip us)):
 cO D C (QHE cf.nm cf.args cf.body [] aE [] cf.scope aE cf.nm cf.pos) (.defn i f):=λe=>λ{X z Q Er} K k=>by
 show bP (K.F.uJ _ _ ae) λh L=>?_
 have aa: ∀x∈cf.scope.names,x.2=ck->(X.env.cells.lookup x.1).isSome=true:=λx hx af=>by
  show bP (N x hx af) λf1 f2=>bE (q8.mp f1) λj f1=>dU (K.F.jj x.1 j f2 f1) λc v q O=>?_
  simp! only[q]
  rfl
 have ao:qualnameIn X.env cf.nm cf.nm=cf.qual++cf.nm:=by
  unfold qualnameIn;show sb (K.F.hK cf.nm)<|sb L ?_
  rcases ok.k with q|q<;>rw[q]<;>rfl
 rw[exec_def,ao,defaultsOf_eq,ak,aq,U X.env];show bD<|kK<|bD<|dq ?_;show bD<|bQ ?_;show bD<|dq<|bQ ?_;show dq<|wpAny_bind<|wpAny_pure ?_
 rw[makeFunction_eq,ai];show bD (bQ<|bD<|bQ<|bD<|bQ ?_)
 simp! only[makeTail,Qu aa]
 show bD<|bQ ?_
 have gJ: ∀ct Y,(∀b o,z.s.heap.get? b=aA o->Y.get? b=aA o)->aZ (bH D.prog D.w) X.A (do
  let code<-RV X.env cf.pos cf.pos.line cf.nm (cf.qual++cf.nm) cf.args cf.scope (E0 cf.body)
  let bu<-builtinsFor X.env.globals X.env.builtins
  let pm<-nsGet X.env.globals "__name__"
  let doc<-(match docOf cf.body with|some s=>mkText s|none=>pure bG)
  newObj (bp "function") (kn {name:=cf.nm,qualname:=cf.qual++cf.nm,params:=cf.args,body:=E0 cf.body,scope:=cf.scope,globals:=X.env.globals,closure:=clOf X.env.cells cf.scope.names [],closureTuple:=ct,code,builtins:=bu,defaults:=bG,kwdefaults:=bG,annotations:=aE,pyModule:=pm.getD bG,doc})) (λa s'=>aZ (bH D.prog D.w) X.A (do
  uU cf.pos
  BC X.env cf.nm a
  pure Flow.next) Q Er s') Er {z.s with heap:=Y}:=by
  intro ct Y Z;have K1:FX D C X (aR _) (z.to Y z.s.toks):=⟨K.F.keeps Z,K.R,K.t⟩;have iv:=K1.F.inv
  simp! only[hP] at iv
  show bD<|wpAny_toks<|ZY h K1.F.fe (iv f cf hf) λc' h2 tk d nc i2 l2=>?_;have u: ∀b o,Y.get? b=aA o-> ¬ D.P.PF b->h2.get? b=aA o:=λb o e p=>d b o e λq=>p (by simp! only[hP];show (eS f cf hf q))
  have inv2:D.P.Inv (Ex X.Ob z.W) h2:=by
   erw[hP];intro g r eg;by_cases q:r.tab=cf.tab
   ·simp! only[aj g r eg q]
    show i2
   ·show (iv g r eg).mv (λb o e n=>⟨d b o e λq=>n (.inr<|q▸(K.F.pf _ (by simp! only[hP];show (eS f cf hf rfl)):z.W cf.tab)),n⟩) λo w=>d _ _ w q
  have F2:=K1.F.keepsP u inv2;show Be ah λbm ob b1 b2 b3 b4 b5 b6=>?_;have ab:h2.Ns X.env.globals D.mg:=by simp! only[K.F.hg];show H.gl.g.keeps F2.base
  show bD<|wpAny_builtinsFor ab b1 b2 (F2.base _ _ b3) b4 b5 b6 ?_;show bD (wpAny_nsGet ab ?_)
  simp! only[M]
  show bD (bQ<|QGd ?_<|by size_fits);show bP (C.qf ok.t) λhw hh=>bD<|kK<|bD<|QGn ?_;show wpAny_toks (((F2.keeps<|DL _).forget i hw hh).store ok.t ok.s ok.k (sl:=.clo f) (λh' O m=>?_) (λys ey=>by show nomatch ey) λh' ag F s4 l4=>?_)
  ·show fh nc λoc vs t e1 nx e3 e4=>(bJ h2.objs.size rfl (D.P.Ak ?_ m))
   show sb hP<|(bJ cf hf<|.mk (Heap.get?_push_size _ rfl) F2.xM rfl rfl (DL _ _ _ e1) nx e3 e4 rfl rfl rfl aa K.F.hg rfl λus hu=>B _ rfl rfl rfl us hu)
  ·have l:=bO l2 l4
   show bQ (k _ _ e _ (z.to h' ag) ⟨by simp! only[i9];show F,K.R,bO K.t l⟩ (Sx.y ⟨(((fk.all Z).trans<|K1.F.Cv u).trans<|fk.all<|DL _).trans s4,l,rfl,rfl⟩) .next)
 split
 ·show bD<|bQ<|gJ bG z.s.heap λO O e=>e
 ·show bD<|wpAny_newTextTuple<|gJ _ _<|DL _
end
def kx (f:Nat) (m:Bool):Sl->Sl
 |.val d=>aQ d
 |.own Y=>bif m then bg Y else .unb
 |.clo g=>if g=f then .clo g else .unb
 |.emp=>eC
 |_=>.unb
def rx (f:Nat) (c:List Nat) (o:Option Nat) (r:cU):cU:=λi=>if i∈c then kx f (o==aA i) (r i) else .unb
def H2:aM->Bool
 |.none=>aC
 |.int _=>aC
 |_=>aD
def vE (f:Nat) (c:List Nat) (o:Option Nat) (l:Ls):Ls:=c.map λi=>(i,kx f (o==aA i)<|aR l i)
theorem WI (f:Nat) (c:List Nat) (o:Option Nat) (l:Ls):aR (vE f c o l)=rx f c o (aR l):=by
 funext j;unfold rx;induction c with
 |nil=>rfl
 |cons i W d=>
  show (?_:cond (dK i j) _ (aR (vE f W o l) j)=_);by_cases h:i=j
  ·erw[h]
   rw[EU,if_pos<|.head _];rfl
  ·show sb (r7 h)<|sb d ?_
   by_cases q:j∈W
   ·show sb (QIg q)<|sb (if_pos<|.tail _ q) ?_
    rfl
   ·show sb (QIf q)<|sb (if_neg λw=>q<|(dR.mp w).resolve_left λe=>h e.symm) ?_
    rfl
inductive Bj (l l2:Ls):Option Nat->Ls->Prop
 |none:Bj l l2 none l
 |some {j xs ys}:aR l j=Sl.own xs->aR l2 j=Sl.own ys->Bj l l2 (some j) (dm l j<|Sl.own ys)
def xw (o:dn) (f:Nat) (i c:List Nat) (t:Option Nat) (bs:List S) (xs:List aM) (l:Ls) (d:aM) (L:Ls):Prop:=xs.length=i.length/\sW bs o (kS i (xs.map aQ)<|vE f c t l) λF W=>j6 F d/\H2 d=aC/\Bj l W t L
theorem QAY {c1 c2:List (aN×aP)}: ∀(names:List (aN×fX)) (a:List (aN×aP)),(∀x∈names,x.2=ck->c1.lookup x.1=c2.lookup x.1)->clOf c1 names a=clOf c2 names a:=by
 intro O;induction O with
 |nil=>show λO O=>rfl
 |cons O r i=>
  obtain ⟨n,k⟩:=O
  show λa h=>by
   dsimp only[EO,Bz];by_cases K:(k==ck)=aC
   ·show sb (QIg K)<|sb (if_pos K)<|sb (h (n,k) (.head _)<|beq_iff_eq.mp K)<|i _ λx M=>h x<|.tail _ M
   ·show sb (QIf K)<|sb (if_neg K)<|i _ λx M=>h x<|.tail _ M
structure vm (Cow:Fc) (cf:jC) (C:Fc):Prop where
 free: ∀x∈cf.scope.names,x.2=ck->C.dY x.1=Cow.dY x.1/\(C.dY x.1).isSome=aC/\(C.K x.1=aA dS\/C.K x.1=aA ck)
 ow:C.ow=aC
theorem Rd.atom {X x:aP->Prop} (q:Rd X h u d) (a:H2 d=aC):Rd x h' u d:=by
 cases d with
 |none=>show aT q λO O b=>?_;cases b;show Rd.none
 |int i=>show bE q.fm λt e=>sb e<|Rd.int _ _
 |_=>show dP a
def w3 (φ:Nat->Option aP) (j:Nat):Option Addr:=if j=bC then aE else φ j
theorem AV (h:w3 φ j=aA a):j≠bC/\φ j=aA a:=by
 unfold w3 at h
 split at h
 ·show bM h
 ·show ⟨‹_›,h⟩
theorem Hv (n:j≠bC) (h:φ j=aA a):w3 φ j=aA a:=(QIf n).trans h
inductive Wl (D:Wd) (oi:Option Nat) (r:cU) (z:Zs) (b:aP):Prop
 |own {j ys}:oi=some j->r j=Sl.own ys->z.φ j=some b->Wl D oi r z b
 |pf:D.P.PF b->Wl D oi r z b
def zL (D:Wd) (o:Option Nat) (r:cU) (z:Zs):Zs:=⟨z.s,Wl D o r z,w3 z.φ⟩
def vR (D:Wd) (o:Option Nat) (X:Fx) (r:cU) (z:Zs) (b:aP):Prop:=Ex X.Ob z.W b/\ ¬ Wl D o r z b
structure uH (cf:jC) (Cow:Fc) (dV:List Nat) (oi:Option Nat):Prop where
 Ld:(cf.scope.names.map (·.1)).Nodup
 QBq:cf.scope.kind=gy
 hco:cf.scope.isCoroutine=aD
 hge:cf.scope.isGenerator=aD
 Hp: ∀x∈cf.scope.names,x.2≠dS
 QAH: ∀x i,cf.scope.names.lookup x=aA ck->Cow.dY x=aA i->i∈dV
 L0: ∀i∈dV,i<Cow.bd
 Cb: ∀j,oi=aA j->j∈dV
section
theorem uH.big (I:uH cf Cow dV oi) (h:i∈dV):i≠bC/\i≠cG:=by have:=oC (I.L0 i h) Cow.Bf;show ⟨λw=>by rw[w] at this;show QIe this (by ext),λw=>by rw[w] at this;show QIe this (by ext)⟩
theorem Lz (h:i∈dV):rx f dV oi r i=kx f (oi==aA i) (r i):=QIg h
theorem OV (h:i∉dV):rx f dV oi r i=.unb:=QIf h
theorem I4 (e:rx f dV oi r i=bg ys):i∈dV/\oi=aA i/\r i=bg ys:=by
 by_cases d:i∈dV
 ·rw[Lz d] at e
  induction hri:r i with
  |own zs=>
   rw[hri] at e;induction q:oi==aA i with
   |true=>rw[q] at e;clear hri;cases e;show ⟨d,QIi.mp q,rfl⟩
   |false=>rw[q] at e;trivial
  |clo g=>
   rw[hri] at e;unfold kx at e;dsimp only at e
   split at e<;>trivial
  |_=>rw[hri] at e;trivial
 ·rw[OV d] at e
  trivial
theorem Wl.w (I:uH cf Cow dV oi) (i:vm Cow cf C) (K:FX D C X r z) (q:Wl D oi r z b):z.W b:=by
 induction q with
 |own o s Q=>show K.F.jO i.ow _ _ b s Q (I.big<|I.Cb _ o).1
 |pf p=>show K.F.pf b p
theorem Hm (I:uH cf Cow dV oi) (i:vm Cow cf C) (K:FX D C X r z):Ex (vR D oi X r z) (Wl D oi r z)=Ex X.Ob z.W:=by
 funext b;show propext ⟨λq=>q.elim (·.1) λq=>.inr<|q.w I i K,λq=>?_⟩;by_cases w:Wl D oi r z b
 ·show .inr w
 ·show .inl ⟨q,w⟩
theorem enL (I:uH cf Cow dV oi) (c:vm Cow cf C) (K:FX D C X r z):En D (vR D oi X r z) (rx f dV oi r) (zL D oi r z):=by
 have x:=Hm I c K;have N: ∀ys,rx f dV oi r bC≠bg ys:=λys e=>(I.big (I4 e).1).1 rfl;show ⟨K.F.base,λb o e=>by erw[x];show K.F.gd b o e,λi ys e=>?_,λi ys b e u n=>?_,λys e=>QIe e<|N ys,λys e=>QIe e<|N ys,λO=>(QIg rfl:w3 z.φ bC=aE),λi j b e u=>K.F.inj i j b (AV e).2 (AV u).2,λi b e=>K.F.lB i b (AV e).2,λb q=>K.F.fe b<|x▸q,λb w q=>q.2 w,by erw[x];show K.F.inv,λb p=>.pf p⟩
 ·show eA (I4 e) λd Y A=>fH (K.F.own i ys A) λb vs' n e1 e2 h=>(mf b vs' n (Hv (I.big d).1 e1) e2 (by erw[x];show h))
 ·show eA (I4 e) λd Y A=>.own Y A (AV u).2
theorem Uj (hP:D.P=jM eR Hh) (A:eR f=aA cf) (I:uH cf Cow dV oi) (j:vm Cow cf C) (K:FX D C X r z) {code:aO} (Z: ∀x∈cf.scope.names,x.2=ck->(X.env.cells.lookup x.1).isSome=aC)
 (t:m=JK cf.scope z.s.heap.objs.size pj (kL (z.s.heap.objs.size+1) cf.scope.names<|clOf X.env.cells cf.scope.names []) qual B code aE js):
 FR D.P D.G (Cow.sub cf.scope.names aD aC hb) m (vR D oi X r z) (zL D oi r z).φ ((zL D oi r z).o5 cf.scope.names).W (rx f dV oi r) ((zL D oi r z).o5 cf.scope.names).s.heap:=by
 have e:=enL (f:=f) I j K;have hX:Ex (vR D oi X r z) (zL D oi r z).W=Ex X.Ob z.W:=Hm I j K;have l:=yt cf.scope.names [] Z λy c q=>bM q
 have L: ∀x c,(clOf X.env.cells cf.scope.names []).lookup x=aA c-> ∃i v,C.dY x=aA i/\Cow.dY x=aA i/\cf.scope.names.lookup x=aA ck/\X.env.cells.lookup x=aA c/\z.s.heap.IsCell c v/\fg D.P z.φ X.env.cells (Ex X.Ob z.W) z.s.heap i v (r i):=by
  intro x c q;have hm:(x,ck)∈cf.scope.names:=((l.2 x).mpr (by erw[q];rfl)).elim id λw=>dP w
  show eA (j.free _ hm rfl) λf1 f2 f3=>bE (q8.mp f2) λi f4=>cI (K.F.jj x i f3 f4) λc' v q1 q2 q3=>?_;have q0:=l.1 x c q;clear hP A hb j K Z t e hX l q f2 f3;obtain rfl:=bt q1 q0;show (vc i v f4 (f1▸f4) (CZ I.Ld hm) q1 q2 q3)
 have a: ∀x,(x,ck)∈cf.scope.names-> ∃c,(clOf X.env.cells cf.scope.names []).lookup x=aA c:=λx M=>q8.mp<|(l.2 x).mp<|.inl M
 have N: ∀x∈cf.scope.names,x.2=ck->m.cells.lookup x.1=X.env.cells.lookup x.1:=λx M Z=>by
  simp! only[(by erw[t];rfl:m.cells=kL (z.s.heap.objs.size+1) cf.scope.names (clOf X.env.cells cf.scope.names [])),(Dc cf.scope.names _ _ x.1).1 λw=>QIe rfl (I.Hp _ w)]
  show bE (a x.1 (by erw[<-Z];show M)) λc q=>?_
  simp! only[q,l.1 x.1 c q]
 have h: ∀i v,i∈dV->fg D.P z.φ X.env.cells (Ex X.Ob z.W) z.s.heap i v (r i)->fg D.P (w3 z.φ) m.cells (Ex X.Ob z.W) z.s.heap i v (rx f dV oi r i):=by
  intro i v u x;erw[Lz u];induction R:r i with
  |val d=>rw[R] at x;show x
  |own ys=>
   rw[R] at x;induction q:oi==aA i with
   |true=>show aT x λb q1 q2=>(bJ b (Hv (I.big u).1 q1) q2)
   |false=>trivial
  |clo g=>
   rw[R] at x;unfold kx;dsimp only
   split
   ·rename_i q
    clear e R;subst q;show aT x λb q1 q2=>(bJ b q1 ?_);rw[hP] at q2⊢;show aT q2 λyy e2 o=>?_;obtain ⟨k1,k2,k3,k4,k5,k6,k7,k8,k9,ab,aa,ah,ag,n,af⟩:=o;obtain rfl:=bt A e2;show (bJ cf A<|.mk k1 k2 k3 k4 k5 k6 k7 k8 k9 ab (aa.trans<|QAY _ _ λx M Z=>(N x M Z).symm) (λx M Z=>by erw[N x M Z];show ah x M Z) ag n af)
   ·trivial
  |emp=>rw[R] at x;show x
  |_=>trivial
 show HX (cl:=clOf X.env.cells cf.scope.names []) I.Ld (by erw[t];rfl) (by erw[t];rfl) (by erw[t];show I.QBq) (λx=>?_) (by erw[t];rfl) (by erw[t];rfl) (λc q e=>by show bM e) (λx i p q=>?_) (λx i p q=>?_) (λx p q=>?_) (λx c q=>?_) (λx y c q Q=>?_)
  e.base e.gd e.own (λO=>e.jO) e.mJ e.oq e.pW e.inj e.lB e.fe e.fQ e.inv e.pf
 ·show sb t<|(?_:cf.scope.names.lookup x=(cf.scope.names.lookup x).map λk=>if aD && k==ck && Cow.K x==aA dS then dS else k)
  cases cf.scope.names.lookup x<;>rfl
 ·show OV λu=>?_
  have Q:(match cf.scope.names.lookup x with
   |some k=>if lM k then (if x==qU then aE else aA (Cow.bd+cf.scope.names.findIdx (·.1==x))) else if k==ck then Cow.dY x else aE
   |none=>aE)=aA i:=q
  rw[((qm p).elim id λw=>by cases w.1:cf.scope.names.lookup x=aA NameKind.local)] at Q;have Q:(if x==qU then aE else aA (Cow.bd+cf.scope.names.findIdx (·.1==x)))=aA i:=Q
  split at Q
  ·show bM Q
  ·clear A hb j Z t l L a N p q
   cases Q
   show QIe (I.L0 _ u)<|jt.mpr<|jb _ _
 ·have Q:(match cf.scope.names.lookup x with
   |some k=>if lM k then (if x==qU then aE else aA (Cow.bd+cf.scope.names.findIdx (·.1==x))) else if k==ck then Cow.dY x else aE
   |none=>aE)=aA i:=q
  have H:cf.scope.names.lookup x=aA ck:=by
   show Or.elim (p) (λp=>?_) λp=>?_
   ·show Or.elim (qm p) (λw=>?_) λw=>?_
    ·show QIe rfl (I.Hp _<|mem_of_lookup w)
    ·show w.2.1
   ·show Or.elim (qm p) (λw=>?_) λw=>?_
    ·show w
    ·cases w.1
  rw[H] at Q;show bE (a x<|mem_of_lookup H) λc q1=>Be (L x c q1) λi' v O k3 O O k5 k6=>?_;have U:Cow.dY x=aA i:=Q;clear hP A hb j K Z t e l L a N p q Q;obtain rfl:=bt U k3;show .inr ⟨H,c,v,q1,k5,by erw[hX];show h i v (I.QAH x i H U) k6⟩
 ·show (qm p).elim id λw=>dP w.2.2.2
 ·show Be (L x c q) λO O O O O O Y O=>aT Y λo' w O=>⟨o',w⟩
 ·show sJ (L x c q) λO O O O O k4 O=>sJ (L y c Q) λO O O O O ae O=>K.F.qM x y c k4 ae
theorem QDZ (hP:D.P=jM eR Hh) (hf:eR f=aA cf) (lim:D.G.NoLimit) (I:uH cf Cow dV oi) (T:Tx D (Cow.sub cf.scope.names aD aC hb) cf.body cf.ps is bs)
 (hc: ∀C,D.dV f C->vm Cow cf C) (he:xw D.o f is dV oi bs xs l d l'):zM {D with n:=D.n+1,o:=o'} f xs l d l':=by
 intro C X z a us Q E x K Z hv k;have r:=hc C x;have K:FX {D with n:=D.n+1} C X (aR l) z:=⟨K.F,K.R,K.t⟩;have hlen:=he.1;have v:=he.2
 ·skip
  have Z:=Z
  simp! only[hP] at Z
  show aT Z λao af aa=>?_;obtain ⟨g1,g2,g3,g4,g5,g6,g7,g8,g9,B,ah,aj,ae,ag,ai⟩:=aa;obtain rfl:=bt hf af;have U:=(T.hp.vB (D:=D)).1.trans hlen.symm;show yT (RU K.R.lt g1 g3 (by simp! only[B];show I.hco) (by simp! only[B];show I.hge) g9 (GC _ _ _ _ g4 g5 g7 g8) ?_)
  simp! only[ai us<|hv.len.trans U.symm]
  have K':FX D C X (aR l) z:=⟨K.F,⟨K.R.1,bO (QHF _) K.R.2.1,bO (RW (ES (fO 10<|QHF _) _) _) K.R.2.2⟩,K.t⟩;have hX:=Hm I r K';show bQ (PX (z:=zL D oi (aR l) z) (Ob:=vR D oi X (aR l) z) T lim (by simp! only[cp];show U) v K.R K.t (gM.vals (by simp! only[hX];show hv:bU (Ex (vR D oi X (aR l) z)<|Wl D oi (aR l) z) z.s.heap us xs)) (λak L=>?_) (λfl l2 d' g g' u env z' b=>?_) λl2 g=>by cases g.1)
  ·simp! only[B,ah,ae,ag] at L
   erw[B]
   simp! only[WI]
   show Uj hP hf I r K' aj L
  ·have hd:=g.1
   have ab:=g.2.1;have N:=g.2.2;obtain rfl:=hd.fn g';have pe:=b.s.p.nw rfl;have Y:=b.s.st.keep
   have A: ∀c,Wl D oi (aR l) z c->z'.W c:=λc q=>by
    induction q with
    | @own j ys q1 q2 m=>
     clear he v hX g Y q2;subst q1;cases N with
     |some z1 i=>show b.F.jO T.ow j _ c i (pe▸Hv (I.big<|I.Cb _ rfl).1 m) (I.big<|I.Cb _ rfl).1
    |pf p=>show b.F.pf c p
   have mo:Mon (Ex (vR D oi X (aR l) z) z'.W) z'.s.heap (Ex X.Ob z.W) z'.s.heap:=λc o e n=>⟨e,λq=>n (by
    by_cases w:Wl D oi (aR l) z c
    ·show .inr<|A c w
    ·show .inl ⟨q,w⟩)⟩
   have M:=D.P.jo b.F.inv mo λO O=>rfl
   have gJ:FR D.P D.G C X.env X.Ob z.φ z.W (aR l') z'.s.heap/\fk z.W z.s.heap z.W z'.s.heap:=by
    clear he k v K' hX g A;induction N with
    |none=>
     have h: ∀a o,z.s.heap.get? a=aA o-> ¬ D.P.PF a->z'.s.heap.get? a=aA o:=λa o e n=>Y a o e λq=>by
      induction q with
      |own q1=>show bM q1
      |pf q=>show n q
     show ⟨K.F.keepsP h M,K.F.Cv h⟩
    | @some j _ _ z1 i=>
     have Hq:=(I.big<|I.Cb j rfl);have jl:=Hq.1;have jw:=Hq.2;show fH (b.F.own j _ i) λc vs' n' e1 e2 e3=>?_
     simp! only[pe] at e1
     have H:=(AV e1).2
     simp! only[i9]
     show K.F.G4 jw z1 H (K.F.jO r.ow j _ c z1 H jl) (λc' o e nb np=>Y c' o e λq=>?_) M e2<|e3.mon mo;induction q with
     |own q1 _ m=>cases q1;obtain rfl:=bt H m;show nb rfl
     |pf q=>show np q
   show k u {z with s:=z'.s} ⟨gJ.1,K.R,bO K.t b.s.t⟩ ⟨gJ.2,b.s.t,rfl,b.s.e⟩ (Rd.atom (b.rd (λO=>False) λO=>ph) ab)
end
inductive Hn|d (x:Dat)|b (z:Bool)|ds (xs:List Dat)|i (n:Int)|s (x:Str)|f (f:Fl) (l:Ls)|c (x:Dat) (l:Ls)|h (x:Dat) (hs:List Dat)
abbrev Hs:=List Hn
abbrev Wt (α:Type):=dn->Ls->(α->Ls->Prop)->Prop
abbrev Xt (α:Type):=dn->Hs->Ls->(α->Ls->Hs->Prop)->Prop
structure bc {α:Type} (w:Wt α) (x:Xt α):Prop where r: ∀{o hs l} {K:α->Ls->Prop} {k:α->Ls->Hs->Prop} {P:Prop},(w o l K->P)->(∀v l hs,(K v l->P)->k v l hs)->x o hs l k
def gc (b:Bool) (p:Prop):Prop:=match b with|true=>p|false=>True
theorem gj {p:Prop} (h:b=aC->p):gc b p:=by induction b;show trivial;show h rfl
def cz {α:Type} (x:Option α) (f:α->Prop) (g:Prop):Prop:=match x with|some a=>f a|none=>g
section
variable {α β:Type} {P:Prop}
theorem AE {g u:Prop} (h:jz x f g->P) (r: ∀a,x=aA a->(f a->P)->F a) (i:(g->P)->u):cz x F u:=by
 induction x with
 |none=>show i h
 |some a=>show r a rfl h
def pD:Hn->Option aM|.d x=>aA x|_=>aE
def pB:Hn->Option Bool|.b x=>aA x|_=>aE
def pI:Hn->Option Int|.i x=>aA x|_=>aE
def nk (p:Hn->Option α) (hs:Hs) (k:α->Hs->Prop):Prop:=match hs with|h::hs=>cz (p h) (λa=>k a hs) True|[]=>True
theorem qW {k:α->Hs->Prop} (f: ∀a hs,k a hs):nk p hs k:=by
 induction hs with
 |nil=>show trivial
 |cons h hs=>change cz (p h) _ _;cases p h;show trivial;show f _ _
def mw (p:Hn->Option α) (R:α->Prop) (hs:Hs) (k:α->Hs->Prop):Prop:=nk p hs λa hs=>R a->k a hs
theorem mr {R K:α->Prop} {k:α->Hs->Prop} (h:er R K->P) (f: ∀a hs,(K a->P)->k a hs):mw p R hs k:=qW λa hs r=>f a hs λq=>h<|.mk r q
def w4 (z:Bool) (hs:Hs) (p q:Hs->Prop):Prop:=nk pB hs λb hs=>match b with|true=>z=aC->p hs|false=>z=aD->q hs
theorem zS {p q:Prop} (h:two z p q->P) (f: ∀hs,(p->P)->C hs) (g: ∀hs,(q->P)->Q hs):w4 z hs C Q:=qW λb hs=>by
 induction b
 ·show λe=>g hs λx=>h<|.inr ⟨e,x⟩
 ·show λe=>f hs λx=>h<|.inl ⟨e,x⟩
def Il (op:mO) (b:Bool) (hs:Hs) (p q:Hs->Prop):Prop:=nk pB hs λz hs=>match z with|true=>b=tu op->p hs|false=>b=(!tu op)->q hs
theorem LJ {p q:Prop} (h:FY op z p q->P) (f: ∀hs,(p->P)->C hs) (g: ∀hs,(q->P)->Q hs):Il op z hs C Q:=qW λb hs=>by
 induction b
 ·show λe=>g hs λx=>h<|.inr ⟨e,x⟩
 ·show λe=>f hs λx=>h<|.inl ⟨e,x⟩
def Oo (op:jY) (a b:Int) (k:Int->Prop):Prop:=match op with
 |.Add=>k<|a+b
 |.Sub=>k<|a - b
 |.Mult=>ib a+ib b<=134217728->k (a*b)
 |.FloorDiv=>decide (b=0)=aD->lO a b=aD->k (a.fdiv b)
 |.Mod=>decide (b=0)=aD->k (a.fmod b)
 |.Pow=>decide (0<=b)=aC->(ib a:Int)*b<=134217728->k (a^b.toNat)
 |.LShift=>0<=b->(ib a:Int)+b<=134217728->k (a*2^b.toNat)
 |.RShift=>0<=b->k (a.fdiv<|2^b.toNat)
 |.BitAnd=>k<|jG a b
 |.BitOr=>k<|vq a b
 |.BitXor=>k<|EV a b
 |_=>True
theorem QAW {K k:Int->Prop} (h:Iu op a b K->P) (f: ∀c,(K c->P)->k c):Oo op a b k:=by
 induction op with
 |Add=>show f _ h
 |Sub=>show f _ h
 |Mult=>show λc=>f _ λq=>h ⟨c,q⟩
 |FloorDiv=>show λc d=>f _ λq=>h ⟨of_decide_eq_false c,d,q⟩
 |Mod=>show λc=>f _ λq=>h ⟨of_decide_eq_false c,q⟩
 |Pow=>show λc d=>f _ λq=>h ⟨iD c,d,q⟩
 |LShift=>show λc d=>f _ λq=>h ⟨c,d,q⟩
 |RShift=>show λc=>f _ λq=>h ⟨c,q⟩
 |BitAnd=>show f _ h
 |BitOr=>show f _ h
 |BitXor=>show f _ h
 |_=>show trivial
def Qw (l:Ls) (op:jY) (u w:V) (hs:Hs) (k:aM->Hs->Prop):Prop:=cz (jU u) (λa=>cz (jU w) (λb=>Oo op a b λc=>k (aB c) hs)<|mw pD (d7 (aR l) op u w) hs k)<|mw pD (d7 (aR l) op u w) hs k
theorem X_ {u w:V} {K} {k:aM->Hs->Prop} (h:GV l op u w K->P) (f: ∀a hs,(K a->P)->k a hs):Qw l op u w hs k:=AE h (λO O h=>AE h (λO O h=>QAW h λc h=>f _ _ h) (mr · f)) (mr · f)
def M3 (op:jF) (a b:Int) (k:Bool->Prop):Prop:=match op with
 |.Eq=>k<|a==b
 |.NotEq=>k<|a !=b
 |.Lt=>k<|decide (a<b)
 |.LtE=>k<|decide (a<=b)
 |.Gt=>k<|decide (a>b)
 |.GtE=>k<|decide (a>=b)
 |_=>True
theorem QBb {K k:Bool->Prop} (h:Ha op a b K->P) (f: ∀c,(K c->P)->k c):M3 op a b k:=by
 induction op<;>first|show f _ h|show trivial
def Ku (l:Ls) (op:jF) (u w:V) (hs:Hs) (k:Bool->Hs->Prop):Prop:=cz (jU u) (λa=>cz (jU w) (λb=>M3 op a b λc=>k c hs)<|mw pB (f9 (aR l) op u w) hs k)<|mw pB (f9 (aR l) op u w) hs k
theorem Ly {u w:V} {K} {k:Bool->Hs->Prop} (h:DR l op u w K->P) (f: ∀a hs,(K a->P)->k a hs):Ku l op u w hs k:=AE h (λO O h=>AE h (λO O h=>QBb h λc h=>f _ _ h) (mr · f)) (mr · f)
theorem dh {K k:α->Prop} (h:jz x K False->P) (f: ∀a,(K a->P)->k a):cz x k True:=AE h (λa O=>f a) λO=>trivial
def iV:Ls->Nat->Sl->(Ls->Prop)->Prop
 |[],i,v,k=>k [(i,v)]
 |(j,s)::l,i,v,k=>match dK j i with
  |true=>k<|(j,v)::l
  |false=>iV l i v λl=>k<|(j,s)::l
theorem U_: ∀l i v k,iV l i v k=k (dm l i v):=by
 intro O;induction O with
 |nil=>show λO O O=>rfl
 |cons O l d=>
  obtain ⟨j,s⟩:=O
  show λi v k=>by
   dsimp only[iV,dm];cases dK j i
   ·show d i v _
   ·rfl
theorem jq {k:Ls->Prop} (h:k (dm l i v)):iV l i v k:=by simp only[U_];show h
def Gr:List Nat->List aM->Ls->(Ls->Prop)->Prop
 |i::is,x::xs,l,k=>iV l i (aQ x) λl=>Gr is xs l k
 |_,_,l,k=>k l
theorem Ik: ∀{o:List Nat} {xs:List aM} {l:Ls} {k:Ls->Prop},k ((o.zip xs).foldl (λl p=>dm l p.1<|aQ p.2) l)->Gr o xs l k
 |[],_,_,_,h=>h
 |_::_,[],_,_,h=>h
 |i::o,x::xs,_,_,h=>jq<|Ik h
def lk:Ls->(Ls->Prop)->Prop
 |[],k=>k []
 |(j,s)::l,k=>lk l λl=>k<|(j,s)::l
theorem a_: ∀l k,lk l k=k l:=by
 intro O;induction O with
 |nil=>show λO=>rfl
 |cons O l i=>obtain ⟨j,s⟩:=O;show λk=>i _
theorem oX {k:Ls->Prop} (h:k l):lk l k:=by simp only[a_];show h
def CO (t:cB) (x:aM) (l:Ls) (k:Ls->Prop):Prop:=match t with
 |.one i=>iV l i (aQ x) k
 |.tup o=>match x with
  |.tuple R|.list R=>gc (dK R.length o.length)<|Gr o R l k
  |_=>True
theorem Hz {K k:Ls->Prop} (h:zV t x l K->P) (f: ∀l,(K l->P)->k l):CO t x l k:=by
 induction t with
 |one i=>show jq<|f _ h
 |tup o=>cases x with
  |tuple R=>show gj λe=>Ik<|f _ λq=>h ⟨vp e,q⟩
  |list R=>show gj λe=>Ik<|f _ λq=>h ⟨vp e,q⟩
  |_=>show trivial
inductive hj {α:Type}:List (Wt α)->List (Xt α)->Prop|nil:hj [] []|cons {w ws x xs}:bc w x->hj ws xs->hj (w::ws) (x::xs)
def lX:List (Xt V)->Xt (List V)
 |[],_,s,l,k=>k [] l s
 |e::es,o,s,l,k=>e o s l λv l s=>lX es o s l λm l s=>k (v::m) l s
theorem GB (h:hj es xs):bc (lW es) (lX xs):=by
 induction h with
 |nil=>show ⟨λh f=>f _ _ _ h⟩
 |cons a _ i=>show ⟨λh f=>a.r h λv l s h=>i.r h λm l s h=>f _ _ _ h⟩
def IM:List V->(List aM->Prop)->Prop
 |[],k=>k []
 |v::vs,k=>cz (ll v) (λd=>IM vs λA=>k<|d::A) True
theorem m_: ∀{vs:List V} {K k:List aM->Prop},(y3 vs K->P)->(∀a,(K a->P)->k a)->IM vs k:=by
 intro vs;induction vs with
 |nil=>show λh f=>f _ h
 |cons v vs i=>show λh f=>dh h λa h=>i h λO h=>f _ h
def dX (es:List (Xt V)):Xt (List aM):=λo s l k=>lX es o s l λv l s=>IM v λd=>k d l s
theorem qZ (h:hj es xs):bc (dW es) (dX xs):=⟨λq f=>(GB h).r q λO O O q=>m_ q λO q=>f _ _ _ q⟩
def aX:List (Xt Bool)->Xt Bool
 |[],_,s,l,k=>k aC l s
 |t::ts,o,s,l,k=>t o s l λz l s=>w4 z s (λs=>aX ts o s l k) λs=>k aD l s
theorem n_ (h:hj ts xs):bc (aW ts) (aX xs):=by
 induction h with
 |nil=>show ⟨λh f=>f _ _ _ h⟩
 |cons a _ i=>show ⟨λh f=>a.r h λv l hs h=>zS h (λhs h=>i.r h f) λhs h=>f _ _ _ h⟩
def bX (op:mO):List (Xt Bool)->Xt Bool
 |[],_,s,l,k=>k (!tu op) l s
 |t::ts,o,s,l,k=>t o s l λb l s=>Il op b s (λs=>k (tu op) l s) λs=>bX op ts o s l k
theorem XN (h:hj ts xs):bc (Dn op ts) (bX op xs):=by
 induction h with
 |nil=>show ⟨λh f=>f _ _ _ h⟩
 |cons a _ i=>show ⟨λh f=>a.r h λv l hs h=>LJ h (λhs h=>f _ _ _ h) λhs h=>i.r h f⟩
def nxX (f:Fl) (p:Prop) (k:Fl->Prop):Prop:=match f with|.next=>p|f=>k f
def sX:List (Xt Fl)->Xt Fl
 |[],_,A,l,k=>k dE l A
 |s::ss,o,A,l,k=>s o A l λf l A=>nxX f (sX ss o A l k) λf=>k f l A
theorem ry (h:hj ss xs):bc (sW ss) (sX xs):=by
 induction h with
 |nil=>show ⟨λh f=>f _ _ _ h⟩
 |cons a _ i=>show ⟨λh f=>a.r h λv l s h=>by induction v with
  |next=>show i.r h f
  |_=>show f _ _ _ h⟩
end
abbrev XE:=Xt V
abbrev XT:=Xt Bool
abbrev XS:=Xt Fl
abbrev XI:=dn->Bool->Hs->Ls->(List aM->Ls->Hs->Prop)->Prop
structure sD (w:I) (x:XI):Prop where r: ∀{o f hs l} {K:List aM->Ls->Prop} {k:List aM->Ls->Hs->Prop} {P:Prop},(w o f l K->P)->(∀v l hs,(K v l->P)->k v l hs)->x o f hs l k
section
variable {P:Prop}
def X.ret (v:V):XE:=λO s l k=>k v l s
theorem An:bc (λO l K=>K v l) (X.ret v):=⟨λq f=>f _ _ _ q⟩
def X.bL (i:Nat):XE:=λO s l k=>cz (lz (aR l) i) (λv=>k v l s) True
theorem QCG {i}:bc (E.bL i) (X.bL i):=⟨λq f=>dh q λO=>f _ _ _⟩
def X.rW (i:Nat):XE:=λO s l k=>cz (jW<|aR l i) (λx=>iV l i .unb λl=>k (.d<|aK x) l s) True
theorem QDT {i}:bc (E.rW i) (X.rW i):=⟨λq f=>dh q λO q=>jq<|f _ _ _ q⟩
def X.aL (op:jY) (A B:XE):XE:=λo s l k=>A o s l λu l s=>B o s l λw l s=>Qw l op u w s λd s=>k (.d d) l s
theorem Oj {op} (s:bc a A) (hb:bc b B):bc (E.aL op a b) (X.aL op A B):=⟨λq f=>s.r q λO O O q=>hb.r q λO O O q=>X_ q λO O=>f _ _ _⟩
def X.neg (A:XE):XE:=λo s l k=>A o s l λu l s=>cz (jU u) (λi=>k (.d<|aB (-i)) l s) True
theorem QEo (s:bc a A):bc (E.neg a) (X.neg A):=⟨λq f=>s.r q λO O O q=>dh q λO=>f _ _ _⟩
def X.inv (A:XE):XE:=λo s l k=>A o s l λu l s=>cz (jU u) (λi=>k (.d<|aB<|QGA i) l s) True
theorem ZD (s:bc a A):bc (E.inv a) (X.inv A):=⟨λq f=>s.r q λO O O q=>dh q λO=>f _ _ _⟩
def X.Bh (op:jF) (A B:XE):XT:=λo s l k=>A o s l λu l s=>B o s l λw l s=>Ku l op u w s λc s=>k c l s
theorem ZT {op} (s:bc a A) (hb:bc b B):bc (T.cmp op a b) (X.Bh op A B):=⟨λq f=>s.r q λO O O q=>hb.r q λO O O q=>Ly q λO O=>f _ _ _⟩
def X.ofT (Y:XT):XE:=λo s l k=>Y o s l λb l s=>k (.d<|fI b) l s
theorem Te {op} (s:bc a A) (hb:bc b B):bc (E.cmp op a b) (X.ofT<|X.Bh op A B):=⟨λq f=>s.r q λO O O q=>hb.r q λO O O q=>Ly q λO O=>f _ _ _⟩
def X.ite (Y:XT) (A B:XE):XE:=λo s l k=>Y o s l λz l s=>w4 z s (λs=>A o s l k) λs=>B o s l k
theorem Ye (Z:bc t Y) (s:bc a A) (hb:bc b B):bc (E.ite t a b) (X.ite Y A B):=⟨λq f=>Z.r q λO O O q=>zS q (λO q=>s.r q f) λO q=>hb.r q f⟩
def X.list (e:List XE):XE:=λo s l k=>dX e o s l λx l s=>gc (iF x.length 16777216)<|k (.d<|aK x) l s
theorem GD (h:hj es Es):bc (E.list es) (X.list Es):=⟨λq f=>(qZ h).r q λO O O q=>gj λe=>f _ _ _ λr=>q ⟨e,r⟩⟩
def X.tup (e:List XE):XE:=λo s l k=>dX e o s l λx l s=>gc (iF x.length 16777216)<|k (.d<|bw x) l s
theorem z_ (h:hj es Es):bc (E.tup es) (X.tup Es):=⟨λq f=>(qZ h).r q λO O O q=>gj λe=>f _ _ _ λr=>q ⟨e,r⟩⟩
def Zv:Hn->Option (List aM)|.ds x=>aA x|_=>aE
def X.comp (e:E) (t:cB) (J:XI) (ts:List T):XE:=λo s l k=>J o aD s l λx l s=>nk Zv s λY s=>x.length<=16777216->(∀K:List aM->Prop,K Y->cW e t ts o (sH t<|rn l) x K)->k (.d<|aK Y) l s
theorem Lu {tg} (i:sD it J):bc (E.comp e tg it ts) (X.comp e tg J ts):=⟨λq f=>i.r q λO O O q=>qW λO O h H=>f _ _ _ λr=>q ⟨h,H _ r⟩⟩
def X.bA (A B:XE):XE:=λo s l k=>A o s l λu l s=>B o s l λw l s=>cz (jU w) (λi=>mw pD (cN (aR l) u i) s λd s=>k (.d d) l s) True
theorem Yh (s:bc a A) (hb:bc b B):bc (E.bA a b) (X.bA A B):=⟨λq f=>s.r q λO O O q=>hb.r q λO O O q=>dh q λO q=>mr q λO O=>f _ _ _⟩
def X.d9 (A B C D:XE):XE:=λo s l k=>A o s l λu l s=>B o s l λx l s=>C o s l λy l s=>D o s l λz l s=>mw pD (fx (aR l) u x y z) s λd s=>k (.d d) l s
theorem Tg {D:XE} (s:bc a A) (hb:bc b B) (W:bc c C) (hd:bc d D):bc (E.d9 a b c d) (X.d9 A B C D):=⟨λq f=>s.r q λO O O q=>hb.r q λO O O q=>W.r q λO O O q=>hd.r q λO O O q=>mr q λO O=>f _ _ _⟩
def X.call (g:Nat) (e:List XE):XE:=λo s l k=>dX e o s l λx l s=>mw pD (o.F g x) s λz s=>k (.d z) l s
theorem Vu {g} (h:hj es Es):bc (E.call g es) (X.call g Es):=⟨λq f=>(qZ h).r q λO O O q=>mr q λO O=>f _ _ _⟩
def pC:Hn->Option (aM×Ls)|.c x l=>aA (x,l)|_=>aE
def Mj (s:Sl):Option Nat:=match s with|.clo f=>aA f|_=>aE
theorem YQ (h:(match Mj s with|some f=>dK f g|none=>aD)=aC):s=.clo g:=by
 induction s with
 |clo f=>show QIh _<|vp h
 |_=>show dP h
def X.kA (g i:Nat) (e:List XE):XE:=λo s l k=>gc (match Mj (aR l i) with|some f=>dK f g|none=>aD) (dX e o s l λR l s=>nk pC s λr s=>match r with|(x,l')=>o.L g R l x l'->lk l' λl=>k (.d x) l s)
theorem QAE {g i} (h:hj es Es):bc (E.kA g i es) (X.kA g i Es):=⟨λq f=>gj λc=>(qZ h).r (λr=>q ⟨YQ c,r⟩) λO O O q=>qW λO O r=>oX<|f _ _ _ λs=>q<|.mk r s⟩
def X.bi (b:Bi) (e:List XE):XE:=λo s l k=>lX e o s l λv l s=>mw pD (cy (aR l) b v) s λd s=>k (.d d) l s
theorem Z7 {b} (h:hj es Es):bc (E.bi b es) (X.bi b Es):=⟨λq f=>(GB h).r q λO O O q=>mr q λO O=>f _ _ _⟩
theorem GS {α:Type} {x:Option α} (h:x.isSome=aC): ∃a,x=aA a:=by cases x;show dP h;show ⟨_,rfl⟩
def QT (m:Sm) (v:V):Bool:=match m with|.bits=>(jU v).isSome|_=>(zg v).isSome
theorem Xi {m v} (h:QT m v=aC):Fg m v:=by
 induction m with
 |bits=>show (GS h).imp λO=>wj
 |_=>show (GS h).imp λO=>QX
def X.sm (m:Sm) (A:XE) (e:List XE):XE:=λo s l k=>A o s l λu l s=>gc (QT m u)<|lX e o s l λv l s=>mw pD (j8 (aR l) m u v) s λd s=>k (.d d) l s
theorem Xj {m} (s:bc a A) (h:hj es Es):bc (E.sm m a es) (X.sm m A Es):=⟨λq f=>s.r q λO O O q=>gj λc=>(GB h).r (λr=>q ⟨Xi c,r⟩) λO O O q=>mr q λO O=>f _ _ _⟩
def X.sU (A:XE) (y z:aN):XE:=λo s l k=>A o s l λu l s=>cz (zg u) (λx=>gc (dK y.length 1 && dK z.length 0)<|x.length<=4096->k (.d<|aI<|EX x y z) l s) True
theorem QAI {y z} (s:bc a A):bc (E.sU a y z) (X.sU A y z):=⟨λq f=>s.r q λO O O q=>dh q λO q=>gj λc h=>f _ _ _ λr=>q<|mA h (vp (iH.mp c).1) (vp (iH.mp c).2) r⟩
def X.ig (n:Bool) (A:XE):XT:=λo s l k=>A o s l λu l s=>cz (ll u) (λd=>nk pB s λb s=>match b with|true=>d=br->k (aC !=n) l s|false=>d≠br->k (aD !=n) l s) True
theorem P9 {d:aM} {k:Bool->Hs->Prop} {p q:Prop} (h:d=br/\p\/d≠br/\q->P) (f: ∀hs,(p->P)->k aC hs) (g: ∀hs,(q->P)->k aD hs):nk pB hs λb hs=>match b with|true=>d=br->k aC hs|false=>d≠br->k aD hs:=qW λb hs=>by
 cases b
 ·show λe=>g _ λr=>h<|.inr ⟨e,r⟩
 ·show λe=>f _ λr=>h<|.inl ⟨e,r⟩
theorem WJ {n} (s:bc a A):bc (T.ig n a) (X.ig n A):=⟨λ{o hs l K k P} q f=>s.r q λO l O q=>dh q λd q=>P9 (k:=λb hs=>k (b !=n) l hs) q (λO=>f _ _ _) λO=>f _ _ _⟩
theorem QDy {n} (s:bc a A):bc (E.ig n a) (X.ofT<|X.ig n A):=⟨λ{o hs l K k P} q f=>s.r q λO l O q=>dh q λd q=>P9 (k:=λb hs=>k (.d<|fI<|b !=n) l hs) q (λO=>f _ _ _) λO=>f _ _ _⟩
def X.rg (A:XE):XE:=λo s l k=>A o s l λu l s=>cz (jU u) (λi=>k (.d<|fI<|o.b1 i) l s) True
theorem Uu (s:bc a A):bc (E.rg a) (X.rg A):=⟨λq f=>s.r q λO O O q=>dh q λO=>f _ _ _⟩
def X.si (A:XE):XE:=λo s l k=>A o s l λu l s=>cz (jU u) (λi=>k (.d<|o.b3 i) l s) True
theorem Va (s:bc a A):bc (E.si a) (X.si A):=⟨λq f=>s.r q λO O O q=>dh q λO=>f _ _ _⟩
def X.sG (x:aN):XE:=λo s l k=>mw pI (o.gi x) s λi s=>k (.d<|aB i) l s
theorem QDi {x}:bc (E.sG x) (X.sG x):=⟨λq f=>mr q λO O=>f _ _ _⟩
def GJ (v:V):Bool:=match v with|.inst=>aC|_=>aD
theorem PT {p:Prop} (h:GJ v=aC) (r:p):Bg v p:=by cases v<;>first|show r|(show dP h)
def pH:Hn->Option (aM×List aM)|.h x l=>aA (x,l)|_=>aE
def uO (s:Sl):Bool:=match s with|.emp=>aC|_=>aD
theorem AD (h:uO s=aC):s=eC:=by cases s<;>first|rfl|(show dP h)
def vJ (s:Sl):Bool:=match s with|.inst=>aC|_=>aD
theorem xd (h:vJ s=aC):s=jy:=by cases s<;>first|rfl|(show dP h)
def X.kZ (m:Nat) (A:XE) (e:List XE):XE:=λo s l k=>A o s l λu l s=>gc (GJ u)<|dX e o s l λR l s=>cz (jW<|aR l bC) (λH=>gc (uO<|aR l cG) (nk pH s λr s=>match r with|(x,H')=>o.H m R H x H'->iV l bC (bg H') λl=>k (.d x) l s)) True
theorem Pw {m} (Q:bc a A) (h:hj es Es):bc (E.kZ m a es) (X.kZ m A Es):=⟨λq f=>Q.r q λO O O q=>gj λc=>(qZ h).r (λr=>q<|PT c r) λO O O q=>dh q λO q=>gj λc=>qW λO O r=>jq<|f _ _ _ λs=>q ⟨AD c,.mk r s⟩⟩
def X.ly (m:Nat) (A:XE) (e:List XE):XE:=λo s l k=>A o s l λu l s=>gc (GJ u)<|dX e o s l λx l s=>cz (jW<|aR l bC) (λH=>mw pD (o.R m x H) s λz s=>k (.d z) l s) True
theorem Ph {m} (s:bc a A) (h:hj es Es):bc (E.ly m a es) (X.ly m A Es):=⟨λq f=>s.r q λO O O q=>gj λc=>(qZ h).r (λr=>q<|PT c r) λO O O q=>dh q λO q=>mr q λO O=>f _ _ _⟩
def X.conv (b:Bool) (A:XE):XE:=λo s l k=>gc (vJ<|aR l 0)<|A o s l λu l s=>cz (zg u) (λx=>gU b x=aC->k (.d<|aI x) l s) True
theorem VG {b} (s:bc a A):bc (E.conv b a) (X.conv b A):=⟨λq f=>gj λc=>s.r (λr=>q ⟨xd c,r⟩) λO O O q=>dh q λO q e=>f _ _ _ λr=>q ⟨e,r⟩⟩
def X.gL:XE:=λO s l k=>gc (vJ<|aR l 0)<|k (tL bC) l s
theorem TO:bc E.gL X.gL:=⟨λq f=>gj λc=>f _ _ _ λr=>q ⟨xd c,r⟩⟩
def X.not (Y:XT):XT:=λo s l k=>Y o s l λb l s=>k (!b) l s
theorem QDE (a:bc t Y):bc (T.not t) (X.not Y):=⟨λq f=>a.r q λO O O=>f _ _ _⟩
def Hk (l:Ls) (v:V) (hs:Hs) (k:Bool->Hs->Prop):Prop:=match v with
 |.d (.bool b)=>k b hs
 |.d (.int i)=>k (i !=0) hs
 |v=>mw pB (oz (aR l) v) hs k
theorem MG {K:Bool->Prop} {k:Bool->Hs->Prop} (h:er (oz (aR l) v) K->P) (f: ∀a hs,(K a->P)->k a hs):Hk l v hs k:=by
 induction v with
 |d x=>cases x with
  |bool b=>show f _ _ λq=>h<|.mk .bool q
  |int i=>show f _ _ λq=>h<|.mk .int q
  |_=>show mr h f
 |_=>show mr h f
def X.MF (i:Nat):XT:=λO s l k=>cz (lz (aR l) i) (λv=>Hk l v s λb s=>k b l s) True
theorem QEg {i}:bc (T.bL i) (X.MF i):=⟨λq f=>dh q λO q=>MG q λO O=>f _ _ _⟩
def MD:aM->Option Bool|.bool b=>aA b|_=>aE
theorem QAP {b} (h:MD d=aA b):d=fI b:=by cases d<;>cases h;rfl
def X.gK (n b:Bool) (A:XE):XT:=λo s l k=>A o s l λu l s=>cz (ll u) (λd=>cz (MD d) (λc=>k ((c==b) !=n) l s) True) True
theorem xn {α:Type} {x:Option α} {k:α->Prop} (f: ∀a,x=aA a->k a):cz x k True:=by cases x;show trivial;show f _ rfl
theorem QFS {n b} (s:bc a A):bc (T.gK n b a) (X.gK n b A):=⟨λq f=>s.r q λO O O q=>dh q λO q=>xn λO e=>f _ _ _ λr=>q<|bJ _ (QAP e) r⟩
def X.LB (A:XE):XT:=λo s l k=>A o s l λu l s=>cz (jU u) (λO=>k aD l s) True
theorem XM (s:bc a A):bc (T.rZ a) (X.LB A):=⟨λq f=>s.r q λO O O q=>dh q λO=>f _ _ _⟩
end
section
variable {P:Prop}
noncomputable def Af (n:Int):Bool:=decide (n<2^24) && decide (-(2^24)<n)
theorem xN (h:Af n=aC):n<2^24/\ -(2^24)<n:=⟨iD (iH.mp h).1,iD (iH.mp h).2⟩
def n5 {α:Type} (o:Option α) (k:α->Prop):Prop:=o.rec True k
theorem pS {α:Type} {o:Option α} {k:α->Prop} (f: ∀a,o=aA a->k a):n5 o k:=by
 revert f;induction o with
 |none=>show λO=>trivial
 |some a=>show λf=>f a rfl
noncomputable def Ce {α:Type} (l:List α):Option α:=l.rec aE λa t O=>t.rec (aA a) λO O O=>aE
theorem Gn {α:Type} {l:List α} {a:α} (h:Ce l=aA a):l=[a]:=by
 revert h;induction l with
 |nil=>show λh=>bM h
 |cons b t _=>induction t with
  |nil=>show λh=>QIh (· ::[])<|kj h
  |cons _ _ _=>show λh=>bM h
def CN {α:Type} (l:List α):Option (α×α):=l.rec aE λa t O=>(Ce t).map λb=>(a,b)
theorem Gq {α:Type} {l:List α} {a:α×α} (h:CN l=aA a):l=[a.1,a.2]:=by
 revert h;induction l with
 |nil=>show λh=>bM h
 |cons b t _=>show λh=>(nE.mp h).elim λc q=>q.2▸QIh (b:: ·) (Gn q.1)
noncomputable def vY (d:aM):Option Int:=d.casesOn (motive_1:=λO=>Option Int) aE (λO=>aE) (λn=>aA n) (λO=>aE) (λO=>aE) (λO=>aE) λO=>aE
theorem xq:vY d=aA n->d=aB n:=d.casesOn (λh=>bM h) (λO h=>bM h) (λO h=>QIh aB<|kj h) (λO h=>bM h) (λO h=>bM h) (λO h=>bM h) λO h=>bM h
noncomputable def Qj (d:aM):Option (List aM):=d.casesOn (motive_1:=λO=>Option<|List aM) aE (λO=>aE) (λO=>aE) (λO=>aE) (λO=>aE) (λO=>aE) λn=>aA n
theorem Zl:Qj d=aA n->d=aK n:=d.casesOn (λh=>bM h) (λO h=>bM h) (λO h=>bM h) (λO h=>bM h) (λO h=>bM h) (λO h=>bM h) λO h=>QIh aK<|kj h
def in1 (xs:List aM) (k:Int->Prop):Prop:=n5 (Ce xs) λd=>n5 (vY d) k
theorem Zo {k:Int->Prop} (f: ∀n,xs=[aB n]->k n):in1 xs k:=pS λO e=>pS λn C=>f n<|xq C▸Gn e
def OQ (xs:List aM) (k:Int->Int->Prop):Prop:=n5 (CN xs) λp=>n5 (vY p.1) λm=>n5 (vY p.2) λn=>k m n
theorem Zd {k:Int->Int->Prop} (f: ∀m n,xs=[aB m,aB n]->k m n):OQ xs k:=pS λO e=>pS λm C=>pS λn p=>f m n<|xq C▸xq p▸Gq e
def X.fv (A:XE):XI:=λo O s l k=>dX [A] o s l λd l s=>in1 d λn=>Af n=aC->k ((cg n.toNat).map λ(i:Nat)=>aB (i:Int)) l s
theorem Xe (s:bc a A):sD (I.fv a) (X.fv A):=⟨λq f=>(qZ<|.cons s .nil).r q λO O O q=>Zo λn e c=>f _ _ _ λr=>q<|ij n e ((xN c).1) ((xN c).2) r⟩
def X.rm (A B:XE):XI:=λo O s l k=>dX [A,B] o s l λd l s=>OQ d λm n=>Af n=aC->Af m=aC->k ((cg (n - m).toNat).map λ(i:Nat)=>aB<|m+(i:Int)) l s
theorem QBi (s:bc a A) (hb:bc b B):sD (I.rm a b) (X.rm A B):=⟨λq f=>(qZ<|.cons s<|.cons hb .nil).r q λO O O q=>Zd λm n e c d=>f _ _ _ λr=>q<|vc m n e ((xN c).1) ((xN c).2) ((xN d).1) ((xN d).2) r⟩
def inl (xs:List aM) (k:List aM->Prop):Prop:=n5 (Ce xs) λd=>n5 (Qj d) k
theorem WQ {k:List aM->Prop} (f: ∀n,xs=[aK n]->k n):inl xs k:=pS λO e=>pS λn C=>f n<|Zl C▸Gn e
def X.rev (A:XE):XI:=λo O s l k=>dX [A] o s l λd l s=>inl d λx=>k x.reverse l s
theorem QEV (s:bc a A):sD (I.rev a) (X.rev A):=⟨λq f=>(qZ<|.cons s .nil).r q λO O O q=>WQ λn e=>f _ _ _ λr=>q<|bJ n e r⟩
def Iy:aM->Option (List aM)|.list xs=>aA xs|.tuple xs=>aA xs|.str x=>aA (sF x)|_=>aE
theorem OT {xs} (h:Iy d=aA xs):xW r (.d d) xs:=by
 cases d with
 |list x=>cases h;show .q<|.l .d
 |tuple x=>cases h;show .q .t
 |str x=>cases h;show .s
 |_=>show bM h
def X.HL (i:Nat):XI:=λO f s l k=>match aR l i with
 |.val x=>cz (Iy x) (λR=>k R l s) True
 |.own R=>gc (!f)<|k R l s
 |_=>True
theorem VV {i}:sD (I.bL i) (X.HL i):=⟨λ{o f s l K k P} q g=>by
 unfold I.bL at q;unfold X.HL;induction h:aR l i with
 |val x=>rw[h] at q;show xn λR e=>g _ _ _ λr=>q<|.mk (OT e) r
 |own R=>rw[h] at q;show gj λc=>g _ _ _ λr=>q ⟨(s9 _).mp c,r⟩
 |_=>show trivial⟩
def X.m9 (A:XE):XI:=λo O s l k=>A o s l λv l s=>cz (ll v) (λd=>cz (Iy d) (λx=>k x l s) True) True
theorem UN (s:bc a A):sD (I.m9 a) (X.m9 A):=⟨λq f=>s.r q λO O O q=>dh q λO q=>xn λO e=>f _ _ _ λr=>q<|.mk (OT e) r⟩
def X.KO:XI:=λO f s l k=>gc (vJ<|aR l 0)<|gc (!f|| !uO (aR l cG)) (cz (jW (aR l bC)) (λx=>k x l s) True)
theorem F_ (d:(!f|| !uO s)=true) (e:f=true) (h:s=Sl.emp):False:=by rw[e,h] at d;show dP d
theorem Ue:sD I.gL X.KO:=⟨λq g=>gj λc=>gj λd=>dh (λr=>q ⟨xd c,F_ d,r⟩) λO=>g _ _ _⟩
def X.asg (t:cB) (A:XE):XS:=λo s l k=>A o s l λv l s=>cz (ll v) (λx=>CO t x l λl=>k dE l s) True
theorem B0 {tg} (s:bc a A):bc (S.asg tg a) (X.asg tg A):=⟨λq f=>s.r q λO O O q=>dh q λO q=>Hz q λO=>f _ _ _⟩
def HD:aM->Option (List aM)|.list xs=>aA xs|_=>aE
theorem OU {xs} (h:HD d=aA xs):d=aK xs:=by cases d<;>cases h;rfl
def X.own (i:Nat) (A:XE):XS:=λo s l k=>A o s l λv l s=>cz (ll v) (λx=>cz (HD x) (λR=>iV l i (bg R) λl=>k dE l s) True) True
theorem Z3 {i} (s:bc a A):bc (S.own i a) (X.own i A):=⟨λq f=>s.r q λO O O q=>dh q λO q=>xn λO e=>jq<|f _ _ _ λr=>q<|bJ _ (OU e) r⟩
def Lq (op:jY) (a b:Int) (k:Int->Prop):Prop:=match op with
 |.Add=>k<|a+b
 |.Sub=>k<|a - b
 |.LShift=>0<=b->(ib a:Int)+b<=134217728->k (a*2^b.toNat)
 |.RShift=>0<=b->k (a.fdiv<|2^b.toNat)
 |_=>True
theorem Xm {K k:Int->Prop} (h:FV op a b K->P) (f: ∀c,(K c->P)->k c):Lq op a b k:=by
 induction op with
 |Add=>show f _ h
 |Sub=>show f _ h
 |LShift=>show λc d=>f _ λq=>h ⟨c,d,q⟩
 |RShift=>show λc=>f _ λq=>h ⟨c,q⟩
 |_=>show trivial
def X.aug (i:Nat) (op:jY) (A:XE):XS:=λo s l k=>cz (HV<|aR l i) (λa=>A o s l λv l s=>cz (jU v) (λb=>Lq op a b λc=>iV l i (aQ<|aB c) λl=>k dE l s) True) True
theorem QEw {i op} (s:bc a A):bc (S.aug i op a) (X.aug i op A):=⟨λq f=>dh q λO q=>s.r q λO O O q=>dh q λO q=>Xm q λO q=>jq<|f _ _ _ q⟩
def Ke:aM->Bool|.none=>aC|.str _=>aC|_=>aD
theorem QBL (h:Ke d=aC):d=br\/ ∃y,d=aI y:=by cases d<;>first|show .inl rfl|show .inr ⟨_,rfl⟩|(show dP h)
def X.expr (A:XE):XS:=λo s l k=>A o s l λv l s=>cz (ll v) (λx=>gc (Ke x)<|k dE l s) True
theorem QFa (s:bc a A):bc (S.expr a) (X.expr A):=⟨λq f=>s.r q λO O O q=>dh q λO q=>gj λc=>f _ _ _ λr=>q ⟨QBL c,r⟩⟩
def X.app (i:Nat) (A:XE):XS:=λo s l k=>cz (jW<|aR l i) (λO=>A o s l λv l s=>cz (ll v) (λx=>cz (jW<|aR l i) (λR=>R.length<16777216->iV l i (bg<|R++[x]) λl=>k dE l s) True) True) True
theorem Xb {i} (s:bc a A):bc (S.app i a) (X.app i A):=⟨λq f=>dh q λO q=>s.r q λO O O q=>dh q λO q=>dh q λO q c=>jq<|f _ _ _ λr=>q ⟨c,r⟩⟩
def X.qe (A:XE):XS:=λo s l k=>gc (vJ<|aR l 0)<|cz (jW<|aR l bC) (λO=>A o s l λv l s=>cz (ll v) (λx=>cz (jW<|aR l bC) (λR=>gc (uO<|aR l cG)<|R.length<16777216->iV l bC (bg<|R++[x]) λl=>k dE l s) True) True) True
theorem Vr (s:bc a A):bc (S.qe a) (X.qe A):=⟨λq f=>gj λc=>dh (λr=>q ⟨xd c,r⟩) λO q=>s.r q λO O O q=>dh q λO q=>dh q λO q=>gj λc d=>jq<|f _ _ _ λr=>q ⟨AD c,d,r⟩⟩
def X.rT (A:XE):XS:=λo s l k=>A o s l λv l s=>cz (ll v) (λx=>cz (HD x) (λY=>gc (vJ<|aR l 0)<|cz (jW<|aR l bC) (λR=>gc (uO<|aR l cG)<|R.length+Y.length<=16777216->iV l bC (bg Y) λl=>k dE l s) True) True) True
theorem YX (s:bc a A):bc (S.rT a) (X.rT A):=⟨λq f=>s.r q λO O O q=>dh q λO q=>xn λO e=>gj λc=>dh (λr=>q<|fw _ (OU e) (xd c) r) λO q=>gj λc d=>jq<|f _ _ _ λr=>q ⟨AD c,d,r⟩⟩
def X.sS (i:Nat):XS:=λO s l k=>cz (jW<|aR l i) (λx=>x.length<=16777216->iV l i (bg x.reverse) λl=>k dE l s) True
theorem Zf {i}:bc (S.sS i) (X.sS i):=⟨λq f=>dh q λO q c=>jq<|f _ _ _ λr=>q ⟨c,r⟩⟩
def X.set (i:Nat) (B A:XE):XS:=λo s l k=>A o s l λv l s=>cz (ll v) (λx=>cz (jW<|aR l i) (λO=>B o s l λj l s=>cz (jU j) (λj=>cz (jW<|aR l i) (λR=>0<=j->j<R.length->R.length<2^63->iV l i (bg<|R.set j.toNat x) λl=>k dE l s) True) True) True) True
theorem Uy {i} (hb:bc b B) (s:bc a A):bc (S.set i b a) (X.set i B A):=⟨λq f=>s.r q λO O O q=>dh q λO q=>dh q λO q=>hb.r q λO O O q=>dh q λO q=>dh q λO q c d e=>jq<|f _ _ _ λr=>q<|mA c d e r⟩
def Lp (s:Sl):Bool:=match s with|.unb=>aC|_=>aD
theorem Xg (h:Lp s=aC):s=.unb:=by cases s<;>first|rfl|(show dP h)
def X.ri (b m:Nat):XS:=λO s l k=>cz (jW<|aR l m) (λx=>gc (Lp<|aR l bC)<|x.all vg=aC->iV l bC (bg x) λl=>iV l cG eC λl=>iV l m (.ali bC) λl=>iV l b jy λl=>k dE l s) True
theorem Zb {b m}:bc (S.ri b m) (X.ri b m):=⟨λq f=>dh q λO q=>gj λc d=>jq<|jq<|jq<|jq<|f _ _ _ λr=>q ⟨Xg c,d,r⟩⟩
def X.qx (b:Nat) (A:XE):XS:=λo s l k=>gc (vJ<|aR l b)<|A o s l λv l s=>cz (ll v) (λx=>cz (jW<|aR l bC) (λH=>gc (uO<|aR l cG) (nk pH s λr s=>match r with|(y,H')=>o.H 9 [x] H y H'->iV l bC (bg H') λl=>k dE l s)) True) True
theorem U9 {b} (Q:bc a A):bc (S.qx b a) (X.qx b A):=⟨λq f=>gj λc=>Q.r (λr=>q ⟨xd c,r⟩) λO O O q=>dh q λO q=>dh q λO q=>gj λc=>qW λO O r=>jq<|f _ _ _ λs=>q ⟨AD c,.mk r s⟩⟩
def X.cx (Y:XT) (Q W:List XS):XS:=λo s l k=>Y o s l λz l s=>w4 z s (λs=>sX Q o s l k) λs=>sX W o s l k
theorem Zr (a:bc t Y) (A:hj ss Ss) (hb:hj sr Sr):bc (S.cx t ss sr) (X.cx Y Ss Sr):=⟨λq f=>a.r q λO O O q=>zS q (λO q=>(ry A).r q f) λO q=>(ry hb).r q f⟩
def pF:Hn->Option (Fl×Ls)|.f x l=>aA (x,l)|_=>aE
def X.gH (t:cB) (J:XI) (ss:List S):XS:=λo s l k=>J o aC s l λx l s=>nk pF s λr s=>match r with|(f,l')=>(∀K:Fl->Ls->Prop,K f l'->fW t ss o x l K)->lk l' λl=>k f l s
theorem ZC {tg} (i:sD it J):bc (S.gH tg it ss) (X.gH tg J ss):=⟨λq f=>i.r q λO O O q=>qW λO O r=>oX<|f _ _ _ λs=>q<|r _ s⟩
def X.r9 (t:T) (ss:List S):XS:=λo s l k=>nk pF s λr s=>match r with|(f,l')=>(∀K:Fl->Ls->Prop,K f l'-> ∃n,wW t ss o n l K)->lk l' λl=>k f l s
theorem VP:bc (S.r9 t ss) (X.r9 t ss):=⟨λq f=>qW λO O r=>oX<|f _ _ _ λs=>q<|r _ s⟩
def QM (l:Ls) (v:V):Option Dat:=match v with|.d x=>aA x|.bor i=>bif dK i bC then aE else (jW<|aR l i).map aK|_=>aE
theorem VZ {d} (h:QM l v=aA d):yu (aR l) v d:=by
 induction v with
 |d x=>cases h;show .d
 |bor i=>
  have h:(bif dK i bC then aE else (jW<|aR l i).map aK)=aA d:=h;induction e:dK i bC with
  |true=>rw[e] at h;show bM h
  |false=>
   rw[e] at h;induction q:jW (aR l i) with
   |none=>rw[q] at h;show bM h
   |some R=>rw[q] at h;cases h;show .bor (λr=>by rw[r] at e;show nomatch e)<|Od q
 |_=>show bM h
def X.LW (A:XE):XS:=λo s l k=>A o s l λv l s=>cz (QM l v) (λx=>k (ui x) l s) True
theorem QDe (s:bc a A):bc (S.ret<|aA a) (X.LW A):=⟨λq f=>s.r q λO O O q=>xn λO e=>f _ _ _ λr=>q<|.mk (VZ e) r⟩
def X.B8:XS:=λO s l k=>k (ui br) l s
theorem QEx:bc (S.ret aE) X.B8:=⟨λq f=>f _ _ _ q⟩
def X.cont:XS:=λO s l k=>k KG l s
theorem QEk:bc S.cont X.cont:=⟨λq f=>f _ _ _ q⟩
def X.defn (i g:Nat):XS:=λO s l k=>iV l i (.clo g) λl=>k dE l s
theorem QAr {i g}:bc (S.defn i g) (X.defn i g):=⟨λq f=>jq<|f _ _ _ q⟩
def Mm (l:List aM):Option (aM×aM×aM):=l.casesOn (motive:=λO=>Option<|aM×aM×aM) aE λa t=>(CN t).map λb=>(a,b)
theorem Yb (h:Mm l=aA a):l=[a.1,a.2.1,a.2.2]:=by
 revert h;induction l with
 |nil=>show λh=>bM h
 |cons b t _=>show λh=>(nE.mp h).elim λc q=>q.2▸QIh (b:: ·) (Gq q.1)
def PR (xs:List aM) (k:Int->Prop):Prop:=n5 (Mm xs) λd=>n5 (vY d.1) λn=>n5 (vY d.2.1) λm=>n5 (vY d.2.2) λp=>gc (decide (m=5) && decide (p=2048))<|k n
theorem XB {k:Int->Prop} (f: ∀n,xs=[aB n,aB 5,aB 2048]->k n):PR xs k:=pS λO e=>pS λn x=>pS λm C=>pS λp u=>gj λc=>f n<|xq x▸(iD (iH.mp c).1▸xq C)▸(iD (iH.mp c).2▸xq u)▸Yb e
def X.rQ (i:Nat) (e:List XE):XS:=λo s l k=>dX e o s l λx l s=>PR x λn=>n<=2048->0<=n->iV l i eC λl=>k dE l s
theorem YK {i} (h:hj es Es):bc (S.rQ i es) (X.rQ i Es):=⟨λq f=>(qZ h).r q λO O O q=>XB λn e c d=>jq<|f _ _ _ λr=>q<|ij n e c d r⟩
def X.rU (i:Nat):XS:=λO s l k=>gc (uO<|aR l i)<|k dE l s
theorem QDQ {i}:bc (S.rU i) (X.rU i):=⟨λq f=>gj λc=>f _ _ _ λr=>q ⟨AD c,r⟩⟩
def X.stuck:XS:=λO O O O=>True
theorem VU:bc S.stuck X.stuck:=⟨λO O=>trivial⟩
end
noncomputable def uw {R:Type} (o:R) (d:List (Option p9)->List p9->cA->R) (c0:Const->R) (s:R) (n:aN->cA->R) (x:p9):R:=x.casesOn (motive_1:=λO=>R) (λO O O=>o) (λO O O=>o) (λO O O O=>o) (λO O O=>o) (λO O O O=>o) (λO O O O=>o) (d) (λO O O=>o) (λO O O O=>o) (λO O O O=>o) (λO O O O O=>o) (λO O O O=>o) (λO O=>o) (λO O=>o) (λO O=>o) (λO O O O=>o) (λO O O O=>o) (λO O O O=>o) (λO O=>o) (λc O O=>c0 c) (λO O O=>o) (λO O O=>o) (λO O=>s) (n) (λO O=>o) (λO O O=>o) λO O O O=>o
noncomputable def CV {R:Type} (o:R) (f:Arguments->List eT->kM->R) (c:List eT->R) (a:p9->R) (x:eT):R:=x.casesOn (motive_2:=λO=>R) (λO a b O O O s O O O=>f a b s) (λO O O O O O O O O O=>o) (λO O O b O O O O O O O=>c b) (λO O=>o) (λO O=>o) (λO v O=>a v) (λO O O O O O O=>o) (λO O O O=>o) (λO O O O O=>o) (λO O O O O=>o) (λO O O O O=>o) (λO O O O=>o) (λO O O O=>o) (λO O O=>o) (λO O O=>o) (λO O O=>o) (λO O O=>o) (λO O O O O=>o) (λO O O O O=>o) (λO O O=>o) (λO O=>o) (λO O O O=>o) (λO O=>o) (λO O=>o) (λO O=>o) (λO=>o) (λO=>o) λO=>o
namespace B01
def LA:eT->Arguments:=CV {posonlyargs:=[],args:=[],vararg:=aE,kwonlyargs:=[],kw_defaults:=[],kwarg:=aE,defaults:=[]} (λa O O=>a) (λO=>{posonlyargs:=[],args:=[],vararg:=aE,kwonlyargs:=[],kw_defaults:=[],kwarg:=aE,defaults:=[]}) λO=>{posonlyargs:=[],args:=[],vararg:=aE,kwonlyargs:=[],kw_defaults:=[],kwarg:=aE,defaults:=[]}
def gV:eT->List Stmt:=CV [] (λO b O=>b) (λb=>b) λO=>[]
def dN:eT->Scope:=CV {kind:=gy,names:=[],isGenerator:=aD,isCoroutine:=aD,more:=[]} (λO O s=>s) (λO=>{kind:=gy,names:=[],isGenerator:=aD,isCoroutine:=aD,more:=[]}) λO=>{kind:=gy,names:=[],isGenerator:=aD,isCoroutine:=aD,more:=[]}
noncomputable def AX (l:List eT):Nat->eT
 |0=>match l with|s::_=>s|[]=>RX default
 |n+1=>match l with|_::r=>AX r n|[]=>RX default
noncomputable abbrev pg:Program:=QIc
def bz (i:Nat):Stmt:=AX pg.main.body i
def eX (i j:Nat):Stmt:=AX (gV<|bz i) j
end B01
theorem QCy {α:Type} {o:Option α} {p:α->Bool} (h:o.any p=aC): ∃a,o=aA a/\p a=true:=by
 induction o with
 |none=>show dP h
 |some a=>show (bJ a rfl h)
theorem aF (h:(a && b)=aC):a=aC/\b=true:=iH.mp h
inductive Kd|no|name|const|aL|un|cmp|eH|ite|list|tup|comp|sub|d9|call|attr
def Kd.num:Kd->Nat|.no=>0|.name=>1|.const=>2|.aL=>3|.un=>4|.cmp=>5|.eH=>6|.ite=>7|.list=>8|.tup=>9|.comp=>10|.sub=>11|.d9=>12|.call=>13|.attr=>14
def Kd.of:Nat->Kd|1=>.name|2=>.const|3=>.aL|4=>.un|5=>.cmp|6=>.eH|7=>.ite|8=>.list|9=>.tup|10=>.comp|11=>.sub|12=>.d9|13=>.call|14=>.attr|_=>.no
theorem Kd.AU (k:Kd):Kd.of k.num=k:=by induction k<;>rfl
theorem Kd.eq {a b:Kd} (h:dK a.num b.num=aC):a=b:=dA a.AU<|dA b.AU<|sb (Nat.eq_of_beq_eq_true h) rfl
noncomputable abbrev x0:Expr:=fY ko 0 default
structure Nd where
 t:Kd:=.no
 a:Expr:=x0
 b:Expr:=x0
 c:Expr:=x0
 es:List Expr:=[]
 nm:Str:=⟨#[]⟩
 op:Operator:=bV
 uo:UnaryOp:=El
 bo:BoolOp:=mR
 os:List CmpOp:=[]
 cs:Const:=ko
 k:Nat:=0
 oa:Option Expr:=aE
 ob:Option Expr:=aE
 oc:Option Expr:=aE
 ks:List Keyword:=[]
 gs:List Comprehension:=[]
 sc:Scope:={kind:=gy,names:=[],isGenerator:=aD,isCoroutine:=aD,more:=[]}
 p:Pos:=default
def nd (x:az):Nd:=x.casesOn (motive_1:=λO=>Nd) (λo es p=>{t:=.eH,bo:=o,es,p}) (λO O O=>{}) (λa o b p=>{t:=.aL,a,b,op:=o,p}) (λo a p=>{t:=.un,uo:=o,a,p}) (λO O O O=>{}) (λa b c p=>{t:=.ite,a,b,c,p}) (λO O O=>{}) (λO O O=>{}) (λa gs sc p=>{t:=.comp,a,gs,sc,p}) (λO O O O=>{}) (λO O O O O=>{}) (λO O O O=>{}) (λO O=>{}) (λO O=>{}) (λO O=>{}) (λa os es p=>{t:=.cmp,a,os,es,p}) (λa es ks p=>{t:=.call,a,es,ks,p}) (λO O O O=>{}) (λO O=>{}) (λc k p=>{t:=.const,cs:=c,k,p}) (λa nm p=>{t:=.attr,a,nm,p}) (λa b p=>{t:=.sub,a,b,p}) (λO O=>{}) (λn p=>{t:=.name,nm:=n,p}) (λes p=>{t:=.list,es,p}) (λes k p=>{t:=.tup,es,k,p}) λoa ob oc p=>{t:=.d9,oa,ob,oc,p}
def Nd.mk' (n:Nd):Expr:=match n.t with
 |.no=>x0
 |.name=>bf n.nm n.p
 |.const=>fY n.cs n.k n.p
 |.aL=>Q6 n.a n.op n.b n.p
 |.un=>A5 n.uo n.a n.p
 |.cmp=>qz n.a n.os n.es n.p
 |.eH=>Ek n.bo n.es n.p
 |.ite=>Q8 n.a n.b n.c n.p
 |.list=>JF n.es n.p
 |.tup=>oO n.es n.k n.p
 |.comp=>v3 n.a n.gs n.sc n.p
 |.sub=>tB n.a n.b n.p
 |.d9=>Em n.oa n.ob n.oc n.p
 |.call=>du n.a n.es n.ks n.p
 |.attr=>hH n.a n.nm n.p
theorem zc (x:az):(nd x).t=.no\/x=(nd x).mk':=by cases x<;>first|show .inr rfl|show .inl rfl
def on (x:az) (k:Kd) (b:Nd->Bool):Bool:=dK (nd x).t.num k.num && b (nd x)
theorem W4 {x:az} {k:Kd} {b:Nd->Bool} (h:on x k b=aC) (K:k≠ .no): ∃n,n.t=k/\x=n.mk'/\b n=true:=by show bP (aF h) λH i=>?_;have e:=Kd.eq H;show (fw _ e ((zc x).elim (λq=>QIe (e.symm.trans q) K) id) i)
theorem kh {P:az->Prop} {n:Nd} {k:Kd} (e:n.t=k) (h:P (Nd.mk' {n with t:=k})):P n.mk':=by induction e;show h
theorem mG {P:az->Prop} {k:Kd} (h:on x k b=aC) (K:k≠ .no) (f: ∀n,n.t=k->b n=aC->P n.mk'):P x:=eE (W4 h K) λn e q g=>q▸f n e g
inductive LM (k:aN->Bool):az->Prop|mk {n:Str} {p:Pos}:k n=true->LM k (Expr.Name n p)
def cL (x:az) (k:aN->Bool):Bool:=on x .name λn=>k n.nm
theorem gI {x:az} {k} (h:cL x k=aC):LM k x:=mG h nofun λn e h=>kh e<|.mk h
inductive QZ (k:Const->Bool):az->Prop|mk {c:Const} {m:Nat} {p:Pos}:k c=true->QZ k (Expr.Constant c m p)
def lH (x:az) (k:Const->Bool):Bool:=on x .const λn=>k n.cs
theorem xv {x:az} {k} (h:lH x k=aC):QZ k x:=mG h nofun λn e h=>kh e<|.mk h
inductive NX (k:az->jY->az->Bool):az->Prop|mk {a:Expr} {o:Operator} {b:Expr} {p:Pos}:k a o b=true->NX k (Expr.BinOp a o b p)
def yo (x:az) (k:az->jY->az->Bool):Bool:=on x .aL λn=>k n.a n.op n.b
theorem LZ {x:az} {k} (h:yo x k=aC):NX k x:=mG h nofun λn e h=>kh e<|.mk h
inductive Kw (k:UnaryOp->az->Bool):az->Prop|mk {o:UnaryOp} {a:Expr} {p:Pos}:k o a=true->Kw k (Expr.UnaryOp o a p)
def x7 (x:az) (k:UnaryOp->az->Bool):Bool:=on x .un λn=>k n.uo n.a
theorem ON {x:az} {k} (h:x7 x k=aC):Kw k x:=mG h nofun λn e h=>kh e<|.mk h
inductive Mg (k:az->List jF->List az->Bool):az->Prop|mk {a:Expr} {o:List CmpOp} {b:List Expr} {p:Pos}:k a o b=true->Mg k (Expr.Compare a o b p)
def Qa (x:az) (k:az->List jF->List az->Bool):Bool:=on x .cmp λn=>k n.a n.os n.es
theorem QFM {x:az} {k} (h:Qa x k=aC):Mg k x:=mG h nofun λn e h=>kh e<|.mk h
inductive P1 (k:mO->List az->Bool):az->Prop|mk {o:BoolOp} {es:List Expr} {p:Pos}:k o es=true->P1 k (Expr.BoolOp o es p)
def zq (x:az) (k:mO->List az->Bool):Bool:=on x .eH λn=>k n.bo n.es
theorem P8 {x:az} {k} (h:zq x k=aC):P1 k x:=mG h nofun λn e h=>kh e<|.mk h
inductive NS (k:az->az->az->Bool):az->Prop|mk {c:Expr} {a:Expr} {b:Expr} {p:Pos}:k c a b=true->NS k (Expr.IfExp c a b p)
def IG (x:az) (k:az->az->az->Bool):Bool:=on x .ite λn=>k n.a n.b n.c
theorem QAQ {x:az} {k} (h:IG x k=aC):NS k x:=mG h nofun λn e h=>kh e<|.mk h
inductive LO (k:List az->Bool):az->Prop|mk {es:List Expr} {p:Pos}:k es=true->LO k (Expr.List es p)
def wi (x:az) (k:List az->Bool):Bool:=on x .list λn=>k n.es
theorem Ln {x:az} {k} (h:wi x k=aC):LO k x:=mG h nofun λn e h=>kh e<|.mk h
inductive Mf (k:List az->Bool):az->Prop|mk {es:List Expr} {m:Nat} {p:Pos}:k es=true->Mf k (Expr.Tuple es m p)
def lY (x:az) (k:List az->Bool):Bool:=on x .tup λn=>k n.es
theorem Ao {x:az} {k} (h:lY x k=aC):Mf k x:=mG h nofun λn e h=>kh e<|.mk h
inductive L3 (k:az->List JZ->kM->Bool):az->Prop|mk {e:Expr} {gs:List Comprehension} {s:Scope} {p:Pos}:k e gs s=true->L3 k (Expr.ListComp e gs s p)
def xB (x:az) (k:az->List JZ->kM->Bool):Bool:=on x .comp λn=>k n.a n.gs n.sc
theorem Kh {x:az} {k} (h:xB x k=aC):L3 k x:=mG h nofun λn e h=>kh e<|.mk h
inductive LI (k:az->az->Bool):az->Prop|mk {a:Expr} {b:Expr} {p:Pos}:k a b=true->LI k (Expr.Subscript a b p)
def mZ (x:az) (k:az->az->Bool):Bool:=on x .sub λn=>k n.a n.b
theorem yr {x:az} {k} (h:mZ x k=aC):LI k x:=mG h nofun λn e h=>kh e<|.mk h
inductive QR (k:Option az->Option az->Option az->Bool):az->Prop|mk {a:Option Expr} {b:Option Expr} {c:Option Expr} {p:Pos}:k a b c=true->QR k (Expr.Slice a b c p)
def w8 (x:az) (k:Option az->Option az->Option az->Bool):Bool:=on x .d9 λn=>k n.oa n.ob n.oc
theorem PQ {x:az} {k} (h:w8 x k=aC):QR k x:=mG h nofun λn e h=>kh e<|.mk h
inductive PA (k:az->List az->List yL->cA->Bool):az->Prop|mk {f:Expr} {xs:List Expr} {ks:List Keyword} {p:Pos}:k f xs ks p=true->PA k (Expr.Call f xs ks p)
def zf (x:az) (k:az->List az->List yL->cA->Bool):Bool:=on x .call λn=>k n.a n.es n.ks n.p
theorem ID {x:az} {k} (h:zf x k=aC):PA k x:=mG h nofun λn e h=>kh e<|.mk h
inductive NZ (k:az->aN->cA->Bool):az->Prop|mk {a:Expr} {n:Str} {p:Pos}:k a n p=true->NZ k (Expr.Attribute a n p)
def um (x:az) (k:az->aN->cA->Bool):Bool:=on x .attr λn=>k n.a n.nm n.p
theorem HM {x:az} {k} (h:um x k=aC):NZ k x:=mG h nofun λn e h=>kh e<|.mk h
theorem IT {α:Type} {l:List α} (h:l.isEmpty=aC):l=[]:=E1.mp h
inductive Lw (k:aN->List az->Bool):az->Prop|mk {n:Str} {p:Pos} {xs:List Expr} {q:Pos}:k n xs=true->Lw k (Expr.Call (Expr.Name n p) xs [] q)
def iJ (x:az) (k:aN->List az->Bool):Bool:=zf x λf R K O=>K.isEmpty && cL f λn=>k n R
theorem sP {k} (h:iJ x k=aC):Lw k x:=by
 induction ID h with
 |mk g=>
  cases IT (aF g).1
  induction gI (aF g).2 with
  |mk g=>show .mk g
inductive KY (k:az->aN->cA->List az->cA->Bool):az->Prop|mk {a:Expr} {n:Str} {p:Pos} {xs:List Expr} {q:Pos}:k a n p xs q=true->KY k (Expr.Call (Expr.Attribute a n p) xs [] q)
def iA (x:az) (k:az->aN->cA->List az->cA->Bool):Bool:=zf x λf R K q=>K.isEmpty && um f λa n p=>k a n p R q
theorem ro {k} (h:iA x k=aC):KY k x:=by
 induction ID h with
 |mk g=>
  cases IT (aF g).1
  induction HM (aF g).2 with
  |mk g=>show .mk g
inductive Ky {α:Type} (k:α->Bool):List α->Prop|mk {a:α}:k a=true->Ky k [a]
def dk {α:Type} (l:List α) (k:α->Bool):Bool:=match l with|a::r=>r.isEmpty && k a|[]=>aD
theorem nu {α:Type} {l:List α} {k} (h:dk l k=aC):Ky k l:=by
 induction l with
 |nil=>show dP h
 |cons a r=>have g:(r.isEmpty && k a)=true:=h;cases IT (aF g).1;show .mk (aF g).2
def qc (x:az) (b:Kd->Bool):Bool:=b (nd x).t
def e9 (x:az):Bool:=qc x λk=> !dK k.num Kd.no.num
def Ct (x:az):Bool:=qc x λk=> !dK k.num Kd.no.num && !dK k.num Kd.d9.num
def jE (x:az):Bool:=qc x λk=> !dK k.num Kd.no.num && !dK k.num Kd.comp.num
theorem AZ (n:Nd):(∀xs env,gv (n.mk'::xs) env=(aD,dH n.mk' env)::gv xs env)/\(∀env x,JO n.mk' env x=pure x)/\(n.t=.d9\/ ∀o i,A0 n.mk' aD o i=A1 [o,i] (A2 o i))/\
 (n.t=.comp\/ ∀t l env,Ey n.mk' t l env=pure aD)/\(n.t=.call\/ ∀nm env w,yK n.mk' nm env w=w):=by
 unfold Nd.mk';cases n.t<;>show (DD (λO O=>rfl) (λO O=>rfl) (by first|show .inr λO O=>rfl|show .inl rfl) (by first|show .inr λO O O=>rfl|show .inl rfl) (by first|show .inr λO O O=>rfl|show .inl rfl))
theorem uA (h:e9 x=aC):x=(nd x).mk':=(zc x).elim (λq=>by unfold e9 qc at h;rw[q] at h;show dP h) id
theorem Aj (h:e9 x=aC) (xs:List az) (env:eB):gv (x::xs) env=(aD,dH x env)::gv xs env:=sb (uA h)<|(AZ _).1 _ _
def vh (xs:List az):Bool:=xs.all e9
theorem LR (h:vh (x::xs)=aC):e9 x=aC/\vh xs=true:=aF h
theorem sZ (h:vh xs=aC):Pl xs:=λenv p=>by
 induction xs with
 |nil=>rfl
 |cons x xs d=>have H:=(LR h);have A:=H.1;have i:=H.2;simp only[Aj A,GO];show d i
theorem YM (h:vh xs=aC) (env:eB) (pos:cA):(pq pos<|gv xs env).all (λx=> !x.1)=true:=by
 induction xs with
 |nil=>rfl
 |cons x xs d=>have H:=(LR h);have A:=H.1;have i:=H.2;simp only[Aj A,GO];show d i
theorem xO (h:e9 x=aC) (env:eB):gv [x] env=[(aD,dH x env)]:=Aj h [] env
theorem QFg (n:Nd) (y:az) (ys:List az) (ks:List yL) (p:cA) (nm:aN) (env:eB) (w:cM aO):yK (du n.mk' (y::ys) ks p) nm env w=w:=by unfold Nd.mk';cases n.t<;>rfl
def isAt (k:Kd):Bool:=dK k.num Kd.attr.num
def Om (x:az):Bool:=e9 x && (qc x λk=> !dK k.num Kd.call.num||(e9 (nd x).a && (!(nd x).es.isEmpty||isAt (nd (nd x).a).t)))
theorem UU {x:az} (h:Om x=aC) (nm:aN) (env:eB) (w:cM aO):yK x nm env w=w:=by
 show bP (aF h) λA H=>?_;have e:=uA A;rcases (AZ<|nd x).2.2.2.2 with q|q
 ·have u:=e.trans (kh (P:=λy=>y=du (nd x).a (nd x).es (nd x).ks (nd x).p) q rfl)
  unfold qc at H;rw[q] at H;show bP (aF H) λl b=>?_;cases Q:(nd x).es with
  |nil=>
   rw[Q] at b;have d:=b;have Z:(nd (nd x).a).t=.attr:=by generalize (nd (nd x).a).t=k at d;induction k<;>first|rfl|(show dP d)
   show sb u<|sb Q<|sb (uA l)<|kh (P:=λy=>yK (du y [] (nd x).ks (nd x).p) nm env w=w) Z rfl
  |cons y Y=>show sb u<|sb Q<|sb (uA l)<|QFg _ _ _ _ _ _ _ _
 ·show sb e<|q _ _ _
def iC (x:az) (a pos:cA) (xs:List az):Bool:=Om x && (vh xs && (di xs.length 30 && (a.endLine==pos.line)))
theorem qd {x:az} {nm:aN} {a pos:cA} {xs:List az} (h:iC x a pos xs=aC):MC x nm a pos xs:=by show bP (aF h) λA h=>bP (aF h) λi h=>bP (aF h) λQ H=>⟨λenv=>UU A _ _ _,λenv=>?_,H⟩;rw[YM i];show QIo<|cn Q
theorem QCc {y:az} (h:Ct y=aC) (o i:aO):A0 y aD o i=A1 [o,i] (A2 o i):=by
 unfold Ct qc at h;show Or.elim (zc y) (λq=>?_) λq=>?_
 ·rw[q] at h
  show dP h
 ·show Or.elim ((AZ<|nd y).2.2.1) (λQ=>?_) λQ=>?_
  ·rw[Q] at h
   show dP h
  ·show sb q<|Q _ _
theorem Ng {y:az} (h:e9 y=aC) (env:eB) (x:aO):JO y env x=pure x:=sb (uA h)<|(AZ _).2.1 _ _
theorem Mw {y:az} (h:jE y=aC) (t:Option az) (l:Nat) (env:eB):Ey y t l env=pure false:=by
 unfold jE qc at h;show Or.elim (zc y) (λq=>?_) λq=>?_
 ·rw[q] at h
  show dP h
 ·show Or.elim ((AZ<|nd y).2.2.2.1) (λQ=>?_) λQ=>?_
  ·rw[Q] at h
   show dP h
  ·show sb q<|Q _ _ _
theorem zU {y:az} (h:jE y=aC) (t:az) (l:Nat) (env:eB):nK [t] y l env=pure false:=Mw h _ _ _
def j5 (C:Fc) (n:aN):Bool:=(match C.K n with|some .globalImplicit=>aC|_=>aD) && !(n==("__debug__" :aN))
theorem qE (h:j5 C n=aC):oj C n:=by
 show bP (aF h) λH i=>⟨?_,s9 _▸i⟩;generalize C.K n=k at H
 match k,H with
 |some .globalImplicit,_=>rfl
structure Ci where
 fns:List (Nat×aN)
 hm:List (Nat×aN)
 dV:Nat->Fc->Bool
 xo:Nat->Nat->Fc->eT->Bool
structure dQ (I:Ci) (D:Wd):Prop where
 H:eV D
 R:nB D
 fns: ∀f nm,I.fns.lookup f=aA nm->D.fns[f]?=aA nm/\ ∃fa o fd,D.mg nm=aA (aG fa)/\D.G.get? fa=aA o/\o.data=kn fd
 hm: ∀k nm,I.hm.lookup k=aA nm-> ∃fa,D.hm k=aA (nm,fa)
 dV: ∀f C,I.dV f C=aC->D.dV f C
 xo: ∀f i C s,I.xo f i C s=aC->cO D C s (.defn i f)
structure EW where
 w:E
 x:XE
 ok:bc w x
 cK:Ci->Fc->az->Bool
 snd: ∀{I D C x},dQ I D->cK I C x=aC->bI D C x w
structure TW where
 w:T
 x:XT
 ok:bc w x
 cK:Ci->Fc->az->Bool
 snd: ∀{I D C x},dQ I D->cK I C x=aC->gh D C x w
structure IW where
 w:I
 x:XI
 ok:sD w x
 cK:Ci->Fc->az->Bool
 snd: ∀{I D C x f},dQ I D->cK I C x=aC->jS D C f x w
structure SW where
 w:S
 x:XS
 ok:bc w x
 cK:Ci->Fc->eT->Bool
 snd: ∀{I D C x},dQ I D->cK I C x=aC->cO D C x w
structure NW where
 w:E
 x:XE
 ok:bc w x
 cK:Ci->Fc->az->Bool
 snd: ∀{I D C x},dQ I D->cK I C x=aC->sM D C x w
theorem mB (es:List EW):hj (es.map EW.w) (es.map EW.x):=by induction es with|nil=>show .nil|cons e es i=>show .cons e.ok i
theorem Nh (es:List TW):hj (es.map TW.w) (es.map TW.x):=by induction es with|nil=>show .nil|cons e es i=>show .cons e.ok i
theorem rb (es:List SW):hj (es.map SW.w) (es.map SW.x):=by induction es with|nil=>show .nil|cons e es i=>show .cons e.ok i
noncomputable def nC {α β:Type} (f:α->β->Bool):List α->List β->Bool
 |[],[]=>aC
 |a::as,b::bs=>f a b && nC f as bs
 |_,_=>aD
theorem sN {α β:Type} {f:α->β->Bool} {P:List α->List β->Prop} (q:P [] []) (H: ∀a as b bs,f a b=aC->P as bs->P (a::as) (b::bs)): ∀{as:List α} {bs:List β},nC f as bs=aC->P as bs:=by
 intro as;induction as with
 |nil=>
  show @λbs h=>by
   induction bs with
   |nil=>show q
   |cons b bs O=>show dP h
 |cons a as i=>
  show @λbs h=>by
   induction bs with
   |nil=>show dP h
   |cons b bs O=>show H a as b bs (aF h).1 (i (aF h).2)
def eN (I:Ci) (C:Fc):List EW->List az->Bool:=nC λe x=>e9 x && e.cK I C x
theorem i7 {I:Ci} {D:Wd} (H:dQ I D) (h:eN I C es xs=aC):iQ D C xs (es.map EW.w)/\vh xs=true:=sN (P:=λ(es:List EW) xs=>iQ D C xs (es.map EW.w)/\vh xs=aC) ⟨HU,rfl⟩ (λe es x xs h g=>⟨AY (Aj (aF h).1 xs) (e.snd H (aF h).2) g.1,iH.mpr ⟨(aF h).1,g.2⟩⟩) h
def lJ (I:Ci) (C:Fc):List SW->List eT->Bool:=nC λe x=>e.cK I C x
theorem nX {I:Ci} {D:Wd} (H:dQ I D) (h:lJ I C es xs=aC):kW D C xs (es.map SW.w):=sN (P:=λ(es:List SW) xs=>kW D C xs<|es.map SW.w) Nq (λe es x xs h g=>vd (e.snd H h) g) h
theorem va (h:(!b)=aC):b=false:=(s9 b).mp h
section
variable {a b c:E} {t:T} {ka kb kc:az->Bool} {op:jY}
theorem Di (r: ∀{k pos},bI D C (fY v k pos) a) (h:lH x (λc=>decide (c=v))=aC):bI D C x a:=by induction xv h with|mk g=>cases iD g;show r
theorem QCY (h:cL x (λn=>fA C n i)=aC):bI D C x (.bL i):=by induction gI h with|mk g=>show vX<|mE g
theorem QDx (h:(C.ow && cL x λn=>fA C n i)=aC):bI D C x (.rW i):=by induction gI (aF h).2 with|mk g=>show QDD (aF h).1<|mE g
theorem Yx (A: ∀{y},ka y=aC->bI D C y a) (hb: ∀{y},kb y=aC->bI D C y b) (h:yo x (λy o z=>decide (o=op) && (ka y && kb z))=aC):bI D C x (.aL op a b):=by
 induction LZ h with|mk g=>cases iD (aF g).1;show QBW (A (aF (aF g).2).1)<|hb (aF (aF g).2).2
theorem Pg (r: ∀{y pos},bI D C y a->bI D C (A5 o y pos) f) (A: ∀{y},ka y=aC->bI D C y a) (h:x7 x (λp y=>decide (p=o) && ka y)=aC):bI D C x f:=by
 induction ON h with|mk g=>cases iD (aF g).1;show r<|A (aF g).2
def mq (x:az) (op:jF) (k:az->az->Bool):Bool:=Qa x λy o z=>dk o λo=>decide (o=op) && dk z λz=>k y z
inductive Pk (op:jF) (k:az->az->Bool):az->Prop|mk {y z:Expr} {p:Pos}:k y z=true->Pk op k (Expr.Compare y [op] [z] p)
theorem AK {op:jF} {k} (h:mq x op k=aC):Pk op k x:=by
 induction QFM h with
 |mk g=>induction nu g with|mk t=>induction iD (aF t).1;induction nu (aF t).2 with|mk o=>show .mk o
theorem Oc {op:jF} (A: ∀{y},ka y=aC->bI D C y a) (hb: ∀{y},kb y=aC->bI D C y b) (h:mq x op (λy z=> !uS op z && (ka y && kb z))=aC):bI D C x (.cmp op a b)/\gh D C x (.cmp op a b):=by
 induction AK h with
 |mk g=>show ⟨Z0 (va (aF g).1) (A (aF (aF g).2).1)<|hb (aF (aF g).2).2,Ze (va (aF g).1) (A (aF (aF g).2).1)<|hb (aF (aF g).2).2⟩
def isNone (x:az):Bool:=lH x λc=>decide (c=ko)
theorem Oz {neg:Bool} (A: ∀{y},ka y=aC->bI D C y a) (h:mq x (if neg then oP else tC) (λy z=>isNone z && ka y)=aC):bI D C x (.ig neg a)/\gh D C x (.ig neg a):=by
 induction AK h with
 |mk g=>
  induction xv (aF g).1 with
  |mk e=>cases iD e;show ⟨TY rfl (by clear h;induction neg<;>rfl) (A (aF g).2),Y9 rfl (by clear h;induction neg<;>rfl) (A (aF g).2)⟩
theorem QBQ {neg b:Bool} (A: ∀{y},ka y=aC->bI D C y a) (h:mq x (if neg then oP else tC) (λy z=>(lH z λc=>decide (c=ju b)) && ka y)=aC):gh D C x (.gK neg b a):=by
 induction AK h with
 |mk g=>
  induction xv (aF g).1 with
  |mk e=>cases iD e;show QCa rfl (by clear h;induction neg<;>rfl) (A (aF g).2)
theorem QCF (c: ∀{y},kc y=aC->gh D C y t) (A: ∀{y},ka y=aC->bI D C y a) (hb: ∀{y},kb y=aC->bI D C y b) (h:IG x (λz y w=>kc z && (ka y && kb w))=aC):bI D C x (.ite t a b):=by
 induction QAQ h with|mk g=>show T5 (c (aF g).1) (A (aF (aF g).2).1)<|hb (aF (aF g).2).2
theorem Px (H:dQ J D) (h:wi x (eN J C es)=aC):bI D C x (.list<|es.map EW.w)/\sM D C x (.list<|es.map EW.w):=by
 induction Ln h with|mk g=>show ⟨K0 (i7 H g).1,QCX (i7 H g).1⟩
theorem Vo (H:dQ J D) (h:lY x (eN J C es)=aC):bI D C x (.tup<|es.map EW.w):=by
 induction Ao h with|mk g=>show Tu (i7 H g).1
theorem QCz (A: ∀{y},ka y=aC->bI D C y a) (hb: ∀{y},kb y=aC->bI D C y b) (h:mZ x (λy z=>Ct z && (ka y && kb z))=aC):bI D C x (.bA a b):=by
 induction yr h with|mk g=>show US (QCc (aF g).1) (A (aF (aF g).2).1)<|hb (aF (aF g).2).2
def pw (e:Option EW):E:=match e with|some e=>e.w|none=>.none
def vV (I:Ci) (C:Fc) (e:Option EW) (x:Option az):Bool:=match e,x with|some e,some x=>e.cK I C x|none,none=>aC|_,_=>aD
theorem H9 (H:dQ J D) (h:vV J C e x=aC):wu D C x (pw e):=by
 induction e<;>induction x
 ·show QFP
 ·trivial
 ·trivial
 ·show QFk<|EW.snd _ H h
theorem TN {l d st:Option EW} (H:dQ J D) (A: ∀{y},ka y=aC->bI D C y a) (h:mZ x (λy z=>w8 z λp q r=>ka y && (vV J C l p && (vV J C d q && vV J C st r)))=aC):bI D C x (.d9 a (pw l) (pw d)<|pw st):=by
 induction yr h with
 |mk g=>
  induction PQ g with
  | @mk p q r _ g=>show QCI (λo i=>by clear h;clear g;induction r<;>show ⟨_,rfl⟩) (A (aF g).1) (H9 H (aF (aF g).2).1) (H9 H (aF (aF (aF g).2).2).1)<|H9 H (aF (aF (aF g).2).2).2
def gK (C:Fc) (n:aN):Bool:=decide (C.K n=aA nG)
theorem xf (h:gK C n=aC):C.K n=aA nG:=QIm h
theorem QCk (H:dQ J D) (h:iJ x (λn xs=>(J.fns.lookup f==aA n) && (j5 C n && eN J C es xs))=aC):bI D C x (.call f<|es.map EW.w):=by
 induction sP h with
 |mk g=>obtain ⟨r,F,o,l,s,q,Q⟩:=H.fns _ _<|QIi.mp (aF g).1;show h_ (H:=H.H) r s q Q (qE (aF (aF g).2).1) (sZ (i7 H (aF (aF g).2).2).2) (i7 H (aF (aF g).2).2).1
theorem QCW (H:dQ J D) (h:iJ x (λn xs=>J.dV f C && (fA C n i && eN J C es xs))=aC):bI D C x (.kA f i<|es.map EW.w):=by
 induction sP h with
 |mk g=>show QCL (H:=H.H) (H.dV _ _ (aF g).1) (mE (aF (aF g).2).1) (sZ (i7 H (aF (aF g).2).2).2) (i7 H (aF (aF g).2).2).1
theorem kBi {b:Bi} {es:List EW} (H:dQ J D) (h:iJ x (λn xs=>(n==y8 b) && (gK C n && eN J C es xs))=aC):bI D C x (.bi b<|es.map EW.w):=by
 induction sP h with
 |mk g=>show QEu (H:=H.H) (QIi.mp (aF g).1) (xf (aF (aF g).2).1) (sZ (i7 H (aF (aF g).2).2).2) (i7 H (aF (aF g).2).2).1
theorem kSm (H:dQ J D) (A: ∀{y},ka y=aC->bI D C y a) (h:iA x (λy n p xs q=>(n==Bn m) && (iC y p q xs && (ka y && eN J C es xs)))=aC):bI D C x (.sm m a<|es.map EW.w):=by
 induction ro h with
 |mk g=>show YF (H:=H.H) (QIi.mp (aF g).1) (qd (aF (aF g).2).1) (A (aF (aF (aF g).2).2).1) (i7 H (aF (aF (aF g).2).2).2).1
theorem QG {k:Nat} (H:dQ J D) (A: ∀{y},ka y=aC->bI D C y a) (h:iA x (λy n p xs q=>(J.hm.lookup k==aA n) && (di k 20 && (iC y p q xs && (ka y && eN J C es xs))))=aC):bI D C x (.kZ k a<|es.map EW.w)/\bI D C x (.ly k a<|es.map EW.w):=by
 induction ro h with
 |mk g=>show bE (H.hm _ _<|QIi.mp (aF g).1) λf q=>?_;have g:=(aF g).2;show ⟨S5 (H:=H.H) q (cn (aF g).1) (qd (aF (aF g).2).1) (A (aF (aF (aF g).2).2).1) (i7 H (aF (aF (aF g).2).2).2).1,X7 (H:=H.H) q (cn (aF g).1) (qd (aF (aF g).2).1) (A (aF (aF (aF g).2).2).1) (i7 H (aF (aF (aF g).2).2).2).1⟩
end
section
variable {a b c:E} {t:T} {ka kb kc:az->Bool} {op:jY}
theorem WB {k:Nat} (H:dQ J D) (A: ∀{y},ka y=aC->bI D C y a) (h:iJ x (λn xs=>(J.hm.lookup k==aA n) && (iF 20 k && (j5 C n && match xs with|y::xs=>e9 y && (ka y && eN J C es xs)|[]=>aD)))=aC):bI D C x (.kZ k a<|es.map EW.w):=by
 induction sP h with
 | @mk n p xs q g=>
  obtain ⟨f,e⟩:=H.hm _ _<|QIi.mp (aF g).1;have g:=(aF g).2;clear h;induction xs with
  |nil=>cases (aF (aF g).2).2
  |cons y xs=>
   have t:=(aF (aF g).2).2;have l:=i7 H (aF (aF t).2).2;show @λL K=>QCn (H:=H.H) (D:=D) (C:=C) (x:=y) (a:=a) (p:=p) (pos:=q) (k:=k) e (cn (aF g).1) (qE (aF (aF g).2).1) (sZ<|iH.mpr ⟨(aF t).1,l.2⟩) (Aj (aF t).1 xs) ?_ ?_
   ·show A (aF (aF t).2).1
   ·show l.1
def Im (f:az->az->Bool):List az->Bool
 |[s,r]=>f s r
 |_=>aD
theorem QDF (h:Im f xs=aC): ∃s r,xs=[s,r]/\f s r=true:=by
 induction xs with
 |nil=>show dP h
 |cons s xs _=>induction xs with
  |nil=>show dP h
  |cons r xs _=>induction xs with
   |nil=>show ⟨s,r,rfl,h⟩
   |cons _ _ _=>show dP h
theorem Ig (h:eN J C [e] xs=aC): ∃y,xs=[y]:=by
 induction xs with
 |nil=>show dP h
 |cons y xs _=>induction xs with
  |nil=>show ⟨y,rfl⟩
  |cons _ _ _=>show dP (aF h).2
theorem UQ (h:eN J C [e,u] xs=aC): ∃y z,xs=[y,z]:=by
 induction xs with
 |nil=>show dP h
 |cons y xs _=>show (Ig (aF h).2).elim λz q=>⟨y,z,QIh (y:: ·) q⟩
theorem QCt {y z:aN} (A: ∀{y},ka y=aC->bI D C y a) (h:iA x (λu n p xs q=>(n==("replace")) && (iC u p q xs && (!(y==z) && (ka u && Im (λs r=>(lH s λc=>decide (c=tA y)) && (lH r λc=>decide (c=tA z))) xs))))=aC):bI D C x (.sU a y z):=by
 induction ro h with
 | @mk u n p xs q g=>
  clear h;obtain rfl:=QIi.mp (aF g).1;have g:=(aF g).2;have o:=(aF (aF (aF g).2).2).2;have v:=λN=> @qd u N p q xs (aF g).1;have t:=va (aF (aF g).2).1;have Z:=(aF (aF (aF g).2).2).1;clear g;show @dU _ _ _ _ _ (QDF o) λs r Q o=>?_;induction xv (aF o).1 with
  |mk Y=>
   induction xv (aF o).2 with
   |mk e=>
    cases iD Y
    cases iD e
    subst Q;show @λl K=>QFB (v _) t<|A Z
theorem QEq (H:dQ J D) (h:cL x (λn=>(n==nm) && j5 C n)=aC):bI D C x (.sG nm):=by
 induction gI h with|mk g=>obtain rfl:=QIi.mp (aF g).1;show QEv (H:=H.H)<|qE (aF g).2
theorem Xp (H:dQ J D) (A: ∀{y},ka y=aC->bI D C y a) (h:mq x A3 (λy z=>(cL z λn=>(n==("b1_set")) && j5 C n) && ka y)=aC):bI D C x (.rg a):=by
 induction AK h with
 |mk g=>induction gI (aF g).1 with|mk e=>clear h;obtain rfl:=QIi.mp (aF e).1;show Vd (H:=H.H) (qE (aF e).2)<|A (aF g).2
theorem kB3 (H:dQ J D) (A: ∀{y},ka y=aC->bI D C y a) (h:iA x (λu n p xs q=>(cL u λn=>(n==("b3_exceptions")) && j5 C n) && ((n==("get")) && (iC u p q xs && dk xs λy=>e9 y && ka y)))=aC):bI D C x (.si a):=by
 induction ro h with
 |mk g=>
  induction gI (aF g).1 with
  |mk e=>
   clear h;obtain rfl:=QIi.mp (aF e).1;have g:=(aF g).2;obtain rfl:=QIi.mp (aF g).1;induction nu (aF (aF g).2).2 with
   |mk t=>show @λl K=>YI (H:=H.H) (D:=D) (C:=C) (a:=a) (qE (aF e).2) (qd (aF (aF g).2).1) (xO (aF t).1)<|A (aF t).2
theorem LS (H:dQ J D) (h:um x (λu n O=>(n==("_headers")) && cL u λn=>fA C n 0)=aC):bI D C x .gL:=by
 induction HM h with
 |mk g=>clear h;obtain rfl:=QIi.mp (aF g).1;induction gI (aF g).2 with|mk e=>show QFJ (H:=H.H) (mE e) λO=>rfl
def Bv (I:Ci) (C:Fc):List TW->List az->Bool:=nC λe x=>e.cK I C x
theorem B_ (H:dQ J D) (h:zq x (λp es=>decide (p=o) && Bv J C ts es)=aC):gh D C x (.eH o<|ts.map TW.w):=by
 induction P8 h with
 |mk g=>
  cases iD (aF g).1
  show XD<|sN (P:=λ(ts:List TW) R=>yx D C o R<|ts.map TW.w) YT (λt ts x R h g=>QAi (t.snd H h) g) (aF g).2
theorem ZK (H:dQ J D) (h:Bv J C ts xs=aC):qn D C xs (ts.map TW.w):=sN (P:=λ(ts:List TW) xs=>qn D C xs<|ts.map TW.w) QAu (λt ts x xs h g=>ZM (t.snd H h) g) h
theorem QCl (h:cL x (λn=>fA C n i)=aC):gh D C x (.bL i):=by induction gI h with|mk g=>show ZS<|mE g
theorem TV {K:az->Bool} (a: ∀{y},K y=aC->gh D C y t) (h:x7 x (λp y=>decide (p=El) && K y)=aC):gh D C x (.not t):=by
 induction ON h with|mk g=>cases iD (aF g).1;show QDj<|a (aF g).2
theorem WN (h:cL x (λn=>fA C n i)=aC):jS D C f x (.bL i):=by induction gI h with|mk g=>show T7<|mE g
theorem Qi (H:dQ J D) (h:iJ x (λn xs=>(n==("range")) && (gK C n && eN J C es xs))=aC):(∀e f,es=[e]->jS D C f x (.fv e.w))/\(∀e u f,es=[e,u]->jS D C f x (.rm e.w u.w)):=by
 induction sP h with
 | @mk n p xs q g=>
  clear h;obtain rfl:=QIi.mp (aF g).1;have g:=(aF g).2;constructor
  ·intro e f F
   subst F;show @bE _ _ _ (Ig (aF g).2) λy Q=>?_;subst Q;have l:=i7 H (aF g).2;show @λL K=>QEh (H:=H.H) (D:=D) (C:=C) (x:=y) (a:=e.w) (p:=p) (pos:=q) (fl:=f) (xf (aF g).1) (sZ l.2)<|l.1
  ·intro e u f F
   subst F;show @lL _ _ _ _ (UQ (aF g).2) λy z Q=>?_;subst Q;have l:=i7 H (aF g).2;show @λL K=>Zg (H:=H.H) (D:=D) (C:=C) (x:=y) (y:=z) (a:=e.w) (b:=u.w) (p:=p) (pos:=q) (fl:=f) (xf (aF g).1) (sZ l.2)<|l.1
theorem QBz (H:dQ J D) (h:iJ x (λn xs=>(n==("reversed")) && (gK C n && eN J C [e] xs))=aC):jS D C f x (.rev e.w):=by
 induction sP h with
 | @mk n p xs q g=>clear h;obtain rfl:=QIi.mp (aF g).1;have g:=(aF g).2;show @bE _ _ _ (Ig (aF g).2) λy Q=>?_;subst Q;have l:=i7 H (aF g).2;show @λL K=>Yl (H:=H.H) (D:=D) (C:=C) (x:=y) (a:=e.w) (p:=p) (pos:=q) (fl:=f) (xf (aF g).1) (sZ l.2)<|l.1
end
noncomputable def B2 (o:Option fX):Bool:=decide (o=aA dS)||decide (o=some NameKind.free)
theorem Gd (h:B2 o=aC):o=aA dS\/o=aA ck:=(Bool.or_eq_true_iff.mp h).imp QIm QIm
noncomputable def Zp (s:kM):Bool:=decide (s.kind=gy)
def Pa (C:Fc) (scope:kM) (t:cB) (target iter:az):Bool:=
 decide ((scope.names.map (·.1)).Nodup) && (Zp scope && (scope.names.all (λx=>if x.2==ck then (C.dY x.1).isSome && B2 (C.K x.1) else aC) &&
 (scope.names.all (λx=>if lM x.2 && !(x.1==qU) then (lA t).contains (C.bd+scope.names.findIdx (·.1==x.1)) else aC) && ((lA t).all (λi=>iF C.bd i && di i 1000000) &&
 (e9 iter && ((cL target λO=>aC) && (iF (C.bd+200) 1000000 && iF scope.names.length 200)))))))
structure W6 (C:Fc) (scope:kM) (t:cB) (target iter:az):Prop where
 ok:o9 C scope t target iter
 hb:C.bd+200<=1000000/\scope.names.length<=200
theorem QAT (h:Pa C scope t target iter=aC):W6 C scope t target iter:=by
 show bP (aF h) λA h=>bP (aF h) λH h=>bP (aF h) λQ h=>bP (aF h) λb h=>bP (aF h) λd h=>bP (aF h) λP h=>bP (aF h) λB h=>⟨⟨iD A,?_,λx M f=>?_,λx M o hd=>?_,λi j=>?_,Ng P,λit v=>?_⟩,cn (aF h).1,cn (aF h).2⟩
 ·show QIm H
 ·have:=fN.mp Q x M
  rw[if_pos (by simp only[f];rfl)] at this;show ⟨(aF this).1,Gd (aF this).2⟩
 ·have:=fN.mp b x M
  rw[if_pos (by (erw[o];erw[hd]);rfl)] at this;show RB.mp this
 ·have:=aF (fN.mp d i j)
  show ⟨cn this.1,cn this.2⟩
 ·induction gI B with|mk g=>rfl
def B9 (C:Fc) (t:cB) (x:az):Bool:=match t with
 |.one i=>cL x λn=>ft C n i
 |.tup o=>lY x λR=>nC (λx i=>cL x λn=>ft C n i) R o
theorem Pe {D:Wd} (h:B9 C t x=aC):qh D C x t:=by
 induction t with
 |one i=>have h:cL x (λn=>ft C n i)=true:=h;induction gI h with|mk g=>show @λd r R=>H6<|me g
 |tup o=>
  have h:lY x (λv=>nC (λx i=>cL x λn=>ft C n i) v o)=true:=h;induction Ao h with
  |mk g=>have n:=sN (P:=λv o=>uF C v o) .nil (λx v i o h g=>by induction gI h with|mk h=>show .cons (me h) g) g;show @λd r R=>PD n
section
def xl (J:Ci) (C:Fc) (a:Fc->az->Bool) (t:cB) (K:az->Bool) (ts:List TW) (e:az) (gs:List JZ) (s:kM):Bool:=dk gs λg=>(g.is_async==0) && (Pa C s t g.target g.iter && (K g.iter &&
 (if h:C.bd+200<=1000000/\s.names.length<=200 then B9 (C.sub s.names aC aD h) t g.target && (Bv J (C.sub s.names aC aD h) ts g.ifs && a (C.sub s.names aC aD h) e) else aD)))
inductive PI (J:Ci) (D:Wd) (C:Fc) (ke:Fc->az->Bool) (t:cB) (ki:az->Bool) (ts:List TW) (e:az) (s:kM):List JZ->Prop
 |mk {target iter:Expr} {ifs:List Expr} (hb:C.bd+200<=1000000/\s.names.length<=200):o9 C s t target iter->ki iter=true->qh D (C.sub s.names true false hb) target t->qn D (C.sub s.names true false hb) ifs (ts.map TW.w)->ke (C.sub s.names true false hb) e=true->PI J D C ke t ki ts e s [⟨target,iter,ifs,0⟩]
theorem PW (H:dQ J D) (h:xl J C ke t ki ts e gs s=aC):PI J D C ke t ki ts e s gs:=by
 induction nu h with
 | @mk v g=>obtain ⟨c,i,f,as⟩:=v;clear h;obtain rfl:as=0:=QIi.mp (aF g).1;have g:=(aF g).2;have w:=QAT (aF g).1;have g:=(aF g).2;have o:=(aF g).2;rw[dif_pos w.hb] at o;show .mk w.hb w.ok (aF g).1 (Pe (aF o).1) (ZK H (aF (aF o).2).1) (aF (aF o).2).2
theorem W9 (H:dQ J D) (e: ∀{C y},ke C y=aC->bI D C y a) (i: ∀{y f},ki y=aC->jS D C f y it) (h:xB x (xl J C ke t ki ts)=aC):bI D C x (.comp a t it<|ts.map TW.w):=by
 induction Kh h with
 |mk g=>induction PW H g with|mk b o s Y Q q=>show OM o (i s) Y Q<|e q
end
inductive Ks|no|asg|aug|ex|cx|gH|qG|ret|cont|del
def Ks.num:Ks->Nat|.no=>0|.asg=>1|.aug=>2|.ex=>3|.cx=>4|.gH=>5|.qG=>6|.ret=>7|.cont=>8|.del=>9
def Ks.of:Nat->Ks|1=>.asg|2=>.aug|3=>.ex|4=>.cx|5=>.gH|6=>.qG|7=>.ret|8=>.cont|9=>.del|_=>.no
theorem Ks.AU (k:Ks):Ks.of k.num=k:=by induction k<;>rfl
theorem Ks.eq {a b:Ks} (h:dK a.num b.num=aC):a=b:=dA a.AU<|dA b.AU<|sb (Nat.eq_of_beq_eq_true h) rfl
structure Ns where
 t:Ks:=.no
 a:Expr:=x0
 b:Expr:=x0
 es:List Expr:=[]
 op:Operator:=bV
 ss:List Stmt:=[]
 sr:List Stmt:=[]
 oa:Option Expr:=aE
 p:Pos:=default
def ns (x:eT):Ns:=x.casesOn (motive_2:=λO=>Ns) (λO O O O O O O O O O=>{}) (λO O O O O O O O O O=>{}) (λO O O O O O O O O O O=>{}) (λoa p=>{t:=.ret,oa,p}) (λes p=>{t:=.del,es,p}) (λes a p=>{t:=.asg,es,a,p}) (λO O O O O O O=>{}) (λa op b p=>{t:=.aug,a,op,b,p}) (λO O O O O=>{}) (λa b ss sr p=>{t:=.gH,a,b,ss,sr,p}) (λO O O O O=>{}) (λa ss sr p=>{t:=.qG,a,ss,sr,p}) (λa ss sr p=>{t:=.cx,a,ss,sr,p}) (λO O O=>{}) (λO O O=>{}) (λO O O=>{}) (λO O O=>{}) (λO O O O O=>{}) (λO O O O O=>{}) (λO O O=>{}) (λO O=>{}) (λO O O O=>{}) (λO O=>{}) (λO O=>{}) (λa p=>{t:=.ex,a,p}) (λO=>{}) (λO=>{}) λp=>{t:=.cont,p}
def Ns.mk' (n:Ns):Stmt:=match n.t with
 |.no=>RX n.p
 |.asg=>lR n.es n.a n.p
 |.aug=>QGo n.a n.op n.b n.p
 |.ex=>oQ n.a n.p
 |.cx=>JW n.a n.ss n.sr n.p
 |.gH=>RT n.a n.b n.ss n.sr n.p
 |.qG=>QGu n.a n.ss n.sr n.p
 |.ret=>JY n.oa n.p
 |.cont=>RS n.p
 |.del=>QGy n.es n.p
theorem QDB (s:eT):(ns s).t=.no\/s=(ns s).mk':=by cases s<;>first|show .inr rfl|show .inl rfl
def os (x:eT) (k:Ks) (b:Ns->Bool):Bool:=dK (ns x).t.num k.num && b (ns x)
theorem pL {P:eT->Prop} {k:Ks} (h:os x k b=aC) (K:k≠ .no) (f: ∀n,b n=aC->P (Ns.mk' {n with t:=k})):P x:=by
 show bP (aF h) λA H=>?_;have e:=Ks.eq A;show Or.elim (QDB x) (λq=>?_) λq=>?_
 ·show QIe (e.symm.trans q) K
 ·erw[q]
  have:=f _ H;rw[<-e] at this;show this
section
variable {t:T} {it:I} {ss sr:List SW} {ka kb kc:az->Bool} {i:Nat}
theorem zX {α:Type} {l:List α} (h:l.isEmpty=aC):l=[]:=E1.mp h
theorem rY {Y:S} {k:az->az->cA->Bool} (f: ∀t v p,k t v p=aC->cO D C (lR [t] v p) Y) (h:os s .asg (λn=>dk n.es λt=>k t n.a n.p)=aC):cO D C s Y:=pL (P:=λs=>cO D C s Y) h nofun λn g=>by generalize n.es=es at g;induction nu g with|mk g=>show f _ _ _ g
theorem Xf (A: ∀{y},ka y=aC->bI D C y a) (h:os s .asg (λn=>dk n.es λt=>cL t λx=>ft C x i && (jE n.a && ka n.a))=aC):cO D C s (.asg (nP i) a):=
 rY (k:=λt v O=>cL t λx=>ft C x i && (jE v && ka v)) (λt v p g=>by
  induction gI g with
  |mk r=>show @λl K=>MQ (D:=D) (C:=C) (t:=nP i) (a:=a) (λO=>zU (aF (aF r).2).1 _ _ _) (λO=>rfl) (λO=>rfl) (A (aF (aF r).2).2)<|@λd R U=>H6<|me (aF r).1) h
def zH (x:az):Bool:=qc x λk=> !dK k.num Kd.no.num && !dK k.num Kd.tup.num
theorem S4 (n:Nd) (h:n.t≠ .tup) (es:List az) (k:Nat) (p:cA) (env:eB):tE [oO es k p] n.mk' env=pure none:=by unfold Nd.mk';cases e:n.t<;>first|rfl|show absurd e h
theorem Zx {y:az} (h:zH y=aC) (es:List az) (k:Nat) (p:cA) (env:eB):tE [oO es k p] y env=pure none:=by
 unfold zH qc at h;show Or.elim (zc y) (λq=>?_) λq=>?_
 ·rw[q] at h
  show dP h
 ·show sb q<|S4 _ (λe=>by rw[e] at h;show dP h) _ _ _ _
theorem QBD (A: ∀{y},ka y=aC->bI D C y a) (h:os s .asg (λn=>dk n.es λt=>lY t λxs=>nC (λx i=>cL x λn=>ft C n i) xs o && (zH n.a && (jE n.a && ka n.a)))=aC):cO D C s (.asg (lV o) a):=
 rY (k:=λt v O=>lY t λxs=>nC (λx i=>cL x λn=>ft C n i) xs o && (zH v && (jE v && ka v))) (λt v p g=>by
  induction Ao g with
  |mk r=>
   have n:=sN (P:=λxs o=>uF C xs o) .nil (λx xs i o h g=>by induction gI h with|mk H=>show .cons (me H) g) (aF r).1;have g:=(aF r).2
   show @λl K=>MQ (D:=D) (C:=C) (t:=lV o) (a:=a) (λO=>zU (aF (aF g).2).1 _ _ _) (Zx (aF g).1 _ _ _) (λO=>rfl) (A (aF (aF g).2).2)<|@λd R U=>PD n) h
noncomputable def vn (K:aN->Option fX) (ts:List az):List Str:=
 let l:=(ts.head?.map (·.pos.line)).getD 0
 ts.filterMap λx=>swappedStores.match_8 (λO=>Option aN) x (λi p=>if K i==aA NameKind.local && p.line==l then aA i else aE) λO=>aE
def Cw (K:aN->Option fX) (ts vs:List az):Bool:= !(!(ts.length==2||ts.length==3)||vs.length !=ts.length) && (!(vs.any λx=>swappedStores.match_5 (λO=>Bool) x (λO O=>aC) λO=>aD) && (!((vn K ts).length !=ts.length||(vn K ts).eraseDups.length !=(vn K ts).length) && (!(vs.all<|foldedForSure 8) && !(vs.all<|constantsAlone 8))))
theorem Dt {α:Type} {x y:α} (h:(!c)=aC):(if c then x else y)=y:=by erw[va h];rfl
theorem R_ {K:aN->Option fX} {ts vs:List az} {k b:Nat} (h:Cw K ts vs=aC) (A:env.scope.kind=gy) (H: ∀x,env.kindOf x=K x):tE [oO ts k p] (oO vs b P) env=pure (aA<|vn K ts):=by
 have g:=aF h;dsimp only[tE];show sb (funext H:env.kindOf=K)<|(if_neg ?_).trans<|(Dt (aF g.2).1).trans<|(Dt (aF (aF g.2).2).1).trans<|(Dt (aF (aF (aF g.2).2).2).1).trans<|(Dt (aF (aF (aF g.2).2).2).2).trans rfl
 erw[(by dsimp only[Env.blockKind];show sb A ?_;rfl:env.blockKind=.function)];show sb (va g.1)<|nofun
def Iw (C:Fc):List aN->List Nat->Bool:=nC λx i=>ft C x i
theorem Ts (A: ∀{y},ka y=aC->bI D C y a) (h:os s .asg (λn=>dk n.es λt=>lY t λxs=>lY n.a λvs=>(Cw C.K xs vs && (Iw C (vn C.K xs) o && decide o.Nodup)) && (jE n.a && ka n.a))=aC):cO D C s (.asg (lV o) a):=
 rY (k:=λt v O=>lY t λxs=>lY v λvs=>(Cw C.K xs vs && (Iw C (vn C.K xs) o && decide o.Nodup)) && (jE v && ka v)) (λt v p g=>by
  induction Ao g with
  |mk B=>
   cases Ao B with
   |mk f=>
    have z:=aF (aF f).1
    show @λl r=>QAB (D:=D) (C:=C) (a:=a) (λO=>zU (aF (aF f).2).1 _ _ _) (λenv H m=>R_ z.1 H m) (sN (P:=λxs o=>qL C xs o) .nil (λx xs i o h g=>.cons (me h) g) (aF z.2).1) (iD (aF z.2).2)<|A (aF (aF f).2).2) h
end
section
variable {J:Ci} {D:Wd} {C:Fc} {s:eT} {x:az} {a b:E} {t:T} {it:I} {ss sr:List SW} {es:List EW} {ka kb kc:az->Bool} {i j:Nat}
theorem YZ (H:dQ J D) (hb: ∀{y},kb y=aC->bI D C y b) (h:yo x (λy o z=>decide (o=cV) && (wi y (eN J C es) && kb z))=aC):sM D C x (.aL cV (.list<|es.map EW.w) b):=by
 induction LZ h with
 |mk g=>cases iD (aF g).1;induction Ln (aF (aF g).2).1 with|mk t=>show @λl K=>QAA (i7 H t).1<|hb (aF (aF g).2).2
theorem Z6 (H:dQ J D) (A: ∀{y},ka y=aC->bI D C y a) (h:iA x (λy n p xs q=>(J.hm.lookup 2==aA n) && (iC y p q xs && (ka y && eN J C es xs)))=aC):sM D C x (.ly 2 a<|es.map EW.w):=by
 induction ro h with
 |mk g=>obtain ⟨f,q⟩:=H.hm _ _<|QIi.mp (aF g).1;have g:=(aF g).2;show @λl K=>X5 (H:=H.H) (HR:=H.R) (D:=D) (C:=C) q (qd (aF g).1) (A (aF (aF g).2).1) (i7 H (aF (aF g).2).2).1
theorem Y8 (A: ∀{y},ka y=aC->sM D C y a) (h:os s .asg (λn=>dk n.es λt=>cL t λx=>(C.nw && ft C x i) && (jE n.a && ka n.a))=aC):cO D C s (.own i a):=
 rY (k:=λt v O=>cL t λx=>(C.nw && ft C x i) && (jE v && ka v)) (λt v p g=>by
  induction gI g with
  |mk r=>show @λl K=>QCg (D:=D) (C:=C) (aF (aF r).1).1 (me (aF (aF r).1).2) (λO=>zU (aF (aF r).2).1 _ _ _)<|A (aF (aF r).2).2) h
theorem v_: ∀env,env.scope.kind=gy->(∀x,env.kindOf x=C.K x)->
 nK [bf nm N] (v3 elt gens scope v) l env=pure (C.K nm==aA NameKind.local && N.line==v.line && !(scope.names.any λ(n,k)=>n==nm && (k==NameKind.local||k==.cell))):=λenv h H=>by
 change pure (env.blockKind==gy && env.kindOf nm==aA NameKind.local && N.line==v.line && _)=_;rw[(by unfold Env.blockKind;erw[h];rfl:env.blockKind=.function),H];rfl
theorem QBy (H:dQ J D) (F: ∀{C y},ke C y=aC->bI D C y a) (d: ∀{y f},ki y=aC->jS D C f y it) (h:os s .asg (λn=>dk n.es λt=>cL t λx=>xB n.a λe gs R=>ft C x i && xl J C ke c ki ts e gs R)=aC):cO D C s (.asg (nP i)<|.comp a c it<|ts.map TW.w):=
 rY (k:=λt v O=>cL t λx=>xB v λe gs R=>ft C x i && xl J C ke c ki ts e gs R) (λt v p g=>by
  induction gI g with
  |mk r=>
   induction Kh r with
   |mk o=>
    induction PW H (aF o).2 with
    |mk B b Z Y Q q=>show @λl K=>QEz (D:=D) (C:=C) _ v_ (me (aF o).1) B b (d Z) Y Q<|F q) h
noncomputable def IU (o:Option fX):Bool:=decide (o=aA NameKind.local)
theorem Tc {o} (h:IU o=aC):o=aA NameKind.local:=QIm h
theorem QEj (A: ∀{y},ka y=aC->bI D C y a) (h:os s .aug (λn=>decide (n.op=op) && cL n.a λx=>(ft C x i && IU (C.K x) && (!(x==("__classdict__")) && !(x==("__debug__")))) && ka n.b)=aC):cO D C s (.aug i op a):=
 pL (P:=λs=>cO D C s<|.aug i op a) h nofun λn g=>by
  have e:=iD (aF g).1;have g:=(aF g).2;generalize n.a=t at g;show (?_);rw[e];induction gI g with
  |mk r=>have o:=aF (aF r).1;show @λl u=>ZQ (D:=D) (C:=C) (me (aF o.1).1) (Tc (aF o.1).2) (va (aF o.2).1) (va (aF o.2).2)<|A (aF r).2
theorem DQ {k:az->Bool} (f: ∀t p,k t=aC->cO D C (oQ t p) Y) (h:os s .ex (λn=>k n.a)=aC):cO D C s Y:=pL (P:=λs=>cO D C s Y) h nofun λn g=>f _ _ g
theorem Le (n:Nd) (p:cA):BD n.mk' p bG=pure Flow.next/\ ∀u t,BD n.mk' p (cP u t)=pure Flow.next:=by unfold Nd.mk';cases n.t<;>show ⟨rfl,λO O=>rfl⟩
theorem Yy (A: ∀{y},ka y=aC->bI D C y a) (h:os s .ex (λn=>jE n.a && (e9 n.a && ka n.a))=aC):cO D C s (.expr a):=DQ (λv p g=> @λl K=>QAt (λO=>Mw (aF g).1 _ _ _) (by erw[uA (aF (aF g).2).1];show (Le _ _).1) (by erw[uA (aF (aF g).2).1];show (Le _ _).2)<|A (aF (aF g).2).2) h
theorem UI (A: ∀{y},ka y=aC->bI D C y a) (h:os s .ex (λn=>iA n.a λy n p xs q=>(n==("append")) && (iC y p q xs && ((C.ow && cL y λm=>fA C m i) && dk xs λz=>e9 z && ka z)))=aC):cO D C s (.app i a):=
 DQ (k:=λv=>iA v λy n p xs q=>(n==("append")) && (iC y p q xs && ((C.ow && cL y λm=>fA C m i) && dk xs λz=>e9 z && ka z))) (λv p g=>by
  induction ro g with
  |mk t=>
   clear g;obtain rfl:=QIi.mp (aF t).1;have o:=aF (aF (aF t).2).2;induction nu o.2 with
   |mk Z=>
    have m:=qd (nm:=("append")) (aF (aF t).2).1;induction gI (aF o.1).2 with
    |mk Y=>show @λl K=>XO (D:=D) (C:=C) (aF o.1).1 (mE Y) m (xO (aF Z).1)<|A (aF Z).2) h
theorem ZV (H:dQ J D) (A: ∀{y},ka y=aC->bI D C y a) (hb: ∀{y},kb y=aC->bI D C y .gL) (h:os s .ex (λn=>iA n.a λy n p xs q=>(n==("append")) && (iC y p q xs && (kb y && dk xs λz=>e9 z && ka z)))=aC):cO D C s (.qe a):=
 DQ (k:=λv=>iA v λy n p xs q=>(n==("append")) && (iC y p q xs && (kb y && dk xs λz=>e9 z && ka z))) (λv p g=>by
  induction ro g with
  |mk t=>
   clear g;obtain rfl:=QIi.mp (aF t).1;have o:=aF (aF (aF t).2).2;induction nu o.2 with
   |mk Z=>show @λl K=>QCw (H:=H.H) (D:=D) (C:=C) (hb o.1) (qd (aF (aF t).2).1) (xO (aF Z).1)<|A (aF Z).2) h
theorem QCH (h:os s .ex (λn=>iA n.a λy n p xs q=>(n==("reverse")) && (iC y p q xs && ((C.ow && cL y λm=>fA C m i) && xs.isEmpty)))=aC):cO D C s (.sS i):=
 DQ (k:=λv=>iA v λy n p xs q=>(n==("reverse")) && (iC y p q xs && ((C.ow && cL y λm=>fA C m i) && xs.isEmpty))) (λv p g=>by
  induction ro g with
  |mk t=>
   clear g;obtain rfl:=QIi.mp (aF t).1;have o:=aF (aF (aF t).2).2;have m:=qd (nm:=("reverse")) (aF (aF t).2).1;cases zX o.2;induction gI (aF o.1).2 with
   |mk Y=>show @λl K=>Ve (D:=D) (C:=C) (aF o.1).1 (mE Y) m) h
theorem QAk (A: ∀{y},ka y=aC->bI D C y a) (hb: ∀{y},kb y=aC->bI D C y b) (h:os s .asg (λn=>dk n.es λt=>mZ t λo y=>(C.ow && cL o λm=>fA C m i) && (jE n.a && (ka n.a && kb y)))=aC):cO D C s (.set i b a):=
 rY (k:=λt v O=>mZ t λo y=>(C.ow && cL o λm=>fA C m i) && (jE v && (ka v && kb y))) (λt v p g=>by
  induction yr g with
  |mk r=>
   induction gI (aF (aF r).1).2 with
   |mk f=>show @λl K=>ZR (D:=D) (C:=C) (aF (aF r).1).1 (mE f) (λO=>zU (aF (aF r).2).1 _ _ _) (A (aF (aF (aF r).2).2).1)<|hb (aF (aF (aF r).2).2).2) h
def nn (x:Option az):Bool:=match x with|none=>aC|_=>aD
theorem DF {x:Option az} (h:nn x=aC):x=none:=by induction x;rfl;show dP h
theorem XU (n:Nd) (x y:az) (p:cA) (l:Nat) (env:eB):nK [tB x y p] n.mk' l env=pure false:=by unfold Nd.mk';cases n.t<;>rfl
theorem QCU (h:e9 v=aC) (x y:az) (p:cA) (l:Nat) (env:eB):nK [tB x y p] v l env=pure false:=sb (uA h)<|XU _ _ _ _ _ _
theorem QBB (H:dQ J D) (A: ∀{y},ka y=aC->bI D C y a) (hb: ∀{y},kb y=aC->bI D C y .gL) (h:os s .asg (λn=>dk n.es λt=>mZ t λo y=>(w8 y λp q r=>nn p && (nn q && nn r)) && (e9 n.a && (ka n.a && kb o)))=aC):cO D C s (.rT a):=
 rY (k:=λt v O=>mZ t λo y=>(w8 y λp q r=>nn p && (nn q && nn r)) && (e9 v && (ka v && kb o))) (λt v p g=>by
  induction yr g with
  |mk B=>
   induction PQ (aF B).1 with
   |mk f=>
    cases DF (aF f).1
    cases DF (aF (aF f).2).1
    cases DF (aF (aF f).2).2
    show @λl K=>QFW (H:=H.H) (D:=D) (C:=C) (hb (aF (aF (aF B).2).2).2) (λO=>QCU (aF (aF B).2).1 _ _ _ _ _)<|A (aF (aF (aF B).2).2).1) h
end
section
variable {t:T} {it:I} {ss sr:List SW} {es:List EW} {ka kb kc:az->Bool} {i j:Nat}
theorem QEC (H:dQ J D) (h:os s .asg (λn=>dk n.es λt=>cL t λx=>iJ n.a λf xs=>(f==("Headers")) && (dk xs λy=>cL y λm=>fA C m j) && ((C.nw && (C.hn && C.ow)) && (ft C x i && j5 C ("Headers"))))=aC):cO D C s (.ri i j):=
 rY (k:=λt v O=>cL t λx=>iJ v λf xs=>(f==("Headers")) && (dk xs λy=>cL y λm=>fA C m j) && ((C.nw && (C.hn && C.ow)) && (ft C x i && j5 C ("Headers")))) (λt v p g=>by
  induction gI g with
  |mk r=>
   induction sP r with
   |mk o=>
    clear r g;obtain rfl:=QIi.mp (aF (aF o).1).1;induction nu (aF (aF o).1).2 with
    |mk z=>
     induction gI z with
     |mk Y=>
      have e:=aF (aF o).2
      show @λl K=>QEB (H:=H.H) (D:=D) (C:=C) (aF e.1).1 (aF (aF e.1).2).1 (aF (aF e.1).2).2 (me (aF e.2).1) (qE (aF e.2).2)<|mE Y) h
theorem QBr (H:dQ J D) (h:os s .asg (λn=>dk n.es λt=>cL t λx=>iJ n.a λf xs=>(f==("compute_powers")) && (eN J C es xs && (ft C x i && j5 C ("compute_powers"))))=aC):cO D C s (.rQ i<|es.map EW.w):=
 rY (k:=λt v O=>cL t λx=>iJ v λf xs=>(f==("compute_powers")) && (eN J C es xs && (ft C x i && j5 C ("compute_powers")))) (λt v p g=>by
  induction gI g with
  |mk r=>
   induction sP r with
   |mk o=>
    clear r g;obtain rfl:=QIi.mp (aF o).1;have z:=aF (aF o).2
    show @λl K=>TP (H:=H.H) (D:=D) (C:=C) (me (aF z.2).1) (qE (aF z.2).2) (sZ (i7 H z.1).2) (i7 H z.1).1) h
theorem QDG (H:dQ J D) (A: ∀{y},ka y=aC->bI D C y a) (h:os s .del (λn=>dk n.es λt=>mZ t λo y=>(cL o λm=>fA C m i) && ka y)=aC):cO D C s (.qx i a):=
 pL (P:=λs=>cO D C s<|.qx i a) h nofun λn g=>by
  generalize n.es=es at g;show (?_);induction nu g with
  |mk r=>
   induction yr r with
   |mk f=>
    induction gI (aF f).1 with
    |mk z=>show @λl K=>QFh (H:=H.H) (D:=D) (C:=C) (mE z)<|A (aF f).2
theorem QEr {K:az->Bool} (H:dQ J D) (Z: ∀{y},K y=aC->gh D C y t) (h:os s .cx (λn=>K n.a && (lJ J C ss n.ss && lJ J C sr n.sr))=aC):cO D C s (.cx t (ss.map SW.w)<|sr.map SW.w):=pL (P:=λs=>cO D C s _) h nofun λn g=> @λl p=>QEK (D:=D) (C:=C) (Z (aF g).1) (nX H (aF (aF g).2).1)<|nX H (aF (aF g).2).2
theorem f_ {q:az->Bool} {t:cB} (H:dQ J D) (i: ∀{y f},q y=aC->jS D C f y it) (h:os s .gH (λn=>(n.sr.isEmpty && e9 n.b) && (q n.b && (B9 C t n.a && lJ J C ss n.ss)))=aC):cO D C s (.gH t it<|ss.map SW.w):=pL (P:=λs=>cO D C s _) h nofun λn g=>by have e:=zX (aF (aF g).1).1;rw[e];show @λl K=>QBx (D:=D) (C:=C) (Ng (aF (aF g).1).2) (i (aF (aF g).2).1) (@λd r R=>Pe (aF (aF (aF g).2).2).1)<|nX H (aF (aF (aF g).2).2).2
theorem TS {K:az->Bool} (H:dQ J D) (Z: ∀{y},K y=aC->gh D C y t) (h:os s .qG (λn=>n.sr.isEmpty && (K n.a && lJ J C ss n.ss))=aC):cO D C s (.r9 t<|ss.map SW.w):=pL (P:=λs=>cO D C s _) h nofun λn g=>by have e:=zX (aF g).1;show (?_);rw[e];show @λl r=>QAd (D:=D) (C:=C) (Z (aF (aF g).2).1)<|nX H (aF (aF g).2).2
theorem QCu (h:os s .ret (λn=>nn n.oa)=aC):cO D C s (.ret aE):=pL (P:=λs=>cO D C s _) h nofun λn g=>by show (?_);rw[DF g];show @λl K=>QEF (D:=D) (C:=C)
theorem Yu (A: ∀{y},ka y=aC->bI D C y a) (h:os s .ret (λn=>n.oa.any ka)=aC):cO D C s (.ret<|aA a):=pL (P:=λs=>cO D C s _) h nofun λn g=>by show (?_);obtain ⟨y,e,g⟩:=QCy g;rw[e];show @λl K=>PU (D:=D) (C:=C)<|A g
theorem VS (h:os s .cont (λO=>aC)=aC):cO D C s .cont:=pL (P:=λs=>cO D C s _) h nofun λn g=> @λl K=>QDw (D:=D) (C:=C)
theorem QED (H:dQ J D) (h:os s .gH (λn=>n.sr.isEmpty && iA n.b λy m p xs q=>(m==("items")) && (iC y p q xs && (xs.isEmpty && cL y λm=>fA C m i)))=aC):cO D C s (.rU i):=
 pL (P:=λs=>cO D C s _) h nofun λn g=>by
  have e:=zX (aF g).1;have g:=(aF g).2;generalize n.b=b at g;show (?_);rw[e];induction ro g with
  |mk t=>
   clear h g e;obtain rfl:=QIi.mp (aF t).1;have o:=aF (aF t).2;have m:=qd (nm:=("items")) o.1;cases zX (aF o.2).1;induction gI (aF o.2).2 with
   |mk z=>show @λl K=>Xw (H:=H.H) (D:=D) (C:=C) (mE z) m
def Lg (C:Fc) (b:Bool) (ka:az->Bool) (f:az) (xs:List az) (ks:List yL) (q:cA):Bool:=um f λy n p=>(n==("_convert_string_type" :aN)) && ((cL y λm=>fA C m 0) && ((p.endLine==q.line) && ((dk xs λz=>e9 z && ka z) && dk ks λk=>(k.arg==aA ("name" :aN)) && lH k.value λc=>decide (c=ju b))))
theorem QBO (H:dQ J D) (s: ∀{y},ka y=aC->bI D C y a) (h:zf x (Lg C b ka)=aC):bI D C x (.conv b a):=by
 induction ID h with
 | @mk f xs ks q g=>
  induction HM g with
  | @mk y n p t=>
   clear g h;obtain rfl:=QIi.mp (aF t).1;have g2:=aF (aF t).2;have g3:=aF (aF g2.2).2;have e:=(aF g2.2).1;induction gI g2.1 with
   |mk W=>
    induction nu g3.1 with
    |mk r=>
     induction nu g3.2 with
     | @mk k A=>
      obtain ⟨j,L,Z⟩:=k;clear g3 t g2;obtain rfl:j=aA _:=QIi.mp (aF A).1;have U:lH L (λc=>decide (c=ju b))=true:=(aF A).2;induction xv U with
      |mk Y=>
       cases iD Y
       show @λl K=>QFR (H:=H.H) (D:=D) (C:=C) (mE W) ⟨λO=>rfl,λenv=>by simp only[xO (aF r).1];rfl,e⟩ (xO (aF r).1)<|s (aF r).2
theorem Tq (H:dQ J D) (h:(λx=>um x λu n O=>(n==("_headers")) && cL u λn=>fA C n 0) x=aC):jS D C f x .gL:= @λl K=>QDN (H:=H.H) (D:=D) (C:=C)<|LS H h
end
def GF (op:mO):List XE->XE
 |[],_,_,_,_=>True
 |e::es,o,s,l,k=>match es with
  |[]=>e o s l k
  |_::_=>e o s l λv l s=>Hk l v s λb s=>Il op b s (λs=>k v l s) λs=>GF op es o s l k
theorem QEl (h:hj es xs):bc (E.eH op es) (GF op xs):=by
 induction h with
 |nil=>show ⟨λO O=>trivial⟩
 | @cons w ws x xs a h i=>induction h with
  |nil=>show ⟨λq f=>a.r q f⟩
  |cons b h=>show ⟨λq f=>a.r q λO O O q=>MG q λO O q=>LJ q (λO q=>f _ _ _ q) λO q=>i.r q f⟩
theorem Tt {J:Ci} {D:Wd} (H:dQ J D): ∀{xs:List az},eN J C es xs=aC->xs≠[]->ym D C o xs (es.map EW.w):=by
 induction es with
 |nil=>show λ{xs} h n=>by cases xs;show QIe rfl n;show dP h
 |cons e es i=>
  show λ{xs} h n=>by
   cases xs with
   |nil=>show QIe rfl n
   |cons x xs=>
    have a:= @EW.snd e J D C x H (aF (aF h).1).2;clear n;cases es with
    |nil=>cases xs with
     |nil=>show @λp l K=>VI a
     |cons y Y=>cases (aF h).2
    |cons u es=>cases xs with
     |nil=>cases (aF h).2
     |cons y Y=>show @λp l K=>QDJ a<|i (aF h).2 nofun
theorem QDC {J:Ci} {D:Wd} (H:dQ J D) (h:zq x (λp xs=>decide (p=o) && (eN J C es xs && !xs.isEmpty))=aC):bI D C x (.eH o<|es.map EW.w):=by
 induction P8 h with
 |mk g=>
  cases iD (aF g).1
  have t:=(aF g).2;show @λl K=>QEp (Tt H (aF t).1 λe=>by rw[e] at t;show dP<|(aF t).2)
namespace EW
noncomputable def none:EW:=⟨.none,X.ret<|.d br,An,λO O x=>lH x λc=>decide (c=ko),λO h=>Di Up h⟩
noncomputable def bool (b:Bool):EW:=⟨.bool b,X.ret<|.d<|fI b,An,λO O x=>lH x λc=>decide (c=ju b),λO h=>Di t_ h⟩
noncomputable def int (i:Int):EW:=⟨.int i,X.ret<|.d<|aB i,An,λO O x=>lH x λc=>decide (c=QGO i),λO h=>Di Vt h⟩
noncomputable def str (s:aN):EW:=⟨.str s,X.ret<|.d<|aI s,An,λO O x=>lH x λc=>decide (c=tA s),λO h=>Di Ni h⟩
noncomputable def bL (i:Nat):EW:=⟨.bL i,X.bL i,QCG,λO C x=>cL x λn=>fA C n i,λO h=>QCY h⟩
noncomputable def rW (i:Nat):EW:=⟨.rW i,X.rW i,QDT,λO C x=>C.ow && cL x λn=>fA C n i,λO h=>QDx h⟩
noncomputable def aL (op:jY) (a b:EW):EW:=⟨.aL op a.w b.w,X.aL op a.x b.x,Oj a.ok b.ok,λJ C x=>yo x λy o z=>decide (o=op) && (a.cK J C y && b.cK J C z),λH h=>Yx (a.snd H) (b.snd H) h⟩
noncomputable def neg (a:EW):EW:=⟨.neg a.w,X.neg a.x,QEo a.ok,λJ C x=>x7 x λp y=>decide (p=QGP) && a.cK J C y,λH h=>Pg Vv (a.snd H) h⟩
noncomputable def inv (a:EW):EW:=⟨.inv a.w,X.inv a.x,ZD a.ok,λJ C x=>x7 x λp y=>decide (p=QGR) && a.cK J C y,λH h=>Pg QEc (a.snd H) h⟩
noncomputable def cmp (op:jF) (a b:EW):EW:=⟨.cmp op a.w b.w,X.ofT<|X.Bh op a.x b.x,Te a.ok b.ok,λJ C x=>mq x op λy z=> !uS op z && (a.cK J C y && b.cK J C z),λH h=>(Oc (a.snd H) (b.snd H) h).1⟩
noncomputable def eH (op:mO) (es:List EW):EW:=⟨.eH op<|es.map EW.w,GF op<|es.map EW.x,QEl<|mB es,λJ C x=>zq x λp xs=>decide (p=op) && (eN J C es xs && !xs.isEmpty),λH h=>QDC H h⟩
noncomputable def ite (c:TW) (a b:EW):EW:=⟨.ite c.w a.w b.w,X.ite c.x a.x b.x,Ye c.ok a.ok b.ok,λJ C x=>IG x λz y w=>c.cK J C z && (a.cK J C y && b.cK J C w),λH h=>QCF (c.snd H) (a.snd H) (b.snd H) h⟩
noncomputable def list (es:List EW):EW:=⟨.list<|es.map EW.w,X.list<|es.map EW.x,GD<|mB es,λJ C x=>wi x<|eN J C es,λH h=>(Px H h).1⟩
noncomputable def tup (es:List EW):EW:=⟨.tup<|es.map EW.w,X.tup<|es.map EW.x,z_<|mB es,λJ C x=>lY x<|eN J C es,λH h=>Vo H h⟩
noncomputable def comp (e:EW) (t:cB) (it:IW) (cs:List TW):EW:=⟨.comp e.w t it.w<|cs.map TW.w,X.comp e.w t it.x<|cs.map TW.w,Lu it.ok,λJ C x=>xB x<|xl J C (e.cK J) t (it.cK J C) cs,λH h=>W9 H (e.snd H) (it.snd H) h⟩
noncomputable def bA (a b:EW):EW:=⟨.bA a.w b.w,X.bA a.x b.x,Yh a.ok b.ok,λJ C x=>mZ x λy z=>Ct z && (a.cK J C y && b.cK J C z),λH h=>QCz (a.snd H) (b.snd H) h⟩
noncomputable def px (e:Option EW):XE:=match e with|some e=>e.x|.none=>X.ret<|.d br
theorem IK (e:Option EW):bc (pw e) (px e):=by cases e;show An;show EW.ok _
noncomputable def d9 (a:EW) (l i st:Option EW):EW:=⟨.d9 a.w (pw l) (pw i)<|pw st,X.d9 a.x (px l) (px i)<|px st,Tg a.ok (IK l) (IK i)<|IK st,λJ C x=>mZ x λy z=>w8 z λp q r=>a.cK J C y && (vV J C l p && (vV J C i q && vV J C st r)),λH h=>TN H (a.snd H) h⟩
noncomputable def call (f:Nat) (es:List EW):EW:=⟨.call f<|es.map EW.w,X.call f<|es.map EW.x,Vu<|mB es,λJ C x=>iJ x λn xs=>(J.fns.lookup f==some n) && (j5 C n && eN J C es xs),λH h=>QCk H h⟩
noncomputable def kA (f i:Nat) (es:List EW):EW:=⟨.kA f i<|es.map EW.w,X.kA f i<|es.map EW.x,QAE<|mB es,λJ C x=>iJ x λn xs=>J.dV f C && (fA C n i && eN J C es xs),λH h=>QCW H h⟩
noncomputable def bi (b:Bi) (es:List EW):EW:=⟨.bi b<|es.map EW.w,X.bi b<|es.map EW.x,Z7<|mB es,λJ C x=>iJ x λn xs=>(n==y8 b) && (gK C n && eN J C es xs),λH h=>kBi H h⟩
noncomputable def sm (m:Sm) (a:EW) (es:List EW):EW:=⟨.sm m a.w<|es.map EW.w,X.sm m a.x<|es.map EW.x,Xj a.ok<|mB es,λJ C x=>iA x λy n p xs q=>(n==Bn m) && (iC y p q xs && (a.cK J C y && eN J C es xs)),λH h=>kSm H (a.snd H) h⟩
noncomputable def sU (a:EW) (y z:aN):EW:=⟨.sU a.w y z,X.sU a.x y z,QAI a.ok,λJ C x=>iA x λu n p xs q=>(n==("replace" :aN)) && (iC u p q xs && (!(y==z) && (a.cK J C u && Im (λs r=>(lH s λc=>decide (c=tA y)) && (lH r λc=>decide (c=tA z))) xs))),λH h=>QCt (a.snd H) h⟩
noncomputable def ig (n:Bool) (a:EW):EW:=⟨.ig n a.w,X.ofT<|X.ig n a.x,QDy a.ok,λJ C x=>mq x (if n then oP else tC) λy z=>isNone z && a.cK J C y,λH h=>(Oz (a.snd H) h).1⟩
noncomputable def rg (a:EW):EW:=⟨.rg a.w,X.rg a.x,Uu a.ok,λJ C x=>mq x A3 λy z=>(cL z λn=>(n==("b1_set" :aN)) && j5 C n) && a.cK J C y,λH h=>Xp H (a.snd H) h⟩
noncomputable def si (a:EW):EW:=⟨.si a.w,X.si a.x,Va a.ok,λJ C x=>iA x λu n p xs q=>(cL u λn=>(n==("b3_exceptions" :aN)) && j5 C n) && ((n==("get" :aN)) && (iC u p q xs && dk xs λy=>e9 y && a.cK J C y)),λH h=>kB3 H (a.snd H) h⟩
noncomputable def sG (s:aN):EW:=⟨.sG s,X.sG s,QDi,λO C x=>cL x λn=>(n==s) && j5 C n,λH h=>QEq H h⟩
noncomputable def kZ (k:Nat) (a:EW) (es:List EW):EW:=⟨.kZ k a.w<|es.map EW.w,X.kZ k a.x<|es.map EW.x,Pw a.ok<|mB es,λJ C x=>iA x λy n p xs q=>(J.hm.lookup k==some n) && (di k 20 && (iC y p q xs && (a.cK J C y && eN J C es xs))),λH h=>(QG H (a.snd H) h).1⟩
noncomputable def y_ (k:Nat) (a:EW) (es:List EW):EW:=⟨.kZ k a.w<|es.map EW.w,X.kZ k a.x<|es.map EW.x,Pw a.ok<|mB es,λJ C x=>iJ x λn xs=>(J.hm.lookup k==some n) && (iF 20 k && (j5 C n && match xs with|y::xs=>e9 y && (a.cK J C y && eN J C es xs)|[]=>aD)),λH h=>WB H (a.snd H) h⟩
noncomputable def ly (k:Nat) (a:EW) (es:List EW):EW:=⟨.ly k a.w<|es.map EW.w,X.ly k a.x<|es.map EW.x,Ph a.ok<|mB es,λJ C x=>iA x λy n p xs q=>(J.hm.lookup k==some n) && (di k 20 && (iC y p q xs && (a.cK J C y && eN J C es xs))),λH h=>(QG H (a.snd H) h).2⟩
noncomputable def conv (b:Bool) (a:EW):EW:=⟨.conv b a.w,X.conv b a.x,VG a.ok,λJ C x=>zf x<|Lg C b<|a.cK J C,λH h=>QBO H (a.snd H) h⟩
noncomputable def gL:EW:=⟨.gL,X.gL,TO,λO C x=>um x λu n O=>(n==("_headers" :aN)) && cL u λn=>fA C n 0,λH h=>LS H h⟩
end EW
namespace TW
noncomputable def not (t:TW):TW:=⟨.not t.w,X.not t.x,QDE t.ok,λJ C x=>x7 x λp y=>decide (p=El) && t.cK J C y,λH h=>TV (t.snd H) h⟩
noncomputable def eH (op:mO) (ts:List TW):TW:=⟨.eH op<|ts.map TW.w,bX op<|ts.map TW.x,XN<|Nh ts,λJ C x=>zq x λp es=>decide (p=op) && Bv J C ts es,λH h=>B_ H h⟩
noncomputable def bL (i:Nat):TW:=⟨.bL i,X.MF i,QEg,λO C x=>cL x λn=>fA C n i,λO h=>QCl h⟩
noncomputable def cmp (op:jF) (a b:EW):TW:=⟨.cmp op a.w b.w,X.Bh op a.x b.x,ZT a.ok b.ok,λJ C x=>mq x op λy z=> !uS op z && (a.cK J C y && b.cK J C z),λH h=>(Oc (a.snd H) (b.snd H) h).2⟩
noncomputable def ig (n:Bool) (a:EW):TW:=⟨.ig n a.w,X.ig n a.x,WJ a.ok,λJ C x=>mq x (if n then oP else tC) λy z=>isNone z && a.cK J C y,λH h=>(Oz (a.snd H) h).2⟩
def gK (n b:Bool) (a:EW):TW:=⟨.gK n b a.w,X.gK n b a.x,QFS a.ok,λJ C x=>mq x (if n then oP else tC) λy z=>(lH z λc=>decide (c=ju b)) && a.cK J C y,λH h=>QBQ (a.snd H) h⟩
end TW
namespace NW
noncomputable def list (es:List EW):NW:=⟨.list<|es.map EW.w,X.list<|es.map EW.x,GD<|mB es,λJ C x=>wi x<|eN J C es,λH h=>(Px H h).2⟩
noncomputable def mul (es:List EW) (b:EW):NW:=⟨.aL cV (.list<|es.map EW.w) b.w,X.aL cV (X.list<|es.map EW.x) b.x,Oj (GD<|mB es) b.ok,λJ C x=>yo x λy o z=>decide (o=cV) && (wi y (eN J C es) && b.cK J C z),λH h=>YZ H (b.snd H) h⟩
noncomputable def items (a:EW) (es:List EW):NW:=⟨.ly 2 a.w<|es.map EW.w,X.ly 2 a.x<|es.map EW.x,Ph a.ok<|mB es,λJ C x=>iA x λy n p xs q=>(J.hm.lookup 2==some n) && (iC y p q xs && (a.cK J C y && eN J C es xs)),λH h=>Z6 H (a.snd H) h⟩
end NW
namespace IW
noncomputable def bL (i:Nat):IW:=⟨.bL i,X.HL i,VV,λO C x=>cL x λn=>fA C n i,λO h=>WN h⟩
noncomputable def fv (a:EW):IW:=⟨.fv a.w,X.fv a.x,Xe a.ok,λJ C x=>iJ x λn xs=>(n==("range" :aN)) && (gK C n && eN J C [a] xs),λH h=>(Qi H h).1 _ _ rfl⟩
noncomputable def rm (a b:EW):IW:=⟨.rm a.w b.w,X.rm a.x b.x,QBi a.ok b.ok,λJ C x=>iJ x λn xs=>(n==("range" :aN)) && (gK C n && eN J C [a,b] xs),λH h=>(Qi H h).2 _ _ _ rfl⟩
noncomputable def rev (a:EW):IW:=⟨.rev a.w,X.rev a.x,QEV a.ok,λJ C x=>iJ x λn xs=>(n==("reversed" :aN)) && (gK C n && eN J C [a] xs),λH h=>QBz H h⟩
noncomputable def m9 (a:EW):IW:=⟨.m9 a.w,X.m9 a.x,UN a.ok,a.cK,λH h=>QAe<|a.snd H h⟩
noncomputable def gL:IW:=⟨.gL,X.KO,Ue,λO C x=>um x λu n O=>(n==("_headers" :aN)) && cL u λn=>fA C n 0,λH h=>Tq H h⟩
end IW
open EW renaming int->aH,list->cC,call->cZ,str->eI,comp->eO,tup->hR,neg->je,aL->jf,bL->rN,conv->yl,bool->Su
open TW renaming cmp->bY
theorem VC {J:Ci} {D:Wd} {ka:az->Bool} (H:dQ J D) (A: ∀{y},ka y=aC->bI D C y a) (h:mq x oP (λy z=>(iJ y λn xs=>(n==("type")) && (gK C n && dk xs λu=>e9 u && ka u)) && (cL z λn=>(n==("int")) && gK C n))=aC):gh D C x (.rZ a):=by
 induction AK h with
 |mk g=>
  induction sP (aF g).1 with
  |mk t=>
   clear h;obtain rfl:=QIi.mp (aF t).1;induction nu (aF (aF t).2).2 with
   | @mk u o=>
    induction gI (aF g).2 with
    |mk Z=>clear g;obtain rfl:=QIi.mp (aF Z).1;show @λl K=>Vx (H:=H.H) (D:=D) (C:=C) (xf (aF (aF t).2).1) (xf (aF Z).2) (sZ<|iH.mpr ⟨(aF o).1,rfl⟩) (xO (aF o).1)<|A (aF o).2
def TW.rZ (a:EW):TW:=⟨.rZ a.w,X.LB a.x,XM a.ok,λJ C x=>mq x oP λy z=>(iJ y λn xs=>(n==("type" :aN)) && (Mine.gK C n && dk xs λu=>e9 u && a.cK J C u)) && (cL z λn=>(n==("int" :aN)) && Mine.gK C n),λH h=>VC H (a.snd H) h⟩
namespace SW
noncomputable def one (i:Nat) (a:EW):SW:=⟨.asg (.one i) a.w,X.asg (.one i) a.x,B0 a.ok,λJ C s=>os s .asg λn=>dk n.es λt=>cL t λx=>ft C x i && (jE n.a && a.cK J C n.a),λH h=>Xf (a.snd H) h⟩
noncomputable def tup (is:List Nat) (a:EW):SW:=⟨.asg (.tup is) a.w,X.asg (.tup is) a.x,B0 a.ok,λJ C s=>os s .asg λn=>dk n.es λt=>lY t λxs=>nC (λx i=>cL x λn=>ft C n i) xs is && (zH n.a && (jE n.a && a.cK J C n.a)),λH h=>QBD (a.snd H) h⟩
noncomputable def yp (is:List Nat) (a:EW):SW:=⟨.asg (.tup is) a.w,X.asg (.tup is) a.x,B0 a.ok,λJ C s=>os s .asg λn=>dk n.es λt=>lY t λxs=>lY n.a λvs=>(Cw C.K xs vs && (Iw C (vn C.K xs) is && decide is.Nodup)) && (jE n.a && a.cK J C n.a),λH h=>Ts (a.snd H) h⟩
noncomputable def cmp (i:Nat) (e:EW) (t:cB) (it:IW) (cs:List TW):SW:=⟨.asg (.one i)<|.comp e.w t it.w<|cs.map TW.w,X.asg (.one i)<|X.comp e.w t it.x<|cs.map TW.w,B0<|Lu it.ok,λJ C s=>os s .asg λn=>dk n.es λu=>cL u λx=>xB n.a λf gs R=>ft C x i && xl J C (e.cK J) t (it.cK J C) cs f gs R,λH h=>QBy H (e.snd H) (it.snd H) h⟩
noncomputable def own (i:Nat) (a:NW):SW:=⟨.own i a.w,X.own i a.x,Z3 a.ok,λJ C s=>os s .asg λn=>dk n.es λt=>cL t λx=>(C.nw && ft C x i) && (jE n.a && a.cK J C n.a),λH h=>Y8 (a.snd H) h⟩
noncomputable def aug (i:Nat) (op:jY) (a:EW):SW:=⟨.aug i op a.w,X.aug i op a.x,QEw a.ok,λJ C s=>os s .aug λn=>decide (n.op=op) && cL n.a λx=>(ft C x i && IU (C.K x) && (!(x==("__classdict__" :aN)) && !(x==("__debug__" :aN)))) && a.cK J C n.b,λH h=>QEj (a.snd H) h⟩
noncomputable def expr (a:EW):SW:=⟨.expr a.w,X.expr a.x,QFa a.ok,λJ C s=>os s .ex λn=>jE n.a && (e9 n.a && a.cK J C n.a),λH h=>Yy (a.snd H) h⟩
noncomputable def app (i:Nat) (a:EW):SW:=⟨.app i a.w,X.app i a.x,Xb a.ok,λJ C s=>os s .ex λn=>iA n.a λy n p xs q=>(n==("append" :aN)) && (iC y p q xs && ((C.ow && cL y λm=>fA C m i) && dk xs λz=>e9 z && a.cK J C z)),λH h=>UI (a.snd H) h⟩
noncomputable def qe (a:EW):SW:=⟨.qe a.w,X.qe a.x,Vr a.ok,λJ C s=>os s .ex λn=>iA n.a λy n p xs q=>(n==("append" :aN)) && (iC y p q xs && (EW.gL.cK J C y && dk xs λz=>e9 z && a.cK J C z)),λH h=>ZV H (a.snd H) (EW.gL.snd H) h⟩
noncomputable def rT (a:EW):SW:=⟨.rT a.w,X.rT a.x,YX a.ok,λJ C s=>os s .asg λn=>dk n.es λt=>mZ t λo y=>(w8 y λp q r=>nn p && (nn q && nn r)) && (e9 n.a && (a.cK J C n.a && EW.gL.cK J C o)),λH h=>QBB H (a.snd H) (EW.gL.snd H) h⟩
noncomputable def sS (i:Nat):SW:=⟨.sS i,X.sS i,Zf,λJ C s=>os s .ex λn=>iA n.a λy n p xs q=>(n==("reverse" :aN)) && (iC y p q xs && ((C.ow && cL y λm=>fA C m i) && xs.isEmpty)),λH h=>QCH h⟩
noncomputable def set (i:Nat) (b a:EW):SW:=⟨.set i b.w a.w,X.set i b.x a.x,Uy b.ok a.ok,λJ C s=>os s .asg λn=>dk n.es λt=>mZ t λo y=>(C.ow && cL o λm=>fA C m i) && (jE n.a && (a.cK J C n.a && b.cK J C y)),λH h=>QAk (a.snd H) (b.snd H) h⟩
noncomputable def ri (i j:Nat):SW:=⟨.ri i j,X.ri i j,Zb,λJ C s=>os s .asg λn=>dk n.es λt=>cL t λx=>iJ n.a λf xs=>(f==("Headers" :aN)) && (dk xs λy=>cL y λm=>fA C m j) && ((C.nw && (C.hn && C.ow)) && (ft C x i && j5 C ("Headers" :aN))),λH h=>QEC H h⟩
noncomputable def qx (i:Nat) (a:EW):SW:=⟨.qx i a.w,X.qx i a.x,U9 a.ok,λJ C s=>os s .del λn=>dk n.es λt=>mZ t λo y=>(cL o λm=>fA C m i) && a.cK J C y,λH h=>QDG H (a.snd H) h⟩
noncomputable def cx (c:TW) (ss sr:List SW):SW:=⟨.cx c.w (ss.map SW.w)<|sr.map SW.w,X.cx c.x (ss.map SW.x)<|sr.map SW.x,Zr c.ok (rb ss)<|rb sr,λJ C s=>os s .cx λn=>c.cK J C n.a && (lJ J C ss n.ss && lJ J C sr n.sr),λH h=>QEr H (c.snd H) h⟩
noncomputable def gH (t:cB) (it:IW) (ss:List SW):SW:=⟨.gH t it.w<|ss.map SW.w,X.gH t it.x<|ss.map SW.w,ZC it.ok,λJ C s=>os s .gH λn=>(n.sr.isEmpty && e9 n.b) && (it.cK J C n.b && (B9 C t n.a && lJ J C ss n.ss)),λH h=>f_ H (it.snd H) h⟩
noncomputable def r9 (c:TW) (ss:List SW):SW:=⟨.r9 c.w<|ss.map SW.w,X.r9 c.w<|ss.map SW.w,VP,λJ C s=>os s .qG λn=>n.sr.isEmpty && (c.cK J C n.a && lJ J C ss n.ss),λH h=>TS H (c.snd H) h⟩
noncomputable def ret (a:EW):SW:=⟨.ret<|some a.w,X.LW a.x,QDe a.ok,λJ C s=>os s .ret λn=>n.oa.any<|a.cK J C,λH h=>Yu (a.snd H) h⟩
noncomputable def B8:SW:=⟨.ret none,X.B8,QEx,λJ C s=>os s .ret λn=>nn n.oa,λH h=>QCu h⟩
noncomputable def cont:SW:=⟨.cont,X.cont,QEk,λJ C s=>os s .cont λO=>aC,λH h=>VS h⟩
noncomputable def defn (i f:Nat):SW:=⟨.defn i f,X.defn i f,QAr,λJ C s=>J.xo f i C s,λH h=>H.xo _ _ _ _ h⟩
noncomputable def rQ (i:Nat) (es:List EW):SW:=⟨.rQ i<|es.map EW.w,X.rQ i<|es.map EW.x,YK<|mB es,λJ C s=>os s .asg λn=>dk n.es λt=>cL t λx=>iJ n.a λf xs=>(f==("compute_powers" :aN)) && (eN J C es xs && (ft C x i && j5 C ("compute_powers" :aN))),λH h=>QBr H h⟩
noncomputable def rU (i:Nat):SW:=⟨.rU i,X.rU i,QDQ,λJ C s=>os s .gH λn=>n.sr.isEmpty && iA n.b λy m p xs q=>(m==("items" :aN)) && (iC y p q xs && (xs.isEmpty && cL y λm=>fA C m i)),λH h=>QED H h⟩
noncomputable def stuck:SW:=⟨.stuck,X.stuck,VU,λO O O=>aC,λO O=> @λO O h=>h.elim⟩
end SW
theorem QIQ (b:List SW) (hs:Hs) (l:Ls) (K:Fl->Ls->Prop):lk l λL=>sX (b.map SW.x) o hs L λv L O=>K v L->sW (b.map SW.w) o l K:=oX<|(ry<|rb b).r id λO O O q=>q
open SW renaming one->b7,ret->cq,own->uj,tup->wI,cmp->wJ,aug->Bb,app->Bc,defn->Sn,expr->So,stuck->Sp
namespace B01
abbrev cw:EW:=.bL 0
abbrev b8:EW:=.bL 1
abbrev aU:EW:=.bL 201
abbrev nz:EW:=.bL 200
abbrev qY:EW:=.bL 202
abbrev cS:EW:=.bL 3
abbrev cF:EW:=.bL 2
abbrev dv:EW:=.bL 4
abbrev dO:EW:=.bL 5
abbrev iZ:EW:=.bL 6
abbrev iP:EW:=.bL 7
abbrev Dg:EW:=.bL 9
abbrev nU:EW:=.bL 8
abbrev qH:EW:=.bL 10
abbrev rk:EW:=.bL 12
abbrev pV:EW:=.bL 17
abbrev ze:EW:=.bL 18
abbrev DY:EW:=.bL 20
abbrev yn:EW:=.bL 14
abbrev AA:EW:=.bL 15
abbrev ba:EW:=.bL 401
noncomputable abbrev xS:cB:=nP 6
noncomputable abbrev bh:cB:=nP 201
noncomputable abbrev h8:cB:=nP 5
noncomputable abbrev uC:cB:=nP 17
noncomputable abbrev kQ:cB:=nP 3
noncomputable abbrev dZ:cB:=nP 401
noncomputable abbrev lI:cB:=nP 4
noncomputable abbrev qr:cB:=nP 12
def Cr:List SW:=[b7 1<|aH 2048,Sn 2 0,.rQ 3 [.bi .len [cw],aH 5,b8],cq<|.kA 0 2 [aH 0,.bi .len [cw]]]
def KH:List SW:=[.cx (bY Ja (.aL dc aU nz) b8) [cq<|.bi .vA [.d9 cw (aA nz) (aA aU) aE]] [],b7 202<|.aL mU (.aL bV (.aL bV nz aU)<|aH 1)<|aH 1,cq<|.aL bV (.kA 0 2 [qY,aU])<|.aL dj (.aL cV (.kA 0 2 [nz,qY])<|.bA cS<|.aL dc aU qY)<|.aL dc aU qY]
def PN:List SW:=[b7 0<|.sU (.sm .rstrip cw []) ⟨#[95]⟩ ⟨#[]⟩,cq<|cZ 1 [cw]]
def u6:List SW:=[.cx (bY Ja (.aL dc (.sm .bits (.bL 0) [])<|.bL 2)<|.sG ⟨#[95,68,73,86,95,76,73,77,73,84]⟩) [cq<|.bi .divmod [.bL 0,.bL 1]] [],b7 3<|.aL fP (.bL 2)<|aH 1,.cx (.bL 3) [Bb 0 dj<|aH 1,Bb 1 dj<|aH 1,Bb 2 bV<|aH 1] [],b7 4<|.aL mU (.bL 2)<|aH 1,b7 5<|.aL dc (.aL dj (aH 1)<|.bL 4)<|aH 1,.yp [6,7]<|hR [.aL mU (.bL 1)<|.bL 4,.aL fP (.bL 1)<|.bL 5],wI [8,9]<|cZ 4 [.aL mU (.bL 0)<|.bL 2,.aL fP (.aL mU (.bL 0)<|.bL 4)<|.bL 5,.bL 1,.bL 6,.bL 7,.bL 4],wI [10,9]<|cZ 4 [.bL 9,.aL fP (.bL 0)<|.bL 5,.bL 1,.bL 6,.bL 7,.bL 4],.cx (.bL 3) [Bb 9 mU<|aH 1] [],cq<|hR [.aL QHG (.aL dj (.bL 8)<|.bL 4)<|.bL 10,.bL 9]]
def uq:List SW:=[Bb 6 dc<|aH 1,Bb 7 bV cF]
def vK:TW:=bY BF iP<|aH 0
def b_div3n2n:List SW:=[.cx (bY b9 (.aL mU cw dO) cS) [.yp [6,7]<|hR [.aL dc (.aL dj (aH 1) dO)<|aH 1,.aL bV (.aL dc cw<|.aL dj cS dO) cS]] [wI [6,7]<|cZ 3 [cw,cS,dO]],b7 7<|.aL dc (.aL QHG (.aL dj iP dO) b8)<|.aL cV iZ dv,.r9 vK uq,cq<|hR [iZ,iP]]
def Ap:List SW:=[uj 2<|.mul [aH 0]<|.aL fy (.aL dc (.aL bV (.sm .bits (.bL 0) [])<|.bL 1)<|aH 1)<|.bL 1,Sn 3 1,.cx (.bL 0) [So<|.kA 1 3 [.bL 0,aH 0,.bi .len [.bL 2]]] [],cq<|.bL 2]
def Ff:List SW:=[.cx (bY b9 (.aL bV aU<|aH 1) qY) [SW.set 2 aU nz,.B8] [],b7 203<|.aL mU (.aL bV aU qY)<|aH 1,b7 204<|.aL cV (.aL dc (.bL 203) aU) b8,b7 205<|.aL mU nz<|.bL 204,b7 206<|.aL Operator.BitXor nz<|.aL dj (.bL 205)<|.bL 204,So<|.kA 1 3 [.bL 206,aU,.bL 203],So<|.kA 1 3 [.bL 205,.bL 203,qY]]
def B4:List SW:=[Sn 2 2,cq<|EW.ite (.bL 0) (.kA 2 2 [aH 0,.bi .len [.bL 0]])<|aH 0]
def IA:List SW:=[.cx (bY b9 (.aL bV nz<|aH 1) aU) [cq<|.bA cw nz] [],b7 202<|.aL mU (.aL bV nz aU)<|aH 1,b7 203<|.aL cV (.aL dc qY nz) b8,cq<|.aL bV (.aL dj (.kA 2 2 [qY,aU])<|.bL 203)<|.kA 2 2 [nz,qY]]
def wc:List SW:=[wI [7,4]<|cZ 3 [.aL bV (.aL dj dv cF) iZ,b8,cF],Bc 5 iP]
def b_divmod_pos:List SW:=[b7 2<|.sm .bits b8 [],b7 3<|cZ 5 [cw,cF],b7 4<|aH 0,uj 5<|.list [],.gH xS (IW.rev cS) wc,.sS 5,b7 8<|cZ 6 [.rW 5,cF],cq<|hR [nU,dv]]
def Dx:List SW:=[.cx (bY b9 b8<|aH 0) [Sp] [.cx (bY BF b8<|aH 0) [wI [2,3]<|cZ 8 [je cw,je b8],cq<|hR [cF,je cS]] [.cx (bY BF cw<|aH 0) [wI [2,3]<|cZ 8 [EW.inv cw,b8],cq<|hR [EW.inv cF,.aL bV b8<|EW.inv cS]] [cq<|cZ 7 [cw,b8]]]]]
def Ol:List SW:=[cq<|.rg<|.bi .ord [cw]]
def HH:List SW:=[b7 1<|.si<|.bi .ord [cw],.cx (.ig aC b8) [cq b8] [],cq<|.sm .lower cw []]
def Fb:List SW:=[b7 1<|yl aC<|.sm .lower b8 [],.rT<|eO aU bh .gL [bY dT (.sm .lower (.bA aU<|aH 0) []) b8]]
def HS:List SW:=[b7 1<|yl aC<|.sm .lower b8 [],cq<|eO (.bA aU<|aH 1) bh .gL [bY b9 (.sm .lower (.bA aU<|aH 0) []) b8]]
def rX:List SW:=[.cx (bY b9 (.sm .lower cS []) b8) [cq dv] []]
def b_get:List SW:=[b7 1<|yl aC<|.sm .lower b8 [],.gH (lV [3,4]) .gL rX,cq cF]
def Bo:List SW:=[cq<|.d9 .gL aE aE aE]
def EB:List SW:=[b7 3<|.ly 4 cw [b8],.cx (.ig aD cS) [.qe<|hR [yl aC b8,yl aD cF],cq cF] [cq cS]]
def Am:List SW:=[uj 4<|.list [],.cx (.ig aC cF) [b7 2<|yl aD cF,Bc 4 cF] [],.rU 3,.qe<|hR [yl aC b8,.sm .join (eI ⟨#[59,32]⟩) [dv]]]
def FT:List SW:=[cq<|eO (.aL bV (.bA b8 aU)<|.bi .sum [.d9 cw (aA aU) aE<|aA<|.bi .len [b8]]) bh (.fv<|.bi .len [b8]) []]
def Pp:List SW:=[b7 2<|cC [aH 97,aH 65,aH 119808,aH 119860,aH 119912,aH 120016,aH 120172,aH 120224,aH 120276,aH 120328,aH 120380,aH 120432],cq<|.bi .chr [.aL dc (.aL bV (.bA cF<|.aL fb b8<|aH 12)<|.bi .ord [cw])<|aH 97]]
def H3:List SW:=[b7 1<|cC [aH 173,aH 847,aH 6150,aH 6155,aH 6156,aH 6157,aH 8203,aH 8204,aH 8205,aH 8288,aH 65279],cq<|.bi .chr [EW.ite (bY BF (.aL fb cw<|aH 27)<|aH 11) (.bA b8<|.aL fb cw<|aH 27)<|.aL bV (aH 65013)<|.aL fb cw<|aH 27]]
def QI:List SW:=[b7 1<|cC [aH 172,aH 174,aH 846,aH 848,aH 6149,aH 6151,aH 6154,aH 6158,aH 8202,aH 8206,aH 8287,aH 8289,aH 65278,aH 65280,aH 65023,aH 65040],cq<|.bi .chr [.bA (.aL bV b8<|cC [aH 11,aH 12,aH 28,aH 29,aH 30,aH 133,aH 8232,aH 8233])<|.aL fb cw<|aH 24]]
def Hl:List SW:=[.cx (bY b9 (.aL fb cF<|aH 2)<|aH 0) [cq<|.aL bV (.bi .chr [.aL bV (.bA (cC [aH 13184,aH 13236,aH 13242]) b8)<|.bA (cC [aH 0,aH 1,aH 3,aH 4]) cw])<|cZ 14 [.aL fy cF<|aH 2]] [],cq<|.aL bV (.aL bV (cZ 13 [.bA (eI ⟨#[112,110,109,107]⟩) cw,.aL fy cF<|aH 2])<|cZ 14 [.aL fy cF<|aH 24])<|cZ 13 [.bA (eI ⟨#[97,118,119]⟩) b8,.aL fy cF<|aH 2]]
def Mh:List SW:=[cq<|.sm .join (eI ⟨#[]⟩) [eO (cZ 11 [aU]) bh (.bL 0) [.gK aD aD<|cZ 10 [aU]]]]
def ve:List SW:=[.cx (bY b9 cF<|aH 0) [cq<|cC [.ig aD<|.kZ 0 cw [dv,.bA cS<|aH 1],.aL bV b8<|cC [cS]]] [],.cx (bY b9 cF<|aH 3) [b7 5<|.aL bV (eO aU bh (.bL 1) [bY b9 (.bA aU<|aH 2)<|.bA cS<|aH 2])<|cC [cS],b7 6<|.kZ 3 cw [dv,.bA cS<|aH 1],cq<|cC [EW.cmp b9 iZ<|.bA (.bA dO<|aH 0)<|aH 1,.aL bV b8<|.d9 (cC [cS]) (aA<|.aL dc (.bi .len [dO])<|aH 1) aE aE]] [],wJ 7 aU bh (.bL 1) [bY dT (.bA aU<|aH 2)<|.bA cS<|aH 2],.qx 0<|.sm .swapcase dv [],.cx (bY b9 cF<|aH 2) [cq<|cC [Su aC,iP]] [],cq<|cC [.ig aD<|.kZ 0 cw [dv,.bA cS<|aH 1],.aL bV iP<|cC [cS]]]
def mc:List SW:=[b7 6<|.aL fy (.bA cw<|aH 2)<|.aL E2 (aH 192)<|.bi .max2 [.aL dc dO<|aH 12,aH 0],.yp [7,8,9]<|hR [.aL fb iZ<|aH 4,.aL fb (.aL fy iZ<|aH 4)<|aH 12,.aL fb (.aL fy iZ<|aH 48)<|aH 4],.cx (bY BF dO<|aH 12) [b7 8<|.aL fb (.aL bV (.bA cw<|aH 1)<|.aL cV (.bA (cC [aH 1,aH 5,aH 7,aH 11])<|.aL fb (.aL fy (.bA cw<|aH 1)<|aH 12)<|aH 4) dO)<|aH 12,.yp [7,9]<|hR [aH 0,.aL fb (.aL fy (.bA cw<|aH 0)<|.aL E2 (aH 4) nU)<|aH 4]] [],b7 10<|.aL bV (.bA (eI ⟨#[112,110,109,107]⟩)<|.aL fy nU<|aH 3)<|.bA (eI ⟨#[97,118,119]⟩)<|.aL fb nU<|aH 3,b7 11<|cZ 17 [cZ 16 [.aL fy nU<|aH 3,.aL fb nU<|aH 3,.aL bV (.aL fy (.bA cw<|aH 1)<|aH 48)<|.aL cV (aH 29) dO]],.cx (bY b9 (.aL fb dO<|aH 2)<|aH 1) [.yp [10,11]<|hR [.sm .upper qH [],.sm .upper (.bL 11) []]] [],b7 12<|.aL bV (.aL bV (eI ⟨#[48,95]⟩)<|.bi .tv [.aL cV Dg b8])<|.bA (cC [eI ⟨#[]⟩,eI ⟨#[32]⟩,eI ⟨#[9]⟩,eI ⟨#[9,32]⟩])<|.aL fb (.aL bV (.bA cw<|aH 2) dO)<|aH 4,wI [13,4]<|.y_ 20 cS [dv,iP,hR [qH,rk,nU,Dg],.bL 11],.cx (TW.not<|.bL 13) [cq<|cC []] []]
def tP:List SW:=[wJ 18 aU bh (.bL 4) [bY b9 (.bA aU<|aH 2) pV],b7 19<|.ly 1 cS [.aL bV (.bA (eI ⟨#[112,110,109,107]⟩)<|.aL fy pV<|aH 3)<|.bA (eI ⟨#[65,86,87]⟩)<|.aL fb pV<|aH 3],.cx (bY dT (.bL 19)<|eO (.bA aU<|aH 1) bh (.bL 18) []) [cq<|cC []] [],wJ 20 (cZ 2 [aU]) bh (.bL 19) [],.cx (.eH v8 [bY dT DY<|eO (.aL cV b8<|.bA aU<|aH 3) bh (.bL 18) [],bY dT (eO aU bh (.bL 20) [.rZ aU])<|cC []]) [cq<|cC []] [],Bc 16<|.bi .sum [DY]]
def b_law_book:List SW:=[uj 2<|.list [hR [eI ⟨#[112,97,119]⟩,eI ⟨#[]⟩]],.ri 3 2,.cx (bY dT (.kZ 3 cS [eI ⟨#[80,65,87]⟩,eI ⟨#[48]⟩])<|eI ⟨#[]⟩) [cq<|cC []] [],b7 4<|cC [],.gH h8 (.fv<|aH 14) mc,b7 14<|.aL bV (cC [hR [eI ⟨#[112,97,119]⟩,eI ⟨#[]⟩]])<|eO (hR [.bA aU<|aH 0,.bA aU<|aH 1]) bh (.bL 4) [],uj 15<|.items cS [],Bc 15<|hR [eI ⟨#[112,97,119]⟩,eI ⟨#[48]⟩],.cx (.eH v8 [bY dT cF yn,bY dT AA<|.aL bV yn<|cC [hR [eI ⟨#[112,97,119]⟩,eI ⟨#[48]⟩]]]) [cq<|cC []] [],uj 16<|.list [],.gH uC (.fv<|aH 12) tP,cq<|.bL 16]
def vW:List SW:=[b7 4<|.aL bV (eO (.aL dc (.bA cS aU)<|.bA b8 aU) bh (.fv<|aH 3) [])<|cC [aH 0],Bc 2<|.bi .sum [eO (.aL dj (aH 1) aU) bh (.fv<|aH 4) [bY b9 (.bA dv aU)<|.bi .lZ [dv]]]]
def b_law_crowded:List SW:=[uj 2<|.list [],.gH kQ (.bL 0) vW,b7 5<|cC [aH 0,aH 1,aH 1,aH 2,aH 1,aH 2,aH 2,aH 3],wJ 6 aU bh (.rm (aH 1)<|aH 8) [bY BG (.bi .len [eO ba dZ (.bL 2) [bY b9 (.aL fP ba aU) ba]])<|.bA dO aU],cq<|eO aU bh (.bL 6) [bY b9 (eO ba dZ (.bL 6) [.eH mR [bY b9 (.aL fP ba aU) ba,bY dT ba aU]])<|cC []]]
def qJ:List SW:=[b7 6<|.aL fb (.aL bV cF dO)<|aH 3,.cx (bY b9 (.aL fP (.aL mU b8 iZ)<|aH 1)<|aH 0) [b7 4<|.aL bV dv<|cZ 14 [.aL bV (.aL fy cF<|aH 3) iZ]] [],b7 4<|.aL bV (.aL bV (.aL bV dv<|.aL cV (eI ⟨#[46]⟩)<|.aL bV (aH 1)<|.bA cw iZ)<|cZ 13 [.bA (eI ⟨#[97,118,119]⟩) iZ,.aL bV (.aL fy cF<|aH 81) dO])<|.bA cS<|.aL fb (.aL bV (.aL fy cF<|aH 7) dO)<|aH 3]
def b_law_mail:List SW:=[b7 3<|cC [eI ⟨#[10]⟩,eI ⟨#[13]⟩,eI ⟨#[13,10]⟩],b7 4<|eI ⟨#[]⟩,.gH h8 (.fv<|aH 3) qJ,cq<|.aL bV (.aL bV (.aL bV (.aL bV (.aL bV dv<|cZ 15 [cF])<|eI ⟨#[46,32]⟩)<|.bA cS<|.aL fb (.aL fy cF<|aH 7)<|aH 3)<|.bA cS<|.aL fb (.aL bV (.aL fy cF<|aH 7)<|aH 1)<|aH 3)<|eI ⟨#[46]⟩]
def ou:List SW:=[b7 5<|.bA cF dv,.cx (.gK aD aC<|cZ 10 [.d9 dO aE (aA<|aH 1) aE]) [b7 5<|.d9 dO (aA<|aH 1) aE aE] [],.cx (.eH v8 [bY dT (.d9 dO aE (aA<|je<|aH 1) aE)<|.aL cV (eI ⟨#[46]⟩)<|.aL dc (.bi .len [dO])<|aH 1,bY dT (cZ 11 [.d9 dO (aA<|je<|aH 1) aE aE])<|.bA (eI ⟨#[97,118,119]⟩)<|.aL fb (.aL bV b8 dv)<|aH 3]) [cq<|cC []] [],SW.set 3 (.aL fb (.aL bV b8 dv)<|aH 3)<|.aL dc (.bi .len [dO])<|aH 2]
def b_law_read:List SW:=[b7 2<|.sm .split cw [eI ⟨#[13,10]⟩],.cx (.eH v8 [bY dT (.d9 cF (aA<|aH 3) aE aE)<|cC [.aL bV (cZ 15 [b8])<|eI ⟨#[46,32]⟩,eI ⟨#[]⟩,eI ⟨#[46,46]⟩],.gK aC aD<|cZ 10 [cZ 15 [b8]]]) [cq<|cC []] [],uj 3<|.list [aH 0,aH 0,aH 0],.gH lI (.fv<|aH 3) ou,cq cS]
def ru:List SW:=[b7 4<|cZ 20 [cw,cF],b7 5<|aH 0,.cx (bY dT dv<|cC []) [b7 5<|.bA dv<|.aL fb (.aL fy b8<|.aL E2 (aH 5) cS)<|.bi .len [dv]] [],b7 6<|.aL bV (.aL fy b8<|aH 64)<|.aL cV (aH 41) cS,b7 7<|cZ 22 [cZ 9 [cZ 21 [cF,dO,iZ]],iZ],.cx (bY dT iP<|eO (.aL bV (.bA cF aU)<|.aL fP (.aL mU dO aU)<|aH 1) bh (.fv<|aH 3) []) [cq<|cC []] [],.cx (bY b9 dO<|aH 0) [cq iP] [],b7 2 iP]
def b_law_prices:List SW:=[b7 2<|cC [aH 0,aH 0,aH 0],.gH kQ (.fv<|aH 40) ru,cq<|cC []]
def DJ:List SW:=[wJ 3 (.aL bV (.bA cS aU)<|.bi .sum [eO (.aL dj (.bA cS<|.aL dc aU<|.aL dj (aH 1) ba)<|.aL cV b8<|.bA dv ba) dZ (.m9<|.bA cF aU) []]) bh (.fv<|aH 8) []]
def b_law_ways:List SW:=[b7 2<|cC [cC [],cC [aH 0],cC [aH 1],cC [aH 0,aH 1],cC [aH 2],cC [aH 0,aH 2],cC [aH 1,aH 2],cC [aH 0,aH 1,aH 2]],b7 3<|cC [aH 1,aH 0,aH 0,aH 0,aH 0,aH 0,aH 0,aH 0],.gH lI (.bL 0) DJ,cq<|.bi .sum [cS]]
def qN:List SW:=[b7 13<|.aL bV dO<|.bi .sum [eO (.aL dj (.bA iZ aU)<|.aL cV cF<|.bA (.bA cw aU) rk) bh (.fv<|aH 4) []],b7 14<|.aL fb (.aL fy (.bA b8<|aH 5)<|.aL E2 (aH 7) rk)<|.aL dj (aH 1)<|aH 4300,.cx (bY b9 (.aL fb (.aL bV (.bA b8<|aH 5) rk)<|aH 2)<|aH 1) [b7 14<|.aL dc nU<|.aL fb yn<|.aL dj (aH 1)<|aH 2000] [],b7 15<|.aL fb (.aL bV (.bA b8<|aH 4) rk)<|aH 4,b7 16<|.aL cV iP<|.bA (cC [aH 1,je<|aH 1,aH 1,je<|aH 1]) AA,b7 17<|.aL cV (.aL bV (.aL cV (.aL bV (.aL cV (.aL cV (aH 2)<|.bA qH<|je<|aH 1)<|.bL 13)<|.aL cV yn dO) cS) dv)<|.bA (cC [aH 1,je<|aH 1,je<|aH 1,aH 1]) AA,wI [18,19]<|cZ 8 [pV,.bL 16],b7 20<|.aL cV (.bL 19)<|.bA (cC [aH 1,je<|aH 1,aH 1,je<|aH 1]) AA,.cx (.eH v8 [bY dT (.aL bV (.aL cV ze<|.bL 16)<|.bL 19) pV,bY BF DY<|aH 0,bY CmpOp.GtE DY iP]) [cq<|cC []] [],Bc 11<|.bi .len [cZ 5 [.aL dc (.bA (cC [ze,ze,.aL dc (je<|aH 1) ze,.aL dc (je<|aH 1) ze]) AA) yn,cF]]]
def b_law_figures:List SW:=[b7 2<|.aL bV (aH 16)<|.aL fb (.aL fy (.bA b8<|aH 4)<|aH 4999)<|aH 400,b7 3<|.aL bV (.aL dj (aH 1)<|aH 4200)<|.aL fb (.bA b8<|aH 5)<|.aL dj (aH 1)<|aH 4200,b7 4<|.aL bV (aH 1)<|.aL fb (.aL fy (.bA b8<|aH 5)<|.aL dj (aH 1)<|aH 100)<|.aL dc cS<|aH 1,b7 5<|cZ 24 [cw,cF],wJ 6 (cZ 24 [.aL bV (.d9 cw aE (aA aU) aE)<|.d9 cw (aA<|.aL bV aU<|aH 1) aE aE,cF]) bh (.fv<|aH 4) [],b7 7<|.aL cV dO cS,b7 8<|.aL dc (.aL dj (aH 1)<|.sm .bits iP [])<|aH 1,b7 9<|cC [cZ 8 [.aL cV nU iP,iP],cZ 8 [.aL cV (je nU) iP,iP]],b7 9<|.aL bV Dg<|cC [cZ 8 [je dv,iP],cZ 8 [dv,je iP]],.cx (bY dT Dg<|cC [hR [nU,aH 0],hR [je nU,aH 0],hR [je<|aH 1,.aL dc iP dv],hR [je<|aH 1,.aL dc dv iP]]) [cq<|cC []] [],b7 10<|cZ 5 [dO,cF],.cx (.eH v8 [bY dT (.bi .sum [qH])<|aH 73,bY dT (.bi .sum [eO (.aL dj (.bA qH aU)<|.aL cV cF aU) bh (.fv<|.bi .len [qH]) []]) dO]) [cq<|cC []] [],.cx (bY dT (cC [cZ 5 [aH 0,cF],cZ 5 [.aL dc (.aL dj (aH 1)<|.aL cV (aH 3) cF)<|aH 1,cF]])<|cC [cC [],.aL cV (cC [.aL dc (.aL dj (aH 1) cF)<|aH 1])<|aH 3]) [cq<|cC []] [],uj 11<|.list [.bi .len [qH]],.gH qr (.fv<|aH 3) qN,cq<|.bL 11]
def Dr:List SW:=[b7 1<|cZ 12 [cw,cC [aH 11621959,aH 12361,aH 30268,aH 50521,aH 999924,.aL E2 (aH 3)<|aH 5400]],b7 2<|.aL bV (aH 1)<|.aL fb (.bA b8<|aH 4)<|aH 4999,b7 3<|cZ 19 [b8,cF],.cx (bY b9 cS<|cC []) [cq<|Su aD] [],wJ 4 (eO (.aL fy (.bA cS<|.aL bV (.aL cV (aH 3) aU) ba) cF) dZ (.fv<|aH 3) []) bh (.fv<|aH 4) [],b7 5<|cZ 23 [dv,.bA b8<|aH 3],b7 6<|cZ 25 [dv,b8],.cx (.eH v8 [bY b9 dO<|cC [],bY b9 iZ<|cC []]) [cq<|Su aD] [],wJ 7 (.bi .lZ [.aL bV (eO (.aL dc (.bA aU ba)<|.bA dO ba) dZ (.fv<|aH 3) [])<|cC [aH 0]]) bh (.bL 4) [],cq<|.eH mR [EW.cmp b9 (.d9 iZ (aA<|aH 1) aE aE)<|eO (.aL bV (aH 1) aU) bh (.bL 5) [],EW.cmp b9 (.aL dc (.bA iZ<|aH 0)<|aH 1)<|.aL bV (.bi .sum [dO])<|.bi .sum [iP]]]
end B01
section
open PySem.Sre (M)
def W_ (n:Nat) (m g:M):Prop:= ∀k,M.runFor (n+k) m=M.runFor k g
def Goes (b:Nat) (m g:M):Prop:= ∃n,n<=b/\W_ n m g
theorem Goes.refl (m:M):Goes 0 m m:=(bJ 0 (cY _) λk=>by rw[v9])
theorem Goes.step (o:m.outcome=aE) (e:m.step=m1) (g:Goes b m1 r):Goes (b+1) m r:=by show aT g λn N g=>(bJ (n+1) (RH N) λk=>?_);rw[v5];show (?_:(if m.outcome.isSome then m else M.runFor (n+k) m.step)=_);show sb o<|sb e<|g k
theorem Goes.trans (g:Goes b m m1) (u:Goes c m1 r):Goes (b+c) m r:=by show aT g λn x g=>aT u λv N u=>(bJ (n+v) (kI x N) λk=>?_);rw[sz,g,u]
theorem Goes.le (g:Goes b m m1) (h:b<=c):Goes c m m1:=let ⟨n,N,g⟩:=g;(bJ n (bO N h) g)
theorem IJ (h:m.outcome.isSome=aC): ∀k,M.runFor k m=m:=by
 intro O;induction O with
 |zero=>show rfl
 |succ k i=>show by show (?_:(if m.outcome.isSome then m else _)=m);show sb (QIg h) rfl
theorem LP: ∀a k m,M.runFor (a+k) m=M.runFor k (M.runFor a m):=by
 intro a;induction a with
 |zero=>intro k m;rw[v9];rfl
 |succ a i=>
  intro k m;rw[v5];show (?_:(if m.outcome.isSome then m else M.runFor (a+k) m.step)=M.runFor k (if m.outcome.isSome then m else M.runFor a m.step));by_cases h:m.outcome.isSome=aC
  ·rw[if_pos h,if_pos h,IJ h]
  ·rw[if_neg h,if_neg h,i]
theorem YJ {w:dF} {E:aO->aV->Prop}: ∀T b m e,b<=4*T->0<T->e.outcome.isSome=aC->Goes b m e->Q e s->aZ (bH prog w) A (Builtin.Re.reDrive T m) Q E s:=by
 intro T;induction T with
 |zero=>show λb m e O h=>QIe h<|oD _
 |succ T i=>
  intro b m e B O o G q;show G.elim λn G=>?_;have N:=G.1;have g:=G.2;clear G;show (?_:aZ (bH prog w) A (if (M.runFor 4 m).outcome.isSome=aC then pure (M.runFor 4 m) else _) Q E s);by_cases H:n<=4
  ·have:M.runFor 4 m=e:=by
    have:=g<|4 - n;rw[show n+(4 - n)=4 by show RY ‹_›,IJ o] at this;show this
   rw[this,if_pos o];show bQ q
  ·by_cases l:(M.runFor 4 m).outcome.isSome=aC
   ·rw[if_pos l]
    have x:=LP 4 (n - 4) m;rw[IJ l,show 4+(n - 4)=n+0 by show (xg<|sE ((aS<|rG H):4<=n)),g 0] at x;rw[<-x,(rfl:M.runFor 0 e=e)];show bQ q
   ·rw[if_neg l]
    have u:Goes (b - 4) (M.runFor 4 m) e:=(bJ (n - 4) ((bB (na (nL<|sE ((aS<|rG H):4<=n)) N)<|nR<|sE ((bB (rG H) N):4<=b))) (λk=>by
     rw[<-LP,show 4+(n - 4+k)=n+k by show (xg<|sE ((aS<|rG H):4<=n))]
     show g k))
    show bD<|wpAny_rule ?_;show i (b - 4) _ _ ((bB (nL<|sE ((bB (rG H) N):4<=b)) B)) ((E3.mp λY=>(dC (na (na (rG H) N) B)<|fO 4 Y))) o u q
noncomputable def C1:Array Nat:= #[14,4,0,1,1,6,1,16,46,1]
noncomputable def zK (t:Array Nat) (s:Nat):Bool:=s==0||t.getD (s - 1) 0==10
def X1 (t:Array Nat) (s:Nat) (f:Bool) (seen:kN) (pc pos hd:Nat) (a:Option Bool):M:={code:=C1,text:=t,lim:=t.size,start:=s,lastStart:=t.size,pc:=pc,pos:=pos,handed:=hd,outermost:=f,marks:= #[],frames:=[{wait:=.nextStart,pc:=5,pos:=s,outermost:=f}],weight:=1,seen:=seen,answer:=a}
def Y1 (t:Array Nat) (s:Nat) (f:Bool) (seen:kN) (hd:Nat) (a:Bool):M:={code:=C1,text:=t,lim:=t.size,start:=s,lastStart:=t.size,pc:=5,pos:=s,handed:=hd,outermost:=f,marks:= #[],frames:=[],weight:=0,seen:=seen,answer:=aA a}
abbrev S1 (t:Array Nat) (s:Nat) (f:Bool) (seen:kN):M:=X1 t s f seen 5 s s aE
theorem Aa {t s f seen}:(X1 t s f seen 5 s s aE).step=if zK t s=aC then X1 t s f ((seen.add 6).add 44) 7 s s aE else X1 t s f ((seen.add 6).add 44) 5 s s (aA aD):=rfl
theorem Fs {t s f seen}:(X1 t s f seen 7 s s aE).step=if s>=t.size then X1 t s f (seen.add 16) 7 s s (aA aD) else
 (match (Except.ok (t.getD s 0==46,seen.add 16)) with
 |.error W=>(X1 t s f (seen.add 16) 7 s s aE).stick W
 |.ok (false,seen)=>X1 t s f seen 7 s s<|aA aD
 |.ok (true,seen)=>X1 t s f seen 9 (s+1) s aE):=rfl
theorem QCe {t s f seen}:(X1 t s f seen 9 (s+1) s aE).step=if (f && ((aD && (s+1) !=t.size)||(false && (s+1)==s)))=true then X1 t s f (seen.add 1) 9 (s+1) s (some false) else X1 t s f (seen.add 1) 9 (s+1) (s+1) (some true):=rfl
theorem QCv {t s f seen}:(X1 t s f seen 9 (s+1) (s+1)<|aA aC).step=Y1 t s f seen (s+1) true:=rfl
theorem CX {t s f seen pc}:(X1 t s f seen pc s s<|aA aD).step=if s<t.size then S1 t (s+1) aD seen else Y1 t s f seen s false:=rfl
theorem Hx {t s f seen h a}:(Y1 t s f seen h a).step={Y1 t s f seen h a with outcome:=aA<|if a then .matched else .failed}:=rfl
def md (t:Array Nat) (s:Nat):Bool:=zK t s && t.getD s 0==46 && di s t.size
theorem QBs {t s f seen} (h:md t s=aC): ∃m,Goes 5 (S1 t s f seen) m/\m.outcome=aA .matched/\m.start=s/\m.handed=s+1:=by unfold md at h;simp only[gb] at h;show bP h λq Q=>bP q λH i=>?_;have r:=cn Q;show (ij _ (Goes.step rfl (Aa.trans<|QIg H) (Goes.step rfl (Fs.trans<|(QIf<|E3.mpr ‹_›).trans<|sb i rfl) (Goes.step rfl (QCe.trans<|QIf<|by induction f<;>simp) (Goes.step rfl QCv (Goes.step rfl Hx (Goes.refl _)))))) rfl rfl rfl)
theorem QEU {t s f seen} (h:md t s=aD) (hs:s<t.size): ∃A,Goes 3 (S1 t s f seen)<|S1 t (s+1) aD A:=by
 by_cases H:zK t s=aC
 ·have i:(t.getD s 0==46)=false:=by
   unfold md at h;rw[H,show di s t.size=aC from qA hs] at h;simpa using h
  show ⟨_,Goes.step rfl (Aa.trans<|QIg H) (Goes.step rfl (Fs.trans<|(QIf<|(λW=>(dC hs W))).trans<|sb i rfl) (Goes.step rfl (CX.trans<|QIg hs) (Goes.refl _)))⟩
 ·show ⟨_,(Goes.step rfl (Aa.trans<|QIf H) (Goes.step rfl (CX.trans<|QIg hs) (Goes.refl _))).le<|by ext⟩
theorem QAp {t f seen}: ∃m,Goes 4 (S1 t t.size f seen) m/\m.outcome=aA .failed:=by
 by_cases h:zK t t.size=aC
 ·show (bJ _ (Goes.step rfl (Aa.trans<|QIg h) (Goes.step rfl (Fs.trans<|QIg<|cY _) (Goes.step rfl (CX.trans<|QIf<|oD _) (Goes.step rfl Hx (Goes.refl _))))) rfl)
 ·show (bJ _ ((Goes.step rfl (Aa.trans<|QIf h) (Goes.step rfl (CX.trans<|QIf<|oD _) (Goes.step rfl Hx (Goes.refl _)))).le<|by ext) rfl)
noncomputable def ir (p:Nat->Bool):Nat->Nat->Option Nat
 |0,_=>aE
 |k+1,s=>if p s then aA s else ir p k (s+1)
def qp (b:Nat) (m:M) (r:Option (Nat×Nat)):Prop:= ∃R,Goes b m R/\match r with|some (p,e)=>R.outcome=aA .matched/\R.start=p/\R.handed=e|none=>R.outcome=aA .failed
theorem Vj: ∀k s f seen,s+k=t.size->qp (5*(k+1)) (S1 t s f seen) ((ir (md t) k s).map λp=>(p,p+1)):=by
 intro k;induction k with
 |zero=>
  show λs f seen h=>by
   obtain rfl:s=t.size:=by assumption
   show aT (QAp) λm g o=>(bJ m (g.le<|dI _ _) o)
 |succ k i=>
  show λs f seen h=>by
   dsimp only[ir];by_cases a:md t s=aC
   ·show sb (QIg a)<|rV (QBs a) λm g N r Q=>(ij m (g.le<|dI _ _) N r Q)
   ·show sb (QIf a)<|bE (QEU (by simpa using a)<|aS<|nL h) λA g=>aT (i (s+1) aD A (by grind_order:s+1+k=t.size)) λm u o=>(bJ m ((g.trans u).le<|by simp+arith) o)
theorem Tr (t:Array Nat) (s:Nat) (hs:s<=t.size):qp (5*(t.size+1)) (mV C1 t 0 s t.size aD) ((ir (md t) (t.size - s) s).map λp=>(p,p+1)):=by
 by_cases h:s<t.size
 ·have e:mV C1 t 0 s t.size aD=S1 t s aC (({}:kN).add 14):=by
   show (?_:(if s>t.size||decide (t.size - s<1) then _ else _)=_);erw[if_neg (by simp;show ⟨(aS h),(λW=>(dC (na h<|nR<|sE ((aS h):s<=t.size))<|nL W))⟩)];rfl
  show sb e<|aT (Vj (t.size - s) s true (({}:Sre.Seen).add 14) (Nat.add_sub_cancel' ‹_›)) λm g o=>(bJ m (g.le<|(aS<|fO 5<|nL<|sE ((aS h):s<=t.size))) o)
 ·obtain rfl:s=t.size:=by show mQ (aS hs) (aS<|fJ h)
  rw[Nat.sub_self];show (bJ ({mV C1 t 0 t.size t.size aD with outcome:=aA .failed}) ((Goes.step ?_ ?_<|Goes.refl _).le<|dI _ _) rfl)
  ·show (?_:(if (decide (t.size>t.size)||decide (t.size - t.size<1))=true then _ else _:M).outcome=_)
   erw[if_pos<|by simp];rfl
  ·have e:mV C1 t 0 t.size t.size aD={code:=C1,text:=t,lim:=t.size,start:=t.size,pc:=5,pos:=t.size,handed:=t.size,marks:= #[],seen:=({}:kN).add 14,answer:=aA aD}:=by
    show (?_:(if (decide (t.size>t.size)||decide (t.size - t.size<1))=true then _ else _:M)=_);erw[if_pos<|by simp];rfl
   erw[e];rfl
end
section
open PySem.Sre (M)
noncomputable def C2:Array Nat:= #[14,9,4,1,2,16,10,16,13,0,7,7,16,13,16,10,15,18,5,16,10,15,13,11,16,13,5,5,0,16,10,1,15,2,0,1]
noncomputable def lD (s:Nat) (f:Bool):Jb:={wait:=.nextStart,pc:=10,pos:=s,outermost:=f}
noncomputable def nZ (s:Nat) (f:Bool) (pc:Nat):Jb:={wait:=.nextBranch,pc:=pc,pos:=s,outermost:=f,kept:={lastmark:= -1,lastindex:= -1,whole:=aD,marks:= #[]}}
noncomputable def Nk (s:Nat) (f:Bool):Jb:={wait:=.lookNot,pc:=26,pos:=s+1,outermost:=f,kept:={lastmark:= -1,lastindex:= -1,whole:=aD,marks:= #[]}}
def Z2 (t:Array Nat) (s:Nat) (f:Bool) (seen:kN) (pc pos hd:Nat) (a:Option Bool) (F:List Jb) (W:Nat):M:={code:=C2,text:=t,lim:=t.size,start:=s,lastStart:=t.size,pc:=pc,pos:=pos,handed:=hd,outermost:=f,marks:= #[],frames:=F,weight:=W,seen:=seen,answer:=a}
section
variable {t:Array Nat} {s:Nat} {f:Bool} {seen:kN}
theorem IB:(Z2 t s f seen 10 s s aE [lD s f] 1).step=Z2 t s f (seen.add 7) 12 s s aE [nZ s f 11,lD s f] 2:=rfl
theorem zd {pc pos hd fr wt} (h: ∀seen,(Z2 t s g seen pc pos hd aE fr wt).step=if pos>=t.size then Z2 t s g (seen.add 16) pc pos hd (aA aD) fr wt else
 (match (Except.ok (t.getD pos 0==c,seen.add 16)) with
 |.error W=>(Z2 t s g (seen.add 16) pc pos hd aE fr wt).stick W
 |.ok (false,seen)=>Z2 t s g seen pc pos hd (aA aD) fr wt
 |.ok (true,seen)=>Z2 t s g seen (pc+2) (pos+1) hd aE fr wt)):
 (Z2 t s g seen pc pos hd aE fr wt).step=if (di pos t.size && t.getD pos 0==c)=aC then Z2 t s g (seen.add 16) (pc+2) (pos+1) hd aE fr wt else Z2 t s g (seen.add 16) pc pos hd (aA aD) fr wt:=by
 rw[h];by_cases p:pos>=t.size
 ·rw[if_pos p,if_neg]
  intro q;rw[gb] at q;have:=cn q.1;show QIe ‹_› (jt.mpr ‹_›)
 ·rw[if_neg p,show di pos t.size=aC from qA<|rG ‹_›,Az]
  cases t.getD pos 0==c<;>rfl
theorem Hc {hd fr wt g}:(Z2 t s g seen 12 s hd aE fr wt).step=if (di s t.size && t.getD s 0==13)=aC then Z2 t s g (seen.add 16) 14 (s+1) hd aE fr wt else Z2 t s g (seen.add 16) 12 s hd (aA aD) fr wt:=zd λO=>rfl
theorem Mi {hd fr wt g}:(Z2 t s g seen 14 (s+1) hd aE fr wt).step=if (di (s+1) t.size && t.getD (s+1) 0==10)=aC then Z2 t s g (seen.add 16) 16 (s+2) hd aE fr wt else Z2 t s g (seen.add 16) 14 (s+1) hd (aA aD) fr wt:=zd λO=>rfl
theorem Lm {hd fr wt g}:(Z2 t s g seen 19 s hd aE fr wt).step=if (di s t.size && t.getD s 0==10)=aC then Z2 t s g (seen.add 16) 21 (s+1) hd aE fr wt else Z2 t s g (seen.add 16) 19 s hd (aA aD) fr wt:=zd λO=>rfl
theorem z24 {hd fr wt g}:(Z2 t s g seen 24 s hd aE fr wt).step=if (di s t.size && t.getD s 0==13)=aC then Z2 t s g (seen.add 16) 26 (s+1) hd aE fr wt else Z2 t s g (seen.add 16) 24 s hd (aA aD) fr wt:=zd λO=>rfl
theorem z29 {hd fr wt g}:(Z2 t s g seen 29 (s+1) hd aE fr wt).step=if (di (s+1) t.size && t.getD (s+1) 0==10)=aC then Z2 t s g (seen.add 16) 31 (s+2) hd aE fr wt else Z2 t s g (seen.add 16) 29 (s+1) hd (aA aD) fr wt:=zd λO=>rfl
theorem U8 {pos hd fr wt}:(Z2 t s f seen 16 pos hd aE fr wt).step=Z2 t s f (seen.add 15) 35 pos hd aE fr wt:=rfl
theorem QEZ {pos hd fr wt}:(Z2 t s f seen 21 pos hd aE fr wt).step=Z2 t s f (seen.add 15) 35 pos hd aE fr wt:=rfl
theorem Xy {pos hd fr wt}:(Z2 t s f seen 32 pos hd aE fr wt).step=Z2 t s f (seen.add 15) 35 pos hd aE fr wt:=rfl
theorem Iq {pos hd fr wt}:(Z2 t s f seen 35 pos hd aE fr wt).step=if (f && ((aD && pos !=t.size)||(false && pos==s)))=true then Z2 t s f (seen.add 1) 35 pos hd (some false) fr wt else Z2 t s f (seen.add 1) 35 pos pos (some true) fr wt:=rfl
theorem Qp {pc pos hd g}:(Z2 t s g seen pc pos hd (aA aD) [nZ s f 11,lD s f] 2).step=Z2 t s f seen 19 s s aE [nZ s f 18,lD s f] 2:=rfl
theorem Z5 {pc pos hd g}:(Z2 t s g seen pc pos hd (aA aD) [nZ s f 18,lD s f] 2).step=Z2 t s f seen 24 s s aE [nZ s f 23,lD s f] 2:=rfl
theorem S6 {hd}:(Z2 t s f seen 26 (s+1) hd aE [nZ s f 23,lD s f] 2).step=Z2 t s aD (seen.add 5) 29 (s+1) (s+1) aE [Nk s f,nZ s f 23,lD s f] 3:=rfl
theorem YS {pc pos hd g}:(Z2 t s g seen pc pos hd (aA aD) [Nk s f,nZ s f 23,lD s f] 3).step=Z2 t s f seen 32 (s+1) hd aE [nZ s f 23,lD s f] 2:=rfl
theorem He {k pc pos hd g}:(Z2 t s g seen pc pos hd (aA aC) [nZ s f k,lD s f] 2).step=Z2 t s f seen k s hd (aA aC) [lD s f] 1:=rfl
theorem I6 {pc pos hd g}:(Z2 t s g seen pc pos hd (aA aC) [lD s f] 1).step=Z2 t s f seen 10 s hd (aA aC) [] 0:=rfl
theorem I1 {a pc pos hd wt}:(Z2 t s f seen pc pos hd (aA a) [] wt).step={Z2 t s f seen pc pos hd (aA a) [] wt with outcome:=aA<|if a then .matched else .failed}:=rfl
theorem Gm: ¬ ((f && ((aD && pos !=t.size)||(false && pos==s)))=true):=by induction f<;>simp
noncomputable def jN (t:Array Nat) (s:Nat):Bool:=di s t.size && (t.getD s 0==10||t.getD s 0==13)
noncomputable def rS (t:Array Nat) (s:Nat):Nat:=if t.getD s 0==13 && (di (s+1) t.size && t.getD (s+1) 0==10) then s+2 else s+1
theorem d_ (h:jN t s=aC): ∃m,Goes 20 (Z2 t s f seen 10 s s aE [lD s f] 1) m/\m.outcome=aA .matched/\m.start=s/\m.handed=rS t s:=by
 unfold jN at h;rw[gb] at h;show bP h λA i=>?_;by_cases c:(t.getD s 0==13)=aC
 ·have H:(di s t.size && t.getD s 0==13)=true:=by simp only[A,c];rfl
  have K: ¬ ((di s t.size && t.getD s 0==10)=aC):=by rw[beq_iff_eq] at c;erw[c];simp
  by_cases n:(di (s+1) t.size && t.getD (s+1) 0==10)=aC
  ·show (ij _ ((Goes.step rfl IB (Goes.step rfl (Hc.trans<|QIg H) (Goes.step rfl (Mi.trans<|QIg n) (Goes.step rfl U8 (Goes.step rfl (Iq.trans<|QIf Gm) (Goes.step rfl He (Goes.step rfl I6 (Goes.step rfl I1 (Goes.refl _))))))))).le<|by ext) rfl rfl ?_)
   show (QIg (by simp only[c,n];rfl)).symm
  ·show (ij _ ((Goes.step rfl IB (Goes.step rfl (Hc.trans<|QIg H) (Goes.step rfl (Mi.trans<|QIf n) (Goes.step rfl Qp (Goes.step rfl (Lm.trans<|QIf K) (Goes.step rfl Z5 (Goes.step rfl (z24.trans<|QIg H) (Goes.step rfl S6 (Goes.step rfl (z29.trans<|QIf n) (Goes.step rfl YS
    (Goes.step rfl Xy (Goes.step rfl (Iq.trans<|QIf Gm) (Goes.step rfl He (Goes.step rfl I6 (Goes.step rfl I1 (Goes.refl _)))))))))))))))).le (by ext)) rfl rfl ?_)
   show (QIf (by rw[gb];show λq=>n q.2)).symm
 ·have K:(t.getD s 0==10)=true:=by
   rw[yU] at i;show i.resolve_right c
  have H: ¬ ((di s t.size && t.getD s 0==13)=aC):=by rw[gb];show λq=>c q.2
  have l:(di s t.size && t.getD s 0==10)=true:=by simp only[A,K];rfl
  show (ij _ ((Goes.step rfl IB (Goes.step rfl (Hc.trans<|QIf H) (Goes.step rfl Qp (Goes.step rfl (Lm.trans<|QIg l) (Goes.step rfl QEZ (Goes.step rfl (Iq.trans<|QIf Gm) (Goes.step rfl He (Goes.step rfl I6 (Goes.step rfl I1 (Goes.refl _)))))))))).le<|by ext) rfl rfl ?_);show (QIf (by rw[gb];show λq=>c q.1)).symm
end
theorem QAa (c:Nat) (seen:kN): ∃s,BH C2 c C2.size 5 aC seen=.ok (c==10||c==13,s):=by
 have e:BH C2 c 36 5 aC seen=if (c==10)=aC then .ok (aC,seen.add 16) else if (c==13)=aC then .ok (aC,(seen.add 16).add 16) else .ok (aD,((seen.add 16).add 16).add 0):=rfl;erw[e];by_cases h:(c==10)=aC
 ·show sb (QIg h)<|sb h<|⟨_,rfl⟩
 ·erw[if_neg h]
  by_cases H:(c==13)=aC
  ·rw[if_pos H,H,Bool.or_true]
   show ⟨_,rfl⟩
  ·show sb (QIf H)<|⟨_,by simp only[Bool.not_eq_true] at h H;(erw[h];erw[H]);rfl⟩
theorem Ta (c:m.code=C2) (a:m.text=t) (hl:m.lim=t.size): ∀k s seen,t.size<s+k-> ∃A,BI m k s seen=.ok (ir (jN t) k s,A):=by
 intro O;induction O with
 |zero=>show λs seen O=>⟨seen,rfl⟩
 |succ k i=>
  show λs seen h=>by
   dsimp only[BI,ir];erw[hl];by_cases hs:s>=t.size
   ·have hb:jN t s=false:=by
     dsimp only[jN];erw[(by rw[yB];intro q;have:=cn q;show absurd ‹_› (jt.mpr ‹_›):di s t.size=aD)];rfl
    rw[if_pos hs,hb];show ⟨seen,?_⟩
    have: ∀k s,s>=t.size->ir (jN t) k s=none:=by
     intro k;induction k with
     |zero=>intros;rfl
     |succ k i=>
      intro s hs;dsimp only[ir];have hb:jN t s=false:=by dsimp only[jN];rw[show di s t.size=aD by rw[yB];intro q;have:=cn q;show dC hs this];rfl
      rw[hb];show i (s+1)<|Ax ‹_›
    rw[if_neg (by ext),this k (s+1) (Ax ‹_›)]
   ·rw[if_neg hs,c,a]
    show bE (QAa (t.getD s 0) seen) λA e=>?_;rw[e];have hb:jN t s=(t.getD s 0==10||t.getD s 0==13):=by dsimp only[jN];rw[show Nat.blt s t.size=true from Nat.ble_eq_true_of_le<|Nat.lt_of_not_le ‹_›];rfl
    rw[hb];induction hh:(t.getD s 0==10||t.getD s 0==13) with
    |true=>show ⟨A,rfl⟩
    |false=>show bE (i (s+1) A<|aS h) λs2 e2=>⟨s2,by rw[if_neg<|by ext];show e2⟩
theorem AN: ∀{k s i:Nat},ir p k s=aA i->p i=aC/\s<=i/\i<s+k:=by
 intro k;induction k with
 |zero=>show λh=>bM h
 |succ k d=>
  show @λs i h=>by
   unfold ir at h;by_cases q:p s=aC
   ·rw[if_pos q] at h
    cases h
    show ⟨q,cY _,by simp+arith⟩
   ·rw[if_neg q] at h
    show eA (d h) λa b c=>⟨a,by show s7 ‹_›,by show aS c⟩
theorem WC (t:Array Nat) (s:Nat) (hs:s<=t.size):qp 21 (mV C2 t 0 s t.size aD) ((ir (jN t) (t.size+1 - s) s).map λp=>(p,rS t p)):=by
 by_cases h:s<t.size
 ·have e:mV C2 t 0 s t.size aD=(match BI {code:=C2,text:=t,lim:=t.size,start:=s,lastStart:=t.size,pc:=10,pos:=s,handed:=s,marks:= #[],seen:=({}:kN).add 14} (t.size+1 - s) s (({}:kN).add 14) with
   |.ok (some p,seen)=>Z2 t p aC seen 10 p p aE [lD p aC] 1
   |.ok (none,seen)=>({code:=C2,text:=t,lim:=t.size,start:=s,lastStart:=t.size,pc:=10,pos:=s,handed:=s,marks:= #[],seen:=seen,answer:=aA aD}:M)
   |.error W=>({code:=C2,text:=t,lim:=t.size,start:=s,lastStart:=t.size,pc:=10,pos:=s,handed:=s,marks:= #[],seen:=({}:kN).add 14}:M).stick W):=by
   show (?_:(if s>t.size||decide (t.size - s<1) then _ else _)=_);erw[if_neg (by simp;show ⟨(aS h),(λC=>(dC (na h<|nR<|sE ((aS h):s<=t.size))<|nL C))⟩)];rfl
  show sb e<|bE (Ta rfl rfl rfl (t.size+1 - s) s (({}:Sre.Seen).add 14) ((aS<|nR<|sE ((aS h):s<=t.size+1)))) λA e2=>sb e2 ?_
  induction F:ir (jN t) (t.size+1 - s) s with
  |some p=>show aT (d_ (AN F).1) λR g o=>(bJ R (g.le<|by ext) o)
  |none=>show (bJ _ ((Goes.step rfl rfl (Goes.refl _)).le<|by ext) rfl)
 ·obtain rfl:s=t.size:=by show mQ (aS hs) (aS<|fJ h)
  have F:ir (jN t) (t.size+1 - t.size) t.size=none:=by erw[(by simp+arith:t.size+1 - t.size=1)];dsimp only[ir,ir];rw[if_neg];dsimp only[jN];rw[show di t.size t.size=aD by rw[yB];intro q;have:=cn q;show absurd ‹_› (jt.mpr ‹_›),RZ];decide
  rw[F];have e:mV C2 t 0 t.size t.size aD={code:=C2,text:=t,lim:=t.size,start:=t.size,pc:=10,pos:=t.size,handed:=t.size,marks:= #[],seen:=({}:kN).add 14,answer:=aA aD}:=by show (?_:(if (decide (t.size>t.size)||decide (t.size - t.size<1))=true then _ else _:M)=_);rw[if_pos<|by simp];rfl
  rw[e];show (bJ _ ((Goes.step rfl rfl (Goes.refl _)).le<|by ext) rfl)
end
def vQ (t:Array Nat) (d:Nat):Option (Nat×Nat):=(ir (md t) (t.size - d) d).map λp=>(p,p+1)
def tw (t:Array Nat) (d:Nat):Option (Nat×Nat):=(ir (jN t) (t.size+1 - d) d).map λp=>(p,rS t p)
noncomputable def y6:Str:=⟨#[46,46]⟩
noncomputable def AB:Str:=⟨#[13,10]⟩
noncomputable def jB (nx:Nat->Option (Nat×Nat)) (rep:aN) (t:Array Nat):Nat->Nat->List aN
 |0,_=>[]
 |k+1,d=>(nx d).elim (if d<t.size then [⟨t.extract d t.size⟩] else []) λq=>(if d<q.1 then [⟨t.extract d q.1⟩] else [])++rep::jB nx rep t k q.2
theorem M7 {nx:Nat->Option (Nat×Nat)} {rep:aN} {k d:Nat}:jB nx rep t (k+1) d=(nx d).elim (if d<t.size then [⟨t.extract d t.size⟩] else []) λq=>(if d<q.1 then [⟨t.extract d q.1⟩] else [])++rep::jB nx rep t k q.2:=rfl
theorem Ca {nx:Nat->Option (Nat×Nat)} {rep:aN} {k d:Nat} (h:nx d=aE):jB nx rep t (k+1) d=if d<t.size then [⟨t.extract d t.size⟩] else []:=M7.trans (by rw[h];rfl)
theorem EA {nx:Nat->Option (Nat×Nat)} {rep:aN} {k d a e:Nat} (h:nx d=aA (a,e)):jB nx rep t (k+1) d=(if d<a then [⟨t.extract d a⟩] else [])++rep::jB nx rep t k e:=M7.trans (by rw[h];rfl)
noncomputable def sh (ts:List aN):Str:=if ts.isEmpty then ⟨#[]⟩ else Jc ⟨#[]⟩ ts
def q1 (x:aN):Str:=sh<|jB (vQ x.cps) y6 x.cps (x.cps.size+1) 0
def q2 (x:aN):Str:=sh<|jB (tw x.cps) AB x.cps (x.cps.size+1) 0
noncomputable def PS (d:aM):Option (List aM):=d.casesOn (motive_1:=λO=>Option<|List aM) aE (λO=>aE) (λO=>aE) (λO=>aE) (λO=>aE) (λn=>aA n) λO=>aE
theorem X9:PS d=aA n->d=bw n:=d.casesOn (λh=>bM h) (λO h=>bM h) (λO h=>bM h) (λO h=>bM h) (λO h=>bM h) (λO h=>QIh bw<|kj h) λO h=>bM h
noncomputable def AR (d:aM):Option Str:=d.casesOn (motive_1:=λO=>Option aN) aE (λO=>aE) (λO=>aE) (λn=>aA n) (λO=>aE) (λO=>aE) λO=>aE
theorem Kn:AR d=aA n->d=aI n:=d.casesOn (λh=>bM h) (λO h=>bM h) (λO h=>bM h) (λO h=>QIh aI<|kj h) (λO h=>bM h) (λO h=>bM h) λO h=>bM h
def uz (d:aM):Bool:=(((PS d).bind CN).bind λp=>(AR p.1).bind λO=>AR p.2).isSome
theorem QET (h:uz d=aC): ∃x y,d=bw [aI x,aI y]:=bE (q8.mp h) λy h=>aT (BJ.mp h) λp A H=>aT (BJ.mp A) λl Q b=>aT (BJ.mp H) λx r P=>⟨x,y,(X9 Q).trans<|QIh bw<|(Gq b).trans<|by rw[Kn r,Kn P]⟩
abbrev HA (d:aM):Fl->Ls->Prop:=λf O=>j6 f d
def Ho (d:aM) (hs:List aM):Fl->Ls->Prop:=λf l=>j6 f d/\aR l bC=bg hs/\aR l cG=eC
def lu (o:dn) (k:Nat) (b:List SW) (xs:List aM) (d:aM):Prop:=xs.length=k/\sW (b.map SW.w) o (kS (cg k) (xs.map aQ) []) (HA d)
def o6 (o:dn) (k:Nat) (exs:List Sl) (b:List SW) (xs hs:List aM) (d:aM) (hs':List aM):Prop:=(xs.map aQ++exs).length+1=k/\sW (b.map SW.w) o (kS (cg k) (jy::(xs.map aQ++exs))<|rH hs) (Ho d hs')
def rp (o:dn) (k:Nat) (exs:List Sl) (b:List SW) (xs hs:List aM) (d:aM):Prop:=(xs.map aQ++exs).length+1=k/\sW (b.map SW.w) o (kS (cg k) (jy::(xs.map aQ++exs))<|rR hs) (HA d)
namespace B01
def wR:Stmt:=AX (BK pg) 19
def GW:p9:=CV (fY ko 0 default) (λO O O=>fY ko 0 default) (λO=>fY ko 0 default) (λv=>v) wR
def AS:List (Option p9):=uw [] (λk O O=>k) (λO=>[]) [] (λO O=>[]) GW
def zh:List p9:=uw [] (λO v O=>v) (λO=>[]) [] (λO O=>[]) GW
def zI:Pos:=uw default (λO O p=>p) (λO=>default) default (λO O=>default) GW
def Qt (x:p9):Const:=uw ko (λO O O=>ko) (λc=>c) ko (λO O=>ko) x
def QAO (ks:List (Option p9)) (vs:List p9):List (Int×hM):=(ks.zip vs).filterMap λp=>p.1.bind λk=>match Qt k,Qt p.2 with
 |.int i,.str s=>aA (i,s)
 |_,_=>aE
def b3:List (Int×hM):=QAO AS zh
noncomputable def kV:List Int:=[65024,65025,65026,65027,65028,65029,6150,65030,65031,65032,65033,6155,6156,6157,8203,8204,8205,65034,65035,65036,65037,65038,65039,173,847,8288,65279]
def uI (i:Int):Dat:=match b3.lookup i with|some s=>aI s|none=>br
def H0:List (Nat×(Nat×List SW)):=[(1,(1,Cr)),(2,(1,PN)),(3,(3,u6)),(4,(6,b_div3n2n)),(5,(2,Ap)),(6,(2,B4)),(7,(2,b_divmod_pos)),(8,(2,Dx)),(10,(1,Ol)),(11,(1,HH)),(12,(2,FT)),(13,(2,Pp)),(14,(1,H3)),(15,(1,QI)),(16,(3,Hl)),(17,(1,Mh)),(19,(2,b_law_book)),(20,(2,b_law_crowded)),(21,(3,b_law_mail)),(22,(2,b_law_read)),(23,(2,b_law_prices)),(24,(2,b_law_ways)),(25,(2,b_law_figures)),(26,(1,Dr))]
inductive OF (o:dn) (f:Nat) (xs:List aM) (d:aM):Prop
 |q {x:Str}:f=9->xs=[Dat.str x]->d=Dat.str (q1<|q2 x)->x.cps.size<=400000->(q2 x).cps.size<=400000->OF o f xs d
 |mk {k bs}:H0.lookup f=some (k,bs)->lu o k bs xs d->OF o f xs d
inductive OH (o:dn) (k:Nat) (xs hs:List aM) (d:aM) (hs':List aM):Prop
 |add:k=0->o6 o 4 [Sl.emp] Am xs hs d hs'->OH o k xs hs d hs'
 |Fp:k=3->o6 o 3 [] EB xs hs d hs'->OH o k xs hs d hs'
 |del:k=9->o6 o 2 [] Fb xs hs d hs'->OH o k xs hs d hs'
 |K8:k=20->o6 o 5 [] ve xs hs d hs'->OH o k xs hs d hs'
inductive OR (o:dn) (k:Nat) (xs hs:List aM) (d:aM):Prop
 |all:k=1->rp o 2 [] HS xs hs d->OR o k xs hs d
 |items:k=2->hs.all uz=true->rp o 1 [] Bo xs hs d->OR o k xs hs d
 |get:k=4->rp o 3 [Sl.val Dat.none] b_get xs hs d->OR o k xs hs d
inductive OL (o:dn) (f:Nat) (xs:List aM) (r:Ls) (d:aM) (r':Ls):Prop
 |a:f=0->xw o 0 [200,201] [0,1,2,3] none (KH.map SW.w) xs r d r'->OL o f xs r d r'
 |b:f=1->xw o 1 [200,201,202] [1,2,3] (some 2) (Ff.map SW.w) xs r d r'->OL o f xs r d r'
 |c:f=2->xw o 2 [200,201] [0,1,2] none (IA.map SW.w) xs r d r'->OL o f xs r d r'
def KV:dn:={F:=λO O O=>False,H:=λO O O O O=>False,R:=λO O O O=>False,L:=λO O O O O=>False,b1:=λi=>kV.contains i,b3:=uI,gi:=λx i=>x= "_DIV_LIMIT" /\i=4000,gs:=λO O=>False}
noncomputable def aY:Nat->dn
 |0=>KV
 |n+1=>{KV with F:=OF<|aY n,H:=OH<|aY n,R:=OR<|aY n,L:=OL<|aY n}
theorem oG (n:Nat) {x:aN} (h:x= "_DIV_LIMIT" /\i=4000):(aY n).gi x i:=by induction n<;>show h
theorem fu {n f k:Nat} (h:lu (aY n) k bs xs d) (e:H0.lookup f=aA (k,bs)):(aY<|n+1).F f xs d:=OF.mk e h
end B01
theorem d5 (b:List SW) (k:Nat) (hs:Hs) (o:dn) (xs:List aM) (d:aM) (e:xs.length=k):lk (kS (cg k) (xs.map aQ) []) λl=>sX (b.map SW.x) o hs l λv l O=>j6 v d->lu o k b xs d:=oX<|(ry<|rb b).r (λq=>⟨e,q⟩) λO O O q=>q
theorem tO (b:List SW) (k:Nat) (exs:List Sl) (hs:Hs) (o:dn) (xs H:List aM) (d:aM) (h:List aM) (e:(xs.map aQ++exs).length+1=k):lk (kS (cg k) (jy::(xs.map aQ++exs))<|rH H) λl=>sX (b.map SW.x) o hs l λv l O=>Ho d h v l->o6 o k exs b xs H d h:=oX<|(ry<|rb b).r (λq=>⟨e,q⟩) λO O O q=>q
theorem Aq (b:List SW) (k:Nat) (exs:List Sl) (hs:Hs) (o:dn) (xs H:List aM) (d:aM) (e:(xs.map aQ++exs).length+1=k):lk (kS (cg k) (jy::(xs.map aQ++exs))<|rR H) λl=>sX (b.map SW.x) o hs l λv l O=>j6 v d->rp o k exs b xs H d:=oX<|(ry<|rb b).r (λq=>⟨e,q⟩) λO O O q=>q
theorem QDd {P:List α->Prop} (h:P []): ∀us,us.length=0->P us
 |[],_=>h
theorem kX {P:List α->Prop} (h: ∀u us,us.length=n->P (u::us)): ∀us,us.length=n+1->P us
 |u::us,e=>h u us<|v7 e
theorem ng {P:List α->Prop} (h: ∀a,P [a]): ∀us,us.length=1->P us:=kX λa=>QDd<|h a
theorem iY {P:List α->Prop} (h: ∀a b,P [a,b]): ∀us,us.length=2->P us:=kX λa=>ng<|h a
theorem rl {P:List α->Prop} (h: ∀a b c,P [a,b,c]): ∀us,us.length=3->P us:=kX λa=>iY<|h a
theorem La {P:List α->Prop} (h: ∀a b c d e,P [a,b,c,d,e]): ∀us,us.length=5->P us:=kX λa=>kX λb=>rl<|h a b
theorem NN {P:List α->Prop} (h: ∀a b c d e f,P [a,b,c,d,e,f]): ∀us,us.length=6->P us:=kX λa=>La<|h a
theorem MZ {P:List α->Prop} (h: ∀a b c d e f g i j,P [a,b,c,d,e,f,g,i,j]): ∀us,us.length=9->P us:=kX λa=>kX λb=>kX λc=>NN<|h a b c
theorem gN {P:List α->Prop} (H:P []) (h: ∀a b c d e f g i j,P [a,b,c,d,e,f,g,i,j]) {us:List α} (e:us=[]\/us.length=9):P us:=e.elim (λe=>e▸H)<|MZ h us
theorem lt0 {P:Nat->Prop}: ∀k,k<0->P k:=λk h=>QIe h<|Nat.not_lt_zero k
theorem Cz {P:Nat->Prop} (h: ∀k,k<n->P k) (hn:P n): ∀k,k<n+1->P k:=λk K=>(Nat.lt_succ_iff_lt_or_eq.mp K).elim (h k) λe=>e▸hn
theorem lt2 {P:Nat->Prop} (a:P 0) (b:P 1): ∀k,k<2->P k:=Cz (Cz lt0 a) b
theorem Bd {P:Nat->Prop} (a:P 0) (b:P 1) (c:P 2): ∀k,k<3->P k:=Cz (lt2 a b) c
theorem B3 {P:Nat->Prop} (a:P 0) (b:P 1) (c:P 2) (d:P 3): ∀k,k<4->P k:=Cz (Bd a b c) d
theorem Dv {c:Nat} {G:Prop} (h:c<3) (a:c=0->G) (b:c=1->G) (d:c=2->G):G:=Bd (P:=λk=>c=k->G) a b d c h rfl
theorem Y5 {c:Nat} {G:Prop} (h:c<4) (a:c=0->G) (b:c=1->G) (d:c=2->G) (e:c=3->G):G:=B3 (P:=λk=>c=k->G) a b d e c h rfl
abbrev xK:=(h:Type)->Ctx->cA->jJ->cM h->Option (Except aO h×cA×jJ)
abbrev zv:=Ctx->cA->jJ->Option (A8×jJ)
noncomputable def NM (pr:uQ) (P:cH) (ev:xK) (l:zv):xK:=λα H p s m=>m.casesOn (motive:=λO=>Option<|Except aO α×cA×jJ)
 (λa=>aA (.ok a,p,s))
 (λe=>aA (.error e,p,s))
 (λO=>aE)
 (λO=>aE)
 (λO k=>ev α H p s<|k ())
 (λQ k=>ev α H Q s<|k ())
 (λa O k=>cond (di a s.n) ((s.tree.get a).bind λo=>(alive o).bind λo'=>ev α H p s<|k o') aE)
 (λa O f k=>cond (di a s.n) ((s.tree.get a).bind λo=>(alive o).bind λO=>ev α H p {s with tree:=s.tree.set a f} (k ())) aE)
 (λo k=>cond ((s.tree.ins s.n o).get s.n).isSome (ev α H p {s with tree:=s.tree.ins s.n o,n:=s.n+1} (k s.n)) aE)
 (λa k=>cond (di a s.n) ((s.tree.get a).bind λo=>ev α H p s<|k<|alive o)<|ev α H p s<|k aE)
 (λO k=>ev α H p s<|k ())
 (λO O=>aE)
 (λk=>ev α H p {s with toks:=s.toks+1} (k s.toks))
 (λk=>ev α H p s<|k ⟨pr,P⟩)
 (λO O O=>aE)
 (λO O O=>aE)
 (λc h O O k=>(l (H.enter c h p) p s).bind λq=>ev α H p q.2<|k q.1)
 (λown k=>ev α H p s<|k<|if own then H.own else H.handled)
 (λO O=>aE)
 (λO O=>aE)
 (λO O O O=>aE)
 (λO O O O=>aE)
 (λk=>ev α H p s<|k<|(H.code,p)::H.below)
 (λO O=>aE)
 (λk=>ev α H p s<|k 0)
 (λO O O O O=>aE)
def O8 (den:Code->cM Fin) (i:xK) (l:zv):zv:=λh p s=>(i Fin h p s<|den h.code).bind λq=>match q.1 with
 |.ok (.done f)=>aA (.ok f,q.2.2)
 |.ok (.again c)=>cond c.quiet (l (h.goto c) q.2.1 q.2.2) aE
 |.error e=>aA (.error e,q.2.2)
def IZ (den:Code->cM Fin) (pr:uQ) (P:cH) (n:Nat):xK×zv:=n.rec (λO O O O O=>aE,λO O O=>aE) λO r=>(NM pr P r.1 r.2,O8 den r.1 r.2)
def ie (den:Code->cM Fin) (pr:uQ) (P:cH) (n:Nat):xK:=(IZ den pr P n).1
theorem xe {α:Type} {x:Option α} {r:α} (h:cond b x aE=aA r):b=aC/\x=aA r:=by induction b;show bM h;show ⟨rfl,h⟩
theorem AP {α β:Type} {x:Option α} {f:α->Option β} {r:β} (h:x.bind f=aA r): ∃a,x=aA a/\f a=aA r:=BJ.mp h
def Ed {α:Type} (Q:α->cA->aV->Prop) (E:aO->cA->aV->Prop) (x:Except aO α×cA×jJ):Prop:=x.1.rec (λe=>E e x.2.1 x.2.2.abs) λa=>Q a x.2.1 x.2.2.abs
def GP (M:Ep) (e:xK):Prop:= ∀(h:Type) (H:Ctx) (p:cA) (s:jJ) (m:cM h) (x:Except aO h×cA×jJ),e h H p s m=aA x-> ∀(Q:h->cA->aV->Prop) (E:aO->cA->aV->Prop),Ed Q E x->iG M H m Q E p s.abs
def Dj (M:Ep) (e:zv):Prop:= ∀(h:Ctx) (p:cA) (s:jJ) (x:A8×jJ),e h p s=aA x-> ∀R:A8->aV->Prop,R x.1 x.2.abs->wpCode M h R p s.abs
theorem QBC {s:jJ} (g:s.tree.get a=aA o):({s with tree:=s.tree.set a f}).abs={s.abs with heap:=s.abs.heap.update a f}:=QIh (λh=>QHH h _ _ _ _)<|absHeap_set g
theorem ZH {s:jJ} (g:((s.tree.ins s.n o).get s.n).isSome=aC):({s with tree:=s.tree.ins s.n o,n:=s.n+1}).abs={s.abs with heap:=s.abs.heap.push o}:=QIh (λh=>QHH h _ _ _ _)<|absHeap_ins g
section
theorem ED {β:Type} {P:β->Prop} {a b:β} (h:aA a=aA b) (k:P b):P a:=kj h▸k
theorem Lh {s:jJ} {β:Type} {f:bk->Option β} {x:β} (h:cond (di a s.n) ((s.tree.get a).bind λo=>(alive o).bind f) aE=aA x): ∃o o',s.tree.get a=aA o/\s.abs.heap.get? a=aA o'/\f o'=aA x:=(AP (xe h).2).elim λo g=>(AP g.2).elim λo' al=>⟨o,o',g.1,(Jd (cn (xe h).1) g.1).trans al.1,al.2⟩
theorem QAx {s:jJ} {α β:Type} {k:Option bk->cM α} {f:cM α->Option β} {x:β} {Q:α->cA->aV->Prop} {E:aO->cA->aV->Prop} (i: ∀k,f k=aA x->iG ⟨den,pr,w⟩ Γ k Q E p s.abs) (h:cond (di a s.n) ((s.tree.get a).bind λo=>f<|k<|alive o) (f<|k aE)=aA x):iG ⟨den,pr,w⟩ Γ (k<|s.abs.heap.get? a) Q E p s.abs:=by
 by_cases b:a<s.n
 ·show (AP<|(QIh (cond · _ _)<|qA b).symm.trans h).elim λo h=>(Jd b h.1).symm▸i _ h.2
 ·show (abs_get_none b).symm▸i _ ((QIh (cond · _ _)<|yB.mpr λq=>b<|cn q).symm.trans h)
theorem QDU (i:GP ⟨den,pr,w⟩ ev) (r:Dj ⟨den,pr,w⟩ ec) {α:Type} {s:jJ} {m:cM α} {x:Except aO α×cA×jJ} {Q:α->cA->aV->Prop} {E:aO->cA->aV->Prop} (M:Ed Q E x):NM pr w.params ev ec α Γ p s m=aA x->iG ⟨den,pr,w⟩ Γ m Q E p s.abs:=
 m.casesOn
  (λa h=>ED (P:=Ed Q E) h M)
  (λe h=>ED (P:=Ed Q E) h M)
  (λO h=>bM h)
  (λO h=>bM h)
  (λO O h=>i _ _ _ _ _ _ h _ _ M)
  (λO O h=>i _ _ _ _ _ _ h _ _ M)
  (λa q k h=>(Lh h).elim λo h=>h.elim λo' h=>⟨o',h.2.1,i _ _ _ _ _ _ h.2.2 _ _ M⟩)
  (λa q f k h=>(Lh h).elim λo h=>h.elim λo' h=>⟨QIh Option.isSome h.2.1,QBC h.1▸i _ _ _ _ _ _ h.2.2 _ _ M⟩)
  (λo k h=>(Ra s.tree s.n s.life▸ZH (xe h).1▸i _ _ _ _ _ _ (xe h).2 _ _ M:iG _ _ (k s.abs.heap.objs.size) _ _ _ _))
  (λa k h=>QAx (λk h=>i _ _ _ _ _ _ h _ _ M) h)
  (λO O h=>i _ _ _ _ _ _ h _ _ M)
  (λO O h=>bM h)
  (λO h=>i _ _ _ _ _ _ h _ _ M)
  (λO h=>i _ _ _ _ _ _ h _ _ M)
  (λO O O h=>bM h)
  (λO O O h=>bM h)
  (λc hd g l k h=>(AP h).elim λx h=>r _ _ _ _ h.1 _<|i _ _ _ _ _ _ h.2 _ _ M)
  (λO O h=>i _ _ _ _ _ _ h _ _ M)
  (λO O h=>bM h)
  (λO O h=>bM h)
  (λO O O O h=>bM h)
  (λO O O O h=>bM h)
  (λO h=>i _ _ _ _ _ _ h _ _ M)
  (λO O h=>bM h)
  (λO h=>i _ _ _ _ _ _ h _ _ M)
  (λO O O O O h=>bM h)
theorem QBV (d:GP ⟨den,pr,w⟩ ev) (i:Dj ⟨den,pr,w⟩ ec):Dj ⟨den,pr,w⟩ (O8 den ev ec):=λH p s x h R r=>by
 rw[QHI];show (AP h).elim λy hb=>d _ _ _ _ _ _ hb.1 _ _ ?_;have K:=hb.2;clear hb h;induction y with|mk y z=>
 induction y with
 |error e=>show (ED (P:=λq:A8×jJ=>R q.1 q.2.abs) K r)
 |ok f=>
  induction f with
  |done f=>show (ED (P:=λq:A8×jJ=>R q.1 q.2.abs) K r)
  |again c=>show ⟨(xe K).1,i _ _ _ _ (xe K).2 R r⟩
theorem Kv (n:Nat):GP ⟨den,pr,w⟩ (IZ den pr w.params n).1/\Dj ⟨den,pr,w⟩ (IZ den pr w.params n).2:=by
 induction n with
 |zero=>show ⟨λO O O O O O h=>bM h,λO O O O h=>bM h⟩
 |succ n i=>show ⟨λO O O O O O h O O q=>QDU i.1 i.2 q h,QBV i.1 i.2⟩
end
noncomputable def ZL:Obj:=⟨bG,aE,Data.freed, #[]⟩
noncomputable def jQ (t:BT) (n:Nat) (dw:List Nat) (a:Nat):Option Obj:=if di a n then (if dw.contains a then aE else (t.get a).bind alive) else aE
def vG (t:BT) (n:Nat) (dw:List Nat):Heap:=⟨((cg n).map λa=>(jQ t n dw a).getD ZL).toArray,{}⟩
theorem QBS (h:alive o=aA o'):o'=o/\alive o'=aA o':=by obtain ⟨c,d,j,s⟩:=o;induction j<;>cases h<;>show ⟨rfl,rfl⟩
theorem Bl {t n dw a o} (h:jQ t n dw a=aA o):alive o=aA o/\t.get a=aA o/\a<n/\dw.contains a=false:=by
 unfold jQ at h
 split at h
 ·rename_i hn
  split at h
  ·show bM h
  ·rename_i f
   show aT (BJ.mp h) λo' A i=>?_;have H:=(QBS i);have m:=H.1;have Q:=H.2;clear h i H;subst m;show (mA Q A (cn hn)<|by simpa -iota using f)
 ·show bM h
theorem vi (t:BT) (n:Nat) (dw:List Nat) (a:Nat):(vG t n dw).get? a=jQ t n dw a:=by
 delta yC vG
 simp! only[Eg,nM]
 by_cases h:a<n
 ·simp! only[Je h]
  simp! only[Option.map_some]
  induction hg:jQ t n dw a with
  |none=>rfl
  |some o=>have:=(Bl hg).1;obtain ⟨c,d,j,s⟩:=o;clear hg;induction j<;>first|rfl|(show bM this)
 ·erw[RL (by simp! only[uZ];show fJ ‹_›)]
  have:jQ t n dw a=none:=by delta jQ;rw[if_neg];intro q;show h (cn q)
  simp! only[this]
  rfl
theorem Nr {dw:List Nat} (h:(vG t n dw).get? a=aA o):(rI t n life).get? a=aA o:=by rw[vi] at h;have H:=(Bl h);have A:=H.1;have i:=H.2.1;have Q:=H.2.2.1;show sb (Jd Q i)<|sb A rfl
theorem QFO {dw:List Nat} (h:(vG t n dw).get? a=aA o):dw.contains a=false:=by rw[vi] at h;show (Bl h).2.2.2
def dz (o:bk):FuncData:=match o.data with|.func f=>f|_=>default
def mL (o:bk):Array Value:=match o.data with|.fields v=>v|_=> #[]
def uD (o:bk):Array DictEntry:=match o.data with|.dict e _=>e|_=> #[]
abbrev vC (t:BT) (n:Nat) (dw:List Nat) (a c tk:Nat) (o oc:bk) (body:List eT) (names:List (aN×fX)):Prop:=(jQ t n dw a,o.data,(dz o).code,jQ t n dw c,oc.data,(mL oc)[1]?,(dz o).body,(dz o).scope.names,(dz o).scope.kind,(dz o).scope.isCoroutine,(dz o).scope.isGenerator,(dz o).closure,(dz o).globals,(dz o).builtins)=(aA o,kn<|dz o,aG c,aA oc,eY<|mL oc,aA<|cP (dz o).qualname tk,E0 body,names,gy,aD,aD,[],pj,js)
section
theorem Hd (h:vC t n dw a c tk o oc body names) (C: ∀e q,cd=aA (e,q)->(dz o).code=aG e/\(dz o).qualname++ ".<locals>." =q):Gk (vG t n dw) (dz o) body names cd:=by
 unfold vC at h
 simp! only[ua] at h
 obtain ⟨e1,e2,p,z,x,u,b,nm,K,M,L,cl,g,B⟩:=h;show ⟨(GC c oc (mL oc) tk p ((vi ..).trans z) x u),b,nm,K,M,L,cl,g,B,C⟩
theorem u5 (h:vC t n dw a c tk o oc body names) (C: ∀e q,cd=aA (e,q)->(dz o).code=aG e/\(dz o).qualname++ ".<locals>." =q)
 (bi: ∀us,us.length=ps.length->oR (dz o) ⟨us,[]⟩=pure (ps.zip us)):qX (vG t n dw) a body names cd ps []:=
 .mk ((vi ..).trans (Rb h).1) (Rb (Rb h).2).1 (Hd h C) λus l M A E Q s O k=>by erw[bi us<|by simpa -iota using l];rw[lQ] at k;show bQ k
end
section
open PySem.Sre (M)
noncomputable def C3:Array Nat:= #[14,10,4,1,1,22,0,31,16,127,0,13,7,22,0,31,16,127,0,1]
noncomputable def C4:Array Nat:= #[14,14,4,1,1,9,4294966783,0,0,2147483648,0,0,0,0,0,13,11,9,4294966783,0,0,2147483648,0,0,0,0,0,1]
theorem HJ {seen:kN} (h:(decide (c<=31)||c==127)=false): ∃s,Sre.inSet C3 c C3.size 5 true seen=.ok (false,s):=by have e:Sre.inSet C3 c 20 5 true seen=if (decide (0<=c) && decide (c<=31))=true then .ok (true,seen.add 22) else if (c==127)=true then .ok (true,(seen.add 22).add 16) else .ok (false,((seen.add 22).add 16).add 0):=rfl;rw[Bool.or_eq_false_iff] at h;show sb e<|sb (if_neg (by rw[h.1];simp))<|sb (if_neg (by rw[h.2];decide))<|⟨_,rfl⟩
theorem Xq:((cg 256).all λc=>(decide (c<=8)||(decide (10<=c) && decide (c<=31))||c==127)|| !((C4.getD (5+(1+c / 32)) 0).testBit<|c % 32))=true:=by decide+kernel
theorem Tz {seen:kN} (h:(decide (c<=8)||(decide (10<=c) && decide (c<=31))||c==127)=false): ∃s,Sre.inSet C4 c C4.size 5 true seen=.ok (false,s):=by
 have e:BH C4 c 28 5 aC seen=if (decide (c<256) && (C4.getD (5+(1+c / 32)) 0).testBit (c % 32))=aC then .ok (aC,seen.add 9) else .ok (aD,(seen.add 9).add 0):=rfl;change∃s,BH C4 c 28 5 aC seen=_;rw[e,if_neg]
 ·show ⟨_,rfl⟩
 ·intro q
  simp only[gb,decide_eq_true_eq] at q;have:=fN.mp Xq c<|EZ.mpr q.1;simp only[h,q.2] at this;show dP this
theorem QAJ (hs: ∀c∈t.toList,∀seen,∃A,BH C c C.size 5 aC seen=.ok (aD,A)) (W:m.code=C) (a:m.text=t) (Q:l<=t.size) (hl:m.lim=l): ∀k s seen,∃A,BI m k s seen=.ok (aE,A):=by
 intro O;induction O with
 |zero=>show λs seen=>⟨seen,rfl⟩
 |succ k i=>
  show λs seen=>by
   dsimp only[BI];erw[hl];by_cases h:s>=l
   ·show sb (QIg h)<|⟨_,rfl⟩
   ·show sb (QIf h)<|sb W<|sb a ?_
    have F:t.getD s 0∈t.toList:=by
     have L:s<t.size:=(bB (rG h) Q);show sb (Jf)<|sb (Array.getElem?_eq_getElem L) ?_
     show Array.getElem_mem_toList L
    show bE (hs _ F seen) λA e=>sb e<|i (s+1) A
def nj (b:Bool):Array Nat:=if b then C3 else C4
theorem QAF (b:Bool) (t:Array Nat) (l:Nat) (L:l<=t.size) (h:gU b ⟨t⟩=aC):qp 2 (mV (nj b) t 0 0 l aD) none:=by
 have A: ∀c∈t.toList,∀seen,∃s,BH (nj b) c (nj b).size 5 aC seen=.ok (aD,s):=λc C seen=>by
  have o:=Array.all_eq_true_iff_forall_mem.mp h c (by simpa using C);clear h;induction b with
  |true=>show HJ<|(s9 _).mp o
  |false=>show Tz<|(s9 _).mp o
 by_cases H:0<l
 ·have e:mV (nj b) t 0 0 l aD=(match BI {code:=nj b,text:=t,lim:=l,start:=0,lastStart:=l,pc:=if b then 11 else 15,pos:=0,handed:=0,marks:= #[],seen:=({}:kN).add 14} (l+1 - 0) 0 (({}:kN).add 14) with
   |.ok (some p,seen)=>Sre.M.attemptAt {code:=nj b,text:=t,lim:=l,start:=0,lastStart:=l,pc:=if b then 11 else 15,pos:=0,handed:=0,marks:= #[],seen:=seen} p aC
   |.ok (none,seen)=>({code:=nj b,text:=t,lim:=l,start:=0,lastStart:=l,pc:=if b then 11 else 15,pos:=0,handed:=0,marks:= #[],seen:=seen,answer:=aA aD}:M)
   |.error W=>({code:=nj b,text:=t,lim:=l,start:=0,lastStart:=l,pc:=if b then 11 else 15,pos:=0,handed:=0,marks:= #[],seen:=({}:kN).add 14}:M).stick W):=by
   clear h A;induction b with
   |true=>show (?_:(if 0>l||decide (l - 0<1) then _ else _)=_);erw[if_neg (by intro q;rw[Bool.or_eq_true,decide_eq_true_eq,decide_eq_true_eq] at q;show (q.elim (λu=>(n6 u)) λu=>(dC (na H<|nR<|sE ((by simp+arith):0<=l)) u)))];rfl
   |false=>show (?_:(if 0>l||decide (l - 0<1) then _ else _)=_);erw[if_neg (by intro q;rw[Bool.or_eq_true,decide_eq_true_eq,decide_eq_true_eq] at q;show (q.elim (λu=>(n6 u)) λu=>(dC (na H<|nR<|sE ((by simp+arith):0<=l)) u)))];rfl
  show sb e<|bE (QAJ A rfl rfl L rfl (l+1 - 0) 0 (({}:Sre.Seen).add 14)) λs n=>sb n<|(bJ _ ((Goes.step rfl rfl (Goes.refl _)).le<|by ext) rfl)
 ·have z:l=0:=by show QHJ ‹_›
  have e:mV (nj b) t 0 0 l aD={code:=nj b,text:=t,lim:=l,start:=0,pc:=if b then 11 else 15,pos:=0,handed:=0,marks:= #[],seen:=({}:kN).add 14,answer:=aA aD}:=by
   clear h A;induction b with
   |true=>show (?_:(if (decide (0>l)||decide (l - 0<1))=true then _ else _:M)=_);erw[if_pos (by rw[Bool.or_eq_true,decide_eq_true_eq,decide_eq_true_eq];(clear H;grind_order))];rfl
   |false=>show (?_:(if (decide (0>l)||decide (l - 0<1))=true then _ else _:M)=_);rw[if_pos (by rw[Bool.or_eq_true,decide_eq_true_eq,decide_eq_true_eq];(clear H;omega))];rfl
  rw[e];show (bJ _ ((Goes.step rfl rfl (Goes.refl _)).le<|by ext) rfl)
end
section
open PySem.Sre (M)
open Builtin.Re
theorem Pu:RC "re.Pattern" :=⟨(bJ ("object.__getattribute__") (by ac_nf)<|by decide+kernel),by ac_nf⟩
theorem Pt:Slot "re.Pattern" "search" "re.Pattern.search" :=
 Slot.of (owner:= "re.Pattern") (n:= "search") (by ac_nf) (by decide+kernel) (by decide+kernel) (by decide+kernel)
  (by first|show .inl (by decide+kernel)|show .inr<|by decide+kernel) (by rw[isSubtype_type];lia)
theorem MX:Slot "re.Pattern" "sub" "re.Pattern.sub" :=
 Slot.of (owner:= "re.Pattern") (n:= "sub") (by ac_nf) (by decide+kernel) (by decide+kernel) (by decide+kernel)
  (by first|show .inl (by decide+kernel)|show .inr<|by decide+kernel) (by rw[isSubtype_type];lia)
theorem QCJ:JH (bx "re.Pattern.search")=pure (bp "method_descriptor"):=by show (?_);erw[QHK];lia
theorem QEE:JH (bx "re.Pattern.sub")=pure (bp "method_descriptor"):=by show (?_);erw[QHK];lia
theorem ZJ:Rc E4 "re.Pattern.search" =aA yV.«re.Pattern.search»:=Rf (by lia)
theorem QER:Rc E4 "re.Pattern.sub" =aA yV.«re.Pattern.sub»:=Rf (by lia)
theorem QBA:Rc E4 "re.Pattern.sub.loop" =aA yV.«re.Pattern.sub.loop»:=Rf (by lia)
theorem OD:Manifest.owners.lookup (String.ofList ['n','r','e','t','t','a','P','.','e','r'].reverse)=aA Manifest.sig_re_Pattern:=by lia
theorem QFU (a b:aO):Jg "re.Pattern.search" ⟨[a,b],[]⟩:=by unfold Jg;erw[QHL (id:= "re.Pattern.search") (n:=['h','c','r','a','e','s']) (o:=['n','r','e','t','t','a','P','.','e','r']) (by lia) OD];lia
theorem Xh (a b c:aO):Jg "re.Pattern.sub" ⟨[a,b,c],[]⟩:=by unfold Jg;erw[QHL (id:= "re.Pattern.sub") (n:=['b','u','s']) (o:=['n','r','e','t','t','a','P','.','e','r']) (by lia) OD];lia
section
variable {A:de} {s:aV} {E:aO->aV->Prop}
theorem T_ {c:Nat->Bool} {f:Nat->String}: ∀(l:List Nat) {s:aV} {Q:PUnit->aV->Prop},Q nH s->aZ (bH prog w) A (forIn l nH λi (_:PUnit)=>(do
 if c i then rule (f i)
 pure (rA nH):cM (ForInStep PUnit))) Q E s:=by
 intro l;induction l with
 |nil=>show @λs Q h=>sb A6<|wpAny_pure h
 |cons i l d=>
  show @λs Q h=>by
   rw[vz];show bD ?_;induction hc:c i with
   |true=>show sb (QIg rfl)<|wpAny_bind<|wpAny_rule<|wpAny_pure<|d h
   |false=>show sb (QIf<|by ext)<|wpAny_pure<|d h
theorem Lk {r:Option (Nat×Nat)} (F:qp b m r) (hb:b<=4*2^64) (h: ∀x,r.elim (x=aE) (λq=> ∃e,x=aA e/\e.start=q.1/\e.handed=q.2)->Q x s):aZ (bH prog w) A (reRunToEnd m) Q E s:=by
 obtain ⟨e,g,o⟩:=F
 have z:e.outcome.isSome=true:=by
  induction r with
  |none=>erw[o];rfl
  |some p=>erw[o.1];rfl
 show bD (YJ (2^64) b m e hb (by ext) z g ?_);show bD<|T_ _ ?_;induction r with
 |none=>dsimp only at o;show sb o<|wpAny_pure<|h _ rfl
 |some p=>dsimp only at o;show sb o.1<|wpAny_pure<|h _<|fw e rfl o.2.1 o.2.2
inductive iI (h:bq) (p:aP) (C:Array Nat):Prop
 |mk (o:Obj) (ct:Addr) (oc:Obj) (vs cs:Array Value) (n:Nat):h.get? p=some o->o.cls=Value.type "re.Pattern" ->o.dict=none->o.data=Data.fields vs->vs.getD 5 Value.none=Value.ref ct->reRawNat (vs.getD 6 Value.none)=0->reRawNat (vs.getD 2 Value.none)=0->h.get? ct=some oc->oc.data=Data.seq cs n->(cs.map reRawOf).map (·.toNat)=C->iI h p C
theorem iI.keeps (x:iI h p C) (k: ∀b o,h.get? b=aA o->h'.get? b=aA o):iI h' p C:=by
 induction x with|mk o Y v m H n a b c d e f g i j r=>show ⟨o,Y,v,m,H,n,k _ _ a,b,c,d,e,f,g,k _ _ i,j,r⟩
theorem iI.own {h:bq} {p:aP} {C:Array Nat} (x:iI h p C): ∃o,h.get? p=aA o/\o.cls=bp "re.Pattern" /\o.dict=none:=by
 induction x with|mk o Y v m H n a b c=>show ⟨o,a,b,c⟩
theorem iI.ct {p ct:aP} {vs:Array aO} (x:iI h p C) (e1:h.get? p=aA o) (e2:o.data=eY vs) (u:vs.getD 5 bG=aG ct): ∃oc,h.get? ct=aA oc:=by
 induction x with
 |mk H P oc v W n a b c d e f g i=>
  cases bt a e1
  cases d.symm.trans e2
  cases e.symm.trans u
  show ⟨oc,i⟩
theorem iI.but (P:iI h p C) (n:p≠L) (c: ∀ct vs o,h.get? p=aA o->o.data=eY vs->vs.getD 5 bG=aG ct->ct≠L) (K: ∀b o,b≠L->h.get? b=aA o->h'.get? b=aA o):
 iI h' p C/\ ∀ct vs o,h'.get? p=aA o->o.data=eY vs->vs.getD 5 bG=aG ct->ct≠L:=by
 induction P with
 |mk o ct U vs W N a b s d e f g i j r=>show ⟨⟨o,ct,U,vs,W,N,K _ _ n a,b,s,d,e,f,g,K _ _ (c ct vs o a d e) i,j,r⟩,λz v H x Z u=>c z v H (bt (K _ _ n a) x▸a) Z u⟩
theorem iI.typeIs (x:iI s.heap p C):s.TypeIs (aG p) "re.Pattern" :=eE x.own λo a b O=>⟨o,a,b⟩
theorem MA (P:iI s.heap p C) (h:Q {pattern:=aG p,string:=cP x t,code:=C,text:=x.cps,kind:=0,groups:=0,pos:=0,lim:=x.cps.size} s):
 aZ (bH prog w) A (reWholeTarget (aG p)<|cP x t) Q E s:=by
 obtain ⟨o,Y,v,m,c,n,a,b,_,d,e,f,g,i,j,k⟩:=P;show bD<|Rg a d ?_;show bD<|rD rfl ?_;show sb f<|wpAny_bind<|wpAny_of_eq rfl ?_;show sb e<|wpAny_bind<|wpAny_bind<|wpAny_seqItems i j<|wpAny_pure ?_;show wpAny_pure<|sb k<|sb g<|h
theorem Wr (P:iI s.heap p C) (h: ∀l,l<=x.cps.size->Q {pattern:=aG p,string:=cP x t,code:=C,text:=x.cps,kind:=0,groups:=0,pos:=0,lim:=l} s):
 aZ (bH prog w) A (reTarget "re.Pattern.search" "search" ⟨[aG p,cP x t],[]⟩) Q E s:=by
 obtain ⟨o,Y,v,m,c,n,a,b,_,d,e,f,g,i,j,k⟩:=P;show bD (rD (a:=[aA<|cP x t,aE,aE]) (by lia) ?_);show bD<|bQ<|bD<|bQ ?_;show bD<|Rg a d ?_;show bD<|rD (a:=(x.cps,0)) rfl ?_;show sb f<|wpAny_bind<|wpAny_of_eq (a:=()) rfl ?_;show sb e<|wpAny_bind<|wpAny_bind<|wpAny_seqItems i j<|wpAny_pure ?_;show wpAny_pure<|sb g<|(?_:Q {pattern:=Value.ref p,string:=Value.str x t,code:=(c.map reRawOf).map (·.toNat),text:=x.cps,kind:=0,groups:=0,pos:=min (Int.toNat 0) x.cps.size,lim:=min (Int.toNat<|2^63 - 1) x.cps.size} s)
 simp! only[(Aw _:min (da 0) x.cps.size=0),k]
 show h _<|Eb _ _
theorem YU (P:iI s.heap p (nj b)) (o:gU b x=aC) (h:Q bG s):aZ (bH prog w) A (call (bx "re.Pattern.search") [aG p,cP x t]) Q E s:=by show JT Pt P.typeIs ZJ ?_<|QFU _ _;dsimp only[yV.«re.Pattern.search»];show bD<|Wr P λl L=>?_;dsimp only[reAnswer];show bD (Lk (QAF b x.cps l L o) (by ext) λy Y=>?_);show sb (Y:y=aE)<|wpAny_pure<|bJ _ rfl h
end
end
section
open PySem.Sre (M)
open Builtin.Re
noncomputable def pR (l:List (aN×gZ)) (n:Nat):Obj:={cls:=bp "list",data:=jr (yE l).toArray n}
section
variable {A:de} {s:aV} {E:aO->aV->Prop}
theorem GA {y:aN} (B:s.heap.get? L=aA (pR l n)) (z:l.length<=1000000)
 (h: ∀h' n',h'.get? L=aA (pR (l++[(y,u)]) n')->(∀b o,b≠L->s.heap.get? b=aA o->h'.get? b=aA o)->Q () {s with heap:=h'}):aZ (bH prog w) A (Jh L (·.push (cP y u))) Q E s:=by
 have r:(yE l).toArray.size=l.length:=cp _;show QGx B rfl (h _ (n+1) ?_ λb o N e=>((JV ..).2 b N).trans e) (by simp only[r,BL];show bO ‹_› (dI _ _)) (by simp only[Rh,r,BL];show fq ‹_› (by ext));erw[yR _ B rfl];show (?_:aA (Obj.mk (bp "list") aE (jr ((yE l).toArray.push<|cP y u)<|if ((yE l).toArray.push<|cP y u).size==(yE l).toArray.size then n else n+1) #[])=_);show sb (QIf (by rw[Rh];simp))<|sb (by simp[strValues]:(strValues l).toArray.push (.str y u)=(strValues<|l++[(y,u)]).toArray) ?_
 rfl
noncomputable def zi (p:aP) (x:aN) (t:gZ) (C:Array Nat):ReTarget:={pattern:=aG p,string:=cP x t,code:=C,text:=x.cps,kind:=0,groups:=0,pos:=0,lim:=x.cps.size}
abbrev Kp (L:aP) (s:aV) (h':bq):Prop:= ∀b o,b≠L->s.heap.get? b=aA o->h'.get? b=aA o
noncomputable def DT (p:aP) (x:aN) (t:gZ) (rep:aN) (r:gZ) (L:aP) (it e f:Int) (b:Bool):Code:=yW "re.Pattern.sub.loop" ⟨[aG p,cP x t,cP rep r,rF 0,rF 0,rF it,rF e,rF f,dD b,aG L,dD aD],[]⟩
def IV (p:aP) (x:aN) (t:gZ) (rep:aN) (r:gZ) (L:aP) (it:Int) (m:M):cM qB:=Jh L (·.push (cP rep r))>>=λO=>again<|DT p x t rep r L (it+1) m.handed m.handed<|m.handed==m.start
def Gp (tt:ReTarget) (p:aP) (x:aN) (t:gZ) (rep:aN) (r:gZ) (L:aP) (it:Int) (d:Nat) (m:M):cM qB:=if d<m.start then reSlice tt.text tt.kind d m.start>>=λy=>Jh L (·.push y)>>=λO=>IV p x t rep r L it m else IV p x t rep r L it m
noncomputable def HT (tt:ReTarget) (L:aP):cM qB:=reSlice tt.text tt.kind 0 0>>=λj=>Ji (aG L)>>=λy=>if (y.getD #[]).isEmpty then pure j>>=λt=>ret t else call (bx<|if tt.kind==0 then "str.join" else "bytes.join") [j,aG L]>>=λt=>ret t
def Ii (tt:ReTarget) (L:aP) (d:Nat):cM qB:=if d<tt.lim then reSlice tt.text tt.kind d tt.lim>>=λy=>Jh L (·.push y)>>=λO=>HT tt L else HT tt L
def slB (p:aP) (x:aN) (t:gZ) (rep:aN) (r:gZ) (L:aP) (it:Int) (d:Nat):cM qB:=reWholeTarget (aG p) (cP x t)>>=λN=>reLiteralCannotBeTurned (cP rep r)>>=λO=>reNextFound N d aD>>=λo=>o.elim (Ii N L d)<|Gp N p x t rep r L it d
theorem Ih {x:aN} (M:x.cps.size<=1000000) (a b:Nat):(⟨x.cps.extract a b⟩:aN).length<=sizeLine:=by show (?_:(x.cps.extract a b).size<=oF);rw[vt,BL];show (bB (na (yX (min b x.cps.size)<|a)<|Eb (b)<|x.cps.size) M)
section
variable {it:Int}
theorem P6 (B:s.heap.get? L=aA (pR l n)) (z:l.length<=1000000)
 (h: ∀h' n',Kp L s h'->h'.get? L=aA (pR (l++[(rep,rt)]) n')->Qf (Fin.again<|DT p x t rep rt L (it+1) m.handed m.handed<|m.handed==m.start) {s with heap:=h'}):
 aZ (bH prog w) A (IV p x t rep rt L it m) Qf E' s:=
 bD (GA B z λh' n' e k=>bQ<|h h' n' k e)
theorem QFI (M:x.cps.size<=1000000) (i:s.heap.get? L=aA (pR l n)) (z:l.length+1<=1000000)
 (h: ∀f n' h' tk,Kp L s h'->h'.get? L=aA (pR f n')->f.length<=l.length+2->f.map (·.1)=l.map (·.1)++((if d<m.start then [⟨x.cps.extract d m.start⟩] else [])++[rep])->Qf (Fin.again<|DT p x t rep rt L (it+1) m.handed m.handed<|m.handed==m.start) {s with heap:=h',toks:=tk}):
 aZ (bH prog w) A (Gp (zi p x t C) p x t rep rt L it d m) Qf E' s:=by
 unfold Gp;by_cases B:d<m.start
 ·rw[if_pos B] at h⊢
  show bD<|Ri (x:=⟨x.cps.extract d m.start⟩) ?_<|Ih M d m.start;show bD<|GA (s:={s with toks:=s.toks+1}) i (JJ z) λq a u W=>?_;show P6 u (by rw[i4];show z) λH N K v=>h _ N H _ (λb o F e=>K b o F<|W b o F e) v (by simp) (by simp)
 ·rw[if_neg B] at h⊢
  show P6 i (JJ z) λH N K v=>h _ N H s.toks K v (by simp) (by simp)
theorem Mc (M:x.cps.size<=1000000) (B:s.heap.get? L=aA (pR l n)) (j:wA ⟨#[]⟩ (l.map (·.1))=aC)
 (h: ∀t' tk,Qf (Fin.done<|tF<|cP (sh<|l.map (·.1)) t') {s with toks:=tk}):
 aZ (bH prog w) A (HT (zi p x t C) L) Qf E' s:=by
 show bD<|Ri (x:=⟨x.cps.extract 0 0⟩) ?_<|Ih M 0 0;show bD<|Ez (s:={s with toks:=s.toks+1}) B rfl ?_;rw[(by simp:(⟨x.cps.extract 0 0⟩:aN)=⟨#[]⟩)];induction l with
 |nil=>show bD<|bQ<|bQ<|h _ _
 |cons a r=>show bD<|SC.join (l:=a::r) ⟨_,B,rfl,n,rfl⟩ rfl j λt' k=>bQ<|h t' k
theorem QAD (M:x.cps.size<=1000000) (B:s.heap.get? L=aA (pR l n)) (z:l.length+1<=1000000)
 (j:wA ⟨#[]⟩ (l.map (·.1)++(if d<x.cps.size then [⟨x.cps.extract d x.cps.size⟩] else []))=aC)
 (h: ∀h' t' tk,Kp L s h'->Qf (Fin.done<|tF<|cP (sh<|l.map (·.1)++(if d<x.cps.size then [⟨x.cps.extract d x.cps.size⟩] else [])) t') {s with heap:=h',toks:=tk}):
 aZ (bH prog w) A (Ii (zi p x t C) L d) Qf E' s:=by
 unfold Ii;by_cases R:d<x.cps.size
 ·rw[if_pos R] at h j
  rw[if_pos<|show d<(zi p x t C).lim from R];show bD<|Ri (x:=⟨x.cps.extract d x.cps.size⟩) ?_<|Ih M d x.cps.size;show bD<|GA (s:={s with toks:=s.toks+1}) B (JJ z) λH N u K=>?_;have e:(l++[((⟨x.cps.extract d x.cps.size⟩:aN),s.toks)]).map (·.1)=l.map (·.1)++[⟨x.cps.extract d x.cps.size⟩]:=gR;show Mc M u (by rw[e];show j) λt' tk=>by rw[e];show h H t' tk K
 ·rw[if_neg R,lQ] at h j
  rw[if_neg<|show ¬ d<(zi p x t C).lim from R];show Mc M B j λt' tk=>h s.heap t' tk λO O O e=>e
end
theorem Sz {p L:aP} {x rep:aN} {t r:gZ} {d:Nat}:yV.«re.Pattern.sub.loop» ⟨[aG p,cP x t,cP rep r,rF 0,rF 0,rF it,rF (d:Int),rF (d:Int),dD aD,aG L,dD aD],[]⟩=slB p x t rep r L it d:=by lia
theorem XR {x rep:aN} {nx:Nat->Option (Nat×Nat)} (hb:b<=4*2^64) (z:x.cps.size<=1000000)
 (N: ∀d,d<=x.cps.size->qp b (mV C x.cps 0 d x.cps.size aD) (nx d)) (B: ∀d a e,nx d=aA (a,e)->d<=a/\a<e/\e<=x.cps.size) (k:Nat):
 ∀(d:Nat) (it:Int) (l:List (aN×gZ)) (n:Nat) (s:aV),x.cps.size<d+k->d<=x.cps.size->iI s.heap p C->p≠L->(∀ct vs o,s.heap.get? p=aA o->o.data=eY vs->vs.getD 5 bG=aG ct->ct≠L)->s.heap.get? L=aA (pR l n)->l.length+2*k<=1000000->
 wA ⟨#[]⟩ (l.map (·.1)++jB nx rep x.cps k d)=aC->
 (∀h' t' tk,Kp L s h'->Q (cP (sh<|l.map (·.1)++jB nx rep x.cps k d) t') {s with heap:=h',toks:=tk})->
 yQ (bH prog w) A (DT p x t rep rt L it d d aD) (wants Q E) s:=by
 induction k with
 |zero=>show λd it l n s q H O O O O O O O=>QIe q<|jt.mpr H
 |succ k ih=>
  intro d it l n s q H P R c i hz j h;show Rj QBA ?_;rw[Sz];show bD<|MA P<|bD<|rD rfl (bD<|Lk (N d H) hb λy Y=>?_);have g:l.length+1<=1000000:=aS hz
  induction hn:nx d with
  |some ae=>
   obtain ⟨a,e⟩:=ae;rw[hn] at Y;show Exists.elim (Y: ∃m,y=aA m/\m.start=a/\m.handed=e) λm Y=>?_;have M:=B d a e hn;have U:jB nx rep x.cps (k+1) d=(if d<m.start then [⟨x.cps.extract d m.start⟩] else [])++[rep]++jB nx rep x.cps k e:=by rw[Y.2.1,nI];show EA hn
   rw[U,<-nI] at j h;rw[Y.1];show QFI z i g λF n' h' tk K u f Z=>?_;rw[<-Z] at j h;show ⟨Rk _ (by decide+kernel),?_⟩;rw[Y.2.2,Y.2.1,show (e==a)=aD from beq_eq_false_iff_ne.mpr<|sv M.2.1];show ih e (it+1) F n' {s with heap:=h',toks:=tk} (bB (na q M.1) M.2.1) M.2.2 (P.but R c K).1 R (P.but R c K).2 u (bB hz f) j λH v r W=>h H v r λb o nb e=>W b o nb<|K b o nb e
  |none=>rw[hn] at Y;have U:jB nx rep x.cps (k+1) d=if d<x.cps.size then [⟨x.cps.extract d x.cps.size⟩] else []:=Ca hn;rw[U] at j h;rw[show y=aE from Y];show QAD z i g j λh' t' tk k=>h h' t' tk k
end
end
section
open PySem.Sre (M)
open Builtin.Re
theorem D_:Rl (bp "str") "__call__" =pure none:=by rw[Rm,Rn];lia
section
variable {A:de} {s:aV} {E:aO->aV->Prop}
theorem QAN {x rep:aN} {nx:Nat->Option (Nat×Nat)} (hb:b<=4*2^64) (M:x.cps.size<=400000) (r:rep.cps.contains 92=aD)
 (n: ∀d,d<=x.cps.size->qp b (mV C x.cps 0 d x.cps.size aD) (nx d)) (g: ∀d a e,nx d=aA (a,e)->d<=a/\a<e/\e<=x.cps.size)
 (P:iI s.heap p C) (j:wA ⟨#[]⟩ (jB nx rep x.cps (x.cps.size+1) 0)=aC)
 (h: ∀h' t' tk,(∀b o,s.heap.get? b=aA o->h'.get? b=aA o)->Q (cP (sh<|jB nx rep x.cps (x.cps.size+1) 0) t') {s with heap:=h',toks:=tk}):
 aZ (bH prog w) A (call (bx "re.Pattern.sub") [aG p,cP rep rt,cP x t]) Q E s:=by
 show yT (codeAny_call_builtin_code (Rk _<|by decide+kernel)<|MX.check _ _ _ _ _ _ _ _ P.typeIs (Xh _ _ _) ?_);show Rj QER ?_;delta yV.«re.Pattern.sub» reSubstitute;show bD (rD (a:=[aA<|cP rep rt,aA<|cP x t,aE]) (by lia) ?_);show bD<|bQ ?_;show bD<|QGh (Q4 _ _ _) D_ ?_
 try dsimp only
 show bD<|rD (a:=aA rep) rfl ?_;show bD<|bQ ?_;show sb (QIf<|by ext)<|sb r<|sb (if_pos<|by ext)<|wpAny_bind<|wpAny_pure ?_
 dsimp only;show bD<|dq<|MA P ?_;show sb (QIf<|by ext)<|wpAny_bind<|wpAny_newList ?_
 have hn:s.heap.get? s.heap.objs.size=none:=kJ<|cY _;have K: ∀b o,s.heap.get? b=aA o->(s.heap.push<|pR [] 0).get? b=aA o:=λO O e=>iW _ e;show bQ ⟨Rk _ (by decide+kernel),?_⟩;show XR (s:={s with heap:=s.heap.push<|pR [] 0}) (nx:=nx) (L:=s.heap.objs.size) (C:=C) hb (bO ‹_› (dI _ _)) n g (x.cps.size+1) 0 0 [] 0 (dI _ _) (iz _) (P.keeps K) (λq=>eE P.own λO a O O=>dy (q▸hn) a) (λct vs o e1 e2 u q=>?_) (gz _ rfl) (by simp;show bB M M) (by simpa using j) λh' t' tk f=>?_
 ·show eE P.own λo' a O O=>bE (P.ct (bt (K _ _ a) e1▸a) e2 u) λO i=>dy (q▸hn) i
 ·show h h' t' tk λb o e=>f b o (λq=>by rw[q,hn] at e;show bM e)<|K b o e
end
end
section
theorem Dw (h:step den p w s t=Step.go F t') (n:Nat):ub den p w (n+1) s t=ub den p w n F t':=by show (?_:(match step den p w s t with|.go F t'=>ub den p w n F t'|.halt o F=>E5 o F)=_);simp only[h]
theorem L1 (h:step den p w s t=tG o F) (n:Nat):ub den p w (n+1) s t=E5 o F:=by show (?_:(match step den p w s t with|.go F U=>ub den p w n F U|.halt o F=>E5 o F)=_);show sb h rfl
theorem Wf (n:Nat): ∀s t,ub den p w n s t=E5 o i-> ∃k N g,ub den p w k s t=BM N g/\step den p w N g=tG o i:=by
 induction n with
 |zero=>show λs t h=>by cases (h:BM s t=E5 o i)
 |succ n d=>
  intro s t h;induction A:step den p w s t with
  |go F U=>show qF (d F U<|(Dw A n).symm.trans h) λk N g a b=>(Nu (k+1) N g ((Dw A k).trans a) b)
  |halt H F=>cases (L1 A n).symm.trans h;show (Nu 0 s t rfl A)
theorem ZZ (k:Nat): ∀s t,s.asleep->(∀j n t',ub den p w j s t=BM n t'->t'.calm=aC)->ub den p w k s t=BM N g->
 E6 den p w k (uc s t)=SRun.running (uc N g):=by
 induction k with
 |zero=>show λs t O O h=>by cases (h:BM s t=BM N g);rfl
 |succ k i=>
  intro s t z c h;induction A:step den p w s t with
  |halt o n=>cases (L1 A k).symm.trans h
  |go n t'=>
   have e:sstep den p w (uc s t)=SStep.go (uc n t'):=by
    show Or.elim (sstep_single den p w s t (c 0 s t rfl) z) (λe=>?_) λe=>?_
    ·simp only[e,A]
     rfl
    ·rw[A] at e
     show nomatch e
   have C:E6 den p w (k+1) (uc s t)=E6 den p w k (uc n t'):=by show (?_:(match sstep den p w (uc s t) with|.go n=>E6 den p w k n|.halt o n=>SRun.halted o n)=_);show sb e rfl
   show C.trans<|i n t' (Ro (step_life den p w s n t t' A) z) (λj a b q=>c (j+1) a b<|(Dw A j).trans q)<|(Dw A k).symm.trans h
theorem ZP (h:finish o s=tG (ud f) t):o=ud f/\t=s:=by
 unfold finish at h
 split at h
 ·show nomatch h
 ·cases h;show ⟨rfl,rfl⟩
noncomputable def z7 (s:Step):Bool:=s.casesOn (motive:=λO=>Bool) (λO O=>aC) λo O=>o.casesOn (motive:=λO=>Bool) (λO=>aD) (λO=>aC) (λO=>aC) (λO=>aC) (λO=>aC) aC
theorem okd {st:Step} {q:Prop} (g:z7 st=aC) (h:st=tG (ud f) s):q:=by rw[h] at g;show dP g
theorem CU {q:Prop} [Decidable q] {x y:Step} (M:z7 x=aC) (Y:z7 y=aC):z7 (ite q x y)=true:=by
 by_cases k:q
 ·show sb (QIg k) M
 ·show sb (QIf k) Y
def Iv (den:Code->cM qB) (p:uQ) (w:dF) (s:aV) (t:Thread) (c:cM qB):Prop:=(∀f n,step den p w s ⟨c,t.code,t.pos,t.stack⟩=tG (ud f) n->False)\/(through ⟨c,t.code,t.pos,t.stack⟩=aC/\ ∃g,step den p w s ⟨c,t.code,t.pos,t.stack⟩=finish (ud g) s)
theorem gx (h:z7 (step den p w s ⟨c,t.code,t.pos,t.stack⟩)=aC):Iv den p w s t c:=.inl λf n e=>okd h e
theorem CH (h: ∀f n,step den p w s ⟨c,t.code,t.pos,t.stack⟩=tG (ud f) n->False):Iv den p w s t c:=.inl h
theorem tj {s t f s'} (h:Step.go s t=tG (ud f) s'):False:=nomatch h
theorem DW {a f s b} (h:tG (Outcome.stuck a) b=tG (ud f) s):False:=nomatch h
theorem VM (s:aV) (t:Thread) (C:cM qB):Iv den p w s t C:=by
 show C.casesOn
  (λx=>by
   induction x with
   |again c=>show gx<|gS aC
   |done g=>obtain ⟨c,m,P,o⟩:=t;induction o with
    |nil=>show .inr ⟨rfl,g,rfl⟩
    |cons F r _=>induction F<;>show gx<|gS aC)
  (λe=>by
   obtain ⟨c,m,P,o⟩:=t;induction o with
   |nil=>show gx<|CU (gS aC)<|gS aC
   |cons F r _=>induction F<;>show gx<|gS aC)
  (λO=>gx<|gS aC)
  (λO=>gx<|CU (gS aC)<|gS aC)
  (λO O=>gx<|gS aC)
  (λO O=>gx<|gS aC)
  (λa q k=>CH λf n h=>by delta step at h;dsimp only at h;revert h;generalize s.heap.get? a=z;induction z;show DW;show tj)
  (λO O O O=>gx<|CU (gS aC)<|gS aC)
  (λO O=>gx<|gS aC)
  (λO O=>gx<|gS aC)
  (λO O=>gx<|gS aC)
  (λO O=>gx<|gS aC)
  (λO=>gx<|gS aC)
  (λO=>gx<|gS aC)
  (λO O O=>gx<|CU (gS aC)<|gS aC)
  (λO O O=>gx<|gS aC)
  (λO O O O O=>gx<|gS aC)
  (λO O=>gx<|gS aC)
  (λO O=>gx<|gS aC)
  (λg k=>CH λf n h=>by delta step at h;dsimp only at h;revert h;generalize s.gens[g]?=z;induction z;show DW;show tj)
  (λg r l k=>CH λf n h=>by
   delta step at h;dsimp only at h;revert h;generalize s.gens[g]?=z;induction z with
   |none=>show DW
   |some N=>induction N with
    |fresh c=>induction r with
     |send v=>induction v<;>show tj
     |throw e=>show tj
    |suspended _ _ _ _ _ _=>show tj
    |running=>show tj
    |finished=>show tj)
  (λv g l k=>CH λf n h=>by delta step at h;dsimp only at h;revert h;generalize splitAtGen t.stack=z;induction z;show DW;show tj)
  (λO=>gx<|gS aC)
  (λO O=>gx<|gS aC)
  (λO=>gx<|gS aC)
  (λO O O O O=>gx<|gS aC)
theorem QDs (h:step den p w s t=tG (ud f) i):through t=aC/\i=s:=(VM s t t.cur).elim (λg=>(g _ _ h).elim) λg=>⟨g.1,g.2.elim λx e=>(ZP<|e.symm.trans h).2⟩
end
noncomputable def uk {α β:Type}:List α->β->(α->β->cM (ForInStep β))->cM (ForInStep β)
 |[],b,_=>pure<|.yield b
 |x::xs,b,f=>f x b>>=λr=>match r with
  |.done B=>pure<|.done B
  |.yield B=>uk xs B f
theorem My {α β:Type} (f:α->β->cM (ForInStep β)) (l r:List α) (b:β):forIn (l++r) b f=(uk l b f>>=λx=>match x with|.done B=>pure B|.yield B=>forIn r B f):=by
 induction l generalizing b with
 |nil=>show (pure_bind ..).symm
 |cons x R i=>
  simp! only[wB,vz]
  show Eq.trans ?_ (bind_assoc ..).symm
  congr 1
  funext y;induction y with
  |done B=>show (pure_bind ..).symm
  |yield B=>show i B
theorem F1 {α:Type} (x:List α) (h:x.length=n+1): ∃g,x=(cg<|n+1).map g:=by
 induction x with
 |nil=>trivial
 |cons a l=>show ⟨λi=>(a::l).getD i a,List.ext_getElem (by simp! only[h,cp,uZ]) λi H m=>by simp! only[List.getElem_map,List.getElem_range];show List.getElem_eq_getD a⟩
abbrev DS:=Option aP×List (cM aO×cM aO)
noncomputable def qT:{f:((Option (cM aO)×cM aO)->DS->cM (ForInStep DS))×(DS->cM aO) // ∀items,Rp items=(forIn items ((aE,[])) f.1>>=f.2)}:=⟨⟨_,_⟩,λO=>rfl⟩
noncomputable def gW (l:List yY) (n:Nat):Obj:=⟨bp "dict",aE,gu l.toArray n, #[]⟩
noncomputable def kT (k:Int):cM Value:=mkInt k
noncomputable def vT (p:cA) (x:hM):cM Value:=do let v<-mkText x;uU p;pure v
def oA (p:cA) (l:List (Int×hM)):List (cM aO×cM aO):=l.map λK=>(kT K.1,vT p K.2)
def kG (p:cA) (l:List (Int×hM)):List (Option (cM aO)×cM aO):=(oA p l).map λq=>(aA q.1,q.2)
noncomputable def ny (k:Int) (v:aO) (t:gZ):DictEntry:=⟨hashInt k,bS k t,v⟩
def Wz (ks:Int×hM) (e:yY):Prop:= ∃t u,e=ny ks.1 (cP ks.2 u) t
inductive yv:List (Int×hM)->List (aO×aO)->Prop
 |nil:yv [] []
 |cons {k x l vs} (t u:Tok):yv l vs->yv ((k,x)::l) ((Value.int k t,Value.str x u)::vs)
inductive fF:List (Int×hM)->List yY->Prop
 |nil:fF [] []
 |cons {ks e l es}:Wz ks e->fF l es->fF (ks::l) (e::es)
theorem fF.app {l es l' es'} (h:fF l es) (h':fF l' es'):fF (l++l') (es++es'):=by
 induction h with
 |nil=>show h'
 |cons a _ i=>show .cons a i
theorem fF.len {l es} (h:fF l es):es.length=l.length:=by
 induction h with
 |nil=>rfl
 |cons _ _ i=>simp -iota [i]
theorem fF.at {l es} (h:fF l es): ∀{i:Nat},i<es.length-> ∃ks,l[i]?=aA ks/\ ∃t u,es[i]?=aA (ny ks.1 (cP ks.2 u) t):=by
 induction h with
 |nil=>intro i d;trivial
 |cons a _ z=>
  intro i d;induction i with
  |zero=>show lL a λt u e=>sb e<|⟨_,rfl,t,u,rfl⟩
  |succ i=>show z<|Nat.lt_of_succ_lt_succ d
theorem fF.keys {l es} (h:fF l es):IntKeys es.toArray:=by
 induction h with
 |nil=>intro e he;simp -iota at he
 |cons a _ i=>
  intro e he;show lL a λt u B=>?_;clear a;subst B
  simp! only[List.mem_toArray,dR] at he i
  rcases he with rfl|he
  ·show (eS _ t rfl rfl)
  ·show i e (by simpa -iota using he)
theorem fF.none {l es} {k:Int} (h:fF l es) (K: ∀ks∈l,ks.1≠k):es.toArray.findIdx? (λe=>oS k e.key)=none:=by
 rw[List.findIdx?_toArray,List.findIdx?_eq_none_iff];intro e F;induction h with
 |nil=>trivial
 |cons a _ i=>
  show lL a λt u B=>?_;clear a;subst B;rcases dR.mp F with rfl|F
  ·have:=K _ (.head _)
   show QIf ‹_›
  ·show i (λks h=>K ks<|.tail _ h) F
section
variable {prog:uQ} {w:dF} {A:de} {E:aO->aV->Prop} {s:aV}
structure hZ (d:aP) (h h':bq):Prop where
 size:h'.objs.size=h.objs.size
 same: ∀b,b≠d->h'.objs[b]?=h.objs[b]?
 life:h'.life=h.life
theorem hZ.refl (d h):hZ d h h:=⟨rfl,λO O=>rfl,rfl⟩
theorem hZ.trans {d h h' h''} (a:hZ d h h') (b:hZ d h' h''):hZ d h h'':=⟨b.size.trans a.size,λc C=>(b.same c C).trans<|a.same c C,b.life.trans a.life⟩
theorem hZ.upd (d:aP) (h:bq) (f:bk->bk):hZ d h (h.update d f):=by obtain ⟨o,l⟩:=h;show ⟨by simp[Heap.update],λb B=>?_,rfl⟩;erw[Array.getElem?_modify];show sb (QIf<|oE B) rfl
theorem hZ.get {d h h'} (a:hZ d h h') (hb:b≠d):h'.get? b=h.get? b:=by unfold yC;show sb (a.same b hb) rfl
theorem QBP {k:Int} (hd:s.heap.get? d=aA (gW es n)) (K:IntKeys es.toArray)
 (hn:es.toArray.findIdx? (λe=>oS k e.key)=aE) (z:es.length<=oF)
 (h: ∀h',hZ d s.heap h'->h'.get? d=aA (gW (es++[ny k v t])<|n+1)->Q () {s with heap:=h'}):aZ (bH prog w) A (dictPut d (hashInt k) (bS k t) v) Q E s:=by
 show bD<|QHM hd rfl K ?_;show sb hn<|wpAny_updateDictKeys hd rfl (h _ (hZ.upd ..) ?_)
 erw[yR _ hd rfl];show (?_:aA (⟨bp "dict",aE,gu (es.toArray.push<|ny k v t)<|n+1, #[]⟩:bk)=_);rw[QHN];rfl
theorem KL {k:Int} (hd:s.heap.get? d=aA (gW es n)) (K:IntKeys es.toArray)
 (hn:es.toArray.findIdx? (λe=>oS k e.key)=aE) (z:es.length<=oF)
 (h: ∀h',hZ d s.heap h'->h'.get? d=aA (gW (es++[ny k v t])<|n+1)->Q () {s with heap:=h',toks:=s.toks+1}):aZ (bH prog w) A (dictSet d (bS k t) v) Q E s:=by
 show dq<|bD<|wpAny_pyHash_int ?_;show dq<|bD<|QHM hd rfl K ?_;show sb hn<|wpAny_bind<|wpAny_rule<|wpAny_updateDictKeys hd rfl (h _ (hZ.upd ..) ?_)
 erw[yR _ hd rfl];show (?_:aA (⟨bp "dict",aE,gu (es.toArray.push<|ny k v t)<|n+1, #[]⟩:bk)=_);rw[QHN];rfl
theorem MT {k:Int} (h:Q (bS k s.toks) {s with toks:=s.toks+1}):aZ (bH prog w) A (kT k) Q E s:=λO O O=>h
theorem M5 (h:Q (cP x s.toks) {s with toks:=s.toks+1}):aZ (bH prog w) A (vT p x) Q E s:=λO O O=>h
theorem fill (l:List (Int×hM)): ∀(done:List (Int×hM)) (es:List yY) (s:aV) (Q:PUnit->aV->Prop),fF done es->s.heap.get? d=aA (gW es es.length)->
 ((done++l).map (·.1)).Nodup->(done++l).length<=oF->
 (∀h' P,hZ d s.heap h'->fF (done++l) P->h'.get? d=aA (gW P P.length)->Q nH {s with heap:=h',toks:=s.toks+3*l.length})->
 aZ (bH prog w) A (forIn (oA p l) nH λ(x:cM aO×cM aO) (_:PUnit)=>(do
  let Y<-x.1
  let v<-q7 [Y] x.2
  q7 [Y,v] (dictSet d Y v)
  pure (rA nH):cM (ForInStep PUnit))) Q E s:=by
 induction l with
 |nil=>intro done es s Q he hd _ _ hQ;show bQ ?_;have:=hQ s.heap es (hZ.refl ..) (by simpa -iota using he) hd;simpa -iota using this
 |cons j l i=>
  intro done es s Q he hd n z hQ;obtain ⟨k,x⟩:=j;show (?_:aZ _ _ (forIn (_::_) _ _) _ _ _)
  simp! only[vz]
  have f: ∀ks∈done,ks.1≠k:=by intro ks K e;rw[gR,yZ] at n;show n.2.2 ks.1 (gQ.mpr<|bJ ks K rfl) k (.head _) e
  show bD<|bD<|MT<|bD<|dq<|M5<|bD<|dq ?_;show KL hd he.keys (he.none f) (by simp -iota at z;show bB (nL (he.len:es.length=done.length)) z) λh' b g=>bQ (i (done++[(k,x)]) (es++[ny k (cP x<|s.toks+1) s.toks]) _ _ (he.app<|.cons (mz _ _ rfl) .nil) (by simpa -iota using g) (by simpa -iota using n) (by simpa -iota using z) λh t B F u=>?_);have:=hQ h t (b.trans B) (by simpa -iota using F) u;simpa -iota [(by simp+arith:s.toks+1+1+1+3*l.length=s.toks+3*(l.length+1))] using this
theorem QCE {vs:List (aO×aO)} (v:yv l vs): ∀(n:List (Int×hM)) (es:List yY) (s:aV) (Q:PUnit->aV->Prop),fF n es->s.heap.get? d=aA (gW es es.length)->
 ((n++l).map (·.1)).Nodup->(n++l).length<=oF->
 (∀h' P,hZ d s.heap h'->fF (n++l) P->h'.get? d=aA (gW P P.length)->Q nH {s with heap:=h',toks:=s.toks+l.length})->
 aZ (bH prog w) A (forIn vs nH λ(x:aO×aO) (_:PUnit)=>(do dictSet d x.1 x.2;pure (rA nH))) Q E s:=by
 induction v with
 |nil=>
  intro n es s Q F L _ _ q
  simp! only[A6]
  show bQ ?_;have:=q s.heap es (hZ.refl ..) (by simpa -iota using F) L;simpa -iota using this
 | @cons k x l vs t u r i=>
  intro n es s Q F L N Z q
  simp! only[vz]
  have f: ∀Y∈n,Y.1≠k:=by
   intro Y K e
   simp! only[gR,yZ] at N
   show N.2.2 Y.1 (gQ.mpr<|bJ Y K rfl) k (.head _) e
  show bD<|bD ?_;show KL L F.keys (F.none f) (by simp -iota at Z;show bB (nL (F.len:es.length=n.length)) Z) λh' b g=>bQ (i (n++[(k,x)]) (es++[ny k (cP x u) t]) _ _ (F.app<|.cons (mz _ _ rfl) .nil) (by simpa -iota using g) (by simpa -iota using N) (by simpa -iota using Z) λh B z p o=>?_);have:=q h B (b.trans z) (by simpa -iota using p) o;have e:s.toks+1+l.length=s.toks+(l.length+1):=v5 _ _ _
  simpa -iota [e] using this
theorem Vi (l:List (Int×hM)): ∀(s:aV) (Q:List (aO×aO)->aV->Prop),
 (∀vs,yv l vs->Q vs {s with toks:=s.toks+2*l.length})->aZ (bH prog w) A (evalPairs<|oA p l) Q E s:=by
 induction l with
 |nil=>show λs Q h=>evalPairs_nil (by simpa -iota using h [] .nil)
 |cons K l i=>intro s Q h;obtain ⟨k,x⟩:=K;show evalPairs_cons<|MT<|M5<|i _ _ λvs v=>?_;simpa -iota [(by simp+arith:s.toks+1+1+2*l.length=s.toks+2*(l.length+1))] using h _ (.cons _ _ v)
structure sO (h h':bq):Prop where
 size:h'.objs.size=h.objs.size+1
 same: ∀b,b<h.objs.size->h'.objs[b]?=h.objs[b]?
 life:h'.life=h.life
theorem sO.push (h:bq) (o:bk):sO h (h.push o):=by obtain ⟨p,l⟩:=h;show ⟨by simp[Heap.push],λb B=>?_,rfl⟩;erw[Array.getElem?_push];show sb (QIf<|qy B) rfl
theorem sO.but (g:sO h h') (b:hZ h.objs.size h' H):sO h H:=⟨b.size.trans g.size,λc C=>(b.same c<|qy C).trans<|g.same c C,b.life.trans g.life⟩
theorem PY (L:15<l.length) (z:l.length<=oF) (n:(l.map (·.1)).Nodup)
 (h: ∀h' es,sO s.heap h'->fF l es->h'.get? s.heap.objs.size=aA (gW es es.length)->Q s.heap.objs.size {s with heap:=h',toks:=s.toks+3*l.length}):
 aZ (bH prog w) A (ya<|oA p l) Q E s:=by
 dsimp only[ya];show bD<|JM<|bD<|dq ?_;show sb (QIf (by simp -iota [oA];assumption))<|wpAny_bind<|wpAny_rule<|wpAny_bind ?_
 show fill l [] [] _ _ .nil (gz _ rfl) (by simpa -iota using n) (by simpa -iota using z) λh' es b e g=>?_;show bQ (bQ<|h h' es ((sO.push ..).but b) (by simpa -iota using e) g)
theorem Wj (L:l.length<=15) (n:(l.map (·.1)).Nodup)
 (h: ∀h' es,sO s.heap h'->fF l es->h'.get? s.heap.objs.size=aA (gW es es.length)->Q s.heap.objs.size {s with heap:=h',toks:=s.toks+3*l.length}):
 aZ (bH prog w) A (ya<|oA p l) Q E s:=by
 dsimp only[ya];show bD<|JM<|bD<|dq ?_;show sb (QIg (by simp -iota [oA];assumption))<|wpAny_bind<|Vi l _ _ λm v=>dq<|bD ?_
 show QCE v [] [] _ _ .nil (gz _ rfl) (by simpa -iota using n) (by simp! only[BL];simp;show bO ‹_› (dI _ _)) λh' es b e g=>?_;show bQ<|bQ ?_;have:=h h' es ((sO.push ..).but b) (by simpa -iota using e) g;simpa -iota [(by simp+arith:s.toks+2*l.length+l.length=s.toks+3*l.length)] using this
theorem TR {l L:List (Int×hM)} (n:((l++L).map (·.1)).Nodup) (K:L[x]?=aA ks): ∀q∈l++L.take x,q.1≠ks.1:=by
 intro q Q e;have u:L=L.take x++ks::L.drop (x+1):=by show bE (Ef.mp K) λh e=>?_;rw[<-e,List.getElem_cons_drop h,tH]
 rw[u,<-nI,gR,yZ] at n;show n.2.2 q.1 (gQ.mpr ⟨q,Q,rfl⟩) ks.1 (.head _) e
inductive Bs (d:aP) (s:aV) (l l':List (Int×hM)) (es':List yY) (rest:List Nat) (s':aV):Prop
 |mk (h':Heap) (i:Nat) (es'':List DictEntry):rest=List.range' i (es'.length - i)->i<=es'.length->s'={s with heap:=h'}->hZ d s.heap h'->fF (l++l'.take i) es''->h'.get? d=some (gW es'' es''.length)->Bs d s l l' es' rest s'
theorem M6 {es e:List yY} (C:a≠d) (U:(a==Ej)=aD) (hd:s.heap.get? d=aA (gW es es.length)) (K:s.heap.get? a=aA (gW e e.length))
 (he:fF l es) (p:fF f e) (n:l≠[]) (N:((l++f).map (·.1)).Nodup) (hz:(l++f).length<=oF)
 (h: ∀h' B,hZ d s.heap h'->fF (l++f) B->h'.get? d=aA (gW B B.length)->Q () {s with heap:=h'}):
 aZ (bH prog w) A (Jj d (aG a) aD) Q E s:=by
 dsimp only[Jj];have z:s.TypeIs (aG a) "dict" :=(bJ _ K rfl);show bD<|wpAny_isInstance z isSubtype_dict_dict ?_;show sb (QIg rfl)<|wpAny_bind<|wpAny_specialOf z F.slot_dict_iter.lookup ?_
 show (?_:aZ (bH prog w) A (if (a==Ej)=aC then _ else _) Q E s);erw[if_neg λq=>dP<|U.symm.trans q];have g:es≠[]:=by intro q;clear C U hd K p z;subst q;clear N hz h;cases he;show n rfl
 have r: ¬ es.toArray.isEmpty=true:=by simp[g]
 show bD<|QHO hd rfl ?_;show sb (QIf r)<|wpAny_bind<|wpAny_dictEntries K rfl (wpAny_bind<|wpAny_dictEpoch K rfl ?_)
 show bD<|wpAny_forIn_list _ (λrest O s'=>Bs d s l f e rest s') _ ?_ ?_ _ _ ?_
 ·clear U hd he n h z g r
  rintro x rest _ _ ⟨h',i,B,R,j,rfl,hb,b,Y⟩
  have L:i<e.length:=by
   show Or.elim (QHP i e.length) (λq=>?_) λq=>?_
   ·show q
   ·rw[wC q] at R
    clear q;trivial
  rw[show e.length - i=(e.length - (i+1))+1 by show (qj (sE (L:i+1<=e.length)).symm<|sE ((aS L):i<=e.length)),Jk] at R;show bP (List.cons.inj R) λm c=>?_;subst m;subst c;show bD<|QHO ((hb.get C).trans K:h'.get? a=aA (gW e e.length)) rfl ?_;show aT (p.at L) λks Z W=>lL W λt u o=>sb (by simpa -iota using o:e.toArray[x]?=aA (ny ks.1 (.str ks.2 u) t))<|wpAny_bind (wpAny_holding<|QBP Y b.keys (b.none<|TR N Z) (by rw[(by (erw[b.len];erw[List.length_append];erw[List.length_take];show sb (Nat.min_eq_left (by rw[<-p.len];assumption)) rfl):B.length=l.length+x)];simp -iota at hz;show bB (by rw[<-p.len];show L:x<f.length) hz) λH P v=>?_)
  have M:hZ d s.heap H:=hb.trans P;show bD (wpAny_dictEpoch ((M.get C).trans K) rfl ?_)
  simp! only[QIk,rB,QIn]
  show bQ (Bs.mk H (x+1) (B++[ny ks.1 (cP ks.2 u) t]) rfl L rfl M ?_ (by simpa -iota [ny] using v));rw[(by rw[List.take_add_one,Z];rfl:f.take (x+1)=f.take x++[ks]),<-nI];show b.app<|.cons (mz _ _ rfl) .nil
 ·clear C U hd K he n N hz z g r
  rintro _ _ ⟨h',i,B,R,j,rfl,hb,b,Y⟩
  have:i=e.length:=by have:=QIh Jl R;simp -iota at this;show (qj (sE (j:i<=e.length)) this)
  clear R j;subst this;rw[p.len,List.take_length] at b;show bQ<|h h' B hb b Y
 ·show Bs.mk s.heap 0 es (by simp -iota [Rq]) (iz _) rfl (hZ.refl ..) (by simpa -iota using he) hd
noncomputable def again:ForInStep DS->cM (ForInStep DS):=λr=>match r with
 |.done b=>pure<|.done b
 |.yield b=>uk [] b qT.1.1
theorem QFt (x:List (cM aO×cM aO)) (h:x.length=17):
 uk (x.map λq=>(aA q.1,q.2)) ((aE,[])) qT.1.1=(((ya x>>=λd=>pure<|aA d)>>=λm=>pure<|.yield<|(m,[]))>>=again):=by
 show bE (F1 x h) λg e=>?_;subst e;lia
theorem To (d:aP) (x:List (cM aO×cM aO)) (h:x.length=17):
 uk (x.map λq=>(aA q.1,q.2)) ((aA d,[])) qT.1.1=(((q7 [aG d] (ya x)>>=λa=>((q7 [aG d,aG a]<|Jj d (aG a) aD).onRaise λx=>q7 [aG d,x] (Rr<|yW "proto.let_go" {})>>=λO=>pure ())>>=λO=>pure<|aA d)>>=λm=>pure<|.yield<|(m,[]))>>=again):=by
 show bE (F1 x h) λg e=>sb e ?_;lia
theorem Z8 (d:aP) (x:List (cM aO×cM aO)) (h:x.length=4):
 (forIn (x.map λq=>(aA q.1,q.2)) ((aA d,[])) qT.1.1>>=qT.1.2)=((q7 [aG d] (ya x)>>=λa=>((q7 [aG d,aG a]<|Jj d (aG a) aD).onRaise λx=>q7 [aG d,x] (Rr<|yW "proto.let_go" {})>>=λO=>pure ())>>=λO=>pure<|aA d)>>=λm=>match m with
  |some d=>pure<|aG d
  |none=>newDict):=by
 show bE (F1 x h) λg e=>sb e ?_;lia
structure xZ (h0 h:bq) (m:Nat) (l:List (Int×hM)):Prop where
 size:h.objs.size=h0.objs.size+1+m
 same: ∀b,b<h0.objs.size->h.objs[b]?=h0.objs[b]?
 life:h.life=h0.life
 tab: ∃es,fF l es/\h.get? h0.objs.size=aA (gW es es.length)
theorem ZE (hd:d=h0.objs.size) (q:1<h0.objs.size) (G:xZ h0 s.heap m n) (hl:l.length=17) (W:n≠[])
 (N:((n++l).map (·.1)).Nodup) (z:(n++l).length<=oF) (h: ∀h',xZ h0 h' (m+1) (n++l)->Q (.yield (aA d,[])) {s with heap:=h',toks:=s.toks+51}):
 aZ (bH prog w) A (uk (kG p l) ((aA d,[])) qT.1.1) Q E s:=by
 subst hd;show sb (To _ _<|by simp -iota [oA,hl])<|aT G.tab λes M u=>?_
 have a:(l.map (·.1)).Nodup:=by simp! only[gR,yZ] at N;show N.2.1
 show bD (bD<|bD<|dq<|PY (aS<|nR hl) (by simp! only[BL];show aS<|nL hl) a λH F g i Z=>?_);have L:h0.objs.size<s.heap.objs.size:=by simp! only[G.size];show jb _ _
 have C:H.get? h0.objs.size=aA (gW es es.length):=by
  simp! only[<-u]
  unfold yC
  simp! only[g.same _ L]
 show bD<|QHQ<|dq<|M6 (sv L) (beq_eq_false_iff_ne.mpr<|sv<|EY ‹_› ‹_›) C Z M i W N z λx f B e Y=>?_;show bQ<|bQ<|bQ ?_;show sb hl<|h x ⟨?_,λb hb=>?_,?_,f,e,Y⟩
 ·simp! only[B.size,g.size,G.size]
  show sz _ _ _
 ·simp! only[B.same b<|qy hb,g.same b<|EY hb L,G.same b hb]
 ·simp! only[B.life,g.life,G.life]
theorem Ug (hl:l.length=17) (n:(l.map (·.1)).Nodup)
 (h: ∀h',xZ s.heap h' 0 l->Q (.yield (aA s.heap.objs.size,[])) {s with heap:=h',toks:=s.toks+51}):
 aZ (bH prog w) A (uk (kG p l) ((aE,[])) qT.1.1) Q E s:=by
 show sb (QFt _<|by simp -iota [oA,hl])<|wpAny_bind (wpAny_bind<|wpAny_bind<|PY (aS<|nR hl) (by erw[sizeLine_eq];show aS<|nL hl) n λH e g L Z=>?_)
 show bQ<|bQ<|bQ ?_;show sb hl<|h H ⟨g.size,g.same,g.life,e,L,Z⟩
theorem Xu (hd:d=h0.objs.size) (q:1<h0.objs.size) (n:Nat): ∀(l done:List (Int×hM)) (m:Nat) (s:aV),l.length=17*n+4->xZ h0 s.heap m done->done≠[]->
 ((done++l).map (·.1)).Nodup->(done++l).length<=oF->
 (∀h',xZ h0 h' (m+n+1) (done++l)->Q (aG d) {s with heap:=h',toks:=s.toks+51*n+12})->
 aZ (bH prog w) A (forIn (kG p l) ((aA d,[])) qT.1.1>>=qT.1.2) Q E s:=by
 induction n with
 |zero=>
  intro l done m s hl G L N R h;subst hd;delta kG;show sb (Z8 _ _<|by simp -iota [oA,hl])<|aT G.tab λes he a=>bD (bD<|dq<|Wj (aS<|nL hl) (by simp! only[gR,yZ] at N;show N.2.1:(l.map (·.1)).Nodup) λH F g i Z=>?_)
  have K:h0.objs.size<s.heap.objs.size:=by simp! only[G.size];show jb _ _
  have C:H.get? h0.objs.size=aA (gW es es.length):=by
   simp! only[<-a]
   delta yC
   simp! only[g.same _ K]
  show bD<|QHQ<|dq<|M6 (sv K) (beq_eq_false_iff_ne.mpr<|sv<|EY ‹_› ‹_›) C Z he i L N R λx f B Y z=>?_;show bQ<|bQ ?_;show sb hl<|h x ⟨?_,λb hb=>?_,?_,f,Y,z⟩
  ·simp! only[B.size,g.size,G.size]
   show sz _ _ _
  ·simp! only[B.same b<|qy hb,g.same b<|EY hb K,G.same b hb]
  ·simp! only[B.life,g.life,G.life]
 |succ n c=>
  intro l done m s hl G L N R h
  have e:kG p l=kG p (l.take 17)++kG p (l.drop 17):=by
   delta kG oA
   simp! only[<-gR,<-gR,tH]
  simp! only[e,My,bind_assoc]
  have W:done++l=(done++l.take 17)++l.drop 17:=by simp! only[nI,tH]
  have j:((done++l.take 17).map (·.1)).Nodup:=by rw[W,gR,yZ] at N;show N.1
  show bD (ZE hd q G (by simp! only[yb];show (gO<|(aS<|nR hl))) L j (by have:=QIh Jl W;simp -iota at this R⊢;(clear hl;show (bB R<|Eb (17)<|l.length))) λh' o=>?_);show c (l.drop 17) (done++l.take 17) (m+1) _ (by simp! only[BN];show (qj hl<|sE ((aS<|nR hl):17<=l.length))) o (by simp -iota [L]) (W▸N) (W▸R) λu v=>?_;have:=h u (by simp! only[W,show m+(n+1)+1=m+1+n+1 by show v5 _ _ _];show v);simpa -iota [(by simp+arith:s.toks+51+51*n+12=s.toks+51*(n+1)+12)] using this
theorem Td (i:1<s.heap.objs.size) (hl:l.length=17*(n+1)+4) (N:(l.map (·.1)).Nodup) (z:l.length<=oF)
 (h: ∀h',xZ s.heap h' (n+1) l->Q (aG s.heap.objs.size) {s with heap:=h',toks:=s.toks+51*(n+1)+12}):
 aZ (bH prog w) A (Rp<|kG p l) Q E s:=by
 rw[qT.2]
 have e:kG p l=kG p (l.take 17)++kG p (l.drop 17):=by
  delta kG oA
  simp! only[<-gR,<-gR,tH]
 simp! only[e,My,bind_assoc]
 have Y:((l.take 17).map (·.1)).Nodup:=by rw[<-tH 17 l,gR,yZ] at N;show N.1
 show bD (Ug (by erw[yb];show (gO<|(aS<|nR hl))) Y λh' o=>?_);show Xu rfl i n (l.drop 17) (l.take 17) 0 _ (by erw[BN];show (qj hl<|sE ((aS<|nR hl):17<=l.length))) o (by intro q;have:=QIh Jl q;rw[yb,tI] at this;show (dC (nR<|gO ((aS<|nR hl):17<=l.length))<|nL this)) (by rw[tH];show N) (by rw[tH];show z) λH g=>?_
 simp! only[tH,v9] at g
 have:=h H g;simpa -iota [(by simp+arith:s.toks+51+51*n+12=s.toks+51*(n+1)+12)] using this
end
namespace B01
noncomputable abbrev en (P:cH) (x:hM) (t:Nat) (v:aO):DictEntry:=⟨PyData.keyHash P x,cP x t,v⟩
noncomputable def hU (x:String):hM:=E7 x
def cE (x:String) (t:Nat):Value:=cP (hU x) t
def se (l:List String):Nat->List Value:=l.rec (λO=>[]) λx O f t=>cE x t::f (t+1)
noncomputable def rO (l:List Int):Nat->List Value:=l.rec (λO=>[]) λx O f t=>bS x t::f (t+1)
noncomputable def ra (l:List Int):List Value:=l.map (bS · 0)
noncomputable def Wa (l:List String):Nat->List (String×Nat×aO):=l.rec (λO=>[]) λx O f t=>(x,t,bx x)::f (t+1)
noncomputable def OW (l:List String):Nat->List (String×Nat×aO):=l.rec (λO=>[]) λx O f t=>(x,t,bp x)::f (t+1)
noncomputable def xj (c:Int) (l:List (Int×Nat)):List Value:=l.rec [] λp O f=>bS p.1 0::bS c 0::aG p.2::f
def sa (P:cH) (l:List (String×Nat×aO)) (n:Nat):Obj:=⟨bp "dict",aE,gu (l.map λp=>en P (hU p.1) p.2.1 p.2.2).toArray n, #[]⟩
noncomputable def x8:Obj:=⟨bp "dict",aE,gu #[] 0, #[]⟩
noncomputable def gw (l:List aO):Obj:=⟨bp "tuple",aE,jr l.toArray 0, #[]⟩
noncomputable def l9:Obj:=⟨bp "tuple",aE,jr #[] 0, #[]⟩
noncomputable def uG (l:List aO):Obj:=⟨bp "list",aE,jr l.toArray 0, #[]⟩
noncomputable def wq (l:List aO):Obj:=⟨bG,aE,eY l.toArray, #[]⟩
noncomputable def dJ:Obj:=⟨bG,aE,eY #[], #[]⟩
noncomputable def iE (c:String) (l:List aO):Obj:=⟨bp c,aE,eY l.toArray, #[]⟩
def NC (n q:String) (s:eT) (g:Nat) (d m c:aO):FuncData:={name:=hU n,qualname:=hU q,params:=LA s,body:=E0<|gV s,scope:=dN s,globals:=g,closure:=[],defaults:=d,kwdefaults:=bG,doc:=bG,pyModule:=m,annotations:=aE,code:=c,closureTuple:=bG,builtins:=0}
def wY (n q:String) (s:eT):Obj:=⟨bG,aE,kn<|NC n q s 0 bG bG bG, #[]⟩
def wM (n q:String) (s:eT) (d m:aO) (c:Nat):Obj:=⟨bp "function",aE,kn<|NC n q s 3 d m<|aG c, #[]⟩
def wz (n q:String) (t:Nat) (l a b c d:Int) (r1 r2:Nat) (L v:aO) (r:Nat) (e:Int) (u:Nat):Obj:=iE "code" [cE n t,cE q<|t+1,cE "/claim/cut.py"<|t+2,bS l 0,bS a 0,bS b 0,bS c 0,bS d 0,aG r1,dD aC,bS 276 0,aG r2,bG,L,v,aG r,bS e 0,bS l 0,cE "/claim/cut.py" u]
def g3H:List (String×Nat×aO):=[("__doc__",166,bG),("__package__",167,bG),("__loader__",168,bx "__main__.__loader__#opaque"),("__spec__",169,bG),("__annotations__",170,aG 6),("__builtins__",171,aG 4),("__file__",173,cE "/claim/cut.py" 172),("__cached__",174,bG),("_sre",275,aG 12),("_twin_re_1",299,aG 36),("_twin_re_2",341,aG 41),("CRLF",343,cE "\r\n" 342),("quotedata",350,aG 48),("compute_powers",372,aG 56),("_str_to_int_inner",383,aG 63),("int_from_string",390,aG 70),("_DIV_LIMIT",392,bS 4000 391),("_div2n1n",409,aG 77),("_div3n2n",423,aG 84),("_int2digits",434,aG 91),("_digits2int",445,aG 98),("_divmod_pos",460,aG 105),("int_divmod",470,aG 112),("b1_set",532,aG 120),("in_table_b1",539,aG 130),("b3_exceptions",2490,aG 131),("map_table_b3",2498,aG 176),("tspecials",2534,aG 181),("_name_disallowed_re",2560,aG 186),("_value_disallowed_re",2594,aG 191),("_formatparam",2604,aG 199),("Headers",2762,aG 320),("_law_cells",2770,aG 329),("_law_letter",2779,aG 336),("_law_hidden",2787,aG 343),("_law_stay",2795,aG 350),("_law_typed",2804,aG 357),("_law_prepared",2810,aG 362),("_law_bid",2816,aG 367),("_law_book",2822,aG 372),("_law_crowded",2828,aG 377),("_law_mail",2841,aG 384),("_law_read",2853,aG 391),("_law_prices",2859,aG 396),("_law_ways",2865,aG 401),("_law_figures",2871,aG 406),("law",2877,aG 411)]
def tZ (P:cH) (n:aO) (k e:Nat):Obj:=sa P (("__name__",165,n)::g3H.take k) e
noncomputable def Ae:List (Int×Nat):=[(6,47),(9,55),(50,62),(60,69),(64,76),(80,83),(90,90),(106,97),(115,104),(126,111),(139,129),(142,175),(151,198),(160,205),(248,328),(250,335),(253,342),(256,349),(259,356),(263,361),(265,366),(277,371),(313,376),(321,383),(330,390),(343,395),(358,400),(364,405),(396,410)]
noncomputable def Wb {α:Type} (d:α) (l:List α):Nat->α:=l.rec (λO=>d) λo O f i=>i.rec o λj O=>f j
def QES:Value:=cE "cpy313.smtplib" 282
def xy:Value:=cE "cpy313._pylong" 351
def MK:Value:=cE "cpy313.stringprep" 471
def kB:Value:=cE "cpy313.wsgiref.headers" 2499
def lF:Value:=cE "law_wf0123_01" 2763
noncomputable def MU:List (String×Nat×aO):=[("__firstlineno__",2616,bS 160 2615),("__init__",2626,aG 214),("_convert_string_type",2636,aG 221),("__len__",2643,aG 228),("__setitem__",2652,aG 235),("__delitem__",2658,aG 240),("__getitem__",2666,aG 247),("__contains__",2674,aG 254),("get_all",2680,aG 259),("get",2691,aG 267),("keys",2697,aG 272),("values",2703,aG 277),("items",2710,aG 284),("__repr__",2717,aG 291),("__str__",2723,aG 296),("__bytes__",2730,aG 303),("setdefault",2740,aG 310),("add_header",2753,aG 317),("__static_attributes__",2755,aG 318)]
def kC (n q:String) (s:eT) (i t:Nat) (l a f:Int) (ns:List String) (v M:aO):List Obj:=l9::dJ::ns.rec [wY n q s,wz n q t l a 0 0 f i (i+1) bG bG (i+2) (t+3:Nat)<|t+4,wM n q s v M<|i+3] λO O O=>[gw<|se ns<|t+3,l9,wY n q s,wz n q t l a 0 0 f i (i+1) (aG<|i+2) (aG<|i+3) (i+4) (t+3+ns.length:Nat)<|t+4+ns.length,wM n q s v M<|i+5]
def gf (n:String):=kC n n
def QBk (P:cH):List (Nat×List bk):=[(42,[sa P ([("__name__",1,cE "builtins" 160),("__doc__",2,bx "builtins.__doc__:str#opaque"),("__package__",3,bx "builtins.__package__:str#opaque"),("__loader__",4,bx "builtins.__loader__:shared#opaque"),("__spec__",5,bx "builtins.__spec__#opaque")]++Wa ["__build_class__","__import__","abs","all","any","ascii","bin","breakpoint","callable","chr","compile","delattr","dir","divmod","eval","exec","format","getattr","globals","hasattr","hash","hex","id","input","isinstance","issubclass","iter","aiter","len","locals","max","min","next","anext","oct","ord","pow","print","repr","round","setattr","sorted","sum","vars"] 6++[("None",50,bG),("Ellipsis",51,Value.ellipsis),("NotImplemented",52,Value.notImplemented),("False",53,dD aD),("True",54,dD aC)]++OW ["bool","memoryview","bytearray","bytes","classmethod","complex","dict","enumerate","filter","float","frozenset","property","int","list","map","object","range","reversed","set","slice","staticmethod","str","super","tuple","type","zip"] 55++[("__debug__",81,dD aC)]++OW ["BaseException","BaseExceptionGroup","Exception","GeneratorExit","KeyboardInterrupt","SystemExit","ArithmeticError","AssertionError","AttributeError","BufferError","EOFError","ImportError","LookupError","MemoryError","NameError","OSError","ReferenceError","RuntimeError","StopAsyncIteration","StopIteration","SyntaxError","SystemError","TypeError","ValueError","Warning","FloatingPointError","OverflowError","ZeroDivisionError","BytesWarning","DeprecationWarning","EncodingWarning","FutureWarning","ImportWarning","PendingDeprecationWarning","ResourceWarning","RuntimeWarning","SyntaxWarning","UnicodeWarning","UserWarning","BlockingIOError","ChildProcessError","ConnectionError","FileExistsError","FileNotFoundError","InterruptedError","IsADirectoryError","NotADirectoryError","PermissionError","ProcessLookupError","TimeoutError","IndentationError","_IncompleteInputError","IndexError","KeyError","ModuleNotFoundError","NotImplementedError","PythonFinalizationError","RecursionError","UnboundLocalError","UnicodeError","BrokenPipeError","ConnectionAbortedError","ConnectionRefusedError","ConnectionResetError","TabError","UnicodeDecodeError","UnicodeEncodeError","UnicodeTranslateError","ExceptionGroup"] 82++[("EnvironmentError",151,bp "OSError"),("IOError",152,bp "OSError"),("open",153,bx "open"),("quit",154,bx "builtins.quit#opaque"),("exit",155,bx "builtins.exit#opaque"),("copyright",156,bx "builtins.copyright#opaque"),("credits",157,bx "builtins.credits#opaque"),("license",158,bx "builtins.license#opaque"),("help",159,bx "builtins.help#opaque")]) 159,sa P [("builtins",162,aG 4),("__main__",163,aG 5),("_sre",244,aG 12)] 3,⟨bG,aE,(gu #[en P (hU "\x69mport.loaded._sre") 183<|dD aC,en P (hU "class._frozen_importlib.BuiltinImporter") 185<|aG 14,en P (hU "watched.\x69mport") 206<|aG 18,en P (hU "class._frozen_importlib.ModuleSpec") 216<|aG 22,en P (hU "sys.modules.booked-epoch") 245<|bS 3 0,en P (hU "\x69mport.later-laid._sre") 270<|dD aC,en P (hU "watched.library") 272<|aG 27,en P (hU "watched.library-objects") 0<|cE "\x0c" 0,en P (hU "watched.library-deep._sre") 273<|cE "\x04\x00\x00\x0b\x04\x00\x00\x0b\x04\x00\x00\x03\x04\x00\x00\x0b\x08\x04dict\x02" 0] 9), #[]⟩,tZ P (cE "__main__" 164) 9 10,⟨(bp "module"),(aA 0),uY, #[]⟩,⟨(bp "module"),(aA 3),uY, #[]⟩,x8,l9,dJ,iE "code"<|se ["<module>","<module>","/claim/cut.py"] 176++ra [1,0,0,0,0]++[aG 7,dD aD,bS 175 0,aG 8,bG,bG,bG,bG,bS 179 0,bS 1 0,cE "/claim/cut.py" 180],⟨(bp "frame"),aE,uY, #[aA<|aG 9,aA<|aG 3,aA<|aG 3,aE,aA<|cE "__main__" 164,aE,aA<|aG 0]⟩,sa P [("__name__",247,cE "_sre" 246),("__doc__",248,bG),("__package__",250,cE "" 249),("__loader__",251,bx "off-the-table:_sre.__loader__:shared#opaque"),("__spec__",252,bx "off-the-table:_sre.__spec__:shared#opaque"),("compile",253,bx "_sre.compile"),("template",254,bx "off-the-table:_sre.template:shared#opaque"),("getcodesize",255,bx "off-the-table:_sre.getcodesize:shared#opaque"),("ascii_iscased",256,bx "off-the-table:_sre.ascii_iscased:shared#opaque"),("unicode_iscased",257,bx "off-the-table:_sre.unicode_iscased:shared#opaque"),("ascii_tolower",258,bx "off-the-table:_sre.ascii_tolower:shared#opaque"),("unicode_tolower",259,bx "off-the-table:_sre.unicode_tolower:shared#opaque"),("MAGIC",261,bS 20230612 260),("CODESIZE",263,bS 4 262),("MAXREPEAT",265,bS 4294967295 264),("MAXGROUPS",267,bS 1073741823 266),("copyright",269,cE " SRE 2.2.2 Copyright (c) 1997-2002 by Secret Labs AB " 268)] 17,⟨(bp "module"),(aA 11),uY, #[]⟩,sa P [("__module__",189,cE "_frozen_importlib" 186),("__firstlineno__",190,bS 971 187),("__doc__",191,bx "_frozen_importlib.BuiltinImporter.__doc__:str#opaque"),("_ORIGIN",192,cE "built-in" 188),("find_spec",193,bx "_frozen_importlib.BuiltinImporter.find_spec#opaque"),("create_module",194,bx "_frozen_importlib.BuiltinImporter.create_module#opaque"),("exec_module",195,bx "_frozen_importlib.BuiltinImporter.exec_module#opaque"),("get_code",196,bx "_frozen_importlib.BuiltinImporter.get_code#opaque"),("get_source",197,bx "_frozen_importlib.BuiltinImporter.get_source#opaque"),("is_package",198,bx "_frozen_importlib.BuiltinImporter.is_package#opaque"),("load_module",199,bx "_frozen_importlib.BuiltinImporter.load_module#opaque"),("__static_attributes__",200,aG 15),("__dict__",202,aG 16),("__weakref__",204,aG 17)] 14,⟨(bp "type"),aE,(Rt {name:=(hU "BuiltinImporter"),bases:=[(bp "object")],mro:=[(aG 14),(bp "object")],ns:=13,qualname:=(hU "BuiltinImporter"),hasDict:=aC,slotNames:=[],subclasses:=[],abstract:=aD,collection:=aE,hasDel:=aD}), #[]⟩,l9,iE "getset_descriptor" [cE "__dict__" 201,aG 14,bx "function.__dict__",bx "function.__dict__#set"],iE "getset_descriptor" [cE "__weakref__" 203,aG 14,bx "ExceptionGroup.__weakref__",bG],⟨bG,aE,(jr #[(bS 13 0),(cE "\x06\xbd\n__module__\x06\xba\x11_frozen_importlib\x06\xbe\x0f__firstlineno__\x04\xbb\x00ϋ\x06\xbf\x07__doc__\t4_frozen_importlib.BuiltinImporter.__doc__:str#opaque\x06\xc0\x07_ORIGIN\x06\xbc\x08built-in\x06\xc1\tfind_spec\t2_frozen_importlib.BuiltinImporter.find_spec#opaque\x06\xc2\rcreate_module\t6_frozen_importlib.BuiltinImporter.create_module#opaque\x06\xc3\x0bexec_module\t4_frozen_importlib.BuiltinImporter.exec_module#opaque\x06\xc4\x08get_code\t1_frozen_importlib.BuiltinImporter.get_code#opaque\x06\xc5\nget_source\t3_frozen_importlib.BuiltinImporter.get_source#opaque\x06\xc6\nis_package\t3_frozen_importlib.BuiltinImporter.is_package#opaque\x06\xc7\x0bload_module\t4_frozen_importlib.BuiltinImporter.load_module#opaque\x06\xc8\x15__static_attributes__\x04\x00\x00\x0f\x06\xca\x08__dict__\x04\x00\x00\x10\x06\xcc\x0b__weakref__\x04\x00\x00\x11" 0),(dD aC),(dD aC),(cE "" 205),(bS 21 0),(cE "\x06\xe3\n__module__\x06\xd9\x11_frozen_importlib\x06\xe4\x0f__firstlineno__\x04\xda\x00Ȳ\x06\xe5\x07__doc__\t/_frozen_importlib.ModuleSpec.__doc__:str#opaque\x06\xe6\x08__init__\t,_frozen_importlib.ModuleSpec.__init__#opaque\x06\xe7\x08__repr__\t,_frozen_importlib.ModuleSpec.__repr__#opaque\x06\xe8\x06__eq__\t*_frozen_importlib.ModuleSpec.__eq__#opaque\x06\xe9\x06cached\t*_frozen_importlib.ModuleSpec.cached#opaque\x06\xea\x06parent\t*_frozen_importlib.ModuleSpec.parent#opaque\x06\xeb\x0chas_location\t0_frozen_importlib.ModuleSpec.has_location#opaque\x06\xec\x15__static_attributes__\x04\x00\x00\x17\x06\xee\x08__dict__\x04\x00\x00\x18\x06\xf0\x0b__weakref__\x04\x00\x00\x19\x06\xf1\x08__hash__\x00" 0),(dD aC),(dD aC),(cE "" 242)] 1), #[]⟩,uG [],sa P [("name",208,cE "_sre" 207),("loader",209,aG 14),("origin",210,cE "built-in" 184),("loader_state",211,bG),("submodule_search_locations",212,bG),("_uninitialized_submodules",213,aG 19),("_set_fileattr",214,dD aD),("_cached",215,bG),("_initializing",243,dD aD)] 9,sa P [("__module__",227,cE "_frozen_importlib" 217),("__firstlineno__",228,bS 562 218),("__doc__",229,bx "_frozen_importlib.ModuleSpec.__doc__:str#opaque"),("__init__",230,bx "_frozen_importlib.ModuleSpec.__init__#opaque"),("__repr__",231,bx "_frozen_importlib.ModuleSpec.__repr__#opaque"),("__eq__",232,bx "_frozen_importlib.ModuleSpec.__eq__#opaque"),("cached",233,bx "_frozen_importlib.ModuleSpec.cached#opaque"),("parent",234,bx "_frozen_importlib.ModuleSpec.parent#opaque"),("has_location",235,bx "_frozen_importlib.ModuleSpec.has_location#opaque"),("__static_attributes__",236,aG 23),("__dict__",238,aG 24),("__weakref__",240,aG 25),("__hash__",241,bG)] 13,⟨(bp "type"),aE,(Rt {name:=(hU "ModuleSpec"),bases:=[(bp "object")],mro:=[(aG 22),(bp "object")],ns:=21,qualname:=(hU "ModuleSpec"),hasDict:=aC,slotNames:=[],subclasses:=[],abstract:=aD,collection:=aE,hasDel:=aD}), #[]⟩,gw<|se ["_cached","_set_fileattr","_uninitialized_submodules","loader","loader_state","name","origin","submodule_search_locations"] 219,iE "getset_descriptor" [cE "__dict__" 237,aG 22,bx "function.__dict__",bx "function.__dict__#set"],iE "getset_descriptor" [cE "__weakref__" 239,aG 22,bx "ExceptionGroup.__weakref__",bG],⟨(aG 22),(aA 20),uY, #[]⟩,⟨bG,aE,(jr #[(bS 11 0),(cP ⟨(hU "\x06÷\x08__name__\x06ö\x04_sre\x06ø\x07__doc__\x00\x06ú\x0b__package__\x06ù\x00\x06û\n__loader__\x04\x00\x00\x0e\x06ü\x08__spec__\x04\x00\x00\x1a\x06ý\x07compile\t\x0c_sre.compile\x06þ\x08template\t\r_sre.template\x06ÿ\x0bgetcodesize\t\x10_sre.getcodesize\x06Ā\rascii_iscased\t\x12_sre.ascii_iscased\x06ā\x0funicode_iscased\t\x14_sre.unicode_iscased\x06Ă\rascii_tolower\t\x12_sre.ascii_tolower\x06ă\x0funicode_tolower\t\x14_sre.unicode_tolower\x06ą\x05MAGIC\x04Ą\x00").cps++ #[20230612]++(hU "\x06ć\x08CODESIZE\x04Ć\x00\x04\x06ĉ\tMAXREPEAT\x04Ĉ\x00").cps++ #[4294967295]++(hU "\x06ċ\tMAXGROUPS\x04Ċ\x00").cps++ #[1073741823]++(hU "\x06č\tcopyright\x06Č5 SRE 2.2.2 Copyright (c) 1997-2002 by Secret Labs AB ").cps⟩ 0),(dD aC),(dD aD),(cE "_sre" 271)] 0), #[]⟩,l9,dJ,iE "code"<|se ["<module>","<module>","/claim/cut.py"] 277++ra [1,0,0,0,0]++[aG 28,dD aD,bS 276 0,aG 29,bG,bG,bG,bG,bS 280 0,bS 1 0,cE "/claim/cut.py" 281],⟨(bp "frame"),aE,uY, #[aA<|aG 30,aA<|aG 3,aA<|aG 3,aE,aA<|cE "__main__" 164,aE,aA<|aG 0]⟩,uG<|rO [14,4,0,1,1,6,1,16,46,1] 287,x8,gw [bG],gw<|ra [14,4,0,1,1,6,1,16,46,1],iE "re.Pattern" [cE "(?m)^\\." 285,bS 40 298,bS 0 0,bG,bG,aG 35,bS 0 0],uG<|rO [14,9,4,1,2,16,10,16,13,0,7,7,16,13,16,10,15,18,5,16,10,15,13,11,16,13,5,5,0,16,10,1,15,2,0,1] 303,x8,gw [bG],gw<|ra [14,9,4,1,2,16,10,16,13,0,7,7,16,13,16,10,15,18,5,16,10,15,13,11,16,13,5,5,0,16,10,1,15,2,0,1],iE "re.Pattern" [cE "(?:\\r\\n|\\n|\\r(?!\\n))" 301,bS 32 340,bS 0 0,bG,bG,aG 40,bS 0 0]]),
(49,gf "quotedata" (bz 5) 42 344 6 1 3 ["data"] bG QES),
(50,[gw [dD aD]]),
(57,gf "compute_powers" (bz 7) 50 353 9 4 3 ["w","base","more_than","show","seen","need","ws","lo","d","it","first","this","hi","sq"] (aG 49) xy),
(64,[l9,dJ,gw [cE "s" 376],gw<|se ["s","DIGLIM","inner","w5pow"] 377,wY "_str_to_int_inner" "_str_to_int_inner"<|bz 8,wz "_str_to_int_inner" "_str_to_int_inner" 373 50 1 0 0 3 57 58 (aG 59) (aG 60) 61 381 382,wM "_str_to_int_inner" "_str_to_int_inner" (bz 8) bG (cE "cpy313._pylong" 351) 62]),
(71,gf "int_from_string" (bz 9) 64 384 60 1 3 ["s"] bG xy),
(78,gf "_div2n1n" (bz 11) 71 393 64 3 3 ["a","b","n","pad","half_n","mask","b1","b2","q1","r","q2"] bG xy),
(85,gf "_div3n2n" (bz 12) 78 410 80 6 3 ["a12","a3","b","b1","b2","n","q","r"] bG xy),
(99,[l9,dJ,gw [cE "a" 427,cE "n" 428],gw<|se ["n","a_digits","inner"] 429,wY "_int2digits" "_int2digits"<|bz 13,wz "_int2digits" "_int2digits" 424 90 2 0 0 3 85 86 (aG 87) (aG 88) 89 432 433,wM "_int2digits" "_int2digits" (bz 13) bG (cE "cpy313._pylong" 351) 90,l9,dJ,gw [cE "digits" 438,cE "n" 439],gw<|se ["digits","n","inner"] 440,wY "_digits2int" "_digits2int"<|bz 14,wz "_digits2int" "_digits2int" 435 106 2 0 0 3 92 93 (aG 94) (aG 95) 96 443 444,wM "_digits2int" "_digits2int" (bz 14) bG (cE "cpy313._pylong" 351) 97]),
(106,gf "_divmod_pos" (bz 15) 99 446 115 2 3 ["a","b","n","a_digits","r","q_digits","a_digit","q_digit","q"] bG xy),
(113,gf "int_divmod" (bz 16) 106 461 126 2 3 ["a","b","q","r"] bG xy),
(124,[uG<|rO [173,847,6150,6155,6156,6157,8203,8204,8205,8288,65279] 473,iE "range" [bS 65024 484,bS 65040 485,bS 1 486],⟨(bp "list"),aE,(jr (rO ((cg 16).map λ(i:Nat)=>(65024+i:Nat)) 489).toArray 18), #[]⟩,iE "range_iterator"<|ra [65040,0,1],l9,iE "StopIteration" [aG 117,bG,bG,bG,dD aD,bG],uG<|rO [173,847,6150,6155,6156,6157,8203,8204,8205,8288,65279] 473++rO [65024,65025,65026,65027,65028,65029,65030,65031,65032,65033,65034,65035,65036,65037,65038,65039] 489,⟨(bp "set"),aE,(yc ([(65024,489),(65025,490),(65026,491),(65027,492),(65028,493),(65029,494),(6150,475),(65030,495),(65031,496),(65032,497),(65033,498),(6155,476),(6156,477),(6157,478),(8203,479),(8204,480),(8205,481),(65034,499),(65035,500),(65036,501),(65037,502),(65038,503),(65039,504),(173,473),(847,474),(8288,482),(65279,483)].map λp:Nat×Nat=>((p.1:Int),bS p.1 p.2)).toArray 29 {mask:=127,place:= #[0,1,2,3,4,5,6,7,8,9,10,11,12,13,14,15,16,17,18,19,20,21,22,45,79,96,127],dummies:= #[],finger:=0,led:= !(P.followText "set-order"),moves:=2,plain:=aC}), #[]⟩,iE "list_iterator" [bG,bS 27 0],l9,iE "StopIteration" [aG 122,bG,bG,bG,dD aD,bG]]),
(131,gf "in_table_b1" (bz 19) 124 533 139 1 3 ["code"] bG MK),
(170,[dJ,dJ,dJ,dJ,dJ,dJ,dJ,dJ,dJ,dJ,dJ,dJ,dJ,dJ,dJ,dJ,dJ,dJ,dJ,dJ,dJ,dJ,dJ,dJ,dJ,dJ,dJ,dJ,dJ,dJ,dJ,dJ,dJ,dJ,dJ,dJ,dJ,dJ,dJ]),
(177,gf "map_table_b3" (bz 21) 170 2491 142 1 3 ["code","r"] bG MK),
(193,[uG<|rO [14,14,4,1,1,9,0,4227896069,939524097,0,0,0,0,0,0,13,11,9,0,4227896069,939524097,0,0,0,0,0,0,1] 2504,x8,gw [bG],gw<|ra [14,14,4,1,1,9,0,4227896069,939524097,0,0,0,0,0,0,13,11,9,0,4227896069,939524097,0,0,0,0,0,0,1],iE "re.Pattern" [cE "[ \\(\\)<>@,;:\\\\\"/\\[\\]\\?=]" 2502,bS 32 2533,bS 0 0,bG,bG,aG 180,bS 0 0],uG<|rO [14,10,4,1,1,22,0,31,16,127,0,13,7,22,0,31,16,127,0,1] 2538,x8,gw [bG],gw<|ra [14,10,4,1,1,22,0,31,16,127,0,13,7,22,0,31,16,127,0,1],iE "re.Pattern" [cE "[\\x00-\\x1F\\x7F]" 2536,bS 32 2559,bS 0 0,bG,bG,aG 185,bS 0 0],uG<|rO [14,14,4,1,1,9,4294966783,0,0,2147483648,0,0,0,0,0,13,11,9,4294966783,0,0,2147483648,0,0,0,0,0,1] 2564,x8,gw [bG],gw<|ra [14,14,4,1,1,9,4294966783,0,0,2147483648,0,0,0,0,0,13,11,9,4294966783,0,0,2147483648,0,0,0,0,0,1],iE "re.Pattern" [cE "[\\x00-\\x08\\x0A-\\x1F\\x7F]" 2562,bS 32 2593,bS 0 0,bG,bG,aG 190,bS 0 0],gw [bG,bS 1 2595]]),
(200,gf "_formatparam" (bz 26) 193 2596 151 3 3 ["param","value","quote"] (aG 192) kB),
(208,[l9,iE "builtin_function_or_method" [bx "type.__prepare__",bp "type"],sa P (("__module__",2612,cE "cpy313.wsgiref.headers" 2499)::("__qualname__",2614,cE "Headers" 2613)::MU) 21,l9,wq<|xj 4 [(162,213),(172,220),(180,227),(183,234),(187,239),(191,246),(194,253),(197,258),(201,266),(208,271),(211,276),(214,283),(217,290),(220,295),(223,302),(226,309),(234,316)],iE "code"<|se ["Headers","Headers","/claim/cut.py"] 2607++ra [160,0,0,0,0]++[aG 203,dD aD,bS 276 0,aG 204,bG,bG,bG,bG,bS 2610 0,bS 160 0,cE "/claim/cut.py" 2611],⟨(bp "frame"),aE,uY, #[aA<|aG 205,aA<|aG 3,aA<|aG 202,aE,aA<|cE "cpy313.wsgiref.headers" 2499,aE,aA<|aG 0]⟩,gw [bG]]),
(215,kC "__init__" "Headers.__init__" (eX 27 0) 208 2617 162 2 3 ["self","headers","k","v"] (aG 207) kB),
(222,[l9,dJ,gw<|se ["self","value","name","regex"] 2630,l9,wY "_convert_string_type" "Headers._convert_string_type"<|eX 27 1,wz "_convert_string_type" "Headers._convert_string_type" 2627 172 2 0 1 3 215 216 (aG 217) (aG 218) 219 2634 2635,wM "_convert_string_type" "Headers._convert_string_type" (eX 27 1) bG (cE "cpy313.wsgiref.headers" 2499) 220]),
(229,kC "__len__" "Headers.__len__" (eX 27 2) 222 2637 180 1 3 ["self"] bG kB),
(236,kC "__setitem__" "Headers.__setitem__" (eX 27 3) 229 2644 183 3 3 ["self","name","val"] bG kB),
(241,kC "__delitem__" "Headers.__delitem__" (eX 27 4) 236 2653 187 2 3 [] bG kB),
(248,kC "__getitem__" "Headers.__getitem__" (eX 27 5) 241 2659 191 2 3 ["self","name"] bG kB),
(255,kC "__contains__" "Headers.__contains__" (eX 27 6) 248 2667 194 2 3 ["self","name"] bG kB),
(260,kC "get_all" "Headers.get_all" (eX 27 7) 255 2675 197 2 3 [] bG kB),
(261,[gw [bG]]),
(268,kC "get" "Headers.get" (eX 27 8) 261 2681 201 3 3 ["self","name","default","k","v"] (aG 260) kB),
(273,kC "keys" "Headers.keys" (eX 27 9) 268 2692 208 1 3 [] bG kB),
(278,kC "values" "Headers.values" (eX 27 10) 273 2698 211 1 3 [] bG kB),
(285,kC "items" "Headers.items" (eX 27 11) 278 2704 214 1 3 ["self"] bG kB),
(292,kC "__repr__" "Headers.__repr__" (eX 27 12) 285 2711 217 1 3 ["self"] bG kB),
(297,kC "__str__" "Headers.__str__" (eX 27 13) 292 2718 220 1 3 [] bG kB),
(304,kC "__bytes__" "Headers.__bytes__" (eX 27 14) 297 2724 223 1 3 ["self"] bG kB),
(311,kC "setdefault" "Headers.setdefault" (eX 27 15) 304 2731 226 3 3 ["self","name","value","result"] bG kB),
(318,kC "add_header" "Headers.add_header" (eX 27 16) 311 2741 234 3 11 ["self","_name","_value","_params","parts","k","v"] bG kB),
(325,[gw [cE "_headers" 2754],sa P (("__module__",2612,cE "cpy313.wsgiref.headers" 2499)::(MU++[("__dict__",2757,aG 321),("__weakref__",2759,aG 322),("__doc__",2760,bG)])) 4,⟨(bp "type"),aE,(Rt {name:=(hU "Headers"),bases:=[(bp "object")],mro:=[(aG 320),(bp "object")],ns:=319,qualname:=(hU "Headers"),hasDict:=aC,slotNames:=[],subclasses:=[],abstract:=aD,collection:=aE,hasDel:=aD}), #[aE,aE,aA<|cE "Headers" 2605,aA<|cE "Headers" 2613,aA<|bx "object.__new__",aA<|dD aC]⟩,iE "getset_descriptor" [cE "__dict__" 2756,aG 320,bx "function.__dict__",bx "function.__dict__#set"],iE "getset_descriptor" [cE "__weakref__" 2758,aG 320,bx "ExceptionGroup.__weakref__",bG],iE "super" [aG 320,aG 320,aG 320],iE "builtin_function_or_method" [bx "object.__init_subclass__",aG 320]]),
(330,gf "_law_cells" (bz 29) 325 2765 248 2 3 [] bG lF),
(337,gf "_law_letter" (bz 30) 330 2771 250 2 3 ["letter","way","starts"] bG lF),
(344,gf "_law_hidden" (bz 31) 337 2780 253 1 3 ["way","lone"] bG lF),
(351,gf "_law_stay" (bz 32) 344 2788 256 1 3 ["way","beside"] bG lF),
(358,gf "_law_typed" (bz 33) 351 2796 259 3 3 ["buyer","lot","way"] bG lF),
(363,gf "_law_prepared" (bz 34) 358 2805 263 1 3 [] bG lF),
(368,gf "_law_bid" (bz 35) 363 2811 265 5 3 [] bG lF),
(373,gf "_law_book" (bz 36) 368 2817 277 2 3 [] bG lF),
(378,gf "_law_crowded" (bz 37) 373 2823 313 2 3 [] bG lF),
(385,gf "_law_mail" (bz 38) 378 2829 321 3 3 ["prices","bare","way","ends","text","turn","lot"] bG lF),
(392,gf "_law_read" (bz 39) 385 2842 330 2 3 ["told","way","rows","prices","turn","row"] bG lF),
(397,gf "_law_prices" (bz 40) 392 2854 343 2 3 [] bG lF),
(402,gf "_law_ways" (bz 41) 397 2860 358 2 3 [] bG lF),
(407,gf "_law_figures" (bz 42) 402 2866 364 2 3 [] bG lF),
(412,gf "law" (bz 43) 407 2872 396 1 3 [] bG lF)]
def X4 (l:List (Nat×List bk)) (i:Nat):Nat->Obj:=l.rec (λO=>dJ) λp O f s=>(di i p.1).rec (f p.1)<|Wb dJ p.2<|i - s
def ob (i:Nat) (P:cH):Obj:=X4 (QBk P) i 0
noncomputable def Cj (n:Nat) (f:Nat->bk):Nat->Nat->Nat->BT:=Nat.rec (λO O=>BT.nil) λO g a b=>bif di b n then BT.node (f b) (g (2*a)<|a+b) (g (2*a)<|2*a+b) else BT.nil
def QDk (P:cH):Obj:=tZ P (cE "cpy313.stringprep" 471) 23 24
def PO (P:cH):Obj:=wq<|xj 0<|Ae.take 10
def Vw (P:cH):Obj:=tZ P (cE "cpy313.stringprep" 471) 24 25
def X8 (P:cH):Obj:=tZ P (cE "cpy313.stringprep" 471) 25 26
def NF (P:cH):Obj:=wq<|xj 0<|Ae.take 11
def K_ (P:cH):Obj:=tZ P (cE "cpy313.stringprep" 471) 26 27
def Tw (P:cH):Obj:=tZ P (cE "cpy313.wsgiref.headers" 2499) 31 32
def Uc (P:cH):Obj:=wq<|xj 0<|Ae.take 13
def XJ (P:cH):Obj:=tZ P (cE "cpy313.wsgiref.headers" 2499) 32 33
def P_ (P:cH):Obj:=wq<|xj 0<|Ae.take 14
def zu (P:cH):Obj:=tZ P (cE "law_wf0123_01" 2763) 47 48
def QBf (P:cH):Obj:=wq<|xj 0<|Ae.take 29
def Hi (P:cH) (p o:bk) (n:Nat):BT:=Cj n (λi=>(dK i 3).rec ((dK i 29).rec (ob i P) o) p) 10 1 0
def EC (P:cH) (X:Nat->bk) (p o:bk) (n:Nat):BT:=Cj n (λi=>(dK i 3).rec ((dK i 29).rec ((iF 131 i && di i 170).rec (ob i P)<|X i) o) p) 10 1 0
def vS (P:cH):BT:=Cj 28 (ob · P) 10 1 0
def QDR (P:cH):BT:=Cj 32 (ob · P) 10 1 0
def Yk (P:cH):BT:=Hi P (QDk P) (PO P) 113
def WY (P:cH):BT:=Hi P (Vw P) (PO P) 124
def uy (P:cH):BT:=Hi P (X8 P) (NF P) 131
def r_ (P:cH) (X:Nat->bk):BT:=EC P X (K_ P) (NF P) 170
def QBd (P:cH) (X:Nat->bk):BT:=EC P X (Tw P) (Uc P) 200
def XK (P:cH) (X:Nat->bk):BT:=EC P X (XJ P) (P_ P) 325
def f7 (P:cH) (X:Nat->bk):BT:=EC P X (zu P) (QBf P) 412
def zz (P:cH) (os:fz):SharedT:=⟨QDR P,32,{}, #[],{},282,os⟩
def Fi (P:cH) (os:fz):SharedT:=⟨Yk P,113,{}, #[],{},473,os⟩
def Fh (P:cH) (os:fz):SharedT:=⟨WY P,124,{}, #[],{},533,os⟩
def tR (P:cH) (os:fz):SharedT:=⟨uy P,131,{}, #[],{},540,os⟩
def CR (P:cH) (X:Nat->bk) (os:fz):SharedT:=⟨r_ P X,170,{}, #[],{},2491,os⟩
def Nj (P:cH) (X:Nat->bk) (os:fz):SharedT:=⟨QBd P X,200,{}, #[],{},2605,os⟩
def PV (P:cH) (X:Nat->bk) (os:fz):SharedT:=⟨XK P X,325,{}, #[],{},2763,os⟩
def xQ (P:cH) (X:Nat->bk) (os:fz):SharedT:=⟨f7 P X,412,{}, #[],{},2878,os⟩
def jg:Env:={scope:=pg.main.scope,locals:=nN,globals:=nN,cells:=[],code:=aG 30,frame:=aA 31}
noncomputable def Γ0:Ctx:=⟨yW "claim.caller" {},aE,aE,[],aE⟩
def Γ1:Ctx:=Γ0.enter (yd (BK pg) jg) aE default
def sl (i n:Nat):List Stmt:=((BK pg).drop i).take n
noncomputable def tV:BT->Nat->List bk->BT
 |t,_,[]=>t
 |t,n,o::r=>tV (t.ins n o) (n+1) r
def P4 (P:cH):BT:=tV (vS P) 28 [ob 28 P,ob 29 P,ob 30 P]
noncomputable def Xs (X:Nat->bk):List Obj:=(cg 39).map λj=>X<|131+j
def QO (P:cH) (X:Nat->bk) (os:fz):SharedT:=⟨tV (uy P) 131<|Xs X,170,{}, #[],{},2490,os⟩
end B01
namespace B01
theorem pA (w:dF) (os:fz):ie (lS mX) pg w.params 3000 jI Γ1 default (zz w.params os) (hJ (sl 0 17) jg)=aA (.ok .next,⟨137,0,137,8⟩,Fi w.params os):=by lia
noncomputable def NQ:Code->cM qB:=PySem.W.Fast.tw11892475500146522536 PySem.W.Fast.tw14364793385576792824
theorem Yz:lS mX=NQ:=congr PySem.W.Fast.te11892475500146522536 PySem.W.Fast.te14364793385576792824
noncomputable def KX:List eT->eB->cM Flow:=PySem.W.Fast.tw12563942051412417395
theorem WW:hJ=KX:=PySem.W.Fast.te12563942051412417395
def PB (w:dF):Prop:= ∀os:fz,ie NQ pg w.params 5000 jI Γ1 ⟨137,0,137,8⟩ (Fi w.params os) (KX (sl 17 1) jg)=aA (.ok .next,⟨138,0,138,6⟩,Fh w.params os)
section
variable (w:dF)
include w
theorem x_:PB ((w.withFollow "special-get-raises" aD).withFollow "set-order" aD):=λos=>by lia
theorem Xl:PB ((w.withFollow "special-get-raises" aC).withFollow "set-order" aD):=λos=>by lia
theorem XC:PB ((w.withFollow "special-get-raises" aD).withFollow "set-order" aC):=λos=>by lia
theorem QBa:PB ((w.withFollow "special-get-raises" aC).withFollow "set-order" aC):=λos=>by lia
theorem pB (os:fz):ie (lS mX) pg w.params 5000 jI Γ1 ⟨137,0,137,8⟩ (Fi w.params os) (hJ (sl 17 1) jg)=aA (.ok .next,⟨138,0,138,6⟩,Fh w.params os):=by rw[Yz,WW];show byRow2 "set-order" (P:=PB) (λw=>byRow2 "special-get-raises" (P:=λw=>PB<|w.withFollow "set-order" aD) x_ Xl w) (λw=>byRow2 "special-get-raises" (P:=λw=>PB<|w.withFollow "set-order" aC) XC QBa w) w os
theorem pC (os:fz):ie (lS mX) pg w.params 3000 jI Γ1 ⟨138,0,138,6⟩ (Fh w.params os) (hJ (sl 18 1) jg)=aA (.ok .next,⟨139,0,140,30⟩,tR w.params os):=by lia
theorem pD (X:Nat->bk) (os:fz) (p:cA):ie (lS mX) pg w.params 1000 jI Γ1 p (QO w.params X os) (do uU ⟨141,0,141,13⟩;BC jg "b3_exceptions" (.ref 131);pure .next)=aA (.ok .next,⟨141,0,141,13⟩,CR w.params X os):=by lia
theorem pE (X:Nat->bk) (os:fz):ie (lS mX) pg w.params 3000 jI Γ1 ⟨141,0,141,13⟩ (CR w.params X os) (hJ (sl 20 6) jg)=aA (.ok .next,⟨151,0,159,20⟩,Nj w.params X os):=by lia
theorem pF (X:Nat->bk) (os:fz):ie (lS mX) pg w.params 5000 jI Γ1 ⟨151,0,159,20⟩ (Nj w.params X os) (hJ (sl 26 1) jg)=aA (.ok .next,⟨160,0,246,93⟩,PV w.params X os):=by lia
theorem pG (X:Nat->bk) (os:fz):ie (lS mX) pg w.params 3000 jI Γ1 ⟨160,0,246,93⟩ (PV w.params X os) (hJ (sl 27 16) jg)=aA (.ok .next,⟨396,0,408,100⟩,xQ w.params X os):=by lia
theorem pM (os:fz):ie (lS mX) pg w.params 1000 aO Γ0 default ⟨vS w.params,28,{}, #[],{},276,os⟩ (Ru pg.main)=aA (.ok<|.ref 30,default,⟨P4 w.params,31,{}, #[],{},282,os⟩):=by lia
theorem pN (os:fz):ie (lS mX) pg w.params 1000 aP Γ0 default ⟨P4 w.params,31,{}, #[],{},282,os⟩ (Rv (.ref 30) nN nN)=aA (.ok 31,default,zz w.params os):=by lia
theorem pK (os:fz):ie (lS mX) pg w.params 1000 Unit Γ1 default (zz w.params os) (Rw (BK pg) jg)=aA (.ok (),default,zz w.params os):=by lia
theorem pO:(fencedOpening mX pg w 40000).map (λs=>(s.heap,s.gens,s.drawn,s.toks))=aA (rI (vS w.params) 28 {}, #[],{},276):=by lia
end
theorem VL:b3.length=650:=by lia
theorem QFb:(Rx AS jg).zip ((Ry zh jg).map λv=>do let x<-v;uU zI;pure x)=kG zI b3:=by lia
noncomputable def Bx:Int->List (Int×hM)->Bool
 |_,[]=>aC
 |a,(k,_)::r=>decide (a<k) && Bx k r
theorem QDW:Bx 0 b3=true:=by lia
end B01
theorem uv {α:Type}: ∀(l:List (Nat×α)) (k:Nat) (x:α),l.lookup k=aA x->(k,x)∈l:=by
 intro l;induction l with
 |nil=>show λO O h=>nomatch h
 |cons p l i=>
  show λk x h=>by
   obtain ⟨a,b⟩:=p;by_cases e:k=a
   ·subst e
    simp only[jc,beq_self_eq_true] at h;cases h;show .head _
   ·simp only[jc,beq_false_of_ne e] at h
    show .tail _<|i k x h
theorem QDp {α:Type}: ∀(l:List (Nat×(aN×α))) (k:Nat),(l.map λp=>(p.1,p.2.1)).lookup k=(l.lookup k).map (·.1):=by
 intro O;induction O with
 |nil=>show λk=>rfl
 |cons O l i=>
  obtain ⟨a,b⟩:=O
  show λk=>by
   simp! only[dg,jc,jc]
   cases k==a
   ·show i k
   ·rfl
theorem PZ {α β:Type} {f g:α->β} {l:List α} (h:l.map f=l.map g): ∀x∈l,f x=g x:=QHR.mp h
def KQ (c:Fc) (cf:jC) (C:Fc):Bool:=C.ow && cf.scope.names.all (λx=>if x.2==ck then (C.dY x.1==c.dY x.1) && (C.dY x.1).isSome && B2 (C.K x.1) else aC)
theorem QCx (h:KQ Cow cf C=aC):vm Cow cf C:=by show bP (aF h) λow h=>⟨λx M f=>?_,ow⟩;have:=fN.mp h x M;rw[if_pos (by erw[f];rfl),gb,gb] at this;show ⟨by simpa -iota using this.1.1,this.1.2,Gd this.2⟩
namespace B01
noncomputable def T6 (x:eT):Pos:=x.casesOn (motive_2:=λO=>cA) (λO O O O O O O O O p=>p) (λO O O O O O O O O O=>default) (λO O O O O O O O O O O=>default) (λO O=>default) (λO O=>default) (λO O O=>default) (λO O O O O O O=>default) (λO O O O=>default) (λO O O O O=>default) (λO O O O O=>default) (λO O O O O=>default) (λO O O O=>default) (λO O O O=>default) (λO O O=>default) (λO O O=>default) (λO O O=>default) (λO O O=>default) (λO O O O O=>default) (λO O O O O=>default) (λO O O=>default) (λO O=>default) (λO O O O=>default) (λO O=>default) (λO O=>default) (λO O=>default) (λO=>default) (λO=>default) λO=>default
def o5 (i j:Nat):Stmt:=AX (gV<|bz i) j
def Gb (i j:Nat) (own tab:aP) (qual:aN) (ps:List aN):jC:={nm:= "inner",args:=LA<|o5 i j,body:=gV<|o5 i j,scope:=dN<|o5 i j,ps:=ps,pos:=T6<|o5 i j,own:=own,tab:=tab,qual:=qual}
noncomputable def dw:List Nat:=[19,32,37,113,115,119,177,182,187,58,86,93,132,133,134,135,136,137,138,139,140,141,142,143,144,145,146,147,148,149,150,151,152,153,154,155,156,157,158,159,160,161,162,163,164,165,166,167,168,169]
def G (P:cH) (X:Nat->bk):Heap:=vG (f7 P X) 412 dw
noncomputable def j9:Addr:=320
noncomputable def EE:Str:=E7 "_str_to_int_inner" ++ ".<locals>."
noncomputable def DU:Str:=E7 "_int2digits" ++ ".<locals>."
noncomputable def Dl:Str:=E7 "_digits2int" ++ ".<locals>."
def Co:jC:=Gb 8 1 62 58 EE ["a","b"]
def DZ:jC:=Gb 13 1 90 86 DU ["x","L","R"]
def yy:jC:=Gb 14 0 97 93 Dl ["L","R"]
theorem Zh:(dN<|bz 8).names.length<=200/\200<=1000000:=⟨cn (by lia),by ext⟩
theorem p_:(dN<|bz 13).names.length<=200/\200<=1000000:=⟨cn (by lia),by ext⟩
theorem QBE:(dN<|bz 14).names.length<=200/\200<=1000000:=⟨cn (by lia),by ext⟩
def O9:Fc:=Fc.fn (dN<|bz 8).names 200 aC aD (aA (62,EE)) Zh
def OO:Fc:=Fc.fn (dN<|bz 13).names 200 aC aD (aA (90,DU)) p_
def Oq:Fc:=Fc.fn (dN<|bz 14).names 200 aC aD (aA (97,Dl)) QBE
theorem ZI:O9.bd+200<=1000000/\Co.scope.names.length<=200:=⟨by ext,cn<|by lia⟩
theorem Tp:OO.bd+200<=1000000/\DZ.scope.names.length<=200:=⟨by ext,cn<|by lia⟩
theorem VY:Oq.bd+200<=1000000/\yy.scope.names.length<=200:=⟨by ext,cn<|by lia⟩
def vj:List (Nat×(Fc×jC)):=[(0,(O9,Co)),(1,(OO,DZ)),(2,(Oq,yy))]
def eR (f:Nat):Option jC:=(vj.lookup f).map (·.2)
def LG (f:Nat) (C:Fc):Prop:= ∃r,vj.lookup f=aA r/\vm r.1 r.2 C
def Fj (f:Nat) (C:Fc):Bool:=match vj.lookup f with|some r=>KQ r.1 r.2 C|none=>aD
theorem QEm (h:Fj f C=aC):LG f C:=by
 unfold Fj at h;induction q:vj.lookup f with
 |none=>rw[q] at h;show dP h
 |some r=>rw[q] at h;show (bJ r q<|QCx h)
noncomputable def DP (a:aP):aN->Option Value:=λy=>if y= "_headers" then aA (aG a) else aE
noncomputable def kE:M4 where
 HI X h x a:= ¬ X x/\(∀o d,h.get? x=aA o->o.dict=aA d-> ¬ X d)/\h.Inst x j9 (DP a)
 lh:=by
  intro X h U p x a H m;obtain ⟨n,N,o,e,c,C,r⟩:=H;show ⟨(m _ _ e n).2,λB d W u=>?_,o,(m _ _ e n).1,c,C,?_⟩
  ·obtain rfl:=bt ((m _ _ e n).1) W
   rcases r with ⟨r,_⟩|⟨R,r,_,K⟩
   ·show dy r u
   ·obtain rfl:=bt r u
    show qF K λb A Y v O=>(m _ _ v<|N _ _ e r).2
  ·rcases r with ⟨r,z⟩|⟨R,r,f,K⟩
   ·show .inl ⟨r,z⟩
   ·show .inr<|fw R r f<|K.at λb v=>(m _ _ v<|N _ _ e r).1
noncomputable def qS:List (Nat×(aN×aP)):=[(0,(("add_header" :aN),317)),(1,(("get_all" :aN),259)),(2,(("items" :aN),284)),(3,(("setdefault" :aN),310)),(4,(("get" :aN),267)),(9,(("__delitem__" :aN),240)),(10,(("_convert_string_type" :aN),221)),(20,(("_law_bid" :aN),367))]
def vb:List (Nat×aN×aP×(cH->bk)):=[(1,"_str_to_int_inner",63,(ob 63)),(2,"int_from_string",70,(ob 70)),(3,"_div2n1n",77,(ob 77)),(4,"_div3n2n",84,(ob 84)),(5,"_int2digits",91,(ob 91)),(6,"_digits2int",98,(ob 98)),(7,"_divmod_pos",105,(ob 105)),(8,"int_divmod",112,(ob 112)),(9,"quotedata",48,(ob 48)),(10,"in_table_b1",130,(ob 130)),(11,"map_table_b3",176,(ob 176)),(12,"_law_cells",329,(ob 329)),(13,"_law_letter",336,(ob 336)),(14,"_law_hidden",343,(ob 343)),(15,"_law_stay",350,(ob 350)),(16,"_law_typed",357,(ob 357)),(17,"_law_prepared",362,(ob 362)),(18,"_law_bid",367,(ob 367)),(19,"_law_book",372,(ob 372)),(20,"_law_crowded",377,(ob 377)),(21,"_law_mail",384,(ob 384)),(22,"_law_read",391,(ob 391)),(23,"_law_prices",396,(ob 396)),(24,"_law_ways",401,(ob 401)),(25,"_law_figures",406,(ob 406)),(26,"law",411,(ob 411))]
def II:List Str:= "compute_powers" ::vb.map (·.2.1)
section
variable (w:dF) (X:Nat->bk)
def mg:aN->Option Value:=(G w.params X).nsMap pj
def D (n:Nat):Wd where
 prog:=pg
 w:=w
 P:=jM eR kE
 G:=G w.params X
 n:=n
 o:=aY n
 mg:=mg w X
 fns:=II
 hm:=λk=>qS.lookup k
 dV:=LG
 hc:=j9
end
theorem gg {X:Nat->bk} (h:jQ (f7 P X) 412 dw a=aA o):(G P X).get? a=aA o:=(vi ..).trans h
section
variable {w:dF}
theorem g3:(G w.params X).get? 3=aA (zu w.params):=gg (by lia)
theorem g0:(G w.params X).get? 0=aA (ob 0 w.params):=gg (by lia)
theorem g2:(G w.params X).get? 2=aA (ob 2 w.params):=gg (by lia)
theorem j4 (x:aN):mg w X x=E8 (uD<|zu w.params) x:=by show (?_:(G w.params X).nsMap 3 x=_);unfold R4;erw[g3];rfl
theorem AM {h:bq} {o:bk} (e:h.get? a=aA o) (k:(match o.data with|.dict es _=>es.all (λe=>match e.key with|.str _ _=>aC|_=>aD)|_=>aD)=aC):h.isNs a=true:=by
 unfold Heap.isNs
 simp! only[e]
 show k
theorem og:Gl (G w.params X) (mg w X) where
 g:=.of_isNs (AM g3<|by lia)
 b:=.of_isNs (AM g0<|by lia)
 bo:=λx M=>Heap.of_bltView (AM g0<|by lia) (by
  delta Heap.bltView Heap.nsPairs;erw[(g0:(G w.params X).get? js=aA (ob 0 w.params))]
  lia) x M
 lim:=(bJ _ (.of_isNs<|AM g2<|by lia) (by
  delta R4;erw[(g2:(G w.params X).get? cStatics=aA (ob 2 w.params))]
  lia))
theorem zQ: ∀x∈Cd,mg w X x=none:=λx M=>(j4 x).trans (PZ (l:=Cd) (f:=E8<|uD<|zu w.params) (g:=λO=>aE) (by lia) x M)
theorem wQ:(D w X n).G.NoLimit:=og.lim
theorem G1: ∀r∈vb,II[r.1]?=aA r.2.1/\(D w X n).mg r.2.1=aA (aG r.2.2.1)/\(D w X n).G.get? r.2.2.1=aA (r.2.2.2 w.params)/\(r.2.2.2 w.params).data=kn (dz<|r.2.2.2 w.params):=λr R=>by
 have:=PZ (l:=vb) (f:=λr=>(II[r.1]?,E8 (uD<|zu w.params) r.2.1,jQ (f7 w.params X) 412 dw r.2.2.1,(r.2.2.2 w.params).data)) (g:=λr=>(aA r.2.1,aA<|aG r.2.2.1,aA<|r.2.2.2 w.params,kn<|dz<|r.2.2.2 w.params)) (by lia) r R
 simp! only[ua] at this
 show (mA this.1 ((j4 (w:=w) (X:=X) _).trans this.2.1) (gg this.2.2.1) this.2.2.2)
def ci:Ci where
 fns:=vb.map λr=>(r.1,r.2.1)
 hm:=qS.map λr=>(r.1,r.2.1)
 dV:=Fj
 xo _ _ _ _:=aD
theorem qI [H:eV (D w X n)] [R:nB (D w X n)]:dQ ci (D w X n) where
 H:=H
 R:=R
 fns f nm h:=by show aT (gQ.mp<|uv _ _ _ h) λr K e=>fR (G1 (w:=w) (X:=X) (n:=n) r K) λW B b Y=>?_;clear h K;cases e;show ⟨W,_,_,_,B,b,Y⟩
 hm k nm h:=by
  have h:(qS.map λr=>(r.1,r.2.1)).lookup k=aA nm:=h
  simp! only[QDp] at h
  show aT (nE.mp h) λp e e2=>⟨p.2,by show (?_:qS.lookup k=_);(erw[e];show dA e2 rfl)⟩
 dV f C h:=QEm h
 xo f i C s h:=by trivial
end
end B01
def Cp {α:Type} (P:α->Prop):List α->Prop
 |[]=>True
 |a::l=>P a/\Cp P l
theorem L2 {α:Type} {P:α->Prop}: ∀{l:List α},Cp P l-> ∀x∈l,P x:=by
 intro l;induction l with
 |nil=>show λO x M=>nomatch M
 |cons a l i=>show λh x M=>(dR.mp M).elim (λe=>e▸h.1)<|i h.2 x
def tb (C:Fc) (names:List (aN×fX)) (ps:List aN) (k:Nat):Bool:=decide ((names.map (·.1)).Nodup) && nC (ft C) ps (cg k)
theorem zB {k:Nat} (h:tb C names ps k=aC):(names.map (·.1)).Nodup/\qL C ps (cg k):=⟨iD (aF h).1,sN .nil (λx xs i is h g=>.cons (me h) g) (aF h).2⟩
namespace B01
theorem fE {names:List (aN×fX)} (h:iF names.length 200=aC):names.length<=200/\200<=1000000:=⟨cn h,by ext⟩
section
variable[H:eV (D w X n)] [R:nB (D w X n)] {hn:Bool}
theorem EF (h:vC (f7 w.params X) 412 dw a c tk o oc (gV s) (dN s).names) (i: ∀C q,cd=aA (C,q)->(dz o).code=aG C/\(dz o).qualname++ ".<locals>." =q) (Q: ∀us,us.length=ps.length->oR (dz o) ⟨us,[]⟩=pure (ps.zip us)) (f:iF (dN s).names.length 200=aC)
 (H:tb (Fc.fn (dN s).names 200 aC hn cd<|fE f) (dN s).names ps k=aC) (B:kW (D w X n) (Fc.fn (dN s).names 200 aC hn cd<|fE f) (gV s) (b.map SW.w)) (e:lu (aY n) k b xs d):qi (D w X<|n+1) a xs d:=
 have q:=zB H
 L7 (D:=D w X n) (o':=aY<|n+1) ⟨q.2,B,rfl⟩ wQ (u5 h i Q) q.1 (((q.2.vB (D:=D w X n)).1.trans uZ).trans e.1.symm) e.2
theorem TG (H:vC (f7 w.params X) 412 dw a c tk o oc (gV s) (dN s).names) (Q: ∀us,us.length=ps.length->oR (dz o) ⟨us,[]⟩=pure (ps.zip us)) (q:iF (dN s).names.length 200=aC)
 (h:(tb (Fc.fn (dN s).names 200 aC hn aE<|fE q) (dN s).names ps k && lJ ci (Fc.fn (dN s).names 200 aC hn aE<|fE q) b (gV s))=aC) (e:lu (aY n) k b xs d):qi (D w X<|n+1) a xs d:=
 EF H (λO O e=>by show bM e) Q q (aF h).1 (nX qI (aF h).2) e
end
theorem Y0: ∃b o,(D w X n).mg "__builtins__" =aA (aG b)/\b≠js/\(D w X n).G.get? b=aA o/\o.cls=bp "module" /\o.dict=aA js/\o.data=uY:=(vc 4 (ob 4 w.params) ((j4 (w:=w) (X:=X) "__builtins__").trans<|by lia) (by ext) (gg<|by lia) rfl rfl rfl)
theorem UM: ∀f g cf c,eR f=aA cf->eR g=aA c->c.tab=cf.tab->c=cf:=λf g cf c x n t=>by show aT (nE.mp x) λp u e=>?_;clear x;subst e;show aT (nE.mp n) λq z e=>?_;clear n;subst e;have h:=uv _ _ _ u;have H:=uv _ _ _ z;simp only[vj,dR,i5,or_false,ua] at h H;clear u z;rcases h with ⟨-,rfl⟩|⟨-,rfl⟩|⟨-,rfl⟩<;>rcases H with ⟨-,rfl⟩|⟨-,rfl⟩|⟨-,rfl⟩<;>first|rfl|show absurd t (by ext)
def dfB (C:Fc) (cf:jC) (i:Nat):Bool:=(C.cd==aA (cf.own,cf.qual)) && (ft C cf.nm i && cf.scope.names.all λx=>if x.2==ck then (C.dY x.1).isSome && B2 (C.K x.1) else aC)
theorem Ir [H:eV (D w X n)] (r:eR f=aA cf) (h:dfB C cf i=aC) (A:(cf.args.kwonlyargs,cf.args.kw_defaults,cf.args.defaults,docOf cf.body)=([],[],[],aE)) (m: ∀env,annTrees cf.args aE env=[])
 (Q: ∀fd,fd.params=cf.args->fd.defaults=bG->fd.kwdefaults=bG-> ∀us,us.length=cf.ps.length->oR fd ⟨us,[]⟩=pure (cf.ps.zip us)) (b:s=QHE cf.nm cf.args cf.body [] aE [] cf.scope aE cf.nm cf.pos):cO (D w X n) C s (.defn i f):=by
 subst b;simp only[ua] at A;show QBN rfl r (λg c e t=>UM f g cf c r e t) Y0 (QIi.mp (aF h).1) (me (aF (aF h).2).1) A.1 A.2.1 A.2.2.1 m A.2.2.2 (λx M F=>?_) Q;have:=fN.mp (aF (aF h).2).2 x M;rw[if_pos (by erw[F];rfl)] at this;show ⟨(aF this).1,Gd (aF this).2⟩
section
variable[eV<|D w X n] [nB<|D w X n]
theorem O_ {h0}:kW (D w X n) (Fc.fn (dN<|bz 8).names 200 aC aD (aA (62,EE)) h0) (gV<|bz 8) (Cr.map SW.w):=vd (SW.snd (Cr.getD 0 Sp) qI<|by lia) (vd (Ir rfl (by lia) (by lia) (λO=>by lia) (λf h i H=>iY λu v=>by unfold oR;(erw[h];erw[i];erw[H]);lia) (by lia))<|nX qI<|by lia)
theorem UX {h0}:kW (D w X n) (Fc.fn (dN<|bz 13).names 200 aC aD (aA (90,DU)) h0) (gV<|bz 13) (Ap.map SW.w):=vd (SW.snd (Ap.getD 0 Sp) qI<|by lia) (vd (Ir rfl (by lia) (by lia) (λO=>by lia) (λf h i H=>rl λu v z=>by unfold oR;(erw[h];erw[i];erw[H]);lia) (by lia))<|nX qI<|by lia)
theorem sb2 {h0}:kW (D w X n) (Fc.fn (dN<|bz 14).names 200 aC aD (aA (97,Dl)) h0) (gV<|bz 14) (B4.map SW.w):=vd (Ir rfl (by lia) (by lia) (λO=>by lia) (λf h i H=>iY λu v=>by unfold oR;(erw[h];erw[i];erw[H]);lia) (by lia)) (nX qI<|by lia)
end
theorem iu [eV<|D w X n] [nB<|D w X n] {p:Nat×Nat×List SW} (i:Nat) (s:eT) (ps:List aN) (c tk:Nat) (H: ∀us,us.length=ps.length->oR (dz<|ob (c+1) w.params) ⟨us,[]⟩=pure (ps.zip us)) (hn:Bool:=aD) (e1:vb[i]?=aA r:=by rfl) (e2:r.1=p.1:=by rfl) (A:vC (f7 w.params X) 412 dw r.2.2.1 c tk (ob (c+1) w.params) (ob c w.params) (gV s) (dN s).names:=by lia)
 (h:iF (dN s).names.length 200=true:=by lia) (b:(tb (Fc.fn (dN s).names 200 aC hn aE<|fE h) (dN s).names ps p.2.1 && lJ ci (Fc.fn (dN s).names 200 aC hn aE<|fE h) p.2.2 (gV s))=true:=by lia):
 ∃(i:Nat) (r:Nat×aN×aP×(cH->bk)),vb[i]?=aA r/\r.1=p.1/\ ∀xs d,lu (aY n) p.2.1 p.2.2 xs d->qi (D w X<|n+1) r.2.2.1 xs d:=
 (d0 i r e1 e2 λO O=>TG A H h b)
theorem QBv [eV<|D w X n] [nB<|D w X n]:Cp (λp=> ∃(i:Nat) (r:Nat×aN×aP×(cH->bk)),vb[i]?=aA r/\r.1=p.1/\ ∀xs d,lu (aY n) p.2.1 p.2.2 xs d->qi (D w X<|n+1) r.2.2.1 xs d) H0:=
 ⟨(d0 0 _ rfl rfl (λxs d=>EF (s:=bz 8) (hn:=aD) (cd:=aA (62,EE)) (ps:=["s"]) (o:=ob 63 w.params) (oc:=ob 62 w.params) (c:=62) (tk:=374) (by lia) (λc' q e=>by cases e;show ⟨by lia,by lia⟩) (ng λO=>by lia) (by lia) (by lia) O_)),
  iu 1 (bz 9) ["s"] 69 385 (ng λO=>by lia),
  iu 2 (bz 11) ["a","b","n"] 76 394 (rl λO O O=>by lia),
  iu 3 (bz 12) ["a12","a3","b","b1","b2","n"] 83 411 (NN λO O O O O O=>by lia),
  (d0 4 _ rfl rfl (λxs d=>EF (s:=bz 13) (hn:=aD) (cd:=aA (90,DU)) (ps:=["a","n"]) (o:=ob 91 w.params) (oc:=ob 90 w.params) (c:=90) (tk:=425) (by lia) (λc' q e=>by cases e;show ⟨by lia,by lia⟩) (iY λO O=>by lia) (by lia) (by lia) UX)),
  (d0 5 _ rfl rfl (λxs d=>EF (s:=bz 14) (hn:=aD) (cd:=aA (97,Dl)) (ps:=["digits","n"]) (o:=ob 98 w.params) (oc:=ob 97 w.params) (c:=97) (tk:=436) (by lia) (λc' q e=>by cases e;show ⟨by lia,by lia⟩) (iY λO O=>by lia) (by lia) (by lia) sb2)),
  iu 6 (bz 15) ["a","b"] 104 447 (iY λO O=>by lia),
  iu 7 (bz 16) ["a","b"] 111 462 (iY λO O=>by lia),
  iu 9 (bz 19) ["code"] 129 534 (ng λO=>by lia),
  iu 10 (bz 21) ["code"] 175 2492 (ng λO=>by lia),
  iu 11 (bz 29) ["script","first"] 328 2766 (iY λO O=>by lia),
  iu 12 (bz 30) ["letter","way"] 335 2772 (iY λO O=>by lia),
  iu 13 (bz 31) ["way"] 342 2781 (ng λO=>by lia),
  iu 14 (bz 32) ["way"] 349 2789 (ng λO=>by lia),
  iu 15 (bz 33) ["buyer","lot","way"] 356 2797 (rl λO O O=>by lia),
  iu 16 (bz 34) ["text"] 361 2806 (ng λO=>by lia),
  iu 18 (bz 36) ["cells","step"] 371 2818 (iY λO O=>by lia) aC,
  iu 19 (bz 37) ["rows","prices"] 376 2824 (iY λO O=>by lia),
  iu 20 (bz 38) ["prices","bare","way"] 383 2830 (rl λO O O=>by lia),
  iu 21 (bz 39) ["told","way"] 390 2843 (iY λO O=>by lia),
  iu 22 (bz 40) ["rows","cell"] 395 2855 (iY λO O=>by lia),
  iu 23 (bz 41) ["rows","width"] 400 2861 (iY λO O=>by lia),
  iu 24 (bz 42) ["rows","cells"] 405 2867 (iY λO O=>by lia),
  iu 25 (bz 43) ["script"] 410 2873 (ng λO=>by lia),trivial⟩
end B01
theorem Of: ∀d a e,vQ t d=aA (a,e)->d<=a/\a<e/\e<=t.size:=λd a e h=>by
 show aT (nE.mp h) λp A i=>?_;clear h;cases i;show eA (AN A) λH b r=>?_;have:di a t.size=true:=by unfold md at H;rw[gb] at H;show H.2
 show ⟨b,yN _,cn this⟩
theorem TM (t:Array Nat) (a:Nat):(rS t a=a+2/\di (a+1) t.size=aC)\/rS t a=a+1:=by
 unfold rS
 split
 ·rename_i q
  simp only[gb,gb] at q;show .inl ⟨rfl,q.2.1⟩
 ·show .inr rfl
theorem Ka: ∀d a e,tw t d=aA (a,e)->d<=a/\a<e/\e<=t.size:=λd a e h=>by
 show aT (nE.mp h) λp A i=>?_;clear h;cases i;show eA (AN A) λH b r=>?_;have P:=cn (by unfold jN at H;rw[gb] at H;show H.1:di a t.size=aC);rcases TM t a with ⟨e1,e2⟩|e1
 ·have:=cn e2
  show sb e1<|⟨b,by simp+arith,this⟩
 ·show sb e1<|⟨b,by show Nat.lt_succ_self _,P⟩
set_option tactic.hygienic true in
theorem Yn {nx:Nat->Option (Nat×Nat)} {rep:aN} (r:rep.length=2) (P: ∀d a e,nx d=aA (a,e)->d<=a/\a<e/\e<=t.size): ∀k d,d<=t.size->((jB nx rep t k d).map (·.length)).sum<=2*(t.size - d):=by
 intro O;induction O with
 |zero=>show λd O=>iz _
 |succ k z=>
  show λd Y=>by
   induction h:nx d with
   |some p=>
    obtain ⟨a,e⟩:=p;show sb (EA h)<|eA (P d a e h) λA i H=>?_;have z:=z e H;simp only[gR,BO,dg,lT,r]
    have:((if d<a then [(⟨t.extract d a⟩:aN)] else []).map (·.length)).sum<=a - d:=by
     by_cases q:d<a
     ·rw[if_pos q]
      simp only[dg,rJ,lT,Jm];show (?_:(t.extract d a).size+0<=_);show sb vt<|(bB (na (nL<|sE ((bB q<|nR<|Nat.min_eq_left ((bB i H):a<=t.size)):d<=min a t.size))<|nL<|Nat.min_eq_left ((bB i H):a<=t.size))<|nR<|sE ((aS q):d<=a))
     ·rw[if_neg q]
      show iz _
    show (bB (na (na (na (na (na (na this z)<|nL<|sE (A:d<=a))<|fO 2<|nL<|sE (H:e<=t.size)) i)<|fO 2<|nR<|sE (Y:d<=t.size)) A) i)
   |none=>
    erw[Ca h];by_cases q:d<t.size
    ·rw[if_pos q]
     simp only[dg,rJ,lT,Jm];show (?_:(t.extract d t.size).size+0<=_);show sb vt<|(Nat.min_self t.size).symm▸Nat.le_mul_of_pos_left _ (by ext)
    ·rw[if_neg q]
     show iz _
theorem G_ {nx:Nat->Option (Nat×Nat)} {rep:aN} (r:rep.length=2) (p: ∀d a e,nx d=aA (a,e)->d<=a/\a<e/\e<=t.size) (Z:t.size<=400000):wA ⟨#[]⟩ (jB nx rep t (t.size+1) 0)=true:=by show joinOk_of ?_;have:=Yn r p (t.size+1) 0<|iz _;have b:(⟨#[]⟩:aN).length=0:=rfl;simp only[b];show (bB (na this (fO 2<|nL<|sE ((by simp+arith):0<=t.size)))<|fO 2 Z)
theorem X6 (t:Array Nat): ∀d,d<=t.size->qp (5*(t.size+1)) (mV C1 t 0 d t.size aD) (vQ t d):=λd Y=>Tr t d Y
theorem QFc (t:Array Nat): ∀d,d<=t.size->qp 21 (mV C2 t 0 d t.size aD) (tw t d):=λd Y=>WC t d Y
def GY (g:aN->aN) (rep:aN) (a b:E):E:=λo l K=>lW [a,b] o l λv L=> ∃x:aN,v=[.d<|aI rep,.d<|aI x]/\x.cps.size<=400000/\K (.d<|aI<|g x) L
section
theorem PH [H:eV D] {b:Nat->Nat} {nx:Array Nat->Nat->Option (Nat×Nat)} {rep:aN} {np j:cA} (f:oj C nm) (hm:D.mg nm=aA (aG p)) (P:iI D.G p U) (M:MC (bf nm np) "sub" j pos xs) (hb: ∀n,n<=400000->b n<=4*2^64) (r:rep.cps.contains 92=aD) (R:rep.length=2)
 (N: ∀t d,d<=t.size->qp (b t.size) (mV U t 0 d t.size aD) (nx t d)) (B: ∀t d a e,nx t d=aA (a,e)->d<=a/\a<e/\e<=t.size) (q:iQ D C xs [a,c]):
 bI D C (du (hH (bf nm np) "sub" j) xs [] pos) (GY (λx=>sh<|jB (nx x.cps) rep x.cps (x.cps.size+1) 0) rep a c):=λh=>⟨λ{X z Q Er} K k=>by
 show yM (M.base X.env) (M.sg X.env) M.line<|rv K f hm ?_;have u:=P.keeps K.F.base;have W: ∀A,aG p=aG A-> ∃ob,z.s.heap.get? A=aA ob/\ob.dict=none:=λA e=>by show eE u.own λo a O c=>?_;cases e;show (bJ o a c)
 show (vc ("re.Pattern") ("re.Pattern.sub") Pu MX QEE u.typeIs W<|yI (M.pl X.env)<|iU (M.pl X.env)<|(q h).run K λvs l1 g us z1 v i q1=>?_);obtain ⟨x,rfl,Z,g⟩:=g;cases q1 with
 |cons q1 q2=>
  cases q2 with
  |cons q2 L=>
   cases L
   show bE (Rd.fD q1) λY m=>sb m<|bE (Rd.fD q2) λl m=>sb m<|wpAny_toks<|QAN (hb _ Z) Z r (N _) (B _) (P.keeps v.F.base) (G_ R (B _) Z) λh3 t' tk kk=>((k _ _ g).tr i).new v (.all kk)<|Rd.str _ _⟩
theorem QFK [H:eV D] (o:oj C nm) (m:D.mg nm=aA (cP i t)):bI D C (bf nm pos) (.str i):= @λO O h=>⟨λK k=>rv K o m<|(k _ _ h).id K<|Rd.str _ _⟩
end
namespace B01
variable {w:dF} {X:Nat->bk} {n:Nat}
def Bq (o:bk):Array Value:=match o.data with|.seq x _=>x|_=> #[]
theorem U7:iI (G w.params X) 36 C1:=⟨ob 36 w.params,35,ob 35 w.params,mL<|ob 36 w.params,Bq<|ob 35 w.params,0,gg (by lia),rfl,rfl,rfl,by lia,by lia,by lia,gg (by lia),rfl,by lia⟩
theorem QFA:iI (G w.params X) 41 C2:=⟨ob 41 w.params,40,ob 40 w.params,mL<|ob 41 w.params,Bq<|ob 40 w.params,0,gg (by lia),rfl,rfl,rfl,by lia,by lia,by lia,gg (by lia),rfl,by lia⟩
noncomputable def qdB:List S:=[.ret<|aA<|GY q1 y6 (.str y6)<|GY q2 AB (.str AB)<|.bL 0]
theorem Tn [eV<|D w X n] {h0}:kW (D w X n) (Fc.fn (dN<|bz 5).names 200 aC aD aE h0) (gV<|bz 5) qdB:=by
 show vd ?_ Nq
 with_reducible show PU ?_
 show PH (b:=λn=>5*(n+1)) (nx:=vQ) (rep:=y6) (qE<|by lia) ((j4 (w:=w) (X:=X) "_twin_re_1").trans<|by lia) U7 ⟨λO=>rfl,λO=>rfl,rfl⟩ (λn h=>by show (aS<|fO 5 h)) (by decide+kernel) rfl X6 (λO=>Of) (AY (λO=>rfl) Ni<|AY (λO=>rfl) ?_ HU);show PH (b:=λn=>21) (nx:=tw) (rep:=AB) (qE<|by lia) ((j4 (w:=w) (X:=X) "_twin_re_2").trans<|by lia) QFA ⟨λO=>rfl,λO=>rfl,rfl⟩ (λn h=>by ext) (by decide+kernel) rfl QFc (λO=>Ka) (AY (λO=>rfl) (QFK (t:=342) (qE<|by lia)<|(j4 (w:=w) (X:=X) "CRLF").trans<|by lia)<|AY (λO=>rfl) (vX<|mE<|by lia) HU)
theorem VD [eV<|D w X n] {a k:Nat} (f:qX (G w.params X) a (gV s) (dN s).names cd ps []) (h:tb (Fc.fn (dN s).names 200 aC hn cd hb) (dN s).names ps k=aC) (B:kW (D w X n) (Fc.fn (dN s).names 200 aC hn cd hb) (gV s) bs) (hl:xs.length=k) (e:sW bs (aY n) (kS (cg k) (xs.map aQ) []) (HA d)):qi (D w X<|n+1) a xs d:=
 have q:=zB h
 L7 (D:=D w X n) (o':=aY<|n+1) ⟨q.2,B,rfl⟩ wQ f q.1 (((q.2.vB (D:=D w X n)).1.trans uZ).trans hl.symm) e
theorem W3 [eV<|D w X n] (h:x.cps.size<=400000) (H:(q2 x).cps.size<=400000):qi (D w X<|n+1) 48 [aI x] (aI<|q1<|q2 x):=by intro A s Y us Q E;show VD (w:=w) (X:=X) (n:=n) (k:=1) (a:=48) (xs:=[aI x]) (d:=aI<|q1<|q2 x) (s:=bz 5) (ps:=["data"]) (cd:=aE) (hn:=aD) (hb:=fE<|by lia) (u5 (o:=ob 48 w.params) (oc:=ob 47 w.params) (c:=47) (tk:=345) (by lia) (λO O e=>by show bM e)<|ng λO=>by lia) (by lia) Tn rfl (⟨x,rfl,h,q2 x,rfl,H,.mk .d .ret⟩)
section
variable[H:eV (D w X n)] [R:nB (D w X n)] {a c tk k:Nat} {o oc:bk} {s:eT} {ps:List aN} {b:List SW} {xs hs hs':List aM} {d:aM} {ex:List aO} {exs:List Sl}
theorem H8 (P: ∀{Ob z},gM (D w X n) Ob z ex exs) (f:qX (G w.params X) a (gV s) (dN s).names aE ps ex) (h0:iF (dN s).names.length 200=aC)
 (h:(tb (Fc.fn (dN s).names 200 aC aD aE<|fE h0) (dN s).names ps k && lJ ci (Fc.fn (dN s).names 200 aC aD aE<|fE h0) b (gV s))=aC) (e:o6 (aY n) k exs b xs hs d hs'):qo (D w X<|n+1) a xs hs d hs':=
 have q:=zB (aF h).1
 Vn (D:=D w X n) (o':=aY<|n+1) ⟨q.2,nX qI (aF h).2,rfl⟩ wQ P f q.1 (((q.2.vB (D:=D w X n)).1.trans uZ).trans e.1.symm) e.2
theorem FQ (P: ∀{Ob z},gM (D w X n) Ob z ex exs) (f:qX (G w.params X) a (gV s) (dN s).names aE ps ex) (h0:iF (dN s).names.length 200=aC)
 (h:(tb (Fc.fn (dN s).names 200 aC aD aE<|fE h0) (dN s).names ps k && lJ ci (Fc.fn (dN s).names 200 aC aD aE<|fE h0) b (gV s))=aC) (e:rp (aY n) k exs b xs hs d):sV (D w X<|n+1) a xs hs d:=
 have q:=zB (aF h).1
 QEP (D:=D w X n) (o':=aY<|n+1) ⟨q.2,nX qI (aF h).2,rfl⟩ wQ P f q.1 (((q.2.vB (D:=D w X n)).1.trans uZ).trans e.1.symm) e.2
theorem VH (e:o6 (aY n) 3 [] EB xs hs d hs'):qo (D w X<|n+1) 310 xs hs d hs':=H8 (s:=eX 27 15) (ps:=["self","name","value"]) .nil (u5 (o:=ob 310 w.params) (oc:=ob 309 w.params) (c:=309) (tk:=2732) (by lia) (λO O e=>by show bM e)<|rl λO O O=>by lia) (by lia) (by lia) e
theorem E_ (e:o6 (aY n) 2 [] Fb xs hs d hs'):qo (D w X<|n+1) 240 xs hs d hs':=H8 (s:=eX 27 4) (ps:=["self","name"]) .nil (u5 (o:=ob 240 w.params) (oc:=ob 239 w.params) (c:=239) (tk:=2654) (by lia) (λO O e=>by show bM e)<|iY λO O=>by lia) (by lia) (by lia) e
theorem W0 (e:o6 (aY n) 5 [] ve xs hs d hs'):qo (D w X<|n+1) 367 xs hs d hs':=H8 (s:=bz 35) (ps:=["book","pairs","kind","pair","name"]) .nil (u5 (o:=ob 367 w.params) (oc:=ob 366 w.params) (c:=366) (tk:=2812) (by lia) (λO O e=>by show bM e)<|La λO O O O O=>by lia) (by lia) (by lia) e
theorem QCM (e:rp (aY n) 2 [] HS xs hs d):sV (D w X<|n+1) 259 xs hs d:=FQ (s:=eX 27 7) (ps:=["self","name"]) .nil (u5 (o:=ob 259 w.params) (oc:=ob 258 w.params) (c:=258) (tk:=2676) (by lia) (λO O e=>by show bM e)<|iY λO O=>by lia) (by lia) (by lia) e
theorem Kf (e:rp (aY n) 1 [] Bo xs hs d):sV (D w X<|n+1) 284 xs hs d:=FQ (s:=eX 27 11) (ps:=["self"]) .nil (u5 (o:=ob 284 w.params) (oc:=ob 283 w.params) (c:=283) (tk:=2705) (by lia) (λO O e=>by show bM e)<|ng λO=>by lia) (by lia) (by lia) e
theorem TZ:qX (G w.params X) 267 (gV<|eX 27 8) (dN<|eX 27 8).names aE ["self","name","default"] [bG]:=.mk (o:=ob 267 w.params) (fd:=dz<|ob 267 w.params) (gg<|by lia) (by lia) (Hd (a:=267) (o:=ob 267 w.params) (oc:=ob 266 w.params) (c:=266) (tk:=2682) (by lia) λO O e=>by show bM e) λR l {M A E Q s} b k=>by revert k;show iY (P:=λR=>Q ((["self","name","default"]:List aN).zip<|R++[bG]) s->aZ M A (oR (dz<|ob 267 w.params) ⟨R,[]⟩) Q E s) (λU u k=>?_) R (v7 l:R.length=2);show (?_:aZ M A (Ji (aG 260)>>=_) Q E s);show bD (Ez (b _ _ (gg<|by lia):s.heap.get? 260=aA (ob 260 w.params)) rfl ?_);show rD (by lia) k
theorem Vc (e:rp (aY n) 3 [aQ br] b_get xs hs d):sV (D w X<|n+1) 267 xs hs d:=FQ (s:=eX 27 8) (ps:=["self","name","default"]) (ex:=[bG]) (exs:=[aQ br]) (.cons Rd.none .nil) TZ (by lia) (by lia) e
end
end B01
namespace B01
variable {w:dF} {X:Nat->bk} {n:Nat}
theorem ta:(G w.params X).get? j9=aA (excClassObj "Headers" "Headers" j9 319 [bp "object"] [bp "object"] aC [] [] aD aE aE aE aE (aA<|cP (Jn "Headers") 2605) (aA<|cP (Jn "Headers") 2613) (aA<|dD aC) "object.__new__"):=gg (by lia)
theorem NJ:(G w.params X).get? 319=aA (ob 319 w.params):=gg (by lia)
def mN (w:dF) (X:Nat->bk):aN->Option Value:=(G w.params X).nsMap 319
theorem kg (x:aN):mN w X x=E8 (uD<|ob 319 w.params) x:=by delta mN R4;erw[NJ];rfl
theorem zG:(G w.params X).Ns 319 (mN w X):=.of_isNs (AM NJ<|by lia)
theorem QAX {E:aO->aV->Prop} (B: ∀b o,(D w X n).G.get? b=aA o->s.heap.get? b=aA o) (I:(D w X n).P.HI Y s.heap x a) (k: ∀tk,Q (aG a) {s with toks:=tk}):aZ (bH pg w) A (getAttr (aG x) "_headers" aC) Q E s:=by have I:=I.2.2;obtain ⟨h,g,d,t,os⟩:=s;show load_attr (B _ _ ta) (zG.keeps B) ((kg _).trans<|by lia) ((kg _).trans<|by lia) (by ac_nf) I (QIg rfl) rfl (k _)
theorem tq {of:bk} {y:Option aO} {pl:cM Bool} {E:aO->aV->Prop} (B: ∀b o,(D w X n).G.get? b=aA o->s.heap.get? b=aA o) (I:(D w X n).P.HI Y s.heap x a)
 (r:mN w X nm=aA (aG f)) (q:(G w.params X).get? f=aA of) (F:of.cls=bp "function") (C:Rl (bp "object") nm=pure y) (N:nm≠ "_headers") (k:Q (aG f,[aG x]) s):aZ (bH pg w) A (Ei (aG x) nm pl) Q E s:=by
 have I:=I.2.2;obtain ⟨h,g,d,t,os⟩:=s;show method_of (B _ _ ta) (zG.keeps B) ((kg _).trans<|by lia) ((kg _).trans<|by lia) r (B _ _ q) F C I (QIf N) k
def HmG (w:dF) (X:Nat->bk) (n:Nat) (p:Nat×aN×aP):Prop:=p.1<20-> ∀{A:de} {s:aV} {Y:aP->Prop} {x a:aP} {j:cM Bool} {Q:aO×List aO->aV->Prop} {E:aO->aV->Prop},(∀b o,(D w X n).G.get? b=aA o->s.heap.get? b=aA o)->(D w X n).P.HI Y s.heap x a->Q (aG p.2.2,[aG x]) s->aZ (bH pg w) A (Ei (aG x) p.2.1 j) Q E s
theorem QCf:Cp (HmG w X n) qS:=
 ⟨@λO A s Y x a pl Q E base I q=>tq (of:=ob 317 w.params) base I ((kg _).trans<|by lia) (gg<|by lia) rfl (y:=aE) (by ac_nf) (by ext) q,
  @λO A s Y x a pl Q E base I q=>tq (of:=ob 259 w.params) base I ((kg _).trans<|by lia) (gg<|by lia) rfl (y:=aE) (by ac_nf) (by ext) q,
  @λO A s Y x a pl Q E base I q=>tq (of:=ob 284 w.params) base I ((kg _).trans<|by lia) (gg<|by lia) rfl (y:=aE) (by ac_nf) (by ext) q,
  @λO A s Y x a pl Q E base I q=>tq (of:=ob 310 w.params) base I ((kg _).trans<|by lia) (gg<|by lia) rfl (y:=aE) (by ac_nf) (by ext) q,
  @λO A s Y x a pl Q E base I q=>tq (of:=ob 267 w.params) base I ((kg _).trans<|by lia) (gg<|by lia) rfl (y:=aE) (by ac_nf) (by ext) q,
  @λO A s Y x a pl Q E base I q=>tq (of:=ob 240 w.params) base I ((kg _).trans<|by lia) (gg<|by lia) rfl (y:=aE) (by ac_nf) (by ext) q,
  @λO A s Y x a pl Q E base I q=>tq (of:=ob 221 w.params) base I ((kg _).trans<|by lia) (gg<|by lia) rfl (y:=aE) (by ac_nf) (by ext) q,
  λh=>QIe h (by ext),trivial⟩
theorem TQ: ∀k nm f,(D w X n).hm k=aA (nm,f)->k<20-> ∀{A:de} {s:aV} {Y:aP->Prop} {x a:aP} {pl:cM Bool} {Q:aO×List aO->aV->Prop} {E:aO->aV->Prop},(∀b o,(D w X n).G.get? b=aA o->s.heap.get? b=aA o)->(D w X n).P.HI Y s.heap x a->Q (aG f,[aG x]) s->aZ (bH pg w) A (Ei (aG x) nm pl) Q E s:=by intro k nm f e K A s Y x a pl Q E B I q;show L2 (QCf) _ (uv qS k (nm,f) e) K B I q
theorem QEb: ∀k nm f,(D w X n).hm k=aA (nm,f)-> ∃o fd,(D w X n).G.get? f=aA o/\o.data=kn fd:=by
 intro k nm f e;have u:=e
 have m:(k,(nm,f))∈qS:=by
  have: ∀(l:List (Nat×(aN×aP))),l.lookup k=aA (nm,f)->(k,(nm,f))∈l:=by
   intro l;induction l with
   |nil=>intro h;show bM h
   |cons p l i=>
    intro h;obtain ⟨P,F⟩:=p
    simp! only[jc] at h
    split at h
    ·rename_i q
     clear e;cases h
     simp! only[QIi] at q
     subst q;show .head _
    ·show .tail _<|i h
  show this _ u
 unfold qS at m
 simp! only[dR,i5,or_false,ua] at m
 clear e u;rcases m with ⟨_,_,rfl⟩|⟨_,_,rfl⟩|⟨_,_,rfl⟩|⟨_,_,rfl⟩|⟨_,_,rfl⟩|⟨_,_,rfl⟩|⟨_,_,rfl⟩|⟨_,_,rfl⟩
 ·show (eS (ob 317 w.params) (dz<|ob 317 w.params) (gg<|by lia)<|by lia)
 ·show (eS (ob 259 w.params) (dz<|ob 259 w.params) (gg<|by lia)<|by lia)
 ·show (eS (ob 284 w.params) (dz<|ob 284 w.params) (gg<|by lia)<|by lia)
 ·show (eS (ob 310 w.params) (dz<|ob 310 w.params) (gg<|by lia)<|by lia)
 ·show (eS (ob 267 w.params) (dz<|ob 267 w.params) (gg<|by lia)<|by lia)
 ·show (eS (ob 240 w.params) (dz<|ob 240 w.params) (gg<|by lia)<|by lia)
 ·show (eS (ob 221 w.params) (dz<|ob 221 w.params) (gg<|by lia)<|by lia)
 ·show (eS (ob 367 w.params) (dz<|ob 367 w.params) (gg<|by lia)<|by lia)
theorem QFr: ∀{M:Ep} {A:de} {E:aO->aV->Prop} {s:aV} {x:aP} {u:aO} {Q:aO->aV->Prop},(∃o,s.heap.get? x=aA o/\o.cls=aG j9)->s.heap.get? j9=aA (excClassObj "Headers" "Headers" j9 319 [bp "object"] [bp "object"] aC [] [] aD aE aE aE aE (aA<|cP (Jn "Headers") 2605) (aA<|cP (Jn "Headers") 2613) (aA<|dD aC) "object.__new__")->Q u s->aZ M A (sequenceKey (aG x) u "__delitem__") Q E s:=by
 intro M A E s x u Q ⟨o,K,c⟩ C q;obtain ⟨h,g,d,t,os⟩:=s;delta sequenceKey seqItemTypes
 repeat (first|(with_reducible show wpAny_loadPart_at K ?_;erw[c])|(with_reducible show wpAny_loadPart_at C ?_)|wp_step)
 delta isSubtype mroOf
 repeat (first|(with_reducible show wpAny_loadPart_at C ?_)|wp_step)
 show q
theorem Z_ (e:(D w X n).hm 9=aA (nm,fa)) {E:aO->aV->Prop} (base: ∀b o,(D w X n).G.get? b=aA o->s.heap.get? b=aA o) (I:(D w X n).P.HI Y s.heap x a)
 (h:aZ (bH pg w) A (call (aG fa) [aG x,u]) (λO s'=>Q () s') E s):aZ (bH pg w) A (delItem (aG x) u) Q E s:=by
 have e':=e;clear e;cases e';have I:=I.2.2;show eE (id I) λo hx hc r=>?_;have os:s.heap.OwnSpecial x j9 240 "object" "__delitem__" :=⟨o,ob 240 w.params,_,_,319,_,_,_,_,_,_,_,_,_,_,_,_,_,"object.__new__",mN w X,aE,hx,hc,base _ _ ta,zG.keeps base,(kg _).trans (by lia),base _ _ (gg<|by lia),rfl,F.mro_object,by rw[Rm,Rn];lia⟩;show dq<|bD<|QFr (bJ o hx hc) (base _ _ ta)<|bD ?_;obtain ⟨hh,g,d,t,oss⟩:=s;show wpAny_callSpecial?_own os<|iy h (λv s' q=>?_) λO O z=>z;show bQ q
theorem XH:(D w X n).mg "Headers" =aA (aG (D w X n).hc)/\ ∀{A:de} {s:aV} {pos:cA} {l:List (Bool×cM aO)} {Q:aO->aV->Prop} {E:aO->aV->Prop},l.any (·.1)=aD->aZ (bH pg w) A (vx l) (λvs s₁=>(∀b o,(D w X n).G.get? b=aA o->s₁.heap.get? b=aA o)/\aZ (bH pg w) A (call (aG (D w X n).hc) vs) Q E s₁) E s->
 aZ (bH pg w) A (yG pos (aG (D w X n).hc) [] l []) Q E s:=by
 show ⟨(j4 (w:=w) (X:=X) "Headers").trans (by lia),λ{A s pos l Q E} hp h=>?_⟩;have hst:(l.any (λx=>x.fst)||([]:List (Option Str×Sem Value)).any λx=>x.fst.isNone)=false:=by erw[hp];rfl
 delta yG;show bD<|dq<|iU hp<|iy h (λvs s₁ h₁=>?_) λO O x=>x;obtain ⟨hh,g,d,t,os⟩:=s₁;have hC:=h₁.1 _ _ ta;have f1:=tc_lookup;have hT:=(bJ _ hC rfl);show bD<|kK ?_;show (?_:aZ _ _ (RI (aG j9)>>=_) _ _ _);delta RI specialOf
 repeat (any_goals (first|assumption|with_reducible show wpAny_loadPart_at hC ?_|with_reducible show wpAny_load' hC ?_|wp_step))
 show sb (QIg<|by rfl)<|sb hst<|(?_:wpAny _ _ (call (.ref j9) vs []>>=λr=>do q7 [r] point;pure r) _ _ _)
 show bD<|iy h₁.2 (λr s' hr=>bD<|dq<|wpAny_point<|bQ hr) λO O x=>x
end B01
def nY (h:bq) (b:aP):Prop:= ∃v n,h.get? b=aA (listOf v n)
theorem Bt (e:h.get? b=aA o) (c: ∀vs n,o≠listOf vs n): ¬ nY h b:=λ⟨vs,n,q⟩=>by rw[e] at q;show c vs n<|kj q
theorem QDt {vs:Array aO}: ∀ws m,({cls:=bp "tuple",data:=jr vs n})≠listOf ws m:=λws m q=>by have:=QIh Obj.cls q;show QIe (Value.type.inj this) (by ext)
theorem Lo {vs:Array aO} (d:o.data=eY vs): ∀ws m,o≠listOf ws m:=λws m q=>by rw[q] at d;trivial
set_option tactic.hygienic true in
theorem QBZ (hd:uz d=aC) (r:Rd Y h v d) (z: ∀b, ¬ Y b-> ¬ nY h b-> ¬ Z b):Rd Z h v d:=by
 show lL (QET hd) λx y l=>?_;clear hd;subst l;show fh r.Dy λa u n m e M R=>?_;clear r;subst m;show Rd.tup e (z _ M<|Bt e QDt)<|cI R.jR λL F H U s=>?_
 subst H;show cI s.jR λN P K q Q=>?_;clear s e R;subst K;show sb Q.lg<|bE U.fD λt g=>?_
 subst g;show bE q.fD λo A=>?_;subst A;show bU.cons (Rd.str _ _)<|bU.cons (Rd.str _ _) bU.nil
theorem Nf: ∀{ds:List aM} {vs:List aO},ds.all uz=aC->bU Y h vs ds->(∀b, ¬ Y b-> ¬ nY h b-> ¬ Z b)->bU Z h vs ds:=by
 intro ds;induction ds with
 |nil=>show @λvs O r O=>sb r.lg<|bU.nil
 |cons d ds i=>show @λvs L r z=>by show cI r.jR λv R H Q q=>?_;clear r;erw[H];simp only[List.all_cons,gb] at L;show bU.cons (QBZ L.1 Q z)<|i L.2 q z
theorem Me {eR:Nat->Option jC} (c:(jM eR Hh).Inv Y h) (u: ∀b, ¬ Y b-> ¬ nY h b-> ¬ Z b):(jM eR Hh).Inv Z h:=by
 intro f cf e;obtain ⟨n,i,x,g⟩:=c f cf e;show xU i λo H K tf F P L text tt op z hd O O O O O O O O O=>.mk (u _ n<|Bt z<|Lo hd) i x (g.imp id ?_)
 rintro ⟨C,t,oc,v,B,g2,g3,W,r⟩
 show ⟨C,t,oc,v,B,g2,u _ g3<|Bt g2<|Lo W,W,r⟩
theorem XY {D:Wd} {eR:Nat->Option jC} (hP:D.P=jM eR Hh) (C:sV D f [] hs (aK zs)) (g:hs.all uz=aC) (hz:zs.all uz=aC) (l: ∀b, ¬ nY D.G b)
 (M: ∀(Y Z:aP->Prop) h x a,Hh.HI Y h x a->(∀b, ¬ Y b-> ¬ nY h b-> ¬ Z b)->Hh.HI Z h x a):Fz D f [] hs zs:=by
 intro A s Y us vs x a n Q E c d K v j k;erw[j.lg];have N: ∀b, ¬ Y b-> ¬ nY s.heap b-> ¬ (Y b\/nY s.heap b):=λb L z q=>q.elim L z;show C ⟨c.R,c.t,c.base,λb o e q=>?_,λb q=>?_,λb p=>.inl<|c.pf b p,?_⟩ ?_ K (Nf g v N) bU.nil λu s' ct r=>?_
 ·rcases q with q|⟨aa,n',q⟩
  ·show c.gd b o e q
  ·clear hP C g hz M d K v j k N
   obtain rfl:=bt (c.base b o e) q;show l b<|mz aa n' e
 ·rcases q with q|⟨aa,n',q⟩
  ·show c.al b q
  ·show ⟨_,q⟩
 ·have ab:=c.inv
  rw[hP] at ab⊢;show Me ab N
 ·rw[hP] at d⊢
  show M _ _ _ _ _ d N
 ·show fh r.lst_inv λH ws m F e1 e2 B=>?_
  clear r;subst F;have i:=ct.inv
  have hn:s.heap.get? H=none:=by
   induction q:s.heap.get? H with
   |none=>rfl
   |some o=>
    exfalso;by_cases p:D.P.PF H
    ·show dU (D.P.jk i p) λo' aa U d'=>?_
     obtain rfl:=bt e1 U;trivial
    ·have:=ct.keep H o q id p
     obtain rfl:=bt e1 this;show e2<|.inr<|mz _ _ q
  have W: ∀b, ¬ (Y b\/nY s.heap b)-> ¬ nY s'.heap b-> ¬ (Y b\/b=H):=λb L z q=>q.elim (λq=>L<|.inl q) λq=>z<|q▸(mz _ _ e1);show k H ws m s' ⟨ct.keep,?_,ct.e⟩ hn e1<|Nf hz B W;rw[hP] at i⊢;show Me i W
namespace B01
variable {w:dF} {X:Nat->bk} {n:Nat}
theorem QCm (Y Z:aP->Prop) (h:bq) (x a:aP) (I:kE.HI Y h x a) (z: ∀b, ¬ Y b-> ¬ nY h b-> ¬ Z b):kE.HI Z h x a:=by
 obtain ⟨n,N,I⟩:=I;obtain ⟨o,M,c,C,r⟩:=id I;show ⟨z _ n (Bt M λW m q=>(by rw[q] at c;trivial)),λH d e u=>z _ (N H d e u) λ⟨g,m,q⟩=>?_,I⟩;obtain rfl:=bt M e;rcases r with ⟨r,_⟩|⟨R,r,_,K⟩
 ·show dy r u
 ·obtain rfl:=bt r u
  obtain ⟨v,A,B,j,p,_⟩:=K;obtain rfl:=bt j q;trivial
def mF (X:Nat->bk):Prop:= ∃e,fF b3 e/\X 131=gW e e.length
def LK (o:bk):Bool:=match o.cls with|.type T=>T != "list" |_=>aC
theorem W2 (P:cH) (X:Nat->bk):((cg 412).all λa=>dK a 131||match jQ (f7 P X) 412 dw a with|some o=>LK o|none=>aC)=true:=by lia
theorem J_ (hX:mF X) (b:aP): ¬ nY (D w X n).G b:=by
 rintro ⟨vs,m,e⟩
 have e':=(vi ..).symm.trans e;have:=fN.mp (W2 w.params X) b<|EZ.mpr (Bl e').2.2.1;rw[e',yU] at this;show Or.elim (this) (λq=>?_) λq=>?_
 ·rw[vp q] at e'
  obtain ⟨es,_,hx⟩:=hX;rw[(by lia:jQ (f7 w.params X) 412 dw 131=alive (X 131)),hx] at e';have e3:=kj<|e';show QIe (Value.type.inj (QIh Obj.cls e3:(bp "dict")=bp "list")) (by ext)
 ·show QIe (show LK (listOf #[] 0)=aC from q) (by ext)
theorem W8 (Z:z∈pJ xs l h s):z∈xs:=aT (JA.mp Z) λk O e=>BP e
theorem QBY (M:mF X) [eV<|D w X n] [nB<|D w X n] (h:rp (aY n) 1 [] Bo xs hs (aK zs)) (H:hs.all uz=aC):Fz (D w X<|n+1) 284 xs hs zs:=by
 have h':=h;obtain ⟨hl,e⟩:=h
 obtain rfl:xs=[]:=by
  clear h' e;induction xs with
  |nil=>rfl
  |cons a l=>simp at hl
 have Z:zs=pJ hs aE aE none:=by
  induction e.2 with
  |mk e1 e2=>
   clear H h' e;cases e1 with
   |lst i p P p3 _ _=>
    cases p;cases P;clear a_2;cases p3
    clear a_3;cases i with
    |bor i=>
     cases i
     induction e2 with
     |mk e1 e2=>cases e1;cases e2;rfl
 clear e;subst Z;intro A s Y us vs x a m Q E;show XY rfl (by intro A s Y us vs x a m Q E;show Kf h') H (fN.mpr λz Z=>fN.mp H z<|W8 Z) (J_ M) QCm
end B01
theorem QFd (h:fF l es) (k:Int):Jo oS es.toArray k=aE/\l.lookup k=aE\/ ∃s u,l.lookup k=aA s/\Jo oS es.toArray k=aA (cP s u):=by
 unfold Jo;rw[List.find?_toArray];induction h with
 |nil=>show .inl ⟨rfl,rfl⟩
 | @cons b e l es a _ i=>
  show lL a λt u B=>sb B ?_;obtain ⟨K,s⟩:=b
  simp! only[E9,jc]
  have x:oS k (ny K (cP s u) t).key=(K==k):=rfl;have n:(k==K)=(K==k):=by rw[Ec,beq_iff_eq,beq_iff_eq];show ⟨Eq.symm,Eq.symm⟩
  simp! only[x,n]
  induction hq:(K==k) with
  |true=>show .inr<|eS s u rfl rfl
  |false=>show i
theorem Th {w:dF} (h:fF l es):KeysOf (jx prog w) es.toArray:=λe F=>dU (h.keys e F) λk t H i=>(bJ k (by erw[H];show QIj k) i)
namespace B01
variable {w:dF} {X:Nat->bk} {n:Nat}
theorem Un (hX:mF X): ∃a ob,(D w X n).mg "b3_exceptions" =aA (aG a)/\(D w X n).G.get? a=aA ob/\ob.cls=bp "dict" /\ob.dict=aE/\ ∀{A:de} {s:aV} {i:Int} {t:gZ} {Q:aO->aV->Prop} {E:aO->aV->Prop},jD (D w X n).n A->(∀b o,(D w X n).G.get? b=aA o->s.heap.get? b=aA o)->
 (∀u tk,(∀Y h,Rd Y h u<|(D w X n).o.b3 i)->Q u {s with toks:=tk})->aZ (bH (D w X n).prog (D w X n).w) A (call (bx "dict.get") [aG a,bS i t]) Q E s:=by
 show aT hX λes he hx=>?_
 have eg:(D w X n).G.get? 131=aA (gW es es.length):=by
  show (vi ..).trans ?_
  simp! only[(by lia:jQ (f7 w.params X) 412 dw 131=alive (X 131)),hx]
  rfl
 show (yA 131 (gW es es.length) ((j4 (w:=w) (X:=X) "b3_exceptions").trans<|by lia) eg rfl rfl (λ{A s i t Q E} R base k=>?_));have hm:s.heap.MapOf (jx pg w) 131 (λk=>Jo oS es.toArray k):=(Hg _ _ _ (base _ _ eg) ⟨rfl,rfl,rfl⟩ rfl (Th he) (λO=>rfl));show call_meetsIn QGg hm.typeIs PySem.F.entry_dict_get (PySem.F.args_dict_get_2 _ _) (meets_dict_get (jx pg w) 131 (QIj i:(jx pg w).is i (bS i t)=aC)<|by ext)<|bJ _ hm ?_;show k _ _ λY h=>(?_);erw[(by clear eg R base k;induction n<;>rfl:(D w X n).o.b3=uI)];unfold uI;rcases QFd he i with ⟨e1,e2⟩|⟨s,u,e1,e2⟩
 ·simp! only[e1,e2]
  show Rd.none
 ·simp! only[e1,e2]
  show Rd.str _ _
def xu (o:bk):Array (Int×aO):=match o.data with|.set e _ _=>e|_=> #[]
def Y2 (o:bk):SetTable:=match o.data with|.set _ _ t=>t|_=>default
theorem QDL: ∀i,(kV.contains i=aC↔ ∃e∈(xu<|ob 120 w.params).toList,oS i e.2=aC):=by
 intro i;have e:(xu<|ob 120 w.params).toList.map (λe=>match e.2 with|.int k _=>k|_=>0)=kV:=by lia
 rw[<-e,RB,gQ];constructor
 ·rintro ⟨x,hx,rfl⟩
  have:=fN.mp (by lia:((xu<|ob 120 w.params).toList.all λe=>match e.2 with|.int _ _=>aC|_=>aD)=aC) x hx;obtain ⟨k,v⟩:=x;induction v<;>first|cases this|skip
  show (bJ _ hx<|QIj _)
 ·rintro ⟨x,hx,h⟩
  show bE (QHS h) λt ht=>(bJ x hx<|sb ht rfl)
theorem Ti: ∃a,(D w X n).mg "b1_set" =aA (aG a)/\ ∀{A:de} {s:aV} {i:Int} {t:gZ} {Q:aO->aV->Prop} {E:aO->aV->Prop},jD (D w X n).n A->(∀b o,(D w X n).G.get? b=aA o->s.heap.get? b=aA o)->(∀tk,Q (dD<|(D w X n).o.b1 i) {s with toks:=tk})->aZ (bH (D w X n).prog (D w X n).w) A (uR A3 (bS i t)<|aG a) Q E s:=by
 show (bJ 120 ((j4 (w:=w) (X:=X) "b1_set").trans<|by lia) λ{A s i t Q E} R base k=>?_);have eo:(D w X n).o.b1=λi=>kV.contains i:=by clear R base;clear k;induction n<;>rfl
 have hS:s.heap.SetOf (jx pg w) 120 (λi=>kV.contains i) 27:=by
  show ⟨ob 120 w.params,xu<|ob 120 w.params,29,Y2<|ob 120 w.params,(base _ _<|gg<|by lia),⟨rfl,rfl,rfl⟩,rfl,?_,λi=>QDL i,(by lia:(xu<|ob 120 w.params).size=27)▸(by decide:27<scanBound),by lia,by lia⟩;intro e he;have:=fN.mp (by lia:((xu<|ob 120 w.params).toList.all λe=>match e.2 with|.int k t=>e.1==hashInt k && Value.scannable (.int k t)|_=>aD)=aC) e he;obtain ⟨k,v⟩:=e;clear he;induction v<;>first|(show dP this)|skip
  rw[gb,beq_iff_eq] at this;show ⟨(bJ _ (QIj _) this.1),this.2⟩
 show QHT (k:=i) (knd:=jx pg w) (QIj i:oS i (bS i t)=aC) rfl hS ?_;have:=k<|s.toks+1;rw[eo] at this;show this
end B01
namespace B01
variable {w:dF} {X:Nat->bk} {n:Nat}
def QC (P:cH):FuncData:=dz<|ob 317 P
theorem WM (P:cH) (q u U:aO):oR (QC P) ⟨[q,u,U],[]⟩=(alloc {cls:=bp "dict",data:=gu #[]}>>=λd=>pure [(("self" :aN),q),(("_name" :aN),u),(("_value" :aN),U),(("_params" :aN),aG d)]):=by lia
theorem Wk (P:cH) (X:Nat->bk):vC (f7 P X) 412 dw 317 316 2742 (ob 317 P) (ob 316 P) (gV<|eX 27 16) (dN<|eX 27 16).names:=by lia
theorem QBo [eV<|D w X n] [nB<|D w X n] (e:o6 (aY n) 4 [eC] Am xs hs d hs'):qo (D w X<|n+1) 317 xs hs d hs':=by
 intro A s Y us vs x ia m Q E c hi xa ha hvs hv k;show bP e λhl he=>?_;have fo:=Hd (cd:=aE) (Wk w.params X) λO O e=>bM e
 have h0:iF (dN<|eX 27 16).names.length 200=true:=by lia
 have h4:(tb (Fc.fn (dN<|eX 27 16).names 200 aC aD aE<|fE h0) (dN<|eX 27 16).names ["self","_name","_value","_params"] 4 && lJ ci (Fc.fn (dN<|eX 27 16).names 200 aC aD aE<|fE h0) Am (gV<|eX 27 16))=true:=by lia
 have q:=zB (aF h4).1
 have hxl:us.length=2:=by
  have:=hv.len;rw[i4,cp] at hl
  simp! only[this]
  show v7<|v7 hl
 have y: ∀b,(λb=>b=ia) b->Y b:=λb q=>q▸xa;have kp: ∀b o,s.heap.get? b=aA o->(s.heap.push kF).get? b=aA o:=λO O e=>iW _ e;have mm:Mon Y s.heap Y (s.heap.push kF):=λb o e n=>⟨kp _ _ e,n⟩;have npd: ∀b,(D w X n).P.PF b->(s.heap.push kF).get? b=s.heap.get? b:=λb p=>dU ((D w X n).P.jk c.inv p) λo O e O=>sb e<|sb (kp _ _ e) rfl
 have c1:CS (D w X<|n+1) A Y {s with heap:=s.heap.push kF}:=⟨c.R,c.t,λb o e=>kp _ _<|c.base b o e,c.gd,λb q=>let ⟨o,w⟩:=c.al b q;⟨o,kp _ _ w⟩,c.pf,(D w X n).P.jo c.inv mm npd⟩;revert hv;show iY (P:=λus=>bU Y s.heap us xs->aZ (bH (D w X<|n+1).prog (D w X<|n+1).w) A (call (aG 317)<|aG x::us) Q E s) (λu1 u2 hv=>?_) us hxl;show yT (RU c.R.lt (c.base _ _<|gg (by lia:jQ (f7 w.params X) 412 dw 317=aA (ob 317 w.params))) (by lia:(ob 317 w.params).data=.func (QC w.params)) fo.co fo.ge fo.bd (fo.cr.keeps c.base) ?_)
 simp! only[WM]
 show bD<|JM<|bQ ?_;show Mq (D:=D w X n) (z:=⟨{s with heap:=s.heap.push kF},λb=>b=ia\/(D w X n).P.PF b,wg ia⟩) (Ob:=ur (D w X n) Y λb=>b=ia) (us:=[aG x,u1,u2,aG s.heap.objs.size]) (sls:=jy::(xs.map aQ++[eC])) (l:=rH hs) (Kb:=Ho d hs') (bs:=Am.map SW.w) ⟨q.2,nX qI (aF h4).2,rfl⟩ wQ fo q.1 (((q.2.vB (D:=D w X n)).1.trans uZ).trans hl.symm) he (λi q=>GK aC<|oC q<|by ext) c.R c.t (GG c1 y (kp _ _ ha) (hvs.mon mm) (λi ys e=>IX aC e) rfl (λO=>rfl) (λw=>QIe rfl w)) (.cons (d0 x ia wm rfl ((D w X n).P.lh hi λb o e n=>sQ y c.pf b o (kp _ _ e) n))<|(gM.vals<|(hv.mon mm).mon<|sQ y c.pf).app<|.cons (fw _ rfl (gz _ rfl) (λq=>(λq=>by show bE (c.al _ q) λo w=>?_;show dy (kJ (cY _):s.heap.get? s.heap.objs.size=aE) w: ¬ Y s.heap.objs.size)<|Br y c.pf q)) .nil) (λfl l' d' g g' u env z' b=>?_) (λl' g=>by cases g.1);show eA g λg hr1 hr2=>?_;obtain rfl:=g.fn g';have pe:=(b.s.p.hn rfl).trans wm;show fH (b.F.own bC hs' hr1) λia' vs' n' e1 e2 e3=>?_;obtain rfl:=bt pe e1;have wa: ∀b,b=ia->z'.W b:=λO q=>q▸b.F.mJ hs' hr1 hr2 ia pe;show bP (b.ct (o':=aY<|n+1) (m:=n+1) wa λO q=>q▸pe) λh1 h2=>k u z'.s vs' n' ⟨λb o e q p=>h1.keep b o (kp _ _ e) q p,h1.inv,h1.e⟩ e2 (e3.mon λc o e n=>⟨e,λw=>n<|GQ wa b.F.pf w⟩) h2
end B01
structure gq (G:bq) (mg:aN->Option aO) (env:eB) (m:aN->Option aO) (h:bq):Prop where
 gl:Gl G mg
 base: ∀b o,G.get? b=aA o->h.get? b=aA o
 loc:h.Ns env.locals m
 hk:env.scope.kind=gy
 hg:env.globals=pj
 hb:env.builtins=js
section
variable {G:bq} {mg:aN->Option aO} {env:eB} {m:aN->Option aO} {prog:uQ} {w:dF} {A:de} {s:aV} {E:aO->aV->Prop} {pos:cA}
theorem gq.keeps (F:gq G mg env m h) (k: ∀b o,h.get? b=aA o->h'.get? b=aA o):gq G mg env m h':=⟨F.gl,λb o e=>k b o<|F.base b o e,F.loc.keeps k,F.hk,F.hg,F.hb⟩
theorem iO (F:gq G mg env m s.heap) (K:env.kindOf nm=aA NameKind.local) (hu:m nm=aA u) (h:Q u s) (hd:(nm==("__debug__"))=aD):aZ (bH prog w) A (dH (bf nm pos) env) Q E s:=wpAny_Name (Q5 F.hk K F.loc hu h) hd
theorem O0 (F:gq G mg env m s.heap) (K:env.kindOf nm=aA nG) (hu:mg nm=aA u) (h:Q u s) (hd:(nm==("__debug__"))=aD):aZ (bH prog w) A (dH (bf nm pos) env) Q E s:=by show JG F.hk K ?_ hd;show QGV ?_ hu h;show sb F.hg<|F.gl.g.keeps F.base
theorem yw (F:gq G mg env m s.heap) (K:env.kindOf nm=aA nG) (hn:mg nm=aE) (hu:JD nm=aA u) (h:Q u s) (hd:(nm==("__debug__"))=aD) (n:nm≠ "__name__"):aZ (bH prog w) A (dH (bf nm pos) env) Q E s:=by
 show JG F.hk K ?_ hd;show QGU (mg:=mg) (mb:=G.nsMap js) ?_ hn ?_ ?_ h
 ·show sb F.hg<|F.gl.g.keeps F.base
 ·show sb F.hb<|F.gl.b.keeps F.base
 ·show sb (F.gl.bo nm n)<|hu
theorem td (F:gq G mg env m s.heap) (K:env.kindOf nm=aA NameKind.local) (L:G.get? env.locals=aE) (h: ∀h' tk,gq G mg env (λy=>if y=nm then aA u else m y) h'->(∀b o,b≠env.locals->s.heap.get? b=aA o->h'.get? b=aA o)->Q () {s with heap:=h',toks:=tk}):
 aZ (bH prog w) A (rC (bf nm pos) env u) Q E s:=by
 show yP (QGD K F.loc (λh' hn sb=>?_) (by erw[F.hk];rfl));have k: ∀b o,b≠env.locals->s.heap.get? b=aA o->h'.get? b=aA o:=λb o n e=>(sb.2 b n).trans e;show h h' _ ⟨F.gl,λb o e=>k b o (λq=>by simp only[q,L] at e;show bM e)<|F.base b o e,hn,F.hk,F.hg,F.hb⟩ k
end
namespace B01
variable {w:dF} {X:Nat->bk} {n:Nat}
def te (P:cH):FuncData:=dz<|ob 221 P
theorem QFT (P:cH) (X:Nat->bk):(G P X).CodeRec (te P).code (te P).qualname:=(GC 220 (ob 220 P) (mL<|ob 220 P) 2628 (by lia) (gg<|by lia) (by lia)<|by lia)
theorem Xv (P:cH) (u v:aO) (b:Bool):oR (te P) ⟨[u,v],[("name",dD b)]⟩=pure [(("self" :aN),u),(("value" :aN),v),(("name" :aN),dD b)]:=by lia
theorem Yc (b:Bool):iI (G w.params X) (if b then 186 else 191) (nj b):=by
 induction b with
 |true=>show ⟨ob 186 w.params,185,ob 185 w.params,mL<|ob 186 w.params,Bq<|ob 185 w.params,0,gg (by lia),rfl,rfl,rfl,by lia,by lia,by lia,gg (by lia),rfl,by lia⟩
 |false=>show ⟨ob 191 w.params,190,ob 190 w.params,mL<|ob 191 w.params,Bq<|ob 190 w.params,0,gg (by lia),rfl,rfl,rfl,by lia,by lia,by lia,gg (by lia),rfl,by lia⟩
theorem LD (ok:gU b xx=aC) {E:aO->aV->Prop} (hdp:A.depth<1000) (base: ∀b o,(G w.params X).get? b=aA o->s.heap.get? b=aA o)
 (k: ∀h' tk,(∀b o,s.heap.get? b=aA o->h'.get? b=aA o)->Q (cP xx t) {s with heap:=h',toks:=tk}):aZ (bH pg w) A (call (aG 221) [aG x,cP xx t] [("name",dD b)]) Q E s:=by
 show yT (R5 (fd:=te w.params) (body:=gV<|eX 27 1) (binds:=[(("self" :aN),aG x),(("value" :aN),cP xx t),(("name" :aN),dD b)]) hdp (base _ _<|gg (by lia:jQ (f7 w.params X) 412 dw 221=aA (ob 221 w.params))) (by lia) (og.lim.keeps base) ((QFT w.params X).keeps base) (by lia) (BindsTo.of_eq<|Xv _ _ _ _) ?_ ?_ (λh1 ns k1=>?_) (by lia) (by lia)<|by lia)
 ·show λx hx=>by simpa using fN.mp (by lia:(te w.params).scope.names.all (λx=> !(x.2==.cell))=aC) x hx
 ·intro y hy
  simp only[dR,i5,or_false] at hy;clear ok hdp base k;rcases hy with rfl|rfl|rfl<;>lia
 have F:gq (G w.params X) (mg w X) (Jp (te w.params) s.heap.objs.size 221) _ h1:=⟨og,λb o e=>k1 _ _<|base b o e,ns,by lia,by lia,by lia⟩
 have hL:(G w.params X).get? s.heap.objs.size=none:=by
  induction q:(G w.params X).get? s.heap.objs.size with
  |none=>rfl
  |some o=>show QIe (mP<|base _ _ q)<|oD _
 show jv<|wpAny_If (wpAny_isTrue_Compare1 (wpAny_Call_Name_kw<|yw F (by lia) (zQ _<|by decide+kernel) (u:=Value.type "type") (by lia) ?_ (by decide+kernel)<|by decide+kernel) rfl)
 show yJ rfl (iU rfl ?_);show yH (iO F (by lia) (u:=cP xx t) (by lia) (oN ?_)<|by decide+kernel);show RJ (Q4 _ _ _) (by decide+kernel)<|yw F (by lia) (zQ _<|by decide+kernel) (u:=Value.type "str") (by lia) ?_ (by decide+kernel) (by decide+kernel)
 show QGT rfl (uT ?_);show sb (QIg<|by ext)<|wpAny_execs_cons ?_
 have hr:(mg w X) (if b then "_name_disallowed_re" else "_value_disallowed_re")=aA (aG<|if b then 186 else 191):=by
  clear ok ns F;induction b with
  |true=>show (j4 (w:=w) (X:=X) "_name_disallowed_re").trans (by lia)
  |false=>show (j4 (w:=w) (X:=X) "_value_disallowed_re").trans (by lia)
 have go: ∀{E':aO->aV->Prop} {Q':aO->aV->Prop} {A':de} {p0 p1 p2 p3:cA} {s1:aV},s1.heap=h1->Q' (aG<|if b then 186 else 191) s1->aZ (bH pg w) A' (dH (Q8 (bf "name" p0) (bf "_name_disallowed_re" p1) (bf "_value_disallowed_re" p2) p3)<|Jp (te w.params) s.heap.objs.size 221) Q' E' s1:=by
  intro E' Q' A' p0 p1 p2 p3 s1 es q;have F':=es▸F;show wpAny_IfExp (Jq<|iO F' (by lia) (u:=dD b) (by lia) (uT ?_)<|by decide+kernel);clear ok ns F;induction b with
  |true=>show O0 F' (by lia) hr q (by decide+kernel)
  |false=>show O0 F' (by lia) hr q (by decide+kernel)
 show my rfl rfl rfl (go rfl ?_);show td F (by lia) hL λh2 t2 F2 k2=>jv ?_;have P2:=(Yc (w:=w) (X:=X) b).keeps F2.base;show eE P2.own λo pa O pc=>JX (Jq<|yM rfl rfl rfl (iO F2 (by lia) (u:=aG<|if b then 186 else 191) (by lia) ?_<|by decide+kernel));show (vc ("re.Pattern") ("re.Pattern.search") Pu Pt QCJ P2.typeIs (λa' e=>?_)<|yI rfl (iU rfl ?_))
 ·clear ok ns F hr go F2 k2 P2
  cases e
  show (bJ o pa pc)
 show yH (iO F2 (by lia) (u:=cP xx t) (by lia) (oN ?_)<|by decide+kernel);show YU P2 ok<|wpAny_pure<|sb (if_neg<|by ext)<|wpAny_execs_nil<|wpAny_execs_cons<|wpAny_Return_some (iO F2 (by lia) (u:=Value.str xx t) (by lia) ?_<|by decide+kernel)
 show k h2 t2 λb' o' e=>k2 b' o' (λq=>by rw[q] at e;show QIe (mP e)<|oD _)<|k1 b' o' e
end B01
namespace B01
variable {w:dF} {X:Nat->bk} {n:Nat}
def x6 (P:cH):FuncData:=dz<|ob 214 P
theorem QCq (P:cH) (X:Nat->bk):(G P X).CodeRec (x6 P).code (x6 P).qualname:=⟨213,ob 213 P,mL<|ob 213 P,2618,by lia,gg (by lia),by lia,by lia⟩
theorem QEY {X:Nat->bk} (B: ∀b o,(G P X).get? b=aA o->s.heap.get? b=aA o) (u v:aO):BindsTo s (x6 P) ⟨[u,v],[]⟩ [(("self" :aN),u),(("headers" :aN),v)]:=by intro M A E Q q;show (?_:aZ M A (Ji (aG 207)>>=_) Q E s);show bD (Ez (B _ _ (gg<|by lia):s.heap.get? 207=aA (ob 207 P)) rfl ?_);show rD (by lia) q
abbrev Gf (P:cH) (L:aP):Env:=Jp (x6 P) L 214
theorem uw {nm y:aN} {p0 p1 p2 p3 p4 p5 p6:cA} {E:aO->aV->Prop} (hdp:A.depth<990) (F:gq (G w.params X) (mg w X) env m s.heap) (I:s.heap.Inst x j9 (DP a))
 (hS:env.kindOf "self" =aA NameKind.local) (mS:m "self" =aA (aG x)) (hN:env.kindOf nm=aA NameKind.local) (mN':m nm=aA (cP y ty)) (hd:(nm==("__debug__"))=aD) (ok:gU b y=aC)
 (hm:EN (bf "self" p0) "_convert_string_type" p1 p5 [bf nm p2] [⟨aA "name",fY (ju b) kk p3,p4⟩]) (hsw:Ey (du (hH (bf "self" p0) "_convert_string_type" p1) [bf nm p2] [⟨aA "name",fY (ju b) kk p3,p4⟩] p5) aE p6.line env=pure aD)
 (iB: ∀u t,BD (du (hH (bf "self" p0) "_convert_string_type" p1) [bf nm p2] [⟨aA "name",fY (ju b) kk p3,p4⟩] p5) p6 (cP u t)=pure Flow.next)
 (hs:gv [bf nm p2] env=[(aD,dH (bf nm p2) env)])
 (h: ∀h' tk,(∀b o,s.heap.get? b=aA o->h'.get? b=aA o)->Q Flow.next {s with heap:=h',toks:=tk}):
 aZ (bH pg w) A (rE (oQ (du (hH (bf "self" p0) "_convert_string_type" p1) [bf nm p2] [⟨aA "name",fY (ju b) kk p3,p4⟩] p5) p6) env) Q E s:=by
 show EP F.hk hsw (Ar hm<|iO F hS mS ?_<|by decide+kernel);intro pl;show tq (n:=0) (Y:=λO=>False) (x:=x) (a:=a) (f:=221) (of:=ob 221 w.params) (y:=aE) F.base ⟨λq=>q,λO O O O q=>q,I⟩ ((kg _).trans<|by lia) (gg<|by lia) rfl (by ac_nf) (by ext)<|HY (evalArgs_kw2 rfl ?_ (by simp! only[hs];rfl))
 show yH<|iO F hN mN' (oN<|kwAll_cons<|Fu<|kwAll_nil ?_) hd;show ⟨⟨ob 221 w.params,te w.params,F.base _ _ (gg<|by lia),by lia⟩,?_⟩;show LD ok (bO ‹_› (dI _ _)) F.base λh' tk kp=>⟨iB _ _,h h' tk kp⟩
abbrev Kp (h h':bq):Prop:= ∀b o,h.get? b=aA o->h'.get? b=aA o
abbrev Kx (L:aP) (h h':bq):Prop:= ∀b o,b≠L->h.get? b=aA o->h'.get? b=aA o
theorem Inst.but (I:h.Inst x c m) (k:Kx L h h') (n:x≠L) (N: ∀o d,h.get? x=aA o->o.dict=aA d->d≠L):h'.Inst x c m:=rV I λo e q C r=>⟨o,k _ _ n e,q,C,r.imp id λr=>eE r λd a b c=>⟨d,a,b,c.at λO=>k _ _<|N o d e a⟩⟩
theorem QFn {nw k0 B k2:Nat} {pk pv pt p0 p p2 p3 c p5 p6 Z r1 r2 r3 r4 r r6:cA} {E:aO->aV->Prop}
 (C:A.handled=aE) (d:A.depth<990) (F:gq (G w.params X) (mg w X) env m s.heap) (L:(G w.params X).get? env.locals=aE) (e1:env.kindOf "self" =aA NameKind.local) (e2:env.kindOf "k" =aA NameKind.local) (u:env.kindOf "v" =aA NameKind.local) (N:m "self" =aA (aG x))
 (I: ∀h',Kx env.locals s.heap h'->h'.Inst x j9 (DP a)) (e4:s.heap.get? b1=aA {cls:=bp "tuple",data:=jr #[cP Y z,cP j z2] nw}) (v:gU aC Y=aC) (o2:gU aD j=aC) (l1:(p.endLine==p5.line)=aC) (W:(r1.endLine==r.line)=aC)
 (h: ∀h' tk g,gq (G w.params X) (mg w X) env g h'->g "self" =aA (aG x)->Kx env.locals s.heap h'->R Flow.next {s with heap:=h',toks:=tk}):
 aZ (bH pg w) A (rC (oO [bf "k" pk,bf "v" pv] k0 pt) env<|aG b1) (λO H=>aZ (bH pg w) A (hJ [oQ (du (hH (bf "self" p0) "_convert_string_type" p) [bf "k" p2] [⟨aA "name",fY (ju aC) B p3,c⟩] p5) p6,oQ (du (hH (bf "self" Z) "_convert_string_type" r1) [bf "v" r2] [⟨aA "name",fY (ju aD) k2 r3,r4⟩] r) r6] env) R E H) E s:=by
 show wpAny_assign_Tuple C ⟨_,e4,rfl,_,rfl⟩ rfl rfl λh6 U=>?_;have U:Kp s.heap h6:=λb o e=>U b o (qy<|mP e) e;show bD<|dq<|td (F.keeps U) e2 L λh7 t7 l P=>?_;show bD<|dq<|td l u L λq t8 f M=>?_;have M:Kx env.locals s.heap q:=λb o n e=>M b o n<|P b o n<|U b o e;have i:=I _ M;show bQ (jv<|uw d f i e1 N e2 rfl (by decide+kernel) v ⟨λO=>rfl,λO=>rfl,l1⟩ rfl (λO O=>rfl) rfl λh9 t9 t=>?_);show jv (uw d (f.keeps t) (i.keeps t) e1 N u rfl (by decide+kernel) o2 ⟨λO=>rfl,λO=>rfl,W⟩ rfl (λO O=>rfl) rfl λQ aa K=>BB<|h _ _ _ ((f.keeps t).keeps K) N λb o n e=>K b o<|t b o<|M b o n e)
structure NI (w:dF) (X:Nat->bk) (env:eB) (J a x:aP) (vs:Array aO) (s3:aV) (j:Nat) (s:aV):Prop where
 e:s={s3 with heap:=s.heap,toks:=s.toks}
 it:s.heap.IsListIter J a j
 il:s.heap.IsList a vs
 F: ∃m,gq (G w.params X) (mg w X) env m s.heap/\m "self" =aA (aG x)
 k: ∀b o,b≠J->b≠env.locals->s3.heap.get? b=aA o->s.heap.get? b=aA o
theorem QFQ (h:vg d=aC): ∃Y e,d=bw [aI Y,aI e]/\gU aC Y=aC/\gU aD e=true:=by
 cases d with
 |tuple x=>
  cases x with
  |nil=>trivial
  |cons a x=>
   cases x with
   |nil=>cases a<;>trivial
   |cons b x=>
    cases a with
    |str Y=>
     cases b with
     |str e=>
      cases x with
      |nil=>show ⟨Y,e,rfl,iH.mp h⟩
      |cons=>trivial
     |_=>trivial
    |_=>trivial
 |_=>trivial
theorem Sw (r:Rd Y h v (bw [aI s,aI e])): ∃b n z Z,v=aG b/\h.get? b=aA {cls:=bp "tuple",data:=jr #[cP s z,cP e Z] n}:=by show fh r.Dy λb a n R C O r=>cI r.jR λu W p Q r=>cI r.jR λU N q d r=>bE Q.fD λz x=>bE d.fD λZ c=>?_;rw[p,q,x,c,r.lg] at C;show ⟨b,n,z,Z,R,C⟩
theorem CF {A:de} {s:aV} {env:eB} {m0 k0 kk K:Nat} {vs:List aO} {xs:List aM} {pk pv pt p0 P p2 p3 p4 p5 p6 r0 r1 r2 r3 r4 r5 r6:cA}
 (N:A.handled=aE) (dp:A.depth<990) (F:gq (G w.params X) (mg w X) env m s.heap) (hL:(G w.params X).get? env.locals=aE) (e1:env.kindOf "self" =aA NameKind.local) (e2:env.kindOf "k" =aA NameKind.local) (e3:env.kindOf "v" =aA NameKind.local) (mS:m "self" =aA (aG x))
 (I:s.heap.Inst x j9 (DP a)) (n1:x≠env.locals) (n2: ∀o d,s.heap.get? x=aA o->o.dict=aA d->d≠env.locals) (na:a≠env.locals) (Q:xs.all vg=aC) (t:s.heap.get? a=aA (listOf vs.toArray m0)) (u:bU Y s.heap vs xs) (l1:(P.endLine==p5.line)=aC) (l2:(r1.endLine==r5.line)=aC)
 (h: ∀h' tk,Kx env.locals s.heap h'->R (.ok Flow.next) {s with heap:=h',toks:=tk}):
 yQ (bH pg w) A (QGs (oO [bf "k" pk,bf "v" pv] k0 pt) (aG s.heap.objs.size) [oQ (du (hH (bf "self" p0) "_convert_string_type" P) [bf "k" p2] [⟨aA "name",fY (ju aC) kk p3,p4⟩] p5) p6,oQ (du (hH (bf "self" r0) "_convert_string_type" r1) [bf "v" r2] [⟨aA "name",fY (ju aD) K r3,r4⟩] r5) r6] [] env) R {s with heap:=s.heap.push {cls:=bp "list_iterator",data:=eY #[aG a,bS 0 0]}}:=by
 have nJ: ∀b o,s.heap.get? b=aA o->b≠s.heap.objs.size:=λb o e=>qy<|mP e;have Z:Kp s.heap (s.heap.push {cls:=bp "list_iterator",data:=eY #[aG a,bS 0 0]}):=λO O e=>iW _ e;show fH F.loc λoL es ep L dL rL=>?_;have l:=nJ _ _ L
 show MJ (Walks.list N s.heap.objs.size a (nJ _ _ t) vs.toArray) (λi h st=>eE st.1 λo e c O=>⟨o,"list_iterator",e,c,by ext⟩) (NI w X env s.heap.objs.size a x vs.toArray s) (λj s' q=>⟨q.it,q.il⟩)
  ⟨rfl,⟨_,gz _ rfl,rfl,rfl⟩,(i6 t).push _,⟨m,F.keeps Z,mS⟩,λb o O O e=>Z b o e⟩ (λs' h' tk q k O=>?_) λj s' h' tk v g q hP st k O Er=>?_
 ·show sb q.e<|h h' tk λb o n e=>k b o (q.k b o (nJ b o e) n e)<|nJ b o e
 ·show aT q.F λm4 f M=>?_
  rw[Eg] at hP;have g:j<xs.length:=by rwa[jH,u.len] at g
  show aT (u.get<|p8 g) λv' e5 r=>?_;cases bt hP e5;show cI (QFQ<|fN.mp Q _<|Jr g) λy1 y2 W o1 o2=>?_;rw[W] at r;show IC (Sw r) λb1 nw z1 z2 ev p=>sb ev ?_;have U:=k _ _ (q.k _ _ (nJ _ _ p) (λz=>by rw[z,L] at p;clear L r W;cases p;trivial) p)<|nJ _ _ p;show QFn N dp ⟨f.gl,λb o e=>k b o (f.base b o e)<|nJ b o<|F.base b o e,f.loc.at λo e=>k _ o e l,f.hk,f.hg,f.hb⟩ hL e1 e2 e3 M (λH K=>Inst.but I ((λH K b o n e=>K b o n<|k b o (q.k b o (nJ b o e) n e)<|nJ b o e) H K) n1 n2) U o1 o2 l1 l2 λH t2 m2 F2 C K=>⟨by show sb q.e rfl,st.1.at λo e=>K _ o (oE l) e,st.2.at λo e=>K _ o na e,⟨m2,F2,C⟩,λb o B nl e=>K b o nl<|k b o (q.k b o B nl e) B⟩
theorem UJ {A:de} {s:aV} {vs:List aO} {xs:List aM} {E:aO->aV->Prop} (hA:A.handled=aE) (hdp:A.depth<950) (hu:A.units<9700) (base: ∀b o,(G w.params X).get? b=aA o->s.heap.get? b=aA o) (gd: ∀b o,(G w.params X).get? b=aA o-> ¬ Y b) (fe: ∀b,Y b-> ∃o,s.heap.get? b=aA o)
 (hall:xs.all vg=aC) (ha:s.heap.get? a=aA (listOf vs.toArray m)) (hv:bU Y s.heap vs xs)
 (k: ∀x h' tk,(∀b o,s.heap.get? b=aA o->h'.get? b=aA o)->kE.HI Y h' x a->Q (aG x) {s with heap:=h',toks:=tk}):aZ (bH pg w) A (call (aG j9) [aG a]) Q E s:=by
 obtain ⟨hh,g,d,t,os⟩:=s;show wpAny_call_obj_init PySem.F.objNew (base _ _ ta) (zG.keeps base) ((kg _).trans (by lia:E8 (uD<|ob 319 w.params) "__init__" =aA (.ref 214))) (base _ _<|gg (by lia:jQ (f7 w.params X) 412 dw 214=aA (ob 214 w.params))) rfl (λh' x dx Mk=>?_);have base': ∀b o,(G w.params X).get? b=aA o->h'.get? b=aA o:=λb o e=>Mk.keeps _ _<|base b o e;show yT (R5 (fd:=x6 w.params) (body:=gV<|eX 27 0) (binds:=[(("self"),aG x),(("headers"),aG a)]) ?_ (base' _ _<|gg (by lia:jQ (f7 w.params X) 412 dw 214=aA (ob 214 w.params))) (by lia) (og.lim.keeps base') ((QCq w.params X).keeps base') (by lia) (QEY base' _ _) ?_ ?_ (λh1 ns k1=>?_) (by lia) (by lia)<|by lia)
 ·show (?_)
  show fq ‹_› (by ext)
 ·show λx hx=>by simpa -iota using fN.mp (by lia:(x6 w.params).scope.names.all (λx=> !(x.2==.cell))=aC) x hx
 ·intro y hy
  simp! only[dR,i5,or_false] at hy
  rcases hy with rfl|rfl<;>lia
 have F:gq (G w.params X) (mg w X) (Gf w.params h'.objs.size) _ h1:=⟨og,λb o e=>k1 _ _<|base' b o e,ns,by lia,by lia,by lia⟩
 have hL:(G w.params X).get? h'.objs.size=none:=by
  induction q:(G w.params X).get? h'.objs.size with
  |none=>rfl
  |some o=>show QIe (mP<|base' _ _ q)<|oD _
 have ha1:=k1 _ _<|Mk.keeps _ _ ha;show jv<|my rfl rfl rfl (wpAny_IfExp<|wpAny_isTrue_Compare1 (iO F (by lia) (u:=Value.ref a) (by lia) ?_<|by decide+kernel) rfl)
 show bQ<|wpAny_isNot_plain rfl (wpAny_truthy_bool ?_)
 dsimp only[show (!(aG a==bG))=aC from rfl];show iO F (by lia) (u:=aG a) (by lia) ?_ (by decide+kernel);show td F (by lia) hL λh2 t2 F2 k2=>?_;obtain ⟨m2,F2,mS,mH⟩: ∃m2,gq (G w.params X) (mg w X) (Gf w.params h'.objs.size) m2 h2/\m2 "self" =aA (aG x)/\m2 "headers" =aA (aG a):=⟨_,F2,by lia,by lia⟩;have gA: ∀b o,h'.get? b=aA o->b≠h'.objs.size:=λb o e q=>by simp! only[q,(kJ<|cY _)] at e;show bM e
 have k12: ∀b o,h'.get? b=aA o->h2.get? b=aA o:=λb o e=>k2 b o (gA b o e)<|k1 b o e;have xa:a≠x:=λq=>by have:=Mk.newX;simp! only[<-q] at this;show dy this ha
 show jv<|wpAny_If (wpAny_isTrue_Compare1 (wpAny_Call_Name_kw<|yw F2 (by lia) (zQ _<|by decide+kernel) (u:=Value.type "type") (by lia) ?_ (by decide+kernel)<|by decide+kernel) rfl)
 show yJ rfl (iU rfl ?_);show yH (iO F2 (by lia) (u:=aG a) mH (oN ?_)<|by decide+kernel);show RJ (x:=aG a) (Tx:= "list") ⟨_,(k12 _ _<|Mk.keeps _ _ ha),rfl⟩ (by decide+kernel)<|yw F2 (by lia) (zQ _<|by decide+kernel) (u:=Value.type "list") (by lia) ?_ (by decide+kernel) (by decide+kernel)
 show Q9 rfl (uT ?_);show sb (QIf<|by ext)<|wpAny_execs_nil ?_
 show jv<|plainObj_wpAny_Assign_Attribute (iO F2 (by lia) (u:=Value.ref a) mH (iO F2 (by lia) (u:=Value.ref x) mS ?_<|by decide+kernel)<|by decide+kernel)
 have xC:x≠j9:=λq=>by
  have e:=base _ _<|ta (w:=w) (X:=X);have:=Mk.newX
  simp! only[q] at this
  show QIe (e.symm.trans this) (by intro q;show sT q)
 obtain ⟨ox,hx,hcx,Hp,hdx⟩:=id Mk.inst;have hdd:=Mk.dict ox hx;show store_attr PySem.F.store_object (F2.base _ _ ta:h2.get? j9=aA _) (zG.keeps F2.base) ((kg _).trans<|by lia) ((kg _).trans<|by lia) (by ac_nf) xC (Mk.inst.keeps k12:h2.Inst x j9 λO=>aE) (ns:=[]) (λh3 t3 I3 k3 sm3=>?_) (λy hy=>QIe rfl hy) (by ext);show xE (sm3 ox<|k12 _ _ hx) λox3 hx3 hcx3 Ou hs3 hdd3=>?_;have hdd3:=hdd3 dx hdd
 have k23: ∀b o,b≠x->b≠dx->h2.get? b=aA o->h3.get? b=aA o:=λb o n1 n2 e=>k3 b o n1 (λo₀ d' e₀ ed=>by
  obtain rfl:=bt (k12 _ _ hx) e₀;obtain rfl:=bt hdd ed
  show n2) e
 have nx: ∀b o,hh.get? b=aA o->b≠x/\b≠dx:=λb o e=>⟨λq=>(by have:=Mk.newX;simp! only[<-q] at this;show dy this e),λq=>(by have:=Mk.newD;simp! only[<-q] at this;show dy this e)⟩;have k03: ∀b o,hh.get? b=aA o->h3.get? b=aA o:=λb o e=>k23 b o (nx b o e).1 (nx b o e).2<|k12 _ _<|Mk.keeps _ _ e
 have hdn: ∃od,h'.get? dx=aA od:=by
  rcases hdx with ⟨hn0,_⟩|⟨d',hd',_,hns'⟩
  ·show dy hn0 hdd
  ·obtain rfl:=bt hdd hd'
   obtain ⟨od,_,_,e,_⟩:=hns';show ⟨od,e⟩
 show bE hdn λod hod=>?_;have F3:gq (G w.params X) (mg w X) (Gf w.params h'.objs.size) m2 h3:=by obtain ⟨oL,es,ep,eL,rL⟩:=F2.loc;show ⟨og,λb o e=>k03 b o<|base b o e,⟨oL,es,ep,k23 _ _ (λq=>QIe q.symm<|gA _ _ hx) (λq=>QIe q.symm<|gA _ _ hod) eL,rL⟩,F2.hk,F2.hg,F2.hb⟩
 have ha3:=k03 _ _ ha
 have HI3:kE.HI Y h3 x a:=⟨λq=>(by show bE (fe _ q) λo e=>?_;show dy Mk.newX e),λo d' e ed q=>(by
  obtain rfl:=bt hx3 e;obtain rfl:=bt hdd3 ed
  show bE (fe _ q) λo e=>dy Mk.newD e),I3⟩
 show jv<|wpAny_If<|wpAny_isTrue_value ?_
 show bQ<|uT ?_;dsimp only[if_pos rfl];show jv<|wpAny_For (iO F3 (by lia) (u:=.ref a) mH (wpAny_pyIter_list (i6 ha3) ?_)<|by decide+kernel) λO=>rfl
 have nx0:=gA _ _ hx
 have n2: ∀o d,h3.get? x=aA o->o.dict=aA d->d≠h'.objs.size:=λo d e ed=>by
  cases bt hx3 e
  cases bt hdd3 ed
  show gA _ _ hod
 show CF (m:=m2) hA (aS hdp:A.depth+1+1<990) F3 hL (by lia) (by lia) (by lia) mS I3 nx0 n2 (gA _ _<|Mk.keeps _ _ ha) hall ha3 (hv.mon<|Mon.all k03) rfl rfl λh5 t5 k5=>BB<|BB ⟨rfl,k x h5 t5 (λb o e=>k5 b o (gA _ _<|Mk.keeps _ _ e)<|k03 b o e) ⟨HI3.1,λo d e ed=>?_,Inst.but I3 k5 nx0 n2⟩⟩;cases bt (k5 _ _ nx0 hx3) e;show HI3.2.1 _ _ hx3 ed
end B01
section
variable {prog:uQ} {w:dF} {A:de} {E:aO->aV->Prop} {s:aV}
theorem NU:Rl (bp "set") "__bool__" =pure none:=by rw[Rm,Rn];lia
theorem Ms:BQ #[x] 0= #[]:=rfl
theorem QEG {α:Type} (xs:Array α) (p:Nat) (x:α):(R6 xs p x).size=xs.size+1:=by
 unfold R6
 simp! only[R7,Rh,vt]
 show ((Js (p)<|xs.size).elim (λu=>(mQ (bB (na (na (nL<|sE ((by simp+arith):0<=min p xs.size))<|nL<|sE ((bB u<|nR<|gO ((by simp+arith):xs.size<=xs.size)):p<=min xs.size xs.size))<|nL<|gO (u:p<=xs.size))<|nL<|gO ((by simp+arith):xs.size<=xs.size))<|bB (na (na (nR<|gO ((by simp+arith):xs.size<=xs.size))<|nR<|sE ((bB u<|nR<|gO ((by simp+arith):xs.size<=xs.size)):p<=min xs.size xs.size))<|nR<|gO (u:p<=xs.size))<|nR<|sE ((by simp+arith):0<=min p xs.size))) λu=>(qj (ea (FA (u:xs.size<=p))<|sE ((by simp+arith):0<=min p xs.size))<|wC ((bB (nL<|gO ((by simp+arith):xs.size<=xs.size)) u):min xs.size xs.size<=p)))
theorem QBg (h:Q 0 {s with drawn:=s.drawn.bump L}):aZ M A (choose L 1) Q E s:=λH p _=>by
 unfold choose
 simp! only[Sem.wp_choose]
 show ⟨by ext,?_⟩
 simp! only[Nat.mod_one]
 show h
theorem Ie {K:Type} [DecidableEq K] {knd:KeyKind prog w K} {S:K->Bool} (U:s.heap.SetOf knd a S n) (h: ∀tk,Q (n !=0) {s with toks:=tk}):aZ (bH prog w) A (JC<|aG a) Q E s:=by
 have z:=U.typeIs;obtain ⟨o,c,x,t,j,P,Y,B,Z,b,M,N⟩:=U;have f:(c.size:Int)<2^63:=by have:c.size<4096:=b;show bR<|oL this
 have v:aZ (bH prog w) A (Rr<|yW "len" ⟨[aG a],[]⟩) (λr d=>r=bS (c.size:Nat) (s.toks+1)/\Q (n !=0) d) E s:=by show wpAny_runValue<|Rj entry_len ?_;show iy (wpAny_len_body_set (Q:=λr d=>r=bS (c.size:Nat) (s.toks+1)/\Q (n !=0) d) j P Y M f ⟨rfl,h _⟩) (λR d H=>by show aT H λr g q=>?_;erw[g];show q) λO O e=>e
 have C:(((c.size:Nat):Int) !=0)=(n !=0):=by rw[N,Ec,bne_iff_ne,bne_iff_ne];clear N;simp+arith
 first
  |show wpAny_bind<|wpAny_callSpecial?_none z NU ?_
  |show wpAny_bind<|wpAny_pure<|wpAny_bind<|wpAny_callSpecial?_none z NU ?_
 first
  |show wpAny_bind<|wpAny_specialOf z F.slot_set_len.lookup ?_
  |show wpAny_bind<|wpAny_pure<|wpAny_bind<|wpAny_specialOf z F.slot_set_len.lookup ?_
 first
  |show wpAny_bind (wpAny_mono v (λr d H=>by show bP H λp q=>?_;erw[p];show bQ (by simp! only[C];show q)) λO O e=>e)
  |show wpAny_bind (wpAny_pure (wpAny_bind (wpAny_mono v (λr d H=>by obtain ⟨rfl,q⟩:=H;show bQ (by simp! only[C];show q)) λO O e=>e)))
theorem Yi (U:s.heap.SetOf (jx prog w) a (λk=>decide (k=n)) 1)
 (h: ∀{d:Drawn} h' t,JB a s.heap h'->h'.SetOf (jx prog w) a (λO=>aD) 0->Q (bS n t) {s with heap:=h',drawn:=d}):aZ (bH prog w) A (call (bx "set.pop") [aG a]) Q E s:=by
 show JT F.slot_set_pop U.typeIs F.entry_set_pop ?_<|F.args_set_pop_1 _;obtain ⟨o,es,Y,t,z,hex,hd,N,B,hb,hf,hn⟩:=U;have c: ∃e,es= #[e]:=by obtain ⟨l⟩:=es;show ng (P:=λl=> ∃e,(⟨l⟩:Array (Int×aO))= #[e]) (λe=>⟨e,rfl⟩) l hn
 show bE c λx g=>?_;obtain ⟨H,v⟩:=x;clear hb hn;subst g;show bP (N (H,v)<|.head _) λx O=>aT x λZ K O=>?_;have C:Z=n:=by have:=(B Z).mpr<|bJ (H,v) (.head _) K;simpa -iota using this
 clear B;subst C;show bE (QHS (K:oS Z v=aC)) λtk g=>?_;clear N K;subst g;have p:t.place.size=1/\t.fill<=t.mask:=by unfold QHU at hf;rw[gb,beq_iff_eq,decide_eq_true_eq] at hf;show ⟨hf.1,hf.2⟩
 have W:t.popPlace=aA 0:=by
  delta SetTable.popPlace;have:t.place.isEmpty=false:=by rw[Array.isEmpty_eq_false_iff_exists_mem];show ⟨t.place[0]'(aS<|nR p.1),Array.getElem_mem _⟩
  show sb this<|sb (if_neg<|by ext) ?_
  dsimp only;erw[p.1]
  congr 1
  split<;>omega
 have f:(t.popped 0).fits 0=true:=by
  delta SetTable.popped SetTable.drop;erw[(QGm ((aS<|nR p.1)):t.place[0]?=aA (t.place[0]'(aS<|nR p.1)))];delta QHU QHV;have L:=p.2;unfold QHV at L
  simp! only[gb,QIi,decide_eq_true_eq]
  show ⟨?_,?_⟩
  ·show (?_:(BQ t.place 0).size=0)
   delta BQ
   simp! only[R7,vt]
   clear x c;show (mQ (bB (na (na (na (nL<|sE ((by simp+arith):0<=min 0 t.place.size))<|nL<|sE ((bB (nR p.1)<|nR<|gO ((by simp+arith):t.place.size<=t.place.size)):0+1<=min t.place.size t.place.size))<|nL<|gO ((by simp+arith):0<=t.place.size))<|nL<|gO ((by simp+arith):t.place.size<=t.place.size))<|nL p.1)<|by simp+arith)
  ·show (?_:(BQ t.place 0).size+(R6 t.dummies _ _).size<=t.mask)
   rw[QEG];delta BQ
   simp! only[R7,vt]
   clear x c;show (bB (na (na (na (nL<|sE ((by simp+arith):0<=min 0 t.place.size))<|nL<|sE ((bB (nR p.1)<|nR<|gO ((by simp+arith):t.place.size<=t.place.size)):0+1<=min t.place.size t.place.size)) L)<|nL<|gO ((by simp+arith):0<=t.place.size))<|nL<|gO ((by simp+arith):t.place.size<=t.place.size))
 have gJ: ∀d,aZ (bH prog w) A.in1 (do
  storeSet a (BQ #[(H,bS Z tk)] 0) (t.popped 0)
  pure (aA<|bS Z tk)) (λr i=> ∃y,r=aA y/\Q y i) E {s with drawn:=d}:=by
  intro d;show bD (wpAny_storeSet_of (s:={s with drawn:=d}) z hd ?_ (by erw[Ms];show iz _));show bQ<|bJ _ rfl (h _ tk (JV ..) ?_);show sb Ms<|⟨{o with data:=.set #[] (Y+1)<|t.popped 0}, #[],Y+1,t.popped 0,?_,hex,rfl,(λe he=>by simp -iota at he),(λk=>by simp),by ext,f,rfl⟩
  erw[yR _ z (by rw[putSet_of _ _ hd];rfl)];show sb (putSet_of _ _ hd) rfl
 delta yV.«set.pop» Builtin.Frozenset.noArgs Builtin.Frozenset.addrOf
 simp! only[bind_assoc]
 show bD<|bQ ?_;show bD<|iy (Q:=λr i=> ∃y,r=aA y/\Q y i) (E:=E) ?_ (λr i R=>?_) λO O e=>e
 ·delta setPop
  show bD<|wpAny_setState_of z hd hf ?_;dsimp only;rw[W];delta setsByText;show bD<|bD<|QHW<|bQ ?_;by_cases b:(w.params.followText "set-order" ||false)=true
  ·rw[if_pos (by
    show (?_:(w.params.followText "set-order" ||(!t.plain && decide (1>1)))=true);rw[Bool.or_false] at b;rw[b]
    rfl)]
   show bD<|QBg ?_;show gJ _
  ·rw[if_neg (by
    show (?_: ¬ (w.params.followText "set-order" ||(!t.plain && decide (1>1)))=true)
    simp! only[show decide (1>1)=aD from rfl,Jt]
    show b)]
   show (?_:aZ _ _ ((if (!t.led && decide (1>1))=aC then unsupported _ else pure ())>>=_) _ _ _);rw[if_neg (by rw[show decide (1>1)=aD from rfl,Jt];decide)];show bD<|bQ<|bD<|bQ ?_;show gJ s.drawn
 ·show aT R λy g q=>sb g<|wpAny_pure<|bJ _ rfl q
end
namespace B01
variable {w:dF} {X:Nat->bk} {n:Nat}
def vH (P:cH):FuncData:=dz<|ob 56 P
theorem WR (P:cH) (X:Nat->bk):(G P X).CodeRec (vH P).code (vH P).qualname:=⟨55,ob 55 P,mL<|ob 55 P,354,by lia,gg (by lia),by lia,by lia⟩
theorem QAG {X:Nat->bk} (B: ∀b o,(G P X).get? b=aA o->s.heap.get? b=aA o) (u v z:aO):BindsTo s (vH P) ⟨[u,v,z],[]⟩ [(("w" :aN),u),(("base" :aN),v),(("more_than" :aN),z),(("show" :aN),dD aD)]:=by intro M A E Q q;show (?_:aZ M A (Ji (aG 49)>>=_) Q E s);show bD (Ez (B _ _ (gg<|by lia):s.heap.get? 49=aA (ob 49 P)) rfl ?_);show rD (by lia) q
abbrev zx (P:cH) (L:aP):Env:=Jp (vH P) L 56
theorem pX {K:Type} [DecidableEq K] {knd:KeyKind prog w K} {h h':bq} {S:K->Bool} (x:h.SetOf knd a S n) (k: ∀o,h.get? a=aA o->h'.get? a=aA o):h'.SetOf knd a S n:=by have e:=x.elim λo x=>x.elim λO x=>x.elim λO x=>x.elim λO x=>(k o x.1).trans x.1.symm;delta Heap.SetOf;show sb e x
theorem QCT {vs:Array aO} {E:aO->aV->Prop} (e:env.code=aG c) (z:s.heap.get? c=aA o) (hd:o.data=eY vs) (h: ∀b,Q b s):aZ M A (inMainModule env) Q E s:=by
 dsimp only[inMainModule];erw[e]
 split
 ·show bQ<|h _
 ·show bD (Rg z hd ?_)
  split
  ·show bD<|QHW<|bQ<|h _
  ·show bQ<|h _
theorem OZ {w:dF} {K:Type} [DecidableEq K] {knd:KeyKind prog w K} {h:bq} (led:Bool):(h.push {cls:=bp "set",dict:=aE,data:=yc #[] 0<|BR 0 0 led}).SetOf knd h.objs.size (λO=>aD) 0:=⟨_, #[],0,_,gz _ rfl,⟨rfl,rfl,rfl⟩,rfl,λe F=>by simp at F,λk=>by simp,by ext,by rfl,rfl⟩
theorem G8 (F:gq g M env m h) (e:h.get? a=aE):a≠env.locals:=λq=>by show qF F.loc λo O O s O=>?_;rw[q] at e;show dy e s
theorem mkSet {pos:cA} {env:eB} {s:aV} {E:aO->aV->Prop} (F:gq (G w.params X) (mg w X) env m s.heap) (C:env.kindOf nm=aA NameKind.local) (K:env.kindOf "set" =aA nG) (L:(G w.params X).get? env.locals=aE)
 (H:nK [bf nm P] (du (bf "set" p) [] [] f) pos.line env=pure aD) (h:tE [bf nm P] (du (bf "set" p) [] [] f) env=pure aE)
 (q: ∀a h' tk,gq (G w.params X) (mg w X) env (λy=>if y=nm then aA (aG a) else m y) h'->h'.SetOf (jx pg w) a (λO=>aD) 0->s.heap.get? a=aE->a≠env.locals->(∀b o,b≠env.locals->s.heap.get? b=aA o->h'.get? b=aA o)->Q Flow.next {s with heap:=h',toks:=tk}):
 aZ (bH pg w) A (rE (lR [bf nm P] (du (bf "set" p) [] [] f) pos) env) Q E s:=by
 show my H h rfl (tD<|yw F K ((j4 (w:=w) (X:=X) "set").trans<|by lia) (u:=bp "set") (by lia) ?_ (by decide+kernel)<|by decide+kernel);show yJ rfl (iU rfl (oN<|call_set_0 λR=>?_));have x:s.heap.get? s.heap.objs.size=none:=kJ<|cY _;have Z: ∀b o,s.heap.get? b=aA o->(s.heap.push {cls:=bp "set",dict:=aE,data:=yc #[] 0<|BR 0 0 R}).get? b=aA o:=λO O e=>iW _ e;have N:=G8 F x;show td (F.keeps Z) C L λl B M t=>q _ l B M (pX (OZ R) λo e=>t _ o N e) x N λb o n e=>t b o n<|Z b o e
structure CQ (w:dF) (X:Nat->bk) (L a1 a2 a3:aP) (t3:gZ) (s:aV) (h:bq):Prop where
 F: ∃m,gq (G w.params X) (mg w X) (zx w.params L) m h/\m "ws" =aA (aG a3)/\m "seen" =aA (aG a1)/\m "need" =aA (aG a2)/\m "more_than" =aA (bS 2048 t3)
 S1:h.SetOf (jx pg w) a1 (λO=>aD) 0
 S2:h.SetOf (jx pg w) a2 (λO=>aD) 0
 k:Kp s.heap h
structure CA (w:dF) (X:Nat->bk) (L a1 a2 a3:aP) (s:aV):Prop where
 hL:(G w.params X).get? L=aE
 base:Kp (G w.params X) s.heap
 sL:s.heap.get? L=aE
 s3:s.heap.get? a3=aE
 e1:a1≠L
 e2:a2≠L
 e3:a3≠L
 OG:a1≠a3
 Oy:a2≠a3
theorem wy {h:bq} (n:h.get? a=aE) (e:h.get? b=aA o):b≠a:=λq=>dy (q▸n) e
section
variable {L a1 a2 a3:aP} {t3:gZ} {s:aV} {h h':bq} {A:de} {E:aO->aV->Prop}
theorem CA.G3 (C:CA w X L a1 a2 a3 s) {b o} (e:(G w.params X).get? b=aA o):b≠a3:=wy C.s3<|C.base _ _ e
theorem QF (F:gq (G w.params X) (mg w X) env m h) (g: ∀b o,(G w.params X).get? b=aA o->b≠a) (n:a≠env.locals) (k:Kx a h h'):gq (G w.params X) (mg w X) env m h':=⟨og,λb o e=>k b o (g b o e)<|F.base b o e,F.loc.at λo e=>k _ o (oE n) e,F.hk,F.hg,F.hb⟩
theorem T9 {k:Int} (P:k<=2048) {d:Drawn} {p0 v p p3 p4 u r1 r2 Z z R r j:cA} {Q:jI->aV->Prop} (C:CA w X L a1 a2 a3 s) (q:CQ w X L a1 a2 a3 t3 s h) (g:h.SetOf (jx pg w) a3 (λk'=>decide (k'=k)) 1)
 (l:(p.endLine==p3.line)=aC)
 (hQ: ∀h' tk d,CQ w X L a1 a2 a3 t3 s h'->h'.SetOf (jx pg w) a3 (λO=>aD) 0->Q Flow.cont {s with heap:=h',toks:=tk,drawn:=d}):
 aZ (bH pg w) A (hJ (lR [bf "w" p0] (du (hH (bf "ws" v) "pop" p) [] [] p3) p4::JW (Ek v8 [qz (bf "w" u) [A3] [bf "seen" r1] r2,qz (bf "w" Z) [Ja] [bf "more_than" z] R] r) [RS j] [] r::rest)<|zx w.params L) Q E {s with heap:=h,toks:=tk,drawn:=d}:=by
 show xE q.F λm F W N mN x=>jv (my rfl rfl rfl (yM rfl rfl l (iO F (by lia) W ?_<|by decide+kernel)));show ⟨"set","set.pop",PySem.F.plainAttrs_set,PySem.F.slot_set_pop,PySem.F.type_set_pop,g.typeIs,g.noDict,yI rfl (iU rfl (oN<|Yi g λ{Y} H t U S8=>?_))⟩;have M:Kx a3 h H:=λb o n e=>(U.2 b n).trans e;show td (QF F (λO O e=>C.G3 e) C.e3 M) (by lia) C.hL λB t9 f K=>?_;have S1:=pX q.S1 λo e=>K _ o C.e1<|M _ o C.OG e;have hq:=λtk d=>hQ B tk d (⟨⟨_,f,W,N,mN,x⟩,S1,pX q.S2 λo e=>K _ o C.e2<|M _ o C.Oy e,λb o e=>K b o (wy C.sL e)<|M b o (wy C.s3 e)<|q.k b o e⟩)<|pX S8 λo e=>K _ o C.e3 e;show jv<|JX ?_;show bD (JE (iO f (by lia) rfl (iO f (by lia) N ?_<|by decide+kernel) (by decide+kernel)) rfl);show QHT (QIj k:oS k (bS k t)=aC) rfl S1 (uT ?_);show bD (JE (iO f (by lia) rfl (iO f (by lia) x ?_<|by decide+kernel) (by decide+kernel)) rfl);show Lv (op:=Ja) (a:=k) (b:=2048) (c:=aC) ((QIo P:decide (k<=2048)=aC)▸ .le) λi=>uT<|bQ ?_;show jv<|QGr<|hq _ _
theorem YL {r:List eT} (C:CA w X L a1 a2 a3 s) (q:CQ w X L a1 a2 a3 t3 s h)
 (hQ: ∀d h' tk,Kp s.heap h'->h'.get? d=aA kF->s.heap.get? d=aE->Q (tF<|aG d) {s with heap:=h',toks:=tk,drawn:=Z}):
 aZ (bH pg w) A (hJ (lR [bf "d" N] (wD [] [] p) P::JW (A5 El (bf "need" l) r1) [JY (aA<|bf "d" r2) c] [] R::r)<|zx w.params L) Q E {s with heap:=h,toks:=tk,drawn:=Z}:=by
 show xE q.F λm F W v U x=>?_;have u:h.get? h.objs.size=none:=kJ<|cY _;have g:Kp h (h.push kF):=λO O e=>iW _ e;have n:=G8 F u
 have Y:s.heap.get? h.objs.size=none:=by
  induction z:s.heap.get? h.objs.size with
  |none=>rfl
  |some o=>show wV (q.k _ _ z) u
 show jv<|my rfl rfl rfl (wpAny_Dict_empty<|?_);show td (F.keeps g) (by lia) C.hL λH a f K=>?_;have B:=pX q.S2 λo e=>K _ o C.e2<|g _ o e;have M:=λtk=>hQ _ H tk (λb o e=>K b o (wy C.sL e)<|g b o<|q.k b o e) (K _ _ n<|gz _ rfl) Y;show jv (JX<|QGS<|Jq<|iO f (by lia) U (Ie B λt=>?_)<|by decide+kernel);show sb (QIg<|by ext)<|wpAny_execs_cons (wpAny_Return_some<|iO f (by lia) rfl (M _) (by decide+kernel))
end
theorem QDK {k:Int} (hk:k<=2048) {A:de} {s:aV} {E:aO->aV->Prop} (hA:A.handled=aE) (hdp:A.depth<950) (base: ∀b o,(G w.params X).get? b=aA o->s.heap.get? b=aA o)
 (q: ∀{dr:Drawn} d h' tk,(∀b o,s.heap.get? b=aA o->h'.get? b=aA o)->h'.get? d=aA kF->s.heap.get? d=aE->Q (aG d) {s with heap:=h',toks:=tk,drawn:=dr}):aZ (bH pg w) A (call (aG 56) [bS k t1,bS 5 t2,bS 2048 t3]) Q E s:=by
 show yT (R5 (fd:=vH w.params) (body:=gV<|bz 7) (binds:=[(("w" :aN),bS k t1),(("base" :aN),bS 5 t2),(("more_than" :aN),bS 2048 t3),(("show" :aN),dD aD)]) (by show (?_:A.depth<1000);show bO ‹_› (dI _ _)) (base _ _<|gg (by lia:jQ (f7 w.params X) 412 dw 56=aA (ob 56 w.params))) (by lia) (og.lim.keeps base) ((WR w.params X).keeps base) (by lia) (QAG base _ _ _) ?_ ?_ (λh1 ns k1=>?_) (by lia) (by lia)<|by lia)
 ·show λx hx=>by simpa using fN.mp (by lia:(vH w.params).scope.names.all (λx=> !(x.2==.cell))=aC) x hx
 ·intro y hy
  simp only[dR,i5,or_false] at hy;clear hk hA hdp base q;rcases hy with rfl|rfl|rfl|rfl<;>lia
 have F:gq (G w.params X) (mg w X) (zx w.params s.heap.objs.size) _ h1:=⟨og,λb o e=>k1 _ _<|base b o e,ns,by lia,by lia,by lia⟩;have hLn:s.heap.get? s.heap.objs.size=none:=kJ<|cY _;have gA: ∀b o,s.heap.get? b=aA o->b≠s.heap.objs.size:=λb o e q=>by simp only[q,hLn] at e;show bM e
 have hL:(G w.params X).get? s.heap.objs.size=none:=by
  clear hA hdp ns k1 F hLn;induction q:(G w.params X).get? s.heap.objs.size with
  |none=>rfl
  |some o=>show QIe rfl (gA _ _<|base _ _ q)
 have hLn':=hLn;generalize hLL:s.heap.objs.size=L at*;show jv<|mkSet F (by lia) (by lia) hL rfl rfl λa1 h2 t2' F2 S1 n1 ne1 k2=>?_
 have k12: ∀b o,s.heap.get? b=aA o->h2.get? b=aA o:=λb o e=>k2 b o (gA b o e)<|k1 b o e;show jv<|mkSet F2 (by lia) (by lia) hL rfl rfl λa2 h3 t3' F3 S2 n2 ne2 k3=>?_
 have S1:=pX S1 λo e=>k3 _ o ne1 e;have k13: ∀b o,s.heap.get? b=aA o->h3.get? b=aA o:=λb o e=>k3 b o (gA b o e)<|k12 b o e;show jv<|my rfl rfl rfl ?_
 rw[arm_eval_Set];show bD (kK<|bD<|QCT (c:=55) (o:=ob 55 w.params) (vs:=mL<|ob 55 w.params) (by lia) (F3.base _ _<|gg<|by lia) (by lia) λbb=>?_);show kds_core (ts:=[do let v<-dH (bf "w" _) _;uU _;pure v]) rfl rfl (by decide:(1:Nat)<=30) rfl λled=>?_;have hn3:h3.get? h3.objs.size=none:=kJ<|cY _;have kp3: ∀b o,h3.get? b=aA o->(h3.push {cls:=bp "set",dict:=aE,data:=yc #[] 0<|BR 0 0 led}).get? b=aA o:=λO O e=>iW _ e;show xE (⟨_,F3,by lia,by lia,by lia,by lia⟩: ∃m3,gq (G w.params X) (mg w X) (zx w.params L) m3 h3/\m3 "w" =aA (bS k t1)/\m3 "seen" =aA (aG a1)/\m3 "need" =aA (aG a2)/\m3 "more_than" =aA (bS 2048 t3)) λm3 F3 m3w m3s m3n m3m=>?_;have F4:=F3.keeps kp3;have ne3:=G8 F3 hn3
 have n3:s.heap.get? h3.objs.size=none:=by
  induction z:s.heap.get? h3.objs.size with
  |none=>rfl
  |some o=>show wV (k13 _ _ z) hn3
 have CC:CA w X L a1 a2 h3.objs.size s:=⟨hL,base,hLL▸hLn',n3,ne1,ne2,ne3,λq=>by show IC S1 λo O O O e O=>?_;rw[q] at e;show dy hn3 e,λq=>by show IC S2 λo O O O e O=>?_;rw[q] at e;show dy hn3 e⟩;have S30:(h3.push {cls:=bp "set",dict:=aE,data:=yc #[] 0<|BR 0 0 led}).SetOf (jx pg w) h3.objs.size (λO=>aD) 0:=OZ led;have S1:=pX S1 λo e=>kp3 _ o e;have S2:=pX S2 λo e=>kp3 _ o e;have k14:Kp s.heap (h3.push {cls:=bp "set",dict:=aE,data:=yc #[] 0<|BR 0 0 led}):=λb o e=>kp3 b o<|k13 b o e;generalize h3.objs.size=a3 at*;generalize (h3.push {cls:=bp "set",dict:=aE,data:=yc #[] 0<|BR 0 0 led})=h4 at*;show bD (bD<|iO (s:={s with heap:=h4,toks:=_}) F4 (by lia) (u:=bS k t1) m3w (bD<|kK<|bQ ?_)<|by decide+kernel);show bD<|dq<|bQ<|bQ ?_;show kds_fill_cons ?_;dsimp only[setAdd];show dq<|bD<|(jx pg w).pyHash (k:=k) (QIj k:oS k (bS k t1)=aC) ?_;show wpAny_setAddHashed_of (knd:=jx pg w) (k:=k) (QIj k:oS k (bS k t1)=aC) rfl S30 (by ext) λh5 sb5 S3=>kds_fill_nil rfl ?_;have k5:Kx a3 h4 h5:=λb o n e=>(sb5.2 b n).trans e;show td (s:={s with heap:=h5,toks:=_}) (QF F4 (λO O e=>CC.G3 e) CC.e3 k5) (by lia) hL λh6 t6 F6 k6=>?_;have q6:CQ w X L a1 a2 a3 t3 s h6:=⟨⟨_,F6,rfl,m3s,m3n,m3m⟩,pX S1 λo e=>k6 _ o CC.e1<|k5 _ o CC.OG e,pX S2 λo e=>k6 _ o CC.e2<|k5 _ o CC.Oy e,λb o e=>k6 b o (wy CC.sL e)<|k5 b o (wy CC.s3 e)<|k14 b o e⟩;have S3:h6.SetOf (jx pg w) a3 (λk'=>decide (k'=k)) 1:=pX (by simpa using S3) λo e=>k6 _ o CC.e3 e;show jv<|wpAny_While ?_;show QGv (λq s'=> ∃h tk dr,s'={s with heap:=h,toks:=tk,drawn:=dr}/\CQ w X L a1 a2 a3 t3 s h/\((q=2/\h.SetOf (jx pg w) a3 (λk'=>decide (k'=k)) 1)\/(q=1/\h.SetOf (jx pg w) a3 (λO=>aD) 0))) ?_ 2 ⟨h6,t6,s.drawn,rfl,q6,.inl ⟨rfl,S3⟩⟩;show λq' s' hs=>fH hs λh tk dr es Cq hq=>sb es<|xE Cq.F λm F7 mW O O O=>Jq (iO F7 (by lia) (u:=aG a3) mW ?_<|by decide+kernel)
 clear hA hdp base k1 hLL ns F hLn gA hL hLn' F2 S1 n1 ne1 k2 k12 F3 S2 n2 ne2 k3 k13 m3w m3s m3n m3m hn3 ne3 n3 kp3 F4 k14 S30 sb5 k5 F6 k6 q6 hs es F7 mW;rcases hq with ⟨rfl,S3⟩|⟨rfl,S3⟩
 ·show Ie S3 λtk8=>sb (QIg<|by ext)<|T9 (s:=s) hk CC Cq S3 rfl λh9 tk9 dr9 q9 S9=>⟨1,by ext,h9,tk9,dr9,rfl,q9,.inr ⟨rfl,S9⟩⟩
 ·show Ie S3 λtk8=>sb (QIf<|by ext)<|wpAny_execs_nil<|YL (s:=s) CC Cq λd h9 tk9 k9 e n=>q d h9 tk9 k9 e n
end B01
def Pn (cf:jC) (C:Fc) (c:List Nat):Bool:=decide ((cf.scope.names.map (·.1)).Nodup) && (cf.scope.names.all (λx=> !(x.2==dS)) && (cf.scope.names.all (λx=>if x.2==ck then (match C.dY x.1 with|some i=>c.contains i|none=>aC) else aC) && c.all λi=>di i C.bd))
theorem QBU (h:Pn cf Cow dV=aC) (H:(cf.scope.kind,cf.scope.isCoroutine,cf.scope.isGenerator)=(gy,aD,aD)) (m: ∀j,oi=aA j->j∈dV):uH cf Cow dV oi:=by simp only[ua] at H;show bP (aF h) λa h=>bP (aF h) λb h=>bP (aF h) λc d=>⟨iD a,H.1,H.2.1,H.2.2,λx M=>by simpa using fN.mp b x M,λx i e1 e2=>?_,λi t=>cn<|fN.mp d i t,m⟩;have k:=fN.mp c (x,ck)<|mem_of_lookup e1;rw[if_pos<|by rfl] at k;dsimp only at k;rw[e2] at k;simpa using k
namespace B01
variable {w:dF} {X:Nat->bk} {n:Nat}
theorem VX: ∀x i,(D w X n).o.gi x i-> ∃t,(D w X n).mg x=aA (bS i t):=by
 intro x i h;have h:x= "_DIV_LIMIT" /\i=4000:=by induction n<;>show h
 have e0':=h.1;have e1':=h.2;show sb e0'<|sb e1'<|⟨391,(j4 (w:=w) (X:=X) "_DIV_LIMIT").trans<|by lia⟩
theorem Ui: ∃o,(D w X n).G.get? Ej=aA o/\o≠kF:=(bJ (ob 1 w.params) (gg<|by lia) (λq=>by
 have:(ob 1 w.params).data=kF.data:=sb q rfl
 show QIe (show (3:Nat)=0 from (by unfold uD;show sb this rfl:(uD<|ob 1 w.params).size=(uD kF).size))<|by ext))
theorem QEn: ∀k nm f,(D w X n).hm k=aA (nm,f)->20<=k->(D w X n).mg nm=aA (aG f):=by
 intro k nm f e K;have:=uv _ _ _ (e:qS.lookup k=aA (nm,f));simp only[qS,dR,i5,or_false,ua] at this;clear e;rcases this with ⟨rfl,_⟩|⟨rfl,_⟩|⟨rfl,_⟩|⟨rfl,_⟩|⟨rfl,_⟩|⟨rfl,_⟩|⟨rfl,_⟩|⟨_,rfl,rfl⟩
 all_goals first|show absurd K (by ext)|show (j4 (w:=w) (X:=X) "_law_bid").trans (by lia)
theorem Wv: ∀{f:Nat} {Y:aP->Prop} {h:bq} {cl:List (aN×aP)} {a:aP},(D w X n).P.CL f Y h cl a-> ∃o fd,h.get? a=aA o/\o.data=kn fd:=by
 rintro f Y h cl a ⟨cf,e,⟨A,i,H,_⟩⟩
 show (eS _ _ A H)
section
variable[eV<|D w X n] [nB<|D w X n]
theorem QEO: ∀f xs d,OF (aY n) f xs d-> ∃nm a o fd,(D w X<|n+1).fns[f]?=aA nm/\(D w X<|n+1).mg nm=aA (aG a)/\(D w X<|n+1).G.get? a=aA o/\o.data=kn fd/\qi (D w X<|n+1) a xs d:=by
 intro f xs d h;induction h with
 |q F x L u m=>subst F x L;show fR (G1 (w:=w) (X:=X) (n:=n+1) (9,"quotedata",48,(ob 48))<|BP (i:=8) rfl) λH B b K=>(Io _ _ _ _ H B b K (by intro A s Y U Q E;show W3 u m))
 |mk e h=>show cI (L2 (QBv (w:=w) (X:=X) (n:=n)) _<|uv _ _ _ e) λi r R C p=>fR (G1 (w:=w) (X:=X) (n:=n+1) r<|BP R) λH B b K=>?_;have C:r.1=f:=C;show dA C<|(Io _ _ _ _ H B b K<|p xs d h)
theorem QFj: ∀k xs hs z hs',OH (aY n) k xs hs z hs'-> ∃nm f,(D w X<|n+1).hm k=aA (nm,f)/\qo (D w X<|n+1) f xs hs z hs':=by
 intro k xs hs z hs' h;induction h with
 |add e h=>show sb e<|(eS _ _ rfl (QBo h))
 |Fp e h=>show sb e<|(eS _ _ rfl (VH h))
 |del e h=>show sb e<|(eS _ _ rfl (E_ h))
 |K8 e h=>show sb e<|(eS _ _ rfl (W0 h))
theorem Zq: ∀k xs hs z,OR (aY n) k xs hs z-> ∃nm f,(D w X<|n+1).hm k=aA (nm,f)/\sV (D w X<|n+1) f xs hs z:=by
 intro k xs hs z h;induction h with
 |all e h=>show sb e<|(eS _ _ rfl (QCM h))
 |items e _ h=>show sb e<|(eS _ _ rfl (Kf h))
 |get e h=>show sb e<|(eS _ _ rfl (Vc h))
theorem Us (x:mF X):nB (D w X<|n+1) where
 RN:=λR s z h=>by
  induction (h) with
  |items e H h=>show (eS _ _ rfl (QBY x h H))
  |all e h=>show nomatch e
  |get e h=>show nomatch e
theorem G5 (F:vj.lookup f=aA (Cow,cf)) (A:Pn cf Cow dV=aC) (m:(cf.scope.kind,cf.scope.isCoroutine,cf.scope.isGenerator)=(gy,aD,aD)) (Q: ∀j,oi=aA j->j∈dV)
 (H:(nC (ft<|Cow.sub cf.scope.names aD aC hbi) cf.ps is && lJ ci (Cow.sub cf.scope.names aD aC hbi) b cf.body)=aC) (e:xw (aY n) f is dV oi (b.map SW.w) xs l d L):zM (D w X<|n+1) f xs l d L:=
 QDZ rfl (by unfold eR;erw[F];rfl) wQ (QBU A m Q) ⟨sN .nil (λx xs i is h g=>.cons (me h) g) (aF H).1,nX qI (aF H).2,rfl⟩ (λC h=>by
  show aT h λr e1 e2=>?_;obtain rfl:=bt F e1
  show e2) e
theorem WT: ∀f xs l z L,OL (aY n) f xs l z L->zM (D w X<|n+1) f xs l z L:=by
 intro f xs l z L h;induction h with
 |a e h=>subst e;show G5 (hbi:=ZI) rfl (by lia) (by lia) (λj e=>by show bM e) (by lia) h
 |b e h=>subst e;show G5 (hbi:=Tp) rfl (by lia) (by lia) (λj e=>by cases e;decide) (by lia) h
 |c e h=>subst e;show G5 (hbi:=VY) rfl (by lia) (by lia) (λj e=>by show bM e) (by lia) h
end
theorem Mp (M:mF X) (F: ∀f xs d,(D w X n).o.F f xs d-> ∃nm a o fd,(D w X n).fns[f]?=aA nm/\(D w X n).mg nm=aA (aG a)/\(D w X n).G.get? a=aA o/\o.data=kn fd/\qi (D w X n) a xs d)
 (H: ∀k xs hs z hs',(D w X n).o.H k xs hs z hs'-> ∃nm v,(D w X n).hm k=aA (nm,v)/\qo (D w X n) v xs hs z hs') (R: ∀k xs hs z,(D w X n).o.R k xs hs z-> ∃nm v,(D w X n).hm k=aA (nm,v)/\sV (D w X n) v xs hs z) (L: ∀f xs l z Z,(D w X n).o.L f xs l z Z->zM (D w X n) f xs l z Z):eV (D w X n) where
 gl:=og
 Nc:=zQ (X:=X)
 F:=F
 gi:=VX
 gs:=λx i h=>by clear F;induction n<;>trivial
 Qm:=QAX
 w9:=QEb
 Ac:=TQ
 MV:=QEn
 H:=H
 R:=R
 QS:=Wv
 L:=L
 conv:=λb=>(bJ 221 rfl (λW C {A s Y x a t Q E} R U B I k=>LD C (by have:=R.2.1;show (?_);show aS this) B k))
 b1:=Ti
 b3:=Un M
 MP:=Ui
 Qr:=λ{nm v} e {A s Y x a u Q E} _ B I h=>Z_ e B I h
 new:=λ{A s Y a vs m xs Q E} R t B g p K r j k=>UJ R.1 (by have:=R.2.1;show aS this) (by have:=R.2.2;show (?_);show aS this) B g p K r j k
 F0:=XH
 QE:=(om 56 (ob 56 w.params) (vH w.params) ((j4 (w:=w) (X:=X) "compute_powers").trans<|by lia) (gg<|by lia) (by lia) λk h0 P {A s N c t3 Q E} R t B q=>QDK P R.1 (by have:=R.2.1;show aS this) B q)
theorem UE (x:mF X): ∀n,eV (D w X n)/\nB (D w X n):=by
 intro O;induction O with
 |zero=>show ⟨Mp x (λO O O h=>h.elim) (λO O O O O h=>h.elim) (λO O O O h=>h.elim) λO O O O O h=>h.elim,⟨λxs hs zs h=>h.elim⟩⟩
 |succ n i=>
  show by
   have i:=i
   haveI:=i.1
   haveI:=i.2
   show ⟨Mp x QEO QFj Zq WT,Us x⟩
end B01
noncomputable abbrev hi (x:Int):Hn:=.d<|aB x
noncomputable abbrev ht (x:aN):Hn:=.d<|aI x
noncomputable abbrev hl (x:List aM):Hn:=.d<|aK x
theorem tt:aC=true:=rfl
theorem ff:aD=false:=rfl
theorem dt {p:Prop} {d:Decidable p} (h:p):decide p=true:=QIo h
theorem df {p:Prop} {d:Decidable p} (h: ¬ p):decide p=false:=decide_eq_false h
noncomputable def vs:Nat->List Int->Ls
 |_,[]=>[]
 |i,a::as=>(i,aQ<|aB a)::vs (i+1) as
theorem zo (b:List SW) (hs:Hs) (o:dn) (f:Nat) (j c:List Nat) (t:Option Nat) (xs:List aM) (l R:Ls) (d:aM) (L:Ls) (e:xs.length=j.length) (h:vE f c t l=R) (a:H2 d=aC):lk (kS j (xs.map aQ) R) λi=>sX (b.map SW.x) o hs i λv W O=>j6 v d->Bj l W t L->xw o f j c t (b.map SW.w) xs l d L:=oX<|(ry<|rb b).r (λq=>⟨e,h▸q⟩) λO O O q g b=>q ⟨g,a,b⟩
theorem qG (c:TW) (b:List SW) (n:Nat) (o:dn) (hs:Hs) (L:Ls) (K:Fl->Ls->Prop):lk L λU=>c.x o hs U λz l hs=>w4 z hs (λhs=>sX (b.map SW.x) o hs l λf A O=>CD f (wW c.w (b.map SW.w) o n A K) (λv=>K (ui v) A)->wW c.w (b.map SW.w) o (n+1) L K) λO=>K dE l->wW c.w (b.map SW.w) o (n+1) L K:=oX<|c.ok.r id λO O O q=>zS q (λO q=>(ry<|rb b).r q λO O O q=>q) λO q=>q
theorem ej (t:cB) (b:List SW) (o:dn) (hs:Hs) (x:aM) (xs:List aM) (L:Ls) (K:Fl->Ls->Prop):lk L λU=>CO t x U λl=>sX (b.map SW.x) o hs l λf A O=>CD f (fW t (b.map SW.w) o xs A K) (λv=>K (ui v) A)->fW t (b.map SW.w) o (x::xs) L K:=oX<|Hz id λO q=>(ry<|rb b).r q λO O O q=>q
theorem cu (e:EW) (t:cB) (cs:List TW) (o:dn) (hs:Hs) (l:Ls) (x:aM) (xs:List aM) (K:List aM->Prop):lk l λU=>CO t x U λL=>aX (cs.map TW.x) o hs L λz A hs=>aR A=aR L->w4 z hs (λhs=>e.x o hs L λv A O=>aR A=aR L->cz (ll v) (λy=>cW e.w t (cs.map TW.w) o l xs (λys=>K<|y::ys)->cW e.w t (cs.map TW.w) o l (x::xs) K) True) λO=>cW e.w t (cs.map TW.w) o l xs K->cW e.w t (cs.map TW.w) o l (x::xs) K:=oX<|Hz id λL q=>(n_<|Nh cs).r q λO O O q h=>zS (λr=>q ⟨h,r⟩) (λO q=>e.ok.r q λO O O q h=>dh (λr=>q ⟨h,r⟩) λO q=>q) λO q=>q
def CE (e:E) (t:cB) (cs:List T) (o:dn) (l:Ls) (x:aM) (r:Option aM):Prop:= ∀R K,(match r with|some y=>cW e t cs o l R λY=>K (y::Y)|none=>cW e t cs o l R K)->cW e t cs o l (x::R) K
theorem Ua {cs:List T}: ∀{xs:List aM},(∀x∈xs,CE e t cs o l x<|f x)-> ∀K,K (xs.filterMap f)->cW e t cs o l xs K:=by
 intro xs;induction xs with
 |nil=>show λO K h=>h
 |cons x xs i=>
  show λg K h=>by
   show g x (.head _) xs K ?_;have i:=λK=>i (λy Y=>g y<|.tail _ Y) K;induction q:f x with
   |none=>show i _ (by simp! only[oK,q] at h;show h)
   |some y=>show i _ (by simp! only[oK,q] at h;show h)
theorem mi {cs:List T} {α:Type} {g:α->aM} {f:α->aM}: ∀{xs:List α},(∀x∈xs,CE e t cs o l (g x)<|aA<|f x)-> ∀K,K (xs.map f)->cW e t cs o l (xs.map g) K:=by
 intro xs;induction xs with
 |nil=>show λO K h=>h
 |cons x xs i=>show λq K h=>q x (.head _) _ K<|i (λy Y=>q y<|.tail _ Y) _ h
theorem eJ (k:Nat):(0:Int)<2^k:=kbt_pos k
theorem b_ (u s r:Nat) (h:r<2^s):(2^s*u+r) &&& (2^s*u)=2^s*u:=by
 apply QHX;intro j;simp only[BS,Nat.testBit_two_pow_mul_add _ h,QHY];by_cases q:j<s
 ·simp[q,JN q]
 ·simp[q,fJ q]
theorem QDu (u s r:Nat) (h:r<2^s):(2^s*u) &&& r=0:=by
 apply QHX;intro j;simp only[BS,QHY,QHZ];by_cases q:j<s
 ·simp[JN q]
 ·simp only[QHa<|oC h<|QHb (by ext)<|fJ q]
  simp
theorem FZ (a b:Nat):jG (a:Int) (b:Int)=((a &&& b:Nat)):=by rfl
theorem Wh (x y:Int):vq x y=x+y - jG x y:=by have h:=bitXor_and x y;unfold EV at h;show r8 h
theorem KN (hu:0<=u) (hr:0<=r) (h:r<2^s):vq (u*2^s) r=u*2^s+r:=by
 show bE (JU hu) λa e1'=>sb e1'<|bE (Int.eq_ofNat_of_zero_le hr) λb e1'=>?_
 clear hr;subst e1';rw[Wh];simp only[(by push_cast;show kO _ _:((a:Int)*2^s)=((2^s*a:Nat))),FZ,QDu a s b (by exact_mod_cast h:b<2^s)];rfl
theorem QCA (M:0<=x):EV x (x.fdiv (2^s)*2^s)=x % 2^s:=by
 show bE (JU M) λa e=>?_;clear M;subst e;simp only[R8 _<|cR<|eJ s,bitXor_and];have n:=(QHc a<|2^s).symm
 have p:a &&& (2^s*(a / 2^s))=2^s*(a / 2^s):=by
  conv=>lhs;lhs;rw[n]
  show b_ _ _ _<|oT _<|QHd s
 simp only[(by push_cast;show kO _ _:((a:Int) / 2^s*2^s)=((2^s*(a / 2^s):Nat))),FZ,p];simp only[(by push_cast;rfl:((a:Int) % 2^s)=((a % 2^s:Nat)))];show nF (bR<|oL<|nL n)<|bR<|oL<|nR n
theorem pT:ib x<=m↔x.natAbs<2^m:=intBits_le_iff
theorem j3 (h:0<=x):ib x<=m↔x<2^m:=by
 rw[pT];show bE (JU h) λa e=>sb e ?_;constructor
 ·intro q
  have:=q
  exact_mod_cast this
 ·intro q;have:a<2^m:=by exact_mod_cast q
  show this
theorem GI (h:2^m<=x) (H:x<2^(m+1)):ib x=m+1:=by
 have b:=lN (cR<|eJ m) h;apply mQ
 ·show (j3 b).mpr H
 ·show Or.elim (QHP m<|ib x) (λq=>?_) λq=>?_
  ·show q
  ·show QIe ((j3 b).mp q)<|pb.mpr h
theorem Wi (h:0<=x) (e:ib x=m+1):2^m<=x:=by
 show Or.elim (Ju x<|2^m) (λq=>?_) λq=>?_
 ·have:=(j3 h).mpr q
  show (dC (nR e) this)
 ·show q
theorem Nw:ib 0=0:=rfl
theorem Cn (h:0<x): ∃m,ib x=m+1:=by
 induction e:ib x with
 |zero=>have:=(j3<|cR h).mp<|pZ e;simp at this;show gX h this
 |succ m=>show ⟨m,rfl⟩
theorem pY {m:Nat} (H:0<=x) (h:x<2^m):(ib x:Int)<=m:=by exact_mod_cast (j3 H).mpr h
theorem iN (a:Int) (h:0<b):a.fdiv b=a / b:=R8 _<|cR h
theorem m6 (a:Int) (h:0<b):a.fmod b=a % b:=Int.fmod_eq_emod_of_nonneg _<|cR h
theorem la (m n:Nat):(2:Int)^(m+n)=2^m*2^n:=Int.pow_add ..
theorem tS (m:Nat):(2:Int)^(m+1)=2*2^m:=(Int.pow_succ ..).trans<|kO ..
theorem mh {a b q r:Int} (hb:0<b) (e:a=q*b+r) (H:0<=r) (h:r<b):a / b=q/\a % b=r:=kbt_unique hb (by simp only[e,kO,ye]) H h
theorem QDV (n:0<N) (B:N<=2*b1) (i:0<=b2) (H:b2<N) (M:0<=q) (Q:q<N) (C:0<=r) (l:0<=a3) (hb:b=b1*N+b2): -(2*b)<=r*N+a3 - q*b2:=by have h:=QGE (cR Q) (cR H) i<|cR n;have R:=oU C<|cR n;have m:=oV B<|cR n;simp only[Jv] at m;show (bN (ni (ni (ni (ni R l) h)<|mI 2<|iR hb) m)<|mI 2 i)
namespace B01
section
variable {a12 a3 b b1 b2 n A:Int} {K:Fl->Ls->Prop}
theorem VK (hb:0<b) (h:K dE (vs 0 [a12,a3,b,b1,b2,n,A / b,A % b])) (k:Nat): ∀{q:Int}, -(k*b)<=A - q*b->A - q*b<b->wW vK.w (uq.map SW.w) o (k+1) (vs 0 [a12,a3,b,b1,b2,n,q,A - q*b]) K:=by
 induction k with
 |zero=>
  intro q u i;have c: ¬ A - q*b<0:=λK=>gX K u
  have H:=(mh (a:=A) (q:=q) hb (by simp+arith) (pb.mp c) i);have e1:=H.1;have e2:=H.2;simp only[e1,e2] at h;show qG vK uq 0 o [.b aD] (vs 0 [a12,a3,b,b1,b2,n,q,A - q*b]) K (df c) h
 |succ k d=>
  intro q u i;by_cases c:A - q*b<0
  ·have e:A - (q - 1)*b=A - q*b+b:=by rw[QHe];simp+arith
   have e2:((k+1:Nat))*b=k*b+b:=by simp only[Int.natCast_succ,Jw,kq]
   have:=d (q:=q - 1) (by grind_order) (by rw[QHe,kq];show bR c);rw[e] at this;show qG vK uq (k+1) o [.b aC] (vs 0 [a12,a3,b,b1,b2,n,q,A - q*b]) K (dt c) this
  ·have H:=(mh (a:=A) (q:=q) hb (by simp+arith) (pb.mp c) i)
   have e1:=H.1;have e2:=H.2;simp only[e1,e2] at h;show qG vK uq (k+1) o [.b aD] (vs 0 [a12,a3,b,b1,b2,n,q,A - q*b]) K (df c) h
theorem d3 (hb:0<b) (r:R=A - q*b) (u: -(2*b)<=R) (H:R<b) (K:Fl->Ls->Prop) (h:K dE (vs 0 [a12,a3,b,b1,b2,n,A / b,A % b])): ∃m,wW vK.w (uq.map SW.w) o m (vs 0 [a12,a3,b,b1,b2,n,q,R]) K:=⟨3,by rw[r] at u H⊢;show VK hb h 2 u H⟩
end
theorem NY (L:Nat) {n:Nat} (hn:n<=40000000)
 (hd:a12<b1*2^n->(aY L).F 3 [aB a12,aB b1,aB n] (bw [aB<|a12 / b1,aB<|a12 % b1]))
 (hb:b=b1*2^n+b2) (v:2^n<=2*b1) (p:b1<2^n) (i:0<=b2) (H:b2<2^n) (W:0<=a3) (z:a3<2^n) (A:0<=a12) (a:a12<b):
 (aY<|L+1).F 4 [aB a12,aB a3,aB b,aB b1,aB b2,aB n] (bw [aB<|(a12*2^n+a3) / b,aB<|(a12*2^n+a3) % b]):=by
 have R:=eJ n;have B:0<b1:=(As.mp λy0=>(gX (ni R v)<|mI 2 y0))
 have j:0<b:=by have:=yf B R;show Jx ‹_› ‹_›
 have N:(0:Int)<=n:=cT n;have l1:(ib b1:Int)<=n:=pY (cR B) p;have l2:(ib b2:Int)<=n:=pY i H;have k1:(ib b1:Int)+n<=134217728:=bN (ni (oL hn)<|oL hn) l1
 have tl: ∀{q r:Int},0<=q->q<2^n->0<=r->r<2^(n+1)->r*2^n+a3 - q*b2=a12*2^n+a3 - q*b->r*2^n+a3 - q*b2<b->(ib r:Int)+n<=134217728/\ib q+ib b2<=134217728/\
  ∀K,K dE (vs 0 [a12,a3,b,b1,b2,n,(a12*2^n+a3) / b,(a12*2^n+a3) % b])-> ∃m,wW vK.w (uq.map SW.w) (aY L) m (vs 0 [a12,a3,b,b1,b2,n,q,vq (r*2^n) a3 - q*b2]) K:=λ{q r} u Y C s e l=>by
  have l3:(ib q:Int)<=n:=pY u Y;have l4:(ib r:Int)<=(n+1):=pY C s;show ⟨by show bN (ni (oL hn)<|oL hn) l4,by show (oM<|bN (ni l3 l2)<|mI 2<|oL hn),λK h=>?_⟩;show sb (KN C W z)<|d3 j e (QDV R v i H u Y C W hb) l K h
 show fu ?_ rfl;by_cases c:a12.fdiv (2^n)=b1
 ·have g:=c
  rw[iN _ R] at g;have c1:b1*2^n<=a12:=by erw[<-g];show Int.ediv_mul_le _<|gG R
  have e:(a12 - b1*2^n+b1)*2^n+a3 - (1*2^n - 1)*b2=a12*2^n+a3 - (1*2^n - 1)*b:=by grind
  show eA (tl (bR R) (by simp+arith) (by (clear v;show bN B c1)) (by rw[tS];show bN (ni (ni (iL hb) p) H) a) e (by
   erw[e];have:(a12+1)*2^n<=b*2^n:=oV (by assumption) (cR R)
   grind)) λP t t3=>?_
  show d5 b_div3n2n 6 [.b aC,.f dE<|vs 0 [a12,a3,b,b1,b2,n,(a12*2^n+a3) / b,(a12*2^n+a3) % b]] (aY L) [aB a12,aB a3,aB b,aB b1,aB b2,aB n] _ rfl N (QIi.mpr c) N (bR (oL hn):(1:Int)+n<=_) N k1 N P t t3 .ret
 ·have c1:a12<b1*2^n:=As.mp λh=>c (by erw[iN _ R];show (mh (r:=a12 - b1*2^n) R (by simp+arith) (bR h)<|bN (ni (iL hb) H) a).1)
  have Z:=kr a12 B;have M:=lU a12<|gG B;have Q:0<=a12 / b1:=tJ A<|cR B;have o:a12 / b1<2^n:=ue B (by rw[kO];show c1);have U:a12=a12 / b1*b1+a12 % b1:=by have:=ku a12 b1;rw[kO] at this;show this.symm
  show eA (tl Q o M (by rw[tS];show bN (ni (ni p p) B) Z) (by grind) (by
   have x:(a12 % b1+1)*2^n<=b1*2^n:=oV Z<|cR R;simp only[Jw,kq] at x;have h4:0<=a12 / b1*b2:=oU Q i
   show bN (ni (ni (ni (iR hb) i) z) x) h4)) λP t t3=>?_
  show d5 b_div3n2n 6 [.b aD,.d<|bw [aB<|a12 / b1,aB<|a12 % b1],.f dE<|vs 0 [a12,a3,b,b1,b2,n,(a12*2^n+a3) / b,(a12*2^n+a3) % b]] (aY L) [aB a12,aB a3,aB b,aB b1,aB b2,aB n] _ rfl N (beq_eq_false_iff_ne.mpr c) (hd c1) N P t t3 .ret
end B01
theorem WH {x:Int} {m:Nat} (H:0<=x) (h:(ib x:Int)<=m):x<2^m:=(j3 H).mp (by exact_mod_cast h)
theorem Cg (h:m<=n):(2:Int)^m<=2^n:=by show bE (Nat.exists_eq_add_of_le h) λk e=>sb e ?_;simp only[la];have:(2:Int)^m*1<=2^m*2^k:=vo (eJ k)<|cR<|eJ m;rwa[uW] at this
theorem Oa:ib 1=1:=rfl
theorem bT {x:Int} (h:x=1):(x !=0)=true:=h▸rfl
theorem bF {x:Int} (h:x=0):(x !=0)=false:=by erw[h];rfl
namespace B01
theorem IS {a b:Int} (h:(ib a:Int)<=ib b+4000):lO a b=false:=by dsimp only[lO];simp only[Bool.and_eq_false_imp,decide_eq_true_eq,decide_eq_false_iff_not];intro _;unfold ib I8 at h;by_cases A:a=0<;>by_cases B:b=0<;>simp[A,B] at h⊢ <;>lia -abstractProof
section
variable {a b n H q1 r1 q2 r2:Int}
theorem QB (hb:0<b) (hn:(ib a:Int) - n<=4000) (p:lO a b=aD):lu (aY L) 3 u6 [aB a,aB b,aB n] (bw [aB<|a / b,aB<|a % b]):=by simp only[<-iN a hb,<-m6 a hb];show d5 u6 3 [hi<|ib a,.i 4000,.b aC,.d<|bw [aB<|a.fdiv b,aB<|a.fmod b]] (aY L) [aB a,aB b,aB n] _ rfl .bits (oG L ⟨rfl,rfl⟩) (dt hn) (.divmod (gG hb) p) .ret
theorem XF (e:n.fdiv (2^da 1)=H) (A:jG n 1=0) (c: ¬ (ib a:Int) - n<=4000) (hn:0<=n) (h:0<=H) (hs:ib 1+H<=134217728) (q:(ib q1:Int)+H<=134217728)
 (W:(aY L).F 4 [aB<|a.fdiv<|2^n.toNat,aB<|jG (a.fdiv<|2^H.toNat)<|1*2^H.toNat - 1,aB b,aB<|b.fdiv<|2^H.toNat,aB<|jG b<|1*2^H.toNat - 1,aB H] (bw [aB q1,aB r1]))
 (K:(aY L).F 4 [aB r1,aB<|jG a<|1*2^H.toNat - 1,aB b,aB<|b.fdiv<|2^H.toNat,aB<|jG b<|1*2^H.toNat - 1,aB H] (bw [aB q2,aB r2])):
 lu (aY L) 3 u6 [aB a,aB b,aB n] (bw [aB<|vq (q1*2^H.toNat) q2,aB r2]):=by
 subst e;show d5 u6 3 [hi<|ib a,.i 4000,.b aD,.b aD,.d<|bw [aB q1,aB r1],.d<|bw [aB q2,aB r2],.b aD] (aY L) [aB a,aB b,aB n] _ rfl .bits (oG L ⟨rfl,rfl⟩) (df c) (bF A) (by ext) h hs h hn h W K (bF A) h q .ret
theorem VF (e:(n+1).fdiv (2^da 1)=H) (A:jG n 1=1) (c: ¬ (ib a:Int) - n<=4000) (hn:0<=n+1) (h:0<=H) (hs:ib 1+H<=134217728) (q:(ib q1:Int)+H<=134217728) (s:(ib a:Int)+1<=134217728) (hb:(ib b:Int)+1<=134217728)
 (W:(aY L).F 4 [aB<|(a*2).fdiv<|2^(n+1).toNat,aB<|jG ((a*2).fdiv<|2^H.toNat)<|1*2^H.toNat - 1,aB<|b*2,aB<|(b*2).fdiv<|2^H.toNat,aB<|jG (b*2)<|1*2^H.toNat - 1,aB H] (bw [aB q1,aB r1]))
 (K:(aY L).F 4 [aB r1,aB<|jG (a*2)<|1*2^H.toNat - 1,aB<|b*2,aB<|(b*2).fdiv<|2^H.toNat,aB<|jG (b*2)<|1*2^H.toNat - 1,aB H] (bw [aB q2,aB r2])):
 lu (aY L) 3 u6 [aB a,aB b,aB n] (bw [aB<|vq (q1*2^H.toNat) q2,aB<|r2.fdiv 2]):=by
 subst e;show d5 u6 3 [hi<|ib a,.i 4000,.b aD,.b aC,.d<|bw [aB q1,aB r1],.d<|bw [aB q2,aB r2],.b aC] (aY L) [aB a,aB b,aB n] _ rfl .bits (oG L ⟨rfl,rfl⟩) (df c) (bT A) (by ext) s (by ext) hb (by ext) h hs h hn h W K (bT A) (by ext) h q .ret
end
theorem l_ {a b H:Int} (hb:0<b) (h:0<H) (A:a<b*(H*H)) (s:0<=a):a / H / b*H+(a / H % b*H+a % H) / b=a / b/\(a / H % b*H+a % H) % b=a % b/\0<=a / H / b/\a / H / b<H/\0<=(a / H % b*H+a % H) / b/\(a / H % b*H+a % H) / b<H:=by
 have r:=lU (a / H)<|gG hb;have r1:=kr (a / H) hb;have L:=lU a<|gG h;have l:=kr a h;have e:a / H % b*H+a % H+a / H / b*H*b=a:=by have z:=ku (a / H) b;have Z:=ku a H;show sb (by grind:a / H % b*H+a % H+a / H / b*H*b=H*(b*(a / H / b)+a / H % b)+a % H)<|sb z<|sb Z rfl
 have p:a / H % b*H+a % H<H*b:=by have:=oV (r1:a / H % b+1<=b)<|cR h;rw[Jw,kq,kO b] at this;show R9 (Int.add_lt_add_left l _) this
 show ⟨?_,?_,tJ (tJ s<|cR h)<|cR hb,ue hb<|ue h ?_,tJ (BU (oU r<|cR h) L)<|cR hb,ue hb p⟩
 ·have:=QHf (a / H % b*H+a % H) (a / H / b*H) (gG hb)
  rw[e] at this;rw[this,ye]
 ·have:=Int.add_mul_emod_self_right (a / H % b*H+a % H) (a / H / b*H) b
  rw[e] at this;show this.symm
 ·rw[kO H b,Jv]
  show A
theorem upper {b:Int} (o:1<=h) (B:2^(2*h)<=2*b) (fE:b<2^(2*h)):0<b/\2^h<=2*(b / 2^h)/\b / 2^h<2^h:=by
 have H:=eJ h;rw[show (2:Int)^(2*h)=2^h*2^h by rw[Qz,la]] at B fE;show ⟨by have:=yf H H;show bN B fE,?_,ue H fE⟩;clear fE;show bE (FC o) λg m=>?_;subst m;have e:=tS g;have:2^g<=b / 2^(g+1):=by show (Int.le_ediv_iff_mul_le H).mpr ?_;rw[e,Jv] at B;show sb e<|Int.le_of_mul_le_mul_left B (by ext)
 show sb e<|Int.mul_le_mul_of_nonneg_left (e▸this) (by ext)
theorem Qg (L:Nat) {a b:Int} {h:Nat} (d2: ∀x,0<=x->x<b / 2^h*2^h->(aY<|L+1).F 3 [aB x,aB<|b / 2^h,aB h] (bw [aB<|x / (b / 2^h),aB<|x % (b / 2^h)])) (Q:0<=a) (hn:h<=40000000) (o:1<=h) (v:2^(2*h)<=2*b) (fE:b<2^(2*h)) (A:a<b*2^(2*h)): ∃q1 r1 q2 r2,
 (aY<|L+1+1).F 4 [aB<|a.fdiv<|2^(2*h),aB<|jG (a.fdiv<|2^h)<|1*2^h - 1,aB b,aB<|b.fdiv<|2^h,aB<|jG b<|1*2^h - 1,aB h] (bw [aB q1,aB r1])/\
 (aY<|L+1+1).F 4 [aB r1,aB<|jG a<|1*2^h - 1,aB b,aB<|b.fdiv<|2^h,aB<|jG b<|1*2^h - 1,aB h] (bw [aB q2,aB r2])/\
 (ib q1:Int)<=h/\vq (q1*2^h) q2=a / b/\r2=a % b:=by
 show eA (upper o v fE) λB u U=>?_;have H:=eJ h;rw[show (2:Int)^(2*h)=2^h*2^h by rw[Qz,la]] at A⊢;rw[iN _<|yf H H,iN _ H,iN _ H,kq,SA,SA,SA];have d:=λx:Int=>show x=x / 2^h*2^h+x % 2^h by rw[kO];show (ku x<|2^h).symm
 have m:=λx=>lU x<|gG H;have M:=λx=>kr x H;show EL (l_ B H A Q) λi l s f s5 q=>?_;have N:=tJ Q<|cR<|yf H H;have K:=NY (L+1) hn (d2 _ N) (d b) u U (m b) (M b) (m<|a / 2^h) (M<|a / 2^h) N<|ue (yf H H) A;rw[show a / (2^h*2^h)*2^h+a / 2^h % 2^h=a / 2^h by erw[<-QHg (cR H)];show (d<|a / 2^h).symm] at K;have r:=lU (a / 2^h)<|gG B;have j:=NY (L+1) hn (d2 _ r) (d b) u U (m b) (M b) (m a) (M a) r<|kr (a / 2^h) B;show ⟨_,_,_,_,K,j,pY s f,by (erw[KN s s5 q];show sb i rfl),l⟩
theorem QBl: ∀(j L:Nat),2*j<=L-> ∀(a b:Int) (n:Nat),0<=a->1<=n->2^n<=2*b->b<2^n->a<b*2^n->n<=4000*2^j->n<=30000000->
 (aY<|L+1).F 3 [aB a,aB b,aB n] (bw [aB<|a / b,aB<|a % b]):=by
 intro j;induction j with
 |zero=>
  intro L z a b n s hn B fE A Z N;have d:=eJ n;have R:0<b:=(As.mp λY=>(gX (ni d B)<|mI 2 Y))
  have l:a<2^(n+n):=by rw[la];show SD A<|Jy fE d
  have q:=pY s l;have i:ib b=n:=by show bE (FC hn) λm g=>?_;clear s hn A Z N d R l q;subst g;show GI ?_ fE;rw[tS] at B;show (pb.mp λY=>(gX (ni Y B) Y))
  show fu ?_ rfl;show QB R (bN q<|oL Z)<|IS<|bN (ni q<|oL Z)<|oL<|nR i
 |succ j ih=>
  intro L z a b n s hn B fE A Z N;have d:=eJ n;have R:0<b:=(As.mp λY=>(gX (ni d B)<|mI 2 Y))
  have l:a<2^(n+n):=by rw[la];show SD A<|Jy fE d
  have q:=pY s l;have f:ib b=n:=by show bE (FC hn) λm g=>?_;clear s hn A Z N d R l q;subst g;show GI ?_ fE;rw[tS] at B;show (pb.mp λY=>(gX (ni Y B) Y))
  show fu ?_ rfl;by_cases c:(ib a:Int) - n<=4000
  ·show QB R c<|IS<|bN c<|oL<|nR f
  ·have half:=λ(a' Q:Int) (h:Nat) (q:0<=a') (i:1<=h) (U:2^(2*h)<=2*Q) (o:Q<2^(2*h)) (h5:a'<Q*2^(2*h)) (h6:h<=4000*2^j) (h7:h<=30000000)=>eA (upper i U o) λO u0 u=>(Qg (L - 2) (λx hx r=>ih (L - 2) ((bB z<|nR<|sE ((aS z):2<=L))) x (Q / 2^h) h hx i u0 u r h6 h7) q (bO ‹_› (dI _ _)) i U o h5)
   rw[show L - 2+1+1=L by show (sE ((aS z):2<=L))] at half;have p:(2:Nat)^(j+1)=2*2^j:=by rw[FD];show wF _ _
   obtain ⟨h,e|e⟩: ∃h,n=2*h\/n=2*h+1:=⟨n / 2,by show ((Decidable.em _).imp_right λo1=>((rK o1).elim (λu=>(mQ (aS u)<|bB (na (qC (n) 2) u)<|qC (n) 2)) λu=>(mQ (aS<|dG (n) (by decide:0<2)) u)))⟩
   ·subst e
    show uu (half a b h s ((jt.mp λY=>(dC hn<|fO 2 Y))) B fE A (by (show (jt.mp λY=>(dC (na (na Y Z)<|fO 4000<|nL p) Y))))<|aS N) λq1 r1 q2 r2 P t M K W=>dA W<|dA K<|XF (H:=h) (by show (?_);erw[iN _<|by ext];simp+arith) (by rw[bitAnd_m1];simp+arith) c (Int.natCast_nonneg _) (Int.natCast_nonneg _) (by erw[Oa];show bN (oL N)<|oZ h) (bN M<|oL N) P t
   ·subst e
    have e2:(2:Int)^(2*(h+1))=2*2^(2*h+1):=by rw[show 2*(h+1)=(2*h+1)+1 by simp+arith,tS]
    have v:=eJ<|2*h+1
    show uu (half (a*2) (b*2) (h+1) (bN s s) (by simp+arith) (by erw[e2];show bN B B) (by erw[e2];show bN fE fE) (by
     erw[e2];have:=oU (cR R) (cR v)
     grind) ((jt.mp λY=>(dC (na Z<|fO 4000<|nL p)<|fO 2 Y))) (aS N)) λq1 r1 q2 r2 P t M K W=>?_;subst W
    have C:a*2 / (b*2)=a / b:=Int.mul_ediv_mul_of_pos_left _ _ (by ext);have e5:(a*2 % (b*2)).fdiv 2=a % b:=by have q:=ku (a*2)<|b*2;have i:=ku a b;rw[C] at q;show sb (by grind:a*2 % (b*2)=a % b*2)<|sb (iN _<|by ext)<|Int.mul_ediv_cancel _ (by ext)
    rw[C] at K;simp only[<-K,<-e5];show VF (H:=(h+1:Nat)) (by show (?_:(((2*h+1:Nat):Int)+1).fdiv 2=(h+1:Nat));erw[iN _<|by ext];show h1I h) (by rw[bitAnd_m1];simp+arith) c (cT _) (cT _) (by erw[Oa];show bN (oL N)<|oZ<|h+1) (bN M<|oL N) (bN (ni (oL N)<|oL N) q) (bN (oL N)<|oL<|nL f) P t
end B01
noncomputable def digs (n:Nat):Nat->Int->List Int
 |0,_=>[]
 |k+1,x=>x % 2^n::digs n k (x / 2^n)
theorem DN {k x}:digs n (k+1) x=x % 2^n::digs n k (x / 2^n):=rfl
theorem wL (n:Nat): ∀k x,(digs n k x).length=k:=by
 intro O;induction O with
 |zero=>show λO=>rfl
 |succ k i=>show λx=>QIh _<|i _
theorem ux (n k:Nat):(2:Int)^(n*(k+1))=2^n*2^(n*k):=by rw[SE,wG,la]
theorem QAR (x:Int) (n k:Nat):x % 2^(n*(k+1)) % 2^n=x % 2^n:=by rw[ux];show Int.emod_emod_of_dvd _ ⟨_,rfl⟩
theorem ZA (x:Int) (n k:Nat):x % 2^(n*(k+1)) / 2^n=x / 2^n % 2^(n*k):=by
 rw[ux];have N:=eJ n;have M:=eJ<|n*k;have H:=ku x<|2^n;have h:=ku (x / 2^n)<|2^(n*k);have A:=lU x<|gG N;have z:=kr x N;have B:=lU (x / 2^n)<|gG M;have s:=kr (x / 2^n) M
 have o:x % (2^n*2^(n*k))=x / 2^n % 2^(n*k)*2^n+x % 2^n:=by
  show (mh (a:=x) (b:=2^n*2^(n*k)) (q:=x / 2^n / 2^(n*k)) (yf N M) (by grind) (BU (oU B<|cR N) A) ?_).2;have:=oV s (cR N)
  grind
 show sb o<|(mh N rfl A z).1
theorem VQ (n:Nat): ∀a b x,digs n (a+b) x=digs n a (x % 2^(n*a))++digs n b (x / 2^(n*a)):=by
 intro O;induction O with
 |zero=>show λb x=>by rw[QHh,v9];show QIh (digs n b) (QHi x).symm
 |succ a i=>show λb x=>by rw[Nat.succ_add,DN,DN,i b,QAR,ZA,ux,QHg<|cR<|eJ n];rfl
theorem TU (H:0<=x) (h:x<2^n):digs n 1 x=[x]:=QIh (· ::[])<|Int.emod_eq_of_lt H h
theorem gB (H:0<=x) (h:x<2^60):ib x<=60:=(j3 H).mpr h
theorem i1:(0:Int)<=1:=by decide
namespace B01
theorem Og (r1:aR l 1=aQ (aB n)) (r2:aR l 2=bg xs) (r:aR l 3=.clo 1):vE 1 [1,2,3] (aA 2) l=[(1,aQ<|aB n),(2,bg xs),(3,.clo 1)]:=by
 show (?_:[(1,kx 1 aD<|aR l 1),(2,kx 1 aC<|aR l 2),(3,kx 1 aD<|aR l 3)]=_);show sb r1<|sb r2<|sb r ?_
 rfl
section
variable {n x L R M S U W:Int}
def uB (n:Int) (xs:List aM) (x L R M S U W:Int):Ls:=(1,aQ<|aB n)::(2,bg xs)::(3,.clo 1)::vs 200 [x,L,R,M,S,U,W]
theorem ZW (r1:aR l 1=aQ (aB n)) (r2:aR l 2=bg xs) (r:aR l 3=.clo 1) (q:0<=L) (h:L<xs.length) (H:xs.length<2^63):
 (aY<|m+1).L 1 [aB x,aB L,aB<|L+1] l br (dm l 2<|bg<|xs.set L.toNat<|aB x):=
 .b rfl (zo Ff [.b aC] (aY m) 1 [200,201,202] [1,2,3] (aA 2) [aB x,aB L,aB<|L+1] l _ _ _ rfl (Og r1 r2 r) rfl (QIj _) q h H .ret (.some r2 rfl))
theorem Uv (r1:aR l 1=aQ (aB n)) (r2:aR l 2=bg xs) (r:aR l 3=.clo 1) (e1: ¬ L+1=R) (v:(L+R).fdiv (2^da 1)=M) (e:(M - L)*n=S) (Y:x.fdiv (2^S.toNat)=U) (s:EV x (U*2^S.toNat)=W)
 (t:ib (M - L)+ib n<=134217728) (g:0<=S) (z:(ib U:Int)+S<=134217728) (K:(aY m).L 1 [aB W,aB L,aB M] (uB n xs x L R M S U W) br (uB n ys x L R M S U W)) (B:(aY m).L 1 [aB U,aB M,aB R] (uB n ys x L R M S U W) br (uB n zs x L R M S U W)):
 (aY<|m+1).L 1 [aB x,aB L,aB R] l br (dm l 2<|bg zs):=by
 subst v;subst e;subst Y;subst s;show .b rfl (zo Ff [.b aD,.c br<|uB n ys x L R _ _ _ _,.c br<|uB n zs x L R _ _ _ _] (aY m) 1 [200,201,202] [1,2,3] (aA 2) [aB x,aB L,aB R] l _ _ _ rfl (Og r1 r2 r) rfl (beq_eq_false_iff_ne.mpr e1) i1 t g g z K B .next (.some r2 rfl))
end
theorem QDr: ∀(k z:Nat),k<=z->1<=k-> ∀(x:Int) (L n:Nat) (xs:List aM) (l:Ls),L+k<=xs.length->xs.length<=256->1<=n->n*k<=30000000->0<=x->x<2^(n*k)->
 aR l 1=aQ (aB n)->aR l 2=bg xs->aR l 3=.clo 1->(aY z).L 1 [aB x,aB L,aB (L+k:Nat)] l br (dm l 2<|bg<|xs.take L++(digs n k x).map aB++xs.drop (L+k)):=by
 intro k;induction k using QHj with
 |ind k i=>
  intro z hl K x L n xs l C d hn N q Q r1 r2 r;show bE (FC<|bO K hl) λm e=>?_;subst e;by_cases c:k=1
  ·clear i K N hl
   subst c;rw[Nat.mul_one] at Q;have:=ZW (m:=m) (x:=x) r1 r2 r (cT L) (pd.mpr ‹_›) (fq ‹_› (by ext));rw[qD,List.set_eq_take_append_cons_drop,if_pos<|Nat.lt_of_succ_le C] at this;rw[TU q Q,nI];show this
  ·-- the Qg
   show ik (by
    show (iX (k / 2) (k - k / 2) (((rK c).elim (λg=>(bB K g)) λg=>(jt.mp λv=>(dC (na g<|dG (k) (by decide:0<2))<|fO 2 v)))) ((jt.mp λv=>(dC (na (na (na (na K<|nR<|sE ((aS<|qC (k) 2):k / 2<=k)) v)<|qC (k) 2)<|nR<|sE ((aS<|qC (k) 2):k / 2<=k)) v))) (by (show (xg<|sE ((aS<|qC (k) 2):k / 2<=k)))) ?_)
    show sb (iN _<|by ext)<|PJ L k: ∃a b,1<=a/\1<=b/\a+b=k/\((L:Int)+((L+k:Nat):Int)).fdiv (2^Int.toNat 1)=((L+a:Nat):Int)) λa b o hb A M=>?_
   have t:n*a+n*b=n*k:=by rw[<-A,FE]
   have h:=eJ<|n*a;have f:(((L+a:Nat):Int) - L)*n=((n*a:Nat):Int):=by rw[Jz,ye,SF,<-QHk,wF]
   have u:=tJ q<|cR h;have p:=ue h (by rw[<-la,wG,t];show Q);have F:=lU x<|gG h;have B:=kr x h;have g1:ib (((L+a:Nat):Int) - L)+ib (n:Int)<=134217728:=by have h1:=gB (x:=((L+a:Nat):Int) - L) (bR<|oL o)<|bN (ni (ni (ni (oL C)<|oL d)<|oL hb)<|oL<|nL A)<|oZ L;have h2:=gB (cT _)<|bN (oL N)<|oL (fO n K:n*1<=n*k);show bO (kI ‹_› ‹_›) (by ext)
   have g2:=pY u p;generalize Y:xs.take L++(digs n a<|x % 2^(n*a)).map aB++xs.drop (L+a)=ys at*;have W:ys.length=xs.length:=by erw[<-Y];simp[wL];show (qj (sE ((bB C<|nL A):L+a<=xs.length))<|gO ((aS C):L<=xs.length))
   have H:=i a (bB hb<|nL A) m (bB (na hl hb)<|nL A) o (x % 2^(n*a)) L n xs (uB n xs x L (L+k:Nat) (L+a:Nat) (n*a:Nat) (x / 2^(n*a))<|x % 2^(n*a)) (bB C<|nL A) d hn (bB N<|nL t) F B rfl rfl rfl;have j:=i b (bB o<|nL A) m (bB (na hl o)<|nL A) hb (x / 2^(n*a)) (L+a) n ys (uB n ys x L (L+k:Nat) (L+a:Nat) (n*a:Nat) (x / 2^(n*a))<|x % 2^(n*a)) (bB (na C<|nL A)<|nR W) (bB d<|nL W) hn (bB N<|nL t) u p rfl rfl rfl;rw[Y] at H;have R:ys.take (L+a)=xs.take L++(digs n a<|x % 2^(n*a)).map aB:=dA Y<|List.take_left' (by simp[wL];show (Nat.min_eq_left ((aS C):L<=xs.length)))
   have P:ys.drop (L+a+b)=xs.drop (L+k):=by
    rw[<-Y,List.drop_append,uf (by simp[wL];show (aS<|nL<|gO ((aS C):L<=xs.length))),BV,QHl]
    congr 1
    simp[wL];show (qj (ea A<|sE ((aS<|nL<|gO ((aS C):L<=xs.length)):min L xs.length+a<=L+a+b)) (gO ((aS C):L<=xs.length)).symm)
   rw[R,P,sz,A,nI<|xs.take L,<-gR,<-VQ,A] at j;show Uv (S:=(n*a:Nat)) (U:=x / 2^(n*a)) r1 r2 r ((λZ=>((rK c).elim (λg=>(dC K g)) λg=>(gX (oL g)<|iR Z)))) M f (iN _ h) (by have:=QCA (s:=n*a) q;rw[iN _ h] at this;show this) g1 (cT _) (bN (ni g2<|oL N)<|oL<|nL t) H j
end B01
noncomputable def undig (n:Nat):List Int->Int
 |[]=>0
 |d::ds=>d+2^n*undig n ds
theorem DK:undig n []=0:=rfl
theorem sY {d ds}:undig n (d::ds)=d+2^n*undig n ds:=rfl
theorem zW (n:Nat): ∀a b,undig n (a++b)=undig n a+2^(n*a.length)*undig n b:=by
 intro O;induction O with
 |nil=>show λb=>by rw[tI,QHh];show (kq _).symm.trans (JQ _).symm
 |cons d a i=>show λb=>by rw[wB,sY,sY,i b,jd,ux,QHm,Jv,SG]
theorem QAl (n:Nat): ∀k x,0<=x->x<2^(n*k)->undig n (digs n k x)=x:=by
 intro O;induction O with
 |zero=>show λx H h=>nF H<|Int.lt_add_one_iff.mp h
 |succ k i=>show λx H h=>by have N:=eJ n;simp only[ux] at h;rw[DN,sY,i (x / 2^n) (tJ H<|cR N)<|ue N (by simp only[kO];show h)];show (ye ..).trans<|ku x<|2^n
theorem Yd (n:Nat): ∀k x,∀d∈digs n k x,0<=d/\d<2^n:=by
 intro O;induction O with
 |zero=>show λx d h=>by trivial
 |succ k i=>
  show λx d h=>by
   rcases dR.mp h with rfl|h
   ·show ⟨lU _<|gG<|eJ n,kr _<|eJ n⟩
   ·show i _ d h
theorem HN (n:Nat): ∀ds,(∀d∈ds,0<=d/\d<2^n)->0<=undig n ds/\undig n ds<2^(n*ds.length):=by
 intro O;induction O with
 |nil=>show λO=>⟨yF _,Int.zero_lt_one⟩
 |cons d ds i=>show λh=>by show bP (i λx M=>h x<|.tail _ M) λa b=>bP (h d<|.head _) λc e=>?_;have N:=eJ n;rw[sY,jd,ux];have H:=vo b<|cR N;show ⟨BU c<|oU (cR N) a,by rw[QHm,uW] at H;show bN e H⟩
def fV (n:Nat) (a:Int):Nat:=(ib a+n - 1) / n
theorem Fe {a:Int} (hn:1<=n) (A:0<=a):a<2^(n*fV n a):=by show (j3 A).mp ?_;unfold fV;have:=QHc (ib a+n - 1) n;have:=oT (ib a+n - 1) hn;show (bB (na (nR<|sE ((aS this):1<=ib a+n))<|nR ‹n*((ib a+n - 1) / n)+(ib a+n - 1) % n=ib a+n - 1›) this)
theorem QDv (m:Nat):(hG m [aB 0]).flatten=hG m (aB 0):=by
 induction m with
 |zero=>rfl
 |succ m i=>show sb BW<|sb List.flatten_cons<|sb i<|sb List.replicate_succ ?_;rfl
theorem b0 {a:Int} (h:a≠0):(a !=0)=true:=bne_iff_ne.mpr h
namespace B01
theorem Ad (L:Nat) {a:Int} (A:0<=a) (hn:1<=n) (hl:fV n a<=L) (h:fV n a<=256) (hb:n*fV n a<=30000000) (R:n<=30000000):
 (aY<|L+1).F 5 [aB a,aB n] (aK<|(digs n (fV n a) a).map aB):=by
 have N:(0:Int)<n:=pd.mpr ‹_›;have i:ib a<=30000000:=bO ((j3 A).mpr<|Fe hn A) hb;have e1:((ib a:Int)+n - 1).fdiv n=(fV n a:Int):=by erw[iN _ N];simp only[show ((ib a:Int)+n - 1)=((ib a+n - 1:Nat):Int) by show (nF (bR<|oL<|nR<|sE ((aS hn):1<=ib a+n))<|bR<|oL<|nL<|sE ((aS hn):1<=ib a+n))];rfl
 have e2:lO ((ib a:Int)+n - 1) n=false:=IS (by
  have:=(j3 (x:=(ib a:Int)+n - 1) (m:=60)<|bR<|oL hn).mpr<|bN (oL R)<|oL i
  show bN (oL this)<|oZ<|ib ↑n)
 have Q:decide ((n:Int)=0)=false:=df<|gG N;have B: ∀r,d7 r cV (.d<|aK [aB 0]) (.d<|aB<|((ib a:Int)+n - 1).fdiv n)<|aK<|hG (fV n a)<|aB 0:=λr=>by erw[e1];have:=d7.mul (r:=r) (v:=.d<|aK [aB 0]) (xs:=[aB 0]) (n:=fV n a) .d (by simp only[qD];show (?_:1*fV n a<=256);simp only[QHn];show h) (bR<|oL h)<|cT _;rwa[qD,QDv] at this
 have Z:(hG (fV n a)<|aB 0).length=fV n a:=SH;generalize hG (fV n a) (aB 0)=zs at*;show fu ?_ rfl;by_cases c:a=0
 ·clear A hl h hb i e1
  subst c;have z:fV n 0=0:=QHo (by simp only[Nw];show (aS<|nL<|sE ((oM<|bR N):1<=0+n)));simp only[z] at Z⊢;cases List.eq_nil_of_length_eq_zero Z;show d5 Ap 2 [hi<|ib 0,hl [],.b aD] (aY L) [aB 0,aB n] _ rfl .bits Q e2 (B _) ff .ret
 ·have p:1<=fV n a:=by
   show bE (Cn (x:=a)<|by lia -abstractProof) λm e=>?_;unfold fV;show sb e<|(Nat.one_le_div_iff hn).mpr (by simp+arith)
  have K:=QDr (fV n a) L hl p a 0 n zs ((0,aQ<|aB a)::(1,aQ<|aB n)::(2,bg zs)::[(3,.clo 1)]) (aS<|nR Z) (bB h<|nL Z) hn hb A (Fe hn A) rfl rfl rfl;rw[List.take_zero,BV,v9,uf<|pZ Z,lQ,<-Z] at K;simp only[<-Z];show d5 Ap 2 [.d<|aB<|ib a,.d<|aK zs,.b aC,.d<|aB zs.length,.c br<|(0,aQ<|aB a)::(1,aQ<|aB n)::(2,bg<|(digs n zs.length a).map aB)::[(3,.clo 1)]] (aY L) [aB a,aB n] _ rfl .bits Q e2 (B _) (b0 c) (.oo (.l<|.bor rfl)<|bB h<|nL Z) K .ret
theorem U6 {xs:List aM} (h:L<xs.length):vw (L:Int) xs.length=aA L:=by dsimp only[vw];simp;show Qx h
theorem Mn {n:Int} (r:aR l 0=aQ (aK xs)) (r1:aR l 1=aQ (aB n)) (r2:aR l 2=.clo 2):vE 2 [0,1,2] aE l=[(0,aQ<|aK xs),(1,aQ<|aB n),(2,.clo 2)]:=by
 show (?_:[(0,kx 2 aD<|aR l 0),(1,kx 2 aD<|aR l 1),(2,kx 2 aD<|aR l 2)]=_);show sb r<|sb r1<|sb r2 ?_
 rfl
section
variable {n L R M S u w:Int}
def th (n:Int) (xs:List aM) (L R M S:Int):Ls:=(0,aQ<|aK xs)::(1,aQ<|aB n)::(2,.clo 2)::vs 200 [L,R,M,S]
theorem QDX (r:aR l 0=aQ (aK xs)) (r1:aR l 1=aQ (aB n)) (r2:aR l 2=.clo 2) (e1: ¬ L+1=R) (e:(L+R).fdiv (2^da 1)=M) (Z:(M - L)*n=S) (t:ib (M - L)+ib n<=134217728) (z:0<=S) (g:(ib u:Int)+S<=134217728)
 (H:(aY m).L 2 [aB M,aB R] (th n xs L R M S) (aB u) (th n xs L R M S)) (K:(aY m).L 2 [aB L,aB M] (th n xs L R M S) (aB w) (th n xs L R M S)):(aY<|m+1).L 2 [aB L,aB R] l (aB<|u*2^S.toNat+w) l:=by
 subst e;subst Z;show .c rfl (zo IA [.b aD,.c (aB u)<|th n xs L R _ _,.c (aB w)<|th n xs L R _ _] (aY m) 2 [200,201] [0,1,2] aE [aB L,aB R] l _ (aB<|u*2^((((L+R).fdiv<|2^da 1) - L)*n).toNat+w) _ rfl (Mn r r1 r2) rfl (beq_eq_false_iff_ne.mpr e1) i1 t H z g K .ret .none)
theorem QFi {d:Int} (R:aR l 0=aQ (aK xs)) (r1:aR l 1=aQ (aB n)) (r2:aR l 2=.clo 2) (h: ∀r,cN r (.d<|aK xs) L<|aB d):(aY<|m+1).L 2 [aB L,aB<|L+1] l (aB d) l:=.c rfl (zo IA [.b aC,hi d] (aY m) 2 [200,201] [0,1,2] aE [aB L,aB<|L+1] l _ (aB d) _ rfl (Mn R r1 r2) rfl (QIj _) (h _) .ret .none)
end
theorem QDq: ∀(k z:Nat),k<=z->1<=k-> ∀(L n:Nat) (ds:List Int) (l:Ls),L+k<=ds.length->ds.length<=256->1<=n->n*k<=30000000->(∀d∈ds,0<=d/\d<2^n)->
 aR l 0=aQ (aK<|ds.map aB)->aR l 1=aQ (aB n)->aR l 2=.clo 2->(aY z).L 2 [aB L,aB (L+k:Nat)] l (aB<|undig n<|(ds.drop L).take k) l:=by
 intro k;induction k using QHj with
 |ind k i=>
  intro z hl C L n ds l U Q hn N R Z r1 r2;show bE (FC<|bO C hl) λm e=>?_;subst e;by_cases c:k=1
  ·clear i C N hl
   subst c;have K:=U
   have p:undig n ((ds.drop L).take 1)=ds[L]:=by
    show sb (Eu K)<|(?_:ds[L]+2^n*0=ds[L])
    rw[Int.mul_zero,QHp]
   show sb p<|QFi Z r1 r2 λr=>.seq (.l .d) (by rw[cp];show bR<|oL Q) (U6 (by rw[cp];show K)) (by (erw[nM];erw[p8 K]);rfl)
  ·show ik (by
    show (iX (k / 2) (k - k / 2) (((rK c).elim (λu=>(bB C u)) λu=>(jt.mp λY=>(dC (na u<|dG (k) (by decide:0<2))<|fO 2 Y)))) ((jt.mp λY=>(dC (na (na (na (na C<|nR<|sE ((aS<|qC (k) 2):k / 2<=k)) Y)<|qC (k) 2)<|nR<|sE ((aS<|qC (k) 2):k / 2<=k)) Y))) (by (show (xg<|sE ((aS<|qC (k) 2):k / 2<=k)))) ?_)
    show sb (iN _<|by ext)<|PJ L k: ∃a b,1<=a/\1<=b/\a+b=k/\((L:Int)+((L+k:Nat):Int)).fdiv (2^Int.toNat 1)=((L+a:Nat):Int)) λa b o hb A M=>?_
   have s:n*a+n*b=n*k:=by rw[<-A,FE]
   have g:ib (((L+a:Nat):Int) - L)+ib (n:Int)<=134217728:=by have h:=gB (x:=((L+a:Nat):Int) - L) (bR<|oL o)<|bN (ni (ni (ni (oL U)<|oL Q)<|oL hb)<|oL<|nL A)<|oZ L;have t:=gB (cT _)<|bN (oL N)<|oL (fO n C:n*1<=n*k);show bO (kI ‹_› ‹_›) (by ext)
   have v:=HN n ((ds.drop<|L+a).take b) λd hd=>R d<|List.mem_of_mem_drop<|List.mem_of_mem_take hd;rw[(by (erw[yb];erw[BN]);show (gO ((bB (na (nL A) U)<|nR<|sE ((bB U<|nL A):L+a<=ds.length)):b<=ds.length - (L+a))):((ds.drop<|L+a).take b).length=b)] at v;have g2:=pY v.1 v.2;have H:=i a (bB hb<|nL A) m (bB (na hl hb)<|nL A) o L n ds (th n (ds.map aB) L (L+k:Nat) (L+a:Nat) (n*a:Nat)) (bB U<|nL A) Q hn (bB N<|nL s) R rfl rfl rfl;have B:=i b (bB o<|nL A) m (bB (na hl o)<|nL A) hb (L+a) n ds (th n (ds.map aB) L (L+k:Nat) (L+a:Nat) (n*a:Nat)) (bB U<|nL A) Q hn (bB N<|nL s) R rfl rfl rfl;rw[sz,A] at B;have:(ds.drop L).take k=(ds.drop L).take a++(ds.drop<|L+a).take b:=dA A<|sb List.take_add<|sb List.drop_drop rfl
   rw[this,zW,(by (erw[yb];erw[BN]);show (gO ((bB (na (nL A) U)<|nR<|sE ((aS U):L<=ds.length)):a<=ds.length - L)):((ds.drop L).take a).length=a),ye,kO];show QDX Z r1 r2 ((λW=>((rK c).elim (λu=>(dC C u)) λu=>(gX (oL u)<|iR W)))) M (by rw[Jz,ye,SF,<-QHk,wF]:(((L+a:Nat):Int) - L)*n=((n*a:Nat):Int)) g (cT _) (bN (ni g2<|oL N)<|oL<|nL s) B H
theorem QBh (L:Nat) {ds:List Int} (hl:ds.length<=L) (h:ds.length<=256) (hn:1<=n) (N:n*ds.length<=30000000) (R: ∀d∈ds,0<=d/\d<2^n):(aY<|L+1).F 6 [aK<|ds.map aB,aB n] (aB<|undig n ds):=by
 show fu ?_ rfl;induction ds with
 |nil=>show d5 B4 2 [.b aD,.b aD] (aY L) [aK [],aB n] _ rfl (.lst .d<|iz _) ff .ret
 |cons d ds=>have m:((d::ds).map aB).length=(d::ds).length:=cp ..;have K:=QDq (d::ds).length L hl (RH<|iz _) 0 n (d::ds) [(0,aQ<|aK<|(d::ds).map aB),(1,aQ<|aB n),(2,.clo 2)] (by simp+arith) h hn N R rfl rfl rfl;rw[v9,SI,vv<|cY _,<-m] at K;show d5 B4 2 [.b aC,.b aC,hi ((d::ds).map aB).length,.c (aB<|undig n<|d::ds) [(0,aQ<|aK<|(d::ds).map aB),(1,aQ<|aB n),(2,.clo 2)]] (aY L) [aK<|(d::ds).map aB,aB n] _ rfl (.lst .d (by erw[m];show bO ‹_› (dI _ _))) tt (.oo (.l .d) (by erw[m];show fq ‹_› (by ext))) K .ret
end B01
noncomputable def ldiv (n:Nat) (b:Int):List Int->Int->List Int×Int
 |[],r=>([],r)
 |d::ds,r=>((r*2^n+d) / b::(ldiv n b ds<|(r*2^n+d) % b).1,(ldiv n b ds<|(r*2^n+d) % b).2)
theorem CG {b:Int} {r}:ldiv n b [] r=([],r):=rfl
theorem y5 {b:Int} {d ds r}:ldiv n b (d::ds) r=((r*2^n+d) / b::(ldiv n b ds<|(r*2^n+d) % b).1,(ldiv n b ds<|(r*2^n+d) % b).2):=rfl
theorem L9 (n:Nat) (b:Int): ∀ds r,(ldiv n b ds r).1.length=ds.length:=by
 intro O;induction O with
 |nil=>show λO=>rfl
 |cons d ds i=>show λr=>by simp only[CG,y5];simp[i]
theorem UA {x d P u b q t e r':Int} (H:x*P+u=q*b+r') (h:d=t*b+x):d*P+u=(P*t+q)*b+r':=by
 erw[h]
 grind
theorem Yo (n:Nat) {b:Int} (hb:0<b) (fE:b<=2^n): ∀ds r,(∀d∈ds,0<=d/\d<2^n)->0<=r->r<b->
 r*2^(n*ds.length)+undig n ds.reverse=undig n (ldiv n b ds r).1.reverse*b+(ldiv n b ds r).2/\0<=(ldiv n b ds r).2/\(ldiv n b ds r).2<b/\ ∀q∈(ldiv n b ds r).1,0<=q/\q<2^n:=by
 intro O;induction O with
 |nil=>show λr O h0 H=>by simp[CG,y5,DK,sY,h0,H]
 |cons d ds u=>
  show λr hd h0 H=>by
   have R:=eJ n;show bP (hd d<|.head _) λW d1=>?_;have x0:=lU (r*2^n+d)<|gG hb;have x1:=kr (r*2^n+d) hb;show fR (u _ (λq h=>hd q<|.tail _ h) x0 x1) λi1 t i g=>?_;rw[y5];have Q:0<=r*2^n:=oU h0<|cR R;have c:(r+1)*2^n<=b*2^n:=oV (by assumption)<|cR R;show (mA ?_ t i ?_)
   ·have e:=ku (r*2^n+d) b
    simp only[BA,BA,zW,zW,jd,ux,BE,BE,L9];simp only[DK,sY];generalize hP:(2:Int)^(n*ds.length)=P at*;generalize (2:Int)^n=N at*;generalize Y:(r*N+d) % b=y at*;generalize Z:(r*N+d) / b=z at*;have:=UA (e:=0) i1 (by erw[kO z b];show e.symm:r*N+d=z*b+y)
    grind
   ·intro q h
    rcases dR.mp h with rfl|h
    ·show ⟨tJ (BU ‹_› ‹_›)<|cR hb,ue hb (by grind:r*2^n+d<2^n*b)⟩
    ·show g q h
namespace B01
section
variable {o:dn} {a b z y d:Int} {n:Nat} {D qs:List aM} {r:Int} {t:Option (Int×Int)} {K:Fl->Ls->Prop} {xs:List aM}
def uK (a b n:Int) (D qs:List aM) (r:Int) (t:Option (Int×Int)):Ls:=(0,aQ<|aB a)::(1,aQ<|aB b)::(2,aQ<|aB n)::(3,aQ<|aK D)::(4,aQ<|aB r)::(5,bg qs)::match t with|none=>[]|some p=>vs 6 [p.1,p.2]
theorem V_ (H:o.F 3 [aB<|r*2^n+d,aB b,aB n] (bw [aB z,aB y])) (g:(ib r:Int)+n<=134217728) (g2:qs.length<16777216) (h:fW xS (wc.map SW.w) o xs (uK a b n D (qs++[aB z]) y<|aA (d,z)) K):
 fW xS (wc.map SW.w) o (aB d::xs) (uK a b n D qs r t) K:=by
 have N:=cT n;induction t with
 |none=>show ej xS wc o [.d<|bw [aB z,aB y]] (aB d) xs (uK a b n D qs r aE) K N g H g2 h
 |some p=>show ej xS wc o [.d<|bw [aB z,aB y]] (aB d) xs (uK a b n D qs r<|aA p) K N g H g2 h
theorem Z4 (hb:0<b) (fE:b<=2^n) (hn:n<=30000000) (Q: ∀a,0<=a->a<b*2^n->o.F 3 [aB a,aB b,aB n] (bw [aB<|a / b,aB<|a % b])):
 ∀(ds:List Int) (r:Int) (qs:List aM) (t:Option (Int×Int)),(∀d∈ds,0<=d/\d<2^n)->0<=r->r<b->qs.length+ds.length<=1000->
  ∃t',∀K,K dE (uK a b n D (qs++(ldiv n b ds r).1.map aB) (ldiv n b ds r).2 t')->fW xS (wc.map SW.w) o (ds.map aB) (uK a b n D qs r t) K:=by
 intro O;induction O with
 |nil=>show λr qs t hd h0 H hl=>⟨t,λK h=>by simp only[CG,y5,rJ,lQ] at h;show h⟩
 |cons d ds i=>show λr qs t hd h0 H hl=>by have N:=eJ n;have x:=(hd d<|.head _);have W:=x.1;have d1:=x.2;have R:=oV H<|cR N;simp only[Jw,kq] at R;have L:=Q (r*2^n+d) (BU (oU h0<|cR N) W)<|bN d1 R;have g:=pY h0<|R9 H fE;dsimp only[jd] at hl;obtain ⟨t',Z⟩:=i _ (qs++[aB<|(r*2^n+d) / b]) (aA (d,(r*2^n+d) / b)) (λq h=>hd q<|.tail _ h) (lU _<|gG hb) (kr _ hb) (by simp only[i4];show (?_);show aS hl);show ⟨t',λK h=>V_ L (by show bN (ni (oL hn)<|oL hn) g) (aS hl)<|Z K ?_⟩;dsimp only[CG,y5,dg] at h;simp only[nI];show h
end
theorem UB (L:Nat) (B:300<=L) {a b:Int} (A:0<=a) (hb:0<b) (hn:ib b<=100000) (K:fV (ib b) a<=250):
 (aY<|L+1).F 7 [aB a,aB b] (bw [aB<|a / b,aB<|a % b]):=by
 obtain ⟨M,rfl⟩: ∃M,L=M+1:=⟨L - 1,by show (sE<|(aS B)).symm⟩;show bE (Cn hb) λm z=>?_;have l:=Wi (cR hb) z;have H:=WH (m:=ib b) (cR hb)<|yF _;have C: ∀r,j8 r .bits (.d<|aB b) []<|aB<|ib b:=λr=>.bits;generalize Y:ib b=n at*;have N:1<=n:=aS<|nR z
 have j:n*fV n a<=30000000:=bO (oH hn K) (by ext);have W:=Ad M A N (bB B K) (bO ‹_› (dI _ _)) j<|bO ‹_› (dI _ _);have P: ∀a,0<=a->a<b*2^n->(aY<|M+1).F 3 [aB a,aB b,aB n] (bw [aB<|a / b,aB<|a % b]):=λa h0 g=>QBl 5 M (aS B) a b n h0 N (by simp only[z,tS];show bN l l) H g (bO ‹_› (by ext))<|aS hn;have iB:=Yd n (fV n a) a;have u:=QAl n (fV n a) a A<|Fe N A;have e:=wL n (fV n a) a;generalize R:digs n (fV n a) a=ds at*;show fR (Yo n hb (cR H) ds.reverse 0 (λd h=>iB d<|Ew.mp h) (yF _) hb) λs i x Z=>?_;have s5:=L9 n b ds.reverse 0;show bE (Z4 (o:=aY<|M+1) (a:=a) (D:=ds.map aB) hb (cR H) (aS hn) P ds.reverse 0 [] aE (λd h=>iB d<|Ew.mp h) (yF _) hb (by simp only[tI,BE];show bB K<|nL e)) λt c=>?_;simp only[BV,RQ] at c;generalize (ldiv n b ds.reverse 0).1=qs at*;generalize (ldiv n b ds.reverse 0).2=y at*;simp only[List.reverse_reverse,u,Int.zero_mul,JQ] at s;show bP (mh hb s i x) λe1 e2=>?_;have Q:qs.length=fV n a:=by simp only[s5,BE,e]
 have q:qs.reverse.length=fV n a:=by simp only[BE,Q]
 have U:=QBh M (ds:=qs.reverse) (n:=n) (bB (na B K)<|nL q) (bB K<|nL q) N (by erw[q];show j) λd h=>Z d<|Ew.mp h;rw[RQ] at U;have v:(qs.map aB).length<=16777216:=by rw[cp];show bB K<|nL Q
 simp only[e1,e2];show fu ?_ rfl;induction t with
 |none=>show d5 b_divmod_pos 2 [hi n,hl<|ds.map aB,.f dE<|uK a b n (ds.map aB) (qs.map aB) y aE,hi<|undig n qs.reverse] (aY<|M+1) [aB a,aB b] _ rfl (C _) W c v U .ret
 |some p=>show d5 b_divmod_pos 2 [hi n,hl<|ds.map aB,.f dE<|uK a b n (ds.map aB) (qs.map aB) y<|aA p,hi<|undig n qs.reverse] (aY<|M+1) [aB a,aB b] _ rfl (C _) W c v U .ret
theorem ti (L:Nat) (l:310<=L) {a b:Int} (B:b≠0) (hn:ib b<=100000) (C:ib a<=100*ib b):
 (aY<|L+1).F 8 [aB a,aB b] (bw [aB<|a.fdiv b,aB<|a.fmod b]):=by
 have pos: ∀L,300<=L-> ∀x y,0<=x->0<y->ib y<=100000->ib x<=101*ib y->(aY<|L+2).F 8 [aB x,aB y] (bw [aB<|x / y,aB<|x % y]):=λL l x y o Y t R=>by show bE (Cn Y) λm j=>?_;have s:=UB L l o Y t<|Nat.le_of_lt_succ<|(Nat.div_lt_iff_lt_mul<|aS<|nR j).mpr<|bB R<|nR j;show fu (d5 Dx 2 [.b aD,.b aD,.b aD,.d<|bw [aB<|x / y,aB<|x % y]] _ [aB x,aB y] _ rfl (beq_eq_false_iff_ne.mpr<|gG Y) (df<|pb.mpr<|cR Y) (df<|pb.mpr o) s .ret) rfl
 have neg: ∀L,301<=L-> ∀x y,0<y->ib y<=100000->ib x<=100*ib y->(aY<|L+2).F 8 [aB x,aB y] (bw [aB<|x / y,aB<|x % y]):=λL l x y Y t R=>by
  show bE (Cn Y) λm j=>?_;rcases Ju x 0 with c|c
  ·obtain ⟨M,rfl⟩: ∃M,L=M+1:=⟨L - 1,by show (sE<|(aS l)).symm⟩
   have q:ib (-x - 1)<=ib x+1:=by show pT.mpr ?_;have:=pT.mp<|cY<|ib x;simp only[FD];show (oM<|bN (ni (ni (mI 2<|oL this)<|iL<|FF ((bR c):0<= -x - 1))<|mI 2<|iR<|SJ ((bR c):x<=0)) c)
   have K:=pos M (FG ‹_›) (-x - 1) y (bR c) Y t<|bB (na R<|nR j) q;show bP (kbt_below x Y) λe2 e=>sb e2<|sb e<|sb (by simp+arith:y - 1 - (-x - 1) % y=y+(-((-x - 1) % y) - 1))<|fu (d5 Dx 2 [.b false,.b false,.b true,.d<|Dat.tuple [Dat.int<|(-x - 1) / y,Dat.int<|(-x - 1) % y]] _ [Dat.int x,Dat.int y] _ rfl (beq_eq_false_iff_ne.mpr<|Int.ne_of_gt Y) (df<|Int.not_lt.mpr<|Int.le_of_lt Y) (dt c) K .ret) rfl
  ·show pos L (s7 ‹_›) x y c Y t<|aS R
 obtain ⟨M,rfl⟩: ∃M,L=M+2:=⟨L - 2,by show (sE<|(aS l)).symm⟩;rcases Ju b 0 with c|c
 ·have i: ∀z,ib (-z)=ib z:=λz=>by simp[ib,I8]
  have K:=neg M (aS l) (-a) (-b) (bR c) (by rw[i];show hn) (by rw[i,i];show C);have e1: -a / -b=a.fdiv b:=dA (R8 _<|bR c)<|Int.neg_fdiv_neg a b
  have e2: -(-a % -b)=a.fmod b:=by
   have h:=ku (-a) (-b);have H:=QHq a b;simp only[e1] at h
   grind
  show dA e1<|dA e2<|fu (d5 Dx 2 [.b false,.b true,.d<|Dat.tuple [Dat.int (-a / -b),Dat.int (-a % -b)]] _ [Dat.int a,Dat.int b] _ rfl (beq_eq_false_iff_ne.mpr B) (dt c) K .ret) rfl
 ·have:=neg (M+1) (aS l) a b (((SM B).elim (λu=>(bN (ni c u) c)) λu=>u)) hn C
  show sb (iN _<|((SM B).elim (λu=>(bN (ni c u) c)) λu=>u))<|sb (m6 _<|by omega)<|this
end B01
theorem iT (a:Int) (h:0<n): ∃w:Nat,w<n/\a.fmod n=(w:Int):=by have q:=nO a<|pd.mpr ‹_›;have H:=BX a<|pd.mpr ‹_›;show (bJ ((a.fmod n).toNat) ((oM<|bN q<|iL<|oI (H:0<=a.fmod (↑n:Int))))<|(oI (H:0<=a.fmod (↑n:Int))).symm)
theorem QFL {k n:Nat} (h:k<n):vw (k:Int) n=aA k:=by dsimp only[vw];simp;show Qx h
section
variable {k:Int} {w:Nat}
theorem ic (h:xs[w]?=aA d) (K:k=w) (hl:(xs.length:Int)<2^63):cN r (.d<|aK xs) k d:=K▸ .seq (.l .d) hl (QFL (Ef.mp h).1) h
theorem jT {xs:List Int} {z:Int} (h:xs[w]?=aA z) (K:k=w) (hl:(xs.length:Int)<2^63):cN r (.d<|aK<|xs.map aB) k (aB z):=ic (by simp only[nM,h];rfl) K (by rw[cp];show hl)
theorem tX (h:x.cps[w]?=aA d) (K:k=w) (hl:x.length<2^63):cN r (.d<|aI x) k (aI ⟨#[d]⟩):=by
 show bE (Array.getElem?_eq_some_iff.mp h) λA i=>?_;have H:w<x.length:=A
 have e:Txt.item x k=⟨#[d]⟩:=by
  erw[K];have b:(w:Int)<x.length:=pd.mpr ‹_›
  have v: ¬ (w:Int)<0:=by simp+arith
  simp[Txt.item,Txt.charAt,vw,b,v,h]
 show e▸ .str (bN (iR K)<|oZ w) (bN (iL K)<|oL H) hl
theorem yq {a:Int} (h:a=w) (K:w<=1114111):cy r .chr [.d<|aB a] (aI ⟨#[w]⟩):=sb h<| .chr (Int.natCast_nonneg _)<|Int.ofNat_le.mpr ‹_›
end
theorem getD_some {α:Type} {xs:List α} {w:Nat} {d:α} (h:w<xs.length):xs[w]?=aA (xs.getD w d):=by simp only[BY,p8 h];rfl
namespace B01
theorem e_ (L:Nat) (i:Int):(aY L).b1 i=kV.contains i:=by induction L<;>rfl
theorem OK (L:Nat) (i:Int):(aY L).b3 i=uI i:=by induction L<;>rfl
noncomputable def oB:List Int:=[97,65,119808,119860,119912,120016,120172,120224,120276,120328,120380,120432]
def eZ (c w:Nat):Nat:=(oB.getD w 0).toNat+c - 97
theorem QCP: ∀w,w<12->65<=oB.getD w 0/\oB.getD w 0<=120432/\oB[w]?=aA (oB.getD w 0):=by decide
theorem Ft (L:Nat) {c:Nat} (H:97<=c) (i:c<=122) {W:Int} {w:Nat} (t:W.fmod 12=w) (h:w<12):(aY<|L+1).F 13 [aI ⟨#[c]⟩,aB W] (aI ⟨#[eZ c w]⟩):=eA (QCP w h) λK B b=>fu (d5 Pp 2 [.d<|aB<|oB.getD w 0,.d<|aB c,.d<|aI ⟨#[eZ c w]⟩] _ [aI ⟨#[c]⟩,aB W] _ rfl ff (jT b t<|by ext) (.ord rfl) (yq (by unfold eZ;show (nF (bN (oL<|nR<|sE ((aS H):97<=(oB.getD w 0).toNat+c))<|iR<|oI ((bR K):0<=oB.getD w 0))<|bN (oL<|nL<|sE ((aS H):97<=(oB.getD w 0).toNat+c))<|iL<|oI ((bR K):0<=oB.getD w 0))) (by unfold eZ;show (oM<|bN (ni (ni (oL<|yX ((oB.getD w 0).toNat+c)<|97)<|iL<|oI ((bR K):0<=oB.getD w 0))<|oL i) B))) .ret) rfl
noncomputable def sI:List Int:=[173,847,6150,6155,6156,6157,8203,8204,8205,8288,65279]
def f6 (w:Nat):Nat:=if w<11 then (sI.getD w 0).toNat else 65013+w
theorem QFf: ∀w,w<11->0<=sI.getD w 0/\sI.getD w 0<=65279/\sI[w]?=aA (sI.getD w 0):=by decide
theorem Gv (L:Nat) {W:Int} {w:Nat} (t:W.fmod 27=w) (h:w<27):(aY<|L+1).F 14 [aB W] (aI ⟨#[f6 w]⟩):=by
 by_cases c:w<11
 ·show eA (QFf w c) λH B N=>?_
  have e:f6 w=(sI.getD w 0).toNat:=QIg c;show fu (d5 H3 1 [.b aC,.d<|aB<|sI.getD w 0,.d<|aI ⟨#[f6 w]⟩] _ [aB W] _ rfl ff (dt<|(bN (iL t)<|oL c)) ff (jT N t<|by ext) (yq ((nF (bN (oL<|nR e)<|iR<|oI (H:0<=sI.getD w 0))<|bN (oL<|nL e)<|iL<|oI (H:0<=sI.getD w 0)))<|by lia -abstractProof) .ret) rfl
 ·have e:f6 w=65013+w:=QIf c
  show fu (d5 H3 1 [.b aD,.d<|aI ⟨#[f6 w]⟩] _ [aB W] _ rfl ff (df λK=>gX (ni K<|iR t)<|oL<|fJ c) ff (yq (nF (bN (iL t)<|oL<|nR e)<|bN (iR t)<|oL<|nL e)<|by (clear t;show bB h<|nL e)) .ret) rfl
noncomputable def tU:List Int:=[172,174,846,848,6149,6151,6154,6158,8202,8206,8287,8289,65278,65280,65023,65040,11,12,28,29,30,133,8232,8233]
def d8 (w:Nat):Nat:=(tU.getD w 0).toNat
theorem Zn: ∀w,w<24->0<=tU.getD w 0/\tU.getD w 0<=65280/\tU[w]?=aA (tU.getD w 0):=by decide
theorem HZ (L:Nat) {W:Int} {w:Nat} (t:W.fmod 24=w) (h:w<24):(aY<|L+1).F 15 [aB W] (aI ⟨#[d8 w]⟩):=eA (Zn w h) λK B b=>fu (d5 QI 1 [.d<|aK<|tU.map aB,.d<|aB<|tU.getD w 0,.d<|aI ⟨#[d8 w]⟩] _ [aB W] _ rfl (.add .d .d<|by ext) ff (jT b t<|by ext) (yq (by unfold d8;show (oI (K:0<=tU.getD w 0)).symm) (by unfold d8;lia -abstractProof)) .ret) rfl
def vf (k:Nat):Str:=match uI k with
 |.str s=>s
 |_=>cQ ⟨#[k]⟩
theorem DG (L:Nat) (k:Nat):(aY<|L+1).F 10 [aI ⟨#[k]⟩] (fI<|kV.contains (k:Int)):=by have:=d5 Ol 1 [hi k] (aY L) [aI ⟨#[k]⟩] _ rfl (.ord rfl) .ret;simp only[e_] at this;show fu this rfl
theorem Nz (L:Nat) (k:Nat):(aY<|L+1).F 11 [aI ⟨#[k]⟩] (aI<|vf k):=by
 show fu ?_ rfl;have B:(∃s,uI k=aI s)\/uI k=br:=by unfold uI;induction b3.lookup (k:Int) with|none=>show .inr rfl|some s=>show .inl ⟨s,rfl⟩
 unfold vf;rcases B with ⟨s,B⟩|B
 ·have e:=(OK L k).trans B
  have:=d5 HH 1 [hi k,.b aD,.b aC] (aY L) [aI ⟨#[k]⟩] _ rfl (.ord rfl) (by simp only[e];show nofun) tt .ret;simp only[e] at this;show sb B<|this
 ·have e:=(OK L k).trans B
  show sb B<|d5 HH 1 [hi k,.b true,.b false,ht<|Txt.lower ⟨#[k]⟩] (aY L) [Dat.str ⟨#[k]⟩] _ rfl (.ord rfl) e ff (.lower<|Nat.le_of_ble_eq_true rfl) .ret
noncomputable def DO:List Nat:=[97,118,119,112,110,109,107]
theorem zF: ∀c∈DO,∀w,w<12->kV.contains (eZ c w:Int)=aD/\vf (eZ c w)=⟨#[c]⟩/\65<=eZ c w:=by decide+kernel
theorem z8: ∀w,w<27->kV.contains (f6 w:Int)=aC/\65<=f6 w:=by decide+kernel
theorem GL: ∀w,w<24->kV.contains (d8 w:Int)=aD/\d8 w≠10/\d8 w≠13/\d8 w≠46:=by decide+kernel
noncomputable def oh (k:Nat):Dat:=aI ⟨#[k]⟩
def w6 (d:aM):Option Dat:=match d with
 |.str s=>if kV.contains (s.cps.getD 0 0:Int) then aE else aA (aI<|vf<|s.cps.getD 0 0)
 |_=>aE
theorem FW {k:Nat} (h:kV.contains (k:Int)=aC):w6 (oh k)=none:=QIg h
theorem EI {k:Nat} (h:kV.contains (k:Int)=aD) (e:vf k=s):w6 (oh k)=aA (aI s):=(QIf (by (erw[(rfl:((#[k].getD 0 0:Nat))=k)];erw[h]);show nofun)).trans (by erw[<-e];rfl)
theorem QEM (L k:Nat) (d:aM):CE (cZ 11 [aU]).w bh [(TW.gK aD aD<|cZ 10 [aU]).w] (aY<|L+1) [(0,aQ d),(201,.unb)] (oh k) (w6<|oh k):=λx K h=>by
 have H:=DG L k;induction hb:kV.contains (k:Int) with
 |true=>rw[hb] at H;rw[FW hb] at h;show cu (cZ 11 [aU]) bh [.gK aD aD<|cZ 10 [aU]] (aY<|L+1) [.d<|fI aC,.b aD,.b aD] [(0,aQ d),(201,.unb)] (oh k) x K H ff rfl ff h
 |false=>rw[hb] at H;rw[EI hb rfl] at h;show cu (cZ 11 [aU]) bh [.gK aD aD<|cZ 10 [aU]] (aY<|L+1) [.d<|fI aD,.b aC,.b aC,ht<|vf k] [(0,aQ d),(201,.unb)] (oh k) x K H tt rfl tt (Nz L k) rfl h
theorem Nt (L:Nat) (hl:(sF s).length<=16777216) (t:(sF s).filterMap w6=ts.map aI) (j:wA ⟨#[]⟩ ts):(aY<|L+2).F 17 [aI s] (aI<|Jc ⟨#[]⟩ ts):=fu (d5 Mh 1 [.ds<|ts.map aI,ht<|Jc ⟨#[]⟩ ts] (aY<|L+1) [aI s] _ rfl hl (λK h=>Ua (λd Y=>by show aT (gQ.mp Y) λc O e=>?_;erw[<-e];show QEM L c<|aI s) K (by simp only[t];show h)) (.join .d j) .ret) rfl
noncomputable def bK (b:Nat):Nat:=[112,110,109,107].getD b 0
noncomputable def lK (l:Nat):Nat:=[97,118,119].getD l 0
noncomputable def tp (b l:Nat):Nat:=[13184,13236,13242].getD l 0+[0,1,3,4].getD b 0
def qR (b l:Nat):Str:=⟨#[bK b,lK l]⟩
theorem Ml: ∀b,b<4-> ∀l,l<3->kV.contains (tp b l:Int)=aD/\vf (tp b l)=qR b l/\tp b l<=1114111:=by decide+kernel
theorem tc:(∀b,b<4->bK b∈DO)/\(∀l,l<3->lK l∈DO):=by decide
theorem H7: ∀c∈DO,97<=c/\c<=122:=by decide
theorem By: ∀b,b<4->(#[112,110,109,107]:Array Nat)[b]?=aA (bK b)/\([0,1,3,4]:List Int)[b]?=aA (([0,1,3,4].getD b 0:Nat):Int):=by decide
theorem AW: ∀l,l<3->(#[97,118,119]:Array Nat)[l]?=aA (lK l)/\([13184,13236,13242]:List Int)[l]?=aA (([13184,13236,13242].getD l 0:Nat):Int):=by decide
inductive Fm (b l:Nat):aN->Prop
 |sq {w}:w<27->Fm b l ⟨#[tp b l,f6 w]⟩
 |two {v w}:v<12->w<27->Fm b l ⟨#[eZ (bK b) v,f6 w,eZ (lK l) v]⟩
theorem xh {x y z:aN} (h:x++y=z) (hl:iF (x.length+y.length) 16777216=aC):d7 r bV (.d<|aI x) (.d<|aI y) (aI z):=h▸ .cat (cn hl)
theorem Vm (L:Nat) {b l:Nat} (hb:b<4) (hl:l<3) (W:Int): ∃s,(aY<|L+2).F 16 [aB b,aB l,aB W] (aI s)/\Fm b l s:=by
 have hd:=Int.emod_two_eq W;show aT (iT (W.fdiv 2) (n:=12)<|by ext) λv P ev=>aT (iT (W.fdiv 2) (n:=27)<|by ext) λi M A=>aT (iT (W.fdiv 24) (n:=27)<|by ext) λY p e=>?_;have nl: ∀n:Int,(decide (0<n) && decide (n<1000000))=aC->lO W n=false:=λn h=>SN (by simp at h;show (oM<|bN (iL<|FF ((bR h.1):0<=n)) h.2));by_cases c:W.fmod 2=0
 ·show (bJ _ (fu (d5 Hl 3 [.b aC,hi ([13184,13236,13242].getD l 0:Nat),hi ([0,1,3,4].getD b 0:Nat),ht ⟨#[tp b l]⟩,ht ⟨#[f6 i]⟩,ht ⟨#[tp b l,f6 i]⟩] _ [aB b,aB l,aB W] _ rfl ff (QIi.mpr c) (jT (AW l hl).2 rfl (by ext)) (jT (By b hb).2 rfl (by ext)) (yq rfl (Ml b hb l hl).2.2) ff (nl 2 rfl) (Gv L A M) (xh rfl rfl) .ret) rfl)<|.sq M)
 ·have kb:=H7 _ (tc.1 b hb)
  have kl:=H7 _<|tc.2 l hl;show (bJ _ (fu (d5 Hl 3 [.b aD,ht ⟨#[bK b]⟩,ht ⟨#[eZ (bK b) v]⟩,ht ⟨#[f6 Y]⟩,ht ⟨#[eZ (bK b) v,f6 Y]⟩,ht ⟨#[lK l]⟩,ht ⟨#[eZ (lK l) v]⟩,ht ⟨#[eZ (bK b) v,f6 Y,eZ (lK l) v]⟩] _ [aB b,aB l,aB W] _ rfl ff (beq_eq_false_iff_ne.mpr c) (tX (By b hb).1 rfl (by ext)) ff (nl 2 rfl) (Ft L kb.1 kb.2 ev P) ff (nl 24 rfl) (Gv L e p) (xh rfl rfl) (tX (AW l hl).1 rfl (by ext)) ff (nl 2 rfl) (Ft L kl.1 kl.2 ev P) (xh rfl rfl) .ret) rfl)<|.two P p)
theorem UZ (L:Nat) {b l:Nat} (hb:b<4) (hl:l<3) (W:Int): ∃s,(aY<|L+2).F 16 [aB b,aB l,aB W] (aI s)/\(aY<|L+2).F 17 [aI s] (aI<|qR b l):=by
 show aT (Vm L hb hl W) λs h c=>(bJ s h ?_);clear h;induction c with
 | @sq w t=>
  have H:=Ml b hb l hl
  show Nt L (s:=⟨#[tp b l,f6 w]⟩) (ts:=[qR b l]) (cn rfl) (by
   show (?_:[oh<|tp b l,oh<|f6 w].filterMap w6=_);simp only[oK,EI H.1 H.2.1,oK,FW (z8 w t).1]
   rfl) rfl
 | @two v w P t=>
  have H:=zF _ (tc.1 b hb) v P;have Q:=zF _ (tc.2 l hl) v P
  show Nt L (s:=⟨#[eZ (bK b) v,f6 w,eZ (lK l) v]⟩) (ts:=[⟨#[bK b]⟩,⟨#[lK l]⟩]) (cn rfl) (by
   show (?_:[oh<|eZ (bK b) v,oh<|f6 w,oh<|eZ (lK l) v].filterMap w6=_);simp only[oK,EI H.1 H.2.1,oK,FW (z8 w t).1,oK,EI Q.1 Q.2.1]
   rfl) rfl
end B01
section
open PySem.StrLaws PySem.Builtin PySem.Builtin.Str
theorem ZO {s sub:aN} (W:1<=sub.length): ∀{c1 c2:List Nat} {a F f:Nat},ChainG s sub i a c1 F->(∀k,F<=k-> ¬ At s sub i k)->ChainG s sub i a c2 f->(∀k,f<=k-> ¬ At s sub i k)->c1=c2:=by
 intro c1;induction c1 with
 |nil=>
  show @λc2=>by
   induction c2 with
   |nil=>show λO O O O=>rfl
   |cons c r O=>show @λa F f A N H n=>QIe H.2.1 (N c (by have e:=A;have:=H.1;show bB (nL e) this))
 |cons c r z=>
  show @λc2=>by
   induction c2 with
   |nil=>show @λa F f A N H n=>QIe A.2.1 (n c (by have e:=H;have:=A.1;show bB (nL e) this))
   |cons d t O=>
    show @λa F f A N H n=>by
     have e:c=d:=by
      rcases Nat.lt_trichotomy c d with h|h|h
      ·show QIe A.2.1<|H.2.2.1 c A.1 h
      ·show h
      ·show QIe H.2.1<|A.2.2.1 d H.1 h
     show sb e<|congrArg (List.cons d)<|z A.2.2.2 N (e▸H.2.2.2) n
noncomputable def rowsOf (y:List Nat):List Nat->List (List Nat)->List Nat
 |r,[]=>r
 |r,r1::rs=>r++(y++rowsOf y r1 rs)
theorem Dp {y:List Nat} {r}:rowsOf y r []=r:=rfl
theorem Dk {y:List Nat} {r r1 rs}:rowsOf y r (r1::rs)=r++(y++rowsOf y r1 rs):=rfl
noncomputable def posn (w:Nat):Nat->List Nat->List (List Nat)->List Nat
 |_,_,[]=>[]
 |a,r,r1::rs=>(a+r.length)::posn w (a+r.length+w) r1 rs
theorem M1 {w:Nat} {u0 u1}:posn w u0 u1 []=[]:=rfl
theorem OI {w:Nat} {a r r1 rs}:posn w a r (r1::rs)=(a+r.length)::posn w (a+r.length+w) r1 rs:=rfl
theorem Oh {x y:aN} {cs:List Nat} (Y:y.cps.toList=c::cs) {k:Nat} (h:x.cps.toList[k]?≠aA c): ¬ At x y x.length k:=by
 rintro ⟨_,i⟩
 simp! only[subAt_eq,Y] at i
 have H:=eq_of_beq i;apply h;have:y.length=cs.length+1:=by have e:y.cps.toList.length=y.length:=mY;rw[Y] at e;show e.symm
 rw[this] at H;have b:=QIh (λl=>l[0]?) H;simpa -iota [List.getElem?_take] using b
theorem Wy {x y:aN} (M:x.cps.toList=pre++(y.cps.toList++post)):At x y x.length pre.length:=by
 have L:x.cps.toList.length=x.length:=mY;have l:y.cps.toList.length=y.length:=mY;show ⟨?_,?_⟩
 ·simp! only[<-L,M,i4,i4,l]
  simp+arith
 ·simp! only[subAt_eq,M,J0,<-l,SO]
  show QIj _
theorem QBI {x y:aN} {cs:List Nat} (Y:y.cps.toList=c::cs): ∀(rs:List (List Nat)) (r pre:List Nat),x.cps.toList=pre++rowsOf (c::cs) r rs->(∀q∈r::rs,c∉q)->
 ∃f,ChainG x y x.length pre.length (posn y.length pre.length r rs) f/\(∀k,f<=k-> ¬ At x y x.length k)/\partsFrom x y.length pre.length (posn y.length pre.length r rs)=(r::rs).map λq=>⟨q.toArray⟩:=by
 intro O;induction O with
 |nil=>
  show λr pre M F=>by
   have hl:x.cps.toList.length=x.length:=mY
   simp! only[Dp,Dk] at M
   show (fw pre.length rfl (λk C=>Oh Y ?_) ?_)
   ·show sb M<|sb (List.getElem?_append_right C) ?_
    intro h;show F r (.head _)<|BP h
   ·show (?_:[strSub x pre.length x.length]=_)
    have:strSub x pre.length x.length=⟨r.toArray⟩:=by
     have e:=strSub_toList x pre.length x.length;rw[<-hl,M,J0,vv<|by simp] at e
     have e2:(strSub x pre.length x.length).cps=r.toArray:=by
      apply SP.mp;show dA hl<|sb M ?_
      simpa -iota using e
     cases hs:strSub x pre.length x.length;simp! only[hs] at e2;show QIh SQ e2
    simp! only[this]
    rfl
 |cons r1 rs i=>
  show λr pre M F=>by
   have hl:x.cps.toList.length=x.length:=mY;have L:y.cps.toList.length=y.length:=mY
   simp! only[Dp,Dk] at M
   have m:x.cps.toList=(pre++r++(c::cs))++rowsOf (c::cs) r1 rs:=by simp! only[M];simp
   show eE (i r1 (pre++r++(c::cs)) m λq Q=>F q<|.tail _ Q) λf A p H=>?_;have U:(pre++r++(c::cs)).length=pre.length+r.length+y.length:=by (erw[<-L];erw[Y]);simp;simp+arith
   simp! only[U] at A H
   have a:At x y x.length (pre.length+r.length):=by have:=Wy (x:=x) (y:=y) (pre:=pre++r) (post:=rowsOf (c::cs) r1 rs) (by (erw[Y];erw[M]);simp);simpa -iota using this
   show ⟨f,(mA (jb _ _) a (λk K l=>Oh Y ?_) A),p,?_⟩
   ·show sb M<|sb (List.getElem?_append_right K) ?_
    erw[List.getElem?_append_left<|(bB (nL<|sE (K:pre.length<=k)) l)];intro h;show F r (.head _)<|BP h
   ·show (?_:strSub x pre.length (pre.length+r.length)::partsFrom x y.length (pre.length+r.length+y.length) (posn y.length (pre.length+r.length+y.length) r1 rs)=_)
    erw[H];have:strSub x pre.length (pre.length+r.length)=⟨r.toArray⟩:=by have e:=strSub_toList x pre.length<|pre.length+r.length;rw[M,J0,List.take_left'<|by simp+arith] at e;have e2:(strSub x pre.length<|pre.length+r.length).cps=r.toArray:=SP.mp (by simpa -iota using e);cases hs:strSub x pre.length (pre.length+r.length);simp! only[hs] at e2;show QIh SQ e2
    simp! only[this]
    rfl
theorem Mb {x y:aN} {cs:List Nat} (Y:y.cps.toList=c::cs) (M:x.cps.toList=rowsOf (c::cs) r rs) (F: ∀q∈r::rs,c∉q):
 occurrences x y 0 x.length (x.length+1)=posn y.length 0 r rs/\partsBetween x (occurrences x y 0 x.length<|x.length+1) y.length=(r::rs).map λq=>⟨q.toArray⟩:=by
 have l:y.cps.toList.length=y.length:=mY;have W:1<=y.length:=by (erw[<-l];erw[Y]);show Q2 _
 show eE (QBI Y rs r [] M F) λf A h H=>aT (occ_tight x y W) λg d K=>?_;have e:=ZO W d K A h;show ⟨e,?_⟩;rw[e,partsBetween_eq];show H
theorem Al {x y:aN} (h:x.cps.toList=y.cps.toList):x=y:=by
 induction x;induction y;show QIh SQ<|SP.mp h
theorem QCZ (M:x.cps.toList=a++c::b) (A:c∉a) (hb:c∉b):EX x ⟨#[c]⟩ ⟨#[]⟩=⟨(a++b).toArray⟩:=by
 have h:=Mb (x:=x) (y:=⟨#[c]⟩) (c:=c) (cs:=[]) rfl (r:=a) (rs:=[b]) (by erw[M];rfl) (by
  intro q Q;clear M;rcases dR.mp Q with rfl|Q
  ·show A
  ·show sb (oW.mp Q)<|hb)
 unfold EX;have e:(⟨#[c]⟩:aN).length=1:=rfl;rw[e] at h;show sb e<|sb h.2<|sb h.1<|sb (if_neg<|by simp -iota [M1,OI]) ?_
 apply Al;simp -iota [glued]
theorem QEQ (M:x.cps.toList=rowsOf [13,10] r (r1::rs)) (hf: ∀q∈r::r1::rs,13∉q):Txt.split x ⟨#[13,10]⟩=(r::r1::rs).map λq=>⟨q.toArray⟩:=by
 have h:=Mb (x:=x) (y:=⟨#[13,10]⟩) (c:=13) (cs:=[10]) rfl M hf;have hl:x.cps.toList.length=x.length:=mY;have e1:(⟨#[13,10]⟩:aN).length=2:=rfl;unfold Txt.split;rw[e1] at h;show sb e1<|sb h.2<|sb h.1 ?_
 have k:strKind ⟨#[13,10]⟩=1:=by decide+kernel
 have K:1<=strKind x:=by unfold PySem.Builtin.Str.strKind;split<;>(try split)<;>decide
 rw[if_neg,if_neg]
 ·simp -iota [M1,OI]
 ·show sb k<|dA hl<|sb M ?_
  simp -iota [Dp,Dk];show ⟨(by simp+arith),(λW=>(dC K<|nL W))⟩
theorem Zu (M:x.cps.toList=t++[c]++bl) (C:BZ c=aD) (hb: ∀d∈bl,BZ d=aC):SR x=⟨(t++[c]).toArray⟩:=by
 have l:x.cps.toList.length=x.length:=mY;dsimp only[SR];rw[PySem.W.stripBy_eq];dsimp only[PySem.W.stripped];apply Al
 simp! only[rB,QIn,if_true,strSub_toList,SI]
 show sb M<|sb List.reverse_append<|sb List.reverse_append ?_
 have e:(bl.reverse++([c].reverse++t.reverse)).takeWhile BZ=bl.reverse:=by erw[List.takeWhile_append_of_pos (by intro d Y;show hb d<|Ew.mp Y)];simp -iota [C]
 have n:(t++[c]++bl).length - bl.reverse.length=(t++[c]).length:=sb i4<|sb List.length_reverse<|Nat.add_sub_cancel _ _
 rw[e,<-l,M,Aw,n,SO]
theorem IF {x:aN} (A:a<=b) (hb:b<=x.length):ja x (aA a) (aA b)=⟨((x.cps.toList.drop a).take<|b - a).toArray⟩:=by
 have h:=QId (x:=x) (i:=a) (j:=b) (cT _) (su.mpr ‹_›)<|su.mpr ‹_›;have:=eq_of_beq h;erw[this]
 congr 4
 show (mQ (oM<|bN (oL<|nR<|sE (A:a<=b))<|iL<|oI ((bR<|oL A):0<=(↑b:Int) - (↑a:Int)))<|oM<|bN (oL<|nL<|sE (A:a<=b))<|iR<|oI ((bR<|oL A):0<=(↑b:Int) - (↑a:Int)))
theorem LL {x:aN} (hb:b<=x.length):ja x aE (aA b)=⟨(x.cps.toList.take b).toArray⟩:=by
 have h:ja x aE (aA b)=ja x (aA<|(0:Nat)) (aA b):=by unfold ja;rw[sliceIdx_none_lo];rfl
 show sb h<|sb (IF (Nat.zero_le _) hb) ?_
 rfl
theorem Ox {x:aN} (A:a<=x.length):ja x (aA a) aE=⟨(x.cps.toList.drop a).toArray⟩:=by
 have h:ja x (aA a) aE=ja x (aA a) (aA (x.length:Nat)):=by unfold ja;rw[sliceIdx_none_hi]
 have l:x.cps.toList.length=x.length:=mY;show sb h<|sb (IF A<|Nat.le_of_eq ‹_›)<|sb (List.take_of_length_le<|by simp -iota [l]) rfl
theorem We {x:aN} (h:1<=x.length):ja x aE (aA (-1))=⟨(x.cps.toList.take<|x.length - 1).toArray⟩:=by
 have e:ja x aE (aA (-1))=ja x aE (aA<|(x.length - 1:Nat)):=by unfold ja;show sb (sliceIdx_neg_hi _ _ (cT _)<|bR<|oL h)<|sb ((Int.le_antisymm (bR<|oL<|nL<|sE (h:1<=x.length))<|bR<|oL<|nR<|sE (h:1<=x.length)):((x.length - 1:Nat):Int)= -1+x.length) rfl
 show sb e<|sb (LL<|(aS<|nL<|sE (h:1<=x.length))) rfl
theorem YN (h:1<=x.length):ja x (aA (-1)) aE=⟨(x.cps.toList.drop<|x.length - 1).toArray⟩:=by
 have e:ja x (aA (-1)) aE=ja x (aA<|(x.length - 1:Nat)) none:=by unfold ja;show sb (sliceIdx_neg_lo _ _ (cT _)<|bR<|oL h)<|sb ((Int.le_antisymm (bR<|oL<|nL<|sE (h:1<=x.length))<|bR<|oL<|nR<|sE (h:1<=x.length)):((x.length - 1:Nat):Int)= -1+x.length) rfl
 show sb e<|sb (Ox<|Nat.sub_le _ _) rfl
end
section
open PySem.NumText
theorem QBM (x y:aN):(x++y).cps.toList=x.cps.toList++y.cps.toList:=QHD
noncomputable def fc (n:Nat):List Nat:=(Nat.toDigits 10 n).map Char.toNat
theorem Mz (n:Nat):E7 (toString (n:Int))=⟨(fc n).toArray⟩:=Al (by simp only[KIN.signs_num];rfl)
theorem DX (h:n<10^10):AllDigits (fc n)/\fc n≠[]/\(fc n).length<=10/\digitsVal (fc n)=n:=by
 have hl:=KT.len_num (n:=(n:Int)) (by simp+arith)<|bR<|oL h;rw[Mz] at hl;show (mA ?_ ?_ ?_<|KIN.val_back n)
 ·intro c W
  show aT (gQ.mp W) λH C e=>?_;have r:=digit_range (Nat.isDigit_of_mem_toDigits (by ext) (by ext) C);show dA e<|r
 ·intro e
  have v:=KIN.val_back n;have h:=toDigits_len_ge 10 n;rw[SS.mp e] at h;show QIe h (by ext)
 ·simpa[Str.length] using hl
def jL (n:Nat) (bl:List Nat):Str:=⟨([48,95]++fc n++bl).toArray⟩
namespace B01
theorem TB (R:aR l 0=aQ (aI x)) (r1:aR l 1=aQ (aB 2048)) (r2:aR l 2=.clo 0) (r:aR l 3=eC):vE 0 [0,1,2,3] aE l=[(0,aQ<|aI x),(1,aQ<|aB 2048),(2,.clo 0),(3,eC)]:=by show (?_:[(0,kx 0 aD<|aR l 0),(1,kx 0 aD<|aR l 1),(2,kx 0 aD<|aR l 2),(3,kx 0 aD<|aR l 3)]=_);simp only[R,r1,r2,r];rfl
theorem QFe (L:Nat) {n:Int} (hl:x.length<=640) (M:QHr x=aA n):(aY<|L+2).F 1 [aI x] (aB n):=by
 have s:ja x (aA 0) (aA x.length)=x:=by have:=IF (x:=x) (iz _)<|cY _;simp only[SI,Aw,vv (pZ mY:x.cps.toList.length<=x.length),Array.toArray_toList] at this;show this
 have C: ∀r,fx r (.d<|aI x) (.d<|aB 0) (.d<|aB x.length) (.d br)<|aI x:=λr=>by have:=fx.str (r:=r) (x:=x) (.int (i:=0)) (.int (i:=x.length))<|bO ‹_› (dI _ _);rwa[s] at this
 have K:(aY<|L+1).L 0 [aB 0,aB x.length] [(0,aQ<|aI x),(1,aQ<|aB 2048),(2,.clo 0),(3,eC)] (aB n) [(0,aQ<|aI x),(1,aQ<|aB 2048),(2,.clo 0),(3,eC)]:=.a rfl (zo KH [.b aC,ht x,hi n] (aY L) 0 [200,201] [0,1,2,3] aE [aB 0,aB x.length] [(0,aQ<|aI x),(1,aQ<|aB 2048),(2,.clo 0),(3,eC)] [(0,aQ<|aI x),(1,aQ<|aB 2048),(2,.clo 0),(3,eC)] (aB n) _ rfl (TB rfl rfl rfl rfl) rfl (dt<|su.mpr<|bO ‹_› (by ext)) (C _) (.vA hl M) .ret .none);show fu (d5 Cr 1 [hi x.length,hi x.length,.c (aB n) [(0,aQ<|aI x),(1,aQ<|aB 2048),(2,.clo 0),(3,eC)]] (aY<|L+1) [aI x] _ rfl (.kX<|fq ‹_› (by ext)) (su.mpr<|bO ‹_› (by ext)) (cT _) (.kX<|aS hl) K .ret) rfl
theorem QEy (L:Nat) (hn:n<10^10) (hb:bl∈[[],[32],[9],[9,32]]):(aY<|L+3).F 2 [aI<|jL n bl] (aB n):=by
 show fR (DX hn) λH i Q P=>?_;have B: ∀d∈bl,BZ d=true:=by simp only[dR,i5,or_false] at hb;rcases hb with rfl|rfl|rfl|rfl<;>decide+kernel
 have s:bl.length<=2:=by simp only[dR,i5,or_false] at hb;rcases hb with rfl|rfl|rfl|rfl<;>decide
 have g: ∀c,48<=c->c<=57->BZ c=false:=by
  intro c a b;have: ∀c,c<58->48<=c->BZ c=false:=by decide+kernel
  show this c (fq ‹_› (by ext)) a
 have e1:SR (jL n bl)=⟨([48,95]++fc n).toArray⟩:=by have N:=List.dropLast_concat_getLast i;have m:=H _<|List.getLast_mem i;generalize (fc n).dropLast=t at*;generalize (fc n).getLast i=c at*;have:=Zu (x:=jL n bl) (t:=[48,95]++t) (c:=c) (bl:=bl) (by show (?_:(([48,95]++fc n++bl).toArray).toList=_);erw[<-N];show (nI _ _ _)) (g c m.1 m.2) B;simp only[this,<-N];simp
 have e2:EX ⟨([48,95]++fc n).toArray⟩ ⟨#[95]⟩ ⟨#[]⟩=⟨(48::fc n).toArray⟩:=by have:=QCZ (x:=⟨([48,95]++fc n).toArray⟩) (c:=95) (a:=[48]) (b:=fc n) (by simp) (by ext) (by intro h;have:=H _ h;show n6 this.2);erw[this];rfl
 have v:(⟨(48::fc n).toArray⟩:aN).length<=640:=by show (?_:(48::fc n).toArray.size<=640);simp;show bO ‹_› (dI _ _)
 have e:QHr ⟨(48::fc n).toArray⟩=aA (n:Int):=by have:=intText_digits (x:=⟨(48::fc n).toArray⟩) (by intro c C;rcases dR.mp (by simpa using C) with rfl|C;simp+arith;show H c C) (by simp)<|Nat.le_trans ‹_› (Nat.le_add_left _ _);erw[this];have:digitsVal (48::fc n)=digitsVal (fc n):=rfl;simp only[this,P]
 have K:=QFe L v e
 have c0: ∀r,j8 r .rstrip (.d<|aI<|jL n bl) []<|aI ⟨([48,95]++fc n).toArray⟩:=λr=>e1▸ .rstrip (by
  show (?_:([48,95]++fc n++bl).toArray.size<=16777216);simp
  show bO (kI ‹_› ‹_›)<|by ext)
 have l:(⟨([48,95]++fc n).toArray⟩:aN).length<=4096:=by show (?_:([48,95]++fc n).toArray.size<=4096);simp;show bO ‹_› (dI _ _)
 rw[<-e2] at K;show fu (d5 PN 1 [ht ⟨([48,95]++fc n).toArray⟩,hi n] (aY<|L+2) [aI<|jL n bl] _ rfl (c0 _) l K .ret) rfl
end B01
end
section
open PySem.StrLaws
theorem QFE {a b:Nat}:ET (a:Int) (b:Int) 1=(cg<|b - a).map (λk=>a+k):=by
 dsimp only[ET]
 have e:(if (1:Int)>0 then (if (a:Int)<(b:Int) then ((b:Int) - a+1 - 1) / 1 else 0) else (if (a:Int)>(b:Int) then ((a:Int) - b - 1 - 1) / (-1) else 0)).toNat=b - a:=by
  rw[if_pos (by ext),QHi];by_cases h:(a:Int)<b
  ·rw[if_pos h,SF]
   show Int.toNat_sub b a
  ·rw[if_neg h]
   show (wC<|su.mp<|pb.mp h).symm
 erw[e];apply SU;intro k _;show (mQ (oM<|bR<|iL<|oI ((bN (oZ<|a)<|oZ<|k):0<=(↑a:Int)+1*(↑k:Int)))<|oM<|bR<|iR<|oI ((bN (oZ<|a)<|oZ<|k):0<=(↑a:Int)+1*(↑k:Int)))
theorem CK {xs:List aM} {a b:Nat} (e:mM l h aE xs.length=((a:Int),(b:Int),1)) (A:a<=b) (hb:b<=xs.length):pJ xs l h aE=(xs.drop a).take (b - a):=by unfold pJ;show sb e<|sb QFE<|picks xs (b - a) a (bB hb<|sL (by assumption:a<=b))
theorem ZX (xs:List aM):pJ xs aE aE aE=xs:=by erw[CK (by dsimp only[mM];rfl) (iz _)<|by simp+arith];simp
theorem DH (xs:List aM) (a:Nat):pJ xs (aA a) aE aE=xs.drop a:=by
 by_cases h:a<=xs.length
 ·show sb (CK (by dsimp only[mM];simp;show ND h) h<|by simp+arith)<|sb (List.take_of_length_le<|by simp) rfl
 ·erw[CK (a:=xs.length) (b:=xs.length) (by dsimp only[mM];simp;show Tb h) (by simp+arith)<|by simp+arith]
  simp! only[uf (aS (rG h):xs.length<=a),uf<|cY _,List.take_nil]
theorem QAK (xs:List aM) {b:Nat} (h:b<=xs.length):pJ xs aE (aA b) aE=xs.take b:=by erw[CK (by dsimp only[mM];simp;show ND h) (iz _) h];rfl
theorem oy {cs:List T} {α:Type} {g:α->aM} {f:α->Option aM}: ∀{xs:List α},(∀x∈xs,CE e t cs o l (g x)<|f x)-> ∀K,K (xs.filterMap f)->cW e t cs o l (xs.map g) K:=by
 intro xs;induction xs with
 |nil=>show λO K h=>h
 |cons x xs i=>
  show λq K h=>by
   show q x (.head _) _ K ?_;have i:=λK=>i (λy Y=>q y<|.tail _ Y) K
   simp! only[oK] at h
   induction c:f x with
   |none=>simp! only[c] at h;show i _ h
   |some y=>simp! only[c] at h;show i _ h
theorem rP {α β:Type} (c:α->Bool) (f:α->β) (xs:List α):xs.filterMap (λx=>if c x then aA (f x) else aE)=(xs.filter c).map f:=by
 induction xs with
 |nil=>rfl
 |cons x xs i=>
  simp! only[oK,tK]
  cases c x
  ·show i
  ·show QIh _ i
noncomputable def hP (p:aN×aN):Dat:=bw [aI p.1,aI p.2]
def x3 (ps:List (aN×aN)):Prop:= ∀p∈ps,p.1.length<=1000
section
theorem mj (h:x.length<=1000):j8 r .lower (.d<|aI x) [] (aI<|cQ x):=.lower (bO h<|by ext)
theorem CM:cN r (.d<|bw [a,b]) 0 a:=.seq .t (by change (2:Int)<2^63;decide) (rfl:_=aA 0) rfl
theorem QDo:cN r (.d<|bw [a,b]) 1 b:=.seq .t (by change (2:Int)<2^63;decide) (rfl:_=aA 1) rfl
theorem vL (b:Bool) (h:(x==y)=b):f9 r b9 (.d<|aI x) (.d<|aI y) b:=.str (by induction b;show .xI<|beq_eq_false_iff_ne.mp h;show .eqT<|QIi.mp h)
theorem nT (b:Bool) (h:(x !=y)=b):f9 r dT (.d<|aI x) (.d<|aI y) b:=.str (by
 induction b
 ·show .CP (Decidable.byContradiction λq=>by rw[bne_iff_ne.mpr q] at h;show vZ h)
 ·show .neT<|bne_iff_ne.mp h)
end
namespace B01
def qO (q:aN) (ps:List (aN×aN)):Dat:=match ps.find? (λp=>cQ p.1==q) with
 |some p=>aI p.2
 |none=>br
theorem Kr:qO q (p::ps)=bif cQ p.1==q then aI p.2 else qO q ps:=by
 unfold qO
 simp! only[E9]
 cases cQ p.1==q<;>rfl
def ml (H:List aM) (q:aN) (t:Option (aN×aN)):Ls:=(bC,bg H)::(0,jy)::(1,aQ<|aI q)::(2,aQ br)::match t with|none=>[]|some p=>[(3,aQ<|aI p.1),(4,aQ<|aI p.2)]
theorem Zc (o:dn) (H:List aM) (q:aN): ∀(ps:List (aN×aN)) (t:Option (aN×aN)),x3 ps->
 (∃s p,qO q ps=aI s/\ ∀K,K (ui<|aI s) (ml H q<|aA p)->fW (lV [3,4]) (rX.map SW.w) o (ps.map hP) (ml H q t) K)\/
 (∃t',qO q ps=br/\ ∀K,K dE (ml H q t')->fW (lV [3,4]) (rX.map SW.w) o (ps.map hP) (ml H q t) K):=by
 intro O;induction O with
 |nil=>show λt O=>.inr<|bJ t rfl (λK h=>h)
 |cons O ps e=>
  obtain ⟨x,y⟩:=O
  show λt l=>by
   have M:=l (x,y)<|.head _;erw[Kr];induction c:cQ x==q with
   |true=>
    show .inl<|eS y (x,y) rfl (λK h=>?_);induction t with
    |none=>show ej (lV [3,4]) rX o [ht<|cQ x,.b aC,.b aC] (hP (x,y)) (ps.map hP) (ml H q aE) K (mj M) (vL aC c) tt h
    |some p=>show ej (lV [3,4]) rX o [ht<|cQ x,.b aC,.b aC] (hP (x,y)) (ps.map hP) (ml H q<|aA p) K (mj M) (vL aC c) tt h
   |false=>
    have N: ∀K,fW (lV [3,4]) (rX.map SW.w) o (ps.map hP) (ml H q<|aA (x,y)) K->fW (lV [3,4]) (rX.map SW.w) o (hP (x,y)::ps.map hP) (ml H q t) K:=λK h=>by
     induction t with
     |none=>show ej (lV [3,4]) rX o [ht<|cQ x,.b aD,.b aD] (hP (x,y)) (ps.map hP) (ml H q aE) K (mj M) (vL aD c) ff h
     |some p=>show ej (lV [3,4]) rX o [ht<|cQ x,.b aD,.b aD] (hP (x,y)) (ps.map hP) (ml H q<|aA p) K (mj M) (vL aD c) ff h
    rcases e (aA (x,y)) (λp P=>l p<|.tail _ P) with ⟨s,p,A,i⟩|⟨t',A,i⟩
    ·show .inl<|eS s p A λK h=>N K<|i K h
    ·show .inr<|bJ t' A λK h=>N K<|i K h
theorem QFD (L:Nat) (hs:x3 ps) (hn:nm.length<=1000) (o:gU aC (cQ nm)=aC):(aY<|L+1).R 4 [aI nm] (ps.map hP) (qO (cQ nm) ps):=by
 show .get rfl ?_;rcases Zc (aY L) (ps.map hP) (cQ nm) ps aE hs with ⟨s,p,H,h⟩|⟨t,H,h⟩
 ·simp! only[H]
  show Aq b_get 3 [aQ br] [ht<|cQ nm,.f (ui<|aI s)<|ml (ps.map hP) (cQ nm)<|aA p] (aY L) [aI nm] (ps.map hP) _ rfl (mj hn) o h .ret
 ·erw[H]
  induction t with
  |none=>show Aq b_get 3 [aQ br] [ht<|cQ nm,.f dE<|ml (ps.map hP) (cQ nm) aE] (aY L) [aI nm] (ps.map hP) _ rfl (mj hn) o h .ret
  |some p=>show Aq b_get 3 [aQ br] [ht<|cQ nm,.f dE<|ml (ps.map hP) (cQ nm)<|aA p] (aY L) [aI nm] (ps.map hP) _ rfl (mj hn) o h .ret
def Qv (H:List aM) (q:aN) (w:List (Nat×Sl)):Ls:=(bC,bg H)::(0,jy)::(1,aQ<|aI q)::w
theorem QAM (L:Nat) (hs:x3 ps) (hl:ps.length<=1000) (hn:nm.length<=1000) (o:gU aC (cQ nm)=aC):(aY<|L+1).R 1 [aI nm] (ps.map hP) (aK<|(ps.filter λp=>cQ p.1==cQ nm).map λp=>aI p.2):=by
 show .all rfl ?_;rw[<-rP];generalize F:(λp:aN×aN=>if cQ p.1==cQ nm then aA (aI p.2) else aE)=f
 show Aq HS 2 [] [ht<|cQ nm,.ds<|ps.filterMap f] (aY L) [aI nm] (ps.map hP) _ rfl (mj hn) o (by rw[cp];show bO hl<|by ext)
  (λK h=>oy (λp P r K h=>by
   have x:=hs p P;rw[<-F] at h;induction c:cQ p.1==cQ nm with
   |true=>dsimp only at h;rw[c] at h;show cu (.bA aU<|aH 1) bh [bY b9 (.sm .lower (.bA aU<|aH 0) []) b8] (aY L) [ht p.1,ht<|cQ p.1,.b aC,.b aC,.b aC,ht p.2] (Qv (ps.map hP) (cQ nm) [(201,.unb)]) (hP p) r K CM (mj x) (vL aC c) tt rfl tt QDo rfl h
   |false=>
    dsimp only at h;rw[c] at h
    show cu (.bA aU<|aH 1) bh [bY b9 (.sm .lower (.bA aU<|aH 0) []) b8] (aY L) [ht p.1,ht<|cQ p.1,.b aD,.b aD,.b aD] (Qv (ps.map hP) (cQ nm) [(201,.unb)]) (hP p) r K CM (mj x) (vL aD c) ff rfl ff h) K h) .ret
theorem MN (L:Nat) (hs:x3 ps) (hl:ps.length<=1000) (hn:nm.length<=1000) (o:gU aC (cQ nm)=aC):(aY<|L+1).H 9 [aI nm] (ps.map hP) br ((ps.filter λp=>cQ p.1 !=cQ nm).map hP):=by
 show .del rfl ?_;have v:=ug (λp:aN×aN=>cQ p.1 !=cQ nm) ps;rw[<-rP];have F:=List.length_filterMap_le (λp:aN×aN=>if cQ p.1 !=cQ nm then aA (hP p) else aE) ps;generalize r:(λp:aN×aN=>if cQ p.1 !=cQ nm then aA (hP p) else aE)=f at*
 show tO Fb 2 [] [ht<|cQ nm,.ds<|ps.filterMap f] (aY L) [aI nm] (ps.map hP) _ _ rfl (mj hn) o (by rw[cp];show bO hl<|by ext)
  (λK h=>oy (λp P R K h=>by
   have x:=hs p P;rw[<-r] at h;induction c:cQ p.1 !=cQ nm with
   |true=>dsimp only at h;rw[c] at h;show cu aU bh [bY dT (.sm .lower (.bA aU<|aH 0) []) b8] (aY L) [ht p.1,ht<|cQ p.1,.b aC,.b aC,.b aC] [(bC,bg<|ps.map hP),(cG,.unb),(0,jy),(1,aQ<|aI<|cQ nm),(201,.unb)] (hP p) R K CM (mj x) (nT aC c) tt rfl tt rfl h
   |false=>
    dsimp only at h;rw[c] at h
    show cu aU bh [bY dT (.sm .lower (.bA aU<|aH 0) []) b8] (aY L) [ht p.1,ht<|cQ p.1,.b aD,.b aD,.b aD] [(bC,bg<|ps.map hP),(cG,.unb),(0,jy),(1,aQ<|aI<|cQ nm),(201,.unb)] (hP p) R K CM (mj x) (nT aD c) ff rfl ff h) K h) (by rw[cp];show bB (na hl hl) F) ⟨.next,rfl,rfl⟩
theorem QBH (L:Nat) {ps:List (aN×aN)} (hl:ps.length<=1000):(aY<|L+1).R 2 [] (ps.map hP) (aK<|ps.map hP):=by
 show .items rfl (fN.mpr λd Y=>by show aT (gQ.mp Y) λO O e=>?_;erw[<-e];rfl) ?_;have c: ∀r v,jP r v (ps.map hP)->fx r v (.d br) (.d br) (.d br) (aK<|ps.map hP):=λr v h=>by have:=fx.lst h .none .none .none nofun (by rw[cp];show bO hl (by ext):(ps.map hP).length<=16777216);rwa[ZX] at this
 show Aq Bo 1 [] [.d<|aK<|ps.map hP] (aY L) [] (ps.map hP) _ rfl (c _ _<|.bor rfl) .ret
theorem QAV (h:t.length<=1000) (M:x.length<=1000):wA x [t]:=by
 delta wA PySem.Builtin.Str.tooLong;have:t.length+x.length<=sizeLine:=by show (?_);show bO (kI ‹_› ‹_›) (by ext)
 simpa -iota using this
theorem QBT (L:Nat) (hl:hs.length<=1000) (hn:tx.length<=1000) (h:gU aC nm=aC) (o:gU aD tx=aC):(aY<|L+1).H 0 [aI nm,aI tx] hs br (hs++[bw [aI nm,aI tx]]):=.add rfl (tO Am 4 [eC] [.b aD,.b aC,ht tx] (aY L) [aI nm,aI tx] hs _ _ rfl nofun tt o (by ext) h (.join (.bor rfl)<|QAV hn<|by ext) (fq hl<|by ext) ⟨.next,rfl,rfl⟩)
theorem Ow (L:Nat) (hs:x3 ps) (hl:ps.length<=1000) (hn:nm.length<=1000) (h:gU aC nm=aC) (j:gU aC (cQ nm)=aC) (o:gU aD tx=aC):
 (∀s,qO (cQ nm) ps=aI s->(aY<|L+2).H 3 [aI nm,aI tx] (ps.map hP) (aI s) (ps.map hP))/\(qO (cQ nm) ps=br->(aY<|L+2).H 3 [aI nm,aI tx] (ps.map hP) (aI tx) ((ps++[(nm,tx)]).map hP)):=by
 have K:=QFD L hs hn j;show ⟨λs g=>?_,λg=>?_⟩
 ·simp! only[g] at K
  show .Fp rfl (tO EB 3 [] [ht s,.b aD,.b aD] (aY<|L+1) [aI nm,aI tx] (ps.map hP) _ _ rfl K nofun ff ⟨.ret,rfl,rfl⟩)
 ·simp! only[g] at K
  show sb gR<| .Fp rfl (tO EB 3 [] [.d Dat.none,.b true,.b true] (aY<|L+1) [Dat.str nm,Dat.str tx] (ps.map hP) _ _ rfl K rfl tt h o (by simp! only[List.length_map];show Nat.lt_of_le_of_lt hl<|by ext) ⟨.ret,rfl,rfl⟩)
end B01
end
section
open PySem.StrLaws
theorem o3 (a b:Nat):((a:Int)==(b:Int))=(a==b):=by rw[Ec,beq_iff_eq,beq_iff_eq];show Int.ofNat_inj
theorem sf (h:xs.length+ys.length<=16777216):d7 r bV (.d<|aK xs) (.d<|aK ys) (aK<|xs++ys):=.add .d .d h
namespace B01
structure eG where
 up:Bool
 text:aN
 place:Nat
 worth:Nat
def dM (u:Bool) (k:Nat):Str:=if u then ⟨#[bK (k / 3) - 32,lK (k % 3) - 32]⟩ else qR (k / 3) (k % 3)
def bj (b:eG):Dat:=bw [aI<|dM b.up b.place,aI b.text,aB b.place,aB b.worth]
def iB (b:eG):aN×Str:=(dM b.up b.place,b.text)
noncomputable def qb:aN×Str:=(⟨#[112,97,119]⟩,⟨#[]⟩)
def cD (bs:List eG):List (aN×aN):=qb::bs.map iB
def nV (bs:List eG) (kind:Nat) (b:eG):List eG:=match kind with
 |0=>bs++[b]
 |3=>if bs.any (λc=>c.place==b.place) then bs else bs++[b]
 |2=>bs.filter λc=>c.place !=b.place
 |_=>bs.filter (λc=>c.place !=b.place)++[b]
theorem Ij {P:List eG->Prop} {bs:List eG} {b:eG} (q:P (bs++[b])) (H:P (if bs.any (λc=>c.place==b.place) then bs else bs++[b])) (i:P (bs.filter λc=>c.place !=b.place)) (h:P (bs.filter (λc=>c.place !=b.place)++[b])) (kind:Nat):P (nV bs kind b):=by
 rcases kind with O|O|O|O|O
 ·show q
 ·show h
 ·show i
 ·show H
 ·show h
theorem nS: ∀k,k<12-> ∀u,cQ (dM u k)=dM aD k/\cQ (J1<|dM u k)=dM aD k/\gU aC (dM u k)=aC/\(cQ qb.1==dM aD k)=aD/\(dM u k).length=2/\(J1<|dM u k).length=2:=by decide+kernel
theorem Ib: ∀k,k<12-> ∀j,j<12->(dM aD j==dM aD k)=(j==k):=by decide+kernel
def vN (bs:List eG):Prop:= ∀b∈bs,b.place<12
theorem EH (h:vN bs):x3 (cD bs):=by
 intro p P;rcases dR.mp P with rfl|P
 ·show cn (by rfl)
 ·show aT (gQ.mp P) λb B e=>?_
  subst e;have:=(nS _ (h b B) b.up).2.2.2.2.1;show (?_:(dM b.up b.place).length<=1000);show aS<|nL this
theorem QCS (h:vN bs) {k:Nat} (K:k<12):qO (dM aD k) (cD bs)=match bs.find? (λc=>c.place==k) with|some c=>aI c.text|none=>br:=by
 have H:=(nS k K aC).2.2.2.1;delta qO cD;erw[E9];erw[H];simp only;induction bs with
 |nil=>rfl
 |cons b bs i=>
  have B:=h b<|.head _
  have e:(cQ (iB b).1==dM aD k)=(b.place==k):=by
   change (cQ (dM b.up b.place)==dM aD k)=_
   simp! only[(nS _ B b.up).1,Ib k K _ B]
  simp! only[dg,E9,E9,e]
  cases b.place==k
  ·show i λc C=>h c<|.tail _ C
  ·rfl
theorem LU (h:vN bs) {k:Nat} (K:k<12):(cD bs).filter (λp=>cQ p.1 !=dM aD k)=cD (bs.filter λc=>c.place !=k):=by
 have H:=(nS k K aC).2.2.2.1;unfold cD
 simp! only[tK]
 simp! only[bne,H,QHs,if_true]
 congr 1
 induction bs with
 |nil=>rfl
 |cons b bs i=>
  have B:=h b<|.head _
  have e:(cQ (iB b).1==dM aD k)=(b.place==k):=by
   change (cQ (dM b.up b.place)==dM aD k)=_
   simp! only[(nS _ B b.up).1,Ib k K _ B]
  simp! only[dg,tK,tK,e]
  cases b.place==k
  ·simp! only[QHs,if_true,dg]
   simp! only[i λc C=>h c<|.tail _ C]
  ·simp! only[SV,rB,QIn]
   show i λc C=>h c<|.tail _ C
theorem Uo (h:vN bs) {k:Nat} (K:k<12):(cD bs).filter (λp=>cQ p.1==dM aD k)=(bs.filter λc=>c.place==k).map iB:=by
 have H:=(nS k K aC).2.2.2.1;erw[tK]
 simp! only[H,rB,QIn]
 induction bs with
 |nil=>rfl
 |cons b bs i=>
  have B:=h b<|.head _
  have e:(cQ (iB b).1==dM aD k)=(b.place==k):=by
   change (cQ (dM b.up b.place)==dM aD k)=_
   simp! only[(nS _ B b.up).1,Ib k K _ B]
  simp! only[dg,tK,tK,e]
  cases b.place==k
  ·simp! only[rB,QIn]
   show i λc C=>h c<|.tail _ C
  ·simp! only[if_true,dg]
   show sb (i λc C=>h c<|.tail _ C) rfl
theorem jV (c:eG):cN r (.d<|bj c) 1 (aI c.text)/\cN r (.d<|bj c) 2 (aB c.place):=⟨.seq .t (by decide:(4:Int)<2^63) (rfl:_=aA 1) rfl,.seq .t (by decide:(4:Int)<2^63) (rfl:_=aA 2) rfl⟩
def vM (H ds:List aM) (kind:Nat) (b:eG) (nm:aN):Ls:=[(bC,bg H),(cG,.unb),(0,jy),(1,aQ<|aK ds),(2,aQ<|aB kind),(3,aQ<|bj b),(4,aQ<|aI nm),(201,.unb)]
section
variable {b:eG} {nm:aN} {bs:List eG}
theorem Vq (K:List aM->Prop) (h:K ((bs.filter λc=>c.place==b.place).map bj)):cW (rN 201).w bh [(bY b9 (.bA aU<|aH 2)<|.bA cS<|aH 2).w] o (vM H ds kind b nm) (bs.map bj) K:=by
 rw[<-rP] at h;show oy (λc O x K h=>?_) K h;induction q:c.place==b.place with
 |true=>rw[q] at h;show cu aU bh [bY b9 (.bA aU<|aH 2)<|.bA cS<|aH 2] o [hi c.place,hi b.place,.b aC,.b aC] (vM H ds kind b nm) (bj c) x K (jV c).2 (jV b).2 ((o3 _ _).trans q) rfl tt rfl h
 |false=>rw[q] at h;show cu aU bh [bY b9 (.bA aU<|aH 2)<|.bA cS<|aH 2] o [hi c.place,hi b.place,.b aD,.b aD] (vM H ds kind b nm) (bj c) x K (jV c).2 (jV b).2 ((o3 _ _).trans q) rfl ff h
theorem Ki (K:List aM->Prop) (h:K ((bs.filter λc=>c.place !=b.place).map bj)):cW (rN 201).w bh [(bY dT (.bA aU<|aH 2)<|.bA cS<|aH 2).w] o (vM H ds kind b nm) (bs.map bj) K:=by
 rw[<-rP] at h;show oy (λc O x K h=>?_) K h;have e:((c.place:Int) !=(b.place:Int))=(c.place !=b.place):=QIh not<|o3 _ _;induction q:c.place !=b.place with
 |true=>rw[q] at h;show cu aU bh [bY dT (.bA aU<|aH 2)<|.bA cS<|aH 2] o [hi c.place,hi b.place,.b aC,.b aC] (vM H ds kind b nm) (bj c) x K (jV c).2 (jV b).2 (e.trans q) rfl tt rfl h
 |false=>rw[q] at h;show cu aU bh [bY dT (.bA aU<|aH 2)<|.bA cS<|aH 2] o [hi c.place,hi b.place,.b aD,.b aD] (vM H ds kind b nm) (bj c) x K (jV c).2 (jV b).2 (e.trans q) rfl ff h
end
theorem Ma (L:Nat) {bs:List eG} {b:eG} {kind:Nat} (Y:kind<4) (hb:vN bs) (hl:bs.length<=500) (P:b.place<12) (m:b.text.length<=1000) (g:gU aD b.text=aC):
 (aY<|L+3).H 20 [aK<|bs.map bj,aB kind,bj b,aI<|dM b.up b.place] ((cD bs).map hP) (aK [fI aC,aK<|(nV bs kind b).map bj]) ((cD<|nV bs kind b).map hP):=by
 show EL (nS _ P b.up) λa U u f4 f5 i=>?_;have v: ∀p,p.length<=500->(cD p).length<=1000:=λp h=>by show (?_:(p.map iB).length+1<=1000);rw[cp];show fq ‹_› (by ext)
 have F: ∀p,p.length<=500->(aY<|L+2).H 0 [aI<|dM b.up b.place,aI b.text] ((cD p).map hP) br ((cD<|p++[b]).map hP):=λp h=>by have:=QBT (L+1) (nm:=dM b.up b.place) (hs:=(cD p).map hP) (by rw[cp];show v p h) m u g;rw[<-(by simp -iota [cD]:(cD p).map hP++[hP<|iB b]=(cD<|p++[b]).map hP)];show this
 have kb: ∀p,p.length<=500-> ∀r,d7 r bV (.d<|aK<|p.map bj) (.d<|aK [bj b])<|aK<|(p++[b]).map bj:=λp h r=>by rw[gR];show sf (by rw[cp];show (?_:_+1<=_);show fq ‹_› (by ext))
 have z:(bs.map bj).length<=16777216:=by rw[cp];show bO ‹_› (dI _ _)
 show .K8 rfl ?_
 match kind,Y with
 |0,_=>show tO ve 5 [] [.b aC,.d<|aI b.text,.h br<|(cD<|bs++[b]).map hP,.b aC,.d<|aK<|(bs++[b]).map bj] (aY<|L+2) [aK<|bs.map bj,aB (0:Nat),bj b,aI<|dM b.up b.place] ((cD bs).map hP) _ _ rfl tt (jV b).1 (F bs hl) rfl (kb bs hl _) ⟨.ret,rfl,rfl⟩
 |3,_=>
  have f:=ug (λc:eG=>c.place==b.place) bs;have A:=Ow L (EH hb) (v bs hl) (aS<|nL f5) u (by rw[a];show (nS _ P aD).2.2.1) g;rw[a,QCS hb P] at A
  have aa: ∀M H' c0 p R,(aY<|L+2).H 3 [aI<|dM b.up b.place,aI b.text] ((cD bs).map hP) (aI M) H'->bs.filter (λc=>c.place==b.place)++[b]=c0::p->c0.text=M->bs++[b].drop p.length=R->H'=(cD R).map hP->o6 (aY<|L+2) 5 [] ve [aK<|bs.map bj,aB (3:Nat),bj b,aI<|dM b.up b.place] ((cD bs).map hP) (aK [fI aC,aK<|R.map bj]) ((cD R).map hP):=λM H' c0 p R k3 e1 e2 e3 Q=>by
   subst Q e3 e2;have C:p.length<=500:=by have:=QIh Jl e1;rw[i4,jd,jd,tI] at this;show bB (na hl f)<|nR this
   have g1: ∀r,d7 r bV (.d<|aK<|(bs.filter λc=>c.place==b.place).map bj) (.d<|aK [bj b])<|aK<|(c0::p).map bj:=λr=>by rw[<-e1,gR];show sf (by rw[cp];show (?_:_+1<=_);show bB hl f)
   have s:((c0::p).map bj).length=p.length+1:=by rw[cp];rfl
   have j: ∀r,fx r (.d<|aK [bj b]) (.d<|aB<|(((c0::p).map bj).length:Int) - 1) (.d br) (.d br)<|aK<|([b].drop p.length).map bj:=λr=>by rw[s,show ((p.length+1:Nat):Int) - 1=(p.length:Nat) by simp+arith,QHt,<-DH];show .lst .d .int .none .none nofun (cn rfl)
   have B:([b].drop p.length).length<=1:=by rw[BN];show yX _ _
   have g6: ∀r,d7 r bV (.d<|aK<|bs.map bj) (.d<|aK<|([b].drop p.length).map bj)<|aK<|(bs++[b].drop p.length).map bj:=λr=>by rw[gR];show sf (by rw[cp,cp];show bO (kI ‹_› ‹_›)<|by ext)
   show tO ve 5 [] [.b aD,.b aC,.ds<|(bs.filter λc=>c.place==b.place).map bj,.d<|aK<|(c0::p).map bj,.d<|aI b.text,.h (aI c0.text)<|(cD<|bs++[b].drop p.length).map hP,.d<|bj c0,.d<|aI c0.text,.b aC,.d<|aB ((c0::p).map bj).length,.d<|aK<|([b].drop p.length).map bj,.d<|aK<|(bs++[b].drop p.length).map bj] (aY<|L+2) [aK<|bs.map bj,aB (3:Nat),bj b,aI<|dM b.up b.place] ((cD bs).map hP) _ _ rfl ff tt z Vq (g1 _) (jV b).1 k3 (ic rfl rfl (by rw[s];show bR<|oL C)) (jV c0).1 (vL aC<|QIj _) (.oo (.l .d) (by rw[s];show aS C)) (j _) (g6 _) ⟨.ret,rfl,rfl⟩
  induction hfd:bs.find? (λc=>c.place==b.place) with
  |none=>rw[hfd] at A;have es:nV bs 3 b=bs++[b]:=QIf (λh=>by show aT (QHu.mp h) λc W h=>?_;show QHv.mp hfd c W h);rw[es];show aa b.text _ b [] _ (A.2 rfl) (by rw[(SX.mpr λc W=>QHv.mp hfd c W:bs.filter (λc=>c.place==b.place)=[])];rfl) rfl rfl (by simp -iota [cD,iB])
  |some c=>
   rw[hfd] at A;have es:nV bs 3 b=bs:=QIg<|QHu.mpr<|bJ c (List.mem_of_find?_eq_some hfd)<|List.find?_some hfd
   show bE (by
    have:(bs.filter λc=>c.place==b.place).head?=aA c:=by rw[List.head?_filter];show hfd
    induction q:bs.filter (λc=>c.place==b.place) with
    |nil=>rw[q] at this;show bM this
    |cons x t=>rw[q] at this;clear hfd tail_ih q;cases this;show ⟨t,rfl⟩: ∃t,bs.filter (λc=>c.place==b.place)=c::t) λt e=>?_
   rw[es];show aa c.text _ c (t++[b]) _ (A.1 _ rfl) (by rw[e];rfl) rfl (by rw[uf (by rw[i4];show dI _ _),lQ]) rfl
 |2,_=>have Z:=MN (L+1) (EH hb) (v bs hl) (aS<|nL i) (by rw[U];show (nS _ P aD).2.2.1);rw[U,LU hb P] at Z;show tO ve 5 [] [.b aD,.b aD,.ds<|(bs.filter λc=>c.place !=b.place).map bj,ht<|J1<|dM b.up b.place,.h br<|(cD<|bs.filter λc=>c.place !=b.place).map hP,.b aC] (aY<|L+2) [aK<|bs.map bj,aB (2:Nat),bj b,aI<|dM b.up b.place] ((cD bs).map hP) _ _ rfl ff ff z Ki (.swapcase<|aS<|nL f5) Z tt ⟨.ret,rfl,rfl⟩
 |1,_=>have Z:=MN (L+1) (EH hb) (v bs hl) (aS<|nL i) (by rw[U];show (nS _ P aD).2.2.1);rw[U,LU hb P] at Z;have C:=bO (ug (λc:eG=>c.place !=b.place) bs) hl;generalize N:bs.filter (λc=>c.place !=b.place)=p at*;rw[(by rw[<-N];rfl:nV bs 1 b=p++[b])];show tO ve 5 [] [.b aD,.b aD,.ds<|p.map bj,.d<|aI<|J1<|dM b.up b.place,.h br<|(cD p).map hP,.b aD,.d<|aI b.text,.h br<|(cD<|p++[b]).map hP,.b aC,.d<|aK<|(p++[b]).map bj] (aY<|L+2) [aK<|bs.map bj,aB (1:Nat),bj b,aI<|dM b.up b.place] ((cD bs).map hP) _ _ rfl ff ff z ((λo H K h=>Ki K (by rw[N];show h): ∀o H K,K (p.map bj)->cW (rN 201).w bh [(bY dT (.bA aU<|aH 2)<|.bA cS<|aH 2).w] o (vM H (bs.map bj) 1 b<|dM b.up b.place) (bs.map bj) K) _ _) (.swapcase<|aS<|nL f5) Z ff (jV b).1 (F p C) rfl (kb p C _) ⟨.ret,rfl,rfl⟩
 |n+4,h=>show QIe h λK=>n6 K
end B01
end
section
open PySem.StrLaws
theorem nl (h:(decide (0<n) && decide (n<1000000000))=aC):lO a n=false:=SN (by simp at h;show (oM<|bN (iL<|FF ((bR h.1):0<=n)) h.2))
theorem IL {k n:Nat} (h:0<n):(k:Int).fdiv (n:Int)=((k / n:Nat)):=by erw[iN _<|pd.mpr ‹_›];rfl
theorem Li {k n:Nat} (h:0<n):(k:Int).fmod (n:Int)=((k % n:Nat)):=by erw[m6 _<|pd.mpr ‹_›];rfl
namespace B01
structure jm (step:Nat) (b:eG):Prop where
 pl:b.place<12
 wo:b.worth<4
 tx: ∃bl,bl∈[[],[32],[9],[9,32]]/\b.text=jL (b.worth*step) bl
theorem QDY (hn:n<10^10) (hb:bl∈[[],[32],[9],[9,32]]):(jL n bl).length<=100/\gU aD (jL n bl)=true:=by
 show fR (DX hn) λH i Q v=>?_;have b:bl.length<=2/\ ∀c∈bl,c=32\/c=9:=by simp only[dR,i5,or_false] at hb;clear hn H i Q v;rcases hb with rfl|rfl|rfl|rfl<;>decide
 constructor
 ·show (?_:([48,95]++fc n++bl).toArray.size<=100)
  simp;show bB Q b.1
 ·unfold gU
  rw[<-QHw,fN];intro c C;have C:c∈[48,95]++fc n++bl:=by simpa[jL] using C
  have:c=9\/(32<=c/\c<127):=by
   show Or.elim (jZ.mp C) (λC=>?_) λC=>?_
   ·show Or.elim (jZ.mp C) (λC=>?_) λC=>?_
    ·simp at C
     show ((Decidable.em _).imp_right λo=>⟨(C.elim (λu=>(aS<|nR u)) λu=>(aS<|nR u)),(C.elim (λu=>(aS<|nL u)) λu=>(aS<|nL u))⟩)
    ·have:=H c C
     show (.inr ⟨(aS this.1),(aS this.2)⟩)
   ·have:=b.2 c C
    show (this.elim (λu=>(.inr ⟨(aS<|nR u),(aS<|nL u)⟩)) λu=>(.inl u))
  clear hn hb H i Q v b C;rcases this with rfl|h
  ·decide
  ·have a:(c==127)=false:=by simp;show λK=>dC (nR K) h.2
   simp[a,(by simp;show aS h.1:decide (c<=8)=aD),(by simp;show aS h.1:decide (c<=31)=aD)]
noncomputable def mT:List Int:=[1,5,7,11]
def tn (c1:Int) (t:Nat):Int:=(c1+mT.getD ((c1.fdiv 12).fmod 4).toNat 0*t).fmod 12
theorem VO: ∀k,k<4->mT[k]?=aA (mT.getD k 0)/\0<=mT.getD k 0/\mT.getD k 0<=11:=by decide
noncomputable def Ia:List Dat:=[aI ⟨#[]⟩,aI ⟨#[32]⟩,aI ⟨#[9]⟩,aI ⟨#[9,32]⟩]
theorem QBp {k:Nat} (h:k<4): ∃bl,bl∈[[],[32],[9],[9,32]]/\Ia[k]?=aA (aI ⟨bl.toArray⟩):=B3 (P:=λk=> ∃bl,bl∈[[],[32],[9],[9,32]]/\Ia[k]?=aA (aI ⟨bl.toArray⟩)) (bJ [] (.head _) rfl) (bJ [32] (.tail _<|.head _) rfl) (bJ [9] (by ext) rfl) (bJ [9,32] (by ext) rfl) k h
theorem QBF: ∀k,k<12->Txt.upper (qR (k / 3)<|k % 3)=dM aC k/\(qR (k / 3)<|k % 3).length=2:=by decide+kernel
structure Tl where
 t:Int
 q:Int
 k:Int
 p:Int
 w:Int
 n:aN
 x:aN
def bkT:Option Tl->Ls
 |none=>[]
 |some c=>[(5,aQ<|aB c.t),(6,aQ<|aB c.q),(7,aQ<|aB c.k),(8,aQ<|aB c.p),(9,aQ<|aB c.w),(10,aQ<|aI c.n),(11,aQ<|aI c.n),(12,aQ<|aI c.x),(13,aQ<|fI aC)]
def jX (C:List Int) (step:Int) (H D:List aM) (c:Option Tl):Ls:=(0,aQ<|aK<|C.map aB)::(1,aQ<|aB step)::(2,.ali bC)::(bC,bg H)::(cG,eC)::(3,jy)::(4,aQ<|aK D)::bkT c
section
variable {c0 c1 c2 c3 c4 c5 step t Q K7 P W M E:Int} {D:List aM} {xs:List aM} {K:Fl->Ls->Prop} {c:Option Tl}
theorem K9:(∀r,cN r (.d<|aK<|[c0,c1,c2,c3,c4,c5].map aB) 0<|aB c0)/\(∀r,cN r (.d<|aK<|[c0,c1,c2,c3,c4,c5].map aB) 1<|aB c1)/\(∀r,cN r (.d<|aK<|[c0,c1,c2,c3,c4,c5].map aB) 2<|aB c2):=⟨λr=>jT rfl rfl (by decide:(6:Int)<2^63),λr=>jT rfl rfl (by decide:(6:Int)<2^63),λr=>jT rfl rfl (by decide:(6:Int)<2^63)⟩
structure Hy (L:Nat) (c1 c2 step t P W:Int) (pl nm s num mid bl x b l:aN):Prop where
 zO: ∀r,cN r (.d<|aI ⟨#[112,110,109,107]⟩) (P.fdiv 3) (aI b)
 Ai: ∀r,cN r (.d<|aI ⟨#[97,118,119]⟩) (P.fmod 3) (aI l)
 zJ: ∀r,d7 r bV (.d<|aI b) (.d<|aI l) (aI pl)
 AF:ib 29+ib t<=134217728
 zp:(aY<|L+3).F 16 [aB<|P.fdiv 3,aB<|P.fmod 3,aB<|c1.fdiv 48+29*t] (aI s)
 Ah:(aY<|L+3).F 17 [aI s] (aI pl)
 zN:ib W+ib step<=134217728
 fst: ∀r,cy r .tv [.d<|aB<|W*step] (aI num)
 zY: ∀r,d7 r bV (.d<|aI ⟨#[48,95]⟩) (.d<|aI num) (aI mid)
 AL: ∀r,cN r (.d<|aK Ia) ((c2+t).fmod 4) (aI bl)
 Ab: ∀r,d7 r bV (.d<|aI mid) (.d<|aI bl) (aI x)
 Bp: ∀r,j8 r .upper (.d<|aI pl) []<|aI nm
theorem VE (T:Hy L c1 c2 step t P W pl nm s num mid bl x b l) (e0: ∀r,cy r .max2 [.d<|aB<|t - 12,.d<|aB 0]<|aB 0) (eQ:c2.fdiv (192^da 0)=Q) (ht:t<12) (im: ∀r,cN r (.d<|aK [aB 1,aB 5,aB 7,aB 11]) ((c1.fdiv 12).fmod 4)<|aB M) (gm:ib M+ib t<=134217728) (eP:(c1+M*t).fmod 12=P) (gP:0<=P) (gp:(ib 4:Int)*P<=134217728) (g4: ¬ (4:Int)^P.toNat=0) (n4:lO c0 (4^P.toNat)=aD) (eW:(c0.fdiv<|4^P.toNat).fmod 4=W) (up:Bool) (hu:(t.fmod 2==1)=up) (hc:up=aC->c.isSome=aC)
 (k:(aY<|L+3).H 20 [aK D,aB 0,bw [aI<|bif up then nm else pl,aI x,aB P,aB W],aI<|bif up then nm else pl] H (aK [fI aC,aK D']) H')
 (h:fW h8 (mc.map SW.w) (aY<|L+3) xs (jX [c0,c1,c2,c3,c4,c5] step H' D'<|aA ⟨t,Q,0,P,W,bif up then nm else pl,x⟩) K):
 fW h8 (mc.map SW.w) (aY<|L+3) (aB t::xs) (jX [c0,c1,c2,c3,c4,c5] step H D c) K:=by
 show eA (@K9 c0 c1 c2 c3 c4 c5) λi0 i1 i2=>?_;subst eQ;subst eP;subst eW;induction up with
 |true=>
  induction c with
  |none=>show QIe (hc rfl) nofun
  |some c=>show ej h8 mc (aY<|L+3) [.d<|aB c2,.d<|aB 0,.b aC,.d<|aB c1,.d<|aB c1,.d<|aB M,.d<|aB c0,.d<|aI b,.d<|aI l,.d<|aI pl,.d<|aB c1,.d<|aI s,.d<|aI pl,.b aC,.d<|aI nm,.d<|aI nm,.d<|aI num,.d<|aI mid,.d<|aB c2,.d<|aI bl,.d<|aI x,.h (aK [fI aC,aK D']) H',.b aD] (aB t) xs (jX [c0,c1,c2,c3,c4,c5] step H D<|aA c) K (i2 _) (e0 _) tt (by ext) ff (nl rfl) ff ff (nl rfl) ff ff (nl rfl) ff (dt ht) (i1 _) (i1 _) ff (nl rfl) ff (im _) gm ff (i0 _) (dt gP) gp (df g4) n4 ff ff (nl rfl) (T.zO _) ff (T.Ai _) (T.zJ _) ff (nl rfl) ff (i1 _) ff (nl rfl) T.AF T.zp T.Ah ff hu (T.Bp _) (T.Bp _) T.zN (T.fst _) (T.zY _) (i2 _) ff (T.AL _) (T.Ab _) k ff h
 |false=>
  induction c with
  |none=>show ej h8 mc (aY<|L+3) [.d<|aB c2,.d<|aB 0,.b aC,.d<|aB c1,.d<|aB c1,.d<|aB M,.d<|aB c0,.d<|aI b,.d<|aI l,.d<|aI pl,.d<|aB c1,.d<|aI s,.d<|aI pl,.b aD,.d<|aI num,.d<|aI mid,.d<|aB c2,.d<|aI bl,.d<|aI x,.h (aK [fI aC,aK D']) H',.b aD] (aB t) xs (jX [c0,c1,c2,c3,c4,c5] step H D aE) K (i2 _) (e0 _) tt (by ext) ff (nl rfl) ff ff (nl rfl) ff ff (nl rfl) ff (dt ht) (i1 _) (i1 _) ff (nl rfl) ff (im _) gm ff (i0 _) (dt gP) gp (df g4) n4 ff ff (nl rfl) (T.zO _) ff (T.Ai _) (T.zJ _) ff (nl rfl) ff (i1 _) ff (nl rfl) T.AF T.zp T.Ah ff hu T.zN (T.fst _) (T.zY _) (i2 _) ff (T.AL _) (T.Ab _) k ff h
  |some c=>show ej h8 mc (aY<|L+3) [.d<|aB c2,.d<|aB 0,.b aC,.d<|aB c1,.d<|aB c1,.d<|aB M,.d<|aB c0,.d<|aI b,.d<|aI l,.d<|aI pl,.d<|aB c1,.d<|aI s,.d<|aI pl,.b aD,.d<|aI num,.d<|aI mid,.d<|aB c2,.d<|aI bl,.d<|aI x,.h (aK [fI aC,aK D']) H',.b aD] (aB t) xs (jX [c0,c1,c2,c3,c4,c5] step H D<|aA c) K (i2 _) (e0 _) tt (by ext) ff (nl rfl) ff ff (nl rfl) ff ff (nl rfl) ff (dt ht) (i1 _) (i1 _) ff (nl rfl) ff (im _) gm ff (i0 _) (dt gP) gp (df g4) n4 ff ff (nl rfl) (T.zO _) ff (T.Ai _) (T.zJ _) ff (nl rfl) ff (i1 _) ff (nl rfl) T.AF T.zp T.Ah ff hu T.zN (T.fst _) (T.zY _) (i2 _) ff (T.AL _) (T.Ab _) k ff h
theorem UD {c:Tl} (T:Hy L c1 c2 step t P W pl nm s num mid bl x b l) (e0: ∀r,cy r .max2 [.d<|aB<|t - 12,.d<|aB 0]<|aB E) (gE:0<=E) (gp:(ib 192:Int)*E<=134217728) (g4: ¬ (192:Int)^E.toNat=0) (n4:lO c2 (192^E.toNat)=aD) (eQ:c2.fdiv (192^E.toNat)=Q) (ht: ¬ t<12) (e7:Q.fmod 4=K7) (eP:(Q.fdiv 4).fmod 12=P) (eW:(Q.fdiv 48).fmod 4=W) (up:Bool) (hu:(t.fmod 2==1)=up)
 (k:(aY<|L+3).H 20 [aK D,aB K7,bw [aI<|bif up then nm else pl,aI x,aB P,aB W],aI<|bif up then nm else pl] H (aK [fI aC,aK D']) H')
 (h:fW h8 (mc.map SW.w) (aY<|L+3) xs (jX [c0,c1,c2,c3,c4,c5] step H' D'<|aA ⟨t,Q,K7,P,W,bif up then nm else pl,x⟩) K):
 fW h8 (mc.map SW.w) (aY<|L+3) (aB t::xs) (jX [c0,c1,c2,c3,c4,c5] step H D<|aA c) K:=by
 show eA (@K9 c0 c1 c2 c3 c4 c5) λi0 i1 i2=>?_;clear i0;subst eQ;subst e7;subst eP;subst eW;induction up with
 |true=>show ej h8 mc (aY<|L+3) [.d<|aB c2,.d<|aB E,.b aD,.d<|aI b,.d<|aI l,.d<|aI pl,.d<|aB c1,.d<|aI s,.d<|aI pl,.b aC,.d<|aI nm,.d<|aI nm,.d<|aI num,.d<|aI mid,.d<|aB c2,.d<|aI bl,.d<|aI x,.h (aK [fI aC,aK D']) H',.b aD] (aB t) xs (jX [c0,c1,c2,c3,c4,c5] step H D<|aA c) K (i2 _) (e0 _) (dt gE) gp (df g4) n4 ff ff (nl rfl) ff ff (nl rfl) ff (df ht) ff (nl rfl) (T.zO _) ff (T.Ai _) (T.zJ _) ff (nl rfl) ff (i1 _) ff (nl rfl) T.AF T.zp T.Ah ff hu (T.Bp _) (T.Bp _) T.zN (T.fst _) (T.zY _) (i2 _) ff (T.AL _) (T.Ab _) k ff h
 |false=>show ej h8 mc (aY<|L+3) [.d<|aB c2,.d<|aB E,.b aD,.d<|aI b,.d<|aI l,.d<|aI pl,.d<|aB c1,.d<|aI s,.d<|aI pl,.b aD,.d<|aI num,.d<|aI mid,.d<|aB c2,.d<|aI bl,.d<|aI x,.h (aK [fI aC,aK D']) H',.b aD] (aB t) xs (jX [c0,c1,c2,c3,c4,c5] step H D<|aA c) K (i2 _) (e0 _) (dt gE) gp (df g4) n4 ff ff (nl rfl) ff ff (nl rfl) ff (df ht) ff (nl rfl) (T.zO _) ff (T.Ai _) (T.zJ _) ff (nl rfl) ff (i1 _) ff (nl rfl) T.AF T.zp T.Ah ff hu T.zN (T.fst _) (T.zY _) (i2 _) ff (T.AL _) (T.Ab _) k ff h
end
end B01
end
section
open PySem.StrLaws
theorem QEd (x y:List Nat):(⟨x.toArray⟩:aN)++⟨y.toArray⟩=⟨(x++y).toArray⟩:=Al (by simp only[QBM])
theorem vF {x y:List Nat} (h:x.length+y.length<=16777216):d7 r bV (.d<|aI ⟨x.toArray⟩) (.d<|aI ⟨y.toArray⟩) (aI ⟨(x++y).toArray⟩):=QEd x y▸ .cat (by show (?_:x.toArray.size+y.toArray.size<=_);simp only[jH,jH];show h)
namespace B01
theorem OP (L:Nat) (c1 c2:Int) {step t p w:Nat} (P:p<12) (hw:w<4) (Z:t<14) (hs:step<=5000): ∃s bl,bl∈[[],[32],[9],[9,32]]/\Hy L c1 c2 step t p w (qR (p / 3)<|p % 3) (dM aC p) s ⟨(fc<|w*step).toArray⟩ ⟨([48,95]++fc (w*step)).toArray⟩ ⟨bl.toArray⟩ (jL (w*step) bl) ⟨#[bK<|p / 3]⟩ ⟨#[lK<|p % 3]⟩:=by
 have d3:(p:Int).fdiv 3=((p / 3:Nat)):=IL (by ext);have m:(p:Int).fmod 3=((p % 3:Nat)):=Li (by ext);have A:p / 3<4:=(E3.mp λY=>(dC (na (na (na Y<|qC (p) 3) P) Y) Y))
 have h:p % 3<3:=oT _ (by ext);show aT (UZ (L+1) A h<|c1.fdiv 48+29*t) λs d j=>aT (iT (c2+t) (n:=4)<|by ext) λkb K F=>aT (QBp K) λbl b e=>?_;have W:w*step<=3*5000:=oH (FG ‹_›) hs;have H:=(DX (n:=w*step)<|fq ‹_› (by ext));have N:=H.2.2.1;have B:bl.length<=2:=by simp only[dR,i5,or_false] at b;clear P hw Z hs d3 m A h d j K F e W N;rcases b with rfl|rfl|rfl|rfl<;>decide
 have v:=gB (x:=(t:Int)) (cT _)<|bR<|oL Z;have ew:=gB (x:=(w:Int)) (cT _)<|bR<|oL hw;have es:=gB (x:=(step:Int)) (by simp+arith)<|bR<|oL hs;have H:=(QBF p P);have u:=H.1;have U:=H.2;show (eS s bl b ⟨λr=>tX (By _ A).1 d3 (by ext),λr=>tX (AW _ h).1 m (by ext),λr=>xh rfl rfl,by show bB v (nL (by decide+kernel:ib 29=5)),by (erw[d3];erw[m]);show d,j,by show bO (kI ‹_› ‹_›) (by ext),λr=>?_,λr=>vF (x:=[48,95]) (by show (?_);show aS N),λr=>ic e F (by ext),λr=>vF (by simp only[i4];show (?_);show bB N B),λr=>u▸ .upper (dI _ _)⟩);simp only[<-Mz];have:=cy.tv (r:=r) (a:=((w*step:Nat))) (by simp only[Int.natAbs_natCast];show aS W);show sb (rfl:(w:Int)*(step:Int)=((w*step:Nat)))<|this
theorem turn (L:Nat) {c0 c1 c2 c3 c4 c5:Int} {step:Nat} (hstep:step<=5000) (hb: ∀b∈bs,jm step b) (hl:bs.length<=500) (ht:t<14):
 ∃(kind:Nat) (b:eG) (c':Tl),kind<4/\jm step b/\(t<12->kind=0/\(b.place:Int)=tn c1 t)/\ ∀c xs K,(t≠0->c.isSome=aC)->fW h8 (mc.map SW.w) (aY<|L+3) xs (jX [c0,c1,c2,c3,c4,c5] step ((cD<|nV bs kind b).map hP) ((nV bs kind b).map bj)<|aA c') K->
  fW h8 (mc.map SW.w) (aY<|L+3) (aB t::xs) (jX [c0,c1,c2,c3,c4,c5] step ((cD bs).map hP) (bs.map bj) c) K:=by
 have hO:vN bs:=λb h=>(hb b h).pl;show aT (iT (t:Int) (n:=2)<|by ext) λz hz ez=>?_;have ez:=ez;show aT ((bJ _ rfl (λh e=>by clear ht hO hz ez;subst e;show QIe h<|by ext)): ∃up:Bool,((t:Int).fmod 2==1)=up/\(up=aC->t≠0)) λup hu hu0=>?_;have h4: ∀w p:Nat,w<4-> ∀bl:List Nat,bl∈[[],[32],[9],[9,32]]->(jL (w*step) bl).length<=100/\gU aD (jL (w*step) bl)=true:=λw p hw bl hbl=>QDY (fq (oH (FG ‹_›) hstep)<|by ext) hbl;have enm: ∀p,(bif up then dM aC p else qR (p / 3) (p % 3))=dM up p:=λp=>by clear hu hu0 h4;induction up<;>rfl
 by_cases q:t<12
 ·show aT (iT (c1.fdiv 12) (n:=4)<|by ext) λkm hkm em=>?_
  have Hq:=(VO km hkm);have m1:=Hq.1;have m2:=Hq.2.1;have m3:=Hq.2.2;show aT (iT (c1+mT.getD km 0*t) (n:=12)<|by ext) λp hp ep=>aT (iT (c0.fdiv<|4^p) (n:=4)<|by ext) λw hw ew=>dU (OP L c1 c2 hp hw ht hstep) λs bl hbl T=>?_;have Hq:=(h4 w p hw bl hbl);have t1:=Hq.1;have t2:=Hq.2;have k:=Ma L (kind:=0) (b:=⟨up,jL (w*step) bl,p,w⟩) (by ext) hO hl hp (by show (?_);show bO ‹_› (dI _ _)) t2
  have p4:(4:Int)^p≠0/\(decide ((0:Int)<4^p) && decide ((4:Int)^p<1000000000))=true:=by
   have: ∀k,k<12->(4:Int)^k≠0/\(decide ((0:Int)<4^k) && decide ((4:Int)^k<1000000000))=true:=by decide
   show this p hp
  have em1:=gB (x:=mT.getD km 0) m2 (Jx ‹_› (by ext));have et:=gB (x:=(t:Int)) (by simp+arith) (by show bR<|oL q);show (om 0 ⟨up,jL (w*step) bl,p,w⟩ ⟨t,c2.fdiv<|192^da 0,0,p,w,bif up then dM aC p else qR (p / 3) (p % 3),jL (w*step) bl⟩ (by ext) ⟨hp,hw,bl,hbl,rfl⟩ (λO=>⟨rfl,(by unfold tn;simp only[show (c1.fdiv 12).fmod 4=(km:Int) from em,qD];show ep:tn c1 t=(p:Int)).symm⟩) λc xs K hc h=>?_);show VE T (λr=>by have:=cy.max2 (r:=r) (a:=(t:Int) - 12) (b:=0);rw[if_pos<|by show bR<|oL q] at this;show this) rfl (pd.mpr ‹_›) (λr=>jT (xs:=mT) m1 em<|by ext) (bO (kI ‹_› ‹_›)<|by ext) ep (cT _) (by erw[(by decide+kernel:ib 4=3)];show bN (ni (oL hp)<|oL hp)<|oL hp) p4.1 (nl p4.2) ew up hu (λe=>hc<|hu0 e) (by rw[enm];show k) h
 ·show aT ((bJ (t - 12) ((bB (nL<|sE ((aS<|fJ q):12<=t)) ht)) (by erw[if_neg<|(λw0=>(gX (oL<|fJ q) w0))];show (nF (bR<|oL<|nR<|sE ((aS<|fJ q):12<=t))<|bR<|oL<|nL<|sE ((aS<|fJ q):12<=t)))): ∃e:Nat,e<2/\(if (0:Int)>(t:Int) - 12 then 0 else (t:Int) - 12)=e) λe he hm=>?_
  have p192:(192:Int)^e≠0/\(decide ((0:Int)<192^e) && decide ((192:Int)^e<1000000000))=true:=by
   have: ∀k,k<2->(192:Int)^k≠0/\(decide ((0:Int)<192^k) && decide ((192:Int)^k<1000000000))=true:=by decide
   show this e he
  show aT (iT (c2.fdiv<|192^e) (n:=4)<|by ext) λkd hkd e7=>aT (iT ((c2.fdiv<|192^e).fdiv 4) (n:=12)<|by ext) λp hp ep=>aT (iT ((c2.fdiv<|192^e).fdiv 48) (n:=4)<|by ext) λw hw ew=>dU (OP L c1 c2 hp hw ht hstep) λs bl hbl T=>?_;have Hq:=(h4 w p hw bl hbl);have t1:=Hq.1;have t2:=Hq.2;have k:=Ma L (kind:=kd) (b:=⟨up,jL (w*step) bl,p,w⟩) hkd hO hl hp (by show (?_);show aS t1) t2;show (om kd ⟨up,jL (w*step) bl,p,w⟩ ⟨t,c2.fdiv<|192^e,kd,p,w,bif up then dM aC p else qR (p / 3) (p % 3),jL (w*step) bl⟩ hkd ⟨hp,hw,bl,hbl,rfl⟩ (λh=>QIe h q) λc xs K hc h=>?_);induction c with
  |none=>show QIe (hc λK=>dC (nL K)<|fJ q) nofun
  |some c=>show UD (E:=e) T (λr=>by have:=cy.max2 (r:=r) (a:=(t:Int) - 12) (b:=0);rw[hm] at this;show this) (cT _) (by erw[(by decide+kernel:ib 192=8)];show (bR<|mI 8<|oL he)) p192.1 (nl p192.2) rfl (λK=>gX K<|oL<|fJ q) e7 ep ew up hu (by rw[enm];show k) h
end B01
end
section
open PySem.StrLaws
theorem GN (H:yg p.1=aC) (h:yg p.2=aC):gr 8 (hP p)=true:=by simp[hP,gr,H,h]
theorem QH (h:yg s=aC):gr 8 (aI s)=true:=by assumption
theorem Pc (i:Int):gr 8 (aB i)=true:=by simp[gr]
theorem tW (h: ∀x∈xs,gr 8 x=aC):tN xs:=fN.mpr h
theorem gA (P:jP r v xs) (h: ∀x∈xs,gr 8 x=aC):f9 r dT v (.d<|aK xs) false:=.lst P .d (tW h) (tW h)<|.CP rfl
theorem zm {α:Type} (xs:List α) (f:α->Int): ∀x∈xs.map λa=>aB<|f a,gr 8 x=true:=λx M=>aT (gQ.mp M) λa O e=>dA e<|Pc _
namespace B01
theorem OE {step:Nat} (s:step<=5000) (hb:jm step b):yg b.text=true:=by
 show aT hb.tx λq i e=>?_;have W:=hb.wo;have n:b.worth*step<10^10:=by have:=oH (FG ‹_›) s;show fq ‹_› (by ext)
 show fR (DX n) λh m Q H=>?_;have B: ∀c∈q,c<128:=by simp only[dR,i5,or_false] at i;clear s hb e W n h m Q H;rcases i with rfl|rfl|rfl|rfl<;>decide
 erw[e];unfold yg;rw[<-QHw,fN];intro c C;have C:c∈[48,95]++fc (b.worth*step)++q:=by simpa[jL] using C
 rcases jZ.mp C with C|C
 ·rcases jZ.mp C with C|C
  ·simp at C
   simp;show (C.elim (λu=>(aS<|nL u)) λu=>(aS<|nL u))
  ·have:=h c C
   simp;show aS this.2
 ·have:=B c C
  simp;show bO ‹_› (dI _ _)
theorem WA: ∀k,k<12-> ∀u,yg (dM u k)=true:=by decide+kernel
def l5 (k:Nat) (bs:List eG):Nat:=(bs.filter λc=>c.place==k).length
theorem Ur {k:Nat}:l5 k (nV bs kind b)<=l5 k bs+(if b.place==k then 1 else 0):=by
 have h: ∀C,l5 k (C++[b])=l5 k C+(if b.place==k then 1 else 0):=by
  intro C;unfold l5;rw[QHx,i4]
  congr 1
  erw[tK]
  split<;>rfl
 have H:l5 k (bs.filter λc=>c.place !=b.place)<=l5 k bs:=(List.Sublist.filter _ QGC).length_le
 show Ij (P:=λl=>l5 k l<=l5 k bs+(if b.place==k then 1 else 0)) ?_ ?_ ?_ ?_ kind
 ·rw[h]
  simp+arith
 ·by_cases q:(bs.any λc=>c.place==b.place)=aC
  ·rw[if_pos q]
   show jb _ _
  ·rw[if_neg q]
   rw[h];simp+arith
 ·show bO ‹_› (jb _ _)
 ·rw[h]
  show RW ‹_› _
theorem Xz {step:Nat} (h: ∀c∈bs,jm step c) (hb:jm step b): ∀c∈nV bs kind b,jm step c:=by
 have H: ∀W,(∀c∈W,jm step c)-> ∀c∈W++[b],jm step c:=by
  intro W e c C;show Or.elim (jZ.mp C) (λC=>?_) λC=>?_
  ·show e c C
  ·simp only[oW.mp C]
   show hb
 have i: ∀c∈bs.filter (λc=>c.place !=b.place),jm step c:=λc C=>h c (uh.mp C).1;show Ij (P:=λl=> ∀c∈l,jm step c) ?_ ?_ ?_ ?_ kind
 ·show H _ h
 ·by_cases q:(bs.any λc=>c.place==b.place)=aC
  ·rw[if_pos q]
   show h
  ·rw[if_neg q]
   show H _ h
 ·show i
 ·show H _ i
theorem QBt:(nV bs kind b).length<=bs.length+1:=by
 have h:=ug (λc:eG=>c.place !=b.place) bs;show Ij (P:=λl=>l.length<=bs.length+1) ?_ ?_ ?_ ?_ kind
 ·simp
 ·by_cases q:(bs.any λc=>c.place==b.place)=aC
  ·rw[if_pos q]
   show jb _ _
  ·rw[if_neg q]
   simp
 ·show Ax ‹_›
 ·simp
  assumption
def xp (c1:Int) (k t:Nat):Nat:=((cg t).filter λs=>tn c1 s==(k:Int)).length
theorem QAj (c1:Int) {k:Nat} (K:k<12):xp c1 k 12<=1:=by
 show aT (iT (c1.fdiv 12) (n:=4)<|by ext) λq Q eq=>aT (iT c1 (n:=12)<|by ext) λa A d=>?_;have eq:(c1.fdiv 12).fmod 4=(q:Int):=eq;have d:c1.fmod 12=(a:Int):=d;have e: ∀s,tn c1 s=((a:Int)+mT.getD q 0*s).fmod 12:=by intro s;unfold tn;rw[eq,qD,<-d,m6 _ (by ext),m6 _ (by ext),m6 _<|by ext];simp+arith
 unfold xp;have:(λs:Nat=>tn c1 s==(k:Int))=λs:Nat=>((a:Int)+mT.getD q 0*s).fmod 12==(k:Int):=funext λs=>by rw[e]
 show sb this<|(by decide+kernel: ∀a:Nat,a<12-> ∀q:Nat,q<4-> ∀k:Nat,k<12->((List.range 12).filter λs:Nat=>((a:Int)+mT.getD q 0*s).fmod 12==(k:Int)).length<=1) a A q Q k K
theorem Vg (c1:Int) (k t:Nat):xp c1 k (t+1)=xp c1 k t+(if tn c1 t==(k:Int) then 1 else 0):=by
 unfold xp;simp only[yh,QHx,i4]
 congr 1
 erw[tK]
 split<;>rfl
noncomputable def uL (l:Nat):Nat:=[65,86,87].getD l 0
theorem MO: ∀k,k<12->cQ ⟨#[bK<|k / 3,uL<|k % 3]⟩=dM aD k:=by decide+kernel
def qg (k:Nat) (bs:List eG):Nat:=((bs.filter λc=>c.place==k).map (·.worth)).sum
theorem YV (step:Nat): ∀ds:List eG,(ds.map λc=>((step*c.worth:Nat):Int)).sum=((step*(ds.map (·.worth)).sum:Nat):Int):=by
 intro O;induction O with
 |nil=>show by rfl
 |cons c ds i=>show by simp only[dg,lT,i,dg,lT,FE];simp+arith
theorem XG: ∀l,l<3->(#[65,86,87])[l]?=aA (uL l):=by decide
theorem O4 (c:eG):cN r (.d<|bj c) 0 (aI<|dM c.up c.place)/\cN r (.d<|bj c) 3 (aB c.worth):=⟨.seq .t (by decide:(4:Int)<2^63) (rfl:_=aA 0) rfl,.seq .t (by decide:(4:Int)<2^63) (rfl:_=aA 3) rfl⟩
theorem XQ (L:Nat) {c0 c1 c2 c3 c4 c5:Int} {step:Nat} (s:step<=5000): ∀n t bs c,t+n=14->(t≠0->c.isSome=aC)->(∀b∈bs,jm step b)->bs.length<=t->(∀k,k<12->l5 k bs<=xp c1 k (min t 12)+(t - 12))->
 ∃B C,(∀b∈B,jm step b)/\B.length<=14/\(∀k,k<12->l5 k B<=3)/\ ∀K,K dE (jX [c0,c1,c2,c3,c4,c5] step ((cD B).map hP) (B.map bj)<|aA C)->fW h8 (mc.map SW.w) (aY<|L+3) ((FH t n).map λ(k:Nat)=>aB (k:Int)) (jX [c0,c1,c2,c3,c4,c5] step ((cD bs).map hP) (bs.map bj) c) K:=by
 intro n;induction n with
 |zero=>intro t bs c a N o hl hQ;show bE (GS<|N λK=>dC (nL K)<|nR a) λC g=>?_;subst g;show (iX bs C o (bB (nL a) hl) (λk P=>?_) λK h=>h);have:=hQ k P;have H:=QAj c1 P;rw[show min t 12=12 by show (FA<|(aS<|nR a))] at this;show (bB (na (na this H)<|nL<|sE ((aS<|nR a):12<=t))<|nL a)
 |succ n i=>
  intro t bs c a N o hl hQ;show fh (turn L (c0:=c0) (c1:=c1) (c2:=c2) (c3:=c3) (c4:=c4) (c5:=c5) s o (bB (nL a) hl) (t:=t)<|aS<|nL a) λkind b C A H Q v=>?_;have l:=QBt (bs:=bs) (kind:=kind) (b:=b)
  show ik (i (t+1) (nV bs kind b) (aA C) (by grind_order) (λO=>rfl) (Xz o H) (by (clear a;show bB hl l)) (λk P=>by
   have r:=Ur (bs:=bs) (kind:=kind) (b:=b) (k:=k);have g2:=hQ k P;by_cases q:t<12
   ·show bP (Q q) λW e=>dA W ?_
    simp only[show min (t+1) 12=t+1 by show (gO (q:t+1<=12)),Vg,<-e,o3];rw[show min t 12=t by (clear a;show (gO<|(aS q)))] at g2;clear a;show (bB (na r g2)<|nL<|wC ((aS q):t<=12))
   ·erw[(by (clear a;show (FA<|(aS<|fJ q))):min (t+1) 12=12)]
    rw[show min t 12=12 by (clear a;show (FA<|(aS<|fJ q)))] at g2;have:(if b.place==k then 1 else 0)<=1:=by split<;>(simp+arith)
    (clear a;show (bB (na (na (na r g2) this)<|nL<|sE ((aS<|fJ q):12<=t))<|nR<|sE ((aS<|fJ q):12<=t+1))))) λB j d f u F=>?_
  show (iX B j d f u (λK h=>by simp only[Jk,dg];show v c _ K N<|F K h))
def pt:Option (Int×aM×aM×aM)->Ls
 |none=>[]
 |some (k,x,y,z)=>[(17,aQ<|aB k),(18,aQ x),(19,aQ y),(20,aQ z)]
def fj (C:List Int) (step:Int) (H D:List aM) (c:Tl) (Y Z X:List aM) (r:Ls):Ls:=jX C step H D (aA c)++(14,aQ<|aK Y)::(15,bg Z)::(16,bg X)::r
def x5 (v:Option (Int×aM×aM×aM)) (k:Int):Ls:=match v with|none=>[(17,aQ<|aB k)]|some (_,x,y,z)=>pt<|aA (k,x,y,z)
def uM (v:Option (Int×aM×aM×aM)) (k:Int) (d t:aM):Ls:=match v with|none=>[(17,aQ<|aB k),(18,aQ d),(19,aQ t)]|some (_,x,y,z)=>pt<|aA (k,d,t,z)
def cJ (l:Ls):Ls:=sH bh<|rn l
section
variable {o:dn} {C:List Int} {step:Nat} {H D Y Z X ts:List aM} {c:Tl} {v:Option (Int×aM×aM×aM)} {k:Nat} {ds bs:List eG} {d t:aM} {r:Ls}
theorem Yj (b:eG):CE (rN 201).w bh [(bY b9 (.bA aU<|aH 2) pV).w] o (cJ<|fj C step H D c Y Z X<|x5 v k) (bj b) (if b.place==k then aA (bj b) else aE):=λx K h=>by
 induction q:b.place==k with
 |true=>
  rw[q] at h;induction v with
  |none=>show cu aU bh [bY b9 (.bA aU<|aH 2) pV] o [hi b.place,.b aC,.b aC] (cJ<|fj C step H D c Y Z X<|x5 aE k) (bj b) x K (jV b).2 ((o3 _ _).trans q) rfl tt rfl h
  |some v=>show cu aU bh [bY b9 (.bA aU<|aH 2) pV] o [hi b.place,.b aC,.b aC] (cJ<|fj C step H D c Y Z X<|x5 (aA v) k) (bj b) x K (jV b).2 ((o3 _ _).trans q) rfl tt rfl h
 |false=>
  rw[q] at h;induction v with
  |none=>show cu aU bh [bY b9 (.bA aU<|aH 2) pV] o [hi b.place,.b aD,.b aD] (cJ<|fj C step H D c Y Z X<|x5 aE k) (bj b) x K (jV b).2 ((o3 _ _).trans q) rfl ff h
  |some v=>show cu aU bh [bY b9 (.bA aU<|aH 2) pV] o [hi b.place,.b aD,.b aD] (cJ<|fj C step H D c Y Z X<|x5 (aA v) k) (bj b) x K (jV b).2 ((o3 _ _).trans q) rfl ff h
theorem QAy (b:eG):CE (EW.bA aU<|aH 1).w bh [] o (cJ<|fj C step H D c Y Z X<|uM v k d t) (bj b) (aA<|aI b.text):=λx K h=>by
 induction v with
 |none=>show cu (.bA aU<|aH 1) bh [] o [.b aC,ht b.text] (cJ<|fj C step H D c Y Z X<|uM aE k d t) (bj b) x K rfl tt (jV b).1 rfl h
 |some v=>show cu (.bA aU<|aH 1) bh [] o [.b aC,ht b.text] (cJ<|fj C step H D c Y Z X<|uM (aA v) k d t) (bj b) x K rfl tt (jV b).1 rfl h
theorem QFX {n:Int} (q:o.F 2 [aI x] (aB n)):CE (cZ 2 [aU]).w bh [] o (cJ<|fj C step H D c Y Z X<|uM v k d t) (aI x) (aA<|aB n):=λR K h=>by
 induction v with
 |none=>show cu (cZ 2 [aU]) bh [] o [.b aC,hi n] (cJ<|fj C step H D c Y Z X<|uM aE k d t) (aI x) R K rfl tt q rfl h
 |some v=>show cu (cZ 2 [aU]) bh [] o [.b aC,hi n] (cJ<|fj C step H D c Y Z X<|uM (aA v) k d t) (aI x) R K rfl tt q rfl h
theorem Y7 (b:eG) (m:ib (step:Int)+ib (b.worth:Int)<=134217728):CE (jf cV b8<|.bA aU<|aH 3).w bh [] o (cJ<|fj C step H D c Y Z X<|pt<|aA (k,d,t,z)) (bj b) (aA<|aB<|(step*b.worth:Nat)):=λx K h=>cu (.aL cV b8<|.bA aU<|aH 3) bh [] o [.b aC,hi b.worth] (cJ<|fj C step H D c Y Z X<|pt<|aA (k,d,t,z)) (bj b) x K rfl tt (O4 b).2 m rfl h
theorem QEL {n:Int}:CE (rN 201).w bh [(TW.rZ aU).w] o (cJ<|fj C step H D c Y Z X<|pt<|aA (k,d,t,z)) (aB n) none:=λx K h=>cu aU bh [.rZ aU] o [.b aD,.b aD] (cJ<|fj C step H D c Y Z X<|pt<|aA (k,d,t,z)) (aB n) x K ff rfl ff h
end
end B01
end
section
open PySem.StrLaws
namespace B01
theorem S_ {step k:Nat} {H D Y Z X xs:List aM} {ds bs:List eG} {sm:Int} {K:Fl->Ls->Prop}
 (n:D=bs.map bj) (hd:bs.filter (λc=>c.place==k)=ds) (hl:bs.length<=1000) (AQ: ∀r,cN r (.d<|aI ⟨#[112,110,109,107]⟩) ((k:Int).fdiv 3)<|aI b) (j: ∀r,cN r (.d<|aI ⟨#[65,86,87]⟩) ((k:Int).fmod 3)<|aI l) (P: ∀r,d7 r bV (.d<|aI b) (.d<|aI l)<|aI nm)
 (u:(aY L).R 1 [aI nm] H (aK<|ds.map λb=>aI b.text)) (i: ∀x∈ds.map (λb=>aI b.text),gr 8 x=aC) (A: ∀b∈ds,(aY L).F 2 [aI b.text]<|aB ((step*b.worth:Nat):Int)) (m: ∀b∈ds,ib (step:Int)+ib (b.worth:Int)<=134217728) (hs:(ds.map λb=>((step*b.worth:Nat):Int)).sum=sm) (s:X.length<16777216)
 (h:fW uC (tP.map SW.w) (aY L) xs (fj C step H D c Y Z (X++[aB sm])<|pt<|aA (k,aK<|ds.map bj,aK<|ds.map λb=>aI b.text,aK<|ds.map λb=>aB ((step*b.worth:Nat):Int))) K):
 fW uC (tP.map SW.w) (aY L) (aB k::xs) (fj C step H D c Y Z X<|pt v) K:=by
 subst n;have M:ds.length<=1000:=by erw[<-hd];show bO (ug ..) hl
 have Q:(bs.map bj).length<=16777216:=by rw[cp];show bO ‹_› (dI _ _)
 have o: ∀f:eG->aM,(ds.map f).length<=16777216:=λf=>by rw[cp];show aS M
 have W:=zm ds λb=>((step*b.worth:Nat):Int);have e: ∀(v:Option (Int×aM×aM×aM)) (K:List aM->Prop),K (ds.map bj)->cW (rN 201).w bh [(bY b9 (.bA aU<|aH 2) pV).w] (aY L) (cJ<|fj C step H (bs.map bj) c Y Z X<|x5 v k) (bs.map bj) K:=λv K h=>oy (λb O=>Yj b) K (by simp only[rP,hd];show h);have p: ∀v d t (K:List aM->Prop),K (ds.map λb=>aI b.text)->cW (EW.bA aU<|aH 1).w bh [] (aY L) (cJ<|fj C step H (bs.map bj) c Y Z X<|uM v k d t) (ds.map bj) K:=λv d t K h=>mi (f:=λb:eG=>aI b.text) (λb O=>QAy b) K h;have q: ∀v d t (K:List aM->Prop),K (ds.map λb=>aB ((step*b.worth:Nat):Int))->cW (cZ 2 [aU]).w bh [] (aY L) (cJ<|fj C step H (bs.map bj) c Y Z X<|uM v k d t) (ds.map λb=>aI b.text) K:=λv d t K h=>mi (f:=λb:eG=>aB ((step*b.worth:Nat):Int)) (λb N=>QFX<|A b N) K h;have U: ∀d t z (K:List aM->Prop),K (ds.map λb=>aB ((step*b.worth:Nat):Int))->cW (jf cV b8<|.bA aU<|aH 3).w bh [] (aY L) (cJ<|fj C step H (bs.map bj) c Y Z X<|pt<|aA (k,d,t,z)) (ds.map bj) K:=λd t z K h=>mi (λb N=>Y7 b<|m b N) K h;have g: ∀d t z (K:List aM->Prop),K []->cW (rN 201).w bh [(TW.rZ aU).w] (aY L) (cJ<|fj C step H (bs.map bj) c Y Z X<|pt<|aA (k,d,t,z)) (ds.map λb=>aB ((step*b.worth:Nat):Int)) K:=λd t z K h=>oy (f:=λO:eG=>aE) (λb O=>QEL) K (by erw[(List.filterMap_eq_nil_iff.mpr λO O=>rfl:ds.filterMap (λO:eG=>(aE:Option aM))=[])];show h);have B: ∀r,cy r .sum [.d<|aK<|ds.map λb=>aB ((step*b.worth:Nat):Int)]<|aB sm:=λr=>by have:=cy.sum (r:=r) (v:=.d<|aK<|ds.map λb=>aB ((step*b.worth:Nat):Int)) (ns:=ds.map λb=>((step*b.worth:Nat):Int)) (by erw[uX];show .d);rwa[hs] at this
 induction v with
 |none=>show ej uC tP (aY L) [.ds<|ds.map bj,.d<|aI b,.d<|aI l,.d<|aI nm,.d<|aK<|ds.map λb=>aI b.text,.ds<|ds.map λb=>aI b.text,.b aD,.b aD,.ds<|ds.map λb=>aB ((step*b.worth:Nat):Int),.ds<|ds.map λb=>aB ((step*b.worth:Nat):Int),.b aD,.b aD,.ds [],.b aD,.b aD,.b aD,.d<|aB sm] (aB k) xs (fj C step H (bs.map bj) c Y Z X<|pt aE) K Q (e aE) ff (nl rfl) (AQ _) ff (j _) (P _) u (o _) (p aE _ _) (gA .d i) ff (o _) (q aE _ _) (o _) (U _ _ _) (gA .d W) ff (o _) (g _ _ _) (gA .d nofun) ff ff (B _) s h
 |some v=>show ej uC tP (aY L) [.ds<|ds.map bj,.d<|aI b,.d<|aI l,.d<|aI nm,.d<|aK<|ds.map λb=>aI b.text,.ds<|ds.map λb=>aI b.text,.b aD,.b aD,.ds<|ds.map λb=>aB ((step*b.worth:Nat):Int),.ds<|ds.map λb=>aB ((step*b.worth:Nat):Int),.b aD,.b aD,.ds [],.b aD,.b aD,.b aD,.d<|aB sm] (aB k) xs (fj C step H (bs.map bj) c Y Z X<|pt<|aA v) K Q (e<|aA v) ff (nl rfl) (AQ _) ff (j _) (P _) u (o _) (p (aA v) _ _) (gA .d i) ff (o _) (q (aA v) _ _) (o _) (U _ _ _) (gA .d W) ff (o _) (g _ _ _) (gA .d nofun) ff ff (B _) s h
theorem QFC (L:Nat) {step:Nat} (s:step<=5000) (l: ∀b∈bs,jm step b) (hl:bs.length<=14) {k:Nat} (P:k<12) {Y Z X:List aM} (M:X.length<=12) (v:Option (Int×aM×aM×aM)): ∃F,∀xs K,
 fW uC (tP.map SW.w) (aY<|L+4) xs (fj C step ((cD bs).map hP) (bs.map bj) c Y Z (X++[aB<|(step*qg k bs:Nat)])<|pt F) K->fW uC (tP.map SW.w) (aY<|L+4) (aB k::xs) (fj C step ((cD bs).map hP) (bs.map bj) c Y Z X<|pt v) K:=by
 have o:vN bs:=λb hb=>(l b hb).pl;have u:=QAM (L+3) (EH o) (by show (?_:(bs.map iB).length+1<=1000);rw[cp];show fq ‹_› (by ext)) (cn rfl) (by erw[MO k P];show (nS k P aD).2.2.1);rw[MO k P,Uo o P,uX] at u;have hd: ∀b∈bs.filter (λc=>c.place==k),jm step b:=λb hb=>l b (uh.mp hb).1;show ⟨_,λxs K h=>S_ rfl rfl (bO ‹_› (dI _ _)) (λr=>tX (By (k / 3)<|(E3.mp λm=>(dC (na (na (na m<|qC (k) 3) P) m) m))).1 (IL<|by ext)<|by ext) (λr=>tX (XG _ (oT _ (by ext):k % 3<3)) (Li<|by ext)<|by ext) (λr=>xh rfl rfl) u (λx M=>?_) (λb hb=>?_) (λb hb=>?_) ((YV step _).trans rfl) (fq ‹_› (by ext)) h⟩
 ·show aT (gQ.mp M) λb hb U=>dA U<|QH<|OE s<|hd b hb
 ·show aT ((hd b hb).tx) λbl B e=>?_
  have W:=(hd b hb).wo;have:=QEy (L+1) (fq (oH (FG ‹_›) s)<|by ext) B;rw[<-e,wF] at this;show this
 ·have W:=(hd b hb).wo
  have A:=gB (cT _)<|bR<|oL s;have H:=gB (cT _)<|bR<|oL W;show bO (kI ‹_› ‹_›) (by ext)
theorem Ux (L:Nat) {step:Nat} (s:step<=5000) (o: ∀b∈bs,jm step b) (hl:bs.length<=14): ∀(n k:Nat) (v:Option (Int×aM×aM×aM)),k+n=12-> ∃F,∀K,
 K dE (fj C step ((cD bs).map hP) (bs.map bj) c Y Z ((cg 12).map λk=>aB<|(step*qg k bs:Nat))<|pt F)->fW uC (tP.map SW.w) (aY<|L+4) ((FH k n).map λ(k:Nat)=>aB (k:Int)) (fj C step ((cD bs).map hP) (bs.map bj) c Y Z ((cg k).map λk=>aB<|(step*qg k bs:Nat))<|pt v) K:=by
 intro n;induction n with
 |zero=>show λk v P=>⟨v,λK h=>by erw[(by assumption:k=12)];show h⟩
 |succ n i=>show λk v P=>by show bE (QFC L (C:=C) s o hl (k:=k) (aS<|nL P) (c:=c) (Y:=Y) (Z:=Z) (X:=(cg k).map λk=>aB<|(step*qg k bs:Nat)) (by simp only[cp,uZ];show aS<|nL P) v) λv1 H=>bE (i (k+1) v1<|by grind_order) λv2 m=>⟨v2,λK h=>?_⟩;simp only[Jk,dg];show H _ K ?_;have:=m K h;simp only[yh,gR] at this;show this
theorem QBR {step:Nat} (s:step<=5000) (o: ∀b∈bs,jm step b): ∀d∈(cD bs).map hP,gr 8 d=true:=λd Y=>by
 show aT (gQ.mp Y) λp P e=>dA e ?_;rcases dR.mp P with rfl|P
 ·show GN (by decide+kernel) (by decide+kernel)
 ·show aT (gQ.mp P) λb B e=>dA e<|GN (WA _ (o b B).pl _)<|OE s<|o b B
theorem QBG {step:Nat} (o: ∀b∈bs,jm step b) (k:Nat):qg k bs<=3*l5 k bs:=by
 delta qg l5
 have: ∀A:List eG,(∀b∈A,jm step b)->(A.map (·.worth)).sum<=3*A.length:=by
  intro A h;induction A with
  |nil=>show iz _
  |cons d A i=>have H:=i λb B=>h b<|.tail _ B;have m:=(h d<|.head _).wo;simp only[dg,lT,jd];show bB H m
 show this _ λb B=>o b (uh.mp B).1
theorem QBw {step:Int} {H D:List aM} (b:eG):CE (hR [.bA aU<|aH 0,.bA aU<|aH 1]).w bh [] o (cJ<|jX C step H D<|aA c) (bj b) (aA<|hP<|iB b):=λx K h=>cu (hR [.bA aU<|aH 0,.bA aU<|aH 1]) bh [] o [.b aC,ht<|dM b.up b.place,ht b.text] (cJ<|jX C step H D<|aA c) (bj b) x K rfl tt (O4 b).1 (jV b).1 rfl h
theorem QEH (L:Nat) {c0 c1 c2 c3 c4 c5:Int} {step:Nat} (s:step<=5000): ∃V:Nat->Nat,(∀k,k<12->V k<=9)/\(aY<|L+5).F 19 [aK<|[c0,c1,c2,c3,c4,c5].map aB,aB step] (aK<|(cg 12).map λk=>aB<|(step*V k:Nat)):=by
 show ik (XQ (L+1) (c0:=c0) (c1:=c1) (c2:=c2) (c3:=c3) (c4:=c4) (c5:=c5) s 14 0 [] aE rfl (λh=>QIe rfl h) (by intro b Q;trivial) (cY 0) (λk O=>iz _)) λM c l g i B=>bE (Ux L (C:=[c0,c1,c2,c3,c4,c5]) s l g (c:=c) (Y:=(cD M).map hP) (Z:=(cD M).map hP++[hP (⟨#[112,97,119]⟩,⟨#[48]⟩)]) 12 0 aE rfl) λv t=>(bJ (λk=>qg k M) (λk H=>by have:=QBG l k;have:=i k H;show (?_);show (bB ‹qg k M<=3*l5 k M› (fO 3 this)))<|fu ?_ rfl);rw[<-Rq] at B t;have x:(cD M).length<=15:=by show (?_:(M.map iB).length+1<=15);rw[cp];show RW ‹_› _
 have m:((cD M).map hP).length<=15:=by rw[cp];show x
 have z:=(Ow (L+2) (nm:=⟨#[80,65,87]⟩) (tx:=⟨#[48]⟩) (ps:=[qb]) (by intro p a;erw[oW.mp a];show cn rfl) (by ext) (cn rfl) (by decide+kernel) (by decide+kernel)<|by decide+kernel).1 ⟨#[]⟩ (by (erw[Kr];erw[(by decide+kernel:(cQ qb.1==cQ ⟨#[80,65,87]⟩)=aC)]);rfl);have W:=QBH (L+3) (ps:=cD M)<|bO ‹_› (dI _ _);have o:=QBR s l
 have u: ∀d∈(cD M).map hP++[hP (⟨#[112,97,119]⟩,⟨#[48]⟩)],gr 8 d=true:=λd q=>by
  show Or.elim (jZ.mp q) (λq=>?_) λq=>?_
  ·show o d q
  ·show sb (oW.mp q)<|GN (by decide+kernel) (by decide+kernel)
 have j: ∀K:List aM->Prop,K (M.map λb=>hP<|iB b)->cW (hR [.bA aU<|aH 0,.bA aU<|aH 1]).w bh [] (aY<|L+4) (cJ<|jX [c0,c1,c2,c3,c4,c5] step ((cD M).map hP) (M.map bj)<|aA c) (M.map bj) K:=λK h=>mi (f:=λb=>hP<|iB b) (λb O=>QBw b) K h;have A: ∀r,d7 r bV (.d<|aK [hP qb]) (.d<|aK<|M.map λb=>hP<|iB b)<|aK<|(cD M).map hP:=λr=>by have:=sf (r:=r) (xs:=[hP qb]) (ys:=M.map λb=>hP<|iB b) (by rw[cp];show (?_);show aS g);show sb (by simp[cD]:(cD M).map hP=[hP qb]++M.map λb=>hP<|iB b)<|this
 have e: ∀r,d7 r bV (.d<|aK<|(cD M).map hP) (.d<|aK [hP (⟨#[112,97,119]⟩,⟨#[48]⟩)])<|aK<|(cD M).map hP++[hP (⟨#[112,97,119]⟩,⟨#[48]⟩)]:=λr=>sf (by show (?_);show fq ‹_› (by ext));have n: ∀r,r bC=bg ((cD M).map hP)->f9 r dT (tL bC) (.d<|aK<|(cD M).map hP) false:=λr h=>gA (.bor h) o;have N: ∀r,r 15=bg ((cD M).map hP++[hP (⟨#[112,97,119]⟩,⟨#[48]⟩)])->f9 r dT (tL 15) (.d<|aK<|(cD M).map hP++[hP (⟨#[112,97,119]⟩,⟨#[48]⟩)]) false:=λr h=>gA (.bor h) u;have P:[hP qb].all vg=true:=by decide+kernel
 induction v with
 |none=>show d5 b_law_book 2 [.h (aI ⟨#[]⟩) [hP qb],.b aD,.b aD,.f dE<|jX [c0,c1,c2,c3,c4,c5] step ((cD M).map hP) (M.map bj)<|aA c,.ds<|M.map λb=>hP<|iB b,hl<|(cD M).map hP,hl<|(cD M).map hP,.b aD,.b aD,hl<|(cD M).map hP++[hP (⟨#[112,97,119]⟩,⟨#[48]⟩)],.b aD,.b aD,.b aD,.f dE<|fj [c0,c1,c2,c3,c4,c5] step ((cD M).map hP) (M.map bj) c ((cD M).map hP) ((cD M).map hP++[hP (⟨#[112,97,119]⟩,⟨#[48]⟩)]) ((cg 12).map λk=>aB<|(step*qg k M:Nat))<|pt aE] (aY<|L+4) [aK<|[c0,c1,c2,c3,c4,c5].map aB,aB step] _ rfl P z (nT aD rfl) ff tt B (by rw[cp];show bO ‹_› (dI _ _)) j (A _) W (fq ‹_› (by ext)) (n _ rfl) ff (e _) (N _ rfl) ff ff tt t .ret
 |some v=>show d5 b_law_book 2 [.h (aI ⟨#[]⟩) [hP qb],.b aD,.b aD,.f dE<|jX [c0,c1,c2,c3,c4,c5] step ((cD M).map hP) (M.map bj)<|aA c,.ds<|M.map λb=>hP<|iB b,hl<|(cD M).map hP,hl<|(cD M).map hP,.b aD,.b aD,hl<|(cD M).map hP++[hP (⟨#[112,97,119]⟩,⟨#[48]⟩)],.b aD,.b aD,.b aD,.f dE<|fj [c0,c1,c2,c3,c4,c5] step ((cD M).map hP) (M.map bj) c ((cD M).map hP) ((cD M).map hP++[hP (⟨#[112,97,119]⟩,⟨#[48]⟩)]) ((cg 12).map λk=>aB<|(step*qg k M:Nat))<|pt<|aA v] (aY<|L+4) [aK<|[c0,c1,c2,c3,c4,c5].map aB,aB step] _ rfl P z (nT aD rfl) ff tt B (by rw[cp];show aS g) j (A _) W (aS m) (n _ rfl) ff (e _) (N _ rfl) ff ff tt t .ret
end B01
end
section
open PySem.StrLaws PySem.Builtin.Str
theorem Fq {p:Nat->Bool}: ∀{k s i:Nat},ir p k s=aA i-> ∀j,s<=j->j<i->p j=aD
 |0,s,i,h=>bM h
 |k+1,s,i,h=>by
  unfold ir at h
  split at h
  ·cases h;intro j H m;show QIe ‹_› (jt.mpr ‹_›)
  ·rename_i q
   intro j H m;by_cases e:j=s
   ·subst e
    simpa using q
   ·show Fq h j (((rK e).elim (λu=>(bB (na H u) H)) λu=>u)) m
theorem KZ: ∀{k s:Nat},ir p k s=aE-> ∀j,s<=j->j<s+k->p j=false:=by
 intro k;induction k with
 |zero=>show @λs h j H i=>QIe H<|E3.mpr i
 |succ k d=>
  show @λs h j H i=>by
   unfold ir at h;by_cases q:p s=aC
   ·rw[if_pos q] at h
    show sT h
   ·rw[if_neg q] at h
    by_cases e:j=s
    ·erw[e]
     simpa using q
    ·show d h j (((rK e).elim (λu=>(bB (na H u) H)) λu=>u))<|aS i
theorem QCR: ∀(r:List aN) (a:Array Nat),(r.foldl (λa p=>a++(#[])++p.cps) a).toList=a.toList++(r.map (·.cps.toList)).flatten:=by
 intro O;induction O with
 |nil=>show λa=>by simp
 |cons p r i=>show λa=>by rw[vu,i];simp
theorem Kg (ts:List aN):(sh ts).cps.toList=(ts.map (·.cps.toList)).flatten:=by
 delta sh;induction ts with
 |nil=>rfl
 |cons t ts=>delta Jc glued;show (?_:(ts.foldl (λa p=>a++(#[]:Array Nat)++p.cps) t.cps).toList=_);rw[QCR];rfl
noncomputable def e2:List Nat->List Nat
 |[]=>[]
 |[c]=>if c==13||c==10 then [13,10] else [c]
 |c::d::r=>if c==13 && d==10 then 13::10::e2 r else if c==13||c==10 then 13::10::e2 (d::r) else c::e2 (d::r)
theorem Du:e2 []=[]:=rfl
theorem Cf {c}:e2 [c]=if c==13||c==10 then [13,10] else [c]:=rfl
theorem De {c d r}:e2 (c::d::r)=if c==13 && d==10 then 13::10::e2 r else if c==13||c==10 then 13::10::e2 (d::r) else c::e2 (d::r):=rfl
theorem Wg (h:c≠13/\c≠10) (r:List Nat):e2 (c::r)=c::e2 r:=by
 have a:(c==13)=false:=by simp[h.1]
 have b:(c==10)=false:=by simp[h.2]
 induction r<;>simp[Du,Cf,De,a,b]
theorem w7: ∀p r,(∀c∈p,c≠13/\c≠10)->e2 (p++r)=p++e2 r:=by
 intro O;induction O with
 |nil=>show λO O=>rfl
 |cons c p i=>show λr h=>by rw[wB,Wg<|h c<|.head _,i r λd Y=>h d<|.tail _ Y];rfl
theorem Pf (r:List Nat):e2 (10::r)=13::10::e2 r:=by induction r<;>(rfl)
theorem LF (r:List Nat):e2 (13::10::r)=13::10::e2 r:=by rfl
theorem Qn (h:r.head?≠aA 10):e2 (13::r)=13::10::e2 r:=by
 induction r with
 |nil=>rfl
 |cons d r=>
  have:(d==10)=false:=by simp;intro e;apply h;simp[e]
  simp[Du,Cf,De,this]
theorem y7 {t:List Nat} (h:a<t.length):t.drop a=t.getD a 0::t.drop (a+1):=by erw[Eu h];simp[yi,h]
theorem xm (t:Array Nat) (a:Nat):t.getD a 0=t.toList.getD a 0:=by simp[yi,Jf]
theorem DE (t:Array Nat) (a b:Nat):(t.extract a b).toList=(t.toList.drop a).take (b - a):=by simp
theorem M8 {l:List Nat} (h:c∈(l.drop d).take (a - d)): ∃j,d<=j/\j<a/\j<l.length/\l.getD j 0=c:=by show bE (List.getElem?_of_mem h) λi t=>?_;have H:=(Ef.mp t).1;simp at H;rw[List.getElem?_take_of_lt<|(bB H<|QHy (a - d)<|l.length - d),List.getElem?_drop] at t;show (ij (d+i) (jb _ _) (((Js (a)<|d).elim (λu=>(dC (na H<|nL<|gO ((aS<|nL<|wC (u:a<=d)):a - d<=l.length - d))<|nL<|wC (u:a<=d))) λu=>(bB (na (nL<|sE (u:d<=a)) H)<|QHy (a - d)<|l.length - d))) (((Js (l.length)<|d).elim (λu=>(dC (na H<|nL<|FA ((aS<|nL<|wC (u:l.length<=d)):l.length - d<=a - d))<|nL<|wC (u:l.length<=d))) λu=>(bB (na (nL<|sE (u:d<=l.length)) H)<|Eb (a - d)<|l.length - d))) ?_);simp[yi,t]
theorem QJ (x:aN):(q2 x).cps.toList=e2 x.cps.toList:=by
 dsimp only[q2];rw[Kg]
 have key: ∀k d,d<=x.cps.size->x.cps.size<d+k->((jB (tw x.cps) AB x.cps k d).map (·.cps.toList)).flatten=e2 (x.cps.toList.drop d):=by
  intro k;induction k with
  |zero=>intro d u m;show QIe ‹_› (jt.mpr ‹_›)
  |succ k z=>
   intro d u m;have hlen:x.cps.toList.length=x.cps.size:=mY;induction hn:tw x.cps d with
   |none=>
    erw[Ca hn];unfold tw at hn;have N:=KZ<|QHz.mp hn;have C: ∀c∈x.cps.toList.drop d,c≠13/\c≠10:=by intro c W;show rV (M8 (by erw[vv<|by simp];show W:c∈(x.cps.toList.drop d).take (x.cps.size - d))) λj r Y t o=>?_;erw[<-o];have:=N j r<|(bB Y<|nR<|sE ((aS u):d<=x.cps.size+1));unfold jN at this;rw[xm] at this;have hb:di j x.cps.size=true:=qA Y;rw[hb,Az,RA] at this;generalize x.cps.toList.getD j 0=v at this⊢;simp at this;omega
    have:=w7 (x.cps.toList.drop d) [] C;rw[lQ] at this;erw[this];dsimp only[Du,Cf,De,lQ];by_cases q:d<x.cps.size
    ·simp only[q,if_true,dg,rJ,FI,J2,lQ,DE]
     show vv (by simp)
    ·simp only[q,if_false]
     erw[uf<|fJ ‹_›];rfl
   |some p=>
    obtain ⟨a,e⟩:=p;erw[EA hn];have H:=(Ka d a e hn);have l:=H.1;have P:=H.2.1;have M:=H.2.2;unfold tw at hn;show aT (nE.mp hn) λR K n=>?_;clear u hlen hn;cases n;have b:=Fq K;have H:=(AN K);have A:=H.1;have C: ∀c∈(x.cps.toList.drop d).take (a - d),c≠13/\c≠10:=by intro c W;show rV (M8 W) λj r Y t o=>dA o ?_;have:=b j r Y;unfold jN at this;rw[xm] at this;have hb:di j x.cps.size=true:=qA (by assumption);rw[hb,Az,RA] at this;generalize x.cps.toList.getD j 0=v at this⊢;simp at this;omega
    have s:x.cps.toList.drop d=(x.cps.toList.drop d).take (a - d)++x.cps.toList.drop a:=by
     conv=>lhs;rw[<-tH (a - d) (x.cps.toList.drop d)]
     rw[QHl,show d+(a - d)=a by show RY ‹_›]
    have Q:e2 (x.cps.toList.drop a)=13::10::e2 (x.cps.toList.drop<|rS x.cps a):=by
     unfold jN at A;rw[gb] at A;have L:a<x.cps.size:=cn A.1;have W:=A.2;dsimp only[rS];rw[xm] at W⊢;rw[xm,y7 (by assumption:a<x.cps.toList.length)];generalize B:x.cps.toList.getD a 0=v at*;simp only[yU,beq_iff_eq] at W;clear z m l K H P M b A C s B;rcases W with rfl|rfl
     ·rw[Pf]
      rfl
     ·by_cases q:a+1<x.cps.size
      ·rw[y7 (by assumption:a+1<x.cps.toList.length)]
       have hb:di (a+1) x.cps.size=true:=qA q;rw[hb];by_cases q2:x.cps.toList.getD (a+1) 0=10
       ·rw[q2,LF]
        rfl
       ·rw[Qn<|by simpa using q2]
        have:(x.cps.toList.getD (a+1) 0==10)=false:=by simpa using q2
        rw[this];simp only[Jt,rB,if_false];rw[y7 (by omega:a+1<x.cps.toList.length)]
      ·have hb:di (a+1) x.cps.size=false:=by
        rw[yB];intro h;have:=cn h;clear L;show dC (fJ q) this
       rw[hb];simp only[RZ,Jt,rB,if_false];rw[uf<|fJ ‹_›];rfl
    have i:=z (rS x.cps a) M<|bB (na m l) P;rw[s,w7 _ _ C,Q,gR,List.flatten_append,dg,FI,i]
    congr 1
    by_cases q:d<a
    ·simp only[q,if_true,dg,rJ,FI,J2,lQ,DE]
    ·simp only[q,if_false]
     rw[show a - d=0 by show (mQ (bB (nL<|sE (l:d<=a))<|fJ q)<|by simp+arith)];rfl
 rw[key (x.cps.size+1) 0 (iz _)<|dI _ _];rfl
noncomputable def e1:Bool->List Nat->List Nat
 |_,[]=>[]
 |b,c::r=>(if b && c==46 then [46,46] else [c])++e1 (c==10) r
theorem u4 {u0}:e1 u0 []=[]:=rfl
theorem qP {b c r}:e1 b (c::r)=(if b && c==46 then [46,46] else [c])++e1 (c==10) r:=rfl
def Ag (b:Bool) (p:List Nat):Bool:=match p.getLast? with|none=>b|some c=>c==10
theorem QBc (x:aN):(q1 x).cps.toList=e1 aC x.cps.toList:=by
 delta q1;rw[Kg];have hlen:x.cps.toList.length=x.cps.size:=mY
 let fl:Nat->Bool:=λd=>if d=0 then aC else x.cps.toList.getD (d - 1) 0==10
 have Y: ∀s,s<x.cps.size->md x.cps s=(fl s && x.cps.toList.getD s 0==46):=by
  intro s hs;have hb:di s x.cps.size=true:=qA hs;delta md zK;simp only[hb,Et,xm,xm];show (?_:_=((if s=0 then aC else x.cps.toList.getD (s - 1) 0==10) && _));generalize x.cps.toList.getD (s - 1) 0=u;generalize x.cps.toList.getD s 0=v;by_cases q:s=0
  ·erw[q]
   rfl
  ·have:(s==0)=false:=by simpa using q
   simp[q,this]
 have step: ∀d,d<x.cps.size->e1 (fl d) (x.cps.toList.drop d)=(if md x.cps d then [46,46] else [x.cps.toList.getD d 0])++e1 (fl<|d+1) (x.cps.toList.drop<|d+1):=by intro d hd;simp only[y7 (by omega:d<x.cps.toList.length),u4,qP,Y d hd];rfl
 have run: ∀n d,d+n<=x.cps.size->(∀j,d<=j->j<d+n->md x.cps j=aD)->e1 (fl d) (x.cps.toList.drop d)=(x.cps.toList.drop d).take n++e1 (fl<|d+n) (x.cps.toList.drop<|d+n):=by
  intro n;induction n with
  |zero=>intro d _ _;simp
  |succ n z=>intro d H h;simp only[step d<|fq (jb _ _) ‹_›,h d (by simp+arith) (by simp+arith),z (d+1) (aS H) λj P W=>h j (s7 ‹_›)<|aS W];simp only[y7 (fq (jb _ _) ‹_› :d<x.cps.toList.length),List.take_succ_cons,show d+1+n=d+(n+1) by show v5 _ _ _];rfl
 have key: ∀k d,d<=x.cps.size->x.cps.size<d+k->((jB (vQ x.cps) y6 x.cps k d).map (·.cps.toList)).flatten=e1 (fl d) (x.cps.toList.drop d):=by
  intro k;induction k with
  |zero=>intro d H h;show QIe ‹_› (jt.mpr ‹_›)
  |succ k z=>
   intro d H h;induction hn:vQ x.cps d with
   |none=>
    erw[Ca hn];unfold vQ at hn;have N:=KZ<|QHz.mp hn;have r:=run (x.cps.size - d) d (aS<|sL (by assumption:d<=x.cps.size)) N;simp only[r,show d+(x.cps.size - d)=x.cps.size by show RY ‹_›,uf (pZ ‹_› :x.cps.toList.length<=x.cps.size)];simp only[u4,qP,lQ];erw[vv<|by simp];by_cases q:d<x.cps.size
    ·simp only[q,if_true,dg,rJ,FI,J2,lQ,DE]
     show vv (by simp)
    ·simp only[q,if_false]
     erw[uf<|fJ ‹_›];rfl
   |some p=>
    obtain ⟨a,e⟩:=p;show sb (EA hn)<|eA (Of d a e hn) λl M K=>aT (nE.mp hn) λR Q g=>?_;clear hn l M;cases g;have b:=Fq Q;show eA (AN Q) λA O O=>?_;have r:=run (a - d) d (bB K<|sL (by assumption:d<=a)) (λj P W=>b j P<|bB W<|sL (by assumption:d<=a));rw[show d+(a - d)=a by show (xg<|sE ((aS ‹d<=a›):d<=a))] at r;show sb r<|sb (step a<|aS K)<|sb A<|sb (if_pos rfl) ?_;have i:=z (a+1) K<|(bB h ‹d<=a›);simp only[List.map_append,List.flatten_append,List.map_cons,List.flatten_cons,i]
    congr 1
    by_cases q:d<a
    ·simp only[q,if_true,dg,rJ,FI,J2,lQ,DE]
    ·simp only[q,if_false]
     erw[((mQ (bB (nL<|sE ((aS ‹d<=a›):d<=a))<|fJ q)<|by simp+arith):a - d=0)];rfl
 erw[key (x.cps.size+1) 0 (iz _)<|dI _ _];rfl
theorem Zt: ∀p r b,e1 b (p++r)=e1 b p++e1 (Ag b p) r:=by
 intro p;induction p with
 |nil=>show λO O=>rfl
 |cons c q i=>
  show λr b=>by
   induction q with
   |nil=>simp[u4,qP,Ag]
   |cons d p O=>
    rw[wB,qP,i r<|c==10];have:Ag b (c::d::p)=Ag (c==10) (d::p):=by rfl
    erw[this]
    conv=>rhs;lhs;rw[qP]
    rw[nI]
theorem KJ: ∀p,(∀c∈p,c≠10)->e1 aD p=p:=by
 intro O;induction O with
 |nil=>show λO=>rfl
 |cons c p i=>
  show λh=>by
   have:(c==10)=false:=by simpa using h c (.head _)
   simp only[u4,qP,this,i λd Y=>h d<|.tail _ Y];rfl
namespace B01
theorem QCK (L:Nat) (h:x.cps.size<=100000) (H:(q2 x).cps.size<=400000):(aY<|L+1).F 9 [aI x] (aI<|q1<|q2 x):=.q rfl rfl rfl (bO h<|by ext) H
end B01
end
section
open PySem.StrLaws PySem.Builtin.Str
theorem L4 {n:Nat} (h:1<=n):Txt.mul ⟨#[46]⟩ (n:Int)=⟨(hG n 46).toArray⟩:=by
 dsimp only[Txt.mul];erw[if_neg λK=>gX K<|oL h]
 have f: ∀k a,((hG k (#[46]:Array Nat)).foldl (· ++ ·) a).toList=a.toList++hG k 46:=by
  intro k;induction k with
  |zero=>intro a;simp
  |succ k i=>intro a;rw[BW,vu,i,BW];simp
 apply Al;by_cases q:n=1
 ·subst q
  rfl
 ·have:((n:Int)==1||(⟨#[46]⟩:Str).length==0)=false:=by
   erw[(by simp;(clear h;lia -abstractProof):((n:Int)==1)=aD)];rfl
  erw[this];simp only[rB,if_false,qD];rw[f];rfl
def cb (e:Nat):List Nat:=match e with|0=>[10]|1=>[13]|_=>[13,10]
theorem z9 (r:List Nat) (h:e≠1\/r.head?≠aA 10):e2 (cb e++r)=13::10::e2 r:=by
 rcases e with O|O|O
 ·show Pf r
 ·show Qn<|h.resolve_left λq=>q rfl
 ·show LF r
theorem zt (b:Bool) (e8 r:List Nat):e1 b (e8++13::10::r)=e1 b e8++13::10::e1 aC r:=by
 simp only[Zt];generalize Ag b e8=c;have:e1 c (13::10::r)=13::10::e1 aC r:=by simp[qP]
 show sb this rfl
theorem Pz (a:List Nat):(⟨a.toArray⟩:aN).length=a.length:=jH ..
namespace B01
theorem uE: ∀e,(cb e).length<=2
 |0=>by decide
 |1=>by decide
 |n+2=>by show (?_);show dI _ _
noncomputable def dB (b l:Nat):Nat:=b / 2^l % 2
theorem Ll: ∀b:Nat,b<8-> ∀l:Nat,l<3->jG ((b:Int).fdiv<|2^l) 1=(dB b l:Int)/\dB b l<2:=by decide+kernel
def e8 (p b w l v:Nat):List Nat:=(if b=0 then [f6 w] else [])++hG (1+p) 46++[eZ (lK l) v]
theorem Cs {W:Int} {z:Nat} (Z:W.fmod 3=z) (t:Nat):(W+(t:Int)).fmod 3=(((z+t) % 3:Nat)):=by rw[m6 _<|by ext] at Z⊢;rw[<-Int.emod_add_emod,Z];rfl
noncomputable def eD:List Dat:=[aI ⟨#[10]⟩,aI ⟨#[13]⟩,aI ⟨#[13,10]⟩]
theorem Gz: ∀k,k<3->eD[k]?=aA (aI ⟨(cb k).toArray⟩)
 |0,_=>rfl
 |1,_=>rfl
 |2,_=>rfl
 |n+3,h=>QIe h λK=>n6 K
def pP (P:List aM) (b W:Int) (x:aN) (t:Option (Int×Int)):Ls:=(0,aQ<|aK P)::(1,aQ<|aB b)::(2,aQ<|aB W)::(3,aQ<|aK eD)::(4,aQ<|aI x)::match t with|none=>[]|some q=>vs 5 [q.1,q.2]
theorem XA {B W t l p:Int} {x0 x1 H U x hd ds c s e:aN} {K:Fl->Ls->Prop} (Q:(W+t).fmod 3=l) (g:0<=l) (z:Bool) (L:(jG (B.fdiv<|2^l.toNat) 1==0)=z)
 (n:z=aC->o.F 14 [aB<|W.fdiv 3+l] (aI hd)/\ ∀r,d7 r bV (.d<|aI x0) (.d<|aI hd)<|aI x1) (R:z=aD->x1=x0) (i: ∀r,cN r (.d<|aK P) l<|aB p) (m: ∀r,d7 r cV (.d<|aI ⟨#[46]⟩) (.d<|aB<|1+p)<|aI ds) (c1: ∀r,d7 r bV (.d<|aI x1) (.d<|aI ds)<|aI H) (j: ∀r,cN r (.d<|aI ⟨#[97,118,119]⟩) l<|aI c)
 (C:o.F 13 [aI c,aB<|W.fdiv 81+t] (aI s)) (c2: ∀r,d7 r bV (.d<|aI H) (.d<|aI s)<|aI U) (Z: ∀r,cN r (.d<|aK eD) ((W.fdiv 7+t).fmod 3)<|aI e) (c3: ∀r,d7 r bV (.d<|aI U) (.d<|aI e)<|aI x)
 (h:fW h8 (qJ.map SW.w) o xs (pP P B W x<|aA (t,l)) K):fW h8 (qJ.map SW.w) o (aB t::xs) (pP P B W x0 tl) K:=by
 subst Q;induction z with
 |true=>
  have f:=(n rfl);have A:=f.1;have u:=f.2;induction tl with
  |none=>show ej h8 qJ o [.b aC,ht hd,ht x1,hi p,ht ds,ht H,ht c,ht s,ht U,ht e,ht x] (aB t) xs (pP P B W x0 aE) K ff g L ff (nl rfl) A (u _) (i _) (m _) (c1 _) (j _) ff (nl rfl) C (c2 _) ff (nl rfl) ff (Z _) (c3 _) h
  |some q=>show ej h8 qJ o [.b aC,ht hd,ht x1,hi p,ht ds,ht H,ht c,ht s,ht U,ht e,ht x] (aB t) xs (pP P B W x0<|aA q) K ff g L ff (nl rfl) A (u _) (i _) (m _) (c1 _) (j _) ff (nl rfl) C (c2 _) ff (nl rfl) ff (Z _) (c3 _) h
 |false=>
  clear n;cases R rfl;induction tl with
  |none=>show ej h8 qJ o [.b aD,hi p,ht ds,ht H,ht c,ht s,ht U,ht e,ht x] (aB t) xs (pP P B W x0 aE) K ff g L (i _) (m _) (c1 _) (j _) ff (nl rfl) C (c2 _) ff (nl rfl) ff (Z _) (c3 _) h
  |some q=>show ej h8 qJ o [.b aD,hi p,ht ds,ht H,ht c,ht s,ht U,ht e,ht x] (aB t) xs (pP P B W x0<|aA q) K ff g L (i _) (m _) (c1 _) (j _) ff (nl rfl) C (c2 _) ff (nl rfl) ff (Z _) (c3 _) h
theorem G2 (L:Nat) {P:List Nat} (hP:P.length=3) (F: ∀p∈P,p<=100) {b:Nat} (hb:b<8) {W:Int} {z:Nat} (f:W.fmod 3=z) {e:Nat} (Z:(W.fdiv 7).fmod 3=e) {T:List Nat} (U:T.length<=1000000) (t:Nat) (R:t<3):
 ∃(w v:Nat),w<27/\v<12/\ ∀tl xs K,fW h8 (qJ.map SW.w) (aY<|L+1) xs (pP (P.map λ(p:Nat)=>aB p) b W ⟨(T++(e8 (P.getD ((z+t) % 3) 0) (dB b<|(z+t) % 3) w ((z+t) % 3) v++cb ((e+t) % 3))).toArray⟩<|aA (t,((z+t) % 3:Nat))) K->
  fW h8 (qJ.map SW.w) (aY<|L+1) (aB t::xs) (pP (P.map λ(p:Nat)=>aB p) b W ⟨T.toArray⟩ tl) K:=by
 have c:=Cs f t;have ex:(W.fdiv 7+(t:Int)).fmod 3=(((e+t) % 3:Nat):Int):=Cs Z t;have N:(z+t) % 3<3:=oT _ (by ext);have o:(e+t) % 3<3:=oT _ (by ext);generalize (z+t) % 3=l at*;generalize (e+t) % 3=u at*;have H:=(Ll b hb l N);have a:=H.1;have Y:=H.2;show aT (iT (W.fdiv 3+l) (n:=27)<|by ext) λw M ew=>aT (iT (W.fdiv 81+t) (n:=12)<|by ext) λv m ev=>?_;have kl:=H7 _<|tc.2 l N;have B:P.getD l 0<=100:=F _ (by (erw[BY];erw[p8<|by grind_order]);show Jr _);have g:P[l]?.getD 0<=100:=by erw[<-BY];show B
 have Q:=uE u;have j: ∀r,d7 r cV (.d<|aI ⟨#[46]⟩) (.d<|aB<|1+(P.getD l 0:Nat))<|aI ⟨(hG (1+P.getD l 0) 46).toArray⟩:=λr=>sb (by lia -abstractProof:(1+(P.getD l 0:Nat):Int)=((1+P.getD l 0:Nat):Int))<|dA (L4<|Nat.le_add_right _ _)<| .rep (by ext) (bR<|oL B)<|Int.natCast_nonneg _
 show (d0 w v M m λtl xs K h=>?_);have C:((dB b l:Int)==0)=decide (dB b l=0):=by rw[show (0:Int)=((0:Nat):Int) from rfl,o3,Ec,beq_iff_eq,decide_eq_true_iff]
 show XA (x1:=⟨(T++(if dB b l=0 then [f6 w] else [])).toArray⟩) (hd:=⟨#[f6 w]⟩) (s:=⟨#[eZ (lK l) v]⟩) c (cT _) (decide (dB b l=0)) (by rw[qD,a];show C) (λq=>⟨Gv L ew M,λr=>?_⟩) (λq=>by rw[if_neg<|of_decide_eq_false q,lQ]) (λr=>ic (w:=l) (d:=aB (P.getD l 0:Nat)) (by (erw[nM];erw[getD_some (d:=0) (by rw[hP];show N)]);rfl) rfl (by rw[cp,hP];decide)) j (λr=>vF ?_) (λr=>tX (AW l N).1 rfl (by ext)) (Ft L kl.1 kl.2 ev m) (λr=>vF (y:=[eZ (lK l) v]) ?_) (λr=>ic (Gz u o) ex<|by ext) (λr=>vF ?_) (by
  have:T++(e8 (P.getD l 0) (dB b l) w l v++cb u)=T++(if dB b l=0 then [f6 w] else [])++hG (1+P.getD l 0) 46++[eZ (lK l) v]++cb u:=by simp[e8]
  rw[<-this]
  show h)
 ·rw[if_pos<|of_decide_eq_true q]
  show vF (by show (?_:_+1<=_);show fq ‹_› (by ext))
 all_goals
  simp only[i4,SH,jd,tI]
  split<;>simp<;>lia -abstractProof
theorem UK (L:Nat) {P:List Nat} (hP:P.length=3) (M: ∀p∈P,p<=100) {B:Nat} (hb:B<8) {W:Int} {z:Nat} (hz:W.fmod 3=z) {s:Nat} (hs:s<24) (hs':W.fmod 24=s):
 ∃(e:Nat) (w v:Nat->Nat),e<3/\(∀t,w t<27/\v t<12)/\(aY<|L+2).F 21 [aK<|P.map λ(p:Nat)=>aB p,aB B,aB W] (aI ⟨(
  e8 (P.getD ((z+0) % 3) 0) (dB B<|(z+0) % 3) (w 0) ((z+0) % 3) (v 0)++cb ((e+0) % 3)++(e8 (P.getD ((z+1) % 3) 0) (dB B<|(z+1) % 3) (w 1) ((z+1) % 3) (v 1)++cb ((e+1) % 3))++(e8 (P.getD ((z+2) % 3) 0) (dB B<|(z+2) % 3) (w 2) ((z+2) % 3) (v 2)++cb ((e+2) % 3))++[d8 s]++[46,32]++cb e++cb ((e+1) % 3)++[46]).toArray⟩):=by
 show aT (iT (W.fdiv 7) (n:=3)<|by ext) λe Z ee=>?_
 have cl: ∀t w v,(e8 (P.getD ((z+t) % 3) 0) (dB B<|(z+t) % 3) w ((z+t) % 3) v++cb ((e+t) % 3)).length<=202:=λt w v=>by
  have Q:=(λk=>M _ (by (erw[BY];erw[p8<|bB (nR hP)<|oT (k) (by decide:0<3)]);show Jr _): ∀k,P.getD (k % 3) 0<=100)<|z+t;simp only[BY] at Q;have R:=uE<|(e+t) % 3;unfold e8
  split<;>simp<;>(show bB Q R)
 show cI (G2 L hP M hb hz ee (T:=[]) (iz _) 0<|by ext) λo H ag ae c=>?_;have x0:=cl 0 o H;simp only[BV] at c;generalize g:e8 (P.getD ((z+0) % 3) 0) (dB B<|(z+0) % 3) o ((z+0) % 3) H++cb ((e+0) % 3)=q at*;show cI (G2 L hP M hb hz ee (T:=q) (bO ‹_› (dI _ _)) 1<|by ext) λi A ab af s1=>?_;have x1:=cl 1 i A;generalize l:e8 (P.getD ((z+1) % 3) 0) (dB B<|(z+1) % 3) i ((z+1) % 3) A++cb ((e+1) % 3)=X1 at*;show cI (G2 L hP M hb hz ee (T:=q++X1) (by simp only[i4];show bO (kI ‹_› ‹_›)<|by ext) 2<|by ext) λY N aa j s2=>?_;have x2:=cl 2 Y N;generalize m:e8 (P.getD ((z+2) % 3) 0) (dB B<|(z+2) % 3) Y ((z+2) % 3) N++cb ((e+2) % 3)=U at*;have ke:=uE e;have C:=uE<|(e+1) % 3;show (mf e (λt=>if t=0 then o else if t=1 then i else Y) (λt=>if t=0 then H else if t=1 then A else N) Z (λt=>by dsimp only;split<;>(try split)<;>omega)<|fu ?_ rfl);show (?_:lu _ _ _ _ (aI ⟨(e8 _ _ o _ H++_++(e8 _ _ i _ A++_)++(e8 _ _ Y _ N++_)++_++_++_++_++_).toArray⟩));simp only[g,l,m];have x:(q++X1++U).length<=606:=by simp only[i4];show bB (na x0 x1) x2
 generalize hX:q++X1++U=X at*;have u: ∀{a:List Nat} {r},a.length<=700-> ∀b:List Nat,b.length<=700->d7 r bV (.d<|aI ⟨a.toArray⟩) (.d<|aI ⟨b.toArray⟩) (aI ⟨(a++b).toArray⟩):=λh b R=>vF (bO (kI ‹_› ‹_›)<|by ext);show d5 b_law_mail 3 [.f dE<|pP (P.map λ(p:Nat)=>aB p) B W ⟨X.toArray⟩<|aA ((2:Nat),((z+2) % 3:Nat)),ht ⟨#[d8 s]⟩,ht ⟨(X++[d8 s]).toArray⟩,ht ⟨(X++[d8 s]++[46,32]).toArray⟩,ht ⟨(cb e).toArray⟩,ht ⟨(X++[d8 s]++[46,32]++cb e).toArray⟩,ht ⟨(cb<|(e+1) % 3).toArray⟩,ht ⟨(X++[d8 s]++[46,32]++cb e++cb ((e+1) % 3)).toArray⟩,ht ⟨(X++[d8 s]++[46,32]++cb e++cb ((e+1) % 3)++[46]).toArray⟩] (aY<|L+1) [aK<|P.map λ(p:Nat)=>aB p,aB B,aB W] _ rfl tt (λK h=>c _ _ K (s1 _ _ K<|s2 _ _ K h): ∀K:Fl->Ls->Prop,K dE (pP (P.map λ(p:Nat)=>aB p) B W ⟨X.toArray⟩<|aA ((2:Nat),((z+2) % 3:Nat)))->fW h8 (qJ.map SW.w) (aY<|L+1) [aB (0:Nat),aB (1:Nat),aB (2:Nat)] (pP (P.map λ(p:Nat)=>aB p) B W ⟨#[]⟩ aE) K) (HZ L hs' hs) (u (bO ‹_› (dI _ _)) [d8 s]<|cn rfl) (u (by simp;show bO ‹_› (dI _ _)) [46,32]<|by ext) ff (nl rfl) ff (ic (Gz e Z) ee<|by ext) (u (by simp;show bO ‹_› (dI _ _)) _<|bO ‹_› (dI _ _)) ff (nl rfl) ff (ic (Gz _ (oT _ (by ext):(e+1) % 3<3)) (Cs ee 1:(W.fdiv 7+1).fmod 3=(((e+1) % 3:Nat):Int))<|by ext) (u (by simp;show bB ke x) _<|bO ‹_› (dI _ _)) (u (by simp;show bB (na ke C) x) [46]<|by ext) .ret
end B01
end
section
open PySem.StrLaws PySem.Builtin.Str
theorem DM {x y:aN} (e:ja x l h=y) (P:qV a l) (p:qV b h) (hl:x.length<=16777216):fx r (.d<|aI x) a b (.d br) (aI y):=e▸ .str P p hl
namespace B01
def coreQ (p b w l v:Nat):List Nat:=(if b=0 then [f6 w] else [46])++hG (1+p) 46++[eZ (lK l) v]
def mx (x:aN) (W:Int) (r xs:List aM) (t:Option (Int×aN)):Ls:=(0,aQ<|aI x)::(1,aQ<|aB W)::(2,aQ<|aK r)::(3,bg xs)::match t with|none=>[]|some q=>[(4,aQ<|aB q.1),(5,aQ<|aI q.2)]
theorem NH {W t l n m:Int} {K:Fl->Ls->Prop} (e:(W+t).fmod 3=l) (en:n - 2=m) (Y: ∀r,cN r (.d<|aK R) t<|aI u) (U: ∀r,fx r (.d<|aI u) (.d br) (.d<|aB 1) (.d br)<|aI f) (z:Bool) (L:o.F 10 [aI f] (fI z))
 (j:z=aC-> ∀r,fx r (.d<|aI u) (.d<|aB 1) (.d br) (.d br)<|aI u') (hu:z=aD->u'=u) (a: ∀r,fx r (.d<|aI u') (.d br) (.d<|aB (-1)) (.d br)<|aI m1) (p: ∀r,cy r .len [.d<|aI u']<|aB n) (M: ∀r,d7 r cV (.d<|aI ⟨#[46]⟩) (.d<|aB<|n - 1)<|aI m1)
 (s: ∀r,fx r (.d<|aI u') (.d<|aB (-1)) (.d br) (.d br)<|aI c) (B:o.F 11 [aI c] (aI C)) (i: ∀r,cN r (.d<|aI ⟨#[97,118,119]⟩) l<|aI C) (g:0<=l) (g2:l<xs.length) (g3:xs.length<2^63)
 (h:fW lI (ou.map SW.w) o ys (mx x W R (xs.set l.toNat<|aB m)<|aA (t,u')) K):fW lI (ou.map SW.w) o (aB t::ys) (mx x W R xs tl) K:=by
 subst e;subst en;induction z with
 |true=>
  induction tl with
  |none=>show ej lI ou o [ht u,ht f,.d<|fI aC,.b aC,ht u',ht m1,hi n,ht m1,.b aD,.b aD,ht c,ht C,ht C,.b aD,.b aD,.b aD,hi n] (aB t) ys (mx x W R xs aE) K (Y _) (U _) L tt (j rfl _) (a _) (p _) (M _) (nT aD<|QIk _) ff (s _) B ff (i _) (nT aD<|QIk _) ff ff (p _) ff g g2 g3 h
  |some q=>show ej lI ou o [ht u,ht f,.d<|fI aC,.b aC,ht u',ht m1,hi n,ht m1,.b aD,.b aD,ht c,ht C,ht C,.b aD,.b aD,.b aD,hi n] (aB t) ys (mx x W R xs<|aA q) K (Y _) (U _) L tt (j rfl _) (a _) (p _) (M _) (nT aD<|QIk _) ff (s _) B ff (i _) (nT aD<|QIk _) ff ff (p _) ff g g2 g3 h
 |false=>
  clear j;cases hu rfl;induction tl with
  |none=>show ej lI ou o [ht u,ht f,.d<|fI aD,.b aD,ht m1,hi n,ht m1,.b aD,.b aD,ht c,ht C,ht C,.b aD,.b aD,.b aD,hi n] (aB t) ys (mx x W R xs aE) K (Y _) (U _) L ff (a _) (p _) (M _) (nT aD<|QIk _) ff (s _) B ff (i _) (nT aD<|QIk _) ff ff (p _) ff g g2 g3 h
  |some q=>show ej lI ou o [ht u,ht f,.d<|fI aD,.b aD,ht m1,hi n,ht m1,.b aD,.b aD,ht c,ht C,ht C,.b aD,.b aD,.b aD,hi n] (aB t) ys (mx x W R xs<|aA q) K (Y _) (U _) L ff (a _) (p _) (M _) (nT aD<|QIk _) ff (s _) B ff (i _) (nT aD<|QIk _) ff ff (p _) ff g g2 g3 h
theorem Gy (L:Nat) {x:aN} {W:Int} {z:Nat} (hz:W.fmod 3=z) {R xs:List aM} (s:xs.length=3) (t:Nat) (C:R.length=6) {p b w v:Nat} (j:p<=100) (hb:b<2) (hw:w<27) (hv:v<12) (P:R[t]?=aA (aI ⟨(coreQ p b w ((z+t) % 3) v).toArray⟩)):
 ∃u,∀tl ys K,fW lI (ou.map SW.w) (aY<|L+1) ys (mx x W R (xs.set ((z+t) % 3)<|aB (p+b:Nat))<|aA (t,u)) K->fW lI (ou.map SW.w) (aY<|L+1) (aB t::ys) (mx x W R xs tl) K:=by
 have e:=Cs hz t;have N:(z+t) % 3<3:=oT _ (by ext);generalize (z+t) % 3=l at*;have g: ∀u,(⟨u.toArray⟩:aN).cps.toList=u:=λu=>rfl;have F:p+b<=101:=bB j hb
 have kl:=zF _ (tc.2 l N) v hv;have B:=Nz L<|eZ (lK l) v;simp only[kl.2.1] at B
 have tail: ∀m,m<=101-> ∀U,U=hG (1+m) 46++[eZ (lK l) v]->U.length=m+2/\(∀r,fx r (.d<|aI ⟨U.toArray⟩) (.d br) (.d<|aB (-1)) (.d br)<|aI ⟨(hG (1+m) 46).toArray⟩)/\(∀r,fx r (.d<|aI ⟨U.toArray⟩) (.d<|aB (-1)) (.d br) (.d br)<|aI ⟨#[eZ (lK l) v]⟩)/\(∀r,cy r .len [.d<|aI ⟨U.toArray⟩]<|aB (m+2:Nat))/\ ∀r,d7 r cV (.d<|aI ⟨#[46]⟩) (.d<|aB<|((m+2:Nat):Int) - 1)<|aI ⟨(hG (1+m) 46).toArray⟩:=by
  rintro m F U rfl
  have Y:(hG (1+m) 46++[eZ (lK l) v]).length=m+2:=by simp;show wG _ _
  have h1:m+2 - 1=(hG (1+m) 46).length:=by simp only[SH];show wG _ _
  have Q:(⟨(hG (1+m) 46++[eZ (lK l) v]).toArray⟩:aN).length=m+2:=(Pz _).trans Y;show (DD Y (λr=>DM ?_ .none .int<|bB F<|nL Q) (λr=>DM ?_ .int .none<|bB F<|nL Q) (λr=>?_) λr=>?_)
  ·rw[We<|aS<|nR Q,Q,g,h1,SO]
  ·rw[YN<|aS<|nR Q,Q,g,h1,J0]
  ·simp only[<-Q]
   show .kX<|bB F<|nL Q
  ·show sb (by simp+arith:(((m+2:Nat):Int) - 1)=((1+m:Nat):Int))<|dA (L4<|Nat.le_add_right _ _)<| .rep (by ext) (bR<|oL F)<|Int.natCast_nonneg _
 have c:(⟨(coreQ p b w l v).toArray⟩:aN).length=p+3:=(Pz _).trans (by dsimp only[coreQ];split<;>simp<;>(simp+arith));have i: ∀r,cN r (.d<|aK R) (t:Int)<|aI ⟨(coreQ p b w l v).toArray⟩:=λr=>ic P rfl (bR<|oL<|nL C)
 have M: ∀r,fx r (.d<|aI ⟨(coreQ p b w l v).toArray⟩) (.d br) (.d<|aB 1) (.d br)<|aI ⟨#[if b=0 then f6 w else 46]⟩:=λr=>DM (by
  have:=LL (x:=⟨(coreQ p b w l v).toArray⟩) (b:=1)<|aS<|nR c;show this.trans ?_;dsimp only[coreQ]
  split<;>rfl) .none .int (bB j<|nL c)
 have f: ∀r,cN r (.d<|aI ⟨#[97,118,119]⟩) (l:Int)<|aI ⟨#[lK l]⟩:=λr=>tX (AW l N).1 rfl (by ext);by_cases q:b=0
 ·subst q
  show wZ (tail p (by assumption) _ rfl) λt0 A o t3 H=>?_;have Z:=DG L<|f6 w;simp only[(z8 w hw).1] at Z;have s2: ∀r,fx r (.d<|aI ⟨(coreQ p 0 w l v).toArray⟩) (.d<|aB 1) (.d br) (.d br)<|aI ⟨(hG (1+p) 46++[eZ (lK l) v]).toArray⟩:=λr=>DM ((Ox (x:=⟨(coreQ p 0 w l v).toArray⟩) (a:=1)<|dI _ _).trans (by dsimp only[coreQ];rfl)) .int .none<|bB j<|nL c;show Exists.intro (⟨(hG (1+p) 46++[eZ (lK l) v]).toArray⟩:aN) ?_;intro tl ys K h;show NH (u':=⟨(hG (1+p) 46++[eZ (lK l) v]).toArray⟩) (n:=(p+2:Nat)) (m:=(p+0:Nat)) e (by simp+arith) i M aC Z (λO=>s2) nofun A t3 H o B f (cT _) ((bN (ni (oL<|nR s)<|iR e)<|nO (W+(↑t:Int)) (by decide:(0:Int)<3))) (aS<|nL s) (by rw[qD];show h)
 ·obtain rfl:b=1:=by show mQ (aS hb) (aS<|QIA q)
  show wZ (tail (p+1) (aS j) (coreQ p 1 w l v) (by dsimp only[coreQ];(erw[if_neg q];erw[(by simp+arith:1+(p+1)=(1+p)+1)];erw[BW (n:=1+p)]);rfl)) λt0 A o t3 H=>?_;have Z:=DG L 46;rw[show kV.contains ((46:Nat):Int)=aD by decide+kernel] at Z;show ⟨_,λtl ys K h=>NH (u':=⟨(coreQ p 1 w l v).toArray⟩) (n:=(p+1+2:Nat)) (m:=(p+1:Nat)) e (by simp+arith) i M aD Z nofun (λO=>rfl) A t3 H o B f (cT _) ((bN (ni (oL<|nR s)<|iR e)<|nO (W+(↑t:Int)) (by decide:(0:Int)<3))) (aS<|nL s) (by rw[qD];show h)⟩
theorem QCQ: ∀s,s<24->yg ⟨#[d8 s,46,32]⟩=true:=by decide+kernel
def T3 (s:Nat):List Dat:=[aI ⟨#[d8 s,46,32]⟩,aI ⟨#[]⟩,aI ⟨#[46,46]⟩]
theorem HJ (Z:z<3) (f:Nat->aM) (a b c:aM):((([a,b,c].set ((z+0) % 3)<|f<|(z+0) % 3).set ((z+1) % 3)<|f<|(z+1) % 3).set ((z+2) % 3)<|f<|(z+2) % 3)=[f 0,f 1,f 2]:=Bd (P:=λz=>((([a,b,c].set ((z+0) % 3)<|f<|(z+0) % 3).set ((z+1) % 3)<|f<|(z+1) % 3).set ((z+2) % 3)<|f<|(z+2) % 3)=[f 0,f 1,f 2]) rfl rfl rfl z Z
theorem M_ (L:Nat) {W:Int} {z:Nat} (Z:W.fmod 3=z) {p b w v:Nat->Nat} (a: ∀t,p t<=100) (hb: ∀t,b t<2) (M: ∀t,w t<27) (P: ∀t,v t<12) {x:aN} {R:List aM} (i:R.length=6)
 (r: ∀t,t<3->R[t]?=aA (aI ⟨(coreQ (p<|(z+t) % 3) (b<|(z+t) % 3) (w t) ((z+t) % 3)<|v t).toArray⟩)):
 ∃u,∀K,K dE (mx x W R ([p 0+b 0,p 1+b 1,p 2+b 2].map λ(n:Nat)=>aB n)<|aA ((2:Nat),u))->fW lI (ou.map SW.w) (aY<|L+1) [aB (0:Nat),aB (1:Nat),aB (2:Nat)] (mx x W R [aB 0,aB 0,aB 0] aE) K:=by
 show bE (Gy L (x:=x) Z (xs:=[aB 0,aB 0,aB 0]) rfl 0 i (a _) (hb _) (M 0) (P 0) (r 0<|by ext)) λq c=>bE (Gy L (x:=x) Z (xs:=[aB 0,aB 0,aB 0].set ((z+0) % 3)<|aB (p ((z+0) % 3)+b ((z+0) % 3):Nat)) (SY ..) 1 i (a _) (hb _) (M 1) (P 1)<|r 1<|by ext) λg U=>bE (Gy L (x:=x) Z (xs:=([aB 0,aB 0,aB 0].set ((z+0) % 3)<|aB (p ((z+0) % 3)+b ((z+0) % 3):Nat)).set ((z+1) % 3)<|aB (p ((z+1) % 3)+b ((z+1) % 3):Nat)) ((SY ..).trans<|SY ..) 2 i (a _) (hb _) (M 2) (P 2)<|r 2<|by ext) λB s=>?_;have e:=HJ (by rw[m6 _<|by ext] at Z;show (oM<|bN (iR Z)<|kr (W) (by decide:(0:Int)<3)):z<3) (λl=>aB (p l+b l:Nat)) (aB 0) (aB 0)<|aB 0;rw[e] at s;show ⟨B,λK h=>c _ _ K<|U _ _ K<|s _ _ K h⟩
theorem WX (L:Nat) {W:Int} {s:Nat} (hs:s<24) (hs':W.fmod 24=s) {R xs:List aM} (P: ∀r,j8 r .split (.d<|aI x) [.d<|aI ⟨#[13,10]⟩] (aK R)) (t: ∀r,fx r (.d<|aK R) (.d<|aB 3) (.d br) (.d br)<|aK<|T3 s)
 (l: ∀K,K dE (mx x W R xs<|aA ((2:Nat),u))->fW lI (ou.map SW.w) (aY<|L+1) [aB (0:Nat),aB (1:Nat),aB (2:Nat)] (mx x W R [aB 0,aB 0,aB 0] aE) K):(aY<|L+2).F 22 [aI x,aB W] (aK xs):=by
 have n:=DG L<|d8 s;rw[(GL s hs).1] at n
 have t3: ∀y∈T3 s,gr 8 y=true:=λy Y=>by
  rcases dR.mp Y with rfl|Y
  ·show QH<|QCQ s hs
  ·show (by decide+kernel: ∀y∈[aI ⟨#[]⟩,.str ⟨#[46,46]⟩],gr 8 y=aC) y Y
 show fu (d5 b_law_read 2 [hl R,hl<|T3 s,ht ⟨#[d8 s]⟩,ht ⟨#[d8 s,46,32]⟩,.b aD,.b aD,ht ⟨#[d8 s]⟩,.d<|fI aD,.b aD,.b aD,.f dE<|mx x W R xs<|aA ((2:Nat),u)] (aY<|L+1) [aI x,aB W] _ rfl (P _) (t _) (HZ L hs' hs) (xh rfl rfl) (gA .d t3) ff (HZ L hs' hs) n ff ff tt l .ret) rfl
theorem QBn {p b w l v:Nat} (h:p<=100):(coreQ p b w l v).length<=200:=by
 unfold coreQ
 split<;>simp<;>(show aS h)
theorem TK {p b w l v:Nat} (W:w<27) (hl:l<3) (P:v<12):13∉coreQ p b w l v:=by
 intro h;have H:=(z8 w W).2;have i:=(zF _ (tc.2 l hl) v P).2.2;rcases jZ.mp h with h|h
 ·rcases jZ.mp h with h|h
  ·split at h
   ·have:=oW.mp h
    show dC H<|nR this
   ·have:=oW.mp h
    lia -abstractProof
  ·have:=(Sa.mp h).2
   lia -abstractProof
 ·have:=oW.mp h
  show dC i<|nR this
theorem WS (L:Nat) {W:Int} {z s:Nat} (o:W.fmod 3=z) (hs:s<24) (hs':W.fmod 24=s) {p b w v:Nat->Nat} (j: ∀t,p t<=100) (hb: ∀t,b t<2) (a: ∀t,w t<27) (P: ∀t,v t<12) {x:aN}
 (M:x.cps.toList=rowsOf [13,10] (coreQ (p<|(z+0) % 3) (b<|(z+0) % 3) (w 0) ((z+0) % 3)<|v 0) [coreQ (p<|(z+1) % 3) (b<|(z+1) % 3) (w 1) ((z+1) % 3)<|v 1,coreQ (p<|(z+2) % 3) (b<|(z+2) % 3) (w 2) ((z+2) % 3)<|v 2,[d8 s,46,32],[],[46,46]]):
 (aY<|L+2).F 22 [aI x,aB W] (aK<|[p 0+b 0,p 1+b 1,p 2+b 2].map λ(n:Nat)=>aB n):=by
 have N:=GL s hs;have c: ∀t,13∉coreQ (p<|(z+t) % 3) (b<|(z+t) % 3) (w t) ((z+t) % 3) (v t):=λt=>TK (a t) ((λt=>oT _<|by ext) t)<|P t;have cl: ∀t,(coreQ (p<|(z+t) % 3) (b<|(z+t) % 3) (w t) ((z+t) % 3)<|v t).length<=200:=λt=>QBn<|j _;have K:=λ(R:List aM) B h=>M_ L o j hb a P (x:=x) (R:=R) B h;generalize A:(λt=>coreQ (p<|(z+t) % 3) (b<|(z+t) % 3) (w t) ((z+t) % 3)<|v t)=C;simp only[(λt=>congrFun A t)] at M c cl K
 have g:=QEQ M (by
  intro q Q;simp only[dR,i5,or_false] at Q;rcases Q with rfl|rfl|rfl|rfl|rfl|rfl
  ·show c 0
  ·show c 1
  ·show c 2
  ·intro h
   simp at h;show N.2.2.1 h.symm
  ·simp
  ·decide)
 have f:x.length<=1000:=by
  have e:x.cps.toList.length=x.length:=mY;have x0:=cl 0;have x1:=cl 1;have U:=cl 2;show dA e<|sb M ?_
  simp only[Dp,Dk,i4,jd,tI];show bB (na x0 x1) U
 show bE (K [aI ⟨(C 0).toArray⟩,aI ⟨(C 1).toArray⟩,aI ⟨(C 2).toArray⟩,aI ⟨#[d8 s,46,32]⟩,aI ⟨#[]⟩,aI ⟨#[46,46]⟩] rfl λt Z=>?_) λu l=>?_
 ·match t,Z with
  |0,_=>rfl
  |1,_=>rfl
  |2,_=>rfl
 ·show WX L hs hs' (λr=>?_) (λr=>?_) l
  ·have:=j8.split (r:=r) (x:=x) (y:=⟨#[13,10]⟩) (bO ‹_› (dI _ _)) (by ext)
   rw[g] at this;show this
  ·have:=fx.lst (r:=r) (v:=.d<|aK [aI ⟨(C 0).toArray⟩,aI ⟨(C 1).toArray⟩,aI ⟨(C 2).toArray⟩,aI ⟨#[d8 s,46,32]⟩,aI ⟨#[]⟩,aI ⟨#[46,46]⟩]) .d (.int (i:=3)) .none .none nofun (cn rfl)
   rw[show pJ _ (aA 3) aE aE=_ from DH _ 3] at this;show this
theorem Fy {p b w l v:Nat} (hb:b<2) (t:w<27) (hl:l<3) (P:v<12):(∀c∈e8 p b w l v,c≠13/\c≠10)/\e1 aC (e8 p b w l v)=coreQ p b w l v:=by
 have H:=(z8 w t).2;have i:=(zF _ (tc.2 l hl) v P).2.2
 have d: ∀c∈hG (1+p) 46++[eZ (lK l) v],c≠10:=by
  intro c h;show Or.elim (jZ.mp h) (λh=>?_) λh=>?_
  ·have:=(Sa.mp h).2
   grind_linarith
  ·have:=oW.mp h
   show λK=>dC (na (nL K) i)<|nR this
 constructor
 ·intro c h
  show Or.elim (jZ.mp h) (λh=>?_) λh=>?_
  ·show Or.elim (jZ.mp h) (λh=>?_) λh=>?_
   ·split at h
    ·have:=oW.mp h
     show ⟨(λW=>(dC (na H<|nR this)<|nL W)),(λW=>(dC (na H<|nR this)<|nL W))⟩
    ·show nomatch h
   ·have:=(Sa.mp h).2
    grind_linarith
  ·have:=oW.mp h
   show ⟨(λW=>(dC (na i<|nR this)<|nL W)),(λW=>(dC (na i<|nR this)<|nL W))⟩
 ·delta e8 coreQ
  by_cases q:b=0
  ·simp only[if_pos q,if_pos q,nI]
   show (?_:e1 aC (f6 w::(hG (1+p) 46++[eZ (lK l) v]))=_);simp only[u4,qP,(by simp;show λK=>dC (nL K) H:(f6 w==46)=aD),(by simp;show λK=>dC (nL K) H:(f6 w==10)=aD),KJ _ d];rfl
  ·simp only[if_neg q,if_neg q,BV,nI]
   simp only[show 1+p=p+1 by simp+arith,BW,wB,u4,qP];simp only[show 1+p=p+1 by simp+arith,BW,wB] at d;have a:((46:Nat)==10)=false:=rfl;simp only[a,KJ _ λc C=>d c<|.tail _ C];rfl
theorem QEJ (L:Nat) {P:List Nat} (hP:P.length=3) (M: ∀p∈P,p<=100) {B:Nat} (hb:B<8) (U:Int):
 ∃m q,(aY<|L+2).F 21 [aK<|P.map λ(p:Nat)=>aB p,aB B,aB U] (aI m)/\(aY<|L+2).F 9 [aI m] (aI q)/\(aY<|L+2).F 22 [aI q,aB U] (aK<|[P.getD 0 0+dB B 0,P.getD 1 0+dB B 1,P.getD 2 0+dB B 2].map λ(n:Nat)=>aB n):=by
 show aT (iT U (n:=3)<|by ext) λz hz K=>aT (iT U (n:=24)<|by ext) λs hs es=>?_;have K:=K;show fH (UK L hP M hb K hs es) λe w v he W R=>?_
 have H: ∀k,P.getD k 0<=100:=by
  intro k;erw[BY];induction q:P[k]? with
  |none=>simp
  |some y=>show M _<|BP q
 have Z: ∀l,dB B l<2:=λl=>oT _ (by ext);have hl: ∀t,(z+t) % 3<3:=λt=>oT _ (by ext);have q0:=Fy (p:=P.getD ((z+0) % 3) 0) (Z<|(z+0) % 3) (W 0).1 (hl 0) (W 0).2;have Q:=Fy (p:=P.getD ((z+1) % 3) 0) (Z<|(z+1) % 3) (W 1).1 (hl 1) (W 1).2;have Y:=Fy (p:=P.getD ((z+2) % 3) 0) (Z<|(z+2) % 3) (W 2).1 (hl 2) (W 2).2
 have cl: ∀p b w l v,p<=100->(e8 p b w l v).length<=200:=by
  intro p b w l v h;dsimp only[e8]
  split<;>simp<;>(show aS h)
 have f:=cl (P.getD ((z+0) % 3) 0) (dB B<|(z+0) % 3) (w 0) ((z+0) % 3) (v 0)<|H _;have n1:=cl (P.getD ((z+1) % 3) 0) (dB B<|(z+1) % 3) (w 1) ((z+1) % 3) (v 1)<|H _;have o:=cl (P.getD ((z+2) % 3) 0) (dB B<|(z+2) % 3) (w 2) ((z+2) % 3) (v 2)<|H _;have hd: ∀p b w l v r,(e8 p b w l v++r).head?≠aA 10\/True:=λO O O O O O=>.inr trivial
 have hh: ∀{c:List Nat} (r:List Nat),c≠[]->(∀x∈c,x≠13/\x≠10)->(c++r).head?≠aA 10:=by
  intro c r A hx h;induction c with
  |nil=>show A rfl
  |cons a c=>simp only[wB,List.head?_cons] at h;show (hx a<|.head _).2<|kj h
 have u: ∀p b w l v,e8 p b w l v≠[]:=by intro p b w l v h;unfold e8 at h;simp at h
 have j:=GL s hs;generalize aa:e8 (P.getD ((z+0) % 3) 0) (dB B<|(z+0) % 3) (w 0) ((z+0) % 3) (v 0)=C at*;generalize gT:e8 (P.getD ((z+1) % 3) 0) (dB B<|(z+1) % 3) (w 1) ((z+1) % 3) (v 1)=C1 at*;generalize y4:e8 (P.getD ((z+2) % 3) 0) (dB B<|(z+2) % 3) (w 2) ((z+2) % 3) (v 2)=C2 at*;have k0:=uE<|(e+0) % 3;have k1:=uE<|(e+1) % 3;have g:=uE<|(e+2) % 3;have k3:=uE e;show (d0 _ (q1<|q2 ⟨(C++cb ((e+0) % 3)++(C1++cb ((e+1) % 3))++(C2++cb ((e+2) % 3))++[d8 s]++[46,32]++cb e++cb ((e+1) % 3)++[46]).toArray⟩) R ?_ ?_)
 ·show QCK (L+1) ?_ ?_
  ·show (?_)
   simp only[jH,i4,jd,tI];show (bB (na (na (na (na (na f k0) n1)<|fO 2 k1) o) g) k3)
  ·have N:(q2 ⟨(C++cb ((e+0) % 3)++(C1++cb ((e+1) % 3))++(C2++cb ((e+2) % 3))++[d8 s]++[46,32]++cb e++cb ((e+1) % 3)++[46]).toArray⟩).cps.toList.length=(q2 ⟨(C++cb ((e+0) % 3)++(C1++cb ((e+1) % 3))++(C2++cb ((e+2) % 3))++[d8 s]++[46,32]++cb e++cb ((e+1) % 3)++[46]).toArray⟩).cps.size:=mY
   simp only[<-N,QJ]
   have iY: ∀n l,l.length<=n->(e2 l).length<=2*l.length:=by
    intro n;induction n with
    |zero=>intro l h;induction l with
     |nil=>assumption
     |cons=>simp at h
    |succ n i=>
     intro l h
     match l,h with
     |[],_=>simp[Du]
     |[c],_=>dsimp only[Cf];split<;>simp
     |c::d::r,h=>
      dsimp only[De]
      split
      ·have:=i r (by simp at h;show s7 ‹_›)
       simp only[jd];show aS this
      ·split
       ·have:=i (d::r) (by simp at h⊢;assumption)
        simp only[jd] at this⊢;show aS this
       ·have:=i (d::r) (by simp at h⊢;omega)
        simp only[jd] at this⊢;show aS this
   show bO (iY _ _<|cY _) ?_;simp only[i4,jd,tI];show (bB (na (na (na (na (na (fO 2 f)<|fO 2 k0)<|fO 2 n1)<|fO 4 k1)<|fO 2 o)<|fO 2 g)<|fO 2 k3)
 ·have hq:=WS L (x:=q1<|q2 ⟨(C++cb ((e+0) % 3)++(C1++cb ((e+1) % 3))++(C2++cb ((e+2) % 3))++[d8 s]++[46,32]++cb e++cb ((e+1) % 3)++[46]).toArray⟩) K hs es (p:=λl=>P.getD l 0) (b:=λl=>dB B l) (w:=w) (v:=v) H Z (λt=>(W t).1) (λt=>(W t).2) (by
   simp only[QBc,QJ]
   have r0:e2 (C++cb ((e+0) % 3)++(C1++cb ((e+1) % 3))++(C2++cb ((e+2) % 3))++[d8 s]++[46,32]++cb e++cb ((e+1) % 3)++[46])=C++13::10::(C1++13::10::(C2++13::10::([d8 s,46,32]++13::10::([]++13::10::[46])))):=by
    have:(C++cb ((e+0) % 3)++(C1++cb ((e+1) % 3))++(C2++cb ((e+2) % 3))++[d8 s]++[46,32]++cb e++cb ((e+1) % 3)++[46])=C++(cb ((e+0) % 3)++(C1++(cb ((e+1) % 3)++(C2++(cb ((e+2) % 3)++([d8 s,46,32]++(cb e++(cb ((e+1) % 3)++[46])))))))):=by simp
    (erw[this];erw[w7 _ _ q0.1];erw[z9 _<|.inr<|hh _ (by show dA gT ?_;show u _ _ _ _ _:C1≠[]) Q.1];erw[w7 _ _ Q.1];erw[z9 _<|.inr<|hh _ (by show dA y4 ?_;show u _ _ _ _ _:C2≠[]) Y.1];erw[w7 _ _ Y.1];erw[z9 _<|.inr (by intro h;show j.2.1<|kj h)];show sb (w7 [d8 s,46,32] _ (by
     intro c A;simp only[dR,i5,or_false] at A;rcases A with rfl|rfl|rfl
     ·show ⟨j.2.2.1,j.2.1⟩
     ·decide
     ·decide)) ?_)
    rw[z9 (e:=e),z9 (e:=(e+1) % 3) [46]<|.inr<|by ext]
    ·rfl
    ·by_cases q:e=1
     ·erw[q]
      right;decide
     ·left;show q
   simp only[r0,zt,zt,zt,zt,zt,q0.2,Q.2,Y.2];have x1:e1 aC [d8 s,46,32]=[d8 s,46,32]:=by simp[u4,qP,(by simp[j.2.2.2]:(d8 s==46)=aD),(by simp[j.2.1]:(d8 s==10)=aD)]
   erw[x1]
   rfl)
  show hq
end B01
end
section
open PySem.StrLaws PySem.Builtin.Str
namespace B01
noncomputable def dd (v p:Nat×Nat×Nat):Int:=max (max ((v.1:Int) - p.1) ((v.2.1:Int) - p.2.1)) (max ((v.2.2:Int) - p.2.2) 0)
def cv (v p:Nat×Nat×Nat):Nat:=(if (v.1:Int) - p.1=dd v p then 1 else 0)+(if (v.2.1:Int) - p.2.1=dd v p then 2 else 0)+(if (v.2.2:Int) - p.2.2=dd v p then 4 else 0)+(if 0=dd v p then 8 else 0)
noncomputable def bZ (v:Nat×Nat×Nat):Dat:=aK [aB v.1,aB v.2.1,aB v.2.2]
noncomputable def ji (v p:Nat×Nat×Nat):List Int:=[(v.1:Int) - p.1,(v.2.1:Int) - p.2.1,(v.2.2:Int) - p.2.2,0]
theorem nh (v:Nat×Nat×Nat):cN r (.d<|bZ v) 0 (aB v.1)/\cN r (.d<|bZ v) 1 (aB v.2.1)/\cN r (.d<|bZ v) 2 (aB v.2.2):=⟨ic rfl rfl (by decide:(3:Int)<2^63),ic rfl rfl (by decide:(3:Int)<2^63),ic rfl rfl (by decide:(3:Int)<2^63)⟩
def lG (A:List aM) (p:Nat×Nat×Nat) (ws:List Nat) (t:Option (aM×aM)) (r:Ls):Ls:=(0,aQ<|aK A)::(1,aQ<|bZ p)::(2,bg<|ws.map λ(n:Nat)=>aB n)::match t with|none=>r|some q=>(3,aQ q.1)::(4,aQ q.2)::r
section
variable {ws:List Nat} {t:Option (aM×aM)} {K:List aM->Prop}
def EM (t:Option (aM×aM)) (v:aM) (A:List aM) (p:Nat×Nat×Nat) (ws:List Nat):Ls:=match t with|none=>lG A p ws aE [(3,aQ v)]|some q=>lG A p ws (aA (v,q.2)) []
theorem LY (h:K [aB<|(v.1:Int) - p.1,aB<|(v.2.1:Int) - p.2.1,aB<|(v.2.2:Int) - p.2.2]):cW (jf dc (.bA cS aU)<|.bA b8 aU).w bh [] o (cJ<|EM t (bZ v) A p ws) [aB 0,aB 1,aB 2] K:=by
 have e: ∀(t:Option (aM×aM)) (x a b:Int),(∀r,cN r (.d<|bZ v) x<|aB a)->(∀r,cN r (.d<|bZ p) x<|aB b)->CE (jf dc (.bA cS aU)<|.bA b8 aU).w bh [] o (cJ<|EM t (bZ v) A p ws) (aB x) (aA<|aB<|a - b):=λt x a b H i R K h=>by
  induction t with
  |none=>show cu (.aL dc (.bA cS aU)<|.bA b8 aU) bh [] o [.b aC,hi a,hi b] (cJ<|EM aE (bZ v) A p ws) (aB x) R K rfl tt (H _) (i _) rfl h
  |some q=>show cu (.aL dc (.bA cS aU)<|.bA b8 aU) bh [] o [.b aC,.d<|aB a,.d<|aB b] (cJ<|EM (aA q) (bZ v) A p ws) (aB x) R K rfl tt (H _) (i _) rfl h
 show e t 0 _ _ (λr=>(nh v).1) (λr=>(nh p).1) _ _<|e t 1 _ _ (λr=>(nh v).2.1) (λr=>(nh p).2.1) _ _<|e t 2 _ _ (λr=>(nh v).2.2) (λr=>(nh p).2.2) _ _ h
theorem G6 (m x:Int):(if x>m then x else m)=max m x:=by
 by_cases h:m<x
 ·show (QIg h).trans (I7<|cR h).symm
 ·show (QIf h).trans (QIB<|Q3 h).symm
theorem G7: ∀r,cy r .lZ [.d<|aK<|(ji v p).map aB]<|aB<|dd v p:=λr=>by have:=cy.lZ (r:=r) (v:=.d<|aK<|(ji v p).map aB) (a:=(v.1:Int) - p.1) (ns:=[(v.2.1:Int) - p.2.1,(v.2.2:Int) - p.2.2,0]) .d;have e:F9 ((v.1:Int) - p.1) [(v.2.1:Int) - p.2.1,(v.2.2:Int) - p.2.2,0]=dd v p:=(G6 _ _).trans<|(QIh (λx=>max x 0)<|(G6 _ _).trans<|QIh (λx=>max x _)<|G6 _ _).trans<|Int.max_assoc _ _ _;rwa[e] at this
def u9 (v p:Nat×Nat×Nat):List Int:=[0,1,2,3].filterMap λn:Nat=>if (ji v p).getD n 0=dd v p then aA (1*2^n) else aE
theorem CW (g:List Int) (m:Int) (n:Nat) (l:List Nat):((n::l).filterMap λn:Nat=>if g.getD n 0=m then aA ((1:Int)*2^n) else aE).sum=((if g.getD n 0=m then 2^n else 0:Nat):Int)+(l.filterMap λn:Nat=>if g.getD n 0=m then aA ((1:Int)*2^n) else aE).sum:=by
 rw[oK];by_cases h:g.getD n 0=m
 ·rw[if_pos h,if_pos h]
  show QIh (· +_)<|(kq _).trans (Int.natCast_pow 2 n).symm
 ·rw[if_neg h,if_neg h]
  show (JQ _).symm
theorem QAn (a b c d:Nat):(a:Int)+(b+(c+(d+0)))=((a+b+c+d:Nat)):=by simp+arith
theorem QFN:(u9 v p).sum=(cv v p:Nat):=(CW _ _ _ _).trans<|(QIh _<|(CW _ _ _ _).trans<|QIh _<|(CW _ _ _ _).trans<|QIh _<|CW _ _ 3 []).trans<|QAn _ _ _ _
theorem AQ:ib 1=1:=rfl
theorem Py (h:K ((u9 v p).map aB)):cW (jf dj (aH 1) aU).w bh [(bY b9 (.bA dv aU)<|.bi .lZ [dv]).w] o (cJ<|lG A p ws (aA (bZ v,aK<|(ji v p).map aB)) []) ([0,1,2,3].map λ(n:Nat)=>aB n) K:=by
 unfold u9 at h;rw[List.map_filterMap] at h;show oy (λn u x K h=>?_) K h;have N:n<4:=m4 u;have i: ∀r,cN r (.d<|aK<|(ji v p).map aB) (n:Int)<|aB<|(ji v p).getD n 0:=λr=>jT (getD_some N) rfl (by decide:(4:Int)<2^63);by_cases q:(ji v p).getD n 0=dd v p
 ·rw[if_pos q] at h
  show cu (.aL dj (aH 1) aU) bh [bY b9 (.bA dv aU)<|.bi .lZ [dv]] o [hi<|(ji v p).getD n 0,hi<|dd v p,.b aC,.b aC] (cJ<|lG A p ws (aA (bZ v,aK<|(ji v p).map aB)) []) (aB n) x K (i _) (G7 _) (QIi.mpr q) rfl tt (cT _) (by erw[AQ];show bR<|oL N) rfl h
 ·rw[if_neg q] at h
  show cu (.aL dj (aH 1) aU) bh [bY b9 (.bA dv aU)<|.bi .lZ [dv]] o [.d<|aB<|(ji v p).getD n 0,.d<|aB<|dd v p,.b aD,.b aD] (cJ<|lG A p ws (aA (bZ v,aK<|(ji v p).map aB)) []) (aB n) x K (i _) (G7 _) (beq_eq_false_iff_ne.mpr q) rfl ff h
theorem QBu {K:Fl->Ls->Prop} (hl:ws.length<1000) (h:fW kQ (vW.map SW.w) o xs (lG A p (ws++[cv v p]) (aA (bZ v,aK<|(ji v p).map aB)) []) K):fW kQ (vW.map SW.w) o (bZ v::xs) (lG A p ws t []) K:=by
 have a: ∀r,d7 r bV (.d<|aK [aB<|(v.1:Int) - p.1,aB<|(v.2.1:Int) - p.2.1,aB<|(v.2.2:Int) - p.2.2]) (.d<|aK [aB 0])<|aK<|(ji v p).map aB:=λr=>sf (xs:=[aB<|(v.1:Int) - p.1,aB<|(v.2.1:Int) - p.2.1,aB<|(v.2.2:Int) - p.2.2]) (ys:=[aB 0])<|cn rfl;have s: ∀r,cy r .sum [.d<|aK<|(u9 v p).map aB]<|aB (cv v p:Nat):=λr=>by have:=cy.sum (r:=r) (v:=.d<|aK<|(u9 v p).map aB) .d;rwa[QFN] at this
 have W:(ws.map λ(n:Nat)=>aB n).length<16777216:=by rw[cp];show bO ‹_› (dI _ _)
 have H:fW kQ (vW.map SW.w) o xs ((0,aQ<|aK A)::(1,aQ<|bZ p)::(2,bg<|(ws.map λ(n:Nat)=>aB n)++[aB (cv v p:Nat)])::(3,aQ<|bZ v)::[(4,aQ<|aK<|(ji v p).map aB)]) K:=by unfold lG at h;rw[gR] at h;show h
 induction t with
 |none=>show ej kQ vW o [.ds [aB<|(v.1:Int) - p.1,aB<|(v.2.1:Int) - p.2.1,aB<|(v.2.2:Int) - p.2.2],.d<|aK<|(ji v p).map aB,.ds<|(u9 v p).map aB,.d<|aB (cv v p:Nat)] (bZ v) xs (lG A p ws aE []) K tt (by ext) (λK h=>LY (t:=aE) h) (a _) tt (by ext) (λK h=>Py h) (s _) W H
 |some q=>show ej kQ vW o [.ds [aB<|(v.1:Int) - p.1,aB<|(v.2.1:Int) - p.2.1,aB<|(v.2.2:Int) - p.2.2],.d<|aK<|(ji v p).map aB,.ds<|(u9 v p).map aB,.d<|aB (cv v p:Nat)] (bZ v) xs (lG A p ws (aA q) []) K tt (by ext) (λK h=>LY (t:=aA q) h) (a _) tt (by ext) (λK h=>Py h) (s _) W H
theorem UT: ∀(us:List (Nat×Nat×Nat)) (ws:List Nat) (t:Option (aM×aM)),ws.length+us.length<=10-> ∃t',∀K,K dE (lG A p (ws++us.map λv=>cv v p) t' [])->fW kQ (vW.map SW.w) o (us.map bZ) (lG A p ws t []) K:=by
 intro O;induction O with
 |nil=>show λws t O=>⟨t,λK h=>by rw[rJ,lQ] at h;show h⟩
 |cons u us i=>show λws t hl=>by dsimp only[jd] at hl;show bE (i (ws++[cv u p]) (aA (bZ u,aK<|(ji u p).map aB)) (by simp only[i4];show (?_);show aS hl)) λt' h=>?_;show ⟨t',λK k=>QBu (aS hl)<|h K (by simp only[nI];show k)⟩
end
noncomputable def gY (s:Nat):Nat:=[0,1,1,2,1,2,2,3].getD s 0
noncomputable def iK (ws:List Nat) (s:Nat):Nat:=(ws.filter λw=>w &&& s==w).length
def ql (ws:List Nat):List Nat:=[1,2,3,4,5,6,7].filter λs=>decide (gY s<iK ws s)
def iq (ws:List Nat):List Nat:=(ql ws).filter λs=>((ql ws).filter λl=>l &&& s==l && l !=s).isEmpty
noncomputable def Gg:List Int:=[0,1,1,2,1,2,2,3]
theorem Ud: ∀k,k<8->Gg[k]?=aA (gY k:Int):=by decide
def iM (A:List aM) (p:Nat×Nat×Nat) (ws:List Nat) (t:Option (aM×aM)) (r:Ls):Ls:=lG A p ws t<|(5,aQ<|aK<|Gg.map aB)::r
def mK (l:Ls) (s:Nat):Ls:=sH dZ<|rn<|dm (cJ l) 201<|aQ<|aB s
section
variable {ws cr:List Nat} {t:Option (aM×aM)} {K:List aM->Prop}
theorem qu (w s:Nat):(jG (w:Int) (s:Int)==(w:Int))=(w &&& s==w):=by simp only[FZ,o3]
theorem Dz (K:List aM->Prop) (h:K ((ws.filter λw=>w &&& s==w).map λ(n:Nat)=>aB n)):cW (rN 401).w dZ [(bY b9 (.aL fP ba aU) ba).w] o (mK (iM A p ws t []) s) (ws.map λ(n:Nat)=>aB n) K:=by
 rw[<-rP] at h;show oy (λw O x K h=>?_) K h;induction q:(w &&& s==w) with
 |true=>
  rw[q] at h;induction t with
  |none=>show cu ba dZ [bY b9 (.aL fP ba aU) ba] o [.b aC,.b aC] (mK (iM A p ws aE []) s) (aB w) x K ((qu _ _).trans q) rfl tt rfl h
  |some t=>show cu ba dZ [bY b9 (.aL fP ba aU) ba] o [.b aC,.b aC] (mK (iM A p ws (aA t) []) s) (aB w) x K ((qu _ _).trans q) rfl tt rfl h
 |false=>
  rw[q] at h;induction t with
  |none=>show cu ba dZ [bY b9 (.aL fP ba aU) ba] o [.b aD,.b aD] (mK (iM A p ws aE []) s) (aB w) x K ((qu _ _).trans q) rfl ff h
  |some t=>show cu ba dZ [bY b9 (.aL fP ba aU) ba] o [.b aD,.b aD] (mK (iM A p ws (aA t) []) s) (aB w) x K ((qu _ _).trans q) rfl ff h
theorem Qq (hl:ws.length<=10) (K:List aM->Prop) (h:K ((ql ws).map λ(n:Nat)=>aB n)):cW (rN 201).w bh [(bY BG (.bi .len [eO ba dZ (.bL 2) [bY b9 (.aL fP ba aU) ba]])<|.bA dO aU).w] o (cJ<|iM A p ws t []) ([1,2,3,4,5,6,7].map λ(n:Nat)=>aB n) K:=by
 unfold ql at h;rw[<-rP] at h;show oy (λs hs xs K h=>?_) K h;have x:s<8:=m7 hs;have f:=ug (λw=>w &&& s==w) ws;have W:(ws.map λ(n:Nat)=>aB n).length<=16777216:=by rw[cp];show bO ‹_› (dI _ _)
 have L: ∀r,cy r .len [.d<|aK<|(ws.filter λw=>w &&& s==w).map λ(n:Nat)=>aB n]<|aB (iK ws s:Nat):=λr=>by have:=cy.oo (r:=r) (v:=.d<|aK<|(ws.filter λw=>w &&& s==w).map λ(n:Nat)=>aB n) (.l .d) (by rw[cp];show bB hl f);rw[cp] at this;show this
 have i: ∀r,cN r (.d<|aK<|Gg.map aB) (s:Int)<|aB (gY s:Nat):=λr=>jT (Ud s x) rfl (by decide:(8:Int)<2^63);have e:decide (((iK ws s:Nat):Int)>(gY s:Nat))=decide (gY s<iK ws s):=decide_eq_decide.mpr pd;induction q:decide (gY s<iK ws s) with
 |true=>
  rw[q] at h;induction t with
  |none=>show cu aU bh [bY BG (.bi .len [eO ba dZ (.bL 2) [bY b9 (.aL fP ba aU) ba]])<|.bA dO aU] o [.ds<|(ws.filter λw=>w &&& s==w).map λ(n:Nat)=>aB n,hi (iK ws s:Nat),hi (gY s:Nat),.b aC,.b aC] (cJ<|iM A p ws aE []) (aB s) xs K W (Dz (t:=aE)) (L _) (i _) (e.trans q) rfl tt rfl h
  |some t=>show cu aU bh [bY BG (.bi .len [eO ba dZ (.bL 2) [bY b9 (.aL fP ba aU) ba]])<|.bA dO aU] o [.ds<|(ws.filter λw=>w &&& s==w).map λ(n:Nat)=>aB n,hi (iK ws s:Nat),hi (gY s:Nat),.b aC,.b aC] (cJ<|iM A p ws (aA t) []) (aB s) xs K W (Dz (t:=aA t)) (L _) (i _) (e.trans q) rfl tt rfl h
 |false=>
  rw[q] at h;induction t with
  |none=>show cu aU bh [bY BG (.bi .len [eO ba dZ (.bL 2) [bY b9 (.aL fP ba aU) ba]])<|.bA dO aU] o [.ds<|(ws.filter λw=>w &&& s==w).map λ(n:Nat)=>aB n,hi (iK ws s:Nat),hi (gY s:Nat),.b aD,.b aD] (cJ<|iM A p ws aE []) (aB s) xs K W (Dz (t:=aE)) (L _) (i _) (e.trans q) rfl ff h
  |some t=>show cu aU bh [bY BG (.bi .len [eO ba dZ (.bL 2) [bY b9 (.aL fP ba aU) ba]])<|.bA dO aU] o [.ds<|(ws.filter λw=>w &&& s==w).map λ(n:Nat)=>aB n,hi (iK ws s:Nat),hi (gY s:Nat),.b aD,.b aD] (cJ<|iM A p ws (aA t) []) (aB s) xs K W (Dz (t:=aA t)) (L _) (i _) (e.trans q) rfl ff h
theorem Cm (K:List aM->Prop) (h:K ((cr.filter λl=>l &&& s==l && l !=s).map λ(n:Nat)=>aB n)):cW (rN 401).w dZ [(TW.eH mR [bY b9 (.aL fP ba aU) ba,bY dT ba aU]).w] o (mK (iM A p ws t [(6,aQ<|aK<|cr.map λ(n:Nat)=>aB n)]) s) (cr.map λ(n:Nat)=>aB n) K:=by
 rw[<-rP] at h;show oy (λw O x K h=>?_) K h;have N:(((w:Nat):Int) !=(s:Nat))=(w !=s):=QIh not<|o3 _ _;induction q1:(w &&& s==w) with
 |true=>
  rw[q1,Az] at h;induction q2:(w !=s) with
  |true=>
   rw[q2] at h;induction t with
   |none=>show cu ba dZ [.eH mR [bY b9 (.aL fP ba aU) ba,bY dT ba aU]] o [.b aD,.b aD,.b aC,.b aC] (mK (iM A p ws aE [(6,aQ<|aK<|cr.map λ(n:Nat)=>aB n)]) s) (aB w) x K ((qu _ _).trans q1) (N.trans q2) tt rfl tt rfl h
   |some t=>show cu ba dZ [.eH mR [bY b9 (.aL fP ba aU) ba,bY dT ba aU]] o [.b aD,.b aD,.b aC,.b aC] (mK (iM A p ws (aA t) [(6,aQ<|aK<|cr.map λ(n:Nat)=>aB n)]) s) (aB w) x K ((qu _ _).trans q1) (N.trans q2) tt rfl tt rfl h
  |false=>
   rw[q2] at h;induction t with
   |none=>show cu ba dZ [.eH mR [bY b9 (.aL fP ba aU) ba,bY dT ba aU]] o [.b aD,.b aC,.b aD,.b aD] (mK (iM A p ws aE [(6,aQ<|aK<|cr.map λ(n:Nat)=>aB n)]) s) (aB w) x K ((qu _ _).trans q1) (N.trans q2) ff rfl ff h
   |some t=>show cu ba dZ [.eH mR [bY b9 (.aL fP ba aU) ba,bY dT ba aU]] o [.b aD,.b aC,.b aD,.b aD] (mK (iM A p ws (aA t) [(6,aQ<|aK<|cr.map λ(n:Nat)=>aB n)]) s) (aB w) x K ((qu _ _).trans q1) (N.trans q2) ff rfl ff h
 |false=>
  rw[q1,RZ] at h;induction t with
  |none=>show cu ba dZ [.eH mR [bY b9 (.aL fP ba aU) ba,bY dT ba aU]] o [.b aC,.b aD,.b aD] (mK (iM A p ws aE [(6,aQ<|aK<|cr.map λ(n:Nat)=>aB n)]) s) (aB w) x K ((qu _ _).trans q1) ff rfl ff h
  |some t=>show cu ba dZ [.eH mR [bY b9 (.aL fP ba aU) ba,bY dT ba aU]] o [.b aC,.b aD,.b aD] (mK (iM A p ws (aA t) [(6,aQ<|aK<|cr.map λ(n:Nat)=>aB n)]) s) (aB w) x K ((qu _ _).trans q1) ff rfl ff h
theorem LQ (hl:cr.length<=10) (K:List aM->Prop) (h:K ((cr.filter λs=>(cr.filter λl=>l &&& s==l && l !=s).isEmpty).map λ(n:Nat)=>aB n)):cW (rN 201).w bh [(bY b9 (eO ba dZ (.bL 6) [.eH mR [bY b9 (.aL fP ba aU) ba,bY dT ba aU]])<|cC []).w] o (cJ<|iM A p ws t [(6,aQ<|aK<|cr.map λ(n:Nat)=>aB n)]) (cr.map λ(n:Nat)=>aB n) K:=by
 rw[<-rP] at h;show oy (λs O x K h=>?_) K h;have W:(cr.map λ(n:Nat)=>aB n).length<=16777216:=by rw[cp];show aS hl
 have m:=tW<|zm (cr.filter λl=>l &&& s==l && l !=s) λn=>(n:Int)
 have c: ∀b,(cr.filter λl=>l &&& s==l && l !=s).isEmpty=b-> ∀r,f9 r b9 (.d<|aK<|(cr.filter λl=>l &&& s==l && l !=s).map λ(n:Nat)=>aB n) (.d<|aK []) b:=λb e r=>.lst .d .d m rfl (by
  induction b with
  |true=>show .eqT (by erw[E1.mp e];rfl)
  |false=>show .xI λq=>by rw[SS.mp q] at e;show vZ e)
 induction q:(cr.filter λl=>l &&& s==l && l !=s).isEmpty with
 |true=>
  rw[q] at h;induction t with
  |none=>show cu aU bh [bY b9 (eO ba dZ (.bL 6) [.eH mR [bY b9 (.aL fP ba aU) ba,bY dT ba aU]])<|cC []] o [.ds<|(cr.filter λl=>l &&& s==l && l !=s).map λ(n:Nat)=>aB n,.b aC,.b aC,.b aC] (cJ<|iM A p ws aE [(6,aQ<|aK<|cr.map λ(n:Nat)=>aB n)]) (aB s) x K W (Cm (t:=aE)) (c _ q _) tt rfl tt rfl h
  |some t=>show cu aU bh [bY b9 (eO ba dZ (.bL 6) [.eH mR [bY b9 (.aL fP ba aU) ba,bY dT ba aU]])<|cC []] o [.ds<|(cr.filter λl=>l &&& s==l && l !=s).map λ(n:Nat)=>aB n,.b aC,.b aC,.b aC] (cJ<|iM A p ws (aA t) [(6,aQ<|aK<|cr.map λ(n:Nat)=>aB n)]) (aB s) x K W (Cm (t:=aA t)) (c _ q _) tt rfl tt rfl h
 |false=>
  rw[q] at h;induction t with
  |none=>show cu aU bh [bY b9 (eO ba dZ (.bL 6) [.eH mR [bY b9 (.aL fP ba aU) ba,bY dT ba aU]])<|cC []] o [.ds<|(cr.filter λl=>l &&& s==l && l !=s).map λ(n:Nat)=>aB n,.b aD,.b aD,.b aD] (cJ<|iM A p ws aE [(6,aQ<|aK<|cr.map λ(n:Nat)=>aB n)]) (aB s) x K W (Cm (t:=aE)) (c _ q _) ff rfl ff h
  |some t=>show cu aU bh [bY b9 (eO ba dZ (.bL 6) [.eH mR [bY b9 (.aL fP ba aU) ba,bY dT ba aU]])<|cC []] o [.ds<|(cr.filter λl=>l &&& s==l && l !=s).map λ(n:Nat)=>aB n,.b aD,.b aD,.b aD] (cJ<|iM A p ws (aA t) [(6,aQ<|aK<|cr.map λ(n:Nat)=>aB n)]) (aB s) x K W (Cm (t:=aA t)) (c _ q _) ff rfl ff h
end
theorem QCN (L:Nat) {vs:List (Nat×Nat×Nat)} (P:vs.length<=10):(aY<|L+1).F 20 [aK<|vs.map bZ,bZ p] (aK<|(iq<|vs.map λv=>cv v p).map λ(n:Nat)=>aB n):=by
 show bE (UT (o:=aY L) (A:=vs.map bZ) (p:=p) vs [] aE (by simp only[tI];show ES ‹_› _)) λt l=>?_;simp only[BV] at l;have x:(vs.map λv=>cv v p).length<=10:=by simp only[cp];show P
 generalize (vs.map λv=>cv v p)=W at*;have C:(ql W).length<=10:=bO (ug _ _) (by ext);have c:((ql W).map λ(n:Nat)=>aB n).length<=16777216:=by simp only[cp];show bO ‹_› (dI _ _)
 show fu ?_ rfl;induction t with
 |none=>show d5 b_law_crowded 2 [.f dE<|lG (vs.map bZ) p W aE [],.ds<|(ql W).map λ(n:Nat)=>aB n,.ds<|(iq W).map λ(n:Nat)=>aB n] (aY L) [aK<|vs.map bZ,bZ p] _ rfl l tt tt (by ext) (Qq (t:=aE) x) c (LQ (t:=aE) C) .ret
 |some t=>show d5 b_law_crowded 2 [.f dE<|lG (vs.map bZ) p W (aA t) [],.ds<|(ql W).map λ(n:Nat)=>aB n,.ds<|(iq W).map λ(n:Nat)=>aB n] (aY L) [aK<|vs.map bZ,bZ p] _ rfl l tt tt (by ext) (Qq (t:=aA t) x) c (LQ (t:=aA t) C) .ret
end B01
end
namespace B01
def gn (v p:Nat×Nat×Nat) (l:Nat):Int:=match l with
 |0=>(v.1:Int) - p.1|1=>(v.2.1:Int) - p.2.1|2=>(v.2.2:Int) - p.2.2|_=>0
theorem Hf (a b:Int):max a b=a\/max a b=b:=(QGF b a).imp QIB I7
theorem u7 (v p:Nat×Nat×Nat):(∀l,l<4->gn v p l<=dd v p)/\ ∃l,l<4/\gn v p l=dd v p:=
 ⟨B3 (lN (J3 _ _)<|J3 _ _) (lN (J4 _ _)<|J3 _ _) (lN (J3 _ _)<|J4 _ _)<|lN (J4 _ _)<|J4 _ _,
  (Hf (max (gn v p 0) (gn v p 1))<|max (gn v p 2) (gn v p 3)).elim
   (λe=>(Hf (gn v p 0)<|gn v p 1).elim (λk=>⟨0,by ext,(e.trans k).symm⟩) λk=>⟨1,by ext,(e.trans k).symm⟩)
   λe=>(Hf (gn v p 2)<|gn v p 3).elim (λk=>⟨2,by ext,(e.trans k).symm⟩) λk=>⟨3,by ext,(e.trans k).symm⟩⟩
theorem mC (v p:Nat×Nat×Nat):cv v p<16/\ ∀l,l<4->((cv v p).testBit l=aC↔gn v p l=dd v p):=by
 have g0:gn v p 0=(v.1:Int) - p.1:=rfl;have g:gn v p 1=(v.2.1:Int) - p.2.1:=rfl;have g2:gn v p 2=(v.2.2:Int) - p.2.2:=rfl;have g3:gn v p 3=0:=rfl;unfold cv;show dA g0<|dA g<|dA g2 ?_
 generalize dd v p=m at*;have K: ∀a b c d:Bool,((if a then 1 else 0)+(if b then 2 else 0)+(if c then 4 else 0)+(if d then 8 else 0)<16)/\((if a then 1 else 0)+(if b then 2 else 0)+(if c then 4 else 0)+(if d then 8 else 0)).testBit 0=a/\((if a then 1 else 0)+(if b then 2 else 0)+(if c then 4 else 0)+(if d then 8 else 0)).testBit 1=b/\((if a then 1 else 0)+(if b then 2 else 0)+(if c then 4 else 0)+(if d then 8 else 0)).testBit 2=c/\((if a then 1 else 0)+(if b then 2 else 0)+(if c then 4 else 0)+(if d then 8 else 0)).testBit 3=d:=by decide
 have k:=K (decide (gn v p 0=m)) (decide (gn v p 1=m)) (decide (gn v p 2=m))<|decide (0=m);simp only[decide_eq_true_eq] at k;show wZ k λZ H B t Y=>⟨Z,λl hl=>?_⟩
 match l,hl with
 |0,_=>erw[H];simp
 |1,_=>erw[B];simp
 |2,_=>erw[t];simp
 |3,_=>show sb Y<|sb g3 ?_;simp
 |n+4,h=>show ⟨λx=>(n6 h),λx=>(n6 h)⟩
theorem AO (v p:Nat×Nat×Nat):cv v p≠0:=by show aT ((u7 v p).2) λl L e=>?_;intro h;have:=((mC v p).2 l L).mpr e;rw[h] at this;simp at this
def eU (p:Nat×Nat×Nat) (S:Nat):Nat×Nat×Nat:=(p.1+dB S 0,p.2.1+dB S 1,p.2.2+dB S 2)
theorem xr (S l:Nat):dB S l=(S.testBit l).toNat:=by
 unfold dB;erw[Nat.testBit_eq_decide_div_mod_eq];have:S / 2^l % 2<2:=oT _ (by ext);by_cases h:S / 2^l % 2=1
 ·erw[h]
  rfl
 ·have:S / 2^l % 2=0:=by (clear this;lia -abstractProof)
  erw[this];rfl
theorem Pj (v p:Nat×Nat×Nat) {S:Nat} (s:S<8): ∀l,l<4->gn v (eU p S) l=gn v p l - ((S.testBit l).toNat):=by
 intro l L
 match l,L with
 |0,_=>rw[<-xr];show (?_:(v.1:Int) - ((p.1+dB S 0:Nat):Int)=(v.1:Int) - p.1 - _);simp+arith
 |1,_=>rw[<-xr];show (?_:(v.2.1:Int) - ((p.2.1+dB S 1:Nat):Int)=(v.2.1:Int) - p.2.1 - _);simp+arith
 |2,_=>rw[<-xr];show (?_:(v.2.2:Int) - ((p.2.2+dB S 2:Nat):Int)=(v.2.2:Int) - p.2.2 - _);simp+arith
 |3,_=>
  have: ∀S,S<8->S.testBit 3=false:=by decide
  erw[this S s];rfl
 |n+4,h=>show (n6 h)
theorem Zk (v p:Nat×Nat×Nat) {S:Nat} (Y:S<8) (h: ∀l,l<4->(cv v p).testBit l=aC->S.testBit l=aC): ∀l,l<4->(cv v p).testBit l=aC->(cv v<|eU p S).testBit l=true:=by
 have m:=(u7 v p);have C:=m.1;have u:=m.2;show aT u λk K M=>?_;have B:=(u7 v<|eU p S);have N:=B.1;have x:=B.2;show aT x λj s n=>?_;have b:=(mC v p).2;have f:=(mC v<|eU p S).2;have g:=Pj v p Y
 have e:dd v (eU p S)=dd v p - 1:=by
  have H:=N k K;rw[g k K,h k K<|(b k K).mpr M] at H;simp only[J5] at H;have i:=C j s;have Q:=g j s;by_cases q:gn v p j=dd v p
  ·simp only[h j s<|(b j s).mpr q] at Q
   simp only[J5] at Q;grind_order
  ·have:(S.testBit j).toNat<=1:=by cases S.testBit j<;>decide
   show ((SM q).elim (λU=>(nF (bN (ni (ni U<|iR n)<|iL Q)<|oZ<|(S.testBit j).toNat)<|bN (iR M) H)) λU=>(nF (bN (ni (ni (ni (ni i<|iR n) U)<|iL Q) i)<|oZ<|(S.testBit j).toNat)<|bN (iR M) H))
 intro l L z;have H:=(b l L).mp z;have i:=g l L;simp only[h l L z] at i;simp only[J5] at i;show (f l L).mpr<|O7 (ei e.symm H) i
theorem QAo (v p:Nat×Nat×Nat) {S:Nat} (U:S<8) (h: ∃l,l<4/\(cv v p).testBit l=aC/\S.testBit l=aD): ∀l,l<4->((cv v<|eU p S).testBit l=aC↔(cv v p).testBit l=aC/\S.testBit l=aD):=by
 show bP (u7 v p) λm O=>?_;have H:=(u7 v<|eU p S);have N:=H.1;have Y:=H.2;show aT Y λj s n=>?_;have b:=(mC v p).2;have f:=(mC v<|eU p S).2;have g:=Pj v p U;show eE h λk K W B=>?_;have e:dd v (eU p S)=dd v p:=by have A:=N k K;simp only[g k K,B,(b k K).mp W] at A;dsimp only[QIC] at A;have i:=m j s;have Q:=g j s;show nF (bN (ni (iR n) i)<|iL Q)<|bR A
 intro l hl;simp only[f l hl,b l hl,e,g l hl];have:=m l hl;cases S.testBit l
 ·dsimp only[QIC]
  constructor
  ·intro q
   show ⟨by (clear e;show r8 q),by first|rfl|trivial⟩
  ·intro q
   clear e;show r8 q.1
 ·dsimp only[J5]
  constructor
  ·intro q
   show ⟨(nF this (bR<|iR q)),(gX (iR q) this)⟩
  ·intro q
   show vZ q.2
noncomputable def Gx (D S d:Nat):Bool:=if D &&& S==D then D &&& d==D else d==D - (D &&& S)
noncomputable def PE (D S d:Nat):Bool:=if [0,1,2,3].all (λl=> !D.testBit l||S.testBit l) then [0,1,2,3].all (λl=> !D.testBit l||d.testBit l) else [0,1,2,3].all (λl=>d.testBit l==(D.testBit l && !S.testBit l))
theorem UY: ∀D,D<16-> ∀S,S<8-> ∀d,d<16->PE D S d=aC->Gx D S d=true:=by decide+kernel
theorem CJ:l∈[0,1,2,3]↔l<4:=by simp only[dR,i5,or_false];show ⟨o4,n4⟩
theorem QAv (v p:Nat×Nat×Nat) {S:Nat} (s:S<8):Gx (cv v p) S (cv v<|eU p S)=true:=by
 show UY _ (mC v p).1 S s _ (mC v<|eU p S).1 ?_;unfold PE
 split
 ·rename_i h
  rw[fN] at h⊢;have H: ∀l,l<4->(cv v p).testBit l=aC->S.testBit l=true:=by intro l L B;have:=h l<|CJ.mpr L;rw[B] at this;simpa using this
  intro l L;have:=Zk v p s H l<|CJ.mp L;cases q:(cv v p).testBit l
  ·rfl
  ·erw[this q]
   rfl
 ·rename_i h
  rw[fN]
  have x: ∃l,l<4/\(cv v p).testBit l=aC/\S.testBit l=false:=by
   show Q0 λq=>h ?_;rw[fN];intro l L;cases e:(cv v p).testBit l
   ·rfl
   ·cases n:S.testBit l
    ·show QIe (fw l (CJ.mp L) e n) q
    ·rfl
  intro l L;have:=QAo v p s x l<|CJ.mp L;cases a:(cv v<|eU p S).testBit l<;>cases b:(cv v p).testBit l<;>cases c:S.testBit l<;>rw[a,b,c] at this<;>simp at this⊢
noncomputable def ind (b:Bool):Nat:=if b then 1 else 0
noncomputable def sd (D S:Nat):Bool:=D &&& S==D
noncomputable def Fv (D T:Nat):Bool:=D &&& T !=0
theorem Vp: ∀D,D<16-> ∀S,S<8-> ∀d,d<16->Gx D S d=aC-> ∀T,T<8->ind (Fv D<|T - (T &&& S))+ind (sd D S)<=ind (Fv d T)+ind (sd D<|S - (T &&& S)):=by decide+kernel
def sR (f:Nat->Bool) (ws:List Nat):Nat:=(ws.map λw=>ind<|f w).sum
theorem Iz (f:Nat->Bool) (w:Nat) (ws:List Nat):sR f (w::ws)=ind (f w)+sR f ws:=rfl
theorem Cy (s:Nat): ∀ws,iK ws s=sR (λw=>sd w s) ws:=by
 intro O;induction O with
 |nil=>show rfl
 |cons w ws i=>
  show by
   have i:=i;unfold iK sR at*;simp only[tK,dg,lT,<-i];have e:sd w s=(w &&& s==w):=rfl;cases q:(w &&& s==w)
   ·simp only[e,q,ind,rB,if_false]
    simp+arith
   ·simp only[e,q,ind,if_true,jd]
    show wG _ _
def vl (ws:List Nat) (T:Nat):Nat:=sR (λw=>Fv w T) ws
def J (ws:List Nat) (Z:Nat):Prop:= ∀T,T<8->T≠0->T &&& Z=T->gY T+1<=vl ws T
def zP (p:Nat×Nat×Nat):Nat:=ind (decide (0<p.1))+2*ind (decide (0<p.2.1))+4*ind (decide (0<p.2.2))
theorem LX (p:Nat×Nat×Nat):zP p<8:=by
 have: ∀b,ind b<=1:=by decide
 have a:=this (decide (0<p.1));have b:=this (decide (0<p.2.1));have c:=this (decide (0<p.2.2));unfold zP;show (bB (na a<|fO 2 b)<|fO 4 c)
theorem L_ (p:Nat×Nat×Nat) {S:Nat} (s:S<8):zP (eU p S)=zP p|||S:=by
 have K: ∀S,S<8-> ∀a b c,ind (a||decide (0<dB S 0))+2*ind (b||decide (0<dB S 1))+4*ind (c||decide (0<dB S 2))=(ind a+2*ind b+4*ind c)|||S:=by decide
 have d: ∀a b,decide (0<a+b)=(decide (0<a)||decide (0<b)):=by intro a b;rw[Bool.eq_iff_iff];simp;show ⟨λv=>((Decidable.em _).imp_right λo=>(bB v<|fJ o)),λv=>(v.elim (λu=>(aS u)) λu=>(aS u))⟩
 delta zP eU;simp only[d];show K S s _ _ _
theorem fT: ∀T,T<8-> ∀S,S<8->gY T=gY (T - (T &&& S))+gY (T &&& S)/\gY S=gY (S - (T &&& S))+gY (T &&& S)/\T - (T &&& S)<8/\T &&& S<8/\S - (T &&& S)<8/\(S - (T &&& S)) &&& S=S - (T &&& S)/\(T &&& S≠0->S - (T &&& S)≠S)/\(T &&& S=0->T - (T &&& S)=T/\S - (T &&& S)=S):=by decide
theorem fZ: ∀T,T<8-> ∀S,S<8-> ∀Z,Z<8->T &&& (Z|||S)=T->(T - (T &&& S)) &&& Z=T - (T &&& S):=by decide+kernel
theorem Dh (hw: ∀w∈ws,w≠0) {S:Nat} (h:S∈iq ws):S<8/\S≠0/\gY S<iK ws S/\ ∀U,U<8->U &&& S=U->U≠S->iK ws U<=gY U:=by
 show bP (uh.mp h) λA i=>?_;have H:=uh.mp A;have hm:S<8/\S≠0:=⟨m7 H.1,sv<|Fw H.1⟩
 show (mA hm.1 hm.2 (by simpa using H.2) λU N hs n=>?_);by_cases u:U=0
 ·erw[u]
  have:iK ws 0=0:=by
   unfold iK;rw[RO,SX];intro w W q;have:0=w:=by simpa using q
   show hw w W this.symm
  show sb this<|Nat.zero_le _
 ·show fJ λq=>?_
  have:U∈(ql ws).filter λl=>l &&& S==l && l !=S:=uh.mpr ⟨(uh.mpr ⟨l7 (QIA u) N,by simpa using q⟩),by simp[hs,n]⟩;rw[E1] at i;rw[i] at this;show nomatch this
theorem Vb (h:iq ws=[]): ∀s,0<s->s<8->iK ws s<=gY s:=by
 have key: ∀n s,s<=n->s∉ql ws:=by
  intro n;induction n with
  |zero=>
   intro s hs hm;have:=(uh.mp hm).1;simp only[dR,i5,or_false] at this
   grind_linarith
  |succ n i=>
   intro s hs hm;apply (by erw[h];intro q;show nomatch q:s∉iq ws);show uh.mpr ⟨hm,?_⟩;rw[E1,SX];intro l hl q;simp only[gb,beq_iff_eq,bne_iff_ne] at q;have:l<=s:=by erw[<-q.1];show Nat.and_le_right
   show i l (((rK q.2).elim (λu=>(bB u hs)) λu=>(bB (na (na this u) this) hs))) hl
 intro s h0 H;show fJ λq=>key s s (cY _)<|List.mem_filter.mpr ⟨l7 h0 H,by simpa using q⟩
theorem q_ {S T:Nat} (s:S<8) (t:T<8): ∀vs:List (Nat×Nat×Nat),
 vl (vs.map λv=>cv v p) (T - (T &&& S))+sR (λw=>sd w S) (vs.map λv=>cv v p)<=vl (vs.map λv=>cv v<|eU p S) T+sR (λw=>sd w<|S - (T &&& S)) (vs.map λv=>cv v p):=by
 intro vs;induction vs with
 |nil=>show cY _
 |cons v vs i=>show by have f:=Vp _ (mC v p).1 S s _ (mC v<|eU p S).1 (QAv v p s) T t;unfold vl at*;simp only[dg,Iz];show bB i f
theorem VB {vs:List (Nat×Nat×Nat)} {S:Nat} (h:S∈iq (vs.map λv=>cv v p)) (j:J (vs.map λv=>cv v p) (zP p)):J (vs.map λv=>cv v<|eU p S) (zP<|eU p S):=by
 show fR (Dh (by intro w M;show aT (gQ.mp M) λv O e=>?_;erw[<-e];show AO v p) h) λs l a N=>?_;intro T d Y t;simp only[L_ p s] at t;have f:=fT T d S s;have z:=fZ T d S s _ (LX p) t;have m:=q_ (p:=p) s d vs;simp only[<-Cy,<-Cy] at m;show Wx f λW U n R H r K F=>?_;by_cases q:T &&& S=0
 ·show bP (F q) λg o=>?_
  simp only[g,o] at m;simp only[g] at z;have:=j T d Y z;grind_order
 ·have u:=N _ H r (K q)
  by_cases Q:T - (T &&& S)=0
  ·have:gY 0=0:=rfl
   simp only[Q] at W;lia -abstractProof
  ·have:=j _ n Q z
   show (bB (na (na (na (na (nL f.1) this)<|nR f.2.1) m) a) u)
theorem QFZ: ∀{ws:List Nat},(∀w∈ws,f w=aC->g w=aC)->sR f ws<=sR g ws:=by
 intro ws;induction ws with
 |nil=>show λO=>cY _
 |cons w ws i=>
  show λh=>by
   have i:=i λx M=>h x<|.tail _ M;have H:=h w<|.head _;simp only[Iz,Iz];induction q:f w with
   |false=>have e:ind aD=0:=rfl;show bB i<|nL e
   |true=>show sb (H q)<|Nat.add_le_add_left ‹_› _
theorem fL: ∀D,D<16-> ∀S,S<8-> ∀l,l<3->(S.testBit l && sd D S && !sd D (S - 2^l))=aC->(D.testBit l && !D.testBit 3)=true:=by decide+kernel
theorem fU: ∀S,S<8-> ∀l,l<3->S.testBit l=aC->S - 2^l<8/\(S - 2^l) &&& S=S - 2^l/\S - 2^l≠S/\gY (S - 2^l)+1=gY S:=by decide
theorem raise {vs:List (Nat×Nat×Nat)} {S:Nat} (h:S∈iq (vs.map λv=>cv v p)) (hl:l<3) (hb:S.testBit l=aC): ∃v∈vs,0<gn v p l:=by
 show fR (Dh (by intro w W;show aT (gQ.mp W) λv O Q=>?_;erw[<-Q];show AO v p) h) λi j a s=>?_;show fR (fU S i l hl hb) λU t A z=>?_;have u:=s _ U t A;show Q0 λq=>?_
 have:iK (vs.map λv=>cv v p) S<=iK (vs.map λv=>cv v p) (S - 2^l):=by
  simp only[Cy,Cy];show QFZ λw W m=>aT (gQ.mp W) λv P B=>?_;clear h a s u W;subst B;cases e:sd (cv v p) (S - 2^l)
  ·exfalso
   have d:=fL _ (mC v p).1 S i l hl (by simp only[hb,e];simpa using m);simp only[gb,s9] at d;show bP d λL C=>?_;apply q;show (bJ v P ?_);have x:=((mC v p).2 l<|yO ‹_›).mp L;have N:=(u7 v p).1 3 (by ext);have M:gn v p 3=0:=rfl;have Y: ¬ gn v p 3=dd v p:=λe=>by rw[((mC v p).2 3<|by ext).mpr e] at C;show vZ C
   lia -abstractProof
  ·rfl
 show dC (na (na a<|nL z) u) this
structure PK (vs:List (Nat×Nat×Nat)) (p:Nat×Nat×Nat):Prop where
 b0:p.1<=9
 b1:p.2.1<=9
 b2:p.2.2<=9
 j:J (vs.map λv=>cv v p) (zP p)
def lr (vs:List (Nat×Nat×Nat)):Prop:= ∀v∈vs,v.1<=9/\v.2.1<=9/\v.2.2<=9
theorem PK.step {vs:List (Nat×Nat×Nat)} (hs:lr vs) (h:PK vs p) {S:Nat} (s:S∈iq (vs.map λv=>cv v p)):PK vs (eU p S)/\p.1+p.2.1+p.2.2+1<=(eU p S).1+(eU p S).2.1+(eU p S).2.2:=by
 show fR (Dh (by intro w W;show aT (gQ.mp W) λv O e=>?_;erw[<-e];show AO v p) s) λi u a N=>?_;have l:=xr S 0;have x:=xr S 1;have C:=xr S 2;have t: ∀b,b.toNat=0\/(b=aC/\b.toNat=1):=by decide
 have n:=(by decide: ∀S,S<8->S≠0->1<=dB S 0+dB S 1+dB S 2) S i u;show ⟨⟨?_,?_,?_,VB s h.j⟩,?_⟩
 ·show (?_:p.1+dB S 0<=9)
  rcases t (S.testBit 0) with q|⟨q,Q⟩
  ·have:=h.b0
   show bB (na (nL l)<|nL q) this
  ·show aT (raise s (by ext) q) λv P g=>?_
   have g:(0:Int)<(v.1:Int) - p.1:=g;have:=(hs v P).1;show (oM<|bN (ni (ni g<|oL<|nL l)<|oL this)<|oL<|nL Q)
 ·show (?_:p.2.1+dB S 1<=9)
  rcases t (S.testBit 1) with q|⟨q,Q⟩
  ·have:=h.b1
   show bB (na (nL x)<|nL q) this
  ·show aT (raise s (by ext) q) λv P g=>?_
   have g:(0:Int)<(v.2.1:Int) - p.2.1:=g;have:=(hs v P).2.1;show (oM<|bN (ni (ni g<|oL<|nL x)<|oL this)<|oL<|nL Q)
 ·show (?_:p.2.2+dB S 2<=9)
  rcases t (S.testBit 2) with q|⟨q,Q⟩
  ·have:=h.b2
   show bB (na (nL C)<|nL q) this
  ·show aT (raise s (by ext) q) λv P g=>?_
   have g:(0:Int)<(v.2.2:Int) - p.2.2:=g;have:=(hs v P).2.2;show (oM<|bN (ni (ni g<|oL<|nL C)<|oL this)<|oL<|nL Q)
 ·show (?_:p.1+p.2.1+p.2.2+1<=p.1+dB S 0+(p.2.1+dB S 1)+(p.2.2+dB S 2))
  show aS n
theorem PK.zero (vs:List (Nat×Nat×Nat)):PK vs (0,0,0):=⟨by ext,by ext,by ext,λT O h0 z=>by
 have:zP (0,0,0)=0:=rfl;rw[this,Nat.and_zero] at z
 show QIe z.symm h0⟩
end B01
namespace B01
def so (A:List aM) (cell:Int) (p:Nat×Nat×Nat) (t:Option (Int×aM×Int×Int×aM)):Ls:=(0,aQ<|aK A)::(1,aQ<|aB cell)::(2,aQ<|bZ p)::match t with|none=>[]|some (a,b,c,d,e)=>[(3,aQ<|aB a),(4,aQ b),(5,aQ<|aB c),(6,aQ<|aB d),(7,aQ e)]
section
variable {o:dn} {A xs:List aM} {cell:Int} {p:Nat×Nat×Nat} {S t:Nat} {tl:Option (Int×aM×Int×Int×aM)} {cm:List Nat} {m q:aN} {K:Fl->Ls->Prop}
def pQ (A:List aM) (cell:Int) (p:Nat×Nat×Nat) (t:Nat) (cm:List Nat) (S:Nat):Ls:=so A cell p<|aA (t,aK<|cm.map λ(n:Nat)=>aB n,S,cell.fdiv 64+41*t,bZ<|eU p S)
def sC (p:Nat×Nat×Nat) (S:Nat):List Dat:=[aB (p.1+dB S 0:Nat),aB (p.2.1+dB S 1:Nat),aB (p.2.2+dB S 2:Nat)]
theorem DC (s:S<8) (K:List aM->Prop) (h:K (sC p S)):cW (jf bV (.bA cF aU)<|.aL fP (.aL mU dO aU)<|aH 1).w bh [] o (cJ<|pQ A cell p t cm S) [aB 0,aB 1,aB 2] K:=by
 have e: ∀(l a:Nat),l<3->(∀r,cN r (.d<|bZ p) (l:Int)<|aB a)->CE (jf bV (.bA cF aU)<|.aL fP (.aL mU dO aU)<|aH 1).w bh [] o (cJ<|pQ A cell p t cm S) (aB l) (aA<|aB<|a+dB S l):=λl a L H x K h=>by have:=(Ll S s l L).1;show cu (.aL bV (.bA cF aU)<|.aL fP (.aL mU dO aU)<|aH 1) bh [] o [.b aC,hi a] (cJ<|pQ A cell p t cm S) (aB l) x K rfl tt (H _) (cT _) rfl ?_;simp only[qD,this];show h
 show e 0 _ (by ext) (λr=>(nh p).1) _ _ (e 1 _ (by ext) (λr=>(nh p).2.1) _ _<|e 2 _ (by ext) (λr=>(nh p).2.2) _ _ h)
theorem QD: ∀x∈sC p S,gr 8 x=true:=λx h=>by simp only[sC,dR,i5,or_false] at h;rcases h with rfl|rfl|rfl<;>show Pc _
structure Hr (o:dn) (cell:Int) (p:Nat×Nat×Nat) (t:Nat) (S:Nat) (m q:aN):Prop where
 mu:ib 41+ib (t:Int)<=134217728
 EJ:o.F 21 [bZ p,aB S,aB<|cell.fdiv 64+41*t] (aI m)
 k9:o.F 9 [aI m] (aI q)
 Bw:o.F 22 [aI q,aB<|cell.fdiv 64+41*t] (bZ<|eU p S)
 s8:S<8
theorem Tv (R:Hr o cell p t S m q) (U:S≠0) (j:o.F 20 [aK A,bZ p] (aK<|cm.map λ(n:Nat)=>aB n)) (c:cm≠[]) (hl:cm.length<=100) (g:(ib 5:Int)*t<=134217728) (N:lO cell (5^t)=aD) (i: ∀r,cN r (.d<|aK<|cm.map λ(n:Nat)=>aB n) ((cell.fdiv<|5^t).fmod ((cm.map λ(n:Nat)=>aB n).length:Nat))<|aB S)
 (h:fW kQ (ru.map SW.w) o xs (so A cell (eU p S)<|aA (t,aK<|cm.map λ(n:Nat)=>aB n,S,cell.fdiv 64+41*t,bZ<|eU p S)) K):fW kQ (ru.map SW.w) o (aB t::xs) (so A cell p tl) K:=by
 have Z:=tW<|zm cm λn=>(n:Int);have C: ∀r,f9 r dT (.d<|aK<|cm.map λ(n:Nat)=>aB n) (.d<|aK []) true:=λr=>.lst .d .d Z rfl (.neT λq=>c<|SS.mp q);have L:(cm.map λ(n:Nat)=>aB n).length=cm.length:=cp ..;have v: ¬ (((cm.map λ(n:Nat)=>aB n).length:Nat):Int)=0:=by erw[L];have:=QID.mpr c;show λK=>gX (iL K)<|oL this
 have x: ∀r,f9 r dT (.d<|bZ<|eU p S) (.d<|aK<|sC p S) false:=λr=>gA .d QD;have P: ¬ (5:Int)^t=0:=gG (Int.pow_pos<|by ext);have s:((S:Int)==0)=false:=beq_eq_false_iff_ne.mpr λq=>U<|Int.ofNat_eq_zero.mp q;induction tl with
 |none=>show ej kQ ru o [.d<|aK<|cm.map λ(n:Nat)=>aB n,.b aC,.b aC,.d<|aB (cm.map λ(n:Nat)=>aB n).length,.d<|aB S,.d<|aI m,.d<|aI q,.d<|bZ<|eU p S,.ds<|sC p S,.b aD,.b aD,.b aD] (aB t) xs (so A cell p aE) K j (C _) tt (dt<|cT _) g (df P) N (.oo (.l .d) (by erw[L];show fq ‹_› (by ext))) (df v) (i _) ff (nl rfl) R.mu R.EJ R.k9 R.Bw tt (by ext) (DC R.s8) (x _) ff s h
 |some tl=>show ej kQ ru o [.d<|aK<|cm.map λ(n:Nat)=>aB n,.b aC,.b aC,.d<|aB (cm.map λ(n:Nat)=>aB n).length,.d<|aB S,.d<|aI m,.d<|aI q,.d<|bZ<|eU p S,.ds<|sC p S,.b aD,.b aD,.b aD] (aB t) xs (so A cell p<|aA tl) K j (C _) tt (dt<|cT _) g (df P) N (.oo (.l .d) (by erw[L];show aS hl)) (df v) (i _) ff (nl rfl) R.mu R.EJ R.k9 R.Bw tt (by ext) (DC R.s8) (x _) ff s h
theorem Wu (R:Hr o cell p t 0 m q) (j:o.F 20 [aK A,bZ p] (aK [])) (h:K (ui<|bZ p) (pQ A cell p t [] 0)):fW kQ (ru.map SW.w) o (aB t::xs) (so A cell p tl) K:=by
 have c: ∀r,f9 r dT (.d<|bZ<|eU p 0) (.d<|aK<|sC p 0) false:=λr=>gA .d QD;induction tl with
 |none=>show ej kQ ru o [hl [],.b aD,.b aD,ht m,ht q,.d<|bZ<|eU p 0,.ds<|sC p 0,.b aD,.b aD,.b aC] (aB t) xs (so A cell p aE) K j (gA .d nofun) ff ff (nl rfl) R.mu R.EJ R.k9 R.Bw tt (by ext) (DC (cm:=[]) R.s8) (c _) ff tt h
 |some tl=>show ej kQ ru o [hl [],.b aD,.b aD,ht m,ht q,.d<|bZ<|eU p 0,.ds<|sC p 0,.b aD,.b aD,.b aC] (aB t) xs (so A cell p<|aA tl) K j (gA .d nofun) ff ff (nl rfl) R.mu R.EJ R.k9 R.Bw tt (by ext) (DC (cm:=[]) R.s8) (c _) ff tt h
end
theorem p5: ∀t,t<40->((5:Int)^t).natAbs.log2<9000:=by decide+kernel
theorem MM (L:Nat) (cell:Int) {t S:Nat} (Z:p.1<=9) (h:p.2.1<=9) (H:p.2.2<=9) (a:t<40) (s:S<8): ∃m q,Hr (aY<|L+2) cell p t S m q:=by show cI (QEJ L (P:=[p.1,p.2.1,p.2.2]) rfl (by intro x M;simp only[dR,i5,or_false] at M;show (M.elim (λe=>(bB (nL e) Z)) λe=>(e.elim (λu=>(bB (nL u) h)) λu=>(bB (nL u) H)))) s (cell.fdiv 64+41*(t:Int))) λm q K f U=>⟨m,q,?_,K,f,U,s⟩;have b:=gB (cT _)<|bR<|oL a;show bB (nL (by decide+kernel:ib 41=6)) b
theorem QFo (L:Nat) {vs:List (Nat×Nat×Nat)} (F:vs.length<=10) (hs:lr vs) {cell:Int}: ∀(n t:Nat) (p:Nat×Nat×Nat) (tl:Option (Int×aM×Int×Int×aM)),t+n=40->PK vs p->t<=p.1+p.2.1+p.2.2->
 ∃P t',PK vs P/\iq (vs.map λv=>cv v P)=[]/\ ∀K,K (ui<|bZ P) (pQ (vs.map bZ) cell P t' [] 0)->fW kQ (ru.map SW.w) (aY<|L+2) ((FH t n).map λ(k:Nat)=>aB (k:Int)) (so (vs.map bZ) cell p tl) K:=by
 intro n;induction n with
 |zero=>show λt p tl Z Q s=>dC (na (na (na (nR Z) s) Q.b0) Q.b1) Q.b2
 |succ n i=>
  show λt p tl Z Q s=>by
   have o:=QCN (L+1) F (p:=p);have C:(iq<|vs.map λv=>cv v p).length<=7:=bO (ug _ _)<|ug _ _;show sb Jk<|sb List.map_cons ?_
   induction hc:iq (vs.map λv=>cv v p) with
   |nil=>rw[hc] at o;show lL (MM L cell Q.b0 Q.b1 Q.b2 (aS<|nL Z) (S:=0)<|by ext) λm q R=>(d0 p t Q hc λK h=>Wu R o h)
   |cons c cm=>
    have N:iq (vs.map λv=>cv v p)≠[]:=sb hc<|List.cons_ne_nil _ _
    have l:=QID.mpr N;show aT (iT (cell.fdiv<|5^t) l) λk Y A=>?_;have M:(iq<|vs.map λv=>cv v p)[k]∈iq (vs.map λv=>cv v p):=Jr Y;have d:(iq<|vs.map λv=>cv v p)[k]?=aA (iq<|vs.map λv=>cv v p)[k]:=p8 Y;generalize (iq<|vs.map λv=>cv v p)[k]=S at*;have H:=(Dh (by intro w W;show aT (gQ.mp W) λv O e=>?_;erw[<-e];show AO v p) M);have U:=H.1;have j:=H.2.1;have H:=(Q.step hs M);have B:=H.1;have z:=H.2;show lL (MM L cell Q.b0 Q.b1 Q.b2 (aS (nL Z):t<40) U) λm q R=>cI (i (t+1) (eU p S) (aA (t,aK<|(iq<|vs.map λv=>cv v p).map λ(n:Nat)=>aB n,S,cell.fdiv 64+41*t,bZ<|eU p S)) (by grind_order) B<|fq ‹_› ‹_›) λP t' f g u=>?_;have x:ib 5=3:=by decide+kernel
    show (d0 P t' f g λK h=>Tv R j o N (bO ‹_› (dI _ _)) (by erw[x];show oL (a:=3*t) (b:=134217728)<|aS<|fO 3<|nL Z) (QIE<|p5 t<|(aS<|nL Z)) (λr=>ic (w:=k) (by (erw[nM];erw[d]);rfl) (by rw[cp];show A) (by rw[cp];show bR<|oL C))<|u K h)
theorem QFu (L:Nat) {vs:List (Nat×Nat×Nat)} (P:vs.length<=10) (hs:lr vs) (cell:Int): ∃p,(aY<|L+3).F 23 [aK<|vs.map bZ,aB cell] (bZ p)/\PK vs p/\iq (vs.map λv=>cv v p)=[]:=by show cI (QFo L P hs (cell:=cell) 40 0 (0,0,0) aE rfl (PK.zero vs) (cY _)) λp t e n l=>?_;rw[<-Rq] at l;show (fw p (fu (d5 b_law_prices 2 [.f (ui<|bZ p)<|pQ (vs.map bZ) cell p t [] 0] (aY<|L+2) [aK<|vs.map bZ,aB cell] _ rfl tt l .ret) rfl) e n)
end B01
namespace B01
noncomputable def iS (R D:Nat):Nat:=(if D.testBit 4 then R else 0)|||((if D.testBit 0 then (R &&& 0x5555)<<<1 else 0)|||((if D.testBit 1 then (R &&& 0x3333)<<<2 else 0)|||((if D.testBit 2 then (R &&& 0x0F0F)<<<4 else 0)|||(if D.testBit 3 then (R &&& 0x00FF)<<<8 else 0))))
noncomputable def D5 (D:Nat):Nat:=(D &&& 7)+(if D.testBit 3 then 16 else 0)
def kv (l D:Nat):Nat:=D5 D+(if D.testBit l then 8 else 0)
noncomputable def Zw:List Nat:=[65535,43690,52428,34952,61680,41120,49344,32896,65280,43520,52224,34816,61440,40960,49152,32768]
def qa (Z:Nat):Nat:=Zw.getD Z 0
def Hu (d:List Nat):Bool:=[1,2,3,4,5,6,7].all λs=>iF (iK d s)<|gY s
def Km (d:List Nat) (T:Nat):Bool:=iF (gY T+1)<|vl d T
def IH (d:List Nat) (Z:Nat):Bool:=[1,2,3,4,5,6,7].all λT=> !(T &&& Z==T)||Km d T
def PM (d:List Nat) (r p P R Z:Nat):Bool:=(r &&& qa Z !=0) && ((!Z.testBit 0||(p &&& qa (Z+8) !=0)) && ((!Z.testBit 1||(P &&& qa (Z+8) !=0)) && (!Z.testBit 2||(R &&& qa (Z+8) !=0))))
def B7 (d:List Nat) (r p P R:Nat):Bool:=([0,1,2,3,4,5,6,7].all λZ=>PM d r p P R Z|| !IH d Z)|| !Hu d
noncomputable def loopD:Nat->Nat->List Nat->Nat->Nat->Nat->Nat->Bool
 |0,_,Ds,R0,R1,R2,R3=>B7 Ds R0 R1 R2 R3
 |n+1,a,Ds,R0,R1,R2,R3=>(FH a<|16 - a).all λD=>loopD n D (Ds++[D]) (iS R0<|D5 D) (iS R1<|kv 0 D) (iS R2<|kv 1 D)<|iS R3<|kv 2 D
theorem VT {u0 Ds R0 R1 R2 R3}:loopD 0 u0 Ds R0 R1 R2 R3=B7 Ds R0 R1 R2 R3:=rfl
theorem Vl {n a Ds R0 R1 R2 R3}:loopD (n+1) a Ds R0 R1 R2 R3=(FH a<|16 - a).all λD=>loopD n D (Ds++[D]) (iS R0<|D5 D) (iS R1<|kv 0 D) (iS R2<|kv 1 D)<|iS R3<|kv 2 D:=rfl
theorem Vf:loopD 4 1 [] 1 1 1 1=true:=by decide+kernel
end B01
namespace B01
theorem fM: ∀m,m<16->(1<=m->Ba 0x5555 (m - 1)=aC->m.testBit 0=aC)/\(2<=m->Ba 0x3333 (m - 2)=aC->m.testBit 1=aC)/\(4<=m->Ba 0x0F0F (m - 4)=aC->m.testBit 2=aC)/\(8<=m->Ba 0x00FF (m - 8)=aC->m.testBit 3=aC):=by decide
theorem Ub {R D m:Nat} (j:m<16) (h:(iS R D).testBit m=aC):(D.testBit 4=aC/\R.testBit m=aC)\/ ∃s,s<4/\D.testBit s=aC/\m.testBit s=aC/\R.testBit (m - 2^s)=true:=by
 unfold iS at h;simp only[Nat.testBit_or,yU] at h;show fR (fM m j) λF W U f=>?_
 have p: ∀(s M k:Nat) (b:Bool),((if b then (R &&& M)<<<k else 0).testBit m=aC)->b=aC/\k<=m/\M.testBit (m - k)=aC/\R.testBit (m - k)=true:=by
  intro s M k b h;induction b
  ·simp at h
  ·simp only[if_true,Nat.testBit_shiftLeft,BS,gb,decide_eq_true_eq] at h
   show (mA rfl h.1 h.2.2 h.2.1)
 rcases h with h|h|h|h|h
 ·left
  cases q:D.testBit 4
  ·rw[q] at h
   simp at h
  ·rw[q] at h
   show ⟨rfl,h⟩
 ·show fR (p 0 _ _ _ h) λa b c d=>.inr (ij 0 (by ext) a (F b c) d)
 ·show fR (p 1 _ _ _ h) λa b c d=>.inr (ij 1 (by ext) a (W b c) d)
 ·show fR (p 2 _ _ _ h) λa b c d=>.inr (ij 2 (by ext) a (U b c) d)
 ·show fR (p 3 _ _ _ h) λa b c d=>.inr (ij 3 (by ext) a (f b c) d)
def MS:List Nat->List Nat->Prop
 |[],[]=>True
 |D::Ds,c::cs=>(c<=4/\D.testBit c=aC)/\MS Ds cs
 |_,_=>False
noncomputable def goS:List Nat->Nat->Option Nat
 |[],m=>aA m
 |c::cs,m=>if c=4 then goS cs m else if c<4/\m.testBit c=aD then goS cs (m+2^c) else aE
theorem HO {c cs m}:goS (c::cs) m=if c=4 then goS cs m else if c<4/\m.testBit c=aD then goS cs (m+2^c) else none:=rfl
theorem fB: ∀m,m<16-> ∀s,s<4->m.testBit s=aC->m - 2^s<16/\(m - 2^s).testBit s=aD/\m - 2^s+2^s=m:=by decide
theorem QN: ∀d R m,m<16->(d.foldl iS R).testBit m=aC-> ∃t cs,t<16/\R.testBit t=aC/\MS d cs/\goS cs t=aA m:=by
 intro O;induction O with
 |nil=>show λR m M h=>(iX m [] M h trivial rfl)
 |cons D d i=>
  show λR m M h=>by
   show ik (i (iS R D) m M h) λj cs H p Q v=>?_;rcases Ub H p with ⟨a,b⟩|⟨s,A,a,b,c⟩
   ·show (iX j (4::cs) H b ⟨⟨by ext,a⟩,Q⟩ (by rw[HO,if_pos rfl];show v))
   ·show eA (fB j H s A b) λg o z=>(iX (j - 2^s) (s::cs) g c ⟨⟨by show s7 ‹_›,a⟩,Q⟩ ?_)
    rw[HO,if_neg<|qy ‹_›,if_pos ⟨A,o⟩,z];show v
theorem fC: ∀m,m<16-> ∀c,c<4->m.testBit c=aD->m+2^c<16/\ ∀s,s<4->((m+2^c).testBit s).toNat=(m.testBit s).toNat+(if c=s then 1 else 0):=by decide
theorem Cc: ∀cs M m,M<16->goS cs M=aA m-> ∀s,s<4->cs.count s+(M.testBit s).toNat=(m.testBit s).toNat:=by
 intro O;induction O with
 |nil=>show λM m h0 h s hs=>by cases h;show wG _ _
 |cons c cs i=>
  show λM m h0 h s hs=>by
   rw[HO] at h
   split at h
   ·rename_i e
    erw[e];have:=i M m h0 h s hs;erw[kP];have:((4:Nat)==s)=false:=by simp;show sv ‹_›
    erw[this];simpa
   ·split at h
    ·rename_i q
     show bP (fC M h0 c q.1 q.2) λF f=>?_;have i:=i (M+2^c) m F h s hs;rw[f s hs] at i;erw[kP];by_cases e:c=s
     ·erw[e]
      simp at i⊢;grind_order
     ·have:(c==s)=false:=by simpa using e
      erw[this];rw[if_neg e] at i;simp;assumption
    ·show bM h
def ML:List Nat->List Nat->Prop
 |[],[]=>True
 |D::Ds,c::cs=>(c<4/\D.testBit c=aC)/\ML Ds cs
 |_,_=>False
theorem Qh (h:FJ j d): ∀as,ML j as-> ∃A,FJ as A/\ML d A:=by
 induction h with
 |nil=>intro as h;show (bJ as (.refl _) h)
 |cons D _ e=>
  intro as h;induction as with
  |nil=>trivial
  |cons a as=>show aT (e as h.2) λA p q=>⟨a::A,.cons a p,h.1,q⟩
 |swap D t j=>
  intro as h
  match as,h with
  |a::b::as,h=>show ⟨b::a::as,.swap b a as,h.2.1,h.1,h.2.2⟩
  |[a],h=>cases h.2
  |[],h=>trivial
 |trans _ _ z i=>intro as h;show aT (z as h) λo P q1=>aT (i o q1) λl Q q2=>(bJ l (P.trans Q) q2)
theorem f5: ∀D,D<16-> ∀c,c<=4->(D5 D).testBit c=aC->c≠3/\(if c=4 then 3 else c)<4/\D.testBit (if c=4 then 3 else c)=true:=by decide
theorem f5d: ∀l,l<3-> ∀D,D<16-> ∀c,c<=4->(kv l D).testBit c=aC->(if c=4 then 3 else if c=3 then l else c)<4/\D.testBit (if c=4 then 3 else if c=3 then l else c)=true:=by decide
theorem Y_: ∀d cs,(∀D∈d,D<16)->MS (d.map D5) cs->ML d (cs.map λc=>if c=4 then 3 else c)/\ ∀s,s<3->(cs.map λc=>if c=4 then 3 else c).count s=cs.count s:=by
 intro O;induction O with
 |nil=>
  intro O;induction O with
  |nil=>show λO O=>⟨trivial,λs hs=>rfl⟩
  |cons _ _ _=>show λO h=>by trivial
 |cons D d i=>
  intro O;induction O with
  |nil=>show λO h=>by trivial
  |cons c cs _=>
   show λn h=>by
    show bP (i cs (λD h=>n D<|.tail _ h) h.2) λi1 z=>eA (f5 D (n D<|.head _) c h.1.1 h.1.2) λf1 f2 f=>⟨⟨⟨f2,f⟩,i1⟩,λs hs=>?_⟩;simp only[dg,kP,kP,z s hs]
    congr 1
    by_cases e:c=4
    ·clear h f1 f2 f
     subst e;simp[(by simp;show sv ‹_› :((3:Nat)==s)=aD),(by simp;show λK=>dC (nL K) hs:((4:Nat)==s)=aD)]
    ·simp[e]
theorem QCC (hl:l<3): ∀d cs,(∀D∈d,D<16)->MS (d.map<|kv l) cs->ML d (cs.map λc=>if c=4 then 3 else if c=3 then l else c)/\(cs.map λc=>if c=4 then 3 else if c=3 then l else c).count l=cs.count l+cs.count 3/\ ∀s,s<3->s≠l->(cs.map λc=>if c=4 then 3 else if c=3 then l else c).count s=cs.count s:=by
 intro O;induction O with
 |nil=>
  intro O;induction O with
  |nil=>show λO O=>⟨trivial,rfl,λs hs O=>rfl⟩
  |cons _ _ _=>show λO h=>by clear hl;trivial
 |cons D d z=>
  intro O;induction O with
  |nil=>show λO h=>by clear hl;trivial
  |cons c cs _=>
   show λo h=>by
    show eA (z cs (λD h=>o D<|.tail _ h) h.2) λi1 t i=>bP (f5d l hl D (o D<|.head _) c h.1.1 h.1.2) λf2 f=>⟨⟨⟨f2,f⟩,i1⟩,?_,λs hs n=>?_⟩
    ·simp only[dg,kP,kP,kP,t]
     by_cases e:c=4
     ·clear h f2 f
      subst e;have b:((4:Nat)==l)=false:=by simp;show (λW=>(dC (nL W) hl))
      simp[(by simp;show Nat.ne_of_lt' ‹_› :((3:Nat)==l)=aD),b]
     ·by_cases p:c=3
      ·clear h f2 f e
       subst p;simp[(by simp;show λK=>dC (nL K) hl:((3:Nat)==l)=aD)];show sz _ _ _
      ·have b:(c==3)=false:=by show QIf ‹_›
       simp[e,p,b];show v5 _ _ _
    ·simp only[dg,kP,kP,i s hs n]
     congr 1
     by_cases e:c=4
     ·clear h f2 f
      subst e;have b:((4:Nat)==s)=false:=by simp;show (λW=>(dC (nL W) hs))
      simp[(by simp;show (λW=>(dC (nL W) hs)):((3:Nat)==s)=aD),b]
     ·by_cases p:c=3
      ·clear h f2 f e
       subst p;have b:(l==s)=false:=by simp;grind_order
       simp[(by simp;show (λW=>(dC (nL W) hs)):((3:Nat)==s)=aD),b]
      ·simp[e,p]
theorem fS: ∀Z,Z<16->qa Z<2^16/\ ∀m,m<16->(qa Z).testBit m=aC->m &&& Z=Z:=by decide+kernel
theorem L6 (z:Z<16) (h:(R &&& qa Z !=0)=aC): ∃m,m<16/\R.testBit m=aC/\m &&& Z=Z:=by
 show bE (Nat.exists_testBit_of_ne_zero (by simpa using h:R &&& qa Z≠0)) λm F=>?_;rw[BS,gb] at F;have M:m<16:=by show rG λq=>?_;have:=QHa (oC (fS Z z).1<|QHb (by ext) q);rw[this] at F;show QIe F.2 (by ext)
 show (fw m M F.1<|(fS Z z).2 m M F.2)
theorem EG (h:loopD (n+1) a d F r P R=aC) {D:Nat} (A:a<=D) (H:D<16):loopD n D (d++[D]) (iS F<|D5 D) (iS r<|kv 0 D) (iS P<|kv 1 D) (iS R<|kv 2 D)=true:=by simp only[VT,Vl,fN] at h;show h D (by rw[List.mem_range'_1];show ⟨A,(bB H<|nR<|sE ((bB A H):a<=16))⟩)
theorem VA (A:1<=a) (i:a<=b) (h:b<=c) (H:c<=d) (r:d<16):B7 [a,b,c,d] (([a,b,c,d].map D5).foldl iS 1) (([a,b,c,d].map<|kv 0).foldl iS 1) (([a,b,c,d].map<|kv 1).foldl iS 1) (([a,b,c,d].map<|kv 2).foldl iS 1)=true:=EG (EG (EG (EG Vf A<|bB (na (na i h) H) r) i<|bB (na h H) r) h<|fq ‹_› ‹_›) H r
def Base (d:List Nat) (Z:Nat):Prop:= ∃as,ML d as/\(∀l,l<3->as.count l<=1)/\ ∀l,l<3->Z.testBit l=aC->1<=as.count l
def xb (d:List Nat) (Z L:Nat):Prop:= ∃as,ML d as/\as.count L=2/\(∀l,l<3->l≠L->as.count l<=1)/\ ∀l,l<3->Z.testBit l=aC->1<=as.count l
theorem O5 (b:Bool):b.toNat<=1:=by induction b<;>decide
theorem Uh (n: ∀D∈d,D<16) (q:Z<8) (h:(((d.map D5).foldl iS 1) &&& qa Z !=0)=aC):Base d Z:=by
 show eE (L6 (bO ‹_› (dI _ _)) h) λm M A H=>ik (QN _ _ m M A) λz c v g o F=>?_;have b:z=0:=by simpa[QIF] using g
 clear v g;subst b;show bP (Y_ d c n o) λB t=>(fw _ B (λl L=>?_) λl L i=>?_)
 ·erw[t l L]
  have:=Cc c 0 m (by ext) F l<|yO ‹_›;have:=O5<|m.testBit l;show (bB (nL ‹Sb l c+(Ba 0 l).toNat=(m.testBit l).toNat›) this)
 ·erw[t l L]
  have:=Cc c 0 m (by ext) F l<|yO ‹_›;have e:m.testBit l=true:=by have:=QIh (λx=>x.testBit l) H;simp only[BS,i,Et] at this;show this
  rw[e] at this;simp at this
  grind_linarith
theorem FU (c: ∀D∈d,D<16) (q:Z<8) (L:l0<3) (b:Z.testBit l0=aC) (h:(((d.map<|kv l0).foldl iS 1) &&& qa (Z+8) !=0)=aC):xb d Z l0:=by
 show eE (L6 (Nat.add_lt_add_right ‹_› _) h) λm M H p=>ik (QN _ _ m M H) λf C v g K F=>?_;have j:f=0:=by simpa[QIF] using g
 clear v g;subst j;show eA (QCC L d C c K) λt o r=>bP ((by decide: ∀Z,Z<8->(Z+8).testBit 3=aC/\ ∀l,l<3->(Z+8).testBit l=Z.testBit l) Z q) λa z=>?_
 have i: ∀s,s<4->(Z+8).testBit s=aC->C.count s=1:=by
  intro s A B;have k:=Cc C 0 m (by ext) F s A;have e:m.testBit s=true:=by have:=QIh (λx=>x.testBit s) p;simp only[BS,B,Et] at this;show this
  rw[e] at k;simp at k;assumption
 show (ij _ t ?_ (λl Q n=>?_) λl Q B=>?_)
 ·show sb o<|sb (i l0 (aS L) (by rw[z l0 L];show b))<|sb (i 3 (by ext) a) rfl
 ·rw[r l Q n]
  have:=Cc C 0 m (by ext) F l<|aS Q;have:=O5<|m.testBit l;show (bB (nL ‹Sb l C+(Ba 0 l).toNat=(m.testBit l).toNat›) this)
 ·by_cases e:l=l0
  ·clear L b h H K t r
   subst e;rw[o,i l ((aS Q)) (by rw[z l Q];show B)];show jb _ _
  ·rw[r l Q e,i l ((aS Q)) (by rw[z l Q];show B)]
   show cY _
theorem Base.perm (h:FJ j d):Base j Z->Base d Z:=by
 rintro ⟨as,a,b,c⟩
 show aT (Qh h as a) λA p q=>(fw A q (λl hl=>by rw[<-p.count_eq];show b l hl) (λl hl hb=>by rw[<-p.count_eq];show c l hl hb))
theorem xb.perm (h:FJ j H):xb j Z l0->xb H Z l0:=by
 rintro ⟨as,a,b,c,d⟩
 show aT (Qh h as a) λA p q=>(ij A q (by rw[<-p.count_eq];show b) (λl hl n=>by rw[<-p.count_eq];show c l hl n) (λl hl hb=>by rw[<-p.count_eq];show d l hl hb))
theorem YO {α:Type} {l:List α} (h:l.length=4): ∃a b c d,l=[a,b,c,d]:=kX (P:=λl=> ∃a b c d,l=[a,b,c,d]) (λa u U=>rl (P:=λu=> ∃x b c d,a::u=[x,b,c,d]) (λb c d=>⟨a,b,c,d,rfl⟩) u U) l h
theorem u_ (hl:j.length=4) (n: ∀D∈j,D≠0/\D<16) (W: ∀s,0<s->s<8->iK j s<=gY s) (z:Z<8) (M:J j Z):Base j Z/\ ∀F,F<3->Z.testBit F=aC->xb j Z F:=by
 have p:FJ (j.mergeSort λa b=>iF a b) j:=List.mergeSort_perm ..
 have hs:(j.mergeSort λa b=>iF a b).Pairwise (λa b=>iF a b=aC):=List.pairwise_mergeSort (λa b c u i=>by
  have:=cn u;have:=cn i;show qA<|bO ‹_› ‹_›) (λa b=>by
  rw[yU];rcases Js a b with h|h
  ·show .inl<|qA h
  ·show .inr<|qA h) j
 generalize j.mergeSort (λa b=>iF a b)=P at*;have l: ∀D∈P,D≠0/\D<16:=λD h=>n D<|p.mem_iff.mp h;have C:Hu P=true:=by unfold Hu;rw[fN];intro s h;have hs':0<s/\s<8:=⟨Fw h,m7 h⟩;have e:iK P s=iK j s:=(p.filter _).length_eq;show qA (by rw[e];show W s hs'.1 hs'.2)
 have v:IH P Z=true:=by
  unfold IH;rw[fN];intro T h;have hs':0<T/\T<8:=⟨Fw h,m7 h⟩;by_cases q:T &&& Z=T
  ·have e:vl P T=vl j T:=(p.map _).sum_nat
   have:=M T hs'.2 (λK=>dC (nL K) hs'.1) q;have k:Km P T=true:=qA (by rw[e];show this);rw[k];simp
  ·have:(T &&& Z==T)=false:=by simpa using q
   rw[this];rfl
 have main:Base P Z/\ ∀F,F<3->Z.testBit F=aC->xb P Z F:=by
  show qK (YO (by rw[p.length_eq];show hl:P.length=4)) λa b c d q=>?_;clear p hl n W M;subst q;simp only[List.pairwise_cons,dR,i5,or_false] at hs;have A:=cn<|hs.1 b<|.inl rfl;have B:=cn<|hs.2.1 c<|.inl rfl;have cd:=cn<|hs.2.2.1 d rfl;have Q:=l a<|.head _;have hd:=l d (by simp);have ok:=VA (by grind_order:1<=a) A B cd hd.2;unfold B7 at ok;rw[C,SV,Sd,fN] at ok;have o:=ok Z<|l8 z;rw[v,SV,Sd] at o;unfold PM at o;simp only[gb,yU,s9] at o;show fR o λR m x t=>?_;have H: ∀D∈[a,b,c,d],D<16:=λD h=>(l D h).2;show ⟨Uh H z R,λF L hb=>?_⟩;show Dv L (λq=>?_) (λq=>?_) λq=>?_
  ·clear hs A B cd Q hd ok
   subst q;show FU H z (by ext) hb (m.resolve_left (by rw[hb];decide))
  ·clear hs A B cd Q hd ok
   subst q;show FU H z (by ext) hb (x.resolve_left (by rw[hb];decide))
  ·clear hs A B cd Q hd ok
   subst q;show FU H z (by ext) hb (t.resolve_left (by rw[hb];decide))
 show ⟨main.1.perm p,λF u i=>(main.2 F u i).perm p⟩
end B01
namespace B01
abbrev V3:=Nat×Nat×Nat
def at3 (v:V3) (l:Nat):Nat:=match l with|0=>v.1|1=>v.2.1|2=>v.2.2|_=>0
theorem xH:at3 v 0=v.1:=rfl
theorem x4:at3 v 1=v.2.1:=rfl
theorem wK:at3 v 2=v.2.2:=rfl
theorem w5:at3 v 3=0:=rfl
noncomputable def i8 (v:V3) (T:Nat->List Nat) (k:Nat):List Nat:=T k++((if k.testBit 0 then (T<|k - 1).map (· +v.1) else [])++((if k.testBit 1 then (T<|k - 2).map (· +v.2.1) else [])++(if k.testBit 2 then (T<|k - 4).map (· +v.2.2) else [])))
noncomputable def T0 (k:Nat):List Nat:=if k=0 then [0] else []
def wT (vs:List V3):Nat->List Nat:=vs.foldl (λT v=>i8 v T) T0
def Ex (vs:List V3):List Nat:=[0,1,2,3,4,5,6,7].flatMap<|wT vs
def Mx (vs:List V3) (l:Nat):List Nat:=Ex vs++[0,1,2,3].flatMap λk=>(Ex<|vs.eraseIdx k).map (· +at3 (vs.getD k (0,0,0)) l)
noncomputable def pk (p:V3) (k:Nat):Nat:=(if k.testBit 0 then p.1 else 0)+(if k.testBit 1 then p.2.1 else 0)+(if k.testBit 2 then p.2.2 else 0)
theorem fK: ∀k,k<8->(k.testBit 0=aC->(k - 1).testBit 0=aD/\(k - 1).testBit 1=k.testBit 1/\(k - 1).testBit 2=k.testBit 2/\k - 1<8)/\(k.testBit 1=aC->(k - 2).testBit 0=k.testBit 0/\(k - 2).testBit 1=aD/\(k - 2).testBit 2=k.testBit 2/\k - 2<8)/\(k.testBit 2=aC->(k - 4).testBit 0=k.testBit 0/\(k - 4).testBit 1=k.testBit 1/\(k - 4).testBit 2=aD/\k - 4<8):=by decide
theorem OA (v p:V3):0<=dd v p/\(v.1:Int)<=dd v p+p.1/\(v.2.1:Int)<=dd v p+p.2.1/\(v.2.2:Int)<=dd v p+p.2.2:=by have m:=(u7 v p).1;have H:(v.1:Int) - p.1<=dd v p:=m 0 (by ext);have j:(v.2.1:Int) - p.2.1<=dd v p:=m 1 (by ext);have r:(v.2.2:Int) - p.2.2<=dd v p:=m 2 (by ext);have M:(0:Int)<=dd v p:=m 3 (by ext);grind_order
theorem Yw {T:Nat->List Nat} {G:Int} (h: ∀k,k<8-> ∀e∈T k,(e:Int)<=G+pk p k): ∀k,k<8-> ∀e∈i8 v T k,(e:Int)<=G+dd v p+pk p k:=by
 intro k K e F;show fR (OA v p) λg0 g g2 g3=>eA (fK k K) λf W U=>?_;unfold i8 at F;rcases jZ.mp F with F|F
 ·have:=h k K e F
  show bN g0 this
 ·rcases jZ.mp F with F|F
  ·split at F
   ·rename_i q
    show fR (f q) λa b c d=>aT (gQ.mp F) λu t B=>sb B ?_;have:=h (k - 1) d u t;show bN (ni (ni g this)<|oL<|nR B) (oL<|nR (by unfold pk;(erw[a];erw[b];erw[c];erw[q]);simp;simp+arith:pk p k=pk p (k - 1)+p.1))
   ·show nomatch F
  ·rcases jZ.mp F with F|F
   ·split at F
    ·rename_i q
     show fR (W q) λa b c d=>aT (gQ.mp F) λu t B=>sb B ?_;have:=h (k - 2) d u t;show bN (ni (ni g2 this)<|oL<|nR B) (oL<|nR (by unfold pk;(erw[a];erw[b];erw[c];erw[q]);simp;show v5 _ _ _:pk p k=pk p (k - 2)+p.2.1))
    ·show nomatch F
   ·split at F
    ·rename_i q
     show fR (U q) λa b c d=>aT (gQ.mp F) λu t B=>sb B ?_;have:=h (k - 4) d u t;show bN (ni (ni g3 this)<|oL<|nR B) (oL<|nR (by unfold pk;(erw[a];erw[b];erw[c];erw[q]);show Aw _:pk p k=pk p (k - 4)+p.2.2))
    ·show nomatch F
def jn (vs:List V3) (p:V3):Int:=(vs.map λv=>dd v p).sum
theorem Uw (p:V3): ∀(vs:List V3) (T:Nat->List Nat) (G:Int),(∀k,k<8-> ∀e∈T k,(e:Int)<=G+pk p k)-> ∀k,k<8-> ∀e∈(vs.foldl (λT v=>i8 v T) T) k,(e:Int)<=G+jn vs p+pk p k:=by
 intro O;induction O with
 |nil=>show λT G h k K e F=>by have:=h k K e F;simpa[jn] using this
 |cons v vs i=>show λT G h k K e F=>by have:=i (i8 v T) (G+dd v p) (Yw h) k K e F;show bN this (iR (by rfl:jn (v::vs) p=dd v p+jn vs p))
theorem ZU (p:V3) (k:Nat):pk p k<=p.1+p.2.1+p.2.2:=by
 unfold pk
 split<;>split<;>split<;>(simp+arith)
theorem Ot (vs:List V3) (p:V3): ∀e∈Ex vs,(e:Int)<=jn vs p+(p.1+p.2.1+p.2.2):=by
 intro e F;show aT (J6.mp F) λk K F=>?_
 have:=Uw p vs T0 0 (by
  intro k K e F;unfold T0 at F
  split at F
  ·show sb (oW.mp F)<|Int.natCast_nonneg _
  ·show nomatch F) k (m8 K:k<8) e F
 have:=ZU p k;show (bN ‹(↑e)<=0+jn vs p+(↑(pk p k))› (oL this))
noncomputable def goL:List Nat->Nat->Option Nat
 |[],m=>aA m
 |c::cs,m=>if c=3 then goL cs m else if c<3/\m.testBit c=aD then goL cs (m+2^c) else aE
theorem UC {m}:goL [] m=aA m:=rfl
theorem QA {c cs m}:goL (c::cs) m=if c=3 then goL cs m else if c<3/\m.testBit c=aD then goL cs (m+2^c) else none:=rfl
theorem fG: ∀m,m<8-> ∀c,c<3->m.testBit c=aD->m+2^c<8/\m+2^c - 2^c=m/\(m+2^c).testBit c=aC/\ ∀s,s<3->((m+2^c).testBit s).toNat=(m.testBit s).toNat+(if c=s then 1 else 0):=by decide
theorem QAL: ∀cs m,m<8->(∀c∈cs,c<4)->(∀l,l<3->cs.count l+(m.testBit l).toNat<=1)-> ∃g,g<8/\goL cs m=aA g:=by
 intro O;induction O with
 |nil=>show λm M O O=>(bJ m M rfl)
 |cons c cs i=>
  show λm M H h=>by
   rw[QA];by_cases e:c=3
   ·show sb (QIg e)<|i m M (λd Y=>H d<|.tail _ Y) λl L=>?_
    have:=h l L;rw[kP] at this;show aS this
   ·have C:c<3:=by have:=H c<|.head _;show ((rK e).elim (λu=>u) λu=>(bB (na this u) this))
    have b:m.testBit c=false:=by
     have:=h c C;rw[kP] at this;simp at this;cases q:m.testBit c
     ·rfl
     ·rw[q] at this
      simp at this
    show sb (QIf e)<|sb (if_pos ⟨C,b⟩)<|fR (fG m M c C b) λF O O f=>i (m+2^c) F (λd Y=>H d<|.tail _ Y) λl L=>?_
    have:=h l L;erw[f l L];rw[kP] at this;by_cases e:c=l
    ·show sb (QIg e)<|sb e ?_
     simp at this;show bB this (nR<|QIg e)
    ·show sb (QIf e)<|aS this
def val (vs:List V3) (as:List Nat):Nat:=((vs.zip as).map λq=>at3 q.1 q.2).sum
theorem QEe {T:Nat->List Nat} {k e:Nat} (h:e∈T k):e∈i8 v T k:=Au _ h
theorem UL {T:Nat->List Nat} {k e c:Nat} (K:k<8) (C:c<3) (hb:k.testBit c=aD) (h:e∈T k):e+at3 v c∈i8 v T (k+2^c):=by
 show fR (fG k K c C hb) λd f F O=>Dv C (λq=>?_) (λq=>?_) λq=>?_
 ·clear C hb K
  subst q;show uP _<|Au _ ?_;show sb (QIg F)<|List.mem_map.mpr<|bJ e ((f:k+2^0 - 1=k).symm▸h) rfl
 ·clear C hb K
  subst q;show uP _<|uP _<|Au _ ?_;show sb (QIg F)<|List.mem_map.mpr<|bJ e ((f:k+2^1 - 2=k).symm▸h) rfl
 ·clear C hb K
  subst q;show uP _<|uP _<|uP _ ?_;show sb (QIg F)<|List.mem_map.mpr<|bJ e ((f:k+2^2 - 4=k).symm▸h) rfl
theorem QDc: ∀vs as T k K e,vs.length=as.length->k<8->goL as k=aA K->e∈T k->e+val vs as∈(vs.foldl (λT v=>i8 v T) T) K:=by
 intro O;induction O with
 |nil=>
  intro O;induction O with
  |nil=>
   show λT k K e O C g F=>by
    cases g
    simpa[val] using F
  |cons _ _ _=>show λO O O O h O O O=>by trivial
 |cons v vs i=>
  intro O;induction O with
  |nil=>show λO O O O h O O O=>by trivial
  |cons c H _=>
   show λT k K e l C g F=>by
    simp only[UC,QA] at g;have m:val (v::vs) (c::H)=at3 v c+val vs H:=by rfl
    simp only[m]
    split at g
    ·rename_i q
     erw[q];have:at3 v 3=0:=rfl;simp only[this,v9];show i H (i8 v T) k K e (by simpa using l) C g<|QEe F
    ·split at g
     ·rename_i q
      have f:=(fG k C c q.1 q.2).1;have:=i H (i8 v T) (k+2^c) K (e+at3 v c) (by simpa using l) f g<|UL C q.1 q.2 F;simp only[<-sz];show this
     ·show bM g
theorem Lb {vs:List V3} {as:List Nat} (hl:vs.length=as.length) (H: ∀c∈as,c<4) (h: ∀l,l<3->as.count l<=1):val vs as∈Ex vs:=by show aT (QAL as 0 (by ext) H (λl hl=>by rw[QHZ];simpa using h l hl)) λm M g=>?_;have:=QDc vs as T0 0 m 0 hl (by ext) g (.head _);rw[v9] at this;show J6.mpr<|bJ m (l8 M) this
theorem NT: ∀vs as,ML (vs.map λv=>cv v p) as->vs.length=as.length/\(∀c∈as,c<4)/\(val vs as:Int)=jn vs p+((as.map (at3 p)).sum):=by
 intro O;induction O with
 |nil=>
  intro O;induction O with
  |nil=>show λO=>⟨rfl,(by intro c C;show nomatch C),rfl⟩
  |cons _ _ _=>show λh=>nomatch h
 |cons v vs z=>
  intro O;induction O with
  |nil=>show λh=>nomatch h
  |cons c cs _=>
   show λh=>by
    show eA (z cs h.2) λi1 i u=>⟨by simp[i1],?_,?_⟩
    ·intro d hd
     rcases dR.mp hd with rfl|hd
     ·show h.1.1
     ·show i d hd
    ·have e1:val (v::vs) (c::cs)=at3 v c+val vs cs:=by rfl
     have e2:jn (v::vs) p=dd v p+jn vs p:=by rfl
     have e:((c::cs).map<|at3 p).sum=at3 p c+(cs.map<|at3 p).sum:=by rfl
     have q:=((mC v p).2 c h.1.1).mp h.1.2;have x:=B3 (P:=λc=>(at3 v c:Int) - at3 p c=gn v p c) rfl rfl rfl rfl c h.1.1;simp only[e1,e2,e];show O7 (ei u q) x
theorem Nm (p:V3): ∀as:List Nat,(∀c∈as,c<4)->(as.map (at3 p)).sum=as.count 0*p.1+as.count 1*p.2.1+as.count 2*p.2.2:=by
 intro O;induction O with
 |nil=>show λO=>by simp
 |cons c H i=>
  show λh=>by
   have i:=i λd Y=>h d<|.tail _ Y;have C:=h c<|.head _;simp only[dg,lT,i,kP,kP,kP];clear h i;show Y5 C (λq=>?_) (λq=>?_) (λq=>?_) λq=>?_
   ·subst q
    simp[xH,x4,wK,w5]
    grind
   ·subst q
    simp[xH,x4,wK,w5]
    grind
   ·subst q
    simp[xH,x4,wK,w5]
    grind
   ·subst q
    show wG _ _
theorem Gi (p:V3): ∀l,l<3->((zP p).testBit l=aC↔0<at3 p l):=by
 show eA ((by decide: ∀a b c,(ind a+2*ind b+4*ind c).testBit 0=a/\(ind a+2*ind b+4*ind c).testBit 1=b/\(ind a+2*ind b+4*ind c).testBit 2=c) (decide (0<p.1)) (decide (0<p.2.1))<|decide (0<p.2.2)) λZ H K=>?_;intro l hl;show Dv hl (λq=>?_) (λq=>?_) λq=>?_
 ·subst q
  erw[Z];simp[xH,x4,wK,w5]
 ·subst q
  erw[H];simp[xH,x4,wK,w5]
 ·subst q
  erw[K];simp[xH,x4,wK,w5]
theorem OC (A:c<=1) (H:0<p->1<=c):c*p=p:=by
 rcases Nat.eq_zero_or_pos p with rfl|h
 ·simp
 ·have:c=1:=by have:=H h;show mQ ‹_› ‹_›
  simp only[this,QHn]
theorem YB (u p:V3) (h:l<3):(at3 u l:Int)<=dd u p+at3 p l:=by
 show fR (OA u p) λO g o z=>?_
 match l,h with
 |0,_=>show g
 |1,_=>show o
 |2,_=>show z
theorem Ko {vs:List V3} {k:Nat} (h:k<vs.length):vs.getD k (0,0,0)=vs[k]/\vs=vs.take k++vs[k]::vs.drop (k+1):=by show ⟨by simp[yi,h],?_⟩;simp only[<-Eu h,tH]
theorem Vy (vs:List V3) (p:V3) {k:Nat} (h:k<vs.length):jn vs p=jn (vs.eraseIdx k) p+dd (vs.getD k (0,0,0)) p:=by show bP (Ko h) λx e=>?_;rw[x,Se,show jn vs p=jn (vs.take k++vs[k]::vs.drop (k+1)) p from congrArg (jn · p) e];unfold jn;simp only[gR,dg,BO,lT];rw[SG,ye<|dd _ _]
theorem U5 (vs:List V3) (l:Nat) (s t:List Nat) (h:s.length<vs.length):val vs (s++l::t)=val (vs.eraseIdx s.length) (s++t)+at3 (vs.getD s.length (0,0,0)) l:=by show bP (Ko h) λx e=>?_;rw[x,Se,show val vs (s++l::t)=val (vs.take s.length++vs[s.length]::vs.drop (s.length+1)) (s++l::t) from congrArg (val · _) e];unfold val;simp only[List.zip_append (by erw[yb];show gO (s7 h):(vs.take s.length).length=s.length),QHB,gR,dg,BO,lT];rw[sz,wG<|at3 _ _]
theorem QEW {as:List Nat} (h: ∀c∈as,c<4) (hl:l<3) (d:as.count l=2) (cm: ∀m,m<3->m≠l->as.count m*at3 p m=at3 p m):(as.map (at3 p)).sum=p.1+p.2.1+p.2.2+at3 p l:=by
 show sb (Nm p _ h)<|Dv hl (λq=>?_) (λq=>?_) λq=>?_
 ·subst q
  show sb d<|sb (cm 1 (by ext) (by ext):as.count 1*p.2.1=p.2.1)<|sb (cm 2 (by ext) (by ext):as.count 2*p.2.2=p.2.2)<|(?_:2*p.1+p.2.1+p.2.2=p.1+p.2.1+p.2.2+p.1)
  show (by simp+arith)
 ·subst q
  show sb d<|sb (cm 0 (by ext) (by ext):as.count 0*p.1=p.1)<|sb (cm 2 (by ext) (by ext):as.count 2*p.2.2=p.2.2)<|(?_:p.1+2*p.2.1+p.2.2=p.1+p.2.1+p.2.2+p.2.1)
  show (by simp+arith)
 ·subst q
  show sb d<|sb (cm 0 (by ext) (by ext):as.count 0*p.1=p.1)<|sb (cm 1 (by ext) (by ext):as.count 1*p.2.1=p.2.1)<|(?_:p.1+p.2.1+2*p.2.2=p.1+p.2.1+p.2.2+p.2.2)
  show (by simp+arith)
theorem QFp {as:List Nat} (h: ∀c∈as,c<4) (b2: ∀l,l<3->as.count l<=1) (b3: ∀l,l<3->(zP p).testBit l=aC->1<=as.count l):(as.map (at3 p)).sum=p.1+p.2.1+p.2.2:=by have m:=λl L=>OC (b2 l L) λh=>b3 l L<|(Gi p l L).mpr h;show sb (Nm p as h)<|sb (m 0<|by ext)<|sb (m 1<|by ext)<|sb (m 2<|by ext) rfl
theorem QEN {vs:List V3} (hl:vs.length=4) {l V:Nat} (L:l<3) (e:(V:Int)=jn vs p+(p.1+p.2.1+p.2.2)) (v: ∀e∈Ex vs,e<=V): ∀e∈Mx vs l,e<=V+at3 p l:=by intro x M;show Or.elim (jZ.mp M) (λh=>bO (v x h)<|jb _ _) λh=>aT (J6.mp h) λk K h=>aT (gQ.mp h) λm F q=>dA q ?_;have A:=Ot (vs.eraseIdx k) p m F;have i:=Vy vs p (hl▸((by decide: ∀k∈[0,1,2,3],k<4) k K));have H:=YB (vs.getD k (0,0,0)) p L;show (?_);show (oM<|bN (ni (ni (iR e) H) A)<|iR i)
theorem QAf {vs:List V3} (hl:vs.length=4) (L:l<3) (n:vs.length=(s++l::t).length) (N: ∀c∈s++l::t,c<4) (d2:(s++l::t).count l=2) (d3: ∀m,m<3->m≠l->(s++l::t).count m<=1):val vs (s++l::t)∈Mx vs l:=by
 have K:s.length<vs.length:=sb n<|sb List.length_append<|Nat.lt_add_of_pos_right<|Nat.succ_pos _
 have f: ∀m,(s++l::t).count m=(s++t).count m+(if l=m then 1 else 0):=by intro m;simp only[List.count_append,kP,beq_iff_eq,sz]
 have r:=Lb (by (erw[J7 K];erw[n]);simp) (λc C=>N c<|(jZ.mp C).elim (λh=>Au _ h) λh=>uP _<|.tail _ h) (λm M=>by
  have c:=f m;by_cases e:l=m
  ·subst e
   rw[if_pos rfl,d2] at c;show pZ (v7 c).symm
  ·rw[if_neg e] at c
   have d:=d3 m M λh=>e h.symm;rw[c] at d
   show d)
 show sb (U5 vs l s t K)<|List.mem_append_right _ (List.mem_flatMap.mpr ⟨s.length,(by decide: ∀k,k<4->k∈[0,1,2,3]) _<|hl▸K,List.mem_map.mpr ⟨_,r,rfl⟩⟩)
theorem Z1 {vs:List V3} (hl:vs.length=4) (hP:PK vs p) (c:iq (vs.map λv=>cv v p)=[]):
 ∃V:Nat,(V:Int)=jn vs p+(p.1+p.2.1+p.2.2)/\(∀e∈Ex vs,e<=V)/\V∈Ex vs/\ ∀l,l<3->(∀e∈Mx vs l,e<=V+at3 p l)/\V+at3 p l∈Mx vs l:=by
 have W: ∀D∈vs.map (λv=>cv v p),D≠0/\D<16:=by intro D d;show aT (gQ.mp d) λv O e=>dA e<|⟨AO v p,(mC v p).1⟩
 show bP (u_ (by simpa using hl) W (Vb c) (LX p) hP.j) λmb F=>eE mb λas b1 b2 b3=>eA (NT vs as b1) λo H U=>?_;rw[QFp H b2 b3] at U;have i:=Lb o H b2;have A: ∀e∈Ex vs,e<=val vs as:=λe Z=>su.mp<|U▸Ot vs p e Z;show ij (val vs as) U A i λl L=>⟨QEN hl L U A,?_⟩;by_cases q:0<at3 p l
 ·show rV (F l L<|(Gi p l L).mpr q) λbs d1 d2 d3 d4=>eA (NT vs bs d1) λa C N=>lL (List.append_of_mem<|QIG.mp (by erw[d2];decide)) λs t e=>?_
  clear q d1;subst e;rw[QEW C L d2 λm M n=>OC (d3 m M n) λh=>d4 m M<|(Gi p m M).mpr h] at N;show (Int.ofNat.inj (by rw[N,Jz,U,Jz<|p.1+p.2.1+p.2.2,SG]:((val vs as+at3 p l:Nat):Int)=(val vs (s++l::t):Nat)))▸QAf hl L a C d2 d3
 ·show sb (QHJ q)<|List.mem_append_left _ i
end B01
noncomputable def pv (w:Nat) (es:List Nat):Int:=(es.map λe=>(2:Int)^(w*e)).sum
theorem xX (w:Nat) (a b:List Nat):pv w (a++b)=pv w a+pv w b:=by simp[pv]
theorem P5 (w a:Nat): ∀es,pv w (es.map (· +a))=pv w es*2^(w*a):=by
 intro O;induction O with
 |nil=>show by simp[pv]
 |cons e es i=>
  show by
   have i:=i;unfold pv at*;simp only[dg,dg,lT,i,dg,lT,FE,la]
   grind
theorem EK (w:Nat): ∀es,0<=pv w es:=by
 intro O;induction O with
 |nil=>show by simp[pv]
 |cons e es i=>show by have i:=i;have:=eJ<|w*e;unfold pv at*;simp only[dg,lT];show bN i this
theorem LV (w M:Nat): ∀es,(∀e∈es,e<=M)->pv w es<=(es.length:Int)*2^(w*M):=by
 intro O;induction O with
 |nil=>show λO=>by simp[pv]
 |cons e es i=>
  show λh=>by
   have i:=i λx o=>h x<|.tail _ o;have H:(2:Int)^(w*e)<=2^(w*M):=Cg<|fO _<|h e<|.head _;have u:pv w (e::es)=2^(w*e)+pv w es:=by simp[pv]
   simp only[u,jd]
   push_cast
   grind
theorem QDn {w M:Nat} (h: ∀e∈es,e<=M) (hl:es.length<1024):pv w es<2^(w*M+10):=by have A:=LV w M es h;have H:=eJ<|w*M;simp only[la];have Q:=Jy (pd.mpr ‹_›) H;simp only[(by decide:(2:Int)^10=1024),kO<|2^(w*M)];show Jx ‹_› ‹_›
theorem xR {w M:Nat} (h: ∀e∈es,e<=M) (hl:es.length<1024):(ib (pv w es):Int)<=(w*M+10:Nat):=pY (EK w es)<|QDn h hl
namespace B01
noncomputable def lp (k:Nat):List Nat:=[[],[0],[1],[0,1],[2],[0,2],[1,2],[0,1,2]].getD k []
theorem MI: ∀k,k<8->(lp k).length<=3/\ ∀l∈lp k,l<3/\2^l<=k:=by decide
def GH:List Dat:=[0,1,2,3,4,5,6,7].map λk=>aK<|(lp k).map λ(l:Nat)=>aB l
def jK (w:Nat) (T:Nat->List Nat):List Dat:=[0,1,2,3,4,5,6,7].map λ(k:Nat)=>aB<|pv w<|T k
theorem MY: ∀k,k<8->[0,1,2,3,4,5,6,7][k]?=aA k:=by decide
theorem Nv {w:Nat} {T:Nat->List Nat} {k:Nat} {x:Int} (h:k<8) (e:x=k):cN r (.d<|aK<|jK w T) x (aB<|pv w<|T k):=ic (by unfold jK;simp only[nM,MY k h];rfl) e (by decide:(8:Int)<2^63)
theorem YG {k:Nat} (h:k<8):cN r (.d<|aK GH) (k:Int) (aK<|(lp k).map λ(l:Nat)=>aB l):=ic (by unfold GH;simp only[nM,MY k h];rfl) rfl (by decide:(8:Int)<2^63)
theorem AI (v:V3) {l:Nat} (hl:l<3):cN r (.d<|bZ v) (l:Int) (aB<|at3 v l):=Bd (P:=λ(l:Nat)=>cN r (.d<|bZ v) (l:Int)<|aB<|at3 v l) (nh v).1 (nh v).2.1 (nh v).2.2 l hl
theorem GR (f:Nat->Int) (b:Bool) (n:Nat):((if b then [n] else []).map f).sum=if b then f n else 0:=by
 induction b
 ·rfl
 ·show QHp _
theorem Vk: ∀k,k<8->lp k=(if k.testBit 0 then [0] else [])++((if k.testBit 1 then [1] else [])++if k.testBit 2 then [2] else []):=by decide
theorem I5 (w:Nat) (b:Bool) (l:List Nat) (n:Nat):pv w (if b then l.map (· +n) else [])=if b then pv w l*2^(w*n) else 0:=by
 induction b
 ·rfl
 ·show P5 w n l
theorem Wc (w:Nat) (v:V3) (T:Nat->List Nat) {k:Nat} (K:k<8):pv w (i8 v T k)=pv w (T k)+((lp k).map λl=>pv w (T<|k - 2^l)*2^(w*at3 v l)).sum:=by rw[Vk k K,gR,gR,BO,BO,GR,GR,GR];show (xX _ _ _).trans<|QIh _<|(xX _ _ _).trans ?_;rw[xX,I5,I5,I5];rfl
def fits (T:Nat->List Nat) (n:Nat):Prop:= ∀k,k<8->(T k).length<=4^n/\ ∀e∈T k,e<=9*n
theorem QV {T:Nat->List Nat} (h:fits T n) (f:v.1<=9) (A:v.2.1<=9) (H:v.2.2<=9):fits (i8 v T) (n+1):=by
 intro k K;have a:=h k K;have b:=h (k - 1)<|(bB (yX (k)<|1) K);have c:=h (k - 2)<|(bB (yX (k)<|2) K);have d:=h (k - 4)<|(bB (yX (k)<|4) K)
 have p: ∀(q:Bool) (x:List Nat) (y:Nat),y<=9->x.length<=4^n->(∀e∈x,e<=9*n)->(if q then x.map (· +y) else []).length<=4^n/\ ∀e∈(if q then x.map (· +y) else []),e<=9*(n+1):=by
  intro q x y Y M m;induction q
  ·show ⟨iz _,by intro e F;trivial⟩
  ·show ⟨by simpa using M,λe F=>?_⟩
   show aT (gQ.mp F) λu t B=>dA B ?_;have:=m u t;show kI ‹_› ‹_›
 show bP (p (k.testBit 0) _ _ f b.1 b.2) λs j=>bP (p (k.testBit 1) _ _ A c.1 c.2) λC i=>bP (p (k.testBit 2) _ _ H d.1 d.2) λL z=>?_;unfold i8;constructor
 ·simp only[i4,FD]
  show bB (na (na a.1 s) C) L
 ·intro e F
  show Or.elim (jZ.mp F) (λF=>?_) λF=>?_
  ·have:=a.2 e F
   show bO ‹_› (jb _ _)
  ·show Or.elim (jZ.mp F) (λF=>?_) λF=>?_
   ·show j e F
   ·show Or.elim (jZ.mp F) (λF=>?_) λF=>?_
    ·show i e F
    ·show z e F
theorem IQ (q:v.1<=9) (H:v.2.1<=9) (h:v.2.2<=9): ∀l,at3 v l<=9
 |0=>q
 |1=>H
 |2=>h
 |n+3=>iz _
def qw (A:List aM) (w:Int) (T:List aM) (t:Option aM):Ls:=(0,aQ<|aK A)::(1,aQ<|aB w)::(2,aQ<|aK GH)::(3,aQ<|aK T)::match t with|none=>[]|some v=>[(4,aQ v)]
section
variable {o:dn} {A:List aM} {w:Nat} {T:Nat->List Nat} {n:Nat} {v:V3}
theorem QDS (W:w<=1000) (hn:n<=3) (t:fits T n) (f:v.1<=9) (q:v.2.1<=9) (H:v.2.2<=9) {k:Nat} (C:k<8) (K:List aM->Prop) (h:K ((lp k).map λl=>aB<|pv w (T<|k - 2^l)*2^(w*at3 v l))):
 cW (jf dj (.bA cS<|.aL dc aU<|.aL dj (aH 1) ba)<|.aL cV b8<|.bA dv ba).w dZ [] o (mK (qw A w (jK w T)<|aA<|bZ v) k) ((lp k).map λ(l:Nat)=>aB l) K:=by
 show bP (MI k C) λU j=>mi (λl Z R K h=>?_) K h;show bP (j l Z) λi L=>?_
 have N:(4:Nat)^n<=64:=by
  have: ∀n,n<4->(4:Nat)^n<=64:=by decide
  show this n (fq ‹_› (by ext))
 have s:at3 v l<=9:=IQ f q H l;have e:k - 2^l<8:=fq (yX _ _) C;show bP (t (k - 2^l) e) λB c=>?_;have p:=xR (w:=w) c<|bB N B;have m:(k:Int) - 1*2^(l:Int).toNat=((k - 2^l:Nat)):=by simp only[kq,qD,<-kbt_cast];show (nF (bR<|oL<|nR<|sE (L:2^l<=k))<|bR<|oL<|nL<|sE (L:2^l<=k))
 have a:=gB (x:=(w:Int)) (cT _)<|bR<|oL W;have b:=gB (x:=((at3 v l:Nat))) (cT _)<|bR<|oL s;show cu (.aL dj (.bA cS<|.aL dc aU<|.aL dj (aH 1) ba)<|.aL cV b8<|.bA dv ba) dZ [] o [.b aC,.d<|aB<|pv w<|T<|k - 2^l,.d<|aB<|at3 v l] (mK (qw A w (jK w T)<|aA<|bZ v) k) (aB l) R K rfl tt (cT _) (by dsimp only[AQ];show bR<|oL i) (Nv e m) (AI v i) (bO (kI ‹_› ‹_›)<|by ext) (cT<|w*at3 v l) (by show bN (ni p<|oL (oH W ((aS<|fO 9 hn)):w*(9*n)<=1000*27))<|oL (oH W s:w*at3 v l<=1000*9)) rfl h
theorem Pd (W:w<=1000) (hn:n<=3) (t:fits T n) (f:v.1<=9) (q:v.2.1<=9) (H:v.2.2<=9) (K:List aM->Prop) (h:K (jK w<|i8 v T)):
 cW (jf bV (.bA cS aU)<|.bi .sum [eO (.aL dj (.bA cS<|.aL dc aU<|.aL dj (aH 1) ba)<|.aL cV b8<|.bA dv ba) dZ (.m9<|.bA cF aU) []]).w bh [] o (cJ<|qw A w (jK w T)<|aA<|bZ v) ([0,1,2,3,4,5,6,7].map λ(k:Nat)=>aB k) K:=by
 show mi (λk C x K h=>?_) K h;have e:k<8:=m8 C;have L:((lp k).map λ(l:Nat)=>aB l).length<=16777216:=by rw[cp];show bO (MI k e).1 (by ext)
 rw[Wc w v T e] at h;show cu (.aL bV (.bA cS aU)<|.bi .sum [eO (.aL dj (.bA cS<|.aL dc aU<|.aL dj (aH 1) ba)<|.aL cV b8<|.bA dv ba) dZ (.m9<|.bA cF aU) []]) bh [] o [.b aC,.d<|aB<|pv w<|T k,.d<|aK<|(lp k).map λ(l:Nat)=>aB l,.ds<|(lp k).map λl=>aB<|pv w (T<|k - 2^l)*2^(w*at3 v l),.d<|aB ((lp k).map λl=>pv w (T<|k - 2^l)*2^(w*at3 v l)).sum] (cJ<|qw A w (jK w T)<|aA<|bZ v) (aB k) x K rfl tt (Nv e rfl) (YG e) L (QDS W hn t f q H e) ((λr=>.sum (by erw[uX];show .d): ∀r,cy r .sum [.d<|aK<|(lp k).map λl=>aB<|pv w (T<|k - 2^l)*2^(w*at3 v l)]<|aB ((lp k).map λl=>pv w (T<|k - 2^l)*2^(w*at3 v l)).sum) _) rfl h
theorem Yp (W:w<=1000): ∀vs T n t,n+vs.length<=4->fits T n->lr vs-> ∃t',∀K,K dE (qw A w (jK w<|vs.foldl (λT v=>i8 v T) T) t')->fW lI (DJ.map SW.w) o (vs.map bZ) (qw A w (jK w T) t) K:=by
 intro O;induction O with
 |nil=>show λT n t O O O=>⟨t,λK h=>h⟩
 |cons v vs i=>
  show λT n t N z L=>by
   simp only[jd] at N;show eA (L v<|.head _) λc s l=>bE (i (i8 v T) (n+1) (aA<|bZ v) (aS N) (QV z c s l) λx M=>L x<|.tail _ M) λt' h=>⟨t',λK k=>?_⟩;induction t with
   |none=>show ej lI DJ o [.ds<|jK w<|i8 v T] (bZ v) (vs.map bZ) (qw A w (jK w T) aE) K tt (by ext) (Pd W (aS N) z c s l)<|h K k
   |some t=>show ej lI DJ o [.ds<|jK w<|i8 v T] (bZ v) (vs.map bZ) (qw A w (jK w T)<|aA t) K tt (by ext) (Pd W (aS N) z c s l)<|h K k
end
theorem Na:fits T0 0:=by
 intro k K;unfold T0
 split
 ·show ⟨by ext,by intro e F;erw[oW.mp F];decide⟩
 ·show ⟨by ext,by intro e F;trivial⟩
theorem Qb (L:Nat) {w:Nat} (W:w<=1000) {vs:List V3} (hl:vs.length<=4) (hs:lr vs):(aY<|L+1).F 24 [aK<|vs.map bZ,aB w] (aB<|pv w<|Ex vs):=by
 show bE (Yp (o:=aY L) (A:=vs.map bZ) W vs T0 0 aE (ES ‹_› _) Na hs) λt l=>?_
 have K: ∀r,cy r .sum [.d<|aK<|jK w<|wT vs]<|aB<|pv w<|Ex vs:=λr=>by
  have:=cy.sum (r:=r) (v:=.d<|aK<|jK w<|wT vs) (ns:=[0,1,2,3,4,5,6,7].map λ(k:Nat)=>pv w<|wT vs k) (by erw[uX];show .d);have e:([0,1,2,3,4,5,6,7].map λ(k:Nat)=>pv w<|wT vs k).sum=pv w (Ex vs):=by unfold Ex;simp only[dg,rJ,Sf,Sg,xX,lT,Jm];rfl
  rwa[e] at this
 have a:jK w T0=[aB 1,aB 0,aB 0,aB 0,aB 0,aB 0,aB 0,aB 0]:=by unfold jK;simp[T0,(by simp[pv]:pv w [0]=1),show pv w []=0 by simp[pv]]
 rw[a] at l;show fu ?_ rfl;induction t with
 |none=>show d5 b_law_ways 2 [.f dE<|qw (vs.map bZ) w (jK w<|wT vs) aE,hi<|pv w<|Ex vs] (aY L) [aK<|vs.map bZ,aB w] _ rfl l (K _) .ret
 |some t=>show d5 b_law_ways 2 [.f dE<|qw (vs.map bZ) w (jK w<|wT vs)<|aA t,hi<|pv w<|Ex vs] (aY L) [aK<|vs.map bZ,aB w] _ rfl l (K _) .ret
end B01
theorem X0 {α:Type} (f g:α->Int): ∀l:List α,(l.map λx=>f x).sum+(l.map λx=>g x).sum=(l.map λx=>f x+g x).sum:=by
 intro O;induction O with
 |nil=>show rfl
 |cons x l i=>show by have:=i;simp only[dg,lT];show r8 this
theorem L8 (n:Nat): ∀ds,(∀d∈ds,0<=d/\d<2^n)->digs n ds.length (undig n ds)=ds:=by
 intro O;induction O with
 |nil=>show λO=>rfl
 |cons d ds i=>show λh=>by have i:=i λx M=>h x<|.tail _ M;show bP (h d<|.head _) λb H=>?_;have N:=eJ n;rw[jd,DN,sY];show bP (mh N (by rw[kO];simp+arith:d+2^n*undig n ds=undig n ds*2^n+d) b H) λQ q=>sb Q<|sb q<|sb i rfl
theorem wO (n K:Nat) (f:Nat->Int):undig n ((cg<|K+1).map f)=undig n ((cg K).map f)+2^(n*K)*f K:=by rw[yh,gR,zW];simp[DK,sY]
theorem QCV (n:Nat) (f g:Nat->Int): ∀K,undig n ((cg K).map λk=>f k+g k)=undig n ((cg K).map f)+undig n ((cg K).map g):=by
 intro O;induction O with
 |zero=>show rfl
 |succ K i=>show by rw[wO,wO,wO,i];grind
theorem QCB (n e:Nat): ∀K,undig n ((cg K).map λk=>if e=k then 1 else 0)=if e<K then 2^(n*e) else 0:=by
 intro O;induction O with
 |zero=>show by rfl
 |succ K i=>
  show by
   rw[wO,i];by_cases h:e<K
   ·show sb (QIg h)<|sb (if_neg<|Nat.ne_of_lt ‹_›)<|sb (if_pos<|Nat.lt_succ_of_lt ‹_›) ?_
    rfl
   ·by_cases H:e=K
    ·erw[H]
     simp
    ·show sb (QIf h)<|sb (if_neg H)<|sb (if_neg<|(λW=>((rK H).elim (λu=>(dC u<|fJ h)) λu=>(dC u W)))) ?_
     rfl
noncomputable def gC (es:List Nat) (K:Nat):List Int:=(cg K).map λk=>(es.count k:Int)
theorem vD (es:List Nat) (K:Nat):(gC es K).length=K:=by simp[gC]
theorem Pq (w:Nat) {K:Nat}: ∀es,(∀e∈es,e<K)->undig w (gC es K)=pv w es:=by
 intro O;induction O with
 |nil=>
  show λO=>by
   have: ∀K,undig w ((cg K).map λO=>(0:Int))=0:=by
    intro K;induction K with
    |zero=>rfl
    |succ K i=>rw[wO,i];rfl
   simpa[gC,pv] using this K
 |cons e es i=>
  show λh=>by
   have i:=i λx M=>h x<|.tail _ M;have F:=h e<|.head _
   have u:gC (e::es) K=(cg K).map λk=>(es.count k:Int)+(if e=k then 1 else 0):=by
    unfold gC;apply SU;intro k _;erw[kP];by_cases q:e=k
    ·simp[q]
    ·simp[q]
   have n:pv w (e::es)=2^(w*e)+pv w es:=by rfl
   rw[u,QCV,QCB,if_pos F,n];unfold gC at i;erw[i];simp+arith
theorem Vh {K:Nat}: ∀es:List Nat,(∀e∈es,e<K)->(gC es K).sum=es.length:=by
 intro O;induction O with
 |nil=>
  show λO=>by
   have: ∀K,((cg K).map λO=>(0:Int)).sum=0:=by
    intro K;induction K with
    |zero=>rfl
    |succ K i=>show sb yh<|sb List.map_append<|sb List.sum_append<|sb i ?_;rfl
   simpa[gC] using this K
 |cons e es i=>
  show λh=>by
   have i:=i λx M=>h x<|.tail _ M;have F:=h e<|.head _
   have Y:gC (e::es) K=(cg K).map λk=>(es.count k:Int)+(if e=k then 1 else 0):=by
    unfold gC;apply SU;intro k _;erw[kP];by_cases q:e=k
    ·simp[q]
    ·simp[q]
   have d: ∀K,((cg K).map λk=>(if e=k then (1:Int) else 0)).sum=if e<K then 1 else 0:=by
    intro K;induction K with
    |zero=>rfl
    |succ K i=>
     show sb yh<|sb List.map_append<|sb List.sum_append<|sb i ?_
     by_cases H:e<K
     ·show sb (QIg H)<|sb (if_pos<|Nat.lt_succ_of_lt ‹_›) ?_
      simp;omega
     ·by_cases m:e=K
      ·erw[m]
       simp
      ·show sb (QIf H)<|sb (if_neg<|(λW=>((rK m).elim (λu=>(dC u<|fJ H)) λu=>(dC u W)))) ?_
       simp[m]
   rw[Y,<-X0,d,if_pos F];unfold gC at i;show sb i<|sb List.length_cons ?_
   simp+arith
theorem Qo {w:Nat} (hl:(es.length:Int)<2^w) (K:Nat): ∀d∈gC es K,0<=d/\d<2^w:=by intro d hd;show aT (gQ.mp hd) λk O e=>dA e ?_;have:=Sh (a:=k) (l:=es);show ⟨(bR<|oZ<|Sb k es),(bN hl<|oL this)⟩
theorem Fn {w d:Nat} (W:1<=w) (H:2^(w*d)<=q) (i:q<2^(w*(d+1))):fV w q=d+1:=by
 have h0:=lN (cR<|eJ _) H;have u:=(j3 h0).mpr i;have l:w*d<ib q:=by show rG λh=>?_;have:=(j3 h0).mp h;show gX H this
 rw[SE] at u;show (Nat.div_eq_iff<|by assumption).mpr ?_;rw[wF w d] at*;have:=Nat.succ_mul d w;show ⟨(bB (na (nL this) l)<|nR<|sE ((aS W):1<=ib q+w)),(bB (na (na (nL<|sE ((aS W):1<=ib q+w)) u)<|nR this)<|nR<|sE ((aS W):1<=(d+1)*w+w))⟩
theorem Dd {w:Nat}: ∀{es:List Nat} {e:Nat},e∈es->(2:Int)^(w*e)<=pv w es:=by
 intro es;induction es with
 |nil=>show λh=>nomatch h
 |cons x es i=>
  show @λe h=>by
   have n:=EK w es;have C:pv w (x::es)=2^(w*x)+pv w es:=by rfl
   erw[C];rcases dR.mp h with rfl|h
   ·show bR n
   ·show lN (i h)<|bR<|cR<|eJ<|w*x
theorem Yt {w V:Nat} (hl:(es.length:Int)<2^w) (m: ∀e∈es,e<=V) (v:V∈es):
 ((es.count V:Nat):Int)*2^(w*V)<=pv w es/\pv w es<((es.count V:Nat)+1)*2^(w*V)/\1<=es.count V:=by
 have e:=Pq w (K:=V+1) es λx M=>by have:=m x M;show aS this
 have u:gC es (V+1)=gC es V++[((es.count V:Nat):Int)]:=by
  unfold gC;show sb yh<|sb List.map_append ?_
  rfl
 rw[u,zW,vD] at e;have r:=HN w (gC es V)<|Qo hl V;rw[vD] at r;rw[(by rfl:undig w [((es.count V:Nat):Int)]=((es.count V:Nat):Int))] at e;show ⟨?_,?_,QIG.mpr v⟩
 ·rw[kO]
  show (bN (iL e) r.1)
 ·have:(((es.count V:Nat):Int)+1)*2^(w*V)=2^(w*V)*((es.count V:Nat):Int)+2^(w*V):=by grind
  show sb this<|bN (iR e) r.2
theorem QAg {w V d:Nat} (t:16<=w) (hl:es.length<=209) (h:m.length<=209) (F: ∀e∈es,e<=V) (v:V∈es) (M: ∀e∈m,e<=V+d) (W:V+d∈m):
 fV w ((2*((es.count V:Nat):Int)*pv w m) / pv w es)=d+1:=by
 have B:(65536:Int)<=2^w:=by
  have:=Cg t;have e:(2:Int)^16=65536:=by decide
  assumption
 show eA (Yt (w:=w) (V:=V) (es:=es) (bN B<|oL hl) F v) λR L A=>?_;have Q:=Dd (w:=w) W;have q:=LV w (V+d) m M;generalize C:((es.count V:Nat):Int)=c at*;have s:1<=c:=bN (iL C)<|oL A
 generalize pv w es=u at*;generalize pv w m=z at*;have P:=eJ<|w*V;have p:=eJ<|w*d;have o:0<u:=by have:1*2^(w*V)<=c*2^(w*V):=oV s<|cR P;show bN (ni R P) this
 have g:(2:Int)^(w*(V+d))=2^(w*V)*2^(w*d):=by rw[FE,la]
 rw[g] at Q q;have i:(2:Int)^(w*(d+1))=2^(w*d)*2^w:=by rw[SE,la]
 generalize (2:Int)^(w*V)=X at*;generalize f:(2:Int)^(w*d)=Y at*;show Fn (bO (dI _ _) ‹_›) ?_ ?_
 ·show sb f<|Int.le_ediv_of_mul_le o ?_
  have U:Y*u<=Y*((c+1)*X):=vo (cR L)<|cR p;have l:2*c*(X*Y)<=2*c*z:=vo Q<|(bN (mI 2<|iL C)<|mI 2<|oL A);have a:0<=(c - 1)*(X*Y):=oU (Int.sub_nonneg.mpr ‹_›)<|oU (cR P)<|cR p;have N:Y*((c+1)*X)+(c - 1)*(X*Y)=2*c*(X*Y):=by grind
  show bN (ni (ni U l) a)<|iL N
 ·show sb i<|Int.ediv_lt_of_lt_mul o ?_
  have r:(m.length:Int)*(X*Y)<=209*(X*Y):=oV (su.mpr ‹_›)<|oU (cR P)<|cR p;have j:2*c*z<=2*c*(209*(X*Y)):=vo (lN ‹_› ‹_›)<|(bN (mI 2<|iL C)<|mI 2<|oL A);have x:Y*418*(c*X)<=Y*418*u:=vo R (by (clear f;show (bR<|mI 418 p)));have H:2*c*(209*(X*Y))=Y*418*(c*X):=by grind
  have b:Y*418*u<Y*2^w*u:=Jy (Int.mul_lt_mul_of_pos_left ((bR B)) p) o;grind_order
theorem Np {a b u o:Int} (hu:0<u) (z:0<=o) (g:o<u) (hb:0<b):(a*u+o) / (b*u)=a / b:=by
 have h:=ku a b;have H:=lU a<|gG hb;have Q:=kr a hb;have B:0<b*u:=yf hb hu;have Z:0<=(a % b)*u:=oU H<|cR hu;have K:(a % b+1)*u<=b*u:=oV (by assumption)<|cR hu;show (mh B (q:=a / b) (r:=(a % b)*u+o) ?_ (BU ‹_› ‹_›) ?_).1
 ·have:a*u=(b*(a / b)+a % b)*u:=by simp only[h]
  simp only[this]
  grind
 ·have:(a % b+1)*u=(a % b)*u+u:=by grind
  show bN (ni (iR this) K) g
theorem Lr {a b f:Int} (hb:0<b):(a+f*b) / b=f+a / b:=by erw[QHf _ _<|gG hb];simp+arith
theorem vO (a b:Int):ib (a*b)<=ib a+ib b:=by show pT.mpr ?_;rw[Int.natAbs_mul,Nat.pow_add];have h:=pT.mp<|cY<|ib a;have H:=pT.mp<|cY<|ib b;have Q:a.natAbs*b.natAbs<=a.natAbs*2^ib b:=fO _<|s7 H;have v:a.natAbs*2^ib b<2^ib a*2^ib b:=Nat.mul_lt_mul_of_pos_right h<|QHd _;show fq ‹_› ‹_›
theorem HC (h:ib a<=m) (H:ib b<=m):ib (a+b)<=m+1:=by show pT.mpr ?_;have h:=pT.mp h;have H:=pT.mp H;have:=Int.natAbs_add_le a b;simp only[FD];show bB (na h H) this
theorem tM (a:Int):ib (-a)=ib a:=by simp[ib,I8]
theorem zl (H:0<=a) (h:a<=b):ib a<=ib b:=by show (j3 H).mpr ?_;have:=(j3<|lN H h).mp<|cY<|ib b;show Jx ‹_› ‹_›
theorem FP (a:Int) (hb:0<b):a.fdiv (-b)=(-a) / b/\a.fmod (-b)= -((-a) % b):=by
 have h:a.fdiv (-b)=(-a) / b:=by have:=Int.neg_fdiv_neg (-a) b;simp only[QIH] at this;show sb this<|sb (iN _ hb) rfl
 show ⟨h,?_⟩;have H:=QHq a (-b);have Q:=ku (-a) b;simp only[h] at H;generalize (-a) / b=q at*;have: -b*q= -(b*q):=Int.neg_mul ..;omega
theorem QAS (w:Nat) (f:Nat->Int): ∀K,((cg K).map λk=>f k*2^(w*k)).sum=undig w ((cg K).map f):=by
 intro O;induction O with
 |zero=>show rfl
 |succ K i=>show by rw[wO,yh,gR,BO,i];simp[kO]
theorem j_ (U:Int) {D:Int} (d:0<D): -1 - (-U) / D=(U - 1) / D:=by have A:=ku (U - 1) D;have H:=lU (U - 1)<|gG d;have h:=kr (U - 1) d;have:=(mh d (a:= -U) (q:= -((U - 1) / D) - 1) (r:=D - (U - 1) % D - 1) (by grind) ((bR h))<|(bR H)).1;omega
namespace B01
structure SK (w:Nat) (u ov:Int):Prop where
 w1:16<=w
 w2:w<=415
 u1:1<u
 u2:ib u=4201
 o1:1<=ov
 o2:ov<u
theorem Ck {α:Type} {us:List α}:us.length=9-> ∃a b c d e f g i j,us=[a,b,c,d,e,f,g,i,j]:=MZ (P:=λus=> ∃a b c d e f g i j,us=[a,b,c,d,e,f,g,i,j]) (λa b c d e f g i j=>⟨a,b,c,d,e,f,g,i,j,rfl⟩) us
theorem xA {vs:List V3}:(vs.length=4->(Ex vs).length=73)/\(vs.length=3->(Ex vs).length=34):=by
 constructor
 ·show kX (P:=λvs=>(Ex vs).length=73) (λa=>rl λb c d=>rfl) vs
 ·show rl (P:=λvs=>(Ex vs).length=34) (λa b c=>rfl) vs
theorem Pb {vs:List V3} (h:lr vs) (k:Nat):lr (vs.eraseIdx k):=λv P=>h v<|List.eraseIdx_subset P
theorem QAc: ∀vs T n,fits T n->lr vs->fits (vs.foldl (λT v=>i8 v T) T) (n+vs.length):=by
 intro O;induction O with
 |nil=>show λT n h O=>h
 |cons v vs i=>show λT n h s=>by show eA (s v<|.head _) λa b c=>?_;have:=i (i8 v T) (n+1) (QV h a b c) λx M=>s x<|.tail _ M;show sb jd<|sb (by simp+arith:n+(vs.length+1)=n+1+vs.length)<|this
theorem Qd {vs:List V3} (hs:lr vs): ∀e∈Ex vs,e<=9*vs.length:=by intro e F;show aT (J6.mp F) λk K F=>?_;have:=(QAc vs T0 0 Na hs k (m8 K:k<8)).2 e F;show aS this
theorem p3 (w:Nat):digs w 3 (2^(3*w) - 1)=[2^w - 1,2^w - 1,2^w - 1]:=by
 have N:=eJ w;have:=L8 w [2^w - 1,2^w - 1,2^w - 1] (by intro d hd;simp only[dR,i5,or_false] at hd;show ⟨(hd.elim (λU=>(bN (iR U) N)) λU=>(U.elim (λu=>(bN (iR u) N)) λu=>(bN (iR u) N))),(hd.elim (λU=>(bR<|iL U)) λU=>(U.elim (λu=>(bR<|iL u)) λu=>(bR<|iL u)))⟩)
 have e:undig w [2^w - 1,2^w - 1,2^w - 1]=2^(3*w) - 1:=by
  have:(2:Int)^(3*w)=2^w*(2^w*2^w):=by rw[show 3*w=w+(w+w) by simp+arith,la,la]
  simp only[this];simp only[DK,sY]
  grind
 simp only[e] at this;show this
noncomputable def sA (z:Nat):Int:=[1, -1,1, -1].getD z 1
noncomputable def sB (z:Nat):Int:=[1, -1, -1,1].getD z 1
noncomputable def xG (z:Nat) (q:Int):Int:=if z<2 then q else -1 - q
theorem i_ (n:Nat):(2:Nat)^(n+1)=2*2^n:=by rw[FD,wF]
theorem V0 (L:Nat) (l:310<=L) {D U Q:Int} (d:0<D) (n:4201<=ib D) (B:ib D<=50000) (N:ib U<=400000) (q1:U / D=Q) (q2:(U - 1) / D=Q) (Z:z<4):
 ∃u r,(aY<|L+1).F 8 [aB<|U*sB z,aB<|D*sA z] (bw [aB u,aB r])/\u*(D*sA z)+r=U*sB z/\0<=r*sA z/\r*sA z<D/\xG z u=Q/\(ib u:Nat)<=400002/\ib r<=50000:=by
 have nD:=tM D;have Y:=tM U;have a1:=ku U D;have a2:=lU U<|gG d;have a3:=kr U d;have b1:=ku (-U) D;have b2:=lU (-U)<|gG d;have b3:=kr (-U) d;have P:=j_ U d
 have q: ∀x,ib x<=400000->ib (x / D)<=400001:=by
  intro x M;show pT.mpr ?_;have A:=pT.mp M
  have i:(x / D).natAbs<=x.natAbs+1:=by
   have e:=ku x D;have e2:=lU x<|gG d;have p:=kr x d;show Or.elim (Ju x 0) (λc=>?_) λc=>?_
   ·have:x / D<= -1:=by
     have:=Int.ediv_neg_of_neg_of_pos c d;show bR this
    have h:(-1 - x / D)<=D*(-1 - x / D):=by have H:=oV (bR d:(1:Int)<=D) (bR this:0<= -1 - x / D);show bR H
    have j:D*(-1 - x / D)= -D - D*(x / D):=by grind
    have c1:=SJ<|cR c;have c2:=SJ (bR this:x / D<=0);rw[j] at h;show oM<|bN (ni (ni (ni (iL c2)<|iR c1)<|iR e) p) h
   ·have h:=tJ c (cR d)
    have H:=oV (d:(1:Int)<=D) h;show (oM<|bN (ni (ni (ni (iR<|FF (c:0<=x))<|iL<|FF (h:0<=x / D))<|iL e) H) e2)
  erw[i_ 400000];generalize (2:Nat)^400000=X at*;show (bB (na i A) A)
 have hu:=q U N;have hn:=q (-U) (by omega);have R:=zl a2<|cR a3;have m:=zl b2<|cR b3
 match z,Z with
 |0,_=>
  have e2:=uW D;have p:U % D*sA 0=U % D:=uW _;show sb (uW U:U*sB 0=U)<|sb e2<|(AG (U / D) (U % D) ?_ (by rw[Int.mul_comm];show r8 a1) (by erw[p];show a2) (by erw[p];show a3) q1 ((aS hu))<|(bB R B))
  have K:=ti L l (a:=U) (b:=D) ((λo=>(gX d<|iL o))) ((aS B))<|(oM<|bN (mI 100<|oL n)<|oL N);rw[iN _ d,m6 _ d] at K;show K
 |1,_=>
  have e2:D*sA 1= -D:=by show (?_:D* -1= -D);show (by simp+arith)
  have p: -(U % D)*sA 1=U % D:=by show (?_: -(U % D)* -1=U % D);show (by simp+arith)
  erw[(by show (?_:U* -1= -U);omega:U*sB 1= -U)];show sb e2<|bP (FP (-U) d) λW f=>?_
  rw[QIH] at W f;have C:=tM<|U % D;show (AG (U / D) (-(U % D)) ?_ (by rw[QII,kO];show (r8 a1.symm)) (by erw[p];omega) (by erw[p];omega) q1 (by omega)<|by omega);have K:=ti L l (a:= -U) (b:= -D) ((λo=>(gX d<|iR o))) (by omega) (by omega);rw[W,f] at K;show K
 |2,_=>
  have e2:=uW D;have p:(-U) % D*sA 2=(-U) % D:=uW _;erw[(by show (?_:U* -1= -U);omega:U*sB 2= -U)];show sb e2<|(AG ((-U) / D) ((-U) % D) ?_ (by rw[Int.mul_comm];show b1) (by erw[p];show b2) (by erw[p];show b3) (by show (?_: -1 - (-U) / D=Q);omega) (by omega)<|by omega)
  have K:=ti L l (a:= -U) (b:=D) (by omega) (by omega) (by omega);rw[iN _ d,m6 _ d] at K;show K
 |3,_=>
  have e2:D*sA 3= -D:=by show (?_:D* -1= -D);omega
  have p: -((-U) % D)*sA 3=(-U) % D:=by show (?_: -((-U) % D)* -1=(-U) % D);omega
  show sb (uW U:U*sB 3=U)<|sb e2<|bP (FP U d) λW f=>?_
  have C:=tM<|(-U) % D;show (AG ((-U) / D) (-((-U) % D)) ?_ (by rw[QII,kO];omega) (by erw[p];omega) (by erw[p];omega) (by show (?_: -1 - (-U) / D=Q);omega) (by omega)<|by omega);have K:=ti L l (a:=U) (b:= -D) (by omega) (by omega) (by omega);rw[W,f] at K;show K
theorem Zm (w:Nat) (vs:List V3) (l:Nat):pv w (Mx vs l)=pv w (Ex vs)+([0,1,2,3].map λk=>pv w (Ex<|vs.eraseIdx k)*2^(w*at3 (vs.getD k (0,0,0)) l)).sum:=by
 unfold Mx;simp only[xX];simp only[Sf,Sg,xX,P5,dg,rJ,lT,Jm];have:pv w []=0:=by rfl
 show sb this rfl
theorem QDA {vs:List V3} (h:vs.length=4) (l:Nat):(Mx vs l).length=209:=by unfold Mx;simp only[Sf,Sg,i4,cp,tI];have e: ∀k,k<4->(Ex<|vs.eraseIdx k).length=34:=λk K=>xA.2 (by erw[J7<|bB (nR h) K];show (qj (sE ((aS<|nR h):1<=vs.length)) h));show sb (xA.1 h)<|sb (e 0<|by ext)<|sb (e 1<|by ext)<|sb (e 2<|by ext)<|sb (e 3<|by ext) rfl
end B01
set_option exponentiation.threshold 100000
namespace B01
noncomputable def lC (A C:List aM) (w u ov one:Int) (oth:List aM) (D F:Int) (gN ds xs:List aM) (r:Ls):Ls:=(0,aQ<|aK A)::(1,aQ<|aK C)::(2,aQ<|aB w)::(3,aQ<|aB u)::(4,aQ<|aB ov)::(5,aQ<|aB one)::(6,aQ<|aK oth)::(7,aQ<|aB D)::(8,aQ<|aB F)::(9,aQ<|aK gN)::(10,aQ<|aK ds)::(11,bg xs)::r
def GZ (A C:List aM) (w u ov one:Int):Ls:=(0,aQ<|aK A)::(1,aQ<|aK C)::vs 2 [w,u,ov,one]
noncomputable def GX (A C:List aM) (w u ov one:Int) (oth:List aM) (D F:Int) (gN ds:List aM):Ls:=(0,aQ<|aK A)::(1,aQ<|aK C)::(2,aQ<|aB w)::(3,aQ<|aB u)::(4,aQ<|aB ov)::(5,aQ<|aB one)::(6,aQ<|aK oth)::(7,aQ<|aB D)::(8,aQ<|aB F)::(9,aQ<|aK gN)::[(10,aQ<|aK ds)]
section
variable {A C oth ds zs:List aM} {w u ov one D F:Int}
theorem Zz {vs':List V3} (hl:vs'.length=4) (n:A=vs'.map bZ) (g:Nat->Int) (Z: ∀k,k<4->o.F 24 [aK<|(vs'.eraseIdx k).map bZ,aB w] (aB<|g k)) (K:List aM->Prop) (h:K ([0,1,2,3].map λk=>aB<|g k)):
 cW (cZ 24 [.aL bV (.d9 cw aE (aA aU) aE)<|.d9 cw (aA<|.aL bV aU<|aH 1) aE aE,cF]).w bh [] o (cJ<|GZ A C w u ov one) ([0,1,2,3].map λ(k:Nat)=>aB k) K:=by
 show mi (λk s R K h=>?_) K h;have B:k<4:=m4 s;have a:A.length=4:=by rw[n,cp,hl]
 have t: ∀r,fx r (.d<|aK A) (.d br) (.d<|aB k) (.d br)<|aK<|A.take k:=λr=>by have:=fx.lst (r:=r) (v:=.d<|aK A) .d .none (.int (i:=k)) .none nofun (aS<|nL a);rwa[QAK _<|bB B<|nR a] at this
 have x: ∀r,fx r (.d<|aK A) (.d<|aB<|(k:Int)+1) (.d br) (.d br)<|aK<|A.drop<|k+1:=λr=>by have:=fx.lst (r:=r) (v:=.d<|aK A) .d (.int (i:=((k+1:Nat)))) .none .none nofun (aS<|nL a);rwa[DH] at this
 have H: ∀r,d7 r bV (.d<|aK<|A.take k) (.d<|aK<|A.drop<|k+1)<|aK<|(vs'.eraseIdx k).map bZ:=λr=>by simp only[<-(by rw[n,<-List.map_take,<-QHt,<-gR,<-Se]:A.take k++A.drop (k+1)=(vs'.eraseIdx k).map bZ)];show sf (by (erw[yb];erw[BN]);show (bB (na (nL<|gO ((bB B<|nR a):k<=A.length))<|nL<|sE ((bB B<|nR a):k+1<=A.length))<|nL a))
 show cu (cZ 24 [.aL bV (.d9 cw aE (aA aU) aE)<|.d9 cw (aA<|.aL bV aU<|aH 1) aE aE,cF]) bh [] o [.b aC,.d<|aK<|A.take k,.d<|aK<|A.drop<|k+1,.d<|aK<|(vs'.eraseIdx k).map bZ,.d<|aB<|g k] (cJ<|GZ A C w u ov one) (aB k) R K rfl tt (t _) (x _) (H _) (Z k B) rfl h
theorem QBJ {n:Nat} {w:Nat} {gN:List aM} {g:Nat->Int} (x: ∀k,k<n-> ∀r,cN r (.d<|aK ds) (k:Int)<|aB<|g k) (M: ∀k,k<n->ib (w:Int)+ib (k:Int)<=134217728) (m: ∀k,k<n->(ib (g k):Int)+(w*k:Nat)<=134217728) (K:List aM->Prop) (h:K ((cg n).map λk=>aB<|g k*2^(w*k))):
 cW (jf dj (.bA qH aU)<|.aL cV cF aU).w bh [] o (cJ<|GX A C w u ov one oth D F gN ds) ((cg n).map λ(k:Nat)=>aB k) K:=by
 show mi (λk s R K h=>?_) K h;have s:=EZ.mp s;show cu (.aL dj (.bA qH aU)<|.aL cV cF aU) bh [] o [.b aC,.d<|aB<|g k] (cJ<|GX A C w u ov one oth D F gN ds) (aB k) R K rfl tt (x k s _) (M k s) (cT<|w*k) (m k s) rfl h
theorem Xa (a b:Int):gr 8 (bw [aB a,aB b])=true:=rfl
theorem PL (ns:List Int):gr 8 (aK<|ns.map aB)=true:=by simp[gr]
noncomputable def nv (D F ov:Int):List Dat:=[bw [aB F,aB 0],bw [aB (-F),aB 0],bw [aB (-1),aB<|D - ov],bw [aB (-1),aB<|ov - D]]
structure Mv (o:dn) (A oth ds:List aM) (c4 c5:Int) (w:Nat) (u ov one D F:Int) (n:Nat):Prop where
 ew:16+(c4.fdiv 4999).fmod 400=w
 eu:1*2^da 4200+c5.fmod (1*2^da 4200)=u
 eo:1+(c5.fdiv<|1*2^da 100).fmod (u - 1)=ov
 hP: ¬ (1:Int)*2^da 4200=0
 hQ: ¬ (1:Int)*2^da 100=0
 nQ:lO c5 (1*2^da 100)=aD
 hu: ¬ u - 1=0
 Wn:o.F 24 [aK A,aB w] (aB one)
 gD:ib one+ib u<=134217728
 eD:one*u=D
 gF:(ib 1:Int)+ib D<=134217728
 eF:1*2^da (ib D) - 1=F
 m1:ib F+ib D<=134217728
 m2:ib (-F)+ib D<=134217728
 k1:o.F 8 [aB<|F*D,aB D] (bw [aB F,aB 0])
 k2:o.F 8 [aB (-F*D),aB D] (bw [aB (-F),aB 0])
 k3:o.F 8 [aB (-ov),aB D] (bw [aB (-1),aB<|D - ov])
 k4:o.F 8 [aB ov,aB (-D)] (bw [aB (-1),aB<|ov - D])
 k5:o.F 5 [aB one,aB w] (aK ds)
 s73: ∀r,cy r .sum [.d<|aK ds] (aB 73)
 ln: ∀r,cy r .len [.d<|aK ds] (aB n)
 nn:Af n=aC
 s1: ∀r,cy r .sum [.d<|aK zs] (aB one)
 m3:ib 3+ib (w:Int)<=134217728
 g3:(ib 1:Int)+3*w<=134217728
 g1:(ib 1:Int)+w<=134217728
 Ut:o.F 5 [aB 0,aB w] (aK [])
 Um:o.F 5 [aB<|1*2^(3*(w:Int)).toNat - 1,aB w] (aK [aB<|1*2^(w:Int).toNat - 1,aB<|1*2^(w:Int).toNat - 1,aB<|1*2^(w:Int).toNat - 1])
theorem T4 {c0 c1 c2 c3 c4 c5:Int} {w n:Nat} (t:tl.length=9) (R:Mv (zs:=zs) (aY L) A oth ds c4 c5 w u ov one D F n)
 (c: ∀K,K oth->cW (cZ 24 [.aL bV (.d9 cw aE (aA aU) aE)<|.d9 cw (aA<|.aL bV aU<|aH 1) aE aE,cF]).w bh [] (aY L) (cJ<|GZ A ([c0,c1,c2,c3,c4,c5].map aB) w u ov one) ([0,1,2,3].map λ(k:Nat)=>aB k) K)
 (e: ∀K,K zs->cW (jf dj (.bA qH aU)<|.aL cV cF aU).w bh [] (aY L) (cJ<|GX A ([c0,c1,c2,c3,c4,c5].map aB) w u ov one oth D F (nv D F ov) ds) ((cg n).map λ(k:Nat)=>aB k) K) (hn:((cg n).map λ(k:Nat)=>aB k).length<=16777216)
 (l: ∀K,K dE (lC A ([c0,c1,c2,c3,c4,c5].map aB) w u ov one oth D F (nv D F ov) ds xs<|vs 12 tl)->fW qr (qN.map SW.w) (aY L) [aB (0:Nat),aB (1:Nat),aB (2:Nat)] (lC A ([c0,c1,c2,c3,c4,c5].map aB) w u ov one oth D F (nv D F ov) ds [aB n] []) K):
 lu (aY L) 2 b_law_figures [aK A,aK<|[c0,c1,c2,c3,c4,c5].map aB] (aK xs):=by
 have i: ∀r,cN r (.d<|aK<|[c0,c1,c2,c3,c4,c5].map aB) 5<|aB c5:=λr=>jT (w:=5) rfl rfl (by decide:(6:Int)<2^63);have a: ∀r,d7 r bV (.d<|aK [bw [aB F,aB 0],bw [aB (-F),aB 0]]) (.d<|aK [bw [aB (-1),aB<|D - ov],bw [aB (-1),aB<|ov - D]])<|aK<|nv D F ov:=λr=>sf (xs:=[bw [aB F,aB 0],bw [aB (-F),aB 0]]) (ys:=[bw [aB (-1),aB<|D - ov],bw [aB (-1),aB<|ov - D]])<|cn rfl;have c9: ∀r,f9 r dT (.d<|aK<|nv D F ov) (.d<|aK<|nv D F ov) false:=λr=>gA .d λx M=>by simp only[nv,dR,i5,or_false] at M;clear t R c e hn l i a;rcases M with rfl|rfl|rfl|rfl<;>show Xa _ _
 have B: ∀(y:Int) r,d7 r cV (.d<|aK [aB y]) (.d<|aB 3)<|aK [aB y,aB y,aB y]:=λy r=>.mul .d (cn rfl) (by ext) (by ext)
 have C: ∀(y:Int) r,f9 r dT (.d<|aK [aK [],aK [aB y,aB y,aB y]]) (.d<|aK [aK [],aK [aB y,aB y,aB y]]) false:=λy r=>gA .d λx M=>by
  simp only[dR,i5,or_false] at M;clear t R c e hn l i a c9 B;rcases M with rfl|rfl
  ·show PL []
  ·show PL [y,y,y]
 obtain ⟨ew,eu,eo,hP,hQ,nQ,hu,Z,gD,eD,gF,eF,m1,m2,k1,j,N,m,W,s,p,nn,U,m3,g3,q,v,Y⟩:=R;have h0:(0:Int)<=3*w:=cT<|3*w;have z:(0:Int)<=w:=cT w;generalize (w:Int)=ww at*;subst ew;subst eD;subst eu;subst eo;subst eF;show qK (Ck t) λa1 a2 a3 a4 h=>qK h λa5 P o Q H=>bE H λa9 g=>?_;clear t h H;subst g;show d5 b_law_figures 2 [hi c4,hi c5,hi c5,hi one,.ds oth,hi<|ib<|one*_,.d<|bw [aB _,aB 0],.d<|bw [aB (-_),aB 0],.d<|bw [aB (-1),aB<|_ - _],.d<|bw [aB (-1),aB<|_ - _],hl<|nv _ _ _,.b aD,.b aD,hl ds,hi 73,.b aD,hi n,.ds zs,hi one,.b aD,.b aD,hl [],hl [aB _,aB _,aB _],hl [aB _,aB _,aB _],.b aD,.b aD,hi n,.f dE<|lC A ([c0,c1,c2,c3,c4,c5].map aB) _ _ _ one oth _ _ (nv _ _ _) ds xs<|vs 12 [a1,a2,a3,a4,a5,P,o,Q,a9]] (aY L) [aK A,aK<|[c0,c1,c2,c3,c4,c5].map aB] _ rfl ((λr=>jT (w:=4) rfl rfl (by decide:(6:Int)<2^63): ∀r,cN r (.d<|aK<|[c0,c1,c2,c3,c4,c5].map aB) 4<|aB c4) _) ff (nl rfl) ff (by ext) (by ext) (i _) (by ext) (by ext) (df hP) (i _) (by ext) (by ext) (df hQ) nQ (df hu) Z tt (by ext) c gD .bits (cT _) gF m1 k1 m2 j N m (a _) (c9 _) ff W (s _) ff (p _) nn hn e (U _) (QIk one) ff v m3 h0 g3 Y z q (B _ _) (C _ _) ff (p _) tt l .ret
end
end B01
set_option exponentiation.threshold 100000
namespace B01
theorem Y4 (c4 c5:Int): ∃w u ov,SK w u ov/\16+(c4.fdiv 4999).fmod 400=w/\1*2^da 4200+c5.fmod (1*2^da 4200)=u/\1+(c5.fdiv<|1*2^da 100).fmod (u - 1)=ov/\ ¬ (1:Int)*2^da 4200=0/\ ¬ (1:Int)*2^da 100=0/\lO c5 (1*2^da 100)=aD/\ ¬ u - 1=0:=by
 show aT (iT (c4.fdiv 4999) (n:=400)<|by ext) λk K r=>aT ((bJ _ rfl (kq _)): ∃P,(1:Int)*2^da 4200=P/\P=2^4200) λP hP o=>?_
 have p:4<P:=by
  have:=Cg (m:=3) (n:=4200) (by ext);have e:(2:Int)^3=8:=by decide
  show bR<|iL hP
 show eE ((fw _ rfl (by rw[kq];show eJ _) (by decide+kernel)): ∃Q,(1:Int)*2^da 100=Q/\0<Q/\Q.natAbs.log2<9000) λQ hQ z U=>sb hP<|sb hQ ?_
 have q:=BX c5 (b:=P) (by (show bR<|iL hP));have q1:=nO c5 (b:=P)<|bR p;have q2:=BX (c5.fdiv Q) (b:=P+c5.fmod P - 1)<|bN p q;have Y:=nO (c5.fdiv Q) (b:=P+c5.fmod P - 1)<|bN p q;show ⟨16+k,P+c5.fmod P,_,⟨by show jb _ _,by show aS K,bN p q,GI (m:=4200) (by erw[<-o];show bR q) (by rw[tS,<-o];grind_order),?_,?_⟩,by erw[(r:(c4.fdiv 4999).fmod 400=(k:Int))];simp+arith,rfl,rfl,gG<|bR p,by show gG ‹_›,QIE U,gG<|bN p q⟩
 ·show (bR q2)
 ·show bR Y
theorem QDI (L:Nat) (hL:310<=L) {vs:List V3} (hl:vs.length=4) (hs:lr vs) {c4 c5:Int} {w:Nat} (hS:SK w u ov) (ew:16+(c4.fdiv 4999).fmod 400=w) (eu:1*2^da 4200+c5.fmod (1*2^da 4200)=u) (eo:1+(c5.fdiv<|1*2^da 100).fmod (u - 1)=ov) (hP: ¬ (1:Int)*2^da 4200=0) (hQ: ¬ (1:Int)*2^da 100=0) (nQ:lO c5 (1*2^da 100)=aD) (hu: ¬ u - 1=0)
 {V:Nat} (hV:V<=36) (hm: ∀e∈Ex vs,e<=V) (hVe:V∈Ex vs) {D F:Int} (eD:pv w (Ex vs)*u=D) (eF:1*2^da (ib D) - 1=F) (hD0:0<D) (hD:4201<=ib D) (hD2:ib D<=50000) (hF:ib F<=50001) (o2:ov<D) (hov:ib ov<=4201):
 Mv (zs:=(cg<|V+1).map λk=>aB<|((Ex vs).count k:Nat)*2^(w*k)) (aY<|L+1) (vs.map bZ) ([0,1,2,3].map λk=>aB<|pv w<|Ex<|vs.eraseIdx k) ((gC (Ex vs)<|V+1).map aB) c4 c5 w u ov (pv w<|Ex vs) D F (V+1):=by
 have w1:=hS.w1;have w2:=hS.w2;have u2:=hS.u2;have o1:=hS.o1;have hel:=xA.1 hl;have hDn:D≠0:=by (clear eD;show gG ‹_›)
 have m1:=vO F D;have m2:=vO (-F) D;have hnF:=tM F;have hib:(ib (pv w<|Ex vs):Int)<=(w*36+10:Nat):=xR (λe he=>by have:=hm e he;show bO ‹_› ‹_›) (by erw[hel];decide);have hw36:w*36<=415*36:=FK _ w2
 have hB:(65536:Int)<=2^w:=by
  have:=Cg w1;have e:(2:Int)^16=65536:=by decide
  assumption
 have hlt: ∀e∈Ex vs,e<V+1:=λe he=>Nat.lt_succ_of_le<|hm e he;have hu':=Pq w (Ex vs) hlt;have hr:=Qo (w:=w) (es:=Ex vs) (bN hB<|oL<|nL hel)<|V+1;have hd:=L8 w _ hr;rw[vD,hu'] at hd;have hrg:=HN w _ hr;rw[vD,hu'] at hrg;have hp:=Fn (w:=w) (d:=V) (by (clear ew;show bO (dI _ _) ‹_›)) (Dd hVe) hrg.2;have hsm:=Vh (Ex vs) hlt;have hcl:=vD (Ex vs)<|V+1;have e3:(1:Int)*2^(3*(w:Int)).toNat - 1=2^(3*w) - 1:=by rw[kq];rfl
 have hpos:=eJ<|3*w;have hz:fV w 0=0:=by unfold fV;erw[Nw];show QHo (by (clear ew;show (aS<|nL<|sE ((aS w1):1<=0+w))))
 have h3:fV w (2^(3*w) - 1)=3:=by
  show Fn (d:=2) (by (clear ew;show aS w1)) ?_ ?_
  ·have:(2:Int)^(3*w)=2^(w*2)*2^w:=by rw[show 3*w=w*2+w by show wF _ _,la]
   have h2:=eJ<|w*2;clear hpos e3;show bN (ni (iR this) h2) (vo (bR hB) (cR h2):(2:Int)^(w*2)*2<=2^(w*2)*2^w)
  ·erw[(wF _ _:w*(2+1)=3*w)]
   simp+arith
 have iw:=gB (x:=(w:Int)) (cT _) ((bN (iR ew)<|nO (c4.fdiv 4999) (by decide:(0:Int)<400)));have i3:=gB (x:=3) (cT _)<|cT _;have i1':=gB (x:=1) (cT _)<|cT _
 show {
  ew:=ew,eu:=eu,eo:=eo,hP:=hP,hQ:=hQ,nQ:=nQ,hu:=hu
  Wn:=Qb L (by (clear ew;show aS w2)) (pZ ‹_›) hs
  gD:=by clear ew;show (oM<|bN (ni hib<|oL<|nL u2)<|mI 36<|oL w2)
  eD:=eD
  gF:=bN (oL hD2) (oL i1')
  eF:=eF
  m1:=bB hD2 hF
  m2:=bB (na (nL hnF) hF) hD2
  k1:=by have:=ti L hL (a:=F*D) hDn (aS hD2)<|(oM<|bN (ni (oL m1)<|mI 99<|oL hD)<|oL hF);rw[iN _ hD0,m6 _ hD0] at this;show bP (mh hD0 (by simp+arith:F*D=F*D+0) (by simp+arith) hD0) λe1 e2=>?_;rwa[e1,e2] at this
  k2:=by have:=ti L hL (a:= -F*D) hDn (aS hD2) (bO m2 (by rw[hnF];show bB (fO 99 hD) hF));rw[iN _ hD0,m6 _ hD0] at this;show bP (mh hD0 (by simp+arith: -F*D= -F*D+0) (by simp+arith) hD0) λe1 e2=>?_;rwa[e1,e2] at this
  k3:=by have:=tM ov;have:=ti L hL (a:= -ov) hDn ((aS hD2)) (by omega);rw[iN _ hD0,m6 _ hD0] at this;show bP (mh hD0 (by simp+arith: -ov= -1*D+(D - ov)) (bR o2)<|bR o1) λe1 e2=>?_;rwa[e1,e2] at this
  k4:=by have:=tM D;have:=ti L hL (a:=ov) (b:= -D) (λK=>gX (iR K) hD0) (by omega) (by omega);show bP (FP ov hD0) λf1 f2=>bP (mh hD0 (by simp+arith: -ov= -1*D+(D - ov)) (bR o2)<|bR o1) λe1 e2=>?_;rwa[f1,f2,e1,e2,show -(D - ov)=ov - D by simp+arith] at this
  k5:=by have:=Ad L (a:=pv w<|Ex vs) (n:=w) (EK w _) ((oM<|bN (iL ew)<|BX (c4.fdiv 4999) (by decide:(0:Int)<400))) (bB (na hL hV)<|nL hp) (bB hV<|nL hp) (by erw[hp];show aS (oH w2 (fq ‹_› (by ext)):w*(V+1)<=415*41)) ((oM<|bN (iR ew)<|nO (c4.fdiv 4999) (by decide:(0:Int)<400)));rwa[hp,hd] at this
  s73:=λr=>by have:=cy.sum (r:=r) (v:=.d<|aK<|(gC (Ex vs)<|V+1).map aB) .d;rwa[hsm,hel] at this
  ln:=λr=>by have:=cy.oo (r:=r) (v:=.d<|aK<|(gC (Ex vs)<|V+1).map aB) (.l .d) (by rw[cp];show bB hV<|nL hcl);rwa[cp,hcl] at this
  nn:=iH.mpr ⟨dt<|bR<|oL hV,dt<|bR<|oZ<|V+1⟩
  s1:=λr=>by have:=cy.sum (r:=r) (v:=.d<|aK<|(cg<|V+1).map λk=>aB<|((Ex vs).count k:Nat)*2^(w*k)) (ns:=(cg<|V+1).map λk=>((Ex vs).count k:Nat)*2^(w*k)) (by erw[uX];show .d);rw[QAS w λk=>((Ex vs).count k:Int)] at this;unfold gC at hu';rwa[hu'] at this
  m3:=bB iw i3
  g3:=(bN (ni (oL i1')<|mI 3<|iR ew)<|mI 3<|nO (c4.fdiv 4999) (by decide:(0:Int)<400))
  g1:=(bN (ni (oL i1')<|iR ew)<|nO (c4.fdiv 4999) (by decide:(0:Int)<400))
  Ut:=by have:=Ad L (a:=0) (n:=w) (yF _) (by omega) (aS<|nL hz) (aS<|nL hz) (by erw[hz];simp+arith) (by omega);rwa[hz] at this
  Um:=by
   have:=Ad L (a:=2^(3*w) - 1) (n:=w) (bR hpos) (by omega) (bB hL<|nL h3) (aS<|nL h3) (by erw[h3];show (oM<|bN (mI 3<|iR ew)<|mI 3<|nO (c4.fdiv 4999) (by decide:(0:Int)<400))) (by omega);rw[h3,p3] at this
   show sb e3<|sb (by rw[Int.one_mul];rfl:(1:Int)*2^(w:Int).toNat - 1=2^w - 1)<|this}
end B01
set_option exponentiation.threshold 100000
namespace B01
theorem Za {A oth gN ds m qs xs ys:List aM} {c0 c1 c2 c3 c4 c5 w u ov one D F l sm more f0 f z Y q c den num W R rs P n:Int} {p:Bool} {K:Fl->Ls->Prop} (t:tl=[]\/tl.length=9)
 (e: ∀K,K m->cW (jf dj (.bA iZ aU)<|.aL cV cF<|.bA (.bA cw aU) rk).w bh [] o (cJ<|lC A ([c0,c1,c2,c3,c4,c5].map aB) w u ov one oth D F gN ds xs<|(12,aQ<|aB l)::vs 13 tl.tail) ([0,1,2,3].map λk=>aB k) K)
 (s: ∀r,cy r .sum [.d<|aK m]<|aB sm) (eM:one+sm=more) (L:0<=l) (g7:(ib 7:Int)*l<=134217728) (h7: ¬ (7:Int)^l.toNat=0) (n7:lO c5 (7^l.toNat)=aD) (hP: ¬ (1:Int)*2^da 4300=0) (hQ: ¬ (1:Int)*2^da 2000=0) (e0:(c5.fdiv<|7^l.toNat).fmod (1*2^da 4300)=f0) (ep:((c5+l).fmod 2==1)=p) (ef:(bif p then F - f0.fmod (1*2^da 2000) else f0)=f)
 (ez:(c4+l).fmod 4=z) (N: ∀r,cN r (.d<|aK [aB 1,aB (-1),aB 1,aB (-1)]) z<|aB Y) (i: ∀r,cN r (.d<|aK [aB 1,aB (-1),aB (-1),aB 1]) z<|aB q) (g:ib D+ib Y<=134217728) (B:D*Y=den) (Q: ∀r,cN r (.d<|aK ds) (-1)<|aB c) (m1:ib 2+ib c<=134217728) (C:ib (2*c)+ib more<=134217728) (a:ib f+ib one<=134217728) (U:ib (2*c*more+f*one)+ib u<=134217728) (m5:ib ((2*c*more+f*one)*u+ov)+ib q<=134217728) (v:((2*c*more+f*one)*u+ov)*q=num)
 (k8:o.F 8 [aB num,aB den] (bw [aB W,aB R])) (M:ib R+ib Y<=134217728) (ab:R*Y=rs) (j:ib W+ib den<=134217728) (b1:W*den+R=num) (b2: ¬ rs<0) (b3: ¬ rs>=D) (ip: ∀r,cN r (.d<|aK [aB W,aB W,aB (-1 - W),aB (-1 - W)]) z<|aB P) (H:o.F 5 [aB<|P - f,aB w] (aK qs)) (ln: ∀r,cy r .len [.d<|aK qs]<|aB n) (hx:xs.length<16777216)
 (h:fW qr (qN.map SW.w) o ys (lC A ([c0,c1,c2,c3,c4,c5].map aB) w u ov one oth D F gN ds (xs++[aB n])<|vs 12 [l,more,f,z,den,num,W,R,rs]) K):
 fW qr (qN.map SW.w) o (aB l::ys) (lC A ([c0,c1,c2,c3,c4,c5].map aB) w u ov one oth D F gN ds xs<|vs 12 tl) K:=by
 have x: ∀r,cN r (.d<|aK<|[c0,c1,c2,c3,c4,c5].map aB) 4<|aB c4:=λr=>jT rfl rfl (by decide:(6:Int)<2^63);have Z: ∀r,cN r (.d<|aK<|[c0,c1,c2,c3,c4,c5].map aB) 5<|aB c5:=λr=>jT rfl rfl (by decide:(6:Int)<2^63);subst eM;subst e0;subst ez;subst B;induction v;cases ab;induction p
 ·cases ef
  rcases t with rfl|t
  ·show ej qr qN o [.ds m,hi sm,hi c5,hi c5,.b aD,hi c4,hi Y,hi c,hi q,.d<|bw [aB W,aB R],hi Y,.b aD,.b aD,.b aD,.b aD,hi P,hl qs,hi n] (aB l) ys (lC A ([c0,c1,c2,c3,c4,c5].map aB) w u ov one oth D F gN ds xs []) K tt (by ext) e (s _) (Z _) (dt L) g7 (df h7) n7 (by ext) (by ext) (df hP) (Z _) ff ep (x _) ff (N _) g (Q _) m1 C a U (i _) m5 k8 (N _) M j (QIp.mpr b1) (df b2) (df b3) ff (ip _) H (ln _) hx h
  ·show qK (Ck t) λa1 a2 a3 a4 ag=>qK ag λa5 a6 a7 a8 ae=>bE ae λa9 ai=>?_
   subst ai;show ej qr qN o [.ds m,hi sm,hi c5,hi c5,.b aD,hi c4,hi Y,hi c,hi q,.d<|bw [aB W,aB R],hi Y,.b aD,.b aD,.b aD,.b aD,hi P,hl qs,hi n] (aB l) ys (lC A ([c0,c1,c2,c3,c4,c5].map aB) w u ov one oth D F gN ds xs<|vs 12 [a1,a2,a3,a4,a5,a6,a7,a8,a9]) K tt (by ext) e (s _) (Z _) (dt L) g7 (df h7) n7 (by ext) (by ext) (df hP) (Z _) ff ep (x _) ff (N _) g (Q _) m1 C a U (i _) m5 k8 (N _) M j (QIp.mpr b1) (df b2) (df b3) ff (ip _) H (ln _) hx h
 ·cases ef
  rcases t with rfl|t
  ·show ej qr qN o [.ds m,hi sm,hi c5,hi c5,.b aC,hi c4,hi Y,hi c,hi q,.d<|bw [aB W,aB R],hi Y,.b aD,.b aD,.b aD,.b aD,hi P,hl qs,hi n] (aB l) ys (lC A ([c0,c1,c2,c3,c4,c5].map aB) w u ov one oth D F gN ds xs []) K tt (by ext) e (s _) (Z _) (dt L) g7 (df h7) n7 (by ext) (by ext) (df hP) (Z _) ff ep (by ext) (by ext) (df hQ) (x _) ff (N _) g (Q _) m1 C a U (i _) m5 k8 (N _) M j (QIp.mpr b1) (df b2) (df b3) ff (ip _) H (ln _) hx h
  ·show qK (Ck t) λa1 a2 a3 a4 af=>qK af λa5 a6 a7 a8 aa=>bE aa λa9 ah=>?_
   subst ah;show ej qr qN o [.ds m,hi sm,hi c5,hi c5,.b aC,hi c4,hi Y,hi c,hi q,.d<|bw [aB W,aB R],hi Y,.b aD,.b aD,.b aD,.b aD,hi P,hl qs,hi n] (aB l) ys (lC A ([c0,c1,c2,c3,c4,c5].map aB) w u ov one oth D F gN ds xs<|vs 12 [a1,a2,a3,a4,a5,a6,a7,a8,a9]) K tt (by ext) e (s _) (Z _) (dt L) g7 (df h7) n7 (by ext) (by ext) (df hP) (Z _) ff ep (by ext) (by ext) (df hQ) (x _) ff (N _) g (Q _) m1 C a U (i _) m5 k8 (N _) M j (QIp.mpr b1) (df b2) (df b3) ff (ip _) H (ln _) hx h
end B01
set_option exponentiation.threshold 100000
namespace B01
theorem QAh (hl:vs'.length=4) (hs:lr vs') {w:Nat} {u ov one D F:Int} {gN ds xs:List aM} (W:w<=415) (L:l<3) (t:tl=[]\/tl.length=9) (K:List aM->Prop) (h:K ([0,1,2,3].map λk=>aB<|pv w (Ex<|vs'.eraseIdx k)*2^(w*at3 (vs'.getD k (0,0,0)) l))):
 cW (jf dj (.bA iZ aU)<|.aL cV cF<|.bA (.bA cw aU) rk).w bh [] o (cJ<|lC (vs'.map bZ) C w u ov one ([0,1,2,3].map λk=>aB<|pv w<|Ex<|vs'.eraseIdx k) D F gN ds xs<|(12,aQ<|aB l)::vs 13 tl.tail) ([0,1,2,3].map λ(k:Nat)=>aB k) K:=by
 show mi (λk s i K h=>?_) K h;have B:k<4:=m4 s;have p: ∀r,cN r (.d<|aK<|[0,1,2,3].map λk=>aB<|pv w<|Ex<|vs'.eraseIdx k) (k:Int)<|aB<|pv w<|Ex<|vs'.eraseIdx k:=λr=>ic (w:=k) (by (erw[nM];erw[(by decide: ∀k,k<4->([0,1,2,3]:List Nat)[k]?=aA k) k B]);rfl) rfl (by decide:(4:Int)<2^63);have Q: ∀r,cN r (.d<|aK<|vs'.map bZ) (k:Int)<|bZ<|vs'.getD k (0,0,0):=λr=>ic (w:=k) (by erw[nM];simp[yi,show k<vs'.length by show bB (nR hl) B]) rfl (by simp only[cp,hl];decide)
 have hv:vs'.getD k (0,0,0)∈vs':=by
  have:vs'.getD k (0,0,0)=vs'[k]:=by simp[yi,show k<vs'.length by show bB (nR hl) B]
  show sb this<|List.getElem_mem _
 show eA (hs _ hv) λc R j=>?_;have A:=IQ c R j l;have v:w*at3 (vs'.getD k (0,0,0)) l<=415*9:=oH W A;have a:=gB (x:=(w:Int)) (cT _)<|bR<|oL W;have b:=gB (x:=((at3 (vs'.getD k (0,0,0)) l:Nat):Int)) (cT _)<|bR<|oL A;have f:(vs'.eraseIdx k).length=3:=by erw[J7<|bB (nR hl) B];show (qj (sE ((aS<|nR hl):1<=vs'.length)) hl)
 have U:=xR (w:=w) (M:=27) (es:=Ex<|vs'.eraseIdx k) (λe q=>by have:=Qd (Pb hs k) e q;show (bB this (fO 9<|nL f))) (by erw[xA.2 f];decide);have aa:w*27<=415*27:=FK _ W;have Z:(ib (pv w<|Ex<|vs'.eraseIdx k):Int)+((w*at3 (vs'.getD k (0,0,0)) l:Nat):Int)<=134217728:=(bN (ni U<|oL v)<|mI 27<|oL W)
 rcases t with rfl|t
 ·show cu (.aL dj (.bA iZ aU)<|.aL cV cF<|.bA (.bA cw aU) rk) bh [] o [.b aC,hi<|pv w<|Ex<|vs'.eraseIdx k,.d<|bZ<|vs'.getD k (0,0,0),hi<|at3 (vs'.getD k (0,0,0)) l] (cJ<|lC (vs'.map bZ) C w u ov one ([0,1,2,3].map λk=>aB<|pv w<|Ex<|vs'.eraseIdx k) D F gN ds xs<|(12,aQ<|aB l)::[]) (aB k) i K rfl tt (p _) (Q _) (AI _ L) (bO (kI ‹_› ‹_›)<|by ext) (cT<|w*at3 (vs'.getD k (0,0,0)) l) Z rfl h
 ·show qK (Ck t) λa1 a2 a3 P m=>qK m λz n Y a8 H=>bE H λN g=>?_
  subst g;show cu (.aL dj (.bA iZ aU)<|.aL cV cF<|.bA (.bA cw aU) rk) bh [] o [.b aC,hi<|pv w<|Ex<|vs'.eraseIdx k,.d<|bZ<|vs'.getD k (0,0,0),hi<|at3 (vs'.getD k (0,0,0)) l] (cJ<|lC (vs'.map bZ) C w u ov one ([0,1,2,3].map λk=>aB<|pv w<|Ex<|vs'.eraseIdx k) D F gN ds xs<|(12,aQ<|aB l)::vs 13 [a2,a3,P,z,n,Y,a8,N]) (aB k) i K rfl tt (p _) (Q _) (AI _ L) (bB a b) (cT<|w*at3 (vs'.getD k (0,0,0)) l) Z rfl h
theorem UG {z:Nat} (h:z<4):(∀r,cN r (.d<|aK [aB 1,aB (-1),aB 1,aB (-1)]) (z:Int)<|aB<|sA z)/\(∀r,cN r (.d<|aK [aB 1,aB (-1),aB (-1),aB 1]) (z:Int)<|aB<|sB z)/\ ∀(q:Int) r,cN r (.d<|aK [aB q,aB q,aB (-1 - q),aB (-1 - q)]) (z:Int)<|aB<|xG z q:=by
 have k: ∀(f:Nat->Int) z,z<4->([0,1,2,3].map λz=>aB<|f z)[z]?=aA (aB<|f z):=λf z h=>by erw[nM];erw[(by decide: ∀k,k<4->([0,1,2,3])[k]?=aA k) z h];rfl
 show ⟨λr=>ic (k sA z h) rfl (by ext),λr=>ic (k sB z h) rfl (by ext),λq r=>ic (k (λz=>xG z q) z h) rfl (by decide:(4:Int)<2^63)⟩
theorem YR {c5 D F:Int} {l:Nat} (L:l<3) (H:ib F<=50000): ∃U f p,((ib 7:Int)*l<=134217728)/\(¬ (7:Int)^(l:Int).toNat=0)/\lO c5 (7^(l:Int).toNat)=aD/\(¬ (1:Int)*2^da 4300=0)/\(¬ (1:Int)*2^da 2000=0)/\(c5.fdiv<|7^(l:Int).toNat).fmod (1*2^da 4300)=U/\((c5+l).fmod 2==1)=p/\(bif p then F - U.fmod (1*2^da 2000) else U)=f/\ib f<=50001:=by
 show eE ((fw _ rfl (kq _) (by simp only[kq];show eJ _)): ∃P,(1:Int)*2^da 4300=P/\P=2^4300/\0<P) λP hP e B=>eE ((fw _ rfl (kq _) (by simp only[kq];show eJ _)): ∃Q,(1:Int)*2^da 2000=Q/\Q=2^2000/\0<Q) λQ hQ z q=>?_;have b: ∀l,l<3-> ¬ (7:Int)^l=0/\(decide ((0:Int)<7^l) && decide ((7:Int)^l<1000000000))=true:=by decide
 show sb hP<|sb hQ<|sb (by decide+kernel:ib 7=3) ?_
 have M:=BX (c5.fdiv<|7^(l:Int).toNat) B;have q1:=nO (c5.fdiv<|7^(l:Int).toNat) B;show ⟨_,_,_,by show bN (ni (oL L)<|oL L)<|oL L,(b l L).1,nl (b l L).2,by show gG ‹_›,by show gG ‹_›,rfl,rfl,rfl,?_⟩;generalize (c5.fdiv<|7^(l:Int).toNat).fmod P=U at*;cases (c5+l).fmod 2==1
 ·show bO ((j3 M).mpr (by simp only[<-e];show q1):ib U<=4300) (by ext)
 ·have q2:=BX U q
  have Y:=nO U q;have A:ib (U.fmod Q)<=2000:=(j3 q2).mpr (by simp only[<-z];show Y);have nf:=tM<|U.fmod Q;simp only[Int.sub_eq_add_neg];show HC H (by omega)
end B01
set_option exponentiation.threshold 100000
namespace B01
structure WV (vs:List V3) (p:V3) (V:Nat):Prop where
 le: ∀e∈Ex vs,e<=V
 mem:V∈Ex vs
 QW: ∀l,l<3-> ∀e∈Mx vs l,e<=V+at3 p l
 XZ: ∀l,l<3->V+at3 p l∈Mx vs l
theorem QCb (es:List Nat) {V:Nat} (v:V<=1000) (r:cU):cN r (.d<|aK<|(gC es<|V+1).map aB) (-1) (aB (es.count V:Nat)):=by
 have L:((gC es<|V+1).map aB).length=V+1:=by rw[cp,vD]
 show .seq (j:=V) (.l .d) (by erw[L];show bR<|oL v) ?_ ?_
 ·erw[L]
  dsimp only[vw];simp;simp+arith
 ·erw[nM]
  dsimp only[gC];erw[nM];erw[Je<|yN V];rfl
theorem Gj (L:Nat) (hL:310<=L) {vs':List V3} (hl:vs'.length=4) (hs:lr vs') {c0 c1 c2 c3 c4 c5:Int} {w:Nat} (Y:SK w u ov) {p:V3} (hp: ∀l,at3 p l<=9) {V:Nat} (hV:V<=36) (s:WV vs' p V) {D F:Int} {gN:List aM} (eD:pv w (Ex vs')*u=D) (ag:0<D) (hD:4201<=ib D) (B:ib D<=50000) (hF:ib F<=50000) {l:Nat} (N:l<3) {xs:List aM} (aj:xs.length<=10) {tl:List Int} (R:tl=[]\/tl.length=9):
 ∃Z,Z.length=9/\ ∀ys K,fW qr (qN.map SW.w) (aY<|L+1) ys (lC (vs'.map bZ) ([c0,c1,c2,c3,c4,c5].map aB) w u ov (pv w<|Ex vs') ([0,1,2,3].map λk=>aB<|pv w<|Ex<|vs'.eraseIdx k) D F gN ((gC (Ex vs')<|V+1).map aB) (xs++[aB (at3 p l+1:Nat)])<|vs 12 Z) K->
  fW qr (qN.map SW.w) (aY<|L+1) (aB l::ys) (lC (vs'.map bZ) ([c0,c1,c2,c3,c4,c5].map aB) w u ov (pv w<|Ex vs') ([0,1,2,3].map λk=>aB<|pv w<|Ex<|vs'.eraseIdx k) D F gN ((gC (Ex vs')<|V+1).map aB) xs<|vs 12 tl) K:=by
 have A:=xA.1 hl;have ae:=QDA hl l;have P:=hp l;have w1:=Y.w1;have W:=Y.w2;have o1:=Y.o1;have o2:=Y.o2;have U:=Y.u2;have av:=Y.u1;show Qe (YR (c5:=c5) (D:=D) N hF) λf0 f ar g7 h7 n7 hP hQ H=>?_;have e0:=H.1;have ep:=H.2.1;have ef:=H.2.2.1;have hf:=H.2.2.2;show aT (iT (c4+(l:Int)) (n:=4)<|by ext) λz hz ez=>?_;have Hq:=(UG hz);have ia:=Hq.1;have ai:=Hq.2.1;have ip:=Hq.2.2;have g:(Ex vs').count V<=73:=by erw[<-A];show Sh
 have ax:(ib (pv w<|Ex vs'):Int)<=(w*36+10:Nat):=xR (λe he=>by have:=s.le e he;show bO ‹_› ‹_›) (by erw[A];decide);have ak:w*36<=415*36:=FK _ W;have i:(ib (pv w<|Mx vs' l):Int)<=(w*45+10:Nat):=xR (λe he=>by have:=s.QW l N e he;show bB (na hV P) this) (by erw[ae];decide);have ao:w*45<=415*45:=FK _ W;have ah:ib ov<=4201:=by have:=zl (a:=ov) (b:=u) (cR ‹_›)<|cR ‹_›;show bB (nL U) this
 have t:1<=pv w (Ex vs'):=by have:=Dd (w:=w) s.mem;have:=eJ<|w*V;show lN ‹_› ‹_›
 have aa:ib (((Ex vs').count V:Nat):Int)<=60:=gB (cT _)<|bR<|oL g;have j:ib (2*(((Ex vs').count V:Nat):Int))<=60:=gB (cT _)<|bN (oL g)<|oL g
 have Q:ib (sA z)<=1:=by
  have: ∀z,z<4->ib (sA z)<=1:=by decide+kernel
  show this z hz
 have ay:ib (sB z)<=1:=by
  have: ∀z,z<4->ib (sB z)<=1:=by decide+kernel
  show this z hz
 have n2:=gB (x:=2) (cT _)<|cT _;have hq:=QAg (w:=w) (V:=V) (d:=at3 p l) w1 (aS<|nL A) (pZ ‹_›) s.le s.mem (s.QW l N)<|s.XZ l N;have ab:0<=(2*(((Ex vs').count V:Nat):Int)*pv w (Mx vs' l)) / pv w (Ex vs'):=tJ (oU (cT _)<|EK _ _)<|cR ‹_›;have eM:=Zm w vs' l;have af:=QAh (o:=aY<|L+1) hl hs (C:=[c0,c1,c2,c3,c4,c5].map aB) (w:=w) (u:=u) (ov:=ov) (one:=pv w<|Ex vs') (D:=D) (F:=F) (gN:=gN) (ds:=(gC (Ex vs')<|V+1).map aB) (xs:=xs) W N R;have il:=QCb (Ex vs') (V:=V)<|aS hV;generalize pv w (Mx vs' l)=aw at*;generalize au:(((Ex vs').count V:Nat):Int)=c at*;generalize aq:pv w (Ex vs')=one at*;have t1:=vO (2*c) aw;have t2:=vO f one;have t3:ib (2*c*aw+f*one)<=65001:=HC (m:=65000) ((oM<|bN (ni (ni (oL t1)<|oL j) i)<|mI 45<|oL W))<|(oM<|bN (ni (ni (oL t2)<|oL H.2.2.2) ax)<|mI 36<|oL W);have t4:=vO (2*c*aw+f*one) u;have t5:ib ((2*c*aw+f*one)*u+ov)<=70001:=HC (m:=70000) (bB (na (nL U) t3) t4)<|aS ah;have q1:((2*c*aw+f*one)*u+ov) / D=f+(2*c*aw) / one:=dA eD<|sb (Np (bN o1 o2) (bR o1) o2<|bR t)<|sb (Lr<|bR t) rfl
 have q2:((2*c*aw+f*one)*u+ov - 1) / D=f+(2*c*aw) / one:=sb (by simp+arith:(2*c*aw+f*one)*u+ov - 1=(2*c*aw+f*one)*u+(ov - 1))<|dA eD<|sb (Np (bN o1 o2) (bR o1) (bR o2)<|bR t)<|sb (Lr<|bR t) rfl
 show NA (V0 L hL ag hD B (aS t5) q1 q2 hz) λwh re k8 e1 e2 e3 e4 e5 e6=>?_;have wd:w*(at3 p l+1)<=415*10:=oH W<|aS P;generalize (2*c*aw) / one=q at*;have k5:=Ad L (a:=q) (n:=w) ab (aS w1) (bB (na hL P)<|nL hq) (bB P<|nL hq) (by erw[hq];show aS wd)<|aS W;have M:=wL w (fV w q) q;rw[hq] at k5 M;have nD:=vO D<|sA z;have pz:xG z wh - f=q:=r8 e4
 rw[<-pz] at k5;have ln: ∀r,cy r .len [.d<|aK<|(digs w (at3 p l+1)<|xG z wh - f).map aB]<|aB ((at3 p l+1:Nat):Int):=λr=>by have:=cy.oo (r:=r) (v:=.d<|aK<|(digs w (at3 p l+1)<|xG z wh - f).map aB) (.l .d) (by simp only[cp,pz,M];show aS P);rwa[cp,pz,M,<-pz] at this
 show (bJ _ rfl (λys K h=>Za R af (λr=>.sum (ns:=[0,1,2,3].map λk=>pv w (Ex<|vs'.eraseIdx k)*2^(w*at3 (vs'.getD k (0,0,0)) l)) (by erw[uX];show .d): ∀r,cy r .sum [.d<|aK<|[0,1,2,3].map λk=>aB<|pv w (Ex<|vs'.eraseIdx k)*2^(w*at3 (vs'.getD k (0,0,0)) l)]<|aB ([0,1,2,3].map λk=>pv w (Ex<|vs'.eraseIdx k)*2^(w*at3 (vs'.getD k (0,0,0)) l)).sum) eM.symm (cT _) g7 h7 n7 hP hQ e0 ep ef (ez:(c4+(l:Int)).fmod 4=(z:Int)) ia ai (bB B Q) rfl il (bB n2 aa) ((oM<|bN (ni (oL j) i)<|mI 45<|oL W)) ((oM<|bN (ni (oL H.2.2.2) ax)<|mI 36<|oL W)) (bB (nL U) t3) (bB ay t5) rfl k8 (bB Q e6) rfl (bB (na (na B Q) e5) nD) e1 (λK=>gX K e2) ((λw0=>(gX e3 w0))) (ip wh) k5 ln (aS aj) h))
theorem Xd (L:Nat) (i:320<=L) (hl:vs'.length=4) (hs:lr vs') (c0 c1 c2 c3 c4 c5:Int) (P: ∀l,at3 p l<=9) {V:Nat} (v:V<=36) (W:WV vs' p V):
 (aY<|L+2).F 25 [aK<|vs'.map bZ,aK<|[c0,c1,c2,c3,c4,c5].map aB] (aK<|[V+1,p.1+1,p.2.1+1,p.2.2+1].map λ(n:Nat)=>aB n):=by
 show Qe (Y4 c4 c5) λw u ov s ew eu eo hP H=>?_;have hQ:=H.1;have nQ:=H.2.1;have hu:=H.2.2;have B:=xA.1 hl;have w1:=s.w1;have Y:=s.w2;have o1:=s.o1;have o2:=s.o2;have U:=s.u2;have A:=s.u1;have aa:(ib (pv w<|Ex vs'):Int)<=(w*36+10:Nat):=xR (λe Z=>by have:=W.le e Z;show bO ‹_› ‹_›) (by erw[B];decide);have z:w*36<=415*36:=FK _ Y;have t:u<=pv w (Ex vs')*u:=by have:=oV (by have:=Dd (w:=w) W.mem;have:=eJ<|w*V;show lN ‹_› ‹_› :1<=pv w (Ex vs')) (by (clear eu;show bR A):0<=u);grind_order
 have o:4201<=ib (pv w (Ex vs')*u):=by have:=zl (by (clear eu;show bR A):0<=u) t;show bB (nR U) this
 have d:ib (pv w (Ex vs')*u)<=20000:=by have:=vO (pv w<|Ex vs') u;clear ew;show (oM<|bN (ni (ni (oL this) aa)<|oL<|nL U)<|mI 36<|oL Y)
 show bE (⟨_,rfl⟩: ∃D,pv w (Ex vs')*u=D) λD eD=>?_;rw[eD] at o d t;show bE (⟨_,rfl⟩: ∃F:Int,1*2^da (ib D) - 1=F) λF j=>?_;have f:ib F<=50000:=by simp only[kq,qD] at j;have:=eJ<|ib D;have:=(j3 (x:=F) (m:=ib D)<|bN (iL j) this).mpr<|bR<|iR j;show bB d this
 have R:=QDI (L+0) (bO (dI _ _) ‹_›) hl hs s ew eu eo hP hQ nQ hu (V:=V) v W.le W.mem eD j (by (clear eu;show bN A t)) o (bO ‹_› (dI _ _)) (Ax ‹_›) (R9 ‹_› ‹_›) (by have:=zl (a:=ov) (b:=u) (by grind_order) (by grind_order);show bB (nL U) this:ib ov<=4201);have M:w*V<=415*36:=oH Y v;have q:=gB (x:=(w:Int)) (cT _) ((bN (iR ew)<|nO (c4.fdiv 4999) (by decide:(0:Int)<400)));show aT (Gj L (aS i) hl hs s P v W (c0:=c0) (c1:=c1) (c2:=c2) (c3:=c3) (c4:=c4) (c5:=c5) (gN:=nv D F ov) eD (by omega) o (aS d) f (l:=0) (by ext) (xs:=[aB (V+1:Nat)]) (cn rfl) (tl:=[])<|.inl rfl) λN h1 g=>aT (Gj L (aS i) hl hs s P v W (c0:=c0) (c1:=c1) (c2:=c2) (c3:=c3) (c4:=c4) (c5:=c5) (gN:=nv D F ov) eD (by omega) o (aS d) f (l:=1) (by ext) (xs:=[aB (V+1:Nat)]++[aB (at3 p 0+1:Nat)]) (cn rfl) (tl:=N)<|.inr h1) λt2 c g2=>aT (Gj L ((aS i)) hl hs s P v W (c0:=c0) (c1:=c1) (c2:=c2) (c3:=c3) (c4:=c4) (c5:=c5) (gN:=nv D F ov) eD (by omega) o ((aS d)) f (l:=2) (by ext) (xs:=[aB (V+1:Nat)]++[aB (at3 p 0+1:Nat)]++[aB (at3 p 1+1:Nat)]) (cn rfl) (tl:=t2)<|.inr c) λt3 Q g3=>fu (n:=L+1) ?_ rfl
 show T4 (c0:=c0) (c1:=c1) (c2:=c2) (c3:=c3) Q R (Zz hl rfl _ λk C=>Qb L ((oM<|bN (iR ew)<|nO (c4.fdiv 4999) (by decide:(0:Int)<400))) (by erw[J7<|bB (nR hl) C];show aS<|nL hl)<|Pb hs k) (QBJ (λk C r=>jT (w:=k) (by unfold gC;(erw[nM];erw[Je C]);rfl) rfl (by rw[vD];show bR<|oL v)) (λk C=>by
  have:=gB (x:=(k:Int)) (by simp+arith)<|bN (oL v)<|oL C
  show bB q this) λk C=>by
  have:=gB (x:=(((Ex vs').count k:Nat):Int)) (by simp+arith) (by show bR<|oL (by erw[<-B];show Sh:(Ex vs').count k<=73))
  show bN (oL this)<|oL (oH Y (bB v C):w*k<=415*41)) (by simp only[cp,uZ];show aS v) λK h=>g _ K<|g2 _ K<|g3 _ K (h:K dE _)
end B01
set_option exponentiation.threshold 100000
theorem QCh (ns:List Int): ∀ks:List Nat,(ks.filterMap λk=>(ns.map aB)[k]?)=(ks.filterMap λk=>ns[k]?).map aB:=by
 intro O;induction O with
 |nil=>show rfl
 |cons k ks i=>
  show by
   show sb oK<|sb List.filterMap_cons<|sb (i)<|sb (List.getElem?_map) ?_
   cases ns[k]?<;>rfl
noncomputable def xF (ns:List Int) (k:Nat):List Int:=(ET (mM (aA (k:Int)) aE (aA 6) (ns.map aB).length).1 (mM (aA (k:Int)) aE (aA 6) (ns.map aB).length).2.1 (mM (aA (k:Int)) aE (aA 6) (ns.map aB).length).2.2).filterMap λ(k:Nat)=>ns[k]?
namespace B01
theorem QDM {ns fs:List Int} (hn:ns.length<=1000) (f:fs.length=6) {ks:List Nat} (C: ∀k∈ks,k<6) (K:List aM->Prop) (h:K (ks.map λk=>aB<|fs.getD k 0+(xF ns k).sum)):
 cW (jf bV (.bA b8 aU)<|.bi .sum [.d9 cw (aA aU) aE<|aA<|.bi .len [b8]]).w bh [] o (cJ [(0,aQ<|aK<|ns.map aB),(1,aQ<|aK<|fs.map aB)]) (ks.map λ(k:Nat)=>aB k) K:=by
 show mi (λk j x K h=>?_) K h;have Z:=C k j;have L: ∀r,cy r .len [.d<|aK<|fs.map aB]<|aB 6:=λr=>by have:=cy.oo (r:=r) (v:=.d<|aK<|fs.map aB) (.l .d) (by simp only[cp];show aS<|nL f);rwa[cp,f] at this
 have t: ∀r,fx r (.d<|aK<|ns.map aB) (.d<|aB k) (.d br) (.d<|aB 6)<|aK<|(xF ns k).map aB:=λr=>by have:=fx.lst (r:=r) (v:=.d<|aK<|ns.map aB) .d (.int (i:=(k:Int))) .none (.int (i:=6)) (by ext) (by simp only[cp];show bO ‹_› (dI _ _));unfold pJ at this;simp only[QCh] at this;show this
 show cu (.aL bV (.bA b8 aU)<|.bi .sum [.d9 cw (aA aU) aE<|aA<|.bi .len [b8]]) bh [] o [.b aC,.d<|aB<|fs.getD k 0,.d<|aB 6,.d<|aK<|(xF ns k).map aB,.d<|aB (xF ns k).sum] (cJ [(0,aQ<|aK<|ns.map aB),(1,aQ<|aK<|fs.map aB)]) (aB k) x K rfl tt ((λr=>jT (w:=k) (by simp[yi,show k<fs.length by show bB (nR f) Z]) rfl (bR<|oL<|nL f)) _) (L _) (t _) (.sum .d) rfl h
theorem Wq (L:Nat) {ns fs:List Int} (hn:ns.length<=1000) (f:fs.length=6): ∃c0 c1 c2 c3 c4 c5,(aY<|L+1).F 12 [aK<|ns.map aB,aK<|fs.map aB]<|aK<|[c0,c1,c2,c3,c4,c5].map aB:=by
 have p: ∀r,cy r .len [.d<|aK<|fs.map aB]<|aB 6:=λr=>by have:=cy.oo (r:=r) (v:=.d<|aK<|fs.map aB) (.l .d) (by rw[cp];show aS<|nL f);rwa[cp,f] at this
 let c:Nat->Int:=λk=>fs.getD k 0+(xF ns k).sum
 show ⟨c 0,c 1,c 2,c 3,c 4,c 5,fu (n:=L) (k:=2) (bs:=FT) ?_ rfl⟩;show d5 FT 2 [hi 6,.ds<|[0,1,2,3,4,5].map λk=>aB<|fs.getD k 0+(xF ns k).sum] (aY L) [aK<|ns.map aB,aK<|fs.map aB] _ rfl (p _) tt (by ext) (QDM hn f (ks:=[0,1,2,3,4,5])<|by ext) .ret
def xY (l:Ls) (d:aM):Ls:=sH dZ<|rn<|dm (cJ l) 201<|aQ d
noncomputable def nA (N C:List aM) (st:Int) (F:List aM) (r:Ls):Ls:=(0,aQ<|aK N)::(1,aQ<|aK C)::(2,aQ<|aB st)::(3,aQ<|aK F)::r
section
variable {st:Int}
variable {G:List aM}
theorem QCr (K:List aM->Prop) (h:K [aB<|(v.1:Int) - p.1,aB<|(v.2.1:Int) - p.2.1,aB<|(v.2.2:Int) - p.2.2]):cW (jf dc (.bA aU ba)<|.bA dO ba).w dZ [] o (xY (nA N C st F [(4,aQ<|aK A),(5,aQ<|bZ p),(6,aQ<|aK G)])<|bZ v) [aB (0:Nat),aB (1:Nat),aB (2:Nat)] K:=by have e: ∀l:Nat,l<3->CE (jf dc (.bA aU ba)<|.bA dO ba).w dZ [] o (xY (nA N C st F [(4,aQ<|aK A),(5,aQ<|bZ p),(6,aQ<|aK G)])<|bZ v) (aB l) (aA<|aB<|(at3 v l:Int) - at3 p l):=λl hl xs K h=>cu (.aL dc (.bA aU ba)<|.bA dO ba) dZ [] o [.b aC,hi<|at3 v l,hi<|at3 p l] (xY (nA N C st F [(4,aQ<|aK A),(5,aQ<|bZ p),(6,aQ<|aK G)])<|bZ v) (aB l) xs K rfl tt (AI v hl) (AI p hl) rfl h;show e 0 (by ext) _ _ (e 1 (by ext) _ _<|e 2 (by ext) _ _ h)
theorem QDg {vs':List V3} (K:List aM->Prop) (h:K (vs'.map λv=>aB<|dd v p)):cW (EW.bi .lZ [.aL bV (eO (.aL dc (.bA aU ba)<|.bA dO ba) dZ (.fv<|aH 3) [])<|cC [aH 0]]).w bh [] o (cJ<|nA N C st F [(4,aQ<|aK A),(5,aQ<|bZ p),(6,aQ<|aK G)]) (vs'.map bZ) K:=by show mi (λv O x K h=>?_) K h;show cu (.bi .lZ [.aL bV (eO (.aL dc (.bA aU ba)<|.bA dO ba) dZ (.fv<|aH 3) [])<|cC [aH 0]]) bh [] o [.b aC,.ds [aB<|(v.1:Int) - p.1,aB<|(v.2.1:Int) - p.2.1,aB<|(v.2.2:Int) - p.2.2],hl<|(ji v p).map aB,hi<|dd v p] (cJ<|nA N C st F [(4,aQ<|aK A),(5,aQ<|bZ p),(6,aQ<|aK G)]) (bZ v) x K rfl tt tt (by ext) QCr ((λr=>sf<|cn rfl) _) (G7 _) rfl h
theorem QCj {ns:List Nat} {T:Ls} (t:T=[(4,aQ<|aK A),(5,aQ<|bZ p),(6,aQ<|aK G),(7,aQ<|aK Z)]) (K:List aM->Prop) (h:K (ns.map λ(n:Nat)=>aB<|1+n)):cW (jf bV (aH 1) aU).w bh [] o (cJ<|nA N C st F T) (ns.map λ(n:Nat)=>aB n) K:=by
 show sb t<|mi (λn O x K h=>?_) K h
 show cu (.aL bV (aH 1) aU) bh [] o [.b aC] (cJ<|nA N C st F [(4,aQ<|aK A),(5,aQ<|bZ p),(6,aQ<|aK G),(7,aQ<|aK Z)]) (aB n) x K rfl tt rfl h
end
noncomputable def pU (V:Nat->Nat):List V3:=[0,1,2,3].map λb=>(V<|3*b,V<|3*b+1,V<|3*b+2)
noncomputable def nW (step:Nat) (V:Nat->Nat):List Dat:=(cg 12).map λk=>aB ((step*V k:Nat):Int)
section
variable {V:Nat->Nat} {step:Nat}
theorem QDO (H:1<=step) (hs:step<=5000) (hb:b<4) (K:List aM->Prop) (h:K [aB<|V<|3*b,aB<|V<|3*b+1,aB<|V<|3*b+2]):cW (jf fy (.bA cS<|.aL bV (.aL cV (aH 3) aU) ba) cF).w dZ [] o (xY (nA N C step (nW step V) [])<|aB b) [aB (0:Nat),aB (1:Nat),aB (2:Nat)] K:=by
 have e: ∀l:Nat,l<3->CE (jf fy (.bA cS<|.aL bV (.aL cV (aH 3) aU) ba) cF).w dZ [] o (xY (nA N C step (nW step V) [])<|aB b) (aB l) (aA<|aB<|V<|3*b+l):=λl L R K h=>by
  have m:ib 3+ib (b:Int)<=134217728:=by have a:=gB (x:=3) (cT _)<|cT _;have c:=gB (cT _)<|bR<|oL hb;show bO (kI ‹_› ‹_›) (by ext)
  have i: ∀r,cN r (.d<|aK<|nW step V) (3*(b:Int)+l)<|aB<|(step*V (3*b+l):Nat):=λr=>ic (by unfold nW;(erw[nM];erw[Je<|bB (na (na hb hb) hb) L]);rfl) rfl (by decide:(12:Int)<2^63);have M:((step*V (3*b+l):Nat):Int).fdiv (step:Int)=((V (3*b+l):Nat):Int):=by (erw[IL<|by assumption];show sb (QFz _<|by assumption) rfl)
  rw[<-M] at h;show cu (.aL fy (.bA cS<|.aL bV (.aL cV (aH 3) aU) ba) cF) dZ [] o [.b aC,hi<|(step*V (3*b+l):Nat)] (xY (nA N C step (nW step V) [])<|aB b) (aB l) R K rfl tt m (i _) (df λK=>gX (iL K)<|oL H) (SN<|fq ‹_› (by ext)) rfl h
 show e 0 (by ext) _ _ (e 1 (by ext) _ _<|e 2 (by ext) _ _ h)
theorem QCO (H:1<=step) (hs:step<=5000) (K:List aM->Prop) (h:K ((pU V).map bZ)):cW (eO (.aL fy (.bA cS<|.aL bV (.aL cV (aH 3) aU) ba) cF) dZ (.fv<|aH 3) []).w bh [] o (cJ<|nA N C step (nW step V) []) ([0,1,2,3].map λ(b:Nat)=>aB b) K:=by unfold pU at h;simp only[uX] at h;show mi (λb z x K h=>?_) K h;have B:b<4:=m4 z;show cu (eO (.aL fy (.bA cS<|.aL bV (.aL cV (aH 3) aU) ba) cF) dZ (.fv<|aH 3) []) bh [] o [.b aC,.ds [aB<|V<|3*b,aB<|V<|3*b+1,aB<|V<|3*b+2]] (cJ<|nA N C step (nW step V) []) (aB b) x K rfl tt tt (by ext) (QDO H hs B) rfl h
end
end B01
set_option exponentiation.threshold 100000
namespace B01
theorem O1 (h: ∀y∈x::xs,gr 8 y=aC):f9 r b9 (.d<|aK<|x::xs) (.d<|aK []) false:=.lst .d .d (tW h) rfl (.xI nofun)
theorem Z9 (h: ∀y∈xs,gr 8 y=aC):f9 r b9 (.d<|aK xs) (.d<|aK xs) true:=.lst .d .d (tW h) (tW h)<|.eqT rfl
theorem HB (ns:List Int): ∀x∈ns.map aB,gr 8 x=true:=zm ns id
theorem YD {ns:List Int} {c0 c1 c2 c3 c4 c5 P l c:Int} {step W:Nat} {V:Nat->Nat} (h0:1<=step) (hs:step<=5000) (j:pU V=vs')
 (m:o.F 12 [aK<|ns.map aB,aK [aB 11621959,aB 12361,aB 30268,aB 50521,aB 999924,aB P]] (aK<|[c0,c1,c2,c3,c4,c5].map aB)) (Z:3^da 5400=P) (e:(ib 3:Int)*5400<=134217728) (H:1+c4.fmod 4999=step) (f:o.F 19 [aK<|[c0,c1,c2,c3,c4,c5].map aB,aB step] (aK<|nW step V))
 (a:o.F 23 [aK<|vs'.map bZ,aB c3] (bZ p)) (L:o.F 25 [aK<|vs'.map bZ,aK<|[c0,c1,c2,c3,c4,c5].map aB] (aK [aB<|W+1,aB<|p.1+1,aB<|p.2.1+1,aB<|p.2.2+1])) (M: ∀r,cy r .sum [.d<|bZ p]<|aB l) (q: ∀r,cy r .sum [.d<|aK<|vs'.map λv=>aB<|dd v p]<|aB c) (B:((W+1:Nat)) - 1=l+c) (hl:(vs'.map bZ).length<=16777216):lu o 1 Dr [aK<|ns.map aB] (fI aC):=by
 have t: ∀r,f9 r b9 (.d<|bZ p) (.d<|aK []) false:=λr=>O1<|HB [p.1,p.2.1,p.2.2];have x: ∀r,f9 r b9 (.d<|aK [aB<|W+1,aB<|p.1+1,aB<|p.2.1+1,aB<|p.2.2+1]) (.d<|aK []) false:=λr=>O1<|HB [(W+1),(p.1+1),(p.2.1+1),(p.2.2+1)];have Q: ∀r,fx r (.d<|aK [aB<|W+1,aB<|p.1+1,aB<|p.2.1+1,aB<|p.2.2+1]) (.d<|aB 1) (.d br) (.d br)<|aK [aB<|p.1+1,aB<|p.2.1+1,aB<|p.2.2+1]:=λr=>by have:=fx.lst (r:=r) (v:=.d<|aK [aB<|W+1,aB<|p.1+1,aB<|p.2.1+1,aB<|p.2.2+1]) .d (.int (i:=((1:Nat)))) .none .none nofun (cn rfl);rwa[DH] at this
 have e2:[p.1,p.2.1,p.2.2].map (λ(n:Nat)=>aB<|1+n)=[aB (p.1+1:Nat),aB (p.2.1+1:Nat),aB (p.2.2+1:Nat)]:=by
  have: ∀n:Nat,1+(n:Int)=((n+1:Nat)):=λn=>by simp+arith
  simp only[dg,rJ,this]
 have u: ∀K:List aM->Prop,K [aB<|p.1+1,aB<|p.2.1+1,aB<|p.2.2+1]->cW (jf bV (aH 1) aU).w bh [] o (cJ<|nA (ns.map aB) ([c0,c1,c2,c3,c4,c5].map aB) step (nW step V) [(4,aQ<|aK<|vs'.map bZ),(5,aQ<|bZ p),(6,aQ<|aK [aB<|W+1,aB<|p.1+1,aB<|p.2.1+1,aB<|p.2.2+1]),(7,aQ<|aK<|vs'.map λv=>aB<|dd v p)]) [aB p.1,aB p.2.1,aB p.2.2] K:=λK h=>QCj (A:=vs'.map bZ) (p:=p) (ns:=[p.1,p.2.1,p.2.2]) rfl K (by erw[e2];show h);have U: ∀r,f9 r b9 (.d<|aK [aB<|p.1+1,aB<|p.2.1+1,aB<|p.2.2+1]) (.d<|aK [aB<|p.1+1,aB<|p.2.1+1,aB<|p.2.2+1]) true:=λr=>Z9<|HB [(p.1+1),(p.2.1+1),(p.2.2+1)];have z: ∀r,cN r (.d<|aK [aB<|W+1,aB<|p.1+1,aB<|p.2.1+1,aB<|p.2.2+1]) 0<|aB<|W+1:=λr=>ic (w:=0) rfl rfl (by decide:(4:Int)<2^63);subst j;generalize s:(step:Int)=st at*;subst H;have Y:=QCO (o:=o) (N:=ns.map aB) (C:=[c0,c1,c2,c3,c4,c5].map aB) (V:=V) h0 hs;have g:=QDg (o:=o) (N:=ns.map aB) (C:=[c0,c1,c2,c3,c4,c5].map aB) (F:=nW step V) (A:=(pU V).map bZ) (G:=[aB<|W+1,aB<|p.1+1,aB<|p.2.1+1,aB<|p.2.2+1]) (p:=p) (st:=step) (vs':=pU V);rw[s] at Y g;have R:=d5 Dr 1 [.d<|aK<|[c0,c1,c2,c3,c4,c5].map aB,.d<|aB c4,.d<|aK<|nW step V,.b aD,.b aD,.ds<|(pU V).map bZ,.d<|aB c3,.d<|bZ p,.d<|aK [aB (W+1:Nat),aB (p.1+1:Nat),aB (p.2.1+1:Nat),aB (p.2.2+1:Nat)],.b aD,.b aD,.b aD,.b aD,.b aD,.ds<|(pU V).map λv=>aB<|dd v p,.d<|aK [aB (p.1+1:Nat),aB (p.2.1+1:Nat),aB (p.2.2+1:Nat)],.ds [aB (p.1+1:Nat),aB (p.2.1+1:Nat),aB (p.2.2+1:Nat)],.b aC,.b aD,.d<|aB (W+1:Nat),.d<|aB l,.d<|aB c] o [aK<|ns.map aB] _ rfl (dt<|by ext) e (Z▸m) ((λr=>jT (w:=4) rfl rfl (by decide:(6:Int)<2^63): ∀r,cN r (.d<|aK<|[c0,c1,c2,c3,c4,c5].map aB) 4<|aB c4) _) ff f ((λr=>.lst .d .d (tW<|zm (cg 12) λk=>((step*V k:Nat):Int)) rfl (.xI nofun): ∀r,f9 r b9 (.d<|aK<|nW step V) (.d<|aK []) aD) _) ff tt (by ext) Y ((λr=>jT (w:=3) rfl rfl (by decide:(6:Int)<2^63): ∀r,cN r (.d<|aK<|[c0,c1,c2,c3,c4,c5].map aB) 3<|aB c3) _) a L (t _) ff (x _) ff ff hl g (Q _) (cn rfl) u (U _) tt (z _) (M _) (q _) .ret;rw[beq_iff_eq.mpr B] at R;show R
theorem QDm {ns:List Int} (hn:ns.length<=63):lu (aY 400) 1 Dr [aK<|ns.map aB] (fI aC):=by
 show bE (⟨_,rfl⟩: ∃P:Int,3^da 5400=P) λP Z=>qK (Wq 399 (ns:=ns) (fs:=[11621959,12361,30268,50521,999924,P]) (bO ‹_› (dI _ _)) rfl) λc0 c1 c2 c3 H=>lL H λc4 c5 K=>aT (iT c4 (n:=4999)<|by ext) λN f e=>aT (QEH 395 (c0:=c0) (c1:=c1) (c2:=c2) (c3:=c3) (c4:=c4) (c5:=c5) (step:=1+N)<|aS f) λV R u=>?_;have s:lr (pU V):=by intro v m;show aT (gQ.mp m) λb hb U=>?_;subst U;have B:b<4:=m4 hb;show ⟨R _<|bB (na B B) B,R _<|bB (na B B) B,R _<|bB (na B B) B⟩
 have h:(pU V).length=4:=rfl;show eE (QFu 397 (dI _ _) s c3) λp a g c=>rV (Z1 h g c) λW F A Y q=>?_;have L:=Xd 398 (by ext) h s c0 c1 c2 c3 c4 c5 (IQ g.b0 g.b1 g.b2) (by have:=Qd s W Y;assumption) ⟨A,Y,λl hl=>(q l hl).1,λl hl=>(q l hl).2⟩;have i: ∀r,cy r .sum [.d<|aK<|(pU V).map λv=>aB<|dd v p]<|aB<|jn (pU V) p:=λr=>.sum (by simp only[uX];show .d);have t:=gB (x:=3) (cT _)<|cT _;show YD (step:=1+N) (W:=W) (jb _ _) (aS f) rfl K Z (cT _) (r8 (e:c4.fmod 4999=(N:Int))) u a L (λr=>.sum (ns:=[(p.1:Int),p.2.1,p.2.2]) .d: ∀r,cy r .sum [.d<|bZ p]<|aB<|(p.1:Int)+((p.2.1:Int)+((p.2.2:Int)+0))) i (r8 F) (cn rfl)
end B01
section
theorem QBj {t:cM qB} {s:aV} {P:aV->Prop} (z:s.asleep)
 (h:iG (bH p w) ⟨yW "claim.caller" {},aE,aE,[],aE⟩ t (λgJ O F=>gJ=Fin.done (tF bG)/\F.gens= #[]/\P F) (λO O O=>False) d s):
 ∃N n g,N.gens= #[]/\P N/\E6 (lS E4) p w n (uc s ⟨t,yW "claim.caller" {},d,[]⟩)=SRun.running (uc N g)/\through g=true:=by
 have U:=(wp_iff_halts t (λr F=>r=.ok (tF bG)/\F.gens= #[]/\P F) d s).mp
  (J8 _ _ _ (λgJ Q F q=>by
   clear z;obtain ⟨rfl,x,q⟩:=q
   show ⟨⟨rfl,x,q⟩,by rw[show QIJ F.gens=aD from by rw[x];simp -iota [QIJ]]⟩) (λO O O q=>q.elim) _ _ h)
 show fh U λn r F u o x K=>?_;subst o;show eE (runNI_real (lS E4) p w u<|outcomeOf_ends _) λi R f C=>?_;clear h U u;obtain rfl:=Shared.eq_of_forget_eq f x;show qF (Wf n _ _ R) λk H Y a b=>bP (QDs b) λc e=>?_;clear R f b;subst e;show (om _ k Y x K (ZZ k _ _ z C a) c)
theorem wX {E:aO->cA->aV->Prop}: ∀l p s,
 iG M Γ (hJ l env) (λf P n=>f=Flow.next/\iG M Γ (hJ r env) Q E P n) E p s->iG M Γ (hJ (l++r) env) Q E p s:=by
 intro O;induction O with
 |nil=>show λp s h=>by dsimp only[QIK,FL] at h;show h.2
 |cons N l i=>
  show λp s h=>by
   simp! only[Si,rM] at h
   rw[wB,Si,rM];show J8 _ _ _ (λf P n q=>?_) (λO O O q=>q) _ _ h;induction f with
   |next=>show i P n q
   |_=>dsimp only[FL] at q;show QIe q.1 (by intro z;trivial)
end
namespace B01
noncomputable def IP:List bk->BT->Nat->Bool
 |[],_,_=>aC
 |o::r,t,n=>((t.ins n o).get n).isSome && IP r (t.ins n o) (n+1)
theorem QEI: ∀l t n,IP l t n=aC->(∀i,i<n->(tV t n l).get i=t.get i)/\ ∀j (o:bk),l[j]?=aA o->(tV t n l).get (n+j)=aA o:=by
 intro O;induction O with
 |nil=>show λt n O=>⟨λO O=>rfl,λj o h=>by simp -iota at h⟩
 |cons o r d=>
  show λt n h=>by
   show bP (iH.mp h) λA H=>bP (d (t.ins n o) (n+1) H) λa b=>?_;have g:=BT.get_ins o t n A;show ⟨λi M=>?_,λj o' s=>?_⟩
   ·show (?_)
    show sb (a i<|yO ‹_›)<|sb (g i)<|sb (if_neg<|Nat.ne_of_lt ‹_›) rfl
   ·show (?_)
    induction j with
    |zero=>
     show sb (a n<|yN _)<|sb (g n)<|sb (if_pos rfl) ?_
     simpa -iota using s
    |succ j=>simp! only[show n+(j+1)=n+1+j by simp+arith];show b j o' (by simpa -iota using s)
theorem okX (P:cH) (X:Nat->bk):IP (Xs X) (uy P) 131=true:=by lia
theorem T8 {X:Nat->bk} (e:h=rI (uy P) 131 {}) (hs:h'.objs.size=170) (s: ∀b,b<131->h'.objs[b]?=h.objs[b]?) (hl:h'.life=h.life) (x: ∀j,j<39->h'.objs[131+j]?=aA (X<|131+j)):
 h'=rI (tV (uy P) 131<|Xs X) 170 {}:=by
 show bP (QEI _ _ _<|okX P X) λt g2=>?_
 have o:h'.objs=(rI (tV (uy P) 131<|Xs X) 170 {}).objs:=by
  apply Array.ext_getElem?;intro i;rw[J9];by_cases A:i<131
  ·rw[s i A,e,J9,if_pos A,if_pos (by show bO ‹_› (dI _ _)),t i A]
  ·by_cases H:i<170
   ·obtain ⟨j,rfl⟩: ∃j,i=131+j:=⟨i - 131,by show (xg (sE ((aS<|fJ A):131<=i)).symm)⟩
    have g:j<39:=aS H
    show sb (QIg H)<|sb (x j g)<|sb (g2 j (X<|131+j) (by unfold Xs;rw[List.getElem?_map,List.getElem?_range g];rfl)) ?_
    rfl
   ·rw[if_neg H]
    show Array.getElem?_eq_none<|bB (nL hs)<|fJ H
 have f:h'.life={}:=by simp! only[hl,e];rfl
 obtain ⟨a,b⟩:=h';have:b={}:=f;show sb this<|congrArg (Heap.mk · {}) o
end B01
namespace B01
noncomputable def WG:Around:={handled:=aE,depth:=1000,frames:=aE,guards:=aE,units:=1000}
theorem ZF:Γ1.In WG:=by
 show (DD rfl ?_ ?_ ?_ ?_)
 ·decide+kernel
 ·intro l h
  show bM h
 ·intro l h
  show bM h
 ·decide+kernel
theorem Y3:BK pg=sl 0 17++(sl 17 1++(sl 18 1++([wR]++(sl 20 6++(sl 26 1++sl 27 16))))):=by lia
theorem S7:wR=lR [bf "b3_exceptions" ⟨141,0,141,13⟩] (wD AS zh zI) ⟨141,0,141,8704⟩:=by lia
theorem QEt: ∀(l:List (Int×hM)) (a:Int),Bx a l=aC-> ∀x∈l,a<x.1:=by
 intro O;induction O with
 |nil=>show λO O x h=>by trivial
 |cons O r d=>
  obtain ⟨k,y⟩:=O
  show λa h x M=>by
   show bP (iH.mp h) λH i=>?_;have H:=QIm H;rcases dR.mp M with rfl|M
   ·show H
   ·have:=d k i x M
    show SD ‹_› ‹_›
theorem QEa: ∀(l:List (Int×hM)) (a:Int),Bx a l=aC->(l.map (·.1)).Nodup:=by
 intro O;induction O with
 |nil=>show λO O=>QGz
 |cons O r i=>obtain ⟨k,y⟩:=O;show λa h=>by show bP (iH.mp h) λA H=>?_;rw[dg,RG];show ⟨λm=>?_,i k H⟩;show aT (gQ.mp m) λx M e=>?_;have:=QEt r k H x M;simp only[e] at this;show QIe this (Int.lt_irrefl _)
theorem YE {h:bq} (e:h.get? b=aA (gW l n)):h.objs.getD b default=gW l n:=by
 unfold yC at e;rw[Jf];revert e;generalize h.objs[b]?=x;intro e;induction x with
 |none=>show bM e
 |some o=>show (?_);obtain ⟨z,A,p,a⟩:=o;cases p<;>first|show bM e|show Option.some.inj e
theorem QFG {w:dF} (z:s.heap.objs.size=131) (hl:l.length=650) (N:(l.map (·.1)).Nodup):
 aZ (bH prog w) A (Rp<|kG p l) (λv F=> ∃h' es,v=aG 131/\F={s with heap:=h',toks:=s.toks+1950}/\h'.objs.size=170/\(∀b,b<131->h'.objs[b]?=s.heap.objs[b]?)/\h'.life=s.heap.life/\fF l es/\h'.get? 131=aA (gW es es.length)) (λO O=>False) s:=by
 show Td (n:=37) (aS<|nR z) (by assumption) N (by (erw[hl];erw[BL]);decide) λh' G=>?_;show aT G.tab λes e d=>?_;rw[z] at d⊢;show (AG h' es rfl rfl (by (erw[G.size];show sb z rfl)) (λb B=>G.same b (by simp only[z];show B)) G.life e d)
theorem WO {w:dF} {vs:List p9} (i:(Rx ks env).zip ((Ry vs env).map λv=>do let x<-v;uU p;pure x)=kG p l) (z:s.heap.objs.size=131) (hl:l.length=650) (n:(l.map (·.1)).Nodup):
 aZ (bH prog w) A (dH (wD ks vs p) env) (λv F=> ∃h' es,v=aG 131/\F={s with heap:=h',toks:=s.toks+1950}/\h'.objs.size=170/\(∀b,b<131->h'.objs[b]?=s.heap.objs[b]?)/\h'.life=s.heap.life/\fF l es/\h'.get? 131=aA (gW es es.length)) (λO O=>False) s:=by
 simp only[arm_eval_Dict,i];show bD<|kK<|QFG z hl n
theorem AR {w:dF} (z:Γ.In A) {p q q2 pos:cA} {vs:List p9} (i:(Rx ks env).zip ((Ry vs env).map λv=>do let x<-v;uU p;pure x)=kG p l) (Z:s.heap.objs.size=131) (hl:l.length=650) (n:(l.map (·.1)).Nodup)
 {E:aO->cA->aV->Prop} (u:nK [bf nm q] (wD ks vs p) pos.line env=pure aD) (H:tE [bf nm q] (wD ks vs p) env=pure aE)
 (h: ∀P h' es,h'.objs.size=170->(∀b,b<131->h'.objs[b]?=s.heap.objs[b]?)->h'.life=s.heap.life->fF l es->h'.get? 131=aA (gW es es.length)->
  iG (bH prog w) Γ (do uU q;BC env nm (aG 131);pure Flow.next) Q E P {s with heap:=h',toks:=s.toks+1950}):iG (bH prog w) Γ (rE (lR [bf nm q] (wD ks vs p) pos) env) Q E q2 s:=by
 rw[RM,u,H,rM];show (Sem.wp_cmd_standAt ..).mpr ?_;rw[rM,FL,if_neg (by ext),rM];show J8 _ _ _ (λv P F q=>?_) (λO O O q=>q.elim) _ _<|WO i Z hl n Γ _ z;show NA q λh' es B o a b c d e=>sb B<|sb o<|h P h' es a b c d e
end B01
namespace B01
theorem NG (w:dF):(nK [bf "b3_exceptions" ⟨141,0,141,13⟩] (wD AS zh zI) (⟨141,0,141,8704⟩:cA).line jg=pure aD)/\(tE [bf "b3_exceptions" ⟨141,0,141,13⟩] (wD AS zh zI) jg=pure aE):=⟨rfl,rfl⟩
theorem QCD (w:dF) (os:fz) (p:cA) {E:aO->cA->aV->Prop}
 (h: ∀X,mF X->Q Flow.next ⟨141,0,141,13⟩ (CR w.params X os).abs):iG (bH pg w) Γ1 (rE wR jg) Q E p (tR w.params os).abs:=by
 have z:(tR w.params os).abs.heap.objs.size=131:=Ra _ _ _;erw[S7]
 with_reducible show AR ZF QFb z VL (QEa _ _ QDW) (NG w).1 (NG w).2 ?_
 intro C h' c A s l v d
 have M: ∀j,j<39->h'.objs[131+j]?=aA ((λb=>h'.objs.getD b default)<|131+j):=λj g=>by
  show (?_:_=aA (h'.objs.getD (131+j) default));show sb (Jf)<|sb (Array.getElem?_eq_getElem<|bB (nR A) g) ?_
  rfl
 have e:=T8 (P:=w.params) (h:=(tR w.params os).abs.heap) (h':=h') (X:=λb=>h'.objs.getD b default) rfl A s l M;have x:mF (λb=>h'.objs.getD b default):=(bJ c v<|YE d);generalize (λb=>h'.objs.getD b default)=X at*;erw[e];have n:({(tR w.params os).abs with heap:=rI (tV (uy w.params) 131<|Xs X) 170 {},toks:=(tR w.params os).abs.toks+1950}:aV)=(QO w.params X os).abs:=by lia
 erw[n];have q:=h X x;have K:=(Kv 1000).1 _ _ _ _ _ _ (pD w X os C) Q E q;rw[<-KA] at K;unfold QIL
 with_reducible show K
end B01
namespace B01
section
variable {den:Code->cM qB} {pr:uQ} {w:dF}
theorem rh {k:Nat} {α:Type} {m:cM α} {a:α} (e:ie den pr w.params k α Γ p P m=aA (.ok a,C,s')) (hs:s=P.abs) {Q:α->cA->aV->Prop} {E:aO->cA->aV->Prop} (h:Q a C s'.abs):iG ⟨den,pr,w⟩ Γ m Q E p s:=hs▸(Kv k).1 _ _ _ _ _ _ e _ _ h
theorem QAq {env:eB} {m:PySem.Module} {P:aV->Prop} {i l a:jJ} {c:aO}
 (M:ie den pr w.params 1000 aO Γ0 default i (Ru m)=aA (.ok c,default,l)) (hs:s=i.abs)
 (N:ie den pr w.params 1000 aP Γ0 default l (Rv c nN nN)=aA (.ok f,default,a))
 (e:env={scope:=m.scope,locals:=nN,globals:=nN,cells:=[],code:=c,frame:=aA f})
 (hd:den (yd body env)=(do Rw body env;return Fin.done (<-(hJ body env).onRaise (leaving env))))
 (B:ie den pr w.params 1000 Unit (Γ0.enter (yd body env) aE default) default a (Rw body env)=aA (.ok (),default,a))
 (v:iG ⟨den,pr,w⟩ (Γ0.enter (yd body env) aE default) (hJ body env) (λfl O n=>P n) (λO O O=>False) default a.abs):
 iG ⟨den,pr,w⟩ Γ0 (do let code<-Ru m;let frame<-Rv code nN nN;let _<-run (yd body {scope:=m.scope,locals:=nN,globals:=nN,cells:=[],code,frame:=aA frame});ret bG) (λgJ O n=>gJ=Fin.done (tF bG)/\P n) (λO O O=>False) default s:=by
 rw[rM];show rh M hs ?_;rw[rM];show rh N rfl ?_;rw[<-e,rM];unfold PySem.run;rw[Sem.wp_call,QHI];show (?_:iG _ (Γ0.enter (yd body env) aE default) (den<|yd body env) _ _ _ _);rw[hd,rM];show rh B rfl ?_;rw[rM,Sem.wp_onRaise];show J8 _ _ _ (λfl p n q=>?_) (λO O O q=>q.elim) _ _ v;rw[FL];show ⟨rfl,q⟩
theorem QFs {M:Ctx} {env:eB} {l L U n F q:List eT} {st:eT} {r p f p3 a p5 u R:cA} {c i j s:jJ} {o:(Nat->bk)->Prop} {t z v g:(Nat->bk)->jJ} {Y C e K N n7:Nat} {P:aV->Prop}
 (A:ie den pr w.params Y jI M r c (hJ l env)=aA (.ok Flow.next,p,i)) (h:ie den pr w.params C jI M p i (hJ L env)=aA (.ok Flow.next,f,j)) (H:ie den pr w.params e jI M f j (hJ U env)=aA (.ok Flow.next,p3,s))
 (hd: ∀Q,(∀X,o X->Q Flow.next a (t X).abs)->iG ⟨den,pr,w⟩ M (rE st env) Q (λO O O=>False) p3 s.abs)
 (d: ∀X,ie den pr w.params K jI M a (t X) (hJ n env)=aA (.ok Flow.next,p5,z X)) (b: ∀X,ie den pr w.params N jI M p5 (z X) (hJ F env)=aA (.ok Flow.next,u,v X)) (B: ∀X,ie den pr w.params n7 jI M u (v X) (hJ q env)=aA (.ok Flow.next,R,g X))
 (hP: ∀X,o X->P (g X).abs):iG ⟨den,pr,w⟩ M (hJ (l++(L++(U++([st]++(n++(F++q)))))) env) (λO O W=>P W) (λO O O=>False) r c.abs:=by
 show wX _ _ _<|rh A rfl ⟨rfl,?_⟩;show wX _ _ _<|rh h rfl ⟨rfl,?_⟩;show wX _ _ _<|rh H rfl ⟨rfl,?_⟩;show wX _ _ _ ?_
 simp! only[Si,rM]
 show hd _ λX x=>(?_);rw[QIK,FL];show ⟨rfl,?_⟩;show wX _ _ _<|rh (d X) rfl ⟨rfl,?_⟩;show wX _ _ _<|rh (b X) rfl ⟨rfl,?_⟩;show rh (B X) rfl (hP X x)
end
def zk (P:cH) (os:fz):Shared:=⟨rI (vS P) 28 {}, #[],{},276,os⟩
def Hb (P:cH) (os:fz) (s:aV):Prop:=s.gens= #[]/\ ∃X,mF X/\s=(xQ P X os).abs
theorem Xc (w:dF) (os:fz) (X:Nat->bk) (x:mF X):Hb w.params os (xQ w.params X os).abs:=⟨rfl,X,x,rfl⟩
theorem QDa (w:dF) (os:fz) (p:cA) (Q:jI->cA->aV->Prop)
 (h: ∀X,mF X->Q Flow.next ⟨141,0,141,13⟩ (CR w.params X os).abs):iG ⟨lS mX,pg,w⟩ Γ1 (rE wR jg) Q (λO O O=>False) p (tR w.params os).abs:=by
 erw[<-KA];have key:iG (bH pg w) Γ1 (rE wR jg) Q (λO O O=>False) p (tR w.params os).abs:=by with_reducible show QCD w os p h
 unfold QIL at key
 with_reducible show key
theorem Wo (w:dF) (os:fz):iG ⟨lS mX,pg,w⟩ Γ1 (hJ (BK pg) jg) (λO O s=>Hb w.params os s) (λO O O=>False) default (zz w.params os).abs:=by
 erw[Y3]
 with_reducible show QFs (pA w os) (pB w os) (pC w os) (QDa w os _) (λX=>pE w X os) (λX=>pF w X os) (λX=>pG w X os)<|Xc w os
theorem Sv (w:dF) (os:fz):iG ⟨lS mX,pg,w⟩ Γ0 (topStub pg).cur (λgJ O s=>gJ=Fin.done (tF bG)/\Hb w.params os s) (λO O O=>False) default (zk w.params os):=QAq (pM w os) rfl (pN w os) rfl rfl (pK w os) (Wo w os)
end B01
namespace B01
def qv:Program:={pg with main:={pg.main with body:=[bz 43]}}
def oe:List hM:=pg.boundNames.filter λn=> !(n== "law")
def jA (P:cH) (X:Nat->bk) (os:fz):Shared:=(xQ P X os).abs
def IE:List hM:=importedModules pg.main.body
section
variable (P:cH) (X:Nat->bk) (os:fz)
include P X os
theorem c1:seen ((recsOf qv).map (·.name)) (ownsOf qv) [] {jA P X os with gens:= #[]}=expectedOf qv:=by lia
theorem c2:(jA P X os).heap.bltView=bltViewBooted:=by lia
theorem c3:((jA P X os).heap.keysOk (KC qv oe) ((recsOf qv).map (·.name)) ((litsOf qv).map (·.1))<|(clssOf qv<|KC qv oe).map (·.name))=true:=by lia
theorem c4:(jA P X os).heap.accountedOkI IE=true:=by lia
theorem c5:((jA P X os).heap.isNs pj && (jA P X os).heap.isNs js && tablesOk qv (jA P X os).heap && aC && ((jA P X os).gens.size==0))=true:=by lia
theorem c6:tabsOk qv (jA P X os)=true:=by lia
theorem c7:pinSeenD qv (drecsOf qv) (jA P X os)=pinGoodD (drecsOf qv):=by lia
theorem c8:plainSeenE qv (KC qv oe) (jA P X os)=plainGoodE qv (KC qv oe):=by lia
theorem c9:plainSeenD qv oe (jA P X os)=plainGoodD qv oe:=by lia
theorem Ws:wideSeen qv (jA P X os)=wideGood qv:=by lia
theorem Yg:clsSeenW qv oe (jA P X os)=clsGoodW qv oe:=by lia
theorem d1:staticsOk IE (zk P os).heap (jA P X os).heap=true:=by lia
theorem d2:namesBound pg (jA P X os).heap=true:=by lia
theorem Ou:gensDone (jA P X os)=true:=by lia
theorem d4:laidKept (zk P os).heap (jA P X os).heap=true:=by lia
end
theorem d6:chainsOk qv=true:=by lia
end B01
namespace B01
def YP (w:dF) (h:bq):Prop:= ∃X,mF X/\ ∀b o,(rI (f7 w.params X) 412 {}).get? b=aA o->h.get? b=aA o
def Lf:(hM->Option aO)->bq->Prop:=λO O=>True
theorem QEi (P:cH) (X:Nat->bk):(cg 28).map (λb=>if b==2||b==3 then none else (vS P).get b)=(List.range 28).map (λb=>if b==2||b==3 then none else (f7 P X).get b):=by lia
theorem QBX (P:cH) (X:Nat->bk) (b:aP) (o:bk) (h:(rI (vS P) 28 {}).get? b=aA o) (N:b≠2) (n:b≠3):(rI (f7 P X) 412 {}).get? b=aA o:=by
 have B:b<28:=by have:=mP h;rwa[Ra] at this
 have e:=QHR.mp (QEi P X) b<|EZ.mpr B;simp only[beq_iff_eq,N,n,yU,or_self,if_false,Sd,decide_false] at e;unfold yC at h⊢;rw[J9,if_pos B] at h;rw[J9,if_pos (oC B (by ext):b<412)];show dA (by simpa[N,n] using e:(vS P).get b=(f7 P X).get b)<|h
theorem WU (P:cH) (X:Nat->bk) (os:fz):openSeen qv oe IE (λO=>aC) aC (jA P X os)=openGood qv oe:=by delta openSeen openGood;simp only[c1,c2,c3,c4,c6,c7,c8,c9,Ws,Yg];have:=c5 P X os;simp only[gb] at this⊢;show bP this λQ e=>bP Q λq d=>?_;have H:=q.1;have c:=q.2;have a:=H.1;have b:=H.2;simp only[a,b,c,(e:(jA P X os).gens.size==0),Et,if_true,Bool.and_self]
theorem Pm (w:dF):(∃s,AfterRun (opening pg) w s)/\ ∀s,AfterRun (opening pg) w s-> ∃F,fenceModules? pg s=aA F/\F.gens= #[]/\ ∃N,TopRan pg w F N/\N.asleep/\N.gens= #[]/\N.heap.isNs pj=aC/\
 Ground qv oe [] Lf w N (N.heap.nsMap pj) (N.heap.nsMap js) N.heap/\YP w N.heap/\N.toks=2878:=by
 show aT (nE.mp<|pO w) λF h e=>?_;rw[<-KA] at h;show aT (BJ.mp h) λs H v=>?_;have A:=AfterImport.of_importEnds H;show ⟨⟨s,A⟩,λi hs'=>?_⟩;obtain rfl:i=s:=AfterImport.unique hs' A;have z:F.asleep:=Ro (fence_lifeW v) A.life;obtain ⟨os,rfl⟩: ∃os,F=zk w.params os:=by obtain ⟨a,g,d,t,os⟩:=F;show ⟨os,?_⟩;simp only[ua] at e;clear hs' H A h v z;obtain ⟨rfl,rfl,rfl,rfl⟩:=e;rfl
 have wp:=Sv w os;rw[<-KA] at wp;show fh (QBj (p:=pg) (w:=w) (t:=(topStub pg).cur) (s:=zk w.params os) (P:=λi=> ∃X,mF X/\i=(xQ w.params X os).abs) z wp) λN n Y x Q r j=>aT Q λX M U=>?_;clear hs' H A h wp x Q;subst U;show Fd (ground_of_open (w:=w) (XP:=Lf) (λO O=>trivial) d6<|WU w.params X os) λG g0 g1 g2 g3 W K=>⟨_,v,rfl,(xQ w.params X os).abs,⟨(eS n Y r j),rfl,Shared.rest_eq rfl,λb o hb hn=>?_,g2,statics_of_ok<|d1 w.params X os,g3,W,K,gens_of_done<|Ou w.params X os,names_of_bound<|d2 w.params X os,laid_of_kept<|d4 w.params X os⟩,Ro rfl z,rfl,g1,G,(bJ X M λO O e=>e),rfl⟩;show QBX w.params X b o hb (λq=>hn<|.inr<|.inl q) λq=>hn<|.inl q
end B01
namespace B01
noncomputable abbrev ot:OpenLaw:=QIM
theorem lb {a b:Bool} (x:a=aC) (y:b=aC):(a && b)=true:=by rw[x,y];rfl
noncomputable abbrev pgR:Program:=ot.row.prog
theorem loA:sreFenced pgR.main=true:=by lia
theorem loB:((moduleNames pgR.main.body).isEmpty || lookedIntoSs (moduleNames pgR.main.body) pgR.main.body)=true:=by lia
theorem loC:namesResolve pgR=true:=by lia
theorem loD:(pgR.boundNames.all fun n=>!worldNames.contains n)=true:=by lia
theorem loU:readsOut pgR pgR.main.body "vars"=false:=by lia
theorem loV:readsOut pgR pgR.main.body "dir"=false:=by lia
theorem loW:readsOut pgR pgR.main.body "locals"=false:=by lia
theorem loX:noRoadLSs {strict:=!(importedModules pgR.main.body).all cThrough.contains,foot:=none,bare:=[]} pgR.main.body=true:=by lia
theorem loY {a b c:Str} {f:Str->Bool} (h:f a=false) (g:f b=false) (k:f c=false):[a,b,c].filter f=[]:=by simp [h,g,k]
theorem loZ {s:Bool} {B:List Str} {b:List Stmt} (e:B=[]) (h:noRoadLSs {strict:=s,foot:=none,bare:=[]} b=true):noRoadLSs {strict:=s,foot:=none,bare:=B} b=true:=by subst e;exact h
theorem loF:(namesMeet pgR pgR.main.body fun O n=>attrL n)=true:=by lia
theorem VW:looksOpen pgR=true:=lb (lb (lb (lb (lb loA loB) loC) loD) (loZ (loY loU loV loW) loX)) loF
theorem ps1:ot.row.partSaid=true:=by
 unfold OpenRow.partSaid
 iterate 13 show lb ?_ (by lia)
 show VW
theorem Po:ot.row.wellSaid=true:=by
 unfold OpenRow.wellSaid
 iterate 2 show lb ?_ (by lia)
 show ps1
theorem Yf:ot.wellSaid=true:=by
 unfold OpenLaw.wellSaid
 iterate 18 show lb ?_ (by lia)
 show Po
theorem holds_of_row (h:ot.row.Holds):QIM.Holds:=⟨Yf,h⟩
end B01
theorem WZ (h:WShape.hasAll R args [WShape.list WShape.int]=aC): ∃ns:List Int,args=[wH<|yj<|ns.map yk]:=by show cI (hasAllW_cons h) λd r B A H=>sb B ?_;clear h B;obtain rfl:=hasAllW_nil H;show aT (hasW_list A) λxs e Q=>sb e<|bE (items_int Q) λns e=>sb e<|⟨ns,by rw[<-ofPys_ints];rfl⟩
theorem QEA {i:Int} (x:Well P h v (FN i)): ∃t,v=bS i t:=by cases x;show ⟨_,rfl⟩
theorem QEs {X:aP->Prop} (ns:List Int): ∀vs:List aO,FO P h vs (ns.map FN)->bU X h vs (ns.map aB):=by
 induction ns with
 |nil=>
  intro vs w;induction vs with
  |nil=>show .nil
  |cons v vs=>show nomatch w
 |cons n ns i=>intro vs w;show cI (QIN w) λv vs' B a b=>sb B<|bE (QEA a) λt e=>sb e<| .cons (.int _ _)<|i _ b
theorem QDl (x:Well P h v (Sj xs)): ∃a vs o,v=aG a/\h.get? a=aA o/\o=listOf vs.toArray 0/\FO P h vs xs:=by cases x with|list e r=>show (om _ _ _ rfl e rfl r)
theorem QFY {X:aP->Prop} {ns:List Int} {vs:List aO} (w:FO P h vs [wH<|yj<|ns.map yk]) (nx: ∀a o,h.get? a=aA o->o.cls≠bG-> ¬ X a):bU X h vs [aK<|ns.map aB]:=by
 show cI (QIN w) λv R B a b=>sb B ?_;have a:Well P h v (Sj<|ofPys<|ns.map yk):=a;rw[ofPys_ints] at a;show fh (QDl a) λA u o K e f r=>sb K ?_;subst f;clear B;induction R with
 |nil=>show .cons (.lst (n:=0) e (nx _ _ e λq=>Value.noConfusion q)<|QEs ns _ r) .nil
 |cons v vs=>show nomatch b
namespace B01
def gJ (P:cH) (X:Nat->bk):Heap:=rI (f7 P X) 412 {}
noncomputable def oY:Obj:={cls:=bG,data:=eY #[]}
theorem xt {X:Nat->bk} (h:a<412) (g:(f7 P X).get a=aA o) (al:alive o=aA o'):(gJ P X).get? a=aA o':=(Jd h g).trans al
section
variable (P:cH) (X:Nat->bk)
include P X
theorem Bu:(gJ P X).get? 58=aA oY:=xt (by ext) (by lia:(f7 P X).get 58=aA oY) (by lia)
theorem DI:(gJ P X).get? 86=aA oY:=xt (by ext) (by lia:(f7 P X).get 86=aA oY) (by lia)
theorem Bm:(gJ P X).get? 93=aA oY:=xt (by ext) (by lia:(f7 P X).get 93=aA oY) (by lia)
theorem QAw:(gJ P X).get? 62=aA (ob 62 P):=xt (by ext) (by lia:(f7 P X).get 62=aA (ob 62 P)) (by lia)
theorem Q_:(gJ P X).get? 90=aA (ob 90 P):=xt (by ext) (by lia:(f7 P X).get 90=aA (ob 90 P)) (by lia)
theorem W7:(gJ P X).get? 97=aA (ob 97 P):=xt (by ext) (by lia:(f7 P X).get 97=aA (ob 97 P)) (by lia)
end
theorem PC (e:eR f=aA cf):cf=Co\/cf=DZ\/cf=yy:=by
 show aT (nE.mp e) λp u B=>dA B ?_;have h:=uv _ _ _ u;simp only[vj,dR,i5,or_false,ua] at h;clear e u B;rcases h with ⟨-,rfl⟩|⟨-,rfl⟩|⟨-,rfl⟩
 ·show .inl rfl
 ·show .inr<|.inl rfl
 ·show .inr<|.inr rfl
theorem zy (h:(jM eR kE).PF a):a=58\/a=86\/a=93:=by
 show dU h λf c e o=>sb o ?_;clear h o;rcases PC e with rfl|rfl|rfl
 ·show .inl rfl
 ·show .inr<|.inl rfl
 ·show .inr<|.inr rfl
def OJ:aO->Bool|.str .. =>aC|_=>aD
def Hj:aO->Bool|.int .. =>aC|_=>aD
def MB:aO->Bool|.bool .. =>aC|_=>aD
theorem Yq (h:OJ v=aC): ∃f t,v=cP f t:=by cases v<;>first|show (mz _ _ rfl)|(show dP h)
theorem O3 (h:Hj v=aC): ∃f t,v=bS f t:=by cases v<;>first|show (mz _ _ rfl)|(show dP h)
theorem Ya (h:MB v=aC): ∃f,v=dD f:=by cases v<;>first|show ⟨_,rfl⟩|(show dP h)
theorem Gw {X:aP->Prop} {vs:Array aO} (z:h.get? cf.own=aA o) (hd:o.data=eY vs) (C:o.cls=bp "code") (F:vs.getD 11 bG=aG cf.tab) (c:vs[11]?=aA (aG cf.tab)) (Q:OJ (vs.getD 18 bG)=aC)
 (B:Hj (vs.getD 7 bG)=aC) (m:MB (vs.getD 9 bG)=aC) (H:Hj (vs.getD 10 bG)=aC) (a:h.get? cf.tab=aA oY) (n:cf.own≠cf.tab) (nx: ¬ X cf.own):qq cf X h:=by
 show lL (Yq Q) λf t Q=>lL (O3 B) λK A B=>bE (Ya m) λb m=>lL (O3 H) λx i H=>.mk (ps:= #[]) nx ⟨o,vs,f,t,K,A,b,x,i,oY,z,hd,F,Q,B,m,H,a,rfl,trivial,n⟩ ⟨(iX o vs z C hd c),a⟩<|.inl rfl
theorem Lx {X:Nat->bk} (B: ∀b o,(gJ P X).get? b=aA o->h.get? b=aA o):(jM eR kE).Inv (jM eR kE).PF h:=by
 intro f cf e;have n: ∀a,a≠58->a≠86->a≠93-> ¬ (jM eR kE).PF a:=λa A i H q=>by rcases zy q with q|q|q<;>trivial
 rcases PC e with rfl|rfl|rfl
 ·show Gw (cf:=Co) (B _ _<|QAw P X) (vs:=mL<|ob 62 P) (by lia) (by lia) (by lia) (by lia) (by lia) (by lia) (by lia) (by lia) (B _ _<|Bu P X) (by ext) (n 62 (by ext) (by ext)<|by ext)
 ·show Gw (cf:=DZ) (B _ _<|Q_ P X) (vs:=mL<|ob 90 P) (by lia) (by lia) (by lia) (by lia) (by lia) (by lia) (by lia) (by lia) (B _ _<|DI P X) (by ext) (n 90 (by ext) (by ext)<|by ext)
 ·show Gw (cf:=yy) (B _ _<|W7 P X) (vs:=mL<|ob 97 P) (by lia) (by lia) (by lia) (by lia) (by lia) (by lia) (by lia) (by lia) (B _ _<|Bm P X) (by ext) (n 97 (by ext) (by ext)<|by ext)
end B01
namespace B01
abbrev rR:RowW:=ot.row.toRowW
theorem Md:rR.promised:=(bJ [Sj [FN 3,FN 1]] (by decide+kernel)<|by decide+kernel)
theorem Y6:opensWell pg=true:=by lia
theorem I_:pg.bare:=(Yr rfl rfl rfl rfl rfl (by decide+kernel))
theorem nZ:frees rR=true:=by lia
theorem Ym: ∃d K,defOf qv "law" =aA (d,K)/\pg.theDef "law" =aA (d.params,d.body,d.scope)/\kwWritten? d.params.kwonlyargs d.params.kw_defaults=aA K:=(d0 _ _ rfl rfl rfl)
def QFq (vs:List aO):cM qB:=do match<-nsGet nN "law" with
 |some f=>do ret (<-QIO f vs)
 |none=>unsupported "claim.caller:no-such-global"
theorem QU (i:(jM eR kE).Inv Y s) (hf:eR f=aA cf):isCodeTable s cf.tab/\ ∃ps,s.get? cf.tab=aA {cls:=bG,data:=eY ps}:=by obtain ⟨n,L,t0,_⟩:=i f cf hf;show ⟨t0.isCodeTable,_,t0.2⟩
theorem QFm {X:Nat->bk} (base: ∀b o,(gJ P X).get? b=aA o->s.get? b=aA o) (k: ∀b o,s.get? b=aA o-> ¬ (jM eR kE).PF b->h'.get? b=aA o) (i:(jM eR kE).Inv (jM eR kE).PF h'):OldK s h':=by
 have key: ∀b o,s.get? b=aA o->(jM eR kE).PF b->(isCodeTable s b/\o=oY/\ ∃ps,h'.get? b=aA {cls:=bG,data:=eY ps}):=by
  rintro b o e ⟨f,cf,hf,rfl⟩
  show ⟨(QU (Lx (P:=P) (X:=X) base) hf).1,?_,(QU i hf).2⟩
  have hb:s.get? cf.tab=aA oY:=by
   rcases zy (eS f cf hf rfl) with q|q|q
   ·show sb q<|base _ _<|Bu P X
   ·show sb q<|base _ _<|DI P X
   ·show sb q<|base _ _<|Bm P X
  rw[hb] at e;show (kj e).symm
 show ⟨λb o e=>?_,λb o e=>?_⟩
 ·by_cases p:(jM eR kE).PF b
  ·obtain ⟨a1,rfl,ps,a3⟩:=key b o e p
   show .inr (.inl ⟨a1,rfl, #[],ps,rfl,by erw[a3];simp[oY]⟩)
  ·show .inl<|k b o e p
 ·by_cases p:(jM eR kE).PF b
  ·obtain ⟨a1,rfl,ps,a3⟩:=key b o e p
   show ⟨_,a3⟩
  ·show ⟨o,k b o e p⟩
theorem A_ (args:List WData):rR.claim.post args (QIP aC) args=true:=by lia
theorem VJ {w:dF} {X:Nat->bk} (hX:mF X) {ns:List Int} (hl:ns.length<=63) {vs:List aO} (base: ∀b o,(gJ w.params X).get? b=aA o->s.heap.get? b=aA o)
 (ht:1<=s.toks) (hg:s.gens= #[]) (hw:FO w.params s.heap vs [wH<|yj<|ns.map yk]) (cl:hM->Option aP) (mean:ExcName->Option aO):
 aZ (bH pg w) callerA (QIO (aG 411) vs) (λv s'=>GoodWG rR.claim cl mean [wH<|yj<|ns.map yk] s (.ok<|tF v) s') (λe s'=>GoodWG rR.claim cl mean [wH<|yj<|ns.map yk] s (.error e) s') s:=by
 have ok:=UE (w:=w) hX 401;show uu (ok.1.F 26 _ _<|fu (QDm hl) rfl) λnm a o fd k1 k2 O O hc=>?_;obtain rfl:a=411:=by have k1:aA ("law" :aN)=aA nm:=k1;cases k1;cases bt ((j4 (w:=w) (X:=X) "law").trans (by lia:_=aA (aG 411))) (k2:mg w X "law" =aA (aG a));rfl
 have pfG: ∀b o,(D w X 401).G.get? b=aA o-> ¬ (D w X 401).P.PF b:=λb o e p=>by have q:=QFO e;rcases zy p with rfl|rfl|rfl<;>show absurd q (by decide+kernel)
 show hc (X:=(jM eR kE).PF) ⟨(⟨rfl,by show (?_:1+claimMargin+401<=900);decide,by show (?_:4+10*401+300<=9900);decide⟩:jD (D w X 401).n callerA),ht,λb o e=>base b o<|Nr e,pfG,λb p=>?_,λO p=>p,Lx base⟩ (QFY hw ?_) λu s' ct rd=>?_
 ·rcases zy p with rfl|rfl|rfl
  ·show ⟨_,base _ _<|Bu _ X⟩
  ·show ⟨_,base _ _<|DI _ X⟩
  ·show ⟨_,base _ _<|Bm _ X⟩
 ·intro a o e hc p
  rcases zy p with rfl|rfl|rfl
  ·obtain rfl:=bt (base _ _<|Bu _ X) e
   show hc rfl
  ·obtain rfl:=bt (base _ _<|DI _ X) e
   show hc rfl
  ·obtain rfl:=bt (base _ _<|Bm _ X) e
   show hc rfl
 ·obtain rfl:=rd.bool_inv
  show sb ct.e<|⟨.inl<|Hg _ (.bool true) [] rfl (λO=>rfl) (ReadsW.bool _) (A_ _) (λO=>⟨.nil,λO ha=>nomatch ha⟩),QFm (X:=X) base (λb o e p=>ct.keep b o e id p) ct.inv,rfl,.of_eq hg⟩
theorem Vs (w:dF) (X:Nat->bk):mg w X "law" =aA (aG 411):=(j4 (w:=w) (X:=X) "law").trans (by lia)
theorem QFF {ns:List Int} (h:ot.pre.holds R {args:=[wH<|yj<|ns.map yk]}=aC):ns.length<=63:=by
 have e:ot.pre=WTm.and (WTm.not<|WTm.lt (WTm.lit<|FN (63:Nat))<|WTm.len<|WTm.arg 0) (WTm.lit<|QIP aC):=rfl;rw[e] at h;show fJ λq=>?_
 have l: ∀r:List PyData,(ofPys r).length=r.length:=by
  intro r;induction r with
  |nil=>rfl
  |cons x r i=>simp[ofPys,i]
 have d:decide ((63:Int)<(ns.length:Int))=true:=by simp;show (bR<|oL q)
 simp[WTm.holds,WTm.value,wH,l,less?,Num.less?,d] at h
theorem QCs {vs:List aO} (w:FO P h vs [wH<|yj d]): ∃a,vs=[aG a]:=by
 cases w with
 |cons a b=>cases b;cases a;show ⟨_,rfl⟩
theorem rowHolds:ot.row.Holds:=by
 show wZ (frees_parts nZ) λf hu ha Y hm=>(DD Po Md ⟨I_,Y6,rfl⟩ Md.witness λw=>⟨(Pm w).1,λs' hs'=>?_⟩);show eE ((Pm w).2 s' hs') λF hf j h=>NB h λs hT hz Z hg G0 hY U=>aT hY λX hX base=>?_;clear h hY;show ⟨F,hf,j,s,hT,λn hn=>?_,(by intro x C;show nomatch C),(by intro x C;show nomatch C),?_⟩
 ·show cI Ym λd aa e1 e2 e3=>?_
  obtain rfl:n= "law" :=by
   have:n∈(if ot.row.pinned then [ot.row.name] else []):=hn
   split at this
   ·show oW.mp this
   ·clear hn
    show nomatch this
  show pinned_of_view hg G0 e1 e2 e3
 ·show ClaimW.callFrom_of_specG (c:=rR.claim) (tree:=QFq) hz Z λargs p M ord m=>bE (q8.mp<|layAllW_isSome (R:=rR.claim.records) (cl:=classAt s.heap) (P:=w.params) (ord:=ord) (by intro c hc;show dP hc) args rR.args s (Sk p).1) λQ l=>?_
  obtain ⟨vs,N⟩:=Q;have keeps:=layAllW_keeps _ _ _ l;have A:=layAllW_rest _ _ _ l;show eE (reads_layAllW m _ _ _ l M N.heap λO O e=>e) λas K i hold=>?_;have L:Laid rR.claim.records w s N args vs as:=⟨(bJ ord m l),K,i,hold,keeps,A.1.trans Z,A.2.2.1⟩;show bE (WZ (Sk p).1) λns H=>?_;clear M K;subst H;have hi:=ident_freeW (r:=rR) hu ha Y;have B: ∀b o,(gJ w.params X).get? b=aA o->N.heap.get? b=aA o:=λb o e=>keeps b o<|base b o e;have u:N.heap.Ns nN (mg w X):=og.g.keeps λb o e=>B b o<|Nr e;have t:1<=N.toks:=(QCs L.well).elim λa e=>bO (by ext)<|PySem.W.X.script_toks (e▸L) U
  show (eS vs N l ?_);show bD<|wpAny_nsGet u ?_;rw[Vs];show bD<|iy (VJ hX (QFF (Sk p).2) B t L.gens L.well (classAt s.heap)<|ExcName.means s.heap) (λv s' g=>bQ ?_) λe s' g=>?_
  ·have z:=g.laid (c:=rR.claim) f rfl hi L
   show (KU _ rfl z.1 z.2.1 z.2.2 (by intro q;show nomatch q))
  ·have z:=g.laid (c:=rR.claim) f rfl hi L
   show (mA z.1 z.2.1 z.2.2 (by intro q;show nomatch q))
end B01
end Mine
end
theorem PySem.Challenge.cw_wf0123_01_holds : PySem.Challenge.rw_wf0123_01.Holds :=
 Mine.B01.holds_of_row Mine.B01.rowHolds
