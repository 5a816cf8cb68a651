import PyProof.Rows.All
import Wide.All
import OpenK.AllK
import Wide.FinOn
import Open.Tops
import Lean
import PySem.Challenge.RW_uc0054_01
set_option Elab.async false
set_option linter.all false
set_option genSizeOf false
set_option backward.eqns.nonrecursive false
set_option backward.eqns.deepRecursiveSplit false
set_option bootstrap.genMatcherCode false
set_option tactic.hygienic false
open Array renaming ext_getElem?->mD,getElem?_eq_none->BO,getElem?_modify->eZ,getElem?_push->jl,length_toList->gI,mk->YL,size_push->gj
open Bool renaming and_eq_true->au,and_true->nx,eq_false_imp_eq_true->mR,eq_iff_iff->lG,false_and->mE,false_eq_true->bx,false_ne_true->aB,false_or->zz,not_eq_true'->fv,or_eq_true->fy,or_eq_true_iff->jm,true_and->kW
open Eq renaming symm->dN,trans->bp
open False renaming elim->mF
open ForInStep renaming yield->bP
open Function renaming comp_def->iJ
open HAdd renaming hAdd->BG
open Int renaming add_comm->UH,add_emod->UI,add_le_add->eF,add_mul->g8,add_mul_ediv_right->BV,add_nonneg->gO,add_one_le_of_lt->gq,ediv_lt_of_lt_mul->cR,ediv_nonneg->eR,emod_lt_of_pos->dk,emod_nonneg->dI,eq_ofNat_of_zero_le->dW,fdiv_eq_ediv_of_nonneg->bN,fmod_eq_emod_of_nonneg->bA,fmod_lt_of_pos->cJ,fmod_nonneg_of_pos->bQ,le_antisymm->lI,le_ediv_of_mul_le->DA,le_of_eq->UJ,le_of_lt->aF,le_of_sub_one_lt->iU,le_refl->g9,le_trans->gr,lt_of_add_one_le->Fe,lt_of_lt_of_le->r7,lt_of_not_ge->uz,lt_of_toNat_lt->HP,lt_trans->ou,max_eq_right->MR,min_eq_left->P7,mul_add->nk,mul_assoc->fL,mul_comm->bR,mul_ediv_add_emod->cq,mul_emod->UK,mul_fdiv_add_fmod->kG,mul_le_mul_of_nonneg_left->we,mul_le_mul_of_nonneg_right->bl,mul_lt_mul_of_pos_right->fG,mul_nonneg->gP,mul_pos->wg,natAbs->Xv,natAbs_add_le->Mz,natAbs_mul->qc,natCast_emod->MS,natCast_mul->pg,natCast_nonneg->aX,natCast_pow->wu,ne_of_gt->cH,neg_mul->Xd,neg_one_mul->lJ,not_lt->HQ,not_lt_of_ge->MT,not_ofNat_neg->jZ,ofNat->gQ,ofNat_le->eG,ofNat_lt->fh,one_mul->iV,one_nonneg->Rt,pow_pos->Xe,pow_succ->tH,sub_mul->lg,toNat_le->tI,toNat_natCast->bK,toNat_of_nonneg->qO,zero_add->BW,zero_le_ofNat->MA
open Int.ofNat renaming inj->Uo
open List renaming all_cons->jx,all_eq_true->aq,append_assoc->tK,append_nil->ik,cons_append->da,contains_eq_mem->iW,contains_iff_mem->pL,drop_drop->dJ,drop_eq_getElem_cons->dF,drop_length->oe,drop_nil->Uq,drop_sublist->MB,drop_take->xV,drop_zero->Rv,eq_nil_of_length_eq_zero->dD,eq_of_mem_replicate->zD,filter->Xf,filterMap_cons_some->zE,filter_append->r8,filter_cons->MU,filter_eq_nil_iff->ow,flatMap_cons->tM,forIn_cons->P9,getElem?_append_left->cM,getElem?_append_right->bG,getElem?_cons_succ->bE,getElem?_cons_zero->bo,getElem?_eq_getElem->gx,getElem?_eq_none_iff->cj,getElem?_eq_some_iff->aQ,getElem?_map->nq,getElem?_set_ne->ez,getElem?_set_self->fI,getElem_drop->MC,getElem_idxOf->HR,getElem_map->uA,getElem_mem->MV,getElem_of_mem->qP,getElem_range->mG,getElem_take->tN,isEmpty_eq_false_iff->zx,isEmpty_iff->dx,length->dp,length_append->cK,length_cons->bu,length_drop->bB,length_map->aY,length_nil->gk,length_pos_of_mem->BX,length_range->eH,length_replicate->pM,length_set->lK,length_singleton->pN,length_take->br,lookup_cons->fa,lookup_cons_self->pO,map->YN,map_append->ed,map_congr_left->jn,map_cons->bI,map_drop->zF,map_map->fi,map_reverse->uB,map_set->UL,map_take->nz,mem_append->dw,mem_append_left->fo,mem_append_right->kH,mem_cons->aS,mem_cons_of_mem->ax,mem_cons_self->aH,mem_filter->Qa,mem_iff_getElem->Ff,mem_map->dZ,mem_map_of_mem->HI,mem_of_elem_eq_true->dQ,mem_of_getElem?->aW,mem_of_mem_drop->gu,mem_of_mem_take->iX,mem_range->aT,mem_reverse->uC,mem_singleton->bS,nil_append->jC,nodup_append->MD,nodup_cons->eT,nodup_nil->Rw,not_mem_nil->dy,of_mem_zip->Qb,pairwise_append->Fg,pairwise_cons->fO,pairwise_iff_getElem->mS,pairwise_map->nr,range'->gZ,range'_succ->uv,range->aG,range_eq_range'->E7,range_succ->Qc,range_succ_eq_map->j0,replicate->bw,replicate_succ->HJ,singleton_append->DB,size_toArray->eJ,take_add->zG,take_append_drop->fR,take_length->kP,take_of_length_le->fJ,take_sublist->tO,take_succ_eq_append_getElem->eK,take_zero->qd,zip_cons_cons->mH,zip_nil_right->HS
open List.Pairwise renaming nil->tJ
open List.cons renaming inj->Up
open Nat renaming add_assoc->zH,add_comm->tP,add_le_add->iY,add_lt_add->Rx,add_lt_add_right->Fh,add_mul->Xg,add_right_cancel->iZ,add_sub_of_le->tQ,add_sub_self_left->DC,add_zero->UM,ble->ME,blt->BY,blt_eq->Xw,div_add_mod->wz,eq_of_testBit_eq->Fi,eq_sub_of_add_eq'->Dy,le_add_left->Qd,le_add_right->ja,le_add_right_of_le->ox,le_mul_self->Qe,le_of_add_right_le->oy,le_of_ble_eq_true->dT,le_of_eq->tR,le_of_lt->cm,le_of_not_lt->gR,le_of_succ_le->gv,le_refl->aV,le_succ->nu,le_succ_of_le->j4,le_trans->aP,log2_lt->i0,lt_irrefl->zI,lt_of_le_of_lt->ia,lt_of_lt_of_eq->et,lt_of_lt_of_le->be,lt_of_not_le->MW,lt_of_sub_eq_succ->DE,lt_of_succ_le->nv,lt_of_succ_lt_succ->oA,lt_or_ge->tS,lt_succ_self->og,lt_trans->BZ,lt_trichotomy->MF,min_eq_left->fz,mul_assoc->rY,mul_comm->UN,mul_le_mul_right->Fj,mul_succ->B2,mul_two->Fk,ne_of_beq_eq_false->aE,ne_of_gt->oB,ne_of_lt->jb,not_le->jE,not_lt->i5,not_lt_zero->jD,pow_add->qe,pow_le_pow_right->i6,pow_succ->B6,sub_eq_iff_eq_add->kK,sub_self->oC,sub_zero->UO,succ_add_eq_add_succ->dS,succ_inj->tT,succ_le_of_lt->tU,succ_le_succ->MX,succ_lt_succ_iff->qf,succ_ne_zero->oh,testBit_and->Qf,testBit_mul_two_pow->BH,two_pow_pos->ph,zero_add->B8,zero_le->bz,zero_lt_succ->MY
open Nat.ToInt renaming of_le->wy
open Nat.succ renaming inj->B7
open Ne renaming symm->ib
open Option renaming bind_assoc->MG,bind_eq_bind->aj,bind_eq_some_iff->bF,bind_some->af,isNone_iff_eq_none->d7,isSome_iff_exists->gy,isSome_some->HT,join_some->uD,map_eq_some_iff->dg,map_none->Qg,map_some->aK,none->Fm,pure_def->aJ
open Option.some renaming inj->ay,injEq->bL
open Or renaming elim->ak
open PUnit renaming unit->r9
open Prod renaming ext->YQ
open Prod.mk renaming injEq->gz
open Pure renaming pure->gS
open PyProof renaming noPylong_of_log2->nA
open PyProof.Rows renaming AllBare->wb,IntsAre->Ru,assign_Name->zJ,callWith_type->dX,is_none_gen->M6,isnot_none_gen->zy
open PySem renaming Addr->az,Arguments->cZ,Around->cP,BoolOp->MQ,Call_method0->xP,Call_method1->xQ,CmpOp->kF,Comprehension->wc,Const->wd,DefRec->iL,DictEntry->cG,Env->fZ,Flow->kO,FuncData->xT,GenState->xU,Heap->bk,NameKind->dz,Obj->hC,Operator->cV,OsState->dA,Params->il,Pos->eO,Program->fA,Protocol->Ry,Result->M0,Scope->cQ,Seg->BI,Sem->jA,Shared->ao,Stmt->bC,Str->bj,Tok->nZ,UnaryOp->ue,Value->aw,World->cW,annTrees->YR,argBest->DF,assign->lj,assignEach->Fp,assignInOrder->HW,backTo->YS,behindInMarks->pP,binaryOp->xX,bindL->RA,bindName->Fq,bootBuiltins->M3,builtinsNs->ma,cLine->YT,call_list_range->Yb,cellsFrom->dO,codeAny->M4,compareOp->eM,constantsAlone->oj,dictDisplay->RC,eval->fe,evalPart_none_step->UR,exec->sf,execs->fw,foldedForSure->pQ,foldedSetIterable->jg,holding->ie,importedModules->Yc,inplaceOp->n6,intBits_fdiv_le->Yd,intBits_le_iff->e8,intKind->M5,interactive->tV,isCodeTable->BJ,isTrue->mT,letOwnedTupleGo->gJ,loadName->RD,mainGlobals->d8,mem_of_lookup_some->om,model->aL,newFunctionEnv->YU,noteFrame->MH,notedBy->DG,numAt->l8,numAt_eq->RE,nums_intItems->HZ,operate->Xi,partValue->Xy,placesWithHash->tW,pushCells_keeps->Ye,pyIter->tX,pyNext->tY,rawInt->zL,recursionLimit->YV,relabel->pj,seg_Expr_Yield->Fs,seg_again->MJ,seg_bind_wrap->fB,seg_execs_cons->ip,seqIndex?->Xz,sizeLine->mJ,sizeLine_eq->RF,sliceMade->zM,slicePicked->tZ,slot_gen_next->ZD,standAt->jF,starEach->xY,storeName->zN,strIterType->RH,subDict->M7,swappedStores->H3,swapsWith->XA,theTreesLotGoes->rZ,treeTable->fM,truthy->US,typeIs_int->UT,wpAny->aM,wpAny_Assign_Subscript->M8,wpAny_Assign_stores->uF,wpAny_BinOp->BL,wpAny_Call_NameR->dE,wpAny_Compare1->YW,wpAny_Constant_int->UU,wpAny_Constant_str->oo,wpAny_Expr_any->Ft,wpAny_If->YX,wpAny_Name->UW,wpAny_Return_some->lk,wpAny_Subscript_str_slice->oD,wpAny_UnaryOp->ZE,wpAny_bind->bg,wpAny_bindName->YY,wpAny_call->UX,wpAny_execs_cons->cS,wpAny_execs_nil->kq,wpAny_getItem_list->UY,wpAny_holding->gc,wpAny_isTrue_BoolOp->Us,wpAny_isTrue_value->UZ,wpAny_items_cons->XB,wpAny_items_nil->Yg,wpAny_loadName_cell->Ut,wpAny_loadName_free->Uu,wpAny_loadName_local->RI,wpAny_mono->aA,wpAny_newObj_type->xZ,wpAny_pure->du,wpAny_standAt->eA,wpAny_tests_nil->Cb,wpAny_truthy_bool->pk,wpAny_with_toks->bY
open PySem.Builtin renaming bitAnd->E8,bitOr->HN,bitXor->YM
open PySem.Builtin.Int renaming intBits->ag
open PySem.Builtin.Range renaming rangeFitsLong->Dz,rangeSize->fK,small->nj
open PySem.Builtin.Str renaming occurrences->qb,strSliceIndices->ny,strSub->wm,tooLong->uw
open PySem.Calls renaming Name_function_global->E9,callWith_builtin->k9,callWith_function->kE,docDef->HY,evalArgs_plain->dH,spliced_cons->dP,spliced_nil->e7
open PySem.Data.fields renaming elim->zA
open PySem.Data.func renaming elim->Fb
open PySem.Env renaming kindOf->iM
open PySem.Expr renaming Name->zC
open PySem.Expr.Attribute renaming elim->ux
open PySem.Expr.BinOp renaming elim->BP
open PySem.Expr.BoolOp renaming elim->zB
open PySem.Expr.Call renaming elim->Fc
open PySem.Expr.Compare renaming elim->xR
open PySem.Expr.Constant renaming elim->wo
open PySem.Expr.IfExp renaming elim->BQ
open PySem.Expr.List renaming elim->Fd
open PySem.Expr.ListComp renaming elim->wt
open PySem.Expr.Name renaming elim->tE
open PySem.Expr.Slice renaming elim->BR
open PySem.Expr.Subscript renaming elim->uy
open PySem.Expr.Tuple renaming elim->BS
open PySem.Expr.UnaryOp renaming elim->xS
open PySem.Expr.Yield renaming elim->BU
open PySem.Flow renaming next->Xu
open PySem.GenOnly renaming setGen->tF
open PySem.GenOnlyQ renaming bare->ZA
open PySem.Heap renaming SameBut->lb,get?_push_of_some->cC,get?_push_size->bV,get?_update_ne->Un,get?_update_self->P6,lt_size->gN,mk->ud,size_push->tG
open PySem.Heap.SameBut renaming update->fN
open PySem.IsL renaming isList->MZ,update->wx
open PySem.MeetsSeq renaming EqGives->l9
open PySem.NameKind renaming cell->wh,free->dq
open PySem.Obj renaming mapDictKeys->eB,mapSeq->wA
open PySem.Sem renaming bind_eq_wrap'->Xc,bind_eq_wrap->Xx,onRaise_eq_wrap->Ur,wrap_wrap->wi
open PySem.Shared renaming setGen->mh
open PySem.Spec renaming lookup->Rz
open PySem.Stmt.Assign renaming elim->qg
open PySem.Stmt.AugAssign renaming elim->uE
open PySem.Stmt.Break renaming elim->B9
open PySem.Stmt.Expr renaming elim->Fn
open PySem.Stmt.For renaming elim->HU
open PySem.Stmt.FunctionDef renaming elim->se
open PySem.Stmt.If renaming elim->M2
open PySem.Stmt.Return renaming elim->zK
open PySem.Stmt.While renaming elim->Ca
open PySem.Str renaming join->xW,ofString->qQ
open PySem.StrLaws renaming At->UP,glued_eq_join->Qh,partsFrom->Xh,strSub_toList->Qi
open PySem.Value renaming builtin->HV,int->cy,isInt->jB,none->UQ
open PySem.Value.ref renaming elim->Fo
open PySem.W renaming CodeHd->HO,Ground->Rr,SharedT->sd,absHeap->kM,behindTheImports->qR,boot_drawn->HX,boot_heap->mI,boot_toks->Ql,deadEnd->RB,restOf->H0,tabObj->sg,topRun->nC
open PySem.W.Fast renaming te14364793385576792824->jy,te15667345088766844465->jz
open PySem.W.WShape renaming hasItems->ZC
open PySem.W.WTm renaming holds->Qj
open PySem.World renaming withFollow_self->Qk
open String.Pos.Raw renaming mk_le_mk->oi
open True renaming intro->fc
namespace Mine.Internal
theorem aN{R H:Prop}{P:Prop}(h:R/\H)(k:R->H->P):P:=k h.1 h.2
theorem aI{A:Sort _}{R:A->Prop}{P:Prop}(h:∃a1,R a1)(k:∀a1,R a1->P):P:=h.elim λa1 h=>k a1 h
theorem eY{R H w:Prop}{P:Prop}(h:R/\H/\w)(k:R->H->w->P):P:=k h.1 h.2.1 h.2.2
theorem aC{A:Sort _}{R H:A->Prop}{P:Prop}(h:∃a1,R a1/\H a1)(k:∀a1,R a1->H a1->P):P:=h.elim λa1 h=>k a1 h.1 h.2
theorem ej{A B:Sort _}{R:A->B->Prop}{P:Prop}(h:∃a1 a2,R a1 a2)(k:∀a1 a2,R a1 a2->P):P:=h.elim λa1 h=>h.elim λa2 h=>k a1 a2 h
theorem Aw{R H w G:Prop}{P:Prop}(h:R/\H/\w/\G)(k:R->H->w->G->P):P:=k h.1 h.2.1 h.2.2.1 h.2.2.2
theorem gB{A:Sort _}{R H w:A->Prop}{P:Prop}(h:∃a1,R a1/\H a1/\w a1)(k:∀a1,R a1->H a1->w a1->P):P:=h.elim λa1 h=>k a1 h.1 h.2.1 h.2.2
theorem eb{A B:Sort _}{R H:A->B->Prop}{P:Prop}(h:∃a1 a2,R a1 a2/\H a1 a2)(k:∀a1 a2,R a1 a2->H a1 a2->P):P:=h.elim λa1 h=>h.elim λa2 h=>k a1 a2 h.1 h.2
theorem rj{R H w G W:Prop}{P:Prop}(h:R/\H/\w/\G/\W)(k:R->H->w->G->W->P):P:=k h.1 h.2.1 h.2.2.1 h.2.2.2.1 h.2.2.2.2
theorem D7{A:Sort _}{R H w G:A->Prop}{P:Prop}(h:∃a1,R a1/\H a1/\w a1/\G a1)(k:∀a1,R a1->H a1->w a1->G a1->P):P:=h.elim λa1 h=>k a1 h.1 h.2.1 h.2.2.1 h.2.2.2
theorem cX{A B:Sort _}{R H w:A->B->Prop}{P:Prop}(h:∃a1 a2,R a1 a2/\H a1 a2/\w a1 a2)(k:∀a1 a2,R a1 a2->H a1 a2->w a1 a2->P):P:=h.elim λa1 h=>h.elim λa2 h=>k a1 a2 h.1 h.2.1 h.2.2
theorem m6{A B C:Sort _}{R H:A->B->C->Prop}{P:Prop}(h:∃a1 a2 a3,R a1 a2 a3/\H a1 a2 a3)(k:∀a1 a2 a3,R a1 a2 a3->H a1 a2 a3->P):P:=h.elim λa1 h=>h.elim λa2 h=>h.elim λa3 h=>k a1 a2 a3 h.1 h.2
theorem JG{A B C D:Sort _}{R:A->B->C->D->Prop}{P:Prop}(h:∃a1 a2 a3 a4,R a1 a2 a3 a4)(k:∀a1 a2 a3 a4,R a1 a2 a3 a4->P):P:=h.elim λa1 h=>h.elim λa2 h=>h.elim λa3 h=>h.elim λa4 h=>k a1 a2 a3 a4 h
theorem QM{R H w G W l:Prop}{P:Prop}(h:R/\H/\w/\G/\W/\l)(k:R->H->w->G->W->l->P):P:=k h.1 h.2.1 h.2.2.1 h.2.2.2.1 h.2.2.2.2.1 h.2.2.2.2.2
theorem s9{A B:Sort _}{R H w G:A->B->Prop}{P:Prop}(h:∃a1 a2,R a1 a2/\H a1 a2/\w a1 a2/\G a1 a2)(k:∀a1 a2,R a1 a2->H a1 a2->w a1 a2->G a1 a2->P):P:=h.elim λa1 h=>h.elim λa2 h=>k a1 a2 h.1 h.2.1 h.2.2.1 h.2.2.2
theorem kB{A B C:Sort _}{R H w:A->B->C->Prop}{P:Prop}(h:∃a1 a2 a3,R a1 a2 a3/\H a1 a2 a3/\w a1 a2 a3)(k:∀a1 a2 a3,R a1 a2 a3->H a1 a2 a3->w a1 a2 a3->P):P:=h.elim λa1 h=>h.elim λa2 h=>h.elim λa3 h=>k a1 a2 a3 h.1 h.2.1 h.2.2
theorem oR{A B C D:Sort _}{R H:A->B->C->D->Prop}{P:Prop}(h:∃a1 a2 a3 a4,R a1 a2 a3 a4/\H a1 a2 a3 a4)(k:∀a1 a2 a3 a4,R a1 a2 a3 a4->H a1 a2 a3 a4->P):P:=h.elim λa1 h=>h.elim λa2 h=>h.elim λa3 h=>h.elim λa4 h=>k a1 a2 a3 a4 h.1 h.2
theorem JF{A B C:Sort _}{R H w G:A->B->C->Prop}{P:Prop}(h:∃a1 a2 a3,R a1 a2 a3/\H a1 a2 a3/\w a1 a2 a3/\G a1 a2 a3)(k:∀a1 a2 a3,R a1 a2 a3->H a1 a2 a3->w a1 a2 a3->G a1 a2 a3->P):P:=h.elim λa1 h=>h.elim λa2 h=>h.elim λa3 h=>k a1 a2 a3 h.1 h.2.1 h.2.2.1 h.2.2.2
theorem oS{A B C D:Sort _}{R H w:A->B->C->D->Prop}{P:Prop}(h:∃a1 a2 a3 a4,R a1 a2 a3 a4/\H a1 a2 a3 a4/\w a1 a2 a3 a4)(k:∀a1 a2 a3 a4,R a1 a2 a3 a4->H a1 a2 a3 a4->w a1 a2 a3 a4->P):P:=h.elim λa1 h=>h.elim λa2 h=>h.elim λa3 h=>h.elim λa4 h=>k a1 a2 a3 a4 h.1 h.2.1 h.2.2
theorem Vv{R H w G W l F D:Prop}{P:Prop}(h:R/\H/\w/\G/\W/\l/\F/\D)(k:R->H->w->G->W->l->F->D->P):P:=k h.1 h.2.1 h.2.2.1 h.2.2.2.1 h.2.2.2.2.1 h.2.2.2.2.2.1 h.2.2.2.2.2.2.1 h.2.2.2.2.2.2.2
theorem QN{A B:Sort _}{R H w G W l:A->B->Prop}{P:Prop}(h:∃a1 a2,R a1 a2/\H a1 a2/\w a1 a2/\G a1 a2/\W a1 a2/\l a1 a2)(k:∀a1 a2,R a1 a2->H a1 a2->w a1 a2->G a1 a2->W a1 a2->l a1 a2->P):P:=h.elim λa1 h=>h.elim λa2 h=>k a1 a2 h.1 h.2.1 h.2.2.1 h.2.2.2.1 h.2.2.2.2.1 h.2.2.2.2.2
theorem rk{A B C D:Sort _}{R H w G:A->B->C->D->Prop}{P:Prop}(h:∃a1 a2 a3 a4,R a1 a2 a3 a4/\H a1 a2 a3 a4/\w a1 a2 a3 a4/\G a1 a2 a3 a4)(k:∀a1 a2 a3 a4,R a1 a2 a3 a4->H a1 a2 a3 a4->w a1 a2 a3 a4->G a1 a2 a3 a4->P):P:=h.elim λa1 h=>h.elim λa2 h=>h.elim λa3 h=>h.elim λa4 h=>k a1 a2 a3 a4 h.1 h.2.1 h.2.2.1 h.2.2.2
theorem Vw{A B:Sort _}{R H w G W l F:A->B->Prop}{P:Prop}(h:∃a1 a2,R a1 a2/\H a1 a2/\w a1 a2/\G a1 a2/\W a1 a2/\l a1 a2/\F a1 a2)(k:∀a1 a2,R a1 a2->H a1 a2->w a1 a2->G a1 a2->W a1 a2->l a1 a2->F a1 a2->P):P:=h.elim λa1 h=>h.elim λa2 h=>k a1 a2 h.1 h.2.1 h.2.2.1 h.2.2.2.1 h.2.2.2.2.1 h.2.2.2.2.2.1 h.2.2.2.2.2.2
theorem QO{A B C:Sort _}{R H w G W l:A->B->C->Prop}{P:Prop}(h:∃a1 a2 a3,R a1 a2 a3/\H a1 a2 a3/\w a1 a2 a3/\G a1 a2 a3/\W a1 a2 a3/\l a1 a2 a3)(k:∀a1 a2 a3,R a1 a2 a3->H a1 a2 a3->w a1 a2 a3->G a1 a2 a3->W a1 a2 a3->l a1 a2 a3->P):P:=h.elim λa1 h=>h.elim λa2 h=>h.elim λa3 h=>k a1 a2 a3 h.1 h.2.1 h.2.2.1 h.2.2.2.1 h.2.2.2.2.1 h.2.2.2.2.2
theorem D8{A B C D:Sort _}{R H w G W:A->B->C->D->Prop}{P:Prop}(h:∃a1 a2 a3 a4,R a1 a2 a3 a4/\H a1 a2 a3 a4/\w a1 a2 a3 a4/\G a1 a2 a3 a4/\W a1 a2 a3 a4)(k:∀a1 a2 a3 a4,R a1 a2 a3 a4->H a1 a2 a3 a4->w a1 a2 a3 a4->G a1 a2 a3 a4->W a1 a2 a3 a4->P):P:=h.elim λa1 h=>h.elim λa2 h=>h.elim λa3 h=>h.elim λa4 h=>k a1 a2 a3 a4 h.1 h.2.1 h.2.2.1 h.2.2.2.1 h.2.2.2.2
theorem QP{A B C D E:Sort _}{R H w G:A->B->C->D->E->Prop}{P:Prop}(h:∃a1 a2 a3 a4 j,R a1 a2 a3 a4 j/\H a1 a2 a3 a4 j/\w a1 a2 a3 a4 j/\G a1 a2 a3 a4 j)(k:∀a1 a2 a3 a4 j,R a1 a2 a3 a4 j->H a1 a2 a3 a4 j->w a1 a2 a3 a4 j->G a1 a2 a3 a4 j->P):P:=h.elim λa1 h=>h.elim λa2 h=>h.elim λa3 h=>h.elim λa4 h=>h.elim λj h=>k a1 a2 a3 a4 j h.1 h.2.1 h.2.2.1 h.2.2.2
theorem Vx{A B C D E I J:Sort _}{R H:A->B->C->D->E->I->J->Prop}{P:Prop}(h:∃a1 a2 a3 a4 j F G,R a1 a2 a3 a4 j F G/\H a1 a2 a3 a4 j F G)(k:∀a1 a2 a3 a4 j F G,R a1 a2 a3 a4 j F G->H a1 a2 a3 a4 j F G->P):P:=h.elim λa1 h=>h.elim λa2 h=>h.elim λa3 h=>h.elim λa4 h=>h.elim λj h=>h.elim λF h=>h.elim λG h=>k a1 a2 a3 a4 j F G h.1 h.2
theorem JH{A B C D E:Sort _}{R H w G W l:A->B->C->D->E->Prop}{P:Prop}(h:∃a1 a2 a3 a4 j,R a1 a2 a3 a4 j/\H a1 a2 a3 a4 j/\w a1 a2 a3 a4 j/\G a1 a2 a3 a4 j/\W a1 a2 a3 a4 j/\l a1 a2 a3 a4 j)(k:∀a1 a2 a3 a4 j,R a1 a2 a3 a4 j->H a1 a2 a3 a4 j->w a1 a2 a3 a4 j->G a1 a2 a3 a4 j->W a1 a2 a3 a4 j->l a1 a2 a3 a4 j->P):P:=h.elim λa1 h=>h.elim λa2 h=>h.elim λa3 h=>h.elim λa4 h=>h.elim λj h=>k a1 a2 a3 a4 j h.1 h.2.1 h.2.2.1 h.2.2.2.1 h.2.2.2.2.1 h.2.2.2.2.2
theorem Vy{A B C D E I J M N:Sort _}{R H:A->B->C->D->E->I->J->M->N->Prop}{P:Prop}(h:∃a1 a2 a3 a4 j F G K L,R a1 a2 a3 a4 j F G K L/\H a1 a2 a3 a4 j F G K L)(k:∀a1 a2 a3 a4 j F G K L,R a1 a2 a3 a4 j F G K L->H a1 a2 a3 a4 j F G K L->P):P:=h.elim λa1 h=>h.elim λa2 h=>h.elim λa3 h=>h.elim λa4 h=>h.elim λj h=>h.elim λF h=>h.elim λG h=>h.elim λK h=>h.elim λL h=>k a1 a2 a3 a4 j F G K L h.1 h.2
@[elab_as_elim] theorem ab.{u}{B:Sort u}{a b:B}{p:B->Prop}(e:a=b)(h:p b):p a:=e▸h
@[elab_as_elim] theorem cA.{u}{B:Sort u}{a b:B}{p:B->Prop}(e:b=a)(h:p b):p a:=e▸h
theorem ew{p:Prop}(h:(p->False)->False):p:=Classical.byContradiction h
theorem m8{c:Prop}[Decidable c]{B:Type}{x r:B}{P:Prop}(h:(if c then some x else none)=some r)(k:c->x=r->P):P:=by
 by_cases q:c
 ·exact k q (ay ((if_pos q).symm.trans h))
 ·exact nomatch (if_neg q).symm.trans h
theorem Xo{c:Prop}[Decidable c]{B:Type}{x r:B}{P:Prop}(h:(if c then none else some x)=some r)(k:¬c->x=r->P):P:=by
 by_cases q:c
 ·exact nomatch (if_pos q).symm.trans h
 ·exact k q (ay ((if_neg q).symm.trans h))
@[elab_as_elim] theorem QZ{M:Nat->Prop}{p:Nat}(B:p<4)(Y:M 0)(J:M 1)(U:M 2)(Z:M 3):M p:=by
 rcases p with _|_|_|_|p
 ·exact Y
 ·exact J
 ·exact U
 ·exact Z
 ·exact absurd B (i5.mpr (Qd 4 p))
@[elab_as_elim] theorem MO{M:Nat->Prop}{p:Nat}(B:p<5)(Y:M 0)(J:M 1)(U:M 2)(Z:M 3)(d:M 4):M p:=by
 rcases p with _|p
 ·exact Y
 ·exact QZ (M:=λp=>M (p+1)) (oA B) J U Z d
end Mine.Internal
open PySem PySem.W PyProof.Rows PySem.Calls
open Sem (wp)
namespace Mine.Internal
section
set_option maxRecDepth 100000
set_option maxHeartbeats 0
noncomputable abbrev P0:fA:=PySem.Challenge.pw_uc0054_01
noncomputable def nU.jI:fZ:={scope:=P0.main.scope,locals:=mainNs,globals:=mainNs,cells:= [],code:=aw.ref 13,frame:=some 14}
noncomputable def Wn:hC:={cls:=.type "code",data:=.fields #[.str "<module>" 182,.str "<module>" 183,.str "/claim/cut.py" 184,.int 1 0,.int 0 0,.int 0 0,.int 0 0,.int 0 0,.ref 11,.bool false,.int 181 0,.ref 12,.none,.none,.none,.none,.int 185 0,.int 1 0,.str "/claim/cut.py" 186]}
noncomputable def Tt:hC:={cls:=.type "frame",slots:= #[some (.ref 13),some (.ref 3),some (.ref 3),none,some (.str "__main__" 164),none,some (.ref 0)]}
noncomputable def WV(P:il):BT:=.node (boot_o_0 P)
 (.node (boot_o_1 P)
   (.node (boot_o_3 P) (.node (boot_o_7 P) .nil .nil) (.node {cls:=.type "tuple",data:=.seq #[]} .nil .nil))
   (.node (boot_o_5 P) (.node (boot_o_9 P) .nil .nil) (.node Wn .nil .nil)))
 (.node (boot_o_2 P)
   (.node (boot_o_4 P) (.node (boot_o_8 P) .nil .nil) (.node {cls:=.none,data:=.fields #[]} .nil .nil))
   (.node (boot_o_6 P) (.node (boot_o_10 P) .nil .nil) (.node Tt .nil .nil)))
noncomputable def H7(P:il)(os:dA):sd:={tree:=WV P,n:=15,life:={},gens:={toList:= []},drawn:={},toks:=187,os:=os}
noncomputable def Bl(i n:Nat):List bC:=((qR P0).drop i).take n
noncomputable abbrev B0:List Frame:= [topFrame {line:=0,col:=0,endLine:=0,endCol:=0}]
noncomputable abbrev r6:Option aw:=some (aw.ref 6)
noncomputable abbrev c0:Code:=Code.body (qR P0) nU.jI
noncomputable abbrev Ho:=PySem.W.Fast.tw10110043849684766642
noncomputable abbrev rQ:=PySem.W.Fast.tw14364793385576792824
theorem zj:fM=rQ:=jy
noncomputable abbrev sQ:=PySem.W.Fast.tw12563942051412417395
noncomputable def resT(o:Option (kO×sd×Code×eO)):sd:=match o with|some r=>r.2.1|none=>⟨.nil,0,{},#[],{},0,{}⟩
noncomputable def JI(P:il):cW:=⟨λz z=>0,P⟩
@[irreducible] noncomputable def Lh(w:cW)(os:dA):=Ho rQ P0 w 11 r6 1 460 (H7 w.params os) ⟨(sQ (Bl 0 19) nU.jI).wrap doneF RB id id,c0,⟨0,0,0,0⟩,B0⟩
@[irreducible] noncomputable def L3(P:il):BT:=(resT (Lh (JI P) {})).tree
noncomputable def U8(P:il)(os:dA):sd:={tree:=L3 P,n:=92,life:={},gens:={toList:= []},drawn:={},toks:=341,os:=os}
theorem Li(w:cW)(os:dA):Lh w os=some (.next,U8 w.params os,c0,⟨167,0,167,8⟩):=by kernel_rfl
noncomputable def vals(ns:List Int)(t:Nat):List aw:=(ns.zipIdx t).map λx=>cy x.1 x.2
noncomputable def VF:List Int:= [173,847,6150,6155,6156,6157,8203,8204,8205,8288,65279]
noncomputable def VG:List Int:= [65024,65025,65026,65027,65028,65029,65030,65031,65032,65033,65034,65035,65036,65037,65038,65039]
noncomputable def xt:List (Int×aw):= [(65024,cy 65024 357),(65025,cy 65025 358),(65026,cy 65026 359),
 (65027,cy 65027 360),(65028,cy 65028 361),(65029,cy 65029 362),
 (6150,cy 6150 343),(65030,cy 65030 363),(65031,cy 65031 364),
 (65032,cy 65032 365),(65033,cy 65033 366),(6155,cy 6155 344),
 (6156,cy 6156 345),(6157,cy 6157 346),(8203,cy 8203 347),(8204,cy 8204 348),
 (8205,cy 8205 349),(65034,cy 65034 367),(65035,cy 65035 368),
 (65036,cy 65036 369),(65037,cy 65037 370),(65038,cy 65038 371),
 (65039,cy 65039 372),(173,cy 173 341),(847,cy 847 342),(8288,cy 8288 350),
 (65279,cy 65279 351)]
noncomputable def Uz(P:il):hC:={cls:=.type "set",data:=.set xt.toArray 29 {mask:=127,place:= #[0,1,2,3,4,5,6,7,8,9,10,11,12,13,14,15,16,17,18,19,20,21,22,45,79,96,127],dummies:= #[],finger:=0,led:= !P.followText "set-order",moves:=2,plain:=true}}
noncomputable def EN(a:az):hC:={cls:=.type "StopIteration",data:=.fields #[.ref a,.none,.none,.none,.bool false,.none]}
noncomputable def Ao:hC:={cls:=.type "tuple",data:=.seq #[] 0}
noncomputable def Q2(P:il)(x:bj)(t:Nat)(v:aw)(o:hC):hC:=o.mapDictKeys λes=>es.push ⟨PyData.keyHash P x,.str x t,v⟩
@[irreducible] noncomputable def Ua(P:il):BT:=(((((((((((((L3 P).set 3 (Q2 P "b1_set" 400 (.ref 99))).ins 92 {cls:=.type "list",data:=.seq (vals VF 341).toArray 0})
 |>.ins 93 {cls:=.type "range",data:=.fields (vals [65024,65040,1] 352).toArray})
 |>.ins 94 {cls:=.type "list",data:=.seq (vals VG 357).toArray 18})
 |>.ins 95 {cls:=.type "range_iterator",data:=.fields #[.int 65040 0,.int 0 0,.int 1 0]})
 |>.ins 96 Ao)|>.ins 97 (EN 96))
 |>.ins 98 {cls:=.type "list",data:=.seq (vals VF 341++vals VG 357).toArray 0})
 |>.ins 99 (Uz P))|>.ins 100 {cls:=.type "list_iterator",data:=.fields #[.none,.int 27 0]})
 |>.ins 101 Ao)|>.ins 102 (EN 101))
noncomputable def U9(P:il)(os:dA):sd:={tree:=Ua P,n:=103,life:={},gens:={toList:= []},drawn:={},toks:=401,os:=os}
theorem Wv(b:Bool)(w:cW)(os:dA):Ho rQ P0 (w.withFollow "special-get-raises" b) 11 r6 1 999 (U8 (w.withFollow "special-get-raises" b).params os)
 ⟨(sQ (Bl 19 1) nU.jI).wrap doneF RB id id,c0,{line:=167,col:=0,endLine:=167,endCol:=8},B0⟩=some (.next,U9 (w.withFollow "special-get-raises" b).params os,c0,⟨168,0,168,6⟩):=by
 rcases b with⟨⟩
 ·kernel_rfl
 ·kernel_rfl
@[irreducible] noncomputable def Lj(w:cW)(os:dA):=Ho rQ P0 w 11 r6 1 30 (U9 w.params os) ⟨(sQ (Bl 20 1) nU.jI).wrap doneF RB id id,c0,⟨168,0,168,6⟩,B0⟩
@[irreducible] noncomputable def mQ(P:il):BT:=(resT (Lj (JI P) {})).tree
noncomputable def RJ(P:il)(os:dA):sd:={tree:=mQ P,n:=110,life:={},gens:={toList:= []},drawn:={},toks:=408,os:=os}
theorem Lk(w:cW)(os:dA):Lj w os=some (.next,RJ w.params os,c0,⟨169,0,170,30⟩):=by kernel_rfl
noncomputable def i9{B:Type}(o:Option B)(P:B->Prop):Prop:=match o with
 |some a=>P a
 |none=>True
theorem cx{B:Type}{o:Option B}{P:B->Prop}{q:B}(p:i9 o P)(h:o=some q):P q:=by subst h;exact p
theorem aZ{B A:Type}{o:Option B}{F:B->Option A}{b:A}(h:o.bind F=some b):∃a,o=some a/\F a=some b:=by
 rcases o with _|a
 ·injection h
 ·exact⟨a,rfl,h⟩
theorem bW{B A:Type}{f:B->A}{x:Option B}{b:A}(h:x.map f=some b){I:Prop}(N:∀a,x=some a->f a=b->I):I:=by
 rcases x with _|u
 ·injection h
 ·injection h with S;subst S;exact N u rfl rfl
theorem rV{c:Prop}[Decidable c]{B:Type}{f:c->Option B}{R:B->Prop}(h:∀i,i9 (f i) R):i9 (if i:c then f i else none) R:=by
 by_cases i:c
 ·exact ab (dif_pos i)<|h i
 ·exact ab (dif_neg i)<|fc
noncomputable def rT(e:Expr):Option (wd×Nat×eO):=if h:e.ctorIdx=19 then wo (motive_1:=λz=>Option _) e h (λc k p=>some (c,k,p))else none
theorem qN{e:Expr}{q:wd×Nat×eO}(h:rT e=some q):e=.Constant q.1 q.2.1 q.2.2:=cx (P:=λq=>e=.Constant q.1 q.2.1 q.2.2) (rV λi=>wo (motive_1:=λe=>∀i,i9 (wo (motive_1:=λz=>Option _) e i (λc k p=>some (c,k,p))) λq=>e=.Constant q.1 q.2.1 q.2.2) e i (λc k p z=>rfl) i) h
noncomputable def Dr:wd->Option Int
 | .int b=>some b
 |_=>none
theorem xM{e:wd}{q:Int}(h:Dr e=some q):e=.int q:=cx (P:=λq=>e=.int q) (by rcases e with⟨⟩<;>first|exact fc|exact rfl) h
noncomputable def Dt:wd->Option bj
 | .str b=>some b
 |_=>none
theorem sS{e:wd}{q:bj}(h:Dt e=some q):e=.str q:=cx (P:=λq=>e=.str q) (by rcases e with⟨⟩<;>first|exact fc|exact rfl) h
noncomputable def un{B:Type}:List B->Option (B×List B)
 | []=>none
 |a::l=>some (a,l)
theorem Rn{B:Type}{l:List B}{q:B×List B}(h:un l=some q):l=q.1::q.2:=by
 rcases l with _|⟨a,l⟩
 ·injection h
 ·injection h with S;subst S;rfl
noncomputable def VP(o:Option Expr):Option Int:=o.bind λe=>(rT e).bind λc=>Dr c.1
noncomputable def vStr(e:Expr):Option bj:=(rT e).bind λc=>Dt c.1
theorem OC{o:Option Expr}{i:Int}(h:VP o=some i){I:Prop}(N:∀a b,o=some (.Constant (.int i) a b)->I):I:=by refine aC (aZ h) λe J h=>aC (aZ h) λc U h=>?_;exact N _ _ (ab J (ab (qN U) (ab (xM h) rfl)))
theorem PJ{e:Expr}{i:bj}(h:vStr e=some i){I:Prop}(N:∀a b,e=.Constant (.str i) a b->I):I:=aC (aZ h) λc U h=>N _ _ (ab (qN U) (ab (sS h) rfl))
noncomputable def nE:List (Option Expr)->List Expr->Option (List (Int×bj))
 | [],vs=>bif vs.isEmpty then some []else none
 |k::B,vs=>(un vs).bind λv=>(VP k).bind λi=>(vStr v.1).bind λs=>(nE B v.2).map ((i,s)::·)
noncomputable def WO:bC:=(Bl 21 1).headD (.Pass default)
noncomputable def IE:Option (List Expr×Expr×eO):=if h:WO.ctorIdx=5 then qg (motive_2:=λz=>Option _) WO h (λl v p=>some (l,v,p))else none
noncomputable def Jk:Option (List (Option Expr)×List Expr×eO):=IE.bind λq=>if h:q.2.1.ctorIdx=6 then Expr.Dict.elim (motive_1:=λz=>Option _) q.2.1 h (λk v p=>some (k,v,p))else none
noncomputable def qC:List (Option Expr):=(Jk.map (·.1)).getD []
noncomputable def qM:List Expr:=(Jk.map (·.2.1)).getD []
noncomputable def iT:List (Int×bj):=(nE qC qM).getD []
noncomputable def QI(t:Nat)(q:Int×bj):cG:=⟨q.1,.int q.1 t,.str q.2 (t+1)⟩
noncomputable def entries(d:Nat):Nat->List (Int×bj)->List cG
 |_,[]=> []
 |t,q::r=>QI t q::entries d (t+d) r
noncomputable def dG(es:List cG):hC:={cls:=.type "dict",data:=.dict es.toArray es.length}
noncomputable def yn(t:Nat)(l:List (Int×bj)):List cG:=if l.length<=15 then entries 2 t l else entries 3 t l
noncomputable def oK:Nat->Nat->List (Int×bj)->List (List cG)
 |0,_,_=> []
 |n+1,t,l=>if l.isEmpty then[]else yn t (l.take 17)::oK n (t+51) (l.drop 17)
theorem Nz:(∀A C,oK 0 A C=([]))/\
 (∀n t l,oK (n+1) t l=(if l.isEmpty then[]else yn t (l.take 17)::oK n (t+51) (l.drop 17))):=⟨by intros;rfl,by intros;rfl⟩
noncomputable def yG:BT->Nat->List hC->BT
 |T,_,[]=>T
 |T,n,o::r=>yG (T.ins n o) (n+1) r
noncomputable def qE:List hC:=dG (oK 50 408 iT).flatten::((oK 50 408 iT).drop 1).map dG
@[irreducible] noncomputable def Ub(P:il):BT:=yG ((mQ P).set 3 (Q2 P "b3_exceptions" 2358 (.ref 110))) 110 qE
noncomputable def H8(P:il)(os:dA):sd:={tree:=Ub P,n:=149,life:={},gens:={toList:= []},drawn:={},toks:=2359,os:=os}
theorem sJ:iT.length=650:=by kernel_rfl
@[irreducible] noncomputable def Ll(w:cW)(os:dA):=Ho rQ P0 w 11 r6 1 380 (H8 w.params os) ⟨(sQ (Bl 22 13) nU.jI).wrap doneF RB id id,c0,⟨171,0,171,13⟩,B0⟩
@[irreducible] noncomputable def L4(P:il):BT:=(resT (Ll (JI P) {})).tree
noncomputable def Fx(P:il)(os:dA):sd:={tree:=L4 P,n:=223,life:={},gens:={toList:= []},drawn:={},toks:=2474,os:=os}
theorem Lm(w:cW)(os:dA):Ll w os=some (.next,Fx w.params os,c0,⟨278,0,314,93⟩):=by kernel_rfl
noncomputable abbrev qJ:=PySem.W.Fast.tw15667345088766844465
noncomputable abbrev EV:=PySem.W.Fast.tw14374325043358763698
noncomputable abbrev ES:=PySem.W.Fast.tw11892475500146522536
noncomputable def Sa(w:cW)(os:dA):ao:=match qJ rQ P0 w 11 r6 12 ⟨mI w.params,#[],HX,Ql,os⟩ (topStub P0)with
 |some r=>r.1|none=>{}
theorem TH(w:cW)(os:dA):qJ rQ P0 w 11 r6 12 ⟨mI w.params,#[],HX,Ql,os⟩ (topStub P0)=
 some ((H7 w.params os).abs,⟨ES rQ c0,c0,⟨0,0,0,0⟩,B0⟩):=by kernel_rfl
theorem IT(w:cW)(os:dA):EV rQ P0 w 11 r6 1 1 (H7 w.params os).abs (blockOf (qR P0) nU.jI c0 ⟨0,0,0,0⟩ B0)=some (.next,(H7 w.params os).abs,c0,⟨0,0,0,0⟩):=by kernel_rfl
noncomputable def VQ:List Nat:= [1,2,3,4,5,7,8,9,10,11,12,13,15,16,17,20,22,24,25,26,27,28,29,30,31,32,33,34]
noncomputable def q0:fA:={P0 with main:={P0.main with body:=VQ.filterMap λi=>P0.main.body[i]?}}
noncomputable abbrev kl:List bj:= ["b1_set","b3_exceptions"]
noncomputable def PD:az:=44
noncomputable def T9:az:=51
noncomputable def TL(d:aw):Option (az):=if h:d.ctorIdx=10 then Fo (motive:=λz=>Option _) d h (λa=>some a)else none
theorem EE{d:aw}{q:az}(h:TL d=some q):d=.ref q:=cx (P:=λq=>d=.ref q) (rV λi=>Fo (motive:=λe=>∀i,i9 (Fo (motive:=λz=>Option _) e i (λa=>some a)) λq=>e=.ref q) d i (λa z=>rfl) i) h
noncomputable def JR(d:Data):Option (xT):=if h:d.ctorIdx=7 then Fb (motive:=λz=>Option _) d h (λa=>some a)else none
theorem JS{d:Data}{q:xT}(h:JR d=some q):d=.func q:=cx (P:=λq=>d=.func q) (rV λi=>Fb (motive:=λe=>∀i,i9 (Fb (motive:=λz=>Option _) e i (λa=>some a)) λq=>e=.func q) d i (λa z=>rfl) i) h
noncomputable def Sq(d:Data):Option (Array aw):=if h:d.ctorIdx=9 then zA (motive:=λz=>Option _) d h (λa=>some a)else none
theorem NX{d:Data}{q:Array aw}(h:Sq d=some q):d=.fields q:=cx (P:=λq=>d=.fields q) (rV λi=>zA (motive:=λe=>∀i,i9 (zA (motive:=λz=>Option _) e i (λa=>some a)) λq=>e=.fields q) d i (λa z=>rfl) i) h
noncomputable def fnOf(mg:bj->Option aw)(h:bk)(x:bj):Option aw:=(mg x).bind λv=>(TL v).bind λa=>(h.get? a).bind λo=>(JR o.data).map λfd=>fd.code
noncomputable def Rl(h:bk)(c:aw):Option aw:=(TL c).bind λa=>(h.get? a).bind λo=>(Sq o.data).bind λvs=>vs[11]?
noncomputable def tD(mg:bj->Option aw)(h:bk)(x:bj):Option aw:=(fnOf mg h x).bind (Rl h)
noncomputable def Va(s:ao):Bool:=s.heap.nsMap d8 "b1_set"==some (.ref 99)&&s.heap.nsMap d8 "b3_exceptions"==some (.ref 110)&&
 (tD (s.heap.nsMap d8) s.heap "_int2digits"==some (.ref PD)&&tD (s.heap.nsMap d8) s.heap "_digits2int"==some (.ref T9))
noncomputable abbrev xF:=PySem.W.Fast.tw4187177175401517315
noncomputable def H1(P:il):bk:=kM (L4 P) 223 {}
noncomputable def S1(w:cW)(os:dA):ao:=⟨H1 w.params,#[],{},2474,os⟩
theorem VY(w:cW)(os:dA):staticsOk (Yc P0.main.body) (mI w.params) (H1 w.params)=true:=by kernel_rfl
theorem VZ(w:cW)(os:dA):namesBound P0 (H1 w.params)=true:=by kernel_rfl
theorem V0(w:cW)(os:dA):gensDone (S1 w os)=true:=by kernel_rfl
theorem V1(w:cW)(os:dA):laidKept (mI w.params) (H1 w.params)=true:=by kernel_rfl
theorem V2(w:cW)(os:dA):xF q0 kl (Yc P0.main.body) Va true (S1 w os)=openGood q0 kl:=by kernel_rfl
def Tr(w:cW){B:Type}(n:Nat)(m:jA B)(s:ao)(p:eO)(a:B)(s':ao)(p':eO):Prop:=
 ∀(K:B->jA Fin) (H:aw->jA Fin) (F:Bool->Bool) (D:List aw->List aw) (N:Nat) (r:ao),
  nC fM P0 w 11 r6 N s' ⟨K a,c0,p',B0⟩=some r->
  nC fM P0 w 11 r6 (N+n) s ⟨m.wrap K H F D,c0,p,B0⟩=some r
section
variable{w:cW}{α β:Type}{s s' s'':ao}{p p' p'':eO}
theorem Tr.pure(a:α):Tr w 0 (gS a:jA α) s p a s p:=λK H F D N r h=>h
theorem Tr.mono{m:jA α}{n n':Nat}{a:α}(h:Tr w n m s p a s' p')(Q:n<=n'):Tr w n' m s p a s' p':=λK H F D N r G=>by
 have:=topRun_mono (n'-n) _ _ _ _ (h K H F D N r G)
 rwa [show N+n+(n'-n)=N+n' by(clear this G h;lia)]at this
theorem Tr.bind{m:jA α}{f:α->jA β}{n n':Nat}{a:α}{b:β}(h:Tr w n m s p a s' p')(h':Tr w n' (f a) s' p' b s'' p''):Tr w (n+n') (m>>=f) s p b s'' p'':=λK H F D N r G=>by
 refine ab (Xc ..) (ab (wi ..) ?_);have:=h (λa=>(f a).wrap K H F D) (λe=>(jA.raise e).wrap K H F D) (λg=>F (id g)) (λl=>D (id l)) (N+n') r (h' K H F D N r G)
 rwa [show N+n'+n=N+(n+n')by(clear this G h' h;lia)]at this
theorem Tr.dm{m:jA α}{f:α->jA β}{n n' k:Nat}{a:α}{b:β}(h:Tr w n m s p a s' p')(h':Tr w n' (f a) s' p' b s'' p'')(I:n+n'<=k:=by lia):Tr w k (m>>=f) s p b s'' p'':=
 (h.bind h').mono I
theorem Tr.keep{m:jA α}{n:Nat}{a:α}{vs:List aw}(h:Tr w n m s p a s' p'):Tr w n (m.keep vs) s p a s' p':=λK H F D N r G=>ab (jA.keep_eq_wrap ..)<|ab (wi ..)<|h (λa=>K a) (λe=>H e) (λg=>F (id g)) (λl=>D (vs++l)) N r G
theorem Tr.holding{m:jA α}{n:Nat}{a:α}{vs:List aw}(h:Tr w n m s p a s' p'):Tr w n (ie vs m) s p a s' p':=ab (holding_eq_keep ..)<|h.keep
theorem Tr.onRaise{m:jA α}{n:Nat}{a:α}{u:aw->jA Unit}(h:Tr w n m s p a s' p'):Tr w n (m.onRaise u) s p a s' p':=λK H F D N r G=>ab (Ur ..)<|ab (wi ..)<|h (λa=>K a) _ (λg=>F (id g)) (λl=>D (id l)) N r G
theorem lX{t t':Thread}{N:Nat}{r:ao}(J:through t=false)(U:stepOk 11 r6 t=true)(Z:step (denote fM) P0 w s t=.go s' t')
 (G:nC fM P0 w 11 r6 N s' t'=some r):nC fM P0 w 11 r6 (N+1) s t=some r:=by
 unfold nC;exact ab J<|ab U<|ab Z<|G
theorem Tr.rule(A:String):Tr w 1 (PySem.rule A) s p () s p:=λK H F D N r G=>by
 refine lX (s':=s) (t':=⟨K (),c0,p,B0⟩) rfl rfl ?_ G;rcases s with⟨⟩;rfl
theorem Tr.at(q:eO):Tr w 1 (jF q) s p () s q:=λK H F D N r G=>by
 refine lX (s':=s) (t':=⟨K (),c0,q,B0⟩) rfl rfl ?_ G;rcases s with⟨⟩;rfl
theorem Tr.fresh:Tr w 1 PySem.fresh s p s.toks {s with toks:=s.toks+1} p:=λK H F D N r G=>by
 refine lX (s':={s with toks:=s.toks+1}) (t':=⟨K s.toks,c0,p,B0⟩) rfl rfl ?_ G;rcases s with⟨⟩;rfl
theorem Tr.load{a:az}{o:hC}(M:s.heap.get? a=some o):Tr w 1 (PySem.load a) s p o s p:=λK H F D N r G=>by
 refine lX (s':=s) (t':=⟨K o,c0,p,B0⟩) rfl rfl ?_ G;rcases s with⟨⟩;simp only at M;show step _ _ _ _ ⟨.load a none λx=>K x,_,_,_⟩=_;simp only[step,M]
theorem Tr.loadPart{a:az}{A:Option aw}{o:hC}(M:s.heap.get? a=some o):Tr w 1 (PySem.loadPart a A) s p o s p:=λK H F D N r G=>by
 refine lX (s':=s) (t':=⟨K o,c0,p,B0⟩) rfl rfl ?_ G;rcases s with⟨⟩;simp only at M;show step _ _ _ _ ⟨.load a A λx=>K x,_,_,_⟩=_;simp only[step,M]
theorem Tr.alloc{o:hC}:Tr w 1 (PySem.alloc o) s p s.heap.objs.size {s with heap:=s.heap.push o} p:=λK H F D N r G=>by
 refine lX (s':={s with heap:=s.heap.push o}) (t':=⟨K s.heap.objs.size,c0,p,B0⟩) rfl rfl ?_ G;rcases s with⟨⟩;rfl
theorem Tr.updatePart{a:az}{A:Option aw}{f:hC->hC}{o:hC}(M:s.heap.get? a=some o)(L:11<=a):Tr w 1 (PySem.updatePart a A f) s p () {s with heap:=s.heap.update a f} p:=λK H F D N r G=>by
 refine lX (s':={s with heap:=s.heap.update a f}) (t':=⟨K (),c0,p,B0⟩) rfl ?_ ?_ G
 ·show(_&&(ME 11 a||a==mainNs||a==cStatics||r6==some (.ref a)))=true;refine ab (Nat.ble_eq_true_of_le L) ?_;rfl
 ·rcases s with⟨⟩;simp only at M;show step _ _ _ _ ⟨.update a A f λx=>K x,_,_,_⟩=_;simp only[step,M,HT,if_true]
theorem Tr.mkInt(i:Int):Tr w 1 (PySem.mkInt i) s p (.int i s.toks) {s with toks:=s.toks+1} p:=Tr.dm Tr.fresh (Tr.pure _)
theorem Tr.mkText(x:bj):Tr w 1 (PySem.mkText x) s p (.str x s.toks) {s with toks:=s.toks+1} p:=Tr.dm Tr.fresh (Tr.pure _)
end
theorem L1{w:cW}{n N:Nat}{s s' r:ao}{t t':Thread}(h:topGo fM P0 w 11 r6 n s t=some (s',t'))(k:nC fM P0 w 11 r6 N s' t'=some r):nC fM P0 w 11 r6 (N+n) s t=some r:=ab (tP ..)<|go_top h k
noncomputable abbrev EU:=PySem.W.Fast.tw10540108854288196387
noncomputable abbrev Bt:=PySem.W.Fast.tw199310478702765468
noncomputable def Ed(k:Int):Int:=if k<0 then-((k.natAbs:Int)%((2^61-1:Nat):Int))else(k.natAbs:Int)%((2^61-1:Nat):Int)
noncomputable def JZ(k:Int):Int:=if Ed k== -1 then-2 else Ed k
theorem N4(b:Bool)(w:cW)(heap:bk)(gens:Array xU)(drawn:Drawn)(toks:Nat)(os:dA)(k:Int)(t:nZ)(p:eO)(K:Int->jA Fin)(H:aw->jA Fin)(F:Bool->Bool)(D:List aw->List aw):
 qJ rQ P0 (w.withFollow "special-get-raises" b) 11 r6 5 ⟨heap,gens,drawn,toks,os⟩ ⟨(EU (.int k t)).wrap K H F D,c0,p,B0⟩=
  some (⟨heap,gens,drawn,toks+1,os⟩,⟨(Bt (JZ k)).wrap K H F D,c0,p,B0⟩):=by
 rcases b with⟨⟩
 ·kernel_rfl
 ·kernel_rfl
theorem Tr.pyHash{w:cW}{s:ao}{p:eO}{k:Int}{t:nZ}(Y:0<=k)(J:k<1000000):Tr w 5 (PySem.pyHash (.int k t)) s p k {s with toks:=s.toks+1} p:=λK H F D N r G=>by
 have e:=Qk w "special-get-raises";obtain⟨heap,gens,drawn,toks,os⟩:=s;have g:=N4 (w.params.followText "special-get-raises") w heap gens drawn toks os k t p K H F D;rw[e]at g;unfold qJ EU Bt at g;rw[<-jz,<-zj,<-PySem.W.Fast.te10540108854288196387,<-PySem.W.Fast.te199310478702765468]at g;refine L1 g ?_;have A:Ed k=k:=by
  delta Ed;refine ab (if_neg (MT Y:¬k<0)) ?_;have:((2^61-1:Nat):Int)=2305843009213693951:=by decide
  refine ab this ?_;lia
 have I:JZ k=k:=by delta JZ;refine ab A ?_;rw[if_neg];simp only[beq_iff_eq];exact cH Y
 refine ab I ?_;have e2:PySem.pyHashByItsType.reduced k=gS k:=by delta pyHashByItsType.reduced;exact ab (if_pos (by simp only[au,decide_eq_true_eq];lia)) (ab (if_neg (by simp only[beq_iff_eq];exact cH Y)) rfl)
 exact ab e2<|G
section
variable{w:cW}{s:ao}{p:eO}
theorem Tr.dictEntries{d:az}{A:Option aw}{o:hC}{es:Array cG}{Q:Nat}(M:s.heap.get? d=some o)(u:o.data=.dict es Q):Tr w 1 (PySem.dictEntries d A) s p es s p:=Tr.dm (Tr.loadPart M) (n':=0)<|ab u<|Tr.pure _
theorem Tr.dictEpoch{d:az}{A:Option aw}{o:hC}{es:Array cG}{Q:Nat}(M:s.heap.get? d=some o)(u:o.data=.dict es Q):Tr w 1 (PySem.dictEpoch d A) s p Q s p:=Tr.dm (Tr.loadPart M) (n':=0)<|ab u<|Tr.pure _
theorem C2{es:Array cG}{h:Int}(B:∀e∈es.toList,e.hash≠h):tW es.size (λi=>es[i]?.map (·.hash)) h= []:=by delta tW;rw[ow];intro i hi;rw[aT]at hi;dsimp only;refine ab (Array.getElem?_eq_getElem hi) (ab (aK ..) ?_);rewrite[beq_iff_eq];exact ab (bL ..)<|B _ (Array.getElem_mem_toList hi)
theorem Tr.dictFind{d:az}{k:Int}{t:nZ}{o:hC}{es:Array cG}{Q:Nat}(M:s.heap.get? d=some o)(u:o.data=.dict es Q)(B:∀e∈es.toList,e.hash≠k):
 Tr w 1 (PySem.dictFind d (.int k t) k) s p none s p:=by
 refine Tr.holding (Tr.dm (Tr.dictEntries M u) (n':=0) ?_);show Tr w 0 (if((cy k t)::((tW es.size (λi=>es[i]?.map (·.hash)) k).filterMap λi=>es[i]?.map (·.key))).all carriedByValue=true then
  dictWalkPlain d (.int k t) k es (tW es.size (λi=>es[i]?.map (·.hash)) k)else _) s p none s p
 exact ab (C2 B)<|ab (if_pos (by rfl))<|Tr.dm (n:=0) (n':=0) (Tr.pure _) (Tr.pure _)
theorem Tr.updateDictKeys{d:az}{A:Option aw}{o:hC}{es:Array cG}{Q:Nat}{f:Array cG->Array cG}(M:s.heap.get? d=some o)(u:o.data=.dict es Q)(Z:11<=d)(g:(f es).size<=mJ+1):
 Tr w 3 (PySem.updateDictKeys d f A) s p () {s with heap:=s.heap.update d (eB f)} p:=by
 refine ew λY=>?_;obtain⟨c,B,D,C⟩:=o;simp only at u;subst u;refine Y ?_;clear Y;refine Tr.dm (Tr.loadPart M) (n':=2)<|Tr.dm (Tr.updatePart M Z) (n':=1)<|Tr.dm (n':=0) (Tr.loadPart (o:=eB f ⟨c,B,.dict es Q,C⟩) (P6 _ M rfl)) ?_;exact ab (show(eB f ⟨c,B,.dict es Q,C⟩).data.pastItsLine=none from if_neg (i5.mpr g))<|Tr.pure _
theorem Tr.dictSet{d:az}{k:Int}{t:nZ}{v:aw}{o:hC}{es:Array cG}{Q:Nat}(M:s.heap.get? d=some o)(u:o.data=.dict es Q)(Z:11<=d)(B:∀e∈es.toList,e.hash≠k)
 (Y:0<=k)(J:k<1000000)(g:es.size+1<=mJ+1):Tr w 10 (PySem.dictSet d (.int k t) v) s p () {s with toks:=s.toks+1,heap:=s.heap.update d (eB (·.push ⟨k,.int k t,v⟩))} p:=by
 refine Tr.holding (Tr.dm (Tr.pyHash Y J) (n':=5) ?_);refine Tr.holding (Tr.dm (n':=4) (Tr.dictFind (s:={s with toks:=s.toks+1}) M u B) ?_);exact Tr.dm (n':=3) (Tr.rule _) (Tr.updateDictKeys (s:={s with toks:=s.toks+1}) M u Z (ab (gj ..)<|g))
theorem Tr.dictPut{d:az}{k:Int}{t:nZ}{v:aw}{o:hC}{es:Array cG}{Q:Nat}(M:s.heap.get? d=some o)(u:o.data=.dict es Q)(Z:11<=d)(B:∀e∈es.toList,e.hash≠k)
 (g:es.size+1<=mJ+1):Tr w 4 (PySem.dictPut d k (.int k t) v) s p () {s with heap:=s.heap.update d (eB (·.push ⟨k,.int k t,v⟩))} p:=Tr.dm (n':=3) (Tr.dictFind M u B)<|Tr.updateDictKeys M u Z (ab (gj ..)<|g)
end
theorem oM(d:Nat):∀(t:Nat) (l r:List (Int×bj)),entries d t (l++r)=entries d t l++entries d (t+d*l.length) r:=by
 intro G A;revert G
 induction A with
 |nil=>
  intro t r;rfl
 |cons q l R=>
  refineλt r=>ab da<|ab (show entries d t (q::(l++r))=_::entries d (t+d) (l++r)from rfl) (ab (show entries d t (q::l)=_::entries d (t+d) l from rfl) (ab (R (t+d) r) (ab da (ab bu ?_))));congr 3;refine ab (B2 ..) ?_;lia
theorem d9(d:Nat):∀(t:Nat) (l:List (Int×bj)),(entries d t l).length=l.length:=by
 intro G A;revert G
 induction A with
 |nil=>
  exactλz=>rfl
 |cons q l R=>
  intro t;rewrite[entries];exact ab bu (ab (R _) (ab bu rfl))
theorem sY(d:Nat):∀(t:Nat) (l:List (Int×bj)) (e:cG),e∈entries d t l->∃q∈l,e.hash=q.1:=by
 intro G A;revert G
 induction A with
 |nil=>
  exactλz e h=>(nomatch h)
 |cons q l R=>
  intro t e h;rw[entries]at h;refine ak (aS.mp h) (λH=>?_) λh=>?_;subst H
  ·exact⟨q,aH,rfl⟩
  ·exact aC (R _ e h) λi a b=>⟨i,ax _ a,b⟩
theorem yP(es:List cG)(e:cG):eB (·.push e) (dG es)=dG (es++ [e]):=by unfold dG eB;simp
theorem mB(h:bk)(o:hC)(f:hC->hC):(h.push o).update h.objs.size f=h.push (f o):=by
 obtain⟨A,l⟩:=h;show ud _ _=ud _ _;congr 1;apply mD;refineλi=>ab eZ (ab jl (ab jl ?_));by_cases e:i=A.size
 ·subst e;simp
 ·simp[e,ib e]
theorem lU(h:bk)(o:hC)(a:az)(f:hC->hC)(L:a<h.objs.size):(h.push o).update a f=(h.update a f).push o:=by
 obtain⟨A,l⟩:=h;simp only at L;show ud _ _=ud _ _;congr 1;apply mD;refineλi=>ab eZ (ab jl (ab jl (ab Array.size_modify (ab eZ ?_))));by_cases e:i=A.size
 ·subst e;simp[jb L]
 ·simp[e]
noncomputable def eQ(h:bk)(os:List hC):bk:=os.foldl (λh o=>h.push o) h
theorem rC:∀(os:List hC) (h:bk),(eQ h os).objs.size=h.objs.size+os.length:=by
 intro G
 induction G with
 |nil=>
  exactλh=>rfl
 |cons o r R=>
  intro h;show(eQ (h.push o) r).objs.size=_;refine ab (R ..) ?_;show(h.objs.push o).size+_=_;exact ab (gj ..)<|ab bu<|dS h.objs.size r.length
theorem oX:∀(os:List hC) (h:bk) (a:az) (f:hC->hC),a<h.objs.size->(eQ h os).update a f=eQ (h.update a f) os:=by
 intro G
 induction G with
 |nil=>
  exactλh a f L=>rfl
 |cons o r R=>
  intro h a f L;show(eQ (h.push o) r).update a f=eQ ((h.update a f).push o) r;exact ab (R _ a f (by show a< (h.objs.push o).size;exact ab (gj ..)<|Nat.lt_succ_of_lt L)) (ab (lU h o a f L) rfl)
theorem tv:∀(os:List hC) (h:bk) (a:az) (o:hC),h.get? a=some o->(eQ h os).get? a=some o:=by
 intro G
 induction G with
 |nil=>
  exactλh a o e=>e
 |cons x r R=>
  refineλh a o e=>R (h.push x) a o (cC x e)
theorem rD(h:bk)(os:List hC)(o:hC):eQ h (os++ [o])=(eQ h os).push o:=by delta eQ;refine ab List.foldl_append ?_;rfl
theorem m7(h:bk)(o:hC)(P:o.isFreed=false):(h.push o).get? h.objs.size=some o:=bV _ P
section
variable{w:cW}{p:eO}
theorem rP{A σ:Type}(c:Nat):∀(l:List A) (f:A->σ->jA (ForInStep σ)) (S:Nat->ao) (V:Nat->σ) (P:∀i (hi:i<l.length),Tr w c (f l[i] (V i)) (S i) p (.yield (V (i+1))) (S (i+1)) p),
 Tr w (c*l.length) (ForIn.forIn l (V 0) f) (S 0) p (V l.length) (S l.length) p:=by
 intro G
 induction G with
 |nil=>
  exactλf S V P=>ab List.forIn_nil<|Tr.pure _
 |cons x r R=>
  refineλf S V P=>ab (P9 ..)<|Tr.dm (P 0 (MY r.length)) (n':=c*r.length) ?_ (by refine ab bu (ab (B2 ..) ?_);lia);exact R f (λi=>S (i+1)) (λi=>V (i+1)) λi hi=>P (i+1) (ab bu<|Fh hi 1)
def H6(w:cW)(p:eO)(G:jA aw×jA aw)(q:Int×bj):Prop:=
 (∀s,Tr w 1 G.1 s p (.int q.1 s.toks) {s with toks:=s.toks+1} p)/\(∀s,Tr w 2 G.2 s p (.str q.2 s.toks) {s with toks:=s.toks+1} p)/\0<=q.1/\q.1<1000000
inductive fj (w:cW) (p:eO):List (jA aw×jA aw)->List (Int×bj)->Prop
 |nil:fj w p [] []
 |cons {kv q l r}:H6 w p kv q->fj w p l r->fj w p (kv::l) (q::r)
theorem fj.length{l r}(h:fj w p l r):l.length=r.length:=by induction h<;>simp[*]
theorem fj.get{l r}(h:fj w p l r):∀i (hi:i<l.length) (G:i<r.length),H6 w p l[i] r[i]:=by
 induction h with
 |nil=>exactλi hi=>absurd hi (jD _)
 |cons a b R=>
  intro i hi G;rcases i with _|i
  ·exact a
  ·exact R i (by simpa using hi) (by simpa using G)
theorem fj.take{l r}(h:fj w p l r)(n:Nat):fj w p (l.take n) (r.take n):=by
 induction h generalizing n with
 |nil=>simp;exact .nil
 |cons a b R=>rcases n with _|n
              ·exact .nil
              ·exact .cons a (R n)
theorem fj.drop{l r}(h:fj w p l r)(n:Nat):fj w p (l.drop n) (r.drop n):=by
 induction h generalizing n with
 |nil=>simp;exact .nil
 |cons a b R=>rcases n with _|n
              ·exact .cons a b
              ·exact R n
def uH(A:List (Int×bj)):Prop:=A.Pairwise λa b=>a.1<b.1
theorem uH.ne{A:List (Int×bj)}(h:uH A)(i j:Nat)(hi:i<A.length)(Q:j<A.length)(J:i≠j):A[i].1≠A[j].1:=by
 have:=mS.mp h;refineλe=>ak (Nat.lt_or_gt_of_ne J) (λg=>?_) λg=>?_
 ·have:=this i j hi Q g;lia
 ·have:=this j i Q hi g;lia
theorem ra(d t:Nat)(A:List (Int×bj))(i:Nat)(hi:i<A.length):entries d t (A.take (i+1))=entries d t (A.take i)++ [QI (t+d*i) A[i]]:=by refine ab (eK hi) (ab (oM ..) (ab br (ab (fz (cm hi)) ?_)));rfl
theorem vU{items:List (jA aw×jA aw)}{A:List (Int×bj)}{s:ao}(ok:fj w p items A)(u:uH A)(B:15<A.length)(M:A.length<=1000)(E:11<=s.heap.objs.size):
 Tr w (30*A.length+5) (M7 items) s p s.heap.objs.size {s with heap:=s.heap.push (dG (entries 3 s.toks A)),toks:=s.toks+3*A.length} p:=by
 have X:=ok.length;delta M7;refine Tr.dm (n':=30*A.length+4) Tr.alloc<|Tr.dm (n:=30*A.length+2) (n':=0) (Tr.holding (a:=()) (s':={s with heap:=s.heap.push (dG (entries 3 s.toks A)),toks:=s.toks+3*A.length}) (p':=p) ?_) (Tr.pure _);refine ab (if_neg (by lia))<|Tr.dm (n:=1) (n':=30*A.length) (Tr.rule _) ?_;have Z:=rP (w:=w) (p:=p) (σ:=PUnit) 30 items (λx z=>do
  let G<-x.1;let H<-ie [G] x.2
  ie [G,H] (dictSet s.heap.objs.size G H)
  gS (bP r9)) (λi=>{s with heap:=s.heap.push (dG (entries 3 s.toks (A.take i))),toks:=s.toks+3*i}) (λz=>⟨⟩) (λi hi=>by
  have I:i<A.length:=et hi X;refine Aw (ok.get i hi I) λm S K C=>Tr.dm (n':=20) (m _)<|Tr.dm (n':=15) (Tr.holding (S _)) ?_;have d:=m7 s.heap (dG (entries 3 s.toks (A.take i))) rfl;refine Tr.dm (n:=10) (n':=0) (k:=15) (Tr.holding (Tr.dictSet (s:={s with heap:=s.heap.push (dG (entries 3 s.toks (A.take i))),toks:=s.toks+3*i+1+1}) d rfl E (λe F=>?_) K C ?_)) ?_
  ·refine aC (sY _ _ _ e F) λq D e1=>?_;obtain⟨j,Q,rfl⟩:=qP D;refine ab e1 ?_;rw[br]at Q;exact ab tN<|uH.ne u j i (by(clear e1 D F d C K S m I hi E M u ok;lia)) I (by lia)
  ·show(entries 3 s.toks (A.take i)).toArray.size+1<=_;refine ab eJ (ab (d9 ..) (ab br (ab RF ?_)));(clear d C K S m I hi E B u ok;lia)
  ·have e2:(s.heap.push (dG (entries 3 s.toks (A.take i)))).update s.heap.objs.size (eB (·.push ⟨A[i].1,.int A[i].1 (s.toks+3*i),.str A[i].2 (s.toks+3*i+1)⟩))=s.heap.push (dG (entries 3 s.toks (A.take (i+1)))):=by
    refine ab (mB ..) (ab (yP ..) (ab (ra 3 s.toks A i I) ?_));rfl
   dsimp only;exact ab e2<|Tr.pure _)
 rw[X]at Z;simp only[qd,kP,Nat.mul_zero,UM]at Z;exact Tr.dm (n':=0) Z (Tr.pure _)
end
section
variable{w:cW}{p:eO}
noncomputable def mO:Nat->List (Int×bj)->List (aw×aw)
 |_,[]=> []
 |t,q::r=>(.int q.1 t,.str q.2 (t+1))::mO (t+2) r
theorem Ey:(∀A,mO A []=([]))/\
 (∀t q r,mO t (q::r)=((.int q.1 t,.str q.2 (t+1))::mO (t+2) r)):=⟨by intros;rfl,by intros;rfl⟩
theorem mP:∀(t:Nat) (l:List (Int×bj)),(mO t l).length=l.length:=by
 intro G A;revert G
 induction A with
 |nil=>
  exactλz=>rfl
 |cons q l R=>
  intro t;simp only[(id Ey),bu,R _]
theorem CZ:∀(t:Nat) (l:List (Int×bj)) (i:Nat) (hi:i<l.length) (D:i< (mO t l).length),(mO t l)[i]=(.int l[i].1 (t+2*i),.str l[i].2 (t+2*i+1)):=by
 intro t l
 induction l generalizing t with
 |nil=>exactλi hi=>absurd hi (jD i)
 |cons q l R=>
  intro i hi D;rcases i with _|i
  ·rfl
  ·dsimp only[(id Ey),List.getElem_cons_succ];exact ab (R (t+2) i (qf.mp hi) (by refine ab (mP ..) ?_;simpa using hi)) (ab (show t+2+2*i=t+2*(i+1)by lia) rfl)
theorem zi{items:List (jA aw×jA aw)}{A:List (Int×bj)}(ok:fj w p items A):∀s:ao,Tr w (3*A.length) (evalPairs items) s p (mO s.toks A) {s with toks:=s.toks+2*A.length} p:=by
 induction ok with
 |nil=>exactλs=>Tr.pure _
 |@cons G q l r a b R=>
  refineλs=>eY a λm S z=>Tr.dm (n':=3*r.length+2) (m s) ?_ (by simp only[bu];lia);refine Tr.dm (n':=3*r.length) (Tr.holding (S _)) ?_ (by lia);have:=Tr.holding (vs:= [cy q.1 s.toks,aw.str q.2 (s.toks+1)]) (R {s with toks:=s.toks+1+1});refine Tr.dm (n':=0) (a:=mO (s.toks+1+1) r) (s':={s with toks:=s.toks+2*(q::r).length}) ?_ (Tr.pure _) (aV _);exact ab (show s.toks+2*(q::r).length=s.toks+1+1+2*r.length by simp only[bu];lia)<|this
theorem Bs{items:List (jA aw×jA aw)}{A:List (Int×bj)}{s:ao}(ok:fj w p items A)(u:uH A)(M:A.length<=15)(E:11<=s.heap.objs.size):
 Tr w (30*A.length+5) (M7 items) s p s.heap.objs.size {s with heap:=s.heap.push (dG (entries 2 s.toks A)),toks:=s.toks+3*A.length} p:=by
 refine Tr.dm (n':=30*A.length+4) Tr.alloc<|Tr.dm (n:=30*A.length+2) (n':=0) (Tr.holding (a:=()) (s':={s with heap:=s.heap.push (dG (entries 2 s.toks A)),toks:=s.toks+3*A.length}) (p':=p) ?_) (Tr.pure _);refine ab (if_pos (le_of_eq_of_le ok.length M))<|Tr.dm (n':=15*A.length) (zi ok {s with heap:=s.heap.push (dG [])})<|Tr.holding ?_;have Z:=rP (w:=w) (p:=p) (σ:=PUnit) 15 (mO s.toks A) (λx z=>do
  dictSet s.heap.objs.size x.1 x.2
  gS (bP r9)) (λi=>{s with heap:=s.heap.push (dG (entries 2 s.toks (A.take i))),toks:=s.toks+2*A.length+i}) (λz=>⟨⟩) (λi hi=>by
  simp only[mP]at hi;refine Aw (ok.get i (et hi (id (dN ok.length))) hi) λm S K C=>ab (CZ s.toks A i hi ..)<|Tr.dm (n:=10) (n':=0) (k:=15) (Tr.dictSet (s:={s with heap:=s.heap.push (dG (entries 2 s.toks (A.take i))),toks:=s.toks+2*A.length+i}) (m7 s.heap (dG (entries 2 s.toks (A.take i))) rfl) rfl E (λe F=>?_) K C ?_) ?_
  ·refine aC (sY _ _ _ e F) λq D e1=>?_;obtain⟨j,Q,rfl⟩:=qP D;refine ab e1 ?_;simp only[br]at Q;exact ab tN<|uH.ne u j i (by grind) hi (by lia)
  ·show(entries 2 s.toks (A.take i)).toArray.size+1<=_;refine ab eJ (ab (d9 ..) (ab br (ab RF ?_)));lia
  ·have e2:(s.heap.push (dG (entries 2 s.toks (A.take i)))).update s.heap.objs.size (eB (·.push ⟨A[i].1,.int A[i].1 (s.toks+2*i),.str A[i].2 (s.toks+2*i+1)⟩))=s.heap.push (dG (entries 2 s.toks (A.take (i+1)))):=by
    refine ab (mB ..) (ab (yP ..) (ab (ra 2 s.toks A i hi) ?_));rfl
   exact ab e2<|Tr.pure _)
 rw[mP]at Z;simp only[qd,kP,UM]at Z;simp only[show s.toks+2*A.length+A.length=s.toks+3*A.length by lia]at Z;exact Tr.dm (n':=0) Z (Tr.pure _)
theorem sub_dict_dict:isSubtype (.type "dict") (.type "dict")=gS true:=by refine ab (isSubtype_type ..) ?_;kernel_rfl
theorem vF:typeLookup (.type "dict") "__iter__"=gS (some (.builtin "dict.__iter__")):=by refine ab (typeLookup_type ..) (ab builtinLookup_eq_fast ?_);kernel_rfl
theorem xG{s:ao}{a:az}{o:hC}(M:s.heap.get? a=some o):Tr w 1 (typeOf (.ref a)) s p o.cls s p:=Tr.dm (n:=1) (n':=0) (k:=1) (Tr.loadPart M) (Tr.pure _)
theorem Hn{s:ao}{a:az}{es:List cG}(M:s.heap.get? a=some (dG es)):Tr w 1 (PySem.isInstance (.ref a) (.type "dict")) s p true s p:=Tr.dm (n:=1) (n':=0) (k:=1) (xG M)<|ab (show(dG es).cls=.type "dict"from rfl)<|ab sub_dict_dict<|Tr.pure _
theorem Bq{s:ao}{a:az}{es:List cG}(M:s.heap.get? a=some (dG es)):Tr w 1 (specialOf (.ref a) "__iter__") s p (some (.builtin "dict.__iter__")) s p:=Tr.dm (n:=1) (n':=0) (k:=1) (xG M)<|ab (show(dG es).cls=.type "dict"from rfl)<|ab vF<|Tr.pure _
theorem wF{es:List cG}(h:es≠ []):es.toArray.isEmpty=false:=by rcases es with⟨⟩<;>simp_all
theorem L8{h:bk}{d:az}{o:hC}(u:h.get? d=some o):(h.update d λz=>o)=h:=by
 have u:=(bk.get?_some_iff.mp u).1;obtain⟨A,l⟩:=h;show ud _ _=ud _ _;congr 1;apply mD;refineλj=>ab eZ ?_;by_cases e:d=j
 ·subst e;simp[show A[d]? =some o from u]
 ·simp[e]
theorem Br{s:ao}{d sub:az}{es1 es2:List cG}(u:s.heap.get? d=some (dG es1))(G:s.heap.get? sub=some (dG es2))(E:11<=d)(L:d≠sub)(J:es1≠ [])
 (C:(sub==sysModules)=false)(I:∀e∈es2,∃t,e.key=.int e.hash t)(B:(es1++es2).Pairwise λa b=>a.hash<b.hash)(g:es1.length+es2.length<=100000):
 Tr w (20*es2.length+20) (mergeMapping d (.ref sub) false) s p () {s with heap:=s.heap.update d λz=>dG (es1++es2)} p:=by
 refine Tr.dm (n:=1) (n':=20*es2.length+15) (k:=20*es2.length+20) (Hn G)<|Tr.dm (n:=1) (n':=20*es2.length+12) (k:=20*es2.length+15) (Bq G)<|Tr.dm (n:=0) (n':=20*es2.length+12) (k:=20*es2.length+12) (a:=true) (Tr.pure _) ?_;dsimp only;refine ab C<|ab (if_neg aB)<|Tr.dm (n:=1) (n':=20*es2.length+10) (k:=20*es2.length+12) (Tr.dictEntries u rfl)<|ab (wF J)<|ab (if_neg aB)<|Tr.dm (n:=1) (n':=20*es2.length+8) (k:=20*es2.length+10) (Tr.dictEntries G rfl)<|Tr.dm (n:=1) (n':=20*es2.length) (k:=20*es2.length+8) (Tr.dictEpoch G rfl) ?_;have Z:=rP (w:=w) (p:=p) (σ:=PUnit) 20 (aG es2.toArray.size) (λi z=>do
                                                                                                                                                                                                                                                                                                                                                                                                                                                                                                                                                            let l<-dictEntries sub
                                                                                                                                                                                                                                                                                                                                                                                                                                                                                                                                                            match l[i]? with
                                                                                                                                                                                                                                                                                                                                                                                                                                                                                                                                                             |some e=>do
                                                                                                                                                                                                                                                                                                                                                                                                                                                                                                                                                              ie [e.key,e.val] (dictPut d e.hash e.key e.val)
                                                                                                                                                                                                                                                                                                                                                                                                                                                                                                                                                              let l2<-dictEpoch sub
                                                                                                                                                                                                                                                                                                                                                                                                                                                                                                                                                              if(l2 !=es2.length)=true then do
                                                                                                                                                                                                                                                                                                                                                                                                                                                                                                                                                                 unsupported "dict.changed-during-merge"
                                                                                                                                                                                                                                                                                                                                                                                                                                                                                                                                                                 gS (bP r9)
                                                                                                                                                                                                                                                                                                                                                                                                                                                                                                                                                               else gS (bP r9)
                                                                                                                                                                                                                                                                                                                                                                                                                                                                                                                                                             |x=>do
                                                                                                                                                                                                                                                                                                                                                                                                                                                                                                                                                              unsupported "dict.changed-during-merge"
                                                                                                                                                                                                                                                                                                                                                                                                                                                                                                                                                              gS (bP r9)) (λi=>{s with heap:=s.heap.update d λz=>dG (es1++es2.take i)}) (λz=>⟨⟩) (λi hi=>by
  rw[eH,eJ]at hi;refine ab (mG ..)<|aI (I es2[i] (MV hi)) λt S=>Tr.dm (n:=1) (n':=15) (k:=20) (Tr.dictEntries ((Un _ _ _ _ L.symm).trans G) rfl) ?_;refine ab (show(es2.toArray)[i]? =some es2[i]by simp[hi]) ?_;have e2:((s.heap.update d λz=>dG (es1++es2.take i)).update d (eB (·.push ⟨es2[i].hash,.int es2[i].hash t,es2[i].val⟩)))=s.heap.update d λz=>dG (es1++es2.take (i+1)):=by
   have c:(⟨es2[i].hash,.int es2[i].hash t,es2[i].val⟩:cG)=es2[i]:=cA S rfl;refine ab c ?_;obtain⟨A,l⟩:=s.heap;show ud _ _=ud _ _;congr 1;apply mD;refineλj=>ab eZ (ab eZ (ab eZ ?_));by_cases e:d=j
   ·simp only[e,if_true,Option.map_map];congr 1;funext o;show eB (·.push es2[i]) (dG (es1++es2.take i))=_;exact ab (yP ..) (ab (tK ..) (cA (eK hi) rfl))
   ·simp only[e,if_false]
  refine Tr.dm (n:=4) (n':=5) (k:=15) (a:=()) (s':={s with heap:=s.heap.update d λz=>dG (es1++es2.take (i+1))}) (p':=p) (Tr.holding ?_) ?_
  ·have:=Tr.dictPut (w:=w) (p:=p) (s:={s with heap:=s.heap.update d λz=>dG (es1++es2.take i)}) (k:=es2[i].hash) (t:=t) (v:=es2[i].val) (P6 _ u rfl) rfl E (λe F=>by
    rw[Fg]at B;refine ak (dw.mp F) (λq=>?_) λq=>?_
    ·have:=B.2.2 e q es2[i] (MV hi);lia
    ·obtain⟨j,Q,rfl⟩:=qP q;rw[br]at Q;refine ab tN ?_;have:=mS.mp B.2.1 j i (by grind) hi (by lia);lia) (by show(es1++es2.take i).toArray.size+1<=_;refine ab eJ (ab cK (ab br (ab RF ?_)));lia)
   dsimp only at this;rw[e2]at this;exact ab S<|this
  ·have gs':(s.heap.update d λz=>dG (es1++es2.take (i+1))).get? sub=some (dG es2):=(Un _ _ _ _ L.symm).trans G;exact Tr.dm (n:=1) (n':=0) (k:=5) (Tr.dictEpoch (s:={s with heap:=s.heap.update d λz=>dG (es1++es2.take (i+1))}) gs' rfl)<|ab (if_neg (by simp))<|Tr.pure _)
 rw[eH,eJ]at Z;rw[qd,kP,ik]at Z;rw[L8 u]at Z;exact Tr.dm (n':=0) (k:=20*es2.length) Z (Tr.pure _)
end
section
variable{w:cW}{p:eO}
theorem Kh{env:fZ}{dpos:eO}(B:List (Option Expr)):∀(vs:List Expr) (A:List (Int×bj)),nE B vs=some A->(∀q∈A,0<=q.1/\q.1<1000000)->
 ∃C:List (jA aw×jA aw),(evalEachOpt B env).zip ((evalEach vs env).map λv=>do let x<-v;jF dpos;gS x)=C.map (λx=>(some x.1,x.2))/\fj w dpos C A:=by
 induction B with
 |nil=>
  intro vs A h z;rcases vs with _|⟨v,vs⟩
  ·injection h with S;exact cA S<|⟨[],rfl,.nil⟩
  ·injection h
 |cons k B R=>
  refineλvs A h O=>ew λY=>aC (aZ h) λv f h=>aC (aZ h) λi j h=>aC (aZ h) λx t h=>bW h λr G e=>OC j λa b e1=>PJ t λc d e2=>Y ?_;clear Y;refine ab (Rn f) (ab e1 (ab e2 ?_));rw[<-e]at O⊢;refine aC (R _ r G λq D=>O q (ax _ D)) λC f1 f2=>⟨(fe (.Constant (.int i) a b) env,do let y<-fe (.Constant (.str x) c d) env;jF dpos;gS y)::C,?_,.cons ⟨λs=>?_,λs=>?_,O _ aH⟩ f2⟩
  ·rewrite[bI,<-f1];rfl
  ·exact Tr.mkInt i
  ·refine Tr.dm (n:=1) (n':=1) (k:=2) (Tr.mkText x) (Tr.dm (n:=1) (n':=0) (k:=1) (Tr.at _) (Tr.pure _))
theorem sX(d:Nat):∀(t:Nat) (l:List (Int×bj)) (e:cG),e∈entries d t l->∃t',e.key=.int e.hash t':=by
 intro G A;revert G
 induction A with
 |nil=>
  exactλz e h=>(nomatch h)
 |cons q l R=>
  refineλt e h=>ak (aS.mp h) (λH=>?_) λh=>?_;refine ab H ?_
  ·exact⟨t,rfl⟩
  ·exact R _ e h
theorem nH(d:Nat):∀(t:Nat) (l:List (Int×bj)),(entries d t l).map (·.hash)=l.map (·.1):=by
 intro G A;revert G
 induction A with
 |nil=>
  exactλz=>rfl
 |cons q l R=>
  intro t;simp only[entries,bI,bI,R _];rfl
theorem ED{es:List cG}{l:List (Int×bj)}(h:es.map (·.hash)=l.map (·.1))(u:uH l):es.Pairwise λa b=>a.hash<b.hash:=by have:(es.map (·.hash)).Pairwise (·<·):=ab h<|nr.mpr u;exact nr.mp this
noncomputable def k8(t0:Nat)(A:List (Int×bj))(m:Nat):List cG:=entries 3 t0 (A.take (17*m))
noncomputable def Hd(t0:Nat)(A:List (Int×bj))(j:Nat):hC:=dG (entries 3 (t0+51*j) ((A.drop (17*j)).take 17))
noncomputable def gY(H:bk)(t0:Nat)(A:List (Int×bj)):Nat->bk
 |0=>H
 |m+1=>eQ (H.push (dG (k8 t0 A (m+1)))) ((aG m).map λj=>Hd t0 A (j+1))
noncomputable def od(H:bk):Nat->Option az
 |0=>none
 |m+1=>some H.objs.size
theorem vH(t0:Nat)(A:List (Int×bj))(m:Nat)(h:17*(m+1)<=A.length):k8 t0 A (m+1)=k8 t0 A m++entries 3 (t0+51*m) ((A.drop (17*m)).take 17):=by delta k8;refine ab (show 17*(m+1)=17*m+17 by exact B2 17 m) (ab zG (ab (oM ..) (ab br (ab (fz (by exact oy h)) ?_))));exact ab (show 3*(17*m)=51*m by lia) rfl
noncomputable def vg(A:List (jA aw×jA aw))(main:Option az):jA (Option az):=do
 if A.isEmpty then return main
 match main with
 |none=>return some (<-M7 A)
 |some d=>
  let sub<-ie [.ref d] (M7 A)
  (ie [.ref d,.ref sub] (mergeMapping d (.ref sub) false)).onRaise λx=>do let _<-ie [.ref d,x] (runValue (.builtin "proto.let_go" {}))
  return some d
theorem L2{H:bk}{gens:Array xU}{drawn:Drawn}{os:dA}{t0:Nat}{C:List (jA aw×jA aw)}{A:List (Int×bj)}(ok:fj w p C A)(u:uH A)(E:11<=H.objs.size)(g:A.length<=5000)(m:Nat)(T:17*(m+1)<=A.length):
 Tr w 2000 (vg ((C.drop (17*m)).take 17) (od H m)) ⟨gY H t0 A m,gens,drawn,t0+51*m,os⟩ p (od H (m+1)) ⟨gY H t0 A (m+1),gens,drawn,t0+51*(m+1),os⟩ p:=by
 have X:=ok.length;have J:=(ok.drop (17*m)).take 17;have G:uH ((A.drop (17*m)).take 17):=(u.sublist (MB _ _)).sublist (tO _ _);have F:((A.drop (17*m)).take 17).length=17:=by refine ab br (ab bB ?_);lia
 have SG:((C.drop (17*m)).take 17).length=17:=by refine ab br (ab bB ?_);lia
 delta vg;refine ab (if_neg (by rw[dx];intro e;rw[e]at SG;injection SG)) ?_;clear SG;rcases m with _|m
 ·have:=vU (s:=⟨H,gens,drawn,t0,os⟩) J G (by refine ab F ?_;decide) (by refine ab F ?_;decide) E;rw[F]at this;exact Tr.dm (n:=515) (n':=0) (k:=2000) this<|Tr.pure _
 ·have D:(gY H t0 A (m+1)).objs.size=H.objs.size+1+m:=by
   refine ab (rC ..) (ab (aY ..) (ab eH ?_));exact ab (gj ..) rfl
  have:=vU (s:=⟨gY H t0 A (m+1),gens,drawn,t0+51*(m+1),os⟩) J G (by refine ab F ?_;decide) (by refine ab F ?_;decide) (by show 11<=(gY H t0 A (m+1)).objs.size;refine ab D ?_;lia);rw[F]at this;refine Tr.dm (n:=515) (n':=400) (k:=2000) (Tr.holding this) ?_;have mg:=Br (w:=w) (p:=p) (s:=⟨(gY H t0 A (m+1)).push (Hd t0 A (m+1)),gens,drawn,t0+51*(m+1+1),os⟩) (d:=H.objs.size) (sub:=(gY H t0 A (m+1)).objs.size) (es1:=k8 t0 A (m+1)) (es2:=entries 3 (t0+51*(m+1)) ((A.drop (17*(m+1))).take 17))
   (cC _ (tv _ _ _ _ (m7 H _ rfl))) (m7 _ _ rfl) E (jb (by refine ab D ?_;lia)) (by
     intro e;have:=congrArg dp e;simp only[k8,d9,br,gk]at this;lia) (beq_eq_false_iff_ne.mpr λe=>by have B:(gY H t0 A (m+1)).objs.size=1:=e;lia) (sX _ _ _) (cA (vH t0 A (m+1) T)<|ED (nH _ _ _) (u.sublist (tO _ _))) (by
     simp only[k8,d9,d9,F,br];lia)
  rw[d9,F]at mg;refine Tr.dm (n:=360) (n':=0) (k:=400) (Tr.onRaise (Tr.holding mg)) ?_;have e:((gY H t0 A (m+1)).push (Hd t0 A (m+1))).update H.objs.size (λz=>dG (k8 t0 A (m+1)++entries 3 (t0+51*(m+1)) ((A.drop (17*(m+1))).take 17)))=gY H t0 A (m+1+1):=by refine cA (vH t0 A (m+1) T) (ab (lU _ _ _ _ (by show H.objs.size< (gY H t0 A (m+1)).objs.size;refine ab D ?_;lia)) ?_);show(bk.update (eQ _ _) _ _).push _=eQ _ _;exact ab (oX _ _ _ _ (by show _< (H.objs.push _).size;refine ab (gj ..) ?_;lia)) (ab (mB ..) (ab Qc (ab ed (ab bI (ab List.map_nil (ab (rD ..) rfl))))))
  dsimp only;exact ab e<|Tr.pure _
end
section
variable{w:cW}{p:eO}
theorem KG{i n:Nat}(h:i<n):i% 17<n-17*(i/17):=Nat.lt_sub_of_add_lt (ab (tP ..)<|ab (wz ..)<|h)
theorem R7{i:Nat}(h:i% 17=16):(i+1)/17=i/17+1:=by lia
theorem R8{i:Nat}(h:i% 17≠16):(i+1)/17=i/17:=by lia
theorem R9{i:Nat}(h:i% 17≠16):(i+1)% 17=i% 17+1:=by lia
theorem Sb{n m r:Nat}(h:n=17*(m+1)+r)(G:r<=15):n/17=m+1:=by lia
theorem Sd{n m r:Nat}(h:n=17*(m+1)+r)(G:r<=15):n% 17=r:=by lia
theorem Di{H:bk}{gens:Array xU}{drawn:Drawn}{os:dA}{t0:Nat}{C:List (jA aw×jA aw)}{A:List (Int×bj)}(ok:fj w p C A)(u:uH A)(E:11<=H.objs.size)(g:A.length<=5000)
 (m F:Nat)(B:A.length=17*(m+1)+F)(Y:0<F)(G:F<=15):
 Tr w (2000*A.length+2000) (RC (C.map λx=>(some x.1,x.2))) ⟨H,gens,drawn,t0,os⟩ p (.ref H.objs.size)
  ⟨eQ (H.push (dG (k8 t0 A (m+1)++entries 2 (t0+51*(m+1)) (A.drop (17*(m+1)))))) ((aG m).map (λj=>Hd t0 A (j+1))++ [dG (entries 2 (t0+51*(m+1)) (A.drop (17*(m+1))))]),gens,drawn,t0+51*(m+1)+3*F,os⟩ p:=by
 have X:=ok.length;let S:Nat->ao:=λi=>⟨gY H t0 A (i/17),gens,drawn,t0+51*(i/17),os⟩;let V:Nat->Option az×List (jA aw×jA aw):=λi=>(od H (i/17),(C.drop (17*(i/17))).take (i% 17));have o:(C.map λx=>((some x.1:Option (jA aw)),x.2)).length=A.length:=ab (aY ..) (ab X rfl);delta RC;refine Tr.dm (n:=2000*(C.map λx=>((some x.1:Option (jA aw)),x.2)).length) (n':=2000) (a:=V (C.map λx=>((some x.1:Option (jA aw)),x.2)).length)
  (s':=S (C.map λx=>((some x.1:Option (jA aw)),x.2)).length) (p':=p) (rP 2000 (C.map λx=>((some x.1:Option (jA aw)),x.2)) _ S V λi hi=>?_) ?_ (ab o<|aV _)
 ·have I:i<C.length:=by rw[aY]at hi;exact hi
  refine ab (uA ..) ?_;have L:(C.drop (17*(i/17))).take (i% 17)++ [C[i]]=(C.drop (17*(i/17))).take (i% 17+1):=by have:i% 17< (C.drop (17*(i/17))).length:=ab bB<|KG I;refine ab (eK this) (ab MC ?_);congr 3;exact dN (wz i 17)
  have K:((C.drop (17*(i/17))).take (i% 17+1)).length=i% 17+1:=ab br<|ab bB<|fz (KG I);show Tr w 2000 (if(((C.drop (17*(i/17))).take (i% 17)++ [(C[i].1,C[i].2)]).length==17)=true then do let mn<-vg ((C.drop (17*(i/17))).take (i% 17)++ [(C[i].1,C[i].2)]) (od H (i/17));gS (bP (mn,[]))
   else gS (bP (od H (i/17),(C.drop (17*(i/17))).take (i% 17)++ [(C[i].1,C[i].2)]))) _ _ _ _ _
  refine ab (show(C[i].1,C[i].2)=C[i]from rfl) (ab L (ab K ?_));by_cases M:i% 17=16
  ·refine ab (if_pos (by refine ab M ?_;rfl)) ?_;have t:=R7 M;have P:(i+1)% 17=0:=Nat.succ_mod_succ_eq_zero_iff.mpr M;refine Tr.dm (n:=2000) (n':=0) (k:=2000) (a:=od H (i/17+1)) (s':=S (i+1)) (p':=p) ?_ ?_
   ·refine ab (show i% 17+1=17 by exact tT.mpr M) ?_;show Tr w 2000 _ _ p _ ⟨gY H t0 A ((i+1)/17),gens,drawn,t0+51*((i+1)/17),os⟩ p;exact ab t<|(L2 (w:=w) (p:=p) (H:=H) (gens:=gens) (drawn:=drawn) (os:=os) (t0:=t0) ok u E g (i/17) (by lia))
   ·have:V (i+1)=(od H (i/17+1),[]):=by
     show(od H ((i+1)/17),(C.drop (17*((i+1)/17))).take ((i+1)% 17))=_;exact ab t (ab P (ab qd rfl))
    exact ab this<|Tr.pure _
  ·refine ab (if_neg (by simp only[beq_iff_eq];exact Nat.add_one_ne_add_one_iff.mpr M)) ?_;have t:=R8 M;have P:=R9 M;have e1:V (i+1)=(od H (i/17),(C.drop (17*(i/17))).take (i% 17+1)):=by
    show(od H ((i+1)/17),(C.drop (17*((i+1)/17))).take ((i+1)% 17))=_;exact ab t (ab P rfl)
   have e2:S (i+1)=S i:=by show(⟨gY H t0 A ((i+1)/17),gens,drawn,t0+51*((i+1)/17),os⟩:ao)=⟨gY H t0 A (i/17),gens,drawn,t0+51*(i/17),os⟩;exact ab t rfl
   exact ab e1<|ab e2<|(Tr.pure _).mono (bz _)
 ·refine ab o ?_;have t:=Sb B G;have e1:V A.length=(od H (m+1),C.drop (17*(m+1))):=by
   show(od H (A.length/17),(C.drop (17*(A.length/17))).take (A.length% 17))=_;exact ab t (ab (Sd B G) (ab (fJ (by refine ab bB ?_;lia)) rfl))
  have e2:S A.length=⟨gY H t0 A (m+1),gens,drawn,t0+51*(m+1),os⟩:=by show(⟨gY H t0 A (A.length/17),gens,drawn,t0+51*(A.length/17),os⟩:ao)=_;exact ab t rfl
  refine ab e1 (ab e2 ?_);have J:=ok.drop (17*(m+1));have N:(A.drop (17*(m+1))).length=F:=ab bB<|dN (Dy (id (dN B)));have O:(C.drop (17*(m+1))).length=F:=by refine ab bB ?_;lia
  have D:(gY H t0 A (m+1)).objs.size=H.objs.size+1+m:=by show(eQ _ _).objs.size=_;refine ab (rC ..) (ab (aY ..) (ab eH ?_));show(H.objs.push _).size+m=_;exact ab (gj ..) rfl
  show Tr w 2000 (vg (C.drop (17*(m+1))) (some H.objs.size)>>=_) _ _ _ _ _;refine Tr.dm (n:=2000) (n':=0) (k:=2000) (a:=some H.objs.size) (p':=p) ?_ (Tr.pure _);delta vg;refine ab (if_neg (by rw[dx];intro e;rw[e]at O;rw[gk]at O;lia)) ?_;have:=Bs (s:=⟨gY H t0 A (m+1),gens,drawn,t0+51*(m+1),os⟩) J (u.sublist (MB _ _)) (ab N<|oi.mp G) (by show 11<=(gY H t0 A (m+1)).objs.size;refine ab D ?_;lia);rw[N]at this;refine Tr.dm (n:=30*F+5) (n':=1500) (k:=2000) (Tr.holding this) ?_;have mg:=Br (w:=w) (p:=p) (s:=⟨(gY H t0 A (m+1)).push (dG (entries 2 (t0+51*(m+1)) (A.drop (17*(m+1))))),gens,drawn,t0+51*(m+1)+3*F,os⟩) (d:=H.objs.size) (sub:=(gY H t0 A (m+1)).objs.size) (es1:=k8 t0 A (m+1)) (es2:=entries 2 (t0+51*(m+1)) (A.drop (17*(m+1))))
   (cC _ (tv _ _ _ _ (m7 H _ rfl))) (m7 _ _ rfl) E (jb (by refine ab D ?_;lia)) (by
     intro e;have:=congrArg dp e;rw[k8,d9,br,gk]at this;lia) (beq_eq_false_iff_ne.mpr λe=>by have Q:(gY H t0 A (m+1)).objs.size=1:=e;lia) (sX _ _ _) (by
     refine ED (l:=A.take (17*(m+1))++A.drop (17*(m+1))) ?_ (ab (fR ..)<|u);refine ab ed ?_;rewrite[k8];exact ab (nH ..) (ab (nH ..) (ab ed rfl))) (by
     rewrite[k8];refine ab (d9 ..) (ab (d9 ..) (ab br (ab bB ?_)));lia)
  rw[d9,N]at mg;refine Tr.dm (n:=20*F+20) (n':=0) (k:=1500) (Tr.onRaise (Tr.holding mg)) ?_;have e:((gY H t0 A (m+1)).push (dG (entries 2 (t0+51*(m+1)) (A.drop (17*(m+1)))))).update H.objs.size (λz=>dG (k8 t0 A (m+1)++entries 2 (t0+51*(m+1)) (A.drop (17*(m+1)))))=
   eQ (H.push (dG (k8 t0 A (m+1)++entries 2 (t0+51*(m+1)) (A.drop (17*(m+1)))))) ((aG m).map (λj=>Hd t0 A (j+1))++ [dG (entries 2 (t0+51*(m+1)) (A.drop (17*(m+1))))]):=by
   refine ab (lU _ _ _ _ (by show H.objs.size< (gY H t0 A (m+1)).objs.size;refine ab D ?_;lia)) (ab (rD ..) ?_);show(bk.update (eQ _ _) _ _).push _=_;exact ab (oX _ _ _ _ (by show _< (H.objs.push _).size;refine ab (gj ..) ?_;lia)) (ab (mB ..) rfl)
  dsimp only;exact ab e<|Tr.pure _
end
noncomputable def kS:eO:=(Jk.map (·.2.2)).getD default
noncomputable def yU:eO:=(IE.bind λq=>q.1.head?.bind λe=>if h:e.ctorIdx=23 then tE (motive_1:=λz=>Option _) e h (λz p=>some p)else none).getD default
noncomputable def Q9:eO:=(IE.map (·.2.2)).getD default
theorem Pr:Bl 21 1= [.Assign [.Name (qQ "b3_exceptions") yU] (.Dict qC qM kS) Q9]:=by kernel_rfl
theorem K2:nE qC qM=some iT:=by kernel_rfl
noncomputable def pD:Int->List (Int×bj)->Bool
 |_,[]=>true
 |k,q::r=>decide (k<q.1)&&decide (q.1<1000000)&&pD q.1 r
theorem Lb:(∀A,pD A []=(true))/\
 (∀k q r,pD k (q::r)=(decide (k<q.1)&&decide (q.1<1000000)&&pD q.1 r)):=⟨by intros;rfl,by intros;rfl⟩
theorem pE:∀(l:List (Int×bj)) (k:Int),pD k l=true->uH l/\∀q∈l,k<q.1/\q.1<1000000:=by
 intro G
 induction G with
 |nil=>
  exactλk h=>⟨tJ,λq D=>(nomatch D)⟩
 |cons q r R=>
  intro k h;simp only[(id Lb),au,decide_eq_true_eq]at h;refine aN h λo1 Z=>?_;clear h;refine aN o1 λJ U=>aN (R q.1 Z) λi1 o=>⟨fO.mpr ⟨λa L=>(o a L).1,i1⟩,λa L=>?_⟩;refine ak (aS.mp L) (λH=>?_) λL=>?_;subst H
  ·exact⟨J,U⟩
  ·have:=o a L;omega+splitDisjunctions
theorem rF:pD 0 iT=true:=by kernel_rfl
theorem GJ:qE=dG (k8 408 iT (37+1)++entries 2 (408+51*(37+1)) (iT.drop (17*(37+1))))::((aG 37).map (λj=>Hd 408 iT (j+1))++ [dG (entries 2 (408+51*(37+1)) (iT.drop (17*(37+1))))]):=by kernel_rfl
@[irreducible] noncomputable def xH(P:il):BT:=yG (mQ P) 110 qE
noncomputable def J6:BT->Nat->List hC->Bool
 |_,_,[]=>true
 |T,n,o::r=>((T.ins n o).get n).isSome&&J6 (T.ins n o) (n+1) r
theorem SM(P:il):J6 (mQ P) 110 qE=true:=by kernel_rfl
theorem Be:∀(os:List hC) (T:BT) (n:Nat) (life:Life),J6 T n os=true->eQ (kM T n life) os=kM (yG T n os) (n+os.length) life:=by
 intro G
 induction G with
 |nil=>
  exactλT n life h=>rfl
 |cons o r P=>
  refineλT n life h=>aN (Bool.and_eq_true_iff.mp h) λJ U=>?_;show eQ ((kM T n life).push o) r=_;refine cA (absHeap_ins J) (ab (P _ _ life U) (ab bu (ab (show n+1+r.length=n+(r.length+1)by exact dS n r.length) ?_)));rfl
noncomputable def LU:jA kO:=do assignStores nU.jI (.ref 110) (<-H3 [.Name (qQ "b3_exceptions") yU] (.Dict qC qM kS) nU.jI) ((Fp [.Name (qQ "b3_exceptions") yU] nU.jI).map (·.2))
theorem PC(w:cW)(os:dA)(K:kO->jA Fin)(H:aw->jA Fin)(F:Bool->Bool)(D:List aw->List aw):qJ rQ P0 w 11 r6 7 ⟨kM (xH w.params) 149 {},#[],{},2358,os⟩ ⟨LU.wrap K H F D,c0,kS,B0⟩=
 some ((H8 w.params os).abs,⟨K .next,c0,⟨171,0,171,13⟩,B0⟩):=by kernel_rfl
theorem yW(h:bk)(o:hC)(os:List hC):eQ (h.push o) os=eQ h (o::os):=rfl
theorem J0{P:il}{o:hC}{os:List hC}(e:qE=o::os)(X:os.length=38):eQ ((kM (mQ P) 110 {}).push o) os=kM (xH P) 149 {}:=by refine ab (yW ..) (cA e (ab (Be qE (mQ P) 110 {} (SM P)) ?_));have:qE.length=39:=ab e (ab bu (ab X rfl));refine ab this ?_;delta xH;rfl
theorem VW(f:Nat->hC)(o:hC):((aG 37).map f++ [o]).length=38:=by refine ab cK (ab (aY ..) (ab eH ?_));rfl
theorem NV{C:List (jA aw×jA aw)}(w:cW)(os:dA)(ok:fj w kS C iT):
 Tr w (2000*650+2000) (RC (C.map λx=>(some x.1,x.2))) ⟨kM (mQ w.params) 110 {},#[],{},408,os⟩ kS (.ref 110) ⟨kM (xH w.params) 149 {},#[],{},2358,os⟩ kS:=by
 have g:(kM (mQ w.params) 110 {}).objs.size=110:=absHeap_size _ _ _;have d:=Di (w:=w) (p:=kS) (H:=kM (mQ w.params) 110 {}) (gens:= #[]) (drawn:={}) (os:=os) (t0:=408) ok ((pE iT 0 rF).1) (by refine ab g ?_;decide) (by refine ab sJ ?_;decide) 37 4 (sJ) (by decide) (by decide);rw[sJ,g,J0 GJ (VW _ _)]at d;exact d
theorem PG(w:cW)(os:dA)(p:eO):Tr w 1310000 (fe (.Dict qC qM kS) nU.jI) ⟨kM (mQ w.params) 110 {},#[],{},408,os⟩ p (.ref 110) ⟨kM (xH w.params) 149 {},#[],{},2358,os⟩ kS:=aC (Kh (w:=w) (env:=nU.jI) (dpos:=kS) qC qM iT K2 λq D=>⟨aF (((pE iT 0 rF).2) q D).1,(((pE iT 0 rF).2) q D).2⟩) λC e1 ok=>ab (arm_eval_Dict ..)<|ab e1<|Tr.dm (n:=1) (n':=2000*650+2000) (k:=1310000) (Tr.at _) (NV w os ok)
theorem PI(w:cW)(os:dA):Tr w 7 LU ⟨kM (xH w.params) 149 {},#[],{},2358,os⟩ kS .next (H8 w.params os).abs ⟨171,0,171,13⟩:=by intro K H F D N r G;have g:=PC w os K H F D;dsimp only[qJ]at g;rw[<-jz,<-zj]at g;exact L1 g G
theorem PH(w:cW)(os:dA)(p:eO):Tr w 1400000 (sf (.Assign [.Name (qQ "b3_exceptions") yU] (.Dict qC qM kS) Q9) nU.jI) (RJ w.params os).abs p .next (H8 w.params os).abs ⟨171,0,171,13⟩:=Tr.dm (n:=1) (n':=1390000) (k:=1400000) (Tr.at _)<|Tr.dm (n:=0) (n':=1390000) (k:=1390000) (Tr.pure _)<|Tr.dm (n:=1310000) (n':=7) (k:=1390000) (PG w os _) (PI w os)
noncomputable abbrev Zv(w:cW)(os:dA):ao:=(Fx w.params os).abs
theorem R0(w:cW)(os:dA)(rest:List bC)(N:Nat)(r:ao)
 (h:nC fM P0 w 11 r6 N (H8 w.params os).abs (H0 rest nU.jI c0 ⟨171,0,171,13⟩ B0)=some r):
 nC fM P0 w 11 r6 (N+1400000) (RJ w.params os).abs (H0 (Bl 21 1++rest) nU.jI c0 ⟨169,0,170,30⟩ B0)=some r:=by
 refine ab Pr ?_;delta H0;exact ab DB<|ab (execs_cons_wrap ..)<|PH w os _ _ _ _ _ N r h
theorem pF{w:cW}{n N:Nat}{s s':sd}{r:ao}{l rest:List bC}{pos p':eO}
 (h:Ho rQ P0 w 11 r6 1 n s ⟨(sQ l nU.jI).wrap doneF RB id id,c0,pos,B0⟩=some (.next,s',c0,p'))
 (k:nC fM P0 w 11 r6 N s'.abs (H0 rest nU.jI c0 p' B0)=some r):nC fM P0 w 11 r6 (n+N) s.abs (H0 (l++rest) nU.jI c0 pos B0)=some r:=by
 unfold Ho sQ at h;rw[<-PySem.W.Fast.te10110043849684766642,<-zj,<-PySem.W.Fast.te12563942051412417395]at h;exact piece_app (segRun_of h) k
theorem Sp(w:cW)(os:dA):nC fM P0 w 11 r6 2 (Fx w.params os).abs (H0 [] nU.jI c0 ⟨278,0,314,93⟩ B0)=some (Fx w.params os).abs:=by kernel_rfl
theorem Cj:qR P0=Bl 0 19++(Bl 19 1++(Bl 20 1++(Bl 21 1++(Bl 22 13++ [])))):=by kernel_rfl
theorem Pg(w:cW)(os:dA):nC fM P0 w 11 r6 (12+(1+(460+(999+(30+((380+2)+1400000)))))) ⟨mI w.params,#[],HX,Ql,os⟩ (topStub P0)=some (Fx w.params os).abs:=by
 have g:=TH w os;unfold qJ rQ ES at g;rw[<-jz,<-jy,<-PySem.W.Fast.te11892475500146522536]at g;refine go_top g ?_;have b:=IT w os;unfold EV rQ at b;rw[<-PySem.W.Fast.te14374325043358763698,<-jy]at b;refine piece_block b ?_;have Z:nC fM P0 w 11 r6 (460+(999+(30+((380+2)+1400000)))) (H7 w.params os).abs (H0 (Bl 0 19++(Bl 19 1++(Bl 20 1++(Bl 21 1++(Bl 22 13++ []))))) nU.jI c0 ⟨0,0,0,0⟩ B0)=some (Fx w.params os).abs:=by have A:=Li w os;unfold Lh at A;refine pF A ?_;have B:=Wv (w.params.followText "special-get-raises") w os;rw[Qk]at B;refine pF B ?_;have C:=Lk w os;unfold Lj at C;refine pF C<|R0 w os _ _ _ ?_;have D:=Lm w os;unfold Ll at D;exact pF D (Sp w os)
 rw[<-Cj]at Z;exact Z
noncomputable def GI:hC:=dG (oK 50 408 iT).flatten
noncomputable def Xk(s:ao):Option hC×Option hC:=(s.heap.get? 99,s.heap.get? 110)
noncomputable def Xj(w:cW):Option hC×Option hC:=(some (Uz w.params),some GI)
theorem V3(w:cW)(os:dA):Xk (S1 w os)=Xj w:=by kernel_rfl
theorem TB:opening P0=plainProg P0.main.scope.names:=by kernel_rfl
theorem Sn(s:ao):fenceModules? P0 s=some s:=by kernel_rfl
theorem WL(w:cW):((mI w.params).isNs d8&&(YL ([]:List xU)).size==0,(mI w.params).objs.size,(mI w.params).nsMap d8 "__annotations__")=(true,11,r6):=by kernel_rfl
theorem VV:LeftO P0 q0 kl Va Xk Xj 2000000:=by
 refine LeftO.of_pieces (H₀:=mI) (H₁:=H1) (gs₀:=YL []) (gs₁:= #[]) (d₀:=HX) (d₁:={}) (k₀:=Ql) (k₁:=2474) (m₀:=11) (ann:=r6)
  (M:=12+(1+(460+(999+(30+((380+2)+1400000)))))) (boot_open TB (by rfl) Sn) WL (λw os=>Pg w os) (by rfl) λw=>?_
 funext os;have l6:=V2 w os;dsimp only[xF]at l6;rw[<-PySem.W.Fast.te4187177175401517315]at l6;have l3:=V0 w os;have l7:=V3 w os;unfold S1 at l3 l6 l7;exact ab (VY w os)<|ab (VZ w os)<|ab (V1 w os)<|YQ (by refine ab l3 ?_;rfl) (YQ l6 l7)
def H9(mg:bj->Option aw)(h:bk):Prop:=(mg "b1_set"=some (.ref 99)/\mg "b3_exceptions"=some (.ref 110))/\tD mg h "_int2digits"=some (.ref PD)/\tD mg h "_digits2int"=some (.ref T9)
theorem He{h:bk}{c v:aw}(e:Rl h c=some v){I:Prop}(N:∀a o vs,c=.ref a->h.get? a=some o->o.data=.fields vs->vs[11]? =some v->I):I:=
 aC (aZ e) λa J e=>aC (aZ e) λo U e=>aC (aZ e) λvs Z e=>N a o vs (EE J) U (NX Z) e
theorem JM{mg:bj->Option aw}{h:bk}{x:bj}{v:aw}(e:fnOf mg h x=some v){I:Prop}(N:∀a o fd,mg x=some (.ref a)->h.get? a=some o->o.data=.func fd->fd.code=v->I):I:=
 aC (aZ e) λv J e=>aC (aZ e) λa U e=>aC (aZ e) λo Z e=>bW e λfd d O=>N a o fd (EE U▸J) Z (JS d) O
theorem sO{mg:bj->Option aw}{h:bk}{x:bj}{v:aw}(e:tD mg h x=some v){I:Prop}(N:∀a o fd c A vs,mg x=some (.ref a)->h.get? a=some o->o.data=.func fd->fd.code=.ref c->h.get? c=some A->A.data=.fields vs->vs[11]? =some v->I):I:=
 aC (aZ e) λcd P e=>JM P λa o fd J U Z d=>He e λc A vs f j t g4=>N a o fd c A vs J U Z (d.trans f) j t g4
theorem Bo{mg:bj->Option aw}{h:bk}{x:bj}{v:aw}{a c:az}{o A:hC}{fd:xT}{vs:Array aw}(J:mg x=some (.ref a))(U:h.get? a=some o)(Z:o.data=.func fd)(d:fd.code=.ref c)(O:h.get? c=some A)
 (T:A.data=.fields vs)(V:vs[11]? =some v):tD mg h x=some v:=by
 have e:fnOf mg h x=some (.ref c):=by show((mg x).bind _)=_;refine ab J ?_;show((h.get? a).bind _)=_;refine ab U ?_;show((JR o.data).map _)=_;exact ab Z<|congrArg some d
 delta tD;refine ab e ?_;show((h.get? c).bind _)=some v;refine ab O ?_;show((Sq A.data).bind _)=some v;exact ab T<|V
theorem P2(mg:bj->Option aw)(h h':bk)(a:H9 mg h)(k:∀b o,h.get? b=some o->h'.get? b=some o):H9 mg h':=by
 refine⟨a.1,?_,?_⟩
 ·exact sO a.2.1 λa o fd c A vs J U Z d O T V=>Bo J (k _ _ U) Z d (k _ _ O) T V
 ·exact sO a.2.2 λa o fd c A vs J U Z d O T V=>Bo J (k _ _ U) Z d (k _ _ O) T V
def Ib(w:cW)(h:bk):Prop:=h.get? 99=some (Uz w.params)/\h.get? 110=some GI
theorem W9(s:ao)(e:Va s=true):H9 (s.heap.nsMap d8) s.heap:=by delta Va at e;simp only[au,beq_iff_eq]at e;exact e
theorem Xb(w:cW)(s:ao)(e:Xk s=Xj w):Ib w s.heap:=⟨congrArg Prod.fst e,congrArg Prod.snd e⟩
noncomputable abbrev MP:=PySem.Challenge.rw_uc0054_01.row
theorem WJ:PySem.Challenge.rw_uc0054_01.wellSaid=true:=by kernel_rfl
theorem V9(V:∀d D,defOf q0 MP.name=some (d,D)->WalkO q0 kl H9 Ib MP.toRowW d D λf vs=>PySem.call f vs):PySem.Challenge.rw_uc0054_01.Holds:=by
 w_on
 refine holds_law WJ λA=>holds_open (q:=q0) (loose:=kl) (Xt:=Va) (XP:=H9) (Yf:=Xk) (Ya:=Xj) (YP:=Ib) (N:=2000000) VV Xb (λw h h' a k=>⟨k _ _ a.1,k _ _ a.2⟩) W9 P2 (by rfl) (by rfl) (by rfl) (λs e=>recFacts_nil rfl) (by rfl) (by assumption) (by decide+kernel) ⟨rfl,rfl,rfl,rfl,rfl,by decide+kernel⟩ ?Y ?V
 case Y=>w_witness2
 case V=>exact V _ _ (by rfl)
end
inductive AV where
 |c|none|bool (b:Bool)|int (i:Int)|str (x:List Nat)|tup (l:List AV)|lst (l:List AV)|ref (n:Nat)
inductive kR where
 |bX (i:Nat)|many (l:List Nat)
set_option genInjectivity false in
set_option genCtorIdx false in
inductive CE where
 |q|u (b:Bool)|d (i:Int)|l (x:List Nat)
 |a (i:Nat)
 |n (k:Nat)
 |f (op:cV) (a b:CE)
 |neg (a:CE)|inv (a:CE)
 |E (a b:CE)
 |cmp (op:kF) (a b:CE)
 |B (op op2:kF) (a b c:CE)
 |C (a:CE)|band (l:List CE)|bor (l:List CE)
 |N (t a b:CE)
 |list (l:List CE)|tuple (l:List CE)
 |sub (a i:CE)
 |F (a lo:CE)|A (a hi:CE)|G (a lo hi:CE)
 |len (a:CE)|I (l:List CE)
 |Cq (a:CE)|U (a:CE)|S (a b:CE)|D (a:CE)|sorted (a:CE)|Ad (a:CE)|Q (a:CE)|divmod (a b:CE)
 |lower (a:CE)|upper (a:CE)|Z (a:CE) (x y:List Nat)|join (a:CE)|index (a b:CE)|qk (a:CE)
 |J5 (a:CE)|xc (a:CE)
 |call (f:Nat) (l:List CE)
 |comp (e:CE) (t:kR) (it:CE)|y (e:CE) (t:kR) (it c:CE)
 |j (l:List CE)|K (a:CE)|M (a:CE)
set_option genInjectivity false in
set_option genCtorIdx false in
inductive CS where
 |cI (t:kR) (e:CE)|Cf (i j:Nat) (e:CE)
 |new (i:Nat) (e:CE)|GG (i:Nat) (row it:CE) (x:Nat)
 |J (a ix e:CE)
 |aug (i:Nat) (op:cV) (e:CE)|oH (i:Nat) (ix:CE) (op:cV) (e:CE)
 |ite (c:CE) (a b:List CS)|P (c:CE) (b:List CS)|m (t:kR) (it:CE) (b:List CS)
 |ret (e:CE)|brk|K5
 |app (i:Nat) (e:CE)|rev (i:Nat)
 |v (i:Nat)
noncomputable def CE.ix(e:CE):Nat:=CE.casesOn (motive_1:=λz=>Nat) e 0 (λz=>1) (λz=>2) (λz=>3) (λz=>4) (λz=>5) (λz z z=>6) (λz=>7) (λz=>8) (λz z=>9) (λz z z=>10) (λz z z z z=>11) (λz=>12) (λz=>13) (λz=>14) (λz z z=>15) (λz=>16) (λz=>17) (λz z=>18) (λz z=>19) (λz z=>20) (λz z z=>21) (λz=>22) (λz=>23) (λz=>24) (λz=>25) (λz z=>26) (λz=>27) (λz=>28) (λz=>29) (λz=>30) (λz z=>31) (λz=>32) (λz=>33) (λz z z=>34) (λz=>35) (λz z=>36) (λz=>37) (λz=>38) (λz=>39) (λz z=>40) (λz z z=>41) (λz z z z=>42) (λz=>43) (λz=>44) (λz=>45)
noncomputable def CE.good(e:CE):Bool:= [2,4,16,23,43,44,45].contains e.ix
noncomputable def CE.RX.{u}{P:CE->Sort u}(e:CE)(C:∀(i:Int),P (.d i))(G:∀(i:Nat),P (.a i))(D:∀(l:List CE),P (.list l))(A:∀(l:List CE),P (.I l))(B:∀(l:List CE),P (.j l))(E:∀(a:CE),P (.K a))(F:∀(a:CE),P (.M a))(M:e.good=false->P e):P e:=
 CE.casesOn (motive_1:=λe=>(e.good=false->P e)->P e) e (λk=>k rfl) (λz k=>k rfl) (λi z=>C i) (λz k=>k rfl) (λi z=>G i) (λz k=>k rfl) (λz z z k=>k rfl) (λz k=>k rfl) (λz k=>k rfl) (λz z k=>k rfl) (λz z z k=>k rfl) (λz z z z z k=>k rfl) (λz k=>k rfl) (λz k=>k rfl) (λz k=>k rfl) (λz z z k=>k rfl) (λl z=>D l) (λz k=>k rfl) (λz z k=>k rfl) (λz z k=>k rfl) (λz z k=>k rfl) (λz z z k=>k rfl) (λz k=>k rfl) (λl z=>A l) (λz k=>k rfl) (λz k=>k rfl) (λz z k=>k rfl) (λz k=>k rfl) (λz k=>k rfl) (λz k=>k rfl) (λz k=>k rfl) (λz z k=>k rfl) (λz k=>k rfl) (λz k=>k rfl) (λz z z k=>k rfl) (λz k=>k rfl) (λz z k=>k rfl) (λz k=>k rfl) (λz k=>k rfl) (λz k=>k rfl) (λz z k=>k rfl) (λz z z k=>k rfl) (λz z z z k=>k rfl) (λl z=>B l) (λa z=>E a) (λa z=>F a) M
theorem nL{n:Nat}{e:CE}(Q: [2,4,16,23,43,44,45].contains n=true)(g:e.good=false)(h:e.ix=n):False:=aB (g.symm.trans ((congrArg (List.contains [2,4,16,23,43,44,45]) h).trans Q))
noncomputable def CE.Ct.{u}{motive_1:CE->Sort u}(e:CE)(h:e.ix=2)(k:∀(i:Int),motive_1 (.d i)):motive_1 e:=
 CE.RX (P:=λe=>e.ix=2->motive_1 e) e (λi z=>k i) (λz h=>absurd h (aE rfl)) (λz h=>absurd h (aE rfl)) (λz h=>absurd h (aE rfl)) (λz h=>absurd h (aE rfl)) (λz h=>absurd h (aE rfl)) (λz h=>absurd h (aE rfl)) (λg h=>(nL rfl g h).elim) h
noncomputable def CE.Vr.{u}{motive_1:CE->Sort u}(e:CE)(h:e.ix=4)(k:∀(i:Nat),motive_1 (.a i)):motive_1 e:=
 CE.RX (P:=λe=>e.ix=4->motive_1 e) e (λz h=>absurd h (aE rfl)) (λi z=>k i) (λz h=>absurd h (aE rfl)) (λz h=>absurd h (aE rfl)) (λz h=>absurd h (aE rfl)) (λz h=>absurd h (aE rfl)) (λz h=>absurd h (aE rfl)) (λg h=>(nL rfl g h).elim) h
noncomputable def CE.yt.{u}{motive_1:CE->Sort u}(e:CE)(h:e.ix=16)(k:∀(l:List CE),motive_1 (.list l)):motive_1 e:=
 CE.RX (P:=λe=>e.ix=16->motive_1 e) e (λz h=>absurd h (aE rfl)) (λz h=>absurd h (aE rfl)) (λl z=>k l) (λz h=>absurd h (aE rfl)) (λz h=>absurd h (aE rfl)) (λz h=>absurd h (aE rfl)) (λz h=>absurd h (aE rfl)) (λg h=>(nL rfl g h).elim) h
noncomputable def CE.Jn.{u}{motive_1:CE->Sort u}(e:CE)(h:e.ix=23)(k:∀(l:List CE),motive_1 (.I l)):motive_1 e:=
 CE.RX (P:=λe=>e.ix=23->motive_1 e) e (λz h=>absurd h (aE rfl)) (λz h=>absurd h (aE rfl)) (λz h=>absurd h (aE rfl)) (λl z=>k l) (λz h=>absurd h (aE rfl)) (λz h=>absurd h (aE rfl)) (λz h=>absurd h (aE rfl)) (λg h=>(nL rfl g h).elim) h
noncomputable def CE.Jm.{u}{motive_1:CE->Sort u}(e:CE)(h:e.ix=43)(k:∀(l:List CE),motive_1 (.j l)):motive_1 e:=
 CE.RX (P:=λe=>e.ix=43->motive_1 e) e (λz h=>absurd h (aE rfl)) (λz h=>absurd h (aE rfl)) (λz h=>absurd h (aE rfl)) (λz h=>absurd h (aE rfl)) (λl z=>k l) (λz h=>absurd h (aE rfl)) (λz h=>absurd h (aE rfl)) (λg h=>(nL rfl g h).elim) h
noncomputable def CE.Sf.{u}{motive_1:CE->Sort u}(e:CE)(h:e.ix=44)(k:∀(a:CE),motive_1 (.K a)):motive_1 e:=
 CE.RX (P:=λe=>e.ix=44->motive_1 e) e (λz h=>absurd h (aE rfl)) (λz h=>absurd h (aE rfl)) (λz h=>absurd h (aE rfl)) (λz h=>absurd h (aE rfl)) (λz h=>absurd h (aE rfl)) (λa z=>k a) (λz h=>absurd h (aE rfl)) (λg h=>(nL rfl g h).elim) h
noncomputable def CE.Se.{u}{motive_1:CE->Sort u}(e:CE)(h:e.ix=45)(k:∀(a:CE),motive_1 (.M a)):motive_1 e:=
 CE.RX (P:=λe=>e.ix=45->motive_1 e) e (λz h=>absurd h (aE rfl)) (λz h=>absurd h (aE rfl)) (λz h=>absurd h (aE rfl)) (λz h=>absurd h (aE rfl)) (λz h=>absurd h (aE rfl)) (λz h=>absurd h (aE rfl)) (λa z=>k a) (λg h=>(nL rfl g h).elim) h
noncomputable def vB(e:CS):Bool:=CS.casesOn (motive_1:=λz=>Bool) e (λz z=>false) (λz z z=>false) (λz z=>false) (λz z z z=>false) (λz z z=>false) (λz z z=>false) (λz z z z=>false) (λz z z=>false) (λz z=>false) (λz z z=>false) (λz=>false) false false (λz z=>false) (λz=>false) (λz=>true)
noncomputable abbrev St:=List (Option (List AV))
noncomputable abbrev Loc:=List AV
noncomputable def jX(st:St):AV->Option (List AV)
 | .lst l=>some l
 | .ref n=>(st[n]?).join
 |_=>none
mutual
noncomputable def jP:AV->Bool
 | .ref _=>false
 | .c=>false
 | .tup l=>dU l
 | .lst l=>dU l
 |_=>true
noncomputable def dU:List AV->Bool
 | []=>true
 |a::l=>jP a&&dU l
end
theorem mz:(dU []=(true))/\
 (∀a l,dU (a::l)=(jP a&&dU l)):=⟨by intros;rfl,by intros;rfl⟩
theorem qD:(∀A,jP (.ref A)=(false))/\
 (jP (.c)=(false))/\
 (∀l,jP (.tup l)=(dU l))/\
 (∀l,jP (.lst l)=(dU l))/\
 (∀b,jP (.bool b)=true)/\
 (∀b,jP (.int b)=true)/\
 (∀b,jP (.str b)=true)/\
 jP .none=true:=⟨by intros;rfl,by intros;rfl,by intros;rfl,by intros;rfl,by intros;rfl,by intros;rfl,by intros;rfl,by intros;rfl⟩
noncomputable def QJ:AV->AV->Option Bool
 | .int a,.int b=>some (a==b)
 | .str a,.str b=>some (a==b)
 |_,_=>none
theorem NJ:(∀a b,QJ (.int a) (.int b)=(some (a==b)))/\
 (∀a b,QJ (.str a) (.str b)=(some (a==b))):=⟨by intros;rfl,by intros;rfl⟩
noncomputable def Ap:List AV->List AV->Option Bool
 | [],[]=>some true
 |a::l,b::m=>do return(<-QJ a b)&&(<-Ap l m)
 |_,_=>none
theorem QK:(Ap [] []=(some true))/\
 (∀a l b m,Ap (a::l) (b::m)=(do return(<-QJ a b)&&(<-Ap l m))):=⟨by intros;rfl,by intros;rfl⟩
noncomputable def D0(l m:List AV):Option Bool:=if l.length=m.length then Ap l m else some false
noncomputable def qr(st:St)(a b:AV):Option Bool:=
 match a,b with
 | .int a,.int b=>some (a==b)
 | .str a,.str b=>some (a==b)
 | .bool a,.bool b=>some (a==b)
 |a,b=>do D0 (<-jX st a) (<-jX st b)
noncomputable def CH(x:AV):List AV->Option Bool
 | []=>some false
 |a::l=>do return(<-QJ a x)||(<-CH x l)
theorem VJ:(∀x,CH x []=(some false))/\
 (∀x a l,CH x (a::l)=(do return(<-QJ a x)||(<-CH x l))):=⟨by intros;rfl,by intros;rfl⟩
noncomputable def xd(y x:List Nat):Bool:= !(qb ⟨x.toArray⟩ ⟨y.toArray⟩ 0 x.length 1).isEmpty
noncomputable def cB:Nat:=10000
noncomputable def cU(st:St):AV->Option Bool
 | .none=>some false
 | .bool b=>some b
 | .int i=>some (i !=0)
 | .str x=>if x.length<=cB then some (!x.isEmpty)else none
 |_=>none
noncomputable def binI:cV->Int->Int->Option Int
 | .Add,a,b=>some (a+b)
 | .Sub,a,b=>some (a-b)
 | .Mult,a,b=>if a.natAbs.log2+b.natAbs.log2<=100000\/b.natAbs<2^63\/a.natAbs<2^63 then some (a*b)else none
 | .FloorDiv,a,b=>if b=0\/9000<=b.natAbs.log2 then none else some (a.fdiv b)
 | .Mod,a,b=>if b=0 then none else some (a.fmod b)
 | .Pow,a,b=>if 0<=b/\b<=1000000/\a.natAbs<2^64 then some (a^b.toNat)else none
 | .LShift,a,b=>if 0<=b/\(ag a:Int)+b<=2^27 then some (a*2^b.toNat)else none
 | .RShift,a,b=>if 0<=b then some (a.fdiv (2^b.toNat))else none
 | .BitAnd,a,b=>some (E8 a b)
 | .BitOr,a,b=>some (HN a b)
 | .BitXor,a,b=>some (YM a b)
 |_,_,_=>none
noncomputable def jv(st:St)(op:cV)(a b:AV):Option AV:=
 match a,b with
 | .int a,.int b=>(binI op a b).map .int
 | .str x,.str y=>match op with
   | .Add=>if x.length+y.length<=cB then some (.str (x++y))else none
   |_=>none
 |a,b=>match op with
  | .Add=>do
    let l<-jX st a;let m<-jX st b
    if l.length+m.length<=cB then some (.lst (l++m))else none
  |_=>none
noncomputable def Uw(a b:AV):Option Bool:=
 match a,b with
 | .none,.none=>some true
 | .int _,.none=>some false
 | .str _,.none=>some false
 | .bool _,.none=>some false
 | .bool a,.bool b=>some (a==b)
 |_,_=>none
noncomputable def fk(st:St)(op:kF)(a b:AV):Option Bool:=
 match op with
 | .Eq=>qr st a b
 | .NotEq=>(qr st a b).map (!·)
 | .Lt=>match a,b with| .int a,.int b=>some (decide (a<b))|_,_=>none
 | .LtE=>match a,b with| .int a,.int b=>some (decide (a<=b))|_,_=>none
 | .Gt=>match a,b with| .int a,.int b=>some (decide (b<a))|_,_=>none
 | .GtE=>match a,b with| .int a,.int b=>some (decide (b<=a))|_,_=>none
 | .Is=>Uw a b
 | .IsNot=>(Uw a b).map (!·)
 | .In=>match a,b with
   | .str y,.str x=>some (xd y x)
   |a,b=>do CH a (<-jX st b)
 | .NotIn=>match a,b with
   | .str y,.str x=>some (!xd y x)
   |a,b=>(do CH a (<-jX st b)).map (!·)
noncomputable def tl(st:St):AV->Option AV
 | .str x=>if x.length<=cB then some (.int x.length)else none
 |v=>do
  let l<-jX st v
  if l.length<=cB then some (.int l.length)else none
noncomputable def ll(i:Int)(n:Nat):Option Nat:=
 if n<=cB then(if 0<=i/\i<n then some i.toNat else if i<0/\0<=i+n then some (i+n).toNat else none)else none
noncomputable def gF(st:St)(a i:AV):Option AV:=
 match i with
 | .int i=>match a with
   | .str x=>do return .str [<-x[<-ll i x.length]?]
   | .tup l=>do l[<-ll i l.length]?
   |a=>do
    let l<-jX st a
    l[<-ll i l.length]?
 |_=>none
noncomputable def kA(n:Nat)(d:Nat):AV->Option Nat
 | .none=>some d
 | .int i=>some (if i<0 then(i+(n:Nat)).toNat else min i.toNat n)
 |_=>none
noncomputable def vP(a lo hi:AV):Option AV:=
 match a with
 | .str x=>do
   let l<-kA x.length 0 lo;let h<-kA x.length x.length hi
   if x.length<=cB then some (.str ((x.take h).drop l))else none
 |_=>none
noncomputable def gV(a c:Int)(n:Nat):List Int:=(aG n).map λ(k:Nat)=>a+(k:Int)*c
noncomputable def eE:AV->Option Int
 | .int i=>some i
 |_=>none
noncomputable def refOf:AV->Option Nat
 | .ref i=>some i
 |_=>none
noncomputable def tp:AV->Option (List AV)
 | .lst i=>some i
 |_=>none
theorem oY{a:AV}{i:Nat}(h:refOf a=some i):a=.ref i:=cx (P:=λi=>a=.ref i) (by rcases a with⟨⟩<;>first|exact fc|exact rfl) h
theorem AR{a:AV}{i:List AV}(h:tp a=some i):a=.lst i:=cx (P:=λi=>a=.lst i) (by rcases a with⟨⟩<;>first|exact fc|exact rfl) h
@[simp] theorem GW(i:Nat):refOf (.ref i)=some i:=rfl
@[simp] theorem Uy(i:List AV):tp (.lst i)=some i:=rfl
noncomputable def jH:AV->Option (List Nat)
 | .str x=>some x
 |_=>none
theorem T3:∀(x:List Nat) (lo hi:AV),vP (.str x) lo hi=(do
 let l<-kA x.length 0 lo;let h<-kA x.length x.length hi
 if x.length<=cB then some (.str ((x.take h).drop l))else none):=by intros;rfl
theorem ua{B A:Type}{o:Option B}{a:B}{f:B->Option A}{R:Option A}(h:o=some a)(k:f a=R):(o>>=f)=R:=by subst h;exact k
theorem dn{B A:Type}{o:Option B}{F:B->Option A}{b:A}{P:Prop}(h:o.bind F=some b)(k:∀a,o=some a->F a=some b->P):P:=(aZ h).elim λa h=>k a h.1 h.2
@[simp] theorem lC(i:Int):eE (.int i)=some i:=rfl
@[simp] theorem FO(i:List Nat):jH (.str i)=some i:=rfl
noncomputable def oV(k m:Nat)(l:List AV):List (List AV):=bw m l++ [(aG m).map λj=>AV.ref (k+j)]
theorem iE{a:AV}{i:Int}(h:eE a=some i):a=.int i:=cx (P:=λi=>a=.int i) (by rcases a with⟨⟩<;>first|exact fc|exact rfl) h
theorem uM{a:AV}{i:List Nat}(h:jH a=some i):a=.str i:=cx (P:=λi=>a=.str i) (by rcases a with⟨⟩<;>first|exact fc|exact rfl) h
noncomputable def dM:List AV->Option (List Int)
 | []=>some []
 |a::l=>(eE a).bind λi=>(dM l).map (i::·)
noncomputable def pb:List AV->Option (List (List Nat))
 | []=>some []
 |a::l=>(jH a).bind λi=>(pb l).map (i::·)
noncomputable def l0{B:Type}:List B->Option Unit
 | []=>some ()
 |_=>none
theorem lR{B:Type}{l:List B}{q:Unit}(h:l0 l=some q):l= []:=by
 rcases l with _|⟨a,l⟩
 ·rfl
 ·injection h
noncomputable def l1{B:Type}:List B->Option B
 | []=>none
 |a::l=>(l0 l).map λz=>a
theorem xg{B:Type}{a b:B}{x:Option Unit}(h:x.map (λz=>a)=some b):a=b/\∃u,x=some u:=by
 rcases x with _|u
 ·injection h
 ·injection h with S;subst S;exact⟨rfl,u,rfl⟩
theorem gL{B:Type}{l:List B}{q:B}(h:l1 l=some q):l= [q]:=by
 rcases l with _|⟨a,l⟩
 ·injection h
 ·obtain⟨e,u,N⟩:=xg h;exact ab (lR N) (ab e rfl)
noncomputable def Wr:List Int->Option (Int×Int×Int)
 | []=>none
 |b:: []=>some (0,b,1)
 |a::b::l=>match l with
  | []=>some (a,b,1)
  |c::l=>(l0 l).map λz=>(a,b,c)
noncomputable def rG(a b c:Int):Nat:=(if a<b then(b-a-1)/c+1 else 0).toNat
noncomputable def lx(l:List AV):Option (List AV):=(dM l).bind λns=>(Wr ns).bind λq=>
 if 0<q.2.2/\q.2.2<=1000/\q.2.1-q.1<=cB/\q.1.natAbs<=2^31/\q.2.1.natAbs<=2^31 then some ((gV q.1 q.2.2 (rG q.1 q.2.1 q.2.2)).map .int)else none
noncomputable def KD:List Int->Option Int
 | []=>none
 |a::l=>some (l.foldl (λm b=>if m<b then b else m) a)
noncomputable def KE:List Int->Option Int
 | []=>none
 |a::l=>some (l.foldl (λm b=>if b<m then b else m) a)
noncomputable def insI(a:Int):List Int->List Int
 | []=> [a]
 |b::l=>if a<=b then a::b::l else b::insI a l
theorem QW:(∀a,insI a []=([a]))/\
 (∀a b l,insI a (b::l)=(if a<=b then a::b::l else b::insI a l)):=⟨by intros;rfl,by intros;rfl⟩
noncomputable def sortI:List Int->List Int
 | []=> []
 |a::l=>insI a (sortI l)
noncomputable def ff:Nat->Bool->List Nat->List AV
 |p,false,[]=> []
 |p,true,[]=> [.tup [.int (p-1:Nat),.str [92]]]
 |p,true,c::l=>.tup [.int p,.str [92,c]]::ff (p+1) false l
 |p,false,c::l=>if c=92 then ff (p+1) true l else .tup [.int p,.str [c]]::ff (p+1) false l
theorem pW:(∀p,ff p false []=([]))/\
 (∀p,ff p true []=([.tup [.int (p-1:Nat),.str [92]]]))/\
 (∀p c l,ff p true (c::l)=(.tup [.int p,.str [92,c]]::ff (p+1) false l))/\
 (∀p c l,ff p false (c::l)=(if c=92 then ff (p+1) true l else .tup [.int p,.str [c]]::ff (p+1) false l)):=⟨by intros;rfl,by intros;rfl,by intros;rfl,by intros;rfl⟩
noncomputable def fQ(st:St):AV->Option (List AV)
 | .lst l=>if l.length<=cB then some l else none
 | .str x=>if x.length<=cB then some (x.map λc=>.str [c])else none
 |_=>none
noncomputable def ek(loc:Loc)(i:Nat)(v:AV):Option Loc:=if i<loc.length then some (loc.set i v)else none
noncomputable def jT:Loc->List Nat->List AV->Option Loc
 |loc,[],[]=>some loc
 |loc,i::I,v::vs=>do jT (<-ek loc i v) I vs
 |_,_,_=>none
theorem Lz:(∀loc,jT loc [] []=(some loc))/\
 (∀loc i I v vs,jT loc (i::I) (v::vs)=(do jT (<-ek loc i v) I vs)):=⟨by intros;rfl,by intros;rfl⟩
noncomputable def cT(loc:Loc):kR->AV->Option Loc
 | .bX i,v=>ek loc i v
 | .many I,.tup vs=>jT loc I vs
 | .many _,_=>none
noncomputable def gm(f:AV->Option (Option AV)):List AV->Option (List AV)
 | []=>some []
 |a::l=>do
  match<-f a with
  |some b=>return b::(<-gm f l)
  |none=>gm f l
theorem qm:(∀f,gm f []=(some []))/\
 (∀f a l,gm f (a::l)=(do
 match<-f a with
 |some b=>return b::(<-gm f l)
 |none=>gm f l)):=⟨by intros;rfl,by intros;rfl⟩
set_option genInjectivity false in
set_option genCtorIdx false in
structure dC where
 Y:List Int
 b1:List Int
 b3:Int->Option (List Nat)
 O:Nat->List AV->Option AV
noncomputable def strOf(x:List Nat):bj:=⟨x.toArray⟩
noncomputable def gE(x:List Nat):List Nat:=(Txt.lower (strOf x)).cps.toList
noncomputable def qK(x:List Nat):List Nat:=(Txt.upper (strOf x)).cps.toList
noncomputable def tw(x y z:List Nat):List Nat:=(Txt.replace (strOf x) (strOf y) (strOf z)).cps.toList
mutual
noncomputable def ev(C:dC)(st:St):CE->Loc->Option AV
 | .q,_=>some .none
 | .u b,_=>some (.bool b)
 | .d i,_=>some (.int i)
 | .l x,_=>some (.str x)
 | .a i,loc=>match loc[i]? with
   |none=>none
   |some .c=>none
   |some v=>some v
 | .n k,_=>(C.Y[k]?).map .int
 | .f op a b,loc=>do jv st op (<-ev C st a loc) (<-ev C st b loc)
 | .neg a,loc=>((ev C st a loc).bind eE).map λi=>.int (-i)
 | .inv a,loc=>((ev C st a loc).bind eE).map λi=>.int (-i-1)
 | .E a b,loc=>do
   let x<-ev C st a loc
   if<-cU st x then return x else ev C st b loc
 | .cmp op a b,loc=>do
   let r<-fk st op (<-ev C st a loc) (<-ev C st b loc)
   return .bool r
 | .B op P a b c,loc=>do
   let x<-ev C st a loc;let y<-ev C st b loc
   if<-fk st op x y then do
    let r<-fk st P y (<-ev C st c loc)
    return .bool r
   else return .bool false
 | .C a,loc=>do return .bool (!(<-cU st (<-ev C st a loc)))
 | .band l,loc=>(uZ C st l loc).map .bool
 | .bor l,loc=>(Cv C st l loc).map .bool
 | .N t a b,loc=>do if<-cU st (<-ev C st t loc)then ev C st a loc else ev C st b loc
 | .list l,loc=>(sq C st l loc).map .lst
 | .tuple l,loc=>(sq C st l loc).map .tup
 | .sub a i,loc=>do gF st (<-ev C st a loc) (<-ev C st i loc)
 | .F a lo,loc=>do vP (<-ev C st a loc) (<-ev C st lo loc) .none
 | .A a hi,loc=>do vP (<-ev C st a loc) .none (<-ev C st hi loc)
 | .G a lo hi,loc=>do vP (<-ev C st a loc) (<-ev C st lo loc) (<-ev C st hi loc)
 | .len a,loc=>do tl st (<-ev C st a loc)
 | .I l,loc=>do return .lst (<-lx (<-sq C st l loc))
 | .Cq a,loc=>do return .int (<-KD (<-dM (<-jX st (<-ev C st a loc))))
 | .U a,loc=>do return .int (<-KE (<-dM (<-jX st (<-ev C st a loc))))
 | .S a b,loc=>((ev C st a loc).bind eE).bind λa=>((ev C st b loc).bind eE).map λb=>.int (if b<a then b else a)
 | .D a,loc=>do return .int (<-dM (<-jX st (<-ev C st a loc))).sum
 | .sorted a,loc=>do
   let l<-dM (<-jX st (<-ev C st a loc))
   if l.length<64 then return .lst ((sortI l).map .int)else none
 | .Ad a,loc=>(((ev C st a loc).bind jH).bind l1).map λ(c:Nat)=>AV.int (c:Int)
 | .Q a,loc=>((ev C st a loc).bind eE).bind λi=>if 0<=i/\i<=1114111 then some (.str [i.toNat])else none
 | .divmod a b,loc=>((ev C st a loc).bind eE).bind λa=>((ev C st b loc).bind eE).bind λb=>if b=0\/9000<=b.natAbs.log2 then none else some (.tup [.int (a.fdiv b),.int (a.fmod b)])
 | .lower a,loc=>((ev C st a loc).bind jH).bind λx=>if(gE x).length<=cB then some (.str (gE x))else none
 | .upper a,loc=>((ev C st a loc).bind jH).bind λx=>if(qK x).length<=cB then some (.str (qK x))else none
 | .Z a y z,loc=>((ev C st a loc).bind jH).bind λx=>if x.length<=cB/\z.length<=10/\y≠z then some (.str (tw x y z))else none
 | .join a,loc=>do
   let l<-pb (<-jX st (<-ev C st a loc))
   if l.flatten.length<=cB then return .str l.flatten else none
 | .index a b,loc=>((ev C st b loc).bind eE).bind λk=>do
   let l<-dM (<-jX st (<-ev C st a loc))
   if k∈l/\l.length<=cB then return .int (l.idxOf k:Nat)else none
 | .qk a,loc=>((ev C st a loc).bind eE).map λi=>.int (ag i)
 | .J5 a,loc=>((ev C st a loc).bind eE).map λi=>.bool (C.b1.contains i)
 | .xc a,loc=>((ev C st a loc).bind eE).map λi=>match C.b3 i with|some x=>.str x|none=>.none
 | .call f l,loc=>do
   let vs<-sq C st l loc
   if dU vs then C.O f vs else none
 | .comp e t it,loc=>do
   let l<-fQ st (<-ev C st it loc)
   return .lst (<-gm (λv=>do return some (<-ev C st e (<-cT loc t v))) l)
 | .y e t it c,loc=>do
   let l<-fQ st (<-ev C st it loc)
   return .lst (<-gm (λv=>do
    let loc'<-cT loc t v
    if<-cU st (<-ev C st c loc')then return some (<-ev C st e loc')else return none) l)
 | .j l,loc=>do return .lst (<-lx (<-sq C st l loc))
 | .K a,loc=>((ev C st a loc).bind tp).map λl=>.lst l.reverse
 | .M a,loc=>((ev C st a loc).bind jH).bind λx=>if x.length<=cB/\(C.O 8 [.str x]).isSome=true then some (.lst (ff 0 false x))else none
noncomputable def sq(C:dC)(st:St):List CE->Loc->Option (List AV)
 | [],_=>some []
 |e::l,loc=>do
  let v<-ev C st e loc;let vs<-sq C st l loc
  return v::vs
noncomputable def uZ(C:dC)(st:St):List CE->Loc->Option Bool
 | [],_=>some true
 |e::l,loc=>do if<-cU st (<-ev C st e loc)then uZ C st l loc else return false
noncomputable def Cv(C:dC)(st:St):List CE->Loc->Option Bool
 | [],_=>some false
 |e::l,loc=>do if<-cU st (<-ev C st e loc)then return true else Cv C st l loc
end
inductive Fl where
 |next|brk|ret (v:AV)
noncomputable def gh(G:Loc->St->Option Bool)(body:Loc->St->Option (Fl×Loc×St)):Nat->Loc->St->Option (Fl×Loc×St)
 |0,_,_=>none
 |n+1,loc,st=>do
  if<-G loc st then
   match<-body loc st with
   |(.next,loc',st')=>gh G body n loc' st'
   |(.brk,loc',st')=>return(.next,loc',st')
   |r=>return r
  else return(.next,loc,st)
theorem zp:(∀G body A C,gh G body 0 A C=(none))/\
 (∀G body n loc st,gh G body (n+1) loc st=(do
 if<-G loc st then
  match<-body loc st with
  |(.next,loc',st')=>gh G body n loc' st'
  |(.brk,loc',st')=>return(.next,loc',st')
  |r=>return r
 else return(.next,loc,st))):=⟨by intros;rfl,by intros;rfl⟩
noncomputable def iP(t:kR)(body:Loc->St->Option (Fl×Loc×St)):List AV->Loc->St->Option (Fl×Loc×St)
 | [],loc,st=>some (.next,loc,st)
 |v::l,loc,st=>do
  let loc'<-cT loc t v
  match<-body loc' st with
  |(.next,loc',st')=>iP t body l loc' st'
  |(.brk,loc',st')=>return(.next,loc',st')
  |r=>return r
theorem vh:(∀t body loc st,iP t body [] loc st=(some (.next,loc,st)))/\
 (∀t body v l loc st,iP t body (v::l) loc st=(do
 let loc'<-cT loc t v
 match<-body loc' st with
 |(.next,loc',st')=>iP t body l loc' st'
 |(.brk,loc',st')=>return(.next,loc',st')
 |r=>return r)):=⟨by intros;rfl,by intros;rfl⟩
noncomputable def jk(st:St):List AV->Option (List AV×St)
 | []=>some ([],st)
 | .ref n::l=>do
   let m<-(st[n]?).join
   if dU m then
    let(l',st')<-jk (st.set n none) l
    return(.lst m::l',st')
   else none
 |a::l=>if jP a then do
   let(l',st')<-jk st l
   return(a::l',st')
  else none
theorem AF:(∀st,jk st []=(some ([],st)))/\
 (∀st n l,jk st (.ref n::l)=(do
 let m<-(st[n]?).join
 if dU m then
  let(l',st')<-jk (st.set n none) l
  return(.lst m::l',st')
 else none)):=⟨by intros;rfl,by intros;rfl⟩
noncomputable def oG:AV->Bool
 | .int _| .str _=>true
 |_=>false
noncomputable def vC(e:CE):Bool:=e.ix==16||e.ix==23
noncomputable def Je(e:CE):Option Int:=if h:e.ix=2 then CE.Ct (motive_1:=λz=>Option _) e h (λi=>some i)else none
noncomputable def listOf(e:CE):Option (List CE):=if h:e.ix=16 then CE.yt (motive_1:=λz=>Option _) e h (λl=>some l)else none
theorem FQ{a:CE}{i:Int}(h:Je a=some i):a=.d i:=cx (P:=λi=>a=.d i) (rV λj=>CE.Ct (motive_1:=λe=>∀j,i9 (CE.Ct (motive_1:=λz=>Option _) e j (λi=>some i)) λi=>e=.d i) a j (λi z=>rfl) j) h
theorem Gs{a:CE}{i:List CE}(h:listOf a=some i):a=.list i:=cx (P:=λi=>a=.list i) (rV λj=>CE.yt (motive_1:=λe=>∀j,i9 (CE.yt (motive_1:=λz=>Option _) e j (λi=>some i)) λi=>e=.list i) a j (λi z=>rfl) j) h
noncomputable def pw:List CE->Option (List AV)
 | []=>some []
 |a::l=>(Je a).bind λi=>(pw l).map (.int i::·)
noncomputable def Ac(e:CE):Option (List AV):=(listOf e).bind pw
mutual
noncomputable def mY(C:dC):CS->Loc->St->Option (Fl×Loc×St)
 | .cI t e,loc,st=>do
   let v<-ev C st e loc
   return(.next,<-cT loc t v,st)
 | .Cf i j e,loc,st=>do
   let v<-ev C st e loc
   return(.next,<-ek (<-ek loc i v) j v,st)
 | .new i e,loc,st=>((ev C st e loc).bind tp).bind λl=>do if vC e then return(.next,<-ek loc i (.ref st.length),st++ [some l])else none
 | .GG i B it x,loc,st=>(Ac B).bind λl=>do
   let m<-fQ st (<-ev C st it loc)
   if x<loc.length then
    return(.next,<-ek loc i (.ref (st.length+m.length)),st++(oV st.length m.length l).map some)
   else none
 | .J a ix e,loc,st=>do
   let v<-ev C st e loc;let n<-refOf (<-ev C st a loc);let i<-eE (<-ev C st ix loc);let l<-(st[n]?).join
   if 0<=i/\i<l.length/\l.length<=cB then return(.next,loc,st.set n (some (l.set i.toNat v)))else none
 | .aug i op e,loc,st=>do
   let x<-ev C st (.a i) loc;let v<-ev C st e loc
   if oG x then return(.next,<-ek loc i (<-jv st op x v),st)else none
 | .oH i ix op e,loc,st=>do
   let n<-refOf (<-ev C st (.a i) loc);let k<-eE (<-ev C st ix loc);let l<-(st[n]?).join;let x<-l[k.toNat]?;let v<-ev C st e loc;let y<-jv st op x v
   if 0<=k/\k<l.length/\l.length<=cB/\oG x=true then return(.next,loc,st.set n (some (l.set k.toNat y)))else none
 | .ite c a b,loc,st=>do if<-cU st (<-ev C st c loc)then dh C a loc st else dh C b loc st
 | .P c b,loc,st=>gh (λloc st=>do cU st (<-ev C st c loc)) (λloc st=>dh C b loc st) 200 loc st
 | .m t it b,loc,st=>do iP t (λloc st=>dh C b loc st) (<-fQ st (<-ev C st it loc)) loc st
 | .ret e,loc,st=>do
   let v<-ev C st e loc
   if jP v then return(.ret v,loc,st)else none
 | .brk,loc,st=>some (.brk,loc,st)
 | .K5,_,_=>none
 | .app i e,loc,st=>do
   let v<-ev C st e loc;let n<-refOf (<-ev C st (.a i) loc);let l<-(st[n]?).join
   if l.length<=cB then return(.next,loc,st.set n (some (l++ [v])))else none
 | .rev i,loc,st=>do
   let n<-refOf (<-ev C st (.a i) loc);let l<-(st[n]?).join
   if l.length<=cB then return(.next,loc,st.set n (some l.reverse))else none
 | .v i,loc,st=>do
   let n<-refOf (<-ev C st (.a i) loc);let l<-(st[n]?).join;let r<-jk (st.set n none) l
   return(.next,<-ek loc i (.lst r.1),r.2)
noncomputable def dh(C:dC):List CS->Loc->St->Option (Fl×Loc×St)
 | [],loc,st=>some (.next,loc,st)
 |c::l,loc,st=>do
  match<-mY C c loc st with
  |(.next,loc',st')=>dh C l loc' st'
  |r=>return r
end
theorem s8:(∀C loc st,dh C [] loc st=(some (.next,loc,st)))/\
 (∀C c l loc st,dh C (c::l) loc st=(do
 match<-mY C c loc st with
 |(.next,loc',st')=>dh C l loc' st'
 |r=>return r)):=⟨by intros;rfl,by intros;rfl⟩
set_option genInjectivity false in
set_option genCtorIdx false in
structure FD where
 z:Nat
 p:Nat
 body:List CS
noncomputable def iR(C:dC)(f:FD)(args:List AV):Option AV:=
 if args.length=f.p then
  match dh C f.body (args++bw (f.z-f.p) .c) []with
  |some (.ret v,_,_)=>some v
  |some (.next,_,_)=>some .none
  |_=>none
 else none
theorem fD:(∀(C:dC) (st:St) (H:Loc),ev C st .q H=(some .none))/\
 (∀(C:dC) (st:St) b (H:Loc),ev C st (.u b) H=(some (.bool b)))/\
 (∀(C:dC) (st:St) i (H:Loc),ev C st (.d i) H=(some (.int i)))/\
 (∀(C:dC) (st:St) x (H:Loc),ev C st (.l x) H=(some (.str x)))/\
 (∀(C:dC) (st:St) i (loc:Loc),ev C st (.a i) loc=(match loc[i]? with
   |none=>none
   |some .c=>none
   |some v=>some v))/\
 (∀(C:dC) (st:St) k (H:Loc),ev C st (.n k) H=((C.Y[k]?).map .int))/\
 (∀(C:dC) (st:St) op a b (loc:Loc),ev C st (.f op a b) loc=(do jv st op (<-ev C st a loc) (<-ev C st b loc)))/\
 (∀(C:dC) (st:St) a (loc:Loc),ev C st (.neg a) loc=(((ev C st a loc).bind eE).map λi=>.int (-i)))/\
 (∀(C:dC) (st:St) a (loc:Loc),ev C st (.inv a) loc=(((ev C st a loc).bind eE).map λi=>.int (-i-1)))/\
 (∀(C:dC) (st:St) a b (loc:Loc),ev C st (.E a b) loc=(do
   let x<-ev C st a loc
   if<-cU st x then return x else ev C st b loc))/\
 (∀(C:dC) (st:St) op a b (loc:Loc),ev C st (.cmp op a b) loc=(do
   let r<-fk st op (<-ev C st a loc) (<-ev C st b loc)
   return .bool r))/\
 (∀(C:dC) (st:St) op P a b c (loc:Loc),ev C st (.B op P a b c) loc=(do
   let x<-ev C st a loc;let y<-ev C st b loc
   if<-fk st op x y then do
    let r<-fk st P y (<-ev C st c loc)
    return .bool r
   else return .bool false))/\
 (∀(C:dC) (st:St) a (loc:Loc),ev C st (.C a) loc=(do return .bool (!(<-cU st (<-ev C st a loc)))))/\
 (∀(C:dC) (st:St) l (loc:Loc),ev C st (.band l) loc=((uZ C st l loc).map .bool))/\
 (∀(C:dC) (st:St) l (loc:Loc),ev C st (.bor l) loc=((Cv C st l loc).map .bool))/\
 (∀(C:dC) (st:St) t a b (loc:Loc),ev C st (.N t a b) loc=(do if<-cU st (<-ev C st t loc)then ev C st a loc else ev C st b loc))/\
 (∀(C:dC) (st:St) l (loc:Loc),ev C st (.list l) loc=((sq C st l loc).map .lst))/\
 (∀(C:dC) (st:St) l (loc:Loc),ev C st (.tuple l) loc=((sq C st l loc).map .tup))/\
 (∀(C:dC) (st:St) a i (loc:Loc),ev C st (.sub a i) loc=(do gF st (<-ev C st a loc) (<-ev C st i loc)))/\
 (∀(C:dC) (st:St) a lo (loc:Loc),ev C st (.F a lo) loc=(do vP (<-ev C st a loc) (<-ev C st lo loc) .none))/\
 (∀(C:dC) (st:St) a hi (loc:Loc),ev C st (.A a hi) loc=(do vP (<-ev C st a loc) .none (<-ev C st hi loc)))/\
 (∀(C:dC) (st:St) a lo hi (loc:Loc),ev C st (.G a lo hi) loc=(do vP (<-ev C st a loc) (<-ev C st lo loc) (<-ev C st hi loc)))/\
 (∀(C:dC) (st:St) a (loc:Loc),ev C st (.len a) loc=(do tl st (<-ev C st a loc)))/\
 (∀(C:dC) (st:St) l (loc:Loc),ev C st (.I l) loc=(do return .lst (<-lx (<-sq C st l loc))))/\
 (∀(C:dC) (st:St) a (loc:Loc),ev C st (.Cq a) loc=(do return .int (<-KD (<-dM (<-jX st (<-ev C st a loc))))))/\
 (∀(C:dC) (st:St) a (loc:Loc),ev C st (.U a) loc=(do return .int (<-KE (<-dM (<-jX st (<-ev C st a loc))))))/\
 (∀(C:dC) (st:St) a b (loc:Loc),ev C st (.S a b) loc=(((ev C st a loc).bind eE).bind λa=>((ev C st b loc).bind eE).map λb=>.int (if b<a then b else a)))/\
 (∀(C:dC) (st:St) a (loc:Loc),ev C st (.D a) loc=(do return .int (<-dM (<-jX st (<-ev C st a loc))).sum))/\
 (∀(C:dC) (st:St) a (loc:Loc),ev C st (.sorted a) loc=(do
   let l<-dM (<-jX st (<-ev C st a loc))
   if l.length<64 then return .lst ((sortI l).map .int)else none))/\
 (∀(C:dC) (st:St) a (loc:Loc),ev C st (.Ad a) loc=((((ev C st a loc).bind jH).bind l1).map λ(c:Nat)=>AV.int (c:Int)))/\
 (∀(C:dC) (st:St) a (loc:Loc),ev C st (.Q a) loc=(((ev C st a loc).bind eE).bind λi=>if 0<=i/\i<=1114111 then some (.str [i.toNat])else none))/\
 (∀(C:dC) (st:St) a b (loc:Loc),ev C st (.divmod a b) loc=(((ev C st a loc).bind eE).bind λa=>((ev C st b loc).bind eE).bind λb=>if b=0\/9000<=b.natAbs.log2 then none else some (.tup [.int (a.fdiv b),.int (a.fmod b)])))/\
 (∀(C:dC) (st:St) a (loc:Loc),ev C st (.lower a) loc=(((ev C st a loc).bind jH).bind λx=>if(gE x).length<=cB then some (.str (gE x))else none))/\
 (∀(C:dC) (st:St) a (loc:Loc),ev C st (.upper a) loc=(((ev C st a loc).bind jH).bind λx=>if(qK x).length<=cB then some (.str (qK x))else none))/\
 (∀(C:dC) (st:St) a y z (loc:Loc),ev C st (.Z a y z) loc=(((ev C st a loc).bind jH).bind λx=>if x.length<=cB/\z.length<=10/\y≠z then some (.str (tw x y z))else none))/\
 (∀(C:dC) (st:St) a (loc:Loc),ev C st (.join a) loc=(do
   let l<-pb (<-jX st (<-ev C st a loc))
   if l.flatten.length<=cB then return .str l.flatten else none))/\
 (∀(C:dC) (st:St) a b (loc:Loc),ev C st (.index a b) loc=(((ev C st b loc).bind eE).bind λk=>do
   let l<-dM (<-jX st (<-ev C st a loc))
   if k∈l/\l.length<=cB then return .int (l.idxOf k:Nat)else none))/\
 (∀(C:dC) (st:St) a (loc:Loc),ev C st (.qk a) loc=(((ev C st a loc).bind eE).map λi=>.int (ag i)))/\
 (∀(C:dC) (st:St) a (loc:Loc),ev C st (.J5 a) loc=(((ev C st a loc).bind eE).map λi=>.bool (C.b1.contains i)))/\
 (∀(C:dC) (st:St) a (loc:Loc),ev C st (.xc a) loc=(((ev C st a loc).bind eE).map λi=>match C.b3 i with|some x=>.str x|none=>.none))/\
 (∀(C:dC) (st:St) f l (loc:Loc),ev C st (.call f l) loc=(do
   let vs<-sq C st l loc
   if dU vs then C.O f vs else none))/\
 (∀(C:dC) (st:St) e t it (loc:Loc),ev C st (.comp e t it) loc=(do
   let l<-fQ st (<-ev C st it loc)
   return .lst (<-gm (λv=>do return some (<-ev C st e (<-cT loc t v))) l)))/\
 (∀(C:dC) (st:St) e t it c (loc:Loc),ev C st (.y e t it c) loc=(do
   let l<-fQ st (<-ev C st it loc)
   return .lst (<-gm (λv=>do
    let loc'<-cT loc t v
    if<-cU st (<-ev C st c loc')then return some (<-ev C st e loc')else return none) l)))/\
 (∀(C:dC) (st:St) l (loc:Loc),ev C st (.j l) loc=(do return .lst (<-lx (<-sq C st l loc))))/\
 (∀(C:dC) (st:St) a (loc:Loc),ev C st (.K a) loc=(((ev C st a loc).bind tp).map λl=>.lst l.reverse))/\
 (∀(C:dC) (st:St) a (loc:Loc),ev C st (.M a) loc=(((ev C st a loc).bind jH).bind λx=>if x.length<=cB/\(C.O 8 [.str x]).isSome=true then some (.lst (ff 0 false x))else none)):=by
 refine⟨?_,?_,?_,?_,?_,?_,?_,?_,?_,?_,?_,?_,?_,?_,?_,?_,?_,?_,?_,?_,?_,?_,?_,?_,?_,?_,?_,?_,?_,?_,?_,?_,?_,?_,?_,?_,?_,?_,?_,?_,?_,?_,?_,?_,?_,?_⟩<;>intros<;>rfl
theorem jW:(∀(C:dC) (st:St) (H:Loc),sq C st [] H=(some []))/\
 (∀(C:dC) (st:St) e l (loc:Loc),sq C st (e::l) loc=(do
   let v<-ev C st e loc;let vs<-sq C st l loc
   return v::vs)):=by
 refine⟨?_,?_⟩<;>intros<;>rfl
theorem yu:(∀(C:dC) (st:St) (H:Loc),uZ C st [] H=(some true))/\
 (∀(C:dC) (st:St) e l (loc:Loc),uZ C st (e::l) loc=(do if<-cU st (<-ev C st e loc)then uZ C st l loc else return false)):=by
 refine⟨?_,?_⟩<;>intros<;>rfl
theorem Ju:(∀(C:dC) (st:St) (H:Loc),Cv C st [] H=(some false))/\
 (∀(C:dC) (st:St) e l (loc:Loc),Cv C st (e::l) loc=(do if<-cU st (<-ev C st e loc)then return true else Cv C st l loc)):=by
 refine⟨?_,?_⟩<;>intros<;>rfl
theorem oN:(∀(C:dC) t e (loc:Loc) (st:St),mY C (.cI t e) loc st=(do
 let v<-ev C st e loc
 return(.next,<-cT loc t v,st)))/\
 (∀(C:dC) i j e (loc:Loc) (st:St),mY C (.Cf i j e) loc st=(do
   let v<-ev C st e loc
   return(.next,<-ek (<-ek loc i v) j v,st)))/\
 (∀(C:dC) i e (loc:Loc) (st:St),mY C (.new i e) loc st=(((ev C st e loc).bind tp).bind λl=>do if vC e then return(.next,<-ek loc i (.ref st.length),st++ [some l])else none))/\
 (∀(C:dC) i B it x (loc:Loc) (st:St),mY C (.GG i B it x) loc st=((Ac B).bind λl=>do
   let m<-fQ st (<-ev C st it loc)
   if x<loc.length then
    return(.next,<-ek loc i (.ref (st.length+m.length)),st++(oV st.length m.length l).map some)
   else none))/\
 (∀(C:dC) a ix e (loc:Loc) (st:St),mY C (.J a ix e) loc st=(do
   let v<-ev C st e loc;let n<-refOf (<-ev C st a loc);let i<-eE (<-ev C st ix loc);let l<-(st[n]?).join
   if 0<=i/\i<l.length/\l.length<=cB then return(.next,loc,st.set n (some (l.set i.toNat v)))else none))/\
 (∀(C:dC) i op e (loc:Loc) (st:St),mY C (.aug i op e) loc st=(do
   let x<-ev C st (.a i) loc;let v<-ev C st e loc
   if oG x then return(.next,<-ek loc i (<-jv st op x v),st)else none))/\
 (∀(C:dC) i ix op e (loc:Loc) (st:St),mY C (.oH i ix op e) loc st=(do
   let n<-refOf (<-ev C st (.a i) loc);let k<-eE (<-ev C st ix loc);let l<-(st[n]?).join;let x<-l[k.toNat]?;let v<-ev C st e loc;let y<-jv st op x v
   if 0<=k/\k<l.length/\l.length<=cB/\oG x=true then return(.next,loc,st.set n (some (l.set k.toNat y)))else none))/\
 (∀(C:dC) c a b (loc:Loc) (st:St),mY C (.ite c a b) loc st=(do if<-cU st (<-ev C st c loc)then dh C a loc st else dh C b loc st))/\
 (∀(C:dC) c b (loc:Loc) (st:St),mY C (.P c b) loc st=(gh (λloc st=>do cU st (<-ev C st c loc)) (λloc st=>dh C b loc st) 200 loc st))/\
 (∀(C:dC) t it b (loc:Loc) (st:St),mY C (.m t it b) loc st=(do iP t (λloc st=>dh C b loc st) (<-fQ st (<-ev C st it loc)) loc st))/\
 (∀(C:dC) e (loc:Loc) (st:St),mY C (.ret e) loc st=(do
   let v<-ev C st e loc
   if jP v then return(.ret v,loc,st)else none))/\
 (∀(C:dC) (loc:Loc) (st:St),mY C .brk loc st=(some (.brk,loc,st)))/\
 (∀(C:dC) (H:Loc) (g:St),mY C .K5 H g=(none))/\
 (∀(C:dC) i e (loc:Loc) (st:St),mY C (.app i e) loc st=(do
   let v<-ev C st e loc;let n<-refOf (<-ev C st (.a i) loc);let l<-(st[n]?).join
   if l.length<=cB then return(.next,loc,st.set n (some (l++ [v])))else none))/\
 (∀(C:dC) i (loc:Loc) (st:St),mY C (.rev i) loc st=(do
   let n<-refOf (<-ev C st (.a i) loc);let l<-(st[n]?).join
   if l.length<=cB then return(.next,loc,st.set n (some l.reverse))else none))/\
 (∀(C:dC) i (loc:Loc) (st:St),mY C (.v i) loc st=(do
   let n<-refOf (<-ev C st (.a i) loc);let l<-(st[n]?).join;let r<-jk (st.set n none) l
   return(.next,<-ek loc i (.lst r.1),r.2))):=by
 refine⟨?_,?_,?_,?_,?_,?_,?_,?_,?_,?_,?_,?_,?_,?_,?_,?_⟩<;>intros<;>rfl
theorem lY:(∀st,cU st .none=some false)/\(∀st b,cU st (.bool b)=some b)/\(∀st i,cU st (.int i)=some (i !=0))/\∀st x,cU st (.str x)=if x.length<=cB then some (!x.isEmpty)else none:=by refine⟨?_,?_,?_,?_⟩<;>intros<;>rfl
theorem Nf:(∀st l,jX st (.lst l)=some l)/\∀st n,jX st (.ref n)=(st[n]?).join:=by refine⟨?_,?_⟩<;>intros<;>rfl
theorem nF:(∀n d,kA n d .none=some d)/\∀(n d:Nat) i,kA n d (.int i)=some (if i<0 then(i+(n:Nat)).toNat else min i.toNat n):=by refine⟨?_,?_⟩<;>intros<;>rfl
theorem mN:(∀st x,tl st (.str x)=if x.length<=cB then some (.int x.length)else none)/\(∀st l,tl st (.lst l)=if l.length<=cB then some (.int l.length)else none)/\∀st n,tl st (.ref n)=(do
 let l<-(st[n]?).join
 if l.length<=cB then some (.int l.length)else none):=by
 refine⟨?_,?_,?_⟩<;>intros<;>rfl
theorem yL:(∀st l,fQ st (.lst l)=if l.length<=cB then some l else none)/\∀st x,fQ st (.str x)=if x.length<=cB then some (x.map λc=>.str [c])else none:=by refine⟨?_,?_⟩<;>intros<;>rfl
theorem jJ:(∀st a b,qr st (.int a) (.int b)=some (a==b))/\(∀st a b,qr st (.str a) (.str b)=some (a==b))/\(∀st a b,qr st (.bool a) (.bool b)=some (a==b))/\(∀st l m,qr st (.lst l) (.lst m)=D0 l m)/\
 (∀st l n,qr st (.lst l) (.ref n)=(do D0 l (<-(st[n]?).join)))/\(∀st m n,qr st (.ref n) (.lst m)=(do D0 (<-(st[n]?).join) m))/\∀st m n,qr st (.ref n) (.ref m)=(do D0 (<-(st[n]?).join) (<-(st[m]?).join)):=by
 refine⟨?_,?_,?_,?_,?_,?_,?_⟩<;>intros<;>rfl
set_option tactic.hygienic true in
theorem cb:(∀st a b,fk st .Eq a b=qr st a b)/\(∀st a b,fk st .NotEq a b=(qr st a b).map (!·))/\(∀st a b,fk st .Lt (.int a) (.int b)=some (decide (a<b)))/\(∀st a b,fk st .LtE (.int a) (.int b)=some (decide (a<=b)))/\
 (∀st a b,fk st .Gt (.int a) (.int b)=some (decide (b<a)))/\(∀st a b,fk st .GtE (.int a) (.int b)=some (decide (b<=a)))/\(∀st a b,fk st .Is a b=Uw a b)/\(∀st a b,fk st .IsNot a b=(Uw a b).map (!·))/\
 (∀st y x,fk st .In (.str y) (.str x)=some (xd y x))/\(∀st y x,fk st .NotIn (.str y) (.str x)=some (!xd y x))/\(∀st y l,fk st .In y (.lst l)=CH y l)/\(∀st y b,fk st .In (.int y) b=(do CH (.int y) (<-jX st b)))/\∀st y b,fk st .NotIn (.int y) b=(do CH (.int y) (<-jX st b)).map (!·):=by
 refine⟨?_,?_,?_,?_,?_,?_,?_,?_,?_,?_,?_,?_,?_⟩<;>intros<;>first|rfl|(rename_i y _;cases y<;>rfl)
theorem pd:(∀st x i,gF st (.str x) (.int i)=(do return .str [<-x[<-ll i x.length]?]))/\(∀st l i,gF st (.tup l) (.int i)=(do l[<-ll i l.length]?))/\(∀st l i,gF st (.lst l) (.int i)=(do l[<-ll i l.length]?))/\∀st n i,gF st (.ref n) (.int i)=(do
 let l<-(st[n]?).join
 l[<-ll i l.length]?):=by
 refine⟨?_,?_,?_,?_⟩<;>intros<;>rfl
theorem cw:(∀st op a b,jv st op (.int a) (.int b)=(binI op a b).map .int)/\(∀st x y,jv st .Add (.str x) (.str y)=if x.length+y.length<=cB then some (.str (x++y))else none)/\(∀st l m,jv st .Add (.lst l) (.lst m)=if l.length+m.length<=cB then some (.lst (l++m))else none):=by refine⟨?_,?_,?_⟩<;>intros<;>rfl
theorem sk:(∀loc i v,cT loc (.bX i) v=ek loc i v)/\∀loc I vs,cT loc (.many I) (.tup vs)=jT loc I vs:=by refine⟨?_,?_⟩<;>intros<;>rfl
noncomputable def Sr:List (List Nat):= [[95,115,117,98,115,116,105,116,117,116,105,111,110,95,99,111,115,116],
 [95,108,101,118,101,110,115,104,116,101,105,110,95,100,105,115,116,97,110,99,101],
 [95,100,105,118,50,110,49,110],
 [95,100,105,118,51,110,50,110],
 [95,105,110,116,50,100,105,103,105,116,115],
 [95,100,105,103,105,116,115,50,105,110,116],
 [95,100,105,118,109,111,100,95,112,111,115],
 [105,110,116,95,100,105,118,109,111,100],
 [95,105,116,101,114,95,101,115,99,97,112,101,100,95,99,104,97,114,115],
 [95,115,116,114,105,112,95,113,117,111,116,101,100,95,114,101,97,108,110,97,109,101,115],
 [95,99,104,101,99,107,95,112,97,114,101,110,116,104,101,115,105,115],
 [105,110,95,116,97,98,108,101,95,98,49],
 [109,97,112,95,116,97,98,108,101,95,98,51],
 [95,108,97,119,95,99,101,108,108,115],
 [95,108,97,119,95,100,101,112,116,104,115],
 [95,108,97,119,95,109,97,114,107],
 [95,108,97,119,95,108,105,110,101],
 [95,108,97,119,95,114,101,97,100],
 [95,108,97,119,95,110,97,109,101,115],
 [95,108,97,119,95,119,97,121,115],
 [95,108,97,119,95,104,97,108,102],
 [95,108,97,119,95,99,111,115,116,115],
 [95,108,97,119,95,97,103,114,101,101,115],
 [108,97,119]]
noncomputable def t0:List (List Nat):= [[99,104,95,97],[99,104,95,98]]
noncomputable def f0:FD:=⟨2,2,
 [.ite (.cmp .Eq (.a 0) (.a 1))
  [.ret (.d 0)]
  [],
  .ite (.cmp .Eq (.lower (.a 0)) (.lower (.a 1)))
   [.ret (.n 2)]
   [],
  .ret (.n 1)]⟩
noncomputable def t1:List (List Nat):= [[97],[98],[109,97,120,95,99,111,115,116],[112,114,101],[112,111,115,116],[114,111,119],[114,101,115,117,108,116],[98,105,110,100,101,120],[98,99,104,97,114],[100,105,115,116,97,110,99,101],[109,105,110,105,109,117,109],[105,110,100,101,120],[115,117,98,115,116,105,116,117,116,101],[105,110,115,101,114,116,95,100,101,108,101,116,101]]
noncomputable def f1:FD:=⟨14,3,
 [.ite (.cmp .Eq (.a 0) (.a 1))
  [.ret (.d 0)]
  [],
  .cI (.bX 3) (.d 0),
  .P (.band [(.F (.a 0) (.a 3)),(.F (.a 1) (.a 3)),(.cmp .Eq (.sub (.a 0) (.a 3)) (.sub (.a 1) (.a 3)))])
   [.aug 3 .Add (.d 1)],
  .cI (.bX 0) (.F (.a 0) (.a 3)),
  .cI (.bX 1) (.F (.a 1) (.a 3)),
  .cI (.bX 4) (.d 0),
  .P (.band [(.A (.a 0) (.E (.a 4) .q)),(.A (.a 1) (.E (.a 4) .q)),(.cmp .Eq (.sub (.a 0) (.f .Sub (.a 4) (.d 1))) (.sub (.a 1) (.f .Sub (.a 4) (.d 1))))])
   [.aug 4 .Sub (.d 1)],
  .cI (.bX 0) (.A (.a 0) (.E (.a 4) .q)),
  .cI (.bX 1) (.A (.a 1) (.E (.a 4) .q)),
  .ite (.bor [(.C (.a 0)),(.C (.a 1))])
   [.ret (.f .Mult (.n 1) (.f .Add (.len (.a 0)) (.len (.a 1))))]
   [],
  .ite (.bor [(.cmp .Gt (.len (.a 0)) (.n 0)),(.cmp .Gt (.len (.a 1)) (.n 0))])
   [.ret (.f .Add (.a 2) (.d 1))]
   [],
  .ite (.cmp .Lt (.len (.a 1)) (.len (.a 0)))
   [.cI (.many [0,1]) (.tuple [(.a 1),(.a 0)])]
   [],
  .ite (.cmp .Gt (.f .Mult (.f .Sub (.len (.a 1)) (.len (.a 0))) (.n 1)) (.a 2))
   [.ret (.f .Add (.a 2) (.d 1))]
   [],
  .new 5 (.I [(.n 1),(.f .Mult (.n 1) (.f .Add (.len (.a 0)) (.d 1))),(.n 1)]),
  .cI (.bX 6) (.d 0),
  .m (.bX 7) (.j [(.len (.a 1))])
   [.cI (.bX 8) (.sub (.a 1) (.a 7)),
    .Cf 9 6 (.f .Mult (.a 7) (.n 1)),
    .cI (.bX 10) (.d 9223372036854775807),
    .m (.bX 11) (.j [(.len (.a 0))])
     [.cI (.bX 12) (.f .Add (.a 9) (.call 0 [(.a 8),(.sub (.a 0) (.a 11))])),
      .cI (.bX 9) (.sub (.a 5) (.a 11)),
      .cI (.bX 13) (.f .Add (.S (.a 6) (.a 9)) (.n 1)),
      .cI (.bX 6) (.S (.a 13) (.a 12)),
      .J (.a 5) (.a 11) (.a 6),
      .ite (.cmp .Lt (.a 6) (.a 10))
       [.cI (.bX 10) (.a 6)]
       []],
    .ite (.cmp .Gt (.a 10) (.a 2))
     [.ret (.f .Add (.a 2) (.d 1))]
     []],
  .ret (.a 6)]⟩
noncomputable def t2:List (List Nat):= [[97],[98],[110],[112,97,100],[104,97,108,102,95,110],[109,97,115,107],[98,49],[98,50],[113,49],[114],[113,50]]
noncomputable def f2:FD:=⟨11,3,
 [.ite (.cmp .LtE (.f .Sub (.qk (.a 0)) (.a 2)) (.n 3))
  [.ret (.divmod (.a 0) (.a 1))]
  [],
  .cI (.bX 3) (.f .BitAnd (.a 2) (.d 1)),
  .ite (.a 3)
   [.aug 0 .LShift (.d 1),
    .aug 1 .LShift (.d 1),
    .aug 2 .Add (.d 1)]
   [],
  .cI (.bX 4) (.f .RShift (.a 2) (.d 1)),
  .cI (.bX 5) (.f .Sub (.f .LShift (.d 1) (.a 4)) (.d 1)),
  .cI (.many [6,7]) (.tuple [(.f .RShift (.a 1) (.a 4)),(.f .BitAnd (.a 1) (.a 5))]),
  .cI (.many [8,9]) (.call 3 [(.f .RShift (.a 0) (.a 2)),(.f .BitAnd (.f .RShift (.a 0) (.a 4)) (.a 5)),(.a 1),(.a 6),(.a 7),(.a 4)]),
  .cI (.many [10,9]) (.call 3 [(.a 9),(.f .BitAnd (.a 0) (.a 5)),(.a 1),(.a 6),(.a 7),(.a 4)]),
  .ite (.a 3)
   [.aug 9 .RShift (.d 1)]
   [],
  .ret (.tuple [(.f .BitOr (.f .LShift (.a 8) (.a 4)) (.a 10)),(.a 9)])]⟩
noncomputable def t3:List (List Nat):= [[97,49,50],[97,51],[98],[98,49],[98,50],[110],[113],[114]]
noncomputable def f3:FD:=⟨8,6,
 [.ite (.cmp .Eq (.f .RShift (.a 0) (.a 5)) (.a 3))
  [.cI (.many [6,7]) (.tuple [(.f .Sub (.f .LShift (.d 1) (.a 5)) (.d 1)),(.f .Add (.f .Sub (.a 0) (.f .LShift (.a 3) (.a 5))) (.a 3))])]
  [.cI (.many [6,7]) (.call 2 [(.a 0),(.a 3),(.a 5)])],
  .cI (.bX 7) (.f .Sub (.f .BitOr (.f .LShift (.a 7) (.a 5)) (.a 1)) (.f .Mult (.a 6) (.a 4))),
  .P (.cmp .Lt (.a 7) (.d 0))
   [.aug 6 .Sub (.d 1),
    .aug 7 .Add (.a 2)],
  .ret (.tuple [(.a 6),(.a 7)])]⟩
noncomputable def t6:List (List Nat):= [[97],[98],[110],[97,95,100,105,103,105,116,115],[114],[113,95,100,105,103,105,116,115],[97,95,100,105,103,105,116],[113,95,100,105,103,105,116],[113]]
noncomputable def f6:FD:=⟨9,2,
 [.cI (.bX 2) (.qk (.a 1)),
  .cI (.bX 3) (.call 4 [(.a 0),(.a 2)]),
  .cI (.bX 4) (.d 0),
  .new 5 (.list []),
  .m (.bX 6) (.K (.a 3))
   [.cI (.many [7,4]) (.call 2 [(.f .Add (.f .LShift (.a 4) (.a 2)) (.a 6)),(.a 1),(.a 2)]),
    .app 5 (.a 7)],
  .rev 5,
  .v 5,
  .cI (.bX 8) (.call 5 [(.a 5),(.a 2)]),
  .ret (.tuple [(.a 8),(.a 4)])]⟩
noncomputable def t7:List (List Nat):= [[97],[98],[113],[114]]
noncomputable def f7:FD:=⟨4,2,
 [.ite (.cmp .Eq (.a 1) (.d 0))
  [.K5]
  [.ite (.cmp .Lt (.a 1) (.d 0))
   [.cI (.many [2,3]) (.call 7 [(.neg (.a 0)),(.neg (.a 1))]),
    .ret (.tuple [(.a 2),(.neg (.a 3))])]
   [.ite (.cmp .Lt (.a 0) (.d 0))
    [.cI (.many [2,3]) (.call 7 [(.inv (.a 0)),(.a 1)]),
     .ret (.tuple [(.inv (.a 2)),(.f .Add (.a 1) (.inv (.a 3)))])]
    [.ret (.call 6 [(.a 0),(.a 1)])]]]]⟩
noncomputable def t9:List (List Nat):= [[97,100,100,114],[115,116,97,114,116],[111,112,101,110,95,112,111,115],[114,101,115,117,108,116],[112,111,115],[99,104]]
noncomputable def f9:FD:=⟨6,1,
 [.ite (.cmp .NotIn (.l [34]) (.a 0))
  [.ret (.a 0)]
  [],
  .cI (.bX 1) (.d 0),
  .cI (.bX 2) .q,
  .new 3 (.list []),
  .m (.many [4,5]) (.M (.a 0))
   [.ite (.cmp .Eq (.a 5) (.l [34]))
    [.ite (.cmp .Is (.a 2) .q)
     [.cI (.bX 2) (.a 4)]
     [.ite (.cmp .NotEq (.a 1) (.a 2))
      [.app 3 (.G (.a 0) (.a 1) (.a 2))]
      [],
      .cI (.bX 1) (.f .Add (.a 4) (.d 1)),
      .cI (.bX 2) .q]]
    []],
  .ite (.cmp .Lt (.a 1) (.len (.a 0)))
   [.app 3 (.F (.a 0) (.a 1))]
   [],
  .ret (.join (.a 3))]⟩
noncomputable def X0:List (List Nat):= [[97,100,100,114],[111,112,101,110,115],[112,111,115],[99,104]]
noncomputable def Yl:FD:=⟨4,1,
 [.cI (.bX 0) (.call 9 [(.a 0)]),
  .cI (.bX 1) (.d 0),
  .m (.many [2,3]) (.M (.a 0))
   [.ite (.cmp .Eq (.a 3) (.l [40]))
    [.aug 1 .Add (.d 1)]
    [.ite (.cmp .Eq (.a 3) (.l [41]))
     [.aug 1 .Sub (.d 1),
      .ite (.cmp .Lt (.a 1) (.d 0))
       [.ret (.u false)]
       []]
     []]],
  .ret (.cmp .Eq (.a 1) (.d 0))]⟩
noncomputable def Zj:List (List Nat):= [[99,111,100,101]]
noncomputable def QQ:FD:=⟨1,1,
 [.ret (.J5 (.Ad (.a 0)))]⟩
noncomputable def Zk:List (List Nat):= [[99,111,100,101],[114]]
noncomputable def ML:FD:=⟨2,1,
 [.cI (.bX 1) (.xc (.Ad (.a 0))),
  .ite (.cmp .IsNot (.a 1) .q)
   [.ret (.a 1)]
   [],
  .ret (.lower (.a 0))]⟩
noncomputable def Zl:List (List Nat):= [[115,99,114,105,112,116],[99,101,108,108,115],[112,108,97,99,101]]
noncomputable def Ym:FD:=⟨3,1,
 [.new 1 (.list [(.d 1422165),(.d 3),(.d 11),(.d 0),(.d 14),(.d 1),(.d 1),(.d 4),(.d 2),(.d 5),(.neg (.d 1))]),
  .m (.bX 2) (.j [(.len (.a 0))])
   [.oH 1 (.f .Mod (.a 2) (.d 11)) .Add (.sub (.a 0) (.a 2))],
  .v 1,
  .ret (.a 1)]⟩
noncomputable def Zm:List (List Nat):= [[99,101,108,108],[100,101,112,116,104,115],[112,108,97,99,101],[115,105,122,101]]
noncomputable def Yn:FD:=⟨4,1,
 [.new 1 (.list [(.d 0),(.d 1)]),
  .m (.bX 2) (.j [(.d 3)])
   [.cI (.bX 3) (.f .Add (.sub (.a 1) (.neg (.d 1))) (.d 1)),
    .app 1 (.f .Add (.d 1) (.f .Mod (.a 0) (.a 3))),
    .aug 0 .FloorDiv (.a 3)],
  .v 1,
  .ret (.tuple [(.a 1),(.a 0)])]⟩
noncomputable def Zn:List (List Nat):= [[112,108,97,99,101],[100,114,97,119],[115,116,97,114,116],[104,105,100,100,101,110],[103,114,101,97,116],[115,116,97,121,115],[108,101,116,116,101,114],[119,104,105,99,104],[115,116,97,121]]
noncomputable def Yo:FD:=⟨9,3,
 [.cI (.bX 3) (.f .Add (.list [(.d 173),(.d 847),(.d 6150),(.d 6155),(.d 6156),(.d 6157),(.d 8203),(.d 8204),(.d 8205),(.d 8288),(.d 65279)]) (.I [(.d 65024),(.d 65040)])),
  .cI (.bX 4) (.list [(.d 119808),(.d 119860),(.d 119912),(.d 120016),(.d 120172),(.d 120224),(.d 120276),(.d 120328),(.d 120380),(.d 120432)]),
  .cI (.bX 5) (.list [(.d 172),(.d 174),(.d 846),(.d 848),(.d 6149),(.d 6151),(.d 6154),(.d 6158),(.d 8202),(.d 8206),(.d 8287),(.d 8289),(.d 65023),(.d 65040),(.d 65278),(.d 65280)]),
  .cI (.bX 6) (.sub (.l [102,104,115,116]) (.a 0)),
  .cI (.bX 7) (.f .FloorDiv (.a 1) (.d 5)),
  .ite (.cmp .Eq (.f .Mod (.a 1) (.d 5)) (.d 0))
   [.ret (.tuple [(.upper (.a 6)),(.a 6)])]
   [],
  .ite (.cmp .Eq (.f .Mod (.a 1) (.d 5)) (.d 1))
   [.ret (.tuple [(.f .Add (.a 6) (.Q (.sub (.a 3) (.f .Mod (.f .Add (.f .Add (.f .Mult (.d 4) (.f .Mod (.a 7) (.d 6))) (.a 0)) (.a 2)) (.d 27))))),(.a 6)])]
   [],
  .ite (.cmp .Eq (.f .Mod (.a 1) (.d 5)) (.d 2))
   [.ret (.tuple [(.Q (.f .Sub (.f .Add (.sub (.a 4) (.f .Mod (.a 7) (.d 10))) (.Ad (.a 6))) (.d 97))),(.a 6)])]
   [],
  .ite (.cmp .Eq (.f .Mod (.a 1) (.d 5)) (.d 3))
   [.ret (.tuple [(.Q (.sub (.list [(.d 64258),(.d 13200),(.d 13276),(.d 8482)]) (.a 0))),(.f .Add (.a 6) (.sub (.l [108,122,118,109]) (.a 0)))])]
   [],
  .cI (.bX 8) (.Q (.sub (.a 5) (.f .Add (.f .Mult (.d 4) (.f .Mod (.a 7) (.d 4))) (.a 0)))),
  .ret (.tuple [(.f .Add (.a 6) (.a 8)),(.f .Add (.a 6) (.a 8))])]⟩
noncomputable def Zo:List (List Nat):= [[100,101,112,116,104,115],[109,97,114,107,115],[100,114,97,119],[108,105,110,101],[100,101,101,112],[112,108,97,99,101]]
noncomputable def Yp:FD:=⟨6,3,
 [.cI (.bX 3) (.l [40]),
  .cI (.bX 4) (.d 0),
  .m (.bX 5) (.j [(.d 5)])
   [.P (.cmp .GtE (.a 4) (.sub (.f .Add (.a 0) (.list [(.d 0)])) (.f .Add (.a 5) (.d 1))))
    [.aug 3 .Add (.f .Add (.l [41]) (.sub (.list [(.l []),(.l [92,41]),(.l [34,40,92,34,34]),(.l [92,92]),(.l [92,34])]) (.f .Mod (.a 2) (.d 5)))),
     .aug 2 .FloorDiv (.d 5),
     .aug 4 .Sub (.d 1)],
    .ite (.cmp .Lt (.a 5) (.d 4))
     [.aug 3 .Add (.f .Add (.l [40]) (.sub (.a 1) (.a 5))),
      .aug 4 .Add (.d 1)]
     []],
  .ret (.a 3)]⟩
noncomputable def Zp:List (List Nat):= [[116,101,120,116],[111,112,101,110,115],[115,104,117,116,115],[112,108,97,99,101],[117,110,105,116],[109,97,116,101,115],[115,116,97,114,116],[115,116,111,112],[98,111,116,104],[109,97,114,107,115]]
noncomputable def Yq:FD:=⟨10,1,
 [.new 1 (.list []),
  .new 2 (.list []),
  .m (.many [3,4]) (.M (.a 0))
   [.ite (.cmp .Eq (.a 4) (.l [40]))
    [.app 1 (.a 3)]
    [.ite (.cmp .Eq (.a 4) (.l [41]))
     [.app 2 (.a 3)]
     []]],
  .v 1,
  .v 2,
  .new 5 (.list []),
  .m (.bX 6) (.a 1)
   [.m (.bX 7) (.a 2)
    [.ite (.band [(.cmp .Gt (.a 7) (.a 6)),(.call 10 [(.G (.a 0) (.a 6) (.f .Add (.a 7) (.d 1)))])])
     [.app 5 (.a 7),
      .brk]
     []]],
  .v 5,
  .cI (.bX 8) (.sorted (.f .Add (.a 1) (.a 2))),
  .cI (.bX 9) (.comp (.G (.a 0) (.f .Add (.a 6) (.d 1)) (.sub (.a 8) (.f .Add (.index (.a 8) (.a 6)) (.d 1)))) (.bX 6) (.a 1)),
  .ret (.tuple [(.a 1),(.a 5),(.a 9)])]⟩
noncomputable def Zq:List (List Nat):= [[111,112,101,110,115],[109,97,116,101,115],[109,97,114,107,115],[108,101,116,116,101,114,115],[110,97,109,101,115],[115,116,97,114,116],[110,97,109,101],[112,108,97,99,101]]
noncomputable def Yr:FD:=⟨8,4,
 [.new 4 (.list []),
  .m (.bX 5) (.a 0)
   [.cI (.bX 6) (.l []),
    .m (.bX 7) (.j [(.d 1),(.d 5)])
     [.aug 6 .Add (.N (.B .LtE .LtE (.sub (.a 0) (.a 7)) (.a 5) (.sub (.a 1) (.a 7))) (.sub (.a 2) (.a 7)) (.sub (.a 3) (.a 7)))],
    .app 4 (.a 6)],
  .v 4,
  .ret (.a 4)]⟩
noncomputable def Zr:List (List Nat):= [[110,97,109,101,115],[119,97,121,115],[110,97,109,101],[120],[121]]
noncomputable def Sm:FD:=⟨5,1,
 [.GG 1 (.list [(.d 0),(.d 0),(.d 0),(.d 0),(.d 0)]) (.a 0) 2,
  .m (.bX 3) (.j [(.d 5)])
   [.m (.bX 4) (.j [(.a 3)])
    [.J (.sub (.a 1) (.a 3)) (.a 4) (.call 1 [(.sub (.a 0) (.a 3)),(.sub (.a 0) (.a 4)),(.d 8)]),
     .J (.sub (.a 1) (.a 4)) (.a 3) (.sub (.sub (.a 1) (.a 3)) (.a 4))]],
  .v 1,
  .ret (.a 1)]⟩
noncomputable def Zs:List (List Nat):= [[119,101,105,103,104,116],[119,104,111,108,101],[100,114,97,119],[117,110,105,116],[115,104,97,114,101],[116,117,114,110],[108,101,115,115],[116,111,112],[116,111,108,100]]
noncomputable def Ys:FD:=⟨9,3,
 [.cI (.bX 3) (.f .Pow (.d 3) (.d 2600)),
  .cI (.bX 4) (.f .Pow (.d 2) (.d 4090)),
  .cI (.bX 5) (.f .Sub (.d 1) (.f .Mult (.d 2) (.f .Mod (.a 2) (.d 2)))),
  .cI (.bX 6) (.f .Mult (.f .Mult (.d 3) (.a 4)) (.f .Mod (.f .FloorDiv (.a 2) (.d 2)) (.d 2))),
  .cI (.bX 7) (.f .Add (.f .Mult (.f .Sub (.f .Mult (.f .Mult (.d 2) (.a 0)) (.a 4)) (.f .Mult (.a 6) (.a 1))) (.a 3)) (.f .Mod (.a 2) (.a 3))),
  .cI (.bX 8) (.call 7 [(.f .Mult (.a 5) (.a 7)),(.f .Mult (.f .Mult (.a 5) (.a 1)) (.a 3))]),
  .ite (.bor [(.cmp .NotEq (.f .Add (.f .Mult (.f .Mult (.sub (.a 8) (.d 0)) (.a 1)) (.a 3)) (.f .Mult (.a 5) (.sub (.a 8) (.d 1)))) (.a 7)),(.C (.B .LtE .Lt (.d 0) (.f .Mult (.a 5) (.sub (.a 8) (.d 1))) (.f .Mult (.a 1) (.a 3))))])
   [.ret (.d 9)]
   [],
  .ite (.cmp .Lt (.f .Add (.sub (.a 8) (.d 0)) (.a 6)) (.a 4))
   [.ret (.d 0)]
   [],
  .ret (.N (.cmp .Eq (.f .Add (.sub (.a 8) (.d 0)) (.a 6)) (.a 4)) (.d 1) (.d 2))]⟩
noncomputable def Zt:List (List Nat):= [[100,101,112,116,104,115],[119,101,105,103,104,116,115],[112,114,105,99,101,115],[97,98,111,118,101],[117],[108,97,115,116],[118],[99,111,115,116,115],[120],[99,111,115,116]]
noncomputable def Yt:FD:=⟨10,3,
 [.new 3 (.list [(.list [])]),
  .m (.bX 4) (.j [(.d 1),(.d 5)])
   [.cI (.bX 5) (.Cq (.y (.a 6) (.bX 6) (.j [(.a 4)]) (.cmp .Eq (.sub (.a 0) (.a 6)) (.f .Sub (.sub (.a 0) (.a 4)) (.d 1))))),
    .app 3 (.f .Add (.sub (.a 3) (.a 5)) (.list [(.a 4)]))],
  .v 3,
  .new 7 (.list []),
  .m (.bX 8) (.j [(.d 5)])
   [.cI (.bX 9) (.d 0),
    .m (.bX 4) (.j [(.d 5)])
     [.aug 9 .Add (.f .Mult (.sub (.a 1) (.a 4)) (.D (.y (.sub (.a 2) (.f .Sub (.a 6) (.d 1))) (.bX 6) (.j [(.d 1),(.d 5)]) (.cmp .NotEq (.cmp .In (.a 6) (.sub (.a 3) (.a 4))) (.cmp .In (.a 6) (.sub (.a 3) (.a 8)))))))],
    .app 7 (.a 9)],
  .v 7,
  .ret (.a 7)]⟩
noncomputable def Zu:List (List Nat):= [[119,97,121,115],[119,101,105,103,104,116,115],[99,111,115,116,115],[116,111,108,100],[120],[117]]
noncomputable def Xn:FD:=⟨6,4,
 [.ite (.cmp .NotEq (.comp (.D (.comp (.f .Mult (.sub (.a 1) (.a 5)) (.sub (.sub (.a 0) (.a 4)) (.a 5))) (.bX 5) (.j [(.d 5)]))) (.bX 4) (.j [(.d 5)])) (.a 2))
  [.ret (.u false)]
  [],
  .ret (.cmp .Eq (.y (.a 4) (.bX 4) (.j [(.d 5)]) (.cmp .Eq (.sub (.a 2) (.a 4)) (.U (.a 2)))) (.a 3))]⟩
noncomputable def UE:List (List Nat):= [[115,99,114,105,112,116],[99,101,108,108,115],[100,101,112,116,104,115],[100,114,97,119],[112,97,105,114,115],[112,108,97,99,101],[100,114,97,119,110],[109,97,114,107],[102,111,108,100],[108,105,110,101],[116,101,120,116],[111,112,101,110,115],[109,97,116,101,115],[109,97,114,107,115],[102,111,108,100,101,100],[115,105,103,110],[108,101,116,116,101,114,115],[116,121,112,101,100],[112,108,97,105,110],[119,101,105,103,104,116,115],[117],[104,97,108,118,101,115],[118],[119,101,105,103,104,116],[116,111,108,100],[112,114,105,99,101,115],[97,108,105,107,101],[120],[108,101,115,115,101,114]]
noncomputable def D9:FD:=⟨29,1,
 [.cI (.bX 1) (.call 13 [(.a 0)]),
  .cI (.many [2,3]) (.call 14 [(.sub (.a 1) (.d 0))]),
  .cI (.bX 4) (.comp (.call 15 [(.a 5),(.sub (.a 1) (.f .Add (.d 1) (.a 5))),(.f .Mod (.a 3) (.d 27))]) (.bX 5) (.j [(.d 4)])),
  .cI (.bX 6) (.comp (.a 7) (.many [7,8]) (.a 4)),
  .cI (.bX 9) (.call 16 [(.a 2),(.a 6),(.f .FloorDiv (.a 3) (.d 27))]),
  .ite (.bor [(.cmp .IsNot (.call 10 [(.a 9)]) (.u true)),(.cmp .IsNot (.call 10 [(.f .Add (.F (.a 9) (.d 1)) (.A (.a 9) (.d 1)))]) (.u false))])
   [.ret (.u false)]
   [],
  .cI (.bX 10) (.call 9 [(.a 9)]),
  .ite (.cmp .NotEq (.a 10) (.Z (.a 9) [34,40,92,34,34] []))
   [.ret (.u false)]
   [],
  .cI (.many [11,12,13]) (.call 17 [(.a 10)]),
  .ite (.cmp .NotEq (.a 13) (.f .Add (.list [(.l [])]) (.a 6)))
   [.ret (.u false)]
   [],
  .cI (.bX 14) (.comp (.join (.y (.call 12 [(.a 15)]) (.bX 15) (.a 7) (.C (.call 11 [(.a 15)])))) (.bX 7) (.a 13)),
  .ite (.cmp .NotEq (.a 14) (.f .Add (.list [(.l [])]) (.comp (.a 8) (.many [7,8]) (.a 4))))
   [.ret (.u false)]
   [],
  .cI (.bX 16) (.comp (.A (.a 7) (.d 1)) (.bX 7) (.a 14)),
  .cI (.bX 17) (.call 18 [(.a 11),(.a 12),(.a 13),(.a 16)]),
  .cI (.bX 18) (.call 18 [(.a 11),(.a 12),(.a 14),(.a 16)]),
  .cI (.bX 19) (.f .Add (.list [(.f .Add (.d 1) (.f .Mod (.sub (.a 1) (.d 5)) (.f .Pow (.d 10) (.d 30))))]) (.comp (.f .Mod (.sub (.a 1) (.f .Add (.d 6) (.a 20))) (.f .Pow (.d 10) (.d 30))) (.bX 20) (.j [(.d 4)]))),
  .new 21 (.list []),
  .m (.bX 22) (.j [(.d 5)])
   [.cI (.bX 23) (.D (.y (.sub (.a 19) (.a 20)) (.bX 20) (.j [(.d 5)]) (.B .LtE .LtE (.sub (.a 11) (.a 22)) (.sub (.a 11) (.a 20)) (.sub (.a 12) (.a 22))))),
    .app 21 (.call 20 [(.a 23),(.D (.a 19)),(.sub (.a 1) (.d 10))])],
  .v 21,
  .ite (.cmp .In (.d 9) (.a 21))
   [.ret (.u false)]
   [],
  .new 24 (.list []),
  .m (.bX 22) (.j [(.d 5)])
   [.ite (.band [(.cmp .Gt (.sub (.a 21) (.a 22)) (.d 0)),(.cmp .Eq (.y (.a 20) (.bX 20) (.j [(.d 5)]) (.band [(.B .Lt .LtE (.sub (.a 11) (.a 22)) (.sub (.a 11) (.a 20)) (.sub (.a 12) (.a 22))),(.cmp .Eq (.sub (.a 21) (.a 20)) (.d 2))])) (.list []))])
    [.app 24 (.a 22)]
    []],
  .v 24,
  .cI (.bX 25) (.comp (.sub (.list [(.d 1),(.d 2),(.d 2),(.d 2),(.d 2)]) (.f .Mod (.sub (.a 1) (.f .Add (.d 1) (.a 5))) (.d 5))) (.bX 5) (.j [(.d 4)])),
  .ite (.C (.call 22 [(.call 19 [(.a 17)]),(.a 19),(.call 21 [(.a 2),(.a 19),(.a 25)]),(.a 24)]))
   [.ret (.u false)]
   [],
  .cI (.bX 26) (.y (.a 27) (.bX 27) (.j [(.d 5)]) (.cmp .In (.sub (.a 18) (.a 27)) (.comp (.sub (.a 18) (.a 22)) (.bX 22) (.a 24)))),
  .cI (.bX 28) (.comp (.sub (.list [(.d 0),(.d 0),(.d 0),(.d 2),(.d 2)]) (.f .Mod (.sub (.a 1) (.f .Add (.d 1) (.a 5))) (.d 5))) (.bX 5) (.j [(.d 4)])),
  .ret (.call 22 [(.call 19 [(.a 18)]),(.a 19),(.call 21 [(.a 2),(.a 19),(.a 28)]),(.a 26)])]⟩
abbrev cL(T:String)(h:bk)(a:az)(vs:List aw):Prop:=∃n,h.get? a=some {cls:=.type T,dict:=none,data:=.seq vs.toArray n,slots:= #[]}
mutual
inductive VR (W:az->Prop) (ρ:List az) (h:bk):aw->AV->Prop
 |none:VR W ρ h .none .none
 |bool (b:Bool):VR W ρ h (.bool b) (.bool b)
 |int (i:Int) (t:nZ):VR W ρ h (.int i t) (.int i)
 |str (x:List Nat) (t:nZ):VR W ρ h (.str (strOf x) t) (.str x)
 |tup {a:az} {vs:List aw} {l:List AV}:¬W a->cL "tuple" h a vs->ft W ρ h vs l->VR W ρ h (.ref a) (.tup l)
 |lst {a:az} {vs:List aw} {l:List AV}:¬W a->cL "list" h a vs->ft W ρ h vs l->VR W ρ h (.ref a) (.lst l)
 |ref {n:Nat} {a:az}:ρ[n]? =some a->VR W ρ h (.ref a) (.ref n)
inductive ft (W:az->Prop) (ρ:List az) (h:bk):List aw->List AV->Prop
 |nil:ft W ρ h [] []
 |cons {v:aw} {a:AV} {vs:List aw} {l:List AV}:VR W ρ h v a->ft W ρ h vs l->ft W ρ h (v::vs) (a::l)
end
theorem VR.dK{W:az->Prop}{ρ:List az}{h:bk}{v:aw}{i:Int}(x:VR W ρ h v (.int i)){I:Prop}(N:∀t,v=.int i t->I):I:=by rcases x with⟨⟩;exact N _ rfl
theorem VR.rx{W:az->Prop}{ρ:List az}{h:bk}{v:aw}(x:VR W ρ h v .none):v=.none:=by rcases x with⟨⟩;rfl
theorem VR.mj{W:az->Prop}{ρ:List az}{h:bk}{v:aw}{b:Bool}(x:VR W ρ h v (.bool b)):v=.bool b:=by rcases x with⟨⟩;rfl
theorem VR.gf{W:az->Prop}{ρ:List az}{h:bk}{v:aw}{i:List Nat}(x:VR W ρ h v (.str i)):∃t,v=.str (strOf i) t:=by rcases x with⟨⟩;exact⟨_,rfl⟩
theorem ft.sI{W:az->Prop}{ρ:List az}{h:bk}{vs:List aw}(x:ft W ρ h vs []):vs= []:=by rcases x with⟨⟩;rfl
theorem ft.mo{W:az->Prop}{ρ:List az}{h:bk}{vs:List aw}{a:AV}{l:List AV}(x:ft W ρ h vs (a::l)){I:Prop}(N:∀v F,vs=v::F->VR W ρ h v a->ft W ρ h F l->I):I:=by rcases x with⟨⟩;exact N _ _ rfl (‹_›) (‹_›)
def Tb(b:az):Prop:=b=PD\/b=T9
noncomputable def Gu(b:az):Nat:=if b=PD then 80 else 95
noncomputable def rE(b:az):bj:=if b=PD then "_int2digits.<locals>.inner"else "_digits2int.<locals>.inner"
noncomputable def UG(b c:az):hC:=sg #[zL (Gu b:Nat),zL ((4:Nat):Int),.ref c]
def Gr(h:bk)(b:az)(o R:hC):Prop:=R=o\/(Tb b/\o=sg #[]/\∃c,R=UG b c/\h.CodeRec (.ref c) (rE b))
def nt(o:hC):Prop:=o≠sg #[]
def yi(o:hC):Prop:=∃vs q t,o.data=.fields vs/\vs[1]? =some (.str q t)
theorem Gr.refl(h:bk)(b:az)(o:hC):Gr h b o o:=.inl rfl
theorem vK{o:hC}(h:yi o):nt o:=by intro j;subst j;refine m6 h λvs q t J U=>?_;injection J with S;subst S;injection U
theorem Uc(b c:az):UG b c≠sg #[]:=by intro h;delta UG at h;injection h with _ _ Z;injection Z with d;simp at d
theorem Gr.trans{h h':bk}{b:az}{o R A:hC}(x:Gr h b o R)(y:Gr h' b R A)(V:∀c q,h.CodeRec (.ref c) q->h'.CodeRec (.ref c) q):Gr h' b o A:=by
 rcases x with rfl|⟨t,rfl,c,rfl,N⟩
 ·exact y
 ·refine ak y (λH=>?_) λg=>eY g λz U z=>?_;refine ab H ?_
  ·exact .inr ⟨t,rfl,c,rfl,V c _ N⟩
  ·exact absurd U (Uc b c)
theorem Gr.nt{h:bk}{b:az}{o R:hC}(x:Gr h b o R)(Q:Mine.Internal.nt o):R=o:=by
 refine ak x (λH=>?_) λg=>eY g λz h z=>?_;subst H
 ·rfl
 ·exact absurd h Q
theorem jt{o:hC}{T:String}(h:o.cls=.type T):nt o:=by intro u;subst u;injection h
theorem i8{o:hC}{vs:Array aw}{n:Nat}(h:o.data=.seq vs n):nt o:=by intro Q;subst Q;injection h
theorem nN{o:hC}{es:Array cG}{n:Nat}(h:o.data=.dict es n):nt o:=by intro c;subst c;injection h
theorem uk{o:hC}{v:Option aw}(h:o.data=.cell v):nt o:=by intro F;subst F;injection h
abbrev bO(h h':bk):Prop:=∀b o,h.get? b=some o->∃R,h'.get? b=some R/\Gr h' b o R
abbrev iu(h h':bk):Prop:=∀b o,h.get? b=some o->h'.get? b=some o
theorem iu.k{h h':bk}(x:iu h h'):bO h h':=λb o e=>⟨o,x b o e,.refl _ _ _⟩
theorem bO.nt{h h':bk}(k:bO h h'){b:az}{o:hC}(e:h.get? b=some o)(Q:Mine.Internal.nt o):h'.get? b=some o:=by refine aC (k b o e) λR J U=>?_;rw[U.nt Q]at J;exact J
theorem bO.alive{h h':bk}(k:bO h h')(b:az)(o:hC)(e:h.get? b=some o):∃R,h'.get? b=some R:=aC (k b o e) λR J z=>⟨R,J⟩
theorem bO.code{h h':bk}(k:bO h h'){cd:aw}{q:bj}(x:h.CodeRec cd q):h'.CodeRec cd q:=
 rk x λc o vs t J U Z d=>⟨c,o,vs,t,J,k.nt U (vK ⟨vs,q,t,Z,d⟩),Z,d⟩
theorem bO.trans{a b c:bk}(x:bO a b)(y:bO b c):bO a c:=λp o e=>aC (x p o e) λo1 J f=>aC (y p o1 J) λr U j=>⟨r,U,f.trans j λc q=>y.code⟩
theorem bO.seq{h h':bk}(k:bO h h'){T:String}{a:az}{vs:List aw}(x:cL T h a vs):cL T h' a vs:=aI x λn e=>⟨n,k.nt e (i8 rfl)⟩
section
variable{W W':az->Prop}{ρ ρ':List az}{h h':bk}
theorem VR.mv(hW:∀a,W' a->W a\/h.get? a=Fm)(I:∀b T vs,¬W b->cL T h b vs->cL T h' b vs){v:aw}{a:AV}(x:VR W ρ h v a):
 (∀(n:Nat) (a:az),ρ[n]? =some a->ρ'[n]? =some a)\/Mine.Internal.jP a=true->VR W' ρ' h' v a:=
 have Q:∀{T:String} {a:az} {vs:List aw},¬W a->cL T h a vs->¬W' a:=λY G A=>(hW _ A).elim Y λx=>G.elim λz e=>nomatch e.symm.trans x
 VR.rec (motive_1:=λv a z=>(∀(n:Nat) (a:az),ρ[n]? =some a->ρ'[n]? =some a)\/Mine.Internal.jP a=true->VR W' ρ' h' v a)
  (motive_2:=λvs l z=>(∀(n:Nat) (a:az),ρ[n]? =some a->ρ'[n]? =some a)\/dU l=true->ft W' ρ' h' vs l)
  (λz=>.none) (λb z=>.bool b) (λi t z=>.int i t) (λi t z=>.str i t)
  (λY G z R H=>.tup (Q Y G) (I _ _ _ Y G) (R H)) (λY G z R H=>.lst (Q Y G) (I _ _ _ Y G) (R H))
  (λe H=>.ref (H.elim (λm=>m _ _ e) λq=>nomatch q)) (λz=>.nil)
  (λz z i1 o H=>.cons (i1 (H.imp id λq=>((au _ _).mp q).1)) (o (H.imp id λq=>((au _ _).mp q).2))) x
theorem VR.move(hW:∀a,W' a->W a\/h.get? a=Fm)(I:∀b T vs,¬W b->cL T h b vs->cL T h' b vs)(g:∀(n:Nat) (a:az),ρ[n]? =some a->ρ'[n]? =some a)
 {v:aw}{a:AV}(x:VR W ρ h v a):VR W' ρ' h' v a:=x.mv hW I (.inl g)
theorem ft.move(hW:∀a,W' a->W a\/h.get? a=Fm)(I:∀b T vs,¬W b->cL T h b vs->cL T h' b vs)(g:∀(n:Nat) (a:az),ρ[n]? =some a->ρ'[n]? =some a)
 {vs:List aw}:∀{l:List AV},ft W ρ h vs l->ft W' ρ' h' vs l:=by
 induction vs with
 |nil=>intro l x;rcases x with⟨⟩;exact .nil
 |cons v vs R=>intro l x;(rcases x with _|⟨a,b⟩;exact .cons (a.move hW I g) (R b))
theorem VR.noRef{v:aw}{a:AV}(x:VR W ρ h v a)(Q:Mine.Internal.jP a=true):VR W ρ' h v a:=x.mv (λz=>.inl) (λz z z z=>id) (.inr Q)
theorem VR.keep{v:aw}{a:AV}(I:bO h h')(x:VR W ρ h v a):VR W ρ h' v a:=x.move (λz h=>.inl h) (λz z z z e=>I.seq e) λz z e=>e
theorem ft.keep{v:List aw}{a:List AV}(I:bO h h')(x:ft W ρ h v a):ft W ρ h' v a:=x.move (λz h=>.inl h) (λz z z z e=>I.seq e) λz z e=>e
theorem ft.length{vs:List aw}:∀{l:List AV},ft W ρ h vs l->vs.length=l.length:=by
 induction vs with
 |nil=>intro l x;rcases x with⟨⟩;rfl
 |cons v vs R=>intro l x;(rcases x with _|⟨a,b⟩;exact tT.mpr (R b))
theorem ft.get{vs:List aw}:∀{l:List AV} {i:Nat} {a:AV},ft W ρ h vs l->l[i]? =some a->∃v,vs[i]? =some v/\VR W ρ h v a:=by
 induction vs with
 |nil=>intro l i a x e;rcases x with⟨⟩;injection e
 |cons v vs R=>
  intro l i a x e;cases x with
  |cons y z=>rcases i with _|i
             ·simp at e;subst e;exact⟨v,rfl,y⟩
             ·simp at e;exact aC (R z e) λw J U=>⟨w,J,U⟩
theorem ft.append{vs vs':List aw}:∀{l l':List AV},ft W ρ h vs l->ft W ρ h vs' l'->ft W ρ h (vs++vs') (l++l'):=by
 induction vs with
 |nil=>intro l l' x y;rcases x with⟨⟩;exact y
 |cons v vs R=>intro l l' x y;(rcases x with _|⟨a,b⟩;exact .cons a (R b y))
theorem ft.set{vs:List aw}:∀{l:List AV} {i:Nat} {v:aw} {a:AV},ft W ρ h vs l->VR W ρ h v a->ft W ρ h (vs.set i v) (l.set i a):=by
 induction vs with
 |nil=>intro l i v a x y;rcases x with⟨⟩;exact .nil
 |cons u vs R=>
  intro l i v a x y;cases x with
  |cons p q=>rcases i with _|i
             ·exact .cons y q
             ·exact .cons p (R q y)
theorem ft.reverse{vs:List aw}:∀{l:List AV},ft W ρ h vs l->ft W ρ h vs.reverse l.reverse:=by
 induction vs with
 |nil=>intro l x;rcases x with⟨⟩;exact .nil
 |cons v vs R=>intro l x;(rcases x with _|⟨a,b⟩;simpa using(R b).append (.cons a .nil))
end
abbrev cD(X:az->Prop)(h h':bk):Prop:=∀b o,(¬X b\/yi o)->h.get? b=some o->∃R,h'.get? b=some R/\Gr h' b o R
theorem cD.of{X:az->Prop}{h h':bk}(x:∀b o,¬X b->h.get? b=some o->h'.get? b=some o)(P:∀b o,X b->h.get? b=some o->¬yi o):cD X h h':=λb o O e=>by
 refine⟨o,x b o ?_ e,.refl _ _ _⟩;refine ak O (λO=>?_) λO=>?_
 ·exact O
 ·exactλq=>P b o q e O
theorem cD.nt{X:az->Prop}{h h':bk}(k:cD X h h'){b:az}{o:hC}(O:¬X b)(e:h.get? b=some o)(Q:Mine.Internal.nt o):h'.get? b=some o:=by refine aC (k b o (.inl O) e) λR J U=>?_;rw[U.nt Q]at J;exact J
theorem cD.code{X:az->Prop}{h h':bk}(k:cD X h h'){cd:aw}{q:bj}(x:h.CodeRec cd q):h'.CodeRec cd q:=by refine rk x λc o vs t J U Z d=>aC (k c o (.inr ⟨vs,q,t,Z,d⟩) U) λR e1 e2=>?_;rw[e2.nt (vK ⟨vs,q,t,Z,d⟩)]at e1;exact⟨c,o,vs,t,J,e1,Z,d⟩
theorem cD.trans{X:az->Prop}{a b c:bk}(x:cD X a b)(y:cD X b c):cD X a c:=λp o B e=>aC (x p o B e) λo1 J f=>aC (y p o1 (B.imp id λV=>ab (f.nt (vK V))<|V) J) λr U j=>⟨r,U,f.trans j λc q=>y.code⟩
theorem cD.weaken{X Y:az->Prop}{h h':bk}(k:cD X h h')(P:∀p,X p->Y p):cD Y h h':=λb o O e=>k b o (O.imp (λQ q=>Q (P b q)) id) e
theorem cD.ext{X:az->Prop}{h h':bk}(k:bO h h'):cD X h h':=λb o z e=>k b o e
theorem cD.after{X:az->Prop}{a b c:bk}(x:bO a b)(y:cD X b c)(P:∀p o,a.get? p=some o->¬X p):bO a c:=λp o e=>aC (x p o e) λo1 J f=>aC (y p o1 (.inl (P p o e)) J) λr U j=>⟨r,U,f.trans j λc q=>y.code⟩
theorem cD.seq{X:az->Prop}{h h':bk}(k:cD X h h'){T:String}{a:az}{vs:List aw}(L:¬X a)(x:cL T h a vs):cL T h' a vs:=aI x λn e=>⟨n,k.nt L e (i8 rfl)⟩
theorem cD.ns{X:az->Prop}{h h':bk}(k:cD X h h'){a:az}{m:bj->Option aw}(L:¬X a)(x:h.Ns a m):h'.Ns a m:=kB x λo es Q J U Z=>⟨o,es,Q,k.nt L J (nN U),U,Z⟩
theorem cD.cell{X:az->Prop}{h h':bk}(k:cD X h h'){c:az}{v:Option aw}(L:¬X c)(x:h.IsCell c v):h'.IsCell c v:=aC x λo J U=>⟨o,k.nt L J (uk U),U⟩
theorem pT{W:az->Prop}{h h':bk}(I:∀b o,¬W b->h.get? b=some o->h'.get? b=some o):∀b T vs,¬W b->cL T h b vs->cL T h' b vs:=λb T vs O Y=>aI Y λn e=>⟨n,I b _ O e⟩
theorem y7{W X:az->Prop}{h h':bk}(k:cD X h h')(P:∀b,X b->W b):∀b T vs,¬W b->cL T h b vs->cL T h' b vs:=λb T vs O e=>k.seq (λx=>O (P b x)) e
structure gK (s s':ao):Prop where
 keep:bO s.heap s'.heap
 os:s'.os=s.os
 hJ:s.gens.size<=s'.gens.size
 gens:∀g,g<s.gens.size->s'.gens[g]? =s.gens[g]?
 bare:wb s.gens->wb s'.gens
theorem gK.refl(s:ao):gK s s:=⟨λz o e=>⟨o,e,.refl _ _ _⟩,rfl,aV _,λz z=>rfl,id⟩
theorem gK.trans{a b c:ao}(x:gK a b)(y:gK b c):gK a c:=
 ⟨x.keep.trans y.keep,y.os.trans x.os,aP x.hJ y.hJ,λg d=>(y.gens g (be d x.hJ)).trans (x.gens g d),λh=>y.bare (x.bare h)⟩
theorem gK.YE{s:ao}{h':bk}{tk:Nat}(I:bO s.heap h'):gK s {s with heap:=h',toks:=tk}:=⟨I,rfl,aV _,λz z=>rfl,id⟩
theorem gK.tok(s:ao)(tk:Nat):gK s {s with toks:=tk}:=⟨λz o e=>⟨o,e,.refl _ _ _⟩,rfl,aV _,λz z=>rfl,id⟩
theorem gK.of{s:ao}{h':bk}{tk:Nat}(I:iu s.heap h'):gK s {s with heap:=h',toks:=tk}:=.YE (iu.k I)
theorem bO.push(h:bk)(o:hC):iu h (h.push o):=λz z e=>cC _ e
abbrev j6(W:az->Prop)(h:bk):Prop:=∀a,W a->∃o,h.get? a=some o
theorem j6.keep{W:az->Prop}{h h':bk}(x:j6 W h)(k:bO h h'):j6 W h':=λa L=>aI (x a L) λo M=>k.alive a o M
theorem cO(h:bk):h.get? h.objs.size=none:=by
 rcases e:h.get? h.objs.size with _|o
 ·rfl
 ·exact absurd (gN e) (zI _)
theorem j6.fresh{W:az->Prop}{h:bk}(x:j6 W h){a:az}(Q:h.get? a=none):¬W a:=λY=>by refine aI (x a Y) λo M=>?_;rw[Q]at M;injection M
def iq(env:fZ)(h:bk)(x:bj)(v:aw):Prop:=
 (env.kindOf x=some .local/\∃m,h.Ns env.locals m/\m x=some v)\/
 ((env.kindOf x=some .cell\/env.kindOf x=some .free)/\∃c,env.cells.lookup x=some c/\h.IsCell c (some v))
theorem bO.ns{h h':bk}(k:bO h h'){a:az}{m:bj->Option aw}(x:h.Ns a m):h'.Ns a m:=kB x λo es Q J U Z=>⟨o,es,Q,k.nt J (nN U),U,Z⟩
theorem bO.cell{h h':bk}(k:bO h h'){c:az}{v:Option aw}(x:h.IsCell c v):h'.IsCell c v:=aC x λo J U=>⟨o,k.nt J (uk U),U⟩
theorem nO{o:hC}{fd:xT}(h:o.data=.func fd):nt o:=by intro S;subst S;injection h
theorem bO.nolimit{h h':bk}(k:bO h h')(x:h.NoLimit):h'.NoLimit:=aC x λA J U=>⟨A,k.ns J,U⟩
theorem yQ{o:hC}{vs:Array aw}{n:Nat}(h:o.data=.seq vs n):¬yi o:=by refineλR=>m6 R λM q t J z=>?_;rw[h]at J;injection J
theorem AZ{o:hC}{es:Array cG}{n:Nat}(h:o.data=.dict es n):¬yi o:=by refineλr=>m6 r λM q t J z=>?_;rw[h]at J;injection J
theorem KI{o:hC}{v:Option aw}(h:o.data=.cell v):¬yi o:=by refineλL=>m6 L λM q t J z=>?_;rw[h]at J;injection J
theorem iq.keep{env:fZ}{h h':bk}{x:bj}{v:aw}(k:bO h h'):iq env h x v->iq env h' x v:=
 Or.imp (λq=>⟨q.1,aC q.2 λm b c=>⟨m,k.ns b,c⟩⟩) λq=>⟨q.1,aC q.2 λc b d=>⟨c,b,k.cell d⟩⟩
def SR(W:az->Prop)(ρ:List az)(h:bk)(st:St):Prop:=
 ∀(n:Nat) (l:List AV),st[n]? =some (some l)->∃(a:az) (vs:List aw),ρ[n]? =some a/\cL "list" h a vs/\ft W ρ h vs l
theorem SR.keep{W:az->Prop}{ρ:List az}{h h':bk}{st:St}(k:bO h h')(x:SR W ρ h st):SR W ρ h' st:=λn l e=>
 cX (x n l e) λa vs J D Z=>aI D λm U=>⟨a,vs,J,k.seq ⟨m,U⟩,Z.keep k⟩
def zO(tab:List bj)(acc:List Nat)(env:fZ)(W:az->Prop)(ρ:List az)(h:bk)(loc:Loc):Prop:=
 ∀(i:Nat),i∈acc->∀(x:bj),tab[i]? =some x->∀(a:AV),loc[i]? =some a->a≠.c->∃v,iq env h x v/\VR W ρ h v a
theorem zO.keep{tab:List bj}{acc:List Nat}{env:fZ}{W:az->Prop}{ρ:List az}{h h':bk}{loc:Loc}(k:bO h h')(x:zO tab acc env W ρ h loc):
 zO tab acc env W ρ h' loc:=λi hi n Q a L N=>aC (x i hi n Q a L N) λv J U=>⟨v,J.keep k,U.keep k⟩
structure eo (env:fZ) (h:bk):Prop where
 ns:∃m,h.Ns env.locals m
 cells:∀x c,(x,c)∈env.cells->∃v,h.IsCell c v
 apart:env.cells.Pairwise λx y=>x.2≠y.2
 loc:∀x c,(x,c)∈env.cells->c≠env.locals
theorem eo.by{env:fZ}{h h':bk}(F:eo env h)(I:∀b o,(b=env.locals\/∃x,(x,b)∈env.cells)->h.get? b=some o->nt o->h'.get? b=some o):eo env h':=
 ⟨oS F.ns λm o es Q J U Z=>⟨m,o,es,Q,I _ _ (.inl rfl) J (nN U),U,Z⟩,λx c V=>eb (F.cells x c V) λv o M u=>⟨v,o,I _ _ (.inr ⟨x,V⟩) M (uk u),u⟩,F.apart,F.loc⟩
theorem jr{o:hC}{vs:Array aw}(h:o.data=.fields vs)(J:∀q t,vs[1]? ≠some (.str q t)):¬yi o:=by refineλF=>m6 F λM q t U Z=>?_;rw[h]at U;injection U with S;subst S;exact J q t Z
theorem cD.Wl{h h':bk}{L:az}{m:bj->Option aw}(T:h.Ns L m)(G:lb L h h'):cD (·=L) h h':=.of (λb o O e=>G.extBut b o O e) λb o O e=>by
 subst O;refine kB T λR es Q J U z=>?_;rw[e]at J;injection J with S;exact ab S<|AZ U
theorem eo.Xp{env:fZ}{h:bk}(F:eo env h){p:az}{o:hC}(B:p=env.locals\/∃x,(x,p)∈env.cells)(e:h.get? p=some o):¬yi o:=by
 refine ak B (λH=>?_) λg=>aI g λx A=>?_;subst H
 ·refine oS F.ns λm R es Q J U z=>?_;rw[e]at J;injection J with S;exact ab S<|AZ U
 ·refine eb (F.cells x p A) λv R J U=>?_;rw[e]at J;injection J with S;exact ab S<|KI U
set_option genInjectivity false in
structure Cx (h₀:bk) where
 prog:fA
 w:cW
 mg:bj->Option aw
 mb:bj->Option aw
 g:h₀.Ns d8 mg
 b:h₀.Ns ma mb
 nolimit:h₀.NoLimit
 seer:h₀.NoSeer
 XS:∀x v,M3 x=some v->mg x=none->x≠"__name__"->mb x=some v
structure i7 (k:Nat) (A:cP):Prop where
 hh:A.handled=none
 depth:A.depth+k+Builtin.pylongFrames<YV
 units:A.units+20*k+100<YT
structure EI (h₀:bk) (tab:List bj) (acc:List Nat) (env:fZ) (W:az->Prop) (ρ:List az) (n0:Nat) (loc:Loc) (st:St) (s:ao):Prop where
 base:bO h₀ s.heap
 live:j6 W s.heap
 tok:n0<=s.toks
 vars:zO tab acc env W ρ s.heap loc
 store:SR W ρ s.heap st
 frame:eo env s.heap
 nR:∀(n:Nat) (l:List AV) (a:az),st[n]? =some (some l)->ρ[n]? =some a->W a
theorem EI.ext{h₀:bk}{tab:List bj}{acc:List Nat}{env:fZ}{W:az->Prop}{ρ:List az}{n0:Nat}{loc:Loc}{st:St}{s s':ao}
 (x:EI h₀ tab acc env W ρ n0 loc st s)(e:gK s s')(S:n0<=s'.toks):EI h₀ tab acc env W ρ n0 loc st s':=
 ⟨x.base.trans e.keep,x.live.keep e.keep,S,x.vars.keep e.keep,x.store.keep e.keep,x.frame.by (λb o z h Q=>e.keep.nt h Q),x.nR⟩
def e9(W:az->Prop)(ρ:List az)(s:ao)(r:AV):aw->ao->Prop:=λv s'=>gK s s'/\VR W ρ s'.heap v r
section
variable{prog:fA}{w:cW}{A:cP}{E:aw->ao->Prop}{s:ao}{W:az->Prop}{ρ:List az}{st:St}
theorem e9.int{i:Int}{t:nZ}{tk:Nat}:e9 W ρ s (.int i) (.int i t) {s with toks:=tk}:=⟨.tok s tk,.int i t⟩
theorem e9.str{x:bj}{y:List Nat}{t:nZ}{tk:Nat}(e:x=strOf y):e9 W ρ s (.str y) (.str x t) {s with toks:=tk}:=⟨.tok s tk,e▸ .str y t⟩
theorem e9.bool{b:Bool}:e9 W ρ s (.bool b) (.bool b) s:=⟨.refl s,.bool b⟩
theorem ly(x y:List Nat):strOf x++strOf y=strOf (x++y):=by show bj.append _ _=_;simp[bj.append,strOf]
theorem cF(x:List Nat):(strOf x).length=x.length:=by rfl
theorem pH(x y:List Nat):(strOf x==strOf y)=(x==y):=by rw[lG];simp[strOf]
theorem gA{v:aw}{a:AV}{l:List AV}(K:SR W ρ s.heap st)(x:VR W ρ s.heap v a)(h:jX st a=some l){I:Prop}(N:∀b vs,v=.ref b->cL "list" s.heap b vs->ft W ρ s.heap vs l->I):I:=by
 cases x with
 |lst Y G X=>injection h with S;subst S;exact N _ _ rfl G X
 |ref Q=>
  simp only[(id Nf)]at h;refine aC (Option.join_eq_some_iff.mp h|>λh=>(⟨_,h,rfl⟩:∃o,_=some o/\o=some l)) λo J U=>?_;subst U;refine cX (K _ _ J) λb vs Z d O=>?_;rw[Q]at Z;injection Z with S;subst S;exact N _ _ rfl d O
 |_=>injection h
theorem cL.isList{h:bk}{a:az}{vs:List aw}(x:cL "list" h a vs):h.IsList a vs.toArray:=aI x λn e=>IsL.isList e
theorem ru{l:List AV}{vs:List aw}(X:j6 W s.heap)(x:ft W ρ s.heap vs l)(e:List aw)(F:e=vs)(tk:Nat):
 e9 W ρ s (.lst l) (.ref s.heap.objs.size) {s with heap:=s.heap.push {cls:=.type "list",data:=.seq e.toArray},toks:=tk}:=by
 subst F;exact⟨.of (bO.push _ _),.lst (X.fresh (cO _)) ⟨0,bV _ rfl⟩ (x.keep (iu.k (bO.push _ _)))⟩
theorem tq{l:List AV}{vs:List aw}(X:j6 W s.heap)(x:ft W ρ s.heap vs l)(e:List aw)(F:e=vs)(tk:Nat):
 e9 W ρ s (.tup l) (.ref s.heap.objs.size) {s with heap:=s.heap.push {cls:=.type "tuple",data:=.seq e.toArray},toks:=tk}:=by
 subst F;exact⟨.of (bO.push _ _),.tup (X.fresh (cO _)) ⟨0,bV _ rfl⟩ (x.keep (iu.k (bO.push _ _)))⟩
theorem Q1{a b:Int}(h:a.natAbs.log2+b.natAbs.log2<=100000\/b.natAbs<2^63\/a.natAbs<2^63):IntMulOk a b:=by
 have Z:∀x:Int,x.natAbs<2^63->ag x<=64:=λx F=>by
  delta ag;split
  ·exact bz 64
  ·by_cases Y:x.natAbs=0
   ·refine ab Y ?_;decide
   ·have:=(i0 Y).mpr F;exact j4 this
 refine ak h (λh=>?_) λH=>ak H (λh=>?_) λh=>?_
 ·unfold IntMulOk Builtin.Int.intTooBig ag bitsLine;have e:(2:Nat)^27=134217728:=by decide
  refine ab e ?_;simp only[au,decide_eq_true_eq,not_and];intro z;split<;>split<;>(first|exact Std.Rxo.size_eq_zero_iff_not_le.mp rfl|lia)
 ·exact .of_right (Z _ h)
 ·exact .of_left (Z _ h)
theorem Tv{op:cV}{a b r:Int}{t u:nZ}(h:binI op a b=some r):
 aM (aL prog w) A (xX op (.int a t) (.int b u)) (e9 W ρ s (.int r)) E s:=by
 rcases op with⟨⟩
 case Add=>injection h with S;subst S;exact add_int .int
 case Sub=>injection h with S;subst S;exact sub_int .int
 case Mult=>refine m8 h λT S=>?_;subst S;exact PyProof.Rows.mul_int .int (Q1 T)
 case Mod=>refine Xo h λO S=>?_;subst S;exact mod_int' O .int
 case FloorDiv=>
  refine Xo h λO S=>?_;subst S;exact PyProof.Rows.floordiv_int (λe=>O (.inl e)) .int (.inl (nA (by lia)))
 case Pow=>refine m8 h λT S=>?_;subst S;exact pow_int_small T.1 T.2.1 T.2.2 .int
 case LShift=>refine m8 h λT S=>?_;subst S;exact lshift_int T.1 T.2 .int
 case RShift=>refine m8 h λT S=>?_;subst S;exact rshift_int T .int
 case BitAnd=>injection h with S;subst S;exact and_int .int
 case BitOr=>injection h with S;subst S;exact or_int .int
 case BitXor=>injection h with S;subst S;exact xor_int .int
 all_goals injection h
theorem Ow{op:cV}{a b r:Int}{t u:nZ}(h:binI op a b=some r):
 aM (aL prog w) A (n6 op (.int a t) (.int b u)) (e9 W ρ s (.int r)) E s:=by
 rcases op with⟨⟩
 case Add=>injection h with S;subst S;exact PyProof.Rows.iadd_int .int
 case Sub=>injection h with S;subst S;exact PyProof.Rows.isub_int .int
 case Mult=>refine m8 h λT S=>?_;subst S;exact PyProof.Rows.imul_int .int (Q1 T)
 case Mod=>refine Xo h λO S=>?_;subst S;exact imod_int O .int
 case FloorDiv=>
  refine Xo h λO S=>?_;subst S;exact PyProof.Rows.ifloordiv_int (λe=>O (.inl e)) .int (.inl (nA (by lia)))
 case Pow=>refine m8 h λT S=>?_;subst S;exact ipow_int_small T.1 T.2.1 T.2.2 .int
 case LShift=>refine m8 h λT S=>?_;subst S;exact ilshift_int T.1 T.2 .int
 case RShift=>refine m8 h λT S=>?_;subst S;exact irshift_int T .int
 case BitAnd=>injection h with S;subst S;exact iand_int .int
 case BitOr=>injection h with S;subst S;exact ior_int .int
 case BitXor=>injection h with S;subst S;exact ixor_int .int
 all_goals injection h
theorem mV{n:Nat}(h:n<=cB):n<=mJ:=aP h (by decide)
theorem uf{op:cV}{X:Option AV}{r:AV}{M:cV->Prop}(h:(match op with| .Add=>X|_=>none:Option AV)=some r)(k:X=some r->M .Add):M op:=by rcases op with⟨⟩<;>first|exact k h|injection h
theorem wO{op:cV}{a b r:AV}{M:AV->AV->AV->Prop}(h:jv st op a b=some r)(B:∀i j r,(binI op i j).map .int=some r->M (.int i) (.int j) r)
 (S:∀x y r,(match op with| .Add=>if x.length+y.length<=cB then some (.str (x++y))else none|_=>none:Option AV)=some r->M (.str x) (.str y) r)
 (K:∀a b r,(match op with| .Add=>(jX st a).bind λl=>(jX st b).bind λm=>if l.length+m.length<=cB then some (.lst (l++m))else none|_=>none:Option AV)=some r->M a b r):M a b r:=by
 rcases a with⟨⟩<;>first|exact K _ _ _ h|skip
 ·rcases b with⟨⟩<;>first|exact B _ _ _ h|exact K _ _ _ h
 ·rcases b with⟨⟩<;>first|exact S _ _ _ h|exact K _ _ _ h
theorem NI{a b:AV}{r:Bool}{M:AV->AV->Bool->Prop}(h:QJ a b=some r)(m:∀i j,M (.int i) (.int j) (i==j))(S:∀x y,M (.str x) (.str y) (x==y)):M a b r:=by
 rcases a with⟨⟩<;>first|(injection h;done)|skip
 ·rcases b with⟨⟩<;>first|(injection h;done)|exact ay h▸m _ _
 ·rcases b with⟨⟩<;>first|(injection h;done)|exact ay h▸S _ _
theorem Jq{a b:AV}{r:Bool}{M:AV->AV->Bool->Prop}(h:qr st a b=some r)(m:∀i j,M (.int i) (.int j) (i==j))(S:∀x y,M (.str x) (.str y) (x==y))(K:∀x y,M (.bool x) (.bool y) (x==y))
 (C:∀a b r,(do D0 (<-jX st a) (<-jX st b))=some r->M a b r):M a b r:=by
 rcases a with⟨⟩<;>first|exact C _ _ _ h|skip
 ·rcases b with⟨⟩<;>first|exact C _ _ _ h|exact ay h▸K _ _
 ·rcases b with⟨⟩<;>first|exact C _ _ _ h|exact ay h▸m _ _
 ·rcases b with⟨⟩<;>first|exact C _ _ _ h|exact ay h▸S _ _
theorem Ox{a b:AV}{r:Bool}{M:AV->AV->Bool->Prop}(h:Uw a b=some r)(m:M .none .none true)(S:∀i,M (.int i) .none false)(K:∀x,M (.str x) .none false)(C:∀x,M (.bool x) .none false)(g:∀x y,M (.bool x) (.bool y) (x==y)):M a b r:=by
 rcases a with⟨⟩<;>first|(injection h;done)|skip
 ·rcases b with⟨⟩<;>first|(injection h;done)|exact ay h▸m
 ·rcases b with⟨⟩<;>first|(injection h;done)|exact ay h▸C _|exact ay h▸g _ _
 ·rcases b with⟨⟩<;>first|(injection h;done)|exact ay h▸S _
 ·rcases b with⟨⟩<;>first|(injection h;done)|exact ay h▸K _
theorem J4{a b:AV}{r:Bool}{F:List Nat->List Nat->Option Bool}{G:AV->AV->Option Bool}{M:AV->AV->Prop}(h:(match a,b with| .str y,.str x=>F y x|a,b=>G a b:Option Bool)=some r)(m:∀y x,F y x=some r->M (.str y) (.str x))(S:∀a b,G a b=some r->M a b):M a b:=by
 rcases a with⟨⟩<;>first|exact S _ _ h|skip
 rcases b with⟨⟩<;>first|exact m _ _ h|exact S _ _ h
theorem CY{op:cV}{v u:aw}{a b r:AV}(X:j6 W s.heap)(K:SR W ρ s.heap st)(x:VR W ρ s.heap v a)(y:VR W ρ s.heap u b)(h:jv st op a b=some r):
 aM (aL prog w) A (xX op v u) (e9 W ρ s r) E s:=by
 refine wO (M:=λa b r=>VR W ρ s.heap v a->VR W ρ s.heap u b->aM (aL prog w) A (xX op v u) (e9 W ρ s r) E s) h (λz z z h x y=>?_) (λz z z h x y=>?_) (λz z z h x y=>?_) x y
 ·exact x.dK λt1 e1=>y.dK λt2 e2=>ab e1<|ab e2<|bW h λi J e=>cA e<|Tv J
 ·refine aI x.gf λt1 e1=>aI y.gf λt2 e2=>ab e1<|ab e2<|uf (M:=λop=>aM (aL prog w) A (xX op _ _) _ E s) h λh=>?_
  ·exact m8 h λV S=>cA S<|PyProof.Rows.add_str (λt' tk=>.str (ly _ _)) (ab (cF ..)<|ab (cF ..)<|mV V)
 ·refine uf (M:=λop=>aM (aL prog w) A (xX op _ _) _ E s) h λh=>?_
  ·simp only[bF]at h;refine ew λY=>?_;obtain⟨l,C,m,T,h⟩:=h;refine Y ?_;clear Y;refine m8 h λV S=>cA S<|gA K x C λc vs o1 D U=>ab o1<|aI D λn J=>gA K y T λd G j F B=>ab j<|aI F λn' Z=>P.add_list J Z ?_ (by simp only[eJ];exact ab U.length<|ab B.length<|mV V);have:=ru X (U.append B) (vs++G) rfl s.toks;simpa using this
theorem Ew{op:cV}{v u:aw}{a b r:AV}(x:VR W ρ s.heap v a)(y:VR W ρ s.heap u b)(h:jv [] op a b=some r)(G:(∃i,a=.int i)\/∃i,a=.str i):
 aM (aL prog w) A (n6 op v u) (e9 W ρ s r) E s:=by
 refine wO (M:=λa b r=>VR W ρ s.heap v a->VR W ρ s.heap u b->((∃i,a=.int i)\/∃i,a=.str i)->aM (aL prog w) A (n6 op v u) (e9 W ρ s r) E s) h (λz z z h x y z=>?_) (λz z z h x y z=>?_) (λz z z h x y G=>?_) x y G
 ·exact x.dK λt1 e1=>y.dK λt2 e2=>ab e1<|ab e2<|bW h λi J e=>cA e<|Ow J
 ·refine aI x.gf λt1 e1=>aI y.gf λt2 e2=>ab e1<|ab e2<|uf (M:=λop=>aM (aL prog w) A (n6 op _ _) _ E s) h λh=>?_
  ·exact m8 h λV S=>cA S<|PyProof.Rows.iadd_str (λt' tk=>.str (ly _ _)) (ab (cF ..)<|ab (cF ..)<|mV V)
 ·refine uf (M:=λop=>aM (aL prog w) A (n6 op _ _) _ E s) h λh=>?_
  ·(refine ak G (λH=>aI H λi g=>?_) λT=>aI T λi N=>?_;subst g;rotate_left;subst N;rotate_right)<;>injection h
noncomputable def ub:aw->aw->Bool
 | .int a _,.int b _=>a==b
 | .str a _,.str b _=>a==b
 |_,_=>false
theorem Bi(x y:List Nat)(t u:nZ):l9 (.str (strOf x) t) (.str (strOf y) u) (x==y):=by have:=SeqRoads2.EqGives.str (strOf x) (strOf y) t u;exact this
theorem w8{h:bk}{v u:aw}{a b:AV}{r:Bool}(x:VR W ρ h v a)(y:VR W ρ h u b)(e:QJ a b=some r):l9 v u r/\ub v u=r:=by
 refine NI (M:=λa b r=>VR W ρ h v a->VR W ρ h u b->l9 v u r/\ub v u=r) e (λz z x y=>?_) (λz z x y=>?_) x y
 ·exact x.dK λt1 f1=>y.dK λt2 f2=>ab f1<|ab f2<|⟨.int _ _ _ _,rfl⟩
 ·exact aI x.gf λt1 f1=>aI y.gf λt2 f2=>ab f1<|ab f2<|⟨Bi _ _ _ _,pH _ _⟩
theorem FY{h:bk}{l:List AV}:∀{m:List AV} {vs M:List aw} {r:Bool},ft W ρ h vs l->ft W ρ h M m->Ap l m=some r->
 vs.length=M.length/\(∀j (J:j<vs.length) (U:j<M.length),l9 vs[j] M[j] (ub vs[j] M[j]))/\r=(aG vs.length).all λj=>ub (vs.getD j .none) (M.getD j .none):=by
 induction l with
 |nil=>
  intro m vs M r x y e;rcases m with _|⟨b,m⟩
  ·exact ab x.sI<|ab y.sI<|⟨rfl,λj J=>absurd J (jD _),(ay e).symm⟩
  ·injection e
 |cons a l R=>
  intro m vs M r x y e;rcases m with _|⟨b,m⟩
  ·injection e
  ·refine ew λY=>x.mo λv vs' f1 V C=>y.mo λu O f2 y1 y2=>aC (aZ e) λp B e=>aC (aZ e) λq D e=>aN (w8 V y1 B) λf F=>eY (R C y2 D) λJ U Z=>Y ?_;clear Y;refine ab f1<|ab f2<|cA (ay e)<|⟨ab bu (ab bu (ab J rfl)),λj G H=>?_,?_⟩
   ·rcases j with _|j
    ·exact F▸f
    ·exact U j (oA G) (oA H)
   ·refine ab Z (ab bu (ab j0 (ab jx (ab List.all_map ?_))));refine ab F ?_;rfl
theorem J3{h:bk}{u:aw}{x:AV}(y:VR W ρ h u x){l:List AV}:∀{vs:List aw} {r:Bool},ft W ρ h vs l->CH x l=some r->
 (∀z,z∈vs->l9 z u (ub z u))/\r=vs.any λz=>ub z u:=by
 induction l with
 |nil=>
  intro vs r p e;exact ab p.sI<|⟨λz o=>absurd o dy,(ay e).symm⟩
 |cons a l R=>
  intro vs r p e;refine ew λY=>p.mo λv vs' f1 C H=>aC (aZ e) λq D e=>aC (aZ e) λi B e=>aN (w8 C y D) λf j=>aN (R H B) λJ U=>Y ?_;clear Y;refine ab f1<|cA (ay e)<|⟨λz o=>?_,ab List.any_cons (cA U (ab j rfl))⟩;refine ak (aS.mp o) (λo=>?_) λo=>?_
  ·exact ab o<|ab j<|f
  ·exact J z o
set_option tactic.hygienic true in
theorem Tu{v u:aw}{a b:AV}{r:Bool}(N:A.units<YT)(K:SR W ρ s.heap st)(x:VR W ρ s.heap v a)(y:VR W ρ s.heap u b)
 (h:(do D0 (<-jX st a) (<-jX st b))=some r):
 aM (aL prog w) A (eM .Eq v u) (e9 W ρ s (.bool r)) E s/\aM (aL prog w) A (eM .NotEq v u) (e9 W ρ s (.bool (!r))) E s:=by
 simp only[aj,bF]at h;refine ew λY=>?_;obtain⟨l,X,m,T,h⟩:=h;refine Y ?_;clear Y;refine gA K x X λc vs Q J U=>ab Q<|gA K y T λd M C Z B=>ab C ?_;have e1:=U.length;have e2:=B.length;delta D0 at h;split at h
 ·refine eY (FY U B h) λt V G=>?_;have F:∀j (D:j<vs.toArray.size) (e:j<M.toArray.size),SeqAt.EqAt A.in1 s vs.toArray[j] M.toArray[j] (ub (vs.getD j .none) (M.getD j .none)):=λj D e=>by
   have a1:j<vs.length:=D;have a2:j<M.length:=e;have:=(V j a1 a2).at A.in1 s;simpa[List.getD_eq_getElem?_getD,gx a1,gx a2]using this
  have O:(aG vs.toArray.size).all (λj=>ub (vs.getD j .none) (M.getD j .none))=r:=by refine ab G ?_;rfl
  refine⟨SeqAt.RcAt.lists J.isList Z.isList (t) N F prog w E _ ?_,SeqAt.RcNeAt.lists J.isList Z.isList (t) N F prog w E _ ?_⟩
  ·exact ab O<|.bool
  ·exact ab O<|.bool
 ·rename_i L;injection h with S;subst S;have o:(vs.toArray.size !=M.toArray.size)=true:=by simp;lia
  exact⟨SeqAt.RcAt.lists_lengths J.isList Z.isList o N prog w E _ .bool,SeqAt.RcNeAt.lists_lengths J.isList Z.isList o N prog w E _ .bool⟩
theorem Q6{v u:aw}{a b:AV}{r:Bool}(N:A.units<YT)(K:SR W ρ s.heap st)(x:VR W ρ s.heap v a)(y:VR W ρ s.heap u b)(h:qr st a b=some r):
 aM (aL prog w) A (eM .Eq v u) (e9 W ρ s (.bool r)) E s/\aM (aL prog w) A (eM .NotEq v u) (e9 W ρ s (.bool (!r))) E s:=by
 refine Jq (M:=λa b r=>VR W ρ s.heap v a->VR W ρ s.heap u b->aM (aL prog w) A (eM .Eq v u) (e9 W ρ s (.bool r)) E s/\aM (aL prog w) A (eM .NotEq v u) (e9 W ρ s (.bool (!r))) E s) h (λz z x y=>?_) (λz z x y=>?_) (λz z x y=>?_) (λz z z h x y=>?_) x y
 ·exact x.dK λt1 e1=>y.dK λt2 e2=>ab e1<|ab e2<|⟨PyProof.Rows.eq_int .bool,PyProof.Rows.ne_int (.bool)⟩
 ·exact aI x.gf λt1 e1=>aI y.gf λt2 e2=>ab e1<|ab e2<|⟨PyProof.Rows.eq_str (ab (pH ..)<|.bool),PyProof.Rows.ne_str (by rewrite[bne];exact ab (pH ..)<|.bool)⟩
 ·exact ab x.mj<|ab y.mj<|⟨PyProof.Rows.eq_bool .bool,PyProof.Rows.ne_bool (.bool)⟩
 ·exact Tu N K x y h
theorem Q7{v u:aw}{a b:AV}{r:Bool}(K:SR W ρ s.heap st)(x:VR W ρ s.heap v a)(y:VR W ρ s.heap u b)(h:(do CH a (<-jX st b))=some r):
 aM (aL prog w) A (eM .In v u) (e9 W ρ s (.bool r)) E s/\aM (aL prog w) A (eM .NotIn v u) (e9 W ρ s (.bool (!r))) E s:=by
 rw[aj,bF]at h;refine ew λY=>aC h λl X h=>gA K y X λc vs F S U=>?_;subst F;refine aI S λn J=>aN (J3 x U h) λZ d=>Y ?_;clear Y;have e:vs.toArray.any (λz=>ub z v)=r:=by refine ab d ?_;simp
 exact⟨SeqRoads2.in_list _ (λz o=>Z z (by simpa using o)) J (ab e<|.bool),SeqRoads2.notIn_list _ (λz o=>Z z (by simpa using o)) J (ab e<|.bool)⟩
theorem Q8{v u:aw}{a b:AV}{r:Bool}(x:VR W ρ s.heap v a)(y:VR W ρ s.heap u b)(h:Uw a b=some r):
 aM (aL prog w) A (eM .Is v u) (e9 W ρ s (.bool r)) E s/\aM (aL prog w) A (eM .IsNot v u) (e9 W ρ s (.bool (!r))) E s:=by
 refine Ox (M:=λa b r=>VR W ρ s.heap v a->VR W ρ s.heap u b->aM (aL prog w) A (eM .Is v u) (e9 W ρ s (.bool r)) E s/\aM (aL prog w) A (eM .IsNot v u) (e9 W ρ s (.bool (!r))) E s) h (λx y=>?_) (λz x y=>?_) (λz x y=>?_) (λz x y=>?_) (λz z x y=>?_) x y
 ·exact ab y.rx<|ab x.rx<|⟨M6 .bool,zy .bool⟩
 ·exact x.dK λt e=>ab y.rx<|ab e<|⟨M6 .bool,zy .bool⟩
 ·exact aI x.gf λt e=>ab y.rx<|ab e<|⟨M6 .bool,zy .bool⟩
 ·exact ab y.rx<|ab x.mj<|⟨M6 .bool,zy .bool⟩
 ·exact ab y.mj<|ab x.mj<|⟨is_bool .bool,isnot_bool (.bool)⟩
theorem VI{a b:AV}{F:Int->Int->Bool}{r:Bool}{P:Prop}(h:(match a,b with| .int a,.int b=>some (F a b)|_,_=>none)=some r)(k:∀i j,a=.int i->b=.int j->F i j=r->P):P:=by
 rcases a with⟨⟩<;>first|(injection h;done)|skip
 rcases b with⟨⟩<;>first|(injection h;done)|exact k _ _ rfl rfl (ay h)
theorem Ex{F:Int->Int->Bool}{op:kF}{v u:aw}{a b:AV}{r:Bool}(H:∀i j O B,aM (aL prog w) A (eM op (.int i O) (.int j B)) (e9 W ρ s (.bool (F i j))) E s)(h:(match a,b with| .int a,.int b=>some (F a b)|_,_=>none)=some r)(x:VR W ρ s.heap v a)(y:VR W ρ s.heap u b):
 aM (aL prog w) A (eM op v u) (e9 W ρ s (.bool r)) E s:=VI h λi j e1 e2 c=>by
 simp only[e1]at x;simp only[e2]at y;refine ew λY=>x.dK λt1 f1=>y.dK λt2 f2=>Y ?_;clear Y;exact ab f1<|ab f2<|cA c<|H i j t1 t2
theorem yV{op:kF}{v u:aw}{a b:AV}{r:Bool}(N:A.units<YT)(K:SR W ρ s.heap st)(x:VR W ρ s.heap v a)(y:VR W ρ s.heap u b)(h:fk st op a b=some r):
 aM (aL prog w) A (eM op v u) (e9 W ρ s (.bool r)) E s:=by
 cases op with
 |Eq=>exact(Q6 N K x y h).1
 |NotEq=>
  exact bW h λq J e=>cA e<|(Q6 N K x y J).2
 |Lt=>exact Ex (λz z z z=>PyProof.Rows.lt_int .bool) h x y
 |LtE=>exact Ex (λz z z z=>PyProof.Rows.le_int .bool) h x y
 |Gt=>exact Ex (λz z z z=>PyProof.Rows.gt_int .bool) h x y
 |GtE=>exact Ex (λz z z z=>PyProof.Rows.ge_int .bool) h x y
 |Is=>exact(Q8 x y h).1
 |IsNot=>
  exact bW h λq J e=>cA e<|(Q8 x y J).2
 |In=>
  refine J4 (M:=λa b=>VR W ρ s.heap v a->VR W ρ s.heap u b->_) h (λz z h x y=>?_) (λz z h x y=>?_) x y
  ·exact aI x.gf λt1 f1=>aI y.gf λt2 f2=>ab f1<|ab f2<|cA (ay h)<|PyProof.Rows.in_str (ab (cF ..)<|.bool)
  ·exact(Q7 K x y h).1
 |NotIn=>
  refine J4 (M:=λa b=>VR W ρ s.heap v a->VR W ρ s.heap u b->_) h (λz z h x y=>?_) (λz z h x y=>?_) x y
  ·exact aI x.gf λt1 f1=>aI y.gf λt2 f2=>ab f1<|ab f2<|cA (ay h)<|PyProof.Rows.notIn_str (ab (cF ..)<|.bool)
  ·exact bW h λq J e=>cA e<|(Q7 K x y J).2
noncomputable def vM:AV->Option (Option Int)
 | .none=>some none
 | .int i=>some (some i)
 |_=>none
theorem Gm{a r:AV}{M:AV->AV->Prop}(h:tl st a=some r)(m:∀x:List Nat,x.length<=10000->M (.str x) (.int x.length))(S:∀(a:AV) (l:List AV),jX st a=some l->l.length<=10000->M a (.int l.length)):M a r:=by have g:∀a,((jX st a).bind λl=>if l.length<=cB then some (AV.int l.length)else none)=some r->M a r:=λa h=>dn h λl X h=>m8 h λV e=>e▸S _ l X V;have g':∀x:List Nat,(if x.length<=cB then some (AV.int x.length)else none)=some r->M (.str x) r:=λx h=>m8 h λV e=>e▸m _ V;rcases a with⟨⟩<;>first|exact g' _ h|exact g _ h
set_option tactic.hygienic true in
theorem Hc{a b r:AV}{M:AV->AV->AV->Prop}(h:gF st a b=some r)(m:∀i z k c,ll i z.length=some k->z[k]? =some c->M (.str z) (.int i) (.str [c]))(S:∀i l k x,ll i l.length=some k->l[k]? =some x->M (.tup l) (.int i) x)
 (K:∀i a l k x,jX st a=some l->ll i l.length=some k->l[k]? =some x->M a (.int i) x):M a b r:=by
 rcases b with⟨⟩<;>first|(injection h;done)|skip
 rename_i i;have f:∀x:List Nat,((ll i x.length).bind λk=>x[k]?.bind λc=>some (AV.str [c]))=some r->M (.str x) (.int i) r:=λx h=>dn h λk I h=>dn h λc V h=>ay h▸m _ _ k c I V;have j:∀l:List AV,((ll i l.length).bind λk=>l[k]?)=some r->M (.tup l) (.int i) r:=λl h=>dn h λk I h=>S _ _ k _ I h;have t:∀a,((jX st a).bind λl=>(ll i l.length).bind λk=>l[k]?)=some r->M a (.int i) r:=λa h=>dn h λl X h=>dn h λk I h=>K _ _ l k _ X I h;rcases a with⟨⟩<;>first|exact f _ h|exact j _ h|exact t _ h
theorem NG{a:AV}{p:Option Int}{n d q:Nat}{M:Option Int->Nat->Prop}(L:vM a=some p)(D:kA n d a=some q)(m:M none d)(S:∀i:Int,M (some i) (if i<0 then(i+(n:Nat)).toNat else min i.toNat n)):M p q:=by rcases a with⟨⟩<;>first|(injection L;done)|exact ay L▸ay D▸m|exact ay L▸ay D▸S _
set_option tactic.hygienic true in
theorem GL{v:aw}{a:AV}{r:Bool}{Q:Bool->ao->Prop}(x:VR W ρ s.heap v a)(h:cU st a=some r)(N:∀s',gK s s'->Q r s'):
 aM (aL prog w) A (US v) Q E s:=by
 rcases x with⟨⟩<;>first|(injection h;done)|skip
 case none=>injection h with h;subst h;exact truthy_none (N _ (.refl _))
 case bool=>injection h with h;subst h;exact pk (N _ (.refl _))
 case int=>injection h with h;subst h;exact PyProof.Rows.truthy_int (N _ (.refl _))
 case str x t=>
  refine m8 h λV S=>?_;subst S;clear h;have R:x.length<=10000:=V;clear V;refine P.truthy_str (by refine ab (cF ..) ?_;lia) ?_;have e:(((strOf x).length:Int) !=0)= !x.isEmpty:=by refine ab (cF ..) ?_;rcases x with⟨⟩<;>simp[bne];exact bi_ine.mp rfl
  exact ab e<|N _ (.tok _ _)
theorem A7{v:aw}{a:AV}{r:Bool}{Q:Bool->ao->Prop}(x:VR W ρ s.heap v a)(h:cU st a=some r)(N:∀s',gK s s'->s.toks<=s'.toks->Q r s'):
 aM (aL prog w) A (US v) Q E s:=bY (aV s.toks) (GL x h λs' e S=>N s' e S)
theorem Tw{v:aw}{a r:AV}(K:SR W ρ s.heap st)(x:VR W ρ s.heap v a)(h:tl st a=some r):
 aM (aL prog w) A (call (.builtin "len") [v]) (e9 W ρ s r) E s:=by
 refine Gm (M:=λa r=>VR W ρ s.heap v a->aM (aL prog w) A (call (.builtin "len") [v]) (e9 W ρ s r) E s) h (λy R x=>?_) (λa l X R x=>?_) x
 ·refine aI x.gf λt e=>?_;rw[e];refine PyProof.Rows.len_str (by refine ab (cF ..) ?_;lia) ?_;exact ab (cF ..)<|.int
 ·refine gA K x X λc vs o1 J U=>?_;rw[o1];have e:=U.length;refine PyProof.Rows.len_list J.isList (by simp;lia) ?_;simp only[eJ,e];exact .int
set_option tactic.hygienic true in
theorem sE{i:Int}{n k:Nat}(h:ll i n=some k){I:Prop}(N:n<=10000->Xz i n=some k->k<n-> -(n:Int)<=i->i<n->(((0<=i/\k=i.toNat)\/(i<0/\k=(i+n).toNat)))->I):I:=by
 refine QM (?_:n<=10000/\Xz i n=some k/\k<n/\ -(n:Int)<=i/\i<n/\((0<=i/\k=i.toNat)\/(i<0/\k=(i+n).toNat))) N;clear N;delta ll at h;split at h
 ·rename_i V;refine⟨V,?_⟩;unfold Xz;split at h
  ·rename_i J;injection h with S;subst S;have:¬i<0:=by lia
   simp[this,J.1,J.2];lia
  ·split at h
   ·rename_i J U;injection h with S;subst S;have:i+(n:Int)<n:=by lia
    simp[U.1,U.2,this];lia
   ·injection h;done
 ·injection h;done
noncomputable def pZ(e:Expr):Bool:= !(e.ctorIdx==26)
theorem jU{C:Expr}(h:pZ C=true)(o i:aw):subscripted C false o i=Xi [o,i] (getItem o i):=by rcases C with⟨⟩<;>first|rfl|exact(aB h).elim
theorem KR{B C:Expr}{v u:aw}{a b r:AV}(Q:pZ C=true)(K:SR W ρ s.heap st)(x:VR W ρ s.heap v a)(y:VR W ρ s.heap u b)(h:gF st a b=some r):
 aM (aL prog w) A (subscriptTail B C v u) (e9 W ρ s r) E s:=by
 refine Hc (M:=λa b r=>VR W ρ s.heap v a->VR W ρ s.heap u b->aM (aL prog w) A (subscriptTail B C v u) (e9 W ρ s r) E s) h (λi z k c I V x y=>?_) (λi l k r I V x y=>?_) (λi a l k r X I V x y=>?_) x y
 ·refine y.dK λo e=>?_;rw[e];refine aI x.gf λt e=>?_;rw[e];refine sE I λN J j L R F=>tail_any (typeIs_str s _ _) slot_str_getitem.lookup (PyProof.Rows.getItem_str (c:=c) ?_ ?_ (.str rfl)) (jU Q _ _)
  ·have a1:¬i< -(2^63:Int):=by lia
   have a2:¬i>=(2^63:Int):=by lia
   refine ab (decide_eq_false a1) (bp (decide_eq_false a2) ?_);rfl
  ·refine ab (cF ..) (ab J ?_);simpa[strOf]using V
 ·refine y.dK λo e=>?_;subst e;refine sE I λN J j L R F=>?_;rcases x with _|_|_|_|⟨Y,G,X⟩;exact aC (X.get V) λH D O=>aI G λn G=>tail_any (T:="tuple") ⟨_,G,rfl⟩ slot_tuple_getitem.lookup (P.getItem_tuple G (by lia) (by lia) (k:=k) (y:=H) (ab eJ<|ab X.length<|J) (by simpa using D) ⟨.refl s,O⟩) (jU Q _ _)
 ·refine y.dK λo e=>?_;rw[e];refine sE I λN J j L R F=>gA K x X λc vs S G d=>?_;rw[S];refine aC (d.get V) λH D O=>?_;have g:vs.toArray.size=l.length:=d.length;refine tail_any G.isList.typeIs slot_list_getitem.lookup ?_ (jU Q _ _);refine ak F (λq=>?_) λq=>?_
  ·rw[q.2]at D;exact UY G.isList q.1 (by lia) (by simpa using D) ⟨.refl s,O⟩
  ·rw[q.2]at D;exact wpAny_getItem_list_neg G.isList q.1 (ab g<|L) (by lia) (by refine ab g ?_;simpa using D) ⟨.refl s,O⟩
theorem vS(y:List Nat):∀n,(aG n).filterMap (y[·]?)=y.take n:=by
 intro G
 induction G with
 |zero=>
  rfl
 |succ n R=>
  refine ab Qc (ab List.filterMap_append (ab R (ab List.take_add_one ?_)));cases h:y[n]? <;>simp[h]
theorem GR(x:List Nat)(lo hi:Nat):((aG (hi-lo)).map λk=>lo+k).filterMap (x[·]?)=(x.take hi).drop lo:=by refine ab List.filterMap_map (ab xV (cA (vS (x.drop lo) ..) ?_));congr 1;funext k;simp[List.getElem?_drop]
theorem Vo(i:Int)(n:Nat):max 0 (min (if i<0 then i+(n:Int)else i) (n:Int))=((if i<0 then(i+(n:Nat)).toNat else min i.toNat n:Nat):Int)/\(if i<0 then(i+(n:Nat)).toNat else min i.toNat n)<=n:=by
 by_cases h:i<0
 ·refine ab (if_pos h) (ab (if_pos h) ?_);have J:i+n<=n:=by
   have:=Int.add_le_add_right (aF h) (n:Int)
   rwa [BW]at this
  exact ab (P7 J)<|ab (Int.ofNat_toNat ..)<|ab (Int.max_comm ..)<|⟨rfl,tI.mpr J⟩
 ·refine ab (if_neg h) (ab (if_neg h) ?_);have Y:=HQ.mp h;rcases Int.le_total i n with J|J
  ·exact ab (P7 J)<|ab (MR Y)<|ab (fz (tI.mpr J))<|⟨(qO Y).symm,tI.mpr J⟩
  ·exact ab (Int.min_eq_right J)<|ab (MR (aX n))<|ab (Nat.min_eq_right ((Int.le_toNat Y).mpr J))<|⟨rfl,aV n⟩
theorem XX(l h:Nat):(if(l:Int)<h then((h:Int)-l+1-1)/1 else 0).toNat=h-l:=by
 by_cases q:(l:Int)<h
 ·exact ab (if_pos q)<|ab (Int.add_sub_cancel ..)<|ab (Int.ediv_one ..)<|Int.toNat_sub h l
 ·exact ab (if_neg q)<|(Nat.sub_eq_zero_of_le (eG.mp (HQ.mp q))).symm
theorem G6(x:List Nat)(t:nZ){lo hi:AV}{G P:Option (Int×nZ)}{l h:Nat}(e1:vM lo=some (G.map (·.1)))(e2:vM hi=some (P.map (·.1)))
 (J:kA x.length 0 lo=some l)(U:kA x.length x.length hi=some h)(V:x.length<=10000){I:Prop}(N:ny (G.map (·.1)) (P.map (·.1)) 1 x.length=(aG (h-l)).map (λk=>l+k)->h<=x.length->I):I:=by
 have Z:∀(p:Option Int) (d:Nat) (a:AV) (q:Nat),vM a=some p->kA x.length d a=some q->d<=x.length->(match p with
  |none=>(d:Int)
  |some i=>max 0 (min (if i<0 then i+(x.length:Int)else i) (x.length:Int)):Int)=(q:Int)/\q<=x.length:=λp d a q L D u=>
  NG (M:=λp q=>(match p with
   |none=>(d:Int)
   |some i=>max 0 (min (if i<0 then i+(x.length:Int)else i) (x.length:Int)):Int)=(q:Int)/\q<=x.length) L D ⟨rfl,u⟩ λi=>Vo i x.length
 refine aN (Z _ _ _ _ e1 J (bz _)) λm S=>aN (Z _ _ _ _ e2 U (aV _)) λK C=>N ?_ C;have fin:ny (G.map (·.1)) (P.map (·.1)) 1 x.length=sliceRange l h 1:=by
  rcases G with _|⟨i,O⟩<;>rcases P with _|⟨j,B⟩<;>simp only[Qg,aK]at m K⊢ <;>
   simp only[ny,show(1:Int)>0 by decide,if_true]<;>congr 1
 refine ab fin ?_;unfold sliceRange;simp only[show(1:Int)>0 by decide,if_true];refine ab (XX ..) ?_;apply jn;refineλk z=>ab (iV ..) ?_;rfl
theorem ki{h:bk}{l:List AV}:∀{vs:List aw} {ns:List Int},ft W ρ h vs l->dM l=some ns->Ru vs ns:=by
 induction l with
 |nil=>intro vs ns x e;cases x.sI;injection e with S;subst S;exact .nil
 |cons a l R=>
  intro vs ns x e;refine x.mo λv F o1 V C=>?_;rw[o1];clear x;refine aC (aZ e) λi J e=>bW e λq U r=>?_;simp only[<-r];cases iE J;refine V.dK λt j=>?_;rw[j];exact .cons i t (R C U)
theorem De{h:bk}{l:List AV}:∀{vs:List aw} {ns:List (List Nat)},ft W ρ h vs l->pb l=some ns->∃p:List (bj×nZ),vs=strValues p/\p.map (·.1)=ns.map strOf:=by
 induction l with
 |nil=>intro vs ns x e;cases x.sI;injection e with S;subst S;exact⟨[],rfl,rfl⟩
 |cons a l R=>
  intro vs ns x e;refine x.mo λv F u V C=>?_;rw[u];clear x;refine aC (aZ e) λi J e=>bW e λq U Q=>?_;rw[<-Q];cases uM J;refine aI V.gf λt c=>?_;rw[c];refine aC (R C U) λp f j=>⟨(strOf i,t)::p,by refine ab f ?_;rfl,bp bI (bp bI (ab j rfl))⟩
theorem IntsAre.Zx{h:bk}{vs:List aw}{ns:List Int}(x:Ru vs ns):ft W ρ h vs (ns.map .int):=by
 induction x with
 |nil=>exact .nil
 |cons n t _ R=>exact .cons (.int n t) R
theorem Ay(l:List Int):∀m,(l.foldl (λm b=>if m<b then b else m) m)∈m::l/\∀a∈m::l,a<=l.foldl (λm b=>if m<b then b else m) m:=by
 induction l with
 |nil=>intro m;simp
 |cons b l R=>
  refineλm=>aN (R (if m<b then b else m)) λJ U=>⟨?_,λa L=>?_⟩
  ·refine ak (aS.mp J) (λe=>?_) λe=>?_
   ·refine ab e ?_;split<;>simp
   ·exact ax _ (ax _ e)
  ·have d:m<=(if m<b then b else m)/\b<=(if m<b then b else m):=by split<;>lia
   refine ak (aS.mp L) (λH=>?_) λL=>?_;rw[H]
   ·exact gr d.1 (U _ aH)
   ·refine ak (aS.mp L) (λH=>?_) λL=>?_;rw[H]
    ·exact gr d.2 (U _ aH)
    ·exact U a (ax _ L)
theorem Az(l:List Int):∀m,(l.foldl (λm b=>if b<m then b else m) m)∈m::l/\∀a∈m::l,l.foldl (λm b=>if b<m then b else m) m<=a:=by
 induction l with
 |nil=>intro m;simp
 |cons b l R=>
  refineλm=>aN (R (if b<m then b else m)) λJ U=>⟨?_,λa L=>?_⟩
  ·refine ak (aS.mp J) (λe=>?_) λe=>?_
   ·refine ab e ?_;split<;>simp
   ·exact ax _ (ax _ e)
  ·have d:(if b<m then b else m)<=m/\(if b<m then b else m)<=b:=by split<;>lia
   refine ak (aS.mp L) (λH=>?_) λL=>?_;rw[H]
   ·exact gr (U _ aH) d.1
   ·refine ak (aS.mp L) (λH=>?_) λL=>?_;rw[H]
    ·exact gr (U _ aH) d.2
    ·exact U a (ax _ L)
theorem Gy{l:List Int}{m:Int}(h:KD l=some m):m∈l/\∀a∈l,a<=m:=by
 rcases l with _|⟨a,l⟩
 ·injection h
 ·injection h with S;subst S;exact Ay l a
theorem GA{l:List Int}{m:Int}(h:KE l=some m):m∈l/\∀a∈l,m<=a:=by
 rcases l with _|⟨a,l⟩
 ·injection h
 ·injection h with S;subst S;exact Az l a
theorem Tx{v:aw}{a:AV}{l:List AV}{ns:List Int}{m:Int}(hh:A.handled=none)(K:SR W ρ s.heap st)(x:VR W ρ s.heap v a)(J:jX st a=some l)(U:dM l=some ns)(Z:KD ns=some m):
 aM (aL prog w) A (call (.builtin "max") [v]) (e9 W ρ s (.int m)) E s:=by
 refine gA K x J λc vs F G d=>?_;subst F;have hi:=ki d U;refine aN (Gy Z) λm1 m2=>aI hi.allInts.items λxs e=>?_;have H:ns=xs.toList.map (·.1):=cA hi.numsOf (cA (HZ ..) (cA e rfl));have g:0<xs.size:=by have:0<ns.length:=BX m1;rw[H,aY,gI]at this;exact this
 have X:=G.isList;rw[e]at X;refine max_intList hh X g λv h' tk D I=>aI (intItems_at D) λt S=>?_;subst S;refine aN (argBest_gt (l8 xs) (xs.size-1)) λf C=>?_;have L:l8 xs (DF (λi j=>decide (l8 xs i>l8 xs j)) (xs.size-1))∈ns:=ab H<|ab (RE ..)<|getD_mem (by refine ab (aY ..) (ab gI ?_);omega+splitDisjunctions);have V:m<=l8 xs (DF (λi j=>decide (l8 xs i>l8 xs j)) (xs.size-1)):=by rw[H]at m1;refine aC (mem_getD m1) λj Q R=>?_;subst R;rw[aY,gI]at Q;exact cA (RE ..)<|C j (by(clear m1 m2 Z L C f D I X H e hi x d G U J K hh;lia))
 have B:l8 xs (DF (λi j=>decide (l8 xs i>l8 xs j)) (xs.size-1))=m:=lI (m2 _ L) V;exact ab B<|⟨.of I,.int _ _⟩
theorem Tz{v:aw}{a:AV}{l:List AV}{ns:List Int}{m:Int}(hh:A.handled=none)(K:SR W ρ s.heap st)(x:VR W ρ s.heap v a)(J:jX st a=some l)(U:dM l=some ns)(Z:KE ns=some m):
 aM (aL prog w) A (call (.builtin "min") [v]) (e9 W ρ s (.int m)) E s:=by
 refine gA K x J λc vs r G d=>?_;subst r;have hi:=ki d U;refine aN (GA Z) λm1 m2=>aI hi.allInts.items λxs e=>?_;have H:ns=xs.toList.map (·.1):=cA hi.numsOf (cA (HZ ..) (cA e rfl));have g:0<xs.size:=by have:0<ns.length:=BX m1;rw[H,aY,gI]at this;exact this
 have X:=G.isList;rw[e]at X;refine min_intList hh X g λv h' tk D I=>aI (intItems_at D) λt L=>?_;subst L;refine aN (argBest_lt (l8 xs) (xs.size-1)) λf C=>?_;have M:l8 xs (DF (λi j=>decide (l8 xs i<l8 xs j)) (xs.size-1))∈ns:=ab H<|ab (RE ..)<|getD_mem (by refine ab (aY ..) (ab gI ?_);omega+splitDisjunctions);have V:l8 xs (DF (λi j=>decide (l8 xs i<l8 xs j)) (xs.size-1))<=m:=by rw[H]at m1;refine aC (mem_getD m1) λj Q F=>?_;subst F;rw[aY,gI]at Q;exact cA (RE ..)<|C j (by(clear m1 m2 Z M C f D I X H e hi x d G U J K hh;lia))
 have B:l8 xs (DF (λi j=>decide (l8 xs i<l8 xs j)) (xs.size-1))=m:=lI V (m2 _ M);exact ab B<|⟨.of I,.int _ _⟩
theorem OR{a b:Int}{t u:nZ}(hh:A.handled=none):aM (aL prog w) A (call (.builtin "min") [.int a t,.int b u]) (e9 W ρ s (.int (if b<a then b else a))) E s:=
 min_two_ints hh λh' tk I=>by split<;>exact⟨.of I,.int _ _⟩
theorem TA{v:aw}{a:AV}{l:List AV}{ns:List Int}(hh:A.handled=none)(K:SR W ρ s.heap st)(x:VR W ρ s.heap v a)(J:jX st a=some l)(U:dM l=some ns):
 aM (aL prog w) A (call (.builtin "sum") [v]) (e9 W ρ s (.int ns.sum)) E s:=by
 refine gA K x J λc vs n G d=>?_;subst n;have hi:=ki d U;refine aI hi.allInts.items λxs e=>?_;have H:ns=xs.toList.map (·.1):=cA hi.numsOf (cA (HZ ..) (cA e rfl));have X:=G.isList;rw[e]at X;exact sum_intListG hh X λh' tk t' I=>ab (preSum_eq ..)<|ab (fJ (by simp))<|cA H<|⟨.of I,.int _ _⟩
theorem insI_perm(a:Int):∀l:List Int,(insI a l).Perm (a::l):=by
 intro G
 induction G with
 |nil=>
  exact .refl _
 |cons b l R=>
  simp only[(id QW)];split
  ·exact .refl _
  ·exact((R).cons b).trans (.swap _ _ _)
theorem sortI_perm:∀l:List Int,(sortI l).Perm l:=by
 intro G
 induction G with
 |nil=>
  exact .refl _
 |cons a l R=>
  exact(insI_perm a (sortI l)).trans ((R).cons a)
set_option tactic.hygienic true in
theorem AH(a:Int):∀l:List Int,l.Pairwise (·<=·)->(insI a l).Pairwise (·<=·):=by
 intro G
 induction G with
 |nil=>
  exactλz=>(sortedZ_iff (insI a [])).mp rfl
 |cons b l R=>
  intro h;simp only[(id QW)];split
  ·rename_i I;refine fO.mpr ⟨λc V=>?_,h⟩;refine ak (aS.mp V) (λH=>?_) λV=>?_;simp only[H]
   ·exact I
   ·exact gr I ((fO.mp h).1 c V)
  ·rename_i I;refine fO.mpr ⟨λc V=>?_,R (fO.mp h).2⟩;refine ak (aS.mp ((insI_perm a l).mem_iff.mp V)) (λH=>?_) λV=>?_;simp only[H]
   ·exact Int.le_of_not_le I
   ·exact(fO.mp h).1 c V
theorem rJ:∀l:List Int,(sortI l).Pairwise (·<=·):=by
 intro G
 induction G with
 |nil=>
  exact .nil
 |cons a l R=>
  exact AH a _ (R)
theorem GK{v:aw}{a:AV}{l:List AV}{ns:List Int}(X:j6 W s.heap)(K:SR W ρ s.heap st)(x:VR W ρ s.heap v a)(J:jX st a=some l)(U:dM l=some ns)(T:ns.length<64):
 aM (aL prog w) A (call (.builtin "sorted") [v]) (e9 W ρ s (.lst ((sortI ns).map .int))) E s:=by
 refine gA K x J λc vs S G d=>?_;subst S;have hi:=ki d U;refine sorted_ints G.isList hi (ab hi.length<|T) λD C a1 a2 a3=>aI (sortedAll_at s.heap vs D) λe F=>?_;have Q:C=sortI ns:=(a2.trans (sortI_perm ns).symm).eq_of_pairwise (le:=λa b:Int=>a<=b) (λa b z z J U=>lI J U) a3 (rJ ns);clear a2;clear a3;subst Q;have B:s.heap.get? (s.heap.objs.size+1)=none:=by
  rcases e:s.heap.get? (s.heap.objs.size+1)with _|o
  ·rfl
  ·exact absurd (gN e) (i5.mpr (nu _))
 exact⟨.of (s:=s) (tk:=s.toks) (λz z=>sortedAll_old),.lst (X.fresh B) ⟨e,F⟩ (IntsAre.Zx a1)⟩
end
set_option genInjectivity false in
structure Ck where
 names:List (bj×dz)
 tab:List bj
 acc:List Nat
 tk:Nat:=0
noncomputable def qA:List bj:= ["_MAX_STRING_SIZE","_MOVE_COST","_CASE_COST","_DIV_LIMIT"]
noncomputable def Ck.glob(K:Ck)(x:bj):Bool:=K.names.lookup x==some .globalImplicit&& !(x==("__debug__":bj))
noncomputable def ro(K:Ck)(nm:bj)(x:bj):Bool:=x==nm&&K.glob x
noncomputable def pX(f:Nat):Option bj:=(Sr[f]?).map strOf
noncomputable def bJ(e:Expr):Bool:= !(e.ctorIdx==22)
noncomputable def oZ(names:List (bj×dz))(scope:cQ):List (bj×dz):=
 scope.names.map λ(n,k)=>if k==.free&&names.lookup n==some .cell then(n,.cell)else(n,k)
noncomputable def qI:kR->List Nat
 | .bX i=> [i]
 | .many l=>l
noncomputable def fP(K:Ck)(scope:cQ)(t:kR):Ck where
 names:=oZ K.names scope
 tab:=K.tab
 acc:=(K.acc.filter λi=>match K.tab[i]? with
  |some x=>scope.names.lookup x==some .free&&(K.names.lookup x==some .cell||K.names.lookup x==some .free)
  |none=>false)++qI t
 tk:=K.tk
noncomputable def ku(K:Ck)(scope:cQ):Bool:=
 scope.kind==.function&& !scope.isGenerator&& !scope.isCoroutine&&decide ((scope.names.map (·.1)).Nodup)&&
 (scope.names.all λ(n,k)=>(k !=.free||K.names.lookup n==some .cell||K.names.lookup n==some .free)&&scope.names.lookup n==some k)
noncomputable def xI(e:CE):Bool:= [4,10,11,12,13,14,19,20,40].contains e.ix
noncomputable def Ek(e:CE):Bool:=e.ix==4||(e.ix==43||e.ix==44)
noncomputable def bD{B:Type}(o:Option B)(F:B->Bool):Bool:=match o with
 |some a=>F a
 |none=>false
theorem ju{B:Type}{o:Option B}{F:B->Bool}(h:∀a,F a=false):bD o F=false:=by
 rcases o with _|a
 ·rfl
 ·exact h a
noncomputable def kU(e:Expr):Option (bj×eO):=if h:e.ctorIdx=23 then tE (motive_1:=λz=>Option _) e h (λx p=>some (x,p))else none
theorem gH{e:Expr}{q:bj×eO}(h:kU e=some q):e=.Name q.1 q.2:=cx (P:=λq=>e=.Name q.1 q.2) (rV λi=>tE (motive_1:=λe=>∀i,i9 (tE (motive_1:=λz=>Option _) e i (λx p=>some (x,p))) λq=>e=.Name q.1 q.2) e i (λx p z=>rfl) i) h
noncomputable def rR(e:Expr):Option (Expr×cV×Expr×eO):=if h:e.ctorIdx=2 then BP (motive_1:=λz=>Option _) e h (λl o r p=>some (l,o,r,p))else none
theorem nX{e:Expr}{q:Expr×cV×Expr×eO}(h:rR e=some q):e=.BinOp q.1 q.2.1 q.2.2.1 q.2.2.2:=cx (P:=λq=>e=.BinOp q.1 q.2.1 q.2.2.1 q.2.2.2) (rV λi=>BP (motive_1:=λe=>∀i,i9 (BP (motive_1:=λz=>Option _) e i (λl o r p=>some (l,o,r,p))) λq=>e=.BinOp q.1 q.2.1 q.2.2.1 q.2.2.2) e i (λl o r p z=>rfl) i) h
noncomputable def zw(e:Expr):Option (ue×Expr×eO):=if h:e.ctorIdx=3 then xS (motive_1:=λz=>Option _) e h (λo y p=>some (o,y,p))else none
theorem sU{e:Expr}{q:ue×Expr×eO}(h:zw e=some q):e=.UnaryOp q.1 q.2.1 q.2.2:=cx (P:=λq=>e=.UnaryOp q.1 q.2.1 q.2.2) (rV λi=>xS (motive_1:=λe=>∀i,i9 (xS (motive_1:=λz=>Option _) e i (λo y p=>some (o,y,p))) λq=>e=.UnaryOp q.1 q.2.1 q.2.2) e i (λo y p z=>rfl) i) h
noncomputable def rS(e:Expr):Option (MQ×List Expr×eO):=if h:e.ctorIdx=0 then zB (motive_1:=λz=>Option _) e h (λo D p=>some (o,D,p))else none
theorem pf{e:Expr}{q:MQ×List Expr×eO}(h:rS e=some q):e=.BoolOp q.1 q.2.1 q.2.2:=cx (P:=λq=>e=.BoolOp q.1 q.2.1 q.2.2) (rV λi=>zB (motive_1:=λe=>∀i,i9 (zB (motive_1:=λz=>Option _) e i (λo D p=>some (o,D,p))) λq=>e=.BoolOp q.1 q.2.1 q.2.2) e i (λo D p z=>rfl) i) h
noncomputable def pJ(e:Expr):Option (Expr×List kF×List Expr×eO):=if h:e.ctorIdx=15 then xR (motive_1:=λz=>Option _) e h (λl os rs p=>some (l,os,rs,p))else none
theorem nY{e:Expr}{q:Expr×List kF×List Expr×eO}(h:pJ e=some q):e=.Compare q.1 q.2.1 q.2.2.1 q.2.2.2:=cx (P:=λq=>e=.Compare q.1 q.2.1 q.2.2.1 q.2.2.2) (rV λi=>xR (motive_1:=λe=>∀i,i9 (xR (motive_1:=λz=>Option _) e i (λl os rs p=>some (l,os,rs,p))) λq=>e=.Compare q.1 q.2.1 q.2.2.1 q.2.2.2) e i (λl os rs p z=>rfl) i) h
noncomputable def zr(e:Expr):Option (Expr×Expr×Expr×eO):=if h:e.ctorIdx=5 then BQ (motive_1:=λz=>Option _) e h (λt a b p=>some (t,a,b,p))else none
theorem v8{e:Expr}{q:Expr×Expr×Expr×eO}(h:zr e=some q):e=.IfExp q.1 q.2.1 q.2.2.1 q.2.2.2:=cx (P:=λq=>e=.IfExp q.1 q.2.1 q.2.2.1 q.2.2.2) (rV λi=>BQ (motive_1:=λe=>∀i,i9 (BQ (motive_1:=λz=>Option _) e i (λt a b p=>some (t,a,b,p))) λq=>e=.IfExp q.1 q.2.1 q.2.2.1 q.2.2.2) e i (λt a b p z=>rfl) i) h
noncomputable def Mq(e:Expr):Option (List Expr×eO):=if h:e.ctorIdx=24 then Fd (motive_1:=λz=>Option _) e h (λD p=>some (D,p))else none
theorem BA{e:Expr}{q:List Expr×eO}(h:Mq e=some q):e=.List q.1 q.2:=cx (P:=λq=>e=.List q.1 q.2) (rV λi=>Fd (motive_1:=λe=>∀i,i9 (Fd (motive_1:=λz=>Option _) e i (λD p=>some (D,p))) λq=>e=.List q.1 q.2) e i (λD p z=>rfl) i) h
noncomputable def xN(e:Expr):Option (List Expr×Nat×eO):=if h:e.ctorIdx=25 then BS (motive_1:=λz=>Option _) e h (λD n p=>some (D,n,p))else none
theorem rU{e:Expr}{q:List Expr×Nat×eO}(h:xN e=some q):e=.Tuple q.1 q.2.1 q.2.2:=cx (P:=λq=>e=.Tuple q.1 q.2.1 q.2.2) (rV λi=>BS (motive_1:=λe=>∀i,i9 (BS (motive_1:=λz=>Option _) e i (λD n p=>some (D,n,p))) λq=>e=.Tuple q.1 q.2.1 q.2.2) e i (λD n p z=>rfl) i) h
noncomputable def wa(e:Expr):Option (Expr×Expr×eO):=if h:e.ctorIdx=21 then uy (motive_1:=λZ=>Option _) e h (λy z p=>some (y,z,p))else none
theorem pK{e:Expr}{q:Expr×Expr×eO}(h:wa e=some q):e=.Subscript q.1 q.2.1 q.2.2:=cx (P:=λq=>e=.Subscript q.1 q.2.1 q.2.2) (rV λi=>uy (motive_1:=λe=>∀i,i9 (uy (motive_1:=λZ=>Option _) e i (λy z p=>some (y,z,p))) λq=>e=.Subscript q.1 q.2.1 q.2.2) e i (λy z p Z=>rfl) i) h
noncomputable def E6(e:Expr):Option (Option Expr×Option Expr×Option Expr×eO):=if h:e.ctorIdx=26 then BR (motive_1:=λz=>Option _) e h (λa b c p=>some (a,b,c,p))else none
theorem Dv{e:Expr}{q:Option Expr×Option Expr×Option Expr×eO}(h:E6 e=some q):e=.Slice q.1 q.2.1 q.2.2.1 q.2.2.2:=cx (P:=λq=>e=.Slice q.1 q.2.1 q.2.2.1 q.2.2.2) (rV λi=>BR (motive_1:=λe=>∀i,i9 (BR (motive_1:=λz=>Option _) e i (λa b c p=>some (a,b,c,p))) λq=>e=.Slice q.1 q.2.1 q.2.2.1 q.2.2.2) e i (λa b c p z=>rfl) i) h
noncomputable def zq(e:Expr):Option (Expr×List Expr×List Keyword×eO):=if h:e.ctorIdx=16 then Fc (motive_1:=λz=>Option _) e h (λf a k p=>some (f,a,k,p))else none
theorem sR{e:Expr}{q:Expr×List Expr×List Keyword×eO}(h:zq e=some q):e=.Call q.1 q.2.1 q.2.2.1 q.2.2.2:=cx (P:=λq=>e=.Call q.1 q.2.1 q.2.2.1 q.2.2.2) (rV λi=>Fc (motive_1:=λe=>∀i,i9 (Fc (motive_1:=λz=>Option _) e i (λf a k p=>some (f,a,k,p))) λq=>e=.Call q.1 q.2.1 q.2.2.1 q.2.2.2) e i (λf a k p z=>rfl) i) h
noncomputable def Mp(e:Expr):Option (Expr×bj×eO):=if h:e.ctorIdx=20 then ux (motive_1:=λz=>Option _) e h (λy n p=>some (y,n,p))else none
theorem Hz{e:Expr}{q:Expr×bj×eO}(h:Mp e=some q):e=.Attribute q.1 q.2.1 q.2.2:=cx (P:=λq=>e=.Attribute q.1 q.2.1 q.2.2) (rV λi=>ux (motive_1:=λe=>∀i,i9 (ux (motive_1:=λz=>Option _) e i (λy n p=>some (y,n,p))) λq=>e=.Attribute q.1 q.2.1 q.2.2) e i (λy n p z=>rfl) i) h
noncomputable def zu(e:Expr):Option (Expr×List wc×cQ×eO):=if h:e.ctorIdx=8 then wt (motive_1:=λz=>Option _) e h (λy g s p=>some (y,g,s,p))else none
theorem Du{e:Expr}{q:Expr×List wc×cQ×eO}(h:zu e=some q):e=.ListComp q.1 q.2.1 q.2.2.1 q.2.2.2:=cx (P:=λq=>e=.ListComp q.1 q.2.1 q.2.2.1 q.2.2.2) (rV λi=>wt (motive_1:=λe=>∀i,i9 (wt (motive_1:=λz=>Option _) e i (λy g s p=>some (y,g,s,p))) λq=>e=.ListComp q.1 q.2.1 q.2.2.1 q.2.2.2) e i (λy g s p z=>rfl) i) h
noncomputable def E4:wd->Option Unit
 | .none=>some ()
 |_=>none
theorem Ds{e:wd}{q:Unit}(h:E4 e=some q):e=.none:=cx (P:=λz=>e=.none) (by rcases e with⟨⟩<;>first|exact fc|exact rfl) h
noncomputable def E3:wd->Option Bool
 | .bool b=>some b
 |_=>none
theorem Dq{e:wd}{q:Bool}(h:E3 e=some q):e=.bool q:=cx (P:=λq=>e=.bool q) (by rcases e with⟨⟩<;>first|exact fc|exact rfl) h
noncomputable def l2{B:Type}:List B->Option (B×B)
 | []=>none
 |a::l=>(l1 l).map λb=>(a,b)
theorem rt{B A:Type}{a:B}{q:B×A}{x:Option A}(h:x.map (λb=>(a,b))=some q):a=q.1/\x=some q.2:=by
 rcases x with _|u
 ·injection h
 ·injection h with S;subst S;exact⟨rfl,rfl⟩
theorem my{B:Type}{l:List B}{q:B×B}(h:l2 l=some q):l= [q.1,q.2]:=by
 rcases l with _|⟨a,l⟩
 ·injection h
 ·exact aN (rt h) λe N=>ab (gL N) (ab e rfl)
noncomputable def o0{B:Type}:Option B->Option Unit
 |none=>some ()
 |_=>none
theorem A5{B:Type}{l:Option B}{q:Unit}(h:o0 l=some q):l=none:=by
 rcases l with _|a
 ·rfl
 ·injection h
theorem aU{B:Type}{o:Option B}{F:B->Bool}(h:bD o F=true){I:Prop}(N:∀a,o=some a->F a=true->I):I:=by
 rcases o with _|a
 ·exact(aB h).elim
 ·exact N a rfl h
noncomputable def Nw(b:Bool):Option Unit:=if b then some ()else none
theorem ym{b:Bool}{u:Unit}(h:Nw b=some u):b=true:=by
 rcases b with _|_
 ·injection h
 ·rfl
noncomputable def ck(x:Expr):Option wd:=(rT x).map (·.1)
theorem Aa{e:Expr}{c:wd}(h:ck e=some c){I:Prop}(N:∀k p,e=.Constant c k p->I):I:=by
 delta ck at h;rcases hx:rT e with _|q
 ·rw[hx]at h;injection h
 ·rw[hx]at h;injection h with S;subst S;exact N _ _ (qN hx)
noncomputable def BB:ue->Option Unit
 | .USub=>some ()
 |_=>none
noncomputable def Mr:ue->Option Unit
 | .Invert=>some ()
 |_=>none
noncomputable def Ms:ue->Option Unit
 | .Not=>some ()
 |_=>none
noncomputable def Ro:MQ->Option Unit
 | .And=>some ()
 |_=>none
noncomputable def Ul:MQ->Option Unit
 | .Or=>some ()
 |_=>none
theorem BC{o:ue}{q:Unit}(h:BB o=some q):o=.USub:=cx (P:=λz=>o=.USub) (by rcases o with⟨⟩<;>first|exact fc|exact rfl) h
theorem HA{o:ue}{q:Unit}(h:Mr o=some q):o=.Invert:=cx (P:=λz=>o=.Invert) (by rcases o with⟨⟩<;>first|exact fc|exact rfl) h
theorem HB{o:ue}{q:Unit}(h:Ms o=some q):o=.Not:=cx (P:=λz=>o=.Not) (by rcases o with⟨⟩<;>first|exact fc|exact rfl) h
theorem Mo{o:MQ}{q:Unit}(h:Ro o=some q):o=.And:=cx (P:=λz=>o=.And) (by rcases o with⟨⟩<;>first|exact fc|exact rfl) h
theorem E5{o:MQ}{q:Unit}(h:Ul o=some q):o=.Or:=cx (P:=λz=>o=.Or) (by rcases o with⟨⟩<;>first|exact fc|exact rfl) h
noncomputable def W8:kF->Option Unit
 | .In=>some ()
 |_=>none
theorem PY{o:kF}{q:Unit}(h:W8 o=some q):o=.In:=cx (P:=λz=>o=.In) (by rcases o with⟨⟩<;>first|exact fc|exact rfl) h
noncomputable def vZ(x:Expr):Option (bj×eO×List Expr×eO):=(zq x).bind λq=>(kU q.1).bind λf=>(l0 q.2.2.1).map λz=>(f.1,f.2,q.2.1,q.2.2.2)
theorem lz{e:Expr}{q:bj×eO×List Expr×eO}(h:vZ e=some q):e=.Call (.Name q.1 q.2.1) q.2.2.1 [] q.2.2.2:=by refine ew λY=>aC (aZ h) λc J h=>aC (aZ h) λf U h=>?_;obtain⟨e,u,Z⟩:=xg h;refine Y ?_;clear Y;exact ab (sR J) (ab (gH U) (ab (lR Z) (cA e rfl)))
noncomputable def sT(x:Expr):Option (Expr×bj×eO×List Expr×eO):=(zq x).bind λq=>(Mp q.1).bind λf=>(l0 q.2.2.1).map λz=>(f.1,f.2.1,f.2.2,q.2.1,q.2.2.2)
theorem kn{e:Expr}{q:Expr×bj×eO×List Expr×eO}(h:sT e=some q):e=.Call (.Attribute q.1 q.2.1 q.2.2.1) q.2.2.2.1 [] q.2.2.2.2:=by refine ew λY=>aC (aZ h) λc J h=>aC (aZ h) λf U h=>?_;obtain⟨e,u,Z⟩:=xg h;refine Y ?_;clear Y;exact ab (sR J) (ab (Hz U) (ab (lR Z) (cA e rfl)))
noncomputable def PZ(x:Expr):Option (bj×eO×Option Expr×Option Expr×eO×eO):=(wa x).bind λq=>(kU q.1).bind λf=>(E6 q.2.1).bind λs=>(o0 s.2.2.1).map λz=>(f.1,f.2,s.1,s.2.1,s.2.2.2,q.2.2)
theorem zv{e:Expr}{q:bj×eO×Option Expr×Option Expr×eO×eO}(h:PZ e=some q):e=.Subscript (.Name q.1 q.2.1) (.Slice q.2.2.1 q.2.2.2.1 none q.2.2.2.2.1) q.2.2.2.2.2:=by refine ew λY=>aC (aZ h) λc J h=>aC (aZ h) λf U h=>aC (aZ h) λs d h=>?_;obtain⟨e,u,Z⟩:=xg h;refine Y ?_;clear Y;exact ab (pK J) (ab (gH U) (ab (Dv d) (ab (A5 Z) (cA e rfl))))
noncomputable def Uk(x:Expr):Option (Expr×Expr×Expr×List Expr×cQ×eO):=(zu x).bind λq=>(l1 q.2.1).bind λc=>(Nw (c.is_async==0)).map λz=>(q.1,c.target,c.iter,c.ifs,q.2.2.1,q.2.2.2)
theorem zt{e:Expr}{q:Expr×Expr×Expr×List Expr×cQ×eO}(h:Uk e=some q):e=.ListComp q.1 [⟨q.2.1,q.2.2.1,q.2.2.2.1,0⟩] q.2.2.2.2.1 q.2.2.2.2.2:=by refine ew λY=>aC (aZ h) λc J h=>aC (aZ h) λj U h=>?_;rcases j with⟨t,i,A,n⟩;obtain⟨e,u,Z⟩:=xg h;refine Y ?_;clear Y;have d:n=0:=eq_of_beq (ym Z);exact ab (Du J) (ab (gL U) (ab d (cA e rfl)))
noncomputable def Iw(x:Expr):Option (bj):=(kU x).map λq=>q.1
theorem qB{O:Expr}{F:bj->Bool}(h:bD (Iw O) F=true){I:Prop}(N:∀x p,O=.Name x p->I):I:=aU h λv h z=>bW h λq T z=>N _ _ (gH T)
noncomputable def zU(x:Expr):Option Unit:=(ck x).bind E4
theorem Gi{O:Expr}{F:Unit->Bool}(h:bD (zU O) F=true){I:Prop}(N:∀Z pos,O=.Constant .none Z pos->I):I:=aU h λv h z=>aC (aZ h) λc J h=>Aa J λk p U=>N _ _ (bp U (ab (Ds h) rfl))
noncomputable def zT(x:Expr):Option Bool:=(ck x).bind E3
theorem sD{O:Expr}{F:Bool->Bool}(h:bD (zT O) F=true){I:Prop}(N:∀b Z pos,O=.Constant (.bool b) Z pos->I):I:=aU h λv h z=>aC (aZ h) λc J h=>Aa J λk p U=>N _ _ _ (bp U (ab (Dq h) rfl))
noncomputable def DM(x:Expr):Option Int:=(ck x).bind Dr
theorem vy{O:Expr}{F:Int->Bool}(h:bD (DM O) F=true){I:Prop}(N:∀b Z pos,O=.Constant (.int b) Z pos->I):I:=aU h λv h z=>aC (aZ h) λc J h=>Aa J λk p U=>N _ _ _ (bp U (ab (xM h) rfl))
noncomputable def pn(x:Expr):Option bj:=(ck x).bind Dt
theorem Ka{O:Expr}{F:bj->Bool}(h:bD (pn O) F=true){I:Prop}(N:∀b Z pos,O=.Constant (.str b) Z pos->I):I:=aU h λv h z=>aC (aZ h) λc J h=>Aa J λk p U=>N _ _ _ (bp U (ab (sS h) rfl))
noncomputable def Ik(x:Expr):Option (Expr×cV×Expr):=(rR x).map λq=>(q.1,q.2.1,q.2.2.1)
theorem Ef{O:Expr}{F:Expr×cV×Expr->Bool}(h:bD (Ik O) F=true){I:Prop}(N:∀l o r pos,O=.BinOp l o r pos->I):I:=aU h λv h z=>bW h λq T z=>N _ _ _ _ (nX T)
noncomputable def Iu(x:Expr):Option (Expr):=(zw x).bind λq=>(BB q.1).map λz=>q.2.1
theorem Ol{O:Expr}{F:Expr->Bool}(h:bD (Iu O) F=true){I:Prop}(N:∀y pos,O=.UnaryOp .USub y pos->I):I:=aU h λv h z=>aC (aZ h) λq J h=>bW h λu T z=>N _ _ (bp (sU J) (ab (BC T) rfl))
noncomputable def Iq(x:Expr):Option (Expr):=(zw x).bind λq=>(Mr q.1).map λz=>q.2.1
theorem Oi{O:Expr}{F:Expr->Bool}(h:bD (Iq O) F=true){I:Prop}(N:∀y pos,O=.UnaryOp .Invert y pos->I):I:=aU h λv h z=>aC (aZ h) λq J h=>bW h λu T z=>N _ _ (bp (sU J) (ab (HA T) rfl))
noncomputable def Iy(x:Expr):Option (Expr):=(zw x).bind λq=>(Ms q.1).map λz=>q.2.1
theorem Oo{O:Expr}{F:Expr->Bool}(h:bD (Iy O) F=true){I:Prop}(N:∀y pos,O=.UnaryOp .Not y pos->I):I:=aU h λv h z=>aC (aZ h) λq J h=>bW h λu T z=>N _ _ (bp (sU J) (ab (HB T) rfl))
noncomputable def Iz(x:Expr):Option (Expr×Expr):=(rS x).bind λq=>(Ul q.1).bind λz=>(l2 q.2.1).map λy=>y
theorem Oq{O:Expr}{F:Expr×Expr->Bool}(h:bD (Iz O) F=true){I:Prop}(N:∀y z pos,O=.BoolOp .Or [y,z] pos->I):I:=aU h λv h Z=>aC (aZ h) λq J h=>aC (aZ h) λu U h=>bW h λu T Z=>N _ _ _ (bp (pf J) (ab (E5 U) (ab (my T) rfl)))
noncomputable def Ij(x:Expr):Option (List Expr):=(rS x).bind λq=>(Ro q.1).map λz=>q.2.1
theorem Oa{O:Expr}{F:List Expr->Bool}(h:bD (Ij O) F=true){I:Prop}(N:∀D pos,O=.BoolOp .And D pos->I):I:=aU h λv h z=>aC (aZ h) λq J h=>bW h λu T z=>N _ _ (bp (pf J) (ab (Mo T) rfl))
noncomputable def Qu(x:Expr):Option (List Expr):=(rS x).bind λq=>(Ul q.1).map λz=>q.2.1
theorem SV{O:Expr}{F:List Expr->Bool}(h:bD (Qu O) F=true){I:Prop}(N:∀D pos,O=.BoolOp .Or D pos->I):I:=aU h λv h z=>aC (aZ h) λq J h=>bW h λu T z=>N _ _ (bp (pf J) (ab (E5 T) rfl))
noncomputable def DN(x:Expr):Option (Expr×kF×Expr):=(pJ x).bind λq=>(l1 q.2.1).bind λo=>(l1 q.2.2.1).map λr=>(q.1,o,r)
theorem AI{O:Expr}{F:Expr×kF×Expr->Bool}(h:bD (DN O) F=true){I:Prop}(N:∀l o r pos,O=.Compare l [o] [r] pos->I):I:=aU h λv h z=>aC (aZ h) λq J h=>aC (aZ h) λo U h=>bW h λr T z=>N _ _ _ _ (bp (nY J) (ab (gL U) (ab (gL T) rfl)))
noncomputable def DO(x:Expr):Option (Expr×kF×kF×Expr×Expr):=(pJ x).bind λq=>(l2 q.2.1).bind λo=>(l2 q.2.2.1).map λr=>(q.1,o.1,o.2,r.1,r.2)
theorem J9{O:Expr}{F:Expr×kF×kF×Expr×Expr->Bool}(h:bD (DO O) F=true){I:Prop}(N:∀l o1 A y r pos,O=.Compare l [o1,A] [y,r] pos->I):I:=aU h λv h z=>aC (aZ h) λq J h=>aC (aZ h) λo U h=>bW h λr T z=>N _ _ _ _ _ _ (bp (nY J) (ab (my U) (ab (my T) rfl)))
noncomputable def Io(x:Expr):Option (Expr×Expr×Expr):=(zr x).map λq=>(q.1,q.2.1,q.2.2.1)
theorem Og{O:Expr}{F:Expr×Expr×Expr->Bool}(h:bD (Io O) F=true){I:Prop}(N:∀t a b pos,O=.IfExp t a b pos->I):I:=aU h λv h z=>bW h λq T z=>N _ _ _ _ (v8 T)
noncomputable def Qr(x:Expr):Option (List Expr):=(Mq x).map λq=>q.1
theorem yH{O:Expr}{F:List Expr->Bool}(h:bD (Qr O) F=true){I:Prop}(N:∀D pos,O=.List D pos->I):I:=aU h λv h z=>bW h λq T z=>N _ _ (BA T)
noncomputable def Qv(x:Expr):Option (List Expr):=(xN x).map λq=>q.1
theorem Kf{O:Expr}{F:List Expr->Bool}(h:bD (Qv O) F=true){I:Prop}(N:∀D Z pos,O=.Tuple D Z pos->I):I:=aU h λv h z=>bW h λq T z=>N _ _ _ (rU T)
noncomputable def ID(x:Expr):Option (Expr×Expr):=(wa x).map λq=>(q.1,q.2.1)
theorem Ej{O:Expr}{F:Expr×Expr->Bool}(h:bD (ID O) F=true){I:Prop}(N:∀y z pos,O=.Subscript y z pos->I):I:=aU h λv h Z=>bW h λq T Z=>N _ _ _ (pK T)
noncomputable def IB(x:Expr):Option (bj×Expr×Expr):=(PZ x).bind λq=>(o0 q.2.2.2.1).bind λz=>q.2.2.1.map λl=>(q.1,.Name q.1 q.2.1,l)
theorem Eh{O:Expr}{F:bj×Expr×Expr->Bool}(h:bD (IB O) F=true){I:Prop}(N:∀nm G l p pos,O=.Subscript (.Name nm G) (.Slice (some l) none none p) pos->I):I:=aU h λv h z=>aC (aZ h) λq J h=>aC (aZ h) λu U h=>bW h λl T z=>N _ _ _ _ _ (bp (zv J) (ab (A5 U) (ab T rfl)))
noncomputable def IC(x:Expr):Option (bj×Expr×Expr):=(PZ x).bind λq=>(o0 q.2.2.1).bind λz=>q.2.2.2.1.map λl=>(q.1,.Name q.1 q.2.1,l)
theorem Ei{O:Expr}{F:bj×Expr×Expr->Bool}(h:bD (IC O) F=true){I:Prop}(N:∀nm G l p pos,O=.Subscript (.Name nm G) (.Slice none (some l) none p) pos->I):I:=aU h λv h z=>aC (aZ h) λq J h=>aC (aZ h) λu U h=>bW h λl T z=>N _ _ _ _ _ (bp (zv J) (ab (A5 U) (ab T rfl)))
noncomputable def IA(x:Expr):Option (bj×Expr×Expr×Expr):=(PZ x).bind λq=>q.2.2.1.bind λl=>q.2.2.2.1.map λu=>(q.1,.Name q.1 q.2.1,l,u)
theorem Ov{O:Expr}{F:bj×Expr×Expr×Expr->Bool}(h:bD (IA O) F=true){I:Prop}(N:∀nm G l u p pos,O=.Subscript (.Name nm G) (.Slice (some l) (some u) none p) pos->I):I:=aU h λv h z=>aC (aZ h) λq J h=>aC (aZ h) λl U h=>bW h λu T z=>N _ _ _ _ _ _ (bp (zv J) (ab U (ab T rfl)))
noncomputable def n7(x:Expr):Option (bj×Expr):=(vZ x).bind λq=>(l1 q.2.2.1).map λy=>(q.1,y)
theorem vw{O:Expr}{F:bj×Expr->Bool}(h:bD (n7 O) F=true){I:Prop}(N:∀f p y pos,O=.Call (.Name f p) [y] [] pos->I):I:=aU h λv h z=>aC (aZ h) λq J h=>bW h λy T z=>N _ _ _ _ (bp (lz J) (ab (gL T) rfl))
noncomputable def Il(x:Expr):Option (bj×Expr×Expr):=(vZ x).bind λq=>(l2 q.2.2.1).map λy=>(q.1,y)
theorem J8{O:Expr}{F:bj×Expr×Expr->Bool}(h:bD (Il O) F=true){I:Prop}(N:∀f p y z pos,O=.Call (.Name f p) [y,z] [] pos->I):I:=aU h λv h Z=>aC (aZ h) λq J h=>bW h λy T Z=>N _ _ _ _ _ (bp (lz J) (ab (my T) rfl))
noncomputable def Im(x:Expr):Option (bj×List Expr):=(vZ x).map λq=>(q.1,q.2.2.1)
theorem vz{O:Expr}{F:bj×List Expr->Bool}(h:bD (Im O) F=true){I:Prop}(N:∀f p D pos,O=.Call (.Name f p) D [] pos->I):I:=aU h λv h z=>bW h λq T z=>N _ _ _ _ (lz T)
noncomputable def Qs(x:Expr):Option (bj×bj×List Expr):=(vZ x).bind λq=>(l1 q.2.2.1).bind λy=>(vZ y).map λr=>(q.1,r.1,r.2.2.1)
theorem Kc{O:Expr}{F:bj×bj×List Expr->Bool}(h:bD (Qs O) F=true){I:Prop}(N:∀f p g p' D L pos,O=.Call (.Name f p) [.Call (.Name g p') D [] L] [] pos->I):I:=by refine aU h λv h z=>aC (aZ h) λq J h=>aC (aZ h) λy U h=>bW h λr T z=>?_;exact N _ _ _ _ _ _ _ (ab (lz J) (ab (gL U) (ab (lz T) rfl)))
noncomputable def wN(x:Expr):Option (Expr×bj×Bool):=(sT x).bind λq=>(l0 q.2.2.2.1).map λz=>(q.1,q.2.1,q.2.2.1.endLine==q.2.2.2.2.line)
theorem CM{O:Expr}{F:Expr×bj×Bool->Bool}(h:bD (wN O) F=true){I:Prop}(N:∀y n b pos,O=.Call (.Attribute y n b) [] [] pos->I):I:=aU h λv h z=>aC (aZ h) λq J h=>bW h λu T z=>N _ _ _ _ (bp (kn J) (ab (lR T) rfl))
noncomputable def DP(x:Expr):Option (Expr×bj×Expr×Bool):=(sT x).bind λq=>(l1 q.2.2.2.1).map λz=>(q.1,q.2.1,z,q.2.2.1.endLine==q.2.2.2.2.line)
theorem SQ{O:Expr}{F:Expr×bj×Expr×Bool->Bool}(h:bD (DP O) F=true){I:Prop}(N:∀y n b z pos,O=.Call (.Attribute y n b) [z] [] pos->I):I:=aU h λv h Z=>aC (aZ h) λq J h=>bW h λz T Z=>N _ _ _ _ _ (bp (kn J) (ab (gL T) rfl))
noncomputable def Qt(x:Expr):Option (Expr×bj×bj×bj×Bool):=(sT x).bind λq=>(l2 q.2.2.2.1).bind λz=>(pn z.1).bind λu=>(pn z.2).map λv=>(q.1,q.2.1,u,v,q.2.2.1.endLine==q.2.2.2.2.line)
theorem yr{e:Expr}{u:bj}(h:pn e=some u){I:Prop}(N:∀k p,e=.Constant (.str u) k p->I):I:=aC (aZ h) λc J h=>Aa J λk p U=>N k p (bp U (ab (sS h) rfl))
theorem SS{O:Expr}{F:Expr×bj×bj×bj×Bool->Bool}(h:bD (Qt O) F=true):∃y n b u m R v S H pos,O=.Call (.Attribute y n b) [.Constant (.str u) m R,.Constant (.str v) S H] [] pos:=by refine ew λY=>aU h λv h X=>aC (aZ h) λq J h=>aC (aZ h) λz U h=>aC (aZ h) λu Z h=>bW h λv T X=>yr Z λm R e1=>yr T λS H e2=>Y ?_;clear Y;exact⟨_,_,_,_,_,_,_,_,_,_,ab (kn J) (ab (my U) (ab e1 (ab e2 rfl)))⟩
noncomputable def Qq(x:Expr):Option (bj×bj×Expr×Bool):=(sT x).bind λq=>(l1 q.2.2.2.1).bind λz=>(pn q.1).map λe=>(e,q.2.1,z,q.2.2.1.endLine==q.2.2.2.2.line)
theorem SP{O:Expr}{F:bj×bj×Expr×Bool->Bool}(h:bD (Qq O) F=true){I:Prop}(N:∀e Z p n b z pos,O=.Call (.Attribute (.Constant (.str e) Z p) n b) [z] [] pos->I):I:=aU h λv h Y=>aC (aZ h) λq J h=>aC (aZ h) λz U h=>bW h λe T Y=>yr T λm R e1=>N _ _ _ _ _ _ _ (ab (kn J) (ab (gL U) (ab e1 rfl)))
noncomputable def Qp(x:Expr):Option (bj×bj×Expr×Bool):=(sT x).bind λq=>(l1 q.2.2.2.1).bind λz=>(kU q.1).map λf=>(f.1,q.2.1,z,q.2.2.1.endLine==q.2.2.2.2.line)
theorem SN{O:Expr}{F:bj×bj×Expr×Bool->Bool}(h:bD (Qp O) F=true){I:Prop}(N:∀x p n b z pos,O=.Call (.Attribute (.Name x p) n b) [z] [] pos->I):I:=aU h λv h Z=>aC (aZ h) λq J h=>aC (aZ h) λz U h=>bW h λf T Z=>N _ _ _ _ _ _ (ab (kn J) (ab (gL U) (ab (gH T) rfl)))
noncomputable def Ip(x:Expr):Option (Expr×bj):=(pJ x).bind λq=>(l1 q.2.1).bind λo=>(W8 o).bind λz=>(l1 q.2.2.1).bind λy=>(kU y).map λr=>(q.1,r.1)
theorem Oh{O:Expr}{F:Expr×bj->Bool}(h:bD (Ip O) F=true){I:Prop}(N:∀l x p pos,O=.Compare l [.In] [.Name x p] pos->I):I:=by refine aU h λv h z=>aC (aZ h) λq J h=>aC (aZ h) λo U h=>aC (aZ h) λu Z h=>aC (aZ h) λy d h=>?_;refine bW h λr T z=>?_;exact N _ _ _ _ (ab (nY J) (ab (gL U) (ab (PY Z) (ab (gL d) (ab (gH T) rfl)))))
noncomputable def uI(x:Expr):Option (Expr×Expr×Expr×cQ):=(Uk x).bind λq=>(l0 q.2.2.2.1).map λz=>(q.1,q.2.1,q.2.2.1,q.2.2.2.2.1)
theorem Oj{O:Expr}{F:Expr×Expr×Expr×cQ->Bool}(h:bD (uI O) F=true){I:Prop}(N:∀y b i A pos,O=.ListComp y [⟨b,i,[],0⟩] A pos->I):I:=aU h λv h z=>aC (aZ h) λq J h=>bW h λu T z=>N _ _ _ _ _ (bp (zt J) (ab (lR T) rfl))
noncomputable def Ir(x:Expr):Option (Expr×Expr×Expr×Expr×cQ):=(Uk x).bind λq=>(l1 q.2.2.2.1).map λz=>(q.1,q.2.1,q.2.2.1,z,q.2.2.2.2.1)
theorem Eg{O:Expr}{F:Expr×Expr×Expr×Expr×cQ->Bool}(h:bD (Ir O) F=true){I:Prop}(N:∀y b i z u pos,O=.ListComp y [⟨b,i,[z],0⟩] u pos->I):I:=aU h λv h Z=>aC (aZ h) λq J h=>bW h λz T Z=>N _ _ _ _ _ _ (bp (zt J) (ab (gL T) rfl))
noncomputable def lZ(e:bC):Option (List Expr×Expr×eO):=if h:e.ctorIdx=5 then qg (motive_2:=λz=>Option _) e h (λl v p=>some (l,v,p))else none
theorem jw{e:bC}{q:List Expr×Expr×eO}(h:lZ e=some q):e=.Assign q.1 q.2.1 q.2.2:=cx (P:=λq=>e=.Assign q.1 q.2.1 q.2.2) (rV λi=>qg (motive_2:=λe=>∀i,i9 (qg (motive_2:=λz=>Option _) e i (λl v p=>some (l,v,p))) λq=>e=.Assign q.1 q.2.1 q.2.2) e i (λl v p z=>rfl) i) h
noncomputable def Mt(e:bC):Option (Expr×cV×Expr×eO):=if h:e.ctorIdx=7 then uE (motive_2:=λz=>Option _) e h (λt o v p=>some (t,o,v,p))else none
theorem BD{e:bC}{q:Expr×cV×Expr×eO}(h:Mt e=some q):e=.AugAssign q.1 q.2.1 q.2.2.1 q.2.2.2:=cx (P:=λq=>e=.AugAssign q.1 q.2.1 q.2.2.1 q.2.2.2) (rV λi=>uE (motive_2:=λe=>∀i,i9 (uE (motive_2:=λz=>Option _) e i (λt o v p=>some (t,o,v,p))) λq=>e=.AugAssign q.1 q.2.1 q.2.2.1 q.2.2.2) e i (λt o v p z=>rfl) i) h
noncomputable def BF(e:bC):Option (Option Expr×eO):=if h:e.ctorIdx=3 then zK (motive_2:=λz=>Option _) e h (λo p=>some (o,p))else none
theorem rX{e:bC}{q:Option Expr×eO}(h:BF e=some q):e=.Return q.1 q.2:=cx (P:=λq=>e=.Return q.1 q.2) (rV λi=>zK (motive_2:=λe=>∀i,i9 (zK (motive_2:=λz=>Option _) e i (λo p=>some (o,p))) λq=>e=.Return q.1 q.2) e i (λo p z=>rfl) i) h
noncomputable def Rq(e:bC):Option (eO):=if h:e.ctorIdx=26 then B9 (motive_2:=λz=>Option _) e h (λp=>some (p))else none
theorem Mv{e:bC}{q:eO}(h:Rq e=some q):e=.Break q:=cx (P:=λq=>e=.Break q) (rV λi=>B9 (motive_2:=λe=>∀i,i9 (B9 (motive_2:=λz=>Option _) e i (λp=>some (p))) λq=>e=.Break q) e i (λp z=>rfl) i) h
noncomputable def Um(e:bC):Option (Option Expr×Option Expr×eO):=if h:e.ctorIdx=16 then bC.Raise.elim (motive_2:=λz=>Option _) e h (λa b p=>some (a,b,p))else none
noncomputable def Mw(e:bC):Option (Expr×eO):=if h:e.ctorIdx=24 then Fn (motive_2:=λz=>Option _) e h (λe p=>some (e,p))else none
theorem uu{e:bC}{q:Expr×eO}(h:Mw e=some q):e=.Expr q.1 q.2:=cx (P:=λq=>e=.Expr q.1 q.2) (rV λi=>Fn (motive_2:=λe=>∀i,i9 (Fn (motive_2:=λz=>Option _) e i (λe p=>some (e,p))) λq=>e=.Expr q.1 q.2) e i (λe p z=>rfl) i) h
noncomputable def BE(e:bC):Option (Expr×List bC×List bC×eO):=if h:e.ctorIdx=12 then M2 (motive_2:=λz=>Option _) e h (λt a b p=>some (t,a,b,p))else none
theorem rW{e:bC}{q:Expr×List bC×List bC×eO}(h:BE e=some q):e=.If q.1 q.2.1 q.2.2.1 q.2.2.2:=cx (P:=λq=>e=.If q.1 q.2.1 q.2.2.1 q.2.2.2) (rV λi=>M2 (motive_2:=λe=>∀i,i9 (M2 (motive_2:=λz=>Option _) e i (λt a b p=>some (t,a,b,p))) λq=>e=.If q.1 q.2.1 q.2.2.1 q.2.2.2) e i (λt a b p z=>rfl) i) h
noncomputable def My(e:bC):Option (Expr×List bC×List bC×eO):=if h:e.ctorIdx=11 then Ca (motive_2:=λz=>Option _) e h (λt b e p=>some (t,b,e,p))else none
theorem HG{e:bC}{q:Expr×List bC×List bC×eO}(h:My e=some q):e=.While q.1 q.2.1 q.2.2.1 q.2.2.2:=cx (P:=λq=>e=.While q.1 q.2.1 q.2.2.1 q.2.2.2) (rV λi=>Ca (motive_2:=λe=>∀i,i9 (Ca (motive_2:=λz=>Option _) e i (λt b e p=>some (t,b,e,p))) λq=>e=.While q.1 q.2.1 q.2.2.1 q.2.2.2) e i (λt b e p z=>rfl) i) h
noncomputable def Dw(e:bC):Option (Expr×Expr×List bC×List bC×eO):=if h:e.ctorIdx=9 then HU (motive_2:=λz=>Option _) e h (λg i b e p=>some (g,i,b,e,p))else none
theorem xO{e:bC}{q:Expr×Expr×List bC×List bC×eO}(h:Dw e=some q):e=.For q.1 q.2.1 q.2.2.1 q.2.2.2.1 q.2.2.2.2:=cx (P:=λq=>e=.For q.1 q.2.1 q.2.2.1 q.2.2.2.1 q.2.2.2.2) (rV λi=>HU (motive_2:=λe=>∀i,i9 (HU (motive_2:=λz=>Option _) e i (λg i b e p=>some (g,i,b,e,p))) λq=>e=.For q.1 q.2.1 q.2.2.1 q.2.2.2.1 q.2.2.2.2) e i (λg i b e p z=>rfl) i) h
noncomputable def Mx(e:bC):Option (bj×cZ×List bC×List Expr×Option Expr×List TypeParam×cQ×Option cQ×bj×eO):=if h:e.ctorIdx=0 then se (motive_2:=λz=>Option _) e h (λn a b c r t s o d p=>some (n,a,b,c,r,t,s,o,d,p))else none
theorem HD{e:bC}{q:bj×cZ×List bC×List Expr×Option Expr×List TypeParam×cQ×Option cQ×bj×eO}(h:Mx e=some q):e=.FunctionDef q.1 q.2.1 q.2.2.1 q.2.2.2.1 q.2.2.2.2.1 q.2.2.2.2.2.1 q.2.2.2.2.2.2.1 q.2.2.2.2.2.2.2.1 q.2.2.2.2.2.2.2.2.1 q.2.2.2.2.2.2.2.2.2:=cx (P:=λq=>e=.FunctionDef q.1 q.2.1 q.2.2.1 q.2.2.2.1 q.2.2.2.2.1 q.2.2.2.2.2.1 q.2.2.2.2.2.2.1 q.2.2.2.2.2.2.2.1 q.2.2.2.2.2.2.2.2.1 q.2.2.2.2.2.2.2.2.2) (rV λi=>se (motive_2:=λe=>∀i,i9 (se (motive_2:=λz=>Option _) e i (λn a b c r t s o d p=>some (n,a,b,c,r,t,s,o,d,p))) λq=>e=.FunctionDef q.1 q.2.1 q.2.2.1 q.2.2.2.1 q.2.2.2.2.1 q.2.2.2.2.2.1 q.2.2.2.2.2.2.1 q.2.2.2.2.2.2.2.1 q.2.2.2.2.2.2.2.2.1 q.2.2.2.2.2.2.2.2.2) e i (λn a b c r t s o d p z=>rfl) i) h
noncomputable def fS(x:Expr):Bool:= !(bD (vZ x) λq=>q.2.2.1.isEmpty)
noncomputable def Wh(K:Ck)(names:List (bj×dz))(i:Nat)(x:bj):Bool:=K.tab[i]? ==some x&&(names.lookup x==some .local||names.lookup x==some .cell)
noncomputable def qH(K:Ck)(names:List (bj×dz))(i:Nat)(g:Expr):Bool:=bD (kU g) λq=>Wh K names i q.1
noncomputable def jV(K:Ck)(names:List (bj×dz))(t:kR)(g:Expr):Bool:=match t with
 | .bX i=>qH K names i g
 | .many I=>bD (xN g) λq=>q.1.length==I.length&&(I.zip q.1).all λp=>qH K names p.1 p.2
theorem ba{a b:Bool}(h:(a&&b)=true):a=true/\b=true:=by
 rcases a with _|_
 ·exact(aB h).elim
 ·exact⟨rfl,h⟩
theorem allB{l:List Bool}(h:l.all id=true){b:Bool}(i:Nat)(e:l[i]? =some b):b=true:=aq.mp h b (aW e)
theorem nB{b:Bool}(h:(!b)=true):b=false:=by
 rcases b with _|_
 ·rfl
 ·exact(aB h).elim
theorem ij{K:Ck}{names:List (bj×dz)}{i:Nat}{g:Expr}(h:qH K names i g=true):∃x p,g=.Name x p/\K.tab[i]? =some x/\(names.lookup x=some .local\/names.lookup x=some .cell):=by
 refine aU h λq J h=>⟨q.1,q.2,gH J,eq_of_beq (ba h).1,?_⟩;refine ak ((fy _ _).mp (ba h).2) (λh=>?_) λh=>?_
 ·exact .inl (eq_of_beq h)
 ·exact .inr (eq_of_beq h)
theorem rO{K:Ck}{names:List (bj×dz)}{I:List Nat}{g:Expr}(h:jV K names (.many I) g=true):∃es n p,g=.Tuple es n p/\es.length=I.length/\((I.zip es).all λp=>qH K names p.1 p.2)=true:=aU h λq J h=>⟨_,_,_,rU J,eq_of_beq (ba h).1,(ba h).2⟩
mutual
noncomputable def cz(K:Ck)(m:Nat):CE->Expr->Bool
 | .q,x=>bD (zU x) λZ=>true
 | .u b,x=>bD (zT x) λc=>b==c
 | .d i,x=>bD (DM x) λj=>i==j
 | .l s,x=>bD (pn x) λy=>strOf s==y
 | .a i,x=>bD (Iw x) λx=>K.acc.contains i&&K.tab[i]? ==some x&& !(x==("__debug__":bj))&& !(x==("__classdict__":bj))
 | .n k,x=>bD (Iw x) λx=>qA[k]? ==some x&&K.glob x
 | .f op a b,x=>bD (Ik x) λq=>op==q.2.1&&cz K 0 a q.1&&cz K 0 b q.2.2
 | .neg a,x=>bD (Iu x) λy=>cz K 0 a y
 | .inv a,x=>bD (Iq x) λy=>cz K 0 a y
 | .E a b,x=>bD (Iz x) λq=>m==0&&cz K 0 a q.1&&cz K 0 b q.2
 | .cmp op a b,x=>bD (DN x) λq=>op==q.2.1&&cz K 0 a q.1&&cz K 0 b q.2.2&& !pP op q.2.2
 | .B op P a b c,x=>bD (DO x) λq=>m==1&&op==q.2.1&&P==q.2.2.1&&cz K 0 a q.1&&cz K 0 b q.2.2.2.1&&cz K 0 c q.2.2.2.2&& !pP P q.2.2.2.2
 | .C a,x=>bD (Iy x) λy=>m==1&&xI a&&cz K 1 a y
 | .band l,x=>bD (Ij x) λxs=>m==1&&l.all xI&&fV K 1 l xs
 | .bor l,x=>bD (Qu x) λxs=>m==1&&l.all xI&&fV K 1 l xs
 | .N t a b,x=>bD (Io x) λq=>m==0&&xI t&&cz K 1 t q.1&&cz K 0 a q.2.1&&cz K 0 b q.2.2
 | .list l,x=>bD (Qr x) λxs=>decide (l.length<=1000)&&fV K 0 l xs
 | .tuple l,x=>bD (Qv x) λxs=>decide (l.length<=1000)&&fV K 0 l xs
 | .sub a i,x=>bD (ID x) λq=>cz K 0 a q.1&&cz K 0 i q.2&&pZ q.2
 | .F a lo,x=>bD (IB x) λq=>cz K 0 a q.2.1&&cz K 0 lo q.2.2
 | .A a hi,x=>bD (IC x) λq=>cz K 0 a q.2.1&&cz K 0 hi q.2.2
 | .G a lo hi,x=>bD (IA x) λq=>cz K 0 a q.2.1&&cz K 0 lo q.2.2.1&&cz K 0 hi q.2.2.2
 | .len a,x=>bD (n7 x) λq=>ro K "len" q.1&&cz K 0 a q.2&&bJ q.2
 | .I l,x=>bD (Qs x) λq=>ro K "list" q.1&&ro K "range" q.2.1&&fV K 0 l q.2.2&& !l.isEmpty
 | .Cq a,x=>bD (n7 x) λq=>ro K "max" q.1&&cz K 0 a q.2&&bJ q.2
 | .U a,x=>bD (n7 x) λq=>ro K "min" q.1&&cz K 0 a q.2&&bJ q.2
 | .S a b,x=>bD (Il x) λq=>ro K "min" q.1&&cz K 0 a q.2.1&&cz K 0 b q.2.2&&bJ q.2.1&&bJ q.2.2
 | .D a,x=>bD (n7 x) λq=>ro K "sum" q.1&&cz K 0 a q.2&&bJ q.2
 | .sorted a,x=>bD (n7 x) λq=>ro K "sorted" q.1&&cz K 0 a q.2&&bJ q.2
 | .Ad a,x=>bD (n7 x) λq=>ro K "ord" q.1&&cz K 0 a q.2&&bJ q.2
 | .Q a,x=>bD (n7 x) λq=>ro K "chr" q.1&&cz K 0 a q.2&&bJ q.2
 | .divmod a b,x=>bD (Il x) λq=>ro K "divmod" q.1&&cz K 0 a q.2.1&&cz K 0 b q.2.2&&bJ q.2.1&&bJ q.2.2
 | .lower a,x=>bD (wN x) λq=>q.2.1==("lower":bj)&&cz K 0 a q.1&&fS q.1&&q.2.2
 | .upper a,x=>bD (wN x) λq=>q.2.1==("upper":bj)&&cz K 0 a q.1&&fS q.1&&q.2.2
 | .Z a y z,x=>bD (Qt x) λq=>q.2.1==("replace":bj)&&cz K 0 a q.1&&fS q.1&&q.2.2.2.2&&strOf y==q.2.2.1&&strOf z==q.2.2.2.1&&decide (1<=K.tk)
 | .join a,x=>bD (Qq x) λq=>q.2.1==("join":bj)&&cz K 0 a q.2.2.1&&bJ q.2.2.1&&q.2.2.2&&q.1==strOf []
 | .index a b,x=>bD (DP x) λq=>q.2.1==("index":bj)&&cz K 0 a q.1&&cz K 0 b q.2.2.1&&bJ q.2.2.1&&fS q.1&&q.2.2.2
 | .qk a,x=>bD (wN x) λq=>q.2.1==("bit_length":bj)&&cz K 0 a q.1&&fS q.1&&q.2.2
 | .J5 a,x=>bD (Ip x) λq=>cz K 0 a q.1&&q.2==("b1_set":bj)&&K.glob q.2
 | .xc a,x=>bD (Qp x) λq=>q.1==("b3_exceptions":bj)&&K.glob q.1&&q.2.1==("get":bj)&&cz K 0 a q.2.2.1&&bJ q.2.2.1&&q.2.2.2
 | .call f l,x=>bD (Im x) λq=>pX f==some q.1&&K.glob q.1&&fV K 0 l q.2&& !l.isEmpty&& !(f==8)
 | .comp e t it,x=>bD (uI x) λq=>cz (fP K q.2.2.2 t) 0 e q.1&&jV K q.2.2.2.names t q.2.1&&cz K 2 it q.2.2.1&&Ek it&&ku K q.2.2.2
 | .y e t it c,x=>bD (Ir x) λq=>cz (fP K q.2.2.2.2 t) 0 e q.1&&jV K q.2.2.2.2.names t q.2.1&&cz K 2 it q.2.2.1&&Ek it&&xI c&&cz (fP K q.2.2.2.2 t) 1 c q.2.2.2.1&&ku K q.2.2.2.2
 | .j l,x=>bD (Im x) λq=>m==2&&ro K "range" q.1&&fV K 0 l q.2&& !l.isEmpty
 | .K a,x=>bD (n7 x) λq=>m==2&&ro K "reversed" q.1&&cz K 0 a q.2&&bJ q.2
 | .M a,x=>bD (n7 x) λq=>m==2&&pX 8==some q.1&&K.glob q.1&&cz K 0 a q.2&&bJ q.2
noncomputable def fV(K:Ck)(m:Nat):List CE->List Expr->Bool
 | [],[]=>true
 |e::l,x::xs=>cz K m e x&&bJ x&&fV K m l xs
 |_,_=>false
end
noncomputable def fg(K:Ck)(t:kR)(x:Expr):Bool:=jV K K.names t x
noncomputable def iF(e:Expr):Bool:=e.ctorIdx==8||e.ctorIdx==9||e.ctorIdx==10
noncomputable def Df(K:Ck)(Z vs:List Expr):Bool:=bD (l2 Z) λt=>bD (l2 vs) λv=>bD (kU t.1) λx=>bD (kU t.2) λy=>
 K.names.lookup x.1==some .local&&K.names.lookup y.1==some .local&&x.2.line==y.2.line&& !(x.1==y.1)&& !([v.1,v.2].all (pQ 8))&& !([v.1,v.2].all (oj 8))
noncomputable def IF(K:Ck)(g v:Expr):Bool:=match kU g with
 |some _=>(zu v).isSome|| !iF v
 |none=>bD (xN g) λt=>match xN v with
  |some u=>Df K t.1 u.1
  |none=>(zq v).isSome
noncomputable def RW(K:Ck)(t:kR)(e:CE)(x:bC):Bool:=bD (lZ x) λq=>bD (l1 q.1) λg=>fg K t g&&cz K 0 e q.2.1&&IF K g q.2.1
noncomputable def Qz(K:Ck)(i j:Nat)(e:CE)(x:bC):Bool:=bD (lZ x) λq=>bD (l2 q.1) λg=>fg K (.bX i) g.1&&fg K (.bX j) g.2&&cz K 0 e q.2.1&& !iF q.2.1
noncomputable def Vj(K:Ck)(i:Nat)(e:CE)(x:bC):Bool:=bD (lZ x) λq=>bD (l1 q.1) λg=>fg K (.bX i) g&&cz K 0 e q.2.1&& !iF q.2.1
noncomputable def QA(K:Ck)(i:Nat)(B it:CE)(n:Nat)(x:bC):Bool:=bD (lZ x) λq=>bD (l1 q.1) λg=>bD (uI q.2.1) λc=>
 fg K (.bX i) g&&cz (fP K c.2.2.2 (.bX n)) 0 B c.1&&jV K c.2.2.2.names (.bX n) c.2.1&&cz K 2 it c.2.2.1&&Ek it&&ku K c.2.2.2
noncomputable def DU(K:Ck)(a ix e:CE)(x:bC):Bool:=bD (lZ x) λq=>bD (l1 q.1) λg=>bD (wa g) λc=>cz K 0 a c.1&&cz K 0 ix c.2.1&&pZ c.2.1&&cz K 0 e q.2.1&& !iF q.2.1
noncomputable def Vh(K:Ck)(i:Nat)(op:cV)(e:CE)(x:bC):Bool:=bD (Mt x) λq=>fg K (.bX i) q.1&&cz K 0 (.a i) q.1&&op==q.2.1&&cz K 0 e q.2.2.1
noncomputable def DT(K:Ck)(i:Nat)(ix:CE)(op:cV)(e:CE)(x:bC):Bool:=bD (Mt x) λq=>bD (wa q.1) λc=>cz K 0 (.a i) c.1&&cz K 0 ix c.2.1&&pZ c.2.1&&op==q.2.1&&cz K 0 e q.2.2.1
noncomputable def IW(K:Ck)(e:CE)(x:bC):Bool:=bD (BF x) λq=>bD q.1 λv=>cz K 0 e v
noncomputable def Vi(x:bC):Bool:=(Rq x).isSome
noncomputable def Vk(x:bC):Bool:=(Um x).isSome
noncomputable def Vg(K:Ck)(i:Nat)(e:CE)(x:bC):Bool:=bD (Mw x) λq=>bD (DP q.1) λc=>cz K 0 (.a i) c.1&&c.2.1==("append":bj)&&cz K 0 e c.2.2.1&&bJ c.2.2.1&&c.2.2.2
noncomputable def Vl(K:Ck)(i:Nat)(x:bC):Bool:=bD (Mw x) λq=>bD (wN q.1) λc=>cz K 0 (.a i) c.1&&c.2.1==("reverse":bj)&&c.2.2
noncomputable def RN(x:bC):Option (Expr×List bC×List bC):=(BE x).map λq=>(q.1,q.2.1,q.2.2.1)
noncomputable def DQ(x:bC):Option (Expr×List bC):=(My x).bind λq=>(l0 q.2.2.1).map λz=>(q.1,q.2.1)
noncomputable def Qo(x:bC):Option (Expr×Expr×List bC):=(Dw x).bind λq=>(l0 q.2.2.2.1).map λz=>(q.1,q.2.1,q.2.2.1)
noncomputable def yK(e:CE):Bool:=e.ix==45
mutual
noncomputable def ka(K:Ck):CS->bC->Bool
 | .cI t e,x=>RW K t e x
 | .Cf i j e,x=>Qz K i j e x
 | .new i e,x=>Vj K i e x
 | .GG i B it n,x=>QA K i B it n x
 | .J a ix e,x=>DU K a ix e x
 | .aug i op e,x=>Vh K i op e x
 | .oH i ix op e,x=>DT K i ix op e x
 | .ite c a b,x=>bD (RN x) λq=>xI c&&(cz K 1 c q.1&&(mW K a q.2.1&&mW K b q.2.2))
 | .P c b,x=>bD (DQ x) λq=>xI c&&(cz K 1 c q.1&&mW K b q.2)
 | .m t it b,x=>bD (Qo x) λq=>fg K t q.1&&(cz K 2 it q.2.1&&((Ek it||yK it)&&mW K b q.2.2))
 | .ret e,x=>IW K e x
 | .brk,x=>Vi x
 | .K5,x=>Vk x
 | .app i e,x=>Vg K i e x
 | .rev i,x=>Vl K i x
 | .v _,_=>false
noncomputable def mW(K:Ck):List CS->List bC->Bool
 | [],xs=>xs.isEmpty
 |c::l,xs=>bif vB c then mW K l xs else bD (un xs) λq=>ka K c q.1&&mW K l q.2
end
noncomputable def I0(f:FD)(t:List (List Nat))(d:iL)(tk:Nat):Bool:=
 mW ⟨d.scope.names,t.map strOf,aG f.z,tk⟩ f.body d.body&&t.length==f.z&&(d.params.args.map (·.arg)==(t.take f.p).map strOf)
noncomputable def VA:List (Option (FD×List (List Nat))):= [some (f0,t0),some (f1,t1),some (f2,t2),some (f3,t3),none,none,some (f6,t6),some (f7,t7),none,some (f9,t9),some (Yl,X0),some (QQ,Zj),some (ML,Zk),
 some (Ym,Zl),some (Yn,Zm),some (Yo,Zn),some (Yp,Zo),some (Yq,Zp),some (Yr,Zq),some (Sm,Zr),some (Ys,Zs),some (Yt,Zt),some (Xn,Zu),some (D9,UE)]
noncomputable def fdOf(f:Nat):Option (FD×List (List Nat)):=(VA[f]?).bind id
noncomputable def lM:List (bj×aw):= [("len",.builtin "len"),("max",.builtin "max"),("min",.builtin "min"),("sum",.builtin "sum"),("sorted",.builtin "sorted"),("ord",.builtin "ord"),("chr",.builtin "chr"),
 ("divmod",.builtin "divmod"),("range",.type "range"),("list",.type "list"),("reversed",.type "reversed"),("enumerate",.type "enumerate")]
structure bZ (env:fZ) (K:Ck) (n0:Nat):Prop where
 tk:K.tk<=n0
 kind:env.scope.kind=.function
 names:env.scope.names=K.names
 glob:env.globals=d8
 bi:env.builtins=ma
 co:env.scope.isCoroutine=false
 cB:∀x,(env.kindOf x=some .cell\/env.kindOf x=some .free)->∃c,env.cells.lookup x=some c
 R:K.tab.Nodup
set_option genInjectivity false in
structure fE (h₀:bk) (cfg:dC) where
 prog:fA
 w:cW
 mg:bj->Option aw
 mb:bj->Option aw
 g:h₀.Ns d8 mg
 b:h₀.Ns ma mb
 nolimit:h₀.NoLimit
 bi:∀p∈lM,mg p.1=none/\mb p.1=some p.2
 gi:∀(i:Nat) (n:Int),cfg.Y[i]? =some n->∃x t,qA[i]? =some x/\mg x=some (.int n t)
 b1:∃a,mg "b1_set"=some (.ref a)/\∀(A:cP) (s:ao) (i:Int) (t:nZ) (Q:aw->ao->Prop) (E:aw->ao->Prop),bO h₀ s.heap->(∀tk,Q (.bool (cfg.b1.contains i)) {s with toks:=tk})->
  aM (aL prog w) A (eM .In (.int i t) (.ref a)) Q E s
 b3:∃a,mg "b3_exceptions"=some (.ref a)/\∀(A:cP) (s:ao) (env:fZ) (p ap pos:eO) (y:Expr) (Q:aw->ao->Prop) (E:aw->ao->Prop),(ap.endLine==pos.line)=true->bJ y=true->
  bO h₀ s.heap->aM (aL prog w) A (fe (.Name "b3_exceptions" p) env) (λv s'=>v=.ref a/\s'=s) E s->
  aM (aL prog w) A (fe y env) (λv s'=>bO h₀ s'.heap/\∃i t,v=.int i t/\∀t' tk,Q (match cfg.b3 i with|some x=>.str (strOf x) t'|none=>.none) {s' with toks:=tk}) E s->
  aM (aL prog w) A (fe (.Call (.Attribute (.Name "b3_exceptions" p) "get" ap) [y] [] pos) env) Q E s
section
variable{h₀:bk}{cfg:dC}(C:fE h₀ cfg)(k:Nat)
def Qm(O:Nat->List AV->Option AV):Prop:=∀f args av,f≠8->O f args=some av->∃g a o fd,pX f=some g/\C.mg g=some (.ref a)/\h₀.get? a=some o/\o.data=.func fd/\
 ∀(A:cP) (s:ao) (W:az->Prop) (ρ:List az) (vs:List aw) (E:aw->ao->Prop),i7 k A->bO h₀ s.heap->j6 W s.heap->ft W ρ s.heap vs args->dU args=true->
  aM (aL C.prog C.w) A (call (.ref a) vs) (e9 W ρ s av) E s
def wj(W:az->Prop)(ρ:List az)(n0:Nat)(s:ao)(av:AV):aw->ao->Prop:=λv s'=>n0<=s'.toks/\e9 W ρ s av v s'
def bU(e:CE):Prop:=∀(K:Ck) (env:fZ) (x:Expr) (loc:Loc) (av:AV) (W:az->Prop) (ρ:List az) (n0:Nat) (st:St) (A:cP) (s:ao) (E:aw->ao->Prop),
 bZ env K n0->i7 k A->EI h₀ K.tab K.acc env W ρ n0 loc st s->ev cfg st e loc=some av->cz K 0 e x=true->aM (aL C.prog C.w) A (fe x env) (wj W ρ n0 s av) E s
def iz(e:CE):Prop:=∀(K:Ck) (env:fZ) (x:Expr) (loc:Loc) (av:AV) (r:Bool) (W:az->Prop) (ρ:List az) (n0:Nat) (st:St) (A:cP) (s:ao) (E:aw->ao->Prop),
 bZ env K n0->i7 k A->EI h₀ K.tab K.acc env W ρ n0 loc st s->ev cfg st e loc=some av->cU st av=some r->xI e=true->cz K 1 e x=true->
 aM (aL C.prog C.w) A (mT x env (fe x env)) (λb s'=>b=r/\n0<=s'.toks/\gK s s') E s
end
section
variable{h₀:bk}{cfg:dC}{C:fE h₀ cfg}{k:Nat}
variable{prog:fA}{w:cW}{A:cP}{E:aw->ao->Prop}{s:ao}{W:az->Prop}{ρ:List az}{st:St}{n0:Nat}{av:AV}
theorem e9.qa{t:jA aw}(Q:n0<=s.toks)(h:aM (aL prog w) A t (e9 W ρ s av) E s):aM (aL prog w) A t (wj W ρ n0 s av) E s:=
 bY Q (aA h (λv s' r=>λS=>⟨S,r⟩) λz z e z=>e)
theorem wj.ext{N:ao}(e:gK s N):∀v s',wj W ρ n0 N av v s'->wj W ρ n0 s av v s':=λv s' h=>⟨h.1,e.trans h.2.1,h.2.2⟩
theorem e9.ext{N:ao}(e:gK s N):∀v s',e9 W ρ N av v s'->e9 W ρ s av v s':=λv s' h=>⟨e.trans h.1,h.2⟩
theorem EI.step{tab:List bj}{acc:List Nat}{env:fZ}{loc:Loc}{v:aw}{s':ao}(I:EI h₀ tab acc env W ρ n0 loc st s)(p:wj W ρ n0 s av v s'):EI h₀ tab acc env W ρ n0 loc st s':=I.ext p.2.1 p.1
theorem cu{t:jA aw}{Q:aw->ao->Prop}(h:aM (aL prog w) A t (wj W ρ n0 s av) E s)(D:∀v s',wj W ρ n0 s av v s'->Q v s'):aM (aL prog w) A t Q E s:=
 aA h D λz z e=>e
theorem EW{op:cV}{a b:CE}(L:bU C k a)(O:bU C k b):bU C k (.f op a b):=by intro K env x loc av W ρ n0 st A s E hE hA I M V;refine Ef V λl G r pos o1=>?_;subst o1;have V:(op==G&&cz K 0 a l&&cz K 0 b r)=true:=V;simp only[au,beq_iff_eq]at V;refine aN V λF m=>?_;clear V;refine aN F λH P=>cA H<|dn M λp J M=>dn M λq U Z=>BL (cu (L _ _ _ _ _ _ _ _ _ _ _ _ hE hA I J P) λv N D=>cu (O _ _ _ _ _ _ _ _ _ _ _ _ hE hA (I.step D) U m) λu T B=>?_);exact aA (e9.qa B.1 (CY (I.step D|>.step B).live (I.step D|>.step B).store (D.2.2.keep B.2.1.keep) B.2.2 Z)) (λv s' h=>wj.ext (D.2.1.trans B.2.1) v s' h) λz z e=>e
theorem vI{env:fZ}{K:Ck}{x:bj}{pos:eO}{v:aw}{Q:aw->ao->Prop}(hE:bZ env K n0)(h:iq env s.heap x v)(u:(x==("__debug__":bj))=false)(D:Q v s)(T:(x==("__classdict__":bj))=false):
 aM (aL prog w) A (fe (.Name x pos) env) Q E s:=by
 rcases h with⟨J,m,U,Z⟩|⟨J|J,c,U,Z⟩
 ·exact UW (RI hE.kind J U Z D) u
 ·exact UW (Ut hE.kind J U Z D) u
 ·exact UW (Uu hE.kind J U Z D T) u
theorem bZ.QU{env:fZ}{K:Ck}{x:bj}(hE:bZ env K n0)(h:K.glob x=true):env.kindOf x=some .globalImplicit/\(x==("__debug__":bj))=false:=by delta Ck.glob at h;rw[au,beq_iff_eq,fv]at h;refine⟨?_,h.2⟩;delta iM;exact ab hE.names<|h.1
theorem lF{env:fZ}{K:Ck}{x:bj}{pos:eO}{v:aw}{Q:aw->ao->Prop}(hE:bZ env K n0)(F:K.glob x=true)(O:bO h₀ s.heap)(B:C.mg x=some v)(D:Q v s):
 aM (aL prog w) A (fe (.Name x pos) env) Q E s:=aN (hE.QU F) λJ U=>E9 hE.kind J (Calls.loadGlobal_global (ab hE.glob<|O.ns C.g) B D) U
theorem lu{env:fZ}{K:Ck}{nm x:bj}{pos:eO}{v:aw}{Q:aw->ao->Prop}(hE:bZ env K n0)(F:ro K nm x=true)(T:(nm,v)∈lM)(O:bO h₀ s.heap)(D:Q v s):
 aM (aL C.prog C.w) A (fe (.Name x pos) env) Q E s:=by
 delta ro at F;rw[au,beq_iff_eq]at F;refine ew λY=>?_;obtain⟨rfl,F⟩:=F;obtain⟨J,U⟩:=hE.QU F;obtain⟨f,j⟩:=C.bi _ T;refine Y ?_;clear Y;exact E9 hE.kind J (Calls.loadGlobal_builtin (ab hE.glob<|O.ns C.g) f (ab hE.bi<|O.ns C.b) j D) U
theorem Mj:bU C k .q:=by intro K env x loc av W ρ n0 st A s E hE hA I M V;refine Gi V λZ pos u=>ab u ?_;injection M with S;subst S;exact wpAny_Constant_none ⟨I.tok,.refl _,.none⟩
theorem vY{b:Bool}:bU C k (.u b):=by intro K env x loc av W ρ n0 st A s E hE hA I M V;refine sD V λB Z pos Q=>?_;subst Q;have V:(b==B)=true:=V;rw[beq_iff_eq]at V;refine cA V ?_;injection M with S;subst S;exact wpAny_Constant_bool ⟨I.tok,.refl _,.bool _⟩
theorem EX{b:Int}:bU C k (.d b):=by intro K env x loc av W ρ n0 st A s E hE hA I M V;refine vy V λB Z pos c=>?_;subst c;have V:(b==B)=true:=V;rw[beq_iff_eq]at V;refine cA V ?_;injection M with S;subst S;exact UU ⟨j4 I.tok,.tok _ _,.int _ _⟩
theorem ur{b:List Nat}:bU C k (.l b):=by intro K env x loc av W ρ n0 st A s E hE hA I M V;refine Ka V λB Z pos F=>?_;subst F;have V:(strOf b==B)=true:=V;rw[beq_iff_eq]at V;refine cA V ?_;injection M with S;subst S;exact oo ⟨j4 I.tok,.tok _ _,.str _ _⟩
theorem JE{C:dC}{st:St}{loc:Loc}{i:Nat}{a:AV}(h:ev C st (.a i) loc=some a):loc[i]? =some a/\a≠.c:=by
 simp only[(id fD)]at h;generalize loc[i]? =o at h⊢;rcases o with _|b
 ·injection h
 ·cases b<;>first|(injection h;done)|exact⟨h,λe=>by subst e;injection h with h;injection h⟩
theorem kz{i:Nat}:bU C k (.a i):=by intro K env x loc av W ρ n0 st A s E hE hA I M V;refine ew λY=>qB V λx pos S=>?_;subst S;have V:(K.acc.contains i&&K.tab[i]? ==some x&& !(x==("__debug__":bj))&& !(x==("__classdict__":bj)))=true:=V;simp only[au,beq_iff_eq,fv,pL]at V;refine aN V λR h=>aN R λH c=>aN H λP m=>Y ?_;clear Y;refine aN (JE M) λL N=>ew λY=>aC (I.vars i P x m av L N) λv J U=>Y ?_;clear Y;exact vI hE J c ⟨I.tok,.refl _,U⟩ h
theorem Mf{i:Nat}:bU C k (.n i):=by intro K env x loc av W ρ n0 st A s E hE hA I M V;refine qB V λx pos r=>?_;subst r;have V:(qA[i]? ==some x&&K.glob x)=true:=V;rw[au,beq_iff_eq]at V;simp only[(id fD),dg]at M;refine ew λY=>aC M λn J L=>?_;clear M;subst L;refine eb (C.gi i n J) λy t f j=>?_;rw[V.1]at f;injection f with S;subst S;refine Y ?_;clear Y;exact lF hE V.2 I.base j ⟨I.tok,.refl _,.int _ _⟩
theorem mM{o:Option AV}{i:Int}(h:o.bind eE=some i):o=some (.int i):=dn h λa J U=>ab J (ab (iE U) rfl)
theorem zd{o:Option AV}{i:List Nat}(h:o.bind jH=some i):o=some (.str i):=dn h λa J U=>ab J (ab (uM U) rfl)
theorem Kz{o:Option AV}{i:List AV}(h:o.bind tp=some i):o=some (.lst i):=dn h λa J U=>ab J (ab (AR U) rfl)
theorem PO{a:CE}(L:bU C k a):bU C k (.neg a):=by intro K env x loc av W ρ n0 st A s E hE hA I M V;refine Ol V λy pos e=>?_;rw[e]at V⊢;refine bW M λi J e=>cA e<|ZE (cu (L _ _ _ _ _ _ _ _ _ _ _ _ hE hA I (mM J) V) λv N D=>?_);exact D.2.2.dK λt e=>ab e<|aA (e9.qa (W:=W) (ρ:=ρ) (av:=.int (-i)) D.1 (PyProof.Rows.neg_int .int)) (λv s' h=>wj.ext D.2.1 v s' h) λz z e=>e
theorem PM{a:CE}(L:bU C k a):bU C k (.inv a):=by intro K env x loc av W ρ n0 st A s E hE hA I M V;refine Oi V λy pos e=>?_;rw[e]at V⊢;refine bW M λi J e=>cA e<|ZE (cu (L _ _ _ _ _ _ _ _ _ _ _ _ hE hA I (mM J) V) λv N D=>?_);exact D.2.2.dK λt e=>ab e<|aA (e9.qa (W:=W) (ρ:=ρ) (av:=.int (-i-1)) D.1 (PyProof.Rows.invert_int .int)) (λv s' h=>wj.ext D.2.1 v s' h) λz z e=>e
theorem PQ{a b:CE}(L:bU C k a)(O:bU C k b):bU C k (.E a b):=by
 intro K env x loc av W ρ n0 st A s E hE hA I M V;refine Oq V λx y pos F=>?_;subst F;have V:(true&&cz K 0 a x&&cz K 0 b y)=true:=V;refine dn M λp J M=>dn M λt U Z=>?_;clear M;refine wpAny_Or2 (cu (L _ _ _ _ _ _ _ _ _ _ _ _ hE hA I J (ba (ba V).1).2) λv N D=>A7 D.2.2 U λT i R=>?_);clear U;rcases t with _|_
 ·simp only[bx,if_false]at Z⊢;exact aA (O _ _ _ _ _ _ _ _ _ _ _ _ hE hA ((I.step D).ext i (aP D.1 R)) Z (ba V).2) (λv s' h=>wj.ext (D.2.1.trans i) v s' h) λz z e=>e
 ·simp only[if_true,aJ,bL]at Z⊢;exact cA Z<|⟨aP D.1 R,D.2.1.trans i,D.2.2.keep i.keep⟩
theorem PK{op:kF}{a b:CE}(L:bU C k a)(O:bU C k b):bU C k (.cmp op a b):=by intro K env x loc av W ρ n0 st A s E hE hA I M V;refine AI V λl G r pos n=>?_;subst n;have V:(op==G&&cz K 0 a l&&cz K 0 b r&& !pP op r)=true:=V;simp only[au,beq_iff_eq,fv]at V;refine aN V λS c=>?_;clear V;refine aN S λH m=>aN H λg P=>cA g<|dn M λp J M=>dn M λq U M=>dn M λt Z M=>cA (ay M)<|YW (cu (L _ _ _ _ _ _ _ _ _ _ _ _ hE hA I J P) λv N D=>cu (O _ _ _ _ _ _ _ _ _ _ _ _ hE hA (I.step D) U m) λu T B=>?_) c;exact aA (e9.qa B.1 (yV (by have:=hA.units;lia) (I.step D|>.step B).store (D.2.2.keep B.2.1.keep) B.2.2 Z)) (λv s' h=>wj.ext (D.2.1.trans B.2.1) v s' h) λz z e=>e
theorem PL{t a b:CE}(S:iz C k t)(L:bU C k a)(O:bU C k b):bU C k (.N t a b):=by
 intro K env x loc av W ρ n0 st A s E hE hA I M V;refine Og V λt' B G pos H=>?_;subst H;have V:(true&&xI t&&cz K 1 t t'&&cz K 0 a B&&cz K 0 b G)=true:=V;refine dn M λp J M=>dn M λr U Z=>wpAny_IfExp (aA (S _ _ _ _ _ _ _ _ _ _ _ _ _ hE hA I J U (ba (ba (ba (ba V).1).1).1).2 (ba (ba (ba V).1).1).2) (λb N D=>?_) λz z e=>e);clear U;refine eY D λY F y=>?_;clear D;subst Y;rcases b with _|_
 ·simp only[bx,if_false]at Z⊢;exact aA (O _ _ _ _ _ _ _ _ _ _ _ _ hE hA (I.ext y F) Z (ba V).2) (λv s' h=>wj.ext y v s' h) λz z e=>e
 ·simp only[if_true]at Z⊢;exact aA (L _ _ _ _ _ _ _ _ _ _ _ _ hE hA (I.ext y F) Z (ba (ba V).1).2) (λv s' h=>wj.ext y v s' h) λz z e=>e
theorem cY{e:Expr}{xs:List Expr}{env:fZ}(h:bJ e=true):xY (e::xs) env=(false,fe e env)::xY xs env:=by rcases e with⟨⟩<;>first|rfl|exact(aB h).elim
theorem gW:∀(l:List CE) (_:∀e∈l,bU C k e) (K:Ck) (env:fZ) (xs:List Expr) (loc:Loc) (avs:List AV) (W:az->Prop) (ρ:List az) (n0:Nat) (st:St) (A:cP) (s:ao) (pos:eO)
 (Q:List aw->ao->Prop) (E:aw->ao->Prop),bZ env K n0->i7 k A->EI h₀ K.tab K.acc env W ρ n0 loc st s->sq cfg st l loc=some avs->fV K 0 l xs=true->
 (∀vs s',n0<=s'.toks->gK s s'->ft W ρ s'.heap vs avs->Q vs s')->aM (aL C.prog C.w) A (spliced (YS pos (xY xs env))) Q E s:=by
 intro G
 induction G with
 |nil=>
  intro z K env H loc avs W ρ n0 st A s pos Q E hE hA I M V R;rcases H with _|⟨L,a⟩
  ·injection M with S;subst S;exact Yg (R _ _ I.tok (.refl _) .nil)
  ·exact(aB V).elim
 |cons e l P=>
  intro X K env H loc avs W ρ n0 st A s pos Q E hE hA I M V R;rcases H with _|⟨x,xs⟩
  ·exact(aB V).elim
  ·refine ew λY=>dn M λp J O=>dn O λq U O=>?_;injection O with S;subst S;refine Y ?_;clear Y;refine XB (cu (X e aH _ _ _ _ _ _ _ _ _ _ _ _ hE hA I J (ba (ba V).1).1) λv N D=>?_) (cY (ba (ba V).1).2);exact P (λe F=>X e (ax _ F)) K env xs loc q W ρ n0 st A N pos _ E hE hA (I.step D) U (ba V).2 λvs s' t' B d=>R _ _ t' (D.2.1.trans B) (.cons (D.2.2.keep B.keep) d)
theorem nJ:∀{l:List CE} {loc:Loc} {avs:List AV},sq cfg st l loc=some avs->avs.length=l.length:=by
 intro l
 induction l with
 |nil=>intro z z h;injection h with S;subst S;rfl
 |cons e l R=>
  intro z z h;refine dn h λp J O=>dn O λq U O=>?_;injection O with S;subst S;simp[R U]
theorem Mi{l:List CE}(X:∀e∈l,bU C k e):bU C k (.list l):=by
 intro K env x loc av W ρ n0 st A s E hE hA I M V;refine yH V λxs pos D=>?_;subst D;have V:(decide (l.length<=1000)&&fV K 0 l xs)=true:=V;simp only[au,decide_eq_true_eq]at V;simp only[(id fD),dg]at M;refine aC M λavs J Z=>?_;clear M;subst Z;refine wpAny_List (gW l X _ _ _ _ _ _ _ _ _ _ _ _ _ _ hE hA I J V.2 λvs N F y d=>⟨?_,?_⟩)
 ·exact ab d.length<|ab (nJ J)<|aP V.1 (by decide)
 ·have:=ru (I.live.keep y.keep) d vs rfl N.toks;exact wj.ext y _ _ ⟨F,this⟩
theorem Hv{l:List CE}(X:∀e∈l,bU C k e):bU C k (.tuple l):=by
 intro K env x loc av W ρ n0 st A s E hE hA I M V;refine Kf V λxs Z pos D=>?_;rw[D]at V⊢;have V:(decide (l.length<=1000)&&fV K 0 l xs)=true:=V;simp only[au,decide_eq_true_eq]at V;simp only[(id fD),dg]at M;refine aC M λavs J B=>?_;clear M;subst B;refine wpAny_Tuple (gW l X _ _ _ _ _ _ _ _ _ _ _ _ _ _ hE hA I J V.2 λvs N F y d=>⟨?_,?_⟩)
 ·exact ab d.length<|ab (nJ J)<|aP V.1 (by decide)
 ·have:=tq (I.live.keep y.keep) d vs rfl N.toks;exact wj.ext y _ _ ⟨F,this⟩
theorem PS{a b:CE}(L:bU C k a)(O:bU C k b):bU C k (.sub a b):=by intro K env x loc av W ρ n0 st A s E hE hA I M V;refine Ej V λl r pos o1=>?_;subst o1;have V:(cz K 0 a l&&cz K 0 b r&&pZ r)=true:=V;refine dn M λp J M=>dn M λq U Z=>Subscript_ (cu (L _ _ _ _ _ _ _ _ _ _ _ _ hE hA I J (ba (ba V).1).1) λv N D=>cu (O _ _ _ _ _ _ _ _ _ _ _ _ hE hA (I.step D) U (ba (ba V).1).2) λu T B=>?_);exact aA (e9.qa B.1 (KR (ba V).2 (I.step D|>.step B).store (D.2.2.keep B.2.1.keep) B.2.2 Z)) (λv s' h=>wj.ext (D.2.1.trans B.2.1) v s' h) λz z e=>e
set_option tactic.hygienic true in
theorem uS{n d q:Nat}{a:AV}{v:aw}{h:bk}(x:VR W ρ h v a)(V:kA n d a=some q):∃p:Option (Int×nZ),v=Xy p/\vM a=some (p.map (·.1)):=by
 rcases x with⟨⟩<;>first|(injection V;done)|skip
 case none=>exact⟨none,rfl,rfl⟩
 case int i t=>exact⟨some (i,t),rfl,rfl⟩
theorem LA{a lo hi r:AV}(h:vP a lo hi=some r):∃z,a=.str z:=by cases a<;>first|exact⟨_,rfl⟩|injection h
set_option tactic.hygienic true in
theorem sM{v D K:aw}{a lo hi r:AV}(x:VR W ρ s.heap v a)(L:VR W ρ s.heap D lo)(M:VR W ρ s.heap K hi)(h:vP a lo hi=some r){I:Prop}(N:∀y t l u,v=.str y t->D=Xy l->K=Xy u->(zM y t l u none).post (e9 W ρ s r) {s with heap:=s.heap.push {cls:=.type "slice",data:=.fields #[D,K,.none]}}->I):I:=by
 refine aI (LA h) λz O=>?_;subst O;rw[T3]at h
 ·skip
  simp only[aj,bF]at h;obtain⟨p,J,q,U,Z⟩:=h;split at Z<;>(first|(injection Z;done)|(injection Z with S;subst S));rename_i V;rcases x with⟨⟩;rename_i t;refine aC (uS L J) λG e1 e2=>aC (uS M U) λP c Y=>G6 z t e2 Y J U V λf j=>N _ t G P rfl e1 c ?_;delta zM;have B:tZ (strOf z) G P none=(aG (q-p)).map (λk=>p+k):=by delta tZ;exact ab (cF ..)<|f
  have o:(⟨((tZ (strOf z) G P none).filterMap ((strOf z).cps[·]?)).toArray⟩:bj)=strOf ((z.take q).drop p):=by refine ab B ?_;show bj.mk _=bj.mk _;congr 1;refine cA (GR ..) ?_;simp[strOf]
  refine post_val_or_str ⟨?_,λt' k=>?_⟩
  ·split
   ·exact ab (cF ..)<|mV V
   ·refine ab o (ab (cF ..) ?_);have:((z.take q).drop p).length<=z.length:=by simp;lia
    exact mV (aP this V)
  ·have F:(if((Option.map (λx:Int×nZ=>x.1) none).getD 1==(1:Int)&&(tZ (strOf z) G P none).length==(strOf z).length)=true then strOf z else⟨((tZ (strOf z) G P none).filterMap ((strOf z).cps[·]?)).toArray⟩)=strOf ((z.take q).drop p):=by
    split
    ·rename_i hh;rw[B,cF]at hh;simp only[Qg,Option.getD_none,beq_self_eq_true,kW,aY,eH,beq_iff_eq]at hh;have Q:z.length=0\/(p=0/\q=z.length):=by lia
     refine ak Q (λQ=>?_) λH=>aN H λg T=>?_;rotate_left;subst g;subst T;rotate_right
     ·refine ab (dD Q) ?_;simp
     ·simp
    ·exact o
   exact ab F<|⟨.of (bO.push _ _),.str _ _⟩
set_option tactic.hygienic true in
theorem sH{Q R:aw->ao->Prop}(N:∀v s,Q v s->R v s){y:bj}{t:nZ}{l u st:Option (Int×nZ)}{s:ao}(h:(zM y t l u st).post Q s):(zM y t l u st).post R s:=by
 unfold zM at h⊢;split at h
 ·rename_i V;exact ab (if_pos V)<|N _ _ h
 ·rename_i V;exact ab (if_neg V)<|⟨h.1,N _ _ h.2⟩
theorem EY{a lo:CE}(L:bU C k a)(X:bU C k lo):bU C k (.F a lo):=by intro K env x loc av W ρ n0 st A s E hE hA I M V;refine e9.qa I.tok<|Eh V λnm G l p pos r=>?_;subst r;have V:(cz K 0 a (.Name nm G)&&cz K 0 lo l)=true:=V;simp only[au]at V;simp only[(id fD),aj,bF]at M;obtain⟨R,J,H,U,Z⟩:=M;refine oD (cu (L _ _ _ _ _ _ _ _ _ _ _ _ hE hA I J V.1) λv N D=>cu (X _ _ _ _ _ _ _ _ _ _ _ _ hE hA (I.step D) U V.2) λu T B=>UR ?_);exact sM (W:=W) (ρ:=ρ) (D.2.2.keep B.2.1.keep) B.2.2 .none Z λy t l u e1 e2 c Y=>⟨y,t,l,u,e1,e2,c,sH (λv s' h=>e9.ext (D.2.1.trans B.2.1) v s' h) Y⟩
theorem EZ{a hi:CE}(L:bU C k a)(X:bU C k hi):bU C k (.A a hi):=by intro K env x loc av W ρ n0 st A s E hE hA I M V;refine e9.qa I.tok<|Ei V λnm G l p pos j=>?_;subst j;have V:(cz K 0 a (.Name nm G)&&cz K 0 hi l)=true:=V;simp only[au]at V;simp only[(id fD),aj,bF]at M;obtain⟨R,J,H,U,Z⟩:=M;refine oD (cu (L _ _ _ _ _ _ _ _ _ _ _ _ hE hA I J V.1) λv N D=>UR (cu (X _ _ _ _ _ _ _ _ _ _ _ _ hE hA (I.step D) U V.2) λu T B=>?_));exact sM (W:=W) (ρ:=ρ) (D.2.2.keep B.2.1.keep) .none B.2.2 Z λy t l u e1 e2 c Y=>⟨y,t,l,u,e1,e2,c,sH (λv s' h=>e9.ext (D.2.1.trans B.2.1) v s' h) Y⟩
theorem PR{a lo hi:CE}(L:bU C k a)(P:bU C k lo)(hh:bU C k hi):bU C k (.G a lo hi):=by
 intro K env x loc av W ρ n0 st A s E hE hA I M V;refine e9.qa I.tok<|Ov V λnm G l u p pos Q=>?_;subst Q;have V:(cz K 0 a (.Name nm G)&&cz K 0 lo l&&cz K 0 hi u)=true:=V;refine dn M λR J M=>dn M λH U M=>dn M λS Z d=>oD (cu (L _ _ _ _ _ _ _ _ _ _ _ _ hE hA I J (ba (ba V).1).1) λv N D=>(cu (P _ _ _ _ _ _ _ _ _ _ _ _ hE hA (I.step D) U (ba (ba V).1).2) λu T B=>
  (cu (hh _ _ _ _ _ _ _ _ _ _ _ _ hE hA ((I.step D).step B) Z (ba V).2) λO X F=>?_)))
 exact sM (W:=W) (ρ:=ρ) (D.2.2.keep (B.2.1.trans F.2.1).keep) (B.2.2.keep F.2.1.keep) F.2.2 d λy t l u e1 e2 c Y=>⟨y,t,l,u,e1,e2,c,sH (λv s' h=>e9.ext (D.2.1.trans (B.2.1.trans F.2.1)) v s' h) Y⟩
theorem Nr{K:Ck}{env:fZ}{nm f:bj}{id:String}{x:Expr}{p pos:eO}{Q:aw->ao->Prop}(hE:bZ env K n0)(P:ro K nm f=true)(T:(nm,HV id)∈lM)(O:bO h₀ s.heap)(F:bJ x=true)
 (h:aM (aL C.prog C.w) A (fe x env) (λv N=>aM (aL C.prog C.w) A (call (.builtin id) [v]) Q E N) E s):aM (aL C.prog C.w) A (fe (.Call (.Name f p) [x] [] pos) env) Q E s:=by
 refine dE (lu hE P T O ?_);exact ab (cY F)<|k9 rfl (dH (dP (aA h (λv N D=>e7 D) λz z e=>e)))
theorem DV{K:Ck}{env:fZ}{nm f:bj}{id:String}{x y:Expr}{p pos:eO}{Q:aw->ao->Prop}(hE:bZ env K n0)(P:ro K nm f=true)(B:(nm,HV id)∈lM)(O:bO h₀ s.heap)(F:bJ x=true)(G:bJ y=true)
 (h:aM (aL C.prog C.w) A (fe x env) (λv N=>aM (aL C.prog C.w) A (fe y env) (λu T=>aM (aL C.prog C.w) A (call (.builtin id) [v,u]) Q E T) E N) E s):
 aM (aL C.prog C.w) A (fe (.Call (.Name f p) [x,y] [] pos) env) Q E s:=by
 refine dE (lu hE P B O ?_);exact ab (cY F)<|ab (cY G)<|k9 rfl (dH (dP (aA h (λv N D=>dP (aA D (λu T Y=>e7 Y) λz z e=>e)) λz z e=>e)))
theorem QG:(∀a t b u,ub (.int a t) (.int b u)=(a==b))/\∀a t b u,ub (.str a t) (.str b u)=(a==b):=by refine⟨?_,?_⟩<;>intros<;>rfl
theorem qL{nm:bj}{id:String}{e a:CE}{G:St->AV->Option AV}(T:(nm,HV id)∈lM)(B:∀K x,cz K 0 e x=bD (n7 x) λq=>ro K nm q.1&&cz K 0 a q.2&&bJ q.2)(M:∀st loc,ev cfg st e loc=(ev cfg st a loc).bind (G st))(L:bU C k a)
 (op:∀(A:cP) (s:ao) (W:az->Prop) (ρ:List az) (st:St) (v:aw) (x av:AV) (E:aw->ao->Prop),A.handled=none->j6 W s.heap->SR W ρ s.heap st->VR W ρ s.heap v x->G st x=some av->aM (aL C.prog C.w) A (call (.builtin id) [v]) (e9 W ρ s av) E s):bU C k e:=by
 intro K env x loc av W ρ n0 st A s E hE hA I F V;rw[B]at V;rw[M]at F;refine e9.qa I.tok<|vw V λf p y pos e=>?_;rw[e]at V⊢;have V:(ro K nm f&&cz K 0 a y&&bJ y)=true:=V;exact dn F λu J U=>Nr (id:=id) hE (ba (ba V).1).1 T I.base (ba V).2 (cu (L _ _ _ _ _ _ _ _ _ _ _ _ hE hA I J (ba (ba V).1).2) λv N D=>
  aA (op _ _ _ _ _ _ _ _ _ hA.hh (I.step D).live (I.step D).store D.2.2 U) (λv s' h=>e9.ext D.2.1 v s' h) λz z e=>e)
theorem PN{a:CE}(L:bU C k a):bU C k (.len a):=
 qL (nm:="len") (id:="len") (G:=tl) (aW (i:=0) rfl) (λz z=>rfl) (λz z=>rfl) L λA s W ρ st v x av E J U Z d O=>Tw Z d O
theorem Ma{a:CE}(L:bU C k a):bU C k (.Cq a):=
 qL (nm:="max") (id:="max") (G:=λst x=>(jX st x).bind λl=>(dM l).bind λns=>(KD ns).bind λm=>some (.int m)) (aW (i:=1) rfl) (λz z=>rfl) (λz z=>rfl) L λA s W ρ st v x av E J U Z d O=>
  dn O λl f O=>dn O λns j O=>dn O λm t O=>ay O▸Tx J Z d f j t
theorem Mb{a:CE}(L:bU C k a):bU C k (.U a):=
 qL (nm:="min") (id:="min") (G:=λst x=>(jX st x).bind λl=>(dM l).bind λns=>(KE ns).bind λm=>some (.int m)) (aW (i:=2) rfl) (λz z=>rfl) (λz z=>rfl) L λA s W ρ st v x av E J U Z d O=>
  dn O λl f O=>dn O λns j O=>dn O λm t O=>ay O▸Tz J Z d f j t
theorem Me{a:CE}(L:bU C k a):bU C k (.D a):=
 qL (nm:="sum") (id:="sum") (G:=λst x=>(jX st x).bind λl=>(dM l).bind λns=>some (.int ns.sum)) (aW (i:=3) rfl) (λz z=>rfl) (λz z=>rfl) L λA s W ρ st v x av E J U Z d O=>
  dn O λl f O=>dn O λns j O=>ay O▸TA J Z d f j
theorem Dn{a:CE}(L:bU C k a):bU C k (.sorted a):=
 qL (nm:="sorted") (id:="sorted") (G:=λst x=>(jX st x).bind λl=>(dM l).bind λns=>if ns.length<64 then some (.lst ((sortI ns).map .int))else none) (aW (i:=4) rfl) (λz z=>rfl) (λz z=>rfl) L λA s W ρ st v x av E J U Z d O=>
  dn O λl f O=>dn O λns j O=>by
   split at O
   ·exact ay O▸GK U Z d f j ‹_›
   ·injection O
theorem Md{a:CE}(L:bU C k a):bU C k (.Ad a):=
 qL (nm:="ord") (id:="ord") (G:=λz x=>((jH x).bind l1).map λ(c:Nat)=>AV.int (c:Int)) (aW (i:=5) rfl) (λz z=>rfl) (λst loc=>by
  show(((ev cfg st a loc).bind jH).bind l1).map _=_;cases ev cfg st a loc<;>rfl) L λA s W ρ st v x av E J U Z d O=>by
   refine ew λY=>bW O λc T e=>aC (aZ T) λy V m=>?_;simp only[uM V,gL m]at d;refine aI d.gf λt B=>Y ?_;clear Y;exact ab B<|cA e<|P.ord_of_char (Q:=e9 W ρ s (.int c)) .int
set_option tactic.hygienic true in
theorem L9{a:CE}(L:bU C k a):bU C k (.Q a):=
 qL (nm:="chr") (id:="chr") (G:=λz x=>(eE x).bind λi=>if 0<=i/\i<=1114111 then some (.str [i.toNat])else none) (aW (i:=6) rfl) (λz z=>rfl) (λst loc=>by
  show(((ev cfg st a loc).bind eE).bind _)=_;cases ev cfg st a loc<;>rfl) L λA s W ρ st v x av E J U Z d O=>by
   refine ew λY=>aC (aZ O) λi V m=>?_;simp only[iE V]at d;refine d.dK λt B=>Y ?_;clear Y;refine ab B ?_;split at m
   ·rename_i hi;exact cA (ay m)<|chr_of_range (Q:=e9 W ρ s (.str [i.toNat])) hi.1 hi.2 (.str rfl)
   ·injection m
theorem Hq{a b:CE}(L:bU C k a)(O:bU C k b):bU C k (.S a b):=by intro K env x loc av W ρ n0 st A s E hE hA I M V;refine e9.qa I.tok<|J8 V λf p y z pos e=>?_;rw[e]at V⊢;have V:(ro K "min" f&&cz K 0 a y&&cz K 0 b z&&bJ y&&bJ z)=true:=V;have F:=ba (ba V).1;have c:=ba F.1;refine ew λY=>dn M λi J M=>bW M λj U e=>Y ?_;clear Y;refine cA e<|DV (id:="min") hE (ba c.1).1 (aW (i:=2) rfl) I.base F.2 (ba V).2 (cu (L _ _ _ _ _ _ _ _ _ _ _ _ hE hA I (mM J) (ba c.1).2) λv N D=>cu (O _ _ _ _ _ _ _ _ _ _ _ _ hE hA (I.step D) (mM U) c.2) λu T B=>?_);refine ew λY=>D.2.2.dK λt e=>B.2.2.dK λt' G=>Y ?_;clear Y;exact ab e<|ab G<|aA (OR hA.hh) (λv s' h=>e9.ext (D.2.1.trans B.2.1) v s' h) λZ Z e=>e
theorem Dl{a b:CE}(L:bU C k a)(O:bU C k b):bU C k (.divmod a b):=by
 intro K env x loc av W ρ n0 st A s E hE hA I M V;refine e9.qa I.tok<|J8 V λf p y z pos e=>?_;rw[e]at V⊢;have V:(ro K "divmod" f&&cz K 0 a y&&cz K 0 b z&&bJ y&&bJ z)=true:=V;have c:=ba (ba (ba V).1).1;refine dn M λi J M=>dn M λj U M=>?_;by_cases Q:j=0\/9000<=j.natAbs.log2
 ·rw[if_pos Q]at M;injection M
 ·rw[if_neg Q]at M;refine cA (ay M)<|DV (id:="divmod") hE (ba c.1).1 (aW (i:=7) rfl) I.base (ba (ba V).1).2 (ba V).2 (cu (L _ _ _ _ _ _ _ _ _ _ _ _ hE hA I (mM J) (ba c.1).2) λv N D=>cu (O _ _ _ _ _ _ _ _ _ _ _ _ hE hA (I.step D) (mM U) c.2) λu T B=>?_);refine ew λY=>D.2.2.dK λt e=>B.2.2.dK λt' F=>Y ?_;clear Y;refine ab e (ab F ?_);have X:=((I.step D).step B).live;refine PyProof.Rows.divmod_int (λe=>Q (.inl e)) ?_ (.inl (nA (MW λh=>Q (.inr (aP (by decide) h)))));exact e9.ext (D.2.1.trans B.2.1) _ _ (tq (ρ:=ρ) X (.cons (.int _ _) (.cons (.int _ _) .nil)) _ rfl _)
theorem rK:∀F:List (List Nat),xW (strOf []) (F.map strOf)=strOf F.flatten
 | []=>rfl
 | [x]=>by simp[xW]
 |x::y::r=>by
  have R:=rK (y::r);simp only[bI]at R⊢;rw[xW,R,ly,ly]
  ·simp
  ·intro h;injection h
theorem Gl(F:List (List Nat)):Txt.join (strOf []) (F.map strOf)=strOf F.flatten:=by delta Txt.join;exact ab (Qh ..) (ab (rK ..) rfl)
theorem F8:∀(F:List (List Nat)) (n:Nat),(F.map strOf).foldl (λa x=>a+x.length+(strOf []).length) n=n+F.flatten.length:=by
 intro G
 induction G with
 |nil=>
  intro n;rfl
 |cons x r R=>
  refineλn=>ab bI (ab List.foldl_cons (ab (R ..) (ab (cF ..) (ab (cF ..) ?_))));simp;exact zH n x.length (YN dp r).sum
theorem OA{F:List (List Nat)}(h:F.flatten.length<=cB):JoinOk (strOf []) (F.map strOf)=true:=by have h':F.flatten.length<=10000:=h;unfold JoinOk uw mJ;refine ab (List.foldl_toArray ..) (ab (F8 ..) ?_);refine ab (fv ..) ?_;rewrite[decide_eq_false_iff_not];lia
theorem ints_get{vs:List aw}{ns:List Int}(hi:Ru vs ns):∀j (J:j<vs.length) (U:j<ns.length),∃t,vs[j]=.int ns[j] t:=by
 induction hi with
 |nil=>exactλj J=>absurd J (jD _)
 |cons n t _ R=>
  intro j J U;rcases j with _|j
  ·exact⟨t,rfl⟩
  ·exact R j (by simpa using J) (by simpa using U)
theorem ne_of_lt_idxOf{k:Int}:∀{l:List Int} {j:Nat},j<l.idxOf k->(h:j<l.length)->¬l[j]=k:=by
 intro G
 induction G with
 |nil=>
  intro j z h;exact absurd h (jD _)
 |cons a l P=>
  intro j Q h;rw[List.idxOf_cons]at Q;rcases hb:a==k with _|_
  ·rw[hb]at Q;rcases j with _|j
   ·simpa using hb
   ·have Z:j<l.idxOf k:=by simpa using Q
    exact P Z (by simpa using h)
  ·rw[hb]at Q;exact absurd Q (jD _)
set_option tactic.hygienic true in
theorem iA{o:Expr}{n:bj}{env:fZ}(h:fS o=true):attributeBase o n env (fe o env)=fe o env:=by
 generalize fe o env=q;rcases o with⟨⟩<;>first|rfl|skip
 rename_i f a k p;rcases f with⟨⟩<;>first|rfl|skip
 rcases a with⟨⟩<;>first|rfl|skip
 rcases k with⟨⟩<;>first|rfl|skip
 exact(aB h).elim
theorem A4{z:List Nat}(h:z.length<=cB):uw (strOf z).length=false:=by have h':z.length<=10000:=h;refine ab (cF ..) ?_;unfold uw mJ;exact decide_eq_false (by lia)
theorem Hu{a:CE}(L:bU C k a):bU C k (.lower a):=by
 intro K env x loc av W ρ n0 st A s E hE hA I M V;refine e9.qa I.tok<|CM V λy n b p e=>?_;rw[e]at V⊢;have V:(n==("lower":bj)&&cz K 0 a y&&fS y&&b.endLine==p.line)=true:=V;have c:=ba V;refine dn M λz J M=>?_;by_cases X:(gE z).length<=cB
 ·rw[if_pos X]at M;refine cA (ay M)<|ab (eq_of_beq (ba (ba c.1).1).1)<|xP (iA (ba c.1).2) (c.2) (cu (L _ _ _ _ _ _ _ _ _ _ _ _ hE hA I (zd J) (ba (ba c.1).1).2) λv N D=>?_);refine aI D.2.2.gf λt e=>ab e ?_;have e:Txt.lower (strOf z)=strOf (gE z):=by rfl
  refine SB.lower ?_ ?_
  ·exact ab e<|A4 X
  ·exact ab e<|e9.ext D.2.1 _ _ (.str rfl)
 ·rw[if_neg X]at M;injection M
theorem Hw{a:CE}(L:bU C k a):bU C k (.upper a):=by
 intro K env x loc av W ρ n0 st A s E hE hA I M V;refine e9.qa I.tok<|CM V λy n b p e=>?_;rw[e]at V⊢;have V:(n==("upper":bj)&&cz K 0 a y&&fS y&&b.endLine==p.line)=true:=V;have c:=ba V;refine dn M λz J M=>?_;by_cases X:(qK z).length<=cB
 ·rw[if_pos X]at M;refine cA (ay M)<|ab (eq_of_beq (ba (ba c.1).1).1)<|xP (iA (ba c.1).2) (c.2) (cu (L _ _ _ _ _ _ _ _ _ _ _ _ hE hA I (zd J) (ba (ba c.1).1).2) λv N D=>?_);refine aI D.2.2.gf λt e=>ab e ?_;have e:Txt.upper (strOf z)=strOf (qK z):=by rfl
  refine SB.upper ?_ ?_
  ·exact ab e<|A4 X
  ·exact ab e<|e9.ext D.2.1 _ _ (.str rfl)
 ·rw[if_neg X]at M;injection M
theorem Dk{a:CE}(L:bU C k a):bU C k (.qk a):=by intro K env x loc av W ρ n0 st A s E hE hA I M V;refine e9.qa I.tok<|CM V λy n b p e=>?_;rw[e]at V⊢;have V:(n==("bit_length":bj)&&cz K 0 a y&&fS y&&b.endLine==p.line)=true:=V;have c:=ba V;refine bW M λz J e=>cA e<|ab (eq_of_beq (ba (ba c.1).1).1)<|xP (iA (ba c.1).2) (c.2) (cu (L _ _ _ _ _ _ _ _ _ _ _ _ hE hA I (mM J) (ba (ba c.1).1).2) λv N D=>?_);exact D.2.2.dK λt e=>ab e<|⟨"int","int.bit_length",F.plainAttrs_int,slot_int_bit_length,type_int_bit_length,UT _ _ _,(λZ e=>nomatch e),callWith_method0 (env:=env) (call_int_bit_length (e9.ext D.2.1 _ _ .int))⟩
theorem Mk{a:CE}{y z:List Nat}(L:bU C k a):bU C k (.Z a y z):=by
 intro K env x loc av W ρ n0 st A s E hE hA I M V;refine e9.qa I.tok<|ew λY=>?_;obtain⟨o,n,b,B,m,R,f,S,H,p,e⟩:=SS V;refine Y ?_;clear Y;rw[e]at V⊢;have V:(n==("replace":bj)&&cz K 0 a o&&fS o&&b.endLine==p.line&&strOf y==B&&strOf z==f&&decide (1<=K.tk))=true:=V;have h:=ba (ba (ba (ba V).1).1).1;refine dn M λq J M=>?_;by_cases X:q.length<=cB/\z.length<=10/\y≠z
 ·rw[if_pos X]at M;have G:q.length<=10000:=X.1;refine cA (ay M)<|ab (eq_of_beq (ba (ba h.1).1).1)<|cA (eq_of_beq (ba (ba (ba V).1).1).2)<|cA (eq_of_beq (ba (ba V).1).2)<|Call_method2 (iA (ba h.1).2) rfl (h.2) (cu (L _ _ _ _ _ _ _ _ _ _ _ _ hE hA I (zd J) (ba (ba h.1).1).2) λv N D=>?_);refine aI D.2.2.gf λt e=>ab e<|⟨"str","str.replace",F.plainAttrs_str,F.slot_str_replace,F.type_str_replace,typeIs_str _ _ _,(λZ e=>nomatch e),?_⟩;refine k9 rfl (dH (dP (oo (dP (oo (e7 ?_))))));refine SC.replaceW (oB (aP (of_decide_eq_true (ba V).2) (aP hE.tk D.1))) (oh _) (jb (og _)) (by refine bp (pH ..) ?_;simpa using X.2.2) (by refine ab (cF ..) ?_;lia) (by refine ab (cF ..) ?_;lia) λt' k=>?_;exact e9.ext D.2.1 _ _ (.str rfl)
 ·rw[if_neg X]at M;injection M
theorem Mh{a:CE}(L:bU C k a):bU C k (.join a):=by intro K env x loc av W ρ n0 st A s E hE hA I M V;refine e9.qa I.tok<|SP V λe o R n b y p o1=>?_;subst o1;have V:(n==("join":bj)&&cz K 0 a y&&bJ y&&b.endLine==p.line&&e==strOf [])=true:=V;simp only[au,beq_iff_eq]at V;refine aN V λr j=>?_;clear V;refine aN r λH f=>aN H λg m=>aN g λT P=>ab T<|ab j<|ew λY=>dn M λq J O=>dn O λl U O=>dn O λF Z h=>Y ?_;clear Y;clear M;refine m8 h λX S=>?_;simp only[<-S];refine xQ rfl (cY m) (beq_iff_eq.mpr f) (oo ?_);refine SB.join (cu (L _ _ _ _ _ _ _ _ _ _ _ _ hE hA (I.ext (.tok _ _) (j4 I.tok)) J P) λv N D=>?_);refine gA ((I.ext (.tok _ _) (j4 I.tok)).step D).store D.2.2 U λc vs u G d=>ab u<|aC (De d Z) λi Q B=>?_;subst Q;refine⟨c,i,rfl,G.isList,_,B,OA X,λt' t=>?_⟩;exact ab (Gl ..)<|e9.ext ((gK.tok s _).trans D.2.1) _ _ (.str rfl)
theorem CI{k:Int}:∀{l:List Int},k∈l->∃h:l.idxOf k<l.length,l[l.idxOf k]=k:=λh=>⟨List.idxOf_lt_length_iff.mpr h,HR _⟩
set_option tactic.hygienic true in
theorem Ht{a b:CE}(L:bU C k a)(hb:bU C k b):bU C k (.index a b):=by
 intro K env x loc av W ρ n0 st A s E hE hA I M V;refine e9.qa I.tok<|SQ V λo n ap y p o6=>?_;subst o6;have V:(n==("index":bj)&&cz K 0 a o&&cz K 0 b y&&bJ y&&fS o&&ap.endLine==p.line)=true:=V;simp only[au,beq_iff_eq]at V;refine aN V λo7 H=>?_;clear V;refine aN o7 λu1 h=>aN u1 λg c3=>aN g λu3 c2=>aN u3 λu4 c1=>ab u4<|dn M λi J M=>dn M λq U M=>dn M λl Z M=>dn M λns h4 O=>?_;replace J:=mM J;by_cases X:i∈ns/\ns.length<=cB
 ·rw[if_pos X]at O;refine cA (ay O)<|xQ (iA h) (cY c3) (by simpa using H) (cu (L _ _ _ _ _ _ _ _ _ _ _ _ hE hA I U c1) λv N D=>?_);refine gA (I.step D).store D.2.2 Z λc vs o8 R d=>ab o8<|aI R λm G=>?_;have hi:=ki d h4;refine⟨"list","list.index",F.plainAttrs_list,F.slot_list_index,F.type_list_index,⟨_,G,rfl⟩,(λa e=>by injection e with e_;subst e_;exact⟨_,G,rfl⟩),?_⟩;refine P.index_list (cu (hb _ _ _ _ _ _ _ _ _ _ _ _ hE hA (I.step D) J c2) λu T B=>?_);have r3:=B.2.2;rcases r3 with⟨⟩;rename_i tt;have S:ns.length<=10000:=X.2;refine aI (CI X.1) λQ hjj=>⟨vs.toArray,m,λz=>ub z (.int i tt),ns.idxOf i,by simpa[hi.length]using Q,B.2.1.keep.nt G (i8 rfl),λz hz=>?_,by lia,?_,λj f Y=>?_,?_⟩
  ·obtain⟨j,Q,rfl⟩:=Ff.mp (by simpa using hz:z∈vs);exact aI ((ints_get hi) j Q (et Q hi.length)) λt e=>ab e<|.int _ _ _ _
  ·refine aI ((ints_get hi) (ns.idxOf i) (et Q (id (dN hi.length))) Q) λt e=>?_;simp[e,(id QG),hjj]
  ·have r:j<vs.length:=by simpa using f
   refine aI ((ints_get hi) j r (BZ Y Q)) λt e=>?_;have:=ne_of_lt_idxOf Y (BZ Y Q);simpa[e,(id QG)]using this
  ·exact e9.ext (D.2.1.trans B.2.1) _ _ .int
 ·rw[if_neg X]at O;injection O
def sV(n0:Nat)(s:ao)(r:Bool):Bool->ao->Prop:=λb s'=>b=r/\n0<=s'.toks/\gK s s'
theorem rN{e:CE}{x:Expr}{env:fZ}{K:Ck}{loc:Loc}{r:Bool}(B:mT x env (fe x env)=(do let v<-fe x env;jF x.pos;ie [v] (US v)))(F:bU C k e)
 (hE:bZ env K n0)(hA:i7 k A)(I:EI h₀ K.tab K.acc env W ρ n0 loc st s)(M:ev cfg st e loc=some av)(S:cU st av=some r)(V:cz K 0 e x=true):
 aM (aL C.prog C.w) A (mT x env (fe x env)) (sV n0 s r) E s:=
 UZ (cu (F _ _ _ _ _ _ _ _ _ _ _ _ hE hA I M V) λv N D=>A7 D.2.2 S λT i R=>⟨rfl,aP D.1 R,D.2.1.trans i⟩) B
theorem vT{i:Nat}:iz C k (.a i):=by intro K env x loc av r W ρ n0 st A s E hE hA I M S z V;refine qB V λy p j=>?_;subst j;exact rN rfl kz hE hA I M S V
theorem LY{a lo:CE}(L:bU C k a)(X:bU C k lo):iz C k (.F a lo):=by intro K env x loc av r W ρ n0 st A s E hE hA I M S z V;refine Eh V λnm G l p pos u=>?_;subst u;exact rN rfl (EY L X) hE hA I M S V
theorem LZ{a lo:CE}(L:bU C k a)(X:bU C k lo):iz C k (.A a lo):=by intro K env x loc av r W ρ n0 st A s E hE hA I M S z V;refine Ei V λnm G l p pos Q=>?_;subst Q;exact rN rfl (EZ L X) hE hA I M S V
theorem Hi{f:Nat}{l:List CE}(F:bU C k (.call f l)):iz C k (.call f l):=by intro K env x loc av r W ρ n0 st A s E hE hA I M S z V;refine vz V λg p xs pos c=>?_;subst c;exact rN rfl F hE hA I M S V
theorem Bp{op:kF}{a b:CE}(L:bU C k a)(O:bU C k b):iz C k (.cmp op a b):=by intro K env x loc av t W ρ n0 st A s E hE hA I M S z V;refine ew λY=>dn M λp J M=>dn M λq U M=>dn M λt' Z d=>?_;rw[<-(ay d)]at S;refine AI V λl G r pos e=>Y ?_;clear Y;rw[e]at V⊢;have V:(op==G&&cz K 0 a l&&cz K 0 b r&& !pP op r)=true:=V;have m:=ba (ba V).1;refine cA (eq_of_beq (ba m.1).1)<|wpAny_isTrue_Compare1 (cu (L _ _ _ _ _ _ _ _ _ _ _ _ hE hA I J (ba m.1).2) λv N D=>cu (O _ _ _ _ _ _ _ _ _ _ _ _ hE hA (I.step D) U m.2) λu T B=>?_) (nB (ba V).2);exact cu (e9.qa B.1 (yV (by have:=hA.units;lia) (I.step D|>.step B).store (D.2.2.keep B.2.1.keep) B.2.2 Z)) λc X F=>ab F.2.2.mj<|pk ⟨ay S,F.1,D.2.1.trans (B.2.1.trans F.2.1)⟩
theorem LX{a:CE}(L:iz C k a):iz C k (.C a):=by intro K env x loc av t W ρ n0 st A s E hE hA I M B z V;refine ew λY=>Oo V λy pos F=>?_;subst F;have V:(true&&xI a&&cz K 1 a y)=true:=V;simp only[au]at V;refine dn M λp J O=>dn O λq U O=>?_;injection O with S;subst S;injection B with S;subst S;refine Y ?_;clear Y;exact wpAny_isTrue_Not (aA (L _ _ _ _ _ _ _ _ _ _ _ _ _ hE hA I J U V.1.2 V.2) (λb N D=>⟨ab D.1 rfl,D.2⟩) λz z e=>e)
theorem FA:∀(l:List CE) (z:∀e∈l,iz C k e) (K:Ck) (env:fZ) (xs:List Expr) (loc:Loc) (r:Bool) (W:az->Prop) (ρ:List az) (n0:Nat) (st:St) (A:cP) (s:ao) (E:aw->ao->Prop),
 bZ env K n0->i7 k A->EI h₀ K.tab K.acc env W ρ n0 loc st s->uZ cfg st l loc=some r->l.all xI=true->fV K 1 l xs=true->aM (aL C.prog C.w) A (allTrue .And xs env) (sV n0 s r) E s:=by
 intro G
 induction G with
 |nil=>
  intro z K env H loc r W ρ n0 st A s E hE hA I M S V;rcases H with _|⟨L,a⟩
  ·injection M with O;subst O;exact wpAny_allTrue_And_nil ⟨rfl,I.tok,.refl _⟩
  ·exact(aB V).elim
 |cons e l P=>
  intro X K env H loc r W ρ n0 st A s E hE hA I M S V;rcases H with _|⟨x,xs⟩
  ·exact(aB V).elim
  ·have V:(cz K 1 e x&&bJ x&&fV K 1 l xs)=true:=V;simp only[au,jx]at V S;simp only[(id yu),aj,bF]at M;refine ew λY=>?_;obtain⟨p,J,q,U,Z⟩:=M;refine Y ?_;clear Y;refine wpAny_allTrue_And_cons (aA (X e aH _ _ _ _ _ _ _ _ _ _ _ _ _ hE hA I J U S.1 V.1.1) (λb N D=>?_) λz z e=>e);clear U;refine eY D λR F y=>?_;clear D;subst R;rcases b with _|_
   ·simp only[bx,if_false,aJ,bL]at Z⊢;subst Z;exact⟨rfl,F,y⟩
   ·simp only[if_true]at Z⊢;exact aA (P (λe Q=>X e (ax _ Q)) K env xs loc r W ρ n0 st A N E hE hA (I.ext y F) Z S.2 V.2) (λb T B=>⟨B.1,B.2.1,y.trans B.2.2⟩) λz z e=>e
theorem KU:∀(l:List CE) (z:∀e∈l,iz C k e) (K:Ck) (env:fZ) (xs:List Expr) (loc:Loc) (r:Bool) (W:az->Prop) (ρ:List az) (n0:Nat) (st:St) (A:cP) (s:ao) (E:aw->ao->Prop),
 bZ env K n0->i7 k A->EI h₀ K.tab K.acc env W ρ n0 loc st s->Cv cfg st l loc=some r->l.all xI=true->fV K 1 l xs=true->aM (aL C.prog C.w) A (allTrue .Or xs env) (sV n0 s r) E s:=by
 intro G
 induction G with
 |nil=>
  intro z K env H loc r W ρ n0 st A s E hE hA I M S V;rcases H with _|⟨L,a⟩
  ·injection M with O;subst O;exact wpAny_allTrue_Or_nil ⟨rfl,I.tok,.refl _⟩
  ·exact(aB V).elim
 |cons e l P=>
  intro X K env H loc r W ρ n0 st A s E hE hA I M S V;rcases H with _|⟨x,xs⟩
  ·exact(aB V).elim
  ·have V:(cz K 1 e x&&bJ x&&fV K 1 l xs)=true:=V;simp only[au,jx]at V S;simp only[(id Ju),aj,bF]at M;refine ew λY=>?_;obtain⟨p,J,q,U,Z⟩:=M;refine Y ?_;clear Y;refine wpAny_allTrue_Or_cons (aA (X e aH _ _ _ _ _ _ _ _ _ _ _ _ _ hE hA I J U S.1 V.1.1) (λb N D=>?_) λz z e=>e);clear U;refine eY D λR F y=>?_;clear D;subst R;rcases b with _|_
   ·simp only[bx,if_false]at Z⊢;exact aA (P (λe Q=>X e (ax _ Q)) K env xs loc r W ρ n0 st A N E hE hA (I.ext y F) Z S.2 V.2) (λb T B=>⟨B.1,B.2.1,y.trans B.2.2⟩) λz z e=>e
   ·simp only[if_true,aJ,bL]at Z⊢;subst Z;exact⟨rfl,F,y⟩
theorem LW{l:List CE}(X:∀e∈l,iz C k e):iz C k (.band l):=by intro K env x loc av t W ρ n0 st A s E hE hA I M B z V;refine Oa V λxs pos r=>?_;subst r;have V:(true&&l.all xI&&fV K 1 l xs)=true:=V;simp only[au]at V;simp only[(id fD),dg]at M;refine ew λY=>aC M λb J L=>?_;clear M;subst L;injection B with S;subst S;refine Y ?_;clear Y;exact Us (FA l X K env xs loc _ W ρ n0 st A s E hE hA I J V.1.2 V.2)
theorem PE{l:List CE}(X:∀e∈l,iz C k e):iz C k (.bor l):=by intro K env x loc av t W ρ n0 st A s E hE hA I M B z V;refine SV V λxs pos F=>?_;subst F;have V:(true&&l.all xI&&fV K 1 l xs)=true:=V;simp only[au]at V;simp only[(id fD),dg]at M;refine ew λY=>aC M λb J n=>?_;clear M;subst n;injection B with S;subst S;refine Y ?_;clear Y;exact Us (KU l X K env xs loc _ W ρ n0 st A s E hE hA I J V.1.2 V.2)
theorem K6{vs keep:List aw}{Q:Unit->ao->Prop}(h:Q () s):aM (aL prog w) A (release vs keep) Q E s:=λD p B=>ab (jA.wp_release ..)<|h
theorem Hj{op P:kF}{a b c:CE}(L:bU C k a)(o:bU C k b)(g:bU C k c):iz C k (.B op P a b c):=by
 intro K env x loc av t W ρ n0 st A s E hE hA I M S _ V;refine dn M λp J M=>dn M λq U M=>dn M λt' Z d=>?_;have N:A.units<YT:=by have:=hA.units;lia
 refine J9 V λl o1 o2 y r pos e=>?_;rw[e]at V⊢;have V:(true&&op==o1&&P==o2&&cz K 0 a l&&cz K 0 b y&&cz K 0 c r&& !pP P r)=true:=V;have m:=ba (ba (ba V).1).1;refine cA (eq_of_beq (ba (ba (ba m.1).1).1).2)<|cA (eq_of_beq (ba (ba m.1).1).2)<|isTrue_chain (cu (L _ _ _ _ _ _ _ _ _ _ _ _ hE hA I J (ba m.1).2) λv i D=>?_) (nB (ba V).2);show aM _ A (do
  let Q<-ie [v] (fe y env)
  jF pos
  let c<-ie [v,Q] (eM op v Q)
  release [v,Q] [c]
  if<-ie [c,Q] (US c)then testChain pos Q [P] [fe r env]else pure false) _ _ _
 refine bg (gc (cu (o _ _ _ _ _ _ _ _ _ _ _ _ hE hA (I.step D) U m.2) λu T B=>bg (eA ?_)));refine bg (gc (cu (e9.qa B.1 (yV N ((I.step D).step B).store (D.2.2.keep B.2.1.keep) B.2.2 Z)) λcv X F=>?_));clear Z;refine ab F.2.2.mj ?_;have Y:=D.2.1.trans (B.2.1.trans F.2.1);refine bg (K6 (bg (gc (pk ?_))));rcases t' with _|_
 ·have O:AV.bool false=av:=ay d;rw[<-O]at S;exact du ⟨ay S,F.1,Y⟩
 ·refine dn d λz O d=>dn d λf n d=>?_;rw[<-(ay d)]at S;have h:=((I.step D).step B).step F;show aM _ A (do
   let Q<-ie [u] (fe r env)
   jF pos
   let c<-Xi [u,Q] (eM P u Q)
   ie [c] (US c)) _ _ _
  refine bg (gc (cu (g _ _ _ _ _ _ _ _ _ _ _ _ hE hA h O (ba (ba V).1).2) λx j G=>bg (eA ?_)));refine bg (wpAny_operating (cu (e9.qa G.1 (yV N (h.step G).store (B.2.2.keep (F.2.1.trans G.2.1).keep) G.2.2 n)) λcv H R=>?_));exact ab R.2.2.mj<|gc (pk ⟨ay S,R.1,Y.trans (G.2.1.trans R.2.1)⟩)
theorem lB{f:aw}{xs:List Expr}{env:fZ}{pos:eO}{Q:Args->ao->Prop}(F:xs.all bJ=true)(L:xs≠ [])
 (h:aM (aL prog w) A (spliced (YS pos (xY xs env))) (λvs s'=>Q ⟨vs,[]⟩ s') E s):aM (aL prog w) A (evalArgs f true (YS pos (xY xs env)) []) Q E s:=by
 rcases xs with _|⟨x,r⟩
 ·exact absurd rfl L
 ·simp only[jx,au]at F;rw[cY F.1]at h⊢;exact dH h
theorem kc{K:Ck}{m:Nat}:∀{l:List CE} {xs:List Expr},fV K m l xs=true->xs.all bJ=true:=by
 intro G
 induction G with
 |nil=>
  intro H h;rcases H with _|⟨_,_⟩
  ·exact rfl
  ·exact(aB h).elim
 |cons e l P=>
  intro H h;rcases H with _|⟨x,xs⟩
  ·exact(aB h).elim
  ·have h:(cz K m e x&&bJ x&&fV K m l xs)=true:=h;refine bp jx (ab ((ba (ba h).1).2) (bp (P (ba h).2) ?_));rfl
set_option tactic.hygienic true in
theorem Bw{f:Nat}{l:List CE}(G:Qm C k cfg.O)(X:∀e∈l,bU C k e):bU C k (.call f l):=by
 intro K env x loc av W ρ n0 st A s E hE hA I M V;refine e9.qa I.tok<|vz V λg p xs pos o1=>?_;subst o1;have V:(pX f==some g&&K.glob g&&fV K 0 l xs&& !l.isEmpty&& !(f==8))=true:=V;simp only[au,beq_iff_eq]at V;refine aN V λr c8=>aN r λH D=>aN H λR c=>aN R λP m=>?_;clear V;clear r;have L:xs≠ []:=by intro O;subst O;(rcases l with _|⟨e,l⟩;(exact(aB D).elim);exact(aB c).elim)
 refine dn M λavs J U=>?_;split at U
 ·rename_i Q;refine ew λY=>D8 (G _ _ _ (bne_iff_ne.mp c8) U) λg' a o fd B j t g4 g5=>?_;rw[P]at B;injection B with S;subst S;refine Y ?_;clear Y;refine dE (lF hE m I.base j (kE (o:=o) (fd:=fd) (lB (kc c) L ?_)));refine gW l X _ _ _ _ _ _ _ _ _ _ _ _ _ _ hE hA I J c λvs N F y d=>⟨⟨(I.base.trans y.keep).nt t (nO g4),g4⟩,?_⟩;exact aA (g5 A N W ρ vs E hA (I.base.trans y.keep) (I.live.keep y.keep) d Q) (λv s' h=>e9.ext y v s' h) λz z e=>e
 ·injection U
theorem Mg{a:CE}(L:bU C k a):bU C k (.J5 a):=by intro K env x loc av W ρ n0 st A s E hE hA I M V;refine e9.qa I.tok<|Oh V λl x p pos e=>?_;rw[e]at V⊢;have V:(cz K 0 a l&&x==("b1_set":bj)&&K.glob x)=true:=V;refine bW M λi J e=>cA e<|aC C.b1 λad b1 b2=>?_;rw[<-eq_of_beq (ba (ba V).1).2]at b1;refine YW (cu (L _ _ _ _ _ _ _ _ _ _ _ _ hE hA I (mM J) (ba (ba V).1).1) λv N D=>lF hE (ba V).2 (I.step D).base b1 ?_) rfl;exact D.2.2.dK λt e=>ab e<|b2 _ _ _ _ _ _ (I.step D).base λtk=>e9.ext D.2.1 _ _ ⟨.tok _ tk,.bool _⟩
theorem Hs{a:CE}(L:bU C k a):bU C k (.xc a):=by
 intro K env x loc av W ρ n0 st A s E hE hA I M V;refine e9.qa I.tok<|SN V λx p n b y pos e=>?_;rw[e]at V⊢;have V:(x==("b3_exceptions":bj)&&K.glob x&&n==("get":bj)&&cz K 0 a y&&bJ y&&b.endLine==pos.line)=true:=V;have H:=ba V;have h:=ba H.1;have c:=ba h.1;have m:=ba c.1;have P:=ba m.1;refine bW M λi J e=>aC C.b3 λad b1 b2=>?_;have g:=P.2;rw[eq_of_beq P.1]at g;refine cA e<|ab (eq_of_beq m.2)<|ab (eq_of_beq P.1)<|b2 _ _ _ _ _ _ _ _ _ (H.2) h.2 I.base (lF hE g I.base b1 ⟨rfl,rfl⟩) (cu (L _ _ _ _ _ _ _ _ _ _ _ _ hE hA I (mM J) c.2) λv N D=>⟨(I.step D).base,?_⟩);refine D.2.2.dK λt e=>⟨i,t,e,λt' tk=>e9.ext D.2.1 _ _ ?_⟩;rcases cfg.b3 i with _|z
 ·exact⟨.tok _ tk,.none⟩
 ·exact⟨.tok _ tk,.str _ _⟩
theorem ints_cons{vs:List aw}{n:Int}{ns:List Int}(x:Ru vs (n::ns)){I:Prop}(N:∀t F,vs=.int n t::F->Ru F ns->I):I:=by rcases x with⟨⟩;exact N _ _ rfl (‹_›)
theorem vt{vs:List aw}(x:Ru vs []):vs= []:=by rcases x with⟨⟩;rfl
theorem C6{ns:List Int}{q:Int×Int×Int}(h:Wr ns=some q):(q=(0,q.2.1,1)/\ns= [q.2.1])\/(q=(q.1,q.2.1,1)/\ns= [q.1,q.2.1])\/ns= [q.1,q.2.1,q.2.2]:=by
 cases ns with
 |nil=>injection h
 |cons a l=>rcases l with _|⟨b,l⟩
            ·injection h with S;subst S;exact .inl ⟨rfl,rfl⟩
            ·rcases l with _|⟨c,l⟩
             ·injection h with S;subst S;exact .inr (.inl ⟨rfl,rfl⟩)
             ·exact bW h λu N e=>ab (lR N)<|cA e<|.inr (.inr rfl)
theorem Zh{x y:Int}(J:0<=x)(U:x<=y-1)(Z:y<=10000):x+1=((x+1).toNat:Int)/\(x+1).toNat<=20000:=
 ⟨(qO (gO J (by decide))).symm,tI.mpr (gr (Int.add_le_of_le_sub_right U) (gr Z (by decide)))⟩
theorem Lc{a b c:Int}(f:0<c)(t:b-a<=10000):fK a b c=(rG a b c:Int)/\rG a b c<=20000:=by
 unfold rG fK;refine ab (if_pos f) ?_;split
 ·have J:0<=(b-a-1)/c:=eR (by lia) (aF f);have U:(b-a-1)/c<=b-a-1:=Int.ediv_le_self _ ((Int.ediv_nonneg_iff_of_pos f).mp J);exact Zh J U t
 ·exact⟨rfl,by decide⟩
theorem rH{x:Int}(h:x.natAbs<=4000000000):Dz x=true:=by
 have B:(2:Int)^63=9223372036854775808:=by decide
 delta Dz;refine ab B (ab (au ..) (ab decide_eq_true_eq (ab decide_eq_true_eq ?_)));omega+splitDisjunctions
theorem GX{a b c:Int}{n:Nat}(f:0<c)(j:c<=1000)(g4:a.natAbs<=2147483648)(g5:b.natAbs<=2147483648)(G:fK a b c=(n:Int))(Q:n<=20000):nj a b c=true:=by delta nj;rewrite[G,if_pos f,rH (x:=a) (by omega+splitDisjunctions),rH (x:=b) (by omega+splitDisjunctions),rH (x:=c) (by(clear Q G g5 g4;omega+splitDisjunctions)),rH (x:=(n:Int)) (by omega+splitDisjunctions),rH (x:=b+(c-1)) (by omega+splitDisjunctions),Bool.or_true];rfl
set_option tactic.hygienic true in
theorem qF{vals:List aw}{avs l:List AV}{Q:aw->ao->Prop}{h:bk}(D:ft W ρ h vals avs)(G:lx avs=some l)
 (N:∀a b c t u v r s',gK s s'->s.heap.get? r=none->IsRange s'.heap r a b c t u v->nj a b c=true->fK a b c=(l.length:Int)->l.length<=20000->
   l=(gV a c l.length).map .int->Q (.ref r) s'):
 aM (aL prog w) A (call (.type "range") vals) Q E s:=by
 refine aC (aZ G) λns J M=>aC (aZ M) λP U f=>?_;rcases P with⟨a,b,c⟩;clear G M;have hi:=ki D J;replace f:(if 0<c/\c<=1000/\b-a<=cB/\a.natAbs<=2^31/\b.natAbs<=2^31 then some ((gV a c (rG a b c)).map .int)else none)=some l:=f;split at f<;>(first|(injection f;done)|(injection f with S;subst S));rename_i O;have g:=Lc O.1 O.2.2.1;have R:=GX O.1 O.2.1 O.2.2.2.1 O.2.2.2.2 g.1 g.2;have B:((gV a c (rG a b c)).map AV.int).length=rG a b c:=by refine ab (aY ..) ?_;rewrite[gV];exact ab (aY ..) (ab eH rfl)
 rw[B]at N;have Z:∀{t u v k},Q (.ref s.heap.objs.size) {s with heap:=s.heap.push {cls:=.type "range",data:=.fields #[.int a t,.int b u,.int c v]},toks:=k}:=N _ _ _ _ _ _ _ _ (.of (bO.push _ _)) (cO _) (IsRange.new ..) R g.1 g.2 rfl;clear N g;refine ak (C6 U) (λH=>aN H λe1 e2=>?_) λK=>ak K (λT=>aN T λe1 e2=>?_) λe2=>?_
 ·rcases e1 with⟨⟩;rw[e2]at hi;exact ints_cons hi λt F f1 i1=>ab f1<|ab (vt i1)<|call_range_1 Z
 ·rcases e1 with⟨⟩;rw[e2]at hi;exact ints_cons hi λt F f1 i1=>ints_cons i1 λu L f2 o=>ab f1<|ab f2<|ab (vt o)<|call_range_2 Z
 ·rw[e2]at hi;refine ints_cons hi λt F f1 i1=>ints_cons i1 λu L f2 o=>ints_cons o λv I f3 X=>ab f1 (ab f2 (ab f3 (ab (vt X) ?_)));have V:=O.2.1;have d:=O.1;exact call_range_3 (cH O.1) Z (.inl (PyProof.noPylong_small (by show c.natAbs<_;clear O Z;(clear X f3 o f2 i1 f1 e2 K B R hi U J D;omega+splitDisjunctions))))
theorem nD{xs:List Expr}{pos:eO}{env:fZ}(F:xs.all bJ=true):(YS pos (xY xs env)).any (·.1)=false:=by
 induction xs with
 |nil=>rfl
 |cons x r R=>
  simp only[jx,au]at F;exact ab (cY F.1)<|R F.2
theorem Dm{l:List CE}(X:∀e∈l,bU C k e):bU C k (.I l):=by
 intro K env x loc av W ρ n0 st A s E hE hA I M V;refine e9.qa I.tok<|ew λY=>Kc V λf p g p' xs L pos o1=>?_;subst o1;have V:(ro K "list" f&&ro K "range" g&&fV K 0 l xs&& !l.isEmpty)=true:=V;simp only[au]at V;refine aN V λo2 h=>?_;clear V;refine aN o2 λH c3=>aN H λP m=>?_;clear V;clear o2;refine Y ?_;clear Y;have hne:xs≠ []:=by intro o3;subst o3;(rcases l with _|⟨e,l⟩;(exact(aB h).elim);exact(aB c3).elim)
 refine dn M λavs J hz_=>dn hz_ λrl U hz_=>?_;injection hz_ with S;refine cA S<|dE (lu (v:=.type "list") hE P (om rfl) I.base ?_);refine dX rfl (dH (dP ?_));refine dE (lu (v:=.type "range") hE m (by simp[lM]) I.base ?_);have F:=kc c3;have hpl:=nD (pos:=L) (env:=env) F;refine dX hpl (lB F hne ?_);refine gW l X _ _ _ _ _ _ _ _ _ _ _ _ _ _ hE hA I J c3 λvs N t₁ e₁ d=>qF d U λa b c t u v r T i hr0 G R hsz Q X=>e7<|Yb hA.hh G R hsz (by lia) λh' tk q c' hk hS' O=>⟨(e₁.trans i).trans (.of hk),.lst (((I.live.keep e₁.keep).keep i.keep).fresh (cO _)) ⟨c',hS'⟩ (vs:=q.toList) ?_⟩;refine ab X ?_;have B:q.toList.length=rl.length:=by simp[O.1]
 have Z:∀(n:Nat) (D:List aw) (z:Int),D.length=n->(∀(j:Nat) (v:aw),D[j]? =some (v:aw)->∃t:nZ,v=cy (z+(j:Int)*c) t)->ft W ρ h' D ((gV z c n).map AV.int):=by
  intro n
  induction n with
  |zero=>exactλD z hy _=>ab (dD hy)<|.nil
  |succ n ih=>
   intro D z hy o;rcases D with _|⟨y,r⟩
   ·injection hy
   ·refine aI (o 0 y rfl) λt e=>?_;have e':y=.int z t:=by simpa using e
    refine ab e' ?_;have:=ih r (z+c) (by simpa using hy) λj v hv=>by
     refine aI (o (j+1) v (by simpa using hv)) λt e=>⟨t,?_⟩;refine ab e ?_;congr 1;push_cast;refine ab (g8 ..) ?_;lia
    have er:(gV z c (n+1)).map AV.int=AV.int z::(gV (z+c) c n).map AV.int:=by
     delta gV;refine ab j0 ?_;simp only[bI,fi,iJ];congr 1
     ·simp
     ·apply jn;intro j _;congr 1;push_cast;refine ab (g8 ..) ?_;lia
    exact ab er<|.cons (.int _ _) this
 exact Z _ _ _ B λj v hv=>O.2 j v (by simpa using hv)
structure By (fp:az->Prop) (G:Nat->Prop) (s s':ao):Prop where
 keep:cD fp s.heap s'.heap
 os:s'.os=s.os
 hJ:s.gens.size<=s'.gens.size
 gens:∀g,g<s.gens.size->¬G g->s'.gens[g]? =s.gens[g]?
 bare:wb s.gens->wb s'.gens
theorem By.refl{fp:az->Prop}{G:Nat->Prop}(s:ao):By fp G s s:=⟨λz o z e=>⟨o,e,.refl _ _ _⟩,rfl,aV _,λz z z=>rfl,id⟩
theorem By.jQ{fp:az->Prop}{G:Nat->Prop}{s s':ao}(e:gK s s'):By fp G s s':=⟨λb o z h=>e.keep b o h,e.os,e.hJ,λg d z=>e.gens g d,e.bare⟩
theorem By.trans{fp:az->Prop}{G:Nat->Prop}{a b c:ao}(x:By fp G a b)(y:By fp G b c):By fp G a c:=
 ⟨x.keep.trans y.keep,y.os.trans x.os,aP x.hJ y.hJ,
  λg d D=>(y.gens g (be d x.hJ) D).trans (x.gens g d D),λh=>y.bare (x.bare h)⟩
theorem By.weaken{fp F:az->Prop}{G H:Nat->Prop}{a b:ao}(x:By fp G a b)(h:∀p,fp p->F p)(D:∀g,G g->H g):By F H a b:=
 ⟨λp o B e=>x.keep p o (B.imp (λQ q=>Q (h p q)) id) e,x.os,x.hJ,λg d Q=>x.gens g d λq=>Q (D g q),x.bare⟩
theorem By.of{fp:az->Prop}{G:Nat->Prop}{s:ao}{h':bk}{tk:Nat}(I:∀b o,¬fp b->s.heap.get? b=some o->h'.get? b=some o)(P:∀b o,fp b->s.heap.get? b=some o->¬yi o):
 By fp G s {s with heap:=h',toks:=tk}:=⟨.of I P,rfl,aV _,λz z z=>rfl,id⟩
structure It (prog:fA) (w:cW) (A:cP) (I:az) (fp:az->Prop) (G:Nat->Prop) (avs:List AV) (S:(az->Prop)->List az->Nat->ao->Prop):Prop where
 next:∀(W:az->Prop) (ρ:List az) (i:Nat) (a:AV) (s:ao) (E:aw->ao->Prop),avs[i]? =some a->(∀p,fp p->W p)->j6 W s.heap->S W ρ i s->
  aM (aL prog w) A (tY (.ref I)) (λr s'=>∃v,r=some v/\By fp G s s'/\VR W ρ s'.heap v a/\S W ρ (i+1) s') E s
 done:∀(W:az->Prop) (ρ:List az) (s:ao) (E:aw->ao->Prop),(∀p,fp p->W p)->j6 W s.heap->S W ρ avs.length s->
  aM (aL prog w) A (tY (.ref I)) (λr s'=>r=none/\By fp G s s') E s
 frame:∀(W W':az->Prop) (ρ ρ':List az) (i:Nat) (s s':ao),S W ρ i s->(∀a,W' a->W a\/s.heap.get? a=none)->(∀b o,¬W b\/fp b->s.heap.get? b=some o->nt o->s'.heap.get? b=some o)->
  (∀(n:Nat) (a:az),ρ[n]? =some a->ρ'[n]? =some a)->(∀g,G g->s'.gens[g]? =s.gens[g]?)->S W' ρ' i s'
 alive:∀(W:az->Prop) (ρ:List az) (i:Nat) (s:ao),S W ρ i s->∀p,fp p->∃o,s.heap.get? p=some o
 self:∀(W:az->Prop) (ρ:List az) (i:Nat) (s:ao) (Q:aw->ao->Prop) (E:aw->ao->Prop),S W ρ i s->Q (.ref I) s->aM (aL prog w) A (tX (.ref I)) Q E s
 own:∀(W:az->Prop) (ρ:List az) (i:Nat) (s:ao) (t:Expr) (v:aw) (Q:Unit->ao->Prop) (E:aw->ao->Prop),S W ρ i s->Q () s->aM (aL prog w) A (gJ t (.ref I) v) Q E s
theorem GP{M:jA Unit->Prop}(t:Expr)(it v:aw)(J:M (gJ (.List [] default) it v))(U:M (pure ())):M (gJ t it v):=by rcases t with⟨⟩<;>first|exact U|exact J
theorem vL{s:ao}{I:az}{T:String}{o:hC}{t:Expr}{v:aw}{Q:Unit->ao->Prop}(B:s.heap.get? I=some o)(V:o.cls=.type T)
 (l: ["enumerate","zip","dict_itemiterator","dict_reverseitemiterator","odict_iterator","itertools.zip_longest","itertools.pairwise"].contains T=false)(h:Q () s):
 aM (aL prog w) A (gJ t (.ref I) v) Q E s:=by
 refine GP (M:=λm=>aM (aL prog w) A m Q E s) t _ v ?_ (du h);rcases v with⟨⟩<;>first|exact du h|skip
 refine bg (wpAny_load B ?_);refine ab V ?_;generalize o.data=d;rcases d with⟨⟩<;>first|exact du h|skip
 show aM _ _ (if _ then _ else _) Q E s;exact ab l<|du h
theorem Ly{W:az->Prop}{h h':bk}(I:∀b o,¬W b->h.get? b=some o->nt o->h'.get? b=some o):∀b T vs,¬W b->cL T h b vs->cL T h' b vs:=λb T vs O Y=>aI Y λn e=>⟨n,I b _ O e (i8 rfl)⟩
theorem It.ry{I:az}{M:List az}{P:Nat->aw->Prop}{G:Nat->bk->Prop}{avs:List AV}(d:Walks prog w A I M [I] avs.length P G)(N:(az->Prop)->List az->bk->Prop)
 (V:∀W ρ h i v a,N W ρ h->P i v->avs[i]? =some a->VR W ρ h v a)
 (c:∀(W W':az->Prop) (ρ ρ':List az) (h h':bk),N W ρ h->(∀a,W' a->W a\/h.get? a=none)->(∀b T vs,¬W b->cL T h b vs->cL T h' b vs)->(∀(n:Nat) (a:az),ρ[n]? =some a->ρ'[n]? =some a)->N W' ρ' h')
 (r:∀W ρ h b,N W ρ h->b∈M->b=I\/(¬W b/\∀o,h.get? b=some o->nt o))
 (F:∀i h,G i h->∃o T,h.get? I=some o/\¬yi o/\o.cls=.type T/\ ["enumerate","zip","dict_itemiterator","dict_reverseitemiterator","odict_iterator","itertools.zip_longest","itertools.pairwise"].contains T=false):
 It prog w A I (·=I) (λz=>False) avs (λW ρ i s=>G i s.heap/\N W ρ s.heap) where
 next:=λW ρ i a s E L y X K=>by
  refine aN K λJ U=>d.item i s _ E ((aQ.mp L).1) J λv h' tk m D q=>?_;have l:∀b o,¬W b->s.heap.get? b=some o->nt o->h'.get? b=some o:=λb o O e z=>q b o (by rw[bS];intro u;subst u;exact O (y _ rfl)) e;have Z:=c W W ρ ρ _ _ U (λz x=>.inl x) (Ly l) λz z e=>e;exact⟨v,rfl,.of (λb o O e=>q b o (by simpa using O) e) (λb o O e=>by
   subst O;refine cX (F _ _ J) λR T f j z=>?_;rw[e]at f;injection f with S;subst S;exact j),V _ _ _ _ _ _ Z m L,D,Z⟩
 done:=λW ρ s E y X K=>d.done s _ E K.1 λh' tk q=>⟨rfl,.of (λb o O e=>q b o (by simpa using O) e) λb o O e=>by
  subst O;refine cX (F _ _ K.1) λR T f j z=>?_;rw[e]at f;injection f with S;subst S;exact j⟩
 frame:=λW W' ρ ρ' i s s' K hW q g z=>⟨d.frame i _ _ K.1 λb O o e=>by
  refine ak (r _ _ _ b K.2 O) (λH=>?_) λx=>?_;cases H
  ·refine ew λY=>s9 (F _ _ K.1) λR T J z U z=>?_;rw[e]at J;injection J with S;subst S;refine Y ?_;clear Y;exact q _ o (.inr rfl) e (jt U)
  ·exact q b o (.inl x.1) e (x.2 o e),c _ _ _ _ _ _ K.2 hW (Ly λb o O e hn=>q b o (.inl O) e hn) g⟩
 alive:=λW ρ i s K p B=>ab B<|eb (F _ _ K.1) λo T h z=>⟨o,h⟩
 self:=λW ρ i s Q E K h=>d.self i s Q E K.1 h
 own:=λW ρ i s t v Q E K h=>s9 (F _ _ K.1) λo T J z U Z=>vL J U Z h
end
def yb(prog:fA)(w:cW)(A:cP)(W:az->Prop)(ρ:List az)(n0:Nat)(s:ao)(avs:List AV):aw->ao->Prop:=λY T=>
 n0<=T.toks/\gK s T/\∃I fp G S,Y=.ref I/\It prog w A I fp G avs S/\S (λa=>W a\/fp a) ρ 0 T/\(∀p,fp p->s.heap.get? p=none)/\(∀g,G g->s.gens.size<=g/\g<T.gens.size)
section
variable{h₀:bk}{cfg:dC}(C:fE h₀ cfg)(k:Nat)
def oE(e:CE):Prop:=∀(K:Ck) (env:fZ) (x:Expr) (loc:Loc) (av:AV) (avs:List AV) (W:az->Prop) (ρ:List az) (n0:Nat) (st:St) (A:cP) (s:ao) (E:aw->ao->Prop),
 bZ env K n0->i7 k A->EI h₀ K.tab K.acc env W ρ n0 loc st s->ev cfg st e loc=some av->fQ st av=some avs->Ek e=true->cz K 2 e x=true->
 aM (aL C.prog C.w) A (fe x env) (λI N=>aM (aL C.prog C.w) A (tX I) (yb C.prog C.w A W ρ n0 s avs) E N) E s
end
section
variable{h₀:bk}{cfg:dC}{C:fE h₀ cfg}{k:Nat}
variable{prog:fA}{w:cW}{A:cP}{E:aw->ao->Prop}{s:ao}{W:az->Prop}{ρ:List az}{st:St}{n0:Nat}{av:AV}
theorem gC{s N:ao}(e:gK s N){p:az}(h:N.heap.get? p=none):s.heap.get? p=none:=by
 rcases hh:s.heap.get? p with _|o
 ·rfl
 ·refine aI (e.keep.alive _ _ hh) λR h'=>?_;rw[h']at h;injection h
theorem Gc{N:ao}{a:az}{vs:List aw}{avs:List AV}(hh:A.handled=none)(Q:n0<=N.toks)(e:gK s N)(X:j6 W N.heap)(F:¬W a)(G:cL "list" N.heap a vs)(D:ft W ρ N.heap vs avs):
 aM (aL prog w) A (tX (.ref a)) (yb prog w A W ρ n0 s avs) E N:=by
 refine wpAny_pyIter_list G.isList ?_;have L:a≠N.heap.objs.size:=λe=>by refine aI G λn h=>?_;rw[e,cO]at h;injection h
 have B:vs.toArray.size=avs.length:=D.length;have fr:=cO N.heap;have d:=Walks.list (prog:=prog) (w:=w) (A:=A) hh N.heap.objs.size a L vs.toArray;rw[B]at d;refine⟨Q,e.trans (.of (s:=N) (tk:=N.toks) (bO.push _ _)),N.heap.objs.size,_,_,_,rfl,It.ry d (λW ρ h=>¬W a/\cL "list" h a vs/\ft W ρ h vs avs) ?_ ?_ ?_ ?_,?_,?_,λ_ f=>f.elim⟩
 ·intro W ρ h i v b K m O;refine aC (K.2.2.get O) λR J U=>?_;have:vs[i]? =some v:=by simpa using m
  rw[J]at this;injection this with S;subst S;exact U
 ·intro W W' ρ ρ' h h' o1 hW I g;exact eY o1 λx r z=>aI r λn y=>⟨λq=>(hW _ q).elim x (λq=>by rw[y]at q;injection q),I _ _ _ x ⟨n,y⟩,z.move hW I g⟩
 ·intro W ρ h b K O;simp only[aS,dy,or_false]at O;refine ak O (λH=>?_) λl=>?_;subst H;rotate_left;subst l;rotate_right
  ·exact .inl rfl
  ·exact .inr ⟨K.1,λo M=>by refine aI K.2.1 λn h=>?_;rw[h]at M;injection M with S;subst S;exact i8 rfl⟩
 ·exactλi h j=>aN j λP _=>gB P λo M V u=>⟨o,_,M,jr u (by intro q t;simp),V,by decide⟩
 ·refine⟨⟨⟨_,bV _ rfl,rfl,rfl⟩,G.isList.push _⟩,?_,?_,?_⟩
  ·refineλZ=>ak Z (λq=>?_) λq=>?_
   ·exact F q
   ·exact L q
  ·exact aI G λn y=>⟨n,bO.push _ _ _ _ y⟩
  ·exact D.move (λb O=>O.imp id λq=>by subst q;exact fr) (λb T vs _ Y=>aI Y λn y=>⟨n,bO.push _ _ _ _ y⟩) λ_ _ y=>y
 ·intro p c;subst c;exact gC e fr
theorem vm{N:ao}{x:List Nat}{t:nZ}{T:String}{o:hC}(hh:A.handled=none)(Q:n0<=N.toks)(e:gK s N)
 (l: ["enumerate","zip","dict_itemiterator","dict_reverseitemiterator","odict_iterator","itertools.zip_longest","itertools.pairwise"].contains T=false)
 (D:Walks prog w A N.heap.objs.size [N.heap.objs.size] [N.heap.objs.size] (strOf x).cps.size (SignAt (strOf x)) (λi h=>h.IsStrIter N.heap.objs.size T (strOf x) t i))
 (Y:(N.heap.push o).IsStrIter N.heap.objs.size T (strOf x) t 0):
 yb prog w A W ρ n0 s (x.map λc=>.str [c]) (.ref N.heap.objs.size) {N with heap:=N.heap.push o}:=by
 have fr:=cO N.heap;have B:(strOf x).cps.size=(x.map λc=>AV.str [c]).length:=by simp[strOf]
 rw[B]at D;refine⟨Q,e.trans (.of (s:=N) (tk:=N.toks) (bO.push _ _)),N.heap.objs.size,_,_,_,rfl,It.ry D (λW ρ h=>True) ?_ ?_ ?_ ?_,⟨Y,trivial⟩,?_,λz f=>f.elim⟩
 ·intro W ρ h i v q K F O;refine eb F λc u V S=>?_;subst S;simp only[nq,dg]at O;refine aC O λd G H=>?_;subst H;have R:x[i]? =some c:=by simpa[strOf]using V
  rw[G]at R;rcases R with⟨⟩;exact .str [c] u
 ·intros;trivial
 ·intro W ρ h b K O;simp only[bS]at O;exact .inl O
 ·exactλi h r=>gB r λo J U Z=>⟨o,T,J,jr Z (by intro q t;simp),U,l⟩
 ·intro p L;subst L;exact gC e fr
theorem JW{N:ao}{x:List Nat}{t:nZ}(hh:A.handled=none)(Q:n0<=N.toks)(e:gK s N):
 aM (aL prog w) A (tX (.str (strOf x) t)) (yb prog w A W ρ n0 s (x.map λc=>.str [c])) E N:=by
 cases ha:(strOf x).cps.all (·<128)
 ·exact wpAny_pyIter_wide ha (vm hh Q e (by decide) (Walks.strWide hh _ _ t) ⟨_,bV _ rfl,rfl,rfl⟩)
 ·exact wpAny_pyIter_ascii ha (vm hh Q e (by decide) (Walks.strAscii hh _ _ t) ⟨_,bV _ rfl,rfl,rfl⟩)
theorem CD{N:ao}{r:az}{a b c:Int}{t u v:nZ}{avs:List AV}(hh:A.handled=none)(B:n0<=N.toks)(e:gK s N)(G:IsRange N.heap r a b c t u v)(R:nj a b c=true)
 (g:fK a b c=(avs.length:Int))(X:avs=(gV a c avs.length).map .int):
 aM (aL prog w) A (tX (.ref r)) (yb prog w A W ρ n0 s avs) E N:=by
 refine wpAny_pyIter_range G R ?_;have fr:=cO N.heap;have d:=Walks.range (prog:=prog) (w:=w) (A:=A) hh N.heap.objs.size a c avs.length;refine⟨B,e.trans (.of (s:=N) (tk:=N.toks) (bO.push _ _)),N.heap.objs.size,_,_,_,rfl,It.ry d (λW ρ h=>True) ?_ ?_ ?_ ?_,?_,?_,λz f=>f.elim⟩
 ·intro W ρ h i v q K m O;refine aI m λt F=>?_;subst F;rw[X]at O;simp only[gV,fi,nq,dg]at O;refine aC O λj Q n=>?_;subst n;have:=aQ.mp Q;refine aI this λJ U=>?_;simp at U;subst U;exact .int _ _
 ·intros;trivial
 ·intro W ρ h b K O;simp only[bS]at O;exact .inl O
 ·exactλi h hi=>⟨_,_,hi,jr rfl (λq t=>not_eq_of_beq_eq_false rfl),rfl,by decide⟩
 ·refine⟨?_,trivial⟩;have e1:a+((0:Nat):Int)*c=a:=by simp
  have e2:((avs.length:Int)- ((0:Nat):Int))=fK a b c:=by refine ab g ?_;rfl
  exact ab e1<|ab e2<|bV _ rfl
 ·intro p S;subst S;exact gC e fr
theorem Ki{i:Nat}:oE C k (.a i):=by
 intro K env x loc av avs W ρ n0 st A s E hE hA I M n z V;refine qB V λy p H=>?_;subst H;refine cu (kz (C:=C) (k:=k) K env (.Name y p) loc av W ρ n0 st A s E hE hA I M V) λv N D=>?_;have c:=I.step D;have r3:=D.2.2;rcases r3 with _|b|⟨i,t⟩|⟨x,t⟩|⟨Y,G,X⟩|⟨Y,G,X⟩|F<;>first|(injection n;done)|skip
 ·refine m8 n λB S=>?_;subst S;exact JW hA.hh D.1 D.2.1
 ·refine m8 n λB S=>?_;subst S;exact Gc hA.hh D.1 D.2.1 c.live Y G X
theorem CO{l:List CE}(X:∀e∈l,bU C k e):oE C k (.j l):=by
 intro K env x loc av avs W ρ n0 st A s E hE hA I M n z V;refine vz V λf p xs pos Y=>?_;subst Y;have V:(true&&ro K "range" f&&fV K 0 l xs&& !l.isEmpty)=true:=V;simp only[au]at V;refine aN V λD h=>aN D λH q=>aN H λz P=>?_;have L:xs≠ []:=by intro Z;subst Z;(rcases l with _|⟨e,l⟩;(exact(aB h).elim);exact(aB q).elim)
 refine dn M λvs J O=>dn O λm U O=>?_;injection O with S;subst S;simp only[(id yL)]at n;refine m8 n λB S=>?_;subst S;refine dE (lu (v:=.type "range") hE P (om rfl) I.base ?_);have hx:=kc q;refine dX (nD hx) (lB hx L ?_);exact bY I.tok<|gW l X _ _ _ _ _ _ _ _ _ _ _ _ _ _ hE hA I J q λvs N F y d=>λz=>bY F<|qF d U λa b c t u v r T i o G R g Q X=>λj=>CD hA.hh j (y.trans i) G R g X
theorem Wm{h:bk}{a:az}{m O:bj->Option aw}(x:h.Ns a m)(y:h.Ns a O):m=O:=by refine ew λY=>JF x λo es Q J U z Z=>JF y λR B D f j z t=>?_;rw[J]at f;injection f with S;subst S;rw[U]at j;injection j with S;subst S;refine Y ?_;clear Y;funext n;exact cA (Z ..) (cA (t ..) rfl)
def mi(env:fZ)(x:bj)(a:az):Prop:=(env.kindOf x=some .local/\a=env.locals)\/(env.kindOf x=some .cell/\env.cells.lookup x=some a)
theorem vQ{env:fZ}{x:bj}{v:aw}{a:az}{Q:Unit->ao->Prop}(I:env.scope.kind=.function)(M:mi env x a)(F:eo env s.heap)
 (h:∀h' tk,lb a s.heap h'->eo env h'->iq env h' x v->(∀y u,y≠x->iq env s.heap y u->iq env h' y u)->(∃o,h'.get? a=some o)->Q () {s with heap:=h',toks:=tk}):
 aM (aL prog w) A (zN env x v) Q E s:=by
 refine ak M (λH=>aN H λX g=>?_) λG=>aN G λX V=>?_;subst g
 ·refine aI F.ns λm T=>wpAny_storeName_local X T (λh' S P=>h _ _ P ⟨⟨_,S⟩,λx c V=>?_,F.apart,F.loc⟩ (.inl ⟨X,_,S,if_pos rfl⟩) (λy u Y hh=>?_) ?_) (by refine ab I ?_;rfl)
  ·exact aI (F.cells x c V) λv D=>⟨v,D.sameBut P (F.loc x c V)⟩
  ·rcases hh with⟨J,O,U,Z⟩|⟨J,c,U,Z⟩
   ·refine .inl ⟨J,_,S,?_⟩;have:O=m:=Wm U T;refine cA this ?_;simpa[Y]using Z
   ·exact .inr ⟨J,c,U,Z.sameBut P (F.loc y c (mem_of_lookup U))⟩
  ·exact m6 S λo z z M z=>⟨o,M⟩
 ·have T:=mem_of_lookup V;refine aI (F.cells _ _ T) λp B=>wpAny_storeName_cell I X V B (λh' R P=>h _ s.toks P ⟨?_,λy c Y=>?_,F.apart,F.loc⟩ (.inr ⟨.inl X,a,V,R⟩) (λy u Y hh=>?_) ?_)
  ·exact aI F.ns λm d=>⟨m,d.sameBut P (ib (F.loc _ _ T))⟩
  ·by_cases e:c=a
   ·exact ab e<|⟨_,R⟩
   ·exact aI (F.cells y c Y) λv D=>⟨v,D.sameBut P e⟩
  ·rcases hh with⟨J,O,U,Z⟩|⟨J,c,U,Z⟩
   ·exact .inl ⟨J,O,U.sameBut P (ib (F.loc _ _ T)),Z⟩
   ·refine .inr ⟨J,c,U,Z.sameBut P ?_⟩;intro o1;cases o1;exact Y (name_of_addr F.apart (mem_of_lookup U) T)
  ·exact aC R λo M z=>⟨o,M⟩
def oF(tab:List bj)(env:fZ)(W:az->Prop)(ρ:List az)(h:bk)(P:Nat->AV->Prop):Prop:=
 ∀i a,P i a->∀x,tab[i]? =some x->∃v,iq env h x v/\VR W ρ h v a
theorem oF.mono{tab:List bj}{env:fZ}{h:bk}{P M:Nat->AV->Prop}(x:oF tab env W ρ h P)(B:∀i a,M i a->P i a):oF tab env W ρ h M:=λi a p=>x i a (B i a p)
theorem oF.move{tab:List bj}{env:fZ}{W':az->Prop}{ρ':List az}{h h':bk}{P:Nat->AV->Prop}(x:oF tab env W ρ h P)(o:∀n v,iq env h n v->iq env h' n v)
 (hW:∀a,W' a->W a\/h.get? a=none)(I:∀b T vs,¬W b->cL T h b vs->cL T h' b vs)(g:∀(n:Nat) (a:az),ρ[n]? =some a->ρ'[n]? =some a):oF tab env W' ρ' h' P:=
 λi a p n Q=>aC (x i a p n Q) λv J U=>⟨v,o _ _ J,U.move hW I g⟩
theorem KO{tab:List bj}(u:tab.Nodup){i j:Nat}{x y:bj}(hi:tab[i]? =some x)(Q:tab[j]? =some y)(L:j≠i):y≠x:=by
 intro r;subst r;refine aI (aQ.mp hi) λJ e1=>?_;refine aI (aQ.mp Q) λU e2=>?_;have Z:=mS.mp u;refine ak (MF i j) (λh=>?_) λH=>ak H (λh=>?_) λh=>?_
 ·exact Z i j J U h (e1.trans e2.symm)
 ·exact L h.symm
 ·exact Z j i U J h (e2.trans e1.symm)
def X7(P:Nat->AV->Prop)(i:Nat)(a:AV):Nat->AV->Prop:=λj b=>(j=i/\b=a)\/(j≠i/\P j b)
structure DK (own:az->Prop) (s s':ao):Prop where
 keep:∀b o,¬own b->s.heap.get? b=some o->s'.heap.get? b=some o
 live:∀b o,s.heap.get? b=some o->∃o',s'.heap.get? b=some o'
 rest:∃h' tk,s'={s with heap:=h',toks:=tk}
theorem DK.refl{own:az->Prop}(s:ao):DK own s s:=⟨λz z z e=>e,λz o e=>⟨o,e⟩,⟨_,_,rfl⟩⟩
theorem DK.trans{own:az->Prop}{a b c:ao}(x:DK own a b)(y:DK own b c):DK own a c:=
 ⟨λp o B e=>y.keep _ _ B (x.keep _ _ B e),λp o e=>aI (x.live p o e) λR h=>y.live p R h,by
  refine ej x.rest λJ t1 j=>?_;subst j;exact ej y.rest λU t2 u=>ab u<|⟨U,t2,rfl⟩⟩
theorem xB{tab:List bj}{env:fZ}{own:az->Prop}{i:Nat}{x:bj}{v:aw}{a:AV}{ad:az}{P:Nat->AV->Prop}{Q:Unit->ao->Prop}(I:env.scope.kind=.function)(R:tab.Nodup)(L:tab[i]? =some x)
 (M:mi env x ad)(X:own ad)(hW:∀b,own b->W b)(F:eo env s.heap)(m:oF tab env W ρ s.heap P)(D:VR W ρ s.heap v a)
 (h:∀s',DK own s s'->eo env s'.heap->oF tab env W ρ s'.heap (X7 P i a)->Q () s'):aM (aL prog w) A (zN env x v) Q E s:=by
 refine vQ I M F λh' tk G V hh Y c=>h _ ⟨λb o O e=>?_,λb o e=>?_,⟨_,_,rfl⟩⟩ V ?_
 ·exact G.extBut b o (λe=>O (e▸X)) e
 ·by_cases O:b=ad
  ·exact ab O<|c
  ·exact⟨o,G.extBut b o O e⟩
 ·have B:∀b o,¬W b->s.heap.get? b=some o->h'.get? b=some o:=λb o O e=>G.extBut b o (λe=>O (hW _ (e▸X))) e;refineλj b d y K=>ak d (λH=>aN H λg T=>?_) λN=>aN N λZ O=>?_;subst g;refine ab T ?_
  ·rw[L]at K;injection K with S;subst S;exact⟨v,hh,D.move (λz q=>.inl q) (pT B) λz z e=>e⟩
  ·exact aC (m j b O y K) λu J U=>⟨u,Y y u (KO R L K Z) J,U.move (λz q=>.inl q) (pT B) λz z e=>e⟩
def DL(prog:fA)(w:cW)(A:cP)(E:aw->ao->Prop)(env:fZ)(t:aw->jA Unit)(x:bj):Prop:=
 ∀(v:aw) (Q:Unit->ao->Prop) (s:ao),aM (aL prog w) A (zN env x v) Q E s->aM (aL prog w) A (t v) Q E s
noncomputable def L7(P:Nat->AV->Prop):List Nat->List AV->Nat->AV->Prop
 |i::I,a::as=>L7 (X7 P i a) I as
 |_,_=>P
theorem Hp{P M:Nat->AV->Prop}(h:∀i a,P i a->M i a):∀(I:List Nat) (as:List AV) (i:Nat) (a:AV),L7 P I as i a->L7 M I as i a:=by
 intro I
 induction I generalizing P M with
 |nil=>exactλz i a x=>h i a x
 |cons j I R=>
  intro as i a x;rcases as with _|⟨b,as⟩
  ·exact h i a x
  ·exact R (λB D y=>y.imp id λy=>⟨y.1,h _ _ y.2⟩) as i a x
theorem xC{tab:List bj}{env:fZ}{own:az->Prop}{Q:Unit->ao->Prop}(I:env.scope.kind=.function)(u:tab.Nodup)(hW:∀b,own b->W b):
 ∀(L:List (Nat×bj×(aw->jA Unit))) (vs:List aw) (avs:List AV) (P:Nat->AV->Prop) (s:ao),
  (∀p∈L,tab[p.1]? =some p.2.1/\(∃ad,mi env p.2.1 ad/\own ad)/\DL prog w A E env p.2.2 p.2.1)->avs.length=L.length->eo env s.heap->oF tab env W ρ s.heap P->ft W ρ s.heap vs avs->
  (∀s',DK own s s'->eo env s'.heap->oF tab env W ρ s'.heap (L7 P (L.map (·.1)) avs)->Q () s')->aM (aL prog w) A (HW (L.map (·.2.2)) vs) Q E s:=by
 intro G
 induction G with
 |nil=>
  intro vs avs P s X B F m D h;rcases D with _|⟨a,b⟩
  ·exact du (h s (.refl s) F m)
  ·injection B
 |cons p L R=>
  intro vs avs P s X B F m D h;cases D with
  |nil=>injection B
  |@cons v a vs' l' a1 b1=>
   refine eY (X p aH) λJ j d=>aC j λad T Z=>ab bI ?_;show aM _ A (do ie vs' (p.2.2 v);HW (L.map (·.2.2)) vs') Q E s;refine bg (gc (d _ _ _ (xB I u J T Z hW F m a1 λN H K S=>?_)));have r:=b1.move (h':=N.heap) (λz q=>Or.inl q) (pT λb o O e=>H.keep b o (λq=>O (hW _ q)) e) λz z e=>e;exact R vs' l' _ N (λq Y=>X q (ax _ Y)) (iZ B) K S r λs' U V M=>h s' (H.trans U) V M
def CV(acc:List Nat)(loc:Loc):Nat->AV->Prop:=λi a=>i∈acc/\loc[i]? =some a/\a≠.c
theorem ni{tab:List bj}{acc:List Nat}{env:fZ}{h:bk}{loc:Loc}:zO tab acc env W ρ h loc↔oF tab env W ρ h (CV acc loc):=
 ⟨λx i a Y n Q=>eY Y λJ U Z=>x i J n Q a U Z,λx i hi n Q a L N=>x i a ⟨hi,L,N⟩ n Q⟩
theorem xr{acc:List Nat}{loc loc':Loc}{i:Nat}{v:AV}(h:ek loc i v=some loc'):∀j a,CV (acc++ [i]) loc' j a->X7 (CV acc loc) i v j a:=by
 delta ek at h;refine m8 h λhi S=>?_;subst S;refineλj a u=>eY u λJ U Z=>?_;by_cases Q:j=i
 ·subst Q;rw[fI hi]at U;injection U with S;subst S;exact .inl ⟨rfl,rfl⟩
 ·rw[ez (ib Q)]at U;refine .inr ⟨Q,?_,U,Z⟩;refine ak (dw.mp J) (λq=>?_) λq=>?_
  ·exact q
  ·exact absurd (bS.mp q) Q
theorem tB:∀{I:List Nat} {acc:List Nat} {loc loc':Loc} {vs:List AV},jT loc I vs=some loc'->∀j a,CV (acc++I) loc' j a->L7 (CV acc loc) I vs j a:=by
 intro G
 induction G with
 |nil=>
  intro acc loc loc' H h;rcases H with _|⟨_,_⟩
  ·injection h with S;subst S;intro j a x;rw[ik]at x;exact x
  ·injection h
 |cons i I P=>
  intro acc loc loc' H h;rcases H with _|⟨v,vs⟩
  ·injection h
  ·refine dn h λl1 J U=>?_;intro j a x;have:=P (acc:=acc++ [i]) U j a (by simpa using x);exact Hp (xr J) I vs j a this
theorem lV:∀{I:List Nat} {loc loc':Loc} {vs:List AV},jT loc I vs=some loc'->vs.length=I.length:=by
 intro G
 induction G with
 |nil=>
  intro loc loc' H h;rcases H with _|⟨_,_⟩
  ·exact rfl
  ·injection h
 |cons i I P=>
  intro loc loc' H h;rcases H with _|⟨v,vs⟩
  ·injection h
  ·refine dn h λl1 J U=>?_;simp[P U]
theorem y8{i j:Nat}(L:i≠j){loc:Loc}{a b:AV}:jT loc [i,j] [a,b]=jT loc [j,i] [b,a]:=by simp only[(id Lz),ek,aj];by_cases hi:i<loc.length<;>by_cases Q:j<loc.length<;>simp[hi,Q,List.set_comm _ _ L]
theorem Hl{K:Ck}{names:List (bj×dz)}{env:fZ}{own:az->Prop}(N:∀x,(names.lookup x=some .local\/names.lookup x=some .cell)->∃ad,mi env x ad/\own ad):
 ∀{I:List Nat} {es:List Expr},es.length=I.length->((I.zip es).all λp=>qH K names p.1 p.2)=true->∃L:List (Nat×bj×(aw->jA Unit)),L.map (·.1)=I/\Fp es env=L.map (λp=>(false,p.2.2))/\
  (∀p∈L,K.tab[p.1]? =some p.2.1/\(∃ad,mi env p.2.1 ad/\own ad)/\DL prog w A E env p.2.2 p.2.1):=by
 intro I
 induction I with
 |nil=>
  intro es X z;rcases es with _|⟨e,es⟩
  ·exact⟨[],rfl,rfl,λz h=>(nomatch h)⟩
  ·exact nomatch X
 |cons i I R=>
  intro es X h;rcases es with _|⟨e,es⟩
  ·exact nomatch X
  ·skip
   have U:=ba (a:=qH K names i e) h;refine gB (R (es:=es) (B7 X) U.2) λL e1 e2 c=>cX (ij U.1) λx p B f j=>?_;subst B;refine⟨(i,x,lj (.Name x p) env)::L,congrArg _ e1,by show(false,lj (.Name x p) env)::Fp es env=_;refine ab e2 ?_;rfl,λq D=>?_⟩;refine ak (aS.mp D) (λH=>?_) λD=>?_;subst H
   ·exact⟨f,N x j,λv Q s G=>zJ G⟩
   ·exact c q D
set_option tactic.hygienic true in
theorem qh{K:Ck}{names:List (bj×dz)}{env:fZ}{own:az->Prop}{t:kR}{g:Expr}{v:aw}{acc:List Nat}{loc loc':Loc}{Q:Unit->ao->Prop}
 (hh:A.handled=none)(I:env.scope.kind=.function)(u:K.tab.Nodup)(hW:∀b,own b->W b)(N:∀x,(names.lookup x=some .local\/names.lookup x=some .cell)->∃ad,mi env x ad/\own ad)
 (X:jV K names t g=true)(O:cT loc t av=some loc')(F:eo env s.heap)(J:zO K.tab acc env W ρ s.heap loc)(D:VR W ρ s.heap v av)
 (h:∀s',DK own s s'->eo env s'.heap->zO K.tab (acc++qI t) env W ρ s'.heap loc'->Q () s'):aM (aL prog w) A (lj g env v) Q E s:=by
 rcases t with i|is
 ·refine cX (ij (show qH K names i g=true from X)) λx p o6 f j=>?_;subst o6;refine aC (N x j) λad o1 r=>zJ (xB I u f o1 r hW F (ni.mp J) D λs' U V M=>h s' U V (ni.mpr (M.mono ?_)));exact xr O
 ·refine kB (rO X) λes Z p o7 f j=>?_;subst o7;refine gB (Hl (prog:=prog) (w:=w) (A:=A) (E:=E) N f j) λL e1 e2 c=>?_;rcases D with⟨⟩<;>first|(injection O;done)|skip
  rename_i a vs l R G d;refine aI G λn G=>?_;show aM _ A (do jF p;unpack (.ref a) (Fp es env)) Q E s;refine bg (eA ?_);delta unpack;refine ab e2 ?_;have B:(L.map λp=>(false,p.2.2)).length=vs.toArray.size:=ab (aY ..) (ab eJ (ab d.length (ab (lV O) (cA e1 (ab (aY ..) rfl)))));have m:(L.map λp=>(false,p.2.2)).findIdx? (·.1)=none:=by rw[List.findIdx?_eq_none_iff];refineλx hx=>aC (dZ.mp hx) λy z S=>?_;subst S;rfl
  refine ab m<|ab B<|bg (gc (unpackItems_tuple hh ⟨_,G,rfl,n,rfl⟩ λh' Y=>?_));have H:iu s.heap h':=λb o e=>Y b o (λq=>by subst q;rw[cO]at e;injection e) e;have T:(L.map λp=>(false,p.2.2)).map (·.2)=L.map (·.2.2):=by simp[iJ]
  refine ab T<|xC (own:=own) (tab:=K.tab) (P:=CV acc loc) I u hW L vs l _ c (ab (lV O) (cA e1 (ab (aY ..) rfl))) ?_ ?_ (d.keep H.k) λs' U V M=>?_
  ·exact F.by λb o z e z=>H b o e
  ·exact(ni.mp J).move (λn v hh=>hh.keep H.k) (λz q=>.inl q) (λz z z z e=>H.k.seq e) λz z e=>e
  ·refine h s' ((⟨λb o z e=>H b o e,λb o e=>⟨o,H b o e⟩,⟨_,s.toks,rfl⟩⟩:DK own s {s with heap:=h'}).trans U) V (ni.mpr (M.mono ?_));exact ab e1<|tB O
end
section
variable{prog:fA}{w:cW}{A:cP}{E:aw->ao->Prop}{s:ao}{R:M0->ao->Prop}
theorem FU{g y iter:Expr}{m8:List Expr}{scope:cQ}{pos:eO}{it acc:aw}{env:fZ}(I:Nat->ao->Prop)
 (F:∀n s,I n s->aM (aL prog w) A (tY it) (λr N=>match r with
   |none=>R (.ok .next) N
   |some v=>aM (aL prog w) A (gJ y it v) (λz W=>aM (aL prog w) A (lj y env v) (λz T=>
     aM (aL prog w) A (forIn m8 true λc r=>if r=true then do let ok<-mT c env (fe c env);pure (bP ok)else pure (bP r)) (λok X=>
      if ok=true then aM (aL prog w) A (fe g env) (λx S=>
       aM (aL prog w) A (call (.builtin "list.append") [acc,x]) (λz H=>∃m,m<n/\I m H) (DG (aL prog w) A env λe s'=>R (.error e) s') S) (DG (aL prog w) A env λe s'=>R (.error e) s') X
      else∃m,m<n/\I m X) (DG (aL prog w) A env λe s'=>R (.error e) s') T) (DG (aL prog w) A env λe s'=>R (.error e) s') W)
     (DG (aL prog w) A env λe s'=>R (.error e) s') N) (DG (aL prog w) A env λe s'=>R (.error e) s') s)
 (n:Nat)(h:I n s):M4 (aL prog w) A (.compLoop (.ListComp g [⟨y,iter,m8,0⟩] scope pos) 0 it acc env) R s:=by
 refine codeAny_loop rfl I (λn s M=>?_) n h;show aM _ A ((compTurn (.ListComp g [⟨y,iter,m8,0⟩] scope pos) 0 it acc env).onRaise (λx=>do MH x env;rZ x)) _ _ s;refine wpAny_noted<|ab (compTurn_list ..)<|bg (eA (bg (aA (F n s M) (λr N D=>?_) λz z h'=>h')));rcases r with _|v
 ·exact du D
 ·refine bg (aA D (λz W C=>?_) λz z h'=>h');refine bg (aA C (λz T Y=>bg (aA Y (λok X G=>?_) λz z h'=>h')) λz z h'=>h');rcases ok with _|_
  ·exact du ⟨rfl,G⟩
  ·exact bg (bg (aA G (λx S J=>bg (aA J (λz H B=>du (du ⟨rfl,B⟩)) λz z h'=>h')) λz z h'=>h'))
end
section
variable{h₀:bk}{cfg:dC}{C:fE h₀ cfg}{k:Nat}
variable{prog:fA}{w:cW}{A:cP}{E:aw->ao->Prop}{s:ao}{W:az->Prop}{ρ:List az}{st:St}{n0:Nat}{av:AV}
def Al(fr:Bool)(g h:bk)(vs:List aw):Prop:=fr=true->vs.Nodup/\∀v∈vs,∃a,v=.ref a/\g.get? a=none/\∃o,h.get? a=some o
theorem Al.live{fr:Bool}{g h h':bk}{vs:List aw}(x:Al fr g h vs)(X:∀b o,h.get? b=some o->∃R,h'.get? b=some R):Al fr g h' vs:=
 λe=>⟨(x e).1,λv D=>gB ((x e).2 v D) λa J Z h=>aI h λo U=>⟨a,J,Z,X a o U⟩⟩
def Fy(C:fE h₀ cfg)(k:Nat)(fr:Bool)(e:CE):Prop:=∀(K:Ck) (env:fZ) (x:Expr) (loc:Loc) (av:AV) (W:az->Prop) (ρ:List az) (n0:Nat) (st:St) (A:cP) (s:ao) (E:aw->ao->Prop),
 bZ env K n0->i7 k A->EI h₀ K.tab K.acc env W ρ n0 loc st s->ev cfg st e loc=some av->cz K 0 e x=true->
 aM (aL C.prog C.w) A (fe x env) (λv s'=>wj W ρ n0 s av v s'/\(fr=true->∃a,v=.ref a/\s.heap.get? a=none/\∃o,s'.heap.get? a=some o)) E s
theorem bU.elt{e:CE}(h:bU C k e):Fy C k false e:=λK env x loc av W ρ n0 st A s E J U Z d O=>aA (h K env x loc av W ρ n0 st A s E J U Z d O) (λv s' r=>⟨r,λe=>nomatch e⟩) λz z e=>e
structure U1 (h₀:bk) (tab:List bj) (cacc:List Nat) (cenv:fZ) (W:az->Prop) (ρ:List az) (n0:Nat) (loc:Loc) (st:St) (I D:az) (S:(az->Prop)->List az->Nat->ao->Prop)
 (own fp:az->Prop) (G:Nat->Prop) (s₀:ao) (fr:Bool) (i:Nat) (out:List AV) (s:ao):Prop where
 ei:EI h₀ tab cacc cenv W ρ n0 loc st s
 frame:eo cenv s.heap
 iter:S W ρ i s
 RT:By (λa=>fp a\/own a\/a=D) G s₀ s
 acc:∃vs,cL "list" s.heap D vs/\ft W ρ s.heap vs out/\Al fr s₀.heap s.heap vs
noncomputable def pV(cfg:dC)(st:St)(e:CE)(t:kR)(q:Loc->Option Bool)(loc:Loc):AV->Option (Option AV):=λv=>do
 let loc'<-cT loc t v
 if<-q loc' then return some (<-ev cfg st e loc')else return none
theorem IS{loc loc':Loc}{t:kR}{v:AV}{i:Nat}(h:cT loc t v=some loc')(hi:i∉qI t):loc'[i]? =loc[i]? :=by
 have many:∀{I:List Nat} {loc loc':Loc} {vs:List AV},jT loc I vs=some loc'->i∉I->loc'[i]? =loc[i]? :=by
  intro I
  induction I with
  |nil=>
   intro loc loc' vs h z;rcases vs with _|⟨v,vs⟩
   ·injection h with e;exact ab e rfl
   ·injection h
  |cons j I R=>
   intro loc loc' vs h hi;rcases vs with _|⟨v,vs⟩
   ·injection h
   ·refine dn h λl1 J U=>ab (R U λq=>hi (ax _ q)) ?_;clear U;dsimp only[ek]at J;split at J<;>(first|(injection J;done)|(injection J with S;subst S));exact ez (λe:j=i=>hi (ab e<|aH))
 rcases t with j|I
 ·simp only[(id sk),ek]at h;split at h<;>(first|(injection h;done)|(injection h with S;subst S));exact ez (λe=>hi (by simp[qI,e]))
 ·rcases v with⟨⟩<;>first|(injection h;done)|skip
  exact many h hi
structure Apart (h₀:bk) (env:fZ) (W:az->Prop) (ρ:List az) (st:St) (X:az->Prop):Prop where
 w:∀p,X p->W p
 base:∀p,X p->h₀.get? p=none
 nR:∀(n:Nat) (l:List AV) (a:az),st[n]? =some (some l)->ρ[n]? =some a->¬X a
 loc:¬X env.locals
 cells:∀x c,(x,c)∈env.cells->¬X c
theorem EI.by{tab:List bj}{acc:List Nat}{env:fZ}{loc:Loc}{s':ao}{X:az->Prop}(B:EI h₀ tab acc env W ρ n0 loc st s)(P:Apart h₀ env W ρ st X)
 (I:cD X s.heap s'.heap)(L:∀p,X p->∃o,s'.heap.get? p=some o)(S:n0<=s'.toks):EI h₀ tab acc env W ρ n0 loc st s' where
 base:=cD.after B.base I λp o e x=>by have:=P.base p x;rw[this]at e;injection e
 live:=λa w=>by
  by_cases F:X a
  ·exact L a F
  ·exact aI (B.live a w) λo M=>aC (I a o (.inl F) M) λR h z=>⟨R,h⟩
 tok:=S
 vars:=λi hi n Q a J U=>by
  refine aC (B.vars i hi n Q a J U) λv Z d=>⟨v,?_,d.move (λz q=>.inl q) (y7 I P.w) λz z e=>e⟩;rcases Z with⟨t,m,V,j⟩|⟨t,c,V,j⟩
  ·exact .inl ⟨t,m,I.ns P.loc V,j⟩
  ·exact .inr ⟨t,c,V,I.cell (P.cells _ c (mem_of_lookup V)) j⟩
 store:=λn l e=>cX (B.store n l e) λa vs J U Z=>⟨a,vs,J,I.seq (P.nR n l a e J) U,Z.move (λz q=>.inl q) (y7 I P.w) λz z e=>e⟩
 frame:=B.frame.by λb o O e Q=>I.nt (by refine ak O (λH=>?_) λg=>aI g λx F=>?_;exact ab H<|P.loc;exact P.cells x b F) e Q
 nR:=B.nR
theorem Jh{fr:Bool}{K:Ck}{f:fZ}{e:CE}{t:kR}{q:Loc->Option Bool}{elt y iter:Expr}{m8:List Expr}{scope:cQ}{pos:eO}{I D:az}{fp own:az->Prop}{G:Nat->Prop}
 {avs total:List AV}{S:(az->Prop)->List az->Nat->ao->Prop}{names:List (bj×dz)}{cacc:List Nat}{loc:Loc}{s₀:ao}{R:M0->ao->Prop}
 (he:Fy C k fr e)(hA:i7 k A)(hIt:It C.prog C.w A I fp G avs S)(hE:bZ f K n0)(hKacc:K.acc=cacc++qI t)(hdisj:∀i∈cacc,i∉qI t)(hnd:K.tab.Nodup)
 (J:∀loc' r s E,EI h₀ K.tab K.acc f W ρ n0 loc' st s->q loc'=some r->
   aM (aL C.prog C.w) A (forIn m8 true λc r=>if r=true then do let ok<-mT c f (fe c f);pure (bP ok)else pure (bP r)) (sV n0 s r) E s)
 (hec:cz K 0 e elt=true)(hg:jV K names t y=true)(hO:∀x,(names.lookup x=some .local\/names.lookup x=some .cell)->∃ad,mi f x ad/\own ad)
 (hXf:Apart h₀ f W ρ st fp)(hWo:∀p,own p->W p)(hob:∀p,own p->h₀.get? p=none)(hor:∀(n:Nat) (l:List AV) (a:az),st[n]? =some (some l)->ρ[n]? =some a->¬own a)(hXD:Apart h₀ f W ρ st (·=D))(hDo:¬own D)(hDf:¬fp D)(hfo:∀p,fp p->¬own p)(hoe:∀p,own p->p=f.locals\/∃x,(x,p)∈f.cells)
 (hG:∀g,G g->g<s₀.gens.size)(hcap:avs.length<=20000)(U:gm (pV cfg st e t q loc) avs=some total)
 (hR:∀s',n0<=s'.toks->By (λa=>fp a\/own a\/a=D) G s₀ s'->eo f s'.heap->(∃vs,cL "list" s'.heap D vs/\ft W ρ s'.heap vs total/\(fr=true->vs.Nodup/\∀v∈vs,∃a,v=.ref a/\s₀.heap.get? a=none))->R (.ok .next) s')
 (hinv:U1 h₀ K.tab cacc f W ρ n0 loc st I D S own fp G s₀ fr 0 [] s):
 M4 (aL C.prog C.w) A (.compLoop (.ListComp elt [⟨y,iter,m8,0⟩] scope pos) 0 (.ref I) (.ref D) f) R s:=by
 refine FU (λn s=>∃i out rest,n=avs.length-i+1/\i<=avs.length/\out.length<=i/\U1 h₀ K.tab cacc f W ρ n0 loc st I D S own fp G s₀ fr i out s/\gm (pV cfg st e t q loc) (avs.drop i)=some rest/\out++rest=total) ?_ (avs.length-0+1)
  ⟨0,[],total,rfl,bz _,aV _,hinv,U,rfl⟩
 refineλn s o2=>QO o2 λi out rest o3 hi hout V hr ht=>?_;clear o2;refine cA o3 ?_;by_cases hlt:i<avs.length
 ·refine ew λY=>?_;obtain⟨a,L⟩:∃a,avs[i]? =some a:=⟨avs[i],by simp[hlt]⟩;rw[dF hlt]at hr;have hai:avs[i]=a:=by simpa[hlt]using L
  rw[hai]at hr;simp only[(id qm),aj,bF]at hr;refine aC hr λob hf hr=>?_;dsimp only[pV]at hf;simp only[aj,bF]at hf;obtain⟨loc',O,b,hq,hfe⟩:=hf;refine Y ?_;clear Y;refine bY V.ei.tok (aA (hIt.next W ρ i a s _ L hXf.w V.ei.live V.iter) (λr N h₁=>?_) λz z e z=>e);refine D7 h₁ λv o5 by₁ vr₁ H=>?_;clear h₁;subst o5;intro F;have ei₁:=V.ei.by hXf by₁.keep (λp hp=>hIt.alive _ _ _ _ H p hp) F;have fr₁:eo f N.heap:=V.frame.by λb o O e Q=>by₁.keep.nt (by refine ak O (λu1=>?_) λu2=>aI u2 λx hx=>?_;exact ab u1<|hXf.loc;exact hXf.cells x b hx) e Q;refine hIt.own _ _ _ _ _ _ _ _ H<|bY F (qh hA.hh hE.kind hnd hWo hO hg O fr₁ ei₁.vars vr₁ λT sto₂ fr₂ v₂ t₂=>?_);have hg2:T.gens=N.gens:=by refine ej sto₂.rest λh' tk o6=>?_;subst o6;rfl
  have ho2:T.os=N.os:=by refine ej sto₂.rest λh' tk o7=>?_;subst o7;rfl
  have ks:cD own N.heap T.heap:=.of sto₂.keep λb o O e=>fr₁.Xp (hoe b O) e;have ei₂:EI h₀ K.tab K.acc f W ρ n0 loc' st T:=by
   refine⟨cD.after ei₁.base ks (λb o e x=>by have:=hob b x;rw[this]at e;injection e),λp hp=>?_,t₂,hKacc▸v₂,λn l e=>?_,fr₂,ei₁.nR⟩
   ·exact aI (ei₁.live p hp) λo M=>sto₂.live p o M
   ·exact cX (ei₁.store n l e) λa vs h1 o8 h3=>aI o8 λm h2=>⟨a,vs,h1,⟨m,sto₂.keep _ _ (hor n l a e h1) h2⟩,h3.move (λz q=>.inl q) (pT λb o O e=>sto₂.keep b o (λx=>O (hWo b x)) e) λz z e=>e⟩
  have by₂:By (λa=>fp a\/own a\/a=D) G s₀ T:=(V.RT.trans (by₁.weaken (λp hp=>.inl hp) λz g=>g)).trans ⟨ks.weaken λp h=>.inr (.inl h),ho2,ab hg2<|aV _,λg z z=>ab hg2 rfl,ab hg2<|id⟩;have S₂:S W ρ (i+1) T:=hIt.frame W W ρ ρ _ _ _ H (λz q=>.inl q) (λb o O e z=>sto₂.keep b o (λx=>by refine ak O (λO=>?_) λO=>?_;exact O (hWo b x);exact hfo b O x) e) (λz z e=>e) (λg z=>ab hg2 rfl);refine gB V.acc λvs o9 dv al=>aI o9 λm dl=>?_;clear o9;have al₂:Al fr s₀.heap T.heap vs:=(al.live (h':=N.heap) λb o e=>by
   by_cases O:fp b
   ·exact hIt.alive _ _ _ _ H b O
   ·exact aC (by₁.keep b o (.inl O) e) λo' h z=>⟨o',h⟩).live sto₂.live
  have D₂:cL "list" T.heap D vs:=⟨m,sto₂.keep _ _ hDo (by₁.keep.nt hDf dl (i8 rfl))⟩;clear hDo;have dv₂:ft W ρ T.heap vs out:=(dv.move (h':=N.heap) (λz q=>.inl q) (y7 by₁.keep hXf.w) λz z e=>e).move (λz q=>.inl q) (pT λb o O e=>sto₂.keep b o (λx=>O (hWo b x)) e) λz z e=>e;have stepX:∀{X s₄:ao} {vs out},By (λa=>fp a\/own a\/a=D) G s₀ X->S W ρ (i+1) X->eo f X.heap->cL "list" X.heap D vs->ft W ρ X.heap vs out->gK X s₄->
   By (λa=>fp a\/own a\/a=D) G s₀ s₄/\S W ρ (i+1) s₄/\eo f s₄.heap/\cL "list" s₄.heap D vs/\ft W ρ s₄.heap vs out:=by
   intro X s₄ vs out b3 i3 f3 d3 w3 e;refine⟨b3.trans (.jQ e),hIt.frame W W ρ ρ _ _ _ i3 (λz q=>.inl q) (λb o z h Q=>e.keep.nt h Q) (λz z h=>h) (λg hg=>e.gens g ((λZ g hg=>be (hG g hg) Z.hJ) b3 g hg)),f3.by λb o z h Q=>e.keep.nt h Q,e.keep.seq d3,w3.keep e.keep⟩
  have back:∀{X:ao},EI h₀ K.tab K.acc f W ρ n0 loc' st X->EI h₀ K.tab cacc f W ρ n0 loc st X:=λe3=>⟨e3.base,e3.live,e3.tok,λj hj n Q a h1 h2=>e3.vars j (hKacc▸fo _ hj) n Q a ((IS O (hdisj j hj)).trans h1) h2,e3.store,e3.frame,e3.nR⟩;refine aA (J loc' b T _ ei₂ hq) (λok X h₃=>?_) λz z e=>e;clear hq;refine ew λY=>eY h₃ λo10 t₃ e₃=>?_;subst o10;have ei₃:=ei₂.ext e₃ t₃;refine rj (stepX by₂ S₂ fr₂ D₂ dv₂ e₃) λby₃ S₃ fr₃ D₃ dv₃=>Y ?_;clear Y;clear by₂;have al₃:Al fr s₀.heap X.heap vs:=al₂.live λb o e=>e₃.keep.alive b o e;rcases ok with _|_
  ·simp only[bx,if_false,aJ,bL]at hfe⊢;subst hfe;exact⟨avs.length- (i+1)+1,by grind,i+1,out,rest,rfl,hlt,ox hout,⟨back ei₃,fr₃,S₃,by₃,vs,D₃,dv₃,al₃⟩,hr,ht⟩
  ·simp only[if_true,bF,aJ,bL]at hfe⊢;refine ew λY=>aC hfe λae hev o11=>?_;subst o11;refine dn hr λrest' hr' hz_=>?_;have o12:=ay hz_;subst o12
   refine Y ?_;clear Y;refine aA (he _ _ _ _ _ _ _ _ _ _ _ _ hE hA ei₃ hev hec) (λx s₄ r₄=>?_) λz z e=>e;clear hec;refine ew λY=>aN r₄ λr₄ fx=>?_;have ei₄:=ei₃.step r₄;refine rj (stepX by₃ S₃ fr₃ D₃ dv₃ r₄.2.1) λby₄ S₄ fr₄ o13 dv₄=>aI o13 λm' D₄=>Y ?_;clear Y;clear stepX;have hsz:vs.toArray.size<=mJ:=by
    have e1:vs.toArray.size=out.length:=dv.length;have e2:mJ=16777216:=by rfl
    lia
   refine bY r₄.1 (wpAny_list_append_plain (items:=vs.toArray) ⟨m',D₄⟩ (λB hl₅ hs₅=>?_) hsz);clear hsz;intro t₅;have k₅:∀b o,¬b=D->s₄.heap.get? b=some o->B.get? b=some o:=λb o O e=>hs₅.extBut b o O e;clear hs₅;have k5x:cD (·=D) s₄.heap B:=.of k₅ λb o O e=>by
    have O:b=D:=O;cases O;rw[D₄]at e;injection e with e_;subst e_;exact yQ rfl
   have D₅:cL "list" B D (vs++ [x]):=aI hl₅ λm d=>⟨m,by simpa using d⟩;have ei₅:EI h₀ K.tab K.acc f W ρ n0 loc' st {s₄ with heap:=B}:=ei₄.by hXD k5x (λp hp=>ab hp<|aI D₅ λm d=>⟨_,d⟩) t₅;clear t₅;refine⟨avs.length- (i+1)+1,by grind,i+1,out++ [ae],rest',rfl,hlt,by simp;exact oi.mp hout,⟨back ei₅,fr₄.by λb o O e z=>k₅ b o (by refine ak O (λu1=>?_) λu2=>aI u2 λx hx=>?_;exact ab u1<|hXD.loc;exact hXD.cells x b hx) e,?_,?_,vs++ [x],D₅,?_,?_⟩,hr',by simpa using ht⟩
   ·exact hIt.frame W W ρ ρ _ _ _ S₄ (λz q=>.inl q) (λb o O e z=>k₅ b o (λx=>by cases x;refine ak O (λO=>?_) λO=>?_;exact O (hXD.w _ rfl);exact hDf O) e) (λz z e=>e) (λg z=>rfl)
   ·exact by₄.trans ⟨k5x.weaken λp h=>.inr (.inr h),rfl,aV _,λz z z=>rfl,id⟩
   ·exact(dv₄.append (.cons r₄.2.2 .nil)).move (λz q=>.inl q) (pT λb o O e=>k₅ b o (λx=>O (hXD.w b x)) e) λz z e=>e
   ·refineλhfr=>ew λY=>?_;obtain⟨a,rfl,L,o4,ho4⟩:=fx hfr;refine aN (al₃ hfr) λn1 n2=>Y ?_;clear Y;have lv:∀b o,s₄.heap.get? b=some o->∃o',B.get? b=some o':=λb o e=>by
     by_cases O:b=D
     ·exact ab O<|aI D₅ λm d=>⟨_,d⟩
     ·exact⟨o,k₅ b o O e⟩
    refine⟨MD.mpr ⟨n1,by simp,λv hv u hu=>?_⟩,λv hv=>?_⟩
    ·refine ab (bS.mp hu) ?_;intro o14;subst o14;obtain⟨b,O,hb0,o,M⟩:=n2 _ hv;injection O with e_;subst e_;rw[L]at M;injection M
    ·refine ak (dw.mp hv) (λhv=>?_) λhv=>?_
     ·refine ew λY=>?_;obtain⟨b,O,hb0,o,M⟩:=n2 _ hv;refine aI (r₄.2.1.keep.alive b o M) λo' ho'=>Y ?_;clear Y;exact⟨b,O,hb0,lv b o' ho'⟩
     ·have hv:=bS.mp hv;refine ab hv<|⟨a,rfl,?_,lv a o4 ho4⟩;rcases h0:s₀.heap.get? a with _|o0
      ·rfl
      ·exfalso;have:∃o,X.heap.get? a=some o:=by
        by_cases P:fp a\/own a\/a=D
        ·refine ak P (λP=>?_) λu1=>ak u1 (λP=>?_) λP=>?_
         ·exact ei₃.live a (hXf.w a P)
         ·exact ei₃.live a (hWo a P)
         ·exact ei₃.live a (hXD.w a P)
        ·exact aC (by₃.keep a o0 (.inl P) h0) λo' h z=>⟨o',h⟩
       refine aI this λo h=>?_;rw[L]at h;injection h
 ·have hil:i=avs.length:=by lia
  subst hil;simp only[oe,(id qm),bL]at hr;subst hr;rw[ik]at ht;cases ht;refine bY V.ei.tok (aA (hIt.done W ρ s _ hXf.w V.ei.live V.iter) (λr N h₁=>?_) λz z e z=>e);refine aN h₁ λo15 by₁=>ab o15<|λF=>gB V.acc λvs o16 dv al=>aI o16 λm dl=>hR N F (V.RT.trans (by₁.weaken (λp hp=>.inl hp) λz g=>g)) (V.frame.by λb o O e Q=>by₁.keep.nt (by refine ak O (λu1=>?_) λu2=>aI u2 λx hx=>?_;exact ab u1<|hXf.loc;exact hXf.cells x b hx) e Q) ⟨vs,⟨m,by₁.keep.nt hDf dl (i8 rfl)⟩,?_,λe=>⟨(al e).1,λv hv=>gB ((al e).2 v hv) λa h h3 z=>⟨a,h,h3⟩⟩⟩;exact dv.move (λz q=>.inl q) (y7 by₁.keep hXf.w) λz z e=>e
end
section
variable{prog:fA}{w:cW}{A:cP}{E:aw->ao->Prop}{s:ao}
noncomputable def n8(env:fZ):List (bj×dz)->List (bj×az)->List (bj×az)
 | [],acc=>acc
 |(n,k)::r,acc=>if k==.free then n8 env r ((n,(env.cells.lookup n).getD 0)::acc)else n8 env r acc
theorem NB:(∀env acc,n8 env [] acc=(acc))/\
 (∀env n k r acc,n8 env ((n,k)::r) acc=(if k==.free then n8 env r ((n,(env.cells.lookup n).getD 0)::acc)else n8 env r acc)):=⟨by intros;rfl,by intros;rfl⟩
theorem ql{scope:cQ}{env:fZ}(h:∀n,(n,dq)∈scope.names->∃c,env.cells.lookup n=some c):closureFor scope env=pure (n8 env scope.names []):=by
 have Z:∀(names:List (bj×dz)) (acc:List (bj×az)),(∀n,(n,dq)∈names->∃c,env.cells.lookup n=some c)->
  (forIn names acc (λ(x:bj×dz) (L:List (bj×az))=>(if x.2==dq then do let c<-cellOf env x.1;pure (bP ((x.1,c)::L))else pure (bP L):jA (ForInStep (List (bj×az))))))=pure (n8 env names acc):=by
  intro names
  induction names with
  |nil=>intro acc z;rfl
  |cons x r R=>
   intro acc hh;obtain⟨n,k⟩:=x;refine ab (P9 ..) ?_;simp only[(id NB)];by_cases I:k=.free
   ·subst I;refine aI (hh n aH) λc V=>?_;simp only[beq_self_eq_true,if_true];unfold cellOf;refine ab V ?_;simp only[pure_bind,Option.getD_some];exact R _ λm T=>hh m (ax _ T)
   ·have O:(k==dq)=false:=by simpa using I
    simp only[O,bx,if_false,pure_bind];exact R _ λm T=>hh m (ax _ T)
 delta closureFor;have:=Z scope.names [] h;simp only[bind_pure_comp]at this⊢;refine ab (show(forIn scope.names [] _:jA (List (bj×az)))=pure (n8 env scope.names [])from this) ?_;rfl
set_option tactic.hygienic true in
theorem ug{env:fZ}:∀{names:List (bj×dz)} {acc:List (bj×az)} {n:bj} {c:az},(∀n,(n,dq)∈names->∃c,env.cells.lookup n=some c)->(n,c)∈n8 env names acc->
 (n,c)∈acc\/((n,dq)∈names/\env.cells.lookup n=some c):=by
 intro G
 induction G with
 |nil=>
  intro acc n c z h;exact .inl h
 |cons C r P=>
  rcases C with⟨m,k⟩;intro acc n c hh h;simp only[(id NB)]at h;split at h
  ·rename_i I;have I:k=.free:=of_decide_eq_true I;subst I;refine ak (P (λn Q=>hh n (ax _ Q)) h) (λh=>?_) λH=>aN H λJ U=>?_
   ·refine ak (aS.mp h) (λe=>?_) λh=>?_
    ·rcases e with⟨⟩;refine aI (hh m aH) λc V=>.inr ⟨aH,by refine ab V ?_;rfl⟩
    ·exact .inl h
   ·exact .inr ⟨ax _ J,U⟩
  ·refine ak (P (λn Q=>hh n (ax _ Q)) h) (λh=>?_) λH=>aN H λJ U=>?_
   ·exact .inl h
   ·exact .inr ⟨ax _ J,U⟩
set_option tactic.hygienic true in
theorem yp{env:fZ}:∀{names:List (bj×dz)} {acc:List (bj×az)} {n:bj},((n,dq)∈names\/∃c,(n,c)∈acc)->∃c,(n,c)∈n8 env names acc:=by
 intro G
 induction G with
 |nil=>
  intro acc n h;exact h.elim (λx=>nomatch x) id
 |cons C r P=>
  rcases C with⟨m,k⟩;intro acc n h;simp only[(id NB)];split
  ·rename_i I;refine P<|ak h (λh=>?_) λH=>aI H λc h=>?_
   ·refine ak (aS.mp h) (λe=>?_) λh=>?_
    ·injection e with S;subst S;exact .inr ⟨_,aH⟩
    ·exact .inl h
   ·exact .inr ⟨c,ax _ h⟩
  ·rename_i I;refine P<|ak h (λh=>?_) λh=>?_
   ·refine ak (aS.mp h) (λe=>?_) λh=>?_
    ·rcases e with⟨⟩;simp at I
    ·exact .inl h
   ·exact .inr h
set_option tactic.hygienic true in
theorem wW{env:fZ}(L:env.cells.Pairwise λx y=>x.2≠y.2):∀{names:List (bj×dz)} {acc:List (bj×az)},(∀n,(n,dq)∈names->∃c,env.cells.lookup n=some c)->
 (names.map (·.1)).Nodup->acc.Pairwise (λx y=>x.2≠y.2)->(∀n c,(n,c)∈acc->env.cells.lookup n=some c/\n∉names.map (·.1))->(n8 env names acc).Pairwise λx y=>x.2≠y.2:=by
 intro names acc hh Q B X
 induction names generalizing acc with
 |nil=>exact B
 |cons q r R=>
  rcases q with⟨m,k⟩;have S:=eT.mp Q;simp only[(id NB)];split
  ·rename_i I;have I:k=.free:=by simpa using I
   subst I;refine aI (hh m aH) λc V=>ab V<|R (λn F=>hh n (ax _ F)) S.2 (fO.mpr ⟨λy Y e=>?_,B⟩) λn t F=>?_
   ·refine aN (X y.1 y.2 Y) λJ U=>?_;have C:c=y.2:=e;have:=name_of_addr L (mem_of_lookup V) (C▸mem_of_lookup J);exact U (by refine cA this ?_;simp)
   ·refine ak (aS.mp F) (λe=>?_) λF=>?_
    ·rcases e with⟨⟩;exact⟨V,S.1⟩
    ·exact⟨(X n t F).1,λq=>(X n t F).2 (ax _ q)⟩
  ·exact R (λn F=>hh n (ax _ F)) S.2 B λn t F=>⟨(X n t F).1,λq=>(X n t F).2 (ax _ q)⟩
theorem jc:∀(names:List (bj×dz)) (n:Nat) (acc:List (bj×az)),dO n names acc=dO n names []++acc:=by
 intro G
 induction G with
 |nil=>
  exactλn acc=>rfl
 |cons C r R=>
  rcases C with⟨m,k⟩;intro n acc;unfold dO;split
  ·exact ab (R (n+1) ((m,n)::acc))<|ab (R (n+1) [(m,n)])<|List.append_cons (dO (n+1) r []) (m,n) acc
  ·exact R n acc
set_option tactic.hygienic true in
theorem wC:∀{names:List (bj×dz)} {n:Nat} {acc:List (bj×az)} {x:bj} {c:az},(x,c)∈dO n names acc->(x,c)∈acc\/(x,wh)∈names:=by
 intro G
 induction G with
 |nil=>
  intro z z z z h;exact .inl h
 |cons C r P=>
  rcases C with⟨m,k⟩;intro n acc x c h;unfold dO at h;split at h
  ·rename_i I;have I:k=.cell:=of_decide_eq_true I;subst I;refine ak (P h) (λh=>?_) λh=>?_
   ·refine ak (aS.mp h) (λe=>?_) λh=>?_
    ·injection e with S;subst S;exact .inr aH
    ·exact .inl h
   ·exact .inr (ax _ h)
  ·refine ak (P h) (λh=>?_) λh=>?_
   ·exact .inl h
   ·exact .inr (ax _ h)
set_option tactic.hygienic true in
theorem mL:∀{names:List (bj×dz)} {n:Nat} {acc:List (bj×az)} {x:bj},((x,wh)∈names\/∃c,(x,c)∈acc)->∃c,(x,c)∈dO n names acc:=by
 intro G
 induction G with
 |nil=>
  intro z z z h;exact h.elim (λx=>nomatch x) id
 |cons C r P=>
  rcases C with⟨m,k⟩;intro n acc x h;unfold dO;split
  ·refine P<|ak h (λh=>?_) λH=>aI H λc h=>?_
   ·refine ak (aS.mp h) (λe=>?_) λh=>?_
    ·injection e with S;subst S;exact .inr ⟨_,aH⟩
    ·exact .inl h
   ·exact .inr ⟨c,ax _ h⟩
  ·rename_i I;refine P<|ak h (λh=>?_) λh=>?_
   ·refine ak (aS.mp h) (λe=>?_) λh=>?_
    ·rcases e with⟨⟩;simp at I
    ·exact .inl h
   ·exact .inr h
theorem hK:∀{l:List (bj×az)} {n:bj} {c:az},(n,c)∈l->∃t,l.lookup n=some t:=by
 intro l n c h
 induction l with
 |nil=>exact absurd h dy
 |cons q r R=>
  rcases q with⟨m,d⟩;refine ab fa ?_;rcases hb:n==m with _|_
  ·refine ak (aS.mp h) (λe=>?_) λh=>R h;injection e with S;subst S;simp at hb
  ·exact⟨d,rfl⟩
theorem AQ:∀{l:List (bj×az)} {n:bj},(∀c,(n,c)∉l)->l.lookup n=none:=by
 intro G
 induction G with
 |nil=>
  intro n z;exact rfl
 |cons C r P=>
  rcases C with⟨m,d⟩;intro n h;refine ab fa ?_;rcases hb:n==m with _|_
  ·exact P λc V=>h c (ax _ V)
  ·exact absurd (ab (beq_iff_eq.mp hb)<|aH) (h d)
theorem vG:∀{l r:List (bj×az)} {n:bj},(l++r).lookup n=(l.lookup n).or (r.lookup n):=by
 intro G
 induction G with
 |nil=>
  intro r n;rfl
 |cons C l P=>
  rcases C with⟨m,d⟩;intro r n;refine ab da (ab fa (ab fa ?_));rcases n==m with _|_
  ·exact P
  ·rfl
noncomputable def QE(scope:cQ)(cl:List (bj×az))(L:az)(env:fZ):fZ:=
 {scope:=scope,locals:=L,globals:=env.globals,cells:=dO (L+1) scope.names cl,qual:=env.qual,func:=none,code:=env.code,frame:=env.frame,builtins:=env.builtins}
theorem GD{scope:cQ}{cl:List (bj×az)}{env:fZ}{Q:fZ->ao->Prop}
 (h:Q (QE scope cl s.heap.objs.size env) {s with heap:=pushCells (s.heap.push {cls:=.type "dict",data:=.dict #[]}) scope.names}):
 aM (aL prog w) A (YU scope env.globals cl [] env.qual none .none (some env)) Q E s:=by
 simp only[YU,HT,if_true];refine bg (wpAny_alloc ?_);refine bg (wpAny_layCells _ (λname kind cells=>by cases hkc:kind==wh<;>rfl) _ _ _ _ ?_);exact ab (show({s with heap:=s.heap.push {cls:=.type "dict",data:=.dict #[]}}:ao).heap.objs.size=s.heap.objs.size+1 from tG ..)<|bg (du (du h))
end
section
variable{h₀:bk}{cfg:dC}{C:fE h₀ cfg}{k:Nat}
variable{prog:fA}{w:cW}{A:cP}{E:aw->ao->Prop}{s:ao}{W:az->Prop}{ρ:List az}{st:St}{n0:Nat}{av:AV}
theorem nQ{N:List (bj×dz)}{scope:cQ}{x:bj}:(oZ N scope).lookup x=(scope.names.lookup x).map λk=>if k==.free&&N.lookup x==some .cell then .cell else k:=by
 delta oZ
 induction scope.names with
 |nil=>rfl
 |cons p r R=>
  obtain⟨n,k⟩:=p;refine ab bI ?_;show List.lookup x ((if(k==.free&&N.lookup n==some .cell)=true then(n,.cell)else(n,k))::_)=_;rcases hx:x==n with _|_
  ·by_cases V:(k==.free&&N.lookup n==some .cell)=true
   ·refine ab (if_pos V) ?_;simp only[fa,hx];exact R
   ·refine ab (if_neg V) ?_;simp only[fa,hx];exact R
  ·have e:=beq_iff_eq.mp hx;subst e;refine ab pO ?_;by_cases V:(k==.free&&N.lookup x==some .cell)=true
   ·simp only[if_pos V,pO,aK]
   ·simp only[if_neg V,pO,aK]
structure Cd (K:Ck) (sc:cQ):Prop where
 kind:sc.kind=.function
 co:sc.isCoroutine=false
 R:(sc.names.map (·.1)).Nodup
 free:∀n,(n,dq)∈sc.names->K.names.lookup n=some .cell\/K.names.lookup n=some .free
 look:∀n k,(n,k)∈sc.names->sc.names.lookup n=some k
theorem Lv{K:Ck}{u:cQ}(h:ku K u=true):Cd K u:=by
 delta ku at h;simp only[au,beq_iff_eq,fv,decide_eq_true_eq,aq]at h;refine aN h λo1 O=>aN o1 λH d=>aN H λg Z=>aN g λJ U=>⟨J,Z,d,λn Q=>?_,λn k Q=>?_⟩
 ·have:=O _ Q;simpa using this.1
 ·have:=O _ Q;exact this.2
theorem wU{K:Ck}{env:fZ}{u:cQ}(hE:bZ env K n0)(G:Cd K u){x:bj}(F:u.names.lookup x=some .free){I:Prop}(N:∀c,env.cells.lookup x=some c->(∀L,(dO L u.names (n8 env u.names [])).lookup x=some c)->I):I:=by
 have B:∀n,(n,dq)∈u.names->∃c,env.cells.lookup n=some c:=λn Q=>hE.cB n (by delta iM;exact ab hE.names<|G.free n Q);have T:=mem_of_lookup F;refine aI (B x T) λc V=>N c V (λL=>?_);refine ab (jc ..) (ab vG ?_);rewrite[AQ (l:=dO L u.names [])]
 ·refine aI (yp (env:=env) (acc:= []) (.inl T)) λt R=>aI (hK R) λJ D=>ak (ug B (mem_of_lookup D)) (λh=>?_) λH=>aN H λz h=>?_
  ·rcases h with⟨⟩
  ·rw[V]at h;injection h with S;subst S;refine ab D ?_;rfl
 ·refineλd M=>ak (wC M) (λh=>?_) λh=>?_
  ·rcases h with⟨⟩
  ·have:=G.look _ _ h;rw[F]at this;injection this with S;injection S
noncomputable abbrev uP(u:cQ)(cl:List (bj×az))(L:az)(env:fZ):fZ:={QE u cl L env with scope:=pj u env}
theorem uY{K:Ck}{env:fZ}{u:cQ}{t:kR}{L:az}(hE:bZ env K n0)(G:Cd K u):bZ (uP u (n8 env u.names []) L env) (fP K u t) n0:=by
 have Q:(pj u env).names=oZ K.names u:=by unfold pj oZ;simp only[hE.kind,iM,hE.names,beq_self_eq_true,nx]
 refine⟨hE.tk,G.kind,Q,hE.glob,hE.bi,G.co,λx F=>?_,hE.R⟩;have B:(oZ K.names u).lookup x=some .cell\/(oZ K.names u).lookup x=some .free:=cA Q<|F;rw[nQ]at B;rcases hl:u.names.lookup x with _|H
 ·rw[hl]at B;simp at B
 ·by_cases P:H=.free
  ·subst P;exact wU hE G hl λc z h=>⟨c,h _⟩
  ·rw[hl]at B;have O:(H==dq)=false:=by simpa using P
   simp only[aK,O,mE,bx,if_false,bL]at B;refine ak B (λh=>?_) λh=>?_
   ·subst h;exact aI (mL (n:=L+1) (acc:=n8 env u.names []) (.inl (mem_of_lookup hl))) λc V=>hK V
   ·exact absurd h P
def ownOf(u:cQ)(L:az):az->Prop:=λp=>p=L\/∃x,(x,p)∈dO (L+1) u.names []
theorem KW{K:Ck}{env:fZ}{u:cQ}{L:az}(hE:bZ env K n0)(G:Cd K u){x:bj}(F:u.names.lookup x=some .local\/u.names.lookup x=some .cell):
 ∃ad,mi (uP u (n8 env u.names []) L env) x ad/\ownOf u L ad:=by
 have Q:(pj u env).names=oZ K.names u:=by unfold pj oZ;simp only[hE.kind,iM,hE.names,beq_self_eq_true,nx]
 have I:∀H,u.names.lookup x=some H->H≠.free->(uP u (n8 env u.names []) L env).kindOf x=some H:=by
  intro H h P;show(pj u env).names.lookup x=_;have O:(H==dq)=false:=by simpa using P
  refine ab Q (ab nQ (ab h ?_));simp only[aK,O,mE,bx,if_false]
 refine ak F (λF=>?_) λF=>?_
 ·exact⟨L,.inl ⟨I _ F (by decide),rfl⟩,.inl rfl⟩
 ·refine aI (mL (n:=L+1) (acc:= []) (.inl (mem_of_lookup F))) λc V=>aI (hK V) λt R=>⟨t,.inr ⟨I _ F (by decide),?_⟩,.inr ⟨x,mem_of_lookup R⟩⟩;show(dO (L+1) u.names _).lookup x=_;refine ab (jc ..) (ab vG (ab R ?_));rfl
set_option tactic.hygienic true in
theorem vq{K:Ck}{u:cQ}{t:kR}{i:Nat}:(i∈K.acc.filter λi=>match K.tab[i]? with
 |some x=>u.names.lookup x==some .free&&(K.names.lookup x==some .cell||K.names.lookup x==some .free)
 |none=>false)->i∈K.acc/\∃x,K.tab[i]? =some x/\u.names.lookup x=some .free/\(K.names.lookup x=some .cell\/K.names.lookup x=some .free):=by
 refineλh=>aN (Qa.mp h) λJ U=>⟨J,?_⟩;split at U
 ·rename_i x F;simp only[au,beq_iff_eq,fy]at U;exact⟨x,F,U⟩
 ·exact(aB U).elim
theorem L0{K:Ck}{names:List (bj×dz)}{t:kR}{g:Expr}(h:jV K names t g=true):∀i∈qI t,∃x,K.tab[i]? =some x/\(names.lookup x=some .local\/names.lookup x=some .cell):=by
 have many:∀{I:List Nat} {es:List Expr},es.length=I.length->((I.zip es).all λp=>qH K names p.1 p.2)=true->∀i∈I,∃x,K.tab[i]? =some x/\(names.lookup x=some .local\/names.lookup x=some .cell):=by
  intro I
  induction I with
  |nil=>intro es z z i hi;cases hi
  |cons j I R=>
   intro es X h i hi;cases es with
   |nil=>injection X
   |cons e es=>
    have U:=ba (a:=qH K names j e) h;refine ak (aS.mp hi) (λH=>?_) λhi=>?_;subst H
    ·exact eb (ij U.1) λx p z g=>⟨x,g⟩
    ·exact R (B7 X) U.2 i hi
 cases t with
 |bX i=>
  refine eb (ij (show qH K names i g=true from h)) λx p z g=>?_;exactλj Q=>ab (bS.mp Q)<|⟨x,g⟩
 |many I=>
  exact kB (rO h) λes Z p z f B=>many f B
theorem qY{fr:Bool}{K:Ck}{env:fZ}{e:CE}{t:kR}{q:Loc->Option Bool}{elt tg iter:Expr}{m8:List Expr}{u:cQ}{pos pos':eO}{loc:Loc}{avs total:List AV}{use:Option (aw->jA Unit)}{Q:aw->ao->Prop}
 (hE:bZ env K n0)(hA:i7 k A)(I:EI h₀ K.tab K.acc env W ρ n0 loc st s)(he:Fy C k fr e)
 (hiter:aM (aL C.prog C.w) A (fe iter env) (λxv N=>aM (aL C.prog C.w) A (tX xv) (yb C.prog C.w A W ρ n0 s avs) E N) E s)
 (htests:∀f W' loc' r s E,bZ f (fP K u t) n0->EI h₀ K.tab (fP K u t).acc f W' ρ n0 loc' st s->q loc'=some r->
   aM (aL C.prog C.w) A (forIn m8 true λc r=>if r=true then do let ok<-mT c f (fe c f);pure (bP ok)else pure (bP r)) (sV n0 s r) E s)
 (hfs:∀x,jg iter env x=pure x)(hec:cz (fP K u t) 0 e elt=true)(hg:jV K u.names t tg=true)(hs:Cd K u)(hcap:avs.length<=20000)
 (htot:gm (pV cfg st e t q loc) avs=some total)
 (hQ:∀D L s',n0<=s'.toks->gK s s'->s.heap.get? L=none->s.heap.get? D=none->L≠D->(∃m,s'.heap.Ns L m)->(∃vs,cL "list" s'.heap D vs/\ft (λa=>W a\/a=L) ρ s'.heap vs total/\(fr=true->vs.Nodup/\∀v∈vs,∃a,v=.ref a/\s.heap.get? a=none))->
   compPost (aL C.prog C.w) A E use Q (.ref D) L (.ok .next) s'):
 aM (aL C.prog C.w) A (comprehension (.ListComp elt [⟨tg,iter,m8,0⟩] u pos) u env pos' (newList []) false (fe iter env) use) Q E s:=by
 have hall:∀n,(n,dq)∈u.names->∃c,env.cells.lookup n=some c:=λn hn=>hE.cB n (by delta iM;exact ab hE.names<|hs.free n hn);refine wpAny_comprehension_free (g:=⟨tg,iter,m8,0⟩) (gs:= []) rfl hfs (ql hall) hs.kind (λx F hl=>by have:=hs.look x.1 x.2 F;simp only[hl]at this;exact this)
  (aA hiter (λxv N h₁=>aA h₁ (λit T h₂=>?_) λz z e=>e) λz z e=>e)
 refine ew λY=>?_;obtain⟨ht2,e2,Ia,fp,G,S,rfl,hIt,hS,hfp,hG⟩:=h₂;refine Y ?_;clear Y;refine xZ (GD ?_);generalize hH2:T.heap.push {cls:=.type "list",dict:=none,data:=.seq ([]:List aw).toArray}=H2;have hL:H2.objs.size=T.heap.objs.size+1:=cA hH2 (ab (tG ..) rfl);generalize hh4:pushCells (H2.push {cls:=.type "dict",data:=.dict #[]}) u.names=d;have k2:iu T.heap H2:=λb o e=>hH2▸cC _ e;have k4:iu H2 d:=λb o e=>hh4▸Ye _ _ b o (cC _ e);have k24:iu T.heap d:=λb o e=>k4 b o (k2 b o e);have dead:∀p,T.heap.objs.size<=p->T.heap.get? p=none:=λp B=>by
  rcases e:T.heap.get? p with _|R
  ·rfl
  ·exact absurd (gN e) (i5.mpr B)
 have dead1:∀p,T.heap.objs.size<=p->s.heap.get? p=none:=λp B=>gC e2 (dead p B);have mX:∀p,s.heap.get? p=none->h₀.get? p=none:=λp B=>by
  rcases e:h₀.get? p with _|R
  ·rfl
  ·refine aI (bO.alive I.base p R e) λo2 U=>?_;rw[U]at B;injection B
 have ok:CellsOk d (H2.objs.size+1) (dO (H2.objs.size+1) u.names []):=by have:=cellsFrom_ok u.names (H2.push {cls:=.type "dict",data:=.dict #[]}) (H2.objs.size+1) [] ⟨λz z hm=>absurd hm dy,tJ⟩ (ab (tG ..)<|aV _);rw[tG,hh4]at this;exact this
 have nsL:d.Ns H2.objs.size (λz=>none):=hh4▸(bk.Ns.new H2 (.type "dict")).keeps (Ye _ _);have ownge:∀p,ownOf u H2.objs.size p->T.heap.objs.size<p:=by
  refineλp o3=>ak o3 (λH=>?_) λu2=>aI u2 λx F=>?_;refine ab H ?_
  ·exact ab hL<|og _
  ·have:=(ok.empty x p F).2;lia
 have ownalive:∀p,ownOf u H2.objs.size p->∃o,d.get? p=some o:=by
  refineλp o4=>ak o4 (λH=>?_) λu2=>aI u2 λx F=>?_;refine ab H ?_
  ·exact m6 nsL λo z z M z=>⟨o,M⟩
  ·exact aC ((ok.empty x p F).1) λo M z=>⟨o,M⟩
 have hDD:cL "list" d T.heap.objs.size []:=⟨0,k4 _ _ (hH2▸bV _ rfl)⟩;have fpalive:∀p,fp p->∃o,T.heap.get? p=some o:=hIt.alive _ _ _ _ hS;have hW2:∀a,(W a\/fp a\/a=T.heap.objs.size\/ownOf u H2.objs.size a)->W a\/s.heap.get? a=none:=by
  refineλa o5=>ak o5 (λh=>?_) λH=>ak H (λh=>?_) λu2=>ak u2 (λu3=>?_) λh=>?_;rotate_left 2;refine ab u3 ?_;rotate_right 2
  ·exact .inl h
  ·exact .inr (hfp a h)
  ·exact .inr (dead1 _ (aV _))
  ·exact .inr (dead1 _ (cm (ownge a h)))
 have k04:bO s.heap d:=e2.keep.trans k24.k;have cellalive:∀x c,(x,c)∈n8 env u.names []->env.cells.lookup x=some c:=λx c F=>by
  refine ak (ug hall F) (λh=>?_) λH=>aN H λz h=>?_
  ·rcases h with⟨⟩
  ·exact h
 have cellsplit:∀x c,(x,c)∈dO (H2.objs.size+1) u.names (n8 env u.names [])->(x,c)∈dO (H2.objs.size+1) u.names []\/(x,c)∈n8 env u.names []:=λx c F=>by
  rw[jc]at F;exact dw.mp F
 have oldcell:∀x c,(x,c)∈n8 env u.names []->∃o,s.heap.get? c=some o:=λx c F=>eb (I.frame.cells x c (mem_of_lookup (cellalive x c F))) λv o M z=>⟨o,M⟩;have frm:eo (uP u (n8 env u.names []) H2.objs.size env) d:=by
  refine⟨⟨_,nsL⟩,λx c F=>?_,?_,λx c F=>?_⟩
  ·refine ak (cellsplit x c F) (λh=>?_) λh=>?_
   ·exact⟨_,(ok.empty x c h).1⟩
   ·exact aI (I.frame.cells x c (mem_of_lookup (cellalive x c h))) λv hv=>⟨v,k04.cell hv⟩
  ·show(dO (H2.objs.size+1) u.names (n8 env u.names [])).Pairwise _;refine ab (jc ..)<|Fg.mpr ⟨ok.apart,wW I.frame.apart hall hs.R .nil (λn c F=>by rcases F with⟨⟩),λx F y hy e=>?_⟩;refine aI (oldcell y.1 y.2 hy) λo M=>?_;have:=ownge x.2 (.inr ⟨x.1,F⟩);simp only[e]at this;rw[dead1 _ (cm this)]at M;injection M
  ·show c≠H2.objs.size;refine ak (cellsplit x c F) (λh=>?_) λh=>?_
   ·exact oB (ok.empty x c h).2
   ·refine aI (oldcell x c h) λo M=>?_;intro hc;rw[hc,dead1 H2.objs.size (ab hL<|nu _)]at M;injection M
 have alive2:∀a,(W a\/fp a\/a=T.heap.objs.size\/ownOf u H2.objs.size a)->∃o,d.get? a=some o:=by
  refineλa o6=>ak o6 (λh=>?_) λH=>ak H (λh=>?_) λu2=>ak u2 (λu3=>?_) λh=>?_;rotate_left 2;refine ab u3 ?_;rotate_right 2
  ·exact aI (I.live a h) λo M=>k04.alive _ _ M
  ·exact aI (fpalive a h) λo M=>⟨o,k24 _ _ M⟩
  ·exact aI hDD λn h=>⟨_,h⟩
  ·exact ownalive a h
 have ei:EI h₀ K.tab (K.acc.filter λi=>match K.tab[i]? with
  |some x=>u.names.lookup x==some .free&&(K.names.lookup x==some .cell||K.names.lookup x==some .free)
  |none=>false) (uP u (n8 env u.names []) H2.objs.size env) (λa=>W a\/fp a\/a=T.heap.objs.size\/ownOf u H2.objs.size a) ρ n0 loc st {T with heap:=d}:=by
  refine⟨I.base.trans k04,alive2,ht2,λi hi n hn a J U=>?_,λn l e=>?_,frm,λn l a O e=>.inl (I.nR n l a O e)⟩
  ·obtain⟨g1,x,j,g3,g4⟩:=vq (t:=t) hi;rw[hn]at j;injection j with e_;subst e_;refine aC (I.vars i g1 n hn a J U) λv h3 h4'=>⟨v,.inr ⟨?_,?_⟩,h4'.move hW2 (λz z z z e=>k04.seq e) λz z e=>e⟩
   ·have hn':(pj u env).names=oZ K.names u:=by
     unfold pj oZ;simp only[hE.kind,iM,hE.names,beq_self_eq_true,nx]
    show(pj u env).names.lookup n=_\/(pj u env).names.lookup n=_;refine ab hn'<|ab nQ<|ab g3<|ak g4 (λg4=>?_) λg4=>?_<;>simp[g4]
   ·rcases h3 with⟨q1,_⟩|⟨_,c,q2,q3⟩
    ·delta iM at q1;rw[hE.names]at q1;refine ak g4 (λg4=>?_) λg4=>?_<;>(rw[g4]at q1;injection q1 with e_;injection e_)
    ·refine wU hE hs g3 λc' c1 c2=>?_;rw[q2]at c1;injection c1 with e_;subst e_;exact⟨c,c2 _,k04.cell q3⟩
  ·exact cX (I.store n l e) λa vs J U h3=>⟨a,vs,J,k04.seq U,h3.move hW2 (λz z z z e=>k04.seq e) λz z e=>e⟩
 have notdead:∀{a:az},(∃o,s.heap.get? a=some o)->s.heap.get? a=none->False:=λh0 h'=>aI h0 λo h=>by rw[h]at h';injection h'
 have cells':∀X:az->Prop,(∀p,X p->s.heap.get? p=none)->(∀p,X p->¬ownOf u H2.objs.size p)->∀x c,(x,c)∈(uP u (n8 env u.names []) H2.objs.size env).cells->¬X c:=λX J U x c F P=>by
  refine ak (cellsplit x c F) (λh=>?_) λh=>?_
  ·exact U c P (.inr ⟨x,h⟩)
  ·exact notdead (oldcell x c h) (J c P)
 have fpown:∀p,fp p->¬ownOf u H2.objs.size p:=λp B M=>by
  refine aI (fpalive p B) λo h=>?_;rw[dead p (cm (ownge p M))]at h;injection h
 have Down:∀p,p=T.heap.objs.size->¬ownOf u H2.objs.size p:=λp B M=>by have:=ownge p M;lia
 have S4:S (λa=>W a\/fp a\/a=T.heap.objs.size\/ownOf u H2.objs.size a) ρ 0 {T with heap:=d}:=
  hIt.frame _ _ _ _ 0 _ _ hS (λa h=>by
   refine ak h (λh=>?_) λH=>ak H (λh=>?_) λu2=>ak u2 (λu3=>?_) λh=>?_;rotate_left 2;refine ab u3 ?_;rotate_right 2
   ·exact .inl (.inl h)
   ·exact .inl (.inr h)
   ·exact .inr (dead _ (aV _))
   ·exact .inr (dead _ (cm (ownge a h)))) (λb o z e z=>k24 b o e) (λz z e=>e) λz z=>rfl
 have loop:M4 (aL C.prog C.w) A (.compLoop (.ListComp elt [⟨tg,iter,m8,0⟩] u pos) 0 (.ref Ia) (.ref T.heap.objs.size) (uP u (n8 env u.names []) H2.objs.size env))
  (compPost (aL C.prog C.w) A E use Q (.ref T.heap.objs.size) H2.objs.size) {T with heap:=d}:=by
  refine Jh (fr:=fr) (K:=fP K u t) (W:=λa=>W a\/fp a\/a=T.heap.objs.size\/ownOf u H2.objs.size a) (ρ:=ρ) (n0:=n0) (fp:=fp) (own:=ownOf u H2.objs.size) (names:=u.names) (loc:=loc) (st:=st) (q:=q) (t:=t) (s₀:={T with heap:=d}) he hA hIt (uY hE hs) rfl ?_ hE.R
   (λloc' r s E J U=>htests _ _ loc' r s E (uY hE hs) J U) hec hg (λx F=>KW hE hs F) ?_ (λp B=>.inr (.inr (.inr B))) (λp B=>mX p (dead1 p (cm (ownge p B)))) ?_ ?_ (Down _ rfl) ?_ fpown (λp B=>B.imp id λo1_=>aI o1_ λx F=>⟨x,by show(x,p)∈dO (H2.objs.size+1) u.names (n8 env u.names []);exact ab (jc ..)<|fo _ F⟩)
   (λg hg=>(hG g hg).2) hcap htot ?_ ⟨ei,frm,S4,.refl _,[],hDD,.nil,λz=>⟨Rw,λv hv=>nomatch hv⟩⟩
  ·intro i hi hi';obtain⟨g1,x,j,g3,g4⟩:=vq (t:=t) hi;refine aC (L0 hg i hi') λx' J U=>?_;rw[j]at J;injection J with e_;subst e_;rw[g3]at U;exact absurd U (by decide)
  ·exact⟨λp B=>.inr (.inl B),λp B=>mX p (hfp p B),λn l a O e B=>notdead ((λn l a O e=>I.live a (I.nR n l a O e)) n l a O e) (hfp a B),λB=>fpown _ B (.inl rfl),cells' _ hfp fpown⟩
  ·exactλn l a O e M=>notdead ((λn l a O e=>I.live a (I.nR n l a O e)) n l a O e) (dead1 a (cm (ownge a M)))
  ·refine⟨λp B=>.inr (.inr (.inl B)),λp B=>mX p (dead1 p (tR B.symm)),λn l a O e B=>notdead ((λn l a O e=>I.live a (I.nR n l a O e)) n l a O e) (dead1 a (tR B.symm)),λB=>?_,cells' _ (λp B=>dead1 p (tR B.symm)) Down⟩;have B:H2.objs.size=T.heap.objs.size:=B;lia
  ·refineλB=>aI (fpalive _ B) λo h=>?_;rw[cO]at h;injection h
  ·refineλs' t' Z V o7=>gB o7 λvs hD' hv' hnd'=>hQ _ _ s' t' ⟨λb o e=>?_,?_,?_,λg hg=>?_,λh=>Z.bare (e2.bare h)⟩ (dead1 H2.objs.size (ab hL<|nu _)) (dead1 _ (aV _)) (ab hL<|Nat.succ_ne_self _) V.ns ⟨vs,hD',hv'.move (λa h=>.inl (h.imp id λh=>.inr (.inr (.inl h)))) (λz z z z e=>e) λz z e=>e,λe=>⟨(hnd' e).1,λv hv=>aC ((hnd' e).2 v hv) λa J U=>⟨a,J,by
    rcases h0:s.heap.get? a with _|o
    ·rfl
    ·refine aI (k04.alive a o h0) λR h'=>?_;rw[h']at U;injection U⟩⟩⟩
   ·refine aC (k04 b o e) λo1 J g1=>?_;have P:¬(fp b\/ownOf u H2.objs.size b\/b=T.heap.objs.size):=by
     refineλo8=>ak o8 (λh=>?_) λH=>ak H (λh=>?_) λh=>?_
     ·exact notdead ⟨o,e⟩ (hfp b h)
     ·exact notdead ⟨o,e⟩ (dead1 b (cm (ownge b h)))
     ·exact notdead ⟨o,e⟩ (dead1 b (tR h.symm))
    exact aC (Z.keep b o1 (.inl P) J) λo2 U j=>⟨o2,U,g1.trans j λc q=>Z.keep.code⟩
   ·exact Z.os.trans e2.os
   ·exact aP e2.hJ Z.hJ
   ·refine(Z.gens g (be hg e2.hJ) λh=>?_).trans (e2.gens g hg);exact absurd (hG g h).1 (jE.mpr hg)
 exact codeAny_compStart_list loop (hIt.self _ _ _ _ _ _ S4 loop)
theorem mm{f g:AV->Option (Option AV)}(h:∀v,f v=g v):∀l,gm f l=gm g l:=by have:f=g:=funext h;exactλl=>ab this rfl
theorem lQ{l:List AV}(h:fQ st av=some l):l.length<=20000:=by
 rcases av with⟨⟩<;>first|(injection h;done)|skip
 ·refine m8 h λB S=>?_;subst S;exact ab (aY ..)<|aP B (by decide)
 ·refine m8 h λB S=>?_;subst S;exact aP B (by decide)
theorem Gk{M:CE->Prop}{it:CE}(h:Ek it=true)(m:∀i,M (.a i))(S:∀l,M (.j l))(K:∀a,M (.K a)):M it:=
 (jm.mp h).elim (λh=>CE.Vr (motive_1:=M) it (eq_of_beq h) m) λh=>(jm.mp h).elim (λh=>CE.Jm (motive_1:=M) it (eq_of_beq h) S) λh=>CE.Sf (motive_1:=M) it (eq_of_beq h) K
theorem lD{K:Ck}{it:CE}{i:Expr}{env:fZ}(hi:Ek it=true)(h:cz K 2 it i=true):∀x,jg i env x=pure x:=by
 revert h;refine Gk (M:=λit=>cz K 2 it i=true->_) hi (λj h=>?_) (λl h=>?_) λa h=>?_
 ·refine qB h λx p e=>ab e ?_;intro x;rfl
 ·refine vz h λf p D pos e=>ab e ?_;intro x;rfl
 ·refine vw h λf p y pos e=>ab e ?_;intro x;rfl
theorem uQ{K':Ck}{c:CE}{y:Expr}{loc':Loc}{r:Bool}{f:fZ}{W':az->Prop}(V:iz C k c)(hA:i7 k A)(hE:bZ f K' n0)(I:EI h₀ K'.tab K'.acc f W' ρ n0 loc' st s)
 (S:xI c=true)(B:cz K' 1 c y=true)(D:(do cU st (<-ev cfg st c loc'))=some r):
 aM (aL C.prog C.w) A (forIn [y] true λc r=>if r=true then do let ok<-mT c f (fe c f);pure (bP ok)else pure (bP r)) (sV n0 s r) E s:=dn D λa J U=>wpAny_tests_one (V _ _ _ _ _ _ _ _ _ _ _ _ _ hE hA I J U S B)
theorem wY{D L:az}{m:bj->Option aw}{s':ao}{l:List AV}{h':bk}{vs:List aw}(I:j6 W s.heap)(t':n0<=s'.toks)(B:gK s s')(X:s.heap.get? L=none)(Z:s.heap.get? D=none)(R:L≠D)
 (G:cL "list" s'.heap D vs)(F:ft (λa=>W a\/a=L) ρ s'.heap vs l)(P:lb L s'.heap h')(T:s'.heap.Ns L m):wj W ρ n0 s (.lst l) (.ref D) {s' with heap:=h'}:=by
 refine aI G λn G=>?_;have k0:bO s.heap h':=cD.after B.keep (cD.Wl T P) λp o e q=>by have q:p=L:=q;subst q;rw[X]at e;injection e
 refine⟨t',⟨k0,B.os,B.hJ,B.gens,B.bare⟩,.lst (I.fresh Z) ⟨n,P.extBut _ _ (ib R) G⟩ (F.move (λa h=>.inl (.inl h)) (pT λb o O e=>P.extBut b o (λq=>O (.inr q)) e) λz z e=>e)⟩
theorem Mc{e it:CE}{t:kR}(F:bU C k e)(hi:oE C k it):bU C k (.comp e t it):=by
 intro K env x loc av W ρ n0 st A s E hE hA I M V;refine ew λY=>Oj V λx b i u pos o1=>?_;subst o1;have V:(cz (fP K u t) 0 e x&&jV K u.names t b&&cz K 2 it i&&Ek it&&ku K u)=true:=V;have H:=(ba V).2;refine dn M λd J M=>dn M λavs U M=>dn M λl Z M=>Y ?_;clear Y;refine cA (ay M)<|qY (q:=λz=>some true) (e:=e) (t:=t) hE hA I F.elt (hi _ _ _ _ _ _ _ _ _ _ _ _ _ hE hA I J U ((ba (ba V).1).2) ((ba (ba (ba V).1).1).2)) (λf W' loc' r s E J U Z=>?_) (lD ((ba (ba V).1).2) ((ba (ba (ba V).1).1).2)) ((ba (ba (ba (ba V).1).1).1).1) ((ba (ba (ba (ba V).1).1).1).2) (Lv H) (lQ U) (total:=l) ?_ ?_
 ·injection Z with S;subst S;exact Cb ⟨rfl,U.tok,.refl _⟩
 ·refine cA Z<|mm (λv=>?_) avs;rfl
 ·exactλD L s' t' B X N R Q j=>aI Q λm T=>gB j λvs G O z=>⟨m,T,λh' P=>wY I.live t' B X N R G O P T⟩
theorem Hr{e it c:CE}{t:kR}(F:bU C k e)(hi:oE C k it)(S:iz C k c):bU C k (.y e t it c):=by
 intro K env x loc av W ρ n0 st A s E hE hA I M V;refine ew λY=>Eg V λx b i y u pos g=>?_;subst g;have V:(cz (fP K u t) 0 e x&&jV K u.names t b&&cz K 2 it i&&Ek it&&xI c&&cz (fP K u t) 1 c y&&ku K u)=true:=V;have N:=(ba (ba (ba (ba (ba V).1).1).1).1).2;have h:=(ba (ba (ba (ba V).1).1).1).2;have H:=(ba V).2;refine dn M λd J M=>dn M λavs U M=>dn M λl Z M=>Y ?_;clear Y;refine cA (ay M)<|qY (q:=λloc'=>do cU st (<-ev cfg st c loc')) (e:=e) (t:=t) hE hA I F.elt (hi _ _ _ _ _ _ _ _ _ _ _ _ _ hE hA I J U h N) (λf W' loc' r s E J U Z=>uQ S hA J U ((ba (ba (ba V).1).1).2) ((ba (ba V).1).2) Z) (lD h N) ((ba (ba (ba (ba (ba (ba V).1).1).1).1).1).1) ((ba (ba (ba (ba (ba (ba V).1).1).1).1).1).2) (Lv H) (lQ U) (total:=l) ?_ ?_
 ·refine cA Z<|mm (λv=>?_) avs;delta pV;simp only[aj,MG,aJ]
 ·exactλD L s' t' B X O R Q j=>aI Q λm T=>gB j λvs G a z=>⟨m,T,λh' P=>wY I.live t' B X O R G a P T⟩
end
section
variable{h₀:bk}{cfg:dC}{C:fE h₀ cfg}{k:Nat}
theorem Nn{K:Ck}{o p:kF}{a b c:CE}{x:Expr}:cz K 0 (.B o p a b c) x=false:=ju λz=>rfl
theorem Nm{K:Ck}{a:CE}{x:Expr}:cz K 0 (.C a) x=false:=ju λz=>rfl
theorem Nl{K:Ck}{a:List CE}{x:Expr}:cz K 0 (.band a) x=false:=ju λz=>rfl
theorem RU{K:Ck}{a:List CE}{x:Expr}:cz K 0 (.bor a) x=false:=ju λz=>rfl
theorem FL{K:Ck}{a:List CE}{x:Expr}:cz K 0 (.j a) x=false:=ju λz=>rfl
theorem Nq{K:Ck}{a:CE}{x:Expr}:cz K 0 (.K a) x=false:=ju λz=>rfl
theorem Np{K:Ck}{a:CE}{x:Expr}:cz K 0 (.M a) x=false:=ju λz=>rfl
theorem nT{e:CE}(h:∀K x,cz K 0 e x=false):bU C k e:=λK env x loc av W ρ n0 st A s E z z z z V=>absurd (h K x) (by refine ab V ?_;decide)
theorem cg{e:CE}(h:xI e=false):iz C k e:=λK env x loc av r W ρ n0 st A s E z z z z z S z=>absurd h (by refine ab S ?_;decide)
theorem bM{e:CE}(h:Ek e=false):oE C k e:=λK env x loc av r W ρ n0 st A s E z z z z z S z=>absurd h (by refine ab S ?_;decide)
structure Hand (C:fE h₀ cfg) (k:Nat):Prop where
 o:Qm C k cfg.O
 rev:∀a,bU C k a->oE C k (.K a)
theorem sv(H:Hand C k)(e:CE):bU C k e/\iz C k e/\oE C k e:=
 CE.rec (motive_1:=λe=>bU C k e/\iz C k e/\oE C k e) (motive_2:=λl=>∀e∈l,bU C k e/\iz C k e)
  ⟨Mj,cg rfl,bM rfl⟩
  (λz=>⟨vY,cg rfl,bM rfl⟩)
  (λz=>⟨EX,cg rfl,bM rfl⟩)
  (λz=>⟨ur,cg rfl,bM rfl⟩)
  (λz=>⟨kz,vT,Ki⟩)
  (λz=>⟨Mf,cg rfl,bM rfl⟩)
  (λz z z B D=>⟨EW B.1 D.1,cg rfl,bM rfl⟩)
  (λz B=>⟨PO B.1,cg rfl,bM rfl⟩)
  (λz B=>⟨PM B.1,cg rfl,bM rfl⟩)
  (λz z B D=>⟨PQ B.1 D.1,cg rfl,bM rfl⟩)
  (λz z z B D=>⟨PK B.1 D.1,Bp B.1 D.1,bM rfl⟩)
  (λz z z z z B D ch=>⟨nT λz z=>Nn,Hj B.1 D.1 ch.1,bM rfl⟩)
  (λz B=>⟨nT λz z=>Nm,LX B.2.1,bM rfl⟩)
  (λz A=>⟨nT λz z=>Nl,LW (λe h=>(A e h).2),bM rfl⟩)
  (λz A=>⟨nT λz z=>RU,PE (λe h=>(A e h).2),bM rfl⟩)
  (λz z z F B D=>⟨PL F.2.1 B.1 D.1,cg rfl,bM rfl⟩)
  (λz A=>⟨Mi (λe h=>(A e h).1),cg rfl,bM rfl⟩)
  (λz A=>⟨Hv (λe h=>(A e h).1),cg rfl,bM rfl⟩)
  (λz z B R=>⟨PS B.1 R.1,cg rfl,bM rfl⟩)
  (λz z B R=>⟨EY B.1 R.1,LY B.1 R.1,bM rfl⟩)
  (λz z B R=>⟨EZ B.1 R.1,LZ B.1 R.1,bM rfl⟩)
  (λz z z B R I=>⟨PR B.1 R.1 I.1,cg rfl,bM rfl⟩)
  (λz B=>⟨PN B.1,cg rfl,bM rfl⟩)
  (λz A=>⟨Dm (λe h=>(A e h).1),cg rfl,bM rfl⟩)
  (λz B=>⟨Ma B.1,cg rfl,bM rfl⟩)
  (λz B=>⟨Mb B.1,cg rfl,bM rfl⟩)
  (λz z B D=>⟨Hq B.1 D.1,cg rfl,bM rfl⟩)
  (λz B=>⟨Me B.1,cg rfl,bM rfl⟩)
  (λz B=>⟨Dn B.1,cg rfl,bM rfl⟩)
  (λz B=>⟨Md B.1,cg rfl,bM rfl⟩)
  (λz B=>⟨L9 B.1,cg rfl,bM rfl⟩)
  (λz z B D=>⟨Dl B.1 D.1,cg rfl,bM rfl⟩)
  (λz B=>⟨Hu B.1,cg rfl,bM rfl⟩)
  (λz B=>⟨Hw B.1,cg rfl,bM rfl⟩)
  (λz z z B=>⟨Mk B.1,cg rfl,bM rfl⟩)
  (λz B=>⟨Mh B.1,cg rfl,bM rfl⟩)
  (λz z B D=>⟨Ht B.1 D.1,cg rfl,bM rfl⟩)
  (λz B=>⟨Dk B.1,cg rfl,bM rfl⟩)
  (λz B=>⟨Mg B.1,cg rfl,bM rfl⟩)
  (λz B=>⟨Hs B.1,cg rfl,bM rfl⟩)
  (λz z A=>⟨Bw H.o (λe h=>(A e h).1),Hi (Bw H.o (λe h=>(A e h).1)),bM rfl⟩)
  (λz z z G E=>⟨Mc G.1 E.2.2,cg rfl,bM rfl⟩)
  (λz z z z G E ch=>⟨Hr G.1 E.2.2 ch.2.1,cg rfl,bM rfl⟩)
  (λz A=>⟨nT λz z=>FL,cg rfl,CO (λe h=>(A e h).1)⟩)
  (λa B=>⟨nT λz z=>Nq,cg rfl,H.rev a B.1⟩)
  (λz z=>⟨nT λz z=>Np,cg rfl,bM rfl⟩)
  (λz h=>nomatch h) (λa l B A e h=>ak (aS.mp h) (λh=>ab h ⟨B.1,B.2.1⟩) (A e)) e
theorem UD(H:Hand C k)(l:List CE):∀e∈l,bU C k e:=λe z=>(sv H e).1
end
section
variable{h₀:bk}{cfg:dC}{C:fE h₀ cfg}{k:Nat}
variable{prog:fA}{w:cW}{A:cP}{E:aw->ao->Prop}{s s' s₀:ao}{W W' W0:az->Prop}{ρ ρ':List az}{st st':St}{n0:Nat}{av:AV}{K:Ck}{env:fZ}{loc loc':Loc}
def j7(env:fZ):az->Prop:=λp=>p=env.locals\/∃x,(x,p)∈env.cells
def Mu(env:fZ)(ρ:List az)(st:St):az->Prop:=λp=>j7 env p\/∃(n:Nat) (l:List AV),st[n]? =some (some l)/\ρ[n]? =some p
structure Rp (h₀:bk) (K:Ck) (env:fZ) (n0:Nat) (W0:az->Prop) (s₀:ao) (loc:Loc) (st:St) (W:az->Prop) (ρ:List az) (s:ao):Prop where
 ei:EI h₀ K.tab K.acc env W ρ n0 loc st s
 own:∀p,j7 env p->W p
 len:ρ.length=st.length
 inj:∀(n m:Nat) (l l':List AV) (p:az),st[n]? =some (some l)->st[m]? =some (some l')->ρ[n]? =some p->ρ[m]? =some p->n=m
 me:∀(n:Nat) (l:List AV) (p:az),st[n]? =some (some l)->ρ[n]? =some p->¬j7 env p
 new:∀p,Mu env ρ st p->s₀.heap.get? p=none
 ext:gK s₀ s
 w0:∀p,W0 p->W p
 b0:bO h₀ s₀.heap
 l0:j6 W0 s₀.heap
structure j8 (env:fZ) (ρ:List az) (st:St) (W:az->Prop) (s:ao) (ρ':List az) (st':St) (W':az->Prop) (s':ao):Prop where
 w:∀p,W' p->W p\/s.heap.get? p=none
 wk:∀p,W p->(∃o,s.heap.get? p=some o)->¬Mu env ρ st p->W' p
 mu:∀p,Mu env ρ' st' p->Mu env ρ st p\/s.heap.get? p=none
 nR:∀(n:Nat) (a:az),ρ[n]? =some a->ρ'[n]? =some a
 keep:cD (Mu env ρ st) s.heap s'.heap
 alive:∀b o,s.heap.get? b=some o->∃o',s'.heap.get? b=some o'
 os:s'.os=s.os
 hJ:s.gens.size<=s'.gens.size
 gens:∀g,g<s.gens.size->s'.gens[g]? =s.gens[g]?
 bare:wb s.gens->wb s'.gens
theorem rm{h h':bk}{p:az}(X:∀b o,h.get? b=some o->∃R,h'.get? b=some R)(Q:h'.get? p=none):h.get? p=none:=by
 rcases e:h.get? p with _|o
 ·rfl
 ·refine aI (X p o e) λR U=>?_;rw[U]at Q;injection Q
theorem j8.trans{D G P:List az}{F H S:St}{I Y Z:az->Prop}{N T X:ao}(x:j8 env D F I N G H Y T)(y:j8 env G H Y T P S Z X):j8 env D F I N P S Z X where
 w:=λp B=>(y.w p B).elim (x.w p) λh=>.inr (rm x.alive h)
 wk:=λp B L l=>y.wk p (x.wk p B L l) (aI L λo h=>x.alive p o h) λq=>(x.mu p q).elim l λh=>by refine aI L λo M=>?_;rw[h]at M;injection M
 mu:=λp B=>(y.mu p B).elim (x.mu p) λh=>.inr (rm x.alive h)
 nR:=λn a h=>y.nR n a (x.nR n a h)
 keep:=λb o O e=>by
  refine aC (x.keep b o O e) λo1 J f=>?_;have i:¬Mu env G H b\/yi o1:=O.imp (λQ h=>(x.mu b h).elim Q λh=>by rw[e]at h;injection h) λV=>ab (f.nt (vK V))<|V;exact aC (y.keep b o1 i J) λr U j=>⟨r,U,f.trans j λc q=>cD.code y.keep⟩
 alive:=λb o e=>aI (x.alive b o e) λR h=>y.alive b R h
 os:=y.os.trans x.os
 hJ:=aP x.hJ y.hJ
 gens:=λg d=>(y.gens g (be d x.hJ)).trans (x.gens g d)
 bare:=λh=>y.bare (x.bare h)
theorem j8.ext(e:gK s s'):j8 env ρ st W s ρ st W s' where
 w:=λp h=>.inl h
 wk:=λp h z z=>h
 mu:=λp h=>.inl h
 nR:=λz z h=>h
 keep:=λb o z h=>e.keep b o h
 alive:=λb o h=>e.keep.alive b o h
 os:=e.os
 hJ:=e.hJ
 gens:=e.gens
 bare:=e.bare
theorem j8.refl:j8 env ρ st W s ρ st W s:=.ext (.refl s)
theorem j8.Ri(e:DK (j7 env) s s')(F:eo env s.heap):j8 env ρ st W s ρ st W s' where
 w:=λp h=>.inl h
 wk:=λp h z z=>h
 mu:=λp h=>.inl h
 nR:=λz z h=>h
 keep:=cD.weaken (X:=j7 env) (.of e.keep λb o O h=>F.Xp O h) λp h=>.inl h
 alive:=e.live
 os:=by refine ej e.rest λh' tk j=>?_;subst j;rfl
 hJ:=ej e.rest λh' tk u=>ab u<|aV _
 gens:=ej e.rest λh' tk Q=>ab Q<|λz z=>rfl
 bare:=ej e.rest λh' tk c=>ab c<|id
theorem Rp.mX(R:Rp h₀ K env n0 W0 s₀ loc st W ρ s){p:az}(h:s₀.heap.get? p=none):h₀.get? p=none:=by
 rcases e:h₀.get? p with _|o
 ·rfl
 ·refine aI (bO.alive R.b0 p o e) λr U=>?_;rw[U]at h;injection h
theorem Rp.KH(R:Rp h₀ K env n0 W0 s₀ loc st W ρ s){p:az}(h:Mu env ρ st p):W p:=by
 refine ak h (λh=>?_) λH=>eb H λn l J U=>?_
 ·exact R.own p h
 ·exact R.ei.nR n l p J U
theorem Rp.step(R:Rp h₀ K env n0 W0 s₀ loc st W ρ s)(e:gK s s')(S:n0<=s'.toks):Rp h₀ K env n0 W0 s₀ loc st W ρ s':=
 ⟨R.ei.ext e S,R.own,R.len,R.inj,R.me,R.new,R.ext.trans e,R.w0,R.b0,R.l0⟩
theorem Rp.ext'(R:Rp h₀ K env n0 W0 s₀ loc st W ρ s){ρ':List az}{st':St}{W':az->Prop}(x:j8 env ρ st W s ρ' st' W' s'):gK s₀ s' where
 keep:=cD.after R.ext.keep x.keep λb o e h=>by have:=R.new b h;rw[e]at this;injection this
 os:=x.os.trans R.ext.os
 hJ:=aP R.ext.hJ x.hJ
 gens:=λg d=>(x.gens g (be d R.ext.hJ)).trans (R.ext.gens g d)
 bare:=λh=>x.bare (R.ext.bare h)
theorem Rp.Ri(R:Rp h₀ K env n0 W0 s₀ loc st W ρ s)(e:DK (j7 env) s s')(F:eo env s'.heap)(V:zO K.tab K.acc env W ρ s'.heap loc')(S:n0<=s'.toks):Rp h₀ K env n0 W0 s₀ loc' st W ρ s' where
 ei:=by
  refine⟨cD.after R.ei.base (.of e.keep λb o O h=>R.ei.frame.Xp O h) λb o h q=>?_,λp B=>?_,S,V,λn l h=>?_,F,R.ei.nR⟩
  ·have:=R.mX (R.new b (.inl q));rw[h]at this;injection this
  ·exact aI (R.ei.live p B) λo M=>e.live p o M
  ·exact cX (R.ei.store n l h) λa vs J D Z=>aI D λm U=>⟨a,vs,J,⟨m,e.keep _ _ (R.me n l a h J) U⟩,Z.move (λz q=>.inl q) (pT λb o O h=>e.keep b o (λq=>O (R.own b q)) h) λz z e=>e⟩
 own:=R.own
 len:=R.len
 inj:=R.inj
 me:=R.me
 new:=R.new
 ext:=R.ext' (j8.Ri (ρ:=ρ) (st:=st) (W:=W) e R.ei.frame)
 w0:=R.w0
 b0:=R.b0
 l0:=R.l0
theorem Rp.by(R:Rp h₀ K env n0 W0 s₀ loc st W ρ s){X:az->Prop}{G:Nat->Prop}(b:By X G s s')(P:∀p,X p->W p/\¬Mu env ρ st p/\s₀.heap.get? p=none)(L:∀p,X p->∃o,s'.heap.get? p=some o)
 (D:∀g,G g->s₀.gens.size<=g)(S:n0<=s'.toks):Rp h₀ K env n0 W0 s₀ loc st W ρ s' where
 ei:=R.ei.by ⟨λp h=>(P p h).1,λp h=>R.mX (P p h).2.2,λn l a J U h=>(P a h).2.1 (.inr ⟨n,l,J,U⟩),λh=>(P _ h).2.1 (.inl (.inl rfl)),λx c V h=>(P c h).2.1 (.inl (.inr ⟨x,V⟩))⟩ b.keep L S
 own:=R.own
 len:=R.len
 inj:=R.inj
 me:=R.me
 new:=R.new
 ext:=⟨cD.after R.ext.keep b.keep (λp o e h=>by have:=(P p h).2.2;rw[e]at this;injection this),b.os.trans R.ext.os,aP R.ext.hJ b.hJ,
  λg d=>(b.gens g (be d R.ext.hJ) λh=>absurd (D g h) (jE.mpr d)).trans (R.ext.gens g d),λh=>b.bare (R.ext.bare h)⟩
 w0:=R.w0
 b0:=R.b0
 l0:=R.l0
theorem Rp.wide(R:Rp h₀ K env n0 W0 s₀ loc st W ρ s)(e:gK s s')(S:n0<=s'.toks){W':az->Prop}(J:∀p,W p->W' p)(U:∀p,W' p->W p\/(s.heap.get? p=none/\∃o,s'.heap.get? p=some o)):
 Rp h₀ K env n0 W0 s₀ loc st W' ρ s' where
 ei:=by
  have hW:∀a,W' a->W a\/s.heap.get? a=none:=λa h=>(U a h).imp id (·.1);refine⟨bO.trans R.ei.base e.keep,λp B=>?_,S,λi hi x F a L N=>?_,λn l h=>?_,R.ei.frame.by λb o z h Q=>e.keep.nt h Q,λn l a x y=>J a (R.ei.nR n l a x y)⟩
  ·refine ak (U p B) (λh=>?_) λH=>aN H λz h=>?_
   ·exact aI (R.ei.live p h) λo M=>e.keep.alive _ _ M
   ·exact h
  ·exact aC (R.ei.vars i hi x F a L N) λv Z d=>⟨v,Z.keep e.keep,d.move hW (λz z z z h=>e.keep.seq h) λz z e=>e⟩
  ·exact cX (R.ei.store n l h) λa vs Z d O=>⟨a,vs,Z,e.keep.seq d,O.move hW (λz z z z h=>e.keep.seq h) λz z e=>e⟩
 own:=λp h=>J p (R.own p h)
 len:=R.len
 inj:=R.inj
 me:=R.me
 new:=R.new
 ext:=R.ext.trans e
 w0:=λp h=>J p (R.w0 p h)
 b0:=R.b0
 l0:=R.l0
theorem j8.wide(e:gK s s'){W':az->Prop}(J:∀p,W p->W' p)(U:∀p,W' p->W p\/s.heap.get? p=none):j8 env ρ st W s ρ st W' s':=
 {(j8.ext (env:=env) (ρ:=ρ) (st:=st) (W:=W) e)with w:=U,wk:=λp h z z=>J p h}
theorem j8.by{ρ':List az}{st':St}{W':az->Prop}{l:ao}(x:j8 env ρ st W s ρ' st' W' s'){X:az->Prop}{G:Nat->Prop}(b:By X G s' l)(P:∀p,X p->s.heap.get? p=none)(L:∀p,X p->∃o,l.heap.get? p=some o)
 (D:∀g,G g->s.gens.size<=g):j8 env ρ st W s ρ' st' W' l where
 w:=x.w
 wk:=x.wk
 mu:=x.mu
 nR:=x.nR
 keep:=λp o B e=>aC (x.keep p o B e) λo1 J f=>aC (b.keep p o1 (.inl λh=>by have:=P p h;rw[e]at this;injection this) J) λr U j=>⟨r,U,f.trans j λc q=>cD.code b.keep⟩
 alive:=λp o e=>by
  by_cases h:X p
  ·exact L p h
  ·refine ew λY=>aI (x.alive p o e) λR M=>aC (b.keep p R (.inl h) M) λr U z=>Y ?_;clear Y;exact⟨r,U⟩
 os:=b.os.trans x.os
 hJ:=aP x.hJ b.hJ
 gens:=λg d=>(b.gens g (be d x.hJ) λh=>absurd (D g h) (jE.mpr d)).trans (x.gens g d)
 bare:=λh=>b.bare (x.bare h)
theorem bZ.own(hE:bZ env K n0){x:bj}(F:K.names.lookup x=some .local\/K.names.lookup x=some .cell):∃ad,mi env x ad/\j7 env ad:=by
 refine ak F (λF=>?_) λF=>?_
 ·exact⟨env.locals,.inl ⟨by delta iM;exact ab hE.names<|F,rfl⟩,.inl rfl⟩
 ·have I:env.kindOf x=some .cell:=by delta iM;exact ab hE.names<|F
  exact aI (hE.cB x (.inl I)) λc V=>⟨c,.inr ⟨I,V⟩,.inr ⟨x,mem_of_lookup V⟩⟩
theorem fm{t:kR}{g:Expr}{v:aw}{Q:Unit->ao->Prop}(hh:A.handled=none)(hE:bZ env K n0)(R:Rp h₀ K env n0 W0 s₀ loc st W ρ s)(d:fg K t g=true)(O:cT loc t av=some loc')(D:VR W ρ s.heap v av)
 (h:∀s',Rp h₀ K env n0 W0 s₀ loc' st W ρ s'->j8 env ρ st W s ρ st W s'->Q () s'):aM (aL prog w) A (lj g env v) Q E s:=by
 refine bY R.ei.tok (qh (own:=j7 env) hh hE.kind hE.R R.own (λx B=>hE.own B) d O R.ei.frame R.ei.vars D λs' S F V G=>?_);exact h s' (R.Ri S F (λi hi x B a L N=>V i (fo _ hi) x B a L N) G) (.Ri S R.ei.frame)
theorem Rp.Kj{L:az}{h':bk}{m:bj->Option aw}(H:s.heap.Ns L m)(R:Rp h₀ K env n0 W0 s₀ loc st (λp=>W p\/p=L) ρ s)(X:¬W L)(T:¬Mu env ρ st L)(Y:s₀.heap.get? L=none)(G:lb L s.heap h'):Rp h₀ K env n0 W0 s₀ loc st W ρ {s with heap:=h'}:=by
 have I:∀b o,b≠L->s.heap.get? b=some o->h'.get? b=some o:=G.extBut;refine⟨⟨cD.after R.ei.base (cD.Wl H G) λb o e q=>?_,λp B=>?_,R.ei.tok,λi hi x F a D N=>?_,λn l e=>?_,R.ei.frame.by λb o O e z=>I b o (λq=>T (.inl (q▸O))) e,λn l a e1 e2=>(λp h B=>h.elim id λe=>absurd (e▸B) T) a (R.ei.nR n l a e1 e2) (.inr ⟨n,l,e1,e2⟩)⟩,
  λp B=>(λp h B=>h.elim id λe=>absurd (e▸B) T) p (R.own p B) (.inl B),R.len,R.inj,R.me,R.new,⟨cD.after R.ext.keep (cD.Wl H G) (λb o e q=>by have q:b=L:=q;subst q;rw[Y]at e;injection e),R.ext.os,R.ext.hJ,R.ext.gens,R.ext.bare⟩,λp B=>(R.w0 p B).elim id λe=>?_,R.b0,R.l0⟩
 ·have q:b=L:=q;subst q;have:=R.mX Y;rw[e]at this;injection this
 ·exact aI (R.ei.live p (.inl B)) λo M=>⟨o,I p o (λq=>X (q▸B)) M⟩
 ·refine aC (R.ei.vars i hi x F a D N) λv J U=>⟨v,?_,(λx=>x.move (λz q=>.inl (.inl q)) (pT λb o O e=>I b o (λq=>O (.inr q)) e) λz z e=>e) U⟩;rcases J with⟨t,m,V,j⟩|⟨t,c,V,j⟩
  ·exact .inl ⟨t,m,V.at' λo e=>I _ o (λq=>T (.inl (.inl q.symm))) e,j⟩
  ·exact aC j λo M u=>.inr ⟨t,c,V,o,I c o (λq=>T (.inl (.inr ⟨x,q▸mem_of_lookup V⟩))) M,u⟩
 ·exact cX (R.ei.store n l e) λa vs J S Z=>aI S λm U=>⟨a,vs,J,⟨m,I _ _ (λq=>T (.inr ⟨n,l,e,q▸J⟩)) U⟩,(λx=>x.move (λz q=>.inl (.inl q)) (pT λb o O e=>I b o (λq=>O (.inr q)) e) λz z e=>e) Z⟩
 ·subst e;refine aI (R.l0 p B) λo M=>?_;rw[Y]at M;injection M
theorem j8.Kj{L:az}{h':bk}{m:bj->Option aw}{ρ':List az}{st':St}(H:s'.heap.Ns L m)(x:j8 env ρ st W s ρ' st' (λp=>W' p\/p=L) s')(X:s.heap.get? L=none)(G:lb L s'.heap h'):j8 env ρ st W s ρ' st' W' {s' with heap:=h'} where
 w:=λp h=>x.w p (.inl h)
 wk:=λp h B T=>(x.wk p h B T).elim id λe=>by subst e;refine aI B λo M=>?_;rw[X]at M;injection M
 mu:=x.mu
 nR:=x.nR
 keep:=λb o O e=>aC (x.keep b o O e) λo1 J f=>⟨o1,G.extBut b o1 (λq=>by subst q;rw[X]at e;injection e) J,f.trans (.refl _ _ _) λc q=>cD.code (cD.Wl H G)⟩
 alive:=λb o e=>aI (x.alive b o e) λR h=>⟨R,G.extBut b R (λq=>by subst q;rw[X]at e;injection e) h⟩
 os:=x.os
 hJ:=x.hJ
 gens:=x.gens
 bare:=x.bare
theorem Rp.gone{X:az->Prop}{G:Nat->Prop}(R:Rp h₀ K env n0 W0 s₀ loc st W ρ s)(b:By X G s s')(H:∀p,X p->W p)(P:∀p,X p->¬Mu env ρ st p/\s₀.heap.get? p=none)(D:∀g,G g->s₀.gens.size<=g)(S:n0<=s'.toks):
 Rp h₀ K env n0 W0 s₀ loc st (λp=>W p/\¬X p) ρ s':=by
 have I:=b.keep;have ne:∀p,W p->Mu env ρ st p->W p/\¬X p:=λp h B=>⟨h,λe=>(P p e).1 B⟩;refine⟨⟨cD.after R.ei.base I λb o e q=>?_,λp B=>?_,S,λi hi x F a L N=>?_,λn l e=>?_,R.ei.frame.by λb o O e Q=>I.nt (λq=>(P b q).1 (.inl O)) e Q,λn l a e1 e2=>ne a (R.ei.nR n l a e1 e2) (.inr ⟨n,l,e1,e2⟩)⟩,
  λp B=>ne p (R.own p B) (.inl B),R.len,R.inj,R.me,R.new,⟨cD.after R.ext.keep I (λp o e q=>by have:=(P p q).2;rw[e]at this;injection this),b.os.trans R.ext.os,aP R.ext.hJ b.hJ,
   λg d=>(b.gens g (be d R.ext.hJ) λh=>absurd (D g h) (jE.mpr d)).trans (R.ext.gens g d),λh=>b.bare (R.ext.bare h)⟩,λp B=>⟨R.w0 p B,λe=>?_⟩,R.b0,R.l0⟩
 ·have:=R.mX (P b q).2;rw[e]at this;injection this
 ·refine ew λY=>aI (R.ei.live p B.1) λo M=>aC (I p o (.inl B.2) M) λr U z=>Y ?_;clear Y;exact⟨r,U⟩
 ·refine aC (R.ei.vars i hi x F a L N) λv J U=>⟨v,?_,(λx=>x.move (λz q=>.inl q.1) (y7 I H) λz z e=>e) U⟩;rcases J with⟨t,m,V,j⟩|⟨t,c,V,j⟩
  ·exact .inl ⟨t,m,I.ns (λq=>(P _ q).1 (.inl (.inl rfl))) V,j⟩
  ·exact .inr ⟨t,c,V,I.cell (λq=>(P _ q).1 (.inl (.inr ⟨x,mem_of_lookup V⟩))) j⟩
 ·exact cX (R.ei.store n l e) λa vs J U Z=>⟨a,vs,J,I.seq (λq=>(P _ q).1 (.inr ⟨n,l,e,J⟩)) U,(λx=>x.move (λz q=>.inl q.1) (y7 I H) λz z e=>e) Z⟩
 ·refine aI (R.l0 p B) λo M=>?_;rw[(P p e).2]at M;injection M
theorem j8.gone{ρ':List az}{st':St}{W':az->Prop}{l:ao}(x:j8 env ρ st W s ρ' st' W' s'){X:az->Prop}{G:Nat->Prop}(b:By X G s' l)(P:∀p,X p->s.heap.get? p=none)(D:∀g,G g->s.gens.size<=g):
 j8 env ρ st W s ρ' st' (λp=>W' p/\¬X p) l where
 w:=λp h=>x.w p h.1
 wk:=λp h L T=>⟨x.wk p h L T,λe=>by refine aI L λo M=>?_;rw[P p e]at M;injection M⟩
 mu:=x.mu
 nR:=x.nR
 keep:=λp o B e=>by
  refine ew λY=>aC (x.keep p o B e) λo1 J f=>aC (b.keep p o1 (.inl λh=>by have:=P p h;rw[e]at this;injection this) J) λr U j=>Y ?_;clear Y;exact⟨r,U,f.trans j λc q=>cD.code b.keep⟩
 alive:=λp o e=>aI (x.alive p o e) λR M=>aC (b.keep p R (.inl λh=>by have:=P p h;rw[e]at this;injection this) M) λr U z=>⟨r,U⟩
 os:=b.os.trans x.os
 hJ:=aP x.hJ b.hJ
 gens:=λg d=>(b.gens g (be d x.hJ) λh=>absurd (D g h) (jE.mpr d)).trans (x.gens g d)
 bare:=λh=>b.bare (x.bare h)
theorem Rp.KL(R:Rp h₀ K env n0 W0 s₀ loc st W ρ s)(e:gK s s')(S:n0<=s'.toks){as:List az}{ls:List (List AV)}(B:as.length=ls.length)(q:as.Nodup)(u:∀a∈as,s.heap.get? a=none)
 {X:az->Prop}(P:∀p,X p->s.heap.get? p=none/\∃o,s'.heap.get? p=some o)
 (hl:∀(j:Nat) (a:az) (l:List AV),as[j]? =some a->ls[j]? =some l->∃vs,cL "list" s'.heap a vs/\ft (λp=>(W p\/p∈as)\/X p) (ρ++as) s'.heap vs l){I:Prop}(N:(Rp h₀ K env n0 W0 s₀ loc (st++ls.map some) (λp=>(W p\/p∈as)\/X p) (ρ++as) s')->(j8 env ρ st W s (ρ++as) (st++ls.map some) (λp=>(W p\/p∈as)\/X p) s')->(∀p,Mu env (ρ++as) (st++ls.map some) p->Mu env ρ st p\/p∈as)->I):I:=by
 refine eY (?_:Rp h₀ K env n0 W0 s₀ loc (st++ls.map some) (λp=>(W p\/p∈as)\/X p) (ρ++as) s'/\j8 env ρ st W s (ρ++as) (st++ls.map some) (λp=>(W p\/p∈as)\/X p) s'/\
  ∀p,Mu env (ρ++as) (st++ls.map some) p->Mu env ρ st p\/p∈as) N
 have D:∀(n:Nat) (l:List AV),(st++ls.map some)[n]? =some (some l)->st[n]? =some (some l)\/∃j,n=st.length+j/\ls[j]? =some l:=by
  intro n l h;by_cases Q:n<st.length
  ·rw[cM Q]at h;exact .inl h
  ·rw[bG (i5.mp Q),nq,dg]at h;refine aC h λl' J U=>?_;clear h;injection U with e_;exact cA e_<|.inr ⟨n-st.length,by grind,J⟩
 have c:∀(n:Nat) (a:az),ρ[n]? =some a->(ρ++as)[n]? =some a:=λn a h=>bp (cM (aQ.mp h).1)<|h;have G:∀(n:Nat) (a:az),n<st.length->(ρ++as)[n]? =some a->ρ[n]? =some a:=λn a Q h=>by
  rw[cM (ab R.len<|Q)]at h;exact h
 have V:∀(j:Nat),(ρ++as)[st.length+j]? =as[j]? :=λj=>by
  refine bp (bG (ab R.len<|ja (dp st) j)) (ab R.len ?_);congr 1;exact DC (dp st) j
 have y:∀{n:Nat} {l:List AV},st[n]? =some (some l)->n<st.length:=λh=>(aQ.mp h).1;have alive:∀a,a∈as->∃o,s'.heap.get? a=some o:=λa L=>by
  obtain⟨j,hj,rfl⟩:=Ff.mp L;exact aC (hl j as[j] (ls[j]'(et hj B)) (by simp) (by simp)) λvs o9 z=>aI o9 λn h=>⟨_,h⟩
 have T:=R.wide e S (W':=λp=>(W p\/p∈as)\/X p) (λp h=>.inl (.inl h)) (λp h=>h.elim (λh=>h.imp id λh=>⟨u p h,alive p h⟩) λh=>.inr (P p h));have f:∀p,Mu env (ρ++as) (st++ls.map some) p->Mu env ρ st p\/p∈as:=by
  refineλp r=>ak r (λh=>?_) λH=>eb H λn l J U=>?_
  ·exact .inl (.inl h)
  ·refine ak (D n l J) (λh=>?_) λH=>aC H λj g h=>?_;rotate_left;subst g;rotate_right
   ·exact .inl (.inr ⟨n,l,h,G n p (y h) U⟩)
   ·rw[V]at U;exact .inr (aW U)
 have dead:∀{a:az},a∈as->¬W a:=λL Y=>by refine aI (R.ei.live _ Y) λo M=>?_;rw[u _ L]at M;injection M
 refine⟨⟨⟨T.ei.base,T.ei.live,S,λi hi x F a L hu=>?_,λn l h=>?_,T.ei.frame,λn l a J U=>?_⟩,T.own,by simp[R.len,B],λn m l l' p J U Z d=>?_,λn l p J U Z=>?_,λp hp=>?_,T.ext,T.w0,R.b0,R.l0⟩,
  ⟨(λp h=>h.elim (λh=>h.imp id (u p)) λh=>.inr (P p h).1),λp h z z=>.inl (.inl h),λp h=>(f p h).imp id (u p),c,λb o z h=>e.keep b o h,λb o h=>e.keep.alive b o h,e.os,e.hJ,e.gens,e.bare⟩,f⟩
 ·exact aC (T.ei.vars i hi x F a L hu) λv J U=>⟨v,J,U.move (λz h=>.inl h) (λz z z z h=>h) c⟩
 ·refine ak (D n l h) (λO=>?_) λH=>aC H λj g O=>?_;rotate_left;refine ab g ?_;rotate_right
  ·exact cX (T.ei.store n l O) λa vs J U Z=>⟨a,vs,c n a J,U,Z.move (λz h=>.inl h) (λz z z z h=>h) c⟩
  ·have hj:=(aQ.mp O).1;refine aC (hl j (as[j]'(et hj (id (dN B)))) l (by simp) O) λvs J U=>⟨_,vs,by refine bp (V ..) ?_;simp,J,U⟩
 ·refine ak (D n l J) (λO=>?_) λH=>aC H λj g O=>?_;rotate_left;subst g;rotate_right
  ·exact .inl (.inl (R.ei.nR n l a O (G n a (y O) U)))
  ·rw[V]at U;exact .inl (.inr (aW U))
 ·(refine ak (D n l J) (λa1=>?_) λH=>aC H λj g a1=>?_;rotate_left;subst g;rotate_right)<;>(refine ak (D m l' U) (λa2=>?_) λH=>aC H λt g a2=>?_;rotate_left;subst g;rotate_right)
  ·exact R.inj n m l l' p a1 a2 (G n p (y a1) Z) (G m p (y a2) d)
  ·rw[V]at d;exact absurd (R.ei.nR n l p a1 (G n p (y a1) Z)) (dead (aW d))
  ·rw[V]at Z;exact absurd (R.ei.nR m l' p a2 (G m p (y a2) d)) (dead (aW Z))
  ·rw[V]at Z d;have:=(List.getElem?_inj (aQ.mp Z).1 q).mp (Z.trans d.symm);exact congrArg _ this
 ·refine ak (D n l J) (λa1=>?_) λH=>aC H λj g a1=>?_;rotate_left;subst g;rotate_right
  ·exact R.me n l p a1 (G n p (y a1) U) Z
  ·rw[V]at U;exact dead (aW U) (R.own p Z)
 ·refine ak (f p hp) (λh=>?_) λh=>?_
  ·exact R.new p h
  ·exact gC R.ext (u p h)
theorem Rp.less(R:Rp h₀ K env n0 W0 s₀ loc st W ρ s)(X:st'.length=st.length)(h:∀(m:Nat) (x:List AV),st'[m]? =some (some x)->st[m]? =some (some x)):Rp h₀ K env n0 W0 s₀ loc st' W ρ s where
 ei:=⟨R.ei.base,R.ei.live,R.ei.tok,R.ei.vars,λn l e=>R.ei.store n l (h n l e),R.ei.frame,λn l a e=>R.ei.nR n l a (h n l e)⟩
 own:=R.own
 len:=ab X<|R.len
 inj:=λn m l l' p a b=>R.inj n m l l' p (h n l a) (h m l' b)
 me:=λn l p a=>R.me n l p (h n l a)
 new:=λp B=>R.new p (B.imp id λD=>eb D λn l a b=>⟨n,l,h n l a,b⟩)
 ext:=R.ext
 w0:=R.w0
 b0:=R.b0
 l0:=R.l0
theorem Rp.shrink(R:Rp h₀ K env n0 W0 s₀ loc st W ρ s)(h:∀p,W' p->W p)(J:∀p,Mu env ρ st p->W' p)(U:∀p,W0 p->W' p):Rp h₀ K env n0 W0 s₀ loc st W' ρ s where
 ei:=⟨R.ei.base,λp B=>R.ei.live p (h p B),R.ei.tok,λi hi x F a L N=>aC (R.ei.vars i hi x F a L N) λv a1 a2=>⟨v,a1,a2.move (λp B=>.inl (h p B)) (λz z z z e=>e) λz z e=>e⟩,
  λn l e=>cX (R.ei.store n l e) λa vs a1 a2 a3=>⟨a,vs,a1,a2,a3.move (λp B=>.inl (h p B)) (λz z z z e=>e) λz z e=>e⟩,R.ei.frame,λn l a e1 e2=>J a (.inr ⟨n,l,e1,e2⟩)⟩
 own:=λp B=>J p (.inl B)
 len:=R.len
 inj:=R.inj
 me:=R.me
 new:=R.new
 ext:=R.ext
 w0:=U
 b0:=R.b0
 l0:=R.l0
theorem Rp.put(R:Rp h₀ K env n0 W0 s₀ loc st W ρ s){n:Nat}{a:az}{l:List AV}{vs:List aw}(Q:n<st.length)(L:ρ[n]? =some a)(F:W a)(M:¬Mu env ρ st a)(Y:s₀.heap.get? a=none)
 (G:cL "list" s.heap a vs)(D:ft W ρ s.heap vs l):Rp h₀ K env n0 W0 s₀ loc (st.set n (some l)) W ρ s:=by
 have Z:∀(m:Nat) (x:List AV),(st.set n (some l))[m]? =some (some x)->(m=n/\x=l)\/(m≠n/\st[m]? =some (some x)):=by
  intro m x h;by_cases e:m=n
  ·subst e;rw[fI Q]at h;injection h with S;injection S with X;exact ab X<|.inl ⟨rfl,rfl⟩
  ·rw[ez (ib e)]at h;exact .inr ⟨e,h⟩
 have mu:∀p,Mu env ρ (st.set n (some l)) p->Mu env ρ st p\/p=a:=by
  refineλp o1=>ak o1 (λh=>?_) λH=>eb H λm x J U=>?_
  ·exact .inl (.inl h)
  ·refine ak (Z m x J) (λH=>aN H λg T=>?_) λN=>aN N λz h=>?_;cases g;refine ab T ?_
   ·rw[L]at U;injection U with S;exact ab S<|.inr rfl
   ·exact .inl (.inr ⟨m,x,h,U⟩)
 refine⟨⟨R.ei.base,R.ei.live,R.ei.tok,R.ei.vars,λm x e=>?_,R.ei.frame,λm x b e1 e2=>?_⟩,R.own,by simp[R.len],λm O x r p a1 a2 a3 a4=>?_,λm x p a1 a2=>?_,λp B=>?_,R.ext,R.w0,R.b0,R.l0⟩
 ·refine ak (Z m x e) (λH=>aN H λg T=>?_) λN=>aN N λz h=>?_;refine ab g<|ab T ?_
  ·exact⟨a,vs,L,G,D⟩
  ·exact R.ei.store m x h
 ·refine ak (Z m x e1) (λH=>aN H λg T=>?_) λN=>aN N λz h=>?_;subst g;subst T
  ·rw[L]at e2;injection e2 with S;subst S;exact F
  ·exact R.ei.nR m x b h e2
 ·(refine ak (Z m x a1) (λH=>aN H λg T=>?_) λN=>aN N λu J=>?_;cases g;refine ab T ?_)<;>(refine ak (Z O r a2) (λH=>aN H λg T=>?_) λN=>aN N λn2 U=>?_;cases g;cases T)
  ·rfl
  ·rw[L]at a3;injection a3 with S;subst S;exact absurd (.inr ⟨O,r,U,a4⟩) M
  ·rw[L]at a4;injection a4 with S;subst S;exact absurd (.inr ⟨m,x,J,a3⟩) M
  ·exact R.inj m O x r p J U a3 a4
 ·refine ak (Z m x a1) (λH=>aN H λg T=>?_) λN=>aN N λz h=>?_;subst g;subst T
  ·rw[L]at a2;injection a2 with S;subst S;exactλq=>M (.inl q)
  ·exact R.me m x p h a2
 ·refine ak (mu p B) (λh=>?_) λH=>?_;rotate_left;refine ab H ?_;rotate_right
  ·exact R.new p h
  ·exact Y
theorem Mu.less(h:∀(m:Nat) (x:List AV),st'[m]? =some (some x)->st[m]? =some (some x)){p:az}:Mu env ρ st' p->Mu env ρ st p:=λB=>B.imp id λD=>eb D λn l a b=>⟨n,l,h n l a,b⟩
theorem iN{n:Nat}:∀(m:Nat) (x:List AV),(st.set n none)[m]? =some (some x)->st[m]? =some (some x)/\m≠n:=by
 intro m x h;by_cases e:m=n
 ·subst e;by_cases Q:m<st.length
  ·rw[fI Q]at h;injection h with S;injection S
  ·rw[List.getElem?_eq_none (by simpa using Q)]at h;injection h
 ·rw[ez (ib e)]at h;exact⟨h,e⟩
theorem Rp.Po(R:Rp h₀ K env n0 W0 s₀ loc st W ρ s){n:Nat}{a:az}{l l':List AV}{vs':List aw}{h':bk}(Q:st[n]? =some (some l))(L:ρ[n]? =some a)(G:lb a s.heap h')(D:cL "list" h' a vs')
 (d:ft W ρ h' vs' l'){I:Prop}(N:Rp h₀ K env n0 W0 s₀ loc (st.set n (some l')) W ρ {s with heap:=h'}->j8 env ρ st W s ρ (st.set n (some l')) W {s with heap:=h'}->I):I:=by
 have T:Mu env ρ st a:=.inr ⟨n,l,Q,L⟩;have Y:=R.KH T;have u:=R.less (st':=st.set n none) (lK) λm x h=>(iN m x h).1;have M:¬Mu env ρ (st.set n none) a:=by
  refineλr=>ak r (λh=>?_) λH=>eb H λm x J U=>?_
  ·exact R.me n l a Q L h
  ·have:=iN m x J;exact this.2 (R.inj m n x l a this.1 Q U L)
 have P:∃vs,cL "list" s.heap a vs:=by refine cX (R.ei.store n l Q) λf vs t V z=>?_;rw[L]at t;injection t with S;exact ab S<|⟨vs,V⟩
 have F:∀b o,b=a->s.heap.get? b=some o->¬yi o:=λb o O e=>by
  cases O;refine ej P λvs m q=>?_;rw[q]at e;injection e with S;subst S;exact yQ rfl
 have Z:By (·=a) (λz=>False) s {s with heap:=h'}:=.of (s:=s) (tk:=s.toks) (λb o O e=>G.extBut b o O e) F;clear F;have c:∀p,p=a->∃o,h'.get? p=some o:=λp B=>ab B<|aI D λm h=>⟨_,h⟩;have X:=u.by Z (λp B=>ab B<|⟨Y,M,R.new _ T⟩) c (λg h=>h.elim) R.ei.tok;clear u;have i:=X.put (n:=n) (a:=a) (l:=l') (vs:=vs') (by simpa using((aQ.mp Q).1)) L Y M (R.new _ T) D d;clear X;rw[List.set_set]at i;refine N i ⟨λp h=>.inl h,λp h z z=>h,λp B=>?_,λz z h=>h,Z.keep.weaken (λp q=>q▸T),λb o e=>?_,rfl,aV _,λz z=>rfl,id⟩;clear N
 ·left;refine ak B (λh=>?_) λH=>eb H λm x J U=>?_
  ·exact .inl h
  ·by_cases e:m=n
   ·cases e;rw[L]at U;injection U with S;exact cA S<|T
   ·rw[ez (ib e)]at J;exact .inr ⟨m,x,J,U⟩
 ·by_cases h:b=a
  ·exact c b h
  ·exact⟨o,G.extBut b o h e⟩
set_option tactic.hygienic true in
theorem Su:∀(l:List AV) (st:St) (l':List AV) (st':St),jk st l=some (l',st')->st'.length=st.length/\(∀(m:Nat) (x:List AV),st'[m]? =some (some x)->st[m]? =some (some x))/\
 (∀(W W':az->Prop) (ρ:List az) (h:bk) (vs:List aw),SR W ρ h st->(∀p,W' p->W p)->(∀(m:Nat) (x:List AV) (a:az),st[m]? =some (some x)->st'[m]? =some none->ρ[m]? =some a->¬W' a)->
   ft W ρ h vs l->ft W' ρ h vs l'):=by
 intro V
 induction V with
 |nil=>
  intro st l' st' h;simp only[(id AF),bL,gz]at h;refine aN h λd u=>?_;clear h;subst d;subst u;exact⟨rfl,λz z h=>h,λW W' ρ h vs z z z D=>by rcases D with⟨⟩;exact .nil⟩
 |cons a l R=>
  intro st l' st' h;by_cases G:∃n,a=.ref n
  ·refine aI G λn i=>?_;clear G;subst i;simp only[(id AF),aj,bF]at h;refine aC h λm J h=>?_;split at h
   ·rename_i N;refine dn h λc U Z=>?_;clear h;rcases c with⟨l2,st2⟩;simp only[aJ,bL,gz]at Z;refine aN Z λF q=>cA F<|cA q<|eY (R (st.set n none) l2 st2 U) λi1 o X=>?_;have Q:st[n]? =some (some m):=by
     rcases e:st[n]? with _|y
     ·rw[e]at J;injection J
     ·rw[e]at J;simp only[uD]at J;exact congrArg _ J
    have H:st2[n]? =some none:=by
     cases e:st2[n]? with
     |none=>exact absurd (cj.mp e) (by refine ab i1 ?_;simpa using((aQ.mp Q).1))
     |some y=>rcases y with _|y
              ·rfl
              ·exact absurd rfl (iN n y (o n y e)).2
    refine⟨by refine ab i1 ?_;simp,λO x e=>(iN O x (o O x e)).1,λW W' ρ h vs T hW P D=>?_⟩;cases D with
    |cons a1 b1=>
     rcases a1 with _|_|_|_|_|_|g
     ·refine ew λY=>cX (T n m Q) λb M f j t=>?_;rw[g]at f;injection f with S;subst S;refine Y ?_;clear Y;exact .cons (.lst (P n m _ Q H g) j (t.move (λp B=>.inl (hW p B)) (λz z z z e=>e) λz z e=>e))<|X W W' ρ h _ (λO x e=>T O x (iN O x e).1) hW (λO x I e1 e2=>P O x I (iN O x e1).1 e2) b1
   ·injection h
  ·have e:jk st (a::l)=(if jP a then do
    let(l',st')<-jk st l
    return(a::l',st')
    else none):=by
    rcases a with⟨⟩<;>first|rfl|exact absurd ⟨_,rfl⟩ G
   rw[e]at h;split at h
   ·refine dn h λv U Z=>?_;clear h;rcases v with⟨l2,st2⟩;simp only[aJ,bL,gz]at Z;refine aN Z λr L=>?_;clear Z;subst r;refine cA L<|eY (R st l2 st2 U) λi1 o X=>⟨i1,o,λW W' ρ h vs T hW P D=>?_⟩;rcases D with _|⟨a1,b1⟩
    ·exact .cons (a1.move (λp B=>.inl (hW p B)) (λz z z z e=>e) λz z e=>e) (X W W' ρ h _ T hW P b1)
   ·injection h
theorem E0{cfg:dC}{i:Nat}{a:AV}(h:ev cfg st (.a i) loc=some a){I:Prop}(N:loc[i]? =some a->a≠.c->I):I:=aN (JE h) N
theorem fF{n:Nat}{l:List AV}(h:(st[n]?).join=some l):st[n]? =some (some l):=by
 rcases e:st[n]? with _|y
 ·rw[e]at h;injection h
 ·rw[e]at h;simp only[uD]at h;exact congrArg _ h
theorem Gb{i:Nat}{fl:Fl}(R:Rp h₀ K env n0 W0 s₀ loc st W ρ s)(h:mY cfg (.v i) loc st=some (fl,loc',st')):fl=.next/\∃W',Rp h₀ K env n0 W0 s₀ loc' st' W' ρ s/\j8 env ρ st W s ρ st' W' s:=by
 refine ew λY=>dn h λa J h=>dn h λn D h=>dn h λl U h=>dn h λq Z h=>dn h λloc2 d h=>?_;simp only[oY D]at J;obtain⟨l',st2⟩:=q;refine Y ?_;clear Y
 ·replace h:=ay h;have e1:loc2=loc':=congrArg (·.2.1) h;have e2:st2=st':=congrArg (·.2.2) h;have c:Fl.next=fl:=congrArg (·.1) h;simp only[e1]at d;refine cA e2<|cA c<|⟨rfl,?_⟩;have Q:=fF U;refine ew λY=>E0 J λhi z=>?_;clear J;refine eY (Su _ _ _ _ Z) λf1 f2 f3=>Y ?_;clear Y;have sub:∀(m:Nat) (x:List AV),st2[m]? =some (some x)->st[m]? =some (some x)/\m≠n:=λm x e=>iN m x (f2 m x e);have u:=R.less (st':=st2) (by refine ab f1 ?_;simp) λm x e=>(sub m x e).1;have gone:st2[n]? =some none:=by
   cases e:st2[n]? with
   |none=>exact absurd (cj.mp e) (by refine ab f1 ?_;simpa using((aQ.mp Q).1))
   |some y=>rcases y with _|y
            ·rfl
            ·exact absurd rfl (sub n y e).2
  have X:=u.shrink (W':=λp=>W p/\¬∃(m:Nat) (x:List AV),st[m]? =some (some x)/\st2[m]? =some none/\ρ[m]? =some p) (λp h=>h.1) (λp B=>⟨u.KH B,λo3_=>cX o3_ λm x f g2 t=>by
   refine ak B (λB=>?_) λH=>eb H λO r g4 g5=>?_
   ·exact R.me m x p f t B
   ·have:=R.inj m O x r p f (sub O r g4).1 t g5;subst this;rw[g2]at g4;injection g4 with S;injection S⟩)
   (λp B=>⟨R.w0 p B,λo4_=>cX o4_ λm x f g2 t=>by
     refine aI (R.l0 p B) λo M=>?_;have:=R.new p (.inr ⟨m,x,f,t⟩);rw[M]at this;injection this⟩)
  refine⟨_,⟨{X.ei with vars:=λj hj x F a L N=>?_},X.own,X.len,X.inj,X.me,X.new,X.ext,X.w0,X.b0,X.l0⟩,⟨λp h=>.inl h.1,λp h z T=>⟨h,λo5_=>cX o5_ λm x f z t=>T (.inr ⟨m,x,f,t⟩)⟩,λp h=>.inl (h.less λm x e=>(sub m x e).1),λz z h=>h,(λz o z e=>⟨o,e,.refl _ _ _⟩),λb o e=>⟨o,e⟩,rfl,aV _,λz z=>rfl,id⟩⟩;have P:(if i<loc.length then some (loc.set i (.lst l'))else none)=some loc':=d;clear d;have G:i<loc.length:=by
   by_cases G:i<loc.length
   ·exact G
   ·rw[if_neg G]at P;injection P
  rw[if_pos G]at P;rw[<-ay P]at L;clear P;by_cases e:j=i
  ·subst e;rw[fI G]at L;injection L with S;simp only[<-S];refine aC (R.ei.vars j hj x F _ hi (by simp)) λv V v2=>⟨v,V,?_⟩;clear V;rcases v2 with _|_|_|_|_|_|g
   ·refine ew λY=>cX (R.ei.store n l Q) λb us f g2 t=>?_;rw[g]at f;injection f with S;subst S;refine Y ?_;clear Y;refine .lst (λh=>h.2 ⟨n,l,Q,gone,g⟩) g2 (f3 W _ ρ s.heap us (λO x e=>R.ei.store O x (iN O x e).1) (λp h=>h.1) (λm x I e1 e2 c h=>h.2 ⟨m,x,(iN m x e1).1,e2,c⟩) t)
  ·rw[ez (ib e)]at L;exact X.ei.vars j hj x F a L N
end
section
variable{h₀:bk}{cfg:dC}
noncomputable def HK(W:az->Prop)(ρ:List az)(h:bk):Fl->kO->Prop
 | .next,.next=>True
 | .brk,.brk=>True
 | .ret a,.ret v=>VR W ρ h v a/\jP a=true
 |_,_=>False
def Cc(h₀:bk)(K:Ck)(env:fZ)(n0:Nat)(p:az->Prop)(s₀:ao)(L:Fl)(loc':Loc)(st':St)(ρ:List az)(st:St)(W:az->Prop)(s:ao):kO->ao->Prop:=λf s'=>
 ∃W' ρ',HK W' ρ' s'.heap L f/\Rp h₀ K env n0 p s₀ loc' st' W' ρ' s'/\j8 env ρ st W s ρ' st' W' s'
def md(C:fE h₀ cfg)(k:Nat)(c:CS):Prop:=∀(K:Ck) (env:fZ) (x:bC) (p:az->Prop) (s₀:ao) (n0:Nat) (loc loc':Loc) (st st':St) (L:Fl) (W:az->Prop) (ρ:List az) (A:cP) (s:ao) (E:aw->ao->Prop),
 bZ env K n0->i7 k A->Rp h₀ K env n0 p s₀ loc st W ρ s->mY cfg c loc st=some (L,loc',st')->ka K c x=true->
 aM (aL C.prog C.w) A (sf x env) (Cc h₀ K env n0 p s₀ L loc' st' ρ st W s) E s
end
section
variable{h₀:bk}{cfg:dC}{C:fE h₀ cfg}{k:Nat}
variable{prog:fA}{w:cW}{A:cP}{E:aw->ao->Prop}{s s' s₀:ao}{W W' W0:az->Prop}{ρ ρ':List az}{st st':St}{n0:Nat}{av:AV}{K:Ck}{env:fZ}{loc loc':Loc}
theorem V8{e:Expr}{c:Expr×bj×Expr×Bool}(h:DP e=some c){I:Prop}(N:∀b p,e=.Call (.Attribute c.1 c.2.1 b) [c.2.2.1] [] p->c.2.2.2=(b.endLine==p.line)->I):I:=by refine aC (aZ h) λq J h=>bW h λz T o1=>?_;subst o1;exact N _ _ (ab (kn J) (ab (gL T) rfl)) rfl
theorem V7{e:Expr}{c:Expr×bj×Bool}(h:wN e=some c){I:Prop}(N:∀b p,e=.Call (.Attribute c.1 c.2.1 b) [] [] p->c.2.2=(b.endLine==p.line)->I):I:=by refine aC (aZ h) λq J h=>bW h λz T r=>?_;subst r;exact N _ _ (ab (kn J) (ab (lR T) rfl)) rfl
theorem Ko{e:Expr}{c:Expr×Expr×Expr×cQ}(h:uI e=some c){I:Prop}(N:∀p,e=.ListComp c.1 [⟨c.2.1,c.2.2.1,[],0⟩] c.2.2.2 p->I):I:=by refine aC (aZ h) λq J h=>bW h λz T j=>?_;subst j;exact N _ (ab (zt J) (ab (lR T) rfl))
theorem uj{t:kR}{e:CE}{x:bC}(h:RW K t e x=true){I:Prop}(N:∀g v p,x=.Assign [g] v p->(fg K t g&&cz K 0 e v&&IF K g v)=true->I):I:=aU h λq J h=>aU h λg U h=>N _ _ _ (ab (jw J) (ab (gL U) rfl)) h
theorem J7{i j:Nat}{e:CE}{x:bC}(h:Qz K i j e x=true){I:Prop}(N:∀g g' v p,x=.Assign [g,g'] v p->(fg K (.bX i) g&&fg K (.bX j) g'&&cz K 0 e v&& !iF v)=true->I):I:=aU h λq J h=>aU h λg U h=>N _ _ _ _ (ab (jw J) (ab (my U) rfl)) h
theorem Om{i:Nat}{e:CE}{x:bC}(h:Vj K i e x=true){I:Prop}(N:∀g v p,x=.Assign [g] v p->(fg K (.bX i) g&&cz K 0 e v&& !iF v)=true->I):I:=aU h λq J h=>aU h λg U h=>N _ _ _ (ab (jw J) (ab (gL U) rfl)) h
theorem Kd{i n:Nat}{B it:CE}{x:bC}(h:QA K i B it n x=true){I:Prop}(N:∀g r b D u p p',x=.Assign [g] (.ListComp r [⟨b,D,[],0⟩] u p) p'->(fg K (.bX i) g&&cz (fP K u (.bX n)) 0 B r&&jV K u.names (.bX n) b&&cz K 2 it D&&Ek it&&ku K u)=true->I):I:=aU h λq J h=>aU h λg U h=>aU h λc Z h=>Ko Z λp d=>N _ _ _ _ _ _ _ (ab (jw J) (ab (gL U) (ab d rfl))) h
theorem vA{a ix e:CE}{x:bC}(h:DU K a ix e x=true){I:Prop}(N:∀y z q v p,x=.Assign [.Subscript y z q] v p->(cz K 0 a y&&cz K 0 ix z&&pZ z&&cz K 0 e v&& !iF v)=true->I):I:=by refine aU h λq J h=>aU h λg U h=>?_;refine aU h λc Z h=>?_;exact N _ _ _ _ _ (ab (jw J) (ab (gL U) (ab (pK Z) rfl))) h
theorem Oc{i:Nat}{op:cV}{e:CE}{x:bC}(h:Vh K i op e x=true){I:Prop}(N:∀g G v p,x=.AugAssign g G v p->(fg K (.bX i) g&&cz K 0 (.a i) g&&op==G&&cz K 0 e v)=true->I):I:=aU h λq J h=>N _ _ _ _ (BD J) h
theorem CK{i:Nat}{ix:CE}{op:cV}{e:CE}{x:bC}(h:DT K i ix op e x=true){I:Prop}(N:∀y z q G v p,x=.AugAssign (.Subscript y z q) G v p->(cz K 0 (.a i) y&&cz K 0 ix z&&pZ z&&op==G&&cz K 0 e v)=true->I):I:=aU h λq J h=>aU h λc Z h=>N _ _ _ _ _ _ (ab (BD J) (ab (pK Z) rfl)) h
theorem yI{e:CE}{x:bC}(h:IW K e x=true){I:Prop}(N:∀v p,x=.Return (some v) p->cz K 0 e v=true->I):I:=aU h λq J h=>aU h λv U h=>N _ _ (ab (rX J) (ab U rfl)) h
theorem EJ{B:Type}{o:Option B}(h:o.isSome=true){I:Prop}(N:∀a,o=some a->I):I:=by
 rcases o with _|a
 ·exact(aB h).elim
 ·exact N a rfl
theorem Od{x:bC}(h:Vi x=true){I:Prop}(N:∀p,x=.Break p->I):I:=EJ h λp h=>N p (Mv h)
theorem Ob{i:Nat}{e:CE}{x:bC}(h:Vg K i e x=true){I:Prop}(N:∀y n b z p q,x=.Expr (.Call (.Attribute y n b) [z] [] p) q->(cz K 0 (.a i) y&&n==("append":bj)&&cz K 0 e z&&bJ z&&b.endLine==p.line)=true->I):I:=by refine aU h λq J h=>aU h λc U h=>V8 U λb p Z d=>?_;rw[d]at h;exact N _ _ _ _ _ _ (ab (uu J) (ab Z rfl)) h
theorem Ou{i:Nat}{x:bC}(h:Vl K i x=true){I:Prop}(N:∀y n b p q,x=.Expr (.Call (.Attribute y n b) [] [] p) q->(cz K 0 (.a i) y&&n==("reverse":bj)&&b.endLine==p.line)=true->I):I:=by refine aU h λq J h=>aU h λc U h=>V7 U λb p Z d=>?_;rw[d]at h;exact N _ _ _ _ _ (ab (uu J) (ab Z rfl)) h
theorem CL{x:bC}{t:Expr}{a b:List bC}(h:RN x=some (t,a,b)){I:Prop}(N:∀p,x=.If t a b p->I):I:=by refine bW h λq J U=>?_;rcases U with⟨⟩;exact N _ (rW J)
theorem Gj{x:bC}{t:Expr}{a:List bC}(h:DQ x=some (t,a)){I:Prop}(N:∀p,x=.While t a [] p->I):I:=by refine aC (aZ h) λq J h=>bW h λu Z U=>?_;rcases U with⟨⟩;exact N _ (ab (HG J) (ab (lR Z) rfl))
theorem Oe{x:bC}{g i:Expr}{a:List bC}(h:Qo x=some (g,i,a)){I:Prop}(N:∀p,x=.For g i a [] p->I):I:=by refine aC (aZ h) λq J h=>bW h λu Z U=>?_;rcases U with⟨⟩;exact N _ (ab (xO J) (ab (lR Z) rfl))
theorem Jb{e:CE}{v:Expr}{K:Ck}(h:cz K 0 e v=true):(∀a b c d,v≠.SetComp a b c d)/\∀a b c d f,v≠.DictComp a b c d f:=by
 constructor
 ·intro a b c d q;rw[q]at h;revert h;rcases e with⟨⟩<;>exact aB
 ·intro a b c d f q;rw[q]at h;revert h;rcases e with⟨⟩<;>exact aB
theorem yJ{v:Expr}{P:Prop}(V:iF v=true)(m:∀g gens u p,v=.ListComp g gens u p->P)(S:∀a b c d,v=.SetComp a b c d->P)(B:∀a b c d f,v=.DictComp a b c d f->P):P:=by rcases v with⟨⟩<;>first|exact m _ _ _ _ rfl|exact S _ _ _ _ rfl|exact B _ _ _ _ _ rfl|exact(aB V).elim
theorem Ja{e:CE}{v:Expr}{K:Ck}(h:cz K 0 e v=true)(V:iF v=true):∃g gens u p,v=.ListComp g gens u p:=
 yJ V (λz z z z e=>⟨_,_,_,_,e⟩) (λz z z z e=>((Jb h).1 _ _ _ _ e).elim) λz z z z z e=>((Jb h).2 _ _ _ _ _ e).elim
theorem vR{v:Expr}{t:Option Expr}{l:Nat}(S:t.isSome=true)(h:iF v=false):XA v t l env=pure false:=by rcases v with⟨⟩<;>first|rfl|exact Bool.noConfusion h
theorem GZ{e:CE}{v:Expr}{t:kR}{g:Expr}{Q:kO->ao->Prop}(F:bU C k e)(hE:bZ env K n0)(hA:i7 k A)(R:Rp h₀ K env n0 W0 s₀ loc st W ρ s)(M:ev cfg st e loc=some av)(O:cT loc t av=some loc')
 (P:fg K t g=true)(m:cz K 0 e v=true)(H:∀s',Cc h₀ K env n0 W0 s₀ .next loc' st ρ st W s .next s'->Q .next s'):
 aM (aL C.prog C.w) A (fe v env) (λx N=>aM (aL C.prog C.w) A (lj g env x) (λz=>Q .next) E N) E s:=cu (F _ _ _ _ _ _ _ _ _ _ _ _ hE hA R.ei M m) λx N D=>fm hA.hh hE (R.step D.2.1 D.1) P O D.2.2 λT B G=>H _ ⟨W,ρ,trivial,B,(j8.ext D.2.1).trans G⟩
theorem gG{g v:Expr}{pos:eO}{Q:kO->ao->Prop}(G:(∃x p,g=.Name x p/\iF v=false)\/(∃Z a b f as B p,g=.Tuple Z a b/\v=.Call f as B p))
 (h:aM (aL prog w) A (fe v env) (λx N=>aM (aL prog w) A (lj g env x) (λz=>Q .next) E N) E s):aM (aL prog w) A (sf (.Assign [g] v pos) env) Q E s:=by
 refine ak G (λT=>eb T λx p H V=>?_) λI=>Vx I λZ a b f as B p J F=>?_;subst H;rotate_left;subst J;subst F;rotate_right
 ·refine uF (aA h (λx N D=>?_) λz z e=>e) (show XA v (some (.Name x p)) pos.line env=pure false from vR (t:=some (.Name x p)) rfl V) rfl;exact D
 ·refine uF (aA h (λx N D=>?_) λz z e=>e) rfl rfl;exact D
theorem Cc.from{D:List az}{F:St}{I:az->Prop}{N:ao}{L:Fl}{f:kO}(x:j8 env ρ st W s D F I N)(h:Cc h₀ K env n0 W0 s₀ L loc' st' D F I N f s'):Cc h₀ K env n0 W0 s₀ L loc' st' ρ st W s f s':=
 cX h λW' ρ' a b c=>⟨W',ρ',a,b,x.trans c⟩
theorem pa{e:CE}{t:kR}{g v:Expr}{pos:eO}(F:bU C k e)(hE:bZ env K n0)(hA:i7 k A)(R:Rp h₀ K env n0 W0 s₀ loc st W ρ s)(M:ev cfg st e loc=some av)(O:cT loc t av=some loc')
 (P:fg K t g=true)(m:cz K 0 e v=true)(Q:(∃x p,g=.Name x p/\iF v=false)\/(∃Z a b f as B p,g=.Tuple Z a b/\v=.Call f as B p)):
 aM (aL C.prog C.w) A (sf (.Assign [g] v pos) env) (Cc h₀ K env n0 W0 s₀ .next loc' st ρ st W s) E s:=
 gG Q (GZ F hE hA R M O P m λs' h=>h)
theorem TR{e:CE}{i j:Nat}(F:bU C k e):md C k (.Cf i j e):=by intro K env x W0 s₀ n0 loc loc' st st' L W ρ A s E hE hA R M V;refine dn M λa J M=>dn M λl1 O M=>dn M λl2 Z M=>?_;cases ay M;refine ew λY=>J7 V λg g' v pos ex I=>?_;have m:=ba (ba (ba I).1).1;refine eb (ij m.1) λx p n z=>eb (ij m.2) λr p' H z=>Y ?_;clear Y;rw[n,H]at m ex;refine ab ex<|wpAny_Assign_two (cu (F _ _ _ _ _ _ _ _ _ _ _ _ hE hA R.ei J (ba (ba I).1).2) λx N D=>?_) rfl rfl;refine fm (t:=.bX i) (av:=a) hA.hh hE (R.step D.2.1 D.1) m.1 O D.2.2 λT B G=>fm (t:=.bX j) (av:=a) hA.hh hE B m.2 Z ?_ λX U f=>⟨W,ρ,trivial,U,((j8.ext D.2.1).trans G).trans f⟩;exact D.2.2.move (λz h=>.inl h) (y7 G.keep λb q=>R.KH q) λz z h=>h
set_option tactic.hygienic true in
theorem WG{e:CE}(F:bU C k e):md C k (.ret e):=by
 intro K env x W0 s₀ n0 loc loc' st st' L W ρ A s E hE hA R M V;refine yI V λv pos u I=>?_;subst u
 ·
  refine dn M λa J U=>?_;clear M;split at U<;>(first|(injection U;done)|(injection U with S;injection S with X H;injection H with B G;subst X;subst B;subst G));rename_i Q;exact lk (cu (F _ _ _ _ _ _ _ _ _ _ _ _ hE hA R.ei J V) λx N D=>⟨W,ρ,⟨D.2.2,Q⟩,R.step D.2.1 D.1,.ext D.2.1⟩)
theorem WB:md C k .brk:=by
 intro K env x W0 s₀ n0 loc loc' st st' L W ρ A s E hE hA R M V;refine Od V λpos Q=>ab Q ?_
 ·
  simp only[(id oN),bL,gz]at M;refine eY M λc F S=>?_;clear M;subst c;exact cA F<|cA S<|wpAny_Break ⟨W,ρ,trivial,R,.refl⟩
theorem Kw{x:bj}{v:aw}{Q:aw->ao->Prop}(hE:bZ env K n0)(h:iq env s.heap x v)(D:Q v s)(T:(x==("__classdict__":bj))=false):aM (aL prog w) A (RD env x) Q E s:=by
 rcases h with⟨J,m,U,Z⟩|⟨J|J,c,U,Z⟩
 ·exact RI hE.kind J U Z D
 ·exact Ut hE.kind J U Z D
 ·exact Uu hE.kind J U Z D T
theorem wQ{op:cV}{a b:AV}(h:oG a=true):jv st op a b=jv [] op a b:=by
 rcases a with⟨⟩<;>first|exact(aB h).elim|skip
 ·rcases b with⟨⟩<;>(rcases op with⟨⟩<;>rfl)
 ·rcases b with⟨⟩<;>(rcases op with⟨⟩<;>rfl)
theorem zW{a:AV}(h:oG a=true):(∃i,a=.int i)\/∃i,a=.str i:=by rcases a with⟨⟩<;>first|exact(aB h).elim|exact .inl ⟨_,rfl⟩|exact .inr ⟨_,rfl⟩
theorem II{x:bj}{p pos:eO}{op:cV}{B:Expr}{Q:kO->ao->Prop}(h:aM (aL prog w) A (RD env x) (λF N=>aM (aL prog w) A (fe B env) (λv T=>aM (aL prog w) A (n6 op F v)
 (λr X=>aM (aL prog w) A (lj (.Name x p) env r) (λz=>Q .next) E X) E T) E N) E s):aM (aL prog w) A (sf (.AugAssign (.Name x p) op B pos) env) Q E s:=by
 have e:sf (.AugAssign (.Name x p) op B pos) env=(do
  jF p
  let F<-RD env x;let v<-ie [F] (fe B env)
  jF pos
  let new<-Xi [F,v] (n6 op F v)
  lj (.Name x p) env new
  pure .next):=by
  show sf (.AugAssign (.Name x p) op B pos) env=(do
   jF p
   let F<-RD env x;let v<-ie [F] (fe B env)
   jF pos
   let new<-Xi [F,v] (n6 op F v)
   (do jF p;Fq env x new)
   pure .next)
  rfl
 exact ab e<|bg (eA (bg (aA h (λF N D=>bg (gc (aA D (λv T Y=>bg (eA (bg (wpAny_operateT (aA Y (λr X G=>bg (aA G (λz S J=>du J) λz z e=>e)) λz z e=>e))))) λz z e=>e))) λz z e=>e)))
theorem WA{e:CE}{i:Nat}{op:cV}(F:bU C k e):md C k (.aug i op e):=by
 intro K env x W0 s₀ n0 loc loc' st st' h W ρ A s E hE hA R M V;refine dn M λa J M=>dn M λb S M=>?_;by_cases L:oG a=true
 ·rw[if_pos L]at M;refine dn M λr d M=>dn M λl2 O M=>?_;cases ay M;refine ew λY=>Oc V λg G v pos ex I=>?_;have P:=ba (ba (ba I).1).1;refine eb (ij P.1) λx p n q=>Y ?_;clear Y;rw[n]at P ex;refine ab ex (cA (eq_of_beq (ba (ba I).1).2) ?_);have m:(K.acc.contains i&&K.tab[i]? ==some x&& !(x==("__debug__":bj))&& !(x==("__classdict__":bj)))=true:=P.2;refine ew λY=>E0 J λhi Z=>aC (R.ei.vars i (pL.mp (ba (ba (ba m).1).1).1) x (eq_of_beq (ba (ba (ba m).1).1).2) a hi Z) λu H c=>Y ?_;clear Y;refine II (Kw hE H ?_ (nB (ba m).2));refine cu (F _ _ _ _ _ _ _ _ _ _ _ _ hE hA R.ei S (ba I).2) λy N D=>?_;rw[wQ L]at d;refine cu (e9.qa (n0:=n0) D.1 (Ew (c.keep D.2.1.keep) D.2.2 d (zW L))) λz T B=>?_;exact fm (prog:=C.prog) (w:=C.w) (E:=E) (t:=.bX i) (av:=r) (g:=.Name x p) hA.hh hE ((R.step D.2.1 D.1).step B.2.1 B.1) P.1 O B.2.2 (Q:=λq s'=>Cc h₀ K env n0 W0 s₀ .next loc' st ρ st W s .next s')
   λX U f=>⟨W,ρ,trivial,U,(j8.ext (D.2.1.trans B.2.1)).trans f⟩
 ·rw[if_neg L]at M;injection M
theorem w9{fr:Bool}{e:CE}{t:kR}{q:Loc->Option Bool}{g tg iter:Expr}{m8:List Expr}{u:cQ}{pos sp p:eO}{x:bj}{avs total:List AV}{Q:kO->ao->Prop}
 (hE:bZ env K n0)(hA:i7 k A)(I:EI h₀ K.tab K.acc env W ρ n0 loc st s)(F:Fy C k fr e)
 (i:aM (aL C.prog C.w) A (fe iter env) (λxv N=>aM (aL C.prog C.w) A (tX xv) (yb C.prog C.w A W ρ n0 s avs) E N) E s)
 (J:∀f W' loc' r s E,bZ f (fP K u t) n0->EI h₀ K.tab (fP K u t).acc f W' ρ n0 loc' st s->q loc'=some r->
   aM (aL C.prog C.w) A (forIn m8 true λc r=>if r=true then do let ok<-mT c f (fe c f);pure (bP ok)else pure (bP r)) (sV n0 s r) E s)
 (y:∀x,jg iter env x=pure x)(M:cz (fP K u t) 0 e g=true)(hg:jV K u.names t tg=true)(G:Cd K u)(S:avs.length<=20000)
 (U:gm (pV cfg st e t q loc) avs=some total)
 (hT:∀D L N,n0<=N.toks->gK s N->s.heap.get? L=none->s.heap.get? D=none->L≠D->(∃m,N.heap.Ns L m)->(∃vs,cL "list" N.heap D vs/\ft (λa=>W a\/a=L) ρ N.heap vs total/\(fr=true->vs.Nodup/\∀v∈vs,∃a,v=.ref a/\s.heap.get? a=none))->
   aM (aL C.prog C.w) A (lj (.Name x p) env (.ref D)) (λz l=>(∀o,N.heap.get? L=some o->nt o->l.heap.get? L=some o)/\∀h',lb L l.heap h'->Q .next {l with heap:=h'}) E N)
 (hT2:∀D N,n0<=N.toks->gK s N->s.heap.get? D=none->(∃L vs,cL "list" N.heap D vs/\L≠D/\ft (λa=>W a\/a=L) ρ N.heap vs total/\(fr=true->vs.Nodup/\∀v∈vs,∃a,v=.ref a/\s.heap.get? a=none))->
   aM (aL C.prog C.w) A (lj (.Name x p) env (.ref D)) (λz l=>Q .next l) E N):
 aM (aL C.prog C.w) A (sf (.Assign [.Name x p] (.ListComp g [⟨tg,iter,m8,0⟩] u pos) sp) env) Q E s:=by
 refine ew λY=>?_;obtain⟨b,O⟩:∃b,XA (.ListComp g [⟨tg,iter,m8,0⟩] u pos) (some (.Name x p)) sp.line env=pure b:=⟨_,rfl⟩;refine Y ?_;clear Y;rcases b with _|_
 ·refine uF ?_ O rfl;refine qY (use:=none) hE hA I F i J y M hg G S U ?_;refineλD L s' t' B X Z R H d=>aI H λm T=>?_;clear H;refine⟨m,T,λh' P=>?_⟩;refine gB d λvs o1 j g3=>?_;clear d;refine aI o1 λn g1=>?_;exact hT2 D {s' with heap:=h'} t' ⟨cD.after B.keep (cD.Wl T P) (λb o e q=>by have q:b=L:=q;subst q;rw[X]at e;injection e),B.os,B.hJ,B.gens,B.bare⟩ Z
   ⟨L,vs,⟨n,P.extBut _ _ (ib R) g1⟩,R,j.move (λz h=>.inl h) (pT λb o O e=>P.extBut b o (λq=>O (.inr q)) e) λz z e=>e,g3⟩
 ·refine ab (exec_Assign_Name_used _ _ _ _ O)<|bg (eA (bg ?_));refine bg (aA (qY (use:=some (lj (.Name x p) env)) (Q:=λz s'=>Q .next s') hE hA I F i J y M hg G S U ?_) (λz s' hq=>du (du hq)) λz z e=>e);exactλD L s' t' B X Z R H d=>aI H λm T=>aA (hT D L s' t' B X Z R ⟨m,T⟩ d) (λz l h=>⟨m,(kB T λo es ep q1 V q3=>⟨o,es,ep,h.1 o q1 (nN V),V,q3⟩),h.2⟩) λz z e=>e
theorem zV{fr:Bool}{e:CE}{t:kR}{q:Loc->Option Bool}{g b iter:Expr}{m8:List Expr}{Y:cQ}{pos a xp:eO}{x:bj}{avs total:List AV}{u:kR}
 (hE:bZ env K n0)(hA:i7 k A)(R:Rp h₀ K env n0 W0 s₀ loc st W ρ s)(he:Fy C k fr e)
 (i:aM (aL C.prog C.w) A (fe iter env) (λI N=>aM (aL C.prog C.w) A (tX I) (yb C.prog C.w A W ρ n0 s avs) E N) E s)
 (J:∀f W' loc' r s E,bZ f (fP K Y t) n0->EI h₀ K.tab (fP K Y t).acc f W' ρ n0 loc' st s->q loc'=some r->
   aM (aL C.prog C.w) A (forIn m8 true λc r=>if r=true then do let ok<-mT c f (fe c f);pure (bP ok)else pure (bP r)) (sV n0 s r) E s)
 (hfs:∀x,jg iter env x=pure x)(hec:cz (fP K Y t) 0 e g=true)(hg:jV K Y.names t b=true)(hs:Cd K Y)(S:avs.length<=20000)
 (U:gm (pV cfg st e t q loc) avs=some total)(c1:fg K u (.Name x xp)=true)(O:cT loc u (.lst total)=some loc'):
 aM (aL C.prog C.w) A (sf (.Assign [.Name x xp] (.ListComp g [⟨b,iter,m8,0⟩] Y pos) a) env) (Cc h₀ K env n0 W0 s₀ .next loc' st ρ st W s) E s:=by
 have V:∀{p:az},s.heap.get? p=none->¬W p:=λh q=>by refine aI (R.ei.live _ q) λo M=>?_;rw[h]at M;injection M
 refine w9 hE hA R.ei he i J hfs hec hg hs S U (λD L N F y X Z l H d=>?_) λD N F y Z d=>?_
 ·refine gB d λvs o2 j z=>?_;clear d;refine aI o2 λn g1=>?_;have v:¬Mu env ρ st L:=λq=>V X (R.KH q);have S1:j8 env ρ st W s ρ st (λp=>W p\/p=L) N:=.wide y (λp h=>.inl h) λp h=>h.imp id λh=>by exact ab h<|X
  refine fm (av:=.lst total) hA.hh hE (R.wide y F (W':=λp=>W p\/p=L) (λp h=>.inl h) (λp h=>h.imp id λh=>by exact ab h<|oR H λm o z z M z=>⟨X,o,M⟩)) c1 O (.lst (λh=>h.elim (V Z) λh=>l h.symm) ⟨n,g1⟩ j) λT B G=>⟨λo e Q=>G.keep.nt v e Q,λh' P=>?_⟩;exact⟨W,ρ,trivial,B.Kj (cD.ns G.keep v H.choose_spec) (V X) v (gC R.ext X) P,(S1.trans G).Kj (cD.ns G.keep v H.choose_spec) X P⟩
 ·exact s9 d λL vs o3 l j z=>aI o3 λn g1=>fm (av:=.lst total) hA.hh hE (R.step y F) c1 O (.lst (V Z) ⟨n,g1⟩ (j.move (λz h=>.inl (.inl h)) (λz z z z e=>e) λz z e=>e)) λT B G=>⟨W,ρ,trivial,B,(j8.ext y).trans G⟩
theorem Nt{e:CE}{g:Expr}{gens:List wc}{D:cQ}{pos:eO}{P:Prop}(h:cz K 0 e (.ListComp g gens D pos)=true)(m:∀B u it,e=.comp B u it->P)(S:∀B u it c,e=.y B u it c->P):P:=by rcases e with⟨⟩<;>first|exact m _ _ _ rfl|exact S _ _ _ _ rfl|exact(aB h).elim
theorem RY{e:CE}{vs:List Expr}{n:Nat}{pos:eO}{P:Prop}(h:cz K 0 e (.Tuple vs n pos)=true)(k:∀l,e=.tuple l->P):P:=by rcases e with⟨⟩<;>first|exact k _ rfl|exact(aB h).elim
theorem wB(H:Hand C k){e:CE}{t:kR}{x:bj}{p a pos:eO}{g:Expr}{gens:List wc}{T:cQ}(hE:bZ env K n0)(hA:i7 k A)(R:Rp h₀ K env n0 W0 s₀ loc st W ρ s)(M:ev cfg st e loc=some av)
 (O:cT loc t av=some loc')(P:fg K t (.Name x p)=true)(m:cz K 0 e (.ListComp g gens T pos)=true):
 aM (aL C.prog C.w) A (sf (.Assign [.Name x p] (.ListComp g gens T pos) a) env) (Cc h₀ K env n0 W0 s₀ .next loc' st ρ st W s) E s:=by
 refine Nt m (λB u it Q=>?_) λB u it c Q=>?_
 ·rw[Q]at M m;refine ew λY=>aU (o:=uI _) m λo1 X m=>?_;rcases o1 with⟨I,b,i,F⟩;refine Ko X λD j=>?_;clear X;rcases j with⟨⟩;have V:(cz (fP K F u) 0 B I&&jV K F.names u b&&cz K 2 it i&&Ek it&&ku K F)=true:=m;have L:=ba (ba V).1;have G:=ba L.1;refine dn M λd J M=>dn M λavs U M=>dn M λl Z M=>Y ?_;clear Y;rw[<-ay M]at O;refine zV (q:=λz=>some true) (e:=B) (t:=u) hE hA R (sv H B).1.elt ((sv H it).2.2 _ _ _ _ _ _ _ _ _ _ _ _ _ hE hA R.ei J U L.2 G.2) (λf W' loc' r s E J U Z=>?_) (lD L.2 G.2) (ba G.1).1 (ba G.1).2 (Lv (ba V).2) (lQ U) (total:=l) ?_ P O
  ·rcases Z with⟨⟩;exact Cb ⟨rfl,U.tok,.refl _⟩
  ·refine cA Z<|mm (λv=>?_) avs;rfl
 ·rw[Q]at M m;refine ew λY=>Eg m λI b i y F D j=>?_;rcases j with⟨⟩;have V:(cz (fP K T u) 0 B g&&jV K T.names u b&&cz K 2 it i&&Ek it&&xI c&&cz (fP K T u) 1 c y&&ku K T)=true:=m;have S:=ba (ba V).1;have N:=ba S.1;have L:=ba N.1;have G:=ba L.1;refine dn M λd J M=>dn M λavs U M=>dn M λl Z M=>Y ?_;clear Y;rw[<-ay M]at O;refine zV (q:=λloc'=>do cU st (<-ev cfg st c loc')) (e:=B) (t:=u) hE hA R (sv H B).1.elt ((sv H it).2.2 _ _ _ _ _ _ _ _ _ _ _ _ _ hE hA R.ei J U L.2 G.2) (λf W' loc' r s E J U Z=>uQ (sv H c).2.1 hA J U N.2 S.2 Z) (lD L.2 G.2) (ba G.1).1 (ba G.1).2 (Lv (ba V).2) (lQ U) (total:=l) ?_ P O;refine cA Z<|mm (λv=>?_) avs;delta pV;simp only[aj,MG,aJ]
noncomputable def T8(nm:List bj)(A B C F D:Bool):jA (Option (List bj)):=do
 if A then return none
 if B then return none
 if C then return none
 if F then return none
 if D then unsupported "assign.tuple-of-constant-expressions:order-of-the-stores"
 return some nm
theorem Dg{x y:bj}{p q H N:eO}{u v:Expr}{M n2:Nat}(I:env.scope.kind=.function)(F:env.kindOf x=some .local)(Y:env.kindOf y=some .local)(X:p.line=q.line)(L:(x==y)=false)(i:bJ u=true)(B:bJ v=true)
 (P:([u,v].all (pQ 8))=false)(V:([u,v].all (oj 8))=false):H3 [.Tuple [.Name x p,.Name y q] M H] (.Tuple [u,v] n2 N) env=pure (some [x,y]):=by
 have O:env.blockKind=.function:=by delta fZ.blockKind;refine ab I ?_;rfl
 have Q:∀g:Expr->Option bj,(∀id pos,g (.Name id pos)=if(env.kindOf id==some .local&&pos.line==p.line)=true then some id else none)-> [zC x p,.Name y q].filterMap g= [x,y]:=by intro g d;have e1:(env.kindOf x==some .local&&p.line==p.line)=true:=ab F<|beq_self_eq_true p.line;have e2:(env.kindOf y==some .local&&q.line==p.line)=true:=ab Y<|ab X<|beq_self_eq_true q.line;exact ab (zE ((d x p).trans (if_pos e1))) (ab (zE ((d y q).trans (if_pos e2))) rfl)
 have R:([x,y].length !=2|| [x,y].eraseDups.length != [x,y].length)=false:=by have J:(y==x)=false:=ab BEq.comm<|L;have D:([y].filter λb=> !b==x)= [y]:=List.filter_cons_of_pos (p:=λb=> !b==x) (by refine ab J ?_;rfl);refine ab List.eraseDups_cons (ab D ?_);rfl
 have G:∀f:Expr->Bool,(∀e,f e= !bJ e)->([u,v].any f)=false:=by intro f e;show(f u||(f v||false))=false;refine ab (e u) (ab (e v) (ab i (ab B ?_)));rfl
 refine cX (show∃(f:Expr->Bool) (g:Expr->Option bj),(∀e,f e= !bJ e)/\(∀id pos,g (.Name id pos)=if(env.kindOf id==some .local&&pos.line==p.line)=true then some id else none)/\H3 [.Tuple [.Name x p,.Name y q] M H] (.Tuple [u,v] n2 N) env=T8 ([zC x p,.Name y q].filterMap g) (env.blockKind !=.function) ([u,v].any f) (([zC x p,.Name y q].filterMap g).length !=2||([zC x p,.Name y q].filterMap g).eraseDups.length !=([zC x p,.Name y q].filterMap g).length) ([u,v].all (pQ 8)) ([u,v].all (oj 8))from⟨_,_,λe=>by rcases e with⟨⟩<;>rfl,λz z=>rfl,rfl⟩) λf g e1 c e2=>e2.trans<|ab (Q g c) (ab R (ab (G f e1) (ab P (ab V (ab O ?_)))));rfl
theorem OE{B:Type}{l:List B}(h:l.length=2){I:Prop}(N:∀a b,l= [a,b]->I):I:=by
 cases l with
 |nil=>injection h
 |cons a l=>
  cases l with
  |nil=>cases h
  |cons b l=>
   cases l with
   |nil=>exact N a b rfl
   |cons c l=>cases h
theorem Uh{v:aw}{l:List AV}{h:bk}(x:VR W ρ h v (.tup l)){I:Prop}(N:∀a M,v=.ref a->cL "tuple" h a M->ft W ρ h M l->I):I:=by
 (rcases x with _|_|_|_|⟨Y,G,X⟩;exact N _ _ rfl G X)
theorem Jd{a:List CE}{u v:Expr}(h:fV K 0 a [u,v]=true):bJ u=true/\bJ v=true:=by have:=kc h;simpa using this
theorem Ke{Z vs:List Expr}(h:Df K Z vs=true){I:Prop}(N:∀x p y q u v,Z= [.Name x p,.Name y q]->vs= [u,v]->(K.names.lookup x==some .local&&K.names.lookup y==some .local&&p.line==q.line&& !(x==y)&& !([u,v].all (pQ 8))&& !([u,v].all (oj 8)))=true->I):I:=aU h λt J h=>aU h λv U h=>aU h λx B h=>aU h λy d h=>N _ _ _ _ _ _ (ab (my J) (ab (gH B) (ab (gH d) rfl))) (my U) h
theorem IG(H:Hand C k){e:CE}{t:kR}{Z vs:List Expr}{n1 n2:Nat}{p1 p2 sp:eO}(hE:bZ env K n0)(hA:i7 k A)(R:Rp h₀ K env n0 W0 s₀ loc st W ρ s)(M:ev cfg st e loc=some av)
 (O:cT loc t av=some loc')(c1:fg K t (.Tuple Z n1 p1)=true)(m:cz K 0 e (.Tuple vs n2 p2)=true)(c:Df K Z vs=true):
 aM (aL C.prog C.w) A (sf (.Assign [.Tuple Z n1 p1] (.Tuple vs n2 p2) sp) env) (Cc h₀ K env n0 W0 s₀ .next loc' st ρ st W s) E s:=by
 refine Ke c λx p y q u v o2 o3 c=>?_;subst o2;subst o3
 ·have c:(K.names.lookup x==some .local&&K.names.lookup y==some .local&&p.line==q.line&& !(x==y)&& !([u,v].all (pQ 8))&& !([u,v].all (oj 8)))=true:=c;simp only[au,fv]at c;refine aN c λo4 d6=>?_;clear c;refine aN o4 λg d5=>aN g λT L=>aN T λu4 G=>aN u4 λd1 d2=>?_;clear c;have d1:=beq_iff_eq.mp d1;have d2:=beq_iff_eq.mp d2;have G:=beq_iff_eq.mp G;have k1:env.kindOf x=some .local:=by delta iM;exact ab hE.names<|d1
  have k2:env.kindOf y=some .local:=by delta iM;exact ab hE.names<|d2
  have hst:bJ u=true/\bJ v=true:=by refine RY m λl ee=>?_;rw[ee]at m;have hc:(decide (l.length<=1000)&&fV K 0 l [u,v])=true:=m;exact Jd (ba hc).2
  rcases t with i|I
  ·exact absurd c1 (λh=>aB h)
  ·refine ew λY=>kB (rO c1) λes _ _ e1 F f=>?_;clear c1;injection e1 with S;subst S;refine OE F.symm λi j o5=>?_;subst o5;refine Y ?_;clear Y
   ·refine ew λY=>aN (ba (a:=qH K K.names i _) f) λga gb=>?_;clear f;refine cX (ij ga) λ_ _ e2 f _=>?_;injection e2 with S;subst S;refine cX (ij (ba (a:=qH K K.names j _) gb).1) λ_ _ e2 g2 _=>?_;clear gb;injection e2 with S;subst S;refine Y ?_;clear Y;have J:i≠j:=by
     intro o6;subst o6;rw[f]at g2;injection g2 with S;subst S;simp at L
    refine bg (eA ?_);refine bg (du ?_);refine bg (cu ((sv H e).1 _ _ _ _ _ _ _ _ _ _ _ _ hE hA R.ei M m) λz N D=>?_);clear M;refine ab (Dg hE.kind k1 k2 G L hst.1 hst.2 d5 d6)<|bg (du ?_);have R1:=R.step D.2.1 D.1;refine ew λY=>?_;obtain⟨l,rfl⟩:∃l,av=.tup l:=by rcases av with⟨⟩<;>first|exact⟨_,rfl⟩|(injection O;done)
    simp only[(id sk)]at O;refine Uh D.2.2 λa us o7 o8 d=>?_;subst o7;refine aI o8 λn hs=>?_;have B:=lV O;refine OE B λa1 a2 o9=>?_;subst o9;refine OE d.length λV v2 r=>?_;subst r;refine Y ?_;clear Y
    ·show aM _ A (do rule "assign.swapped-stores";let items<-unpackItems (.ref a) 2 none;HW [Fq env y,Fq env x] items.reverse;(pure Xu:jA kO)) _ _ N;refine bg (wpAny_rule (bg (unpackItems_tuple (items:= #[V,v2]) hA.hh ⟨_,hs,rfl,n,rfl⟩ λh' he=>?_)));have hkk:iu N.heap h':=λb o e=>he b o (λq=>by subst q;rw[cO]at e;injection e) e;have hO:∀(z:bj),K.names.lookup z=some .local->∃ad,mi env z ad/\j7 env ad:=λz hz=>hE.own (.inl hz);refine bg ?_;have X:Rp h₀ K env n0 W0 s₀ loc st W ρ {N with heap:=h'}:=R1.step (.of (s:=N) (tk:=N.toks) hkk) R1.ei.tok;refine bY (s:={N with heap:=h'}) R1.ei.tok (xC (own:=j7 env) (tab:=K.tab) (P:=CV K.acc loc) hE.kind hE.R R.own [(j,y,Fq env y),(i,x,Fq env x)] [v2,V] [a2,a1] _ ?_ rfl X.ei.frame (ni.mp X.ei.vars) ((d.reverse).keep hkk.k) λs' U F' P' ht=>?_)
     ·intro q hq;simp only[aS,dy,or_false]at hq;refine ak hq (λg=>?_) λT=>?_;subst g;rotate_left;subst T;rotate_right
      ·exact⟨g2,hO y d2,λv Q s h=>YY h⟩
      ·exact⟨f,hO x d1,λv Q s h=>YY h⟩
     ·refine du ⟨W,ρ,trivial,X.Ri U F' ?_ ht,(j8.ext (D.2.1.trans (.of (s:=N) (tk:=N.toks) hkk))).trans (.Ri U X.ei.frame)⟩;rw[y8 J]at O;have:=ni.mpr (P'.mono (tB (acc:=K.acc) O));exactλi hi x hx a ha hu=>this i (fo _ hi) x hx a ha hu
theorem Wz(H:Hand C k){e:CE}{t:kR}:md C k (.cI t e):=by
 intro K env x W0 s₀ n0 loc loc' st st' G W ρ A s E hE hA R M V;refine ew λY=>uj V λg v pos L I=>?_;subst L;clear V;simp only[au]at I;refine aN I λF c=>?_;clear I;refine aN F λP m=>?_;clear F;refine dn M λav J M=>dn M λl2 U M=>Y ?_;clear Y;cases ay M;by_cases Q:∃x p,g=.Name x p
 ·refine ej Q λx p n=>?_;clear Q;subst n;by_cases X:∃D gens u q,v=.ListComp D gens u q
  ·refine JG X λD gens u q S=>?_;clear X;subst S;exact wB H hE hA R J U P m
  ·have B:iF v=false:=by
    rcases hv:iF v with _|_
    ·rfl
    ·exact absurd (Ja m hv) X
   exact pa (sv H e).1 hE hA R J U P m (.inl ⟨x,p,rfl,B⟩)
 ·rcases hg:kU g with _|q
  ·simp only[IF,hg]at c;refine aU c λt1 Z c=>?_;cases rU Z;rcases hv:xN v with _|N
   ·rw[hv]at c;refine EJ c λq d=>?_;cases sR d;exact pa (sv H e).1 hE hA R J U P m (.inr ⟨_,_,_,_,_,_,_,rfl,rfl⟩)
   ·simp only[hv]at c;cases rU hv;exact IG H hE hA R J U P m c
  ·exact absurd ⟨_,_,gH hg⟩ Q
def XC(W:az->Prop)(ρ:List az)(n0:Nat)(s:ao)(l:List AV):aw->ao->Prop:=λv s'=>n0<=s'.toks/\gK s s'/\∃a vs,v=.ref a/\s.heap.get? a=none/\cL "list" s'.heap a vs/\ft (λp=>W p\/p=a) ρ s'.heap vs l
theorem qz{es:List CE}{xs:List Expr}{pos:eO}{l:List AV}(B:∀e∈es,bU C k e)(hE:bZ env K n0)(hA:i7 k A)(I:EI h₀ K.tab K.acc env W ρ n0 loc st s)(M:sq cfg st es loc=some l)(V:cz K 0 (.list es) (.List xs pos)=true):
 aM (aL C.prog C.w) A (fe (.List xs pos) env) (XC W ρ n0 s l) E s:=by
 have V:(decide (es.length<=1000)&&fV K 0 es xs)=true:=V;simp only[au,decide_eq_true_eq]at V;refine wpAny_List (gW es B _ _ _ _ _ _ _ _ _ _ _ _ _ _ hE hA I M V.2 λvs N F y d=>⟨?_,?_⟩)
 ·exact ab d.length<|ab (nJ M)<|aP V.1 (by decide)
 ·refine⟨F,y.trans (.of (s:=N) (tk:=N.toks) (bO.push _ _)),_,vs,rfl,gC y (cO _),⟨0,bV _ rfl⟩,d.move (λp h=>h.imp id λh=>by exact ab h<|cO _) (λb T vs z Y=>aI Y λn h=>⟨n,bO.push _ _ b _ h⟩) λz z h=>h⟩
theorem yB{l:List CE}{x:Expr}{m:List AV}(X:∀e∈l,bU C k e)(hE:bZ env K n0)(hA:i7 k A)(I:EI h₀ K.tab K.acc env W ρ n0 loc st s)(M:ev cfg st (.I l) loc=some (.lst m))(V:cz K 0 (.I l) x=true):
 aM (aL C.prog C.w) A (fe x env) (XC W ρ n0 s m) E s:=by
 refine bY I.tok<|ew λY=>Kc V λf p g p' xs L pos o1=>?_;subst o1;have V:(ro K "list" f&&ro K "range" g&&fV K 0 l xs&& !l.isEmpty)=true:=V;simp only[au]at V;refine aN V λo2 h=>?_;clear V;refine aN o2 λH c3=>aN H λP c2=>?_;clear V;clear o2;refine Y ?_;clear Y;have hne:xs≠ []:=by intro o3;subst o3;(rcases l with _|⟨e,l⟩;(exact(aB h).elim);exact(aB c3).elim)
 simp only[(id fD),aj,bF,aJ,bL,AV.lst.injEq]at M;refine ew λY=>?_;obtain⟨avs,J,rl',U,rfl⟩:=M;refine Y ?_;clear Y;refine dE (lu (v:=.type "list") hE P (om rfl) I.base ?_);refine dX rfl (dH (dP ?_));refine dE (lu (v:=.type "range") hE c2 (by simp[lM]) I.base ?_);have F:=kc c3;have hpl:=nD (pos:=L) (env:=env) F;refine dX hpl (lB F hne ?_);refine gW l X _ _ _ _ _ _ _ _ _ _ _ _ _ _ hE hA I J c3 λvs N t₁ e₁ d=>qF d U λa b c t u v r T i hr0 G R hsz Q X=>e7<|Yb hA.hh G R hsz (by lia) λh' tk q c' hk hS' O=>λS=>⟨S,(e₁.trans i).trans (.of hk),_,q.toList,rfl,gC (e₁.trans i) (cO _),⟨c',hS'⟩,?_⟩;refine ab X ?_;have B:q.toList.length=rl'.length:=by simp[O.1]
 have Z:∀(W:az->Prop) (n:Nat) (D:List aw) (z:Int),D.length=n->(∀(j:Nat) (v:aw),D[j]? =some (v:aw)->∃t:nZ,v=cy (z+(j:Int)*c) t)->ft W ρ h' D ((gV z c n).map AV.int):=by
  intro W n
  induction n with
  |zero=>exactλD z hy _=>ab (dD hy)<|.nil
  |succ n ih=>
   intro D z hy o;rcases D with _|⟨y,r⟩
   ·injection hy
   ·refine aI (o 0 y rfl) λt e=>?_;have e':y=.int z t:=by simpa using e
    refine ab e' ?_;have:=ih r (z+c) (by simpa using hy) λj v hv=>by
     refine aI (o (j+1) v (by simpa using hv)) λt e=>⟨t,?_⟩;refine ab e ?_;congr 1;push_cast;refine ab (g8 ..) ?_;lia
    have er:(gV z c (n+1)).map AV.int=AV.int z::(gV (z+c) c n).map AV.int:=by
     delta gV;refine ab j0 ?_;simp only[bI,fi,iJ];congr 1
     ·simp
     ·apply jn;intro j _;congr 1;push_cast;refine ab (g8 ..) ?_;lia
    exact ab er<|.cons (.int _ _) this
 exact Z _ _ _ _ B λj v hv=>O.2 j v (by simpa using hv)
theorem AK{e:CE}{P:Prop}(h:vC e=true)(m:∀l,e=.list l->P)(S:∀l,e=.I l->P):P:=
 (jm.mp h).elim (λh=>CE.yt (motive_1:=λe=>(∀l,e=.list l->P)->P) e (eq_of_beq h) (λl k=>k l rfl) m) λh=>CE.Jn (motive_1:=λe=>(∀l,e=.I l->P)->P) e (eq_of_beq h) (λl k=>k l rfl) S
theorem En{vs:List aw}(h:vs.length<=cB):vs.toArray.size<=mJ:=by simp;exact mV h
theorem VR.yY{h:bk}{v:aw}{n:Nat}(x:VR W ρ h v (.ref n)){I:Prop}(N:∀a,v=.ref a->ρ[n]? =some a->I):I:=by
 rcases x with _|_|_|_|_|_|g
 ·exact N _ rfl g
theorem WE(H:Hand C k){e:CE}{i:Nat}:md C k (.new i e):=by
 intro K env x W0 s₀ n0 loc loc' st st' L W ρ A s E hE hA R M V;refine dn M λl J M=>?_;replace J:=Kz J;rcases hnew:vC e with _|_
 ·have M:(if vC e=true then _ else none)=some (L,loc',st'):=M;rw[hnew]at M;injection M
 ·have M:(if vC e=true then(ek loc i (.ref st.length)).bind λq=>some (Fl.next,q,st++ [some l])else none)=some (L,loc',st'):=M;rw[hnew]at M;refine dn M λl2 U M=>?_;have e1:l2=loc':=congrArg (·.2.1) (ay M);have e2:st++ [some l]=st':=congrArg (·.2.2) (ay M);have c:Fl.next=L:=congrArg (·.1) (ay M);refine cA e2 (cA c ?_);rw[e1]at U;refine ew λY=>Om V λg v pos ex I=>?_;have m:=(ba (ba I).1).2;have P:=(ba (ba I).1).1;refine eb (ij P) λd xp Q z=>Y ?_;clear Y;rw[Q]at ex P;refine ab ex<|gG (.inl ⟨_,_,rfl,by simpa using(ba I).2⟩) ?_;have fin:∀v N,XC W ρ n0 s l v N->aM (aL C.prog C.w) A (lj (.Name d xp) env v) (λz=>Cc h₀ K env n0 W0 s₀ .next loc' (st++ [some l]) ρ st W s .next) E N:=λv N f=>by
   obtain⟨F,y,a,vs,r,Z,o,D⟩:=f;refine ab r<|R.KL y F (as:= [a]) (ls:= [l]) rfl (by simp) (by simpa using Z) (X:=λz=>False) (λp h=>h.elim) (λj a' l' J U=>by
    rcases j with _|j
    ·injection J with S;subst S;injection U with S;subst S;exact⟨vs,o,D.move (λp h=>.inl (h.elim (λh=>h.imp id λh=>by simpa using h) mF)) (λz z z z e=>e) λn b e=>bp (cM (aQ.mp e).1)<|e⟩
    ·injection J) λu S1 z=>?_
   exact fm (t:=.bX i) (av:=.ref st.length) hA.hh hE u P U (.ref (by refine bp (bG (ab R.len<|aV _)) (ab R.len ?_);simp)) λT B G=>⟨_,_,trivial,B,S1.trans G⟩
  refine AK hnew (λes e=>?_) λes e=>?_
  ·rw[e]at J m;refine ew λY=>bW J λl' J O=>?_;rcases O with⟨⟩;refine yH m λxs p ev=>Y ?_;clear Y;rw[ev]at m⊢;exact aA (qz (UD H es) hE hA R.ei J m) fin λz z e=>e
  ·rw[e]at J m;exact aA (yB (UD H _) hE hA R.ei J m) fin λz z e=>e
theorem zo{h:bk}{a:az}(f:Array aw->Array aw){vs vs':List aw}{l:List AV}{W':az->Prop}(hW:W' a)(D:ft W' ρ h vs' l):ft W' ρ (h.update a (wA f)) vs' l:=
 D.move (λz h=>.inl h) (pT λb o O h=>(fN ..).extBut b o (λq=>O (q▸hW)) h) λz z h=>h
theorem Ls(H:Hand C k){a ix e:CE}:md C k (.J a ix e):=by
 intro K env x W0 s₀ n0 loc loc' st st' L W ρ A s E hE hA R M V;refine dn M λav J M=>dn M λaa U M=>dn M λn G M=>dn M λb Z M=>dn M λi hi M=>dn M λl d M=>?_;rw[oY G]at U;rw[iE hi]at Z;by_cases O:0<=i/\i<l.length/\l.length<=cB
 ·rw[if_pos O]at M;cases ay M;refine vA V λy z q v pos ex I=>?_;have P:=ba (ba (ba (ba I).1).1).1;refine ab ex<|M8 (cu ((sv H e).1 _ _ _ _ _ _ _ _ _ _ _ _ hE hA R.ei J (ba (ba I).1).2) λu N D=>?_) (vR (t:=some _) rfl (by simpa using(ba I).2));have p:=R.step D.2.1 D.1;refine cu ((sv H a).1 _ _ _ _ _ _ _ _ _ _ _ _ hE hA p.ei U P.1) λov T B=>?_;have c:=p.step B.2.1 B.1;refine cu ((sv H ix).1 _ _ _ _ _ _ _ _ _ _ _ _ hE hA c.ei Z P.2) λY X F=>cX ((c.step F.2.1 F.1).ei.store n l (fF d)) λad vs f o4 g3=>aI o4 λm j=>B.2.2.yY λr ho g=>F.2.2.dK λti hi=>?_;rw[g]at f;rcases f with⟨⟩;refine ab ho (ab hi ?_);have S:l.length<=10000:=O.2.2;have Q:i<vs.length:=ab g3.length<|O.2.1;refine ki_setAt j O.1 (by lia) (by simp;omega+splitDisjunctions) ?_;refine(c.step F.2.1 F.1).Po (l':=l.set i.toNat av) (vs':=vs.set i.toNat u) (h':=X.heap.update ad (wA (·.setIfInBounds i.toNat u))) (fF d) g (fN ..) ⟨_,by simpa using wx j (·.setIfInBounds i.toNat u)⟩
   (zo (vs:=vs) _ ((c.step F.2.1 F.1).KH (.inr ⟨n,l,(fF d),g⟩)) (ft.set g3 ((D.2.2.keep B.2.1.keep).keep F.2.1.keep))) λh o=>?_
  exact⟨W,ρ,trivial,h,(j8.ext ((D.2.1.trans B.2.1).trans F.2.1)).trans o⟩
 ·rw[if_neg O]at M;injection M
theorem A3{i:Nat}{y:Expr}(h:cz K 0 (.a i) y=true):fS y=true:=by refine qB h λx p e=>ab e ?_;rfl
theorem Wy(H:Hand C k){i:Nat}{e:CE}:md C k (.app i e):=by
 intro K env x W0 s₀ n0 loc loc' st st' L W ρ A s E hE hA R M V;refine dn M λav J M=>dn M λS U M=>dn M λn G M=>dn M λl d M=>?_;simp only[oY G]at U;by_cases O:l.length<=cB
 ·rw[if_pos O]at M;cases ay M;refine Ob V λy nm b z p q ex I=>?_;have c:=ba (ba (ba I).1).1;refine ab ex<|ab (eq_of_beq (ba c.1).2)<|Ft ?_ (by delta tV;refine ab hE.kind ?_;rfl) rfl;refine xQ (iA (A3 (ba c.1).1)) (cY (ba (ba I).1).2) ((ba I).2) (cu ((sv H (.a i)).1 _ _ _ _ _ _ _ _ _ _ _ _ hE hA R.ei U (ba c.1).1) λv N D=>?_);have X:=R.step D.2.1 D.1;refine ew λY=>cX (X.ei.store n l (fF d)) λad vs f Q t=>aI Q λm j=>D.2.2.yY λr Z g=>?_;rw[g]at f;rcases f with⟨⟩;refine Y ?_;clear Y;refine ab Z<|⟨"list","list.append",F.plainAttrs_list,F.slot_list_append,F.type_list_append,⟨_,j,rfl⟩,(λa e=>by rcases e with⟨⟩;exact⟨_,j,rfl⟩),?_⟩;refine P.append_list (cu ((sv H e).1 _ _ _ _ _ _ _ _ _ _ _ _ hE hA X.ei J c.2) λu T B=>?_);refine⟨vs.toArray,m,En (ab t.length<|O),(B.2.1.keep.nt j (i8 rfl)),?_⟩;refine(X.step B.2.1 B.1).Po (l':=l++ [av]) (vs':=vs++ [u]) (h':=T.heap.update ad (wA (·.push u))) (fF d) g (fN ..) ⟨_,by simpa using wx (B.2.1.keep.nt j (i8 rfl)) (·.push u)⟩
   (zo (vs:=vs) _ ((X.step B.2.1 B.1).KH (.inr ⟨n,l,(fF d),g⟩)) (ft.append (t.keep B.2.1.keep) (.cons B.2.2 .nil))) λh o=>?_
  exact⟨W,ρ,trivial,h,(j8.ext (D.2.1.trans B.2.1)).trans o⟩
 ·rw[if_neg O]at M;injection M
theorem WH(H:Hand C k){i:Nat}:md C k (.rev i):=by
 intro K env x W0 s₀ n0 loc loc' st st' L W ρ A s E hE hA R M V;refine dn M λS U M=>dn M λn G M=>dn M λl d M=>?_;simp only[oY G]at U;by_cases O:l.length<=cB
 ·rw[if_pos O]at M;cases ay M;refine Ou V λy nm b p q ex I=>ab ex<|ab (eq_of_beq (ba (ba I).1).2)<|Ft ?_ (by delta tV;refine ab hE.kind ?_;rfl) rfl;refine xP (iA (A3 (ba (ba I).1).1)) ((ba I).2) (cu ((sv H (.a i)).1 _ _ _ _ _ _ _ _ _ _ _ _ hE hA R.ei U (ba (ba I).1).1) λv N D=>?_);have u:=R.step D.2.1 D.1;refine ew λY=>cX (u.ei.store n l (fF d)) λad vs f c t=>aI c λm j=>D.2.2.yY λr B g=>?_;rw[g]at f;rcases f with⟨⟩;refine Y ?_;clear Y;refine ab B<|⟨"list","list.reverse",F.plainAttrs_list,F.slot_list_reverse,F.type_list_reverse,⟨_,j,rfl⟩,(λa e=>by rcases e with⟨⟩;exact⟨_,j,rfl⟩),?_⟩;refine P.reverse_list j ?_ (En (ab t.length<|O));refine u.Po (l':=l.reverse) (vs':=vs.reverse) (h':=N.heap.update ad (wA λx=>x.reverse)) (fF d) g (fN ..) ⟨_,by simpa using wx j (λx=>x.reverse)⟩
   (zo (vs:=vs) _ (u.KH (.inr ⟨n,l,(fF d),g⟩)) (ft.reverse t)) λh o=>?_
  exact⟨W,ρ,trivial,h,(j8.ext D.2.1).trans o⟩
 ·rw[if_neg O]at M;injection M
theorem F0{i:Nat}{ix e:CE}{op:cV}{L:Fl}{P:Prop}(h:mY cfg (.oH i ix op e) loc st=some (L,loc',st'))(k:∀n j l x v y,ev cfg st (.a i) loc=some (.ref n)->ev cfg st ix loc=some (.int j)->(st[n]?).join=some l->l[j.toNat]? =some x->ev cfg st e loc=some v->
 jv st op x v=some y->(0<=j/\j<l.length/\l.length<=cB/\oG x=true)->L=.next->loc'=loc->st'=st.set n (some (l.set j.toNat y))->P):P:=by
 refine dn h λa J h=>dn h λn U h=>dn h λb Z h=>dn h λj d h=>dn h λl B h=>dn h λx T h=>dn h λv V h=>dn h λy m h=>?_;by_cases O:0<=j/\j<l.length/\l.length<=cB/\oG x=true
 ·rw[if_pos O]at h;exact k n j l x v y (ab J (ab (oY U) rfl)) (ab Z (ab (iE d) rfl)) B T V m O (congrArg (·.1) (ay h)).symm (congrArg (·.2.1) (ay h)).symm (congrArg (·.2.2) (ay h)).symm
 ·rw[if_neg O]at h;injection h
theorem FC{z:Expr}(h:pZ z=true):∀v Y new,augStore z v Y new=(do ie [new,v,Y] (setItem v Y new);release [new,v,Y] [];pure Xu):=by intro v Y new;rcases z with⟨⟩<;>first|rfl|exact(aB h).elim
theorem Lq(H:Hand C k){i:Nat}{ix:CE}{op:cV}{e:CE}:md C k (.oH i ix op e):=by
 intro K env x W0 s₀ n0 loc loc' st st' L W ρ A s E hE hA R M V;refine F0 M λn j l a av r U Z d h5 J T O e1 e2 e3=>ab e1<|ab e2<|ab e3<|CK V λy z q op' v pos ex I=>?_;have c:=ba (ba (ba I).1).1;refine ab ex (cA (eq_of_beq (ba (ba I).1).2) ?_);have hcap:l.length<=10000:=O.2.2.1;refine wpAny_AugAssign_SubscriptAny (cu ((sv H (.a i)).1 _ _ _ _ _ _ _ _ _ _ _ _ hE hA R.ei U (ba c.1).1) λov N D=>?_) (FC c.2);have R1:=R.step D.2.1 D.1;refine cu ((sv H ix).1 _ _ _ _ _ _ _ _ _ _ _ _ hE hA R1.ei Z (ba c.1).2) λY s₂ B=>?_;have X:=R1.step B.2.1 B.1;refine cX (X.ei.store n l (fF d)) λad vs f o1 t=>aI o1 λm g2=>D.2.2.yY λad' ho g=>B.2.2.dK λti hi=>?_;rw[g]at f;rcases f with⟨⟩;refine ab ho (ab hi ?_);have hjl:j<vs.length:=ab t.length<|O.2.1;refine aC (t.get h5) λp w1 w2=>UY (MZ (n:=m) g2) O.1 (by omega+splitDisjunctions) (x:=p) (by simpa using w1)<|cu ((sv H e).1 _ _ _ _ _ _ _ _ _ _ _ _ hE hA X.ei J (ba I).2) λu s₃ F=>?_;have R3:=X.step F.2.1 F.1;rw[wQ O.2.2.2]at T;refine cu (e9.qa (n0:=n0) F.1 (Ew (w2.keep F.2.1.keep) F.2.2 T (zW O.2.2.2))) λz S G=>ki_setAt (G.2.1.keep.nt (F.2.1.keep.nt g2 (i8 rfl)) (i8 rfl)) O.1 (by omega+splitDisjunctions) (by simp;omega+splitDisjunctions) ?_;refine(R3.step G.2.1 G.1).Po (l':=l.set j.toNat r) (vs':=vs.set j.toNat z) (h':=S.heap.update ad (wA (·.setIfInBounds j.toNat z))) (fF d) g (fN ..) ⟨_,by simpa using wx (G.2.1.keep.nt (F.2.1.keep.nt g2 (i8 rfl)) (i8 rfl)) (·.setIfInBounds j.toNat z)⟩
  ((ft.set ((t.keep F.2.1.keep).keep G.2.1.keep) G.2.2).move (λ_ h=>.inl h) (pT λb o O h=>(fN ..).extBut b o (λq=>O (q▸(R3.step G.2.1 G.1).KH (.inr ⟨n,l,(fF d),g⟩))) h) λ_ _ h=>h) λQ P=>?_
 exact⟨W,ρ,trivial,Q,(j8.ext (((D.2.1.trans B.2.1).trans F.2.1).trans G.2.1)).trans P⟩
theorem qZ{loc:Loc}{es:List CE}:∀{l:List AV},pw es=some l->sq cfg st es loc=some l/\∀a∈l,∃i,a=.int i:=by
 induction es with
 |nil=>intro l h;injection h with S;subst S;exact⟨rfl,λa L=>nomatch L⟩
 |cons e es R=>
  intro l h;refine aC (aZ h) λi J h=>bW h λq U r=>cA r ?_;cases FQ J;refine aN (R U) λf j=>⟨?_,λa L=>?_⟩
  ·show(sq cfg st es loc).bind _=_;refine ab f ?_;rfl
  ·refine ak (aS.mp L) (λL=>?_) λL=>?_
   ·exact⟨i,L⟩
   ·exact j a L
theorem vr{W W':az->Prop}{ρ ρ':List az}{h h':bk}:∀{l:List AV} {M:List aw},(∀a∈l,∃i,a=AV.int i)->ft W ρ h M l->ft W' ρ' h' M l/\∀u∈M,∃i t,u=cy i t:=by
 intro G
 induction G with
 |nil=>
  intro M X x;rcases x with⟨⟩;exact⟨.nil,λu N=>nomatch N⟩
 |cons a l P=>
  intro M X x;refine aI (X a aH) λi B=>?_;subst B;rcases x with _|⟨p,q⟩
  ·rcases p with _|_|⟨_,t⟩
   ·refine aN (P (λa L=>X a (ax _ L)) q) λf j=>⟨.cons (.int _ _) f,λu N=>?_⟩;refine ak (aS.mp N) (λH=>?_) λN=>?_;refine ab H ?_
    ·exact⟨_,_,rfl⟩
    ·exact j u N
theorem O0{h:bk}{r:List AV}:∀{m:Nat} {vs:List aw},ft W ρ h vs (bw m (.lst r))->∃rs:List az,vs=rs.map .ref/\rs.length=m/\∀b∈rs,¬W b/\∃M,cL "list" h b M/\ft W ρ h M r:=by
 intro G
 induction G with
 |zero=>
  intro vs x;rcases x with⟨⟩;exact⟨[],rfl,rfl,λb O=>nomatch O⟩
 |succ m P=>
  intro vs x;simp only[HJ]at x;rcases x with _|⟨p,q⟩
  ·refine gB (P q) λrs u U Z=>ab u ?_;rcases p with _|_|_|_|_|⟨Y,B,X⟩
   ·refine⟨_::rs,rfl,dN ((λ{a b}=>tT.mp) (congrArg Nat.succ (congrFun (congrArg BG (id (dN U))) 1))),λb O=>?_⟩;refine ak (aS.mp O) (λH=>?_) λO=>?_;refine ab H ?_
    ·exact⟨Y,_,B,X⟩
    ·exact Z b O
theorem FT{f:AV->Option (Option AV)}{b:AV}:∀{l:List AV},(∀a∈l,f a=some (some b))->gm f l=some (bw l.length b):=by
 intro G
 induction G with
 |nil=>
  exactλz=>rfl
 |cons a l P=>
  intro h;simp only[(id qm),h a aH,aj,af,P λc V=>h c (ax _ V)];rfl
theorem OY{W:az->Prop}{ρ:List az}{h:bk}:∀{rs:List az} {b:Nat},(∀(j:Nat) (a:az),rs[j]? =some a->ρ[b+j]? =some a)->ft W ρ h (rs.map .ref) ((aG rs.length).map λj=>AV.ref (b+j)):=by
 intro G
 induction G with
 |nil=>
  intro b z;exact .nil
 |cons a rs P=>
  intro b hh;have R:=P λj I e=>by
   have:=hh (j+1) I (e);refine cA this ?_;congr 1;exact dS b j
  simp only[bu,j0,bI,bI,fi];refine .cons (.ref (hh 0 a rfl)) ?_;have:((λj=>AV.ref (b+j))∘Nat.succ)=λj=>AV.ref (b+1+j):=by funext j;simp only[Function.comp];congr 1;exact dN (dS b j)
  exact ab this<|R
theorem NO{i n:Nat}{B it:CE}{L:Fl}{P:Prop}(h:mY cfg (.GG i B it n) loc st=some (L,loc',st'))(k:∀es l b avs,B=.list es->pw es=some l->ev cfg st it loc=some b->fQ st b=some avs->n<loc.length->ek loc i (.ref (st.length+avs.length))=some loc'->L=.next->st'=st++(oV st.length avs.length l).map some->P):P:=by
 refine dn h λl G h=>dn G λes F D=>dn h λb J h=>dn h λavs U h=>?_;by_cases Q:n<loc.length
 ·rw[if_pos Q]at h;refine dn h λl2 Z h=>?_;have e1:l2=loc':=congrArg (·.2.1) (ay h);exact k es l b avs (Gs F) D J U Q (e1▸Z) (congrArg (·.1) (ay h)).symm (congrArg (·.2.2) (ay h)).symm
 ·rw[if_neg Q]at h;injection h
theorem NH(H:Hand C k){es:List CE}:Fy C k true (.list es):=λK env x loc av W ρ n0 st A s E J U Z d O=>by
 refine ew λY=>yH O λz z e=>bW d λl' d B=>Y ?_;clear Y;rw[e]at O⊢;refine cA B<|aA (qz (UD H es) J U Z d O) (λv s' q=>?_) λz z e=>e;refine ew λY=>?_;obtain⟨t',B,a,vs,D,L,G,I⟩:=q;refine Y ?_;clear Y;refine ab D ?_;have F:¬W a:=λq=>by
  refine aI (Z.live a q) λo M=>?_;rw[L]at M;injection M
 exact⟨⟨t',B,.lst F G (I.move (λz h=>.inl (.inl h)) (λz z z z e=>e) λz z e=>e)⟩,λz=>⟨a,rfl,L,aI G λm h=>⟨_,h⟩⟩⟩
theorem Pl{h:bk}{D:az}{M vs:List aw}(x:cL "list" h D M)(y:cL "list" h D vs):M=vs:=by refine aI x λm1 f=>aI y λm2 j=>?_;rw[f]at j;injection(congrArg hC.data (ay j))with Z;exact congrArg Array.toList Z
theorem GF{k m:Nat}{l l':List AV}{j:Nat}(h:(oV k m l)[j]? =some l'):(j<m/\l'=l)\/(j=m/\l'=(aG m).map λj=>AV.ref (k+j)):=by
 delta oV at h;refine ak (tS j m) (λQ=>?_) λQ=>?_
 ·rw[cM (ab pM<|Q)]at h;exact .inl ⟨Q,zD (aW h)⟩
 ·rw[bG (ab pM<|Q),pM]at h;rcases e:j-m with _|i
  ·rw[e]at h;injection h with S;exact ab S<|.inr ⟨by grind,rfl⟩
  ·rw[e]at h;injection h
theorem A0(R:Rp h₀ K env n0 W0 s₀ loc st W ρ s){l:List AV}(G:∀a∈l,∃i,a=AV.int i){m:Nat}{X:az->Prop}{D:az}{N:ao}{vs:List aw}(P:∀p,X p->s.heap.get? p=none/\∃o,N.heap.get? p=some o)(F:n0<=N.toks)(y:gK s N)(Z:s.heap.get? D=none)(c:¬X D)(hDs:cL "list" N.heap D vs)
 (hXW:∀p,X p->W' p)(d:ft W' ρ N.heap vs (bw m (.lst l)))(q:vs.Nodup)(x:∀v∈vs,∃a,v=.ref a/\s.heap.get? a=none){I:Prop}(K_:∀as,(Rp h₀ K env n0 W0 s₀ loc (st++(oV st.length m l).map some) (λp=>(W p\/p∈as)\/X p) (ρ++as) N)->(j8 env ρ st W s (ρ++as) (st++(oV st.length m l).map some) (λp=>(W p\/p∈as)\/X p) N)->(ρ++as)[st.length+m]? =some D->((∀p,X p->p∉as))->(∀p,Mu env (ρ++as) (st++(oV st.length m l).map some) p->Mu env ρ st p\/p∈as)->I):I:=by
 refine gB (O0 d) λrs hv V n=>?_;rw[hv]at hDs q x;have hrd:∀a∈rs,s.heap.get? a=none:=λa L=>by
  refine aC (x (.ref a) (HI L)) λb O hb'=>?_;injection O with S;exact ab S<|hb'
 have hDr:D∉rs:=λT=>by
  obtain⟨_,M,f,g2⟩:=n D T;refine ej ((vr (W':=W') (ρ':=ρ) (h':=N.heap) G g2).2 (.ref D) (ab (Pl f hDs)<|HI T)) λi t h=>?_;injection h
 have r:∀{j:Nat},(ρ++(rs++ [D]))[st.length+j]? =(rs++ [D])[j]? :=λ{j}=>bp (bG (ab R.len<|ja _ _)) (ab R.len (ab (Nat.add_sub_cancel_left ..) rfl));refine R.KL y F (as:=rs++ [D]) (ls:=oV st.length m l) (by simp[oV,V])
  (MD.mpr ⟨(List.Pairwise.of_map _ (λa b h e=>h (congrArg _ e)) q),by simp,λa L b O e=>hDr (bS.mp O▸e▸L)⟩) (λa L=>by
    refine ak (dw.mp L) (λL=>?_) λL=>?_
    ·exact hrd a L
    ·exact ab (bS.mp L)<|Z) (X:=X) P (λj a l' J U=>by
    refine ak (GF U) (λH=>aN H λQ e=>?_) λg=>aN g λQ e=>?_
    ·rw[cM (ab V<|Q)]at J;refine ew λY=>?_;obtain⟨_,M,f,g2⟩:=n a (aW J);refine Y ?_;clear Y;exact ab e<|⟨M,f,(vr G g2).1⟩
    ·simp only[bG (ab V<|ab Q<|aV _),V,Q,oC]at J;injection J with S;subst S;refine ab e<|⟨rs.map .ref,hDs,?_⟩;refine cA V<|OY λj a e=>ab r<|ab (cM (aQ.mp e).1)<|e) λu S1 M1=>?_
 refine K_ _ u S1 ?_ (λp B T=>?_) M1
 ·refine ab r (ab (bG (ab V<|aV _)) (ab V (ab (oC ..) ?_)));rfl
 ·refine ak (dw.mp T) (λT=>?_) λT=>?_
  ·exact(n _ T).1 (hXW _ B)
  ·rw[bS.mp T]at B;exact c B
theorem TV(H:Hand C k){i n:Nat}{row it:CE}:md C k (.GG i row it n):=by
 intro K env x W0 s₀ n0 loc loc' st st' fl W ρ A s E hE hA R hev V;refine NO hev λes l b avs O hes J h2 hnl Z e1 e2=>ab e1 (ab e2 ?_);rw[O]at V;refine ew λY=>Kd V λg r tg it' sc p p' e I=>?_;have c:=ba (ba (ba (ba I).1).1).1;have P:=ba c.1;refine eb (ij P.1) λxn xp eg z=>yH P.2 λxs rp e'=>Y ?_;clear Y;rw[eg]at P e;refine ab e ?_;have hint:=(qZ (cfg:=cfg) (st:=st) (loc:=loc) hes).2;have nW:∀{p:az},s.heap.get? p=none->¬W p:=λh q=>by
  refine aI (R.ei.live _ q) λo M=>?_;rw[h]at M;injection M
 have U:gm (pV cfg st (.list es) (.bX n) (λz=>some true) loc) avs=some (bw avs.length (.lst l)):=FT λa z=>by
  delta pV;simp only[(id sk),ek,hnl,if_true,aj,af,(id fD),(qZ hes).1,aK,aJ]
 refine w9 (fr:=true) (e:=.list es) (t:=.bX n) (q:=λz=>some true) hE hA R.ei (NH H) ((sv H it).2.2 _ _ _ _ _ _ _ _ _ _ _ _ _ hE hA R.ei J h2 (ba (ba I).1).2 (ba (ba (ba I).1).1).2) (λcenv W' loc' r s E J h2 Z=>?_) (lD (ba (ba I).1).2 (ba (ba (ba I).1).1).2) P.2 c.2 (Lv (ba I).2) (lQ h2)
  (total:=bw avs.length (.lst l)) U (λD L N F y hL hD hLD hal d=>?_) λD N F y hD d=>?_
 ·injection Z with S;subst S;exact Cb ⟨rfl,h2.tok,.refl _⟩
 ·refine gB d λvs f j g3=>A0 R hint (X:=(·=L)) (λp hp=>oR hal λm o z z M z=>ab hp<|⟨hL,o,M⟩) F y hD (λh=>hLD h.symm) f (λp hp=>.inr hp) j (g3 rfl).1 (g3 rfl).2 λas u S1 hρ hX hM=>?_;generalize st++(oV st.length avs.length l).map some=st2 at u S1 hM⊢;have v:¬Mu env (ρ++as) st2 L:=λq=>(hM L q).elim (λh=>nW hL (R.KH h)) (hX L rfl);refine fm (t:=.bX i) (av:=.ref (st.length+avs.length)) hA.hh hE u P.1 Z (.ref hρ) λT B G=>⟨λo e Q=>G.keep.nt v e Q,λh' hs'=>?_⟩;exact⟨_,_,trivial,B.Kj (cD.ns G.keep v hal.choose_spec) (λh=>h.elim (nW hL) (hX L rfl)) v (gC R.ext hL) hs',(S1.trans G).Kj (cD.ns G.keep v hal.choose_spec) hL hs'⟩
 ·refine ew λY=>ew λY=>s9 d λL vs f hLD j g3=>A0 R hint (X:=λz=>False) (λp hp=>hp.elim) F y hD (λh=>h) f (λp hp=>hp.elim) j (g3 rfl).1 (g3 rfl).2 λas u S1 hρ z z=>Y ?_;clear Y;refine Y ?_;clear Y;exact fm (t:=.bX i) (av:=.ref (st.length+avs.length)) hA.hh hE u P.1 Z (.ref hρ) λT B G=>⟨_,_,trivial,B,S1.trans G⟩
def lL(C:fE h₀ cfg)(k:Nat)(l:List CS):Prop:=∀(K:Ck) (env:fZ) (xs:List bC) (W0:az->Prop) (s₀:ao) (n0:Nat) (loc loc':Loc) (st st':St) (L:Fl) (W:az->Prop) (ρ:List az) (A:cP) (s:ao) (E:aw->ao->Prop),
 bZ env K n0->i7 k A->Rp h₀ K env n0 W0 s₀ loc st W ρ s->dh cfg l loc st=some (L,loc',st')->mW K l xs=true->
 aM (aL C.prog C.w) A (fw xs env) (Cc h₀ K env n0 W0 s₀ L loc' st' ρ st W s) E s
theorem HK.yR{h:bk}{f:kO}(x:HK W ρ h .next f):f=.next:=by
 cases f with
 |next=>rfl
 |_=>exact x.elim
theorem HK.Cm{h:bk}{f:kO}(x:HK W ρ h .brk f):f=.brk:=by
 cases f with
 |brk=>rfl
 |_=>exact x.elim
theorem HK.C5{h:bk}{f:kO}{v:AV}(x:HK W ρ h (.ret v) f){I:Prop}(N:∀u,f=.ret u->I):I:=by
 cases f with
 |ret u=>exact N u rfl
 |_=>exact x.elim
theorem WD{c:CE}{a b:List CS}(S:iz C k c)(L:lL C k a)(O:lL C k b):md C k (.ite c a b):=by
 intro K env x W0 s₀ n0 loc loc' st st' Q W ρ A s E hE hA R M V;refine ew λY=>aU V λo1 F I=>?_;rcases o1 with⟨t,H,P⟩;refine CL F λp e=>?_;have G:=ba (ba (ba I).2).2;refine aC (aZ M) λav J B=>aC (aZ B) λr U Z=>Y ?_;clear Y;refine ab e<|YX (aA (S _ _ _ _ _ _ _ _ _ _ _ _ _ hE hA R.ei J U (ba I).1 (ba (ba I).2).1) (λb N D=>?_) λz z e=>e);clear U;refine ab D.1 ?_;rcases r with _|_
 ·exact aA (O _ _ _ _ _ _ _ _ _ _ _ _ _ _ _ _ hE hA (R.step D.2.2 D.2.1) Z G.2) (λf s' h=>h.from (.ext D.2.2)) λz z e=>e
 ·exact aA (L _ _ _ _ _ _ _ _ _ _ _ _ _ _ _ _ hE hA (R.step D.2.2 D.2.1) Z G.1) (λf s' h=>h.from (.ext D.2.2)) λz z e=>e
theorem Bz{G:Loc->St->Option Bool}{body:Loc->St->Option (Fl×Loc×St)}{n:Nat}{r:Fl×Loc×St}(h:gh G body (n+1) loc st=some r):
 (G loc st=some false/\r=(.next,loc,st))\/(G loc st=some true/\∃L l1 i,body loc st=some (L,l1,i)/\((L=.next/\gh G body n l1 i=some r)\/(L=.brk/\r=(.next,l1,i))\/((∃v,L=.ret v)/\r=(L,l1,i)))):=by
 refine dn ((zp.2 ..).symm.trans h) λb J h=>?_;rcases b with _|_
 ·exact .inl ⟨J,(ay h).symm⟩
 ·refine dn h λB U h=>?_;rcases B with⟨L,l1,i⟩;refine .inr ⟨J,L,l1,i,U,?_⟩;clear U;rcases L with _|_|v
  ·exact .inl ⟨rfl,h⟩
  ·exact .inr (.inl ⟨rfl,(ay h).symm⟩)
  ·exact .inr (.inr ⟨⟨v,rfl⟩,(ay h).symm⟩)
theorem F9{t:kR}{body:Loc->St->Option (Fl×Loc×St)}{v:AV}{l:List AV}{r:Fl×Loc×St}(h:iP t body (v::l) loc st=some r){I:Prop}(N:∀l0 L l1 i,cT loc t v=some l0->body l0 st=some (L,l1,i)->(((L=.next/\iP t body l l1 i=some r)\/(L=.brk/\r=(.next,l1,i))\/((∃v,L=.ret v)/\r=(L,l1,i))))->I):I:=by
 refine dn h λl0 J O=>dn O λB U h=>?_;rcases B with⟨L,l1,i⟩;refine N l0 L l1 i J U ?_;rcases L with _|_|v
 ·exact .inl ⟨rfl,h⟩
 ·exact .inr (.inl ⟨rfl,(ay h).symm⟩)
 ·exact .inr (.inr ⟨⟨v,rfl⟩,(ay h).symm⟩)
theorem Hx{Z:Loc->St->(az->Prop)->List az->ao->Prop}{F:Fl->Loc->St->kO->ao->Prop}{G:Loc->St->Option Bool}{b:List CS}{t:Expr}{Q:List bC}{R:M0->ao->Prop}{L:Fl}{n:Nat}
 (S:∀loc1 d p y i r,G loc1 d=some r->Z loc1 d p y i->∀E,aM (aL C.prog C.w) A (mT t env (fe t env)) (λb s'=>b=r/\Z loc1 d p y s') E i)
 (O:∀loc1 d p y i c l1 st2,dh cfg b loc1 d=some (c,l1,st2)->Z loc1 d p y i->∀E (X:kO->ao->Prop),(∀f a x m,HK x m a.heap c f->Z l1 st2 x m a->X f a)->aM (aL C.prog C.w) A (fw Q env) X E i)
 (l:∀c f l1 st2 x m a,HK x m a.heap c f->Z l1 st2 x m a->F c l1 st2 f a)(o:Z loc st W ρ s)(M:gh G (λloc st=>dh cfg b loc st) n loc st=some (L,loc',st'))(j:∀f s',F L loc' st' f s'->R (.ok f) s'):
 M4 (aL C.prog C.w) A (.whileLoop t Q [] env) R s:=by
 refine codeAny_whileLoop (λn s'=>∃loc1 d p y,Z loc1 d p y s'/\gh G (λloc st=>dh cfg b loc st) n loc1 d=some (L,loc',st')) (λn i h=>?_) n ⟨loc,st,W,ρ,o,M⟩;clear M;refine oR h λloc1 d p y hZ Y=>?_;clear h;rcases n with _|n
 ·injection Y
 ·rcases Bz Y with⟨J,U⟩|⟨J,c,l1,st2,U,h3⟩
  ·rcases U with⟨⟩;refine aA (S _ _ p y i _ J hZ _) (λb N D=>?_) λz z e=>e;exact ab D.1<|kq (j _ _ (l _ .next _ _ p y _ trivial D.2))
  ·refine aA (S loc1 d p y i _ J hZ _) (λb N D=>?_) λz z e=>e;refine ab D.1<|O loc1 d p y N c l1 st2 U D.2 _ _ λf a x m P q=>?_;clear U;refine ak h3 (λH=>aN H λe V=>?_) λg=>ak g (λT=>aN T λe V=>?_) λu4=>aN u4 λI V=>aI I λv e=>?_
   ·rw[e]at P;exact ab P.yR<|⟨n,og _,l1,st2,x,m,q,V⟩
   ·rw[e]at P;simp only[P.Cm];rcases V with⟨⟩;exact j _ _ (l .next .next _ _ x m _ trivial q)
   ·rw[e]at P V;refine P.C5 λu B=>?_;simp only[B]at P⊢;rcases V with⟨⟩;exact j _ _ (l _ _ _ _ x m _ P q)
theorem WI{c:CE}{b:List CS}(S:iz C k c)(O:lL C k b):md C k (.P c b):=by
 intro K env x W0 s₀ n0 loc loc' st st' L W ρ A s E hE hA R M V;refine ew λY=>aU V λo3 v I=>?_;rcases o3 with⟨t,b'⟩;refine Gj v λp e=>Y ?_;clear Y;refine ab e<|wpAny_While (Hx (F:=λL l st2 f s'=>Cc h₀ K env n0 W0 s₀ L l st2 ρ st W s f s') (Z:=λloc1 d U y s'=>Rp h₀ K env n0 W0 s₀ loc1 d U y s'/\j8 env ρ st W s y d U s') (λloc1 d U y i r h J E=>?_)
  (λloc1 d U y i a l1 st2 h J E X B=>?_) (λa f l1 st2 g m G P h=>⟨g,m,P,h.1,h.2⟩) ⟨R,.refl⟩ M λf s' q=>q)
 ·exact aC (aZ h) λav o j=>aA (S _ _ _ _ _ _ _ _ _ _ _ _ _ hE hA J.1.ei o j (ba I).1 (ba (ba I).2).1) (λb N D=>⟨D.1,J.1.step D.2.2 D.2.1,J.2.trans (.ext D.2.2)⟩) λz z e=>e
 ·refine aA (O _ _ _ _ _ _ _ _ _ _ _ _ _ _ _ _ hE hA J.1 h (ba (ba I).2).2) (λf T h=>?_) λz z e=>e;exact cX h λH n P u Q=>B f T H n P ⟨u,J.2.trans Q⟩
theorem Ec{Z:Nat->Loc->St->(az->Prop)->List az->ao->Prop}{F:Fl->Loc->St->kO->ao->Prop}{avs:List AV}{t:kR}{b:List CS}{g:Expr}{Q:List bC}{I:aw}{R:M0->ao->Prop}{L:Fl}
 (turn:∀j loc1 d p y i a l0 c l1 st2,avs[j]? =some a->cT loc1 t a=some l0->dh cfg b l0 d=some (c,l1,st2)->Z j loc1 d p y i->∀E (R2:kO->ao->Prop),(∀f G x m,HK x m G.heap c f->Z (j+1) l1 st2 x m G->R2 f G)->
   aM (aL C.prog C.w) A (tY I) (λr N=>∃v,r=some v/\aM (aL C.prog C.w) A (gJ g I v) (λz T=>aM (aL C.prog C.w) A (lj g env v) (λz X=>aM (aL C.prog C.w) A (fw Q env) R2 E X) E T) E N) E i)
 (done:∀loc1 d p y i E,Z avs.length loc1 d p y i->aM (aL C.prog C.w) A (tY I) (λr N=>r=none/\F .next loc1 d .next N) E i)
 (l:∀c f l1 st2 j x m G,HK x m G.heap c f->Z j l1 st2 x m G->F c l1 st2 f G)(o:Z 0 loc st W ρ s)(M:iP t (λloc st=>dh cfg b loc st) avs loc st=some (L,loc',st'))(hR:∀f s',F L loc' st' f s'->R (.ok f) s'):
 M4 (aL C.prog C.w) A (.forLoop g I Q [] env) R s:=by
 refine codeAny_forLoop_any (λn s'=>∃j loc1 d p y,n=avs.length-j+1/\j<=avs.length/\Z j loc1 d p y s'/\iP t (λloc st=>dh cfg b loc st) (avs.drop j) loc1 d=some (L,loc',st')) (λn i h=>?_) (avs.length-0+1) ⟨0,loc,st,W,ρ,rfl,bz _,o,M⟩;clear M;refine QP h λj loc1 d p y hn hj J Y=>?_;clear h;refine ak (tS j avs.length) (λhlt=>?_) λU=>?_
 ·rw[dF hlt]at Y;refine F9 Y λl0 c l1 st2 O h6 V=>aA (turn j loc1 d p y i _ l0 c l1 st2 (gx hlt) O h6 J _ _ λf G x m P D=>?_) (λr N q=>aC q λv e h=>e▸h) λz z e=>e;clear h6;refine ak V (λu1=>aN u1 λe V=>?_) λu2=>ak u2 (λu3=>aN u3 λe V=>?_) λu4=>aN u4 λu5 V=>aI u5 λv e=>?_
  ·rw[e]at P;exact ab P.yR<|⟨avs.length- (j+1)+1,by grind,j+1,l1,st2,x,m,rfl,hlt,D,V⟩
  ·rw[e]at P;simp only[P.Cm];rcases V with⟨⟩;exact hR _ _ (l .next .next _ _ _ x m _ trivial D)
  ·rw[e]at P V;refine P.C5 λu e'=>?_;simp only[e']at P⊢;rcases V with⟨⟩;exact hR _ _ (l _ _ _ _ _ x m _ P D)
 ·have hjl:j=avs.length:=Nat.le_antisymm hj U;rw[hjl]at Y J;rw[oe]at Y;injection Y with S;injection S with e1_ H;injection H with B e3_;subst e1_;subst B;subst e3_;refine aA (done _ _ p y i _ J) (λr N q=>?_) λz z e=>e;exact ab q.1<|kq (hR _ _ q.2)
theorem Jf{t:kR}{it:CE}{b:List CS}{x:bC}(h:ka K (.m t it b) x=true):∃g i Q p,x=.For g i Q [] p/\fg K t g=true/\cz K 2 it i=true/\(Ek it||yK it)=true/\mW K b Q=true:=by refine ew λY=>ew λY=>aU h λu J h=>?_;rcases u with⟨g,i,Q⟩;refine Oe J λp e=>Y ?_;clear Y;refine Y ?_;clear Y;exact⟨g,i,Q,p,e,(ba h).1,(ba (ba h).2).1,ba (ba (ba h).2).2⟩
theorem TU{t:kR}{it:CE}{b:List CS}(hng:yK it=false)(hi:oE C k it)(O:lL C k b):md C k (.m t it b):=by
 intro K env x W0 s₀ n0 loc loc' st st' L W ρ A s E hE hA R hev V;refine ew λY=>D8 (Jf V) λg i bd p e c1 c2 c c4=>?_;rw[hng,Bool.or_false]at c;refine aC (aZ hev) λav h1 hev1=>aC (aZ hev1) λavs U hev2=>Y ?_;clear Y;refine ab e<|wpAny_For (aA (hi _ _ _ _ _ _ _ _ _ _ _ _ _ hE hA R.ei h1 U c c2) (λxv N q₁=>aA q₁ (λitv s₂ q₂=>?_) λz z e=>e) λz z e=>e) (lD c c2);refine ew λY=>?_;obtain⟨t₂,e₂,Ia,fp,G,S,e,I,hS,n,D⟩:=q₂;refine Y ?_;clear Y;refine ab e<|Ec (W:=λp=>W p\/fp p) (ρ:=ρ) (F:=λL l st2 f s'=>Cc h₀ K env n0 W0 s₀ L l st2 ρ st W s f s') (Z:=λj loc1 st1 W1 y s'=>Rp h₀ K env n0 W0 s₀ loc1 st1 W1 y s'/\j8 env ρ st W s y st1 W1 s'/\(∀p,fp p->W1 p/\¬Mu env y st1 p)/\S W1 y j s'/\(∀g,G g->g<s'.gens.size))
  ?_ ?_ (λfl1 f l1 st2 j W5 m s5 P h=>⟨W5,m,P,h.1,h.2.1⟩) ?_ hev2 λf s' q=>q
 ·have hf0:∀p,fp p->s₀.heap.get? p=none:=λp B=>gC R.ext (n p B);have hG0:∀g,G g->s₀.gens.size<=g:=λg d=>aP R.ext.hJ (D g d).1;intro j loc1 st1 W1 y s1 a l0 fl1 l1 st2 ha h5 h6 J E R2 hR2;refine rj J λu S1 hF hI hGs=>bY u.ei.tok (aA (I.next W1 y j a s1 _ ha (λp B=>(hF p B).1) u.ei.live hI) (λr X q t₃=>?_) λz z e z=>e);refine D7 q λv e by₃ vr₃ S₃=>?_;have al₃:=I.alive _ _ _ _ S₃;have R3:=u.by by₃ (λp B=>⟨(hF p B).1,(hF p B).2,hf0 p B⟩) al₃ hG0 t₃;refine⟨v,e,I.own _ _ _ _ _ _ _ _ S₃ (fm hA.hh hE R3 c1 h5 vr₃ λs₄ R4 S4=>?_)⟩;have frame:∀{ρ2:List az} {st2:St} {W2:az->Prop} {sa sb:ao} {ρa:List az} {sta:St} {Wa:az->Prop} {la:Loc},Rp h₀ K env n0 W0 s₀ la sta Wa ρa sa->j8 env ρa sta Wa sa ρ2 st2 W2 sb->(∀p,fp p->Wa p/\¬Mu env ρa sta p)/\S Wa ρa (j+1) sa/\(∀g,G g->g<sa.gens.size)->
   (∀p,fp p->W2 p/\¬Mu env ρ2 st2 p)/\S W2 ρ2 (j+1) sb/\∀g,G g->g<sb.gens.size:=by
   intro ρ2 st2 W2 sa sb ρa sta Wa la Ra Sa hh;refine⟨λp B=>⟨Sa.wk p (hh.1 p B).1 ((I.alive _ _ _ _ hh.2.1) p B) (hh.1 p B).2,λT=>?_⟩,I.frame _ _ _ _ _ _ _ hh.2.1 Sa.w (λb o O e hn=>Sa.keep.nt (λT=>?_) e hn) Sa.nR λg d=>Sa.gens g (hh.2.2 g d),λg d=>be (hh.2.2 g d) Sa.hJ⟩
   ·refine ak (Sa.mu p T) (λh=>?_) λh=>?_
    ·exact(hh.1 p B).2 h
    ·refine aI ((I.alive _ _ _ _ hh.2.1) p B) λo M=>?_;rw[h]at M;injection M
   ·refine ak O (λO=>?_) λO=>?_
    ·exact O (Ra.KH T)
    ·exact(hh.1 b O).2 T
  refine aA (O _ _ _ _ _ _ _ _ _ _ _ _ _ _ _ _ hE hA R4 h6 c4) (λf H h=>?_) λz z e=>e;exact cX h λW5 m P Q S5=>hR2 f H W5 m P ⟨Q,((S1.by by₃ n al₃ (λg d=>(D g d).1)).trans S4).trans S5,frame R4 S5 (frame R3 S4 ⟨hF,S₃,λg d=>be (hGs g d) by₃.hJ⟩)⟩
 ·have hf0:∀p,fp p->s₀.heap.get? p=none:=λp B=>gC R.ext (n p B);have hG0:∀g,G g->s₀.gens.size<=g:=λg d=>aP R.ext.hJ (D g d).1;intro loc1 st1 W1 y s1 E J;exact rj J λu S1 hF hI hGs=>bY u.ei.tok (aA (I.done W1 y s1 _ (λp B=>(hF p B).1) u.ei.live hI) (λr X q t₃=>
   ⟨q.1,_,y,trivial,u.gone q.2 (λp B=>(hF p B).1) (λp B=>⟨(hF p B).2,hf0 p B⟩) hG0 t₃,S1.gone q.2 n λg d=>(D g d).1⟩) λz z e z=>e)
 ·have alive0:∀p,fp p->∃o,s₂.heap.get? p=some o:=I.alive _ _ _ _ hS;refine⟨R.wide e₂ t₂ (W':=λp=>W p\/fp p) (λp h=>.inl h) (λp h=>h.imp id λh=>⟨n p h,alive0 p h⟩),.wide e₂ (λp h=>.inl h) λp h=>h.imp id (n p),λp B=>⟨.inr B,λT=>?_⟩,hS,λg d=>(D g d).2⟩;refine aI (R.ei.live p (R.KH T)) λo M=>?_;rw[n p B]at M;injection M
theorem LD:lL C k []:=by intro K env xs W0 s₀ n0 loc loc' st st' L W ρ A s E hE hA R M V;have V:xs.isEmpty=true:=V;rw[dx]at V;refine ab V ?_;simp only[(id s8),bL,gz]at M;refine eY M λQ c F=>?_;clear M;subst Q;exact cA c<|cA F<|kq ⟨W,ρ,trivial,R,.refl⟩
theorem px{c:CS}{l:List CS}{L:Fl}(h:dh cfg (c::l) loc st=some (L,loc',st')){I:Prop}(N:∀f1 l1 i,mY cfg c loc st=some (f1,l1,i)->(((f1=.next/\dh cfg l l1 i=some (L,loc',st'))\/(f1≠.next/\L=f1/\loc'=l1/\st'=i)))->I):I:=by
 refine dn h λS J h=>?_;rcases S with⟨f1,l1,i⟩;refine N f1 l1 i J ?_;clear J;rcases f1 with _|_|v
 ·exact .inl ⟨rfl,h⟩
 ·simp only[aJ,bL,gz]at h;exact .inr ⟨by simp,h.1.symm,h.2.1.symm,h.2.2.symm⟩
 ·simp only[aJ,bL,gz]at h;exact .inr ⟨by simp,h.1.symm,h.2.1.symm,h.2.2.symm⟩
theorem T4{i:Nat}{l:List CS}(X:lL C k l):lL C k (.v i::l):=by
 intro K env xs W0 s₀ n0 loc loc' st st' L W ρ A s E hE hA R M V;refine ew λY=>px M λf1 l1 B J h=>?_;obtain⟨rfl,W',T,U⟩:=Gb R J;refine Y ?_;clear Y;refine ak h (λH=>aN H λz h=>?_) λg=>aN g λh z=>?_
 ·exact aA (X _ _ _ _ _ _ _ _ _ _ _ _ _ _ _ _ hE hA T h V) (λf s' q=>q.from U) λz z e=>e
 ·exact absurd rfl h
theorem Pq{c:CS}{l:List CS}(Q:vB c=false)(J:md C k c)(X:lL C k l):lL C k (c::l):=by
 intro K env xs W0 s₀ n0 loc loc' st st' L W ρ A s E hE hA R M V;have V:(bif vB c then mW K l xs else bD (un xs) λq=>ka K c q.1&&mW K l q.2)=true:=V;rw[Q]at V;refine aU V λq e V=>ab (Rn e)<|px M λf1 l1 i D h=>cS (aA (J _ _ _ _ _ _ _ _ _ _ _ _ _ _ _ _ hE hA R D (ba V).1) (λf s' r=>?_) λz z e=>e);clear D;refine ak h (λH=>aN H λe h=>?_) λg=>aN g λh e=>?_
 ·refine cX r λW' ρ' P T U=>?_;rw[e]at P;exact ab P.yR<|aA (X _ _ _ _ _ _ _ _ _ _ _ _ _ _ _ _ hE hA T h (ba V).2) (λf s' q=>q.from U) λz z e=>e
 ·refine ab e.1 (ab e.2.1 (ab e.2.2 ?_));rcases f1 with _|_|v
  ·exact absurd rfl h
  ·refine cX r λW' ρ' P T U=>?_;cases P.Cm;exact⟨W',ρ',P,T,U⟩
  ·refine cX r λW' ρ' P T U=>P.C5 λu B=>?_;subst B;exact⟨W',ρ',P,T,U⟩
structure wK (C:fE h₀ cfg) (k:Nat):Prop extends Hand C k where
 genS:∀t a b,bU C k a->lL C k b->md C k (.m t (.M a) b)
theorem EK{c:CS}{l:List CS}(V:vB c=false->md C k c)(X:lL C k l):lL C k (c::l):=by
 rcases h:vB c with _|_
 ·exact Pq h (V h) X
 ·rcases c with⟨⟩<;>first|(rcases h with⟨⟩;done)|exact T4 X
theorem TX:md C k .K5:=by intro K env x W0 s₀ n0 loc loc' st st' L W ρ A s E hE hA R M V;injection M
theorem YJ(H:wK C k)(c:CS):vB c=false->md C k c:=
 CS.rec (motive_1:=λc=>vB c=false->md C k c) (motive_2:=λl=>lL C k l)
  (λz z z=>Wz H.toHand)
  (λz z e z=>TR (sv H.toHand e).1)
  (λz z z=>WE H.toHand)
  (λz z z z z=>TV H.toHand)
  (λz z z z=>Ls H.toHand)
  (λz z e z=>WA (sv H.toHand e).1)
  (λz z z z z=>Lq H.toHand)
  (λc z z B D z=>WD (sv H.toHand c).2.1 B D)
  (λc z D z=>WI (sv H.toHand c).2.1 D)
  (λt it b D z=>by
    rcases hg:yK it with _|_
    ·exact TU hg (sv H.toHand it).2.2 D
    ·exact CE.Se (motive_1:=λit=>md C k (.m t it b)) it (eq_of_beq hg) (λa=>H.genS _ _ _ (sv H.toHand _).1 D))
  (λe z=>WG (sv H.toHand e).1)
  (λz=>WB)
  (λz=>TX)
  (λz z z=>Wy H.toHand)
  (λz z=>WH H.toHand)
  (λz h=>nomatch h)
  LD (λz z=>EK) c
theorem WN(H:wK C k)(l:List CS):lL C k l:=by
 induction l with
 |nil=>exact LD
 |cons c l R=>exact EK (YJ H c) R
end
theorem Dx{names:List bj}:∀{vals:List aw},names.Nodup->vals.length=names.length->∀(i:Nat) (x:bj),names[i]? =some x->∃v,vals[i]? =some v/\(names.zip vals).lookup x=some v:=by
 induction names with
 |nil=>intro vals z z i x h;injection h
 |cons n ns R=>
  intro vals Q X i x h;rcases vals with _|⟨v,vs⟩
  ·injection X
  ·have S:=eT.mp Q;rcases i with _|i
   ·simp at h;subst h;exact⟨v,rfl,by simp⟩
   ·simp at h;refine aC (R S.2 (by simpa using X) i x h) λu J U=>?_;clear X;have L:(x==n)=false:=by
     rewrite[beq_eq_false_iff_ne];refine ab (ne_eq ..) ?_;intro o1;subst o1;exact S.1 (aW h)
    exact⟨u,J,by simp[fa,L,U]⟩
theorem wJ{names:List bj}:∀{vals:List aw} (f:bj->Option aw),(∀(i:Nat) (x:bj),names[i]? =some x->f x=vals[i]?)->vals.length=names.length->names.filterMap (λn=>(f n).map (n,·))=names.zip vals:=by
 induction names with
 |nil=>intro vals f z X;rfl
 |cons n ns R=>
  intro vals f P X;rcases vals with _|⟨v,vs⟩
  ·injection X
  ·have Y:f n=some v:=P 0 n rfl;have:=R (vals:=vs) f (λi x h=>by simpa using P (i+1) x (by simpa using h)) (by simpa using X);simp[Y,this]
theorem qj{fd:xT}{vals:List aw}(Z:fd.params.posonlyargs= [])(D:fd.params.vararg=none)(I:fd.params.kwonlyargs= [])(C:fd.params.kwarg=none)(u:fd.defaults=.none)
 (X:vals.length=fd.params.args.length)(q:(fd.params.args.map (·.arg)).Nodup):_root_.PySem.bindArgs fd ⟨vals,[]⟩=pure ((fd.params.args.map (·.arg)).zip vals):=by
 have o:=λi x h=>Dx q (by simpa using X) i x h;have B:vals.length=(fd.params.args.map (·.arg)).length:=ab X (ab (aY ..) rfl);have A:((fd.params.args.map (·.arg)).filter λn=>(((fd.params.args.map (·.arg)).zip vals).lookup n).isNone)= []:=by rw[ow];refineλx F=>aI (List.getElem?_of_mem F) λi hi=>?_;exact aC (o i x hi) λv z U=>ab U<|λh=>nomatch h
 have E:(fd.params.args.map (·.arg)).filterMap (λn=>(((fd.params.args.map (·.arg)).zip vals).lookup n).map (n,·))=(fd.params.args.map (·.arg)).zip vals:=by refine wJ _ (λi x h=>?_) (by simpa using X);exact aC (o i x h) λv J U=>U.trans J.symm
 obtain⟨nm,V,ps,Q,a,R,cl,O,H,S,G,T,co,W,bi⟩:=fd;obtain⟨L,as,M,N,K,Y,P⟩:=ps;subst Z D I C u;clear o q X;refine(if_neg (c:=_=true) λh=>absurd (of_decide_eq_true (ba h).1) (by exact ab B<|zI _)).trans<|(if_neg (c:=_=true) ?_).trans ?_
 ·show¬(!(((as.map (·.arg)).take ((as.map (·.arg)).length- (([]:List aw).drop (0- (as.map (·.arg)).length)).length)).filter λn=>(((as.map (·.arg)).zip vals).lookup n).isNone).isEmpty)=true;exact ab Uq<|ab gk<|ab (UO ..)<|ab kP<|ab A<|λh=>nomatch h
 ·have o:((as.map (·.arg)).drop ((as.map (·.arg)).length- (([]:List aw).drop (0- (as.map (·.arg)).length)).length)).zip (([]:List aw).drop (0- (as.map (·.arg)).length))= []:=ab Uq (ab HS rfl);refine(congrArg (λl=>(forIn l _ _:jA _)>>=_) o).trans ?_;show(pure (((as.map λx:Arg=>x.arg)++ []).filterMap (λn=>(((as.map λx:Arg=>x.arg).zip vals).lookup n).map (n,·))):jA (List (bj×aw)))=pure ((as.map λx:Arg=>x.arg).zip vals);exact ab (ik ..) (ab E rfl)
theorem Ci{A:bj->Option dz}{x:bj}:∀{names:List bj} {vals:List aw} {m:bj->Option aw},x∉names->RA A (names.zip vals) m x=m x:=by
 intro G
 induction G with
 |nil=>
  intro vals m z;rfl
 |cons n ns P=>
  intro H m h;rcases H with _|⟨v,vs⟩
  ·rfl
  ·have F:¬x=n:=λe=>h (ab e<|aH);refine ab mH<|ab (show RA A ((n,v)::ns.zip vs) m x=RA A (ns.zip vs) _ x from rfl)<|ab (P (λq=>h (ax _ q))) ?_;split<;>simp[F]
theorem FJ{A:bj->Option dz}{x:bj}{v:aw}(I:A x=some .local):∀{names:List bj} {vals:List aw} {m:bj->Option aw} {i:Nat},names.Nodup->names[i]? =some x->vals[i]? =some v->RA A (names.zip vals) m x=some v:=by
 intro names vals m i Q J U
 induction names generalizing vals m i with
 |nil=>injection J
 |cons n ns R=>
  rcases vals with _|⟨u,vs⟩
  ·injection U
  ·have S:=eT.mp Q;refine ab mH<|ab (show RA A ((n,u)::ns.zip vs) m x=RA A (ns.zip vs) _ x from rfl) ?_;rcases i with _|i
   ·simp at J U;subst J U;exact ab (Ci S.1)<|ab (if_pos I)<|if_pos rfl
   ·exact R S.2 J U
theorem Cg{A:bj->Option dz}{x:bj}:∀{names:List bj} {vals:List aw} {m:bj->Option aw},x∉names->bindC A (names.zip vals) m x=m x:=by
 intro G
 induction G with
 |nil=>
  intro vals m z;rfl
 |cons n ns P=>
  intro H m h;rcases H with _|⟨v,vs⟩
  ·rfl
  ·have F:¬x=n:=λe=>h (ab e<|aH);refine ab (P (λq=>h (ax _ q))) ?_;split<;>simp[F]
theorem FH{A:bj->Option dz}{x:bj}{v:aw}(I:A x≠some .local):∀{names:List bj} {vals:List aw} {m:bj->Option aw} {i:Nat},names.Nodup->names[i]? =some x->vals[i]? =some v->bindC A (names.zip vals) m x=some v:=by
 intro names vals m i Q J U
 induction names generalizing vals m i with
 |nil=>injection J
 |cons n ns R=>
  rcases vals with _|⟨u,vs⟩
  ·injection U
  ·simp only[mH];rcases i with _|i
   ·simp at J U;subst J U;exact ab (Cg (eT.mp Q).1)<|ab (if_neg I)<|if_pos rfl
   ·exact R (eT.mp Q).2 J U
theorem uK:∀(names:List (bj×dz)) (n:Nat) (acc:List (bj×az)),(names.map (·.1)).Nodup->(acc.map (·.1)).Nodup->(∀x∈names.map (·.1),x∉acc.map (·.1))->((dO n names acc).map (·.1)).Nodup:=by
 intro G
 induction G with
 |nil=>
  exactλn acc z h z=>h
 |cons C r R=>
  rcases C with⟨x,k⟩;intro n acc J U Z;unfold dO;split
  ·refine R (n+1) _ (eT.mp J).2 (eT.mpr ⟨Z x aH,U⟩) λy Y T=>ak (aS.mp T) (λe=>?_) λT=>?_
   ·exact(eT.mp J).1 (cA e<|Y)
   ·exact Z y (ax _ Y) T
  ·exact R n acc (eT.mp J).2 U λy Y=>Z y (ax _ Y)
theorem sG{B A:Type}[BEq B][LawfulBEq B]{l:List (B×A)}{x:B}{c:A}(Q:(l.map (·.1)).Nodup)(T:(x,c)∈l):l.lookup x=some c:=by
 induction l with
 |nil=>exact absurd T dy
 |cons q r R=>
  rcases q with⟨y,d⟩;refine ab fa<|ak (aS.mp T) (λe=>?_) λC=>?_
  ·rcases e with⟨⟩;simp
  ·have S:=eT.mp Q;exact ab (beq_eq_false_iff_ne.mpr λo1=>S.1 (dZ.mpr ⟨(x,c),C,o1⟩))<|R S.2 C
noncomputable def TY(f:FD)(t:List (List Nat))(d:iL):Bool:=
 [d.scope.kind==.function,!d.scope.isGenerator,!d.scope.isCoroutine,decide ((d.scope.names.map (·.1)).Nodup),(d.scope.names.all λp=>p.2 !=.free),decide ((t.map strOf).Nodup),
 d.params.posonlyargs.isEmpty,d.params.vararg.isNone,d.params.kwonlyargs.isEmpty,d.params.kwarg.isNone,decide (f.p<=f.z),
 ((t.take f.p).all λx=>d.scope.names.lookup (strOf x)==some .local||d.scope.names.lookup (strOf x)==some .cell)].all id
section
variable{h₀:bk}{cfg:dC}{C:fE h₀ cfg}{k:Nat}
variable{A:cP}{E:aw->ao->Prop}{s s' s₀:ao}{W:az->Prop}{ρ:List az}{av:AV}
structure FnAt (h₀:bk) (d:iL) (a:az):Prop where
 ex:∃(o:hC) (pm cd doc:aw),h₀.get? a=some o/\o.data=.func (HY d.name d.params d.body d.scope pm cd doc)/\h₀.CodeRec cd d.name
theorem uh{f:FD}{t:List (List Nat)}{d:iL}(S:t.length=f.z)(K:d.params.args.map (·.arg)=(t.take f.p).map strOf)(q:TY f t d=true){a:az}{o:hC}{pm cd j:aw}(M:h₀.get? a=some o)
 (u:o.data=.func (HY d.name d.params d.body d.scope pm cd j))(T:h₀.CodeRec cd d.name){vs:List aw}{args:List AV}{Q:aw->ao->Prop}
 (hA:i7 (k+1) A)(O:bO h₀ s.heap)(hL:j6 W s.heap)(D:ft W ρ s.heap vs args)(hn:dU args=true)(hargs:args.length=f.p)(C:fE h₀ cfg)
 (h:∀env I N,env.code=cd->env.qual=d.name++".<locals>."->bZ env ⟨d.scope.names,t.map strOf,aG f.z,0⟩ 0->i7 k (A.deeper env)->Rp h₀ ⟨d.scope.names,t.map strOf,aG f.z,0⟩ env 0 W s (args++bw (f.z-f.p) .c) [] I [] N->
   ∀E',aM (aL C.prog C.w) (A.deeper env) (fw d.body env) (λf s'=>Q (match f with| .ret v=>v|_=>.none) s') E' N):
 aM (aL C.prog C.w) A (call (.ref a) vs) Q E s:=by
 have P:=eq_of_beq (allB q 0 rfl);have c3:=nB (allB q 2 rfl);have c4:=of_decide_eq_true (allB q 3 rfl);have c5:∀p∈d.scope.names,p.2≠.free:=λp B=>bne_iff_ne.mp (aq.mp (allB q 4 rfl) p B);have c6:=of_decide_eq_true (allB q 5 rfl);have c8:=d7.mp (allB q 7 rfl);have c9:=dx.mp (allB q 8 rfl);have RV:=d7.mp (allB q 9 rfl);have c11:f.p<=f.z:=of_decide_eq_true (allB q 10 rfl);have c12:∀x∈t.take f.p,d.scope.names.lookup (strOf x)=some .local\/d.scope.names.lookup (strOf x)=some .cell:=λx F=>
  ((fy _ _).mp (aq.mp (allB q 11 rfl) x F)).imp eq_of_beq eq_of_beq
 have R:=D.length;have hpl:d.params.args.length=f.p:=by have:=congrArg dp K;simp only[aY,br]at this;clear h;lia
 have hpn:(d.params.args.map (·.arg)).Nodup:=ab K<|ab nz<|List.Pairwise.sublist (tO _ _) c6;have hnames:∀x∈d.params.args.map (·.arg),d.scope.names.lookup x=some .local\/d.scope.names.lookup x=some .cell:=by intro x F;rw[K]at F;exact aC (dZ.mp F) λy Y o3=>cA o3<|c12 y Y
 have hcell:∀x,d.scope.names.lookup x=some .cell->∀n,((dO n d.scope.names []).lookup x).isSome=true:=by refineλx F n=>aI (mL (n:=n) (acc:= []) (.inl (mem_of_lookup F))) λc V=>aI (hK V) λc' hc'=>ab hc' ?_;rfl
 refine UX (codeAny_call_cells (fd:=HY d.name d.params d.body d.scope pm cd j) (body:=d.body) (binds:=(d.params.args.map (·.arg)).zip vs) (by have:=hA.depth;clear h;lia) (bO.nt O M (nO u)) u (bO.nolimit O C.nolimit) (bO.code O T) rfl
  (qj (fd:=HY d.name d.params d.body d.scope pm cd j) (dx.mp (allB q 6 rfl)) c8 c9 RV rfl (ab R (ab hargs (ab hpl rfl))) hpn) rfl (λp B=>?_) (λN X=>?_) c3 (nB (allB q 1 rfl)) P)
 ·have F:=(Qb B).1;exact(hnames p.1 F).imp id λh=>⟨h,hcell p.1 h _⟩
 ·generalize r:callEnvC (HY d.name d.params d.body d.scope pm cd j) s.heap.objs.size a=env at X⊢;have hkN:∀x,env.kindOf x=d.scope.names.lookup x:=λx=>by refine cA r ?_;rfl
  have hcs:env.cells=dO (s.heap.objs.size+1) d.scope.names []:=by refine cA r ?_;rfl
  have hkeys:(env.cells.map (·.1)).Nodup:=ab hcs<|uK _ _ _ c4 (by simp) λz z h=>absurd h dy;have hE:bZ env ⟨d.scope.names,t.map strOf,aG f.z,0⟩ 0:=by
   refine⟨aV _,by exact cA r<|P,by refine cA r ?_;rfl,by refine cA r ?_;rfl,by refine cA r ?_;rfl,cA r<|c3,λx F=>?_,c6⟩;rw[hkN]at F;refine ak F (λF=>?_) λF=>?_
   ·exact ab hcs<|gy.mp (hcell x F _)
   ·exact absurd rfl (c5 _ (mem_of_lookup F))
  refine ej X.toInCall.same λJ tk1 hs1=>?_;have Z:iu s.heap N.heap:=X.toInCall.keep;have U:∀p,j7 env p->s.heap.objs.size<=p:=by
   refineλp o4=>ak o4 (λH=>?_) λg=>aI g λx F=>?_;refine ab H ?_
   ·exact X.toInCall.fresh
   ·exact cm (ia X.toInCall.fresh (X.above x p F))
  have G:∀p,j7 env p->s.heap.get? p=none:=λp B=>by
   rcases e:s.heap.get? p with _|o
   ·rfl
   ·exact absurd (gN e) (i5.mpr (U p B))
  have hex:gK s N:=by subst hs1;exact .of (s:=s) (tk:=tk1) Z
  have hown:∀p,j7 env p->∃o,N.heap.get? p=some o:=by
   refineλp o5=>ak o5 (λH=>?_) λg=>aI g λx F=>?_;refine ab H ?_
   ·exact m6 X.toInCall.ns λo z z M z=>⟨o,M⟩
   ·exact aC ((λx c F=>X.cell x c (sG hkeys F)) x p F) λo M z=>⟨o,M⟩
  have w:i7 k (A.deeper env):=by
   refine⟨hA.hh,?_,?_⟩
   ·have:=hA.depth;show A.depth+1+k+_<_;lia
   ·have:=hA.units;show A.units+3+20*k+100<_;lia
  refine h env (λp=>W p\/j7 env p) N (by refine cA r ?_;rfl) (by refine cA r ?_;rfl) hE w ?_ _;refine⟨⟨bO.trans O Z.k,λp B=>?_,bz _,λi hi x F av L hu=>?_,λn l e=>by injection e,⟨⟨_,X.toInCall.ns⟩,λx c F=>⟨_,(λx c F=>X.cell x c (sG hkeys F)) x c F⟩,X.apart,λx c F=>oB (X.above x c F)⟩,λn l a e=>by injection e⟩,
   λp B=>.inr B,rfl,λn m l l' p e=>by injection e,λn l p e=>by injection e,λp B=>?_,hex,λp B=>.inl B,O,hL⟩
  ·refine ak B (λB=>?_) λB=>?_
   ·exact aI (hL p B) λo M=>⟨o,Z _ _ M⟩
   ·exact hown p B
  ·by_cases hi2:i<args.length
   ·rw[cM hi2]at L;refine aC (D.get L) λv hv1 hv2=>?_;have hxn:(d.params.args.map (·.arg))[i]? =some x:=ab K<|ab nz<|ab (List.getElem?_take_of_lt (by lia))<|F;refine⟨v,?_,?_⟩
    ·refine ak (hnames x (aW hxn)) (λhl=>?_) λhl=>?_
     ·exact .inl ⟨ab (hkN ..)<|hl,_,X.toInCall.ns,FJ (by exact ab (hkN ..)<|hl) hpn hxn hv1⟩
     ·refine aI (gy.mp (hcell x hl (s.heap.objs.size+1))) λc V=>?_;rw[<-hcs]at V;refine .inr ⟨.inl (ab (hkN ..)<|hl),c,V,?_⟩;have:=X.cell x c V;rw[FH (by refine ab (hkN ..) (ab hl ?_);simp) hpn hxn hv1]at this;exact this
    ·have hnr:jP av=true:=by
      have key:∀{l:List AV} {i:Nat} {a:AV},dU l=true->l[i]? =some a->jP a=true:=by
       intro l
       induction l with
       |nil=>intro i a z h;injection h
       |cons b l ih=>
        intro i a J h2;simp only[(id mz),au]at J;rcases i with _|i
        ·simp at h2;subst h2;exact J.1
        ·exact ih J.2 (h2)
      exact key hn L
     exact(hv2.noRef (ρ':= []) hnr).move (λp B=>B.imp id (G p)) (λz z z z e=>Z.k.seq e) λz z e=>e
   ·rw[bG (by(clear hu L F hi w hown hex G U Z hs1 hE hkeys hcs hkN X r hcell hnames hpn hpl R c12 c11 RV c9 c8 c6 c5 c4 c3 P h hargs hn D hL O hA T u M q K S;lia))]at L;exact absurd (zD (aW L)) hu
  ·refine ak B (λB=>?_) λH=>eb H λn l e z=>?_
   ·exact G p B
   ·injection e
theorem Sh{f:FD}{t:List (List Nat)}{d:iL}(x:I0 f t d 0=true)(q:TY f t d=true){a:az}(P:FnAt h₀ d a){vs:List aw}{args:List AV}{Q:aw->ao->Prop}
 (hA:i7 (k+1) A)(O:bO h₀ s.heap)(X:j6 W s.heap)(D:ft W ρ s.heap vs args)(B:dU args=true)(F:args.length=f.p)(C:fE h₀ cfg)
 (h:∀env I N,bZ env ⟨d.scope.names,t.map strOf,aG f.z,0⟩ 0->i7 k (A.deeper env)->Rp h₀ ⟨d.scope.names,t.map strOf,aG f.z,0⟩ env 0 W s (args++bw (f.z-f.p) .c) [] I [] N->
   ∀g,aM (aL C.prog C.w) (A.deeper env) (fw d.body env) (λf s'=>Q (match f with| .ret v=>v|_=>.none) s') g N):
 aM (aL C.prog C.w) A (call (.ref a) vs) Q E s:=by
 refine oS P.ex λo w cd j M u T=>?_;delta I0 at x;simp only[au,beq_iff_eq]at x;exact uh x.1.2 x.2 q M u T hA O X D B F C λenv I N z z=>h env I N
theorem C7(H:wK C k){f:FD}{t:List (List Nat)}{d:iL}(x:I0 f t d 0=true)(J:TY f t d=true){a:az}(P:FnAt h₀ d a){vs:List aw}{args:List AV}
 (hA:i7 (k+1) A)(O:bO h₀ s.heap)(X:j6 W s.heap)(D:ft W ρ s.heap vs args)(Q:dU args=true)(G:iR cfg f args=some av):
 aM (aL C.prog C.w) A (call (.ref a) vs) (e9 W ρ s av) E s:=by
 have F:args.length=f.p:=by
  delta iR at G;split at G
  ·assumption
  ·injection G
 delta iR at G;rw[if_pos F]at G;refine Sh x J P hA O X D Q F C λenv K N hE w R g=>?_;have I:mW ⟨d.scope.names,t.map strOf,aG f.z,0⟩ f.body d.body=true:=by delta I0 at x;exact(ba (ba x).1).1
 generalize M:dh cfg f.body (args++bw (f.z-f.p) .c) []=res at G;rcases res with _|⟨L,loc',st'⟩
 ·injection G
 have Z:(L=.ret av\/(L=.next/\av=.none))->aM (aL C.prog C.w) (A.deeper env) (fw d.body env) (λf s'=>e9 W ρ s av (match f with| .ret v=>v|_=>.none) s') g N:=λc=>by
  refine aA (WN H f.body _ _ _ _ _ _ _ _ _ _ _ _ _ _ _ _ hE w R M I) (λo s' q=>?_) λz z e=>e;refine cX q λW' ρ' m T U=>?_;clear q;refine ak c (λu=>?_) λu=>?_
  ·rw[u]at m;rcases o with⟨⟩<;>first|exact mF m|skip
   exact⟨T.ext,(m.1.noRef m.2).move (λp B=>.inl (T.w0 p B)) (λz z z z e=>e) λz z e=>e⟩
  ·rw[u.1]at m;refine ab u.2 ?_;rcases o with⟨⟩<;>first|exact mF m|skip
   exact⟨T.ext,.none⟩
 rcases L with _|_|v
 ·injection G with S;exact Z (.inr ⟨rfl,S.symm⟩)
 ·injection G
 ·injection G with S;exact Z (.inl (S▸rfl))
end
noncomputable def MM(a n:Int):Option (List AV):=
 if a<0\/n<=0\/100000<n then none else if a=0 then some []else if(ag a:Int)<=n then some [.int a]else if(ag a:Int)<=2*n then some [.int (a.fmod (2^n.toNat)),.int (a.fdiv (2^n.toNat))]else none
noncomputable def QF(l:List AV)(n:Int):Option AV:=
 if n<=0\/100000<n then none else match l with
 | []=>some (.int 0)
 |x::l=>match l with
  | []=>(eE x).map .int
  |y::l=>(l0 l).bind λz=>(eE x).bind λa=>(eE y).bind λb=>if ag b<=1000000 then some (.int (b*2^n.toNat+a))else none
noncomputable def xy(args:List AV):Option AV:=(l2 args).bind λq=>(eE q.1).bind λa=>(eE q.2).bind λn=>(MM a n).map .lst
noncomputable def xA(args:List AV):Option AV:=(l2 args).bind λq=>(tp q.1).bind λl=>(eE q.2).bind λn=>QF l n
noncomputable def DR:List Int:= [173,847,6150,6155,6156,6157,8203,8204,8205,8288,65279]++(aG 16).map λ(k:Nat)=>65024+(k:Int)
@[irreducible] noncomputable def RP(i:Int):Option (List Nat):=(iT.lookup i).map λs=>s.cps.toList
noncomputable def Ln(B:dC):Nat->Nat->List AV->Option AV
 |0,_,_=>none
 |k+1,f,args=>
  if f=4 then if k<3 then none else xy args
  else if f=5 then if k<3 then none else xA args
  else if f=23 then none
  else if f=8 then(l1 args).bind λa=>(jH a).map λz=>AV.none
  else(fdOf f).bind λq=>iR ⟨B.Y,B.b1,B.b3,Ln B k⟩ q.1 args
noncomputable def Cn(B:dC)(k:Nat):dC:=⟨B.Y,B.b1,B.b3,Ln B k⟩
noncomputable def qX:dC:=⟨[40,2,1,4000],DR,RP,λz z=>none⟩
noncomputable def nG(f:Nat):Option iL:=match pX f with
 |some g=>(recsOf q0).find? λd=>d.name==g
 |none=>none
noncomputable def YF(f:Nat):Bool:=(fdOf f).isNone||bD (fdOf f) λq=>bD (nG f) λd=>I0 q.1 q.2 d 0&&TY q.1 q.2 d
theorem Wo:((aG 23).all YF)=true:=by decide+kernel
section
variable{h₀:bk}{cfg:dC}{C:fE h₀ cfg}{k:Nat}
variable{prog:fA}{w:cW}{A:cP}{E:aw->ao->Prop}{s:ao}{W:az->Prop}{ρ:List az}{st:St}{n0:Nat}{av:AV}
theorem ft.XW{h:bk}{vs:List aw}{l:List AV}{i:Nat}{a:AV}(x:ft W ρ h vs l)(e:l.reverse[i]? =some a){I:Prop}(N:∀v,vs[vs.length-1-i]? =some v->VR W ρ h v a->I):I:=by refine aC (x.reverse.get e) λv J U=>?_;rw[List.getElem?_reverse (by simpa using((aQ.mp J).1))]at J;exact N v J U
theorem JV{N:ao}{a:az}{vs:List aw}{l:List AV}(hh:A.handled=none)(Q:n0<=N.toks)(e:gK s N)(X:j6 W N.heap)(Z:¬W a)(G:cL "list" N.heap a vs)(D:ft W ρ N.heap vs l):
 yb prog w A W ρ n0 s l.reverse (.ref N.heap.objs.size) {N with heap:=N.heap.push (revObj a ((vs.toArray.size:Int)-1))}:=by
 have L:a≠N.heap.objs.size:=λe=>by refine aI G λn h=>?_;simp only[e,cO]at h;injection h
 have B:vs.toArray.size=l.reverse.length:=by simpa using D.length
 have fr:=cO N.heap;have d:=Walks.listRev (prog:=prog) (w:=w) (A:=A) hh N.heap.objs.size a L vs.toArray;rw[B]at d;refine⟨Q,e.trans (.of (s:=N) (tk:=N.toks) (bO.push _ _)),N.heap.objs.size,_,_,_,rfl,It.ry d (λW ρ h=>¬W a/\cL "list" h a vs/\ft W ρ h vs l) ?_ ?_ ?_ ?_,?_,?_,λ_ f=>f.elim⟩
 ·intro W ρ h i v b K m O;refine K.2.2.XW O λR J U=>?_;have P:vs.length=l.reverse.length:=B;rw[P]at J;have:vs[l.reverse.length-1-i]? =some v:=by simpa using m
  rw[J]at this;injection this with S;exact cA S<|U
 ·intro W W' ρ ρ' h h' o1 hW I g;exact eY o1 λx r z=>aI r λn y=>⟨λq=>(hW _ q).elim x (λq=>by rw[y]at q;injection q),I _ _ _ x ⟨n,y⟩,z.move hW I g⟩
 ·intro W ρ h b K O;simp only[aS,dy,or_false]at O;refine ak O (λH=>?_) λu2=>?_;refine ab H ?_;rotate_left;refine ab u2 ?_;rotate_right
  ·exact .inl rfl
  ·exact .inr ⟨K.1,λo M=>by refine aI K.2.1 λn h=>?_;rw[h]at M;injection M with S;subst S;exact i8 rfl⟩
 ·exactλi h j=>eY j λ_ o4 _=>gB o4 λo M V u=>⟨o,_,M,jr u (by intro q t;simp[zL]),V,by decide⟩
 ·have F:((vs.toArray.size:Nat):Int)-1=(l.reverse.length:Int)-1- ((0:Nat):Int):=by refine ab B ?_;simp
  refine⟨⟨bz _,⟨_,bV _ rfl,rfl,by refine ab F ?_;rfl⟩,G.isList.push _⟩,?_,?_,?_⟩
  ·refineλo5=>ak o5 (λq=>?_) λq=>?_
   ·exact Z q
   ·exact L q
  ·exact aI G λn y=>⟨n,bO.push _ _ _ _ y⟩
  ·exact D.move (λb O=>O.imp id λq=>by exact ab q<|fr) (λb T vs _ Y=>aI Y λn y=>⟨n,bO.push _ _ _ _ y⟩) λ_ _ y=>y
 ·exactλp c=>ab c<|gC e fr
theorem AL{a:CE}(L:bU C k a):oE C k (.K a):=by
 intro K env x loc av avs W ρ n0 st A s E hE hA I M n z V;refine vw V λf p x pos e=>?_;rw[e]at V⊢;have V:(true&&ro K "reversed" f&&cz K 0 a x&&bJ x)=true:=V;refine bW M λl J e=>?_;rw[<-e]at n;have d:avs=l.reverse:=by
  have n:(if l.reverse.length<=cB then some l.reverse else none)=some avs:=n;split at n
  ·exact(ay n).symm
  ·injection n
 refine ab d<|dE (lu (v:=.type "reversed") hE (ba (ba (ba V).1).1).2 (om rfl) I.base ?_);refine ab (cY (ba V).2)<|dX rfl (dH (dP ?_));refine cu (L _ _ _ _ _ _ _ _ _ _ _ _ hE hA I (Kz J) (ba (ba V).1).2) λv N D=>e7 ?_;have r3:=D.2.2;cases r3 with
 |lst Y G X=>
  refine call_reversed_list G.isList<|wpAny_pyIter_revIter ⟨_,bV _ rfl,rfl,rfl⟩ (JV (prog:=C.prog) (w:=C.w) (A:=A) (n0:=n0) (s:=s) hA.hh D.1 D.2.1 (I.step D).live Y G X)
end
section
variable{M:Model}{A:cP}{R:GenEnd}{Y:Ry}{n:Nat}{s₀:ao}{c:Code}{fs:List Frame}{s:ao}{env:fZ}
 {K:kO->jA Fin}{H:aw->jA Fin}{gd:Bool->Bool}{lv:List aw->List aw}
theorem C9{G:Expr}{body B:List bC}{pos:eO}
 (h:aM M (A.over c fs) (mT G env (fe G env)) (λb s'=>if b=true then BI M A R Y n s₀ c ((fw body env).wrap K H gd lv) fs s' else BI M A R Y n s₀ c ((fw B env).wrap K H gd lv) fs s')
   (λx s'=>BI M A R Y n s₀ c (H x) fs s') s):BI M A R Y n s₀ c ((sf (.If G body B pos) env).wrap K H gd lv) fs s:=by
 show BI M A R Y n s₀ c ((jF pos>>=λz=>mT G env (fe G env)>>=λb=>if b=true then fw body env else fw B env).wrap K H gd lv) fs s;refine fB (eA (fB (aA h (λb s' O=>?_) λz z e=>e)));rcases b with _|_
 ·exact O
 ·exact O
theorem rI{st:bC}{rest:List bC}(h:aM M (A.over c fs) (sf st env) (λf s'=>f=.next/\BI M A R Y n s₀ c ((fw rest env).wrap K H gd lv) fs s') (λx s'=>BI M A R Y n s₀ c (H x) fs s') s):
 BI M A R Y n s₀ c ((fw (st::rest) env).wrap K H gd lv) fs s:=by
 refine ip (seg_wrap (aA h (λf s' P=>?_) λz z e=>e));obtain⟨rfl,P⟩:=P;exact P
theorem Pk{y iter:Expr}{body B:List bC}{pos:eO}(G:∀x,jg iter env x=pure x)
 (h:aM M (A.over c fs) (fe iter env) (λI N=>aM M (A.over c fs) (tX I) (λit T=>∀p,BI M A R Y n s₀ (.forLoop y it body B env) (M.den (.forLoop y it body B env))
   (.ret (λr=>((match r with| .ok f=>(.pure f:jA kO)| .error e=>.raise e).onRaise λ(x:aw)=>do
     if(<-field x 1)==UQ then unsupported "frame.own-activation:exception-without-traceback"
     setFlight x env.frame).wrap K H gd lv) none (gd false) (lv []) c p []::fs) T) (λx s'=>BI M A R Y n s₀ c (H x) fs s') N) (λx s'=>BI M A R Y n s₀ c (H x) fs s') s):
 BI M A R Y n s₀ c ((sf (.For y iter body B pos) env).wrap K H gd lv) fs s:=by
 show BI M A R Y n s₀ c ((jF pos>>=λz=>fe iter env>>=λa=>jg iter env a>>=λx=>jF iter.pos>>=λz=>ie [x] (tX x)>>=λit=>runOwn (.forLoop y it body B env) env).wrap K H gd lv) fs s;refine fB (eA (fB (aA h (λI N D=>fB (wpAny_of_eq (G I) (fB (eA (fB (gc (aA D (λit T C=>?_) λz z e=>e))))))) λz z e=>e)));exact seg_call C
end
section
variable{prog:fA}{w:cW}{A:cP}{R:GenEnd}{Y:Ry}{n:Nat}{s₀:ao}{fs:List Frame}{s:ao}{env:fZ}
noncomputable abbrev G0(env:fZ):aw->jA Fin:=λe=>(do MH e env;rZ e:jA Unit).wrap (λz=>.raise e) .raise id id
theorem tA{y:Expr}{it:aw}{body B:List bC}
 (h:aM (aL prog w) (A.over (.forLoop y it body B env) fs) (tY it) (λr N=>match r with
   |none=>BI (aL prog w) A R Y n s₀ (.forLoop y it body B env) (.pure (.again (.block B env))) fs N
   |some v=>aM (aL prog w) (A.over (.forLoop y it body B env) fs) (gJ y it v) (λz W=>
     aM (aL prog w) (A.over (.forLoop y it body B env) fs) (lj y env v) (λz T=>
      BI (aL prog w) A R Y n s₀ (.forLoop y it body B env) ((fw body env).wrap (λf=>match f with
       | .next| .cont=>.pure (.again (.forLoop y it body B env))
       | .brk=>.pure (.done .next)
       | .ret v=>.pure (.done (.ret v))) (G0 env) id id) fs T)
      (λx s'=>BI (aL prog w) A R Y n s₀ (.forLoop y it body B env) (G0 env x) fs s') W)
     (λx s'=>BI (aL prog w) A R Y n s₀ (.forLoop y it body B env) (G0 env x) fs s') N)
   (λx s'=>BI (aL prog w) A R Y n s₀ (.forLoop y it body B env) (G0 env x) fs s') s):
 BI (aL prog w) A R Y n s₀ (.forLoop y it body B env) ((aL prog w).den (.forLoop y it body B env)) fs s:=by
 have G:∀(x:aw) s',BI (aL prog w) A R Y n s₀ (.forLoop y it body B env) (G0 env x) fs s'->BI (aL prog w) A R Y n s₀ (.forLoop y it body B env) ((do MH x env;rZ x:jA Unit).bind λz=>.raise x) fs s':=λx s' F=>ab (Xx ..)<|F;show BI _ A R Y n s₀ _ ((forTurn y it body B env).onRaise (λx=>do MH x env;rZ x)) fs s;refine ab (Ur ..) ?_;delta forTurn;refine fB (eA ?_);refine fB (wpAny_onRaise (aA h (λr N D=>?_) λx s' F=>eA (G x s' F)));rcases r with _|v
 ·exact D
 ·refine fB (aA D (λz W C=>?_) λx s' F=>G x s' F);refine fB (aA C (λz T E=>?_) λx s' F=>G x s' F);refine ab (Xc ..) (ab (wi ..) ?_);exact ab (jA.wrap_congr (fw body env) _ _ (K':=λf=>match f with
   | .next| .cont=>.pure (.again (.forLoop y it body B env))
   | .brk=>.pure (.done .next)
   | .ret v=>.pure (.done (.ret v))) (H':=G0 env)
   (λf=>by rcases f with⟨⟩<;>rfl)
   (λe=>Xx _ _))<|E
theorem wI(h:BI (aL prog w) A R Y n s₀ (.block [] env) (.pure (.done .next)) fs s):BI (aL prog w) A R Y n s₀ (.block [] env) ((aL prog w).den (.block [] env)) fs s:=h
end
set_option genInjectivity false in
structure GB where
 a1:bC
 a2:bC
 g:Expr
 i:Expr
 t1:Expr
 y1:Expr
 a3:bC
 t2:Expr
 a4:bC
 y2:Expr
 t3:Expr
 y3:Expr
noncomputable def l3{B:Type}:List B->Option (B×B×B)
 | []=>none
 |a::l=>(l2 l).map λb=>(a,b)
theorem VS{B:Type}{l:List B}{q:B×B×B}(h:l3 l=some q):l= [q.1,q.2.1,q.2.2]:=by
 rcases l with _|⟨a,l⟩
 ·injection h
 ·exact aN (rt h) λe N=>ab (my N) (ab e rfl)
noncomputable def l4{B:Type}:List B->Option (B×B×B×B)
 | []=>none
 |a::l=>(l3 l).map λb=>(a,b)
theorem AN{B:Type}{l:List B}{q:B×B×B×B}(h:l4 l=some q):l= [q.1,q.2.1,q.2.2.1,q.2.2.2]:=by
 rcases l with _|⟨a,l⟩
 ·injection h
 ·exact aN (rt h) λe N=>ab (VS N) (ab e rfl)
noncomputable def Mn(e:Expr):Option (Option Expr×eO):=if h:e.ctorIdx=13 then BU (motive_1:=λz=>Option _) e h (λa b=>some (a,b))else none
theorem Hy(e:Expr):i9 (Mn e) λq=>e=.Yield q.1 q.2:=rV λi=>BU (motive_1:=λe=>∀i,i9 (BU (motive_1:=λz=>Option _) e i (λa b=>some (a,b))) λq=>e=.Yield q.1 q.2) e i (λa b z=>rfl) i
noncomputable def Ng(x:bC):Option Expr:=(Mw x).bind λq=>(Mn q.1).bind λr=>r.1
theorem yf{x:bC}{y:Expr}(h:Ng x=some y){I:Prop}(N:∀p q,x=.Expr (.Yield (some y) p) q->I):I:=by refine aC (aZ h) λq J h=>aC (aZ h) λr U h=>N _ _ (by refine bp (uu J) ?_;rewrite[cx (Hy _) U];exact ab h rfl)
noncomputable def wM(b:List bC):Option GB:=(l4 b).bind λq=>(Dw q.2.2.1).bind λf=>(l0 f.2.2.2.1).bind λz=>(l1 f.2.2.1).bind λc=>(BE c).bind λi1=>(l1 i1.2.2.1).bind λe1=>(l2 i1.2.1).bind λb1=>(Ng b1.1).bind λA=>(BE e1).bind λo=>(l1 o.2.1).bind λb2=>(l1 o.2.2.1).bind λe2=>(Ng e2).bind λC=>(BE q.2.2.2).bind λX=>(l0 X.2.2.1).bind λz=>(l1 X.2.1).bind λb3=>(Ng b3).map λS=>⟨q.1,q.2.1,f.1,f.2.1,i1.1,A,b1.2,o.1,b2,C,X.1,S⟩
theorem Of{b:List bC}{B:GB}{P:Prop}(h:wM b=some B)(k:∀R H w G W l F D I n,b= [B.a1,B.a2,.For B.g B.i [.If B.t1 [.Expr (.Yield (some B.y1) R) H,B.a3] [.If B.t2 [B.a4] [.Expr (.Yield (some B.y2) w) G] W] l] [] F,.If B.t3 [.Expr (.Yield (some B.y3) D) I] [] n]->P):P:=by refine dn h λq J h=>dn h λf U h=>dn h λz Z h=>dn h λc d h=>dn h λi1 O h=>dn h λe1 T h=>dn h λb1 V h=>dn h λg m h=>dn h λo A h=>dn h λb2 s h=>dn h λe2 E h=>dn h λC K h=>dn h λX M h=>dn h λz N h=>dn h λb3 Q h=>bW h λS Y a=>?_;subst a;refine yf m λR H y1=>yf K λw G y2=>yf Y λD I y3=>?_;have t:c=.If i1.1 [.Expr (.Yield (some g) R) H,b1.2] [e1] i1.2.2.2:=ab (rW O) (ab (gL T) (ab (my V) (ab y1 rfl)));have e:e1=.If o.1 [b2] [.Expr (.Yield (some C) w) G] o.2.2.2:=ab (rW A) (ab (gL s) (ab (gL E) (ab y2 rfl)));have j:q.2.2.1=.For f.1 f.2.1 [c] [] f.2.2.2.2:=ab (xO U) (ab (lR Z) (ab (gL d) rfl));have L:q.2.2.2=.If X.1 [.Expr (.Yield (some S) D) I] [] X.2.2.2:=ab (rW M) (ab (lR N) (ab (gL Q) (ab y3 rfl)));rw[e]at t;rw[t]at j;exact k R H w G _ _ _ D I _ (ab (AN J) (ab j (ab L rfl)))
noncomputable def PB:List bj:= ["addr","pos","escape","ch"]
noncomputable def K8(d:iL):Ck:=⟨d.scope.names,PB,[0,1,2,3],0⟩
noncomputable def IV(K:Ck)(e:Expr):Bool:=bD (n7 e) λq=>ro K "enumerate" q.1&&cz K 0 (.a 0) q.2&&bJ q.2
theorem Kb{K:Ck}{i:Expr}(h:IV K i=true){I:Prop}(N:∀f p x q,i=.Call (.Name f p) [x] [] q->(ro K "enumerate" f&&cz K 0 (.a 0) x&&bJ x)=true->I):I:=by refine vw h λf p x q u=>?_;subst u;exact N _ _ _ _ rfl h
noncomputable def I8(K:Ck)(B:GB):Bool:=
 [ka K (.cI (.bX 1) (.d 0)) B.a1,ka K (.cI (.bX 2) (.u false)) B.a2,fg K (.many [1,3]) B.g,IV K B.i,cz K 1 (.a 2) B.t1,
 cz K 0 (.tuple [.a 1,.f .Add (.l [92]) (.a 3)]) B.y1,ka K (.cI (.bX 2) (.u false)) B.a3,cz K 1 (.cmp .Eq (.a 3) (.l [92])) B.t2,ka K (.cI (.bX 2) (.u true)) B.a4,
 cz K 0 (.tuple [.a 1,.a 3]) B.y2,cz K 1 (.a 2) B.t3,cz K 0 (.tuple [.a 1,.l [92]]) B.y3].all id
noncomputable def Xs(d:iL):Bool:=
 [d.scope.kind==.function,d.scope.isGenerator,!d.scope.isCoroutine,(d.scope.names.all λp=>p.2 !=.free&&p.2 !=.cell),decide PB.Nodup,
 d.params.posonlyargs.isEmpty,d.params.vararg.isNone,d.params.kwonlyargs.isEmpty,d.params.kwarg.isNone,(d.params.args.map (·.arg)== [("addr":bj)]),d.scope.names.lookup ("addr":bj)==some .local].all id
section
variable{h₀:bk}{cfg:dC}{C:fE h₀ cfg}{k:Nat}
variable{prog:fA}{w:cW}{A:cP}{E:aw->ao->Prop}{s s':ao}{W:az->Prop}{ρ:List az}{st:St}{n0:Nat}{av:AV}{K:Ck}{env:fZ}{loc loc':Loc}
noncomputable def te:AV->Bool
 | .none| .bool _| .int _| .str _=>true
 |_=>false
theorem VR.flat{v:aw}{a:AV}{W':az->Prop}{ρ':List az}{h h':bk}(x:VR W ρ h v a)(P:te a=true):VR W' ρ' h' v a:=by
 rcases x with⟨⟩<;>first|exact(aB P).elim|skip
 ·exact .none
 ·exact .bool _
 ·exact .int _ _
 ·exact .str _ _
def qG(o:hC):Prop:=∃vs n,o.data=.seq vs n
structure pU (P:az->Prop) (G:Nat->Prop) (s s':ao):Prop where
 keep:∀b o,s.heap.get? b=some o->(P b\/qG o\/yi o)->∃o',s'.heap.get? b=some o'/\Gr s'.heap b o o'
 os:s'.os=s.os
 hJ:s.gens.size<=s'.gens.size
 gens:∀g,g<s.gens.size->¬G g->s'.gens[g]? =s.gens[g]?
 bare:wb s.gens->wb s'.gens
def Fu(s s':ao):Prop:=∀b o,s.heap.get? b=some o->∃R,s'.heap.get? b=some R
theorem Fu.refl(s:ao):Fu s s:=λz o e=>⟨o,e⟩
theorem Fu.trans{a b c:ao}(x:Fu a b)(y:Fu b c):Fu a c:=λp o e=>aI (x p o e) λR h=>y p R h
theorem Fu.ext{s s':ao}(e:gK s s'):Fu s s':=λb o h=>e.keep.alive b o h
theorem pU.nt{P:az->Prop}{G:Nat->Prop}{s s':ao}(x:pU P G s s'){b:az}{o:hC}(e:s.heap.get? b=some o)(h:P b\/qG o\/yi o)(Q:Mine.Internal.nt o):s'.heap.get? b=some o:=by refine aC (x.keep b o e h) λR J g=>?_;rw[g.nt Q]at J;exact J
theorem pU.refl{P:az->Prop}{G:Nat->Prop}(s:ao):pU P G s s:=⟨λz o e z=>⟨o,e,.refl _ _ _⟩,rfl,aV _,λz z z=>rfl,id⟩
theorem pU.code{P:az->Prop}{G:Nat->Prop}{s s':ao}(x:pU P G s s'){cd:aw}{q:bj}(h:s.heap.CodeRec cd q):s'.heap.CodeRec cd q:=
 rk h λa B vs t e1 e2 c Y=>⟨a,B,vs,t,e1,x.nt e2 (.inr (.inr ⟨vs,q,t,c,Y⟩)) (vK ⟨vs,q,t,c,Y⟩),c,Y⟩
theorem pU.base{P:az->Prop}{G:Nat->Prop}{s s':ao}{h₀:bk}(x:pU P G s s')(O:bO h₀ s.heap)(b0:∀b o,h₀.get? b=some o->P b):bO h₀ s'.heap:=λp o e=>aC (O p o e) λo1 J f=>aC (x.keep p o1 J (.inl (b0 p o e))) λr U j=>⟨r,U,f.trans j λc q=>x.code⟩
theorem pU.trans{P:az->Prop}{G:Nat->Prop}{a b c:ao}(x:pU P G a b)(y:pU P G b c):pU P G a c:=
 ⟨λp o e h=>by
  refine aC (x.keep p o e h) λo1 J f=>?_;have h':P p\/qG o1\/yi o1:=h.imp id λI=>by
   refine ak I (λH=>ej H λvs n u=>?_) λV=>?_
   ·exact ab (f.nt (i8 u))<|.inl ⟨vs,n,u⟩
   ·exact ab (f.nt (vK V))<|.inr V
  exact aC (y.keep p o1 J h') λr U j=>⟨r,U,f.trans j λc q N=>rk N λa B vs t e1 e2 F Y=>⟨a,B,vs,t,e1,y.nt e2 (.inr (.inr ⟨vs,q,t,F,Y⟩)) (vK ⟨vs,q,t,F,Y⟩),F,Y⟩⟩,y.os.trans x.os,aP x.hJ y.hJ,λg d D=>(y.gens g (be d x.hJ) D).trans (x.gens g d D),λh=>y.bare (x.bare h)⟩
theorem pU.jQ{P:az->Prop}{G:Nat->Prop}{s s':ao}(e:gK s s'):pU P G s s':=⟨λb o h z=>e.keep b o h,e.os,e.hJ,λg d z=>e.gens g d,e.bare⟩
structure GS (h₀:bk) (K:Ck) (env:fZ) (P:az->Prop) (loc:Loc) (s:ao):Prop where
 base:bO h₀ s.heap
 frame:eo env s.heap
 cells:env.cells= []
 vars:∀(i:Nat),i∈K.acc->∀(x:bj),K.tab[i]? =some x->∀(a:AV),loc[i]? =some a->a≠.c->te a=true/\∃v,iq env s.heap x v/\VR (λ_=>False) [] s.heap v a
 dead:¬P env.locals
 mX:h₀.get? env.locals=none
theorem GS.own(V:env.cells= []){p:az}:j7 env p↔p=env.locals:=by
 constructor
 ·refineλQ=>ak Q (λh=>?_) λH=>aI H λx h=>?_
  ·exact h
  ·rw[V]at h;rcases h with⟨⟩
 ·exactλh=>.inl h
theorem GS.rp{P:az->Prop}(x:GS h₀ K env P loc s):Rp h₀ K env 0 (λz=>False) {s with heap:=h₀} loc [] (j7 env) [] s:=by
 refine⟨⟨x.base,λp B=>?_,bz _,λi hi n Q a L N=>?_,λn l e=>by injection e,x.frame,λn l a e=>by injection e⟩,λp B=>B,rfl,λn m l l' p e=>by injection e,λn l p e=>by injection e,λp B=>?_,
  ⟨x.base,rfl,aV _,λz z=>rfl,id⟩,λp B=>B.elim,λz o e=>⟨o,e,.refl _ _ _⟩,λp B=>B.elim⟩
 ·rw[GS.own x.cells]at B;refine ew λY=>?_;subst B;refine oR x.frame.ns λm o z z M z=>Y ?_;clear Y;exact⟨o,M⟩
 ·refine ew λY=>?_;obtain⟨J,v,U,Z⟩:=x.vars i hi n Q a L N;refine Y ?_;clear Y;exact⟨v,U,Z.flat J⟩
 ·refine ak B (λB=>?_) λH=>eb H λn l e z=>?_
  ·rw[GS.own x.cells]at B;exact ab B<|x.mX
  ·injection e
theorem GS.ei{P:az->Prop}(x:GS h₀ K env P loc s):EI h₀ K.tab K.acc env (j7 env) [] 0 loc [] s:=x.rp.ei
theorem GS.keep{P:az->Prop}(x:GS h₀ K env P loc s)(O:bO h₀ s'.heap)(I:∀o,s.heap.get? env.locals=some o->nt o->s'.heap.get? env.locals=some o):GS h₀ K env P loc s':=by
 have X:∀{m},s.heap.Ns env.locals m->s'.heap.Ns env.locals m:=λD=>kB D λo es B t V j=>⟨o,es,B,I o t (nN V),V,j⟩;refine⟨O,x.frame.by λb o h e Q=>?_,x.cells,λi hi n Q a L N=>?_,x.dead,x.mX⟩
 ·refine ak h (λH=>?_) λg=>aI g λy h=>?_;subst H
  ·exact I o e Q
  ·rw[x.cells]at h;rcases h with⟨⟩
 ·refine ew λY=>?_;obtain⟨J,v,U,Z⟩:=x.vars i hi n Q a L N;refine Y ?_;clear Y;refine⟨J,v,?_,Z.flat J⟩;rcases U with⟨t,m,V,j⟩|⟨t,c,V,j⟩
  ·exact .inl ⟨t,m,X V,j⟩
  ·rw[x.cells]at V;injection V
theorem GS.Q5{P:az->Prop}(x:GS h₀ K env P loc s){W:az->Prop}{ρ:List az}{st:St}{s₀:ao}{p:az->Prop}(R:Rp h₀ K env 0 p s₀ loc' st W ρ s')(B:∀(i:Nat) (a:AV),loc'[i]? =some a->a≠.c->te a=true):GS h₀ K env P loc' s':=
 ⟨R.ei.base,R.ei.frame,x.cells,λi hi n Q a L N=>aC (R.ei.vars i hi n Q a L N) λv J U=>⟨B i a L N,v,J,U.flat (B i a L N)⟩,x.dead,x.mX⟩
theorem GS.KP{P:az->Prop}(x:GS h₀ K env P loc s){o:hC}(h:s.heap.get? env.locals=some o):¬qG o:=by refineλc=>ej c λvs n u=>oS x.frame.ns λm R es Q M G z=>?_;rw[h]at M;injection M with S;subst S;rw[u]at G;injection G
theorem GS.Qy{P:az->Prop}(x:GS h₀ K env P loc s){ρ':List az}{st':St}{W':az->Prop}(S:j8 env [] [] (j7 env) s ρ' st' W' s'){G:Nat->Prop}:pU P G s s':=by
 refine⟨λb o e h=>S.keep b o ?_ e,S.os,S.hJ,λg d z=>S.gens g d,S.bare⟩;by_cases V:yi o
 ·exact .inr V
 ·refine .inl λT=>ak T (λT=>?_) λH=>eb H λn l e z=>?_
  ·rw[GS.own x.cells]at T;subst T;refine ak h (λh=>?_) λH=>ak H (λh=>?_) λh=>?_
   ·exact x.dead h
   ·exact x.KP e h
   ·exact V h
  ·injection e
end
section
variable{h₀:bk}{cfg:dC}{C:fE h₀ cfg}{k:Nat}
variable{prog:fA}{w:cW}{A:cP}{E:aw->ao->Prop}{s s' s₀:ao}{P:az->Prop}{W:az->Prop}{ρ:List az}{st:St}{n0:Nat}{av:AV}{K:Ck}{env:fZ}{loc loc':Loc}
theorem AE{es:List CE}{x:Expr}{l:List AV}(B:∀e∈es,bU C k e)(hE:bZ env K n0)(hA:i7 k A)(I:EI h₀ K.tab K.acc env W ρ n0 loc st s)(M:sq cfg st es loc=some l)(V:cz K 0 (.tuple es) x=true):
 aM (aL C.prog C.w) A (fe x env) (λv s'=>gK s s'/\∃a vs,v=.ref a/\s.heap.get? a=none/\(∀b o,s.heap.get? b=some o->b<a)/\cL "tuple" s'.heap a vs/\ft W ρ s'.heap vs l) E s:=by
 refine Kf V λxs Z pos e=>?_;subst e;have V:(decide (es.length<=1000)&&fV K 0 es xs)=true:=V;simp only[au,decide_eq_true_eq]at V;refine wpAny_Tuple (gW es B _ _ _ _ _ _ _ _ _ _ _ _ _ _ hE hA I M V.2 λvs N F y d=>⟨?_,?_⟩)
 ·exact ab d.length<|ab (nJ M)<|aP V.1 (by decide)
 ·exact⟨y.trans (.of (s:=N) (tk:=N.toks) (bO.push _ _)),_,vs,rfl,gC y (cO _),λb o h=>(aC (y.keep b o h) λR h' z=>gN h'),⟨0,bV _ rfl⟩,d.keep (iu.k (bO.push _ _))⟩
noncomputable def YG(h₀:bk)(P:az->Prop)(avs:List AV):Ry:=λn s₀ v s' N=>∃(ad:az) (p:Int) (u:List Nat) (t t':nZ),avs[avs.length-1-n]? =some (.tup [.int p,.str u])/\v=.ref ad/\s₀.heap.get? ad=none/\
 cL "tuple" s'.heap ad [.int p t,.str (strOf u) t']/\pU P (λz=>False) s₀ s'/\
 ∀l,bO h₀ l.heap->(∀b o,s'.heap.get? b=some o->¬P b->¬qG o->nt o->l.heap.get? b=some o)->N (.send .none) l
noncomputable def RG(P:az->Prop):GenEnd:=λn s₀ r N=>r=.ok (.ret .none)/\n=0/\pU P (λz=>False) s₀ N
theorem yC{e1 e2:CE}{y:Expr}{p:Int}{u:List Nat}{avs:List AV}{n:Nat}{Z:ao->Prop}(J:bU C k e1)(U:bU C k e2)(hE:bZ env K 0)(hA:i7 k A)(x:GS h₀ K env P loc s)(O:pU P (λz=>False) s₀ s)(X:∀ad,(∀b o,s.heap.get? b=some o->b<ad)->s.heap.get? ad=none->s₀.heap.get? ad=none)
 (d:ev cfg [] e1 loc=some (.int p))(Q:ev cfg [] e2 loc=some (.str u))(V:cz K 0 (.tuple [e1,e2]) y=true)(hi:avs[avs.length-1-n]? =some (.tup [.int p,.str u]))
 (c:∀s' S,gK s s'->bO h₀ S.heap->(∀b o,s'.heap.get? b=some o->¬P b->¬qG o->nt o->S.heap.get? b=some o)->Z S):
 aM (aL C.prog C.w) A (fe y env) (λv s'=>∀N:Resume->ao->Prop,(∀x S,(match x with| .ref _=>False|_=>Z S)->N (.send x) S)->YG h₀ P avs n s₀ v s' N) E s:=by
 refine aA (AE (es:= [e1,e2]) (λe F=>?_) hE hA x.ei (l:= [.int p,.str u]) (by simp[(id jW),d,Q]) V) (λv s' r=>?_) λz z e=>e;clear V
 ·simp only[aS,dy,or_false]at F;refine ak F (λH=>?_) λg=>?_;refine ab H ?_;rotate_left;refine ab g ?_;rotate_right
  ·exact J
  ·exact U
 ·refine ew λY=>?_;obtain⟨B,a,vs,rfl,L,T,G,D⟩:=r;refine Y ?_;clear Y;intro N R;cases D with
  |cons a1 b1=>
   rcases b1 with _|⟨a2,b2⟩
   ·refine ew λY=>?_;rcases b2 with⟨⟩;rcases a1 with⟨⟩;rcases a2 with⟨⟩;refine Y ?_;clear Y;refine⟨a,p,u,_,_,hi,rfl,?_,G,O.trans (.jQ B),λS I M=>R _ S (c s' S B I M)⟩;exact X a T L
theorem JT{e:CE}{i:Nat}{x:bC}(F:bU C k e)(hE:bZ env K 0)(hA:i7 k A)(X:GS h₀ K env P loc s)(B:∀(i:Nat) (a:AV),loc[i]? =some a->a≠.c->te a=true)(M:ev cfg [] e loc=some av)(J:te av=true)(hi:i<loc.length)
 (V:ka K (.cI (.bX i) e) x=true)(h:∀v,cz K 0 e v=true->iF v=false):
 aM (aL C.prog C.w) A (sf x env) (λf s'=>f=.next/\GS h₀ K env P (loc.set i av) s'/\pU P (λz=>False) s s'/\Fu s s'/\∀b o,b≠env.locals->s.heap.get? b=some o->nt o->s'.heap.get? b=some o) E s:=by
 refine uj V λg v pos o1 I=>?_;subst o1;clear V;simp only[au]at I;refine ew λY=>aN I λr z=>?_;clear I;refine aN r λD m=>?_;clear r;obtain⟨d,Z,rfl⟩:∃x p,g=.Name x p:=cX (ij (K:=K) (names:=K.names) (i:=i) D) λx p e z z=>⟨x,p,e⟩;refine Y ?_;clear Y;refine aA (pa (t:=.bX i) F hE hA X.rp M (loc':=loc.set i av) (by simp[(id sk),ek,hi]) D m (.inl ⟨_,_,rfl,h v m⟩)) (λf s' q=>?_) λz z e=>e;refine cX q λW' ρ' c G U=>?_;clear q;rcases f with⟨⟩<;>first|exact mF c|skip
 refine⟨rfl,X.Q5 G λj a L N=>?_,X.Qy U,U.alive,λb o O R Q=>U.keep.nt (λT=>?_) R Q⟩
 ·by_cases e:j=i
  ·cases e;rw[fI hi]at L;injection L with S;subst S;exact J
  ·rw[ez (ib e)]at L;exact B j a L N
 ·refine ak T (λT=>?_) λH=>eb H λn l e z=>?_
  ·exact O ((GS.own X.cells).mp T)
  ·injection e
theorem w6{A:cP}(hh:A.handled=none)(it:az)(x:bj)(t:nZ):Draws prog w A it [it] x.cps.size (λi v=>∃c u,x.cps[i]? =some c/\v=.str ⟨#[c]⟩ u) (λi h=>h.IsStrIter it (RH x) x t i):=by
 delta RH;split
 ·exact Draws.strAscii hh it x t
 ·exact Draws.strWide hh it x t
structure GH (h₀:bk) (K:Ck) (env:fZ) (P:az->Prop) (x:List Nat) (t:nZ) (e it:az) (i:Nat) (esc:Bool) (ch:AV) (s:ao):Prop where
 gs:GS h₀ K env P [.str x,.int ((i-1:Nat):Int),.bool esc,ch] s
 ch:ch=.c\/te ch=true
 en:∃old,IsEnum s.heap e it (i:Int) old
 si:s.heap.IsStrIter it (RH (strOf x)) (strOf x) t i
 de:¬P e
 di:¬P it
 lt:it<e
 nl:e≠env.locals
 Q3:it≠env.locals
 b0:∀b o,h₀.get? b=some o->P b
theorem GH.ne{x:List Nat}{t:nZ}{e it:az}{i:Nat}{B:Bool}{ch:AV}(g:GH h₀ K env P x t e it i B ch s):e≠it:=oB g.lt
end
section
variable{h₀:bk}{cfg:dC}{C:fE h₀ cfg}{k:Nat}
variable{A:cP}{E:aw->ao->Prop}{s s' s₀:ao}{P:az->Prop}{K:Ck}{env:fZ}{loc loc':Loc}
theorem sZ{h:bk}{e it:az}{i:Int}{F:aw}{o:hC}(x:IsEnum h e it i F)(M:h.get? e=some o):¬qG o:=by refineλo1=>ej o1 λvs n u=>?_;clear o1;rw[x]at M;injection M with S;subst S;injection u
theorem lW{h:bk}{it:az}{T:String}{x:bj}{t:nZ}{i:Nat}{o:hC}(y:h.IsStrIter it T x t i)(M:h.get? it=some o):¬qG o:=by refineλr=>ej r λvs n u=>gB y λR J U Z=>?_;clear r;rw[J]at M;injection M with S;subst S;simp only[u]at Z;injection Z
theorem GH.keep{x:List Nat}{t:nZ}{e it:az}{i:Nat}{B:Bool}{ch:AV}(g:GH h₀ K env P x t e it i B ch s)(O:bO h₀ s'.heap)(I:∀b o,s.heap.get? b=some o->¬P b->¬qG o->nt o->s'.heap.get? b=some o):GH h₀ K env P x t e it i B ch s' where
 gs:=g.gs.keep O λo M Q=>I _ o M g.gs.dead (g.gs.KP M) Q
 ch:=g.ch
 en:=aI g.en λF h=>⟨F,I _ _ h g.de (sZ h h) (jt rfl)⟩
 si:=aC g.si λo h r=>⟨o,I _ _ h g.di (lW g.si h) (jt r.1),r⟩
 de:=g.de
 di:=g.di
 lt:=g.lt
 nl:=g.nl
 Q3:=g.Q3
 b0:=g.b0
theorem GH.XM{x:List Nat}{t:nZ}{e it:az}{i:Nat}{B:Bool}{ch:AV}(g:GH h₀ K env P x t e it i B ch s){p:Int}{D:Bool}:∀(j:Nat) (a:AV),([.str x,.int p,.bool D,ch]:Loc)[j]? =some a->a≠.c->te a=true:=by
 intro j a L N;rcases j with _|_|_|_|j
 ·injection L with S;subst S;rfl
 ·injection L with S;subst S;rfl
 ·injection L with S;subst S;rfl
 ·injection L with S;subst S;refine ak g.ch (λh=>?_) λh=>?_
  ·exact absurd h N
  ·exact h
 ·injection L
theorem Sy{x:List Nat}{t:nZ}{e it:az}{i c:Nat}{B:Bool}{ch:AV}{g:Expr}{Q:Option aw->ao->Prop}(hh:A.handled=none)(hE:bZ env K 0)(d:fg K (.many [1,3]) g=true)
 (G:GH h₀ K env P x t e it i B ch s)(hi:x[i]? =some c)
 (hQ:∀v N,aM (aL C.prog C.w) A (gJ g (.ref e) v) (λz W=>aM (aL C.prog C.w) A (lj g env v) (λz T=>GH h₀ K env P x t e it (i+1) B (.str [c]) T/\pU P (λz=>False) s T/\Fu s T) E W) E N->Q (some v) N):
 aM (aL C.prog C.w) A (tY (.ref e)) Q E s:=by
 refine aI G.en λF Z=>?_;have y:i< (strOf x).cps.size:=by have:=(aQ.mp hi).1;exact this
 refine wpAny_pyNext_enum_itemD (w6 (A:=A.in1) hh it (strOf x) t) Z G.si y G.ne (by simpa using G.ne) λv h' tk D M hsi htup hsz hk=>eb D λc' u R o3=>?_;subst o3;clear D;have I:c'=c:=by
  have:x[i]? =some c':=by simpa[strOf]using R
  rw[hi]at this;injection this with S;subst S;rfl
 subst I;obtain⟨ts,n1,p1,rfl⟩:∃ts n1 p1,g=.Tuple ts n1 p1:=kB (rO d) λx n p e z z=>⟨x,n,p,e⟩;refine hQ _ _ (wpAny_letOwnedTupleGo_enum M λY he₂ hs₂=>?_);clear hQ;have kb:∀b o,b≠e->b≠it->s.heap.get? b=some o->Y.get? b=some o:=λb o J h2 h=>hs₂.extBut b o J (hk b o J h2 h);clear hk;have nce:∀o,s.heap.get? e=some o->¬yi o:=λo h=>by rw[Z]at h;injection h with S;subst S;exact jr rfl (by intro q t;simp)
 have nci:∀o,s.heap.get? it=some o->¬yi o:=λo h=>by
  refine gB G.si λo' J h2 h3=>?_;clear h2;rw[h]at J;injection J with S;rw[S];exact jr h3 (by intro q t;simp)
 have kx:cD (λb=>b=e\/b=it) s.heap Y:=.of (λb o O h=>kb b o (λq=>O (.inl q)) (λq=>O (.inr q)) h) λb o O h=>by
  refine ak O (λH=>?_) λu2=>?_;subst H;rotate_left;subst u2;rotate_right
  ·exact nce o h
  ·exact nci o h
 have hk0:bO h₀ Y:=cD.after G.gs.base kx λb o h q=>by
  refine ak q (λH=>?_) λu2=>?_;subst H;rotate_left;subst u2;rotate_right
  ·exact G.de (G.b0 _ o h)
  ·exact G.di (G.b0 _ o h)
 have X2:GS h₀ K env P [.str x,.int ((i-1:Nat):Int),.bool B,ch] {s with heap:=Y,toks:=tk+1}:=G.gs.keep hk0 λo h z=>kb _ o (ib G.nl) (ib G.Q3) h;have htup2:cL "tuple" Y s.heap.objs.size [.int i tk,.str ⟨#[c']⟩ u]:=⟨0,hs₂.extBut _ _ (oB (gN Z)) htup⟩;have by1:pU P (λz=>False) s {s with heap:=Y,toks:=tk+1}:=by
  refine⟨λb o h hs=>kx b o ?_ h,rfl,aV _,λz z z=>rfl,id⟩;clear kx;refine ak hs (λh'=>?_) λH=>ak H (λh'=>?_) λh'=>?_
  ·left;refineλo4=>ak o4 (λH=>?_) λu2=>?_;subst H;rotate_left;subst u2;rotate_right
   ·exact G.de h'
   ·exact G.di h'
  ·left;refineλo5=>ak o5 (λH=>?_) λu2=>?_;subst H;rotate_left;subst u2;rotate_right
   ·exact sZ Z h h'
   ·exact lW G.si h h'
  ·exact .inr h'
 have al1:Fu s {s with heap:=Y,toks:=tk+1}:=by
  intro b o h
  ·by_cases q1:b=e
   ·rw[q1];exact⟨_,he₂⟩
   ·by_cases V:b=it
    ·subst V;exact aC hsi λo' h' z=>⟨o',hs₂.extBut b o' q1 h'⟩
    ·exact⟨o,kb b o q1 V h⟩
 have hnw:¬j7 env s.heap.objs.size:=λh=>by
  rw[GS.own G.gs.cells]at h;refine oR G.gs.frame.ns λm o z z M z=>?_;rw[<-h,cO]at M;injection M
 refine fm (prog:=C.prog) (w:=C.w) (t:=.many [1,3]) (av:=.tup [.int i,.str [c']]) (loc':= [.str x,.int (i:Int),.bool B,.str [c']]) hh hE X2.rp d rfl (.tup hnw htup2 (.cons (.int _ _) (.cons (.str [c'] u) .nil))) λX U f=>?_;have hfl:∀(j:Nat) (a:AV),([.str x,.int (i:Int),.bool B,.str [c']]:Loc)[j]? =some a->a≠.c->te a=true:=by
  intro j a L hu;clear hu;rcases j with _|_|_|_|j
  ·injection L with S;subst S;rfl
  ·injection L with S;subst S;rfl
  ·injection L with S;subst S;rfl
  ·injection L with S;subst S;rfl
  ·injection L
 have X3:=X2.Q5 U hfl;have nmu:∀p,p≠env.locals->¬Mu env [] [] p:=λp hp hm=>by
  refine ak hm (λhm=>?_) λH=>eb H λn l e z=>?_
  ·exact hp ((GS.own G.gs.cells).mp hm)
  ·injection e
 refine⟨⟨?_,.inr rfl,?_,?_,G.de,G.di,G.lt,G.nl,G.Q3,G.b0⟩,by1.trans (X2.Qy f),al1.trans f.alive⟩
 ·have:((i+1-1:Nat):Int)=(i:Int):=by rfl
  exact ab this<|X3
 ·have:(((i+1:Nat):Int))=(i:Int)+1:=by push_cast;rfl
  exact ab this<|⟨_,f.keep.nt (nmu e G.nl) he₂ (jt rfl)⟩
 ·exact aC hsi λo h r=>⟨o,f.keep.nt (nmu it G.Q3) (hs₂.extBut it o (ib G.ne) h) (jt r.1),r⟩
theorem pB{b:List bC}(hA:i7 (k+1) A):i7 k (A.in1.over (.func b env) []):=by
 refine⟨hA.hh,?_,?_⟩
 ·have:=hA.depth;show A.depth+0+1+k+_<_;lia
 ·have:=hA.units;show A.units+1+0+3+20*k+100<_;lia
theorem GO{b w:List bC}{g:Expr}{it:aw}{kf:M0->jA Fin}{F:Bool}{D:List aw}{p:eO}(hA:i7 (k+1) A):i7 k (A.in1.over (.forLoop g it b [] env) [.ret kf none F D (.func w env) p []]):=by
 refine⟨hA.hh,?_,?_⟩
 ·have:=hA.depth;show A.depth+1+0+k+_<_;lia
 ·have:=hA.units;show A.units+1+3+0+20*k+100<_;lia
theorem GH.ext{x:List Nat}{t:nZ}{e it:az}{i:Nat}{B:Bool}{ch:AV}(g:GH h₀ K env P x t e it i B ch s)(ex:gK s s'):GH h₀ K env P x t e it i B ch s':=
 g.keep (bO.trans g.gs.base ex.keep) λb o h z z Q=>ex.keep.nt h Q
theorem Sx{x:List Nat}{t:nZ}{e it:az}{i:Nat}{B:Bool}{ch:AV}{y:Expr}(hE:bZ env K 0)(hA:i7 k A)(G:GH h₀ K env P x t e it i B ch s)(V:cz K 1 (.a 2) y=true):
 aM (aL C.prog C.w) A (mT y env (fe y env)) (λb s'=>b=B/\gK s s') E s:=
 aA (vT (C:=C) (k:=k) K env y _ (.bool B) B _ _ 0 [] A s E hE hA G.gs.ei rfl rfl rfl V) (λb s' h=>⟨h.1,h.2.2⟩) λz z e=>e
theorem N1{x:List Nat}{t:nZ}{e it:az}{i c:Nat}{B:Bool}{y:Expr}(hE:bZ env K 0)(hA:i7 k A)(G:GH h₀ K env P x t e it i B (.str [c]) s)(V:cz K 1 (.cmp .Eq (.a 3) (.l [92])) y=true):
 aM (aL C.prog C.w) A (mT y env (fe y env)) (λb s'=>b=decide (c=92)/\gK s s') E s:=by
 refine aA (Bp (C:=C) (k:=k) kz ur K env y _ (.bool (decide (c=92))) (decide (c=92)) _ _ 0 [] A s E hE hA G.gs.ei ?_ rfl rfl V) (λb s' h=>⟨h.1,h.2.2⟩) λz z e=>e;have:ev cfg [] (.cmp .Eq (.a 3) (.l [92])) [.str x,.int ((i-1:Nat):Int),.bool B,.str [c]]=some (.bool ([c]== [92])):=rfl;refine bp this ?_;congr 2;by_cases h:c=92<;>simp[h]
theorem QT{x:List Nat}{t:nZ}{e it:az}{i:Nat}{B b:Bool}{ch:AV}{y:bC}(hE:bZ env K 0)(hA:i7 k A)(G:GH h₀ K env P x t e it i B ch s)(V:ka K (.cI (.bX 2) (.u b)) y=true):
 aM (aL C.prog C.w) A (sf y env) (λf s'=>f=.next/\GH h₀ K env P x t e it i b ch s'/\pU P (λz=>False) s s'/\Fu s s') E s:=by
 refine aA (JT (i:=2) (av:=.bool b) (vY (C:=C) (k:=k)) hE hA G.gs G.XM rfl rfl (place_lt rfl) V λv D=>?_) (λf s' r=>?_) λz z e=>e
 ·exact sD D λz z z e=>e▸rfl
 ·refine rj r λj X Z c O=>ab j<|⟨rfl,⟨X,G.ch,?_,?_,G.de,G.di,G.lt,G.nl,G.Q3,G.b0⟩,Z,c⟩
  ·exact aI G.en λF h=>⟨F,O _ _ G.nl h (jt rfl)⟩
  ·exact aC G.si λo h r=>⟨o,O _ _ G.Q3 h (jt r.1),r⟩
noncomputable abbrev IU(d:GB)(R H w G W l:eO):List bC:= [.If d.t1 [.Expr (.Yield (some d.y1) R) H,d.a3] [.If d.t2 [d.a4] [.Expr (.Yield (some d.y2) w) G] W] l]
noncomputable abbrev KF:kO->jA Fin:=λf=>.pure (.done (.ret (match f with| .ret v=>v|_=>.none)))
noncomputable abbrev HF(env:fZ):aw->jA Fin:=λe=>(«leaving» env e).wrap (λz=>.raise e) .raise id id
noncomputable abbrev KK(env:fZ)(rest:List bC):kO->jA Fin:=λf=>match f with| .next=>(fw rest env).wrap KF (HF env) id id|f=>KF f
noncomputable abbrev kf(env:fZ)(rest:List bC):M0->jA Fin:=λr=>((match r with| .ok f=>(.pure f:jA kO)| .error e=>.raise e).onRaise λ(x:aw)=>do
 if(<-field x 1)==UQ then unsupported "frame.own-activation:exception-without-traceback"
 setFlight x env.frame).wrap (KK env rest) (HF env) id id
structure XD (K:Ck) (d:GB):Prop where
 a1:ka K (.cI (.bX 1) (.d 0)) d.a1=true
 a2:ka K (.cI (.bX 2) (.u false)) d.a2=true
 g:fg K (.many [1,3]) d.g=true
 i:IV K d.i=true
 t1:cz K 1 (.a 2) d.t1=true
 y1:cz K 0 (.tuple [.a 1,.f .Add (.l [92]) (.a 3)]) d.y1=true
 a3:ka K (.cI (.bX 2) (.u false)) d.a3=true
 t2:cz K 1 (.cmp .Eq (.a 3) (.l [92])) d.t2=true
 a4:ka K (.cI (.bX 2) (.u true)) d.a4=true
 y2:cz K 0 (.tuple [.a 1,.a 3]) d.y2=true
 t3:cz K 1 (.a 2) d.t3=true
 y3:cz K 0 (.tuple [.a 1,.l [92]]) d.y3=true
theorem Zb{K:Ck}{d:GB}(h:I8 K d=true):XD K d:=
 ⟨allB h 0 rfl,allB h 1 rfl,allB h 2 rfl,allB h 3 rfl,allB h 4 rfl,allB h 5 rfl,allB h 6 rfl,allB h 7 rfl,allB h 8 rfl,allB h 9 rfl,allB h 10 rfl,allB h 11 rfl⟩
theorem vp{M L:List AV}{a:AV}{avs:List AV}(h:avs=M++a::L):avs[avs.length-1-L.length]? =some a:=by refine ab h<|ab cK (ab bu ?_);have:M.length+(L.length+1)-1-L.length=M.length:=dN (Nat.eq_sub_of_add_eq rfl);refine ab this (bp (bG (aV _)) (ab (oC ..) ?_));rfl
theorem Sw{x:List Nat}{t:nZ}{e it:az}{d:GB}{fb:List bC}{avs:List AV}{p1 p2 w p4 p5 p6 p8 p9 p10 p:eO}(I:XD K d)(hA:i7 (k+1) A)(hE:bZ env K 0):
 ∀(m i:Nat) (B:Bool) (ch:AV) (s₀ s:ao),x.length-i=m->i<=x.length->GH h₀ K env P x t e it i B ch s->pU P (λz=>False) s₀ s->Fu s₀ s->(∃M,avs=M++ff i B (x.drop i))->
  BI (aL C.prog C.w) A.in1 (RG P) (YG h₀ P avs) (ff i B (x.drop i)).length s₀ (.forLoop d.g (.ref e) (IU d p1 p2 w p4 p5 p6) [] env) ((aL C.prog C.w).den (.forLoop d.g (.ref e) (IU d p1 p2 w p4 p5 p6) [] env))
   [.ret (kf env [.If d.t3 [.Expr (.Yield (some d.y3) p8) p9] [] p10]) none false [] (.func fb env) p []] s:=by
 have hint:tV env=false:=by delta tV;refine ab hE.kind ?_;rfl
 have hAl:∀{b:List bC} {gg:Expr} {itv:aw},i7 k (A.in1.over (.forLoop gg itv b [] env) [.ret (kf env [.If d.t3 [.Expr (.Yield (some d.y3) p8) p9] [] p10]) none false [] (.func fb env) p []]):=GO hA;have hAf:i7 k (A.in1.over (.func fb env) []):=pB hA;intro m
 induction m with
 |zero=>
  intro i B ch s₀ s hm hi G O hal W;have hil:i=x.length:=by lia
  subst hil;refine aI G.en λold Z=>?_;have hdrop:x.drop x.length= []:=by simp
  rw[hdrop]at W⊢;refine tA ?_;have hsi:=G.si;have g:(strOf x).cps.size=x.length:=by rfl
  rw[<-g]at hsi;refine wpAny_pyNext_enum_endD (w6 (by exact hA.hh) it (strOf x) t) Z hsi λh' hx=>?_;clear hsi;have kb:∀b o,b≠it->s.heap.get? b=some o->h'.get? b=some o:=λb o h1 h=>hx b o h1 h;have nci:∀o,s.heap.get? it=some o->¬yi o:=λo h=>by
   refine gB G.si λo' h1 U h3=>?_;rw[h]at h1;injection h1 with e_;subst e_;exact jr h3 (by intro q t;simp)
  have S:cD (λb=>b=it) s.heap h':=.of (λb o O h=>kb b o O h) λb o O h=>by
   have O:b=it:=O;subst O;exact nci o h
  have T:bO h₀ h':=cD.after G.gs.base S λb o h q=>by
   have q:b=it:=q;subst q;exact G.di (G.b0 _ o h)
  have X2:=G.gs.keep (s':={s with heap:=h'}) T λo h z=>kb _ o (ib G.Q3) h;have hb2:pU P (λz=>False) s₀ {s with heap:=h'}:=O.trans ⟨λb o h hs=>S b o (by
   refine ak hs (λh'=>?_) λu1=>ak u1 (λh'=>?_) λh'=>?_
   ·exact .inl λq=>by subst q;exact G.di h'
   ·exact .inl λq=>by subst q;exact lW G.si h h'
   ·exact .inr h') h,rfl,aV _,λz z z=>rfl,id⟩
  show BI _ _ _ _ _ s₀ _ (.pure (.again (.block [] env))) _ _;refine MJ rfl (wI (seg_leaf (.ok .next) ?_));show BI _ _ _ _ _ s₀ _ ((fw [.If d.t3 [.Expr (.Yield (some d.y3) p8) p9] [] p10] env).wrap KF (HF env) id id) _ _;refine ip (C9 ?_);refine aA (vT (C:=C) (k:=k) K env d.t3 _ (.bool B) B _ _ 0 [] _ _ _ hE hAf X2.ei rfl rfl rfl I.t3) (λb X h₃=>?_) λz z e=>e;refine eY h₃ λo4 z a=>?_;subst o4;have X3:=X2.keep (s':=X) (bO.trans T a.keep) λo h Q=>a.keep.nt h Q;have J:=hb2.trans (.jQ a);rcases b with _|_
  ·simp only[bx,if_false];exact seg_end (.ok (.ret .none)) ⟨rfl,by rfl,J⟩
  ·simp only[if_true];have hl:ff x.length true []= [.tup [.int ((x.length-1:Nat):Int),.str [92]]]:=by rfl
   rw[hl]at W⊢;refine aI W λM W=>ip (Fs rfl rfl rfl ?_ hE.co hint);refine yC (n:=0) (e1:=.a 1) (e2:=.l [92]) (p:=((x.length-1:Nat):Int)) (u:= [92]) kz ur hE hAf X3 J (λad y Q=>?_) rfl rfl I.y3 (vp W) λs' l z z z=>?_
   ·rcases h0:s₀.heap.get? ad with _|o
    ·rfl
    ·exfalso;refine aI (hal ad o h0) λo1 h1=>?_;have L:ad≠it:=by
      have F:=y e _ (a.keep.nt (kb e _ G.ne Z) (jt rfl));exactλq=>absurd (q▸F) (i5.mpr (cm G.lt))
     refine aC (a.keep ad o1 (kb ad o1 L h1)) λr this z=>?_;rw[Q]at this;injection this
   ·exact seg_end (.ok (.ret .none)) ⟨rfl,rfl,.refl _⟩
 |succ m R=>
  intro i B ch s₀ s hm hi G O hal W;have y:i<x.length:=DE hm;obtain⟨c,V⟩:∃c,x[i]? =some c:=⟨x[i],by simp[y]⟩;have hdrop:x.drop i=c::x.drop (i+1):=by refine ab (dF y) ?_;congr 1;simpa[y]using V
  rw[hdrop]at W⊢;refine tA (Sy (C:=C) (hA.hh) hE I.g G V λv N D=>aA D (λz s₁' h₁'=>aA h₁' (λz s₂ Y=>?_) λz z e=>e) λz z e=>e);clear D;clear h₁';clear G;refine eY Y λG2 b2 al2=>?_;clear Y;have hb2:=O.trans b2;have ha2:=hal.trans al2;refine ip (C9 (aA (Sx (C:=C) hE hAl G2 I.t1) (λb X h₃=>?_) λz z e=>e));refine aN h₃ λo5 a=>?_;subst o5;have G3:=G2.ext a;have J:=hb2.trans (.jQ a);have ha3:=ha2.trans (.ext a);have hp3:((i+1-1:Nat):Int)=(i:Int):=by rfl
  rcases b with _|_
  ·simp only[bx,if_false];refine ip (C9 (aA (N1 (C:=C) hE hAl G3 I.t2) (λb s₄ h₄=>?_) λz z e=>e));refine aN h₄ λo7 e₄=>?_;subst o7;have G4:=G3.ext e₄;have hb4:=J.trans (.jQ e₄);have ha4:=ha3.trans (.ext e₄);by_cases hc92:c=92
   ·subst hc92;simp only[decide_true,if_true];have hl:ff i false (92::x.drop (i+1))=ff (i+1) true (x.drop (i+1)):=by rfl
    rw[hl]at W⊢;refine rI (aA (QT (C:=C) hE hAl G4 I.a4) (λf H h₅=>?_) λz z e=>e);refine Aw h₅ λo8 G5 b5 j=>?_;subst o8;exact⟨rfl,MJ rfl (R (i+1) true _ s₀ H (by lia) y G5 (hb4.trans b5) (ha4.trans j) W)⟩
   ·simp only[hc92,decide_false,bx,if_false];have hl:ff i false (c::x.drop (i+1))=.tup [.int (i:Int),.str [c]]::ff (i+1) false (x.drop (i+1)):=by simp[(id pW),hc92]
    rw[hl]at W⊢;refine aI W λM W=>ip (Fs rfl rfl rfl ?_ hE.co hint);refine yC (e1:=.a 1) (e2:=.a 3) (p:=(i:Int)) (u:= [c]) kz kz hE hAl G4.gs hb4 (λad z Q=>rm ha4 Q) (by rfl) rfl I.y2 (vp W) λs' l ex hk'' hs''=>?_;have G5:=(G4.ext ex).keep hk'' hs'';exact MJ rfl (R (i+1) false _ l l (by lia) y G5 (.refl _) (.refl _) ⟨M++ [.tup [.int (i:Int),.str [c]]],by refine ab W ?_;simp⟩)
  ·simp only[if_true];have hl:ff i true (c::x.drop (i+1))=.tup [.int (i:Int),.str [92,c]]::ff (i+1) false (x.drop (i+1)):=by rfl
   rw[hl]at W⊢;refine aI W λM W=>ip (Fs rfl rfl rfl ?_ hE.co hint);refine yC (e1:=.a 1) (e2:=.f .Add (.l [92]) (.a 3)) (p:=(i:Int)) (u:= [92,c]) kz (EW ur kz) hE hAl G3.gs J (λad z Q=>rm ha3 Q) (by rfl) rfl I.y1 (vp W) λs' l ex hk'' hs''=>?_;have G4:=(G3.ext ex).keep hk'' hs'';refine rI (aA (QT (C:=C) hE hAl G4 I.a3) (λf H h₅=>?_) λz z e=>e);refine Aw h₅ λo6 G5 b5 j=>?_;subst o6;exact⟨rfl,MJ rfl (R (i+1) false _ l H (by lia) y G5 b5 j ⟨M++ [.tup [.int (i:Int),.str [92,c]]],by refine ab W ?_;simp⟩)⟩
noncomputable abbrev Qx(d:GB)(R H w G W l F D I n:eO):List bC:= [d.a1,d.a2,.For d.g d.i (IU d R H w G W l) [] F,.If d.t3 [.Expr (.Yield (some d.y3) D) I] [] n]
theorem N0{x:List Nat}{d:GB}{R H w G W l p7 p8 p9 n:eO}(I:XD K d)(hA:i7 (k+1) A)(hE:bZ env K 0)(X:GS h₀ K env P [.str x,.c,.c,.c] s)(hP:∀b,P b->∃o,s.heap.get? b=some o)
 (b0:∀b o,h₀.get? b=some o->P b):
 BI (aL C.prog C.w) A.in1 (RG P) (YG h₀ P (ff 0 false x)) (ff 0 false x).length s (.func (Qx d R H w G W l p7 p8 p9 n) env) ((aL C.prog C.w).den (.func (Qx d R H w G W l p7 p8 p9 n) env)) [] s:=by
 refine seg_func<|rI (aA (JT (i:=1) (av:=.int 0) (loc:= [.str x,.c,.c,.c]) (EX (C:=C) (k:=k)) hE (pB hA) X (λj a L N=>?_) rfl rfl (by simp) I.a1 λv D=>?_) (λf s₁ r=>?_) λz z e=>e)
 ·rcases j with _|_|_|_|j
  ·injection L with S;subst S;rfl
  ·injection L with S;subst S;exact absurd rfl N
  ·injection L with S;subst S;exact absurd rfl N
  ·injection L with S;subst S;exact absurd rfl N
  ·injection L
 ·exact vy D λz z z e=>e▸rfl
 refine rj r λo3 X1 b1 al1 z=>?_;clear r;subst o3;refine⟨rfl,?_⟩;refine rI (aA (JT (i:=2) (av:=.bool false) (loc:= [.str x,.int 0,.c,.c]) (vY (C:=C) (k:=k)) hE (pB hA) X1 (λj a L N=>?_) rfl rfl (by simp) I.a2 λv D=>?_) (λf T r=>?_) λz z e=>e)
 ·match j,L with
  |0,L=>injection L with S;refine cA S ?_;rfl
  |1,L=>injection L with S;subst S;rfl
  |2,L=>injection L with S;subst S;exact absurd rfl N
  |3,L=>injection L with S;subst S;exact absurd rfl N
  |j+4,L=>injection L
 ·exact sD D λz z z e=>e▸rfl
 refine rj r λu X2 b2 al2 z=>?_;clear r;subst u;refine⟨rfl,?_⟩;refine ew λY=>Kb I.i λf fp y q hi V=>?_;simp only[au]at V;refine aN V λo5 c=>aN o5 λc1 c2=>Y ?_;clear Y;refine ip<|ab hi<|Pk (λz=>rfl)<|dE (lu (C:=C) (v:=.type "enumerate") hE c1 (by simp[lM]) X2.base ?_);refine ab (cY c)<|dX rfl (dH (dP ?_));refine cu (kz (C:=C) (k:=k) (i:=0) K env y _ (.str x) _ _ 0 [] _ _ _ hE (pB hA) X2.ei rfl c2) λv s₃ F=>e7 ?_;have e₃:=F.2.1;obtain⟨t,rfl⟩:∃t,v=.str (strOf x) t:=by
  have:=F.2.2;clear F
  (rcases this with _|_|_|⟨_,t⟩;exact⟨t,rfl⟩)
 have X3:=X2.keep (s':=s₃) (bO.trans X2.base e₃.keep) λo h Q=>e₃.keep.nt h Q;refine call_enumerate_str λh' Z hsi g hkp=>wpAny_pyIter_enum Z λp=>?_;have ex:gK s₃ {s₃ with heap:=h'}:=.of (s:=s₃) (tk:=s₃.toks) hkp;have alP:∀b,P b->∃o,s₃.heap.get? b=some o:=λb O=>aI (hP b O) λo h=>aI (al1 b o h) λo1 J=>aI (al2 b o1 J) λo2 U=>e₃.keep.alive _ _ U;have dead:∀b,s₃.heap.objs.size<=b->s₃.heap.get? b=none:=λb O=>by
  rcases e:s₃.heap.get? b with _|o'
  ·rfl
  ·exact absurd (gN e) (i5.mpr O)
 have nP:∀b,s₃.heap.objs.size<=b->¬P b:=λb O B=>by
  refine aI (alP b B) λo h=>?_;rw[dead b O]at h;injection h
 have nl:∀b,s₃.heap.objs.size<=b->b≠env.locals:=λb O q=>by
  subst q;refine oR X3.frame.ns λm o z z M z=>?_;rw[dead _ O]at M;injection M
 exact Sw I hA hE x.length 0 false .c s _ rfl (bz _)
  ⟨(X3.keep (s':={s₃ with heap:=h'}) (bO.trans X3.base (iu.k hkp)) λo h z=>hkp _ o h),.inl rfl,⟨_,Z⟩,hsi,nP _ (nu _),nP _ (aV _),og _,nl _ (nu _),nl _ (aV _),b0⟩ (((b1.trans b2).trans (.jQ e₃)).trans (.jQ ex)) (((al1.trans al2).trans (.ext e₃)).trans (.ext ex)) ⟨[],rfl⟩
theorem mC{prog:fA}{w:cW}{a:az}{g n:Nat}{gs:xU}{Pn:Nat->ao->ao->Prop}{Y:Ry}{Q:Option aw->ao->Prop}(hh:A.handled=none)
 (X:s.heap.NoLimit)(G:A.depth<YV)(d:s.heap.IsGen a g)(H:s.gens[g]? =some gs)
 (q:gs.Goes (aL prog w) A.in1 (λn s₀ r N=>r=.ok (.ret .none)/\Pn n s₀ N) Y n (.send .none) (s.setGen g .running))
 (I:∀v N gs',gs'.bare=true->Y (n-1) (s.setGen g .running) v N (λe l=>match n with
   |0=>False
   |m+1=>gs'.Goes (aL prog w) A.in1 (λn s₀ r N=>r=.ok (.ret .none)/\Pn n s₀ N) Y m e l)->Q (some v) (N.setGen g gs'))
 (J:∀N,Pn n (s.setGen g .running) N->∀h',(∀b o,N.heap.get? b=some o->h'.get? b=some o)->Q none {N.setGen g .finished with heap:=h'}):
 aM (aL prog w) A (tY (.ref a)) Q E s:=by
 refine bg (wpAny_attempt (wpAny_callSpecial?_slot (name:=qQ "__next__") d.typeIs ZD
  (wpAny_call_entry ZD d.typeIs entry_gen_next ?_ (args_gen_next _))))
 show aM _ A.in1 (Builtin.Generator.genWake (.ref a) (.send .none)) _ _ s;refine bg (gc (wpAny_genNumber d (bg (wpAny_genState H ?_))));cases gs with
 |running=>exact q.elim
 |finished=>exact q.elim
 |_=>
  refine bg (wpAny_roomToWake X G ?_);refine wpAny_resumeQ H q (λx N F=>?_) (λv N gs' O D=>?_)
  ·refine aN F λc B=>?_;rw[c];show aM _ A.in1 (newExc (.type "StopIteration") []>>=_) _ _ _;refine bg<|bg (xZ ?_ (by size_fits));refine bg (m:=firstArgMember _ _) (wpAny_of_eq (a:=UQ) (by rfl) ?_);refine xZ ?_ (by size_fits);refine bg (bg (wpAny_handled ?_));rw[show A.in1.handled=none from hh];refine wpAny_throw<|bg (wpAny_isInstance (T:="StopIteration") (b:=true) ⟨_,bV _ rfl,rfl⟩ isSubtype_stop ?_);exact du (J N B _ λb o O=>cC _ (cC _ O))
  ·exact du ⟨v,rfl,du (I v N gs' O D)⟩
end
section
variable{h₀:bk}{cfg:dC}{C:fE h₀ cfg}{k:Nat}
variable{A:cP}{E:aw->ao->Prop}{s s' s₀:ao}{P:az->Prop}{K:Ck}{env:fZ}{loc loc':Loc}{W:az->Prop}{ρ:List az}
structure HL (C:fE h₀ cfg) (A:cP) (P:az->Prop) (I:az) (g:Nat) (avs:List AV) (j:Nat) (s:ao):Prop where
 gen:s.heap.IsGen I g
 SA:∃gs,s.gens[g]? =some gs/\∀s'',bO h₀ s''.heap->(∀b,P b->∃o,s''.heap.get? b=some o)->(∀b o,s.heap.get? b=some o->¬P b->¬qG o->nt o->s''.heap.get? b=some o)->
  gs.Goes (aL C.prog C.w) A.in1 (RG P) (YG h₀ P avs) (avs.length-j) (.send .none) s''
 pi:P I
 b0:∀b o,h₀.get? b=some o->P b
theorem CC{h:bk}{I:az}{g:Nat}{o:hC}(x:h.IsGen I g)(M:h.get? I=some o):¬qG o:=by refineλo1=>ej o1 λvs n u=>?_;clear o1;refine JF x λR nm V J z U z=>?_;rw[J]at M;injection M with S;subst S;rw[U]at u;injection u
theorem HL.frame{I:az}{g:Nat}{avs:List AV}{j:Nat}(x:HL C A P I g avs j s)(D:∀b o,s.heap.get? b=some o->(b=I\/¬P b)->¬qG o->nt o->s'.heap.get? b=some o)(d:s'.gens[g]? =s.gens[g]?):HL C A P I g avs j s':=by refine aC x.SA λgs J U=>⟨?_,⟨gs,d.trans J,λl a b c=>U l a b λp o e B Q S=>c p o (D p o e (.inr B) Q S) B Q S⟩,x.pi,x.b0⟩;exact m6 x.gen λo nm V M r=>⟨o,nm,V,D I o M (.inl rfl) (CC ⟨o,nm,V,M,r⟩ M) (jt r.1),r⟩
theorem DS{g:Nat}{gs':xU}{N:ao}(O:pU P (λz=>False) (s.setGen g .running) N)(F:gs'.bare=true)(I:g<s.gens.size):pU P (·=g) s (N.setGen g gs'):=by
 have D:(s.setGen g .running).gens.size=s.gens.size:=by simp[mh]
 have G:(N.setGen g gs').gens.size=N.gens.size:=by simp[mh]
 refine⟨O.keep,O.os,ab G<|cA D<|O.hJ,λg' H L=>?_,λh=>?_⟩
 ·exact ab ((tF N g gs').2 g' L) (ab (O.gens g' (ab D<|H) (λh=>h)) (ab ((tF s g .running).2 g' L) rfl))
 ·have J:wb (s.setGen g .running).gens:=ZA (.of (tF s g .running) (y:=.running) (by simp[mh,I]) rfl) h;have B:g<N.gens.size:=be (by exact ab D<|I) O.hJ;exact ZA (.of (tF N g gs') (y:=gs') (by simp[mh,B]) F) (O.bare J)
theorem LN{n j m:Nat}(h:j<n)(e:n- (j+1)=m):n-j=m+1:=by grind
theorem LO{n j m:Nat}(h:j<n)(e:n- (j+1)=m):n-1- (m+1-1)=j:=by lia
theorem HL.next{I:az}{g:Nat}{avs:List AV}{j:Nat}{a:AV}(hA:i7 (k+1) A)(O:bO h₀ s.heap)(c:∀b,P b->∃o,s.heap.get? b=some o)(x:HL C A P I g avs j s)(L:avs[j]? =some a):
 aM (aL C.prog C.w) A (tY (.ref I)) (λr s'=>∃v,r=some v/\pU P (·=g) s s'/\HL C A P I g avs (j+1) s'/\∃(ad:az) (p:Int) (u:List Nat) (t t':nZ),a=.tup [.int p,.str u]/\v=.ref ad/\s.heap.get? ad=none/\cL "tuple" s'.heap ad [.int p t,.str (strOf u) t']) E s:=by
 refine ew λY=>aC x.SA λgs H q=>?_;have X:g<s.gens.size:=by
  refine ak (tS g s.gens.size) (λh=>?_) λh=>?_
  ·exact h
  ·rw[BO h]at H;injection H
 obtain⟨m,d⟩:∃m,avs.length- (j+1)=m:=⟨_,rfl⟩;refine Y ?_;clear Y;have q:=q (s.setGen g .running) O c λb o e z z z=>e;rw[(LN ((aQ.mp L).1) d)]at q;refine mC (Pn:=λn s₀ N=>n=0/\pU P (λz=>False) s₀ N) hA.hh (bO.nolimit O C.nolimit) (by have:=hA.depth;lia) x.gen H q (λv N gs' F D=>?_) (λN B h' y=>?_)
 ·refine JH D λad p u t t' hi w f G T R=>ab w ?_;rw[(LO ((aQ.mp L).1) d),L]at hi;clear L;injection hi with S;refine ab S<|⟨_,rfl,DS T F X,⟨?_,⟨gs',?_,λl J U Z=>?_⟩,x.pi,x.b0⟩,ad,p,u,t,t',rfl,rfl,f,G⟩
  ·exact m6 x.gen λo nm V M r=>⟨o,nm,V,T.nt M (.inl x.pi) (jt r.1),r⟩
  ·have:g<N.gens.size:=be (by simpa[mh]using X) T.hJ;simp[mh,this]
  ·exact ab d<|R l J λb o e B Q i=>Z b o e B Q i
 ·exact absurd B.1 (oh m)
theorem HL.done{I:az}{g:Nat}{avs:List AV}(hA:i7 (k+1) A)(O:bO h₀ s.heap)(m:∀b,P b->∃o,s.heap.get? b=some o)(x:HL C A P I g avs avs.length s):
 aM (aL C.prog C.w) A (tY (.ref I)) (λr s'=>r=none/\pU P (·=g) s s') E s:=by
 refine aC x.SA λgs H q=>?_;have X:g<s.gens.size:=by
  refine ak (tS g s.gens.size) (λh=>?_) λh=>?_
  ·exact h
  ·rw[BO h]at H;injection H
 have q:=q (s.setGen g .running) O m λb o e z z z=>e;rw[oC]at q;refine mC (Pn:=λn s₀ N=>n=0/\pU P (λz=>False) s₀ N) hA.hh (bO.nolimit O C.nolimit) (by have:=hA.depth;lia) x.gen H q (λv N gs' F D=>?_) (λN B h' J=>?_)
 ·exact JH D λad p u t t' hi j L G T R=>ab j<|(R N (T.base (s:=s.setGen g .running) O x.b0) λz z e z z z=>e).elim
 ·refine aN B λz T=>?_;have:=DS (gs':=.finished) T rfl X;exact⟨rfl,this.trans (.jQ (.of (s:=N.setGen g .finished) (tk:=(N.setGen g .finished).toks) J))⟩
theorem uL:∀{names:List (bj×dz)} {n:Nat},(∀p∈names,p.2≠.cell)->dO n names []= []:=by
 intro names n h
 induction names with
 |nil=>rfl
 |cons q r R=>
  rcases q with⟨x,k⟩;unfold dO;have:(k==wh)=false:=by simpa using h (x,k) aH
  exact ab this<|R λp B=>h p (ax _ B)
theorem JU{d:iL}{B:GB}(hg:wM d.body=some B)(hck:I8 (K8 d) B=true)(q:Xs d=true){a:az}(hf:FnAt h₀ d a){x:List Nat}{t:nZ}(hA:i7 (k+1) A)(O:bO h₀ s.heap):
 aM (aL C.prog C.w) A (call (.ref a) [.str (strOf x) t]) (λv s'=>∃I g,v=.ref I/\gK s s'/\s.heap.get? I=none/\s.gens.size<=g/\g<s'.gens.size/\
  HL C A (λb=>(∃o,s.heap.get? b=some o)\/b=I) I g (ff 0 false x) 0 s') E s:=by
 refine ew λhG_=>oS hf.ex λo w cd doc M u hcd=>Of hg λp1 p2 p3 p4 p5 p6 p7 p8 p9 p10 hbody=>hG_ ?_;clear hG_;have c1:=eq_of_beq (allB q 0 rfl);have m:=allB q 1 rfl;have c3:=nB (allB q 2 rfl);have c4:∀p∈d.scope.names,p.2≠.free/\p.2≠.cell:=λp hp=>let h:=ba (aq.mp (allB q 3 rfl) p hp);⟨bne_iff_ne.mp h.1,bne_iff_ne.mp h.2⟩
 have c5:=of_decide_eq_true (allB q 4 rfl);have c8:=d7.mp (allB q 6 rfl);have c9:=dx.mp (allB q 7 rfl);have RV:=d7.mp (allB q 8 rfl);have c11:=eq_of_beq (allB q 9 rfl);have c12:=eq_of_beq (allB q 10 rfl);have f:d.params.args.length=1:=by have:=congrArg dp c11;simpa using this
 refine UX (codeAny_call_generator (fd:=HY d.name d.params d.body d.scope w cd doc) (body:=d.body) (by have:=hA.depth;lia) (bO.nt O M (nO u)) u c3 m rfl (bO.code O hcd) ?_);simp only[qj (fd:=HY d.name d.params d.body d.scope w cd doc) (dx.mp (allB q 5 rfl)) c8 c9 RV rfl (by show[aw.str (strOf x) t].length=d.params.args.length;refine ab f ?_;rfl) (by show(d.params.args.map (·.arg)).Nodup;refine ab c11 ?_;simp)];refine ab c11<|du (wpAny_newFunctionEnv_cells c1 (λp hp=>?_) λenv F T X=>?_)
 ·simp only[mH,HS,aS,dy,or_false]at hp;exact ab hp<|.inl c12
 have hkN:∀y,env.kindOf y=d.scope.names.lookup y:=λy=>by refine ab F ?_;rfl
 have hcs:env.cells= []:=ab F<|uL λp hp=>(c4 p hp).2;have hLo:env.locals=s.heap.objs.size:=by refine ab F ?_;rfl
 have hE:bZ env (K8 d) 0:=by
  refine⟨aV _,by exact ab F<|c1,by refine ab F ?_;rfl,by refine ab F ?_;rfl,by refine ab F ?_;rfl,ab F<|c3,λy Y=>?_,c5⟩;rw[hkN]at Y;refine ak Y (λY=>?_) λY=>?_
  ·exact absurd rfl (c4 _ (mem_of_lookup Y)).2
  ·exact absurd rfl (c4 _ (mem_of_lookup Y)).1
 have Z:iu s.heap T.heap:=X.toInCall.keep;have G:s.heap.get? env.locals=none:=ab hLo<|cO _;refine ej X.toInCall.same λJ tk1 hs1=>?_;have H:=X.toInCall.ns;clear X;refine⟨bO.nolimit (bO.trans O Z.k) C.nolimit,T.heap.objs.size,T.gens.size,rfl,?_,?_,?_,?_,?_⟩
 ·subst hs1;exact⟨λb o h=>⟨o,cC _ (Z b o h),.refl _ _ _⟩,rfl,by simp,λg hg=>by simp[jl,jb hg],λh=>h.push rfl⟩
 ·rcases e:s.heap.get? T.heap.objs.size with _|R
  ·rfl
  ·exact absurd (gN (Z _ _ e)) (zI _)
 ·exact ab hs1<|aV _
 ·simp
 ·refine⟨⟨_,_,_,bV _ rfl,rfl,rfl,rfl⟩,⟨_,Array.getElem?_push_size ..,λl hk0 hP hkp=>⟨rfl,?_⟩⟩,.inr rfl,λb o h=>.inl (bO.alive O b o h)⟩;refine ab (UO ..) (ab hbody ?_);have nP:¬((∃o,s.heap.get? env.locals=some o)\/env.locals=T.heap.objs.size):=by
   refineλo1=>ak o1 (λu1=>aI u1 λo h=>?_) λh=>?_
   ·rw[G]at h;injection h
   ·exact jb H.lt h
  refine kB H λoL es Q hoL hdL rL=>?_;have hL'':l.heap.get? env.locals=some oL:=hkp _ _ (cC _ hoL) nP (by refineλo3=>ej o3 λvs n D=>?_;rw[D]at hdL;injection hdL) (nN hdL);refine N0 (C:=C) (Zb hck) hA hE ⟨hk0,⟨⟨_,oL,es,Q,hL'',hdL,rL⟩,λy c V=>?_,?_,λy c V=>?_⟩,hcs,λi hi y Y av L N=>?_,nP,?_⟩ hP λb o h=>.inl (bO.alive O b o h)
  ·rw[hcs]at V;rcases V with⟨⟩
  ·exact ab hcs<|.nil
  ·rw[hcs]at V;rcases V with⟨⟩
  ·rcases i with _|_|_|_|j
   ·injection L with S;subst S;have Y:y="addr":=by
     have:PB[0]? =some y:=Y;simpa[PB]using this.symm
    refine ab Y<|⟨rfl,.str (strOf x) t,.inl ⟨ab (hkN ..)<|c12,_,⟨oL,es,Q,hL'',hdL,rL⟩,?_⟩,.str _ _⟩;have hkl:env.kindOf ("addr":bj)=some .local:=ab (hkN ..)<|c12;simp[RA,hkl]
   ·injection L with S;subst S;exact absurd rfl N
   ·injection L with S;subst S;exact absurd rfl N
   ·injection L with S;subst S;exact absurd rfl N
   ·injection L
  ·rcases e:h₀.get? env.locals with _|R
   ·rfl
   ·refine aI (bO.alive O _ _ e) λr U=>?_;rw[U]at G;injection G
end
section
variable{h₀:bk}{cfg:dC}{C:fE h₀ cfg}{k:Nat}
variable{A:cP}{E:aw->ao->Prop}{s s' s₀:ao}{P W W' W0:az->Prop}{G:Nat->Prop}{ρ ρ':List az}{st st':St}{n0:Nat}{av:AV}{K:Ck}{env:fZ}{loc loc':Loc}
theorem Rp.Qy(R:Rp h₀ K env n0 W0 s₀ loc st W ρ s)(b:pU P G s s')(X:∀p,j7 env p->P p)(Y:∀b o,s₀.heap.get? b=some o->P b)(D:∀g,G g->s₀.gens.size<=g)(ht:n0<=s'.toks):
 Rp h₀ K env n0 W0 s₀ loc st (λp=>W p/\(P p\/∃o,s.heap.get? p=some o/\qG o)) ρ s':=by
 have y:∀(w:az) (T:String) (vs:List aw),cL T s.heap w vs->cL T s'.heap w vs:=λw T vs Y=>aI Y λn h=>⟨n,b.nt h (.inr (.inl ⟨_,_,rfl⟩)) (i8 rfl)⟩;have O:∀w o,P w->s.heap.get? w=some o->nt o->s'.heap.get? w=some o:=λw o B h Q=>b.nt h (.inl B) Q;refine⟨⟨b.base R.ei.base λp o e=>(aI (bO.alive R.b0 p o e) λr U=>Y p r U),λp B=>?_,ht,λi hi x F a L N=>?_,λn l e=>?_,R.ei.frame.by λp o B e Q=>O p o (X p B) e Q,λn l a e1 e2=>⟨R.ei.nR n l a e1 e2,.inr ?_⟩⟩,
  λp B=>⟨R.own p B,.inl (X p B)⟩,R.len,R.inj,R.me,R.new,⟨λp o e=>(aC (R.ext.keep p o e) λo1 J f=>aC (b.keep p o1 J (.inl (Y p o e))) λr U g2=>⟨r,U,f.trans g2 λc q=>b.code⟩),b.os.trans R.ext.os,aP R.ext.hJ b.hJ,
   λg d=>(b.gens g (be d R.ext.hJ) λh=>absurd (D g h) (jE.mpr d)).trans (R.ext.gens g d),λh=>b.bare (R.ext.bare h)⟩,λp B=>⟨R.w0 p B,.inl ?_⟩,R.b0,R.l0⟩
 ·refine ak B.2 (λh=>?_) λH=>aC H λo h hs=>?_
  ·exact aI (R.ei.live p B.1) λo M=>aC (b.keep p o M (.inl h)) λr U z=>⟨r,U⟩
  ·exact aC (b.keep p o h (.inr (.inl hs))) λr U z=>⟨r,U⟩
 ·refine aC (R.ei.vars i hi x F a L N) λv J U=>⟨v,?_,U.move (λz h=>.inl h.1) (λw T vs z h=>y w T vs h) λz z e=>e⟩;rcases J with⟨t,m,V,j⟩|⟨t,c,V,j⟩
  ·exact .inl ⟨t,m,(kB V λo es ep w1 w2 w3=>⟨o,es,ep,O _ o (X _ (.inl rfl)) w1 (nN w2),w2,w3⟩),j⟩
  ·exact aC j λo M u=>.inr ⟨t,c,V,o,O c o (X _ (.inr ⟨x,mem_of_lookup V⟩)) M (uk u),u⟩
 ·exact cX (R.ei.store n l e) λa vs J U Z=>⟨a,vs,J,y _ _ _ U,Z.move (λz h=>.inl h.1) (λw T vs z h=>y w T vs h) λz z e=>e⟩
 ·refine cX (R.ei.store n l e1) λI vs J o3 Z=>aI o3 λm U=>?_;clear o3;rw[e2]at J;injection J with S;exact ab S<|⟨_,U,⟨_,_,rfl⟩⟩
 ·exact aI (R.l0 p B) λo M=>Y p o M
theorem j8.Qy{ρ':List az}{st':St}{W':az->Prop}{l:ao}(x:j8 env ρ st W s ρ' st' W' s')(b:pU P G s' l)(m:∀b o,s.heap.get? b=some o->P b)(D:∀g,G g->s.gens.size<=g):
 j8 env ρ st W s ρ' st' (λp=>W' p/\(P p\/∃o,s'.heap.get? p=some o/\qG o)) l where
 w:=λp h=>x.w p h.1
 wk:=λp h L T=>⟨x.wk p h L T,.inl (aI L λo M=>m p o M)⟩
 mu:=x.mu
 nR:=x.nR
 keep:=λp o B e=>(aC (x.keep p o B e) λo1 J f=>aC (b.keep p o1 J (.inl (m p o e))) λr U j=>⟨r,U,f.trans j λc q=>b.code⟩)
 alive:=λp o e=>(aI (x.alive p o e) λR h=>aC (b.keep p R h (.inl (m p o e))) λr U z=>⟨r,U⟩)
 os:=b.os.trans x.os
 hJ:=aP x.hJ b.hJ
 gens:=λg d=>(b.gens g (be d x.hJ) λh=>absurd (D g h) (jE.mpr d)).trans (x.gens g d)
 bare:=λh=>b.bare (x.bare h)
def H4(C:fE h₀ cfg):Prop:=∃d B a,pX 8=some d.name/\C.mg d.name=some (.ref a)/\FnAt h₀ d a/\wM d.body=some B/\I8 (K8 d) B=true/\Xs d=true
theorem NM{a:CE}{loc:Loc}{st:St}{av:AV}{l:List AV}(J:ev cfg st (.M a) loc=some av)(U:fQ st av=some l){I:Prop}(N:∀x,ev cfg st a loc=some (.str x)->l=ff 0 false x->I):I:=by
 refine dn J λx F J=>?_;by_cases V:x.length<=cB/\(cfg.O 8 [.str x]).isSome=true
 ·rw[if_pos V]at J;rw[<-ay J]at U;have U:(if(ff 0 false x).length<=cB then some (ff 0 false x)else none)=some l:=U;split at U
  ·exact N x (zd F) ((ay U).symm)
  ·injection U
 ·rw[if_neg V]at J;injection J
theorem TS(hgf:H4 C){t:kR}{a:CE}{b:List CS}(ha:bU C (k+1) a)(O:lL C (k+1) b):md C (k+1) (.m t (.M a) b):=by
 intro K env x W0 s₀ n0 loc loc' st st' L W ρ A s E hE hA R M hc;refine ew λY=>D8 (Jf hc) λg i bd p e c1 c2 c3 c4=>aC (aZ M) λav h1 hev1=>aC (aZ hev1) λavs U hev2=>NM h1 U λxs hxs hav=>Y ?_;clear Y;rw[hav]at hev2;refine ab e<|vw c2 λgn gp y q hi=>?_;rw[hi]at c2⊢;have d3:=ba (ba (ba c2).1).1;refine QO hgf λd B ad f1 f2 f3 f4 f5 f6=>?_;have hgn:gn=d.name:=(ay (f1.symm.trans (eq_of_beq (ba d3.1).2))).symm;rw[hgn]at d3⊢;refine oS f3.ex λo w cd doc ho hd hcd=>wpAny_For ?_ (λz=>rfl);refine dE (lF hE d3.2 R.ei.base f2 (kE (o:=o) (fd:=HY d.name d.params d.body d.scope w cd doc) ?_));refine ab (cY (ba c2).2)<|dH (dP (cu (ha _ _ _ _ _ _ _ _ _ _ _ _ hE hA R.ei hxs (ba (ba c2).1).2) λv N D=>e7 ⟨⟨bO.nt (bO.trans R.ei.base D.2.1.keep) ho (nO hd),hd⟩,?_⟩));have R1:=R.step D.2.1 D.1;refine aI D.2.2.gf λtk e=>ab e<|bY D.1 (aA (JU (C:=C) f4 f5 f6 f3 hA R1.ei.base) (λv s₂ q₂ t₂=>?_) λz z e z=>e);refine QN q₂ λI gi e e₂ hI hg1 hg2 hGI=>ab e<|wpAny_pyIter_gen hGI.gen ?_;have e0:=D.2.1;generalize hPd:(λb=>(∃o,N.heap.get? b=some o)\/b=I)=P at hGI;have hPi:∀b,P b↔((∃o,N.heap.get? b=some o)\/b=I):=λb=>by refine cA hPd ?_;rfl
 have X:∀p,j7 env p->P p:=λp hp=>(hPi p).mpr (.inl (R1.ei.live p (R1.own p hp)));refine Ec (W:=W) (ρ:=ρ) (F:=λL l st2 f s'=>Cc h₀ K env n0 W0 s₀ L l st2 ρ st W s f s') (Z:=λj loc1 st1 W1 ρ1 s'=>Rp h₀ K env n0 W0 s₀ loc1 st1 W1 ρ1 s'/\j8 env ρ st W s ρ1 st1 W1 s'/\HL C A P I gi (ff 0 false xs) j s'/\(∀b,P b->∃o,s'.heap.get? b=some o)/\gi<s'.gens.size)
  ?_ ?_ (λc f l1 st2 j W5 ρ5 s5 hf h=>⟨W5,ρ5,hf,h.1,h.2.1⟩) ⟨R1.step e₂ t₂,.ext (e0.trans e₂),hGI,λb O=>?_,hg2⟩ hev2 λf s' q=>q
 ·have hP0:∀b o,s.heap.get? b=some o->P b:=λb o h=>(hPi b).mpr (.inl (e0.keep.alive b o h));have H:∀g',g'=gi->s.gens.size<=g':=λg' h=>h▸aP e0.hJ hg1;have hPs:∀b o,s₀.heap.get? b=some o->P b:=λb o h=>(aI (R.ext.keep.alive b o h) λo' h'=>hP0 b o' h');have hIo:¬j7 env I:=λT=>by
   refine aI (R1.ei.live _ (R1.own _ T)) λo' h'=>?_;rw[hI]at h';injection h'
  intro j loc1 st1 W1 ρ1 s1 a1 l0 c l1 st2 ha1 h5 h6 J E R2 hR2;refine rj J λR3 S3 hI3 hP3 hg3=>bY R3.ei.tok (aA (hI3.next hA R3.ei.base hP3 ha1) (λr s4 q t4=>?_) λz z e z=>e);refine ew λY=>?_;obtain⟨v,e,by4,hI4,adr,pp,u,tt,tt',ea,ev,hdead,hseq⟩:=q;have R4:=R3.Qy by4 X hPs (λg' h=>aP R.ext.hJ (H g' h)) t4;refine kB hI4.gen λoI nm qn hoI hcI z=>Y ?_;clear Y;refine⟨v,e,vL hoI hcI (by rfl) ?_⟩;have hvr:VR (λp=>W1 p/\(P p\/∃o,s1.heap.get? p=some o/\qG o)) ρ1 s4.heap v a1:=by simp only[ea,ev];refine .tup (λq=>?_) hseq (.cons (.int _ _) (.cons (.str _ _) .nil));refine aI (R3.ei.live adr q.1) λo h=>?_;rw[hdead]at h;injection h
  have frame:∀{ρ2:List az} {st2:St} {W2:az->Prop} {sa sb:ao} {ρa:List az} {sta:St} {Wa:az->Prop} {la:Loc},Rp h₀ K env n0 W0 s₀ la sta Wa ρa sa->j8 env ρa sta Wa sa ρ2 st2 W2 sb->HL C A P I gi (ff 0 false xs) (j+1) sa/\(∀b,P b->∃o,sa.heap.get? b=some o)/\gi<sa.gens.size->
   HL C A P I gi (ff 0 false xs) (j+1) sb/\(∀b,P b->∃o,sb.heap.get? b=some o)/\gi<sb.gens.size:=by
   intro ρ2 st2 W2 sa sb ρa sta Wa la Ra Sa hh;refine⟨hh.1.frame (λb o e O hns hn=>Sa.keep.nt (λT=>?_) e hn) (Sa.gens gi hh.2.2),λb O=>aI (hh.2.1 b O) λo h=>Sa.alive b o h,be hh.2.2 Sa.hJ⟩;clear hn;refine ak T (λT=>?_) λu1=>eb u1 λn l g1 g2=>?_
   ·refine ak O (λO=>?_) λO=>?_
    ·exact hIo (O▸T)
    ·exact O (X b T)
   ·refine cX (Ra.ei.store n l g1) λb' vs q1 o4 z=>aI o4 λm V=>?_;clear o4;rw[g2]at q1;injection q1 with S;subst S;rw[e]at V;injection V with S;subst S;exact hns ⟨_,_,rfl⟩
  refine fm hA.hh hE R4 c1 h5 hvr λs5 Q S5=>aA (O _ _ _ _ _ _ _ _ _ _ _ _ _ _ _ _ hE hA Q h6 c4) (λf s6 h=>?_) λz z e=>e;exact cX h λW6 ρ6 hf R6 S6=>hR2 f s6 W6 ρ6 hf ⟨R6,((S3.Qy by4 hP0 H).trans S5).trans S6,frame Q S6 (frame R4 S5 ⟨hI4,(λb O=>aI (hP3 b O) λo h=>aC (by4.keep b o h (.inl O)) λo2 U z=>⟨o2,U⟩),be hg3 by4.hJ⟩)⟩
 ·have hP0:∀b o,s.heap.get? b=some o->P b:=λb o h=>(hPi b).mpr (.inl (e0.keep.alive b o h));have H:∀g',g'=gi->s.gens.size<=g':=λg' h=>h▸aP e0.hJ hg1;intro loc1 st1 W1 ρ1 s1 E J;exact rj J λR3 S3 hI3 hP3 hg3=>bY R3.ei.tok (aA (hI3.done hA R3.ei.base hP3) (λr s4 q t4=>⟨q.1,_,ρ1,trivial,R3.Qy q.2 X (λb o h=>(aI (R.ext.keep.alive b o h) λo' h'=>hP0 b o' h')) (λg' h=>aP R.ext.hJ (H g' h)) t4,S3.Qy q.2 hP0 H⟩) λz z e z=>e)
 ·refine ak ((hPi b).mp O) (λu1=>aI u1 λo h=>?_) λh=>?_
  ·exact e₂.keep.alive b o h
  ·exact m6 hGI.gen λo z z h' z=>⟨o,h▸h'⟩
end
section
variable{h₀:bk}{B:dC}
noncomputable def fE.at{B:dC}(C:fE h₀ B)(k:Nat):fE h₀ (Cn B k):=
 {prog:=C.prog,w:=C.w,mg:=C.mg,mb:=C.mb,g:=C.g,b:=C.b,nolimit:=C.nolimit,bi:=C.bi,gi:=C.gi,b1:=C.b1,b3:=C.b3}
def Yh(C:fE h₀ B):Prop:=∀f d,nG f=some d->∃a,C.mg d.name=some (.ref a)/\FnAt h₀ d a
def ya(C:fE h₀ B)(k f:Nat)(D:List AV->Option AV):Prop:=∀d a,nG f=some d->C.mg d.name=some (.ref a)->FnAt h₀ d a->
 ∀(A:cP) (s:ao) (W:az->Prop) (ρ:List az) (vs:List aw) (args:List AV) (av:AV) (E:aw->ao->Prop),i7 (k+1) A->bO h₀ s.heap->j6 W s.heap->ft W ρ s.heap vs args->dU args=true->D args=some av->
  aM (aL C.prog C.w) A (call (.ref a) vs) (e9 W ρ s av) E s
theorem xo{k f:Nat}{args:List AV}{av:AV}(h:Ln B (k+1) f args=some av):(f=4/\3<=k/\xy args=some av)\/(f=5/\3<=k/\xA args=some av)\/(∃q,fdOf f=some q/\f≠23/\iR (Cn B k) q.1 args=some av)\/f=8:=by
 have h:(if f=4 then if k<3 then none else xy args
  else if f=5 then if k<3 then none else xA args
  else if f=23 then none
  else if f=8 then(l1 args).bind λa=>(jH a).map λz=>AV.none
  else(fdOf f).bind λq=>iR (Cn B k) q.1 args)=some av:=h
 by_cases d:f=4
 ·rw[if_pos d]at h;by_cases I:k<3
  ·rw[if_pos I]at h;injection h
  ·rw[if_neg I]at h;exact .inl ⟨d,gR I,h⟩
 ·rw[if_neg d]at h;by_cases O:f=5
  ·rw[if_pos O]at h;by_cases I:k<3
   ·rw[if_pos I]at h;injection h
   ·rw[if_neg I]at h;exact .inr (.inl ⟨O,gR I,h⟩)
  ·rw[if_neg O]at h;by_cases A:f=23
   ·rw[if_pos A]at h;injection h
   ·rw[if_neg A]at h;by_cases m:f=8
    ·exact .inr (.inr (.inr m))
    ·rw[if_neg m]at h;exact dn h λq J U=>.inr (.inr (.inl ⟨q,J,A,U⟩))
theorem NT{f:Nat}{x:FD×List (List Nat)}(h:fdOf f=some x):f<24:=
 dn h λq J z=>(aQ.mp J).1
set_option tactic.hygienic true in
theorem sm{f:Nat}{d:iL}(h:nG f=some d):pX f=some d.name:=by
 delta nG at h;split at h
 ·rename_i g A;have:=List.find?_some h;refine bp A ?_;rw[beq_iff_eq]at this;exact(congrArg _ this).symm
 ·injection h
theorem uV:((aG 24).all λf=>(nG f).isSome)=true:=by decide+kernel
set_option tactic.hygienic true in
theorem Wp(C:fE h₀ B)(F:Yh C)(h4:∀k,3<=k->ya C k 4 xy)(h5:∀k,3<=k->ya C k 5 xA)(c:∀k a,bU (C.at k) k a->oE (C.at k) k (.K a))(n:H4 C):
 ∀k,wK (C.at k) k:=by
 intro G
 induction G with
 |zero=>
  exact⟨⟨λf args av z h=>(nomatch (show(none:Option AV)=some av from h)),c 0⟩,λt a b z z=>by
   intro K env x p s₀ n0 loc loc' st st' fl W ρ A s E hE hA R M V;refine dn M λav J z=>dn J λx U Z=>?_;split at Z
   ·rename_i hO;cases hO.2
   ·injection Z⟩
 |succ k ih=>
  have H:=ih;refine⟨⟨λf args av r h=>?_,c (k+1)⟩,λt a b=>TS (C:=C.at (k+1)) n⟩;have y:f<24:=by
   refine ak (xo (show Ln B (k+1) f args=some av from h)) (λv=>aN v λe z=>?_) λg=>ak g (λT=>aN T λe z=>?_) λN=>ak N (λI=>aC I λq e z=>?_) λe=>?_
   ·refine ab e ?_;decide
   ·refine ab e ?_;decide
   ·exact NT e
   ·refine ab e ?_;decide
  refine ew λY=>aI (gy.mp (aq.mp uV f (aT.mpr y))) λd u=>aC (F f d u) λa L P=>oS P.ex λo w cd j ho l hcd=>Y ?_;clear Y;refine⟨d.name,a,o,_,sm u,L,ho,l,λA s W ρ vs E hA O X D Q=>?_⟩;refine ak (xo (show Ln B (k+1) f args=some av from h)) (λv=>eY v λe i h=>?_) λg=>ak g (λT=>eY T λe i h=>?_) λN=>ak N (λI=>gB I λq e hne h=>?_) λm=>?_
  ·rw[e]at u;exact h4 k i d a u L P A s W ρ vs args av E hA O X D Q h
  ·rw[e]at u;exact h5 k i d a u L P A s W ρ vs args av E hA O X D Q h
  ·have S:=aq.mp Wo f (aT.mpr (by lia));dsimp only[YF]at S;rw[e,u]at S;exact C7 (C:=C.at k) H (ba S).1 (ba S).2 P hA O X D Q h
  ·exact absurd m r
end
section
variable{h₀:bk}{cfg:dC}{C:fE h₀ cfg}{k:Nat}
variable{A:cP}{E:aw->ao->Prop}{s s' s₀:ao}{W W0:az->Prop}{ρ:List az}{st:St}{n0:Nat}{K:Ck}{env:fZ}{loc:Loc}
def Bm(C:fE h₀ cfg):Prop:=∃B ob,C.mg "__builtins__"=some (.ref B)/\B≠ma/\h₀.get? B=some ob/\ob.cls=.type "module"/\ob.dict=some ma/\ob.data=.plain
theorem CodeHd.kp{h h':bk}{c P:az}(k:bO h h')(x:HO h c P):HO h' c P:=
 Vy x λo vs D I B b H F G e r=>⟨o,vs,D,I,B,b,H,F,G,k.nt e (jt r.1),r⟩
theorem G9{nm:bj}{ad f:az}{Q:Unit->ao->Prop}(R:Rp h₀ K env n0 W0 s₀ loc st W ρ s)(hE:bZ env K n0)(M:mi env nm ad)(B:j7 env ad)(y:∀(i:Nat) (x:bj),K.tab[i]? =some x->x≠nm)
 (h:∀s',Rp h₀ K env n0 W0 s₀ loc st W ρ s'->j8 env ρ st W s ρ st W s'->DK (j7 env) s s'->iq env s'.heap nm (.ref f)->Q () s'):aM (aL C.prog C.w) A (zN env nm (.ref f)) Q E s:=by
 refine bY R.ei.tok (vQ hE.kind M R.ei.frame λh' tk G V hh Y X D=>?_);clear M;have S:DK (j7 env) s {s with heap:=h',toks:=tk}:=⟨λb o O e=>G.extBut b o (λq=>O (q▸B)) e,λb o e=>by
  by_cases O:b=ad
  ·exact ab O<|X
  ·exact⟨o,G.extBut b o O e⟩,⟨_,_,rfl⟩⟩
 refine h _ (R.Ri S V (λi hi x F a L N=>?_) D) (.Ri S R.ei.frame) S hh;exact aC (R.ei.vars i hi x F a L N) λv J U=>⟨v,Y x v (y i x F) J,U.move (λz q=>.inl q) (pT λb o O e=>S.keep b o (λq=>O (R.own b q)) e) λz z e=>e⟩
theorem Hg(O:bO h₀ s.heap){P:az}(m:h₀.get? P=some (sg #[])):s.heap.get? P=some (sg #[])\/∃t,s.heap.get? P=some (UG P t)/\s.heap.CodeRec (.ref t) (rE P):=by
 refine aC (O P _ m) λR J U=>?_;rcases U with rfl|⟨_,_,t,rfl,Z⟩
 ·exact .inl J
 ·exact .inr ⟨t,J,Z⟩
theorem KJ{Y:cZ}{body:List bC}{scope:cQ}{pos:eO}{c P ad:az}{nm:bj}(R:Rp h₀ K env n0 W0 s₀ loc st W ρ s)(hE:bZ env K n0)
 (v:Y.defaults= [])(T:Y.kw_defaults= [])(ha:YR Y none env= [])(p:env.code=.ref c)(V:HO h₀ c P)(m:h₀.get? P=some (sg #[]))(hT:Tb P)(X:pos.line=Gu P)(hc4:pos.col=4)
 (D:qualnameIn env nm nm=rE P)(hBm:Bm C)(Z:∀n,(n,dq)∈scope.names->∃c,env.cells.lookup n=some c)(M:mi env nm ad)(hof:j7 env ad)(hnm:∀(i:Nat) (x:bj),K.tab[i]? =some x->x≠nm):
 aM (aL C.prog C.w) A (sf (.FunctionDef nm Y body [] none [] scope none nm pos) env) (λL s'=>L=.next/\∃f t r j w,Rp h₀ K env n0 W0 s₀ loc st W ρ s'/\j8 env ρ st W s ρ st W s'/\iq env s'.heap nm (.ref f)/\s.heap.get? f=none/\
  s'.heap.get? f=some {cls:=.type "function",data:=.func (fnX nm (rE P) Y body scope (n8 env scope.names []) .none .none j w none (.ref t) r)}/\s'.heap.CodeRec (.ref t) (rE P)) E s:=by
 refine QN hBm λbm ob b1 b2 b3 b4 a b6=>?_;have d:=bO.ns R.ei.base C.g;have J:=bO.nt R.ei.base b3 (jt b4);clear b3;have hCd':=CodeHd.kp R.ei.base V;clear V;refine nestDef_K v T ha<|ab D ?_;clear D;have fin:∀(t:az) (r j:aw) (h':bk) (tk:nZ),bO s.heap h'->h'.CodeRec (.ref t) (rE P)->s.heap.objs.size<=h'.objs.size->n0<=tk->
  aM (aL C.prog C.w) A (zN env nm (.ref h'.objs.size)) (λz l=>(Xu:kO)=.next/\∃f t r j w,Rp h₀ K env n0 W0 s₀ loc st W ρ l/\j8 env ρ st W s ρ st W l/\iq env l.heap nm (.ref f)/\s.heap.get? f=none/\
   l.heap.get? f=some {cls:=.type "function",data:=.func (fnX nm (rE P) Y body scope (n8 env scope.names []) .none .none j w none (.ref t) r)}/\l.heap.CodeRec (.ref t) (rE P)) E
   {s with heap:=h'.push {cls:=.type "function",data:=.func (fnX nm (rE P) Y body scope (n8 env scope.names []) .none .none j ((C.mg "__name__").getD .none) none (.ref t) r)},toks:=tk}:=by
  intro t r j h' tk I N g htk;have ex:gK s {s with heap:=h'.push {cls:=.type "function",data:=.func (fnX nm (rE P) Y body scope (n8 env scope.names []) .none .none j ((C.mg "__name__").getD .none) none (.ref t) r)},toks:=tk}:=.YE (I.trans (iu.k λb o e=>cC _ e));have G:s.heap.get? h'.objs.size=none:=by
   rcases e:s.heap.get? h'.objs.size with _|o
   ·rfl
   ·exact absurd (gN e) (i5.mpr g)
  have hnf:¬j7 env h'.objs.size:=λq=>by
   refine aI (R.ei.live _ (R.own _ q)) λo h=>?_;rw[G]at h;injection h
  refine G9 (R.step ex htk) hE M hof hnm λs' R2 S2 T2 hh=>⟨rfl,h'.objs.size,t,r,j,_,R2,(j8.ext ex).trans S2,hh,G,T2.keep _ _ hnf (bV _ rfl),?_⟩;exact cD.code S2.keep (N.push _)
 refine ak (Hg R.ei.base m) (λB=>?_) λH=>aC H λt B N=>?_;clear m
 ·have hgP:d8≠P:=λq=>by
   refine kB d λo es Q e u z=>?_;rw[q,B]at e;injection e with S;subst S;injection u
  have hbP:bm≠P:=λq=>by rw[q,B]at J;injection J with S;subst S;injection b4
  have hbG:bm≠d8:=λq=>by
   refine kB d λo es Q e u z=>?_;rw[q,e]at J;injection J with S;subst S;rw[u]at b6;injection b6
  refine bY R.ei.tok (makeFunction_K (mg:=C.mg) (ql Z) hE.glob d p hCd' B trivial rfl hgP ⟨bm,ob,b1,b2,hbG,hbP,J,b4,a,b6⟩ λt r j h' tk F U y hrec htb=>λht=>?_);refine fin t r j h' tk (λb o e=>?_) hrec (aP U (cm y)) ht;by_cases O:b=P
  ·subst O;rw[B]at e;injection e with S;subst S;refine⟨_,htb,.inr ⟨hT,rfl,t,?_,hrec⟩⟩;delta UG;refine cA X (cA hc4 ?_);rfl
  ·exact⟨o,F b o O e,.refl _ _ _⟩
 ·have hgP:d8≠P:=λq=>by
   refine kB d λo es Q e u z=>?_;rw[q,B]at e;injection e with S;subst S;injection u
  have hbP:bm≠P:=λq=>by rw[q,B]at J;injection J with S;subst S;injection b4
  have hbG:bm≠d8:=λq=>by
   refine kB d λo es Q e u z=>?_;rw[q,e]at J;injection J with S;subst S;rw[u]at b6;injection b6
  refine bY R.ei.tok (makeFunction_hit (mg:=C.mg) (cv:=.ref t) (ps:= #[zL (Gu P:Nat),zL ((4:Nat):Int),.ref t]) (ql Z) hE.glob d p hCd' B trivial ?_ ⟨bm,ob,b1,b2,hbG,hbP,J,b4,a,b6⟩ λr j h' tk I g=>λht=>?_)
  ·simp[codeAmong,zL,X,hc4]
  ·exact fin t r j h' tk (iu.k I) (N.keeps I) g ht
end
section
variable{h₀:bk}{cfg:dC}{C:fE h₀ cfg}{k:Nat}
variable{A:cP}{E:aw->ao->Prop}{s s' s₀:ao}{W W0:az->Prop}{ρ:List az}{st:St}{n0:Nat}{K:Ck}{env:fZ}{loc loc':Loc}{av:AV}
noncomputable def YI(Y:cZ)(names:List bj)(scope:cQ):Bool:=
 [scope.kind==.function,!scope.isGenerator,!scope.isCoroutine,(scope.names.all λp=>p.2 !=.cell),Y.posonlyargs.isEmpty,Y.vararg.isNone,Y.kwonlyargs.isEmpty,Y.kwarg.isNone,Y.defaults.isEmpty,Y.kw_defaults.isEmpty,
 (Y.args.map (·.arg)==names),decide names.Nodup,(names.all λx=>scope.names.lookup x==some .local),decide ((scope.names.map (·.1)).Nodup),(scope.names.all λp=>scope.names.lookup p.1==some p.2)].all id
structure HM (params:cZ) (names:List bj) (scope:cQ):Prop where
 kind:scope.kind=.function
 gen:scope.isGenerator=false
 co:scope.isCoroutine=false
 yT:∀p∈scope.names,p.2≠.cell
 c7:params.posonlyargs= []
 c8:params.vararg=none
 c9:params.kwonlyargs= []
 RV:params.kwarg=none
 d0:params.defaults= []
 k0:params.kw_defaults= []
 args:params.args.map (·.arg)=names
 R:names.Nodup
 loc:∀x∈names,scope.names.lookup x=some .local
 Zf:(scope.names.map (·.1)).Nodup
 look:∀p∈scope.names,scope.names.lookup p.1=some p.2
theorem TZ{Y:cZ}{names:List bj}{scope:cQ}(h:YI Y names scope=true):HM Y names scope:=
 ⟨eq_of_beq (allB h 0 rfl),nB (allB h 1 rfl),nB (allB h 2 rfl),λp B=>bne_iff_ne.mp (aq.mp (allB h 3 rfl) p B),dx.mp (allB h 4 rfl),d7.mp (allB h 5 rfl),dx.mp (allB h 6 rfl),d7.mp (allB h 7 rfl),
  dx.mp (allB h 8 rfl),dx.mp (allB h 9 rfl),eq_of_beq (allB h 10 rfl),of_decide_eq_true (allB h 11 rfl),λx F=>eq_of_beq (aq.mp (allB h 12 rfl) x F),of_decide_eq_true (allB h 13 rfl),λp B=>eq_of_beq (aq.mp (allB h 14 rfl) p B)⟩
theorem Jp{f t:az}{nm V:bj}{Y:cZ}{names:List bj}{body:List bC}{scope:cQ}{cl:List (bj×az)}{j w r:aw}{vs:List aw}{Q:aw->ao->Prop}(G:HM Y names scope)
 (H:s.heap.get? f=some {cls:=.type "function",data:=.func (fnX nm V Y body scope cl .none .none j w none (.ref t) r)})(F:s.heap.CodeRec (.ref t) V)(R:vs.length=names.length)(hA:i7 (k+1) A)(O:bO h₀ s.heap)
 (h:∀env N,env.cells=cl->(∀x,env.kindOf x=scope.names.lookup x)->env.scope=scope->env.globals=d8->env.builtins=ma->env.locals=s.heap.objs.size->i7 k (A.deeper env)->gK s N->iu s.heap N.heap->
   N.heap.Ns env.locals (λx=>(names.zip vs).reverse.lookup x)->s.toks<=N.toks->
   ∀g,aM (aL C.prog C.w) (A.deeper env) (fw body env) (λL s'=>Q (match L with| .ret v=>v|_=>.none) s') g N):
 aM (aL C.prog C.w) A (call (.ref f) vs) Q E s:=by
 refine UX (codeAny_call_function (fd:=fnX nm V Y body scope cl .none .none j w none (.ref t) r) (body:=body) (by have:=hA.depth;clear h;lia) H rfl G.co G.gen rfl F ?_);refine ab (qj (fd:=fnX nm V Y body scope cl .none .none j w none (.ref t) r) G.c7 G.c8 G.c9 G.RV rfl (by show vs.length=Y.args.length;refine ab R (cA G.args ?_);simp) (by show(Y.args.map (·.arg)).Nodup;exact ab G.args<|G.R)) ?_;show aM _ _ (pure ((Y.args.map (·.arg)).zip vs)) _ _ s;refine ab G.args<|du (wpAny_newFunctionEnv G.yT (λp B=>G.loc p.1 (Qb B).1) (λh' S P=>?_) G.kind);have D:iu s.heap h':=λb o e=>P.extBut b o (jb (gN e)) (cC _ e);refine⟨bO.nolimit (bO.trans O (iu.k D)) C.nolimit,codeAny_func ?_⟩;refine h (newEnv scope s.heap.objs.size d8 cl (V++".<locals>.") (some f) (.ref t) none ma) _ rfl (λx=>rfl) rfl rfl rfl rfl ⟨hA.hh,?_,?_⟩ (.of (s:=s) D) D S (ja _ _) _
 ·have:=hA.depth;clear h;show A.depth+1+k+_<_;lia
 ·have:=hA.units;clear h;show A.units+3+20*k+100<_;lia
theorem VH{e:CE}{i:Nat}{x:bC}{own:az->Prop}(F:bU C k e)(hE:bZ env K n0)(hA:i7 k A)(I:EI h₀ K.tab K.acc env W ρ n0 loc st s)(hW:∀p,own p->W p)(hO:∀x,(K.names.lookup x=some .local\/K.names.lookup x=some .cell)->∃ad,mi env x ad/\own ad)
 (X:∀p,own p->p=env.locals)(Y:h₀.get? env.locals=none)(d:∀(n:Nat) (l:List AV) (a:az),st[n]? =some (some l)->ρ[n]? =some a->¬own a)
 (M:ev cfg st e loc=some av)(hi:i<loc.length)(V:ka K (.cI (.bX i) e) x=true)(h:∀v,cz K 0 e v=true->iF v=false):
 aM (aL C.prog C.w) A (sf x env) (λf s'=>f=.next/\EI h₀ K.tab K.acc env W ρ n0 (loc.set i av) st s'/\By own (λz=>False) s s') E s:=by
 have V:RW K (.bX i) e x=true:=V;refine uj V λg v pos o1 hcc=>?_;subst o1;simp only[au]at hcc;refine aN hcc λr z=>aN r λP m=>?_;obtain⟨xn,xp,rfl⟩:∃x p,g=.Name x p:=cX (ij (K:=K) (names:=K.names) (i:=i) P) λx p e z z=>⟨x,p,e⟩;refine gG (.inl ⟨_,_,rfl,h v m⟩) (cu (F _ _ _ _ _ _ _ _ _ _ _ _ hE hA I M m) λy N D=>?_);have c:=I.step D;refine bY c.tok (qh (own:=own) (t:=.bX i) (av:=av) (loc':=loc.set i av) (acc:=K.acc) hA.hh hE.kind hE.R hW hO P (by simp[(id sk),ek,hi]) c.frame c.vars D.2.2 λT G u w R=>?_);have S:cD own N.heap T.heap:=.of G.keep λb o O e=>c.frame.Xp (.inl (X b O)) e;have H:By own (λz=>False) N T:=by refine ej G.rest λh' tk o3=>?_;subst o3;exact⟨S,rfl,aV _,λz z z=>rfl,id⟩
 refine⟨rfl,⟨cD.after c.base S λp o e q=>?_,λp B=>?_,R,λj Q x hx a L hu=>w j (fo _ Q) x hx a L hu,λn l e=>?_,u,c.nR⟩,(By.jQ D.2.1).trans H⟩
 ·have:=X p q;subst this;rw[Y]at e;injection e
 ·exact aI (c.live p B) λo ho=>G.live p o ho
 ·exact cX (c.store n l e) λa vs J U Z=>⟨a,vs,J,S.seq (d n l a e J) U,Z.move (λz q=>.inl q) (y7 S hW) λz z e=>e⟩
end
theorem P4{B A:Type}:∀{l:List B} {m:List A},l.length=m.length->(l.zip m).map (·.1)=l:=by
 intro G
 induction G with
 |nil=>
  intro z z;rfl
 |cons a l P=>
  intro H h;rcases H with _|⟨b,m⟩
  ·injection h
  ·simp[P (by simpa using h)]
theorem P5{B A:Type}{l:List B}{m:List A}{i:Nat}{x:B}{v:A}(J:l[i]? =some x)(U:m[i]? =some v):(x,v)∈l.zip m:=aW (List.getElem?_zip_eq_some.mpr ⟨J,U⟩)
structure U2 (scope:cQ) (cl:List (bj×az)) (h:bk):Prop where
 cB:∀x,scope.names.lookup x=some .free->∃c,cl.lookup x=some c
 cells:∀x c,(x,c)∈cl->∃v,h.IsCell c v
 apart:cl.Pairwise λx y=>x.2≠y.2
section
variable{h₀:bk}{cfg:dC}{C:fE h₀ cfg}{k:Nat}
variable{A:cP}{E:aw->ao->Prop}{s s' s₀ s₁:ao}{W W0:az->Prop}{ρ:List az}{st:St}{n0:Nat}{K:Ck}{env:fZ}{loc loc':Loc}{av:AV}
theorem By.drop{X Y:az->Prop}{G:Nat->Prop}{a b:ao}(x:By (λp=>X p\/Y p) G a b)(I:∀p,Y p->a.heap.get? p=none):By X G a b:=
 ⟨λp o B e=>x.keep p o (B.imp (λQ q=>q.elim Q λq=>by rw[I p q]at e;injection e) id) e,x.os,x.hJ,x.gens,x.bare⟩
theorem gK.RT{X:az->Prop}{a b c:ao}(e:gK a b)(y:By X (λz=>False) b c)(P:∀p,X p->a.heap.get? p=none):gK a c where
 keep:=cD.after e.keep y.keep λp o h q=>by rw[P p q]at h;injection h
 os:=y.os.trans e.os
 hJ:=aP e.hJ y.hJ
 gens:=λg d=>(y.gens g (be d e.hJ) id).trans (e.gens g d)
 bare:=λh=>y.bare (e.bare h)
theorem By.ext{a b:ao}(y:By (λz=>False) (λz=>False) a b):gK a b:=(gK.refl a).RT y λp h=>h.elim
theorem An{Y:cZ}{names rest:List bj}{scope:cQ}{cl:List (bj×az)}(w:HM Y names scope)(hnd:(names++rest).Nodup){vs:List aw}{avs ras:List AV}{acc:List Nat}
 (O:bO h₀ s.heap)(X:j6 W s.heap)(hS:SR W ρ s.heap st)(g:∀(n:Nat) (l:List AV) (a:az),st[n]? =some (some l)->ρ[n]? =some a->W a)(D:ft W ρ s.heap vs avs)(R:vs.length=names.length)(Z:U2 scope cl s.heap)
 (f:∀(i:Nat) (x:bj) (a:AV),rest[i]? =some x->ras[i]? =some a->a≠.c->∃c v,scope.names.lookup x=some .free/\cl.lookup x=some c/\s.heap.IsCell c (some v)/\VR W ρ s.heap v a)
 (e1:env.cells=cl)(e2:∀x,env.kindOf x=scope.names.lookup x)(e3:env.scope=scope)(e4:env.globals=d8)(S:env.builtins=ma)(e6:env.locals=s.heap.objs.size)
 (F:gK s s₁)(I:iu s.heap s₁.heap)(Q:s₁.heap.Ns env.locals (λx=>(names.zip vs).reverse.lookup x)):
 bZ env ⟨scope.names,names++rest,acc,0⟩ 0/\EI h₀ (names++rest) acc env (λp=>W p\/p=env.locals) ρ 0 (avs++ras) st s₁:=by
 have G:s.heap.get? env.locals=none:=ab e6<|cO _;have t:∀{v:aw} {a:AV},VR W ρ s.heap v a->VR (λp=>W p\/p=env.locals) ρ s₁.heap v a:=λx=>x.move (λp q=>q.imp id λ(q:p=env.locals)=>ab q<|G) (pT λb o z e=>I b o e) λz z e=>e;have j:∀{v:List aw} {a:List AV},ft W ρ s.heap v a->ft (λp=>W p\/p=env.locals) ρ s₁.heap v a:=λx=>x.move (λp q=>q.imp id λ(q:p=env.locals)=>ab q<|G) (pT λb o z e=>I b o e) λz z e=>e;have H:=D.length;refine⟨⟨aV _,ab e3<|w.kind,ab e3 rfl,e4,S,ab e3<|w.co,λx F=>?_,hnd⟩,
  ⟨bO.trans O F.keep,λp B=>?_,bz _,λi z x P a L N=>?_,λn l e=>?_,⟨⟨_,Q⟩,λx c V=>?_,ab e1<|Z.apart,λx c V q=>?_⟩,λn l a x y=>.inl (g n l a x y)⟩⟩
 ·rw[e2]at F;refine ab e1<|ak F (λF=>?_) λF=>?_
  ·exact absurd rfl (w.yT _ (mem_of_lookup F))
  ·exact Z.cB x F
 ·refine ak B (λB=>?_) λu1=>?_;rotate_left;subst u1;rotate_right
  ·exact aI (X p B) λo M=>⟨o,I _ _ M⟩
  ·exact m6 Q λo es ep J z=>⟨o,J⟩
 ·by_cases hi:i<names.length
  ·rw[cM hi]at P;rw[cM (by lia)]at L;refine aC (D.get L) λv J U=>⟨v,.inl ⟨ab (e2 ..)<|w.loc x (aW P),_,Q,?_⟩,t U⟩;have T:=P5 P J;refine sG ?_ (uC.mpr T);exact ab uB<|ab (P4 (iZ (congrFun (congrArg BG (id (dN R))) i)))<|List.pairwise_reverse.mpr (w.R.imp λh=>ib h)
  ·rw[bG (gR hi)]at P;rw[bG (by lia)]at L;refine s9 (f _ x a P (ab (show i-names.length=i-avs.length by lia)<|L) N) λc v J U h3 d=>⟨v,.inr ⟨.inr (ab (e2 ..)<|J),c,ab e1<|U,?_⟩,t d⟩;exact aC h3 λo M u=>⟨o,I _ _ M,u⟩
 ·exact cX (hS n l e) λa vs' J r h3=>aI r λm U=>⟨a,vs',J,⟨m,I _ _ U⟩,j h3⟩
 ·rw[e1]at V;exact eb (Z.cells x c V) λv o M u=>⟨v,o,I _ _ M,u⟩
 ·rw[e1]at V;refine eb (Z.cells x c V) λv o M u=>?_;rw[q,G]at M;injection M
end
noncomputable def nM(x:bj):Bool:=x==("inner":bj)
theorem kj{x:bj}(h:nM x=true):x="inner":=eq_of_beq h
noncomputable def Vb(x:bC):Option (cZ×List bC×cQ×eO):=(Mx x).bind λq=>(l0 q.2.2.2.1).bind λz=>(o0 q.2.2.2.2.1).bind λz=>(l0 q.2.2.2.2.2.1).bind λz=>(o0 q.2.2.2.2.2.2.2.1).bind λz=>(Nw (nM q.1)).bind λz=>(Nw (nM q.2.2.2.2.2.2.2.2.1)).map λz=>(q.2.1,q.2.2.1,q.2.2.2.2.2.2.1,q.2.2.2.2.2.2.2.2.2)
theorem SU{x:bC}{r:cZ×List bC×cQ×eO}(h:Vb x=some r):x=.FunctionDef "inner" r.1 r.2.1 [] none [] r.2.2.1 none "inner" r.2.2.2:=by refine ew λY=>aC (aZ h) λq J h=>aC (aZ h) λz U h=>aC (aZ h) λz Z h=>aC (aZ h) λz d h=>aC (aZ h) λz O h=>aC (aZ h) λz T h=>?_;obtain⟨e,_,V⟩:=xg h;refine Y ?_;clear Y;exact ab (HD J) (ab (lR U) (ab (A5 Z) (ab (lR d) (ab (A5 O) (ab (kj (ym T)) (ab (kj (ym V)) (cA e rfl)))))))
noncomputable def isIn(K:Ck)(l:List CE)(x:bC):Bool:=bD (Mw x) λq=>bD (vZ q.1) λf=>nM f.1&&fV K 0 l f.2.2.1
theorem SO{K:Ck}{l:List CE}{x:bC}(h:isIn K l x=true){I:Prop}(N:∀p q r D,x=.Expr (.Call (.Name "inner" p) D [] q) r->fV K 0 l D=true->I):I:=aU h λq J h=>aU h λf U h=>N _ _ _ _ (bp (uu J) (ab (lz U) (ab (kj (ba h).1) rfl))) ((ba h).2)
noncomputable def VK(x:bC):Bool:=bD (BF x) λq=>q.1.isNone
theorem SW{x:bC}(h:VK x=true){I:Prop}(N:∀p,x=.Return none p->I):I:=aU h λq J h=>N _ (bp (rX J) (ab (d7.mp h) rfl))
noncomputable def VN(K:Ck)(c:CE)(G:List bC->Bool)(x:bC):Bool:=bD (RN x) λq=>q.2.2.isEmpty&&(cz K 1 c q.1&&G q.2.1)
noncomputable def l5{B:Type}:List B->Option (B×B×B×B×B)
 | []=>none
 |a::l=>(l4 l).map λb=>(a,b)
theorem VT{B:Type}{l:List B}{q:B×B×B×B×B}(h:l5 l=some q):l= [q.1,q.2.1,q.2.2.1,q.2.2.2.1,q.2.2.2.2]:=by
 rcases l with _|⟨a,l⟩
 ·injection h
 ·exact ab (AN (rt h).2) (ab ((rt h).1) rfl)
noncomputable def l6{B:Type}:List B->Option (B×B×B×B×B×B)
 | []=>none
 |a::l=>(l5 l).map λb=>(a,b)
theorem VU{B:Type}{l:List B}{q:B×B×B×B×B×B}(h:l6 l=some q):l= [q.1,q.2.1,q.2.2.1,q.2.2.2.1,q.2.2.2.2.1,q.2.2.2.2.2]:=by
 rcases l with _|⟨a,l⟩
 ·injection h
 ·exact ab (VT (rt h).2) (ab ((rt h).1) rfl)
noncomputable def l7{B:Type}:List B->Option (B×B×B×B×B×B×B)
 | []=>none
 |a::l=>(l6 l).map λb=>(a,b)
theorem QX{B:Type}{l:List B}{q:B×B×B×B×B×B×B}(h:l7 l=some q):l= [q.1,q.2.1,q.2.2.1,q.2.2.2.1,q.2.2.2.2.1,q.2.2.2.2.2.1,q.2.2.2.2.2.2]:=by
 rcases l with _|⟨a,l⟩
 ·injection h
 ·exact ab (VU (rt h).2) (ab ((rt h).1) rfl)
noncomputable def WS:List bj:= ["x","L","R","mid","shift","upper","lower","n","a_digits"]
noncomputable def K9:List bj:= ["mid","shift","upper","lower","n","a_digits"]
noncomputable def kI(u:cQ):Ck:=⟨u.names,WS,aG 9,0⟩
noncomputable def QB:CE:=.cmp .Eq (.f .Add (.a 1) (.d 1)) (.a 2)
noncomputable def g4(u:cQ)(b:List bC):Bool:=bD (l2 b) λa=>ka (kI u) (.J (.a 8) (.a 1) (.a 0)) a.1&&VK a.2
noncomputable def Y2:CE:=.f .RShift (.f .Add (.a 1) (.a 2)) (.d 1)
noncomputable def Y3:CE:=.f .Mult (.f .Sub (.a 3) (.a 1)) (.a 7)
noncomputable def Y4:CE:=.f .RShift (.a 0) (.a 4)
noncomputable def Y5:CE:=.f .BitXor (.a 0) (.f .LShift (.a 5) (.a 4))
noncomputable def Vc(u:cQ)(i1 i B E A V C:bC):Bool:=
 VN (kI u) QB (g4 u) i1&&(ka (kI u) (.cI (.bX 3) Y2) i&&(ka (kI u) (.cI (.bX 4) Y3) B&&(ka (kI u) (.cI (.bX 5) Y4) E&&(ka (kI u) (.cI (.bX 6) Y5) A&&
  (isIn (kI u) [.a 6,.a 1,.a 3] V&&isIn (kI u) [.a 5,.a 3,.a 2] C)))))
noncomputable def T1(ps:cZ)(names loc free:List bj)(u:cQ):Bool:=YI ps names u&&((loc.all λx=>u.names.lookup x==some .local)&&(free.all λx=>u.names.lookup x==some .free))
theorem jS{ps:cZ}{names loc free:List bj}{u:cQ}(h:T1 ps names loc free u=true):HM ps names u/\∀x∈free,u.names.lookup x=some .free:=
 ⟨TZ (ba h).1,λx F=>eq_of_beq (aq.mp (ba (ba h).2).2 x F)⟩
noncomputable def zY(ps:cZ)(b:List bC)(u:cQ):Bool:=
 T1 ps ["x","L","R"] ["mid","shift","upper","lower"] ["n","a_digits","inner"] u&&bD (l7 b) λq=>Vc u q.1 q.2.1 q.2.2.1 q.2.2.2.1 q.2.2.2.2.1 q.2.2.2.2.2.1 q.2.2.2.2.2.2
theorem P1{a:Int}(L:0<=a)(n:Nat):YM a (a.fdiv (2^n)*2^n)=a.fmod (2^n):=by
 refine aI (dW L) λm o1=>?_;subst o1;have B:((2:Int)^n)=((2^n:Nat):Int):=by push_cast;rfl
 refine ab B (ab (bN _ (aX _)) (ab (bA _ (aX _)) (ab (bitXor_and ..) ?_)));simp only[<-Int.natCast_ediv,<-MS,<-pg,bitAnd_pp (aX _) (aX _)];have e:m&&&(m/2^n*2^n)=m/2^n*2^n:=by
  apply Fi;refineλi=>ab (Qf ..) (ab (BH ..) (ab (Nat.testBit_div_two_pow ..) ?_));by_cases h:n<=i
  ·refine ab (show i-n+n=i by exact Nat.sub_add_cancel h) ?_;simp[h]
  ·simp[h]
 refine ab e ?_;have:=wz m (2^n);lia
def kQ(h:bk)(a:az)(zs:List Int):Prop:=∃M,cL "list" h a M/\ft (λz=>False) [] h M (zs.map .int)
theorem S0{zs:List Int}:∀a∈zs.map AV.int,∃i,a=.int i:=λa h=>aC (dZ.mp h) λi z r=>cA r<|⟨i,rfl⟩
theorem nV{W W':az->Prop}{ρ ρ':List az}{h h':bk}{zs:List Int}{M:List aw}(x:ft W ρ h M (zs.map .int)):ft W' ρ' h' M (zs.map .int):=(vr S0 x).1
theorem ints_set{zs:List Int}{i:Nat}{z:Int}:(zs.set i z).map AV.int=(zs.map AV.int).set i (.int z):=UL
section
variable{h₀:bk}{cfg:dC}{C:fE h₀ cfg}{k:Nat}
variable{A:cP}{E:aw->ao->Prop}{s s' s₀ s₁:ao}{W W0:az->Prop}{ρ:List az}{st:St}{n0:Nat}{K:Ck}{env:fZ}{loc loc':Loc}{av:AV}
structure FnI (T:az) (ps:cZ) (b:List bC) (sc:cQ) (cl:List (bj×az)) (h:bk) (f:az):Prop where
 fn:∃c' ctv doc pm,h.get? f=some {cls:=.type "function",data:=.func (fnX "inner" (rE T) ps b sc cl .none .none doc pm none (.ref c') ctv)}/\h.CodeRec (.ref c') (rE T)
 FR:U2 sc cl h
 ci:∃c,cl.lookup ("inner":bj)=some c/\h.IsCell c (some (.ref f))
variable{T f aD:az}{ps:cZ}{b:List bC}{sc:cQ}{cl:List (bj×az)}{h h':bk}{n:Int}{zs:List Int}
theorem pG{M:List aw}{v:Option aw}(x:cL "list" h aD M)(y:h.IsCell aD v):False:=by refine aI x λm e=>aC y λo e2 c=>?_;rw[e]at e2;injection e2 with S;subst S;injection c
theorem FnI.by(x:FnI T ps b sc cl h f){X:az->Prop}(k:cD X h h')(P:∀p,X p->∃M,cL "list" h p M):FnI T ps b sc cl h' f where
 fn:=by refine oR x.fn λt r j w J U=>⟨t,r,j,w,k.nt (λq=>?_) J (nO rfl),k.code U⟩;refine ej (P _ q) λM m e=>?_;rw[J]at e;simp at e
 FR:=⟨x.FR.cB,λy c V=>aI (x.FR.cells y c V) λv D=>⟨v,k.cell (λq=>aI (P _ q) λM e=>pG e D) D⟩,x.FR.apart⟩
 ci:=aC x.ci λc J U=>⟨c,J,k.cell (λq=>aI (P _ q) λM e=>pG e U) U⟩
structure Fv (ps:cZ) (b:List bC) (sc:cQ) (cl:List (bj×az)) (n:Int) (aD:az) (h:bk) (f:az):Prop extends FnI PD ps b sc cl h f where
 cn:∃c t,cl.lookup ("n":bj)=some c/\h.IsCell c (some (.int n t))
 ca:∃c,cl.lookup ("a_digits":bj)=some c/\h.IsCell c (some (.ref aD))
theorem Fv.by(x:Fv ps b sc cl n aD h f){X:az->Prop}(k:cD X h h')(P:∀p,X p->∃M,cL "list" h p M):Fv ps b sc cl n aD h' f where
 toFnI:=x.toFnI.by k P
 cn:=eb x.cn λc t J U=>⟨c,t,J,k.cell (λq=>aI (P _ q) λM e=>pG e U) U⟩
 ca:=aC x.ca λc J U=>⟨c,J,k.cell (λq=>aI (P _ q) λM e=>pG e U) U⟩
def wL(aD:az)(s:ao)(zs:List Int):aw->ao->Prop:=λz s'=>By (·=aD) (λz=>False) s s'/\kQ s'.heap aD zs
noncomputable def AP(x y z n:Int):Loc:= [.int x,.int y,.int z]++ [.c,.c,.c,.c,.int n,.ref 0]
theorem QC(V:zY ps b sc=true)(hA:i7 (k+1) A)(O:bO h₀ s.heap)(v:Fv ps b sc cl n aD s.heap f)(o:kQ s.heap aD zs){x y z:Int}{r d M:nZ}{Q:aw->ao->Prop}(C:fE h₀ cfg)
 (h:∀env H s₁,bZ env (kI sc) 0->EI h₀ WS (aG 9) env (λp=>p=aD\/p=env.locals) [aD] 0 (AP x y z n) [some (zs.map .int)] s₁->i7 k H->gK s s₁->iu s.heap s₁.heap->s.heap.get? env.locals=none->
   env.kindOf "inner"=some .free->env.cells=cl->∀g R,(∀s',Q .none s'->R .next s'/\R (.ret .none) s')->aM (aL C.prog C.w) H (fw b env) R g s₁):
 aM (aL C.prog C.w) A (call (.ref f) [.int x r,.int y d,.int z M]) Q E s:=by
 refine ew λY=>aN (jS (ba V).1) λG P=>oR v.fn λt ctv j pm J U=>Y ?_;clear Y;refine Jp G J U rfl hA O λenv s₁ e1 e2 c e4 S D w F I hn _ g=>ew λY=>aC o λus X hu2=>eb v.cn λcn tn u n2=>aC v.ca λca a1 a2=>Y ?_;clear Y;have Z:=An (h₀:=h₀) (W:=λp=>p=aD) (ρ:= [aD]) (st:= [some (zs.map .int)]) (names:= ["x","L","R"]) (rest:=K9) (acc:=aG 9) (avs:= [.int x,.int y,.int z]) (ras:= [.c,.c,.c,.c,.int n,.ref 0])
  (vs:= [.int x r,.int y d,.int z M]) G (by decide+kernel) O (λp B=>ab B<|aI X λm e=>⟨_,e⟩) (λm l e=>by
    rcases m with _|m
    ·simp at e;subst e;exact⟨aD,us,rfl,X,nV hu2⟩
    ·injection e) (λm l a e1 e2=>by
    rcases m with _|m
    ·simp at e2;exact e2.symm
    ·injection e1) (.cons (.int _ _) (.cons (.int _ _) (.cons (.int _ _) .nil))) rfl v.FR (λi x a F L N=>by
    match i,F,L with
    |0,_,L=>simp at L;exact absurd L.symm N
    |1,_,L=>simp at L;exact absurd L.symm N
    |2,_,L=>simp at L;exact absurd L.symm N
    |3,_,L=>simp at L;exact absurd L.symm N
    |4,F,L=>
     simp[K9]at F L;subst F L;exact⟨cn,_,P _ (dQ rfl),u,n2,.int _ _⟩
    |5,F,L=>
     simp[K9]at F L;subst F L;exact⟨ca,_,P _ (by simp),a1,a2,.ref rfl⟩
    |i+6,F,L=>injection F)
  e1 e2 c e4 S D F I hn
 exact h env _ s₁ Z.1 Z.2 w F I (ab D<|cO _) (ab (e2 ..)<|P _ (by simp)) e1 g _ λ_ q=>⟨q,q⟩
end
section
variable{h₀:bk}{cfg:dC}{C:fE h₀ cfg}{k:Nat}
variable{A:cP}{E:aw->ao->Prop}{s s' s₀ s₁:ao}{W W0:az->Prop}{ρ:List az}{st:St}{n0:Nat}{K:Ck}{env:fZ}{loc loc':Loc}{av:AV}
variable{T f aD:az}{ps:cZ}{b:List bC}{sc:cQ}{cl:List (bj×az)}{h h':bk}{n:Int}{zs:List Int}
theorem QH{l:List CE}{xs:List Expr}{avs:List AV}{R H:eO}{o:hC}{fd:xT}{Q:aw->ao->Prop}(X:∀e∈l,bU C k e)(hE:bZ env K n0)(hA:i7 k A)(I:EI h₀ K.tab K.acc env W ρ n0 loc st s)
 (Y:iq env s.heap "inner" (.ref f))(P:s.heap.get? f=some o)(B:o.data=.func fd)(M:sq cfg st l loc=some avs)(V:fV K 0 l xs=true)(L:xs≠ [])
 (h:∀vs s₁,n0<=s₁.toks->gK s s₁->ft W ρ s₁.heap vs avs->aM (aL C.prog C.w) A (call (.ref f) vs) Q E s₁):
 aM (aL C.prog C.w) A (fe (.Call (.Name "inner" R) xs [] H) env) Q E s:=by
 refine dE (vI hE Y (by decide+kernel) ?_ (by decide+kernel));refine kE (o:=o) (fd:=fd) (lB (kc V) L ?_);exact gW l X _ _ _ _ _ _ _ _ _ _ _ _ _ _ hE hA I M V λvs s₁ F y d=>⟨⟨y.keep.nt P (nO B),B⟩,h vs s₁ F y d⟩
theorem OV(hE:bZ env K 0)(G:∀p∈K.names,p.2≠.cell)(x:bj)(F:K.names.lookup x=some .local\/K.names.lookup x=some .cell):∃ad,mi env x ad/\ad=env.locals:=by
 refine ak F (λF=>?_) λF=>?_
 ·exact⟨env.locals,.inl ⟨by show env.scope.names.lookup x=_;exact ab hE.names<|F,rfl⟩,rfl⟩
 ·exact absurd rfl (G _ (mem_of_lookup F))
theorem Et{h₀:bk}{p:az}(O:bO h₀ s.heap)(u:s.heap.get? p=none):h₀.get? p=none:=by
 rcases e:h₀.get? p with _|o
 ·rfl
 ·refine aC (O _ _ e) λR J z=>?_;rw[u]at J;injection J
theorem RR{K:Ck}{op:cV}{a b:CE}{v:Expr}(h:cz K 0 (.f op a b) v=true):iF v=false:=by refine Ef h λl o r pos o1=>ab o1 ?_;rfl
theorem DY{K:Ck}{m:Nat}{e:CE}{l:List CE}{xs:List Expr}(h:fV K m (e::l) xs=true):xs≠ []:=λq=>by
 rw[q]at h;exact aB h
theorem YK{h:bk}{vs:List aw}{a b:Int}(x:ft W ρ h vs [.int a,.int b]){I:Prop}(N:∀D G,vs= [.int a D,.int b G]->I):I:=x.mo λv F e V y=>y.mo λR L B H z=>V.dK λD f=>H.dK λG o=>N D G (ab e (ab B (ab f (ab o (ab z.sI rfl)))))
theorem Zw{h:bk}{vs:List aw}{a b c:Int}(x:ft W ρ h vs [.int a,.int b,.int c]){I:Prop}(N:∀D G H,vs= [.int a D,.int b G,.int c H]->I):I:=x.mo λv F e V y=>V.dK λD f=>YK y λG H B=>N D G H (ab e (ab f (ab B rfl)))
theorem QV{xs:List bC}{R:kO->ao->Prop}(h:∀Q:kO->ao->Prop,(∀f s',R f s'->Q f s')->aM (aL C.prog C.w) A (fw xs env) Q E s):aM (aL C.prog C.w) A (fw xs env) R E s:=h R λz z x=>x
structure IX (C:fE h₀ cfg) (k:Nat) (A:cP) (env:fZ) (K:Ck) (W:az->Prop) (ρ:List az) (st:St):Prop where
 H:Hand C k
 hE:bZ env K 0
 hA:i7 k A
 hW:W env.locals
 nc:∀p∈K.names,p.2≠.cell
 ob:h₀.get? env.locals=none
 or:∀(m:Nat) (l:List AV) (p:az),st[m]? =some (some l)->ρ[m]? =some p->¬p=env.locals
variable{Q:kO->ao->Prop}{x:bC}{xs:List bC}
theorem IX.cI(X:IX C k A env K W ρ st)(I:EI h₀ K.tab K.acc env W ρ 0 loc st s){op:cV}{a b:CE}{i:Nat}(V:ka K (.cI (.bX i) (.f op a b)) x=true)(M:ev cfg st (.f op a b) loc=some av)(hi:i<loc.length)
 (h:∀s',EI h₀ K.tab K.acc env W ρ 0 (loc.set i av) st s'->By (·=env.locals) (λz=>False) s s'->aM (aL C.prog C.w) A (fw xs env) Q E s'):aM (aL C.prog C.w) A (fw (x::xs) env) Q E s:=
 cS (aA (VH (own:=(·=env.locals)) (sv X.H _).1 X.hE X.hA I (λz q=>q▸X.hW) (OV X.hE X.nc) (λz q=>q) X.ob X.or M hi V λz=>RR) (λL s' q=>ab q.1<|h s' q.2.1 q.2.2) λz z e=>e)
theorem CQ(H:Hand C k)(hE:bZ env K 0)(hA:i7 k A)(I:EI h₀ K.tab K.acc env W ρ 0 loc st s){c:CE}{G:List bC->Bool}(F:VN K c G x=true)(S:xI c=true)(M:ev cfg st c loc=some av)(O:cU st av=some false)
 (h:∀s',EI h₀ K.tab K.acc env W ρ 0 loc st s'->gK s s'->aM (aL C.prog C.w) A (fw xs env) Q E s'):aM (aL C.prog C.w) A (fw (x::xs) env) Q E s:=by
 refine ew λY=>aU F λD J U=>?_;rcases D with⟨t,b,o⟩;refine CL J λp e=>Y ?_;clear Y;exact ab e<|ab (show o= []from dx.mp (ba U).1)<|cS (YX (aA ((sv H c).2.1 _ _ _ _ _ false _ _ _ _ _ _ _ hE hA I M O S (ba (ba U).2).1) (λr B q=>ab q.1<|kq (h B (I.ext q.2.2 q.2.1) q.2.2)) λz z e=>e))
theorem CR(H:Hand C k)(hE:bZ env K 0)(hA:i7 k A)(I:EI h₀ K.tab K.acc env W ρ 0 loc st s){c:CE}{G:List bC->Bool}(F:VN K c G x=true)(S:xI c=true)(M:ev cfg st c loc=some av)(O:cU st av=some true)
 (h:∀b s' R,G b=true->EI h₀ K.tab K.acc env W ρ 0 loc st s'->gK s s'->(∀v l,Q (.ret v) l->R (.ret v) l)->(∀l,aM (aL C.prog C.w) A (fw xs env) Q E l->R .next l)->aM (aL C.prog C.w) A (fw b env) R E s'):aM (aL C.prog C.w) A (fw (x::xs) env) Q E s:=by
 refine ew λY=>aU F λj J U=>?_;rcases j with⟨t,b,o⟩;refine CL J λp e=>Y ?_;clear Y;exact ab e<|cS (YX (aA ((sv H c).2.1 _ _ _ _ _ true _ _ _ _ _ _ _ hE hA I M O S (ba (ba U).2).1) (λr B q=>ab q.1<|h b B _ (ba (ba U).2).2 (I.ext q.2.2 q.2.1) q.2.2 (λz z q=>q) λz q=>q) λz z e=>e))
theorem CP(H:Hand C k)(hE:bZ env K 0)(hA:i7 k A)(I:EI h₀ K.tab K.acc env W ρ 0 loc st s){y c d:CE}{i j m:Int}(F:FnI T ps b sc cl s.heap f)(U:iq env s.heap "inner" (.ref f))(X:isIn K [y,c,d] x=true)
 (M:sq cfg st [y,c,d] loc=some [.int i,.int j,.int m])
 (h:∀O B J s₁,EI h₀ K.tab K.acc env W ρ 0 loc st s₁->gK s s₁->aM (aL C.prog C.w) A (call (.ref f) [.int i O,.int j B,.int m J]) (λz s'=>aM (aL C.prog C.w) A (fw xs env) Q E s') E s₁):aM (aL C.prog C.w) A (fw (x::xs) env) Q E s:=by
 refine ew λY=>SO X λp q r D e V=>oR F.fn λt R S w G L=>Y ?_;clear Y;refine ab e<|cS (Ft (QH (UD H _) hE hA I U G rfl M V (DY V) λvs s₁ N y P=>?_) (by delta tV;refine ab hE.kind ?_;rfl) rfl);exact Zw P λO B J e=>ab e<|h O B J s₁ (I.ext y N) y
end
section
variable{h₀:bk}{cfg:dC}{C:fE h₀ cfg}{k:Nat}
variable{A:cP}{E:aw->ao->Prop}{s s' s₀ s₁:ao}{W W0:az->Prop}{ρ:List az}{st:St}{n0:Nat}{K:Ck}{env:fZ}{loc loc':Loc}{av:AV}
variable{T f aD:az}{ps:cZ}{b:List bC}{sc:cQ}{cl:List (bj×az)}{h h':bk}{n:Int}{zs:List Int}
theorem KX{M:List aw}(F:eo env h)(G:cL "list" h aD M){I:Prop}(N:aD≠env.locals->(∀x,(x,aD)∉env.cells)->I):I:=by
 refine aI G λm e=>N (λq=>?_) (λx B=>?_)
 ·refine oS F.ns λO o es Q J U z=>?_;rw[<-q,e]at J;injection J with S;subst S;injection U
 ·refine eb (F.cells x _ B) λv o J U=>?_;rw[e]at J;injection J with S;subst S;injection U
theorem IX.YD(H:Hand C k)(hE:bZ env (kI sc) 0)(hA:i7 k A)(G:HM ps ["x","L","R"] sc)(O:bO h₀ s.heap)(o:kQ s.heap aD zs)(u:s.heap.get? env.locals=none):IX C k A env (kI sc) (λp=>p=aD\/p=env.locals) [aD] [some (zs.map .int)]:=
 ⟨H,hE,hA,.inr rfl,G.yT,Et O u,λm l p e1 e2 q=>by
  refine aC o λM o1 z=>aI o1 λj e=>?_;rcases m with _|m
  ·have e2:some aD=some p:=e2;injection e2 with S;subst S;simp only[q,u]at e;injection e
  ·injection e1⟩
theorem QL{q:Nat}{i:Int}(h:loc[q]? =some (.int i)):ev cfg st (.a q) loc=some (.int i):=by show(match loc[q]? with|none=>none|some .c=>none|some v=>some v)=_;exact ab h rfl
theorem Vu{q:Nat}{i:Nat}(h:loc[q]? =some (.ref i)):ev cfg st (.a q) loc=some (.ref i):=by show(match loc[q]? with|none=>none|some .c=>none|some v=>some v)=_;exact ab h rfl
theorem G1(X:IX C k A env K W [aD] [some (zs.map .int)])(I:EI h₀ K.tab K.acc env W [aD] 0 loc [some (zs.map .int)] s){i j m:Nat}{x y:Int}{d:bC}{xs:List bC}{Q:kO->ao->Prop}(V:ka K (.J (.a i) (.a j) (.a m)) d=true)
 (J:loc[m]? =some (.int x))(U:loc[i]? =some (.ref 0))(Z:loc[j]? =some (.int y))(hy:0<=y)(hyl:y<zs.length)(hcap:zs.length<=10000)
 (h:∀s',wL aD s (zs.set y.toNat x) .none s'->aM (aL C.prog C.w) A (fw xs env) Q E s'):aM (aL C.prog C.w) A (fw (d::xs) env) Q E s:=by
 refine vA V λy' z' q' v' L e a=>?_;have c4:=ba (ba a).1;have c:=ba c4.1;have P:=ba c.1;refine ab e<|cS (M8 (cu ((sv X.H (.a m)).1 _ _ _ _ (.int x) _ _ _ _ _ _ _ X.hE X.hA I (QL J) c4.2) λu s₃ F=>?_) (vR (t:=some _) rfl (by simpa using(ba a).2)));have l:=I.step F;refine cu ((sv X.H (.a i)).1 _ _ _ _ (.ref 0) _ _ _ _ _ _ _ X.hE X.hA l (Vu U) P.1) λv s₄ G=>cu ((sv X.H (.a j)).1 _ _ _ _ (.int y) _ _ _ _ _ _ _ X.hE X.hA (l.step G) (QL Z) P.2) λiv H R=>?_;have D:=(l.step G).step R;refine ew λY=>cX (D.store 0 _ rfl) λad us g1 r g3=>aI r λq w=>?_;injection g1 with S;subst S;refine Y ?_;clear Y;have M:v=.ref aD:=by
  have:=G.2.2;rcases this with _|_|_|_|_|_|g
  ·injection g with S;subst S;rfl
 refine R.2.2.dK λO hi=>ab M<|ab hi<|ki_setAt w hy (by lia) (by simp;exact lt_of_lt_of_eq hyl (congrArg Nat.cast (id (dN (ab g3.length (ab (aY ..) rfl)))))) (h _ ⟨(By.jQ ((F.2.1.trans G.2.1).trans R.2.1)).trans (.of (tk:=H.toks) (λp o B e=>(fN ..).extBut p o B e) λp o B e=>?_),us.set y.toNat u,⟨q,by simpa using wx w (·.setIfInBounds y.toNat u)⟩,?_⟩)
 ·have B:p=aD:=B;simp only[B,w]at e;injection e with S;subst S;exact yQ rfl
 ·exact ab ints_set<|F.2.2.dK λtu N=>ab N<|ft.set (nV g3) (.int _ _)
theorem FnI.inner(x:FnI T ps b sc cl h f)(I:env.kindOf "inner"=some .free)(V:env.cells=cl):iq env h "inner" (.ref f):=aC x.ci λc J U=>.inr ⟨.inr I,c,ab V<|J,U⟩
theorem Kp(H:Hand C k)(V:zY ps b sc=true)(hA:i7 (k+1) A)(O:bO h₀ s.heap)(v:Fv ps b sc cl n aD s.heap f)(o:kQ s.heap aD zs){x y:Int}{r d M:nZ}(Y:0<=y)(G:y<zs.length)(S:zs.length<=10000):
 aM (aL C.prog C.w) A (call (.ref f) [.int x r,.int y d,.int (y+1) M]) (wL aD s (zs.set y.toNat x)) E s:=by
 refine QC V hA O v o C λenv l s₁ hE I w F m u z z g R N=>aU (ba V).2 λq J B=>ab (QX J) ?_;have X:=IX.YD H hE w (jS (ba V).1).1 O o u;exact CR X.H X.hE X.hA I (ba B).1 rfl (av:=.bool true) (by simp[QB,(id fD),AP,(id cw),binI,(id cb),(id jJ)]) rfl λb L Z D Q i j z=>aU D λa U D=>ab (my U)<|G1 X Q (ba D).1 rfl rfl rfl Y G S λc P=>SW (ba D).2 λp e=>ab e<|cS (wpAny_Return_none (j _ _ (N _ ⟨(By.jQ (F.trans i)).trans P.1,P.2⟩).2))
theorem EI.Ts{tab:List bj}{acc:List Nat}(I:EI h₀ tab acc env W ρ 0 loc st s)(y:By (·=aD) (λz=>False) s s'){S O:List aw}(G:cL "list" s.heap aD S)(P:cL "list" s'.heap aD O)(Z:h₀.get? aD=none)(hW:W aD):
 EI h₀ tab acc env W ρ 0 loc [] s':=by
 refine KX I.frame G λu n2=>⟨cD.after I.base y.keep λp o e q=>?_,λp B=>?_,bz _,λi hi x F a L N=>?_,λn l e=>by injection e,I.frame.by λp o B e Q=>y.keep.nt (λq=>?_) e Q,λn l a e=>by injection e⟩
 ·have q:p=aD:=q;rw[q,Z]at e;injection e
 ·by_cases q:p=aD
  ·rw[q];exact aI P λm e=>⟨_,e⟩
  ·exact aI (I.live p B) λo M=>aC (y.keep p o (.inl q) M) λR J z=>⟨R,J⟩
 ·refine aC (I.vars i hi x F a L N) λv J U=>⟨v,?_,U.move (λz q=>.inl q) (y7 y.keep λp (q:p=aD)=>q▸hW) λz z e=>e⟩;rcases J with⟨D,m,j,t⟩|⟨D,c,j,t⟩
  ·exact .inl ⟨D,m,y.keep.ns (λq=>u (dN q)) j,t⟩
  ·exact .inr ⟨D,c,j,y.keep.cell (λ(q:c=aD)=>n2 x (q▸mem_of_lookup j)) t⟩
 ·have q:p=aD:=q;refine ak B (λB=>?_) λH=>aI H λx F=>?_
  ·exact u (q▸B)
  ·exact n2 x (q▸F)
theorem ints2{zs:List Int}(h:zs.length=2)(x y:Int):(zs.set 0 x).set 1 y= [x,y]:=OE h λa b e=>by subst e;rfl
theorem Fv.ext(x:Fv ps b sc cl n aD h f)(k:bO h h'):Fv ps b sc cl n aD h' f:=x.by (X:=λz=>False) (cD.ext k) λp q=>q.elim
theorem Fv.post{v:aw}(x:Fv ps b sc cl n aD s.heap f)(o:kQ s.heap aD zs){B:List Int}(P:wL aD s B v s'):Fv ps b sc cl n aD s'.heap f:=x.by P.1.keep λp (q:p=aD)=>aC o λM J z=>⟨M,q▸J⟩
theorem kQ.keep{zs:List Int}(x:kQ h aD zs)(k:bO h h'):kQ h' aD zs:=aC x λM J U=>⟨M,k.seq J,nV U⟩
theorem Ts(I:EI h₀ K.tab K.acc env W ρ 0 loc st s){v:aw}{B:List Int}(o:kQ s.heap aD zs)(P:wL aD s B v s')(Z:h₀.get? aD=none)(hW:W aD):EI h₀ K.tab K.acc env W ρ 0 loc [] s':=aC o λD V z=>aC P.2 λF m z=>I.Ts P.1 V m Z hW
theorem Wi(H:∀k,Hand C k)(V:zY ps b sc=true)(hA:i7 (k+2) A)(O:bO h₀ s.heap)(v:Fv ps b sc cl n aD s.heap f)(o:kQ s.heap aD zs)(hD:h₀.get? aD=none)(U:zs.length=2){a:Int}{r ty tz:nZ}(L:0<=a)(hn:0<n)(hn2:n<=100000)
 (d:(ag a:Int)<=2*n):aM (aL C.prog C.w) A (call (.ref f) [.int a r,.int 0 ty,.int 2 tz]) (wL aD s [a.fmod (2^n.toNat),a.fdiv (2^n.toNat)]) E s:=by
 have G:n.natAbs<2^63:=by lia
 have hbb:(ag (a.fdiv (2^n.toNat)):Int)+n<=134217728:=by have:=Yd (x:=a) (y:=2^n.toNat) (m:=(2*n).toNat) (by lia);lia
 have D:=aF hn;have R:=ints2 U (a.fmod (2^n.toNat)) (a.fdiv (2^n.toNat));refine QC V hA O v o C λenv A' s₁ hE I w F hk u Y Z g Q' N=>aU (ba V).2 λq J B=>ab (QX J) ?_;have X:=IX.YD (H (k+1)) hE w (jS (ba V).1).1 O o u;have B1:=ba (ba B).2;have B3:=ba (ba B1.2).2;have B5:=ba (ba B3.2).2;refine CQ X.H X.hE X.hA I (ba B).1 rfl (av:=.bool false) (by rfl) rfl λs₂ Q e₂=>X.cI Q B1.1 (av:=.int 1) (by rfl) (place_lt rfl) λs₃ l y3=>X.cI l (ba B1.2).1 (av:=.int n) (by simp[(id fD),AP,(id cw),binI,G]) (by simp[AP]) λS I4' y4=>X.cI I4' B3.1 (av:=.int (a.fdiv (2^n.toNat))) (by simp[(id fD),AP,(id cw),binI,D]) (by simp[AP]) λs₅ I5 y5=>X.cI I5 (ba B3.2).1 (av:=.int (a.fmod (2^n.toNat))) (by simp[(id fD),AP,(id cw),binI,D,hbb,P1 L]) (by simp[AP]) λt I6 y6=>?_;have X6:gK s t:=gK.RT (F.trans e₂) (((y3.trans y4).trans y5).trans y6) λp q=>ab q<|u;have F6:=v.ext X6.keep;refine CP X.H X.hE X.hA I6 F6.toFnI (F6.inner Y Z) B5.1 (i:=a.fmod (2^n.toNat)) (j:=0) (m:=1) (by rfl) λt1 t2 t3 s₇ I7 P=>?_;have F7:=F6.ext P.keep;have Z7:=(o.keep X6.keep).keep P.keep;refine aA (Kp (y:=0) (H k) V w I7.base F7 Z7 (MA 0) (by lia) (by lia)) (λz s₈ P8=>?_) λz z e=>e;refine CP X.H X.hE X.hA (Ts I7 Z7 P8 hD (.inl rfl)) (F7.post Z7 P8).toFnI ((F7.post Z7 P8).inner Y Z) B5.2 (i:=a.fdiv (2^n.toNat)) (j:=1) (m:=2) (by rfl) λt1 t2 t3 s₉ I9 M=>aA (Kp (y:=1) (H k) V w I9.base ((F7.post Z7 P8).ext M.keep) (P8.2.keep M.keep) (Rt) (by simp;lia) (by simp;lia)) (λz c P10=>?_) λz z e=>e;exact kq (N _ ⟨(((By.jQ (X6.trans P)).trans P8.1).trans (By.jQ M)).trans P10.1,R▸P10.2⟩).1
noncomputable def Q4(ps:cZ):Bool:=ps.args.all λa=>a.annotation.isNone
theorem CW{env:fZ}:∀{l:List Arg},(l.all λa=>a.annotation.isNone)=true->annotationsOf l env= []:=by
 intro l h
 induction l with
 |nil=>rfl
 |cons q r R=>
  rcases q with⟨x,a,p⟩;rcases a with _|a
  ·exact R (ba h).2
  ·exact(aB h).elim
theorem KN{ps:cZ}{names:List bj}{sc:cQ}{env:fZ}(G:HM ps names sc)(h:Q4 ps=true):YR ps none env= []:=by
 obtain⟨L,a,M,N,H,B,O⟩:=ps;have J:L= []:=G.c7;have U:M=none:=G.c8;have Z:N= []:=G.c9;have d:B=none:=G.RV;clear G;subst J U Z d;delta YR;have e:evalOpt none env=none:=by rfl
 simp[e,CW (env:=env) h]
def RK(C:fE h₀ cfg)(f:Nat)(P:az):Prop:=∀d a o fd,nG f=some d->C.mg d.name=some (.ref a)->h₀.get? a=some o->o.data=.func fd->∃c,fd.code=.ref c/\HO h₀ c P/\h₀.get? P=some (sg #[])
noncomputable def vJ(N:List (bj×dz))(ps:cZ)(sc:cQ)(pos:eO)(D:Nat):Bool:=
 Q4 ps&&pos.line==D&&pos.col==4&&(sc.names.all λp=>p.2 !=.free||N.lookup p.1==some .cell)&&N.lookup ("inner":bj)==some .cell
theorem Ab{L:List bj}(G:HM ps L sc)(Z:∀n,(n,dq)∈sc.names->∃c,env.cells.lookup n=some c){x:bj}(F:sc.names.lookup x=some .free){c:az}(V:env.cells.lookup x=some c):(n8 env sc.names []).lookup x=some c:=by
 refine aI (yp (env:=env) (acc:= []) (.inl (mem_of_lookup F))) λt R=>aI (hK R) λJ D=>ak (ug Z (mem_of_lookup D)) (λh=>?_) λH=>aN H λz h=>?_
 ·rcases h with⟨⟩
 ·rw[V]at h;injection h with S;exact ab S<|D
theorem OL{names:List bj}{pos:eO}{c P:az}(R:Rp h₀ K env n0 W0 s₀ loc st W ρ s)(hE:bZ env K n0)(G:HM ps names sc)(hi:sc.names.lookup ("inner":bj)=some .free)(Q:vJ K.names ps sc pos (Gu P)=true)
 (p:env.code=.ref c)(V:HO h₀ c P)(m:h₀.get? P=some (sg #[]))(l:Tb P)(D:env.qual++"inner"=rE P)(B:Bm C)(y:∀(i:Nat) (x:bj),K.tab[i]? =some x->x≠("inner":bj)):
 aM (aL C.prog C.w) A (sf (.FunctionDef "inner" ps b [] none [] sc none "inner" pos) env) (λL s'=>L=.next/\∃f,Rp h₀ K env n0 W0 s₀ loc st W ρ s'/\iq env s'.heap "inner" (.ref f)/\FnI P ps b sc (n8 env sc.names []) s'.heap f) E s:=by
 delta vJ at Q;simp only[au,beq_iff_eq,aq,fy,bne_iff_ne,ne_eq]at Q;refine aN Q λo1 X=>aN o1 λH v=>aN H λg M=>aN g λu n2=>?_;have I:env.kindOf "inner"=some .cell:=by show env.scope.names.lookup _=_;exact ab hE.names<|X
 refine aI (hE.cB "inner" (.inl I)) λci O=>?_;have Z:∀n,(n,dq)∈sc.names->∃c,env.cells.lookup n=some c:=λx F=>by
  refine hE.cB x (.inl ?_);show env.scope.names.lookup _=_;exact ab hE.names<|(v _ F).resolve_left λq=>q rfl
 refine aA (KJ (ad:=ci) R hE G.d0 G.k0 (KN G u) p V m l n2 M ?_ B Z (.inr ⟨I,O⟩) (.inr ⟨_,mem_of_lookup O⟩) y) (λL s' q=>?_) λz z e=>e
 ·delta qualnameIn;exact ab I<|D
 ·refine ew λY=>?_;obtain⟨rfl,f,t,r,j,w,a,S',hh,_,o,N⟩:=q;refine Y ?_;clear Y;refine⟨rfl,f,a,hh,⟨t,r,j,w,o,N⟩,⟨λx F=>?_,λx c F=>?_,?_⟩,?_⟩
  ·exact aI (yp (env:=env) (acc:= []) (.inl (mem_of_lookup F))) λc d=>hK d
  ·refine ak (ug Z F) (λh=>?_) λH=>aN H λz h=>?_
   ·rcases h with⟨⟩
   ·exact a.ei.frame.cells x c (mem_of_lookup h)
  ·exact wW R.ei.frame.apart Z G.Zf tJ λn c h=>nomatch h
  ·refine⟨ci,Ab G Z hi O,?_⟩;rcases hh with⟨J,_⟩|⟨_,c,J,U⟩
   ·rw[I]at J;injection J with S;injection S
   ·rw[O]at J;injection J with S;exact ab S<|U
theorem NA{names:List bj}(R:Rp h₀ K env n0 W0 s₀ loc st W ρ s)(hE:bZ env K n0)(G:HM ps names sc){pos:eO}{D:Nat}(Q:vJ K.names ps sc pos D=true){i:Nat}{x:bj}{a:AV}(F:K.tab[i]? =some x)(hi:i∈K.acc)(L:loc[i]? =some a)(N:a≠.c)
 (P:sc.names.lookup x=some .free):∃c v,(n8 env sc.names []).lookup x=some c/\s.heap.IsCell c (some v)/\VR W ρ s.heap v a:=by
 delta vJ at Q;simp only[au,beq_iff_eq,aq,fy,bne_iff_ne,ne_eq]at Q;refine ew λY=>aN Q λr X=>aN r λH B=>aN H λV M=>aN V λu n2=>?_;have Z:∀n,(n,dq)∈sc.names->∃c,env.cells.lookup n=some c:=λx F=>by
  refine hE.cB x (.inl ?_);show env.scope.names.lookup _=_;exact ab hE.names<|(B _ F).resolve_left λq=>q rfl
 have I:env.kindOf x=some .cell:=by show env.scope.names.lookup _=_;exact ab hE.names<|(B _ (mem_of_lookup P)).resolve_left λq=>q rfl
 refine aC (R.ei.vars i hi x F a L N) λv J U=>Y ?_;clear Y;rcases J with⟨g,_⟩|⟨_,c,O,j⟩
 ·rw[I]at g;injection g with S;injection S
 ·exact⟨c,v,Ab G Z P O,j,U⟩
theorem Kv{l:az}{vs:List aw}{x:Int}{u:nZ}{Q:aw->ao->Prop}(X:cL "list" s.heap l vs)(Y:0<=x)(D:x<2^20)(g:vs.length<=16)
 (h:Q (.ref s.heap.objs.size) {s with heap:=s.heap.push {cls:=.type "list",data:=.seq (bw x.toNat vs).flatten.toArray 0}}):aM (aL C.prog C.w) A (xX .Mult (.ref l) (.int x u)) Q E s:=by
 refine aI X λk M=>?_;clear X;have B:vs.toArray.size*x.toNat<=2^24:=by have:vs.toArray.size<=16:=g;exact aP (Nat.mul_le_mul this (show x.toNat<=2^20 by lia)) (by decide)
 refine wpAny_binaryOp_repeat_ref (T:="list") (U:="int") (by rfl) ⟨_,M,rfl⟩ (λs'=>UT s' x u) noFill_list_mul F.fills_int_mul F.slot_int_rmul repeat_list F.slot_int_index.lookup
  (call_meets F.slot_int_rmul (UT s x u) F.entry_int_rmul (F.args_int_rmul_2 _ _) (lm_int_rmul_list_any x u l vs.toArray k none #[])
    ⟨M,rfl,⟨_,M,rfl⟩,call_meets F.slot_list_mul ⟨_,M,rfl⟩ F.entry_list_mul (F.args_list_mul_2 _ _)
     (lm_list_mul_any l vs.toArray k none #[] x u (by simp[Builtin.List.listFitsIndex];lia) (by lia) (by simp[Builtin.List.listTooLong,mJ];omega))
     ⟨M,?_⟩⟩)
 exact ab (listMul_foldl_if ..)<|h
end
noncomputable def Kg(K:Ck)(i:Nat)(V:CE)(x:bC):Bool:=bD (lZ x) λq=>bD (l1 q.1) λg=>bD (rR q.2.1) λo=>bD (Mq o.1) λl=>o.2.1==.Mult&&(fg K (.bX i) g&&(fV K 0 [.d 0] l.1&&cz K 0 V o.2.2.1))
theorem Ot{K:Ck}{i:Nat}{V:CE}{x:bC}(h:Kg K i V x=true){I:Prop}(N:∀g xs e R H w,x=.Assign [g] (.BinOp (.List xs R) .Mult e H) w->fg K (.bX i) g=true->fV K 0 [.d 0] xs=true->cz K 0 V e=true->I):I:=by refine aU h λq J h=>aU h λg U h=>aU h λo Z h=>aU h λl d h=>?_;have O:=ba h;exact N _ _ _ _ _ _ (bp (jw J) (ab (gL U) (ab (nX Z) (ab (BA d) (ab (eq_of_beq O.1) rfl))))) (ba O.2).1 ((ba (ba O.2).2).1) ((ba (ba O.2).2).2)
noncomputable def CN(names:List (bj×dz))(T:az)(F:cZ->List bC->cQ->Bool)(x:bC):Bool:=bD (Vb x) λq=>vJ names q.1 q.2.2.1 q.2.2.2 (Gu T)&&F q.1 q.2.1 q.2.2.1
noncomputable def XO(K:Ck)(l:List CE)(b:List bC):Bool:=bD (l1 b) (isIn K l)
noncomputable def Yw:FD:=⟨3,2,[]⟩
noncomputable def Rj:List (List Nat):= [[97],[110],[97,95,100,105,103,105,116,115]]
noncomputable def Ta(d:iL):Ck:=⟨d.scope.names,Rj.map strOf,aG 3,0⟩
noncomputable def eD:CE:=.f .FloorDiv (.f .Sub (.f .Add (.qk (.a 0)) (.a 1)) (.d 1)) (.a 1)
noncomputable def B4(d:iL)(i B E A:bC):Bool:=
 Kg (Ta d) 2 eD i&&(CN d.scope.names PD zY B&&(VN (Ta d) (.a 0) (XO (Ta d) [.a 0,.d 0,.len (.a 2)]) E&&IW (Ta d) (.a 2) A))
noncomputable def Vm(d:iL):Bool:=
 (d.name=="_int2digits"&&(d.params.args.map (·.arg)==(Rj.take 2).map strOf))&&(TY Yw Rj d&&bD (l4 d.body) λq=>B4 d q.1 q.2.1 q.2.2.1 q.2.2.2)
theorem DW:(match nG 4 with|some d=>Vm d|none=>false)=true:=by decide+kernel
theorem Pz:∀(i:Nat) (x:bj),(Rj.map strOf)[i]? =some x->x≠("inner":bj):=by
 have h:∀x∈Rj.map strOf,x≠("inner":bj):=by decide+kernel
 exactλi x e=>h x (aW e)
theorem Cs{x n q:Int}(Q:0<n)(J:q*n<=x)(U:x< (q+1)*n):x/n=q:=
 lI (Int.le_of_lt_add_one (cR Q U)) (DA Q J)
set_option tactic.hygienic true in
theorem N5{a n:Int}{l:List AV}(h:MM a n=some l):0<=a/\0<n/\n<=100000/\∃zs:List Int,l=zs.map AV.int/\(((ag a:Int)+n-1).fdiv n)=(zs.length:Int)/\
 ((a=0/\zs= [])\/(a≠0/\zs= [a])\/(a≠0/\zs= [a.fmod (2^n.toNat),a.fdiv (2^n.toNat)]/\(ag a:Int)<=2*n)):=by
 delta MM at h;split at h
 ·injection h
 ·rename_i Y;have L:0<=a:=by lia
  have Q:0<n:=by lia
  refine⟨L,Q,by lia,?_⟩;refine ab (bN _ (aF Q)) ?_;have pos:a≠0->0<ag a:=λo=>by
   delta ag;have:(a==0)=false:=beq_int_false o;exact ab this<|Nat.succ_pos _
  split at h
  ·rename_i o;injection h with S;subst S;refine⟨[],rfl,?_,.inl ⟨o,rfl⟩⟩;subst o;refine Cs Q ?_ ?_
   ·simp[ag];exact iU Q
   ·simp[ag];exact Int.sub_lt_self n L
  ·rename_i o;have B:=pos o;clear pos;split at h
   ·rename_i O;injection h with S;subst S;refine⟨[a],rfl,?_,.inr (.inl ⟨o,rfl⟩)⟩;refine Cs Q ?_ ?_
    ·simp only[pN];lia
    ·simp only[pN];lia
   ·rename_i O;split at h
    ·rename_i H;injection h with S;subst S;refine⟨[a.fmod (2^n.toNat),a.fdiv (2^n.toNat)],rfl,?_,.inr (.inr ⟨o,rfl,H⟩)⟩;refine Cs Q ?_ ?_
     ·simp only[bu,gk];lia
     ·simp only[bu,gk];lia
    ·injection h
section
variable{h₀:bk}{cfg:dC}{C:fE h₀ cfg}{k:Nat}
variable{A:cP}{E:aw->ao->Prop}{s s' s₀ s₁:ao}{W W0:az->Prop}{ρ:List az}{st:St}{n0:Nat}{K:Ck}{env:fZ}{loc loc':Loc}{av:AV}
theorem K7{x:bC}{xs:List bC}{V:CE}{m:Int}{l2:Loc}{Q:kO->ao->Prop}(H:Hand C k)(hE:bZ env K n0)(hA:i7 k A)(R:Rp h₀ K env n0 W0 s₀ loc st W ρ s)(hx:Kg K 2 V x=true)
 (M:ev cfg st V loc=some (.int m))(h0:0<=m)(hm:m<2^20)(O:cT loc (.bX 2) (.ref st.length)=some l2)
 (h:∀D s',Rp h₀ K env n0 W0 s₀ l2 (st++ [some ((bw m.toNat 0).map AV.int)]) (λp=>(W p\/p∈ [D])\/False) (ρ++ [D]) s'->aM (aL C.prog C.w) A (fw xs env) Q E s'):
 aM (aL C.prog C.w) A (fw (x::xs) env) Q E s:=by
 refine ew λY=>Ot hx λg ys e p1 p2 w he P c2 c=>eb (ij P) λd xp o1 z=>?_;subst o1;refine Y ?_;clear Y;refine ab he<|cS<|gG (.inl ⟨_,_,rfl,rfl⟩) (BL ?_);refine aA (qz (es:= [.d 0]) (l:= [.int 0]) (UD H _) hE hA R.ei rfl (by show(decide (1<=1000)&&fV K 0 [.d 0] ys)=true;refine bp c2 ?_;rfl)) (λv s₁ q=>?_) λz z e=>e;refine ew λY=>?_;obtain⟨F,y,a,vs,rfl,L,G,r⟩:=q;refine Y ?_;clear Y;refine cu ((sv H V).1 _ _ _ _ _ _ _ _ _ _ _ _ hE hA (R.step y F).ei M c) λu T B=>?_;have n:=(R.step y F).step B.2.1 B.1;refine B.2.2.dK λo N=>ab N ?_;have hvl:vs.length=1:=r.length;refine Kv (B.2.1.keep.seq G) h0 hm (by lia) ?_;have e3:gK T {T with heap:=T.heap.push {cls:=.type "list",data:=.seq (bw m.toNat vs).flatten.toArray 0}}:=.of (s:=T) (tk:=T.toks) (bO.push _ _);refine n.KL e3 B.1 (as:= [T.heap.objs.size]) (ls:= [(bw m.toNat 0).map AV.int]) rfl (by simp) (by simpa using cO _) (X:=λz=>False) (λp h=>h.elim) (λj I l' J U=>by
  rcases j with _|j
  ·simp only[bo,bL]at J U;subst J U;refine⟨_,⟨0,bV _ rfl⟩,?_⟩;have Z:∀j:Nat,ft (λz=>False) [] s.heap (bw j vs).flatten ((bw j (0:Int)).map AV.int):=by
    intro j
    induction j with
    |zero=>exact .nil
    |succ j ih=>
     have:ft (λz=>False) [] s.heap vs [AV.int 0]:=nV (zs:= [0]) r;exact ft.append (l:= [AV.int 0]) this ih
   exact nV (Z _)
  ·injection J) λi z z=>?_
 exact fm (t:=.bX 2) (av:=.ref st.length) hA.hh hE i P O (.ref (by refine bp (bG (ab n.len<|aV _)) (ab n.len ?_);simp)) λS f b=>h _ S f
theorem G7{args:List AV}{av:AV}{P:Prop}(h:xy args=some av)(k:∀a n l,args= [.int a,.int n]->MM a n=some l->av=.lst l->P):P:=
 dn h λq J h=>dn h λa U h=>dn h λn Z h=>bW h λl d e=>k a n l (bp (my J) (ab (iE U) (ab (iE Z) rfl))) d e.symm
theorem VD{D:az}{zs B:List Int}{x:bC}{xs:List bC}{a n:Int}{d:iL}{Q:kO->ao->Prop}(hE:bZ env (Ta d) 0)(R:Rp h₀ (Ta d) env 0 W0 s₀ [.int a,.int n,.ref 0] [some (zs.map .int)] W [D] s)(F:IW (Ta d) (.a 2) x=true)(y:By (·=D) (λz=>False) s s')(o:kQ s'.heap D B)
 (N:∀v l,e9 W0 ρ s₀ (.lst (B.map .int)) v l->Q (.ret v) l):aM (aL C.prog C.w) A (fw (x::xs) env) Q E s':=by
 refine yI F λv p e F=>ab e<|cS (lk (aA ?_ N λz z e=>e));clear e;refine ew λY=>?_;refine qB F λnm pos o1=>?_;subst o1;have H:=ba (ba F).1;have I:=ba H.1;refine aC (R.ei.vars 2 (show 2∈aG 3 by decide) nm (eq_of_beq I.2) (.ref 0) rfl (λq=>nomatch q)) λv J U=>cX (R.ei.store 0 _ rfl) λG M f j t=>?_;injection f with S;subst S;have L:v=.ref D:=by
  rcases U with _|_|_|_|_|_|g
  ·injection g with S;subst S;rfl
 rw[L]at J;refine KX R.ei.frame j λT n2=>?_;refine Y ?_;clear Y;have u:s₀.heap.get? D=none:=R.new D (.inr ⟨0,_,rfl,rfl⟩);have hh:iq env s'.heap nm (.ref D):=by
  rcases J with⟨f,m,j,t⟩|⟨f,c,j,t⟩
  ·exact .inl ⟨f,m,y.keep.ns (λq=>T (dN q)) j,t⟩
  ·exact .inr ⟨f,c,j,y.keep.cell (λ(q:c=D)=>n2 nm (q▸mem_of_lookup j)) t⟩
 exact aC o λO P r=>vI hE hh (by simpa using H.2) ⟨gK.RT R.ext y λp (q:p=D)=>q▸u,.lst (R.l0.fresh u) P (nV r)⟩ (by simpa using(ba F).2)
theorem xi{P c:az}{F:cZ->List bC->cQ->Bool}{x:bC}{xs:List bC}{Q:kO->ao->Prop}(R:Rp h₀ K env n0 W0 s₀ loc st W ρ s)(hE:bZ env K n0)(M:CN K.names P F x=true)(S:∀ps b u,F ps b u=true->∃names,HM ps names u/\u.names.lookup ("inner":bj)=some .free)
 (p:env.code=.ref c)(V:HO h₀ c P)(m:h₀.get? P=some (sg #[]))(l:Tb P)(D:env.qual++"inner"=rE P)(B:Bm C)(y:∀(i:Nat) (x:bj),K.tab[i]? =some x->x≠("inner":bj))
 (h:∀f ps b u s',F ps b u=true->Rp h₀ K env n0 W0 s₀ loc st W ρ s'->iq env s'.heap "inner" (.ref f)->FnI P ps b u (n8 env u.names []) s'.heap f->
   (∀(i:Nat) (x:bj) (a:AV),K.tab[i]? =some x->i∈K.acc->loc[i]? =some a->a≠.c->u.names.lookup x=some .free->∃c v,(n8 env u.names []).lookup x=some c/\s'.heap.IsCell c (some v)/\VR W ρ s'.heap v a)->aM (aL C.prog C.w) A (fw xs env) Q E s'):
 aM (aL C.prog C.w) A (fw (x::xs) env) Q E s:=by
 refine aU M λq J U=>aC (S _ _ _ (ba U).2) λnames G hi=>ab (SU J)<|cS (aA (OL R hE G hi (ba U).1 p V m l D B y) (λL s' r=>?_) λz z e=>e);refine ew λY=>?_;obtain⟨e,f,T,hh,H⟩:=r;refine Y ?_;clear Y;exact ab e<|h f _ _ _ s' (ba U).2 T hh H λi x a I j t g4 g5=>NA T hE G (ba U).1 I j t g4 g5
theorem Nx(ps:cZ)(b:List bC)(u:cQ)(h:zY ps b u=true):∃names,HM ps names u/\u.names.lookup ("inner":bj)=some .free:=⟨_,(jS (ba h).1).1,(jS (ba h).1).2 _ (dQ rfl)⟩
theorem Nj(H:∀k,Hand C k)(hT:RK C 4 PD)(hBm:Bm C)(hk:3<=k):ya C k 4 xy:=by
 intro d a u L P A s W ρ vs args av E hA O hL hv hn hspec;refine ew λY=>?_;obtain⟨k,rfl⟩:∃k',k=k'+3:=⟨k-3,by omega+splitDisjunctions⟩;refine Y ?_;clear Y;refine G7 hspec λx n l e1 hi e2=>?_;clear hspec;refine ew λY=>?_;subst e1 e2;obtain⟨hx0,hn0,hn1,B,rfl,hlen,J⟩:=N5 hi;refine Y ?_;clear Y;have hck:=DW;rw[u]at hck;have ck:=ba hck;refine aU (ba ck.2).2 λq hbody hB=>oS P.ex λo pm cd doc M hdd hcd=>gB (hT d a o _ u L M hdd) λc hc V hP=>?_;have hnm:=eq_of_beq (ba ck.1).1;have hlz2:B.length<=2:=by
  (refine ak J (λu1=>aN u1 λz g=>?_) λT=>ak T (λN=>aN N λz I=>?_) λu6=>eY u6 λz u7 z=>?_;rw[g];rotate_left;rw[I];rotate_left;rw[u7];rotate_right 2)<;>exact cj.mp rfl
 have evD:ev cfg [] eD [.int x,.int n,.c]=some (.int B.length):=by
  have:¬(n=0\/9000<=n.natAbs.log2):=by have h1:n.natAbs.log2<17:=(i0 (by omega+splitDisjunctions)).mpr (by omega+splitDisjunctions);omega+splitDisjunctions
  simp only[eD,(id fD),lC,aj,bo,bE,af,(id cw),binI,aK,if_neg this,hlen]
 refine uh (f:=Yw) (t:=Rj) rfl (eq_of_beq (ba ck.1).2) (ba ck.2).1 M hdd hcd hA O hL hv hn rfl C λenv W₁ s₁ p hqual hE w R E'=>ab (AN hbody)<|QV λQ hQ=>?_;clear hv;clear hn;generalize A.deeper env=A' at w⊢;have b2:=ba (ba hB).2;refine K7 (m:=B.length) (l2:= [.int x,.int n,.ref 0]) (H (k+3)) hE w R (ba hB).1 evD (by omega+splitDisjunctions) (by omega+splitDisjunctions) rfl λD s₂ R₂=>xi R₂ hE b2.1 Nx (p.trans hc) V hP (.inl rfl) (by refine ab hqual (ab hnm ?_);decide+kernel) hBm Pz λf ps b sc X b5 U hin FI Z=>?_;clear R₂;clear evD;refine aN (jS (ba b5).1) λhs5 hf5=>cX (Z 1 "n" (.int n) (show(Rj.map strOf)[1]? =some ("n":bj)by decide+kernel) (show 1∈aG 3 by decide) rfl (λq=>nomatch q) (hf5 _ (by simp))) λcn vn n1 n2 n3=>cX (Z 2 "a_digits" (.ref 0) (show(Rj.map strOf)[2]? =some ("a_digits":bj)by decide+kernel) (show 2∈aG 3 by decide) rfl (λq=>nomatch q) (hf5 _ (by simp))) λca va a1 a2 a3=>n3.dK λtn o2=>?_;subst o2;clear Z;have hva:va=.ref D:=by
  rcases a3 with _|_|_|_|_|_|hρ
  ·injection hρ with e_;subst e_;rfl
 rw[hva]at a2;have I4:Fv ps b sc (n8 env sc.names []) n D X.heap f:={toFnI:=FI,cn:=⟨cn,tn,n1,n2⟩,ca:=⟨ca,a1,a2⟩};have hD:h₀.get? D=none:=U.mX (U.new D (.inr ⟨0,_,rfl,rfl⟩));have Z3:kQ X.heap D (bw B.length 0):=by refine cX (U.ei.store 0 _ rfl) λD' us g1 g2 g3=>?_;injection g1 with e_;subst e_;exact⟨us,g2,nV g3⟩
 have b3:=ba b2.2;by_cases F:x=0
 ·have hz:B= []:=by
   refine ak J (λu1=>aN u1 λz h=>?_) λg=>ak g (λT=>aN T λh z=>?_) λN=>aN N λh z=>?_
   ·exact h
   ·exact absurd F h
   ·exact absurd F h
  subst F hz;exact CQ (H _) hE w U.ei b3.1 rfl rfl rfl λS z G=>VD hE (U.step G (bz _)) b3.2 (.refl S) (Z3.keep G.keep) λv s' r=>hQ _ _ r
 ·refine CR (H _) hE w U.ei b3.1 rfl (av:=.int x) rfl (congrArg some (show(x !=0)=true by simpa using F)) λbb S Q₄ hG I₄ G z hN=>aU hG λx1 hb1 hG=>ab (gL hb1)<|CP (H _) hE w I₄ (I4.ext G.keep).toFnI (hin.keep G.keep) hG (i:=x) (j:=0) (m:=B.length) (by
   have:B.length<=cB:=aP hlz2 (by decide);simp[(id jW),(id fD),(id mN),this]) λt1 t2 t3 s₅ I₅ e₅=>?_;clear I₅
  have R₅:=U.step (G.trans e₅) (bz _);clear U;have F5:=I4.ext (G.trans e₅).keep;have Z5:=Z3.keep (G.trans e₅).keep;clear Z3;refine aA (Q:=wL D s₅ B) ?_ (λr s₆ q=>kq (hN _ (VD hE R₅ b3.2 q.1 q.2 λv s' r=>hQ _ _ r))) λz z e=>e;clear hQ;refine ak J (λu1=>aN u1 λh z=>?_) λg=>ak g (λT=>aN T λz N=>?_) λI=>eY I λz u6 hbits=>?_;rotate_left;subst N;rotate_left;subst u6;rotate_right 2
  ·exact absurd h F
  ·exact Kp (y:=0) (H (k+2)) b5 w R₅.ei.base F5 Z5 (g9 _) (by simp) (by simp)
  ·exact Wi (k:=k+1) H b5 w R₅.ei.base F5 Z5 hD rfl hx0 hn0 hn1 hbits
end
noncomputable def WT:List bj:= ["L","R","mid","shift","digits","n"]
noncomputable def La:List bj:= ["mid","shift","digits","n"]
noncomputable def kJ(u:cQ):Ck:=⟨u.names,WT,aG 6,0⟩
noncomputable def IY:CE:=.cmp .Eq (.f .Add (.a 0) (.d 1)) (.a 1)
noncomputable def VL(K:Ck)(l1 l2:List CE)(c:CE)(x:bC):Bool:=bD (BF x) λq=>bD q.1 λe=>bD (rR e) λo=>bD (rR o.1) λu=>bD (vZ u.1) λf=>bD (vZ o.2.2.1) λg=>
 o.2.1==.Add&&(u.2.1==.LShift&&(nM f.1&&(nM g.1&&(fV K 0 l1 f.2.2.1&&(cz K 0 c u.2.2.1&&fV K 0 l2 g.2.2.1)))))
theorem SX{K:Ck}{A m:List CE}{c:CE}{x:bC}{P:Prop}(h:VL K A m c x=true)(k:∀xs D e R H w G W l F,x=.Return (some (.BinOp (.BinOp (.Call (.Name "inner" R) xs [] H) .LShift e w) .Add (.Call (.Name "inner" G) D [] W) l)) F->fV K 0 A xs=true->cz K 0 c e=true->fV K 0 m D=true->P):P:=by refine aU h λq J h=>aU h λe U h=>aU h λo Z h=>aU h λu d h=>aU h λf O h=>aU h λg T h=>?_;have C:=ba (ba (ba (ba h).2).2).2;exact k _ _ _ _ _ _ _ _ _ _ (bp (rX J) (ab U (ab (nX Z) (ab (nX d) (ab (lz O) (ab (lz T) (ab (eq_of_beq (ba h).1) (ab (eq_of_beq (ba (ba h).2).1) (ab (kj (ba (ba (ba h).2).2).1) (ab (kj C.1) rfl)))))))))) (ba C.2).1 (ba (ba C.2).2).1 (ba (ba C.2).2).2
noncomputable def g5(u:cQ)(b:List bC):Bool:=bD (l1 b) λa=>IW (kJ u) (.sub (.a 4) (.a 0)) a
noncomputable def Y6:CE:=.f .RShift (.f .Add (.a 0) (.a 1)) (.d 1)
noncomputable def Y7:CE:=.f .Mult (.f .Sub (.a 2) (.a 0)) (.a 5)
noncomputable def Vd(u:cQ)(i1 i B r:bC):Bool:=
 VN (kJ u) IY (g5 u) i1&&(ka (kJ u) (.cI (.bX 2) Y6) i&&(ka (kJ u) (.cI (.bX 3) Y7) B&&VL (kJ u) [.a 2,.a 1] [.a 0,.a 2] (.a 3) r))
noncomputable def zZ(ps:cZ)(b:List bC)(u:cQ):Bool:=
 T1 ps ["L","R"] ["mid","shift"] ["digits","n","inner"] u&&bD (l4 b) λq=>Vd u q.1 q.2.1 q.2.2.1 q.2.2.2
theorem Ny(ps:cZ)(b:List bC)(u:cQ)(h:zZ ps b u=true):∃names,HM ps names u/\u.names.lookup ("inner":bj)=some .free:=⟨_,(jS (ba h).1).1,(jS (ba h).1).2 _ (dQ rfl)⟩
noncomputable def Yx:FD:=⟨2,2,[]⟩
noncomputable def Rk:List (List Nat):= [[100,105,103,105,116,115],[110]]
noncomputable def Zd(d:iL):Ck:=⟨d.scope.names,Rk.map strOf,aG 2,0⟩
noncomputable def VM(K:Ck)(x:bC):Bool:=bD (BF x) λq=>bD q.1 λe=>bD (zr e) λo=>bD (kU o.1) λz=>bD (vZ o.2.1) λf=>nM f.1&&(cz K 0 (.a 0) o.1&&(fV K 0 [.d 0,.len (.a 0)] f.2.2.1&&cz K 0 (.d 0) o.2.2.1))
theorem SY{K:Ck}{x:bC}{P:Prop}(h:VM K x=true)(k:∀xs z nm p R H w G,x=.Return (some (.IfExp (.Name nm p) (.Call (.Name "inner" R) xs [] H) z w)) G->cz K 0 (.a 0) (.Name nm p)=true->fV K 0 [.d 0,.len (.a 0)] xs=true->cz K 0 (.d 0) z=true->P):P:=by refine aU h λq J h=>aU h λe U h=>aU h λo Z h=>aU h λn d h=>aU h λf O h=>?_;have m:=ba h;exact k _ _ _ _ _ _ _ _ (bp (rX J) (ab U (ab (v8 Z) (ab (gH d) (ab (lz O) (ab (kj m.1) rfl)))))) (gH d▸(ba m.2).1) (ba (ba m.2).2).1 (ba (ba m.2).2).2
noncomputable def Vn(d:iL):Bool:=
 (d.name=="_digits2int"&&(d.params.args.map (·.arg)==(Rk.take 2).map strOf))&&(TY Yx Rk d&&bD (l2 d.body) λq=>CN d.scope.names T9 zZ q.1&&VM (Zd d) q.2)
theorem DX:(match nG 5 with|some d=>Vn d|none=>false)=true:=by decide+kernel
theorem PA:∀(i:Nat) (x:bj),(Rk.map strOf)[i]? =some x->x≠("inner":bj):=by
 have h:∀x∈Rk.map strOf,x≠("inner":bj):=by decide+kernel
 exactλi x e=>h x (aW e)
section
variable{h₀:bk}{cfg:dC}{C:fE h₀ cfg}{k:Nat}
variable{A:cP}{E:aw->ao->Prop}{s s' s₀ s₁:ao}{W W0:az->Prop}{ρ:List az}{st:St}{n0:Nat}{K:Ck}{env:fZ}{loc loc':Loc}{av:AV}
variable{T f aD:az}{ps:cZ}{b:List bC}{sc:cQ}{cl:List (bj×az)}{h h':bk}{n:Int}{l:List AV}
structure H5 (ps:cZ) (b:List bC) (sc:cQ) (cl:List (bj×az)) (W:az->Prop) (ρ:List az) (l:List AV) (n:Int) (h:bk) (f:az):Prop extends FnI T9 ps b sc cl h f where
 cn:∃c t,cl.lookup ("n":bj)=some c/\h.IsCell c (some (.int n t))
 cd:∃c v,cl.lookup ("digits":bj)=some c/\h.IsCell c (some v)/\VR W ρ h v (.lst l)
theorem H5.by(x:H5 ps b sc cl W ρ l n h f){W':az->Prop}(k:bO h h')(hW:∀p,W' p->W p\/h.get? p=none):H5 ps b sc cl W' ρ l n h' f where
 toFnI:=x.toFnI.by (X:=λz=>False) (cD.ext k) λp q=>q.elim
 cn:=eb x.cn λc t J U=>⟨c,t,J,k.cell U⟩
 cd:=cX x.cd λc v J U Z=>⟨c,v,J,k.cell U,Z.move hW (λz z z z e=>k.seq e) λz z e=>e⟩
noncomputable def Gv(x y n:Int)(l:List AV):Loc:= [.int x,.int y]++ [.c,.c,.lst l,.int n]
theorem QD(V:zZ ps b sc=true)(hA:i7 (k+1) A)(O:bO h₀ s.heap)(X:j6 W s.heap)(D:H5 ps b sc cl W ρ l n s.heap f){x y:Int}{r d:nZ}{Q:aw->ao->Prop}(C:fE h₀ cfg)
 (h:∀env H s₁,bZ env (kJ sc) 0->EI h₀ WT (aG 6) env (λp=>W p\/p=env.locals) ρ 0 (Gv x y n l) [] s₁->i7 k H->gK s s₁->s.heap.get? env.locals=none->
   env.kindOf "inner"=some .free->env.cells=cl->∀g R,(∀v s',Q v s'->R (.ret v) s')->aM (aL C.prog C.w) H (fw b env) R g s₁):
 aM (aL C.prog C.w) A (call (.ref f) [.int x r,.int y d]) Q E s:=by
 refine aN (jS (ba V).1) λG P=>oR D.fn λt ctv j pm J U=>Jp G J U rfl hA O λenv s₁ e1 e2 c Y S o w F I hn z g=>eb D.cn λcn B u n2=>cX D.cd λca M a1 a2 a3=>?_;have Z:=An (h₀:=h₀) (W:=W) (ρ:=ρ) (st:= []) (names:= ["L","R"]) (rest:=La) (acc:=aG 6) (avs:= [.int x,.int y]) (ras:= [.c,.c,.lst l,.int n])
  (vs:= [.int x r,.int y d]) G (by decide+kernel) O X (λm l e=>by injection e) (λm l a e=>by injection e) (.cons (.int _ _) (.cons (.int _ _) .nil)) rfl D.FR (λi x a F L N=>by
    rcases i with _|_|_|_|i
    ·simp at L;exact absurd L.symm N
    ·simp at L;exact absurd L.symm N
    ·simp[La]at F L;subst F L;exact⟨ca,_,P _ (dQ rfl),a1,a2,a3⟩
    ·simp[La]at F L;subst F L;exact⟨cn,_,P _ (by simp),u,n2,.int _ _⟩
    ·injection F)
  e1 e2 c Y S o F I hn
 exact h env _ s₁ Z.1 Z.2 w F (ab o<|cO _) (ab (e2 ..)<|P _ (by simp)) e1 g _ λz z q=>q
theorem EF{i:Int}{L:az}(e:gK s s₁):∀v s',wj (λp=>W p\/p=L) ρ 0 s₁ (.int i) v s'->e9 W ρ s (.int i) v s':=λv s' r=>r.2.2.dK λt B=>ab B<|⟨e.trans r.2.1,.int _ _⟩
theorem Kq(H:Hand C k)(V:zZ ps b sc=true)(hA:i7 (k+1) A)(O:bO h₀ s.heap)(X:j6 W s.heap)(m:H5 ps b sc cl W ρ l n s.heap f){y z:Int}{d M:nZ}(Y:0<=y)(G:l[y.toNat]? =some (.int z))(S:l.length<=cB):
 aM (aL C.prog C.w) A (call (.ref f) [.int y d,.int (y+1) M]) (e9 W ρ s (.int z)) E s:=by
 have P:y.toNat<l.length:=(aQ.mp G).1;have U:y<l.length:=(Int.toNat_lt Y).mp P;refine QD V hA O X m C λenv t s₁ hE I w F u _ _ g R N=>aU (ba V).2 λq J B=>ab (AN J)<|CR H hE w I (ba B).1 rfl (av:=.bool true) (by simp[IY,(id fD),Gv,(id cw),binI,(id cb),(id jJ)]) rfl λb c Z D Q i j _=>aU D λa L D=>yI D λv p e o=>ab (gL L)<|ab e<|cS (lk (aA ((sv H (.sub (.a 4) (.a 0))).1 _ _ _ _ (.int z) _ _ _ _ _ _ _ hE w Q ?_ o) (λv s' r=>j _ _ (N _ _ (EF (F.trans i) v s' r))) λ_ _ e=>e));simp[(id fD),Gv,(id pd),ll,S,Y,U];exact(aQ.mp G).2
theorem yN(H:Hand C k)(hE:bZ env K 0)(hA:i7 k A)(I:EI h₀ K.tab K.acc env W ρ 0 loc st s){c d:CE}{i j:Int}{D:List Expr}{R V:eO}{Q:aw->ao->Prop}(F:FnI T ps b sc cl s.heap f)(U:iq env s.heap "inner" (.ref f))(P:fV K 0 [c,d] D=true)
 (M:sq cfg st [c,d] loc=some [.int i,.int j])
 (h:∀O B s₁,EI h₀ K.tab K.acc env W ρ 0 loc st s₁->gK s s₁->aM (aL C.prog C.w) A (call (.ref f) [.int i O,.int j B]) Q E s₁):aM (aL C.prog C.w) A (fe (.Call (.Name "inner" R) D [] V) env) Q E s:=oR F.fn λt r S w G L=>QH (UD H _) hE hA I U G rfl M P (DY P) λvs s₁ J y N=>YK N λO B e=>ab e<|h O B s₁ (I.ext y J) y
theorem H5.ext(x:H5 ps b sc cl W ρ l n h f)(k:bO h h'):H5 ps b sc cl W ρ l n h' f:=x.by k λz q=>.inl q
theorem Wj(H:∀k,Hand C k)(V:zZ ps b sc=true)(hA:i7 (k+2) A)(O:bO h₀ s.heap)(hL:j6 W s.heap){a c:Int}(D:H5 ps b sc cl W ρ [.int a,.int c] n s.heap f){ty tz:nZ}(hn:0<n)(hn2:n<=100000)(d:ag c<=1000000):
 aM (aL C.prog C.w) A (call (.ref f) [.int 0 ty,.int 2 tz]) (e9 W ρ s (.int (c*2^n.toNat+a))) E s:=by
 have G:n.natAbs<2^63:=by grind
 have hbb:(ag c:Int)+n<=2^27:=by lia
 have ev1:jv [] .LShift (.int c) (.int n)=some (.int (c*2^n.toNat)):=by simp only[(id cw),binI,aF hn,hbb,and_self,if_true,aK]
 have ev2:jv [] .Add (.int (c*2^n.toNat)) (.int a)=some (.int (c*2^n.toNat+a)):=by rfl
 refine QD V hA O hL D C λenv A' s₁ hE I w hx u Y Z g R N=>aU (ba V).2 λq J B=>ab (AN J) ?_;have B1:=ba (ba B).2;have X:IX C (k+1) A' env (kJ sc) (λp=>W p\/p=env.locals) ρ []:=⟨H _,hE,w,.inr rfl,(jS (ba V).1).1.yT,Et O u,λm l p e=>by injection e⟩;refine CQ X.H hE w I (ba B).1 rfl (av:=.bool false) (by rfl) rfl λs₂ I2 e₂=>X.cI I2 B1.1 (av:=.int 1) (by rfl) (by simp[Gv]) λs₃ I3 y3=>X.cI I3 (ba B1.2).1 (av:=.int n) (by simp[(id fD),Gv,(id cw),binI,G]) (by simp[Gv]) λS I4 y4=>?_;have X4:gK s S:=gK.RT (hx.trans e₂) (y3.trans y4) λp q=>ab q<|u;have F4:H5 ps _ sc cl (λp=>W p\/p=env.locals) ρ _ n S.heap f:=D.by X4.keep λp q=>q.imp id λq=>by exact ab q<|u
 refine SX (ba B1.2).2 λxs ys e p1 p2 p3 p4 p5 p6 p7 F P c2 c3=>ab F<|cS (lk ?_);refine aA (Q:=wj (λp=>W p\/p=env.locals) ρ 0 S (.int (c*2^n.toNat+a))) ?_ (λv s' r=>N _ _ (EF X4 v s' r)) λ_ _ e=>e;refine BL (BL (yN X.H hE w I4 F4.toFnI (F4.inner Y Z) P (i:=1) (j:=2) (by rfl) λt1 t2 s₅ I5' U=>?_));have F5:=F4.ext U.keep;refine cu (e9.qa (n0:=0) (bz _) (Kq (y:=1) (z:=c) (H k) V w I5'.base I5'.live F5 (Rt) (by rfl) (by simp[cB]))) λu₁ t x=>?_;have I6:=I5'.step x;refine cu ((sv (H (k+1)) (.a 3)).1 _ _ _ _ (.int n) _ _ _ _ _ _ _ hE w I6 (by rfl) c2) λu₂ s₇ o=>cu (e9.qa (n0:=0) (bz _) (CY (op:=.LShift) (I6.step o).live (I6.step o).store (x.2.2.keep o.2.1.keep) o.2.2 ev1)) λu₃ s₈ r₈=>?_;have X8:=x.2.1.trans (o.2.1.trans r₈.2.1);exact yN X.H hE w ((I6.step o).step r₈) (F5.ext X8.keep).toFnI ((F5.ext X8.keep).inner Y Z) c3 (i:=0) (j:=1) (by rfl) λt1 t2 s₉ I9 M=>cu (e9.qa (n0:=0) (bz _) (Kq (y:=0) (z:=a) (H k) V w I9.base I9.live ((F5.ext X8.keep).ext M.keep) (MA 0) (by rfl) (by simp[cB]))) λu₄ s₁₀ L=>aA (e9.qa (n0:=0) (bz _) (CY (op:=.Add) (I9.step L).live (I9.step L).store (r₈.2.2.keep (M.keep.trans L.2.1.keep)) L.2.2 ev2)) (λv s' r=>⟨r.1,U.trans (X8.trans (M.trans (L.2.1.trans r.2.1))),r.2.2⟩) λ_ _ e=>e
theorem FW{l:List AV}{n:Int}{av:AV}(h:QF l n=some av){I:Prop}(N:0<n->n<=100000->(((l= []/\av=.int 0)\/(∃a,l= [.int a]/\av=.int a)\/∃a b,l= [.int a,.int b]/\av=.int (b*2^n.toNat+a)/\ag b<=1000000))->I):I:=by
 delta QF at h;by_cases Q:n<=0\/100000<n
 ·rw[if_pos Q]at h;injection h
 ·rw[if_neg Q]at h;refine N (by clear h;lia) (by clear h;lia) ?_;clear N;cases l with
  |nil=>exact .inl ⟨rfl,(ay h).symm⟩
  |cons x l=>rcases l with _|⟨y,l⟩
             ·exact bW h λa J e=>.inr (.inl ⟨a,ab (iE J) rfl,e.symm⟩)
             ·exact dn h λz Y h=>dn h λa J h=>dn h λb U h=>m8 h λO e=>.inr (.inr ⟨a,b,ab (lR Y) (ab (iE J) (ab (iE U) rfl)),e.symm,O⟩)
theorem G8{args:List AV}{av:AV}{P:Prop}(h:xA args=some av)(k:∀l n,args= [.lst l,.int n]->QF l n=some av->P):P:=
 dn h λq J h=>dn h λl U h=>dn h λn Z h=>k l n (ab (my J) (ab (AR U) (ab (iE Z) rfl))) h
theorem VR.Tj{h:bk}{v:aw}{l:List AV}(x:VR W ρ h v (.lst l)){I:Prop}(N:∀a M,v=.ref a->cL "list" h a M->M.length=l.length->I):I:=by
 rcases x with _|_|_|_|_|⟨Y,G,d⟩
 ·exact N _ _ rfl G d.length
theorem Nk(H:∀k,Hand C k)(hT:RK C 5 T9)(B:Bm C)(hk:3<=k):ya C k 5 xA:=by
 intro d a hd L P A s W ρ vs args av E hA O hL hv hn hspec;refine ew λY=>?_;obtain⟨k,rfl⟩:∃k',k=k'+3:=⟨k-3,(kK hk).mp rfl⟩;refine Y ?_;clear Y;refine ew λY=>G8 hspec λl n e1 hd2=>?_;clear hspec;subst e1;refine FW hd2 λhn0 hn1 J=>?_;clear hd2;have x:=DX;rw[hd]at x;have ck:=ba x;refine aU (ba ck.2).2 λq hbody hB=>ew λY=>oS P.ex λo pm cd doc ho hdd hcd=>gB (hT d a o _ hd L ho hdd) λc hc V hP=>Y ?_;clear Y;refine Y ?_;clear Y;have hll:l.length<=2:=by
  (refine ak J (λu1=>aN u1 λg _=>?_) λu3=>ak u3 (λN=>aC N λ_ u5 _=>?_) λu6=>eb u6 λ_ _ u7 _=>?_;refine ab g ?_;rotate_left;refine ab u5 ?_;rotate_left;refine ab u7 ?_;rotate_right 2)<;>exact cj.mp rfl
 refine uh (f:=Yx) (t:=Rk) rfl (eq_of_beq (ba ck.1).2) (ba ck.2).1 ho hdd hcd hA O hL hv hn rfl C λenv I s₁ hcode hqual hE w R E'=>?_;clear hv;clear hn;refine ab (my hbody)<|QV λQ hQ=>?_;generalize A.deeper env=A' at w⊢;refine xi R hE (ba hB).1 Ny (hcode.trans hc) V hP (.inr rfl) (by refine ab hqual (ab (eq_of_beq (ba ck.1).1) ?_);decide+kernel) B PA λf ps b sc X b5 U hin FI Z=>?_;clear R;refine ew λY=>ew λY=>aN (jS (ba b5).1) λhs5 hf5=>cX (Z 1 "n" (.int n) (show(Rk.map strOf)[1]? =some ("n":bj)by decide+kernel) (show 1∈aG 2 by decide) rfl (λq=>nomatch q) (hf5 _ (by simp))) λcn vn n1 n2 n3=>cX (Z 0 "digits" (.lst l) (show(Rk.map strOf)[0]? =some ("digits":bj)by decide+kernel) (show 0∈aG 2 by decide) rfl (λq=>nomatch q) (hf5 _ (by simp))) λca va a1 a2 a3=>Y ?_;clear Y;refine Y ?_;clear Y;clear Z;refine ew λY=>n3.dK λtn o1=>?_;subst o1;have D:H5 ps b sc (n8 env sc.names []) I [] l n X.heap f:={toFnI:=FI,cn:=⟨cn,tn,n1,n2⟩,cd:=⟨ca,va,a1,a2,a3⟩};clear a3;refine SY (ba hB).2 λxs z nm p p1 p2 p3 p4 F b6 b7 b8=>Y ?_;clear Y;refine ab F<|cS (lk (aA (Q:=e9 W ρ s av) ?_ (λv s' r=>hQ _ _ r) λ_ _ e=>e));clear hQ;have out:∀{i:Int} {s':ao},gK X s'->∀v s'',e9 I [] s' (.int i) v s''->e9 W ρ s (.int i) v s'':=λe v s'' r=>r.2.dK λt e'=>ab e'<|⟨U.ext.trans (e.trans r.1),.int _ _⟩;refine wpAny_IfExp (UZ (cu ((sv (H (k+3)) (.a 0)).1 _ _ _ _ (.lst l) _ _ _ _ _ _ _ hE w U.ei rfl b6) λu S G=>?_) rfl);refine G.2.2.Tj λad M hu o2 hlu=>aI o2 λm hs=>?_;clear o2;refine ab hu<|wpAny_truthy_list (items:=M.toArray) (MZ (n:=m) hs) (by simp;lia) ?_;clear hs;have e5:gK X {S with toks:=S.toks+1+1}:=G.2.1.trans (.tok S _);clear G;refine ak J (λu1=>aN u1 λg u3=>?_) λJ=>?_;subst g;refine ab u3 ?_
 ·cases dD hlu;exact aA ((sv (H (k+3)) (.d 0)).1 _ _ _ _ (.int 0) _ _ _ _ _ _ _ hE w (U.step e5 (bz _)).ei rfl b8) (λv s' r=>out e5 v s' r.2) λ_ _ e=>e
 ·have hz:(!M.toArray.isEmpty)=true:=by
   rcases M with _|⟨a,r⟩
   ·refine ak J (λu1=>aC u1 λa g _=>?_) λu3=>eb u3 λa b N _=>?_;cases g;rotate_left;subst N;rotate_right
    ·injection hlu
    ·injection hlu
   ·rfl
  refine ab hz<|yN (H _) hE w (U.step e5 (bz _)).ei (D.ext e5.keep).toFnI (hin.keep e5.keep) b7 (i:=0) (j:=l.length) (by have:l.length<=cB:=aP hll (by decide);simp[(id jW),(id fD),(id mN),this]) λt1 t2 s₆ I₆ e₆=>?_
  refine ak J (λu1=>aC u1 λa g u3=>?_) λN=>cX N λa b u5 u6 hbits=>?_;subst g;refine ab u3 ?_;rotate_left;subst u5;refine ab u6 ?_;rotate_right
  ·exact aA (Kq (y:=0) (z:=a) (H (k+2)) b5 w I₆.base I₆.live ((D.ext e5.keep).ext e₆.keep) (g9 _) (by rfl) (by simp[cB])) (out (e5.trans e₆)) λ_ _ e=>e
  ·exact aA (Wj (k:=k+1) H b5 w I₆.base I₆.live ((D.ext e5.keep).ext e₆.keep) hn0 hn1 hbits) (out (e5.trans e₆)) λ_ _ e=>e
end
inductive j5:List cG->List (Int×bj)->Prop
 |nil:j5 [] []
 |cons {t u:Nat} {q:Int×bj} {es:List cG} {l:List (Int×bj)}:j5 es l->j5 (⟨q.1,.int q.1 t,.str q.2 u⟩::es) (q::l)
theorem j5.append{es B:List cG}{l l':List (Int×bj)}(x:j5 es l)(y:j5 B l'):j5 (es++B) (l++l'):=by
 induction x with
 |nil=>exact y
 |cons _ R=>exact .cons R
theorem uX(d:Nat):∀(l:List (Int×bj)) (t:Nat),j5 (entries d t l) l:=by
 intro G
 induction G with
 |nil=>
  exactλz=>.nil
 |cons q r R=>
  exactλt=>.cons (R (t+d))
theorem FP:∀(n t:Nat) (l:List (Int×bj)),l.length<=17*n->j5 (oK n t l).flatten l:=by
 intro G
 induction G with
 |zero=>
  intro t l h;have:l= []:=dD (Nat.eq_zero_of_le_zero h);exact ab this<|.nil
 |succ n R=>
  intro t l h;simp only[(id Nz)];rcases he:l.isEmpty with _|_
  ·simp only[bx,if_false,List.flatten_cons];have J:j5 (yn t (l.take 17)) (l.take 17):=by
    unfold yn;split
    ·exact uX _ _ _
    ·exact uX _ _ _
   have U:=R (t+51) (l.drop 17) (ab bB<|Nat.sub_le_of_le_add h);have:=J.append U
   rwa [fR]at this
  ·rw[dx]at he;exact ab he<|.nil
theorem OX:iT.length<=17*50:=by decide+kernel
theorem j5.length{es:List cG}{l:List (Int×bj)}(x:j5 es l):es.length=l.length:=by
 induction x with
 |nil=>rfl
 |cons _ R=>exact tT.mpr R
noncomputable def Jo(l:List (Int×bj)):List (PyData×PyData):=l.map λq=>(.int q.1,.str q.2)
theorem vo{k:Int}(Y:0<=k)(J:k<1000000):hashInt k=k:=by
 have e:((k.natAbs:Nat):Int)%((2^61-1:Nat):Int)=k:=by lia
 have r:rawHash k=k:=by
  delta rawHash;simp only[e];refine ab (if_neg (show¬k<0 by exact MT Y)) ?_;have:(k== -1)=false:=by simp only[beq_eq_false_iff_ne,ne_eq];exact cH Y
  refine ab this ?_;rfl
 delta hashInt;refine ab r ?_;have:(k== -1)=false:=by simp only[beq_eq_false_iff_ne,ne_eq];exact cH Y
 refine ab this ?_;rfl
section
variable{prog:fA}{w:cW}
theorem Cu{es:List cG}{l:List (Int×bj)}(x:j5 es l)(G:∀q∈l,0<=q.1/\q.1<1000000):∃B:List (Int×aw),Pairs (M5 prog w) es B/\PyProof.V.FlatPairs PyData.int B (Jo l)/\B.map (·.1)=l.map (·.1)/\∀e∈es,∃k,(M5 prog w).is k e.key=true/\e.hash=(M5 prog w).hash k:=by
 induction x with
 |nil=>exact⟨[],.nil,.nil,rfl,λz h=>nomatch h⟩
 |@cons t u q es l y R=>
  refine D7 (R λq D=>G q (ax _ D)) λB J U Z d=>⟨(q.1,.str q.2 u)::B,.cons (isInt_self q.fst t) rfl J,.cons (λh=>.str _ _) U,by simp[Z],λe F=>?_⟩;refine ak (aS.mp F) (λH=>?_) λF=>?_;refine ab H ?_
  ·exact aN (G q aH) λa b=>⟨q.1,by show jB q.1 (.int q.1 t)=true;simp[jB],(vo a b).symm⟩
  ·exact d e F
theorem Kx(i:Int):∀l:List (Int×bj),Rz (.int i) (Jo l)=(l.lookup i).map .str:=by
 intro G
 induction G with
 |nil=>
  exact rfl
 |cons q r R=>
  delta Jo;refine ab bI ?_;unfold Rz;refine ab (PyProof.V.same_int ..) (ab fa ?_);by_cases h:q.1=i
  ·refine ab h ?_;simp
  ·have:(i==q.1)=false:=by rewrite[beq_eq_false_iff_ne];exact ab (ne_eq ..)<|λe=>h e.symm
   refine ab this ?_;simp only[h,decide_false,bx,if_false];exact R
theorem LS{h:bk}(M:h.get? 110=some GI):IntTab prog w h 110 (Jo iT):=by refine aN (pE iT 0 rF) λu G=>D7 (Cu (prog:=prog) (w:=w) (FP 50 408 iT OX) λq D=>⟨aF (G q D).1,(G q D).2⟩) λB J U Z d=>⟨by decide,B,⟨GI,_,_,M,⟨rfl,rfl,rfl⟩,rfl,λe F=>d e (by simpa using F),by simpa using J,?_⟩,U⟩;exact ab Z<|nr.mpr (u.imp λh=>Int.ne_of_lt h)
set_option tactic.hygienic true in
theorem NW{v:aw}{i:Int}(h:PyProof.V.Flat v ((Rz (.int i) (Jo iT)).getD .none)):∃t,v=match RP i with|some x=>.str (strOf x) t|none=>.none:=by
 rw[Kx]at h;delta RP;rcases e:iT.lookup i with _|x
 ·rw[e]at h;have:=h default;rcases this with⟨⟩;exact⟨0,rfl⟩
 ·rw[e]at h;have:=h default;clear h;rcases this with⟨⟩;rename_i t;exact⟨t,by rfl⟩
theorem y9:(xt.all λe=>match e.2 with| .int i _=>i==e.1&&decide (0<=i)&&decide (i<1000000)&&DR.contains i|_=>false)=true:=by decide+kernel
theorem Pm:(DR.all λi=>xt.any λe=>e.1==i)=true:=by decide+kernel
set_option tactic.hygienic true in
theorem WK{h:bk}{P:il}(M:h.get? 99=some (Uz P)):h.SetOf (M5 prog w) 99 (λk=>DR.contains k) 27:=by
 refine⟨Uz P,xt.toArray,29,_,M,⟨rfl,rfl,rfl⟩,rfl,λe F=>?_,λk=>⟨λI=>?_,λD=>aC D λe F I=>?_⟩,by decide+kernel,by rfl,by decide+kernel⟩
 ·replace F:e∈xt:=F;have:=aq.mp y9 e F;obtain⟨a,v⟩:=e;rcases v with⟨⟩<;>simp only[bx]at this;rename_i i t;simp only[au,beq_iff_eq,decide_eq_true_eq]at this;refine aN this λo1 Z=>?_;clear this;exact aN o1 λH U=>aN H λg J=>cA g<|⟨⟨i,by show jB i (.int i t)=true;simp[jB],(vo J U).symm⟩,rfl⟩
 ·have:=aq.mp Pm k (pL.mp I);refine aC (List.any_eq_true.mp this) λe F U=>?_;have Z:=aq.mp y9 e F;obtain⟨a,v⟩:=e;rcases v with⟨⟩<;>simp only[bx]at Z;rename_i i t;simp only[au,beq_iff_eq,decide_eq_true_eq]at Z U;refine aN Z λr z=>?_;clear Z;refine aN r λH z=>aN H λg z=>?_;subst g;exact cA U<|⟨_,by exact F,by show jB i (.int i t)=true;simp[jB]⟩
 ·replace F:e∈xt:=F;have:=aq.mp y9 e F;clear F;obtain⟨a,v⟩:=e;rcases v with⟨⟩<;>simp only[bx]at this;rename_i i t;simp only[au,beq_iff_eq,decide_eq_true_eq]at this;refine aN this λj Z=>?_;clear this;refine aN j λH U=>aN H λg J=>cA g ?_;have I:jB k (.int i t)=true:=I;have:i=k:=by simpa[jB]using I
  exact cA this<|Z
end
noncomputable abbrev Rb:fA:=MP.toRowW.prog
theorem Ni:(lM.all λp=> !startupNames.contains p.1&& !(looseW q0 kl).contains p.1&& !((recsOf q0).map (·.name)).contains p.1&& !((litsOf q0).map (·.1)).contains p.1&& !((clssOf q0 (looseW q0 kl)).map (·.name)).contains p.1&& !(p.1==("__name__":bj)))=true:=by decide+kernel
theorem Nh:∀p∈lM,M3 p.1=some p.2:=by
 have h:(lM.all λp=>M3 p.1==some p.2)=true:=by decide+kernel
 exactλp B=>beq_iff_eq.mp (aq.mp h p B)
theorem A6:GI.cls=.type "dict":=by unfold GI dG;rfl
theorem OO(P:il):(Uz P).cls=.type "set":=rfl
theorem Sz:∀(i:Nat) (n:Int),qX.Y[i]? =some n->∃x,qA[i]? =some x/\valOf q0 x=some (.int n):=by
 have h:((aG 4).all λi=>(qX.Y[i]?).all λn=>(qA[i]?).any λx=>match valOf q0 x with|some (.int m)=>m==n|_=>false)=true:=by decide+kernel
 intro i n hi;have:=aq.mp h i (aT.mpr (aQ.mp hi).1);rw[hi]at this;have this:((qA[i]?).any λx=>match valOf q0 x with|some (.int m)=>m==n|_=>false)=true:=this;generalize qA[i]? =o at this⊢;rcases o with _|x
 ·exact(aB this).elim
 ·have this:(match valOf q0 x with|some (.int m)=>m==n|_=>false)=true:=this;generalize e:valOf q0 x=q at this;rcases q with _|v
  ·exact(aB this).elim
  ·cases v<;>first|exact(aB this).elim|exact⟨x,rfl,e.trans (congrArg (λi=>some (PyData.int i)) (eq_of_beq this))⟩
section
variable{R:WRecords}{w:cW}{s₀:ao}{mg mb:bj->Option aw}{h:bk}
theorem ND(Y:Ib w h){A:cP}{s:ao}{i:Int}{t:nZ}{Q:aw->ao->Prop}{E:aw->ao->Prop}(I:bO h s.heap)(D:∀tk,Q (.bool (DR.contains i)) {s with toks:=tk}):
 aM (aL Rb w) A (eM .In (.int i t) (.ref 99)) Q E s:=by
 have M:=I.nt Y.1 (jt (OO _));exact wpAny_inSet_of (knd:=M5 Rb w) (k:=i) (by show jB i (.int i t)=true;exact isInt_self i t) rfl (WK M) (D _)
theorem NF(Y:Ib w h){A:cP}{s:ao}{env:fZ}{p b pos:eO}{y:Expr}{Q:aw->ao->Prop}{E:aw->ao->Prop}(X:(b.endLine==pos.line)=true)(C:bJ y=true)(I:bO h s.heap)
 (O:aM (aL Rb w) A (fe (.Name "b3_exceptions" p) env) (λv s'=>v=.ref 110/\s'=s) E s)
 (L:aM (aL Rb w) A (fe y env) (λv s'=>bO h s'.heap/\∃i t,v=.int i t/\∀t' tk,Q (match RP i with|some x=>.str (strOf x) t'|none=>.none) {s' with toks:=tk}) E s):
 aM (aL Rb w) A (fe (.Call (.Attribute (.Name "b3_exceptions" p) "get" b) [y] [] pos) env) Q E s:=by
 refine xQ (iA rfl) (cY C) X (aA O (λv s' q=>?_) λz z e=>e);refine aN q λo1 j=>?_;subst o1;subst j;have T:=LS (prog:=Rb) (w:=w) (I.nt Y.2 (jt A6));obtain⟨lo,B,u,P⟩:=T;refine⟨"dict","dict.get",F.plainAttrs_dict,F.slot_dict_get,F.type_dict_get,u.typeIs,u.mapOf.noDict,?_⟩;refine k9 rfl (dH (dP (aA L (λv N q=>?_) λz z e=>e)));obtain⟨m,i,t,rfl,q⟩:=q;refine e7 (call_get1_intTab (LS (prog:=Rb) (w:=w) (m.nt Y.2 (jt A6))) λv D=>?_);exact aI (NW D) λt' e=>ab e<|q t' _
noncomputable def FV(G:Rr q0 kl R H9 w s₀ mg mb h)(Y:Ib w h):fE h qX where
 prog:=Rb
 w:=w
 mg:=mg
 mb:=mb
 g:=G.T.g
 b:=G.T.b
 nolimit:=G.T.nolimit
 bi:=λp B=>by
  have:=aq.mp Ni p B;simp only[au,fv,iW,decide_eq_false_iff_not,beq_eq_false_iff_ne]at this;refine aN this λu F=>?_;refine aN u λH j=>aN H λK a4=>aN K λT a3=>aN T λa1 a2=>?_;exact⟨G.T.free _ a1 a2 a3 a4 j,(G.T.builtins _ F).trans (Nh p B)⟩
 gi:=λi n hi=>by
  refine aC (Sz i n hi) λx J U=>?_;refine aC (G.T.const x _ U) λv Z d=>?_;have:=d default;rcases this with⟨⟩;exact⟨x,_,J,Z⟩
 b1:=⟨99,G.X.1.1,λA s i t Q E I D=>ND Y I D⟩
 b3:=⟨110,G.X.1.2,λA s env p M pos y Q E X C I O L=>NF Y X C I O L⟩
theorem Aj{f:Nat}{d:iL}(e:nG f=some d):d∈recsOf q0:=by
 delta nG at e;generalize pX f=o at e;rcases o with _|g
 ·injection e
 ·exact List.mem_of_find?_eq_some e
theorem Ss(G:Rr q0 kl R H9 w s₀ mg mb h)(Y:Ib w h):Yh (FV G Y):=λf d u=>QP (G.T.fn d (Aj u)) λa o B code j J U Z A=>⟨a,J,⟨o,B,code,j,U,Z,A⟩⟩
theorem N2:(match nG 8 with|some d=>(match wM d.body with|some B=>I8 (K8 d) B&&Xs d|none=>false)|none=>false)=true:=by decide+kernel
theorem XN(G:Rr q0 kl R H9 w s₀ mg mb h)(Y:Ib w h):H4 (FV G Y):=by
 have m:=N2;generalize u:nG 8=o at m;rcases o with _|d
 ·exact(aB m).elim
 ·have m:(match wM d.body with|some B=>I8 (K8 d) B&&Xs d|none=>false)=true:=m;generalize b:wM d.body=q at m;rcases q with _|B
  ·exact(aB m).elim
  ·exact aC (Ss G Y 8 d u) λa J U=>⟨d,B,a,sm u,J,U,b,(ba m).1,(ba m).2⟩
theorem Yj(G:Rr q0 kl R H9 w s₀ mg mb h)(Y:Ib w h):Bm (FV G Y):=G.T.bmain
theorem ER(G:Rr q0 kl R H9 w s₀ mg mb h)(Y:Ib w h){f:Nat}{P:az}{x:bj}(y:f<24)(F:tD mg h x=some (.ref P))(k:∀d,nG f=some d->d.name=x):RK (FV G Y) f P/\BJ h P:=by
 refine sO F λa o fd c A vs J U e i O T V=>?_;have Z:∀d,d∈recsOf q0->d.name=x->HO h c P/\h.get? P=some (sg #[])/\BJ h P:=by refineλd u Q=>JH (G.T.tab d u) λI p D c' s b j t g4 g5 N=>?_;rw[Q,J]at b;injection b with S;injection S with X;subst X;rw[U]at j;injection j with S;subst S;rw[e]at t;injection t with S;subst S;rw[i]at g4;injection g4 with S;subst S;have H:=N.isCodeTable;have E:=HO.of g5 N;refine aN N λq g=>s9 q λr W m l K C=>?_;rw[O]at m;injection m with S;subst S;rw[T]at K;injection K with S;subst S;rw[V]at C;injection C with S;injection S with X;subst X;exact⟨E,g,H⟩
 have n:∃d,nG f=some d:=gy.mp (aq.mp uV f (aT.mpr y));refine aI n λd0 v=>eY (Z d0 (Aj v) (k d0 v)) λm l K=>⟨λd I p D u L M B=>?_,K⟩;have L:mg d.name=some (.ref I):=L;rw[k d u,J]at L;injection L with S;injection S with X;subst X;rw[U]at M;injection M with S;subst S;rw[e]at B;injection B with S;subst S;exact⟨c,i,m,l⟩
theorem YB:∀d,nG 4=some d->d.name=("_int2digits":bj):=by have h:=DW;intro d e;rw[e]at h;have h:Vm d=true:=h;exact eq_of_beq (ba (ba h).1).1
theorem YC:∀d,nG 5=some d->d.name=("_digits2int":bj):=by have h:=DX;intro d e;rw[e]at h;have h:Vn d=true:=h;exact eq_of_beq (ba (ba h).1).1
theorem JY{h₀:bk}(C:fE h₀ qX)(k:Nat):Hand C k:=⟨λf args av z e=>(nomatch (show(none:Option AV)=some av from e)),λa L=>AL L⟩
theorem VE(G:Rr q0 kl R H9 w s₀ mg mb h)(Y:Ib w h):∀k,wK ((FV G Y).at k) k:=
 Wp (FV G Y) (Ss G Y) (λk I=>Nj (JY _) (ER G Y (by decide) G.X.2.1 YB).1 (Yj G Y) I) (λk I=>Nk (JY _) (ER G Y (by decide) G.X.2.2 YC).1 (Yj G Y) I) (λk a L=>AL L) (XN G Y)
end
noncomputable def kL(d:iL)(tk:Nat):Ck:=⟨d.scope.names,UE.map strOf,aG 29,tk⟩
noncomputable def Ww:CS:=.cI (.bX 1) (.call 13 [.a 0])
noncomputable def Wx:CS:=.cI (.many [2,3]) (.call 14 [.sub (.a 1) (.d 0)])
noncomputable def tL:List CS:=D9.body.drop 2
theorem RS:D9.body=Ww::Wx::tL:=rfl
noncomputable def Co(d:iL):Bool:=UE.length==29&&(d.params.args.map (·.arg)==(UE.take 1).map strOf)&&TY D9 UE d&&match d.body with
 |V::C::xs=>ka (kL d 0) Ww V&&ka (kL d 0) Wx C&&mW (kL d 1) tL xs
 |_=>false
theorem FN:(match nG 23 with|some d=>Co d|none=>false)=true:=by decide+kernel
section
variable{h₀:bk}{cfg:dC}{C:fE h₀ cfg}{k:Nat}
variable{A:cP}{E:aw->ao->Prop}{s s' s₀ s₁:ao}{W W0:az->Prop}{ρ:List az}{st:St}{n0 n1:Nat}{K K':Ck}{env:fZ}{loc loc':Loc}{av:AV}
theorem Rp.up(R:Rp h₀ K env n0 W0 s₀ loc st W ρ s)(J:K'.tab=K.tab)(U:K'.acc=K.acc)(S:n1<=s.toks):Rp h₀ K' env n1 W0 s₀ loc st W ρ s where
 ei:=by have I:=R.ei;rw[<-J,<-U]at I;exact⟨I.base,I.live,S,I.vars,I.store,I.frame,I.nR⟩
 own:=R.own
 len:=R.len
 inj:=R.inj
 me:=R.me
 new:=R.new
 ext:=R.ext
 w0:=R.w0
 b0:=R.b0
 l0:=R.l0
theorem bZ.up(hE:bZ env K n0)(J:K'.tab=K.tab)(U:K'.names=K.names)(S:K'.tk<=n1):bZ env K' n1:=
 ⟨S,hE.kind,hE.names.trans U.symm,hE.glob,hE.bi,hE.co,hE.cB,J▸hE.R⟩
theorem Hk(J:K'.tab=K.tab):jV K'=jV K:=by
 have h:qH K'=qH K:=by unfold qH Wh;exact ab J rfl
 delta jV;exact ab h rfl
theorem Jc{m:Nat}{e:CE}{xs:List Expr}(h:fV K m [e] xs=true){I:Prop}(N:∀y,xs= [y]->cz K m e y=true->bJ y=true->I):I:=by
 cases xs with
 |nil=>exact(aB h).elim
 |cons y D=>rcases D with _|⟨z,zs⟩
            ·have h:(cz K m e y&&bJ y&&fV K m [] [])=true:=h;exact N y rfl ((ba (ba h).1).1) ((ba (ba h).1).2)
            ·have h:(cz K m e y&&bJ y&&false)=true:=h;cases(ba h).2
theorem Td(H:Hand C k)(hE:bZ env K 0)(hE':bZ env K' 1)(h:K'.tab=K.tab)(U:K'.acc=K.acc)(Z:K'.names=K.names)(hA:i7 k A)(R:Rp h₀ K env 0 W0 s₀ loc st W ρ s){x:bC}{av:AV}(M:ev cfg st (.call 14 [.sub (.a 1) (.d 0)]) loc=some av)
 (hb:cT loc (.many [2,3]) av=some loc')(V:ka K Wx x=true):aM (aL C.prog C.w) A (sf x env) (λf s'=>f=.next/\Rp h₀ K' env 1 W0 s₀ loc' st W ρ s') E s:=by
 refine ew λY=>dn M λavs e N=>dn e λa1 J e=>?_;have d:avs= [a1]:=(ay e).symm;rw[d]at N;refine dn J λa2 c J=>Y ?_;clear Y;by_cases Q:dU [a1]=true
 ·rw[if_pos Q]at N;refine ew λY=>uj V λg v pos ex I=>?_;have P:=ba (ba I).1;refine vz P.2 λf p xs cpos ev'=>?_;rw[ev']at P ex;have m:(pX 14==some f&&K.glob f&&fV K 0 [.sub (.a 1) (.d 0)] xs&& !([CE.sub (.a 1) (.d 0)].isEmpty)&& !(14==8))=true:=P.2;have G:=ba (ba (ba m).1).1;refine Jc G.2 λy ey L d5=>Ej L λl r q el=>?_;rw[ey]at ex;rw[el]at L d5 ex;have L:(cz K 0 (.a 1) l&&cz K 0 (.d 0) r&&pZ r)=true:=L;have e1:=ba (ba L).1;refine vy e1.2 λw kk cp O=>?_;rw[O]at ex L d5 e1;refine m6 (rO P.1) λts ta tb n z=>Y ?_;clear Y;rw[n]at P ex;refine ab ex<|cA (eq_of_beq (show((0:Int)==w)=true from e1.2))<|D8 (H.o _ _ _ (by decide) N) λg' a o fd g1 j t g4 g5=>?_;rw[<-(ay ((eq_of_beq (ba G.1).1).symm.trans g1))]at j;refine gG (.inr ⟨_,_,_,_,_,_,_,rfl,rfl⟩)<|dE (lF hE (ba G.1).2 R.ei.base j (kE (o:=o) (fd:=fd) (lB (by simp only[jx];rfl) (λq=>nomatch q) ?_)));refine XB (Subscript_ (cu ((sv H (.a 1)).1 _ _ _ _ a2 _ _ _ _ _ _ _ hE hA R.ei c e1.1) λv₁ s₁ D=>?_)) (cY d5);refine UU ?_;have S:gK s₁ {s₁ with toks:=s₁.toks+1}:=.tok _ _;have u:Rp h₀ K' env 1 W0 s₀ loc st W ρ {s₁ with toks:=s₁.toks+1}:=((R.step D.2.1 D.1).step (s':={s₁ with toks:=s₁.toks+1}) S (bz _)).up h U (MX (bz _));refine cu (e9.qa (n0:=1) (MX (bz _)) (KR (ba L).2 u.ei.store (D.2.2.keep S.keep) (.int _ _) J)) λv₂ T B=>?_;have i:=u.step B.2.1 B.1;refine Yg ⟨⟨i.ei.base.nt t (nO g4),g4⟩,?_⟩;exact cu (e9.qa (n0:=1) B.1 (g5 _ T W ρ _ _ hA i.ei.base i.ei.live (.cons B.2.2 .nil) Q)) λv₃ X F=>fm hA.hh hE' (i.step F.2.1 F.1) (by delta fg;exact ab Z<|ab (Hk h)<|P.1) hb F.2.2 λs₄ b z=>⟨rfl,b⟩
 ·rw[if_neg Q]at N;injection N
end
section
variable{h₀:bk}{C:fE h₀ qX}{k:Nat}
variable{A:cP}{E:aw->ao->Prop}{s s' s₀ s₁:ao}{W W0:az->Prop}{ρ:List az}{av:AV}
theorem Kl(H:∀k,wK (C.at k) k){d:iL}{a:az}(hd:nG 23=some d)(P:FnAt h₀ d a){vs:List aw}{args:List AV}(hA:i7 (k+1) A)(O:bO h₀ s.heap)(hL:j6 W s.heap)(D:ft W ρ s.heap vs args)(hn:dU args=true)
 (G:iR (Cn qX k) D9 args=some av):aM (aL C.prog C.w) A (call (.ref a) vs) (e9 W ρ s av) E s:=by
 have x:=FN;rw[hd]at x;have x:Co d=true:=x;delta Co at x;refine aN (ba x) λo1 b=>aN (ba o1) λu1 hsc=>aN (ba u1) λk2 K=>oS P.ex λo pm cd doc ho l hcd=>?_;have F:args.length=D9.p:=by
  delta iR at G;split at G
  ·assumption
  ·injection G
 delta iR at G;rw[if_pos F,RS]at G;refine uh (f:=D9) (t:=UE) (eq_of_beq k2) (eq_of_beq K) hsc ho l hcd hA O hL D hn F (C.at k) λenv I s₁ z z hE w R E'=>?_;generalize d.body=Q at b⊢;rcases Q with _|⟨V,_|⟨x2,xs⟩⟩
 ·exact(aB b).elim
 ·exact(aB b).elim
 ·have b1:=(ba (ba b).1).1;have b2:=(ba (ba b).1).2;have b3:=(ba b).2;have hE0:bZ env (kL d 0) 0:=hE;have hE1:bZ env (kL d 1) 1:=hE0.up rfl rfl (aV _);generalize M:dh (Cn qX k) (Ww::Wx::tL) (args++bw (D9.z-D9.p) .c) []=res at G;have Z:∀L loc' st',res=some (L,loc',st')->(L=.ret av\/(L=.next/\av=.none))->aM (aL (C.at k).prog (C.at k).w) (A.deeper env) (fw (V::x2::xs) env) (λf s'=>e9 W ρ s av (match f with| .ret v=>v|_=>.none) s') E' s₁:=by
   intro L loc' st' e c;rw[e]at M;refine px M λf1 l1 st1 g1 J=>?_;have hfin:∀{f':kO} {s':ao} {y:Fl} {Y:Loc} {st'':St} {K':Ck} {u:Nat},(y=.ret av\/(y=.next/\av=.none))->(∃W' ρ',HK W' ρ' s'.heap y f'/\Rp h₀ K' env u W s Y st'' W' ρ' s')->e9 W ρ s av (match f' with| .ret v=>v|_=>.none) s':=by
    intro f' s' y Y st'' K' u c q;refine eb q λW' ρ' m T=>ak c (λu1=>?_) λg=>aN g λu3 N=>?_;subst u1;rotate_left;subst u3;subst N;rotate_right
    ·rcases f' with⟨⟩<;>first|exact mF m|skip
     exact⟨T.ext,(m.1.noRef m.2).move (λp B=>.inl (T.w0 p B)) (λz z z z e=>e) λz z e=>e⟩
    ·rcases f' with⟨⟩<;>first|exact mF m|skip
     exact⟨T.ext,.none⟩
   have hne1:f1=.next:=by simp only[Ww,(id oN),aj,bF,aJ,bL,gz]at g1;obtain⟨_,_,_,_,h,_⟩:=g1;exact h.symm
   subst hne1;refine ak J (λu1=>aN u1 λz J=>?_) λg=>aN g λh z=>?_
   ·refine cS (aA (YJ (H k) Ww rfl _ _ _ _ _ _ _ _ _ _ _ _ _ _ _ _ hE0 w R g1 b1) (λf' s₂ q=>?_) λz z e=>e);refine cX q λW2 n m R2 z=>?_;rcases f' with⟨⟩<;>first|exact mF m|skip
    refine px J λf2 l2 st2 j U=>?_;simp only[Wx,(id oN),aj,bF,aJ,bL,gz]at j;obtain⟨a2,g3,l3,g4,rfl,rfl,rfl⟩:=j;refine ak U (λu1=>aN u1 λz U=>?_) λg=>aN g λh z=>?_
    ·refine cS (aA (Td (K':=kL d 1) (H k).toHand hE0 hE1 rfl rfl rfl w R2 g3 g4 b2) (λf' X q=>?_) λz z e=>e);refine aN q λr i=>?_;subst r;refine aA (WN (H k) tL _ _ _ _ _ _ _ _ _ _ _ _ _ _ _ _ hE1 w i U b3) (λf' s₄ q=>?_) λz z e=>e;exact cX q λW4 ρ4 hf4 R4 z=>hfin c ⟨W4,ρ4,hf4,R4⟩
    ·exact absurd rfl h
   ·exact absurd rfl h
  rcases res with _|⟨L,loc',st'⟩
  ·injection G
  ·rcases L with _|_|v
   ·injection G with S;subst S;exact Z _ _ _ rfl (.inr ⟨rfl,rfl⟩)
   ·injection G
   ·injection G with S;subst S;exact Z _ _ _ rfl (.inl rfl)
end
theorem items_int{R:WRecords}{cl:bj->Option az}{P:il}{h:bk}:∀{xs:List WData} {vs:List aw},ZC R xs .int=true->WellAll P h vs xs->∃ns:List Int,xs=ns.map .int/\ft (λz=>False) [] h vs (ns.map .int):=by
 intro G
 induction G with
 |nil=>
  intro vs z w;rcases w with⟨⟩;exact⟨[],rfl,.nil⟩
 |cons x xs A=>
  intro vs F w;simp only[ZC,au]at F;refine aI (hasW_int F.1) λi j=>?_;subst j;rcases w with _|⟨w1,w2⟩
  ·rcases w1 with⟨⟩;refine aC (A F.2 w2) λns u D=>?_;subst u;exact⟨i::ns,rfl,.cons (.int _ _) D⟩
theorem Kk{h h':bk}(k:bO h h')(K:BJ h PD)(B:BJ h T9):OldK h h':=by
 refine⟨λb o e=>?_,λb o e=>k.alive b o e⟩;refine aC (k b o e) λR J U=>?_;rcases U with rfl|⟨l,rfl,c,rfl,_⟩
 ·exact .inl J
 ·refine .inr (.inl ⟨?_,rfl,#[],#[zL (Gu b:Nat),zL ((4:Nat):Int),.ref c],rfl,?_⟩)
  ·refine ak l (λH=>?_) λg=>?_;subst H;rotate_left;subst g;rotate_right
   ·exact K
   ·exact B
  ·refine ab J ?_;delta UG;rfl
theorem CG{t:WTm}{R:WRecords}{e:WCtx}{b:Bool}(D:t.value R e=some (.bool b))(h:Qj R t e=true):b=true:=by
 cases b with
 |true=>rfl
 |false=>exact(aB ((show Qj R t e=false by delta Qj;exact ab D rfl).symm.trans h)).elim
theorem OD{ns:List Int}(h:MP.toRowW.pre.holds MP.toRowW.records {args:= [.list (ns.map .int)]}=true):ns.length<=63:=by
 have e:MP.toRowW.pre=.and (.not (.lt (.lit (.int 63)) (.len (.arg 0)))) (.lit (.bool true)):=rfl;rw[e]at h;have D:(WTm.and (.not (.lt (.lit (.int 63)) (.len (.arg 0)))) (.lit (.bool true))).value MP.toRowW.records {args:= [.list (ns.map .int)]}=some (.bool (!decide ((63:Int)<ns.length)&&true)):=
  w_and (w_not (w_lt (by rfl) (by have:=w_len_list (R:=MP.toRowW.records) (e:={args:= [.list (ns.map .int)]}) (a:=.arg 0) (xs:=ns.map .int) (by rfl);simpa using this))) (by rfl)
 have O:=CG D h;by_cases X:(63:Int)<ns.length
 ·rw[decide_eq_true X]at O;exact(aB O).elim
 ·lia
theorem Km{args ds:List WData}:MP.toRowW.claim.post args (.bool true) ds=true:=by show(WShape.has [] (.bool true) .bool&&Qj [] (.eq .res (.lit (.bool true))) {args:=args,res:=some (.bool true),after:=ds})=true;kernel_rfl
theorem ON:∀ns:List Int,dU [.lst (ns.map .int)]=true:=by
 intro ns;have Z:∀ns:List Int,dU (ns.map .int)=true:=by
  intro ns
  induction ns with
  |nil=>rfl
  |cons a r R=>exact mR.mp λa=>R
 simp[(id mz),(id qD),Z]
theorem Wb(hp:∀ns:List Int,ns.length<=63->iR (Cn qX 20) D9 [.lst (ns.map .int)]=some (.bool true)):PySem.Challenge.rw_uc0054_01.Holds:=by
 refine V9 λd D l w s₀ N mg mb G Y a o pm cd j dV kV M hod T hdf L K args vals as hpre hlay i f E=>aN (pre_splitW hpre) λR H=>cX (hasAllW_cons R) λx r Q x1 C=>?_;subst Q;have:=hasAllW_nil C;subst this;refine aC (hasW_list x1) λxs c n=>?_;subst c;rcases f with _|⟨w1,w2⟩
 ·rcases w2 with⟨⟩;cases w1 with
  |list m s=>
   refine aC (items_int (cl:=classAt s₀.heap) n s) λns F O=>?_;subst F;have B:ns.length<=63:=OD H;refine aI (gy.mp (aq.mp uV 23 (aT.mpr (by decide)))) λu g=>aC (Ss G Y 23 u g) λI A P=>?_;have y:d.name=u.name:=by
    have J:=defOf_name l;have U:=sm g;refine ab J ?_;have Z:pX 23=some MP.name:=by decide+kernel
    rw[Z]at U;exact ay U
   have A:mg u.name=some (.ref I):=A;rw[<-y,L]at A;injection A with S;injection S with X;subst X;refine aA (Kl (VE G Y) (k:=20) (W:=λz=>False) (ρ:= []) g P ⟨rfl,by decide,by decide⟩ (λb o e=>⟨o,e,.refl _ _ _⟩) (λp hp=>hp.elim) (.cons (.lst (λh=>h) ⟨0,m⟩ O) .nil) (ON ns) (hp ns B)) (λv s' q=>?_) λz z e=>e;refine aN q λt V=>?_;rcases V with⟨⟩;refine⟨.inl ⟨_,.bool true,[],rfl,λcls=>rfl,.bool true,?_,λz=>⟨Rw,λa h=>nomatch h⟩⟩,Kk t.keep (ER G Y (by decide) G.X.2.1 YB).2 (ER G Y (by decide) G.X.2.2 YC).2,t.os,t.bare ?_⟩
   ·exact Km
   ·exact .of_eq K
theorem JP{t:kR}{body:Loc->St->Option (Fl×Loc×St)}(l:List AV)(I:Nat->Loc->St->Prop)
 (h:∀i v loc st,l[i]? =some v->I i loc st->∃loc1 loc2 st2,cT loc t v=some loc1/\body loc1 st=some (.next,loc2,st2)/\I (i+1) loc2 st2):
 ∀(n i:Nat),n+i=l.length->∀loc st,I i loc st->∃loc' st',iP t body (l.drop i) loc st=some (.next,loc',st')/\I l.length loc' st':=by
 intro G
 induction G with
 |zero=>
  intro i Q loc st M;have:i=l.length:=by lia
  subst this;exact ab oe<|⟨loc,st,rfl,M⟩
 |succ n R=>
  intro i Q loc st M;have y:i<l.length:=by lia
  refine kB (h i l[i] loc st (gx y) M) λloc1 loc2 st2 J U Z=>?_;refine eb (R (i+1) (by lia) loc2 st2 Z) λloc' st' d O=>⟨loc',st',?_,O⟩;exact ab (dF y)<|(vh.2 ..).trans (ua J (ua U d))
theorem AA{t:kR}{body:Loc->St->Option (Fl×Loc×St)}(l:List AV)(I:Nat->Loc->St->Prop)
 (h:∀i v loc st,l[i]? =some v->I i loc st->∃loc1 loc2 st2,cT loc t v=some loc1/\body loc1 st=some (.next,loc2,st2)/\I (i+1) loc2 st2){loc:Loc}{st:St}(Y:I 0 loc st):
 ∃loc' st',iP t body l loc st=some (.next,loc',st')/\I l.length loc' st':=by
 have:=JP l I h l.length 0 rfl loc st Y
 rwa [Rv]at this
theorem aO{C:dC}{c:CS}{l:List CS}{loc loc':Loc}{st st':St}{r:Option (Fl×Loc×St)}(h:mY C c loc st=some (.next,loc',st'))(U:dh C l loc' st'=r):dh C (c::l) loc st=r:=(s8.2 ..).trans (ua h U)
theorem iB{C:dC}{c:CS}{l:List CS}{loc loc':Loc}{st st':St}{v:AV}(h:mY C c loc st=some (.ret v,loc',st')):dh C (c::l) loc st=some (.ret v,loc',st'):=(s8.2 ..).trans (ua h rfl)
theorem y0{C:dC}{f:FD}{args:List AV}{v:AV}{loc:Loc}{st:St}(L:args.length=f.p)(h:dh C f.body (args++bw (f.z-f.p) .c) []=some (.ret v,loc,st)):iR C f args=some v:=by delta iR;exact ab (if_pos L) (ab h rfl)
@[simp] theorem XQ{B:Type}(a:B):l1 [a]=some a:=rfl
@[simp] theorem Tc{B:Type}:l0 ([]:List B)=some ():=rfl
section
variable{C:dC}{loc loc' loc1 loc2:Loc}{st st':St}{v a x y:AV}{e c ix it:CE}{t:kR}{b b1 b2:List CS}{n i:Nat}{l:List AV}
theorem gw(h:ev C st e loc=some v)(O:cT loc t v=some loc'):mY C (.cI t e) loc st=some (.next,loc',st):=by simp[(id oN),h,O]
theorem iO(h:ev C st e loc=some (.lst l))(Q:vC e=true)(O:ek loc i (.ref st.length)=some loc'):mY C (.new i e) loc st=some (.next,loc',st++ [some l]):=by simp[(id oN),h,Q,O]
theorem fW{op:cV}(J:ev C st (.a i) loc=some x)(U:ev C st e loc=some v)(Z:oG x=true)(d:jv st op x v=some y)(O:ek loc i y=some loc'):mY C (.aug i op e) loc st=some (.next,loc',st):=by simp[(id oN),J,U,Z,d,O]
theorem jK(h:ev C st e loc=some v)(J:ev C st (.a i) loc=some (.ref n))(U:(st[n]?).join=some l)(Z:l.length<=cB):mY C (.app i e) loc st=some (.next,loc,st.set n (some (l++ [v]))):=by simp[(id oN),h,J,U,Z]
theorem qt{k:Int}(h:ev C st e loc=some v)(J:ev C st c loc=some (.ref n))(U:ev C st ix loc=some (.int k))(Z:(st[n]?).join=some l)(d:0<=k/\k<l.length/\l.length<=cB):mY C (.J c ix e) loc st=some (.next,loc,st.set n (some (l.set k.toNat v))):=by simp[(id oN),h,J,U,Z,d]
theorem Cw{k:Int}{op:cV}(J:ev C st (.a i) loc=some (.ref n))(U:ev C st ix loc=some (.int k))(Z:(st[n]?).join=some l)(d:l[k.toNat]? =some x)(h:ev C st e loc=some v)(O:jv st op x v=some y)(T:0<=k/\k<l.length/\l.length<=cB/\oG x=true):
 mY C (.oH i ix op e) loc st=some (.next,loc,st.set n (some (l.set k.toNat y))):=by
 simp only[(id oN),J,U,GW,lC,Z,d,h,O,T,aj,af,and_self,if_true];rfl
theorem ji{l':List AV}(J:ev C st (.a i) loc=some (.ref n))(Z:(st[n]?).join=some l)(d:jk (st.set n none) l=some (l',st'))(O:ek loc i (.lst l')=some loc'):mY C (.v i) loc st=some (.next,loc',st'):=by simp[(id oN),J,Z,d,O]
theorem rb(h:ev C st e loc=some v)(Q:jP v=true):mY C (.ret e) loc st=some (.ret v,loc,st):=by simp[(id oN),h,Q]
theorem eu{r:Bool}{R:Option (Fl×Loc×St)}(h:ev C st c loc=some a)(S:cU st a=some r)(G:(if r then dh C b1 loc st else dh C b2 loc st)=R):mY C (.ite c b1 b2) loc st=R:=by simp[(id oN),h,S];exact G
theorem gT{R:Option (Fl×Loc×St)}(h:ev C st it loc=some a)(hi:fQ st a=some l)(G:iP t (λloc st=>dh C b loc st) l loc st=R):mY C (.m t it b) loc st=R:=by simp[(id oN),h,hi];exact G
theorem rd{R:Option (Fl×Loc×St)}(G:gh (λloc st=>do cU st (<-ev C st c loc)) (λloc st=>dh C b loc st) 200 loc st=R):mY C (.P c b) loc st=R:=by simp only[(id oN)];exact G
theorem jN(h:l.length<=cB):fQ st (.lst l)=some l:=by simp[(id yL),h]
end
theorem iD{l:List AV}:∀(st:St),dU l=true->jk st l=some (l,st):=by
 induction l with
 |nil=>intro st z;rfl
 |cons a l R=>
  intro st h;simp only[(id mz),au]at h;rcases a with⟨⟩<;>first|exact(aB h.1).elim|(show(if _=true then _ else _)=_;refine ab (if_pos h.1) (ab (R st h.2) ?_);rfl)
theorem mx:∀ns:List Int,dU (ns.map .int)=true:=by
 intro G
 induction G with
 |nil=>
  exact rfl
 |cons a r R=>
  exact mR.mp λa=>R
def eC(C:dC)(l:List CS)(loc:Loc)(st:St)(v:AV):Prop:=∃loc' st',dh C l loc st=some (.ret v,loc',st')
section
variable{C:dC}{loc loc':Loc}{st st':St}{c:CS}{l:List CS}{v:AV}
theorem eC.next(h:mY C c loc st=some (.next,loc',st'))(U:eC C l loc' st' v):eC C (c::l) loc st v:=
 ej U λa b e=>⟨a,b,aO h e⟩
theorem eC.ret{e:CE}(h:ev C st e loc=some v)(Q:jP v=true):eC C (.ret e::l) loc st v:=⟨loc,st,iB (rb h Q)⟩
theorem eC.run{f:FD}{args:List AV}(L:args.length=f.p)(h:eC C f.body (args++bw (f.z-f.p) .c) [] v):iR C f args=some v:=
 ej h λz z e=>y0 L e
theorem Jw:∀(b l:List CS) (loc:Loc) (st:St),dh C (b++l) loc st=(dh C b loc st).bind λq=>match q with
 |(.next,loc',st')=>dh C l loc' st'
 |r=>some r:=by
 intro G
 induction G with
 |nil=>
  exactλl loc st=>rfl
 |cons c b R=>
  refineλl loc st=>(s8.2 ..).trans<|ab (s8.2 ..) ?_;rcases mY C c loc st with _|⟨f,l',s'⟩
  ·rfl
  ·rcases f with _|_|v
   ·exact R l l' s'
   ·rfl
   ·rfl
theorem eC.ite{t:CE}{b1 b2:List CS}{a:AV}{r:Bool}(h:ev C st t loc=some a)(S:cU st a=some r)(G:eC C ((if r then b1 else b2)++l) loc st v):eC C (.ite t b1 b2::l) loc st v:=by refine ej G λp q e=>⟨p,q,?_⟩;rw[Jw]at e;refine cA e ?_;simp only[af,(id s8),(id oN),h,S,aj,af];rcases r with⟨⟩<;>rfl
theorem eC.oq{t:CE}{b1 b2:List CS}(h:ev C st t loc=some (.bool true))(G:eC C (b1++l) loc st v):eC C (.ite t b1 b2::l) loc st v:=.ite (r:=true) h rfl G
theorem eC.jo{t:CE}{b1 b2:List CS}(h:ev C st t loc=some (.bool false))(G:eC C (b2++l) loc st v):eC C (.ite t b1 b2::l) loc st v:=.ite (r:=false) h rfl G
theorem eC.cI{t:kR}{e:CE}{x:AV}(h:ev C st e loc=some x)(O:cT loc t x=some loc')(U:eC C l loc' st v):eC C (.cI t e::l) loc st v:=.next (gw h O) U
end
noncomputable abbrev BK(k:Nat):dC:=Cn qX k
theorem O6{k:Nat}{args:List AV}:(BK (k+1)).O 13 args=iR (BK k) Ym args:=rfl
theorem yX(n:Nat)(h:n<=cB):lx [.int n]=some ((aG n).map λ(i:Nat)=>AV.int i):=by
 have U:n<=10000:=h;show(if(0:Int)<1/\(1:Int)<=1000/\(n:Int)-0<=cB/\Xv 0<=2^31/\(n:Int).natAbs<=2^31 then some ((gV 0 1 (rG 0 n 1)).map AV.int)else none)=_;refine ab (if_pos ⟨by decide,by decide,by show _<=(10000:Int);exact wy rfl rfl h,by decide,by lia⟩) ?_;have e:rG 0 n 1=n:=by delta rG;split<;>simp<;>lia
 refine ab e ?_;delta gV;simp[iJ]
theorem vO{n i:Nat}{v:AV}(h:((aG n).map λ(i:Nat)=>AV.int i)[i]? =some v){I:Prop}(N:i<n->v=.int i->I):I:=by simp only[nq,dg]at h;refine aC h λj Q o1=>?_;subst o1;refine aI (aQ.mp Q) λf Y=>?_;rw[eH]at f;rw[mG]at Y;subst Y;exact N f rfl
theorem N9{ns:List Int}{i:Nat}(h:i<ns.length):(ns.map AV.int)[i]? =some (.int ns[i]):=by simp[h]
theorem pe{st:St}{ns:List Int}{i:Nat}(h:i<ns.length)(V:ns.length<=cB):gF st (.lst (ns.map .int)) (.int i)=some (.int ns[i]):=by have U:(i:Int)<ns.length:=fh.mpr h;simp[(id pd),ll,V,U,h]
theorem Nu(k:Nat)(ns:List Int)(A:ns.length<=63){I:Prop}(N:∀(L:List Int),L.length=11->(BK (k+1)).O 13 [.lst (ns.map .int)]=some (.lst (L.map .int))->I):I:=by
 have S:ns.length<=cB:=aP A (by decide);refine eb (AA (t:=.bX 2) (body:=λloc st=>dh (BK k) [.oH 1 (.f .Mod (.a 2) (.d 11)) .Add (.sub (.a 0) (.a 2))] loc st)
  ((aG ns.length).map λ(i:Nat)=>AV.int i) (λi loc st=>∃L:List Int,L.length=11/\∃p,loc= [.lst (ns.map .int),.ref 0,p]/\st= [some (L.map .int)]) (λi v loc st D M=>by
    obtain⟨L,V,p,rfl,rfl⟩:=M;refine vO D λhi H=>?_;subst H;have T:(i:Int).fmod 11=((i% 11:Nat):Int):=by refine ab (bA _ (by decide)) ?_;rfl
    have Q:i% 11<L.length:=by lia
    refine⟨[.lst (ns.map .int),.ref 0,.int i],[.lst (ns.map .int),.ref 0,.int i],[some ((L.set (i% 11) (L[i% 11]+ns[i])).map .int)],rfl,?_,⟨_,ab lK<|V,_,rfl,rfl⟩⟩;refine aO (Cw (n:=0) (k:=((i% 11:Nat):Int)) (l:=L.map .int) (x:=.int L[i% 11]) (v:=.int ns[i]) (y:=.int (L[i% 11]+ns[i])) (by rfl) (by simp[(id fD),(id cw),binI,T]) rfl (ab (bK ..)<|N9 Q)
     (by simp[(id fD),pe hi S]) (by rfl) ⟨by exact aX (i% 11),by simp;exact HP Q,by simp[V,cB],rfl⟩) ?_
    refine ab (bK ..) (ab UL ?_);rfl) (loc:= [.lst (ns.map .int),.ref 0,.c]) (st:= [some [.int 1422165,.int 3,.int 11,.int 0,.int 14,.int 1,.int 1,.int 4,.int 2,.int 5,.int (-1)]]) ⟨[1422165,3,11,0,14,1,1,4,2,5,-1],rfl,_,rfl,rfl⟩) λloc' st' J U=>?_
 obtain⟨L,V,p,rfl,rfl⟩:=U;exact N L V<|ab O6<|y0 (loc:= [.lst (ns.map .int),.lst (L.map .int),p]) (st:= [none]) rfl<|aO (loc':= [.lst (ns.map .int),.ref 0,.c]) (st':= [some [.int 1422165,.int 3,.int 11,.int 0,.int 14,.int 1,.int 1,.int 4,.int 2,.int 5,.int (-1)]]) rfl<|aO (gT (a:=.lst ((aG ns.length).map λ(i:Nat)=>AV.int i)) (l:=(aG ns.length).map λ(i:Nat)=>AV.int i) (by simp[(id fD),(id jW),(id mN),S,yX]) (jN (by simpa using S)) J)<|aO (ji (n:=0) (l:=L.map .int) (l':=L.map .int) (st':= [none]) (loc':= [.lst (ns.map .int),.lst (L.map .int),p]) (by rfl) rfl (iD _ (mx L)) rfl)<|iB (rb (by rfl) (by simp[(id qD),mx]))
theorem O7{k:Nat}{args:List AV}:(BK (k+1)).O 14 args=iR (BK k) Yn args:=rfl
theorem O8{k:Nat}{args:List AV}:(BK (k+1)).O 15 args=iR (BK k) Yo args:=rfl
noncomputable def Xq:List Int->Prop
 | []=>False
 | [_]=>False
 | [x,y]=>x=1/\y=0
 |x::y::r=>1<=x/\x<=y+1/\Xq (y::r)
theorem OP:∀{r:List Int} {x:Int},Xq (x::r)->1<=x
 | [],x,h=>h.elim
 | [y],x,h=>by have:=h.1;exact UJ (id (dN this))
 |y::z::r,x,h=>h.1
theorem KQ:∀{r:List Int} {x:Int},Xq (x::r)->x<=r.length
 | [],x,h=>h.elim
 | [y],x,h=>by have:=h.1;simp;exact UJ this
 |y::z::r,x,h=>by
  have:=KQ h.2.2;have:=h.2.1;simp at this⊢;simp at*;lia
theorem LM{st:St}{r:List Int}{y:Int}(V:r.length<cB)(J:st= [some (((y::r).reverse).map .int)]):gF st (.ref 0) (.int (-1))=some (.int y):=by
 refine ab J ?_;have e:ll (-1) (r.length+1)=some r.length:=by delta ll;refine ab (if_pos V) (ab (if_neg (of_decide_eq_false rfl)) (ab (if_pos (by lia)) ?_));congr 1;lia
 simp[(id pd),e]
theorem Kr{B:Type}{l:List B}{n:Nat}(h:l.length=n+1){I:Prop}(N:∀a r,l=a::r->r.length=n->I):I:=by
 cases l with
 |nil=>exact nomatch h
 |cons a r=>exact N a r rfl (B7 h)
theorem Jj(k:Nat)(c:Int){I:Prop}(N:∀(a b d B:Int),1<=a->a<=2->1<=b->b<=a+1->1<=d->d<=b+1->(BK (k+1)).O 14 [.int c]=some (.tup [.lst [.int 0,.int 1,.int a,.int b,.int d],.int B])->I):I:=by
 refine eb (AA (t:=.bX 2) (body:=λloc st=>dh (BK k) [.cI (.bX 3) (.f .Add (.sub (.a 1) (.neg (.d 1))) (.d 1)),.app 1 (.f .Add (.d 1) (.f .Mod (.a 0) (.a 3))),.aug 0 .FloorDiv (.a 3)] loc st)
  ((aG 3).map λ(i:Nat)=>AV.int i) (λi loc st=>∃(R:List Int) (x:Int) (p q:AV),R.length=i+2/\Xq R/\loc= [.int x,.ref 0,p,q]/\st= [some (R.reverse.map .int)]) (λi v loc st D M=>by
    refine rk M λR x p q X j H u2=>?_;clear M;subst H;subst u2;refine vO D λhi H=>ab H ?_;rcases R with _|⟨y,r⟩
    ·exact j.elim
    ·have P:=OP j;have V:r.length<cB:=by simp at X;simp[cB];omega+splitDisjunctions
     have F:0<=x.fmod (y+1):=bQ _ (by omega+splitDisjunctions);have W:x.fmod (y+1)<y+1:=cJ _ (by omega+splitDisjunctions);refine⟨[.int x,.ref 0,.int i,q],[.int (x.fdiv (y+1)),.ref 0,.int i,.int (y+1)],[some (((1+x.fmod (y+1))::y::r).reverse.map .int)],rfl,?_,⟨_,_,_,_,by simp at X⊢;omega+splitDisjunctions,?_,rfl,rfl⟩⟩
     ·refine aO (gw (v:=.int (y+1)) (by
       have:=LM (st:= [some ((y::r).reverse.map .int)]) V rfl;simp only[(id fD),lC,aK,af,bo,bE,aj,af,this,(id cw),binI,aK]) rfl) ?_
      refine aO (jK (v:=.int (1+x.fmod (y+1))) (n:=0) (l:=(y::r).reverse.map .int) (by
       have:¬y+1=0:=by omega+splitDisjunctions
       simp[(id fD),(id cw),binI,this]) (by rfl) rfl (by simp;omega+splitDisjunctions)) ?_
      refine aO (fW (x:=.int x) (v:=.int (y+1)) (y:=.int (x.fdiv (y+1))) (by rfl) (by rfl) rfl (by
       have A:¬(y+1=0\/9000<=(y+1).natAbs.log2):=by have:=KQ j;simp at X;have J:(y+1).natAbs.log2<17:=(i0 (by(clear X this W F V j H hi D N;omega+splitDisjunctions))).mpr (by(clear W F V j H D N;omega+splitDisjunctions));omega+splitDisjunctions
       simp only[(id cw),binI,if_neg A,aK]) rfl) ?_
      simp[(id s8)]
     ·rcases r with _|⟨z,r⟩
      ·exact j.elim
      ·exact⟨by(clear V j X W P H hi D N;omega+splitDisjunctions),by(clear V j X F P H hi D N;omega+splitDisjunctions),j⟩) (loc:= [.int c,.ref 0,.c,.c]) (st:= [some [.int 0,.int 1]]) ⟨[1,0],c,.c,.c,rfl,⟨rfl,rfl⟩,rfl,rfl⟩) λloc' st' J U=>?_
 refine rk U λR x p q X j u Q=>?_;clear U;subst u;subst Q;refine Kr (n:=4) X λd r e m=>Kr (n:=3) m λb w e2 f=>Kr (n:=2) f λa r3 L K=>Kr (n:=1) K λo E Y C=>Kr (n:=0) C λz G S g=>?_;have e:R= [d,b,a,o,z]:=by rw[e,e2,L,Y,S,dD g]
 clear e2 L Y S m f K C g;subst e;refine Vv j λZ h O T h7 h8 A s=>?_;clear j;subst A s;refine N a b d x h7 (by omega+splitDisjunctions) O T Z h ?_;simp only[O7];refine y0 (loc:= [.int x,.lst [.int 0,.int 1,.int a,.int b,.int d],p,q]) (st:= [none]) rfl<|aO (loc':= [.int c,.ref 0,.c,.c]) (st':= [some [.int 0,.int 1]]) rfl<|aO (gT (a:=.lst ((aG 3).map λ(i:Nat)=>AV.int i)) (l:=(aG 3).map λ(i:Nat)=>AV.int i) (by have:=yX 3 (by decide);refine ab this ?_;rfl) (jN (by decide)) J) ?_
 exact aO (ji (n:=0) (l:= [.int 0,.int 1,.int a,.int b,.int d]) (l':= [.int 0,.int 1,.int a,.int b,.int d]) (st':= [none]) (loc':= [.int x,.lst [.int 0,.int 1,.int a,.int b,.int d],p,q]) (by rfl) rfl (iD _ rfl) rfl)<|iB (rb (by rfl) rfl)
noncomputable def lP:List Int:= [173,847,6150,6155,6156,6157,8203,8204,8205,8288,65279,65024,65025,65026,65027,65028,65029,65030,65031,65032,65033,65034,65035,65036,65037,65038,65039]
noncomputable def lO:List Int:= [119808,119860,119912,120016,120172,120224,120276,120328,120380,120432]
noncomputable def ic:List Int:= [172,174,846,848,6149,6151,6154,6158,8202,8206,8287,8289,65023,65040,65278,65280]
noncomputable def iK:List Int:= [102,104,115,116]
noncomputable def Em:List Int:= [64258,13200,13276,8482]
noncomputable def HC:List Int:= [108,122,118,109]
noncomputable def dY(l:List Int)(i:Nat):Nat:=(l[i]?.getD 0).toNat
noncomputable def Oy(p:Nat)(c s:Int):Nat:=((4*(c.fdiv 5).fmod 6+p+s).fmod 27).toNat
noncomputable def Oz(c:Int):Nat:=((c.fdiv 5).fmod 10).toNat
noncomputable def MN(p:Nat)(c:Int):Nat:=4*((c.fdiv 5).fmod 4).toNat+p
noncomputable def Tp(p:Nat)(c s:Int):List Nat×List Nat:=
 if c.fmod 5=0 then([dY iK p-32],[dY iK p])
 else if c.fmod 5=1 then([dY iK p,dY lP (Oy p c s)],[dY iK p])
 else if c.fmod 5=2 then([dY lO (Oz c)+dY iK p-97],[dY iK p])
 else if c.fmod 5=3 then([dY Em p],[dY iK p,dY HC p])
 else([dY iK p,dY ic (MN p c)],[dY iK p,dY ic (MN p c)])
theorem je{x n:Int}(Q:0<n):x.fmod n=((x.fmod n).toNat:Int)/\(x.fmod n).toNat<n.toNat:=by have Y:0<=x.fmod n:=bQ _ Q;exact⟨(qO Y).symm,(Int.toNat_lt_toNat Q).mpr (cJ _ Q)⟩
theorem zg{st:St}{ns:List Int}{i:Nat}{j:Int}(Q:j=(i:Int))(h:i<ns.length)(V:ns.length<=cB):gF st (.lst (ns.map .int)) (.int j)=some (.int ns[i]):=by subst Q;exact pe h V
theorem V6{st:St}:∀{p:Nat},p<4->gF st (.str [102,104,115,116]) (.int p)=some (.str [dY iK p]):=λ{p} B=>QZ B rfl rfl rfl rfl
theorem Xa{st:St}:∀{p:Nat},p<4->gF st (.str [108,122,118,109]) (.int p)=some (.str [dY HC p]):=λ{p} B=>QZ B rfl rfl rfl rfl
theorem Ug:∀p:Nat,p<4->qK [dY iK p]= [dY iK p-32]:=by decide+kernel
theorem SF:∀i:Nat,i<27->∃h:i<lP.length,0<=lP[i]/\lP[i]<=1114111/\lP[i].toNat=dY lP i:=by decide+kernel
theorem T5:∀i:Nat,i<16->∃h:i<ic.length,0<=ic[i]/\ic[i]<=1114111/\ic[i].toNat=dY ic i:=by decide+kernel
theorem VX:∀i:Nat,i<4->∃h:i<Em.length,0<=Em[i]/\Em[i]<=1114111/\Em[i].toNat=dY Em i:=by decide+kernel
theorem SD:∀i:Nat,i<10->∃h:i<lO.length,∀p:Nat,p<4->0<=lO[i]+dY iK p-97/\lO[i]+dY iK p-97<=1114111/\(lO[i]+dY iK p-97).toNat=dY lO i+dY iK p-97:=by decide+kernel
section
variable{C:dC}{st:St}{loc:Loc}{e:CE}
theorem yw{i:Int}{n:Nat}(h:ev C st e loc=some (.int i))(Y:0<=i)(J:i<=1114111)(Q:i.toNat=n):ev C st (.Q e) loc=some (.str [n]):=by subst Q;simp[(id fD),h,Y,J]
theorem dB{a:CE}{x y v:AV}(J:ev C st a loc=some x)(U:ev C st e loc=some y)(Z:gF st x y=some v):ev C st (.sub a e) loc=some v:=by simp[(id fD),J,U,Z]
theorem eN{op:cV}{a:CE}{x y v:AV}(J:ev C st a loc=some x)(U:ev C st e loc=some y)(Z:jv st op x y=some v):ev C st (.f op a e) loc=some v:=by simp[(id fD),J,U,Z]
theorem cc{op:kF}{a:CE}{x y:AV}{r:Bool}(J:ev C st a loc=some x)(U:ev C st e loc=some y)(Z:fk st op x y=some r):ev C st (.cmp op a e) loc=some (.bool r):=by simp[(id fD),J,U,Z]
theorem rg{op P:kF}{a b:CE}{x y z:AV}{r:Bool}(J:ev C st a loc=some x)(U:ev C st b loc=some y)(Z:fk st op x y=some true)(d:ev C st e loc=some z)(O:fk st P y z=some r):ev C st (.B op P a b e) loc=some (.bool r):=by simp[(id fD),J,U,Z,d,O]
theorem vb{op P:kF}{a b:CE}{x y:AV}(J:ev C st a loc=some x)(U:ev C st b loc=some y)(Z:fk st op x y=some false):ev C st (.B op P a b e) loc=some (.bool false):=by simp[(id fD),J,U,Z]
theorem vd{x:AV}{r:Bool}(J:ev C st e loc=some x)(U:cU st x=some r):ev C st (.C e) loc=some (.bool (!r)):=by simp[(id fD),J,U]
theorem ve{a:CE}{x y:AV}{r:Bool}(J:ev C st a loc=some x)(U:cU st x=some false)(Z:ev C st e loc=some y)(d:cU st y=some r):ev C st (.bor [a,e]) loc=some (.bool r):=by rcases r with⟨⟩<;>simp[(id fD),(id Ju),J,U,Z,d]
theorem yv{a:CE}{x y:AV}{r:Bool}(J:ev C st a loc=some x)(U:cU st x=some true)(Z:ev C st e loc=some y)(d:cU st y=some r):ev C st (.band [a,e]) loc=some (.bool r):=by rcases r with⟨⟩<;>simp[(id fD),(id yu),J,U,Z,d]
theorem mq{a:CE}{l:List CE}{x:AV}(J:ev C st a loc=some x)(U:cU st x=some false):ev C st (.band (a::l)) loc=some (.bool false):=by simp[(id fD),(id yu),J,U]
theorem Jz{a b:CE}{x v:AV}(J:ev C st e loc=some x)(U:cU st x=some true)(Z:ev C st a loc=some v):ev C st (.N e a b) loc=some v:=by simp[(id fD),J,U,Z]
theorem Cy{a b:CE}{x v:AV}(J:ev C st e loc=some x)(U:cU st x=some false)(Z:ev C st b loc=some v):ev C st (.N e a b) loc=some v:=by simp[(id fD),J,U,Z]
theorem pz{a:CE}{x y:AV}(J:ev C st a loc=some x)(U:ev C st e loc=some y):ev C st (.tuple [a,e]) loc=some (.tup [x,y]):=by simp[(id fD),(id jW),J,U]
end
theorem To(k p:Nat)(c s:Int)(B:p<4):(BK (k+1)).O 15 [.int p,.int c,.int s]=some (.tup [.str (Tp p c s).1,.str (Tp p c s).2]):=by
 have F:(c.fmod 5).toNat<5:=(je (x:=c) (n:=5) (by decide)).2;have E:=(je (x:=c) (n:=5) (by decide)).1;have T:∀(loc:Loc),loc[1]? =some (.int c)->∀r:Int,ev (BK k) [] (.cmp .Eq (.f .Mod (.a 1) (.d 5)) (.d r)) loc=some (.bool (c.fmod 5==r)):=by intro loc h r;simp[(id fD),h,(id cw),binI,(id cb),(id jJ)]
 have A:¬((5:Int)=0\/9000<=(5:Int).natAbs.log2):=by decide
 refine ab O8<|eC.run rfl<|.cI (loc':= [.int p,.int c,.int s,.lst (lP.map .int),.c,.c,.c,.c,.c]) (x:=.lst (lP.map .int)) rfl rfl<|.cI (loc':= [.int p,.int c,.int s,.lst (lP.map .int),.lst (lO.map .int),.c,.c,.c,.c]) (x:=.lst (lO.map .int)) rfl rfl<|.cI (loc':= [.int p,.int c,.int s,.lst (lP.map .int),.lst (lO.map .int),.lst (ic.map .int),.c,.c,.c]) (x:=.lst (ic.map .int)) rfl rfl<|.cI (loc':= [.int p,.int c,.int s,.lst (lP.map .int),.lst (lO.map .int),.lst (ic.map .int),.str [dY iK p],.c,.c]) (x:=.str [dY iK p]) (by simp only[(id fD),af,aj,af,bo,V6 B]) rfl ?_;refine .cI (loc':= [.int p,.int c,.int s,.lst (lP.map .int),.lst (lO.map .int),.lst (ic.map .int),.str [dY iK p],.int (c.fdiv 5),.c]) (x:=.int (c.fdiv 5)) (by rfl) rfl ?_;delta Tp;by_cases Y:c.fmod 5=0
 ·refine .oq (by refine ab (T _ rfl ..) ?_;simp[Y]) ?_;simp only[Y,if_true];exact .ret (by simp[(id fD),(id jW),Ug p B,cB]) rfl
 refine .jo (by refine ab (T _ rfl ..) ?_;simp[Y]) ?_;refine ab (if_neg Y) ?_;by_cases J:c.fmod 5=1
 ·refine .oq (by refine ab (T _ rfl ..) ?_;simp[J]) ?_;simp only[J,if_true];refine aN (je (x:=4*(c.fdiv 5).fmod 6+p+s) (n:=27) (by decide)) λD e=>gB (SF (Oy p c s) e) λm S K C=>.ret (pz (eN (x:=.str [dY iK p]) (y:=.str [dY lP (Oy p c s)]) rfl (yw (dB (x:=.lst (lP.map .int)) rfl (y:=.int ((4*(c.fdiv 5).fmod 6+p+s).fmod 27)) ?_ (zg D m (by decide))) S K C) rfl) rfl) rfl;simp[(id fD),(id cw),binI]
 refine .jo (by refine ab (T _ rfl ..) ?_;simp[J]) ?_;refine ab (if_neg J) ?_;by_cases U:c.fmod 5=2
 ·refine .oq (by refine ab (T _ rfl ..) ?_;simp[U]) ?_;simp only[U,if_true];refine aN (je (x:=c.fdiv 5) (n:=10) (by decide)) λD e=>aI (SD (Oz c) e) λm g=>eY (g p B) λS K C=>.ret (pz (yw (i:=lO[Oz c]+dY iK p-97) (eN (x:=.int (lO[Oz c]+dY iK p)) (y:=.int 97) (eN (x:=.int lO[Oz c]) (y:=.int (dY iK p:Nat)) (dB (x:=.lst (lO.map .int)) rfl (y:=.int ((c.fdiv 5).fmod 10)) ?_ (zg D m (by decide))) ?_ rfl) rfl rfl) S K C) rfl) rfl
  ·simp[(id fD),(id cw),binI]
  ·simp[(id fD)]
 refine .jo (by refine ab (T _ rfl ..) ?_;simp[U]) ?_;refine ab (if_neg U) ?_;by_cases Z:c.fmod 5=3
 ·refine .oq (by refine ab (T _ rfl ..) ?_;simp[Z]) ?_;simp only[Z,if_true];exact gB (VX p B) λm S K C=>.ret (pz (yw (dB (x:=.lst (Em.map .int)) rfl (y:=.int p) rfl (zg rfl m (by decide))) S K C) (eN (x:=.str [dY iK p]) (y:=.str [dY HC p]) rfl (dB (x:=.str [108,122,118,109]) rfl (y:=.int p) rfl (Xa B)) rfl)) rfl
 refine .jo (by refine ab (T _ rfl ..) ?_;simp[Z]) ?_;refine ab (if_neg Z)<|aN (je (x:=c.fdiv 5) (n:=4) (by decide)) λD e=>gB (T5 (MN p c) (by delta MN;omega+splitDisjunctions)) λm S K C=>?_;refine .cI (loc':= [.int p,.int c,.int s,.lst (lP.map .int),.lst (lO.map .int),.lst (ic.map .int),.str [dY iK p],.int (c.fdiv 5),.str [dY ic (MN p c)]]) (x:=.str [dY ic (MN p c)])
  (yw (dB (x:=.lst (ic.map .int)) rfl (y:=.int (4*(c.fdiv 5).fmod 4+p)) ?_ (zg (by delta MN;omega+splitDisjunctions) m (by decide))) S K C) rfl ?_
 ·simp[(id fD),(id cw),binI]
 exact .ret (pz rfl rfl) rfl
theorem oJ{x:Int}(F:0<=x)(h:Nat):E8 x (2^h-1)=x% 2^h:=by
 refine aI (dW F) λm o1=>?_;subst o1;clear F;have B:((2:Int)^h)=((2^h:Nat):Int):=by push_cast;rfl
 have J:0<2^h:=ph h;have e:((2:Int)^h-1)=((2^h-1:Nat):Int):=by refine ab B ?_;omega+splitDisjunctions
 refine ab e (ab B (ab (bitAnd_pp (aX _) (aX _)) ?_));simp only[bK];exact ab (Nat.and_two_pow_sub_one_eq_mod ..) (cA (MS ..) rfl)
theorem wR{x y:Int}(F:0<=x){h:Nat}(Y:0<=y)(G:y<2^h):HN (x*2^h) y=x*2^h+y:=by
 refine aI (dW F) λm r=>ab r<|aI (dW Y) λj A=>?_;subst A;have Q:j<2^h:=fh.mp G;refine ab (bitOr_and ..) (cA (pg ..) (ab (bitAnd_pp (aX _) (aX _)) ?_));have e:m*2^h&&&j=0:=by
  apply Fi;refineλi=>ab (Qf ..) (ab (BH ..) (ab (Nat.zero_testBit ..) ?_));by_cases hi:h<=i
  ·simp only[Nat.testBit_lt_two_pow (be Q (i6 (by decide) hi)),Bool.and_false]
  ·simp[hi]
 exact ab e<|dN ((λ{a b}=>Int.neg_inj.mp) rfl)
theorem lN(x:Int)(h:Nat):x.fdiv (2^h)=x/2^h:=bN _ (aF (Xe (by decide)))
theorem fY(h:Nat):(0:Int)<2^h:=Xe (by decide)
theorem kh{x:Int}{m:Nat}(h:ag x<=m):x.natAbs<2^m:=e8.mp h
theorem ke{a b q r:Int}(O:0<b)(e:a=q*b+r)(Y:0<=r)(J:r<b):a.fdiv b=q/\a.fmod b=r:=by
 refine ab (bN _ (aF O)) (ab (bA _ (aF O)) ?_);refine ab e ?_;constructor
 ·exact ab (UH ..)<|ab (BV _ _ (cH O))<|ab (Int.ediv_eq_zero_of_lt Y J)<|BW q
 ·exact ab (UH ..) (ab (Int.add_mul_emod_self_right ..) (ab (Int.emod_eq_of_lt Y J) rfl))
theorem gM{G:Loc->St->Option Bool}{body:Loc->St->Option (Fl×Loc×St)}{n:Nat}{loc:Loc}{st:St}(h:G loc st=some false):gh G body (n+1) loc st=some (.next,loc,st):=(zp.2 ..).trans (ua h rfl)
theorem pI{G:Loc->St->Option Bool}{body:Loc->St->Option (Fl×Loc×St)}{n:Nat}{loc loc':Loc}{st st':St}{R:Option (Fl×Loc×St)}(h:G loc st=some true)(U:body loc st=some (.next,loc',st'))(Z:gh G body n loc' st'=R):gh G body (n+1) loc st=R:=(zp.2 ..).trans (ua h (ua U Z))
theorem Lo{k:Nat}{args:List AV}:(BK (k+1)).O 2 args=iR (BK k) f2 args:=rfl
theorem TO{k:Nat}{args:List AV}:(BK (k+1)).O 3 args=iR (BK k) f3 args:=rfl
theorem TP{k:Nat}{args:List AV}:(BK (k+1)).O 6 args=iR (BK k) f6 args:=rfl
theorem C8{k:Nat}{args:List AV}:(BK (k+1)).O 7 args=iR (BK k) f7 args:=rfl
theorem Yy(k:Nat):(BK k).Y= [40,2,1,4000]:=rfl
theorem uW(k:Nat){a b n:Int}(h:(ag a:Int)-n<=4000)(O:¬(b=0\/9000<=b.natAbs.log2)):(BK (k+1)).O 2 [.int a,.int b,.int n]=some (.tup [.int (a.fdiv b),.int (a.fmod b)]):=by simp only[Lo];refine eC.run rfl<|.oq (by simp[(id fD),(id cw),binI,(id cb),Yy,h])<|.ret (by simp only[(id fD),lC,af,bo,bE,da,if_neg O]) rfl
theorem V4(k:Nat)(a12 a3 b b1 b2 n q r:Int)(Y: -2*b<=r)(J:r<b)(O:0<b)(m:Nat){I:Prop}(N:∀i e,i*b+e=q*b+r->0<=e->e<b->gh (λloc st=>do cU st (<-ev (BK k) st (.cmp .Lt (.a 7) (.d 0)) loc)) (λloc st=>dh (BK k) [.aug 6 .Sub (.d 1),.aug 7 .Add (.a 2)] loc st) (m+3) [.int a12,.int a3,.int b,.int b1,.int b2,.int n,.int q,.int r] []=
 some (.next,[.int a12,.int a3,.int b,.int b1,.int b2,.int n,.int i,.int e],[])->I):I:=by
 have done:∀(q r:Int) (m:Nat),0<=r->gh (λloc st=>do cU st (<-ev (BK k) st (.cmp .Lt (.a 7) (.d 0)) loc)) (λloc st=>dh (BK k) [.aug 6 .Sub (.d 1),.aug 7 .Add (.a 2)] loc st) (m+1) [.int a12,.int a3,.int b,.int b1,.int b2,.int n,.int q,.int r] []=
  some (.next,[.int a12,.int a3,.int b,.int b1,.int b2,.int n,.int q,.int r],[]):=λq r m h=>gM (by
  have:decide (r<0)=false:=by simpa using h
  simp[(id fD),(id cb),(id lY),this])
 have A:∀(q r:Int) (m:Nat) (R:Option (Fl×Loc×St)),r<0->gh (λloc st=>do cU st (<-ev (BK k) st (.cmp .Lt (.a 7) (.d 0)) loc)) (λloc st=>dh (BK k) [.aug 6 .Sub (.d 1),.aug 7 .Add (.a 2)] loc st) m [.int a12,.int a3,.int b,.int b1,.int b2,.int n,.int (q-1),.int (r+b)] []=R->
  gh (λloc st=>do cU st (<-ev (BK k) st (.cmp .Lt (.a 7) (.d 0)) loc)) (λloc st=>dh (BK k) [.aug 6 .Sub (.d 1),.aug 7 .Add (.a 2)] loc st) (m+1) [.int a12,.int a3,.int b,.int b1,.int b2,.int n,.int q,.int r] []=R:=λq r m R h j=>pI (by
  have:decide (r<0)=true:=by simpa using h
  simp[(id fD),(id cb),(id lY),this]) (by rfl) j
 by_cases P:0<=r
 ·exact N q r rfl P J (done q r _ P)
 ·by_cases B:0<=r+b
  ·refine N (q-1) (r+b) ?_ B (by lia) (A q r _ _ (uz P) (done _ _ _ B));refine ab (lg ..) ?_;lia
  ·refine N (q-1-1) (r+b+b) ?_ (by lia) (by lia) (A q r _ _ (uz P) (A _ _ _ _ (uz B) (done _ _ _ (by lia))));refine ab (lg ..) (ab (lg ..) ?_);lia
theorem NK{P b1 b2 q F a3:Int}(m:0<P)(H:b2<P)(U:P<=2*b1)(R:0<=q)(D:q<P)(A:0<=b2)(G:0<=F)(L:0<=a3): -2*(b1*P+b2)<=F*P+a3-q*b2:=by have e1:q*b2<=P*P:=Int.mul_le_mul (aF D) (aF H) A (aF m);have e2:P*P<=2*b1*P:=bl U (aF m);have c:0<=F*P:=gP G (aF m);lia
theorem Vq(k h:Nat){a12 a3 b1 b2:Int}(hh:1<=h)(t:h<=4000)(N:(2:Int)^h<=2*b1)(X:b1<2^h)(H:0<=b2)(w:b2<2^h)(f:0<=a12)(L:a12<b1*2^h+b2)(h3:0<=a3)(h3':a3<2^h):
 (BK (k+2)).O 3 [.int a12,.int a3,.int (b1*2^h+b2),.int b1,.int b2,.int h]=some (.tup [.int ((a12*2^h+a3).fdiv (b1*2^h+b2)),.int ((a12*2^h+a3).fmod (b1*2^h+b2))]):=by
 have m:=fY h;have A:0<b1:=by lia
 generalize O:b1*2^h+b2=b at*;have I:0<b:=Int.lt_of_le_of_lt f L;refine ab TO ?_;have Z:∃q F:Int,a12=q*b1+F/\0<=q/\q<2^h/\0<=F/\(a12*2^h+a3)-q*b<b/\F<2^h*2^h/\
  ∀(l:List CS) (v:AV),eC (BK (k+1)) l [.int a12,.int a3,.int b,.int b1,.int b2,.int h,.int q,.int F] [] v->
   eC (BK (k+1)) (.ite (.cmp .Eq (.f .RShift (.a 0) (.a 5)) (.a 3)) [.cI (.many [6,7]) (.tuple [(.f .Sub (.f .LShift (.d 1) (.a 5)) (.d 1)),(.f .Add (.f .Sub (.a 0) (.f .LShift (.a 3) (.a 5))) (.a 3))])] [.cI (.many [6,7]) (.call 2 [(.a 0),(.a 3),(.a 5)])]::l)
    [.int a12,.int a3,.int b,.int b1,.int b2,.int h,.c,.c] [] v:=by
  have d:ag b1<=h:=e8.mpr (by grind)
  by_cases V:a12/2^h=b1
  ·refine⟨2^h-1,a12-b1*2^h+b1,?_,Int.sub_nonneg_of_le m,by lia,?_,?_,?_,λl v j=>?_⟩
   ·refine ab (lg ..) (ab (bR (2^h) b1) ?_);lia
   ·have:=Int.ediv_mul_le a12 (cH m);rw[V]at this;lia
   ·have e1:(a12+1)*2^h<=b*2^h:=bl (gq L) (aF m);lia
   ·have e1:b1*2^h<2^h*2^h:=fG X m;have:(2:Int)^h<=2^h*2^h:=by
     have:=bl (show(1:Int)<=2^h by exact iU m) (aF m);lia
    have e6:2*2^h<=(2:Int)^h*2^h:=bl (by
     have J:2^1<=2^h:=i6 (by decide) hh;have B:((2:Int)^h)=((2^h:Nat):Int):=by push_cast;rfl
     exact wy rfl B J) (aF m)
    lia
   ·refine .oq (by simp[(id fD),(id cw),binI,(id cb),(id jJ),lN,V]) ?_;have s:(ag 1:Int)+h<=2^27:=by
     have:ag 1=1:=by rfl
     lia
    have P:(ag b1:Int)+h<=2^27:=by lia
    refine .cI (x:=.tup [.int (2^h-1),.int (a12-b1*2^h+b1)]) ?_ rfl j;simp only[(id fD),aK,af,(id jW),bo,bE,aj,af,(id cw),binI,aX,s,P,and_self,if_true,aK,bK,iV,aJ]
  ·have y:a12/2^h<b1:=by
    have:a12/2^h<=b1:=by have:a12/2^h<b1+1:=cR m (by refine ab (g8 ..) ?_;lia);exact(Int.add_le_add_iff_right 1).mp this
    exact Std.lt_of_le_of_ne this V
   have p:a12<b1*2^h:=(Int.ediv_lt_iff_lt_mul m).mp y;have D:a12.fdiv b1=a12/b1:=bN _ (aF A);have M:=dk a12 A;refine⟨a12.fdiv b1,a12.fmod b1,?_,?_,?_,?_,?_,?_,λl v j=>?_⟩
   ·exact ab D<|ab (bA _ (aF A))<|ab (bR ..)<|dN (cq a12 b1)
   ·exact ab D<|eR f (aF A)
   ·exact ab D<|cR A (ab (bR ..)<|p)
   ·exact ab (bA _ (aF A))<|(dI a12 (cH A))
   ·refine ab D ?_;have e1:(a12% b1+1)*2^h<=b1*2^h:=bl (gq M) (aF m);have e2:(b1*(a12/b1)+a12% b1)*2^h=a12*2^h:=ab (cq a12 b1) rfl;have c:0<=(a12/b1)*b2:=gP (eR f (aF A)) H;have Y:(a12/b1)*b=(a12/b1)*(b1*2^h)+(a12/b1)*b2:=cA O (ab (nk ..) rfl);lia
   ·refine ab (bA _ (aF A)) ?_;have:(2:Int)^h<=2^h*2^h:=by
     have:=bl (show(1:Int)<=2^h by exact iU m) (aF m);lia
    lia
   ·refine .jo (by simp[(id fD),(id cw),binI,(id cb),(id jJ),lN,V]) ?_;have G:(ag a12:Int)-h<=4000:=by
     have:ag a12<=h+h:=e8.mpr (by
      have B:((2:Int)^h)=((2^h:Nat):Int):=by push_cast;rfl
      have e1:a12<2^h*2^h:=ou p (fG X m);rw[B,<-pg,<-qe]at e1;grind)
     lia
    have T:¬(b1=0\/9000<=b1.natAbs.log2):=by have:b1.natAbs.log2<h:=(i0 (by grind)).mpr (e8.mp d);lia
    refine .cI (x:=.tup [.int (a12.fdiv b1),.int (a12.fmod b1)]) ?_ rfl j;have:=uW k (a:=a12) (b:=b1) (n:=h) G T;exact this
 refine Vw Z λq F k1 S K C g k6 k7=>?_;have hX:F*2^h+a3-q*b2=(a12*2^h+a3)-q*b:=by refine ab k1 (cA O (ab (g8 ..) (ab (nk ..) (ab (fL ..) ?_))));lia
 have E:=NK m w N S K H C h3;simp only[O]at E;refine V4 k.succ a12 a3 b b1 b2 h q (F*2^h+a3-q*b2) E (ab hX<|g) I 197 λi e l1 l2 l3 l4=>aN (ke (a:=a12*2^h+a3) (b:=b) (q:=i) (r:=e) I (by grind) l2 l3) λW Q=>ab W<|ab Q<|eC.run rfl (k7 _ _ ?_);have u:(ag F:Int)+h<=2^27:=by
  have:ag F<=h+h:=e8.mpr (by
   have B:((2:Int)^h)=((2^h:Nat):Int):=by push_cast;rfl
   rw[B,<-pg,<-qe]at k6;lia)
  lia
 have o:q.natAbs.log2+b2.natAbs.log2<=100000:=by
  have J:q.natAbs.log2<=h:=by
   by_cases R:q.natAbs=0
   ·refine ab R ?_;simp
   ·exact cm ((i0 R).mpr (by grind))
  have U:b2.natAbs.log2<=h:=by
   by_cases R:b2.natAbs=0
   ·refine ab R ?_;simp
   ·exact cm ((i0 R).mpr (by lia))
  lia
 refine .cI (x:=.int (F*2^h+a3-q*b2)) (loc':= [.int a12,.int a3,.int b,.int b1,.int b2,.int h,.int q,.int (F*2^h+a3-q*b2)]) ?_ rfl ?_
 ·simp only[(id fD),aK,af,bo,bE,aj,af,(id cw),binI,aX,u,and_self,if_true,aK,bK,wR C h3 h3',o,true_or]
 exact .next (rd l4)<|.ret rfl rfl
theorem eP{C:dC}{st:St}{loc:Loc}{f:Nat}{l:List CE}{vs:List AV}{v:AV}(h:sq C st l loc=some vs)(Q:dU vs=true)(N:C.O f vs=some v):ev C st (.call f l) loc=some v:=by simp only[(id fD),af,h,aj,af,Q,if_true,N]
theorem pq{x:Int}{m:Nat}(Y:0<=x)(J:x<2^m):ag x<=m:=e8.mpr (by
 have B:((2:Int)^m)=((2^m:Nat):Int):=by push_cast;rfl
 lia)
theorem Th{x:Int}{m:Nat}(Y:0<=x)(J:x<2^m):x.natAbs.log2<=m:=by
 have B:((2:Int)^m)=((2^m:Nat):Int):=by push_cast;rfl
 by_cases R:x.natAbs=0
 ·exact ab R<|dT rfl
 ·exact cm ((i0 R).mpr (by lia))
theorem ng(a b:Nat):(2:Int)^(a+b)=2^a*2^b:=Int.pow_add ..
theorem wZ(k h:Nat){a b:Int}(hh:1<=h)(t:h<=4000)(O:(2:Int)^(h+h)<=2*b)(K:b<2^(h+h))(L:0<=a)(I:a<b*2^(h+h))(p:Int)(l:List CS)(v:AV)(S V R n d i G:AV)
 (j:eC (BK (k+3)) l [.int a,.int b,.int ((h+h:Nat):Int),.int p,.int h,.int (2^h-1),.int (b/2^h),.int (b% 2^h),.int ((a/2^h).fdiv b),.int (a.fmod b),.int (((a/2^h).fmod b*2^h+a% 2^h).fdiv b)] [] v):
 eC (BK (k+3)) (.cI (.bX 4) (.f .RShift (.a 2) (.d 1)):: .cI (.bX 5) (.f .Sub (.f .LShift (.d 1) (.a 4)) (.d 1)):: .cI (.many [6,7]) (.tuple [(.f .RShift (.a 1) (.a 4)),(.f .BitAnd (.a 1) (.a 5))])::
  .cI (.many [8,9]) (.call 3 [(.f .RShift (.a 0) (.a 2)),(.f .BitAnd (.f .RShift (.a 0) (.a 4)) (.a 5)),(.a 1),(.a 6),(.a 7),(.a 4)])::
  .cI (.many [10,9]) (.call 3 [(.a 9),(.f .BitAnd (.a 0) (.a 5)),(.a 1),(.a 6),(.a 7),(.a 4)])::l) [.int a,.int b,.int ((h+h:Nat):Int),.int p,S,V,R,n,d,i,G] [] v:=by
 have m:=fY h;have Y:(2:Int)^(h+h)=2^h*2^h:=ng h h;have A:0<b:=by have:=fY (h+h);lia
 rw[Y]at O K I;have N:(2:Int)^h<=2*(b/2^h):=by
  obtain⟨g,rfl⟩:∃g,h=g+1:=⟨h-1,(kK hh).mp rfl⟩;have e1:(2:Int)^(g+1)=2*2^g:=ab (tH ..) (ab (bR ..) rfl);have e2:(2:Int)^g*2^(g+1)<=b:=by have c:(2:Int)^(g+1)*2^(g+1)=2*(2^g*2^(g+1)):=cA (fL ..) (cA e1 rfl);lia
  have:=DA m e2;lia
 have X:b/2^h<2^h:=cR m (Fe K);have F:=dI b (cH m);have W:=dk b m;have B:b/2^h*2^h+b% 2^h=b:=ab (bR ..)<|cq b (2^h);have U:a/(2^h*2^h)<b:=cR (wg m m) (Fe I);have f:0<=a/(2^h*2^h):=eR L (aF (wg m m));have q:a/2^h/2^h=a/(2^h*2^h):=Int.ediv_ediv_of_nonneg (aF m);have H:0<=a/2^h:=eR L (aF m);have D:=dI (a/2^h) (cH m);have C:=dk (a/2^h) m;have T:=dI a (cH m);have Z:=dk a m;have P:a/(2^h*2^h)*2^h+a/2^h% 2^h=a/2^h:=cA q<|ab (bR ..)<|cq (a/2^h) (2^h);have r:=Vq (k+1) h (a12:=a/(2^h*2^h)) (a3:=a/2^h% 2^h) (b1:=b/2^h) (b2:=b% 2^h) hh t N X F W f (lt_of_lt_of_eq U (id (dN B))) D C;rw[B,P]at r;have o:0<=(a/2^h).fmod b:=bQ _ A;have M:(a/2^h).fmod b<b:=cJ _ A;have Q:=Vq (k+1) h (a12:=(a/2^h).fmod b) (a3:=a% 2^h) (b1:=b/2^h) (b2:=b% 2^h) hh t N X F W o (lt_of_lt_of_eq M (id (dN B))) T Z;rw[B]at Q;have J:((a/2^h).fmod b*2^h+a% 2^h).fmod b=a.fmod b:=by refine ab (bA _ (aF A)) (ab (bA _ (aF A)) (ab (bA _ (aF A)) ?_));have e:=cq a (2^h);exact ab (UI ..) (ab (UK ..) (ab (Int.emod_emod_of_dvd _ (Int.dvd_refl b)) (cA (UK ..) (cA (UI ..) (ab (bR ..) (ab e rfl))))))
 have s:(ag 1:Int)+h<=2^27:=by
  have:ag 1=1:=by decide
  lia
 have E:(((h+h:Nat):Int)).fdiv (2^(1:Int).toNat)=(h:Int):=by refine ab (lN ..) ?_;simp;lia
 refine .cI (x:=.int h) (loc':= [.int a,.int b,.int ((h+h:Nat):Int),.int p,.int h,V,R,n,d,i,G]) (by simp only[(id fD),aK,af,bo,bE,aj,af,(id cw),binI,show(0:Int)<=1 from by decide,if_true,E,aK]) rfl ?_;refine .cI (x:=.int (2^h-1)) (loc':= [.int a,.int b,.int ((h+h:Nat):Int),.int p,.int h,.int (2^h-1),R,n,d,i,G]) (by simp only[(id fD),aK,af,bo,bE,aj,af,(id cw),binI,aX,s,and_self,if_true,aK,bK,iV]) rfl ?_;refine .cI (x:=.tup [.int (b/2^h),.int (b% 2^h)]) (loc':= [.int a,.int b,.int ((h+h:Nat):Int),.int p,.int h,.int (2^h-1),.int (b/2^h),.int (b% 2^h),d,i,G]) (by simp only[(id fD),aK,af,(id jW),bo,bE,aj,af,(id cw),binI,aX,if_true,aK,bK,aJ,lN,oJ (aF A)]) rfl ?_
 refine .cI (x:=.tup [.int ((a/2^h).fdiv b),.int ((a/2^h).fmod b)]) (loc':= [.int a,.int b,.int ((h+h:Nat):Int),.int p,.int h,.int (2^h-1),.int (b/2^h),.int (b% 2^h),.int ((a/2^h).fdiv b),.int ((a/2^h).fmod b),G]) (eP (vs:= [.int (a/(2^h*2^h)),.int (a/2^h% 2^h),.int b,.int (b/2^h),.int (b% 2^h),.int h]) (by simp only[(id fD),aK,af,(id jW),bo,bE,aj,af,(id cw),binI,aX,if_true,aK,bK,aJ,lN,oJ H];exact ab Y rfl) rfl r) rfl ?_
 refine .cI (x:=.tup [.int (((a/2^h).fmod b*2^h+a% 2^h).fdiv b),.int (a.fmod b)]) ?_ rfl j;refine eP (vs:= [.int ((a/2^h).fmod b),.int (a% 2^h),.int b,.int (b/2^h),.int (b% 2^h),.int h]) (by simp only[(id fD),aK,af,(id jW),bo,bE,aj,af,(id cw),binI,aK,aJ,oJ L]) rfl ?_
 exact cA J<|Q
theorem w5{h:Nat}{a b:Int}(A:0<b)(L:0<=a)(I:a<b*(2^h*2^h)):HN ((a/2^h).fdiv b*2^h) (((a/2^h).fmod b*2^h+a% 2^h).fdiv b)=a.fdiv b/\0<=(a/2^h).fdiv b/\(a/2^h).fdiv b<2^h:=by
 have m:=fY h;have T:=dI a (cH m);have Z:=dk a m;have e:=cq a (2^h);have H:0<=a/2^h:=eR L (aF m);refine ab (bN _ (aF A)) (ab (bN _ (aF A)) (ab (bN _ (aF A)) (ab (bA _ (aF A)) ?_)));have o:=dI (a/2^h) (cH A);have M:=dk (a/2^h) A;have F:=cq (a/2^h) b;generalize j:a/2^h/b=t at*;generalize G:a/2^h% b=W at*;generalize P:a/2^h=X at*;generalize K:a% 2^h=l at*;have J:0<=W*2^h+l:=by have:=gP o (aF m);exact gO this T
 have y:W*2^h+l<2^h*b:=by
  have e1:(W+1)*2^h<=b*2^h:=bl (gq M) (aF m);rw[g8]at e1;have:=bR b (2^h)
  (clear this e T K F G j H P M o m I L A;lia)
 have n:(W*2^h+l)/b<2^h:=cR A y;have C:0<=(W*2^h+l)/b:=eR J (aF A);have B:0<=t:=cA j<|eR H (aF A);have E:t<2^h:=by refine cA j<|cR A<|cA P<|cR m ?_;have e1:b*(2^h*2^h)=2^h*b*2^h:=cA (fL ..) (ab (bR b ..) rfl);exact lt_of_lt_of_eq I e1
 refine⟨?_,B,E⟩;refine ab (wR B C n) ?_;have e1:=cq (W*2^h+l) b;have e2:=dI (W*2^h+l) (cH A);have c:=dk (W*2^h+l) A;generalize(W*2^h+l)/b=V at*;generalize f:(W*2^h+l)% b=w at*;have R:a=(t*2^h+V)*b+w:=by
  have Y:2^h*X=2^h*(b*t)+2^h*W:=cA (nk ..) (ab F rfl);have S:(t*2^h+V)*b=2^h*(b*t)+b*V:=ab (g8 ..) (ab (bR V b) (ab (bR t ..) (ab (fL ..) (ab (bR t b) rfl))));have D:W*2^h=2^h*W:=bR ..
  (clear D S c f C n E B y Z T K G j H P M o m L A;lia)
 have:=(ke A R e2 c).1;rw[bN _ (aF A)]at this;exact this.symm
theorem XH(k N:Nat){a b:Int}(Q:1<=N)(C:N<=7000)(O:(2:Int)^N<=2*b)(K:b<2^N)(L:0<=a)(I:a<b*2^N):(BK (k+4)).O 2 [.int a,.int b,.int N]=some (.tup [.int (a.fdiv b),.int (a.fmod b)]):=by
 have A:0<b:=by have:=fY N;lia
 have T:¬(b=0\/9000<=b.natAbs.log2):=by have:=Th (m:=N) (aF A) K;lia
 by_cases G:(ag a:Int)-N<=4000
 ·exact uW (k+3) G T
 refine bp Lo<|eC.run rfl (.jo (by have:decide ((ag a:Int)-N<=4000)=false:=decide_eq_false G;simp[(id fD),(id cw),binI,(id cb),Yy,this]) ?_)
 have S:E8 (N:Int) 1=((N% 2:Nat):Int):=by refine bp (bitAnd_m1 ..) ?_;rfl
 have E:a<2^(N+N):=by have:=fG K (fY N);exact ab (ng ..)<|ou I this
 have X:(ag a:Int)<=N+N:=by have:=pq L E;exact wy rfl rfl this
 have M:(ag b:Int)<=N:=by have:=pq (aF A) K;exact eG.mpr this
 refine .cI (x:=.int ((N% 2:Nat):Int)) (loc':= [.int a,.int b,.int N,.int ((N% 2:Nat):Int),.c,.c,.c,.c,.c,.c,.c]) (by simp only[(id fD),aK,af,da,jC,bo,bE,aj,af,(id cw),binI,S,aK]) rfl ?_;clear S;by_cases B:N% 2=0
 ·obtain⟨h,rfl⟩:∃h,N=h+h:=⟨N/2,by lia⟩;refine ab B<|.ite (a:=.int 0) (r:=false) rfl rfl<|wZ k h (by lia) (by lia) O K L I _ _ _ _ _ _ _ _ _ _ ?_;rw[ng]at I;refine eY (w5 A L I) λD e U=>.ite (a:=.int 0) (r:=false) rfl rfl<|.ret (pz (eN (x:=.int ((a/2^h).fdiv b*2^h)) (y:=.int (((a/2^h).fmod b*2^h+a% 2^h).fdiv b)) ?_ rfl ?_) rfl) rfl
  ·have:(ag ((a/2^h).fdiv b):Int)+h<=2^27:=by
    have:=pq e U;lia
   simp only[(id fD),aK,af,bo,bE,aj,af,(id cw),binI,aX,this,and_self,if_true,aK,bK]
  ·simp only[(id cw),binI,D,aK]
 ·have V:N% 2=1:=Nat.mod_two_ne_zero.mp B;refine ew λY=>?_;obtain⟨h,hh⟩:∃h,N+1=h+h:=⟨(N+1)/2,by lia⟩;refine Y ?_;clear Y;refine ab V ?_;have e1:(2:Int)^(h+h)=2*2^N:=cA hh (bp (tH ..) (ab (bR ..) rfl));have s:(ag a:Int)+1<=2^27:=by lia
  have P:(ag b:Int)+1<=2^27:=by lia
  refine .ite (a:=.int 1) (r:=true) rfl rfl<|.next (fW (x:=.int a) (v:=.int 1) (y:=.int (a*2)) (loc':= [.int (a*2),.int b,.int N,.int 1,.c,.c,.c,.c,.c,.c,.c]) rfl rfl rfl (by simp only[(id cw),binI,s,show(0:Int)<=1 from by decide,and_self,if_true,aK];rfl) rfl)<|.next (fW (x:=.int b) (v:=.int 1) (y:=.int (b*2)) (loc':= [.int (a*2),.int (b*2),.int N,.int 1,.c,.c,.c,.c,.c,.c,.c]) rfl rfl rfl (by simp only[(id cw),binI,P,show(0:Int)<=1 from by decide,and_self,if_true,aK];rfl) rfl)<|.next (fW (x:=.int N) (v:=.int 1) (y:=.int ((h+h:Nat):Int)) (loc':= [.int (a*2),.int (b*2),.int ((h+h:Nat):Int),.int 1,.c,.c,.c,.c,.c,.c,.c]) rfl rfl rfl (by refine cA hh ?_;rfl) rfl) ?_;have J:a*2<b*2*2^(h+h):=by refine ab e1 ?_;lia
  refine wZ k h (a:=a*2) (b:=b*2) (by lia) (by lia) (by lia) (by lia) (by lia) J _ _ _ _ _ _ _ _ _ _ ?_;rw[ng]at J;refine eY (w5 (b:=b*2) (by lia) (by lia) J) λD e U=>?_;have R:=cq a b;have F:=dI a (cH A);have W:=dk a A;refine aN (ke (a:=a*2) (b:=b*2) (q:=a/b) (r:=a% b*2) (by lia) (by lia) (by lia) (by lia)) λH g=>?_
  simp only[H]at D;refine ab g<|.ite (a:=.int 1) (r:=true) rfl rfl<|.next (fW (x:=.int (a% b*2)) (v:=.int 1) (y:=.int (a% b)) (loc':= [.int (a*2),.int (b*2),.int ((h+h:Nat):Int),.int 1,.int h,.int (2^h-1),.int (b*2/2^h),.int (b*2% 2^h),.int ((a*2/2^h).fdiv (b*2)),.int (a% b),.int (((a*2/2^h).fmod (b*2)*2^h+a*2% 2^h).fdiv (b*2))]) rfl rfl rfl (by
   have:(a% b*2).fdiv (2^(1:Int).toNat)=a% b:=by refine bp (lN ..) ?_;show a% b*2/2^1=_;lia
   simp only[(id cw),binI,show(0:Int)<=1 from by decide,if_true,this,aK]) rfl) ?_
  refine ab (bN _ (aF A))<|ab (bA _ (aF A))<|.ret (pz (eN (x:=.int ((a*2/2^h).fdiv (b*2)*2^h)) (y:=.int (((a*2/2^h).fmod (b*2)*2^h+a*2% 2^h).fdiv (b*2))) ?_ rfl ?_) rfl) rfl
  ·have:(ag ((a*2/2^h).fdiv (b*2)):Int)+h<=2^27:=by
    have:=pq e U;lia
   simp only[(id fD),aK,af,bo,bE,aj,af,(id cw),binI,aX,this,and_self,if_true,aK,bK]
  ·simp only[(id cw),binI,D,aK]
theorem bf{t:kR}{body:Loc->St->Option (Fl×Loc×St)}{v:AV}{l:List AV}{loc loc1 loc2:Loc}{st st2:St}{R:Option (Fl×Loc×St)}(O:cT loc t v=some loc1)(h:body loc1 st=some (.next,loc2,st2))(U:iP t body l loc2 st2=R):iP t body (v::l) loc st=R:=(vh.2 ..).trans (ua O (ua h U))
theorem fX{t:kR}{body:Loc->St->Option (Fl×Loc×St)}{loc:Loc}{st:St}:iP t body [] loc st=some (.next,loc,st):=rfl
theorem eC.sy{C:dC}{t:kR}{it:CE}{b l:List CS}{loc loc':Loc}{st st':St}{a:AV}{L:List AV}{v:AV}(h:ev C st it loc=some a)(hi:fQ st a=some L)(G:iP t (λloc st=>dh C b loc st) L loc st=some (.next,loc',st'))(U:eC C l loc' st' v):eC C (.m t it b::l) loc st v:=.next (gT h hi G) U
theorem FK{b:Int}(O:0<b){I:Prop}(N:1<=ag b->(2:Int)^(ag b)<=2*b->b<2^(ag b)->I):I:=by
 have J:b.natAbs<2^(ag b):=kh (aV _);have A:1<=ag b:=by
  refine ak (Nat.eq_zero_or_pos (ag b)) (λe=>?_) λe=>?_
  ·rw[e]at J;simp at J;lia
  ·exact e
 obtain⟨m,T⟩:∃m,ag b=m+1:=⟨ag b-1,by lia⟩;have U:¬b.natAbs<2^m:=λh=>by
  have:=e8.mpr h;lia
 have B:∀j:Nat,((2:Int)^j)=((2^j:Nat):Int):=λj=>by push_cast;rfl
 refine N A ?_ ?_
 ·refine ab T (ab (tH ..) (ab (B ..) ?_));(clear B T A J N;lia)
 ·refine ab (B ..) ?_;(clear B U T A N;lia)
theorem SH{a:Int}{N:Nat}(L:0<=a)(Q:1<=N)(C:N<=7000)(O:ag a<=N+N):(a=0/\MM a N=some [])\/(a≠0/\a<2^N/\MM a N=some [.int a])\/(a≠0/\MM a N=some [.int (a% 2^N),.int (a/2^N)]/\a<2^N*2^N):=by
 delta MM;refine ab (if_neg (by lia)) ?_;by_cases Y:a=0
 ·exact .inl ⟨Y,if_pos Y⟩
 refine ab (if_neg Y) ?_;have B:∀j:Nat,((2:Int)^j)=((2^j:Nat):Int):=λj=>by push_cast;rfl
 by_cases J:(ag a:Int)<=N
 ·refine ab (if_pos J) ?_;have:=kh (x:=a) (m:=N) (eG.mp J);exact .inr (.inl ⟨Y,by refine ab (B ..) ?_;lia,rfl⟩)
 ·refine ab (if_neg J) (ab (if_pos (by lia)) ?_);have:=kh (x:=a) (m:=N+N) O;refine .inr (.inr ⟨Y,?_,?_⟩)
  ·exact ab (bK ..) (ab (lN ..) (ab (bA _ (aF (fY N))) rfl))
  ·refine cA (ng ..) (ab (B ..) ?_);lia
theorem O4{k:Nat}{a n:Int}:(BK (k+4)).O 4 [.int a,.int n]=(MM a n).map .lst:=rfl
theorem L6(k N:Nat){a b r d:Int}{ds q8:AV}{qs:List AV}{qx:AV}(Q:1<=N)(C:N<=7000)(O:(2:Int)^N<=2*b)(K:b<2^N)(o:0<=r)(A:ag r<=N)(u:0<=d)(F:r*2^N+d<b*2^N)(D:qs.length<=10):
 dh (BK (k+4)) [.cI (.many [7,4]) (.call 2 [(.f .Add (.f .LShift (.a 4) (.a 2)) (.a 6)),(.a 1),(.a 2)]),.app 5 (.a 7)] [.int a,.int b,.int N,ds,.int r,.ref 0,.int d,qx,q8] [some qs]=
  some (.next,[.int a,.int b,.int N,ds,.int ((r*2^N+d).fmod b),.ref 0,.int d,.int ((r*2^N+d).fdiv b),q8],[some (qs++ [.int ((r*2^N+d).fdiv b)])]):=by
 have Y:0<=r*2^N+d:=by have:=gP o (aF (fY N));exact gO this u
 have X:(ag r:Int)+N<=2^27:=by lia
 refine aO (gw (v:=.tup [.int ((r*2^N+d).fdiv b),.int ((r*2^N+d).fmod b)]) (loc':= [.int a,.int b,.int N,ds,.int ((r*2^N+d).fmod b),.ref 0,.int d,.int ((r*2^N+d).fdiv b),q8]) (eP (vs:= [.int (r*2^N+d),.int b,.int N]) ?_ rfl (XH k N Q C O K Y F)) rfl) ?_
 ·simp only[(id fD),aK,af,(id jW),bo,bE,aj,af,(id cw),binI,aX,X,and_self,if_true,aK,bK,aJ]
 ·exact aO (jK (v:=.int ((r*2^N+d).fdiv b)) (n:=0) (l:=qs) rfl rfl rfl (aP D (by decide))) rfl
theorem Sg(k N:Nat){a b r:Int}{ds d A q8:AV}{qs:List AV}{q:Int}(D:qs.length<=10)(Q:dU qs.reverse=true)(u:QF qs.reverse N=some (.int q)):
 eC (BK (k+4)) [.rev 5,.v 5,.cI (.bX 8) (.call 5 [(.a 5),(.a 2)]),.ret (.tuple [(.a 8),(.a 4)])] [.int a,.int b,.int N,ds,.int r,.ref 0,d,A,q8] [some qs] (.tup [.int q,.int r]):=by
 have B:qs.length<=cB:=aP D (by decide);exact .next (loc':= [.int a,.int b,.int N,ds,.int r,.ref 0,d,A,q8]) (st':= [some qs.reverse]) (by simp[(id oN),(id fD),B])<|.next (ji (n:=0) (l:=qs.reverse) (l':=qs.reverse) (st':= [none]) (loc':= [.int a,.int b,.int N,ds,.int r,.lst qs.reverse,d,A,q8]) rfl rfl (iD _ Q) rfl)<|.cI (x:=.int q) (eP (vs:= [.lst qs.reverse,.int N]) rfl (by simp[(id mz),(id qD),Q]) u) rfl<|.ret rfl rfl
theorem XU(k:Nat){a b:Int}(O:0<b)(ha:0<=a)(C:ag b<=7000)(I:ag a<=ag b+ag b):(BK (k+5)).O 6 [.int a,.int b]=some (.tup [.int (a.fdiv b),.int (a.fmod b)]):=by
 refine FK O λQ u n2=>?_;generalize q:ag b=N at*;have m:=fY N;have D:ag 0<=N:=by have:ag 0=0:=by rfl
                                                                                 exact dT rfl
 simp only[TP];refine eC.run rfl<|.cI (x:=.int N) (loc':= [.int a,.int b,.int N,.c,.c,.c,.c,.c,.c]) (by refine cA q ?_;rfl) rfl ?_;have P:∀ds:List AV,MM a N=some ds->dU ds=true->eC (BK (k+4)) [.cI (.bX 4) (.d 0),.new 5 (.list []),.m (.bX 6) (.K (.a 3)) [.cI (.many [7,4]) (.call 2 [(.f .Add (.f .LShift (.a 4) (.a 2)) (.a 6)),(.a 1),(.a 2)]),.app 5 (.a 7)],.rev 5,.v 5,.cI (.bX 8) (.call 5 [(.a 5),(.a 2)]),.ret (.tuple [(.a 8),(.a 4)])] [.int a,.int b,.int N,.lst ds,.c,.c,.c,.c,.c] [] (.tup [.int (a.fdiv b),.int (a.fmod b)])->
  eC (BK (k+4)) (.cI (.bX 3) (.call 4 [(.a 0),(.a 2)]):: [.cI (.bX 4) (.d 0),.new 5 (.list []),.m (.bX 6) (.K (.a 3)) [.cI (.many [7,4]) (.call 2 [(.f .Add (.f .LShift (.a 4) (.a 2)) (.a 6)),(.a 1),(.a 2)]),.app 5 (.a 7)],.rev 5,.v 5,.cI (.bX 8) (.call 5 [(.a 5),(.a 2)]),.ret (.tuple [(.a 8),(.a 4)])]) [.int a,.int b,.int N,.c,.c,.c,.c,.c,.c] [] (.tup [.int (a.fdiv b),.int (a.fmod b)]):=by
  refineλds J U Z=>.cI (x:=.lst ds) (eP (vs:= [.int a,.int N]) rfl rfl (by refine ab O4 (ab J ?_);rfl)) rfl Z
 have A:¬((N:Int)<=0\/100000< (N:Int)):=by lia
 refine ak (SH ha Q C I) (λT=>aN T λY J=>?_) λu4=>ak u4 (λu5=>eY u5 λY J U=>?_) λK=>eY K λY J U=>?_;clear I
 ·refine P _ J rfl<|.cI (x:=.int 0) (loc':= [.int a,.int b,.int N,.lst [],.int 0,.c,.c,.c,.c]) rfl rfl<|.next (iO (l:= []) (loc':= [.int a,.int b,.int N,.lst [],.int 0,.ref 0,.c,.c,.c]) rfl rfl rfl)<|.sy (a:=.lst []) (L:= []) rfl rfl fX<|ab Y<|Sg k N (by simp) rfl (by delta QF;refine ab (if_neg A) ?_;rfl)
 ·refine P _ U rfl<|.cI (x:=.int 0) (loc':= [.int a,.int b,.int N,.lst [.int a],.int 0,.c,.c,.c,.c]) rfl rfl<|.next (iO (l:= []) (loc':= [.int a,.int b,.int N,.lst [.int a],.int 0,.ref 0,.c,.c,.c]) rfl rfl rfl) ?_;have F:(0:Int)*2^N+a<b*2^N:=by
   have:=bl (show(1:Int)<=b by exact iU O) (aF m);lia
  refine .sy (a:=.lst [.int a]) (L:= [.int a]) rfl rfl (bf (loc1:= [.int a,.int b,.int N,.lst [.int a],.int 0,.ref 0,.int a,.c,.c]) rfl (L6 k N Q C u n2 (g9 _) D ha F (by decide)) fX)<|ab (show(0:Int)*2^N+a=a by lia)<|Sg k N (by simp) rfl (by delta QF;refine ab (if_neg A) ?_;rfl)
 ·refine P _ J rfl<|.cI (x:=.int 0) (loc':= [.int a,.int b,.int N,.lst [.int (a% 2^N),.int (a/2^N)],.int 0,.c,.c,.c,.c]) rfl rfl<|.next (iO (l:= []) (loc':= [.int a,.int b,.int N,.lst [.int (a% 2^N),.int (a/2^N)],.int 0,.ref 0,.c,.c,.c]) rfl rfl rfl) ?_;have v:=dI a (cH m);have s:=dk a m;have p:0<=a/2^N:=eR ha (aF m);have y:a/2^N<2^N:=cR m U;have F:(0:Int)*2^N+a/2^N<b*2^N:=by
   have:=bl (show(1:Int)<=b by exact iU O) (aF m);lia
  have M:=dk (a/2^N) O;have e:(a/2^N).fdiv b=a/2^N/b:=bN _ (aF O);have G:a/2^N% b*2^N+a% 2^N<b*2^N:=by have:=bl (show a/2^N% b+1<=b by exact gq M) (aF m);lia
  have t1:=L6 k N (a:=a) (b:=b) (r:=0) (d:=a/2^N) (ds:=.lst [.int (a% 2^N),.int (a/2^N)]) (q8:=.c) (qs:= []) (qx:=.c) Q C u n2 (g9 _) D p F (by decide);simp only[show(0:Int)*2^N+a/2^N=a/2^N by lia,(bA _ (aF O)),e]at t1;refine .sy (a:=.lst [.int (a/2^N),.int (a% 2^N)]) (L:= [.int (a/2^N),.int (a% 2^N)]) rfl rfl (bf (loc1:= [.int a,.int b,.int N,.lst [.int (a% 2^N),.int (a/2^N)],.int 0,.ref 0,.int (a/2^N),.c,.c]) rfl t1
   (bf (loc1:= [.int a,.int b,.int N,.lst [.int (a% 2^N),.int (a/2^N)],.int (a/2^N% b),.ref 0,.int (a% 2^N),.int (a/2^N/b),.c]) rfl (L6 k N Q C u n2 (dI (a/2^N) (cH O)) (pq (dI (a/2^N) (cH O)) (ou M n2)) v G (by simp)) fX)) ?_
  have i:=dI (a/2^N% b*2^N+a% 2^N) (cH O);have E:=dk (a/2^N% b*2^N+a% 2^N) O;have e1:=cq a (2^N);have e2:=cq (a/2^N) b;have c:=cq (a/2^N% b*2^N+a% 2^N) b;refine ab (bN _ (aF O)) (ab (bA (a/2^N% b*2^N+a% 2^N) (aF O)) ?_);have B:0<=a/2^N/b:=eR p (aF O);have h:a/2^N/b<2^N:=cR O (by grind)
  generalize o:a/2^N=H at*;generalize X:a% 2^N=L at*;generalize j:H/b=t at*;generalize w:H% b=W at*;generalize n:(W*2^N+L)/b=V at*;generalize f:(W*2^N+L)% b=r2 at*;have R:a=(t*2^N+V)*b+r2:=by
   have e4:2^N*H=2^N*(b*t)+2^N*W:=cA (nk ..) (ab e2 rfl);have S:(t*2^N+V)*b=2^N*(b*t)+b*V:=ab (g8 ..) (ab (bR V b) (ab (bR t ..) (ab (fL ..) (ab (bR t b) rfl))))
   (clear S E f n t1 e2 M w h B e j J K u4 s v X F y p o U Y A P D m n2 Q I C q ha O;lia)
  refine aN (ke O R i E) λu1 g=>ab u1<|ab g<|Sg k N (by simp) rfl ?_;delta QF;refine ab (if_neg A) ?_;have hbq:ag t<=1000000:=by have:=pq B h;lia
  simp only[jC,da,List.reverse_cons,List.reverse_nil,Tc,lC,af,if_pos hbq,bK]
noncomputable def VB(a b:Int):AV:=.tup [.int (a.fdiv b),.int (a.fmod b)]
theorem Ak(k:Nat){a b:Int}(O:0<b)(C:ag b<=7000)(I:ag a<=ag b+ag b)(E:ag (-a-1)<=ag b+ag b):(BK (k+7)).O 7 [.int a,.int b]=some (VB a b):=by
 have A:∀(k:Nat) (a:Int),0<=a->ag a<=ag b+ag b->(BK (k+6)).O 7 [.int a,.int b]=some (VB a b):=by
  refineλk a L I=>ab C8<|eC.run rfl ?_;refine .jo (by have:(b==0)=false:=by simp;omega+splitDisjunctions
                                                      simp[(id fD),(id cb),(id jJ),this]) ?_
  refine .jo (by have:decide (b<0)=false:=by simp;omega+splitDisjunctions
                 simp[(id fD),(id cb),this]) ?_
  refine .jo (by have:decide (a<0)=false:=by simpa using L
                 simp[(id fD),(id cb),this]) ?_
  exact .ret (eP (vs:= [.int a,.int b]) rfl rfl (XU k O L C I)) rfl
 by_cases L:0<=a
 ·exact A (k+1) a L I
 refine ab C8<|eC.run rfl ?_;refine .jo (by have:(b==0)=false:=by simp;omega+splitDisjunctions
                                            simp[(id fD),(id cb),(id jJ),this]) ?_
 refine .jo (by have:decide (b<0)=false:=by simp;omega+splitDisjunctions
                simp[(id fD),(id cb),this]) ?_
 refine .oq (by have:decide (a<0)=true:=by simpa using L
                simp[(id fD),(id cb),this]) ?_
 have J:=A k (-a-1) (by(clear A E I C O;lia)) E;refine .cI (x:=VB (-a-1) b) (loc':= [.int a,.int b,.int ((-a-1).fdiv b),.int ((-a-1).fmod b)]) (eP (vs:= [.int (-a-1),.int b]) rfl rfl J) rfl ?_;have F:0<=(-a-1).fmod b:=bQ _ O;have W:(-a-1).fmod b<b:=cJ _ O;have e:=kG (-a-1) b;refine aN (ke (a:=a) (b:=b) (q:= -(-a-1).fdiv b-1) (r:=b+(-(-a-1).fmod b-1)) O (by refine ab (lg ..) (ab (Xd ..) (ab (bR _ b) ?_));(clear W F J L A E I C;omega+splitDisjunctions)) (by(clear e F J L A E I C O;omega+splitDisjunctions)) (by(clear e W J L A E I C;omega+splitDisjunctions))) λH g=>?_
 delta VB;exact ab H<|ab g<|.ret rfl rfl
theorem Jl(k:Nat){a b:Int}(O:0<b)(C:ag b<=7000)(I:ag a<=ag b+ag b)(E:ag (-a-1)<=ag b+ag b):(BK (k+8)).O 7 [.int (-a),.int (-b)]=some (.tup [.int (a.fdiv b),.int (-a.fmod b)]):=by
 have J:=Ak k O C I E;refine ab C8<|eC.run rfl ?_;refine .jo (by have:(-b==0)=false:=by simp;omega+splitDisjunctions
                                                                 simp[(id fD),(id cb),(id jJ),this]) ?_
 refine .oq (by have:decide (-b<0)=true:=by simp;omega+splitDisjunctions
                simp[(id fD),(id cb),O]) ?_
 exact .cI (x:=VB a b) (loc':= [.int (-a),.int (-b),.int (a.fdiv b),.int (a.fmod b)]) (eP (vs:= [.int a,.int b]) (by simp[(id jW),(id fD)]) rfl J) rfl<|.ret rfl rfl
@[irreducible] noncomputable def uN:Int:=3^2600
@[irreducible] noncomputable def sN:Int:=2^4090
theorem vW:(2:Int)^4100<=uN/\uN<2^4122:=by
 delta uN;have J:2^4100<=3^2600:=by decide+kernel
 have U:3^2600<2^4122:=by decide+kernel
 have e1:((2:Int)^4100)=((2^4100:Nat):Int):=by refine ab (wu ..) ?_;rfl
 have e2:((2:Int)^4122)=((2^4122:Nat):Int):=by refine ab (wu ..) ?_;rfl
 have c:((3:Int)^2600)=((3^2600:Nat):Int):=by refine ab (wu ..) ?_;rfl
 rewrite[e1,e2,c];exact⟨eG.mpr J,fh.mpr U⟩
theorem Dj:0<uN:=r7 (fY 4100) vW.1
theorem Lp:sN=2^4090:=by delta sN;rfl
def Bd(x:Int)(m:Nat):Prop:=x.natAbs<2^m
theorem Bd.mono{x:Int}{m n:Nat}(h:Bd x m)(Q:m<=n):Bd x n:=be h (i6 (by decide) Q)
theorem Bd.mul{x y:Int}{m n:Nat}(h:Bd x m)(g:Bd y n):Bd (x*y) (m+n):=by unfold Bd at*;exact ab (qc ..)<|ab (qe ..)<|ia (Nat.mul_le_mul_left _ (cm g)) (Nat.mul_lt_mul_of_pos_right h (ph n))
theorem Bd.add{x y:Int}{m n:Nat}(h:Bd x m)(g:Bd y n)(Q:n<=m):Bd (x+y) (m+1):=by have k:=g.mono Q;show(x+y).natAbs<2^(m+1);exact ab (B6 ..)<|ab (Fk ..)<|ia (Mz x y) (Rx h k)
theorem Bd.sub{x y:Int}{m n:Nat}(h:Bd x m)(g:Bd y n)(Q:n<=m):Bd (x-y) (m+1):=by have k:=g.mono Q;show(x-y).natAbs<2^(m+1);exact ab (B6 ..)<|ab (Fk ..)<|ia (Int.natAbs_sub_le x y) (Rx h k)
theorem Bd.of{x:Int}{m:Nat}(Y:0<=x)(h:x<2^m):Bd x m:=by
 have B:((2:Int)^m)=((2^m:Nat):Int):=by push_cast;rfl
 delta Bd;lia
theorem Wf{x y:Int}{m n:Nat}(h:Bd x m)(g:Bd y n)(A:m+n<=100000):binI .Mult x y=some (x*y):=by
 have l1:x.natAbs.log2<=m:=by
  by_cases Y:x.natAbs=0
  ·exact ab Y<|dT rfl
  ·exact cm ((i0 Y).mpr h)
 have l2:y.natAbs.log2<=n:=by
  by_cases Y:y.natAbs=0
  ·refine ab Y ?_;simp
  ·exact cm ((i0 Y).mpr g)
 delta binI;simp only;exact ab (if_pos (.inl (by lia))) rfl
theorem jL{C:dC}{st:St}{loc:Loc}{a b:CE}{x y:Int}{m n:Nat}(J:ev C st a loc=some (.int x))(U:ev C st b loc=some (.int y))(h:Bd x m)(g:Bd y n)(A:m+n<=100000):ev C st (.f .Mult a b) loc=some (.int (x*y)):=
 eN J U (by simp only[(id cw),Wf h g A,aK])
theorem oO{C:dC}{st:St}{loc:Loc}{a b:CE}{x y:Int}(J:ev C st a loc=some (.int x))(U:ev C st b loc=some (.int y)):ev C st (.f .Add a b) loc=some (.int (x+y)):=eN J U rfl
theorem oP{C:dC}{st:St}{loc:Loc}{a b:CE}{x y:Int}(J:ev C st a loc=some (.int x))(U:ev C st b loc=some (.int y)):ev C st (.f .Sub a b) loc=some (.int (x-y)):=eN J U rfl
theorem oQ{C:dC}{st:St}{loc:Loc}{a b:CE}{x y:Int}(J:ev C st a loc=some (.int x))(U:ev C st b loc=some (.int y))(h:y≠0):ev C st (.f .Mod a b) loc=some (.int (x.fmod y)):=
 eN J U (by simp only[(id cw),binI,if_neg h,aK])
theorem D4{C:dC}{st:St}{loc:Loc}{a b:CE}{x y:Int}(J:ev C st a loc=some (.int x))(U:ev C st b loc=some (.int y))(h:¬(y=0\/9000<=y.natAbs.log2)):ev C st (.f .FloorDiv a b) loc=some (.int (x.fdiv y)):=
 eN J U (by simp only[(id cw),binI,if_neg h,aK])
theorem Vt{C:dC}{st:St}{loc:Loc}:ev C st (.f .Pow (.d 3) (.d 2600)) loc=some (.int uN):=
 eN rfl rfl (by
  have h:(0:Int)<=2600/\(2600:Int)<=1000000/\(3:Int).natAbs<2^64:=by decide
  simp only[(id cw),binI,if_pos h,aK];delta uN;rfl)
theorem Vs{C:dC}{st:St}{loc:Loc}:ev C st (.f .Pow (.d 2) (.d 4090)) loc=some (.int sN):=
 eN rfl rfl (by
  have h:(0:Int)<=4090/\(4090:Int)<=1000000/\(2:Int).natAbs<2^64:=by decide
  simp only[(id cw),binI,if_pos h,aK];delta sN;rfl)
theorem Gd{w W e d s u:Int}(hW:0<W)(G:W<=s)(N:0<u)(v:0<=d)(P:d<u){I:Prop}(A:((2*w*s-3*s*e*W)*u+d).fdiv (W*u)+3*s*e=(2*w*s)/W->(((2*w*s)/W<s↔2*w<W))->(((2*w*s)/W=s↔2*w=W))->I):I:=by
 have Y:=dI (2*w*s) (cH hW);have J:=dk (2*w*s) hW;have U:=cq (2*w*s) W;have X:0<W*u:=wg hW N;refine A ?_ ⟨λh=>?_,λh=>?_⟩ ⟨λh=>?_,λh=>?_⟩
 ·generalize 2*w*s/W=Q at*;generalize 2*w*s% W=R at*;have e1:(2*w*s-3*s*e*W)*u+d=(Q-3*s*e)*(W*u)+(R*u+d):=by
   refine cA U (ab (lg ..) (ab (lg ..) (ab (g8 ..) (ab (bR W Q) (ab (fL Q W u) (ab (fL (3*s*e) W u) ?_))))));lia
  have e2:0<=R*u:=gP Y (aF N);have c:(R+1)*u<=W*u:=bl (gq J) (aF N);exact ab ((ke X e1 (gO e2 v) (by lia)).1)<|Int.sub_add_cancel Q (3*s*e)
 ·have Z:2*w*s<s*W:=by
   have:=Int.lt_mul_of_ediv_lt hW h
   rwa [bR]at this⊢
  simp only[bR s W]at Z;exact Int.lt_of_mul_lt_mul_right Z (by lia)
 ·exact cR hW<|ab (bR s W)<|fG h (r7 hW G)
 ·rw[h]at U;have Z:¬2*w<W:=λy=>by
   have:2*w*s<W*s:=fG y (r7 hW G)
   (clear y h X J A P v N G hW;omega+splitDisjunctions)
  have B:¬W<2*w:=λy=>by
   have:(W+1)*s<=2*w*s:=bl (gq y) (by lia);lia
  lia
 ·exact ab h (ab (bR ..) (bp (Int.mul_ediv_cancel _ (cH hW)) rfl))
theorem Pd{k:Nat}{args:List AV}:(BK (k+1)).O 20 args=iR (BK k) Ys args:=rfl
theorem zQ{x y:Int}(Y:0<=x)(h:x<=y):x.natAbs<=y.natAbs:=by lia
theorem JX(k:Nat){w W g t e T q r:Int}(Y:0<=w)(hW:0<W)(L:W<2^110)(S:t=1\/t= -1)(X:q*(W*uN)+r=T)(o:0<=r)(M:r<W*uN)(D:Bd q 10000)(R:q+3*sN*e=(2*w*sN)/W)
 (y:(2*w*sN)/W<sN↔2*w<W)(B:(2*w*sN)/W=sN↔2*w=W):
 eC (BK k) [.ite (.bor [(.cmp .NotEq (.f .Add (.f .Mult (.f .Mult (.sub (.a 8) (.d 0)) (.a 1)) (.a 3)) (.f .Mult (.a 5) (.sub (.a 8) (.d 1)))) (.a 7)),(.C (.B .LtE .Lt (.d 0) (.f .Mult (.a 5) (.sub (.a 8) (.d 1))) (.f .Mult (.a 1) (.a 3))))]) [.ret (.d 9)] [],
  .ite (.cmp .Lt (.f .Add (.sub (.a 8) (.d 0)) (.a 6)) (.a 4)) [.ret (.d 0)] [],.ret (.N (.cmp .Eq (.f .Add (.sub (.a 8) (.d 0)) (.a 6)) (.a 4)) (.d 1) (.d 2))]
  [.int w,.int W,.int g,.int uN,.int sN,.int t,.int (3*sN*e),.int T,.tup [.int q,.int (t*r)]] [] (.int (if 2*w<W then 0 else if 2*w=W then 1 else 2)):=by
 have A:Bd W 110:=.of (aF hW) L;have K:Bd uN 4122:=.of (aF Dj) vW.2;have N:Bd t 2:=by delta Bd;(refine ak S (λH=>?_) λi=>?_;subst H;rotate_left;subst i;rotate_right)<;>decide
 have a:Bd r (110+4122):=ia (zQ o (aF M)) (A.mul K);have C:Bd (t*r) 4234:=(N.mul a).mono (by decide);have b:t*(t*r)=r:=S.elim (λu=>ab u (ab (iV ..) (ab (iV ..) rfl))) λu=>ab u (ab (lJ ..) (ab (lJ ..) (ab (Int.neg_neg ..) rfl)));generalize E: [AV.int w,.int W,.int g,.int uN,.int sN,.int t,.int (3*sN*e),.int T,.tup [.int q,.int (t*r)]]=loc;have V:ev (BK k) [] (.a 1) loc=some (.int W):=by subst E;rfl
 have I:ev (BK k) [] (.a 3) loc=some (.int uN):=by subst E;rfl
 have U:ev (BK k) [] (.a 4) loc=some (.int sN):=by subst E;rfl
 have O:ev (BK k) [] (.a 5) loc=some (.int t):=by subst E;rfl
 have Z:ev (BK k) [] (.a 6) loc=some (.int (3*sN*e)):=by subst E;rfl
 have f:ev (BK k) [] (.a 7) loc=some (.int T):=by subst E;rfl
 have F:ev (BK k) [] (.sub (.a 8) (.d 0)) loc=some (.int q):=by subst E;rfl
 have c:ev (BK k) [] (.sub (.a 8) (.d 1)) loc=some (.int (t*r)):=by subst E;rfl
 have m1:=jL O c N C (by decide);rw[b]at m1;have m2:=jL (jL F V D A (by decide)) I (D.mul A) K (by decide);have m3:=oO m2 m1;rw[fL,X]at m3;have G:=jL V I A K (by decide);have J:=oO F Z;have j:decide (0<=r)=true:=by simpa using o
 have Q:decide (r<W*uN)=true:=by simpa using M
 refine .jo (ve (cc (r:=false) m3 f (by simp[(id cb),(id jJ)])) rfl (vd (rg (r:=true) rfl m1 (by simp[(id cb),o]) G (by simp[(id cb),M])) rfl) rfl) ?_;rw[R]at J;by_cases P:2*w<W
 ·exact ab (if_pos P)<|.oq (cc J U (by simp only[(id cb),decide_eq_true (y.mpr P)]))<|.ret rfl rfl
 ·refine ab (if_neg P)<|.jo (cc J U (by simp only[(id cb),decide_eq_false (λh=>P (y.mp h))]))<|.ret (v:=.int (if 2*w=W then 1 else 2)) ?_ rfl;by_cases m:2*w=W
  ·exact ab (if_pos m)<|Jz (cc (r:=true) J U (by simp only[(id cb),(id jJ),B.mpr m,beq_self_eq_true])) rfl rfl
  ·exact ab (if_neg m)<|Cy (cc (r:=false) J U (by
    have d:((2*w*sN)/W==sN)=false:=by simpa usingλh=>m (B.mp h)
    simp only[(id cb),(id jJ),d])) rfl rfl
theorem Nb{a b y:Int}(Y:0<=y)(L:0<=a)(c:a<=2*y)(O:0<=b)(H:b<=3*y):(a-b).natAbs<=5*y.natAbs:=by lia
theorem Ie(x:Int):(-x-1).natAbs<=x.natAbs+1:=by lia
theorem xJ{m:Int}(J:0<=m)(U:m<2):m=0\/m=1:=by lia
theorem Tq{s z:Nat}(h:s<z):5*s+1<=z*32:=by lia
theorem xf{W u:Int}(h:0<W)(N:0<u):u<=W*u:=by
 have:=bl (show(1:Int)<=W from h) (aF N)
 rwa [iV]at this
theorem RQ{z:Nat}{u y:Int}(U:y.natAbs<z)(Z:u<=y)(d:(z:Int)<=u):False:=by lia
theorem SE(k:Nat){w W g:Int}(Y:0<=w)(hwW:w<=W)(hW:0<W)(L:W<2^110):(BK (k+9)).O 20 [.int w,.int W,.int g]=some (.int (if 2*w<W then 0 else if 2*w=W then 1 else 2)):=by
 have G:=Dj;have A:Bd W 110:=.of (aF hW) L;have K:Bd uN 4122:=.of (aF Dj) vW.2;have i:0<sN:=ab Lp<|fY 4090;have R:Bd sN 4091:=.of (aF i) (by refine ab Lp ?_;have:(2:Int)^4091=2^4090*2:=tH ..;rewrite[this];have:=fY 4090;generalize(2:Int)^4090=z at*;omega(splitDisjunctions:=true))
 have hsW:W<=sN:=by refine ab Lp ?_;have:(2:Int)^4090=2^110*2^3980:=cA (ng ..) rfl;refine ab this ?_;have J:=fY 3980;have U:(2:Int)^110*1<=2^110*2^3980:=we (by generalize(2:Int)^3980=z at*;omega(splitDisjunctions:=true)) (aF (fY 110));generalize(2:Int)^110*2^3980=z at*;omega(splitDisjunctions:=true)
 obtain⟨e,F,hE⟩:∃e:Int,(g.fdiv 2).fmod 2=e/\(e=0\/e=1):=⟨_,rfl,xJ (bQ _ (by decide)) (cJ _ (by decide))⟩;obtain⟨t,S,l⟩:∃t:Int,1-2*g.fmod 2=t/\(t=1\/t= -1):=⟨_,rfl,(xJ (bQ g (by decide)) (cJ g (by decide))).elim (λe=>.inl (by refine ab e ?_;rfl)) λe=>.inr (by refine ab e ?_;rfl)⟩;have s:Bd e 1:=by delta Bd;(refine ak hE (λH=>?_) λu2=>?_;subst H;rotate_left;subst u2;rotate_right)<;>decide
 have N:Bd t 2:=by delta Bd;(refine ak l (λH=>?_) λu2=>?_;subst H;rotate_left;subst u2;rotate_right)<;>decide
 have p:Bd 2 2:=by delta Bd;decide
 have q:Bd 3 2:=by delta Bd;decide
 have r:Bd w 110:=.of Y (by omega(splitDisjunctions:=true));have v:0<=g.fmod uN:=bQ _ G;have P:g.fmod uN<uN:=cJ _ G;have hBd:Bd (g.fmod uN) 4122:=.of v (ou P vW.2);have b1:=(p.mul r).mul R;have b2:=(q.mul R).mul s;have b3:=b2.mul A;have c:=(b1.mono (show 2+110+4091<=4300 by decide)).sub b3 (by decide);have a:=c.mul K;have f:=a.add hBd (by decide);have b7:=A.mul K;have X:0<W*uN:=wg hW G;have hN:4101<=ag (W*uN):=by
  have J:¬ag (W*uN)<=4100:=λh=>by
   have d:=vW.1;have B:((2:Int)^4100)=((2^4100:Nat):Int):=by push_cast;rfl
   rw[B]at d;exact RQ (kh h) (xf hW G) d
  exact MW J
 have C:ag (W*uN)<=7000:=e8.mpr (b7.mono (by decide));have hbt:∀x:Int,Bd x (4096+4)->True:=λ_ _=>trivial;generalize b:(2*w*sN-3*sN*e*W)*uN+g.fmod uN=T;have hTb:T.natAbs<2^(ag (W*uN)+4096):=by
  have hc:Bd (2*w*sN-3*sN*e*W) 0\/True:=.inr trivial;have Q:=kh (x:=W*uN) (aV _);have J:(2*w*sN-3*sN*e*W).natAbs<=5*W.natAbs*sN.natAbs:=by
   have a1:2*w*sN<=2*W*sN:=bl (by(clear Q hc b hbt C hN X b7 f a c b3 b2 b1 hBd P v r q p N s l S hE F hsW R i K A G L hW Y;lia)) (aF i);have a2:0<=2*w*sN:=gP (by omega(splitDisjunctions:=true)) (aF i);have a3:0<=3*sN*e*W/\3*sN*e*W<=3*(W*sN):=by
    have:0<=W*sN:=gP (aF hW) (aF i);refine ak hE (λH=>?_) λu2=>?_;rw[H];rotate_left;subst u2;rotate_right
    ·simp;omega(splitDisjunctions:=true)
    ·have:3*sN*1*W=3*(W*sN):=ab (Int.mul_one ..) (ab (fL ..) (ab (bR sN ..) rfl));omega(splitDisjunctions:=true)
   have j:5*W.natAbs*sN.natAbs=5*(W*sN).natAbs:=ab (qc ..) (ab (rY ..) rfl);exact ab j<|Nb (gP (aF hW) (aF i)) a2 ((fL ..)▸a1) a3.1 a3.2
  have U:((2*w*sN-3*sN*e*W)*uN).natAbs<=5*sN.natAbs*(W*uN).natAbs:=by
   refine ab (qc ..) (ab (qc ..) ?_)
   calc _<=5*W.natAbs*sN.natAbs*uN.natAbs:=Fj _ J
    _=5*sN.natAbs*(W.natAbs*uN.natAbs):=ab (rY 5 ..) (ab (UN W.natAbs ..) (cA (rY 5 ..) (ab (rY ..) rfl)))
  have Z:(g.fmod uN).natAbs<=(W*uN).natAbs:=zQ v (gr (aF P) (xf hW G));have O:5*sN.natAbs+1<=2^4096:=by
   have V:2^4096=2^4091*32:=by rewrite[show 4096=4091+5 from rfl,qe];with_reducible rfl
   exact ab V<|Tq R
  refine ab (qe ..) (ab (UN (2^_) ..) ?_)
  calc T.natAbs<=(5*sN.natAbs+1)*(W*uN).natAbs:=(ab (Xg ..)<|ab (Nat.one_mul ..)<|cA b<|aP (Mz _ _) (iY U Z))
   _<=2^4096*(W*uN).natAbs:=Fj _ O
   _<2^4096*2^ag (W*uN):=Nat.mul_lt_mul_of_pos_left Q (ph _)
 have I:ag T<=ag (W*uN)+ag (W*uN):=e8.mpr (be hTb (i6 (by decide) (by omega(splitDisjunctions:=true))));have E:ag (-T-1)<=ag (W*uN)+ag (W*uN):=e8.mpr (by
  have U:2^(ag (W*uN)+4096)+1<=2^(ag (W*uN)+ag (W*uN)):=by have Z:2^(ag (W*uN)+4096+1)<=2^(ag (W*uN)+ag (W*uN)):=i6 (by decide) (by omega(splitDisjunctions:=true));rw[B6]at Z;rw[Fk]at Z;exact aP (Nat.add_le_add_left (ph (ag (W*uN)+4096)) _) Z
  exact ia (Ie T) (be (Nat.succ_lt_succ hTb) U))
 have D:Bd (T.fdiv (W*uN)) 10000:=(show Bd _ 9000 from kh (Yd (x:=T) (y:=W*uN) (m:=9000) (e8.mpr (cA b<|(f.mono (by decide)))))).mono (by decide);refine Gd (w:=w) (e:=e) hW hsW G v P λf1 f2 f3=>?_;rw[b]at f1;have o:0<=T.fmod (W*uN):=bQ _ X;have M:T.fmod (W*uN)<W*uN:=cJ _ X;have u:(BK (k+8)).O 7 [.int (t*T),.int (t*W*uN)]=some (.tup [.int (T.fdiv (W*uN)),.int (t*T.fmod (W*uN))]):=by
  refine ak l (λH=>?_) λu2=>?_;subst H;rotate_left;subst u2;rotate_right
  ·exact ab (iV ..)<|ab (iV ..)<|ab (iV ..)<|Ak (k+1) X C I E
  ·have:=Jl k X C I E;exact ab (lJ T)<|ab (show-1*W*uN= -(W*uN)by exact ab (lJ ..) (ab (Xd ..) rfl))<|ab (lJ (T.fmod (W*uN)))<|this
 exact ab Pd<|eC.run rfl<|.cI (x:=.int uN) (loc':= [.int w,.int W,.int g,.int uN,.c,.c,.c,.c,.c]) Vt rfl<|.cI (x:=.int sN) (loc':= [.int w,.int W,.int g,.int uN,.int sN,.c,.c,.c,.c]) Vs rfl<|.cI (x:=.int t) (loc':= [.int w,.int W,.int g,.int uN,.int sN,.int t,.c,.c,.c]) (cA S<|oP rfl (jL (m:=2) (n:=2) rfl (oQ rfl rfl (by decide)) p (.of (bQ _ (by decide)) (ou (cJ _ (by decide)) (by decide))) (by decide))) rfl<|.cI (x:=.int (3*sN*e)) (loc':= [.int w,.int W,.int g,.int uN,.int sN,.int t,.int (3*sN*e),.c,.c]) (cA F<|jL (jL rfl rfl q R (by decide)) (oQ (D4 rfl rfl (by decide)) rfl (by decide)) (q.mul R) (F▸s) (by decide)) rfl<|.cI (x:=.int T) (loc':= [.int w,.int W,.int g,.int uN,.int sN,.int t,.int (3*sN*e),.int T,.c]) (cA b<|oO (jL (oP (jL (jL rfl rfl p r (by decide)) rfl (p.mul r) R (by decide)) (jL rfl rfl b2 A (by decide))) rfl c K (by decide)) (oQ rfl rfl (cH G))) rfl<|.cI (x:=.tup [.int (T.fdiv (W*uN)),.int (t*T.fmod (W*uN))]) (eP (vs:= [.int (t*T),.int (t*W*uN)]) (by have e1:ev (BK (k+8)) [] (.f .Mult (.a 5) (.a 7)) [.int w,.int W,.int g,.int uN,.int sN,.int t,.int (3*sN*e),.int T,.c]=some (.int (t*T)):=jL (m:=2) (n:=9000) rfl rfl N (cA b<|f.mono (by decide)) (by decide);have e2:ev (BK (k+8)) [] (.f .Mult (.f .Mult (.a 5) (.a 1)) (.a 3)) [.int w,.int W,.int g,.int uN,.int sN,.int t,.int (3*sN*e),.int T,.c]=some (.int (t*W*uN)):=jL (jL rfl rfl N A (by decide)) rfl (N.mul A) K (by decide);simp only[af,(id jW),e1,e2,aj,af,aJ]) rfl u) rfl (JX (k+8) (g:=g) Y hW L l (ab (bR ..)<|kG T (W*uN)) o M D f1 f2 f3)
noncomputable def kg:Bool->List Nat->Bool
 |e,[]=>e
 |true,_::l=>kg false l
 |false,c::l=>if c=92 then kg true l else kg false l
theorem D2:(∀e,kg e []=(e))/\
 (∀A l,kg true (A::l)=(kg false l))/\
 (∀c l,kg false (c::l)=(if c=92 then kg true l else kg false l)):=⟨by intros;rfl,by intros;rfl,by intros;rfl⟩
theorem Js:∀(a:List Nat) (p:Nat) (e:Bool) (b:List Nat),kg e a=false->ff p e (a++b)=ff p e a++ff (p+a.length) false b:=by
 intro a
 induction a with
 |nil=>exactλp e b h=>ab (show e=false from h) rfl
 |cons c a R=>
  intro p e b h;have L:p+(a.length+1)=p+1+a.length:=dN (dS p a.length);cases e with
  |true=>
   simp only[da,(id pW),(R (p+1) false b h),bu];exact ab L rfl
  |false=>
   simp only[(id D2)]at h;simp only[da,(id pW),bu];by_cases V:c=92
   ·simp only[V,if_true]at h⊢;exact ab (R (p+1) true b h) (ab L rfl)
   ·simp only[V,if_false]at h⊢;exact ab (R (p+1) false b h) (ab L rfl)
noncomputable def nK(t:kR)(body:Loc->St->Option (Fl×Loc×St)):List AV->Loc->St->Option (Loc×St)
 | [],loc,st=>some (loc,st)
 |v::l,loc,st=>do
  let loc1<-cT loc t v
  match<-body loc1 st with
  |(.next,loc2,st2)=>nK t body l loc2 st2
  |_=>none
theorem JQ:(∀t body loc st,nK t body [] loc st=(some (loc,st)))/\
 (∀t body v l loc st,nK t body (v::l) loc st=(do
 let loc1<-cT loc t v
 match<-body loc1 st with
 |(.next,loc2,st2)=>nK t body l loc2 st2
 |_=>none)):=⟨by intros;rfl,by intros;rfl⟩
theorem gD{t:kR}{body:Loc->St->Option (Fl×Loc×St)}{v:AV}{l:List AV}{loc loc1 loc2:Loc}{st st2:St}{R:Option (Loc×St)}(O:cT loc t v=some loc1)(h:body loc1 st=some (.next,loc2,st2))(U:nK t body l loc2 st2=R):nK t body (v::l) loc st=R:=(JQ.2 ..).trans (ua O (ua h U))
theorem AD{t:kR}{body:Loc->St->Option (Fl×Loc×St)}{v:AV}{l:List AV}{loc:Loc}{st:St}{r:Loc×St}(h:nK t body (v::l) loc st=some r){I:Prop}(N:∀loc1 loc2 st2,cT loc t v=some loc1->body loc1 st=some (.next,loc2,st2)->nK t body l loc2 st2=some r->I):I:=by
 refine dn ((JQ.2 ..).symm.trans h) λloc1 O h=>dn h λq H h=>?_;rcases q with⟨f,loc2,st2⟩;rcases f with _|_|_
 ·exact N _ _ _ O H h
 ·injection h
 ·injection h
theorem vi{t:kR}{body:Loc->St->Option (Fl×Loc×St)}:∀{l1 l2:List AV} {loc loc':Loc} {st st':St} {R:Option (Loc×St)},nK t body l1 loc st=some (loc',st')->nK t body l2 loc' st'=R->nK t body (l1++l2) loc st=R:=by
 intro G
 induction G with
 |nil=>
  intro l2 loc loc' st st' R h U;injection h with S;injection S with X B;exact ab X<|ab B<|U
 |cons v l1 P=>exactλh U=>AD h λz z z O H h=>ab da<|gD O H (P h U)
theorem sx{t:kR}{body:Loc->St->Option (Fl×Loc×St)}:∀{l1 l2:List AV} {loc loc':Loc} {st st':St},nK t body l1 loc st=some (loc',st')->iP t body (l1++l2) loc st=iP t body l2 loc' st':=by
 intro G
 induction G with
 |nil=>
  intro l2 loc loc' st st' h;injection h with S;injection S with X B;subst X;subst B;rfl
 |cons v l1 P=>exactλh=>AD h λz z z O H h=>ab da<|bf O H (P h)
theorem AB{t:kR}{body:Loc->St->Option (Fl×Loc×St)}{l:List AV}{loc loc':Loc}{st st':St}(h:nK t body l loc st=some (loc',st')):iP t body l loc st=some (.next,loc',st'):=by
 have:=sx (l2:= []) h
 rwa [ik]at this
def zm(v:AV):Prop:=∃(i:Nat) (u:List Nat),v=.tup [.int i,.str u]/\u≠ [34]/\u≠ [40]/\u≠ [41]
structure Quiet (t:List Nat):Prop where
 fin:kg false t=false
 un:∀(p:Nat),∀v∈ff p false t,zm v
theorem iQ:Quiet []:=⟨rfl,λp v h=>absurd h dy⟩
theorem C3{c:Nat}{t:List Nat}(J:c≠92)(U:c≠34)(Z:c≠40)(d:c≠41)(h:Quiet t):Quiet (c::t):=by
 refine⟨by simp only[(id D2),if_neg J];exact h.fin,λp v D=>?_⟩;simp only[(id pW),if_neg J,aS]at D;refine ak D (λH=>?_) λD=>?_;refine ab H ?_
 ·exact⟨p,[c],rfl,by simpa using U,by simpa using Z,by simpa using d⟩
 ·exact h.un _ v D
theorem sL{c:Nat}{t:List Nat}(h:Quiet t):Quiet (92::c::t):=by
 refine⟨h.fin,λp v D=>?_⟩;simp only[(id pW),if_true,aS]at D;refine ak D (λH=>?_) λD=>?_;refine ab H ?_
 ·exact⟨p+1,[92,c],rfl,by simp,by simp,by simp⟩
 ·exact h.un _ v D
noncomputable def pR(k:Bool):Nat:=if k then 40 else 41
noncomputable abbrev lA:=Bool×List Nat
noncomputable def aR(bs:List lA):List Nat:=bs.flatMap λb=>pR b.1::b.2
noncomputable def qq:List Nat:= [34,40,92,34,34]
theorem dj(b:lA)(bs:List lA):aR (b::bs)=pR b.1::(b.2++aR bs):=by rfl
theorem iC(a b:List lA):aR (a++b)=aR a++aR b:=by simp[aR]
theorem yh(k:Bool):pR k≠92/\pR k≠34:=by rcases k with⟨⟩<;>simp[pR]
theorem so{k:Bool}{t:List Nat}(h:kg false t=false)(p:Nat)(r:List Nat):ff p false (pR k::(t++r))=.tup [.int p,.str [pR k]]::(ff (p+1) false t++ff (p+1+t.length) false r):=by simp only[(id pW),if_neg (yh k).1];exact congrArg _ (Js _ _ _ _ h)
theorem TJ(p:Nat):ff p false qq= [.tup [.int p,.str [34]],.tup [.int (p+1:Nat),.str [40]],.tup [.int (p+1+1+1:Nat),.str [92,34]],.tup [.int (p+1+1+1+1:Nat),.str [34]]]:=by rfl
def mK(t:List Nat):Prop:=Quiet t\/t=qq
theorem mK.fin{t:List Nat}(h:mK t):kg false t=false:=by
 refine ak h (λh=>?_) λH=>?_;rotate_left;refine ab H ?_;rotate_right
 ·exact h.fin
 ·rfl
noncomputable def wG(t:List Nat):List Nat:=if t=qq then[]else t
noncomputable def eV(bs:List lA):List lA:=bs.map λb=>(b.1,wG b.2)
theorem K3{t:List Nat}(h:Quiet t):t≠qq:=by intro o1;subst o1;refine cX (h.un 0 (.tup [.int (0:Nat),.str [34]]) (ab (TJ ..)<|aH)) λi u J U z=>?_;simp at J;exact U J.2.symm
theorem TQ{k:Nat}{args:List AV}:(BK (k+1)).O 9 args=iR (BK k) f9 args:=rfl
noncomputable def b9:List CS:= [.ite (.cmp .Eq (.a 5) (.l [34]))
 [.ite (.cmp .Is (.a 2) .q)
  [.cI (.bX 2) (.a 4)]
  [.ite (.cmp .NotEq (.a 1) (.a 2))
   [.app 3 (.G (.a 0) (.a 1) (.a 2))]
   [],
   .cI (.bX 1) (.f .Add (.a 4) (.d 1)),
   .cI (.bX 2) .q]]
 []]
theorem ky{st:St}{u v:List Nat}(h:u≠v):fk st .Eq (.str u) (.str v)=some false:=by have:(u==v)=false:=beq_false_of_ne h;simp only[(id cb),(id jJ),this]
section
variable{k:Nat}{x a b r o s:AV}{st:St}
theorem qW{i:Nat}{u:List Nat}(h:u≠ [34]):dh (BK k) b9 [x,s,o,r,.int i,.str u] st=some (.next,[x,s,o,r,.int i,.str u],st):=
 aO (eu (a:=.bool false) (r:=false) (cc rfl rfl (ky h)) rfl rfl) rfl
theorem IQ:∀{l:List AV} {a b:AV},(∀v∈l,zm v)->∃I w,nK (.many [4,5]) (λloc st=>dh (BK k) b9 loc st) l [x,s,o,r,a,b] st=some ([x,s,o,r,I,w],st):=by
 intro l
 induction l with
 |nil=>exactλz=>⟨_,_,rfl⟩
 |cons v l R=>
  intro a b h;exact cX (h v aH) λi u o1 J z=>ab o1<|ej (R (a:=.int i) (b:=.str u) λv D=>h v (ax _ D)) λI w e=>⟨I,w,gD (loc1:= [x,s,o,r,.int i,.str u]) rfl (qW J) e⟩
end
theorem WM{x:List Nat}{s p:Nat}(G:s<=x.length)(B:p<=x.length)(V:x.length<=cB):vP (.str x) (.int s) (.int p)=some (.str ((x.take p).drop s)):=by
 have e1:∀m:Nat,m<=x.length->kA x.length 0 (.int m)=some m:=by intro m T;simp only[(id nF)];refine ab (if_neg (jZ m)) ?_;simp;exact fz T
 have e2:∀m:Nat,m<=x.length->kA x.length x.length (.int m)=some m:=by intro m T;simp only[(id nF)];refine ab (if_neg (jZ m)) ?_;simp;exact fz T
 simp only[(id T3),e1 s G,e2 p B,aj,af,if_pos V]
theorem XG{k:Nat}{x:List Nat}{s p:Nat}{acc:List AV}{a b:AV}(G:s<p)(B:p<=x.length)(V:x.length<=cB)(L:acc.length<=cB):
 nK (.many [4,5]) (λloc st=>dh (BK k) b9 loc st) (ff p false qq) [.str x,.int s,.none,.ref 0,a,b] [some acc]=
  some ([.str x,.int (p+5:Nat),.none,.ref 0,.int (p+4:Nat),.str [34]],[some (acc++ [.str ((x.take p).drop s)])]):=by
 refine gD (loc1:= [.str x,.int s,.none,.ref 0,.int p,.str [34]]) (loc2:= [.str x,.int s,.int p,.ref 0,.int p,.str [34]]) (st2:= [some acc]) rfl ?_ ?_
 ·refine aO (eu (a:=.bool true) (r:=true) rfl rfl ?_) rfl;exact aO (eu (a:=.bool true) (r:=true) rfl rfl (aO (gw (v:=.int p) rfl rfl) rfl)) rfl
 refine gD rfl (qW (by decide))<|gD rfl (qW (by decide))<|gD (loc1:= [.str x,.int s,.int p,.ref 0,.int (p+4:Nat),.str [34]]) (loc2:= [.str x,.int (p+5:Nat),.none,.ref 0,.int (p+4:Nat),.str [34]]) (st2:= [some (acc++ [.str ((x.take p).drop s)])]) rfl ?_ rfl;refine aO (eu (a:=.bool true) (r:=true) rfl rfl ?_) rfl;refine aO (eu (a:=.bool false) (r:=false) rfl rfl ?_) rfl;refine aO (loc':= [.str x,.int s,.int p,.ref 0,.int (p+4:Nat),.str [34]]) (st':= [some (acc++ [.str ((x.take p).drop s)])]) (eu (a:=.bool true) (r:=true) (cc rfl rfl ?_) rfl ?_) ?_
 ·have:((s:Int)==(p:Int))=false:=by simp;lia
  simp only[(id cb),(id jJ),this,aK,Bool.not_false]
 ·exact aO (jK (n:=0) (l:=acc) (v:=.str ((x.take p).drop s)) (by simp only[(id fD),af,bo,bE,aj,af,WM (aP (cm G) B) B V]) rfl rfl L) rfl
 ·exact aO (gw (v:=.int (p+5:Nat)) (loc':= [.str x,.int (p+5:Nat),.int p,.ref 0,.int (p+4:Nat),.str [34]]) rfl rfl)<|aO (gw (v:=.none) rfl rfl) rfl
theorem SJ(c:Nat)(x:List Nat):xd [c] x=decide (c∈x):=by
 have:=PySem.StrLaws.found_one (strOf x) c;have U:c∈(strOf x).cps.toList↔c∈x:=by rfl
 show(!(qb (strOf x) ⟨#[c]⟩ 0 x.length 1).isEmpty)=_;exact ab this<|decide_eq_decide.mpr U
theorem Jt:∀(x:List Nat) (p:Nat) (e:Bool),(ff p e x).length<=x.length+(if e then 1 else 0):=by
 intro x
 induction x with
 |nil=>intro p e;cases e<;>simp[(id pW)]
 |cons c x R=>
  intro p e;cases e with
  |true=>
   have:=R (p+1) false;simp[(id pW)]at this⊢;lia
  |false=>
   simp only[(id pW)];split
   ·have:=R (p+1) true;simp at this⊢;omega+splitDisjunctions
   ·have:=R (p+1) false;simp at this⊢;omega+splitDisjunctions
theorem yx{k:Nat}{st:St}{loc:Loc}{e:CE}{x:List Nat}(h:ev (BK (k+1)) st e loc=some (.str x))(V:x.length<=cB):ev (BK (k+1)) st (.M e) loc=some (.lst (ff 0 false x)):=by have m:((BK (k+1)).O 8 [.str x]).isSome=true:=rfl;simp only[(id fD),FO,af,h,V,m,and_self,if_true]
theorem rq{st:St}{x:List Nat}(V:x.length<=cB):fQ st (.lst (ff 0 false x))=some (ff 0 false x):=jN (aP (Jt x 0 false) (V))
theorem qu{C:dC}{st:St}{loc:Loc}{a lo:CE}{x:List Nat}{s:Nat}(J:ev C st a loc=some (.str x))(U:ev C st lo loc=some (.int s))(G:s<=x.length)(V:x.length<=cB):ev C st (.F a lo) loc=some (.str (x.drop s)):=by
 have e2:kA x.length 0 (.int (s:Nat))=some s:=by simp only[(id nF)];refine ab (if_neg (jZ s)) ?_;simp;exact fz G
 simp only[(id fD),af,J,U,aj,af,(id T3),e2];simp[(id nF),V]
theorem JC{C:dC}{st:St}{loc:Loc}{a lo hi:CE}{x:List Nat}{s p:Nat}(J:ev C st a loc=some (.str x))(U:ev C st lo loc=some (.int s))(Z:ev C st hi loc=some (.int p))(G:s<=x.length)(B:p<=x.length)(V:x.length<=cB):ev C st (.G a lo hi) loc=some (.str ((x.take p).drop s)):=by
 have e2:kA x.length 0 (.int (s:Nat))=some s:=by simp only[(id nF)];refine ab (if_neg (jZ s)) ?_;simp;exact fz G
 have c:kA x.length x.length (.int (p:Nat))=some p:=by simp only[(id nF)];refine ab (if_neg (jZ p)) ?_;simp;exact fz B
 simp only[(id fD),af,J,U,Z,aj,af,(id T3),e2,c];simp[V]
theorem JD{C:dC}{st:St}{loc:Loc}{a hi:CE}{x:List Nat}{p:Nat}(J:ev C st a loc=some (.str x))(Z:ev C st hi loc=some (.int p))(V:x.length<=cB):ev C st (.A a hi) loc=some (.str (x.take p)):=by
 have c:kA x.length x.length (.int (p:Nat))=some (min p x.length):=by rfl
 simp only[(id fD),af,J,Z,aj,af,(id T3),c];simp[(id nF),V]
theorem EO:∀l:List (List Nat),pb (l.map .str)=some l:=by
 intro G
 induction G with
 |nil=>
  exact rfl
 |cons a l R=>
  show(pb (l.map .str)).map (a::·)=_;refine ab R ?_;rfl
theorem w7{x:List Nat}{s p m:Nat}{r:List Nat}(G:s<=p)(B:p<=x.length)(F:x.drop p=r)(T:m<=r.length):(x.take (p+m)).drop s=(x.take p).drop s++r.take m:=by refine cA F<|ab zG ?_;rw[List.drop_append_of_le_length];refine ab br ?_;lia
theorem ze(k:Nat)(x:List Nat)(V:x.length<=cB):∀(bs:List lA) (p s:Nat) (acc:List (List Nat)) (a b:AV),(∀c∈bs,mK c.2)->x.drop p=aR bs->p<=x.length->s<=p->acc.length+bs.length<=cB->
 ∃(s':Nat) (q:List (List Nat)) (I w:AV),nK (.many [4,5]) (λloc st=>dh (BK k) b9 loc st) (ff p false (aR bs)) [.str x,.int (s:Nat),.none,.ref 0,a,b] [some (acc.map .str)]=some ([.str x,.int (s':Nat),.none,.ref 0,I,w],[some (q.map .str)])/\s'<=x.length/\q.length<=cB/\
  q.flatten++x.drop s'=acc.flatten++(x.take p).drop s++aR (eV bs):=by
 intro M
 induction M with
 |nil=>
  refineλp s acc a b z F B G X=>⟨s,acc,a,b,rfl,aP G B,X,?_⟩;have J:x.length<=p:=by have:=congrArg dp F;simp[aR]at this;exact List.drop_eq_nil_iff.mp F
  refine ab (fJ J) ?_;simp[eV,aR]
 |cons C bs R=>
  rcases C with⟨Z,t⟩;intro p s acc a b O F B G X;have S:=O _ aH;have K:∀c∈bs,mK c.2:=λc V=>O c (ax _ V);clear O;simp only[dj]at F⊢;simp only[so S.fin];have N:x.length=p+(1+t.length+(aR bs).length):=by have:=congrArg dp F;simp only[bu,cK]at this;grind
  have P:x.drop (p+1)=t++aR bs:=by refine cA dJ (ab F ?_);rfl
  have A:x.drop (p+1+t.length)=aR bs:=by refine cA dJ (ab P ?_);simp
  have L: [pR Z]≠ [34]:=by have:=(yh Z).2;simpa using this
  have e1:(x.take (p+1)).drop s=(x.take p).drop s++ [pR Z]:=by have:=w7 (x:=x) (s:=s) (p:=p) (m:=1) G B F (by simp);exact this
  refine ak S (λD=>?_) λH=>?_;rotate_left;subst H;rotate_right
  ·refine ew λY=>ew λY=>ew λY=>ej (IQ (k:=k) (x:=.str x) (s:=.int (s:Nat)) (o:=.none) (r:=.ref 0) (st:= [some (acc.map .str)]) (a:=.int p) (b:=.str [pR Z]) (D.un (p+1))) λa1 b1 f=>rk (R (p+1+t.length) s acc a1 b1 K A (by lia) (by lia) (by simp at X;exact gv X)) λs' q I w j E g4 g5=>Y ?_;clear Y;refine Y ?_;clear Y;refine Y ?_;clear Y;refine⟨s',q,I,w,gD (loc1:= [.str x,.int (s:Nat),.none,.ref 0,.int p,.str [pR Z]]) rfl (qW L) (vi f j),E,g4,?_⟩;refine ab g5 ?_;have e2:(x.take (p+1+t.length)).drop s=(x.take p).drop s++ [pR Z]++t:=by
    have:=w7 (x:=x) (s:=s) (p:=p+1) (m:=t.length) (ox G) (by lia) P (by simp);refine ab this (ab e1 ?_);simp
   refine ab e2 ?_;simp[eV,dj,wG,K3 D]
  ·have f:=XG (k:=k) (x:=x) (s:=s) (p:=p+1) (acc:=acc.map .str) (a:=.int p) (b:=.str [pR Z]) (Nat.lt_succ_of_le G) (by lia) V (by simp at X⊢;exact oy X);refine rk (R (p+1+qq.length) (p+1+qq.length) (acc++ [(x.take (p+1)).drop s]) (.int (p+1+4:Nat)) (.str [34]) K A (by lia) (aV _) (by simp at X⊢;lia)) λs' q I w j E g4 g5=>?_;rw[ed]at j;refine⟨s',q,I,w,gD (loc1:= [.str x,.int (s:Nat),.none,.ref 0,.int p,.str [pR Z]]) rfl (qW L) (vi f j),E,g4,?_⟩;refine ab g5 (ab e1 ?_);simp[eV,dj,wG,qq]
theorem JB(C:dC)(st:St)(a:CE)(loc:Loc):ev C st (.join a) loc=(do
 let l<-pb (<-jX st (<-ev C st a loc))
 if l.flatten.length<=cB then return .str l.flatten else none):=rfl
set_option tactic.hygienic true in
theorem LJ(k:Nat)(bs:List lA)(J:∀c∈bs,mK c.2)(V:(aR bs).length<=cB)(X:bs.length<=100):(BK (k+2)).O 9 [.str (aR bs)]=some (.str (aR (eV bs))):=by
 simp only[TQ];refine eC.run rfl ?_;by_cases Y:xd [34] (aR bs)=true
 ·refine .jo (cc rfl rfl (by simp[(id cb),Y]))<|rk (ze (k+1) (aR bs) V bs 0 0 [] .c .c J rfl (bz _) (aV _) (by simp;exact aP X (by decide))) λs' q I w f j t g4=>.cI (x:=.int 0) (loc':= [.str (aR bs),.int 0,.c,.c,.c,.c]) rfl rfl<|.cI (x:=.none) (loc':= [.str (aR bs),.int 0,.none,.c,.c,.c]) rfl rfl<|.next (iO (l:= []) (loc':= [.str (aR bs),.int 0,.none,.ref 0,.c,.c]) rfl rfl rfl)<|.sy (a:=.lst (ff 0 false (aR bs))) (L:=ff 0 false (aR bs)) (yx rfl V) (rq V) (AB f) ?_;have g4:q.flatten++(aR bs).drop s'=aR (eV bs):=g4;have F:(aR (eV bs)).length<=(aR bs).length:=by
   have:∀bs:List lA,(aR (eV bs)).length<=(aR bs).length:=by
    intro bs
    induction bs with
    |nil=>simp[eV,aR]
    |cons b bs R=>
     have e:eV (b::bs)=(b.1,wG b.2)::eV bs:=rfl;refine ab e (ab (dj ..) (ab (dj ..) ?_));have:(wG b.2).length<=b.2.length:=by delta wG;split<;>simp
     simp;exact iY this R
   exact this bs
  have C:∀A:List (List Nat),A.flatten=aR (eV bs)->eC (BK (k+1)) [.ret (.join (.a 3))] [.str (aR bs),.int (s':Nat),.none,.ref 0,I,w] [some (A.map .str)] (.str (aR (eV bs))):=by refineλA h=>.ret ?_ rfl;have P:A.flatten.length<=cB:=ab h<|aP F V;have O:ev (BK (k+1)) [some (A.map .str)] (.a 3) [.str (aR bs),.int (s':Nat),.none,.ref 0,I,w]=some (.ref 0):=rfl;have e1:jX [some (A.map AV.str)] (.ref 0)=some (A.map .str):=rfl;refine ab (JB ..) ?_;have u:(aR (eV bs)).length<=cB:=cA h<|P;simp only[O,e1,aj,af,EO,h,u,if_true,aJ]
  have H:ev (BK (k+1)) [some (q.map .str)] (.len (.a 0)) [.str (aR bs),.int (s':Nat),.none,.ref 0,I,w]=some (.int (aR bs).length):=by simp[(id fD),(id mN),V]
  by_cases G:s'< (aR bs).length
  ·refine .oq (cc (r:=true) (x:=.int (s':Nat)) rfl H (by simp[(id cb)];exact nv G))<|.next (jK (n:=0) (l:=q.map .str) (v:=.str ((aR bs).drop s')) ?_ rfl rfl (by simpa using t)) ?_
   ·exact qu rfl rfl (cm G) V
   ·have:=C (q++ [(aR bs).drop s']) (by simpa using g4);rw[ed]at this;exact this
  ·refine .jo (cc (r:=false) (x:=.int (s':Nat)) rfl H (by simp[(id cb)];exact gR G))<|C q ?_;rw[List.drop_eq_nil_of_le (gR G)]at g4;simpa using g4
 ·refine .oq (cc (r:=true) rfl rfl (by simp[(id cb),Y])) ?_;have B:34∉aR bs:=by
   rw[SJ]at Y;simpa using Y
  have E:aR (eV bs)=aR bs:=by
   have:∀bs:List lA,34∉aR bs->aR (eV bs)=aR bs:=by
    intro bs
    induction bs with
    |nil=>intro z;rfl
    |cons b bs R=>
     intro h;have e:eV (b::bs)=(b.1,wG b.2)::eV bs:=rfl;rw[dj]at h;simp only[aS,dw,not_or]at h;simp only[e,dj,dj,R h.2.2];have:wG b.2=b.2:=by
      delta wG;split
      ·rename_i D;rw[D]at h;exact absurd (by simp[qq]) h.2.1
      ·rfl
     exact ab this rfl
   exact this bs B
  exact ab E<|.ret rfl rfl
theorem O2{k:Nat}{args:List AV}:(BK (k+1)).O 10 args=iR (BK k) Yl args:=rfl
noncomputable def MK:List CS:= [.ite (.cmp .Eq (.a 3) (.l [40]))
 [.aug 1 .Add (.d 1)]
 [.ite (.cmp .Eq (.a 3) (.l [41]))
  [.aug 1 .Sub (.d 1),
   .ite (.cmp .Lt (.a 1) (.d 0))
    [.ret (.u false)]
    []]
  []]]
noncomputable def qi:Int->List Bool->Option Int
 |n,[]=>some n
 |n,true::r=>qi (n+1) r
 |n,false::r=>if n-1<0 then none else qi (n-1) r
theorem Qw:(∀n,qi n []=(some n))/\
 (∀n r,qi n (true::r)=(qi (n+1) r))/\
 (∀n r,qi n (false::r)=(if n-1<0 then none else qi (n-1) r)):=⟨by intros;rfl,by intros;rfl,by intros;rfl⟩
noncomputable def yg(B:List Bool):Bool:=match qi 0 B with
 |some m=>m==0
 |none=>false
section
variable{k:Nat}{x a b:AV}{n:Int}{st:St}
theorem IM{i:Nat}{u:List Nat}(h:u≠ [40])(U:u≠ [41]):dh (BK k) MK [x,.int n,.int i,.str u] st=some (.next,[x,.int n,.int i,.str u],st):=
 aO (eu (a:=.bool false) (r:=false) (cc rfl rfl (ky h)) rfl (aO (eu (a:=.bool false) (r:=false) (cc rfl rfl (ky U)) rfl rfl) rfl)) rfl
theorem FE:∀{l:List AV} {a b:AV},(∀v∈l,zm v)->∃I w,nK (.many [2,3]) (λloc st=>dh (BK k) MK loc st) l [x,.int n,a,b] st=some ([x,.int n,I,w],st):=by
 intro l
 induction l with
 |nil=>exactλz=>⟨_,_,rfl⟩
 |cons v l R=>
  intro a b h;refine s9 (h v aH) λi u o1 z J U=>?_;subst o1;exact ej (R (a:=.int i) (b:=.str u) λv D=>h v (ax _ D)) λI w e=>⟨I,w,gD (loc1:= [x,.int n,.int i,.str u]) rfl (IM J U) e⟩
theorem IK{i:Nat}:dh (BK k) MK [x,.int n,.int i,.str [40]] st=some (.next,[x,.int (n+1),.int i,.str [40]],st):=
 aO (eu (a:=.bool true) (r:=true) rfl rfl (aO (fW (x:=.int n) (v:=.int 1) (y:=.int (n+1)) rfl rfl rfl rfl rfl) rfl)) rfl
theorem IL{i:Nat}(h:¬n-1<0):dh (BK k) MK [x,.int n,.int i,.str [41]] st=some (.next,[x,.int (n-1),.int i,.str [41]],st):=by
 have u:decide (n-1<0)=false:=decide_eq_false h;exact aO (eu (a:=.bool false) (r:=false) rfl rfl (aO (eu (a:=.bool true) (r:=true) rfl rfl (aO (fW (x:=.int n) (v:=.int 1) (y:=.int (n-1)) rfl rfl rfl rfl rfl)
  (aO (eu (a:=.bool false) (r:=false) (cc (x:=.int (n-1)) (y:=.int 0) rfl rfl (by simp only[(id cb),u])) rfl rfl) rfl))) rfl)) rfl
theorem IJ{i:Nat}(h:n-1<0):dh (BK k) MK [x,.int n,.int i,.str [41]] st=some (.ret (.bool false),[x,.int (n-1),.int i,.str [41]],st):=by
 have u:decide (n-1<0)=true:=decide_eq_true h;exact iB (eu (a:=.bool false) (r:=false) rfl rfl (iB (eu (a:=.bool true) (r:=true) rfl rfl (aO (fW (x:=.int n) (v:=.int 1) (y:=.int (n-1)) rfl rfl rfl rfl rfl)
  (iB (eu (a:=.bool true) (r:=true) (cc (x:=.int (n-1)) (y:=.int 0) rfl rfl (by simp only[(id cb),u])) rfl (iB (rb rfl rfl))))))))
end
theorem yl(k:Nat)(x:AV)(st:St):∀(bs:List lA) (p:Nat) (n:Int) (a b:AV),(∀c∈bs,Quiet c.2)->
 (∀m,qi n (bs.map (·.1))=some m->∃I w,iP (.many [2,3]) (λloc st=>dh (BK k) MK loc st) (ff p false (aR bs)) [x,.int n,a,b] st=some (.next,[x,.int m,I,w],st))/\
 (qi n (bs.map (·.1))=none->∃loc',iP (.many [2,3]) (λloc st=>dh (BK k) MK loc st) (ff p false (aR bs)) [x,.int n,a,b] st=some (.ret (.bool false),loc',st)):=by
 intro G
 induction G with
 |nil=>
  exactλp n a b z=>⟨λm h=>by injection h with B;subst B;exact⟨a,b,rfl⟩,λh=>nomatch h⟩
 |cons C bs R=>
  rcases C with⟨Z,t⟩;intro p n a b O;have S:=O _ aH;have K:∀c∈bs,Quiet c.2:=λc V=>O c (ax _ V);refine ab (dj ..) (ab (so S.fin ..) ?_);have A:∀n':Int,dh (BK k) MK [x,.int n,.int p,.str [pR Z]] st=some (.next,[x,.int n',.int p,.str [pR Z]],st)->qi n ((Z,t)::bs|>.map (·.1))=qi n' (bs.map (·.1))->
   (∀m,qi n (((Z,t)::bs).map (·.1))=some m->∃I w,iP (.many [2,3]) (λloc st=>dh (BK k) MK loc st) (.tup [.int p,.str [pR Z]]::(ff (p+1) false t++ff (p+1+t.length) false (aR bs))) [x,.int n,a,b] st=some (.next,[x,.int m,I,w],st))/\
   (qi n (((Z,t)::bs).map (·.1))=none->∃loc',iP (.many [2,3]) (λloc st=>dh (BK k) MK loc st) (.tup [.int p,.str [pR Z]]::(ff (p+1) false t++ff (p+1+t.length) false (aR bs))) [x,.int n,a,b] st=some (.ret (.bool false),loc',st)):=by
   refineλn' J U=>ej (FE (k:=k) (x:=x) (n:=n') (st:=st) (a:=.int p) (b:=.str [pR Z]) (S.un (p+1))) λa1 b1 f=>aN (R (p+1+t.length) n' a1 b1 K) λi1 o=>⟨λm T=>?_,λT=>?_⟩
   ·exact ej (i1 m (U▸T)) λa2 b2 j=>⟨a2,b2,bf (loc1:= [x,.int n,.int p,.str [pR Z]]) rfl J (ab (sx f)<|j)⟩
   ·exact aI (o (U▸T)) λl2 j=>⟨l2,bf (loc1:= [x,.int n,.int p,.str [pR Z]]) rfl J (ab (sx f)<|j)⟩
  rcases Z with _|_
  ·by_cases h:n-1<0
   ·refine⟨λm T=>?_,λz=>⟨[x,.int (n-1),.int p,.str [41]],?_⟩⟩
    ·simp only[bI,(id Qw),if_pos h]at T;injection T
    ·have:=IJ (k:=k) (x:=x) (n:=n) (st:=st) (i:=p) h;exact(vh.2 ..).trans (ua (show cT [x,.int n,a,b] (.many [2,3]) (.tup [.int p,.str [pR false]])=some [x,.int n,.int p,.str [41]]from rfl) (ua this rfl))
   ·exact A (n-1) (IL h) (by simp only[bI,(id Qw),if_neg h])
  ·exact A (n+1) IK rfl
set_option tactic.hygienic true in
theorem uU{bs:List lA}(O:∀c∈bs,mK c.2):∀c∈eV bs,Quiet c.2:=by
 refineλc V=>aC (dZ.mp V) λb J r=>?_;subst r;show Quiet (wG b.2);delta wG;split
 ·exact iQ
 ·rename_i h;exact(O b J).resolve_right h
theorem uT(bs:List lA):(eV bs).map (·.1)=bs.map (·.1):=by simp[eV]
theorem Ai:∀bs:List lA,(aR (eV bs)).length<=(aR bs).length:=by
 intro G
 induction G with
 |nil=>
  simp[eV,aR]
 |cons b bs A=>
  have R:=A;have e:eV (b::bs)=(b.1,wG b.2)::eV bs:=rfl;refine ab e (ab (dj ..) (ab (dj ..) ?_));have:(wG b.2).length<=b.2.length:=by delta wG;split<;>simp
  simp;exact iY this R
theorem yk(k:Nat)(bs:List lA)(O:∀c∈bs,mK c.2)(V:(aR bs).length<=cB)(X:bs.length<=100):(BK (k+3)).O 10 [.str (aR bs)]=some (.bool (yg (bs.map (·.1)))):=by
 have G:=LJ k bs O V X;have J:(aR (eV bs)).length<=cB:=aP (Ai bs) V;refine aN (yl (k+2) (.str (aR (eV bs))) [] (eV bs) 0 0 .c .c (uU O)) λi1 o=>?_;rw[uT]at i1 o;refine ab O2<|eC.run rfl<|.cI (x:=.str (aR (eV bs))) (loc':= [.str (aR (eV bs)),.c,.c,.c]) (eP (vs:= [.str (aR bs)]) rfl rfl G) rfl<|.cI (x:=.int 0) (loc':= [.str (aR (eV bs)),.int 0,.c,.c]) rfl rfl ?_;delta yg;cases hbal:qi 0 (bs.map (·.1))with
 |none=>
  exact aI (o hbal) λloc' g=>⟨_,_,iB (gT (yx rfl J) (rq J) g)⟩
 |some m=>
  exact ej (i1 m hbal) λI w g=>.sy (yx rfl J) (rq J) g<|.ret rfl rfl
theorem Pa{k:Nat}{args:List AV}:(BK (k+1)).O 17 args=iR (BK k) Yq args:=rfl
noncomputable def bt(bs:List lA)(i:Nat):Nat:=(aR (bs.take i)).length
noncomputable def bq(l:List Nat):List AV:=l.map λ(i:Nat)=>AV.int i
noncomputable def kY(b:Bool):Nat->List Bool->List Nat
 |_,[]=> []
 |n,k::r=>if k=b then n::kY b (n+1) r else kY b (n+1) r
theorem Gf:(∀b A,kY b A []=([]))/\
 (∀b n k r,kY b n (k::r)=(if k=b then n::kY b (n+1) r else kY b (n+1) r)):=⟨by intros;rfl,by intros;rfl⟩
theorem pC{bs:List lA}{i:Nat}(h:i<bs.length):bt bs (i+1)=bt bs i+1+(bs[i]).2.length:=by delta bt;refine ab (eK h) (ab (iC ..) (ab cK (ab (dj ..) ?_)));simp[aR];exact dN (dS (List.take i (YN (λa=>a.snd.length+1) bs)).sum bs[i].snd.length)
theorem rA{bs:List lA}{i:Nat}:∀{j:Nat},i<=j->bt bs i<=bt bs j:=by
 intro j h
 induction h with
 |refl=>exact aV _
 |@step m T R=>
  refine aP R ?_;by_cases X:m<bs.length
  ·refine ab (pC X) ?_;lia
  ·delta bt;exact ab (fJ (gR X))<|ab (fJ (Nat.le_of_not_ge X))<|aV _
theorem rB{bs:List lA}{i j:Nat}(h:i<j)(Q:j<=bs.length):bt bs i<bt bs j:=by have J:bt bs (i+1)<=bt bs j:=rA h;rw[pC (be h Q)]at J;lia
theorem tr{bs:List lA}{i j:Nat}(hi:i<=bs.length)(Q:j<=bs.length):bt bs i<bt bs j↔i<j:=by
 constructor
 ·intro h;by_cases hh:i<j
  ·exact hh
  ·have:=rA (bs:=bs) (show j<=i by exact gR hh);lia
 ·exactλh=>rB h Q
theorem Ba{bs:List lA}{i j:Nat}(hi:i<=bs.length)(Q:j<=bs.length):bt bs i<=bt bs j↔i<=j:=by have:=tr (bs:=bs) Q hi;lia
theorem xj(bs:List lA):bt bs bs.length=(aR bs).length:=by delta bt;exact ab kP rfl
theorem Am(bs:List lA)(i:Nat):(aR bs).drop (bt bs i)=aR (bs.drop i):=by have:aR bs=aR (bs.take i)++aR (bs.drop i):=cA (iC ..) (ab (fR ..) rfl);refine ab this ?_;delta bt;exact ab List.drop_left rfl
theorem LB{bs:List lA}{i j:Nat}(hi:i<=j)(Q:j<bs.length):((aR bs).take (bt bs j+1)).drop (bt bs i)=aR ((bs.drop i).take (j-i)++ [((bs[j]).1,[])]):=by
 refine ab xV (ab (Am ..) ?_);have J:bt bs j+1-bt bs i=(aR ((bs.drop i).take (j-i))).length+1:=by
  have e1:bs.take j=bs.take i++(bs.drop i).take (j-i):=by
   have:j=i+(j-i):=dN (tQ hi)
   conv=>lhs;rw[this]
   exact ab zG rfl
  delta bt;exact ab e1<|ab (iC ..)<|ab cK<|dN (Dy rfl)
 refine ab J (ab (iC ..) ?_);have e2:bs.drop i=(bs.drop i).take (j-i)++(bs[j])::bs.drop (j+1):=by
  have U:(bs.drop i).drop (j-i)=bs.drop j:=by refine ab dJ ?_;congr 1;exact tQ hi
  exact cA (dF Q) (cA U (ab (fR ..) rfl))
 have c:aR (bs.drop i)=aR ((bs.drop i).take (j-i))++(pR (bs[j]).1::((bs[j]).2++aR (bs.drop (j+1)))):=by
  conv=>lhs;rw[e2]
  exact ab (iC ..) (ab (dj ..) rfl)
 generalize aR ((bs.drop i).take (j-i))=M at*;refine ab c (ab List.take_append ?_);simp[aR];exact fJ (ja M.length 1)
theorem Dc{bs:List lA}{i:Nat}(hi:i<bs.length):((aR bs).take (bt bs (i+1))).drop (bt bs i+1)=(bs[i]).2:=by refine ab xV (cA dJ (ab (Am ..) (ab (pC hi) (ab (dF hi) (ab (dj ..) ?_)))));refine ab (show bt bs i+1+(bs[i]).2.length- (bt bs i+1)=(bs[i]).2.length by exact DC (bt bs i+1) bs[i].snd.length) ?_;simp
noncomputable def Xl:List CS:= [.ite (.cmp .Eq (.a 4) (.l [40]))
 [.app 1 (.a 3)]
 [.ite (.cmp .Eq (.a 4) (.l [41]))
  [.app 2 (.a 3)]
  []]]
section
variable{k:Nat}{x a b:AV}{st:St}{o s:List AV}
theorem IP{i:Nat}{u:List Nat}(h:u≠ [40])(U:u≠ [41]):dh (BK k) Xl [x,.ref 0,.ref 1,.int i,.str u,.c,.c,.c,.c,.c] st=some (.next,[x,.ref 0,.ref 1,.int i,.str u,.c,.c,.c,.c,.c],st):=
 aO (eu (a:=.bool false) (r:=false) (cc rfl rfl (ky h)) rfl (aO (eu (a:=.bool false) (r:=false) (cc rfl rfl (ky U)) rfl rfl) rfl)) rfl
theorem FF:∀{l:List AV} {a b:AV},(∀v∈l,zm v)->∃I w,nK (.many [3,4]) (λloc st=>dh (BK k) Xl loc st) l [x,.ref 0,.ref 1,a,b,.c,.c,.c,.c,.c] st=some ([x,.ref 0,.ref 1,I,w,.c,.c,.c,.c,.c],st):=by
 intro l
 induction l with
 |nil=>exactλz=>⟨_,_,rfl⟩
 |cons v l R=>
  intro a b h;refine s9 (h v aH) λi u o1 z J U=>?_;subst o1;exact ej (R (a:=.int i) (b:=.str u) λv D=>h v (ax _ D)) λI w e=>⟨I,w,gD (loc1:= [x,.ref 0,.ref 1,.int i,.str u,.c,.c,.c,.c,.c]) rfl (IP J U) e⟩
theorem RO{i:Nat}(Z:Bool)(M:o.length<=cB)(G:s.length<=cB):dh (BK k) Xl [x,.ref 0,.ref 1,.int i,.str [pR Z],.c,.c,.c,.c,.c] [some o,some s]=
 some (.next,[x,.ref 0,.ref 1,.int i,.str [pR Z],.c,.c,.c,.c,.c],[some (if Z=true then o++ [.int i]else o),some (if Z=false then s++ [.int i]else s)]):=by
 rcases Z with _|_
 ·exact aO (eu (a:=.bool false) (r:=false) rfl rfl (aO (eu (a:=.bool true) (r:=true) rfl rfl (aO (jK (n:=1) (l:=s) (v:=.int i) rfl rfl rfl G) rfl)) rfl)) rfl
 ·exact aO (eu (a:=.bool true) (r:=true) rfl rfl (aO (jK (n:=0) (l:=o) (v:=.int i) rfl rfl rfl M) rfl)) rfl
end
theorem AY(a b:List Nat):bq (a++b)=bq a++bq b:=by simp[bq]
theorem C4(k:Nat)(x:AV)(bs:List lA)(Q:bs.length<=100):∀(A M:List lA) (o s:List Nat) (a b:AV),bs=M++A->(∀c∈A,Quiet c.2)->o.length+s.length=M.length->
 ∃I w,nK (.many [3,4]) (λloc st=>dh (BK k) Xl loc st) (ff (bt bs M.length) false (aR A)) [x,.ref 0,.ref 1,a,b,.c,.c,.c,.c,.c] [some (bq o),some (bq s)]=
  some ([x,.ref 0,.ref 1,I,w,.c,.c,.c,.c,.c],[some (bq (o++(kY true M.length (A.map (·.1))).map (bt bs))),some (bq (s++(kY false M.length (A.map (·.1))).map (bt bs)))]):=by
 intro G
 induction G with
 |nil=>
  exactλM o s a b z z z=>⟨a,b,by simp[aR,(id pW),(id JQ),(id Gf)]⟩
 |cons C A R=>
  rcases C with⟨Z,t⟩;intro M o s a b E D X;have S:=D _ aH;have B:bs.length=M.length+(1+A.length):=by refine ab E ?_;simp;exact tP A.length 1
  have F:bs[M.length]'(by lia)=(Z,t):=by simp[E]
  have H:bt bs (M.length+1)=bt bs M.length+1+t.length:=ab (pC (by lia)) (ab F rfl);refine ej (FF (k:=k) (x:=x) (st:= [some (bq (if Z=true then o++ [bt bs M.length]else o)),some (bq (if Z=false then s++ [bt bs M.length]else s))]) (a:=.int (bt bs M.length)) (b:=.str [pR Z]) (S.un (bt bs M.length+1))) λa1 b1 f=>ej (R (M++ [(Z,t)]) (if Z=true then o++ [bt bs M.length]else o) (if Z=false then s++ [bt bs M.length]else s) a1 b1 (by refine ab E ?_;simp) (λc V=>D c (ax _ V)) (by rcases Z with⟨⟩<;>simp<;>lia)) λa2 b2 j=>?_;have e1:(M++ [(Z,t)]).length=M.length+1:=by simp
  rw[e1,H]at j;refine⟨a2,b2,?_⟩;refine ab (dj ..) (ab (so S.fin ..) ?_);have O:=RO (k:=k) (x:=x) (o:=bq o) (s:=bq s) (i:=bt bs M.length) Z (by simp[bq,cB];lia) (by simp[bq,cB];lia);refine gD (loc1:= [x,.ref 0,.ref 1,.int (bt bs M.length),.str [pR Z],.c,.c,.c,.c,.c]) rfl O<|vi (loc':= [x,.ref 0,.ref 1,a1,b1,.c,.c,.c,.c,.c]) (st':= [some (bq (if Z=true then o++ [bt bs M.length]else o)),some (bq (if Z=false then s++ [bt bs M.length]else s))]) ?_ ?_
  ·rcases Z with⟨⟩<;>simpa[bq]using f
  ·refine ab j ?_;rcases Z with⟨⟩<;>simp[(id Gf)]
theorem LC{l l':List Int}(B:l.Perm l')(G:l'.Pairwise (·<=·)):sortI l=l':=
 List.Perm.eq_of_pairwise (le:=(·<=·)) (λa b z z J U=>lI J U) (rJ l) G ((sortI_perm l).trans B)
theorem J2:∀(B:List Bool) (n:Nat),(kY true n B++kY false n B).Perm (gZ n B.length):=by
 intro G
 induction G with
 |nil=>
  exactλn=>.refl _
 |cons k r A=>
  intro n;have R:=A (n+1);refine ab bu (ab uv ?_);rcases k with _|_
  ·simp only[(id Gf),bx,if_false,if_true];exact List.perm_middle.trans (R.cons n)
  ·simp only[(id Gf),if_true,da];exact R.cons n
theorem J1{b:Bool}:∀{B:List Bool} {n i:Nat},i∈kY b n B->n<=i/\i<n+B.length:=by
 intro G
 induction G with
 |nil=>
  intro n i h;exact nomatch h
 |cons k r P=>
  intro n i h;simp only[(id Gf)]at h;split at h
  ·refine ak (aS.mp h) (λH=>?_) λh=>?_;subst H
   ·simp
   ·have:=P h;simp;lia
  ·have:=P h;simp;lia
theorem Ee{b:Bool}:∀(B:List Bool) (n:Nat),(kY b n B).length<=B.length:=by
 intro B
 induction B with
 |nil=>exactλn=>aV _
 |cons k r R=>
  intro n;have:=R (n+1);simp only[(id Gf)];split<;>simp<;>(first|exact oi.mp this|exact ox this)
theorem Dd(bs:List lA)(f:Nat->Int)(P:∀i,f i=(bt bs i:Int)):sortI (((kY true 0 (bs.map (·.1))).map f)++((kY false 0 (bs.map (·.1))).map f))=(aG bs.length).map f:=by
 refine cA ed<|LC ?_ ?_
 ·have:=(J2 (bs.map (·.1)) 0).map f;rw[aY,<-E7]at this;exact this
 ·rw[nr];have:(aG bs.length).Pairwise (·<·):=List.pairwise_lt_range;refine this.imp λ{a b} h=>ab (P ..) (ab (P ..) ?_);have:=rA (bs:=bs) (cm h);exact eG.mpr this
theorem JO{t:kR}{body:Loc->St->Option (Fl×Loc×St)}{v:AV}{l:List AV}{loc loc1 loc2:Loc}{st st2:St}(O:cT loc t v=some loc1)(h:body loc1 st=some (.brk,loc2,st2)):iP t body (v::l) loc st=some (.next,loc2,st2):=(vh.2 ..).trans (ua O (ua h rfl))
noncomputable def kC(B:List Bool)(i:Nat)(E:List Nat):Option Nat:=E.find? λj=>decide (i<j)&&yg ((B.drop i).take (j+1-i))
noncomputable def SG:List CS:= [.ite (.band [(.cmp .Gt (.a 7) (.a 6)),(.call 10 [(.G (.a 0) (.a 6) (.f .Add (.a 7) (.d 1)))])])
 [.app 5 (.a 7),
  .brk]
 []]
theorem vN{bs:List lA}{i n:Nat}:(aR ((bs.drop i).take n)).length<=(aR bs).length:=by have J:aR bs=aR (bs.take i)++(aR ((bs.drop i).take n)++aR ((bs.drop i).drop n)):=cA (iC ..) (ab (fR ..) (cA (iC ..) (ab (fR ..) rfl)));refine ab J (ab cK (ab cK ?_));lia
theorem N8(k:Nat)(bs:List lA)(D:∀c∈bs,Quiet c.2)(V:(aR bs).length+1<=cB)(W:bs.length<=50){i:Nat}(hi:i<bs.length){O S p u:AV}{ms:List Nat}(K:ms.length<=60):∀(E:List Nat) (F:AV),(∀j∈E,j<bs.length)->
 ∃A,iP (.bX 7) (λloc st=>dh (BK (k+3)) SG loc st) (bq (E.map (bt bs))) [.str (aR bs),O,S,p,u,.ref 2,.int (bt bs i),F,.c,.c] [none,none,some (bq ms)]=
  some (.next,[.str (aR bs),O,S,p,u,.ref 2,.int (bt bs i),A,.c,.c],[none,none,some (bq (ms++(match kC (bs.map (·.1)) i E with|some j=> [bt bs j]|none=> [])))]):=by
 intro G
 induction G with
 |nil=>
  exactλF z=>⟨F,by simp[bq,(id vh),kC]⟩
 |cons j E P=>
  intro F Q;have U:=Q j aH;refine aI (P (.int (bt bs j)) λj M=>Q j (ax _ M)) λA R=>?_;have I:fk [none,none,some (bq ms)] .Gt (.int (bt bs j)) (.int (bt bs i))=some (decide (i<j)):=by have:decide ((bt bs i:Int)< (bt bs j:Int))=decide (i<j):=decide_eq_decide.mpr (by rw[fh];exact tr (cm hi) (cm U));simp only[(id cb),this]
  by_cases J:i<j
  ·have N:=LB (bs:=bs) (cm J) U;have T:((((bs.drop i).take (j-i)++ [((bs[j]).1,[])]):List lA).map (·.1))=((bs.map (·.1)).drop i).take (j+1-i):=by
    refine ab ed (ab nz (ab zF (ab (show j+1-i=(j-i)+1 by lia) (ab (eK (by simp;lia)) ?_))));congr 1;simp[MC,show i+(j-i)=j by lia]
   have L:=yk k ((bs.drop i).take (j-i)++ [((bs[j]).1,[])]) (λc V=>by
    refine ak (dw.mp V) (λh=>?_) λh=>?_
    ·exact .inl (D c (gu (iX h)))
    ·rw[bS]at h;subst h;exact .inl iQ) (by
    refine ab (iC ..) (ab cK ?_);have:=vN (bs:=bs) (i:=i) (n:=j-i);simp[aR]at this⊢;simp[aR]at V;lia) (by simp;lia)
   rw[T,<-N]at L;have B:ev (BK (k+3)) [none,none,some (bq ms)] (.call 10 [(.G (.a 0) (.a 6) (.f .Add (.a 7) (.d 1)))]) [.str (aR bs),O,S,p,u,.ref 2,.int (bt bs i),.int (bt bs j),.c,.c]=some (.bool (yg (((bs.map (·.1)).drop i).take (j+1-i)))):=by
    refine eP (vs:= [.str (((aR bs).take (bt bs j+1)).drop (bt bs i))]) ?_ rfl L;have f:bt bs j+1<=(aR bs).length:=by have:=rB (bs:=bs) (i:=j) (j:=bs.length) U (aV _);rw[xj]at this;exact tU this
    have:=JC (C:=BK (k+3)) (st:= [none,none,some (bq ms)]) (loc:= [.str (aR bs),O,S,p,u,.ref 2,.int (bt bs i),.int (bt bs j),.c,.c]) (a:=.a 0) (lo:=.a 6) (hi:=.f .Add (.a 7) (.d 1)) (x:=aR bs) (s:=bt bs i) (p:=bt bs j+1) rfl rfl rfl (by have:=rA (bs:=bs) (cm J);lia) f (gv V)
    simp only[af,(id jW),this,aj,af,aJ]
   rcases hb:yg (((bs.map (·.1)).drop i).take (j+1-i))with _|_
   ·rw[hb]at B;refine⟨A,?_⟩;refine ab (show kC (bs.map (·.1)) i (j::E)=kC (bs.map (·.1)) i E by simp[kC,hb])<|bf (loc1:= [.str (aR bs),O,S,p,u,.ref 2,.int (bt bs i),.int (bt bs j),.c,.c]) rfl ?_ R;exact aO (eu (a:=.bool false) (r:=false) (yv (cc rfl rfl I) (by simp[(id lY),J]) B rfl) rfl rfl) rfl
   ·rw[hb]at B;refine⟨.int (bt bs j),?_⟩;refine ab (show kC (bs.map (·.1)) i (j::E)=some j by simp[kC,J,hb])<|ab (AY ..)<|JO (loc1:= [.str (aR bs),O,S,p,u,.ref 2,.int (bt bs i),.int (bt bs j),.c,.c]) rfl ?_;have H:mY (BK (k+3)) (.ite (.band [(.cmp .Gt (.a 7) (.a 6)),(.call 10 [(.G (.a 0) (.a 6) (.f .Add (.a 7) (.d 1)))])]) [.app 5 (.a 7),.brk] []) [.str (aR bs),O,S,p,u,.ref 2,.int (bt bs i),.int (bt bs j),.c,.c] [none,none,some (bq ms)]=
     some (.brk,[.str (aR bs),O,S,p,u,.ref 2,.int (bt bs i),.int (bt bs j),.c,.c],[none,none,some (bq ms++bq [bt bs j])]):=by
     refine eu (a:=.bool true) (r:=true) (yv (cc rfl rfl I) (by simp[(id lY),J]) B rfl) rfl<|aO (jK (n:=2) (l:=bq ms) (v:=.int (bt bs j)) rfl rfl rfl (by simp[bq,cB];lia)) ?_;rfl
    delta SG;exact(s8.2 ..).trans (ua H rfl)
  ·refine⟨A,?_⟩;refine ab (show kC (bs.map (·.1)) i (j::E)=kC (bs.map (·.1)) i E by simp[kC,J])<|bf (loc1:= [.str (aR bs),O,S,p,u,.ref 2,.int (bt bs i),.int (bt bs j),.c,.c]) rfl ?_ R;exact aO (eu (a:=.bool false) (r:=false) (mq (cc rfl rfl I) (by simp[(id lY),J])) rfl rfl) rfl
theorem iH(l:List Nat):dU (bq l)=true:=by
 have:bq l=(l.map gQ).map .int:=by simp[bq]
 exact ab this<|mx _
theorem xh(l:List Nat):dM (bq l)=some (l.map gQ):=by
 induction l with
 |nil=>rfl
 |cons a l R=>show(dM (bq l)).map (gQ a::·)=_;refine ab R ?_;rfl
theorem wX{B:Type}{f:AV->Option (Option AV)}{a b:B->AV}:∀{l:List B},(∀i∈l,f (a i)=some (some (b i)))->gm f (l.map a)=some (l.map b):=by
 intro G
 induction G with
 |nil=>
  exactλz=>rfl
 |cons i l P=>
  exactλh=>(qm.2 ..).trans (ua (h i aH) (ua (P λj Q=>h j (ax _ Q)) rfl))
theorem Bk:∀l:List (List Nat),dU (l.map .str)=true:=by
 intro G
 induction G with
 |nil=>
  exact rfl
 |cons a r R=>
  exact mR.mp λa=>R
noncomputable def gU(bs:List lA)(I:List Nat):List Nat:=I.flatMap λi=>match kC (bs.map (·.1)) i (kY false 0 (bs.map (·.1)))with
 |some j=> [bt bs j]
 |none=> []
theorem OS(k:Nat)(bs:List lA)(D:∀c∈bs,Quiet c.2)(V:(aR bs).length+1<=cB)(K:bs.length<=50){O p u:AV}:∀(I:List Nat) (ms:List Nat) (B F:AV),(∀i∈I,i<bs.length)->ms.length+I.length<=60->
 ∃E A,iP (.bX 6) (λloc st=>dh (BK (k+3)) [.m (.bX 7) (.a 2) SG] loc st) (bq (I.map (bt bs))) [.str (aR bs),O,.lst (bq ((kY false 0 (bs.map (·.1))).map (bt bs))),p,u,.ref 2,B,F,.c,.c] [none,none,some (bq ms)]=
  some (.next,[.str (aR bs),O,.lst (bq ((kY false 0 (bs.map (·.1))).map (bt bs))),p,u,.ref 2,E,A,.c,.c],[none,none,some (bq (ms++gU bs I))]):=by
 intro G
 induction G with
 |nil=>
  exactλms B F z z=>⟨B,F,by simp[bq,(id vh),gU]⟩
 |cons i I P=>
  intro ms B F hi X;have H:∀j∈kY false 0 (bs.map (·.1)),j<bs.length:=λj Q=>by have:=(J1 Q).2;simpa using this
  refine ew λY=>aI (N8 k bs D V K (hi i aH) (O:=O) (S:=.lst (bq ((kY false 0 (bs.map (·.1))).map (bt bs)))) (p:=p) (u:=u) (ms:=ms) (by simp at X;exact oy X) (kY false 0 (bs.map (·.1))) F H) λA f=>?_;have o:(ms++(match kC (bs.map (·.1)) i (kY false 0 (bs.map (·.1)))with|some j=> [bt bs j]|none=> [])).length+I.length<=60:=by simp at X⊢;split<;>simp<;>(first|exact gv X|lia)
  refine ej (P (ms++(match kC (bs.map (·.1)) i (kY false 0 (bs.map (·.1)))with|some j=> [bt bs j]|none=> [])) (.int (bt bs i)) A (λj Q=>hi j (ax _ Q)) o) λE C J=>Y ?_;clear Y;refine⟨E,C,?_⟩;have e:ms++gU bs (i::I)=ms++(match kC (bs.map (·.1)) i (kY false 0 (bs.map (·.1)))with|some j=> [bt bs j]|none=> [])++gU bs I:=by simp[gU]
  refine ab e ?_;have Z:(bq ((kY false 0 (bs.map (·.1))).map (bt bs))).length<=cB:=by have:=Ee (b:=false) (bs.map (·.1)) 0;simp[bq,cB]at this⊢;lia
  exact bf (loc1:= [.str (aR bs),O,.lst (bq ((kY false 0 (bs.map (·.1))).map (bt bs))),p,u,.ref 2,.int (bt bs i),F,.c,.c]) rfl
   (aO (gT (a:=.lst (bq ((kY false 0 (bs.map (·.1))).map (bt bs)))) rfl (jN Z) f) rfl) J
theorem Ge{f:Nat->Int}{N i:Nat}(P:∀a b,a<N->b<N->f a=f b->a=b)(hi:i<N):((aG N).map f).idxOf (f i)=i:=by have T:f i∈(aG N).map f:=dZ.mpr ⟨i,aT.mpr hi,rfl⟩;have J:=List.idxOf_lt_length_of_mem T;have U:=HR J;simp only[aY,eH]at J;rw[uA,mG]at U;exact P _ _ J hi U
section
variable{C:dC}{st:St}{loc:Loc}{e it c a b:CE}{t:kR}
theorem F1{v:AV}{l:List AV}{ns:List Int}(h:ev C st a loc=some v)(J:jX st v=some l)(U:dM l=some ns)(Z:ns.length<64):ev C st (.sorted a) loc=some (.lst ((sortI ns).map .int)):=by simp[(id fD),h,J,U,Z]
theorem mr{v:AV}{l r:List AV}(h:ev C st it loc=some v)(J:fQ st v=some l)(U:gm (λv=>do return some (<-ev C st e (<-cT loc t v))) l=some r):ev C st (.comp e t it) loc=some (.lst r):=by simp only[aj,aJ]at U;simp only[(id fD),af,h,J,aj,af,aJ,U]
theorem rh{v:AV}{l r:List AV}(h:ev C st it loc=some v)(J:fQ st v=some l)(U:gm (λv=>do
 let loc'<-cT loc t v
 if<-cU st (<-ev C st c loc')then return some (<-ev C st e loc')else return none) l=some r):ev C st (.y e t it c) loc=some (.lst r):=by
 dsimp only[aj,aJ]at U;simp only[(id fD),af,h,J,aj,af,aJ,U]
theorem JA{k:Int}{v:AV}{l:List AV}{ns:List Int}(h:ev C st b loc=some (.int k))(J:ev C st a loc=some v)(U:jX st v=some l)(Z:dM l=some ns)(d:k∈ns)(O:ns.length<=cB):ev C st (.index a b) loc=some (.int (ns.idxOf k:Nat)):=by simp[(id fD),h,J,U,Z,d,O]
end
theorem TK(k:Nat)(bs:List lA)(D:∀c∈bs,Quiet c.2)(V:(aR bs).length+1<=cB)(Q:bs.length<=30)(N:∀i∈kY true 0 (bs.map (·.1)),i+1<bs.length):
 (BK (k+4)).O 17 [.str (aR bs)]=some (.tup [.lst (bq ((kY true 0 (bs.map (·.1))).map (bt bs))),.lst (bq (gU bs (kY true 0 (bs.map (·.1))))),.lst ((kY true 0 (bs.map (·.1))).map λi=>.str (bs[i]?.getD (true,[])).2)]):=by
 refine ej (C4 (k+3) (.str (aR bs)) bs (by lia) bs [] [] [] .c .c rfl D rfl) λI w g1=>?_;simp only[jC,gk]at g1;have G:∀b,∀i∈kY b 0 (bs.map (·.1)),i<bs.length:=λb i hi=>by have:=(J1 hi).2;simpa using this
 have X:∀b,(kY b 0 (bs.map (·.1))).length<=30:=λb=>by
  have:=Ee (b:=b) (bs.map (·.1)) 0;simp at this;exact aP this Q
 refine ej (OS k bs D V (by lia) (O:=.lst (bq ((kY true 0 (bs.map (·.1))).map (bt bs)))) (p:=I) (u:=w) (kY true 0 (bs.map (·.1))) [] .c .c (G true) (by have:=X true;simp;lia)) λE A j=>?_;have S:=Dd bs (λi=>((bt bs i:Nat):Int)) λi=>rfl;have U:∀b,(bq ((kY b 0 (bs.map (·.1))).map (bt bs))).length<=cB:=λb=>by have:=X b;simp[bq,cB];lia
 have R:(aR bs).length<=cB:=gv V;generalize d:kY true 0 (bs.map (·.1))=OI at*;generalize g:kY false 0 (bs.map (·.1))=F at*;have m:=X true;have o:=X false;rw[d]at m;rw[g]at o;simp only[Pa];refine eC.run rfl<|.next (iO (l:= []) (loc':= [.str (aR bs),.ref 0,.c,.c,.c,.c,.c,.c,.c,.c]) rfl rfl rfl)<|.next (iO (l:= []) (loc':= [.str (aR bs),.ref 0,.ref 1,.c,.c,.c,.c,.c,.c,.c]) rfl rfl rfl)<|.sy (yx rfl R) (rq R) (AB g1)<|.next (ji (n:=0) (l:=bq (OI.map (bt bs))) (l':=bq (OI.map (bt bs))) (st':= [none,some (bq (F.map (bt bs)))]) (loc':= [.str (aR bs),.lst (bq (OI.map (bt bs))),.ref 1,I,w,.c,.c,.c,.c,.c]) rfl rfl (iD _ (iH _)) rfl)<|.next (ji (n:=1) (l:=bq (F.map (bt bs))) (l':=bq (F.map (bt bs))) (st':= [none,none]) (loc':= [.str (aR bs),.lst (bq (OI.map (bt bs))),.lst (bq (F.map (bt bs))),I,w,.c,.c,.c,.c,.c]) rfl rfl (iD _ (iH _)) rfl)<|.next (iO (l:= []) (loc':= [.str (aR bs),.lst (bq (OI.map (bt bs))),.lst (bq (F.map (bt bs))),I,w,.ref 2,.c,.c,.c,.c]) rfl rfl rfl)<|.sy (a:=.lst (bq (OI.map (bt bs)))) (L:=bq (OI.map (bt bs))) rfl (jN (d▸U true)) j<|.next (ji (n:=2) (l:=bq (gU bs OI)) (l':=bq (gU bs OI)) (st':= [none,none,none]) (loc':= [.str (aR bs),.lst (bq (OI.map (bt bs))),.lst (bq (F.map (bt bs))),I,w,.lst (bq (gU bs OI)),E,A,.c,.c]) rfl rfl (iD _ (iH _)) rfl)<|.cI (x:=.lst (bq ((aG bs.length).map (bt bs)))) (loc':= [.str (aR bs),.lst (bq (OI.map (bt bs))),.lst (bq (F.map (bt bs))),I,w,.lst (bq (gU bs OI)),E,A,.lst (bq ((aG bs.length).map (bt bs))),.c]) ?_ rfl ?_
 ·have e1:ev (BK (k+3)) [none,none,none] (.f .Add (.a 1) (.a 2)) [.str (aR bs),.lst (bq (OI.map (bt bs))),.lst (bq (F.map (bt bs))),I,w,.lst (bq (gU bs OI)),E,A,.c,.c]=some (.lst (bq (OI.map (bt bs)++F.map (bt bs)))):=by
   refine eN rfl rfl ?_;have:(bq (OI.map (bt bs))).length+(bq (F.map (bt bs))).length<=cB:=by simp[bq,cB];lia
   simp only[(id cw),this,if_true,AY]
  have e2:(OI.map (bt bs)++F.map (bt bs)).map gQ=OI.map (λi=>((bt bs i:Nat):Int))++F.map (λi=>((bt bs i:Nat):Int)):=by refine ab ed (ab fi (ab fi ?_));rfl
  have T:((OI.map (bt bs)++F.map (bt bs)).map gQ).length<64:=by simp;lia
  refine ab (F1 e1 rfl (xh _) T) (ab e2 (ab S ?_));simp[bq,iJ]
 refine .cI (x:=.lst (OI.map λi=>.str (bs[i]?.getD (true,[])).2)) (loc':= [.str (aR bs),.lst (bq (OI.map (bt bs))),.lst (bq (F.map (bt bs))),I,w,.lst (bq (gU bs OI)),E,A,.lst (bq ((aG bs.length).map (bt bs))),.lst (OI.map λi=>.str (bs[i]?.getD (true,[])).2)]) ?_ rfl ?_
 ·have B:gm (λv=>do return some (<-ev (BK (k+3)) [none,none,none] (.G (.a 0) (.f .Add (.a 6) (.d 1)) (.sub (.a 8) (.f .Add (.index (.a 8) (.a 6)) (.d 1)))) (<-cT [.str (aR bs),.lst (bq (OI.map (bt bs))),.lst (bq (F.map (bt bs))),I,w,.lst (bq (gU bs OI)),E,A,.lst (bq ((aG bs.length).map (bt bs))),.c] (.bX 6) v)))
   (OI.map λi=>AV.int (bt bs i:Nat))=some (OI.map λi=>.str (bs[i]?.getD (true,[])).2):=by
   refine wX λi hi=>?_;have K:i<bs.length:=Nat.lt_of_succ_lt (N i hi);have q:ev (BK (k+3)) [none,none,none] (.index (.a 8) (.a 6)) [.str (aR bs),.lst (bq (OI.map (bt bs))),.lst (bq (F.map (bt bs))),I,w,.lst (bq (gU bs OI)),.int (bt bs i:Nat),A,.lst (bq ((aG bs.length).map (bt bs))),.c]=some (.int i):=by
    have e:((bt bs i:Nat):Int)∈((aG bs.length).map (bt bs)).map gQ:=dZ.mpr ⟨bt bs i,dZ.mpr ⟨i,aT.mpr K,rfl⟩,rfl⟩;have r:(((aG bs.length).map (bt bs)).map gQ).idxOf ((bt bs i:Nat):Int)=i:=by
     exact ab fi<|Ge (f:=gQ∘bt bs) (λa b ha hb h=>by
      refine ak (MF a b) (λJ=>?_) λH=>ak H (λJ=>?_) λJ=>?_
      ·have:=rB (bs:=bs) J (gv hb);lia
      ·exact J
      ·have:=rB (bs:=bs) J (gv ha);lia) K
    have P:(((aG bs.length).map (bt bs)).map gQ).length<=cB:=by simp[cB];lia
    exact ab (JA (k:=(bt bs i:Nat)) rfl rfl rfl (xh _) e P) (ab r rfl)
   have t:ev (BK (k+3)) [none,none,none] (.sub (.a 8) (.f .Add (.index (.a 8) (.a 6)) (.d 1))) [.str (aR bs),.lst (bq (OI.map (bt bs))),.lst (bq (F.map (bt bs))),I,w,.lst (bq (gU bs OI)),.int (bt bs i:Nat),A,.lst (bq ((aG bs.length).map (bt bs))),.c]=some (.int (bt bs (i+1):Nat)):=by
    refine dB (y:=.int ((i:Int)+1)) rfl (oO q rfl) ?_;have e3:bq ((aG bs.length).map (bt bs))=(((aG bs.length).map (bt bs)).map gQ).map .int:=by simp[bq]
    refine ab e3 (ab (pe (i:=i+1) (by simp;exact nv (N i hi)) (by simp[cB];lia)) ?_);simp
   have W:=xj bs;have M:=rA (bs:=bs) (show i+1<=bs.length by exact tU K);have hlt:=rB (bs:=bs) (show i<i+1 by exact Nat.lt_add_one i) (tU K);have:=JC (C:=BK (k+3)) (st:= [none,none,none]) (loc:= [.str (aR bs),.lst (bq (OI.map (bt bs))),.lst (bq (F.map (bt bs))),I,w,.lst (bq (gU bs OI)),.int (bt bs i:Nat),A,.lst (bq ((aG bs.length).map (bt bs))),.c]) (a:=.a 0) (lo:=.f .Add (.a 6) (.d 1)) (x:=aR bs) (s:=bt bs i+1) (p:=bt bs (i+1)) rfl rfl t (by lia) (le_of_le_of_eq M W) (gv V);simp only[Dc K]at this;show(do return some (<-ev (BK (k+3)) [none,none,none] (.G (.a 0) (.f .Add (.a 6) (.d 1)) (.sub (.a 8) (.f .Add (.index (.a 8) (.a 6)) (.d 1)))) [.str (aR bs),.lst (bq (OI.map (bt bs))),.lst (bq (F.map (bt bs))),I,w,.lst (bq (gU bs OI)),.int (bt bs i:Nat),A,.lst (bq ((aG bs.length).map (bt bs))),.c]))=_;refine ab this ?_;simp[K]
  have e1:bq (OI.map (bt bs))=OI.map λi=>AV.int (bt bs i:Nat):=by simp[bq,iJ]
  have Z:(OI.map λi=>AV.int (bt bs i:Nat)).length<=cB:=by simp[cB];lia
  refine mr (v:=.lst (bq (OI.map (bt bs)))) (l:=OI.map λi=>AV.int (bt bs i:Nat)) rfl (ab e1<|jN Z) B
 exact .ret rfl (by
  have Y:(OI.map λi=>AV.str (bs[i]?.getD (true,[])).2)=(OI.map λi=>(bs[i]?.getD (true,[])).2).map .str:=by simp
  refine ab Y ?_;simp only[(id qD),(id mz),iH,Bk,Bool.and_self])
theorem O9{k:Nat}{args:List AV}:(BK (k+1)).O 16 args=iR (BK k) Yp args:=rfl
noncomputable def JJ:Nat->List Nat
 |0=> []
 |1=> [92,41]
 |2=>qq
 |3=> [92,92]
 |_=> [92,34]
noncomputable def qv(g:Int):List Nat:=JJ (g.fmod 5).toNat
noncomputable def cl:Nat->Int->List lA
 |0,_=> []
 |n+1,g=>(false,qv g)::cl n (g.fdiv 5)
theorem RZ:(∀A,cl 0 A=([]))/\
 (∀n g,cl (n+1) g=((false,qv g)::cl n (g.fdiv 5))):=⟨by intros;rfl,by intros;rfl⟩
noncomputable def gn:Nat->Int->Int
 |0,g=>g
 |n+1,g=>gn n (g.fdiv 5)
theorem Yz:(∀g,gn 0 g=(g))/\
 (∀n g,gn (n+1) g=(gn n (g.fdiv 5))):=⟨by intros;rfl,by intros;rfl⟩
theorem ui(i:Nat):(JJ i).length<=5:=by
 match i with
 |0=>decide
 |1=>decide
 |2=>decide
 |3=>decide
 |n+4=>show 2<=5;decide
theorem So(i:Nat):mK (JJ i):=by
 match i with
 |0=>exact .inl iQ
 |1=>exact .inl (sL iQ)
 |2=>exact .inr rfl
 |3=>exact .inl (sL iQ)
 |n+4=>exact .inl (sL iQ)
noncomputable def VC:List AV:= [.str [],.str [92,41],.str [34,40,92,34,34],.str [92,92],.str [92,34]]
theorem NU{st:St}{g:Int}:gF st (.lst VC) (.int (g.fmod 5))=some (.str (qv g)):=by have Y:0<=g.fmod 5:=bQ _ (by decide);have J:g.fmod 5<5:=cJ _ (by decide);delta qv;refine aI (dW Y) λm T=>?_;rw[T]at J⊢;exact ab (bK ..)<|MO (fh.mp J) rfl rfl rfl rfl rfl
noncomputable def X9:List CS:= [.aug 3 .Add (.f .Add (.l [41]) (.sub (.list [(.l []),(.l [92,41]),(.l [34,40,92,34,34]),(.l [92,92]),(.l [92,34])]) (.f .Mod (.a 2) (.d 5)))),
 .aug 2 .FloorDiv (.d 5),
 .aug 4 .Sub (.d 1)]
noncomputable def Xm:CE:=.cmp .GtE (.a 4) (.sub (.f .Add (.a 0) (.list [(.d 0)])) (.f .Add (.a 5) (.d 1)))
theorem WZ(k:Nat){D M p:AV}{g deep:Int}{x:List Nat}(F:x.length+6<=cB):dh (BK k) X9 [D,M,.int g,.str x,.int deep,p] []=some (.next,[D,M,.int (g.fdiv 5),.str (x++(41::qv g)),.int (deep-1),p],[]):=by
 have X:=ui (g.fmod 5).toNat;have P:(qv g).length<=5:=X;refine aO (fW (x:=.str x) (v:=.str (41::qv g)) (y:=.str (x++(41::qv g))) rfl (eN (x:=.str [41]) (y:=.str (qv g)) rfl (dB (x:=.lst VC) (y:=.int (g.fmod 5)) rfl (oQ rfl rfl (by decide)) NU) ?_) rfl ?_ rfl) ?_
 ·have: [41].length+(qv g).length<=cB:=by simp[cB]at*;lia
  simp only[(id cw),if_pos this];rfl
 ·have:x.length+(41::qv g).length<=cB:=by simp;lia
  simp only[(id cw),if_pos this]
 refine aO (fW (x:=.int g) (v:=.int 5) (y:=.int (g.fdiv 5)) rfl rfl rfl (by
  have A:¬((5:Int)=0\/9000<=(5:Int).natAbs.log2):=by decide
  rfl) rfl) ?_
 exact aO (fW (x:=.int deep) (v:=.int 1) (y:=.int (deep-1)) rfl rfl rfl rfl rfl) rfl
theorem E2(k:Nat){D M p:AV}{τ:Int}(A:∀(g deep:Int) (x:List Nat),ev (BK k) [] (.sub (.f .Add (.a 0) (.list [(.d 0)])) (.f .Add (.a 5) (.d 1))) [D,M,.int g,.str x,.int deep,p]=some (.int τ)):
 ∀(n m:Nat) (g deep:Int) (x:List Nat),deep+1=τ+n->x.length+6*n<=cB->
  gh (λloc st=>do cU st (<-ev (BK k) st Xm loc)) (λloc st=>dh (BK k) X9 loc st) (n+m+1) [D,M,.int g,.str x,.int deep,p] []=
   some (.next,[D,M,.int (gn n g),.str (x++aR (cl n g)),.int (τ-1),p],[]):=by
 intro G
 induction G with
 |zero=>
  intro m g deep x h B;have u:decide (τ<=deep)=false:=by simp;lia
  have e:ev (BK k) [] Xm [D,M,.int g,.str x,.int deep,p]=some (.bool false):=cc (x:=.int deep) rfl (A g deep x) (by simp only[(id cb),u]);have F:deep=τ-1:=by lia
  refine ab (show 0+m+1=m+1 by exact dN ((λ{a b}=>Nat.right_eq_add.mpr) rfl)) (ab (gM (by simp only[e,aj,af];rfl)) ?_);simp[(id RZ),(id Yz),aR,F]
 |succ n R=>
  intro m g deep x h B;have u:decide (τ<=deep)=true:=by simp;lia
  have e:ev (BK k) [] Xm [D,M,.int g,.str x,.int deep,p]=some (.bool true):=cc (x:=.int deep) rfl (A g deep x) (by simp only[(id cb),u]);have P:(qv g).length<=5:=ui _;refine ab (show n+1+m+1=(n+m+1)+1 by lia)<|pI (by simp only[e,aj,af];rfl) (WZ k (by lia))<|ab (R m (g.fdiv 5) (deep-1) (x++(41::qv g)) (by lia) (by simp;lia)) ?_;simp[(id RZ),(id Yz),dj,pR]
noncomputable def Yi:List CS:= [.P Xm X9,
 .ite (.cmp .Lt (.a 5) (.d 4))
  [.aug 3 .Add (.f .Add (.l [40]) (.sub (.a 1) (.a 5))),
   .aug 4 .Add (.d 1)]
  []]
theorem zk(k:Nat){D:AV}{ms:List (List Nat)}{τ:Int}{p n:Nat}{g deep:Int}{x m:List Nat}(B:p<4)(A:∀(g deep:Int) (x:List Nat),ev (BK k) [] (.sub (.f .Add (.a 0) (.list [(.d 0)])) (.f .Add (.a 5) (.d 1))) [D,.lst (ms.map .str),.int g,.str x,.int deep,.int p]=some (.int τ))
 (Q:deep+1=τ+n)(C:n<=100)(F:x.length+700<=cB)(T:ms[p]? =some m)(o:m.length<=5)(K:ms.length<=10):
 dh (BK k) Yi [D,.lst (ms.map .str),.int g,.str x,.int deep,.int p] []=some (.next,[D,.lst (ms.map .str),.int (gn n g),.str (x++aR (cl n g++ [(true,m)])),.int τ,.int p],[]):=by
 have Z:∀(n:Nat) (g:Int),(aR (cl n g)).length<=6*n:=by
  intro n
  induction n with
  |zero=>exactλg=>Qe (aR (cl 0 g)).length
  |succ n R=>
   intro g;have:=R (g.fdiv 5);have:=ui (g.fmod 5).toNat;refine ab (RZ.2 ..) (ab (dj ..) ?_);simp[qv];(clear R K o T F C Q A B;omega+splitDisjunctions)
 have Y:=E2 k A n (199-n) g deep x Q (by lia);rw[show n+(199-n)+1=200 by lia]at Y;refine aO (rd Y)<|aO (eu (a:=.bool true) (r:=true) (cc (x:=.int p) (y:=.int 4) rfl rfl (by
  have:decide ((p:Int)<4)=true:=by simp;exact Int.lt_toNat.mp B
  simp only[(id cb),this])) rfl ?_) rfl
 have V:=Z n g;refine aO (fW (x:=.str (x++aR (cl n g))) (v:=.str (40::m)) (y:=.str (x++aR (cl n g++ [(true,m)]))) rfl (eN (x:=.str [40]) (y:=.str m) rfl (dB (x:=.lst (ms.map .str)) (y:=.int p) rfl rfl ?_) ?_) rfl ?_ rfl) ?_
 ·have f:p<ms.length:=(aQ.mp T).1;have J:(p:Int)<ms.length:=fh.mpr f;have U:ms.length<=cB:=by simp[cB];lia
  have E:ms[p]=m:=(aQ.mp T).2;simp[(id pd),ll,J,U,f,E]
 ·have: [40].length+m.length<=cB:=by simp[cB];lia
  simp only[(id cw),if_pos this];rfl
 ·have:(x++aR (cl n g)).length+(40::m).length<=cB:=by simp;lia
  simp only[(id cw),if_pos this,iC];simp[aR,pR]
 ·exact aO (fW (x:=.int (τ-1)) (v:=.int 1) (y:=.int τ) rfl rfl rfl (by simp[(id cw),binI]) rfl) rfl
theorem Bu(k:Nat){D M:AV}{τ:Int}{n:Nat}{g deep:Int}{x:List Nat}(A:∀(g deep:Int) (x:List Nat),ev (BK k) [] (.sub (.f .Add (.a 0) (.list [(.d 0)])) (.f .Add (.a 5) (.d 1))) [D,M,.int g,.str x,.int deep,.int 4]=some (.int τ))
 (Q:deep+1=τ+n)(C:n<=100)(F:x.length+700<=cB):
 dh (BK k) Yi [D,M,.int g,.str x,.int deep,.int 4] []=some (.next,[D,M,.int (gn n g),.str (x++aR (cl n g)),.int (τ-1),.int 4],[]):=by
 have Y:=E2 k A n (199-n) g deep x Q (by lia);rw[show n+(199-n)+1=200 by lia]at Y;exact aO (rd Y)<|aO (eu (a:=.bool false) (r:=false) rfl rfl rfl) rfl
noncomputable def iG(a b d:Nat)(m0 m1 m2 m3:List Nat)(g:Int):List lA:=
 (true,[])::(true,m0)::(cl (2-a) g++(true,m1)::(cl (a+1-b) (gn (2-a) g)++(true,m2)::(cl (b+1-d) (gn (a+1-b) (gn (2-a) g))++(true,m3)::cl (d+1) (gn (b+1-d) (gn (a+1-b) (gn (2-a) g))))))
theorem yo:∀(n:Nat) (g:Int),(aR (cl n g)).length<=6*n:=by
 intro G
 induction G with
 |zero=>
  exactλg=>Qe (aR (cl 0 g)).length
 |succ n R=>
  intro g;have:=R (g.fdiv 5);have:=ui (g.fmod 5).toNat;simp only[cl,dj];simp[qv];omega+splitDisjunctions
theorem Tg(k:Nat){a b d:Nat}{m0 m1 m2 m3:List Nat}(g:Int)(J:1<=a)(U:a<=2)(Z:1<=b)(f:b<=a+1)(O:1<=d)(T:d<=b+1)(l0:m0.length<=5)(l1:m1.length<=5)(l2:m2.length<=5)(l3:m3.length<=5){I:Prop}(N:(BK (k+1)).O 16 [.lst [.int 0,.int 1,.int a,.int b,.int d],.lst [.str m0,.str m1,.str m2,.str m3],.int g]=some (.str (aR (iG a b d m0 m1 m2 m3 g)))->(aR (iG a b d m0 m1 m2 m3 g)).length<=200->I):I:=by
 have P:=yo (2-a) g;have e:=yo (a+1-b) (gn (2-a) g);have c:=yo (b+1-d) (gn (a+1-b) (gn (2-a) g));have h:=yo (d+1) (gn (b+1-d) (gn (a+1-b) (gn (2-a) g)));have B:(aR (iG a b d m0 m1 m2 m3 g)).length<=200:=by simp only[iG,dj,iC,bu,cK,gk];lia
 refine N ?_ B;have t0:=zk k (D:=.lst [.int 0,.int 1,.int a,.int b,.int d]) (ms:= [m0,m1,m2,m3]) (τ:=1) (p:=0) (n:=0) (g:=g) (deep:=0) (x:= [40]) (m:=m0) (by decide) (λz z z=>rfl) rfl (by decide) (by decide) rfl l0 (cj.mp rfl);generalize F: [40]++aR (cl 0 g++ [(true,m0)])=V at t0;have A:V.length<=10:=by refine cA F ?_;simp[(id RZ),aR];lia
 have t1:=zk k (D:=.lst [.int 0,.int 1,.int a,.int b,.int d]) (ms:= [m0,m1,m2,m3]) (τ:=a) (p:=1) (n:=2-a) (g:=g) (deep:=1) (x:=V) (m:=m1) (by decide) (λz z z=>rfl) (by(clear A t0 F B h c e P N l3 l2 l1 l0 T O f Z J;omega+splitDisjunctions)) (by(clear A t0 F B h c e P N l3 l2 l1 l0 T O f Z U J;omega+splitDisjunctions)) (by simp[cB];lia) rfl l1 (by simp);generalize G:V++aR (cl (2-a) g++ [(true,m1)])=C at t1;have H:C.length<=40:=by refine cA G ?_;simp[aR]at P⊢;(clear t1 G t0 F B h c e N l3 l2 l0 T O f Z J;lia)
 have t2:=zk k (D:=.lst [.int 0,.int 1,.int a,.int b,.int d]) (ms:= [m0,m1,m2,m3]) (τ:=b) (p:=2) (n:=a+1-b) (g:=gn (2-a) g) (deep:=a) (x:=C) (m:=m2) (by decide) (λz z z=>rfl) (by(clear H t1 G A t0 F B h c e P N l3 l2 l1 l0 T O Z U J;omega+splitDisjunctions)) (by(clear H t1 G A t0 F B h c P N l3 l2 l1 l0 T O f J;omega+splitDisjunctions)) (by simp[cB];lia) rfl l2 (by simp);generalize Q:C++aR (cl (a+1-b) (gn (2-a) g)++ [(true,m2)])=E at t2;have X:E.length<=80:=by refine cA Q ?_;simp[aR]at e⊢;(clear t2 Q t1 G A t0 F B h P N l3 l1 l0 T O Z J;lia)
 have t3:=zk k (D:=.lst [.int 0,.int 1,.int a,.int b,.int d]) (ms:= [m0,m1,m2,m3]) (τ:=d) (p:=3) (n:=b+1-d) (g:=gn (a+1-b) (gn (2-a) g)) (deep:=b) (x:=E) (m:=m3) (by decide) (λz z z=>rfl) (by lia) (by(clear X t2 Q H t1 G A t0 F B h c e P N l3 l2 l1 l0 T Z J;omega+splitDisjunctions)) (by simp[cB];lia) rfl l3 (by simp);generalize W:E++aR (cl (b+1-d) (gn (a+1-b) (gn (2-a) g))++ [(true,m3)])=S at t3;have Y:S.length<=140:=by refine cA W ?_;simp[aR]at c⊢;(clear t3 W t2 Q H t1 G A t0 F B e P N l2 l1 l0 O Z J;lia)
 have K:=Bu k (D:=.lst [.int 0,.int 1,.int a,.int b,.int d]) (M:=.lst [.str m0,.str m1,.str m2,.str m3]) (τ:=0) (n:=d+1) (g:=gn (b+1-d) (gn (a+1-b) (gn (2-a) g))) (deep:=d) (x:=S) (λz z z=>rfl) (by lia) (by lia) (by simp[cB];lia);simp only[O9];refine eC.run rfl<|.cI (x:=.str [40]) (loc':= [.lst [.int 0,.int 1,.int a,.int b,.int d],.lst [.str m0,.str m1,.str m2,.str m3],.int g,.str [40],.c,.c]) rfl rfl<|.cI (x:=.int 0) (loc':= [.lst [.int 0,.int 1,.int a,.int b,.int d],.lst [.str m0,.str m1,.str m2,.str m3],.int g,.str [40],.int 0,.c]) rfl rfl ?_;refine .sy (a:=.lst [.int 0,.int 1,.int 2,.int 3,.int 4]) (L:= [.int 0,.int 1,.int 2,.int 3,.int 4]) rfl rfl (bf (loc1:= [.lst [.int 0,.int 1,.int a,.int b,.int d],.lst [.str m0,.str m1,.str m2,.str m3],.int g,.str [40],.int 0,.int 0]) rfl t0
  (bf (loc1:= [.lst [.int 0,.int 1,.int a,.int b,.int d],.lst [.str m0,.str m1,.str m2,.str m3],.int g,.str V,.int 1,.int 1]) rfl t1 (bf (loc1:= [.lst [.int 0,.int 1,.int a,.int b,.int d],.lst [.str m0,.str m1,.str m2,.str m3],.int (gn (2-a) g),.str C,.int a,.int 2]) rfl t2
    (bf (loc1:= [.lst [.int 0,.int 1,.int a,.int b,.int d],.lst [.str m0,.str m1,.str m2,.str m3],.int (gn (a+1-b) (gn (2-a) g)),.str E,.int b,.int 3]) rfl t3 (bf (loc1:= [.lst [.int 0,.int 1,.int a,.int b,.int d],.lst [.str m0,.str m1,.str m2,.str m3],.int (gn (b+1-d) (gn (a+1-b) (gn (2-a) g))),.str S,.int d,.int 4]) rfl K fX))))) ?_
 have R:S++aR (cl (d+1) (gn (b+1-d) (gn (a+1-b) (gn (2-a) g))))=aR (iG a b d m0 m1 m2 m3 g):=by refine cA W (cA Q (cA G (cA F ?_)));simp[iG,(id RZ),pR,aR]
 exact ab R<|.ret rfl rfl
theorem TM{k:Nat}{args:List AV}:(BK (k+1)).O 0 args=iR (BK k) f0 args:=rfl
theorem TN{k:Nat}{args:List AV}:(BK (k+1)).O 1 args=iR (BK k) f1 args:=rfl
noncomputable def fC(c d:Nat):Nat:=if c=d then 0 else if gE [c]=gE [d]then 1 else 2
theorem XZ(k:Nat){c d:Nat}(V:(gE [c]).length<=cB)(u:(gE [d]).length<=cB):(BK (k+1)).O 0 [.str [c],.str [d]]=some (.int (fC c d:Nat)):=by
 refine ab TM<|eC.run rfl ?_;delta fC;by_cases h:c=d
 ·subst h;exact .oq (cc (r:=true) rfl rfl (by simp[(id cb),(id jJ)]))<|ab (if_pos rfl)<|.ret rfl rfl
 ·refine ab (if_neg h)<|.jo (cc (r:=false) rfl rfl (ky (by simpa using h))) ?_;have e1:ev (BK k) [] (.lower (.a 0)) [.str [c],.str [d]]=some (.str (gE [c])):=by simp[(id fD),V]
  have e2:ev (BK k) [] (.lower (.a 1)) [.str [c],.str [d]]=some (.str (gE [d])):=by simp[(id fD),u]
  by_cases U:gE [c]=gE [d]
  ·exact .oq (cc (r:=true) e1 e2 (by simp[(id cb),(id jJ),U]))<|ab (if_pos U)<|.ret rfl rfl
  ·exact .jo (cc (r:=false) e1 e2 (ky U))<|ab (if_neg U)<|.ret rfl rfl
noncomputable def jR:List Nat->List Nat->Nat
 |x::a,y::b=>if x=y then jR a b+1 else 0
 |_,_=>0
theorem xk:(∀x a y b,jR (x::a) (y::b)=(if x=y then jR a b+1 else 0)):=by intros;rfl
section
variable{C:dC}{st:St}{loc:Loc}{e:CE}{l:List CE}
theorem jj{x:AV}{r:Bool}(J:ev C st e loc=some x)(U:cU st x=some true)(Z:ev C st (.band l) loc=some (.bool r)):ev C st (.band (e::l)) loc=some (.bool r):=by simp only[(id fD),dg]at Z⊢;refine aC Z λb O H=>?_;rcases H with⟨⟩;refine⟨r,?_,rfl⟩;simp[(id yu),J,U,O]
theorem D3:ev C st (.band []) loc=some (.bool true):=rfl
end
theorem hU{st:St}{x:List Nat}(h:x.length<=cB):cU st (.str x)=some (!x.isEmpty):=by simp[(id lY),h]
noncomputable def Ve:CE:=.band [(.F (.a 0) (.a 3)),(.F (.a 1) (.a 3)),(.cmp .Eq (.sub (.a 0) (.a 3)) (.sub (.a 1) (.a 3)))]
noncomputable def Zy:List CS:= [.aug 3 .Add (.d 1)]
noncomputable def loc1(a b:List Nat)(E S:AV):Loc:= [.str a,.str b,.int 8,E,S,.c,.c,.c,.c,.c,.c,.c,.c,.c]
theorem uq{st:St}{x:List Nat}{i:Nat}{c:Nat}{r:List Nat}(V:x.length<=cB)(h:x.drop i=c::r):gF st (.str x) (.int i)=some (.str [c]):=by
 have hi:i<x.length:=by have:=congrArg dp h;rw[bB]at this;simp at this;omega+splitDisjunctions
 have F:x[i]=c:=by rw[dF hi]at h;exact(Up h).1
 have U:(i:Int)<x.length:=by omega+splitDisjunctions
 simp[(id pd),ll,V,U,hi,F]
theorem PW(k:Nat)(a b:List Nat)(L:a.length<=cB)(O:b.length<=cB):∀(as bs:List Nat) (i A:Nat),a.drop i=as->b.drop i=bs->i<=a.length->i<=b.length->as.length<A->
 gh (λloc st=>do cU st (<-ev (BK k) st Ve loc)) (λloc st=>dh (BK k) Zy loc st) A (loc1 a b (.int i) .c) []=some (.next,loc1 a b (.int (i+jR as bs:Nat)) .c,[]):=by
 intro as
 induction as with
 |nil=>
  intro bs i A J U i1 o P;obtain⟨f,rfl⟩:∃f,A=f+1:=⟨A-1,by simp at P;exact(kK P).mp rfl⟩;refine gM ?_;have:ev (BK k) [] Ve (loc1 a b (.int i) .c)=some (.bool false):=mq (qu rfl rfl i1 L) (by refine ab J ?_;rfl);simp only[this,aj,af];rfl
 |cons x as R=>
  intro bs i A J U i1 o P;obtain⟨f,rfl⟩:∃f,A=f+1:=⟨A-1,by simp at P;lia⟩;have H:(x::as).length<=cB:=by refine cA J (ab bB ?_);lia
  have B:bs.length<=cB:=by refine cA U (ab bB ?_);lia
  have e1:ev (BK k) [] (.F (.a 0) (.a 3)) (loc1 a b (.int i) .c)=some (.str (x::as)):=cA J<|qu rfl rfl i1 L;have e2:ev (BK k) [] (.F (.a 1) (.a 3)) (loc1 a b (.int i) .c)=some (.str bs):=cA U<|qu rfl rfl o O;rcases bs with _|⟨y,bs⟩
  ·refine gM ?_;have:ev (BK k) [] Ve (loc1 a b (.int i) .c)=some (.bool false):=jj e1 (hU H) (mq e2 (hU B));simp only[this,aj,af];rfl
  ·have c:ev (BK k) [] (.sub (.a 0) (.a 3)) (loc1 a b (.int i) .c)=some (.str [x]):=dB rfl rfl (uq L J);have Y:ev (BK k) [] (.sub (.a 1) (.a 3)) (loc1 a b (.int i) .c)=some (.str [y]):=dB rfl rfl (uq O U);have l1:i+1<=a.length:=by
    have:=congrArg dp J;rw[bB]at this;simp at this;lia
   have l2:i+1<=b.length:=by have:=congrArg dp U;rw[bB]at this;simp at this;lia
   by_cases C:x=y
   ·have S:ev (BK k) [] Ve (loc1 a b (.int i) .c)=some (.bool true):=jj e1 (hU H) (jj e2 (hU B) (jj (cc (r:=true) c Y (by simp[(id cb),(id jJ),C])) rfl D3));have W:a.drop (i+1)=as:=by refine cA dJ (ab J ?_);rfl
    have Q:b.drop (i+1)=bs:=by refine cA dJ (ab U ?_);rfl
    refine pI (loc':=loc1 a b (.int (i+1:Nat)) .c) (st':= []) (by simp only[S,aj,af];rfl) (aO (fW (x:=.int i) (v:=.int 1) (y:=.int (i+1:Nat)) rfl rfl rfl rfl rfl) rfl)<|ab (R bs (i+1) f W Q l1 l2 (by simp at P;exact nv P)) ?_;simp only[(id xk),if_pos C];exact ab (show i+1+jR as bs=i+(jR as bs+1)by exact dS i (jR as bs)) rfl
   ·refine gM ?_|>.trans ?_
    ·have:ev (BK k) [] Ve (loc1 a b (.int i) .c)=some (.bool false):=jj e1 (hU H) (jj e2 (hU B) (mq (cc (r:=false) c Y (ky (by simpa using C))) rfl));simp only[this,aj,af];rfl
    ·simp only[(id xk),if_neg C];rfl
noncomputable def Vf:CE:=.band [(.A (.a 0) (.E (.a 4) .q)),(.A (.a 1) (.E (.a 4) .q)),(.cmp .Eq (.sub (.a 0) (.f .Sub (.a 4) (.d 1))) (.sub (.a 1) (.f .Sub (.a 4) (.d 1))))]
noncomputable def Zz:List CS:= [.aug 4 .Sub (.d 1)]
theorem ri{C:dC}{st:St}{loc:Loc}{v:CE}{x:List Nat}{j:Nat}(V:x.length<=cB)(D:ev C st v loc=some (.str x))(d:ev C st (.a 4) loc=some (.int (-(j:Int)))):ev C st (.A v (.E (.a 4) .q)) loc=some (.str (x.take (x.length-j))):=by
 have M:ev C st (.E (.a 4) .q) loc=some (if j=0 then .none else .int (-(j:Int))):=by
  have e:ev C st (.E (.a 4) .q) loc=(do
   let x<-ev C st (.a 4) loc
   if<-cU st x then return x else ev C st .q loc):=rfl
  refine ab e (ab d ?_);by_cases h:j=0
  ·subst h;rfl
  ·have:((-(j:Int)) !=0)=true:=by simp;exact W.neN h
   simp only[aj,af,(id lY),this,if_true,if_neg h,aJ]
 have e:ev C st (.A v (.E (.a 4) .q)) loc=(do vP (<-ev C st v loc) .none (<-ev C st (.E (.a 4) .q) loc)):=rfl;refine ab e (ab D (ab M ?_));by_cases h:j=0
 ·subst h;simp[(id T3),(id nF),V]
 ·refine ab (if_neg h) ?_;have U:(-(j:Int))<0:=by lia
  have Z:((-(j:Int))+(x.length:Nat)).toNat=x.length-j:=by lia
  simp only[aj,af,(id T3),(id nF),if_pos U,Z,if_pos V,Rv]
theorem Bn{st:St}{x:List Nat}{j:Nat}{c:Nat}{r:List Nat}(V:x.length<=cB)(h:x.reverse.drop j=c::r):gF st (.str x) (.int (-(j:Int)-1))=some (.str [c]):=by
 have Q:j<x.length:=by have:=congrArg dp h;rw[bB]at this;simp at this;exact DE this
 have F:x[x.length-1-j]=c:=by rw[dF (by simpa using Q)]at h;have:=(Up h).1;rw[List.getElem_reverse]at this;exact this
 have J:¬(0<= -(j:Int)-1/\ -(j:Int)-1<x.length):=by lia
 have U: -(j:Int)-1<0/\0<= -(j:Int)-1+x.length:=by lia
 have Z:(-(j:Int)-1+(x.length:Nat)).toNat=x.length-1-j:=by lia
 have d:x.length-1-j<x.length:=Nat.sub_one_sub_lt_of_lt Q;simp only[(id pd),ll,if_pos V,if_neg J,if_pos U,Z,aj,af,gx d,F,aJ]
theorem PX(k:Nat)(a b:List Nat)(E:AV)(L:a.length<=cB)(O:b.length<=cB):∀(as bs:List Nat) (j A:Nat),a.reverse.drop j=as->b.reverse.drop j=bs->j<=a.length->j<=b.length->as.length<A->
 gh (λloc st=>do cU st (<-ev (BK k) st Vf loc)) (λloc st=>dh (BK k) Zz loc st) A (loc1 a b E (.int (-(j:Int)))) []=some (.next,loc1 a b E (.int (-((j+jR as bs:Nat):Int))),[]):=by
 intro as
 induction as with
 |nil=>
  intro bs j A J U i1 o P;obtain⟨f,rfl⟩:∃f,A=f+1:=⟨A-1,by simp at P;exact(kK P).mp rfl⟩;refine gM ?_;have X:=congrArg dp J;simp at X;have e1:a.take (a.length-j)= []:=by refine ab (show a.length-j=0 by exact dN (iZ (congrFun (congrArg BG (id (dN X))) k))) ?_;rfl
  have:ev (BK k) [] Vf (loc1 a b E (.int (-(j:Int))))=some (.bool false):=mq (ri L rfl rfl) (by refine ab e1 ?_;rfl);simp only[this,aj,af];rfl
 |cons x as R=>
  intro bs j A J U i1 o P;obtain⟨f,rfl⟩:∃f,A=f+1:=⟨A-1,by simp at P;lia⟩;have l1:j+1<=a.length:=by have:=congrArg dp J;rw[bB]at this;simp at this;lia
  have t1:cU [] (.str (a.take (a.length-j)))=some true:=by
   refine ab (hU (by refine ab br ?_;lia)) ?_;have:(a.take (a.length-j)).isEmpty=false:=by rw[zx];intro h;have:=congrArg dp h;rw[br]at this;simp at this;lia
   refine ab this ?_;rfl
  have e1:ev (BK k) [] (.A (.a 0) (.E (.a 4) .q)) (loc1 a b E (.int (-(j:Int))))=some (.str (a.take (a.length-j))):=ri L rfl rfl;have e2:ev (BK k) [] (.A (.a 1) (.E (.a 4) .q)) (loc1 a b E (.int (-(j:Int))))=some (.str (b.take (b.length-j))):=ri O rfl rfl;rcases bs with _|⟨y,bs⟩
  ·refine gM ?_;have X:=congrArg dp U;simp at X;have c:b.take (b.length-j)= []:=by refine ab (show b.length-j=0 by exact dN (iZ (congrFun (congrArg BG (id (dN X))) k))) ?_;rfl
   have:ev (BK k) [] Vf (loc1 a b E (.int (-(j:Int))))=some (.bool false):=jj e1 t1 (mq e2 (by refine ab c ?_;rfl));simp only[this,aj,af];rfl
  ·have l2:j+1<=b.length:=by
    have:=congrArg dp U;rw[bB]at this;simp at this;lia
   have t2:cU [] (.str (b.take (b.length-j)))=some true:=by
    refine ab (hU (by refine ab br ?_;lia)) ?_;have:(b.take (b.length-j)).isEmpty=false:=by rw[zx];intro h;have:=congrArg dp h;rw[br]at this;simp at this;lia
    refine ab this ?_;rfl
   have c:ev (BK k) [] (.sub (.a 0) (.f .Sub (.a 4) (.d 1))) (loc1 a b E (.int (-(j:Int))))=some (.str [x]):=dB rfl (oP rfl rfl) (Bn L J);have Y:ev (BK k) [] (.sub (.a 1) (.f .Sub (.a 4) (.d 1))) (loc1 a b E (.int (-(j:Int))))=some (.str [y]):=dB rfl (oP rfl rfl) (Bn O U);by_cases C:x=y
   ·have S:ev (BK k) [] Vf (loc1 a b E (.int (-(j:Int))))=some (.bool true):=jj e1 t1 (jj e2 t2 (jj (cc (r:=true) c Y (by simp[(id cb),(id jJ),C])) rfl D3));have W:a.reverse.drop (j+1)=as:=by refine cA dJ (ab J ?_);rfl
    have Q:b.reverse.drop (j+1)=bs:=by refine cA dJ (ab U ?_);rfl
    refine pI (loc':=loc1 a b E (.int (-((j+1:Nat):Int)))) (st':= []) (by simp only[S,aj,af];rfl) (aO (fW (x:=.int (-(j:Int))) (v:=.int 1) (y:=.int (-((j+1:Nat):Int))) rfl rfl rfl (by simp only[(id cw),binI,aK];congr 2;lia) rfl) rfl)<|ab (R bs (j+1) f W Q l1 l2 (by simp at P;exact nv P)) ?_;simp only[(id xk),if_pos C];exact ab (show j+1+jR as bs=j+(jR as bs+1)by exact dS j (jR as bs)) rfl
   ·refine gM ?_|>.trans ?_
    ·have:ev (BK k) [] Vf (loc1 a b E (.int (-(j:Int))))=some (.bool false):=jj e1 t1 (jj e2 t2 (mq (cc (r:=false) c Y (ky (by simpa using C))) rfl));simp only[this,aj,af];rfl
    ·simp only[(id xk),if_neg C];rfl
noncomputable def jq(a b:Nat):Nat:=if b<a then b else a
noncomputable def mw(sub:Nat->Nat->Nat)(c:Nat):List Nat->List Nat->Nat->Nat->Nat->List Nat×Nat×Nat
 |x::a,r::B,dist,res,mn=>
  let res':=jq (jq res r+2) (dist+sub c x);let q:=mw sub c a B r res' (if res'<mn then res' else mn)
  (res'::q.1,q.2)
 |_,_,_,res,mn=>([],res,mn)
theorem CJ:(∀sub c x a r B dist res mn,mw sub c (x::a) (r::B) dist res mn=(let res':=jq (jq res r+2) (dist+sub c x)
 let q:=mw sub c a B r res' (if res'<mn then res' else mn)
 (res'::q.1,q.2)))/\
 (∀sub c C S res mn,mw sub c [] C S res mn=(([],res,mn)))/\(∀sub c x a S res mn,mw sub c (x::a) [] S res mn=(([],res,mn))):=⟨by intros;rfl,by intros;rfl,by intros;rfl⟩
noncomputable def FG:Nat:=9223372036854775807
noncomputable def oW(sub:Nat->Nat->Nat)(a:List Nat):List Nat->Nat->List Nat->Nat->Nat
 | [],_,_,res=>res
 |c::b,i,B,res=>
  let q:=mw sub c a B (i*2) (i*2) FG
  if 8<q.2.2 then 9 else oW sub a b (i+1) q.1 q.2.1
theorem KV:(∀sub a A C res,oW sub a [] A C res=(res))/\
 (∀sub a c b i B res,oW sub a (c::b) i B res=(let q:=mw sub c a B (i*2) (i*2) FG
 if 8<q.2.2 then 9 else oW sub a b (i+1) q.1 q.2.1)):=⟨by intros;rfl,by intros;rfl⟩
noncomputable def i1:List CS:= [.cI (.bX 12) (.f .Add (.a 9) (.call 0 [(.a 8),(.sub (.a 0) (.a 11))])),
 .cI (.bX 9) (.sub (.a 5) (.a 11)),
 .cI (.bX 13) (.f .Add (.S (.a 6) (.a 9)) (.n 1)),
 .cI (.bX 6) (.S (.a 13) (.a 12)),
 .J (.a 5) (.a 11) (.a 6),
 .ite (.cmp .Lt (.a 6) (.a 10))
  [.cI (.bX 10) (.a 6)]
  []]
noncomputable def jO(a b:List Nat)(p q res bi F dist mn ix su idl:AV):Loc:= [.str a,.str b,.int 8,p,q,.ref 0,res,bi,F,dist,mn,ix,su,idl]
noncomputable def nI(n:Nat):AV:=.int (n:Nat)
theorem D6{C:dC}{st:St}{loc:Loc}{a b:CE}{x y:Nat}(J:ev C st a loc=some (nI x))(U:ev C st b loc=some (nI y)):ev C st (.S a b) loc=some (nI (jq x y)):=by
 simp only[nI]at*;simp only[(id fD),lC,aK,af,J,U];delta jq;by_cases h:y<x
 ·exact ab (if_pos h) (ab (if_pos (fh.mpr h)) rfl)
 ·exact ab (if_neg h) (ab (if_neg (by lia)) rfl)
def gX(c:Nat):Prop:=(gE [c]).length<=cB
theorem WW(k:Nat){a b:List Nat}{p q bi ix su idl:AV}{c x res dist mn i r:Nat}{ar done rs:List Nat}(L:a.length<=100)(V:gX c)(F:gX x)(u:a.drop i=x::ar)(hi:done.length=i)(X:(done++r::rs).length<=100):
 ∃K I,dh (BK (k+1)) i1 (jO a b p q (nI res) bi (.str [c]) (nI dist) (nI mn) (nI i) su idl) [some (bq (done++r::rs))]=
  some (.next,jO a b p q (nI (jq (jq res r+2) (dist+fC c x))) bi (.str [c]) (nI r) (nI (if jq (jq res r+2) (dist+fC c x)<mn then jq (jq res r+2) (dist+fC c x)else mn)) (nI i) K I,
   [some (bq ((done++ [jq (jq res r+2) (dist+fC c x)])++rs))]):=by
 have S:a.length<=cB:=by simp[cB];lia
 have A:(bq (done++r::rs))[i]? =some (nI r):=by simp[bq,nI,<-hi]
 generalize B:jq (jq res r+2) (dist+fC c x)=res';refine⟨nI (dist+fC c x),nI (jq res r+2),?_⟩;refine aO (gw (v:=nI (dist+fC c x)) (loc':=jO a b p q (nI res) bi (.str [c]) (nI dist) (nI mn) (nI i) (nI (dist+fC c x)) idl) (eN (x:=nI dist) (y:=nI (fC c x)) rfl (eP (vs:= [.str [c],.str [x]]) ?_ rfl (XZ k V F)) rfl) rfl) ?_
 ·have:ev (BK (k+1)) [some (bq (done++r::rs))] (.sub (.a 0) (.a 11)) (jO a b p q (nI res) bi (.str [c]) (nI dist) (nI mn) (nI i) su idl)=some (.str [x]):=dB rfl rfl (uq S u);simp only[af,(id jW),this,aj,af,aJ];rfl
 refine aO (gw (v:=nI r) (loc':=jO a b p q (nI res) bi (.str [c]) (nI r) (nI mn) (nI i) (nI (dist+fC c x)) idl) (dB (x:=.ref 0) (y:=nI i) rfl rfl ?_) rfl) ?_
 ·have J:(i:Int)< (bq (done++r::rs)).length:=by simp[bq];lia
  have U:(bq (done++r::rs)).length<=cB:=by simp[bq,cB]at X⊢;(clear J B A S hi u F V L;lia)
  simp only[nI,(id pd),bo,uD,aj,af,ll,if_pos U,J,aX,and_self,if_true,bK];exact A
 refine aO (gw (v:=nI (jq res r+2)) (loc':=jO a b p q (nI res) bi (.str [c]) (nI r) (nI mn) (nI i) (nI (dist+fC c x)) (nI (jq res r+2))) (eN (x:=nI (jq res r)) (y:=nI 2) (D6 rfl rfl) rfl rfl) rfl)<|aO (gw (v:=nI res') (loc':=jO a b p q (nI res') bi (.str [c]) (nI r) (nI mn) (nI i) (nI (dist+fC c x)) (nI (jq res r+2))) (cA B<|D6 rfl rfl) rfl)<|aO (loc':=jO a b p q (nI res') bi (.str [c]) (nI r) (nI mn) (nI i) (nI (dist+fC c x)) (nI (jq res r+2))) (st':= [some (bq (done++ [res']++rs))]) ?_ ?_
 ·have e:=qt (C:=BK (k+1)) (st:= [some (bq (done++r::rs))]) (loc:=jO a b p q (nI res') bi (.str [c]) (nI r) (nI mn) (nI i) (nI (dist+fC c x)) (nI (jq res r+2))) (e:=.a 6) (c:=.a 5) (ix:=.a 11) (v:=nI res') (n:=0) (k:=i) (l:=bq (done++r::rs)) rfl rfl rfl rfl ⟨by exact aX i,by simp[bq];lia,by simp[bq,cB]at X⊢;lia⟩;refine bp e ?_;have:(bq (done++r::rs)).set (i:Int).toNat (nI res')=bq (done++ [res']++rs):=by
   refine ab (bK ..) ?_;simp[bq,nI,<-hi]
  refine ab this ?_;rfl
 ·by_cases T:res'<mn
  ·exact ab (if_pos T)<|aO (eu (a:=.bool true) (r:=true) (cc (x:=nI res') (y:=nI mn) rfl rfl (by simp only[nI,(id cb)];exact ab (decide_eq_true (fh.mpr T)) rfl)) rfl (aO (gw (v:=nI res') rfl rfl) rfl)) rfl
  ·exact ab (if_neg T)<|aO (eu (a:=.bool false) (r:=false) (cc (x:=nI res') (y:=nI mn) rfl rfl (by simp only[nI,(id cb)];exact ab (decide_eq_false (by lia)) rfl)) rfl rfl) rfl
theorem SK(k:Nat){a b:List Nat}{p q bi:AV}{c:Nat}(L:a.length<=100)(V:gX c):∀(as rs done:List Nat) (i res dist mn:Nat) (ix su idl:AV),(∀x∈as,gX x)->a.drop i=as->done.length=i->rs.length=as.length->(done++rs).length<=100->
 ∃C M K I,iP (.bX 11) (λloc st=>dh (BK (k+1)) i1 loc st) ((gZ i as.length).map λ(i:Nat)=>nI i) (jO a b p q (nI res) bi (.str [c]) (nI dist) (nI mn) ix su idl) [some (bq (done++rs))]=
  some (.next,jO a b p q (nI (mw fC c as rs dist res mn).2.1) bi (.str [c]) C (nI (mw fC c as rs dist res mn).2.2) M K I,[some (bq (done++(mw fC c as rs dist res mn).1))]):=by
 intro G
 induction G with
 |nil=>
  intro rs done i res dist mn ix su idl z z z X z;have:rs= []:=dD X;subst this;exact⟨nI dist,ix,su,idl,rfl⟩
 |cons x as P=>
  intro H done i res dist mn ix su idl E u hi X B;rcases H with _|⟨r,rs⟩
  ·injection X
  ·refine ej (WW k (a:=a) (b:=b) (p:=p) (q:=q) (bi:=bi) (ix:=ix) (su:=su) (idl:=idl) (c:=c) (x:=x) (res:=res) (dist:=dist) (mn:=mn) (i:=i) (r:=r) (ar:=as) (done:=done) (rs:=rs) L V (E x aH) u hi B) λJ D f=>?_;have A:a.drop (i+1)=as:=by refine cA dJ (ab u ?_);rfl
   refine JG (P rs (done++ [jq (jq res r+2) (dist+fC c x)]) (i+1) (jq (jq res r+2) (dist+fC c x)) r (if jq (jq res r+2) (dist+fC c x)<mn then jq (jq res r+2) (dist+fC c x)else mn) (nI i) J D
    (λy Y=>E y (ax _ Y)) A (by simp;omega+splitDisjunctions) (by simpa using X) (by simp at B⊢;omega+splitDisjunctions)) λQ Oz N F j=>?_
   refine⟨Q,Oz,N,F,?_⟩;refine ab bu<|ab uv<|ab bI<|bf (loc1:=jO a b p q (nI res) bi (.str [c]) (nI dist) (nI mn) (nI i) su idl) rfl f<|bp j ?_;simp only[(id CJ),tK,DB]
noncomputable def Bf(n:Nat):List Nat:=(aG n).map λi=>(i+1)*2
noncomputable def uR(sub:Nat->Nat->Nat)(a b:List Nat):Nat:=if 8< (b.length-a.length)*2 then 9 else oW sub a b 0 (Bf a.length) 0
noncomputable def Tf(sub:Nat->Nat->Nat)(a b:List Nat):Nat:=if a.isEmpty||b.isEmpty then(a.length+b.length)*2 else if b.length<a.length then uR sub b a else uR sub a b
noncomputable def Te(sub:Nat->Nat->Nat)(a b:List Nat):Nat:=Tf sub (a.take (a.length-jR a.reverse b.reverse)) (b.take (b.length-jR a.reverse b.reverse))
noncomputable def yO(sub:Nat->Nat->Nat)(a b:List Nat):Nat:=if a=b then 0 else Te sub (a.drop (jR a b)) (b.drop (jR a b))
noncomputable def o1:List CS:= [.cI (.bX 8) (.sub (.a 1) (.a 7)),
 .Cf 9 6 (.f .Mult (.a 7) (.n 1)),
 .cI (.bX 10) (.d 9223372036854775807),
 .m (.bX 11) (.j [(.len (.a 0))]) i1,
 .ite (.cmp .Gt (.a 10) (.a 2))
  [.ret (.f .Add (.a 2) (.d 1))]
  []]
theorem Jv{C:dC}{st:St}{loc l1 l2:Loc}{i j:Nat}{e:CE}{v:AV}(h:ev C st e loc=some v)(J:ek loc i v=some l1)(U:ek l1 j v=some l2):mY C (.Cf i j e) loc st=some (.next,l2,st):=by simp[(id oN),h,J,U]
theorem AJ{C:dC}{st:St}{loc:Loc}{e:CE}{n:Nat}(h:ev C st e loc=some (nI n))(Q:n<=cB):ev C st (.j [e]) loc=some (.lst ((gZ 0 n).map λ(i:Nat)=>nI i)):=by have e1:=yX n Q;have e2:ev C st (.j [e]) loc=(do return .lst (<-lx (<-sq C st [e] loc))):=rfl;refine ab e2 ?_;simp only[af,(id jW),h,aj,af,aJ];simp only[nI]at*;refine ab e1 (ab E7 ?_);rfl
theorem Gg(sub:Nat->Nat->Nat)(c:Nat):∀(as rs:List Nat) (d r m:Nat),rs.length=as.length->(mw sub c as rs d r m).1.length=as.length:=by
 intro G
 induction G with
 |nil=>
  intro rs d r m h;rfl
 |cons x as P=>
  intro H d r m h;rcases H with _|⟨y,rs⟩
  ·injection h
  ·simp[(id CJ),P rs _ _ _ (by simpa using h)]
theorem TC(k:Nat){a b:List Nat}{p q:AV}(L:a.length<=100)(O:b.length<=100)(X:∀x∈a,gX x)(Z:∀x∈b,gX x):∀(bs:List Nat) (i:Nat) (B:List Nat) (res:Nat) (bi F dist mn ix su idl:AV),b.drop i=bs->B.length=a.length->
 ∃loc' st',iP (.bX 7) (λloc st=>dh (BK (k+1)) o1 loc st) ((gZ i bs.length).map λ(i:Nat)=>nI i) (jO a b p q (nI res) bi F dist mn ix su idl) [some (bq B)]=some (.ret (nI (oW fC a bs i B res)),loc',st')\/
  (iP (.bX 7) (λloc st=>dh (BK (k+1)) o1 loc st) ((gZ i bs.length).map λ(i:Nat)=>nI i) (jO a b p q (nI res) bi F dist mn ix su idl) [some (bq B)]=some (.next,loc',st')/\ev (BK (k+1)) st' (.a 6) loc'=some (nI (oW fC a bs i B res))):=by
 intro G
 induction G with
 |nil=>
  exactλi B res bi F dist mn ix su idl z z=>⟨_,_,.inr ⟨rfl,rfl⟩⟩
 |cons c bs P=>
  intro i B res bi F dist mn ix su idl u d;have S:a.length<=cB:=by simp[cB];lia
  have E:b.length<=cB:=by simp[cB];lia
  have V:gX c:=Z c (gu (ab u<|aH));have A:b.drop (i+1)=bs:=by refine cA dJ (ab u ?_);rfl
  refine JG (SK k (a:=a) (b:=b) (p:=p) (q:=q) (bi:=nI i) (c:=c) L V a B [] 0 (i*2) (i*2) FG ix su idl X rfl rfl d (by simp;lia)) λU M K I f=>?_;generalize Y:mw fC c a B (i*2) (i*2) FG=Q at f;have D:Q.1.length=a.length:=cA Y<|Gg _ _ _ _ _ _ _ d;have C:oW fC a (c::bs) i B res=if 8<Q.2.2 then 9 else oW fC a bs (i+1) Q.1 Q.2.1:=by simp only[(id KV),Y]
  have W:∀R,dh (BK (k+1)) [.ite (.cmp .Gt (.a 10) (.a 2)) [.ret (.f .Add (.a 2) (.d 1))] []] (jO a b p q (nI Q.2.1) (nI i) (.str [c]) U (nI Q.2.2) M K I) [some (bq Q.1)]=R->
   dh (BK (k+1)) o1 (jO a b p q (nI res) (nI i) F dist mn ix su idl) [some (bq B)]=R:=by
   refineλR e=>aO (gw (v:=.str [c]) (loc':=jO a b p q (nI res) (nI i) (.str [c]) dist mn ix su idl) (dB (x:=.str b) (y:=nI i) rfl rfl (uq E u)) rfl) ?_;have J:binI .Mult (i:Nat) 2=some ((i*2:Nat):Int):=by delta binI;simp only;refine ab (if_pos (.inr (.inl (by decide)))) ?_;push_cast;rfl
   exact aO (Jv (v:=nI (i*2)) (l1:=jO a b p q (nI res) (nI i) (.str [c]) (nI (i*2)) mn ix su idl) (l2:=jO a b p q (nI (i*2)) (nI i) (.str [c]) (nI (i*2)) mn ix su idl) (eN (x:=nI i) (y:=.int 2) rfl rfl (by simp only[nI,(id cw),J,aK])) rfl rfl)<|aO (gw (v:=nI FG) (loc':=jO a b p q (nI (i*2)) (nI i) (.str [c]) (nI (i*2)) (nI FG) ix su idl) rfl rfl)<|aO (gT (a:=.lst ((gZ 0 a.length).map λ(i:Nat)=>nI i)) (l:=(gZ 0 a.length).map λ(i:Nat)=>nI i) (AJ (by simp[(id fD),(id mN),S,jO,nI]) S) (jN (by simp;exact S)) f)<|e
  refine ab C (ab bu (ab uv (ab bI ?_)));by_cases T:8<Q.2.2
  ·refine ab (if_pos T) ?_;have N:=W _ (iB (eu (a:=.bool true) (r:=true) (cc (x:=nI Q.2.2) (y:=.int 8) rfl rfl (by simp only[nI,(id cb)];exact ab (decide_eq_true (by lia)) rfl)) rfl (iB (rb (v:=nI 9) rfl rfl))));refine⟨jO a b p q (nI Q.2.1) (nI i) (.str [c]) U (nI Q.2.2) M K I,[some (bq Q.1)],.inl ?_⟩
   ·exact(vh.2 ..).trans (ua (show cT (jO a b p q (nI res) bi F dist mn ix su idl) (.bX 7) (nI i)=some (jO a b p q (nI res) (nI i) F dist mn ix su idl)from rfl) (ua N rfl))
  ·refine ab (if_neg T) ?_;have N:=W _ (aO (eu (a:=.bool false) (r:=false) (cc (x:=nI Q.2.2) (y:=.int 8) rfl rfl (by simp only[nI,(id cb)];exact ab (decide_eq_false (by lia)) rfl)) rfl rfl) rfl);refine ej (P (i+1) Q.1 Q.2.1 (nI i) (.str [c]) U (nI Q.2.2) M K I A D) λloc' st' j=>⟨loc',st',?_⟩;refine ak j (λj=>?_) λH=>aN H λj t=>?_
   ·exact .inl (bf (loc1:=jO a b p q (nI res) (nI i) F dist mn ix su idl) rfl N j)
   ·exact .inr ⟨bf (loc1:=jO a b p q (nI res) (nI i) F dist mn ix su idl) rfl N j,t⟩
noncomputable def Vp:List CS:= [.ite (.cmp .Gt (.f .Mult (.f .Sub (.len (.a 1)) (.len (.a 0))) (.n 1)) (.a 2))
 [.ret (.f .Add (.a 2) (.d 1))]
 [],
 .new 5 (.I [(.n 1),(.f .Mult (.n 1) (.f .Add (.len (.a 0)) (.d 1))),(.n 1)]),
 .cI (.bX 6) (.d 0),
 .m (.bX 7) (.j [(.len (.a 1))]) o1,
 .ret (.a 6)]
theorem Ws(n:Nat):rG 2 ((n+1)*2:Nat) 2=n:=by
 rcases n with _|n
 ·rfl
 ·delta rG;have e:(((n+1+1)*2:Nat):Int)-2-1=1+n*2:=by lia
  refine ab (if_pos (by lia)) (ab e (ab (BV 1 n (by decide)) ?_));show((0:Int)+n+1).toNat=n+1;refine ab (BW ..) ?_;rfl
theorem GY(n:Nat)(Q:n<=100):lx [.int 2,.int ((n+1:Nat)*2:Nat),.int 2]=some (bq (Bf n)):=by show(if(0:Int)<2/\(2:Int)<=1000/\((((n+1)*2:Nat):Int))-2<=cB/\Xv 2<=2^31/\(((n+1)*2:Nat):Int).natAbs<=2^31 then some ((gV 2 2 (rG 2 ((n+1)*2:Nat) 2)).map AV.int)else none)=_;refine ab (if_pos ⟨by decide,by decide,by show _<=(10000:Int);lia,by decide,by lia⟩) ?_;have e:rG 2 ((n+1)*2:Nat) 2=n:=Ws n;refine ab e ?_;congr 1;unfold gV bq Bf;refine ab fi (ab fi ?_);apply jn;intro i z;simp only[Function.comp_apply];congr 1;refine ab (Xg ..) (ab (tP ..) ?_);rfl
theorem Ae(k:Nat){a b:List Nat}{p q:AV}(L:a.length<=50)(O:b.length<=50)(I:a.length<=b.length)(X:∀x∈a,gX x)(Z:∀x∈b,gX x):
 eC (BK (k+1)) Vp [.str a,.str b,.int 8,p,q,.c,.c,.c,.c,.c,.c,.c,.c,.c] [] (nI (uR fC a b)):=by
 have S:a.length<=cB:=by simp[cB];lia
 have E:b.length<=cB:=by simp[cB];lia
 have C:∀(st:St) (V R:AV),ev (BK (k+1)) st (.len (.a 0)) [.str a,.str b,.int 8,p,q,V,R,.c,.c,.c,.c,.c,.c,.c]=some (nI a.length):=λst V R=>by simp[(id fD),(id mN),S,nI]
 have D:∀(st:St) (V R:AV),ev (BK (k+1)) st (.len (.a 1)) [.str a,.str b,.int 8,p,q,V,R,.c,.c,.c,.c,.c,.c,.c]=some (nI b.length):=λst V R=>by simp[(id fD),(id mN),E,nI]
 have J:binI .Mult ((b.length:Nat)- (a.length:Nat):Int) 2=some (((b.length-a.length)*2:Nat):Int):=by delta binI;simp only;refine ab (if_pos (.inr (.inl (by decide)))) ?_;congr 1;push_cast;lia
 have e1:ev (BK (k+1)) [] (.f .Mult (.f .Sub (.len (.a 1)) (.len (.a 0))) (.n 1)) [.str a,.str b,.int 8,p,q,.c,.c,.c,.c,.c,.c,.c,.c,.c]=some (nI ((b.length-a.length)*2)):=
  eN (oP (D _ _ _) (C _ _ _)) rfl (by simp only[nI,(id cw),J,aK])
 delta uR;by_cases m:8< (b.length-a.length)*2
 ·exact ab (if_pos m)<|.oq (cc (y:=.int 8) e1 rfl (by simp only[nI,(id cb)];exact ab (decide_eq_true (by exact HP m)) rfl))<|.ret rfl rfl
 ·refine ab (if_neg m)<|.jo (cc (y:=.int 8) e1 rfl (by simp only[nI,(id cb)];exact ab (decide_eq_false (by lia)) rfl)) ?_;have A:binI .Mult 2 ((a.length:Nat)+1:Int)=some (((a.length+1)*2:Nat):Int):=by
   delta binI;simp only;refine ab (if_pos (.inr (.inr (by decide)))) ?_;congr 1;push_cast;exact bR 2 (↑a.length+1)
  refine .next (iO (l:=bq (Bf a.length)) (loc':= [.str a,.str b,.int 8,p,q,.ref 0,.c,.c,.c,.c,.c,.c,.c,.c]) ?_ rfl rfl) ?_
  ·have e2:ev (BK (k+1)) [] (.f .Mult (.n 1) (.f .Add (.len (.a 0)) (.d 1))) [.str a,.str b,.int 8,p,q,.c,.c,.c,.c,.c,.c,.c,.c,.c]=some (.int ((a.length+1)*2:Nat)):=
    eN (x:=.int 2) rfl (oO (C _ _ _) rfl) (by simp only[(id cw),A,aK])
   have c:ev (BK (k+1)) [] (.I [(.n 1),(.f .Mult (.n 1) (.f .Add (.len (.a 0)) (.d 1))),(.n 1)]) [.str a,.str b,.int 8,p,q,.c,.c,.c,.c,.c,.c,.c,.c,.c]=
    (do return .lst (<-lx (<-sq (BK (k+1)) [] [(.n 1),(.f .Mult (.n 1) (.f .Add (.len (.a 0)) (.d 1))),(.n 1)] [.str a,.str b,.int 8,p,q,.c,.c,.c,.c,.c,.c,.c,.c,.c]))):=rfl
   have Y:ev (BK (k+1)) [] (.n 1) [.str a,.str b,.int 8,p,q,.c,.c,.c,.c,.c,.c,.c,.c,.c]=some (.int 2):=rfl;refine ab c ?_;simp only[af,(id jW),e2,Y,aj,af,aJ,GY a.length (by lia)]
  ·refine .cI (x:=.int 0) (loc':=jO a b p q (nI 0) .c .c .c .c .c .c .c) rfl rfl<|ej (TC k (a:=a) (b:=b) (p:=p) (q:=q) (by lia) (by lia) X Z b 0 (Bf a.length) 0 .c .c .c .c .c .c .c rfl (by simp[Bf])) λloc' st' g=>?_;have B:ev (BK (k+1)) [some (bq (Bf a.length))] (.j [(.len (.a 1))]) (jO a b p q (nI 0) .c .c .c .c .c .c .c)=some (.lst ((gZ 0 b.length).map λ(i:Nat)=>nI i)):=AJ (by simp[(id fD),(id mN),E,jO,nI]) E;have n:fQ [some (bq (Bf a.length))] (.lst ((gZ 0 b.length).map λ(i:Nat)=>nI i))=some ((gZ 0 b.length).map λ(i:Nat)=>nI i):=jN (by simp;exact E);refine ak g (λg=>?_) λH=>aN H λg j=>?_
   ·exact⟨_,_,iB (gT B n g)⟩
   ·exact .next (gT B n g) (.ret j rfl)
theorem Sl{C:dC}{st:St}{loc:Loc}{a:CE}{l:List CE}{x:AV}(J:ev C st a loc=some x)(U:cU st x=some true):ev C st (.bor (a::l)) loc=some (.bool true):=by simp[(id fD),(id Ju),J,U]
theorem XR(k:Nat){a b:List Nat}(L:a.length<=30)(O:b.length<=30)(X:∀x∈a,gX x)(Z:∀x∈b,gX x):(BK (k+2)).O 1 [.str a,.str b,.int 8]=some (nI (yO fC a b)):=by
 have S:a.length<=cB:=by simp[cB];lia
 have E:b.length<=cB:=by simp[cB];lia
 refine ab TN<|eC.run rfl ?_;delta yO;by_cases I:a=b
 ·exact ab (if_pos I)<|.oq (cc (r:=true) rfl rfl (by simp[(id cb),(id jJ),I]))<|.ret rfl rfl
 refine ab (if_neg I)<|.jo (cc (r:=false) rfl rfl (ky I))<|.cI (x:=.int 0) (loc':=loc1 a b (.int (0:Nat)) .c) rfl rfl ?_;have w1:=PW (k+1) a b S E a b 0 200 rfl rfl (bz _) (bz _) (by lia);rw[B8]at w1;refine .next (rd w1) ?_;have D:∀(a b:List Nat),jR a b<=a.length/\jR a b<=b.length:=by
  intro a
  induction a with
  |nil=>exactλb=>⟨aV 0,bz _⟩
  |cons x a R=>
   intro b;cases b with
   |nil=>exact⟨bz _,aV 0⟩
   |cons y b=>
    simp only[(id xk)];split
    ·have:=R b;simp;exact And.comm.mp (id (And.symm this))
    ·simp
 have B:=D a b;generalize jR a b=p at*;refine .cI (x:=.str (a.drop p)) (loc':=loc1 (a.drop p) b (.int p) .c) (qu rfl rfl B.1 S) rfl<|.cI (x:=.str (b.drop p)) (loc':=loc1 (a.drop p) (b.drop p) (.int p) .c) (qu rfl rfl B.2 E) rfl ?_;have U:(a.drop p).length<=30:=by refine ab bB ?_;lia
 have N:(b.drop p).length<=30:=by refine ab bB ?_;lia
 have T:∀x∈a.drop p,gX x:=λx F=>X x (gu F);have V:∀x∈b.drop p,gX x:=λx F=>Z x (gu F);generalize a.drop p=a1 at*;generalize b.drop p=b1 at*;delta Te;have K:a1.length<=cB:=by simp[cB];lia
 have J:b1.length<=cB:=by simp[cB];lia
 refine .cI (x:=.int 0) (loc':=loc1 a1 b1 (.int p) (.int (-((0:Nat):Int)))) rfl rfl ?_;have w2:=PX (k+1) a1 b1 (.int p) K J a1.reverse b1.reverse 0 200 rfl rfl (bz _) (bz _) (by simp;lia);rw[B8]at w2;refine .next (rd w2) ?_;generalize jR a1.reverse b1.reverse=q at*;refine .cI (x:=.str (a1.take (a1.length-q))) (loc':=loc1 (a1.take (a1.length-q)) b1 (.int p) (.int (-(q:Int)))) (ri K rfl rfl) rfl<|.cI (x:=.str (b1.take (b1.length-q))) (loc':=loc1 (a1.take (a1.length-q)) (b1.take (b1.length-q)) (.int p) (.int (-(q:Int)))) (ri J rfl rfl) rfl ?_;have c:(a1.take (a1.length-q)).length<=30:=by refine ab br ?_;lia
 have H:(b1.take (b1.length-q)).length<=30:=by refine ab br ?_;lia
 have M:∀x∈a1.take (a1.length-q),gX x:=λx F=>T x (iX F);have Q:∀x∈b1.take (b1.length-q),gX x:=λx F=>V x (iX F);generalize a1.take (a1.length-q)=a2 at*;generalize b1.take (b1.length-q)=b2 at*;delta Tf;have P:a2.length<=cB:=by simp[cB];lia
 have A:b2.length<=cB:=by simp[cB];lia
 have u:ev (BK (k+1)) [] (.C (.a 0)) (loc1 a2 b2 (.int p) (.int (-(q:Int))))=some (.bool a2.isEmpty):=by have:=vd (C:=BK (k+1)) (st:= []) (loc:=loc1 a2 b2 (.int p) (.int (-(q:Int)))) (e:=.a 0) (x:=.str a2) rfl (hU P);simpa using this
 have n2:ev (BK (k+1)) [] (.C (.a 1)) (loc1 a2 b2 (.int p) (.int (-(q:Int))))=some (.bool b2.isEmpty):=by have:=vd (C:=BK (k+1)) (st:= []) (loc:=loc1 a2 b2 (.int p) (.int (-(q:Int)))) (e:=.a 1) (x:=.str b2) rfl (hU A);simpa using this
 have l0:∀(a b:List Nat),a.length<=cB->ev (BK (k+1)) [] (.len (.a 0)) (loc1 a b (.int p) (.int (-(q:Int))))=some (nI a.length):=λa b h=>by simp[(id fD),(id mN),h,loc1,nI]
 have l1:∀(a b:List Nat),b.length<=cB->ev (BK (k+1)) [] (.len (.a 1)) (loc1 a b (.int p) (.int (-(q:Int))))=some (nI b.length):=λa b h=>by simp[(id fD),(id mN),h,loc1,nI]
 by_cases G:(a2.isEmpty||b2.isEmpty)=true
 ·refine ab (if_pos G)<|.oq (by
   cases h1:a2.isEmpty with
   |true=>rw[h1]at u;exact Sl u rfl
   |false=>
    rw[h1]at u G;rw[show b2.isEmpty=true by simpa using G]at n2;exact ve u rfl n2 rfl) ?_
  refine .ret (eN (x:=.int 2) (y:=.int ((a2.length:Nat)+(b2.length:Nat))) rfl (oO (l0 _ _ P) (l1 _ _ A)) ?_) rfl;simp only[nI,(id cw)];delta binI;simp only;refine ab (if_pos (.inr (.inr (by decide)))) ?_;simp only[aK];congr 2;push_cast;lia
 ·refine ab (if_neg G) ?_;have W:a2.isEmpty=false:=by cases h:a2.isEmpty<;>simp_all
  have g:b2.isEmpty=false:=by cases h:b2.isEmpty<;>simp_all
  rw[W]at u;rw[g]at n2;refine .jo (ve u rfl n2 rfl)<|.jo (ve (cc (r:=false) (y:=.int 40) (l0 _ _ P) rfl (by simp only[nI,(id cb)];exact ab (decide_eq_false (by lia)) rfl)) rfl (cc (r:=false) (y:=.int 40) (l1 _ _ A) rfl (by simp only[nI,(id cb)];exact ab (decide_eq_false (by lia)) rfl)) rfl) ?_;by_cases Y:b2.length<a2.length
  ·exact ab (if_pos Y)<|.oq (cc (l1 _ _ A) (l0 _ _ P) (by simp only[nI,(id cb)];exact ab (decide_eq_true (by lia)) rfl))<|.cI (x:=.tup [.str b2,.str a2]) (loc':=loc1 b2 a2 (.int p) (.int (-(q:Int)))) rfl rfl<|Ae k (by lia) (by lia) (by lia) Q M
  ·exact ab (if_neg Y)<|.jo (cc (l1 _ _ A) (l0 _ _ P) (by simp only[nI,(id cb)];exact ab (decide_eq_false (by lia)) rfl))<|Ae k (by lia) (by lia) (by lia) M Q
noncomputable def KZ(c:Nat):List Nat:=match c with
 |0=> [0]
 |1=> [0,2]
 |2=> [0]
 |3=> [1]
 |4=> [0]
 |5=> [1]
 |6=> [0]
 |_=> [0,2]
noncomputable def K0(c:Nat):List Nat:=match c with
 |0=> [0]
 |1=> [0,2]
 |2=> [1]
 |3=> [0]
 |4=> [1]
 |5=> [0]
 |6=> [0,2]
 |_=> [0]
noncomputable def EA(p c:Nat):List Nat:=(KZ c).map (3*p+·)
noncomputable def EB(p c:Nat):List Nat:=(K0 c).map (3*p+·)
noncomputable def UA(c:Nat):Nat:=match c with
 |0=>0
 |1=>0
 |2=>1
 |3=>1
 |_=>2
noncomputable def Uv(c:Nat):Bool:=c==2||c==3
noncomputable def zf(c:Nat->Nat)(x y:Nat):Nat:=if x==y then 0 else if x/3==y/3&&(x% 3 !=2)&&(y% 3 !=2)&&Uv (c (x/3))then 1 else 2
noncomputable def Nv(c0 P m c:Nat)(p:Nat):Nat:=match p with
 |0=>c0
 |1=>P
 |2=>m
 |_=>c
noncomputable def QY(c0 P m c:Nat):Bool:=yO (zf (Nv c0 P m c)) (EA 0 c0++(EA 1 P++(EA 2 m++EA 3 c))) (EB 0 c0++(EB 1 P++(EB 2 m++EB 3 c)))==UA c0+UA P+UA m+UA c
@[elab_as_elim] theorem Ze{M:Nat->Prop}{p:Nat}(B:p<8)(Y:M 0)(J:M 1)(U:M 2)(Z:M 3)(d:M 4)(O:M 5)(T:M 6)(V:M 7):M p:=by
 rcases p with _|_|_|_|p
 ·exact Y
 ·exact J
 ·exact U
 ·exact Z
 ·exact QZ (M:=λp=>M (p+4)) (Nat.lt_of_add_lt_add_right B) d O T V
theorem OF{c0:Nat}(h:c0<8):((aG 8).all λP=>(aG 8).all λm=>(aG 8).all λc=>QY c0 P m c)=true:=by refine Ze h ?_ ?_ ?_ ?_ ?_ ?_ ?_ ?_<;>decide+kernel
section
variable{φ:Nat->Nat}{sub sub':Nat->Nat->Nat}{S:Nat->Prop}
theorem Bb(hi:∀x y,S x->S y->φ x=φ y->x=y):∀{a b:List Nat},(∀x∈a,S x)->(∀x∈b,S x)->jR (a.map φ) (b.map φ)=jR a b:=by
 intro G
 induction G with
 |nil=>
  intro b Z Z;rcases b with⟨⟩<;>rfl
 |cons x a P=>
  intro H L O;rcases H with _|⟨y,b⟩
  ·exact rfl
  ·have R:=P (λz o=>L z (ax _ o)) λz o=>O z (ax _ o);simp only[bI,(id xk)];by_cases h:x=y
   ·exact ab (if_pos h) (ab (if_pos (congrArg _ h)) (ab R rfl))
   ·exact ab (if_neg h) (ab (if_neg λe=>h (hi x y (L x aH) (O y aH) e)) rfl)
theorem OJ(hi:∀x y,S x->S y->φ x=φ y->x=y):∀{a b:List Nat},(∀x∈a,S x)->(∀x∈b,S x)->a.map φ=b.map φ->a=b:=by
 intro G
 induction G with
 |nil=>
  intro H Z Z h;rcases H with _|⟨y,b⟩
  ·exact rfl
  ·injection h
 |cons x a P=>
  intro H L O h;rcases H with _|⟨y,b⟩
  ·injection h
  ·simp only[bI,List.cons.injEq]at h;exact ab (hi x y (L x aH) (O y aH) h.1) (ab (P (λz o=>L z (ax _ o)) (λz o=>O z (ax _ o)) h.2) rfl)
theorem Gh(A:∀x y,S x->S y->sub' (φ x) (φ y)=sub x y){c:Nat}(V:S c):∀{a B:List Nat} {d r m:Nat},(∀x∈a,S x)->mw sub' (φ c) (a.map φ) B d r m=mw sub c a B d r m:=by
 intro G
 induction G with
 |nil=>
  intro B d r m Z;rfl
 |cons x a P=>
  intro H d r m L;rcases H with _|⟨y,B⟩
  ·rfl
  ·simp only[bI,(id CJ),A c x V (L x aH),P (λz o=>L z (ax _ o))]
theorem GN(A:∀x y,S x->S y->sub' (φ x) (φ y)=sub x y){a:List Nat}(L:∀x∈a,S x):∀{b:List Nat} {i:Nat} {B:List Nat} {r:Nat},(∀x∈b,S x)->oW sub' (a.map φ) (b.map φ) i B r=oW sub a b i B r:=by
 intro G
 induction G with
 |nil=>
  intro i B r Z;exact rfl
 |cons c b P=>
  intro i B r O;simp only[bI,(id KV),Gh A (O c aH) L];exact congrArg _ (P λz o=>O z (ax _ o))
theorem Af(G:∀x y,S x->S y->sub' (φ x) (φ y)=sub x y){a b:List Nat}(L:∀x∈a,S x)(O:∀x∈b,S x):uR sub' (a.map φ) (b.map φ)=uR sub a b:=by delta uR;exact ab (aY ..) (ab (aY ..) (ab (GN G L O) rfl))
theorem Ks(hi:∀x y,S x->S y->φ x=φ y->x=y)(G:∀x y,S x->S y->sub' (φ x) (φ y)=sub x y){a b:List Nat}(L:∀x∈a,S x)(O:∀x∈b,S x):yO sub' (a.map φ) (b.map φ)=yO sub a b:=by
 delta yO;by_cases h:a=b
 ·exact ab (if_pos h) (ab (if_pos (congrArg _ h)) rfl)
 refine ab (if_neg h) (ab (if_neg λe=>h (OJ hi L O e)) (ab (Bb hi L O) (cA zF (cA zF ?_))));have U:∀x∈a.drop (jR a b),S x:=λx F=>L x (gu F);have N:∀x∈b.drop (jR a b),S x:=λx F=>O x (gu F);generalize a.drop (jR a b)=a1 at*;generalize b.drop (jR a b)=b1 at*;delta Te;refine cA uB (cA uB (ab (Bb hi (a:=a1.reverse) (b:=b1.reverse) (λx F=>U x (uC.mp F)) (λx F=>N x (uC.mp F))) (ab (aY ..) (ab (aY ..) (cA nz (cA nz ?_))))));have c:∀x∈a1.take (a1.length-jR a1.reverse b1.reverse),S x:=λx F=>U x (iX F);have H:∀x∈b1.take (b1.length-jR a1.reverse b1.reverse),S x:=λx F=>N x (iX F);generalize a1.take (a1.length-jR a1.reverse b1.reverse)=a2 at*;generalize b1.take (b1.length-jR a1.reverse b1.reverse)=b2 at*;delta Tf;have e1:(a2.map φ).isEmpty=a2.isEmpty:=by rcases a2 with⟨⟩<;>rfl
 have e2:(b2.map φ).isEmpty=b2.isEmpty:=by rcases b2 with⟨⟩<;>rfl
 exact ab e1 (ab e2 (ab (aY ..) (ab (aY ..) (ab (Af G c H) (ab (Af G H c) rfl)))))
end
set_option genInjectivity false in
structure iy where
 L:Nat
 x:Nat
 t:Nat
noncomputable def iy.mark(P:iy):List Nat:=match P.t with
 |0=> [P.L]
 |1=> [P.x]
 |2=> [P.x]
 |_=> [P.L,P.x]
noncomputable def iy.str(P:iy)(b:Bool):List Nat:=if b then P.mark else[P.L]
noncomputable def iy.p0(P:iy):Nat:=match P.t with
 |0=>0
 |1=>1
 |_=>2
noncomputable def yj(t:Nat)(u v:Bool):Nat:=match t with
 |0=>0
 |1=>bif u then(bif v then 0 else 3)else(bif v then 2 else 0)
 |2=>bif u then(bif v then 0 else 5)else(bif v then 4 else 0)
 |_=>bif u then(bif v then 1 else 7)else(bif v then 6 else 0)
noncomputable def iy.cfg(P:iy)(u v:Bool):Nat:=yj P.t u v
noncomputable def iy.c0(P:iy)(u v:Bool):Nat:=if(P.t=1\/P.t=2)/\u=true/\v=true then P.x else P.L
noncomputable def iy.code(P:iy)(u v:Bool)(r:Nat):Nat:=if r=0 then P.c0 u v else P.x
structure sh (P Q:iy):Prop where
 LL:fC P.L Q.L=2
 Lx:fC P.L Q.x=2
 xL:fC P.x Q.L=2
 xx:fC P.x Q.x=2
structure iy.Ok (P:iy):Prop where
 t:P.t<4
 s:P.t≠0->fC P.L P.x=(if P.t=1 then 1 else 2)/\fC P.x P.L=(if P.t=1 then 1 else 2)
theorem xD(c:Nat):fC c c=0:=by simp[fC]
theorem iy.IZ(P:iy)(u v:Bool):P.cfg u v<8:=by show yj P.t u v<8;generalize P.t=t;rcases t with _|_|_|t<;>rcases u with _|_<;>rcases v with _|_<;>exact dT rfl
theorem iy.pr(P:iy)(m:P.t<4)(u v:Bool):UA (P.cfg u v)=if u !=v then P.p0 else 0:=by obtain⟨L,x,t⟩:=P;refine QZ (M:=λt=>∀u v,UA (iy.cfg ⟨L,x,t⟩ u v)=if u !=v then iy.p0 ⟨L,x,t⟩else 0) m ?_ ?_ ?_ ?_ u v<;>(intro u v;cases u<;>cases v<;>rfl)
noncomputable def vX(c r:Nat):Bool:=r==0||(r==1&&(ME 2 c&&ME c 5))||(r==2&&(c==1||c==6||c==7))
def xK(c r:Nat):Prop:=vX c r=true
section
variable{P:Nat->iy}{u v:Nat->Bool}
noncomputable def C0(P:Nat->iy)(u v:Nat->Bool)(x:Nat):Nat:=(P (x/3)).code (u (x/3)) (v (x/3)) (x% 3)
noncomputable def cf(P:Nat->iy)(u v:Nat->Bool)(p:Nat):Nat:=(P p).cfg (u p) (v p)
def qT(P:Nat->iy)(u v:Nat->Bool)(x:Nat):Prop:=x/3<4/\xK (cf P u v (x/3)) (x% 3)
theorem DZ(Q:iy)(a b:Bool)(r:Nat):Q.code a b r=Q.L\/Q.code a b r=Q.x:=by
 unfold iy.code iy.c0;by_cases h:r=0
 ·refine ab (if_pos h) ?_;split
  ·exact .inr rfl
  ·exact .inl rfl
 ·exact ab (if_neg h)<|.inr rfl
noncomputable def wT(t:Nat)(u v:Bool)(r:Nat):Bool:= !(r==0)||((t==1||t==2)&&(u&&v))
theorem yq(Q:iy)(a b:Bool)(r:Nat):Q.code a b r=bif wT Q.t a b r then Q.x else Q.L:=by
 unfold iy.code iy.c0 wT;rcases h:r==0 with _|_
 ·refine ab (if_neg (not_eq_of_beq_eq_false h)) ?_;rfl
 ·refine ab (if_pos (by simpa using h)) ?_;rcases a with⟨⟩<;>rcases b with⟨⟩<;>simp
noncomputable def YH(t:Nat)(u v:Bool)(r s:Nat):Bool:= !(vX (yj t u v) r&&(vX (yj t u v) s&& !(r==s)))||((wT t u v r !=wT t u v s)&&(!(t==0)&&((!(r==2)&&(!(s==2)&&Uv (yj t u v)))==(t==1))))
theorem OQ:((aG 4).all λt=> [false,true].all λu=> [false,true].all λv=>(aG 3).all λr=>(aG 3).all λs=>YH t u v r s)=true:=by decide+kernel
theorem lE(u:Bool):u∈ [false,true]:=by rcases u with⟨⟩<;>decide
theorem Bv{c r:Nat}(h:vX c r=true):r<3:=by
 rcases r with _|_|_|r
 ·decide
 ·decide
 ·decide
 ·exact(aB h).elim
theorem C1(Q:iy)(N:Q.Ok)(a b:Bool){r s:Nat}(G:xK (Q.cfg a b) r)(A:xK (Q.cfg a b) s)(L:r≠s):fC (Q.code a b r) (Q.code a b s)=if r≠2/\s≠2/\Uv (Q.cfg a b)=true then 1 else 2:=by
 have J:=aq.mp (aq.mp (aq.mp (aq.mp (aq.mp OQ Q.t (aT.mpr N.t)) a (lE a)) b (lE b)) r (aT.mpr (Bv G))) s (aT.mpr (Bv A));have G:vX (yj Q.t a b) r=true:=G;have A:vX (yj Q.t a b) s=true:=A;dsimp only[YH]at J;simp only[G,A,beq_false_of_ne L]at J;have Z:=ba J;have Y:Q.t≠0:=by simpa using(ba Z.2).1
 refine aN (N.s Y) λf j=>?_;have O:(if r≠2/\s≠2/\Uv (Q.cfg a b)=true then 1 else 2)=(if Q.t=1 then 1 else 2):=by
  have T:(r≠2/\s≠2/\Uv (Q.cfg a b)=true)↔Q.t=1:=by rewrite[<-beq_iff_eq (a:=Q.t)];refine cA (eq_of_beq (ba Z.2).2) ?_;simp[iy.cfg]
  simp only[T]
 simp only[O,yq,yq];cases hw:wT Q.t a b r<;>cases hv:wT Q.t a b s
 ·rw[hw,hv]at Z;cases Z.1
 ·exact f
 ·exact j
 ·rw[hw,hv]at Z;cases Z.1
theorem Ez(m:∀p,p<4->(P p).Ok)(hA:∀p q,p<4->q<4->p≠q->sh (P p) (P q))(x y:Nat)(F:qT P u v x)(Y:qT P u v y):fC (C0 P u v x) (C0 P u v y)=zf (cf P u v) x y:=by
 by_cases C:x=y
 ·subst C;refine ab (xD ..) ?_;simp[zf]
 ·have O:(x==y)=false:=by simpa using C
  delta zf;refine ab O ?_;simp only[bx,if_false];by_cases B:x/3=y/3
  ·have G:x% 3≠y% 3:=by lia
   have:=C1 (P (x/3)) (m _ F.1) (u (x/3)) (v (x/3)) F.2 (B▸Y.2) G;delta C0;refine cA B (ab this ?_);have J:(x/3==x/3)=true:=by simp
   refine ab J ?_;simp only[kW,au,bne_iff_ne,ne_eq,cf];by_cases hh:x% 3≠2/\y% 3≠2/\Uv ((P (x/3)).cfg (u (x/3)) (v (x/3)))=true
   ·refine ab (if_pos hh) (ab (if_pos ⟨⟨hh.1,hh.2.1⟩,hh.2.2⟩) ?_);rfl
   ·refine ab (if_neg hh) (ab (if_neg λq=>hh ⟨q.1.1,q.1.2,q.2⟩) ?_);rfl
  ·have J:(x/3==y/3)=false:=by simpa using B
   refine ab J ?_;simp only[mE,bx,if_false];have A:=hA _ _ F.1 Y.1 B;delta C0;refine ak (DZ (P (x/3)) (u (x/3)) (v (x/3)) (x% 3)) (λe1=>?_) λe1=>?_<;>refine ak (DZ (P (y/3)) (u (y/3)) (v (y/3)) (y% 3)) (λe2=>?_) λe2=>?_<;>refine ab e1 (ab e2 ?_)
   ·exact A.LL
   ·exact A.Lx
   ·exact A.xL
   ·exact A.xx
theorem OW(m:∀p,p<4->(P p).Ok)(hA:∀p q,p<4->q<4->p≠q->sh (P p) (P q))(x y:Nat)(F:qT P u v x)(Y:qT P u v y)(h:C0 P u v x=C0 P u v y):x=y:=by
 have:=Ez m hA x y F Y;rw[h,xD]at this;by_cases C:x=y
 ·exact C
 ·exfalso;have O:(x==y)=false:=beq_false_of_ne C;delta zf at this;rw[O]at this;simp only[bx,if_false]at this;split at this<;>injection this
theorem EC:((aG 8).all λc=>(KZ c++K0 c).all λr=>BY r 3&&vX c r)=true:=by decide+kernel
theorem mA{p c x:Nat}(B:p<4)(V:c<8)(h:x∈EA p c\/x∈EB p c){I:Prop}(N:x/3=p->xK c (x% 3)->I):I:=by
 refine aN (?_:x/3=p/\xK c (x% 3)) N;have Z:∀r,r∈KZ c++K0 c->(3*p+r)/3=p/\xK c ((3*p+r)% 3):=λr G=>by
  have J:=ba (aq.mp (aq.mp EC c (aT.mpr V)) r G);have U:r<3:=dT J.1;exact ab (show(3*p+r)/3=p by lia)<|ab (show(3*p+r)% 3=r by lia)<|⟨rfl,J.2⟩
 refine ak h (λh=>?_) λh=>?_
 ·exact aC (dZ.mp h) λr G e=>e▸Z r (fo _ G)
 ·exact aC (dZ.mp h) λr G e=>e▸Z r (kH _ G)
theorem TF(p r:Nat)(G:r<3):C0 P u v (3*p+r)=(P p).code (u p) (v p) r:=by delta C0;exact ab (show(3*p+r)/3=p by lia) (ab (show(3*p+r)% 3=r by lia) rfl)
noncomputable def T6(t:Nat)(b:Bool):List Bool:=bif b then(match t with
 |0=> [false]
 |1=> [true]
 |2=> [true]
 |_=> [false,true])else[false]
theorem LI(Q:iy)(N:Q.t<4)(b:Bool):Q.str b=(T6 Q.t b).map λw=>bif w then Q.x else Q.L:=by
 obtain⟨L,x,t⟩:=Q;rcases b with⟨⟩
 ·rfl
 ·rcases t with _|_|_|_|A
  ·rfl
  ·rfl
  ·rfl
  ·rfl
  ·exact absurd N (by lia)
theorem Bj:((aG 4).all λt=> [false,true].all λu=> [false,true].all λv=>((KZ (yj t u v)).map (wT t u v)==T6 t u)&&((K0 (yj t u v)).map (wT t u v)==T6 t v))=true:=by decide+kernel
theorem Pt{p:Nat}(S:(P p).t<4):(EA p (cf P u v p)).map (C0 P u v)=(P p).str (u p)/\(EB p (cf P u v p)).map (C0 P u v)=(P p).str (v p):=by
 have Z:∀l:List Nat,(∀r∈l,r<3)->(l.map (3*p+·)).map (C0 P u v)=(l.map (wT (P p).t (u p) (v p))).map λw=>bif w then(P p).x else(P p).L:=λl X=>by
  refine ab fi<|ab fi<|jn λr G=>?_;show C0 P u v (3*p+r)=_;refine ab (TF p r (X r G)) (ab (yq ..) ?_);rfl
 have U:∀r,r∈KZ (cf P u v p)++K0 (cf P u v p)->r<3:=λr G=>dT (ba (aq.mp (aq.mp EC (cf P u v p) (aT.mpr (iy.IZ _ _ _))) r G)).1;exact ab (LI _ S ..)<|ab (LI _ S ..)<|cA (eq_of_beq (ba (aq.mp (aq.mp (aq.mp Bj _ (aT.mpr S)) _ (lE (u p))) _ (lE (v p)))).1)<|cA (eq_of_beq (ba (aq.mp (aq.mp (aq.mp Bj _ (aT.mpr S)) _ (lE (u p))) _ (lE (v p)))).2)<|⟨Z _ λr G=>U r (fo _ G),Z _ λr G=>U r (kH _ G)⟩
noncomputable def km(P:Nat->iy)(u:Nat->Bool):List Nat:=(P 0).str (u 0)++((P 1).str (u 1)++((P 2).str (u 2)++(P 3).str (u 3)))
noncomputable def TG(P:Nat->iy)(u v:Nat->Bool)(p:Nat):Nat:=if u p !=v p then(P p).p0 else 0
theorem Gn(m:∀p,p<4->(P p).Ok)(hA:∀p q,p<4->q<4->p≠q->sh (P p) (P q)):yO fC (km P u) (km P v)=TG P u v 0+TG P u v 1+TG P u v 2+TG P u v 3:=by
 have V:∀p,cf P u v p<8:=λp=>iy.IZ _ _ _;have h:=aq.mp (aq.mp (aq.mp (OF (V 0)) _ (aT.mpr (V 1))) _ (aT.mpr (V 2))) _ (aT.mpr (V 3));dsimp only[QY]at h;rw[beq_iff_eq]at h;have A:∀x y,qT P u v x->qT P u v y->zf (Nv (cf P u v 0) (cf P u v 1) (cf P u v 2) (cf P u v 3)) x y=zf (cf P u v) x y:=by
  intro x y F Y;have:Nv (cf P u v 0) (cf P u v 1) (cf P u v 2) (cf P u v 3) (x/3)=cf P u v (x/3):=by
   have:=F.1;generalize x/3=p at*;refine QZ this ?_ ?_ ?_ ?_
   ·rfl
   ·rfl
   ·rfl
   ·rfl
  delta zf;exact ab this rfl
 have C:∀x∈EA 0 (cf P u v 0)++(EA 1 (cf P u v 1)++(EA 2 (cf P u v 2)++EA 3 (cf P u v 3))),qT P u v x:=by
  intro x F;simp only[dw]at F;refine ak F (λF=>?_) λH=>ak H (λF=>?_) λg=>ak g (λF=>?_) λF=>?_
  ·exact mA (by decide) (V 0) (.inl F) λe q=>⟨by lia,ab e<|q⟩
  ·exact mA (by decide) (V 1) (.inl F) λe q=>⟨by lia,ab e<|q⟩
  ·exact mA (by decide) (V 2) (.inl F) λe q=>⟨by lia,ab e<|q⟩
  ·exact mA (by decide) (V 3) (.inl F) λe q=>⟨by lia,ab e<|q⟩
 have I:∀x∈EB 0 (cf P u v 0)++(EB 1 (cf P u v 1)++(EB 2 (cf P u v 2)++EB 3 (cf P u v 3))),qT P u v x:=by
  intro x F;simp only[dw]at F;refine ak F (λF=>?_) λH=>ak H (λF=>?_) λg=>ak g (λF=>?_) λF=>?_
  ·exact mA (by decide) (V 0) (.inr F) λe q=>⟨by lia,ab e<|q⟩
  ·exact mA (by decide) (V 1) (.inr F) λe q=>⟨by lia,ab e<|q⟩
  ·exact mA (by decide) (V 2) (.inr F) λe q=>⟨by lia,ab e<|q⟩
  ·exact mA (by decide) (V 3) (.inr F) λe q=>⟨by lia,ab e<|q⟩
 have T:=Ks (φ:=C0 P u v) (sub:=zf (Nv (cf P u v 0) (cf P u v 1) (cf P u v 2) (cf P u v 3))) (sub':=fC) (S:=qT P u v) (OW m hA) (λx y F Y=>ab (A x y F Y)<|Ez m hA x y F Y) C I;simp only[h]at T;have s:=λp (B:p<4)=>Pt (P:=P) (u:=u) (v:=v) (p:=p) (m p B).t;have e1:km P u=(EA 0 (cf P u v 0)++(EA 1 (cf P u v 1)++(EA 2 (cf P u v 2)++EA 3 (cf P u v 3)))).map (C0 P u v):=by simp only[km,ed,(s 0 (by decide)).1,(s 1 (by decide)).1,(s 2 (by decide)).1,(s 3 (by decide)).1]
 have e2:km P v=(EB 0 (cf P u v 0)++(EB 1 (cf P u v 1)++(EB 2 (cf P u v 2)++EB 3 (cf P u v 3)))).map (C0 P u v):=by simp only[km,ed,(s 0 (by decide)).2,(s 1 (by decide)).2,(s 2 (by decide)).2,(s 3 (by decide)).2]
 simp only[e1,e2,T];have D:=λp (B:p<4)=>iy.pr (P p) (m p B).t (u p) (v p);simp only[TG,cf,D 0 (by decide),D 1 (by decide),D 2 (by decide),D 3 (by decide)]
end
theorem Pb{k:Nat}{args:List AV}:(BK (k+1)).O 18 args=iR (BK k) Yr args:=rfl
noncomputable def cE(f:Nat->AV):List AV:= [f 0,f 1,f 2,f 3,f 4]
section
variable{O M:Nat->Nat}{mk lt:Nat->List Nat}
noncomputable def pc(O M:Nat->Nat)(mk lt:Nat->List Nat)(s p:Nat):List Nat:=if O p<=O s/\O s<=M p then mk p else lt p
noncomputable def YA:List CS:= [.aug 6 .Add (.N (.B .LtE .LtE (.sub (.a 0) (.a 7)) (.a 5) (.sub (.a 1) (.a 7))) (.sub (.a 2) (.a 7)) (.sub (.a 3) (.a 7)))]
noncomputable def BM(O M:Nat->Nat)(mk lt:Nat->List Nat)(st nm G:AV):Loc:= [.lst (cE λi=>nI (O i)),.lst (cE λi=>nI (M i)),.lst (cE λi=>.str (mk i)),.lst (cE λi=>.str (lt i)),.ref 0,st,nm,G]
theorem zl(k:Nat){s p:Nat}{x:List Nat}{st:St}(A:p<5)(T:(mk p).length<=5)(X:(lt p).length<=5)(F:x.length<=30):
 dh (BK k) YA (BM O M mk lt (nI (O s)) (.str x) (nI p)) st=some (.next,BM O M mk lt (nI (O s)) (.str (x++pc O M mk lt s p)) (nI p),st):=by
 have g:∀(f:Nat->AV),gF st (.lst (cE f)) (nI p)=some (f p):=by
  refineλf=>MO A ?_ ?_ ?_ ?_ ?_
  ·rfl
  ·rfl
  ·rfl
  ·rfl
  ·rfl
 have le:∀(a b:Nat),fk st .LtE (nI a) (nI b)=some (decide (a<=b)):=λa b=>by
  simp only[nI,(id cb)];congr 1;exact decide_eq_decide.mpr eG
 have H:ev (BK k) st (.N (.B .LtE .LtE (.sub (.a 0) (.a 7)) (.a 5) (.sub (.a 1) (.a 7))) (.sub (.a 2) (.a 7)) (.sub (.a 3) (.a 7))) (BM O M mk lt (nI (O s)) (.str x) (nI p))=some (.str (pc O M mk lt s p)):=by
  delta pc;by_cases J:O p<=O s
  ·by_cases U:O s<=M p
   ·exact ab (if_pos ⟨J,U⟩)<|Jz (rg (r:=true) (dB rfl rfl (g _)) rfl (ab (le ..) (ab (decide_eq_true J) rfl)) (dB rfl rfl (g _)) (ab (le ..) (ab (decide_eq_true U) rfl))) rfl (dB rfl rfl (g _))
   ·exact ab (if_neg λq=>U q.2)<|Cy (rg (r:=false) (dB rfl rfl (g _)) rfl (ab (le ..) (ab (decide_eq_true J) rfl)) (dB rfl rfl (g _)) (ab (le ..) (ab (decide_eq_false U) rfl))) rfl (dB rfl rfl (g _))
  ·exact ab (if_neg λq=>J q.1)<|Cy (vb (dB rfl rfl (g _)) rfl (ab (le ..) (ab (decide_eq_false J) rfl))) rfl (dB rfl rfl (g _))
 have B:(pc O M mk lt s p).length<=5:=by
  delta pc;split
  ·exact T
  ·exact X
 refine aO (fW (x:=.str x) (v:=.str (pc O M mk lt s p)) (y:=.str (x++pc O M mk lt s p)) rfl H rfl ?_ rfl) rfl;have:x.length+(pc O M mk lt s p).length<=cB:=by simp[cB];lia
 exact if_pos this
noncomputable def pS(O M:Nat->Nat)(mk lt:Nat->List Nat)(s:Nat):List Nat:=pc O M mk lt s 1++(pc O M mk lt s 2++(pc O M mk lt s 3++pc O M mk lt s 4))
theorem rz(k:Nat){s:Nat}{st0 nm G:AV}{l:List AV}(T:∀p,p<5->(mk p).length<=5)(X:∀p,p<5->(lt p).length<=5)(S:l.length<=10):
 dh (BK k) [.cI (.bX 6) (.l []),.m (.bX 7) (.j [(.d 1),(.d 5)]) YA,.app 4 (.a 6)] (BM O M mk lt (nI (O s)) nm G) [some l]=some (.next,BM O M mk lt (nI (O s)) (.str (pS O M mk lt s)) (nI 4),[some (l++ [.str (pS O M mk lt s)])]):=by
 have B:∀p,p<5->(pc O M mk lt s p).length<=5:=λp h=>by
  delta pc;split
  ·exact T p h
  ·exact X p h
 have J:=B 1 (by decide);have U:=B 2 (by decide);have Z:=B 3 (by decide);refine aO (gw (v:=.str []) (loc':=BM O M mk lt (nI (O s)) (.str []) G) rfl rfl) ?_;refine aO (gT (a:=.lst [nI 1,nI 2,nI 3,nI 4]) (l:= [nI 1,nI 2,nI 3,nI 4]) rfl rfl (bf (loc1:=BM O M mk lt (nI (O s)) (.str []) (nI 1)) rfl (zl k (by decide) (T 1 (by decide)) (X 1 (by decide)) (cj.mp rfl))
  (bf (loc1:=BM O M mk lt (nI (O s)) (.str ([]++pc O M mk lt s 1)) (nI 2)) rfl (zl k (by decide) (T 2 (by decide)) (X 2 (by decide)) (by simp;lia))
  (bf (loc1:=BM O M mk lt (nI (O s)) (.str ([]++pc O M mk lt s 1++pc O M mk lt s 2)) (nI 3)) rfl (zl k (by decide) (T 3 (by decide)) (X 3 (by decide)) (by simp;lia))
  (bf (loc1:=BM O M mk lt (nI (O s)) (.str ([]++pc O M mk lt s 1++pc O M mk lt s 2++pc O M mk lt s 3)) (nI 4)) rfl (zl k (by decide) (T 4 (by decide)) (X 4 (by decide)) (by simp;lia)) fX))))) ?_
 have e: []++pc O M mk lt s 1++pc O M mk lt s 2++pc O M mk lt s 3++pc O M mk lt s 4=pS O M mk lt s:=by simp[pS]
 exact ab e<|aO (jK (n:=0) (l:=l) (v:=.str (pS O M mk lt s)) rfl rfl rfl (by simp[cB];lia)) rfl
theorem OK(k:Nat)(T:∀p,p<5->(mk p).length<=5)(X:∀p,p<5->(lt p).length<=5):
 (BK (k+1)).O 18 [.lst (cE λi=>nI (O i)),.lst (cE λi=>nI (M i)),.lst (cE λi=>.str (mk i)),.lst (cE λi=>.str (lt i))]=some (.lst (cE λs=>.str (pS O M mk lt s))):=by
 simp only[Pb];refine eC.run rfl<|.next (iO (l:= []) (loc':=BM O M mk lt .c .c .c) rfl rfl rfl) ?_;refine .sy (a:=.lst (cE λi=>nI (O i))) (L:=cE λi=>nI (O i)) rfl rfl (bf (loc1:=BM O M mk lt (nI (O 0)) .c .c) rfl (rz k (st0:=.c) T X (cj.mp rfl))
  (bf (loc1:=BM O M mk lt (nI (O 1)) (.str (pS O M mk lt 0)) (nI 4)) rfl (rz k (st0:=.c) T X (by simp)) (bf (loc1:=BM O M mk lt (nI (O 2)) (.str (pS O M mk lt 1)) (nI 4)) rfl (rz k (st0:=.c) T X (by simp))
  (bf (loc1:=BM O M mk lt (nI (O 3)) (.str (pS O M mk lt 2)) (nI 4)) rfl (rz k (st0:=.c) T X (by simp)) (bf (loc1:=BM O M mk lt (nI (O 4)) (.str (pS O M mk lt 3)) (nI 4)) rfl (rz k (st0:=.c) T X (by simp)) fX))))) ?_
 exact .next (ji (n:=0) (l:=cE λs=>.str (pS O M mk lt s)) (l':=cE λs=>.str (pS O M mk lt s)) (st':= [none]) (loc':= [.lst (cE λi=>nI (O i)),.lst (cE λi=>nI (M i)),.lst (cE λi=>.str (mk i)),.lst (cE λi=>.str (lt i)),.lst (cE λs=>.str (pS O M mk lt s)),nI (O 4),.str (pS O M mk lt 4),nI 4]) rfl rfl rfl rfl)<|.ret rfl rfl
end
theorem Pc{k:Nat}{args:List AV}:(BK (k+1)).O 19 args=iR (BK k) Sm args:=rfl
noncomputable def Rd:List AV:= [.ref 0,.ref 1,.ref 2,.ref 3,.ref 4]
noncomputable def LG(r:Nat->List AV):St:= [some (r 0),some (r 1),some (r 2),some (r 3),some (r 4),some Rd]
noncomputable def sF(nm:Nat->List Nat)(n2 x y:AV):Loc:= [.lst (cE λi=>.str (nm i)),.ref 5,n2,x,y]
noncomputable def Y0:List CS:= [.J (.sub (.a 1) (.a 3)) (.a 4) (.call 1 [(.sub (.a 0) (.a 3)),(.sub (.a 0) (.a 4)),(.d 8)]),
 .J (.sub (.a 1) (.a 4)) (.a 3) (.sub (.sub (.a 1) (.a 3)) (.a 4))]
theorem jd{st:St}{f:Nat->AV}:∀{p:Nat},p<5->gF st (.lst (cE f)) (nI p)=some (f p):=λ{p} B=>MO B rfl rfl rfl rfl rfl
theorem zc{r:Nat->List AV}:∀{p:Nat},p<5->((LG r)[p]?).join=some (r p):=λ{p} B=>MO B rfl rfl rfl rfl rfl
theorem EL{r:Nat->List AV}:∀{p:Nat},p<5->gF (LG r) (.ref 5) (nI p)=some (.ref p):=λ{p} B=>MO B rfl rfl rfl rfl rfl
theorem EM{r:Nat->List AV}{l:List AV}:∀{p:Nat},p<5->(LG r).set p (some l)=LG λi=>if i=p then l else r i:=λ{p} B=>MO B rfl rfl rfl rfl rfl
theorem Pu{st:St}{x i:Nat}{l:List AV}{v:AV}(h:jX st (.ref x)=some l)(hi:i<l.length)(V:l.length<=cB)(D:l[i]? =some v):gF st (.ref x) (nI i)=some v:=by have J:(i:Int)<l.length:=fh.mpr hi;simp only[nI,(id pd),show(st[x]?).join=some l from h,aj,af,ll,if_pos V,J,aX,and_self,if_true,bK,D]
theorem Ud(k:Nat){nm:Nat->List Nat}{r:Nat->List AV}{n2:AV}{x y w:Nat}(F:x<5)(Y:y<x)(G:∀i,i<5->(r i).length=5)(N:(BK k).O 1 [.str (nm x),.str (nm y),.int 8]=some (nI w)):
 dh (BK k) Y0 (sF nm n2 (nI x) (nI y)) (LG r)=some (.next,sF nm n2 (nI x) (nI y),LG λi=>if i=y then(r y).set x (nI w)else if i=x then(r x).set y (nI w)else r i):=by
 have A:y<5:=BZ Y F;have O:∀st,ev (BK k) st (.sub (.a 0) (.a 3)) (sF nm n2 (nI x) (nI y))=some (.str (nm x)):=λst=>dB rfl rfl (jd F);have e1:∀st,ev (BK k) st (.sub (.a 0) (.a 4)) (sF nm n2 (nI x) (nI y))=some (.str (nm y)):=λst=>dB rfl rfl (jd A);have ex:∀r,ev (BK k) (LG r) (.sub (.a 1) (.a 3)) (sF nm n2 (nI x) (nI y))=some (.ref x):=λr=>dB rfl rfl (EL F);have C:∀r,ev (BK k) (LG r) (.sub (.a 1) (.a 4)) (sF nm n2 (nI x) (nI y))=some (.ref y):=λr=>dB rfl rfl (EL A);have B:=G x F;have D:=G y A;refine aO (qt (n:=x) (k:=y) (l:=r x) (v:=nI w) (eP (vs:= [.str (nm x),.str (nm y),.int 8]) (by simp only[af,(id jW),O,e1,aj,af,aJ];rfl) rfl N) (ex r) rfl (zc F) ⟨by exact aX y,by lia,by refine ab B ?_;decide⟩) ?_;refine ab (bK ..) (ab (EM F) ?_);have L:y≠x:=jb Y;refine aO (qt (n:=y) (k:=x) (l:=r y) (v:=nI w) (dB (x:=.ref x) (y:=nI y) (ex _) rfl ?_) (C _) rfl (ab (zc A) (ab (if_neg L) rfl)) ⟨by exact aX x,by lia,by refine ab D ?_;decide⟩) ?_
 ·have X:((r x).set y (nI w)).length=5:=ab lK<|B;have U:jX (LG λi=>if i=x then(r x).set y (nI w)else r i) (.ref x)=some ((r x).set y (nI w)):=by
   show((LG _)[x]?).join=_;exact ab (zc F) (ab (if_pos rfl) rfl)
  exact Pu U (et A (id (dN X))) (by refine ab X ?_;decide) (ab (fI (et A (id (dN B)))) rfl)
 ·refine ab (bK ..) (ab (EM A) ?_);rfl
theorem Ui(k:Nat){nm:Nat->List Nat}{W:Nat->Nat->Nat}(N:∀x y,y<x->x<5->(BK k).O 1 [.str (nm x),.str (nm y),.int 8]=some (nI (W x y))):
 (BK (k+1)).O 19 [.lst (cE λi=>.str (nm i))]=some (.lst (cE λx=>.lst (cE λy=>nI (if y<x then W x y else if x<y then W y x else 0)))):=by
 refine ab Pc<|eC.run rfl<|.next (loc':=sF nm .c .c .c) (st':=LG λz=>cE λz=>nI 0) rfl ?_;have T:=λ(r:Nat->List AV) (n2:AV) (x y:Nat) (F:x<5) (Y:y<x) (G:∀i,i<5->(r i).length=5)=>Ud k (nm:=nm) (r:=r) (n2:=n2) (w:=W x y) F Y G (N x y Y F);have X:∀(r:Nat->List AV) (x y w:Nat),(∀i,i<5->(r i).length=5)->x<5->y<5->∀i,i<5->((λi=>if i=y then(r y).set x (nI w)else if i=x then(r x).set y (nI w)else r i) i).length=5:=by
  intro r x y w h F Y i hi;simp only;split
  ·exact ab lK<|h y Y
  ·split
   ·exact ab lK<|h x F
   ·exact h i hi
 have I:∀i,i<5->((λz=>cE λz=>nI 0:Nat->List AV) i).length=5:=λz z=>rfl;have t1:=T _ .c 1 0 (by decide) (by decide) I;have A:=X _ 1 0 (W 1 0) I (by decide) (by decide);have t2:=T _ .c 2 0 (by decide) (by decide) A;have C:=X _ 2 0 (W 2 0) A (by decide) (by decide);have t3:=T _ .c 2 1 (by decide) (by decide) C;have S:=X _ 2 1 (W 2 1) C (by decide) (by decide);have K:=T _ .c 3 0 (by decide) (by decide) S;have s:=X _ 3 0 (W 3 0) S (by decide) (by decide);have B:=T _ .c 3 1 (by decide) (by decide) s;have D:=X _ 3 1 (W 3 1) s (by decide) (by decide);have t6:=T _ .c 3 2 (by decide) (by decide) D;have E:=X _ 3 2 (W 3 2) D (by decide) (by decide);have t7:=T _ .c 4 0 (by decide) (by decide) E;have H:=X _ 4 0 (W 4 0) E (by decide) (by decide);have M:=T _ .c 4 1 (by decide) (by decide) H;have J:=X _ 4 1 (W 4 1) H (by decide) (by decide);have t9:=T _ .c 4 2 (by decide) (by decide) J;have O:=X _ 4 2 (W 4 2) J (by decide) (by decide);have X0:=T _ .c 4 3 (by decide) (by decide) O;refine .sy (a:=.lst [nI 0,nI 1,nI 2,nI 3,nI 4]) (L:= [nI 0,nI 1,nI 2,nI 3,nI 4]) rfl rfl
  (bf (loc1:=sF nm .c (nI 0) .c) (loc2:=sF nm .c (nI 0) .c) rfl (aO (gT (a:=.lst []) (l:= []) rfl rfl fX) rfl)
  (bf (loc1:=sF nm .c (nI 1) .c) (loc2:=sF nm .c (nI 1) (nI 0)) rfl (aO (gT (a:=.lst [nI 0]) (l:= [nI 0]) rfl rfl (bf (loc1:=sF nm .c (nI 1) (nI 0)) rfl t1 fX)) rfl)
  (bf (loc1:=sF nm .c (nI 2) (nI 0)) (loc2:=sF nm .c (nI 2) (nI 1)) rfl (aO (gT (a:=.lst [nI 0,nI 1]) (l:= [nI 0,nI 1]) rfl rfl (bf (loc1:=sF nm .c (nI 2) (nI 0)) rfl t2 (bf (loc1:=sF nm .c (nI 2) (nI 1)) rfl t3 fX))) rfl)
  (bf (loc1:=sF nm .c (nI 3) (nI 1)) (loc2:=sF nm .c (nI 3) (nI 2)) rfl (aO (gT (a:=.lst [nI 0,nI 1,nI 2]) (l:= [nI 0,nI 1,nI 2]) rfl rfl (bf (loc1:=sF nm .c (nI 3) (nI 0)) rfl K (bf (loc1:=sF nm .c (nI 3) (nI 1)) rfl B (bf (loc1:=sF nm .c (nI 3) (nI 2)) rfl t6 fX)))) rfl)
  (bf (loc1:=sF nm .c (nI 4) (nI 2)) (loc2:=sF nm .c (nI 4) (nI 3)) rfl (aO (gT (a:=.lst [nI 0,nI 1,nI 2,nI 3]) (l:= [nI 0,nI 1,nI 2,nI 3]) rfl rfl (bf (loc1:=sF nm .c (nI 4) (nI 0)) rfl t7 (bf (loc1:=sF nm .c (nI 4) (nI 1)) rfl M (bf (loc1:=sF nm .c (nI 4) (nI 2)) rfl t9 (bf (loc1:=sF nm .c (nI 4) (nI 3)) rfl X0 fX))))) rfl)
    fX))))) ?_
 exact .next (ji (n:=5) (l:=Rd) (l':=cE λx=>.lst (cE λy=>nI (if y<x then W x y else if x<y then W y x else 0))) (st':= [none,none,none,none,none,none]) (loc':= [.lst (cE λi=>.str (nm i)),.lst (cE λx=>.lst (cE λy=>nI (if y<x then W x y else if x<y then W y x else 0))),.c,nI 4,nI 3]) rfl rfl rfl rfl)<|.ret rfl rfl
theorem Pe{k:Nat}{args:List AV}:(BK (k+1)).O 21 args=iR (BK k) Yt args:=rfl
theorem yF(v:Nat):∀l:List Nat,CH (nI v) (bq l)=some (decide (v∈l)):=by
 intro G
 induction G with
 |nil=>
  exact rfl
 |cons a l A=>
  have R:=A;simp only[bq,bI,(id VJ),nI,(id NJ)]at R⊢;simp only[aj,af,R,aJ];congr 1;by_cases h:v=a
  ·subst h;simp
  ·have:((a:Int)==(v:Int))=false:=by simp;exact Nat.ToInt.of_diseq rfl rfl λB=>h (id (dN B))
   refine ab this ?_;simp[h]
theorem eU{f:AV->Option (Option AV)}{a x:AV}{b:Bool}{l r:List AV}(h:f a=some (if b then some x else none))(U:gm f l=some r):gm f (a::l)=some ((if b then[x]else[])++r):=by
 rcases b with⟨⟩
 ·exact(qm.2 ..).trans (ua h U)
 ·exact(qm.2 ..).trans (ua h (ua U rfl))
noncomputable def cond(A:Nat->List Nat)(u x v:Nat):Bool:=decide (v∈A u) !=decide (v∈A x)
noncomputable def mf(A:Nat->List Nat)(pr:Nat->Nat)(u x:Nat):Nat:=(if cond A u x 1 then pr 0 else 0)+((if cond A u x 2 then pr 1 else 0)+((if cond A u x 3 then pr 2 else 0)+(if cond A u x 4 then pr 3 else 0)))
noncomputable def qy(f:Nat->AV):List AV:= [f 0,f 1,f 2,f 3]
noncomputable def xe(D:AV)(w:Nat->Int)(pr:Nat->Nat)(A:Nat->List Nat)(u l5 x c:AV):Loc:= [D,.lst (cE λi=>.int (w i)),.lst (qy λi=>nI (pr i)),.lst (cE λi=>.lst (bq (A i))),u,l5,.c,.ref 1,x,c]
noncomputable def XI:CE:=.D (.y (.sub (.a 2) (.f .Sub (.a 6) (.d 1))) (.bX 6) (.j [(.d 1),(.d 5)]) (.cmp .NotEq (.cmp .In (.a 6) (.sub (.a 3) (.a 4))) (.cmp .In (.a 6) (.sub (.a 3) (.a 8)))))
section
variable{k:Nat}{D l5 c:AV}{w:Nat->Int}{pr:Nat->Nat}{A:Nat->List Nat}{st:St}
theorem NL{C:dC}{loc:Loc}{a:CE}{L:List AV}{n:Nat}(h:ev C st a loc=some (.lst L))(U:∃I,dM L=some I/\I.sum=(n:Int)):ev C st (.D a) loc=some (nI n):=by refine aC U λI e1 e2=>?_;show((ev C st a loc).bind λv=>(jX st v).bind λl=>(dM l).bind λI=>some (AV.int I.sum))=_;refine ab h ?_;show((dM L).bind _)=_;exact ab e1<|congrArg (λi=>some (AV.int i)) e2
theorem zh{c:Bool}{v n:Nat}{L:List AV}(h:∃I,dM L=some I/\I.sum=(n:Int)):∃I,dM ((if c then[nI v]else[])++L)=some I/\I.sum=(((if c then v else 0)+n:Nat):Int):=by
 refine aC h λI e1 e2=>?_;rcases c with _|_
 ·exact⟨I,e1,ab e2<|congrArg gQ (B8 n).symm⟩
 ·exact⟨v::I,by show((dM L).map _)=_;refine ab e1 ?_;rfl,by refine ab List.sum_cons (ab e2 ?_);rfl⟩
theorem WQ{u x:Nat}(N:u<5)(F:x<5):ev (BK k) st XI (xe D w pr A (nI u) l5 (nI x) c)=some (nI (mf A pr u x)):=by
 have P:∀v:Nat,v=1\/v=2\/v=3\/v=4->(do
  let loc'<-cT (xe D w pr A (nI u) l5 (nI x) c) (.bX 6) (nI v)
  if<-cU st (<-ev (BK k) st (.cmp .NotEq (.cmp .In (.a 6) (.sub (.a 3) (.a 4))) (.cmp .In (.a 6) (.sub (.a 3) (.a 8)))) loc')then return some (<-ev (BK k) st (.sub (.a 2) (.f .Sub (.a 6) (.d 1))) loc')else return none:Option (Option AV))=some (if cond A u x v then some (nI (pr (v-1)))else none):=by
  intro v M;have O:cT (xe D w pr A (nI u) l5 (nI x) c) (.bX 6) (nI v)=some [D,.lst (cE λi=>.int (w i)),.lst (qy λi=>nI (pr i)),.lst (cE λi=>.lst (bq (A i))),nI u,l5,nI v,.ref 1,nI x,c]:=rfl;refine ab O ?_;generalize E: [D,.lst (cE λi=>.int (w i)),.lst (qy λi=>nI (pr i)),.lst (cE λi=>.lst (bq (A i))),nI u,l5,nI v,.ref 1,nI x,c]=loc;have G:ev (BK k) st (.sub (.a 3) (.a 4)) loc=some (.lst (bq (A u))):=by subst E;exact dB rfl rfl (jd N)
  have J:ev (BK k) st (.sub (.a 3) (.a 8)) loc=some (.lst (bq (A x))):=by subst E;exact dB rfl rfl (jd F)
  have Z:ev (BK k) st (.a 6) loc=some (nI v):=by subst E;rfl
  have i1:ev (BK k) st (.cmp .In (.a 6) (.sub (.a 3) (.a 4))) loc=some (.bool (decide (v∈A u))):=cc Z G (by have:=yF v (A u);simp only[nI]at this;exact Option.mem_def.mp this)
  have o:ev (BK k) st (.cmp .In (.a 6) (.sub (.a 3) (.a 8))) loc=some (.bool (decide (v∈A x))):=cc Z J (by have:=yF v (A x);simp only[nI]at this;simp only[(id cb),nI,this])
  have X:ev (BK k) st (.cmp .NotEq (.cmp .In (.a 6) (.sub (.a 3) (.a 4))) (.cmp .In (.a 6) (.sub (.a 3) (.a 8)))) loc=some (.bool (cond A u x v)):=cc i1 o (by simp only[(id cb),(id jJ),aK,cond];rfl);have L:ev (BK k) st (.sub (.a 2) (.f .Sub (.a 6) (.d 1))) loc=some (nI (pr (v-1))):=by
   subst E
   (refine ak M (λH=>?_) λg=>ak g (λT=>?_) λQ=>ak Q (λI=>?_) λK=>?_;subst H;rotate_left;subst T;rotate_left;subst I;rotate_left;subst K;rotate_right 3)<;>rfl
  simp only[aj,af,X,(id lY),L,aJ];cases cond A u x v<;>rfl
 have B:=rh (C:=BK k) (st:=st) (loc:=xe D w pr A (nI u) l5 (nI x) c) (e:=.sub (.a 2) (.f .Sub (.a 6) (.d 1))) (t:=.bX 6) (it:=.j [(.d 1),(.d 5)]) (c:=.cmp .NotEq (.cmp .In (.a 6) (.sub (.a 3) (.a 4))) (.cmp .In (.a 6) (.sub (.a 3) (.a 8)))) (v:=.lst [nI 1,nI 2,nI 3,nI 4]) (l:= [nI 1,nI 2,nI 3,nI 4])
  (r:=(if cond A u x 1 then[nI (pr 0)]else[])++((if cond A u x 2 then[nI (pr 1)]else[])++((if cond A u x 3 then[nI (pr 2)]else[])++((if cond A u x 4 then[nI (pr 3)]else[])++ [])))) rfl rfl
    (eU (P 1 (.inl rfl)) (eU (P 2 (.inr (.inl rfl))) (eU (P 3 (.inr (.inr (.inl rfl)))) (eU (l:= []) (r:= []) (P 4 (.inr (.inr (.inr rfl)))) rfl))))
 exact NL B (zh (zh (zh (zh ⟨[],rfl,rfl⟩))))
theorem yE{c:Bool}{a:Nat}(h:a<=2):(if c then a else 0)<=2:=by
 rcases c with _|_
 ·exact bz 2
 ·exact h
theorem Px(B:∀i,pr i<=2)(u x:Nat):mf A pr u x<=8:=iY (yE (B 0)) (iY (yE (B 1)) (iY (yE (B 2)) (yE (B 3))))
noncomputable def iS(A:Nat->List Nat)(w:Nat->Int)(pr:Nat->Nat)(x:Nat):Int:=0+w 0*mf A pr 0 x+w 1*mf A pr 1 x+w 2*mf A pr 2 x+w 3*mf A pr 3 x+w 4*mf A pr 4 x
theorem Ue{u x:Nat}{c:Int}{u0:AV}(N:u<5)(F:x<5)(B:∀i,pr i<=2):dh (BK k) [.aug 9 .Add (.f .Mult (.sub (.a 1) (.a 4)) XI)] (xe D w pr A (nI u) l5 (nI x) (.int c)) st=some (.next,xe D w pr A (nI u) l5 (nI x) (.int (c+w u*mf A pr u x)),st):=by
 have G:=Px (A:=A) B u x;have J:binI .Mult (w u) (mf A pr u x:Nat)=some (w u*(mf A pr u x:Nat)):=by
  delta binI;simp only;rw[if_pos (.inr (.inl (by have:((mf A pr u x:Nat):Int).natAbs=mf A pr u x:=by rfl
                                                 rw[this];lia)))]
 refine aO (fW (x:=.int c) (v:=.int (w u*(mf A pr u x:Nat))) (y:=.int (c+w u*mf A pr u x)) rfl (eN (x:=.int (w u)) (y:=nI (mf A pr u x)) (dB rfl rfl (jd N)) (WQ N F) ?_) rfl rfl rfl) rfl;simp only[nI,(id cw),J,aK]
noncomputable def Zg:List CS:= [.cI (.bX 9) (.d 0),
 .m (.bX 4) (.j [(.d 5)])
  [.aug 9 .Add (.f .Mult (.sub (.a 1) (.a 4)) XI)],
 .app 7 (.a 9)]
theorem OT{x:Nat}{u0 c0:AV}{l:List AV}(F:x<5)(B:∀i,pr i<=2)(X:l.length<=10):dh (BK k) Zg (xe D w pr A u0 l5 (nI x) c0) [none,some l]=some (.next,xe D w pr A (nI 4) l5 (nI x) (.int (iS A w pr x)),[none,some (l++ [.int (iS A w pr x)])]):=by
 refine aO (gw (v:=.int 0) (loc':=xe D w pr A u0 l5 (nI x) (.int 0)) rfl rfl) ?_;have T:=λ(u:Nat) (c:Int) (N:u<5)=>Ue (k:=k) (D:=D) (l5:=l5) (w:=w) (pr:=pr) (A:=A) (st:= [none,some l]) (u:=u) (x:=x) (c:=c) (u0:=u0) N F B;refine aO (gT (a:=.lst [nI 0,nI 1,nI 2,nI 3,nI 4]) (l:= [nI 0,nI 1,nI 2,nI 3,nI 4]) rfl rfl (bf (loc1:=xe D w pr A (nI 0) l5 (nI x) (.int 0)) rfl (T 0 _ (by decide)) (bf (loc1:=xe D w pr A (nI 1) l5 (nI x) _) rfl (T 1 _ (by decide)) (bf (loc1:=xe D w pr A (nI 2) l5 (nI x) _) rfl (T 2 _ (by decide))
  (bf (loc1:=xe D w pr A (nI 3) l5 (nI x) _) rfl (T 3 _ (by decide)) (bf (loc1:=xe D w pr A (nI 4) l5 (nI x) _) rfl (T 4 _ (by decide)) fX)))))) ?_
 exact aO (jK (n:=1) (l:=l) (v:=.int (iS A w pr x)) rfl rfl rfl (by simp[cB];lia)) rfl
def DH(D:AV)(A:Nat->List Nat):Prop:=∀(k:Nat) (W P:AV),∃u l5,∀(l:List CS) (v:AV),eC (BK k) l [D,W,P,.lst (cE λi=>.lst (bq (A i))),u,l5,.c,.c,.c,.c] [none] v->
 eC (BK k) (.new 3 (.list [(.list [])]):: .m (.bX 4) (.j [(.d 1),(.d 5)])
  [.cI (.bX 5) (.Cq (.y (.a 6) (.bX 6) (.j [(.a 4)]) (.cmp .Eq (.sub (.a 0) (.a 6)) (.f .Sub (.sub (.a 0) (.a 4)) (.d 1))))),
   .app 3 (.f .Add (.sub (.a 3) (.a 5)) (.list [(.a 4)]))]:: .v 3::l) [D,W,P,.c,.c,.c,.c,.c,.c,.c] [] v
theorem NC(hA:DH D A)(B:∀i,pr i<=2):(BK (k+1)).O 21 [D,.lst (cE λi=>.int (w i)),.lst (qy λi=>nI (pr i))]=some (.lst (cE λx=>.int (iS A w pr x))):=by
 refine ab Pe<|eC.run rfl<|ej (hA k (.lst (cE λi=>.int (w i))) (.lst (qy λi=>nI (pr i)))) λu l5 h=>h _ _<|.next (iO (l:= []) (loc':=xe D w pr A u l5 .c .c) rfl rfl rfl) ?_;have T:=λ(x:Nat) (u0 c0:AV) (l:List AV) (F:x<5) (X:l.length<=10)=>OT (k:=k) (D:=D) (l5:=l5) (w:=w) (pr:=pr) (A:=A) (x:=x) (u0:=u0) (c0:=c0) (l:=l) F B X;refine .sy (a:=.lst [nI 0,nI 1,nI 2,nI 3,nI 4]) (L:= [nI 0,nI 1,nI 2,nI 3,nI 4]) rfl rfl (bf (loc1:=xe D w pr A u l5 (nI 0) .c) rfl (T 0 _ _ _ (by decide) (cj.mp rfl)) (bf (loc1:=xe D w pr A (nI 4) l5 (nI 1) _) rfl (T 1 _ _ _ (by decide) (by simp)) (bf (loc1:=xe D w pr A (nI 4) l5 (nI 2) _) rfl (T 2 _ _ _ (by decide) (by simp))
  (bf (loc1:=xe D w pr A (nI 4) l5 (nI 3) _) rfl (T 3 _ _ _ (by decide) (by simp)) (bf (loc1:=xe D w pr A (nI 4) l5 (nI 4) _) rfl (T 4 _ _ _ (by decide) (by simp)) fX))))) ?_
 exact .next (ji (n:=1) (l:=cE λx=>.int (iS A w pr x)) (l':=cE λx=>.int (iS A w pr x)) (st':= [none,none]) (loc':= [D,.lst (cE λi=>.int (w i)),.lst (qy λi=>nI (pr i)),.lst (cE λi=>.lst (bq (A i))),nI 4,l5,.c,.lst (cE λx=>.int (iS A w pr x)),nI 4,.int (iS A w pr 4)]) rfl rfl rfl rfl)<|.ret rfl rfl
end
noncomputable def fU(a b d:Nat):Nat->List Nat
 |0=> []
 |1=> [1]
 |2=>if a=1 then[2]else[1,2]
 |3=>(if b=1 then[]else if b=2 then(if a=1 then[2]else[1])else[1,2])++ [3]
 |_=>(if d=1 then[]else if d=2 then(if b=1 then[3]else if a=1 then[2]else[1])else if d=3 then(if b=2 then(if a=1 then[2,3]else[1,3])else[1,2])else[1,2,3])++ [4]
noncomputable def wD(a b d:Nat):AV:=.lst [.int 0,.int 1,nI a,nI b,nI d]
def fq(a b d:Nat):Prop:=1<=a/\a<=2/\1<=b/\b<=a+1/\1<=d/\d<=b+1
theorem tC{Q:Nat->Nat->Nat->Prop}(h:Q 1 1 1/\Q 1 1 2/\Q 1 2 1/\Q 1 2 2/\Q 1 2 3/\Q 2 1 1/\Q 2 1 2/\Q 2 2 1/\Q 2 2 2/\Q 2 2 3/\Q 2 3 1/\Q 2 3 2/\Q 2 3 3/\Q 2 3 4){a b d:Nat}(G:fq a b d):Q a b d:=by
 refine ew λY=>QM G λJ U Z S O W=>?_;clear G;obtain⟨t,V,j,L,R,F,A,q8,P,B,C,D,E,M⟩:=h;refine Y ?_;clear Y;refine ak ((show a=1\/a=2 by lia)) (λH=>?_) λg=>?_;subst H;rotate_left;subst g;rotate_right
 ·refine ak ((show b=1\/b=2 by lia)) (λH=>?_) λg=>?_;subst H;rotate_left;subst g;rotate_right
  ·(refine ak ((show d=1\/d=2 by lia)) (λH=>?_) λg=>?_;refine ab H ?_;rotate_left;refine ab g ?_;rotate_right)<;>assumption
  ·(refine ak ((show d=1\/d=2\/d=3 by lia)) (λH=>?_) λg=>ak g (λT=>?_) λN=>?_;refine ab H ?_;rotate_left;refine ab T ?_;rotate_left;refine ab N ?_;rotate_right 2)<;>assumption
 ·refine ak ((show b=1\/b=2\/b=3 by lia)) (λH=>?_) λg=>ak g (λT=>?_) λN=>?_;subst H;rotate_left;subst T;rotate_left;subst N;rotate_right 2
  ·(refine ak ((show d=1\/d=2 by lia)) (λH=>?_) λg=>?_;refine ab H ?_;rotate_left;refine ab g ?_;rotate_right)<;>assumption
  ·(refine ak ((show d=1\/d=2\/d=3 by lia)) (λH=>?_) λg=>ak g (λT=>?_) λN=>?_;refine ab H ?_;rotate_left;refine ab T ?_;rotate_left;refine ab N ?_;rotate_right 2)<;>assumption
  ·(refine ak ((show d=1\/d=2\/d=3\/d=4 by lia)) (λH=>?_) λg=>ak g (λT=>?_) λN=>ak N (λI=>?_) λK=>?_;refine ab H ?_;rotate_left;refine ab T ?_;rotate_left;refine ab I ?_;rotate_left;refine ab K ?_;rotate_right 3)<;>assumption
noncomputable def Wq(a b d:Nat):Nat:=if d=1 then 0 else if d=2 then(if b=1 then 3 else if a=1 then 2 else 1)else if d=3 then(if b=2 then 3 else 2)else 3
noncomputable def XJ:CS:=.m (.bX 4) (.j [(.d 1),(.d 5)])
 [.cI (.bX 5) (.Cq (.y (.a 6) (.bX 6) (.j [(.a 4)]) (.cmp .Eq (.sub (.a 0) (.a 6)) (.f .Sub (.sub (.a 0) (.a 4)) (.d 1))))),
  .app 3 (.f .Add (.sub (.a 3) (.a 5)) (.list [(.a 4)]))]
def U0(a b d:Nat):Prop:=∀(k:Nat) (W P:AV),mY (BK k) XJ [wD a b d,W,P,.ref 0,.c,.c,.c,.c,.c,.c] [some [.lst []]]=
 some (.next,[wD a b d,W,P,.ref 0,nI 4,nI (Wq a b d),.c,.c,.c,.c],[some (cE λi=>.lst (bq (fU a b d i)))])
theorem Nc{a b d:Nat}(h:fq a b d):U0 a b d:=by refine tC ⟨?_,?_,?_,?_,?_,?_,?_,?_,?_,?_,?_,?_,?_,?_⟩ h<;>(intro k W P;kernel_rfl)
theorem AS:∀L:List (List Nat),dU (L.map λl=>.lst (bq l))=true:=by
 intro G
 induction G with
 |nil=>
  exact rfl
 |cons a r R=>
  simp[(id mz),(id qD),iH,R]
theorem Ic{a b d:Nat}(h:fq a b d):DH (wD a b d) (fU a b d):=λk W P=>⟨nI 4,nI (Wq a b d),λl v j=>
 .next (iO (l:= [.lst []]) (loc':= [wD a b d,W,P,.ref 0,.c,.c,.c,.c,.c,.c]) rfl rfl rfl) (.next (Nc h k W P) (.next (ji (n:=0) (l:=cE λi=>.lst (bq (fU a b d i))) (l':=cE λi=>.lst (bq (fU a b d i))) (st':= [none]) rfl rfl
  (iD _ (AS [fU a b d 0,fU a b d 1,fU a b d 2,fU a b d 3,fU a b d 4])) rfl) j))⟩
theorem Pf{k:Nat}{args:List AV}:(BK (k+1)).O 22 args=iR (BK k) Xn args:=rfl
theorem cN{f:AV->Option (Option AV)}{a x:AV}{l r:List AV}(h:f a=some (some x))(U:gm f l=some r):gm f (a::l)=some (x::r):=(qm.2 ..).trans (ua h (ua U rfl))
theorem FX:∀(l m:List Int),l.length=m.length->Ap (l.map .int) (m.map .int)=some (decide (l=m)):=by
 intro G
 induction G with
 |nil=>
  intro H h;rcases H with _|⟨b,m⟩
  ·exact rfl
  ·injection h
 |cons a l P=>
  intro H h;rcases H with _|⟨b,m⟩
  ·injection h
  ·have R:=P m (iZ h);simp only[bI,(id QK),(id NJ),aj,af,R,aJ];congr 1;by_cases J:a=b
   ·subst J;simp
   ·simp[J]
theorem Jr(l m:List Int):D0 (l.map .int) (m.map .int)=some (decide (l=m)):=by
 delta D0;by_cases h:l.length=m.length
 ·exact ab (if_pos (by simpa using h)) (ab (FX l m h) rfl)
 ·exact ab (if_neg (by simpa using h)) (ab (decide_eq_false λe=>h (by exact ab e rfl)) rfl)
theorem D1{st:St}(l m:List Int):qr st (.lst (l.map .int)) (.lst (m.map .int))=some (decide (l=m)):=by show(do D0 (<-jX st (.lst (l.map .int))) (<-jX st (.lst (m.map .int))))=_;simp only[(id Nf),aj,af,Jr]
noncomputable def QS(c:Nat->Int):List Int:= [c 0,c 1,c 2,c 3,c 4]
noncomputable def lS(c:Nat->Int):Int:= [c 1,c 2,c 3,c 4].foldl (λm b=>if b<m then b else m) (c 0)
noncomputable def ye(c:Nat->Int):List Nat:=(if c 0==lS c then[0]else[])++((if c 1==lS c then[1]else[])++((if c 2==lS c then[2]else[])++((if c 3==lS c then[3]else[])++(if c 4==lS c then[4]else[]))))
noncomputable def Uj(w:Nat->Int)(D:Nat->Nat->Nat)(x:Nat):Int:=w 0*D x 0+(w 1*D x 1+(w 2*D x 2+(w 3*D x 3+(w 4*D x 4+0))))
section
variable{k:Nat}{w c:Nat->Int}{D:Nat->Nat->Nat}{T:List Nat}
noncomputable def vE(D:Nat->Nat->Nat)(w c:Nat->Int)(T:List Nat)(x u:AV):Loc:= [.lst (cE λx=>.lst (cE λy=>nI (D x y))),.lst (cE λi=>.int (w i)),.lst (cE λx=>.int (c x)),.lst (bq T),x,u]
noncomputable def Xr:CE:=.D (.comp (.f .Mult (.sub (.a 1) (.a 5)) (.sub (.sub (.a 0) (.a 4)) (.a 5))) (.bX 5) (.j [(.d 5)]))
theorem WR{x:Nat}{u:AV}(F:x<5)(Z:∀x y,D x y<=100):ev (BK k) [] Xr (vE D w c T (nI x) u)=some (.int (Uj w D x)):=by
 have P:∀i:Nat,i<5->(do return some (<-ev (BK k) [] (.f .Mult (.sub (.a 1) (.a 5)) (.sub (.sub (.a 0) (.a 4)) (.a 5))) (<-cT (vE D w c T (nI x) u) (.bX 5) (nI i))):Option (Option AV))=some (some (.int (w i*D x i))):=by
  intro i hi;have O:cT (vE D w c T (nI x) u) (.bX 5) (nI i)=some (vE D w c T (nI x) (nI i)):=rfl;rw[O];have V:ev (BK k) [] (.sub (.a 1) (.a 5)) (vE D w c T (nI x) (nI i))=some (.int (w i)):=dB rfl rfl (jd hi);have Q:ev (BK k) [] (.sub (.sub (.a 0) (.a 4)) (.a 5)) (vE D w c T (nI x) (nI i))=some (nI (D x i)):=dB (dB rfl rfl (jd F)) rfl (jd hi);have J:binI .Mult (w i) (D x i:Nat)=some (w i*(D x i:Nat)):=by
   have:=Z x i;delta binI;simp only;rw[if_pos (.inr (.inl (by have:((D x i:Nat):Int).natAbs=D x i:=by rfl
                                                              rw[this];lia)))]
  have I:ev (BK k) [] (.f .Mult (.sub (.a 1) (.a 5)) (.sub (.sub (.a 0) (.a 4)) (.a 5))) (vE D w c T (nI x) (nI i))=some (.int (w i*D x i)):=eN V Q (by simp only[nI,(id cw),J,aK]);simp only[aj,af,I,aJ]
 have B:=mr (C:=BK k) (st:= []) (loc:=vE D w c T (nI x) u) (t:=.bX 5) (it:=.j [(.d 5)]) (v:=.lst [nI 0,nI 1,nI 2,nI 3,nI 4]) (l:= [nI 0,nI 1,nI 2,nI 3,nI 4]) (r:= [.int (w 0*D x 0),.int (w 1*D x 1),.int (w 2*D x 2),.int (w 3*D x 3),.int (w 4*D x 4)]) rfl rfl
  (cN (P 0 (by decide)) (cN (P 1 (by decide)) (cN (P 2 (by decide)) (cN (P 3 (by decide)) (cN (l:= []) (r:= []) (P 4 (by decide)) rfl)))))
 have e:ev (BK k) [] Xr (vE D w c T (nI x) u)=(do return .int (<-dM (<-jX [] (<-ev (BK k) [] (.comp (.f .Mult (.sub (.a 1) (.a 5)) (.sub (.sub (.a 0) (.a 4)) (.a 5))) (.bX 5) (.j [(.d 5)])) (vE D w c T (nI x) u)))).sum):=rfl;rw[e,B];rfl
theorem Ih(Z:∀x y,D x y<=100)(G:∀x,x<5->Uj w D x=c x):(BK (k+1)).O 22 [.lst (cE λx=>.lst (cE λy=>nI (D x y))),.lst (cE λi=>.int (w i)),.lst (cE λx=>.int (c x)),.lst (bq T)]=some (.bool (decide (ye c=T))):=by
 refine ab Pf<|eC.run rfl ?_;have E: [AV.lst (cE λx=>.lst (cE λy=>nI (D x y))),.lst (cE λi=>.int (w i)),.lst (cE λx=>.int (c x)),.lst (bq T)]++bw (Xn.z-Xn.p) .c=vE D w c T .c .c:=rfl;refine ab E ?_;have f:∀x,x<5->(do return some (<-ev (BK k) [] Xr (<-cT (vE D w c T .c .c) (.bX 4) (nI x))):Option (Option AV))=some (some (.int (c x))):=by intro x F;have O:cT (vE D w c T .c .c) (.bX 4) (nI x)=some (vE D w c T (nI x) .c):=rfl;refine ab O ?_;simp only[aj,af,WR F Z,G x F,aJ]
 have K:=mr (C:=BK k) (st:= []) (loc:=vE D w c T .c .c) (e:=Xr) (t:=.bX 4) (it:=.j [(.d 5)]) (v:=.lst [nI 0,nI 1,nI 2,nI 3,nI 4]) (l:= [nI 0,nI 1,nI 2,nI 3,nI 4]) (r:=(QS c).map .int) rfl rfl
  (cN (f 0 (by decide)) (cN (f 1 (by decide)) (cN (f 2 (by decide)) (cN (f 3 (by decide)) (cN (l:= []) (r:= []) (f 4 (by decide)) rfl)))))
 refine .jo (cc (r:=false) (y:=.lst ((QS c).map .int)) K rfl (by simp only[(id cb),D1,decide_true,aK,Bool.not_true])) ?_;have j:∀x,x<5->(do
  let loc'<-cT (vE D w c T .c .c) (.bX 4) (nI x)
  if<-cU [] (<-ev (BK k) [] (.cmp .Eq (.sub (.a 2) (.a 4)) (.U (.a 2))) loc')then return some (<-ev (BK k) [] (.a 4) loc')else return none:Option (Option AV))=some (if c x==lS c then some (nI x)else none):=by
  intro x F;have O:cT (vE D w c T .c .c) (.bX 4) (nI x)=some (vE D w c T (nI x) .c):=rfl;refine ab O ?_;have V:ev (BK k) [] (.sub (.a 2) (.a 4)) (vE D w c T (nI x) .c)=some (.int (c x)):=dB rfl rfl (jd F);have Q:ev (BK k) [] (.U (.a 2)) (vE D w c T (nI x) .c)=some (.int (lS c)):=rfl;have I:ev (BK k) [] (.cmp .Eq (.sub (.a 2) (.a 4)) (.U (.a 2))) (vE D w c T (nI x) .c)=some (.bool (c x==lS c)):=cc V Q rfl;have U:ev (BK k) [] (.a 4) (vE D w c T (nI x) .c)=some (nI x):=rfl;simp only[aj,af,I,(id lY),U,aJ];cases c x==lS c<;>rfl
 have J:=rh (C:=BK k) (st:= []) (loc:=vE D w c T .c .c) (e:=.a 4) (t:=.bX 4) (it:=.j [(.d 5)]) (c:=.cmp .Eq (.sub (.a 2) (.a 4)) (.U (.a 2))) (v:=.lst [nI 0,nI 1,nI 2,nI 3,nI 4]) (l:= [nI 0,nI 1,nI 2,nI 3,nI 4]) rfl rfl
  (eU (j 0 (by decide)) (eU (j 1 (by decide)) (eU (j 2 (by decide)) (eU (j 3 (by decide)) (eU (l:= []) (r:= []) (j 4 (by decide)) rfl)))))
 have S:(if c 0==lS c then[nI 0]else[])++((if c 1==lS c then[nI 1]else[])++((if c 2==lS c then[nI 2]else[])++((if c 3==lS c then[nI 3]else[])++((if c 4==lS c then[nI 4]else[])++ []))))=((ye c).map gQ).map .int:=by delta ye;cases c 0==lS c<;>cases c 1==lS c<;>cases c 2==lS c<;>cases c 3==lS c<;>cases c 4==lS c<;>rfl
 rw[S]at J;have A:bq T=(T.map gQ).map .int:=by simp[bq]
 refine .ret (cc (y:=.lst (bq T)) J rfl ?_) rfl;simp only[(id cb),A,D1];congr 1;refine decide_eq_decide.mpr ⟨λh=>?_,λh=>ab h rfl⟩;exact List.map_inj_right (λa b e=>Uo e)|>.mp h
theorem NZ(l:List Int):∀a:Int,l.foldl (λm x=>if x<m then x else m) a<=a/\(∀x∈l,l.foldl (λm x=>if x<m then x else m) a<=x)/\(l.foldl (λm x=>if x<m then x else m) a=a\/l.foldl (λm x=>if x<m then x else m) a∈l):=by
 have s:∀a b:Int,(if b<a then b else a)<=a/\(if b<a then b else a)<=b/\((if b<a then b else a)=a\/(if b<a then b else a)=b):=λa b=>by
  by_cases q:b<a
  ·exact ab (if_pos q)<|⟨aF q,g9 b,.inr rfl⟩
  ·exact ab (if_neg q)<|⟨g9 a,HQ.mp q,.inl rfl⟩
 induction l with
 |nil=>exactλa=>⟨g9 a,(λx h=>nomatch h),.inl rfl⟩
 |cons b l R=>
  refineλa=>eY (R (if b<a then b else a)) λJ U Z=>eY (s a b) λi B E=>⟨gr J i,λx F=>ak (aS.mp F) (λe=>ab e<|gr J B) (U x),?_⟩;exact Z.elim (λe=>E.elim (λq=>.inl (e.trans q)) λq=>.inr (aS.mpr (.inl (e.trans q)))) λh=>.inr (ax _ h)
theorem Gz(c:Nat->Int):(∀x,x<5->lS c<=c x)/\∃x,x<5/\lS c=c x:=by
 refine eY (NZ [c 1,c 2,c 3,c 4] (c 0)) λJ U Z=>⟨λx F=>?_,?_⟩
 ·rcases x with _|_|_|_|_|x
  ·exact J
  ·exact U _ (.head _)
  ·exact U _ (.tail _ (.head _))
  ·exact U _ (.tail _ (.tail _ (.head _)))
  ·exact U _ (.tail _ (.tail _ (.tail _ (.head _))))
  ·exact absurd F (i5.mpr (Qd 5 x))
 ·exact Z.elim (λe=>⟨0,by decide,e⟩) λh=>(aS.mp h).elim (λe=>⟨1,by decide,e⟩) λh=>(aS.mp h).elim (λe=>⟨2,by decide,e⟩) λh=>(aS.mp h).elim (λe=>⟨3,by decide,e⟩) λh=>⟨4,by decide,bS.mp h⟩
end
theorem O3{k:Nat}{args:List AV}:(BK (k+1)).O 11 args=iR (BK k) QQ args:=rfl
theorem O5{k:Nat}{args:List AV}:(BK (k+1)).O 12 args=iR (BK k) ML args:=rfl
noncomputable def xb(ch:Nat):List Nat:=match RP (ch:Int)with
 |some x=>x
 |none=>gE [ch]
noncomputable def n9(m:List Nat):List Nat:=m.flatMap λ(ch:Nat)=>if DR.contains (ch:Int)then[]else xb ch
noncomputable def nf(c:Nat):Nat:=if c==70||c==72||c==83||c==84 then c+32 else c
def Lw(c:Nat):Prop:=gE [c]= [nf c]
noncomputable def signs(p:Nat):List Nat:= [dY iK p,dY iK p-32,dY Em p,dY HC p,dY ic p,dY ic (4+p),dY ic (8+p),dY ic (12+p)]++(aG 10).map λi=>dY lO i+dY iK p-97
noncomputable def yD:List Nat:=(aG 27).map (dY lP)
theorem Gw:((aG 4).all λp=>(signs p).all λc=>gE [c]== [nf c])=true:=by decide+kernel
theorem Ky:(yD.all λc=>gE [c]== [nf c])=true:=by decide+kernel
theorem zS:((aG 4).all λp=>(aG 4).all λq=>p==q||((signs p).all λx=>(signs q).all λy=>nf x !=nf y))=true:=by decide+kernel
theorem Ce:((aG 4).all λp=>(signs p).all λx=>yD.all λy=>nf x !=nf y)=true:=by decide+kernel
theorem CX:((aG 27).all λi=>(aG 27).all λj=>i==j||nf (dY lP i) !=nf (dY lP j))=true:=by decide+kernel
theorem A9:((aG 4).all λp=>(signs p++yD).all λc=>c !=92&&c !=34&&c !=40&&c !=41)=true:=by decide+kernel
theorem CB:((aG 4).all λp=>n9 [dY iK p-32]== [dY iK p]&&n9 [dY Em p]== [dY iK p,dY HC p]&&(yD.all λh=>n9 [dY iK p,h]== [dY iK p])&&((aG 10).all λi=>n9 [dY lO i+dY iK p-97]== [dY iK p])&&
 ((aG 4).all λj=>n9 [dY iK p,dY ic (4*j+p)]== [dY iK p,dY ic (4*j+p)]))=true:=by decide+kernel
theorem WU(k:Nat)(c:Nat):(BK (k+1)).O 11 [.str [c]]=some (.bool (DR.contains (c:Int))):=by simp only[O3];exact eC.run rfl (.ret rfl rfl)
theorem Wc(k:Nat){c:Nat}(h:gX c):(BK (k+1)).O 12 [.str [c]]=some (.str (xb c)):=by
 simp only[O5];refine eC.run rfl ?_;have e:∀st loc,ev (BK k) st (.xc (.Ad (.a 0))) (.str [c]::loc)=some (match RP (c:Int)with|some x=>.str x|none=>.none):=λst loc=>rfl;delta xb;rcases hb:RP (c:Int)with _|x
 ·refine .cI (x:=.none) (loc':= [.str [c],.none]) (ab (show[AV.str [c]]++bw (ML.z-ML.p) AV.c=.str [c]:: [.c]from rfl) (bp (e ..) (ab hb rfl))) rfl<|.jo rfl ?_;have h:(gE [c]).length<=cB:=h;exact .ret (by simp[(id fD),h]) rfl
 ·exact .cI (x:=.str x) (loc':= [.str [c],.str x]) (ab (show[AV.str [c]]++bw (ML.z-ML.p) AV.c=.str [c]:: [.c]from rfl) (bp (e ..) (ab hb rfl))) rfl<|.oq rfl<|.ret rfl rfl
noncomputable def JN:CE:=.join (.y (.call 12 [(.a 15)]) (.bX 15) (.a 7) (.C (.call 11 [(.a 15)])))
noncomputable def Eb(m:List Nat):List (List Nat):=m.flatMap λ(c:Nat)=>if DR.contains (c:Int)then[]else[xb c]
theorem CA(m:List Nat):(Eb m).flatten=n9 m:=by
 induction m with
 |nil=>rfl
 |cons c m R=>
  simp only[Eb,n9,tM,List.flatten_append]at R⊢;refine ab R ?_;cases DR.contains (c:Int)<;>simp
theorem NY{k:Nat}{st:St}{loc:Loc}{m:List Nat}(X:15<loc.length)(V:loc[7]? =some (.str m))(T:m.length<=5)(A:∀c∈m,gX c)(P:(n9 m).length<=cB):ev (BK (k+1)) st JN loc=some (.str (n9 m)):=by
 have B:∀m:List Nat,(∀c∈m,gX c)->gm (λv=>do
  let loc'<-cT loc (.bX 15) v
  if<-cU st (<-ev (BK (k+1)) st (.C (.call 11 [(.a 15)])) loc')then return some (<-ev (BK (k+1)) st (.call 12 [(.a 15)]) loc')else return none) (m.map λc=>.str [c])=some ((Eb m).map .str):=by
  intro m
  induction m with
  |nil=>intro z;rfl
  |cons c m R=>
   intro h;have O:cT loc (.bX 15) (.str [c])=some (loc.set 15 (.str [c])):=by simp[(id sk),ek,X]
   have D:ev (BK (k+1)) st (.a 15) (loc.set 15 (.str [c]))=some (.str [c]):=by simp[(id fD),X]
   have E:ev (BK (k+1)) st (.call 11 [(.a 15)]) (loc.set 15 (.str [c]))=some (.bool (DR.contains (c:Int))):=eP (vs:= [.str [c]]) (by simp only[af,(id jW),D,aj,af,aJ]) rfl (WU k c);have K:ev (BK (k+1)) st (.call 12 [(.a 15)]) (loc.set 15 (.str [c]))=some (.str (xb c)):=eP (vs:= [.str [c]]) (by simp only[af,(id jW),D,aj,af,aJ]) rfl (Wc k (h c aH));have J:(do
    let loc'<-cT loc (.bX 15) (.str [c])
    if<-cU st (<-ev (BK (k+1)) st (.C (.call 11 [(.a 15)])) loc')then return some (<-ev (BK (k+1)) st (.call 12 [(.a 15)]) loc')else return none:Option (Option AV))=some (if !(DR.contains (c:Int))then some (.str (xb c))else none):=by
    simp only[aj,O,af,(vd E (show cU st (.bool (DR.contains (c:Int)))=some _ from rfl)),(id lY),K,aJ];cases DR.contains (c:Int)<;>rfl
   refine bp (eU J (R λd u=>h d (ax _ u))) ?_;congr 1;simp only[Eb,tM];cases DR.contains (c:Int)<;>rfl
 have n:ev (BK (k+1)) st (.a 7) loc=some (.str m):=by simp[(id fD),V]
 have F:=rh (C:=BK (k+1)) (e:=.call 12 [(.a 15)]) (c:=.C (.call 11 [(.a 15)])) n (show fQ st (.str m)=some (m.map λc=>.str [c])by
  have:m.length<=cB:=by simp[cB];lia
  simp[(id yL),this]) (B m A)
 have e:ev (BK (k+1)) st JN loc=(do
  let l<-pb (<-jX st (<-ev (BK (k+1)) st (.y (.call 12 [(.a 15)]) (.bX 15) (.a 7) (.C (.call 11 [(.a 15)]))) loc))
  if l.flatten.length<=cB then return .str l.flatten else none):=rfl
 refine bp e (ab F ?_);simp only[(id Nf),aj,af,EO,CA,if_pos P,aJ]
noncomputable def xE(p:Nat)(c s:Int):iy:=
 if c.fmod 5=0 then⟨dY iK p,dY iK p-32,1⟩
 else if c.fmod 5=1 then⟨dY iK p,dY lP (Oy p c s),3⟩
 else if c.fmod 5=2 then⟨dY iK p,dY lO (Oz c)+dY iK p-97,2⟩
 else if c.fmod 5=3 then⟨dY iK p,dY Em p,2⟩
 else⟨dY iK p,dY ic (MN p c),3⟩
noncomputable def yz(p:Nat)(c:Int):iy:=
 if c.fmod 5=0 then⟨dY iK p,dY HC p,0⟩
 else if c.fmod 5=1 then⟨dY iK p,dY HC p,0⟩
 else if c.fmod 5=2 then⟨dY iK p,dY HC p,0⟩
 else if c.fmod 5=3 then⟨dY iK p,dY HC p,3⟩
 else⟨dY iK p,dY ic (MN p c),3⟩
theorem Wd(p:Nat)(c s:Int):(Tp p c s).1=(xE p c s).mark:=by
 unfold Tp xE
 (repeat' split)<;>rfl
theorem We(p:Nat)(c s:Int):(Tp p c s).2=(yz p c).mark:=by
 unfold Tp yz
 (repeat' split)<;>rfl
theorem wH(p:Nat)(c s:Int):(xE p c s).L=dY iK p/\(yz p c).L=dY iK p:=by
 constructor
 ·delta xE
  (repeat' split)<;>rfl
 ·delta yz
  (repeat' split)<;>rfl
theorem jf(p:Nat):dY iK p∈signs p:=by simp[signs]
theorem Rh(p:Nat):dY iK p-32∈signs p:=by simp[signs]
theorem Rg(p:Nat):dY Em p∈signs p:=by simp[signs]
theorem Bh(p:Nat):dY HC p∈signs p:=by simp[signs]
theorem Rf(p i:Nat)(h:i<10):dY lO i+dY iK p-97∈signs p:=kH _ (dZ.mpr ⟨i,aT.mpr h,rfl⟩)
theorem EH(p j:Nat)(h:j<4):dY ic (4*j+p)∈signs p:=by
 refine QZ h ?_ ?_ ?_ ?_
 ·simp[signs]
 ·simp[signs]
 ·simp[signs]
 ·simp[signs]
theorem pY(i:Nat)(h:i<27):dY lP i∈yD:=dZ.mpr ⟨i,aT.mpr h,rfl⟩
theorem kT(p:Nat)(c s:Int):Oy p c s<27:=(je (x:=4*(c.fdiv 5).fmod 6+p+s) (n:=27) (by decide)).2
theorem yM(c:Int):Oz c<10:=(je (x:=c.fdiv 5) (n:=10) (by decide)).2
theorem vD(p:Nat)(c:Int){I:Prop}(N:∀j,j<4->MN p c=4*j+p->I):I:=N (((c.fdiv 5).fmod 4).toNat) ((je (x:=c.fdiv 5) (n:=4) (by decide)).2) rfl
theorem S9{x y p q:Int}(Y:0<=p)(J:p<4)(U:0<=q)(Z:q<4)(h:4*x+p=4*y+q):p=q:=by lia
theorem S8{a b u v r s:Int}(J:27*u+r=a+s)(U:27*v+r=b+s)(Z:a<b+27)(d:b<a+27):a=b:=by lia
theorem VO{p q:Nat}{x y u v r s:Int}(B:p<4)(D:q<4)(h:p≠q)(A:0<=x)(a1:x<6)(b0:0<=y)(b1:y<6)(J:27*u+r=4*x+p+s)(U:27*v+r=4*y+q+s):False:=
 h (Uo (S9 (aX p) (fh.mpr B) (aX q) (fh.mpr D) (S8 J U (by lia) (by lia))))
theorem S7{p q:Nat}(B:p<4)(D:q<4)(h:p≠q)(c d s:Int):Oy p c s≠Oy q d s:=by refine aN (je (x:=4*(c.fdiv 5).fmod 6+p+s) (n:=27) (by decide)) λe1 z=>aN (je (x:=4*(d.fdiv 5).fmod 6+q+s) (n:=27) (by decide)) λe2 z=>?_;have A:0<=(c.fdiv 5).fmod 6:=bQ _ (by decide);have a1:(c.fdiv 5).fmod 6<6:=cJ _ (by decide);have b0:0<=(d.fdiv 5).fmod 6:=bQ _ (by decide);have b1:(d.fdiv 5).fmod 6<6:=cJ _ (by decide);intro F;delta Oy at F;have J:=kG (4*(c.fdiv 5).fmod 6+p+s) 27;have U:=kG (4*(d.fdiv 5).fmod 6+q+s) 27;rw[e1,F]at J;rw[e2]at U;generalize(c.fdiv 5).fmod 6=x at*;generalize(d.fdiv 5).fmod 6=y at*;generalize(4*x+p+s).fdiv 27=u at*;generalize(4*y+q+s).fdiv 27=v at*;exact VO B D h A a1 b0 b1 J U
theorem kZ{p x:Nat}(B:p<4)(h:x∈signs p):Lw x:=by have:=aq.mp (aq.mp Gw p (aT.mpr B)) x h;exact beq_iff_eq.mp this
theorem Ep{x:Nat}(h:x∈yD):Lw x:=beq_iff_eq.mp (aq.mp Ky x h)
theorem uc{x y:Nat}(F:Lw x)(Y:Lw y)(h:nf x≠nf y):fC x y=2:=by unfold Lw at F Y;delta fC;exact ab (if_neg (λe=>h (by exact ab e rfl))) (ab F (ab Y (ab (if_neg (by simpa using h)) rfl)))
theorem sW{p q x y:Nat}(B:p<4)(D:q<4)(L:p≠q)(F:x∈signs p)(Y:y∈signs q):nf x≠nf y:=by
 have:=aq.mp (aq.mp zS p (aT.mpr B)) q (aT.mpr D);refine ak (jm.mp this) (λh=>?_) λh=>?_
 ·exact absurd (beq_iff_eq.mp h) L
 ·exact bne_iff_ne.mp (aq.mp (aq.mp h x F) y Y)
theorem zR{p x y:Nat}(B:p<4)(F:x∈signs p)(Y:y∈yD):nf x≠nf y:=
 bne_iff_ne.mp (aq.mp (aq.mp (aq.mp Ce p (aT.mpr B)) x F) y Y)
theorem Wg{i j:Nat}(hi:i<27)(Q:j<27)(h:i≠j):nf (dY lP i)≠nf (dY lP j):=by
 have:=aq.mp (aq.mp CX i (aT.mpr hi)) j (aT.mpr Q);refine ak (jm.mp this) (λh'=>?_) λh'=>?_
 ·exact absurd (beq_iff_eq.mp h') h
 ·exact bne_iff_ne.mp h'
set_option tactic.hygienic true in
theorem vV{p:Nat}(B:p<4)(c s:Int):(xE p c s).x∈signs p\/(c.fmod 5=1/\(xE p c s).x=dY lP (Oy p c s)):=by
 delta xE;split
 ·exact .inl (Rh p)
 ·split
  ·rename_i h;exact .inr ⟨h,rfl⟩
  ·split
   ·exact .inl (Rf p _ (yM c))
   ·split
    ·exact .inl (Rg p)
    ·exact vD p c λj J U=>.inl (ab U<|EH p j J)
theorem vj{p:Nat}(c:Int):(yz p c).x∈signs p:=by
 delta yz;split
 ·exact Bh p
 ·split
  ·exact Bh p
  ·split
   ·exact Bh p
   ·split
    ·exact Bh p
    ·exact vD p c λj J U=>ab U<|EH p j J
theorem Py{p q:Nat}(B:p<4)(D:q<4)(L:p≠q)(c d s:Int):sh (xE p c s) (xE q d s):=by
 have A:=(wH p c s).1;have C:=(wH q d s).1;have wp:=kZ B (jf p);have E:=kZ D (jf q);have F:Lw (xE p c s).x:=by
  refine ak (vV B c s) (λh=>?_) λH=>aN H λz h=>?_
  ·exact kZ B h
  ·exact ab h<|Ep (pY _ (kT p c s))
 have Y:Lw (xE q d s).x:=by
  refine ak (vV D d s) (λh=>?_) λH=>aN H λz h=>?_
  ·exact kZ D h
  ·exact ab h<|Ep (pY _ (kT q d s))
 refine⟨?_,?_,?_,?_⟩
 ·exact ab A<|ab C<|uc wp E (sW B D L (jf p) (jf q))
 ·refine ab A<|uc wp Y<|ak (vV D d s) (λh=>?_) λH=>aN H λz h=>?_
  ·exact sW B D L (jf p) h
  ·exact ab h<|zR B (jf p) (pY _ (kT q d s))
 ·refine ab C<|uc F E<|ak (vV B c s) (λh=>?_) λH=>aN H λz h=>?_
  ·exact sW B D L h (jf q)
  ·exact ab h<|(zR D (jf q) (pY _ (kT p c s))).symm
 ·refine uc F Y<|ak (vV B c s) (λh=>?_) λH=>aN H λz h=>?_<;>refine ak (vV D d s) (λh'=>?_) λH=>aN H λz h'=>?_
  ·exact sW B D L h h'
  ·exact ab h'<|zR B h (pY _ (kT q d s))
  ·exact ab h<|(zR D h' (pY _ (kT p c s))).symm
  ·exact ab h<|ab h'<|Wg (kT p c s) (kT q d s) (S7 B D L c d s)
theorem NR{p q:Nat}(B:p<4)(D:q<4)(L:p≠q)(c d:Int):sh (yz p c) (yz q d):=by
 have A:=(wH p c 0).2;have C:=(wH q d 0).2;have wp:=kZ B (jf p);have E:=kZ D (jf q);have F:=kZ B (vj (p:=p) c);have Y:=kZ D (vj (p:=q) d);refine⟨?_,?_,?_,?_⟩
 ·exact ab A<|ab C<|uc wp E (sW B D L (jf p) (jf q))
 ·exact ab A<|uc wp Y (sW B D L (jf p) (vj d))
 ·exact ab C<|uc F E (sW B D L (vj c) (jf q))
 ·exact uc F Y (sW B D L (vj c) (vj d))
theorem OU:((aG 4).all λp=>([dY Em p,dY HC p,dY ic p,dY ic (4+p),dY ic (8+p),dY ic (12+p)]++(aG 10).map λi=>dY lO i+dY iK p-97).all λx=>nf x !=dY iK p)=true:=by decide+kernel
theorem KY:((aG 4).all λp=>nf (dY iK p-32)==dY iK p&&nf (dY iK p)==dY iK p&&dY iK p !=dY iK p-32)=true:=by decide+kernel
theorem Vz{p x:Nat}(B:p<4)(h:x∈ [dY Em p,dY HC p,dY ic p,dY ic (4+p),dY ic (8+p),dY ic (12+p)]++(aG 10).map λi=>dY lO i+dY iK p-97)(F:x∈signs p):fC (dY iK p) x=2/\fC x (dY iK p)=2:=by have J:=bne_iff_ne.mp (aq.mp (aq.mp OU p (aT.mpr B)) x h);have U:=aq.mp KY p (aT.mpr B);simp only[au,beq_iff_eq]at U;have w1:=kZ B (jf p);have w2:=kZ B F;exact⟨uc w1 w2 (ab U.1.2<|λe=>J e.symm),uc w2 w1 (ab U.1.2<|J)⟩
theorem LH{p j:Nat}(h:j<4):dY ic (4*j+p)∈ [dY Em p,dY HC p,dY ic p,dY ic (4+p),dY ic (8+p),dY ic (12+p)]++(aG 10).map λi=>dY lO i+dY iK p-97:=by
 refine QZ h ?_ ?_ ?_ ?_
 ·simp
 ·simp
 ·simp
 ·simp
theorem X5{p:Nat}(B:p<4)(c s:Int):(xE p c s).Ok:=by
 have w1:=kZ B (jf p);delta xE;split
 ·have U:=aq.mp KY p (aT.mpr B);simp only[au,beq_iff_eq,bne_iff_ne,ne_eq]at U;have w2:=kZ B (Rh p);unfold Lw at w1 w2;refine⟨show 1<4 by decide,λz=>⟨?_,?_⟩⟩
  ·delta fC;exact ab (if_neg U.2) (ab w1 (ab w2 (ab U.1.1 (ab U.1.2 (ab (if_pos rfl) (ab (if_pos rfl) rfl))))))
  ·delta fC;exact ab (if_neg λe=>U.2 e.symm) (ab w1 (ab w2 (ab U.1.1 (ab U.1.2 (ab (if_pos rfl) (ab (if_pos rfl) rfl))))))
 ·split
  ·have w2:=Ep (pY _ (kT p c s));have:=zR B (jf p) (pY _ (kT p c s));exact⟨show 3<4 by decide,λz=>⟨uc w1 w2 this,uc w2 w1 this.symm⟩⟩
  ·split
   ·exact⟨show 2<4 by decide,λz=>Vz B (kH _ (dZ.mpr ⟨_,aT.mpr (yM c),rfl⟩)) (Rf p _ (yM c))⟩
   ·split
    ·exact⟨show 2<4 by decide,λz=>Vz B (by simp) (Rg p)⟩
    ·exact vD p c λj J U=>ab U<|⟨show 3<4 by decide,λz=>Vz B (LH J) (EH p j J)⟩
theorem XK{p:Nat}(B:p<4)(c:Int):(yz p c).Ok:=by
 delta yz;split
 ·exact⟨show 0<4 by decide,λh=>absurd rfl h⟩
 ·split
  ·exact⟨show 0<4 by decide,λh=>absurd rfl h⟩
  ·split
   ·exact⟨show 0<4 by decide,λh=>absurd rfl h⟩
   ·split
    ·exact⟨show 3<4 by decide,λz=>Vz B (by simp) (Bh p)⟩
    ·exact vD p c λj J U=>ab U<|⟨show 3<4 by decide,λz=>Vz B (LH J) (EH p j J)⟩
theorem K1{p x:Nat}(B:p<4)(h:x∈signs p\/x∈yD):x≠92/\x≠34/\x≠40/\x≠41:=by have:=aq.mp (aq.mp A9 p (aT.mpr B)) x (dw.mpr h);simp only[au,bne_iff_ne,ne_eq]at this;exact⟨this.1.1.1,this.1.1.2,this.1.2,this.2⟩
theorem oT{c:Nat}(h:Lw c):gX c:=by delta gX;delta Lw at h;refine ab h ?_;show 1<=cB;decide
theorem Es{P:iy}{x:Nat}(h:x∈P.mark):x=P.L\/x=P.x:=by
 delta iy.mark at h;generalize P.t=t at h;rcases t with _|_|_|t
 ·exact .inl (bS.mp h)
 ·exact .inr (bS.mp h)
 ·exact .inr (bS.mp h)
 ·exact(aS.mp h).elim .inl λh=>.inr (bS.mp h)
theorem Er{p:Nat}(B:p<4)(c s:Int):∀x∈(xE p c s).mark,x∈signs p\/x∈yD:=by
 refineλx F=>ak (Es F) (λH=>?_) λg=>?_;refine ab H ?_;rotate_left;refine ab g ?_;rotate_right
 ·exact ab ((wH p c s).1)<|.inl (jf p)
 ·refine ak (vV B c s) (λh=>?_) λH=>aN H λz h=>?_
  ·exact .inl h
  ·exact ab h<|.inr (pY _ (kT p c s))
theorem JL{p:Nat}(B:p<4)(c:Int):∀x∈(yz p c).mark,x∈signs p:=by
 refineλx F=>ak (Es F) (λH=>?_) λg=>?_;refine ab H ?_;rotate_left;refine ab g ?_;rotate_right
 ·exact ab ((wH p c 0).2)<|jf p
 ·exact vj c
theorem oU(P:iy):P.mark.length<=2/\1<=P.mark.length:=by delta iy.mark;generalize P.t=t;rcases t with _|_|_|t<;>exact⟨dT rfl,dT rfl⟩
theorem K4:∀{l:List Nat},(∀x∈l,x≠92/\x≠34/\x≠40/\x≠41)->Quiet l:=by
 intro G
 induction G with
 |nil=>
  exactλz=>iQ
 |cons c l P=>
  exactλh=>Aw (h c aH) λa b d e=>C3 a b d e (P λx F=>h x (ax _ F))
theorem KA{p:Nat}(B:p<4)(c s:Int):∀x∈(xE p c s).mark,gX x:=λx F=>by
 refine ak (Er B c s x F) (λh=>?_) λh=>?_
 ·exact oT (kZ B h)
 ·exact oT (Ep h)
theorem Gx{p:Nat}(B:p<4)(c s:Int):n9 (xE p c s).mark=(yz p c).mark:=by
 have:=aq.mp CB p (aT.mpr B);simp only[au,beq_iff_eq]at this;refine aN this λo1 O=>aN o1 λH d=>aN H λg Z=>aN g λJ U=>?_;unfold xE yz;split
 ·exact J
 ·split
  ·exact beq_iff_eq.mp (aq.mp Z _ (pY _ (kT p c s)))
  ·split
   ·exact beq_iff_eq.mp (aq.mp d _ (aT.mpr (yM c)))
   ·split
    ·exact U
    ·exact vD p c λj f A=>ab A<|beq_iff_eq.mp (aq.mp O _ (aT.mpr f))
theorem Cz(p:Nat)(c:Int):(yz p c).mark.take 1= [(yz p c).L]:=by
 delta yz
 (repeat' split)<;>rfl
theorem EP(p:Nat)(c s:Int):(xE p c s).p0=if c.fmod 5=0 then 1 else 2:=by
 delta xE;split
 ·rfl
 ·(repeat' split)<;>rfl
set_option tactic.hygienic true in
theorem NS(p:Nat)(c:Int):(yz p c).p0=if c.fmod 5=3\/c.fmod 5=4 then 2 else 0:=by
 delta yz;split
 ·rename_i h;refine ab (if_neg (by lia)) ?_;rfl
 ·split
  ·rename_i h;refine ab (if_neg (by lia)) ?_;rfl
  ·split
   ·rename_i h;refine ab (if_neg (by lia)) ?_;rfl
   ·split
    ·rename_i h;refine ab (if_pos (Or.symm (Or.inr h))) ?_;rfl
    ·refine ab (if_pos (by lia)) ?_;rfl
noncomputable def KS(a b d:Nat):List Bool:=true::true::(bw (2-a) false++true::(bw (a+1-b) false++true::(bw (b+1-d) false++true::bw (d+1) false)))
theorem Jg:∀(n:Nat) (g:Int),(cl n g).map (·.1)=bw n false:=by
 intro G
 induction G with
 |zero=>
  exactλg=>rfl
 |succ n R=>
  intro g;simp[(id RZ),R,HJ]
theorem CT(a b d:Nat)(m0 m1 m2 m3:List Nat)(g:Int):(iG a b d m0 m1 m2 m3 g).map (·.1)=KS a b d:=by simp[iG,KS,Jg]
noncomputable def OI(a b d:Nat)(u:Nat):Nat:=(kY true 0 (KS a b d)).getD u 0
noncomputable def MI(a b d:Nat)(u:Nat):Nat:=(kC (KS a b d) (OI a b d u) (kY false 0 (KS a b d))).getD 0
noncomputable def subB(a b d v u:Nat):Bool:=decide (OI a b d v<=OI a b d u)&&decide (OI a b d u<=MI a b d v)
noncomputable def zb:List (Nat×Nat×Nat):= [(1,1,1),(1,1,2),(1,2,1),(1,2,2),(1,2,3),(2,1,1),(2,1,2),(2,2,1),(2,2,2),(2,2,3),(2,3,1),(2,3,2),(2,3,3),(2,3,4)]
theorem xw{a b d:Nat}(h:fq a b d):(a,b,d)∈zb:=tC (Q:=λa b d=>(a,b,d)∈zb) (by refine⟨?_,?_,?_,?_,?_,?_,?_,?_,?_,?_,?_,?_,?_,?_⟩<;>decide) h
noncomputable def UB(a b d:Nat):Bool:=(KS a b d).length==10&&yg (KS a b d)&& !yg ((KS a b d).drop 1++ [true])&&(kY true 0 (KS a b d)== [OI a b d 0,OI a b d 1,OI a b d 2,OI a b d 3,OI a b d 4])&&((kY true 0 (KS a b d)).all λi=>decide (i+1<10))&&
 ((aG 5).all λu=>kC (KS a b d) (OI a b d u) (kY false 0 (KS a b d))==some (MI a b d u)&&decide (OI a b d u<10)&&decide (MI a b d u<10))&&
 ((aG 5).all λu=>(aG 5).all λv=>v==0||(subB a b d v u==(fU a b d u).contains v))&&((aG 5).all λu=>subB a b d 0 u)&&
 ((aG 5).all λu=>(aG 5).all λv=>((decide (OI a b d v<OI a b d u))&&decide (OI a b d u<=MI a b d v))==(subB a b d v u&&v !=u))
theorem Pp:(zb.all λq=>UB q.1 q.2.1 q.2.2)=true:=by decide+kernel
noncomputable def sA(a b d v u:Nat):Bool:=v==0||(fU a b d u).contains v
noncomputable def Hf(J U Z d:Nat):Nat->Nat
 |0=>2
 |1=>J
 |2=>U
 |3=>Z
 |_=>d
noncomputable def jG(f:Nat->Bool):Bool:=f 0&&f 1&&f 2&&f 3&&f 4
noncomputable def yd(f:Nat->Bool):Bool:=f 0||f 1||f 2||f 3||f 4
theorem ig{f:Nat->Bool}(h:jG f=true){x:Nat}(F:x<5):f x=true:=by
 simp only[jG,au]at h;refine MO F ?_ ?_ ?_ ?_ ?_
 ·exact h.1.1.1.1
 ·exact h.1.1.1.2
 ·exact h.1.1.2
 ·exact h.1.2
 ·exact h.2
theorem qU{f:Nat->Bool}(h:∀x,x<5->f x=true):jG f=true:=by simp[jG,h]
theorem mU{f:Nat->Bool}:yd f=true↔∃x,x<5/\f x=true:=by
 constructor
 ·intro h;simp only[yd,fy]at h;refine ak h (λH=>ak H (λg=>ak g (λT=>ak T (λh=>?_) λh=>?_) λh=>?_) λh=>?_) λh=>?_
  ·exact⟨0,by decide,h⟩
  ·exact⟨1,by decide,h⟩
  ·exact⟨2,by decide,h⟩
  ·exact⟨3,by decide,h⟩
  ·exact⟨4,by decide,h⟩
 ·refineλo1=>aC o1 λx F h=>MO (M:=λx=>f x=true->yd f=true) F ?_ ?_ ?_ ?_ ?_ h<;>(intro h;simp[yd,h])
noncomputable def imp(a b:Bool):Bool:= !a||b
theorem sC{a b:Bool}(h:imp a b=true)(L:a=true):b=true:=by subst L;exact h
noncomputable def jY(s:Nat->Nat->Bool)(H:Nat->Nat)(x:Nat):Bool:=BY 0 (H x)&&jG λu=> !(s x u&&x !=u&&H u==2)
noncomputable def Ml(s:Nat->Nat->Bool)(H:Nat->Nat):Bool:=jG λv=>jG λu=>imp (s v u) (ME (H u) (H v))&&(s v u||s u v||H v==0||H u==0)
noncomputable def Yu(s:Nat->Nat->Bool)(H:Nat->Nat)(m:Nat):Bool:=jG λv=>if s v m then BY 0 (H v)else BY (H v) 2
noncomputable def Yv(s:Nat->Nat->Bool)(H:Nat->Nat)(A:Nat->Bool):Bool:=jG λx=>imp (yd λm=>jY s H m&&jG λv=>s v x==s v m||H v==1|| !A v) (yd λy=>jY s H y&&jG λv=>s v x==s v y|| !A v)
noncomputable def zX:List Bool:= [true,false]
noncomputable def RL(t1 t2 t3 K:Bool):Nat->Bool
 |0=>true
 |1=>t1
 |2=>t2
 |3=>t3
 |_=>K
noncomputable def QR(s:Nat->Nat->Bool)(H:Nat->Nat):Bool:=imp (Ml s H) ((yd λm=>jY s H m)&&(jG λm=>imp (jY s H m) (Yu s H m))&&zX.all λt1=>zX.all λt2=>zX.all λt3=>zX.all λK=>Yv s H (RL t1 t2 t3 K))
noncomputable def UC(s:Nat->Nat->Bool):Bool:=(jG λv=>jG λu=>imp (s v u) (jG λz=>imp (s u z) (s v z))&&(s v u||s u v||jG λz=> !(s v z&&s u z)))&&(jG λv=>v==0|| !s v 0)&&
 (jG λx=>jG λy=>imp (jG λv=>s v x==s v y) (x==y))&&(jG λu=>s 0 u)
noncomputable def r3:List Nat:= [0,1,2]
theorem L5:(zb.all λq=>UC (sA q.1 q.2.1 q.2.2)&&r3.all λJ=>r3.all λU=>r3.all λZ=>r3.all λd=>QR (sA q.1 q.2.1 q.2.2) (Hf J U Z d))=true:=by decide+kernel
theorem Pw{A a1 a2 a3 a4 b0 b1 b2 b3 c w0 w1 w2 w3 w4:Int}(z:A+b0=0)(h:1<=w0)(J:a1+b1<=w1)(U:a2+b2<=w2)(Z:a3+b3<=w3)(d:a4+c<=w4):A+a1+a2+a3+a4+(b0+b1+b2+b3+c)<w0+w1+w2+w3+w4:=by lia
theorem N3{A B S:Int}(q:¬2*B<S)(h:B+A<S):2*A<S:=by lia
theorem Y8{V C E S m1 m2 m3 G:Int}(J:m1<=V)(U:m2<=C)(Z:m3<=E)(d:G<=S):V+C+E+S=m1+m2+m3+G↔(((V=m1/\C=m2)/\E=m3)/\S=G):=by
 constructor
 ·exactλe=>⟨⟨⟨by lia,by lia⟩,by lia⟩,by lia⟩
 ·exactλe=>ab e.1.1.1 (ab e.1.1.2 (ab e.1.2 (ab e.2 rfl)))
noncomputable def iw(b:Bool)(w:Int):Int:=if b then w else 0
noncomputable def Wt(s:Nat->Nat->Bool)(w:Nat->Int)(v:Nat):Int:=iw (s v 0) (w 0)+iw (s v 1) (w 1)+iw (s v 2) (w 2)+iw (s v 3) (w 3)+iw (s v 4) (w 4)
noncomputable def j9(w:Nat->Int):Int:=w 0+w 1+w 2+w 3+w 4
noncomputable def kX(t W:Int):Nat:=if 2*t<W then 0 else if 2*t=W then 1 else 2
noncomputable def sP(s:Nat->Nat->Bool)(w:Nat->Int)(v x:Nat):Int:=if s v x then j9 w-Wt s w v else Wt s w v
noncomputable def HH(s:Nat->Nat->Bool)(w:Nat->Int):Nat->Nat:=Hf (kX (Wt s w 1) (j9 w)) (kX (Wt s w 2) (j9 w)) (kX (Wt s w 3) (j9 w)) (kX (Wt s w 4) (j9 w))
structure Fw (w:Nat->Int):Prop where
 w0:1<=w 0
 w1:0<=w 1
 w2:0<=w 2
 w3:0<=w 3
 w4:0<=w 4
theorem rM(s:Nat->Nat->Bool)(w:Nat->Int)(v x:Nat):iw (s v 0 !=s v x) (w 0)+iw (s v 1 !=s v x) (w 1)+iw (s v 2 !=s v x) (w 2)+iw (s v 3 !=s v x) (w 3)+iw (s v 4 !=s v x) (w 4)=sP s w v x:=by
 delta sP;have e:∀u,iw (s v u !=s v x) (w u)=if s v x then w u-iw (s v u) (w u)else iw (s v u) (w u):=by intro u;cases s v x<;>cases s v u<;>simp[iw]
 simp only[e];unfold j9 Wt;cases s v x
 ·rfl
 ·simp;lia
theorem Ag{a b d:Nat}(w:Nat->Int)(pr:Nat->Nat)(x:Nat):iS (fU a b d) w pr x=pr 0*sP (sA a b d) w 1 x+pr 1*sP (sA a b d) w 2 x+pr 2*sP (sA a b d) w 3 x+pr 3*sP (sA a b d) w 4 x:=by
 have V:∀u v,v≠0->cond (fU a b d) u x v=(sA a b d v u !=sA a b d v x):=by
  intro u v D;have Y:(v==0)=false:=by simpa using D
  unfold cond sA;simp only[Y,iW,iW];rfl
 have S:∀(u:Nat) (c:Bool) (p:Nat),w u*((if c then p else 0:Nat):Int)=p*iw c (w u):=by
  intro u c p;rcases c with⟨⟩
  ·simp[iw]
  ·simp[iw,bR]
 have e:∀u,w u*(mf (fU a b d) pr u x:Int)=pr 0*iw (sA a b d 1 u !=sA a b d 1 x) (w u)+(pr 1*iw (sA a b d 2 u !=sA a b d 2 x) (w u)+(pr 2*iw (sA a b d 3 u !=sA a b d 3 x) (w u)+pr 3*iw (sA a b d 4 u !=sA a b d 4 x) (w u))):=by intro u;delta mf;refine ab (V u 1 (by decide)) (ab (V u 2 (by decide)) (ab (V u 3 (by decide)) (ab (V u 4 (by decide)) ?_)));simp only[Int.natCast_add,nk,S]
 delta iS;simp only[e,<-rM,<-rM,<-rM,<-rM];simp only[nk];lia
noncomputable def jM(G:Nat->Bool):List Nat:=(if G 0 then[0]else[])++((if G 1 then[1]else[])++((if G 2 then[2]else[])++((if G 3 then[3]else[])++(if G 4 then[4]else[]))))
theorem td{G H:Nat->Bool}(h:∀x,x<5->G x=H x):jM G=jM H:=by delta jM;exact ab (h 0 (by decide)) (ab (h 1 (by decide)) (ab (h 2 (by decide)) (ab (h 3 (by decide)) (ab (h 4 (by decide)) rfl))))
theorem Nd{c:Nat->Int}{G:Nat->Bool}{m:Nat}(T:m<5)(J:∀x,x<5->c m<=c x)(U:∀x,x<5->(c x=c m↔G x=true)):ye c=jM G:=by
 refine ew λY=>?_;obtain⟨t,y,V,j⟩:=Gz c;refine Y ?_;clear Y;have e:lS c=c m:=by have:=t m T;have:=J y V;lia
 have f:ye c=jM λx=>c x==lS c:=rfl;refine ab f<|td λx F=>ab e ?_;rewrite[lG,beq_iff_eq];exact U x F
theorem rn(t W:Int):kX t W∈r3:=by
 unfold kX r3;split
 ·exact dQ rfl
 ·split<;>simp
theorem CF{A B W:Int}(h:A<=B):kX A W<=kX B W:=by
 delta kX;by_cases J:2*A<W
 ·exact ab (if_pos J)<|bz _
 ·refine ab (if_neg J) (ab (if_neg (show¬2*B<W by lia)) ?_);by_cases U:2*B=W
  ·exact ab (if_pos U)<|ab (if_pos (by lia))<|aV _
  ·refine ab (if_neg U) ?_;split<;>decide
theorem kD{a b d:Nat}(h:fq a b d)(w:Nat->Int):UC (sA a b d)=true/\QR (sA a b d) (HH (sA a b d) w)=true:=by have q:=aq.mp L5 _ (xw h);simp only[au]at q;refine⟨q.1,?_⟩;exact aq.mp (aq.mp (aq.mp (aq.mp q.2 _ (rn _ _)) _ (rn _ _)) _ (rn _ _)) _ (rn _ _)
section
variable{a b d:Nat}(h:fq a b d){w:Nat->Int}(hw:Fw w)
include h
theorem Pj{v u z:Nat}(D:v<5)(N:u<5)(o:z<5)(J:sA a b d v u=true)(U:sA a b d u z=true):sA a b d v z=true:=by have q:=(kD h λZ=>0).1;simp only[UC,au]at q;have t:=ig (ig q.1.1.1 D) N;simp only[au]at t;exact sC (ig (sC t.1 J) o) U
theorem Ph{v u z:Nat}(D:v<5)(N:u<5)(o:z<5)(J:sA a b d v u=false)(U:sA a b d u v=false):sA a b d v z=true->sA a b d u z=false:=by have q:=(kD h λZ=>0).1;simp only[UC,au]at q;have t:=ig (ig q.1.1.1 D) N;simp only[au,J,U,zz]at t;intro e;simpa[e]using(ig t.2 o)
theorem Lr{v:Nat}(D:v<5)(Y:v≠0):sA a b d v 0=false:=by have q:=(kD h λz=>0).1;simp only[UC,au]at q;have Y:(v==0)=false:=beq_false_of_ne Y;simpa[Y]using(ig q.1.1.2 D)
theorem WC{x y:Nat}(F:x<5)(Y:y<5)(e:∀v,v<5->sA a b d v x=sA a b d v y):x=y:=by have q:=(kD h λz=>0).1;simp only[UC,au]at q;have:=sC (ig (ig q.1.2 F) Y) (qU λv D=>ab (e v D)<|beq_self_eq_true _);simpa using this
include hw
theorem zP:0<j9 w:=by obtain⟨Y,J,U,Z,A⟩:=hw;delta j9;lia
theorem DJ{v:Nat}(D:v<5):HH (sA a b d) w v=kX (Wt (sA a b d) w v) (j9 w):=by
 refine MO D ?_ ?_ ?_ ?_ ?_
 ·
  have e:Wt (sA a b d) w 0=j9 w:=rfl;have:=zP h hw;refine ab e ?_;delta kX;refine ab (if_neg (by lia)) (ab (if_neg (by lia)) ?_);rfl
 ·rfl
 ·rfl
 ·rfl
 ·rfl
theorem Mm:Ml (sA a b d) (HH (sA a b d) w)=true:=by
 refine qU λv D=>qU λu N=>ab (DJ h hw D) (ab (DJ h hw N) ?_);refine ab (au ..) ?_;have A:∀z,z<5->0<=w z:=by
  refineλz o=>MO o ?_ ?_ ?_ ?_ ?_
  ·have:=hw.w0;exact aF this
  ·exact hw.w1
  ·exact hw.w2
  ·exact hw.w3
  ·exact hw.w4
 constructor
 ·by_cases e:sA a b d v u=true
  ·refine ab e ?_;have le:∀z,z<5->iw (sA a b d u z) (w z)<=iw (sA a b d v z) (w z):=by
    intro z o;by_cases e2:sA a b d u z=true
    ·exact ab e2<|ab (Pj h D N o e e2)<|g9 _
    ·have:=A z o;have e2:sA a b d u z=false:=by simpa using e2
     refine ab e2 ?_;cases sA a b d v z
     ·simp[iw]
     ·exact this
   have M:Wt (sA a b d) w u<=Wt (sA a b d) w v:=eF (eF (eF (eF (le 0 (by decide)) (le 1 (by decide))) (le 2 (by decide))) (le 3 (by decide))) (le 4 (by decide));exact ab Nat.ble_eq<|CF M
  ·have:sA a b d v u=false:=by simpa using e
   refine ab this ?_;rfl
 ·by_cases e:sA a b d v u=true
  ·refine ab e ?_;rfl
  by_cases e2:sA a b d u v=true
  ·refine ab e2 ?_;simp
  have e:sA a b d v u=false:=by simpa using e
  have e2:sA a b d u v=false:=by simpa using e2
  refine ab e (ab e2 ?_);simp only[zz,fy,beq_iff_eq];have le:∀z,z<5->iw (sA a b d v z) (w z)+iw (sA a b d u z) (w z)<=w z:=by
   intro z o;have:=A z o;by_cases c:sA a b d v z=true
   ·refine ab c (ab (Ph h D N o e e2 c) ?_);simp[iw]
   ·have c:sA a b d v z=false:=by simpa using c
    refine ab c ?_;cases sA a b d u z
    ·exact this
    ·simp[iw]
  have B:v≠0:=λq=>by subst q;exact(aB e.symm).elim
  have G:u≠0:=λq=>by subst q;exact(aB e2.symm).elim
  have I:iw (sA a b d v 0) (w 0)+iw (sA a b d u 0) (w 0)=0:=by refine ab (Lr h D B) (ab (Lr h N G) ?_);rfl
  have y:Wt (sA a b d) w v+Wt (sA a b d) w u<j9 w:=Pw I hw.w0 (le 1 (by decide)) (le 2 (by decide)) (le 3 (by decide)) (le 4 (by decide));by_cases q:2*Wt (sA a b d) w v<j9 w
  ·exact .inl (if_pos q)
  ·exact .inr (if_pos (N3 q y))
theorem yA:(yd λm=>jY (sA a b d) (HH (sA a b d) w) m)=true/\(∀m,m<5->jY (sA a b d) (HH (sA a b d) w) m=true->Yu (sA a b d) (HH (sA a b d) w) m=true)/\∀t1 t2 t3 K,Yv (sA a b d) (HH (sA a b d) w) (RL t1 t2 t3 K)=true:=by
 have q:=sC (kD h w).2 (Mm h hw);simp only[au]at q;have O:∀t:Bool,t∈zX:=by intro t;rcases t with⟨⟩<;>exact dQ rfl
 refine⟨q.1.1,λm T S=>sC (ig q.1.2 T) S,λt1 t2 t3 K=>?_⟩;exact aq.mp (aq.mp (aq.mp (aq.mp q.2 _ (O t1)) _ (O t2)) _ (O t3)) _ (O K)
theorem ET{m:Nat}(T:m<5)(S:jY (sA a b d) (HH (sA a b d) w) m=true){v x:Nat}(D:v<5):sP (sA a b d) w v m<=sP (sA a b d) w v x/\(sP (sA a b d) w v x=sP (sA a b d) w v m↔sA a b d v x=sA a b d v m\/HH (sA a b d) w v=1):=by
 have q:=ig ((yA h hw).2.1 m T S) D;clear T;rw[DJ h hw D]at q⊢;clear D;delta sP;generalize Wt (sA a b d) w v=A at*;unfold kX at q⊢;cases h1:sA a b d v m<;>cases h2:sA a b d v x<;>rw[h1]at q<;>simp only[bx,if_false,if_true,Xw]at q⊢
 ·simp
 ·by_cases f:2*A<j9 w
  ·exact ab (if_pos f)<|⟨by grind,⟨λz=>by lia,λe=>absurd e (by decide)⟩⟩
  ·by_cases j:2*A=j9 w
   ·simp only[if_neg f,if_pos j];exact⟨by lia,⟨λz=>.inr trivial,λz=>by lia⟩⟩
   ·rw[if_neg f,if_neg j]at q;lia
 ·by_cases f:2*A<j9 w
  ·rw[if_pos f]at q;omega+splitDisjunctions
  ·by_cases j:2*A=j9 w
   ·simp only[if_neg f,if_pos j];exact⟨by grind,⟨λz=>.inr trivial,λz=>by grind⟩⟩
   ·simp only[if_neg f,if_neg j];exact⟨by grind,⟨λz=>by(clear f q h2 h1 S hw h;lia),λe=>absurd e (by decide)⟩⟩
 ·simp
noncomputable def sj(s:Nat->Nat->Bool)(H:Nat->Nat)(A:Nat->Bool)(x:Nat):Bool:=yd λy=>jY s H y&&jG λv=>s v x==s v y|| !A v
noncomputable def yc(pr:Nat->Nat):Nat->Bool:=RL (pr 0 !=0) (pr 1 !=0) (pr 2 !=0) (pr 3 !=0)
theorem GC{p:Nat}{A B:Int}(h:A<=B):(p:Int)*A<=p*B/\((p:Int)*B=p*A↔p=0\/B=A):=by
 constructor
 ·exact we h (aX p)
 ·constructor
  ·intro e;by_cases C:p=0
   ·exact .inl C
   ·exact .inr (Int.eq_of_mul_eq_mul_left (Int.ofNat_ne_zero.mpr C) e)
  ·refineλo1=>ak o1 (λH=>?_) λg=>?_;refine ab H ?_;rotate_left;subst g;rotate_right
   ·simp
   ·rfl
theorem qp(pr:Nat->Nat){m x:Nat}(T:m<5)(S:jY (sA a b d) (HH (sA a b d) w) m=true):iS (fU a b d) w pr m<=iS (fU a b d) w pr x/\
 (iS (fU a b d) w pr x=iS (fU a b d) w pr m↔(jG λv=>sA a b d v x==sA a b d v m||HH (sA a b d) w v==1|| !yc pr v)=true):=by
 have F:=λ(v:Nat) (D:v<5) (p:Nat)=>GC h hw (p:=p) ((λ(v:Nat) (D:v<5)=>ET h hw T S (v:=v) (x:=x) D) v D).1;have f1:=F 1 (by decide) (pr 0);have f2:=F 2 (by decide) (pr 1);have f3:=F 3 (by decide) (pr 2);have A:=F 4 (by decide) (pr 3);have g:∀v,v<5->∀p:Nat,((sA a b d v x==sA a b d v m||HH (sA a b d) w v==1|| !(p !=0))=true↔(p:Int)*sP (sA a b d) w v x=p*sP (sA a b d) w v m):=by
  intro v D p;simp only[(F v D p).2,((λ(v:Nat) (D:v<5)=>ET h hw T S (v:=v) (x:=x) D) v D).2];simp only[fy,beq_iff_eq,bne,Bool.not_not];constructor
  ·refineλr=>ak r (λq=>?_) λq=>?_
   ·exact .inr q
   ·exact .inl q
  ·refineλj=>ak j (λq=>?_) λq=>?_
   ·exact .inr q
   ·exact .inl q
 have e:(jG λv=>sA a b d v x==sA a b d v m||HH (sA a b d) w v==1|| !yc pr v)=((sA a b d 1 x==sA a b d 1 m||HH (sA a b d) w 1==1|| !(pr 0 !=0))&&(sA a b d 2 x==sA a b d 2 m||HH (sA a b d) w 2==1|| !(pr 1 !=0))&&(sA a b d 3 x==sA a b d 3 m||HH (sA a b d) w 3==1|| !(pr 2 !=0))&&(sA a b d 4 x==sA a b d 4 m||HH (sA a b d) w 4==1|| !(pr 3 !=0))):=by delta jG;rfl
 simp only[Ag,Ag,e];simp only[au];simp only[g 1 (by decide),g 2 (by decide),g 3 (by decide),g 4 (by decide)];exact⟨eF (eF (eF f1.1 f2.1) f3.1) A.1,Y8 f1.1 f2.1 f3.1 A.1⟩
theorem qV(pr:Nat->Nat):ye (iS (fU a b d) w pr)=jM (sj (sA a b d) (HH (sA a b d) w) (yc pr)):=by
 refine aC (mU.mp (yA h hw).1) λm T S=>?_;have C:=λx=>qp h hw pr (x:=x) T S;refine Nd T (λx z=>(C x).1) λx F=>?_;rw[(C x).2];constructor
 ·exactλq=>sC (ig ((yA h hw).2.2 _ _ _ _) F) (mU.mpr ⟨m,T,ab S<|q⟩)
 ·refineλq=>aC (mU.mp q) λy Y q=>?_;rw[au]at q;have P:=qp h hw pr (x:=x) Y q.1;have A:=(qp h hw pr (x:=m) Y q.1).1;have c:=(C y).1;rw[<-(C x).2];have:iS (fU a b d) w pr x=iS (fU a b d) w pr y:=P.2.mpr (qU λv D=>by
   have:=ig q.2 D;simp only[fy]at this⊢;refine ak this (λg=>?_) λg=>?_
   ·exact .inl (.inl g)
   ·exact .inr g)
  lia
omit hw in
theorem Dh{H:Nat->Nat}{A:Nat->Bool}(L:∀v,v<5->A v=true):jM (sj (sA a b d) H A)=jM (jY (sA a b d) H):=by
 refine td λx F=>?_;rw[lG];constructor
 ·refineλq=>aC (mU.mp q) λy Y q=>?_;rw[au]at q;have:x=y:=WC h F Y λv D=>by
   have:=ig q.2 D;simpa[L v D]using this
  exact ab this<|q.1
 ·refineλq=>mU.mpr ⟨x,F,by exact ab q<|ab (kW ..)<|qU λv z=>by refine ab (beq_self_eq_true ..) ?_;rfl⟩
end
section
variable{P:Nat->iy}{a b d:Nat}{w:Nat->Int}
structure qS (P:Nat->iy):Prop where
 ok:∀p,p<4->(P p).Ok
 apart:∀p q,p<4->q<4->p≠q->sh (P p) (P q)
 low:∀p,p<4->∀x∈(P p).mark,gX x
 Ti:∀p,p<4->gX (P p).L
theorem Bc(Q:iy):Q.p0<=2:=by
 delta iy.p0;generalize Q.t=t;rcases t with _|_|t
 ·exact bz 2
 ·exact nu 1
 ·exact aV 2
theorem um(Q:iy)(u:Bool):(Q.str u).length<=2:=by
 rcases u with⟨⟩
 ·exact cj.mp rfl
 ·exact(oU Q).1
theorem uo(m:qS P){p:Nat}(B:p<4)(u:Bool):∀x∈(P p).str u,gX x:=by
 delta iy.str;rcases u with⟨⟩
 ·intro x F;simp at F;exact ab F<|m.Ti p B
 ·exact m.low p B
theorem AU(P:Nat->iy)(u:Nat->Bool):(km P u).length<=30:=by
 delta km;have Y:=um (P 0) (u 0);have J:=um (P 1) (u 1);have U:=um (P 2) (u 2);have Z:=um (P 3) (u 3)
 simp only[cK];lia
theorem AW(m:qS P)(u:Nat->Bool):∀x∈km P u,gX x:=by
 intro x F;simp only[km,dw]at F;refine ak F (λh=>?_) λH=>ak H (λh=>?_) λg=>ak g (λh=>?_) λh=>?_
 ·exact uo m (by decide) _ x h
 ·exact uo m (by decide) _ x h
 ·exact uo m (by decide) _ x h
 ·exact uo m (by decide) _ x h
noncomputable def under(a b d s p:Nat):Bool:=sA a b d (p+1) s
noncomputable def yS(P:Nat->iy)(a b d s:Nat):List Nat:=km P (under a b d s)
noncomputable def ot(P:Nat->iy)(p:Nat):Nat:=(P p).p0
noncomputable def DD(P:Nat->iy)(a b d x y:Nat):Nat:=mf (fU a b d) (ot P) y x
theorem qo(u x p:Nat):cond (fU a b d) u x (p+1)=(under a b d u p !=under a b d x p):=by
 unfold cond under sA;have Y:(p+1==0)=false:=by rfl
 simp only[Y,iW,iW];rfl
theorem Kt(m:qS P)(x y:Nat):yO fC (yS P a b d x) (yS P a b d y)=DD P a b d x y:=by
 refine ab (Gn m.ok m.apart) ?_;have e:∀p,TG P (under a b d x) (under a b d y) p=if cond (fU a b d) y x (p+1)then ot P p else 0:=by refineλp=>ab (qo ..) ?_;unfold TG ot;cases under a b d x p<;>cases under a b d y p<;>rfl
 refine ab (e ..) (ab (e ..) (ab (e ..) (ab (e ..) ?_)));show _=(if cond (fU a b d) y x (0+1)then ot P 0 else 0)+((if cond (fU a b d) y x (1+1)then ot P 1 else 0)+((if cond (fU a b d) y x (2+1)then ot P 2 else 0)+(if cond (fU a b d) y x (3+1)then ot P 3 else 0)));exact ab (zH ..) (ab (zH ..) rfl)
theorem Na(x y:Nat):DD P a b d x y=DD P a b d y x:=by
 have e:∀p,cond (fU a b d) y x p=cond (fU a b d) x y p:=by intro p;delta cond;cases decide (p∈fU a b d y)<;>cases decide (p∈fU a b d x)<;>rfl
 unfold DD mf;exact ab (e ..) (ab (e ..) (ab (e ..) (ab (e ..) rfl)))
theorem M9(x:Nat):DD P a b d x x=0:=by
 have e:∀p,cond (fU a b d) x x p=false:=by intro p;delta cond;cases decide (p∈fU a b d x)<;>rfl
 unfold DD mf;refine ab (e ..) (ab (e ..) (ab (e ..) (ab (e ..) ?_)));rfl
theorem U3(x y:Nat):DD P a b d x y<=100:=by
 have e:∀p (c:Bool),(if c then ot P p else 0)<=2:=by
  intro p c;rcases c with⟨⟩
  ·exact dT rfl
  ·exact Bc (P p)
 have Y:=e 0 (cond (fU a b d) y x 1);have J:=e 1 (cond (fU a b d) y x 2);have U:=e 2 (cond (fU a b d) y x 3);have Z:=e 3 (cond (fU a b d) y x 4)
 unfold DD mf;lia
noncomputable def lT(P:Nat->iy)(a b d:Nat):AV:=.lst (cE λs=>.str (yS P a b d s))
noncomputable def Bx(P:Nat->iy)(a b d:Nat):AV:=.lst (cE λx=>.lst (cE λy=>nI (DD P a b d x y)))
noncomputable def wV(w:Nat->Int):AV:=.lst (cE λi=>.int (w i))
noncomputable def Rc(P:Nat->iy):AV:=.lst (qy λp=>nI (ot P p))
noncomputable def Ah(P:Nat->iy)(a b d:Nat)(w:Nat->Int):AV:=.lst (cE λx=>.int (iS (fU a b d) w (ot P) x))
theorem PV(k:Nat)(m:qS P):(BK (k+3)).O 19 [lT P a b d]=some (Bx P a b d):=by
 have h:=Ui (k+2) (nm:=yS P a b d) (W:=λx y=>DD P a b d x y) λx y z z=>ab (XR k (a:=yS P a b d x) (b:=yS P a b d y) (AU _ _) (AU _ _) (AW m _) (AW m _)) (ab (Kt m ..) rfl);refine ab h ?_;congr 2;have e:(λx=>AV.lst (cE λy=>nI (if y<x then DD P a b d x y else if x<y then DD P a b d y x else 0)))=λx=>.lst (cE λy=>nI (DD P a b d x y)):=by
  funext x;congr 2;funext y;congr 1;split
  ·rfl
  ·split
   ·exact Na _ _
   ·have:x=y:=by lia
    exact ab this<|ab (M9 ..) rfl
 exact congrArg _ e
theorem Ji(k:Nat)(h:fq a b d):(BK (k+1)).O 21 [wD a b d,wV w,Rc P]=some (Ah P a b d w):=
 NC (Ic h) λi=>Bc (P i)
theorem Fz(k:Nat)(T:List Nat):(BK (k+1)).O 22 [Bx P a b d,wV w,Ah P a b d w,.lst (bq T)]=some (.bool (decide (ye (iS (fU a b d) w (ot P))=T))):=by refine Ih U3 λx z=>?_;unfold Uj iS DD;lia
noncomputable def XF(n p t:Nat):CE:=.call 22 [(.call 19 [(.a n)]),(.a 19),(.call 21 [(.a 2),(.a 19),(.a p)]),(.a t)]
theorem Ig(k:Nat){st:St}{loc:Loc}{n p t:Nat}{T:List Nat}(m:qS P)(h:fq a b d)(Q:ev (BK (k+3)) st (.a n) loc=some (lT P a b d))(Y:ev (BK (k+3)) st (.a 19) loc=some (wV w))(U:ev (BK (k+3)) st (.a 2) loc=some (wD a b d))
 (B:ev (BK (k+3)) st (.a p) loc=some (Rc P))(S:ev (BK (k+3)) st (.a t) loc=some (.lst (bq T))):ev (BK (k+3)) st (XF n p t) loc=some (.bool (decide (ye (iS (fU a b d) w (ot P))=T))):=by
 have e1:ev (BK (k+3)) st (.call 19 [.a n]) loc=some (Bx P a b d):=eP (vs:= [lT P a b d]) (by simp only[af,(id jW),Q,aj,af,aJ]) rfl (PV k m);have e2:ev (BK (k+3)) st (.call 21 [(.a 2),(.a 19),(.a p)]) loc=some (Ah P a b d w):=eP (vs:= [wD a b d,wV w,Rc P]) (by simp only[af,(id jW),U,Y,B,aj,af,aJ]) rfl (Ji (k+2) h);refine eP (vs:= [Bx P a b d,wV w,Ah P a b d w,.lst (bq T)]) (by simp only[af,(id jW),e1,e2,Y,S,aj,af,aJ]) ?_ (Fz (k+2) T);have:dU (bq T)=true:=iH T;simp only[(id mz),(id qD),this,Bx,wV,Ah,cE,nI,nx]
end
noncomputable def kN(f:Nat->AV)(i:Nat)(v:AV):Nat->AV:=λj=>if j=i then v else f j
noncomputable def LF(f:Nat->AV):Loc:=(aG 29).map f
theorem iI{f:Nat->AV}{i j:Nat}{v:AV}(h:j≠i):kN f i v j=f j:=if_neg h
theorem eW{f:Nat->AV}{i:Nat}{v:AV}:kN f i v i=v:=if_pos rfl
noncomputable def Zc:AV->Bool
 | .c=>true
 |_=>false
theorem Ku{f:Nat->AV}{i:Nat}(hi:i<29):(LF f)[i]? =some (f i):=by simp[LF,hi]
theorem ec{f:Nat->AV}{i:Nat}{v:AV}(hi:i<29):ek (LF f) i v=some (LF (kN f i v)):=by
 delta ek;refine ab (if_pos (hi)) ?_;congr 1;refine List.ext_getElem (by simp[LF]) λn J U=>?_;simp only[LF,List.getElem_set,uA,mG,kN];by_cases e:n=i
 ·subst e;rfl
 ·exact ab (if_neg e) (ab (if_neg λq=>e q.symm) rfl)
theorem fu{C:dC}{st:St}{f:Nat->AV}{i:Nat}{v:AV}(hi:i<29)(h:f i=v)(Q:Zc v=false):ev C st (.a i) (LF f)=some v:=by
 have e:ev C st (.a i) (LF f)=match(LF f)[i]? with
  |none=>none
  |some .c=>none
  |some v=>some v:=rfl
 refine ab e (ab (Ku hi) (ab h ?_));rcases v with⟨⟩<;>first|rfl|rcases Q with⟨⟩
theorem Aq{C:dC}{st:St}{loc:Loc}{x y:CE}{p q:Bool}(J:ev C st x loc=some (.bool p))(U:ev C st y loc=some (.bool q)):ev C st (.band [x,y]) loc=some (.bool (p&&q)):=by
 rcases p with⟨⟩
 ·exact mq J rfl
 ·exact yv J rfl U rfl
theorem El{st:St}(x y:Nat):fk st .LtE (nI x) (nI y)=some (decide (x<=y)):=by simp only[nI,(id cb)];congr 1;exact decide_eq_decide.mpr eG
theorem Q0{st:St}(x y:Nat):fk st .Lt (nI x) (nI y)=some (decide (x<y)):=by simp only[nI,(id cb)];congr 1;exact decide_eq_decide.mpr fh
theorem Sk{C:dC}{st:St}{loc:Loc}{x y z:CE}{p q r:Nat}(J:ev C st x loc=some (nI p))(U:ev C st y loc=some (nI q))(Z:ev C st z loc=some (nI r)):ev C st (.B .LtE .LtE x y z) loc=some (.bool (decide (p<=q)&&decide (q<=r))):=by
 by_cases h:p<=q
 ·exact ab (decide_eq_true h)<|ab (kW ..)<|rg J U (ab (El ..) (ab (decide_eq_true h) rfl)) Z (El _ _)
 ·exact ab (decide_eq_false h)<|ab (mE ..)<|vb J U (ab (El ..) (ab (decide_eq_false h) rfl))
theorem NN{C:dC}{st:St}{loc:Loc}{x y z:CE}{p q r:Nat}(J:ev C st x loc=some (nI p))(U:ev C st y loc=some (nI q))(Z:ev C st z loc=some (nI r)):ev C st (.B .Lt .LtE x y z) loc=some (.bool (decide (p<q)&&decide (q<=r))):=by
 by_cases h:p<q
 ·exact ab (decide_eq_true h)<|ab (kW ..)<|rg J U (ab (Q0 ..) (ab (decide_eq_true h) rfl)) Z (El _ _)
 ·exact ab (decide_eq_false h)<|ab (mE ..)<|vb J U (ab (Q0 ..) (ab (decide_eq_false h) rfl))
noncomputable def A8(c:Nat->Bool)(g:Nat->AV):List AV:=(if c 0 then[g 0]else[])++((if c 1 then[g 1]else[])++((if c 2 then[g 2]else[])++((if c 3 then[g 3]else[])++((if c 4 then[g 4]else[])++ []))))
theorem yy{C:dC}{st:St}{f:Nat->AV}{i:Nat}{e t:CE}{c:Nat->Bool}{g:Nat->AV}(hi:i<29)(J:∀u,u<5->ev C st t (LF (kN f i (nI u)))=some (.bool (c u)))(U:∀u,u<5->ev C st e (LF (kN f i (nI u)))=some (g u)):
 ev C st (.y e (.bX i) (.j [(.d 5)]) t) (LF f)=some (.lst (A8 c g)):=by
 have P:∀u:Nat,u<5->(do
  let loc'<-cT (LF f) (.bX i) (nI u)
  if<-cU st (<-ev C st t loc')then return some (<-ev C st e loc')else return none:Option (Option AV))=some (if c u then some (g u)else none):=by
  intro u N;have O:cT (LF f) (.bX i) (nI u)=some (LF (kN f i (nI u))):=ec hi;simp only[aj,O,af,J u N,(id lY),U u N,aJ];cases c u<;>rfl
 exact rh (v:=.lst [nI 0,nI 1,nI 2,nI 3,nI 4]) (l:= [nI 0,nI 1,nI 2,nI 3,nI 4]) rfl rfl
  (eU (P 0 (by decide)) (eU (P 1 (by decide)) (eU (P 2 (by decide)) (eU (P 3 (by decide)) (eU (l:= []) (r:= []) (P 4 (by decide)) rfl)))))
theorem m9{b:Bool}{x:Int}{l:List AV}{ns:List Int}(h:dM l=some ns):dM ((if b then[.int x]else[])++l)=some ((if b then[x]else[])++ns):=by
 rcases b with⟨⟩
 ·exact h
 ·show(dM l).map (x::·)=_;refine ab h ?_;rfl
theorem LR(b:Bool)(x:Int)(ns:List Int):((if b then[x]else[])++ns).sum=iw b x+ns.sum:=by
 rcases b with⟨⟩
 ·simp[iw]
 ·rfl
theorem vf{C:dC}{st:St}{loc:Loc}{e:CE}{c:Nat->Bool}{w:Nat->Int}(h:ev C st e loc=some (.lst (A8 c λu=>.int (w u)))):ev C st (.D e) loc=some (.int (iw (c 0) (w 0)+iw (c 1) (w 1)+iw (c 2) (w 2)+iw (c 3) (w 3)+iw (c 4) (w 4))):=by
 have e1:ev C st (.D e) loc=(do return .int (<-dM (<-jX st (<-ev C st e loc))).sum):=rfl;have e2:dM (A8 c λu=>.int (w u))=some ((if c 0 then[w 0]else[])++((if c 1 then[w 1]else[])++((if c 2 then[w 2]else[])++((if c 3 then[w 3]else[])++((if c 4 then[w 4]else[])++ []))))):=
  m9 (m9 (m9 (m9 (m9 rfl))))
 refine ab e1 (ab h ?_);simp only[(id Nf),aj,af,e2,LR,aJ];congr 2;show _+(_+(_+(_+(_+0))))=_;lia
section
variable{k:Nat}{ps:Nat->Nat}{a b d:Nat}{w:Nat->Int}{cs:List Int}{f:Nat->AV}{st:St}
structure kr (ps:Nat->Nat) (a b d:Nat) (w:Nat->Int) (cs:List Int) (f:Nat->AV):Prop where
 f1:f 1=.lst (cs.map .int)
 QQ:f 11=.lst (cE λi=>nI (ps (OI a b d i)))
 ML:f 12=.lst (cE λi=>nI (ps (MI a b d i)))
 Sm:f 19=wV w
 mono:∀i j,i<10->j<10->(ps i<=ps j↔i<=j)
theorem kr.upd(h:kr ps a b d w cs f){i:Nat}(v:AV)(hi:i=20\/i=21\/i=22\/i=23\/i=24):kr ps a b d w cs (kN f i v):=
 ⟨ab (iI (by lia))<|h.f1,ab (iI (by lia))<|h.QQ,ab (iI (by lia))<|h.ML,ab (iI (by lia))<|h.Sm,h.mono⟩
theorem za(h:fq a b d):UB a b d=true:=by have q:=aq.mp Pp (a,b,d) (xw h);exact q
theorem LQ(h:fq a b d){v u:Nat}(D:v<5)(N:u<5):subB a b d v u=sA a b d v u:=by
 have q:=za h;simp only[UB,au]at q;have t:=aq.mp (aq.mp q.1.1.2 u (aT.mpr N)) v (aT.mpr D);have V:=aq.mp q.1.2 u (aT.mpr N);delta sA;by_cases e:v=0
 ·subst e;refine ab V ?_;rfl
 ·have e:(v==0)=false:=beq_false_of_ne e;rw[e,zz]at t⊢;exact beq_iff_eq.mp t
theorem Hb(h:fq a b d){v u:Nat}(D:v<5)(N:u<5):(decide (OI a b d v<OI a b d u)&&decide (OI a b d u<=MI a b d v))=(sA a b d v u&&v !=u):=by have q:=za h;simp only[UB,au]at q;exact cA (LQ h D N)<|beq_iff_eq.mp (aq.mp (aq.mp q.2 u (aT.mpr N)) v (aT.mpr D))
theorem AG(h:fq a b d){u:Nat}(N:u<5):OI a b d u<10/\MI a b d u<10:=by have q:=za h;simp only[UB,au]at q;have t:=aq.mp q.1.1.1.2 u (aT.mpr N);simp only[au,decide_eq_true_eq]at t;exact⟨t.1.2,t.2⟩
theorem LP(h:fq a b d)(B:∀i j,i<10->j<10->(ps i<=ps j↔i<=j)){v u:Nat}(D:v<5)(N:u<5):(decide (ps (OI a b d v)<=ps (OI a b d u))&&decide (ps (OI a b d u)<=ps (MI a b d v)))=sA a b d v u:=by refine cA (LQ h D N) ?_;rewrite[decide_eq_decide.mpr (B _ _ (AG h D).1 (AG h N).1),decide_eq_decide.mpr (B _ _ (AG h N).1 (AG h D).2)];rfl
theorem Ha(h:fq a b d)(B:∀i j,i<10->j<10->(ps i<=ps j↔i<=j)){v u:Nat}(D:v<5)(N:u<5):(decide (ps (OI a b d v)<ps (OI a b d u))&&decide (ps (OI a b d u)<=ps (MI a b d v)))=(sA a b d v u&&v !=u):=by
 refine cA (Hb h D N) ?_;rewrite[decide_eq_decide.mpr (B _ _ (AG h N).1 (AG h D).2)];have e:ps (OI a b d v)<ps (OI a b d u)↔OI a b d v<OI a b d u:=by rw[<-jE,<-jE,B _ _ (AG h N).1 (AG h D).1]
 rw[decide_eq_decide.mpr e]
theorem vk{C:dC}{i j x:Nat}{g:Nat->AV}(hi:i<29)(Q:j<29)(J:f i=.lst (cE g))(U:f j=nI x)(F:x<5):ev C st (.sub (.a i) (.a j)) (LF f)=some (g x):=
 dB (fu hi J rfl) (fu Q U rfl) (jd F)
noncomputable def Yk:CE:=.D (.y (.sub (.a 19) (.a 20)) (.bX 20) (.j [(.d 5)]) (.B .LtE .LtE (.sub (.a 11) (.a 22)) (.sub (.a 11) (.a 20)) (.sub (.a 12) (.a 22))))
theorem W7(h:fq a b d)(P:kr ps a b d w cs f){v:Nat}(D:v<5)(A:f 22=nI v):ev (BK k) st Yk (LF f)=some (.int (Wt (sA a b d) w v)):=by
 refine vf (c:=λu=>sA a b d v u) (w:=w) (yy (by decide) (λu N=>?_) λu N=>?_)
 ·have m:=P.upd (nI u) (.inl rfl);exact cA (LP h P.mono D N)<|Sk (vk (g:=λi=>nI (ps (OI a b d i))) (by decide) (by decide) m.QQ A D) (vk (g:=λi=>nI (ps (OI a b d i))) (by decide) (by decide) m.QQ eW N) (vk (g:=λi=>nI (ps (MI a b d i))) (by decide) (by decide) m.ML A D)
 ·exact vk (by decide) (by decide) (P.upd (nI u) (.inl rfl)).Sm eW N
noncomputable def lH(w:Nat->Int)(a b d v:Nat):Nat:=kX (Wt (sA a b d) w v) (j9 w)
noncomputable def bH:List CS:= [.cI (.bX 23) Yk,.app 21 (.call 20 [(.a 23),(.D (.a 19)),(.sub (.a 1) (.d 10))])]
theorem AM{c:Bool}{x:Int}(h:0<=x):0<=iw c x/\iw c x<=x:=by
 rcases c with⟨⟩
 ·exact⟨g9 _,h⟩
 ·exact⟨h,g9 _⟩
theorem Qn(Y:Fw w)(s:Nat->Nat->Bool)(v:Nat):0<=Wt s w v/\Wt s w v<=j9 w:=by
 have A:0<=w 0:=by have:=Y.w0;exact aF this
 have q0:=AM (c:=s v 0) A;have t:=AM (c:=s v 1) Y.w1;have V:=AM (c:=s v 2) Y.w2;have j:=AM (c:=s v 3) Y.w3;have L:=AM (c:=s v 4) Y.w4
 exact⟨gO (gO (gO (gO q0.1 t.1) V.1) j.1) L.1,eF (eF (eF (eF q0.2 t.2) V.2) j.2) L.2⟩
theorem WX(h:fq a b d)(Y:Fw w)(hW:j9 w<2^110)(V:cs.length=11)(P:kr ps a b d w cs f)(F:f 21=.ref 0){v:Nat}(D:v<5)(A:f 22=nI v){l:List AV}(X:l.length<=10):
 dh (BK (k+9)) bH (LF f) [some l]=some (.next,LF (kN f 23 (.int (Wt (sA a b d) w v))),[some (l++ [nI (lH w a b d v)])]):=by
 refine aO (gw (W7 h P D A) (ec (by decide))) ?_;have m:=P.upd (.int (Wt (sA a b d) w v)) (.inr (.inr (.inr (.inl rfl))));generalize H:kN f 23 (.int (Wt (sA a b d) w v))=g at*;have B:ev (BK (k+9)) [some l] (.a 23) (LF g)=some (.int (Wt (sA a b d) w v)):=fu (by decide) (cA H<|eW) rfl;have E:ev (BK (k+9)) [some l] (.D (.a 19)) (LF g)=some (.int (j9 w)):=(vf (C:=BK (k+9)) (st:= [some l]) (loc:=LF g) (e:=.a 19) (c:=λz=>true) (w:=w) (fu (by decide) m.Sm rfl));have I:ev (BK (k+9)) [some l] (.sub (.a 1) (.d 10)) (LF g)=some (.int (cs[10]'(by lia))):=
  dB (fu (by decide) m.f1 rfl) rfl (pe (i:=10) (by lia) (by refine ab V ?_;decide));clear m
 have N:=SE k (w:=Wt (sA a b d) w v) (W:=j9 w) (g:=cs[10]'(by lia)) (Qn Y (sA a b d) v).1 (Qn Y (sA a b d) v).2 (zP h Y) hW;have G:(AV.int (if 2*Wt (sA a b d) w v<j9 w then 0 else if 2*Wt (sA a b d) w v=j9 w then 1 else 2))=nI (lH w a b d v):=by
  unfold lH kX nI;split
  ·rfl
  ·split<;>rfl
 simp only[G]at N;exact aO (jK (n:=0) (l:=l) (eP (C:=BK (k+9)) (st:= [some l]) (loc:=LF g) (f:=20) (l:= [(.a 23),(.D (.a 19)),(.sub (.a 1) (.d 10))]) (vs:= [.int (Wt (sA a b d) w v),.int (j9 w),.int (cs[10]'(by lia))]) (by simp only[af,(id jW),B,E,I,aj,af,aJ]) rfl N) (fu (by decide) (cA H<|F) rfl) rfl (by simp[cB];lia)) rfl
noncomputable def bT:List CS:= [.ite (.band [(.cmp .Gt (.sub (.a 21) (.a 22)) (.d 0)),(.cmp .Eq (.y (.a 20) (.bX 20) (.j [(.d 5)]) (.band [(.B .Lt .LtE (.sub (.a 11) (.a 22)) (.sub (.a 11) (.a 20)) (.sub (.a 12) (.a 22))),(.cmp .Eq (.sub (.a 21) (.a 20)) (.d 2))])) (.list []))])
 [.app 24 (.a 22)]
 []]
theorem Si{c:Nat->Bool}{g:Nat->AV}:qr st (.lst (A8 c g)) (.lst [])=some (jG λu=> !c u):=by show D0 (A8 c g) []=some (!c 0&& !c 1&& !c 2&& !c 3&& !c 4);delta A8;cases c 0<;>cases c 1<;>cases c 2<;>cases c 3<;>cases c 4<;>rfl
theorem WY(h:fq a b d){H:Nat->Nat}(P:kr ps a b d w cs f)(F:f 21=.lst (cE λv=>nI (H v)))(E:f 24=.ref 1){v:Nat}(D:v<5)(A:f 22=nI v){l:List AV}(X:l.length<=10):
 dh (BK k) bT (LF f) [none,some l]=some (.next,LF f,[none,some (l++if jY (sA a b d) H v then[nI v]else[])]):=by
 have B:=yy (C:=BK k) (st:= [none,some l]) (f:=f) (i:=20) (e:=.a 20) (t:=.band [(.B .Lt .LtE (.sub (.a 11) (.a 22)) (.sub (.a 11) (.a 20)) (.sub (.a 12) (.a 22))),(.cmp .Eq (.sub (.a 21) (.a 20)) (.d 2))]) (c:=λu=>(sA a b d v u&&v !=u)&&(H u==2)) (g:=nI) (by decide) (λu N=>by
  refine cA (Ha h P.mono D N)<|Aq (NN (vk (g:=λi=>nI (ps (OI a b d i))) (by decide) (by decide) (P.upd (nI u) (.inl rfl)).QQ A D) (vk (g:=λi=>nI (ps (OI a b d i))) (by decide) (by decide) (P.upd (nI u) (.inl rfl)).QQ eW N) (vk (g:=λi=>nI (ps (MI a b d i))) (by decide) (by decide) (P.upd (nI u) (.inl rfl)).ML A D)) (cc (y:=.int 2) (vk (g:=λi=>nI (H i)) (by decide) (by decide) F eW N) rfl ?_);show some ((H u:Int)==2)=_;congr 1;lia) (λu N=>fu (by decide) eW rfl)
 have I:ev (BK k) [none,some l] (.cmp .Gt (.sub (.a 21) (.a 22)) (.d 0)) (LF f)=some (.bool (BY 0 (H v))):=cc (y:=.int 0) (vk (g:=λi=>nI (H i)) (by decide) (by decide) F A D) rfl (by show some (decide ((0:Int)< (H v:Int)))=_;congr 1;rewrite[lG];exact ab decide_eq_true_eq<|ab Xw<|Int.natCast_pos)
 refine aO (eu (r:=jY (sA a b d) H v) (Aq I (cc (op:=.Eq) (e:=.list []) (y:=.lst []) B rfl Si)) rfl ?_) rfl;by_cases S:jY (sA a b d) H v=true
 ·exact ab S<|bp (if_pos rfl)<|ab (if_pos rfl)<|aO (jK (n:=1) (l:=l) (fu (by decide) A rfl) (fu (by decide) E rfl) rfl (by simp[cB];lia)) rfl
 ·have S:jY (sA a b d) H v=false:=by simpa using S
  refine ab S (bp (if_neg (by simp)) (ab (if_neg (by simp)) (ab (ik ..) ?_)));rfl
structure HE (ps:Nat->Nat) (a b d:Nat) (w:Nat->Int) (cs:List Int) (f:Nat->AV):Prop where
 e:kr ps a b d w cs f
 r:f 21=.ref 0
structure TE (ps:Nat->Nat) (a b d:Nat) (w:Nat->Int) (cs:List Int) (H:Nat->Nat) (f:Nat->AV):Prop where
 e:kr ps a b d w cs f
 h:f 21=.lst (cE λv=>nI (H v))
 r:f 24=.ref 1
noncomputable def fH(a b d:Nat)(w:Nat->Int)(f:Nat->AV)(v:Nat):Nat->AV:=kN (kN f 22 (nI v)) 23 (.int (Wt (sA a b d) w v))
noncomputable def fT(f:Nat->AV)(v:Nat):Nat->AV:=kN f 22 (nI v)
theorem xa{i v:Nat}(U:i≠22)(Z:i≠23):fH a b d w f v i=f i:=by delta fH;exact ab (iI Z) (ab (iI U) rfl)
theorem HE.step(h:HE ps a b d w cs f)(v:Nat):HE ps a b d w cs (fH a b d w f v):=
 ⟨(h.e.upd _ (.inr (.inr (.inl rfl)))).upd _ (.inr (.inr (.inr (.inl rfl)))),ab (xa (by decide) (by decide))<|h.r⟩
theorem TE.step{H:Nat->Nat}(h:TE ps a b d w cs H f)(v:Nat):TE ps a b d w cs H (fT f v):=
 ⟨h.e.upd _ (.inr (.inr (.inl rfl))),h.h,h.r⟩
theorem Y9(h:fq a b d)(Y:Fw w)(hW:j9 w<2^110)(V:cs.length=11)(P:HE ps a b d w cs f){v:Nat}(D:v<5){l:List AV}(X:l.length<=10){L:List AV}:
 iP (.bX 22) (λloc st=>dh (BK (k+9)) bH loc st) (nI v::L) (LF f) [some l]=iP (.bX 22) (λloc st=>dh (BK (k+9)) bH loc st) L (LF (fH a b d w f v)) [some (l++ [nI (lH w a b d v)])]:=
 bf (ec (by decide)) (WX h Y hW V (P.e.upd _ (.inr (.inr (.inl rfl)))) P.r D eW X) rfl
theorem Za(h:fq a b d){H:Nat->Nat}(P:TE ps a b d w cs H f){v:Nat}(D:v<5){l:List AV}(X:l.length<=10){L:List AV}:
 iP (.bX 22) (λloc st=>dh (BK k) bT loc st) (nI v::L) (LF f) [none,some l]=iP (.bX 22) (λloc st=>dh (BK k) bT loc st) L (LF (fT f v)) [none,some (l++if jY (sA a b d) H v then[nI v]else[])]:=
 bf (ec (by decide)) (WY h (P.e.upd _ (.inr (.inr (.inl rfl)))) P.h P.r D eW X) rfl
theorem N6{c:Bool}{x:AV}:(if c then[x]else[]).length<=1:=by rcases c with⟨⟩<;>exact cj.mp rfl
theorem XT{H:Nat->Nat}(o:∀v,v<5->H v<=2):fk st .In (.int 9) (.lst (cE λv=>nI (H v)))=some false:=by
 have e:=yF 9 [H 0,H 1,H 2,H 3,H 4];have e2:fk st .In (.int 9) (.lst (cE λv=>nI (H v)))=CH (nI 9) (bq [H 0,H 1,H 2,H 3,H 4]):=rfl;refine ab e2 (ab e ?_);rw[decide_eq_false];intro T;have q0:=o 0 (by decide);have t:=o 1 (by decide);have V:=o 2 (by decide);have j:=o 3 (by decide);have L:=o 4 (by decide)
 simp only[aS,dy,or_false]at T;lia
theorem qw{g g':Nat->AV}(h:∀v,v<5->g v=g' v):cE g=cE g':=by delta cE;exact ab (h 0 (by decide)) (ab (h 1 (by decide)) (ab (h 2 (by decide)) (ab (h 3 (by decide)) (ab (h 4 (by decide)) rfl))))
theorem U4(v:Nat):HH (sA a b d) w v<=2:=by
 have q:∀t W,kX t W<=2:=λt W=>by
  delta kX;split
  ·decide
  ·split<;>decide
 show Hf _ _ _ _ v<=2;rcases v with _|_|_|_|v
 ·exact aV 2
 all_goals exact q _ _
noncomputable def nh(a b d:Nat)(w:Nat->Int):List Nat:=jM (jY (sA a b d) (HH (sA a b d) w))
theorem JK(G:Nat->Bool):((((([]++if G 0 then[nI 0]else[])++if G 1 then[nI 1]else[])++if G 2 then[nI 2]else[])++if G 3 then[nI 3]else[])++if G 4 then[nI 4]else[])=bq (jM G):=by delta jM;cases G 0<;>cases G 1<;>cases G 2<;>cases G 3<;>cases G 4<;>rfl
theorem V5(h:fq a b d)(Y:Fw w)(hW:j9 w<2^110)(V:cs.length=11)(P:kr ps a b d w cs f):∃o,(∀i,i≠21->i≠22->i≠23->i≠24->o i=f i)/\o 24=.lst (bq (nh a b d w))/\∀(l:List CS) (v:AV),eC (BK (k+9)) l (LF o) [none,none] v->
 eC (BK (k+9)) (.new 21 (.list []):: .m (.bX 22) (.j [(.d 5)]) bH:: .v 21:: .ite (.cmp .In (.d 9) (.a 21)) [.ret (.u false)] []:: .new 24 (.list []):: .m (.bX 22) (.j [(.d 5)]) bT:: .v 24::l) (LF f) [] v:=by
 let H:=HH (sA a b d) w;let F:=kN f 21 (.ref 0);let g5:=fH a b d w (fH a b d w (fH a b d w (fH a b d w (fH a b d w F 0) 1) 2) 3) 4;let N:=kN g5 21 (.lst (cE λv=>nI (H v)));let t:=kN N 24 (.ref 1);let E:=fT (fT (fT (fT (fT t 0) 1) 2) 3) 4;let J:=kN E 24 (.lst (bq (nh a b d w)));have K:HE ps a b d w cs F:=⟨P.upd _ (.inr (.inl rfl)),eW⟩;have W:=K.step 0;have g:=W.step 1;have O:=g.step 2;have R:=O.step 3;have Z:=R.step 4;have A:∀i,i≠21->i≠22->i≠23->g5 i=f i:=λi u n2 M=>by
  show fH a b d w (fH a b d w (fH a b d w (fH a b d w (fH a b d w F 0) 1) 2) 3) 4 i=_;exact ab (xa n2 M)<|ab (xa n2 M)<|ab (xa n2 M)<|ab (xa n2 M)<|ab (xa n2 M)<|iI u
 have j:TE ps a b d w cs H t:=⟨(Z.e.upd _ (.inr (.inl rfl))).upd _ (.inr (.inr (.inr (.inr rfl)))),(iI (f:=N) (by decide)).trans eW,eW⟩;have m:=j.step 0;have p:=m.step 1;have q:=p.step 2;have r:=q.step 3;have te5:=r.step 4;refine⟨J,λi u n2 M B=>?_,eW,λl v X=>?_⟩
 ·show kN (fT (fT (fT (fT (fT t 0) 1) 2) 3) 4) 24 _ i=_;refine ab (iI B) ?_;delta fT;refine ab (iI n2) (ab (iI n2) (ab (iI n2) (ab (iI n2) (ab (iI n2) ?_))));show kN (kN g5 21 _) 24 _ i=_;exact ab (iI B)<|ab (iI u)<|A i u n2 M
 refine .next (iO (l:= []) (loc':=LF F) rfl rfl (ec (by decide))) ?_;have T:=λ(f:Nat->AV) (P:HE ps a b d w cs f) (v:Nat) (D:v<5) (l L:List AV) (X:l.length<=10)=>Y9 (k:=k) h Y hW V P D X (L:=L);refine .sy (a:=.lst [nI 0,nI 1,nI 2,nI 3,nI 4]) (L:= [nI 0,nI 1,nI 2,nI 3,nI 4]) (loc':=LF g5) (st':= [some (cE λv=>nI (lH w a b d v))]) rfl rfl
  ((T _ K 0 (by decide) _ _ (cj.mp rfl)).trans ((T _ W 1 (by decide) _ _ (by simp)).trans ((T _ g 2 (by decide) _ _ (by simp)).trans ((T _ O 3 (by decide) _ _ (by simp)).trans ((T _ R 4 (by decide) _ _ (by simp)).trans rfl))))) ?_
 have ef:(cE λv=>nI (lH w a b d v))=cE λv=>nI (H v):=qw λv D=>by
  show nI _=nI (HH (sA a b d) w v);refine ab (DJ h Y D) ?_;rfl
 refine ab ef<|.next (ji (n:=0) (l:=cE λv=>nI (H v)) (l':=cE λv=>nI (H v)) (st':= [none]) (fu (by decide) Z.r rfl) rfl rfl (ec (by decide)))<|.jo (cc (x:=.int 9) (y:=.lst (cE λv=>nI (H v))) rfl (fu (by decide) (f:=N) eW rfl) (XT λv z=>U4 v))<|.next (iO (l:= []) (loc':=LF t) rfl rfl (ec (by decide))) ?_;have U:=λ(f:Nat->AV) (P:TE ps a b d w cs H f) (v:Nat) (D:v<5) (l L:List AV) (X:l.length<=10)=>Za (k:=k+9) h P D X (L:=L);have e1:∀(c:Bool) (x:AV) (l:List AV) (n:Nat),l.length<=n->(l++if c then[x]else[]).length<=n+1:=λc x l n Q=>by
  refine ab cK ?_;have:=N6 (c:=c) (x:=x);exact iY Q this
 let G:=jY (sA a b d) H;have I:([]:List AV).length<=0:=aV _;have z1:=e1 (G 0) (nI 0) _ _ I;have C:=e1 (G 1) (nI 1) _ _ z1;have S:=e1 (G 2) (nI 2) _ _ C;have s:=e1 (G 3) (nI 3) _ _ S;refine .sy (a:=.lst [nI 0,nI 1,nI 2,nI 3,nI 4]) (L:= [nI 0,nI 1,nI 2,nI 3,nI 4]) (loc':=LF E) (st':= [none,some (bq (nh a b d w))]) rfl rfl
  ((U _ j 0 (by decide) _ _ (by decide)).trans ((U _ m 1 (by decide) _ _ (aP z1 (by decide))).trans ((U _ p 2 (by decide) _ _ (aP C (by decide))).trans ((U _ q 3 (by decide) _ _ (aP S (by decide))).trans ((U _ r 4 (by decide) _ _ (aP s (by decide))).trans ?_))))) ?_
 ·have e:=JK G;show some (Fl.next,LF E,[none,some ((((([]++if G 0 then[nI 0]else[])++if G 1 then[nI 1]else[])++if G 2 then[nI 2]else[])++if G 3 then[nI 3]else[])++if G 4 then[nI 4]else[])])=_;refine ab e ?_;rfl
 refine .next (ji (n:=1) (l:=bq (nh a b d w)) (l':=bq (nh a b d w)) (st':= [none,none]) (loc':=LF J) (fu (by decide) te5.r rfl) rfl (iD _ (iH _)) (ec (by decide))) X
end
noncomputable def Wu:Nat->List Nat->List Nat
 |_,[]=> []
 |n+1,_::r=>Wu n r
 |0,c::r=>if(c::r).take 5=qq then Wu 4 r else c::Wu 0 r
noncomputable def rp(l:List Nat):List Nat:=Wu 0 l
theorem Bg:∀(n:Nat) (l:List Nat),Wu n l=rp (l.drop n)
 |0,_=>rfl
 |_+1,[]=>rfl
 |n+1,_::r=>Bg n r
theorem Lf:rp []= []:=rfl
theorem yZ{c:Nat}{r:List Nat}(h:(c::r).take 5≠qq):rp (c::r)=c::rp r:=if_neg h
theorem Le{l:List Nat}(h:l.take 5=qq):rp l=rp (l.drop 5):=by
 rcases l with _|⟨c,r⟩
 ·injection h
 ·exact(if_pos h).trans (Bg 4 r)
theorem EG:∀(n:Nat) (l:List Nat),(∀k,k<n->(l.drop k).take 5≠qq)->rp l=l.take n++rp (l.drop n):=by
 intro G
 induction G with
 |zero=>
  exactλl z=>rfl
 |succ n P=>
  intro H h;rcases H with _|⟨c,r⟩
  ·rfl
  ·simp only[yZ (h 0 (MY n)),List.take_succ_cons,List.drop_succ_cons,da,P r λk I=>h (k+1) (Fh I 1)]
theorem IH{x:bj}{k:Nat}:UP x (strOf qq) x.length k↔(x.cps.toList.drop k).take 5=qq:=by
 have X:(strOf qq).length=5:=rfl;have Q:x.cps.toList.length=x.length:=by rfl
 delta UP;refine ab (StrLaws.subAt_eq ..) (ab X ?_);constructor
 ·exactλh=>eq_of_beq h.2
 ·refineλh=>⟨?_,beq_iff_eq.mpr h⟩;have:=congrArg dp h;rw[br,bB,Q]at this;have O:qq.length=5:=rfl;lia
theorem OB(x:bj):∀(B:List Nat) (a f:Nat),StrLaws.ChainG x (strOf qq) x.length a B f->(∀k,f<=k->¬UP x (strOf qq) x.length k)->(xW ⟨#[]⟩ (Xh x 5 a B)).cps.toList=rp (x.cps.toList.drop a):=by
 intro G
 induction G with
 |nil=>
  intro a f h Q;subst h;have X:x.cps.toList.length=x.length:=by rfl
  exact ab (Qi ..) (ab (EG (x.cps.toList.drop f).length _ (λk z=>ab dJ<|λq=>Q (f+k) (ja f k) (IH.mpr q))) (ab oe (ab Lf (ab (ik ..) (ab bB (ab X rfl))))))
 |cons c r A=>
  refineλa f h Q=>ej (StrLaws.partsFrom_ne x 5 (c+5) r) λp q e=>?_;have R:=A (c+5) f h.2.2.2 Q;show(xW ⟨#[]⟩ (wm x a c::Xh x 5 (c+5) r)).cps.toList=_;rw[e]at R⊢;show(wm x a c++⟨#[]⟩++xW ⟨#[]⟩ (p::q)).cps.toList=_;refine ab (EG (c-a) _ (λk I=>ab dJ<|λq=>h.2.2.1 (a+k) (ja a k) (Nat.add_lt_of_lt_sub' I) (IH.mpr q))) (ab dJ (ab (show a+(c-a)=c by exact tQ h.1) (ab (Le (IH.mp h.2.1)) (ab dJ (cA R ?_)))));simp only[bj.cps_append,Array.toList_append,Qi];simp
theorem OZ(x:List Nat):tw x qq []=rp x:=by
 refine aC (StrLaws.occ_tight (strOf x) (strOf qq) (by decide)) λf D Q=>?_;have F:(strOf x).cps.toList=x:=by rfl
 have Z:=OB (strOf x) _ 0 f D Q;unfold tw Txt.replace;rcases ho:qb (strOf x) (strOf qq) 0 (strOf x).length ((strOf x).length+1)with _|⟨c,r⟩
 ·rw[ho]at Z;refine ab (if_pos (show([]:List Nat).isEmpty=true from rfl)) (ab F (cA Z ?_));show x=(wm (strOf x) 0 (strOf x).length).cps.toList;exact ab (StrLaws.sub_whole (strOf x)) (ab F rfl)
 ·rw[ho]at Z;exact ab (if_neg (ne_true_of_eq_false rfl))<|ab (Qh ..)<|ab (StrLaws.partsBetween_eq ..)<|Z
def DI(b:lA):Prop:=(b.1=true/\∀x∈b.2,x≠34/\x≠92)\/(b.1=false/\∃i,b.2=JJ i)
theorem nS{c:Nat}{r:List Nat}(h:c≠34):rp (c::r)=c::rp r:=yZ λq=>h (by have:=congrArg List.head? q;simpa[qq]using this)
theorem Lg:∀{t r:List Nat},(∀x∈t,x≠34/\x≠92)->rp (t++r)=t++rp r:=by
 intro G
 induction G with
 |nil=>
  intro r z;exact rfl
 |cons c t P=>
  intro r h;exact ab da (ab (nS (h c aH).1) (ab (P λx F=>h x (ax _ F)) (ab da rfl)))
theorem Ld:∀{bs:List lA},(∀b∈bs,DI b)->(34::aR bs).take 5≠qq:=by
 intro G
 induction G with
 |nil=>
  exactλz=>ib (not_eq_of_beq_eq_false rfl)
 |cons C bs P=>
  rcases C with⟨k,t⟩;intro h;have O:=h _ aH;clear h;simp only[dj];refineλq=>ak O (λH=>aN H λJ U=>?_) λg=>aN g λJ z=>?_;clear H;clear O
  ·have J:k=true:=J;subst J;rcases t with _|⟨c,t⟩
   ·rcases bs with _|⟨b,bs⟩
    ·exact absurd q (by decide)
    ·rw[dj]at q;have:=(yh b.1).1;simp[qq,pR]at q this;exact this q.1
   ·have:=(U c aH).2;simp[qq,pR]at q;exact this q.1
  ·have J:k=false:=J;subst J;simp[qq,pR]at q
theorem F2(i:Nat):JJ i= []\/JJ i= [92,41]\/JJ i=qq\/JJ i= [92,92]\/JJ i= [92,34]:=by
 rcases i with _|_|_|_|i
 ·exact .inl rfl
 ·exact .inr (.inl rfl)
 ·exact .inr (.inr (.inl rfl))
 ·exact .inr (.inr (.inr (.inl rfl)))
 ·exact .inr (.inr (.inr (.inr rfl)))
theorem O1:∀{bs:List lA},(∀b∈bs,DI b)->rp (aR bs)=aR (eV bs):=by
 intro G
 induction G with
 |nil=>
  exactλz=>Lf
 |cons C bs P=>
  rcases C with⟨k,t⟩;intro h;have O:=h _ aH;have U:∀b∈bs,DI b:=λb O=>h b (ax _ O);clear h;have e:eV ((k,t)::bs)=(k,wG t)::eV bs:=rfl;simp only[e,dj,dj,nS (yh k).2,<-(P U)];congr 1;have A:(∀x∈t,x≠34/\x≠92)->rp (t++aR bs)=wG t++rp (aR bs):=λB=>by
   have L:t≠qq:=λe=>by subst e;exact(B 34 (dQ rfl)).1 rfl
   delta wG;exact ab (if_neg L)<|Lg B
  rcases O with⟨_,B⟩|⟨_,i,hi⟩
  ·exact A B
  ·have hi:t=JJ i:=hi;refine ak (F2 i) (λe=>?_) λH=>ak H (λe=>?_) λg=>ak g (λe=>?_) λT=>ak T (λe=>?_) λe=>?_<;>simp only[e]at hi<;>subst hi
   ·exact A (λx F=>nomatch F)
   ·show rp (92::41::aR bs)= [92,41]++rp (aR bs);refine ab (nS (by decide)) (ab (nS (by decide)) ?_);rfl
   ·refine bp (Le (List.take_left (l₁:=qq))) (ab (show wG qq= []from rfl) ?_);congr 1
   ·show rp (92::92::aR bs)= [92,92]++rp (aR bs);refine ab (nS (by decide)) (ab (nS (by decide)) ?_);rfl
   ·show rp (92::34::aR bs)= [92,34]++rp (aR bs);refine ab (nS (by decide)) (ab (yZ (Ld U)) ?_);rfl
theorem Hh:∀(bs M:List lA),(kY true M.length (bs.map (·.1))).map (λi=>AV.str (((M++bs)[i]?).getD (true,[])).2)=(bs.filter (·.1)).map λb=>.str b.2:=by
 intro G
 induction G with
 |nil=>
  exactλM=>rfl
 |cons C bs A=>
  rcases C with⟨k,t⟩;intro M;have R:=A (M++ [(k,t)]);rw[cK,pN,tK]at R;have R:(kY true (M.length+1) (bs.map (·.1))).map (λi=>AV.str (((M++(k,t)::bs)[i]?).getD (true,[])).2)=(bs.filter (·.1)).map λb=>.str b.2:=R;rcases k with⟨⟩
  ·show(kY true (M.length+1) (bs.map (·.1))).map _=_;refine ab R ?_;rfl
  ·show _::(kY true (M.length+1) (bs.map (·.1))).map _=_;refine ab R ?_;show AV.str (((M++(true,t)::bs)[M.length]?).getD (true,[])).2::_=_;refine ab (bG (aV _)) (ab (oC ..) ?_);rfl
theorem LV(bs:List lA):(kY true 0 (bs.map (·.1))).map (λi=>AV.str ((bs[i]?).getD (true,[])).2)=(bs.filter (·.1)).map λb=>.str b.2:=Hh bs []
theorem uO:∀(n:Nat) (g:Int),∀b∈cl n g,b.1=false/\∃i,b.2=JJ i:=by
 intro G
 induction G with
 |zero=>
  exactλg b h=>absurd h dy
 |succ n R=>
  intro g b h;rw[RZ.2]at h;refine ak (aS.mp h) (λH=>?_) λh=>?_;subst H
  ·exact⟨rfl,_,rfl⟩
  ·exact R _ b h
theorem pv(n:Nat)(g:Int):(eV (cl n g)).filter (·.1)= []:=by rw[ow];intro b O;delta eV at O;refine aC (dZ.mp O) λc V o1=>?_;subst o1;simp[(uO n g c V).1]
section
variable{a b d:Nat}{m0 m1 m2 m3:List Nat}{g:Int}
def uG(m:List Nat):Prop:=∀x∈m,x≠92/\x≠34/\x≠40/\x≠41
theorem AO{q:lA->Prop}(Y:q (true,[]))(h:∀m,m=m0\/m=m1\/m=m2\/m=m3->q (true,m))(V:∀n g,∀c∈cl n g,q c):∀c∈iG a b d m0 m1 m2 m3 g,q c:=by
 intro c R;delta iG at R;simp only[aS,dw]at R;refine ak R (λH=>?_) λG=>ak G (λT=>?_) λN=>ak N (λe=>?_) λI=>ak I (λK=>?_) λF=>ak F (λe=>?_) λA=>ak A (λE=>?_) λB=>ak B (λe=>?_) λC=>ak C (λD=>?_) λe=>?_;subst H;rotate_left;subst T;rotate_left 2;subst K;rotate_left 2;subst E;rotate_left 2;subst D;rotate_right 7
 ·exact Y
 ·exact h _ (.inl rfl)
 ·exact V _ _ c e
 ·exact h _ (.inr (.inl rfl))
 ·exact V _ _ c e
 ·exact h _ (.inr (.inr (.inl rfl)))
 ·exact V _ _ c e
 ·exact h _ (.inr (.inr (.inr rfl)))
 ·exact V _ _ c e
theorem Gp(h:∀m,m=m0\/m=m1\/m=m2\/m=m3->uG m):∀c∈iG a b d m0 m1 m2 m3 g,DI c:=
 AO (.inl ⟨rfl,λx F=>nomatch F⟩) (λm T=>.inl ⟨rfl,λx F=>⟨(h m T x F).2.1,(h m T x F).1⟩⟩) λn g c V=>.inr (uO n g c V)
theorem Gq(h:∀m,m=m0\/m=m1\/m=m2\/m=m3->uG m):∀c∈iG a b d m0 m1 m2 m3 g,mK c.2:=
 AO (q:=λc=>mK c.2) (.inl iQ) (λm T=>.inl (K4 (h m T))) λn g c V=>by
  obtain⟨_,i,e⟩:=uO n g c V;exact ab e<|So i
theorem pA{m:List Nat}(h:uG m):wG m=m:=by delta wG;rw[if_neg];intro e;subst e;exact(h 34 (dQ rfl)).2.1 rfl
theorem CU(h:∀m,m=m0\/m=m1\/m=m2\/m=m3->uG m):((eV (iG a b d m0 m1 m2 m3 g)).filter (·.1)).map (λb=>AV.str b.2)= [.str [],.str m0,.str m1,.str m2,.str m3]:=by have e:∀x y:List lA,eV (x++y)=eV x++eV y:=λx y=>ed;have e1:∀(k:Bool) (t:List Nat) (y:List lA),eV ((k,t)::y)=(k,wG t)::eV y:=λk t y=>rfl;have e2:∀(t:List Nat) (y:List lA),Xf (λx:lA=>x.1) ((true,t)::y)=(true,t)::Xf (λx:lA=>x.1) y:=λt y=>rfl;delta iG;refine ab (e1 ..) (ab (e1 ..) (ab (e ..) (ab (e1 ..) (ab (e ..) (ab (e1 ..) (ab (e ..) (ab (e1 ..) (ab (e2 ..) (ab (e2 ..) (ab (r8 ..) (ab (pv ..) (ab (jC ..) (ab (e2 ..) (ab (r8 ..) (ab (pv ..) (ab (jC ..) (ab (e2 ..) (ab (r8 ..) (ab (pv ..) (ab (jC ..) (ab (e2 ..) (ab (pv ..) (ab (pA (h m0 (.inl rfl))) (ab (pA (h m1 (.inr (.inl rfl)))) (ab (pA (h m2 (.inr (.inr (.inl rfl))))) (ab (pA (h m3 (.inr (.inr (.inr rfl))))) ?_))))))))))))))))))))))))));rfl
end
structure YZ (a b d:Nat):Prop where
 len:(KS a b d).length=10
 Y1:yg (KS a b d)=true
 XY:yg ((KS a b d).drop 1++ [true])=false
 opens:kY true 0 (KS a b d)= [OI a b d 0,OI a b d 1,OI a b d 2,OI a b d 3,OI a b d 4]
 last:∀i∈kY true 0 (KS a b d),i+1<10
 KC:∀u,u<5->kC (KS a b d) (OI a b d u) (kY false 0 (KS a b d))=some (MI a b d u)
theorem Zi{a b d:Nat}(h:fq a b d):YZ a b d:=by
 have q:=za h;simp only[UB,au,beq_iff_eq,fv]at q;refine aN q λr z=>?_;rcases r with⟨⟨⟨⟨⟨⟨⟨t,V⟩,j⟩,L⟩,R⟩,F⟩,_⟩,_⟩;refine⟨t,V,j,L,λi hi=>?_,λu N=>?_⟩
 ·have:=aq.mp R i hi;simpa using this
 ·have:=aq.mp F u (aT.mpr N);simp only[au,beq_iff_eq]at this;exact this.1.1
structure XE (k:Nat) (a b d:Nat) (m0 m1 m2 m3:List Nat) (x y:List Nat) (ps:Nat->Nat):Prop where
 cz:(BK (k+4)).O 10 [.str x]=some (.bool true)
 XY:(BK (k+4)).O 10 [.str (x.drop 1++x.take 1)]=some (.bool false)
 strip:(BK (k+4)).O 9 [.str x]=some (.str y)
 Z:tw x qq []=y
 read:(BK (k+4)).O 17 [.str y]=some (.tup [.lst (cE λi=>nI (ps (OI a b d i))),.lst (cE λi=>nI (ps (MI a b d i))),.lst [.str [],.str m0,.str m1,.str m2,.str m3]])
 mono:∀i j,i<10->j<10->(ps i<=ps j↔i<=j)
 ne:1<=x.length
theorem GV(k:Nat){a b d:Nat}{m0 m1 m2 m3:List Nat}{g:Int}(G:fq a b d)(h:∀m,m=m0\/m=m1\/m=m2\/m=m3->uG m)(X:(aR (iG a b d m0 m1 m2 m3 g)).length<=200):
 XE k a b d m0 m1 m2 m3 (aR (iG a b d m0 m1 m2 m3 g)) (aR (eV (iG a b d m0 m1 m2 m3 g))) (bt (eV (iG a b d m0 m1 m2 m3 g))):=by
 have F:=Zi G;have I:=CT a b d m0 m1 m2 m3 g;have S:=Gq (a:=a) (b:=b) (d:=d) (g:=g) h;have C:=Gp (a:=a) (b:=b) (d:=d) (g:=g) h;have T:=CU (a:=a) (b:=b) (d:=d) (g:=g) h;have E:∃r,iG a b d m0 m1 m2 m3 g=(true,[])::r:=⟨_,rfl⟩;generalize iG a b d m0 m1 m2 m3 g=bs at*;have B:bs.length=10:=by refine cA F.len (cA I (ab (aY ..) ?_));rfl
 have V:(aR bs).length<=cB:=aP X (by decide);have A:(eV bs).map (·.1)=KS a b d:=by refine ab (uT ..) (ab I ?_);rfl
 have P:(eV bs).length=10:=by rewrite[<-F.len,<-A,aY];rfl
 refine⟨?_,?_,LJ (k+2) bs S V (by lia),?_,?_,?_,?_⟩
 ·refine ab (yk (k+1) bs S V (by lia)) (ab I (ab F.Y1 ?_));rfl
 ·refine aI E λr e=>?_;have e1:(aR bs).drop 1++(aR bs).take 1=aR (r++ [(true,[])]):=by
   refine ab e (ab (iC ..) ?_);rfl
  have e2:(r++ [((true,[]):lA)]).map (·.1)=(KS a b d).drop 1++ [true]:=by refine cA I (ab e ?_);simp
  rewrite[e1,yk (k+1) (r++ [(true,[])]) ?_ ?_ ?_,e2,F.XY]
  ·rfl
  ·refineλc V=>ak (dw.mp V) (λq=>?_) λq=>?_
   ·exact S c (ab e<|ax _ q)
   ·exact ab (bS.mp q)<|.inl iQ
  ·refine cA e1 (ab cK (ab bB (ab br ?_)))
   (clear e2 e1 e P A B E T C S I X F h G;omega+splitDisjunctions)
  ·rw[e]at B;simp at B⊢;lia
 ·refine ab (OZ ..) (ab (O1 C) ?_);rfl
 ·have R:=TK k (eV bs) (uU S) (by have:=Ai bs;simp[cB]at V⊢;(clear P A V B E T C S I F h G;lia)) (by lia) (by refine ab A (ab P ?_);exact F.last);refine ab R (ab (LV ..) (ab T (ab A (ab F.opens ?_))));congr 3;have M:gU (eV bs) [OI a b d 0,OI a b d 1,OI a b d 2,OI a b d 3,OI a b d 4]= [bt (eV bs) (MI a b d 0),bt (eV bs) (MI a b d 1),bt (eV bs) (MI a b d 2),bt (eV bs) (MI a b d 3),bt (eV bs) (MI a b d 4)]:=by
   delta gU;refine ab A ?_;simp only[tM,List.flatMap_nil,F.KC 0 (by decide),F.KC 1 (by decide),F.KC 2 (by decide),F.KC 3 (by decide),F.KC 4 (by decide)];rfl
  refine ab M ?_;rfl
 ·exactλi j hi Q=>Ba (by lia) (by lia)
 ·refine aI E λr e=>ab e (ab (dj ..) ?_);simp
section
variable{P:Nat->iy}{ps:Nat->Nat}{a b d:Nat}{w:Nat->Int}
noncomputable def BN(P:Nat->iy):Nat->List Nat
 |0=> []
 |p+1=>(P p).mark
noncomputable def Eo(P:Nat->iy):Nat->List Nat
 |0=> []
 |p+1=> [(P p).L]
theorem OM(h:fq a b d)(B:∀i j,i<10->j<10->(ps i<=ps j↔i<=j)){s:Nat}(G:s<5):pS (λi=>ps (OI a b d i)) (λi=>ps (MI a b d i)) (BN P) (Eo P) s=yS P a b d s:=by
 have e:∀p,p<4->pc (λi=>ps (OI a b d i)) (λi=>ps (MI a b d i)) (BN P) (Eo P) s (p+1)=(P p).str (under a b d s p):=by intro p A;have q:=LP h B (show p+1<5 by exact Nat.add_lt_of_lt_sub A) G;unfold pc under iy.str;refine cA q ?_;simp only[au,decide_eq_true_eq];rfl
 unfold pS yS km;exact ab (e 0 (by decide)) (ab (e 1 (by decide)) (ab (e 2 (by decide)) (ab (e 3 (by decide)) rfl)))
theorem AX(k:Nat)(h:fq a b d)(B:∀i j,i<10->j<10->(ps i<=ps j↔i<=j)):(BK (k+1)).O 18 [.lst (cE λi=>nI (ps (OI a b d i))),.lst (cE λi=>nI (ps (MI a b d i))),.lst (cE λi=>.str (BN P i)),.lst (cE λi=>.str (Eo P i))]=some (lT P a b d):=by
 have J:∀p,p<5->(BN P p).length<=5:=by
  intro p z;rcases p with _|p
  ·exact bz _
  ·exact aP (oU (P p)).1 (by decide)
 have U:∀p,p<5->(Eo P p).length<=5:=by
  intro p z;rcases p with _|p
  ·exact bz _
  ·exact(by decide:1<=5)
 refine ab (OK k (O:=λi=>ps (OI a b d i)) (M:=λi=>ps (MI a b d i)) J U) ?_;delta lT;exact ab (qw λs G=>congrArg AV.str (OM h B G)) rfl
theorem GU{Q:iy}(h:Q.p0=0)(u v:Bool):Q.str u=Q.str v:=by
 have e:Q.mark= [Q.L]:=by
  delta iy.p0 at h;delta iy.mark;generalize Q.t=t at h⊢;rcases t with _|_|t
  ·rfl
  ·exact absurd h (oh 0)
  ·exact absurd h (oh 1)
 rcases u with⟨⟩<;>rcases v with⟨⟩<;>simp[iy.str,e]
theorem xq(m:qS P)(x y:Nat):yS P a b d x=yS P a b d y↔(jG λv=>sA a b d v x==sA a b d v y|| !yc (ot P) v)=true:=by
 have e:∀p,p<4->((sA a b d (p+1) x==sA a b d (p+1) y|| !(ot P p !=0))=true↔((if cond (fU a b d) y x (p+1)then ot P p else 0)=0)):=by refineλp z=>ab (qo ..) ?_;delta under;cases sA a b d (p+1) x<;>cases sA a b d (p+1) y<;>simp
 have S:(jG λv=>sA a b d v x==sA a b d v y|| !yc (ot P) v)=((sA a b d 1 x==sA a b d 1 y|| !(ot P 0 !=0))&&(sA a b d 2 x==sA a b d 2 y|| !(ot P 1 !=0))&&(sA a b d 3 x==sA a b d 3 y|| !(ot P 2 !=0))&&(sA a b d 4 x==sA a b d 4 y|| !(ot P 3 !=0))):=by have O:(sA a b d 0 x==sA a b d 0 y|| !yc (ot P) 0)=true:=rfl;delta jG;simp only[O,kW];rfl
 refine ab S ?_;simp only[au];rw[e 0 (by decide),e 1 (by decide),e 2 (by decide),e 3 (by decide)];constructor
 ·intro Q;have Y:DD P a b d x y=0:=by
   refine cA (Kt m ..) (ab Q ?_);delta yO;exact ab (if_pos rfl) rfl
  unfold DD mf at Y;simp only[Nat.add_eq_zero_iff]at Y;exact⟨⟨⟨Y.1,Y.2.1⟩,Y.2.2.1⟩,Y.2.2.2⟩
 ·refineλo1=>aN o1 λr Z=>aN r λH U=>aN H λY J=>?_;have es:∀p,p<4->(if cond (fU a b d) y x (p+1)then ot P p else 0)=0->(P p).str (under a b d x p)=(P p).str (under a b d y p):=by
   intro p z h;rw[qo]at h;by_cases N:under a b d x p=under a b d y p
   ·exact ab N rfl
   ·refine GU ?_ _ _;rw[if_pos]at h
    ·exact h
    ·cases J:under a b d x p<;>cases U:under a b d y p<;>rw[J,U]at N<;>first|rfl|exact absurd rfl N
  unfold yS km;exact ab (es 0 (by decide) Y) (ab (es 1 (by decide) J) (ab (es 2 (by decide) U) (ab (es 3 (by decide) Z) rfl)))
theorem N7(x:List Nat):∀l:List (List Nat),CH (.str x) (l.map .str)=some (decide (x∈l)):=by
 intro G
 induction G with
 |nil=>
  exact rfl
 |cons y l A=>
  have R:=A;simp only[bI,(id VJ),(id NJ),aj,af,R,aJ];congr 1;by_cases h:x=y
  ·subst h;simp
  ·have U:¬y=x:=λe=>h e.symm;simp[h,U]
theorem Ax(G:Nat->Bool):jM G=(aG 5).filter G:=by
 have k:∀(a:Nat) (t l:List Nat),l=t.filter G->(if G a then[a]else[])++l=(a::t).filter G:=λa t l e=>by
  refine ab e (ab MU ?_);rcases G a with _|_<;>rfl
 have z:(if G 4 then[4]else[])= [4].filter G:=by refine ab MU ?_;rfl
 exact k 0 [1,2,3,4] _ (k 1 [2,3,4] _ (k 2 [3,4] _ (k 3 [4] _ z)))
theorem sr{G:Nat->Bool}{y:Nat}:y∈jM G↔y<5/\G y=true:=by refine ab (Ax ..) ?_;rw[Qa,aT]
theorem F3(G:Nat->Bool):(jM G).length<=5:=ab (Ax ..)<|List.length_filter_le _ _
theorem GQ(G:Nat->Bool):A8 G nI=bq (jM G):=by unfold jM A8;cases G 0<;>cases G 1<;>cases G 2<;>cases G 3<;>cases G 4<;>rfl
noncomputable def RM:CE:=.y (.a 27) (.bX 27) (.j [(.d 5)]) (.cmp .In (.sub (.a 18) (.a 27)) (.comp (.sub (.a 18) (.a 22)) (.bX 22) (.a 24)))
theorem Ii{C:dC}{st:St}{f:Nat->AV}(m:qS P)(B:f 18=lT P a b d)(E:f 24=.lst (bq (nh a b d w))):ev C st RM (LF f)=some (.lst (bq (jM (sj (sA a b d) (HH (sA a b d) w) (yc (ot P)))))):=by
 refine cA (GQ ..)<|yy (by decide) (λx F=>?_) λu N=>fu (by decide) eW rfl;have H:kN f 27 (nI x) 18=lT P a b d:=B;have U:ev C st (.comp (.sub (.a 18) (.a 22)) (.bX 22) (.a 24)) (LF (kN f 27 (nI x)))=some (.lst (((nh a b d w).map λy=>yS P a b d y).map .str)):=by refine mr (l:=bq (nh a b d w)) (fu (by decide) E rfl) (jN (by have:=F3 (jY (sA a b d) (HH (sA a b d) w));unfold nh bq;simp[cB];lia))<|ab fi<|wX λy Y=>?_;have O:cT (LF (kN f 27 (nI x))) (.bX 22) (.int (y:Nat))=some (LF (kN (kN f 27 (nI x)) 22 (nI y))):=ec (by decide);have D:ev C st (.sub (.a 18) (.a 22)) (LF (kN (kN f 27 (nI x)) 22 (nI y)))=some (.str (yS P a b d y)):=vk (g:=λs=>.str (yS P a b d s)) (by decide) (by decide) B eW ((sr.mp Y).1);simp only[O,D,aj,af,aJ];rfl
 refine cc (vk (g:=λs=>.str (yS P a b d s)) (by decide) (by decide) H eW F) U ?_;have e:fk st .In (.str (yS P a b d x)) (.lst (((nh a b d w).map λy=>yS P a b d y).map .str))=CH (.str (yS P a b d x)) (((nh a b d w).map λy=>yS P a b d y).map .str):=rfl;refine ab e (ab (N7 ..) ?_);congr 1;rewrite[lG];refine ab decide_eq_true_eq ?_;rewrite[dZ];delta sj;rw[mU];constructor
 ·exactλQ=>aC Q λy Y e=>aN (sr.mp Y) λG Y=>⟨y,G,ab (au ..)<|⟨Y,(xq m x y).mp e.symm⟩⟩
 ·refineλc=>aC c λy A q=>?_;simp only[au]at q;exact⟨y,sr.mpr ⟨A,q.1⟩,((xq m x y).mpr q.2).symm⟩
end
noncomputable def uJ(L:List Int)(i:Nat):Int:=L.getD i 0
noncomputable def PT(L:List Int)(s:Int)(p:Nat):iy:=xE p (uJ L (1+p)) s
noncomputable def PF(L:List Int)(p:Nat):iy:=yz p (uJ L (1+p))
theorem U7(L:List Int)(s:Int):qS (PT L s) where
 ok p hp:=X5 hp _ _
 apart p q hp hq hne:=Py hp hq hne _ _ _
 low p hp:=KA hp _ _
 Ti p hp:=by have:(PT L s p).L=dY iK p:=(wH p _ s).1;exact ab this<|oT (kZ hp (jf p))
theorem U5(L:List Int):qS (PF L) where
 ok p hp:=XK hp _
 apart p q hp hq hne:=NR hp hq hne _ _
 low p hp x hx:=oT (kZ hp (JL hp _ x hx))
 Ti p hp:=by have:(PF L p).L=dY iK p:=(wH p _ 0).2;exact ab this<|oT (kZ hp (jf p))
theorem U6(L:List Int)(s:Int)(p:Nat):(PT L s p).L=(PF L p).L:=ab (show(PT L s p).L=dY iK p from(wH p _ s).1) (ab (show(PF L p).L=dY iK p from(wH p _ 0).2) rfl)
theorem Tn(L:List Int)(s:Int)(i:Nat):Eo (PT L s) i=Eo (PF L) i:=by
 rcases i with _|p
 ·rfl
 ·simp only[Eo,U6]
theorem Cp{p:Nat}(B:p<4)(L:List Int)(s:Int):uG (PT L s p).mark:=λx F=>K1 B (Er B _ _ x F)
section
variable{C:dC}{st:St}{f:Nat->AV}{cs:List Int}
theorem LK(V:cs.length=11){i:Nat}(hi:i<11):gF st (.lst (cs.map .int)) (.int i)=some (.int (uJ cs i)):=by refine ab (pe (et hi (id (dN V))) (by refine ab V ?_;decide)) ?_;congr 2;simp[uJ,V,hi]
theorem rf(V:cs.length=11)(J:f 1=.lst (cs.map .int)){e:CE}{i:Nat}(F:ev C st e (LF f)=some (.int (i:Nat)))(hi:i<11):ev C st (.sub (.a 1) e) (LF f)=some (.int (uJ cs i)):=
 dB (fu (by decide) J rfl) F (LK V hi)
theorem vc{i:Nat}{e:CE}{g:Nat->AV}(hi:i<29)(h:∀p,p<4->ev C st e (LF (kN f i (nI p)))=some (g p)):ev C st (.comp e (.bX i) (.j [(.d 4)])) (LF f)=some (.lst (qy g)):=by
 have P:∀p:Nat,p<4->(do return some (<-ev C st e (<-cT (LF f) (.bX i) (nI p))):Option (Option AV))=some (some (g p)):=by intro p B;have O:cT (LF f) (.bX i) (nI p)=some (LF (kN f i (nI p))):=ec hi;simp only[aj,O,af,h p B,aJ]
 exact mr (v:=.lst [nI 0,nI 1,nI 2,nI 3]) (l:= [nI 0,nI 1,nI 2,nI 3]) (r:=qy g) rfl rfl
  (cN (P 0 (by decide)) (cN (P 1 (by decide)) (cN (P 2 (by decide)) (cN (l:= []) (r:= []) (P 3 (by decide)) rfl))))
theorem Av{A B:Nat->List Nat}(d:f 4=.lst (qy λp=>.tup [.str (A p),.str (B p)])):
 ev C st (.comp (.a 7) (.many [7,8]) (.a 4)) (LF f)=some (.lst (qy λp=>.str (A p)))/\ev C st (.comp (.a 8) (.many [7,8]) (.a 4)) (LF f)=some (.lst (qy λp=>.str (B p))):=by
 have O:∀p,cT (LF f) (.many [7,8]) (.tup [.str (A p),.str (B p)])=some (LF (kN (kN f 7 (.str (A p))) 8 (.str (B p)))):=by intro p;show(ek (LF f) 7 (.str (A p))).bind (λl=>(ek l 8 (.str (B p))).bind λl=>some l)=_;exact ab (ec (by decide)) (ab (af ..) (ab (ec (by decide)) (ab (af ..) rfl)))
 have V:∀p,(do return some (<-ev C st (.a 7) (<-cT (LF f) (.many [7,8]) (.tup [.str (A p),.str (B p)]))):Option (Option AV))=some (some (.str (A p))):=by intro p;rfl
 have m:∀p,(do return some (<-ev C st (.a 8) (<-cT (LF f) (.many [7,8]) (.tup [.str (A p),.str (B p)]))):Option (Option AV))=some (some (.str (B p))):=by intro p;rfl
 exact⟨mr (r:=qy λp=>.str (A p)) (fu (by decide) d rfl) rfl (cN (V 0) (cN (V 1) (cN (V 2) (cN (l:= []) (r:= []) (V 3) rfl)))),
  mr (r:=qy λp=>.str (B p)) (fu (by decide) d rfl) rfl (cN (m 0) (cN (m 1) (cN (m 2) (cN (l:= []) (r:= []) (m 3) rfl))))⟩
theorem FZ:∀l:List (List Nat),Ap (l.map .str) (l.map .str)=some true:=by
 intro G
 induction G with
 |nil=>
  exact rfl
 |cons a l R=>
  simp only[bI,(id QK),(id NJ),aj,af,R,aJ];simp
theorem Eu(g:Nat->List Nat):fk st .NotEq (.lst (cE λi=>.str (g i))) (.lst (cE λi=>.str (g i)))=some false:=by refine ab (show fk st .NotEq (.lst ([g 0,g 1,g 2,g 3,g 4].map .str)) (.lst ([g 0,g 1,g 2,g 3,g 4].map .str))=(D0 ([g 0,g 1,g 2,g 3,g 4].map .str) ([g 0,g 1,g 2,g 3,g 4].map .str)).map (!·)from rfl) ?_;delta D0;refine ab (if_pos rfl) (ab (FZ ..) ?_);rfl
theorem D5{e:CE}{g:Nat->List Nat}(h:ev C st e (LF f)=some (.lst (qy λp=>.str (g (p+1)))))(Y:g 0= []):ev C st (.f .Add (.list [(.l [])]) e) (LF f)=some (.lst (cE λi=>.str (g i))):=by refine eN (x:=.lst [.str []]) rfl h ?_;show _=some (AV.lst [.str (g 0),_,_,_,_]);refine ab Y ?_;rfl
theorem Au{i:Nat}{e it:CE}{g g':Nat->AV}(hi:i<29)(D:ev C st it (LF f)=some (.lst (cE g)))(h:∀p,p<5->ev C st e (LF (kN f i (g p)))=some (g' p)):ev C st (.comp e (.bX i) it) (LF f)=some (.lst (cE g')):=by
 have P:∀p:Nat,p<5->(do return some (<-ev C st e (<-cT (LF f) (.bX i) (g p))):Option (Option AV))=some (some (g' p)):=by intro p B;have O:cT (LF f) (.bX i) (g p)=some (LF (kN f i (g p))):=ec hi;simp only[aj,O,af,h p B,aJ]
 exact mr (l:=cE g) (r:=cE g') D rfl
  (cN (P 0 (by decide)) (cN (P 1 (by decide)) (cN (P 2 (by decide)) (cN (P 3 (by decide)) (cN (l:= []) (r:= []) (P 4 (by decide)) rfl)))))
noncomputable def W3(cs:List Int):Nat->Int
 |0=>1+(uJ cs 5).fmod (10^30)
 |u+1=>(uJ cs (6+u)).fmod (10^30)
theorem Rm{loc:Loc}:ev C st (.f .Pow (.d 10) (.d 30)) loc=some (.int (10^30)):=by refine eN rfl rfl ?_;show(binI .Pow 10 30).map AV.int=_;rfl
theorem Dp(V:cs.length=11)(J:f 1=.lst (cs.map .int)):ev C st (.f .Add (.list [(.f .Add (.d 1) (.f .Mod (.sub (.a 1) (.d 5)) (.f .Pow (.d 10) (.d 30))))]) (.comp (.f .Mod (.sub (.a 1) (.f .Add (.d 6) (.a 20))) (.f .Pow (.d 10) (.d 30))) (.bX 20) (.j [(.d 4)]))) (LF f)=some (wV (W3 cs)):=by
 have s:(10:Int)^30≠0:=by decide
 have e1:ev C st (.f .Add (.d 1) (.f .Mod (.sub (.a 1) (.d 5)) (.f .Pow (.d 10) (.d 30)))) (LF f)=some (.int (1+(uJ cs 5).fmod (10^30))):=oO rfl (oQ (rf V J (i:=5) rfl (by decide)) Rm s);have e2:=vc (C:=C) (st:=st) (f:=f) (i:=20) (e:=.f .Mod (.sub (.a 1) (.f .Add (.d 6) (.a 20))) (.f .Pow (.d 10) (.d 30))) (g:=λu=>.int (W3 cs (u+1))) (by decide) (λu N=>by
  have L:ev C st (.f .Add (.d 6) (.a 20)) (LF (kN f 20 (nI u)))=some (.int ((6+u:Nat):Int)):=by rfl
  exact oQ (rf (f:=kN f 20 (nI u)) V J L (by lia)) Rm s)
 have O:ev C st (.list [(.f .Add (.d 1) (.f .Mod (.sub (.a 1) (.d 5)) (.f .Pow (.d 10) (.d 30))))]) (LF f)=some (.lst [.int (1+(uJ cs 5).fmod (10^30))]):=by show(sq C st _ (LF f)).map AV.lst=_;simp only[aK,af,(id jW),e1,aj,af,aJ,aK]
 exact eN O e2 rfl
theorem T7{a b c d e:Int}(J:a<10^30)(U:b<10^30)(Z:c<10^30)(A:d<10^30)(O:e<10^30):1+a+b+c+d+e<2^110:=by lia
theorem PU(cs:List Int):Fw (W3 cs)/\j9 (W3 cs)<2^110:=by
 have Y:∀x:Int,0<=x.fmod (10^30)/\x.fmod (10^30)<10^30:=λx=>⟨bQ _ (by decide),cJ _ (by decide)⟩;have q0:=Y (uJ cs 5);have t:=Y (uJ cs 6);have V:=Y (uJ cs 7);have j:=Y (uJ cs 8);have L:=Y (uJ cs 9)
 refine⟨⟨Int.le_add_of_nonneg_right q0.1,t.1,V.1,j.1,L.1⟩,?_⟩;exact T7 q0.2 t.2 V.2 j.2 L.2
theorem xm{P:Nat->iy}{t0 t1 t2 t3 K:Int}(V:cs.length=11)(J:f 1=.lst (cs.map .int))(m:∀p,gF st (.lst [.int t0,.int t1,.int t2,.int t3,.int K]) (.int ((uJ cs (1+p)).fmod 5))=some (nI (ot P p))):
 ev C st (.comp (.sub (.list [(.d t0),(.d t1),(.d t2),(.d t3),(.d K)]) (.f .Mod (.sub (.a 1) (.f .Add (.d 1) (.a 5))) (.d 5))) (.bX 5) (.j [(.d 4)])) (LF f)=some (Rc P):=by
 refine vc (by decide) λp B=>?_;have L:ev C st (.f .Add (.d 1) (.a 5)) (LF (kN f 5 (nI p)))=some (.int ((1+p:Nat):Int)):=by rfl
 exact dB rfl (oQ (rf (f:=kN f 5 (nI p)) V J L (by lia)) rfl (by decide)) (m p)
theorem Ea{P:Int->Prop}{x:Int}(h:P 0/\P 1/\P 2/\P 3/\P 4):P (x.fmod 5):=by
 have Y:0<=x.fmod 5:=bQ _ (by decide);have J:x.fmod 5<5:=cJ _ (by decide);generalize x.fmod 5=y at*;refine ak ((show y=0\/y=1\/y=2\/y=3\/y=4 by lia)) (λH=>?_) λg=>ak g (λT=>?_) λN=>ak N (λI=>?_) λK=>ak K (λF=>?_) λA=>?_;refine ab H ?_;rotate_left;refine ab T ?_;rotate_left;refine ab I ?_;rotate_left;refine ab F ?_;rotate_left;refine ab A ?_;rotate_right 4
 ·exact h.1
 ·exact h.2.1
 ·exact h.2.2.1
 ·exact h.2.2.2.1
 ·exact h.2.2.2.2
theorem Hm(cs:List Int)(s:Int)(p:Nat):gF st (.lst [.int 1,.int 2,.int 2,.int 2,.int 2]) (.int ((uJ cs (1+p)).fmod 5))=some (nI (ot (PT cs s) p)):=by
 have e:ot (PT cs s) p=if(uJ cs (1+p)).fmod 5=0 then 1 else 2:=EP p _ s
 exact ab e<|Ea (P:=λy=>gF st (.lst [.int 1,.int 2,.int 2,.int 2,.int 2]) (.int y)=some (nI (if y=0 then 1 else 2))) ⟨rfl,rfl,rfl,rfl,rfl⟩
theorem Ga(cs:List Int)(p:Nat):gF st (.lst [.int 0,.int 0,.int 0,.int 2,.int 2]) (.int ((uJ cs (1+p)).fmod 5))=some (nI (ot (PF cs) p)):=by
 have e:ot (PF cs) p=if(uJ cs (1+p)).fmod 5=3\/(uJ cs (1+p)).fmod 5=4 then 2 else 0:=NS p _
 exact ab e<|Ea (P:=λy=>gF st (.lst [.int 0,.int 0,.int 0,.int 2,.int 2]) (.int y)=some (nI (if y=3\/y=4 then 2 else 0))) ⟨rfl,rfl,rfl,rfl,rfl⟩
end
theorem OG{f:Nat->AV}{i j:Nat}{x y:AV}(hi:i<29)(Q:j<29):cT (LF f) (.many [i,j]) (.tup [x,y])=some (LF (kN (kN f i x) j y)):=by show(ek (LF f) i x).bind (λl=>(ek l j y).bind λl=>some l)=_;exact ab (ec hi) (ab (af ..) (ab (ec Q) (ab (af ..) rfl)))
theorem OH{f:Nat->AV}{i j l:Nat}{x y z:AV}(hi:i<29)(Q:j<29)(X:l<29):cT (LF f) (.many [i,j,l]) (.tup [x,y,z])=some (LF (kN (kN (kN f i x) j y) l z)):=by show(ek (LF f) i x).bind (λq=>(ek q j y).bind λq=>(ek q l z).bind λq=>some q)=_;exact ab (ec hi) (ab (af ..) (ab (ec Q) (ab (af ..) (ab (ec X) (ab (af ..) rfl)))))
theorem mZ{C:dC}{st:St}{loc:Loc}{f:Nat}{e:CE}{x v:AV}(h:ev C st e loc=some x)(Q:dU [x]=true)(N:C.O f [x]=some v):ev C st (.call f [e]) loc=some v:=
 eP (vs:= [x]) (by simp only[af,(id jW),h,aj,af,aJ]) Q N
theorem Ar{C:dC}{st:St}{loc:Loc}{f:Nat}{e1 e2 c:CE}{x y z v:AV}(J:ev C st e1 loc=some x)(U:ev C st e2 loc=some y)(Z:ev C st c loc=some z)(Q:dU [x,y,z]=true)(N:C.O f [x,y,z]=some v):ev C st (.call f [e1,e2,c]) loc=some v:=
 eP (vs:= [x,y,z]) (by simp only[af,(id jW),J,U,Z,aj,af,aJ]) Q N
theorem As{C:dC}{st:St}{loc:Loc}{f:Nat}{e1 e2 c Y:CE}{x y z u v:AV}(J:ev C st e1 loc=some x)(U:ev C st e2 loc=some y)(Z:ev C st c loc=some z)(d:ev C st Y loc=some u)(Q:dU [x,y,z,u]=true)(N:C.O f [x,y,z,u]=some v):ev C st (.call f [e1,e2,c,Y]) loc=some v:=
 eP (vs:= [x,y,z,u]) (by simp only[af,(id jW),J,U,Z,d,aj,af,aJ]) Q N
theorem Jx{C:dC}{st:St}{loc:Loc}{e:CE}{p:Bool}(h:ev C st e loc=some (.bool p)):ev C st (.cmp .IsNot e (.u p)) loc=some (.bool false):=by refine cc (y:=.bool p) h rfl ?_;clear h;rcases p with⟨⟩<;>rfl
theorem NP{C:dC}{st:St}{loc:Loc}{x y:CE}(J:ev C st x loc=some (.bool false))(U:ev C st y loc=some (.bool false)):ev C st (.bor [x,y]) loc=some (.bool false):=ve J rfl U rfl
theorem Sj{C:dC}{st:St}{loc:Loc}{e1 e2:CE}{x y:List Nat}(J:ev C st e1 loc=some (.str x))(U:ev C st e2 loc=some (.str y))(h:x.length+y.length<=cB):ev C st (.f .Add e1 e2) loc=some (.str (x++y)):=
 eN J U (if_pos h)
theorem NQ{C:dC}{st:St}{loc:Loc}{e:CE}{x:List Nat}(h:ev C st e loc=some (.str x))(V:x.length<=cB){y:List Nat}(Y:tw x qq []=y):ev C st (.Z e qq []) loc=some (.str y):=by
 subst Y;have e1:ev C st (.Z e qq []) loc=((ev C st e loc).bind jH).bind λx=>if x.length<=cB/\([]:List Nat).length<=10/\qq≠ []then some (.str (tw x qq []))else none:=rfl
 refine ab e1 (ab h ?_);show(if x.length<=cB/\([]:List Nat).length<=10/\qq≠ []then some (AV.str (tw x qq []))else none)=_;exact ab (if_pos ⟨V,by decide,List.getLast?_isSome.mp rfl⟩) rfl
theorem Jy{C:dC}{st:St}{loc:Loc}{e:CE}{x y:List Nat}(h:ev C st e loc=some (.str x))(V:x.length<=cB)(Y:x.take 1=y):ev C st (.A e (.d 1)) loc=some (.str y):=by subst Y;exact JD (p:=1) h rfl V
theorem Lu{C:dC}{st:St}{loc:Loc}{e1 e2:CE}{x:List Nat}(J:ev C st e1 loc=some (.str x))(U:ev C st e2 loc=some (.str x)):ev C st (.cmp .NotEq e1 e2) loc=some (.bool false):=
 cc J U (by show(some (x==x)).map (!·)=_;refine ab (beq_self_eq_true ..) ?_;rfl)
theorem Kn(ns:List Int)(hn:ns.length<=63):iR (BK 20) D9 [.lst (ns.map .int)]=some (.bool true):=by
 refine ew λY=>Nu 19 ns hn λL V O13=>Jj 19 (uJ L 0) λa b d C a1 a2 b1 b2 W d2 O14=>aI (dW (show 0<=a by exact aF a1)) λa o1=>?_;subst o1;refine aI (dW (show 0<=b by exact aF b1)) λb r=>?_;subst r;refine aI (dW (show 0<=d by exact aF W)) λd o3=>?_;subst o3;refine Y ?_;clear Y;have G:fq a b d:=⟨eG.mp a1,eG.mp a2,eG.mp b1,eG.mp b2,eG.mp W,eG.mp d2⟩;have l:=U7 L (C.fmod 27);have S:=U5 L;have Z:∀p,p<4->uG (PT L (C.fmod 27) p).mark:=λp B=>Cp B L _;have A:∀p,p<4->n9 (PT L (C.fmod 27) p).mark=(PF L p).mark:=λp B=>Gx B _ _;have hhead:∀p,(PF L p).mark.take 1= [(PF L p).L]:=λp=>Cz p _;have hlt:∀i,Eo (PT L (C.fmod 27)) i=Eo (PF L) i:=Tn L _;have O15:∀p:Nat,p<4->(BK 20).O 15 [.int p,.int (uJ L (1+p)),.int (C.fmod 27)]=some (.tup [.str (PT L (C.fmod 27) p).mark,.str (PF L p).mark]):=λp B=>by
  refine ab (To 19 p (uJ L (1+p)) (C.fmod 27) B) (ab (Wd ..) (ab (We ..) ?_));rfl
 have hpos:∀p,ot (PT L (C.fmod 27)) p≠0:=λp=>by
  refine ab (show ot (PT L (C.fmod 27)) p=_ from EP p _ _) ?_;split<;>decide
 have hpT:=λp=>Hm (st:= [none,none]) L (C.fmod 27) p;have hpF:=λp=>Ga (st:= [none,none]) L p;generalize PT L (C.fmod 27)=P at*;generalize PF L=Q at*;have ml:∀p,(P p).mark.length<=5:=λp=>aP (oU (P p)).1 (by decide);refine Tg 19 (a:=a) (b:=b) (d:=d) (C.fdiv 27) G.1 G.2.1 G.2.2.1 G.2.2.2.1 G.2.2.2.2.1 G.2.2.2.2.2 (ml 0) (ml 1) (ml 2) (ml 3) λO16 h=>?_;clear ml;have R:=GV 16 (g:=C.fdiv 27) G (m0:=(P 0).mark) (m1:=(P 1).mark) (m2:=(P 2).mark) (m3:=(P 3).mark) (by
  refineλm u=>ak u (λH=>?_) λu2=>ak u2 (λu3=>?_) λN=>ak N (λI=>?_) λK=>?_;subst H;rotate_left;subst u3;rotate_left;subst I;rotate_left;subst K;rotate_right 3
  ·exact Z 0 (by decide)
  ·exact Z 1 (by decide)
  ·exact Z 2 (by decide)
  ·exact Z 3 (by decide)) h
 generalize bt (eV (iG a b d (P 0).mark (P 1).mark (P 2).mark (P 3).mark (C.fdiv 27)))=ps at*;generalize aR (eV (iG a b d (P 0).mark (P 1).mark (P 2).mark (P 3).mark (C.fdiv 27)))=y at*;generalize aR (iG a b d (P 0).mark (P 1).mark (P 2).mark (P 3).mark (C.fdiv 27))=x at*;have hxc:x.length<=cB:=aP h (by decide);refine eC.run rfl ?_;let f0:Nat->AV:=λi=>if i=0 then .lst (ns.map .int)else .c
 have E: [AV.lst (ns.map .int)]++bw (D9.z-D9.p) AV.c=LF f0:=rfl;refine ab E ?_;clear E;refine .cI (mZ (fu (i:=0) (by decide) rfl rfl) ?_ O13) (ec (by decide)) ?_
 ·show dU [.lst (ns.map .int)]=true;simp only[(id mz),(id qD),mx,nx]
 refine .cI (mZ (rf V (i:=0) rfl rfl (by decide)) rfl O14) (OG (by decide) (by decide)) ?_;clear O14;refine .cI (vc (g:=λp=>.tup [.str (P p).mark,.str (Q p).mark]) (by decide) λp B=>?_) (ec (by decide)) ?_
 ·have v5:∀(st:St) (f:Nat->AV),ev (BK 20) st (.a 5) (LF (kN f 5 (nI p)))=some (.int (p:Nat)):=λst f=>fu (by decide) eW rfl;refine Ar (v5 _ _) (rf V rfl (i:=1+p) ?_ (by lia)) (oQ (fu (by decide) rfl rfl) rfl (by decide)) rfl (O15 p B);refine ab (oO (x:=1) rfl (v5 _ _)) ?_;rfl
 refine .cI (Av rfl).1 (ec (by decide)) ?_;refine .cI (Ar (x:=wD a b d) (fu (i:=2) (by decide) rfl rfl) (fu (i:=6) (by decide) rfl rfl) (D4 (fu (i:=3) (by decide) rfl rfl) rfl (by decide)) rfl O16) (ec (by decide)) ?_;have v9:∀(st:St) (f:Nat->AV),ev (BK 20) st (.a 9) (LF (kN f 9 (.str x)))=some (.str x):=λst f=>fu (by decide) eW rfl;refine .jo (NP (Jx (mZ (v9 _ _) rfl R.cz)) (Jx (mZ (Sj (qu (s:=1) (v9 _ _) rfl ?_ hxc) (JD (p:=1) (v9 _ _) rfl hxc) ?_) rfl R.XY))) ?_
 ·exact R.ne
 ·refine ab bB (ab br ?_);(clear v9 R h O16 O15 hlt A hpF hhead S hpT hpos Z l G d2 W b2 b1 a2 a1 O13 V hn;omega+splitDisjunctions)
 refine .cI (mZ (v9 _ _) rfl R.strip) (ec (by decide)) ?_;have v9b:∀(st:St) (f:Nat->AV),ev (BK 20) st (.a 9) (LF (kN (kN f 9 (.str x)) 10 (.str y)))=some (.str x):=λst f=>fu (by decide) ((iI (by decide)).trans eW) rfl;have v10:∀(st:St) (f:Nat->AV),ev (BK 20) st (.a 10) (LF (kN f 10 (.str y)))=some (.str y):=λst f=>fu (by decide) eW rfl;refine .jo (Lu (v10 _ _) (NQ (v9b [] _) hxc R.Z))<|.cI (mZ (v10 _ _) rfl R.read) (OH (by decide) (by decide) (by decide))<|.jo (cc (fu (i:=13) (v:=.lst (cE λi=>.str (BN P i))) (by decide) rfl rfl) (D5 (g:=BN P) (fu (i:=6) (by decide) rfl rfl) rfl) (Eu _)) ?_;refine .cI (Au (g:=λi=>.str (BN P i)) (g':=λi=>.str (BN Q i)) (i:=7) (it:=.a 13) (e:=JN) (by decide) (fu (by decide) rfl rfl) λp B=>?_) (ec (by decide)) ?_
 ·have e:n9 (BN P p)=BN Q p:=by
   rcases p with _|p
   ·rfl
   ·exact A p (qf.mp B)
  have X:∀(P:Nat->iy),(BN P p).length<=5:=λP=>by
   rcases p with _|p
   ·exact bz _
   ·exact aP (oU (P p)).1 (by decide)
  simp only[<-e];refine NY (k:=19) (by simp[LF]) ((Ku (by decide)).trans (congrArg some eW)) (X P) (λc V=>?_) (ab e<|aP (X Q) (by decide));rcases p with _|p
  ·exact nomatch V
  ·exact l.low p (qf.mp B) c V
 refine .jo (cc (fu (i:=14) (v:=.lst (cE λi=>.str (BN Q i))) (by decide) eW rfl) (D5 (g:=BN Q) (Av rfl).2 rfl) (Eu _))<|.cI (Au (g:=λi=>.str (BN Q i)) (g':=λi=>.str (Eo Q i)) (i:=7) (it:=.a 14) (e:=.A (.a 7) (.d 1)) (by decide) (fu (by decide) eW rfl) λp B=>?_) (ec (by decide)) ?_;clear B
 ·have e:(BN Q p).take 1=Eo Q p:=by
   rcases p with _|p
   ·rfl
   ·exact hhead p
  have X:(BN Q p).length<=5:=by
   rcases p with _|p
   ·exact bz _
   ·exact aP (oU (Q p)).1 (by decide)
  exact Jy (fu (by decide) eW rfl) (aP X (by decide)) e
 have hltV:(AV.lst (cE λi=>.str (Eo Q i)))=.lst (cE λi=>.str (Eo P i)):=congrArg _ (qw λi z=>congrArg AV.str (hlt i).symm);refine .cI (As (fu (i:=11) (by decide) rfl rfl) (fu (i:=12) (by decide) rfl rfl) (fu (i:=13) (by decide) rfl rfl) (fu (i:=16) (v:=.lst (cE λi=>.str (Eo P i))) (by decide) (eW.trans hltV) rfl) rfl (AX 19 (P:=P) (ps:=ps) G R.mono)) (ec (by decide))<|.cI (As (fu (i:=11) (by decide) rfl rfl) (fu (i:=12) (by decide) rfl rfl) (fu (i:=14) (by decide) rfl rfl) (fu (i:=16) (by decide) rfl rfl) rfl (AX 19 (P:=Q) (ps:=ps) G R.mono)) (ec (by decide)) ?_;refine .cI (Dp V rfl) (ec (by decide)) ?_;have hw:=PU L;generalize W3 L=w at*;have fin:∀f,kr ps a b d w L f->f 2=wD a b d->f 17=lT P a b d->f 18=lT Q a b d->eC (BK 20) (D9.body.drop 16) (LF f) [] (.bool true):=by
  refineλf hf j g17 g18=>gB (V5 (k:=11) G hw.1 hw.2 V hf) λo F h24 q=>q _ _ ?_;have J:o 1=.lst (L.map .int):=(F 1 (by decide) (by decide) (by decide) (by decide)).trans hf.f1;have U:o 2=wD a b d:=(F 2 (by decide) (by decide) (by decide) (by decide)).trans j;have M:o 17=lT P a b d:=(F 17 (by decide) (by decide) (by decide) (by decide)).trans g17;have h18:o 18=lT Q a b d:=(F 18 (by decide) (by decide) (by decide) (by decide)).trans g18;have h19:o 19=wV w:=(F 19 (by decide) (by decide) (by decide) (by decide)).trans hf.Sm;clear q F;refine .cI (xm (P:=P) V J hpT) (ec (by decide)) ?_;have A1:=Ig 17 (st:= [none,none]) (loc:=LF (kN o 25 (Rc P))) (n:=17) (p:=25) (t:=24) (w:=w) (T:=nh a b d w) l G (fu (by decide) M rfl) (fu (by decide) h19 rfl) (fu (by decide) U rfl) (fu (by decide) eW rfl) (fu (by decide) h24 rfl);have E1:ye (iS (fU a b d) w (ot P))=nh a b d w:=by
   refine ab (qV G hw.1 (ot P))<|Dh G λv D=>?_;have O:∀p,(ot P p !=0)=true:=λp=>by simpa using hpos p
   rcases v with _|_|_|_|_|v_
   ·rfl
   ·exact O 0
   ·exact O 1
   ·exact O 2
   ·exact O 3
   ·exact absurd D (by lia)
  rw[decide_eq_true E1]at A1;refine .jo (vd A1 rfl)<|.cI (Ii (w:=w) S (f:=kN o 25 (Rc P)) h18 h24) (ec (by decide))<|.cI (xm (P:=Q) V J hpF) (ec (by decide)) ?_;have A2:=Ig 17 (st:= [none,none]) (loc:=LF (kN (kN (kN o 25 (Rc P)) 26 (.lst (bq (jM (sj (sA a b d) (HH (sA a b d) w) (yc (ot Q))))))) 28 (Rc Q))) (n:=18) (p:=28) (t:=26) (w:=w) (T:=jM (sj (sA a b d) (HH (sA a b d) w) (yc (ot Q)))) S G (fu (by decide) h18 rfl) (fu (by decide) h19 rfl) (fu (by decide) U rfl) (fu (by decide) eW rfl) (fu (by decide) rfl rfl);simp only[decide_eq_true (qV G hw.1 (ot Q))]at A2;exact .ret A2 rfl
 exact fin _ ⟨rfl,rfl,rfl,rfl,R.mono⟩ rfl rfl rfl
theorem Ux:PySem.Challenge.rw_uc0054_01.Holds:=Wb Kn
end Mine.Internal
theorem PySem.Challenge.cw_uc0054_01_holds : PySem.Challenge.rw_uc0054_01.Holds :=
 Mine.Internal.Ux
