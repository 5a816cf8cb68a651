import PyProof.Rows.All
import Wide.All
import OpenK.AllK
import Wide.FinOn
import Open.Tops
import Lean
import PySem.Challenge.RW_uc0054_01
set_option Elab.async false
set_option linter.all false
set_option genSizeOf false
set_option backward.eqns.nonrecursive false
set_option backward.eqns.deepRecursiveSplit false
set_option bootstrap.genMatcherCode false
set_option tactic.hygienic false
open Array renaming ext_getElem?->mD,getElem?_eq_none->BO,getElem?_modify->eZ,getElem?_push->jl,length_toList->gI,mk->YL,size_push->gj
open Bool renaming and_eq_true->au,and_true->nx,eq_false_imp_eq_true->mR,eq_iff_iff->lG,false_and->mE,false_eq_true->bx,false_ne_true->aB,false_or->zz,not_eq_true'->fv,or_eq_true->fy,or_eq_true_iff->jm,true_and->kW
open Eq renaming symm->dN,trans->bp
open False renaming elim->mF
open ForInStep renaming yield->bP
open Function renaming comp_def->iJ
open HAdd renaming hAdd->BG
open Int renaming add_comm->UH,add_emod->UI,add_le_add->eF,add_mul->g8,add_mul_ediv_right->BV,add_nonneg->gO,add_one_le_of_lt->gq,ediv_lt_of_lt_mul->cR,ediv_nonneg->eR,emod_lt_of_pos->dk,emod_nonneg->dI,eq_ofNat_of_zero_le->dW,fdiv_eq_ediv_of_nonneg->bN,fmod_eq_emod_of_nonneg->bA,fmod_lt_of_pos->cJ,fmod_nonneg_of_pos->bQ,le_antisymm->lI,le_ediv_of_mul_le->DA,le_of_eq->UJ,le_of_lt->aF,le_of_sub_one_lt->iU,le_refl->g9,le_trans->gr,lt_of_add_one_le->Fe,lt_of_lt_of_le->r6,lt_of_not_ge->uy,lt_of_toNat_lt->HP,lt_trans->ou,max_eq_right->MR,min_eq_left->P7,mul_add->nk,mul_assoc->fL,mul_comm->bR,mul_ediv_add_emod->cq,mul_emod->UK,mul_fdiv_add_fmod->kG,mul_le_mul_of_nonneg_left->wd,mul_le_mul_of_nonneg_right->bl,mul_lt_mul_of_pos_right->fG,mul_nonneg->gP,mul_pos->we,natAbs->Xv,natAbs_add_le->Mz,natAbs_mul->qb,natCast_emod->MS,natCast_mul->pf,natCast_nonneg->aX,natCast_pow->wt,ne_of_gt->cH,neg_mul->Xd,neg_one_mul->lJ,not_lt->HQ,not_lt_of_ge->MT,not_ofNat_neg->jZ,ofNat->gQ,ofNat_le->eG,ofNat_lt->fh,one_mul->iV,one_nonneg->Rr,pow_pos->Xe,pow_succ->tG,sub_mul->lg,toNat_le->tH,toNat_natCast->bK,toNat_of_nonneg->qN,zero_add->BW,zero_le_ofNat->MA
open Int.ofNat renaming inj->Uo
open List renaming all_cons->jx,all_eq_true->aq,append_assoc->tJ,append_nil->ik,cons_append->da,contains_eq_mem->iW,contains_iff_mem->pK,drop_drop->dJ,drop_eq_getElem_cons->dF,drop_length->oe,drop_nil->Uq,drop_sublist->MB,drop_take->xU,drop_zero->Ru,eq_nil_of_length_eq_zero->dD,eq_of_mem_replicate->zD,filter->Xf,filterMap_cons_some->zE,filter_append->r7,filter_cons->MU,filter_eq_nil_iff->ow,flatMap_cons->tK,forIn_cons->P9,getElem?_append_left->cM,getElem?_append_right->bG,getElem?_cons_succ->bE,getElem?_cons_zero->bo,getElem?_eq_getElem->gx,getElem?_eq_none_iff->cj,getElem?_eq_some_iff->aQ,getElem?_map->nq,getElem?_set_ne->ez,getElem?_set_self->fI,getElem_drop->MC,getElem_idxOf->HR,getElem_map->uz,getElem_mem->MV,getElem_of_mem->qO,getElem_range->mG,getElem_take->tM,isEmpty_eq_false_iff->zx,isEmpty_iff->dx,length->dp,length_append->cK,length_cons->bu,length_drop->bB,length_map->aY,length_nil->gk,length_pos_of_mem->BX,length_range->eH,length_replicate->pL,length_set->lK,length_singleton->pM,length_take->br,lookup_cons->fa,lookup_cons_self->pN,map->YN,map_append->ed,map_congr_left->jn,map_cons->bI,map_drop->zF,map_map->fi,map_reverse->uA,map_set->UL,map_take->nz,mem_append->dw,mem_append_left->fo,mem_append_right->kH,mem_cons->aS,mem_cons_of_mem->ax,mem_cons_self->aH,mem_filter->Qa,mem_iff_getElem->Ff,mem_map->dZ,mem_map_of_mem->HI,mem_of_elem_eq_true->dQ,mem_of_getElem?->aW,mem_of_mem_drop->gu,mem_of_mem_take->iX,mem_range->aT,mem_reverse->uB,mem_singleton->bS,nil_append->jC,nodup_append->MD,nodup_cons->eT,nodup_nil->Rv,not_mem_nil->dy,of_mem_zip->Qb,pairwise_append->Fg,pairwise_cons->fO,pairwise_iff_getElem->mS,pairwise_map->nr,range'->gZ,range'_succ->uu,range->aG,range_eq_range'->E7,range_succ->Qc,range_succ_eq_map->j0,replicate->bw,replicate_succ->HJ,singleton_append->DB,size_toArray->eJ,take_add->zG,take_append_drop->fR,take_length->kP,take_of_length_le->fJ,take_sublist->tN,take_succ_eq_append_getElem->eK,take_zero->qc,zip_cons_cons->mH,zip_nil_right->HS
open List.Pairwise renaming nil->tI
open List.cons renaming inj->Up
open Nat renaming add_assoc->zH,add_comm->tO,add_le_add->iY,add_lt_add->Rw,add_lt_add_right->Fh,add_mul->Xg,add_right_cancel->iZ,add_sub_of_le->tP,add_sub_self_left->DC,add_zero->UM,ble->ME,blt->BY,blt_eq->Xw,div_add_mod->wy,eq_of_testBit_eq->Fi,eq_sub_of_add_eq'->Dy,le_add_left->Qd,le_add_right->ja,le_add_right_of_le->ox,le_mul_self->Qe,le_of_add_right_le->oy,le_of_ble_eq_true->dT,le_of_eq->tQ,le_of_lt->cm,le_of_not_lt->gR,le_of_succ_le->gv,le_refl->aV,le_succ->nu,le_succ_of_le->j4,le_trans->aP,log2_lt->i0,lt_irrefl->zI,lt_of_le_of_lt->ia,lt_of_lt_of_eq->et,lt_of_lt_of_le->be,lt_of_not_le->MW,lt_of_sub_eq_succ->DE,lt_of_succ_le->nv,lt_of_succ_lt_succ->oA,lt_or_ge->tR,lt_succ_self->og,lt_trans->BZ,lt_trichotomy->MF,min_eq_left->fz,mul_assoc->rX,mul_comm->UN,mul_le_mul_right->Fj,mul_succ->B2,mul_two->Fk,ne_of_beq_eq_false->aE,ne_of_gt->oB,ne_of_lt->jb,not_le->jE,not_lt->i5,not_lt_zero->jD,pow_add->qd,pow_le_pow_right->i6,pow_succ->B6,sub_eq_iff_eq_add->kK,sub_self->oC,sub_zero->UO,succ_add_eq_add_succ->dS,succ_inj->tS,succ_le_of_lt->tT,succ_le_succ->MX,succ_lt_succ_iff->qe,succ_ne_zero->oh,testBit_and->Qf,testBit_mul_two_pow->BH,two_pow_pos->pg,zero_add->B8,zero_le->bz,zero_lt_succ->MY
open Nat.ToInt renaming of_le->wx
open Nat.succ renaming inj->B7
open Ne renaming symm->ib
open Option renaming bind_assoc->MG,bind_eq_bind->aj,bind_eq_some_iff->bF,bind_some->af,isNone_iff_eq_none->d7,isSome_iff_exists->gy,isSome_some->HT,join_some->uC,map_eq_some_iff->dg,map_none->Qg,map_some->aK,none->Fm,pure_def->aJ
open Option.some renaming inj->ay,injEq->bL
open Or renaming elim->ak
open PUnit renaming unit->r8
open Prod renaming ext->YQ
open Prod.mk renaming injEq->gz
open Pure renaming pure->gS
open PyProof renaming noPylong_of_log2->nA
open PyProof.Rows renaming AllBare->wa,IntsAre->Rt,assign_Name->zJ,callWith_type->dX,is_none_gen->M6,isnot_none_gen->zy
open PySem renaming Addr->az,Arguments->cZ,Around->cP,BoolOp->MQ,Call_method0->xO,Call_method1->xP,CmpOp->kF,Comprehension->wb,Const->wc,DefRec->iL,DictEntry->cG,Env->fZ,Flow->kO,FuncData->xS,GenState->xT,Heap->bk,NameKind->dz,Obj->hC,Operator->cV,OsState->dA,Params->il,Pos->eO,Program->fA,Protocol->Rx,Result->M0,Scope->cQ,Seg->BI,Sem->jA,Shared->ao,Stmt->bC,Str->bj,Tok->nZ,UnaryOp->ud,Value->aw,World->cW,annTrees->YR,argBest->DF,assign->lj,assignEach->Fp,assignInOrder->HW,backTo->YS,behindInMarks->pO,binaryOp->xW,bindL->Rz,bindName->Fq,bootBuiltins->M3,builtinsNs->ma,cLine->YT,call_list_range->Yb,cellsFrom->dO,codeAny->M4,compareOp->eM,constantsAlone->oj,dictDisplay->RB,eval->fe,evalPart_none_step->UR,exec->se,execs->fw,foldedForSure->pP,foldedSetIterable->jg,holding->ie,importedModules->Yc,inplaceOp->n6,intBits_fdiv_le->Yd,intBits_le_iff->e8,intKind->M5,interactive->tU,isCodeTable->BJ,isTrue->mT,letOwnedTupleGo->gJ,loadName->RC,mainGlobals->d8,mem_of_lookup_some->om,model->aL,newFunctionEnv->YU,noteFrame->MH,notedBy->DG,numAt->l8,numAt_eq->RD,nums_intItems->HZ,operate->Xi,partValue->Xy,placesWithHash->tV,pushCells_keeps->Ye,pyIter->tW,pyNext->tX,rawInt->zL,recursionLimit->YV,relabel->ph,seg_Expr_Yield->Fs,seg_again->MJ,seg_bind_wrap->fB,seg_execs_cons->ip,seqIndex?->Xz,sizeLine->mJ,sizeLine_eq->RE,sliceMade->zM,slicePicked->tY,slot_gen_next->ZC,standAt->jF,starEach->xX,storeName->zN,strIterType->RF,subDict->M7,swappedStores->H3,swapsWith->XA,theTreesLotGoes->rY,treeTable->fM,truthy->US,typeIs_int->UT,wpAny->aM,wpAny_Assign_Subscript->M8,wpAny_Assign_stores->uE,wpAny_BinOp->BL,wpAny_Call_NameR->dE,wpAny_Compare1->YW,wpAny_Constant_int->UU,wpAny_Constant_str->oo,wpAny_Expr_any->Ft,wpAny_If->YX,wpAny_Name->UW,wpAny_Return_some->lk,wpAny_Subscript_str_slice->oD,wpAny_UnaryOp->ZD,wpAny_bind->bg,wpAny_bindName->YY,wpAny_call->UX,wpAny_execs_cons->cS,wpAny_execs_nil->kq,wpAny_getItem_list->UY,wpAny_holding->gc,wpAny_isTrue_BoolOp->Us,wpAny_isTrue_value->UZ,wpAny_items_cons->XB,wpAny_items_nil->Yg,wpAny_loadName_cell->Ut,wpAny_loadName_free->Uu,wpAny_loadName_local->RH,wpAny_mono->aA,wpAny_newObj_type->xY,wpAny_pure->du,wpAny_standAt->eA,wpAny_tests_nil->Cb,wpAny_truthy_bool->pj,wpAny_with_toks->bY
open PySem.Builtin renaming bitAnd->E8,bitOr->HN,bitXor->YM
open PySem.Builtin.Int renaming intBits->ag
open PySem.Builtin.Range renaming rangeFitsLong->Dz,rangeSize->fK,small->nj
open PySem.Builtin.Str renaming occurrences->qa,strSliceIndices->ny,strSub->wj,tooLong->uv
open PySem.Calls renaming Name_function_global->E9,callWith_builtin->k9,callWith_function->kE,docDef->HY,evalArgs_plain->dH,spliced_cons->dP,spliced_nil->e7
open PySem.Data.fields renaming elim->zA
open PySem.Data.func renaming elim->Fb
open PySem.Env renaming kindOf->iM
open PySem.Expr renaming Name->zC
open PySem.Expr.Attribute renaming elim->uw
open PySem.Expr.BinOp renaming elim->BP
open PySem.Expr.BoolOp renaming elim->zB
open PySem.Expr.Call renaming elim->Fc
open PySem.Expr.Compare renaming elim->xQ
open PySem.Expr.Constant renaming elim->wm
open PySem.Expr.IfExp renaming elim->BQ
open PySem.Expr.List renaming elim->Fd
open PySem.Expr.ListComp renaming elim->wo
open PySem.Expr.Name renaming elim->tD
open PySem.Expr.Slice renaming elim->BR
open PySem.Expr.Subscript renaming elim->ux
open PySem.Expr.Tuple renaming elim->BS
open PySem.Expr.UnaryOp renaming elim->xR
open PySem.Expr.Yield renaming elim->BU
open PySem.Flow renaming next->Xu
open PySem.GenOnly renaming setGen->tE
open PySem.GenOnlyQ renaming bare->Zz
open PySem.Heap renaming SameBut->lb,get?_push_of_some->cC,get?_push_size->bV,get?_update_ne->Un,get?_update_self->P6,lt_size->gN,mk->uc,size_push->tF
open PySem.Heap.SameBut renaming update->fN
open PySem.IsL renaming isList->MZ,update->wu
open PySem.MeetsSeq renaming EqGives->l9
open PySem.NameKind renaming cell->wg,free->dq
open PySem.Obj renaming mapDictKeys->eB,mapSeq->wz
open PySem.Sem renaming bind_eq_wrap'->Xc,bind_eq_wrap->Xx,onRaise_eq_wrap->Ur,wrap_wrap->wh
open PySem.Shared renaming setGen->mh
open PySem.Spec renaming lookup->Ry
open PySem.Stmt.Assign renaming elim->qf
open PySem.Stmt.AugAssign renaming elim->uD
open PySem.Stmt.Break renaming elim->B9
open PySem.Stmt.Expr renaming elim->Fn
open PySem.Stmt.For renaming elim->HU
open PySem.Stmt.FunctionDef renaming elim->sd
open PySem.Stmt.If renaming elim->M2
open PySem.Stmt.Return renaming elim->zK
open PySem.Stmt.While renaming elim->Ca
open PySem.Str renaming join->xV,ofString->qP
open PySem.StrLaws renaming At->UP,glued_eq_join->Qh,partsFrom->Xh,strSub_toList->Qi
open PySem.Value renaming builtin->HV,int->cy,isInt->jB,none->UQ
open PySem.Value.ref renaming elim->Fo
open PySem.W renaming CodeHd->HO,Ground->Rq,SharedT->r9,absHeap->kM,behindTheImports->qQ,boot_drawn->HX,boot_heap->mI,boot_toks->Ql,deadEnd->RA,restOf->H0,tabObj->sf,topRun->nC
open PySem.W.Fast renaming te14364793385576792824->jy,te15667345088766844465->jz
open PySem.W.WShape renaming hasItems->ZA
open PySem.W.WTm renaming holds->Qj
open PySem.World renaming withFollow_self->Qk
open String.Pos.Raw renaming mk_le_mk->oi
open True renaming intro->fc
namespace Mine.Internal
theorem aN{R H:Prop}{P:Prop}(h:R/\H)(k:R->H->P):P:=k h.1 h.2
theorem aI{A:Sort _}{R:A->Prop}{P:Prop}(h:∃a1,R a1)(k:∀a1,R a1->P):P:=h.elim λa1 h=>k a1 h
theorem eY{R H Y:Prop}{P:Prop}(h:R/\H/\Y)(k:R->H->Y->P):P:=k h.1 h.2.1 h.2.2
theorem aC{A:Sort _}{R H:A->Prop}{P:Prop}(h:∃a1,R a1/\H a1)(k:∀a1,R a1->H a1->P):P:=h.elim λa1 h=>k a1 h.1 h.2
theorem ej{A B:Sort _}{R:A->B->Prop}{P:Prop}(h:∃a1 a2,R a1 a2)(k:∀a1 a2,R a1 a2->P):P:=h.elim λa1 h=>h.elim λa2 h=>k a1 a2 h
theorem Aw{R H Y l:Prop}{P:Prop}(h:R/\H/\Y/\l)(k:R->H->Y->l->P):P:=k h.1 h.2.1 h.2.2.1 h.2.2.2
theorem gB{A:Sort _}{R H Y:A->Prop}{P:Prop}(h:∃a1,R a1/\H a1/\Y a1)(k:∀a1,R a1->H a1->Y a1->P):P:=h.elim λa1 h=>k a1 h.1 h.2.1 h.2.2
theorem eb{A B:Sort _}{R H:A->B->Prop}{P:Prop}(h:∃a1 a2,R a1 a2/\H a1 a2)(k:∀a1 a2,R a1 a2->H a1 a2->P):P:=h.elim λa1 h=>h.elim λa2 h=>k a1 a2 h.1 h.2
theorem ri{R H Y l G:Prop}{P:Prop}(h:R/\H/\Y/\l/\G)(k:R->H->Y->l->G->P):P:=k h.1 h.2.1 h.2.2.1 h.2.2.2.1 h.2.2.2.2
theorem D7{A:Sort _}{R H Y l:A->Prop}{P:Prop}(h:∃a1,R a1/\H a1/\Y a1/\l a1)(k:∀a1,R a1->H a1->Y a1->l a1->P):P:=h.elim λa1 h=>k a1 h.1 h.2.1 h.2.2.1 h.2.2.2
theorem cX{A B:Sort _}{R H Y:A->B->Prop}{P:Prop}(h:∃a1 a2,R a1 a2/\H a1 a2/\Y a1 a2)(k:∀a1 a2,R a1 a2->H a1 a2->Y a1 a2->P):P:=h.elim λa1 h=>h.elim λa2 h=>k a1 a2 h.1 h.2.1 h.2.2
theorem m6{A B C:Sort _}{R H:A->B->C->Prop}{P:Prop}(h:∃a1 a2 a3,R a1 a2 a3/\H a1 a2 a3)(k:∀a1 a2 a3,R a1 a2 a3->H a1 a2 a3->P):P:=h.elim λa1 h=>h.elim λa2 h=>h.elim λa3 h=>k a1 a2 a3 h.1 h.2
theorem JG{A B C D:Sort _}{R:A->B->C->D->Prop}{P:Prop}(h:∃a1 a2 a3 a4,R a1 a2 a3 a4)(k:∀a1 a2 a3 a4,R a1 a2 a3 a4->P):P:=h.elim λa1 h=>h.elim λa2 h=>h.elim λa3 h=>h.elim λa4 h=>k a1 a2 a3 a4 h
theorem QM{R H Y l G W:Prop}{P:Prop}(h:R/\H/\Y/\l/\G/\W)(k:R->H->Y->l->G->W->P):P:=k h.1 h.2.1 h.2.2.1 h.2.2.2.1 h.2.2.2.2.1 h.2.2.2.2.2
theorem s8{A B:Sort _}{R H Y l:A->B->Prop}{P:Prop}(h:∃a1 a2,R a1 a2/\H a1 a2/\Y a1 a2/\l a1 a2)(k:∀a1 a2,R a1 a2->H a1 a2->Y a1 a2->l a1 a2->P):P:=h.elim λa1 h=>h.elim λa2 h=>k a1 a2 h.1 h.2.1 h.2.2.1 h.2.2.2
theorem kB{A B C:Sort _}{R H Y:A->B->C->Prop}{P:Prop}(h:∃a1 a2 a3,R a1 a2 a3/\H a1 a2 a3/\Y a1 a2 a3)(k:∀a1 a2 a3,R a1 a2 a3->H a1 a2 a3->Y a1 a2 a3->P):P:=h.elim λa1 h=>h.elim λa2 h=>h.elim λa3 h=>k a1 a2 a3 h.1 h.2.1 h.2.2
theorem oQ{A B C D:Sort _}{R H:A->B->C->D->Prop}{P:Prop}(h:∃a1 a2 a3 a4,R a1 a2 a3 a4/\H a1 a2 a3 a4)(k:∀a1 a2 a3 a4,R a1 a2 a3 a4->H a1 a2 a3 a4->P):P:=h.elim λa1 h=>h.elim λa2 h=>h.elim λa3 h=>h.elim λa4 h=>k a1 a2 a3 a4 h.1 h.2
theorem JF{A B C:Sort _}{R H Y l:A->B->C->Prop}{P:Prop}(h:∃a1 a2 a3,R a1 a2 a3/\H a1 a2 a3/\Y a1 a2 a3/\l a1 a2 a3)(k:∀a1 a2 a3,R a1 a2 a3->H a1 a2 a3->Y a1 a2 a3->l a1 a2 a3->P):P:=h.elim λa1 h=>h.elim λa2 h=>h.elim λa3 h=>k a1 a2 a3 h.1 h.2.1 h.2.2.1 h.2.2.2
theorem oR{A B C D:Sort _}{R H Y:A->B->C->D->Prop}{P:Prop}(h:∃a1 a2 a3 a4,R a1 a2 a3 a4/\H a1 a2 a3 a4/\Y a1 a2 a3 a4)(k:∀a1 a2 a3 a4,R a1 a2 a3 a4->H a1 a2 a3 a4->Y a1 a2 a3 a4->P):P:=h.elim λa1 h=>h.elim λa2 h=>h.elim λa3 h=>h.elim λa4 h=>k a1 a2 a3 a4 h.1 h.2.1 h.2.2
theorem Vv{R H Y l G W I u:Prop}{P:Prop}(h:R/\H/\Y/\l/\G/\W/\I/\u)(k:R->H->Y->l->G->W->I->u->P):P:=k h.1 h.2.1 h.2.2.1 h.2.2.2.1 h.2.2.2.2.1 h.2.2.2.2.2.1 h.2.2.2.2.2.2.1 h.2.2.2.2.2.2.2
theorem QN{A B:Sort _}{R H Y l G W:A->B->Prop}{P:Prop}(h:∃a1 a2,R a1 a2/\H a1 a2/\Y a1 a2/\l a1 a2/\G a1 a2/\W a1 a2)(k:∀a1 a2,R a1 a2->H a1 a2->Y a1 a2->l a1 a2->G a1 a2->W a1 a2->P):P:=h.elim λa1 h=>h.elim λa2 h=>k a1 a2 h.1 h.2.1 h.2.2.1 h.2.2.2.1 h.2.2.2.2.1 h.2.2.2.2.2
theorem rj{A B C D:Sort _}{R H Y l:A->B->C->D->Prop}{P:Prop}(h:∃a1 a2 a3 a4,R a1 a2 a3 a4/\H a1 a2 a3 a4/\Y a1 a2 a3 a4/\l a1 a2 a3 a4)(k:∀a1 a2 a3 a4,R a1 a2 a3 a4->H a1 a2 a3 a4->Y a1 a2 a3 a4->l a1 a2 a3 a4->P):P:=h.elim λa1 h=>h.elim λa2 h=>h.elim λa3 h=>h.elim λa4 h=>k a1 a2 a3 a4 h.1 h.2.1 h.2.2.1 h.2.2.2
theorem Vw{A B:Sort _}{R H Y l G W I:A->B->Prop}{P:Prop}(h:∃a1 a2,R a1 a2/\H a1 a2/\Y a1 a2/\l a1 a2/\G a1 a2/\W a1 a2/\I a1 a2)(k:∀a1 a2,R a1 a2->H a1 a2->Y a1 a2->l a1 a2->G a1 a2->W a1 a2->I a1 a2->P):P:=h.elim λa1 h=>h.elim λa2 h=>k a1 a2 h.1 h.2.1 h.2.2.1 h.2.2.2.1 h.2.2.2.2.1 h.2.2.2.2.2.1 h.2.2.2.2.2.2
theorem QO{A B C:Sort _}{R H Y l G W:A->B->C->Prop}{P:Prop}(h:∃a1 a2 a3,R a1 a2 a3/\H a1 a2 a3/\Y a1 a2 a3/\l a1 a2 a3/\G a1 a2 a3/\W a1 a2 a3)(k:∀a1 a2 a3,R a1 a2 a3->H a1 a2 a3->Y a1 a2 a3->l a1 a2 a3->G a1 a2 a3->W a1 a2 a3->P):P:=h.elim λa1 h=>h.elim λa2 h=>h.elim λa3 h=>k a1 a2 a3 h.1 h.2.1 h.2.2.1 h.2.2.2.1 h.2.2.2.2.1 h.2.2.2.2.2
theorem D8{A B C D:Sort _}{R H Y l G:A->B->C->D->Prop}{P:Prop}(h:∃a1 a2 a3 a4,R a1 a2 a3 a4/\H a1 a2 a3 a4/\Y a1 a2 a3 a4/\l a1 a2 a3 a4/\G a1 a2 a3 a4)(k:∀a1 a2 a3 a4,R a1 a2 a3 a4->H a1 a2 a3 a4->Y a1 a2 a3 a4->l a1 a2 a3 a4->G a1 a2 a3 a4->P):P:=h.elim λa1 h=>h.elim λa2 h=>h.elim λa3 h=>h.elim λa4 h=>k a1 a2 a3 a4 h.1 h.2.1 h.2.2.1 h.2.2.2.1 h.2.2.2.2
theorem QP{A B C D E:Sort _}{R H Y l:A->B->C->D->E->Prop}{P:Prop}(h:∃a1 a2 a3 a4 a,R a1 a2 a3 a4 a/\H a1 a2 a3 a4 a/\Y a1 a2 a3 a4 a/\l a1 a2 a3 a4 a)(k:∀a1 a2 a3 a4 a,R a1 a2 a3 a4 a->H a1 a2 a3 a4 a->Y a1 a2 a3 a4 a->l a1 a2 a3 a4 a->P):P:=h.elim λa1 h=>h.elim λa2 h=>h.elim λa3 h=>h.elim λa4 h=>h.elim λa h=>k a1 a2 a3 a4 a h.1 h.2.1 h.2.2.1 h.2.2.2
theorem Vx{A B C D E G I:Sort _}{R H:A->B->C->D->E->G->I->Prop}{P:Prop}(h:∃a1 a2 a3 a4 a K F,R a1 a2 a3 a4 a K F/\H a1 a2 a3 a4 a K F)(k:∀a1 a2 a3 a4 a K F,R a1 a2 a3 a4 a K F->H a1 a2 a3 a4 a K F->P):P:=h.elim λa1 h=>h.elim λa2 h=>h.elim λa3 h=>h.elim λa4 h=>h.elim λa h=>h.elim λK h=>h.elim λF h=>k a1 a2 a3 a4 a K F h.1 h.2
theorem JH{A B C D E:Sort _}{R H Y l G W:A->B->C->D->E->Prop}{P:Prop}(h:∃a1 a2 a3 a4 a,R a1 a2 a3 a4 a/\H a1 a2 a3 a4 a/\Y a1 a2 a3 a4 a/\l a1 a2 a3 a4 a/\G a1 a2 a3 a4 a/\W a1 a2 a3 a4 a)(k:∀a1 a2 a3 a4 a,R a1 a2 a3 a4 a->H a1 a2 a3 a4 a->Y a1 a2 a3 a4 a->l a1 a2 a3 a4 a->G a1 a2 a3 a4 a->W a1 a2 a3 a4 a->P):P:=h.elim λa1 h=>h.elim λa2 h=>h.elim λa3 h=>h.elim λa4 h=>h.elim λa h=>k a1 a2 a3 a4 a h.1 h.2.1 h.2.2.1 h.2.2.2.1 h.2.2.2.2.1 h.2.2.2.2.2
theorem Vy{A B C D E G I M N:Sort _}{R H:A->B->C->D->E->G->I->M->N->Prop}{P:Prop}(h:∃a1 a2 a3 a4 a K F J L,R a1 a2 a3 a4 a K F J L/\H a1 a2 a3 a4 a K F J L)(k:∀a1 a2 a3 a4 a K F J L,R a1 a2 a3 a4 a K F J L->H a1 a2 a3 a4 a K F J L->P):P:=h.elim λa1 h=>h.elim λa2 h=>h.elim λa3 h=>h.elim λa4 h=>h.elim λa h=>h.elim λK h=>h.elim λF h=>h.elim λJ h=>h.elim λL h=>k a1 a2 a3 a4 a K F J L h.1 h.2
@[elab_as_elim] theorem ab.{u}{B:Sort u}{a b:B}{p:B->Prop}(e:a=b)(h:p b):p a:=e▸h
@[elab_as_elim] theorem cA.{u}{B:Sort u}{a b:B}{p:B->Prop}(e:b=a)(h:p b):p a:=e▸h
theorem ew{p:Prop}(h:(p->False)->False):p:=Classical.byContradiction h
theorem m8{c:Prop}[Decidable c]{B:Type}{x r:B}{P:Prop}(h:(if c then some x else none)=some r)(k:c->x=r->P):P:=by
 by_cases q:c
 ·exact k q (ay ((if_pos q).symm.trans h))
 ·exact nomatch (if_neg q).symm.trans h
theorem Xo{c:Prop}[Decidable c]{B:Type}{x r:B}{P:Prop}(h:(if c then none else some x)=some r)(k:¬c->x=r->P):P:=by
 by_cases q:c
 ·exact nomatch (if_pos q).symm.trans h
 ·exact k q (ay ((if_neg q).symm.trans h))
@[elab_as_elim] theorem Tj{M:Nat->Prop}{p:Nat}(B:p<4)(Y:M 0)(J:M 1)(U:M 2)(S:M 3):M p:=by
 rcases p with _|_|_|_|p
 ·exact Y
 ·exact J
 ·exact U
 ·exact S
 ·exact absurd B (i5.mpr (Qd 4 p))
@[elab_as_elim] theorem MO{M:Nat->Prop}{p:Nat}(B:p<5)(Y:M 0)(J:M 1)(U:M 2)(S:M 3)(d:M 4):M p:=by
 rcases p with _|p
 ·exact Y
 ·exact Tj (M:=λp=>M (p+1)) (oA B) J U S d
end Mine.Internal
open PySem PySem.W PyProof.Rows PySem.Calls
open Sem (wp)
namespace Mine.Internal
section
set_option maxRecDepth 100000
set_option maxHeartbeats 0
noncomputable abbrev P0:fA:=PySem.Challenge.pw_uc0054_01
noncomputable def nU.jI:fZ:={scope:=P0.main.scope,locals:=mainNs,globals:=mainNs,cells:= [],code:=aw.ref 13,frame:=some 14}
noncomputable def Wn:hC:={cls:=.type "code",data:=.fields #[.str "<module>" 182,.str "<module>" 183,.str "/claim/cut.py" 184,.int 1 0,.int 0 0,.int 0 0,.int 0 0,.int 0 0,.ref 11,.bool false,.int 181 0,.ref 12,.none,.none,.none,.none,.int 185 0,.int 1 0,.str "/claim/cut.py" 186]}
noncomputable def Tt:hC:={cls:=.type "frame",slots:= #[some (.ref 13),some (.ref 3),some (.ref 3),none,some (.str "__main__" 164),none,some (.ref 0)]}
noncomputable def WV(P:il):BT:=.node (boot_o_0 P)
 (.node (boot_o_1 P)
   (.node (boot_o_3 P) (.node (boot_o_7 P) .nil .nil) (.node {cls:=.type "tuple",data:=.seq #[]} .nil .nil))
   (.node (boot_o_5 P) (.node (boot_o_9 P) .nil .nil) (.node Wn .nil .nil)))
 (.node (boot_o_2 P)
   (.node (boot_o_4 P) (.node (boot_o_8 P) .nil .nil) (.node {cls:=.none,data:=.fields #[]} .nil .nil))
   (.node (boot_o_6 P) (.node (boot_o_10 P) .nil .nil) (.node Tt .nil .nil)))
noncomputable def H7(P:il)(os:dA):r9:={tree:=WV P,n:=15,life:={},gens:={toList:= []},drawn:={},toks:=187,os:=os}
noncomputable def Bl(i n:Nat):List bC:=((qQ P0).drop i).take n
noncomputable abbrev B0:List Frame:= [topFrame {line:=0,col:=0,endLine:=0,endCol:=0}]
noncomputable abbrev rZ:Option aw:=some (aw.ref 6)
noncomputable abbrev c0:Code:=Code.body (qQ P0) nU.jI
noncomputable abbrev Ho:=PySem.W.Fast.tw10110043849684766642
noncomputable abbrev rP:=PySem.W.Fast.tw14364793385576792824
theorem zj:fM=rP:=jy
noncomputable abbrev sP:=PySem.W.Fast.tw12563942051412417395
noncomputable def resT(o:Option (kO×r9×Code×eO)):r9:=match o with|some r=>r.2.1|none=>⟨.nil,0,{},#[],{},0,{}⟩
noncomputable def JI(P:il):cW:=⟨λz z=>0,P⟩
@[irreducible] noncomputable def Lh(w:cW)(os:dA):=Ho rP P0 w 11 rZ 1 460 (H7 w.params os) ⟨(sP (Bl 0 19) nU.jI).wrap doneF RA id id,c0,⟨0,0,0,0⟩,B0⟩
@[irreducible] noncomputable def L3(P:il):BT:=(resT (Lh (JI P) {})).tree
noncomputable def U8(P:il)(os:dA):r9:={tree:=L3 P,n:=92,life:={},gens:={toList:= []},drawn:={},toks:=341,os:=os}
theorem Li(w:cW)(os:dA):Lh w os=some (.next,U8 w.params os,c0,⟨167,0,167,8⟩):=by kernel_rfl
noncomputable def vals(ns:List Int)(t:Nat):List aw:=(ns.zipIdx t).map λx=>cy x.1 x.2
noncomputable def VF:List Int:= [173,847,6150,6155,6156,6157,8203,8204,8205,8288,65279]
noncomputable def VG:List Int:= [65024,65025,65026,65027,65028,65029,65030,65031,65032,65033,65034,65035,65036,65037,65038,65039]
noncomputable def xr:List (Int×aw):= [(65024,cy 65024 357),(65025,cy 65025 358),(65026,cy 65026 359),
 (65027,cy 65027 360),(65028,cy 65028 361),(65029,cy 65029 362),
 (6150,cy 6150 343),(65030,cy 65030 363),(65031,cy 65031 364),
 (65032,cy 65032 365),(65033,cy 65033 366),(6155,cy 6155 344),
 (6156,cy 6156 345),(6157,cy 6157 346),(8203,cy 8203 347),(8204,cy 8204 348),
 (8205,cy 8205 349),(65034,cy 65034 367),(65035,cy 65035 368),
 (65036,cy 65036 369),(65037,cy 65037 370),(65038,cy 65038 371),
 (65039,cy 65039 372),(173,cy 173 341),(847,cy 847 342),(8288,cy 8288 350),
 (65279,cy 65279 351)]
noncomputable def Uz(P:il):hC:={cls:=.type "set",data:=.set xr.toArray 29 {mask:=127,place:= #[0,1,2,3,4,5,6,7,8,9,10,11,12,13,14,15,16,17,18,19,20,21,22,45,79,96,127],dummies:= #[],finger:=0,led:= !P.followText "set-order",moves:=2,plain:=true}}
noncomputable def EN(a:az):hC:={cls:=.type "StopIteration",data:=.fields #[.ref a,.none,.none,.none,.bool false,.none]}
noncomputable def Ao:hC:={cls:=.type "tuple",data:=.seq #[] 0}
noncomputable def Q1(P:il)(x:bj)(t:Nat)(v:aw)(o:hC):hC:=o.mapDictKeys λes=>es.push ⟨PyData.keyHash P x,.str x t,v⟩
@[irreducible] noncomputable def Ua(P:il):BT:=(((((((((((((L3 P).set 3 (Q1 P "b1_set" 400 (.ref 99))).ins 92 {cls:=.type "list",data:=.seq (vals VF 341).toArray 0})
 |>.ins 93 {cls:=.type "range",data:=.fields (vals [65024,65040,1] 352).toArray})
 |>.ins 94 {cls:=.type "list",data:=.seq (vals VG 357).toArray 18})
 |>.ins 95 {cls:=.type "range_iterator",data:=.fields #[.int 65040 0,.int 0 0,.int 1 0]})
 |>.ins 96 Ao)|>.ins 97 (EN 96))
 |>.ins 98 {cls:=.type "list",data:=.seq (vals VF 341++vals VG 357).toArray 0})
 |>.ins 99 (Uz P))|>.ins 100 {cls:=.type "list_iterator",data:=.fields #[.none,.int 27 0]})
 |>.ins 101 Ao)|>.ins 102 (EN 101))
noncomputable def U9(P:il)(os:dA):r9:={tree:=Ua P,n:=103,life:={},gens:={toList:= []},drawn:={},toks:=401,os:=os}
theorem Wv(b:Bool)(w:cW)(os:dA):Ho rP P0 (w.withFollow "special-get-raises" b) 11 rZ 1 999 (U8 (w.withFollow "special-get-raises" b).params os)
 ⟨(sP (Bl 19 1) nU.jI).wrap doneF RA id id,c0,{line:=167,col:=0,endLine:=167,endCol:=8},B0⟩=some (.next,U9 (w.withFollow "special-get-raises" b).params os,c0,⟨168,0,168,6⟩):=by
 rcases b with⟨⟩
 ·kernel_rfl
 ·kernel_rfl
@[irreducible] noncomputable def Lj(w:cW)(os:dA):=Ho rP P0 w 11 rZ 1 30 (U9 w.params os) ⟨(sP (Bl 20 1) nU.jI).wrap doneF RA id id,c0,⟨168,0,168,6⟩,B0⟩
@[irreducible] noncomputable def mQ(P:il):BT:=(resT (Lj (JI P) {})).tree
noncomputable def RI(P:il)(os:dA):r9:={tree:=mQ P,n:=110,life:={},gens:={toList:= []},drawn:={},toks:=408,os:=os}
theorem Lk(w:cW)(os:dA):Lj w os=some (.next,RI w.params os,c0,⟨169,0,170,30⟩):=by kernel_rfl
def i9{B:Type}(o:Option B)(P:B->Prop):Prop:=match o with
 |some a=>P a
 |none=>True
theorem cx{B:Type}{o:Option B}{P:B->Prop}{q:B}(p:i9 o P)(h:o=some q):P q:=by subst h;exact p
theorem aZ{B A:Type}{o:Option B}{F:B->Option A}{b:A}(h:o.bind F=some b):∃a,o=some a/\F a=some b:=by
 rcases o with _|a
 ·injection h
 ·exact⟨a,rfl,h⟩
theorem bW{B A:Type}{f:B->A}{x:Option B}{b:A}(h:x.map f=some b){I:Prop}(N:∀a,x=some a->f a=b->I):I:=by
 rcases x with _|u
 ·injection h
 ·injection h with F;subst F;exact N u rfl rfl
theorem rU{c:Prop}[Decidable c]{B:Type}{f:c->Option B}{R:B->Prop}(h:∀i,i9 (f i) R):i9 (if i:c then f i else none) R:=by
 by_cases i:c
 ·exact ab (dif_pos i)<|h i
 ·exact ab (dif_neg i)<|fc
noncomputable def rS(e:Expr):Option (wc×Nat×eO):=if h:e.ctorIdx=19 then wm (motive_1:=λz=>Option _) e h (λc k p=>some (c,k,p))else none
theorem qM{e:Expr}{q:wc×Nat×eO}(h:rS e=some q):e=.Constant q.1 q.2.1 q.2.2:=cx (P:=λq=>e=.Constant q.1 q.2.1 q.2.2) (rU λi=>wm (motive_1:=λe=>∀i,i9 (wm (motive_1:=λz=>Option _) e i (λc k p=>some (c,k,p))) λq=>e=.Constant q.1 q.2.1 q.2.2) e i (λc k p z=>rfl) i) h
noncomputable def Dr:wc->Option Int
 | .int b=>some b
 |_=>none
theorem xK{e:wc}{q:Int}(h:Dr e=some q):e=.int q:=cx (P:=λq=>e=.int q) (by rcases e with⟨⟩<;>first|exact fc|exact rfl) h
noncomputable def Dt:wc->Option bj
 | .str b=>some b
 |_=>none
theorem sR{e:wc}{q:bj}(h:Dt e=some q):e=.str q:=cx (P:=λq=>e=.str q) (by rcases e with⟨⟩<;>first|exact fc|exact rfl) h
noncomputable def un{B:Type}:List B->Option (B×List B)
 | []=>none
 |a::l=>some (a,l)
theorem Rm{B:Type}{l:List B}{q:B×List B}(h:un l=some q):l=q.1::q.2:=by
 rcases l with _|⟨a,l⟩
 ·injection h
 ·injection h with F;subst F;rfl
noncomputable def VP(o:Option Expr):Option Int:=o.bind λe=>(rS e).bind λc=>Dr c.1
noncomputable def vStr(e:Expr):Option bj:=(rS e).bind λc=>Dt c.1
theorem OC{o:Option Expr}{i:Int}(h:VP o=some i){I:Prop}(N:∀a b,o=some (.Constant (.int i) a b)->I):I:=by refine aC (aZ h) λe J h=>aC (aZ h) λc U h=>?_;exact N _ _ (ab J (ab (qM U) (ab (xK h) rfl)))
theorem PJ{e:Expr}{i:bj}(h:vStr e=some i){I:Prop}(N:∀a b,e=.Constant (.str i) a b->I):I:=aC (aZ h) λc U h=>N _ _ (ab (qM U) (ab (sR h) rfl))
noncomputable def nE:List (Option Expr)->List Expr->Option (List (Int×bj))
 | [],vs=>bif vs.isEmpty then some []else none
 |k::V,vs=>(un vs).bind λv=>(VP k).bind λi=>(vStr v.1).bind λs=>(nE V v.2).map ((i,s)::·)
noncomputable def WO:bC:=(Bl 21 1).headD (.Pass default)
noncomputable def IE:Option (List Expr×Expr×eO):=if h:WO.ctorIdx=5 then qf (motive_2:=λz=>Option _) WO h (λl v p=>some (l,v,p))else none
noncomputable def Jk:Option (List (Option Expr)×List Expr×eO):=IE.bind λq=>if h:q.2.1.ctorIdx=6 then Expr.Dict.elim (motive_1:=λz=>Option _) q.2.1 h (λk v p=>some (k,v,p))else none
noncomputable def qB:List (Option Expr):=(Jk.map (·.1)).getD []
noncomputable def qL:List Expr:=(Jk.map (·.2.1)).getD []
noncomputable def iT:List (Int×bj):=(nE qB qL).getD []
noncomputable def QI(t:Nat)(q:Int×bj):cG:=⟨q.1,.int q.1 t,.str q.2 (t+1)⟩
noncomputable def entries(d:Nat):Nat->List (Int×bj)->List cG
 |_,[]=> []
 |t,q::r=>QI t q::entries d (t+d) r
noncomputable def dG(es:List cG):hC:={cls:=.type "dict",data:=.dict es.toArray es.length}
noncomputable def ym(t:Nat)(l:List (Int×bj)):List cG:=if l.length<=15 then entries 2 t l else entries 3 t l
noncomputable def oJ:Nat->Nat->List (Int×bj)->List (List cG)
 |0,_,_=> []
 |n+1,t,l=>if l.isEmpty then[]else ym t (l.take 17)::oJ n (t+51) (l.drop 17)
theorem Nz:(∀A C,oJ 0 A C=([]))/\
 (∀n t l,oJ (n+1) t l=(if l.isEmpty then[]else ym t (l.take 17)::oJ n (t+51) (l.drop 17))):=⟨by intros;rfl,by intros;rfl⟩
noncomputable def yF:BT->Nat->List hC->BT
 |T,_,[]=>T
 |T,n,o::r=>yF (T.ins n o) (n+1) r
noncomputable def qD:List hC:=dG (oJ 50 408 iT).flatten::((oJ 50 408 iT).drop 1).map dG
@[irreducible] noncomputable def Ub(P:il):BT:=yF ((mQ P).set 3 (Q1 P "b3_exceptions" 2358 (.ref 110))) 110 qD
noncomputable def H8(P:il)(os:dA):r9:={tree:=Ub P,n:=149,life:={},gens:={toList:= []},drawn:={},toks:=2359,os:=os}
theorem sI:iT.length=650:=by kernel_rfl
@[irreducible] noncomputable def Ll(w:cW)(os:dA):=Ho rP P0 w 11 rZ 1 380 (H8 w.params os) ⟨(sP (Bl 22 13) nU.jI).wrap doneF RA id id,c0,⟨171,0,171,13⟩,B0⟩
@[irreducible] noncomputable def L4(P:il):BT:=(resT (Ll (JI P) {})).tree
noncomputable def Fx(P:il)(os:dA):r9:={tree:=L4 P,n:=223,life:={},gens:={toList:= []},drawn:={},toks:=2474,os:=os}
theorem Lm(w:cW)(os:dA):Ll w os=some (.next,Fx w.params os,c0,⟨278,0,314,93⟩):=by kernel_rfl
noncomputable abbrev qI:=PySem.W.Fast.tw15667345088766844465
noncomputable abbrev EV:=PySem.W.Fast.tw14374325043358763698
noncomputable abbrev ES:=PySem.W.Fast.tw11892475500146522536
noncomputable def Sa(w:cW)(os:dA):ao:=match qI rP P0 w 11 rZ 12 ⟨mI w.params,#[],HX,Ql,os⟩ (topStub P0)with
 |some r=>r.1|none=>{}
theorem TH(w:cW)(os:dA):qI rP P0 w 11 rZ 12 ⟨mI w.params,#[],HX,Ql,os⟩ (topStub P0)=
 some ((H7 w.params os).abs,⟨ES rP c0,c0,⟨0,0,0,0⟩,B0⟩):=by kernel_rfl
theorem IT(w:cW)(os:dA):EV rP P0 w 11 rZ 1 1 (H7 w.params os).abs (blockOf (qQ P0) nU.jI c0 ⟨0,0,0,0⟩ B0)=some (.next,(H7 w.params os).abs,c0,⟨0,0,0,0⟩):=by kernel_rfl
noncomputable def VQ:List Nat:= [1,2,3,4,5,7,8,9,10,11,12,13,15,16,17,20,22,24,25,26,27,28,29,30,31,32,33,34]
noncomputable def q0:fA:={P0 with main:={P0.main with body:=VQ.filterMap λi=>P0.main.body[i]?}}
noncomputable abbrev kl:List bj:= ["b1_set","b3_exceptions"]
noncomputable def PD:az:=44
noncomputable def T9:az:=51
noncomputable def TL(d:aw):Option (az):=if h:d.ctorIdx=10 then Fo (motive:=λz=>Option _) d h (λa=>some a)else none
theorem EE{d:aw}{q:az}(h:TL d=some q):d=.ref q:=cx (P:=λq=>d=.ref q) (rU λi=>Fo (motive:=λe=>∀i,i9 (Fo (motive:=λz=>Option _) e i (λa=>some a)) λq=>e=.ref q) d i (λa z=>rfl) i) h
noncomputable def JR(d:Data):Option (xS):=if h:d.ctorIdx=7 then Fb (motive:=λz=>Option _) d h (λa=>some a)else none
theorem JS{d:Data}{q:xS}(h:JR d=some q):d=.func q:=cx (P:=λq=>d=.func q) (rU λi=>Fb (motive:=λe=>∀i,i9 (Fb (motive:=λz=>Option _) e i (λa=>some a)) λq=>e=.func q) d i (λa z=>rfl) i) h
noncomputable def Sp(d:Data):Option (Array aw):=if h:d.ctorIdx=9 then zA (motive:=λz=>Option _) d h (λa=>some a)else none
theorem NX{d:Data}{q:Array aw}(h:Sp d=some q):d=.fields q:=cx (P:=λq=>d=.fields q) (rU λi=>zA (motive:=λe=>∀i,i9 (zA (motive:=λz=>Option _) e i (λa=>some a)) λq=>e=.fields q) d i (λa z=>rfl) i) h
noncomputable def fnOf(mg:bj->Option aw)(h:bk)(x:bj):Option aw:=(mg x).bind λv=>(TL v).bind λa=>(h.get? a).bind λo=>(JR o.data).map λfd=>fd.code
noncomputable def Rk(h:bk)(c:aw):Option aw:=(TL c).bind λa=>(h.get? a).bind λo=>(Sp o.data).bind λvs=>vs[11]?
noncomputable def tC(mg:bj->Option aw)(h:bk)(x:bj):Option aw:=(fnOf mg h x).bind (Rk h)
noncomputable def Va(s:ao):Bool:=s.heap.nsMap d8 "b1_set"==some (.ref 99)&&s.heap.nsMap d8 "b3_exceptions"==some (.ref 110)&&
 (tC (s.heap.nsMap d8) s.heap "_int2digits"==some (.ref PD)&&tC (s.heap.nsMap d8) s.heap "_digits2int"==some (.ref T9))
noncomputable abbrev xE:=PySem.W.Fast.tw4187177175401517315
noncomputable def H1(P:il):bk:=kM (L4 P) 223 {}
noncomputable def S1(w:cW)(os:dA):ao:=⟨H1 w.params,#[],{},2474,os⟩
theorem VY(w:cW)(os:dA):staticsOk (Yc P0.main.body) (mI w.params) (H1 w.params)=true:=by kernel_rfl
theorem VZ(w:cW)(os:dA):namesBound P0 (H1 w.params)=true:=by kernel_rfl
theorem V0(w:cW)(os:dA):gensDone (S1 w os)=true:=by kernel_rfl
theorem V1(w:cW)(os:dA):laidKept (mI w.params) (H1 w.params)=true:=by kernel_rfl
theorem V2(w:cW)(os:dA):xE q0 kl (Yc P0.main.body) Va true (S1 w os)=openGood q0 kl:=by kernel_rfl
def Tr(w:cW){B:Type}(n:Nat)(m:jA B)(s:ao)(p:eO)(a:B)(s':ao)(p':eO):Prop:=
 ∀(K:B->jA Fin) (H:aw->jA Fin) (F:Bool->Bool) (D:List aw->List aw) (N:Nat) (r:ao),
  nC fM P0 w 11 rZ N s' ⟨K a,c0,p',B0⟩=some r->
  nC fM P0 w 11 rZ (N+n) s ⟨m.wrap K H F D,c0,p,B0⟩=some r
section
variable{w:cW}{α β:Type}{s s' s'':ao}{p p' p'':eO}
theorem Tr.pure(a:α):Tr w 0 (gS a:jA α) s p a s p:=λK H F D N r h=>h
theorem Tr.mono{m:jA α}{n n':Nat}{a:α}(h:Tr w n m s p a s' p')(Q:n<=n'):Tr w n' m s p a s' p':=λK H F D N r G=>by
 have:=topRun_mono (n'-n) _ _ _ _ (h K H F D N r G)
 rwa [show N+n+(n'-n)=N+n' by(clear this G h;lia)]at this
theorem Tr.bind{m:jA α}{f:α->jA β}{n n':Nat}{a:α}{b:β}(h:Tr w n m s p a s' p')(h':Tr w n' (f a) s' p' b s'' p''):Tr w (n+n') (m>>=f) s p b s'' p'':=λK H F D N r G=>by
 refine ab (Xc ..) (ab (wh ..) ?_);have:=h (λa=>(f a).wrap K H F D) (λe=>(jA.raise e).wrap K H F D) (λg=>F (id g)) (λl=>D (id l)) (N+n') r (h' K H F D N r G)
 rwa [show N+n'+n=N+(n+n')by(clear this G h' h;lia)]at this
theorem Tr.dm{m:jA α}{f:α->jA β}{n n' k:Nat}{a:α}{b:β}(h:Tr w n m s p a s' p')(h':Tr w n' (f a) s' p' b s'' p'')(I:n+n'<=k:=by lia):Tr w k (m>>=f) s p b s'' p'':=
 (h.bind h').mono I
theorem Tr.keep{m:jA α}{n:Nat}{a:α}{vs:List aw}(h:Tr w n m s p a s' p'):Tr w n (m.keep vs) s p a s' p':=λK H F D N r G=>ab (jA.keep_eq_wrap ..)<|ab (wh ..)<|h (λa=>K a) (λe=>H e) (λg=>F (id g)) (λl=>D (vs++l)) N r G
theorem Tr.holding{m:jA α}{n:Nat}{a:α}{vs:List aw}(h:Tr w n m s p a s' p'):Tr w n (ie vs m) s p a s' p':=ab (holding_eq_keep ..)<|h.keep
theorem Tr.onRaise{m:jA α}{n:Nat}{a:α}{u:aw->jA Unit}(h:Tr w n m s p a s' p'):Tr w n (m.onRaise u) s p a s' p':=λK H F D N r G=>ab (Ur ..)<|ab (wh ..)<|h (λa=>K a) _ (λg=>F (id g)) (λl=>D (id l)) N r G
theorem lX{t t':Thread}{N:Nat}{r:ao}(J:through t=false)(U:stepOk 11 rZ t=true)(S:step (denote fM) P0 w s t=.go s' t')
 (G:nC fM P0 w 11 rZ N s' t'=some r):nC fM P0 w 11 rZ (N+1) s t=some r:=by
 unfold nC;exact ab J<|ab U<|ab S<|G
theorem Tr.rule(A:String):Tr w 1 (PySem.rule A) s p () s p:=λK H F D N r G=>by
 refine lX (s':=s) (t':=⟨K (),c0,p,B0⟩) rfl rfl ?_ G;rcases s with⟨⟩;rfl
theorem Tr.at(q:eO):Tr w 1 (jF q) s p () s q:=λK H F D N r G=>by
 refine lX (s':=s) (t':=⟨K (),c0,q,B0⟩) rfl rfl ?_ G;rcases s with⟨⟩;rfl
theorem Tr.fresh:Tr w 1 PySem.fresh s p s.toks {s with toks:=s.toks+1} p:=λK H F D N r G=>by
 refine lX (s':={s with toks:=s.toks+1}) (t':=⟨K s.toks,c0,p,B0⟩) rfl rfl ?_ G;rcases s with⟨⟩;rfl
theorem Tr.load{a:az}{o:hC}(M:s.heap.get? a=some o):Tr w 1 (PySem.load a) s p o s p:=λK H F D N r G=>by
 refine lX (s':=s) (t':=⟨K o,c0,p,B0⟩) rfl rfl ?_ G;rcases s with⟨⟩;simp only at M;show step _ _ _ _ ⟨.load a none λx=>K x,_,_,_⟩=_;simp only[step,M]
theorem Tr.loadPart{a:az}{A:Option aw}{o:hC}(M:s.heap.get? a=some o):Tr w 1 (PySem.loadPart a A) s p o s p:=λK H F D N r G=>by
 refine lX (s':=s) (t':=⟨K o,c0,p,B0⟩) rfl rfl ?_ G;rcases s with⟨⟩;simp only at M;show step _ _ _ _ ⟨.load a A λx=>K x,_,_,_⟩=_;simp only[step,M]
theorem Tr.alloc{o:hC}:Tr w 1 (PySem.alloc o) s p s.heap.objs.size {s with heap:=s.heap.push o} p:=λK H F D N r G=>by
 refine lX (s':={s with heap:=s.heap.push o}) (t':=⟨K s.heap.objs.size,c0,p,B0⟩) rfl rfl ?_ G;rcases s with⟨⟩;rfl
theorem Tr.updatePart{a:az}{A:Option aw}{f:hC->hC}{o:hC}(M:s.heap.get? a=some o)(L:11<=a):Tr w 1 (PySem.updatePart a A f) s p () {s with heap:=s.heap.update a f} p:=λK H F D N r G=>by
 refine lX (s':={s with heap:=s.heap.update a f}) (t':=⟨K (),c0,p,B0⟩) rfl ?_ ?_ G
 ·show(_&&(ME 11 a||a==mainNs||a==cStatics||rZ==some (.ref a)))=true;refine ab (Nat.ble_eq_true_of_le L) ?_;rfl
 ·rcases s with⟨⟩;simp only at M;show step _ _ _ _ ⟨.update a A f λx=>K x,_,_,_⟩=_;simp only[step,M,HT,if_true]
theorem Tr.mkInt(i:Int):Tr w 1 (PySem.mkInt i) s p (.int i s.toks) {s with toks:=s.toks+1} p:=Tr.dm Tr.fresh (Tr.pure _)
theorem Tr.mkText(x:bj):Tr w 1 (PySem.mkText x) s p (.str x s.toks) {s with toks:=s.toks+1} p:=Tr.dm Tr.fresh (Tr.pure _)
end
theorem L1{w:cW}{n N:Nat}{s s' r:ao}{t t':Thread}(h:topGo fM P0 w 11 rZ n s t=some (s',t'))(k:nC fM P0 w 11 rZ N s' t'=some r):nC fM P0 w 11 rZ (N+n) s t=some r:=ab (tO ..)<|go_top h k
noncomputable abbrev EU:=PySem.W.Fast.tw10540108854288196387
noncomputable abbrev Bt:=PySem.W.Fast.tw199310478702765468
noncomputable def Ed(k:Int):Int:=if k<0 then-((k.natAbs:Int)%((2^61-1:Nat):Int))else(k.natAbs:Int)%((2^61-1:Nat):Int)
noncomputable def JZ(k:Int):Int:=if Ed k== -1 then-2 else Ed k
theorem N4(b:Bool)(w:cW)(heap:bk)(gens:Array xT)(drawn:Drawn)(toks:Nat)(os:dA)(k:Int)(t:nZ)(p:eO)(K:Int->jA Fin)(H:aw->jA Fin)(F:Bool->Bool)(D:List aw->List aw):
 qI rP P0 (w.withFollow "special-get-raises" b) 11 rZ 5 ⟨heap,gens,drawn,toks,os⟩ ⟨(EU (.int k t)).wrap K H F D,c0,p,B0⟩=
  some (⟨heap,gens,drawn,toks+1,os⟩,⟨(Bt (JZ k)).wrap K H F D,c0,p,B0⟩):=by
 rcases b with⟨⟩
 ·kernel_rfl
 ·kernel_rfl
theorem Tr.pyHash{w:cW}{s:ao}{p:eO}{k:Int}{t:nZ}(Y:0<=k)(J:k<1000000):Tr w 5 (PySem.pyHash (.int k t)) s p k {s with toks:=s.toks+1} p:=λK H F D N r G=>by
 have e:=Qk w "special-get-raises";obtain⟨heap,gens,drawn,toks,os⟩:=s;have g:=N4 (w.params.followText "special-get-raises") w heap gens drawn toks os k t p K H F D;rw[e]at g;unfold qI EU Bt at g;rw[<-jz,<-zj,<-PySem.W.Fast.te10540108854288196387,<-PySem.W.Fast.te199310478702765468]at g;refine L1 g ?_;have A:Ed k=k:=by
  delta Ed;refine ab (if_neg (MT Y:¬k<0)) ?_;have:((2^61-1:Nat):Int)=2305843009213693951:=by decide
  refine ab this ?_;lia
 have I:JZ k=k:=by delta JZ;refine ab A ?_;rw[if_neg];simp only[beq_iff_eq];exact cH Y
 refine ab I ?_;have e2:PySem.pyHashByItsType.reduced k=gS k:=by delta pyHashByItsType.reduced;exact ab (if_pos (by simp only[au,decide_eq_true_eq];lia)) (ab (if_neg (by simp only[beq_iff_eq];exact cH Y)) rfl)
 exact ab e2<|G
section
variable{w:cW}{s:ao}{p:eO}
theorem Tr.dictEntries{d:az}{A:Option aw}{o:hC}{es:Array cG}{l:Nat}(M:s.heap.get? d=some o)(u:o.data=.dict es l):Tr w 1 (PySem.dictEntries d A) s p es s p:=Tr.dm (Tr.loadPart M) (n':=0)<|ab u<|Tr.pure _
theorem Tr.dictEpoch{d:az}{A:Option aw}{o:hC}{es:Array cG}{l:Nat}(M:s.heap.get? d=some o)(u:o.data=.dict es l):Tr w 1 (PySem.dictEpoch d A) s p l s p:=Tr.dm (Tr.loadPart M) (n':=0)<|ab u<|Tr.pure _
theorem C2{es:Array cG}{h:Int}(B:∀e∈es.toList,e.hash≠h):tV es.size (λi=>es[i]?.map (·.hash)) h= []:=by delta tV;rw[ow];intro i hi;rw[aT]at hi;dsimp only;refine ab (Array.getElem?_eq_getElem hi) (ab (aK ..) ?_);rewrite[beq_iff_eq];exact ab (bL ..)<|B _ (Array.getElem_mem_toList hi)
theorem Tr.dictFind{d:az}{k:Int}{t:nZ}{o:hC}{es:Array cG}{l:Nat}(M:s.heap.get? d=some o)(u:o.data=.dict es l)(B:∀e∈es.toList,e.hash≠k):
 Tr w 1 (PySem.dictFind d (.int k t) k) s p none s p:=by
 refine Tr.holding (Tr.dm (Tr.dictEntries M u) (n':=0) ?_);show Tr w 0 (if((cy k t)::((tV es.size (λi=>es[i]?.map (·.hash)) k).filterMap λi=>es[i]?.map (·.key))).all carriedByValue=true then
  dictWalkPlain d (.int k t) k es (tV es.size (λi=>es[i]?.map (·.hash)) k)else _) s p none s p
 exact ab (C2 B)<|ab (if_pos (by rfl))<|Tr.dm (n:=0) (n':=0) (Tr.pure _) (Tr.pure _)
theorem Tr.updateDictKeys{d:az}{A:Option aw}{o:hC}{es:Array cG}{l:Nat}{f:Array cG->Array cG}(M:s.heap.get? d=some o)(u:o.data=.dict es l)(R:11<=d)(g:(f es).size<=mJ+1):
 Tr w 3 (PySem.updateDictKeys d f A) s p () {s with heap:=s.heap.update d (eB f)} p:=by
 refine ew λY=>?_;obtain⟨c,B,D,C⟩:=o;simp only at u;subst u;refine Y ?_;clear Y;refine Tr.dm (Tr.loadPart M) (n':=2)<|Tr.dm (Tr.updatePart M R) (n':=1)<|Tr.dm (n':=0) (Tr.loadPart (o:=eB f ⟨c,B,.dict es l,C⟩) (P6 _ M rfl)) ?_;exact ab (show(eB f ⟨c,B,.dict es l,C⟩).data.pastItsLine=none from if_neg (i5.mpr g))<|Tr.pure _
theorem Tr.dictSet{d:az}{k:Int}{t:nZ}{v:aw}{o:hC}{es:Array cG}{l:Nat}(M:s.heap.get? d=some o)(u:o.data=.dict es l)(R:11<=d)(B:∀e∈es.toList,e.hash≠k)
 (Y:0<=k)(J:k<1000000)(g:es.size+1<=mJ+1):Tr w 10 (PySem.dictSet d (.int k t) v) s p () {s with toks:=s.toks+1,heap:=s.heap.update d (eB (·.push ⟨k,.int k t,v⟩))} p:=by
 refine Tr.holding (Tr.dm (Tr.pyHash Y J) (n':=5) ?_);refine Tr.holding (Tr.dm (n':=4) (Tr.dictFind (s:={s with toks:=s.toks+1}) M u B) ?_);exact Tr.dm (n':=3) (Tr.rule _) (Tr.updateDictKeys (s:={s with toks:=s.toks+1}) M u R (ab (gj ..)<|g))
theorem Tr.dictPut{d:az}{k:Int}{t:nZ}{v:aw}{o:hC}{es:Array cG}{l:Nat}(M:s.heap.get? d=some o)(u:o.data=.dict es l)(R:11<=d)(B:∀e∈es.toList,e.hash≠k)
 (g:es.size+1<=mJ+1):Tr w 4 (PySem.dictPut d k (.int k t) v) s p () {s with heap:=s.heap.update d (eB (·.push ⟨k,.int k t,v⟩))} p:=Tr.dm (n':=3) (Tr.dictFind M u B)<|Tr.updateDictKeys M u R (ab (gj ..)<|g)
end
theorem oK(d:Nat):∀(t:Nat) (l r:List (Int×bj)),entries d t (l++r)=entries d t l++entries d (t+d*l.length) r:=by
 intro G A;revert G
 induction A with
 |nil=>
  intro t r;rfl
 |cons q l R=>
  refineλt r=>ab da ?_;refine ab (show entries d t (q::(l++r))=_::entries d (t+d) (l++r)from rfl) (ab (show entries d t (q::l)=_::entries d (t+d) l from rfl) (ab (R (t+d) r) (ab da (ab bu ?_))));congr 3;refine ab (B2 ..) ?_;lia
theorem d9(d:Nat):∀(t:Nat) (l:List (Int×bj)),(entries d t l).length=l.length:=by
 intro G A;revert G
 induction A with
 |nil=>
  exactλz=>rfl
 |cons q l R=>
  intro t;rewrite[entries];exact ab bu (ab (R _) (ab bu rfl))
theorem sX(d:Nat):∀(t:Nat) (l:List (Int×bj)) (e:cG),e∈entries d t l->∃q∈l,e.hash=q.1:=by
 intro G A;revert G
 induction A with
 |nil=>
  exactλz e h=>(nomatch h)
 |cons q l R=>
  intro t e h;rw[entries]at h;refine ak (aS.mp h) (λH=>?_) λh=>?_;subst H
  ·exact⟨q,aH,rfl⟩
  ·exact aC (R _ e h) λQ a b=>⟨Q,ax _ a,b⟩
theorem yO(es:List cG)(e:cG):eB (·.push e) (dG es)=dG (es++ [e]):=by unfold dG eB;simp
theorem mB(h:bk)(o:hC)(f:hC->hC):(h.push o).update h.objs.size f=h.push (f o):=by
 obtain⟨A,l⟩:=h;show uc _ _=uc _ _;congr 1;apply mD;refineλi=>ab eZ (ab jl (ab jl ?_));by_cases e:i=A.size
 ·subst e;simp
 ·simp[e,ib e]
theorem lU(h:bk)(o:hC)(a:az)(f:hC->hC)(L:a<h.objs.size):(h.push o).update a f=(h.update a f).push o:=by
 obtain⟨A,l⟩:=h;simp only at L;show uc _ _=uc _ _;congr 1;apply mD;refineλi=>ab eZ (ab jl (ab jl (ab Array.size_modify (ab eZ ?_))));by_cases e:i=A.size
 ·subst e;simp[jb L]
 ·simp[e]
noncomputable def eQ(h:bk)(os:List hC):bk:=os.foldl (λh o=>h.push o) h
theorem rB:∀(os:List hC) (h:bk),(eQ h os).objs.size=h.objs.size+os.length:=by
 intro G
 induction G with
 |nil=>
  exactλh=>rfl
 |cons o r R=>
  intro h;show(eQ (h.push o) r).objs.size=_;refine ab (R ..) ?_;show(h.objs.push o).size+_=_;exact ab (gj ..)<|ab bu<|dS h.objs.size r.length
theorem oW:∀(os:List hC) (h:bk) (a:az) (f:hC->hC),a<h.objs.size->(eQ h os).update a f=eQ (h.update a f) os:=by
 intro G
 induction G with
 |nil=>
  exactλh a f L=>rfl
 |cons o r R=>
  intro h a f L;show(eQ (h.push o) r).update a f=eQ ((h.update a f).push o) r;exact ab (R _ a f (by show a< (h.objs.push o).size;exact ab (gj ..)<|Nat.lt_succ_of_lt L)) (ab (lU h o a f L) rfl)
theorem tr:∀(os:List hC) (h:bk) (a:az) (o:hC),h.get? a=some o->(eQ h os).get? a=some o:=by
 intro G
 induction G with
 |nil=>
  exactλh a o e=>e
 |cons x r R=>
  refineλh a o e=>R (h.push x) a o (cC x e)
theorem rC(h:bk)(os:List hC)(o:hC):eQ h (os++ [o])=(eQ h os).push o:=by delta eQ;refine ab List.foldl_append ?_;rfl
theorem m7(h:bk)(o:hC)(P:o.isFreed=false):(h.push o).get? h.objs.size=some o:=bV _ P
section
variable{w:cW}{p:eO}
theorem rO{A σ:Type}(c:Nat):∀(l:List A) (f:A->σ->jA (ForInStep σ)) (S:Nat->ao) (V:Nat->σ) (P:∀i (hi:i<l.length),Tr w c (f l[i] (V i)) (S i) p (.yield (V (i+1))) (S (i+1)) p),
 Tr w (c*l.length) (ForIn.forIn l (V 0) f) (S 0) p (V l.length) (S l.length) p:=by
 intro G
 induction G with
 |nil=>
  exactλf S V P=>ab List.forIn_nil<|Tr.pure _
 |cons x r R=>
  refineλf S V P=>ab (P9 ..)<|Tr.dm (P 0 (MY r.length)) (n':=c*r.length) ?_ (by refine ab bu (ab (B2 ..) ?_);lia);exact R f (λi=>S (i+1)) (λi=>V (i+1)) λi hi=>P (i+1) (ab bu<|Fh hi 1)
def H6(w:cW)(p:eO)(F:jA aw×jA aw)(q:Int×bj):Prop:=
 (∀s,Tr w 1 F.1 s p (.int q.1 s.toks) {s with toks:=s.toks+1} p)/\(∀s,Tr w 2 F.2 s p (.str q.2 s.toks) {s with toks:=s.toks+1} p)/\0<=q.1/\q.1<1000000
inductive fj (w:cW) (p:eO):List (jA aw×jA aw)->List (Int×bj)->Prop
 |nil:fj w p [] []
 |cons {kv q l r}:H6 w p kv q->fj w p l r->fj w p (kv::l) (q::r)
theorem fj.length{l r}(h:fj w p l r):l.length=r.length:=by induction h<;>simp[*]
theorem fj.get{l r}(h:fj w p l r):∀i (hi:i<l.length) (G:i<r.length),H6 w p l[i] r[i]:=by
 induction h with
 |nil=>exactλi hi=>absurd hi (jD _)
 |cons a b R=>
  intro i hi G;rcases i with _|i
  ·exact a
  ·exact R i (by simpa using hi) (by simpa using G)
theorem fj.take{l r}(h:fj w p l r)(n:Nat):fj w p (l.take n) (r.take n):=by
 induction h generalizing n with
 |nil=>simp;exact .nil
 |cons a b R=>rcases n with _|n
              ·exact .nil
              ·exact .cons a (R n)
theorem fj.drop{l r}(h:fj w p l r)(n:Nat):fj w p (l.drop n) (r.drop n):=by
 induction h generalizing n with
 |nil=>simp;exact .nil
 |cons a b R=>rcases n with _|n
              ·exact .cons a b
              ·exact R n
def uG(A:List (Int×bj)):Prop:=A.Pairwise λa b=>a.1<b.1
theorem uG.ne{A:List (Int×bj)}(h:uG A)(i j:Nat)(hi:i<A.length)(Y:j<A.length)(J:i≠j):A[i].1≠A[j].1:=by
 have:=mS.mp h;refineλe=>ak (Nat.lt_or_gt_of_ne J) (λg=>?_) λg=>?_
 ·have:=this i j hi Y g;lia
 ·have:=this j i Y hi g;lia
theorem qZ(d t:Nat)(A:List (Int×bj))(i:Nat)(hi:i<A.length):entries d t (A.take (i+1))=entries d t (A.take i)++ [QI (t+d*i) A[i]]:=by refine ab (eK hi) (ab (oK ..) (ab br (ab (fz (cm hi)) ?_)));rfl
theorem vT{items:List (jA aw×jA aw)}{A:List (Int×bj)}{s:ao}(ok:fj w p items A)(u:uG A)(B:15<A.length)(P:A.length<=1000)(E:11<=s.heap.objs.size):
 Tr w (30*A.length+5) (M7 items) s p s.heap.objs.size {s with heap:=s.heap.push (dG (entries 3 s.toks A)),toks:=s.toks+3*A.length} p:=by
 have X:=ok.length;delta M7;refine Tr.dm (n':=30*A.length+4) Tr.alloc<|Tr.dm (n:=30*A.length+2) (n':=0) (Tr.holding (a:=()) (s':={s with heap:=s.heap.push (dG (entries 3 s.toks A)),toks:=s.toks+3*A.length}) (p':=p) ?_) (Tr.pure _);refine ab (if_neg (by lia))<|Tr.dm (n:=1) (n':=30*A.length) (Tr.rule _) ?_;have S:=rO (w:=w) (p:=p) (σ:=PUnit) 30 items (λx z=>do
  let F<-x.1;let G<-ie [F] x.2
  ie [F,G] (dictSet s.heap.objs.size F G)
  gS (bP r8)) (λi=>{s with heap:=s.heap.push (dG (entries 3 s.toks (A.take i))),toks:=s.toks+3*i}) (λz=>⟨⟩) (λi hi=>by
  have I:i<A.length:=et hi X;refine Aw (ok.get i hi I) λm K T C=>Tr.dm (n':=20) (m _)<|Tr.dm (n':=15) (Tr.holding (K _)) ?_;have d:=m7 s.heap (dG (entries 3 s.toks (A.take i))) rfl;refine Tr.dm (n:=10) (n':=0) (k:=15) (Tr.holding (Tr.dictSet (s:={s with heap:=s.heap.push (dG (entries 3 s.toks (A.take i))),toks:=s.toks+3*i+1+1}) d rfl E (λe Z=>?_) T C ?_)) ?_
  ·refine aC (sX _ _ _ e Z) λq D e1=>?_;obtain⟨j,Y,rfl⟩:=qO D;refine ab e1 ?_;rw[br]at Y;exact ab tM<|uG.ne u j i (by(clear e1 D Z d C T K m I hi E P u ok;lia)) I (by lia)
  ·show(entries 3 s.toks (A.take i)).toArray.size+1<=_;refine ab eJ (ab (d9 ..) (ab br (ab RE ?_)));(clear d C T K m I hi E B u ok;lia)
  ·have e2:(s.heap.push (dG (entries 3 s.toks (A.take i)))).update s.heap.objs.size (eB (·.push ⟨A[i].1,.int A[i].1 (s.toks+3*i),.str A[i].2 (s.toks+3*i+1)⟩))=s.heap.push (dG (entries 3 s.toks (A.take (i+1)))):=by
    refine ab (mB ..) (ab (yO ..) (ab (qZ 3 s.toks A i I) ?_));rfl
   dsimp only;exact ab e2<|Tr.pure _)
 rw[X]at S;simp only[qc,kP,Nat.mul_zero,UM]at S;exact Tr.dm (n':=0) S (Tr.pure _)
end
section
variable{w:cW}{p:eO}
noncomputable def mO:Nat->List (Int×bj)->List (aw×aw)
 |_,[]=> []
 |t,q::r=>(.int q.1 t,.str q.2 (t+1))::mO (t+2) r
theorem Ey:(∀A,mO A []=([]))/\
 (∀t q r,mO t (q::r)=((.int q.1 t,.str q.2 (t+1))::mO (t+2) r)):=⟨by intros;rfl,by intros;rfl⟩
theorem mP:∀(t:Nat) (l:List (Int×bj)),(mO t l).length=l.length:=by
 intro G A;revert G
 induction A with
 |nil=>
  exactλz=>rfl
 |cons q l R=>
  intro t;simp only[(id Ey),bu,R _]
theorem CZ:∀(t:Nat) (l:List (Int×bj)) (i:Nat) (hi:i<l.length) (D:i< (mO t l).length),(mO t l)[i]=(.int l[i].1 (t+2*i),.str l[i].2 (t+2*i+1)):=by
 intro t l
 induction l generalizing t with
 |nil=>exactλi hi=>absurd hi (jD i)
 |cons q l R=>
  intro i hi D;rcases i with _|i
  ·rfl
  ·dsimp only[(id Ey),List.getElem_cons_succ];exact ab (R (t+2) i (qe.mp hi) (by refine ab (mP ..) ?_;simpa using hi)) (ab (show t+2+2*i=t+2*(i+1)by lia) rfl)
theorem zi{items:List (jA aw×jA aw)}{A:List (Int×bj)}(ok:fj w p items A):∀s:ao,Tr w (3*A.length) (evalPairs items) s p (mO s.toks A) {s with toks:=s.toks+2*A.length} p:=by
 induction ok with
 |nil=>exactλs=>Tr.pure _
 |@cons F q l r a b R=>
  refineλs=>eY a λm K z=>Tr.dm (n':=3*r.length+2) (m s) ?_ (by simp only[bu];lia);refine Tr.dm (n':=3*r.length) (Tr.holding (K _)) ?_ (by lia);have:=Tr.holding (vs:= [cy q.1 s.toks,aw.str q.2 (s.toks+1)]) (R {s with toks:=s.toks+1+1});refine Tr.dm (n':=0) (a:=mO (s.toks+1+1) r) (s':={s with toks:=s.toks+2*(q::r).length}) ?_ (Tr.pure _) (aV _);exact ab (show s.toks+2*(q::r).length=s.toks+1+1+2*r.length by simp only[bu];lia)<|this
theorem Bs{items:List (jA aw×jA aw)}{A:List (Int×bj)}{s:ao}(ok:fj w p items A)(u:uG A)(P:A.length<=15)(E:11<=s.heap.objs.size):
 Tr w (30*A.length+5) (M7 items) s p s.heap.objs.size {s with heap:=s.heap.push (dG (entries 2 s.toks A)),toks:=s.toks+3*A.length} p:=by
 refine Tr.dm (n':=30*A.length+4) Tr.alloc<|Tr.dm (n:=30*A.length+2) (n':=0) (Tr.holding (a:=()) (s':={s with heap:=s.heap.push (dG (entries 2 s.toks A)),toks:=s.toks+3*A.length}) (p':=p) ?_) (Tr.pure _);refine ab (if_pos (le_of_eq_of_le ok.length P))<|Tr.dm (n':=15*A.length) (zi ok {s with heap:=s.heap.push (dG [])})<|Tr.holding ?_;have S:=rO (w:=w) (p:=p) (σ:=PUnit) 15 (mO s.toks A) (λx z=>do
  dictSet s.heap.objs.size x.1 x.2
  gS (bP r8)) (λi=>{s with heap:=s.heap.push (dG (entries 2 s.toks (A.take i))),toks:=s.toks+2*A.length+i}) (λz=>⟨⟩) (λi hi=>by
  simp only[mP]at hi;refine Aw (ok.get i (et hi (id (dN ok.length))) hi) λm K T C=>ab (CZ s.toks A i hi ..)<|Tr.dm (n:=10) (n':=0) (k:=15) (Tr.dictSet (s:={s with heap:=s.heap.push (dG (entries 2 s.toks (A.take i))),toks:=s.toks+2*A.length+i}) (m7 s.heap (dG (entries 2 s.toks (A.take i))) rfl) rfl E (λe Z=>?_) T C ?_) ?_
  ·refine aC (sX _ _ _ e Z) λq D e1=>?_;obtain⟨j,Y,rfl⟩:=qO D;refine ab e1 ?_;simp only[br]at Y;exact ab tM<|uG.ne u j i (by grind) hi (by lia)
  ·show(entries 2 s.toks (A.take i)).toArray.size+1<=_;refine ab eJ (ab (d9 ..) (ab br (ab RE ?_)));lia
  ·have e2:(s.heap.push (dG (entries 2 s.toks (A.take i)))).update s.heap.objs.size (eB (·.push ⟨A[i].1,.int A[i].1 (s.toks+2*i),.str A[i].2 (s.toks+2*i+1)⟩))=s.heap.push (dG (entries 2 s.toks (A.take (i+1)))):=by
    refine ab (mB ..) (ab (yO ..) (ab (qZ 2 s.toks A i hi) ?_));rfl
   exact ab e2<|Tr.pure _)
 rw[mP]at S;simp only[qc,kP,UM]at S;simp only[show s.toks+2*A.length+A.length=s.toks+3*A.length by lia]at S;exact Tr.dm (n':=0) S (Tr.pure _)
theorem sub_dict_dict:isSubtype (.type "dict") (.type "dict")=gS true:=by refine ab (isSubtype_type ..) ?_;kernel_rfl
theorem vE:typeLookup (.type "dict") "__iter__"=gS (some (.builtin "dict.__iter__")):=by refine ab (typeLookup_type ..) (ab builtinLookup_eq_fast ?_);kernel_rfl
theorem xF{s:ao}{a:az}{o:hC}(M:s.heap.get? a=some o):Tr w 1 (typeOf (.ref a)) s p o.cls s p:=Tr.dm (n:=1) (n':=0) (k:=1) (Tr.loadPart M) (Tr.pure _)
theorem Hn{s:ao}{a:az}{es:List cG}(M:s.heap.get? a=some (dG es)):Tr w 1 (PySem.isInstance (.ref a) (.type "dict")) s p true s p:=Tr.dm (n:=1) (n':=0) (k:=1) (xF M)<|ab (show(dG es).cls=.type "dict"from rfl)<|ab sub_dict_dict<|Tr.pure _
theorem Bq{s:ao}{a:az}{es:List cG}(M:s.heap.get? a=some (dG es)):Tr w 1 (specialOf (.ref a) "__iter__") s p (some (.builtin "dict.__iter__")) s p:=Tr.dm (n:=1) (n':=0) (k:=1) (xF M)<|ab (show(dG es).cls=.type "dict"from rfl)<|ab vE<|Tr.pure _
theorem wD{es:List cG}(h:es≠ []):es.toArray.isEmpty=false:=by rcases es with⟨⟩<;>simp_all
theorem L8{h:bk}{d:az}{o:hC}(u:h.get? d=some o):(h.update d λz=>o)=h:=by
 have u:=(bk.get?_some_iff.mp u).1;obtain⟨A,l⟩:=h;show uc _ _=uc _ _;congr 1;apply mD;refineλj=>ab eZ ?_;by_cases e:d=j
 ·subst e;simp[show A[d]? =some o from u]
 ·simp[e]
theorem Br{s:ao}{d sub:az}{es1 es2:List cG}(u:s.heap.get? d=some (dG es1))(G:s.heap.get? sub=some (dG es2))(E:11<=d)(L:d≠sub)(J:es1≠ [])
 (C:(sub==sysModules)=false)(I:∀e∈es2,∃t,e.key=.int e.hash t)(B:(es1++es2).Pairwise λa b=>a.hash<b.hash)(g:es1.length+es2.length<=100000):
 Tr w (20*es2.length+20) (mergeMapping d (.ref sub) false) s p () {s with heap:=s.heap.update d λz=>dG (es1++es2)} p:=by
 refine Tr.dm (n:=1) (n':=20*es2.length+15) (k:=20*es2.length+20) (Hn G)<|Tr.dm (n:=1) (n':=20*es2.length+12) (k:=20*es2.length+15) (Bq G)<|Tr.dm (n:=0) (n':=20*es2.length+12) (k:=20*es2.length+12) (a:=true) (Tr.pure _) ?_;dsimp only;refine ab C<|ab (if_neg aB)<|Tr.dm (n:=1) (n':=20*es2.length+10) (k:=20*es2.length+12) (Tr.dictEntries u rfl)<|ab (wD J)<|ab (if_neg aB)<|Tr.dm (n:=1) (n':=20*es2.length+8) (k:=20*es2.length+10) (Tr.dictEntries G rfl)<|Tr.dm (n:=1) (n':=20*es2.length) (k:=20*es2.length+8) (Tr.dictEpoch G rfl) ?_;have S:=rO (w:=w) (p:=p) (σ:=PUnit) 20 (aG es2.toArray.size) (λi z=>do
                                                                                                                                                                                                                                                                                                                                                                                                                                                                                                                                                            let l<-dictEntries sub
                                                                                                                                                                                                                                                                                                                                                                                                                                                                                                                                                            match l[i]? with
                                                                                                                                                                                                                                                                                                                                                                                                                                                                                                                                                             |some e=>do
                                                                                                                                                                                                                                                                                                                                                                                                                                                                                                                                                              ie [e.key,e.val] (dictPut d e.hash e.key e.val)
                                                                                                                                                                                                                                                                                                                                                                                                                                                                                                                                                              let l2<-dictEpoch sub
                                                                                                                                                                                                                                                                                                                                                                                                                                                                                                                                                              if(l2 !=es2.length)=true then do
                                                                                                                                                                                                                                                                                                                                                                                                                                                                                                                                                                 unsupported "dict.changed-during-merge"
                                                                                                                                                                                                                                                                                                                                                                                                                                                                                                                                                                 gS (bP r8)
                                                                                                                                                                                                                                                                                                                                                                                                                                                                                                                                                               else gS (bP r8)
                                                                                                                                                                                                                                                                                                                                                                                                                                                                                                                                                             |x=>do
                                                                                                                                                                                                                                                                                                                                                                                                                                                                                                                                                              unsupported "dict.changed-during-merge"
                                                                                                                                                                                                                                                                                                                                                                                                                                                                                                                                                              gS (bP r8)) (λi=>{s with heap:=s.heap.update d λz=>dG (es1++es2.take i)}) (λz=>⟨⟩) (λi hi=>by
  rw[eH,eJ]at hi;refine ab (mG ..)<|aI (I es2[i] (MV hi)) λt Q=>Tr.dm (n:=1) (n':=15) (k:=20) (Tr.dictEntries ((Un _ _ _ _ L.symm).trans G) rfl) ?_;refine ab (show(es2.toArray)[i]? =some es2[i]by simp[hi]) ?_;have e2:((s.heap.update d λz=>dG (es1++es2.take i)).update d (eB (·.push ⟨es2[i].hash,.int es2[i].hash t,es2[i].val⟩)))=s.heap.update d λz=>dG (es1++es2.take (i+1)):=by
   have c:(⟨es2[i].hash,.int es2[i].hash t,es2[i].val⟩:cG)=es2[i]:=cA Q rfl;refine ab c ?_;obtain⟨A,l⟩:=s.heap;show uc _ _=uc _ _;congr 1;apply mD;refineλj=>ab eZ (ab eZ (ab eZ ?_));by_cases e:d=j
   ·simp only[e,if_true,Option.map_map];congr 1;funext o;show eB (·.push es2[i]) (dG (es1++es2.take i))=_;exact ab (yO ..) (ab (tJ ..) (cA (eK hi) rfl))
   ·simp only[e,if_false]
  refine Tr.dm (n:=4) (n':=5) (k:=15) (a:=()) (s':={s with heap:=s.heap.update d λz=>dG (es1++es2.take (i+1))}) (p':=p) (Tr.holding ?_) ?_
  ·have:=Tr.dictPut (w:=w) (p:=p) (s:={s with heap:=s.heap.update d λz=>dG (es1++es2.take i)}) (k:=es2[i].hash) (t:=t) (v:=es2[i].val) (P6 _ u rfl) rfl E (λe Z=>by
    rw[Fg]at B;refine ak (dw.mp Z) (λq=>?_) λq=>?_
    ·have:=B.2.2 e q es2[i] (MV hi);lia
    ·obtain⟨j,Y,rfl⟩:=qO q;rw[br]at Y;refine ab tM ?_;have:=mS.mp B.2.1 j i (by grind) hi (by lia);lia) (by show(es1++es2.take i).toArray.size+1<=_;refine ab eJ (ab cK (ab br (ab RE ?_)));lia)
   dsimp only at this;rw[e2]at this;exact ab Q<|this
  ·have gs':(s.heap.update d λz=>dG (es1++es2.take (i+1))).get? sub=some (dG es2):=(Un _ _ _ _ L.symm).trans G;exact Tr.dm (n:=1) (n':=0) (k:=5) (Tr.dictEpoch (s:={s with heap:=s.heap.update d λz=>dG (es1++es2.take (i+1))}) gs' rfl)<|ab (if_neg (by simp))<|Tr.pure _)
 rw[eH,eJ]at S;rw[qc,kP,ik]at S;rw[L8 u]at S;exact Tr.dm (n':=0) (k:=20*es2.length) S (Tr.pure _)
end
section
variable{w:cW}{p:eO}
theorem Kh{env:fZ}{dpos:eO}(V:List (Option Expr)):∀(vs:List Expr) (A:List (Int×bj)),nE V vs=some A->(∀q∈A,0<=q.1/\q.1<1000000)->
 ∃C:List (jA aw×jA aw),(evalEachOpt V env).zip ((evalEach vs env).map λv=>do let x<-v;jF dpos;gS x)=C.map (λx=>(some x.1,x.2))/\fj w dpos C A:=by
 induction V with
 |nil=>
  intro vs A h z;rcases vs with _|⟨v,vs⟩
  ·injection h with F;exact cA F<|⟨[],rfl,.nil⟩
  ·injection h
 |cons k V R=>
  refineλvs A h O=>ew λY=>aC (aZ h) λv f h=>aC (aZ h) λi j h=>aC (aZ h) λx t h=>bW h λr G e=>OC j λa b e1=>PJ t λc d e2=>Y ?_;clear Y;refine ab (Rm f) (ab e1 (ab e2 ?_));rw[<-e]at O⊢;refine aC (R _ r G λq D=>O q (ax _ D)) λC f1 f2=>⟨(fe (.Constant (.int i) a b) env,do let y<-fe (.Constant (.str x) c d) env;jF dpos;gS y)::C,?_,.cons ⟨λs=>?_,λs=>?_,O _ aH⟩ f2⟩
  ·rewrite[bI,<-f1];rfl
  ·exact Tr.mkInt i
  ·refine Tr.dm (n:=1) (n':=1) (k:=2) (Tr.mkText x) (Tr.dm (n:=1) (n':=0) (k:=1) (Tr.at _) (Tr.pure _))
theorem sW(d:Nat):∀(t:Nat) (l:List (Int×bj)) (e:cG),e∈entries d t l->∃t',e.key=.int e.hash t':=by
 intro G A;revert G
 induction A with
 |nil=>
  exactλz e h=>(nomatch h)
 |cons q l R=>
  refineλt e h=>ak (aS.mp h) (λH=>?_) λh=>?_;refine ab H ?_
  ·exact⟨t,rfl⟩
  ·exact R _ e h
theorem nH(d:Nat):∀(t:Nat) (l:List (Int×bj)),(entries d t l).map (·.hash)=l.map (·.1):=by
 intro G A;revert G
 induction A with
 |nil=>
  exactλz=>rfl
 |cons q l R=>
  intro t;simp only[entries,bI,bI,R _];rfl
theorem ED{es:List cG}{l:List (Int×bj)}(h:es.map (·.hash)=l.map (·.1))(u:uG l):es.Pairwise λa b=>a.hash<b.hash:=by have:(es.map (·.hash)).Pairwise (·<·):=ab h<|nr.mpr u;exact nr.mp this
noncomputable def k8(t0:Nat)(A:List (Int×bj))(m:Nat):List cG:=entries 3 t0 (A.take (17*m))
noncomputable def Hd(t0:Nat)(A:List (Int×bj))(j:Nat):hC:=dG (entries 3 (t0+51*j) ((A.drop (17*j)).take 17))
noncomputable def gY(H:bk)(t0:Nat)(A:List (Int×bj)):Nat->bk
 |0=>H
 |m+1=>eQ (H.push (dG (k8 t0 A (m+1)))) ((aG m).map λj=>Hd t0 A (j+1))
noncomputable def od(H:bk):Nat->Option az
 |0=>none
 |m+1=>some H.objs.size
theorem vG(t0:Nat)(A:List (Int×bj))(m:Nat)(h:17*(m+1)<=A.length):k8 t0 A (m+1)=k8 t0 A m++entries 3 (t0+51*m) ((A.drop (17*m)).take 17):=by delta k8;refine ab (show 17*(m+1)=17*m+17 by exact B2 17 m) (ab zG (ab (oK ..) (ab br (ab (fz (by exact oy h)) ?_))));exact ab (show 3*(17*m)=51*m by lia) rfl
noncomputable def vf(A:List (jA aw×jA aw))(main:Option az):jA (Option az):=do
 if A.isEmpty then return main
 match main with
 |none=>return some (<-M7 A)
 |some d=>
  let sub<-ie [.ref d] (M7 A)
  (ie [.ref d,.ref sub] (mergeMapping d (.ref sub) false)).onRaise λx=>do let _<-ie [.ref d,x] (runValue (.builtin "proto.let_go" {}))
  return some d
theorem L2{H:bk}{gens:Array xT}{drawn:Drawn}{os:dA}{t0:Nat}{C:List (jA aw×jA aw)}{A:List (Int×bj)}(ok:fj w p C A)(u:uG A)(E:11<=H.objs.size)(g:A.length<=5000)(m:Nat)(T:17*(m+1)<=A.length):
 Tr w 2000 (vf ((C.drop (17*m)).take 17) (od H m)) ⟨gY H t0 A m,gens,drawn,t0+51*m,os⟩ p (od H (m+1)) ⟨gY H t0 A (m+1),gens,drawn,t0+51*(m+1),os⟩ p:=by
 have X:=ok.length;have J:=(ok.drop (17*m)).take 17;have G:uG ((A.drop (17*m)).take 17):=(u.sublist (MB _ _)).sublist (tN _ _);have F:((A.drop (17*m)).take 17).length=17:=by refine ab br (ab bB ?_);lia
 have SF:((C.drop (17*m)).take 17).length=17:=by refine ab br (ab bB ?_);lia
 delta vf;refine ab (if_neg (by rw[dx];intro e;rw[e]at SF;injection SF)) ?_;clear SF;rcases m with _|m
 ·have:=vT (s:=⟨H,gens,drawn,t0,os⟩) J G (by refine ab F ?_;decide) (by refine ab F ?_;decide) E;rw[F]at this;exact Tr.dm (n:=515) (n':=0) (k:=2000) this<|Tr.pure _
 ·have D:(gY H t0 A (m+1)).objs.size=H.objs.size+1+m:=by
   refine ab (rB ..) (ab (aY ..) (ab eH ?_));exact ab (gj ..) rfl
  have:=vT (s:=⟨gY H t0 A (m+1),gens,drawn,t0+51*(m+1),os⟩) J G (by refine ab F ?_;decide) (by refine ab F ?_;decide) (by show 11<=(gY H t0 A (m+1)).objs.size;refine ab D ?_;lia);rw[F]at this;refine Tr.dm (n:=515) (n':=400) (k:=2000) (Tr.holding this) ?_;have mg:=Br (w:=w) (p:=p) (s:=⟨(gY H t0 A (m+1)).push (Hd t0 A (m+1)),gens,drawn,t0+51*(m+1+1),os⟩) (d:=H.objs.size) (sub:=(gY H t0 A (m+1)).objs.size) (es1:=k8 t0 A (m+1)) (es2:=entries 3 (t0+51*(m+1)) ((A.drop (17*(m+1))).take 17))
   (cC _ (tr _ _ _ _ (m7 H _ rfl))) (m7 _ _ rfl) E (jb (by refine ab D ?_;lia)) (by
     intro e;have:=congrArg dp e;simp only[k8,d9,br,gk]at this;lia) (beq_eq_false_iff_ne.mpr λe=>by have B:(gY H t0 A (m+1)).objs.size=1:=e;lia) (sW _ _ _) (cA (vG t0 A (m+1) T)<|ED (nH _ _ _) (u.sublist (tN _ _))) (by
     simp only[k8,d9,d9,F,br];lia)
  rw[d9,F]at mg;refine Tr.dm (n:=360) (n':=0) (k:=400) (Tr.onRaise (Tr.holding mg)) ?_;have e:((gY H t0 A (m+1)).push (Hd t0 A (m+1))).update H.objs.size (λz=>dG (k8 t0 A (m+1)++entries 3 (t0+51*(m+1)) ((A.drop (17*(m+1))).take 17)))=gY H t0 A (m+1+1):=by refine cA (vG t0 A (m+1) T) (ab (lU _ _ _ _ (by show H.objs.size< (gY H t0 A (m+1)).objs.size;refine ab D ?_;lia)) ?_);show(bk.update (eQ _ _) _ _).push _=eQ _ _;exact ab (oW _ _ _ _ (by show _< (H.objs.push _).size;refine ab (gj ..) ?_;lia)) (ab (mB ..) (ab Qc (ab ed (ab bI (ab List.map_nil (ab (rC ..) rfl))))))
  dsimp only;exact ab e<|Tr.pure _
end
section
variable{w:cW}{p:eO}
theorem KG{i n:Nat}(h:i<n):i% 17<n-17*(i/17):=Nat.lt_sub_of_add_lt (ab (tO ..)<|ab (wy ..)<|h)
theorem R0{i:Nat}(h:i% 17=16):(i+1)/17=i/17+1:=by lia
theorem R7{i:Nat}(h:i% 17≠16):(i+1)/17=i/17:=by lia
theorem R8{i:Nat}(h:i% 17≠16):(i+1)% 17=i% 17+1:=by lia
theorem R9{n m r:Nat}(h:n=17*(m+1)+r)(G:r<=15):n/17=m+1:=by lia
theorem Sb{n m r:Nat}(h:n=17*(m+1)+r)(G:r<=15):n% 17=r:=by lia
theorem Di{H:bk}{gens:Array xT}{drawn:Drawn}{os:dA}{t0:Nat}{C:List (jA aw×jA aw)}{A:List (Int×bj)}(ok:fj w p C A)(u:uG A)(E:11<=H.objs.size)(g:A.length<=5000)
 (m K:Nat)(B:A.length=17*(m+1)+K)(Y:0<K)(G:K<=15):
 Tr w (2000*A.length+2000) (RB (C.map λx=>(some x.1,x.2))) ⟨H,gens,drawn,t0,os⟩ p (.ref H.objs.size)
  ⟨eQ (H.push (dG (k8 t0 A (m+1)++entries 2 (t0+51*(m+1)) (A.drop (17*(m+1)))))) ((aG m).map (λj=>Hd t0 A (j+1))++ [dG (entries 2 (t0+51*(m+1)) (A.drop (17*(m+1))))]),gens,drawn,t0+51*(m+1)+3*K,os⟩ p:=by
 have X:=ok.length;let S:Nat->ao:=λi=>⟨gY H t0 A (i/17),gens,drawn,t0+51*(i/17),os⟩;let V:Nat->Option az×List (jA aw×jA aw):=λi=>(od H (i/17),(C.drop (17*(i/17))).take (i% 17));have W:(C.map λx=>((some x.1:Option (jA aw)),x.2)).length=A.length:=ab (aY ..) (ab X rfl);delta RB;refine Tr.dm (n:=2000*(C.map λx=>((some x.1:Option (jA aw)),x.2)).length) (n':=2000) (a:=V (C.map λx=>((some x.1:Option (jA aw)),x.2)).length)
  (s':=S (C.map λx=>((some x.1:Option (jA aw)),x.2)).length) (p':=p) (rO 2000 (C.map λx=>((some x.1:Option (jA aw)),x.2)) _ S V λi hi=>?_) ?_ (ab W<|aV _)
 ·have I:i<C.length:=by rw[aY]at hi;exact hi
  refine ab (uz ..) ?_;have N:(C.drop (17*(i/17))).take (i% 17)++ [C[i]]=(C.drop (17*(i/17))).take (i% 17+1):=by have:i% 17< (C.drop (17*(i/17))).length:=ab bB<|KG I;refine ab (eK this) (ab MC ?_);congr 3;exact dN (wy i 17)
  have L:((C.drop (17*(i/17))).take (i% 17+1)).length=i% 17+1:=ab br<|ab bB<|fz (KG I);show Tr w 2000 (if(((C.drop (17*(i/17))).take (i% 17)++ [(C[i].1,C[i].2)]).length==17)=true then do let mn<-vf ((C.drop (17*(i/17))).take (i% 17)++ [(C[i].1,C[i].2)]) (od H (i/17));gS (bP (mn,[]))
   else gS (bP (od H (i/17),(C.drop (17*(i/17))).take (i% 17)++ [(C[i].1,C[i].2)]))) _ _ _ _ _
  refine ab (show(C[i].1,C[i].2)=C[i]from rfl) (ab N (ab L ?_));by_cases M:i% 17=16
  ·refine ab (if_pos (by refine ab M ?_;rfl)) ?_;have P:=R0 M;have F:(i+1)% 17=0:=Nat.succ_mod_succ_eq_zero_iff.mpr M;refine Tr.dm (n:=2000) (n':=0) (k:=2000) (a:=od H (i/17+1)) (s':=S (i+1)) (p':=p) ?_ ?_
   ·refine ab (show i% 17+1=17 by exact tS.mpr M) ?_;show Tr w 2000 _ _ p _ ⟨gY H t0 A ((i+1)/17),gens,drawn,t0+51*((i+1)/17),os⟩ p;exact ab P<|(L2 (w:=w) (p:=p) (H:=H) (gens:=gens) (drawn:=drawn) (os:=os) (t0:=t0) ok u E g (i/17) (by lia))
   ·have:V (i+1)=(od H (i/17+1),[]):=by
     show(od H ((i+1)/17),(C.drop (17*((i+1)/17))).take ((i+1)% 17))=_;exact ab P (ab F (ab qc rfl))
    exact ab this<|Tr.pure _
  ·refine ab (if_neg (by simp only[beq_iff_eq];exact Nat.add_one_ne_add_one_iff.mpr M)) ?_;have P:=R7 M;have F:=R8 M;have e1:V (i+1)=(od H (i/17),(C.drop (17*(i/17))).take (i% 17+1)):=by
    show(od H ((i+1)/17),(C.drop (17*((i+1)/17))).take ((i+1)% 17))=_;exact ab P (ab F rfl)
   have e2:S (i+1)=S i:=by show(⟨gY H t0 A ((i+1)/17),gens,drawn,t0+51*((i+1)/17),os⟩:ao)=⟨gY H t0 A (i/17),gens,drawn,t0+51*(i/17),os⟩;exact ab P rfl
   exact ab e1<|ab e2<|(Tr.pure _).mono (bz _)
 ·refine ab W ?_;have P:=R9 B G;have e1:V A.length=(od H (m+1),C.drop (17*(m+1))):=by
   show(od H (A.length/17),(C.drop (17*(A.length/17))).take (A.length% 17))=_;exact ab P (ab (Sb B G) (ab (fJ (by refine ab bB ?_;lia)) rfl))
  have e2:S A.length=⟨gY H t0 A (m+1),gens,drawn,t0+51*(m+1),os⟩:=by show(⟨gY H t0 A (A.length/17),gens,drawn,t0+51*(A.length/17),os⟩:ao)=_;exact ab P rfl
  refine ab e1 (ab e2 ?_);have J:=ok.drop (17*(m+1));have O:(A.drop (17*(m+1))).length=K:=ab bB<|dN (Dy (id (dN B)));have Q:(C.drop (17*(m+1))).length=K:=by refine ab bB ?_;lia
  have D:(gY H t0 A (m+1)).objs.size=H.objs.size+1+m:=by show(eQ _ _).objs.size=_;refine ab (rB ..) (ab (aY ..) (ab eH ?_));show(H.objs.push _).size+m=_;exact ab (gj ..) rfl
  show Tr w 2000 (vf (C.drop (17*(m+1))) (some H.objs.size)>>=_) _ _ _ _ _;refine Tr.dm (n:=2000) (n':=0) (k:=2000) (a:=some H.objs.size) (p':=p) ?_ (Tr.pure _);delta vf;refine ab (if_neg (by rw[dx];intro e;rw[e]at Q;rw[gk]at Q;lia)) ?_;have:=Bs (s:=⟨gY H t0 A (m+1),gens,drawn,t0+51*(m+1),os⟩) J (u.sublist (MB _ _)) (ab O<|oi.mp G) (by show 11<=(gY H t0 A (m+1)).objs.size;refine ab D ?_;lia);rw[O]at this;refine Tr.dm (n:=30*K+5) (n':=1500) (k:=2000) (Tr.holding this) ?_;have mg:=Br (w:=w) (p:=p) (s:=⟨(gY H t0 A (m+1)).push (dG (entries 2 (t0+51*(m+1)) (A.drop (17*(m+1))))),gens,drawn,t0+51*(m+1)+3*K,os⟩) (d:=H.objs.size) (sub:=(gY H t0 A (m+1)).objs.size) (es1:=k8 t0 A (m+1)) (es2:=entries 2 (t0+51*(m+1)) (A.drop (17*(m+1))))
   (cC _ (tr _ _ _ _ (m7 H _ rfl))) (m7 _ _ rfl) E (jb (by refine ab D ?_;lia)) (by
     intro e;have:=congrArg dp e;rw[k8,d9,br,gk]at this;lia) (beq_eq_false_iff_ne.mpr λe=>by have R:(gY H t0 A (m+1)).objs.size=1:=e;lia) (sW _ _ _) (by
     refine ED (l:=A.take (17*(m+1))++A.drop (17*(m+1))) ?_ (ab (fR ..)<|u);refine ab ed ?_;rewrite[k8];exact ab (nH ..) (ab (nH ..) (ab ed rfl))) (by
     rewrite[k8];refine ab (d9 ..) (ab (d9 ..) (ab br (ab bB ?_)));lia)
  rw[d9,O]at mg;refine Tr.dm (n:=20*K+20) (n':=0) (k:=1500) (Tr.onRaise (Tr.holding mg)) ?_;have e:((gY H t0 A (m+1)).push (dG (entries 2 (t0+51*(m+1)) (A.drop (17*(m+1)))))).update H.objs.size (λz=>dG (k8 t0 A (m+1)++entries 2 (t0+51*(m+1)) (A.drop (17*(m+1)))))=
   eQ (H.push (dG (k8 t0 A (m+1)++entries 2 (t0+51*(m+1)) (A.drop (17*(m+1)))))) ((aG m).map (λj=>Hd t0 A (j+1))++ [dG (entries 2 (t0+51*(m+1)) (A.drop (17*(m+1))))]):=by
   refine ab (lU _ _ _ _ (by show H.objs.size< (gY H t0 A (m+1)).objs.size;refine ab D ?_;lia)) (ab (rC ..) ?_);show(bk.update (eQ _ _) _ _).push _=_;exact ab (oW _ _ _ _ (by show _< (H.objs.push _).size;refine ab (gj ..) ?_;lia)) (ab (mB ..) rfl)
  dsimp only;exact ab e<|Tr.pure _
end
noncomputable def kS:eO:=(Jk.map (·.2.2)).getD default
noncomputable def yT:eO:=(IE.bind λq=>q.1.head?.bind λe=>if h:e.ctorIdx=23 then tD (motive_1:=λz=>Option _) e h (λz p=>some p)else none).getD default
noncomputable def Q8:eO:=(IE.map (·.2.2)).getD default
theorem Pr:Bl 21 1= [.Assign [.Name (qP "b3_exceptions") yT] (.Dict qB qL kS) Q8]:=by kernel_rfl
theorem K2:nE qB qL=some iT:=by kernel_rfl
noncomputable def pC:Int->List (Int×bj)->Bool
 |_,[]=>true
 |k,q::r=>decide (k<q.1)&&decide (q.1<1000000)&&pC q.1 r
theorem Lb:(∀A,pC A []=(true))/\
 (∀k q r,pC k (q::r)=(decide (k<q.1)&&decide (q.1<1000000)&&pC q.1 r)):=⟨by intros;rfl,by intros;rfl⟩
theorem pD:∀(l:List (Int×bj)) (k:Int),pC k l=true->uG l/\∀q∈l,k<q.1/\q.1<1000000:=by
 intro G
 induction G with
 |nil=>
  exactλk h=>⟨tI,λq D=>(nomatch D)⟩
 |cons q r R=>
  intro k h;simp only[(id Lb),au,decide_eq_true_eq]at h;refine aN h λo1 S=>?_;clear h;refine aN o1 λJ U=>aN (R q.1 S) λi1 o=>⟨fO.mpr ⟨λa L=>(o a L).1,i1⟩,λa L=>?_⟩;refine ak (aS.mp L) (λH=>?_) λL=>?_;subst H
  ·exact⟨J,U⟩
  ·have:=o a L;omega+splitDisjunctions
theorem rE:pC 0 iT=true:=by kernel_rfl
theorem GJ:qD=dG (k8 408 iT (37+1)++entries 2 (408+51*(37+1)) (iT.drop (17*(37+1))))::((aG 37).map (λj=>Hd 408 iT (j+1))++ [dG (entries 2 (408+51*(37+1)) (iT.drop (17*(37+1))))]):=by kernel_rfl
@[irreducible] noncomputable def xG(P:il):BT:=yF (mQ P) 110 qD
noncomputable def J6:BT->Nat->List hC->Bool
 |_,_,[]=>true
 |T,n,o::r=>((T.ins n o).get n).isSome&&J6 (T.ins n o) (n+1) r
theorem SK(P:il):J6 (mQ P) 110 qD=true:=by kernel_rfl
theorem Be:∀(os:List hC) (T:BT) (n:Nat) (life:Life),J6 T n os=true->eQ (kM T n life) os=kM (yF T n os) (n+os.length) life:=by
 intro G
 induction G with
 |nil=>
  exactλT n life h=>rfl
 |cons o r P=>
  refineλT n life h=>aN (Bool.and_eq_true_iff.mp h) λJ U=>?_;show eQ ((kM T n life).push o) r=_;refine cA (absHeap_ins J) (ab (P _ _ life U) (ab bu (ab (show n+1+r.length=n+(r.length+1)by exact dS n r.length) ?_)));rfl
noncomputable def LU:jA kO:=do assignStores nU.jI (.ref 110) (<-H3 [.Name (qP "b3_exceptions") yT] (.Dict qB qL kS) nU.jI) ((Fp [.Name (qP "b3_exceptions") yT] nU.jI).map (·.2))
theorem PC(w:cW)(os:dA)(K:kO->jA Fin)(H:aw->jA Fin)(F:Bool->Bool)(D:List aw->List aw):qI rP P0 w 11 rZ 7 ⟨kM (xG w.params) 149 {},#[],{},2358,os⟩ ⟨LU.wrap K H F D,c0,kS,B0⟩=
 some ((H8 w.params os).abs,⟨K .next,c0,⟨171,0,171,13⟩,B0⟩):=by kernel_rfl
theorem yV(h:bk)(o:hC)(os:List hC):eQ (h.push o) os=eQ h (o::os):=rfl
theorem J0{P:il}{o:hC}{os:List hC}(e:qD=o::os)(X:os.length=38):eQ ((kM (mQ P) 110 {}).push o) os=kM (xG P) 149 {}:=by refine ab (yV ..) (cA e (ab (Be qD (mQ P) 110 {} (SK P)) ?_));have:qD.length=39:=ab e (ab bu (ab X rfl));refine ab this ?_;delta xG;rfl
theorem VW(f:Nat->hC)(o:hC):((aG 37).map f++ [o]).length=38:=by refine ab cK (ab (aY ..) (ab eH ?_));rfl
theorem NV{C:List (jA aw×jA aw)}(w:cW)(os:dA)(ok:fj w kS C iT):
 Tr w (2000*650+2000) (RB (C.map λx=>(some x.1,x.2))) ⟨kM (mQ w.params) 110 {},#[],{},408,os⟩ kS (.ref 110) ⟨kM (xG w.params) 149 {},#[],{},2358,os⟩ kS:=by
 have g:(kM (mQ w.params) 110 {}).objs.size=110:=absHeap_size _ _ _;have d:=Di (w:=w) (p:=kS) (H:=kM (mQ w.params) 110 {}) (gens:= #[]) (drawn:={}) (os:=os) (t0:=408) ok ((pD iT 0 rE).1) (by refine ab g ?_;decide) (by refine ab sI ?_;decide) 37 4 (sI) (by decide) (by decide);rw[sI,g,J0 GJ (VW _ _)]at d;exact d
theorem PG(w:cW)(os:dA)(p:eO):Tr w 1310000 (fe (.Dict qB qL kS) nU.jI) ⟨kM (mQ w.params) 110 {},#[],{},408,os⟩ p (.ref 110) ⟨kM (xG w.params) 149 {},#[],{},2358,os⟩ kS:=aC (Kh (w:=w) (env:=nU.jI) (dpos:=kS) qB qL iT K2 λq D=>⟨aF (((pD iT 0 rE).2) q D).1,(((pD iT 0 rE).2) q D).2⟩) λC e1 ok=>ab (arm_eval_Dict ..)<|ab e1<|Tr.dm (n:=1) (n':=2000*650+2000) (k:=1310000) (Tr.at _) (NV w os ok)
theorem PI(w:cW)(os:dA):Tr w 7 LU ⟨kM (xG w.params) 149 {},#[],{},2358,os⟩ kS .next (H8 w.params os).abs ⟨171,0,171,13⟩:=by intro K H F D N r G;have g:=PC w os K H F D;dsimp only[qI]at g;rw[<-jz,<-zj]at g;exact L1 g G
theorem PH(w:cW)(os:dA)(p:eO):Tr w 1400000 (se (.Assign [.Name (qP "b3_exceptions") yT] (.Dict qB qL kS) Q8) nU.jI) (RI w.params os).abs p .next (H8 w.params os).abs ⟨171,0,171,13⟩:=Tr.dm (n:=1) (n':=1390000) (k:=1400000) (Tr.at _)<|Tr.dm (n:=0) (n':=1390000) (k:=1390000) (Tr.pure _)<|Tr.dm (n:=1310000) (n':=7) (k:=1390000) (PG w os _) (PI w os)
noncomputable abbrev Zu(w:cW)(os:dA):ao:=(Fx w.params os).abs
theorem RZ(w:cW)(os:dA)(rest:List bC)(N:Nat)(r:ao)
 (h:nC fM P0 w 11 rZ N (H8 w.params os).abs (H0 rest nU.jI c0 ⟨171,0,171,13⟩ B0)=some r):
 nC fM P0 w 11 rZ (N+1400000) (RI w.params os).abs (H0 (Bl 21 1++rest) nU.jI c0 ⟨169,0,170,30⟩ B0)=some r:=by
 refine ab Pr ?_;delta H0;exact ab DB<|ab (execs_cons_wrap ..)<|PH w os _ _ _ _ _ N r h
theorem pE{w:cW}{n N:Nat}{s s':r9}{r:ao}{l rest:List bC}{pos p':eO}
 (h:Ho rP P0 w 11 rZ 1 n s ⟨(sP l nU.jI).wrap doneF RA id id,c0,pos,B0⟩=some (.next,s',c0,p'))
 (k:nC fM P0 w 11 rZ N s'.abs (H0 rest nU.jI c0 p' B0)=some r):nC fM P0 w 11 rZ (n+N) s.abs (H0 (l++rest) nU.jI c0 pos B0)=some r:=by
 unfold Ho sP at h;rw[<-PySem.W.Fast.te10110043849684766642,<-zj,<-PySem.W.Fast.te12563942051412417395]at h;exact piece_app (segRun_of h) k
theorem So(w:cW)(os:dA):nC fM P0 w 11 rZ 2 (Fx w.params os).abs (H0 [] nU.jI c0 ⟨278,0,314,93⟩ B0)=some (Fx w.params os).abs:=by kernel_rfl
theorem Cj:qQ P0=Bl 0 19++(Bl 19 1++(Bl 20 1++(Bl 21 1++(Bl 22 13++ [])))):=by kernel_rfl
theorem Pg(w:cW)(os:dA):nC fM P0 w 11 rZ (12+(1+(460+(999+(30+((380+2)+1400000)))))) ⟨mI w.params,#[],HX,Ql,os⟩ (topStub P0)=some (Fx w.params os).abs:=by
 have g:=TH w os;unfold qI rP ES at g;rw[<-jz,<-jy,<-PySem.W.Fast.te11892475500146522536]at g;refine go_top g ?_;have b:=IT w os;unfold EV rP at b;rw[<-PySem.W.Fast.te14374325043358763698,<-jy]at b;refine piece_block b ?_;have S:nC fM P0 w 11 rZ (460+(999+(30+((380+2)+1400000)))) (H7 w.params os).abs (H0 (Bl 0 19++(Bl 19 1++(Bl 20 1++(Bl 21 1++(Bl 22 13++ []))))) nU.jI c0 ⟨0,0,0,0⟩ B0)=some (Fx w.params os).abs:=by have A:=Li w os;unfold Lh at A;refine pE A ?_;have B:=Wv (w.params.followText "special-get-raises") w os;rw[Qk]at B;refine pE B ?_;have C:=Lk w os;unfold Lj at C;refine pE C<|RZ w os _ _ _ ?_;have D:=Lm w os;unfold Ll at D;exact pE D (So w os)
 rw[<-Cj]at S;exact S
noncomputable def GI:hC:=dG (oJ 50 408 iT).flatten
noncomputable def Xk(s:ao):Option hC×Option hC:=(s.heap.get? 99,s.heap.get? 110)
noncomputable def Xj(w:cW):Option hC×Option hC:=(some (Uz w.params),some GI)
theorem V3(w:cW)(os:dA):Xk (S1 w os)=Xj w:=by kernel_rfl
theorem TB:opening P0=plainProg P0.main.scope.names:=by kernel_rfl
theorem Sm(s:ao):fenceModules? P0 s=some s:=by kernel_rfl
theorem WL(w:cW):((mI w.params).isNs d8&&(YL ([]:List xT)).size==0,(mI w.params).objs.size,(mI w.params).nsMap d8 "__annotations__")=(true,11,rZ):=by kernel_rfl
theorem VV:LeftO P0 q0 kl Va Xk Xj 2000000:=by
 refine LeftO.of_pieces (H₀:=mI) (H₁:=H1) (gs₀:=YL []) (gs₁:= #[]) (d₀:=HX) (d₁:={}) (k₀:=Ql) (k₁:=2474) (m₀:=11) (ann:=rZ)
  (M:=12+(1+(460+(999+(30+((380+2)+1400000)))))) (boot_open TB (by rfl) Sm) WL (λw os=>Pg w os) (by rfl) λw=>?_
 funext os;have l6:=V2 w os;dsimp only[xE]at l6;rw[<-PySem.W.Fast.te4187177175401517315]at l6;have l3:=V0 w os;have l7:=V3 w os;unfold S1 at l3 l6 l7;exact ab (VY w os)<|ab (VZ w os)<|ab (V1 w os)<|YQ (by refine ab l3 ?_;rfl) (YQ l6 l7)
def H9(mg:bj->Option aw)(h:bk):Prop:=(mg "b1_set"=some (.ref 99)/\mg "b3_exceptions"=some (.ref 110))/\tC mg h "_int2digits"=some (.ref PD)/\tC mg h "_digits2int"=some (.ref T9)
theorem He{h:bk}{c v:aw}(e:Rk h c=some v){I:Prop}(N:∀a o vs,c=.ref a->h.get? a=some o->o.data=.fields vs->vs[11]? =some v->I):I:=
 aC (aZ e) λa J e=>aC (aZ e) λo U e=>aC (aZ e) λvs S e=>N a o vs (EE J) U (NX S) e
theorem JM{mg:bj->Option aw}{h:bk}{x:bj}{v:aw}(e:fnOf mg h x=some v){I:Prop}(N:∀a o fd,mg x=some (.ref a)->h.get? a=some o->o.data=.func fd->fd.code=v->I):I:=
 aC (aZ e) λv J e=>aC (aZ e) λa U e=>aC (aZ e) λo S e=>bW e λfd d O=>N a o fd (EE U▸J) S (JS d) O
theorem sM{mg:bj->Option aw}{h:bk}{x:bj}{v:aw}(e:tC mg h x=some v){I:Prop}(N:∀a o fd c A vs,mg x=some (.ref a)->h.get? a=some o->o.data=.func fd->fd.code=.ref c->h.get? c=some A->A.data=.fields vs->vs[11]? =some v->I):I:=
 aC (aZ e) λcd P e=>JM P λa o fd J U S d=>He e λc A vs f j t g4=>N a o fd c A vs J U S (d.trans f) j t g4
theorem Bo{mg:bj->Option aw}{h:bk}{x:bj}{v:aw}{a c:az}{o A:hC}{fd:xS}{vs:Array aw}(J:mg x=some (.ref a))(U:h.get? a=some o)(S:o.data=.func fd)(d:fd.code=.ref c)(O:h.get? c=some A)
 (X:A.data=.fields vs)(V:vs[11]? =some v):tC mg h x=some v:=by
 have e:fnOf mg h x=some (.ref c):=by show((mg x).bind _)=_;refine ab J ?_;show((h.get? a).bind _)=_;refine ab U ?_;show((JR o.data).map _)=_;exact ab S<|congrArg some d
 delta tC;refine ab e ?_;show((h.get? c).bind _)=some v;refine ab O ?_;show((Sp A.data).bind _)=some v;exact ab X<|V
theorem P2(mg:bj->Option aw)(h h':bk)(a:H9 mg h)(k:∀b o,h.get? b=some o->h'.get? b=some o):H9 mg h':=by
 refine⟨a.1,?_,?_⟩
 ·exact sM a.2.1 λa o fd c A vs J U S d O X V=>Bo J (k _ _ U) S d (k _ _ O) X V
 ·exact sM a.2.2 λa o fd c A vs J U S d O X V=>Bo J (k _ _ U) S d (k _ _ O) X V
def Ib(w:cW)(h:bk):Prop:=h.get? 99=some (Uz w.params)/\h.get? 110=some GI
theorem W9(s:ao)(e:Va s=true):H9 (s.heap.nsMap d8) s.heap:=by delta Va at e;simp only[au,beq_iff_eq]at e;exact e
theorem Xb(w:cW)(s:ao)(e:Xk s=Xj w):Ib w s.heap:=⟨congrArg Prod.fst e,congrArg Prod.snd e⟩
noncomputable abbrev MP:=PySem.Challenge.rw_uc0054_01.row
theorem WJ:PySem.Challenge.rw_uc0054_01.wellSaid=true:=by kernel_rfl
theorem V9(V:∀d C,defOf q0 MP.name=some (d,C)->WalkO q0 kl H9 Ib MP.toRowW d C λf vs=>PySem.call f vs):PySem.Challenge.rw_uc0054_01.Holds:=by
 w_on
 refine holds_law WJ λA=>holds_open (q:=q0) (loose:=kl) (Xt:=Va) (XP:=H9) (Yf:=Xk) (Ya:=Xj) (YP:=Ib) (N:=2000000) VV Xb (λw h h' a k=>⟨k _ _ a.1,k _ _ a.2⟩) W9 P2 (by rfl) (by rfl) (by rfl) (λs e=>recFacts_nil rfl) (by rfl) (by assumption) (by decide+kernel) ⟨rfl,rfl,rfl,rfl,rfl,by decide+kernel⟩ ?o ?V
 case o=>w_witness2
 case V=>exact V _ _ (by rfl)
end
inductive AV where
 |c|none|bool (b:Bool)|int (i:Int)|str (x:List Nat)|tup (l:List AV)|lst (l:List AV)|ref (n:Nat)
inductive kR where
 |bX (i:Nat)|many (l:List Nat)
set_option genInjectivity false in
set_option genCtorIdx false in
inductive CE where
 |u|v (b:Bool)|d (i:Int)|l (x:List Nat)
 |a (i:Nat)
 |n (k:Nat)
 |f (op:cV) (a b:CE)
 |neg (a:CE)|inv (a:CE)
 |D (a b:CE)
 |cmp (op:kF) (a b:CE)
 |C (op op2:kF) (a b c:CE)
 |B (a:CE)|band (l:List CE)|bor (l:List CE)
 |N (t a b:CE)
 |list (l:List CE)|tuple (l:List CE)
 |sub (a i:CE)
 |F (a lo:CE)|A (a hi:CE)|I (a lo hi:CE)
 |len (a:CE)|G (l:List CE)
 |Cq (a:CE)|R (a:CE)|U (a b:CE)|E (a:CE)|sorted (a:CE)|Ad (a:CE)|S (a:CE)|divmod (a b:CE)
 |lower (a:CE)|upper (a:CE)|yY (a:CE) (x y:List Nat)|join (a:CE)|index (a b:CE)|qj (a:CE)
 |J5 (a:CE)|xb (a:CE)
 |call (f:Nat) (l:List CE)
 |comp (e:CE) (t:kR) (it:CE)|z (e:CE) (t:kR) (it c:CE)
 |j (l:List CE)|M (a:CE)|J (a:CE)
set_option genInjectivity false in
set_option genCtorIdx false in
inductive CS where
 |cI (t:kR) (e:CE)|Cf (i j:Nat) (e:CE)
 |new (i:Nat) (e:CE)|GG (i:Nat) (row it:CE) (x:Nat)
 |K (a ix e:CE)
 |aug (i:Nat) (op:cV) (e:CE)|Z (i:Nat) (ix:CE) (op:cV) (e:CE)
 |ite (c:CE) (a b:List CS)|P (c:CE) (b:List CS)|m (t:kR) (it:CE) (b:List CS)
 |ret (e:CE)|brk|K5
 |app (i:Nat) (e:CE)|rev (i:Nat)
 |q (i:Nat)
noncomputable def CE.ix(e:CE):Nat:=CE.casesOn (motive_1:=λz=>Nat) e 0 (λz=>1) (λz=>2) (λz=>3) (λz=>4) (λz=>5) (λz z z=>6) (λz=>7) (λz=>8) (λz z=>9) (λz z z=>10) (λz z z z z=>11) (λz=>12) (λz=>13) (λz=>14) (λz z z=>15) (λz=>16) (λz=>17) (λz z=>18) (λz z=>19) (λz z=>20) (λz z z=>21) (λz=>22) (λz=>23) (λz=>24) (λz=>25) (λz z=>26) (λz=>27) (λz=>28) (λz=>29) (λz=>30) (λz z=>31) (λz=>32) (λz=>33) (λz z z=>34) (λz=>35) (λz z=>36) (λz=>37) (λz=>38) (λz=>39) (λz z=>40) (λz z z=>41) (λz z z z=>42) (λz=>43) (λz=>44) (λz=>45)
noncomputable def CE.good(e:CE):Bool:= [2,4,16,23,43,44,45].contains e.ix
noncomputable def CE.RW.{u}{P:CE->Sort u}(e:CE)(C:∀(i:Int),P (.d i))(G:∀(i:Nat),P (.a i))(D:∀(l:List CE),P (.list l))(A:∀(l:List CE),P (.G l))(B:∀(l:List CE),P (.j l))(E:∀(a:CE),P (.M a))(F:∀(a:CE),P (.J a))(M:e.good=false->P e):P e:=
 CE.casesOn (motive_1:=λe=>(e.good=false->P e)->P e) e (λk=>k rfl) (λz k=>k rfl) (λi z=>C i) (λz k=>k rfl) (λi z=>G i) (λz k=>k rfl) (λz z z k=>k rfl) (λz k=>k rfl) (λz k=>k rfl) (λz z k=>k rfl) (λz z z k=>k rfl) (λz z z z z k=>k rfl) (λz k=>k rfl) (λz k=>k rfl) (λz k=>k rfl) (λz z z k=>k rfl) (λl z=>D l) (λz k=>k rfl) (λz z k=>k rfl) (λz z k=>k rfl) (λz z k=>k rfl) (λz z z k=>k rfl) (λz k=>k rfl) (λl z=>A l) (λz k=>k rfl) (λz k=>k rfl) (λz z k=>k rfl) (λz k=>k rfl) (λz k=>k rfl) (λz k=>k rfl) (λz k=>k rfl) (λz z k=>k rfl) (λz k=>k rfl) (λz k=>k rfl) (λz z z k=>k rfl) (λz k=>k rfl) (λz z k=>k rfl) (λz k=>k rfl) (λz k=>k rfl) (λz k=>k rfl) (λz z k=>k rfl) (λz z z k=>k rfl) (λz z z z k=>k rfl) (λl z=>B l) (λa z=>E a) (λa z=>F a) M
theorem nL{n:Nat}{e:CE}(Q: [2,4,16,23,43,44,45].contains n=true)(g:e.good=false)(h:e.ix=n):False:=aB (g.symm.trans ((congrArg (List.contains [2,4,16,23,43,44,45]) h).trans Q))
noncomputable def CE.Ct.{u}{motive_1:CE->Sort u}(e:CE)(h:e.ix=2)(k:∀(i:Int),motive_1 (.d i)):motive_1 e:=
 CE.RW (P:=λe=>e.ix=2->motive_1 e) e (λi z=>k i) (λz h=>absurd h (aE rfl)) (λz h=>absurd h (aE rfl)) (λz h=>absurd h (aE rfl)) (λz h=>absurd h (aE rfl)) (λz h=>absurd h (aE rfl)) (λz h=>absurd h (aE rfl)) (λg h=>(nL rfl g h).elim) h
noncomputable def CE.Vr.{u}{motive_1:CE->Sort u}(e:CE)(h:e.ix=4)(k:∀(i:Nat),motive_1 (.a i)):motive_1 e:=
 CE.RW (P:=λe=>e.ix=4->motive_1 e) e (λz h=>absurd h (aE rfl)) (λi z=>k i) (λz h=>absurd h (aE rfl)) (λz h=>absurd h (aE rfl)) (λz h=>absurd h (aE rfl)) (λz h=>absurd h (aE rfl)) (λz h=>absurd h (aE rfl)) (λg h=>(nL rfl g h).elim) h
noncomputable def CE.yr.{u}{motive_1:CE->Sort u}(e:CE)(h:e.ix=16)(k:∀(l:List CE),motive_1 (.list l)):motive_1 e:=
 CE.RW (P:=λe=>e.ix=16->motive_1 e) e (λz h=>absurd h (aE rfl)) (λz h=>absurd h (aE rfl)) (λl z=>k l) (λz h=>absurd h (aE rfl)) (λz h=>absurd h (aE rfl)) (λz h=>absurd h (aE rfl)) (λz h=>absurd h (aE rfl)) (λg h=>(nL rfl g h).elim) h
noncomputable def CE.Jn.{u}{motive_1:CE->Sort u}(e:CE)(h:e.ix=23)(k:∀(l:List CE),motive_1 (.G l)):motive_1 e:=
 CE.RW (P:=λe=>e.ix=23->motive_1 e) e (λz h=>absurd h (aE rfl)) (λz h=>absurd h (aE rfl)) (λz h=>absurd h (aE rfl)) (λl z=>k l) (λz h=>absurd h (aE rfl)) (λz h=>absurd h (aE rfl)) (λz h=>absurd h (aE rfl)) (λg h=>(nL rfl g h).elim) h
noncomputable def CE.Jm.{u}{motive_1:CE->Sort u}(e:CE)(h:e.ix=43)(k:∀(l:List CE),motive_1 (.j l)):motive_1 e:=
 CE.RW (P:=λe=>e.ix=43->motive_1 e) e (λz h=>absurd h (aE rfl)) (λz h=>absurd h (aE rfl)) (λz h=>absurd h (aE rfl)) (λz h=>absurd h (aE rfl)) (λl z=>k l) (λz h=>absurd h (aE rfl)) (λz h=>absurd h (aE rfl)) (λg h=>(nL rfl g h).elim) h
noncomputable def CE.Se.{u}{motive_1:CE->Sort u}(e:CE)(h:e.ix=44)(k:∀(a:CE),motive_1 (.M a)):motive_1 e:=
 CE.RW (P:=λe=>e.ix=44->motive_1 e) e (λz h=>absurd h (aE rfl)) (λz h=>absurd h (aE rfl)) (λz h=>absurd h (aE rfl)) (λz h=>absurd h (aE rfl)) (λz h=>absurd h (aE rfl)) (λa z=>k a) (λz h=>absurd h (aE rfl)) (λg h=>(nL rfl g h).elim) h
noncomputable def CE.Sd.{u}{motive_1:CE->Sort u}(e:CE)(h:e.ix=45)(k:∀(a:CE),motive_1 (.J a)):motive_1 e:=
 CE.RW (P:=λe=>e.ix=45->motive_1 e) e (λz h=>absurd h (aE rfl)) (λz h=>absurd h (aE rfl)) (λz h=>absurd h (aE rfl)) (λz h=>absurd h (aE rfl)) (λz h=>absurd h (aE rfl)) (λz h=>absurd h (aE rfl)) (λa z=>k a) (λg h=>(nL rfl g h).elim) h
noncomputable def vA(e:CS):Bool:=CS.casesOn (motive_1:=λz=>Bool) e (λz z=>false) (λz z z=>false) (λz z=>false) (λz z z z=>false) (λz z z=>false) (λz z z=>false) (λz z z z=>false) (λz z z=>false) (λz z=>false) (λz z z=>false) (λz=>false) false false (λz z=>false) (λz=>false) (λz=>true)
noncomputable abbrev St:=List (Option (List AV))
noncomputable abbrev Loc:=List AV
noncomputable def jX(st:St):AV->Option (List AV)
 | .lst l=>some l
 | .ref n=>(st[n]?).join
 |_=>none
mutual
noncomputable def jP:AV->Bool
 | .ref _=>false
 | .c=>false
 | .tup l=>dU l
 | .lst l=>dU l
 |_=>true
noncomputable def dU:List AV->Bool
 | []=>true
 |a::l=>jP a&&dU l
end
theorem mz:(dU []=(true))/\
 (∀a l,dU (a::l)=(jP a&&dU l)):=⟨by intros;rfl,by intros;rfl⟩
theorem qC:(∀A,jP (.ref A)=(false))/\
 (jP (.c)=(false))/\
 (∀l,jP (.tup l)=(dU l))/\
 (∀l,jP (.lst l)=(dU l))/\
 (∀b,jP (.bool b)=true)/\
 (∀b,jP (.int b)=true)/\
 (∀b,jP (.str b)=true)/\
 jP .none=true:=⟨by intros;rfl,by intros;rfl,by intros;rfl,by intros;rfl,by intros;rfl,by intros;rfl,by intros;rfl,by intros;rfl⟩
noncomputable def QJ:AV->AV->Option Bool
 | .int a,.int b=>some (a==b)
 | .str a,.str b=>some (a==b)
 |_,_=>none
theorem NJ:(∀a b,QJ (.int a) (.int b)=(some (a==b)))/\
 (∀a b,QJ (.str a) (.str b)=(some (a==b))):=⟨by intros;rfl,by intros;rfl⟩
noncomputable def Ap:List AV->List AV->Option Bool
 | [],[]=>some true
 |a::l,b::m=>do return(<-QJ a b)&&(<-Ap l m)
 |_,_=>none
theorem QK:(Ap [] []=(some true))/\
 (∀a l b m,Ap (a::l) (b::m)=(do return(<-QJ a b)&&(<-Ap l m))):=⟨by intros;rfl,by intros;rfl⟩
noncomputable def D0(l m:List AV):Option Bool:=if l.length=m.length then Ap l m else some false
noncomputable def qp(st:St)(a b:AV):Option Bool:=
 match a,b with
 | .int a,.int b=>some (a==b)
 | .str a,.str b=>some (a==b)
 | .bool a,.bool b=>some (a==b)
 |a,b=>do D0 (<-jX st a) (<-jX st b)
noncomputable def CH(x:AV):List AV->Option Bool
 | []=>some false
 |a::l=>do return(<-QJ a x)||(<-CH x l)
theorem VJ:(∀x,CH x []=(some false))/\
 (∀x a l,CH x (a::l)=(do return(<-QJ a x)||(<-CH x l))):=⟨by intros;rfl,by intros;rfl⟩
noncomputable def xc(y x:List Nat):Bool:= !(qa ⟨x.toArray⟩ ⟨y.toArray⟩ 0 x.length 1).isEmpty
noncomputable def cB:Nat:=10000
noncomputable def cU(st:St):AV->Option Bool
 | .none=>some false
 | .bool b=>some b
 | .int i=>some (i !=0)
 | .str x=>if x.length<=cB then some (!x.isEmpty)else none
 |_=>none
noncomputable def binI:cV->Int->Int->Option Int
 | .Add,a,b=>some (a+b)
 | .Sub,a,b=>some (a-b)
 | .Mult,a,b=>if a.natAbs.log2+b.natAbs.log2<=100000\/b.natAbs<2^63\/a.natAbs<2^63 then some (a*b)else none
 | .FloorDiv,a,b=>if b=0\/9000<=b.natAbs.log2 then none else some (a.fdiv b)
 | .Mod,a,b=>if b=0 then none else some (a.fmod b)
 | .Pow,a,b=>if 0<=b/\b<=1000000/\a.natAbs<2^64 then some (a^b.toNat)else none
 | .LShift,a,b=>if 0<=b/\(ag a:Int)+b<=2^27 then some (a*2^b.toNat)else none
 | .RShift,a,b=>if 0<=b then some (a.fdiv (2^b.toNat))else none
 | .BitAnd,a,b=>some (E8 a b)
 | .BitOr,a,b=>some (HN a b)
 | .BitXor,a,b=>some (YM a b)
 |_,_,_=>none
noncomputable def jv(st:St)(op:cV)(a b:AV):Option AV:=
 match a,b with
 | .int a,.int b=>(binI op a b).map .int
 | .str x,.str y=>match op with
   | .Add=>if x.length+y.length<=cB then some (.str (x++y))else none
   |_=>none
 |a,b=>match op with
  | .Add=>do
    let l<-jX st a;let m<-jX st b
    if l.length+m.length<=cB then some (.lst (l++m))else none
  |_=>none
noncomputable def Uw(a b:AV):Option Bool:=
 match a,b with
 | .none,.none=>some true
 | .int _,.none=>some false
 | .str _,.none=>some false
 | .bool _,.none=>some false
 | .bool a,.bool b=>some (a==b)
 |_,_=>none
noncomputable def fk(st:St)(op:kF)(a b:AV):Option Bool:=
 match op with
 | .Eq=>qp st a b
 | .NotEq=>(qp st a b).map (!·)
 | .Lt=>match a,b with| .int a,.int b=>some (decide (a<b))|_,_=>none
 | .LtE=>match a,b with| .int a,.int b=>some (decide (a<=b))|_,_=>none
 | .Gt=>match a,b with| .int a,.int b=>some (decide (b<a))|_,_=>none
 | .GtE=>match a,b with| .int a,.int b=>some (decide (b<=a))|_,_=>none
 | .Is=>Uw a b
 | .IsNot=>(Uw a b).map (!·)
 | .In=>match a,b with
   | .str y,.str x=>some (xc y x)
   |a,b=>do CH a (<-jX st b)
 | .NotIn=>match a,b with
   | .str y,.str x=>some (!xc y x)
   |a,b=>(do CH a (<-jX st b)).map (!·)
noncomputable def te(st:St):AV->Option AV
 | .str x=>if x.length<=cB then some (.int x.length)else none
 |v=>do
  let l<-jX st v
  if l.length<=cB then some (.int l.length)else none
noncomputable def ll(i:Int)(n:Nat):Option Nat:=
 if n<=cB then(if 0<=i/\i<n then some i.toNat else if i<0/\0<=i+n then some (i+n).toNat else none)else none
noncomputable def gF(st:St)(a i:AV):Option AV:=
 match i with
 | .int i=>match a with
   | .str x=>do return .str [<-x[<-ll i x.length]?]
   | .tup l=>do l[<-ll i l.length]?
   |a=>do
    let l<-jX st a
    l[<-ll i l.length]?
 |_=>none
noncomputable def kA(n:Nat)(d:Nat):AV->Option Nat
 | .none=>some d
 | .int i=>some (if i<0 then(i+(n:Nat)).toNat else min i.toNat n)
 |_=>none
noncomputable def vO(a lo hi:AV):Option AV:=
 match a with
 | .str x=>do
   let l<-kA x.length 0 lo;let h<-kA x.length x.length hi
   if x.length<=cB then some (.str ((x.take h).drop l))else none
 |_=>none
noncomputable def gV(a c:Int)(n:Nat):List Int:=(aG n).map λ(k:Nat)=>a+(k:Int)*c
noncomputable def eE:AV->Option Int
 | .int i=>some i
 |_=>none
noncomputable def refOf:AV->Option Nat
 | .ref i=>some i
 |_=>none
noncomputable def tl:AV->Option (List AV)
 | .lst i=>some i
 |_=>none
theorem oX{a:AV}{i:Nat}(h:refOf a=some i):a=.ref i:=cx (P:=λi=>a=.ref i) (by rcases a with⟨⟩<;>first|exact fc|exact rfl) h
theorem AR{a:AV}{i:List AV}(h:tl a=some i):a=.lst i:=cx (P:=λi=>a=.lst i) (by rcases a with⟨⟩<;>first|exact fc|exact rfl) h
@[simp] theorem GW(i:Nat):refOf (.ref i)=some i:=rfl
@[simp] theorem Uy(i:List AV):tl (.lst i)=some i:=rfl
noncomputable def jH:AV->Option (List Nat)
 | .str x=>some x
 |_=>none
theorem T3:∀(x:List Nat) (lo hi:AV),vO (.str x) lo hi=(do
 let l<-kA x.length 0 lo;let h<-kA x.length x.length hi
 if x.length<=cB then some (.str ((x.take h).drop l))else none):=by intros;rfl
theorem tZ{B A:Type}{o:Option B}{a:B}{f:B->Option A}{R:Option A}(h:o=some a)(k:f a=R):(o>>=f)=R:=by subst h;exact k
theorem dn{B A:Type}{o:Option B}{F:B->Option A}{b:A}{P:Prop}(h:o.bind F=some b)(k:∀a,o=some a->F a=some b->P):P:=(aZ h).elim λa h=>k a h.1 h.2
@[simp] theorem lC(i:Int):eE (.int i)=some i:=rfl
@[simp] theorem FO(i:List Nat):jH (.str i)=some i:=rfl
noncomputable def oU(k m:Nat)(l:List AV):List (List AV):=bw m l++ [(aG m).map λj=>AV.ref (k+j)]
theorem iE{a:AV}{i:Int}(h:eE a=some i):a=.int i:=cx (P:=λi=>a=.int i) (by rcases a with⟨⟩<;>first|exact fc|exact rfl) h
theorem uL{a:AV}{i:List Nat}(h:jH a=some i):a=.str i:=cx (P:=λi=>a=.str i) (by rcases a with⟨⟩<;>first|exact fc|exact rfl) h
noncomputable def dM:List AV->Option (List Int)
 | []=>some []
 |a::l=>(eE a).bind λi=>(dM l).map (i::·)
noncomputable def pa:List AV->Option (List (List Nat))
 | []=>some []
 |a::l=>(jH a).bind λi=>(pa l).map (i::·)
noncomputable def l0{B:Type}:List B->Option Unit
 | []=>some ()
 |_=>none
theorem lR{B:Type}{l:List B}{q:Unit}(h:l0 l=some q):l= []:=by
 rcases l with _|⟨a,l⟩
 ·rfl
 ·injection h
noncomputable def l1{B:Type}:List B->Option B
 | []=>none
 |a::l=>(l0 l).map λz=>a
theorem xf{B:Type}{a b:B}{x:Option Unit}(h:x.map (λz=>a)=some b):a=b/\∃u,x=some u:=by
 rcases x with _|u
 ·injection h
 ·injection h with F;subst F;exact⟨rfl,u,rfl⟩
theorem gL{B:Type}{l:List B}{q:B}(h:l1 l=some q):l= [q]:=by
 rcases l with _|⟨a,l⟩
 ·injection h
 ·obtain⟨e,u,N⟩:=xf h;exact ab (lR N) (ab e rfl)
noncomputable def Wr:List Int->Option (Int×Int×Int)
 | []=>none
 |b:: []=>some (0,b,1)
 |a::b::l=>match l with
  | []=>some (a,b,1)
  |c::l=>(l0 l).map λz=>(a,b,c)
noncomputable def rF(a b c:Int):Nat:=(if a<b then(b-a-1)/c+1 else 0).toNat
noncomputable def lx(l:List AV):Option (List AV):=(dM l).bind λns=>(Wr ns).bind λq=>
 if 0<q.2.2/\q.2.2<=1000/\q.2.1-q.1<=cB/\q.1.natAbs<=2^31/\q.2.1.natAbs<=2^31 then some ((gV q.1 q.2.2 (rF q.1 q.2.1 q.2.2)).map .int)else none
noncomputable def KD:List Int->Option Int
 | []=>none
 |a::l=>some (l.foldl (λm b=>if m<b then b else m) a)
noncomputable def KE:List Int->Option Int
 | []=>none
 |a::l=>some (l.foldl (λm b=>if b<m then b else m) a)
noncomputable def insI(a:Int):List Int->List Int
 | []=> [a]
 |b::l=>if a<=b then a::b::l else b::insI a l
theorem QW:(∀a,insI a []=([a]))/\
 (∀a b l,insI a (b::l)=(if a<=b then a::b::l else b::insI a l)):=⟨by intros;rfl,by intros;rfl⟩
noncomputable def sortI:List Int->List Int
 | []=> []
 |a::l=>insI a (sortI l)
noncomputable def ff:Nat->Bool->List Nat->List AV
 |p,false,[]=> []
 |p,true,[]=> [.tup [.int (p-1:Nat),.str [92]]]
 |p,true,c::l=>.tup [.int p,.str [92,c]]::ff (p+1) false l
 |p,false,c::l=>if c=92 then ff (p+1) true l else .tup [.int p,.str [c]]::ff (p+1) false l
theorem pV:(∀p,ff p false []=([]))/\
 (∀p,ff p true []=([.tup [.int (p-1:Nat),.str [92]]]))/\
 (∀p c l,ff p true (c::l)=(.tup [.int p,.str [92,c]]::ff (p+1) false l))/\
 (∀p c l,ff p false (c::l)=(if c=92 then ff (p+1) true l else .tup [.int p,.str [c]]::ff (p+1) false l)):=⟨by intros;rfl,by intros;rfl,by intros;rfl,by intros;rfl⟩
noncomputable def fQ(st:St):AV->Option (List AV)
 | .lst l=>if l.length<=cB then some l else none
 | .str x=>if x.length<=cB then some (x.map λc=>.str [c])else none
 |_=>none
noncomputable def ek(loc:Loc)(i:Nat)(v:AV):Option Loc:=if i<loc.length then some (loc.set i v)else none
noncomputable def jT:Loc->List Nat->List AV->Option Loc
 |loc,[],[]=>some loc
 |loc,i::I,v::vs=>do jT (<-ek loc i v) I vs
 |_,_,_=>none
theorem Lz:(∀loc,jT loc [] []=(some loc))/\
 (∀loc i I v vs,jT loc (i::I) (v::vs)=(do jT (<-ek loc i v) I vs)):=⟨by intros;rfl,by intros;rfl⟩
noncomputable def cT(loc:Loc):kR->AV->Option Loc
 | .bX i,v=>ek loc i v
 | .many I,.tup vs=>jT loc I vs
 | .many _,_=>none
noncomputable def gm(f:AV->Option (Option AV)):List AV->Option (List AV)
 | []=>some []
 |a::l=>do
  match<-f a with
  |some b=>return b::(<-gm f l)
  |none=>gm f l
theorem ql:(∀f,gm f []=(some []))/\
 (∀f a l,gm f (a::l)=(do
 match<-f a with
 |some b=>return b::(<-gm f l)
 |none=>gm f l)):=⟨by intros;rfl,by intros;rfl⟩
set_option genInjectivity false in
set_option genCtorIdx false in
structure dC where
 Y:List Int
 b1:List Int
 b3:Int->Option (List Nat)
 O:Nat->List AV->Option AV
noncomputable def strOf(x:List Nat):bj:=⟨x.toArray⟩
noncomputable def gE(x:List Nat):List Nat:=(Txt.lower (strOf x)).cps.toList
noncomputable def qJ(x:List Nat):List Nat:=(Txt.upper (strOf x)).cps.toList
noncomputable def tv(x y z:List Nat):List Nat:=(Txt.replace (strOf x) (strOf y) (strOf z)).cps.toList
mutual
noncomputable def ev(C:dC)(st:St):CE->Loc->Option AV
 | .u,_=>some .none
 | .v b,_=>some (.bool b)
 | .d i,_=>some (.int i)
 | .l x,_=>some (.str x)
 | .a i,loc=>match loc[i]? with
   |none=>none
   |some .c=>none
   |some v=>some v
 | .n k,_=>(C.Y[k]?).map .int
 | .f op a b,loc=>do jv st op (<-ev C st a loc) (<-ev C st b loc)
 | .neg a,loc=>((ev C st a loc).bind eE).map λi=>.int (-i)
 | .inv a,loc=>((ev C st a loc).bind eE).map λi=>.int (-i-1)
 | .D a b,loc=>do
   let x<-ev C st a loc
   if<-cU st x then return x else ev C st b loc
 | .cmp op a b,loc=>do
   let r<-fk st op (<-ev C st a loc) (<-ev C st b loc)
   return .bool r
 | .C op P a b c,loc=>do
   let x<-ev C st a loc;let y<-ev C st b loc
   if<-fk st op x y then do
    let r<-fk st P y (<-ev C st c loc)
    return .bool r
   else return .bool false
 | .B a,loc=>do return .bool (!(<-cU st (<-ev C st a loc)))
 | .band l,loc=>(uY C st l loc).map .bool
 | .bor l,loc=>(Cv C st l loc).map .bool
 | .N t a b,loc=>do if<-cU st (<-ev C st t loc)then ev C st a loc else ev C st b loc
 | .list l,loc=>(so C st l loc).map .lst
 | .tuple l,loc=>(so C st l loc).map .tup
 | .sub a i,loc=>do gF st (<-ev C st a loc) (<-ev C st i loc)
 | .F a lo,loc=>do vO (<-ev C st a loc) (<-ev C st lo loc) .none
 | .A a hi,loc=>do vO (<-ev C st a loc) .none (<-ev C st hi loc)
 | .I a lo hi,loc=>do vO (<-ev C st a loc) (<-ev C st lo loc) (<-ev C st hi loc)
 | .len a,loc=>do te st (<-ev C st a loc)
 | .G l,loc=>do return .lst (<-lx (<-so C st l loc))
 | .Cq a,loc=>do return .int (<-KD (<-dM (<-jX st (<-ev C st a loc))))
 | .R a,loc=>do return .int (<-KE (<-dM (<-jX st (<-ev C st a loc))))
 | .U a b,loc=>((ev C st a loc).bind eE).bind λa=>((ev C st b loc).bind eE).map λb=>.int (if b<a then b else a)
 | .E a,loc=>do return .int (<-dM (<-jX st (<-ev C st a loc))).sum
 | .sorted a,loc=>do
   let l<-dM (<-jX st (<-ev C st a loc))
   if l.length<64 then return .lst ((sortI l).map .int)else none
 | .Ad a,loc=>(((ev C st a loc).bind jH).bind l1).map λ(c:Nat)=>AV.int (c:Int)
 | .S a,loc=>((ev C st a loc).bind eE).bind λi=>if 0<=i/\i<=1114111 then some (.str [i.toNat])else none
 | .divmod a b,loc=>((ev C st a loc).bind eE).bind λa=>((ev C st b loc).bind eE).bind λb=>if b=0\/9000<=b.natAbs.log2 then none else some (.tup [.int (a.fdiv b),.int (a.fmod b)])
 | .lower a,loc=>((ev C st a loc).bind jH).bind λx=>if(gE x).length<=cB then some (.str (gE x))else none
 | .upper a,loc=>((ev C st a loc).bind jH).bind λx=>if(qJ x).length<=cB then some (.str (qJ x))else none
 | .yY a y z,loc=>((ev C st a loc).bind jH).bind λx=>if x.length<=cB/\z.length<=10/\y≠z then some (.str (tv x y z))else none
 | .join a,loc=>do
   let l<-pa (<-jX st (<-ev C st a loc))
   if l.flatten.length<=cB then return .str l.flatten else none
 | .index a b,loc=>((ev C st b loc).bind eE).bind λk=>do
   let l<-dM (<-jX st (<-ev C st a loc))
   if k∈l/\l.length<=cB then return .int (l.idxOf k:Nat)else none
 | .qj a,loc=>((ev C st a loc).bind eE).map λi=>.int (ag i)
 | .J5 a,loc=>((ev C st a loc).bind eE).map λi=>.bool (C.b1.contains i)
 | .xb a,loc=>((ev C st a loc).bind eE).map λi=>match C.b3 i with|some x=>.str x|none=>.none
 | .call f l,loc=>do
   let vs<-so C st l loc
   if dU vs then C.O f vs else none
 | .comp e t it,loc=>do
   let l<-fQ st (<-ev C st it loc)
   return .lst (<-gm (λv=>do return some (<-ev C st e (<-cT loc t v))) l)
 | .z e t it c,loc=>do
   let l<-fQ st (<-ev C st it loc)
   return .lst (<-gm (λv=>do
    let loc'<-cT loc t v
    if<-cU st (<-ev C st c loc')then return some (<-ev C st e loc')else return none) l)
 | .j l,loc=>do return .lst (<-lx (<-so C st l loc))
 | .M a,loc=>((ev C st a loc).bind tl).map λl=>.lst l.reverse
 | .J a,loc=>((ev C st a loc).bind jH).bind λx=>if x.length<=cB/\(C.O 8 [.str x]).isSome=true then some (.lst (ff 0 false x))else none
noncomputable def so(C:dC)(st:St):List CE->Loc->Option (List AV)
 | [],_=>some []
 |e::l,loc=>do
  let v<-ev C st e loc;let vs<-so C st l loc
  return v::vs
noncomputable def uY(C:dC)(st:St):List CE->Loc->Option Bool
 | [],_=>some true
 |e::l,loc=>do if<-cU st (<-ev C st e loc)then uY C st l loc else return false
noncomputable def Cv(C:dC)(st:St):List CE->Loc->Option Bool
 | [],_=>some false
 |e::l,loc=>do if<-cU st (<-ev C st e loc)then return true else Cv C st l loc
end
inductive Fl where
 |next|brk|ret (v:AV)
noncomputable def gh(G:Loc->St->Option Bool)(body:Loc->St->Option (Fl×Loc×St)):Nat->Loc->St->Option (Fl×Loc×St)
 |0,_,_=>none
 |n+1,loc,st=>do
  if<-G loc st then
   match<-body loc st with
   |(.next,loc',st')=>gh G body n loc' st'
   |(.brk,loc',st')=>return(.next,loc',st')
   |r=>return r
  else return(.next,loc,st)
theorem zp:(∀G body A C,gh G body 0 A C=(none))/\
 (∀G body n loc st,gh G body (n+1) loc st=(do
 if<-G loc st then
  match<-body loc st with
  |(.next,loc',st')=>gh G body n loc' st'
  |(.brk,loc',st')=>return(.next,loc',st')
  |r=>return r
 else return(.next,loc,st))):=⟨by intros;rfl,by intros;rfl⟩
noncomputable def iP(t:kR)(body:Loc->St->Option (Fl×Loc×St)):List AV->Loc->St->Option (Fl×Loc×St)
 | [],loc,st=>some (.next,loc,st)
 |v::l,loc,st=>do
  let loc'<-cT loc t v
  match<-body loc' st with
  |(.next,loc',st')=>iP t body l loc' st'
  |(.brk,loc',st')=>return(.next,loc',st')
  |r=>return r
theorem vg:(∀t body loc st,iP t body [] loc st=(some (.next,loc,st)))/\
 (∀t body v l loc st,iP t body (v::l) loc st=(do
 let loc'<-cT loc t v
 match<-body loc' st with
 |(.next,loc',st')=>iP t body l loc' st'
 |(.brk,loc',st')=>return(.next,loc',st')
 |r=>return r)):=⟨by intros;rfl,by intros;rfl⟩
noncomputable def jk(st:St):List AV->Option (List AV×St)
 | []=>some ([],st)
 | .ref n::l=>do
   let m<-(st[n]?).join
   if dU m then
    let(l',st')<-jk (st.set n none) l
    return(.lst m::l',st')
   else none
 |a::l=>if jP a then do
   let(l',st')<-jk st l
   return(a::l',st')
  else none
theorem AF:(∀st,jk st []=(some ([],st)))/\
 (∀st n l,jk st (.ref n::l)=(do
 let m<-(st[n]?).join
 if dU m then
  let(l',st')<-jk (st.set n none) l
  return(.lst m::l',st')
 else none)):=⟨by intros;rfl,by intros;rfl⟩
noncomputable def oG:AV->Bool
 | .int _| .str _=>true
 |_=>false
noncomputable def vB(e:CE):Bool:=e.ix==16||e.ix==23
noncomputable def Je(e:CE):Option Int:=if h:e.ix=2 then CE.Ct (motive_1:=λz=>Option _) e h (λi=>some i)else none
noncomputable def listOf(e:CE):Option (List CE):=if h:e.ix=16 then CE.yr (motive_1:=λz=>Option _) e h (λl=>some l)else none
theorem FQ{a:CE}{i:Int}(h:Je a=some i):a=.d i:=cx (P:=λi=>a=.d i) (rU λj=>CE.Ct (motive_1:=λe=>∀j,i9 (CE.Ct (motive_1:=λz=>Option _) e j (λi=>some i)) λi=>e=.d i) a j (λi z=>rfl) j) h
theorem Gs{a:CE}{i:List CE}(h:listOf a=some i):a=.list i:=cx (P:=λi=>a=.list i) (rU λj=>CE.yr (motive_1:=λe=>∀j,i9 (CE.yr (motive_1:=λz=>Option _) e j (λi=>some i)) λi=>e=.list i) a j (λi z=>rfl) j) h
noncomputable def pv:List CE->Option (List AV)
 | []=>some []
 |a::l=>(Je a).bind λi=>(pv l).map (.int i::·)
noncomputable def Ac(e:CE):Option (List AV):=(listOf e).bind pv
mutual
noncomputable def mY(C:dC):CS->Loc->St->Option (Fl×Loc×St)
 | .cI t e,loc,st=>do
   let v<-ev C st e loc
   return(.next,<-cT loc t v,st)
 | .Cf i j e,loc,st=>do
   let v<-ev C st e loc
   return(.next,<-ek (<-ek loc i v) j v,st)
 | .new i e,loc,st=>((ev C st e loc).bind tl).bind λl=>do if vB e then return(.next,<-ek loc i (.ref st.length),st++ [some l])else none
 | .GG i B it x,loc,st=>(Ac B).bind λl=>do
   let m<-fQ st (<-ev C st it loc)
   if x<loc.length then
    return(.next,<-ek loc i (.ref (st.length+m.length)),st++(oU st.length m.length l).map some)
   else none
 | .K a ix e,loc,st=>do
   let v<-ev C st e loc;let n<-refOf (<-ev C st a loc);let i<-eE (<-ev C st ix loc);let l<-(st[n]?).join
   if 0<=i/\i<l.length/\l.length<=cB then return(.next,loc,st.set n (some (l.set i.toNat v)))else none
 | .aug i op e,loc,st=>do
   let x<-ev C st (.a i) loc;let v<-ev C st e loc
   if oG x then return(.next,<-ek loc i (<-jv st op x v),st)else none
 | .Z i ix op e,loc,st=>do
   let n<-refOf (<-ev C st (.a i) loc);let k<-eE (<-ev C st ix loc);let l<-(st[n]?).join;let x<-l[k.toNat]?;let v<-ev C st e loc;let y<-jv st op x v
   if 0<=k/\k<l.length/\l.length<=cB/\oG x=true then return(.next,loc,st.set n (some (l.set k.toNat y)))else none
 | .ite c a b,loc,st=>do if<-cU st (<-ev C st c loc)then dh C a loc st else dh C b loc st
 | .P c b,loc,st=>gh (λloc st=>do cU st (<-ev C st c loc)) (λloc st=>dh C b loc st) 200 loc st
 | .m t it b,loc,st=>do iP t (λloc st=>dh C b loc st) (<-fQ st (<-ev C st it loc)) loc st
 | .ret e,loc,st=>do
   let v<-ev C st e loc
   if jP v then return(.ret v,loc,st)else none
 | .brk,loc,st=>some (.brk,loc,st)
 | .K5,_,_=>none
 | .app i e,loc,st=>do
   let v<-ev C st e loc;let n<-refOf (<-ev C st (.a i) loc);let l<-(st[n]?).join
   if l.length<=cB then return(.next,loc,st.set n (some (l++ [v])))else none
 | .rev i,loc,st=>do
   let n<-refOf (<-ev C st (.a i) loc);let l<-(st[n]?).join
   if l.length<=cB then return(.next,loc,st.set n (some l.reverse))else none
 | .q i,loc,st=>do
   let n<-refOf (<-ev C st (.a i) loc);let l<-(st[n]?).join;let r<-jk (st.set n none) l
   return(.next,<-ek loc i (.lst r.1),r.2)
noncomputable def dh(C:dC):List CS->Loc->St->Option (Fl×Loc×St)
 | [],loc,st=>some (.next,loc,st)
 |c::l,loc,st=>do
  match<-mY C c loc st with
  |(.next,loc',st')=>dh C l loc' st'
  |r=>return r
end
theorem sZ:(∀C loc st,dh C [] loc st=(some (.next,loc,st)))/\
 (∀C c l loc st,dh C (c::l) loc st=(do
 match<-mY C c loc st with
 |(.next,loc',st')=>dh C l loc' st'
 |r=>return r)):=⟨by intros;rfl,by intros;rfl⟩
set_option genInjectivity false in
set_option genCtorIdx false in
structure FD where
 y:Nat
 p:Nat
 body:List CS
noncomputable def iR(C:dC)(f:FD)(args:List AV):Option AV:=
 if args.length=f.p then
  match dh C f.body (args++bw (f.y-f.p) .c) []with
  |some (.ret v,_,_)=>some v
  |some (.next,_,_)=>some .none
  |_=>none
 else none
theorem fD:(∀(C:dC) (st:St) (H:Loc),ev C st .u H=(some .none))/\
 (∀(C:dC) (st:St) b (H:Loc),ev C st (.v b) H=(some (.bool b)))/\
 (∀(C:dC) (st:St) i (H:Loc),ev C st (.d i) H=(some (.int i)))/\
 (∀(C:dC) (st:St) x (H:Loc),ev C st (.l x) H=(some (.str x)))/\
 (∀(C:dC) (st:St) i (loc:Loc),ev C st (.a i) loc=(match loc[i]? with
   |none=>none
   |some .c=>none
   |some v=>some v))/\
 (∀(C:dC) (st:St) k (H:Loc),ev C st (.n k) H=((C.Y[k]?).map .int))/\
 (∀(C:dC) (st:St) op a b (loc:Loc),ev C st (.f op a b) loc=(do jv st op (<-ev C st a loc) (<-ev C st b loc)))/\
 (∀(C:dC) (st:St) a (loc:Loc),ev C st (.neg a) loc=(((ev C st a loc).bind eE).map λi=>.int (-i)))/\
 (∀(C:dC) (st:St) a (loc:Loc),ev C st (.inv a) loc=(((ev C st a loc).bind eE).map λi=>.int (-i-1)))/\
 (∀(C:dC) (st:St) a b (loc:Loc),ev C st (.D a b) loc=(do
   let x<-ev C st a loc
   if<-cU st x then return x else ev C st b loc))/\
 (∀(C:dC) (st:St) op a b (loc:Loc),ev C st (.cmp op a b) loc=(do
   let r<-fk st op (<-ev C st a loc) (<-ev C st b loc)
   return .bool r))/\
 (∀(C:dC) (st:St) op P a b c (loc:Loc),ev C st (.C op P a b c) loc=(do
   let x<-ev C st a loc;let y<-ev C st b loc
   if<-fk st op x y then do
    let r<-fk st P y (<-ev C st c loc)
    return .bool r
   else return .bool false))/\
 (∀(C:dC) (st:St) a (loc:Loc),ev C st (.B a) loc=(do return .bool (!(<-cU st (<-ev C st a loc)))))/\
 (∀(C:dC) (st:St) l (loc:Loc),ev C st (.band l) loc=((uY C st l loc).map .bool))/\
 (∀(C:dC) (st:St) l (loc:Loc),ev C st (.bor l) loc=((Cv C st l loc).map .bool))/\
 (∀(C:dC) (st:St) t a b (loc:Loc),ev C st (.N t a b) loc=(do if<-cU st (<-ev C st t loc)then ev C st a loc else ev C st b loc))/\
 (∀(C:dC) (st:St) l (loc:Loc),ev C st (.list l) loc=((so C st l loc).map .lst))/\
 (∀(C:dC) (st:St) l (loc:Loc),ev C st (.tuple l) loc=((so C st l loc).map .tup))/\
 (∀(C:dC) (st:St) a i (loc:Loc),ev C st (.sub a i) loc=(do gF st (<-ev C st a loc) (<-ev C st i loc)))/\
 (∀(C:dC) (st:St) a lo (loc:Loc),ev C st (.F a lo) loc=(do vO (<-ev C st a loc) (<-ev C st lo loc) .none))/\
 (∀(C:dC) (st:St) a hi (loc:Loc),ev C st (.A a hi) loc=(do vO (<-ev C st a loc) .none (<-ev C st hi loc)))/\
 (∀(C:dC) (st:St) a lo hi (loc:Loc),ev C st (.I a lo hi) loc=(do vO (<-ev C st a loc) (<-ev C st lo loc) (<-ev C st hi loc)))/\
 (∀(C:dC) (st:St) a (loc:Loc),ev C st (.len a) loc=(do te st (<-ev C st a loc)))/\
 (∀(C:dC) (st:St) l (loc:Loc),ev C st (.G l) loc=(do return .lst (<-lx (<-so C st l loc))))/\
 (∀(C:dC) (st:St) a (loc:Loc),ev C st (.Cq a) loc=(do return .int (<-KD (<-dM (<-jX st (<-ev C st a loc))))))/\
 (∀(C:dC) (st:St) a (loc:Loc),ev C st (.R a) loc=(do return .int (<-KE (<-dM (<-jX st (<-ev C st a loc))))))/\
 (∀(C:dC) (st:St) a b (loc:Loc),ev C st (.U a b) loc=(((ev C st a loc).bind eE).bind λa=>((ev C st b loc).bind eE).map λb=>.int (if b<a then b else a)))/\
 (∀(C:dC) (st:St) a (loc:Loc),ev C st (.E a) loc=(do return .int (<-dM (<-jX st (<-ev C st a loc))).sum))/\
 (∀(C:dC) (st:St) a (loc:Loc),ev C st (.sorted a) loc=(do
   let l<-dM (<-jX st (<-ev C st a loc))
   if l.length<64 then return .lst ((sortI l).map .int)else none))/\
 (∀(C:dC) (st:St) a (loc:Loc),ev C st (.Ad a) loc=((((ev C st a loc).bind jH).bind l1).map λ(c:Nat)=>AV.int (c:Int)))/\
 (∀(C:dC) (st:St) a (loc:Loc),ev C st (.S a) loc=(((ev C st a loc).bind eE).bind λi=>if 0<=i/\i<=1114111 then some (.str [i.toNat])else none))/\
 (∀(C:dC) (st:St) a b (loc:Loc),ev C st (.divmod a b) loc=(((ev C st a loc).bind eE).bind λa=>((ev C st b loc).bind eE).bind λb=>if b=0\/9000<=b.natAbs.log2 then none else some (.tup [.int (a.fdiv b),.int (a.fmod b)])))/\
 (∀(C:dC) (st:St) a (loc:Loc),ev C st (.lower a) loc=(((ev C st a loc).bind jH).bind λx=>if(gE x).length<=cB then some (.str (gE x))else none))/\
 (∀(C:dC) (st:St) a (loc:Loc),ev C st (.upper a) loc=(((ev C st a loc).bind jH).bind λx=>if(qJ x).length<=cB then some (.str (qJ x))else none))/\
 (∀(C:dC) (st:St) a y z (loc:Loc),ev C st (.yY a y z) loc=(((ev C st a loc).bind jH).bind λx=>if x.length<=cB/\z.length<=10/\y≠z then some (.str (tv x y z))else none))/\
 (∀(C:dC) (st:St) a (loc:Loc),ev C st (.join a) loc=(do
   let l<-pa (<-jX st (<-ev C st a loc))
   if l.flatten.length<=cB then return .str l.flatten else none))/\
 (∀(C:dC) (st:St) a b (loc:Loc),ev C st (.index a b) loc=(((ev C st b loc).bind eE).bind λk=>do
   let l<-dM (<-jX st (<-ev C st a loc))
   if k∈l/\l.length<=cB then return .int (l.idxOf k:Nat)else none))/\
 (∀(C:dC) (st:St) a (loc:Loc),ev C st (.qj a) loc=(((ev C st a loc).bind eE).map λi=>.int (ag i)))/\
 (∀(C:dC) (st:St) a (loc:Loc),ev C st (.J5 a) loc=(((ev C st a loc).bind eE).map λi=>.bool (C.b1.contains i)))/\
 (∀(C:dC) (st:St) a (loc:Loc),ev C st (.xb a) loc=(((ev C st a loc).bind eE).map λi=>match C.b3 i with|some x=>.str x|none=>.none))/\
 (∀(C:dC) (st:St) f l (loc:Loc),ev C st (.call f l) loc=(do
   let vs<-so C st l loc
   if dU vs then C.O f vs else none))/\
 (∀(C:dC) (st:St) e t it (loc:Loc),ev C st (.comp e t it) loc=(do
   let l<-fQ st (<-ev C st it loc)
   return .lst (<-gm (λv=>do return some (<-ev C st e (<-cT loc t v))) l)))/\
 (∀(C:dC) (st:St) e t it c (loc:Loc),ev C st (.z e t it c) loc=(do
   let l<-fQ st (<-ev C st it loc)
   return .lst (<-gm (λv=>do
    let loc'<-cT loc t v
    if<-cU st (<-ev C st c loc')then return some (<-ev C st e loc')else return none) l)))/\
 (∀(C:dC) (st:St) l (loc:Loc),ev C st (.j l) loc=(do return .lst (<-lx (<-so C st l loc))))/\
 (∀(C:dC) (st:St) a (loc:Loc),ev C st (.M a) loc=(((ev C st a loc).bind tl).map λl=>.lst l.reverse))/\
 (∀(C:dC) (st:St) a (loc:Loc),ev C st (.J a) loc=(((ev C st a loc).bind jH).bind λx=>if x.length<=cB/\(C.O 8 [.str x]).isSome=true then some (.lst (ff 0 false x))else none)):=by
 refine⟨?_,?_,?_,?_,?_,?_,?_,?_,?_,?_,?_,?_,?_,?_,?_,?_,?_,?_,?_,?_,?_,?_,?_,?_,?_,?_,?_,?_,?_,?_,?_,?_,?_,?_,?_,?_,?_,?_,?_,?_,?_,?_,?_,?_,?_,?_⟩<;>intros<;>rfl
theorem jW:(∀(C:dC) (st:St) (H:Loc),so C st [] H=(some []))/\
 (∀(C:dC) (st:St) e l (loc:Loc),so C st (e::l) loc=(do
   let v<-ev C st e loc;let vs<-so C st l loc
   return v::vs)):=by
 refine⟨?_,?_⟩<;>intros<;>rfl
theorem yt:(∀(C:dC) (st:St) (H:Loc),uY C st [] H=(some true))/\
 (∀(C:dC) (st:St) e l (loc:Loc),uY C st (e::l) loc=(do if<-cU st (<-ev C st e loc)then uY C st l loc else return false)):=by
 refine⟨?_,?_⟩<;>intros<;>rfl
theorem Ju:(∀(C:dC) (st:St) (H:Loc),Cv C st [] H=(some false))/\
 (∀(C:dC) (st:St) e l (loc:Loc),Cv C st (e::l) loc=(do if<-cU st (<-ev C st e loc)then return true else Cv C st l loc)):=by
 refine⟨?_,?_⟩<;>intros<;>rfl
theorem oM:(∀(C:dC) t e (loc:Loc) (st:St),mY C (.cI t e) loc st=(do
 let v<-ev C st e loc
 return(.next,<-cT loc t v,st)))/\
 (∀(C:dC) i j e (loc:Loc) (st:St),mY C (.Cf i j e) loc st=(do
   let v<-ev C st e loc
   return(.next,<-ek (<-ek loc i v) j v,st)))/\
 (∀(C:dC) i e (loc:Loc) (st:St),mY C (.new i e) loc st=(((ev C st e loc).bind tl).bind λl=>do if vB e then return(.next,<-ek loc i (.ref st.length),st++ [some l])else none))/\
 (∀(C:dC) i B it x (loc:Loc) (st:St),mY C (.GG i B it x) loc st=((Ac B).bind λl=>do
   let m<-fQ st (<-ev C st it loc)
   if x<loc.length then
    return(.next,<-ek loc i (.ref (st.length+m.length)),st++(oU st.length m.length l).map some)
   else none))/\
 (∀(C:dC) a ix e (loc:Loc) (st:St),mY C (.K a ix e) loc st=(do
   let v<-ev C st e loc;let n<-refOf (<-ev C st a loc);let i<-eE (<-ev C st ix loc);let l<-(st[n]?).join
   if 0<=i/\i<l.length/\l.length<=cB then return(.next,loc,st.set n (some (l.set i.toNat v)))else none))/\
 (∀(C:dC) i op e (loc:Loc) (st:St),mY C (.aug i op e) loc st=(do
   let x<-ev C st (.a i) loc;let v<-ev C st e loc
   if oG x then return(.next,<-ek loc i (<-jv st op x v),st)else none))/\
 (∀(C:dC) i ix op e (loc:Loc) (st:St),mY C (.Z i ix op e) loc st=(do
   let n<-refOf (<-ev C st (.a i) loc);let k<-eE (<-ev C st ix loc);let l<-(st[n]?).join;let x<-l[k.toNat]?;let v<-ev C st e loc;let y<-jv st op x v
   if 0<=k/\k<l.length/\l.length<=cB/\oG x=true then return(.next,loc,st.set n (some (l.set k.toNat y)))else none))/\
 (∀(C:dC) c a b (loc:Loc) (st:St),mY C (.ite c a b) loc st=(do if<-cU st (<-ev C st c loc)then dh C a loc st else dh C b loc st))/\
 (∀(C:dC) c b (loc:Loc) (st:St),mY C (.P c b) loc st=(gh (λloc st=>do cU st (<-ev C st c loc)) (λloc st=>dh C b loc st) 200 loc st))/\
 (∀(C:dC) t it b (loc:Loc) (st:St),mY C (.m t it b) loc st=(do iP t (λloc st=>dh C b loc st) (<-fQ st (<-ev C st it loc)) loc st))/\
 (∀(C:dC) e (loc:Loc) (st:St),mY C (.ret e) loc st=(do
   let v<-ev C st e loc
   if jP v then return(.ret v,loc,st)else none))/\
 (∀(C:dC) (loc:Loc) (st:St),mY C .brk loc st=(some (.brk,loc,st)))/\
 (∀(C:dC) (H:Loc) (g:St),mY C .K5 H g=(none))/\
 (∀(C:dC) i e (loc:Loc) (st:St),mY C (.app i e) loc st=(do
   let v<-ev C st e loc;let n<-refOf (<-ev C st (.a i) loc);let l<-(st[n]?).join
   if l.length<=cB then return(.next,loc,st.set n (some (l++ [v])))else none))/\
 (∀(C:dC) i (loc:Loc) (st:St),mY C (.rev i) loc st=(do
   let n<-refOf (<-ev C st (.a i) loc);let l<-(st[n]?).join
   if l.length<=cB then return(.next,loc,st.set n (some l.reverse))else none))/\
 (∀(C:dC) i (loc:Loc) (st:St),mY C (.q i) loc st=(do
   let n<-refOf (<-ev C st (.a i) loc);let l<-(st[n]?).join;let r<-jk (st.set n none) l
   return(.next,<-ek loc i (.lst r.1),r.2))):=by
 refine⟨?_,?_,?_,?_,?_,?_,?_,?_,?_,?_,?_,?_,?_,?_,?_,?_⟩<;>intros<;>rfl
theorem lY:(∀st,cU st .none=some false)/\(∀st b,cU st (.bool b)=some b)/\(∀st i,cU st (.int i)=some (i !=0))/\∀st x,cU st (.str x)=if x.length<=cB then some (!x.isEmpty)else none:=by refine⟨?_,?_,?_,?_⟩<;>intros<;>rfl
theorem Nf:(∀st l,jX st (.lst l)=some l)/\∀st n,jX st (.ref n)=(st[n]?).join:=by refine⟨?_,?_⟩<;>intros<;>rfl
theorem nF:(∀n d,kA n d .none=some d)/\∀(n d:Nat) i,kA n d (.int i)=some (if i<0 then(i+(n:Nat)).toNat else min i.toNat n):=by refine⟨?_,?_⟩<;>intros<;>rfl
theorem mN:(∀st x,te st (.str x)=if x.length<=cB then some (.int x.length)else none)/\(∀st l,te st (.lst l)=if l.length<=cB then some (.int l.length)else none)/\∀st n,te st (.ref n)=(do
 let l<-(st[n]?).join
 if l.length<=cB then some (.int l.length)else none):=by
 refine⟨?_,?_,?_⟩<;>intros<;>rfl
theorem yK:(∀st l,fQ st (.lst l)=if l.length<=cB then some l else none)/\∀st x,fQ st (.str x)=if x.length<=cB then some (x.map λc=>.str [c])else none:=by refine⟨?_,?_⟩<;>intros<;>rfl
theorem jJ:(∀st a b,qp st (.int a) (.int b)=some (a==b))/\(∀st a b,qp st (.str a) (.str b)=some (a==b))/\(∀st a b,qp st (.bool a) (.bool b)=some (a==b))/\(∀st l m,qp st (.lst l) (.lst m)=D0 l m)/\
 (∀st l n,qp st (.lst l) (.ref n)=(do D0 l (<-(st[n]?).join)))/\(∀st m n,qp st (.ref n) (.lst m)=(do D0 (<-(st[n]?).join) m))/\∀st m n,qp st (.ref n) (.ref m)=(do D0 (<-(st[n]?).join) (<-(st[m]?).join)):=by
 refine⟨?_,?_,?_,?_,?_,?_,?_⟩<;>intros<;>rfl
set_option tactic.hygienic true in
theorem cb:(∀st a b,fk st .Eq a b=qp st a b)/\(∀st a b,fk st .NotEq a b=(qp st a b).map (!·))/\(∀st a b,fk st .Lt (.int a) (.int b)=some (decide (a<b)))/\(∀st a b,fk st .LtE (.int a) (.int b)=some (decide (a<=b)))/\
 (∀st a b,fk st .Gt (.int a) (.int b)=some (decide (b<a)))/\(∀st a b,fk st .GtE (.int a) (.int b)=some (decide (b<=a)))/\(∀st a b,fk st .Is a b=Uw a b)/\(∀st a b,fk st .IsNot a b=(Uw a b).map (!·))/\
 (∀st y x,fk st .In (.str y) (.str x)=some (xc y x))/\(∀st y x,fk st .NotIn (.str y) (.str x)=some (!xc y x))/\(∀st y l,fk st .In y (.lst l)=CH y l)/\(∀st y b,fk st .In (.int y) b=(do CH (.int y) (<-jX st b)))/\∀st y b,fk st .NotIn (.int y) b=(do CH (.int y) (<-jX st b)).map (!·):=by
 refine⟨?_,?_,?_,?_,?_,?_,?_,?_,?_,?_,?_,?_,?_⟩<;>intros<;>first|rfl|(rename_i y _;cases y<;>rfl)
theorem pb:(∀st x i,gF st (.str x) (.int i)=(do return .str [<-x[<-ll i x.length]?]))/\(∀st l i,gF st (.tup l) (.int i)=(do l[<-ll i l.length]?))/\(∀st l i,gF st (.lst l) (.int i)=(do l[<-ll i l.length]?))/\∀st n i,gF st (.ref n) (.int i)=(do
 let l<-(st[n]?).join
 l[<-ll i l.length]?):=by
 refine⟨?_,?_,?_,?_⟩<;>intros<;>rfl
theorem cw:(∀st op a b,jv st op (.int a) (.int b)=(binI op a b).map .int)/\(∀st x y,jv st .Add (.str x) (.str y)=if x.length+y.length<=cB then some (.str (x++y))else none)/\(∀st l m,jv st .Add (.lst l) (.lst m)=if l.length+m.length<=cB then some (.lst (l++m))else none):=by refine⟨?_,?_,?_⟩<;>intros<;>rfl
theorem sj:(∀loc i v,cT loc (.bX i) v=ek loc i v)/\∀loc I vs,cT loc (.many I) (.tup vs)=jT loc I vs:=by refine⟨?_,?_⟩<;>intros<;>rfl
noncomputable def Sq:List (List Nat):= [[95,115,117,98,115,116,105,116,117,116,105,111,110,95,99,111,115,116],
 [95,108,101,118,101,110,115,104,116,101,105,110,95,100,105,115,116,97,110,99,101],
 [95,100,105,118,50,110,49,110],
 [95,100,105,118,51,110,50,110],
 [95,105,110,116,50,100,105,103,105,116,115],
 [95,100,105,103,105,116,115,50,105,110,116],
 [95,100,105,118,109,111,100,95,112,111,115],
 [105,110,116,95,100,105,118,109,111,100],
 [95,105,116,101,114,95,101,115,99,97,112,101,100,95,99,104,97,114,115],
 [95,115,116,114,105,112,95,113,117,111,116,101,100,95,114,101,97,108,110,97,109,101,115],
 [95,99,104,101,99,107,95,112,97,114,101,110,116,104,101,115,105,115],
 [105,110,95,116,97,98,108,101,95,98,49],
 [109,97,112,95,116,97,98,108,101,95,98,51],
 [95,108,97,119,95,99,101,108,108,115],
 [95,108,97,119,95,100,101,112,116,104,115],
 [95,108,97,119,95,109,97,114,107],
 [95,108,97,119,95,108,105,110,101],
 [95,108,97,119,95,114,101,97,100],
 [95,108,97,119,95,110,97,109,101,115],
 [95,108,97,119,95,119,97,121,115],
 [95,108,97,119,95,104,97,108,102],
 [95,108,97,119,95,99,111,115,116,115],
 [95,108,97,119,95,97,103,114,101,101,115],
 [108,97,119]]
noncomputable def t0:List (List Nat):= [[99,104,95,97],[99,104,95,98]]
noncomputable def f0:FD:=⟨2,2,
 [.ite (.cmp .Eq (.a 0) (.a 1))
  [.ret (.d 0)]
  [],
  .ite (.cmp .Eq (.lower (.a 0)) (.lower (.a 1)))
   [.ret (.n 2)]
   [],
  .ret (.n 1)]⟩
noncomputable def t1:List (List Nat):= [[97],[98],[109,97,120,95,99,111,115,116],[112,114,101],[112,111,115,116],[114,111,119],[114,101,115,117,108,116],[98,105,110,100,101,120],[98,99,104,97,114],[100,105,115,116,97,110,99,101],[109,105,110,105,109,117,109],[105,110,100,101,120],[115,117,98,115,116,105,116,117,116,101],[105,110,115,101,114,116,95,100,101,108,101,116,101]]
noncomputable def f1:FD:=⟨14,3,
 [.ite (.cmp .Eq (.a 0) (.a 1))
  [.ret (.d 0)]
  [],
  .cI (.bX 3) (.d 0),
  .P (.band [(.F (.a 0) (.a 3)),(.F (.a 1) (.a 3)),(.cmp .Eq (.sub (.a 0) (.a 3)) (.sub (.a 1) (.a 3)))])
   [.aug 3 .Add (.d 1)],
  .cI (.bX 0) (.F (.a 0) (.a 3)),
  .cI (.bX 1) (.F (.a 1) (.a 3)),
  .cI (.bX 4) (.d 0),
  .P (.band [(.A (.a 0) (.D (.a 4) .u)),(.A (.a 1) (.D (.a 4) .u)),(.cmp .Eq (.sub (.a 0) (.f .Sub (.a 4) (.d 1))) (.sub (.a 1) (.f .Sub (.a 4) (.d 1))))])
   [.aug 4 .Sub (.d 1)],
  .cI (.bX 0) (.A (.a 0) (.D (.a 4) .u)),
  .cI (.bX 1) (.A (.a 1) (.D (.a 4) .u)),
  .ite (.bor [(.B (.a 0)),(.B (.a 1))])
   [.ret (.f .Mult (.n 1) (.f .Add (.len (.a 0)) (.len (.a 1))))]
   [],
  .ite (.bor [(.cmp .Gt (.len (.a 0)) (.n 0)),(.cmp .Gt (.len (.a 1)) (.n 0))])
   [.ret (.f .Add (.a 2) (.d 1))]
   [],
  .ite (.cmp .Lt (.len (.a 1)) (.len (.a 0)))
   [.cI (.many [0,1]) (.tuple [(.a 1),(.a 0)])]
   [],
  .ite (.cmp .Gt (.f .Mult (.f .Sub (.len (.a 1)) (.len (.a 0))) (.n 1)) (.a 2))
   [.ret (.f .Add (.a 2) (.d 1))]
   [],
  .new 5 (.G [(.n 1),(.f .Mult (.n 1) (.f .Add (.len (.a 0)) (.d 1))),(.n 1)]),
  .cI (.bX 6) (.d 0),
  .m (.bX 7) (.j [(.len (.a 1))])
   [.cI (.bX 8) (.sub (.a 1) (.a 7)),
    .Cf 9 6 (.f .Mult (.a 7) (.n 1)),
    .cI (.bX 10) (.d 9223372036854775807),
    .m (.bX 11) (.j [(.len (.a 0))])
     [.cI (.bX 12) (.f .Add (.a 9) (.call 0 [(.a 8),(.sub (.a 0) (.a 11))])),
      .cI (.bX 9) (.sub (.a 5) (.a 11)),
      .cI (.bX 13) (.f .Add (.U (.a 6) (.a 9)) (.n 1)),
      .cI (.bX 6) (.U (.a 13) (.a 12)),
      .K (.a 5) (.a 11) (.a 6),
      .ite (.cmp .Lt (.a 6) (.a 10))
       [.cI (.bX 10) (.a 6)]
       []],
    .ite (.cmp .Gt (.a 10) (.a 2))
     [.ret (.f .Add (.a 2) (.d 1))]
     []],
  .ret (.a 6)]⟩
noncomputable def t2:List (List Nat):= [[97],[98],[110],[112,97,100],[104,97,108,102,95,110],[109,97,115,107],[98,49],[98,50],[113,49],[114],[113,50]]
noncomputable def f2:FD:=⟨11,3,
 [.ite (.cmp .LtE (.f .Sub (.qj (.a 0)) (.a 2)) (.n 3))
  [.ret (.divmod (.a 0) (.a 1))]
  [],
  .cI (.bX 3) (.f .BitAnd (.a 2) (.d 1)),
  .ite (.a 3)
   [.aug 0 .LShift (.d 1),
    .aug 1 .LShift (.d 1),
    .aug 2 .Add (.d 1)]
   [],
  .cI (.bX 4) (.f .RShift (.a 2) (.d 1)),
  .cI (.bX 5) (.f .Sub (.f .LShift (.d 1) (.a 4)) (.d 1)),
  .cI (.many [6,7]) (.tuple [(.f .RShift (.a 1) (.a 4)),(.f .BitAnd (.a 1) (.a 5))]),
  .cI (.many [8,9]) (.call 3 [(.f .RShift (.a 0) (.a 2)),(.f .BitAnd (.f .RShift (.a 0) (.a 4)) (.a 5)),(.a 1),(.a 6),(.a 7),(.a 4)]),
  .cI (.many [10,9]) (.call 3 [(.a 9),(.f .BitAnd (.a 0) (.a 5)),(.a 1),(.a 6),(.a 7),(.a 4)]),
  .ite (.a 3)
   [.aug 9 .RShift (.d 1)]
   [],
  .ret (.tuple [(.f .BitOr (.f .LShift (.a 8) (.a 4)) (.a 10)),(.a 9)])]⟩
noncomputable def t3:List (List Nat):= [[97,49,50],[97,51],[98],[98,49],[98,50],[110],[113],[114]]
noncomputable def f3:FD:=⟨8,6,
 [.ite (.cmp .Eq (.f .RShift (.a 0) (.a 5)) (.a 3))
  [.cI (.many [6,7]) (.tuple [(.f .Sub (.f .LShift (.d 1) (.a 5)) (.d 1)),(.f .Add (.f .Sub (.a 0) (.f .LShift (.a 3) (.a 5))) (.a 3))])]
  [.cI (.many [6,7]) (.call 2 [(.a 0),(.a 3),(.a 5)])],
  .cI (.bX 7) (.f .Sub (.f .BitOr (.f .LShift (.a 7) (.a 5)) (.a 1)) (.f .Mult (.a 6) (.a 4))),
  .P (.cmp .Lt (.a 7) (.d 0))
   [.aug 6 .Sub (.d 1),
    .aug 7 .Add (.a 2)],
  .ret (.tuple [(.a 6),(.a 7)])]⟩
noncomputable def t6:List (List Nat):= [[97],[98],[110],[97,95,100,105,103,105,116,115],[114],[113,95,100,105,103,105,116,115],[97,95,100,105,103,105,116],[113,95,100,105,103,105,116],[113]]
noncomputable def f6:FD:=⟨9,2,
 [.cI (.bX 2) (.qj (.a 1)),
  .cI (.bX 3) (.call 4 [(.a 0),(.a 2)]),
  .cI (.bX 4) (.d 0),
  .new 5 (.list []),
  .m (.bX 6) (.M (.a 3))
   [.cI (.many [7,4]) (.call 2 [(.f .Add (.f .LShift (.a 4) (.a 2)) (.a 6)),(.a 1),(.a 2)]),
    .app 5 (.a 7)],
  .rev 5,
  .q 5,
  .cI (.bX 8) (.call 5 [(.a 5),(.a 2)]),
  .ret (.tuple [(.a 8),(.a 4)])]⟩
noncomputable def t7:List (List Nat):= [[97],[98],[113],[114]]
noncomputable def f7:FD:=⟨4,2,
 [.ite (.cmp .Eq (.a 1) (.d 0))
  [.K5]
  [.ite (.cmp .Lt (.a 1) (.d 0))
   [.cI (.many [2,3]) (.call 7 [(.neg (.a 0)),(.neg (.a 1))]),
    .ret (.tuple [(.a 2),(.neg (.a 3))])]
   [.ite (.cmp .Lt (.a 0) (.d 0))
    [.cI (.many [2,3]) (.call 7 [(.inv (.a 0)),(.a 1)]),
     .ret (.tuple [(.inv (.a 2)),(.f .Add (.a 1) (.inv (.a 3)))])]
    [.ret (.call 6 [(.a 0),(.a 1)])]]]]⟩
noncomputable def t9:List (List Nat):= [[97,100,100,114],[115,116,97,114,116],[111,112,101,110,95,112,111,115],[114,101,115,117,108,116],[112,111,115],[99,104]]
noncomputable def f9:FD:=⟨6,1,
 [.ite (.cmp .NotIn (.l [34]) (.a 0))
  [.ret (.a 0)]
  [],
  .cI (.bX 1) (.d 0),
  .cI (.bX 2) .u,
  .new 3 (.list []),
  .m (.many [4,5]) (.J (.a 0))
   [.ite (.cmp .Eq (.a 5) (.l [34]))
    [.ite (.cmp .Is (.a 2) .u)
     [.cI (.bX 2) (.a 4)]
     [.ite (.cmp .NotEq (.a 1) (.a 2))
      [.app 3 (.I (.a 0) (.a 1) (.a 2))]
      [],
      .cI (.bX 1) (.f .Add (.a 4) (.d 1)),
      .cI (.bX 2) .u]]
    []],
  .ite (.cmp .Lt (.a 1) (.len (.a 0)))
   [.app 3 (.F (.a 0) (.a 1))]
   [],
  .ret (.join (.a 3))]⟩
noncomputable def X0:List (List Nat):= [[97,100,100,114],[111,112,101,110,115],[112,111,115],[99,104]]
noncomputable def Yl:FD:=⟨4,1,
 [.cI (.bX 0) (.call 9 [(.a 0)]),
  .cI (.bX 1) (.d 0),
  .m (.many [2,3]) (.J (.a 0))
   [.ite (.cmp .Eq (.a 3) (.l [40]))
    [.aug 1 .Add (.d 1)]
    [.ite (.cmp .Eq (.a 3) (.l [41]))
     [.aug 1 .Sub (.d 1),
      .ite (.cmp .Lt (.a 1) (.d 0))
       [.ret (.v false)]
       []]
     []]],
  .ret (.cmp .Eq (.a 1) (.d 0))]⟩
noncomputable def Zi:List (List Nat):= [[99,111,100,101]]
noncomputable def QQ:FD:=⟨1,1,
 [.ret (.J5 (.Ad (.a 0)))]⟩
noncomputable def Zj:List (List Nat):= [[99,111,100,101],[114]]
noncomputable def ML:FD:=⟨2,1,
 [.cI (.bX 1) (.xb (.Ad (.a 0))),
  .ite (.cmp .IsNot (.a 1) .u)
   [.ret (.a 1)]
   [],
  .ret (.lower (.a 0))]⟩
noncomputable def Zk:List (List Nat):= [[115,99,114,105,112,116],[99,101,108,108,115],[112,108,97,99,101]]
noncomputable def Ym:FD:=⟨3,1,
 [.new 1 (.list [(.d 1422165),(.d 3),(.d 11),(.d 0),(.d 14),(.d 1),(.d 1),(.d 4),(.d 2),(.d 5),(.neg (.d 1))]),
  .m (.bX 2) (.j [(.len (.a 0))])
   [.Z 1 (.f .Mod (.a 2) (.d 11)) .Add (.sub (.a 0) (.a 2))],
  .q 1,
  .ret (.a 1)]⟩
noncomputable def Zl:List (List Nat):= [[99,101,108,108],[100,101,112,116,104,115],[112,108,97,99,101],[115,105,122,101]]
noncomputable def Yn:FD:=⟨4,1,
 [.new 1 (.list [(.d 0),(.d 1)]),
  .m (.bX 2) (.j [(.d 3)])
   [.cI (.bX 3) (.f .Add (.sub (.a 1) (.neg (.d 1))) (.d 1)),
    .app 1 (.f .Add (.d 1) (.f .Mod (.a 0) (.a 3))),
    .aug 0 .FloorDiv (.a 3)],
  .q 1,
  .ret (.tuple [(.a 1),(.a 0)])]⟩
noncomputable def Zm:List (List Nat):= [[112,108,97,99,101],[100,114,97,119],[115,116,97,114,116],[104,105,100,100,101,110],[103,114,101,97,116],[115,116,97,121,115],[108,101,116,116,101,114],[119,104,105,99,104],[115,116,97,121]]
noncomputable def Yo:FD:=⟨9,3,
 [.cI (.bX 3) (.f .Add (.list [(.d 173),(.d 847),(.d 6150),(.d 6155),(.d 6156),(.d 6157),(.d 8203),(.d 8204),(.d 8205),(.d 8288),(.d 65279)]) (.G [(.d 65024),(.d 65040)])),
  .cI (.bX 4) (.list [(.d 119808),(.d 119860),(.d 119912),(.d 120016),(.d 120172),(.d 120224),(.d 120276),(.d 120328),(.d 120380),(.d 120432)]),
  .cI (.bX 5) (.list [(.d 172),(.d 174),(.d 846),(.d 848),(.d 6149),(.d 6151),(.d 6154),(.d 6158),(.d 8202),(.d 8206),(.d 8287),(.d 8289),(.d 65023),(.d 65040),(.d 65278),(.d 65280)]),
  .cI (.bX 6) (.sub (.l [102,104,115,116]) (.a 0)),
  .cI (.bX 7) (.f .FloorDiv (.a 1) (.d 5)),
  .ite (.cmp .Eq (.f .Mod (.a 1) (.d 5)) (.d 0))
   [.ret (.tuple [(.upper (.a 6)),(.a 6)])]
   [],
  .ite (.cmp .Eq (.f .Mod (.a 1) (.d 5)) (.d 1))
   [.ret (.tuple [(.f .Add (.a 6) (.S (.sub (.a 3) (.f .Mod (.f .Add (.f .Add (.f .Mult (.d 4) (.f .Mod (.a 7) (.d 6))) (.a 0)) (.a 2)) (.d 27))))),(.a 6)])]
   [],
  .ite (.cmp .Eq (.f .Mod (.a 1) (.d 5)) (.d 2))
   [.ret (.tuple [(.S (.f .Sub (.f .Add (.sub (.a 4) (.f .Mod (.a 7) (.d 10))) (.Ad (.a 6))) (.d 97))),(.a 6)])]
   [],
  .ite (.cmp .Eq (.f .Mod (.a 1) (.d 5)) (.d 3))
   [.ret (.tuple [(.S (.sub (.list [(.d 64258),(.d 13200),(.d 13276),(.d 8482)]) (.a 0))),(.f .Add (.a 6) (.sub (.l [108,122,118,109]) (.a 0)))])]
   [],
  .cI (.bX 8) (.S (.sub (.a 5) (.f .Add (.f .Mult (.d 4) (.f .Mod (.a 7) (.d 4))) (.a 0)))),
  .ret (.tuple [(.f .Add (.a 6) (.a 8)),(.f .Add (.a 6) (.a 8))])]⟩
noncomputable def Zn:List (List Nat):= [[100,101,112,116,104,115],[109,97,114,107,115],[100,114,97,119],[108,105,110,101],[100,101,101,112],[112,108,97,99,101]]
noncomputable def Yp:FD:=⟨6,3,
 [.cI (.bX 3) (.l [40]),
  .cI (.bX 4) (.d 0),
  .m (.bX 5) (.j [(.d 5)])
   [.P (.cmp .GtE (.a 4) (.sub (.f .Add (.a 0) (.list [(.d 0)])) (.f .Add (.a 5) (.d 1))))
    [.aug 3 .Add (.f .Add (.l [41]) (.sub (.list [(.l []),(.l [92,41]),(.l [34,40,92,34,34]),(.l [92,92]),(.l [92,34])]) (.f .Mod (.a 2) (.d 5)))),
     .aug 2 .FloorDiv (.d 5),
     .aug 4 .Sub (.d 1)],
    .ite (.cmp .Lt (.a 5) (.d 4))
     [.aug 3 .Add (.f .Add (.l [40]) (.sub (.a 1) (.a 5))),
      .aug 4 .Add (.d 1)]
     []],
  .ret (.a 3)]⟩
noncomputable def Zo:List (List Nat):= [[116,101,120,116],[111,112,101,110,115],[115,104,117,116,115],[112,108,97,99,101],[117,110,105,116],[109,97,116,101,115],[115,116,97,114,116],[115,116,111,112],[98,111,116,104],[109,97,114,107,115]]
noncomputable def Yq:FD:=⟨10,1,
 [.new 1 (.list []),
  .new 2 (.list []),
  .m (.many [3,4]) (.J (.a 0))
   [.ite (.cmp .Eq (.a 4) (.l [40]))
    [.app 1 (.a 3)]
    [.ite (.cmp .Eq (.a 4) (.l [41]))
     [.app 2 (.a 3)]
     []]],
  .q 1,
  .q 2,
  .new 5 (.list []),
  .m (.bX 6) (.a 1)
   [.m (.bX 7) (.a 2)
    [.ite (.band [(.cmp .Gt (.a 7) (.a 6)),(.call 10 [(.I (.a 0) (.a 6) (.f .Add (.a 7) (.d 1)))])])
     [.app 5 (.a 7),
      .brk]
     []]],
  .q 5,
  .cI (.bX 8) (.sorted (.f .Add (.a 1) (.a 2))),
  .cI (.bX 9) (.comp (.I (.a 0) (.f .Add (.a 6) (.d 1)) (.sub (.a 8) (.f .Add (.index (.a 8) (.a 6)) (.d 1)))) (.bX 6) (.a 1)),
  .ret (.tuple [(.a 1),(.a 5),(.a 9)])]⟩
noncomputable def Zp:List (List Nat):= [[111,112,101,110,115],[109,97,116,101,115],[109,97,114,107,115],[108,101,116,116,101,114,115],[110,97,109,101,115],[115,116,97,114,116],[110,97,109,101],[112,108,97,99,101]]
noncomputable def Yr:FD:=⟨8,4,
 [.new 4 (.list []),
  .m (.bX 5) (.a 0)
   [.cI (.bX 6) (.l []),
    .m (.bX 7) (.j [(.d 1),(.d 5)])
     [.aug 6 .Add (.N (.C .LtE .LtE (.sub (.a 0) (.a 7)) (.a 5) (.sub (.a 1) (.a 7))) (.sub (.a 2) (.a 7)) (.sub (.a 3) (.a 7)))],
    .app 4 (.a 6)],
  .q 4,
  .ret (.a 4)]⟩
noncomputable def Zq:List (List Nat):= [[110,97,109,101,115],[119,97,121,115],[110,97,109,101],[120],[121]]
noncomputable def Sl:FD:=⟨5,1,
 [.GG 1 (.list [(.d 0),(.d 0),(.d 0),(.d 0),(.d 0)]) (.a 0) 2,
  .m (.bX 3) (.j [(.d 5)])
   [.m (.bX 4) (.j [(.a 3)])
    [.K (.sub (.a 1) (.a 3)) (.a 4) (.call 1 [(.sub (.a 0) (.a 3)),(.sub (.a 0) (.a 4)),(.d 8)]),
     .K (.sub (.a 1) (.a 4)) (.a 3) (.sub (.sub (.a 1) (.a 3)) (.a 4))]],
  .q 1,
  .ret (.a 1)]⟩
noncomputable def Zr:List (List Nat):= [[119,101,105,103,104,116],[119,104,111,108,101],[100,114,97,119],[117,110,105,116],[115,104,97,114,101],[116,117,114,110],[108,101,115,115],[116,111,112],[116,111,108,100]]
noncomputable def Ys:FD:=⟨9,3,
 [.cI (.bX 3) (.f .Pow (.d 3) (.d 2600)),
  .cI (.bX 4) (.f .Pow (.d 2) (.d 4090)),
  .cI (.bX 5) (.f .Sub (.d 1) (.f .Mult (.d 2) (.f .Mod (.a 2) (.d 2)))),
  .cI (.bX 6) (.f .Mult (.f .Mult (.d 3) (.a 4)) (.f .Mod (.f .FloorDiv (.a 2) (.d 2)) (.d 2))),
  .cI (.bX 7) (.f .Add (.f .Mult (.f .Sub (.f .Mult (.f .Mult (.d 2) (.a 0)) (.a 4)) (.f .Mult (.a 6) (.a 1))) (.a 3)) (.f .Mod (.a 2) (.a 3))),
  .cI (.bX 8) (.call 7 [(.f .Mult (.a 5) (.a 7)),(.f .Mult (.f .Mult (.a 5) (.a 1)) (.a 3))]),
  .ite (.bor [(.cmp .NotEq (.f .Add (.f .Mult (.f .Mult (.sub (.a 8) (.d 0)) (.a 1)) (.a 3)) (.f .Mult (.a 5) (.sub (.a 8) (.d 1)))) (.a 7)),(.B (.C .LtE .Lt (.d 0) (.f .Mult (.a 5) (.sub (.a 8) (.d 1))) (.f .Mult (.a 1) (.a 3))))])
   [.ret (.d 9)]
   [],
  .ite (.cmp .Lt (.f .Add (.sub (.a 8) (.d 0)) (.a 6)) (.a 4))
   [.ret (.d 0)]
   [],
  .ret (.N (.cmp .Eq (.f .Add (.sub (.a 8) (.d 0)) (.a 6)) (.a 4)) (.d 1) (.d 2))]⟩
noncomputable def Zs:List (List Nat):= [[100,101,112,116,104,115],[119,101,105,103,104,116,115],[112,114,105,99,101,115],[97,98,111,118,101],[117],[108,97,115,116],[118],[99,111,115,116,115],[120],[99,111,115,116]]
noncomputable def Yt:FD:=⟨10,3,
 [.new 3 (.list [(.list [])]),
  .m (.bX 4) (.j [(.d 1),(.d 5)])
   [.cI (.bX 5) (.Cq (.z (.a 6) (.bX 6) (.j [(.a 4)]) (.cmp .Eq (.sub (.a 0) (.a 6)) (.f .Sub (.sub (.a 0) (.a 4)) (.d 1))))),
    .app 3 (.f .Add (.sub (.a 3) (.a 5)) (.list [(.a 4)]))],
  .q 3,
  .new 7 (.list []),
  .m (.bX 8) (.j [(.d 5)])
   [.cI (.bX 9) (.d 0),
    .m (.bX 4) (.j [(.d 5)])
     [.aug 9 .Add (.f .Mult (.sub (.a 1) (.a 4)) (.E (.z (.sub (.a 2) (.f .Sub (.a 6) (.d 1))) (.bX 6) (.j [(.d 1),(.d 5)]) (.cmp .NotEq (.cmp .In (.a 6) (.sub (.a 3) (.a 4))) (.cmp .In (.a 6) (.sub (.a 3) (.a 8)))))))],
    .app 7 (.a 9)],
  .q 7,
  .ret (.a 7)]⟩
noncomputable def Zt:List (List Nat):= [[119,97,121,115],[119,101,105,103,104,116,115],[99,111,115,116,115],[116,111,108,100],[120],[117]]
noncomputable def Xn:FD:=⟨6,4,
 [.ite (.cmp .NotEq (.comp (.E (.comp (.f .Mult (.sub (.a 1) (.a 5)) (.sub (.sub (.a 0) (.a 4)) (.a 5))) (.bX 5) (.j [(.d 5)]))) (.bX 4) (.j [(.d 5)])) (.a 2))
  [.ret (.v false)]
  [],
  .ret (.cmp .Eq (.z (.a 4) (.bX 4) (.j [(.d 5)]) (.cmp .Eq (.sub (.a 2) (.a 4)) (.R (.a 2)))) (.a 3))]⟩
noncomputable def UE:List (List Nat):= [[115,99,114,105,112,116],[99,101,108,108,115],[100,101,112,116,104,115],[100,114,97,119],[112,97,105,114,115],[112,108,97,99,101],[100,114,97,119,110],[109,97,114,107],[102,111,108,100],[108,105,110,101],[116,101,120,116],[111,112,101,110,115],[109,97,116,101,115],[109,97,114,107,115],[102,111,108,100,101,100],[115,105,103,110],[108,101,116,116,101,114,115],[116,121,112,101,100],[112,108,97,105,110],[119,101,105,103,104,116,115],[117],[104,97,108,118,101,115],[118],[119,101,105,103,104,116],[116,111,108,100],[112,114,105,99,101,115],[97,108,105,107,101],[120],[108,101,115,115,101,114]]
noncomputable def D9:FD:=⟨29,1,
 [.cI (.bX 1) (.call 13 [(.a 0)]),
  .cI (.many [2,3]) (.call 14 [(.sub (.a 1) (.d 0))]),
  .cI (.bX 4) (.comp (.call 15 [(.a 5),(.sub (.a 1) (.f .Add (.d 1) (.a 5))),(.f .Mod (.a 3) (.d 27))]) (.bX 5) (.j [(.d 4)])),
  .cI (.bX 6) (.comp (.a 7) (.many [7,8]) (.a 4)),
  .cI (.bX 9) (.call 16 [(.a 2),(.a 6),(.f .FloorDiv (.a 3) (.d 27))]),
  .ite (.bor [(.cmp .IsNot (.call 10 [(.a 9)]) (.v true)),(.cmp .IsNot (.call 10 [(.f .Add (.F (.a 9) (.d 1)) (.A (.a 9) (.d 1)))]) (.v false))])
   [.ret (.v false)]
   [],
  .cI (.bX 10) (.call 9 [(.a 9)]),
  .ite (.cmp .NotEq (.a 10) (.yY (.a 9) [34,40,92,34,34] []))
   [.ret (.v false)]
   [],
  .cI (.many [11,12,13]) (.call 17 [(.a 10)]),
  .ite (.cmp .NotEq (.a 13) (.f .Add (.list [(.l [])]) (.a 6)))
   [.ret (.v false)]
   [],
  .cI (.bX 14) (.comp (.join (.z (.call 12 [(.a 15)]) (.bX 15) (.a 7) (.B (.call 11 [(.a 15)])))) (.bX 7) (.a 13)),
  .ite (.cmp .NotEq (.a 14) (.f .Add (.list [(.l [])]) (.comp (.a 8) (.many [7,8]) (.a 4))))
   [.ret (.v false)]
   [],
  .cI (.bX 16) (.comp (.A (.a 7) (.d 1)) (.bX 7) (.a 14)),
  .cI (.bX 17) (.call 18 [(.a 11),(.a 12),(.a 13),(.a 16)]),
  .cI (.bX 18) (.call 18 [(.a 11),(.a 12),(.a 14),(.a 16)]),
  .cI (.bX 19) (.f .Add (.list [(.f .Add (.d 1) (.f .Mod (.sub (.a 1) (.d 5)) (.f .Pow (.d 10) (.d 30))))]) (.comp (.f .Mod (.sub (.a 1) (.f .Add (.d 6) (.a 20))) (.f .Pow (.d 10) (.d 30))) (.bX 20) (.j [(.d 4)]))),
  .new 21 (.list []),
  .m (.bX 22) (.j [(.d 5)])
   [.cI (.bX 23) (.E (.z (.sub (.a 19) (.a 20)) (.bX 20) (.j [(.d 5)]) (.C .LtE .LtE (.sub (.a 11) (.a 22)) (.sub (.a 11) (.a 20)) (.sub (.a 12) (.a 22))))),
    .app 21 (.call 20 [(.a 23),(.E (.a 19)),(.sub (.a 1) (.d 10))])],
  .q 21,
  .ite (.cmp .In (.d 9) (.a 21))
   [.ret (.v false)]
   [],
  .new 24 (.list []),
  .m (.bX 22) (.j [(.d 5)])
   [.ite (.band [(.cmp .Gt (.sub (.a 21) (.a 22)) (.d 0)),(.cmp .Eq (.z (.a 20) (.bX 20) (.j [(.d 5)]) (.band [(.C .Lt .LtE (.sub (.a 11) (.a 22)) (.sub (.a 11) (.a 20)) (.sub (.a 12) (.a 22))),(.cmp .Eq (.sub (.a 21) (.a 20)) (.d 2))])) (.list []))])
    [.app 24 (.a 22)]
    []],
  .q 24,
  .cI (.bX 25) (.comp (.sub (.list [(.d 1),(.d 2),(.d 2),(.d 2),(.d 2)]) (.f .Mod (.sub (.a 1) (.f .Add (.d 1) (.a 5))) (.d 5))) (.bX 5) (.j [(.d 4)])),
  .ite (.B (.call 22 [(.call 19 [(.a 17)]),(.a 19),(.call 21 [(.a 2),(.a 19),(.a 25)]),(.a 24)]))
   [.ret (.v false)]
   [],
  .cI (.bX 26) (.z (.a 27) (.bX 27) (.j [(.d 5)]) (.cmp .In (.sub (.a 18) (.a 27)) (.comp (.sub (.a 18) (.a 22)) (.bX 22) (.a 24)))),
  .cI (.bX 28) (.comp (.sub (.list [(.d 0),(.d 0),(.d 0),(.d 2),(.d 2)]) (.f .Mod (.sub (.a 1) (.f .Add (.d 1) (.a 5))) (.d 5))) (.bX 5) (.j [(.d 4)])),
  .ret (.call 22 [(.call 19 [(.a 18)]),(.a 19),(.call 21 [(.a 2),(.a 19),(.a 28)]),(.a 26)])]⟩
abbrev cL(T:String)(h:bk)(a:az)(vs:List aw):Prop:=∃n,h.get? a=some {cls:=.type T,dict:=none,data:=.seq vs.toArray n,slots:= #[]}
mutual
inductive VR (W:az->Prop) (ρ:List az) (h:bk):aw->AV->Prop
 |none:VR W ρ h .none .none
 |bool (b:Bool):VR W ρ h (.bool b) (.bool b)
 |int (i:Int) (t:nZ):VR W ρ h (.int i t) (.int i)
 |str (x:List Nat) (t:nZ):VR W ρ h (.str (strOf x) t) (.str x)
 |tup {a:az} {vs:List aw} {l:List AV}:¬W a->cL "tuple" h a vs->ft W ρ h vs l->VR W ρ h (.ref a) (.tup l)
 |lst {a:az} {vs:List aw} {l:List AV}:¬W a->cL "list" h a vs->ft W ρ h vs l->VR W ρ h (.ref a) (.lst l)
 |ref {n:Nat} {a:az}:ρ[n]? =some a->VR W ρ h (.ref a) (.ref n)
inductive ft (W:az->Prop) (ρ:List az) (h:bk):List aw->List AV->Prop
 |nil:ft W ρ h [] []
 |cons {v:aw} {a:AV} {vs:List aw} {l:List AV}:VR W ρ h v a->ft W ρ h vs l->ft W ρ h (v::vs) (a::l)
end
theorem VR.dK{W:az->Prop}{ρ:List az}{h:bk}{v:aw}{i:Int}(x:VR W ρ h v (.int i)){I:Prop}(N:∀t,v=.int i t->I):I:=by rcases x with⟨⟩;exact N _ rfl
theorem VR.ru{W:az->Prop}{ρ:List az}{h:bk}{v:aw}(x:VR W ρ h v .none):v=.none:=by rcases x with⟨⟩;rfl
theorem VR.mj{W:az->Prop}{ρ:List az}{h:bk}{v:aw}{b:Bool}(x:VR W ρ h v (.bool b)):v=.bool b:=by rcases x with⟨⟩;rfl
theorem VR.gf{W:az->Prop}{ρ:List az}{h:bk}{v:aw}{i:List Nat}(x:VR W ρ h v (.str i)):∃t,v=.str (strOf i) t:=by rcases x with⟨⟩;exact⟨_,rfl⟩
theorem ft.sH{W:az->Prop}{ρ:List az}{h:bk}{vs:List aw}(x:ft W ρ h vs []):vs= []:=by rcases x with⟨⟩;rfl
theorem ft.mo{W:az->Prop}{ρ:List az}{h:bk}{vs:List aw}{a:AV}{l:List AV}(x:ft W ρ h vs (a::l)){I:Prop}(N:∀v L,vs=v::L->VR W ρ h v a->ft W ρ h L l->I):I:=by rcases x with⟨⟩;exact N _ _ rfl (‹_›) (‹_›)
def Tb(b:az):Prop:=b=PD\/b=T9
noncomputable def Gu(b:az):Nat:=if b=PD then 80 else 95
noncomputable def rD(b:az):bj:=if b=PD then "_int2digits.<locals>.inner"else "_digits2int.<locals>.inner"
noncomputable def UG(b c:az):hC:=sf #[zL (Gu b:Nat),zL ((4:Nat):Int),.ref c]
def Gr(h:bk)(b:az)(o R:hC):Prop:=R=o\/(Tb b/\o=sf #[]/\∃c,R=UG b c/\h.CodeRec (.ref c) (rD b))
def nt(o:hC):Prop:=o≠sf #[]
def yh(o:hC):Prop:=∃vs q t,o.data=.fields vs/\vs[1]? =some (.str q t)
theorem Gr.refl(h:bk)(b:az)(o:hC):Gr h b o o:=.inl rfl
theorem vJ{o:hC}(h:yh o):nt o:=by intro j;subst j;refine m6 h λvs q t J U=>?_;injection J with F;subst F;injection U
theorem Uc(b c:az):UG b c≠sf #[]:=by intro h;delta UG at h;injection h with _ _ S;injection S with d;simp at d
theorem Gr.trans{h h':bk}{b:az}{o R A:hC}(x:Gr h b o R)(y:Gr h' b R A)(V:∀c q,h.CodeRec (.ref c) q->h'.CodeRec (.ref c) q):Gr h' b o A:=by
 rcases x with rfl|⟨t,rfl,c,rfl,T⟩
 ·exact y
 ·refine ak y (λH=>?_) λg=>eY g λz U z=>?_;refine ab H ?_
  ·exact .inr ⟨t,rfl,c,rfl,V c _ T⟩
  ·exact absurd U (Uc b c)
theorem Gr.nt{h:bk}{b:az}{o R:hC}(x:Gr h b o R)(Q:Mine.Internal.nt o):R=o:=by
 refine ak x (λH=>?_) λg=>eY g λz h z=>?_;subst H
 ·rfl
 ·exact absurd h Q
theorem jt{o:hC}{T:String}(h:o.cls=.type T):nt o:=by intro P;subst P;injection h
theorem i8{o:hC}{vs:Array aw}{n:Nat}(h:o.data=.seq vs n):nt o:=by intro S;subst S;injection h
theorem nN{o:hC}{es:Array cG}{n:Nat}(h:o.data=.dict es n):nt o:=by intro c;subst c;injection h
theorem uj{o:hC}{v:Option aw}(h:o.data=.cell v):nt o:=by intro Z;subst Z;injection h
abbrev bO(h h':bk):Prop:=∀b o,h.get? b=some o->∃R,h'.get? b=some R/\Gr h' b o R
abbrev iu(h h':bk):Prop:=∀b o,h.get? b=some o->h'.get? b=some o
theorem iu.k{h h':bk}(x:iu h h'):bO h h':=λb o e=>⟨o,x b o e,.refl _ _ _⟩
theorem bO.nt{h h':bk}(k:bO h h'){b:az}{o:hC}(e:h.get? b=some o)(Q:Mine.Internal.nt o):h'.get? b=some o:=by refine aC (k b o e) λR J U=>?_;rw[U.nt Q]at J;exact J
theorem bO.alive{h h':bk}(k:bO h h')(b:az)(o:hC)(e:h.get? b=some o):∃R,h'.get? b=some R:=aC (k b o e) λR J z=>⟨R,J⟩
theorem bO.code{h h':bk}(k:bO h h'){cd:aw}{q:bj}(x:h.CodeRec cd q):h'.CodeRec cd q:=
 rj x λc o vs t J U S d=>⟨c,o,vs,t,J,k.nt U (vJ ⟨vs,q,t,S,d⟩),S,d⟩
theorem bO.trans{a b c:bk}(x:bO a b)(y:bO b c):bO a c:=λp o e=>aC (x p o e) λo1 J f=>aC (y p o1 J) λr U j=>⟨r,U,f.trans j λc q=>y.code⟩
theorem bO.seq{h h':bk}(k:bO h h'){T:String}{a:az}{vs:List aw}(x:cL T h a vs):cL T h' a vs:=aI x λn e=>⟨n,k.nt e (i8 rfl)⟩
section
variable{W W':az->Prop}{ρ ρ':List az}{h h':bk}
theorem VR.mv(hW:∀a,W' a->W a\/h.get? a=Fm)(I:∀b T vs,¬W b->cL T h b vs->cL T h' b vs){v:aw}{a:AV}(x:VR W ρ h v a):
 (∀(n:Nat) (a:az),ρ[n]? =some a->ρ'[n]? =some a)\/Mine.Internal.jP a=true->VR W' ρ' h' v a:=
 have Q:∀{T:String} {a:az} {vs:List aw},¬W a->cL T h a vs->¬W' a:=λo G A=>(hW _ A).elim o λx=>G.elim λz e=>nomatch e.symm.trans x
 VR.rec (motive_1:=λv a z=>(∀(n:Nat) (a:az),ρ[n]? =some a->ρ'[n]? =some a)\/Mine.Internal.jP a=true->VR W' ρ' h' v a)
  (motive_2:=λvs l z=>(∀(n:Nat) (a:az),ρ[n]? =some a->ρ'[n]? =some a)\/dU l=true->ft W' ρ' h' vs l)
  (λz=>.none) (λb z=>.bool b) (λi t z=>.int i t) (λi t z=>.str i t)
  (λo G z R H=>.tup (Q o G) (I _ _ _ o G) (R H)) (λo G z R H=>.lst (Q o G) (I _ _ _ o G) (R H))
  (λe H=>.ref (H.elim (λm=>m _ _ e) λq=>nomatch q)) (λz=>.nil)
  (λz z i1 B H=>.cons (i1 (H.imp id λq=>((au _ _).mp q).1)) (B (H.imp id λq=>((au _ _).mp q).2))) x
theorem VR.move(hW:∀a,W' a->W a\/h.get? a=Fm)(I:∀b T vs,¬W b->cL T h b vs->cL T h' b vs)(X:∀(n:Nat) (a:az),ρ[n]? =some a->ρ'[n]? =some a)
 {v:aw}{a:AV}(x:VR W ρ h v a):VR W' ρ' h' v a:=x.mv hW I (.inl X)
theorem ft.move(hW:∀a,W' a->W a\/h.get? a=Fm)(I:∀b T vs,¬W b->cL T h b vs->cL T h' b vs)(X:∀(n:Nat) (a:az),ρ[n]? =some a->ρ'[n]? =some a)
 {vs:List aw}:∀{l:List AV},ft W ρ h vs l->ft W' ρ' h' vs l:=by
 induction vs with
 |nil=>intro l x;rcases x with⟨⟩;exact .nil
 |cons v vs R=>intro l x;(rcases x with _|⟨a,b⟩;exact .cons (a.move hW I X) (R b))
theorem VR.noRef{v:aw}{a:AV}(x:VR W ρ h v a)(Q:Mine.Internal.jP a=true):VR W ρ' h v a:=x.mv (λz=>.inl) (λz z z z=>id) (.inr Q)
theorem VR.keep{v:aw}{a:AV}(I:bO h h')(x:VR W ρ h v a):VR W ρ h' v a:=x.move (λz h=>.inl h) (λz z z z e=>I.seq e) λz z e=>e
theorem ft.keep{v:List aw}{a:List AV}(I:bO h h')(x:ft W ρ h v a):ft W ρ h' v a:=x.move (λz h=>.inl h) (λz z z z e=>I.seq e) λz z e=>e
theorem ft.length{vs:List aw}:∀{l:List AV},ft W ρ h vs l->vs.length=l.length:=by
 induction vs with
 |nil=>intro l x;rcases x with⟨⟩;rfl
 |cons v vs R=>intro l x;(rcases x with _|⟨a,b⟩;exact tS.mpr (R b))
theorem ft.get{vs:List aw}:∀{l:List AV} {i:Nat} {a:AV},ft W ρ h vs l->l[i]? =some a->∃v,vs[i]? =some v/\VR W ρ h v a:=by
 induction vs with
 |nil=>intro l i a x e;rcases x with⟨⟩;injection e
 |cons v vs R=>
  intro l i a x e;cases x with
  |cons y z=>rcases i with _|i
             ·simp at e;subst e;exact⟨v,rfl,y⟩
             ·simp at e;exact aC (R z e) λw J U=>⟨w,J,U⟩
theorem ft.append{vs vs':List aw}:∀{l l':List AV},ft W ρ h vs l->ft W ρ h vs' l'->ft W ρ h (vs++vs') (l++l'):=by
 induction vs with
 |nil=>intro l l' x y;rcases x with⟨⟩;exact y
 |cons v vs R=>intro l l' x y;(rcases x with _|⟨a,b⟩;exact .cons a (R b y))
theorem ft.set{vs:List aw}:∀{l:List AV} {i:Nat} {v:aw} {a:AV},ft W ρ h vs l->VR W ρ h v a->ft W ρ h (vs.set i v) (l.set i a):=by
 induction vs with
 |nil=>intro l i v a x y;rcases x with⟨⟩;exact .nil
 |cons u vs R=>
  intro l i v a x y;cases x with
  |cons p q=>rcases i with _|i
             ·exact .cons y q
             ·exact .cons p (R q y)
theorem ft.reverse{vs:List aw}:∀{l:List AV},ft W ρ h vs l->ft W ρ h vs.reverse l.reverse:=by
 induction vs with
 |nil=>intro l x;rcases x with⟨⟩;exact .nil
 |cons v vs R=>intro l x;(rcases x with _|⟨a,b⟩;simpa using(R b).append (.cons a .nil))
end
abbrev cD(X:az->Prop)(h h':bk):Prop:=∀b o,(¬X b\/yh o)->h.get? b=some o->∃R,h'.get? b=some R/\Gr h' b o R
theorem cD.of{X:az->Prop}{h h':bk}(x:∀b o,¬X b->h.get? b=some o->h'.get? b=some o)(u:∀b o,X b->h.get? b=some o->¬yh o):cD X h h':=λb o O e=>by
 refine⟨o,x b o ?_ e,.refl _ _ _⟩;refine ak O (λO=>?_) λO=>?_
 ·exact O
 ·exactλq=>u b o q e O
theorem cD.nt{X:az->Prop}{h h':bk}(k:cD X h h'){b:az}{o:hC}(O:¬X b)(e:h.get? b=some o)(Q:Mine.Internal.nt o):h'.get? b=some o:=by refine aC (k b o (.inl O) e) λR J U=>?_;rw[U.nt Q]at J;exact J
theorem cD.code{X:az->Prop}{h h':bk}(k:cD X h h'){cd:aw}{q:bj}(x:h.CodeRec cd q):h'.CodeRec cd q:=by refine rj x λc o vs t J U S d=>aC (k c o (.inr ⟨vs,q,t,S,d⟩) U) λR e1 e2=>?_;rw[e2.nt (vJ ⟨vs,q,t,S,d⟩)]at e1;exact⟨c,o,vs,t,J,e1,S,d⟩
theorem cD.trans{X:az->Prop}{a b c:bk}(x:cD X a b)(y:cD X b c):cD X a c:=λp o B e=>aC (x p o B e) λo1 J f=>aC (y p o1 (B.imp id λV=>ab (f.nt (vJ V))<|V) J) λr U j=>⟨r,U,f.trans j λc q=>y.code⟩
theorem cD.weaken{X Y:az->Prop}{h h':bk}(k:cD X h h')(u:∀p,X p->Y p):cD Y h h':=λb o O e=>k b o (O.imp (λQ q=>Q (u b q)) id) e
theorem cD.ext{X:az->Prop}{h h':bk}(k:bO h h'):cD X h h':=λb o z e=>k b o e
theorem cD.after{X:az->Prop}{a b c:bk}(x:bO a b)(y:cD X b c)(u:∀p o,a.get? p=some o->¬X p):bO a c:=λp o e=>aC (x p o e) λo1 J f=>aC (y p o1 (.inl (u p o e)) J) λr U j=>⟨r,U,f.trans j λc q=>y.code⟩
theorem cD.seq{X:az->Prop}{h h':bk}(k:cD X h h'){T:String}{a:az}{vs:List aw}(L:¬X a)(x:cL T h a vs):cL T h' a vs:=aI x λn e=>⟨n,k.nt L e (i8 rfl)⟩
theorem cD.ns{X:az->Prop}{h h':bk}(k:cD X h h'){a:az}{m:bj->Option aw}(L:¬X a)(x:h.Ns a m):h'.Ns a m:=kB x λo es l J U S=>⟨o,es,l,k.nt L J (nN U),U,S⟩
theorem cD.cell{X:az->Prop}{h h':bk}(k:cD X h h'){c:az}{v:Option aw}(L:¬X c)(x:h.IsCell c v):h'.IsCell c v:=aC x λo J U=>⟨o,k.nt L J (uj U),U⟩
theorem pS{W:az->Prop}{h h':bk}(I:∀b o,¬W b->h.get? b=some o->h'.get? b=some o):∀b T vs,¬W b->cL T h b vs->cL T h' b vs:=λb T vs O Y=>aI Y λn e=>⟨n,I b _ O e⟩
theorem y7{W X:az->Prop}{h h':bk}(k:cD X h h')(u:∀b,X b->W b):∀b T vs,¬W b->cL T h b vs->cL T h' b vs:=λb T vs O e=>k.seq (λx=>O (u b x)) e
structure gK (s s':ao):Prop where
 keep:bO s.heap s'.heap
 os:s'.os=s.os
 hJ:s.gens.size<=s'.gens.size
 gens:∀g,g<s.gens.size->s'.gens[g]? =s.gens[g]?
 bare:wa s.gens->wa s'.gens
theorem gK.refl(s:ao):gK s s:=⟨λz o e=>⟨o,e,.refl _ _ _⟩,rfl,aV _,λz z=>rfl,id⟩
theorem gK.trans{a b c:ao}(x:gK a b)(y:gK b c):gK a c:=
 ⟨x.keep.trans y.keep,y.os.trans x.os,aP x.hJ y.hJ,λg d=>(y.gens g (be d x.hJ)).trans (x.gens g d),λh=>y.bare (x.bare h)⟩
theorem gK.YE{s:ao}{h':bk}{tk:Nat}(I:bO s.heap h'):gK s {s with heap:=h',toks:=tk}:=⟨I,rfl,aV _,λz z=>rfl,id⟩
theorem gK.tok(s:ao)(tk:Nat):gK s {s with toks:=tk}:=⟨λz o e=>⟨o,e,.refl _ _ _⟩,rfl,aV _,λz z=>rfl,id⟩
theorem gK.of{s:ao}{h':bk}{tk:Nat}(I:iu s.heap h'):gK s {s with heap:=h',toks:=tk}:=.YE (iu.k I)
theorem bO.push(h:bk)(o:hC):iu h (h.push o):=λz z e=>cC _ e
abbrev j6(W:az->Prop)(h:bk):Prop:=∀a,W a->∃o,h.get? a=some o
theorem j6.keep{W:az->Prop}{h h':bk}(x:j6 W h)(k:bO h h'):j6 W h':=λa L=>aI (x a L) λo M=>k.alive a o M
theorem cO(h:bk):h.get? h.objs.size=none:=by
 rcases e:h.get? h.objs.size with _|o
 ·rfl
 ·exact absurd (gN e) (zI _)
theorem j6.fresh{W:az->Prop}{h:bk}(x:j6 W h){a:az}(Q:h.get? a=none):¬W a:=λA=>by refine aI (x a A) λo M=>?_;rw[Q]at M;injection M
def iq(env:fZ)(h:bk)(x:bj)(v:aw):Prop:=
 (env.kindOf x=some .local/\∃m,h.Ns env.locals m/\m x=some v)\/
 ((env.kindOf x=some .cell\/env.kindOf x=some .free)/\∃c,env.cells.lookup x=some c/\h.IsCell c (some v))
theorem bO.ns{h h':bk}(k:bO h h'){a:az}{m:bj->Option aw}(x:h.Ns a m):h'.Ns a m:=kB x λo es l J U S=>⟨o,es,l,k.nt J (nN U),U,S⟩
theorem bO.cell{h h':bk}(k:bO h h'){c:az}{v:Option aw}(x:h.IsCell c v):h'.IsCell c v:=aC x λo J U=>⟨o,k.nt J (uj U),U⟩
theorem nO{o:hC}{fd:xS}(h:o.data=.func fd):nt o:=by intro O;subst O;injection h
theorem bO.nolimit{h h':bk}(k:bO h h')(x:h.NoLimit):h'.NoLimit:=aC x λA J U=>⟨A,k.ns J,U⟩
theorem yP{o:hC}{vs:Array aw}{n:Nat}(h:o.data=.seq vs n):¬yh o:=by refineλR=>m6 R λg q t J z=>?_;rw[h]at J;injection J
theorem AZ{o:hC}{es:Array cG}{n:Nat}(h:o.data=.dict es n):¬yh o:=by refineλr=>m6 r λg q t J z=>?_;rw[h]at J;injection J
theorem KI{o:hC}{v:Option aw}(h:o.data=.cell v):¬yh o:=by refineλL=>m6 L λg q t J z=>?_;rw[h]at J;injection J
theorem iq.keep{env:fZ}{h h':bk}{x:bj}{v:aw}(k:bO h h'):iq env h x v->iq env h' x v:=
 Or.imp (λq=>⟨q.1,aC q.2 λm b c=>⟨m,k.ns b,c⟩⟩) λq=>⟨q.1,aC q.2 λc b d=>⟨c,b,k.cell d⟩⟩
def SR(W:az->Prop)(ρ:List az)(h:bk)(st:St):Prop:=
 ∀(n:Nat) (l:List AV),st[n]? =some (some l)->∃(a:az) (vs:List aw),ρ[n]? =some a/\cL "list" h a vs/\ft W ρ h vs l
theorem SR.keep{W:az->Prop}{ρ:List az}{h h':bk}{st:St}(k:bO h h')(x:SR W ρ h st):SR W ρ h' st:=λn l e=>
 cX (x n l e) λa vs J D S=>aI D λm U=>⟨a,vs,J,k.seq ⟨m,U⟩,S.keep k⟩
def zO(tab:List bj)(acc:List Nat)(env:fZ)(W:az->Prop)(ρ:List az)(h:bk)(loc:Loc):Prop:=
 ∀(i:Nat),i∈acc->∀(x:bj),tab[i]? =some x->∀(a:AV),loc[i]? =some a->a≠.c->∃v,iq env h x v/\VR W ρ h v a
theorem zO.keep{tab:List bj}{acc:List Nat}{env:fZ}{W:az->Prop}{ρ:List az}{h h':bk}{loc:Loc}(k:bO h h')(x:zO tab acc env W ρ h loc):
 zO tab acc env W ρ h' loc:=λi hi n Q a L N=>aC (x i hi n Q a L N) λv J U=>⟨v,J.keep k,U.keep k⟩
structure eo (env:fZ) (h:bk):Prop where
 ns:∃m,h.Ns env.locals m
 cells:∀x c,(x,c)∈env.cells->∃v,h.IsCell c v
 apart:env.cells.Pairwise λx y=>x.2≠y.2
 loc:∀x c,(x,c)∈env.cells->c≠env.locals
theorem eo.by{env:fZ}{h h':bk}(F:eo env h)(I:∀b o,(b=env.locals\/∃x,(x,b)∈env.cells)->h.get? b=some o->nt o->h'.get? b=some o):eo env h':=
 ⟨oR F.ns λm o es l J U S=>⟨m,o,es,l,I _ _ (.inl rfl) J (nN U),U,S⟩,λx c V=>eb (F.cells x c V) λv o M u=>⟨v,o,I _ _ (.inr ⟨x,V⟩) M (uj u),u⟩,F.apart,F.loc⟩
theorem jr{o:hC}{vs:Array aw}(h:o.data=.fields vs)(J:∀q t,vs[1]? ≠some (.str q t)):¬yh o:=by refineλZ=>m6 Z λg q t U S=>?_;rw[h]at U;injection U with F;subst F;exact J q t S
theorem cD.Wl{h h':bk}{L:az}{m:bj->Option aw}(T:h.Ns L m)(G:lb L h h'):cD (·=L) h h':=.of (λb o O e=>G.extBut b o O e) λb o O e=>by
 subst O;refine kB T λR es l J U z=>?_;rw[e]at J;injection J with F;exact ab F<|AZ U
theorem eo.Xp{env:fZ}{h:bk}(F:eo env h){p:az}{o:hC}(B:p=env.locals\/∃x,(x,p)∈env.cells)(e:h.get? p=some o):¬yh o:=by
 refine ak B (λH=>?_) λg=>aI g λx Z=>?_;subst H
 ·refine oR F.ns λm R es l J U z=>?_;rw[e]at J;injection J with A;exact ab A<|AZ U
 ·refine eb (F.cells x p Z) λv R J U=>?_;rw[e]at J;injection J with A;exact ab A<|KI U
set_option genInjectivity false in
structure Cx (h₀:bk) where
 prog:fA
 w:cW
 mg:bj->Option aw
 mb:bj->Option aw
 g:h₀.Ns d8 mg
 b:h₀.Ns ma mb
 nolimit:h₀.NoLimit
 seer:h₀.NoSeer
 XS:∀x v,M3 x=some v->mg x=none->x≠"__name__"->mb x=some v
structure i7 (k:Nat) (A:cP):Prop where
 hh:A.handled=none
 depth:A.depth+k+Builtin.pylongFrames<YV
 units:A.units+20*k+100<YT
structure EI (h₀:bk) (tab:List bj) (acc:List Nat) (env:fZ) (W:az->Prop) (ρ:List az) (n0:Nat) (loc:Loc) (st:St) (s:ao):Prop where
 base:bO h₀ s.heap
 live:j6 W s.heap
 tok:n0<=s.toks
 vars:zO tab acc env W ρ s.heap loc
 store:SR W ρ s.heap st
 frame:eo env s.heap
 nR:∀(n:Nat) (l:List AV) (a:az),st[n]? =some (some l)->ρ[n]? =some a->W a
theorem EI.ext{h₀:bk}{tab:List bj}{acc:List Nat}{env:fZ}{W:az->Prop}{ρ:List az}{n0:Nat}{loc:Loc}{st:St}{s s':ao}
 (x:EI h₀ tab acc env W ρ n0 loc st s)(e:gK s s')(A:n0<=s'.toks):EI h₀ tab acc env W ρ n0 loc st s':=
 ⟨x.base.trans e.keep,x.live.keep e.keep,A,x.vars.keep e.keep,x.store.keep e.keep,x.frame.by (λb o z h Q=>e.keep.nt h Q),x.nR⟩
def e9(W:az->Prop)(ρ:List az)(s:ao)(r:AV):aw->ao->Prop:=λv s'=>gK s s'/\VR W ρ s'.heap v r
section
variable{prog:fA}{w:cW}{A:cP}{E:aw->ao->Prop}{s:ao}{W:az->Prop}{ρ:List az}{st:St}
theorem e9.int{i:Int}{t:nZ}{tk:Nat}:e9 W ρ s (.int i) (.int i t) {s with toks:=tk}:=⟨.tok s tk,.int i t⟩
theorem e9.str{x:bj}{y:List Nat}{t:nZ}{tk:Nat}(e:x=strOf y):e9 W ρ s (.str y) (.str x t) {s with toks:=tk}:=⟨.tok s tk,e▸ .str y t⟩
theorem e9.bool{b:Bool}:e9 W ρ s (.bool b) (.bool b) s:=⟨.refl s,.bool b⟩
theorem ly(x y:List Nat):strOf x++strOf y=strOf (x++y):=by show bj.append _ _=_;simp[bj.append,strOf]
theorem cF(x:List Nat):(strOf x).length=x.length:=by rfl
theorem pG(x y:List Nat):(strOf x==strOf y)=(x==y):=by rw[lG];simp[strOf]
theorem gA{v:aw}{a:AV}{l:List AV}(K:SR W ρ s.heap st)(x:VR W ρ s.heap v a)(h:jX st a=some l){I:Prop}(N:∀b vs,v=.ref b->cL "list" s.heap b vs->ft W ρ s.heap vs l->I):I:=by
 cases x with
 |lst B G X=>injection h with F;subst F;exact N _ _ rfl G X
 |ref Q=>
  simp only[(id Nf)]at h;refine aC (Option.join_eq_some_iff.mp h|>λh=>(⟨_,h,rfl⟩:∃o,_=some o/\o=some l)) λo J U=>?_;subst U;refine cX (K _ _ J) λb vs S d O=>?_;rw[Q]at S;injection S with F;subst F;exact N _ _ rfl d O
 |_=>injection h
theorem cL.isList{h:bk}{a:az}{vs:List aw}(x:cL "list" h a vs):h.IsList a vs.toArray:=aI x λn e=>IsL.isList e
theorem rt{l:List AV}{vs:List aw}(X:j6 W s.heap)(x:ft W ρ s.heap vs l)(e:List aw)(Z:e=vs)(tk:Nat):
 e9 W ρ s (.lst l) (.ref s.heap.objs.size) {s with heap:=s.heap.push {cls:=.type "list",data:=.seq e.toArray},toks:=tk}:=by
 subst Z;exact⟨.of (bO.push _ _),.lst (X.fresh (cO _)) ⟨0,bV _ rfl⟩ (x.keep (iu.k (bO.push _ _)))⟩
theorem tp{l:List AV}{vs:List aw}(X:j6 W s.heap)(x:ft W ρ s.heap vs l)(e:List aw)(Z:e=vs)(tk:Nat):
 e9 W ρ s (.tup l) (.ref s.heap.objs.size) {s with heap:=s.heap.push {cls:=.type "tuple",data:=.seq e.toArray},toks:=tk}:=by
 subst Z;exact⟨.of (bO.push _ _),.tup (X.fresh (cO _)) ⟨0,bV _ rfl⟩ (x.keep (iu.k (bO.push _ _)))⟩
theorem Q0{a b:Int}(h:a.natAbs.log2+b.natAbs.log2<=100000\/b.natAbs<2^63\/a.natAbs<2^63):IntMulOk a b:=by
 have S:∀x:Int,x.natAbs<2^63->ag x<=64:=λx Z=>by
  delta ag;split
  ·exact bz 64
  ·by_cases Y:x.natAbs=0
   ·refine ab Y ?_;decide
   ·have:=(i0 Y).mpr Z;exact j4 this
 refine ak h (λh=>?_) λH=>ak H (λh=>?_) λh=>?_
 ·unfold IntMulOk Builtin.Int.intTooBig ag bitsLine;have e:(2:Nat)^27=134217728:=by decide
  refine ab e ?_;simp only[au,decide_eq_true_eq,not_and];intro z;split<;>split<;>(first|exact Std.Rxo.size_eq_zero_iff_not_le.mp rfl|lia)
 ·exact .of_right (S _ h)
 ·exact .of_left (S _ h)
theorem Tv{op:cV}{a b r:Int}{t u:nZ}(h:binI op a b=some r):
 aM (aL prog w) A (xW op (.int a t) (.int b u)) (e9 W ρ s (.int r)) E s:=by
 rcases op with⟨⟩
 case Add=>injection h with F;subst F;exact add_int .int
 case Sub=>injection h with F;subst F;exact sub_int .int
 case Mult=>refine m8 h λT F=>?_;subst F;exact PyProof.Rows.mul_int .int (Q0 T)
 case Mod=>refine Xo h λO F=>?_;subst F;exact mod_int' O .int
 case FloorDiv=>
  refine Xo h λO F=>?_;subst F;exact PyProof.Rows.floordiv_int (λe=>O (.inl e)) .int (.inl (nA (by lia)))
 case Pow=>refine m8 h λT F=>?_;subst F;exact pow_int_small T.1 T.2.1 T.2.2 .int
 case LShift=>refine m8 h λT F=>?_;subst F;exact lshift_int T.1 T.2 .int
 case RShift=>refine m8 h λT F=>?_;subst F;exact rshift_int T .int
 case BitAnd=>injection h with F;subst F;exact and_int .int
 case BitOr=>injection h with F;subst F;exact or_int .int
 case BitXor=>injection h with F;subst F;exact xor_int .int
 all_goals injection h
theorem Ow{op:cV}{a b r:Int}{t u:nZ}(h:binI op a b=some r):
 aM (aL prog w) A (n6 op (.int a t) (.int b u)) (e9 W ρ s (.int r)) E s:=by
 rcases op with⟨⟩
 case Add=>injection h with F;subst F;exact PyProof.Rows.iadd_int .int
 case Sub=>injection h with F;subst F;exact PyProof.Rows.isub_int .int
 case Mult=>refine m8 h λT F=>?_;subst F;exact PyProof.Rows.imul_int .int (Q0 T)
 case Mod=>refine Xo h λO F=>?_;subst F;exact imod_int O .int
 case FloorDiv=>
  refine Xo h λO F=>?_;subst F;exact PyProof.Rows.ifloordiv_int (λe=>O (.inl e)) .int (.inl (nA (by lia)))
 case Pow=>refine m8 h λT F=>?_;subst F;exact ipow_int_small T.1 T.2.1 T.2.2 .int
 case LShift=>refine m8 h λT F=>?_;subst F;exact ilshift_int T.1 T.2 .int
 case RShift=>refine m8 h λT F=>?_;subst F;exact irshift_int T .int
 case BitAnd=>injection h with F;subst F;exact iand_int .int
 case BitOr=>injection h with F;subst F;exact ior_int .int
 case BitXor=>injection h with F;subst F;exact ixor_int .int
 all_goals injection h
theorem mV{n:Nat}(h:n<=cB):n<=mJ:=aP h (by decide)
theorem ue{op:cV}{X:Option AV}{r:AV}{M:cV->Prop}(h:(match op with| .Add=>X|_=>none:Option AV)=some r)(k:X=some r->M .Add):M op:=by rcases op with⟨⟩<;>first|exact k h|injection h
theorem wN{op:cV}{a b r:AV}{M:AV->AV->AV->Prop}(h:jv st op a b=some r)(B:∀i j r,(binI op i j).map .int=some r->M (.int i) (.int j) r)
 (K:∀x y r,(match op with| .Add=>if x.length+y.length<=cB then some (.str (x++y))else none|_=>none:Option AV)=some r->M (.str x) (.str y) r)
 (T:∀a b r,(match op with| .Add=>(jX st a).bind λl=>(jX st b).bind λm=>if l.length+m.length<=cB then some (.lst (l++m))else none|_=>none:Option AV)=some r->M a b r):M a b r:=by
 rcases a with⟨⟩<;>first|exact T _ _ _ h|skip
 ·rcases b with⟨⟩<;>first|exact B _ _ _ h|exact T _ _ _ h
 ·rcases b with⟨⟩<;>first|exact K _ _ _ h|exact T _ _ _ h
theorem NI{a b:AV}{r:Bool}{M:AV->AV->Bool->Prop}(h:QJ a b=some r)(m:∀i j,M (.int i) (.int j) (i==j))(K:∀x y,M (.str x) (.str y) (x==y)):M a b r:=by
 rcases a with⟨⟩<;>first|(injection h;done)|skip
 ·rcases b with⟨⟩<;>first|(injection h;done)|exact ay h▸m _ _
 ·rcases b with⟨⟩<;>first|(injection h;done)|exact ay h▸K _ _
theorem Jq{a b:AV}{r:Bool}{M:AV->AV->Bool->Prop}(h:qp st a b=some r)(m:∀i j,M (.int i) (.int j) (i==j))(K:∀x y,M (.str x) (.str y) (x==y))(T:∀x y,M (.bool x) (.bool y) (x==y))
 (C:∀a b r,(do D0 (<-jX st a) (<-jX st b))=some r->M a b r):M a b r:=by
 rcases a with⟨⟩<;>first|exact C _ _ _ h|skip
 ·rcases b with⟨⟩<;>first|exact C _ _ _ h|exact ay h▸T _ _
 ·rcases b with⟨⟩<;>first|exact C _ _ _ h|exact ay h▸m _ _
 ·rcases b with⟨⟩<;>first|exact C _ _ _ h|exact ay h▸K _ _
theorem Ox{a b:AV}{r:Bool}{M:AV->AV->Bool->Prop}(h:Uw a b=some r)(m:M .none .none true)(K:∀i,M (.int i) .none false)(T:∀x,M (.str x) .none false)(C:∀x,M (.bool x) .none false)(g:∀x y,M (.bool x) (.bool y) (x==y)):M a b r:=by
 rcases a with⟨⟩<;>first|(injection h;done)|skip
 ·rcases b with⟨⟩<;>first|(injection h;done)|exact ay h▸m
 ·rcases b with⟨⟩<;>first|(injection h;done)|exact ay h▸C _|exact ay h▸g _ _
 ·rcases b with⟨⟩<;>first|(injection h;done)|exact ay h▸K _
 ·rcases b with⟨⟩<;>first|(injection h;done)|exact ay h▸T _
theorem J4{a b:AV}{r:Bool}{F:List Nat->List Nat->Option Bool}{G:AV->AV->Option Bool}{M:AV->AV->Prop}(h:(match a,b with| .str y,.str x=>F y x|a,b=>G a b:Option Bool)=some r)(m:∀y x,F y x=some r->M (.str y) (.str x))(K:∀a b,G a b=some r->M a b):M a b:=by
 rcases a with⟨⟩<;>first|exact K _ _ h|skip
 rcases b with⟨⟩<;>first|exact m _ _ h|exact K _ _ h
theorem CY{op:cV}{v u:aw}{a b r:AV}(X:j6 W s.heap)(K:SR W ρ s.heap st)(x:VR W ρ s.heap v a)(y:VR W ρ s.heap u b)(h:jv st op a b=some r):
 aM (aL prog w) A (xW op v u) (e9 W ρ s r) E s:=by
 refine wN (M:=λa b r=>VR W ρ s.heap v a->VR W ρ s.heap u b->aM (aL prog w) A (xW op v u) (e9 W ρ s r) E s) h (λz z z h x y=>?_) (λz z z h x y=>?_) (λz z z h x y=>?_) x y
 ·exact x.dK λt1 e1=>y.dK λt2 e2=>ab e1<|ab e2<|bW h λi J e=>cA e<|Tv J
 ·refine aI x.gf λt1 e1=>aI y.gf λt2 e2=>ab e1<|ab e2<|ue (M:=λop=>aM (aL prog w) A (xW op _ _) _ E s) h λh=>?_
  ·exact m8 h λV F=>cA F<|PyProof.Rows.add_str (λt' tk=>.str (ly _ _)) (ab (cF ..)<|ab (cF ..)<|mV V)
 ·refine ue (M:=λop=>aM (aL prog w) A (xW op _ _) _ E s) h λh=>?_
  ·simp only[bF]at h;refine ew λY=>?_;obtain⟨l,C,m,T,h⟩:=h;refine Y ?_;clear Y;refine m8 h λV F=>cA F<|gA K x C λc vs o1 D U=>ab o1<|aI D λn J=>gA K y T λd g j G B=>ab j<|aI G λn' S=>P.add_list J S ?_ (by simp only[eJ];exact ab U.length<|ab B.length<|mV V);have:=rt X (U.append B) (vs++g) rfl s.toks;simpa using this
theorem Ew{op:cV}{v u:aw}{a b r:AV}(x:VR W ρ s.heap v a)(y:VR W ρ s.heap u b)(h:jv [] op a b=some r)(G:(∃i,a=.int i)\/∃i,a=.str i):
 aM (aL prog w) A (n6 op v u) (e9 W ρ s r) E s:=by
 refine wN (M:=λa b r=>VR W ρ s.heap v a->VR W ρ s.heap u b->((∃i,a=.int i)\/∃i,a=.str i)->aM (aL prog w) A (n6 op v u) (e9 W ρ s r) E s) h (λz z z h x y z=>?_) (λz z z h x y z=>?_) (λz z z h x y G=>?_) x y G
 ·exact x.dK λt1 e1=>y.dK λt2 e2=>ab e1<|ab e2<|bW h λi J e=>cA e<|Ow J
 ·refine aI x.gf λt1 e1=>aI y.gf λt2 e2=>ab e1<|ab e2<|ue (M:=λop=>aM (aL prog w) A (n6 op _ _) _ E s) h λh=>?_
  ·exact m8 h λV F=>cA F<|PyProof.Rows.iadd_str (λt' tk=>.str (ly _ _)) (ab (cF ..)<|ab (cF ..)<|mV V)
 ·refine ue (M:=λop=>aM (aL prog w) A (n6 op _ _) _ E s) h λh=>?_
  ·(refine ak G (λH=>aI H λi g=>?_) λT=>aI T λi I=>?_;subst g;rotate_left;subst I;rotate_right)<;>injection h
noncomputable def ua:aw->aw->Bool
 | .int a _,.int b _=>a==b
 | .str a _,.str b _=>a==b
 |_,_=>false
theorem Bi(x y:List Nat)(t u:nZ):l9 (.str (strOf x) t) (.str (strOf y) u) (x==y):=by have:=SeqRoads2.EqGives.str (strOf x) (strOf y) t u;exact this
theorem w7{h:bk}{v u:aw}{a b:AV}{r:Bool}(x:VR W ρ h v a)(y:VR W ρ h u b)(e:QJ a b=some r):l9 v u r/\ua v u=r:=by
 refine NI (M:=λa b r=>VR W ρ h v a->VR W ρ h u b->l9 v u r/\ua v u=r) e (λz z x y=>?_) (λz z x y=>?_) x y
 ·exact x.dK λt1 f1=>y.dK λt2 f2=>ab f1<|ab f2<|⟨.int _ _ _ _,rfl⟩
 ·exact aI x.gf λt1 f1=>aI y.gf λt2 f2=>ab f1<|ab f2<|⟨Bi _ _ _ _,pG _ _⟩
theorem FY{h:bk}{l:List AV}:∀{m:List AV} {vs g:List aw} {r:Bool},ft W ρ h vs l->ft W ρ h g m->Ap l m=some r->
 vs.length=g.length/\(∀j (J:j<vs.length) (U:j<g.length),l9 vs[j] g[j] (ua vs[j] g[j]))/\r=(aG vs.length).all λj=>ua (vs.getD j .none) (g.getD j .none):=by
 induction l with
 |nil=>
  intro m vs g r x y e;rcases m with _|⟨b,m⟩
  ·exact ab x.sH<|ab y.sH<|⟨rfl,λj J=>absurd J (jD _),(ay e).symm⟩
  ·injection e
 |cons a l R=>
  intro m vs g r x y e;rcases m with _|⟨b,m⟩
  ·injection e
  ·refine ew λY=>x.mo λv vs' f1 Q G=>y.mo λu O f2 y1 y2=>aC (aZ e) λp B e=>aC (aZ e) λq D e=>aN (w7 Q y1 B) λf C=>eY (R G y2 D) λJ U S=>Y ?_;clear Y;refine ab f1<|ab f2<|cA (ay e)<|⟨ab bu (ab bu (ab J rfl)),λj F V=>?_,?_⟩
   ·rcases j with _|j
    ·exact C▸f
    ·exact U j (oA F) (oA V)
   ·refine ab S (ab bu (ab j0 (ab jx (ab List.all_map ?_))));refine ab C ?_;rfl
theorem J3{h:bk}{u:aw}{x:AV}(y:VR W ρ h u x){l:List AV}:∀{vs:List aw} {r:Bool},ft W ρ h vs l->CH x l=some r->
 (∀z,z∈vs->l9 z u (ua z u))/\r=vs.any λz=>ua z u:=by
 induction l with
 |nil=>
  intro vs r p e;exact ab p.sH<|⟨λz M=>absurd M dy,(ay e).symm⟩
 |cons a l R=>
  intro vs r p e;refine ew λY=>p.mo λv vs' f1 C H=>aC (aZ e) λq D e=>aC (aZ e) λQ B e=>aN (w7 C y D) λf j=>aN (R H B) λJ U=>Y ?_;clear Y;refine ab f1<|cA (ay e)<|⟨λz M=>?_,ab List.any_cons (cA U (ab j rfl))⟩;refine ak (aS.mp M) (λM=>?_) λM=>?_
  ·exact ab M<|ab j<|f
  ·exact J z M
set_option tactic.hygienic true in
theorem Tu{v u:aw}{a b:AV}{r:Bool}(N:A.units<YT)(K:SR W ρ s.heap st)(x:VR W ρ s.heap v a)(y:VR W ρ s.heap u b)
 (h:(do D0 (<-jX st a) (<-jX st b))=some r):
 aM (aL prog w) A (eM .Eq v u) (e9 W ρ s (.bool r)) E s/\aM (aL prog w) A (eM .NotEq v u) (e9 W ρ s (.bool (!r))) E s:=by
 simp only[aj,bF]at h;refine ew λY=>?_;obtain⟨l,X,m,T,h⟩:=h;refine Y ?_;clear Y;refine gA K x X λc vs C J U=>ab C<|gA K y T λd g G S B=>ab G ?_;have e1:=U.length;have e2:=B.length;delta D0 at h;split at h
 ·refine eY (FY U B h) λP H t=>?_;have Z:∀j (D:j<vs.toArray.size) (V:j<g.toArray.size),SeqAt.EqAt A.in1 s vs.toArray[j] g.toArray[j] (ua (vs.getD j .none) (g.getD j .none)):=λj D V=>by
   have a1:j<vs.length:=D;have a2:j<g.length:=V;have:=(H j a1 a2).at A.in1 s;simpa[List.getD_eq_getElem?_getD,gx a1,gx a2]using this
  have O:(aG vs.toArray.size).all (λj=>ua (vs.getD j .none) (g.getD j .none))=r:=by refine ab t ?_;rfl
  refine⟨SeqAt.RcAt.lists J.isList S.isList (P) N Z prog w E _ ?_,SeqAt.RcNeAt.lists J.isList S.isList (P) N Z prog w E _ ?_⟩
  ·exact ab O<|.bool
  ·exact ab O<|.bool
 ·rename_i L;injection h with F;subst F;have M:(vs.toArray.size !=g.toArray.size)=true:=by simp;lia
  exact⟨SeqAt.RcAt.lists_lengths J.isList S.isList M N prog w E _ .bool,SeqAt.RcNeAt.lists_lengths J.isList S.isList M N prog w E _ .bool⟩
theorem Q5{v u:aw}{a b:AV}{r:Bool}(N:A.units<YT)(K:SR W ρ s.heap st)(x:VR W ρ s.heap v a)(y:VR W ρ s.heap u b)(h:qp st a b=some r):
 aM (aL prog w) A (eM .Eq v u) (e9 W ρ s (.bool r)) E s/\aM (aL prog w) A (eM .NotEq v u) (e9 W ρ s (.bool (!r))) E s:=by
 refine Jq (M:=λa b r=>VR W ρ s.heap v a->VR W ρ s.heap u b->aM (aL prog w) A (eM .Eq v u) (e9 W ρ s (.bool r)) E s/\aM (aL prog w) A (eM .NotEq v u) (e9 W ρ s (.bool (!r))) E s) h (λz z x y=>?_) (λz z x y=>?_) (λz z x y=>?_) (λz z z h x y=>?_) x y
 ·exact x.dK λt1 e1=>y.dK λt2 e2=>ab e1<|ab e2<|⟨PyProof.Rows.eq_int .bool,PyProof.Rows.ne_int (.bool)⟩
 ·exact aI x.gf λt1 e1=>aI y.gf λt2 e2=>ab e1<|ab e2<|⟨PyProof.Rows.eq_str (ab (pG ..)<|.bool),PyProof.Rows.ne_str (by rewrite[bne];exact ab (pG ..)<|.bool)⟩
 ·exact ab x.mj<|ab y.mj<|⟨PyProof.Rows.eq_bool .bool,PyProof.Rows.ne_bool (.bool)⟩
 ·exact Tu N K x y h
theorem Q6{v u:aw}{a b:AV}{r:Bool}(K:SR W ρ s.heap st)(x:VR W ρ s.heap v a)(y:VR W ρ s.heap u b)(h:(do CH a (<-jX st b))=some r):
 aM (aL prog w) A (eM .In v u) (e9 W ρ s (.bool r)) E s/\aM (aL prog w) A (eM .NotIn v u) (e9 W ρ s (.bool (!r))) E s:=by
 rw[aj,bF]at h;refine ew λY=>aC h λl X h=>gA K y X λc vs Z O U=>?_;subst Z;refine aI O λn J=>aN (J3 x U h) λS d=>Y ?_;clear Y;have e:vs.toArray.any (λz=>ua z v)=r:=by refine ab d ?_;simp
 exact⟨SeqRoads2.in_list _ (λz M=>S z (by simpa using M)) J (ab e<|.bool),SeqRoads2.notIn_list _ (λz M=>S z (by simpa using M)) J (ab e<|.bool)⟩
theorem Q7{v u:aw}{a b:AV}{r:Bool}(x:VR W ρ s.heap v a)(y:VR W ρ s.heap u b)(h:Uw a b=some r):
 aM (aL prog w) A (eM .Is v u) (e9 W ρ s (.bool r)) E s/\aM (aL prog w) A (eM .IsNot v u) (e9 W ρ s (.bool (!r))) E s:=by
 refine Ox (M:=λa b r=>VR W ρ s.heap v a->VR W ρ s.heap u b->aM (aL prog w) A (eM .Is v u) (e9 W ρ s (.bool r)) E s/\aM (aL prog w) A (eM .IsNot v u) (e9 W ρ s (.bool (!r))) E s) h (λx y=>?_) (λz x y=>?_) (λz x y=>?_) (λz x y=>?_) (λz z x y=>?_) x y
 ·exact ab y.ru<|ab x.ru<|⟨M6 .bool,zy .bool⟩
 ·exact x.dK λt e=>ab y.ru<|ab e<|⟨M6 .bool,zy .bool⟩
 ·exact aI x.gf λt e=>ab y.ru<|ab e<|⟨M6 .bool,zy .bool⟩
 ·exact ab y.ru<|ab x.mj<|⟨M6 .bool,zy .bool⟩
 ·exact ab y.mj<|ab x.mj<|⟨is_bool .bool,isnot_bool (.bool)⟩
theorem VI{a b:AV}{F:Int->Int->Bool}{r:Bool}{P:Prop}(h:(match a,b with| .int a,.int b=>some (F a b)|_,_=>none)=some r)(k:∀i j,a=.int i->b=.int j->F i j=r->P):P:=by
 rcases a with⟨⟩<;>first|(injection h;done)|skip
 rcases b with⟨⟩<;>first|(injection h;done)|exact k _ _ rfl rfl (ay h)
theorem Ex{F:Int->Int->Bool}{op:kF}{v u:aw}{a b:AV}{r:Bool}(H:∀i j O B,aM (aL prog w) A (eM op (.int i O) (.int j B)) (e9 W ρ s (.bool (F i j))) E s)(h:(match a,b with| .int a,.int b=>some (F a b)|_,_=>none)=some r)(x:VR W ρ s.heap v a)(y:VR W ρ s.heap u b):
 aM (aL prog w) A (eM op v u) (e9 W ρ s (.bool r)) E s:=VI h λi j e1 e2 c=>by
 simp only[e1]at x;simp only[e2]at y;refine ew λY=>x.dK λt1 f1=>y.dK λt2 f2=>Y ?_;clear Y;exact ab f1<|ab f2<|cA c<|H i j t1 t2
theorem yU{op:kF}{v u:aw}{a b:AV}{r:Bool}(N:A.units<YT)(K:SR W ρ s.heap st)(x:VR W ρ s.heap v a)(y:VR W ρ s.heap u b)(h:fk st op a b=some r):
 aM (aL prog w) A (eM op v u) (e9 W ρ s (.bool r)) E s:=by
 cases op with
 |Eq=>exact(Q5 N K x y h).1
 |NotEq=>
  exact bW h λq J e=>cA e<|(Q5 N K x y J).2
 |Lt=>exact Ex (λz z z z=>PyProof.Rows.lt_int .bool) h x y
 |LtE=>exact Ex (λz z z z=>PyProof.Rows.le_int .bool) h x y
 |Gt=>exact Ex (λz z z z=>PyProof.Rows.gt_int .bool) h x y
 |GtE=>exact Ex (λz z z z=>PyProof.Rows.ge_int .bool) h x y
 |Is=>exact(Q7 x y h).1
 |IsNot=>
  exact bW h λq J e=>cA e<|(Q7 x y J).2
 |In=>
  refine J4 (M:=λa b=>VR W ρ s.heap v a->VR W ρ s.heap u b->_) h (λz z h x y=>?_) (λz z h x y=>?_) x y
  ·exact aI x.gf λt1 f1=>aI y.gf λt2 f2=>ab f1<|ab f2<|cA (ay h)<|PyProof.Rows.in_str (ab (cF ..)<|.bool)
  ·exact(Q6 K x y h).1
 |NotIn=>
  refine J4 (M:=λa b=>VR W ρ s.heap v a->VR W ρ s.heap u b->_) h (λz z h x y=>?_) (λz z h x y=>?_) x y
  ·exact aI x.gf λt1 f1=>aI y.gf λt2 f2=>ab f1<|ab f2<|cA (ay h)<|PyProof.Rows.notIn_str (ab (cF ..)<|.bool)
  ·exact bW h λq J e=>cA e<|(Q6 K x y J).2
noncomputable def vL:AV->Option (Option Int)
 | .none=>some none
 | .int i=>some (some i)
 |_=>none
theorem Gm{a r:AV}{M:AV->AV->Prop}(h:te st a=some r)(m:∀x:List Nat,x.length<=10000->M (.str x) (.int x.length))(K:∀(a:AV) (l:List AV),jX st a=some l->l.length<=10000->M a (.int l.length)):M a r:=by have g:∀a,((jX st a).bind λl=>if l.length<=cB then some (AV.int l.length)else none)=some r->M a r:=λa h=>dn h λl X h=>m8 h λV e=>e▸K _ l X V;have g':∀x:List Nat,(if x.length<=cB then some (AV.int x.length)else none)=some r->M (.str x) r:=λx h=>m8 h λV e=>e▸m _ V;rcases a with⟨⟩<;>first|exact g' _ h|exact g _ h
set_option tactic.hygienic true in
theorem Hc{a b r:AV}{M:AV->AV->AV->Prop}(h:gF st a b=some r)(m:∀i z k c,ll i z.length=some k->z[k]? =some c->M (.str z) (.int i) (.str [c]))(K:∀i l k x,ll i l.length=some k->l[k]? =some x->M (.tup l) (.int i) x)
 (T:∀i a l k x,jX st a=some l->ll i l.length=some k->l[k]? =some x->M a (.int i) x):M a b r:=by
 rcases b with⟨⟩<;>first|(injection h;done)|skip
 rename_i i;have f:∀x:List Nat,((ll i x.length).bind λk=>x[k]?.bind λc=>some (AV.str [c]))=some r->M (.str x) (.int i) r:=λx h=>dn h λk I h=>dn h λc V h=>ay h▸m _ _ k c I V;have j:∀l:List AV,((ll i l.length).bind λk=>l[k]?)=some r->M (.tup l) (.int i) r:=λl h=>dn h λk I h=>K _ _ k _ I h;have t:∀a,((jX st a).bind λl=>(ll i l.length).bind λk=>l[k]?)=some r->M a (.int i) r:=λa h=>dn h λl X h=>dn h λk I h=>T _ _ l k _ X I h;rcases a with⟨⟩<;>first|exact f _ h|exact j _ h|exact t _ h
theorem NG{a:AV}{p:Option Int}{n d q:Nat}{M:Option Int->Nat->Prop}(L:vL a=some p)(D:kA n d a=some q)(m:M none d)(K:∀i:Int,M (some i) (if i<0 then(i+(n:Nat)).toNat else min i.toNat n)):M p q:=by rcases a with⟨⟩<;>first|(injection L;done)|exact ay L▸ay D▸m|exact ay L▸ay D▸K _
set_option tactic.hygienic true in
theorem GL{v:aw}{a:AV}{r:Bool}{Q:Bool->ao->Prop}(x:VR W ρ s.heap v a)(h:cU st a=some r)(N:∀s',gK s s'->Q r s'):
 aM (aL prog w) A (US v) Q E s:=by
 rcases x with⟨⟩<;>first|(injection h;done)|skip
 case none=>injection h with h;subst h;exact truthy_none (N _ (.refl _))
 case bool=>injection h with h;subst h;exact pj (N _ (.refl _))
 case int=>injection h with h;subst h;exact PyProof.Rows.truthy_int (N _ (.refl _))
 case str x t=>
  refine m8 h λV F=>?_;subst F;clear h;have R:x.length<=10000:=V;clear V;refine P.truthy_str (by refine ab (cF ..) ?_;lia) ?_;have e:(((strOf x).length:Int) !=0)= !x.isEmpty:=by refine ab (cF ..) ?_;rcases x with⟨⟩<;>simp[bne];exact bi_ine.mp rfl
  exact ab e<|N _ (.tok _ _)
theorem A7{v:aw}{a:AV}{r:Bool}{Q:Bool->ao->Prop}(x:VR W ρ s.heap v a)(h:cU st a=some r)(N:∀s',gK s s'->s.toks<=s'.toks->Q r s'):
 aM (aL prog w) A (US v) Q E s:=bY (aV s.toks) (GL x h λs' e B=>N s' e B)
theorem Tw{v:aw}{a r:AV}(K:SR W ρ s.heap st)(x:VR W ρ s.heap v a)(h:te st a=some r):
 aM (aL prog w) A (call (.builtin "len") [v]) (e9 W ρ s r) E s:=by
 refine Gm (M:=λa r=>VR W ρ s.heap v a->aM (aL prog w) A (call (.builtin "len") [v]) (e9 W ρ s r) E s) h (λy R x=>?_) (λa l X R x=>?_) x
 ·refine aI x.gf λt e=>?_;rw[e];refine PyProof.Rows.len_str (by refine ab (cF ..) ?_;lia) ?_;exact ab (cF ..)<|.int
 ·refine gA K x X λc vs o1 J U=>?_;rw[o1];have e:=U.length;refine PyProof.Rows.len_list J.isList (by simp;lia) ?_;simp only[eJ,e];exact .int
set_option tactic.hygienic true in
theorem sD{i:Int}{n k:Nat}(h:ll i n=some k){I:Prop}(N:n<=10000->Xz i n=some k->k<n-> -(n:Int)<=i->i<n->(((0<=i/\k=i.toNat)\/(i<0/\k=(i+n).toNat)))->I):I:=by
 refine QM (?_:n<=10000/\Xz i n=some k/\k<n/\ -(n:Int)<=i/\i<n/\((0<=i/\k=i.toNat)\/(i<0/\k=(i+n).toNat))) N;clear N;delta ll at h;split at h
 ·rename_i V;refine⟨V,?_⟩;unfold Xz;split at h
  ·rename_i J;injection h with F;subst F;have:¬i<0:=by lia
   simp[this,J.1,J.2];lia
  ·split at h
   ·rename_i J U;injection h with F;subst F;have:i+(n:Int)<n:=by lia
    simp[U.1,U.2,this];lia
   ·injection h;done
 ·injection h;done
noncomputable def pY(e:Expr):Bool:= !(e.ctorIdx==26)
theorem jU{C:Expr}(h:pY C=true)(o i:aw):subscripted C false o i=Xi [o,i] (getItem o i):=by rcases C with⟨⟩<;>first|rfl|exact(aB h).elim
theorem KR{B C:Expr}{v u:aw}{a b r:AV}(Q:pY C=true)(K:SR W ρ s.heap st)(x:VR W ρ s.heap v a)(y:VR W ρ s.heap u b)(h:gF st a b=some r):
 aM (aL prog w) A (subscriptTail B C v u) (e9 W ρ s r) E s:=by
 refine Hc (M:=λa b r=>VR W ρ s.heap v a->VR W ρ s.heap u b->aM (aL prog w) A (subscriptTail B C v u) (e9 W ρ s r) E s) h (λi z k c I V x y=>?_) (λi l k r I V x y=>?_) (λi a l k r X I V x y=>?_) x y
 ·refine y.dK λH e=>?_;rw[e];refine aI x.gf λt e=>?_;rw[e];refine sD I λN F S L Z R=>tail_any (typeIs_str s _ _) slot_str_getitem.lookup (PyProof.Rows.getItem_str (c:=c) ?_ ?_ (.str rfl)) (jU Q _ _)
  ·have a1:¬i< -(2^63:Int):=by lia
   have a2:¬i>=(2^63:Int):=by lia
   refine ab (decide_eq_false a1) (bp (decide_eq_false a2) ?_);rfl
  ·refine ab (cF ..) (ab F ?_);simpa[strOf]using V
 ·refine y.dK λH e=>?_;subst e;refine sD I λN F S L Z R=>?_;rcases x with _|_|_|_|⟨o,G,X⟩;exact aC (X.get V) λJ D O=>aI G λn G=>tail_any (T:="tuple") ⟨_,G,rfl⟩ slot_tuple_getitem.lookup (P.getItem_tuple G (by lia) (by lia) (k:=k) (y:=J) (ab eJ<|ab X.length<|F) (by simpa using D) ⟨.refl s,O⟩) (jU Q _ _)
 ·refine y.dK λH e=>?_;rw[e];refine sD I λN F S L Z R=>gA K x X λc vs U G d=>?_;rw[U];refine aC (d.get V) λJ D O=>?_;have g:vs.toArray.size=l.length:=d.length;refine tail_any G.isList.typeIs slot_list_getitem.lookup ?_ (jU Q _ _);refine ak R (λq=>?_) λq=>?_
  ·rw[q.2]at D;exact UY G.isList q.1 (by lia) (by simpa using D) ⟨.refl s,O⟩
  ·rw[q.2]at D;exact wpAny_getItem_list_neg G.isList q.1 (ab g<|L) (by lia) (by refine ab g ?_;simpa using D) ⟨.refl s,O⟩
theorem vR(y:List Nat):∀n,(aG n).filterMap (y[·]?)=y.take n:=by
 intro G
 induction G with
 |zero=>
  rfl
 |succ n R=>
  refine ab Qc (ab List.filterMap_append (ab R (ab List.take_add_one ?_)));cases h:y[n]? <;>simp[h]
theorem GR(x:List Nat)(lo hi:Nat):((aG (hi-lo)).map λk=>lo+k).filterMap (x[·]?)=(x.take hi).drop lo:=by refine ab List.filterMap_map (ab xU (cA (vR (x.drop lo) ..) ?_));congr 1;funext k;simp[List.getElem?_drop]
theorem Vo(i:Int)(n:Nat):max 0 (min (if i<0 then i+(n:Int)else i) (n:Int))=((if i<0 then(i+(n:Nat)).toNat else min i.toNat n:Nat):Int)/\(if i<0 then(i+(n:Nat)).toNat else min i.toNat n)<=n:=by
 by_cases h:i<0
 ·refine ab (if_pos h) (ab (if_pos h) ?_);have J:i+n<=n:=by
   have:=Int.add_le_add_right (aF h) (n:Int)
   rwa [BW]at this
  exact ab (P7 J)<|ab (Int.ofNat_toNat ..)<|ab (Int.max_comm ..)<|⟨rfl,tH.mpr J⟩
 ·refine ab (if_neg h) (ab (if_neg h) ?_);have Y:=HQ.mp h;rcases Int.le_total i n with J|J
  ·exact ab (P7 J)<|ab (MR Y)<|ab (fz (tH.mpr J))<|⟨(qN Y).symm,tH.mpr J⟩
  ·exact ab (Int.min_eq_right J)<|ab (MR (aX n))<|ab (Nat.min_eq_right ((Int.le_toNat Y).mpr J))<|⟨rfl,aV n⟩
theorem XX(l h:Nat):(if(l:Int)<h then((h:Int)-l+1-1)/1 else 0).toNat=h-l:=by
 by_cases q:(l:Int)<h
 ·exact ab (if_pos q)<|ab (Int.add_sub_cancel ..)<|ab (Int.ediv_one ..)<|Int.toNat_sub h l
 ·exact ab (if_neg q)<|(Nat.sub_eq_zero_of_le (eG.mp (HQ.mp q))).symm
theorem G6(x:List Nat)(t:nZ){lo hi:AV}{G Q:Option (Int×nZ)}{l h:Nat}(e1:vL lo=some (G.map (·.1)))(e2:vL hi=some (Q.map (·.1)))
 (J:kA x.length 0 lo=some l)(U:kA x.length x.length hi=some h)(V:x.length<=10000){I:Prop}(N:ny (G.map (·.1)) (Q.map (·.1)) 1 x.length=(aG (h-l)).map (λk=>l+k)->h<=x.length->I):I:=by
 have S:∀(p:Option Int) (d:Nat) (a:AV) (q:Nat),vL a=some p->kA x.length d a=some q->d<=x.length->(match p with
  |none=>(d:Int)
  |some i=>max 0 (min (if i<0 then i+(x.length:Int)else i) (x.length:Int)):Int)=(q:Int)/\q<=x.length:=λp d a q L D u=>
  NG (M:=λp q=>(match p with
   |none=>(d:Int)
   |some i=>max 0 (min (if i<0 then i+(x.length:Int)else i) (x.length:Int)):Int)=(q:Int)/\q<=x.length) L D ⟨rfl,u⟩ λi=>Vo i x.length
 refine aN (S _ _ _ _ e1 J (bz _)) λm K=>aN (S _ _ _ _ e2 U (aV _)) λT C=>N ?_ C;have fin:ny (G.map (·.1)) (Q.map (·.1)) 1 x.length=sliceRange l h 1:=by
  rcases G with _|⟨i,O⟩<;>rcases Q with _|⟨j,B⟩<;>simp only[Qg,aK]at m T⊢ <;>
   simp only[ny,show(1:Int)>0 by decide,if_true]<;>congr 1
 refine ab fin ?_;unfold sliceRange;simp only[show(1:Int)>0 by decide,if_true];refine ab (XX ..) ?_;apply jn;refineλk z=>ab (iV ..) ?_;rfl
theorem ki{h:bk}{l:List AV}:∀{vs:List aw} {ns:List Int},ft W ρ h vs l->dM l=some ns->Rt vs ns:=by
 induction l with
 |nil=>intro vs ns x e;cases x.sH;injection e with F;subst F;exact .nil
 |cons a l R=>
  intro vs ns x e;refine x.mo λv L o1 Q V=>?_;rw[o1];clear x;refine aC (aZ e) λi J e=>bW e λq U r=>?_;simp only[<-r];cases iE J;refine Q.dK λt j=>?_;rw[j];exact .cons i t (R V U)
theorem De{h:bk}{l:List AV}:∀{vs:List aw} {ns:List (List Nat)},ft W ρ h vs l->pa l=some ns->∃p:List (bj×nZ),vs=strValues p/\p.map (·.1)=ns.map strOf:=by
 induction l with
 |nil=>intro vs ns x e;cases x.sH;injection e with F;subst F;exact⟨[],rfl,rfl⟩
 |cons a l R=>
  intro vs ns x e;refine x.mo λv L P Q V=>?_;rw[P];clear x;refine aC (aZ e) λi J e=>bW e λq U S=>?_;rw[<-S];cases uL J;refine aI Q.gf λt c=>?_;rw[c];refine aC (R V U) λp f j=>⟨(strOf i,t)::p,by refine ab f ?_;rfl,bp bI (bp bI (ab j rfl))⟩
theorem IntsAre.Zw{h:bk}{vs:List aw}{ns:List Int}(x:Rt vs ns):ft W ρ h vs (ns.map .int):=by
 induction x with
 |nil=>exact .nil
 |cons n t _ R=>exact .cons (.int n t) R
theorem Ay(l:List Int):∀m,(l.foldl (λm b=>if m<b then b else m) m)∈m::l/\∀a∈m::l,a<=l.foldl (λm b=>if m<b then b else m) m:=by
 induction l with
 |nil=>intro m;simp
 |cons b l R=>
  refineλm=>aN (R (if m<b then b else m)) λJ U=>?_;refine⟨?_,λa L=>?_⟩
  ·refine ak (aS.mp J) (λe=>?_) λe=>?_
   ·refine ab e ?_;split<;>simp
   ·exact ax _ (ax _ e)
  ·have d:m<=(if m<b then b else m)/\b<=(if m<b then b else m):=by split<;>lia
   refine ak (aS.mp L) (λH=>?_) λL=>?_;rw[H]
   ·exact gr d.1 (U _ aH)
   ·refine ak (aS.mp L) (λH=>?_) λL=>?_;rw[H]
    ·exact gr d.2 (U _ aH)
    ·exact U a (ax _ L)
theorem Az(l:List Int):∀m,(l.foldl (λm b=>if b<m then b else m) m)∈m::l/\∀a∈m::l,l.foldl (λm b=>if b<m then b else m) m<=a:=by
 induction l with
 |nil=>intro m;simp
 |cons b l R=>
  refineλm=>aN (R (if b<m then b else m)) λJ U=>?_;refine⟨?_,λa L=>?_⟩
  ·refine ak (aS.mp J) (λe=>?_) λe=>?_
   ·refine ab e ?_;split<;>simp
   ·exact ax _ (ax _ e)
  ·have d:(if b<m then b else m)<=m/\(if b<m then b else m)<=b:=by split<;>lia
   refine ak (aS.mp L) (λH=>?_) λL=>?_;rw[H]
   ·exact gr (U _ aH) d.1
   ·refine ak (aS.mp L) (λH=>?_) λL=>?_;rw[H]
    ·exact gr (U _ aH) d.2
    ·exact U a (ax _ L)
theorem Gy{l:List Int}{m:Int}(h:KD l=some m):m∈l/\∀a∈l,a<=m:=by
 rcases l with _|⟨a,l⟩
 ·injection h
 ·injection h with F;subst F;exact Ay l a
theorem GA{l:List Int}{m:Int}(h:KE l=some m):m∈l/\∀a∈l,m<=a:=by
 rcases l with _|⟨a,l⟩
 ·injection h
 ·injection h with F;subst F;exact Az l a
theorem Tx{v:aw}{a:AV}{l:List AV}{ns:List Int}{m:Int}(hh:A.handled=none)(K:SR W ρ s.heap st)(x:VR W ρ s.heap v a)(J:jX st a=some l)(U:dM l=some ns)(S:KD ns=some m):
 aM (aL prog w) A (call (.builtin "max") [v]) (e9 W ρ s (.int m)) E s:=by
 refine gA K x J λc vs Z G d=>?_;subst Z;have hi:=ki d U;refine aN (Gy S) λm1 m2=>aI hi.allInts.items λxs e=>?_;have H:ns=xs.toList.map (·.1):=cA hi.numsOf (cA (HZ ..) (cA e rfl));have g:0<xs.size:=by have:0<ns.length:=BX m1;rw[H,aY,gI]at this;exact this
 have X:=G.isList;rw[e]at X;refine max_intList hh X g λv h' tk D I=>aI (intItems_at D) λt O=>?_;subst O;refine aN (argBest_gt (l8 xs) (xs.size-1)) λf C=>?_;have P:l8 xs (DF (λi j=>decide (l8 xs i>l8 xs j)) (xs.size-1))∈ns:=ab H<|ab (RD ..)<|getD_mem (by refine ab (aY ..) (ab gI ?_);omega+splitDisjunctions);have F:m<=l8 xs (DF (λi j=>decide (l8 xs i>l8 xs j)) (xs.size-1)):=by rw[H]at m1;refine aC (mem_getD m1) λj Y R=>?_;subst R;rw[aY,gI]at Y;exact cA (RD ..)<|C j (by(clear m1 m2 S P C f D I X H e hi x d G U J K hh;lia))
 have B:l8 xs (DF (λi j=>decide (l8 xs i>l8 xs j)) (xs.size-1))=m:=lI (m2 _ P) F;exact ab B<|⟨.of I,.int _ _⟩
theorem Tz{v:aw}{a:AV}{l:List AV}{ns:List Int}{m:Int}(hh:A.handled=none)(K:SR W ρ s.heap st)(x:VR W ρ s.heap v a)(J:jX st a=some l)(U:dM l=some ns)(S:KE ns=some m):
 aM (aL prog w) A (call (.builtin "min") [v]) (e9 W ρ s (.int m)) E s:=by
 refine gA K x J λc vs r G d=>?_;subst r;have hi:=ki d U;refine aN (GA S) λm1 m2=>aI hi.allInts.items λxs e=>?_;have H:ns=xs.toList.map (·.1):=cA hi.numsOf (cA (HZ ..) (cA e rfl));have g:0<xs.size:=by have:0<ns.length:=BX m1;rw[H,aY,gI]at this;exact this
 have X:=G.isList;rw[e]at X;refine min_intList hh X g λv h' tk D I=>aI (intItems_at D) λt L=>?_;subst L;refine aN (argBest_lt (l8 xs) (xs.size-1)) λf C=>?_;have P:l8 xs (DF (λi j=>decide (l8 xs i<l8 xs j)) (xs.size-1))∈ns:=ab H<|ab (RD ..)<|getD_mem (by refine ab (aY ..) (ab gI ?_);omega+splitDisjunctions);have F:l8 xs (DF (λi j=>decide (l8 xs i<l8 xs j)) (xs.size-1))<=m:=by rw[H]at m1;refine aC (mem_getD m1) λj Y Z=>?_;subst Z;rw[aY,gI]at Y;exact cA (RD ..)<|C j (by(clear m1 m2 S P C f D I X H e hi x d G U J K hh;lia))
 have B:l8 xs (DF (λi j=>decide (l8 xs i<l8 xs j)) (xs.size-1))=m:=lI F (m2 _ P);exact ab B<|⟨.of I,.int _ _⟩
theorem OR{a b:Int}{t u:nZ}(hh:A.handled=none):aM (aL prog w) A (call (.builtin "min") [.int a t,.int b u]) (e9 W ρ s (.int (if b<a then b else a))) E s:=
 min_two_ints hh λh' tk I=>by split<;>exact⟨.of I,.int _ _⟩
theorem TA{v:aw}{a:AV}{l:List AV}{ns:List Int}(hh:A.handled=none)(K:SR W ρ s.heap st)(x:VR W ρ s.heap v a)(J:jX st a=some l)(U:dM l=some ns):
 aM (aL prog w) A (call (.builtin "sum") [v]) (e9 W ρ s (.int ns.sum)) E s:=by
 refine gA K x J λc vs n G d=>?_;subst n;have hi:=ki d U;refine aI hi.allInts.items λxs e=>?_;have H:ns=xs.toList.map (·.1):=cA hi.numsOf (cA (HZ ..) (cA e rfl));have X:=G.isList;rw[e]at X;exact sum_intListG hh X λh' tk t' I=>ab (preSum_eq ..)<|ab (fJ (by simp))<|cA H<|⟨.of I,.int _ _⟩
theorem insI_perm(a:Int):∀l:List Int,(insI a l).Perm (a::l):=by
 intro G
 induction G with
 |nil=>
  exact .refl _
 |cons b l R=>
  simp only[(id QW)];split
  ·exact .refl _
  ·exact((R).cons b).trans (.swap _ _ _)
theorem sortI_perm:∀l:List Int,(sortI l).Perm l:=by
 intro G
 induction G with
 |nil=>
  exact .refl _
 |cons a l R=>
  exact(insI_perm a (sortI l)).trans ((R).cons a)
set_option tactic.hygienic true in
theorem AH(a:Int):∀l:List Int,l.Pairwise (·<=·)->(insI a l).Pairwise (·<=·):=by
 intro G
 induction G with
 |nil=>
  exactλz=>(sortedZ_iff (insI a [])).mp rfl
 |cons b l R=>
  intro h;simp only[(id QW)];split
  ·rename_i I;refine fO.mpr ⟨λc V=>?_,h⟩;refine ak (aS.mp V) (λH=>?_) λV=>?_;simp only[H]
   ·exact I
   ·exact gr I ((fO.mp h).1 c V)
  ·rename_i I;refine fO.mpr ⟨λc V=>?_,R (fO.mp h).2⟩;refine ak (aS.mp ((insI_perm a l).mem_iff.mp V)) (λH=>?_) λV=>?_;simp only[H]
   ·exact Int.le_of_not_le I
   ·exact(fO.mp h).1 c V
theorem rI:∀l:List Int,(sortI l).Pairwise (·<=·):=by
 intro G
 induction G with
 |nil=>
  exact .nil
 |cons a l R=>
  exact AH a _ (R)
theorem GK{v:aw}{a:AV}{l:List AV}{ns:List Int}(X:j6 W s.heap)(K:SR W ρ s.heap st)(x:VR W ρ s.heap v a)(J:jX st a=some l)(U:dM l=some ns)(T:ns.length<64):
 aM (aL prog w) A (call (.builtin "sorted") [v]) (e9 W ρ s (.lst ((sortI ns).map .int))) E s:=by
 refine gA K x J λc vs F G d=>?_;subst F;have hi:=ki d U;refine sorted_ints G.isList hi (ab hi.length<|T) λD C a1 a2 a3=>aI (sortedAll_at s.heap vs D) λe Z=>?_;have Q:C=sortI ns:=(a2.trans (sortI_perm ns).symm).eq_of_pairwise (le:=λa b:Int=>a<=b) (λa b z z J U=>lI J U) a3 (rI ns);clear a2;clear a3;subst Q;have B:s.heap.get? (s.heap.objs.size+1)=none:=by
  rcases e:s.heap.get? (s.heap.objs.size+1)with _|o
  ·rfl
  ·exact absurd (gN e) (i5.mpr (nu _))
 exact⟨.of (s:=s) (tk:=s.toks) (λz z=>sortedAll_old),.lst (X.fresh B) ⟨e,Z⟩ (IntsAre.Zw a1)⟩
end
set_option genInjectivity false in
structure Ck where
 names:List (bj×dz)
 tab:List bj
 acc:List Nat
 tk:Nat:=0
noncomputable def qz:List bj:= ["_MAX_STRING_SIZE","_MOVE_COST","_CASE_COST","_DIV_LIMIT"]
noncomputable def Ck.glob(K:Ck)(x:bj):Bool:=K.names.lookup x==some .globalImplicit&& !(x==("__debug__":bj))
noncomputable def rn(K:Ck)(nm:bj)(x:bj):Bool:=x==nm&&K.glob x
noncomputable def pW(f:Nat):Option bj:=(Sq[f]?).map strOf
noncomputable def bJ(e:Expr):Bool:= !(e.ctorIdx==22)
noncomputable def oY(names:List (bj×dz))(scope:cQ):List (bj×dz):=
 scope.names.map λ(n,k)=>if k==.free&&names.lookup n==some .cell then(n,.cell)else(n,k)
noncomputable def qH:kR->List Nat
 | .bX i=> [i]
 | .many l=>l
noncomputable def fP(K:Ck)(scope:cQ)(t:kR):Ck where
 names:=oY K.names scope
 tab:=K.tab
 acc:=(K.acc.filter λi=>match K.tab[i]? with
  |some x=>scope.names.lookup x==some .free&&(K.names.lookup x==some .cell||K.names.lookup x==some .free)
  |none=>false)++qH t
 tk:=K.tk
noncomputable def ku(K:Ck)(scope:cQ):Bool:=
 scope.kind==.function&& !scope.isGenerator&& !scope.isCoroutine&&decide ((scope.names.map (·.1)).Nodup)&&
 (scope.names.all λ(n,k)=>(k !=.free||K.names.lookup n==some .cell||K.names.lookup n==some .free)&&scope.names.lookup n==some k)
noncomputable def xH(e:CE):Bool:= [4,10,11,12,13,14,19,20,40].contains e.ix
noncomputable def Ek(e:CE):Bool:=e.ix==4||(e.ix==43||e.ix==44)
noncomputable def bD{B:Type}(o:Option B)(F:B->Bool):Bool:=match o with
 |some a=>F a
 |none=>false
theorem ju{B:Type}{o:Option B}{F:B->Bool}(h:∀a,F a=false):bD o F=false:=by
 rcases o with _|a
 ·rfl
 ·exact h a
noncomputable def kU(e:Expr):Option (bj×eO):=if h:e.ctorIdx=23 then tD (motive_1:=λz=>Option _) e h (λx p=>some (x,p))else none
theorem gH{e:Expr}{q:bj×eO}(h:kU e=some q):e=.Name q.1 q.2:=cx (P:=λq=>e=.Name q.1 q.2) (rU λi=>tD (motive_1:=λe=>∀i,i9 (tD (motive_1:=λz=>Option _) e i (λx p=>some (x,p))) λq=>e=.Name q.1 q.2) e i (λx p z=>rfl) i) h
noncomputable def rQ(e:Expr):Option (Expr×cV×Expr×eO):=if h:e.ctorIdx=2 then BP (motive_1:=λz=>Option _) e h (λl o r p=>some (l,o,r,p))else none
theorem nX{e:Expr}{q:Expr×cV×Expr×eO}(h:rQ e=some q):e=.BinOp q.1 q.2.1 q.2.2.1 q.2.2.2:=cx (P:=λq=>e=.BinOp q.1 q.2.1 q.2.2.1 q.2.2.2) (rU λi=>BP (motive_1:=λe=>∀i,i9 (BP (motive_1:=λz=>Option _) e i (λl o r p=>some (l,o,r,p))) λq=>e=.BinOp q.1 q.2.1 q.2.2.1 q.2.2.2) e i (λl o r p z=>rfl) i) h
noncomputable def zw(e:Expr):Option (ud×Expr×eO):=if h:e.ctorIdx=3 then xR (motive_1:=λz=>Option _) e h (λo y p=>some (o,y,p))else none
theorem sT{e:Expr}{q:ud×Expr×eO}(h:zw e=some q):e=.UnaryOp q.1 q.2.1 q.2.2:=cx (P:=λq=>e=.UnaryOp q.1 q.2.1 q.2.2) (rU λi=>xR (motive_1:=λe=>∀i,i9 (xR (motive_1:=λz=>Option _) e i (λo y p=>some (o,y,p))) λq=>e=.UnaryOp q.1 q.2.1 q.2.2) e i (λo y p z=>rfl) i) h
noncomputable def rR(e:Expr):Option (MQ×List Expr×eO):=if h:e.ctorIdx=0 then zB (motive_1:=λz=>Option _) e h (λo D p=>some (o,D,p))else none
theorem pe{e:Expr}{q:MQ×List Expr×eO}(h:rR e=some q):e=.BoolOp q.1 q.2.1 q.2.2:=cx (P:=λq=>e=.BoolOp q.1 q.2.1 q.2.2) (rU λi=>zB (motive_1:=λe=>∀i,i9 (zB (motive_1:=λz=>Option _) e i (λo D p=>some (o,D,p))) λq=>e=.BoolOp q.1 q.2.1 q.2.2) e i (λo D p z=>rfl) i) h
noncomputable def pI(e:Expr):Option (Expr×List kF×List Expr×eO):=if h:e.ctorIdx=15 then xQ (motive_1:=λz=>Option _) e h (λl os rs p=>some (l,os,rs,p))else none
theorem nY{e:Expr}{q:Expr×List kF×List Expr×eO}(h:pI e=some q):e=.Compare q.1 q.2.1 q.2.2.1 q.2.2.2:=cx (P:=λq=>e=.Compare q.1 q.2.1 q.2.2.1 q.2.2.2) (rU λi=>xQ (motive_1:=λe=>∀i,i9 (xQ (motive_1:=λz=>Option _) e i (λl os rs p=>some (l,os,rs,p))) λq=>e=.Compare q.1 q.2.1 q.2.2.1 q.2.2.2) e i (λl os rs p z=>rfl) i) h
noncomputable def zr(e:Expr):Option (Expr×Expr×Expr×eO):=if h:e.ctorIdx=5 then BQ (motive_1:=λz=>Option _) e h (λt a b p=>some (t,a,b,p))else none
theorem vZ{e:Expr}{q:Expr×Expr×Expr×eO}(h:zr e=some q):e=.IfExp q.1 q.2.1 q.2.2.1 q.2.2.2:=cx (P:=λq=>e=.IfExp q.1 q.2.1 q.2.2.1 q.2.2.2) (rU λi=>BQ (motive_1:=λe=>∀i,i9 (BQ (motive_1:=λz=>Option _) e i (λt a b p=>some (t,a,b,p))) λq=>e=.IfExp q.1 q.2.1 q.2.2.1 q.2.2.2) e i (λt a b p z=>rfl) i) h
noncomputable def Mq(e:Expr):Option (List Expr×eO):=if h:e.ctorIdx=24 then Fd (motive_1:=λz=>Option _) e h (λD p=>some (D,p))else none
theorem BA{e:Expr}{q:List Expr×eO}(h:Mq e=some q):e=.List q.1 q.2:=cx (P:=λq=>e=.List q.1 q.2) (rU λi=>Fd (motive_1:=λe=>∀i,i9 (Fd (motive_1:=λz=>Option _) e i (λD p=>some (D,p))) λq=>e=.List q.1 q.2) e i (λD p z=>rfl) i) h
noncomputable def xM(e:Expr):Option (List Expr×Nat×eO):=if h:e.ctorIdx=25 then BS (motive_1:=λz=>Option _) e h (λD n p=>some (D,n,p))else none
theorem rT{e:Expr}{q:List Expr×Nat×eO}(h:xM e=some q):e=.Tuple q.1 q.2.1 q.2.2:=cx (P:=λq=>e=.Tuple q.1 q.2.1 q.2.2) (rU λi=>BS (motive_1:=λe=>∀i,i9 (BS (motive_1:=λz=>Option _) e i (λD n p=>some (D,n,p))) λq=>e=.Tuple q.1 q.2.1 q.2.2) e i (λD n p z=>rfl) i) h
noncomputable def v8(e:Expr):Option (Expr×Expr×eO):=if h:e.ctorIdx=21 then ux (motive_1:=λZ=>Option _) e h (λy z p=>some (y,z,p))else none
theorem pJ{e:Expr}{q:Expr×Expr×eO}(h:v8 e=some q):e=.Subscript q.1 q.2.1 q.2.2:=cx (P:=λq=>e=.Subscript q.1 q.2.1 q.2.2) (rU λi=>ux (motive_1:=λe=>∀i,i9 (ux (motive_1:=λZ=>Option _) e i (λy z p=>some (y,z,p))) λq=>e=.Subscript q.1 q.2.1 q.2.2) e i (λy z p Z=>rfl) i) h
noncomputable def E6(e:Expr):Option (Option Expr×Option Expr×Option Expr×eO):=if h:e.ctorIdx=26 then BR (motive_1:=λz=>Option _) e h (λa b c p=>some (a,b,c,p))else none
theorem Dv{e:Expr}{q:Option Expr×Option Expr×Option Expr×eO}(h:E6 e=some q):e=.Slice q.1 q.2.1 q.2.2.1 q.2.2.2:=cx (P:=λq=>e=.Slice q.1 q.2.1 q.2.2.1 q.2.2.2) (rU λi=>BR (motive_1:=λe=>∀i,i9 (BR (motive_1:=λz=>Option _) e i (λa b c p=>some (a,b,c,p))) λq=>e=.Slice q.1 q.2.1 q.2.2.1 q.2.2.2) e i (λa b c p z=>rfl) i) h
noncomputable def zq(e:Expr):Option (Expr×List Expr×List Keyword×eO):=if h:e.ctorIdx=16 then Fc (motive_1:=λz=>Option _) e h (λf a k p=>some (f,a,k,p))else none
theorem sQ{e:Expr}{q:Expr×List Expr×List Keyword×eO}(h:zq e=some q):e=.Call q.1 q.2.1 q.2.2.1 q.2.2.2:=cx (P:=λq=>e=.Call q.1 q.2.1 q.2.2.1 q.2.2.2) (rU λi=>Fc (motive_1:=λe=>∀i,i9 (Fc (motive_1:=λz=>Option _) e i (λf a k p=>some (f,a,k,p))) λq=>e=.Call q.1 q.2.1 q.2.2.1 q.2.2.2) e i (λf a k p z=>rfl) i) h
noncomputable def Mp(e:Expr):Option (Expr×bj×eO):=if h:e.ctorIdx=20 then uw (motive_1:=λz=>Option _) e h (λy n p=>some (y,n,p))else none
theorem Hz{e:Expr}{q:Expr×bj×eO}(h:Mp e=some q):e=.Attribute q.1 q.2.1 q.2.2:=cx (P:=λq=>e=.Attribute q.1 q.2.1 q.2.2) (rU λi=>uw (motive_1:=λe=>∀i,i9 (uw (motive_1:=λz=>Option _) e i (λy n p=>some (y,n,p))) λq=>e=.Attribute q.1 q.2.1 q.2.2) e i (λy n p z=>rfl) i) h
noncomputable def zu(e:Expr):Option (Expr×List wb×cQ×eO):=if h:e.ctorIdx=8 then wo (motive_1:=λz=>Option _) e h (λy g s p=>some (y,g,s,p))else none
theorem Du{e:Expr}{q:Expr×List wb×cQ×eO}(h:zu e=some q):e=.ListComp q.1 q.2.1 q.2.2.1 q.2.2.2:=cx (P:=λq=>e=.ListComp q.1 q.2.1 q.2.2.1 q.2.2.2) (rU λi=>wo (motive_1:=λe=>∀i,i9 (wo (motive_1:=λz=>Option _) e i (λy g s p=>some (y,g,s,p))) λq=>e=.ListComp q.1 q.2.1 q.2.2.1 q.2.2.2) e i (λy g s p z=>rfl) i) h
noncomputable def E4:wc->Option Unit
 | .none=>some ()
 |_=>none
theorem Ds{e:wc}{q:Unit}(h:E4 e=some q):e=.none:=cx (P:=λz=>e=.none) (by rcases e with⟨⟩<;>first|exact fc|exact rfl) h
noncomputable def E3:wc->Option Bool
 | .bool b=>some b
 |_=>none
theorem Dq{e:wc}{q:Bool}(h:E3 e=some q):e=.bool q:=cx (P:=λq=>e=.bool q) (by rcases e with⟨⟩<;>first|exact fc|exact rfl) h
noncomputable def l2{B:Type}:List B->Option (B×B)
 | []=>none
 |a::l=>(l1 l).map λb=>(a,b)
theorem rq{B A:Type}{a:B}{q:B×A}{x:Option A}(h:x.map (λb=>(a,b))=some q):a=q.1/\x=some q.2:=by
 rcases x with _|u
 ·injection h
 ·injection h with F;subst F;exact⟨rfl,rfl⟩
theorem my{B:Type}{l:List B}{q:B×B}(h:l2 l=some q):l= [q.1,q.2]:=by
 rcases l with _|⟨a,l⟩
 ·injection h
 ·exact aN (rq h) λe N=>ab (gL N) (ab e rfl)
noncomputable def o0{B:Type}:Option B->Option Unit
 |none=>some ()
 |_=>none
theorem A5{B:Type}{l:Option B}{q:Unit}(h:o0 l=some q):l=none:=by
 rcases l with _|a
 ·rfl
 ·injection h
theorem aU{B:Type}{o:Option B}{F:B->Bool}(h:bD o F=true){I:Prop}(N:∀a,o=some a->F a=true->I):I:=by
 rcases o with _|a
 ·exact(aB h).elim
 ·exact N a rfl h
noncomputable def Nw(b:Bool):Option Unit:=if b then some ()else none
theorem yl{b:Bool}{u:Unit}(h:Nw b=some u):b=true:=by
 rcases b with _|_
 ·injection h
 ·rfl
noncomputable def ck(x:Expr):Option wc:=(rS x).map (·.1)
theorem Aa{e:Expr}{c:wc}(h:ck e=some c){I:Prop}(N:∀k p,e=.Constant c k p->I):I:=by
 delta ck at h;rcases hx:rS e with _|q
 ·rw[hx]at h;injection h
 ·rw[hx]at h;injection h with F;subst F;exact N _ _ (qM hx)
noncomputable def BB:ud->Option Unit
 | .USub=>some ()
 |_=>none
noncomputable def Mr:ud->Option Unit
 | .Invert=>some ()
 |_=>none
noncomputable def Ms:ud->Option Unit
 | .Not=>some ()
 |_=>none
noncomputable def Rn:MQ->Option Unit
 | .And=>some ()
 |_=>none
noncomputable def Ul:MQ->Option Unit
 | .Or=>some ()
 |_=>none
theorem BC{o:ud}{q:Unit}(h:BB o=some q):o=.USub:=cx (P:=λz=>o=.USub) (by rcases o with⟨⟩<;>first|exact fc|exact rfl) h
theorem HA{o:ud}{q:Unit}(h:Mr o=some q):o=.Invert:=cx (P:=λz=>o=.Invert) (by rcases o with⟨⟩<;>first|exact fc|exact rfl) h
theorem HB{o:ud}{q:Unit}(h:Ms o=some q):o=.Not:=cx (P:=λz=>o=.Not) (by rcases o with⟨⟩<;>first|exact fc|exact rfl) h
theorem Mo{o:MQ}{q:Unit}(h:Rn o=some q):o=.And:=cx (P:=λz=>o=.And) (by rcases o with⟨⟩<;>first|exact fc|exact rfl) h
theorem E5{o:MQ}{q:Unit}(h:Ul o=some q):o=.Or:=cx (P:=λz=>o=.Or) (by rcases o with⟨⟩<;>first|exact fc|exact rfl) h
noncomputable def W8:kF->Option Unit
 | .In=>some ()
 |_=>none
theorem PY{o:kF}{q:Unit}(h:W8 o=some q):o=.In:=cx (P:=λz=>o=.In) (by rcases o with⟨⟩<;>first|exact fc|exact rfl) h
noncomputable def vY(x:Expr):Option (bj×eO×List Expr×eO):=(zq x).bind λq=>(kU q.1).bind λf=>(l0 q.2.2.1).map λz=>(f.1,f.2,q.2.1,q.2.2.2)
theorem lz{e:Expr}{q:bj×eO×List Expr×eO}(h:vY e=some q):e=.Call (.Name q.1 q.2.1) q.2.2.1 [] q.2.2.2:=by refine ew λY=>aC (aZ h) λc J h=>aC (aZ h) λf U h=>?_;obtain⟨e,u,S⟩:=xf h;refine Y ?_;clear Y;exact ab (sQ J) (ab (gH U) (ab (lR S) (cA e rfl)))
noncomputable def sS(x:Expr):Option (Expr×bj×eO×List Expr×eO):=(zq x).bind λq=>(Mp q.1).bind λf=>(l0 q.2.2.1).map λz=>(f.1,f.2.1,f.2.2,q.2.1,q.2.2.2)
theorem kn{e:Expr}{q:Expr×bj×eO×List Expr×eO}(h:sS e=some q):e=.Call (.Attribute q.1 q.2.1 q.2.2.1) q.2.2.2.1 [] q.2.2.2.2:=by refine ew λY=>aC (aZ h) λc J h=>aC (aZ h) λf U h=>?_;obtain⟨e,u,S⟩:=xf h;refine Y ?_;clear Y;exact ab (sQ J) (ab (Hz U) (ab (lR S) (cA e rfl)))
noncomputable def PZ(x:Expr):Option (bj×eO×Option Expr×Option Expr×eO×eO):=(v8 x).bind λq=>(kU q.1).bind λf=>(E6 q.2.1).bind λs=>(o0 s.2.2.1).map λz=>(f.1,f.2,s.1,s.2.1,s.2.2.2,q.2.2)
theorem zv{e:Expr}{q:bj×eO×Option Expr×Option Expr×eO×eO}(h:PZ e=some q):e=.Subscript (.Name q.1 q.2.1) (.Slice q.2.2.1 q.2.2.2.1 none q.2.2.2.2.1) q.2.2.2.2.2:=by refine ew λY=>aC (aZ h) λc J h=>aC (aZ h) λf U h=>aC (aZ h) λs d h=>?_;obtain⟨e,u,S⟩:=xf h;refine Y ?_;clear Y;exact ab (pJ J) (ab (gH U) (ab (Dv d) (ab (A5 S) (cA e rfl))))
noncomputable def Uk(x:Expr):Option (Expr×Expr×Expr×List Expr×cQ×eO):=(zu x).bind λq=>(l1 q.2.1).bind λc=>(Nw (c.is_async==0)).map λz=>(q.1,c.target,c.iter,c.ifs,q.2.2.1,q.2.2.2)
theorem zt{e:Expr}{q:Expr×Expr×Expr×List Expr×cQ×eO}(h:Uk e=some q):e=.ListComp q.1 [⟨q.2.1,q.2.2.1,q.2.2.2.1,0⟩] q.2.2.2.2.1 q.2.2.2.2.2:=by refine ew λY=>aC (aZ h) λc J h=>aC (aZ h) λj U h=>?_;rcases j with⟨t,i,A,n⟩;obtain⟨e,u,S⟩:=xf h;refine Y ?_;clear Y;have d:n=0:=eq_of_beq (yl S);exact ab (Du J) (ab (gL U) (ab d (cA e rfl)))
noncomputable def Iw(x:Expr):Option (bj):=(kU x).map λq=>q.1
theorem qA{O:Expr}{F:bj->Bool}(h:bD (Iw O) F=true){I:Prop}(N:∀x p,O=.Name x p->I):I:=aU h λv h z=>bW h λq T z=>N _ _ (gH T)
noncomputable def zU(x:Expr):Option Unit:=(ck x).bind E4
theorem Gi{O:Expr}{F:Unit->Bool}(h:bD (zU O) F=true){I:Prop}(N:∀u pos,O=.Constant .none u pos->I):I:=by refine aU h λv h z=>aC (aZ h) λc J h=>?_;refine Aa J λk p U=>?_;exact N _ _ (bp U (ab (Ds h) rfl))
noncomputable def zT(x:Expr):Option Bool:=(ck x).bind E3
theorem sC{O:Expr}{F:Bool->Bool}(h:bD (zT O) F=true){I:Prop}(N:∀b u pos,O=.Constant (.bool b) u pos->I):I:=by refine aU h λv h z=>aC (aZ h) λc J h=>?_;refine Aa J λk p U=>?_;exact N _ _ _ (bp U (ab (Dq h) rfl))
noncomputable def DM(x:Expr):Option Int:=(ck x).bind Dr
theorem vw{O:Expr}{F:Int->Bool}(h:bD (DM O) F=true){I:Prop}(N:∀b u pos,O=.Constant (.int b) u pos->I):I:=by refine aU h λv h z=>aC (aZ h) λc J h=>?_;refine Aa J λk p U=>?_;exact N _ _ _ (bp U (ab (xK h) rfl))
noncomputable def pk(x:Expr):Option bj:=(ck x).bind Dt
theorem Ka{O:Expr}{F:bj->Bool}(h:bD (pk O) F=true){I:Prop}(N:∀b u pos,O=.Constant (.str b) u pos->I):I:=by refine aU h λv h z=>aC (aZ h) λc J h=>?_;refine Aa J λk p U=>?_;exact N _ _ _ (bp U (ab (sR h) rfl))
noncomputable def Ik(x:Expr):Option (Expr×cV×Expr):=(rQ x).map λq=>(q.1,q.2.1,q.2.2.1)
theorem Ef{O:Expr}{F:Expr×cV×Expr->Bool}(h:bD (Ik O) F=true){I:Prop}(N:∀l o r pos,O=.BinOp l o r pos->I):I:=aU h λv h z=>bW h λq T z=>N _ _ _ _ (nX T)
noncomputable def Iu(x:Expr):Option (Expr):=(zw x).bind λq=>(BB q.1).map λz=>q.2.1
theorem Ol{O:Expr}{F:Expr->Bool}(h:bD (Iu O) F=true){I:Prop}(N:∀y pos,O=.UnaryOp .USub y pos->I):I:=aU h λv h z=>aC (aZ h) λq J h=>bW h λu T z=>N _ _ (bp (sT J) (ab (BC T) rfl))
noncomputable def Iq(x:Expr):Option (Expr):=(zw x).bind λq=>(Mr q.1).map λz=>q.2.1
theorem Oi{O:Expr}{F:Expr->Bool}(h:bD (Iq O) F=true){I:Prop}(N:∀y pos,O=.UnaryOp .Invert y pos->I):I:=aU h λv h z=>aC (aZ h) λq J h=>bW h λu T z=>N _ _ (bp (sT J) (ab (HA T) rfl))
noncomputable def Iy(x:Expr):Option (Expr):=(zw x).bind λq=>(Ms q.1).map λz=>q.2.1
theorem Oo{O:Expr}{F:Expr->Bool}(h:bD (Iy O) F=true){I:Prop}(N:∀y pos,O=.UnaryOp .Not y pos->I):I:=aU h λv h z=>aC (aZ h) λq J h=>bW h λu T z=>N _ _ (bp (sT J) (ab (HB T) rfl))
noncomputable def Iz(x:Expr):Option (Expr×Expr):=(rR x).bind λq=>(Ul q.1).bind λz=>(l2 q.2.1).map λy=>y
theorem Oq{O:Expr}{F:Expr×Expr->Bool}(h:bD (Iz O) F=true){I:Prop}(N:∀y z pos,O=.BoolOp .Or [y,z] pos->I):I:=aU h λv h Z=>aC (aZ h) λq J h=>aC (aZ h) λu U h=>bW h λu T Z=>N _ _ _ (bp (pe J) (ab (E5 U) (ab (my T) rfl)))
noncomputable def Ij(x:Expr):Option (List Expr):=(rR x).bind λq=>(Rn q.1).map λz=>q.2.1
theorem Oa{O:Expr}{F:List Expr->Bool}(h:bD (Ij O) F=true){I:Prop}(N:∀D pos,O=.BoolOp .And D pos->I):I:=aU h λv h z=>aC (aZ h) λq J h=>bW h λu T z=>N _ _ (bp (pe J) (ab (Mo T) rfl))
noncomputable def Qu(x:Expr):Option (List Expr):=(rR x).bind λq=>(Ul q.1).map λz=>q.2.1
theorem SU{O:Expr}{F:List Expr->Bool}(h:bD (Qu O) F=true){I:Prop}(N:∀D pos,O=.BoolOp .Or D pos->I):I:=aU h λv h z=>aC (aZ h) λq J h=>bW h λu T z=>N _ _ (bp (pe J) (ab (E5 T) rfl))
noncomputable def DN(x:Expr):Option (Expr×kF×Expr):=(pI x).bind λq=>(l1 q.2.1).bind λo=>(l1 q.2.2.1).map λr=>(q.1,o,r)
theorem AI{O:Expr}{F:Expr×kF×Expr->Bool}(h:bD (DN O) F=true){I:Prop}(N:∀l o r pos,O=.Compare l [o] [r] pos->I):I:=aU h λv h z=>aC (aZ h) λq J h=>aC (aZ h) λo U h=>bW h λr T z=>N _ _ _ _ (bp (nY J) (ab (gL U) (ab (gL T) rfl)))
noncomputable def DO(x:Expr):Option (Expr×kF×kF×Expr×Expr):=(pI x).bind λq=>(l2 q.2.1).bind λo=>(l2 q.2.2.1).map λr=>(q.1,o.1,o.2,r.1,r.2)
theorem J9{O:Expr}{F:Expr×kF×kF×Expr×Expr->Bool}(h:bD (DO O) F=true){I:Prop}(N:∀l o1 A y r pos,O=.Compare l [o1,A] [y,r] pos->I):I:=aU h λv h z=>aC (aZ h) λq J h=>aC (aZ h) λo U h=>bW h λr T z=>N _ _ _ _ _ _ (bp (nY J) (ab (my U) (ab (my T) rfl)))
noncomputable def Io(x:Expr):Option (Expr×Expr×Expr):=(zr x).map λq=>(q.1,q.2.1,q.2.2.1)
theorem Og{O:Expr}{F:Expr×Expr×Expr->Bool}(h:bD (Io O) F=true){I:Prop}(N:∀t a b pos,O=.IfExp t a b pos->I):I:=aU h λv h z=>bW h λq T z=>N _ _ _ _ (vZ T)
noncomputable def Qr(x:Expr):Option (List Expr):=(Mq x).map λq=>q.1
theorem yG{O:Expr}{F:List Expr->Bool}(h:bD (Qr O) F=true){I:Prop}(N:∀D pos,O=.List D pos->I):I:=aU h λv h z=>bW h λq T z=>N _ _ (BA T)
noncomputable def Qv(x:Expr):Option (List Expr):=(xM x).map λq=>q.1
theorem Kf{O:Expr}{F:List Expr->Bool}(h:bD (Qv O) F=true){I:Prop}(N:∀D u pos,O=.Tuple D u pos->I):I:=aU h λv h z=>bW h λq T z=>N _ _ _ (rT T)
noncomputable def ID(x:Expr):Option (Expr×Expr):=(v8 x).map λq=>(q.1,q.2.1)
theorem Ej{O:Expr}{F:Expr×Expr->Bool}(h:bD (ID O) F=true){I:Prop}(N:∀y z pos,O=.Subscript y z pos->I):I:=aU h λv h Z=>bW h λq T Z=>N _ _ _ (pJ T)
noncomputable def IB(x:Expr):Option (bj×Expr×Expr):=(PZ x).bind λq=>(o0 q.2.2.2.1).bind λz=>q.2.2.1.map λl=>(q.1,.Name q.1 q.2.1,l)
theorem Eh{O:Expr}{F:bj×Expr×Expr->Bool}(h:bD (IB O) F=true){I:Prop}(N:∀nm G l p pos,O=.Subscript (.Name nm G) (.Slice (some l) none none p) pos->I):I:=aU h λv h z=>aC (aZ h) λq J h=>aC (aZ h) λu U h=>bW h λl T z=>N _ _ _ _ _ (bp (zv J) (ab (A5 U) (ab T rfl)))
noncomputable def IC(x:Expr):Option (bj×Expr×Expr):=(PZ x).bind λq=>(o0 q.2.2.1).bind λz=>q.2.2.2.1.map λl=>(q.1,.Name q.1 q.2.1,l)
theorem Ei{O:Expr}{F:bj×Expr×Expr->Bool}(h:bD (IC O) F=true){I:Prop}(N:∀nm G l p pos,O=.Subscript (.Name nm G) (.Slice none (some l) none p) pos->I):I:=aU h λv h z=>aC (aZ h) λq J h=>aC (aZ h) λu U h=>bW h λl T z=>N _ _ _ _ _ (bp (zv J) (ab (A5 U) (ab T rfl)))
noncomputable def IA(x:Expr):Option (bj×Expr×Expr×Expr):=(PZ x).bind λq=>q.2.2.1.bind λl=>q.2.2.2.1.map λu=>(q.1,.Name q.1 q.2.1,l,u)
theorem Ov{O:Expr}{F:bj×Expr×Expr×Expr->Bool}(h:bD (IA O) F=true){I:Prop}(N:∀nm G l u p pos,O=.Subscript (.Name nm G) (.Slice (some l) (some u) none p) pos->I):I:=aU h λv h z=>aC (aZ h) λq J h=>aC (aZ h) λl U h=>bW h λu T z=>N _ _ _ _ _ _ (bp (zv J) (ab U (ab T rfl)))
noncomputable def n7(x:Expr):Option (bj×Expr):=(vY x).bind λq=>(l1 q.2.2.1).map λy=>(q.1,y)
theorem vt{O:Expr}{F:bj×Expr->Bool}(h:bD (n7 O) F=true){I:Prop}(N:∀f p y pos,O=.Call (.Name f p) [y] [] pos->I):I:=aU h λv h z=>aC (aZ h) λq J h=>bW h λy T z=>N _ _ _ _ (bp (lz J) (ab (gL T) rfl))
noncomputable def Il(x:Expr):Option (bj×Expr×Expr):=(vY x).bind λq=>(l2 q.2.2.1).map λy=>(q.1,y)
theorem J8{O:Expr}{F:bj×Expr×Expr->Bool}(h:bD (Il O) F=true){I:Prop}(N:∀f p y z pos,O=.Call (.Name f p) [y,z] [] pos->I):I:=aU h λv h Z=>aC (aZ h) λq J h=>bW h λy T Z=>N _ _ _ _ _ (bp (lz J) (ab (my T) rfl))
noncomputable def Im(x:Expr):Option (bj×List Expr):=(vY x).map λq=>(q.1,q.2.2.1)
theorem vy{O:Expr}{F:bj×List Expr->Bool}(h:bD (Im O) F=true){I:Prop}(N:∀f p D pos,O=.Call (.Name f p) D [] pos->I):I:=aU h λv h z=>bW h λq T z=>N _ _ _ _ (lz T)
noncomputable def Qs(x:Expr):Option (bj×bj×List Expr):=(vY x).bind λq=>(l1 q.2.2.1).bind λy=>(vY y).map λr=>(q.1,r.1,r.2.2.1)
theorem Kc{O:Expr}{F:bj×bj×List Expr->Bool}(h:bD (Qs O) F=true){I:Prop}(N:∀f p g p' D L pos,O=.Call (.Name f p) [.Call (.Name g p') D [] L] [] pos->I):I:=by refine aU h λv h z=>aC (aZ h) λq J h=>aC (aZ h) λy U h=>?_;refine bW h λr T z=>?_;exact N _ _ _ _ _ _ _ (ab (lz J) (ab (gL U) (ab (lz T) rfl)))
noncomputable def wM(x:Expr):Option (Expr×bj×Bool):=(sS x).bind λq=>(l0 q.2.2.2.1).map λz=>(q.1,q.2.1,q.2.2.1.endLine==q.2.2.2.2.line)
theorem CM{O:Expr}{F:Expr×bj×Bool->Bool}(h:bD (wM O) F=true){I:Prop}(N:∀y n Z pos,O=.Call (.Attribute y n Z) [] [] pos->I):I:=aU h λv h z=>aC (aZ h) λq J h=>bW h λu T z=>N _ _ _ _ (bp (kn J) (ab (lR T) rfl))
noncomputable def DP(x:Expr):Option (Expr×bj×Expr×Bool):=(sS x).bind λq=>(l1 q.2.2.2.1).map λz=>(q.1,q.2.1,z,q.2.2.1.endLine==q.2.2.2.2.line)
theorem SP{O:Expr}{F:Expr×bj×Expr×Bool->Bool}(h:bD (DP O) F=true){I:Prop}(N:∀y n Z z pos,O=.Call (.Attribute y n Z) [z] [] pos->I):I:=aU h λv h Y=>aC (aZ h) λq J h=>bW h λz T Y=>N _ _ _ _ _ (bp (kn J) (ab (gL T) rfl))
noncomputable def Qt(x:Expr):Option (Expr×bj×bj×bj×Bool):=(sS x).bind λq=>(l2 q.2.2.2.1).bind λz=>(pk z.1).bind λu=>(pk z.2).map λv=>(q.1,q.2.1,u,v,q.2.2.1.endLine==q.2.2.2.2.line)
theorem yq{e:Expr}{u:bj}(h:pk e=some u){I:Prop}(N:∀k p,e=.Constant (.str u) k p->I):I:=aC (aZ h) λc J h=>Aa J λk p U=>N k p (bp U (ab (sR h) rfl))
theorem SQ{O:Expr}{F:Expr×bj×bj×bj×Bool->Bool}(h:bD (Qt O) F=true):∃y n Z u m R v K H pos,O=.Call (.Attribute y n Z) [.Constant (.str u) m R,.Constant (.str v) K H] [] pos:=by refine ew λY=>aU h λv h X=>aC (aZ h) λq J h=>aC (aZ h) λz U h=>aC (aZ h) λu S h=>bW h λv T X=>yq S λm R e1=>yq T λK H e2=>Y ?_;clear Y;exact⟨_,_,_,_,_,_,_,_,_,_,ab (kn J) (ab (my U) (ab e1 (ab e2 rfl)))⟩
noncomputable def Qq(x:Expr):Option (bj×bj×Expr×Bool):=(sS x).bind λq=>(l1 q.2.2.2.1).bind λz=>(pk q.1).map λe=>(e,q.2.1,z,q.2.2.1.endLine==q.2.2.2.2.line)
theorem SO{O:Expr}{F:bj×bj×Expr×Bool->Bool}(h:bD (Qq O) F=true){I:Prop}(N:∀e u p n Z z pos,O=.Call (.Attribute (.Constant (.str e) u p) n Z) [z] [] pos->I):I:=aU h λv h Y=>aC (aZ h) λq J h=>aC (aZ h) λz U h=>bW h λe T Y=>yq T λm R e1=>N _ _ _ _ _ _ _ (ab (kn J) (ab (gL U) (ab e1 rfl)))
noncomputable def Qp(x:Expr):Option (bj×bj×Expr×Bool):=(sS x).bind λq=>(l1 q.2.2.2.1).bind λz=>(kU q.1).map λf=>(f.1,q.2.1,z,q.2.2.1.endLine==q.2.2.2.2.line)
theorem SM{O:Expr}{F:bj×bj×Expr×Bool->Bool}(h:bD (Qp O) F=true){I:Prop}(N:∀x p n Z z pos,O=.Call (.Attribute (.Name x p) n Z) [z] [] pos->I):I:=aU h λv h Y=>aC (aZ h) λq J h=>aC (aZ h) λz U h=>bW h λf T Y=>N _ _ _ _ _ _ (ab (kn J) (ab (gL U) (ab (gH T) rfl)))
noncomputable def Ip(x:Expr):Option (Expr×bj):=(pI x).bind λq=>(l1 q.2.1).bind λo=>(W8 o).bind λz=>(l1 q.2.2.1).bind λy=>(kU y).map λr=>(q.1,r.1)
theorem Oh{O:Expr}{F:Expr×bj->Bool}(h:bD (Ip O) F=true){I:Prop}(N:∀l x p pos,O=.Compare l [.In] [.Name x p] pos->I):I:=by refine aU h λv h z=>aC (aZ h) λq J h=>aC (aZ h) λo U h=>aC (aZ h) λu S h=>?_;refine aC (aZ h) λy d h=>?_;refine bW h λr T z=>?_;exact N _ _ _ _ (ab (nY J) (ab (gL U) (ab (PY S) (ab (gL d) (ab (gH T) rfl)))))
noncomputable def uH(x:Expr):Option (Expr×Expr×Expr×cQ):=(Uk x).bind λq=>(l0 q.2.2.2.1).map λz=>(q.1,q.2.1,q.2.2.1,q.2.2.2.2.1)
theorem Oj{O:Expr}{F:Expr×Expr×Expr×cQ->Bool}(h:bD (uH O) F=true){I:Prop}(N:∀y b i A pos,O=.ListComp y [⟨b,i,[],0⟩] A pos->I):I:=aU h λv h z=>aC (aZ h) λq J h=>bW h λu T z=>N _ _ _ _ _ (bp (zt J) (ab (lR T) rfl))
noncomputable def Ir(x:Expr):Option (Expr×Expr×Expr×Expr×cQ):=(Uk x).bind λq=>(l1 q.2.2.2.1).map λz=>(q.1,q.2.1,q.2.2.1,z,q.2.2.2.2.1)
theorem Eg{O:Expr}{F:Expr×Expr×Expr×Expr×cQ->Bool}(h:bD (Ir O) F=true){I:Prop}(N:∀y b i z u pos,O=.ListComp y [⟨b,i,[z],0⟩] u pos->I):I:=aU h λv h Z=>aC (aZ h) λq J h=>bW h λz T Z=>N _ _ _ _ _ _ (bp (zt J) (ab (gL T) rfl))
noncomputable def lZ(e:bC):Option (List Expr×Expr×eO):=if h:e.ctorIdx=5 then qf (motive_2:=λz=>Option _) e h (λl v p=>some (l,v,p))else none
theorem jw{e:bC}{q:List Expr×Expr×eO}(h:lZ e=some q):e=.Assign q.1 q.2.1 q.2.2:=cx (P:=λq=>e=.Assign q.1 q.2.1 q.2.2) (rU λi=>qf (motive_2:=λe=>∀i,i9 (qf (motive_2:=λz=>Option _) e i (λl v p=>some (l,v,p))) λq=>e=.Assign q.1 q.2.1 q.2.2) e i (λl v p z=>rfl) i) h
noncomputable def Mt(e:bC):Option (Expr×cV×Expr×eO):=if h:e.ctorIdx=7 then uD (motive_2:=λz=>Option _) e h (λt o v p=>some (t,o,v,p))else none
theorem BD{e:bC}{q:Expr×cV×Expr×eO}(h:Mt e=some q):e=.AugAssign q.1 q.2.1 q.2.2.1 q.2.2.2:=cx (P:=λq=>e=.AugAssign q.1 q.2.1 q.2.2.1 q.2.2.2) (rU λi=>uD (motive_2:=λe=>∀i,i9 (uD (motive_2:=λz=>Option _) e i (λt o v p=>some (t,o,v,p))) λq=>e=.AugAssign q.1 q.2.1 q.2.2.1 q.2.2.2) e i (λt o v p z=>rfl) i) h
noncomputable def BF(e:bC):Option (Option Expr×eO):=if h:e.ctorIdx=3 then zK (motive_2:=λz=>Option _) e h (λo p=>some (o,p))else none
theorem rW{e:bC}{q:Option Expr×eO}(h:BF e=some q):e=.Return q.1 q.2:=cx (P:=λq=>e=.Return q.1 q.2) (rU λi=>zK (motive_2:=λe=>∀i,i9 (zK (motive_2:=λz=>Option _) e i (λo p=>some (o,p))) λq=>e=.Return q.1 q.2) e i (λo p z=>rfl) i) h
noncomputable def Ro(e:bC):Option (eO):=if h:e.ctorIdx=26 then B9 (motive_2:=λz=>Option _) e h (λp=>some (p))else none
theorem Mv{e:bC}{q:eO}(h:Ro e=some q):e=.Break q:=cx (P:=λq=>e=.Break q) (rU λi=>B9 (motive_2:=λe=>∀i,i9 (B9 (motive_2:=λz=>Option _) e i (λp=>some (p))) λq=>e=.Break q) e i (λp z=>rfl) i) h
noncomputable def Um(e:bC):Option (Option Expr×Option Expr×eO):=if h:e.ctorIdx=16 then bC.Raise.elim (motive_2:=λz=>Option _) e h (λa b p=>some (a,b,p))else none
noncomputable def Mw(e:bC):Option (Expr×eO):=if h:e.ctorIdx=24 then Fn (motive_2:=λz=>Option _) e h (λe p=>some (e,p))else none
theorem ur{e:bC}{q:Expr×eO}(h:Mw e=some q):e=.Expr q.1 q.2:=cx (P:=λq=>e=.Expr q.1 q.2) (rU λi=>Fn (motive_2:=λe=>∀i,i9 (Fn (motive_2:=λz=>Option _) e i (λe p=>some (e,p))) λq=>e=.Expr q.1 q.2) e i (λe p z=>rfl) i) h
noncomputable def BE(e:bC):Option (Expr×List bC×List bC×eO):=if h:e.ctorIdx=12 then M2 (motive_2:=λz=>Option _) e h (λt a b p=>some (t,a,b,p))else none
theorem rV{e:bC}{q:Expr×List bC×List bC×eO}(h:BE e=some q):e=.If q.1 q.2.1 q.2.2.1 q.2.2.2:=cx (P:=λq=>e=.If q.1 q.2.1 q.2.2.1 q.2.2.2) (rU λi=>M2 (motive_2:=λe=>∀i,i9 (M2 (motive_2:=λz=>Option _) e i (λt a b p=>some (t,a,b,p))) λq=>e=.If q.1 q.2.1 q.2.2.1 q.2.2.2) e i (λt a b p z=>rfl) i) h
noncomputable def My(e:bC):Option (Expr×List bC×List bC×eO):=if h:e.ctorIdx=11 then Ca (motive_2:=λz=>Option _) e h (λt b e p=>some (t,b,e,p))else none
theorem HG{e:bC}{q:Expr×List bC×List bC×eO}(h:My e=some q):e=.While q.1 q.2.1 q.2.2.1 q.2.2.2:=cx (P:=λq=>e=.While q.1 q.2.1 q.2.2.1 q.2.2.2) (rU λi=>Ca (motive_2:=λe=>∀i,i9 (Ca (motive_2:=λz=>Option _) e i (λt b e p=>some (t,b,e,p))) λq=>e=.While q.1 q.2.1 q.2.2.1 q.2.2.2) e i (λt b e p z=>rfl) i) h
noncomputable def Dw(e:bC):Option (Expr×Expr×List bC×List bC×eO):=if h:e.ctorIdx=9 then HU (motive_2:=λz=>Option _) e h (λg i b e p=>some (g,i,b,e,p))else none
theorem xN{e:bC}{q:Expr×Expr×List bC×List bC×eO}(h:Dw e=some q):e=.For q.1 q.2.1 q.2.2.1 q.2.2.2.1 q.2.2.2.2:=cx (P:=λq=>e=.For q.1 q.2.1 q.2.2.1 q.2.2.2.1 q.2.2.2.2) (rU λi=>HU (motive_2:=λe=>∀i,i9 (HU (motive_2:=λz=>Option _) e i (λg i b e p=>some (g,i,b,e,p))) λq=>e=.For q.1 q.2.1 q.2.2.1 q.2.2.2.1 q.2.2.2.2) e i (λg i b e p z=>rfl) i) h
noncomputable def Mx(e:bC):Option (bj×cZ×List bC×List Expr×Option Expr×List TypeParam×cQ×Option cQ×bj×eO):=if h:e.ctorIdx=0 then sd (motive_2:=λz=>Option _) e h (λn a b c r t s o d p=>some (n,a,b,c,r,t,s,o,d,p))else none
theorem HD{e:bC}{q:bj×cZ×List bC×List Expr×Option Expr×List TypeParam×cQ×Option cQ×bj×eO}(h:Mx e=some q):e=.FunctionDef q.1 q.2.1 q.2.2.1 q.2.2.2.1 q.2.2.2.2.1 q.2.2.2.2.2.1 q.2.2.2.2.2.2.1 q.2.2.2.2.2.2.2.1 q.2.2.2.2.2.2.2.2.1 q.2.2.2.2.2.2.2.2.2:=cx (P:=λq=>e=.FunctionDef q.1 q.2.1 q.2.2.1 q.2.2.2.1 q.2.2.2.2.1 q.2.2.2.2.2.1 q.2.2.2.2.2.2.1 q.2.2.2.2.2.2.2.1 q.2.2.2.2.2.2.2.2.1 q.2.2.2.2.2.2.2.2.2) (rU λi=>sd (motive_2:=λe=>∀i,i9 (sd (motive_2:=λz=>Option _) e i (λn a b c r t s o d p=>some (n,a,b,c,r,t,s,o,d,p))) λq=>e=.FunctionDef q.1 q.2.1 q.2.2.1 q.2.2.2.1 q.2.2.2.2.1 q.2.2.2.2.2.1 q.2.2.2.2.2.2.1 q.2.2.2.2.2.2.2.1 q.2.2.2.2.2.2.2.2.1 q.2.2.2.2.2.2.2.2.2) e i (λn a b c r t s o d p z=>rfl) i) h
noncomputable def fS(x:Expr):Bool:= !(bD (vY x) λq=>q.2.2.1.isEmpty)
noncomputable def Wh(K:Ck)(names:List (bj×dz))(i:Nat)(x:bj):Bool:=K.tab[i]? ==some x&&(names.lookup x==some .local||names.lookup x==some .cell)
noncomputable def qG(K:Ck)(names:List (bj×dz))(i:Nat)(g:Expr):Bool:=bD (kU g) λq=>Wh K names i q.1
noncomputable def jV(K:Ck)(names:List (bj×dz))(t:kR)(g:Expr):Bool:=match t with
 | .bX i=>qG K names i g
 | .many I=>bD (xM g) λq=>q.1.length==I.length&&(I.zip q.1).all λp=>qG K names p.1 p.2
theorem ba{a b:Bool}(h:(a&&b)=true):a=true/\b=true:=by
 rcases a with _|_
 ·exact(aB h).elim
 ·exact⟨rfl,h⟩
theorem allB{l:List Bool}(h:l.all id=true){b:Bool}(i:Nat)(e:l[i]? =some b):b=true:=aq.mp h b (aW e)
theorem nB{b:Bool}(h:(!b)=true):b=false:=by
 rcases b with _|_
 ·rfl
 ·exact(aB h).elim
theorem ij{K:Ck}{names:List (bj×dz)}{i:Nat}{g:Expr}(h:qG K names i g=true):∃x p,g=.Name x p/\K.tab[i]? =some x/\(names.lookup x=some .local\/names.lookup x=some .cell):=by
 refine aU h λq J h=>⟨q.1,q.2,gH J,eq_of_beq (ba h).1,?_⟩;refine ak ((fy _ _).mp (ba h).2) (λh=>?_) λh=>?_
 ·exact .inl (eq_of_beq h)
 ·exact .inr (eq_of_beq h)
theorem rN{K:Ck}{names:List (bj×dz)}{I:List Nat}{g:Expr}(h:jV K names (.many I) g=true):∃es n p,g=.Tuple es n p/\es.length=I.length/\((I.zip es).all λp=>qG K names p.1 p.2)=true:=aU h λq J h=>⟨_,_,_,rT J,eq_of_beq (ba h).1,(ba h).2⟩
mutual
noncomputable def cz(K:Ck)(m:Nat):CE->Expr->Bool
 | .u,x=>bD (zU x) λZ=>true
 | .v b,x=>bD (zT x) λc=>b==c
 | .d i,x=>bD (DM x) λj=>i==j
 | .l s,x=>bD (pk x) λy=>strOf s==y
 | .a i,x=>bD (Iw x) λx=>K.acc.contains i&&K.tab[i]? ==some x&& !(x==("__debug__":bj))&& !(x==("__classdict__":bj))
 | .n k,x=>bD (Iw x) λx=>qz[k]? ==some x&&K.glob x
 | .f op a b,x=>bD (Ik x) λq=>op==q.2.1&&cz K 0 a q.1&&cz K 0 b q.2.2
 | .neg a,x=>bD (Iu x) λy=>cz K 0 a y
 | .inv a,x=>bD (Iq x) λy=>cz K 0 a y
 | .D a b,x=>bD (Iz x) λq=>m==0&&cz K 0 a q.1&&cz K 0 b q.2
 | .cmp op a b,x=>bD (DN x) λq=>op==q.2.1&&cz K 0 a q.1&&cz K 0 b q.2.2&& !pO op q.2.2
 | .C op P a b c,x=>bD (DO x) λq=>m==1&&op==q.2.1&&P==q.2.2.1&&cz K 0 a q.1&&cz K 0 b q.2.2.2.1&&cz K 0 c q.2.2.2.2&& !pO P q.2.2.2.2
 | .B a,x=>bD (Iy x) λy=>m==1&&xH a&&cz K 1 a y
 | .band l,x=>bD (Ij x) λxs=>m==1&&l.all xH&&fV K 1 l xs
 | .bor l,x=>bD (Qu x) λxs=>m==1&&l.all xH&&fV K 1 l xs
 | .N t a b,x=>bD (Io x) λq=>m==0&&xH t&&cz K 1 t q.1&&cz K 0 a q.2.1&&cz K 0 b q.2.2
 | .list l,x=>bD (Qr x) λxs=>decide (l.length<=1000)&&fV K 0 l xs
 | .tuple l,x=>bD (Qv x) λxs=>decide (l.length<=1000)&&fV K 0 l xs
 | .sub a i,x=>bD (ID x) λq=>cz K 0 a q.1&&cz K 0 i q.2&&pY q.2
 | .F a lo,x=>bD (IB x) λq=>cz K 0 a q.2.1&&cz K 0 lo q.2.2
 | .A a hi,x=>bD (IC x) λq=>cz K 0 a q.2.1&&cz K 0 hi q.2.2
 | .I a lo hi,x=>bD (IA x) λq=>cz K 0 a q.2.1&&cz K 0 lo q.2.2.1&&cz K 0 hi q.2.2.2
 | .len a,x=>bD (n7 x) λq=>rn K "len" q.1&&cz K 0 a q.2&&bJ q.2
 | .G l,x=>bD (Qs x) λq=>rn K "list" q.1&&rn K "range" q.2.1&&fV K 0 l q.2.2&& !l.isEmpty
 | .Cq a,x=>bD (n7 x) λq=>rn K "max" q.1&&cz K 0 a q.2&&bJ q.2
 | .R a,x=>bD (n7 x) λq=>rn K "min" q.1&&cz K 0 a q.2&&bJ q.2
 | .U a b,x=>bD (Il x) λq=>rn K "min" q.1&&cz K 0 a q.2.1&&cz K 0 b q.2.2&&bJ q.2.1&&bJ q.2.2
 | .E a,x=>bD (n7 x) λq=>rn K "sum" q.1&&cz K 0 a q.2&&bJ q.2
 | .sorted a,x=>bD (n7 x) λq=>rn K "sorted" q.1&&cz K 0 a q.2&&bJ q.2
 | .Ad a,x=>bD (n7 x) λq=>rn K "ord" q.1&&cz K 0 a q.2&&bJ q.2
 | .S a,x=>bD (n7 x) λq=>rn K "chr" q.1&&cz K 0 a q.2&&bJ q.2
 | .divmod a b,x=>bD (Il x) λq=>rn K "divmod" q.1&&cz K 0 a q.2.1&&cz K 0 b q.2.2&&bJ q.2.1&&bJ q.2.2
 | .lower a,x=>bD (wM x) λq=>q.2.1==("lower":bj)&&cz K 0 a q.1&&fS q.1&&q.2.2
 | .upper a,x=>bD (wM x) λq=>q.2.1==("upper":bj)&&cz K 0 a q.1&&fS q.1&&q.2.2
 | .yY a y z,x=>bD (Qt x) λq=>q.2.1==("replace":bj)&&cz K 0 a q.1&&fS q.1&&q.2.2.2.2&&strOf y==q.2.2.1&&strOf z==q.2.2.2.1&&decide (1<=K.tk)
 | .join a,x=>bD (Qq x) λq=>q.2.1==("join":bj)&&cz K 0 a q.2.2.1&&bJ q.2.2.1&&q.2.2.2&&q.1==strOf []
 | .index a b,x=>bD (DP x) λq=>q.2.1==("index":bj)&&cz K 0 a q.1&&cz K 0 b q.2.2.1&&bJ q.2.2.1&&fS q.1&&q.2.2.2
 | .qj a,x=>bD (wM x) λq=>q.2.1==("bit_length":bj)&&cz K 0 a q.1&&fS q.1&&q.2.2
 | .J5 a,x=>bD (Ip x) λq=>cz K 0 a q.1&&q.2==("b1_set":bj)&&K.glob q.2
 | .xb a,x=>bD (Qp x) λq=>q.1==("b3_exceptions":bj)&&K.glob q.1&&q.2.1==("get":bj)&&cz K 0 a q.2.2.1&&bJ q.2.2.1&&q.2.2.2
 | .call f l,x=>bD (Im x) λq=>pW f==some q.1&&K.glob q.1&&fV K 0 l q.2&& !l.isEmpty&& !(f==8)
 | .comp e t it,x=>bD (uH x) λq=>cz (fP K q.2.2.2 t) 0 e q.1&&jV K q.2.2.2.names t q.2.1&&cz K 2 it q.2.2.1&&Ek it&&ku K q.2.2.2
 | .z e t it c,x=>bD (Ir x) λq=>cz (fP K q.2.2.2.2 t) 0 e q.1&&jV K q.2.2.2.2.names t q.2.1&&cz K 2 it q.2.2.1&&Ek it&&xH c&&cz (fP K q.2.2.2.2 t) 1 c q.2.2.2.1&&ku K q.2.2.2.2
 | .j l,x=>bD (Im x) λq=>m==2&&rn K "range" q.1&&fV K 0 l q.2&& !l.isEmpty
 | .M a,x=>bD (n7 x) λq=>m==2&&rn K "reversed" q.1&&cz K 0 a q.2&&bJ q.2
 | .J a,x=>bD (n7 x) λq=>m==2&&pW 8==some q.1&&K.glob q.1&&cz K 0 a q.2&&bJ q.2
noncomputable def fV(K:Ck)(m:Nat):List CE->List Expr->Bool
 | [],[]=>true
 |e::l,x::xs=>cz K m e x&&bJ x&&fV K m l xs
 |_,_=>false
end
noncomputable def fg(K:Ck)(t:kR)(x:Expr):Bool:=jV K K.names t x
noncomputable def iF(e:Expr):Bool:=e.ctorIdx==8||e.ctorIdx==9||e.ctorIdx==10
noncomputable def Df(K:Ck)(P vs:List Expr):Bool:=bD (l2 P) λt=>bD (l2 vs) λv=>bD (kU t.1) λx=>bD (kU t.2) λy=>
 K.names.lookup x.1==some .local&&K.names.lookup y.1==some .local&&x.2.line==y.2.line&& !(x.1==y.1)&& !([v.1,v.2].all (pP 8))&& !([v.1,v.2].all (oj 8))
noncomputable def IF(K:Ck)(g v:Expr):Bool:=match kU g with
 |some _=>(zu v).isSome|| !iF v
 |none=>bD (xM g) λt=>match xM v with
  |some u=>Df K t.1 u.1
  |none=>(zq v).isSome
noncomputable def RV(K:Ck)(t:kR)(e:CE)(x:bC):Bool:=bD (lZ x) λq=>bD (l1 q.1) λg=>fg K t g&&cz K 0 e q.2.1&&IF K g q.2.1
noncomputable def Qz(K:Ck)(i j:Nat)(e:CE)(x:bC):Bool:=bD (lZ x) λq=>bD (l2 q.1) λg=>fg K (.bX i) g.1&&fg K (.bX j) g.2&&cz K 0 e q.2.1&& !iF q.2.1
noncomputable def Vj(K:Ck)(i:Nat)(e:CE)(x:bC):Bool:=bD (lZ x) λq=>bD (l1 q.1) λg=>fg K (.bX i) g&&cz K 0 e q.2.1&& !iF q.2.1
noncomputable def QA(K:Ck)(i:Nat)(B it:CE)(n:Nat)(x:bC):Bool:=bD (lZ x) λq=>bD (l1 q.1) λg=>bD (uH q.2.1) λc=>
 fg K (.bX i) g&&cz (fP K c.2.2.2 (.bX n)) 0 B c.1&&jV K c.2.2.2.names (.bX n) c.2.1&&cz K 2 it c.2.2.1&&Ek it&&ku K c.2.2.2
noncomputable def DU(K:Ck)(a ix e:CE)(x:bC):Bool:=bD (lZ x) λq=>bD (l1 q.1) λg=>bD (v8 g) λc=>cz K 0 a c.1&&cz K 0 ix c.2.1&&pY c.2.1&&cz K 0 e q.2.1&& !iF q.2.1
noncomputable def Vh(K:Ck)(i:Nat)(op:cV)(e:CE)(x:bC):Bool:=bD (Mt x) λq=>fg K (.bX i) q.1&&cz K 0 (.a i) q.1&&op==q.2.1&&cz K 0 e q.2.2.1
noncomputable def DT(K:Ck)(i:Nat)(ix:CE)(op:cV)(e:CE)(x:bC):Bool:=bD (Mt x) λq=>bD (v8 q.1) λc=>cz K 0 (.a i) c.1&&cz K 0 ix c.2.1&&pY c.2.1&&op==q.2.1&&cz K 0 e q.2.2.1
noncomputable def IW(K:Ck)(e:CE)(x:bC):Bool:=bD (BF x) λq=>bD q.1 λv=>cz K 0 e v
noncomputable def Vi(x:bC):Bool:=(Ro x).isSome
noncomputable def Vk(x:bC):Bool:=(Um x).isSome
noncomputable def Vg(K:Ck)(i:Nat)(e:CE)(x:bC):Bool:=bD (Mw x) λq=>bD (DP q.1) λc=>cz K 0 (.a i) c.1&&c.2.1==("append":bj)&&cz K 0 e c.2.2.1&&bJ c.2.2.1&&c.2.2.2
noncomputable def Vl(K:Ck)(i:Nat)(x:bC):Bool:=bD (Mw x) λq=>bD (wM q.1) λc=>cz K 0 (.a i) c.1&&c.2.1==("reverse":bj)&&c.2.2
noncomputable def RM(x:bC):Option (Expr×List bC×List bC):=(BE x).map λq=>(q.1,q.2.1,q.2.2.1)
noncomputable def DQ(x:bC):Option (Expr×List bC):=(My x).bind λq=>(l0 q.2.2.1).map λz=>(q.1,q.2.1)
noncomputable def Qo(x:bC):Option (Expr×Expr×List bC):=(Dw x).bind λq=>(l0 q.2.2.2.1).map λz=>(q.1,q.2.1,q.2.2.1)
noncomputable def yJ(e:CE):Bool:=e.ix==45
mutual
noncomputable def ka(K:Ck):CS->bC->Bool
 | .cI t e,x=>RV K t e x
 | .Cf i j e,x=>Qz K i j e x
 | .new i e,x=>Vj K i e x
 | .GG i B it n,x=>QA K i B it n x
 | .K a ix e,x=>DU K a ix e x
 | .aug i op e,x=>Vh K i op e x
 | .Z i ix op e,x=>DT K i ix op e x
 | .ite c a b,x=>bD (RM x) λq=>xH c&&(cz K 1 c q.1&&(mW K a q.2.1&&mW K b q.2.2))
 | .P c b,x=>bD (DQ x) λq=>xH c&&(cz K 1 c q.1&&mW K b q.2)
 | .m t it b,x=>bD (Qo x) λq=>fg K t q.1&&(cz K 2 it q.2.1&&((Ek it||yJ it)&&mW K b q.2.2))
 | .ret e,x=>IW K e x
 | .brk,x=>Vi x
 | .K5,x=>Vk x
 | .app i e,x=>Vg K i e x
 | .rev i,x=>Vl K i x
 | .q _,_=>false
noncomputable def mW(K:Ck):List CS->List bC->Bool
 | [],xs=>xs.isEmpty
 |c::l,xs=>bif vA c then mW K l xs else bD (un xs) λq=>ka K c q.1&&mW K l q.2
end
noncomputable def I0(f:FD)(t:List (List Nat))(d:iL)(tk:Nat):Bool:=
 mW ⟨d.scope.names,t.map strOf,aG f.y,tk⟩ f.body d.body&&t.length==f.y&&(d.params.args.map (·.arg)==(t.take f.p).map strOf)
noncomputable def VA:List (Option (FD×List (List Nat))):= [some (f0,t0),some (f1,t1),some (f2,t2),some (f3,t3),none,none,some (f6,t6),some (f7,t7),none,some (f9,t9),some (Yl,X0),some (QQ,Zi),some (ML,Zj),
 some (Ym,Zk),some (Yn,Zl),some (Yo,Zm),some (Yp,Zn),some (Yq,Zo),some (Yr,Zp),some (Sl,Zq),some (Ys,Zr),some (Yt,Zs),some (Xn,Zt),some (D9,UE)]
noncomputable def fdOf(f:Nat):Option (FD×List (List Nat)):=(VA[f]?).bind id
noncomputable def lM:List (bj×aw):= [("len",.builtin "len"),("max",.builtin "max"),("min",.builtin "min"),("sum",.builtin "sum"),("sorted",.builtin "sorted"),("ord",.builtin "ord"),("chr",.builtin "chr"),
 ("divmod",.builtin "divmod"),("range",.type "range"),("list",.type "list"),("reversed",.type "reversed"),("enumerate",.type "enumerate")]
structure bZ (env:fZ) (K:Ck) (n0:Nat):Prop where
 tk:K.tk<=n0
 kind:env.scope.kind=.function
 names:env.scope.names=K.names
 glob:env.globals=d8
 bi:env.builtins=ma
 co:env.scope.isCoroutine=false
 cB:∀x,(env.kindOf x=some .cell\/env.kindOf x=some .free)->∃c,env.cells.lookup x=some c
 Q:K.tab.Nodup
set_option genInjectivity false in
structure fE (h₀:bk) (cfg:dC) where
 prog:fA
 w:cW
 mg:bj->Option aw
 mb:bj->Option aw
 g:h₀.Ns d8 mg
 b:h₀.Ns ma mb
 nolimit:h₀.NoLimit
 bi:∀p∈lM,mg p.1=none/\mb p.1=some p.2
 gi:∀(i:Nat) (n:Int),cfg.Y[i]? =some n->∃x t,qz[i]? =some x/\mg x=some (.int n t)
 b1:∃a,mg "b1_set"=some (.ref a)/\∀(A:cP) (s:ao) (i:Int) (t:nZ) (Q:aw->ao->Prop) (E:aw->ao->Prop),bO h₀ s.heap->(∀tk,Q (.bool (cfg.b1.contains i)) {s with toks:=tk})->
  aM (aL prog w) A (eM .In (.int i t) (.ref a)) Q E s
 b3:∃a,mg "b3_exceptions"=some (.ref a)/\∀(A:cP) (s:ao) (env:fZ) (p ap pos:eO) (y:Expr) (Q:aw->ao->Prop) (E:aw->ao->Prop),(ap.endLine==pos.line)=true->bJ y=true->
  bO h₀ s.heap->aM (aL prog w) A (fe (.Name "b3_exceptions" p) env) (λv s'=>v=.ref a/\s'=s) E s->
  aM (aL prog w) A (fe y env) (λv s'=>bO h₀ s'.heap/\∃i t,v=.int i t/\∀t' tk,Q (match cfg.b3 i with|some x=>.str (strOf x) t'|none=>.none) {s' with toks:=tk}) E s->
  aM (aL prog w) A (fe (.Call (.Attribute (.Name "b3_exceptions" p) "get" ap) [y] [] pos) env) Q E s
section
variable{h₀:bk}{cfg:dC}(C:fE h₀ cfg)(k:Nat)
def Qm(O:Nat->List AV->Option AV):Prop:=∀f args av,f≠8->O f args=some av->∃g a o fd,pW f=some g/\C.mg g=some (.ref a)/\h₀.get? a=some o/\o.data=.func fd/\
 ∀(A:cP) (s:ao) (W:az->Prop) (ρ:List az) (vs:List aw) (E:aw->ao->Prop),i7 k A->bO h₀ s.heap->j6 W s.heap->ft W ρ s.heap vs args->dU args=true->
  aM (aL C.prog C.w) A (call (.ref a) vs) (e9 W ρ s av) E s
def wi(W:az->Prop)(ρ:List az)(n0:Nat)(s:ao)(av:AV):aw->ao->Prop:=λv s'=>n0<=s'.toks/\e9 W ρ s av v s'
def bU(e:CE):Prop:=∀(K:Ck) (env:fZ) (x:Expr) (loc:Loc) (av:AV) (W:az->Prop) (ρ:List az) (n0:Nat) (st:St) (A:cP) (s:ao) (E:aw->ao->Prop),
 bZ env K n0->i7 k A->EI h₀ K.tab K.acc env W ρ n0 loc st s->ev cfg st e loc=some av->cz K 0 e x=true->aM (aL C.prog C.w) A (fe x env) (wi W ρ n0 s av) E s
def iz(e:CE):Prop:=∀(K:Ck) (env:fZ) (x:Expr) (loc:Loc) (av:AV) (r:Bool) (W:az->Prop) (ρ:List az) (n0:Nat) (st:St) (A:cP) (s:ao) (E:aw->ao->Prop),
 bZ env K n0->i7 k A->EI h₀ K.tab K.acc env W ρ n0 loc st s->ev cfg st e loc=some av->cU st av=some r->xH e=true->cz K 1 e x=true->
 aM (aL C.prog C.w) A (mT x env (fe x env)) (λb s'=>b=r/\n0<=s'.toks/\gK s s') E s
end
section
variable{h₀:bk}{cfg:dC}{C:fE h₀ cfg}{k:Nat}
variable{prog:fA}{w:cW}{A:cP}{E:aw->ao->Prop}{s:ao}{W:az->Prop}{ρ:List az}{st:St}{n0:Nat}{av:AV}
theorem e9.p0{t:jA aw}(Q:n0<=s.toks)(h:aM (aL prog w) A t (e9 W ρ s av) E s):aM (aL prog w) A t (wi W ρ n0 s av) E s:=
 bY Q (aA h (λv s' r=>λG=>⟨G,r⟩) λz z e z=>e)
theorem wi.ext{N:ao}(e:gK s N):∀v s',wi W ρ n0 N av v s'->wi W ρ n0 s av v s':=λv s' h=>⟨h.1,e.trans h.2.1,h.2.2⟩
theorem e9.ext{N:ao}(e:gK s N):∀v s',e9 W ρ N av v s'->e9 W ρ s av v s':=λv s' h=>⟨e.trans h.1,h.2⟩
theorem EI.step{tab:List bj}{acc:List Nat}{env:fZ}{loc:Loc}{v:aw}{s':ao}(I:EI h₀ tab acc env W ρ n0 loc st s)(p:wi W ρ n0 s av v s'):EI h₀ tab acc env W ρ n0 loc st s':=I.ext p.2.1 p.1
theorem cu{t:jA aw}{Q:aw->ao->Prop}(h:aM (aL prog w) A t (wi W ρ n0 s av) E s)(D:∀v s',wi W ρ n0 s av v s'->Q v s'):aM (aL prog w) A t Q E s:=
 aA h D λz z e=>e
theorem EW{op:cV}{a b:CE}(L:bU C k a)(O:bU C k b):bU C k (.f op a b):=by intro K env x loc av W ρ n0 st A s E hE hA I M V;refine Ef V λl P r pos o1=>?_;subst o1;have V:(op==P&&cz K 0 a l&&cz K 0 b r)=true:=V;simp only[au,beq_iff_eq]at V;refine aN V λF m=>?_;clear V;refine aN F λH c=>cA H<|dn M λp J M=>dn M λq U S=>BL (cu (L _ _ _ _ _ _ _ _ _ _ _ _ hE hA I J c) λv N D=>cu (O _ _ _ _ _ _ _ _ _ _ _ _ hE hA (I.step D) U m) λu T B=>?_);exact aA (e9.p0 B.1 (CY (I.step D|>.step B).live (I.step D|>.step B).store (D.2.2.keep B.2.1.keep) B.2.2 S)) (λv s' h=>wi.ext (D.2.1.trans B.2.1) v s' h) λz z e=>e
theorem vH{env:fZ}{K:Ck}{x:bj}{pos:eO}{v:aw}{Q:aw->ao->Prop}(hE:bZ env K n0)(h:iq env s.heap x v)(u:(x==("__debug__":bj))=false)(D:Q v s)(i:(x==("__classdict__":bj))=false):
 aM (aL prog w) A (fe (.Name x pos) env) Q E s:=by
 rcases h with⟨J,m,U,S⟩|⟨J|J,c,U,S⟩
 ·exact UW (RH hE.kind J U S D) u
 ·exact UW (Ut hE.kind J U S D) u
 ·exact UW (Uu hE.kind J U S D i) u
theorem bZ.QU{env:fZ}{K:Ck}{x:bj}(hE:bZ env K n0)(h:K.glob x=true):env.kindOf x=some .globalImplicit/\(x==("__debug__":bj))=false:=by delta Ck.glob at h;rw[au,beq_iff_eq,fv]at h;refine⟨?_,h.2⟩;delta iM;exact ab hE.names<|h.1
theorem lF{env:fZ}{K:Ck}{x:bj}{pos:eO}{v:aw}{Q:aw->ao->Prop}(hE:bZ env K n0)(Z:K.glob x=true)(O:bO h₀ s.heap)(B:C.mg x=some v)(D:Q v s):
 aM (aL prog w) A (fe (.Name x pos) env) Q E s:=aN (hE.QU Z) λJ U=>E9 hE.kind J (Calls.loadGlobal_global (ab hE.glob<|O.ns C.g) B D) U
theorem lu{env:fZ}{K:Ck}{nm x:bj}{pos:eO}{v:aw}{Q:aw->ao->Prop}(hE:bZ env K n0)(Z:rn K nm x=true)(T:(nm,v)∈lM)(O:bO h₀ s.heap)(D:Q v s):
 aM (aL C.prog C.w) A (fe (.Name x pos) env) Q E s:=by
 delta rn at Z;rw[au,beq_iff_eq]at Z;refine ew λY=>?_;obtain⟨rfl,Z⟩:=Z;obtain⟨J,U⟩:=hE.QU Z;obtain⟨f,j⟩:=C.bi _ T;refine Y ?_;clear Y;exact E9 hE.kind J (Calls.loadGlobal_builtin (ab hE.glob<|O.ns C.g) f (ab hE.bi<|O.ns C.b) j D) U
theorem Mj:bU C k .u:=by intro K env x loc av W ρ n0 st A s E hE hA I M V;refine Gi V λu pos P=>ab P ?_;injection M with F;subst F;exact wpAny_Constant_none ⟨I.tok,.refl _,.none⟩
theorem vX{b:Bool}:bU C k (.v b):=by intro K env x loc av W ρ n0 st A s E hE hA I M V;refine sC V λB u pos S=>?_;subst S;have V:(b==B)=true:=V;rw[beq_iff_eq]at V;refine cA V ?_;injection M with F;subst F;exact wpAny_Constant_bool ⟨I.tok,.refl _,.bool _⟩
theorem EX{b:Int}:bU C k (.d b):=by intro K env x loc av W ρ n0 st A s E hE hA I M V;refine vw V λB u pos c=>?_;subst c;have V:(b==B)=true:=V;rw[beq_iff_eq]at V;refine cA V ?_;injection M with F;subst F;exact UU ⟨j4 I.tok,.tok _ _,.int _ _⟩
theorem uq{b:List Nat}:bU C k (.l b):=by intro K env x loc av W ρ n0 st A s E hE hA I M V;refine Ka V λB u pos Z=>?_;subst Z;have V:(strOf b==B)=true:=V;rw[beq_iff_eq]at V;refine cA V ?_;injection M with F;subst F;exact oo ⟨j4 I.tok,.tok _ _,.str _ _⟩
theorem JE{C:dC}{st:St}{loc:Loc}{i:Nat}{a:AV}(h:ev C st (.a i) loc=some a):loc[i]? =some a/\a≠.c:=by
 simp only[(id fD)]at h;generalize loc[i]? =o at h⊢;rcases o with _|b
 ·injection h
 ·cases b<;>first|(injection h;done)|exact⟨h,λe=>by subst e;injection h with h;injection h⟩
theorem kz{i:Nat}:bU C k (.a i):=by intro K env x loc av W ρ n0 st A s E hE hA I M V;refine ew λY=>qA V λx pos O=>?_;subst O;have V:(K.acc.contains i&&K.tab[i]? ==some x&& !(x==("__debug__":bj))&& !(x==("__classdict__":bj)))=true:=V;simp only[au,beq_iff_eq,fv,pK]at V;refine aN V λR h=>aN R λH o=>aN H λc m=>Y ?_;clear Y;refine aN (JE M) λL N=>ew λY=>?_;refine aC (I.vars i c x m av L N) λv J U=>Y ?_;clear Y;exact vH hE J o ⟨I.tok,.refl _,U⟩ h
theorem Mf{i:Nat}:bU C k (.n i):=by intro K env x loc av W ρ n0 st A s E hE hA I M V;refine qA V λx pos r=>?_;subst r;have V:(qz[i]? ==some x&&K.glob x)=true:=V;rw[au,beq_iff_eq]at V;simp only[(id fD),dg]at M;refine ew λY=>aC M λn J L=>?_;clear M;subst L;refine eb (C.gi i n J) λy t f j=>?_;rw[V.1]at f;injection f with F;subst F;refine Y ?_;clear Y;exact lF hE V.2 I.base j ⟨I.tok,.refl _,.int _ _⟩
theorem mM{o:Option AV}{i:Int}(h:o.bind eE=some i):o=some (.int i):=dn h λa J U=>ab J (ab (iE U) rfl)
theorem zd{o:Option AV}{i:List Nat}(h:o.bind jH=some i):o=some (.str i):=dn h λa J U=>ab J (ab (uL U) rfl)
theorem Kz{o:Option AV}{i:List AV}(h:o.bind tl=some i):o=some (.lst i):=dn h λa J U=>ab J (ab (AR U) rfl)
theorem PO{a:CE}(L:bU C k a):bU C k (.neg a):=by intro K env x loc av W ρ n0 st A s E hE hA I M V;refine Ol V λy pos e=>?_;rw[e]at V⊢;refine bW M λi J e=>cA e<|ZD (cu (L _ _ _ _ _ _ _ _ _ _ _ _ hE hA I (mM J) V) λv N D=>?_);exact D.2.2.dK λt e=>ab e<|aA (e9.p0 (W:=W) (ρ:=ρ) (av:=.int (-i)) D.1 (PyProof.Rows.neg_int .int)) (λv s' h=>wi.ext D.2.1 v s' h) λz z e=>e
theorem PM{a:CE}(L:bU C k a):bU C k (.inv a):=by intro K env x loc av W ρ n0 st A s E hE hA I M V;refine Oi V λy pos e=>?_;rw[e]at V⊢;refine bW M λi J e=>cA e<|ZD (cu (L _ _ _ _ _ _ _ _ _ _ _ _ hE hA I (mM J) V) λv N D=>?_);exact D.2.2.dK λt e=>ab e<|aA (e9.p0 (W:=W) (ρ:=ρ) (av:=.int (-i-1)) D.1 (PyProof.Rows.invert_int .int)) (λv s' h=>wi.ext D.2.1 v s' h) λz z e=>e
theorem PQ{a b:CE}(L:bU C k a)(O:bU C k b):bU C k (.D a b):=by
 intro K env x loc av W ρ n0 st A s E hE hA I M V;refine Oq V λx y pos Z=>?_;subst Z;have V:(true&&cz K 0 a x&&cz K 0 b y)=true:=V;refine dn M λp J M=>dn M λt U S=>?_;clear M;refine wpAny_Or2 (cu (L _ _ _ _ _ _ _ _ _ _ _ _ hE hA I J (ba (ba V).1).2) λv N D=>A7 D.2.2 U λT i u=>?_);clear U;rcases t with _|_
 ·simp only[bx,if_false]at S⊢;exact aA (O _ _ _ _ _ _ _ _ _ _ _ _ hE hA ((I.step D).ext i (aP D.1 u)) S (ba V).2) (λv s' h=>wi.ext (D.2.1.trans i) v s' h) λz z e=>e
 ·simp only[if_true,aJ,bL]at S⊢;exact cA S<|⟨aP D.1 u,D.2.1.trans i,D.2.2.keep i.keep⟩
theorem PK{op:kF}{a b:CE}(L:bU C k a)(O:bU C k b):bU C k (.cmp op a b):=by intro K env x loc av W ρ n0 st A s E hE hA I M V;refine AI V λl P r pos n=>?_;subst n;have V:(op==P&&cz K 0 a l&&cz K 0 b r&& !pO op r)=true:=V;simp only[au,beq_iff_eq,fv]at V;refine aN V λF o=>?_;clear V;refine aN F λH m=>aN H λg c=>cA g<|dn M λp J M=>dn M λq U M=>dn M λt S M=>cA (ay M)<|YW (cu (L _ _ _ _ _ _ _ _ _ _ _ _ hE hA I J c) λv N D=>cu (O _ _ _ _ _ _ _ _ _ _ _ _ hE hA (I.step D) U m) λu T B=>?_) o;exact aA (e9.p0 B.1 (yU (by have:=hA.units;lia) (I.step D|>.step B).store (D.2.2.keep B.2.1.keep) B.2.2 S)) (λv s' h=>wi.ext (D.2.1.trans B.2.1) v s' h) λz z e=>e
theorem PL{t a b:CE}(Q:iz C k t)(L:bU C k a)(O:bU C k b):bU C k (.N t a b):=by
 intro K env x loc av W ρ n0 st A s E hE hA I M V;refine Og V λt' B F pos H=>?_;subst H;have V:(true&&xH t&&cz K 1 t t'&&cz K 0 a B&&cz K 0 b F)=true:=V;refine dn M λp J M=>dn M λr U S=>wpAny_IfExp (aA (Q _ _ _ _ _ _ _ _ _ _ _ _ _ hE hA I J U (ba (ba (ba (ba V).1).1).1).2 (ba (ba (ba V).1).1).2) (λb N D=>?_) λz z e=>e);clear U;refine eY D λY P y=>?_;clear D;subst Y;rcases b with _|_
 ·simp only[bx,if_false]at S⊢;exact aA (O _ _ _ _ _ _ _ _ _ _ _ _ hE hA (I.ext y P) S (ba V).2) (λv s' h=>wi.ext y v s' h) λz z e=>e
 ·simp only[if_true]at S⊢;exact aA (L _ _ _ _ _ _ _ _ _ _ _ _ hE hA (I.ext y P) S (ba (ba V).1).2) (λv s' h=>wi.ext y v s' h) λz z e=>e
theorem cY{e:Expr}{xs:List Expr}{env:fZ}(h:bJ e=true):xX (e::xs) env=(false,fe e env)::xX xs env:=by rcases e with⟨⟩<;>first|rfl|exact(aB h).elim
theorem gW:∀(l:List CE) (_:∀e∈l,bU C k e) (K:Ck) (env:fZ) (xs:List Expr) (loc:Loc) (avs:List AV) (W:az->Prop) (ρ:List az) (n0:Nat) (st:St) (A:cP) (s:ao) (pos:eO)
 (Q:List aw->ao->Prop) (E:aw->ao->Prop),bZ env K n0->i7 k A->EI h₀ K.tab K.acc env W ρ n0 loc st s->so cfg st l loc=some avs->fV K 0 l xs=true->
 (∀vs s',n0<=s'.toks->gK s s'->ft W ρ s'.heap vs avs->Q vs s')->aM (aL C.prog C.w) A (spliced (YS pos (xX xs env))) Q E s:=by
 intro G
 induction G with
 |nil=>
  intro z K env H loc avs W ρ n0 st A s pos Q E hE hA I M V R;rcases H with _|⟨L,a⟩
  ·injection M with F;subst F;exact Yg (R _ _ I.tok (.refl _) .nil)
  ·exact(aB V).elim
 |cons e l P=>
  intro X K env H loc avs W ρ n0 st A s pos Q E hE hA I M V R;rcases H with _|⟨x,xs⟩
  ·exact(aB V).elim
  ·refine ew λY=>dn M λp J O=>dn O λq U O=>?_;injection O with F;subst F;refine Y ?_;clear Y;refine XB (cu (X e aH _ _ _ _ _ _ _ _ _ _ _ _ hE hA I J (ba (ba V).1).1) λv N D=>?_) (cY (ba (ba V).1).2);exact P (λe Z=>X e (ax _ Z)) K env xs loc q W ρ n0 st A N pos _ E hE hA (I.step D) U (ba V).2 λvs s' t' B d=>R _ _ t' (D.2.1.trans B) (.cons (D.2.2.keep B.keep) d)
theorem nJ:∀{l:List CE} {loc:Loc} {avs:List AV},so cfg st l loc=some avs->avs.length=l.length:=by
 intro l
 induction l with
 |nil=>intro z z h;injection h with F;subst F;rfl
 |cons e l R=>
  intro z z h;refine dn h λp J O=>dn O λq U O=>?_;injection O with F;subst F;simp[R U]
theorem Mi{l:List CE}(X:∀e∈l,bU C k e):bU C k (.list l):=by
 intro K env x loc av W ρ n0 st A s E hE hA I M V;refine yG V λxs pos D=>?_;subst D;have V:(decide (l.length<=1000)&&fV K 0 l xs)=true:=V;simp only[au,decide_eq_true_eq]at V;simp only[(id fD),dg]at M;refine aC M λavs J S=>?_;clear M;subst S;refine wpAny_List (gW l X _ _ _ _ _ _ _ _ _ _ _ _ _ _ hE hA I J V.2 λvs N P y d=>⟨?_,?_⟩)
 ·exact ab d.length<|ab (nJ J)<|aP V.1 (by decide)
 ·have:=rt (I.live.keep y.keep) d vs rfl N.toks;exact wi.ext y _ _ ⟨P,this⟩
theorem Hv{l:List CE}(X:∀e∈l,bU C k e):bU C k (.tuple l):=by
 intro K env x loc av W ρ n0 st A s E hE hA I M V;refine Kf V λxs u pos D=>?_;rw[D]at V⊢;have V:(decide (l.length<=1000)&&fV K 0 l xs)=true:=V;simp only[au,decide_eq_true_eq]at V;simp only[(id fD),dg]at M;refine aC M λavs J B=>?_;clear M;subst B;refine wpAny_Tuple (gW l X _ _ _ _ _ _ _ _ _ _ _ _ _ _ hE hA I J V.2 λvs N P y d=>⟨?_,?_⟩)
 ·exact ab d.length<|ab (nJ J)<|aP V.1 (by decide)
 ·have:=tp (I.live.keep y.keep) d vs rfl N.toks;exact wi.ext y _ _ ⟨P,this⟩
theorem PS{a b:CE}(L:bU C k a)(O:bU C k b):bU C k (.sub a b):=by intro K env x loc av W ρ n0 st A s E hE hA I M V;refine Ej V λl r pos o1=>?_;subst o1;have V:(cz K 0 a l&&cz K 0 b r&&pY r)=true:=V;refine dn M λp J M=>dn M λq U S=>Subscript_ (cu (L _ _ _ _ _ _ _ _ _ _ _ _ hE hA I J (ba (ba V).1).1) λv N D=>cu (O _ _ _ _ _ _ _ _ _ _ _ _ hE hA (I.step D) U (ba (ba V).1).2) λu T B=>?_);exact aA (e9.p0 B.1 (KR (ba V).2 (I.step D|>.step B).store (D.2.2.keep B.2.1.keep) B.2.2 S)) (λv s' h=>wi.ext (D.2.1.trans B.2.1) v s' h) λz z e=>e
set_option tactic.hygienic true in
theorem uR{n d q:Nat}{a:AV}{v:aw}{h:bk}(x:VR W ρ h v a)(V:kA n d a=some q):∃p:Option (Int×nZ),v=Xy p/\vL a=some (p.map (·.1)):=by
 rcases x with⟨⟩<;>first|(injection V;done)|skip
 case none=>exact⟨none,rfl,rfl⟩
 case int i t=>exact⟨some (i,t),rfl,rfl⟩
theorem LA{a lo hi r:AV}(h:vO a lo hi=some r):∃z,a=.str z:=by cases a<;>first|exact⟨_,rfl⟩|injection h
set_option tactic.hygienic true in
theorem sL{v D K:aw}{a lo hi r:AV}(x:VR W ρ s.heap v a)(L:VR W ρ s.heap D lo)(O:VR W ρ s.heap K hi)(h:vO a lo hi=some r){I:Prop}(N:∀y t l u,v=.str y t->D=Xy l->K=Xy u->(zM y t l u none).post (e9 W ρ s r) {s with heap:=s.heap.push {cls:=.type "slice",data:=.fields #[D,K,.none]}}->I):I:=by
 refine aI (LA h) λz R=>?_;subst R;rw[T3]at h
 ·skip
  simp only[aj,bF]at h;obtain⟨p,J,q,U,S⟩:=h;split at S<;>(first|(injection S;done)|(injection S with X;subst X));rename_i V;rcases x with⟨⟩;rename_i t;refine aC (uR L J) λG e1 e2=>aC (uR O U) λQ c F=>G6 z t e2 F J U V λf j=>N _ t G Q rfl e1 c ?_;delta zM;have B:tY (strOf z) G Q none=(aG (q-p)).map (λk=>p+k):=by delta tY;exact ab (cF ..)<|f
  have M:(⟨((tY (strOf z) G Q none).filterMap ((strOf z).cps[·]?)).toArray⟩:bj)=strOf ((z.take q).drop p):=by refine ab B ?_;show bj.mk _=bj.mk _;congr 1;refine cA (GR ..) ?_;simp[strOf]
  refine post_val_or_str ⟨?_,λt' k=>?_⟩
  ·split
   ·exact ab (cF ..)<|mV V
   ·refine ab M (ab (cF ..) ?_);have:((z.take q).drop p).length<=z.length:=by simp;lia
    exact mV (aP this V)
  ·have Z:(if((Option.map (λx:Int×nZ=>x.1) none).getD 1==(1:Int)&&(tY (strOf z) G Q none).length==(strOf z).length)=true then strOf z else⟨((tY (strOf z) G Q none).filterMap ((strOf z).cps[·]?)).toArray⟩)=strOf ((z.take q).drop p):=by
    split
    ·rename_i hh;rw[B,cF]at hh;simp only[Qg,Option.getD_none,beq_self_eq_true,kW,aY,eH,beq_iff_eq]at hh;have P:z.length=0\/(p=0/\q=z.length):=by lia
     refine ak P (λP=>?_) λH=>aN H λg T=>?_;rotate_left;subst g;subst T;rotate_right
     ·refine ab (dD P) ?_;simp
     ·simp
    ·exact M
   exact ab Z<|⟨.of (bO.push _ _),.str _ _⟩
set_option tactic.hygienic true in
theorem sG{Q d:aw->ao->Prop}(N:∀v s,Q v s->d v s){y:bj}{t:nZ}{l u st:Option (Int×nZ)}{s:ao}(h:(zM y t l u st).post Q s):(zM y t l u st).post d s:=by
 unfold zM at h⊢;split at h
 ·rename_i V;exact ab (if_pos V)<|N _ _ h
 ·rename_i V;exact ab (if_neg V)<|⟨h.1,N _ _ h.2⟩
theorem EY{a lo:CE}(L:bU C k a)(X:bU C k lo):bU C k (.F a lo):=by intro K env x loc av W ρ n0 st A s E hE hA I M V;refine e9.p0 I.tok<|Eh V λnm G l p pos r=>?_;subst r;have V:(cz K 0 a (.Name nm G)&&cz K 0 lo l)=true:=V;simp only[au]at V;simp only[(id fD),aj,bF]at M;obtain⟨R,J,H,U,S⟩:=M;refine oD (cu (L _ _ _ _ _ _ _ _ _ _ _ _ hE hA I J V.1) λv N D=>cu (X _ _ _ _ _ _ _ _ _ _ _ _ hE hA (I.step D) U V.2) λu T B=>UR ?_);exact sL (W:=W) (ρ:=ρ) (D.2.2.keep B.2.1.keep) B.2.2 .none S λy t l u e1 e2 c F=>⟨y,t,l,u,e1,e2,c,sG (λv s' h=>e9.ext (D.2.1.trans B.2.1) v s' h) F⟩
theorem EZ{a hi:CE}(L:bU C k a)(X:bU C k hi):bU C k (.A a hi):=by intro K env x loc av W ρ n0 st A s E hE hA I M V;refine e9.p0 I.tok<|Ei V λnm G l p pos j=>?_;subst j;have V:(cz K 0 a (.Name nm G)&&cz K 0 hi l)=true:=V;simp only[au]at V;simp only[(id fD),aj,bF]at M;obtain⟨R,J,H,U,S⟩:=M;refine oD (cu (L _ _ _ _ _ _ _ _ _ _ _ _ hE hA I J V.1) λv N D=>UR (cu (X _ _ _ _ _ _ _ _ _ _ _ _ hE hA (I.step D) U V.2) λu T B=>?_));exact sL (W:=W) (ρ:=ρ) (D.2.2.keep B.2.1.keep) .none B.2.2 S λy t l u e1 e2 c F=>⟨y,t,l,u,e1,e2,c,sG (λv s' h=>e9.ext (D.2.1.trans B.2.1) v s' h) F⟩
theorem PR{a lo hi:CE}(L:bU C k a)(Q:bU C k lo)(hh:bU C k hi):bU C k (.I a lo hi):=by
 intro K env x loc av W ρ n0 st A s E hE hA I M V;refine e9.p0 I.tok<|Ov V λnm G l u p pos P=>?_;subst P;have V:(cz K 0 a (.Name nm G)&&cz K 0 lo l&&cz K 0 hi u)=true:=V;refine dn M λR J M=>dn M λH U M=>dn M λY S d=>oD (cu (L _ _ _ _ _ _ _ _ _ _ _ _ hE hA I J (ba (ba V).1).1) λv N D=>(cu (Q _ _ _ _ _ _ _ _ _ _ _ _ hE hA (I.step D) U (ba (ba V).1).2) λu T B=>
  (cu (hh _ _ _ _ _ _ _ _ _ _ _ _ hE hA ((I.step D).step B) S (ba V).2) λO X Z=>?_)))
 exact sL (W:=W) (ρ:=ρ) (D.2.2.keep (B.2.1.trans Z.2.1).keep) (B.2.2.keep Z.2.1.keep) Z.2.2 d λy t l u e1 e2 c F=>⟨y,t,l,u,e1,e2,c,sG (λv s' h=>e9.ext (D.2.1.trans (B.2.1.trans Z.2.1)) v s' h) F⟩
theorem Nr{K:Ck}{env:fZ}{nm f:bj}{id:String}{x:Expr}{p pos:eO}{Q:aw->ao->Prop}(hE:bZ env K n0)(P:rn K nm f=true)(T:(nm,HV id)∈lM)(O:bO h₀ s.heap)(Z:bJ x=true)
 (h:aM (aL C.prog C.w) A (fe x env) (λv N=>aM (aL C.prog C.w) A (call (.builtin id) [v]) Q E N) E s):aM (aL C.prog C.w) A (fe (.Call (.Name f p) [x] [] pos) env) Q E s:=by
 refine dE (lu hE P T O ?_);exact ab (cY Z)<|k9 rfl (dH (dP (aA h (λv N D=>e7 D) λz z e=>e)))
theorem DV{K:Ck}{env:fZ}{nm f:bj}{id:String}{x y:Expr}{p pos:eO}{Q:aw->ao->Prop}(hE:bZ env K n0)(P:rn K nm f=true)(B:(nm,HV id)∈lM)(O:bO h₀ s.heap)(Z:bJ x=true)(F:bJ y=true)
 (h:aM (aL C.prog C.w) A (fe x env) (λv N=>aM (aL C.prog C.w) A (fe y env) (λu T=>aM (aL C.prog C.w) A (call (.builtin id) [v,u]) Q E T) E N) E s):
 aM (aL C.prog C.w) A (fe (.Call (.Name f p) [x,y] [] pos) env) Q E s:=by
 refine dE (lu hE P B O ?_);exact ab (cY Z)<|ab (cY F)<|k9 rfl (dH (dP (aA h (λv N D=>dP (aA D (λu T V=>e7 V) λz z e=>e)) λz z e=>e)))
theorem QG:(∀a t b u,ua (.int a t) (.int b u)=(a==b))/\∀a t b u,ua (.str a t) (.str b u)=(a==b):=by refine⟨?_,?_⟩<;>intros<;>rfl
theorem qK{nm:bj}{id:String}{e a:CE}{G:St->AV->Option AV}(T:(nm,HV id)∈lM)(B:∀K x,cz K 0 e x=bD (n7 x) λq=>rn K nm q.1&&cz K 0 a q.2&&bJ q.2)(M:∀st loc,ev cfg st e loc=(ev cfg st a loc).bind (G st))(L:bU C k a)
 (op:∀(A:cP) (s:ao) (W:az->Prop) (ρ:List az) (st:St) (v:aw) (x av:AV) (E:aw->ao->Prop),A.handled=none->j6 W s.heap->SR W ρ s.heap st->VR W ρ s.heap v x->G st x=some av->aM (aL C.prog C.w) A (call (.builtin id) [v]) (e9 W ρ s av) E s):bU C k e:=by
 intro K env x loc av W ρ n0 st A s E hE hA I F V;rw[B]at V;rw[M]at F;refine e9.p0 I.tok<|vt V λf p y pos e=>?_;rw[e]at V⊢;have V:(rn K nm f&&cz K 0 a y&&bJ y)=true:=V;exact dn F λu J U=>Nr (id:=id) hE (ba (ba V).1).1 T I.base (ba V).2 (cu (L _ _ _ _ _ _ _ _ _ _ _ _ hE hA I J (ba (ba V).1).2) λv N D=>
  aA (op _ _ _ _ _ _ _ _ _ hA.hh (I.step D).live (I.step D).store D.2.2 U) (λv s' h=>e9.ext D.2.1 v s' h) λz z e=>e)
theorem PN{a:CE}(L:bU C k a):bU C k (.len a):=
 qK (nm:="len") (id:="len") (G:=te) (aW (i:=0) rfl) (λz z=>rfl) (λz z=>rfl) L λA s W ρ st v x av E J U S d O=>Tw S d O
theorem Ma{a:CE}(L:bU C k a):bU C k (.Cq a):=
 qK (nm:="max") (id:="max") (G:=λst x=>(jX st x).bind λl=>(dM l).bind λns=>(KD ns).bind λm=>some (.int m)) (aW (i:=1) rfl) (λz z=>rfl) (λz z=>rfl) L λA s W ρ st v x av E J U S d O=>
  dn O λl f O=>dn O λns j O=>dn O λm t O=>ay O▸Tx J S d f j t
theorem Mb{a:CE}(L:bU C k a):bU C k (.R a):=
 qK (nm:="min") (id:="min") (G:=λst x=>(jX st x).bind λl=>(dM l).bind λns=>(KE ns).bind λm=>some (.int m)) (aW (i:=2) rfl) (λz z=>rfl) (λz z=>rfl) L λA s W ρ st v x av E J U S d O=>
  dn O λl f O=>dn O λns j O=>dn O λm t O=>ay O▸Tz J S d f j t
theorem Me{a:CE}(L:bU C k a):bU C k (.E a):=
 qK (nm:="sum") (id:="sum") (G:=λst x=>(jX st x).bind λl=>(dM l).bind λns=>some (.int ns.sum)) (aW (i:=3) rfl) (λz z=>rfl) (λz z=>rfl) L λA s W ρ st v x av E J U S d O=>
  dn O λl f O=>dn O λns j O=>ay O▸TA J S d f j
theorem Dn{a:CE}(L:bU C k a):bU C k (.sorted a):=
 qK (nm:="sorted") (id:="sorted") (G:=λst x=>(jX st x).bind λl=>(dM l).bind λns=>if ns.length<64 then some (.lst ((sortI ns).map .int))else none) (aW (i:=4) rfl) (λz z=>rfl) (λz z=>rfl) L λA s W ρ st v x av E J U S d O=>
  dn O λl f O=>dn O λns j O=>by
   split at O
   ·exact ay O▸GK U S d f j ‹_›
   ·injection O
theorem Md{a:CE}(L:bU C k a):bU C k (.Ad a):=
 qK (nm:="ord") (id:="ord") (G:=λz x=>((jH x).bind l1).map λ(c:Nat)=>AV.int (c:Int)) (aW (i:=5) rfl) (λz z=>rfl) (λst loc=>by
  show(((ev cfg st a loc).bind jH).bind l1).map _=_;cases ev cfg st a loc<;>rfl) L λA s W ρ st v x av E J U S d O=>by
   refine ew λY=>bW O λc X e=>aC (aZ X) λy V Z=>?_;simp only[uL V,gL Z]at d;refine aI d.gf λt B=>Y ?_;clear Y;exact ab B<|cA e<|P.ord_of_char (Q:=e9 W ρ s (.int c)) .int
set_option tactic.hygienic true in
theorem L9{a:CE}(L:bU C k a):bU C k (.S a):=
 qK (nm:="chr") (id:="chr") (G:=λz x=>(eE x).bind λi=>if 0<=i/\i<=1114111 then some (.str [i.toNat])else none) (aW (i:=6) rfl) (λz z=>rfl) (λst loc=>by
  show(((ev cfg st a loc).bind eE).bind _)=_;cases ev cfg st a loc<;>rfl) L λA s W ρ st v x av E J U S d O=>by
   refine ew λY=>aC (aZ O) λi V Z=>?_;simp only[iE V]at d;refine d.dK λt B=>Y ?_;clear Y;refine ab B ?_;split at Z
   ·rename_i hi;exact cA (ay Z)<|chr_of_range (Q:=e9 W ρ s (.str [i.toNat])) hi.1 hi.2 (.str rfl)
   ·injection Z
theorem Hq{a b:CE}(L:bU C k a)(O:bU C k b):bU C k (.U a b):=by intro K env x loc av W ρ n0 st A s E hE hA I M V;refine e9.p0 I.tok<|J8 V λf p y z pos e=>?_;rw[e]at V⊢;have V:(rn K "min" f&&cz K 0 a y&&cz K 0 b z&&bJ y&&bJ z)=true:=V;have F:=ba (ba V).1;have o:=ba F.1;refine ew λY=>dn M λi J M=>bW M λj U e=>Y ?_;clear Y;refine cA e<|DV (id:="min") hE (ba o.1).1 (aW (i:=2) rfl) I.base F.2 (ba V).2 (cu (L _ _ _ _ _ _ _ _ _ _ _ _ hE hA I (mM J) (ba o.1).2) λv N D=>cu (O _ _ _ _ _ _ _ _ _ _ _ _ hE hA (I.step D) (mM U) o.2) λu T B=>?_);refine ew λY=>D.2.2.dK λt e=>B.2.2.dK λt' G=>Y ?_;clear Y;exact ab e<|ab G<|aA (OR hA.hh) (λv s' h=>e9.ext (D.2.1.trans B.2.1) v s' h) λZ Z e=>e
theorem Dl{a b:CE}(L:bU C k a)(O:bU C k b):bU C k (.divmod a b):=by
 intro K env x loc av W ρ n0 st A s E hE hA I M V;refine e9.p0 I.tok<|J8 V λf p y z pos e=>?_;rw[e]at V⊢;have V:(rn K "divmod" f&&cz K 0 a y&&cz K 0 b z&&bJ y&&bJ z)=true:=V;have o:=ba (ba (ba V).1).1;refine dn M λi J M=>dn M λj U M=>?_;by_cases F:j=0\/9000<=j.natAbs.log2
 ·rw[if_pos F]at M;injection M
 ·rw[if_neg F]at M;refine cA (ay M)<|DV (id:="divmod") hE (ba o.1).1 (aW (i:=7) rfl) I.base (ba (ba V).1).2 (ba V).2 (cu (L _ _ _ _ _ _ _ _ _ _ _ _ hE hA I (mM J) (ba o.1).2) λv N D=>cu (O _ _ _ _ _ _ _ _ _ _ _ _ hE hA (I.step D) (mM U) o.2) λu T B=>?_);refine ew λY=>D.2.2.dK λt e=>B.2.2.dK λt' G=>Y ?_;clear Y;refine ab e (ab G ?_);have X:=((I.step D).step B).live;refine PyProof.Rows.divmod_int (λe=>F (.inl e)) ?_ (.inl (nA (MW λh=>F (.inr (aP (by decide) h)))));exact e9.ext (D.2.1.trans B.2.1) _ _ (tp (ρ:=ρ) X (.cons (.int _ _) (.cons (.int _ _) .nil)) _ rfl _)
theorem rJ:∀Q:List (List Nat),xV (strOf []) (Q.map strOf)=strOf Q.flatten
 | []=>rfl
 | [x]=>by simp[xV]
 |x::y::r=>by
  have R:=rJ (y::r);simp only[bI]at R⊢;rw[xV,R,ly,ly]
  ·simp
  ·intro h;injection h
theorem Gl(Q:List (List Nat)):Txt.join (strOf []) (Q.map strOf)=strOf Q.flatten:=by delta Txt.join;exact ab (Qh ..) (ab (rJ ..) rfl)
theorem F8:∀(Q:List (List Nat)) (n:Nat),(Q.map strOf).foldl (λa x=>a+x.length+(strOf []).length) n=n+Q.flatten.length:=by
 intro G
 induction G with
 |nil=>
  intro n;rfl
 |cons x r R=>
  refineλn=>ab bI (ab List.foldl_cons (ab (R ..) (ab (cF ..) (ab (cF ..) ?_))));simp;exact zH n x.length (YN dp r).sum
theorem OA{Q:List (List Nat)}(h:Q.flatten.length<=cB):JoinOk (strOf []) (Q.map strOf)=true:=by have h':Q.flatten.length<=10000:=h;unfold JoinOk uv mJ;refine ab (List.foldl_toArray ..) (ab (F8 ..) ?_);refine ab (fv ..) ?_;rewrite[decide_eq_false_iff_not];lia
theorem ints_get{vs:List aw}{ns:List Int}(hi:Rt vs ns):∀j (J:j<vs.length) (U:j<ns.length),∃t,vs[j]=.int ns[j] t:=by
 induction hi with
 |nil=>exactλj J=>absurd J (jD _)
 |cons n t _ R=>
  intro j J U;rcases j with _|j
  ·exact⟨t,rfl⟩
  ·exact R j (by simpa using J) (by simpa using U)
theorem ne_of_lt_idxOf{k:Int}:∀{l:List Int} {j:Nat},j<l.idxOf k->(h:j<l.length)->¬l[j]=k:=by
 intro G
 induction G with
 |nil=>
  intro j z h;exact absurd h (jD _)
 |cons a l P=>
  intro j Y h;rw[List.idxOf_cons]at Y;rcases hb:a==k with _|_
  ·rw[hb]at Y;rcases j with _|j
   ·simpa using hb
   ·have S:j<l.idxOf k:=by simpa using Y
    exact P S (by simpa using h)
  ·rw[hb]at Y;exact absurd Y (jD _)
set_option tactic.hygienic true in
theorem iA{o:Expr}{n:bj}{env:fZ}(h:fS o=true):attributeBase o n env (fe o env)=fe o env:=by
 generalize fe o env=q;rcases o with⟨⟩<;>first|rfl|skip
 rename_i f a k p;rcases f with⟨⟩<;>first|rfl|skip
 rcases a with⟨⟩<;>first|rfl|skip
 rcases k with⟨⟩<;>first|rfl|skip
 exact(aB h).elim
theorem A4{z:List Nat}(h:z.length<=cB):uv (strOf z).length=false:=by have h':z.length<=10000:=h;refine ab (cF ..) ?_;unfold uv mJ;exact decide_eq_false (by lia)
theorem Hu{a:CE}(L:bU C k a):bU C k (.lower a):=by
 intro K env x loc av W ρ n0 st A s E hE hA I M V;refine e9.p0 I.tok<|CM V λy n Z p e=>?_;rw[e]at V⊢;have V:(n==("lower":bj)&&cz K 0 a y&&fS y&&Z.endLine==p.line)=true:=V;have o:=ba V;refine dn M λz J M=>?_;by_cases X:(gE z).length<=cB
 ·rw[if_pos X]at M;refine cA (ay M)<|ab (eq_of_beq (ba (ba o.1).1).1)<|xO (iA (ba o.1).2) (o.2) (cu (L _ _ _ _ _ _ _ _ _ _ _ _ hE hA I (zd J) (ba (ba o.1).1).2) λv N D=>?_);refine aI D.2.2.gf λt e=>ab e ?_;have e:Txt.lower (strOf z)=strOf (gE z):=by rfl
  refine SB.lower ?_ ?_
  ·exact ab e<|A4 X
  ·exact ab e<|e9.ext D.2.1 _ _ (.str rfl)
 ·rw[if_neg X]at M;injection M
theorem Hw{a:CE}(L:bU C k a):bU C k (.upper a):=by
 intro K env x loc av W ρ n0 st A s E hE hA I M V;refine e9.p0 I.tok<|CM V λy n Z p e=>?_;rw[e]at V⊢;have V:(n==("upper":bj)&&cz K 0 a y&&fS y&&Z.endLine==p.line)=true:=V;have o:=ba V;refine dn M λz J M=>?_;by_cases X:(qJ z).length<=cB
 ·rw[if_pos X]at M;refine cA (ay M)<|ab (eq_of_beq (ba (ba o.1).1).1)<|xO (iA (ba o.1).2) (o.2) (cu (L _ _ _ _ _ _ _ _ _ _ _ _ hE hA I (zd J) (ba (ba o.1).1).2) λv N D=>?_);refine aI D.2.2.gf λt e=>ab e ?_;have e:Txt.upper (strOf z)=strOf (qJ z):=by rfl
  refine SB.upper ?_ ?_
  ·exact ab e<|A4 X
  ·exact ab e<|e9.ext D.2.1 _ _ (.str rfl)
 ·rw[if_neg X]at M;injection M
theorem Dk{a:CE}(L:bU C k a):bU C k (.qj a):=by intro K env x loc av W ρ n0 st A s E hE hA I M V;refine e9.p0 I.tok<|CM V λy n Z p e=>?_;rw[e]at V⊢;have V:(n==("bit_length":bj)&&cz K 0 a y&&fS y&&Z.endLine==p.line)=true:=V;have o:=ba V;refine bW M λz J e=>cA e<|ab (eq_of_beq (ba (ba o.1).1).1)<|xO (iA (ba o.1).2) (o.2) (cu (L _ _ _ _ _ _ _ _ _ _ _ _ hE hA I (mM J) (ba (ba o.1).1).2) λv N D=>?_);exact D.2.2.dK λt e=>ab e<|⟨"int","int.bit_length",F.plainAttrs_int,slot_int_bit_length,type_int_bit_length,UT _ _ _,(λY e=>nomatch e),callWith_method0 (env:=env) (call_int_bit_length (e9.ext D.2.1 _ _ .int))⟩
theorem Mk{a:CE}{y z:List Nat}(L:bU C k a):bU C k (.yY a y z):=by
 intro K env x loc av W ρ n0 st A s E hE hA I M V;refine e9.p0 I.tok<|ew λY=>?_;obtain⟨o,n,Z,B,m,R,P,O,H,p,e⟩:=SQ V;refine Y ?_;clear Y;rw[e]at V⊢;have V:(n==("replace":bj)&&cz K 0 a o&&fS o&&Z.endLine==p.line&&strOf y==B&&strOf z==P&&decide (1<=K.tk))=true:=V;have h:=ba (ba (ba (ba V).1).1).1;refine dn M λq J M=>?_;by_cases X:q.length<=cB/\z.length<=10/\y≠z
 ·rw[if_pos X]at M;have G:q.length<=10000:=X.1;refine cA (ay M)<|ab (eq_of_beq (ba (ba h.1).1).1)<|cA (eq_of_beq (ba (ba (ba V).1).1).2)<|cA (eq_of_beq (ba (ba V).1).2)<|Call_method2 (iA (ba h.1).2) rfl (h.2) (cu (L _ _ _ _ _ _ _ _ _ _ _ _ hE hA I (zd J) (ba (ba h.1).1).2) λv N D=>?_);refine aI D.2.2.gf λt e=>ab e<|⟨"str","str.replace",F.plainAttrs_str,F.slot_str_replace,F.type_str_replace,typeIs_str _ _ _,(λQ e=>nomatch e),?_⟩;refine k9 rfl (dH (dP (oo (dP (oo (e7 ?_))))));refine SC.replaceW (oB (aP (of_decide_eq_true (ba V).2) (aP hE.tk D.1))) (oh _) (jb (og _)) (by refine bp (pG ..) ?_;simpa using X.2.2) (by refine ab (cF ..) ?_;lia) (by refine ab (cF ..) ?_;lia) λt' k=>?_;exact e9.ext D.2.1 _ _ (.str rfl)
 ·rw[if_neg X]at M;injection M
theorem Mh{a:CE}(L:bU C k a):bU C k (.join a):=by intro K env x loc av W ρ n0 st A s E hE hA I M V;refine e9.p0 I.tok<|SO V λe t R n Z y p o1=>?_;subst o1;have V:(n==("join":bj)&&cz K 0 a y&&bJ y&&Z.endLine==p.line&&e==strOf [])=true:=V;simp only[au,beq_iff_eq]at V;refine aN V λr j=>?_;clear V;refine aN r λH o=>aN H λg m=>aN g λT b=>ab T<|ab j<|ew λY=>dn M λq J O=>dn O λl U O=>dn O λQ S f=>Y ?_;clear Y;clear M;refine m8 f λX F=>?_;simp only[<-F];refine xP rfl (cY m) (beq_iff_eq.mpr o) (oo ?_);refine SB.join (cu (L _ _ _ _ _ _ _ _ _ _ _ _ hE hA (I.ext (.tok _ _) (j4 I.tok)) J b) λv N D=>?_);refine gA ((I.ext (.tok _ _) (j4 I.tok)).step D).store D.2.2 U λc vs P G d=>ab P<|aC (De d S) λi h B=>?_;subst h;refine⟨c,i,rfl,G.isList,_,B,OA X,λt' u=>?_⟩;exact ab (Gl ..)<|e9.ext ((gK.tok s _).trans D.2.1) _ _ (.str rfl)
theorem CI{k:Int}:∀{l:List Int},k∈l->∃h:l.idxOf k<l.length,l[l.idxOf k]=k:=λh=>⟨List.idxOf_lt_length_iff.mpr h,HR _⟩
set_option tactic.hygienic true in
theorem Ht{a b:CE}(L:bU C k a)(hb:bU C k b):bU C k (.index a b):=by
 intro K env x loc av W ρ n0 st A s E hE hA I M V;refine e9.p0 I.tok<|SP V λo n Z y p o6=>?_;subst o6;have V:(n==("index":bj)&&cz K 0 a o&&cz K 0 b y&&bJ y&&fS o&&Z.endLine==p.line)=true:=V;simp only[au,beq_iff_eq]at V;refine aN V λo7 H=>?_;clear V;refine aN o7 λu1 h=>aN u1 λu2 c3=>aN u2 λu3 c2=>aN u3 λu4 c1=>ab u4<|dn M λi J M=>dn M λq U M=>dn M λl S M=>dn M λns h4 O=>?_;replace J:=mM J;by_cases X:i∈ns/\ns.length<=cB
 ·rw[if_pos X]at O;refine cA (ay O)<|xP (iA h) (cY c3) (by simpa using H) (cu (L _ _ _ _ _ _ _ _ _ _ _ _ hE hA I U c1) λv N D=>?_);refine gA (I.step D).store D.2.2 S λc vs o8 R d=>ab o8<|aI R λm G=>?_;have hi:=ki d h4;refine⟨"list","list.index",F.plainAttrs_list,F.slot_list_index,F.type_list_index,⟨_,G,rfl⟩,(λa e=>by injection e with e_;subst e_;exact⟨_,G,rfl⟩),?_⟩;refine P.index_list (cu (hb _ _ _ _ _ _ _ _ _ _ _ _ hE hA (I.step D) J c2) λu T B=>?_);have r3:=B.2.2;rcases r3 with⟨⟩;rename_i tt;have g:ns.length<=10000:=X.2;refine aI (CI X.1) λY hjj=>⟨vs.toArray,m,λz=>ua z (.int i tt),ns.idxOf i,by simpa[hi.length]using Y,B.2.1.keep.nt G (i8 rfl),λz hz=>?_,by lia,?_,λj f Q=>?_,?_⟩
  ·obtain⟨j,Y,rfl⟩:=Ff.mp (by simpa using hz:z∈vs);exact aI ((ints_get hi) j Y (et Y hi.length)) λt e=>ab e<|.int _ _ _ _
  ·refine aI ((ints_get hi) (ns.idxOf i) (et Y (id (dN hi.length))) Y) λt e=>?_;simp[e,(id QG),hjj]
  ·have r:j<vs.length:=by simpa using f
   refine aI ((ints_get hi) j r (BZ Q Y)) λt e=>?_;have:=ne_of_lt_idxOf Q (BZ Q Y);simpa[e,(id QG)]using this
  ·exact e9.ext (D.2.1.trans B.2.1) _ _ .int
 ·rw[if_neg X]at O;injection O
def sU(n0:Nat)(s:ao)(r:Bool):Bool->ao->Prop:=λb s'=>b=r/\n0<=s'.toks/\gK s s'
theorem rM{e:CE}{x:Expr}{env:fZ}{K:Ck}{loc:Loc}{r:Bool}(B:mT x env (fe x env)=(do let v<-fe x env;jF x.pos;ie [v] (US v)))(Z:bU C k e)
 (hE:bZ env K n0)(hA:i7 k A)(I:EI h₀ K.tab K.acc env W ρ n0 loc st s)(M:ev cfg st e loc=some av)(Q:cU st av=some r)(V:cz K 0 e x=true):
 aM (aL C.prog C.w) A (mT x env (fe x env)) (sU n0 s r) E s:=
 UZ (cu (Z _ _ _ _ _ _ _ _ _ _ _ _ hE hA I M V) λv N D=>A7 D.2.2 Q λT i u=>⟨rfl,aP D.1 u,D.2.1.trans i⟩) B
theorem vS{i:Nat}:iz C k (.a i):=by intro K env x loc av r W ρ n0 st A s E hE hA I M Q z V;refine qA V λy p j=>?_;subst j;exact rM rfl kz hE hA I M Q V
theorem LY{a lo:CE}(L:bU C k a)(X:bU C k lo):iz C k (.F a lo):=by intro K env x loc av r W ρ n0 st A s E hE hA I M Q z V;refine Eh V λnm G l p pos P=>?_;subst P;exact rM rfl (EY L X) hE hA I M Q V
theorem LZ{a lo:CE}(L:bU C k a)(X:bU C k lo):iz C k (.A a lo):=by intro K env x loc av r W ρ n0 st A s E hE hA I M Q z V;refine Ei V λnm G l p pos S=>?_;subst S;exact rM rfl (EZ L X) hE hA I M Q V
theorem Hi{f:Nat}{l:List CE}(Z:bU C k (.call f l)):iz C k (.call f l):=by intro K env x loc av r W ρ n0 st A s E hE hA I M Q z V;refine vy V λg p xs pos c=>?_;subst c;exact rM rfl Z hE hA I M Q V
theorem Bp{op:kF}{a b:CE}(L:bU C k a)(O:bU C k b):iz C k (.cmp op a b):=by intro K env x loc av t W ρ n0 st A s E hE hA I M Q z V;refine ew λY=>dn M λp J M=>dn M λq U M=>dn M λt' S d=>?_;rw[<-(ay d)]at Q;refine AI V λl P r pos e=>Y ?_;clear Y;rw[e]at V⊢;have V:(op==P&&cz K 0 a l&&cz K 0 b r&& !pO op r)=true:=V;have m:=ba (ba V).1;refine cA (eq_of_beq (ba m.1).1)<|wpAny_isTrue_Compare1 (cu (L _ _ _ _ _ _ _ _ _ _ _ _ hE hA I J (ba m.1).2) λv N D=>cu (O _ _ _ _ _ _ _ _ _ _ _ _ hE hA (I.step D) U m.2) λu T B=>?_) (nB (ba V).2);exact cu (e9.p0 B.1 (yU (by have:=hA.units;lia) (I.step D|>.step B).store (D.2.2.keep B.2.1.keep) B.2.2 S)) λc X Z=>ab Z.2.2.mj<|pj ⟨ay Q,Z.1,D.2.1.trans (B.2.1.trans Z.2.1)⟩
theorem LX{a:CE}(L:iz C k a):iz C k (.B a):=by intro K env x loc av t W ρ n0 st A s E hE hA I M Q z V;refine ew λY=>Oo V λy pos Z=>?_;subst Z;have V:(true&&xH a&&cz K 1 a y)=true:=V;simp only[au]at V;refine dn M λp J O=>dn O λq U O=>?_;injection O with F;subst F;injection Q with F;subst F;refine Y ?_;clear Y;exact wpAny_isTrue_Not (aA (L _ _ _ _ _ _ _ _ _ _ _ _ _ hE hA I J U V.1.2 V.2) (λb N D=>⟨ab D.1 rfl,D.2⟩) λz z e=>e)
theorem FA:∀(l:List CE) (z:∀e∈l,iz C k e) (K:Ck) (env:fZ) (xs:List Expr) (loc:Loc) (r:Bool) (W:az->Prop) (ρ:List az) (n0:Nat) (st:St) (A:cP) (s:ao) (E:aw->ao->Prop),
 bZ env K n0->i7 k A->EI h₀ K.tab K.acc env W ρ n0 loc st s->uY cfg st l loc=some r->l.all xH=true->fV K 1 l xs=true->aM (aL C.prog C.w) A (allTrue .And xs env) (sU n0 s r) E s:=by
 intro G
 induction G with
 |nil=>
  intro z K env H loc r W ρ n0 st A s E hE hA I M Q V;rcases H with _|⟨L,a⟩
  ·injection M with F;subst F;exact wpAny_allTrue_And_nil ⟨rfl,I.tok,.refl _⟩
  ·exact(aB V).elim
 |cons e l R=>
  intro X K env H loc r W ρ n0 st A s E hE hA I M Q V;rcases H with _|⟨x,xs⟩
  ·exact(aB V).elim
  ·have V:(cz K 1 e x&&bJ x&&fV K 1 l xs)=true:=V;simp only[au,jx]at V Q;simp only[(id yt),aj,bF]at M;refine ew λY=>?_;obtain⟨p,J,q,U,S⟩:=M;refine Y ?_;clear Y;refine wpAny_allTrue_And_cons (aA (X e aH _ _ _ _ _ _ _ _ _ _ _ _ _ hE hA I J U Q.1 V.1.1) (λb N D=>?_) λz z e=>e);clear U;refine eY D λO P y=>?_;clear D;subst O;rcases b with _|_
   ·simp only[bx,if_false,aJ,bL]at S⊢;subst S;exact⟨rfl,P,y⟩
   ·simp only[if_true]at S⊢;exact aA (R (λe Z=>X e (ax _ Z)) K env xs loc r W ρ n0 st A N E hE hA (I.ext y P) S Q.2 V.2) (λb T B=>⟨B.1,B.2.1,y.trans B.2.2⟩) λz z e=>e
theorem KU:∀(l:List CE) (z:∀e∈l,iz C k e) (K:Ck) (env:fZ) (xs:List Expr) (loc:Loc) (r:Bool) (W:az->Prop) (ρ:List az) (n0:Nat) (st:St) (A:cP) (s:ao) (E:aw->ao->Prop),
 bZ env K n0->i7 k A->EI h₀ K.tab K.acc env W ρ n0 loc st s->Cv cfg st l loc=some r->l.all xH=true->fV K 1 l xs=true->aM (aL C.prog C.w) A (allTrue .Or xs env) (sU n0 s r) E s:=by
 intro G
 induction G with
 |nil=>
  intro z K env H loc r W ρ n0 st A s E hE hA I M Q V;rcases H with _|⟨L,a⟩
  ·injection M with F;subst F;exact wpAny_allTrue_Or_nil ⟨rfl,I.tok,.refl _⟩
  ·exact(aB V).elim
 |cons e l O=>
  intro X K env H loc r W ρ n0 st A s E hE hA I M Q V;rcases H with _|⟨x,xs⟩
  ·exact(aB V).elim
  ·have V:(cz K 1 e x&&bJ x&&fV K 1 l xs)=true:=V;simp only[au,jx]at V Q;simp only[(id Ju),aj,bF]at M;refine ew λY=>?_;obtain⟨p,J,q,U,S⟩:=M;refine Y ?_;clear Y;refine wpAny_allTrue_Or_cons (aA (X e aH _ _ _ _ _ _ _ _ _ _ _ _ _ hE hA I J U Q.1 V.1.1) (λb N D=>?_) λz z e=>e);clear U;refine eY D λR P y=>?_;clear D;subst R;rcases b with _|_
   ·simp only[bx,if_false]at S⊢;exact aA (O (λe Z=>X e (ax _ Z)) K env xs loc r W ρ n0 st A N E hE hA (I.ext y P) S Q.2 V.2) (λb T B=>⟨B.1,B.2.1,y.trans B.2.2⟩) λz z e=>e
   ·simp only[if_true,aJ,bL]at S⊢;subst S;exact⟨rfl,P,y⟩
theorem LW{l:List CE}(X:∀e∈l,iz C k e):iz C k (.band l):=by intro K env x loc av t W ρ n0 st A s E hE hA I M Q z V;refine Oa V λxs pos r=>?_;subst r;have V:(true&&l.all xH&&fV K 1 l xs)=true:=V;simp only[au]at V;simp only[(id fD),dg]at M;refine ew λY=>aC M λb J L=>?_;clear M;subst L;injection Q with F;subst F;refine Y ?_;clear Y;exact Us (FA l X K env xs loc _ W ρ n0 st A s E hE hA I J V.1.2 V.2)
theorem PE{l:List CE}(X:∀e∈l,iz C k e):iz C k (.bor l):=by intro K env x loc av t W ρ n0 st A s E hE hA I M Q z V;refine SU V λxs pos Z=>?_;subst Z;have V:(true&&l.all xH&&fV K 1 l xs)=true:=V;simp only[au]at V;simp only[(id fD),dg]at M;refine ew λY=>aC M λb J n=>?_;clear M;subst n;injection Q with F;subst F;refine Y ?_;clear Y;exact Us (KU l X K env xs loc _ W ρ n0 st A s E hE hA I J V.1.2 V.2)
theorem K6{vs keep:List aw}{Q:Unit->ao->Prop}(h:Q () s):aM (aL prog w) A (release vs keep) Q E s:=λD p B=>ab (jA.wp_release ..)<|h
theorem Hj{op P:kF}{a b c:CE}(L:bU C k a)(n:bU C k b)(g:bU C k c):iz C k (.C op P a b c):=by
 intro K env x loc av t W ρ n0 st A s E hE hA I M Q _ V;refine dn M λp J M=>dn M λq U M=>dn M λt' S d=>?_;have N:A.units<YT:=by have:=hA.units;lia
 refine J9 V λl o1 o y r pos e=>?_;rw[e]at V⊢;have V:(true&&op==o1&&P==o&&cz K 0 a l&&cz K 0 b y&&cz K 0 c r&& !pO P r)=true:=V;have m:=ba (ba (ba V).1).1;refine cA (eq_of_beq (ba (ba (ba m.1).1).1).2)<|cA (eq_of_beq (ba (ba m.1).1).2)<|isTrue_chain (cu (L _ _ _ _ _ _ _ _ _ _ _ _ hE hA I J (ba m.1).2) λv i D=>?_) (nB (ba V).2);show aM _ A (do
  let Y<-ie [v] (fe y env)
  jF pos
  let c<-ie [v,Y] (eM op v Y)
  release [v,Y] [c]
  if<-ie [c,Y] (US c)then testChain pos Y [P] [fe r env]else pure false) _ _ _
 refine bg (gc (cu (n _ _ _ _ _ _ _ _ _ _ _ _ hE hA (I.step D) U m.2) λu T B=>bg (eA ?_)));refine bg (gc (cu (e9.p0 B.1 (yU N ((I.step D).step B).store (D.2.2.keep B.2.1.keep) B.2.2 S)) λcv X Z=>?_));clear S;refine ab Z.2.2.mj ?_;have f:=D.2.1.trans (B.2.1.trans Z.2.1);refine bg (K6 (bg (gc (pj ?_))));rcases t' with _|_
 ·have O:AV.bool false=av:=ay d;rw[<-O]at Q;exact du ⟨ay Q,Z.1,f⟩
 ·refine dn d λz O d=>dn d λz' j d=>?_;rw[<-(ay d)]at Q;have h:=((I.step D).step B).step Z;show aM _ A (do
   let Y<-ie [u] (fe r env)
   jF pos
   let c<-Xi [u,Y] (eM P u Y)
   ie [c] (US c)) _ _ _
  refine bg (gc (cu (g _ _ _ _ _ _ _ _ _ _ _ _ hE hA h O (ba (ba V).1).2) λx F G=>bg (eA ?_)));refine bg (wpAny_operating (cu (e9.p0 G.1 (yU N (h.step G).store (B.2.2.keep (Z.2.1.trans G.2.1).keep) G.2.2 j)) λcv H R=>?_));exact ab R.2.2.mj<|gc (pj ⟨ay Q,R.1,f.trans (G.2.1.trans R.2.1)⟩)
theorem lB{f:aw}{xs:List Expr}{env:fZ}{pos:eO}{Q:Args->ao->Prop}(Z:xs.all bJ=true)(L:xs≠ [])
 (h:aM (aL prog w) A (spliced (YS pos (xX xs env))) (λvs s'=>Q ⟨vs,[]⟩ s') E s):aM (aL prog w) A (evalArgs f true (YS pos (xX xs env)) []) Q E s:=by
 rcases xs with _|⟨x,r⟩
 ·exact absurd rfl L
 ·simp only[jx,au]at Z;rw[cY Z.1]at h⊢;exact dH h
theorem kc{K:Ck}{m:Nat}:∀{l:List CE} {xs:List Expr},fV K m l xs=true->xs.all bJ=true:=by
 intro G
 induction G with
 |nil=>
  intro H h;rcases H with _|⟨_,_⟩
  ·exact rfl
  ·exact(aB h).elim
 |cons e l P=>
  intro H h;rcases H with _|⟨x,xs⟩
  ·exact(aB h).elim
  ·have h:(cz K m e x&&bJ x&&fV K m l xs)=true:=h;refine bp jx (ab ((ba (ba h).1).2) (bp (P (ba h).2) ?_));rfl
set_option tactic.hygienic true in
theorem Bw{f:Nat}{l:List CE}(O:Qm C k cfg.O)(X:∀e∈l,bU C k e):bU C k (.call f l):=by
 intro K env x loc av W ρ n0 st A s E hE hA I M V;refine e9.p0 I.tok<|vy V λg p xs pos o1=>?_;subst o1;have V:(pW f==some g&&K.glob g&&fV K 0 l xs&& !l.isEmpty&& !(f==8))=true:=V;simp only[au,beq_iff_eq]at V;refine aN V λr c8=>aN r λH G=>aN H λS B=>aN S λc m=>?_;clear V;clear r;have L:xs≠ []:=by intro R;subst R;(rcases l with _|⟨e,l⟩;(exact(aB G).elim);exact(aB B).elim)
 refine dn M λavs J U=>?_;split at U
 ·rename_i Q;refine ew λY=>?_;refine D8 (O _ _ _ (bne_iff_ne.mp c8) U) λg' a o fd D j t g4 g5=>?_;rw[c]at D;injection D with F;subst F;refine Y ?_;clear Y;refine dE (lF hE m I.base j (kE (o:=o) (fd:=fd) (lB (kc B) L ?_)));refine gW l X _ _ _ _ _ _ _ _ _ _ _ _ _ _ hE hA I J B λvs N P y d=>⟨⟨(I.base.trans y.keep).nt t (nO g4),g4⟩,?_⟩;exact aA (g5 A N W ρ vs E hA (I.base.trans y.keep) (I.live.keep y.keep) d Q) (λv s' h=>e9.ext y v s' h) λz z e=>e
 ·injection U
theorem Mg{a:CE}(L:bU C k a):bU C k (.J5 a):=by intro K env x loc av W ρ n0 st A s E hE hA I M V;refine e9.p0 I.tok<|Oh V λl x p pos e=>?_;rw[e]at V⊢;have V:(cz K 0 a l&&x==("b1_set":bj)&&K.glob x)=true:=V;refine bW M λi J e=>?_;refine cA e<|aC C.b1 λad b1 b2=>?_;rw[<-eq_of_beq (ba (ba V).1).2]at b1;refine YW (cu (L _ _ _ _ _ _ _ _ _ _ _ _ hE hA I (mM J) (ba (ba V).1).1) λv N D=>lF hE (ba V).2 (I.step D).base b1 ?_) rfl;exact D.2.2.dK λt e=>ab e<|b2 _ _ _ _ _ _ (I.step D).base λtk=>e9.ext D.2.1 _ _ ⟨.tok _ tk,.bool _⟩
theorem Hs{a:CE}(L:bU C k a):bU C k (.xb a):=by
 intro K env x loc av W ρ n0 st A s E hE hA I M V;refine e9.p0 I.tok<|SM V λx p n Z y pos e=>?_;rw[e]at V⊢;have V:(x==("b3_exceptions":bj)&&K.glob x&&n==("get":bj)&&cz K 0 a y&&bJ y&&Z.endLine==pos.line)=true:=V;have H:=ba V;have h:=ba H.1;have o:=ba h.1;have m:=ba o.1;have c:=ba m.1;refine bW M λi J e=>aC C.b3 λad b1 b2=>?_;have g:=c.2;rw[eq_of_beq c.1]at g;refine cA e<|ab (eq_of_beq m.2)<|ab (eq_of_beq c.1)<|b2 _ _ _ _ _ _ _ _ _ (H.2) h.2 I.base (lF hE g I.base b1 ⟨rfl,rfl⟩) (cu (L _ _ _ _ _ _ _ _ _ _ _ _ hE hA I (mM J) o.2) λv N D=>⟨(I.step D).base,?_⟩);refine D.2.2.dK λt e=>⟨i,t,e,λt' tk=>e9.ext D.2.1 _ _ ?_⟩;rcases cfg.b3 i with _|z
 ·exact⟨.tok _ tk,.none⟩
 ·exact⟨.tok _ tk,.str _ _⟩
theorem ints_cons{vs:List aw}{n:Int}{ns:List Int}(x:Rt vs (n::ns)){I:Prop}(N:∀t L,vs=.int n t::L->Rt L ns->I):I:=by rcases x with⟨⟩;exact N _ _ rfl (‹_›)
theorem vr{vs:List aw}(x:Rt vs []):vs= []:=by rcases x with⟨⟩;rfl
theorem C6{ns:List Int}{q:Int×Int×Int}(h:Wr ns=some q):(q=(0,q.2.1,1)/\ns= [q.2.1])\/(q=(q.1,q.2.1,1)/\ns= [q.1,q.2.1])\/ns= [q.1,q.2.1,q.2.2]:=by
 cases ns with
 |nil=>injection h
 |cons a l=>rcases l with _|⟨b,l⟩
            ·injection h with F;subst F;exact .inl ⟨rfl,rfl⟩
            ·rcases l with _|⟨c,l⟩
             ·injection h with F;subst F;exact .inr (.inl ⟨rfl,rfl⟩)
             ·exact bW h λu N e=>ab (lR N)<|cA e<|.inr (.inr rfl)
theorem Zg{x y:Int}(J:0<=x)(U:x<=y-1)(S:y<=10000):x+1=((x+1).toNat:Int)/\(x+1).toNat<=20000:=
 ⟨(qN (gO J (by decide))).symm,tH.mpr (gr (Int.add_le_of_le_sub_right U) (gr S (by decide)))⟩
theorem Lc{a b c:Int}(f:0<c)(t:b-a<=10000):fK a b c=(rF a b c:Int)/\rF a b c<=20000:=by
 unfold rF fK;refine ab (if_pos f) ?_;split
 ·have J:0<=(b-a-1)/c:=eR (by lia) (aF f);have U:(b-a-1)/c<=b-a-1:=Int.ediv_le_self _ ((Int.ediv_nonneg_iff_of_pos f).mp J);exact Zg J U t
 ·exact⟨rfl,by decide⟩
theorem rG{x:Int}(h:x.natAbs<=4000000000):Dz x=true:=by
 have B:(2:Int)^63=9223372036854775808:=by decide
 delta Dz;refine ab B (ab (au ..) (ab decide_eq_true_eq (ab decide_eq_true_eq ?_)));omega+splitDisjunctions
theorem GX{a b c:Int}{n:Nat}(f:0<c)(j:c<=1000)(g4:a.natAbs<=2147483648)(g5:b.natAbs<=2147483648)(G:fK a b c=(n:Int))(Q:n<=20000):nj a b c=true:=by delta nj;rewrite[G,if_pos f,rG (x:=a) (by omega+splitDisjunctions),rG (x:=b) (by omega+splitDisjunctions),rG (x:=c) (by(clear Q G g5 g4;omega+splitDisjunctions)),rG (x:=(n:Int)) (by omega+splitDisjunctions),rG (x:=b+(c-1)) (by omega+splitDisjunctions),Bool.or_true];rfl
set_option tactic.hygienic true in
theorem qE{vals:List aw}{avs l:List AV}{Q:aw->ao->Prop}{h:bk}(D:ft W ρ h vals avs)(G:lx avs=some l)
 (N:∀a b c t u v r s',gK s s'->s.heap.get? r=none->IsRange s'.heap r a b c t u v->nj a b c=true->fK a b c=(l.length:Int)->l.length<=20000->
   l=(gV a c l.length).map .int->Q (.ref r) s'):
 aM (aL prog w) A (call (.type "range") vals) Q E s:=by
 refine aC (aZ G) λns J M=>aC (aZ M) λP U V=>?_;rcases P with⟨a,b,c⟩;clear G M;have hi:=ki D J;replace V:(if 0<c/\c<=1000/\b-a<=cB/\a.natAbs<=2^31/\b.natAbs<=2^31 then some ((gV a c (rF a b c)).map .int)else none)=some l:=V;split at V<;>(first|(injection V;done)|(injection V with F;subst F));rename_i O;have g:=Lc O.1 O.2.2.1;have I:=GX O.1 O.2.1 O.2.2.2.1 O.2.2.2.2 g.1 g.2;have B:((gV a c (rF a b c)).map AV.int).length=rF a b c:=by refine ab (aY ..) ?_;rewrite[gV];exact ab (aY ..) (ab eH rfl)
 rw[B]at N;have S:∀{t u v k},Q (.ref s.heap.objs.size) {s with heap:=s.heap.push {cls:=.type "range",data:=.fields #[.int a t,.int b u,.int c v]},toks:=k}:=N _ _ _ _ _ _ _ _ (.of (bO.push _ _)) (cO _) (IsRange.new ..) I g.1 g.2 rfl;clear N g;refine ak (C6 U) (λH=>aN H λe1 e2=>?_) λX=>ak X (λT=>aN T λe1 e2=>?_) λe2=>?_
 ·rcases e1 with⟨⟩;rw[e2]at hi;exact ints_cons hi λt L f1 i1=>ab f1<|ab (vr i1)<|call_range_1 S
 ·rcases e1 with⟨⟩;rw[e2]at hi;exact ints_cons hi λt L f1 i1=>ints_cons i1 λu R f2 o=>ab f1<|ab f2<|ab (vr o)<|call_range_2 S
 ·rw[e2]at hi;refine ints_cons hi λt L f1 i1=>ints_cons i1 λu R f2 o=>ints_cons o λv K f3 i=>ab f1 (ab f2 (ab f3 (ab (vr i) ?_)));have Y:=O.2.1;have d:=O.1;exact call_range_3 (cH O.1) S (.inl (PyProof.noPylong_small (by show c.natAbs<_;clear O S;(clear i f3 o f2 i1 f1 e2 X B I hi U J D;omega+splitDisjunctions))))
theorem nD{xs:List Expr}{pos:eO}{env:fZ}(Z:xs.all bJ=true):(YS pos (xX xs env)).any (·.1)=false:=by
 induction xs with
 |nil=>rfl
 |cons x r R=>
  simp only[jx,au]at Z;exact ab (cY Z.1)<|R Z.2
theorem Dm{l:List CE}(X:∀e∈l,bU C k e):bU C k (.G l):=by
 intro K env x loc av W ρ n0 st A s E hE hA I M V;refine e9.p0 I.tok<|ew λY=>Kc V λf p g p' xs L pos o1=>?_;subst o1;have V:(rn K "list" f&&rn K "range" g&&fV K 0 l xs&& !l.isEmpty)=true:=V;simp only[au]at V;refine aN V λo2 h=>?_;clear V;refine aN o2 λH o=>aN H λc1 m=>?_;clear V;clear o2;refine Y ?_;clear Y;have hne:xs≠ []:=by intro o3;subst o3;(rcases l with _|⟨e,l⟩;(exact(aB h).elim);exact(aB o).elim)
 refine dn M λavs J hz_=>dn hz_ λrl U hz_=>?_;injection hz_ with e_;refine cA e_<|dE (lu (v:=.type "list") hE c1 (om rfl) I.base ?_);refine dX rfl (dH (dP ?_));refine dE (lu (v:=.type "range") hE m (by simp[lM]) I.base ?_);have Z:=kc o;have hpl:=nD (pos:=L) (env:=env) Z;refine dX hpl (lB Z hne ?_);refine gW l X _ _ _ _ _ _ _ _ _ _ _ _ _ _ hE hA I J o λvs N P e₁ d=>qE d U λa b c t u v r T i R G hsm hsz Q X=>e7<|Yb hA.hh G hsm hsz (by lia) λh' tk q c' hk hS' O=>⟨(e₁.trans i).trans (.of hk),.lst (((I.live.keep e₁.keep).keep i.keep).fresh (cO _)) ⟨c',hS'⟩ (vs:=q.toList) ?_⟩;refine ab X ?_;have B:q.toList.length=rl.length:=by simp[O.1]
 have S:∀(n:Nat) (D:List aw) (z:Int),D.length=n->(∀(j:Nat) (v:aw),D[j]? =some (v:aw)->∃t:nZ,v=cy (z+(j:Int)*c) t)->ft W ρ h' D ((gV z c n).map AV.int):=by
  intro n
  induction n with
  |zero=>exactλD z F _=>ab (dD F)<|.nil
  |succ n ih=>
   intro D z F hz;rcases D with _|⟨y,r⟩
   ·injection F
   ·refine aI (hz 0 y rfl) λt e=>?_;have e':y=.int z t:=by simpa using e
    refine ab e' ?_;have:=ih r (z+c) (by simpa using F) λj v hv=>by
     refine aI (hz (j+1) v (by simpa using hv)) λt e=>⟨t,?_⟩;refine ab e ?_;congr 1;push_cast;refine ab (g8 ..) ?_;lia
    have er:(gV z c (n+1)).map AV.int=AV.int z::(gV (z+c) c n).map AV.int:=by
     delta gV;refine ab j0 ?_;simp only[bI,fi,iJ];congr 1
     ·simp
     ·apply jn;intro j _;congr 1;push_cast;refine ab (g8 ..) ?_;lia
    exact ab er<|.cons (.int _ _) this
 exact S _ _ _ B λj v hv=>O.2 j v (by simpa using hv)
structure By (fp:az->Prop) (G:Nat->Prop) (s s':ao):Prop where
 keep:cD fp s.heap s'.heap
 os:s'.os=s.os
 hJ:s.gens.size<=s'.gens.size
 gens:∀g,g<s.gens.size->¬G g->s'.gens[g]? =s.gens[g]?
 bare:wa s.gens->wa s'.gens
theorem By.refl{fp:az->Prop}{G:Nat->Prop}(s:ao):By fp G s s:=⟨λz o z e=>⟨o,e,.refl _ _ _⟩,rfl,aV _,λz z z=>rfl,id⟩
theorem By.jQ{fp:az->Prop}{G:Nat->Prop}{s s':ao}(e:gK s s'):By fp G s s':=⟨λb o z h=>e.keep b o h,e.os,e.hJ,λg d z=>e.gens g d,e.bare⟩
theorem By.trans{fp:az->Prop}{G:Nat->Prop}{a b c:ao}(x:By fp G a b)(y:By fp G b c):By fp G a c:=
 ⟨x.keep.trans y.keep,y.os.trans x.os,aP x.hJ y.hJ,
  λg d D=>(y.gens g (be d x.hJ) D).trans (x.gens g d D),λh=>y.bare (x.bare h)⟩
theorem By.weaken{fp F:az->Prop}{G H:Nat->Prop}{a b:ao}(x:By fp G a b)(h:∀p,fp p->F p)(D:∀g,G g->H g):By F H a b:=
 ⟨λp o B e=>x.keep p o (B.imp (λQ q=>Q (h p q)) id) e,x.os,x.hJ,λg d Q=>x.gens g d λq=>Q (D g q),x.bare⟩
theorem By.of{fp:az->Prop}{G:Nat->Prop}{s:ao}{h':bk}{tk:Nat}(I:∀b o,¬fp b->s.heap.get? b=some o->h'.get? b=some o)(u:∀b o,fp b->s.heap.get? b=some o->¬yh o):
 By fp G s {s with heap:=h',toks:=tk}:=⟨.of I u,rfl,aV _,λz z z=>rfl,id⟩
structure It (prog:fA) (w:cW) (A:cP) (I:az) (fp:az->Prop) (G:Nat->Prop) (avs:List AV) (S:(az->Prop)->List az->Nat->ao->Prop):Prop where
 next:∀(W:az->Prop) (ρ:List az) (i:Nat) (a:AV) (s:ao) (E:aw->ao->Prop),avs[i]? =some a->(∀p,fp p->W p)->j6 W s.heap->S W ρ i s->
  aM (aL prog w) A (tX (.ref I)) (λr s'=>∃v,r=some v/\By fp G s s'/\VR W ρ s'.heap v a/\S W ρ (i+1) s') E s
 done:∀(W:az->Prop) (ρ:List az) (s:ao) (E:aw->ao->Prop),(∀p,fp p->W p)->j6 W s.heap->S W ρ avs.length s->
  aM (aL prog w) A (tX (.ref I)) (λr s'=>r=none/\By fp G s s') E s
 frame:∀(W W':az->Prop) (ρ ρ':List az) (i:Nat) (s s':ao),S W ρ i s->(∀a,W' a->W a\/s.heap.get? a=none)->(∀b o,¬W b\/fp b->s.heap.get? b=some o->nt o->s'.heap.get? b=some o)->
  (∀(n:Nat) (a:az),ρ[n]? =some a->ρ'[n]? =some a)->(∀g,G g->s'.gens[g]? =s.gens[g]?)->S W' ρ' i s'
 alive:∀(W:az->Prop) (ρ:List az) (i:Nat) (s:ao),S W ρ i s->∀p,fp p->∃o,s.heap.get? p=some o
 self:∀(W:az->Prop) (ρ:List az) (i:Nat) (s:ao) (Q:aw->ao->Prop) (E:aw->ao->Prop),S W ρ i s->Q (.ref I) s->aM (aL prog w) A (tW (.ref I)) Q E s
 own:∀(W:az->Prop) (ρ:List az) (i:Nat) (s:ao) (t:Expr) (v:aw) (Q:Unit->ao->Prop) (E:aw->ao->Prop),S W ρ i s->Q () s->aM (aL prog w) A (gJ t (.ref I) v) Q E s
theorem GP{M:jA Unit->Prop}(t:Expr)(it v:aw)(J:M (gJ (.List [] default) it v))(U:M (pure ())):M (gJ t it v):=by rcases t with⟨⟩<;>first|exact U|exact J
theorem vK{s:ao}{I:az}{T:String}{o:hC}{t:Expr}{v:aw}{Q:Unit->ao->Prop}(B:s.heap.get? I=some o)(V:o.cls=.type T)
 (F: ["enumerate","zip","dict_itemiterator","dict_reverseitemiterator","odict_iterator","itertools.zip_longest","itertools.pairwise"].contains T=false)(h:Q () s):
 aM (aL prog w) A (gJ t (.ref I) v) Q E s:=by
 refine GP (M:=λm=>aM (aL prog w) A m Q E s) t _ v ?_ (du h);rcases v with⟨⟩<;>first|exact du h|skip
 refine bg (wpAny_load B ?_);refine ab V ?_;generalize o.data=d;rcases d with⟨⟩<;>first|exact du h|skip
 show aM _ _ (if _ then _ else _) Q E s;exact ab F<|du h
theorem Ly{W:az->Prop}{h h':bk}(I:∀b o,¬W b->h.get? b=some o->nt o->h'.get? b=some o):∀b T vs,¬W b->cL T h b vs->cL T h' b vs:=λb T vs O Y=>aI Y λn e=>⟨n,I b _ O e (i8 rfl)⟩
theorem It.rx{I:az}{N:List az}{P:Nat->aw->Prop}{M:Nat->bk->Prop}{avs:List AV}(l:Walks prog w A I N [I] avs.length P M)(V:(az->Prop)->List az->bk->Prop)
 (Z:∀W ρ h i v a,V W ρ h->P i v->avs[i]? =some a->VR W ρ h v a)
 (c:∀(W W':az->Prop) (ρ ρ':List az) (h h':bk),V W ρ h->(∀a,W' a->W a\/h.get? a=none)->(∀b T vs,¬W b->cL T h b vs->cL T h' b vs)->(∀(n:Nat) (a:az),ρ[n]? =some a->ρ'[n]? =some a)->V W' ρ' h')
 (q:∀W ρ h b,V W ρ h->b∈N->b=I\/(¬W b/\∀o,h.get? b=some o->nt o))
 (G:∀i h,M i h->∃o T,h.get? I=some o/\¬yh o/\o.cls=.type T/\ ["enumerate","zip","dict_itemiterator","dict_reverseitemiterator","odict_iterator","itertools.zip_longest","itertools.pairwise"].contains T=false):
 It prog w A I (·=I) (λz=>False) avs (λW ρ i s=>M i s.heap/\V W ρ s.heap) where
 next:=λW ρ i a s E L r u K=>by
  refine aN K λJ U=>l.item i s _ E ((aQ.mp L).1) J λv h' tk m D g=>?_;have d:∀b o,¬W b->s.heap.get? b=some o->nt o->h'.get? b=some o:=λb o O e z=>g b o (by rw[bS];intro o4;subst o4;exact O (r _ rfl)) e;have S:=c W W ρ ρ _ _ U (λz x=>.inl x) (Ly d) λz z e=>e;exact⟨v,rfl,.of (λb o O e=>g b o (by simpa using O) e) (λb o O e=>by
   subst O;refine cX (G _ _ J) λR T f j z=>?_;rw[e]at f;injection f with F;subst F;exact j),Z _ _ _ _ _ _ S m L,D,S⟩
 done:=λW ρ s E r u K=>l.done s _ E K.1 λh' tk g=>⟨rfl,.of (λb o O e=>g b o (by simpa using O) e) λb o O e=>by
  subst O;refine cX (G _ _ K.1) λR T f j z=>?_;rw[e]at f;injection f with F;subst F;exact j⟩
 frame:=λW W' ρ ρ' i s s' K hW g X z=>⟨l.frame i _ _ K.1 λb O o e=>by
  refine ak (q _ _ _ b K.2 O) (λH=>?_) λx=>?_;cases H
  ·refine ew λY=>s8 (G _ _ K.1) λR T J z U z=>?_;rw[e]at J;injection J with F;subst F;refine Y ?_;clear Y;exact g _ o (.inr rfl) e (jt U)
  ·exact g b o (.inl x.1) e (x.2 o e),c _ _ _ _ _ _ K.2 hW (Ly λb o O e y=>g b o (.inl O) e y) X⟩
 alive:=λW ρ i s K p B=>ab B<|eb (G _ _ K.1) λo T h z=>⟨o,h⟩
 self:=λW ρ i s Q E K h=>l.self i s Q E K.1 h
 own:=λW ρ i s t v Q E K h=>s8 (G _ _ K.1) λo T J z U S=>vK J U S h
end
def ya(prog:fA)(w:cW)(A:cP)(W:az->Prop)(ρ:List az)(n0:Nat)(s:ao)(avs:List AV):aw->ao->Prop:=λD T=>
 n0<=T.toks/\gK s T/\∃I fp G S,D=.ref I/\It prog w A I fp G avs S/\S (λa=>W a\/fp a) ρ 0 T/\(∀p,fp p->s.heap.get? p=none)/\(∀g,G g->s.gens.size<=g/\g<T.gens.size)
section
variable{h₀:bk}{cfg:dC}(C:fE h₀ cfg)(k:Nat)
def oE(e:CE):Prop:=∀(K:Ck) (env:fZ) (x:Expr) (loc:Loc) (av:AV) (avs:List AV) (W:az->Prop) (ρ:List az) (n0:Nat) (st:St) (A:cP) (s:ao) (E:aw->ao->Prop),
 bZ env K n0->i7 k A->EI h₀ K.tab K.acc env W ρ n0 loc st s->ev cfg st e loc=some av->fQ st av=some avs->Ek e=true->cz K 2 e x=true->
 aM (aL C.prog C.w) A (fe x env) (λI N=>aM (aL C.prog C.w) A (tW I) (ya C.prog C.w A W ρ n0 s avs) E N) E s
end
section
variable{h₀:bk}{cfg:dC}{C:fE h₀ cfg}{k:Nat}
variable{prog:fA}{w:cW}{A:cP}{E:aw->ao->Prop}{s:ao}{W:az->Prop}{ρ:List az}{st:St}{n0:Nat}{av:AV}
theorem gC{s N:ao}(e:gK s N){p:az}(h:N.heap.get? p=none):s.heap.get? p=none:=by
 rcases hh:s.heap.get? p with _|o
 ·rfl
 ·refine aI (e.keep.alive _ _ hh) λR h'=>?_;rw[h']at h;injection h
theorem Gc{N:ao}{a:az}{vs:List aw}{avs:List AV}(hh:A.handled=none)(Q:n0<=N.toks)(e:gK s N)(d:j6 W N.heap)(Z:¬W a)(G:cL "list" N.heap a vs)(D:ft W ρ N.heap vs avs):
 aM (aL prog w) A (tW (.ref a)) (ya prog w A W ρ n0 s avs) E N:=by
 refine wpAny_pyIter_list G.isList ?_;have L:a≠N.heap.objs.size:=λe=>by refine aI G λn h=>?_;rw[e,cO]at h;injection h
 have B:vs.toArray.size=avs.length:=D.length;have fr:=cO N.heap;have l:=Walks.list (prog:=prog) (w:=w) (A:=A) hh N.heap.objs.size a L vs.toArray;rw[B]at l;refine⟨Q,e.trans (.of (s:=N) (tk:=N.toks) (bO.push _ _)),N.heap.objs.size,_,_,_,rfl,It.rx l (λW ρ h=>¬W a/\cL "list" h a vs/\ft W ρ h vs avs) ?_ ?_ ?_ ?_,?_,?_,λ_ f=>f.elim⟩
 ·intro W ρ h i v b K m O;refine aC (K.2.2.get O) λR J U=>?_;have:vs[i]? =some v:=by simpa using m
  rw[J]at this;injection this with F;subst F;exact U
 ·intro W W' ρ ρ' h h' o1 hW I X;exact eY o1 λx r z=>aI r λn y=>⟨λq=>(hW _ q).elim x (λq=>by rw[y]at q;injection q),I _ _ _ x ⟨n,y⟩,z.move hW I X⟩
 ·intro W ρ h b K O;simp only[aS,dy,or_false]at O;refine ak O (λH=>?_) λg=>?_;subst H;rotate_left;subst g;rotate_right
  ·exact .inl rfl
  ·exact .inr ⟨K.1,λo M=>by refine aI K.2.1 λn h=>?_;rw[h]at M;injection M with F;subst F;exact i8 rfl⟩
 ·exactλi h j=>aN j λP _=>gB P λo M V u=>⟨o,_,M,jr u (by intro q t;simp),V,by decide⟩
 ·refine⟨⟨⟨_,bV _ rfl,rfl,rfl⟩,G.isList.push _⟩,?_,?_,?_⟩
  ·refineλS=>ak S (λq=>?_) λq=>?_
   ·exact Z q
   ·exact L q
  ·exact aI G λn y=>⟨n,bO.push _ _ _ _ y⟩
  ·exact D.move (λb O=>O.imp id λq=>by subst q;exact fr) (λb T vs _ Y=>aI Y λn y=>⟨n,bO.push _ _ _ _ y⟩) λ_ _ y=>y
 ·intro p c;subst c;exact gC e fr
theorem vk{N:ao}{x:List Nat}{t:nZ}{T:String}{o:hC}(hh:A.handled=none)(Q:n0<=N.toks)(e:gK s N)
 (F: ["enumerate","zip","dict_itemiterator","dict_reverseitemiterator","odict_iterator","itertools.zip_longest","itertools.pairwise"].contains T=false)
 (l:Walks prog w A N.heap.objs.size [N.heap.objs.size] [N.heap.objs.size] (strOf x).cps.size (SignAt (strOf x)) (λi h=>h.IsStrIter N.heap.objs.size T (strOf x) t i))
 (Y:(N.heap.push o).IsStrIter N.heap.objs.size T (strOf x) t 0):
 ya prog w A W ρ n0 s (x.map λc=>.str [c]) (.ref N.heap.objs.size) {N with heap:=N.heap.push o}:=by
 have fr:=cO N.heap;have B:(strOf x).cps.size=(x.map λc=>AV.str [c]).length:=by simp[strOf]
 rw[B]at l;refine⟨Q,e.trans (.of (s:=N) (tk:=N.toks) (bO.push _ _)),N.heap.objs.size,_,_,_,rfl,It.rx l (λW ρ h=>True) ?_ ?_ ?_ ?_,⟨Y,trivial⟩,?_,λz f=>f.elim⟩
 ·intro W ρ h i v q K Z O;refine eb Z λc u V G=>?_;subst G;simp only[nq,dg]at O;refine aC O λd D H=>?_;subst H;have R:x[i]? =some c:=by simpa[strOf]using V
  rw[D]at R;rcases R with⟨⟩;exact .str [c] u
 ·intros;trivial
 ·intro W ρ h b K O;simp only[bS]at O;exact .inl O
 ·exactλi h r=>gB r λo J U S=>⟨o,T,J,jr S (by intro q t;simp),U,F⟩
 ·intro p L;subst L;exact gC e fr
theorem JW{N:ao}{x:List Nat}{t:nZ}(hh:A.handled=none)(Q:n0<=N.toks)(e:gK s N):
 aM (aL prog w) A (tW (.str (strOf x) t)) (ya prog w A W ρ n0 s (x.map λc=>.str [c])) E N:=by
 cases ha:(strOf x).cps.all (·<128)
 ·exact wpAny_pyIter_wide ha (vk hh Q e (by decide) (Walks.strWide hh _ _ t) ⟨_,bV _ rfl,rfl,rfl⟩)
 ·exact wpAny_pyIter_ascii ha (vk hh Q e (by decide) (Walks.strAscii hh _ _ t) ⟨_,bV _ rfl,rfl,rfl⟩)
theorem CD{N:ao}{r:az}{a b c:Int}{t u v:nZ}{avs:List AV}(hh:A.handled=none)(Q:n0<=N.toks)(e:gK s N)(G:IsRange N.heap r a b c t u v)(I:nj a b c=true)
 (g:fK a b c=(avs.length:Int))(X:avs=(gV a c avs.length).map .int):
 aM (aL prog w) A (tW (.ref r)) (ya prog w A W ρ n0 s avs) E N:=by
 refine wpAny_pyIter_range G I ?_;have fr:=cO N.heap;have l:=Walks.range (prog:=prog) (w:=w) (A:=A) hh N.heap.objs.size a c avs.length;refine⟨Q,e.trans (.of (s:=N) (tk:=N.toks) (bO.push _ _)),N.heap.objs.size,_,_,_,rfl,It.rx l (λW ρ h=>True) ?_ ?_ ?_ ?_,?_,?_,λz f=>f.elim⟩
 ·intro W ρ h i v q K m O;refine aI m λt Z=>?_;subst Z;rw[X]at O;simp only[gV,fi,nq,dg]at O;refine aC O λj Y n=>?_;subst n;have:=aQ.mp Y;refine aI this λJ U=>?_;simp at U;subst U;exact .int _ _
 ·intros;trivial
 ·intro W ρ h b K O;simp only[bS]at O;exact .inl O
 ·exactλi h hi=>⟨_,_,hi,jr rfl (λq t=>not_eq_of_beq_eq_false rfl),rfl,by decide⟩
 ·refine⟨?_,trivial⟩;have e1:a+((0:Nat):Int)*c=a:=by simp
  have e2:((avs.length:Int)- ((0:Nat):Int))=fK a b c:=by refine ab g ?_;rfl
  exact ab e1<|ab e2<|bV _ rfl
 ·intro p F;subst F;exact gC e fr
theorem Ki{i:Nat}:oE C k (.a i):=by
 intro K env x loc av avs W ρ n0 st A s E hE hA I M n z V;refine qA V λy p H=>?_;subst H;refine cu (kz (C:=C) (k:=k) K env (.Name y p) loc av W ρ n0 st A s E hE hA I M V) λv N D=>?_;have P:=I.step D;have r3:=D.2.2;rcases r3 with _|b|⟨i,t⟩|⟨x,t⟩|⟨o,G,X⟩|⟨o,G,X⟩|J<;>first|(injection n;done)|skip
 ·refine m8 n λB F=>?_;subst F;exact JW hA.hh D.1 D.2.1
 ·refine m8 n λB F=>?_;subst F;exact Gc hA.hh D.1 D.2.1 P.live o G X
theorem CO{l:List CE}(X:∀e∈l,bU C k e):oE C k (.j l):=by
 intro K env x loc av avs W ρ n0 st A s E hE hA I M n z V;refine vy V λf p xs pos Y=>?_;subst Y;have V:(true&&rn K "range" f&&fV K 0 l xs&& !l.isEmpty)=true:=V;simp only[au]at V;refine aN V λD h=>aN D λH o=>aN H λz c1=>?_;have L:xs≠ []:=by intro S;subst S;(rcases l with _|⟨e,l⟩;(exact(aB h).elim);exact(aB o).elim)
 refine dn M λvs J O=>dn O λm U O=>?_;injection O with F;subst F;simp only[(id yK)]at n;refine m8 n λB F=>?_;subst F;refine dE (lu (v:=.type "range") hE c1 (om rfl) I.base ?_);have Z:=kc o;refine dX (nD Z) (lB Z L ?_);refine bY I.tok<|gW l X _ _ _ _ _ _ _ _ _ _ _ _ _ _ hE hA I J o λvs N P y d=>?_;refineλz=>bY P<|qE d U λa b c t u v r T i R G q g Q X=>?_;exactλj=>CD hA.hh j (y.trans i) G q g X
theorem Wm{h:bk}{a:az}{m d:bj->Option aw}(x:h.Ns a m)(y:h.Ns a d):m=d:=by refine ew λY=>JF x λo es l J U z S=>JF y λR B D f j z t=>?_;rw[J]at f;injection f with F;subst F;rw[U]at j;injection j with F;subst F;refine Y ?_;clear Y;funext n;exact cA (S ..) (cA (t ..) rfl)
def mi(env:fZ)(x:bj)(a:az):Prop:=(env.kindOf x=some .local/\a=env.locals)\/(env.kindOf x=some .cell/\env.cells.lookup x=some a)
theorem vP{env:fZ}{x:bj}{v:aw}{a:az}{Q:Unit->ao->Prop}(I:env.scope.kind=.function)(M:mi env x a)(F:eo env s.heap)
 (h:∀h' tk,lb a s.heap h'->eo env h'->iq env h' x v->(∀y u,y≠x->iq env s.heap y u->iq env h' y u)->(∃o,h'.get? a=some o)->Q () {s with heap:=h',toks:=tk}):
 aM (aL prog w) A (zN env x v) Q E s:=by
 refine ak M (λH=>aN H λX g=>?_) λL=>aN L λX V=>?_;subst g
 ·refine aI F.ns λm T=>wpAny_storeName_local X T (λh' G i=>h _ _ i ⟨⟨_,G⟩,λx c V=>?_,F.apart,F.loc⟩ (.inl ⟨X,_,G,if_pos rfl⟩) (λy u K hh=>?_) ?_) (by refine ab I ?_;rfl)
  ·exact aI (F.cells x c V) λv D=>⟨v,D.sameBut i (F.loc x c V)⟩
  ·rcases hh with⟨J,d,U,S⟩|⟨J,c,U,S⟩
   ·refine .inl ⟨J,_,G,?_⟩;have:d=m:=Wm U T;refine cA this ?_;simpa[K]using S
   ·exact .inr ⟨J,c,U,S.sameBut i (F.loc y c (mem_of_lookup U))⟩
  ·exact m6 G λo z z M z=>⟨o,M⟩
 ·have T:=mem_of_lookup V;refine aI (F.cells _ _ T) λp B=>wpAny_storeName_cell I X V B (λh' R i=>h _ s.toks i ⟨?_,λy c K=>?_,F.apart,F.loc⟩ (.inr ⟨.inl X,a,V,R⟩) (λy u K hh=>?_) ?_)
  ·exact aI F.ns λm Z=>⟨m,Z.sameBut i (ib (F.loc _ _ T))⟩
  ·by_cases e:c=a
   ·exact ab e<|⟨_,R⟩
   ·exact aI (F.cells y c K) λv D=>⟨v,D.sameBut i e⟩
  ·rcases hh with⟨J,d,U,S⟩|⟨J,c,U,S⟩
   ·exact .inl ⟨J,d,U.sameBut i (ib (F.loc _ _ T)),S⟩
   ·refine .inr ⟨J,c,U,S.sameBut i ?_⟩;intro o1;cases o1;exact K (name_of_addr F.apart (mem_of_lookup U) T)
  ·exact aC R λo M z=>⟨o,M⟩
def oF(tab:List bj)(env:fZ)(W:az->Prop)(ρ:List az)(h:bk)(P:Nat->AV->Prop):Prop:=
 ∀i a,P i a->∀x,tab[i]? =some x->∃v,iq env h x v/\VR W ρ h v a
theorem oF.mono{tab:List bj}{env:fZ}{h:bk}{P M:Nat->AV->Prop}(x:oF tab env W ρ h P)(B:∀i a,M i a->P i a):oF tab env W ρ h M:=λi a p=>x i a (B i a p)
theorem oF.move{tab:List bj}{env:fZ}{W':az->Prop}{ρ':List az}{h h':bk}{P:Nat->AV->Prop}(x:oF tab env W ρ h P)(q:∀n v,iq env h n v->iq env h' n v)
 (hW:∀a,W' a->W a\/h.get? a=none)(I:∀b T vs,¬W b->cL T h b vs->cL T h' b vs)(X:∀(n:Nat) (a:az),ρ[n]? =some a->ρ'[n]? =some a):oF tab env W' ρ' h' P:=
 λi a p n Q=>aC (x i a p n Q) λv J U=>⟨v,q _ _ J,U.move hW I X⟩
theorem KO{tab:List bj}(u:tab.Nodup){i j:Nat}{x y:bj}(hi:tab[i]? =some x)(Y:tab[j]? =some y)(L:j≠i):y≠x:=by
 intro r;subst r;refine aI (aQ.mp hi) λJ e1=>?_;refine aI (aQ.mp Y) λU e2=>?_;have S:=mS.mp u;refine ak (MF i j) (λh=>?_) λH=>ak H (λh=>?_) λh=>?_
 ·exact S i j J U h (e1.trans e2.symm)
 ·exact L h.symm
 ·exact S j i U J h (e2.trans e1.symm)
def X7(P:Nat->AV->Prop)(i:Nat)(a:AV):Nat->AV->Prop:=λj b=>(j=i/\b=a)\/(j≠i/\P j b)
structure DK (own:az->Prop) (s s':ao):Prop where
 keep:∀b o,¬own b->s.heap.get? b=some o->s'.heap.get? b=some o
 live:∀b o,s.heap.get? b=some o->∃o',s'.heap.get? b=some o'
 rest:∃h' tk,s'={s with heap:=h',toks:=tk}
theorem DK.refl{own:az->Prop}(s:ao):DK own s s:=⟨λz z z e=>e,λz o e=>⟨o,e⟩,⟨_,_,rfl⟩⟩
theorem DK.trans{own:az->Prop}{a b c:ao}(x:DK own a b)(y:DK own b c):DK own a c:=
 ⟨λp o B e=>y.keep _ _ B (x.keep _ _ B e),λp o e=>aI (x.live p o e) λR h=>y.live p R h,by
  refine ej x.rest λJ t1 j=>?_;subst j;exact ej y.rest λU t2 P=>ab P<|⟨U,t2,rfl⟩⟩
theorem xA{tab:List bj}{env:fZ}{own:az->Prop}{i:Nat}{x:bj}{v:aw}{a:AV}{ad:az}{P:Nat->AV->Prop}{Q:Unit->ao->Prop}(I:env.scope.kind=.function)(N:tab.Nodup)(Z:tab[i]? =some x)
 (M:mi env x ad)(X:own ad)(hW:∀b,own b->W b)(F:eo env s.heap)(m:oF tab env W ρ s.heap P)(D:VR W ρ s.heap v a)
 (h:∀s',DK own s s'->eo env s'.heap->oF tab env W ρ s'.heap (X7 P i a)->Q () s'):aM (aL prog w) A (zN env x v) Q E s:=by
 refine vP I M F λh' tk G V hh c R=>h _ ⟨λb o O e=>?_,λb o e=>?_,⟨_,_,rfl⟩⟩ V ?_
 ·exact G.extBut b o (λe=>O (e▸X)) e
 ·by_cases O:b=ad
  ·exact ab O<|R
  ·exact⟨o,G.extBut b o O e⟩
 ·have B:∀b o,¬W b->s.heap.get? b=some o->h'.get? b=some o:=λb o O e=>G.extBut b o (λe=>O (hW _ (e▸X))) e;refineλj b S y K=>ak S (λH=>aN H λg T=>?_) λd=>aN d λY O=>?_;subst g;refine ab T ?_
  ·rw[Z]at K;injection K with L;subst L;exact⟨v,hh,D.move (λz q=>.inl q) (pS B) λz z e=>e⟩
  ·exact aC (m j b O y K) λu J U=>⟨u,c y u (KO N Z K Y) J,U.move (λz q=>.inl q) (pS B) λz z e=>e⟩
def DL(prog:fA)(w:cW)(A:cP)(E:aw->ao->Prop)(env:fZ)(t:aw->jA Unit)(x:bj):Prop:=
 ∀(v:aw) (Q:Unit->ao->Prop) (s:ao),aM (aL prog w) A (zN env x v) Q E s->aM (aL prog w) A (t v) Q E s
def L7(P:Nat->AV->Prop):List Nat->List AV->Nat->AV->Prop
 |i::I,a::as=>L7 (X7 P i a) I as
 |_,_=>P
theorem Hp{P M:Nat->AV->Prop}(h:∀i a,P i a->M i a):∀(I:List Nat) (as:List AV) (i:Nat) (a:AV),L7 P I as i a->L7 M I as i a:=by
 intro I
 induction I generalizing P M with
 |nil=>exactλz i a x=>h i a x
 |cons j I R=>
  intro as i a x;rcases as with _|⟨b,as⟩
  ·exact h i a x
  ·exact R (λB D y=>y.imp id λy=>⟨y.1,h _ _ y.2⟩) as i a x
theorem xB{tab:List bj}{env:fZ}{own:az->Prop}{Q:Unit->ao->Prop}(I:env.scope.kind=.function)(u:tab.Nodup)(hW:∀b,own b->W b):
 ∀(L:List (Nat×bj×(aw->jA Unit))) (vs:List aw) (avs:List AV) (P:Nat->AV->Prop) (s:ao),
  (∀p∈L,tab[p.1]? =some p.2.1/\(∃ad,mi env p.2.1 ad/\own ad)/\DL prog w A E env p.2.2 p.2.1)->avs.length=L.length->eo env s.heap->oF tab env W ρ s.heap P->ft W ρ s.heap vs avs->
  (∀s',DK own s s'->eo env s'.heap->oF tab env W ρ s'.heap (L7 P (L.map (·.1)) avs)->Q () s')->aM (aL prog w) A (HW (L.map (·.2.2)) vs) Q E s:=by
 intro G
 induction G with
 |nil=>
  intro vs avs P s X B F m D h;rcases D with _|⟨a,b⟩
  ·exact du (h s (.refl s) F m)
  ·injection B
 |cons p L R=>
  intro vs avs P s X B F m D h;cases D with
  |nil=>injection B
  |@cons v a vs' l' a1 b1=>
   refine eY (X p aH) λJ j d=>aC j λad Y S=>ab bI ?_;show aM _ A (do ie vs' (p.2.2 v);HW (L.map (·.2.2)) vs') Q E s;refine bg (gc (d _ _ _ (xA I u J Y S hW F m a1 λN H K T=>?_)));have r:=b1.move (h':=N.heap) (λz q=>Or.inl q) (pS λb o O e=>H.keep b o (λq=>O (hW _ q)) e) λz z e=>e;exact R vs' l' _ N (λq Z=>X q (ax _ Z)) (iZ B) K T r λs' U V M=>h s' (H.trans U) V M
def CV(acc:List Nat)(loc:Loc):Nat->AV->Prop:=λi a=>i∈acc/\loc[i]? =some a/\a≠.c
theorem ni{tab:List bj}{acc:List Nat}{env:fZ}{h:bk}{loc:Loc}:zO tab acc env W ρ h loc↔oF tab env W ρ h (CV acc loc):=
 ⟨λx i a Y n Q=>eY Y λJ U S=>x i J n Q a U S,λx i hi n Q a L N=>x i a ⟨hi,L,N⟩ n Q⟩
theorem xq{acc:List Nat}{loc loc':Loc}{i:Nat}{v:AV}(h:ek loc i v=some loc'):∀j a,CV (acc++ [i]) loc' j a->X7 (CV acc loc) i v j a:=by
 delta ek at h;refine m8 h λhi F=>?_;subst F;refineλj a P=>eY P λJ U S=>?_;by_cases Y:j=i
 ·subst Y;rw[fI hi]at U;injection U with F;subst F;exact .inl ⟨rfl,rfl⟩
 ·rw[ez (ib Y)]at U;refine .inr ⟨Y,?_,U,S⟩;refine ak (dw.mp J) (λq=>?_) λq=>?_
  ·exact q
  ·exact absurd (bS.mp q) Y
theorem tA:∀{I:List Nat} {acc:List Nat} {loc loc':Loc} {vs:List AV},jT loc I vs=some loc'->∀j a,CV (acc++I) loc' j a->L7 (CV acc loc) I vs j a:=by
 intro G
 induction G with
 |nil=>
  intro acc loc loc' H h;rcases H with _|⟨_,_⟩
  ·injection h with F;subst F;intro j a x;rw[ik]at x;exact x
  ·injection h
 |cons i I P=>
  intro acc loc loc' H h;rcases H with _|⟨v,vs⟩
  ·injection h
  ·refine dn h λl1 J U=>?_;intro j a x;have:=P (acc:=acc++ [i]) U j a (by simpa using x);exact Hp (xq J) I vs j a this
theorem lV:∀{I:List Nat} {loc loc':Loc} {vs:List AV},jT loc I vs=some loc'->vs.length=I.length:=by
 intro G
 induction G with
 |nil=>
  intro loc loc' H h;rcases H with _|⟨_,_⟩
  ·exact rfl
  ·injection h
 |cons i I P=>
  intro loc loc' H h;rcases H with _|⟨v,vs⟩
  ·injection h
  ·refine dn h λl1 J U=>?_;simp[P U]
theorem y8{i j:Nat}(L:i≠j){loc:Loc}{a b:AV}:jT loc [i,j] [a,b]=jT loc [j,i] [b,a]:=by simp only[(id Lz),ek,aj];by_cases hi:i<loc.length<;>by_cases Y:j<loc.length<;>simp[hi,Y,List.set_comm _ _ L]
theorem Hl{K:Ck}{names:List (bj×dz)}{env:fZ}{own:az->Prop}(N:∀x,(names.lookup x=some .local\/names.lookup x=some .cell)->∃ad,mi env x ad/\own ad):
 ∀{I:List Nat} {es:List Expr},es.length=I.length->((I.zip es).all λp=>qG K names p.1 p.2)=true->∃L:List (Nat×bj×(aw->jA Unit)),L.map (·.1)=I/\Fp es env=L.map (λp=>(false,p.2.2))/\
  (∀p∈L,K.tab[p.1]? =some p.2.1/\(∃ad,mi env p.2.1 ad/\own ad)/\DL prog w A E env p.2.2 p.2.1):=by
 intro I
 induction I with
 |nil=>
  intro es X z;rcases es with _|⟨e,es⟩
  ·exact⟨[],rfl,rfl,λz h=>(nomatch h)⟩
  ·exact nomatch X
 |cons i I R=>
  intro es X h;rcases es with _|⟨e,es⟩
  ·exact nomatch X
  ·skip
   have U:=ba (a:=qG K names i e) h;refine gB (R (es:=es) (B7 X) U.2) λL e1 e2 c=>cX (ij U.1) λx p S f j=>?_;subst S;refine⟨(i,x,lj (.Name x p) env)::L,congrArg _ e1,by show(false,lj (.Name x p) env)::Fp es env=_;refine ab e2 ?_;rfl,λq D=>?_⟩;refine ak (aS.mp D) (λH=>?_) λD=>?_;subst H
   ·exact⟨f,N x j,λv Q s G=>zJ G⟩
   ·exact c q D
set_option tactic.hygienic true in
theorem qg{K:Ck}{names:List (bj×dz)}{env:fZ}{own:az->Prop}{t:kR}{g:Expr}{v:aw}{acc:List Nat}{loc loc':Loc}{Q:Unit->ao->Prop}
 (hh:A.handled=none)(I:env.scope.kind=.function)(u:K.tab.Nodup)(hW:∀b,own b->W b)(N:∀x,(names.lookup x=some .local\/names.lookup x=some .cell)->∃ad,mi env x ad/\own ad)
 (R:jV K names t g=true)(O:cT loc t av=some loc')(F:eo env s.heap)(H:zO K.tab acc env W ρ s.heap loc)(D:VR W ρ s.heap v av)
 (h:∀s',DK own s s'->eo env s'.heap->zO K.tab (acc++qH t) env W ρ s'.heap loc'->Q () s'):aM (aL prog w) A (lj g env v) Q E s:=by
 rcases t with i|is
 ·refine cX (ij (show qG K names i g=true from R)) λx p m f j=>?_;subst m;refine aC (N x j) λad o1 r=>zJ (xA I u f o1 r hW F (ni.mp H) D λs' U V M=>h s' U V (ni.mpr (M.mono ?_)));exact xq O
 ·refine kB (rN R) λes kk p o7 f j=>?_;subst o7;refine gB (Hl (prog:=prog) (w:=w) (A:=A) (E:=E) N f j) λL e1 e2 c=>?_;rcases D with⟨⟩<;>first|(injection O;done)|skip
  rename_i a vs l J G d;refine aI G λn G=>?_;show aM _ A (do jF p;unpack (.ref a) (Fp es env)) Q E s;refine bg (eA ?_);delta unpack;refine ab e2 ?_;have B:(L.map λp=>(false,p.2.2)).length=vs.toArray.size:=ab (aY ..) (ab eJ (ab d.length (ab (lV O) (cA e1 (ab (aY ..) rfl)))));have S:(L.map λp=>(false,p.2.2)).findIdx? (·.1)=none:=by rw[List.findIdx?_eq_none_iff];refineλx Y=>aC (dZ.mp Y) λy z o8=>?_;subst o8;rfl
  refine ab S<|ab B<|bg (gc (unpackItems_tuple hh ⟨_,G,rfl,n,rfl⟩ λh' Z=>?_));have X:iu s.heap h':=λb o e=>Z b o (λq=>by subst q;rw[cO]at e;injection e) e;have T:(L.map λp=>(false,p.2.2)).map (·.2)=L.map (·.2.2):=by simp[iJ]
  refine ab T<|xB (own:=own) (tab:=K.tab) (P:=CV acc loc) I u hW L vs l _ c (ab (lV O) (cA e1 (ab (aY ..) rfl))) ?_ ?_ (d.keep X.k) λs' U V M=>?_
  ·exact F.by λb o z e z=>X b o e
  ·exact(ni.mp H).move (λn v hh=>hh.keep X.k) (λz q=>.inl q) (λz z z z e=>X.k.seq e) λz z e=>e
  ·refine h s' ((⟨λb o z e=>X b o e,λb o e=>⟨o,X b o e⟩,⟨_,s.toks,rfl⟩⟩:DK own s {s with heap:=h'}).trans U) V (ni.mpr (M.mono ?_));exact ab e1<|tA O
end
section
variable{prog:fA}{w:cW}{A:cP}{E:aw->ao->Prop}{s:ao}{R:M0->ao->Prop}
theorem FU{l y iter:Expr}{m8:List Expr}{scope:cQ}{pos:eO}{it acc:aw}{env:fZ}(I:Nat->ao->Prop)
 (K:∀n s,I n s->aM (aL prog w) A (tX it) (λr N=>match r with
   |none=>R (.ok .next) N
   |some v=>aM (aL prog w) A (gJ y it v) (λz W=>aM (aL prog w) A (lj y env v) (λz T=>
     aM (aL prog w) A (forIn m8 true λc r=>if r=true then do let ok<-mT c env (fe c env);pure (bP ok)else pure (bP r)) (λok X=>
      if ok=true then aM (aL prog w) A (fe l env) (λx F=>
       aM (aL prog w) A (call (.builtin "list.append") [acc,x]) (λz H=>∃m,m<n/\I m H) (DG (aL prog w) A env λe s'=>R (.error e) s') F) (DG (aL prog w) A env λe s'=>R (.error e) s') X
      else∃m,m<n/\I m X) (DG (aL prog w) A env λe s'=>R (.error e) s') T) (DG (aL prog w) A env λe s'=>R (.error e) s') W)
     (DG (aL prog w) A env λe s'=>R (.error e) s') N) (DG (aL prog w) A env λe s'=>R (.error e) s') s)
 (n:Nat)(h:I n s):M4 (aL prog w) A (.compLoop (.ListComp l [⟨y,iter,m8,0⟩] scope pos) 0 it acc env) R s:=by
 refine codeAny_loop rfl I (λn s j=>?_) n h;show aM _ A ((compTurn (.ListComp l [⟨y,iter,m8,0⟩] scope pos) 0 it acc env).onRaise (λx=>do MH x env;rY x)) _ _ s;refine wpAny_noted<|ab (compTurn_list ..)<|bg (eA (bg (aA (K n s j) (λr N D=>?_) λz z h'=>h')));rcases r with _|v
 ·exact du D
 ·refine bg (aA D (λz W C=>?_) λz z h'=>h');refine bg (aA C (λz T V=>bg (aA V (λok X G=>?_) λz z h'=>h')) λz z h'=>h');rcases ok with _|_
  ·exact du ⟨rfl,G⟩
  ·exact bg (bg (aA G (λx F J=>bg (aA J (λz H B=>du (du ⟨rfl,B⟩)) λz z h'=>h')) λz z h'=>h'))
end
section
variable{h₀:bk}{cfg:dC}{C:fE h₀ cfg}{k:Nat}
variable{prog:fA}{w:cW}{A:cP}{E:aw->ao->Prop}{s:ao}{W:az->Prop}{ρ:List az}{st:St}{n0:Nat}{av:AV}
def Al(fr:Bool)(g h:bk)(vs:List aw):Prop:=fr=true->vs.Nodup/\∀v∈vs,∃a,v=.ref a/\g.get? a=none/\∃o,h.get? a=some o
theorem Al.live{fr:Bool}{g h h':bk}{vs:List aw}(x:Al fr g h vs)(X:∀b o,h.get? b=some o->∃R,h'.get? b=some R):Al fr g h' vs:=
 λe=>⟨(x e).1,λv D=>gB ((x e).2 v D) λa J S h=>aI h λo U=>⟨a,J,S,X a o U⟩⟩
def Fy(C:fE h₀ cfg)(k:Nat)(fr:Bool)(e:CE):Prop:=∀(K:Ck) (env:fZ) (x:Expr) (loc:Loc) (av:AV) (W:az->Prop) (ρ:List az) (n0:Nat) (st:St) (A:cP) (s:ao) (E:aw->ao->Prop),
 bZ env K n0->i7 k A->EI h₀ K.tab K.acc env W ρ n0 loc st s->ev cfg st e loc=some av->cz K 0 e x=true->
 aM (aL C.prog C.w) A (fe x env) (λv s'=>wi W ρ n0 s av v s'/\(fr=true->∃a,v=.ref a/\s.heap.get? a=none/\∃o,s'.heap.get? a=some o)) E s
theorem bU.elt{e:CE}(h:bU C k e):Fy C k false e:=λK env x loc av W ρ n0 st A s E J U S d O=>aA (h K env x loc av W ρ n0 st A s E J U S d O) (λv s' r=>⟨r,λe=>nomatch e⟩) λz z e=>e
structure U1 (h₀:bk) (tab:List bj) (cacc:List Nat) (cenv:fZ) (W:az->Prop) (ρ:List az) (n0:Nat) (loc:Loc) (st:St) (I D:az) (S:(az->Prop)->List az->Nat->ao->Prop)
 (own fp:az->Prop) (G:Nat->Prop) (s₀:ao) (fr:Bool) (i:Nat) (out:List AV) (s:ao):Prop where
 ei:EI h₀ tab cacc cenv W ρ n0 loc st s
 frame:eo cenv s.heap
 iter:S W ρ i s
 RS:By (λa=>fp a\/own a\/a=D) G s₀ s
 acc:∃vs,cL "list" s.heap D vs/\ft W ρ s.heap vs out/\Al fr s₀.heap s.heap vs
noncomputable def pU(cfg:dC)(st:St)(e:CE)(t:kR)(q:Loc->Option Bool)(loc:Loc):AV->Option (Option AV):=λv=>do
 let loc'<-cT loc t v
 if<-q loc' then return some (<-ev cfg st e loc')else return none
theorem IS{loc loc':Loc}{t:kR}{v:AV}{i:Nat}(h:cT loc t v=some loc')(hi:i∉qH t):loc'[i]? =loc[i]? :=by
 have many:∀{I:List Nat} {loc loc':Loc} {vs:List AV},jT loc I vs=some loc'->i∉I->loc'[i]? =loc[i]? :=by
  intro I
  induction I with
  |nil=>
   intro loc loc' vs h z;rcases vs with _|⟨v,vs⟩
   ·injection h with e;exact ab e rfl
   ·injection h
  |cons j I R=>
   intro loc loc' vs h hi;rcases vs with _|⟨v,vs⟩
   ·injection h
   ·refine dn h λl1 J U=>ab (R U λq=>hi (ax _ q)) ?_;clear U;dsimp only[ek]at J;split at J<;>(first|(injection J;done)|(injection J with F;subst F));exact ez (λe:j=i=>hi (ab e<|aH))
 rcases t with j|I
 ·simp only[(id sj),ek]at h;split at h<;>(first|(injection h;done)|(injection h with F;subst F));exact ez (λe=>hi (by simp[qH,e]))
 ·rcases v with⟨⟩<;>first|(injection h;done)|skip
  exact many h hi
structure Apart (h₀:bk) (env:fZ) (W:az->Prop) (ρ:List az) (st:St) (X:az->Prop):Prop where
 w:∀p,X p->W p
 base:∀p,X p->h₀.get? p=none
 nR:∀(n:Nat) (l:List AV) (a:az),st[n]? =some (some l)->ρ[n]? =some a->¬X a
 loc:¬X env.locals
 cells:∀x c,(x,c)∈env.cells->¬X c
theorem EI.by{tab:List bj}{acc:List Nat}{env:fZ}{loc:Loc}{s':ao}{X:az->Prop}(B:EI h₀ tab acc env W ρ n0 loc st s)(u:Apart h₀ env W ρ st X)
 (I:cD X s.heap s'.heap)(L:∀p,X p->∃o,s'.heap.get? p=some o)(D:n0<=s'.toks):EI h₀ tab acc env W ρ n0 loc st s' where
 base:=cD.after B.base I λp o e x=>by have:=u.base p x;rw[this]at e;injection e
 live:=λa w=>by
  by_cases Z:X a
  ·exact L a Z
  ·exact aI (B.live a w) λo M=>aC (I a o (.inl Z) M) λR h z=>⟨R,h⟩
 tok:=D
 vars:=λi hi n Q a J U=>by
  refine aC (B.vars i hi n Q a J U) λv S d=>⟨v,?_,d.move (λz q=>.inl q) (y7 I u.w) λz z e=>e⟩;rcases S with⟨P,m,F,t⟩|⟨P,c,F,t⟩
  ·exact .inl ⟨P,m,I.ns u.loc F,t⟩
  ·exact .inr ⟨P,c,F,I.cell (u.cells _ c (mem_of_lookup F)) t⟩
 store:=λn l e=>cX (B.store n l e) λa vs J U S=>⟨a,vs,J,I.seq (u.nR n l a e J) U,S.move (λz q=>.inl q) (y7 I u.w) λz z e=>e⟩
 frame:=B.frame.by λb o O e Q=>I.nt (by refine ak O (λH=>?_) λg=>aI g λx Z=>?_;exact ab H<|u.loc;exact u.cells x b Z) e Q
 nR:=B.nR
theorem Jh{fr:Bool}{K:Ck}{f:fZ}{e:CE}{t:kR}{q:Loc->Option Bool}{elt y iter:Expr}{m8:List Expr}{scope:cQ}{pos:eO}{I D:az}{fp own:az->Prop}{G:Nat->Prop}
 {avs total:List AV}{S:(az->Prop)->List az->Nat->ao->Prop}{names:List (bj×dz)}{cacc:List Nat}{loc:Loc}{s₀:ao}{R:M0->ao->Prop}
 (he:Fy C k fr e)(hA:i7 k A)(hIt:It C.prog C.w A I fp G avs S)(hE:bZ f K n0)(hKacc:K.acc=cacc++qH t)(hdisj:∀i∈cacc,i∉qH t)(hnd:K.tab.Nodup)
 (J:∀loc' r s E,EI h₀ K.tab K.acc f W ρ n0 loc' st s->q loc'=some r->
   aM (aL C.prog C.w) A (forIn m8 true λc r=>if r=true then do let ok<-mT c f (fe c f);pure (bP ok)else pure (bP r)) (sU n0 s r) E s)
 (hec:cz K 0 e elt=true)(hg:jV K names t y=true)(hO:∀x,(names.lookup x=some .local\/names.lookup x=some .cell)->∃ad,mi f x ad/\own ad)
 (hXf:Apart h₀ f W ρ st fp)(hWo:∀p,own p->W p)(hob:∀p,own p->h₀.get? p=none)(hor:∀(n:Nat) (l:List AV) (a:az),st[n]? =some (some l)->ρ[n]? =some a->¬own a)(Q:Apart h₀ f W ρ st (·=D))(hDo:¬own D)(hDf:¬fp D)(hfo:∀p,fp p->¬own p)(hoe:∀p,own p->p=f.locals\/∃x,(x,p)∈f.cells)
 (hG:∀g,G g->g<s₀.gens.size)(hcap:avs.length<=20000)(htot:gm (pU cfg st e t q loc) avs=some total)
 (hR:∀s',n0<=s'.toks->By (λa=>fp a\/own a\/a=D) G s₀ s'->eo f s'.heap->(∃vs,cL "list" s'.heap D vs/\ft W ρ s'.heap vs total/\(fr=true->vs.Nodup/\∀v∈vs,∃a,v=.ref a/\s₀.heap.get? a=none))->R (.ok .next) s')
 (hinv:U1 h₀ K.tab cacc f W ρ n0 loc st I D S own fp G s₀ fr 0 [] s):
 M4 (aL C.prog C.w) A (.compLoop (.ListComp elt [⟨y,iter,m8,0⟩] scope pos) 0 (.ref I) (.ref D) f) R s:=by
 refine FU (λn s=>∃i out rest,n=avs.length-i+1/\i<=avs.length/\out.length<=i/\U1 h₀ K.tab cacc f W ρ n0 loc st I D S own fp G s₀ fr i out s/\gm (pU cfg st e t q loc) (avs.drop i)=some rest/\out++rest=total) ?_ (avs.length-0+1)
  ⟨0,[],total,rfl,bz _,aV _,hinv,htot,rfl⟩
 refineλn s o2=>QO o2 λi out rest o3 hi hout V hr ht=>?_;clear o2;refine cA o3 ?_;by_cases hlt:i<avs.length
 ·refine ew λY=>?_;obtain⟨a,L⟩:∃a,avs[i]? =some a:=⟨avs[i],by simp[hlt]⟩;rw[dF hlt]at hr;have hai:avs[i]=a:=by simpa[hlt]using L
  rw[hai]at hr;simp only[(id ql),aj,bF]at hr;refine aC hr λob hf hr=>?_;dsimp only[pU]at hf;simp only[aj,bF]at hf;obtain⟨loc',O,b,hq,hfe⟩:=hf;refine Y ?_;clear Y;refine bY V.ei.tok (aA (hIt.next W ρ i a s _ L hXf.w V.ei.live V.iter) (λr N h₁=>?_) λz z e z=>e);refine D7 h₁ λv o5 by₁ vr₁ H=>?_;clear h₁;subst o5;intro P;have ei₁:=V.ei.by hXf by₁.keep (λp hp=>hIt.alive _ _ _ _ H p hp) P;have fr₁:eo f N.heap:=V.frame.by λb o O e hn=>by₁.keep.nt (by refine ak O (λu1=>?_) λu2=>aI u2 λx Z=>?_;exact ab u1<|hXf.loc;exact hXf.cells x b Z) e hn;refine hIt.own _ _ _ _ _ _ _ _ H<|bY P (qg hA.hh hE.kind hnd hWo hO hg O fr₁ ei₁.vars vr₁ λT sto₂ fr₂ v₂ t₂=>?_);have hg2:T.gens=N.gens:=by refine ej sto₂.rest λh' tk o6=>?_;subst o6;rfl
  have ho2:T.os=N.os:=by refine ej sto₂.rest λh' tk o7=>?_;subst o7;rfl
  have ks:cD own N.heap T.heap:=.of sto₂.keep λb o O e=>fr₁.Xp (hoe b O) e;have ei₂:EI h₀ K.tab K.acc f W ρ n0 loc' st T:=by
   refine⟨cD.after ei₁.base ks (λb o e x=>by have:=hob b x;rw[this]at e;injection e),λp hp=>?_,t₂,hKacc▸v₂,λn l e=>?_,fr₂,ei₁.nR⟩
   ·exact aI (ei₁.live p hp) λo M=>sto₂.live p o M
   ·exact cX (ei₁.store n l e) λa vs h1 o8 h3=>aI o8 λm U=>⟨a,vs,h1,⟨m,sto₂.keep _ _ (hor n l a e h1) U⟩,h3.move (λz q=>.inl q) (pS λb o O e=>sto₂.keep b o (λx=>O (hWo b x)) e) λz z e=>e⟩
  have by₂:By (λa=>fp a\/own a\/a=D) G s₀ T:=(V.RS.trans (by₁.weaken (λp hp=>.inl hp) λz g=>g)).trans ⟨ks.weaken λp h=>.inr (.inl h),ho2,ab hg2<|aV _,λg z z=>ab hg2 rfl,ab hg2<|id⟩;have S₂:S W ρ (i+1) T:=hIt.frame W W ρ ρ _ _ _ H (λz q=>.inl q) (λb o O e z=>sto₂.keep b o (λx=>by refine ak O (λO=>?_) λO=>?_;exact O (hWo b x);exact hfo b O x) e) (λz z e=>e) (λg z=>ab hg2 rfl);refine gB V.acc λvs o9 dv al=>aI o9 λm dl=>?_;clear o9;have al₂:Al fr s₀.heap T.heap vs:=(al.live (h':=N.heap) λb o e=>by
   by_cases O:fp b
   ·exact hIt.alive _ _ _ _ H b O
   ·exact aC (by₁.keep b o (.inl O) e) λo' h z=>⟨o',h⟩).live sto₂.live
  have D₂:cL "list" T.heap D vs:=⟨m,sto₂.keep _ _ hDo (by₁.keep.nt hDf dl (i8 rfl))⟩;clear hDo;have dv₂:ft W ρ T.heap vs out:=(dv.move (h':=N.heap) (λz q=>.inl q) (y7 by₁.keep hXf.w) λz z e=>e).move (λz q=>.inl q) (pS λb o O e=>sto₂.keep b o (λx=>O (hWo b x)) e) λz z e=>e;have stepX:∀{X F:ao} {vs out},By (λa=>fp a\/own a\/a=D) G s₀ X->S W ρ (i+1) X->eo f X.heap->cL "list" X.heap D vs->ft W ρ X.heap vs out->gK X F->
   By (λa=>fp a\/own a\/a=D) G s₀ F/\S W ρ (i+1) F/\eo f F.heap/\cL "list" F.heap D vs/\ft W ρ F.heap vs out:=by
   intro X F vs out b3 i3 f3 d3 w3 e;refine⟨b3.trans (.jQ e),hIt.frame W W ρ ρ _ _ _ i3 (λz q=>.inl q) (λb o z h hn=>e.keep.nt h hn) (λz z h=>h) (λg hg=>e.gens g ((λby' g hg=>be (hG g hg) by'.hJ) b3 g hg)),f3.by λb o z h hn=>e.keep.nt h hn,e.keep.seq d3,w3.keep e.keep⟩
  have back:∀{X:ao},EI h₀ K.tab K.acc f W ρ n0 loc' st X->EI h₀ K.tab cacc f W ρ n0 loc st X:=λe3=>⟨e3.base,e3.live,e3.tok,λj hj n hn a h1 U=>e3.vars j (hKacc▸fo _ hj) n hn a ((IS O (hdisj j hj)).trans h1) U,e3.store,e3.frame,e3.nR⟩;refine aA (J loc' b T _ ei₂ hq) (λok X h₃=>?_) λz z e=>e;clear hq;refine ew λY=>eY h₃ λo10 t₃ e₃=>?_;subst o10;have ei₃:=ei₂.ext e₃ t₃;refine ri (stepX by₂ S₂ fr₂ D₂ dv₂ e₃) λby₃ S₃ fr₃ D₃ dv₃=>Y ?_;clear Y;clear by₂;have al₃:Al fr s₀.heap X.heap vs:=al₂.live λb o e=>e₃.keep.alive b o e;rcases ok with _|_
  ·simp only[bx,if_false,aJ,bL]at hfe⊢;subst hfe;exact⟨avs.length- (i+1)+1,by grind,i+1,out,rest,rfl,hlt,ox hout,⟨back ei₃,fr₃,S₃,by₃,vs,D₃,dv₃,al₃⟩,hr,ht⟩
  ·simp only[if_true,bF,aJ,bL]at hfe⊢;refine ew λY=>aC hfe λae hev o11=>?_;subst o11;refine dn hr λrest' hr' hz_=>?_;have o12:=ay hz_;subst o12
   refine Y ?_;clear Y;refine aA (he _ _ _ _ _ _ _ _ _ _ _ _ hE hA ei₃ hev hec) (λx F r₄=>?_) λz z e=>e;clear hec;refine ew λY=>aN r₄ λr₄ fx=>?_;have ei₄:=ei₃.step r₄;refine ri (stepX by₃ S₃ fr₃ D₃ dv₃ r₄.2.1) λby₄ S₄ fr₄ o13 dv₄=>aI o13 λm' D₄=>Y ?_;clear Y;clear stepX;have hsz:vs.toArray.size<=mJ:=by
    have e1:vs.toArray.size=out.length:=dv.length;have e2:mJ=16777216:=by rfl
    lia
   refine bY r₄.1 (wpAny_list_append_plain (items:=vs.toArray) ⟨m',D₄⟩ (λB hl₅ hs₅=>?_) hsz);clear hsz;intro t₅;have k₅:∀b o,¬b=D->F.heap.get? b=some o->B.get? b=some o:=λb o O e=>hs₅.extBut b o O e;clear hs₅;have k5x:cD (·=D) F.heap B:=.of k₅ λb o O e=>by
    have O:b=D:=O;cases O;rw[D₄]at e;injection e with e_;subst e_;exact yP rfl
   have D₅:cL "list" B D (vs++ [x]):=aI hl₅ λm d=>⟨m,by simpa using d⟩;have ei₅:EI h₀ K.tab K.acc f W ρ n0 loc' st {F with heap:=B}:=ei₄.by Q k5x (λp hp=>ab hp<|aI D₅ λm d=>⟨_,d⟩) t₅;clear t₅;refine⟨avs.length- (i+1)+1,by grind,i+1,out++ [ae],rest',rfl,hlt,by simp;exact oi.mp hout,⟨back ei₅,fr₄.by λb o O e z=>k₅ b o (by refine ak O (λu1=>?_) λu2=>aI u2 λx Z=>?_;exact ab u1<|Q.loc;exact Q.cells x b Z) e,?_,?_,vs++ [x],D₅,?_,?_⟩,hr',by simpa using ht⟩
   ·exact hIt.frame W W ρ ρ _ _ _ S₄ (λz q=>.inl q) (λb o O e z=>k₅ b o (λx=>by cases x;refine ak O (λO=>?_) λO=>?_;exact O (Q.w _ rfl);exact hDf O) e) (λz z e=>e) (λg z=>rfl)
   ·exact by₄.trans ⟨k5x.weaken λp h=>.inr (.inr h),rfl,aV _,λz z z=>rfl,id⟩
   ·exact(dv₄.append (.cons r₄.2.2 .nil)).move (λz q=>.inl q) (pS λb o O e=>k₅ b o (λx=>O (Q.w b x)) e) λz z e=>e
   ·refineλhfr=>ew λY=>?_;obtain⟨a,rfl,L,o4,ho4⟩:=fx hfr;refine aN (al₃ hfr) λn1 n2=>Y ?_;clear Y;have lv:∀b o,F.heap.get? b=some o->∃o',B.get? b=some o':=λb o e=>by
     by_cases O:b=D
     ·exact ab O<|aI D₅ λm d=>⟨_,d⟩
     ·exact⟨o,k₅ b o O e⟩
    refine⟨MD.mpr ⟨n1,by simp,λv hv u hu=>?_⟩,λv hv=>?_⟩
    ·refine ab (bS.mp hu) ?_;intro o14;subst o14;obtain⟨b,O,hb0,o,M⟩:=n2 _ hv;injection O with e_;subst e_;rw[L]at M;injection M
    ·refine ak (dw.mp hv) (λhv=>?_) λhv=>?_
     ·refine ew λY=>?_;obtain⟨b,O,hb0,o,M⟩:=n2 _ hv;refine aI (r₄.2.1.keep.alive b o M) λo' ho'=>Y ?_;clear Y;exact⟨b,O,hb0,lv b o' ho'⟩
     ·have hv:=bS.mp hv;refine ab hv<|⟨a,rfl,?_,lv a o4 ho4⟩;rcases h0:s₀.heap.get? a with _|o0
      ·rfl
      ·exfalso;have:∃o,X.heap.get? a=some o:=by
        by_cases hX:fp a\/own a\/a=D
        ·refine ak hX (λhX=>?_) λu1=>ak u1 (λhX=>?_) λhX=>?_
         ·exact ei₃.live a (hXf.w a hX)
         ·exact ei₃.live a (hWo a hX)
         ·exact ei₃.live a (Q.w a hX)
        ·exact aC (by₃.keep a o0 (.inl hX) h0) λo' h z=>⟨o',h⟩
       refine aI this λo h=>?_;rw[L]at h;injection h
 ·have hil:i=avs.length:=by lia
  subst hil;simp only[oe,(id ql),bL]at hr;subst hr;rw[ik]at ht;cases ht;refine bY V.ei.tok (aA (hIt.done W ρ s _ hXf.w V.ei.live V.iter) (λr N h₁=>?_) λz z e z=>e);refine aN h₁ λo15 by₁=>ab o15 ?_;refineλP=>gB V.acc λvs o16 dv al=>aI o16 λm dl=>hR N P (V.RS.trans (by₁.weaken (λp hp=>.inl hp) λz g=>g)) (V.frame.by λb o O e hn=>by₁.keep.nt (by refine ak O (λu1=>?_) λu2=>aI u2 λx Z=>?_;exact ab u1<|hXf.loc;exact hXf.cells x b Z) e hn) ⟨vs,⟨m,by₁.keep.nt hDf dl (i8 rfl)⟩,?_,λe=>⟨(al e).1,λv hv=>gB ((al e).2 v hv) λa h h3 z=>⟨a,h,h3⟩⟩⟩;exact dv.move (λz q=>.inl q) (y7 by₁.keep hXf.w) λz z e=>e
end
section
variable{prog:fA}{w:cW}{A:cP}{E:aw->ao->Prop}{s:ao}
noncomputable def n8(env:fZ):List (bj×dz)->List (bj×az)->List (bj×az)
 | [],acc=>acc
 |(n,k)::r,acc=>if k==.free then n8 env r ((n,(env.cells.lookup n).getD 0)::acc)else n8 env r acc
theorem NB:(∀env acc,n8 env [] acc=(acc))/\
 (∀env n k r acc,n8 env ((n,k)::r) acc=(if k==.free then n8 env r ((n,(env.cells.lookup n).getD 0)::acc)else n8 env r acc)):=⟨by intros;rfl,by intros;rfl⟩
theorem qk{scope:cQ}{env:fZ}(h:∀n,(n,dq)∈scope.names->∃c,env.cells.lookup n=some c):closureFor scope env=pure (n8 env scope.names []):=by
 have S:∀(names:List (bj×dz)) (acc:List (bj×az)),(∀n,(n,dq)∈names->∃c,env.cells.lookup n=some c)->
  (forIn names acc (λ(x:bj×dz) (L:List (bj×az))=>(if x.2==dq then do let c<-cellOf env x.1;pure (bP ((x.1,c)::L))else pure (bP L):jA (ForInStep (List (bj×az))))))=pure (n8 env names acc):=by
  intro names
  induction names with
  |nil=>intro acc z;rfl
  |cons x r R=>
   intro acc hh;obtain⟨n,k⟩:=x;refine ab (P9 ..) ?_;simp only[(id NB)];by_cases I:k=.free
   ·subst I;refine aI (hh n aH) λc V=>?_;simp only[beq_self_eq_true,if_true];unfold cellOf;refine ab V ?_;simp only[pure_bind,Option.getD_some];exact R _ λm T=>hh m (ax _ T)
   ·have O:(k==dq)=false:=by simpa using I
    simp only[O,bx,if_false,pure_bind];exact R _ λm T=>hh m (ax _ T)
 delta closureFor;have:=S scope.names [] h;simp only[bind_pure_comp]at this⊢;refine ab (show(forIn scope.names [] _:jA (List (bj×az)))=pure (n8 env scope.names [])from this) ?_;rfl
set_option tactic.hygienic true in
theorem uf{env:fZ}:∀{names:List (bj×dz)} {acc:List (bj×az)} {n:bj} {c:az},(∀n,(n,dq)∈names->∃c,env.cells.lookup n=some c)->(n,c)∈n8 env names acc->
 (n,c)∈acc\/((n,dq)∈names/\env.cells.lookup n=some c):=by
 intro G
 induction G with
 |nil=>
  intro acc n c z h;exact .inl h
 |cons C r P=>
  rcases C with⟨m,k⟩;intro acc n c hh h;simp only[(id NB)]at h;split at h
  ·rename_i I;have I:k=.free:=of_decide_eq_true I;subst I;refine ak (P (λn Q=>hh n (ax _ Q)) h) (λh=>?_) λH=>aN H λJ U=>?_
   ·refine ak (aS.mp h) (λe=>?_) λh=>?_
    ·rcases e with⟨⟩;refine aI (hh m aH) λc V=>.inr ⟨aH,by refine ab V ?_;rfl⟩
    ·exact .inl h
   ·exact .inr ⟨ax _ J,U⟩
  ·refine ak (P (λn Q=>hh n (ax _ Q)) h) (λh=>?_) λH=>aN H λJ U=>?_
   ·exact .inl h
   ·exact .inr ⟨ax _ J,U⟩
set_option tactic.hygienic true in
theorem yo{env:fZ}:∀{names:List (bj×dz)} {acc:List (bj×az)} {n:bj},((n,dq)∈names\/∃c,(n,c)∈acc)->∃c,(n,c)∈n8 env names acc:=by
 intro G
 induction G with
 |nil=>
  intro acc n h;exact h.elim (λx=>nomatch x) id
 |cons C r P=>
  rcases C with⟨m,k⟩;intro acc n h;simp only[(id NB)];split
  ·rename_i I;refine P<|ak h (λh=>?_) λH=>aI H λc h=>?_
   ·refine ak (aS.mp h) (λe=>?_) λh=>?_
    ·injection e with F;subst F;exact .inr ⟨_,aH⟩
    ·exact .inl h
   ·exact .inr ⟨c,ax _ h⟩
  ·rename_i I;refine P<|ak h (λh=>?_) λh=>?_
   ·refine ak (aS.mp h) (λe=>?_) λh=>?_
    ·rcases e with⟨⟩;simp at I
    ·exact .inl h
   ·exact .inr h
set_option tactic.hygienic true in
theorem wU{env:fZ}(L:env.cells.Pairwise λx y=>x.2≠y.2):∀{names:List (bj×dz)} {acc:List (bj×az)},(∀n,(n,dq)∈names->∃c,env.cells.lookup n=some c)->
 (names.map (·.1)).Nodup->acc.Pairwise (λx y=>x.2≠y.2)->(∀n c,(n,c)∈acc->env.cells.lookup n=some c/\n∉names.map (·.1))->(n8 env names acc).Pairwise λx y=>x.2≠y.2:=by
 intro names acc hh Q B X
 induction names generalizing acc with
 |nil=>exact B
 |cons q r R=>
  rcases q with⟨m,k⟩;have G:=eT.mp Q;simp only[(id NB)];split
  ·rename_i I;have I:k=.free:=by simpa using I
   subst I;refine aI (hh m aH) λc V=>ab V<|R (λn Z=>hh n (ax _ Z)) G.2 (fO.mpr ⟨λy F e=>?_,B⟩) λn t Z=>?_
   ·refine aN (X y.1 y.2 F) λJ U=>?_;have C:c=y.2:=e;have:=name_of_addr L (mem_of_lookup V) (C▸mem_of_lookup J);exact U (by refine cA this ?_;simp)
   ·refine ak (aS.mp Z) (λe=>?_) λZ=>?_
    ·rcases e with⟨⟩;exact⟨V,G.1⟩
    ·exact⟨(X n t Z).1,λq=>(X n t Z).2 (ax _ q)⟩
  ·exact R (λn Z=>hh n (ax _ Z)) G.2 B λn t Z=>⟨(X n t Z).1,λq=>(X n t Z).2 (ax _ q)⟩
theorem jc:∀(names:List (bj×dz)) (n:Nat) (acc:List (bj×az)),dO n names acc=dO n names []++acc:=by
 intro G
 induction G with
 |nil=>
  exactλn acc=>rfl
 |cons C r R=>
  rcases C with⟨m,k⟩;intro n acc;unfold dO;split
  ·exact ab (R (n+1) ((m,n)::acc))<|ab (R (n+1) [(m,n)])<|List.append_cons (dO (n+1) r []) (m,n) acc
  ·exact R n acc
set_option tactic.hygienic true in
theorem wB:∀{names:List (bj×dz)} {n:Nat} {acc:List (bj×az)} {x:bj} {c:az},(x,c)∈dO n names acc->(x,c)∈acc\/(x,wg)∈names:=by
 intro G
 induction G with
 |nil=>
  intro z z z z h;exact .inl h
 |cons C r P=>
  rcases C with⟨m,k⟩;intro n acc x c h;unfold dO at h;split at h
  ·rename_i I;have I:k=.cell:=of_decide_eq_true I;subst I;refine ak (P h) (λh=>?_) λh=>?_
   ·refine ak (aS.mp h) (λe=>?_) λh=>?_
    ·injection e with F;subst F;exact .inr aH
    ·exact .inl h
   ·exact .inr (ax _ h)
  ·refine ak (P h) (λh=>?_) λh=>?_
   ·exact .inl h
   ·exact .inr (ax _ h)
set_option tactic.hygienic true in
theorem mL:∀{names:List (bj×dz)} {n:Nat} {acc:List (bj×az)} {x:bj},((x,wg)∈names\/∃c,(x,c)∈acc)->∃c,(x,c)∈dO n names acc:=by
 intro G
 induction G with
 |nil=>
  intro z z z h;exact h.elim (λx=>nomatch x) id
 |cons C r P=>
  rcases C with⟨m,k⟩;intro n acc x h;unfold dO;split
  ·refine P<|ak h (λh=>?_) λH=>aI H λc h=>?_
   ·refine ak (aS.mp h) (λe=>?_) λh=>?_
    ·injection e with F;subst F;exact .inr ⟨_,aH⟩
    ·exact .inl h
   ·exact .inr ⟨c,ax _ h⟩
  ·rename_i I;refine P<|ak h (λh=>?_) λh=>?_
   ·refine ak (aS.mp h) (λe=>?_) λh=>?_
    ·rcases e with⟨⟩;simp at I
    ·exact .inl h
   ·exact .inr h
theorem hK:∀{l:List (bj×az)} {n:bj} {c:az},(n,c)∈l->∃t,l.lookup n=some t:=by
 intro l n c h
 induction l with
 |nil=>exact absurd h dy
 |cons q r R=>
  rcases q with⟨m,d⟩;refine ab fa ?_;rcases hb:n==m with _|_
  ·refine ak (aS.mp h) (λe=>?_) λh=>R h;injection e with F;subst F;simp at hb
  ·exact⟨d,rfl⟩
theorem AQ:∀{l:List (bj×az)} {n:bj},(∀c,(n,c)∉l)->l.lookup n=none:=by
 intro G
 induction G with
 |nil=>
  intro n z;exact rfl
 |cons C r P=>
  rcases C with⟨m,d⟩;intro n h;refine ab fa ?_;rcases hb:n==m with _|_
  ·exact P λc V=>h c (ax _ V)
  ·exact absurd (ab (beq_iff_eq.mp hb)<|aH) (h d)
theorem vF:∀{l r:List (bj×az)} {n:bj},(l++r).lookup n=(l.lookup n).or (r.lookup n):=by
 intro G
 induction G with
 |nil=>
  intro r n;rfl
 |cons C l P=>
  rcases C with⟨m,d⟩;intro r n;refine ab da (ab fa (ab fa ?_));rcases n==m with _|_
  ·exact P
  ·rfl
noncomputable def QE(scope:cQ)(cl:List (bj×az))(L:az)(env:fZ):fZ:=
 {scope:=scope,locals:=L,globals:=env.globals,cells:=dO (L+1) scope.names cl,qual:=env.qual,func:=none,code:=env.code,frame:=env.frame,builtins:=env.builtins}
theorem GD{scope:cQ}{cl:List (bj×az)}{env:fZ}{Q:fZ->ao->Prop}
 (h:Q (QE scope cl s.heap.objs.size env) {s with heap:=pushCells (s.heap.push {cls:=.type "dict",data:=.dict #[]}) scope.names}):
 aM (aL prog w) A (YU scope env.globals cl [] env.qual none .none (some env)) Q E s:=by
 simp only[YU,HT,if_true];refine bg (wpAny_alloc ?_);refine bg (wpAny_layCells _ (λname kind cells=>by cases hkc:kind==wg<;>rfl) _ _ _ _ ?_);exact ab (show({s with heap:=s.heap.push {cls:=.type "dict",data:=.dict #[]}}:ao).heap.objs.size=s.heap.objs.size+1 from tF ..)<|bg (du (du h))
end
section
variable{h₀:bk}{cfg:dC}{C:fE h₀ cfg}{k:Nat}
variable{prog:fA}{w:cW}{A:cP}{E:aw->ao->Prop}{s:ao}{W:az->Prop}{ρ:List az}{st:St}{n0:Nat}{av:AV}
theorem nQ{N:List (bj×dz)}{scope:cQ}{x:bj}:(oY N scope).lookup x=(scope.names.lookup x).map λk=>if k==.free&&N.lookup x==some .cell then .cell else k:=by
 delta oY
 induction scope.names with
 |nil=>rfl
 |cons p r R=>
  obtain⟨n,k⟩:=p;refine ab bI ?_;show List.lookup x ((if(k==.free&&N.lookup n==some .cell)=true then(n,.cell)else(n,k))::_)=_;rcases hx:x==n with _|_
  ·by_cases V:(k==.free&&N.lookup n==some .cell)=true
   ·refine ab (if_pos V) ?_;simp only[fa,hx];exact R
   ·refine ab (if_neg V) ?_;simp only[fa,hx];exact R
  ·have e:=beq_iff_eq.mp hx;subst e;refine ab pN ?_;by_cases V:(k==.free&&N.lookup x==some .cell)=true
   ·simp only[if_pos V,pN,aK]
   ·simp only[if_neg V,pN,aK]
structure Cd (K:Ck) (sc:cQ):Prop where
 kind:sc.kind=.function
 co:sc.isCoroutine=false
 Q:(sc.names.map (·.1)).Nodup
 free:∀n,(n,dq)∈sc.names->K.names.lookup n=some .cell\/K.names.lookup n=some .free
 look:∀n k,(n,k)∈sc.names->sc.names.lookup n=some k
theorem Lv{K:Ck}{u:cQ}(h:ku K u=true):Cd K u:=by
 delta ku at h;simp only[au,beq_iff_eq,fv,decide_eq_true_eq,aq]at h;refine aN h λo1 O=>aN o1 λH d=>aN H λg S=>aN g λJ U=>⟨J,S,d,λn Q=>?_,λn k Q=>?_⟩
 ·have:=O _ Q;simpa using this.1
 ·have:=O _ Q;exact this.2
theorem wR{K:Ck}{env:fZ}{u:cQ}(hE:bZ env K n0)(G:Cd K u){x:bj}(Z:u.names.lookup x=some .free){I:Prop}(N:∀c,env.cells.lookup x=some c->(∀L,(dO L u.names (n8 env u.names [])).lookup x=some c)->I):I:=by
 have B:∀n,(n,dq)∈u.names->∃c,env.cells.lookup n=some c:=λn Q=>hE.cB n (by delta iM;exact ab hE.names<|G.free n Q);have T:=mem_of_lookup Z;refine aI (B x T) λc V=>N c V (λL=>?_);refine ab (jc ..) (ab vF ?_);rewrite[AQ (l:=dO L u.names [])]
 ·refine aI (yo (env:=env) (acc:= []) (.inl T)) λt R=>aI (hK R) λJ D=>ak (uf B (mem_of_lookup D)) (λh=>?_) λH=>aN H λz h=>?_
  ·rcases h with⟨⟩
  ·rw[V]at h;injection h with F;subst F;refine ab D ?_;rfl
 ·refineλd M=>ak (wB M) (λh=>?_) λh=>?_
  ·rcases h with⟨⟩
  ·have:=G.look _ _ h;rw[Z]at this;injection this with F;injection F
noncomputable abbrev uO(u:cQ)(cl:List (bj×az))(L:az)(env:fZ):fZ:={QE u cl L env with scope:=ph u env}
theorem uX{K:Ck}{env:fZ}{u:cQ}{t:kR}{L:az}(hE:bZ env K n0)(G:Cd K u):bZ (uO u (n8 env u.names []) L env) (fP K u t) n0:=by
 have Q:(ph u env).names=oY K.names u:=by unfold ph oY;simp only[hE.kind,iM,hE.names,beq_self_eq_true,nx]
 refine⟨hE.tk,G.kind,Q,hE.glob,hE.bi,G.co,λx Z=>?_,hE.Q⟩;have B:(oY K.names u).lookup x=some .cell\/(oY K.names u).lookup x=some .free:=cA Q<|Z;rw[nQ]at B;rcases hl:u.names.lookup x with _|F
 ·rw[hl]at B;simp at B
 ·by_cases P:F=.free
  ·subst P;exact wR hE G hl λc z h=>⟨c,h _⟩
  ·rw[hl]at B;have O:(F==dq)=false:=by simpa using P
   simp only[aK,O,mE,bx,if_false,bL]at B;refine ak B (λh=>?_) λh=>?_
   ·subst h;exact aI (mL (n:=L+1) (acc:=n8 env u.names []) (.inl (mem_of_lookup hl))) λc V=>hK V
   ·exact absurd h P
def ownOf(u:cQ)(L:az):az->Prop:=λp=>p=L\/∃x,(x,p)∈dO (L+1) u.names []
theorem KW{K:Ck}{env:fZ}{u:cQ}{L:az}(hE:bZ env K n0)(G:Cd K u){x:bj}(Z:u.names.lookup x=some .local\/u.names.lookup x=some .cell):
 ∃ad,mi (uO u (n8 env u.names []) L env) x ad/\ownOf u L ad:=by
 have Q:(ph u env).names=oY K.names u:=by unfold ph oY;simp only[hE.kind,iM,hE.names,beq_self_eq_true,nx]
 have I:∀F,u.names.lookup x=some F->F≠.free->(uO u (n8 env u.names []) L env).kindOf x=some F:=by
  intro F h P;show(ph u env).names.lookup x=_;have O:(F==dq)=false:=by simpa using P
  refine ab Q (ab nQ (ab h ?_));simp only[aK,O,mE,bx,if_false]
 refine ak Z (λZ=>?_) λZ=>?_
 ·exact⟨L,.inl ⟨I _ Z (by decide),rfl⟩,.inl rfl⟩
 ·refine aI (mL (n:=L+1) (acc:= []) (.inl (mem_of_lookup Z))) λc V=>aI (hK V) λt R=>⟨t,.inr ⟨I _ Z (by decide),?_⟩,.inr ⟨x,mem_of_lookup R⟩⟩;show(dO (L+1) u.names _).lookup x=_;refine ab (jc ..) (ab vF (ab R ?_));rfl
set_option tactic.hygienic true in
theorem vp{K:Ck}{u:cQ}{t:kR}{i:Nat}:(i∈K.acc.filter λi=>match K.tab[i]? with
 |some x=>u.names.lookup x==some .free&&(K.names.lookup x==some .cell||K.names.lookup x==some .free)
 |none=>false)->i∈K.acc/\∃x,K.tab[i]? =some x/\u.names.lookup x=some .free/\(K.names.lookup x=some .cell\/K.names.lookup x=some .free):=by
 refineλh=>aN (Qa.mp h) λJ U=>⟨J,?_⟩;split at U
 ·rename_i x Z;simp only[au,beq_iff_eq,fy]at U;exact⟨x,Z,U⟩
 ·exact(aB U).elim
theorem L0{K:Ck}{names:List (bj×dz)}{t:kR}{g:Expr}(h:jV K names t g=true):∀i∈qH t,∃x,K.tab[i]? =some x/\(names.lookup x=some .local\/names.lookup x=some .cell):=by
 have many:∀{I:List Nat} {es:List Expr},es.length=I.length->((I.zip es).all λp=>qG K names p.1 p.2)=true->∀i∈I,∃x,K.tab[i]? =some x/\(names.lookup x=some .local\/names.lookup x=some .cell):=by
  intro I
  induction I with
  |nil=>intro es z z i hi;cases hi
  |cons j I R=>
   intro es X h i hi;cases es with
   |nil=>injection X
   |cons e es=>
    have U:=ba (a:=qG K names j e) h;refine ak (aS.mp hi) (λH=>?_) λhi=>?_;subst H
    ·exact eb (ij U.1) λx p z g=>⟨x,g⟩
    ·exact R (B7 X) U.2 i hi
 cases t with
 |bX i=>
  refine eb (ij (show qG K names i g=true from h)) λx p z g=>?_;exactλj Y=>ab (bS.mp Y)<|⟨x,g⟩
 |many I=>
  exact kB (rN h) λes u p z f B=>many f B
theorem qX{fr:Bool}{K:Ck}{env:fZ}{e:CE}{t:kR}{q:Loc->Option Bool}{elt tg iter:Expr}{m8:List Expr}{u:cQ}{pos pos':eO}{loc:Loc}{avs total:List AV}{use:Option (aw->jA Unit)}{Q:aw->ao->Prop}
 (hE:bZ env K n0)(hA:i7 k A)(I:EI h₀ K.tab K.acc env W ρ n0 loc st s)(he:Fy C k fr e)
 (hiter:aM (aL C.prog C.w) A (fe iter env) (λxv N=>aM (aL C.prog C.w) A (tW xv) (ya C.prog C.w A W ρ n0 s avs) E N) E s)
 (htests:∀f W' loc' r s E,bZ f (fP K u t) n0->EI h₀ K.tab (fP K u t).acc f W' ρ n0 loc' st s->q loc'=some r->
   aM (aL C.prog C.w) A (forIn m8 true λc r=>if r=true then do let ok<-mT c f (fe c f);pure (bP ok)else pure (bP r)) (sU n0 s r) E s)
 (hfs:∀x,jg iter env x=pure x)(hec:cz (fP K u t) 0 e elt=true)(hg:jV K u.names t tg=true)(hs:Cd K u)(hcap:avs.length<=20000)
 (V:gm (pU cfg st e t q loc) avs=some total)
 (hQ:∀D L s',n0<=s'.toks->gK s s'->s.heap.get? L=none->s.heap.get? D=none->L≠D->(∃m,s'.heap.Ns L m)->(∃vs,cL "list" s'.heap D vs/\ft (λa=>W a\/a=L) ρ s'.heap vs total/\(fr=true->vs.Nodup/\∀v∈vs,∃a,v=.ref a/\s.heap.get? a=none))->
   compPost (aL C.prog C.w) A E use Q (.ref D) L (.ok .next) s'):
 aM (aL C.prog C.w) A (comprehension (.ListComp elt [⟨tg,iter,m8,0⟩] u pos) u env pos' (newList []) false (fe iter env) use) Q E s:=by
 have hall:∀n,(n,dq)∈u.names->∃c,env.cells.lookup n=some c:=λn hn=>hE.cB n (by delta iM;exact ab hE.names<|hs.free n hn);refine wpAny_comprehension_free (g:=⟨tg,iter,m8,0⟩) (gs:= []) rfl hfs (qk hall) hs.kind (λx Z hl=>by have:=hs.look x.1 x.2 Z;simp only[hl]at this;exact this)
  (aA hiter (λxv N h₁=>aA h₁ (λit T h₂=>?_) λz z e=>e) λz z e=>e)
 refine ew λY=>?_;obtain⟨ht2,e2,Ia,fp,G,S,rfl,hIt,hS,hfp,hG⟩:=h₂;refine Y ?_;clear Y;refine xY (GD ?_);generalize hH2:T.heap.push {cls:=.type "list",dict:=none,data:=.seq ([]:List aw).toArray}=H2;have hL:H2.objs.size=T.heap.objs.size+1:=cA hH2 (ab (tF ..) rfl);generalize hh4:pushCells (H2.push {cls:=.type "dict",data:=.dict #[]}) u.names=d;have k2:iu T.heap H2:=λb o e=>hH2▸cC _ e;have k4:iu H2 d:=λb o e=>hh4▸Ye _ _ b o (cC _ e);have k24:iu T.heap d:=λb o e=>k4 b o (k2 b o e);have dead:∀p,T.heap.objs.size<=p->T.heap.get? p=none:=λp B=>by
  rcases e:T.heap.get? p with _|R
  ·rfl
  ·exact absurd (gN e) (i5.mpr B)
 have dead1:∀p,T.heap.objs.size<=p->s.heap.get? p=none:=λp B=>gC e2 (dead p B);have mX:∀p,s.heap.get? p=none->h₀.get? p=none:=λp B=>by
  rcases e:h₀.get? p with _|R
  ·rfl
  ·refine aI (bO.alive I.base p R e) λo2 U=>?_;rw[U]at B;injection B
 have ok:CellsOk d (H2.objs.size+1) (dO (H2.objs.size+1) u.names []):=by have:=cellsFrom_ok u.names (H2.push {cls:=.type "dict",data:=.dict #[]}) (H2.objs.size+1) [] ⟨λz z hm=>absurd hm dy,tI⟩ (ab (tF ..)<|aV _);rw[tF,hh4]at this;exact this
 have nsL:d.Ns H2.objs.size (λz=>none):=hh4▸(bk.Ns.new H2 (.type "dict")).keeps (Ye _ _);have ownge:∀p,ownOf u H2.objs.size p->T.heap.objs.size<p:=by
  refineλp o3=>ak o3 (λH=>?_) λu2=>aI u2 λx Z=>?_;refine ab H ?_
  ·exact ab hL<|og _
  ·have:=(ok.empty x p Z).2;lia
 have ownalive:∀p,ownOf u H2.objs.size p->∃o,d.get? p=some o:=by
  refineλp o4=>ak o4 (λH=>?_) λu2=>aI u2 λx Z=>?_;refine ab H ?_
  ·exact m6 nsL λo z z M z=>⟨o,M⟩
  ·exact aC ((ok.empty x p Z).1) λo M z=>⟨o,M⟩
 have hDD:cL "list" d T.heap.objs.size []:=⟨0,k4 _ _ (hH2▸bV _ rfl)⟩;have fpalive:∀p,fp p->∃o,T.heap.get? p=some o:=hIt.alive _ _ _ _ hS;have P:∀a,(W a\/fp a\/a=T.heap.objs.size\/ownOf u H2.objs.size a)->W a\/s.heap.get? a=none:=by
  refineλa o5=>ak o5 (λh=>?_) λH=>ak H (λh=>?_) λu2=>ak u2 (λu3=>?_) λh=>?_;rotate_left 2;refine ab u3 ?_;rotate_right 2
  ·exact .inl h
  ·exact .inr (hfp a h)
  ·exact .inr (dead1 _ (aV _))
  ·exact .inr (dead1 _ (cm (ownge a h)))
 have k04:bO s.heap d:=e2.keep.trans k24.k;have cellalive:∀x c,(x,c)∈n8 env u.names []->env.cells.lookup x=some c:=λx c Z=>by
  refine ak (uf hall Z) (λh=>?_) λH=>aN H λz h=>?_
  ·rcases h with⟨⟩
  ·exact h
 have cellsplit:∀x c,(x,c)∈dO (H2.objs.size+1) u.names (n8 env u.names [])->(x,c)∈dO (H2.objs.size+1) u.names []\/(x,c)∈n8 env u.names []:=λx c Z=>by
  rw[jc]at Z;exact dw.mp Z
 have oldcell:∀x c,(x,c)∈n8 env u.names []->∃o,s.heap.get? c=some o:=λx c Z=>eb (I.frame.cells x c (mem_of_lookup (cellalive x c Z))) λv o M z=>⟨o,M⟩;have frm:eo (uO u (n8 env u.names []) H2.objs.size env) d:=by
  refine⟨⟨_,nsL⟩,λx c Z=>?_,?_,λx c Z=>?_⟩
  ·refine ak (cellsplit x c Z) (λh=>?_) λh=>?_
   ·exact⟨_,(ok.empty x c h).1⟩
   ·exact aI (I.frame.cells x c (mem_of_lookup (cellalive x c h))) λv hv=>⟨v,k04.cell hv⟩
  ·show(dO (H2.objs.size+1) u.names (n8 env u.names [])).Pairwise _;refine ab (jc ..)<|Fg.mpr ⟨ok.apart,wU I.frame.apart hall hs.Q .nil (λn c Z=>by rcases Z with⟨⟩),λx Z y hy e=>?_⟩;refine aI (oldcell y.1 y.2 hy) λo M=>?_;have:=ownge x.2 (.inr ⟨x.1,Z⟩);simp only[e]at this;rw[dead1 _ (cm this)]at M;injection M
  ·show c≠H2.objs.size;refine ak (cellsplit x c Z) (λh=>?_) λh=>?_
   ·exact oB (ok.empty x c h).2
   ·refine aI (oldcell x c h) λo M=>?_;intro hc;rw[hc,dead1 H2.objs.size (ab hL<|nu _)]at M;injection M
 have alive2:∀a,(W a\/fp a\/a=T.heap.objs.size\/ownOf u H2.objs.size a)->∃o,d.get? a=some o:=by
  refineλa o6=>ak o6 (λh=>?_) λH=>ak H (λh=>?_) λu2=>ak u2 (λu3=>?_) λh=>?_;rotate_left 2;refine ab u3 ?_;rotate_right 2
  ·exact aI (I.live a h) λo M=>k04.alive _ _ M
  ·exact aI (fpalive a h) λo M=>⟨o,k24 _ _ M⟩
  ·exact aI hDD λn h=>⟨_,h⟩
  ·exact ownalive a h
 have ei:EI h₀ K.tab (K.acc.filter λi=>match K.tab[i]? with
  |some x=>u.names.lookup x==some .free&&(K.names.lookup x==some .cell||K.names.lookup x==some .free)
  |none=>false) (uO u (n8 env u.names []) H2.objs.size env) (λa=>W a\/fp a\/a=T.heap.objs.size\/ownOf u H2.objs.size a) ρ n0 loc st {T with heap:=d}:=by
  refine⟨I.base.trans k04,alive2,ht2,λi hi n hn a J U=>?_,λn l e=>?_,frm,λn l a O e=>.inl (I.nR n l a O e)⟩
  ·obtain⟨g1,x,j,g3,g4⟩:=vp (t:=t) hi;rw[hn]at j;injection j with F;subst F;refine aC (I.vars i g1 n hn a J U) λv h3 h4'=>⟨v,.inr ⟨?_,?_⟩,h4'.move P (λz z z z e=>k04.seq e) λz z e=>e⟩
   ·have hn':(ph u env).names=oY K.names u:=by
     unfold ph oY;simp only[hE.kind,iM,hE.names,beq_self_eq_true,nx]
    show(ph u env).names.lookup n=_\/(ph u env).names.lookup n=_;refine ab hn'<|ab nQ<|ab g3<|ak g4 (λg4=>?_) λg4=>?_<;>simp[g4]
   ·rcases h3 with⟨q1,_⟩|⟨_,c,q2,q3⟩
    ·delta iM at q1;rw[hE.names]at q1;refine ak g4 (λg4=>?_) λg4=>?_<;>(rw[g4]at q1;injection q1 with F;injection F)
    ·refine wR hE hs g3 λc' c1 c2=>?_;rw[q2]at c1;injection c1 with F;subst F;exact⟨c,c2 _,k04.cell q3⟩
  ·exact cX (I.store n l e) λa vs J U h3=>⟨a,vs,J,k04.seq U,h3.move P (λz z z z e=>k04.seq e) λz z e=>e⟩
 have notdead:∀{a:az},(∃o,s.heap.get? a=some o)->s.heap.get? a=none->False:=λh0 h'=>aI h0 λo h=>by rw[h]at h';injection h'
 have cells':∀X:az->Prop,(∀p,X p->s.heap.get? p=none)->(∀p,X p->¬ownOf u H2.objs.size p)->∀x c,(x,c)∈(uO u (n8 env u.names []) H2.objs.size env).cells->¬X c:=λX J U x c Z hX=>by
  refine ak (cellsplit x c Z) (λh=>?_) λh=>?_
  ·exact U c hX (.inr ⟨x,h⟩)
  ·exact notdead (oldcell x c h) (J c hX)
 have fpown:∀p,fp p->¬ownOf u H2.objs.size p:=λp B M=>by
  refine aI (fpalive p B) λo h=>?_;rw[dead p (cm (ownge p M))]at h;injection h
 have Down:∀p,p=T.heap.objs.size->¬ownOf u H2.objs.size p:=λp B M=>by have:=ownge p M;lia
 have S4:S (λa=>W a\/fp a\/a=T.heap.objs.size\/ownOf u H2.objs.size a) ρ 0 {T with heap:=d}:=
  hIt.frame _ _ _ _ 0 _ _ hS (λa h=>by
   refine ak h (λh=>?_) λH=>ak H (λh=>?_) λu2=>ak u2 (λu3=>?_) λh=>?_;rotate_left 2;refine ab u3 ?_;rotate_right 2
   ·exact .inl (.inl h)
   ·exact .inl (.inr h)
   ·exact .inr (dead _ (aV _))
   ·exact .inr (dead _ (cm (ownge a h)))) (λb o z e z=>k24 b o e) (λz z e=>e) λz z=>rfl
 have loop:M4 (aL C.prog C.w) A (.compLoop (.ListComp elt [⟨tg,iter,m8,0⟩] u pos) 0 (.ref Ia) (.ref T.heap.objs.size) (uO u (n8 env u.names []) H2.objs.size env))
  (compPost (aL C.prog C.w) A E use Q (.ref T.heap.objs.size) H2.objs.size) {T with heap:=d}:=by
  refine Jh (fr:=fr) (K:=fP K u t) (W:=λa=>W a\/fp a\/a=T.heap.objs.size\/ownOf u H2.objs.size a) (ρ:=ρ) (n0:=n0) (fp:=fp) (own:=ownOf u H2.objs.size) (names:=u.names) (loc:=loc) (st:=st) (q:=q) (t:=t) (s₀:={T with heap:=d}) he hA hIt (uX hE hs) rfl ?_ hE.Q
   (λloc' r s E J U=>htests _ _ loc' r s E (uX hE hs) J U) hec hg (λx Z=>KW hE hs Z) ?_ (λp B=>.inr (.inr (.inr B))) (λp B=>mX p (dead1 p (cm (ownge p B)))) ?_ ?_ (Down _ rfl) ?_ fpown (λp B=>B.imp id λo1_=>aI o1_ λx Z=>⟨x,by show(x,p)∈dO (H2.objs.size+1) u.names (n8 env u.names []);exact ab (jc ..)<|fo _ Z⟩)
   (λg hg=>(hG g hg).2) hcap V ?_ ⟨ei,frm,S4,.refl _,[],hDD,.nil,λz=>⟨Rv,λv hv=>nomatch hv⟩⟩
  ·intro i hi hi';obtain⟨g1,x,j,g3,g4⟩:=vp (t:=t) hi;refine aC (L0 hg i hi') λx' J U=>?_;rw[j]at J;injection J with F;subst F;rw[g3]at U;exact absurd U (by decide)
  ·exact⟨λp B=>.inr (.inl B),λp B=>mX p (hfp p B),λn l a O e B=>notdead ((λn l a O e=>I.live a (I.nR n l a O e)) n l a O e) (hfp a B),λB=>fpown _ B (.inl rfl),cells' _ hfp fpown⟩
  ·exactλn l a O e M=>notdead ((λn l a O e=>I.live a (I.nR n l a O e)) n l a O e) (dead1 a (cm (ownge a M)))
  ·refine⟨λp B=>.inr (.inr (.inl B)),λp B=>mX p (dead1 p (tQ B.symm)),λn l a O e B=>notdead ((λn l a O e=>I.live a (I.nR n l a O e)) n l a O e) (dead1 a (tQ B.symm)),λB=>?_,cells' _ (λp B=>dead1 p (tQ B.symm)) Down⟩;have B:H2.objs.size=T.heap.objs.size:=B;lia
  ·refineλB=>aI (fpalive _ B) λo h=>?_;rw[cO]at h;injection h
  ·refineλs' t' by' F' o7=>gB o7 λvs hD' hv' hnd'=>hQ _ _ s' t' ⟨λb o e=>?_,?_,?_,λg hg=>?_,λh=>by'.bare (e2.bare h)⟩ (dead1 H2.objs.size (ab hL<|nu _)) (dead1 _ (aV _)) (ab hL<|Nat.succ_ne_self _) F'.ns ⟨vs,hD',hv'.move (λa h=>.inl (h.imp id λh=>.inr (.inr (.inl h)))) (λz z z z e=>e) λz z e=>e,λe=>⟨(hnd' e).1,λv hv=>aC ((hnd' e).2 v hv) λa J U=>⟨a,J,by
    rcases h0:s.heap.get? a with _|o
    ·rfl
    ·refine aI (k04.alive a o h0) λR h'=>?_;rw[h']at U;injection U⟩⟩⟩
   ·refine aC (k04 b o e) λo1 J g1=>?_;have hX:¬(fp b\/ownOf u H2.objs.size b\/b=T.heap.objs.size):=by
     refineλo8=>ak o8 (λh=>?_) λH=>ak H (λh=>?_) λh=>?_
     ·exact notdead ⟨o,e⟩ (hfp b h)
     ·exact notdead ⟨o,e⟩ (dead1 b (cm (ownge b h)))
     ·exact notdead ⟨o,e⟩ (dead1 b (tQ h.symm))
    exact aC (by'.keep b o1 (.inl hX) J) λo2 U j=>⟨o2,U,g1.trans j λc q=>by'.keep.code⟩
   ·exact by'.os.trans e2.os
   ·exact aP e2.hJ by'.hJ
   ·refine(by'.gens g (be hg e2.hJ) λh=>?_).trans (e2.gens g hg);exact absurd (hG g h).1 (jE.mpr hg)
 exact codeAny_compStart_list loop (hIt.self _ _ _ _ _ _ S4 loop)
theorem mm{f g:AV->Option (Option AV)}(h:∀v,f v=g v):∀l,gm f l=gm g l:=by have:f=g:=funext h;exactλl=>ab this rfl
theorem lQ{l:List AV}(h:fQ st av=some l):l.length<=20000:=by
 rcases av with⟨⟩<;>first|(injection h;done)|skip
 ·refine m8 h λB F=>?_;subst F;exact ab (aY ..)<|aP B (by decide)
 ·refine m8 h λB F=>?_;subst F;exact aP B (by decide)
theorem Gk{M:CE->Prop}{it:CE}(h:Ek it=true)(m:∀i,M (.a i))(K:∀l,M (.j l))(T:∀a,M (.M a)):M it:=
 (jm.mp h).elim (λh=>CE.Vr (motive_1:=M) it (eq_of_beq h) m) λh=>(jm.mp h).elim (λh=>CE.Jm (motive_1:=M) it (eq_of_beq h) K) λh=>CE.Se (motive_1:=M) it (eq_of_beq h) T
theorem lD{K:Ck}{it:CE}{i:Expr}{env:fZ}(hi:Ek it=true)(h:cz K 2 it i=true):∀x,jg i env x=pure x:=by
 revert h;refine Gk (M:=λit=>cz K 2 it i=true->_) hi (λj h=>?_) (λl h=>?_) λa h=>?_
 ·refine qA h λx p e=>ab e ?_;intro x;rfl
 ·refine vy h λf p D pos e=>ab e ?_;intro x;rfl
 ·refine vt h λf p y pos e=>ab e ?_;intro x;rfl
theorem uP{K':Ck}{c:CE}{y:Expr}{loc':Loc}{r:Bool}{f:fZ}{W':az->Prop}(V:iz C k c)(hA:i7 k A)(hE:bZ f K' n0)(I:EI h₀ K'.tab K'.acc f W' ρ n0 loc' st s)
 (Q:xH c=true)(B:cz K' 1 c y=true)(D:(do cU st (<-ev cfg st c loc'))=some r):
 aM (aL C.prog C.w) A (forIn [y] true λc r=>if r=true then do let ok<-mT c f (fe c f);pure (bP ok)else pure (bP r)) (sU n0 s r) E s:=dn D λa J U=>wpAny_tests_one (V _ _ _ _ _ _ _ _ _ _ _ _ _ hE hA I J U Q B)
theorem wX{D L:az}{m:bj->Option aw}{s':ao}{l:List AV}{h':bk}{vs:List aw}(I:j6 W s.heap)(t':n0<=s'.toks)(B:gK s s')(X:s.heap.get? L=none)(R:s.heap.get? D=none)(U:L≠D)
 (G:cL "list" s'.heap D vs)(F:ft (λa=>W a\/a=L) ρ s'.heap vs l)(i:lb L s'.heap h')(T:s'.heap.Ns L m):wi W ρ n0 s (.lst l) (.ref D) {s' with heap:=h'}:=by
 refine aI G λn G=>?_;have k0:bO s.heap h':=cD.after B.keep (cD.Wl T i) λp o e q=>by have q:p=L:=q;subst q;rw[X]at e;injection e
 refine⟨t',⟨k0,B.os,B.hJ,B.gens,B.bare⟩,.lst (I.fresh R) ⟨n,i.extBut _ _ (ib U) G⟩ (F.move (λa h=>.inl (.inl h)) (pS λb o O e=>i.extBut b o (λq=>O (.inr q)) e) λz z e=>e)⟩
theorem Mc{e it:CE}{t:kR}(Z:bU C k e)(hi:oE C k it):bU C k (.comp e t it):=by
 intro K env x loc av W ρ n0 st A s E hE hA I M V;refine ew λY=>Oj V λx b i u pos o1=>?_;subst o1;have V:(cz (fP K u t) 0 e x&&jV K u.names t b&&cz K 2 it i&&Ek it&&ku K u)=true:=V;have H:=(ba V).2;refine dn M λg J M=>dn M λavs U M=>dn M λl S M=>Y ?_;clear Y;refine cA (ay M)<|qX (q:=λz=>some true) (e:=e) (t:=t) hE hA I Z.elt (hi _ _ _ _ _ _ _ _ _ _ _ _ _ hE hA I J U ((ba (ba V).1).2) ((ba (ba (ba V).1).1).2)) (λf W' loc' r s E J U S=>?_) (lD ((ba (ba V).1).2) ((ba (ba (ba V).1).1).2)) ((ba (ba (ba (ba V).1).1).1).1) ((ba (ba (ba (ba V).1).1).1).2) (Lv H) (lQ U) (total:=l) ?_ ?_
 ·injection S with F;subst F;exact Cb ⟨rfl,U.tok,.refl _⟩
 ·refine cA S<|mm (λv=>?_) avs;rfl
 ·exactλD L s' t' B X R N Q j=>aI Q λm T=>gB j λvs G P z=>⟨m,T,λh' O=>wX I.live t' B X R N G P O T⟩
theorem Hr{e it c:CE}{t:kR}(Z:bU C k e)(hi:oE C k it)(Q:iz C k c):bU C k (.z e t it c):=by
 intro K env x loc av W ρ n0 st A s E hE hA I M V;refine ew λY=>Eg V λx b i y u pos P=>?_;subst P;have V:(cz (fP K u t) 0 e x&&jV K u.names t b&&cz K 2 it i&&Ek it&&xH c&&cz (fP K u t) 1 c y&&ku K u)=true:=V;have o:=(ba (ba (ba (ba (ba V).1).1).1).1).2;have h:=(ba (ba (ba (ba V).1).1).1).2;have H:=(ba V).2;refine dn M λg J M=>dn M λavs U M=>dn M λl S M=>Y ?_;clear Y;refine cA (ay M)<|qX (q:=λloc'=>do cU st (<-ev cfg st c loc')) (e:=e) (t:=t) hE hA I Z.elt (hi _ _ _ _ _ _ _ _ _ _ _ _ _ hE hA I J U h o) (λf W' loc' r s E J U S=>uP Q hA J U ((ba (ba (ba V).1).1).2) ((ba (ba V).1).2) S) (lD h o) ((ba (ba (ba (ba (ba (ba V).1).1).1).1).1).1) ((ba (ba (ba (ba (ba (ba V).1).1).1).1).1).2) (Lv H) (lQ U) (total:=l) ?_ ?_
 ·refine cA S<|mm (λv=>?_) avs;delta pU;simp only[aj,MG,aJ]
 ·exactλD L s' t' B X R F a d=>aI a λm T=>gB d λvs G O z=>⟨m,T,λh' N=>wX I.live t' B X R F G O N T⟩
end
section
variable{h₀:bk}{cfg:dC}{C:fE h₀ cfg}{k:Nat}
theorem Nn{K:Ck}{o p:kF}{a b c:CE}{x:Expr}:cz K 0 (.C o p a b c) x=false:=ju λz=>rfl
theorem Nm{K:Ck}{a:CE}{x:Expr}:cz K 0 (.B a) x=false:=ju λz=>rfl
theorem Nl{K:Ck}{a:List CE}{x:Expr}:cz K 0 (.band a) x=false:=ju λz=>rfl
theorem RT{K:Ck}{a:List CE}{x:Expr}:cz K 0 (.bor a) x=false:=ju λz=>rfl
theorem FL{K:Ck}{a:List CE}{x:Expr}:cz K 0 (.j a) x=false:=ju λz=>rfl
theorem Nq{K:Ck}{a:CE}{x:Expr}:cz K 0 (.M a) x=false:=ju λz=>rfl
theorem Np{K:Ck}{a:CE}{x:Expr}:cz K 0 (.J a) x=false:=ju λz=>rfl
theorem nT{e:CE}(h:∀K x,cz K 0 e x=false):bU C k e:=λK env x loc av W ρ n0 st A s E z z z z V=>absurd (h K x) (by refine ab V ?_;decide)
theorem cg{e:CE}(h:xH e=false):iz C k e:=λK env x loc av r W ρ n0 st A s E z z z z z Q z=>absurd h (by refine ab Q ?_;decide)
theorem bM{e:CE}(h:Ek e=false):oE C k e:=λK env x loc av r W ρ n0 st A s E z z z z z Q z=>absurd h (by refine ab Q ?_;decide)
structure Hand (C:fE h₀ cfg) (k:Nat):Prop where
 o:Qm C k cfg.O
 rev:∀a,bU C k a->oE C k (.M a)
theorem sv(H:Hand C k)(e:CE):bU C k e/\iz C k e/\oE C k e:=
 CE.rec (motive_1:=λe=>bU C k e/\iz C k e/\oE C k e) (motive_2:=λl=>∀e∈l,bU C k e/\iz C k e)
  ⟨Mj,cg rfl,bM rfl⟩
  (λz=>⟨vX,cg rfl,bM rfl⟩)
  (λz=>⟨EX,cg rfl,bM rfl⟩)
  (λz=>⟨uq,cg rfl,bM rfl⟩)
  (λz=>⟨kz,vS,Ki⟩)
  (λz=>⟨Mf,cg rfl,bM rfl⟩)
  (λz z z B D=>⟨EW B.1 D.1,cg rfl,bM rfl⟩)
  (λz B=>⟨PO B.1,cg rfl,bM rfl⟩)
  (λz B=>⟨PM B.1,cg rfl,bM rfl⟩)
  (λz z B D=>⟨PQ B.1 D.1,cg rfl,bM rfl⟩)
  (λz z z B D=>⟨PK B.1 D.1,Bp B.1 D.1,bM rfl⟩)
  (λz z z z z B D ch=>⟨nT λz z=>Nn,Hj B.1 D.1 ch.1,bM rfl⟩)
  (λz B=>⟨nT λz z=>Nm,LX B.2.1,bM rfl⟩)
  (λz A=>⟨nT λz z=>Nl,LW (λe h=>(A e h).2),bM rfl⟩)
  (λz A=>⟨nT λz z=>RT,PE (λe h=>(A e h).2),bM rfl⟩)
  (λz z z F B D=>⟨PL F.2.1 B.1 D.1,cg rfl,bM rfl⟩)
  (λz A=>⟨Mi (λe h=>(A e h).1),cg rfl,bM rfl⟩)
  (λz A=>⟨Hv (λe h=>(A e h).1),cg rfl,bM rfl⟩)
  (λz z B R=>⟨PS B.1 R.1,cg rfl,bM rfl⟩)
  (λz z B R=>⟨EY B.1 R.1,LY B.1 R.1,bM rfl⟩)
  (λz z B R=>⟨EZ B.1 R.1,LZ B.1 R.1,bM rfl⟩)
  (λz z z B R I=>⟨PR B.1 R.1 I.1,cg rfl,bM rfl⟩)
  (λz B=>⟨PN B.1,cg rfl,bM rfl⟩)
  (λz A=>⟨Dm (λe h=>(A e h).1),cg rfl,bM rfl⟩)
  (λz B=>⟨Ma B.1,cg rfl,bM rfl⟩)
  (λz B=>⟨Mb B.1,cg rfl,bM rfl⟩)
  (λz z B D=>⟨Hq B.1 D.1,cg rfl,bM rfl⟩)
  (λz B=>⟨Me B.1,cg rfl,bM rfl⟩)
  (λz B=>⟨Dn B.1,cg rfl,bM rfl⟩)
  (λz B=>⟨Md B.1,cg rfl,bM rfl⟩)
  (λz B=>⟨L9 B.1,cg rfl,bM rfl⟩)
  (λz z B D=>⟨Dl B.1 D.1,cg rfl,bM rfl⟩)
  (λz B=>⟨Hu B.1,cg rfl,bM rfl⟩)
  (λz B=>⟨Hw B.1,cg rfl,bM rfl⟩)
  (λz z z B=>⟨Mk B.1,cg rfl,bM rfl⟩)
  (λz B=>⟨Mh B.1,cg rfl,bM rfl⟩)
  (λz z B D=>⟨Ht B.1 D.1,cg rfl,bM rfl⟩)
  (λz B=>⟨Dk B.1,cg rfl,bM rfl⟩)
  (λz B=>⟨Mg B.1,cg rfl,bM rfl⟩)
  (λz B=>⟨Hs B.1,cg rfl,bM rfl⟩)
  (λz z A=>⟨Bw H.o (λe h=>(A e h).1),Hi (Bw H.o (λe h=>(A e h).1)),bM rfl⟩)
  (λz z z G E=>⟨Mc G.1 E.2.2,cg rfl,bM rfl⟩)
  (λz z z z G E ch=>⟨Hr G.1 E.2.2 ch.2.1,cg rfl,bM rfl⟩)
  (λz A=>⟨nT λz z=>FL,cg rfl,CO (λe h=>(A e h).1)⟩)
  (λa B=>⟨nT λz z=>Nq,cg rfl,H.rev a B.1⟩)
  (λz z=>⟨nT λz z=>Np,cg rfl,bM rfl⟩)
  (λz h=>nomatch h) (λa l B A e h=>ak (aS.mp h) (λh=>ab h ⟨B.1,B.2.1⟩) (A e)) e
theorem UD(H:Hand C k)(l:List CE):∀e∈l,bU C k e:=λe z=>(sv H e).1
end
section
variable{h₀:bk}{cfg:dC}{C:fE h₀ cfg}{k:Nat}
variable{prog:fA}{w:cW}{A:cP}{E:aw->ao->Prop}{s s' s₀:ao}{W W' W0:az->Prop}{ρ ρ':List az}{st st':St}{n0:Nat}{av:AV}{K:Ck}{env:fZ}{loc loc':Loc}
def j7(env:fZ):az->Prop:=λp=>p=env.locals\/∃x,(x,p)∈env.cells
def Mu(env:fZ)(ρ:List az)(st:St):az->Prop:=λp=>j7 env p\/∃(n:Nat) (l:List AV),st[n]? =some (some l)/\ρ[n]? =some p
structure Rp (h₀:bk) (K:Ck) (env:fZ) (n0:Nat) (W0:az->Prop) (s₀:ao) (loc:Loc) (st:St) (W:az->Prop) (ρ:List az) (s:ao):Prop where
 ei:EI h₀ K.tab K.acc env W ρ n0 loc st s
 own:∀p,j7 env p->W p
 len:ρ.length=st.length
 inj:∀(n m:Nat) (l l':List AV) (p:az),st[n]? =some (some l)->st[m]? =some (some l')->ρ[n]? =some p->ρ[m]? =some p->n=m
 me:∀(n:Nat) (l:List AV) (p:az),st[n]? =some (some l)->ρ[n]? =some p->¬j7 env p
 new:∀p,Mu env ρ st p->s₀.heap.get? p=none
 ext:gK s₀ s
 w0:∀p,W0 p->W p
 b0:bO h₀ s₀.heap
 l0:j6 W0 s₀.heap
structure j8 (env:fZ) (ρ:List az) (st:St) (W:az->Prop) (s:ao) (ρ':List az) (st':St) (W':az->Prop) (s':ao):Prop where
 w:∀p,W' p->W p\/s.heap.get? p=none
 wk:∀p,W p->(∃o,s.heap.get? p=some o)->¬Mu env ρ st p->W' p
 mu:∀p,Mu env ρ' st' p->Mu env ρ st p\/s.heap.get? p=none
 nR:∀(n:Nat) (a:az),ρ[n]? =some a->ρ'[n]? =some a
 keep:cD (Mu env ρ st) s.heap s'.heap
 alive:∀b o,s.heap.get? b=some o->∃o',s'.heap.get? b=some o'
 os:s'.os=s.os
 hJ:s.gens.size<=s'.gens.size
 gens:∀g,g<s.gens.size->s'.gens[g]? =s.gens[g]?
 bare:wa s.gens->wa s'.gens
theorem rk{h h':bk}{p:az}(X:∀b o,h.get? b=some o->∃R,h'.get? b=some R)(Q:h'.get? p=none):h.get? p=none:=by
 rcases e:h.get? p with _|o
 ·rfl
 ·refine aI (X p o e) λR U=>?_;rw[U]at Q;injection Q
theorem j8.trans{D H P:List az}{G I S:St}{Y Z i:az->Prop}{N T X:ao}(x:j8 env D G Y N H I Z T)(y:j8 env H I Z T P S i X):j8 env D G Y N P S i X where
 w:=λp B=>(y.w p B).elim (x.w p) λh=>.inr (rk x.alive h)
 wk:=λp B L l=>y.wk p (x.wk p B L l) (aI L λo h=>x.alive p o h) λq=>(x.mu p q).elim l λh=>by refine aI L λo M=>?_;rw[h]at M;injection M
 mu:=λp B=>(y.mu p B).elim (x.mu p) λh=>.inr (rk x.alive h)
 nR:=λn a h=>y.nR n a (x.nR n a h)
 keep:=λb o O e=>by
  refine aC (x.keep b o O e) λo1 J f=>?_;have F:¬Mu env H I b\/yh o1:=O.imp (λQ h=>(x.mu b h).elim Q λh=>by rw[e]at h;injection h) λV=>ab (f.nt (vJ V))<|V;exact aC (y.keep b o1 F J) λr U j=>⟨r,U,f.trans j λc q=>cD.code y.keep⟩
 alive:=λb o e=>aI (x.alive b o e) λR h=>y.alive b R h
 os:=y.os.trans x.os
 hJ:=aP x.hJ y.hJ
 gens:=λg d=>(y.gens g (be d x.hJ)).trans (x.gens g d)
 bare:=λh=>y.bare (x.bare h)
theorem j8.ext(e:gK s s'):j8 env ρ st W s ρ st W s' where
 w:=λp h=>.inl h
 wk:=λp h z z=>h
 mu:=λp h=>.inl h
 nR:=λz z h=>h
 keep:=λb o z h=>e.keep b o h
 alive:=λb o h=>e.keep.alive b o h
 os:=e.os
 hJ:=e.hJ
 gens:=e.gens
 bare:=e.bare
theorem j8.refl:j8 env ρ st W s ρ st W s:=.ext (.refl s)
theorem j8.Rh(e:DK (j7 env) s s')(F:eo env s.heap):j8 env ρ st W s ρ st W s' where
 w:=λp h=>.inl h
 wk:=λp h z z=>h
 mu:=λp h=>.inl h
 nR:=λz z h=>h
 keep:=cD.weaken (X:=j7 env) (.of e.keep λb o O h=>F.Xp O h) λp h=>.inl h
 alive:=e.live
 os:=by refine ej e.rest λh' tk j=>?_;subst j;rfl
 hJ:=ej e.rest λh' tk P=>ab P<|aV _
 gens:=ej e.rest λh' tk S=>ab S<|λz z=>rfl
 bare:=ej e.rest λh' tk c=>ab c<|id
theorem Rp.mX(R:Rp h₀ K env n0 W0 s₀ loc st W ρ s){p:az}(h:s₀.heap.get? p=none):h₀.get? p=none:=by
 rcases e:h₀.get? p with _|o
 ·rfl
 ·refine aI (bO.alive R.b0 p o e) λr U=>?_;rw[U]at h;injection h
theorem Rp.KH(R:Rp h₀ K env n0 W0 s₀ loc st W ρ s){p:az}(h:Mu env ρ st p):W p:=by
 refine ak h (λh=>?_) λH=>eb H λn l J U=>?_
 ·exact R.own p h
 ·exact R.ei.nR n l p J U
theorem Rp.step(R:Rp h₀ K env n0 W0 s₀ loc st W ρ s)(e:gK s s')(Q:n0<=s'.toks):Rp h₀ K env n0 W0 s₀ loc st W ρ s':=
 ⟨R.ei.ext e Q,R.own,R.len,R.inj,R.me,R.new,R.ext.trans e,R.w0,R.b0,R.l0⟩
theorem Rp.ext'(R:Rp h₀ K env n0 W0 s₀ loc st W ρ s){ρ':List az}{st':St}{W':az->Prop}(x:j8 env ρ st W s ρ' st' W' s'):gK s₀ s' where
 keep:=cD.after R.ext.keep x.keep λb o e h=>by have:=R.new b h;rw[e]at this;injection this
 os:=x.os.trans R.ext.os
 hJ:=aP R.ext.hJ x.hJ
 gens:=λg d=>(x.gens g (be d R.ext.hJ)).trans (R.ext.gens g d)
 bare:=λh=>x.bare (R.ext.bare h)
theorem Rp.Rh(R:Rp h₀ K env n0 W0 s₀ loc st W ρ s)(e:DK (j7 env) s s')(F:eo env s'.heap)(V:zO K.tab K.acc env W ρ s'.heap loc')(Q:n0<=s'.toks):Rp h₀ K env n0 W0 s₀ loc' st W ρ s' where
 ei:=by
  refine⟨cD.after R.ei.base (.of e.keep λb o O h=>R.ei.frame.Xp O h) λb o h q=>?_,λp B=>?_,Q,V,λn l h=>?_,F,R.ei.nR⟩
  ·have:=R.mX (R.new b (.inl q));rw[h]at this;injection this
  ·exact aI (R.ei.live p B) λo M=>e.live p o M
  ·exact cX (R.ei.store n l h) λa vs J Z S=>aI Z λm U=>⟨a,vs,J,⟨m,e.keep _ _ (R.me n l a h J) U⟩,S.move (λz q=>.inl q) (pS λb o O h=>e.keep b o (λq=>O (R.own b q)) h) λz z e=>e⟩
 own:=R.own
 len:=R.len
 inj:=R.inj
 me:=R.me
 new:=R.new
 ext:=R.ext' (j8.Rh (ρ:=ρ) (st:=st) (W:=W) e R.ei.frame)
 w0:=R.w0
 b0:=R.b0
 l0:=R.l0
theorem Rp.by(R:Rp h₀ K env n0 W0 s₀ loc st W ρ s){X:az->Prop}{G:Nat->Prop}(b:By X G s s')(u:∀p,X p->W p/\¬Mu env ρ st p/\s₀.heap.get? p=none)(L:∀p,X p->∃o,s'.heap.get? p=some o)
 (D:∀g,G g->s₀.gens.size<=g)(Q:n0<=s'.toks):Rp h₀ K env n0 W0 s₀ loc st W ρ s' where
 ei:=R.ei.by ⟨λp h=>(u p h).1,λp h=>R.mX (u p h).2.2,λn l a J U h=>(u a h).2.1 (.inr ⟨n,l,J,U⟩),λh=>(u _ h).2.1 (.inl (.inl rfl)),λx c V h=>(u c h).2.1 (.inl (.inr ⟨x,V⟩))⟩ b.keep L Q
 own:=R.own
 len:=R.len
 inj:=R.inj
 me:=R.me
 new:=R.new
 ext:=⟨cD.after R.ext.keep b.keep (λp o e h=>by have:=(u p h).2.2;rw[e]at this;injection this),b.os.trans R.ext.os,aP R.ext.hJ b.hJ,
  λg d=>(b.gens g (be d R.ext.hJ) λh=>absurd (D g h) (jE.mpr d)).trans (R.ext.gens g d),λh=>b.bare (R.ext.bare h)⟩
 w0:=R.w0
 b0:=R.b0
 l0:=R.l0
theorem Rp.wide(R:Rp h₀ K env n0 W0 s₀ loc st W ρ s)(e:gK s s')(D:n0<=s'.toks){W':az->Prop}(J:∀p,W p->W' p)(U:∀p,W' p->W p\/(s.heap.get? p=none/\∃o,s'.heap.get? p=some o)):
 Rp h₀ K env n0 W0 s₀ loc st W' ρ s' where
 ei:=by
  have hW:∀a,W' a->W a\/s.heap.get? a=none:=λa h=>(U a h).imp id (·.1);refine⟨bO.trans R.ei.base e.keep,λp B=>?_,D,λi hi x Z a L N=>?_,λn l h=>?_,R.ei.frame.by λb o z h Q=>e.keep.nt h Q,λn l a x y=>J a (R.ei.nR n l a x y)⟩
  ·refine ak (U p B) (λh=>?_) λH=>aN H λz h=>?_
   ·exact aI (R.ei.live p h) λo M=>e.keep.alive _ _ M
   ·exact h
  ·exact aC (R.ei.vars i hi x Z a L N) λv S d=>⟨v,S.keep e.keep,d.move hW (λz z z z h=>e.keep.seq h) λz z e=>e⟩
  ·exact cX (R.ei.store n l h) λa vs S d O=>⟨a,vs,S,e.keep.seq d,O.move hW (λz z z z h=>e.keep.seq h) λz z e=>e⟩
 own:=λp h=>J p (R.own p h)
 len:=R.len
 inj:=R.inj
 me:=R.me
 new:=R.new
 ext:=R.ext.trans e
 w0:=λp h=>J p (R.w0 p h)
 b0:=R.b0
 l0:=R.l0
theorem j8.wide(e:gK s s'){W':az->Prop}(J:∀p,W p->W' p)(U:∀p,W' p->W p\/s.heap.get? p=none):j8 env ρ st W s ρ st W' s':=
 {(j8.ext (env:=env) (ρ:=ρ) (st:=st) (W:=W) e)with w:=U,wk:=λp h z z=>J p h}
theorem j8.by{ρ':List az}{st':St}{W':az->Prop}{S:ao}(x:j8 env ρ st W s ρ' st' W' s'){X:az->Prop}{G:Nat->Prop}(b:By X G s' S)(u:∀p,X p->s.heap.get? p=none)(L:∀p,X p->∃o,S.heap.get? p=some o)
 (D:∀g,G g->s.gens.size<=g):j8 env ρ st W s ρ' st' W' S where
 w:=x.w
 wk:=x.wk
 mu:=x.mu
 nR:=x.nR
 keep:=λp o B e=>aC (x.keep p o B e) λo1 J f=>aC (b.keep p o1 (.inl λh=>by have:=u p h;rw[e]at this;injection this) J) λr U j=>⟨r,U,f.trans j λc q=>cD.code b.keep⟩
 alive:=λp o e=>by
  by_cases h:X p
  ·exact L p h
  ·refine ew λY=>aI (x.alive p o e) λR M=>aC (b.keep p R (.inl h) M) λr U z=>Y ?_;clear Y;exact⟨r,U⟩
 os:=b.os.trans x.os
 hJ:=aP x.hJ b.hJ
 gens:=λg d=>(b.gens g (be d x.hJ) λh=>absurd (D g h) (jE.mpr d)).trans (x.gens g d)
 bare:=λh=>b.bare (x.bare h)
theorem bZ.own(hE:bZ env K n0){x:bj}(Z:K.names.lookup x=some .local\/K.names.lookup x=some .cell):∃ad,mi env x ad/\j7 env ad:=by
 refine ak Z (λZ=>?_) λZ=>?_
 ·exact⟨env.locals,.inl ⟨by delta iM;exact ab hE.names<|Z,rfl⟩,.inl rfl⟩
 ·have I:env.kindOf x=some .cell:=by delta iM;exact ab hE.names<|Z
  exact aI (hE.cB x (.inl I)) λc V=>⟨c,.inr ⟨I,V⟩,.inr ⟨x,mem_of_lookup V⟩⟩
theorem fm{t:kR}{g:Expr}{v:aw}{Q:Unit->ao->Prop}(hh:A.handled=none)(hE:bZ env K n0)(R:Rp h₀ K env n0 W0 s₀ loc st W ρ s)(d:fg K t g=true)(O:cT loc t av=some loc')(D:VR W ρ s.heap v av)
 (h:∀s',Rp h₀ K env n0 W0 s₀ loc' st W ρ s'->j8 env ρ st W s ρ st W s'->Q () s'):aM (aL prog w) A (lj g env v) Q E s:=by
 refine bY R.ei.tok (qg (own:=j7 env) hh hE.kind hE.Q R.own (λx Z=>hE.own Z) d O R.ei.frame R.ei.vars D λs' S F V B=>?_);exact h s' (R.Rh S F (λi hi x Z a L N=>V i (fo _ hi) x Z a L N) B) (.Rh S R.ei.frame)
theorem Rp.Kj{L:az}{h':bk}{m:bj->Option aw}(H:s.heap.Ns L m)(R:Rp h₀ K env n0 W0 s₀ loc st (λp=>W p\/p=L) ρ s)(X:¬W L)(T:¬Mu env ρ st L)(Y:s₀.heap.get? L=none)(G:lb L s.heap h'):Rp h₀ K env n0 W0 s₀ loc st W ρ {s with heap:=h'}:=by
 have I:∀b o,b≠L->s.heap.get? b=some o->h'.get? b=some o:=G.extBut;refine⟨⟨cD.after R.ei.base (cD.Wl H G) λb o e q=>?_,λp B=>?_,R.ei.tok,λi hi x Z a D N=>?_,λn l e=>?_,R.ei.frame.by λb o O e z=>I b o (λq=>T (.inl (q▸O))) e,λn l a e1 e2=>(λp h B=>h.elim id λe=>absurd (e▸B) T) a (R.ei.nR n l a e1 e2) (.inr ⟨n,l,e1,e2⟩)⟩,
  λp B=>(λp h B=>h.elim id λe=>absurd (e▸B) T) p (R.own p B) (.inl B),R.len,R.inj,R.me,R.new,⟨cD.after R.ext.keep (cD.Wl H G) (λb o e q=>by have q:b=L:=q;subst q;rw[Y]at e;injection e),R.ext.os,R.ext.hJ,R.ext.gens,R.ext.bare⟩,λp B=>(R.w0 p B).elim id λe=>?_,R.b0,R.l0⟩
 ·have q:b=L:=q;subst q;have:=R.mX Y;rw[e]at this;injection this
 ·exact aI (R.ei.live p (.inl B)) λo M=>⟨o,I p o (λq=>X (q▸B)) M⟩
 ·refine aC (R.ei.vars i hi x Z a D N) λv J U=>⟨v,?_,(λx=>x.move (λz q=>.inl (.inl q)) (pS λb o O e=>I b o (λq=>O (.inr q)) e) λz z e=>e) U⟩;rcases J with⟨P,m,F,t⟩|⟨P,c,F,t⟩
  ·exact .inl ⟨P,m,F.at' λo e=>I _ o (λq=>T (.inl (.inl q.symm))) e,t⟩
  ·exact aC t λo M u=>.inr ⟨P,c,F,o,I c o (λq=>T (.inl (.inr ⟨x,q▸mem_of_lookup F⟩))) M,u⟩
 ·exact cX (R.ei.store n l e) λa vs J Q S=>aI Q λm U=>⟨a,vs,J,⟨m,I _ _ (λq=>T (.inr ⟨n,l,e,q▸J⟩)) U⟩,(λx=>x.move (λz q=>.inl (.inl q)) (pS λb o O e=>I b o (λq=>O (.inr q)) e) λz z e=>e) S⟩
 ·subst e;refine aI (R.l0 p B) λo M=>?_;rw[Y]at M;injection M
theorem j8.Kj{L:az}{h':bk}{m:bj->Option aw}{ρ':List az}{st':St}(H:s'.heap.Ns L m)(x:j8 env ρ st W s ρ' st' (λp=>W' p\/p=L) s')(X:s.heap.get? L=none)(G:lb L s'.heap h'):j8 env ρ st W s ρ' st' W' {s' with heap:=h'} where
 w:=λp h=>x.w p (.inl h)
 wk:=λp h B T=>(x.wk p h B T).elim id λe=>by subst e;refine aI B λo M=>?_;rw[X]at M;injection M
 mu:=x.mu
 nR:=x.nR
 keep:=λb o O e=>aC (x.keep b o O e) λo1 J f=>⟨o1,G.extBut b o1 (λq=>by subst q;rw[X]at e;injection e) J,f.trans (.refl _ _ _) λc q=>cD.code (cD.Wl H G)⟩
 alive:=λb o e=>aI (x.alive b o e) λR h=>⟨R,G.extBut b R (λq=>by subst q;rw[X]at e;injection e) h⟩
 os:=x.os
 hJ:=x.hJ
 gens:=x.gens
 bare:=x.bare
theorem Rp.gone{X:az->Prop}{G:Nat->Prop}(R:Rp h₀ K env n0 W0 s₀ loc st W ρ s)(b:By X G s s')(V:∀p,X p->W p)(u:∀p,X p->¬Mu env ρ st p/\s₀.heap.get? p=none)(D:∀g,G g->s₀.gens.size<=g)(H:n0<=s'.toks):
 Rp h₀ K env n0 W0 s₀ loc st (λp=>W p/\¬X p) ρ s':=by
 have I:=b.keep;have ne:∀p,W p->Mu env ρ st p->W p/\¬X p:=λp h B=>⟨h,λe=>(u p e).1 B⟩;refine⟨⟨cD.after R.ei.base I λb o e q=>?_,λp B=>?_,H,λi hi x Z a L N=>?_,λn l e=>?_,R.ei.frame.by λb o O e Q=>I.nt (λq=>(u b q).1 (.inl O)) e Q,λn l a e1 e2=>ne a (R.ei.nR n l a e1 e2) (.inr ⟨n,l,e1,e2⟩)⟩,
  λp B=>ne p (R.own p B) (.inl B),R.len,R.inj,R.me,R.new,⟨cD.after R.ext.keep I (λp o e q=>by have:=(u p q).2;rw[e]at this;injection this),b.os.trans R.ext.os,aP R.ext.hJ b.hJ,
   λg d=>(b.gens g (be d R.ext.hJ) λh=>absurd (D g h) (jE.mpr d)).trans (R.ext.gens g d),λh=>b.bare (R.ext.bare h)⟩,λp B=>⟨R.w0 p B,λe=>?_⟩,R.b0,R.l0⟩
 ·have:=R.mX (u b q).2;rw[e]at this;injection this
 ·refine ew λY=>aI (R.ei.live p B.1) λo M=>aC (I p o (.inl B.2) M) λr U z=>Y ?_;clear Y;exact⟨r,U⟩
 ·refine aC (R.ei.vars i hi x Z a L N) λv J U=>⟨v,?_,(λx=>x.move (λz q=>.inl q.1) (y7 I V) λz z e=>e) U⟩;rcases J with⟨P,m,F,t⟩|⟨P,c,F,t⟩
  ·exact .inl ⟨P,m,I.ns (λq=>(u _ q).1 (.inl (.inl rfl))) F,t⟩
  ·exact .inr ⟨P,c,F,I.cell (λq=>(u _ q).1 (.inl (.inr ⟨x,mem_of_lookup F⟩))) t⟩
 ·exact cX (R.ei.store n l e) λa vs J U S=>⟨a,vs,J,I.seq (λq=>(u _ q).1 (.inr ⟨n,l,e,J⟩)) U,(λx=>x.move (λz q=>.inl q.1) (y7 I V) λz z e=>e) S⟩
 ·refine aI (R.l0 p B) λo M=>?_;rw[(u p e).2]at M;injection M
theorem j8.gone{ρ':List az}{st':St}{W':az->Prop}{S:ao}(x:j8 env ρ st W s ρ' st' W' s'){X:az->Prop}{G:Nat->Prop}(b:By X G s' S)(u:∀p,X p->s.heap.get? p=none)(D:∀g,G g->s.gens.size<=g):
 j8 env ρ st W s ρ' st' (λp=>W' p/\¬X p) S where
 w:=λp h=>x.w p h.1
 wk:=λp h L T=>⟨x.wk p h L T,λe=>by refine aI L λo M=>?_;rw[u p e]at M;injection M⟩
 mu:=x.mu
 nR:=x.nR
 keep:=λp o B e=>by
  refine ew λY=>aC (x.keep p o B e) λo1 J f=>aC (b.keep p o1 (.inl λh=>by have:=u p h;rw[e]at this;injection this) J) λr U j=>Y ?_;clear Y;exact⟨r,U,f.trans j λc q=>cD.code b.keep⟩
 alive:=λp o e=>aI (x.alive p o e) λR M=>aC (b.keep p R (.inl λh=>by have:=u p h;rw[e]at this;injection this) M) λr U z=>⟨r,U⟩
 os:=b.os.trans x.os
 hJ:=aP x.hJ b.hJ
 gens:=λg d=>(b.gens g (be d x.hJ) λh=>absurd (D g h) (jE.mpr d)).trans (x.gens g d)
 bare:=λh=>b.bare (x.bare h)
theorem Rp.KL(R:Rp h₀ K env n0 W0 s₀ loc st W ρ s)(e:gK s s')(ht:n0<=s'.toks){as:List az}{ls:List (List AV)}(B:as.length=ls.length)(V:as.Nodup)(u:∀a∈as,s.heap.get? a=none)
 {X:az->Prop}(t:∀p,X p->s.heap.get? p=none/\∃o,s'.heap.get? p=some o)
 (hl:∀(j:Nat) (a:az) (l:List AV),as[j]? =some a->ls[j]? =some l->∃vs,cL "list" s'.heap a vs/\ft (λp=>(W p\/p∈as)\/X p) (ρ++as) s'.heap vs l){I:Prop}(N:(Rp h₀ K env n0 W0 s₀ loc (st++ls.map some) (λp=>(W p\/p∈as)\/X p) (ρ++as) s')->(j8 env ρ st W s (ρ++as) (st++ls.map some) (λp=>(W p\/p∈as)\/X p) s')->(∀p,Mu env (ρ++as) (st++ls.map some) p->Mu env ρ st p\/p∈as)->I):I:=by
 refine eY (?_:Rp h₀ K env n0 W0 s₀ loc (st++ls.map some) (λp=>(W p\/p∈as)\/X p) (ρ++as) s'/\j8 env ρ st W s (ρ++as) (st++ls.map some) (λp=>(W p\/p∈as)\/X p) s'/\
  ∀p,Mu env (ρ++as) (st++ls.map some) p->Mu env ρ st p\/p∈as) N
 have D:∀(n:Nat) (l:List AV),(st++ls.map some)[n]? =some (some l)->st[n]? =some (some l)\/∃j,n=st.length+j/\ls[j]? =some l:=by
  intro n l h;by_cases Q:n<st.length
  ·rw[cM Q]at h;exact .inl h
  ·rw[bG (i5.mp Q),nq,dg]at h;refine aC h λl' J U=>?_;clear h;injection U with F;exact cA F<|.inr ⟨n-st.length,by grind,J⟩
 have c:∀(n:Nat) (a:az),ρ[n]? =some a->(ρ++as)[n]? =some a:=λn a h=>bp (cM (aQ.mp h).1)<|h;have G:∀(n:Nat) (a:az),n<st.length->(ρ++as)[n]? =some a->ρ[n]? =some a:=λn a Q h=>by
  rw[cM (ab R.len<|Q)]at h;exact h
 have P:∀(j:Nat),(ρ++as)[st.length+j]? =as[j]? :=λj=>by
  refine bp (bG (ab R.len<|ja (dp st) j)) (ab R.len ?_);congr 1;exact DC (dp st) j
 have y:∀{n:Nat} {l:List AV},st[n]? =some (some l)->n<st.length:=λh=>(aQ.mp h).1;have alive:∀a,a∈as->∃o,s'.heap.get? a=some o:=λa L=>by
  obtain⟨j,Y,rfl⟩:=Ff.mp L;exact aC (hl j as[j] (ls[j]'(et Y B)) (by simp) (by simp)) λvs o9 z=>aI o9 λn h=>⟨_,h⟩
 have T:=R.wide e ht (W':=λp=>(W p\/p∈as)\/X p) (λp h=>.inl (.inl h)) (λp h=>h.elim (λh=>h.imp id λh=>⟨u p h,alive p h⟩) λh=>.inr (t p h));have f:∀p,Mu env (ρ++as) (st++ls.map some) p->Mu env ρ st p\/p∈as:=by
  refineλp r=>ak r (λh=>?_) λH=>eb H λn l J U=>?_
  ·exact .inl (.inl h)
  ·refine ak (D n l J) (λh=>?_) λH=>aC H λj g h=>?_;rotate_left;subst g;rotate_right
   ·exact .inl (.inr ⟨n,l,h,G n p (y h) U⟩)
   ·rw[P]at U;exact .inr (aW U)
 have dead:∀{a:az},a∈as->¬W a:=λL hw=>by refine aI (R.ei.live _ hw) λo M=>?_;rw[u _ L]at M;injection M
 refine⟨⟨⟨T.ei.base,T.ei.live,ht,λi hi x Z a L hu=>?_,λn l h=>?_,T.ei.frame,λn l a J U=>?_⟩,T.own,by simp[R.len,B],λn m l l' p J U S d=>?_,λn l p J U S=>?_,λp hp=>?_,T.ext,T.w0,R.b0,R.l0⟩,
  ⟨(λp h=>h.elim (λh=>h.imp id (u p)) λh=>.inr (t p h).1),λp h z z=>.inl (.inl h),λp h=>(f p h).imp id (u p),c,λb o z h=>e.keep b o h,λb o h=>e.keep.alive b o h,e.os,e.hJ,e.gens,e.bare⟩,f⟩
 ·exact aC (T.ei.vars i hi x Z a L hu) λv J U=>⟨v,J,U.move (λz h=>.inl h) (λz z z z h=>h) c⟩
 ·refine ak (D n l h) (λO=>?_) λH=>aC H λj g O=>?_;rotate_left;refine ab g ?_;rotate_right
  ·exact cX (T.ei.store n l O) λa vs J U S=>⟨a,vs,c n a J,U,S.move (λz h=>.inl h) (λz z z z h=>h) c⟩
  ·have Y:=(aQ.mp O).1;refine aC (hl j (as[j]'(et Y (id (dN B)))) l (by simp) O) λvs J U=>⟨_,vs,by refine bp (P ..) ?_;simp,J,U⟩
 ·refine ak (D n l J) (λO=>?_) λH=>aC H λj g O=>?_;rotate_left;subst g;rotate_right
  ·exact .inl (.inl (R.ei.nR n l a O (G n a (y O) U)))
  ·rw[P]at U;exact .inl (.inr (aW U))
 ·(refine ak (D n l J) (λa1=>?_) λH=>aC H λj g a1=>?_;rotate_left;subst g;rotate_right)<;>(refine ak (D m l' U) (λa2=>?_) λH=>aC H λq g a2=>?_;rotate_left;subst g;rotate_right)
  ·exact R.inj n m l l' p a1 a2 (G n p (y a1) S) (G m p (y a2) d)
  ·rw[P]at d;exact absurd (R.ei.nR n l p a1 (G n p (y a1) S)) (dead (aW d))
  ·rw[P]at S;exact absurd (R.ei.nR m l' p a2 (G m p (y a2) d)) (dead (aW S))
  ·rw[P]at S d;have:=(List.getElem?_inj (aQ.mp S).1 V).mp (S.trans d.symm);exact congrArg _ this
 ·refine ak (D n l J) (λa1=>?_) λH=>aC H λj g a1=>?_;rotate_left;subst g;rotate_right
  ·exact R.me n l p a1 (G n p (y a1) U) S
  ·rw[P]at U;exact dead (aW U) (R.own p S)
 ·refine ak (f p hp) (λh=>?_) λh=>?_
  ·exact R.new p h
  ·exact gC R.ext (u p h)
theorem Rp.less(R:Rp h₀ K env n0 W0 s₀ loc st W ρ s)(X:st'.length=st.length)(h:∀(m:Nat) (x:List AV),st'[m]? =some (some x)->st[m]? =some (some x)):Rp h₀ K env n0 W0 s₀ loc st' W ρ s where
 ei:=⟨R.ei.base,R.ei.live,R.ei.tok,R.ei.vars,λn l e=>R.ei.store n l (h n l e),R.ei.frame,λn l a e=>R.ei.nR n l a (h n l e)⟩
 own:=R.own
 len:=ab X<|R.len
 inj:=λn m l l' p a b=>R.inj n m l l' p (h n l a) (h m l' b)
 me:=λn l p a=>R.me n l p (h n l a)
 new:=λp B=>R.new p (B.imp id λD=>eb D λn l a b=>⟨n,l,h n l a,b⟩)
 ext:=R.ext
 w0:=R.w0
 b0:=R.b0
 l0:=R.l0
theorem Rp.shrink(R:Rp h₀ K env n0 W0 s₀ loc st W ρ s)(h:∀p,W' p->W p)(J:∀p,Mu env ρ st p->W' p)(U:∀p,W0 p->W' p):Rp h₀ K env n0 W0 s₀ loc st W' ρ s where
 ei:=⟨R.ei.base,λp B=>R.ei.live p (h p B),R.ei.tok,λi hi x Z a L N=>aC (R.ei.vars i hi x Z a L N) λv a1 a2=>⟨v,a1,a2.move (λp B=>.inl (h p B)) (λz z z z e=>e) λz z e=>e⟩,
  λn l e=>cX (R.ei.store n l e) λa vs a1 a2 a3=>⟨a,vs,a1,a2,a3.move (λp B=>.inl (h p B)) (λz z z z e=>e) λz z e=>e⟩,R.ei.frame,λn l a e1 e2=>J a (.inr ⟨n,l,e1,e2⟩)⟩
 own:=λp B=>J p (.inl B)
 len:=R.len
 inj:=R.inj
 me:=R.me
 new:=R.new
 ext:=R.ext
 w0:=U
 b0:=R.b0
 l0:=R.l0
theorem Rp.put(R:Rp h₀ K env n0 W0 s₀ loc st W ρ s){n:Nat}{a:az}{l:List AV}{vs:List aw}(Q:n<st.length)(L:ρ[n]? =some a)(o:W a)(M:¬Mu env ρ st a)(Y:s₀.heap.get? a=none)
 (G:cL "list" s.heap a vs)(N:ft W ρ s.heap vs l):Rp h₀ K env n0 W0 s₀ loc (st.set n (some l)) W ρ s:=by
 have S:∀(m:Nat) (x:List AV),(st.set n (some l))[m]? =some (some x)->(m=n/\x=l)\/(m≠n/\st[m]? =some (some x)):=by
  intro m x h;by_cases e:m=n
  ·subst e;rw[fI Q]at h;injection h with F;injection F with D;exact ab D<|.inl ⟨rfl,rfl⟩
  ·rw[ez (ib e)]at h;exact .inr ⟨e,h⟩
 have mu:∀p,Mu env ρ (st.set n (some l)) p->Mu env ρ st p\/p=a:=by
  refineλp o1=>ak o1 (λh=>?_) λH=>eb H λm x J U=>?_
  ·exact .inl (.inl h)
  ·refine ak (S m x J) (λH=>aN H λg T=>?_) λI=>aN I λz h=>?_;cases g;refine ab T ?_
   ·rw[L]at U;injection U with F;exact ab F<|.inr rfl
   ·exact .inl (.inr ⟨m,x,h,U⟩)
 refine⟨⟨R.ei.base,R.ei.live,R.ei.tok,R.ei.vars,λm x e=>?_,R.ei.frame,λm x b e1 e2=>?_⟩,R.own,by simp[R.len],λm d x P p a1 a2 a3 a4=>?_,λm x p a1 a2=>?_,λp B=>?_,R.ext,R.w0,R.b0,R.l0⟩
 ·refine ak (S m x e) (λH=>aN H λg T=>?_) λI=>aN I λz h=>?_;refine ab g<|ab T ?_
  ·exact⟨a,vs,L,G,N⟩
  ·exact R.ei.store m x h
 ·refine ak (S m x e1) (λH=>aN H λg T=>?_) λI=>aN I λz h=>?_;subst g;subst T
  ·rw[L]at e2;injection e2 with F;subst F;exact o
  ·exact R.ei.nR m x b h e2
 ·(refine ak (S m x a1) (λH=>aN H λg T=>?_) λI=>aN I λu J=>?_;cases g;refine ab T ?_)<;>(refine ak (S d P a2) (λH=>aN H λg T=>?_) λI=>aN I λn2 U=>?_;cases g;cases T)
  ·rfl
  ·rw[L]at a3;injection a3 with F;subst F;exact absurd (.inr ⟨d,P,U,a4⟩) M
  ·rw[L]at a4;injection a4 with F;subst F;exact absurd (.inr ⟨m,x,J,a3⟩) M
  ·exact R.inj m d x P p J U a3 a4
 ·refine ak (S m x a1) (λH=>aN H λg T=>?_) λI=>aN I λz h=>?_;subst g;subst T
  ·rw[L]at a2;injection a2 with F;subst F;exactλq=>M (.inl q)
  ·exact R.me m x p h a2
 ·refine ak (mu p B) (λh=>?_) λH=>?_;rotate_left;refine ab H ?_;rotate_right
  ·exact R.new p h
  ·exact Y
theorem Mu.less(h:∀(m:Nat) (x:List AV),st'[m]? =some (some x)->st[m]? =some (some x)){p:az}:Mu env ρ st' p->Mu env ρ st p:=λB=>B.imp id λD=>eb D λn l a b=>⟨n,l,h n l a,b⟩
theorem iN{n:Nat}:∀(m:Nat) (x:List AV),(st.set n none)[m]? =some (some x)->st[m]? =some (some x)/\m≠n:=by
 intro m x h;by_cases e:m=n
 ·subst e;by_cases Q:m<st.length
  ·rw[fI Q]at h;injection h with F;injection F
  ·rw[List.getElem?_eq_none (by simpa using Q)]at h;injection h
 ·rw[ez (ib e)]at h;exact⟨h,e⟩
theorem Rp.Po(R:Rp h₀ K env n0 W0 s₀ loc st W ρ s){n:Nat}{a:az}{l l':List AV}{vs':List aw}{h':bk}(Q:st[n]? =some (some l))(L:ρ[n]? =some a)(G:lb a s.heap h')(D:cL "list" h' a vs')
 (i:ft W ρ h' vs' l'){I:Prop}(N:Rp h₀ K env n0 W0 s₀ loc (st.set n (some l')) W ρ {s with heap:=h'}->j8 env ρ st W s ρ (st.set n (some l')) W {s with heap:=h'}->I):I:=by
 have T:Mu env ρ st a:=.inr ⟨n,l,Q,L⟩;have f:=R.KH T;have Z:=R.less (st':=st.set n none) (lK) λm x h=>(iN m x h).1;have M:¬Mu env ρ (st.set n none) a:=by
  refineλr=>ak r (λh=>?_) λH=>eb H λm x J U=>?_
  ·exact R.me n l a Q L h
  ·have:=iN m x J;exact this.2 (R.inj m n x l a this.1 Q U L)
 have Y:∃vs,cL "list" s.heap a vs:=by refine cX (R.ei.store n l Q) λt vs P j z=>?_;rw[L]at P;injection P with F;exact ab F<|⟨vs,j⟩
 have X:∀b o,b=a->s.heap.get? b=some o->¬yh o:=λb o O e=>by
  cases O;refine ej Y λvs m q=>?_;rw[q]at e;injection e with F;subst F;exact yP rfl
 have S:By (·=a) (λz=>False) s {s with heap:=h'}:=.of (s:=s) (tk:=s.toks) (λb o O e=>G.extBut b o O e) X;clear X;have c:∀p,p=a->∃o,h'.get? p=some o:=λp B=>ab B<|aI D λm h=>⟨_,h⟩;have V:=Z.by S (λp B=>ab B<|⟨f,M,R.new _ T⟩) c (λg h=>h.elim) R.ei.tok;clear Z;have d:=V.put (n:=n) (a:=a) (l:=l') (vs:=vs') (by simpa using((aQ.mp Q).1)) L f M (R.new _ T) D i;clear V;rw[List.set_set]at d;refine N d ⟨λp h=>.inl h,λp h z z=>h,λp B=>?_,λz z h=>h,S.keep.weaken (λp q=>q▸T),λb o e=>?_,rfl,aV _,λz z=>rfl,id⟩;clear N
 ·left;refine ak B (λh=>?_) λH=>eb H λm x J U=>?_
  ·exact .inl h
  ·by_cases e:m=n
   ·cases e;rw[L]at U;injection U with F;exact cA F<|T
   ·rw[ez (ib e)]at J;exact .inr ⟨m,x,J,U⟩
 ·by_cases h:b=a
  ·exact c b h
  ·exact⟨o,G.extBut b o h e⟩
set_option tactic.hygienic true in
theorem Ss:∀(l:List AV) (st:St) (l':List AV) (st':St),jk st l=some (l',st')->st'.length=st.length/\(∀(m:Nat) (x:List AV),st'[m]? =some (some x)->st[m]? =some (some x))/\
 (∀(W W':az->Prop) (ρ:List az) (h:bk) (vs:List aw),SR W ρ h st->(∀p,W' p->W p)->(∀(m:Nat) (x:List AV) (a:az),st[m]? =some (some x)->st'[m]? =some none->ρ[m]? =some a->¬W' a)->
   ft W ρ h vs l->ft W' ρ h vs l'):=by
 intro T
 induction T with
 |nil=>
  intro st l' st' h;simp only[(id AF),bL,gz]at h;refine aN h λV q=>?_;clear h;subst V;subst q;exact⟨rfl,λz z h=>h,λW W' ρ h vs z z z D=>by rcases D with⟨⟩;exact .nil⟩
 |cons a l R=>
  intro st l' st' h;by_cases G:∃n,a=.ref n
  ·refine aI G λn u=>?_;clear G;subst u;simp only[(id AF),aj,bF]at h;refine aC h λm J h=>?_;split at h
   ·rename_i M;refine dn h λc U S=>?_;clear h;rcases c with⟨l2,st2⟩;simp only[aJ,bL,gz]at S;refine aN S λZ O=>cA Z<|cA O<|eY (R (st.set n none) l2 st2 U) λi1 o i=>?_;have Q:st[n]? =some (some m):=by
     rcases e:st[n]? with _|y
     ·rw[e]at J;injection J
     ·rw[e]at J;simp only[uC]at J;exact congrArg _ J
    have H:st2[n]? =some none:=by
     cases e:st2[n]? with
     |none=>exact absurd (cj.mp e) (by refine ab i1 ?_;simpa using((aQ.mp Q).1))
     |some y=>rcases y with _|y
              ·rfl
              ·exact absurd rfl (iN n y (o n y e)).2
    refine⟨by refine ab i1 ?_;simp,λd x e=>(iN d x (o d x e)).1,λW W' ρ h vs N hW P D=>?_⟩;cases D with
    |cons a1 b1=>
     rcases a1 with _|_|_|_|_|_|X
     ·refine ew λY=>cX (N n m Q) λb g f j t=>?_;rw[X]at f;injection f with F;subst F;refine Y ?_;clear Y;exact .cons (.lst (P n m _ Q H X) j (t.move (λp B=>.inl (hW p B)) (λz z z z e=>e) λz z e=>e))<|i W W' ρ h _ (λd x e=>N d x (iN d x e).1) hW (λd x I e1 e2=>P d x I (iN d x e1).1 e2) b1
   ·injection h
  ·have e:jk st (a::l)=(if jP a then do
    let(l',st')<-jk st l
    return(a::l',st')
    else none):=by
    rcases a with⟨⟩<;>first|rfl|exact absurd ⟨_,rfl⟩ G
   rw[e]at h;split at h
   ·refine dn h λv U S=>?_;clear h;rcases v with⟨l2,st2⟩;simp only[aJ,bL,gz]at S;refine aN S λr L=>?_;clear S;subst r;refine cA L<|eY (R st l2 st2 U) λi1 o i=>⟨i1,o,λW W' ρ h vs N hW P D=>?_⟩;rcases D with _|⟨a1,b1⟩
    ·exact .cons (a1.move (λp B=>.inl (hW p B)) (λz z z z e=>e) λz z e=>e) (i W W' ρ h _ N hW P b1)
   ·injection h
theorem E0{cfg:dC}{i:Nat}{a:AV}(h:ev cfg st (.a i) loc=some a){I:Prop}(N:loc[i]? =some a->a≠.c->I):I:=by exact aN (JE h) N
theorem fF{n:Nat}{l:List AV}(h:(st[n]?).join=some l):st[n]? =some (some l):=by
 rcases e:st[n]? with _|y
 ·rw[e]at h;injection h
 ·rw[e]at h;simp only[uC]at h;exact congrArg _ h
theorem Gb{i:Nat}{fl:Fl}(R:Rp h₀ K env n0 W0 s₀ loc st W ρ s)(h:mY cfg (.q i) loc st=some (fl,loc',st')):fl=.next/\∃W',Rp h₀ K env n0 W0 s₀ loc' st' W' ρ s/\j8 env ρ st W s ρ st' W' s:=by
 refine ew λY=>dn h λa J h=>dn h λn D h=>dn h λl U h=>dn h λq S h=>dn h λloc2 h4 h=>?_;simp only[oX D]at J;obtain⟨l',st2⟩:=q;refine Y ?_;clear Y
 ·replace h:=ay h;have e1:loc2=loc':=congrArg (·.2.1) h;have e2:st2=st':=congrArg (·.2.2) h;have c:Fl.next=fl:=congrArg (·.1) h;simp only[e1]at h4;refine cA e2<|cA c<|⟨rfl,?_⟩;have Q:=fF U;refine ew λY=>E0 J λhi z=>?_;clear J;refine eY (Ss _ _ _ _ S) λf1 f2 f3=>Y ?_;clear Y;have sub:∀(m:Nat) (x:List AV),st2[m]? =some (some x)->st[m]? =some (some x)/\m≠n:=λm x e=>iN m x (f2 m x e);have Z:=R.less (st':=st2) (by refine ab f1 ?_;simp) λm x e=>(sub m x e).1;have r:st2[n]? =some none:=by
   cases e:st2[n]? with
   |none=>exact absurd (cj.mp e) (by refine ab f1 ?_;simpa using((aQ.mp Q).1))
   |some y=>rcases y with _|y
            ·rfl
            ·exact absurd rfl (sub n y e).2
  have V:=Z.shrink (W':=λp=>W p/\¬∃(m:Nat) (x:List AV),st[m]? =some (some x)/\st2[m]? =some none/\ρ[m]? =some p) (λp h=>h.1) (λp B=>⟨Z.KH B,λu=>cX u λm x f g2 t=>by
   refine ak B (λB=>?_) λH=>eb H λd P g4 g5=>?_
   ·exact R.me m x p f t B
   ·have:=R.inj m d x P p f (sub d P g4).1 t g5;subst this;rw[g2]at g4;injection g4 with F;injection F⟩)
   (λp B=>⟨R.w0 p B,λo4_=>cX o4_ λm x f g2 t=>by
     refine aI (R.l0 p B) λo M=>?_;have:=R.new p (.inr ⟨m,x,f,t⟩);rw[M]at this;injection this⟩)
  refine⟨_,⟨{V.ei with vars:=λj hj x hx a L N=>?_},V.own,V.len,V.inj,V.me,V.new,V.ext,V.w0,V.b0,V.l0⟩,⟨λp h=>.inl h.1,λp h z T=>⟨h,λo5_=>cX o5_ λm x f z t=>T (.inr ⟨m,x,f,t⟩)⟩,λp h=>.inl (h.less λm x e=>(sub m x e).1),λz z h=>h,(λz o z e=>⟨o,e,.refl _ _ _⟩),λb o e=>⟨o,e⟩,rfl,aV _,λz z=>rfl,id⟩⟩;have O:(if i<loc.length then some (loc.set i (.lst l'))else none)=some loc':=h4;clear h4;have G:i<loc.length:=by
   by_cases G:i<loc.length
   ·exact G
   ·rw[if_neg G]at O;injection O
  rw[if_pos G]at O;rw[<-ay O]at L;clear O;by_cases e:j=i
  ·subst e;rw[fI G]at L;injection L with F;simp only[<-F];refine aC (R.ei.vars j hj x hx _ hi (by simp)) λv I v2=>⟨v,I,?_⟩;clear I;rcases v2 with _|_|_|_|_|_|X
   ·refine ew λY=>cX (R.ei.store n l Q) λb g f g2 t=>?_;rw[X]at f;injection f with F;subst F;refine Y ?_;clear Y;refine .lst (λh=>h.2 ⟨n,l,Q,r,X⟩) g2 (f3 W _ ρ s.heap g (λd x e=>R.ei.store d x (iN d x e).1) (λp h=>h.1) (λm x a' e1 e2 c h=>h.2 ⟨m,x,(iN m x e1).1,e2,c⟩) t)
  ·rw[ez (ib e)]at L;exact V.ei.vars j hj x hx a L N
end
section
variable{h₀:bk}{cfg:dC}
def HK(W:az->Prop)(ρ:List az)(h:bk):Fl->kO->Prop
 | .next,.next=>True
 | .brk,.brk=>True
 | .ret a,.ret v=>VR W ρ h v a/\jP a=true
 |_,_=>False
def Cc(h₀:bk)(K:Ck)(env:fZ)(n0:Nat)(p:az->Prop)(s₀:ao)(L:Fl)(loc':Loc)(st':St)(ρ:List az)(st:St)(W:az->Prop)(s:ao):kO->ao->Prop:=λf s'=>
 ∃W' ρ',HK W' ρ' s'.heap L f/\Rp h₀ K env n0 p s₀ loc' st' W' ρ' s'/\j8 env ρ st W s ρ' st' W' s'
def md(C:fE h₀ cfg)(k:Nat)(c:CS):Prop:=∀(K:Ck) (env:fZ) (x:bC) (p:az->Prop) (s₀:ao) (n0:Nat) (loc loc':Loc) (st st':St) (L:Fl) (W:az->Prop) (ρ:List az) (A:cP) (s:ao) (E:aw->ao->Prop),
 bZ env K n0->i7 k A->Rp h₀ K env n0 p s₀ loc st W ρ s->mY cfg c loc st=some (L,loc',st')->ka K c x=true->
 aM (aL C.prog C.w) A (se x env) (Cc h₀ K env n0 p s₀ L loc' st' ρ st W s) E s
end
section
variable{h₀:bk}{cfg:dC}{C:fE h₀ cfg}{k:Nat}
variable{prog:fA}{w:cW}{A:cP}{E:aw->ao->Prop}{s s' s₀:ao}{W W' W0:az->Prop}{ρ ρ':List az}{st st':St}{n0:Nat}{av:AV}{K:Ck}{env:fZ}{loc loc':Loc}
theorem V8{e:Expr}{c:Expr×bj×Expr×Bool}(h:DP e=some c){I:Prop}(N:∀Z p,e=.Call (.Attribute c.1 c.2.1 Z) [c.2.2.1] [] p->c.2.2.2=(Z.endLine==p.line)->I):I:=by refine aC (aZ h) λq J h=>bW h λz T o1=>?_;subst o1;exact N _ _ (ab (kn J) (ab (gL T) rfl)) rfl
theorem V7{e:Expr}{c:Expr×bj×Bool}(h:wM e=some c){I:Prop}(N:∀Z p,e=.Call (.Attribute c.1 c.2.1 Z) [] [] p->c.2.2=(Z.endLine==p.line)->I):I:=by refine aC (aZ h) λq J h=>bW h λz T r=>?_;subst r;exact N _ _ (ab (kn J) (ab (lR T) rfl)) rfl
theorem Ko{e:Expr}{c:Expr×Expr×Expr×cQ}(h:uH e=some c){I:Prop}(N:∀p,e=.ListComp c.1 [⟨c.2.1,c.2.2.1,[],0⟩] c.2.2.2 p->I):I:=by refine aC (aZ h) λq J h=>bW h λz T j=>?_;subst j;exact N _ (ab (zt J) (ab (lR T) rfl))
theorem ui{t:kR}{e:CE}{x:bC}(h:RV K t e x=true){I:Prop}(N:∀g v p,x=.Assign [g] v p->(fg K t g&&cz K 0 e v&&IF K g v)=true->I):I:=aU h λq J h=>aU h λg U h=>N _ _ _ (ab (jw J) (ab (gL U) rfl)) h
theorem J7{i j:Nat}{e:CE}{x:bC}(h:Qz K i j e x=true){I:Prop}(N:∀g g' v p,x=.Assign [g,g'] v p->(fg K (.bX i) g&&fg K (.bX j) g'&&cz K 0 e v&& !iF v)=true->I):I:=aU h λq J h=>aU h λg U h=>N _ _ _ _ (ab (jw J) (ab (my U) rfl)) h
theorem Om{i:Nat}{e:CE}{x:bC}(h:Vj K i e x=true){I:Prop}(N:∀g v p,x=.Assign [g] v p->(fg K (.bX i) g&&cz K 0 e v&& !iF v)=true->I):I:=aU h λq J h=>aU h λg U h=>N _ _ _ (ab (jw J) (ab (gL U) rfl)) h
theorem Kd{i n:Nat}{B it:CE}{x:bC}(h:QA K i B it n x=true){I:Prop}(N:∀g r b D u p p',x=.Assign [g] (.ListComp r [⟨b,D,[],0⟩] u p) p'->(fg K (.bX i) g&&cz (fP K u (.bX n)) 0 B r&&jV K u.names (.bX n) b&&cz K 2 it D&&Ek it&&ku K u)=true->I):I:=aU h λq J h=>aU h λg U h=>aU h λc S h=>Ko S λp d=>N _ _ _ _ _ _ _ (ab (jw J) (ab (gL U) (ab d rfl))) h
theorem vz{a ix e:CE}{x:bC}(h:DU K a ix e x=true){I:Prop}(N:∀y z q v p,x=.Assign [.Subscript y z q] v p->(cz K 0 a y&&cz K 0 ix z&&pY z&&cz K 0 e v&& !iF v)=true->I):I:=by refine aU h λq J h=>aU h λg U h=>?_;refine aU h λc S h=>?_;exact N _ _ _ _ _ (ab (jw J) (ab (gL U) (ab (pJ S) rfl))) h
theorem Oc{i:Nat}{op:cV}{e:CE}{x:bC}(h:Vh K i op e x=true){I:Prop}(N:∀g P v p,x=.AugAssign g P v p->(fg K (.bX i) g&&cz K 0 (.a i) g&&op==P&&cz K 0 e v)=true->I):I:=aU h λq J h=>N _ _ _ _ (BD J) h
theorem CK{i:Nat}{ix:CE}{op:cV}{e:CE}{x:bC}(h:DT K i ix op e x=true){I:Prop}(N:∀y z q P v p,x=.AugAssign (.Subscript y z q) P v p->(cz K 0 (.a i) y&&cz K 0 ix z&&pY z&&op==P&&cz K 0 e v)=true->I):I:=aU h λq J h=>aU h λc S h=>N _ _ _ _ _ _ (ab (BD J) (ab (pJ S) rfl)) h
theorem yH{e:CE}{x:bC}(h:IW K e x=true){I:Prop}(N:∀v p,x=.Return (some v) p->cz K 0 e v=true->I):I:=aU h λq J h=>aU h λv U h=>N _ _ (ab (rW J) (ab U rfl)) h
theorem EJ{B:Type}{o:Option B}(h:o.isSome=true){I:Prop}(N:∀a,o=some a->I):I:=by
 rcases o with _|a
 ·exact(aB h).elim
 ·exact N a rfl
theorem Od{x:bC}(h:Vi x=true){I:Prop}(N:∀p,x=.Break p->I):I:=EJ h λp h=>N p (Mv h)
theorem Ob{i:Nat}{e:CE}{x:bC}(h:Vg K i e x=true){I:Prop}(N:∀y n Z z p q,x=.Expr (.Call (.Attribute y n Z) [z] [] p) q->(cz K 0 (.a i) y&&n==("append":bj)&&cz K 0 e z&&bJ z&&Z.endLine==p.line)=true->I):I:=by refine aU h λq J h=>aU h λc U h=>V8 U λZ p S d=>?_;rw[d]at h;exact N _ _ _ _ _ _ (ab (ur J) (ab S rfl)) h
theorem Ou{i:Nat}{x:bC}(h:Vl K i x=true){I:Prop}(N:∀y n Z p q,x=.Expr (.Call (.Attribute y n Z) [] [] p) q->(cz K 0 (.a i) y&&n==("reverse":bj)&&Z.endLine==p.line)=true->I):I:=by refine aU h λq J h=>aU h λc U h=>V7 U λZ p S d=>?_;rw[d]at h;exact N _ _ _ _ _ (ab (ur J) (ab S rfl)) h
theorem CL{x:bC}{t:Expr}{a b:List bC}(h:RM x=some (t,a,b)){I:Prop}(N:∀p,x=.If t a b p->I):I:=by refine bW h λq J U=>?_;rcases U with⟨⟩;exact N _ (rV J)
theorem Gj{x:bC}{t:Expr}{a:List bC}(h:DQ x=some (t,a)){I:Prop}(N:∀p,x=.While t a [] p->I):I:=by refine aC (aZ h) λq J h=>bW h λu S U=>?_;rcases U with⟨⟩;exact N _ (ab (HG J) (ab (lR S) rfl))
theorem Oe{x:bC}{g i:Expr}{a:List bC}(h:Qo x=some (g,i,a)){I:Prop}(N:∀p,x=.For g i a [] p->I):I:=by refine aC (aZ h) λq J h=>bW h λu S U=>?_;rcases U with⟨⟩;exact N _ (ab (xN J) (ab (lR S) rfl))
theorem Jb{e:CE}{v:Expr}{K:Ck}(h:cz K 0 e v=true):(∀a b c d,v≠.SetComp a b c d)/\∀a b c d f,v≠.DictComp a b c d f:=by
 constructor
 ·intro a b c d q;rw[q]at h;revert h;rcases e with⟨⟩<;>exact aB
 ·intro a b c d f q;rw[q]at h;revert h;rcases e with⟨⟩<;>exact aB
theorem yI{v:Expr}{P:Prop}(V:iF v=true)(m:∀l gens u p,v=.ListComp l gens u p->P)(B:∀a b c d,v=.SetComp a b c d->P)(T:∀a b c d f,v=.DictComp a b c d f->P):P:=by rcases v with⟨⟩<;>first|exact m _ _ _ _ rfl|exact B _ _ _ _ rfl|exact T _ _ _ _ _ rfl|exact(aB V).elim
theorem Ja{e:CE}{v:Expr}{K:Ck}(h:cz K 0 e v=true)(V:iF v=true):∃l gens u p,v=.ListComp l gens u p:=
 yI V (λz z z z e=>⟨_,_,_,_,e⟩) (λz z z z e=>((Jb h).1 _ _ _ _ e).elim) λz z z z z e=>((Jb h).2 _ _ _ _ _ e).elim
theorem vQ{v:Expr}{t:Option Expr}{l:Nat}(Q:t.isSome=true)(h:iF v=false):XA v t l env=pure false:=by rcases v with⟨⟩<;>first|rfl|exact Bool.noConfusion h
theorem GZ{e:CE}{v:Expr}{t:kR}{g:Expr}{Q:kO->ao->Prop}(Z:bU C k e)(hE:bZ env K n0)(hA:i7 k A)(R:Rp h₀ K env n0 W0 s₀ loc st W ρ s)(M:ev cfg st e loc=some av)(O:cT loc t av=some loc')
 (c:fg K t g=true)(m:cz K 0 e v=true)(B:∀s',Cc h₀ K env n0 W0 s₀ .next loc' st ρ st W s .next s'->Q .next s'):
 aM (aL C.prog C.w) A (fe v env) (λx N=>aM (aL C.prog C.w) A (lj g env x) (λz=>Q .next) E N) E s:=cu (Z _ _ _ _ _ _ _ _ _ _ _ _ hE hA R.ei M m) λx N D=>fm hA.hh hE (R.step D.2.1 D.1) c O D.2.2 λT G F=>B _ ⟨W,ρ,trivial,G,(j8.ext D.2.1).trans F⟩
theorem gG{g v:Expr}{pos:eO}{Q:kO->ao->Prop}(G:(∃x p,g=.Name x p/\iF v=false)\/(∃P a b f as V p,g=.Tuple P a b/\v=.Call f as V p))
 (h:aM (aL prog w) A (fe v env) (λx N=>aM (aL prog w) A (lj g env x) (λz=>Q .next) E N) E s):aM (aL prog w) A (se (.Assign [g] v pos) env) Q E s:=by
 refine ak G (λT=>eb T λx p I F=>?_) λj=>Vx j λP a b f as V p H B=>?_;subst I;rotate_left;subst H;subst B;rotate_right
 ·refine uE (aA h (λx N D=>?_) λz z e=>e) (show XA v (some (.Name x p)) pos.line env=pure false from vQ (t:=some (.Name x p)) rfl F) rfl;exact D
 ·refine uE (aA h (λx N D=>?_) λz z e=>e) rfl rfl;exact D
theorem Cc.from{D:List az}{G:St}{Y:az->Prop}{N:ao}{L:Fl}{f:kO}(x:j8 env ρ st W s D G Y N)(h:Cc h₀ K env n0 W0 s₀ L loc' st' D G Y N f s'):Cc h₀ K env n0 W0 s₀ L loc' st' ρ st W s f s':=
 cX h λW' ρ' a b c=>⟨W',ρ',a,b,x.trans c⟩
theorem oZ{e:CE}{t:kR}{g v:Expr}{pos:eO}(Z:bU C k e)(hE:bZ env K n0)(hA:i7 k A)(R:Rp h₀ K env n0 W0 s₀ loc st W ρ s)(M:ev cfg st e loc=some av)(O:cT loc t av=some loc')
 (c:fg K t g=true)(m:cz K 0 e v=true)(Q:(∃x p,g=.Name x p/\iF v=false)\/(∃P a b f as V p,g=.Tuple P a b/\v=.Call f as V p)):
 aM (aL C.prog C.w) A (se (.Assign [g] v pos) env) (Cc h₀ K env n0 W0 s₀ .next loc' st ρ st W s) E s:=
 gG Q (GZ Z hE hA R M O c m λs' h=>h)
theorem TR{e:CE}{i j:Nat}(Z:bU C k e):md C k (.Cf i j e):=by intro K env x W0 s₀ n0 loc loc' st st' L W ρ A s E hE hA R M V;refine dn M λa J M=>dn M λl1 H M=>dn M λl2 S M=>?_;cases ay M;refine ew λY=>J7 V λg g' v pos ex I=>?_;have m:=ba (ba (ba I).1).1;refine eb (ij m.1) λx p n z=>eb (ij m.2) λP p' B z=>Y ?_;clear Y;rw[n,B]at m ex;refine ab ex<|wpAny_Assign_two (cu (Z _ _ _ _ _ _ _ _ _ _ _ _ hE hA R.ei J (ba (ba I).1).2) λx N D=>?_) rfl rfl;refine fm (t:=.bX i) (av:=a) hA.hh hE (R.step D.2.1 D.1) m.1 H D.2.2 λT G F=>fm (t:=.bX j) (av:=a) hA.hh hE G m.2 S ?_ λX U f=>⟨W,ρ,trivial,U,((j8.ext D.2.1).trans F).trans f⟩;exact D.2.2.move (λz h=>.inl h) (y7 F.keep λb q=>R.KH q) λz z h=>h
set_option tactic.hygienic true in
theorem WG{e:CE}(Z:bU C k e):md C k (.ret e):=by
 intro K env x W0 s₀ n0 loc loc' st st' L W ρ A s E hE hA R M V;refine yH V λv pos P I=>?_;subst P
 ·
  refine dn M λa J U=>?_;clear M;split at U<;>(first|(injection U;done)|(injection U with F;injection F with O H;injection H with B G;subst O;subst B;subst G));rename_i Q;exact lk (cu (Z _ _ _ _ _ _ _ _ _ _ _ _ hE hA R.ei J V) λx N D=>⟨W,ρ,⟨D.2.2,Q⟩,R.step D.2.1 D.1,.ext D.2.1⟩)
theorem WB:md C k .brk:=by
 intro K env x W0 s₀ n0 loc loc' st st' L W ρ A s E hE hA R M V;refine Od V λpos S=>ab S ?_
 ·
  simp only[(id oM),bL,gz]at M;refine eY M λc Z O=>?_;clear M;subst c;exact cA Z<|cA O<|wpAny_Break ⟨W,ρ,trivial,R,.refl⟩
theorem Kw{x:bj}{v:aw}{Q:aw->ao->Prop}(hE:bZ env K n0)(h:iq env s.heap x v)(D:Q v s)(i:(x==("__classdict__":bj))=false):aM (aL prog w) A (RC env x) Q E s:=by
 rcases h with⟨J,m,U,S⟩|⟨J|J,c,U,S⟩
 ·exact RH hE.kind J U S D
 ·exact Ut hE.kind J U S D
 ·exact Uu hE.kind J U S D i
theorem wO{op:cV}{a b:AV}(h:oG a=true):jv st op a b=jv [] op a b:=by
 rcases a with⟨⟩<;>first|exact(aB h).elim|skip
 ·rcases b with⟨⟩<;>(rcases op with⟨⟩<;>rfl)
 ·rcases b with⟨⟩<;>(rcases op with⟨⟩<;>rfl)
theorem zW{a:AV}(h:oG a=true):(∃i,a=.int i)\/∃i,a=.str i:=by rcases a with⟨⟩<;>first|exact(aB h).elim|exact .inl ⟨_,rfl⟩|exact .inr ⟨_,rfl⟩
theorem II{x:bj}{p pos:eO}{op:cV}{B:Expr}{Q:kO->ao->Prop}(h:aM (aL prog w) A (RC env x) (λY N=>aM (aL prog w) A (fe B env) (λv T=>aM (aL prog w) A (n6 op Y v)
 (λr X=>aM (aL prog w) A (lj (.Name x p) env r) (λz=>Q .next) E X) E T) E N) E s):aM (aL prog w) A (se (.AugAssign (.Name x p) op B pos) env) Q E s:=by
 have e:se (.AugAssign (.Name x p) op B pos) env=(do
  jF p
  let Y<-RC env x;let v<-ie [Y] (fe B env)
  jF pos
  let new<-Xi [Y,v] (n6 op Y v)
  lj (.Name x p) env new
  pure .next):=by
  show se (.AugAssign (.Name x p) op B pos) env=(do
   jF p
   let Y<-RC env x;let v<-ie [Y] (fe B env)
   jF pos
   let new<-Xi [Y,v] (n6 op Y v)
   (do jF p;Fq env x new)
   pure .next)
  rfl
 exact ab e<|bg (eA (bg (aA h (λY N D=>bg (gc (aA D (λv T V=>bg (eA (bg (wpAny_operateT (aA V (λr X G=>bg (aA G (λz F J=>du J) λz z e=>e)) λz z e=>e))))) λz z e=>e))) λz z e=>e)))
theorem WA{e:CE}{i:Nat}{op:cV}(Z:bU C k e):md C k (.aug i op e):=by
 intro K env x W0 s₀ n0 loc loc' st st' h W ρ A s E hE hA R M V;refine dn M λa J M=>dn M λb F M=>?_;by_cases L:oG a=true
 ·rw[if_pos L]at M;refine dn M λr d M=>dn M λl2 O M=>?_;cases ay M;refine ew λY=>Oc V λg P v pos ex I=>?_;have c:=ba (ba (ba I).1).1;refine eb (ij c.1) λx p n q=>Y ?_;clear Y;rw[n]at c ex;refine ab ex (cA (eq_of_beq (ba (ba I).1).2) ?_);have m:(K.acc.contains i&&K.tab[i]? ==some x&& !(x==("__debug__":bj))&& !(x==("__classdict__":bj)))=true:=c.2;refine ew λY=>E0 J λhi G=>aC (R.ei.vars i (pK.mp (ba (ba (ba m).1).1).1) x (eq_of_beq (ba (ba (ba m).1).1).2) a hi G) λu H S=>Y ?_;clear Y;refine II (Kw hE H ?_ (nB (ba m).2));refine cu (Z _ _ _ _ _ _ _ _ _ _ _ _ hE hA R.ei F (ba I).2) λy N D=>?_;rw[wO L]at d;refine cu (e9.p0 (n0:=n0) D.1 (Ew (S.keep D.2.1.keep) D.2.2 d (zW L))) λz T B=>?_;exact fm (prog:=C.prog) (w:=C.w) (E:=E) (t:=.bX i) (av:=r) (g:=.Name x p) hA.hh hE ((R.step D.2.1 D.1).step B.2.1 B.1) c.1 O B.2.2 (Q:=λq s'=>Cc h₀ K env n0 W0 s₀ .next loc' st ρ st W s .next s')
   λX U f=>⟨W,ρ,trivial,U,(j8.ext (D.2.1.trans B.2.1)).trans f⟩
 ·rw[if_neg L]at M;injection M
theorem w8{fr:Bool}{e:CE}{t:kR}{q:Loc->Option Bool}{l tg iter:Expr}{m8:List Expr}{u:cQ}{pos sp xp:eO}{x:bj}{avs total:List AV}{Q:kO->ao->Prop}
 (hE:bZ env K n0)(hA:i7 k A)(I:EI h₀ K.tab K.acc env W ρ n0 loc st s)(Z:Fy C k fr e)
 (M:aM (aL C.prog C.w) A (fe iter env) (λxv N=>aM (aL C.prog C.w) A (tW xv) (ya C.prog C.w A W ρ n0 s avs) E N) E s)
 (J:∀f W' loc' r s E,bZ f (fP K u t) n0->EI h₀ K.tab (fP K u t).acc f W' ρ n0 loc' st s->q loc'=some r->
   aM (aL C.prog C.w) A (forIn m8 true λc r=>if r=true then do let ok<-mT c f (fe c f);pure (bP ok)else pure (bP r)) (sU n0 s r) E s)
 (y:∀x,jg iter env x=pure x)(p:cz (fP K u t) 0 e l=true)(hg:jV K u.names t tg=true)(G:Cd K u)(g:avs.length<=20000)
 (V:gm (pU cfg st e t q loc) avs=some total)
 (hT:∀D L N,n0<=N.toks->gK s N->s.heap.get? L=none->s.heap.get? D=none->L≠D->(∃m,N.heap.Ns L m)->(∃vs,cL "list" N.heap D vs/\ft (λa=>W a\/a=L) ρ N.heap vs total/\(fr=true->vs.Nodup/\∀v∈vs,∃a,v=.ref a/\s.heap.get? a=none))->
   aM (aL C.prog C.w) A (lj (.Name x xp) env (.ref D)) (λz S=>(∀o,N.heap.get? L=some o->nt o->S.heap.get? L=some o)/\∀h',lb L S.heap h'->Q .next {S with heap:=h'}) E N)
 (hT2:∀D N,n0<=N.toks->gK s N->s.heap.get? D=none->(∃L vs,cL "list" N.heap D vs/\L≠D/\ft (λa=>W a\/a=L) ρ N.heap vs total/\(fr=true->vs.Nodup/\∀v∈vs,∃a,v=.ref a/\s.heap.get? a=none))->
   aM (aL C.prog C.w) A (lj (.Name x xp) env (.ref D)) (λz S=>Q .next S) E N):
 aM (aL C.prog C.w) A (se (.Assign [.Name x xp] (.ListComp l [⟨tg,iter,m8,0⟩] u pos) sp) env) Q E s:=by
 refine ew λY=>?_;obtain⟨b,O⟩:∃b,XA (.ListComp l [⟨tg,iter,m8,0⟩] u pos) (some (.Name x xp)) sp.line env=pure b:=⟨_,rfl⟩;refine Y ?_;clear Y;rcases b with _|_
 ·refine uE ?_ O rfl;refine qX (use:=none) hE hA I Z M J y p hg G g V ?_;refineλD L s' t' B X R U H d=>aI H λm T=>?_;clear H;refine⟨m,T,λh' i=>?_⟩;refine gB d λvs o1 j g3=>?_;clear d;refine aI o1 λn g1=>?_;exact hT2 D {s' with heap:=h'} t' ⟨cD.after B.keep (cD.Wl T i) (λb o e q=>by have q:b=L:=q;subst q;rw[X]at e;injection e),B.os,B.hJ,B.gens,B.bare⟩ R
   ⟨L,vs,⟨n,i.extBut _ _ (ib U) g1⟩,U,j.move (λz h=>.inl h) (pS λb o O e=>i.extBut b o (λq=>O (.inr q)) e) λz z e=>e,g3⟩
 ·refine ab (exec_Assign_Name_used _ _ _ _ O)<|bg (eA (bg ?_));refine bg (aA (qX (use:=some (lj (.Name x xp) env)) (Q:=λz s'=>Q .next s') hE hA I Z M J y p hg G g V ?_) (λz s' hq=>du (du hq)) λz z e=>e);exactλD L s' t' B X R U H d=>aI H λm T=>aA (hT D L s' t' B X R U ⟨m,T⟩ d) (λz S h=>⟨m,(kB T λo es ep P F q3=>⟨o,es,ep,h.1 o P (nN F),F,q3⟩),h.2⟩) λz z e=>e
theorem zV{fr:Bool}{e:CE}{t:kR}{q:Loc->Option Bool}{l b iter:Expr}{m8:List Expr}{S:cQ}{pos a xp:eO}{x:bj}{avs total:List AV}{u:kR}
 (hE:bZ env K n0)(hA:i7 k A)(R:Rp h₀ K env n0 W0 s₀ loc st W ρ s)(Z:Fy C k fr e)
 (M:aM (aL C.prog C.w) A (fe iter env) (λI N=>aM (aL C.prog C.w) A (tW I) (ya C.prog C.w A W ρ n0 s avs) E N) E s)
 (J:∀f W' loc' r s E,bZ f (fP K S t) n0->EI h₀ K.tab (fP K S t).acc f W' ρ n0 loc' st s->q loc'=some r->
   aM (aL C.prog C.w) A (forIn m8 true λc r=>if r=true then do let ok<-mT c f (fe c f);pure (bP ok)else pure (bP r)) (sU n0 s r) E s)
 (hfs:∀x,jg iter env x=pure x)(hec:cz (fP K S t) 0 e l=true)(hg:jV K S.names t b=true)(hs:Cd K S)(g:avs.length<=20000)
 (V:gm (pU cfg st e t q loc) avs=some total)(c1:fg K u (.Name x xp)=true)(O:cT loc u (.lst total)=some loc'):
 aM (aL C.prog C.w) A (se (.Assign [.Name x xp] (.ListComp l [⟨b,iter,m8,0⟩] S pos) a) env) (Cc h₀ K env n0 W0 s₀ .next loc' st ρ st W s) E s:=by
 have H:∀{p:az},s.heap.get? p=none->¬W p:=λh q=>by refine aI (R.ei.live _ q) λo Y=>?_;rw[h]at Y;injection Y
 refine w8 hE hA R.ei Z M J hfs hec hg hs g V (λD L N P y X hD U B d=>?_) λD N P y hD d=>?_
 ·refine gB d λvs o2 j z=>?_;clear d;refine aI o2 λn g1=>?_;have v:¬Mu env ρ st L:=λq=>H X (R.KH q);have S1:j8 env ρ st W s ρ st (λp=>W p\/p=L) N:=.wide y (λp h=>.inl h) λp h=>h.imp id λh=>by exact ab h<|X
  refine fm (av:=.lst total) hA.hh hE (R.wide y P (W':=λp=>W p\/p=L) (λp h=>.inl h) (λp h=>h.imp id λh=>by exact ab h<|oQ B λm o z z Y z=>⟨X,o,Y⟩)) c1 O (.lst (λh=>h.elim (H hD) λh=>U h.symm) ⟨n,g1⟩ j) λT G F=>⟨λo e Q=>F.keep.nt v e Q,λh' i=>?_⟩;exact⟨W,ρ,trivial,G.Kj (cD.ns F.keep v B.choose_spec) (H X) v (gC R.ext X) i,(S1.trans F).Kj (cD.ns F.keep v B.choose_spec) X i⟩
 ·exact s8 d λL vs o3 U j z=>aI o3 λn g1=>fm (av:=.lst total) hA.hh hE (R.step y P) c1 O (.lst (H hD) ⟨n,g1⟩ (j.move (λz h=>.inl (.inl h)) (λz z z z e=>e) λz z e=>e)) λT G F=>⟨W,ρ,trivial,G,(j8.ext y).trans F⟩
theorem Nt{e:CE}{l:Expr}{gens:List wb}{F:cQ}{pos:eO}{P:Prop}(h:cz K 0 e (.ListComp l gens F pos)=true)(m:∀B u it,e=.comp B u it->P)(D:∀B u it c,e=.z B u it c->P):P:=by rcases e with⟨⟩<;>first|exact m _ _ _ rfl|exact D _ _ _ _ rfl|exact(aB h).elim
theorem RX{e:CE}{vs:List Expr}{n:Nat}{pos:eO}{P:Prop}(h:cz K 0 e (.Tuple vs n pos)=true)(k:∀l,e=.tuple l->P):P:=by rcases e with⟨⟩<;>first|exact k _ rfl|exact(aB h).elim
theorem wA(H:Hand C k){e:CE}{t:kR}{x:bj}{d a pos:eO}{l:Expr}{gens:List wb}{X:cQ}(hE:bZ env K n0)(hA:i7 k A)(R:Rp h₀ K env n0 W0 s₀ loc st W ρ s)(M:ev cfg st e loc=some av)
 (O:cT loc t av=some loc')(Z:fg K t (.Name x d)=true)(m:cz K 0 e (.ListComp l gens X pos)=true):
 aM (aL C.prog C.w) A (se (.Assign [.Name x d] (.ListComp l gens X pos) a) env) (Cc h₀ K env n0 W0 s₀ .next loc' st ρ st W s) E s:=by
 refine Nt m (λB u it P=>?_) λB u it c P=>?_
 ·rw[P]at M m;refine ew λY=>aU (o:=uH _) m λo1 h m=>?_;rcases o1 with⟨I,b,i,F⟩;refine Ko h λD j=>?_;clear h;rcases j with⟨⟩;have V:(cz (fP K F u) 0 B I&&jV K F.names u b&&cz K 2 it i&&Ek it&&ku K F)=true:=m;have L:=ba (ba V).1;have G:=ba L.1;refine dn M λg J M=>dn M λavs U M=>dn M λT S M=>Y ?_;clear Y;rw[<-ay M]at O;refine zV (q:=λz=>some true) (e:=B) (t:=u) hE hA R (sv H B).1.elt ((sv H it).2.2 _ _ _ _ _ _ _ _ _ _ _ _ _ hE hA R.ei J U L.2 G.2) (λf W' loc' r s E J U S=>?_) (lD L.2 G.2) (ba G.1).1 (ba G.1).2 (Lv (ba V).2) (lQ U) (total:=T) ?_ Z O
  ·rcases S with⟨⟩;exact Cb ⟨rfl,U.tok,.refl _⟩
  ·refine cA S<|mm (λv=>?_) avs;rfl
 ·rw[P]at M m;refine ew λY=>Eg m λI b i y F D j=>?_;rcases j with⟨⟩;have V:(cz (fP K X u) 0 B l&&jV K X.names u b&&cz K 2 it i&&Ek it&&xH c&&cz (fP K X u) 1 c y&&ku K X)=true:=m;have Q:=ba (ba V).1;have N:=ba Q.1;have L:=ba N.1;have G:=ba L.1;refine dn M λg J M=>dn M λavs U M=>dn M λT S M=>Y ?_;clear Y;rw[<-ay M]at O;refine zV (q:=λloc'=>do cU st (<-ev cfg st c loc')) (e:=B) (t:=u) hE hA R (sv H B).1.elt ((sv H it).2.2 _ _ _ _ _ _ _ _ _ _ _ _ _ hE hA R.ei J U L.2 G.2) (λf W' loc' r s E J U S=>uP (sv H c).2.1 hA J U N.2 Q.2 S) (lD L.2 G.2) (ba G.1).1 (ba G.1).2 (Lv (ba V).2) (lQ U) (total:=T) ?_ Z O;refine cA S<|mm (λv=>?_) avs;delta pU;simp only[aj,MG,aJ]
noncomputable def T8(nm:List bj)(A B C F D:Bool):jA (Option (List bj)):=do
 if A then return none
 if B then return none
 if C then return none
 if F then return none
 if D then unsupported "assign.tuple-of-constant-expressions:order-of-the-stores"
 return some nm
theorem Dg{x y:bj}{p q H Y:eO}{u v:Expr}{M n2:Nat}(I:env.scope.kind=.function)(Z:env.kindOf x=some .local)(F:env.kindOf y=some .local)(X:p.line=q.line)(L:(x==y)=false)(i:bJ u=true)(B:bJ v=true)
 (P:([u,v].all (pP 8))=false)(V:([u,v].all (oj 8))=false):H3 [.Tuple [.Name x p,.Name y q] M H] (.Tuple [u,v] n2 Y) env=pure (some [x,y]):=by
 have O:env.blockKind=.function:=by delta fZ.blockKind;refine ab I ?_;rfl
 have Q:∀g:Expr->Option bj,(∀id pos,g (.Name id pos)=if(env.kindOf id==some .local&&pos.line==p.line)=true then some id else none)-> [zC x p,.Name y q].filterMap g= [x,y]:=by intro g d;have e1:(env.kindOf x==some .local&&p.line==p.line)=true:=ab Z<|beq_self_eq_true p.line;have e2:(env.kindOf y==some .local&&q.line==p.line)=true:=ab F<|ab X<|beq_self_eq_true q.line;exact ab (zE ((d x p).trans (if_pos e1))) (ab (zE ((d y q).trans (if_pos e2))) rfl)
 have N:([x,y].length !=2|| [x,y].eraseDups.length != [x,y].length)=false:=by have J:(y==x)=false:=ab BEq.comm<|L;have D:([y].filter λb=> !b==x)= [y]:=List.filter_cons_of_pos (p:=λb=> !b==x) (by refine ab J ?_;rfl);refine ab List.eraseDups_cons (ab D ?_);rfl
 have G:∀f:Expr->Bool,(∀e,f e= !bJ e)->([u,v].any f)=false:=by intro f e;show(f u||(f v||false))=false;refine ab (e u) (ab (e v) (ab i (ab B ?_)));rfl
 refine cX (show∃(f:Expr->Bool) (g:Expr->Option bj),(∀e,f e= !bJ e)/\(∀id pos,g (.Name id pos)=if(env.kindOf id==some .local&&pos.line==p.line)=true then some id else none)/\H3 [.Tuple [.Name x p,.Name y q] M H] (.Tuple [u,v] n2 Y) env=T8 ([zC x p,.Name y q].filterMap g) (env.blockKind !=.function) ([u,v].any f) (([zC x p,.Name y q].filterMap g).length !=2||([zC x p,.Name y q].filterMap g).eraseDups.length !=([zC x p,.Name y q].filterMap g).length) ([u,v].all (pP 8)) ([u,v].all (oj 8))from⟨_,_,λe=>by rcases e with⟨⟩<;>rfl,λz z=>rfl,rfl⟩) λf g e1 c e2=>e2.trans<|ab (Q g c) (ab N (ab (G f e1) (ab P (ab V (ab O ?_)))));rfl
theorem OE{B:Type}{l:List B}(h:l.length=2){I:Prop}(N:∀a b,l= [a,b]->I):I:=by
 cases l with
 |nil=>injection h
 |cons a l=>
  cases l with
  |nil=>cases h
  |cons b l=>
   cases l with
   |nil=>exact N a b rfl
   |cons c l=>cases h
theorem Uh{v:aw}{l:List AV}{h:bk}(x:VR W ρ h v (.tup l)){I:Prop}(N:∀a g,v=.ref a->cL "tuple" h a g->ft W ρ h g l->I):I:=by
 (rcases x with _|_|_|_|⟨o,G,X⟩;exact N _ _ rfl G X)
theorem Jd{a:List CE}{u v:Expr}(h:fV K 0 a [u,v]=true):bJ u=true/\bJ v=true:=by have:=kc h;simpa using this
theorem Ke{P vs:List Expr}(h:Df K P vs=true){I:Prop}(N:∀x p y q u v,P= [.Name x p,.Name y q]->vs= [u,v]->(K.names.lookup x==some .local&&K.names.lookup y==some .local&&p.line==q.line&& !(x==y)&& !([u,v].all (pP 8))&& !([u,v].all (oj 8)))=true->I):I:=aU h λt J h=>aU h λv U h=>aU h λx S h=>aU h λy d h=>N _ _ _ _ _ _ (ab (my J) (ab (gH S) (ab (gH d) rfl))) (my U) h
theorem IG(H:Hand C k){e:CE}{t:kR}{ts vs:List Expr}{n1 n2:Nat}{p1 p2 sp:eO}(hE:bZ env K n0)(hA:i7 k A)(R:Rp h₀ K env n0 W0 s₀ loc st W ρ s)(M:ev cfg st e loc=some av)
 (O:cT loc t av=some loc')(c:fg K t (.Tuple ts n1 p1)=true)(m:cz K 0 e (.Tuple vs n2 p2)=true)(c3:Df K ts vs=true):
 aM (aL C.prog C.w) A (se (.Assign [.Tuple ts n1 p1] (.Tuple vs n2 p2) sp) env) (Cc h₀ K env n0 W0 s₀ .next loc' st ρ st W s) E s:=by
 refine Ke c3 λx p y q u v o2 o3 c3=>?_;subst o2;subst o3
 ·have c3:(K.names.lookup x==some .local&&K.names.lookup y==some .local&&p.line==q.line&& !(x==y)&& !([u,v].all (pP 8))&& !([u,v].all (oj 8)))=true:=c3;simp only[au,fv]at c3;refine aN c3 λo4 d6=>?_;clear c3;refine aN o4 λg d5=>aN g λT L=>aN T λu4 G=>aN u4 λd1 d2=>?_;clear c3;have d1:=beq_iff_eq.mp d1;have d2:=beq_iff_eq.mp d2;have G:=beq_iff_eq.mp G;have k1:env.kindOf x=some .local:=by delta iM;exact ab hE.names<|d1
  have k2:env.kindOf y=some .local:=by delta iM;exact ab hE.names<|d2
  have hst:bJ u=true/\bJ v=true:=by refine RX m λl ee=>?_;rw[ee]at m;have hc:(decide (l.length<=1000)&&fV K 0 l [u,v])=true:=m;exact Jd (ba hc).2
  rcases t with i|is
  ·exact absurd c (λh=>aB h)
  ·refine ew λY=>kB (rN c) λes _ _ e1 g0 f=>?_;clear c;injection e1 with F;subst F;refine OE g0.symm λi j S=>?_;subst S;refine Y ?_;clear Y
   ·refine ew λY=>aN (ba (a:=qG K K.names i _) f) λga gb=>?_;clear f;refine cX (ij ga) λ_ _ e2 f _=>?_;injection e2 with F;subst F;refine cX (ij (ba (a:=qG K K.names j _) gb).1) λ_ _ e2 g2 _=>?_;clear gb;injection e2 with F;subst F;refine Y ?_;clear Y;have J:i≠j:=by
     intro o6;subst o6;rw[f]at g2;injection g2 with F;subst F;simp at L
    refine bg (eA ?_);refine bg (du ?_);refine bg (cu ((sv H e).1 _ _ _ _ _ _ _ _ _ _ _ _ hE hA R.ei M m) λz N D=>?_);clear M;refine ab (Dg hE.kind k1 k2 G L hst.1 hst.2 d5 d6)<|bg (du ?_);have Z:=R.step D.2.1 D.1;refine ew λY=>?_;obtain⟨l,rfl⟩:∃l,av=.tup l:=by rcases av with⟨⟩<;>first|exact⟨_,rfl⟩|(injection O;done)
    simp only[(id sj)]at O;refine Uh D.2.2 λa us o7 o8 d=>?_;subst o7;refine aI o8 λn hs=>?_;have B:=lV O;refine OE B λa1 a2 o9=>?_;subst o9;refine OE d.length λI v2 r=>?_;subst r;refine Y ?_;clear Y
    ·show aM _ A (do rule "assign.swapped-stores";let items<-unpackItems (.ref a) 2 none;HW [Fq env y,Fq env x] items.reverse;(pure Xu:jA kO)) _ _ N;refine bg (wpAny_rule (bg (unpackItems_tuple (items:= #[I,v2]) hA.hh ⟨_,hs,rfl,n,rfl⟩ λh' he=>?_)));have X:iu N.heap h':=λb o e=>he b o (λq=>by subst q;rw[cO]at e;injection e) e;have hO:∀(z:bj),K.names.lookup z=some .local->∃ad,mi env z ad/\j7 env ad:=λz hz=>hE.own (.inl hz);refine bg ?_;have V:Rp h₀ K env n0 W0 s₀ loc st W ρ {N with heap:=h'}:=Z.step (.of (s:=N) (tk:=N.toks) X) Z.ei.tok;refine bY (s:={N with heap:=h'}) Z.ei.tok (xB (own:=j7 env) (tab:=K.tab) (P:=CV K.acc loc) hE.kind hE.Q R.own [(j,y,Fq env y),(i,x,Fq env x)] [v2,I] [a2,a1] _ ?_ rfl V.ei.frame (ni.mp V.ei.vars) ((d.reverse).keep X.k) λs' U F' P' ht=>?_)
     ·intro q hq;simp only[aS,dy,or_false]at hq;refine ak hq (λg=>?_) λT=>?_;subst g;rotate_left;subst T;rotate_right
      ·exact⟨g2,hO y d2,λv Q s h=>YY h⟩
      ·exact⟨f,hO x d1,λv Q s h=>YY h⟩
     ·refine du ⟨W,ρ,trivial,V.Rh U F' ?_ ht,(j8.ext (D.2.1.trans (.of (s:=N) (tk:=N.toks) X))).trans (.Rh U V.ei.frame)⟩;rw[y8 J]at O;have:=ni.mpr (P'.mono (tA (acc:=K.acc) O));exactλi hi x hx a ha hu=>this i (fo _ hi) x hx a ha hu
theorem Wz(H:Hand C k){e:CE}{t:kR}:md C k (.cI t e):=by
 intro K env x W0 s₀ n0 loc loc' st st' D W ρ A s E hE hA R M V;refine ew λY=>ui V λg v pos L I=>?_;subst L;clear V;simp only[au]at I;refine aN I λZ o=>?_;clear I;refine aN Z λc m=>?_;clear Z;refine dn M λav J M=>dn M λl2 U M=>Y ?_;clear Y;cases ay M;by_cases Q:∃x p,g=.Name x p
 ·refine ej Q λx p n=>?_;clear Q;subst n;by_cases X:∃l gens u q,v=.ListComp l gens u q
  ·refine JG X λl gens u q F=>?_;clear X;subst F;exact wA H hE hA R J U c m
  ·have B:iF v=false:=by
    rcases hv:iF v with _|_
    ·rfl
    ·exact absurd (Ja m hv) X
   exact oZ (sv H e).1 hE hA R J U c m (.inl ⟨x,p,rfl,B⟩)
 ·rcases hg:kU g with _|q
  ·simp only[IF,hg]at o;refine aU o λt1 S o=>?_;cases rT S;rcases hv:xM v with _|G
   ·rw[hv]at o;refine EJ o λq d=>?_;cases sQ d;exact oZ (sv H e).1 hE hA R J U c m (.inr ⟨_,_,_,_,_,_,_,rfl,rfl⟩)
   ·simp only[hv]at o;cases rT hv;exact IG H hE hA R J U c m o
  ·exact absurd ⟨_,_,gH hg⟩ Q
def XC(W:az->Prop)(ρ:List az)(n0:Nat)(s:ao)(l:List AV):aw->ao->Prop:=λv s'=>n0<=s'.toks/\gK s s'/\∃a vs,v=.ref a/\s.heap.get? a=none/\cL "list" s'.heap a vs/\ft (λp=>W p\/p=a) ρ s'.heap vs l
theorem qy{es:List CE}{xs:List Expr}{pos:eO}{l:List AV}(Z:∀e∈es,bU C k e)(hE:bZ env K n0)(hA:i7 k A)(I:EI h₀ K.tab K.acc env W ρ n0 loc st s)(M:so cfg st es loc=some l)(V:cz K 0 (.list es) (.List xs pos)=true):
 aM (aL C.prog C.w) A (fe (.List xs pos) env) (XC W ρ n0 s l) E s:=by
 have V:(decide (es.length<=1000)&&fV K 0 es xs)=true:=V;simp only[au,decide_eq_true_eq]at V;refine wpAny_List (gW es Z _ _ _ _ _ _ _ _ _ _ _ _ _ _ hE hA I M V.2 λvs N P y d=>⟨?_,?_⟩)
 ·exact ab d.length<|ab (nJ M)<|aP V.1 (by decide)
 ·refine⟨P,y.trans (.of (s:=N) (tk:=N.toks) (bO.push _ _)),_,vs,rfl,gC y (cO _),⟨0,bV _ rfl⟩,d.move (λp h=>h.imp id λh=>by exact ab h<|cO _) (λb T vs z Y=>aI Y λn h=>⟨n,bO.push _ _ b _ h⟩) λz z h=>h⟩
theorem yA{l:List CE}{x:Expr}{m:List AV}(X:∀e∈l,bU C k e)(hE:bZ env K n0)(hA:i7 k A)(I:EI h₀ K.tab K.acc env W ρ n0 loc st s)(M:ev cfg st (.G l) loc=some (.lst m))(V:cz K 0 (.G l) x=true):
 aM (aL C.prog C.w) A (fe x env) (XC W ρ n0 s m) E s:=by
 refine bY I.tok<|ew λY=>Kc V λf p g p' xs L pos o1=>?_;subst o1;have V:(rn K "list" f&&rn K "range" g&&fV K 0 l xs&& !l.isEmpty)=true:=V;simp only[au]at V;refine aN V λo2 h=>?_;clear V;refine aN o2 λH o=>aN H λc1 c2=>?_;clear V;clear o2;refine Y ?_;clear Y;have hne:xs≠ []:=by intro o3;subst o3;(rcases l with _|⟨e,l⟩;(exact(aB h).elim);exact(aB o).elim)
 simp only[(id fD),aj,bF,aJ,bL,AV.lst.injEq]at M;refine ew λY=>?_;obtain⟨avs,J,rl',U,rfl⟩:=M;refine Y ?_;clear Y;refine dE (lu (v:=.type "list") hE c1 (om rfl) I.base ?_);refine dX rfl (dH (dP ?_));refine dE (lu (v:=.type "range") hE c2 (by simp[lM]) I.base ?_);have Z:=kc o;have hpl:=nD (pos:=L) (env:=env) Z;refine dX hpl (lB Z hne ?_);refine gW l X _ _ _ _ _ _ _ _ _ _ _ _ _ _ hE hA I J o λvs N P e₁ d=>qE d U λa b c t u v r T i R G hsm hsz hn X=>e7<|Yb hA.hh G hsm hsz (by lia) λh' tk q c' hk hS' O=>λQ=>⟨Q,(e₁.trans i).trans (.of hk),_,q.toList,rfl,gC (e₁.trans i) (cO _),⟨c',hS'⟩,?_⟩;refine ab X ?_;have B:q.toList.length=rl'.length:=by simp[O.1]
 have S:∀(W:az->Prop) (n:Nat) (D:List aw) (z:Int),D.length=n->(∀(j:Nat) (v:aw),D[j]? =some (v:aw)->∃t:nZ,v=cy (z+(j:Int)*c) t)->ft W ρ h' D ((gV z c n).map AV.int):=by
  intro W n
  induction n with
  |zero=>exactλD z F _=>ab (dD F)<|.nil
  |succ n ih=>
   intro D z F hz;rcases D with _|⟨y,r⟩
   ·injection F
   ·refine aI (hz 0 y rfl) λt e=>?_;have e':y=.int z t:=by simpa using e
    refine ab e' ?_;have:=ih r (z+c) (by simpa using F) λj v hv=>by
     refine aI (hz (j+1) v (by simpa using hv)) λt e=>⟨t,?_⟩;refine ab e ?_;congr 1;push_cast;refine ab (g8 ..) ?_;lia
    have er:(gV z c (n+1)).map AV.int=AV.int z::(gV (z+c) c n).map AV.int:=by
     delta gV;refine ab j0 ?_;simp only[bI,fi,iJ];congr 1
     ·simp
     ·apply jn;intro j _;congr 1;push_cast;refine ab (g8 ..) ?_;lia
    exact ab er<|.cons (.int _ _) this
 exact S _ _ _ _ B λj v hv=>O.2 j v (by simpa using hv)
theorem AK{e:CE}{P:Prop}(h:vB e=true)(m:∀l,e=.list l->P)(B:∀l,e=.G l->P):P:=
 (jm.mp h).elim (λh=>CE.yr (motive_1:=λe=>(∀l,e=.list l->P)->P) e (eq_of_beq h) (λl k=>k l rfl) m) λh=>CE.Jn (motive_1:=λe=>(∀l,e=.G l->P)->P) e (eq_of_beq h) (λl k=>k l rfl) B
theorem En{vs:List aw}(h:vs.length<=cB):vs.toArray.size<=mJ:=by simp;exact mV h
theorem VR.yX{h:bk}{v:aw}{n:Nat}(x:VR W ρ h v (.ref n)){I:Prop}(N:∀a,v=.ref a->ρ[n]? =some a->I):I:=by
 rcases x with _|_|_|_|_|_|X
 ·exact N _ rfl X
theorem WE(H:Hand C k){e:CE}{i:Nat}:md C k (.new i e):=by
 intro K env x W0 s₀ n0 loc loc' st st' L W ρ A s E hE hA R M V;refine dn M λl J M=>?_;replace J:=Kz J;rcases hnew:vB e with _|_
 ·have M:(if vB e=true then _ else none)=some (L,loc',st'):=M;rw[hnew]at M;injection M
 ·have M:(if vB e=true then(ek loc i (.ref st.length)).bind λq=>some (Fl.next,q,st++ [some l])else none)=some (L,loc',st'):=M;rw[hnew]at M;refine dn M λl2 U M=>?_;have e1:l2=loc':=congrArg (·.2.1) (ay M);have e2:st++ [some l]=st':=congrArg (·.2.2) (ay M);have Q:Fl.next=L:=congrArg (·.1) (ay M);refine cA e2 (cA Q ?_);rw[e1]at U;refine ew λY=>Om V λg v pos ex I=>?_;have m:=(ba (ba I).1).2;have c:=(ba (ba I).1).1;refine eb (ij c) λu d S z=>Y ?_;clear Y;rw[S]at ex c;refine ab ex<|gG (.inl ⟨_,_,rfl,by simpa using(ba I).2⟩) ?_;have fin:∀v N,XC W ρ n0 s l v N->aM (aL C.prog C.w) A (lj (.Name u d) env v) (λz=>Cc h₀ K env n0 W0 s₀ .next loc' (st++ [some l]) ρ st W s .next) E N:=λv N o=>by
   obtain⟨P,y,a,vs,r,f,hs,D⟩:=o;refine ab r<|R.KL y P (as:= [a]) (ls:= [l]) rfl (by simp) (by simpa using f) (X:=λz=>False) (λp h=>h.elim) (λj a' l' J U=>by
    rcases j with _|j
    ·injection J with O;subst O;injection U with O;subst O;exact⟨vs,hs,D.move (λp h=>.inl (h.elim (λh=>h.imp id λh=>by simpa using h) mF)) (λz z z z e=>e) λn b e=>bp (cM (aQ.mp e).1)<|e⟩
    ·injection J) λZ S1 z=>?_
   exact fm (t:=.bX i) (av:=.ref st.length) hA.hh hE Z c U (.ref (by refine bp (bG (ab R.len<|aV _)) (ab R.len ?_);simp)) λT G F=>⟨_,_,trivial,G,S1.trans F⟩
  refine AK hnew (λes e=>?_) λes e=>?_
  ·rw[e]at J m;refine ew λY=>bW J λl' J B=>?_;rcases B with⟨⟩;refine yG m λxs p ev=>Y ?_;clear Y;rw[ev]at m⊢;exact aA (qy (UD H es) hE hA R.ei J m) fin λz z e=>e
  ·rw[e]at J m;exact aA (yA (UD H _) hE hA R.ei J m) fin λz z e=>e
theorem zo{h:bk}{a:az}(f:Array aw->Array aw){vs vs':List aw}{l:List AV}{W':az->Prop}(hW:W' a)(D:ft W' ρ h vs' l):ft W' ρ (h.update a (wz f)) vs' l:=
 D.move (λz h=>.inl h) (pS λb o O h=>(fN ..).extBut b o (λq=>O (q▸hW)) h) λz z h=>h
theorem Ls(H:Hand C k){a ix e:CE}:md C k (.K a ix e):=by
 intro K env x W0 s₀ n0 loc loc' st st' L W ρ A s E hE hA R M hc;refine dn M λav J M=>dn M λr U M=>dn M λn G M=>dn M λF S M=>dn M λi hi M=>dn M λl d M=>?_;rw[oX G]at U;rw[iE hi]at S;by_cases O:0<=i/\i<l.length/\l.length<=cB
 ·rw[if_pos O]at M;cases ay M;refine vz hc λy z q v pos ex I=>?_;have c:=ba (ba (ba (ba I).1).1).1;refine ab ex<|M8 (cu ((sv H e).1 _ _ _ _ _ _ _ _ _ _ _ _ hE hA R.ei J (ba (ba I).1).2) λu N D=>?_) (vQ (t:=some _) rfl (by simpa using(ba I).2));have p:=R.step D.2.1 D.1;refine cu ((sv H a).1 _ _ _ _ _ _ _ _ _ _ _ _ hE hA p.ei U c.1) λov T B=>?_;have V:=p.step B.2.1 B.1;refine cu ((sv H ix).1 _ _ _ _ _ _ _ _ _ _ _ _ hE hA V.ei S c.2) λiv o Z=>cX ((V.step Z.2.1 Z.1).ei.store n l (fF d)) λad vs f P g3=>aI P λm j=>B.2.2.yX λh ho X=>Z.2.2.dK λti hi=>?_;rw[X]at f;rcases f with⟨⟩;refine ab ho (ab hi ?_);have g:l.length<=10000:=O.2.2;have Y:i<vs.length:=ab g3.length<|O.2.1;refine ki_setAt j O.1 (by lia) (by simp;omega+splitDisjunctions) ?_;refine(V.step Z.2.1 Z.1).Po (l':=l.set i.toNat av) (vs':=vs.set i.toNat u) (h':=o.heap.update ad (wz (·.setIfInBounds i.toNat u))) (fF d) X (fN ..) ⟨_,by simpa using wu j (·.setIfInBounds i.toNat u)⟩
   (zo (vs:=vs) _ ((V.step Z.2.1 Z.1).KH (.inr ⟨n,l,(fF d),X⟩)) (ft.set g3 ((D.2.2.keep B.2.1.keep).keep Z.2.1.keep))) λb Q=>?_
  exact⟨W,ρ,trivial,b,(j8.ext ((D.2.1.trans B.2.1).trans Z.2.1)).trans Q⟩
 ·rw[if_neg O]at M;injection M
theorem A3{i:Nat}{y:Expr}(h:cz K 0 (.a i) y=true):fS y=true:=by refine qA h λx p e=>ab e ?_;rfl
theorem Wy(H:Hand C k){i:Nat}{e:CE}:md C k (.app i e):=by
 intro K env x W0 s₀ n0 loc loc' st st' L W ρ A s E hE hA R M V;refine dn M λav J M=>dn M λr U M=>dn M λn G M=>dn M λl d M=>?_;simp only[oX G]at U;by_cases O:l.length<=cB
 ·rw[if_pos O]at M;cases ay M;refine Ob V λy nm g z p q ex I=>?_;have o:=ba (ba (ba I).1).1;refine ab ex<|ab (eq_of_beq (ba o.1).2)<|Ft ?_ (by delta tU;refine ab hE.kind ?_;rfl) rfl;refine xP (iA (A3 (ba o.1).1)) (cY (ba (ba I).1).2) ((ba I).2) (cu ((sv H (.a i)).1 _ _ _ _ _ _ _ _ _ _ _ _ hE hA R.ei U (ba o.1).1) λv N D=>?_);have Z:=R.step D.2.1 D.1;refine ew λY=>cX (Z.ei.store n l (fF d)) λad vs f S t=>aI S λm j=>D.2.2.yX λh c X=>?_;rw[X]at f;rcases f with⟨⟩;refine Y ?_;clear Y;refine ab c<|⟨"list","list.append",F.plainAttrs_list,F.slot_list_append,F.type_list_append,⟨_,j,rfl⟩,(λa e=>by rcases e with⟨⟩;exact⟨_,j,rfl⟩),?_⟩;refine P.append_list (cu ((sv H e).1 _ _ _ _ _ _ _ _ _ _ _ _ hE hA Z.ei J o.2) λu T B=>?_);refine⟨vs.toArray,m,En (ab t.length<|O),(B.2.1.keep.nt j (i8 rfl)),?_⟩;refine(Z.step B.2.1 B.1).Po (l':=l++ [av]) (vs':=vs++ [u]) (h':=T.heap.update ad (wz (·.push u))) (fF d) X (fN ..) ⟨_,by simpa using wu (B.2.1.keep.nt j (i8 rfl)) (·.push u)⟩
   (zo (vs:=vs) _ ((Z.step B.2.1 B.1).KH (.inr ⟨n,l,(fF d),X⟩)) (ft.append (t.keep B.2.1.keep) (.cons B.2.2 .nil))) λb Q=>?_
  exact⟨W,ρ,trivial,b,(j8.ext (D.2.1.trans B.2.1)).trans Q⟩
 ·rw[if_neg O]at M;injection M
theorem WH(H:Hand C k){i:Nat}:md C k (.rev i):=by
 intro K env x W0 s₀ n0 loc loc' st st' L W ρ A s E hE hA R M V;refine dn M λr U M=>dn M λn G M=>dn M λl d M=>?_;simp only[oX G]at U;by_cases O:l.length<=cB
 ·rw[if_pos O]at M;cases ay M;refine Ou V λy nm J p q ex I=>ab ex<|ab (eq_of_beq (ba (ba I).1).2)<|Ft ?_ (by delta tU;refine ab hE.kind ?_;rfl) rfl;refine xO (iA (A3 (ba (ba I).1).1)) ((ba I).2) (cu ((sv H (.a i)).1 _ _ _ _ _ _ _ _ _ _ _ _ hE hA R.ei U (ba (ba I).1).1) λv N D=>?_);have Z:=R.step D.2.1 D.1;refine ew λY=>cX (Z.ei.store n l (fF d)) λad vs f c t=>aI c λm j=>D.2.2.yX λh B X=>?_;rw[X]at f;rcases f with⟨⟩;refine Y ?_;clear Y;refine ab B<|⟨"list","list.reverse",F.plainAttrs_list,F.slot_list_reverse,F.type_list_reverse,⟨_,j,rfl⟩,(λa e=>by rcases e with⟨⟩;exact⟨_,j,rfl⟩),?_⟩;refine P.reverse_list j ?_ (En (ab t.length<|O));refine Z.Po (l':=l.reverse) (vs':=vs.reverse) (h':=N.heap.update ad (wz λx=>x.reverse)) (fF d) X (fN ..) ⟨_,by simpa using wu j (λx=>x.reverse)⟩
   (zo (vs:=vs) _ (Z.KH (.inr ⟨n,l,(fF d),X⟩)) (ft.reverse t)) λb Q=>?_
  exact⟨W,ρ,trivial,b,(j8.ext D.2.1).trans Q⟩
 ·rw[if_neg O]at M;injection M
theorem F0{i:Nat}{ix e:CE}{op:cV}{L:Fl}{P:Prop}(h:mY cfg (.Z i ix op e) loc st=some (L,loc',st'))(k:∀n j l x v y,ev cfg st (.a i) loc=some (.ref n)->ev cfg st ix loc=some (.int j)->(st[n]?).join=some l->l[j.toNat]? =some x->ev cfg st e loc=some v->
 jv st op x v=some y->(0<=j/\j<l.length/\l.length<=cB/\oG x=true)->L=.next->loc'=loc->st'=st.set n (some (l.set j.toNat y))->P):P:=by
 refine dn h λa J h=>dn h λn U h=>dn h λb S h=>dn h λj d h=>dn h λl B h=>dn h λx X h=>dn h λv V h=>dn h λy Z h=>?_;by_cases O:0<=j/\j<l.length/\l.length<=cB/\oG x=true
 ·rw[if_pos O]at h;exact k n j l x v y (ab J (ab (oX U) rfl)) (ab S (ab (iE d) rfl)) B X V Z O (congrArg (·.1) (ay h)).symm (congrArg (·.2.1) (ay h)).symm (congrArg (·.2.2) (ay h)).symm
 ·rw[if_neg O]at h;injection h
theorem FC{z:Expr}(h:pY z=true):∀v D new,augStore z v D new=(do ie [new,v,D] (setItem v D new);release [new,v,D] [];pure Xu):=by intro v D new;rcases z with⟨⟩<;>first|rfl|exact(aB h).elim
theorem Lq(H:Hand C k){i:Nat}{ix:CE}{op:cV}{e:CE}:md C k (.Z i ix op e):=by
 intro K env x W0 s₀ n0 loc loc' st st' L W ρ A s E hE hA R M hc;refine F0 M λn j l a av r U S d h5 J h6 O e1 e2 c=>ab e1<|ab e2<|ab c<|CK hc λy z q P v pos ex I=>?_;have c3:=ba (ba (ba I).1).1;refine ab ex (cA (eq_of_beq (ba (ba I).1).2) ?_);have g:l.length<=10000:=O.2.2.1;refine wpAny_AugAssign_SubscriptAny (cu ((sv H (.a i)).1 _ _ _ _ _ _ _ _ _ _ _ _ hE hA R.ei U (ba c3.1).1) λov N D=>?_) (FC c3.2);have R1:=R.step D.2.1 D.1;refine cu ((sv H ix).1 _ _ _ _ _ _ _ _ _ _ _ _ hE hA R1.ei S (ba c3.1).2) λiv T B=>?_;have V:=R1.step B.2.1 B.1;refine cX (V.ei.store n l (fF d)) λad vs f o1 t=>aI o1 λm g2=>D.2.2.yX λad' ho X=>B.2.2.dK λti hi=>?_;rw[X]at f;rcases f with⟨⟩;refine ab ho (ab hi ?_);have hjl:j<vs.length:=ab t.length<|O.2.1;refine aC (t.get h5) λp w1 w2=>UY (MZ (n:=m) g2) O.1 (by omega+splitDisjunctions) (x:=p) (by simpa using w1)<|cu ((sv H e).1 _ _ _ _ _ _ _ _ _ _ _ _ hE hA V.ei J (ba I).2) λu s₃ Z=>?_;have R3:=V.step Z.2.1 Z.1;rw[wO O.2.2.2]at h6;refine cu (e9.p0 (n0:=n0) Z.1 (Ew (w2.keep Z.2.1.keep) Z.2.2 h6 (zW O.2.2.2))) λz F G=>ki_setAt (G.2.1.keep.nt (Z.2.1.keep.nt g2 (i8 rfl)) (i8 rfl)) O.1 (by omega+splitDisjunctions) (by simp;omega+splitDisjunctions) ?_;refine(R3.step G.2.1 G.1).Po (l':=l.set j.toNat r) (vs':=vs.set j.toNat z) (h':=F.heap.update ad (wz (·.setIfInBounds j.toNat z))) (fF d) X (fN ..) ⟨_,by simpa using wu (G.2.1.keep.nt (Z.2.1.keep.nt g2 (i8 rfl)) (i8 rfl)) (·.setIfInBounds j.toNat z)⟩
  ((ft.set ((t.keep Z.2.1.keep).keep G.2.1.keep) G.2.2).move (λ_ h=>.inl h) (pS λb o O h=>(fN ..).extBut b o (λq=>O (q▸(R3.step G.2.1 G.1).KH (.inr ⟨n,l,(fF d),X⟩))) h) λ_ _ h=>h) λY Q=>?_
 exact⟨W,ρ,trivial,Y,(j8.ext (((D.2.1.trans B.2.1).trans Z.2.1).trans G.2.1)).trans Q⟩
theorem qY{loc:Loc}{es:List CE}:∀{l:List AV},pv es=some l->so cfg st es loc=some l/\∀a∈l,∃i,a=.int i:=by
 induction es with
 |nil=>intro l h;injection h with F;subst F;exact⟨rfl,λa L=>nomatch L⟩
 |cons e es R=>
  intro l h;refine aC (aZ h) λi J h=>bW h λq U r=>cA r ?_;cases FQ J;refine aN (R U) λf j=>⟨?_,λa L=>?_⟩
  ·show(so cfg st es loc).bind _=_;refine ab f ?_;rfl
  ·refine ak (aS.mp L) (λL=>?_) λL=>?_
   ·exact⟨i,L⟩
   ·exact j a L
theorem vq{W W':az->Prop}{ρ ρ':List az}{h h':bk}:∀{l:List AV} {g:List aw},(∀a∈l,∃i,a=AV.int i)->ft W ρ h g l->ft W' ρ' h' g l/\∀u∈g,∃i t,u=cy i t:=by
 intro G
 induction G with
 |nil=>
  intro g X x;rcases x with⟨⟩;exact⟨.nil,λu N=>nomatch N⟩
 |cons a l P=>
  intro g X x;refine aI (X a aH) λi B=>?_;subst B;rcases x with _|⟨p,q⟩
  ·rcases p with _|_|⟨_,t⟩
   ·refine aN (P (λa L=>X a (ax _ L)) q) λf j=>⟨.cons (.int _ _) f,λu N=>?_⟩;refine ak (aS.mp N) (λH=>?_) λN=>?_;refine ab H ?_
    ·exact⟨_,_,rfl⟩
    ·exact j u N
theorem O0{h:bk}{r:List AV}:∀{m:Nat} {vs:List aw},ft W ρ h vs (bw m (.lst r))->∃rs:List az,vs=rs.map .ref/\rs.length=m/\∀b∈rs,¬W b/\∃g,cL "list" h b g/\ft W ρ h g r:=by
 intro G
 induction G with
 |zero=>
  intro vs x;rcases x with⟨⟩;exact⟨[],rfl,rfl,λb O=>nomatch O⟩
 |succ m P=>
  intro vs x;simp only[HJ]at x;rcases x with _|⟨p,q⟩
  ·refine gB (P q) λrs D U S=>ab D ?_;rcases p with _|_|_|_|_|⟨o,B,X⟩
   ·refine⟨_::rs,rfl,dN ((λ{a b}=>tS.mp) (congrArg Nat.succ (congrFun (congrArg BG (id (dN U))) 1))),λb O=>?_⟩;refine ak (aS.mp O) (λH=>?_) λO=>?_;refine ab H ?_
    ·exact⟨o,_,B,X⟩
    ·exact S b O
theorem FT{f:AV->Option (Option AV)}{b:AV}:∀{l:List AV},(∀a∈l,f a=some (some b))->gm f l=some (bw l.length b):=by
 intro G
 induction G with
 |nil=>
  exactλz=>rfl
 |cons a l P=>
  intro h;simp only[(id ql),h a aH,aj,af,P λc V=>h c (ax _ V)];rfl
theorem OY{W:az->Prop}{ρ:List az}{h:bk}:∀{rs:List az} {b:Nat},(∀(j:Nat) (a:az),rs[j]? =some a->ρ[b+j]? =some a)->ft W ρ h (rs.map .ref) ((aG rs.length).map λj=>AV.ref (b+j)):=by
 intro G
 induction G with
 |nil=>
  intro b z;exact .nil
 |cons a rs P=>
  intro b hh;have R:=P λj I e=>by
   have:=hh (j+1) I (e);refine cA this ?_;congr 1;exact dS b j
  simp only[bu,j0,bI,bI,fi];refine .cons (.ref (hh 0 a rfl)) ?_;have:((λj=>AV.ref (b+j))∘Nat.succ)=λj=>AV.ref (b+1+j):=by funext j;simp only[Function.comp];congr 1;exact dN (dS b j)
  exact ab this<|R
theorem NO{i n:Nat}{B it:CE}{L:Fl}{P:Prop}(h:mY cfg (.GG i B it n) loc st=some (L,loc',st'))(k:∀es l F avs,B=.list es->pv es=some l->ev cfg st it loc=some F->fQ st F=some avs->n<loc.length->ek loc i (.ref (st.length+avs.length))=some loc'->L=.next->st'=st++(oU st.length avs.length l).map some->P):P:=by
 refine dn h λl G h=>dn G λes Z D=>dn h λF J h=>dn h λavs U h=>?_;by_cases Q:n<loc.length
 ·rw[if_pos Q]at h;refine dn h λl2 S h=>?_;have e1:l2=loc':=congrArg (·.2.1) (ay h);exact k es l F avs (Gs Z) D J U Q (e1▸S) (congrArg (·.1) (ay h)).symm (congrArg (·.2.2) (ay h)).symm
 ·rw[if_neg Q]at h;injection h
theorem NH(H:Hand C k){es:List CE}:Fy C k true (.list es):=λK env x loc av W ρ n0 st A s E J U S d O=>by
 refine ew λY=>yG O λz z e=>bW d λl' d B=>Y ?_;clear Y;rw[e]at O⊢;refine cA B<|aA (qy (UD H es) J U S d O) (λv s' q=>?_) λz z e=>e;refine ew λY=>?_;obtain⟨t',B,a,vs,D,L,G,I⟩:=q;refine Y ?_;clear Y;refine ab D ?_;have F:¬W a:=λq=>by
  refine aI (S.live a q) λo M=>?_;rw[L]at M;injection M
 exact⟨⟨t',B,.lst F G (I.move (λz h=>.inl (.inl h)) (λz z z z e=>e) λz z e=>e)⟩,λz=>⟨a,rfl,L,aI G λm h=>⟨_,h⟩⟩⟩
theorem Pl{h:bk}{D:az}{g vs:List aw}(x:cL "list" h D g)(y:cL "list" h D vs):g=vs:=by refine aI x λm1 f=>aI y λm2 j=>?_;rw[f]at j;injection(congrArg hC.data (ay j))with S;exact congrArg Array.toList S
theorem GF{k m:Nat}{l l':List AV}{j:Nat}(h:(oU k m l)[j]? =some l'):(j<m/\l'=l)\/(j=m/\l'=(aG m).map λj=>AV.ref (k+j)):=by
 delta oU at h;refine ak (tR j m) (λY=>?_) λY=>?_
 ·rw[cM (ab pL<|Y)]at h;exact .inl ⟨Y,zD (aW h)⟩
 ·rw[bG (ab pL<|Y),pL]at h;rcases e:j-m with _|i
  ·rw[e]at h;injection h with F;exact ab F<|.inr ⟨by grind,rfl⟩
  ·rw[e]at h;injection h
theorem A0(R:Rp h₀ K env n0 W0 s₀ loc st W ρ s){l:List AV}(G:∀a∈l,∃i,a=AV.int i){m:Nat}{X:az->Prop}{D:az}{N:ao}{vs:List aw}(u:∀p,X p->s.heap.get? p=none/\∃o,N.heap.get? p=some o)(P:n0<=N.toks)(y:gK s N)(hD:s.heap.get? D=none)(Q:¬X D)(r:cL "list" N.heap D vs)
 (hXW:∀p,X p->W' p)(d:ft W' ρ N.heap vs (bw m (.lst l)))(V:vs.Nodup)(n:∀v∈vs,∃a,v=.ref a/\s.heap.get? a=none){I:Prop}(K_:∀as,(Rp h₀ K env n0 W0 s₀ loc (st++(oU st.length m l).map some) (λp=>(W p\/p∈as)\/X p) (ρ++as) N)->(j8 env ρ st W s (ρ++as) (st++(oU st.length m l).map some) (λp=>(W p\/p∈as)\/X p) N)->(ρ++as)[st.length+m]? =some D->((∀p,X p->p∉as))->(∀p,Mu env (ρ++as) (st++(oU st.length m l).map some) p->Mu env ρ st p\/p∈as)->I):I:=by
 refine gB (O0 d) λrs hv M c=>?_;rw[hv]at r V n;have x:∀a∈rs,s.heap.get? a=none:=λa L=>by
  refine aC (n (.ref a) (HI L)) λb O S=>?_;injection O with F;exact ab F<|S
 have hDr:D∉rs:=λT=>by
  obtain⟨_,g,f,g2⟩:=c D T;refine ej ((vq (W':=W') (ρ':=ρ) (h':=N.heap) G g2).2 (.ref D) (ab (Pl f r)<|HI T)) λi t h=>?_;injection h
 have q:∀{j:Nat},(ρ++(rs++ [D]))[st.length+j]? =(rs++ [D])[j]? :=λ{j}=>bp (bG (ab R.len<|ja _ _)) (ab R.len (ab (Nat.add_sub_cancel_left ..) rfl));refine R.KL y P (as:=rs++ [D]) (ls:=oU st.length m l) (by simp[oU,M])
  (MD.mpr ⟨(List.Pairwise.of_map _ (λa b h e=>h (congrArg _ e)) V),by simp,λa L b O e=>hDr (bS.mp O▸e▸L)⟩) (λa L=>by
    refine ak (dw.mp L) (λL=>?_) λL=>?_
    ·exact x a L
    ·exact ab (bS.mp L)<|hD) (X:=X) u (λj a l' J U=>by
    refine ak (GF U) (λH=>aN H λhj e=>?_) λu2=>aN u2 λhj e=>?_
    ·rw[cM (ab M<|hj)]at J;refine ew λY=>?_;obtain⟨_,g,f,g2⟩:=c a (aW J);refine Y ?_;clear Y;exact ab e<|⟨g,f,(vq G g2).1⟩
    ·simp only[bG (ab M<|ab hj<|aV _),M,hj,oC]at J;injection J with F;subst F;refine ab e<|⟨rs.map .ref,r,?_⟩;refine cA M<|OY λj a e=>ab q<|ab (cM (aQ.mp e).1)<|e) λZ S1 M1=>?_
 refine K_ _ Z S1 ?_ (λp B T=>?_) M1
 ·refine ab q (ab (bG (ab M<|aV _)) (ab M (ab (oC ..) ?_)));rfl
 ·refine ak (dw.mp T) (λT=>?_) λT=>?_
  ·exact(c _ T).1 (hXW _ B)
  ·rw[bS.mp T]at B;exact Q B
theorem TV(H:Hand C k){i n:Nat}{row it:CE}:md C k (.GG i row it n):=by
 intro K env x W0 s₀ n0 loc loc' st st' fl W ρ A s E hE hA R hev hc;refine NO hev λes l ai avs O hes J h2 hnl S e1 e2=>ab e1 (ab e2 ?_);rw[O]at hc;refine ew λY=>Kd hc λg r b it' sc p p' e I=>?_;have c3:=ba (ba (ba (ba I).1).1).1;have c:=ba c3.1;refine eb (ij c.1) λxn xp eg z=>yG c.2 λxs rp e'=>Y ?_;clear Y;rw[eg]at c e;refine ab e ?_;have hint:=(qY (cfg:=cfg) (st:=st) (loc:=loc) hes).2;have nW:∀{p:az},s.heap.get? p=none->¬W p:=λh q=>by
  refine aI (R.ei.live _ q) λo M=>?_;rw[h]at M;injection M
 have V:gm (pU cfg st (.list es) (.bX n) (λz=>some true) loc) avs=some (bw avs.length (.lst l)):=FT λa z=>by
  delta pU;simp only[(id sj),ek,hnl,if_true,aj,af,(id fD),(qY hes).1,aK,aJ]
 refine w8 (fr:=true) (e:=.list es) (t:=.bX n) (q:=λz=>some true) hE hA R.ei (NH H) ((sv H it).2.2 _ _ _ _ _ _ _ _ _ _ _ _ _ hE hA R.ei J h2 (ba (ba I).1).2 (ba (ba (ba I).1).1).2) (λcenv W' loc' r s E J h2 S=>?_) (lD (ba (ba I).1).2 (ba (ba (ba I).1).1).2) c.2 c3.2 (Lv (ba I).2) (lQ h2)
  (total:=bw avs.length (.lst l)) V (λD L N P y hL hD U B d=>?_) λD N P y hD d=>?_
 ·injection S with e_;subst e_;exact Cb ⟨rfl,h2.tok,.refl _⟩
 ·refine gB d λvs f j g3=>A0 R hint (X:=(·=L)) (λp hp=>oQ B λm o z z M z=>ab hp<|⟨hL,o,M⟩) P y hD (λh=>U h.symm) f (λp hp=>.inr hp) j (g3 rfl).1 (g3 rfl).2 λas Z S1 hρ u hM=>?_;generalize st++(oU st.length avs.length l).map some=st2 at Z S1 hM⊢;have v:¬Mu env (ρ++as) st2 L:=λq=>(hM L q).elim (λh=>nW hL (R.KH h)) (u L rfl);refine fm (t:=.bX i) (av:=.ref (st.length+avs.length)) hA.hh hE Z c.1 S (.ref hρ) λT G F=>⟨λo e Q=>F.keep.nt v e Q,λh' hs'=>?_⟩;exact⟨_,_,trivial,G.Kj (cD.ns F.keep v B.choose_spec) (λh=>h.elim (nW hL) (u L rfl)) v (gC R.ext hL) hs',(S1.trans F).Kj (cD.ns F.keep v B.choose_spec) hL hs'⟩
 ·refine ew λY=>ew λY=>s8 d λL vs f U j g3=>A0 R hint (X:=λz=>False) (λp hp=>hp.elim) P y hD (λh=>h) f (λp hp=>hp.elim) j (g3 rfl).1 (g3 rfl).2 λas Z S1 hρ z z=>Y ?_;clear Y;refine Y ?_;clear Y;exact fm (t:=.bX i) (av:=.ref (st.length+avs.length)) hA.hh hE Z c.1 S (.ref hρ) λT G F=>⟨_,_,trivial,G,S1.trans F⟩
def lL(C:fE h₀ cfg)(k:Nat)(l:List CS):Prop:=∀(K:Ck) (env:fZ) (xs:List bC) (W0:az->Prop) (s₀:ao) (n0:Nat) (loc loc':Loc) (st st':St) (L:Fl) (W:az->Prop) (ρ:List az) (A:cP) (s:ao) (E:aw->ao->Prop),
 bZ env K n0->i7 k A->Rp h₀ K env n0 W0 s₀ loc st W ρ s->dh cfg l loc st=some (L,loc',st')->mW K l xs=true->
 aM (aL C.prog C.w) A (fw xs env) (Cc h₀ K env n0 W0 s₀ L loc' st' ρ st W s) E s
theorem HK.yQ{h:bk}{f:kO}(x:HK W ρ h .next f):f=.next:=by
 cases f with
 |next=>rfl
 |_=>exact x.elim
theorem HK.Cm{h:bk}{f:kO}(x:HK W ρ h .brk f):f=.brk:=by
 cases f with
 |brk=>rfl
 |_=>exact x.elim
theorem HK.C5{h:bk}{f:kO}{v:AV}(x:HK W ρ h (.ret v) f){I:Prop}(N:∀u,f=.ret u->I):I:=by
 cases f with
 |ret u=>exact N u rfl
 |_=>exact x.elim
theorem WD{c:CE}{a b:List CS}(Q:iz C k c)(L:lL C k a)(O:lL C k b):md C k (.ite c a b):=by
 intro K env x W0 s₀ n0 loc loc' st st' H W ρ A s E hE hA R M V;refine ew λY=>aU V λo1 Z I=>?_;rcases o1 with⟨t,F,G⟩;refine CL Z λp e=>?_;have o:=ba (ba (ba I).2).2;refine aC (aZ M) λav J B=>aC (aZ B) λr U S=>Y ?_;clear Y;refine ab e<|YX (aA (Q _ _ _ _ _ _ _ _ _ _ _ _ _ hE hA R.ei J U (ba I).1 (ba (ba I).2).1) (λb N D=>?_) λz z e=>e);clear U;refine ab D.1 ?_;rcases r with _|_
 ·exact aA (O _ _ _ _ _ _ _ _ _ _ _ _ _ _ _ _ hE hA (R.step D.2.2 D.2.1) S o.2) (λf s' h=>h.from (.ext D.2.2)) λz z e=>e
 ·exact aA (L _ _ _ _ _ _ _ _ _ _ _ _ _ _ _ _ hE hA (R.step D.2.2 D.2.1) S o.1) (λf s' h=>h.from (.ext D.2.2)) λz z e=>e
theorem Bz{G:Loc->St->Option Bool}{body:Loc->St->Option (Fl×Loc×St)}{n:Nat}{r:Fl×Loc×St}(h:gh G body (n+1) loc st=some r):
 (G loc st=some false/\r=(.next,loc,st))\/(G loc st=some true/\∃L l1 i,body loc st=some (L,l1,i)/\((L=.next/\gh G body n l1 i=some r)\/(L=.brk/\r=(.next,l1,i))\/((∃v,L=.ret v)/\r=(L,l1,i)))):=by
 refine dn ((zp.2 ..).symm.trans h) λb J h=>?_;rcases b with _|_
 ·exact .inl ⟨J,(ay h).symm⟩
 ·refine dn h λB U h=>?_;rcases B with⟨L,l1,i⟩;refine .inr ⟨J,L,l1,i,U,?_⟩;clear U;rcases L with _|_|v
  ·exact .inl ⟨rfl,h⟩
  ·exact .inr (.inl ⟨rfl,(ay h).symm⟩)
  ·exact .inr (.inr ⟨⟨v,rfl⟩,(ay h).symm⟩)
theorem F9{t:kR}{body:Loc->St->Option (Fl×Loc×St)}{v:AV}{l:List AV}{r:Fl×Loc×St}(h:iP t body (v::l) loc st=some r){I:Prop}(N:∀l0 L l1 i,cT loc t v=some l0->body l0 st=some (L,l1,i)->(((L=.next/\iP t body l l1 i=some r)\/(L=.brk/\r=(.next,l1,i))\/((∃v,L=.ret v)/\r=(L,l1,i))))->I):I:=by
 refine dn h λl0 J O=>dn O λB U h=>?_;rcases B with⟨L,l1,i⟩;refine N l0 L l1 i J U ?_;rcases L with _|_|v
 ·exact .inl ⟨rfl,h⟩
 ·exact .inr (.inl ⟨rfl,(ay h).symm⟩)
 ·exact .inr (.inr ⟨⟨v,rfl⟩,(ay h).symm⟩)
theorem Hx{Z:Loc->St->(az->Prop)->List az->ao->Prop}{F:Fl->Loc->St->kO->ao->Prop}{G:Loc->St->Option Bool}{b:List CS}{t:Expr}{a:List bC}{R:M0->ao->Prop}{L:Fl}{n:Nat}
 (Q:∀loc1 d p y i r,G loc1 d=some r->Z loc1 d p y i->∀E,aM (aL C.prog C.w) A (mT t env (fe t env)) (λb s'=>b=r/\Z loc1 d p y s') E i)
 (O:∀loc1 d p y i c l1 st2,dh cfg b loc1 d=some (c,l1,st2)->Z loc1 d p y i->∀E (q:kO->ao->Prop),(∀f S x m,HK x m S.heap c f->Z l1 st2 x m S->q f S)->aM (aL C.prog C.w) A (fw a env) q E i)
 (l:∀c f l1 st2 x m S,HK x m S.heap c f->Z l1 st2 x m S->F c l1 st2 f S)(hz:Z loc st W ρ s)(M:gh G (λloc st=>dh cfg b loc st) n loc st=some (L,loc',st'))(Y:∀f s',F L loc' st' f s'->R (.ok f) s'):
 M4 (aL C.prog C.w) A (.whileLoop t a [] env) R s:=by
 refine codeAny_whileLoop (λn s'=>∃loc1 d p y,Z loc1 d p y s'/\gh G (λloc st=>dh cfg b loc st) n loc1 d=some (L,loc',st')) (λn i h=>?_) n ⟨loc,st,W,ρ,hz,M⟩;clear M;refine oQ h λloc1 d p y hZ o=>?_;clear h;rcases n with _|n
 ·injection o
 ·rcases Bz o with⟨X,U⟩|⟨X,c,l1,st2,U,h3⟩
  ·rcases U with⟨⟩;refine aA (Q _ _ p y i _ X hZ _) (λb N D=>?_) λz z e=>e;exact ab D.1<|kq (Y _ _ (l _ .next _ _ p y _ trivial D.2))
  ·refine aA (Q loc1 d p y i _ X hZ _) (λb N D=>?_) λz z e=>e;refine ab D.1<|O loc1 d p y N c l1 st2 U D.2 _ _ λf S x m P J=>?_;clear U;refine ak h3 (λH=>aN H λe V=>?_) λg=>ak g (λT=>aN T λe V=>?_) λI=>aN I λj V=>aI j λv e=>?_
   ·rw[e]at P;exact ab P.yQ<|⟨n,og _,l1,st2,x,m,J,V⟩
   ·rw[e]at P;simp only[P.Cm];rcases V with⟨⟩;exact Y _ _ (l .next .next _ _ x m _ trivial J)
   ·rw[e]at P V;refine P.C5 λu B=>?_;simp only[B]at P⊢;rcases V with⟨⟩;exact Y _ _ (l _ _ _ _ x m _ P J)
theorem WI{c:CE}{b:List CS}(Q:iz C k c)(O:lL C k b):md C k (.P c b):=by
 intro K env x W0 s₀ n0 loc loc' st st' L W ρ A s E hE hA R M V;refine ew λY=>aU V λv u I=>?_;rcases v with⟨t,b'⟩;refine Gj u λp e=>Y ?_;clear Y;refine ab e<|wpAny_While (Hx (F:=λL l st2 f s'=>Cc h₀ K env n0 W0 s₀ L l st2 ρ st W s f s') (Z:=λloc1 d X y s'=>Rp h₀ K env n0 W0 s₀ loc1 d X y s'/\j8 env ρ st W s y d X s') (λloc1 d X y i r h G E=>?_)
  (λloc1 d X y i a l1 st2 h G E R2 B=>?_) (λa f l1 st2 g m S P h=>⟨g,m,P,h.1,h.2⟩) ⟨R,.refl⟩ M λf s' q=>q)
 ·exact aC (aZ h) λav o j=>aA (Q _ _ _ _ _ _ _ _ _ _ _ _ _ hE hA G.1.ei o j (ba I).1 (ba (ba I).2).1) (λb N D=>⟨D.1,G.1.step D.2.2 D.2.1,G.2.trans (.ext D.2.2)⟩) λz z e=>e
 ·refine aA (O _ _ _ _ _ _ _ _ _ _ _ _ _ _ _ _ hE hA G.1 h (ba (ba I).2).2) (λf T h=>?_) λz z e=>e;exact cX h λH n P J U=>B f T H n P ⟨J,G.2.trans U⟩
theorem Ec{Z:Nat->Loc->St->(az->Prop)->List az->ao->Prop}{F:Fl->Loc->St->kO->ao->Prop}{avs:List AV}{t:kR}{b:List CS}{g:Expr}{bd:List bC}{I:aw}{R:M0->ao->Prop}{L:Fl}
 (turn:∀j loc1 d p y i a l0 c l1 st2,avs[j]? =some a->cT loc1 t a=some l0->dh cfg b l0 d=some (c,l1,st2)->Z j loc1 d p y i->∀E (R2:kO->ao->Prop),(∀f S x m,HK x m S.heap c f->Z (j+1) l1 st2 x m S->R2 f S)->
   aM (aL C.prog C.w) A (tX I) (λr N=>∃v,r=some v/\aM (aL C.prog C.w) A (gJ g I v) (λz T=>aM (aL C.prog C.w) A (lj g env v) (λz X=>aM (aL C.prog C.w) A (fw bd env) R2 E X) E T) E N) E i)
 (done:∀loc1 d p y i E,Z avs.length loc1 d p y i->aM (aL C.prog C.w) A (tX I) (λr N=>r=none/\F .next loc1 d .next N) E i)
 (l:∀c f l1 st2 j x m S,HK x m S.heap c f->Z j l1 st2 x m S->F c l1 st2 f S)(hz:Z 0 loc st W ρ s)(M:iP t (λloc st=>dh cfg b loc st) avs loc st=some (L,loc',st'))(Y:∀f s',F L loc' st' f s'->R (.ok f) s'):
 M4 (aL C.prog C.w) A (.forLoop g I bd [] env) R s:=by
 refine codeAny_forLoop_any (λn s'=>∃j loc1 d p y,n=avs.length-j+1/\j<=avs.length/\Z j loc1 d p y s'/\iP t (λloc st=>dh cfg b loc st) (avs.drop j) loc1 d=some (L,loc',st')) (λn i h=>?_) (avs.length-0+1) ⟨0,loc,st,W,ρ,rfl,bz _,hz,M⟩;clear M;refine QP h λj loc1 d p y Q hj hZ o=>?_;clear h;refine ak (tR j avs.length) (λhlt=>?_) λU=>?_
 ·rw[dF hlt]at o;refine F9 o λl0 c l1 st2 O h6 V=>aA (turn j loc1 d p y i _ l0 c l1 st2 (gx hlt) O h6 hZ _ _ λf S x m P J=>?_) (λr N q=>aC q λv e h=>e▸h) λz z e=>e;clear h6;refine ak V (λu1=>aN u1 λe V=>?_) λu2=>ak u2 (λu3=>aN u3 λe V=>?_) λu4=>aN u4 λu5 V=>aI u5 λv e=>?_
  ·rw[e]at P;exact ab P.yQ<|⟨avs.length- (j+1)+1,by grind,j+1,l1,st2,x,m,rfl,hlt,J,V⟩
  ·rw[e]at P;simp only[P.Cm];rcases V with⟨⟩;exact Y _ _ (l .next .next _ _ _ x m _ trivial J)
  ·rw[e]at P V;refine P.C5 λu e'=>?_;simp only[e']at P⊢;rcases V with⟨⟩;exact Y _ _ (l _ _ _ _ _ x m _ P J)
 ·have hjl:j=avs.length:=Nat.le_antisymm hj U;rw[hjl]at o hZ;rw[oe]at o;injection o with e_;injection e_ with D H;injection H with B G;subst D;subst B;subst G;refine aA (done _ _ p y i _ hZ) (λr N q=>?_) λz z e=>e;exact ab q.1<|kq (Y _ _ q.2)
theorem Jf{t:kR}{it:CE}{b:List CS}{x:bC}(h:ka K (.m t it b) x=true):∃g i a p,x=.For g i a [] p/\fg K t g=true/\cz K 2 it i=true/\(Ek it||yJ it)=true/\mW K b a=true:=by refine ew λY=>ew λY=>aU h λP J h=>?_;rcases P with⟨g,i,a⟩;refine Oe J λp e=>Y ?_;clear Y;refine Y ?_;clear Y;exact⟨g,i,a,p,e,(ba h).1,(ba (ba h).2).1,ba (ba (ba h).2).2⟩
theorem TU{t:kR}{it:CE}{b:List CS}(hng:yJ it=false)(hi:oE C k it)(O:lL C k b):md C k (.m t it b):=by
 intro K env x W0 s₀ n0 loc loc' st st' L W ρ A s E hE hA R hev V;refine ew λY=>D8 (Jf V) λg i bd p e c1 c2 c3 c4=>?_;rw[hng,Bool.or_false]at c3;refine aC (aZ hev) λav J hev1=>aC (aZ hev1) λavs U hev2=>Y ?_;clear Y;refine ab e<|wpAny_For (aA (hi _ _ _ _ _ _ _ _ _ _ _ _ _ hE hA R.ei J U c3 c2) (λxv N q₁=>aA q₁ (λitv s₂ q₂=>?_) λz z e=>e) λz z e=>e) (lD c3 c2);refine ew λY=>?_;obtain⟨u,e₂,Ia,fp,G,S,e,I,hS,n,D⟩:=q₂;refine Y ?_;clear Y;refine ab e<|Ec (W:=λp=>W p\/fp p) (ρ:=ρ) (F:=λL l st2 f s'=>Cc h₀ K env n0 W0 s₀ L l st2 ρ st W s f s') (Z:=λj loc1 st1 W1 y s'=>Rp h₀ K env n0 W0 s₀ loc1 st1 W1 y s'/\j8 env ρ st W s y st1 W1 s'/\(∀p,fp p->W1 p/\¬Mu env y st1 p)/\S W1 y j s'/\(∀g,G g->g<s'.gens.size))
  ?_ ?_ (λc f l1 st2 j W5 m s5 P h=>⟨W5,m,P,h.1,h.2.1⟩) ?_ hev2 λf s' q=>q
 ·have hf0:∀p,fp p->s₀.heap.get? p=none:=λp B=>gC R.ext (n p B);have hG0:∀g,G g->s₀.gens.size<=g:=λg d=>aP R.ext.hJ (D g d).1;intro j loc1 st1 W1 y s1 a l0 c l1 st2 ha h5 h6 hZ E R2 hR2;refine ri hZ λR1 S1 hF hI hGs=>bY R1.ei.tok (aA (I.next W1 y j a s1 _ ha (λp B=>(hF p B).1) R1.ei.live hI) (λr X q t₃=>?_) λz z e z=>e);refine D7 q λv e by₃ vr₃ S₃=>?_;have al₃:=I.alive _ _ _ _ S₃;have R3:=R1.by by₃ (λp B=>⟨(hF p B).1,(hF p B).2,hf0 p B⟩) al₃ hG0 t₃;refine⟨v,e,I.own _ _ _ _ _ _ _ _ S₃ (fm hA.hh hE R3 c1 h5 vr₃ λs₄ R4 Q=>?_)⟩;have frame:∀{ρ2:List az} {st2:St} {W2:az->Prop} {sa sb:ao} {ρa:List az} {sta:St} {Wa:az->Prop} {la:Loc},Rp h₀ K env n0 W0 s₀ la sta Wa ρa sa->j8 env ρa sta Wa sa ρ2 st2 W2 sb->(∀p,fp p->Wa p/\¬Mu env ρa sta p)/\S Wa ρa (j+1) sa/\(∀g,G g->g<sa.gens.size)->
   (∀p,fp p->W2 p/\¬Mu env ρ2 st2 p)/\S W2 ρ2 (j+1) sb/\∀g,G g->g<sb.gens.size:=by
   intro ρ2 st2 W2 sa sb ρa sta Wa la Ra Sa hh;refine⟨λp B=>⟨Sa.wk p (hh.1 p B).1 ((I.alive _ _ _ _ hh.2.1) p B) (hh.1 p B).2,λT=>?_⟩,I.frame _ _ _ _ _ _ _ hh.2.1 Sa.w (λb o O e hn=>Sa.keep.nt (λT=>?_) e hn) Sa.nR λg d=>Sa.gens g (hh.2.2 g d),λg d=>be (hh.2.2 g d) Sa.hJ⟩
   ·refine ak (Sa.mu p T) (λh=>?_) λh=>?_
    ·exact(hh.1 p B).2 h
    ·refine aI ((I.alive _ _ _ _ hh.2.1) p B) λo M=>?_;rw[h]at M;injection M
   ·refine ak O (λO=>?_) λO=>?_
    ·exact O (Ra.KH T)
    ·exact(hh.1 b O).2 T
  refine aA (O _ _ _ _ _ _ _ _ _ _ _ _ _ _ _ _ hE hA R4 h6 c4) (λf H h=>?_) λz z e=>e;exact cX h λW5 m P R5 S5=>hR2 f H W5 m P ⟨R5,((S1.by by₃ n al₃ (λg d=>(D g d).1)).trans Q).trans S5,frame R4 S5 (frame R3 Q ⟨hF,S₃,λg d=>be (hGs g d) by₃.hJ⟩)⟩
 ·have hf0:∀p,fp p->s₀.heap.get? p=none:=λp B=>gC R.ext (n p B);have hG0:∀g,G g->s₀.gens.size<=g:=λg d=>aP R.ext.hJ (D g d).1;intro loc1 st1 W1 y s1 E hZ;exact ri hZ λR1 S1 hF hI hGs=>bY R1.ei.tok (aA (I.done W1 y s1 _ (λp B=>(hF p B).1) R1.ei.live hI) (λr X q t₃=>
   ⟨q.1,_,y,trivial,R1.gone q.2 (λp B=>(hF p B).1) (λp B=>⟨(hF p B).2,hf0 p B⟩) hG0 t₃,S1.gone q.2 n λg d=>(D g d).1⟩) λz z e z=>e)
 ·have alive0:∀p,fp p->∃o,s₂.heap.get? p=some o:=I.alive _ _ _ _ hS;refine⟨R.wide e₂ u (W':=λp=>W p\/fp p) (λp h=>.inl h) (λp h=>h.imp id λh=>⟨n p h,alive0 p h⟩),.wide e₂ (λp h=>.inl h) λp h=>h.imp id (n p),λp B=>⟨.inr B,λT=>?_⟩,hS,λg d=>(D g d).2⟩;refine aI (R.ei.live p (R.KH T)) λo M=>?_;rw[n p B]at M;injection M
theorem LD:lL C k []:=by intro K env xs W0 s₀ n0 loc loc' st st' L W ρ A s E hE hA R M V;have V:xs.isEmpty=true:=V;rw[dx]at V;refine ab V ?_;simp only[(id sZ),bL,gz]at M;refine eY M λS c Z=>?_;clear M;subst S;exact cA c<|cA Z<|kq ⟨W,ρ,trivial,R,.refl⟩
theorem pw{c:CS}{l:List CS}{L:Fl}(h:dh cfg (c::l) loc st=some (L,loc',st')){I:Prop}(N:∀f1 l1 i,mY cfg c loc st=some (f1,l1,i)->(((f1=.next/\dh cfg l l1 i=some (L,loc',st'))\/(f1≠.next/\L=f1/\loc'=l1/\st'=i)))->I):I:=by
 refine dn h λO J h=>?_;rcases O with⟨f1,l1,i⟩;refine N f1 l1 i J ?_;clear J;rcases f1 with _|_|v
 ·exact .inl ⟨rfl,h⟩
 ·simp only[aJ,bL,gz]at h;exact .inr ⟨by simp,h.1.symm,h.2.1.symm,h.2.2.symm⟩
 ·simp only[aJ,bL,gz]at h;exact .inr ⟨by simp,h.1.symm,h.2.1.symm,h.2.2.symm⟩
theorem T4{i:Nat}{l:List CS}(X:lL C k l):lL C k (.q i::l):=by
 intro K env xs W0 s₀ n0 loc loc' st st' L W ρ A s E hE hA R M V;refine ew λY=>pw M λf1 l1 B J h=>?_;obtain⟨rfl,W',T,U⟩:=Gb R J;refine Y ?_;clear Y;refine ak h (λH=>aN H λz h=>?_) λg=>aN g λh z=>?_
 ·exact aA (X _ _ _ _ _ _ _ _ _ _ _ _ _ _ _ _ hE hA T h V) (λf s' q=>q.from U) λz z e=>e
 ·exact absurd rfl h
theorem Pq{c:CS}{l:List CS}(Q:vA c=false)(J:md C k c)(X:lL C k l):lL C k (c::l):=by
 intro K env xs W0 s₀ n0 loc loc' st st' L W ρ A s E hE hA R M V;have V:(bif vA c then mW K l xs else bD (un xs) λq=>ka K c q.1&&mW K l q.2)=true:=V;rw[Q]at V;refine aU V λq e V=>ab (Rm e)<|pw M λf1 l1 i D h=>cS (aA (J _ _ _ _ _ _ _ _ _ _ _ _ _ _ _ _ hE hA R D (ba V).1) (λf s' r=>?_) λz z e=>e);clear D;refine ak h (λH=>aN H λe h=>?_) λg=>aN g λh e=>?_
 ·refine cX r λW' ρ' P T U=>?_;rw[e]at P;exact ab P.yQ<|aA (X _ _ _ _ _ _ _ _ _ _ _ _ _ _ _ _ hE hA T h (ba V).2) (λf s' q=>q.from U) λz z e=>e
 ·refine ab e.1 (ab e.2.1 (ab e.2.2 ?_));rcases f1 with _|_|v
  ·exact absurd rfl h
  ·refine cX r λW' ρ' P T U=>?_;cases P.Cm;exact⟨W',ρ',P,T,U⟩
  ·refine cX r λW' ρ' P T U=>P.C5 λu B=>?_;subst B;exact⟨W',ρ',P,T,U⟩
structure wJ (C:fE h₀ cfg) (k:Nat):Prop extends Hand C k where
 genS:∀t a b,bU C k a->lL C k b->md C k (.m t (.J a) b)
theorem EK{c:CS}{l:List CS}(V:vA c=false->md C k c)(X:lL C k l):lL C k (c::l):=by
 rcases h:vA c with _|_
 ·exact Pq h (V h) X
 ·rcases c with⟨⟩<;>first|(rcases h with⟨⟩;done)|exact T4 X
theorem TX:md C k .K5:=by intro K env x W0 s₀ n0 loc loc' st st' L W ρ A s E hE hA R M V;injection M
theorem YJ(H:wJ C k)(c:CS):vA c=false->md C k c:=
 CS.rec (motive_1:=λc=>vA c=false->md C k c) (motive_2:=λl=>lL C k l)
  (λz z z=>Wz H.toHand)
  (λz z e z=>TR (sv H.toHand e).1)
  (λz z z=>WE H.toHand)
  (λz z z z z=>TV H.toHand)
  (λz z z z=>Ls H.toHand)
  (λz z e z=>WA (sv H.toHand e).1)
  (λz z z z z=>Lq H.toHand)
  (λc z z B D z=>WD (sv H.toHand c).2.1 B D)
  (λc z D z=>WI (sv H.toHand c).2.1 D)
  (λt it b D z=>by
    rcases hg:yJ it with _|_
    ·exact TU hg (sv H.toHand it).2.2 D
    ·exact CE.Sd (motive_1:=λit=>md C k (.m t it b)) it (eq_of_beq hg) (λa=>H.genS _ _ _ (sv H.toHand _).1 D))
  (λe z=>WG (sv H.toHand e).1)
  (λz=>WB)
  (λz=>TX)
  (λz z z=>Wy H.toHand)
  (λz z=>WH H.toHand)
  (λz h=>nomatch h)
  LD (λz z=>EK) c
theorem WN(H:wJ C k)(l:List CS):lL C k l:=by
 induction l with
 |nil=>exact LD
 |cons c l R=>exact EK (YJ H c) R
end
theorem Dx{names:List bj}:∀{vals:List aw},names.Nodup->vals.length=names.length->∀(i:Nat) (x:bj),names[i]? =some x->∃v,vals[i]? =some v/\(names.zip vals).lookup x=some v:=by
 induction names with
 |nil=>intro vals z z i x h;injection h
 |cons n ns R=>
  intro vals Q X i x h;rcases vals with _|⟨v,vs⟩
  ·injection X
  ·have G:=eT.mp Q;rcases i with _|i
   ·simp at h;subst h;exact⟨v,rfl,by simp⟩
   ·simp at h;refine aC (R G.2 (by simpa using X) i x h) λu J U=>?_;clear X;have L:(x==n)=false:=by
     rewrite[beq_eq_false_iff_ne];refine ab (ne_eq ..) ?_;intro o1;subst o1;exact G.1 (aW h)
    exact⟨u,J,by simp[fa,L,U]⟩
theorem wI{names:List bj}:∀{vals:List aw} (f:bj->Option aw),(∀(i:Nat) (x:bj),names[i]? =some x->f x=vals[i]?)->vals.length=names.length->names.filterMap (λn=>(f n).map (n,·))=names.zip vals:=by
 induction names with
 |nil=>intro vals f z X;rfl
 |cons n ns R=>
  intro vals f P X;rcases vals with _|⟨v,vs⟩
  ·injection X
  ·have Y:f n=some v:=P 0 n rfl;have:=R (vals:=vs) f (λi x h=>by simpa using P (i+1) x (by simpa using h)) (by simpa using X);simp[Y,this]
theorem qi{fd:xS}{vals:List aw}(W:fd.params.posonlyargs= [])(D:fd.params.vararg=none)(I:fd.params.kwonlyargs= [])(C:fd.params.kwarg=none)(u:fd.defaults=.none)
 (X:vals.length=fd.params.args.length)(V:(fd.params.args.map (·.arg)).Nodup):_root_.PySem.bindArgs fd ⟨vals,[]⟩=pure ((fd.params.args.map (·.arg)).zip vals):=by
 have M:=λi x h=>Dx V (by simpa using X) i x h;have B:vals.length=(fd.params.args.map (·.arg)).length:=ab X (ab (aY ..) rfl);have A:((fd.params.args.map (·.arg)).filter λn=>(((fd.params.args.map (·.arg)).zip vals).lookup n).isNone)= []:=by rw[ow];refineλx Z=>aI (List.getElem?_of_mem Z) λi hi=>?_;exact aC (M i x hi) λv z U=>ab U<|λh=>nomatch h
 have E:(fd.params.args.map (·.arg)).filterMap (λn=>(((fd.params.args.map (·.arg)).zip vals).lookup n).map (n,·))=(fd.params.args.map (·.arg)).zip vals:=by refine wI _ (λi x h=>?_) (by simpa using X);exact aC (M i x h) λv J U=>U.trans J.symm
 obtain⟨nm,q,ps,a,b,P,cl,N,F,Q,G,R,co,S,bi⟩:=fd;obtain⟨H,as,Y,L,K,T,O⟩:=ps;subst W D I C u;clear M V X;refine(if_neg (c:=_=true) λh=>absurd (of_decide_eq_true (ba h).1) (by exact ab B<|zI _)).trans<|(if_neg (c:=_=true) ?_).trans ?_
 ·show¬(!(((as.map (·.arg)).take ((as.map (·.arg)).length- (([]:List aw).drop (0- (as.map (·.arg)).length)).length)).filter λn=>(((as.map (·.arg)).zip vals).lookup n).isNone).isEmpty)=true;exact ab Uq<|ab gk<|ab (UO ..)<|ab kP<|ab A<|λh=>nomatch h
 ·have M:((as.map (·.arg)).drop ((as.map (·.arg)).length- (([]:List aw).drop (0- (as.map (·.arg)).length)).length)).zip (([]:List aw).drop (0- (as.map (·.arg)).length))= []:=ab Uq (ab HS rfl);refine(congrArg (λl=>(forIn l _ _:jA _)>>=_) M).trans ?_;show(pure (((as.map λx:Arg=>x.arg)++ []).filterMap (λn=>(((as.map λx:Arg=>x.arg).zip vals).lookup n).map (n,·))):jA (List (bj×aw)))=pure ((as.map λx:Arg=>x.arg).zip vals);exact ab (ik ..) (ab E rfl)
theorem Ci{A:bj->Option dz}{x:bj}:∀{names:List bj} {vals:List aw} {m:bj->Option aw},x∉names->Rz A (names.zip vals) m x=m x:=by
 intro G
 induction G with
 |nil=>
  intro vals m z;rfl
 |cons n ns P=>
  intro H m h;rcases H with _|⟨v,vs⟩
  ·rfl
  ·have Z:¬x=n:=λe=>h (ab e<|aH);refine ab mH<|ab (show Rz A ((n,v)::ns.zip vs) m x=Rz A (ns.zip vs) _ x from rfl)<|ab (P (λq=>h (ax _ q))) ?_;split<;>simp[Z]
theorem FJ{A:bj->Option dz}{x:bj}{v:aw}(I:A x=some .local):∀{names:List bj} {vals:List aw} {m:bj->Option aw} {i:Nat},names.Nodup->names[i]? =some x->vals[i]? =some v->Rz A (names.zip vals) m x=some v:=by
 intro names vals m i Q J U
 induction names generalizing vals m i with
 |nil=>injection J
 |cons n ns R=>
  rcases vals with _|⟨u,vs⟩
  ·injection U
  ·have G:=eT.mp Q;refine ab mH<|ab (show Rz A ((n,u)::ns.zip vs) m x=Rz A (ns.zip vs) _ x from rfl) ?_;rcases i with _|i
   ·simp at J U;subst J U;exact ab (Ci G.1)<|ab (if_pos I)<|if_pos rfl
   ·exact R G.2 J U
theorem Cg{A:bj->Option dz}{x:bj}:∀{names:List bj} {vals:List aw} {m:bj->Option aw},x∉names->bindC A (names.zip vals) m x=m x:=by
 intro G
 induction G with
 |nil=>
  intro vals m z;rfl
 |cons n ns P=>
  intro H m h;rcases H with _|⟨v,vs⟩
  ·rfl
  ·have Z:¬x=n:=λe=>h (ab e<|aH);refine ab (P (λq=>h (ax _ q))) ?_;split<;>simp[Z]
theorem FH{A:bj->Option dz}{x:bj}{v:aw}(I:A x≠some .local):∀{names:List bj} {vals:List aw} {m:bj->Option aw} {i:Nat},names.Nodup->names[i]? =some x->vals[i]? =some v->bindC A (names.zip vals) m x=some v:=by
 intro names vals m i Q J U
 induction names generalizing vals m i with
 |nil=>injection J
 |cons n ns R=>
  rcases vals with _|⟨u,vs⟩
  ·injection U
  ·simp only[mH];rcases i with _|i
   ·simp at J U;subst J U;exact ab (Cg (eT.mp Q).1)<|ab (if_neg I)<|if_pos rfl
   ·exact R (eT.mp Q).2 J U
theorem uJ:∀(names:List (bj×dz)) (n:Nat) (acc:List (bj×az)),(names.map (·.1)).Nodup->(acc.map (·.1)).Nodup->(∀x∈names.map (·.1),x∉acc.map (·.1))->((dO n names acc).map (·.1)).Nodup:=by
 intro G
 induction G with
 |nil=>
  exactλn acc z h z=>h
 |cons C r R=>
  rcases C with⟨x,k⟩;intro n acc J U S;unfold dO;split
  ·refine R (n+1) _ (eT.mp J).2 (eT.mpr ⟨S x aH,U⟩) λy F T=>ak (aS.mp T) (λe=>?_) λT=>?_
   ·exact(eT.mp J).1 (cA e<|F)
   ·exact S y (ax _ F) T
  ·exact R n acc (eT.mp J).2 U λy F=>S y (ax _ F)
theorem sF{B A:Type}[BEq B][LawfulBEq B]{l:List (B×A)}{x:B}{c:A}(Q:(l.map (·.1)).Nodup)(T:(x,c)∈l):l.lookup x=some c:=by
 induction l with
 |nil=>exact absurd T dy
 |cons q r R=>
  rcases q with⟨y,d⟩;refine ab fa<|ak (aS.mp T) (λe=>?_) λC=>?_
  ·rcases e with⟨⟩;simp
  ·have G:=eT.mp Q;exact ab (beq_eq_false_iff_ne.mpr λo1=>G.1 (dZ.mpr ⟨(x,c),C,o1⟩))<|R G.2 C
noncomputable def TY(f:FD)(t:List (List Nat))(d:iL):Bool:=
 [d.scope.kind==.function,!d.scope.isGenerator,!d.scope.isCoroutine,decide ((d.scope.names.map (·.1)).Nodup),(d.scope.names.all λp=>p.2 !=.free),decide ((t.map strOf).Nodup),
 d.params.posonlyargs.isEmpty,d.params.vararg.isNone,d.params.kwonlyargs.isEmpty,d.params.kwarg.isNone,decide (f.p<=f.y),
 ((t.take f.p).all λx=>d.scope.names.lookup (strOf x)==some .local||d.scope.names.lookup (strOf x)==some .cell)].all id
section
variable{h₀:bk}{cfg:dC}{C:fE h₀ cfg}{k:Nat}
variable{A:cP}{E:aw->ao->Prop}{s s' s₀:ao}{W:az->Prop}{ρ:List az}{av:AV}
structure FnAt (h₀:bk) (d:iL) (a:az):Prop where
 ex:∃(o:hC) (pm cd doc:aw),h₀.get? a=some o/\o.data=.func (HY d.name d.params d.body d.scope pm cd doc)/\h₀.CodeRec cd d.name
theorem ug{f:FD}{t:List (List Nat)}{d:iL}(K:t.length=f.y)(T:d.params.args.map (·.arg)=(t.take f.p).map strOf)(q:TY f t d=true){a:az}{o:hC}{pm cd j:aw}(M:h₀.get? a=some o)
 (u:o.data=.func (HY d.name d.params d.body d.scope pm cd j))(hcd:h₀.CodeRec cd d.name){vs:List aw}{args:List AV}{Q:aw->ao->Prop}
 (hA:i7 (k+1) A)(O:bO h₀ s.heap)(hL:j6 W s.heap)(D:ft W ρ s.heap vs args)(hn:dU args=true)(hargs:args.length=f.p)(C:fE h₀ cfg)
 (h:∀env Y N,env.code=cd->env.qual=d.name++".<locals>."->bZ env ⟨d.scope.names,t.map strOf,aG f.y,0⟩ 0->i7 k (A.deeper env)->Rp h₀ ⟨d.scope.names,t.map strOf,aG f.y,0⟩ env 0 W s (args++bw (f.y-f.p) .c) [] Y [] N->
   ∀E',aM (aL C.prog C.w) (A.deeper env) (fw d.body env) (λf s'=>Q (match f with| .ret v=>v|_=>.none) s') E' N):
 aM (aL C.prog C.w) A (call (.ref a) vs) Q E s:=by
 have c1:=eq_of_beq (allB q 0 rfl);have c3:=nB (allB q 2 rfl);have c4:=of_decide_eq_true (allB q 3 rfl);have c5:∀p∈d.scope.names,p.2≠.free:=λp B=>bne_iff_ne.mp (aq.mp (allB q 4 rfl) p B);have c6:=of_decide_eq_true (allB q 5 rfl);have c8:=d7.mp (allB q 7 rfl);have c9:=dx.mp (allB q 8 rfl);have RU:=d7.mp (allB q 9 rfl);have c11:f.p<=f.y:=of_decide_eq_true (allB q 10 rfl);have c12:∀x∈t.take f.p,d.scope.names.lookup (strOf x)=some .local\/d.scope.names.lookup (strOf x)=some .cell:=λx Z=>
  ((fy _ _).mp (aq.mp (allB q 11 rfl) x Z)).imp eq_of_beq eq_of_beq
 have g:=D.length;have hpl:d.params.args.length=f.p:=by have:=congrArg dp T;simp only[aY,br]at this;clear h;lia
 have hpn:(d.params.args.map (·.arg)).Nodup:=ab T<|ab nz<|List.Pairwise.sublist (tN _ _) c6;have hnames:∀x∈d.params.args.map (·.arg),d.scope.names.lookup x=some .local\/d.scope.names.lookup x=some .cell:=by intro x Z;rw[T]at Z;exact aC (dZ.mp Z) λy F o3=>cA o3<|c12 y F
 have hcell:∀x,d.scope.names.lookup x=some .cell->∀n,((dO n d.scope.names []).lookup x).isSome=true:=by refineλx Z n=>aI (mL (n:=n) (acc:= []) (.inl (mem_of_lookup Z))) λc V=>aI (hK V) λc' hc'=>ab hc' ?_;rfl
 refine UX (codeAny_call_cells (fd:=HY d.name d.params d.body d.scope pm cd j) (body:=d.body) (binds:=(d.params.args.map (·.arg)).zip vs) (by have:=hA.depth;clear h;lia) (bO.nt O M (nO u)) u (bO.nolimit O C.nolimit) (bO.code O hcd) rfl
  (qi (fd:=HY d.name d.params d.body d.scope pm cd j) (dx.mp (allB q 6 rfl)) c8 c9 RU rfl (ab g (ab hargs (ab hpl rfl))) hpn) rfl (λp B=>?_) (λN X=>?_) c3 (nB (allB q 1 rfl)) c1)
 ·have Z:=(Qb B).1;exact(hnames p.1 Z).imp id λh=>⟨h,hcell p.1 h _⟩
 ·generalize I:callEnvC (HY d.name d.params d.body d.scope pm cd j) s.heap.objs.size a=env at X⊢;have hkN:∀x,env.kindOf x=d.scope.names.lookup x:=λx=>by refine cA I ?_;rfl
  have hcs:env.cells=dO (s.heap.objs.size+1) d.scope.names []:=by refine cA I ?_;rfl
  have hkeys:(env.cells.map (·.1)).Nodup:=ab hcs<|uJ _ _ _ c4 (by simp) λz z h=>absurd h dy;have hE:bZ env ⟨d.scope.names,t.map strOf,aG f.y,0⟩ 0:=by
   refine⟨aV _,by exact cA I<|c1,by refine cA I ?_;rfl,by refine cA I ?_;rfl,by refine cA I ?_;rfl,cA I<|c3,λx Z=>?_,c6⟩;rw[hkN]at Z;refine ak Z (λZ=>?_) λZ=>?_
   ·exact ab hcs<|gy.mp (hcell x Z _)
   ·exact absurd rfl (c5 _ (mem_of_lookup Z))
  refine ej X.toInCall.same λJ tk1 R=>?_;have r:iu s.heap N.heap:=X.toInCall.keep;have U:∀p,j7 env p->s.heap.objs.size<=p:=by
   refineλp P=>ak P (λH=>?_) λu2=>aI u2 λx Z=>?_;refine ab H ?_
   ·exact X.toInCall.fresh
   ·exact cm (ia X.toInCall.fresh (X.above x p Z))
  have G:∀p,j7 env p->s.heap.get? p=none:=λp B=>by
   rcases e:s.heap.get? p with _|o
   ·rfl
   ·exact absurd (gN e) (i5.mpr (U p B))
  have hex:gK s N:=by subst R;exact .of (s:=s) (tk:=tk1) r
  have hown:∀p,j7 env p->∃o,N.heap.get? p=some o:=by
   refineλp o5=>ak o5 (λH=>?_) λu2=>aI u2 λx Z=>?_;refine ab H ?_
   ·exact m6 X.toInCall.ns λo z z M z=>⟨o,M⟩
   ·exact aC ((λx c Z=>X.cell x c (sF hkeys Z)) x p Z) λo M z=>⟨o,M⟩
  have w:i7 k (A.deeper env):=by
   refine⟨hA.hh,?_,?_⟩
   ·have:=hA.depth;show A.depth+1+k+_<_;lia
   ·have:=hA.units;show A.units+3+20*k+100<_;lia
  refine h env (λp=>W p\/j7 env p) N (by refine cA I ?_;rfl) (by refine cA I ?_;rfl) hE w ?_ _;refine⟨⟨bO.trans O r.k,λp B=>?_,bz _,λi hi x Z av L hu=>?_,λn l e=>by injection e,⟨⟨_,X.toInCall.ns⟩,λx c Z=>⟨_,(λx c Z=>X.cell x c (sF hkeys Z)) x c Z⟩,X.apart,λx c Z=>oB (X.above x c Z)⟩,λn l a e=>by injection e⟩,
   λp B=>.inr B,rfl,λn m l l' p e=>by injection e,λn l p e=>by injection e,λp B=>?_,hex,λp B=>.inl B,O,hL⟩
  ·refine ak B (λB=>?_) λB=>?_
   ·exact aI (hL p B) λo M=>⟨o,r _ _ M⟩
   ·exact hown p B
  ·by_cases hi2:i<args.length
   ·rw[cM hi2]at L;refine aC (D.get L) λv hv1 hv2=>?_;have hxn:(d.params.args.map (·.arg))[i]? =some x:=ab T<|ab nz<|ab (List.getElem?_take_of_lt (by lia))<|Z;refine⟨v,?_,?_⟩
    ·refine ak (hnames x (aW hxn)) (λhl=>?_) λhl=>?_
     ·exact .inl ⟨ab (hkN ..)<|hl,_,X.toInCall.ns,FJ (by exact ab (hkN ..)<|hl) hpn hxn hv1⟩
     ·refine aI (gy.mp (hcell x hl (s.heap.objs.size+1))) λc V=>?_;rw[<-hcs]at V;refine .inr ⟨.inl (ab (hkN ..)<|hl),c,V,?_⟩;have:=X.cell x c V;rw[FH (by refine ab (hkN ..) (ab hl ?_);simp) hpn hxn hv1]at this;exact this
    ·have hnr:jP av=true:=by
      have S:∀{l:List AV} {i:Nat} {a:AV},dU l=true->l[i]? =some a->jP a=true:=by
       intro l
       induction l with
       |nil=>intro i a z h;injection h
       |cons b l ih=>
        intro i a J h2;simp only[(id mz),au]at J;rcases i with _|i
        ·simp at h2;subst h2;exact J.1
        ·exact ih J.2 (h2)
      exact S hn L
     exact(hv2.noRef (ρ':= []) hnr).move (λp B=>B.imp id (G p)) (λz z z z e=>r.k.seq e) λz z e=>e
   ·rw[bG (by(clear hu L Z hi w hown hex G U r R hE hkeys hcs hkN X I hcell hnames hpn hpl g c12 c11 RU c9 c8 c6 c5 c4 c3 c1 h hargs hn D hL O hA hcd u M q T K;lia))]at L;exact absurd (zD (aW L)) hu
  ·refine ak B (λB=>?_) λH=>eb H λn l e z=>?_
   ·exact G p B
   ·injection e
theorem Sg{f:FD}{t:List (List Nat)}{d:iL}(x:I0 f t d 0=true)(q:TY f t d=true){a:az}(P:FnAt h₀ d a){vs:List aw}{args:List AV}{Q:aw->ao->Prop}
 (hA:i7 (k+1) A)(O:bO h₀ s.heap)(X:j6 W s.heap)(D:ft W ρ s.heap vs args)(B:dU args=true)(Z:args.length=f.p)(C:fE h₀ cfg)
 (h:∀env Y N,bZ env ⟨d.scope.names,t.map strOf,aG f.y,0⟩ 0->i7 k (A.deeper env)->Rp h₀ ⟨d.scope.names,t.map strOf,aG f.y,0⟩ env 0 W s (args++bw (f.y-f.p) .c) [] Y [] N->
   ∀R,aM (aL C.prog C.w) (A.deeper env) (fw d.body env) (λf s'=>Q (match f with| .ret v=>v|_=>.none) s') R N):
 aM (aL C.prog C.w) A (call (.ref a) vs) Q E s:=by
 refine oR P.ex λo w cd j M u i=>?_;delta I0 at x;simp only[au,beq_iff_eq]at x;exact ug x.1.2 x.2 q M u i hA O X D B Z C λenv Y N z z=>h env Y N
theorem C7(H:wJ C k){f:FD}{t:List (List Nat)}{d:iL}(x:I0 f t d 0=true)(J:TY f t d=true){a:az}(P:FnAt h₀ d a){vs:List aw}{args:List AV}
 (hA:i7 (k+1) A)(O:bO h₀ s.heap)(X:j6 W s.heap)(D:ft W ρ s.heap vs args)(Q:dU args=true)(G:iR cfg f args=some av):
 aM (aL C.prog C.w) A (call (.ref a) vs) (e9 W ρ s av) E s:=by
 have Z:args.length=f.p:=by
  delta iR at G;split at G
  ·assumption
  ·injection G
 delta iR at G;rw[if_pos Z]at G;refine Sg x J P hA O X D Q Z C λenv Y N hE w R V=>?_;have I:mW ⟨d.scope.names,t.map strOf,aG f.y,0⟩ f.body d.body=true:=by delta I0 at x;exact(ba (ba x).1).1
 generalize M:dh cfg f.body (args++bw (f.y-f.p) .c) []=res at G;rcases res with _|⟨L,loc',st'⟩
 ·injection G
 have S:(L=.ret av\/(L=.next/\av=.none))->aM (aL C.prog C.w) (A.deeper env) (fw d.body env) (λf s'=>e9 W ρ s av (match f with| .ret v=>v|_=>.none) s') V N:=λy=>by
  refine aA (WN H f.body _ _ _ _ _ _ _ _ _ _ _ _ _ _ _ _ hE w R M I) (λK s' q=>?_) λz z e=>e;refine cX q λW' ρ' m T U=>?_;clear q;refine ak y (λu=>?_) λu=>?_
  ·rw[u]at m;rcases K with⟨⟩<;>first|exact mF m|skip
   exact⟨T.ext,(m.1.noRef m.2).move (λp B=>.inl (T.w0 p B)) (λz z z z e=>e) λz z e=>e⟩
  ·rw[u.1]at m;refine ab u.2 ?_;rcases K with⟨⟩<;>first|exact mF m|skip
   exact⟨T.ext,.none⟩
 rcases L with _|_|v
 ·injection G with F;exact S (.inr ⟨rfl,F.symm⟩)
 ·injection G
 ·injection G with F;exact S (.inl (F▸rfl))
end
noncomputable def MM(a n:Int):Option (List AV):=
 if a<0\/n<=0\/100000<n then none else if a=0 then some []else if(ag a:Int)<=n then some [.int a]else if(ag a:Int)<=2*n then some [.int (a.fmod (2^n.toNat)),.int (a.fdiv (2^n.toNat))]else none
noncomputable def QF(l:List AV)(n:Int):Option AV:=
 if n<=0\/100000<n then none else match l with
 | []=>some (.int 0)
 |x::l=>match l with
  | []=>(eE x).map .int
  |y::l=>(l0 l).bind λz=>(eE x).bind λa=>(eE y).bind λb=>if ag b<=1000000 then some (.int (b*2^n.toNat+a))else none
noncomputable def xw(args:List AV):Option AV:=(l2 args).bind λq=>(eE q.1).bind λa=>(eE q.2).bind λn=>(MM a n).map .lst
noncomputable def xy(args:List AV):Option AV:=(l2 args).bind λq=>(tl q.1).bind λl=>(eE q.2).bind λn=>QF l n
noncomputable def DR:List Int:= [173,847,6150,6155,6156,6157,8203,8204,8205,8288,65279]++(aG 16).map λ(k:Nat)=>65024+(k:Int)
@[irreducible] noncomputable def RO(i:Int):Option (List Nat):=(iT.lookup i).map λs=>s.cps.toList
noncomputable def Ln(B:dC):Nat->Nat->List AV->Option AV
 |0,_,_=>none
 |k+1,f,args=>
  if f=4 then if k<3 then none else xw args
  else if f=5 then if k<3 then none else xy args
  else if f=23 then none
  else if f=8 then(l1 args).bind λa=>(jH a).map λz=>AV.none
  else(fdOf f).bind λq=>iR ⟨B.Y,B.b1,B.b3,Ln B k⟩ q.1 args
noncomputable def Cn(B:dC)(k:Nat):dC:=⟨B.Y,B.b1,B.b3,Ln B k⟩
noncomputable def qW:dC:=⟨[40,2,1,4000],DR,RO,λz z=>none⟩
noncomputable def nG(f:Nat):Option iL:=match pW f with
 |some g=>(recsOf q0).find? λd=>d.name==g
 |none=>none
noncomputable def YF(f:Nat):Bool:=(fdOf f).isNone||bD (fdOf f) λq=>bD (nG f) λd=>I0 q.1 q.2 d 0&&TY q.1 q.2 d
theorem Wo:((aG 23).all YF)=true:=by decide+kernel
section
variable{h₀:bk}{cfg:dC}{C:fE h₀ cfg}{k:Nat}
variable{prog:fA}{w:cW}{A:cP}{E:aw->ao->Prop}{s:ao}{W:az->Prop}{ρ:List az}{st:St}{n0:Nat}{av:AV}
theorem ft.XW{h:bk}{vs:List aw}{l:List AV}{i:Nat}{a:AV}(x:ft W ρ h vs l)(e:l.reverse[i]? =some a){I:Prop}(N:∀v,vs[vs.length-1-i]? =some v->VR W ρ h v a->I):I:=by refine aC (x.reverse.get e) λv J U=>?_;rw[List.getElem?_reverse (by simpa using((aQ.mp J).1))]at J;exact N v J U
theorem JV{N:ao}{a:az}{vs:List aw}{l:List AV}(hh:A.handled=none)(Q:n0<=N.toks)(e:gK s N)(hL:j6 W N.heap)(hw:¬W a)(G:cL "list" N.heap a vs)(D:ft W ρ N.heap vs l):
 ya prog w A W ρ n0 s l.reverse (.ref N.heap.objs.size) {N with heap:=N.heap.push (revObj a ((vs.toArray.size:Int)-1))}:=by
 have L:a≠N.heap.objs.size:=λe=>by refine aI G λn h=>?_;simp only[e,cO]at h;injection h
 have B:vs.toArray.size=l.reverse.length:=by simpa using D.length
 have fr:=cO N.heap;have Wk:=Walks.listRev (prog:=prog) (w:=w) (A:=A) hh N.heap.objs.size a L vs.toArray;rw[B]at Wk;refine⟨Q,e.trans (.of (s:=N) (tk:=N.toks) (bO.push _ _)),N.heap.objs.size,_,_,_,rfl,It.rx Wk (λW ρ h=>¬W a/\cL "list" h a vs/\ft W ρ h vs l) ?_ ?_ ?_ ?_,?_,?_,λ_ f=>f.elim⟩
 ·intro W ρ h i v b K m O;refine K.2.2.XW O λR J U=>?_;have d:vs.length=l.reverse.length:=B;rw[d]at J;have:vs[l.reverse.length-1-i]? =some v:=by simpa using m
  rw[J]at this;injection this with F;exact cA F<|U
 ·intro W W' ρ ρ' h h' o1 hW I X;exact eY o1 λx r z=>aI r λn y=>⟨λq=>(hW _ q).elim x (λq=>by rw[y]at q;injection q),I _ _ _ x ⟨n,y⟩,z.move hW I X⟩
 ·intro W ρ h b K O;simp only[aS,dy,or_false]at O;refine ak O (λH=>?_) λg=>?_;refine ab H ?_;rotate_left;refine ab g ?_;rotate_right
  ·exact .inl rfl
  ·exact .inr ⟨K.1,λo M=>by refine aI K.2.1 λn h=>?_;rw[h]at M;injection M with F;subst F;exact i8 rfl⟩
 ·exactλi h j=>eY j λ_ P _=>gB P λo M V u=>⟨o,_,M,jr u (by intro q t;simp[zL]),V,by decide⟩
 ·have Z:((vs.toArray.size:Nat):Int)-1=(l.reverse.length:Int)-1- ((0:Nat):Int):=by refine ab B ?_;simp
  refine⟨⟨bz _,⟨_,bV _ rfl,rfl,by refine ab Z ?_;rfl⟩,G.isList.push _⟩,?_,?_,?_⟩
  ·refineλS=>ak S (λq=>?_) λq=>?_
   ·exact hw q
   ·exact L q
  ·exact aI G λn y=>⟨n,bO.push _ _ _ _ y⟩
  ·exact D.move (λb O=>O.imp id λq=>by exact ab q<|fr) (λb T vs _ Y=>aI Y λn y=>⟨n,bO.push _ _ _ _ y⟩) λ_ _ y=>y
 ·exactλp c=>ab c<|gC e fr
theorem AL{a:CE}(L:bU C k a):oE C k (.M a):=by
 intro K env x loc av avs W ρ n0 st A s E hE hA I M n z V;refine vt V λf p x pos e=>?_;rw[e]at V⊢;have V:(true&&rn K "reversed" f&&cz K 0 a x&&bJ x)=true:=V;refine bW M λl J e=>?_;rw[<-e]at n;have h:avs=l.reverse:=by
  have n:(if l.reverse.length<=cB then some l.reverse else none)=some avs:=n;split at n
  ·exact(ay n).symm
  ·injection n
 refine ab h<|dE (lu (v:=.type "reversed") hE (ba (ba (ba V).1).1).2 (om rfl) I.base ?_);refine ab (cY (ba V).2)<|dX rfl (dH (dP ?_));refine cu (L _ _ _ _ _ _ _ _ _ _ _ _ hE hA I (Kz J) (ba (ba V).1).2) λv N D=>e7 ?_;have r3:=D.2.2;cases r3 with
 |lst o G X=>
  refine call_reversed_list G.isList<|wpAny_pyIter_revIter ⟨_,bV _ rfl,rfl,rfl⟩ (JV (prog:=C.prog) (w:=C.w) (A:=A) (n0:=n0) (s:=s) hA.hh D.1 D.2.1 (I.step D).live o G X)
end
section
variable{M:Model}{A:cP}{R:GenEnd}{Y:Rx}{n:Nat}{s₀:ao}{c:Code}{fs:List Frame}{s:ao}{env:fZ}
 {K:kO->jA Fin}{H:aw->jA Fin}{gd:Bool->Bool}{lv:List aw->List aw}
theorem C9{G:Expr}{body B:List bC}{pos:eO}
 (h:aM M (A.over c fs) (mT G env (fe G env)) (λb s'=>if b=true then BI M A R Y n s₀ c ((fw body env).wrap K H gd lv) fs s' else BI M A R Y n s₀ c ((fw B env).wrap K H gd lv) fs s')
   (λx s'=>BI M A R Y n s₀ c (H x) fs s') s):BI M A R Y n s₀ c ((se (.If G body B pos) env).wrap K H gd lv) fs s:=by
 show BI M A R Y n s₀ c ((jF pos>>=λz=>mT G env (fe G env)>>=λb=>if b=true then fw body env else fw B env).wrap K H gd lv) fs s;refine fB (eA (fB (aA h (λb s' O=>?_) λz z e=>e)));rcases b with _|_
 ·exact O
 ·exact O
theorem rH{st:bC}{rest:List bC}(h:aM M (A.over c fs) (se st env) (λf s'=>f=.next/\BI M A R Y n s₀ c ((fw rest env).wrap K H gd lv) fs s') (λx s'=>BI M A R Y n s₀ c (H x) fs s') s):
 BI M A R Y n s₀ c ((fw (st::rest) env).wrap K H gd lv) fs s:=by
 refine ip (seg_wrap (aA h (λf s' P=>?_) λz z e=>e));obtain⟨rfl,P⟩:=P;exact P
theorem Pk{y iter:Expr}{body B:List bC}{pos:eO}(G:∀x,jg iter env x=pure x)
 (h:aM M (A.over c fs) (fe iter env) (λI N=>aM M (A.over c fs) (tW I) (λit T=>∀p,BI M A R Y n s₀ (.forLoop y it body B env) (M.den (.forLoop y it body B env))
   (.ret (λr=>((match r with| .ok f=>(.pure f:jA kO)| .error e=>.raise e).onRaise λ(x:aw)=>do
     if(<-field x 1)==UQ then unsupported "frame.own-activation:exception-without-traceback"
     setFlight x env.frame).wrap K H gd lv) none (gd false) (lv []) c p []::fs) T) (λx s'=>BI M A R Y n s₀ c (H x) fs s') N) (λx s'=>BI M A R Y n s₀ c (H x) fs s') s):
 BI M A R Y n s₀ c ((se (.For y iter body B pos) env).wrap K H gd lv) fs s:=by
 show BI M A R Y n s₀ c ((jF pos>>=λz=>fe iter env>>=λa=>jg iter env a>>=λx=>jF iter.pos>>=λz=>ie [x] (tW x)>>=λit=>runOwn (.forLoop y it body B env) env).wrap K H gd lv) fs s;refine fB (eA (fB (aA h (λI N D=>fB (wpAny_of_eq (G I) (fB (eA (fB (gc (aA D (λit T V=>?_) λz z e=>e))))))) λz z e=>e)));exact seg_call V
end
section
variable{prog:fA}{w:cW}{A:cP}{R:GenEnd}{Y:Rx}{n:Nat}{s₀:ao}{fs:List Frame}{s:ao}{env:fZ}
noncomputable abbrev G0(env:fZ):aw->jA Fin:=λe=>(do MH e env;rY e:jA Unit).wrap (λz=>.raise e) .raise id id
theorem tw{y:Expr}{it:aw}{body B:List bC}
 (h:aM (aL prog w) (A.over (.forLoop y it body B env) fs) (tX it) (λr N=>match r with
   |none=>BI (aL prog w) A R Y n s₀ (.forLoop y it body B env) (.pure (.again (.block B env))) fs N
   |some v=>aM (aL prog w) (A.over (.forLoop y it body B env) fs) (gJ y it v) (λz W=>
     aM (aL prog w) (A.over (.forLoop y it body B env) fs) (lj y env v) (λz T=>
      BI (aL prog w) A R Y n s₀ (.forLoop y it body B env) ((fw body env).wrap (λf=>match f with
       | .next| .cont=>.pure (.again (.forLoop y it body B env))
       | .brk=>.pure (.done .next)
       | .ret v=>.pure (.done (.ret v))) (G0 env) id id) fs T)
      (λx s'=>BI (aL prog w) A R Y n s₀ (.forLoop y it body B env) (G0 env x) fs s') W)
     (λx s'=>BI (aL prog w) A R Y n s₀ (.forLoop y it body B env) (G0 env x) fs s') N)
   (λx s'=>BI (aL prog w) A R Y n s₀ (.forLoop y it body B env) (G0 env x) fs s') s):
 BI (aL prog w) A R Y n s₀ (.forLoop y it body B env) ((aL prog w).den (.forLoop y it body B env)) fs s:=by
 have E:∀(x:aw) s',BI (aL prog w) A R Y n s₀ (.forLoop y it body B env) (G0 env x) fs s'->BI (aL prog w) A R Y n s₀ (.forLoop y it body B env) ((do MH x env;rY x:jA Unit).bind λz=>.raise x) fs s':=λx s' Z=>ab (Xx ..)<|Z;show BI _ A R Y n s₀ _ ((forTurn y it body B env).onRaise (λx=>do MH x env;rY x)) fs s;refine ab (Ur ..) ?_;delta forTurn;refine fB (eA ?_);refine fB (wpAny_onRaise (aA h (λr N D=>?_) λx s' Z=>eA (E x s' Z)));rcases r with _|v
 ·exact D
 ·refine fB (aA D (λz W C=>?_) λx s' Z=>E x s' Z);refine fB (aA C (λz T V=>?_) λx s' Z=>E x s' Z);refine ab (Xc ..) (ab (wh ..) ?_);exact ab (jA.wrap_congr (fw body env) _ _ (K':=λf=>match f with
   | .next| .cont=>.pure (.again (.forLoop y it body B env))
   | .brk=>.pure (.done .next)
   | .ret v=>.pure (.done (.ret v))) (H':=G0 env)
   (λf=>by rcases f with⟨⟩<;>rfl)
   (λe=>Xx _ _))<|V
theorem wH(h:BI (aL prog w) A R Y n s₀ (.block [] env) (.pure (.done .next)) fs s):BI (aL prog w) A R Y n s₀ (.block [] env) ((aL prog w).den (.block [] env)) fs s:=h
end
set_option genInjectivity false in
structure GB where
 a1:bC
 a2:bC
 g:Expr
 i:Expr
 t1:Expr
 y1:Expr
 a3:bC
 t2:Expr
 a4:bC
 y2:Expr
 t3:Expr
 y3:Expr
noncomputable def l3{B:Type}:List B->Option (B×B×B)
 | []=>none
 |a::l=>(l2 l).map λb=>(a,b)
theorem VS{B:Type}{l:List B}{q:B×B×B}(h:l3 l=some q):l= [q.1,q.2.1,q.2.2]:=by
 rcases l with _|⟨a,l⟩
 ·injection h
 ·exact aN (rq h) λe N=>ab (my N) (ab e rfl)
noncomputable def l4{B:Type}:List B->Option (B×B×B×B)
 | []=>none
 |a::l=>(l3 l).map λb=>(a,b)
theorem AN{B:Type}{l:List B}{q:B×B×B×B}(h:l4 l=some q):l= [q.1,q.2.1,q.2.2.1,q.2.2.2]:=by
 rcases l with _|⟨a,l⟩
 ·injection h
 ·exact aN (rq h) λe N=>ab (VS N) (ab e rfl)
noncomputable def Mn(e:Expr):Option (Option Expr×eO):=if h:e.ctorIdx=13 then BU (motive_1:=λz=>Option _) e h (λa b=>some (a,b))else none
theorem Hy(e:Expr):i9 (Mn e) λq=>e=.Yield q.1 q.2:=rU λi=>BU (motive_1:=λe=>∀i,i9 (BU (motive_1:=λz=>Option _) e i (λa b=>some (a,b))) λq=>e=.Yield q.1 q.2) e i (λa b z=>rfl) i
noncomputable def Ng(x:bC):Option Expr:=(Mw x).bind λq=>(Mn q.1).bind λr=>r.1
theorem ye{x:bC}{y:Expr}(h:Ng x=some y){I:Prop}(N:∀p q,x=.Expr (.Yield (some y) p) q->I):I:=by refine aC (aZ h) λq J h=>aC (aZ h) λr U h=>N _ _ (by refine bp (ur J) ?_;rewrite[cx (Hy _) U];exact ab h rfl)
noncomputable def wL(b:List bC):Option GB:=(l4 b).bind λq=>(Dw q.2.2.1).bind λf=>(l0 f.2.2.2.1).bind λz=>(l1 f.2.2.1).bind λc=>(BE c).bind λi1=>(l1 i1.2.2.1).bind λe1=>(l2 i1.2.1).bind λb1=>(Ng b1.1).bind λA=>(BE e1).bind λo=>(l1 o.2.1).bind λb2=>(l1 o.2.2.1).bind λe2=>(Ng e2).bind λC=>(BE q.2.2.2).bind λi=>(l0 i.2.2.1).bind λz=>(l1 i.2.1).bind λb3=>(Ng b3).map λg=>⟨q.1,q.2.1,f.1,f.2.1,i1.1,A,b1.2,o.1,b2,C,i.1,g⟩
theorem Of{b:List bC}{B:GB}{P:Prop}(h:wL b=some B)(k:∀R H Y l G W I u D n,b= [B.a1,B.a2,.For B.g B.i [.If B.t1 [.Expr (.Yield (some B.y1) R) H,B.a3] [.If B.t2 [B.a4] [.Expr (.Yield (some B.y2) Y) l] G] W] [] I,.If B.t3 [.Expr (.Yield (some B.y3) u) D] [] n]->P):P:=by refine dn h λq J h=>dn h λf U h=>dn h λz S h=>dn h λc d h=>dn h λi1 O h=>dn h λe1 X h=>dn h λb1 V h=>dn h λA Z h=>dn h λo w h=>dn h λb2 Q h=>dn h λe2 E h=>dn h λC K h=>dn h λi M h=>dn h λz N h=>dn h λb3 T h=>bW h λg a j=>?_;subst j;refine ye Z λR H y1=>ye K λY l y2=>ye a λu D y3=>?_;have e:c=.If i1.1 [.Expr (.Yield (some A) R) H,b1.2] [e1] i1.2.2.2:=ab (rV O) (ab (gL X) (ab (my V) (ab y1 rfl)));have F:e1=.If o.1 [b2] [.Expr (.Yield (some C) Y) l] o.2.2.2:=ab (rV w) (ab (gL Q) (ab (gL E) (ab y2 rfl)));have t:q.2.2.1=.For f.1 f.2.1 [c] [] f.2.2.2.2:=ab (xN U) (ab (lR S) (ab (gL d) rfl));have L:q.2.2.2=.If i.1 [.Expr (.Yield (some g) u) D] [] i.2.2.2:=ab (rV M) (ab (lR N) (ab (gL T) (ab y3 rfl)));rw[F]at e;rw[e]at t;exact k R H Y l _ _ _ u D _ (ab (AN J) (ab t (ab L rfl)))
noncomputable def PB:List bj:= ["addr","pos","escape","ch"]
noncomputable def K8(d:iL):Ck:=⟨d.scope.names,PB,[0,1,2,3],0⟩
noncomputable def IV(K:Ck)(e:Expr):Bool:=bD (n7 e) λq=>rn K "enumerate" q.1&&cz K 0 (.a 0) q.2&&bJ q.2
theorem Kb{K:Ck}{i:Expr}(h:IV K i=true){I:Prop}(N:∀f p x q,i=.Call (.Name f p) [x] [] q->(rn K "enumerate" f&&cz K 0 (.a 0) x&&bJ x)=true->I):I:=by refine vt h λf p x q P=>?_;subst P;exact N _ _ _ _ rfl h
noncomputable def I8(K:Ck)(B:GB):Bool:=
 [ka K (.cI (.bX 1) (.d 0)) B.a1,ka K (.cI (.bX 2) (.v false)) B.a2,fg K (.many [1,3]) B.g,IV K B.i,cz K 1 (.a 2) B.t1,
 cz K 0 (.tuple [.a 1,.f .Add (.l [92]) (.a 3)]) B.y1,ka K (.cI (.bX 2) (.v false)) B.a3,cz K 1 (.cmp .Eq (.a 3) (.l [92])) B.t2,ka K (.cI (.bX 2) (.v true)) B.a4,
 cz K 0 (.tuple [.a 1,.a 3]) B.y2,cz K 1 (.a 2) B.t3,cz K 0 (.tuple [.a 1,.l [92]]) B.y3].all id
noncomputable def Xs(d:iL):Bool:=
 [d.scope.kind==.function,d.scope.isGenerator,!d.scope.isCoroutine,(d.scope.names.all λp=>p.2 !=.free&&p.2 !=.cell),decide PB.Nodup,
 d.params.posonlyargs.isEmpty,d.params.vararg.isNone,d.params.kwonlyargs.isEmpty,d.params.kwarg.isNone,(d.params.args.map (·.arg)== [("addr":bj)]),d.scope.names.lookup ("addr":bj)==some .local].all id
section
variable{h₀:bk}{cfg:dC}{C:fE h₀ cfg}{k:Nat}
variable{prog:fA}{w:cW}{A:cP}{E:aw->ao->Prop}{s s':ao}{W:az->Prop}{ρ:List az}{st:St}{n0:Nat}{av:AV}{K:Ck}{env:fZ}{loc loc':Loc}
noncomputable def td:AV->Bool
 | .none| .bool _| .int _| .str _=>true
 |_=>false
theorem VR.flat{v:aw}{a:AV}{W':az->Prop}{ρ':List az}{h h':bk}(x:VR W ρ h v a)(P:td a=true):VR W' ρ' h' v a:=by
 rcases x with⟨⟩<;>first|exact(aB P).elim|skip
 ·exact .none
 ·exact .bool _
 ·exact .int _ _
 ·exact .str _ _
def qF(o:hC):Prop:=∃vs n,o.data=.seq vs n
structure pT (P:az->Prop) (G:Nat->Prop) (s s':ao):Prop where
 keep:∀b o,s.heap.get? b=some o->(P b\/qF o\/yh o)->∃o',s'.heap.get? b=some o'/\Gr s'.heap b o o'
 os:s'.os=s.os
 hJ:s.gens.size<=s'.gens.size
 gens:∀g,g<s.gens.size->¬G g->s'.gens[g]? =s.gens[g]?
 bare:wa s.gens->wa s'.gens
def Fu(s s':ao):Prop:=∀b o,s.heap.get? b=some o->∃R,s'.heap.get? b=some R
theorem Fu.refl(s:ao):Fu s s:=λz o e=>⟨o,e⟩
theorem Fu.trans{a b c:ao}(x:Fu a b)(y:Fu b c):Fu a c:=λp o e=>aI (x p o e) λR h=>y p R h
theorem Fu.ext{s s':ao}(e:gK s s'):Fu s s':=λb o h=>e.keep.alive b o h
theorem pT.nt{P:az->Prop}{G:Nat->Prop}{s s':ao}(x:pT P G s s'){b:az}{o:hC}(e:s.heap.get? b=some o)(h:P b\/qF o\/yh o)(Q:Mine.Internal.nt o):s'.heap.get? b=some o:=by refine aC (x.keep b o e h) λR J g=>?_;rw[g.nt Q]at J;exact J
theorem pT.refl{P:az->Prop}{G:Nat->Prop}(s:ao):pT P G s s:=⟨λz o e z=>⟨o,e,.refl _ _ _⟩,rfl,aV _,λz z z=>rfl,id⟩
theorem pT.code{P:az->Prop}{G:Nat->Prop}{s s':ao}(x:pT P G s s'){cd:aw}{q:bj}(h:s.heap.CodeRec cd q):s'.heap.CodeRec cd q:=
 rj h λa B vs t e1 e2 c F=>⟨a,B,vs,t,e1,x.nt e2 (.inr (.inr ⟨vs,q,t,c,F⟩)) (vJ ⟨vs,q,t,c,F⟩),c,F⟩
theorem pT.base{P:az->Prop}{G:Nat->Prop}{s s':ao}{h₀:bk}(x:pT P G s s')(O:bO h₀ s.heap)(b0:∀b o,h₀.get? b=some o->P b):bO h₀ s'.heap:=λp o e=>aC (O p o e) λo1 J f=>aC (x.keep p o1 J (.inl (b0 p o e))) λr U j=>⟨r,U,f.trans j λc q=>x.code⟩
theorem pT.trans{P:az->Prop}{G:Nat->Prop}{a b c:ao}(x:pT P G a b)(y:pT P G b c):pT P G a c:=
 ⟨λp o e h=>by
  refine aC (x.keep p o e h) λo1 J f=>?_;have h':P p\/qF o1\/yh o1:=h.imp id λL=>by
   refine ak L (λH=>ej H λvs n u=>?_) λV=>?_
   ·exact ab (f.nt (i8 u))<|.inl ⟨vs,n,u⟩
   ·exact ab (f.nt (vJ V))<|.inr V
  exact aC (y.keep p o1 J h') λr U j=>⟨r,U,f.trans j λc q T=>rj T λa B vs t e1 e2 I F=>⟨a,B,vs,t,e1,y.nt e2 (.inr (.inr ⟨vs,q,t,I,F⟩)) (vJ ⟨vs,q,t,I,F⟩),I,F⟩⟩,y.os.trans x.os,aP x.hJ y.hJ,λg d D=>(y.gens g (be d x.hJ) D).trans (x.gens g d D),λh=>y.bare (x.bare h)⟩
theorem pT.jQ{P:az->Prop}{G:Nat->Prop}{s s':ao}(e:gK s s'):pT P G s s':=⟨λb o h z=>e.keep b o h,e.os,e.hJ,λg d z=>e.gens g d,e.bare⟩
structure GS (h₀:bk) (K:Ck) (env:fZ) (P:az->Prop) (loc:Loc) (s:ao):Prop where
 base:bO h₀ s.heap
 frame:eo env s.heap
 cells:env.cells= []
 vars:∀(i:Nat),i∈K.acc->∀(x:bj),K.tab[i]? =some x->∀(a:AV),loc[i]? =some a->a≠.c->td a=true/\∃v,iq env s.heap x v/\VR (λ_=>False) [] s.heap v a
 dead:¬P env.locals
 mX:h₀.get? env.locals=none
theorem GS.own(V:env.cells= []){p:az}:j7 env p↔p=env.locals:=by
 constructor
 ·refineλS=>ak S (λh=>?_) λH=>aI H λx h=>?_
  ·exact h
  ·rw[V]at h;rcases h with⟨⟩
 ·exactλh=>.inl h
theorem GS.rp{P:az->Prop}(x:GS h₀ K env P loc s):Rp h₀ K env 0 (λz=>False) {s with heap:=h₀} loc [] (j7 env) [] s:=by
 refine⟨⟨x.base,λp B=>?_,bz _,λi hi n Q a L N=>?_,λn l e=>by injection e,x.frame,λn l a e=>by injection e⟩,λp B=>B,rfl,λn m l l' p e=>by injection e,λn l p e=>by injection e,λp B=>?_,
  ⟨x.base,rfl,aV _,λz z=>rfl,id⟩,λp B=>B.elim,λz o e=>⟨o,e,.refl _ _ _⟩,λp B=>B.elim⟩
 ·rw[GS.own x.cells]at B;refine ew λY=>?_;subst B;refine oQ x.frame.ns λm o z z M z=>Y ?_;clear Y;exact⟨o,M⟩
 ·refine ew λY=>?_;obtain⟨J,v,U,S⟩:=x.vars i hi n Q a L N;refine Y ?_;clear Y;exact⟨v,U,S.flat J⟩
 ·refine ak B (λB=>?_) λH=>eb H λn l e z=>?_
  ·rw[GS.own x.cells]at B;exact ab B<|x.mX
  ·injection e
theorem GS.ei{P:az->Prop}(x:GS h₀ K env P loc s):EI h₀ K.tab K.acc env (j7 env) [] 0 loc [] s:=x.rp.ei
theorem GS.keep{P:az->Prop}(x:GS h₀ K env P loc s)(O:bO h₀ s'.heap)(I:∀o,s.heap.get? env.locals=some o->nt o->s'.heap.get? env.locals=some o):GS h₀ K env P loc s':=by
 have X:∀{m},s.heap.Ns env.locals m->s'.heap.Ns env.locals m:=λD=>kB D λo es l B F t=>⟨o,es,l,I o B (nN F),F,t⟩;refine⟨O,x.frame.by λb o h e Q=>?_,x.cells,λi hi n Q a L N=>?_,x.dead,x.mX⟩
 ·refine ak h (λH=>?_) λg=>aI g λy h=>?_;subst H
  ·exact I o e Q
  ·rw[x.cells]at h;rcases h with⟨⟩
 ·refine ew λY=>?_;obtain⟨J,v,U,S⟩:=x.vars i hi n Q a L N;refine Y ?_;clear Y;refine⟨J,v,?_,S.flat J⟩;rcases U with⟨B,m,F,t⟩|⟨B,c,F,t⟩
  ·exact .inl ⟨B,m,X F,t⟩
  ·rw[x.cells]at F;injection F
theorem GS.Q4{P:az->Prop}(x:GS h₀ K env P loc s){W:az->Prop}{ρ:List az}{st:St}{s₀:ao}{p:az->Prop}(R:Rp h₀ K env 0 p s₀ loc' st W ρ s')(B:∀(i:Nat) (a:AV),loc'[i]? =some a->a≠.c->td a=true):GS h₀ K env P loc' s':=
 ⟨R.ei.base,R.ei.frame,x.cells,λi hi n Q a L N=>aC (R.ei.vars i hi n Q a L N) λv J U=>⟨B i a L N,v,J,U.flat (B i a L N)⟩,x.dead,x.mX⟩
theorem GS.KP{P:az->Prop}(x:GS h₀ K env P loc s){o:hC}(h:s.heap.get? env.locals=some o):¬qF o:=by refineλc=>ej c λvs n u=>oR x.frame.ns λm R es l M G z=>?_;rw[h]at M;injection M with F;subst F;rw[u]at G;injection G
theorem GS.Qy{P:az->Prop}(x:GS h₀ K env P loc s){ρ':List az}{st':St}{W':az->Prop}(S:j8 env [] [] (j7 env) s ρ' st' W' s'){G:Nat->Prop}:pT P G s s':=by
 refine⟨λb o e h=>S.keep b o ?_ e,S.os,S.hJ,λg d z=>S.gens g d,S.bare⟩;by_cases V:yh o
 ·exact .inr V
 ·refine .inl λT=>ak T (λT=>?_) λH=>eb H λn l e z=>?_
  ·rw[GS.own x.cells]at T;subst T;refine ak h (λh=>?_) λH=>ak H (λh=>?_) λh=>?_
   ·exact x.dead h
   ·exact x.KP e h
   ·exact V h
  ·injection e
end
section
variable{h₀:bk}{cfg:dC}{C:fE h₀ cfg}{k:Nat}
variable{prog:fA}{w:cW}{A:cP}{E:aw->ao->Prop}{s s' s₀:ao}{P:az->Prop}{W:az->Prop}{ρ:List az}{st:St}{n0:Nat}{av:AV}{K:Ck}{env:fZ}{loc loc':Loc}
theorem AE{es:List CE}{x:Expr}{l:List AV}(Z:∀e∈es,bU C k e)(hE:bZ env K n0)(hA:i7 k A)(I:EI h₀ K.tab K.acc env W ρ n0 loc st s)(M:so cfg st es loc=some l)(V:cz K 0 (.tuple es) x=true):
 aM (aL C.prog C.w) A (fe x env) (λv s'=>gK s s'/\∃a vs,v=.ref a/\s.heap.get? a=none/\(∀b o,s.heap.get? b=some o->b<a)/\cL "tuple" s'.heap a vs/\ft W ρ s'.heap vs l) E s:=by
 refine Kf V λxs u pos e=>?_;subst e;have V:(decide (es.length<=1000)&&fV K 0 es xs)=true:=V;simp only[au,decide_eq_true_eq]at V;refine wpAny_Tuple (gW es Z _ _ _ _ _ _ _ _ _ _ _ _ _ _ hE hA I M V.2 λvs N B y d=>⟨?_,?_⟩)
 ·exact ab d.length<|ab (nJ M)<|aP V.1 (by decide)
 ·exact⟨y.trans (.of (s:=N) (tk:=N.toks) (bO.push _ _)),_,vs,rfl,gC y (cO _),λb o h=>(aC (y.keep b o h) λR h' z=>gN h'),⟨0,bV _ rfl⟩,d.keep (iu.k (bO.push _ _))⟩
noncomputable def YG(h₀:bk)(P:az->Prop)(avs:List AV):Rx:=λn s₀ v s' N=>∃(ad:az) (p:Int) (u:List Nat) (t t':nZ),avs[avs.length-1-n]? =some (.tup [.int p,.str u])/\v=.ref ad/\s₀.heap.get? ad=none/\
 cL "tuple" s'.heap ad [.int p t,.str (strOf u) t']/\pT P (λz=>False) s₀ s'/\
 ∀S,bO h₀ S.heap->(∀b o,s'.heap.get? b=some o->¬P b->¬qF o->nt o->S.heap.get? b=some o)->N (.send .none) S
noncomputable def RG(P:az->Prop):GenEnd:=λn s₀ r N=>r=.ok (.ret .none)/\n=0/\pT P (λz=>False) s₀ N
theorem yB{e1 e2:CE}{y:Expr}{p:Int}{u:List Nat}{avs:List AV}{n:Nat}{Z:ao->Prop}(J:bU C k e1)(U:bU C k e2)(hE:bZ env K 0)(hA:i7 k A)(x:GS h₀ K env P loc s)(O:pT P (λz=>False) s₀ s)(c:∀ad,(∀b o,s.heap.get? b=some o->b<ad)->s.heap.get? ad=none->s₀.heap.get? ad=none)
 (d:ev cfg [] e1 loc=some (.int p))(Q:ev cfg [] e2 loc=some (.str u))(V:cz K 0 (.tuple [e1,e2]) y=true)(hi:avs[avs.length-1-n]? =some (.tup [.int p,.str u]))
 (M:∀s' S,gK s s'->bO h₀ S.heap->(∀b o,s'.heap.get? b=some o->¬P b->¬qF o->nt o->S.heap.get? b=some o)->Z S):
 aM (aL C.prog C.w) A (fe y env) (λv s'=>∀N:Resume->ao->Prop,(∀x S,(match x with| .ref _=>False|_=>Z S)->N (.send x) S)->YG h₀ P avs n s₀ v s' N) E s:=by
 refine aA (AE (es:= [e1,e2]) (λe X=>?_) hE hA x.ei (l:= [.int p,.str u]) (by simp[(id jW),d,Q]) V) (λv s' r=>?_) λz z e=>e;clear V
 ·simp only[aS,dy,or_false]at X;refine ak X (λH=>?_) λg=>?_;refine ab H ?_;rotate_left;refine ab g ?_;rotate_right
  ·exact J
  ·exact U
 ·refine ew λY=>?_;obtain⟨B,a,vs,rfl,L,R,G,D⟩:=r;refine Y ?_;clear Y;intro N T;cases D with
  |cons a1 b1=>
   rcases b1 with _|⟨a2,b2⟩
   ·refine ew λY=>?_;rcases b2 with⟨⟩;rcases a1 with⟨⟩;rcases a2 with⟨⟩;refine Y ?_;clear Y;refine⟨a,p,u,_,_,hi,rfl,?_,G,O.trans (.jQ B),λS I F=>T _ S (M s' S B I F)⟩;exact c a R L
theorem JT{e:CE}{i:Nat}{x:bC}(Z:bU C k e)(hE:bZ env K 0)(hA:i7 k A)(X:GS h₀ K env P loc s)(S:∀(i:Nat) (a:AV),loc[i]? =some a->a≠.c->td a=true)(M:ev cfg [] e loc=some av)(D:td av=true)(hi:i<loc.length)
 (V:ka K (.cI (.bX i) e) x=true)(R:∀v,cz K 0 e v=true->iF v=false):
 aM (aL C.prog C.w) A (se x env) (λf s'=>f=.next/\GS h₀ K env P (loc.set i av) s'/\pT P (λz=>False) s s'/\Fu s s'/\∀b o,b≠env.locals->s.heap.get? b=some o->nt o->s'.heap.get? b=some o) E s:=by
 refine ui V λg v pos o1 I=>?_;subst o1;clear V;simp only[au]at I;refine ew λY=>?_;refine aN I λr z=>?_;clear I;refine aN r λc m=>?_;clear r;obtain⟨u,d,rfl⟩:∃x p,g=.Name x p:=cX (ij (K:=K) (names:=K.names) (i:=i) c) λx p e z z=>⟨x,p,e⟩;refine Y ?_;clear Y;refine aA (oZ (t:=.bX i) Z hE hA X.rp M (loc':=loc.set i av) (by simp[(id sj),ek,hi]) c m (.inl ⟨_,_,rfl,R v m⟩)) (λf s' q=>?_) λz z e=>e;refine cX q λW' ρ' y B U=>?_;clear q;rcases f with⟨⟩<;>first|exact mF y|skip
 refine⟨rfl,X.Q4 B λj a L N=>?_,X.Qy U,U.alive,λb o O G Q=>U.keep.nt (λT=>?_) G Q⟩
 ·by_cases e:j=i
  ·cases e;rw[fI hi]at L;injection L with F;subst F;exact D
  ·rw[ez (ib e)]at L;exact S j a L N
 ·refine ak T (λT=>?_) λH=>eb H λn l e z=>?_
  ·exact O ((GS.own X.cells).mp T)
  ·injection e
theorem w5{A:cP}(hh:A.handled=none)(it:az)(x:bj)(t:nZ):Draws prog w A it [it] x.cps.size (λi v=>∃c u,x.cps[i]? =some c/\v=.str ⟨#[c]⟩ u) (λi h=>h.IsStrIter it (RF x) x t i):=by
 delta RF;split
 ·exact Draws.strAscii hh it x t
 ·exact Draws.strWide hh it x t
structure GH (h₀:bk) (K:Ck) (env:fZ) (P:az->Prop) (x:List Nat) (t:nZ) (e it:az) (i:Nat) (esc:Bool) (ch:AV) (s:ao):Prop where
 gs:GS h₀ K env P [.str x,.int ((i-1:Nat):Int),.bool esc,ch] s
 ch:ch=.c\/td ch=true
 en:∃old,IsEnum s.heap e it (i:Int) old
 si:s.heap.IsStrIter it (RF (strOf x)) (strOf x) t i
 de:¬P e
 di:¬P it
 lt:it<e
 nl:e≠env.locals
 Q2:it≠env.locals
 b0:∀b o,h₀.get? b=some o->P b
theorem GH.ne{x:List Nat}{t:nZ}{e it:az}{i:Nat}{B:Bool}{ch:AV}(g:GH h₀ K env P x t e it i B ch s):e≠it:=oB g.lt
end
section
variable{h₀:bk}{cfg:dC}{C:fE h₀ cfg}{k:Nat}
variable{A:cP}{E:aw->ao->Prop}{s s' s₀:ao}{P:az->Prop}{K:Ck}{env:fZ}{loc loc':Loc}
theorem sY{h:bk}{e it:az}{i:Int}{Y:aw}{o:hC}(x:IsEnum h e it i Y)(M:h.get? e=some o):¬qF o:=by refineλo1=>ej o1 λvs n u=>?_;clear o1;rw[x]at M;injection M with F;subst F;injection u
theorem lW{h:bk}{it:az}{T:String}{x:bj}{t:nZ}{i:Nat}{o:hC}(y:h.IsStrIter it T x t i)(M:h.get? it=some o):¬qF o:=by refineλr=>ej r λvs n u=>gB y λR J U S=>?_;clear r;rw[J]at M;injection M with F;subst F;simp only[u]at S;injection S
theorem GH.keep{x:List Nat}{t:nZ}{e it:az}{i:Nat}{B:Bool}{ch:AV}(g:GH h₀ K env P x t e it i B ch s)(O:bO h₀ s'.heap)(I:∀b o,s.heap.get? b=some o->¬P b->¬qF o->nt o->s'.heap.get? b=some o):GH h₀ K env P x t e it i B ch s' where
 gs:=g.gs.keep O λo M Q=>I _ o M g.gs.dead (g.gs.KP M) Q
 ch:=g.ch
 en:=aI g.en λY h=>⟨Y,I _ _ h g.de (sY h h) (jt rfl)⟩
 si:=aC g.si λo h r=>⟨o,I _ _ h g.di (lW g.si h) (jt r.1),r⟩
 de:=g.de
 di:=g.di
 lt:=g.lt
 nl:=g.nl
 Q2:=g.Q2
 b0:=g.b0
theorem GH.XM{x:List Nat}{t:nZ}{e it:az}{i:Nat}{B:Bool}{ch:AV}(g:GH h₀ K env P x t e it i B ch s){p:Int}{D:Bool}:∀(j:Nat) (a:AV),([.str x,.int p,.bool D,ch]:Loc)[j]? =some a->a≠.c->td a=true:=by
 intro j a L N;rcases j with _|_|_|_|j
 ·injection L with F;subst F;rfl
 ·injection L with F;subst F;rfl
 ·injection L with F;subst F;rfl
 ·injection L with F;subst F;refine ak g.ch (λh=>?_) λh=>?_
  ·exact absurd h N
  ·exact h
 ·injection L
theorem Sx{x:List Nat}{t:nZ}{e it:az}{i c:Nat}{B:Bool}{ch:AV}{g:Expr}{Q:Option aw->ao->Prop}(hh:A.handled=none)(hE:bZ env K 0)(d:fg K (.many [1,3]) g=true)
 (G:GH h₀ K env P x t e it i B ch s)(hi:x[i]? =some c)
 (hQ:∀v N,aM (aL C.prog C.w) A (gJ g (.ref e) v) (λz W=>aM (aL C.prog C.w) A (lj g env v) (λz T=>GH h₀ K env P x t e it (i+1) B (.str [c]) T/\pT P (λz=>False) s T/\Fu s T) E W) E N->Q (some v) N):
 aM (aL C.prog C.w) A (tX (.ref e)) Q E s:=by
 refine aI G.en λY Z=>?_;have hlt:i< (strOf x).cps.size:=by have:=(aQ.mp hi).1;exact this
 refine wpAny_pyNext_enum_itemD (w5 (A:=A.in1) hh it (strOf x) t) Z G.si hlt G.ne (by simpa using G.ne) λv h' tk D M hsi htup hsz hk=>eb D λc' u R o3=>?_;subst o3;clear D;have I:c'=c:=by
  have:x[i]? =some c':=by simpa[strOf]using R
  rw[hi]at this;injection this with F;subst F;rfl
 subst I;obtain⟨ts,n1,p1,rfl⟩:∃ts n1 p1,g=.Tuple ts n1 p1:=kB (rN d) λx n p e z z=>⟨x,n,p,e⟩;refine hQ _ _ (wpAny_letOwnedTupleGo_enum M λV he₂ hs₂=>?_);clear hQ;have kb:∀b o,b≠e->b≠it->s.heap.get? b=some o->V.get? b=some o:=λb o J h2 h=>hs₂.extBut b o J (hk b o J h2 h);clear hk;have nce:∀o,s.heap.get? e=some o->¬yh o:=λo h=>by rw[Z]at h;injection h with F;subst F;exact jr rfl (by intro q t;simp)
 have nci:∀o,s.heap.get? it=some o->¬yh o:=λo h=>by
  refine gB G.si λo' J h2 S=>?_;clear h2;rw[h]at J;injection J with F;rw[F];exact jr S (by intro q t;simp)
 have kx:cD (λb=>b=e\/b=it) s.heap V:=.of (λb o O h=>kb b o (λq=>O (.inl q)) (λq=>O (.inr q)) h) λb o O h=>by
  refine ak O (λH=>?_) λu2=>?_;subst H;rotate_left;subst u2;rotate_right
  ·exact nce o h
  ·exact nci o h
 have hk0:bO h₀ V:=cD.after G.gs.base kx λb o h q=>by
  refine ak q (λH=>?_) λu2=>?_;subst H;rotate_left;subst u2;rotate_right
  ·exact G.de (G.b0 _ o h)
  ·exact G.di (G.b0 _ o h)
 have X2:GS h₀ K env P [.str x,.int ((i-1:Nat):Int),.bool B,ch] {s with heap:=V,toks:=tk+1}:=G.gs.keep hk0 λo h z=>kb _ o (ib G.nl) (ib G.Q2) h;have htup2:cL "tuple" V s.heap.objs.size [.int i tk,.str ⟨#[c']⟩ u]:=⟨0,hs₂.extBut _ _ (oB (gN Z)) htup⟩;have by1:pT P (λz=>False) s {s with heap:=V,toks:=tk+1}:=by
  refine⟨λb o h hs=>kx b o ?_ h,rfl,aV _,λz z z=>rfl,id⟩;clear kx;refine ak hs (λh'=>?_) λH=>ak H (λh'=>?_) λh'=>?_
  ·left;refineλo4=>ak o4 (λH=>?_) λu2=>?_;subst H;rotate_left;subst u2;rotate_right
   ·exact G.de h'
   ·exact G.di h'
  ·left;refineλo5=>ak o5 (λH=>?_) λu2=>?_;subst H;rotate_left;subst u2;rotate_right
   ·exact sY Z h h'
   ·exact lW G.si h h'
  ·exact .inr h'
 have al1:Fu s {s with heap:=V,toks:=tk+1}:=by
  intro b o h
  ·by_cases q1:b=e
   ·rw[q1];exact⟨_,he₂⟩
   ·by_cases q2:b=it
    ·subst q2;exact aC hsi λo' h' z=>⟨o',hs₂.extBut b o' q1 h'⟩
    ·exact⟨o,kb b o q1 q2 h⟩
 have hnw:¬j7 env s.heap.objs.size:=λh=>by
  rw[GS.own G.gs.cells]at h;refine oQ G.gs.frame.ns λm o z z M z=>?_;rw[<-h,cO]at M;injection M
 refine fm (prog:=C.prog) (w:=C.w) (t:=.many [1,3]) (av:=.tup [.int i,.str [c']]) (loc':= [.str x,.int (i:Int),.bool B,.str [c']]) hh hE X2.rp d rfl (.tup hnw htup2 (.cons (.int _ _) (.cons (.str [c'] u) .nil))) λX U f=>?_;have y:∀(j:Nat) (a:AV),([.str x,.int (i:Int),.bool B,.str [c']]:Loc)[j]? =some a->a≠.c->td a=true:=by
  intro j a L hu;clear hu;rcases j with _|_|_|_|j
  ·injection L with F;subst F;rfl
  ·injection L with F;subst F;rfl
  ·injection L with F;subst F;rfl
  ·injection L with F;subst F;rfl
  ·injection L
 have X3:=X2.Q4 U y;have nmu:∀p,p≠env.locals->¬Mu env [] [] p:=λp hp hm=>by
  refine ak hm (λhm=>?_) λH=>eb H λn l e z=>?_
  ·exact hp ((GS.own G.gs.cells).mp hm)
  ·injection e
 refine⟨⟨?_,.inr rfl,?_,?_,G.de,G.di,G.lt,G.nl,G.Q2,G.b0⟩,by1.trans (X2.Qy f),al1.trans f.alive⟩
 ·have:((i+1-1:Nat):Int)=(i:Int):=by rfl
  exact ab this<|X3
 ·have:(((i+1:Nat):Int))=(i:Int)+1:=by push_cast;rfl
  exact ab this<|⟨_,f.keep.nt (nmu e G.nl) he₂ (jt rfl)⟩
 ·exact aC hsi λo h r=>⟨o,f.keep.nt (nmu it G.Q2) (hs₂.extBut it o (ib G.ne) h) (jt r.1),r⟩
theorem pA{b:List bC}(hA:i7 (k+1) A):i7 k (A.in1.over (.func b env) []):=by
 refine⟨hA.hh,?_,?_⟩
 ·have:=hA.depth;show A.depth+0+1+k+_<_;lia
 ·have:=hA.units;show A.units+1+0+3+20*k+100<_;lia
theorem GO{b w:List bC}{g:Expr}{it:aw}{kf:M0->jA Fin}{F:Bool}{D:List aw}{p:eO}(hA:i7 (k+1) A):i7 k (A.in1.over (.forLoop g it b [] env) [.ret kf none F D (.func w env) p []]):=by
 refine⟨hA.hh,?_,?_⟩
 ·have:=hA.depth;show A.depth+1+0+k+_<_;lia
 ·have:=hA.units;show A.units+1+3+0+20*k+100<_;lia
theorem GH.ext{x:List Nat}{t:nZ}{e it:az}{i:Nat}{B:Bool}{ch:AV}(g:GH h₀ K env P x t e it i B ch s)(ex:gK s s'):GH h₀ K env P x t e it i B ch s':=
 g.keep (bO.trans g.gs.base ex.keep) λb o h z z Q=>ex.keep.nt h Q
theorem Sw{x:List Nat}{t:nZ}{e it:az}{i:Nat}{B:Bool}{ch:AV}{y:Expr}(hE:bZ env K 0)(hA:i7 k A)(G:GH h₀ K env P x t e it i B ch s)(V:cz K 1 (.a 2) y=true):
 aM (aL C.prog C.w) A (mT y env (fe y env)) (λb s'=>b=B/\gK s s') E s:=
 aA (vS (C:=C) (k:=k) K env y _ (.bool B) B _ _ 0 [] A s E hE hA G.gs.ei rfl rfl rfl V) (λb s' h=>⟨h.1,h.2.2⟩) λz z e=>e
theorem N1{x:List Nat}{t:nZ}{e it:az}{i c:Nat}{B:Bool}{y:Expr}(hE:bZ env K 0)(hA:i7 k A)(G:GH h₀ K env P x t e it i B (.str [c]) s)(V:cz K 1 (.cmp .Eq (.a 3) (.l [92])) y=true):
 aM (aL C.prog C.w) A (mT y env (fe y env)) (λb s'=>b=decide (c=92)/\gK s s') E s:=by
 refine aA (Bp (C:=C) (k:=k) kz uq K env y _ (.bool (decide (c=92))) (decide (c=92)) _ _ 0 [] A s E hE hA G.gs.ei ?_ rfl rfl V) (λb s' h=>⟨h.1,h.2.2⟩) λz z e=>e;have:ev cfg [] (.cmp .Eq (.a 3) (.l [92])) [.str x,.int ((i-1:Nat):Int),.bool B,.str [c]]=some (.bool ([c]== [92])):=rfl;refine bp this ?_;congr 2;by_cases h:c=92<;>simp[h]
theorem QT{x:List Nat}{t:nZ}{e it:az}{i:Nat}{B b:Bool}{ch:AV}{y:bC}(hE:bZ env K 0)(hA:i7 k A)(G:GH h₀ K env P x t e it i B ch s)(V:ka K (.cI (.bX 2) (.v b)) y=true):
 aM (aL C.prog C.w) A (se y env) (λf s'=>f=.next/\GH h₀ K env P x t e it i b ch s'/\pT P (λz=>False) s s'/\Fu s s') E s:=by
 refine aA (JT (i:=2) (av:=.bool b) (vX (C:=C) (k:=k)) hE hA G.gs G.XM rfl rfl (place_lt rfl) V λv D=>?_) (λf s' r=>?_) λz z e=>e
 ·exact sC D λz z z e=>e▸rfl
 ·refine ri r λj X S c O=>ab j<|⟨rfl,⟨X,G.ch,?_,?_,G.de,G.di,G.lt,G.nl,G.Q2,G.b0⟩,S,c⟩
  ·exact aI G.en λY h=>⟨Y,O _ _ G.nl h (jt rfl)⟩
  ·exact aC G.si λo h r=>⟨o,O _ _ G.Q2 h (jt r.1),r⟩
noncomputable abbrev IU(d:GB)(R H Y l G W:eO):List bC:= [.If d.t1 [.Expr (.Yield (some d.y1) R) H,d.a3] [.If d.t2 [d.a4] [.Expr (.Yield (some d.y2) Y) l] G] W]
noncomputable abbrev KF:kO->jA Fin:=λf=>.pure (.done (.ret (match f with| .ret v=>v|_=>.none)))
noncomputable abbrev HF(env:fZ):aw->jA Fin:=λe=>(«leaving» env e).wrap (λz=>.raise e) .raise id id
noncomputable abbrev KK(env:fZ)(rest:List bC):kO->jA Fin:=λf=>match f with| .next=>(fw rest env).wrap KF (HF env) id id|f=>KF f
noncomputable abbrev kf(env:fZ)(rest:List bC):M0->jA Fin:=λr=>((match r with| .ok f=>(.pure f:jA kO)| .error e=>.raise e).onRaise λ(x:aw)=>do
 if(<-field x 1)==UQ then unsupported "frame.own-activation:exception-without-traceback"
 setFlight x env.frame).wrap (KK env rest) (HF env) id id
structure XD (K:Ck) (d:GB):Prop where
 a1:ka K (.cI (.bX 1) (.d 0)) d.a1=true
 a2:ka K (.cI (.bX 2) (.v false)) d.a2=true
 g:fg K (.many [1,3]) d.g=true
 i:IV K d.i=true
 t1:cz K 1 (.a 2) d.t1=true
 y1:cz K 0 (.tuple [.a 1,.f .Add (.l [92]) (.a 3)]) d.y1=true
 a3:ka K (.cI (.bX 2) (.v false)) d.a3=true
 t2:cz K 1 (.cmp .Eq (.a 3) (.l [92])) d.t2=true
 a4:ka K (.cI (.bX 2) (.v true)) d.a4=true
 y2:cz K 0 (.tuple [.a 1,.a 3]) d.y2=true
 t3:cz K 1 (.a 2) d.t3=true
 y3:cz K 0 (.tuple [.a 1,.l [92]]) d.y3=true
theorem Zb{K:Ck}{d:GB}(h:I8 K d=true):XD K d:=
 ⟨allB h 0 rfl,allB h 1 rfl,allB h 2 rfl,allB h 3 rfl,allB h 4 rfl,allB h 5 rfl,allB h 6 rfl,allB h 7 rfl,allB h 8 rfl,allB h 9 rfl,allB h 10 rfl,allB h 11 rfl⟩
theorem vo{M L:List AV}{a:AV}{avs:List AV}(h:avs=M++a::L):avs[avs.length-1-L.length]? =some a:=by refine ab h<|ab cK (ab bu ?_);have:M.length+(L.length+1)-1-L.length=M.length:=dN (Nat.eq_sub_of_add_eq rfl);refine ab this (bp (bG (aV _)) (ab (oC ..) ?_));rfl
theorem Su{x:List Nat}{t:nZ}{e it:az}{d:GB}{fb:List bC}{avs:List AV}{p1 p2 Y l p5 p6 p8 p9 p10 p:eO}(I:XD K d)(hA:i7 (k+1) A)(hE:bZ env K 0):
 ∀(m i:Nat) (B:Bool) (ch:AV) (s₀ s:ao),x.length-i=m->i<=x.length->GH h₀ K env P x t e it i B ch s->pT P (λz=>False) s₀ s->Fu s₀ s->(∃M,avs=M++ff i B (x.drop i))->
  BI (aL C.prog C.w) A.in1 (RG P) (YG h₀ P avs) (ff i B (x.drop i)).length s₀ (.forLoop d.g (.ref e) (IU d p1 p2 Y l p5 p6) [] env) ((aL C.prog C.w).den (.forLoop d.g (.ref e) (IU d p1 p2 Y l p5 p6) [] env))
   [.ret (kf env [.If d.t3 [.Expr (.Yield (some d.y3) p8) p9] [] p10]) none false [] (.func fb env) p []] s:=by
 have hint:tU env=false:=by delta tU;refine ab hE.kind ?_;rfl
 have hAl:∀{b:List bC} {gg:Expr} {itv:aw},i7 k (A.in1.over (.forLoop gg itv b [] env) [.ret (kf env [.If d.t3 [.Expr (.Yield (some d.y3) p8) p9] [] p10]) none false [] (.func fb env) p []]):=GO hA;have hAf:i7 k (A.in1.over (.func fb env) []):=pA hA;intro m
 induction m with
 |zero=>
  intro i B ch s₀ s T hi G O hal W;have hil:i=x.length:=by lia
  subst hil;refine aI G.en λold Z=>?_;have hdrop:x.drop x.length= []:=by simp
  rw[hdrop]at W⊢;refine tw ?_;have hsi:=G.si;have g:(strOf x).cps.size=x.length:=by rfl
  rw[<-g]at hsi;refine wpAny_pyNext_enum_endD (w5 (by exact hA.hh) it (strOf x) t) Z hsi λh' hx=>?_;clear hsi;have kb:∀b o,b≠it->s.heap.get? b=some o->h'.get? b=some o:=λb o h1 h=>hx b o h1 h;have nci:∀o,s.heap.get? it=some o->¬yh o:=λo h=>by
   refine gB G.si λo' h1 U h3=>?_;rw[h]at h1;injection h1 with e_;subst e_;exact jr h3 (by intro q t;simp)
  have kx:cD (λb=>b=it) s.heap h':=.of (λb o O h=>kb b o O h) λb o O h=>by
   have O:b=it:=O;subst O;exact nci o h
  have hk0:bO h₀ h':=cD.after G.gs.base kx λb o h q=>by
   have q:b=it:=q;subst q;exact G.di (G.b0 _ o h)
  have X2:=G.gs.keep (s':={s with heap:=h'}) hk0 λo h z=>kb _ o (ib G.Q2) h;have j:pT P (λz=>False) s₀ {s with heap:=h'}:=O.trans ⟨λb o h hs=>kx b o (by
   refine ak hs (λh'=>?_) λu1=>ak u1 (λh'=>?_) λh'=>?_
   ·exact .inl λq=>by subst q;exact G.di h'
   ·exact .inl λq=>by subst q;exact lW G.si h h'
   ·exact .inr h') h,rfl,aV _,λz z z=>rfl,id⟩
  show BI _ _ _ _ _ s₀ _ (.pure (.again (.block [] env))) _ _;refine MJ rfl (wH (seg_leaf (.ok .next) ?_));show BI _ _ _ _ _ s₀ _ ((fw [.If d.t3 [.Expr (.Yield (some d.y3) p8) p9] [] p10] env).wrap KF (HF env) id id) _ _;refine ip (C9 ?_);refine aA (vS (C:=C) (k:=k) K env d.t3 _ (.bool B) B _ _ 0 [] _ _ _ hE hAf X2.ei rfl rfl rfl I.t3) (λb X h₃=>?_) λz z e=>e;refine eY h₃ λo4 z w=>?_;subst o4;have X3:=X2.keep (s':=X) (bO.trans hk0 w.keep) λo h Q=>w.keep.nt h Q;have J:=j.trans (.jQ w);rcases b with _|_
  ·simp only[bx,if_false];exact seg_end (.ok (.ret .none)) ⟨rfl,by rfl,J⟩
  ·simp only[if_true];have hl:ff x.length true []= [.tup [.int ((x.length-1:Nat):Int),.str [92]]]:=by rfl
   rw[hl]at W⊢;refine aI W λM W=>ip (Fs rfl rfl rfl ?_ hE.co hint);refine yB (n:=0) (e1:=.a 1) (e2:=.l [92]) (p:=((x.length-1:Nat):Int)) (u:= [92]) kz uq hE hAf X3 J (λad y Q=>?_) rfl rfl I.y3 (vo W) λs' S z z z=>?_
   ·rcases h0:s₀.heap.get? ad with _|o
    ·rfl
    ·exfalso;refine aI (hal ad o h0) λo1 h1=>?_;have L:ad≠it:=by
      have he:=y e _ (w.keep.nt (kb e _ G.ne Z) (jt rfl));exactλq=>absurd (q▸he) (i5.mpr (cm G.lt))
     refine aC (w.keep ad o1 (kb ad o1 L h1)) λr this z=>?_;rw[Q]at this;injection this
   ·exact seg_end (.ok (.ret .none)) ⟨rfl,rfl,.refl _⟩
 |succ m R=>
  intro i B ch s₀ s T hi G O hal W;have y:i<x.length:=DE T;obtain⟨c,hc⟩:∃c,x[i]? =some c:=⟨x[i],by simp[y]⟩;have hdrop:x.drop i=c::x.drop (i+1):=by refine ab (dF y) ?_;congr 1;simpa[y]using hc
  rw[hdrop]at W⊢;refine tw (Sx (C:=C) (hA.hh) hE I.g G hc λv s₁ D=>aA D (λz s₁' h₁'=>aA h₁' (λz s₂ V=>?_) λz z e=>e) λz z e=>e);clear D;clear h₁';clear G;refine eY V λG2 b2 al2=>?_;clear V;have j:=O.trans b2;have ha2:=hal.trans al2;refine ip (C9 (aA (Sw (C:=C) hE hAl G2 I.t1) (λb X h₃=>?_) λz z e=>e));refine aN h₃ λo5 w=>?_;subst o5;have G3:=G2.ext w;have J:=j.trans (.jQ w);have ha3:=ha2.trans (.ext w);have hp3:((i+1-1:Nat):Int)=(i:Int):=by rfl
  rcases b with _|_
  ·simp only[bx,if_false];refine ip (C9 (aA (N1 (C:=C) hE hAl G3 I.t2) (λb s₄ h₄=>?_) λz z e=>e));refine aN h₄ λo7 e₄=>?_;subst o7;have G4:=G3.ext e₄;have hb4:=J.trans (.jQ e₄);have ha4:=ha3.trans (.ext e₄);by_cases hc92:c=92
   ·subst hc92;simp only[decide_true,if_true];have hl:ff i false (92::x.drop (i+1))=ff (i+1) true (x.drop (i+1)):=by rfl
    rw[hl]at W⊢;refine rH (aA (QT (C:=C) hE hAl G4 I.a4) (λf H h₅=>?_) λz z e=>e);refine Aw h₅ λo8 G5 N a=>?_;subst o8;exact⟨rfl,MJ rfl (R (i+1) true _ s₀ H (by lia) y G5 (hb4.trans N) (ha4.trans a) W)⟩
   ·simp only[hc92,decide_false,bx,if_false];have hl:ff i false (c::x.drop (i+1))=.tup [.int (i:Int),.str [c]]::ff (i+1) false (x.drop (i+1)):=by simp[(id pV),hc92]
    rw[hl]at W⊢;refine aI W λM W=>ip (Fs rfl rfl rfl ?_ hE.co hint);refine yB (e1:=.a 1) (e2:=.a 3) (p:=(i:Int)) (u:= [c]) kz kz hE hAl G4.gs hb4 (λad z Q=>rk ha4 Q) (by rfl) rfl I.y2 (vo W) λs' S ex hk'' F=>?_;have G5:=(G4.ext ex).keep hk'' F;exact MJ rfl (R (i+1) false _ S S (by lia) y G5 (.refl _) (.refl _) ⟨M++ [.tup [.int (i:Int),.str [c]]],by refine ab W ?_;simp⟩)
  ·simp only[if_true];have hl:ff i true (c::x.drop (i+1))=.tup [.int (i:Int),.str [92,c]]::ff (i+1) false (x.drop (i+1)):=by rfl
   rw[hl]at W⊢;refine aI W λM W=>ip (Fs rfl rfl rfl ?_ hE.co hint);refine yB (e1:=.a 1) (e2:=.f .Add (.l [92]) (.a 3)) (p:=(i:Int)) (u:= [92,c]) kz (EW uq kz) hE hAl G3.gs J (λad z Q=>rk ha3 Q) (by rfl) rfl I.y1 (vo W) λs' S ex hk'' F=>?_;have G4:=(G3.ext ex).keep hk'' F;refine rH (aA (QT (C:=C) hE hAl G4 I.a3) (λf H h₅=>?_) λz z e=>e);refine Aw h₅ λo6 G5 N a=>?_;subst o6;exact⟨rfl,MJ rfl (R (i+1) false _ S H (by lia) y G5 N a ⟨M++ [.tup [.int (i:Int),.str [92,c]]],by refine ab W ?_;simp⟩)⟩
noncomputable abbrev Qx(d:GB)(R H Y l G W I u D n:eO):List bC:= [d.a1,d.a2,.For d.g d.i (IU d R H Y l G W) [] I,.If d.t3 [.Expr (.Yield (some d.y3) u) D] [] n]
theorem N0{x:List Nat}{d:GB}{R H p3 l G W p7 u p9 n:eO}(I:XD K d)(hA:i7 (k+1) A)(hE:bZ env K 0)(X:GS h₀ K env P [.str x,.c,.c,.c] s)(hP:∀b,P b->∃o,s.heap.get? b=some o)
 (b0:∀b o,h₀.get? b=some o->P b):
 BI (aL C.prog C.w) A.in1 (RG P) (YG h₀ P (ff 0 false x)) (ff 0 false x).length s (.func (Qx d R H p3 l G W p7 u p9 n) env) ((aL C.prog C.w).den (.func (Qx d R H p3 l G W p7 u p9 n) env)) [] s:=by
 refine seg_func<|rH (aA (JT (i:=1) (av:=.int 0) (loc:= [.str x,.c,.c,.c]) (EX (C:=C) (k:=k)) hE (pA hA) X (λj a L N=>?_) rfl rfl (by simp) I.a1 λv D=>?_) (λf s₁ r=>?_) λz z e=>e)
 ·rcases j with _|_|_|_|j
  ·injection L with F;subst F;rfl
  ·injection L with F;subst F;exact absurd rfl N
  ·injection L with F;subst F;exact absurd rfl N
  ·injection L with F;subst F;exact absurd rfl N
  ·injection L
 ·exact vw D λz z z e=>e▸rfl
 refine ri r λo3 X1 b1 al1 z=>?_;clear r;subst o3;refine⟨rfl,?_⟩;refine rH (aA (JT (i:=2) (av:=.bool false) (loc:= [.str x,.int 0,.c,.c]) (vX (C:=C) (k:=k)) hE (pA hA) X1 (λj a L N=>?_) rfl rfl (by simp) I.a2 λv D=>?_) (λf T r=>?_) λz z e=>e)
 ·match j,L with
  |0,L=>injection L with F;refine cA F ?_;rfl
  |1,L=>injection L with F;subst F;rfl
  |2,L=>injection L with F;subst F;exact absurd rfl N
  |3,L=>injection L with F;subst F;exact absurd rfl N
  |j+4,L=>injection L
 ·exact sC D λz z z e=>e▸rfl
 refine ri r λo4 X2 b2 al2 z=>?_;clear r;subst o4;refine⟨rfl,?_⟩;refine ew λY=>Kb I.i λf fp y q hi V=>?_;simp only[au]at V;refine aN V λS c3=>aN S λc c2=>Y ?_;clear Y;refine ip<|ab hi<|Pk (λz=>rfl)<|dE (lu (C:=C) (v:=.type "enumerate") hE c (by simp[lM]) X2.base ?_);refine ab (cY c3)<|dX rfl (dH (dP ?_));refine cu (kz (C:=C) (k:=k) (i:=0) K env y _ (.str x) _ _ 0 [] _ _ _ hE (pA hA) X2.ei rfl c2) λv s₃ Z=>e7 ?_;have w:=Z.2.1;obtain⟨t,rfl⟩:∃t,v=.str (strOf x) t:=by
  have:=Z.2.2;clear Z
  (rcases this with _|_|_|⟨_,t⟩;exact⟨t,rfl⟩)
 have X3:=X2.keep (s':=s₃) (bO.trans X2.base w.keep) λo h Q=>w.keep.nt h Q;refine call_enumerate_str λh' hen hsi g hkp=>wpAny_pyIter_enum hen λp=>?_;have ex:gK s₃ {s₃ with heap:=h'}:=.of (s:=s₃) (tk:=s₃.toks) hkp;have alP:∀b,P b->∃o,s₃.heap.get? b=some o:=λb O=>aI (hP b O) λo h=>aI (al1 b o h) λo1 J=>aI (al2 b o1 J) λo2 U=>w.keep.alive _ _ U;have dead:∀b,s₃.heap.objs.size<=b->s₃.heap.get? b=none:=λb O=>by
  rcases e:s₃.heap.get? b with _|o'
  ·rfl
  ·exact absurd (gN e) (i5.mpr O)
 have nP:∀b,s₃.heap.objs.size<=b->¬P b:=λb O B=>by
  refine aI (alP b B) λo h=>?_;rw[dead b O]at h;injection h
 have nl:∀b,s₃.heap.objs.size<=b->b≠env.locals:=λb O q=>by
  subst q;refine oQ X3.frame.ns λm o z z M z=>?_;rw[dead _ O]at M;injection M
 exact Su I hA hE x.length 0 false .c s _ rfl (bz _)
  ⟨(X3.keep (s':={s₃ with heap:=h'}) (bO.trans X3.base (iu.k hkp)) λo h z=>hkp _ o h),.inl rfl,⟨_,hen⟩,hsi,nP _ (nu _),nP _ (aV _),og _,nl _ (nu _),nl _ (aV _),b0⟩ (((b1.trans b2).trans (.jQ w)).trans (.jQ ex)) (((al1.trans al2).trans (.ext w)).trans (.ext ex)) ⟨[],rfl⟩
theorem mC{prog:fA}{w:cW}{a:az}{g n:Nat}{gs:xT}{Pn:Nat->ao->ao->Prop}{Y:Rx}{Q:Option aw->ao->Prop}(hh:A.handled=none)
 (X:s.heap.NoLimit)(F:A.depth<YV)(d:s.heap.IsGen a g)(H:s.gens[g]? =some gs)
 (l:gs.Goes (aL prog w) A.in1 (λn s₀ r N=>r=.ok (.ret .none)/\Pn n s₀ N) Y n (.send .none) (s.setGen g .running))
 (I:∀v N gs',gs'.bare=true->Y (n-1) (s.setGen g .running) v N (λf S=>match n with
   |0=>False
   |m+1=>gs'.Goes (aL prog w) A.in1 (λn s₀ r N=>r=.ok (.ret .none)/\Pn n s₀ N) Y m f S)->Q (some v) (N.setGen g gs'))
 (G:∀N,Pn n (s.setGen g .running) N->∀h',(∀b o,N.heap.get? b=some o->h'.get? b=some o)->Q none {N.setGen g .finished with heap:=h'}):
 aM (aL prog w) A (tX (.ref a)) Q E s:=by
 refine bg (wpAny_attempt (wpAny_callSpecial?_slot (name:=qP "__next__") d.typeIs ZC
  (wpAny_call_entry ZC d.typeIs entry_gen_next ?_ (args_gen_next _))))
 show aM _ A.in1 (Builtin.Generator.genWake (.ref a) (.send .none)) _ _ s;refine bg (gc (wpAny_genNumber d (bg (wpAny_genState H ?_))));cases gs with
 |running=>exact l.elim
 |finished=>exact l.elim
 |_=>
  refine bg (wpAny_roomToWake X F ?_);refine wpAny_resumeQ H l (λx N Z=>?_) (λv N gs' O D=>?_)
  ·refine aN Z λc B=>?_;rw[c];show aM _ A.in1 (newExc (.type "StopIteration") []>>=_) _ _ _;refine bg<|bg (xY ?_ (by size_fits));refine bg (m:=firstArgMember _ _) (wpAny_of_eq (a:=UQ) (by rfl) ?_);refine xY ?_ (by size_fits);refine bg (bg (wpAny_handled ?_));rw[show A.in1.handled=none from hh];refine wpAny_throw<|bg (wpAny_isInstance (T:="StopIteration") (b:=true) ⟨_,bV _ rfl,rfl⟩ isSubtype_stop ?_);exact du (G N B _ λb o O=>cC _ (cC _ O))
  ·exact du ⟨v,rfl,du (I v N gs' O D)⟩
end
section
variable{h₀:bk}{cfg:dC}{C:fE h₀ cfg}{k:Nat}
variable{A:cP}{E:aw->ao->Prop}{s s' s₀:ao}{P:az->Prop}{K:Ck}{env:fZ}{loc loc':Loc}{W:az->Prop}{ρ:List az}
structure HL (C:fE h₀ cfg) (A:cP) (P:az->Prop) (I:az) (g:Nat) (avs:List AV) (j:Nat) (s:ao):Prop where
 gen:s.heap.IsGen I g
 Sz:∃gs,s.gens[g]? =some gs/\∀s'',bO h₀ s''.heap->(∀b,P b->∃o,s''.heap.get? b=some o)->(∀b o,s.heap.get? b=some o->¬P b->¬qF o->nt o->s''.heap.get? b=some o)->
  gs.Goes (aL C.prog C.w) A.in1 (RG P) (YG h₀ P avs) (avs.length-j) (.send .none) s''
 pi:P I
 b0:∀b o,h₀.get? b=some o->P b
theorem CC{h:bk}{I:az}{g:Nat}{o:hC}(x:h.IsGen I g)(M:h.get? I=some o):¬qF o:=by refineλo1=>ej o1 λvs n u=>?_;clear o1;refine JF x λR nm q J z U z=>?_;rw[J]at M;injection M with F;subst F;rw[U]at u;injection u
theorem HL.frame{I:az}{g:Nat}{avs:List AV}{j:Nat}(x:HL C A P I g avs j s)(D:∀b o,s.heap.get? b=some o->(b=I\/¬P b)->¬qF o->nt o->s'.heap.get? b=some o)(d:s'.gens[g]? =s.gens[g]?):HL C A P I g avs j s':=by refine aC x.Sz λgs J U=>⟨?_,⟨gs,d.trans J,λS a b c=>U S a b λp o e B Q F=>c p o (D p o e (.inr B) Q F) B Q F⟩,x.pi,x.b0⟩;exact m6 x.gen λo nm q M r=>⟨o,nm,q,D I o M (.inl rfl) (CC ⟨o,nm,q,M,r⟩ M) (jt r.1),r⟩
theorem DS{g:Nat}{gs':xT}{N:ao}(O:pT P (λz=>False) (s.setGen g .running) N)(R:gs'.bare=true)(H:g<s.gens.size):pT P (·=g) s (N.setGen g gs'):=by
 have D:(s.setGen g .running).gens.size=s.gens.size:=by simp[mh]
 have F:(N.setGen g gs').gens.size=N.gens.size:=by simp[mh]
 refine⟨O.keep,O.os,ab F<|cA D<|O.hJ,λg' G L=>?_,λh=>?_⟩
 ·exact ab ((tE N g gs').2 g' L) (ab (O.gens g' (ab D<|G) (λh=>h)) (ab ((tE s g .running).2 g' L) rfl))
 ·have J:wa (s.setGen g .running).gens:=Zz (.of (tE s g .running) (y:=.running) (by simp[mh,H]) rfl) h;have B:g<N.gens.size:=be (by exact ab D<|H) O.hJ;exact Zz (.of (tE N g gs') (y:=gs') (by simp[mh,B]) R) (O.bare J)
theorem LN{n j m:Nat}(h:j<n)(e:n- (j+1)=m):n-j=m+1:=by grind
theorem LO{n j m:Nat}(h:j<n)(e:n- (j+1)=m):n-1- (m+1-1)=j:=by lia
theorem HL.next{I:az}{g:Nat}{avs:List AV}{j:Nat}{a:AV}(hA:i7 (k+1) A)(O:bO h₀ s.heap)(d:∀b,P b->∃o,s.heap.get? b=some o)(x:HL C A P I g avs j s)(L:avs[j]? =some a):
 aM (aL C.prog C.w) A (tX (.ref I)) (λr s'=>∃v,r=some v/\pT P (·=g) s s'/\HL C A P I g avs (j+1) s'/\∃(ad:az) (p:Int) (u:List Nat) (t t':nZ),a=.tup [.int p,.str u]/\v=.ref ad/\s.heap.get? ad=none/\cL "tuple" s'.heap ad [.int p t,.str (strOf u) t']) E s:=by
 refine ew λY=>aC x.Sz λgs H l=>?_;have X:g<s.gens.size:=by
  refine ak (tR g s.gens.size) (λh=>?_) λh=>?_
  ·exact h
  ·rw[BO h]at H;injection H
 obtain⟨m,Z⟩:∃m,avs.length- (j+1)=m:=⟨_,rfl⟩;refine Y ?_;clear Y;have l:=l (s.setGen g .running) O d λb o e z z z=>e;rw[(LN ((aQ.mp L).1) Z)]at l;refine mC (Pn:=λn s₀ N=>n=0/\pT P (λz=>False) s₀ N) hA.hh (bO.nolimit O C.nolimit) (by have:=hA.depth;lia) x.gen H l (λv N gs' R D=>?_) (λN B h' y=>?_)
 ·refine JH D λad p u t t' hi w f G V T=>ab w ?_;rw[(LO ((aQ.mp L).1) Z),L]at hi;clear L;injection hi with F;refine ab F<|⟨_,rfl,DS V R X,⟨?_,⟨gs',?_,λS J U c=>?_⟩,x.pi,x.b0⟩,ad,p,u,t,t',rfl,rfl,f,G⟩
  ·exact m6 x.gen λo nm q M r=>⟨o,nm,q,V.nt M (.inl x.pi) (jt r.1),r⟩
  ·have:g<N.gens.size:=be (by simpa[mh]using X) V.hJ;simp[mh,this]
  ·exact ab Z<|T S J λb o e B Q i=>c b o e B Q i
 ·exact absurd B.1 (oh m)
theorem HL.done{I:az}{g:Nat}{avs:List AV}(hA:i7 (k+1) A)(O:bO h₀ s.heap)(m:∀b,P b->∃o,s.heap.get? b=some o)(x:HL C A P I g avs avs.length s):
 aM (aL C.prog C.w) A (tX (.ref I)) (λr s'=>r=none/\pT P (·=g) s s') E s:=by
 refine aC x.Sz λgs H l=>?_;have X:g<s.gens.size:=by
  refine ak (tR g s.gens.size) (λh=>?_) λh=>?_
  ·exact h
  ·rw[BO h]at H;injection H
 have l:=l (s.setGen g .running) O m λb o e z z z=>e;rw[oC]at l;refine mC (Pn:=λn s₀ N=>n=0/\pT P (λz=>False) s₀ N) hA.hh (bO.nolimit O C.nolimit) (by have:=hA.depth;lia) x.gen H l (λv N gs' R D=>?_) (λN B h' F=>?_)
 ·exact JH D λad p u t t' hi j J G V T=>ab j<|(T N (V.base (s:=s.setGen g .running) O x.b0) λz z e z z z=>e).elim
 ·refine aN B λz V=>?_;have:=DS (gs':=.finished) V rfl X;exact⟨rfl,this.trans (.jQ (.of (s:=N.setGen g .finished) (tk:=(N.setGen g .finished).toks) F))⟩
theorem uK:∀{names:List (bj×dz)} {n:Nat},(∀p∈names,p.2≠.cell)->dO n names []= []:=by
 intro names n h
 induction names with
 |nil=>rfl
 |cons q r R=>
  rcases q with⟨x,k⟩;unfold dO;have:(k==wg)=false:=by simpa using h (x,k) aH
  exact ab this<|R λp B=>h p (ax _ B)
theorem JU{d:iL}{B:GB}(hg:wL d.body=some B)(hck:I8 (K8 d) B=true)(q:Xs d=true){a:az}(hf:FnAt h₀ d a){x:List Nat}{t:nZ}(hA:i7 (k+1) A)(O:bO h₀ s.heap):
 aM (aL C.prog C.w) A (call (.ref a) [.str (strOf x) t]) (λv s'=>∃I g,v=.ref I/\gK s s'/\s.heap.get? I=none/\s.gens.size<=g/\g<s'.gens.size/\
  HL C A (λb=>(∃o,s.heap.get? b=some o)\/b=I) I g (ff 0 false x) 0 s') E s:=by
 refine ew λY=>oR hf.ex λo w cd doc M u hcd=>Of hg λp1 p2 p3 p4 p5 p6 p7 p8 p9 p10 hbody=>Y ?_;clear Y;have c1:=eq_of_beq (allB q 0 rfl);have m:=allB q 1 rfl;have c3:=nB (allB q 2 rfl);have c4:∀p∈d.scope.names,p.2≠.free/\p.2≠.cell:=λp hp=>let h:=ba (aq.mp (allB q 3 rfl) p hp);⟨bne_iff_ne.mp h.1,bne_iff_ne.mp h.2⟩
 have c5:=of_decide_eq_true (allB q 4 rfl);have c8:=d7.mp (allB q 6 rfl);have c9:=dx.mp (allB q 7 rfl);have RU:=d7.mp (allB q 8 rfl);have c11:=eq_of_beq (allB q 9 rfl);have c12:=eq_of_beq (allB q 10 rfl);have f:d.params.args.length=1:=by have:=congrArg dp c11;simpa using this
 refine UX (codeAny_call_generator (fd:=HY d.name d.params d.body d.scope w cd doc) (body:=d.body) (by have:=hA.depth;lia) (bO.nt O M (nO u)) u c3 m rfl (bO.code O hcd) ?_);simp only[qi (fd:=HY d.name d.params d.body d.scope w cd doc) (dx.mp (allB q 5 rfl)) c8 c9 RU rfl (by show[aw.str (strOf x) t].length=d.params.args.length;refine ab f ?_;rfl) (by show(d.params.args.map (·.arg)).Nodup;refine ab c11 ?_;simp)];refine ab c11<|du (wpAny_newFunctionEnv_cells c1 (λp hp=>?_) λenv Z T X=>?_)
 ·simp only[mH,HS,aS,dy,or_false]at hp;exact ab hp<|.inl c12
 have hkN:∀y,env.kindOf y=d.scope.names.lookup y:=λy=>by refine ab Z ?_;rfl
 have hcs:env.cells= []:=ab Z<|uK λp hp=>(c4 p hp).2;have hLo:env.locals=s.heap.objs.size:=by refine ab Z ?_;rfl
 have hE:bZ env (K8 d) 0:=by
  refine⟨aV _,by exact ab Z<|c1,by refine ab Z ?_;rfl,by refine ab Z ?_;rfl,by refine ab Z ?_;rfl,ab Z<|c3,λy F=>?_,c5⟩;rw[hkN]at F;refine ak F (λF=>?_) λF=>?_
  ·exact absurd rfl (c4 _ (mem_of_lookup F)).2
  ·exact absurd rfl (c4 _ (mem_of_lookup F)).1
 have r:iu s.heap T.heap:=X.toInCall.keep;have G:s.heap.get? env.locals=none:=ab hLo<|cO _;refine ej X.toInCall.same λJ tk1 R=>?_;have H:=X.toInCall.ns;clear X;refine⟨bO.nolimit (bO.trans O r.k) C.nolimit,T.heap.objs.size,T.gens.size,rfl,?_,?_,?_,?_,?_⟩
 ·subst R;exact⟨λb o h=>⟨o,cC _ (r b o h),.refl _ _ _⟩,rfl,by simp,λg hg=>by simp[jl,jb hg],λh=>h.push rfl⟩
 ·rcases e:s.heap.get? T.heap.objs.size with _|o'
  ·rfl
  ·exact absurd (gN (r _ _ e)) (zI _)
 ·exact ab R<|aV _
 ·simp
 ·refine⟨⟨_,_,_,bV _ rfl,rfl,rfl,rfl⟩,⟨_,Array.getElem?_push_size ..,λS Q hP hkp=>⟨rfl,?_⟩⟩,.inr rfl,λb o h=>.inl (bO.alive O b o h)⟩;refine ab (UO ..) (ab hbody ?_);have nP:¬((∃o,s.heap.get? env.locals=some o)\/env.locals=T.heap.objs.size):=by
   refineλo1=>ak o1 (λu1=>aI u1 λo h=>?_) λh=>?_
   ·rw[G]at h;injection h
   ·exact jb H.lt h
  refine kB H λoL es l hoL hdL rL=>?_;have hL'':S.heap.get? env.locals=some oL:=hkp _ _ (cC _ hoL) nP (by refineλo3=>ej o3 λvs n D=>?_;rw[D]at hdL;injection hdL) (nN hdL);refine N0 (C:=C) (Zb hck) hA hE ⟨Q,⟨⟨_,oL,es,l,hL'',hdL,rL⟩,λy c V=>?_,?_,λy c V=>?_⟩,hcs,λi hi y F av L N=>?_,nP,?_⟩ hP λb o h=>.inl (bO.alive O b o h)
  ·rw[hcs]at V;rcases V with⟨⟩
  ·exact ab hcs<|.nil
  ·rw[hcs]at V;rcases V with⟨⟩
  ·rcases i with _|_|_|_|j
   ·injection L with e_;subst e_;have F:y="addr":=by
     have:PB[0]? =some y:=F;simpa[PB]using this.symm
    refine ab F<|⟨rfl,.str (strOf x) t,.inl ⟨ab (hkN ..)<|c12,_,⟨oL,es,l,hL'',hdL,rL⟩,?_⟩,.str _ _⟩;have hkl:env.kindOf ("addr":bj)=some .local:=ab (hkN ..)<|c12;simp[Rz,hkl]
   ·injection L with e_;subst e_;exact absurd rfl N
   ·injection L with e_;subst e_;exact absurd rfl N
   ·injection L with e_;subst e_;exact absurd rfl N
   ·injection L
  ·rcases e:h₀.get? env.locals with _|o'
   ·rfl
   ·refine aI (bO.alive O _ _ e) λo2 U=>?_;rw[U]at G;injection G
end
section
variable{h₀:bk}{cfg:dC}{C:fE h₀ cfg}{k:Nat}
variable{A:cP}{E:aw->ao->Prop}{s s' s₀:ao}{P W W' W0:az->Prop}{G:Nat->Prop}{ρ ρ':List az}{st st':St}{n0:Nat}{av:AV}{K:Ck}{env:fZ}{loc loc':Loc}
theorem Rp.Qy(R:Rp h₀ K env n0 W0 s₀ loc st W ρ s)(b:pT P G s s')(X:∀p,j7 env p->P p)(Y:∀b o,s₀.heap.get? b=some o->P b)(D:∀g,G g->s₀.gens.size<=g)(ht:n0<=s'.toks):
 Rp h₀ K env n0 W0 s₀ loc st (λp=>W p/\(P p\/∃o,s.heap.get? p=some o/\qF o)) ρ s':=by
 have V:∀(w:az) (T:String) (vs:List aw),cL T s.heap w vs->cL T s'.heap w vs:=λw T vs Y=>aI Y λn h=>⟨n,b.nt h (.inr (.inl ⟨_,_,rfl⟩)) (i8 rfl)⟩;have O:∀w o,P w->s.heap.get? w=some o->nt o->s'.heap.get? w=some o:=λw o B h Q=>b.nt h (.inl B) Q;refine⟨⟨b.base R.ei.base λp o e=>(aI (bO.alive R.b0 p o e) λr U=>Y p r U),λp B=>?_,ht,λi hi x Z a L N=>?_,λn l e=>?_,R.ei.frame.by λp o B e Q=>O p o (X p B) e Q,λn l a e1 e2=>⟨R.ei.nR n l a e1 e2,.inr ?_⟩⟩,
  λp B=>⟨R.own p B,.inl (X p B)⟩,R.len,R.inj,R.me,R.new,⟨λp o e=>(aC (R.ext.keep p o e) λo1 J f=>aC (b.keep p o1 J (.inl (Y p o e))) λr U g2=>⟨r,U,f.trans g2 λc q=>b.code⟩),b.os.trans R.ext.os,aP R.ext.hJ b.hJ,
   λg d=>(b.gens g (be d R.ext.hJ) λh=>absurd (D g h) (jE.mpr d)).trans (R.ext.gens g d),λh=>b.bare (R.ext.bare h)⟩,λp B=>⟨R.w0 p B,.inl ?_⟩,R.b0,R.l0⟩
 ·refine ak B.2 (λh=>?_) λH=>aC H λo h hs=>?_
  ·exact aI (R.ei.live p B.1) λo M=>aC (b.keep p o M (.inl h)) λr U z=>⟨r,U⟩
  ·exact aC (b.keep p o h (.inr (.inl hs))) λr U z=>⟨r,U⟩
 ·refine aC (R.ei.vars i hi x Z a L N) λv J U=>⟨v,?_,U.move (λz h=>.inl h.1) (λw T vs z h=>V w T vs h) λz z e=>e⟩;rcases J with⟨y,m,F,t⟩|⟨y,c,F,t⟩
  ·exact .inl ⟨y,m,(kB F λo es ep w1 w2 w3=>⟨o,es,ep,O _ o (X _ (.inl rfl)) w1 (nN w2),w2,w3⟩),t⟩
  ·exact aC t λo M u=>.inr ⟨y,c,F,o,O c o (X _ (.inr ⟨x,mem_of_lookup F⟩)) M (uj u),u⟩
 ·exact cX (R.ei.store n l e) λa vs J U S=>⟨a,vs,J,V _ _ _ U,S.move (λz h=>.inl h.1) (λw T vs z h=>V w T vs h) λz z e=>e⟩
 ·refine cX (R.ei.store n l e1) λI vs J j S=>aI j λm U=>?_;clear j;rw[e2]at J;injection J with e_;exact ab e_<|⟨_,U,⟨_,_,rfl⟩⟩
 ·exact aI (R.l0 p B) λo M=>Y p o M
theorem j8.Qy{ρ':List az}{st':St}{W':az->Prop}{S:ao}(x:j8 env ρ st W s ρ' st' W' s')(b:pT P G s' S)(m:∀b o,s.heap.get? b=some o->P b)(D:∀g,G g->s.gens.size<=g):
 j8 env ρ st W s ρ' st' (λp=>W' p/\(P p\/∃o,s'.heap.get? p=some o/\qF o)) S where
 w:=λp h=>x.w p h.1
 wk:=λp h L T=>⟨x.wk p h L T,.inl (aI L λo M=>m p o M)⟩
 mu:=x.mu
 nR:=x.nR
 keep:=λp o B e=>(aC (x.keep p o B e) λo1 J f=>aC (b.keep p o1 J (.inl (m p o e))) λr U j=>⟨r,U,f.trans j λc q=>b.code⟩)
 alive:=λp o e=>(aI (x.alive p o e) λR h=>aC (b.keep p R h (.inl (m p o e))) λr U z=>⟨r,U⟩)
 os:=b.os.trans x.os
 hJ:=aP x.hJ b.hJ
 gens:=λg d=>(b.gens g (be d x.hJ) λh=>absurd (D g h) (jE.mpr d)).trans (x.gens g d)
 bare:=λh=>b.bare (x.bare h)
def H4(C:fE h₀ cfg):Prop:=∃d B a,pW 8=some d.name/\C.mg d.name=some (.ref a)/\FnAt h₀ d a/\wL d.body=some B/\I8 (K8 d) B=true/\Xs d=true
theorem NM{a:CE}{loc:Loc}{st:St}{av:AV}{l:List AV}(J:ev cfg st (.J a) loc=some av)(U:fQ st av=some l){I:Prop}(N:∀x,ev cfg st a loc=some (.str x)->l=ff 0 false x->I):I:=by
 refine dn J λx Z J=>?_;by_cases V:x.length<=cB/\(cfg.O 8 [.str x]).isSome=true
 ·rw[if_pos V]at J;rw[<-ay J]at U;have U:(if(ff 0 false x).length<=cB then some (ff 0 false x)else none)=some l:=U;split at U
  ·exact N x (zd Z) ((ay U).symm)
  ·injection U
 ·rw[if_neg V]at J;injection J
theorem TS(hgf:H4 C){t:kR}{a:CE}{b:List CS}(ha:bU C (k+1) a)(O:lL C (k+1) b):md C (k+1) (.m t (.J a) b):=by
 intro K env x W0 s₀ n0 loc loc' st st' L W ρ A s E hE hA R M V;refine ew λY=>D8 (Jf V) λg i bd p e c1 c2 c3 c4=>aC (aZ M) λav h1 hev1=>aC (aZ hev1) λavs U hev2=>NM h1 U λxs hxs hav=>Y ?_;clear Y;rw[hav]at hev2;refine ab e<|vt c2 λgn gp y q hi=>?_;rw[hi]at c2⊢;have d3:=ba (ba (ba c2).1).1;refine QO hgf λd B ad f1 f2 f3 f4 f5 f6=>?_;have hgn:gn=d.name:=(ay (f1.symm.trans (eq_of_beq (ba d3.1).2))).symm;rw[hgn]at d3⊢;refine oR f3.ex λo w cd doc ho hd hcd=>wpAny_For ?_ (λz=>rfl);refine dE (lF hE d3.2 R.ei.base f2 (kE (o:=o) (fd:=HY d.name d.params d.body d.scope w cd doc) ?_));refine ab (cY (ba c2).2)<|dH (dP (cu (ha _ _ _ _ _ _ _ _ _ _ _ _ hE hA R.ei hxs (ba (ba c2).1).2) λv N D=>e7 ⟨⟨bO.nt (bO.trans R.ei.base D.2.1.keep) ho (nO hd),hd⟩,?_⟩));have R1:=R.step D.2.1 D.1;refine aI D.2.2.gf λtk e=>ab e<|bY D.1 (aA (JU (C:=C) f4 f5 f6 f3 hA R1.ei.base) (λv s₂ q₂ t₂=>?_) λz z e z=>e);refine QN q₂ λI gi e e₂ hI hg1 hg2 hGI=>ab e<|wpAny_pyIter_gen hGI.gen ?_;have e0:=D.2.1;generalize hPd:(λb=>(∃o,N.heap.get? b=some o)\/b=I)=P at hGI;have hPi:∀b,P b↔((∃o,N.heap.get? b=some o)\/b=I):=λb=>by refine cA hPd ?_;rfl
 have X:∀p,j7 env p->P p:=λp hp=>(hPi p).mpr (.inl (R1.ei.live p (R1.own p hp)));refine Ec (W:=W) (ρ:=ρ) (F:=λL l st2 f s'=>Cc h₀ K env n0 W0 s₀ L l st2 ρ st W s f s') (Z:=λj loc1 st1 W1 ρ1 s'=>Rp h₀ K env n0 W0 s₀ loc1 st1 W1 ρ1 s'/\j8 env ρ st W s ρ1 st1 W1 s'/\HL C A P I gi (ff 0 false xs) j s'/\(∀b,P b->∃o,s'.heap.get? b=some o)/\gi<s'.gens.size)
  ?_ ?_ (λc f l1 st2 j W5 ρ5 S hf h=>⟨W5,ρ5,hf,h.1,h.2.1⟩) ⟨R1.step e₂ t₂,.ext (e0.trans e₂),hGI,λb O=>?_,hg2⟩ hev2 λf s' q=>q
 ·have hP0:∀b o,s.heap.get? b=some o->P b:=λb o h=>(hPi b).mpr (.inl (e0.keep.alive b o h));have H:∀g',g'=gi->s.gens.size<=g':=λg' h=>h▸aP e0.hJ hg1;have hPs:∀b o,s₀.heap.get? b=some o->P b:=λb o h=>(aI (R.ext.keep.alive b o h) λo' h'=>hP0 b o' h');have hIo:¬j7 env I:=λT=>by
   refine aI (R1.ei.live _ (R1.own _ T)) λo' h'=>?_;rw[hI]at h';injection h'
  intro j loc1 st1 W1 ρ1 s1 a1 l0 c l1 st2 J h5 h6 hZ E R2 hR2;refine ri hZ λR3 S3 hI3 hP3 hg3=>bY R3.ei.tok (aA (hI3.next hA R3.ei.base hP3 J) (λr s4 q t4=>?_) λz z e z=>e);refine ew λY=>?_;obtain⟨v,e,by4,hI4,adr,pp,u,tt,tt',ea,ev,hdead,hseq⟩:=q;have R4:=R3.Qy by4 X hPs (λg' h=>aP R.ext.hJ (H g' h)) t4;refine kB hI4.gen λoI nm qn hoI hcI z=>Y ?_;clear Y;refine⟨v,e,vK hoI hcI (by rfl) ?_⟩;have hvr:VR (λp=>W1 p/\(P p\/∃o,s1.heap.get? p=some o/\qF o)) ρ1 s4.heap v a1:=by simp only[ea,ev];refine .tup (λq=>?_) hseq (.cons (.int _ _) (.cons (.str _ _) .nil));refine aI (R3.ei.live adr q.1) λo h=>?_;rw[hdead]at h;injection h
  have frame:∀{ρ2:List az} {st2:St} {W2:az->Prop} {sa sb:ao} {ρa:List az} {sta:St} {Wa:az->Prop} {la:Loc},Rp h₀ K env n0 W0 s₀ la sta Wa ρa sa->j8 env ρa sta Wa sa ρ2 st2 W2 sb->HL C A P I gi (ff 0 false xs) (j+1) sa/\(∀b,P b->∃o,sa.heap.get? b=some o)/\gi<sa.gens.size->
   HL C A P I gi (ff 0 false xs) (j+1) sb/\(∀b,P b->∃o,sb.heap.get? b=some o)/\gi<sb.gens.size:=by
   intro ρ2 st2 W2 sa sb ρa sta Wa la Ra Sa hh;refine⟨hh.1.frame (λb o e O hns hn=>Sa.keep.nt (λT=>?_) e hn) (Sa.gens gi hh.2.2),λb O=>aI (hh.2.1 b O) λo h=>Sa.alive b o h,be hh.2.2 Sa.hJ⟩;clear hn;refine ak T (λT=>?_) λu1=>eb u1 λn l g1 g2=>?_
   ·refine ak O (λO=>?_) λO=>?_
    ·exact hIo (O▸T)
    ·exact O (X b T)
   ·refine cX (Ra.ei.store n l g1) λb' vs q1 o4 z=>aI o4 λm q2=>?_;clear o4;rw[g2]at q1;injection q1 with e_;subst e_;rw[e]at q2;injection q2 with e_;subst e_;exact hns ⟨_,_,rfl⟩
  refine fm hA.hh hE R4 c1 h5 hvr λS R5 Q=>aA (O _ _ _ _ _ _ _ _ _ _ _ _ _ _ _ _ hE hA R5 h6 c4) (λf s6 h=>?_) λz z e=>e;exact cX h λW6 ρ6 hf R6 S6=>hR2 f s6 W6 ρ6 hf ⟨R6,((S3.Qy by4 hP0 H).trans Q).trans S6,frame R5 S6 (frame R4 Q ⟨hI4,(λb O=>aI (hP3 b O) λo h=>aC (by4.keep b o h (.inl O)) λo2 U z=>⟨o2,U⟩),be hg3 by4.hJ⟩)⟩
 ·have hP0:∀b o,s.heap.get? b=some o->P b:=λb o h=>(hPi b).mpr (.inl (e0.keep.alive b o h));have H:∀g',g'=gi->s.gens.size<=g':=λg' h=>h▸aP e0.hJ hg1;intro loc1 st1 W1 ρ1 s1 E hZ;exact ri hZ λR3 S3 hI3 hP3 hg3=>bY R3.ei.tok (aA (hI3.done hA R3.ei.base hP3) (λr s4 q t4=>⟨q.1,_,ρ1,trivial,R3.Qy q.2 X (λb o h=>(aI (R.ext.keep.alive b o h) λo' h'=>hP0 b o' h')) (λg' h=>aP R.ext.hJ (H g' h)) t4,S3.Qy q.2 hP0 H⟩) λz z e z=>e)
 ·refine ak ((hPi b).mp O) (λu1=>aI u1 λo h=>?_) λh=>?_
  ·exact e₂.keep.alive b o h
  ·exact m6 hGI.gen λo z z h' z=>⟨o,h▸h'⟩
end
section
variable{h₀:bk}{B:dC}
noncomputable def fE.at{B:dC}(C:fE h₀ B)(k:Nat):fE h₀ (Cn B k):=
 {prog:=C.prog,w:=C.w,mg:=C.mg,mb:=C.mb,g:=C.g,b:=C.b,nolimit:=C.nolimit,bi:=C.bi,gi:=C.gi,b1:=C.b1,b3:=C.b3}
def Yh(C:fE h₀ B):Prop:=∀f d,nG f=some d->∃a,C.mg d.name=some (.ref a)/\FnAt h₀ d a
def xZ(C:fE h₀ B)(k f:Nat)(D:List AV->Option AV):Prop:=∀d a,nG f=some d->C.mg d.name=some (.ref a)->FnAt h₀ d a->
 ∀(A:cP) (s:ao) (W:az->Prop) (ρ:List az) (vs:List aw) (args:List AV) (av:AV) (E:aw->ao->Prop),i7 (k+1) A->bO h₀ s.heap->j6 W s.heap->ft W ρ s.heap vs args->dU args=true->D args=some av->
  aM (aL C.prog C.w) A (call (.ref a) vs) (e9 W ρ s av) E s
theorem xm{k f:Nat}{args:List AV}{av:AV}(h:Ln B (k+1) f args=some av):(f=4/\3<=k/\xw args=some av)\/(f=5/\3<=k/\xy args=some av)\/(∃q,fdOf f=some q/\f≠23/\iR (Cn B k) q.1 args=some av)\/f=8:=by
 have h:(if f=4 then if k<3 then none else xw args
  else if f=5 then if k<3 then none else xy args
  else if f=23 then none
  else if f=8 then(l1 args).bind λa=>(jH a).map λz=>AV.none
  else(fdOf f).bind λq=>iR (Cn B k) q.1 args)=some av:=h
 by_cases d:f=4
 ·rw[if_pos d]at h;by_cases I:k<3
  ·rw[if_pos I]at h;injection h
  ·rw[if_neg I]at h;exact .inl ⟨d,gR I,h⟩
 ·rw[if_neg d]at h;by_cases O:f=5
  ·rw[if_pos O]at h;by_cases I:k<3
   ·rw[if_pos I]at h;injection h
   ·rw[if_neg I]at h;exact .inr (.inl ⟨O,gR I,h⟩)
  ·rw[if_neg O]at h;by_cases A:f=23
   ·rw[if_pos A]at h;injection h
   ·rw[if_neg A]at h;by_cases Z:f=8
    ·exact .inr (.inr (.inr Z))
    ·rw[if_neg Z]at h;exact dn h λq J U=>.inr (.inr (.inl ⟨q,J,A,U⟩))
theorem NT{f:Nat}{x:FD×List (List Nat)}(h:fdOf f=some x):f<24:=
 dn h λq J z=>(aQ.mp J).1
set_option tactic.hygienic true in
theorem sk{f:Nat}{d:iL}(h:nG f=some d):pW f=some d.name:=by
 delta nG at h;split at h
 ·rename_i g A;have:=List.find?_some h;refine bp A ?_;rw[beq_iff_eq]at this;exact(congrArg _ this).symm
 ·injection h
theorem uU:((aG 24).all λf=>(nG f).isSome)=true:=by decide+kernel
set_option tactic.hygienic true in
theorem Wp(C:fE h₀ B)(F:Yh C)(h4:∀k,3<=k->xZ C k 4 xw)(h5:∀k,3<=k->xZ C k 5 xy)(m:∀k a,bU (C.at k) k a->oE (C.at k) k (.M a))(r:H4 C):
 ∀k,wJ (C.at k) k:=by
 intro G
 induction G with
 |zero=>
  exact⟨⟨λf args av z h=>(nomatch (show(none:Option AV)=some av from h)),m 0⟩,λt a b z z=>by
   intro K env x p s₀ n0 loc loc' st st' fl W ρ A s E hE hA R M V;refine dn M λav J z=>dn J λx U S=>?_;split at S
   ·rename_i N;cases N.2
   ·injection S⟩
 |succ k ih=>
  have H:=ih;refine⟨⟨λf args av v h=>?_,m (k+1)⟩,λt a b=>TS (C:=C.at (k+1)) r⟩;have y:f<24:=by
   refine ak (xm (show Ln B (k+1) f args=some av from h)) (λu1=>aN u1 λe z=>?_) λg=>ak g (λT=>aN T λe z=>?_) λI=>ak I (λj=>aC j λq e z=>?_) λe=>?_
   ·refine ab e ?_;decide
   ·refine ab e ?_;decide
   ·exact NT e
   ·refine ab e ?_;decide
  refine ew λY=>aI (gy.mp (aq.mp uU f (aT.mpr y))) λd u=>aC (F f d u) λa L P=>oR P.ex λo w cd doc ho c i=>Y ?_;clear Y;refine⟨d.name,a,o,_,sk u,L,ho,c,λA s W ρ vs E hA O X D Q=>?_⟩;refine ak (xm (show Ln B (k+1) f args=some av from h)) (λu1=>eY u1 λe n h=>?_) λg=>ak g (λT=>eY T λe n h=>?_) λI=>ak I (λj=>gB j λq e hne h=>?_) λZ=>?_
  ·rw[e]at u;exact h4 k n d a u L P A s W ρ vs args av E hA O X D Q h
  ·rw[e]at u;exact h5 k n d a u L P A s W ρ vs args av E hA O X D Q h
  ·have l:=aq.mp Wo f (aT.mpr (by lia));dsimp only[YF]at l;rw[e,u]at l;exact C7 (C:=C.at k) H (ba l).1 (ba l).2 P hA O X D Q h
  ·exact absurd Z v
end
section
variable{h₀:bk}{cfg:dC}{C:fE h₀ cfg}{k:Nat}
variable{A:cP}{E:aw->ao->Prop}{s s' s₀:ao}{W W0:az->Prop}{ρ:List az}{st:St}{n0:Nat}{K:Ck}{env:fZ}{loc:Loc}
def Bm(C:fE h₀ cfg):Prop:=∃B ob,C.mg "__builtins__"=some (.ref B)/\B≠ma/\h₀.get? B=some ob/\ob.cls=.type "module"/\ob.dict=some ma/\ob.data=.plain
theorem CodeHd.kp{h h':bk}{c P:az}(k:bO h h')(x:HO h c P):HO h' c P:=
 Vy x λo vs D I B b H F G e r=>⟨o,vs,D,I,B,b,H,F,G,k.nt e (jt r.1),r⟩
theorem G9{nm:bj}{ad f:az}{Q:Unit->ao->Prop}(R:Rp h₀ K env n0 W0 s₀ loc st W ρ s)(hE:bZ env K n0)(M:mi env nm ad)(B:j7 env ad)(l:∀(i:Nat) (x:bj),K.tab[i]? =some x->x≠nm)
 (h:∀s',Rp h₀ K env n0 W0 s₀ loc st W ρ s'->j8 env ρ st W s ρ st W s'->DK (j7 env) s s'->iq env s'.heap nm (.ref f)->Q () s'):aM (aL C.prog C.w) A (zN env nm (.ref f)) Q E s:=by
 refine bY R.ei.tok (vP hE.kind M R.ei.frame λh' tk G V hh F X D=>?_);clear M;have S:DK (j7 env) s {s with heap:=h',toks:=tk}:=⟨λb o O e=>G.extBut b o (λq=>O (q▸B)) e,λb o e=>by
  by_cases O:b=ad
  ·exact ab O<|X
  ·exact⟨o,G.extBut b o O e⟩,⟨_,_,rfl⟩⟩
 refine h _ (R.Rh S V (λi hi x Z a L N=>?_) D) (.Rh S R.ei.frame) S hh;exact aC (R.ei.vars i hi x Z a L N) λv J U=>⟨v,F x v (l i x Z) J,U.move (λz q=>.inl q) (pS λb o O e=>S.keep b o (λq=>O (R.own b q)) e) λz z e=>e⟩
theorem Hg(O:bO h₀ s.heap){P:az}(m:h₀.get? P=some (sf #[])):s.heap.get? P=some (sf #[])\/∃t,s.heap.get? P=some (UG P t)/\s.heap.CodeRec (.ref t) (rD P):=by
 refine aC (O P _ m) λR J U=>?_;rcases U with rfl|⟨_,_,t,rfl,S⟩
 ·exact .inl J
 ·exact .inr ⟨t,J,S⟩
theorem KJ{Y:cZ}{body:List bC}{scope:cQ}{pos:eO}{c P ad:az}{nm:bj}(R:Rp h₀ K env n0 W0 s₀ loc st W ρ s)(hE:bZ env K n0)
 (v:Y.defaults= [])(Q:Y.kw_defaults= [])(ha:YR Y none env= [])(p:env.code=.ref c)(a:HO h₀ c P)(m:h₀.get? P=some (sf #[]))(hT:Tb P)(X:pos.line=Gu P)(hc4:pos.col=4)
 (D:qualnameIn env nm nm=rD P)(hBm:Bm C)(N:∀n,(n,dq)∈scope.names->∃c,env.cells.lookup n=some c)(M:mi env nm ad)(hof:j7 env ad)(hnm:∀(i:Nat) (x:bj),K.tab[i]? =some x->x≠nm):
 aM (aL C.prog C.w) A (se (.FunctionDef nm Y body [] none [] scope none nm pos) env) (λL s'=>L=.next/\∃f t r j w,Rp h₀ K env n0 W0 s₀ loc st W ρ s'/\j8 env ρ st W s ρ st W s'/\iq env s'.heap nm (.ref f)/\s.heap.get? f=none/\
  s'.heap.get? f=some {cls:=.type "function",data:=.func (fnX nm (rD P) Y body scope (n8 env scope.names []) .none .none j w none (.ref t) r)}/\s'.heap.CodeRec (.ref t) (rD P)) E s:=by
 refine QN hBm λbm ob b1 b2 b3 b4 b5 b6=>?_;have d:=bO.ns R.ei.base C.g;have J:=bO.nt R.ei.base b3 (jt b4);clear b3;have hCd':=CodeHd.kp R.ei.base a;clear a;refine nestDef_K v Q ha<|ab D ?_;clear D;have fin:∀(t:az) (r j:aw) (h':bk) (tk:nZ),bO s.heap h'->h'.CodeRec (.ref t) (rD P)->s.heap.objs.size<=h'.objs.size->n0<=tk->
  aM (aL C.prog C.w) A (zN env nm (.ref h'.objs.size)) (λz S=>(Xu:kO)=.next/\∃f t r j w,Rp h₀ K env n0 W0 s₀ loc st W ρ S/\j8 env ρ st W s ρ st W S/\iq env S.heap nm (.ref f)/\s.heap.get? f=none/\
   S.heap.get? f=some {cls:=.type "function",data:=.func (fnX nm (rD P) Y body scope (n8 env scope.names []) .none .none j w none (.ref t) r)}/\S.heap.CodeRec (.ref t) (rD P)) E
   {s with heap:=h'.push {cls:=.type "function",data:=.func (fnX nm (rD P) Y body scope (n8 env scope.names []) .none .none j ((C.mg "__name__").getD .none) none (.ref t) r)},toks:=tk}:=by
  intro t r j h' tk I T g htk;have ex:gK s {s with heap:=h'.push {cls:=.type "function",data:=.func (fnX nm (rD P) Y body scope (n8 env scope.names []) .none .none j ((C.mg "__name__").getD .none) none (.ref t) r)},toks:=tk}:=.YE (I.trans (iu.k λb o e=>cC _ e));have G:s.heap.get? h'.objs.size=none:=by
   rcases e:s.heap.get? h'.objs.size with _|o
   ·rfl
   ·exact absurd (gN e) (i5.mpr g)
  have hnf:¬j7 env h'.objs.size:=λq=>by
   refine aI (R.ei.live _ (R.own _ q)) λo h=>?_;rw[G]at h;injection h
  refine G9 (R.step ex htk) hE M hof hnm λs' V S2 T2 hh=>⟨rfl,h'.objs.size,t,r,j,_,V,(j8.ext ex).trans S2,hh,G,T2.keep _ _ hnf (bV _ rfl),?_⟩;exact cD.code S2.keep (T.push _)
 refine ak (Hg R.ei.base m) (λB=>?_) λH=>aC H λt B T=>?_;clear m
 ·have hgP:d8≠P:=λq=>by
   refine kB d λo es l e u z=>?_;rw[q,B]at e;injection e with F;subst F;injection u
  have hbP:bm≠P:=λq=>by rw[q,B]at J;injection J with F;subst F;injection b4
  have hbG:bm≠d8:=λq=>by
   refine kB d λo es l e u z=>?_;rw[q,e]at J;injection J with F;subst F;rw[u]at b6;injection b6
  refine bY R.ei.tok (makeFunction_K (mg:=C.mg) (qk N) hE.glob d p hCd' B trivial rfl hgP ⟨bm,ob,b1,b2,hbG,hbP,J,b4,b5,b6⟩ λt r j h' tk Z U y hrec htb=>λht=>?_);refine fin t r j h' tk (λb o e=>?_) hrec (aP U (cm y)) ht;by_cases O:b=P
  ·subst O;rw[B]at e;injection e with F;subst F;refine⟨_,htb,.inr ⟨hT,rfl,t,?_,hrec⟩⟩;delta UG;refine cA X (cA hc4 ?_);rfl
  ·exact⟨o,Z b o O e,.refl _ _ _⟩
 ·have hgP:d8≠P:=λq=>by
   refine kB d λo es l e u z=>?_;rw[q,B]at e;injection e with F;subst F;injection u
  have hbP:bm≠P:=λq=>by rw[q,B]at J;injection J with F;subst F;injection b4
  have hbG:bm≠d8:=λq=>by
   refine kB d λo es l e u z=>?_;rw[q,e]at J;injection J with F;subst F;rw[u]at b6;injection b6
  refine bY R.ei.tok (makeFunction_hit (mg:=C.mg) (cv:=.ref t) (ps:= #[zL (Gu P:Nat),zL ((4:Nat):Int),.ref t]) (qk N) hE.glob d p hCd' B trivial ?_ ⟨bm,ob,b1,b2,hbG,hbP,J,b4,b5,b6⟩ λr j h' tk I g=>λht=>?_)
  ·simp[codeAmong,zL,X,hc4]
  ·exact fin t r j h' tk (iu.k I) (T.keeps I) g ht
end
section
variable{h₀:bk}{cfg:dC}{C:fE h₀ cfg}{k:Nat}
variable{A:cP}{E:aw->ao->Prop}{s s' s₀:ao}{W W0:az->Prop}{ρ:List az}{st:St}{n0:Nat}{K:Ck}{env:fZ}{loc loc':Loc}{av:AV}
noncomputable def YI(Y:cZ)(names:List bj)(scope:cQ):Bool:=
 [scope.kind==.function,!scope.isGenerator,!scope.isCoroutine,(scope.names.all λp=>p.2 !=.cell),Y.posonlyargs.isEmpty,Y.vararg.isNone,Y.kwonlyargs.isEmpty,Y.kwarg.isNone,Y.defaults.isEmpty,Y.kw_defaults.isEmpty,
 (Y.args.map (·.arg)==names),decide names.Nodup,(names.all λx=>scope.names.lookup x==some .local),decide ((scope.names.map (·.1)).Nodup),(scope.names.all λp=>scope.names.lookup p.1==some p.2)].all id
structure HM (params:cZ) (names:List bj) (scope:cQ):Prop where
 kind:scope.kind=.function
 gen:scope.isGenerator=false
 co:scope.isCoroutine=false
 yS:∀p∈scope.names,p.2≠.cell
 c7:params.posonlyargs= []
 c8:params.vararg=none
 c9:params.kwonlyargs= []
 RU:params.kwarg=none
 d0:params.defaults= []
 k0:params.kw_defaults= []
 args:params.args.map (·.arg)=names
 Q:names.Nodup
 loc:∀x∈names,scope.names.lookup x=some .local
 Ze:(scope.names.map (·.1)).Nodup
 look:∀p∈scope.names,scope.names.lookup p.1=some p.2
theorem TZ{Y:cZ}{names:List bj}{scope:cQ}(h:YI Y names scope=true):HM Y names scope:=
 ⟨eq_of_beq (allB h 0 rfl),nB (allB h 1 rfl),nB (allB h 2 rfl),λp B=>bne_iff_ne.mp (aq.mp (allB h 3 rfl) p B),dx.mp (allB h 4 rfl),d7.mp (allB h 5 rfl),dx.mp (allB h 6 rfl),d7.mp (allB h 7 rfl),
  dx.mp (allB h 8 rfl),dx.mp (allB h 9 rfl),eq_of_beq (allB h 10 rfl),of_decide_eq_true (allB h 11 rfl),λx Z=>eq_of_beq (aq.mp (allB h 12 rfl) x Z),of_decide_eq_true (allB h 13 rfl),λp B=>eq_of_beq (aq.mp (allB h 14 rfl) p B)⟩
theorem Jp{f t:az}{nm q:bj}{Y:cZ}{names:List bj}{body:List bC}{scope:cQ}{cl:List (bj×az)}{j w r:aw}{vs:List aw}{Q:aw->ao->Prop}(G:HM Y names scope)
 (P:s.heap.get? f=some {cls:=.type "function",data:=.func (fnX nm q Y body scope cl .none .none j w none (.ref t) r)})(T:s.heap.CodeRec (.ref t) q)(g:vs.length=names.length)(hA:i7 (k+1) A)(O:bO h₀ s.heap)
 (h:∀env N,env.cells=cl->(∀x,env.kindOf x=scope.names.lookup x)->env.scope=scope->env.globals=d8->env.builtins=ma->env.locals=s.heap.objs.size->i7 k (A.deeper env)->gK s N->iu s.heap N.heap->
   N.heap.Ns env.locals (λx=>(names.zip vs).reverse.lookup x)->s.toks<=N.toks->
   ∀R,aM (aL C.prog C.w) (A.deeper env) (fw body env) (λL s'=>Q (match L with| .ret v=>v|_=>.none) s') R N):
 aM (aL C.prog C.w) A (call (.ref f) vs) Q E s:=by
 refine UX (codeAny_call_function (fd:=fnX nm q Y body scope cl .none .none j w none (.ref t) r) (body:=body) (by have:=hA.depth;clear h;lia) P rfl G.co G.gen rfl T ?_);refine ab (qi (fd:=fnX nm q Y body scope cl .none .none j w none (.ref t) r) G.c7 G.c8 G.c9 G.RU rfl (by show vs.length=Y.args.length;refine ab g (cA G.args ?_);simp) (by show(Y.args.map (·.arg)).Nodup;exact ab G.args<|G.Q)) ?_;show aM _ _ (pure ((Y.args.map (·.arg)).zip vs)) _ _ s;refine ab G.args<|du (wpAny_newFunctionEnv G.yS (λp B=>G.loc p.1 (Qb B).1) (λh' F i=>?_) G.kind);have D:iu s.heap h':=λb o e=>i.extBut b o (jb (gN e)) (cC _ e);refine⟨bO.nolimit (bO.trans O (iu.k D)) C.nolimit,codeAny_func ?_⟩;refine h (newEnv scope s.heap.objs.size d8 cl (q++".<locals>.") (some f) (.ref t) none ma) _ rfl (λx=>rfl) rfl rfl rfl rfl ⟨hA.hh,?_,?_⟩ (.of (s:=s) D) D F (ja _ _) _
 ·have:=hA.depth;clear h;show A.depth+1+k+_<_;lia
 ·have:=hA.units;clear h;show A.units+3+20*k+100<_;lia
theorem VH{e:CE}{i:Nat}{x:bC}{own:az->Prop}(Z:bU C k e)(hE:bZ env K n0)(hA:i7 k A)(I:EI h₀ K.tab K.acc env W ρ n0 loc st s)(hW:∀p,own p->W p)(hO:∀x,(K.names.lookup x=some .local\/K.names.lookup x=some .cell)->∃ad,mi env x ad/\own ad)
 (X:∀p,own p->p=env.locals)(H:h₀.get? env.locals=none)(Q:∀(n:Nat) (l:List AV) (a:az),st[n]? =some (some l)->ρ[n]? =some a->¬own a)
 (M:ev cfg st e loc=some av)(hi:i<loc.length)(V:ka K (.cI (.bX i) e) x=true)(R:∀v,cz K 0 e v=true->iF v=false):
 aM (aL C.prog C.w) A (se x env) (λf s'=>f=.next/\EI h₀ K.tab K.acc env W ρ n0 (loc.set i av) st s'/\By own (λz=>False) s s') E s:=by
 have V:RV K (.bX i) e x=true:=V;refine ui V λg v pos o1 hcc=>?_;subst o1;simp only[au]at hcc;refine aN hcc λr z=>aN r λc m=>?_;obtain⟨xn,d,rfl⟩:∃x p,g=.Name x p:=cX (ij (K:=K) (names:=K.names) (i:=i) c) λx p e z z=>⟨x,p,e⟩;refine gG (.inl ⟨_,_,rfl,R v m⟩) (cu (Z _ _ _ _ _ _ _ _ _ _ _ _ hE hA I M m) λy N D=>?_);have P:=I.step D;refine bY P.tok (qg (own:=own) (t:=.bX i) (av:=av) (loc':=loc.set i av) (acc:=K.acc) hA.hh hE.kind hE.Q hW hO c (by simp[(id sj),ek,hi]) P.frame P.vars D.2.2 λT F h w u=>?_);have G:cD own N.heap T.heap:=.of F.keep λb o O e=>P.frame.Xp (.inl (X b O)) e;have hb2:By own (λz=>False) N T:=by refine ej F.rest λh' tk o3=>?_;subst o3;exact⟨G,rfl,aV _,λz z z=>rfl,id⟩
 refine⟨rfl,⟨cD.after P.base G λp o e q=>?_,λp B=>?_,u,λj Y x hx a L hu=>w j (fo _ Y) x hx a L hu,λn l e=>?_,h,P.nR⟩,(By.jQ D.2.1).trans hb2⟩
 ·have:=X p q;subst this;rw[H]at e;injection e
 ·exact aI (P.live p B) λo ho=>F.live p o ho
 ·exact cX (P.store n l e) λa vs J U S=>⟨a,vs,J,G.seq (Q n l a e J) U,S.move (λz q=>.inl q) (y7 G hW) λz z e=>e⟩
end
theorem P4{B A:Type}:∀{l:List B} {m:List A},l.length=m.length->(l.zip m).map (·.1)=l:=by
 intro G
 induction G with
 |nil=>
  intro z z;rfl
 |cons a l P=>
  intro H h;rcases H with _|⟨b,m⟩
  ·injection h
  ·simp[P (by simpa using h)]
theorem P5{B A:Type}{l:List B}{m:List A}{i:Nat}{x:B}{v:A}(J:l[i]? =some x)(U:m[i]? =some v):(x,v)∈l.zip m:=aW (List.getElem?_zip_eq_some.mpr ⟨J,U⟩)
structure U2 (scope:cQ) (cl:List (bj×az)) (h:bk):Prop where
 cB:∀x,scope.names.lookup x=some .free->∃c,cl.lookup x=some c
 cells:∀x c,(x,c)∈cl->∃v,h.IsCell c v
 apart:cl.Pairwise λx y=>x.2≠y.2
section
variable{h₀:bk}{cfg:dC}{C:fE h₀ cfg}{k:Nat}
variable{A:cP}{E:aw->ao->Prop}{s s' s₀ s₁:ao}{W W0:az->Prop}{ρ:List az}{st:St}{n0:Nat}{K:Ck}{env:fZ}{loc loc':Loc}{av:AV}
theorem By.drop{X Y:az->Prop}{G:Nat->Prop}{a b:ao}(x:By (λp=>X p\/Y p) G a b)(I:∀p,Y p->a.heap.get? p=none):By X G a b:=
 ⟨λp o B e=>x.keep p o (B.imp (λQ q=>q.elim Q λq=>by rw[I p q]at e;injection e) id) e,x.os,x.hJ,x.gens,x.bare⟩
theorem gK.RS{X:az->Prop}{a b c:ao}(e:gK a b)(y:By X (λz=>False) b c)(u:∀p,X p->a.heap.get? p=none):gK a c where
 keep:=cD.after e.keep y.keep λp o h q=>by rw[u p q]at h;injection h
 os:=y.os.trans e.os
 hJ:=aP e.hJ y.hJ
 gens:=λg d=>(y.gens g (be d e.hJ) id).trans (e.gens g d)
 bare:=λh=>y.bare (e.bare h)
theorem By.ext{a b:ao}(y:By (λz=>False) (λz=>False) a b):gK a b:=(gK.refl a).RS y λp h=>h.elim
theorem An{Y:cZ}{names rest:List bj}{scope:cQ}{cl:List (bj×az)}(t:HM Y names scope)(hnd:(names++rest).Nodup){vs:List aw}{avs ras:List AV}{acc:List Nat}
 (O:bO h₀ s.heap)(hL:j6 W s.heap)(hS:SR W ρ s.heap st)(X:∀(n:Nat) (l:List AV) (a:az),st[n]? =some (some l)->ρ[n]? =some a->W a)(D:ft W ρ s.heap vs avs)(g:vs.length=names.length)(N:U2 scope cl s.heap)
 (R:∀(i:Nat) (x:bj) (a:AV),rest[i]? =some x->ras[i]? =some a->a≠.c->∃c v,scope.names.lookup x=some .free/\cl.lookup x=some c/\s.heap.IsCell c (some v)/\VR W ρ s.heap v a)
 (e1:env.cells=cl)(e2:∀x,env.kindOf x=scope.names.lookup x)(w:env.scope=scope)(F:env.globals=d8)(e5:env.builtins=ma)(H:env.locals=s.heap.objs.size)
 (Z:gK s s₁)(I:iu s.heap s₁.heap)(Q:s₁.heap.Ns env.locals (λx=>(names.zip vs).reverse.lookup x)):
 bZ env ⟨scope.names,names++rest,acc,0⟩ 0/\EI h₀ (names++rest) acc env (λp=>W p\/p=env.locals) ρ 0 (avs++ras) st s₁:=by
 have G:s.heap.get? env.locals=none:=ab H<|cO _;have j:∀{v:aw} {a:AV},VR W ρ s.heap v a->VR (λp=>W p\/p=env.locals) ρ s₁.heap v a:=λx=>x.move (λp q=>q.imp id λ(q:p=env.locals)=>ab q<|G) (pS λb o z e=>I b o e) λz z e=>e;have f:∀{v:List aw} {a:List AV},ft W ρ s.heap v a->ft (λp=>W p\/p=env.locals) ρ s₁.heap v a:=λx=>x.move (λp q=>q.imp id λ(q:p=env.locals)=>ab q<|G) (pS λb o z e=>I b o e) λz z e=>e;have hal:=D.length;refine⟨⟨aV _,ab w<|t.kind,ab w rfl,F,e5,ab w<|t.co,λx Z=>?_,hnd⟩,
  ⟨bO.trans O Z.keep,λp B=>?_,bz _,λi z x P a L hu=>?_,λn l e=>?_,⟨⟨_,Q⟩,λx c V=>?_,ab e1<|N.apart,λx c V q=>?_⟩,λn l a x y=>.inl (X n l a x y)⟩⟩
 ·rw[e2]at Z;refine ab e1<|ak Z (λZ=>?_) λZ=>?_
  ·exact absurd rfl (t.yS _ (mem_of_lookup Z))
  ·exact N.cB x Z
 ·refine ak B (λB=>?_) λu1=>?_;rotate_left;subst u1;rotate_right
  ·exact aI (hL p B) λo M=>⟨o,I _ _ M⟩
  ·exact m6 Q λo es ep J z=>⟨o,J⟩
 ·by_cases hi:i<names.length
  ·rw[cM hi]at P;rw[cM (by lia)]at L;refine aC (D.get L) λv J U=>⟨v,.inl ⟨ab (e2 ..)<|t.loc x (aW P),_,Q,?_⟩,j U⟩;have T:=P5 P J;refine sF ?_ (uB.mpr T);exact ab uA<|ab (P4 (iZ (congrFun (congrArg BG (id (dN g))) i)))<|List.pairwise_reverse.mpr (t.Q.imp λh=>ib h)
  ·rw[bG (gR hi)]at P;rw[bG (by lia)]at L;refine s8 (R _ x a P (ab (show i-names.length=i-avs.length by lia)<|L) hu) λc v J U S d=>⟨v,.inr ⟨.inr (ab (e2 ..)<|J),c,ab e1<|U,?_⟩,j d⟩;exact aC S λo M u=>⟨o,I _ _ M,u⟩
 ·exact cX (hS n l e) λa vs' J r S=>aI r λm U=>⟨a,vs',J,⟨m,I _ _ U⟩,f S⟩
 ·rw[e1]at V;exact eb (N.cells x c V) λv o M u=>⟨v,o,I _ _ M,u⟩
 ·rw[e1]at V;refine eb (N.cells x c V) λv o M u=>?_;rw[q,G]at M;injection M
end
noncomputable def nM(x:bj):Bool:=x==("inner":bj)
theorem kj{x:bj}(h:nM x=true):x="inner":=eq_of_beq h
noncomputable def Vb(x:bC):Option (cZ×List bC×cQ×eO):=(Mx x).bind λq=>(l0 q.2.2.2.1).bind λz=>(o0 q.2.2.2.2.1).bind λz=>(l0 q.2.2.2.2.2.1).bind λz=>(o0 q.2.2.2.2.2.2.2.1).bind λz=>(Nw (nM q.1)).bind λz=>(Nw (nM q.2.2.2.2.2.2.2.2.1)).map λz=>(q.2.1,q.2.2.1,q.2.2.2.2.2.2.1,q.2.2.2.2.2.2.2.2.2)
theorem SS{x:bC}{r:cZ×List bC×cQ×eO}(h:Vb x=some r):x=.FunctionDef "inner" r.1 r.2.1 [] none [] r.2.2.1 none "inner" r.2.2.2:=by refine ew λY=>?_;refine aC (aZ h) λq J h=>aC (aZ h) λz U h=>aC (aZ h) λz S h=>aC (aZ h) λz d h=>aC (aZ h) λz O h=>aC (aZ h) λz X h=>?_;obtain⟨e,_,V⟩:=xf h;refine Y ?_;clear Y;exact ab (HD J) (ab (lR U) (ab (A5 S) (ab (lR d) (ab (A5 O) (ab (kj (yl X)) (ab (kj (yl V)) (cA e rfl)))))))
noncomputable def isIn(K:Ck)(l:List CE)(x:bC):Bool:=bD (Mw x) λq=>bD (vY q.1) λf=>nM f.1&&fV K 0 l f.2.2.1
theorem SN{K:Ck}{l:List CE}{x:bC}(h:isIn K l x=true){I:Prop}(N:∀p q r D,x=.Expr (.Call (.Name "inner" p) D [] q) r->fV K 0 l D=true->I):I:=aU h λq J h=>aU h λf U h=>N _ _ _ _ (bp (ur J) (ab (lz U) (ab (kj (ba h).1) rfl))) ((ba h).2)
noncomputable def VK(x:bC):Bool:=bD (BF x) λq=>q.1.isNone
theorem SV{x:bC}(h:VK x=true){I:Prop}(N:∀p,x=.Return none p->I):I:=aU h λq J h=>N _ (bp (rW J) (ab (d7.mp h) rfl))
noncomputable def VN(K:Ck)(c:CE)(G:List bC->Bool)(x:bC):Bool:=bD (RM x) λq=>q.2.2.isEmpty&&(cz K 1 c q.1&&G q.2.1)
noncomputable def l5{B:Type}:List B->Option (B×B×B×B×B)
 | []=>none
 |a::l=>(l4 l).map λb=>(a,b)
theorem VT{B:Type}{l:List B}{q:B×B×B×B×B}(h:l5 l=some q):l= [q.1,q.2.1,q.2.2.1,q.2.2.2.1,q.2.2.2.2]:=by
 rcases l with _|⟨a,l⟩
 ·injection h
 ·exact ab (AN (rq h).2) (ab ((rq h).1) rfl)
noncomputable def l6{B:Type}:List B->Option (B×B×B×B×B×B)
 | []=>none
 |a::l=>(l5 l).map λb=>(a,b)
theorem VU{B:Type}{l:List B}{q:B×B×B×B×B×B}(h:l6 l=some q):l= [q.1,q.2.1,q.2.2.1,q.2.2.2.1,q.2.2.2.2.1,q.2.2.2.2.2]:=by
 rcases l with _|⟨a,l⟩
 ·injection h
 ·exact ab (VT (rq h).2) (ab ((rq h).1) rfl)
noncomputable def l7{B:Type}:List B->Option (B×B×B×B×B×B×B)
 | []=>none
 |a::l=>(l6 l).map λb=>(a,b)
theorem QX{B:Type}{l:List B}{q:B×B×B×B×B×B×B}(h:l7 l=some q):l= [q.1,q.2.1,q.2.2.1,q.2.2.2.1,q.2.2.2.2.1,q.2.2.2.2.2.1,q.2.2.2.2.2.2]:=by
 rcases l with _|⟨a,l⟩
 ·injection h
 ·exact ab (VU (rq h).2) (ab ((rq h).1) rfl)
noncomputable def WS:List bj:= ["x","L","R","mid","shift","upper","lower","n","a_digits"]
noncomputable def K9:List bj:= ["mid","shift","upper","lower","n","a_digits"]
noncomputable def kI(u:cQ):Ck:=⟨u.names,WS,aG 9,0⟩
noncomputable def QB:CE:=.cmp .Eq (.f .Add (.a 1) (.d 1)) (.a 2)
noncomputable def g4(u:cQ)(b:List bC):Bool:=bD (l2 b) λa=>ka (kI u) (.K (.a 8) (.a 1) (.a 0)) a.1&&VK a.2
noncomputable def Y2:CE:=.f .RShift (.f .Add (.a 1) (.a 2)) (.d 1)
noncomputable def Y3:CE:=.f .Mult (.f .Sub (.a 3) (.a 1)) (.a 7)
noncomputable def Y4:CE:=.f .RShift (.a 0) (.a 4)
noncomputable def Y5:CE:=.f .BitXor (.a 0) (.f .LShift (.a 5) (.a 4))
noncomputable def Vc(u:cQ)(i1 i B C A Q V:bC):Bool:=
 VN (kI u) QB (g4 u) i1&&(ka (kI u) (.cI (.bX 3) Y2) i&&(ka (kI u) (.cI (.bX 4) Y3) B&&(ka (kI u) (.cI (.bX 5) Y4) C&&(ka (kI u) (.cI (.bX 6) Y5) A&&
  (isIn (kI u) [.a 6,.a 1,.a 3] Q&&isIn (kI u) [.a 5,.a 3,.a 2] V)))))
noncomputable def T1(ps:cZ)(names loc free:List bj)(u:cQ):Bool:=YI ps names u&&((loc.all λx=>u.names.lookup x==some .local)&&(free.all λx=>u.names.lookup x==some .free))
theorem jS{ps:cZ}{names loc free:List bj}{u:cQ}(h:T1 ps names loc free u=true):HM ps names u/\∀x∈free,u.names.lookup x=some .free:=
 ⟨TZ (ba h).1,λx Z=>eq_of_beq (aq.mp (ba (ba h).2).2 x Z)⟩
noncomputable def zY(ps:cZ)(b:List bC)(u:cQ):Bool:=
 T1 ps ["x","L","R"] ["mid","shift","upper","lower"] ["n","a_digits","inner"] u&&bD (l7 b) λq=>Vc u q.1 q.2.1 q.2.2.1 q.2.2.2.1 q.2.2.2.2.1 q.2.2.2.2.2.1 q.2.2.2.2.2.2
theorem P1{a:Int}(L:0<=a)(n:Nat):YM a (a.fdiv (2^n)*2^n)=a.fmod (2^n):=by
 refine aI (dW L) λm o1=>?_;subst o1;have B:((2:Int)^n)=((2^n:Nat):Int):=by push_cast;rfl
 refine ab B (ab (bN _ (aX _)) (ab (bA _ (aX _)) (ab (bitXor_and ..) ?_)));simp only[<-Int.natCast_ediv,<-MS,<-pf,bitAnd_pp (aX _) (aX _)];have e:m&&&(m/2^n*2^n)=m/2^n*2^n:=by
  apply Fi;refineλi=>ab (Qf ..) (ab (BH ..) (ab (Nat.testBit_div_two_pow ..) ?_));by_cases h:n<=i
  ·refine ab (show i-n+n=i by exact Nat.sub_add_cancel h) ?_;simp[h]
  ·simp[h]
 refine ab e ?_;have:=wy m (2^n);lia
def kQ(h:bk)(a:az)(zs:List Int):Prop:=∃g,cL "list" h a g/\ft (λz=>False) [] h g (zs.map .int)
theorem SY{zs:List Int}:∀a∈zs.map AV.int,∃i,a=.int i:=λa h=>aC (dZ.mp h) λi z r=>cA r<|⟨i,rfl⟩
theorem nV{W W':az->Prop}{ρ ρ':List az}{h h':bk}{zs:List Int}{g:List aw}(x:ft W ρ h g (zs.map .int)):ft W' ρ' h' g (zs.map .int):=(vq SY x).1
theorem ints_set{zs:List Int}{i:Nat}{z:Int}:(zs.set i z).map AV.int=(zs.map AV.int).set i (.int z):=UL
section
variable{h₀:bk}{cfg:dC}{C:fE h₀ cfg}{k:Nat}
variable{A:cP}{E:aw->ao->Prop}{s s' s₀ s₁:ao}{W W0:az->Prop}{ρ:List az}{st:St}{n0:Nat}{K:Ck}{env:fZ}{loc loc':Loc}{av:AV}
structure FnI (T:az) (ps:cZ) (b:List bC) (sc:cQ) (cl:List (bj×az)) (h:bk) (f:az):Prop where
 fn:∃c' ctv doc pm,h.get? f=some {cls:=.type "function",data:=.func (fnX "inner" (rD T) ps b sc cl .none .none doc pm none (.ref c') ctv)}/\h.CodeRec (.ref c') (rD T)
 FR:U2 sc cl h
 ci:∃c,cl.lookup ("inner":bj)=some c/\h.IsCell c (some (.ref f))
variable{T f aD:az}{ps:cZ}{b:List bC}{sc:cQ}{cl:List (bj×az)}{h h':bk}{n:Int}{zs:List Int}
theorem pF{g:List aw}{v:Option aw}(x:cL "list" h aD g)(y:h.IsCell aD v):False:=by refine aI x λm e=>aC y λo e2 c=>?_;rw[e]at e2;injection e2 with F;subst F;injection c
theorem FnI.by(x:FnI T ps b sc cl h f){X:az->Prop}(k:cD X h h')(u:∀p,X p->∃g,cL "list" h p g):FnI T ps b sc cl h' f where
 fn:=by refine oQ x.fn λt r j w J U=>⟨t,r,j,w,k.nt (λq=>?_) J (nO rfl),k.code U⟩;refine ej (u _ q) λg m e=>?_;rw[J]at e;simp at e
 FR:=⟨x.FR.cB,λy c V=>aI (x.FR.cells y c V) λv D=>⟨v,k.cell (λq=>aI (u _ q) λg e=>pF e D) D⟩,x.FR.apart⟩
 ci:=aC x.ci λc J U=>⟨c,J,k.cell (λq=>aI (u _ q) λg e=>pF e U) U⟩
structure Fv (ps:cZ) (b:List bC) (sc:cQ) (cl:List (bj×az)) (n:Int) (aD:az) (h:bk) (f:az):Prop extends FnI PD ps b sc cl h f where
 cn:∃c t,cl.lookup ("n":bj)=some c/\h.IsCell c (some (.int n t))
 ca:∃c,cl.lookup ("a_digits":bj)=some c/\h.IsCell c (some (.ref aD))
theorem Fv.by(x:Fv ps b sc cl n aD h f){X:az->Prop}(k:cD X h h')(u:∀p,X p->∃g,cL "list" h p g):Fv ps b sc cl n aD h' f where
 toFnI:=x.toFnI.by k u
 cn:=eb x.cn λc t J U=>⟨c,t,J,k.cell (λq=>aI (u _ q) λg e=>pF e U) U⟩
 ca:=aC x.ca λc J U=>⟨c,J,k.cell (λq=>aI (u _ q) λg e=>pF e U) U⟩
def wK(aD:az)(s:ao)(zs:List Int):aw->ao->Prop:=λz s'=>By (·=aD) (λz=>False) s s'/\kQ s'.heap aD zs
noncomputable def AP(x y z n:Int):Loc:= [.int x,.int y,.int z]++ [.c,.c,.c,.c,.int n,.ref 0]
theorem QC(V:zY ps b sc=true)(hA:i7 (k+1) A)(O:bO h₀ s.heap)(o:Fv ps b sc cl n aD s.heap f)(M:kQ s.heap aD zs){x y z:Int}{r v tz:nZ}{Q:aw->ao->Prop}(C:fE h₀ cfg)
 (h:∀env D s₁,bZ env (kI sc) 0->EI h₀ WS (aG 9) env (λp=>p=aD\/p=env.locals) [aD] 0 (AP x y z n) [some (zs.map .int)] s₁->i7 k D->gK s s₁->iu s.heap s₁.heap->s.heap.get? env.locals=none->
   env.kindOf "inner"=some .free->env.cells=cl->∀R d,(∀s',Q .none s'->d .next s'/\d (.ret .none) s')->aM (aL C.prog C.w) D (fw b env) d R s₁):
 aM (aL C.prog C.w) A (call (.ref f) [.int x r,.int y v,.int z tz]) Q E s:=by
 refine ew λY=>aN (jS (ba V).1) λG P=>oQ o.fn λt ctv j pm J U=>Y ?_;clear Y;refine Jp G J U rfl hA O λenv s₁ e1 e2 c F B H w Z I hn _ R=>ew λY=>aC M λg X hu2=>eb o.cn λcn tn u n2=>aC o.ca λca a1 a2=>Y ?_;clear Y;have S:=An (h₀:=h₀) (W:=λp=>p=aD) (ρ:= [aD]) (st:= [some (zs.map .int)]) (names:= ["x","L","R"]) (rest:=K9) (acc:=aG 9) (avs:= [.int x,.int y,.int z]) (ras:= [.c,.c,.c,.c,.int n,.ref 0])
  (vs:= [.int x r,.int y v,.int z tz]) G (by decide+kernel) O (λp hp=>ab hp<|aI X λm e=>⟨_,e⟩) (λm l e=>by
    rcases m with _|m
    ·simp at e;subst e;exact⟨aD,g,rfl,X,nV hu2⟩
    ·injection e) (λm l a e1 e2=>by
    rcases m with _|m
    ·simp at e2;exact e2.symm
    ·injection e1) (.cons (.int _ _) (.cons (.int _ _) (.cons (.int _ _) .nil))) rfl o.FR (λi x a Z L N=>by
    match i,Z,L with
    |0,_,L=>simp at L;exact absurd L.symm N
    |1,_,L=>simp at L;exact absurd L.symm N
    |2,_,L=>simp at L;exact absurd L.symm N
    |3,_,L=>simp at L;exact absurd L.symm N
    |4,Z,L=>
     simp[K9]at Z L;subst Z L;exact⟨cn,_,P _ (dQ rfl),u,n2,.int _ _⟩
    |5,Z,L=>
     simp[K9]at Z L;subst Z L;exact⟨ca,_,P _ (by simp),a1,a2,.ref rfl⟩
    |i+6,Z,L=>injection Z)
  e1 e2 c F B H Z I hn
 exact h env _ s₁ S.1 S.2 w Z I (ab H<|cO _) (ab (e2 ..)<|P _ (by simp)) e1 R _ λ_ q=>⟨q,q⟩
end
section
variable{h₀:bk}{cfg:dC}{C:fE h₀ cfg}{k:Nat}
variable{A:cP}{E:aw->ao->Prop}{s s' s₀ s₁:ao}{W W0:az->Prop}{ρ:List az}{st:St}{n0:Nat}{K:Ck}{env:fZ}{loc loc':Loc}{av:AV}
variable{T f aD:az}{ps:cZ}{b:List bC}{sc:cQ}{cl:List (bj×az)}{h h':bk}{n:Int}{zs:List Int}
theorem QH{l:List CE}{xs:List Expr}{avs:List AV}{R H:eO}{o:hC}{fd:xS}{Q:aw->ao->Prop}(X:∀e∈l,bU C k e)(hE:bZ env K n0)(hA:i7 k A)(I:EI h₀ K.tab K.acc env W ρ n0 loc st s)
 (S:iq env s.heap "inner" (.ref f))(D:s.heap.get? f=some o)(B:o.data=.func fd)(M:so cfg st l loc=some avs)(V:fV K 0 l xs=true)(L:xs≠ [])
 (h:∀vs s₁,n0<=s₁.toks->gK s s₁->ft W ρ s₁.heap vs avs->aM (aL C.prog C.w) A (call (.ref f) vs) Q E s₁):
 aM (aL C.prog C.w) A (fe (.Call (.Name "inner" R) xs [] H) env) Q E s:=by
 refine dE (vH hE S (by decide+kernel) ?_ (by decide+kernel));refine kE (o:=o) (fd:=fd) (lB (kc V) L ?_);exact gW l X _ _ _ _ _ _ _ _ _ _ _ _ _ _ hE hA I M V λvs s₁ P y d=>⟨⟨y.keep.nt D (nO B),B⟩,h vs s₁ P y d⟩
theorem OV(hE:bZ env K 0)(G:∀p∈K.names,p.2≠.cell)(x:bj)(Z:K.names.lookup x=some .local\/K.names.lookup x=some .cell):∃ad,mi env x ad/\ad=env.locals:=by
 refine ak Z (λZ=>?_) λZ=>?_
 ·exact⟨env.locals,.inl ⟨by show env.scope.names.lookup x=_;exact ab hE.names<|Z,rfl⟩,rfl⟩
 ·exact absurd rfl (G _ (mem_of_lookup Z))
theorem Et{h₀:bk}{p:az}(O:bO h₀ s.heap)(u:s.heap.get? p=none):h₀.get? p=none:=by
 rcases e:h₀.get? p with _|o
 ·rfl
 ·refine aC (O _ _ e) λR J z=>?_;rw[u]at J;injection J
theorem RQ{K:Ck}{op:cV}{a b:CE}{v:Expr}(h:cz K 0 (.f op a b) v=true):iF v=false:=by refine Ef h λl o r pos o1=>ab o1 ?_;rfl
theorem DY{K:Ck}{m:Nat}{e:CE}{l:List CE}{xs:List Expr}(h:fV K m (e::l) xs=true):xs≠ []:=λq=>by
 rw[q]at h;exact aB h
theorem YK{h:bk}{vs:List aw}{a b:Int}(x:ft W ρ h vs [.int a,.int b]){I:Prop}(N:∀D F,vs= [.int a D,.int b F]->I):I:=x.mo λv L e Q y=>y.mo λH R B V z=>Q.dK λD f=>V.dK λF G=>N D F (ab e (ab B (ab f (ab G (ab z.sH rfl)))))
theorem Zv{h:bk}{vs:List aw}{a b c:Int}(x:ft W ρ h vs [.int a,.int b,.int c]){I:Prop}(N:∀D F G,vs= [.int a D,.int b F,.int c G]->I):I:=x.mo λv L e Q y=>Q.dK λD f=>YK y λF G B=>N D F G (ab e (ab f (ab B rfl)))
theorem QV{xs:List bC}{R:kO->ao->Prop}(h:∀Q:kO->ao->Prop,(∀f s',R f s'->Q f s')->aM (aL C.prog C.w) A (fw xs env) Q E s):aM (aL C.prog C.w) A (fw xs env) R E s:=h R λz z x=>x
structure IX (C:fE h₀ cfg) (k:Nat) (A:cP) (env:fZ) (K:Ck) (W:az->Prop) (ρ:List az) (st:St):Prop where
 H:Hand C k
 hE:bZ env K 0
 hA:i7 k A
 hW:W env.locals
 nc:∀p∈K.names,p.2≠.cell
 ob:h₀.get? env.locals=none
 or:∀(m:Nat) (l:List AV) (p:az),st[m]? =some (some l)->ρ[m]? =some p->¬p=env.locals
variable{Q:kO->ao->Prop}{x:bC}{xs:List bC}
theorem IX.cI(X:IX C k A env K W ρ st)(I:EI h₀ K.tab K.acc env W ρ 0 loc st s){op:cV}{a b:CE}{i:Nat}(V:ka K (.cI (.bX i) (.f op a b)) x=true)(M:ev cfg st (.f op a b) loc=some av)(hi:i<loc.length)
 (h:∀s',EI h₀ K.tab K.acc env W ρ 0 (loc.set i av) st s'->By (·=env.locals) (λz=>False) s s'->aM (aL C.prog C.w) A (fw xs env) Q E s'):aM (aL C.prog C.w) A (fw (x::xs) env) Q E s:=
 cS (aA (VH (own:=(·=env.locals)) (sv X.H _).1 X.hE X.hA I (λz q=>q▸X.hW) (OV X.hE X.nc) (λz q=>q) X.ob X.or M hi V λz=>RQ) (λL s' q=>ab q.1<|h s' q.2.1 q.2.2) λz z e=>e)
theorem CQ(H:Hand C k)(hE:bZ env K 0)(hA:i7 k A)(I:EI h₀ K.tab K.acc env W ρ 0 loc st s){c:CE}{G:List bC->Bool}(Z:VN K c G x=true)(D:xH c=true)(M:ev cfg st c loc=some av)(O:cU st av=some false)
 (h:∀s',EI h₀ K.tab K.acc env W ρ 0 loc st s'->gK s s'->aM (aL C.prog C.w) A (fw xs env) Q E s'):aM (aL C.prog C.w) A (fw (x::xs) env) Q E s:=by
 refine ew λY=>aU Z λF J U=>?_;rcases F with⟨t,b,o⟩;refine CL J λp e=>Y ?_;clear Y;exact ab e<|ab (show o= []from dx.mp (ba U).1)<|cS (YX (aA ((sv H c).2.1 _ _ _ _ _ false _ _ _ _ _ _ _ hE hA I M O D (ba (ba U).2).1) (λr B q=>ab q.1<|kq (h B (I.ext q.2.2 q.2.1) q.2.2)) λz z e=>e))
theorem CR(H:Hand C k)(hE:bZ env K 0)(hA:i7 k A)(I:EI h₀ K.tab K.acc env W ρ 0 loc st s){c:CE}{G:List bC->Bool}(Z:VN K c G x=true)(D:xH c=true)(M:ev cfg st c loc=some av)(O:cU st av=some true)
 (h:∀b s' d,G b=true->EI h₀ K.tab K.acc env W ρ 0 loc st s'->gK s s'->(∀v S,Q (.ret v) S->d (.ret v) S)->(∀S,aM (aL C.prog C.w) A (fw xs env) Q E S->d .next S)->aM (aL C.prog C.w) A (fw b env) d E s'):aM (aL C.prog C.w) A (fw (x::xs) env) Q E s:=by
 refine ew λY=>aU Z λj J U=>?_;rcases j with⟨t,b,o⟩;refine CL J λp e=>Y ?_;clear Y;exact ab e<|cS (YX (aA ((sv H c).2.1 _ _ _ _ _ true _ _ _ _ _ _ _ hE hA I M O D (ba (ba U).2).1) (λr B q=>ab q.1<|h b B _ (ba (ba U).2).2 (I.ext q.2.2 q.2.1) q.2.2 (λz z q=>q) λz q=>q) λz z e=>e))
theorem CP(H:Hand C k)(hE:bZ env K 0)(hA:i7 k A)(I:EI h₀ K.tab K.acc env W ρ 0 loc st s){y c d:CE}{i j m:Int}(F:FnI T ps b sc cl s.heap f)(U:iq env s.heap "inner" (.ref f))(Z:isIn K [y,c,d] x=true)
 (M:so cfg st [y,c,d] loc=some [.int i,.int j,.int m])
 (h:∀O B J s₁,EI h₀ K.tab K.acc env W ρ 0 loc st s₁->gK s s₁->aM (aL C.prog C.w) A (call (.ref f) [.int i O,.int j B,.int m J]) (λz s'=>aM (aL C.prog C.w) A (fw xs env) Q E s') E s₁):aM (aL C.prog C.w) A (fw (x::xs) env) Q E s:=by
 refine ew λY=>SN Z λp q r D e V=>oQ F.fn λt R S w G L=>Y ?_;clear Y;refine ab e<|cS (Ft (QH (UD H _) hE hA I U G rfl M V (DY V) λvs s₁ P y N=>?_) (by delta tU;refine ab hE.kind ?_;rfl) rfl);exact Zv N λO B J e=>ab e<|h O B J s₁ (I.ext y P) y
end
section
variable{h₀:bk}{cfg:dC}{C:fE h₀ cfg}{k:Nat}
variable{A:cP}{E:aw->ao->Prop}{s s' s₀ s₁:ao}{W W0:az->Prop}{ρ:List az}{st:St}{n0:Nat}{K:Ck}{env:fZ}{loc loc':Loc}{av:AV}
variable{T f aD:az}{ps:cZ}{b:List bC}{sc:cQ}{cl:List (bj×az)}{h h':bk}{n:Int}{zs:List Int}
theorem KX{g:List aw}(F:eo env h)(G:cL "list" h aD g){I:Prop}(N:aD≠env.locals->(∀x,(x,aD)∉env.cells)->I):I:=by
 refine aI G λm e=>N (λq=>?_) (λx Z=>?_)
 ·refine oR F.ns λd o es l J U z=>?_;rw[<-q,e]at J;injection J with B;subst B;injection U
 ·refine eb (F.cells x _ Z) λv o J U=>?_;rw[e]at J;injection J with B;subst B;injection U
theorem IX.YD(H:Hand C k)(hE:bZ env (kI sc) 0)(hA:i7 k A)(G:HM ps ["x","L","R"] sc)(O:bO h₀ s.heap)(M:kQ s.heap aD zs)(u:s.heap.get? env.locals=none):IX C k A env (kI sc) (λp=>p=aD\/p=env.locals) [aD] [some (zs.map .int)]:=
 ⟨H,hE,hA,.inr rfl,G.yS,Et O u,λm l p e1 e2 q=>by
  refine aC M λg o1 z=>aI o1 λj e=>?_;rcases m with _|m
  ·have e2:some aD=some p:=e2;injection e2 with F;subst F;simp only[q,u]at e;injection e
  ·injection e1⟩
theorem QL{q:Nat}{i:Int}(h:loc[q]? =some (.int i)):ev cfg st (.a q) loc=some (.int i):=by show(match loc[q]? with|none=>none|some .c=>none|some v=>some v)=_;exact ab h rfl
theorem Vu{q:Nat}{i:Nat}(h:loc[q]? =some (.ref i)):ev cfg st (.a q) loc=some (.ref i):=by show(match loc[q]? with|none=>none|some .c=>none|some v=>some v)=_;exact ab h rfl
theorem G1(X:IX C k A env K W [aD] [some (zs.map .int)])(I:EI h₀ K.tab K.acc env W [aD] 0 loc [some (zs.map .int)] s){i j m:Nat}{x y:Int}{d:bC}{xs:List bC}{Q:kO->ao->Prop}(V:ka K (.K (.a i) (.a j) (.a m)) d=true)
 (J:loc[m]? =some (.int x))(U:loc[i]? =some (.ref 0))(S:loc[j]? =some (.int y))(hy:0<=y)(hyl:y<zs.length)(g:zs.length<=10000)
 (h:∀s',wK aD s (zs.set y.toNat x) .none s'->aM (aL C.prog C.w) A (fw xs env) Q E s'):aM (aL C.prog C.w) A (fw (d::xs) env) Q E s:=by
 refine vz V λy' P q' v' L e a=>?_;have c4:=ba (ba a).1;have c3:=ba c4.1;have c:=ba c3.1;refine ab e<|cS (M8 (cu ((sv X.H (.a m)).1 _ _ _ _ (.int x) _ _ _ _ _ _ _ X.hE X.hA I (QL J) c4.2) λu s₃ Z=>?_) (vQ (t:=some _) rfl (by simpa using(ba a).2)));have l:=I.step Z;refine cu ((sv X.H (.a i)).1 _ _ _ _ (.ref 0) _ _ _ _ _ _ _ X.hE X.hA l (Vu U) c.1) λv s₄ G=>?_;refine cu ((sv X.H (.a j)).1 _ _ _ _ (.int y) _ _ _ _ _ _ _ X.hE X.hA (l.step G) (QL S) c.2) λD H R=>?_;have I5:=(l.step G).step R;refine ew λY=>?_;refine cX (I5.store 0 _ rfl) λad us g1 r g3=>aI r λq w=>?_;injection g1 with F;subst F;refine Y ?_;clear Y;have M:v=.ref aD:=by
  have:=G.2.2;rcases this with _|_|_|_|_|_|hρ
  ·injection hρ with F;subst F;rfl
 refine R.2.2.dK λO hi=>?_;refine ab M<|ab hi<|ki_setAt w hy (by lia) (by simp;exact lt_of_lt_of_eq hyl (congrArg Nat.cast (id (dN (ab g3.length (ab (aY ..) rfl)))))) (h _ ⟨(By.jQ ((Z.2.1.trans G.2.1).trans R.2.1)).trans (.of (tk:=H.toks) (λp o B e=>(fN ..).extBut p o B e) λp o B e=>?_),us.set y.toNat u,⟨q,by simpa using wu w (·.setIfInBounds y.toNat u)⟩,?_⟩)
 ·have B:p=aD:=B;simp only[B,w]at e;injection e with F;subst F;exact yP rfl
 ·exact ab ints_set<|Z.2.2.dK λtu N=>ab N<|ft.set (nV g3) (.int _ _)
theorem FnI.inner(x:FnI T ps b sc cl h f)(I:env.kindOf "inner"=some .free)(V:env.cells=cl):iq env h "inner" (.ref f):=aC x.ci λc J U=>.inr ⟨.inr I,c,ab V<|J,U⟩
theorem Kp(H:Hand C k)(V:zY ps b sc=true)(hA:i7 (k+1) A)(O:bO h₀ s.heap)(o:Fv ps b sc cl n aD s.heap f)(M:kQ s.heap aD zs){x y:Int}{r v Q:nZ}(F:0<=y)(G:y<zs.length)(g:zs.length<=10000):
 aM (aL C.prog C.w) A (call (.ref f) [.int x r,.int y v,.int (y+1) Q]) (wK aD s (zs.set y.toNat x)) E s:=by
 refine QC V hA O o M C λenv l s₁ hE I w Z m u z z R d N=>aU (ba V).2 λq J B=>ab (QX J) ?_;have X:=IX.YD H hE w (jS (ba V).1).1 O M u;exact CR X.H X.hE X.hA I (ba B).1 rfl (av:=.bool true) (by simp[QB,(id fD),AP,(id cw),binI,(id cb),(id jJ)]) rfl λb L c D S i Y z=>aU D λa U D=>ab (my U)<|G1 X S (ba D).1 rfl rfl rfl F G g λj P=>SV (ba D).2 λp e=>ab e<|cS (wpAny_Return_none (Y _ _ (N _ ⟨(By.jQ (Z.trans i)).trans P.1,P.2⟩).2))
theorem EI.Ts{tab:List bj}{acc:List Nat}(I:EI h₀ tab acc env W ρ 0 loc st s)(y:By (·=aD) (λz=>False) s s'){g O:List aw}(G:cL "list" s.heap aD g)(F:cL "list" s'.heap aD O)(R:h₀.get? aD=none)(hW:W aD):
 EI h₀ tab acc env W ρ 0 loc [] s':=by
 refine KX I.frame G λu n2=>⟨cD.after I.base y.keep λp o e q=>?_,λp B=>?_,bz _,λi hi x Z a L N=>?_,λn l e=>by injection e,I.frame.by λp o B e Q=>y.keep.nt (λq=>?_) e Q,λn l a e=>by injection e⟩
 ·have q:p=aD:=q;rw[q,R]at e;injection e
 ·by_cases q:p=aD
  ·rw[q];exact aI F λm e=>⟨_,e⟩
  ·exact aI (I.live p B) λo M=>aC (y.keep p o (.inl q) M) λP J z=>⟨P,J⟩
 ·refine aC (I.vars i hi x Z a L N) λv J U=>⟨v,?_,U.move (λz q=>.inl q) (y7 y.keep λp (q:p=aD)=>q▸hW) λz z e=>e⟩;rcases J with⟨D,m,j,t⟩|⟨D,c,j,t⟩
  ·exact .inl ⟨D,m,y.keep.ns (λq=>u (dN q)) j,t⟩
  ·exact .inr ⟨D,c,j,y.keep.cell (λ(q:c=aD)=>n2 x (q▸mem_of_lookup j)) t⟩
 ·have q:p=aD:=q;refine ak B (λB=>?_) λH=>aI H λx Z=>?_
  ·exact u (q▸B)
  ·exact n2 x (q▸Z)
theorem ints2{zs:List Int}(h:zs.length=2)(x y:Int):(zs.set 0 x).set 1 y= [x,y]:=OE h λa b e=>by subst e;rfl
theorem Fv.ext(x:Fv ps b sc cl n aD h f)(k:bO h h'):Fv ps b sc cl n aD h' f:=x.by (X:=λz=>False) (cD.ext k) λp q=>q.elim
theorem Fv.post{v:aw}(x:Fv ps b sc cl n aD s.heap f)(M:kQ s.heap aD zs){B:List Int}(P:wK aD s B v s'):Fv ps b sc cl n aD s'.heap f:=x.by P.1.keep λp (q:p=aD)=>aC M λg J z=>⟨g,q▸J⟩
theorem kQ.keep{zs:List Int}(x:kQ h aD zs)(k:bO h h'):kQ h' aD zs:=aC x λg J U=>⟨g,k.seq J,nV U⟩
theorem Ts(I:EI h₀ K.tab K.acc env W ρ 0 loc st s){v:aw}{B:List Int}(M:kQ s.heap aD zs)(P:wK aD s B v s')(R:h₀.get? aD=none)(hW:W aD):EI h₀ K.tab K.acc env W ρ 0 loc [] s':=aC M λD V z=>aC P.2 λF Z z=>I.Ts P.1 V Z R hW
theorem Wi(H:∀k,Hand C k)(V:zY ps b sc=true)(hA:i7 (k+2) A)(O:bO h₀ s.heap)(o:Fv ps b sc cl n aD s.heap f)(M:kQ s.heap aD zs)(R:h₀.get? aD=none)(U:zs.length=2){a:Int}{r v tz:nZ}(L:0<=a)(Q:0<n)(hn2:n<=100000)
 (P:(ag a:Int)<=2*n):aM (aL C.prog C.w) A (call (.ref f) [.int a r,.int 0 v,.int 2 tz]) (wK aD s [a.fmod (2^n.toNat),a.fdiv (2^n.toNat)]) E s:=by
 have G:n.natAbs<2^63:=by lia
 have J:(ag (a.fdiv (2^n.toNat)):Int)+n<=134217728:=by have:=Yd (x:=a) (y:=2^n.toNat) (m:=(2*n).toNat) (by lia);lia
 have D:=aF Q;have hfin:=ints2 U (a.fmod (2^n.toNat)) (a.fdiv (2^n.toNat));refine QC V hA O o M C λenv A' s₁ hE I w Z hk u S N E' Q' hQ=>aU (ba V).2 λq h1 B=>ab (QX h1) ?_;have X:=IX.YD (H (k+1)) hE w (jS (ba V).1).1 O M u;have B1:=ba (ba B).2;have B3:=ba (ba B1.2).2;have B5:=ba (ba B3.2).2;refine CQ X.H X.hE X.hA I (ba B).1 rfl (av:=.bool false) (by rfl) rfl λs₂ I2 e₂=>X.cI I2 B1.1 (av:=.int 1) (by rfl) (place_lt rfl) λs₃ l y3=>X.cI l (ba B1.2).1 (av:=.int n) (by simp[(id fD),AP,(id cw),binI,G]) (by simp[AP]) λF I4' y4=>X.cI I4' B3.1 (av:=.int (a.fdiv (2^n.toNat))) (by simp[(id fD),AP,(id cw),binI,D]) (by simp[AP]) λs₅ g y5=>X.cI g (ba B3.2).1 (av:=.int (a.fmod (2^n.toNat))) (by simp[(id fD),AP,(id cw),binI,D,J,P1 L]) (by simp[AP]) λt I6 y6=>?_;have X6:gK s t:=gK.RS (Z.trans e₂) (((y3.trans y4).trans y5).trans y6) λp q=>ab q<|u;have F6:=o.ext X6.keep;refine CP X.H X.hE X.hA I6 F6.toFnI (F6.inner S N) B5.1 (i:=a.fmod (2^n.toNat)) (j:=0) (m:=1) (by rfl) λt1 t2 t3 s₇ I7 Y=>?_;have F7:=F6.ext Y.keep;have Z7:=(M.keep X6.keep).keep Y.keep;refine aA (Kp (y:=0) (H k) V w I7.base F7 Z7 (MA 0) (by lia) (by lia)) (λz s₈ P8=>?_) λz z e=>e;refine CP X.H X.hE X.hA (Ts I7 Z7 P8 R (.inl rfl)) (F7.post Z7 P8).toFnI ((F7.post Z7 P8).inner S N) B5.2 (i:=a.fdiv (2^n.toNat)) (j:=1) (m:=2) (by rfl) λt1 t2 t3 s₉ I9 d=>aA (Kp (y:=1) (H k) V w I9.base ((F7.post Z7 P8).ext d.keep) (P8.2.keep d.keep) (Rr) (by simp;lia) (by simp;lia)) (λz c P10=>?_) λz z e=>e;exact kq (hQ _ ⟨(((By.jQ (X6.trans Y)).trans P8.1).trans (By.jQ d)).trans P10.1,hfin▸P10.2⟩).1
noncomputable def Q3(ps:cZ):Bool:=ps.args.all λa=>a.annotation.isNone
theorem CW{env:fZ}:∀{l:List Arg},(l.all λa=>a.annotation.isNone)=true->annotationsOf l env= []:=by
 intro l h
 induction l with
 |nil=>rfl
 |cons q r R=>
  rcases q with⟨x,a,p⟩;rcases a with _|a
  ·exact R (ba h).2
  ·exact(aB h).elim
theorem KN{ps:cZ}{names:List bj}{sc:cQ}{env:fZ}(G:HM ps names sc)(h:Q3 ps=true):YR ps none env= []:=by
 obtain⟨H,a,Y,L,F,B,N⟩:=ps;have J:H= []:=G.c7;have U:Y=none:=G.c8;have S:L= []:=G.c9;have d:B=none:=G.RU;clear G;subst J U S d;delta YR;have e:evalOpt none env=none:=by rfl
 simp[e,CW (env:=env) h]
def RJ(C:fE h₀ cfg)(f:Nat)(P:az):Prop:=∀d a o fd,nG f=some d->C.mg d.name=some (.ref a)->h₀.get? a=some o->o.data=.func fd->∃c,fd.code=.ref c/\HO h₀ c P/\h₀.get? P=some (sf #[])
noncomputable def vI(N:List (bj×dz))(ps:cZ)(sc:cQ)(pos:eO)(D:Nat):Bool:=
 Q3 ps&&pos.line==D&&pos.col==4&&(sc.names.all λp=>p.2 !=.free||N.lookup p.1==some .cell)&&N.lookup ("inner":bj)==some .cell
theorem Ab{L:List bj}(G:HM ps L sc)(N:∀n,(n,dq)∈sc.names->∃c,env.cells.lookup n=some c){x:bj}(Z:sc.names.lookup x=some .free){c:az}(V:env.cells.lookup x=some c):(n8 env sc.names []).lookup x=some c:=by
 refine aI (yo (env:=env) (acc:= []) (.inl (mem_of_lookup Z))) λt R=>aI (hK R) λJ D=>ak (uf N (mem_of_lookup D)) (λh=>?_) λH=>aN H λz h=>?_
 ·rcases h with⟨⟩
 ·rw[V]at h;injection h with F;exact ab F<|D
theorem OL{names:List bj}{pos:eO}{c P:az}(R:Rp h₀ K env n0 W0 s₀ loc st W ρ s)(hE:bZ env K n0)(G:HM ps names sc)(hi:sc.names.lookup ("inner":bj)=some .free)(Q:vI K.names ps sc pos (Gu P)=true)
 (p:env.code=.ref c)(a:HO h₀ c P)(m:h₀.get? P=some (sf #[]))(o:Tb P)(D:env.qual++"inner"=rD P)(B:Bm C)(l:∀(i:Nat) (x:bj),K.tab[i]? =some x->x≠("inner":bj)):
 aM (aL C.prog C.w) A (se (.FunctionDef "inner" ps b [] none [] sc none "inner" pos) env) (λL s'=>L=.next/\∃f,Rp h₀ K env n0 W0 s₀ loc st W ρ s'/\iq env s'.heap "inner" (.ref f)/\FnI P ps b sc (n8 env sc.names []) s'.heap f) E s:=by
 delta vI at Q;simp only[au,beq_iff_eq,aq,fy,bne_iff_ne,ne_eq]at Q;refine aN Q λo1 S=>aN o1 λH y=>aN H λg M=>aN g λu n2=>?_;have I:env.kindOf "inner"=some .cell:=by show env.scope.names.lookup _=_;exact ab hE.names<|S
 refine aI (hE.cB "inner" (.inl I)) λci O=>?_;have N:∀n,(n,dq)∈sc.names->∃c,env.cells.lookup n=some c:=λx Z=>by
  refine hE.cB x (.inl ?_);show env.scope.names.lookup _=_;exact ab hE.names<|(y _ Z).resolve_left λq=>q rfl
 refine aA (KJ (ad:=ci) R hE G.d0 G.k0 (KN G u) p a m o n2 M ?_ B N (.inr ⟨I,O⟩) (.inr ⟨_,mem_of_lookup O⟩) l) (λL s' q=>?_) λz z e=>e
 ·delta qualnameIn;exact ab I<|D
 ·refine ew λY=>?_;obtain⟨rfl,f,t,r,j,w,d,S',hh,_,v,X⟩:=q;refine Y ?_;clear Y;refine⟨rfl,f,d,hh,⟨t,r,j,w,v,X⟩,⟨λx Z=>?_,λx c Z=>?_,?_⟩,?_⟩
  ·exact aI (yo (env:=env) (acc:= []) (.inl (mem_of_lookup Z))) λc V=>hK V
  ·refine ak (uf N Z) (λh=>?_) λH=>aN H λz h=>?_
   ·rcases h with⟨⟩
   ·exact d.ei.frame.cells x c (mem_of_lookup h)
  ·exact wU R.ei.frame.apart N G.Ze tI λn c h=>nomatch h
  ·refine⟨ci,Ab G N hi O,?_⟩;rcases hh with⟨J,_⟩|⟨_,c,J,U⟩
   ·rw[I]at J;injection J with F;injection F
   ·rw[O]at J;injection J with F;exact ab F<|U
theorem NA{names:List bj}(R:Rp h₀ K env n0 W0 s₀ loc st W ρ s)(hE:bZ env K n0)(G:HM ps names sc){pos:eO}{D:Nat}(Q:vI K.names ps sc pos D=true){i:Nat}{x:bj}{a:AV}(Z:K.tab[i]? =some x)(hi:i∈K.acc)(L:loc[i]? =some a)(V:a≠.c)
 (P:sc.names.lookup x=some .free):∃c v,(n8 env sc.names []).lookup x=some c/\s.heap.IsCell c (some v)/\VR W ρ s.heap v a:=by
 delta vI at Q;simp only[au,beq_iff_eq,aq,fy,bne_iff_ne,ne_eq]at Q;refine ew λY=>aN Q λr S=>aN r λH B=>aN H λX M=>aN X λu n2=>?_;have N:∀n,(n,dq)∈sc.names->∃c,env.cells.lookup n=some c:=λx Z=>by
  refine hE.cB x (.inl ?_);show env.scope.names.lookup _=_;exact ab hE.names<|(B _ Z).resolve_left λq=>q rfl
 have I:env.kindOf x=some .cell:=by show env.scope.names.lookup _=_;exact ab hE.names<|(B _ (mem_of_lookup P)).resolve_left λq=>q rfl
 refine aC (R.ei.vars i hi x Z a L V) λv J U=>Y ?_;clear Y;rcases J with⟨g,_⟩|⟨_,c,O,j⟩
 ·rw[I]at g;injection g with F;injection F
 ·exact⟨c,v,Ab G N P O,j,U⟩
theorem Kv{l:az}{vs:List aw}{x:Int}{u:nZ}{Q:aw->ao->Prop}(X:cL "list" s.heap l vs)(Y:0<=x)(Z:x<2^20)(g:vs.length<=16)
 (h:Q (.ref s.heap.objs.size) {s with heap:=s.heap.push {cls:=.type "list",data:=.seq (bw x.toNat vs).flatten.toArray 0}}):aM (aL C.prog C.w) A (xW .Mult (.ref l) (.int x u)) Q E s:=by
 refine aI X λk M=>?_;clear X;have B:vs.toArray.size*x.toNat<=2^24:=by have:vs.toArray.size<=16:=g;exact aP (Nat.mul_le_mul this (show x.toNat<=2^20 by lia)) (by decide)
 refine wpAny_binaryOp_repeat_ref (T:="list") (U:="int") (by rfl) ⟨_,M,rfl⟩ (λs'=>UT s' x u) noFill_list_mul F.fills_int_mul F.slot_int_rmul repeat_list F.slot_int_index.lookup
  (call_meets F.slot_int_rmul (UT s x u) F.entry_int_rmul (F.args_int_rmul_2 _ _) (lm_int_rmul_list_any x u l vs.toArray k none #[])
    ⟨M,rfl,⟨_,M,rfl⟩,call_meets F.slot_list_mul ⟨_,M,rfl⟩ F.entry_list_mul (F.args_list_mul_2 _ _)
     (lm_list_mul_any l vs.toArray k none #[] x u (by simp[Builtin.List.listFitsIndex];lia) (by lia) (by simp[Builtin.List.listTooLong,mJ];omega))
     ⟨M,?_⟩⟩)
 exact ab (listMul_foldl_if ..)<|h
end
noncomputable def Kg(K:Ck)(i:Nat)(b:CE)(x:bC):Bool:=bD (lZ x) λq=>bD (l1 q.1) λg=>bD (rQ q.2.1) λo=>bD (Mq o.1) λl=>o.2.1==.Mult&&(fg K (.bX i) g&&(fV K 0 [.d 0] l.1&&cz K 0 b o.2.2.1))
theorem Ot{K:Ck}{i:Nat}{b:CE}{x:bC}(h:Kg K i b x=true){I:Prop}(N:∀g xs e R H Y,x=.Assign [g] (.BinOp (.List xs R) .Mult e H) Y->fg K (.bX i) g=true->fV K 0 [.d 0] xs=true->cz K 0 b e=true->I):I:=by refine aU h λq J h=>aU h λg U h=>aU h λo S h=>aU h λl d h=>?_;have O:=ba h;exact N _ _ _ _ _ _ (bp (jw J) (ab (gL U) (ab (nX S) (ab (BA d) (ab (eq_of_beq O.1) rfl))))) (ba O.2).1 ((ba (ba O.2).2).1) ((ba (ba O.2).2).2)
noncomputable def CN(names:List (bj×dz))(T:az)(F:cZ->List bC->cQ->Bool)(x:bC):Bool:=bD (Vb x) λq=>vI names q.1 q.2.2.1 q.2.2.2 (Gu T)&&F q.1 q.2.1 q.2.2.1
noncomputable def XO(K:Ck)(l:List CE)(b:List bC):Bool:=bD (l1 b) (isIn K l)
noncomputable def Yw:FD:=⟨3,2,[]⟩
noncomputable def Ri:List (List Nat):= [[97],[110],[97,95,100,105,103,105,116,115]]
noncomputable def S9(d:iL):Ck:=⟨d.scope.names,Ri.map strOf,aG 3,0⟩
noncomputable def eD:CE:=.f .FloorDiv (.f .Sub (.f .Add (.qj (.a 0)) (.a 1)) (.d 1)) (.a 1)
noncomputable def B4(d:iL)(i B C A:bC):Bool:=
 Kg (S9 d) 2 eD i&&(CN d.scope.names PD zY B&&(VN (S9 d) (.a 0) (XO (S9 d) [.a 0,.d 0,.len (.a 2)]) C&&IW (S9 d) (.a 2) A))
noncomputable def Vm(d:iL):Bool:=
 (d.name=="_int2digits"&&(d.params.args.map (·.arg)==(Ri.take 2).map strOf))&&(TY Yw Ri d&&bD (l4 d.body) λq=>B4 d q.1 q.2.1 q.2.2.1 q.2.2.2)
theorem DW:(match nG 4 with|some d=>Vm d|none=>false)=true:=by decide+kernel
theorem Pz:∀(i:Nat) (x:bj),(Ri.map strOf)[i]? =some x->x≠("inner":bj):=by
 have h:∀x∈Ri.map strOf,x≠("inner":bj):=by decide+kernel
 exactλi x e=>h x (aW e)
theorem Cs{x n q:Int}(Q:0<n)(J:q*n<=x)(U:x< (q+1)*n):x/n=q:=
 lI (Int.le_of_lt_add_one (cR Q U)) (DA Q J)
set_option tactic.hygienic true in
theorem N5{a n:Int}{l:List AV}(h:MM a n=some l):0<=a/\0<n/\n<=100000/\∃zs:List Int,l=zs.map AV.int/\(((ag a:Int)+n-1).fdiv n)=(zs.length:Int)/\
 ((a=0/\zs= [])\/(a≠0/\zs= [a])\/(a≠0/\zs= [a.fmod (2^n.toNat),a.fdiv (2^n.toNat)]/\(ag a:Int)<=2*n)):=by
 delta MM at h;split at h
 ·injection h
 ·rename_i Y;have L:0<=a:=by lia
  have Q:0<n:=by lia
  refine⟨L,Q,by lia,?_⟩;refine ab (bN _ (aF Q)) ?_;have pos:a≠0->0<ag a:=λM=>by
   delta ag;have:(a==0)=false:=beq_int_false M;exact ab this<|Nat.succ_pos _
  split at h
  ·rename_i M;injection h with F;subst F;refine⟨[],rfl,?_,.inl ⟨M,rfl⟩⟩;subst M;refine Cs Q ?_ ?_
   ·simp[ag];exact iU Q
   ·simp[ag];exact Int.sub_lt_self n L
  ·rename_i M;have B:=pos M;clear pos;split at h
   ·rename_i O;injection h with F;subst F;refine⟨[a],rfl,?_,.inr (.inl ⟨M,rfl⟩)⟩;refine Cs Q ?_ ?_
    ·simp only[pM];lia
    ·simp only[pM];lia
   ·rename_i O;split at h
    ·rename_i j;injection h with F;subst F;refine⟨[a.fmod (2^n.toNat),a.fdiv (2^n.toNat)],rfl,?_,.inr (.inr ⟨M,rfl,j⟩)⟩;refine Cs Q ?_ ?_
     ·simp only[bu,gk];lia
     ·simp only[bu,gk];lia
    ·injection h
section
variable{h₀:bk}{cfg:dC}{C:fE h₀ cfg}{k:Nat}
variable{A:cP}{E:aw->ao->Prop}{s s' s₀ s₁:ao}{W W0:az->Prop}{ρ:List az}{st:St}{n0:Nat}{K:Ck}{env:fZ}{loc loc':Loc}{av:AV}
theorem K7{x:bC}{xs:List bC}{b:CE}{m:Int}{l2:Loc}{Q:kO->ao->Prop}(H:Hand C k)(hE:bZ env K n0)(hA:i7 k A)(R:Rp h₀ K env n0 W0 s₀ loc st W ρ s)(hx:Kg K 2 b x=true)
 (M:ev cfg st b loc=some (.int m))(h0:0<=m)(hm:m<2^20)(O:cT loc (.bX 2) (.ref st.length)=some l2)
 (h:∀D s',Rp h₀ K env n0 W0 s₀ l2 (st++ [some ((bw m.toNat 0).map AV.int)]) (λp=>(W p\/p∈ [D])\/False) (ρ++ [D]) s'->aM (aL C.prog C.w) A (fw xs env) Q E s'):
 aM (aL C.prog C.w) A (fw (x::xs) env) Q E s:=by
 refine ew λY=>Ot hx λg ys e p1 p2 p3 Z c r o=>eb (ij c) λxn xp o1 z=>?_;subst o1;refine Y ?_;clear Y;refine ab Z<|cS<|gG (.inl ⟨_,_,rfl,rfl⟩) (BL ?_);refine aA (qy (es:= [.d 0]) (l:= [.int 0]) (UD H _) hE hA R.ei rfl (by show(decide (1<=1000)&&fV K 0 [.d 0] ys)=true;refine bp r ?_;rfl)) (λv s₁ q=>?_) λz z e=>e;refine ew λY=>?_;obtain⟨P,y,a,vs,rfl,L,G,n⟩:=q;refine Y ?_;clear Y;refine cu ((sv H b).1 _ _ _ _ _ _ _ _ _ _ _ _ hE hA (R.step y P).ei M o) λu T B=>?_;have V:=(R.step y P).step B.2.1 B.1;refine B.2.2.dK λtu N=>ab N ?_;have hvl:vs.length=1:=n.length;refine Kv (B.2.1.keep.seq G) h0 hm (by lia) ?_;have w:gK T {T with heap:=T.heap.push {cls:=.type "list",data:=.seq (bw m.toNat vs).flatten.toArray 0}}:=.of (s:=T) (tk:=T.toks) (bO.push _ _);refine V.KL w B.1 (as:= [T.heap.objs.size]) (ls:= [(bw m.toNat 0).map AV.int]) rfl (by simp) (by simpa using cO _) (X:=λz=>False) (λp h=>h.elim) (λj I l' J U=>by
  rcases j with _|j
  ·simp only[bo,bL]at J U;subst J U;refine⟨_,⟨0,bV _ rfl⟩,?_⟩;have S:∀j:Nat,ft (λz=>False) [] s.heap (bw j vs).flatten ((bw j (0:Int)).map AV.int):=by
    intro j
    induction j with
    |zero=>exact .nil
    |succ j ih=>
     have:ft (λz=>False) [] s.heap vs [AV.int 0]:=nV (zs:= [0]) n;exact ft.append (l:= [AV.int 0]) this ih
   exact nV (S _)
  ·injection J) λd z z=>?_
 exact fm (t:=.bX 2) (av:=.ref st.length) hA.hh hE d c O (.ref (by refine bp (bG (ab V.len<|aV _)) (ab V.len ?_);simp)) λF i f=>h _ F i
theorem G7{args:List AV}{av:AV}{P:Prop}(h:xw args=some av)(k:∀a n l,args= [.int a,.int n]->MM a n=some l->av=.lst l->P):P:=
 dn h λq J h=>dn h λa U h=>dn h λn S h=>bW h λl d e=>k a n l (bp (my J) (ab (iE U) (ab (iE S) rfl))) d e.symm
theorem VD{D:az}{zs B:List Int}{x:bC}{xs:List bC}{a n:Int}{d:iL}{Q:kO->ao->Prop}(hE:bZ env (S9 d) 0)(R:Rp h₀ (S9 d) env 0 W0 s₀ [.int a,.int n,.ref 0] [some (zs.map .int)] W [D] s)(Z:IW (S9 d) (.a 2) x=true)(y:By (·=D) (λz=>False) s s')(M:kQ s'.heap D B)
 (N:∀v S,e9 W0 ρ s₀ (.lst (B.map .int)) v S->Q (.ret v) S):aM (aL C.prog C.w) A (fw (x::xs) env) Q E s':=by
 refine yH Z λv p e Z=>ab e<|cS (lk (aA ?_ N λz z e=>e));clear e;refine ew λY=>?_;refine qA Z λnm pos o1=>?_;subst o1;have o:=ba (ba Z).1;have H:=ba o.1;refine aC (R.ei.vars 2 (show 2∈aG 3 by decide) nm (eq_of_beq H.2) (.ref 0) rfl (λq=>nomatch q)) λv J U=>cX (R.ei.store 0 _ rfl) λG g f j t=>?_;injection f with F;subst F;have I:v=.ref D:=by
  rcases U with _|_|_|_|_|_|X
  ·injection X with F;subst F;rfl
 rw[I]at J;refine KX R.ei.frame j λL n2=>?_;refine Y ?_;clear Y;have u:s₀.heap.get? D=none:=R.new D (.inr ⟨0,_,rfl,rfl⟩);have hh:iq env s'.heap nm (.ref D):=by
  rcases J with⟨f,m,j,t⟩|⟨f,c,j,t⟩
  ·exact .inl ⟨f,m,y.keep.ns (λq=>L (dN q)) j,t⟩
  ·exact .inr ⟨f,c,j,y.keep.cell (λ(q:c=D)=>n2 nm (q▸mem_of_lookup j)) t⟩
 exact aC M λO i r=>vH hE hh (by simpa using o.2) ⟨gK.RS R.ext y λp (q:p=D)=>q▸u,.lst (R.l0.fresh u) i (nV r)⟩ (by simpa using(ba Z).2)
theorem xh{P c:az}{F:cZ->List bC->cQ->Bool}{x:bC}{xs:List bC}{Q:kO->ao->Prop}(R:Rp h₀ K env n0 W0 s₀ loc st W ρ s)(hE:bZ env K n0)(Z:CN K.names P F x=true)(N:∀ps b u,F ps b u=true->∃names,HM ps names u/\u.names.lookup ("inner":bj)=some .free)
 (p:env.code=.ref c)(I:HO h₀ c P)(m:h₀.get? P=some (sf #[]))(O:Tb P)(D:env.qual++"inner"=rD P)(B:Bm C)(l:∀(i:Nat) (x:bj),K.tab[i]? =some x->x≠("inner":bj))
 (h:∀f ps b u s',F ps b u=true->Rp h₀ K env n0 W0 s₀ loc st W ρ s'->iq env s'.heap "inner" (.ref f)->FnI P ps b u (n8 env u.names []) s'.heap f->
   (∀(i:Nat) (x:bj) (a:AV),K.tab[i]? =some x->i∈K.acc->loc[i]? =some a->a≠.c->u.names.lookup x=some .free->∃c v,(n8 env u.names []).lookup x=some c/\s'.heap.IsCell c (some v)/\VR W ρ s'.heap v a)->aM (aL C.prog C.w) A (fw xs env) Q E s'):
 aM (aL C.prog C.w) A (fw (x::xs) env) Q E s:=by
 refine aU Z λq J U=>aC (N _ _ _ (ba U).2) λnames G hi=>ab (SS J)<|cS (aA (OL R hE G hi (ba U).1 p I m O D B l) (λL s' r=>?_) λz z e=>e);refine ew λY=>?_;obtain⟨e,f,T,hh,H⟩:=r;refine Y ?_;clear Y;exact ab e<|h f _ _ _ s' (ba U).2 T hh H λi x a M j t g4 g5=>NA T hE G (ba U).1 M j t g4 g5
theorem Nx(ps:cZ)(b:List bC)(u:cQ)(h:zY ps b u=true):∃names,HM ps names u/\u.names.lookup ("inner":bj)=some .free:=⟨_,(jS (ba h).1).1,(jS (ba h).1).2 _ (dQ rfl)⟩
theorem Nj(H:∀k,Hand C k)(hT:RJ C 4 PD)(hBm:Bm C)(hk:3<=k):xZ C k 4 xw:=by
 intro d a u L hf A s W ρ vs args av E hA O hL hv hn hspec;refine ew λY=>?_;obtain⟨k,rfl⟩:∃k',k=k'+3:=⟨k-3,by omega+splitDisjunctions⟩;refine Y ?_;clear Y;refine G7 hspec λx n l e1 hi e2=>?_;clear hspec;refine ew λY=>?_;subst e1 e2;obtain⟨hx0,hn0,hn1,B,rfl,hlen,J⟩:=N5 hi;refine Y ?_;clear Y;have hck:=DW;rw[u]at hck;have ck:=ba hck;refine aU (ba ck.2).2 λq hbody hB=>oR hf.ex λo pm cd doc ho hdd hcd=>gB (hT d a o _ u L ho hdd) λc V hCd hP=>?_;have hnm:=eq_of_beq (ba ck.1).1;have hlz2:B.length<=2:=by
  (refine ak J (λu1=>aN u1 λz g=>?_) λT=>ak T (λI=>aN I λz u5=>?_) λu6=>eY u6 λz u7 z=>?_;rw[g];rotate_left;rw[u5];rotate_left;rw[u7];rotate_right 2)<;>exact cj.mp rfl
 have evD:ev cfg [] eD [.int x,.int n,.c]=some (.int B.length):=by
  have:¬(n=0\/9000<=n.natAbs.log2):=by have h1:n.natAbs.log2<17:=(i0 (by omega+splitDisjunctions)).mpr (by omega+splitDisjunctions);omega+splitDisjunctions
  simp only[eD,(id fD),lC,aj,bo,bE,af,(id cw),binI,aK,if_neg this,hlen]
 refine ug (f:=Yw) (t:=Ri) rfl (eq_of_beq (ba ck.1).2) (ba ck.2).1 ho hdd hcd hA O hL hv hn rfl C λenv W₁ s₁ p hqual hE w R E'=>ab (AN hbody)<|QV λQ hQ=>?_;clear hv;clear hn;generalize A.deeper env=A' at w⊢;have b2:=ba (ba hB).2;refine K7 (m:=B.length) (l2:= [.int x,.int n,.ref 0]) (H (k+3)) hE w R (ba hB).1 evD (by omega+splitDisjunctions) (by omega+splitDisjunctions) rfl λD s₂ G=>xh G hE b2.1 Nx (p.trans V) hCd hP (.inl rfl) (by refine ab hqual (ab hnm ?_);decide+kernel) hBm Pz λf ps b sc X b5 U S FI N=>?_;clear G;clear evD;refine aN (jS (ba b5).1) λhs5 hf5=>cX (N 1 "n" (.int n) (show(Ri.map strOf)[1]? =some ("n":bj)by decide+kernel) (show 1∈aG 3 by decide) rfl (λq=>nomatch q) (hf5 _ (by simp))) λcn vn n1 n2 n3=>cX (N 2 "a_digits" (.ref 0) (show(Ri.map strOf)[2]? =some ("a_digits":bj)by decide+kernel) (show 2∈aG 3 by decide) rfl (λq=>nomatch q) (hf5 _ (by simp))) λca va a1 a2 a3=>n3.dK λtn o2=>?_;subst o2;clear N;have hva:va=.ref D:=by
  rcases a3 with _|_|_|_|_|_|hρ
  ·injection hρ with e_;subst e_;rfl
 rw[hva]at a2;have I4:Fv ps b sc (n8 env sc.names []) n D X.heap f:={toFnI:=FI,cn:=⟨cn,tn,n1,n2⟩,ca:=⟨ca,a1,a2⟩};have hD:h₀.get? D=none:=U.mX (U.new D (.inr ⟨0,_,rfl,rfl⟩));have Z3:kQ X.heap D (bw B.length 0):=by refine cX (U.ei.store 0 _ rfl) λD' us g1 g2 g3=>?_;injection g1 with e_;subst e_;exact⟨us,g2,nV g3⟩
 have b3:=ba b2.2;by_cases Z:x=0
 ·have hz:B= []:=by
   refine ak J (λu1=>aN u1 λz h=>?_) λg=>ak g (λT=>aN T λh z=>?_) λI=>aN I λh z=>?_
   ·exact h
   ·exact absurd Z h
   ·exact absurd Z h
  subst Z hz;exact CQ (H _) hE w U.ei b3.1 rfl rfl rfl λF z e₄=>VD hE (U.step e₄ (bz _)) b3.2 (.refl F) (Z3.keep e₄.keep) λv s' r=>hQ _ _ r
 ·refine CR (H _) hE w U.ei b3.1 rfl (av:=.int x) rfl (congrArg some (show(x !=0)=true by simpa using Z)) λbb F Q₄ hG I₄ e₄ z hN=>aU hG λx1 hb1 hG=>ab (gL hb1)<|CP (H _) hE w I₄ (I4.ext e₄.keep).toFnI (S.keep e₄.keep) hG (i:=x) (j:=0) (m:=B.length) (by
   have:B.length<=cB:=aP hlz2 (by decide);simp[(id jW),(id fD),(id mN),this]) λt1 t2 t3 s₅ I₅ M=>?_;clear I₅
  have R₅:=U.step (e₄.trans M) (bz _);clear U;have F5:=I4.ext (e₄.trans M).keep;have Z5:=Z3.keep (e₄.trans M).keep;clear Z3;refine aA (Q:=wK D s₅ B) ?_ (λr s₆ q=>kq (hN _ (VD hE R₅ b3.2 q.1 q.2 λv s' r=>hQ _ _ r))) λz z e=>e;clear hQ;refine ak J (λu1=>aN u1 λh z=>?_) λg=>ak g (λT=>aN T λz I=>?_) λu5=>eY u5 λz u6 P=>?_;rotate_left;subst I;rotate_left;subst u6;rotate_right 2
  ·exact absurd h Z
  ·exact Kp (y:=0) (H (k+2)) b5 w R₅.ei.base F5 Z5 (g9 _) (by simp) (by simp)
  ·exact Wi (k:=k+1) H b5 w R₅.ei.base F5 Z5 hD rfl hx0 hn0 hn1 P
end
noncomputable def WT:List bj:= ["L","R","mid","shift","digits","n"]
noncomputable def La:List bj:= ["mid","shift","digits","n"]
noncomputable def kJ(u:cQ):Ck:=⟨u.names,WT,aG 6,0⟩
noncomputable def IY:CE:=.cmp .Eq (.f .Add (.a 0) (.d 1)) (.a 1)
noncomputable def VL(K:Ck)(l1 l2:List CE)(c:CE)(x:bC):Bool:=bD (BF x) λq=>bD q.1 λe=>bD (rQ e) λo=>bD (rQ o.1) λu=>bD (vY u.1) λf=>bD (vY o.2.2.1) λg=>
 o.2.1==.Add&&(u.2.1==.LShift&&(nM f.1&&(nM g.1&&(fV K 0 l1 f.2.2.1&&(cz K 0 c u.2.2.1&&fV K 0 l2 g.2.2.1)))))
theorem SW{K:Ck}{A m:List CE}{c:CE}{x:bC}{P:Prop}(h:VL K A m c x=true)(k:∀xs D e R H Y l G W I,x=.Return (some (.BinOp (.BinOp (.Call (.Name "inner" R) xs [] H) .LShift e Y) .Add (.Call (.Name "inner" l) D [] G) W)) I->fV K 0 A xs=true->cz K 0 c e=true->fV K 0 m D=true->P):P:=by refine aU h λq J h=>aU h λe U h=>aU h λo S h=>aU h λu d h=>aU h λf O h=>aU h λg X h=>?_;have C:=ba (ba (ba (ba h).2).2).2;exact k _ _ _ _ _ _ _ _ _ _ (bp (rW J) (ab U (ab (nX S) (ab (nX d) (ab (lz O) (ab (lz X) (ab (eq_of_beq (ba h).1) (ab (eq_of_beq (ba (ba h).2).1) (ab (kj (ba (ba (ba h).2).2).1) (ab (kj C.1) rfl)))))))))) (ba C.2).1 (ba (ba C.2).2).1 (ba (ba C.2).2).2
noncomputable def g5(u:cQ)(b:List bC):Bool:=bD (l1 b) λa=>IW (kJ u) (.sub (.a 4) (.a 0)) a
noncomputable def Y6:CE:=.f .RShift (.f .Add (.a 0) (.a 1)) (.d 1)
noncomputable def Y7:CE:=.f .Mult (.f .Sub (.a 2) (.a 0)) (.a 5)
noncomputable def Vd(u:cQ)(i1 i B r:bC):Bool:=
 VN (kJ u) IY (g5 u) i1&&(ka (kJ u) (.cI (.bX 2) Y6) i&&(ka (kJ u) (.cI (.bX 3) Y7) B&&VL (kJ u) [.a 2,.a 1] [.a 0,.a 2] (.a 3) r))
noncomputable def zZ(ps:cZ)(b:List bC)(u:cQ):Bool:=
 T1 ps ["L","R"] ["mid","shift"] ["digits","n","inner"] u&&bD (l4 b) λq=>Vd u q.1 q.2.1 q.2.2.1 q.2.2.2
theorem Ny(ps:cZ)(b:List bC)(u:cQ)(h:zZ ps b u=true):∃names,HM ps names u/\u.names.lookup ("inner":bj)=some .free:=⟨_,(jS (ba h).1).1,(jS (ba h).1).2 _ (dQ rfl)⟩
noncomputable def Yx:FD:=⟨2,2,[]⟩
noncomputable def Rj:List (List Nat):= [[100,105,103,105,116,115],[110]]
noncomputable def Zd(d:iL):Ck:=⟨d.scope.names,Rj.map strOf,aG 2,0⟩
noncomputable def VM(K:Ck)(x:bC):Bool:=bD (BF x) λq=>bD q.1 λe=>bD (zr e) λo=>bD (kU o.1) λz=>bD (vY o.2.1) λf=>nM f.1&&(cz K 0 (.a 0) o.1&&(fV K 0 [.d 0,.len (.a 0)] f.2.2.1&&cz K 0 (.d 0) o.2.2.1))
theorem SX{K:Ck}{x:bC}{P:Prop}(h:VM K x=true)(k:∀xs z nm p R H Y l,x=.Return (some (.IfExp (.Name nm p) (.Call (.Name "inner" R) xs [] H) z Y)) l->cz K 0 (.a 0) (.Name nm p)=true->fV K 0 [.d 0,.len (.a 0)] xs=true->cz K 0 (.d 0) z=true->P):P:=by refine aU h λq J h=>aU h λe U h=>aU h λo S h=>aU h λn d h=>aU h λf O h=>?_;have m:=ba h;exact k _ _ _ _ _ _ _ _ (bp (rW J) (ab U (ab (vZ S) (ab (gH d) (ab (lz O) (ab (kj m.1) rfl)))))) (gH d▸(ba m.2).1) (ba (ba m.2).2).1 (ba (ba m.2).2).2
noncomputable def Vn(d:iL):Bool:=
 (d.name=="_digits2int"&&(d.params.args.map (·.arg)==(Rj.take 2).map strOf))&&(TY Yx Rj d&&bD (l2 d.body) λq=>CN d.scope.names T9 zZ q.1&&VM (Zd d) q.2)
theorem DX:(match nG 5 with|some d=>Vn d|none=>false)=true:=by decide+kernel
theorem PA:∀(i:Nat) (x:bj),(Rj.map strOf)[i]? =some x->x≠("inner":bj):=by
 have h:∀x∈Rj.map strOf,x≠("inner":bj):=by decide+kernel
 exactλi x e=>h x (aW e)
section
variable{h₀:bk}{cfg:dC}{C:fE h₀ cfg}{k:Nat}
variable{A:cP}{E:aw->ao->Prop}{s s' s₀ s₁:ao}{W W0:az->Prop}{ρ:List az}{st:St}{n0:Nat}{K:Ck}{env:fZ}{loc loc':Loc}{av:AV}
variable{T f aD:az}{ps:cZ}{b:List bC}{sc:cQ}{cl:List (bj×az)}{h h':bk}{n:Int}{l:List AV}
structure H5 (ps:cZ) (b:List bC) (sc:cQ) (cl:List (bj×az)) (W:az->Prop) (ρ:List az) (l:List AV) (n:Int) (h:bk) (f:az):Prop extends FnI T9 ps b sc cl h f where
 cn:∃c t,cl.lookup ("n":bj)=some c/\h.IsCell c (some (.int n t))
 cd:∃c v,cl.lookup ("digits":bj)=some c/\h.IsCell c (some v)/\VR W ρ h v (.lst l)
theorem H5.by(x:H5 ps b sc cl W ρ l n h f){W':az->Prop}(k:bO h h')(hW:∀p,W' p->W p\/h.get? p=none):H5 ps b sc cl W' ρ l n h' f where
 toFnI:=x.toFnI.by (X:=λz=>False) (cD.ext k) λp q=>q.elim
 cn:=eb x.cn λc t J U=>⟨c,t,J,k.cell U⟩
 cd:=cX x.cd λc v J U S=>⟨c,v,J,k.cell U,S.move hW (λz z z z e=>k.seq e) λz z e=>e⟩
noncomputable def Gv(x y n:Int)(l:List AV):Loc:= [.int x,.int y]++ [.c,.c,.lst l,.int n]
theorem QD(V:zZ ps b sc=true)(hA:i7 (k+1) A)(O:bO h₀ s.heap)(X:j6 W s.heap)(g:H5 ps b sc cl W ρ l n s.heap f){x y:Int}{r o:nZ}{Q:aw->ao->Prop}(C:fE h₀ cfg)
 (h:∀env D s₁,bZ env (kJ sc) 0->EI h₀ WT (aG 6) env (λp=>W p\/p=env.locals) ρ 0 (Gv x y n l) [] s₁->i7 k D->gK s s₁->s.heap.get? env.locals=none->
   env.kindOf "inner"=some .free->env.cells=cl->∀R d,(∀v s',Q v s'->d (.ret v) s')->aM (aL C.prog C.w) D (fw b env) d R s₁):
 aM (aL C.prog C.w) A (call (.ref f) [.int x r,.int y o]) Q E s:=by
 refine aN (jS (ba V).1) λG P=>oQ g.fn λt ctv j pm J U=>Jp G J U rfl hA O λenv s₁ e1 e2 c F B H w Z I hn z R=>eb g.cn λcn M u n2=>cX g.cd λca Y a1 a2 a3=>?_;have S:=An (h₀:=h₀) (W:=W) (ρ:=ρ) (st:= []) (names:= ["L","R"]) (rest:=La) (acc:=aG 6) (avs:= [.int x,.int y]) (ras:= [.c,.c,.lst l,.int n])
  (vs:= [.int x r,.int y o]) G (by decide+kernel) O X (λm l e=>by injection e) (λm l a e=>by injection e) (.cons (.int _ _) (.cons (.int _ _) .nil)) rfl g.FR (λi x a Z L N=>by
    rcases i with _|_|_|_|i
    ·simp at L;exact absurd L.symm N
    ·simp at L;exact absurd L.symm N
    ·simp[La]at Z L;subst Z L;exact⟨ca,_,P _ (dQ rfl),a1,a2,a3⟩
    ·simp[La]at Z L;subst Z L;exact⟨cn,_,P _ (by simp),u,n2,.int _ _⟩
    ·injection Z)
  e1 e2 c F B H Z I hn
 exact h env _ s₁ S.1 S.2 w Z (ab H<|cO _) (ab (e2 ..)<|P _ (by simp)) e1 R _ λz z q=>q
theorem EF{i:Int}{L:az}(e:gK s s₁):∀v s',wi (λp=>W p\/p=L) ρ 0 s₁ (.int i) v s'->e9 W ρ s (.int i) v s':=λv s' r=>r.2.2.dK λt B=>ab B<|⟨e.trans r.2.1,.int _ _⟩
theorem Kq(H:Hand C k)(V:zZ ps b sc=true)(hA:i7 (k+1) A)(O:bO h₀ s.heap)(X:j6 W s.heap)(j:H5 ps b sc cl W ρ l n s.heap f){y z:Int}{o Q:nZ}(F:0<=y)(G:l[y.toNat]? =some (.int z))(g:l.length<=cB):
 aM (aL C.prog C.w) A (call (.ref f) [.int y o,.int (y+1) Q]) (e9 W ρ s (.int z)) E s:=by
 have M:y.toNat<l.length:=(aQ.mp G).1;have U:y<l.length:=(Int.toNat_lt F).mp M;refine QD V hA O X j C λenv t s₁ hE I w Z u _ _ R d N=>aU (ba V).2 λq J B=>ab (AN J)<|CR H hE w I (ba B).1 rfl (av:=.bool true) (by simp[IY,(id fD),Gv,(id cw),binI,(id cb),(id jJ)]) rfl λb P c D S i Y _=>aU D λa L D=>yH D λv p e m=>ab (gL L)<|ab e<|cS (lk (aA ((sv H (.sub (.a 4) (.a 0))).1 _ _ _ _ (.int z) _ _ _ _ _ _ _ hE w S ?_ m) (λv s' r=>Y _ _ (N _ _ (EF (Z.trans i) v s' r))) λ_ _ e=>e));simp[(id fD),Gv,(id pb),ll,g,F,U];exact(aQ.mp G).2
theorem yM(H:Hand C k)(hE:bZ env K 0)(hA:i7 k A)(I:EI h₀ K.tab K.acc env W ρ 0 loc st s){c d:CE}{i j:Int}{D:List Expr}{R U:eO}{Q:aw->ao->Prop}(F:FnI T ps b sc cl s.heap f)(S:iq env s.heap "inner" (.ref f))(Z:fV K 0 [c,d] D=true)
 (M:so cfg st [c,d] loc=some [.int i,.int j])
 (h:∀O B s₁,EI h₀ K.tab K.acc env W ρ 0 loc st s₁->gK s s₁->aM (aL C.prog C.w) A (call (.ref f) [.int i O,.int j B]) Q E s₁):aM (aL C.prog C.w) A (fe (.Call (.Name "inner" R) D [] U) env) Q E s:=oQ F.fn λt r N w G L=>QH (UD H _) hE hA I S G rfl M Z (DY Z) λvs s₁ P y J=>YK J λO B e=>ab e<|h O B s₁ (I.ext y P) y
theorem H5.ext(x:H5 ps b sc cl W ρ l n h f)(k:bO h h'):H5 ps b sc cl W ρ l n h' f:=x.by k λz q=>.inl q
theorem Wj(H:∀k,Hand C k)(V:zZ ps b sc=true)(hA:i7 (k+2) A)(O:bO h₀ s.heap)(hL:j6 W s.heap){a c:Int}(g:H5 ps b sc cl W ρ [.int a,.int c] n s.heap f){ty tz:nZ}(hn:0<n)(hn2:n<=100000)(P:ag c<=1000000):
 aM (aL C.prog C.w) A (call (.ref f) [.int 0 ty,.int 2 tz]) (e9 W ρ s (.int (c*2^n.toNat+a))) E s:=by
 have G:n.natAbs<2^63:=by grind
 have J:(ag c:Int)+n<=2^27:=by lia
 have ev1:jv [] .LShift (.int c) (.int n)=some (.int (c*2^n.toNat)):=by simp only[(id cw),binI,aF hn,J,and_self,if_true,aK]
 have ev2:jv [] .Add (.int (c*2^n.toNat)) (.int a)=some (.int (c*2^n.toNat+a)):=by rfl
 refine QD V hA O hL g C λenv D s₁ hE I w hx u S N R Q' hQ=>aU (ba V).2 λq h1 B=>ab (AN h1) ?_;have B1:=ba (ba B).2;have X:IX C (k+1) D env (kJ sc) (λp=>W p\/p=env.locals) ρ []:=⟨H _,hE,w,.inr rfl,(jS (ba V).1).1.yS,Et O u,λm l p e=>by injection e⟩;refine CQ X.H hE w I (ba B).1 rfl (av:=.bool false) (by rfl) rfl λs₂ I2 e₂=>X.cI I2 B1.1 (av:=.int 1) (by rfl) (by simp[Gv]) λs₃ I3 y3=>X.cI I3 (ba B1.2).1 (av:=.int n) (by simp[(id fD),Gv,(id cw),binI,G]) (by simp[Gv]) λF o y4=>?_;have X4:gK s F:=gK.RS (hx.trans e₂) (y3.trans y4) λp q=>ab q<|u;have F4:H5 ps _ sc cl (λp=>W p\/p=env.locals) ρ _ n F.heap f:=g.by X4.keep λp q=>q.imp id λq=>by exact ab q<|u
 refine SW (ba B1.2).2 λxs ys e p1 p2 Y p4 p5 p6 p7 Z c1 c2 c3=>ab Z<|cS (lk ?_);refine aA (Q:=wi (λp=>W p\/p=env.locals) ρ 0 F (.int (c*2^n.toNat+a))) ?_ (λv s' r=>hQ _ _ (EF X4 v s' r)) λ_ _ e=>e;refine BL (BL (yM X.H hE w o F4.toFnI (F4.inner S N) c1 (i:=1) (j:=2) (by rfl) λt1 t2 s₅ I5' M=>?_));have F5:=F4.ext M.keep;refine cu (e9.p0 (n0:=0) (bz _) (Kq (y:=1) (z:=c) (H k) V w I5'.base I5'.live F5 (Rr) (by rfl) (by simp[cB]))) λu₁ t x=>?_;have I6:=I5'.step x;refine cu ((sv (H (k+1)) (.a 3)).1 _ _ _ _ (.int n) _ _ _ _ _ _ _ hE w I6 (by rfl) c2) λu₂ s₇ U=>cu (e9.p0 (n0:=0) (bz _) (CY (op:=.LShift) (I6.step U).live (I6.step U).store (x.2.2.keep U.2.1.keep) U.2.2 ev1)) λu₃ s₈ r₈=>?_;have X8:=x.2.1.trans (U.2.1.trans r₈.2.1);exact yM X.H hE w ((I6.step U).step r₈) (F5.ext X8.keep).toFnI ((F5.ext X8.keep).inner S N) c3 (i:=0) (j:=1) (by rfl) λt1 t2 s₉ I9 d=>cu (e9.p0 (n0:=0) (bz _) (Kq (y:=0) (z:=a) (H k) V w I9.base I9.live ((F5.ext X8.keep).ext d.keep) (MA 0) (by rfl) (by simp[cB]))) λu₄ s₁₀ L=>aA (e9.p0 (n0:=0) (bz _) (CY (op:=.Add) (I9.step L).live (I9.step L).store (r₈.2.2.keep (d.keep.trans L.2.1.keep)) L.2.2 ev2)) (λv s' r=>⟨r.1,M.trans (X8.trans (d.trans (L.2.1.trans r.2.1))),r.2.2⟩) λ_ _ e=>e
theorem FW{l:List AV}{n:Int}{av:AV}(h:QF l n=some av){I:Prop}(N:0<n->n<=100000->(((l= []/\av=.int 0)\/(∃a,l= [.int a]/\av=.int a)\/∃a b,l= [.int a,.int b]/\av=.int (b*2^n.toNat+a)/\ag b<=1000000))->I):I:=by
 delta QF at h;by_cases Q:n<=0\/100000<n
 ·rw[if_pos Q]at h;injection h
 ·rw[if_neg Q]at h;refine N (by clear h;lia) (by clear h;lia) ?_;clear N;cases l with
  |nil=>exact .inl ⟨rfl,(ay h).symm⟩
  |cons x l=>rcases l with _|⟨y,l⟩
             ·exact bW h λa J e=>.inr (.inl ⟨a,ab (iE J) rfl,e.symm⟩)
             ·refine dn h λz Y h=>dn h λa J h=>dn h λb U h=>?_;exact m8 h λO e=>.inr (.inr ⟨a,b,ab (lR Y) (ab (iE J) (ab (iE U) rfl)),e.symm,O⟩)
theorem G8{args:List AV}{av:AV}{P:Prop}(h:xy args=some av)(k:∀l n,args= [.lst l,.int n]->QF l n=some av->P):P:=
 dn h λq J h=>dn h λl U h=>dn h λn S h=>k l n (ab (my J) (ab (AR U) (ab (iE S) rfl))) h
theorem VR.Ti{h:bk}{v:aw}{l:List AV}(x:VR W ρ h v (.lst l)){I:Prop}(N:∀a g,v=.ref a->cL "list" h a g->g.length=l.length->I):I:=by
 rcases x with _|_|_|_|_|⟨o,G,d⟩
 ·exact N _ _ rfl G d.length
theorem Nk(H:∀k,Hand C k)(hT:RJ C 5 T9)(hBm:Bm C)(hk:3<=k):xZ C k 5 xy:=by
 intro d a hd L hf A s W ρ vs args av E hA O hL hv hn hspec;refine ew λY=>?_;obtain⟨k,rfl⟩:∃k',k=k'+3:=⟨k-3,(kK hk).mp rfl⟩;refine Y ?_;clear Y;refine ew λY=>G8 hspec λl n e1 hd2=>?_;clear hspec;subst e1;refine FW hd2 λD hn1 J=>?_;clear hd2;have x:=DX;rw[hd]at x;have ck:=ba x;refine aU (ba ck.2).2 λq hbody hB=>ew λY=>oR hf.ex λo pm cd doc M hdd hcd=>gB (hT d a o _ hd L M hdd) λc V hCd hP=>Y ?_;clear Y;refine Y ?_;clear Y;have hll:l.length<=2:=by
  (refine ak J (λu1=>aN u1 λg _=>?_) λu3=>ak u3 (λI=>aC I λ_ u5 _=>?_) λu6=>eb u6 λ_ _ u7 _=>?_;refine ab g ?_;rotate_left;refine ab u5 ?_;rotate_left;refine ab u7 ?_;rotate_right 2)<;>exact cj.mp rfl
 refine ug (f:=Yx) (t:=Rj) rfl (eq_of_beq (ba ck.1).2) (ba ck.2).1 M hdd hcd hA O hL hv hn rfl C λenv W₁ s₁ hcode hqual hE w R E'=>?_;clear hv;clear hn;refine ab (my hbody)<|QV λQ hQ=>?_;generalize A.deeper env=A' at w⊢;refine xh R hE (ba hB).1 Ny (hcode.trans V) hCd hP (.inr rfl) (by refine ab hqual (ab (eq_of_beq (ba ck.1).1) ?_);decide+kernel) hBm PA λf ps b sc X b5 U hin FI N=>?_;clear R;refine ew λY=>ew λY=>aN (jS (ba b5).1) λhs5 hf5=>cX (N 1 "n" (.int n) (show(Rj.map strOf)[1]? =some ("n":bj)by decide+kernel) (show 1∈aG 2 by decide) rfl (λq=>nomatch q) (hf5 _ (by simp))) λcn vn n1 n2 n3=>cX (N 0 "digits" (.lst l) (show(Rj.map strOf)[0]? =some ("digits":bj)by decide+kernel) (show 0∈aG 2 by decide) rfl (λq=>nomatch q) (hf5 _ (by simp))) λca va a1 a2 a3=>Y ?_;clear Y;refine Y ?_;clear Y;clear N;refine ew λY=>n3.dK λtn o1=>?_;subst o1;have I5:H5 ps b sc (n8 env sc.names []) W₁ [] l n X.heap f:={toFnI:=FI,cn:=⟨cn,tn,n1,n2⟩,cd:=⟨ca,va,a1,a2,a3⟩};clear a3;refine SX (ba hB).2 λxs z nm p p1 p2 p3 p4 Z b6 b7 b8=>Y ?_;clear Y;refine ab Z<|cS (lk (aA (Q:=e9 W ρ s av) ?_ (λv s' r=>hQ _ _ r) λ_ _ e=>e));clear hQ;have out:∀{i:Int} {s':ao},gK X s'->∀v S,e9 W₁ [] s' (.int i) v S->e9 W ρ s (.int i) v S:=λe v S r=>r.2.dK λt e'=>ab e'<|⟨U.ext.trans (e.trans r.1),.int _ _⟩;refine wpAny_IfExp (UZ (cu ((sv (H (k+3)) (.a 0)).1 _ _ _ _ (.lst l) _ _ _ _ _ _ _ hE w U.ei rfl b6) λu F G=>?_) rfl);refine G.2.2.Ti λad us hu o2 hlu=>aI o2 λm hs=>?_;clear o2;refine ab hu<|wpAny_truthy_list (items:=us.toArray) (MZ (n:=m) hs) (by simp;lia) ?_;clear hs;have B:gK X {F with toks:=F.toks+1+1}:=G.2.1.trans (.tok F _);clear G;refine ak J (λu1=>aN u1 λg u3=>?_) λJ=>?_;subst g;refine ab u3 ?_
 ·cases dD hlu;exact aA ((sv (H (k+3)) (.d 0)).1 _ _ _ _ (.int 0) _ _ _ _ _ _ _ hE w (U.step B (bz _)).ei rfl b8) (λv s' r=>out B v s' r.2) λ_ _ e=>e
 ·have hz:(!us.toArray.isEmpty)=true:=by
   rcases us with _|⟨a,r⟩
   ·refine ak J (λu1=>aC u1 λa g _=>?_) λu3=>eb u3 λa b I _=>?_;cases g;rotate_left;subst I;rotate_right
    ·injection hlu
    ·injection hlu
   ·rfl
  refine ab hz<|yM (H _) hE w (U.step B (bz _)).ei (I5.ext B.keep).toFnI (hin.keep B.keep) b7 (i:=0) (j:=l.length) (by have:l.length<=cB:=aP hll (by decide);simp[(id jW),(id fD),(id mN),this]) λt1 t2 s₆ I₆ e₆=>?_
  refine ak J (λu1=>aC u1 λa g u3=>?_) λI=>cX I λa b u5 u6 P=>?_;subst g;refine ab u3 ?_;rotate_left;subst u5;refine ab u6 ?_;rotate_right
  ·exact aA (Kq (y:=0) (z:=a) (H (k+2)) b5 w I₆.base I₆.live ((I5.ext B.keep).ext e₆.keep) (g9 _) (by rfl) (by simp[cB])) (out (B.trans e₆)) λ_ _ e=>e
  ·exact aA (Wj (k:=k+1) H b5 w I₆.base I₆.live ((I5.ext B.keep).ext e₆.keep) D hn1 P) (out (B.trans e₆)) λ_ _ e=>e
end
inductive j5:List cG->List (Int×bj)->Prop
 |nil:j5 [] []
 |cons {t u:Nat} {q:Int×bj} {es:List cG} {l:List (Int×bj)}:j5 es l->j5 (⟨q.1,.int q.1 t,.str q.2 u⟩::es) (q::l)
theorem j5.append{es B:List cG}{l l':List (Int×bj)}(x:j5 es l)(y:j5 B l'):j5 (es++B) (l++l'):=by
 induction x with
 |nil=>exact y
 |cons _ R=>exact .cons R
theorem uW(d:Nat):∀(l:List (Int×bj)) (t:Nat),j5 (entries d t l) l:=by
 intro G
 induction G with
 |nil=>
  exactλz=>.nil
 |cons q r R=>
  exactλt=>.cons (R (t+d))
theorem FP:∀(n t:Nat) (l:List (Int×bj)),l.length<=17*n->j5 (oJ n t l).flatten l:=by
 intro G
 induction G with
 |zero=>
  intro t l h;have:l= []:=dD (Nat.eq_zero_of_le_zero h);exact ab this<|.nil
 |succ n R=>
  intro t l h;simp only[(id Nz)];rcases he:l.isEmpty with _|_
  ·simp only[bx,if_false,List.flatten_cons];have J:j5 (ym t (l.take 17)) (l.take 17):=by
    unfold ym;split
    ·exact uW _ _ _
    ·exact uW _ _ _
   have U:=R (t+51) (l.drop 17) (ab bB<|Nat.sub_le_of_le_add h);have:=J.append U
   rwa [fR]at this
  ·rw[dx]at he;exact ab he<|.nil
theorem OX:iT.length<=17*50:=by decide+kernel
theorem j5.length{es:List cG}{l:List (Int×bj)}(x:j5 es l):es.length=l.length:=by
 induction x with
 |nil=>rfl
 |cons _ R=>exact tS.mpr R
noncomputable def Jo(l:List (Int×bj)):List (PyData×PyData):=l.map λq=>(.int q.1,.str q.2)
theorem vm{k:Int}(Y:0<=k)(J:k<1000000):hashInt k=k:=by
 have e:((k.natAbs:Nat):Int)%((2^61-1:Nat):Int)=k:=by lia
 have r:rawHash k=k:=by
  delta rawHash;simp only[e];refine ab (if_neg (show¬k<0 by exact MT Y)) ?_;have:(k== -1)=false:=by simp only[beq_eq_false_iff_ne,ne_eq];exact cH Y
  refine ab this ?_;rfl
 delta hashInt;refine ab r ?_;have:(k== -1)=false:=by simp only[beq_eq_false_iff_ne,ne_eq];exact cH Y
 refine ab this ?_;rfl
section
variable{prog:fA}{w:cW}
theorem Cu{es:List cG}{l:List (Int×bj)}(x:j5 es l)(G:∀q∈l,0<=q.1/\q.1<1000000):∃B:List (Int×aw),Pairs (M5 prog w) es B/\PyProof.V.FlatPairs PyData.int B (Jo l)/\B.map (·.1)=l.map (·.1)/\∀e∈es,∃k,(M5 prog w).is k e.key=true/\e.hash=(M5 prog w).hash k:=by
 induction x with
 |nil=>exact⟨[],.nil,.nil,rfl,λz h=>nomatch h⟩
 |@cons t u q es l y R=>
  refine D7 (R λq D=>G q (ax _ D)) λB J U S d=>⟨(q.1,.str q.2 u)::B,.cons (isInt_self q.fst t) rfl J,.cons (λh=>.str _ _) U,by simp[S],λe Z=>?_⟩;refine ak (aS.mp Z) (λH=>?_) λZ=>?_;refine ab H ?_
  ·exact aN (G q aH) λa b=>⟨q.1,by show jB q.1 (.int q.1 t)=true;simp[jB],(vm a b).symm⟩
  ·exact d e Z
theorem Kx(i:Int):∀l:List (Int×bj),Ry (.int i) (Jo l)=(l.lookup i).map .str:=by
 intro G
 induction G with
 |nil=>
  exact rfl
 |cons q r R=>
  delta Jo;refine ab bI ?_;unfold Ry;refine ab (PyProof.V.same_int ..) (ab fa ?_);by_cases h:q.1=i
  ·refine ab h ?_;simp
  ·have:(i==q.1)=false:=by rewrite[beq_eq_false_iff_ne];exact ab (ne_eq ..)<|λe=>h e.symm
   refine ab this ?_;simp only[h,decide_false,bx,if_false];exact R
theorem LS{h:bk}(M:h.get? 110=some GI):IntTab prog w h 110 (Jo iT):=by refine aN (pD iT 0 rE) λu G=>D7 (Cu (prog:=prog) (w:=w) (FP 50 408 iT OX) λq D=>⟨aF (G q D).1,(G q D).2⟩) λB J U S d=>⟨by decide,B,⟨GI,_,_,M,⟨rfl,rfl,rfl⟩,rfl,λe Z=>d e (by simpa using Z),by simpa using J,?_⟩,U⟩;exact ab S<|nr.mpr (u.imp λh=>Int.ne_of_lt h)
set_option tactic.hygienic true in
theorem NW{v:aw}{i:Int}(h:PyProof.V.Flat v ((Ry (.int i) (Jo iT)).getD .none)):∃t,v=match RO i with|some x=>.str (strOf x) t|none=>.none:=by
 rw[Kx]at h;delta RO;rcases e:iT.lookup i with _|x
 ·rw[e]at h;have:=h default;rcases this with⟨⟩;exact⟨0,rfl⟩
 ·rw[e]at h;have:=h default;clear h;rcases this with⟨⟩;rename_i t;exact⟨t,by rfl⟩
theorem y9:(xr.all λe=>match e.2 with| .int i _=>i==e.1&&decide (0<=i)&&decide (i<1000000)&&DR.contains i|_=>false)=true:=by decide+kernel
theorem Pm:(DR.all λi=>xr.any λe=>e.1==i)=true:=by decide+kernel
set_option tactic.hygienic true in
theorem WK{h:bk}{P:il}(M:h.get? 99=some (Uz P)):h.SetOf (M5 prog w) 99 (λk=>DR.contains k) 27:=by
 refine⟨Uz P,xr.toArray,29,_,M,⟨rfl,rfl,rfl⟩,rfl,λe Z=>?_,λk=>⟨λI=>?_,λD=>aC D λe Z I=>?_⟩,by decide+kernel,by rfl,by decide+kernel⟩
 ·replace Z:e∈xr:=Z;have:=aq.mp y9 e Z;obtain⟨a,v⟩:=e;rcases v with⟨⟩<;>simp only[bx]at this;rename_i i t;simp only[au,beq_iff_eq,decide_eq_true_eq]at this;refine aN this λo1 S=>?_;clear this;exact aN o1 λH U=>aN H λg J=>cA g<|⟨⟨i,by show jB i (.int i t)=true;simp[jB],(vm J U).symm⟩,rfl⟩
 ·have:=aq.mp Pm k (pK.mp I);refine aC (List.any_eq_true.mp this) λe Z U=>?_;have S:=aq.mp y9 e Z;obtain⟨a,v⟩:=e;rcases v with⟨⟩<;>simp only[bx]at S;rename_i i t;simp only[au,beq_iff_eq,decide_eq_true_eq]at S U;refine aN S λr z=>?_;clear S;refine aN r λH z=>aN H λg z=>?_;subst g;exact cA U<|⟨_,by exact Z,by show jB i (.int i t)=true;simp[jB]⟩
 ·replace Z:e∈xr:=Z;have:=aq.mp y9 e Z;clear Z;obtain⟨a,v⟩:=e;rcases v with⟨⟩<;>simp only[bx]at this;rename_i i t;simp only[au,beq_iff_eq,decide_eq_true_eq]at this;refine aN this λj S=>?_;clear this;refine aN j λH U=>aN H λg J=>cA g ?_;have I:jB k (.int i t)=true:=I;have:i=k:=by simpa[jB]using I
  exact cA this<|S
end
noncomputable abbrev Q9:fA:=MP.toRowW.prog
theorem Ni:(lM.all λp=> !startupNames.contains p.1&& !(looseW q0 kl).contains p.1&& !((recsOf q0).map (·.name)).contains p.1&& !((litsOf q0).map (·.1)).contains p.1&& !((clssOf q0 (looseW q0 kl)).map (·.name)).contains p.1&& !(p.1==("__name__":bj)))=true:=by decide+kernel
theorem Nh:∀p∈lM,M3 p.1=some p.2:=by
 have h:(lM.all λp=>M3 p.1==some p.2)=true:=by decide+kernel
 exactλp B=>beq_iff_eq.mp (aq.mp h p B)
theorem A6:GI.cls=.type "dict":=by unfold GI dG;rfl
theorem OO(P:il):(Uz P).cls=.type "set":=rfl
theorem Sy:∀(i:Nat) (n:Int),qW.Y[i]? =some n->∃x,qz[i]? =some x/\valOf q0 x=some (.int n):=by
 have h:((aG 4).all λi=>(qW.Y[i]?).all λn=>(qz[i]?).any λx=>match valOf q0 x with|some (.int m)=>m==n|_=>false)=true:=by decide+kernel
 intro i n hi;have:=aq.mp h i (aT.mpr (aQ.mp hi).1);rw[hi]at this;have this:((qz[i]?).any λx=>match valOf q0 x with|some (.int m)=>m==n|_=>false)=true:=this;generalize qz[i]? =o at this⊢;rcases o with _|x
 ·exact(aB this).elim
 ·have this:(match valOf q0 x with|some (.int m)=>m==n|_=>false)=true:=this;generalize e:valOf q0 x=q at this;rcases q with _|v
  ·exact(aB this).elim
  ·cases v<;>first|exact(aB this).elim|exact⟨x,rfl,e.trans (congrArg (λi=>some (PyData.int i)) (eq_of_beq this))⟩
section
variable{R:WRecords}{w:cW}{s₀:ao}{mg mb:bj->Option aw}{h:bk}
theorem ND(Y:Ib w h){A:cP}{s:ao}{i:Int}{t:nZ}{Q:aw->ao->Prop}{E:aw->ao->Prop}(I:bO h s.heap)(D:∀tk,Q (.bool (DR.contains i)) {s with toks:=tk}):
 aM (aL Q9 w) A (eM .In (.int i t) (.ref 99)) Q E s:=by
 have M:=I.nt Y.1 (jt (OO _));exact wpAny_inSet_of (knd:=M5 Q9 w) (k:=i) (by show jB i (.int i t)=true;exact isInt_self i t) rfl (WK M) (D _)
theorem NF(Y:Ib w h){A:cP}{s:ao}{env:fZ}{p Z pos:eO}{y:Expr}{Q:aw->ao->Prop}{E:aw->ao->Prop}(X:(Z.endLine==pos.line)=true)(C:bJ y=true)(I:bO h s.heap)
 (O:aM (aL Q9 w) A (fe (.Name "b3_exceptions" p) env) (λv s'=>v=.ref 110/\s'=s) E s)
 (L:aM (aL Q9 w) A (fe y env) (λv s'=>bO h s'.heap/\∃i t,v=.int i t/\∀t' tk,Q (match RO i with|some x=>.str (strOf x) t'|none=>.none) {s' with toks:=tk}) E s):
 aM (aL Q9 w) A (fe (.Call (.Attribute (.Name "b3_exceptions" p) "get" Z) [y] [] pos) env) Q E s:=by
 refine xP (iA rfl) (cY C) X (aA O (λv s' q=>?_) λz z e=>e);refine aN q λo1 j=>?_;subst o1;subst j;have T:=LS (prog:=Q9) (w:=w) (I.nt Y.2 (jt A6));obtain⟨lo,B,u,P⟩:=T;refine⟨"dict","dict.get",F.plainAttrs_dict,F.slot_dict_get,F.type_dict_get,u.typeIs,u.mapOf.noDict,?_⟩;refine k9 rfl (dH (dP (aA L (λv N q=>?_) λz z e=>e)));obtain⟨m,i,t,rfl,q⟩:=q;refine e7 (call_get1_intTab (LS (prog:=Q9) (w:=w) (m.nt Y.2 (jt A6))) λv D=>?_);exact aI (NW D) λt' e=>ab e<|q t' _
noncomputable def FV(G:Rq q0 kl R H9 w s₀ mg mb h)(Y:Ib w h):fE h qW where
 prog:=Q9
 w:=w
 mg:=mg
 mb:=mb
 g:=G.T.g
 b:=G.T.b
 nolimit:=G.T.nolimit
 bi:=λp B=>by
  have:=aq.mp Ni p B;simp only[au,fv,iW,decide_eq_false_iff_not,beq_eq_false_iff_ne]at this;refine aN this λP K=>?_;refine aN P λH a=>aN H λC a4=>aN C λT a3=>aN T λa1 a2=>?_;exact⟨G.T.free _ a1 a2 a3 a4 a,(G.T.builtins _ K).trans (Nh p B)⟩
 gi:=λi n hi=>by
  refine aC (Sy i n hi) λx J U=>?_;refine aC (G.T.const x _ U) λv S d=>?_;have:=d default;rcases this with⟨⟩;exact⟨x,_,J,S⟩
 b1:=⟨99,G.X.1.1,λA s i t Q E I D=>ND Y I D⟩
 b3:=⟨110,G.X.1.2,λA s env p Z pos y Q E X F I O L=>NF Y X F I O L⟩
theorem Aj{f:Nat}{d:iL}(e:nG f=some d):d∈recsOf q0:=by
 delta nG at e;generalize pW f=o at e;rcases o with _|g
 ·injection e
 ·exact List.mem_of_find?_eq_some e
theorem Sr(G:Rq q0 kl R H9 w s₀ mg mb h)(Y:Ib w h):Yh (FV G Y):=λf d u=>QP (G.T.fn d (Aj u)) λa o B code j J U S A=>⟨a,J,⟨o,B,code,j,U,S,A⟩⟩
theorem N2:(match nG 8 with|some d=>(match wL d.body with|some B=>I8 (K8 d) B&&Xs d|none=>false)|none=>false)=true:=by decide+kernel
theorem XN(G:Rq q0 kl R H9 w s₀ mg mb h)(Y:Ib w h):H4 (FV G Y):=by
 have Z:=N2;generalize u:nG 8=o at Z;rcases o with _|d
 ·exact(aB Z).elim
 ·have Z:(match wL d.body with|some B=>I8 (K8 d) B&&Xs d|none=>false)=true:=Z;generalize N:wL d.body=q at Z;rcases q with _|B
  ·exact(aB Z).elim
  ·exact aC (Sr G Y 8 d u) λa J U=>⟨d,B,a,sk u,J,U,N,(ba Z).1,(ba Z).2⟩
theorem Yj(G:Rq q0 kl R H9 w s₀ mg mb h)(Y:Ib w h):Bm (FV G Y):=G.T.bmain
theorem ER(G:Rq q0 kl R H9 w s₀ mg mb h)(Y:Ib w h){f:Nat}{P:az}{x:bj}(y:f<24)(Z:tC mg h x=some (.ref P))(l:∀d,nG f=some d->d.name=x):RJ (FV G Y) f P/\BJ h P:=by
 refine sM Z λa o fd c A vs J U i k O X V=>?_;have S:∀d,d∈recsOf q0->d.name=x->HO h c P/\h.get? P=some (sf #[])/\BJ h P:=by refineλd u Q=>JH (G.T.tab d u) λI p N c' s e j t g4 g5 E=>?_;rw[Q,J]at e;injection e with F;injection F with D;subst D;rw[U]at j;injection j with F;subst F;rw[i]at t;injection t with F;subst F;rw[k]at g4;injection g4 with F;subst F;have W:=E.isCodeTable;have H:=HO.of g5 E;refine aN E λq g=>s8 q λr b m K T C=>?_;rw[O]at m;injection m with F;subst F;rw[X]at T;injection T with F;subst F;rw[V]at C;injection C with F;injection F with D;subst D;exact⟨H,g,W⟩
 have n:∃d,nG f=some d:=gy.mp (aq.mp uU f (aT.mpr y));refine aI n λd0 v=>eY (S d0 (Aj v) (l d0 v)) λm K T=>⟨λd I p N u L M B=>?_,T⟩;have L:mg d.name=some (.ref I):=L;rw[l d u,J]at L;injection L with F;injection F with D;subst D;rw[U]at M;injection M with F;subst F;rw[i]at B;injection B with F;subst F;exact⟨c,k,m,K⟩
theorem YB:∀d,nG 4=some d->d.name=("_int2digits":bj):=by have h:=DW;intro d e;rw[e]at h;have h:Vm d=true:=h;exact eq_of_beq (ba (ba h).1).1
theorem YC:∀d,nG 5=some d->d.name=("_digits2int":bj):=by have h:=DX;intro d e;rw[e]at h;have h:Vn d=true:=h;exact eq_of_beq (ba (ba h).1).1
theorem JY{h₀:bk}(C:fE h₀ qW)(k:Nat):Hand C k:=⟨λf args av z e=>(nomatch (show(none:Option AV)=some av from e)),λa L=>AL L⟩
theorem VE(G:Rq q0 kl R H9 w s₀ mg mb h)(Y:Ib w h):∀k,wJ ((FV G Y).at k) k:=
 Wp (FV G Y) (Sr G Y) (λk I=>Nj (JY _) (ER G Y (by decide) G.X.2.1 YB).1 (Yj G Y) I) (λk I=>Nk (JY _) (ER G Y (by decide) G.X.2.2 YC).1 (Yj G Y) I) (λk a L=>AL L) (XN G Y)
end
noncomputable def kL(d:iL)(tk:Nat):Ck:=⟨d.scope.names,UE.map strOf,aG 29,tk⟩
noncomputable def Ww:CS:=.cI (.bX 1) (.call 13 [.a 0])
noncomputable def Wx:CS:=.cI (.many [2,3]) (.call 14 [.sub (.a 1) (.d 0)])
noncomputable def tL:List CS:=D9.body.drop 2
theorem RR:D9.body=Ww::Wx::tL:=rfl
noncomputable def Co(d:iL):Bool:=UE.length==29&&(d.params.args.map (·.arg)==(UE.take 1).map strOf)&&TY D9 UE d&&match d.body with
 |Q::V::xs=>ka (kL d 0) Ww Q&&ka (kL d 0) Wx V&&mW (kL d 1) tL xs
 |_=>false
theorem FN:(match nG 23 with|some d=>Co d|none=>false)=true:=by decide+kernel
section
variable{h₀:bk}{cfg:dC}{C:fE h₀ cfg}{k:Nat}
variable{A:cP}{E:aw->ao->Prop}{s s' s₀ s₁:ao}{W W0:az->Prop}{ρ:List az}{st:St}{n0 n1:Nat}{K K':Ck}{env:fZ}{loc loc':Loc}{av:AV}
theorem Rp.up(R:Rp h₀ K env n0 W0 s₀ loc st W ρ s)(J:K'.tab=K.tab)(U:K'.acc=K.acc)(Q:n1<=s.toks):Rp h₀ K' env n1 W0 s₀ loc st W ρ s where
 ei:=by have I:=R.ei;rw[<-J,<-U]at I;exact⟨I.base,I.live,Q,I.vars,I.store,I.frame,I.nR⟩
 own:=R.own
 len:=R.len
 inj:=R.inj
 me:=R.me
 new:=R.new
 ext:=R.ext
 w0:=R.w0
 b0:=R.b0
 l0:=R.l0
theorem bZ.up(hE:bZ env K n0)(J:K'.tab=K.tab)(U:K'.names=K.names)(Q:K'.tk<=n1):bZ env K' n1:=
 ⟨Q,hE.kind,hE.names.trans U.symm,hE.glob,hE.bi,hE.co,hE.cB,J▸hE.Q⟩
theorem Hk(J:K'.tab=K.tab):jV K'=jV K:=by
 have h:qG K'=qG K:=by unfold qG Wh;exact ab J rfl
 delta jV;exact ab h rfl
theorem Jc{m:Nat}{e:CE}{xs:List Expr}(h:fV K m [e] xs=true){I:Prop}(N:∀y,xs= [y]->cz K m e y=true->bJ y=true->I):I:=by
 cases xs with
 |nil=>exact(aB h).elim
 |cons y D=>rcases D with _|⟨z,zs⟩
            ·have h:(cz K m e y&&bJ y&&fV K m [] [])=true:=h;exact N y rfl ((ba (ba h).1).1) ((ba (ba h).1).2)
            ·have h:(cz K m e y&&bJ y&&false)=true:=h;cases(ba h).2
theorem Tc(H:Hand C k)(hE:bZ env K 0)(hE':bZ env K' 1)(h1':K'.tab=K.tab)(U:K'.acc=K.acc)(S:K'.names=K.names)(hA:i7 k A)(R:Rp h₀ K env 0 W0 s₀ loc st W ρ s){x:bC}{av:AV}(M:ev cfg st (.call 14 [.sub (.a 1) (.d 0)]) loc=some av)
 (hb:cT loc (.many [2,3]) av=some loc')(V:ka K Wx x=true):aM (aL C.prog C.w) A (se x env) (λf s'=>f=.next/\Rp h₀ K' env 1 W0 s₀ loc' st W ρ s') E s:=by
 refine ew λY=>dn M λavs e N=>dn e λa1 h1 e=>?_;have h:avs= [a1]:=(ay e).symm;rw[h]at N;refine dn h1 λa2 i h1=>Y ?_;clear Y;by_cases Q:dU [a1]=true
 ·rw[if_pos Q]at N;refine ew λY=>ui V λg v pos ex I=>?_;have c:=ba (ba I).1;refine vy c.2 λf p xs cpos ev'=>?_;rw[ev']at c ex;have m:(pW 14==some f&&K.glob f&&fV K 0 [.sub (.a 1) (.d 0)] xs&& !([CE.sub (.a 1) (.d 0)].isEmpty)&& !(14==8))=true:=c.2;have G:=ba (ba (ba m).1).1;refine Jc G.2 λy ey L d5=>Ej L λl r q el=>?_;rw[ey]at ex;rw[el]at L d5 ex;have L:(cz K 0 (.a 1) l&&cz K 0 (.d 0) r&&pY r)=true:=L;have e1:=ba (ba L).1;refine vw e1.2 λw u cp O=>?_;rw[O]at ex L d5 e1;refine m6 (rN c.1) λP ta tb n z=>Y ?_;clear Y;rw[n]at c ex;refine ab ex<|cA (eq_of_beq (show((0:Int)==w)=true from e1.2))<|D8 (H.o _ _ _ (by decide) N) λg' a o fd g1 j t g4 g5=>?_;rw[<-(ay ((eq_of_beq (ba G.1).1).symm.trans g1))]at j;refine gG (.inr ⟨_,_,_,_,_,_,_,rfl,rfl⟩)<|dE (lF hE (ba G.1).2 R.ei.base j (kE (o:=o) (fd:=fd) (lB (by simp only[jx];rfl) (λq=>nomatch q) ?_)));refine XB (Subscript_ (cu ((sv H (.a 1)).1 _ _ _ _ a2 _ _ _ _ _ _ _ hE hA R.ei i e1.1) λv₁ s₁ D=>?_)) (cY d5);refine UU ?_;have e5:gK s₁ {s₁ with toks:=s₁.toks+1}:=.tok _ _;have J:Rp h₀ K' env 1 W0 s₀ loc st W ρ {s₁ with toks:=s₁.toks+1}:=((R.step D.2.1 D.1).step (s':={s₁ with toks:=s₁.toks+1}) e5 (bz _)).up h1' U (MX (bz _));refine cu (e9.p0 (n0:=1) (MX (bz _)) (KR (ba L).2 J.ei.store (D.2.2.keep e5.keep) (.int _ _) h1)) λv₂ T B=>?_;have d:=J.step B.2.1 B.1;refine Yg ⟨⟨d.ei.base.nt t (nO g4),g4⟩,?_⟩;exact cu (e9.p0 (n0:=1) B.1 (g5 _ T W ρ _ _ hA d.ei.base d.ei.live (.cons B.2.2 .nil) Q)) λv₃ X Z=>fm hA.hh hE' (d.step Z.2.1 Z.1) (by delta fg;exact ab S<|ab (Hk h1')<|c.1) hb Z.2.2 λF b z=>⟨rfl,b⟩
 ·rw[if_neg Q]at N;injection N
end
section
variable{h₀:bk}{C:fE h₀ qW}{k:Nat}
variable{A:cP}{E:aw->ao->Prop}{s s' s₀ s₁:ao}{W W0:az->Prop}{ρ:List az}{av:AV}
theorem Kl(H:∀k,wJ (C.at k) k){d:iL}{a:az}(hd:nG 23=some d)(P:FnAt h₀ d a){vs:List aw}{args:List AV}(hA:i7 (k+1) A)(O:bO h₀ s.heap)(hL:j6 W s.heap)(D:ft W ρ s.heap vs args)(Q:dU args=true)
 (G:iR (Cn qW k) D9 args=some av):aM (aL C.prog C.w) A (call (.ref a) vs) (e9 W ρ s av) E s:=by
 have x:=FN;rw[hd]at x;have x:Co d=true:=x;delta Co at x;refine aN (ba x) λo1 N=>aN (ba o1) λu1 hsc=>aN (ba u1) λk2 k3=>oR P.ex λo pm cd doc ho c i=>?_;have Z:args.length=D9.p:=by
  delta iR at G;split at G
  ·assumption
  ·injection G
 delta iR at G;rw[if_pos Z,RR]at G;refine ug (f:=D9) (t:=UE) (eq_of_beq k2) (eq_of_beq k3) hsc ho c i hA O hL D Q Z (C.at k) λenv Y s₁ z z hE w R E'=>?_;generalize d.body=bd at N⊢;rcases bd with _|⟨x1,_|⟨x2,xs⟩⟩
 ·exact(aB N).elim
 ·exact(aB N).elim
 ·have b1:=(ba (ba N).1).1;have b2:=(ba (ba N).1).2;have b3:=(ba N).2;have hE0:bZ env (kL d 0) 0:=hE;have hE1:bZ env (kL d 1) 1:=hE0.up rfl rfl (aV _);generalize M:dh (Cn qW k) (Ww::Wx::tL) (args++bw (D9.y-D9.p) .c) []=res at G;have S:∀L loc' st',res=some (L,loc',st')->(L=.ret av\/(L=.next/\av=.none))->aM (aL (C.at k).prog (C.at k).w) (A.deeper env) (fw (x1::x2::xs) env) (λf s'=>e9 W ρ s av (match f with| .ret v=>v|_=>.none) s') E' s₁:=by
   intro L loc' st' e y;rw[e]at M;refine pw M λf1 l1 st1 g1 J=>?_;have hfin:∀{K:kO} {s':ao} {fl':Fl} {l:Loc} {st'':St} {K':Ck} {u:Nat},(fl'=.ret av\/(fl'=.next/\av=.none))->(∃W' ρ',HK W' ρ' s'.heap fl' K/\Rp h₀ K' env u W s l st'' W' ρ' s')->e9 W ρ s av (match K with| .ret v=>v|_=>.none) s':=by
    intro K s' fl' l st'' K' u y q;refine eb q λW' ρ' m T=>ak y (λu1=>?_) λg=>aN g λu3 I=>?_;subst u1;rotate_left;subst u3;subst I;rotate_right
    ·rcases K with⟨⟩<;>first|exact mF m|skip
     exact⟨T.ext,(m.1.noRef m.2).move (λp B=>.inl (T.w0 p B)) (λz z z z e=>e) λz z e=>e⟩
    ·rcases K with⟨⟩<;>first|exact mF m|skip
     exact⟨T.ext,.none⟩
   have hne1:f1=.next:=by simp only[Ww,(id oM),aj,bF,aJ,bL,gz]at g1;obtain⟨_,_,_,_,h,_⟩:=g1;exact h.symm
   subst hne1;refine ak J (λu1=>aN u1 λz J=>?_) λg=>aN g λh z=>?_
   ·refine cS (aA (YJ (H k) Ww rfl _ _ _ _ _ _ _ _ _ _ _ _ _ _ _ _ hE0 w R g1 b1) (λK s₂ q=>?_) λz z e=>e);refine cX q λW2 n m V z=>?_;rcases K with⟨⟩<;>first|exact mF m|skip
    refine pw J λf2 l2 st2 j U=>?_;simp only[Wx,(id oM),aj,bF,aJ,bL,gz]at j;obtain⟨a2,g3,l3,g4,rfl,rfl,rfl⟩:=j;refine ak U (λu1=>aN u1 λz U=>?_) λg=>aN g λh z=>?_
    ·refine cS (aA (Tc (K':=kL d 1) (H k).toHand hE0 hE1 rfl rfl rfl w V g3 g4 b2) (λK X q=>?_) λz z e=>e);refine aN q λr R3=>?_;subst r;refine aA (WN (H k) tL _ _ _ _ _ _ _ _ _ _ _ _ _ _ _ _ hE1 w R3 U b3) (λK s₄ q=>?_) λz z e=>e;exact cX q λW4 ρ4 hf4 b z=>hfin y ⟨W4,ρ4,hf4,b⟩
    ·exact absurd rfl h
   ·exact absurd rfl h
  rcases res with _|⟨L,loc',st'⟩
  ·injection G
  ·rcases L with _|_|v
   ·injection G with F;subst F;exact S _ _ _ rfl (.inr ⟨rfl,rfl⟩)
   ·injection G
   ·injection G with F;subst F;exact S _ _ _ rfl (.inl rfl)
end
theorem items_int{R:WRecords}{cl:bj->Option az}{P:il}{h:bk}:∀{xs:List WData} {vs:List aw},ZA R xs .int=true->WellAll P h vs xs->∃ns:List Int,xs=ns.map .int/\ft (λz=>False) [] h vs (ns.map .int):=by
 intro G
 induction G with
 |nil=>
  intro vs z w;rcases w with⟨⟩;exact⟨[],rfl,.nil⟩
 |cons x xs A=>
  intro vs Z w;simp only[ZA,au]at Z;refine aI (hasW_int Z.1) λi j=>?_;subst j;rcases w with _|⟨w1,w2⟩
  ·rcases w1 with⟨⟩;refine aC (A Z.2 w2) λns B D=>?_;subst B;exact⟨i::ns,rfl,.cons (.int _ _) D⟩
theorem Kk{h h':bk}(k:bO h h')(Y:BJ h PD)(B:BJ h T9):OldK h h':=by
 refine⟨λb o e=>?_,λb o e=>k.alive b o e⟩;refine aC (k b o e) λR J U=>?_;rcases U with rfl|⟨F,rfl,c,rfl,_⟩
 ·exact .inl J
 ·refine .inr (.inl ⟨?_,rfl,#[],#[zL (Gu b:Nat),zL ((4:Nat):Int),.ref c],rfl,?_⟩)
  ·refine ak F (λH=>?_) λg=>?_;subst H;rotate_left;subst g;rotate_right
   ·exact Y
   ·exact B
  ·refine ab J ?_;delta UG;rfl
theorem CG{t:WTm}{R:WRecords}{e:WCtx}{b:Bool}(D:t.value R e=some (.bool b))(h:Qj R t e=true):b=true:=by
 cases b with
 |true=>rfl
 |false=>exact(aB ((show Qj R t e=false by delta Qj;exact ab D rfl).symm.trans h)).elim
theorem OD{ns:List Int}(h:MP.toRowW.pre.holds MP.toRowW.records {args:= [.list (ns.map .int)]}=true):ns.length<=63:=by
 have e:MP.toRowW.pre=.and (.not (.lt (.lit (.int 63)) (.len (.arg 0)))) (.lit (.bool true)):=rfl;rw[e]at h;have D:(WTm.and (.not (.lt (.lit (.int 63)) (.len (.arg 0)))) (.lit (.bool true))).value MP.toRowW.records {args:= [.list (ns.map .int)]}=some (.bool (!decide ((63:Int)<ns.length)&&true)):=
  w_and (w_not (w_lt (by rfl) (by have:=w_len_list (R:=MP.toRowW.records) (e:={args:= [.list (ns.map .int)]}) (a:=.arg 0) (xs:=ns.map .int) (by rfl);simpa using this))) (by rfl)
 have O:=CG D h;by_cases X:(63:Int)<ns.length
 ·rw[decide_eq_true X]at O;exact(aB O).elim
 ·lia
theorem Km{args ds:List WData}:MP.toRowW.claim.post args (.bool true) ds=true:=by show(WShape.has [] (.bool true) .bool&&Qj [] (.eq .res (.lit (.bool true))) {args:=args,res:=some (.bool true),after:=ds})=true;kernel_rfl
theorem ON:∀ns:List Int,dU [.lst (ns.map .int)]=true:=by
 intro ns;have S:∀ns:List Int,dU (ns.map .int)=true:=by
  intro ns
  induction ns with
  |nil=>rfl
  |cons a r R=>exact mR.mp λa=>R
 simp[(id mz),(id qC),S]
theorem Wb(hp:∀ns:List Int,ns.length<=63->iR (Cn qW 20) D9 [.lst (ns.map .int)]=some (.bool true)):PySem.Challenge.rw_uc0054_01.Holds:=by
 refine V9 λd C f w s₀ N mg mb G Y a o pm cd j dV kV M u i y L K args vals as hpre t hrd T E=>aN (pre_splitW hpre) λR H=>cX (hasAllW_cons R) λx r o5 Q V=>?_;subst o5;have:=hasAllW_nil V;subst this;refine aC (hasW_list Q) λxs c n=>?_;subst c;rcases T with _|⟨w1,w2⟩
 ·rcases w2 with⟨⟩;cases w1 with
  |list g m=>
   refine aC (items_int (cl:=classAt s₀.heap) n m) λns Z O=>?_;subst Z;have B:ns.length<=63:=OD H;refine aI (gy.mp (aq.mp uU 23 (aT.mpr (by decide)))) λs X=>aC (Sr G Y 23 s X) λI A hf=>?_;have l:d.name=s.name:=by
    have J:=defOf_name f;have U:=sk X;refine ab J ?_;have S:pW 23=some MP.name:=by decide+kernel
    rw[S]at U;exact ay U
   have A:mg s.name=some (.ref I):=A;rw[<-l,L]at A;injection A with F;injection F with D;subst D;refine aA (Kl (VE G Y) (k:=20) (W:=λz=>False) (ρ:= []) X hf ⟨rfl,by decide,by decide⟩ (λb o e=>⟨o,e,.refl _ _ _⟩) (λp hp=>hp.elim) (.cons (.lst (λh=>h) ⟨0,g⟩ O) .nil) (ON ns) (hp ns B)) (λv s' q=>?_) λz z e=>e;refine aN q λP q2=>?_;rcases q2 with⟨⟩;refine⟨.inl ⟨_,.bool true,[],rfl,λcls=>rfl,.bool true,?_,λz=>⟨Rv,λa h=>nomatch h⟩⟩,Kk P.keep (ER G Y (by decide) G.X.2.1 YB).2 (ER G Y (by decide) G.X.2.2 YC).2,P.os,P.bare ?_⟩
   ·exact Km
   ·exact .of_eq K
theorem JP{t:kR}{body:Loc->St->Option (Fl×Loc×St)}(l:List AV)(I:Nat->Loc->St->Prop)
 (h:∀i v loc st,l[i]? =some v->I i loc st->∃loc1 loc2 st2,cT loc t v=some loc1/\body loc1 st=some (.next,loc2,st2)/\I (i+1) loc2 st2):
 ∀(n i:Nat),n+i=l.length->∀loc st,I i loc st->∃loc' st',iP t body (l.drop i) loc st=some (.next,loc',st')/\I l.length loc' st':=by
 intro G
 induction G with
 |zero=>
  intro i Q loc st j;have:i=l.length:=by lia
  subst this;exact ab oe<|⟨loc,st,rfl,j⟩
 |succ n R=>
  intro i Q loc st j;have y:i<l.length:=by lia
  refine kB (h i l[i] loc st (gx y) j) λloc1 loc2 st2 J U S=>?_;refine eb (R (i+1) (by lia) loc2 st2 S) λloc' st' d O=>⟨loc',st',?_,O⟩;refine ab (dF y) ?_;exact(vg.2 ..).trans (tZ J (tZ U d))
theorem AA{t:kR}{body:Loc->St->Option (Fl×Loc×St)}(l:List AV)(I:Nat->Loc->St->Prop)
 (h:∀i v loc st,l[i]? =some v->I i loc st->∃loc1 loc2 st2,cT loc t v=some loc1/\body loc1 st=some (.next,loc2,st2)/\I (i+1) loc2 st2){loc:Loc}{st:St}(Y:I 0 loc st):
 ∃loc' st',iP t body l loc st=some (.next,loc',st')/\I l.length loc' st':=by
 have:=JP l I h l.length 0 rfl loc st Y
 rwa [Ru]at this
theorem aO{C:dC}{c:CS}{l:List CS}{loc loc':Loc}{st st':St}{r:Option (Fl×Loc×St)}(h:mY C c loc st=some (.next,loc',st'))(U:dh C l loc' st'=r):dh C (c::l) loc st=r:=by exact(sZ.2 ..).trans (tZ h U)
theorem iB{C:dC}{c:CS}{l:List CS}{loc loc':Loc}{st st':St}{v:AV}(h:mY C c loc st=some (.ret v,loc',st')):dh C (c::l) loc st=some (.ret v,loc',st'):=by exact(sZ.2 ..).trans (tZ h rfl)
theorem y0{C:dC}{f:FD}{args:List AV}{v:AV}{loc:Loc}{st:St}(L:args.length=f.p)(h:dh C f.body (args++bw (f.y-f.p) .c) []=some (.ret v,loc,st)):iR C f args=some v:=by delta iR;exact ab (if_pos L) (ab h rfl)
@[simp] theorem XQ{B:Type}(a:B):l1 [a]=some a:=rfl
@[simp] theorem Ta{B:Type}:l0 ([]:List B)=some ():=rfl
section
variable{C:dC}{loc loc' loc1 loc2:Loc}{st st':St}{v a x y:AV}{e c ix it:CE}{t:kR}{b b1 b2:List CS}{n i:Nat}{l:List AV}
theorem gw(h:ev C st e loc=some v)(O:cT loc t v=some loc'):mY C (.cI t e) loc st=some (.next,loc',st):=by simp[(id oM),h,O]
theorem iO(h:ev C st e loc=some (.lst l))(Q:vB e=true)(O:ek loc i (.ref st.length)=some loc'):mY C (.new i e) loc st=some (.next,loc',st++ [some l]):=by simp[(id oM),h,Q,O]
theorem fW{op:cV}(J:ev C st (.a i) loc=some x)(U:ev C st e loc=some v)(S:oG x=true)(d:jv st op x v=some y)(O:ek loc i y=some loc'):mY C (.aug i op e) loc st=some (.next,loc',st):=by simp[(id oM),J,U,S,d,O]
theorem jK(h:ev C st e loc=some v)(J:ev C st (.a i) loc=some (.ref n))(U:(st[n]?).join=some l)(S:l.length<=cB):mY C (.app i e) loc st=some (.next,loc,st.set n (some (l++ [v]))):=by simp[(id oM),h,J,U,S]
theorem qr{k:Int}(h:ev C st e loc=some v)(J:ev C st c loc=some (.ref n))(U:ev C st ix loc=some (.int k))(S:(st[n]?).join=some l)(d:0<=k/\k<l.length/\l.length<=cB):mY C (.K c ix e) loc st=some (.next,loc,st.set n (some (l.set k.toNat v))):=by simp[(id oM),h,J,U,S,d]
theorem Cw{k:Int}{op:cV}(J:ev C st (.a i) loc=some (.ref n))(U:ev C st ix loc=some (.int k))(S:(st[n]?).join=some l)(d:l[k.toNat]? =some x)(h:ev C st e loc=some v)(O:jv st op x v=some y)(X:0<=k/\k<l.length/\l.length<=cB/\oG x=true):
 mY C (.Z i ix op e) loc st=some (.next,loc,st.set n (some (l.set k.toNat y))):=by
 simp only[(id oM),J,U,GW,lC,S,d,h,O,X,aj,af,and_self,if_true];rfl
theorem ji{l':List AV}(J:ev C st (.a i) loc=some (.ref n))(S:(st[n]?).join=some l)(d:jk (st.set n none) l=some (l',st'))(O:ek loc i (.lst l')=some loc'):mY C (.q i) loc st=some (.next,loc',st'):=by simp[(id oM),J,S,d,O]
theorem ra(h:ev C st e loc=some v)(Q:jP v=true):mY C (.ret e) loc st=some (.ret v,loc,st):=by simp[(id oM),h,Q]
theorem eu{r:Bool}{R:Option (Fl×Loc×St)}(h:ev C st c loc=some a)(Q:cU st a=some r)(G:(if r then dh C b1 loc st else dh C b2 loc st)=R):mY C (.ite c b1 b2) loc st=R:=by simp[(id oM),h,Q];exact G
theorem gT{R:Option (Fl×Loc×St)}(h:ev C st it loc=some a)(hi:fQ st a=some l)(G:iP t (λloc st=>dh C b loc st) l loc st=R):mY C (.m t it b) loc st=R:=by simp[(id oM),h,hi];exact G
theorem rb{R:Option (Fl×Loc×St)}(G:gh (λloc st=>do cU st (<-ev C st c loc)) (λloc st=>dh C b loc st) 200 loc st=R):mY C (.P c b) loc st=R:=by simp only[(id oM)];exact G
theorem jN(h:l.length<=cB):fQ st (.lst l)=some l:=by simp[(id yK),h]
end
theorem iD{l:List AV}:∀(st:St),dU l=true->jk st l=some (l,st):=by
 induction l with
 |nil=>intro st z;rfl
 |cons a l R=>
  intro st h;simp only[(id mz),au]at h;rcases a with⟨⟩<;>first|exact(aB h.1).elim|(show(if _=true then _ else _)=_;refine ab (if_pos h.1) (ab (R st h.2) ?_);rfl)
theorem mx:∀ns:List Int,dU (ns.map .int)=true:=by
 intro G
 induction G with
 |nil=>
  exact rfl
 |cons a r R=>
  exact mR.mp λa=>R
def eC(C:dC)(l:List CS)(loc:Loc)(st:St)(v:AV):Prop:=∃loc' st',dh C l loc st=some (.ret v,loc',st')
section
variable{C:dC}{loc loc':Loc}{st st':St}{c:CS}{l:List CS}{v:AV}
theorem eC.next(h:mY C c loc st=some (.next,loc',st'))(U:eC C l loc' st' v):eC C (c::l) loc st v:=
 ej U λa b e=>⟨a,b,aO h e⟩
theorem eC.ret{e:CE}(h:ev C st e loc=some v)(Q:jP v=true):eC C (.ret e::l) loc st v:=⟨loc,st,iB (ra h Q)⟩
theorem eC.run{f:FD}{args:List AV}(L:args.length=f.p)(h:eC C f.body (args++bw (f.y-f.p) .c) [] v):iR C f args=some v:=
 ej h λz z e=>y0 L e
theorem Jw:∀(b l:List CS) (loc:Loc) (st:St),dh C (b++l) loc st=(dh C b loc st).bind λq=>match q with
 |(.next,loc',st')=>dh C l loc' st'
 |r=>some r:=by
 intro G
 induction G with
 |nil=>
  exactλl loc st=>rfl
 |cons c b R=>
  intro l loc st;refine(sZ.2 ..).trans ?_;refine ab (sZ.2 ..) ?_;rcases mY C c loc st with _|⟨f,l',s'⟩
  ·rfl
  ·rcases f with _|_|v
   ·exact R l l' s'
   ·rfl
   ·rfl
theorem eC.ite{t:CE}{b1 b2:List CS}{a:AV}{r:Bool}(h:ev C st t loc=some a)(Q:cU st a=some r)(G:eC C ((if r then b1 else b2)++l) loc st v):eC C (.ite t b1 b2::l) loc st v:=by refine ej G λp q e=>⟨p,q,?_⟩;rw[Jw]at e;refine cA e ?_;simp only[af,(id sZ),(id oM),h,Q,aj,af];rcases r with⟨⟩<;>rfl
theorem eC.oq{t:CE}{b1 b2:List CS}(h:ev C st t loc=some (.bool true))(G:eC C (b1++l) loc st v):eC C (.ite t b1 b2::l) loc st v:=.ite (r:=true) h rfl G
theorem eC.jo{t:CE}{b1 b2:List CS}(h:ev C st t loc=some (.bool false))(G:eC C (b2++l) loc st v):eC C (.ite t b1 b2::l) loc st v:=.ite (r:=false) h rfl G
theorem eC.cI{t:kR}{e:CE}{x:AV}(h:ev C st e loc=some x)(O:cT loc t x=some loc')(U:eC C l loc' st v):eC C (.cI t e::l) loc st v:=.next (gw h O) U
end
noncomputable abbrev BK(k:Nat):dC:=Cn qW k
theorem O6{k:Nat}{args:List AV}:(BK (k+1)).O 13 args=iR (BK k) Ym args:=rfl
theorem yW(n:Nat)(h:n<=cB):lx [.int n]=some ((aG n).map λ(i:Nat)=>AV.int i):=by
 have U:n<=10000:=h;show(if(0:Int)<1/\(1:Int)<=1000/\(n:Int)-0<=cB/\Xv 0<=2^31/\(n:Int).natAbs<=2^31 then some ((gV 0 1 (rF 0 n 1)).map AV.int)else none)=_;refine ab (if_pos ⟨by decide,by decide,by show _<=(10000:Int);exact wx rfl rfl h,by decide,by lia⟩) ?_;have e:rF 0 n 1=n:=by delta rF;split<;>simp<;>lia
 refine ab e ?_;delta gV;simp[iJ]
theorem vN{n i:Nat}{v:AV}(h:((aG n).map λ(i:Nat)=>AV.int i)[i]? =some v){I:Prop}(N:i<n->v=.int i->I):I:=by simp only[nq,dg]at h;refine aC h λj Y o1=>?_;subst o1;refine aI (aQ.mp Y) λf Q=>?_;rw[eH]at f;rw[mG]at Q;subst Q;exact N f rfl
theorem N9{ns:List Int}{i:Nat}(h:i<ns.length):(ns.map AV.int)[i]? =some (.int ns[i]):=by simp[h]
theorem pd{st:St}{ns:List Int}{i:Nat}(h:i<ns.length)(V:ns.length<=cB):gF st (.lst (ns.map .int)) (.int i)=some (.int ns[i]):=by have U:(i:Int)<ns.length:=fh.mpr h;simp[(id pb),ll,V,U,h]
theorem Nu(k:Nat)(ns:List Int)(Q:ns.length<=63){I:Prop}(N:∀(L:List Int),L.length=11->(BK (k+1)).O 13 [.lst (ns.map .int)]=some (.lst (L.map .int))->I):I:=by
 have g:ns.length<=cB:=aP Q (by decide);refine eb (AA (t:=.bX 2) (body:=λloc st=>dh (BK k) [.Z 1 (.f .Mod (.a 2) (.d 11)) .Add (.sub (.a 0) (.a 2))] loc st)
  ((aG ns.length).map λ(i:Nat)=>AV.int i) (λi loc st=>∃L:List Int,L.length=11/\∃p,loc= [.lst (ns.map .int),.ref 0,p]/\st= [some (L.map .int)]) (λi v loc st D j=>by
    obtain⟨L,V,p,rfl,rfl⟩:=j;refine vN D λhi H=>?_;subst H;have T:(i:Int).fmod 11=((i% 11:Nat):Int):=by refine ab (bA _ (by decide)) ?_;rfl
    have Y:i% 11<L.length:=by lia
    refine⟨[.lst (ns.map .int),.ref 0,.int i],[.lst (ns.map .int),.ref 0,.int i],[some ((L.set (i% 11) (L[i% 11]+ns[i])).map .int)],rfl,?_,⟨_,ab lK<|V,_,rfl,rfl⟩⟩;refine aO (Cw (n:=0) (k:=((i% 11:Nat):Int)) (l:=L.map .int) (x:=.int L[i% 11]) (v:=.int ns[i]) (y:=.int (L[i% 11]+ns[i])) (by rfl) (by simp[(id fD),(id cw),binI,T]) rfl (ab (bK ..)<|N9 Y)
     (by simp[(id fD),pd hi g]) (by rfl) ⟨by exact aX (i% 11),by simp;exact HP Y,by simp[V,cB],rfl⟩) ?_
    refine ab (bK ..) (ab UL ?_);rfl) (loc:= [.lst (ns.map .int),.ref 0,.c]) (st:= [some [.int 1422165,.int 3,.int 11,.int 0,.int 14,.int 1,.int 1,.int 4,.int 2,.int 5,.int (-1)]]) ⟨[1422165,3,11,0,14,1,1,4,2,5,-1],rfl,_,rfl,rfl⟩) λloc' st' J U=>?_
 obtain⟨L,V,p,rfl,rfl⟩:=U;exact N L V<|ab O6<|y0 (loc:= [.lst (ns.map .int),.lst (L.map .int),p]) (st:= [none]) rfl<|aO (loc':= [.lst (ns.map .int),.ref 0,.c]) (st':= [some [.int 1422165,.int 3,.int 11,.int 0,.int 14,.int 1,.int 1,.int 4,.int 2,.int 5,.int (-1)]]) rfl<|aO (gT (a:=.lst ((aG ns.length).map λ(i:Nat)=>AV.int i)) (l:=(aG ns.length).map λ(i:Nat)=>AV.int i) (by simp[(id fD),(id jW),(id mN),g,yW]) (jN (by simpa using g)) J)<|aO (ji (n:=0) (l:=L.map .int) (l':=L.map .int) (st':= [none]) (loc':= [.lst (ns.map .int),.lst (L.map .int),p]) (by rfl) rfl (iD _ (mx L)) rfl)<|iB (ra (by rfl) (by simp[(id qC),mx]))
theorem O7{k:Nat}{args:List AV}:(BK (k+1)).O 14 args=iR (BK k) Yn args:=rfl
theorem O8{k:Nat}{args:List AV}:(BK (k+1)).O 15 args=iR (BK k) Yo args:=rfl
def Xq:List Int->Prop
 | []=>False
 | [_]=>False
 | [x,y]=>x=1/\y=0
 |x::y::r=>1<=x/\x<=y+1/\Xq (y::r)
theorem OP:∀{r:List Int} {x:Int},Xq (x::r)->1<=x
 | [],x,h=>h.elim
 | [y],x,h=>by have:=h.1;exact UJ (id (dN this))
 |y::z::r,x,h=>h.1
theorem KQ:∀{r:List Int} {x:Int},Xq (x::r)->x<=r.length
 | [],x,h=>h.elim
 | [y],x,h=>by have:=h.1;simp;exact UJ this
 |y::z::r,x,h=>by
  have:=KQ h.2.2;have:=h.2.1;simp at this⊢;simp at*;lia
theorem LM{st:St}{r:List Int}{y:Int}(V:r.length<cB)(J:st= [some (((y::r).reverse).map .int)]):gF st (.ref 0) (.int (-1))=some (.int y):=by
 refine ab J ?_;have e:ll (-1) (r.length+1)=some r.length:=by delta ll;refine ab (if_pos V) (ab (if_neg (of_decide_eq_false rfl)) (ab (if_pos (by lia)) ?_));congr 1;lia
 simp[(id pb),e]
theorem Kr{B:Type}{l:List B}{n:Nat}(h:l.length=n+1){I:Prop}(N:∀a r,l=a::r->r.length=n->I):I:=by
 cases l with
 |nil=>exact nomatch h
 |cons a r=>exact N a r rfl (B7 h)
theorem Jj(k:Nat)(c:Int){I:Prop}(N:∀(a b d A:Int),1<=a->a<=2->1<=b->b<=a+1->1<=d->d<=b+1->(BK (k+1)).O 14 [.int c]=some (.tup [.lst [.int 0,.int 1,.int a,.int b,.int d],.int A])->I):I:=by
 refine eb (AA (t:=.bX 2) (body:=λloc st=>dh (BK k) [.cI (.bX 3) (.f .Add (.sub (.a 1) (.neg (.d 1))) (.d 1)),.app 1 (.f .Add (.d 1) (.f .Mod (.a 0) (.a 3))),.aug 0 .FloorDiv (.a 3)] loc st)
  ((aG 3).map λ(i:Nat)=>AV.int i) (λi loc st=>∃(R:List Int) (x:Int) (p q:AV),R.length=i+2/\Xq R/\loc= [.int x,.ref 0,p,q]/\st= [some (R.reverse.map .int)]) (λi v loc st D j=>by
    refine rj j λR x p q X Y H u2=>?_;clear j;subst H;subst u2;refine vN D λhi H=>ab H ?_;rcases R with _|⟨y,r⟩
    ·exact Y.elim
    ·have h:=OP Y;have M:r.length<cB:=by simp at X;simp[cB];omega+splitDisjunctions
     have W:0<=x.fmod (y+1):=bQ _ (by omega+splitDisjunctions);have f:x.fmod (y+1)<y+1:=cJ _ (by omega+splitDisjunctions);refine⟨[.int x,.ref 0,.int i,q],[.int (x.fdiv (y+1)),.ref 0,.int i,.int (y+1)],[some (((1+x.fmod (y+1))::y::r).reverse.map .int)],rfl,?_,⟨_,_,_,_,by simp at X⊢;omega+splitDisjunctions,?_,rfl,rfl⟩⟩
     ·refine aO (gw (v:=.int (y+1)) (by
       have:=LM (st:= [some ((y::r).reverse.map .int)]) M rfl;simp only[(id fD),lC,aK,af,bo,bE,aj,af,this,(id cw),binI,aK]) rfl) ?_
      refine aO (jK (v:=.int (1+x.fmod (y+1))) (n:=0) (l:=(y::r).reverse.map .int) (by
       have:¬y+1=0:=by omega+splitDisjunctions
       simp[(id fD),(id cw),binI,this]) (by rfl) rfl (by simp;omega+splitDisjunctions)) ?_
      refine aO (fW (x:=.int x) (v:=.int (y+1)) (y:=.int (x.fdiv (y+1))) (by rfl) (by rfl) rfl (by
       have w:¬(y+1=0\/9000<=(y+1).natAbs.log2):=by have:=KQ Y;simp at X;have J:(y+1).natAbs.log2<17:=(i0 (by(clear X this f W M Y H hi D N;omega+splitDisjunctions))).mpr (by(clear f W M Y H D N;omega+splitDisjunctions));omega+splitDisjunctions
       simp only[(id cw),binI,if_neg w,aK]) rfl) ?_
      simp[(id sZ)]
     ·rcases r with _|⟨z,r⟩
      ·exact Y.elim
      ·exact⟨by(clear M Y X f h H hi D N;omega+splitDisjunctions),by(clear M Y X W h H hi D N;omega+splitDisjunctions),Y⟩) (loc:= [.int c,.ref 0,.c,.c]) (st:= [some [.int 0,.int 1]]) ⟨[1,0],c,.c,.c,rfl,⟨rfl,rfl⟩,rfl,rfl⟩) λloc' st' J U=>?_
 refine rj U λR x p q X Y P o5=>?_;clear U;subst P;subst o5;refine Kr (n:=4) X λd r e m=>Kr (n:=3) m λb s e2 K=>Kr (n:=2) K λa r3 L T=>Kr (n:=1) T λo E F C=>Kr (n:=0) C λz G B g=>?_;have e:R= [d,b,a,o,z]:=by rw[e,e2,L,F,B,dD g]
 clear e2 L F B m K T C g;subst e;refine Vv Y λS u O h6 V Z w Q=>?_;clear Y;subst w Q;refine N a b d x V (by omega+splitDisjunctions) O h6 S u ?_;simp only[O7];refine y0 (loc:= [.int x,.lst [.int 0,.int 1,.int a,.int b,.int d],p,q]) (st:= [none]) rfl<|aO (loc':= [.int c,.ref 0,.c,.c]) (st':= [some [.int 0,.int 1]]) rfl<|aO (gT (a:=.lst ((aG 3).map λ(i:Nat)=>AV.int i)) (l:=(aG 3).map λ(i:Nat)=>AV.int i) (by have:=yW 3 (by decide);refine ab this ?_;rfl) (jN (by decide)) J) ?_
 exact aO (ji (n:=0) (l:= [.int 0,.int 1,.int a,.int b,.int d]) (l':= [.int 0,.int 1,.int a,.int b,.int d]) (st':= [none]) (loc':= [.int x,.lst [.int 0,.int 1,.int a,.int b,.int d],p,q]) (by rfl) rfl (iD _ rfl) rfl)<|iB (ra (by rfl) rfl)
noncomputable def lP:List Int:= [173,847,6150,6155,6156,6157,8203,8204,8205,8288,65279,65024,65025,65026,65027,65028,65029,65030,65031,65032,65033,65034,65035,65036,65037,65038,65039]
noncomputable def lO:List Int:= [119808,119860,119912,120016,120172,120224,120276,120328,120380,120432]
noncomputable def ic:List Int:= [172,174,846,848,6149,6151,6154,6158,8202,8206,8287,8289,65023,65040,65278,65280]
noncomputable def iK:List Int:= [102,104,115,116]
noncomputable def Em:List Int:= [64258,13200,13276,8482]
noncomputable def HC:List Int:= [108,122,118,109]
noncomputable def dY(l:List Int)(i:Nat):Nat:=(l[i]?.getD 0).toNat
noncomputable def Oy(p:Nat)(c s:Int):Nat:=((4*(c.fdiv 5).fmod 6+p+s).fmod 27).toNat
noncomputable def Oz(c:Int):Nat:=((c.fdiv 5).fmod 10).toNat
noncomputable def MN(p:Nat)(c:Int):Nat:=4*((c.fdiv 5).fmod 4).toNat+p
noncomputable def Tp(p:Nat)(c s:Int):List Nat×List Nat:=
 if c.fmod 5=0 then([dY iK p-32],[dY iK p])
 else if c.fmod 5=1 then([dY iK p,dY lP (Oy p c s)],[dY iK p])
 else if c.fmod 5=2 then([dY lO (Oz c)+dY iK p-97],[dY iK p])
 else if c.fmod 5=3 then([dY Em p],[dY iK p,dY HC p])
 else([dY iK p,dY ic (MN p c)],[dY iK p,dY ic (MN p c)])
theorem je{x n:Int}(Q:0<n):x.fmod n=((x.fmod n).toNat:Int)/\(x.fmod n).toNat<n.toNat:=by have Y:0<=x.fmod n:=bQ _ Q;exact⟨(qN Y).symm,(Int.toNat_lt_toNat Q).mpr (cJ _ Q)⟩
theorem zg{st:St}{ns:List Int}{i:Nat}{j:Int}(Y:j=(i:Int))(h:i<ns.length)(V:ns.length<=cB):gF st (.lst (ns.map .int)) (.int j)=some (.int ns[i]):=by subst Y;exact pd h V
theorem V6{st:St}:∀{p:Nat},p<4->gF st (.str [102,104,115,116]) (.int p)=some (.str [dY iK p]):=λ{p} B=>Tj B rfl rfl rfl rfl
theorem Xa{st:St}:∀{p:Nat},p<4->gF st (.str [108,122,118,109]) (.int p)=some (.str [dY HC p]):=λ{p} B=>Tj B rfl rfl rfl rfl
theorem Ug:∀p:Nat,p<4->qJ [dY iK p]= [dY iK p-32]:=by decide+kernel
theorem SE:∀i:Nat,i<27->∃h:i<lP.length,0<=lP[i]/\lP[i]<=1114111/\lP[i].toNat=dY lP i:=by decide+kernel
theorem T5:∀i:Nat,i<16->∃h:i<ic.length,0<=ic[i]/\ic[i]<=1114111/\ic[i].toNat=dY ic i:=by decide+kernel
theorem VX:∀i:Nat,i<4->∃h:i<Em.length,0<=Em[i]/\Em[i]<=1114111/\Em[i].toNat=dY Em i:=by decide+kernel
theorem SA:∀i:Nat,i<10->∃h:i<lO.length,∀p:Nat,p<4->0<=lO[i]+dY iK p-97/\lO[i]+dY iK p-97<=1114111/\(lO[i]+dY iK p-97).toNat=dY lO i+dY iK p-97:=by decide+kernel
section
variable{C:dC}{st:St}{loc:Loc}{e:CE}
theorem yv{i:Int}{n:Nat}(h:ev C st e loc=some (.int i))(Y:0<=i)(J:i<=1114111)(Q:i.toNat=n):ev C st (.S e) loc=some (.str [n]):=by subst Q;simp[(id fD),h,Y,J]
theorem dB{a:CE}{x y v:AV}(J:ev C st a loc=some x)(U:ev C st e loc=some y)(S:gF st x y=some v):ev C st (.sub a e) loc=some v:=by simp[(id fD),J,U,S]
theorem eN{op:cV}{a:CE}{x y v:AV}(J:ev C st a loc=some x)(U:ev C st e loc=some y)(S:jv st op x y=some v):ev C st (.f op a e) loc=some v:=by simp[(id fD),J,U,S]
theorem cc{op:kF}{a:CE}{x y:AV}{r:Bool}(J:ev C st a loc=some x)(U:ev C st e loc=some y)(S:fk st op x y=some r):ev C st (.cmp op a e) loc=some (.bool r):=by simp[(id fD),J,U,S]
theorem rf{op P:kF}{a b:CE}{x y z:AV}{r:Bool}(J:ev C st a loc=some x)(U:ev C st b loc=some y)(S:fk st op x y=some true)(d:ev C st e loc=some z)(O:fk st P y z=some r):ev C st (.C op P a b e) loc=some (.bool r):=by simp[(id fD),J,U,S,d,O]
theorem uZ{op P:kF}{a b:CE}{x y:AV}(J:ev C st a loc=some x)(U:ev C st b loc=some y)(S:fk st op x y=some false):ev C st (.C op P a b e) loc=some (.bool false):=by simp[(id fD),J,U,S]
theorem vc{x:AV}{r:Bool}(J:ev C st e loc=some x)(U:cU st x=some r):ev C st (.B e) loc=some (.bool (!r)):=by simp[(id fD),J,U]
theorem vd{a:CE}{x y:AV}{r:Bool}(J:ev C st a loc=some x)(U:cU st x=some false)(S:ev C st e loc=some y)(d:cU st y=some r):ev C st (.bor [a,e]) loc=some (.bool r):=by rcases r with⟨⟩<;>simp[(id fD),(id Ju),J,U,S,d]
theorem yu{a:CE}{x y:AV}{r:Bool}(J:ev C st a loc=some x)(U:cU st x=some true)(S:ev C st e loc=some y)(d:cU st y=some r):ev C st (.band [a,e]) loc=some (.bool r):=by rcases r with⟨⟩<;>simp[(id fD),(id yt),J,U,S,d]
theorem mq{a:CE}{l:List CE}{x:AV}(J:ev C st a loc=some x)(U:cU st x=some false):ev C st (.band (a::l)) loc=some (.bool false):=by simp[(id fD),(id yt),J,U]
theorem Jz{a b:CE}{x v:AV}(J:ev C st e loc=some x)(U:cU st x=some true)(S:ev C st a loc=some v):ev C st (.N e a b) loc=some v:=by simp[(id fD),J,U,S]
theorem Cy{a b:CE}{x v:AV}(J:ev C st e loc=some x)(U:cU st x=some false)(S:ev C st b loc=some v):ev C st (.N e a b) loc=some v:=by simp[(id fD),J,U,S]
theorem px{a:CE}{x y:AV}(J:ev C st a loc=some x)(U:ev C st e loc=some y):ev C st (.tuple [a,e]) loc=some (.tup [x,y]):=by simp[(id fD),(id jW),J,U]
end
theorem To(k p:Nat)(c s:Int)(B:p<4):(BK (k+1)).O 15 [.int p,.int c,.int s]=some (.tup [.str (Tp p c s).1,.str (Tp p c s).2]):=by
 have E:(c.fmod 5).toNat<5:=(je (x:=c) (n:=5) (by decide)).2;have A:=(je (x:=c) (n:=5) (by decide)).1;have T:∀(loc:Loc),loc[1]? =some (.int c)->∀r:Int,ev (BK k) [] (.cmp .Eq (.f .Mod (.a 1) (.d 5)) (.d r)) loc=some (.bool (c.fmod 5==r)):=by intro loc h r;simp[(id fD),h,(id cw),binI,(id cb),(id jJ)]
 have w:¬((5:Int)=0\/9000<=(5:Int).natAbs.log2):=by decide
 refine ab O8<|eC.run rfl<|.cI (loc':= [.int p,.int c,.int s,.lst (lP.map .int),.c,.c,.c,.c,.c]) (x:=.lst (lP.map .int)) rfl rfl<|.cI (loc':= [.int p,.int c,.int s,.lst (lP.map .int),.lst (lO.map .int),.c,.c,.c,.c]) (x:=.lst (lO.map .int)) rfl rfl<|.cI (loc':= [.int p,.int c,.int s,.lst (lP.map .int),.lst (lO.map .int),.lst (ic.map .int),.c,.c,.c]) (x:=.lst (ic.map .int)) rfl rfl<|.cI (loc':= [.int p,.int c,.int s,.lst (lP.map .int),.lst (lO.map .int),.lst (ic.map .int),.str [dY iK p],.c,.c]) (x:=.str [dY iK p]) (by simp only[(id fD),af,aj,af,bo,V6 B]) rfl ?_;refine .cI (loc':= [.int p,.int c,.int s,.lst (lP.map .int),.lst (lO.map .int),.lst (ic.map .int),.str [dY iK p],.int (c.fdiv 5),.c]) (x:=.int (c.fdiv 5)) (by rfl) rfl ?_;delta Tp;by_cases Y:c.fmod 5=0
 ·refine .oq (by refine ab (T _ rfl ..) ?_;simp[Y]) ?_;simp only[Y,if_true];exact .ret (by simp[(id fD),(id jW),Ug p B,cB]) rfl
 refine .jo (by refine ab (T _ rfl ..) ?_;simp[Y]) ?_;refine ab (if_neg Y) ?_;by_cases J:c.fmod 5=1
 ·refine .oq (by refine ab (T _ rfl ..) ?_;simp[J]) ?_;simp only[J,if_true];refine aN (je (x:=4*(c.fdiv 5).fmod 6+p+s) (n:=27) (by decide)) λD V=>gB (SE (Oy p c s) V) λm K F C=>.ret (px (eN (x:=.str [dY iK p]) (y:=.str [dY lP (Oy p c s)]) rfl (yv (dB (x:=.lst (lP.map .int)) rfl (y:=.int ((4*(c.fdiv 5).fmod 6+p+s).fmod 27)) ?_ (zg D m (by decide))) K F C) rfl) rfl) rfl;simp[(id fD),(id cw),binI]
 refine .jo (by refine ab (T _ rfl ..) ?_;simp[J]) ?_;refine ab (if_neg J) ?_;by_cases U:c.fmod 5=2
 ·refine .oq (by refine ab (T _ rfl ..) ?_;simp[U]) ?_;simp only[U,if_true];refine aN (je (x:=c.fdiv 5) (n:=10) (by decide)) λD V=>aI (SA (Oz c) V) λm g=>eY (g p B) λK F C=>.ret (px (yv (i:=lO[Oz c]+dY iK p-97) (eN (x:=.int (lO[Oz c]+dY iK p)) (y:=.int 97) (eN (x:=.int lO[Oz c]) (y:=.int (dY iK p:Nat)) (dB (x:=.lst (lO.map .int)) rfl (y:=.int ((c.fdiv 5).fmod 10)) ?_ (zg D m (by decide))) ?_ rfl) rfl rfl) K F C) rfl) rfl
  ·simp[(id fD),(id cw),binI]
  ·simp[(id fD)]
 refine .jo (by refine ab (T _ rfl ..) ?_;simp[U]) ?_;refine ab (if_neg U) ?_;by_cases S:c.fmod 5=3
 ·refine .oq (by refine ab (T _ rfl ..) ?_;simp[S]) ?_;simp only[S,if_true];exact gB (VX p B) λm K F C=>.ret (px (yv (dB (x:=.lst (Em.map .int)) rfl (y:=.int p) rfl (zg rfl m (by decide))) K F C) (eN (x:=.str [dY iK p]) (y:=.str [dY HC p]) rfl (dB (x:=.str [108,122,118,109]) rfl (y:=.int p) rfl (Xa B)) rfl)) rfl
 refine .jo (by refine ab (T _ rfl ..) ?_;simp[S]) ?_;refine ab (if_neg S)<|aN (je (x:=c.fdiv 5) (n:=4) (by decide)) λD V=>gB (T5 (MN p c) (by delta MN;omega+splitDisjunctions)) λm K F C=>?_;refine .cI (loc':= [.int p,.int c,.int s,.lst (lP.map .int),.lst (lO.map .int),.lst (ic.map .int),.str [dY iK p],.int (c.fdiv 5),.str [dY ic (MN p c)]]) (x:=.str [dY ic (MN p c)])
  (yv (dB (x:=.lst (ic.map .int)) rfl (y:=.int (4*(c.fdiv 5).fmod 4+p)) ?_ (zg (by delta MN;omega+splitDisjunctions) m (by decide))) K F C) rfl ?_
 ·simp[(id fD),(id cw),binI]
 exact .ret (px rfl rfl) rfl
theorem oH{x:Int}(Z:0<=x)(h:Nat):E8 x (2^h-1)=x% 2^h:=by
 refine aI (dW Z) λm o1=>?_;subst o1;clear Z;have B:((2:Int)^h)=((2^h:Nat):Int):=by push_cast;rfl
 have J:0<2^h:=pg h;have e:((2:Int)^h-1)=((2^h-1:Nat):Int):=by refine ab B ?_;omega+splitDisjunctions
 refine ab e (ab B (ab (bitAnd_pp (aX _) (aX _)) ?_));simp only[bK];exact ab (Nat.and_two_pow_sub_one_eq_mod ..) (cA (MS ..) rfl)
theorem wQ{x y:Int}(Z:0<=x){h:Nat}(F:0<=y)(G:y<2^h):HN (x*2^h) y=x*2^h+y:=by
 refine aI (dW Z) λm r=>ab r<|aI (dW F) λj A=>?_;subst A;have Y:j<2^h:=fh.mp G;refine ab (bitOr_and ..) (cA (pf ..) (ab (bitAnd_pp (aX _) (aX _)) ?_));have e:m*2^h&&&j=0:=by
  apply Fi;refineλi=>ab (Qf ..) (ab (BH ..) (ab (Nat.zero_testBit ..) ?_));by_cases hi:h<=i
  ·simp only[Nat.testBit_lt_two_pow (be Y (i6 (by decide) hi)),Bool.and_false]
  ·simp[hi]
 exact ab e<|dN ((λ{a b}=>Int.neg_inj.mp) rfl)
theorem lN(x:Int)(h:Nat):x.fdiv (2^h)=x/2^h:=bN _ (aF (Xe (by decide)))
theorem fY(h:Nat):(0:Int)<2^h:=Xe (by decide)
theorem kh{x:Int}{m:Nat}(h:ag x<=m):x.natAbs<2^m:=e8.mp h
theorem ke{a b q r:Int}(O:0<b)(e:a=q*b+r)(Y:0<=r)(J:r<b):a.fdiv b=q/\a.fmod b=r:=by
 refine ab (bN _ (aF O)) (ab (bA _ (aF O)) ?_);refine ab e ?_;constructor
 ·exact ab (UH ..)<|ab (BV _ _ (cH O))<|ab (Int.ediv_eq_zero_of_lt Y J)<|BW q
 ·exact ab (UH ..) (ab (Int.add_mul_emod_self_right ..) (ab (Int.emod_eq_of_lt Y J) rfl))
theorem gM{G:Loc->St->Option Bool}{body:Loc->St->Option (Fl×Loc×St)}{n:Nat}{loc:Loc}{st:St}(h:G loc st=some false):gh G body (n+1) loc st=some (.next,loc,st):=by exact(zp.2 ..).trans (tZ h rfl)
theorem pH{G:Loc->St->Option Bool}{body:Loc->St->Option (Fl×Loc×St)}{n:Nat}{loc loc':Loc}{st st':St}{R:Option (Fl×Loc×St)}(h:G loc st=some true)(U:body loc st=some (.next,loc',st'))(S:gh G body n loc' st'=R):gh G body (n+1) loc st=R:=by exact(zp.2 ..).trans (tZ h (tZ U S))
theorem Lo{k:Nat}{args:List AV}:(BK (k+1)).O 2 args=iR (BK k) f2 args:=rfl
theorem TO{k:Nat}{args:List AV}:(BK (k+1)).O 3 args=iR (BK k) f3 args:=rfl
theorem TP{k:Nat}{args:List AV}:(BK (k+1)).O 6 args=iR (BK k) f6 args:=rfl
theorem C8{k:Nat}{args:List AV}:(BK (k+1)).O 7 args=iR (BK k) f7 args:=rfl
theorem Yy(k:Nat):(BK k).Y= [40,2,1,4000]:=rfl
theorem uV(k:Nat){a b n:Int}(h:(ag a:Int)-n<=4000)(O:¬(b=0\/9000<=b.natAbs.log2)):(BK (k+1)).O 2 [.int a,.int b,.int n]=some (.tup [.int (a.fdiv b),.int (a.fmod b)]):=by simp only[Lo];refine eC.run rfl<|.oq (by simp[(id fD),(id cw),binI,(id cb),Yy,h])<|.ret (by simp only[(id fD),lC,af,bo,bE,da,if_neg O]) rfl
theorem V4(k:Nat)(a12 a3 b b1 b2 n q r:Int)(C: -2*b<=r)(J:r<b)(O:0<b)(m:Nat){I:Prop}(N:∀Q f,Q*b+f=q*b+r->0<=f->f<b->gh (λloc st=>do cU st (<-ev (BK k) st (.cmp .Lt (.a 7) (.d 0)) loc)) (λloc st=>dh (BK k) [.aug 6 .Sub (.d 1),.aug 7 .Add (.a 2)] loc st) (m+3) [.int a12,.int a3,.int b,.int b1,.int b2,.int n,.int q,.int r] []=
 some (.next,[.int a12,.int a3,.int b,.int b1,.int b2,.int n,.int Q,.int f],[])->I):I:=by
 have done:∀(q r:Int) (m:Nat),0<=r->gh (λloc st=>do cU st (<-ev (BK k) st (.cmp .Lt (.a 7) (.d 0)) loc)) (λloc st=>dh (BK k) [.aug 6 .Sub (.d 1),.aug 7 .Add (.a 2)] loc st) (m+1) [.int a12,.int a3,.int b,.int b1,.int b2,.int n,.int q,.int r] []=
  some (.next,[.int a12,.int a3,.int b,.int b1,.int b2,.int n,.int q,.int r],[]):=λq r m h=>gM (by
  have:decide (r<0)=false:=by simpa using h
  simp[(id fD),(id cb),(id lY),this])
 have A:∀(q r:Int) (m:Nat) (R:Option (Fl×Loc×St)),r<0->gh (λloc st=>do cU st (<-ev (BK k) st (.cmp .Lt (.a 7) (.d 0)) loc)) (λloc st=>dh (BK k) [.aug 6 .Sub (.d 1),.aug 7 .Add (.a 2)] loc st) m [.int a12,.int a3,.int b,.int b1,.int b2,.int n,.int (q-1),.int (r+b)] []=R->
  gh (λloc st=>do cU st (<-ev (BK k) st (.cmp .Lt (.a 7) (.d 0)) loc)) (λloc st=>dh (BK k) [.aug 6 .Sub (.d 1),.aug 7 .Add (.a 2)] loc st) (m+1) [.int a12,.int a3,.int b,.int b1,.int b2,.int n,.int q,.int r] []=R:=λq r m R h Y=>pH (by
  have:decide (r<0)=true:=by simpa using h
  simp[(id fD),(id cb),(id lY),this]) (by rfl) Y
 by_cases c:0<=r
 ·exact N q r rfl c J (done q r _ c)
 ·by_cases B:0<=r+b
  ·refine N (q-1) (r+b) ?_ B (by lia) (A q r _ _ (uy c) (done _ _ _ B));refine ab (lg ..) ?_;lia
  ·refine N (q-1-1) (r+b+b) ?_ (by lia) (by lia) (A q r _ _ (uy c) (A _ _ _ _ (uy B) (done _ _ _ (by lia))));refine ab (lg ..) (ab (lg ..) ?_);lia
theorem NK{P b1 b2 q H a3:Int}(m:0<P)(j:b2<P)(U:P<=2*b1)(R:0<=q)(D:q<P)(A:0<=b2)(G:0<=H)(L:0<=a3): -2*(b1*P+b2)<=H*P+a3-q*b2:=by have e1:q*b2<=P*P:=Int.mul_le_mul (aF D) (aF j) A (aF m);have e2:P*P<=2*b1*P:=bl U (aF m);have c:0<=H*P:=gP G (aF m);lia
theorem Vq(k h:Nat){a12 a3 b1 b2:Int}(hh:1<=h)(s:h<=4000)(F:(2:Int)^h<=2*b1)(X:b1<2^h)(j:0<=b2)(t:b2<2^h)(Z:0<=a12)(L:a12<b1*2^h+b2)(h3:0<=a3)(w:a3<2^h):
 (BK (k+2)).O 3 [.int a12,.int a3,.int (b1*2^h+b2),.int b1,.int b2,.int h]=some (.tup [.int ((a12*2^h+a3).fdiv (b1*2^h+b2)),.int ((a12*2^h+a3).fmod (b1*2^h+b2))]):=by
 have m:=fY h;have A:0<b1:=by lia
 generalize O:b1*2^h+b2=b at*;have I:0<b:=Int.lt_of_le_of_lt Z L;refine ab TO ?_;have S:∃q H:Int,a12=q*b1+H/\0<=q/\q<2^h/\0<=H/\(a12*2^h+a3)-q*b<b/\H<2^h*2^h/\
  ∀(l:List CS) (v:AV),eC (BK (k+1)) l [.int a12,.int a3,.int b,.int b1,.int b2,.int h,.int q,.int H] [] v->
   eC (BK (k+1)) (.ite (.cmp .Eq (.f .RShift (.a 0) (.a 5)) (.a 3)) [.cI (.many [6,7]) (.tuple [(.f .Sub (.f .LShift (.d 1) (.a 5)) (.d 1)),(.f .Add (.f .Sub (.a 0) (.f .LShift (.a 3) (.a 5))) (.a 3))])] [.cI (.many [6,7]) (.call 2 [(.a 0),(.a 3),(.a 5)])]::l)
    [.int a12,.int a3,.int b,.int b1,.int b2,.int h,.c,.c] [] v:=by
  have P:ag b1<=h:=e8.mpr (by grind)
  by_cases V:a12/2^h=b1
  ·refine⟨2^h-1,a12-b1*2^h+b1,?_,Int.sub_nonneg_of_le m,by lia,?_,?_,?_,λl v Y=>?_⟩
   ·refine ab (lg ..) (ab (bR (2^h) b1) ?_);lia
   ·have:=Int.ediv_mul_le a12 (cH m);rw[V]at this;lia
   ·have e1:(a12+1)*2^h<=b*2^h:=bl (gq L) (aF m);lia
   ·have e1:b1*2^h<2^h*2^h:=fG X m;have:(2:Int)^h<=2^h*2^h:=by
     have:=bl (show(1:Int)<=2^h by exact iU m) (aF m);lia
    have e6:2*2^h<=(2:Int)^h*2^h:=bl (by
     have J:2^1<=2^h:=i6 (by decide) hh;have B:((2:Int)^h)=((2^h:Nat):Int):=by push_cast;rfl
     exact wx rfl B J) (aF m)
    lia
   ·refine .oq (by simp[(id fD),(id cw),binI,(id cb),(id jJ),lN,V]) ?_;have o:(ag 1:Int)+h<=2^27:=by
     have:ag 1=1:=by rfl
     lia
    have d:(ag b1:Int)+h<=2^27:=by lia
    refine .cI (x:=.tup [.int (2^h-1),.int (a12-b1*2^h+b1)]) ?_ rfl Y;simp only[(id fD),aK,af,(id jW),bo,bE,aj,af,(id cw),binI,aX,o,d,and_self,if_true,aK,bK,iV,aJ]
  ·have y:a12/2^h<b1:=by
    have:a12/2^h<=b1:=by have:a12/2^h<b1+1:=cR m (by refine ab (g8 ..) ?_;lia);exact(Int.add_le_add_iff_right 1).mp this
    exact Std.lt_of_le_of_ne this V
   have i:a12<b1*2^h:=(Int.ediv_lt_iff_lt_mul m).mp y;have D:a12.fdiv b1=a12/b1:=bN _ (aF A);have M:=dk a12 A;refine⟨a12.fdiv b1,a12.fmod b1,?_,?_,?_,?_,?_,?_,λl v Y=>?_⟩
   ·exact ab D<|ab (bA _ (aF A))<|ab (bR ..)<|dN (cq a12 b1)
   ·exact ab D<|eR Z (aF A)
   ·exact ab D<|cR A (ab (bR ..)<|i)
   ·exact ab (bA _ (aF A))<|(dI a12 (cH A))
   ·refine ab D ?_;have e1:(a12% b1+1)*2^h<=b1*2^h:=bl (gq M) (aF m);have e2:(b1*(a12/b1)+a12% b1)*2^h=a12*2^h:=ab (cq a12 b1) rfl;have c:0<=(a12/b1)*b2:=gP (eR Z (aF A)) j;have e4:(a12/b1)*b=(a12/b1)*(b1*2^h)+(a12/b1)*b2:=cA O (ab (nk ..) rfl);lia
   ·refine ab (bA _ (aF A)) ?_;have:(2:Int)^h<=2^h*2^h:=by
     have:=bl (show(1:Int)<=2^h by exact iU m) (aF m);lia
    lia
   ·refine .jo (by simp[(id fD),(id cw),binI,(id cb),(id jJ),lN,V]) ?_;have G:(ag a12:Int)-h<=4000:=by
     have:ag a12<=h+h:=e8.mpr (by
      have B:((2:Int)^h)=((2^h:Nat):Int):=by push_cast;rfl
      have e1:a12<2^h*2^h:=ou i (fG X m);rw[B,<-pf,<-qd]at e1;grind)
     lia
    have e:¬(b1=0\/9000<=b1.natAbs.log2):=by have:b1.natAbs.log2<h:=(i0 (by grind)).mpr (e8.mp P);lia
    refine .cI (x:=.tup [.int (a12.fdiv b1),.int (a12.fmod b1)]) ?_ rfl Y;have:=uV k (a:=a12) (b:=b1) (n:=h) G e;exact this
 refine Vw S λq H k1 K T C g k6 k7=>?_;have u:H*2^h+a3-q*b2=(a12*2^h+a3)-q*b:=by refine ab k1 (cA O (ab (g8 ..) (ab (nk ..) (ab (fL ..) ?_))));lia
 have E:=NK m t F K T j C h3;simp only[O]at E;refine V4 k.succ a12 a3 b b1 b2 h q (H*2^h+a3-q*b2) E (ab u<|g) I 197 λQ f l1 l2 l3 l4=>aN (ke (a:=a12*2^h+a3) (b:=b) (q:=Q) (r:=f) I (by grind) l2 l3) λd1 N=>ab d1<|ab N<|eC.run rfl (k7 _ _ ?_);have p:(ag H:Int)+h<=2^27:=by
  have:ag H<=h+h:=e8.mpr (by
   have B:((2:Int)^h)=((2^h:Nat):Int):=by push_cast;rfl
   rw[B,<-pf,<-qd]at k6;lia)
  lia
 have W:q.natAbs.log2+b2.natAbs.log2<=100000:=by
  have J:q.natAbs.log2<=h:=by
   by_cases R:q.natAbs=0
   ·refine ab R ?_;simp
   ·exact cm ((i0 R).mpr (by grind))
  have U:b2.natAbs.log2<=h:=by
   by_cases R:b2.natAbs=0
   ·refine ab R ?_;simp
   ·exact cm ((i0 R).mpr (by lia))
  lia
 refine .cI (x:=.int (H*2^h+a3-q*b2)) (loc':= [.int a12,.int a3,.int b,.int b1,.int b2,.int h,.int q,.int (H*2^h+a3-q*b2)]) ?_ rfl ?_
 ·simp only[(id fD),aK,af,bo,bE,aj,af,(id cw),binI,aX,p,and_self,if_true,aK,bK,wQ C h3 w,W,true_or]
 exact .next (rb l4)<|.ret rfl rfl
theorem eP{C:dC}{st:St}{loc:Loc}{f:Nat}{l:List CE}{vs:List AV}{v:AV}(h:so C st l loc=some vs)(Q:dU vs=true)(N:C.O f vs=some v):ev C st (.call f l) loc=some v:=by simp only[(id fD),af,h,aj,af,Q,if_true,N]
theorem pn{x:Int}{m:Nat}(Y:0<=x)(J:x<2^m):ag x<=m:=e8.mpr (by
 have B:((2:Int)^m)=((2^m:Nat):Int):=by push_cast;rfl
 lia)
theorem Tg{x:Int}{m:Nat}(Y:0<=x)(J:x<2^m):x.natAbs.log2<=m:=by
 have B:((2:Int)^m)=((2^m:Nat):Int):=by push_cast;rfl
 by_cases R:x.natAbs=0
 ·exact ab R<|dT rfl
 ·exact cm ((i0 R).mpr (by lia))
theorem ng(a b:Nat):(2:Int)^(a+b)=2^a*2^b:=Int.pow_add ..
theorem wY(k h:Nat){a b:Int}(hh:1<=h)(s:h<=4000)(O:(2:Int)^(h+h)<=2*b)(S:b<2^(h+h))(L:0<=a)(I:a<b*2^(h+h))(p:Int)(l:List CS)(v:AV)(P U T n i j G:AV)
 (Y:eC (BK (k+3)) l [.int a,.int b,.int ((h+h:Nat):Int),.int p,.int h,.int (2^h-1),.int (b/2^h),.int (b% 2^h),.int ((a/2^h).fdiv b),.int (a.fmod b),.int (((a/2^h).fmod b*2^h+a% 2^h).fdiv b)] [] v):
 eC (BK (k+3)) (.cI (.bX 4) (.f .RShift (.a 2) (.d 1)):: .cI (.bX 5) (.f .Sub (.f .LShift (.d 1) (.a 4)) (.d 1)):: .cI (.many [6,7]) (.tuple [(.f .RShift (.a 1) (.a 4)),(.f .BitAnd (.a 1) (.a 5))])::
  .cI (.many [8,9]) (.call 3 [(.f .RShift (.a 0) (.a 2)),(.f .BitAnd (.f .RShift (.a 0) (.a 4)) (.a 5)),(.a 1),(.a 6),(.a 7),(.a 4)])::
  .cI (.many [10,9]) (.call 3 [(.a 9),(.f .BitAnd (.a 0) (.a 5)),(.a 1),(.a 6),(.a 7),(.a 4)])::l) [.int a,.int b,.int ((h+h:Nat):Int),.int p,P,U,T,n,i,j,G] [] v:=by
 have m:=fY h;have d:(2:Int)^(h+h)=2^h*2^h:=ng h h;have A:0<b:=by have:=fY (h+h);lia
 rw[d]at O S I;have F:(2:Int)^h<=2*(b/2^h):=by
  obtain⟨g,rfl⟩:∃g,h=g+1:=⟨h-1,(kK hh).mp rfl⟩;have e1:(2:Int)^(g+1)=2*2^g:=ab (tG ..) (ab (bR ..) rfl);have e2:(2:Int)^g*2^(g+1)<=b:=by have c:(2:Int)^(g+1)*2^(g+1)=2*(2^g*2^(g+1)):=cA (fL ..) (cA e1 rfl);lia
  have:=DA m e2;lia
 have X:b/2^h<2^h:=cR m (Fe S);have W:=dI b (cH m);have f:=dk b m;have B:b/2^h*2^h+b% 2^h=b:=ab (bR ..)<|cq b (2^h);have J:a/(2^h*2^h)<b:=cR (we m m) (Fe I);have Z:0<=a/(2^h*2^h):=eR L (aF (we m m));have q:a/2^h/2^h=a/(2^h*2^h):=Int.ediv_ediv_of_nonneg (aF m);have K:0<=a/2^h:=eR L (aF m);have D:=dI (a/2^h) (cH m);have C:=dk (a/2^h) m;have Q:=dI a (cH m);have r:=dk a m;have u:a/(2^h*2^h)*2^h+a/2^h% 2^h=a/2^h:=cA q<|ab (bR ..)<|cq (a/2^h) (2^h);have E:=Vq (k+1) h (a12:=a/(2^h*2^h)) (a3:=a/2^h% 2^h) (b1:=b/2^h) (b2:=b% 2^h) hh s F X W f Z (lt_of_lt_of_eq J (id (dN B))) D C;rw[B,u]at E;have R:0<=(a/2^h).fmod b:=bQ _ A;have M:(a/2^h).fmod b<b:=cJ _ A;have N:=Vq (k+1) h (a12:=(a/2^h).fmod b) (a3:=a% 2^h) (b1:=b/2^h) (b2:=b% 2^h) hh s F X W f R (lt_of_lt_of_eq M (id (dN B))) Q r;rw[B]at N;have V:((a/2^h).fmod b*2^h+a% 2^h).fmod b=a.fmod b:=by refine ab (bA _ (aF A)) (ab (bA _ (aF A)) (ab (bA _ (aF A)) ?_));have e:=cq a (2^h);exact ab (UI ..) (ab (UK ..) (ab (Int.emod_emod_of_dvd _ (Int.dvd_refl b)) (cA (UK ..) (cA (UI ..) (ab (bR ..) (ab e rfl))))))
 have o:(ag 1:Int)+h<=2^27:=by
  have:ag 1=1:=by decide
  lia
 have H:(((h+h:Nat):Int)).fdiv (2^(1:Int).toNat)=(h:Int):=by refine ab (lN ..) ?_;simp;lia
 refine .cI (x:=.int h) (loc':= [.int a,.int b,.int ((h+h:Nat):Int),.int p,.int h,U,T,n,i,j,G]) (by simp only[(id fD),aK,af,bo,bE,aj,af,(id cw),binI,show(0:Int)<=1 from by decide,if_true,H,aK]) rfl ?_;refine .cI (x:=.int (2^h-1)) (loc':= [.int a,.int b,.int ((h+h:Nat):Int),.int p,.int h,.int (2^h-1),T,n,i,j,G]) (by simp only[(id fD),aK,af,bo,bE,aj,af,(id cw),binI,aX,o,and_self,if_true,aK,bK,iV]) rfl ?_;refine .cI (x:=.tup [.int (b/2^h),.int (b% 2^h)]) (loc':= [.int a,.int b,.int ((h+h:Nat):Int),.int p,.int h,.int (2^h-1),.int (b/2^h),.int (b% 2^h),i,j,G]) (by simp only[(id fD),aK,af,(id jW),bo,bE,aj,af,(id cw),binI,aX,if_true,aK,bK,aJ,lN,oH (aF A)]) rfl ?_
 refine .cI (x:=.tup [.int ((a/2^h).fdiv b),.int ((a/2^h).fmod b)]) (loc':= [.int a,.int b,.int ((h+h:Nat):Int),.int p,.int h,.int (2^h-1),.int (b/2^h),.int (b% 2^h),.int ((a/2^h).fdiv b),.int ((a/2^h).fmod b),G]) (eP (vs:= [.int (a/(2^h*2^h)),.int (a/2^h% 2^h),.int b,.int (b/2^h),.int (b% 2^h),.int h]) (by simp only[(id fD),aK,af,(id jW),bo,bE,aj,af,(id cw),binI,aX,if_true,aK,bK,aJ,lN,oH K];exact ab d rfl) rfl E) rfl ?_
 refine .cI (x:=.tup [.int (((a/2^h).fmod b*2^h+a% 2^h).fdiv b),.int (a.fmod b)]) ?_ rfl Y;refine eP (vs:= [.int ((a/2^h).fmod b),.int (a% 2^h),.int b,.int (b/2^h),.int (b% 2^h),.int h]) (by simp only[(id fD),aK,af,(id jW),bo,bE,aj,af,(id cw),binI,aK,aJ,oH L]) rfl ?_
 exact cA V<|N
theorem wZ{h:Nat}{a b:Int}(A:0<b)(L:0<=a)(I:a<b*(2^h*2^h)):HN ((a/2^h).fdiv b*2^h) (((a/2^h).fmod b*2^h+a% 2^h).fdiv b)=a.fdiv b/\0<=(a/2^h).fdiv b/\(a/2^h).fdiv b<2^h:=by
 have m:=fY h;have Q:=dI a (cH m);have r:=dk a m;have e:=cq a (2^h);have K:0<=a/2^h:=eR L (aF m);refine ab (bN _ (aF A)) (ab (bN _ (aF A)) (ab (bN _ (aF A)) (ab (bA _ (aF A)) ?_)));have R:=dI (a/2^h) (cH A);have M:=dk (a/2^h) A;have Z:=cq (a/2^h) b;generalize n:a/2^h/b=P at*;generalize G:a/2^h% b=f at*;generalize u:a/2^h=X at*;generalize O:a% 2^h=l at*;have N:0<=f*2^h+l:=by have:=gP R (aF m);exact gO this Q
 have y:f*2^h+l<2^h*b:=by
  have e1:(f+1)*2^h<=b*2^h:=bl (gq M) (aF m);rw[g8]at e1;have:=bR b (2^h)
  (clear this e Q O Z G n K u M R m I L A;lia)
 have p:(f*2^h+l)/b<2^h:=cR A y;have C:0<=(f*2^h+l)/b:=eR N (aF A);have D:0<=P:=cA n<|eR K (aF A);have J:P<2^h:=by refine cA n<|cR A<|cA u<|cR m ?_;have e1:b*(2^h*2^h)=2^h*b*2^h:=cA (fL ..) (ab (bR b ..) rfl);exact lt_of_lt_of_eq I e1
 refine⟨?_,D,J⟩;refine ab (wQ D C p) ?_;have e1:=cq (f*2^h+l) b;have e2:=dI (f*2^h+l) (cH A);have c:=dk (f*2^h+l) A;generalize(f*2^h+l)/b=F at*;generalize V:(f*2^h+l)% b=s at*;have E:a=(P*2^h+F)*b+s:=by
  have S:2^h*X=2^h*(b*P)+2^h*f:=cA (nk ..) (ab Z rfl);have B:(P*2^h+F)*b=2^h*(b*P)+b*F:=ab (g8 ..) (ab (bR F b) (ab (bR P ..) (ab (fL ..) (ab (bR P b) rfl))));have H:f*2^h=2^h*f:=bR ..
  (clear H B c V C p J D y r Q O G n K u M R m L A;lia)
 have:=(ke A E e2 c).1;rw[bN _ (aF A)]at this;exact this.symm
theorem XH(k N:Nat){a b:Int}(Q:1<=N)(C:N<=7000)(O:(2:Int)^N<=2*b)(S:b<2^N)(L:0<=a)(I:a<b*2^N):(BK (k+4)).O 2 [.int a,.int b,.int N]=some (.tup [.int (a.fdiv b),.int (a.fmod b)]):=by
 have A:0<b:=by have:=fY N;lia
 have e:¬(b=0\/9000<=b.natAbs.log2):=by have:=Tg (m:=N) (aF A) S;lia
 by_cases G:(ag a:Int)-N<=4000
 ·exact uV (k+3) G e
 refine bp Lo<|eC.run rfl (.jo (by have:decide ((ag a:Int)-N<=4000)=false:=decide_eq_false G;simp[(id fD),(id cw),binI,(id cb),Yy,this]) ?_)
 have K:E8 (N:Int) 1=((N% 2:Nat):Int):=by refine bp (bitAnd_m1 ..) ?_;rfl
 have E:a<2^(N+N):=by have:=fG S (fY N);exact ab (ng ..)<|ou I this
 have T:(ag a:Int)<=N+N:=by have:=pn L E;exact wx rfl rfl this
 have J:(ag b:Int)<=N:=by have:=pn (aF A) S;exact eG.mpr this
 refine .cI (x:=.int ((N% 2:Nat):Int)) (loc':= [.int a,.int b,.int N,.int ((N% 2:Nat):Int),.c,.c,.c,.c,.c,.c,.c]) (by simp only[(id fD),aK,af,da,jC,bo,bE,aj,af,(id cw),binI,K,aK]) rfl ?_;clear K;by_cases B:N% 2=0
 ·obtain⟨h,rfl⟩:∃h,N=h+h:=⟨N/2,by lia⟩;refine ab B<|.ite (a:=.int 0) (r:=false) rfl rfl<|wY k h (by lia) (by lia) O S L I _ _ _ _ _ _ _ _ _ _ ?_;rw[ng]at I;refine eY (wZ A L I) λD V M=>.ite (a:=.int 0) (r:=false) rfl rfl<|.ret (px (eN (x:=.int ((a/2^h).fdiv b*2^h)) (y:=.int (((a/2^h).fmod b*2^h+a% 2^h).fdiv b)) ?_ rfl ?_) rfl) rfl
  ·have:(ag ((a/2^h).fdiv b):Int)+h<=2^27:=by
    have:=pn V M;lia
   simp only[(id fD),aK,af,bo,bE,aj,af,(id cw),binI,aX,this,and_self,if_true,aK,bK]
  ·simp only[(id cw),binI,D,aK]
 ·have P:N% 2=1:=Nat.mod_two_ne_zero.mp B;refine ew λY=>?_;obtain⟨h,hh⟩:∃h,N+1=h+h:=⟨(N+1)/2,by lia⟩;refine Y ?_;clear Y;refine ab P ?_;have e1:(2:Int)^(h+h)=2*2^N:=cA hh (bp (tG ..) (ab (bR ..) rfl));have o:(ag a:Int)+1<=2^27:=by lia
  have d:(ag b:Int)+1<=2^27:=by lia
  refine .ite (a:=.int 1) (r:=true) rfl rfl<|.next (fW (x:=.int a) (v:=.int 1) (y:=.int (a*2)) (loc':= [.int (a*2),.int b,.int N,.int 1,.c,.c,.c,.c,.c,.c,.c]) rfl rfl rfl (by simp only[(id cw),binI,o,show(0:Int)<=1 from by decide,and_self,if_true,aK];rfl) rfl)<|.next (fW (x:=.int b) (v:=.int 1) (y:=.int (b*2)) (loc':= [.int (a*2),.int (b*2),.int N,.int 1,.c,.c,.c,.c,.c,.c,.c]) rfl rfl rfl (by simp only[(id cw),binI,d,show(0:Int)<=1 from by decide,and_self,if_true,aK];rfl) rfl)<|.next (fW (x:=.int N) (v:=.int 1) (y:=.int ((h+h:Nat):Int)) (loc':= [.int (a*2),.int (b*2),.int ((h+h:Nat):Int),.int 1,.c,.c,.c,.c,.c,.c,.c]) rfl rfl rfl (by refine cA hh ?_;rfl) rfl) ?_;have F:a*2<b*2*2^(h+h):=by refine ab e1 ?_;lia
  refine wY k h (a:=a*2) (b:=b*2) (by lia) (by lia) (by lia) (by lia) (by lia) F _ _ _ _ _ _ _ _ _ _ ?_;rw[ng]at F;refine eY (wZ (b:=b*2) (by lia) (by lia) F) λD V M=>?_;have R:=cq a b;have W:=dI a (cH A);have f:=dk a A;refine aN (ke (a:=a*2) (b:=b*2) (q:=a/b) (r:=a% b*2) (by lia) (by lia) (by lia) (by lia)) λH g=>?_
  simp only[H]at D;refine ab g<|.ite (a:=.int 1) (r:=true) rfl rfl<|.next (fW (x:=.int (a% b*2)) (v:=.int 1) (y:=.int (a% b)) (loc':= [.int (a*2),.int (b*2),.int ((h+h:Nat):Int),.int 1,.int h,.int (2^h-1),.int (b*2/2^h),.int (b*2% 2^h),.int ((a*2/2^h).fdiv (b*2)),.int (a% b),.int (((a*2/2^h).fmod (b*2)*2^h+a*2% 2^h).fdiv (b*2))]) rfl rfl rfl (by
   have:(a% b*2).fdiv (2^(1:Int).toNat)=a% b:=by refine bp (lN ..) ?_;show a% b*2/2^1=_;lia
   simp only[(id cw),binI,show(0:Int)<=1 from by decide,if_true,this,aK]) rfl) ?_
  refine ab (bN _ (aF A))<|ab (bA _ (aF A))<|.ret (px (eN (x:=.int ((a*2/2^h).fdiv (b*2)*2^h)) (y:=.int (((a*2/2^h).fmod (b*2)*2^h+a*2% 2^h).fdiv (b*2))) ?_ rfl ?_) rfl) rfl
  ·have:(ag ((a*2/2^h).fdiv (b*2)):Int)+h<=2^27:=by
    have:=pn V M;lia
   simp only[(id fD),aK,af,bo,bE,aj,af,(id cw),binI,aX,this,and_self,if_true,aK,bK]
  ·simp only[(id cw),binI,D,aK]
theorem bf{t:kR}{body:Loc->St->Option (Fl×Loc×St)}{v:AV}{l:List AV}{loc loc1 loc2:Loc}{st st2:St}{R:Option (Fl×Loc×St)}(O:cT loc t v=some loc1)(h:body loc1 st=some (.next,loc2,st2))(U:iP t body l loc2 st2=R):iP t body (v::l) loc st=R:=by exact(vg.2 ..).trans (tZ O (tZ h U))
theorem fX{t:kR}{body:Loc->St->Option (Fl×Loc×St)}{loc:Loc}{st:St}:iP t body [] loc st=some (.next,loc,st):=rfl
theorem eC.sx{C:dC}{t:kR}{it:CE}{b l:List CS}{loc loc':Loc}{st st':St}{a:AV}{L:List AV}{v:AV}(h:ev C st it loc=some a)(hi:fQ st a=some L)(G:iP t (λloc st=>dh C b loc st) L loc st=some (.next,loc',st'))(U:eC C l loc' st' v):eC C (.m t it b::l) loc st v:=.next (gT h hi G) U
theorem FK{b:Int}(O:0<b){I:Prop}(N:1<=ag b->(2:Int)^(ag b)<=2*b->b<2^(ag b)->I):I:=by
 have J:b.natAbs<2^(ag b):=kh (aV _);have A:1<=ag b:=by
  refine ak (Nat.eq_zero_or_pos (ag b)) (λe=>?_) λe=>?_
  ·rw[e]at J;simp at J;lia
  ·exact e
 obtain⟨m,T⟩:∃m,ag b=m+1:=⟨ag b-1,by lia⟩;have U:¬b.natAbs<2^m:=λh=>by
  have:=e8.mpr h;lia
 have B:∀j:Nat,((2:Int)^j)=((2^j:Nat):Int):=λj=>by push_cast;rfl
 refine N A ?_ ?_
 ·refine ab T (ab (tG ..) (ab (B ..) ?_));(clear B T A J N;lia)
 ·refine ab (B ..) ?_;(clear B U T A N;lia)
theorem SG{a:Int}{N:Nat}(L:0<=a)(Q:1<=N)(C:N<=7000)(O:ag a<=N+N):(a=0/\MM a N=some [])\/(a≠0/\a<2^N/\MM a N=some [.int a])\/(a≠0/\MM a N=some [.int (a% 2^N),.int (a/2^N)]/\a<2^N*2^N):=by
 delta MM;refine ab (if_neg (by lia)) ?_;by_cases Y:a=0
 ·exact .inl ⟨Y,if_pos Y⟩
 refine ab (if_neg Y) ?_;have B:∀j:Nat,((2:Int)^j)=((2^j:Nat):Int):=λj=>by push_cast;rfl
 by_cases J:(ag a:Int)<=N
 ·refine ab (if_pos J) ?_;have:=kh (x:=a) (m:=N) (eG.mp J);exact .inr (.inl ⟨Y,by refine ab (B ..) ?_;lia,rfl⟩)
 ·refine ab (if_neg J) (ab (if_pos (by lia)) ?_);have:=kh (x:=a) (m:=N+N) O;refine .inr (.inr ⟨Y,?_,?_⟩)
  ·exact ab (bK ..) (ab (lN ..) (ab (bA _ (aF (fY N))) rfl))
  ·refine cA (ng ..) (ab (B ..) ?_);lia
theorem O4{k:Nat}{a n:Int}:(BK (k+4)).O 4 [.int a,.int n]=(MM a n).map .lst:=rfl
theorem L6(k N:Nat){a b r d:Int}{ds q8:AV}{qs:List AV}{qx:AV}(Q:1<=N)(C:N<=7000)(O:(2:Int)^N<=2*b)(S:b<2^N)(R:0<=r)(A:ag r<=N)(u:0<=d)(Z:r*2^N+d<b*2^N)(D:qs.length<=10):
 dh (BK (k+4)) [.cI (.many [7,4]) (.call 2 [(.f .Add (.f .LShift (.a 4) (.a 2)) (.a 6)),(.a 1),(.a 2)]),.app 5 (.a 7)] [.int a,.int b,.int N,ds,.int r,.ref 0,.int d,qx,q8] [some qs]=
  some (.next,[.int a,.int b,.int N,ds,.int ((r*2^N+d).fmod b),.ref 0,.int d,.int ((r*2^N+d).fdiv b),q8],[some (qs++ [.int ((r*2^N+d).fdiv b)])]):=by
 have Y:0<=r*2^N+d:=by have:=gP R (aF (fY N));exact gO this u
 have X:(ag r:Int)+N<=2^27:=by lia
 refine aO (gw (v:=.tup [.int ((r*2^N+d).fdiv b),.int ((r*2^N+d).fmod b)]) (loc':= [.int a,.int b,.int N,ds,.int ((r*2^N+d).fmod b),.ref 0,.int d,.int ((r*2^N+d).fdiv b),q8]) (eP (vs:= [.int (r*2^N+d),.int b,.int N]) ?_ rfl (XH k N Q C O S Y Z)) rfl) ?_
 ·simp only[(id fD),aK,af,(id jW),bo,bE,aj,af,(id cw),binI,aX,X,and_self,if_true,aK,bK,aJ]
 ·exact aO (jK (v:=.int ((r*2^N+d).fdiv b)) (n:=0) (l:=qs) rfl rfl rfl (aP D (by decide))) rfl
theorem Sf(k N:Nat){a b r:Int}{ds d A q8:AV}{qs:List AV}{q:Int}(D:qs.length<=10)(Q:dU qs.reverse=true)(u:QF qs.reverse N=some (.int q)):
 eC (BK (k+4)) [.rev 5,.q 5,.cI (.bX 8) (.call 5 [(.a 5),(.a 2)]),.ret (.tuple [(.a 8),(.a 4)])] [.int a,.int b,.int N,ds,.int r,.ref 0,d,A,q8] [some qs] (.tup [.int q,.int r]):=by
 have B:qs.length<=cB:=aP D (by decide);exact .next (loc':= [.int a,.int b,.int N,ds,.int r,.ref 0,d,A,q8]) (st':= [some qs.reverse]) (by simp[(id oM),(id fD),B])<|.next (ji (n:=0) (l:=qs.reverse) (l':=qs.reverse) (st':= [none]) (loc':= [.int a,.int b,.int N,ds,.int r,.lst qs.reverse,d,A,q8]) rfl rfl (iD _ Q) rfl)<|.cI (x:=.int q) (eP (vs:= [.lst qs.reverse,.int N]) rfl (by simp[(id mz),(id qC),Q]) u) rfl<|.ret rfl rfl
theorem XU(k:Nat){a b:Int}(O:0<b)(ha:0<=a)(C:ag b<=7000)(I:ag a<=ag b+ag b):(BK (k+5)).O 6 [.int a,.int b]=some (.tup [.int (a.fdiv b),.int (a.fmod b)]):=by
 refine FK O λQ u n2=>?_;generalize v:ag b=N at*;have m:=fY N;have G:ag 0<=N:=by have:ag 0=0:=by rfl
                                                                                 exact dT rfl
 simp only[TP];refine eC.run rfl<|.cI (x:=.int N) (loc':= [.int a,.int b,.int N,.c,.c,.c,.c,.c,.c]) (by refine cA v ?_;rfl) rfl ?_;have e:∀ds:List AV,MM a N=some ds->dU ds=true->eC (BK (k+4)) [.cI (.bX 4) (.d 0),.new 5 (.list []),.m (.bX 6) (.M (.a 3)) [.cI (.many [7,4]) (.call 2 [(.f .Add (.f .LShift (.a 4) (.a 2)) (.a 6)),(.a 1),(.a 2)]),.app 5 (.a 7)],.rev 5,.q 5,.cI (.bX 8) (.call 5 [(.a 5),(.a 2)]),.ret (.tuple [(.a 8),(.a 4)])] [.int a,.int b,.int N,.lst ds,.c,.c,.c,.c,.c] [] (.tup [.int (a.fdiv b),.int (a.fmod b)])->
  eC (BK (k+4)) (.cI (.bX 3) (.call 4 [(.a 0),(.a 2)]):: [.cI (.bX 4) (.d 0),.new 5 (.list []),.m (.bX 6) (.M (.a 3)) [.cI (.many [7,4]) (.call 2 [(.f .Add (.f .LShift (.a 4) (.a 2)) (.a 6)),(.a 1),(.a 2)]),.app 5 (.a 7)],.rev 5,.q 5,.cI (.bX 8) (.call 5 [(.a 5),(.a 2)]),.ret (.tuple [(.a 8),(.a 4)])]) [.int a,.int b,.int N,.c,.c,.c,.c,.c,.c] [] (.tup [.int (a.fdiv b),.int (a.fmod b)]):=by
  refineλds J U S=>.cI (x:=.lst ds) (eP (vs:= [.int a,.int N]) rfl rfl (by refine ab O4 (ab J ?_);rfl)) rfl S
 have A:¬((N:Int)<=0\/100000< (N:Int)):=by lia
 refine ak (SG ha Q C I) (λT=>aN T λY J=>?_) λu4=>ak u4 (λj=>eY j λY J U=>?_) λW=>eY W λY J U=>?_;clear I
 ·refine e _ J rfl<|.cI (x:=.int 0) (loc':= [.int a,.int b,.int N,.lst [],.int 0,.c,.c,.c,.c]) rfl rfl<|.next (iO (l:= []) (loc':= [.int a,.int b,.int N,.lst [],.int 0,.ref 0,.c,.c,.c]) rfl rfl rfl)<|.sx (a:=.lst []) (L:= []) rfl rfl fX<|ab Y<|Sf k N (by simp) rfl (by delta QF;refine ab (if_neg A) ?_;rfl)
 ·refine e _ U rfl<|.cI (x:=.int 0) (loc':= [.int a,.int b,.int N,.lst [.int a],.int 0,.c,.c,.c,.c]) rfl rfl<|.next (iO (l:= []) (loc':= [.int a,.int b,.int N,.lst [.int a],.int 0,.ref 0,.c,.c,.c]) rfl rfl rfl) ?_;have Z:(0:Int)*2^N+a<b*2^N:=by
   have:=bl (show(1:Int)<=b by exact iU O) (aF m);lia
  refine .sx (a:=.lst [.int a]) (L:= [.int a]) rfl rfl (bf (loc1:= [.int a,.int b,.int N,.lst [.int a],.int 0,.ref 0,.int a,.c,.c]) rfl (L6 k N Q C u n2 (g9 _) G ha Z (by decide)) fX)<|ab (show(0:Int)*2^N+a=a by lia)<|Sf k N (by simp) rfl (by delta QF;refine ab (if_neg A) ?_;rfl)
 ·refine e _ J rfl<|.cI (x:=.int 0) (loc':= [.int a,.int b,.int N,.lst [.int (a% 2^N),.int (a/2^N)],.int 0,.c,.c,.c,.c]) rfl rfl<|.next (iO (l:= []) (loc':= [.int a,.int b,.int N,.lst [.int (a% 2^N),.int (a/2^N)],.int 0,.ref 0,.c,.c,.c]) rfl rfl rfl) ?_;have w:=dI a (cH m);have o:=dk a m;have t:0<=a/2^N:=eR ha (aF m);have hh1:a/2^N<2^N:=cR m U;have Z:(0:Int)*2^N+a/2^N<b*2^N:=by
   have:=bl (show(1:Int)<=b by exact iU O) (aF m);lia
  have M:=dk (a/2^N) O;have h:(a/2^N).fdiv b=a/2^N/b:=bN _ (aF O);have K:a/2^N% b*2^N+a% 2^N<b*2^N:=by have:=bl (show a/2^N% b+1<=b by exact gq M) (aF m);lia
  have t1:=L6 k N (a:=a) (b:=b) (r:=0) (d:=a/2^N) (ds:=.lst [.int (a% 2^N),.int (a/2^N)]) (q8:=.c) (qs:= []) (qx:=.c) Q C u n2 (g9 _) G t Z (by decide);simp only[show(0:Int)*2^N+a/2^N=a/2^N by lia,(bA _ (aF O)),h]at t1;refine .sx (a:=.lst [.int (a/2^N),.int (a% 2^N)]) (L:= [.int (a/2^N),.int (a% 2^N)]) rfl rfl (bf (loc1:= [.int a,.int b,.int N,.lst [.int (a% 2^N),.int (a/2^N)],.int 0,.ref 0,.int (a/2^N),.c,.c]) rfl t1
   (bf (loc1:= [.int a,.int b,.int N,.lst [.int (a% 2^N),.int (a/2^N)],.int (a/2^N% b),.ref 0,.int (a% 2^N),.int (a/2^N/b),.c]) rfl (L6 k N Q C u n2 (dI (a/2^N) (cH O)) (pn (dI (a/2^N) (cH O)) (ou M n2)) w K (by simp)) fX)) ?_
  have i:=dI (a/2^N% b*2^N+a% 2^N) (cH O);have R:=dk (a/2^N% b*2^N+a% 2^N) O;have e1:=cq a (2^N);have e2:=cq (a/2^N) b;have c:=cq (a/2^N% b*2^N+a% 2^N) b;refine ab (bN _ (aF O)) (ab (bA (a/2^N% b*2^N+a% 2^N) (aF O)) ?_);have D:0<=a/2^N/b:=eR t (aF O);have s:a/2^N/b<2^N:=cR O (by grind)
  generalize q:a/2^N=H at*;generalize X:a% 2^N=L at*;generalize n:H/b=P at*;generalize y:H% b=f at*;generalize p:(f*2^N+L)/b=F at*;generalize V:(f*2^N+L)% b=r2 at*;have E:a=(P*2^N+F)*b+r2:=by
   have e4:2^N*H=2^N*(b*P)+2^N*f:=cA (nk ..) (ab e2 rfl);have B:(P*2^N+F)*b=2^N*(b*P)+b*F:=ab (g8 ..) (ab (bR F b) (ab (bR P ..) (ab (fL ..) (ab (bR P b) rfl))))
   (clear B R V p t1 e2 M y s D h n J W u4 o w X Z hh1 t q U Y A e G m n2 Q I C v ha O;lia)
  refine aN (ke O E i R) λu1 g=>ab u1<|ab g<|Sf k N (by simp) rfl ?_;delta QF;refine ab (if_neg A) ?_;have hbq:ag P<=1000000:=by have:=pn D s;lia
  simp only[jC,da,List.reverse_cons,List.reverse_nil,Ta,lC,af,if_pos hbq,bK]
noncomputable def VB(a b:Int):AV:=.tup [.int (a.fdiv b),.int (a.fmod b)]
theorem Ak(k:Nat){a b:Int}(O:0<b)(C:ag b<=7000)(I:ag a<=ag b+ag b)(E:ag (-a-1)<=ag b+ag b):(BK (k+7)).O 7 [.int a,.int b]=some (VB a b):=by
 have A:∀(k:Nat) (a:Int),0<=a->ag a<=ag b+ag b->(BK (k+6)).O 7 [.int a,.int b]=some (VB a b):=by
  refineλk a L I=>ab C8<|eC.run rfl ?_;refine .jo (by have:(b==0)=false:=by simp;omega+splitDisjunctions
                                                      simp[(id fD),(id cb),(id jJ),this]) ?_
  refine .jo (by have:decide (b<0)=false:=by simp;omega+splitDisjunctions
                 simp[(id fD),(id cb),this]) ?_
  refine .jo (by have:decide (a<0)=false:=by simpa using L
                 simp[(id fD),(id cb),this]) ?_
  exact .ret (eP (vs:= [.int a,.int b]) rfl rfl (XU k O L C I)) rfl
 by_cases L:0<=a
 ·exact A (k+1) a L I
 refine ab C8<|eC.run rfl ?_;refine .jo (by have:(b==0)=false:=by simp;omega+splitDisjunctions
                                            simp[(id fD),(id cb),(id jJ),this]) ?_
 refine .jo (by have:decide (b<0)=false:=by simp;omega+splitDisjunctions
                simp[(id fD),(id cb),this]) ?_
 refine .oq (by have:decide (a<0)=true:=by simpa using L
                simp[(id fD),(id cb),this]) ?_
 have J:=A k (-a-1) (by(clear A E I C O;lia)) E;refine .cI (x:=VB (-a-1) b) (loc':= [.int a,.int b,.int ((-a-1).fdiv b),.int ((-a-1).fmod b)]) (eP (vs:= [.int (-a-1),.int b]) rfl rfl J) rfl ?_;have W:0<=(-a-1).fmod b:=bQ _ O;have f:(-a-1).fmod b<b:=cJ _ O;have e:=kG (-a-1) b;refine aN (ke (a:=a) (b:=b) (q:= -(-a-1).fdiv b-1) (r:=b+(-(-a-1).fmod b-1)) O (by refine ab (lg ..) (ab (Xd ..) (ab (bR _ b) ?_));(clear f W J L A E I C;omega+splitDisjunctions)) (by(clear e W J L A E I C O;omega+splitDisjunctions)) (by(clear e f J L A E I C;omega+splitDisjunctions))) λH g=>?_
 delta VB;exact ab H<|ab g<|.ret rfl rfl
theorem Jl(k:Nat){a b:Int}(O:0<b)(C:ag b<=7000)(I:ag a<=ag b+ag b)(E:ag (-a-1)<=ag b+ag b):(BK (k+8)).O 7 [.int (-a),.int (-b)]=some (.tup [.int (a.fdiv b),.int (-a.fmod b)]):=by
 have J:=Ak k O C I E;refine ab C8<|eC.run rfl ?_;refine .jo (by have:(-b==0)=false:=by simp;omega+splitDisjunctions
                                                                 simp[(id fD),(id cb),(id jJ),this]) ?_
 refine .oq (by have:decide (-b<0)=true:=by simp;omega+splitDisjunctions
                simp[(id fD),(id cb),O]) ?_
 exact .cI (x:=VB a b) (loc':= [.int (-a),.int (-b),.int (a.fdiv b),.int (a.fmod b)]) (eP (vs:= [.int a,.int b]) (by simp[(id jW),(id fD)]) rfl J) rfl<|.ret rfl rfl
@[irreducible] noncomputable def uN:Int:=3^2600
@[irreducible] noncomputable def sN:Int:=2^4090
theorem vV:(2:Int)^4100<=uN/\uN<2^4122:=by
 delta uN;have J:2^4100<=3^2600:=by decide+kernel
 have U:3^2600<2^4122:=by decide+kernel
 have e1:((2:Int)^4100)=((2^4100:Nat):Int):=by refine ab (wt ..) ?_;rfl
 have e2:((2:Int)^4122)=((2^4122:Nat):Int):=by refine ab (wt ..) ?_;rfl
 have c:((3:Int)^2600)=((3^2600:Nat):Int):=by refine ab (wt ..) ?_;rfl
 rewrite[e1,e2,c];exact⟨eG.mpr J,fh.mpr U⟩
theorem Dj:0<uN:=r6 (fY 4100) vV.1
theorem Lp:sN=2^4090:=by delta sN;rfl
def Bd(x:Int)(m:Nat):Prop:=x.natAbs<2^m
theorem Bd.mono{x:Int}{m n:Nat}(h:Bd x m)(Q:m<=n):Bd x n:=be h (i6 (by decide) Q)
theorem Bd.mul{x y:Int}{m n:Nat}(h:Bd x m)(g:Bd y n):Bd (x*y) (m+n):=by unfold Bd at*;exact ab (qb ..)<|ab (qd ..)<|ia (Nat.mul_le_mul_left _ (cm g)) (Nat.mul_lt_mul_of_pos_right h (pg n))
theorem Bd.add{x y:Int}{m n:Nat}(h:Bd x m)(g:Bd y n)(Q:n<=m):Bd (x+y) (m+1):=by have k:=g.mono Q;show(x+y).natAbs<2^(m+1);exact ab (B6 ..)<|ab (Fk ..)<|ia (Mz x y) (Rw h k)
theorem Bd.sub{x y:Int}{m n:Nat}(h:Bd x m)(g:Bd y n)(Q:n<=m):Bd (x-y) (m+1):=by have k:=g.mono Q;show(x-y).natAbs<2^(m+1);exact ab (B6 ..)<|ab (Fk ..)<|ia (Int.natAbs_sub_le x y) (Rw h k)
theorem Bd.of{x:Int}{m:Nat}(Y:0<=x)(h:x<2^m):Bd x m:=by
 have B:((2:Int)^m)=((2^m:Nat):Int):=by push_cast;rfl
 delta Bd;lia
theorem Wf{x y:Int}{m n:Nat}(h:Bd x m)(g:Bd y n)(A:m+n<=100000):binI .Mult x y=some (x*y):=by
 have l1:x.natAbs.log2<=m:=by
  by_cases Y:x.natAbs=0
  ·exact ab Y<|dT rfl
  ·exact cm ((i0 Y).mpr h)
 have l2:y.natAbs.log2<=n:=by
  by_cases Y:y.natAbs=0
  ·refine ab Y ?_;simp
  ·exact cm ((i0 Y).mpr g)
 delta binI;simp only;exact ab (if_pos (.inl (by lia))) rfl
theorem jL{C:dC}{st:St}{loc:Loc}{a b:CE}{x y:Int}{m n:Nat}(J:ev C st a loc=some (.int x))(U:ev C st b loc=some (.int y))(h:Bd x m)(g:Bd y n)(A:m+n<=100000):ev C st (.f .Mult a b) loc=some (.int (x*y)):=
 eN J U (by simp only[(id cw),Wf h g A,aK])
theorem oN{C:dC}{st:St}{loc:Loc}{a b:CE}{x y:Int}(J:ev C st a loc=some (.int x))(U:ev C st b loc=some (.int y)):ev C st (.f .Add a b) loc=some (.int (x+y)):=eN J U rfl
theorem oO{C:dC}{st:St}{loc:Loc}{a b:CE}{x y:Int}(J:ev C st a loc=some (.int x))(U:ev C st b loc=some (.int y)):ev C st (.f .Sub a b) loc=some (.int (x-y)):=eN J U rfl
theorem oP{C:dC}{st:St}{loc:Loc}{a b:CE}{x y:Int}(J:ev C st a loc=some (.int x))(U:ev C st b loc=some (.int y))(h:y≠0):ev C st (.f .Mod a b) loc=some (.int (x.fmod y)):=
 eN J U (by simp only[(id cw),binI,if_neg h,aK])
theorem D4{C:dC}{st:St}{loc:Loc}{a b:CE}{x y:Int}(J:ev C st a loc=some (.int x))(U:ev C st b loc=some (.int y))(h:¬(y=0\/9000<=y.natAbs.log2)):ev C st (.f .FloorDiv a b) loc=some (.int (x.fdiv y)):=
 eN J U (by simp only[(id cw),binI,if_neg h,aK])
theorem Vt{C:dC}{st:St}{loc:Loc}:ev C st (.f .Pow (.d 3) (.d 2600)) loc=some (.int uN):=
 eN rfl rfl (by
  have h:(0:Int)<=2600/\(2600:Int)<=1000000/\(3:Int).natAbs<2^64:=by decide
  simp only[(id cw),binI,if_pos h,aK];delta uN;rfl)
theorem Vs{C:dC}{st:St}{loc:Loc}:ev C st (.f .Pow (.d 2) (.d 4090)) loc=some (.int sN):=
 eN rfl rfl (by
  have h:(0:Int)<=4090/\(4090:Int)<=1000000/\(2:Int).natAbs<2^64:=by decide
  simp only[(id cw),binI,if_pos h,aK];delta sN;rfl)
theorem Gd{w W e d s u:Int}(hW:0<W)(G:W<=s)(N:0<u)(v:0<=d)(K:d<u){I:Prop}(A:((2*w*s-3*s*e*W)*u+d).fdiv (W*u)+3*s*e=(2*w*s)/W->(((2*w*s)/W<s↔2*w<W))->(((2*w*s)/W=s↔2*w=W))->I):I:=by
 have Y:=dI (2*w*s) (cH hW);have J:=dk (2*w*s) hW;have U:=cq (2*w*s) W;have X:0<W*u:=we hW N;refine A ?_ ⟨λh=>?_,λh=>?_⟩ ⟨λh=>?_,λh=>?_⟩
 ·generalize 2*w*s/W=Q at*;generalize 2*w*s% W=R at*;have e1:(2*w*s-3*s*e*W)*u+d=(Q-3*s*e)*(W*u)+(R*u+d):=by
   refine cA U (ab (lg ..) (ab (lg ..) (ab (g8 ..) (ab (bR W Q) (ab (fL Q W u) (ab (fL (3*s*e) W u) ?_))))));lia
  have e2:0<=R*u:=gP Y (aF N);have c:(R+1)*u<=W*u:=bl (gq J) (aF N);exact ab ((ke X e1 (gO e2 v) (by lia)).1)<|Int.sub_add_cancel Q (3*s*e)
 ·have S:2*w*s<s*W:=by
   have:=Int.lt_mul_of_ediv_lt hW h
   rwa [bR]at this⊢
  simp only[bR s W]at S;exact Int.lt_of_mul_lt_mul_right S (by lia)
 ·exact cR hW<|ab (bR s W)<|fG h (r6 hW G)
 ·rw[h]at U;have S:¬2*w<W:=λy=>by
   have:2*w*s<W*s:=fG y (r6 hW G)
   (clear y h X J A K v N G hW;omega+splitDisjunctions)
  have B:¬W<2*w:=λy=>by
   have:(W+1)*s<=2*w*s:=bl (gq y) (by lia);lia
  lia
 ·exact ab h (ab (bR ..) (bp (Int.mul_ediv_cancel _ (cH hW)) rfl))
theorem Pd{k:Nat}{args:List AV}:(BK (k+1)).O 20 args=iR (BK k) Ys args:=rfl
theorem zQ{x y:Int}(Y:0<=x)(h:x<=y):x.natAbs<=y.natAbs:=by lia
theorem JX(k:Nat){w W g t e T q r:Int}(o:0<=w)(hW:0<W)(P:W<2^110)(Q:t=1\/t= -1)(X:q*(W*uN)+r=T)(R:0<=r)(M:r<W*uN)(D:Bd q 10000)(E:q+3*sN*e=(2*w*sN)/W)
 (y:(2*w*sN)/W<sN↔2*w<W)(B:(2*w*sN)/W=sN↔2*w=W):
 eC (BK k) [.ite (.bor [(.cmp .NotEq (.f .Add (.f .Mult (.f .Mult (.sub (.a 8) (.d 0)) (.a 1)) (.a 3)) (.f .Mult (.a 5) (.sub (.a 8) (.d 1)))) (.a 7)),(.B (.C .LtE .Lt (.d 0) (.f .Mult (.a 5) (.sub (.a 8) (.d 1))) (.f .Mult (.a 1) (.a 3))))]) [.ret (.d 9)] [],
  .ite (.cmp .Lt (.f .Add (.sub (.a 8) (.d 0)) (.a 6)) (.a 4)) [.ret (.d 0)] [],.ret (.N (.cmp .Eq (.f .Add (.sub (.a 8) (.d 0)) (.a 6)) (.a 4)) (.d 1) (.d 2))]
  [.int w,.int W,.int g,.int uN,.int sN,.int t,.int (3*sN*e),.int T,.tup [.int q,.int (t*r)]] [] (.int (if 2*w<W then 0 else if 2*w=W then 1 else 2)):=by
 have A:Bd W 110:=.of (aF hW) P;have L:Bd uN 4122:=.of (aF Dj) vV.2;have Y:Bd t 2:=by delta Bd;(refine ak Q (λH=>?_) λi=>?_;subst H;rotate_left;subst i;rotate_right)<;>decide
 have Z:Bd r (110+4122):=ia (zQ R (aF M)) (A.mul L);have C:Bd (t*r) 4234:=(Y.mul Z).mono (by decide);have a:t*(t*r)=r:=Q.elim (λu=>ab u (ab (iV ..) (ab (iV ..) rfl))) λu=>ab u (ab (lJ ..) (ab (lJ ..) (ab (Int.neg_neg ..) rfl)));generalize S: [AV.int w,.int W,.int g,.int uN,.int sN,.int t,.int (3*sN*e),.int T,.tup [.int q,.int (t*r)]]=loc;have I:ev (BK k) [] (.a 1) loc=some (.int W):=by subst S;rfl
 have K:ev (BK k) [] (.a 3) loc=some (.int uN):=by subst S;rfl
 have J:ev (BK k) [] (.a 4) loc=some (.int sN):=by subst S;rfl
 have U:ev (BK k) [] (.a 5) loc=some (.int t):=by subst S;rfl
 have V:ev (BK k) [] (.a 6) loc=some (.int (3*sN*e)):=by subst S;rfl
 have f:ev (BK k) [] (.a 7) loc=some (.int T):=by subst S;rfl
 have F:ev (BK k) [] (.sub (.a 8) (.d 0)) loc=some (.int q):=by subst S;rfl
 have b:ev (BK k) [] (.sub (.a 8) (.d 1)) loc=some (.int (t*r)):=by subst S;rfl
 have m1:=jL U b Y C (by decide);rw[a]at m1;have m2:=jL (jL F I D A (by decide)) K (D.mul A) L (by decide);have m3:=oN m2 m1;rw[fL,X]at m3;have O:=jL I K A L (by decide);have G:=oN F V;have j:decide (0<=r)=true:=by simpa using R
 have N:decide (r<W*uN)=true:=by simpa using M
 refine .jo (vd (cc (r:=false) m3 f (by simp[(id cb),(id jJ)])) rfl (vc (rf (r:=true) rfl m1 (by simp[(id cb),R]) O (by simp[(id cb),M])) rfl) rfl) ?_;rw[E]at G;by_cases c:2*w<W
 ·exact ab (if_pos c)<|.oq (cc G J (by simp only[(id cb),decide_eq_true (y.mpr c)]))<|.ret rfl rfl
 ·refine ab (if_neg c)<|.jo (cc G J (by simp only[(id cb),decide_eq_false (λh=>c (y.mp h))]))<|.ret (v:=.int (if 2*w=W then 1 else 2)) ?_ rfl;by_cases m:2*w=W
  ·exact ab (if_pos m)<|Jz (cc (r:=true) G J (by simp only[(id cb),(id jJ),B.mpr m,beq_self_eq_true])) rfl rfl
  ·exact ab (if_neg m)<|Cy (cc (r:=false) G J (by
    have d:((2*w*sN)/W==sN)=false:=by simpa usingλh=>m (B.mp h)
    simp only[(id cb),(id jJ),d])) rfl rfl
theorem Nb{a b y:Int}(Y:0<=y)(L:0<=a)(i:a<=2*y)(O:0<=b)(j:b<=3*y):(a-b).natAbs<=5*y.natAbs:=by lia
theorem Ie(x:Int):(-x-1).natAbs<=x.natAbs+1:=by lia
theorem xI{m:Int}(J:0<=m)(U:m<2):m=0\/m=1:=by lia
theorem Tq{s z:Nat}(h:s<z):5*s+1<=z*32:=by lia
theorem xe{W u:Int}(h:0<W)(N:0<u):u<=W*u:=by
 have:=bl (show(1:Int)<=W from h) (aF N)
 rwa [iV]at this
theorem RP{z:Nat}{u y:Int}(U:y.natAbs<z)(S:u<=y)(d:(z:Int)<=u):False:=by lia
theorem SD(k:Nat){w W g:Int}(o:0<=w)(hwW:w<=W)(hW:0<W)(P:W<2^110):(BK (k+9)).O 20 [.int w,.int W,.int g]=some (.int (if 2*w<W then 0 else if 2*w=W then 1 else 2)):=by
 have G:=Dj;have A:Bd W 110:=.of (aF hW) P;have L:Bd uN 4122:=.of (aF Dj) vV.2;have i:0<sN:=ab Lp<|fY 4090;have b:Bd sN 4091:=.of (aF i) (by refine ab Lp ?_;have:(2:Int)^4091=2^4090*2:=tG ..;rewrite[this];have:=fY 4090;generalize(2:Int)^4090=z at*;omega(splitDisjunctions:=true))
 have u:W<=sN:=by refine ab Lp ?_;have:(2:Int)^4090=2^110*2^3980:=cA (ng ..) rfl;refine ab this ?_;have J:=fY 3980;have U:(2:Int)^110*1<=2^110*2^3980:=wd (by generalize(2:Int)^3980=z at*;omega(splitDisjunctions:=true)) (aF (fY 110));generalize(2:Int)^110*2^3980=z at*;omega(splitDisjunctions:=true)
 obtain⟨e,Z,hE⟩:∃e:Int,(g.fdiv 2).fmod 2=e/\(e=0\/e=1):=⟨_,rfl,xI (bQ _ (by decide)) (cJ _ (by decide))⟩;obtain⟨t,ht,F⟩:∃t:Int,1-2*g.fmod 2=t/\(t=1\/t= -1):=⟨_,rfl,(xI (bQ g (by decide)) (cJ g (by decide))).elim (λe=>.inl (by refine ab e ?_;rfl)) λe=>.inr (by refine ab e ?_;rfl)⟩;have r:Bd e 1:=by delta Bd;(refine ak hE (λH=>?_) λu2=>?_;subst H;rotate_left;subst u2;rotate_right)<;>decide
 have Y:Bd t 2:=by delta Bd;(refine ak F (λH=>?_) λu2=>?_;subst H;rotate_left;subst u2;rotate_right)<;>decide
 have l:Bd 2 2:=by delta Bd;decide
 have p:Bd 3 2:=by delta Bd;decide
 have q:Bd w 110:=.of o (by omega(splitDisjunctions:=true));have v:0<=g.fmod uN:=bQ _ G;have K:g.fmod uN<uN:=cJ _ G;have hBd:Bd (g.fmod uN) 4122:=.of v (ou K vV.2);have b1:=(l.mul q).mul b;have b2:=(p.mul b).mul r;have b3:=b2.mul A;have f:=(b1.mono (show 2+110+4091<=4300 by decide)).sub b3 (by decide);have N:=f.mul L;have j:=N.add hBd (by decide);have b7:=A.mul L;have X:0<W*uN:=we hW G;have hN:4101<=ag (W*uN):=by
  have J:¬ag (W*uN)<=4100:=λh=>by
   have d:=vV.1;have B:((2:Int)^4100)=((2^4100:Nat):Int):=by push_cast;rfl
   rw[B]at d;exact RP (kh h) (xe hW G) d
  exact MW J
 have C:ag (W*uN)<=7000:=e8.mpr (b7.mono (by decide));have hbt:∀x:Int,Bd x (4096+4)->True:=λ_ _=>trivial;generalize c:(2*w*sN-3*sN*e*W)*uN+g.fmod uN=T;have hTb:T.natAbs<2^(ag (W*uN)+4096):=by
  have hc:Bd (2*w*sN-3*sN*e*W) 0\/True:=.inr trivial;have Q:=kh (x:=W*uN) (aV _);have J:(2*w*sN-3*sN*e*W).natAbs<=5*W.natAbs*sN.natAbs:=by
   have a1:2*w*sN<=2*W*sN:=bl (by(clear Q hc c hbt C hN X b7 j N f b3 b2 b1 hBd K v q p l Y r F ht hE Z u b i L A G P hW o;lia)) (aF i);have a2:0<=2*w*sN:=gP (by omega(splitDisjunctions:=true)) (aF i);have a3:0<=3*sN*e*W/\3*sN*e*W<=3*(W*sN):=by
    have:0<=W*sN:=gP (aF hW) (aF i);refine ak hE (λH=>?_) λu2=>?_;rw[H];rotate_left;subst u2;rotate_right
    ·simp;omega(splitDisjunctions:=true)
    ·have:3*sN*1*W=3*(W*sN):=ab (Int.mul_one ..) (ab (fL ..) (ab (bR sN ..) rfl));omega(splitDisjunctions:=true)
   have a:5*W.natAbs*sN.natAbs=5*(W*sN).natAbs:=ab (qb ..) (ab (rX ..) rfl);exact ab a<|Nb (gP (aF hW) (aF i)) a2 ((fL ..)▸a1) a3.1 a3.2
  have U:((2*w*sN-3*sN*e*W)*uN).natAbs<=5*sN.natAbs*(W*uN).natAbs:=by
   refine ab (qb ..) (ab (qb ..) ?_)
   calc _<=5*W.natAbs*sN.natAbs*uN.natAbs:=Fj _ J
    _=5*sN.natAbs*(W.natAbs*uN.natAbs):=ab (rX 5 ..) (ab (UN W.natAbs ..) (cA (rX 5 ..) (ab (rX ..) rfl)))
  have S:(g.fmod uN).natAbs<=(W*uN).natAbs:=zQ v (gr (aF K) (xe hW G));have O:5*sN.natAbs+1<=2^4096:=by
   have V:2^4096=2^4091*32:=by rewrite[show 4096=4091+5 from rfl,qd];with_reducible rfl
   exact ab V<|Tq b
  refine ab (qd ..) (ab (UN (2^_) ..) ?_)
  calc T.natAbs<=(5*sN.natAbs+1)*(W*uN).natAbs:=(ab (Xg ..)<|ab (Nat.one_mul ..)<|cA c<|aP (Mz _ _) (iY U S))
   _<=2^4096*(W*uN).natAbs:=Fj _ O
   _<2^4096*2^ag (W*uN):=Nat.mul_lt_mul_of_pos_left Q (pg _)
 have I:ag T<=ag (W*uN)+ag (W*uN):=e8.mpr (be hTb (i6 (by decide) (by omega(splitDisjunctions:=true))));have E:ag (-T-1)<=ag (W*uN)+ag (W*uN):=e8.mpr (by
  have U:2^(ag (W*uN)+4096)+1<=2^(ag (W*uN)+ag (W*uN)):=by have S:2^(ag (W*uN)+4096+1)<=2^(ag (W*uN)+ag (W*uN)):=i6 (by decide) (by omega(splitDisjunctions:=true));rw[B6]at S;rw[Fk]at S;exact aP (Nat.add_le_add_left (pg (ag (W*uN)+4096)) _) S
  exact ia (Ie T) (be (Nat.succ_lt_succ hTb) U))
 have D:Bd (T.fdiv (W*uN)) 10000:=by exact(show Bd _ 9000 from kh (Yd (x:=T) (y:=W*uN) (m:=9000) (e8.mpr (cA c<|(j.mono (by decide)))))).mono (by decide)
 refine Gd (w:=w) (e:=e) hW u G v K λf1 f2 f3=>?_;rw[c]at f1;have R:0<=T.fmod (W*uN):=bQ _ X;have M:T.fmod (W*uN)<W*uN:=cJ _ X;have s:(BK (k+8)).O 7 [.int (t*T),.int (t*W*uN)]=some (.tup [.int (T.fdiv (W*uN)),.int (t*T.fmod (W*uN))]):=by
  refine ak F (λH=>?_) λu2=>?_;subst H;rotate_left;subst u2;rotate_right
  ·exact ab (iV ..)<|ab (iV ..)<|ab (iV ..)<|Ak (k+1) X C I E
  ·have:=Jl k X C I E;exact ab (lJ T)<|ab (show-1*W*uN= -(W*uN)by exact ab (lJ ..) (ab (Xd ..) rfl))<|ab (lJ (T.fmod (W*uN)))<|this
 refine ab Pd<|eC.run rfl<|.cI (x:=.int uN) (loc':= [.int w,.int W,.int g,.int uN,.c,.c,.c,.c,.c]) Vt rfl<|.cI (x:=.int sN) (loc':= [.int w,.int W,.int g,.int uN,.int sN,.c,.c,.c,.c]) Vs rfl<|.cI (x:=.int t) (loc':= [.int w,.int W,.int g,.int uN,.int sN,.int t,.c,.c,.c]) (cA ht<|oO rfl (jL (m:=2) (n:=2) rfl (oP rfl rfl (by decide)) l (.of (bQ _ (by decide)) (ou (cJ _ (by decide)) (by decide))) (by decide))) rfl ?_;refine .cI (x:=.int (3*sN*e)) (loc':= [.int w,.int W,.int g,.int uN,.int sN,.int t,.int (3*sN*e),.c,.c]) (cA Z<|jL (jL rfl rfl p b (by decide)) (oP (D4 rfl rfl (by decide)) rfl (by decide)) (p.mul b) (Z▸r) (by decide)) rfl ?_;refine .cI (x:=.int T) (loc':= [.int w,.int W,.int g,.int uN,.int sN,.int t,.int (3*sN*e),.int T,.c]) (cA c<|oN (jL (oO (jL (jL rfl rfl l q (by decide)) rfl (l.mul q) b (by decide)) (jL rfl rfl b2 A (by decide))) rfl f L (by decide)) (oP rfl rfl (cH G))) rfl ?_;refine .cI (x:=.tup [.int (T.fdiv (W*uN)),.int (t*T.fmod (W*uN))]) (eP (vs:= [.int (t*T),.int (t*W*uN)]) (by have e1:ev (BK (k+8)) [] (.f .Mult (.a 5) (.a 7)) [.int w,.int W,.int g,.int uN,.int sN,.int t,.int (3*sN*e),.int T,.c]=some (.int (t*T)):=jL (m:=2) (n:=9000) rfl rfl Y (cA c<|j.mono (by decide)) (by decide);have e2:ev (BK (k+8)) [] (.f .Mult (.f .Mult (.a 5) (.a 1)) (.a 3)) [.int w,.int W,.int g,.int uN,.int sN,.int t,.int (3*sN*e),.int T,.c]=some (.int (t*W*uN)):=jL (jL rfl rfl Y A (by decide)) rfl (Y.mul A) L (by decide);simp only[af,(id jW),e1,e2,aj,af,aJ]) rfl s) rfl (JX (k+8) (g:=g) o hW P F (ab (bR ..)<|kG T (W*uN)) R M D f1 f2 f3)
noncomputable def kg:Bool->List Nat->Bool
 |e,[]=>e
 |true,_::l=>kg false l
 |false,c::l=>if c=92 then kg true l else kg false l
theorem D2:(∀e,kg e []=(e))/\
 (∀A l,kg true (A::l)=(kg false l))/\
 (∀c l,kg false (c::l)=(if c=92 then kg true l else kg false l)):=⟨by intros;rfl,by intros;rfl,by intros;rfl⟩
theorem Js:∀(a:List Nat) (p:Nat) (e:Bool) (b:List Nat),kg e a=false->ff p e (a++b)=ff p e a++ff (p+a.length) false b:=by
 intro a
 induction a with
 |nil=>exactλp e b h=>ab (show e=false from h) rfl
 |cons c a R=>
  intro p e b h;have L:p+(a.length+1)=p+1+a.length:=dN (dS p a.length);cases e with
  |true=>
   simp only[da,(id pV),(R (p+1) false b h),bu];exact ab L rfl
  |false=>
   simp only[(id D2)]at h;simp only[da,(id pV),bu];by_cases V:c=92
   ·simp only[V,if_true]at h⊢;exact ab (R (p+1) true b h) (ab L rfl)
   ·simp only[V,if_false]at h⊢;exact ab (R (p+1) false b h) (ab L rfl)
noncomputable def nK(t:kR)(body:Loc->St->Option (Fl×Loc×St)):List AV->Loc->St->Option (Loc×St)
 | [],loc,st=>some (loc,st)
 |v::l,loc,st=>do
  let loc1<-cT loc t v
  match<-body loc1 st with
  |(.next,loc2,st2)=>nK t body l loc2 st2
  |_=>none
theorem JQ:(∀t body loc st,nK t body [] loc st=(some (loc,st)))/\
 (∀t body v l loc st,nK t body (v::l) loc st=(do
 let loc1<-cT loc t v
 match<-body loc1 st with
 |(.next,loc2,st2)=>nK t body l loc2 st2
 |_=>none)):=⟨by intros;rfl,by intros;rfl⟩
theorem gD{t:kR}{body:Loc->St->Option (Fl×Loc×St)}{v:AV}{l:List AV}{loc loc1 loc2:Loc}{st st2:St}{R:Option (Loc×St)}(O:cT loc t v=some loc1)(h:body loc1 st=some (.next,loc2,st2))(U:nK t body l loc2 st2=R):nK t body (v::l) loc st=R:=(JQ.2 ..).trans (tZ O (tZ h U))
theorem AD{t:kR}{body:Loc->St->Option (Fl×Loc×St)}{v:AV}{l:List AV}{loc:Loc}{st:St}{r:Loc×St}(h:nK t body (v::l) loc st=some r){I:Prop}(N:∀loc1 loc2 st2,cT loc t v=some loc1->body loc1 st=some (.next,loc2,st2)->nK t body l loc2 st2=some r->I):I:=by
 refine dn ((JQ.2 ..).symm.trans h) λloc1 O h=>dn h λq j h=>?_;rcases q with⟨f,loc2,st2⟩;rcases f with _|_|_
 ·exact N _ _ _ O j h
 ·injection h
 ·injection h
theorem vh{t:kR}{body:Loc->St->Option (Fl×Loc×St)}:∀{l1 l2:List AV} {loc loc':Loc} {st st':St} {R:Option (Loc×St)},nK t body l1 loc st=some (loc',st')->nK t body l2 loc' st'=R->nK t body (l1++l2) loc st=R:=by
 intro G
 induction G with
 |nil=>
  intro l2 loc loc' st st' R h U;injection h with F;injection F with D B;exact ab D<|ab B<|U
 |cons v l1 P=>exactλh U=>AD h λz z z O j h=>ab da<|gD O j (P h U)
theorem sr{t:kR}{body:Loc->St->Option (Fl×Loc×St)}:∀{l1 l2:List AV} {loc loc':Loc} {st st':St},nK t body l1 loc st=some (loc',st')->iP t body (l1++l2) loc st=iP t body l2 loc' st':=by
 intro G
 induction G with
 |nil=>
  intro l2 loc loc' st st' h;injection h with F;injection F with D B;subst D;subst B;rfl
 |cons v l1 P=>exactλh=>AD h λz z z O j h=>ab da<|bf O j (P h)
theorem AB{t:kR}{body:Loc->St->Option (Fl×Loc×St)}{l:List AV}{loc loc':Loc}{st st':St}(h:nK t body l loc st=some (loc',st')):iP t body l loc st=some (.next,loc',st'):=by
 have:=sr (l2:= []) h
 rwa [ik]at this
def zm(v:AV):Prop:=∃(i:Nat) (u:List Nat),v=.tup [.int i,.str u]/\u≠ [34]/\u≠ [40]/\u≠ [41]
structure Quiet (t:List Nat):Prop where
 fin:kg false t=false
 un:∀(p:Nat),∀v∈ff p false t,zm v
theorem iQ:Quiet []:=⟨rfl,λp v h=>absurd h dy⟩
theorem C3{c:Nat}{t:List Nat}(J:c≠92)(U:c≠34)(S:c≠40)(d:c≠41)(h:Quiet t):Quiet (c::t):=by
 refine⟨by simp only[(id D2),if_neg J];exact h.fin,λp v D=>?_⟩;simp only[(id pV),if_neg J,aS]at D;refine ak D (λH=>?_) λD=>?_;refine ab H ?_
 ·exact⟨p,[c],rfl,by simpa using U,by simpa using S,by simpa using d⟩
 ·exact h.un _ v D
theorem sJ{c:Nat}{t:List Nat}(h:Quiet t):Quiet (92::c::t):=by
 refine⟨h.fin,λp v D=>?_⟩;simp only[(id pV),if_true,aS]at D;refine ak D (λH=>?_) λD=>?_;refine ab H ?_
 ·exact⟨p+1,[92,c],rfl,by simp,by simp,by simp⟩
 ·exact h.un _ v D
noncomputable def pQ(k:Bool):Nat:=if k then 40 else 41
noncomputable abbrev lA:=Bool×List Nat
noncomputable def aR(bs:List lA):List Nat:=bs.flatMap λb=>pQ b.1::b.2
noncomputable def qq:List Nat:= [34,40,92,34,34]
theorem dj(b:lA)(bs:List lA):aR (b::bs)=pQ b.1::(b.2++aR bs):=by rfl
theorem iC(a b:List lA):aR (a++b)=aR a++aR b:=by simp[aR]
theorem yg(k:Bool):pQ k≠92/\pQ k≠34:=by rcases k with⟨⟩<;>simp[pQ]
theorem sm{k:Bool}{t:List Nat}(h:kg false t=false)(p:Nat)(r:List Nat):ff p false (pQ k::(t++r))=.tup [.int p,.str [pQ k]]::(ff (p+1) false t++ff (p+1+t.length) false r):=by simp only[(id pV),if_neg (yg k).1];exact congrArg _ (Js _ _ _ _ h)
theorem TJ(p:Nat):ff p false qq= [.tup [.int p,.str [34]],.tup [.int (p+1:Nat),.str [40]],.tup [.int (p+1+1+1:Nat),.str [92,34]],.tup [.int (p+1+1+1+1:Nat),.str [34]]]:=by rfl
def mK(t:List Nat):Prop:=Quiet t\/t=qq
theorem mK.fin{t:List Nat}(h:mK t):kg false t=false:=by
 refine ak h (λh=>?_) λH=>?_;rotate_left;refine ab H ?_;rotate_right
 ·exact h.fin
 ·rfl
noncomputable def wF(t:List Nat):List Nat:=if t=qq then[]else t
noncomputable def eV(bs:List lA):List lA:=bs.map λb=>(b.1,wF b.2)
theorem K3{t:List Nat}(h:Quiet t):t≠qq:=by intro o1;subst o1;refine cX (h.un 0 (.tup [.int (0:Nat),.str [34]]) (ab (TJ ..)<|aH)) λi u J U z=>?_;simp at J;exact U J.2.symm
theorem TQ{k:Nat}{args:List AV}:(BK (k+1)).O 9 args=iR (BK k) f9 args:=rfl
noncomputable def b9:List CS:= [.ite (.cmp .Eq (.a 5) (.l [34]))
 [.ite (.cmp .Is (.a 2) .u)
  [.cI (.bX 2) (.a 4)]
  [.ite (.cmp .NotEq (.a 1) (.a 2))
   [.app 3 (.I (.a 0) (.a 1) (.a 2))]
   [],
   .cI (.bX 1) (.f .Add (.a 4) (.d 1)),
   .cI (.bX 2) .u]]
 []]
theorem ky{st:St}{u v:List Nat}(h:u≠v):fk st .Eq (.str u) (.str v)=some false:=by have:(u==v)=false:=beq_false_of_ne h;simp only[(id cb),(id jJ),this]
section
variable{k:Nat}{x a b r o s:AV}{st:St}
theorem qV{i:Nat}{u:List Nat}(h:u≠ [34]):dh (BK k) b9 [x,s,o,r,.int i,.str u] st=some (.next,[x,s,o,r,.int i,.str u],st):=
 aO (eu (a:=.bool false) (r:=false) (cc rfl rfl (ky h)) rfl rfl) rfl
theorem IQ:∀{l:List AV} {a b:AV},(∀v∈l,zm v)->∃I w,nK (.many [4,5]) (λloc st=>dh (BK k) b9 loc st) l [x,s,o,r,a,b] st=some ([x,s,o,r,I,w],st):=by
 intro l
 induction l with
 |nil=>exactλz=>⟨_,_,rfl⟩
 |cons v l R=>
  intro a b h;exact cX (h v aH) λi u o1 J z=>ab o1<|ej (R (a:=.int i) (b:=.str u) λv D=>h v (ax _ D)) λI w e=>⟨I,w,gD (loc1:= [x,s,o,r,.int i,.str u]) rfl (qV J) e⟩
end
theorem WM{x:List Nat}{s p:Nat}(G:s<=x.length)(B:p<=x.length)(V:x.length<=cB):vO (.str x) (.int s) (.int p)=some (.str ((x.take p).drop s)):=by
 have e1:∀m:Nat,m<=x.length->kA x.length 0 (.int m)=some m:=by intro m T;simp only[(id nF)];refine ab (if_neg (jZ m)) ?_;simp;exact fz T
 have e2:∀m:Nat,m<=x.length->kA x.length x.length (.int m)=some m:=by intro m T;simp only[(id nF)];refine ab (if_neg (jZ m)) ?_;simp;exact fz T
 simp only[(id T3),e1 s G,e2 p B,aj,af,if_pos V]
theorem XG{k:Nat}{x:List Nat}{s p:Nat}{acc:List AV}{a b:AV}(G:s<p)(B:p<=x.length)(V:x.length<=cB)(L:acc.length<=cB):
 nK (.many [4,5]) (λloc st=>dh (BK k) b9 loc st) (ff p false qq) [.str x,.int s,.none,.ref 0,a,b] [some acc]=
  some ([.str x,.int (p+5:Nat),.none,.ref 0,.int (p+4:Nat),.str [34]],[some (acc++ [.str ((x.take p).drop s)])]):=by
 refine gD (loc1:= [.str x,.int s,.none,.ref 0,.int p,.str [34]]) (loc2:= [.str x,.int s,.int p,.ref 0,.int p,.str [34]]) (st2:= [some acc]) rfl ?_ ?_
 ·refine aO (eu (a:=.bool true) (r:=true) rfl rfl ?_) rfl;exact aO (eu (a:=.bool true) (r:=true) rfl rfl (aO (gw (v:=.int p) rfl rfl) rfl)) rfl
 refine gD rfl (qV (by decide))<|gD rfl (qV (by decide))<|gD (loc1:= [.str x,.int s,.int p,.ref 0,.int (p+4:Nat),.str [34]]) (loc2:= [.str x,.int (p+5:Nat),.none,.ref 0,.int (p+4:Nat),.str [34]]) (st2:= [some (acc++ [.str ((x.take p).drop s)])]) rfl ?_ rfl;refine aO (eu (a:=.bool true) (r:=true) rfl rfl ?_) rfl;refine aO (eu (a:=.bool false) (r:=false) rfl rfl ?_) rfl;refine aO (loc':= [.str x,.int s,.int p,.ref 0,.int (p+4:Nat),.str [34]]) (st':= [some (acc++ [.str ((x.take p).drop s)])]) (eu (a:=.bool true) (r:=true) (cc rfl rfl ?_) rfl ?_) ?_
 ·have:((s:Int)==(p:Int))=false:=by simp;lia
  simp only[(id cb),(id jJ),this,aK,Bool.not_false]
 ·exact aO (jK (n:=0) (l:=acc) (v:=.str ((x.take p).drop s)) (by simp only[(id fD),af,bo,bE,aj,af,WM (aP (cm G) B) B V]) rfl rfl L) rfl
 ·exact aO (gw (v:=.int (p+5:Nat)) (loc':= [.str x,.int (p+5:Nat),.int p,.ref 0,.int (p+4:Nat),.str [34]]) rfl rfl)<|aO (gw (v:=.none) rfl rfl) rfl
theorem SH(c:Nat)(x:List Nat):xc [c] x=decide (c∈x):=by
 have:=PySem.StrLaws.found_one (strOf x) c;have U:c∈(strOf x).cps.toList↔c∈x:=by rfl
 show(!(qa (strOf x) ⟨#[c]⟩ 0 x.length 1).isEmpty)=_;exact ab this<|decide_eq_decide.mpr U
theorem Jt:∀(x:List Nat) (p:Nat) (e:Bool),(ff p e x).length<=x.length+(if e then 1 else 0):=by
 intro x
 induction x with
 |nil=>intro p e;cases e<;>simp[(id pV)]
 |cons c x R=>
  intro p e;cases e with
  |true=>
   have:=R (p+1) false;simp[(id pV)]at this⊢;lia
  |false=>
   simp only[(id pV)];split
   ·have:=R (p+1) true;simp at this⊢;omega+splitDisjunctions
   ·have:=R (p+1) false;simp at this⊢;omega+splitDisjunctions
theorem yw{k:Nat}{st:St}{loc:Loc}{e:CE}{x:List Nat}(h:ev (BK (k+1)) st e loc=some (.str x))(V:x.length<=cB):ev (BK (k+1)) st (.J e) loc=some (.lst (ff 0 false x)):=by have Z:((BK (k+1)).O 8 [.str x]).isSome=true:=rfl;simp only[(id fD),FO,af,h,V,Z,and_self,if_true]
theorem ro{st:St}{x:List Nat}(V:x.length<=cB):fQ st (.lst (ff 0 false x))=some (ff 0 false x):=jN (aP (Jt x 0 false) (V))
theorem qt{C:dC}{st:St}{loc:Loc}{a lo:CE}{x:List Nat}{s:Nat}(J:ev C st a loc=some (.str x))(U:ev C st lo loc=some (.int s))(G:s<=x.length)(V:x.length<=cB):ev C st (.F a lo) loc=some (.str (x.drop s)):=by
 have e2:kA x.length 0 (.int (s:Nat))=some s:=by simp only[(id nF)];refine ab (if_neg (jZ s)) ?_;simp;exact fz G
 simp only[(id fD),af,J,U,aj,af,(id T3),e2];simp[(id nF),V]
theorem JC{C:dC}{st:St}{loc:Loc}{a lo hi:CE}{x:List Nat}{s p:Nat}(J:ev C st a loc=some (.str x))(U:ev C st lo loc=some (.int s))(S:ev C st hi loc=some (.int p))(G:s<=x.length)(B:p<=x.length)(V:x.length<=cB):ev C st (.I a lo hi) loc=some (.str ((x.take p).drop s)):=by
 have e2:kA x.length 0 (.int (s:Nat))=some s:=by simp only[(id nF)];refine ab (if_neg (jZ s)) ?_;simp;exact fz G
 have c:kA x.length x.length (.int (p:Nat))=some p:=by simp only[(id nF)];refine ab (if_neg (jZ p)) ?_;simp;exact fz B
 simp only[(id fD),af,J,U,S,aj,af,(id T3),e2,c];simp[V]
theorem JD{C:dC}{st:St}{loc:Loc}{a hi:CE}{x:List Nat}{p:Nat}(J:ev C st a loc=some (.str x))(S:ev C st hi loc=some (.int p))(V:x.length<=cB):ev C st (.A a hi) loc=some (.str (x.take p)):=by
 have c:kA x.length x.length (.int (p:Nat))=some (min p x.length):=by rfl
 simp only[(id fD),af,J,S,aj,af,(id T3),c];simp[(id nF),V]
theorem EO:∀l:List (List Nat),pa (l.map .str)=some l:=by
 intro G
 induction G with
 |nil=>
  exact rfl
 |cons a l R=>
  show(pa (l.map .str)).map (a::·)=_;refine ab R ?_;rfl
theorem w6{x:List Nat}{s p m:Nat}{r:List Nat}(G:s<=p)(B:p<=x.length)(Z:x.drop p=r)(T:m<=r.length):(x.take (p+m)).drop s=(x.take p).drop s++r.take m:=by refine cA Z<|ab zG ?_;rw[List.drop_append_of_le_length];refine ab br ?_;lia
theorem ze(k:Nat)(x:List Nat)(V:x.length<=cB):∀(bs:List lA) (p s:Nat) (acc:List (List Nat)) (a b:AV),(∀c∈bs,mK c.2)->x.drop p=aR bs->p<=x.length->s<=p->acc.length+bs.length<=cB->
 ∃(s':Nat) (q:List (List Nat)) (I w:AV),nK (.many [4,5]) (λloc st=>dh (BK k) b9 loc st) (ff p false (aR bs)) [.str x,.int (s:Nat),.none,.ref 0,a,b] [some (acc.map .str)]=some ([.str x,.int (s':Nat),.none,.ref 0,I,w],[some (q.map .str)])/\s'<=x.length/\q.length<=cB/\
  q.flatten++x.drop s'=acc.flatten++(x.take p).drop s++aR (eV bs):=by
 intro F
 induction F with
 |nil=>
  refineλp s acc a b z Z B G X=>⟨s,acc,a,b,rfl,aP G B,X,?_⟩;have J:x.length<=p:=by have:=congrArg dp Z;simp[aR]at this;exact List.drop_eq_nil_iff.mp Z
  refine ab (fJ J) ?_;simp[eV,aR]
 |cons C bs R=>
  rcases C with⟨u,t⟩;intro p s acc a b O Z B G X;have Q:=O _ aH;have S:∀c∈bs,mK c.2:=λc V=>O c (ax _ V);clear O;simp only[dj]at Z⊢;simp only[sm Q.fin];have M:x.length=p+(1+t.length+(aR bs).length):=by have:=congrArg dp Z;simp only[bu,cK]at this;grind
  have K:x.drop (p+1)=t++aR bs:=by refine cA dJ (ab Z ?_);rfl
  have A:x.drop (p+1+t.length)=aR bs:=by refine cA dJ (ab K ?_);simp
  have L: [pQ u]≠ [34]:=by have:=(yg u).2;simpa using this
  have e1:(x.take (p+1)).drop s=(x.take p).drop s++ [pQ u]:=by have:=w6 (x:=x) (s:=s) (p:=p) (m:=1) G B Z (by simp);exact this
  refine ak Q (λD=>?_) λH=>?_;rotate_left;subst H;rotate_right
  ·refine ew λY=>ew λY=>ew λY=>ej (IQ (k:=k) (x:=.str x) (s:=.int (s:Nat)) (o:=.none) (r:=.ref 0) (st:= [some (acc.map .str)]) (a:=.int p) (b:=.str [pQ u]) (D.un (p+1))) λa1 b1 f=>rj (R (p+1+t.length) s acc a1 b1 S A (by lia) (by lia) (by simp at X;exact gv X)) λs' q I w j E g4 g5=>Y ?_;clear Y;refine Y ?_;clear Y;refine Y ?_;clear Y;refine⟨s',q,I,w,gD (loc1:= [.str x,.int (s:Nat),.none,.ref 0,.int p,.str [pQ u]]) rfl (qV L) (vh f j),E,g4,?_⟩;refine ab g5 ?_;have e2:(x.take (p+1+t.length)).drop s=(x.take p).drop s++ [pQ u]++t:=by
    have:=w6 (x:=x) (s:=s) (p:=p+1) (m:=t.length) (ox G) (by lia) K (by simp);refine ab this (ab e1 ?_);simp
   refine ab e2 ?_;simp[eV,dj,wF,K3 D]
  ·have f:=XG (k:=k) (x:=x) (s:=s) (p:=p+1) (acc:=acc.map .str) (a:=.int p) (b:=.str [pQ u]) (Nat.lt_succ_of_le G) (by lia) V (by simp at X⊢;exact oy X);refine rj (R (p+1+qq.length) (p+1+qq.length) (acc++ [(x.take (p+1)).drop s]) (.int (p+1+4:Nat)) (.str [34]) S A (by lia) (aV _) (by simp at X⊢;lia)) λs' q I w j E g4 g5=>?_;rw[ed]at j;refine⟨s',q,I,w,gD (loc1:= [.str x,.int (s:Nat),.none,.ref 0,.int p,.str [pQ u]]) rfl (qV L) (vh f j),E,g4,?_⟩;refine ab g5 (ab e1 ?_);simp[eV,dj,wF,qq]
theorem JB(C:dC)(st:St)(a:CE)(loc:Loc):ev C st (.join a) loc=(do
 let l<-pa (<-jX st (<-ev C st a loc))
 if l.flatten.length<=cB then return .str l.flatten else none):=rfl
set_option tactic.hygienic true in
theorem LJ(k:Nat)(bs:List lA)(J:∀c∈bs,mK c.2)(V:(aR bs).length<=cB)(X:bs.length<=100):(BK (k+2)).O 9 [.str (aR bs)]=some (.str (aR (eV bs))):=by
 simp only[TQ];refine eC.run rfl ?_;by_cases S:xc [34] (aR bs)=true
 ·refine .jo (cc rfl rfl (by simp[(id cb),S]))<|rj (ze (k+1) (aR bs) V bs 0 0 [] .c .c J rfl (bz _) (aV _) (by simp;exact aP X (by decide))) λs' q I w f j t g4=>.cI (x:=.int 0) (loc':= [.str (aR bs),.int 0,.c,.c,.c,.c]) rfl rfl<|.cI (x:=.none) (loc':= [.str (aR bs),.int 0,.none,.c,.c,.c]) rfl rfl<|.next (iO (l:= []) (loc':= [.str (aR bs),.int 0,.none,.ref 0,.c,.c]) rfl rfl rfl)<|.sx (a:=.lst (ff 0 false (aR bs))) (L:=ff 0 false (aR bs)) (yw rfl V) (ro V) (AB f) ?_;have g4:q.flatten++(aR bs).drop s'=aR (eV bs):=g4;have F:(aR (eV bs)).length<=(aR bs).length:=by
   have:∀bs:List lA,(aR (eV bs)).length<=(aR bs).length:=by
    intro bs
    induction bs with
    |nil=>simp[eV,aR]
    |cons b bs R=>
     have e:eV (b::bs)=(b.1,wF b.2)::eV bs:=rfl;refine ab e (ab (dj ..) (ab (dj ..) ?_));have:(wF b.2).length<=b.2.length:=by delta wF;split<;>simp
     simp;exact iY this R
   exact this bs
  have C:∀A:List (List Nat),A.flatten=aR (eV bs)->eC (BK (k+1)) [.ret (.join (.a 3))] [.str (aR bs),.int (s':Nat),.none,.ref 0,I,w] [some (A.map .str)] (.str (aR (eV bs))):=by refineλA h=>.ret ?_ rfl;have d:A.flatten.length<=cB:=ab h<|aP F V;have O:ev (BK (k+1)) [some (A.map .str)] (.a 3) [.str (aR bs),.int (s':Nat),.none,.ref 0,I,w]=some (.ref 0):=rfl;have e1:jX [some (A.map AV.str)] (.ref 0)=some (A.map .str):=rfl;refine ab (JB ..) ?_;have p:(aR (eV bs)).length<=cB:=cA h<|d;simp only[O,e1,aj,af,EO,h,p,if_true,aJ]
  have H:ev (BK (k+1)) [some (q.map .str)] (.len (.a 0)) [.str (aR bs),.int (s':Nat),.none,.ref 0,I,w]=some (.int (aR bs).length):=by simp[(id fD),(id mN),V]
  by_cases G:s'< (aR bs).length
  ·refine .oq (cc (r:=true) (x:=.int (s':Nat)) rfl H (by simp[(id cb)];exact nv G))<|.next (jK (n:=0) (l:=q.map .str) (v:=.str ((aR bs).drop s')) ?_ rfl rfl (by simpa using t)) ?_
   ·exact qt rfl rfl (cm G) V
   ·have:=C (q++ [(aR bs).drop s']) (by simpa using g4);rw[ed]at this;exact this
  ·refine .jo (cc (r:=false) (x:=.int (s':Nat)) rfl H (by simp[(id cb)];exact gR G))<|C q ?_;rw[List.drop_eq_nil_of_le (gR G)]at g4;simpa using g4
 ·refine .oq (cc (r:=true) rfl rfl (by simp[(id cb),S])) ?_;have B:34∉aR bs:=by
   rw[SH]at S;simpa using S
  have E:aR (eV bs)=aR bs:=by
   have:∀bs:List lA,34∉aR bs->aR (eV bs)=aR bs:=by
    intro bs
    induction bs with
    |nil=>intro z;rfl
    |cons b bs R=>
     intro h;have e:eV (b::bs)=(b.1,wF b.2)::eV bs:=rfl;rw[dj]at h;simp only[aS,dw,not_or]at h;simp only[e,dj,dj,R h.2.2];have:wF b.2=b.2:=by
      delta wF;split
      ·rename_i D;rw[D]at h;exact absurd (by simp[qq]) h.2.1
      ·rfl
     exact ab this rfl
   exact this bs B
  exact ab E<|.ret rfl rfl
theorem O2{k:Nat}{args:List AV}:(BK (k+1)).O 10 args=iR (BK k) Yl args:=rfl
noncomputable def MK:List CS:= [.ite (.cmp .Eq (.a 3) (.l [40]))
 [.aug 1 .Add (.d 1)]
 [.ite (.cmp .Eq (.a 3) (.l [41]))
  [.aug 1 .Sub (.d 1),
   .ite (.cmp .Lt (.a 1) (.d 0))
    [.ret (.v false)]
    []]
  []]]
noncomputable def qh:Int->List Bool->Option Int
 |n,[]=>some n
 |n,true::r=>qh (n+1) r
 |n,false::r=>if n-1<0 then none else qh (n-1) r
theorem Qw:(∀n,qh n []=(some n))/\
 (∀n r,qh n (true::r)=(qh (n+1) r))/\
 (∀n r,qh n (false::r)=(if n-1<0 then none else qh (n-1) r)):=⟨by intros;rfl,by intros;rfl,by intros;rfl⟩
noncomputable def yf(V:List Bool):Bool:=match qh 0 V with
 |some m=>m==0
 |none=>false
section
variable{k:Nat}{x a b:AV}{n:Int}{st:St}
theorem IM{i:Nat}{u:List Nat}(h:u≠ [40])(U:u≠ [41]):dh (BK k) MK [x,.int n,.int i,.str u] st=some (.next,[x,.int n,.int i,.str u],st):=
 aO (eu (a:=.bool false) (r:=false) (cc rfl rfl (ky h)) rfl (aO (eu (a:=.bool false) (r:=false) (cc rfl rfl (ky U)) rfl rfl) rfl)) rfl
theorem FE:∀{l:List AV} {a b:AV},(∀v∈l,zm v)->∃I w,nK (.many [2,3]) (λloc st=>dh (BK k) MK loc st) l [x,.int n,a,b] st=some ([x,.int n,I,w],st):=by
 intro l
 induction l with
 |nil=>exactλz=>⟨_,_,rfl⟩
 |cons v l R=>
  intro a b h;refine s8 (h v aH) λi u o1 z J U=>?_;subst o1;exact ej (R (a:=.int i) (b:=.str u) λv D=>h v (ax _ D)) λI w e=>⟨I,w,gD (loc1:= [x,.int n,.int i,.str u]) rfl (IM J U) e⟩
theorem IK{i:Nat}:dh (BK k) MK [x,.int n,.int i,.str [40]] st=some (.next,[x,.int (n+1),.int i,.str [40]],st):=
 aO (eu (a:=.bool true) (r:=true) rfl rfl (aO (fW (x:=.int n) (v:=.int 1) (y:=.int (n+1)) rfl rfl rfl rfl rfl) rfl)) rfl
theorem IL{i:Nat}(h:¬n-1<0):dh (BK k) MK [x,.int n,.int i,.str [41]] st=some (.next,[x,.int (n-1),.int i,.str [41]],st):=by
 have u:decide (n-1<0)=false:=decide_eq_false h;exact aO (eu (a:=.bool false) (r:=false) rfl rfl (aO (eu (a:=.bool true) (r:=true) rfl rfl (aO (fW (x:=.int n) (v:=.int 1) (y:=.int (n-1)) rfl rfl rfl rfl rfl)
  (aO (eu (a:=.bool false) (r:=false) (cc (x:=.int (n-1)) (y:=.int 0) rfl rfl (by simp only[(id cb),u])) rfl rfl) rfl))) rfl)) rfl
theorem IJ{i:Nat}(h:n-1<0):dh (BK k) MK [x,.int n,.int i,.str [41]] st=some (.ret (.bool false),[x,.int (n-1),.int i,.str [41]],st):=by
 have u:decide (n-1<0)=true:=decide_eq_true h;exact iB (eu (a:=.bool false) (r:=false) rfl rfl (iB (eu (a:=.bool true) (r:=true) rfl rfl (aO (fW (x:=.int n) (v:=.int 1) (y:=.int (n-1)) rfl rfl rfl rfl rfl)
  (iB (eu (a:=.bool true) (r:=true) (cc (x:=.int (n-1)) (y:=.int 0) rfl rfl (by simp only[(id cb),u])) rfl (iB (ra rfl rfl))))))))
end
theorem yk(k:Nat)(x:AV)(st:St):∀(bs:List lA) (p:Nat) (n:Int) (a b:AV),(∀c∈bs,Quiet c.2)->
 (∀m,qh n (bs.map (·.1))=some m->∃I w,iP (.many [2,3]) (λloc st=>dh (BK k) MK loc st) (ff p false (aR bs)) [x,.int n,a,b] st=some (.next,[x,.int m,I,w],st))/\
 (qh n (bs.map (·.1))=none->∃loc',iP (.many [2,3]) (λloc st=>dh (BK k) MK loc st) (ff p false (aR bs)) [x,.int n,a,b] st=some (.ret (.bool false),loc',st)):=by
 intro G
 induction G with
 |nil=>
  exactλp n a b z=>⟨λm h=>by injection h with F;subst F;exact⟨a,b,rfl⟩,λh=>nomatch h⟩
 |cons C bs R=>
  rcases C with⟨u,t⟩;intro p n a b O;have Q:=O _ aH;have S:∀c∈bs,Quiet c.2:=λc V=>O c (ax _ V);refine ab (dj ..) (ab (sm Q.fin ..) ?_);have A:∀n':Int,dh (BK k) MK [x,.int n,.int p,.str [pQ u]] st=some (.next,[x,.int n',.int p,.str [pQ u]],st)->qh n ((u,t)::bs|>.map (·.1))=qh n' (bs.map (·.1))->
   (∀m,qh n (((u,t)::bs).map (·.1))=some m->∃I w,iP (.many [2,3]) (λloc st=>dh (BK k) MK loc st) (.tup [.int p,.str [pQ u]]::(ff (p+1) false t++ff (p+1+t.length) false (aR bs))) [x,.int n,a,b] st=some (.next,[x,.int m,I,w],st))/\
   (qh n (((u,t)::bs).map (·.1))=none->∃loc',iP (.many [2,3]) (λloc st=>dh (BK k) MK loc st) (.tup [.int p,.str [pQ u]]::(ff (p+1) false t++ff (p+1+t.length) false (aR bs))) [x,.int n,a,b] st=some (.ret (.bool false),loc',st)):=by
   refineλn' J U=>ej (FE (k:=k) (x:=x) (n:=n') (st:=st) (a:=.int p) (b:=.str [pQ u]) (Q.un (p+1))) λa1 b1 f=>aN (R (p+1+t.length) n' a1 b1 S) λi1 o=>⟨λm T=>?_,λT=>?_⟩
   ·exact ej (i1 m (U▸T)) λa2 b2 j=>⟨a2,b2,bf (loc1:= [x,.int n,.int p,.str [pQ u]]) rfl J (ab (sr f)<|j)⟩
   ·exact aI (o (U▸T)) λl2 j=>⟨l2,bf (loc1:= [x,.int n,.int p,.str [pQ u]]) rfl J (ab (sr f)<|j)⟩
  rcases u with _|_
  ·by_cases h:n-1<0
   ·refine⟨λm T=>?_,λz=>⟨[x,.int (n-1),.int p,.str [41]],?_⟩⟩
    ·simp only[bI,(id Qw),if_pos h]at T;injection T
    ·have:=IJ (k:=k) (x:=x) (n:=n) (st:=st) (i:=p) h;exact(vg.2 ..).trans (tZ (show cT [x,.int n,a,b] (.many [2,3]) (.tup [.int p,.str [pQ false]])=some [x,.int n,.int p,.str [41]]from rfl) (tZ this rfl))
   ·exact A (n-1) (IL h) (by simp only[bI,(id Qw),if_neg h])
  ·exact A (n+1) IK rfl
set_option tactic.hygienic true in
theorem uT{bs:List lA}(O:∀c∈bs,mK c.2):∀c∈eV bs,Quiet c.2:=by
 refineλc V=>aC (dZ.mp V) λb J r=>?_;subst r;show Quiet (wF b.2);delta wF;split
 ·exact iQ
 ·rename_i h;exact(O b J).resolve_right h
theorem uS(bs:List lA):(eV bs).map (·.1)=bs.map (·.1):=by simp[eV]
theorem Ai:∀bs:List lA,(aR (eV bs)).length<=(aR bs).length:=by
 intro G
 induction G with
 |nil=>
  simp[eV,aR]
 |cons b bs A=>
  have R:=A;have e:eV (b::bs)=(b.1,wF b.2)::eV bs:=rfl;refine ab e (ab (dj ..) (ab (dj ..) ?_));have:(wF b.2).length<=b.2.length:=by delta wF;split<;>simp
  simp;exact iY this R
theorem yj(k:Nat)(bs:List lA)(O:∀c∈bs,mK c.2)(V:(aR bs).length<=cB)(X:bs.length<=100):(BK (k+3)).O 10 [.str (aR bs)]=some (.bool (yf (bs.map (·.1)))):=by
 have G:=LJ k bs O V X;have H:(aR (eV bs)).length<=cB:=aP (Ai bs) V;refine aN (yk (k+2) (.str (aR (eV bs))) [] (eV bs) 0 0 .c .c (uT O)) λi1 o=>?_;rw[uS]at i1 o;refine ab O2<|eC.run rfl<|.cI (x:=.str (aR (eV bs))) (loc':= [.str (aR (eV bs)),.c,.c,.c]) (eP (vs:= [.str (aR bs)]) rfl rfl G) rfl<|.cI (x:=.int 0) (loc':= [.str (aR (eV bs)),.int 0,.c,.c]) rfl rfl ?_;delta yf;cases hbal:qh 0 (bs.map (·.1))with
 |none=>
  exact aI (o hbal) λloc' g=>⟨_,_,iB (gT (yw rfl H) (ro H) g)⟩
 |some m=>
  exact ej (i1 m hbal) λI w g=>.sx (yw rfl H) (ro H) g<|.ret rfl rfl
theorem Pa{k:Nat}{args:List AV}:(BK (k+1)).O 17 args=iR (BK k) Yq args:=rfl
noncomputable def bt(bs:List lA)(i:Nat):Nat:=(aR (bs.take i)).length
noncomputable def bq(l:List Nat):List AV:=l.map λ(i:Nat)=>AV.int i
noncomputable def kY(b:Bool):Nat->List Bool->List Nat
 |_,[]=> []
 |n,k::r=>if k=b then n::kY b (n+1) r else kY b (n+1) r
theorem Gf:(∀b A,kY b A []=([]))/\
 (∀b n k r,kY b n (k::r)=(if k=b then n::kY b (n+1) r else kY b (n+1) r)):=⟨by intros;rfl,by intros;rfl⟩
theorem pB{bs:List lA}{i:Nat}(h:i<bs.length):bt bs (i+1)=bt bs i+1+(bs[i]).2.length:=by delta bt;refine ab (eK h) (ab (iC ..) (ab cK (ab (dj ..) ?_)));simp[aR];exact dN (dS (List.take i (YN (λa=>a.snd.length+1) bs)).sum bs[i].snd.length)
theorem rz{bs:List lA}{i:Nat}:∀{j:Nat},i<=j->bt bs i<=bt bs j:=by
 intro j h
 induction h with
 |refl=>exact aV _
 |@step m T R=>
  refine aP R ?_;by_cases X:m<bs.length
  ·refine ab (pB X) ?_;lia
  ·delta bt;exact ab (fJ (gR X))<|ab (fJ (Nat.le_of_not_ge X))<|aV _
theorem rA{bs:List lA}{i j:Nat}(h:i<j)(Y:j<=bs.length):bt bs i<bt bs j:=by have J:bt bs (i+1)<=bt bs j:=rz h;rw[pB (be h Y)]at J;lia
theorem tq{bs:List lA}{i j:Nat}(hi:i<=bs.length)(Y:j<=bs.length):bt bs i<bt bs j↔i<j:=by
 constructor
 ·intro h;by_cases hh:i<j
  ·exact hh
  ·have:=rz (bs:=bs) (show j<=i by exact gR hh);lia
 ·exactλh=>rA h Y
theorem Ba{bs:List lA}{i j:Nat}(hi:i<=bs.length)(Y:j<=bs.length):bt bs i<=bt bs j↔i<=j:=by have:=tq (bs:=bs) Y hi;lia
theorem xi(bs:List lA):bt bs bs.length=(aR bs).length:=by delta bt;exact ab kP rfl
theorem Am(bs:List lA)(i:Nat):(aR bs).drop (bt bs i)=aR (bs.drop i):=by have:aR bs=aR (bs.take i)++aR (bs.drop i):=cA (iC ..) (ab (fR ..) rfl);refine ab this ?_;delta bt;exact ab List.drop_left rfl
theorem LB{bs:List lA}{i j:Nat}(hi:i<=j)(Y:j<bs.length):((aR bs).take (bt bs j+1)).drop (bt bs i)=aR ((bs.drop i).take (j-i)++ [((bs[j]).1,[])]):=by
 refine ab xU (ab (Am ..) ?_);have J:bt bs j+1-bt bs i=(aR ((bs.drop i).take (j-i))).length+1:=by
  have e1:bs.take j=bs.take i++(bs.drop i).take (j-i):=by
   have:j=i+(j-i):=dN (tP hi)
   conv=>lhs;rw[this]
   exact ab zG rfl
  delta bt;exact ab e1<|ab (iC ..)<|ab cK<|dN (Dy rfl)
 refine ab J (ab (iC ..) ?_);have e2:bs.drop i=(bs.drop i).take (j-i)++(bs[j])::bs.drop (j+1):=by
  have U:(bs.drop i).drop (j-i)=bs.drop j:=by refine ab dJ ?_;congr 1;exact tP hi
  exact cA (dF Y) (cA U (ab (fR ..) rfl))
 have c:aR (bs.drop i)=aR ((bs.drop i).take (j-i))++(pQ (bs[j]).1::((bs[j]).2++aR (bs.drop (j+1)))):=by
  conv=>lhs;rw[e2]
  exact ab (iC ..) (ab (dj ..) rfl)
 generalize aR ((bs.drop i).take (j-i))=M at*;refine ab c (ab List.take_append ?_);simp[aR];exact fJ (ja M.length 1)
theorem Dc{bs:List lA}{i:Nat}(hi:i<bs.length):((aR bs).take (bt bs (i+1))).drop (bt bs i+1)=(bs[i]).2:=by refine ab xU (cA dJ (ab (Am ..) (ab (pB hi) (ab (dF hi) (ab (dj ..) ?_)))));refine ab (show bt bs i+1+(bs[i]).2.length- (bt bs i+1)=(bs[i]).2.length by exact DC (bt bs i+1) bs[i].snd.length) ?_;simp
noncomputable def Xl:List CS:= [.ite (.cmp .Eq (.a 4) (.l [40]))
 [.app 1 (.a 3)]
 [.ite (.cmp .Eq (.a 4) (.l [41]))
  [.app 2 (.a 3)]
  []]]
section
variable{k:Nat}{x a b:AV}{st:St}{o s:List AV}
theorem IP{i:Nat}{u:List Nat}(h:u≠ [40])(U:u≠ [41]):dh (BK k) Xl [x,.ref 0,.ref 1,.int i,.str u,.c,.c,.c,.c,.c] st=some (.next,[x,.ref 0,.ref 1,.int i,.str u,.c,.c,.c,.c,.c],st):=
 aO (eu (a:=.bool false) (r:=false) (cc rfl rfl (ky h)) rfl (aO (eu (a:=.bool false) (r:=false) (cc rfl rfl (ky U)) rfl rfl) rfl)) rfl
theorem FF:∀{l:List AV} {a b:AV},(∀v∈l,zm v)->∃I w,nK (.many [3,4]) (λloc st=>dh (BK k) Xl loc st) l [x,.ref 0,.ref 1,a,b,.c,.c,.c,.c,.c] st=some ([x,.ref 0,.ref 1,I,w,.c,.c,.c,.c,.c],st):=by
 intro l
 induction l with
 |nil=>exactλz=>⟨_,_,rfl⟩
 |cons v l R=>
  intro a b h;refine s8 (h v aH) λi u o1 z J U=>?_;subst o1;exact ej (R (a:=.int i) (b:=.str u) λv D=>h v (ax _ D)) λI w e=>⟨I,w,gD (loc1:= [x,.ref 0,.ref 1,.int i,.str u,.c,.c,.c,.c,.c]) rfl (IP J U) e⟩
theorem RN{i:Nat}(u:Bool)(M:o.length<=cB)(G:s.length<=cB):dh (BK k) Xl [x,.ref 0,.ref 1,.int i,.str [pQ u],.c,.c,.c,.c,.c] [some o,some s]=
 some (.next,[x,.ref 0,.ref 1,.int i,.str [pQ u],.c,.c,.c,.c,.c],[some (if u=true then o++ [.int i]else o),some (if u=false then s++ [.int i]else s)]):=by
 rcases u with _|_
 ·exact aO (eu (a:=.bool false) (r:=false) rfl rfl (aO (eu (a:=.bool true) (r:=true) rfl rfl (aO (jK (n:=1) (l:=s) (v:=.int i) rfl rfl rfl G) rfl)) rfl)) rfl
 ·exact aO (eu (a:=.bool true) (r:=true) rfl rfl (aO (jK (n:=0) (l:=o) (v:=.int i) rfl rfl rfl M) rfl)) rfl
end
theorem AY(a b:List Nat):bq (a++b)=bq a++bq b:=by simp[bq]
theorem C4(k:Nat)(x:AV)(bs:List lA)(J:bs.length<=100):∀(A M:List lA) (o s:List Nat) (a b:AV),bs=M++A->(∀c∈A,Quiet c.2)->o.length+s.length=M.length->
 ∃I w,nK (.many [3,4]) (λloc st=>dh (BK k) Xl loc st) (ff (bt bs M.length) false (aR A)) [x,.ref 0,.ref 1,a,b,.c,.c,.c,.c,.c] [some (bq o),some (bq s)]=
  some ([x,.ref 0,.ref 1,I,w,.c,.c,.c,.c,.c],[some (bq (o++(kY true M.length (A.map (·.1))).map (bt bs))),some (bq (s++(kY false M.length (A.map (·.1))).map (bt bs)))]):=by
 intro G
 induction G with
 |nil=>
  exactλM o s a b z z z=>⟨a,b,by simp[aR,(id pV),(id JQ),(id Gf)]⟩
 |cons C A R=>
  rcases C with⟨u,t⟩;intro M o s a b E D X;have Q:=D _ aH;have B:bs.length=M.length+(1+A.length):=by refine ab E ?_;simp;exact tO A.length 1
  have F:bs[M.length]'(by lia)=(u,t):=by simp[E]
  have H:bt bs (M.length+1)=bt bs M.length+1+t.length:=ab (pB (by lia)) (ab F rfl);refine ej (FF (k:=k) (x:=x) (st:= [some (bq (if u=true then o++ [bt bs M.length]else o)),some (bq (if u=false then s++ [bt bs M.length]else s))]) (a:=.int (bt bs M.length)) (b:=.str [pQ u]) (Q.un (bt bs M.length+1))) λa1 b1 f=>ej (R (M++ [(u,t)]) (if u=true then o++ [bt bs M.length]else o) (if u=false then s++ [bt bs M.length]else s) a1 b1 (by refine ab E ?_;simp) (λc V=>D c (ax _ V)) (by rcases u with⟨⟩<;>simp<;>lia)) λa2 b2 j=>?_;have e1:(M++ [(u,t)]).length=M.length+1:=by simp
  rw[e1,H]at j;refine⟨a2,b2,?_⟩;refine ab (dj ..) (ab (sm Q.fin ..) ?_);have O:=RN (k:=k) (x:=x) (o:=bq o) (s:=bq s) (i:=bt bs M.length) u (by simp[bq,cB];lia) (by simp[bq,cB];lia);refine gD (loc1:= [x,.ref 0,.ref 1,.int (bt bs M.length),.str [pQ u],.c,.c,.c,.c,.c]) rfl O<|vh (loc':= [x,.ref 0,.ref 1,a1,b1,.c,.c,.c,.c,.c]) (st':= [some (bq (if u=true then o++ [bt bs M.length]else o)),some (bq (if u=false then s++ [bt bs M.length]else s))]) ?_ ?_
  ·rcases u with⟨⟩<;>simpa[bq]using f
  ·refine ab j ?_;rcases u with⟨⟩<;>simp[(id Gf)]
theorem LC{l l':List Int}(B:l.Perm l')(G:l'.Pairwise (·<=·)):sortI l=l':=
 List.Perm.eq_of_pairwise (le:=(·<=·)) (λa b z z J U=>lI J U) (rI l) G ((sortI_perm l).trans B)
theorem J2:∀(V:List Bool) (n:Nat),(kY true n V++kY false n V).Perm (gZ n V.length):=by
 intro G
 induction G with
 |nil=>
  exactλn=>.refl _
 |cons k r A=>
  intro n;have R:=A (n+1);refine ab bu (ab uu ?_);rcases k with _|_
  ·simp only[(id Gf),bx,if_false,if_true];exact List.perm_middle.trans (R.cons n)
  ·simp only[(id Gf),if_true,da];exact R.cons n
theorem J1{b:Bool}:∀{V:List Bool} {n i:Nat},i∈kY b n V->n<=i/\i<n+V.length:=by
 intro G
 induction G with
 |nil=>
  intro n i h;exact nomatch h
 |cons k r P=>
  intro n i h;simp only[(id Gf)]at h;split at h
  ·refine ak (aS.mp h) (λH=>?_) λh=>?_;subst H
   ·simp
   ·have:=P h;simp;lia
  ·have:=P h;simp;lia
theorem Ee{b:Bool}:∀(V:List Bool) (n:Nat),(kY b n V).length<=V.length:=by
 intro V
 induction V with
 |nil=>exactλn=>aV _
 |cons k r R=>
  intro n;have:=R (n+1);simp only[(id Gf)];split<;>simp<;>(first|exact oi.mp this|exact ox this)
theorem Dd(bs:List lA)(f:Nat->Int)(P:∀i,f i=(bt bs i:Int)):sortI (((kY true 0 (bs.map (·.1))).map f)++((kY false 0 (bs.map (·.1))).map f))=(aG bs.length).map f:=by
 refine cA ed<|LC ?_ ?_
 ·have:=(J2 (bs.map (·.1)) 0).map f;rw[aY,<-E7]at this;exact this
 ·rw[nr];have:(aG bs.length).Pairwise (·<·):=List.pairwise_lt_range;refine this.imp λ{a b} h=>ab (P ..) (ab (P ..) ?_);have:=rz (bs:=bs) (cm h);exact eG.mpr this
theorem JO{t:kR}{body:Loc->St->Option (Fl×Loc×St)}{v:AV}{l:List AV}{loc loc1 loc2:Loc}{st st2:St}(O:cT loc t v=some loc1)(h:body loc1 st=some (.brk,loc2,st2)):iP t body (v::l) loc st=some (.next,loc2,st2):=by exact(vg.2 ..).trans (tZ O (tZ h rfl))
noncomputable def kC(V:List Bool)(i:Nat)(E:List Nat):Option Nat:=E.find? λj=>decide (i<j)&&yf ((V.drop i).take (j+1-i))
noncomputable def SF:List CS:= [.ite (.band [(.cmp .Gt (.a 7) (.a 6)),(.call 10 [(.I (.a 0) (.a 6) (.f .Add (.a 7) (.d 1)))])])
 [.app 5 (.a 7),
  .brk]
 []]
theorem vM{bs:List lA}{i n:Nat}:(aR ((bs.drop i).take n)).length<=(aR bs).length:=by have J:aR bs=aR (bs.take i)++(aR ((bs.drop i).take n)++aR ((bs.drop i).drop n)):=cA (iC ..) (ab (fR ..) (cA (iC ..) (ab (fR ..) rfl)));refine ab J (ab cK (ab cK ?_));lia
theorem N8(k:Nat)(bs:List lA)(D:∀c∈bs,Quiet c.2)(V:(aR bs).length+1<=cB)(Q:bs.length<=50){i:Nat}(hi:i<bs.length){O S p u:AV}{ms:List Nat}(K:ms.length<=60):∀(E:List Nat) (F:AV),(∀j∈E,j<bs.length)->
 ∃A,iP (.bX 7) (λloc st=>dh (BK (k+3)) SF loc st) (bq (E.map (bt bs))) [.str (aR bs),O,S,p,u,.ref 2,.int (bt bs i),F,.c,.c] [none,none,some (bq ms)]=
  some (.next,[.str (aR bs),O,S,p,u,.ref 2,.int (bt bs i),A,.c,.c],[none,none,some (bq (ms++(match kC (bs.map (·.1)) i E with|some j=> [bt bs j]|none=> [])))]):=by
 intro G
 induction G with
 |nil=>
  exactλF z=>⟨F,by simp[bq,(id vg),kC]⟩
 |cons j E P=>
  intro F Y;have U:=Y j aH;refine aI (P (.int (bt bs j)) λj M=>Y j (ax _ M)) λA R=>?_;have I:fk [none,none,some (bq ms)] .Gt (.int (bt bs j)) (.int (bt bs i))=some (decide (i<j)):=by have:decide ((bt bs i:Int)< (bt bs j:Int))=decide (i<j):=decide_eq_decide.mpr (by rw[fh];exact tq (cm hi) (cm U));simp only[(id cb),this]
  by_cases J:i<j
  ·have N:=LB (bs:=bs) (cm J) U;have T:((((bs.drop i).take (j-i)++ [((bs[j]).1,[])]):List lA).map (·.1))=((bs.map (·.1)).drop i).take (j+1-i):=by
    refine ab ed (ab nz (ab zF (ab (show j+1-i=(j-i)+1 by lia) (ab (eK (by simp;lia)) ?_))));congr 1;simp[MC,show i+(j-i)=j by lia]
   have L:=yj k ((bs.drop i).take (j-i)++ [((bs[j]).1,[])]) (λc V=>by
    refine ak (dw.mp V) (λh=>?_) λh=>?_
    ·exact .inl (D c (gu (iX h)))
    ·rw[bS]at h;subst h;exact .inl iQ) (by
    refine ab (iC ..) (ab cK ?_);have:=vM (bs:=bs) (i:=i) (n:=j-i);simp[aR]at this⊢;simp[aR]at V;lia) (by simp;lia)
   rw[T,<-N]at L;have B:ev (BK (k+3)) [none,none,some (bq ms)] (.call 10 [(.I (.a 0) (.a 6) (.f .Add (.a 7) (.d 1)))]) [.str (aR bs),O,S,p,u,.ref 2,.int (bt bs i),.int (bt bs j),.c,.c]=some (.bool (yf (((bs.map (·.1)).drop i).take (j+1-i)))):=by
    refine eP (vs:= [.str (((aR bs).take (bt bs j+1)).drop (bt bs i))]) ?_ rfl L;have f:bt bs j+1<=(aR bs).length:=by have:=rA (bs:=bs) (i:=j) (j:=bs.length) U (aV _);rw[xi]at this;exact tT this
    have:=JC (C:=BK (k+3)) (st:= [none,none,some (bq ms)]) (loc:= [.str (aR bs),O,S,p,u,.ref 2,.int (bt bs i),.int (bt bs j),.c,.c]) (a:=.a 0) (lo:=.a 6) (hi:=.f .Add (.a 7) (.d 1)) (x:=aR bs) (s:=bt bs i) (p:=bt bs j+1) rfl rfl rfl (by have:=rz (bs:=bs) (cm J);lia) f (gv V)
    simp only[af,(id jW),this,aj,af,aJ]
   rcases hb:yf (((bs.map (·.1)).drop i).take (j+1-i))with _|_
   ·rw[hb]at B;refine⟨A,?_⟩;refine ab (show kC (bs.map (·.1)) i (j::E)=kC (bs.map (·.1)) i E by simp[kC,hb])<|bf (loc1:= [.str (aR bs),O,S,p,u,.ref 2,.int (bt bs i),.int (bt bs j),.c,.c]) rfl ?_ R;exact aO (eu (a:=.bool false) (r:=false) (yu (cc rfl rfl I) (by simp[(id lY),J]) B rfl) rfl rfl) rfl
   ·rw[hb]at B;refine⟨.int (bt bs j),?_⟩;refine ab (show kC (bs.map (·.1)) i (j::E)=some j by simp[kC,J,hb])<|ab (AY ..)<|JO (loc1:= [.str (aR bs),O,S,p,u,.ref 2,.int (bt bs i),.int (bt bs j),.c,.c]) rfl ?_;have H:mY (BK (k+3)) (.ite (.band [(.cmp .Gt (.a 7) (.a 6)),(.call 10 [(.I (.a 0) (.a 6) (.f .Add (.a 7) (.d 1)))])]) [.app 5 (.a 7),.brk] []) [.str (aR bs),O,S,p,u,.ref 2,.int (bt bs i),.int (bt bs j),.c,.c] [none,none,some (bq ms)]=
     some (.brk,[.str (aR bs),O,S,p,u,.ref 2,.int (bt bs i),.int (bt bs j),.c,.c],[none,none,some (bq ms++bq [bt bs j])]):=by
     refine eu (a:=.bool true) (r:=true) (yu (cc rfl rfl I) (by simp[(id lY),J]) B rfl) rfl<|aO (jK (n:=2) (l:=bq ms) (v:=.int (bt bs j)) rfl rfl rfl (by simp[bq,cB];lia)) ?_;rfl
    delta SF;exact(sZ.2 ..).trans (tZ H rfl)
  ·refine⟨A,?_⟩;refine ab (show kC (bs.map (·.1)) i (j::E)=kC (bs.map (·.1)) i E by simp[kC,J])<|bf (loc1:= [.str (aR bs),O,S,p,u,.ref 2,.int (bt bs i),.int (bt bs j),.c,.c]) rfl ?_ R;exact aO (eu (a:=.bool false) (r:=false) (mq (cc rfl rfl I) (by simp[(id lY),J])) rfl rfl) rfl
theorem iH(l:List Nat):dU (bq l)=true:=by
 have:bq l=(l.map gQ).map .int:=by simp[bq]
 exact ab this<|mx _
theorem xg(l:List Nat):dM (bq l)=some (l.map gQ):=by
 induction l with
 |nil=>rfl
 |cons a l R=>show(dM (bq l)).map (gQ a::·)=_;refine ab R ?_;rfl
theorem wW{B:Type}{f:AV->Option (Option AV)}{a b:B->AV}:∀{l:List B},(∀i∈l,f (a i)=some (some (b i)))->gm f (l.map a)=some (l.map b):=by
 intro G
 induction G with
 |nil=>
  exactλz=>rfl
 |cons i l P=>
  intro h;exact(ql.2 ..).trans (tZ (h i aH) (tZ (P λj Y=>h j (ax _ Y)) rfl))
theorem Bk:∀l:List (List Nat),dU (l.map .str)=true:=by
 intro G
 induction G with
 |nil=>
  exact rfl
 |cons a r R=>
  exact mR.mp λa=>R
noncomputable def gU(bs:List lA)(I:List Nat):List Nat:=I.flatMap λi=>match kC (bs.map (·.1)) i (kY false 0 (bs.map (·.1)))with
 |some j=> [bt bs j]
 |none=> []
theorem OS(k:Nat)(bs:List lA)(D:∀c∈bs,Quiet c.2)(V:(aR bs).length+1<=cB)(Q:bs.length<=50){O p u:AV}:∀(I:List Nat) (ms:List Nat) (B F:AV),(∀i∈I,i<bs.length)->ms.length+I.length<=60->
 ∃E A,iP (.bX 6) (λloc st=>dh (BK (k+3)) [.m (.bX 7) (.a 2) SF] loc st) (bq (I.map (bt bs))) [.str (aR bs),O,.lst (bq ((kY false 0 (bs.map (·.1))).map (bt bs))),p,u,.ref 2,B,F,.c,.c] [none,none,some (bq ms)]=
  some (.next,[.str (aR bs),O,.lst (bq ((kY false 0 (bs.map (·.1))).map (bt bs))),p,u,.ref 2,E,A,.c,.c],[none,none,some (bq (ms++gU bs I))]):=by
 intro G
 induction G with
 |nil=>
  exactλms B F z z=>⟨B,F,by simp[bq,(id vg),gU]⟩
 |cons i I P=>
  intro ms B F hi X;have H:∀j∈kY false 0 (bs.map (·.1)),j<bs.length:=λj J=>by have:=(J1 J).2;simpa using this
  refine ew λY=>aI (N8 k bs D V Q (hi i aH) (O:=O) (S:=.lst (bq ((kY false 0 (bs.map (·.1))).map (bt bs)))) (p:=p) (u:=u) (ms:=ms) (by simp at X;exact oy X) (kY false 0 (bs.map (·.1))) F H) λA f=>?_;have W:(ms++(match kC (bs.map (·.1)) i (kY false 0 (bs.map (·.1)))with|some j=> [bt bs j]|none=> [])).length+I.length<=60:=by simp at X⊢;split<;>simp<;>(first|exact gv X|lia)
  refine ej (P (ms++(match kC (bs.map (·.1)) i (kY false 0 (bs.map (·.1)))with|some j=> [bt bs j]|none=> [])) (.int (bt bs i)) A (λj J=>hi j (ax _ J)) W) λE C K=>Y ?_;clear Y;refine⟨E,C,?_⟩;have e:ms++gU bs (i::I)=ms++(match kC (bs.map (·.1)) i (kY false 0 (bs.map (·.1)))with|some j=> [bt bs j]|none=> [])++gU bs I:=by simp[gU]
  refine ab e ?_;have N:(bq ((kY false 0 (bs.map (·.1))).map (bt bs))).length<=cB:=by have:=Ee (b:=false) (bs.map (·.1)) 0;simp[bq,cB]at this⊢;lia
  exact bf (loc1:= [.str (aR bs),O,.lst (bq ((kY false 0 (bs.map (·.1))).map (bt bs))),p,u,.ref 2,.int (bt bs i),F,.c,.c]) rfl
   (aO (gT (a:=.lst (bq ((kY false 0 (bs.map (·.1))).map (bt bs)))) rfl (jN N) f) rfl) K
theorem Ge{f:Nat->Int}{N i:Nat}(P:∀a b,a<N->b<N->f a=f b->a=b)(hi:i<N):((aG N).map f).idxOf (f i)=i:=by have T:f i∈(aG N).map f:=dZ.mpr ⟨i,aT.mpr hi,rfl⟩;have J:=List.idxOf_lt_length_of_mem T;have U:=HR J;simp only[aY,eH]at J;rw[uz,mG]at U;exact P _ _ J hi U
section
variable{C:dC}{st:St}{loc:Loc}{e it c a b:CE}{t:kR}
theorem F1{v:AV}{l:List AV}{ns:List Int}(h:ev C st a loc=some v)(J:jX st v=some l)(U:dM l=some ns)(S:ns.length<64):ev C st (.sorted a) loc=some (.lst ((sortI ns).map .int)):=by simp[(id fD),h,J,U,S]
theorem mr{v:AV}{l r:List AV}(h:ev C st it loc=some v)(J:fQ st v=some l)(U:gm (λv=>do return some (<-ev C st e (<-cT loc t v))) l=some r):ev C st (.comp e t it) loc=some (.lst r):=by simp only[aj,aJ]at U;simp only[(id fD),af,h,J,aj,af,aJ,U]
theorem rg{v:AV}{l r:List AV}(h:ev C st it loc=some v)(J:fQ st v=some l)(U:gm (λv=>do
 let loc'<-cT loc t v
 if<-cU st (<-ev C st c loc')then return some (<-ev C st e loc')else return none) l=some r):ev C st (.z e t it c) loc=some (.lst r):=by
 dsimp only[aj,aJ]at U;simp only[(id fD),af,h,J,aj,af,aJ,U]
theorem JA{k:Int}{v:AV}{l:List AV}{ns:List Int}(h:ev C st b loc=some (.int k))(J:ev C st a loc=some v)(U:jX st v=some l)(S:dM l=some ns)(d:k∈ns)(O:ns.length<=cB):ev C st (.index a b) loc=some (.int (ns.idxOf k:Nat)):=by simp[(id fD),h,J,U,S,d,O]
end
theorem TK(k:Nat)(bs:List lA)(D:∀c∈bs,Quiet c.2)(V:(aR bs).length+1<=cB)(Q:bs.length<=30)(S:∀i∈kY true 0 (bs.map (·.1)),i+1<bs.length):
 (BK (k+4)).O 17 [.str (aR bs)]=some (.tup [.lst (bq ((kY true 0 (bs.map (·.1))).map (bt bs))),.lst (bq (gU bs (kY true 0 (bs.map (·.1))))),.lst ((kY true 0 (bs.map (·.1))).map λi=>.str (bs[i]?.getD (true,[])).2)]):=by
 refine ej (C4 (k+3) (.str (aR bs)) bs (by lia) bs [] [] [] .c .c rfl D rfl) λI w g1=>?_;simp only[jC,gk]at g1;have G:∀b,∀i∈kY b 0 (bs.map (·.1)),i<bs.length:=λb i hi=>by have:=(J1 hi).2;simpa using this
 have X:∀b,(kY b 0 (bs.map (·.1))).length<=30:=λb=>by
  have:=Ee (b:=b) (bs.map (·.1)) 0;simp at this;exact aP this Q
 refine ej (OS k bs D V (by lia) (O:=.lst (bq ((kY true 0 (bs.map (·.1))).map (bt bs)))) (p:=I) (u:=w) (kY true 0 (bs.map (·.1))) [] .c .c (G true) (by have:=X true;simp;lia)) λE A j=>?_;have W:=Dd bs (λi=>((bt bs i:Nat):Int)) λi=>rfl;have Y:∀b,(bq ((kY b 0 (bs.map (·.1))).map (bt bs))).length<=cB:=λb=>by have:=X b;simp[bq,cB];lia
 have R:(aR bs).length<=cB:=gv V;generalize d:kY true 0 (bs.map (·.1))=OI at*;generalize g:kY false 0 (bs.map (·.1))=K at*;have m:=X true;have o:=X false;rw[d]at m;rw[g]at o;simp only[Pa];refine eC.run rfl<|.next (iO (l:= []) (loc':= [.str (aR bs),.ref 0,.c,.c,.c,.c,.c,.c,.c,.c]) rfl rfl rfl)<|.next (iO (l:= []) (loc':= [.str (aR bs),.ref 0,.ref 1,.c,.c,.c,.c,.c,.c,.c]) rfl rfl rfl)<|.sx (yw rfl R) (ro R) (AB g1)<|.next (ji (n:=0) (l:=bq (OI.map (bt bs))) (l':=bq (OI.map (bt bs))) (st':= [none,some (bq (K.map (bt bs)))]) (loc':= [.str (aR bs),.lst (bq (OI.map (bt bs))),.ref 1,I,w,.c,.c,.c,.c,.c]) rfl rfl (iD _ (iH _)) rfl)<|.next (ji (n:=1) (l:=bq (K.map (bt bs))) (l':=bq (K.map (bt bs))) (st':= [none,none]) (loc':= [.str (aR bs),.lst (bq (OI.map (bt bs))),.lst (bq (K.map (bt bs))),I,w,.c,.c,.c,.c,.c]) rfl rfl (iD _ (iH _)) rfl)<|.next (iO (l:= []) (loc':= [.str (aR bs),.lst (bq (OI.map (bt bs))),.lst (bq (K.map (bt bs))),I,w,.ref 2,.c,.c,.c,.c]) rfl rfl rfl)<|.sx (a:=.lst (bq (OI.map (bt bs)))) (L:=bq (OI.map (bt bs))) rfl (jN (d▸Y true)) j<|.next (ji (n:=2) (l:=bq (gU bs OI)) (l':=bq (gU bs OI)) (st':= [none,none,none]) (loc':= [.str (aR bs),.lst (bq (OI.map (bt bs))),.lst (bq (K.map (bt bs))),I,w,.lst (bq (gU bs OI)),E,A,.c,.c]) rfl rfl (iD _ (iH _)) rfl)<|.cI (x:=.lst (bq ((aG bs.length).map (bt bs)))) (loc':= [.str (aR bs),.lst (bq (OI.map (bt bs))),.lst (bq (K.map (bt bs))),I,w,.lst (bq (gU bs OI)),E,A,.lst (bq ((aG bs.length).map (bt bs))),.c]) ?_ rfl ?_
 ·have e1:ev (BK (k+3)) [none,none,none] (.f .Add (.a 1) (.a 2)) [.str (aR bs),.lst (bq (OI.map (bt bs))),.lst (bq (K.map (bt bs))),I,w,.lst (bq (gU bs OI)),E,A,.c,.c]=some (.lst (bq (OI.map (bt bs)++K.map (bt bs)))):=by
   refine eN rfl rfl ?_;have:(bq (OI.map (bt bs))).length+(bq (K.map (bt bs))).length<=cB:=by simp[bq,cB];lia
   simp only[(id cw),this,if_true,AY]
  have e2:(OI.map (bt bs)++K.map (bt bs)).map gQ=OI.map (λi=>((bt bs i:Nat):Int))++K.map (λi=>((bt bs i:Nat):Int)):=by refine ab ed (ab fi (ab fi ?_));rfl
  have T:((OI.map (bt bs)++K.map (bt bs)).map gQ).length<64:=by simp;lia
  refine ab (F1 e1 rfl (xg _) T) (ab e2 (ab W ?_));simp[bq,iJ]
 refine .cI (x:=.lst (OI.map λi=>.str (bs[i]?.getD (true,[])).2)) (loc':= [.str (aR bs),.lst (bq (OI.map (bt bs))),.lst (bq (K.map (bt bs))),I,w,.lst (bq (gU bs OI)),E,A,.lst (bq ((aG bs.length).map (bt bs))),.lst (OI.map λi=>.str (bs[i]?.getD (true,[])).2)]) ?_ rfl ?_
 ·have B:gm (λv=>do return some (<-ev (BK (k+3)) [none,none,none] (.I (.a 0) (.f .Add (.a 6) (.d 1)) (.sub (.a 8) (.f .Add (.index (.a 8) (.a 6)) (.d 1)))) (<-cT [.str (aR bs),.lst (bq (OI.map (bt bs))),.lst (bq (K.map (bt bs))),I,w,.lst (bq (gU bs OI)),E,A,.lst (bq ((aG bs.length).map (bt bs))),.c] (.bX 6) v)))
   (OI.map λi=>AV.int (bt bs i:Nat))=some (OI.map λi=>.str (bs[i]?.getD (true,[])).2):=by
   refine wW λi hi=>?_;have M:i<bs.length:=Nat.lt_of_succ_lt (S i hi);have r:ev (BK (k+3)) [none,none,none] (.index (.a 8) (.a 6)) [.str (aR bs),.lst (bq (OI.map (bt bs))),.lst (bq (K.map (bt bs))),I,w,.lst (bq (gU bs OI)),.int (bt bs i:Nat),A,.lst (bq ((aG bs.length).map (bt bs))),.c]=some (.int i):=by
    have e:((bt bs i:Nat):Int)∈((aG bs.length).map (bt bs)).map gQ:=dZ.mpr ⟨bt bs i,dZ.mpr ⟨i,aT.mpr M,rfl⟩,rfl⟩;have q:(((aG bs.length).map (bt bs)).map gQ).idxOf ((bt bs i:Nat):Int)=i:=by
     exact ab fi<|Ge (f:=gQ∘bt bs) (λa b ha hb h=>by
      refine ak (MF a b) (λJ=>?_) λH=>ak H (λJ=>?_) λJ=>?_
      ·have:=rA (bs:=bs) J (gv hb);lia
      ·exact J
      ·have:=rA (bs:=bs) J (gv ha);lia) M
    have U:(((aG bs.length).map (bt bs)).map gQ).length<=cB:=by simp[cB];lia
    exact ab (JA (k:=(bt bs i:Nat)) rfl rfl rfl (xg _) e U) (ab q rfl)
   have t:ev (BK (k+3)) [none,none,none] (.sub (.a 8) (.f .Add (.index (.a 8) (.a 6)) (.d 1))) [.str (aR bs),.lst (bq (OI.map (bt bs))),.lst (bq (K.map (bt bs))),I,w,.lst (bq (gU bs OI)),.int (bt bs i:Nat),A,.lst (bq ((aG bs.length).map (bt bs))),.c]=some (.int (bt bs (i+1):Nat)):=by
    refine dB (y:=.int ((i:Int)+1)) rfl (oN r rfl) ?_;have e3:bq ((aG bs.length).map (bt bs))=(((aG bs.length).map (bt bs)).map gQ).map .int:=by simp[bq]
    refine ab e3 (ab (pd (i:=i+1) (by simp;exact nv (S i hi)) (by simp[cB];lia)) ?_);simp
   have Z:=xi bs;have P:=rz (bs:=bs) (show i+1<=bs.length by exact tT M);have hlt:=rA (bs:=bs) (show i<i+1 by exact Nat.lt_add_one i) (tT M);have:=JC (C:=BK (k+3)) (st:= [none,none,none]) (loc:= [.str (aR bs),.lst (bq (OI.map (bt bs))),.lst (bq (K.map (bt bs))),I,w,.lst (bq (gU bs OI)),.int (bt bs i:Nat),A,.lst (bq ((aG bs.length).map (bt bs))),.c]) (a:=.a 0) (lo:=.f .Add (.a 6) (.d 1)) (x:=aR bs) (s:=bt bs i+1) (p:=bt bs (i+1)) rfl rfl t (by lia) (le_of_le_of_eq P Z) (gv V);simp only[Dc M]at this;show(do return some (<-ev (BK (k+3)) [none,none,none] (.I (.a 0) (.f .Add (.a 6) (.d 1)) (.sub (.a 8) (.f .Add (.index (.a 8) (.a 6)) (.d 1)))) [.str (aR bs),.lst (bq (OI.map (bt bs))),.lst (bq (K.map (bt bs))),I,w,.lst (bq (gU bs OI)),.int (bt bs i:Nat),A,.lst (bq ((aG bs.length).map (bt bs))),.c]))=_;refine ab this ?_;simp[M]
  have e1:bq (OI.map (bt bs))=OI.map λi=>AV.int (bt bs i:Nat):=by simp[bq,iJ]
  have N:(OI.map λi=>AV.int (bt bs i:Nat)).length<=cB:=by simp[cB];lia
  refine mr (v:=.lst (bq (OI.map (bt bs)))) (l:=OI.map λi=>AV.int (bt bs i:Nat)) rfl (ab e1<|jN N) B
 exact .ret rfl (by
  have F:(OI.map λi=>AV.str (bs[i]?.getD (true,[])).2)=(OI.map λi=>(bs[i]?.getD (true,[])).2).map .str:=by simp
  refine ab F ?_;simp only[(id qC),(id mz),iH,Bk,Bool.and_self])
theorem O9{k:Nat}{args:List AV}:(BK (k+1)).O 16 args=iR (BK k) Yp args:=rfl
noncomputable def JJ:Nat->List Nat
 |0=> []
 |1=> [92,41]
 |2=>qq
 |3=> [92,92]
 |_=> [92,34]
noncomputable def qu(g:Int):List Nat:=JJ (g.fmod 5).toNat
noncomputable def cl:Nat->Int->List lA
 |0,_=> []
 |n+1,g=>(false,qu g)::cl n (g.fdiv 5)
theorem RY:(∀A,cl 0 A=([]))/\
 (∀n g,cl (n+1) g=((false,qu g)::cl n (g.fdiv 5))):=⟨by intros;rfl,by intros;rfl⟩
noncomputable def gn:Nat->Int->Int
 |0,g=>g
 |n+1,g=>gn n (g.fdiv 5)
theorem Yz:(∀g,gn 0 g=(g))/\
 (∀n g,gn (n+1) g=(gn n (g.fdiv 5))):=⟨by intros;rfl,by intros;rfl⟩
theorem uh(i:Nat):(JJ i).length<=5:=by
 match i with
 |0=>decide
 |1=>decide
 |2=>decide
 |3=>decide
 |n+4=>show 2<=5;decide
theorem Sn(i:Nat):mK (JJ i):=by
 match i with
 |0=>exact .inl iQ
 |1=>exact .inl (sJ iQ)
 |2=>exact .inr rfl
 |3=>exact .inl (sJ iQ)
 |n+4=>exact .inl (sJ iQ)
noncomputable def VC:List AV:= [.str [],.str [92,41],.str [34,40,92,34,34],.str [92,92],.str [92,34]]
theorem NU{st:St}{g:Int}:gF st (.lst VC) (.int (g.fmod 5))=some (.str (qu g)):=by have Y:0<=g.fmod 5:=bQ _ (by decide);have J:g.fmod 5<5:=cJ _ (by decide);delta qu;refine aI (dW Y) λm T=>?_;rw[T]at J⊢;refine ab (bK ..) ?_;exact MO (fh.mp J) rfl rfl rfl rfl rfl
noncomputable def X9:List CS:= [.aug 3 .Add (.f .Add (.l [41]) (.sub (.list [(.l []),(.l [92,41]),(.l [34,40,92,34,34]),(.l [92,92]),(.l [92,34])]) (.f .Mod (.a 2) (.d 5)))),
 .aug 2 .FloorDiv (.d 5),
 .aug 4 .Sub (.d 1)]
noncomputable def Xm:CE:=.cmp .GtE (.a 4) (.sub (.f .Add (.a 0) (.list [(.d 0)])) (.f .Add (.a 5) (.d 1)))
theorem WZ(k:Nat){D M p:AV}{g deep:Int}{x:List Nat}(Z:x.length+6<=cB):dh (BK k) X9 [D,M,.int g,.str x,.int deep,p] []=some (.next,[D,M,.int (g.fdiv 5),.str (x++(41::qu g)),.int (deep-1),p],[]):=by
 have X:=uh (g.fmod 5).toNat;have d:(qu g).length<=5:=X;refine aO (fW (x:=.str x) (v:=.str (41::qu g)) (y:=.str (x++(41::qu g))) rfl (eN (x:=.str [41]) (y:=.str (qu g)) rfl (dB (x:=.lst VC) (y:=.int (g.fmod 5)) rfl (oP rfl rfl (by decide)) NU) ?_) rfl ?_ rfl) ?_
 ·have: [41].length+(qu g).length<=cB:=by simp[cB]at*;lia
  simp only[(id cw),if_pos this];rfl
 ·have:x.length+(41::qu g).length<=cB:=by simp;lia
  simp only[(id cw),if_pos this]
 refine aO (fW (x:=.int g) (v:=.int 5) (y:=.int (g.fdiv 5)) rfl rfl rfl (by
  have w:¬((5:Int)=0\/9000<=(5:Int).natAbs.log2):=by decide
  rfl) rfl) ?_
 exact aO (fW (x:=.int deep) (v:=.int 1) (y:=.int (deep-1)) rfl rfl rfl rfl rfl) rfl
theorem E2(k:Nat){D M p:AV}{τ:Int}(A:∀(g deep:Int) (x:List Nat),ev (BK k) [] (.sub (.f .Add (.a 0) (.list [(.d 0)])) (.f .Add (.a 5) (.d 1))) [D,M,.int g,.str x,.int deep,p]=some (.int τ)):
 ∀(n m:Nat) (g deep:Int) (x:List Nat),deep+1=τ+n->x.length+6*n<=cB->
  gh (λloc st=>do cU st (<-ev (BK k) st Xm loc)) (λloc st=>dh (BK k) X9 loc st) (n+m+1) [D,M,.int g,.str x,.int deep,p] []=
   some (.next,[D,M,.int (gn n g),.str (x++aR (cl n g)),.int (τ-1),p],[]):=by
 intro G
 induction G with
 |zero=>
  intro m g deep x h B;have u:decide (τ<=deep)=false:=by simp;lia
  have e:ev (BK k) [] Xm [D,M,.int g,.str x,.int deep,p]=some (.bool false):=cc (x:=.int deep) rfl (A g deep x) (by simp only[(id cb),u]);have Z:deep=τ-1:=by lia
  refine ab (show 0+m+1=m+1 by exact dN ((λ{a b}=>Nat.right_eq_add.mpr) rfl)) (ab (gM (by simp only[e,aj,af];rfl)) ?_);simp[(id RY),(id Yz),aR,Z]
 |succ n R=>
  intro m g deep x h B;have u:decide (τ<=deep)=true:=by simp;lia
  have e:ev (BK k) [] Xm [D,M,.int g,.str x,.int deep,p]=some (.bool true):=cc (x:=.int deep) rfl (A g deep x) (by simp only[(id cb),u]);have d:(qu g).length<=5:=uh _;refine ab (show n+1+m+1=(n+m+1)+1 by lia)<|pH (by simp only[e,aj,af];rfl) (WZ k (by lia))<|ab (R m (g.fdiv 5) (deep-1) (x++(41::qu g)) (by lia) (by simp;lia)) ?_;simp[(id RY),(id Yz),dj,pQ]
noncomputable def Yi:List CS:= [.P Xm X9,
 .ite (.cmp .Lt (.a 5) (.d 4))
  [.aug 3 .Add (.f .Add (.l [40]) (.sub (.a 1) (.a 5))),
   .aug 4 .Add (.d 1)]
  []]
theorem zk(k:Nat){D:AV}{ms:List (List Nat)}{τ:Int}{p n:Nat}{g deep:Int}{x m:List Nat}(B:p<4)(A:∀(g deep:Int) (x:List Nat),ev (BK k) [] (.sub (.f .Add (.a 0) (.list [(.d 0)])) (.f .Add (.a 5) (.d 1))) [D,.lst (ms.map .str),.int g,.str x,.int deep,.int p]=some (.int τ))
 (Q:deep+1=τ+n)(C:n<=100)(Z:x.length+700<=cB)(T:ms[p]? =some m)(W:m.length<=5)(K:ms.length<=10):
 dh (BK k) Yi [D,.lst (ms.map .str),.int g,.str x,.int deep,.int p] []=some (.next,[D,.lst (ms.map .str),.int (gn n g),.str (x++aR (cl n g++ [(true,m)])),.int τ,.int p],[]):=by
 have N:∀(n:Nat) (g:Int),(aR (cl n g)).length<=6*n:=by
  intro n
  induction n with
  |zero=>exactλg=>Qe (aR (cl 0 g)).length
  |succ n R=>
   intro g;have:=R (g.fdiv 5);have:=uh (g.fmod 5).toNat;refine ab (RY.2 ..) (ab (dj ..) ?_);simp[qu];(clear R K W T Z C Q A B;omega+splitDisjunctions)
 have o:=E2 k A n (199-n) g deep x Q (by lia);rw[show n+(199-n)+1=200 by lia]at o;refine aO (rb o)<|aO (eu (a:=.bool true) (r:=true) (cc (x:=.int p) (y:=.int 4) rfl rfl (by
  have:decide ((p:Int)<4)=true:=by simp;exact Int.lt_toNat.mp B
  simp only[(id cb),this])) rfl ?_) rfl
 have V:=N n g;refine aO (fW (x:=.str (x++aR (cl n g))) (v:=.str (40::m)) (y:=.str (x++aR (cl n g++ [(true,m)]))) rfl (eN (x:=.str [40]) (y:=.str m) rfl (dB (x:=.lst (ms.map .str)) (y:=.int p) rfl rfl ?_) ?_) rfl ?_ rfl) ?_
 ·have f:p<ms.length:=(aQ.mp T).1;have J:(p:Int)<ms.length:=fh.mpr f;have U:ms.length<=cB:=by simp[cB];lia
  have S:ms[p]=m:=(aQ.mp T).2;simp[(id pb),ll,J,U,f,S]
 ·have: [40].length+m.length<=cB:=by simp[cB];lia
  simp only[(id cw),if_pos this];rfl
 ·have:(x++aR (cl n g)).length+(40::m).length<=cB:=by simp;lia
  simp only[(id cw),if_pos this,iC];simp[aR,pQ]
 ·exact aO (fW (x:=.int (τ-1)) (v:=.int 1) (y:=.int τ) rfl rfl rfl (by simp[(id cw),binI]) rfl) rfl
theorem Bu(k:Nat){D M:AV}{τ:Int}{n:Nat}{g deep:Int}{x:List Nat}(A:∀(g deep:Int) (x:List Nat),ev (BK k) [] (.sub (.f .Add (.a 0) (.list [(.d 0)])) (.f .Add (.a 5) (.d 1))) [D,M,.int g,.str x,.int deep,.int 4]=some (.int τ))
 (Q:deep+1=τ+n)(C:n<=100)(Z:x.length+700<=cB):
 dh (BK k) Yi [D,M,.int g,.str x,.int deep,.int 4] []=some (.next,[D,M,.int (gn n g),.str (x++aR (cl n g)),.int (τ-1),.int 4],[]):=by
 have o:=E2 k A n (199-n) g deep x Q (by lia);rw[show n+(199-n)+1=200 by lia]at o;exact aO (rb o)<|aO (eu (a:=.bool false) (r:=false) rfl rfl rfl) rfl
noncomputable def iG(a b d:Nat)(m0 m1 m2 m3:List Nat)(g:Int):List lA:=
 (true,[])::(true,m0)::(cl (2-a) g++(true,m1)::(cl (a+1-b) (gn (2-a) g)++(true,m2)::(cl (b+1-d) (gn (a+1-b) (gn (2-a) g))++(true,m3)::cl (d+1) (gn (b+1-d) (gn (a+1-b) (gn (2-a) g))))))
theorem yn:∀(n:Nat) (g:Int),(aR (cl n g)).length<=6*n:=by
 intro G
 induction G with
 |zero=>
  exactλg=>Qe (aR (cl 0 g)).length
 |succ n R=>
  intro g;have:=R (g.fdiv 5);have:=uh (g.fmod 5).toNat;simp only[cl,dj];simp[qu];omega+splitDisjunctions
theorem Tf(k:Nat){a b d:Nat}{m0 m1 m2 m3:List Nat}(g:Int)(J:1<=a)(U:a<=2)(S:1<=b)(e:b<=a+1)(O:1<=d)(X:d<=b+1)(l0:m0.length<=5)(l1:m1.length<=5)(l2:m2.length<=5)(l3:m3.length<=5){I:Prop}(N:(BK (k+1)).O 16 [.lst [.int 0,.int 1,.int a,.int b,.int d],.lst [.str m0,.str m1,.str m2,.str m3],.int g]=some (.str (aR (iG a b d m0 m1 m2 m3 g)))->(aR (iG a b d m0 m1 m2 m3 g)).length<=200->I):I:=by
 have c:=yn (2-a) g;have Z:=yn (a+1-b) (gn (2-a) g);have o:=yn (b+1-d) (gn (a+1-b) (gn (2-a) g));have h:=yn (d+1) (gn (b+1-d) (gn (a+1-b) (gn (2-a) g)));have B:(aR (iG a b d m0 m1 m2 m3 g)).length<=200:=by simp only[iG,dj,iC,bu,cK,gk];lia
 refine N ?_ B;have t0:=zk k (D:=.lst [.int 0,.int 1,.int a,.int b,.int d]) (ms:= [m0,m1,m2,m3]) (τ:=1) (p:=0) (n:=0) (g:=g) (deep:=0) (x:= [40]) (m:=m0) (by decide) (λz z z=>rfl) rfl (by decide) (by decide) rfl l0 (cj.mp rfl);generalize C: [40]++aR (cl 0 g++ [(true,m0)])=Q at t0;have A:Q.length<=10:=by refine cA C ?_;simp[(id RY),aR];lia
 have t1:=zk k (D:=.lst [.int 0,.int 1,.int a,.int b,.int d]) (ms:= [m0,m1,m2,m3]) (τ:=a) (p:=1) (n:=2-a) (g:=g) (deep:=1) (x:=Q) (m:=m1) (by decide) (λz z z=>rfl) (by(clear A t0 C B h o Z c N l3 l2 l1 l0 X O e S J;omega+splitDisjunctions)) (by(clear A t0 C B h o Z c N l3 l2 l1 l0 X O e S U J;omega+splitDisjunctions)) (by simp[cB];lia) rfl l1 (by simp);generalize K:Q++aR (cl (2-a) g++ [(true,m1)])=V at t1;have F:V.length<=40:=by refine cA K ?_;simp[aR]at c⊢;(clear t1 K t0 C B h o Z N l3 l2 l0 X O e S J;lia)
 have t2:=zk k (D:=.lst [.int 0,.int 1,.int a,.int b,.int d]) (ms:= [m0,m1,m2,m3]) (τ:=b) (p:=2) (n:=a+1-b) (g:=gn (2-a) g) (deep:=a) (x:=V) (m:=m2) (by decide) (λz z z=>rfl) (by(clear F t1 K A t0 C B h o Z c N l3 l2 l1 l0 X O S U J;omega+splitDisjunctions)) (by(clear F t1 K A t0 C B h o c N l3 l2 l1 l0 X O e J;omega+splitDisjunctions)) (by simp[cB];lia) rfl l2 (by simp);generalize H:V++aR (cl (a+1-b) (gn (2-a) g)++ [(true,m2)])=G at t2;have T:G.length<=80:=by refine cA H ?_;simp[aR]at Z⊢;(clear t2 H t1 K A t0 C B h c N l3 l1 l0 X O S J;lia)
 have t3:=zk k (D:=.lst [.int 0,.int 1,.int a,.int b,.int d]) (ms:= [m0,m1,m2,m3]) (τ:=d) (p:=3) (n:=b+1-d) (g:=gn (a+1-b) (gn (2-a) g)) (deep:=b) (x:=G) (m:=m3) (by decide) (λz z z=>rfl) (by lia) (by(clear T t2 H F t1 K A t0 C B h o Z c N l3 l2 l1 l0 X S J;omega+splitDisjunctions)) (by simp[cB];lia) rfl l3 (by simp);generalize R:G++aR (cl (b+1-d) (gn (a+1-b) (gn (2-a) g))++ [(true,m3)])=P at t3;have W:P.length<=140:=by refine cA R ?_;simp[aR]at o⊢;(clear t3 R t2 H F t1 K A t0 C B Z c N l2 l1 l0 O S J;lia)
 have Y:=Bu k (D:=.lst [.int 0,.int 1,.int a,.int b,.int d]) (M:=.lst [.str m0,.str m1,.str m2,.str m3]) (τ:=0) (n:=d+1) (g:=gn (b+1-d) (gn (a+1-b) (gn (2-a) g))) (deep:=d) (x:=P) (λz z z=>rfl) (by lia) (by lia) (by simp[cB];lia);simp only[O9];refine eC.run rfl<|.cI (x:=.str [40]) (loc':= [.lst [.int 0,.int 1,.int a,.int b,.int d],.lst [.str m0,.str m1,.str m2,.str m3],.int g,.str [40],.c,.c]) rfl rfl<|.cI (x:=.int 0) (loc':= [.lst [.int 0,.int 1,.int a,.int b,.int d],.lst [.str m0,.str m1,.str m2,.str m3],.int g,.str [40],.int 0,.c]) rfl rfl ?_;refine .sx (a:=.lst [.int 0,.int 1,.int 2,.int 3,.int 4]) (L:= [.int 0,.int 1,.int 2,.int 3,.int 4]) rfl rfl (bf (loc1:= [.lst [.int 0,.int 1,.int a,.int b,.int d],.lst [.str m0,.str m1,.str m2,.str m3],.int g,.str [40],.int 0,.int 0]) rfl t0
  (bf (loc1:= [.lst [.int 0,.int 1,.int a,.int b,.int d],.lst [.str m0,.str m1,.str m2,.str m3],.int g,.str Q,.int 1,.int 1]) rfl t1 (bf (loc1:= [.lst [.int 0,.int 1,.int a,.int b,.int d],.lst [.str m0,.str m1,.str m2,.str m3],.int (gn (2-a) g),.str V,.int a,.int 2]) rfl t2
    (bf (loc1:= [.lst [.int 0,.int 1,.int a,.int b,.int d],.lst [.str m0,.str m1,.str m2,.str m3],.int (gn (a+1-b) (gn (2-a) g)),.str G,.int b,.int 3]) rfl t3 (bf (loc1:= [.lst [.int 0,.int 1,.int a,.int b,.int d],.lst [.str m0,.str m1,.str m2,.str m3],.int (gn (b+1-d) (gn (a+1-b) (gn (2-a) g))),.str P,.int d,.int 4]) rfl Y fX))))) ?_
 have E:P++aR (cl (d+1) (gn (b+1-d) (gn (a+1-b) (gn (2-a) g))))=aR (iG a b d m0 m1 m2 m3 g):=by refine cA R (cA H (cA K (cA C ?_)));simp[iG,(id RY),pQ,aR]
 exact ab E<|.ret rfl rfl
theorem TM{k:Nat}{args:List AV}:(BK (k+1)).O 0 args=iR (BK k) f0 args:=rfl
theorem TN{k:Nat}{args:List AV}:(BK (k+1)).O 1 args=iR (BK k) f1 args:=rfl
noncomputable def fC(c d:Nat):Nat:=if c=d then 0 else if gE [c]=gE [d]then 1 else 2
theorem XZ(k:Nat){c d:Nat}(V:(gE [c]).length<=cB)(u:(gE [d]).length<=cB):(BK (k+1)).O 0 [.str [c],.str [d]]=some (.int (fC c d:Nat)):=by
 refine ab TM<|eC.run rfl ?_;delta fC;by_cases h:c=d
 ·subst h;exact .oq (cc (r:=true) rfl rfl (by simp[(id cb),(id jJ)]))<|ab (if_pos rfl)<|.ret rfl rfl
 ·refine ab (if_neg h)<|.jo (cc (r:=false) rfl rfl (ky (by simpa using h))) ?_;have e1:ev (BK k) [] (.lower (.a 0)) [.str [c],.str [d]]=some (.str (gE [c])):=by simp[(id fD),V]
  have e2:ev (BK k) [] (.lower (.a 1)) [.str [c],.str [d]]=some (.str (gE [d])):=by simp[(id fD),u]
  by_cases U:gE [c]=gE [d]
  ·exact .oq (cc (r:=true) e1 e2 (by simp[(id cb),(id jJ),U]))<|ab (if_pos U)<|.ret rfl rfl
  ·exact .jo (cc (r:=false) e1 e2 (ky U))<|ab (if_neg U)<|.ret rfl rfl
noncomputable def jR:List Nat->List Nat->Nat
 |x::a,y::b=>if x=y then jR a b+1 else 0
 |_,_=>0
theorem xj:(∀x a y b,jR (x::a) (y::b)=(if x=y then jR a b+1 else 0)):=by intros;rfl
section
variable{C:dC}{st:St}{loc:Loc}{e:CE}{l:List CE}
theorem jj{x:AV}{r:Bool}(J:ev C st e loc=some x)(U:cU st x=some true)(S:ev C st (.band l) loc=some (.bool r)):ev C st (.band (e::l)) loc=some (.bool r):=by simp only[(id fD),dg]at S⊢;refine aC S λb O j=>?_;rcases j with⟨⟩;refine⟨r,?_,rfl⟩;simp[(id yt),J,U,O]
theorem D3:ev C st (.band []) loc=some (.bool true):=rfl
end
theorem hU{st:St}{x:List Nat}(h:x.length<=cB):cU st (.str x)=some (!x.isEmpty):=by simp[(id lY),h]
noncomputable def Ve:CE:=.band [(.F (.a 0) (.a 3)),(.F (.a 1) (.a 3)),(.cmp .Eq (.sub (.a 0) (.a 3)) (.sub (.a 1) (.a 3)))]
noncomputable def Zx:List CS:= [.aug 3 .Add (.d 1)]
noncomputable def loc1(a b:List Nat)(G P:AV):Loc:= [.str a,.str b,.int 8,G,P,.c,.c,.c,.c,.c,.c,.c,.c,.c]
theorem uo{st:St}{x:List Nat}{i:Nat}{c:Nat}{r:List Nat}(V:x.length<=cB)(h:x.drop i=c::r):gF st (.str x) (.int i)=some (.str [c]):=by
 have hi:i<x.length:=by have:=congrArg dp h;rw[bB]at this;simp at this;omega+splitDisjunctions
 have Z:x[i]=c:=by rw[dF hi]at h;exact(Up h).1
 have U:(i:Int)<x.length:=by omega+splitDisjunctions
 simp[(id pb),ll,V,U,hi,Z]
theorem PW(k:Nat)(a b:List Nat)(L:a.length<=cB)(O:b.length<=cB):∀(as bs:List Nat) (i A:Nat),a.drop i=as->b.drop i=bs->i<=a.length->i<=b.length->as.length<A->
 gh (λloc st=>do cU st (<-ev (BK k) st Ve loc)) (λloc st=>dh (BK k) Zx loc st) A (loc1 a b (.int i) .c) []=some (.next,loc1 a b (.int (i+jR as bs:Nat)) .c,[]):=by
 intro as
 induction as with
 |nil=>
  intro bs i A J U i1 o P;obtain⟨f,rfl⟩:∃f,A=f+1:=⟨A-1,by simp at P;exact(kK P).mp rfl⟩;refine gM ?_;have:ev (BK k) [] Ve (loc1 a b (.int i) .c)=some (.bool false):=mq (qt rfl rfl i1 L) (by refine ab J ?_;rfl);simp only[this,aj,af];rfl
 |cons x as R=>
  intro bs i A J U i1 o P;obtain⟨f,rfl⟩:∃f,A=f+1:=⟨A-1,by simp at P;lia⟩;have B:(x::as).length<=cB:=by refine cA J (ab bB ?_);lia
  have D:bs.length<=cB:=by refine cA U (ab bB ?_);lia
  have e1:ev (BK k) [] (.F (.a 0) (.a 3)) (loc1 a b (.int i) .c)=some (.str (x::as)):=cA J<|qt rfl rfl i1 L;have e2:ev (BK k) [] (.F (.a 1) (.a 3)) (loc1 a b (.int i) .c)=some (.str bs):=cA U<|qt rfl rfl o O;rcases bs with _|⟨y,bs⟩
  ·refine gM ?_;have:ev (BK k) [] Ve (loc1 a b (.int i) .c)=some (.bool false):=jj e1 (hU B) (mq e2 (hU D));simp only[this,aj,af];rfl
  ·have c:ev (BK k) [] (.sub (.a 0) (.a 3)) (loc1 a b (.int i) .c)=some (.str [x]):=dB rfl rfl (uo L J);have F:ev (BK k) [] (.sub (.a 1) (.a 3)) (loc1 a b (.int i) .c)=some (.str [y]):=dB rfl rfl (uo O U);have l1:i+1<=a.length:=by
    have:=congrArg dp J;rw[bB]at this;simp at this;lia
   have l2:i+1<=b.length:=by have:=congrArg dp U;rw[bB]at this;simp at this;lia
   by_cases C:x=y
   ·have Q:ev (BK k) [] Ve (loc1 a b (.int i) .c)=some (.bool true):=jj e1 (hU B) (jj e2 (hU D) (jj (cc (r:=true) c F (by simp[(id cb),(id jJ),C])) rfl D3));have E:a.drop (i+1)=as:=by refine cA dJ (ab J ?_);rfl
    have N:b.drop (i+1)=bs:=by refine cA dJ (ab U ?_);rfl
    refine pH (loc':=loc1 a b (.int (i+1:Nat)) .c) (st':= []) (by simp only[Q,aj,af];rfl) (aO (fW (x:=.int i) (v:=.int 1) (y:=.int (i+1:Nat)) rfl rfl rfl rfl rfl) rfl)<|ab (R bs (i+1) f E N l1 l2 (by simp at P;exact nv P)) ?_;simp only[(id xj),if_pos C];exact ab (show i+1+jR as bs=i+(jR as bs+1)by exact dS i (jR as bs)) rfl
   ·refine gM ?_|>.trans ?_
    ·have:ev (BK k) [] Ve (loc1 a b (.int i) .c)=some (.bool false):=jj e1 (hU B) (jj e2 (hU D) (mq (cc (r:=false) c F (ky (by simpa using C))) rfl));simp only[this,aj,af];rfl
    ·simp only[(id xj),if_neg C];rfl
noncomputable def Vf:CE:=.band [(.A (.a 0) (.D (.a 4) .u)),(.A (.a 1) (.D (.a 4) .u)),(.cmp .Eq (.sub (.a 0) (.f .Sub (.a 4) (.d 1))) (.sub (.a 1) (.f .Sub (.a 4) (.d 1))))]
noncomputable def Zy:List CS:= [.aug 4 .Sub (.d 1)]
theorem rh{C:dC}{st:St}{loc:Loc}{v:CE}{x:List Nat}{j:Nat}(V:x.length<=cB)(D:ev C st v loc=some (.str x))(d:ev C st (.a 4) loc=some (.int (-(j:Int)))):ev C st (.A v (.D (.a 4) .u)) loc=some (.str (x.take (x.length-j))):=by
 have M:ev C st (.D (.a 4) .u) loc=some (if j=0 then .none else .int (-(j:Int))):=by
  have e:ev C st (.D (.a 4) .u) loc=(do
   let x<-ev C st (.a 4) loc
   if<-cU st x then return x else ev C st .u loc):=rfl
  refine ab e (ab d ?_);by_cases h:j=0
  ·subst h;rfl
  ·have:((-(j:Int)) !=0)=true:=by simp;exact W.neN h
   simp only[aj,af,(id lY),this,if_true,if_neg h,aJ]
 have e:ev C st (.A v (.D (.a 4) .u)) loc=(do vO (<-ev C st v loc) .none (<-ev C st (.D (.a 4) .u) loc)):=rfl;refine ab e (ab D (ab M ?_));by_cases h:j=0
 ·subst h;simp[(id T3),(id nF),V]
 ·refine ab (if_neg h) ?_;have U:(-(j:Int))<0:=by lia
  have S:((-(j:Int))+(x.length:Nat)).toNat=x.length-j:=by lia
  simp only[aj,af,(id T3),(id nF),if_pos U,S,if_pos V,Ru]
theorem Bn{st:St}{x:List Nat}{j:Nat}{c:Nat}{r:List Nat}(V:x.length<=cB)(h:x.reverse.drop j=c::r):gF st (.str x) (.int (-(j:Int)-1))=some (.str [c]):=by
 have Y:j<x.length:=by have:=congrArg dp h;rw[bB]at this;simp at this;exact DE this
 have Z:x[x.length-1-j]=c:=by rw[dF (by simpa using Y)]at h;have:=(Up h).1;rw[List.getElem_reverse]at this;exact this
 have J:¬(0<= -(j:Int)-1/\ -(j:Int)-1<x.length):=by lia
 have U: -(j:Int)-1<0/\0<= -(j:Int)-1+x.length:=by lia
 have S:(-(j:Int)-1+(x.length:Nat)).toNat=x.length-1-j:=by lia
 have d:x.length-1-j<x.length:=Nat.sub_one_sub_lt_of_lt Y;simp only[(id pb),ll,if_pos V,if_neg J,if_pos U,S,aj,af,gx d,Z,aJ]
theorem PX(k:Nat)(a b:List Nat)(G:AV)(L:a.length<=cB)(O:b.length<=cB):∀(as bs:List Nat) (j A:Nat),a.reverse.drop j=as->b.reverse.drop j=bs->j<=a.length->j<=b.length->as.length<A->
 gh (λloc st=>do cU st (<-ev (BK k) st Vf loc)) (λloc st=>dh (BK k) Zy loc st) A (loc1 a b G (.int (-(j:Int)))) []=some (.next,loc1 a b G (.int (-((j+jR as bs:Nat):Int))),[]):=by
 intro as
 induction as with
 |nil=>
  intro bs j A J U i1 o P;obtain⟨f,rfl⟩:∃f,A=f+1:=⟨A-1,by simp at P;exact(kK P).mp rfl⟩;refine gM ?_;have X:=congrArg dp J;simp at X;have e1:a.take (a.length-j)= []:=by refine ab (show a.length-j=0 by exact dN (iZ (congrFun (congrArg BG (id (dN X))) k))) ?_;rfl
  have:ev (BK k) [] Vf (loc1 a b G (.int (-(j:Int))))=some (.bool false):=mq (rh L rfl rfl) (by refine ab e1 ?_;rfl);simp only[this,aj,af];rfl
 |cons x as R=>
  intro bs j A J U i1 o P;obtain⟨f,rfl⟩:∃f,A=f+1:=⟨A-1,by simp at P;lia⟩;have l1:j+1<=a.length:=by have:=congrArg dp J;rw[bB]at this;simp at this;lia
  have t1:cU [] (.str (a.take (a.length-j)))=some true:=by
   refine ab (hU (by refine ab br ?_;lia)) ?_;have:(a.take (a.length-j)).isEmpty=false:=by rw[zx];intro h;have:=congrArg dp h;rw[br]at this;simp at this;lia
   refine ab this ?_;rfl
  have e1:ev (BK k) [] (.A (.a 0) (.D (.a 4) .u)) (loc1 a b G (.int (-(j:Int))))=some (.str (a.take (a.length-j))):=rh L rfl rfl;have e2:ev (BK k) [] (.A (.a 1) (.D (.a 4) .u)) (loc1 a b G (.int (-(j:Int))))=some (.str (b.take (b.length-j))):=rh O rfl rfl;rcases bs with _|⟨y,bs⟩
  ·refine gM ?_;have X:=congrArg dp U;simp at X;have c:b.take (b.length-j)= []:=by refine ab (show b.length-j=0 by exact dN (iZ (congrFun (congrArg BG (id (dN X))) k))) ?_;rfl
   have:ev (BK k) [] Vf (loc1 a b G (.int (-(j:Int))))=some (.bool false):=jj e1 t1 (mq e2 (by refine ab c ?_;rfl));simp only[this,aj,af];rfl
  ·have l2:j+1<=b.length:=by
    have:=congrArg dp U;rw[bB]at this;simp at this;lia
   have t2:cU [] (.str (b.take (b.length-j)))=some true:=by
    refine ab (hU (by refine ab br ?_;lia)) ?_;have:(b.take (b.length-j)).isEmpty=false:=by rw[zx];intro h;have:=congrArg dp h;rw[br]at this;simp at this;lia
    refine ab this ?_;rfl
   have c:ev (BK k) [] (.sub (.a 0) (.f .Sub (.a 4) (.d 1))) (loc1 a b G (.int (-(j:Int))))=some (.str [x]):=dB rfl (oO rfl rfl) (Bn L J);have F:ev (BK k) [] (.sub (.a 1) (.f .Sub (.a 4) (.d 1))) (loc1 a b G (.int (-(j:Int))))=some (.str [y]):=dB rfl (oO rfl rfl) (Bn O U);by_cases C:x=y
   ·have Q:ev (BK k) [] Vf (loc1 a b G (.int (-(j:Int))))=some (.bool true):=jj e1 t1 (jj e2 t2 (jj (cc (r:=true) c F (by simp[(id cb),(id jJ),C])) rfl D3));have E:a.reverse.drop (j+1)=as:=by refine cA dJ (ab J ?_);rfl
    have N:b.reverse.drop (j+1)=bs:=by refine cA dJ (ab U ?_);rfl
    refine pH (loc':=loc1 a b G (.int (-((j+1:Nat):Int)))) (st':= []) (by simp only[Q,aj,af];rfl) (aO (fW (x:=.int (-(j:Int))) (v:=.int 1) (y:=.int (-((j+1:Nat):Int))) rfl rfl rfl (by simp only[(id cw),binI,aK];congr 2;lia) rfl) rfl)<|ab (R bs (j+1) f E N l1 l2 (by simp at P;exact nv P)) ?_;simp only[(id xj),if_pos C];exact ab (show j+1+jR as bs=j+(jR as bs+1)by exact dS j (jR as bs)) rfl
   ·refine gM ?_|>.trans ?_
    ·have:ev (BK k) [] Vf (loc1 a b G (.int (-(j:Int))))=some (.bool false):=jj e1 t1 (jj e2 t2 (mq (cc (r:=false) c F (ky (by simpa using C))) rfl));simp only[this,aj,af];rfl
    ·simp only[(id xj),if_neg C];rfl
noncomputable def jq(a b:Nat):Nat:=if b<a then b else a
noncomputable def mw(sub:Nat->Nat->Nat)(c:Nat):List Nat->List Nat->Nat->Nat->Nat->List Nat×Nat×Nat
 |x::a,r::B,dist,res,mn=>
  let res':=jq (jq res r+2) (dist+sub c x);let q:=mw sub c a B r res' (if res'<mn then res' else mn)
  (res'::q.1,q.2)
 |_,_,_,res,mn=>([],res,mn)
theorem CJ:(∀sub c x a r B dist res mn,mw sub c (x::a) (r::B) dist res mn=(let res':=jq (jq res r+2) (dist+sub c x)
 let q:=mw sub c a B r res' (if res'<mn then res' else mn)
 (res'::q.1,q.2)))/\
 (∀sub c C g res mn,mw sub c [] C g res mn=(([],res,mn)))/\(∀sub c x a g res mn,mw sub c (x::a) [] g res mn=(([],res,mn))):=⟨by intros;rfl,by intros;rfl,by intros;rfl⟩
noncomputable def FG:Nat:=9223372036854775807
noncomputable def oV(sub:Nat->Nat->Nat)(a:List Nat):List Nat->Nat->List Nat->Nat->Nat
 | [],_,_,res=>res
 |c::b,i,B,res=>
  let q:=mw sub c a B (i*2) (i*2) FG
  if 8<q.2.2 then 9 else oV sub a b (i+1) q.1 q.2.1
theorem KV:(∀sub a A C res,oV sub a [] A C res=(res))/\
 (∀sub a c b i B res,oV sub a (c::b) i B res=(let q:=mw sub c a B (i*2) (i*2) FG
 if 8<q.2.2 then 9 else oV sub a b (i+1) q.1 q.2.1)):=⟨by intros;rfl,by intros;rfl⟩
noncomputable def i1:List CS:= [.cI (.bX 12) (.f .Add (.a 9) (.call 0 [(.a 8),(.sub (.a 0) (.a 11))])),
 .cI (.bX 9) (.sub (.a 5) (.a 11)),
 .cI (.bX 13) (.f .Add (.U (.a 6) (.a 9)) (.n 1)),
 .cI (.bX 6) (.U (.a 13) (.a 12)),
 .K (.a 5) (.a 11) (.a 6),
 .ite (.cmp .Lt (.a 6) (.a 10))
  [.cI (.bX 10) (.a 6)]
  []]
noncomputable def jO(a b:List Nat)(p q res bi M dist mn ix su idl:AV):Loc:= [.str a,.str b,.int 8,p,q,.ref 0,res,bi,M,dist,mn,ix,su,idl]
noncomputable def nI(n:Nat):AV:=.int (n:Nat)
theorem D6{C:dC}{st:St}{loc:Loc}{a b:CE}{x y:Nat}(J:ev C st a loc=some (nI x))(U:ev C st b loc=some (nI y)):ev C st (.U a b) loc=some (nI (jq x y)):=by
 simp only[nI]at*;simp only[(id fD),lC,aK,af,J,U];delta jq;by_cases h:y<x
 ·exact ab (if_pos h) (ab (if_pos (fh.mpr h)) rfl)
 ·exact ab (if_neg h) (ab (if_neg (by lia)) rfl)
def gX(c:Nat):Prop:=(gE [c]).length<=cB
theorem WW(k:Nat){a b:List Nat}{p q bi ix su idl:AV}{c x res dist mn i r:Nat}{ar done rs:List Nat}(L:a.length<=100)(V:gX c)(Z:gX x)(u:a.drop i=x::ar)(hi:done.length=i)(X:(done++r::rs).length<=100):
 ∃K I,dh (BK (k+1)) i1 (jO a b p q (nI res) bi (.str [c]) (nI dist) (nI mn) (nI i) su idl) [some (bq (done++r::rs))]=
  some (.next,jO a b p q (nI (jq (jq res r+2) (dist+fC c x))) bi (.str [c]) (nI r) (nI (if jq (jq res r+2) (dist+fC c x)<mn then jq (jq res r+2) (dist+fC c x)else mn)) (nI i) K I,
   [some (bq ((done++ [jq (jq res r+2) (dist+fC c x)])++rs))]):=by
 have g:a.length<=cB:=by simp[cB];lia
 have A:(bq (done++r::rs))[i]? =some (nI r):=by simp[bq,nI,<-hi]
 generalize B:jq (jq res r+2) (dist+fC c x)=res';refine⟨nI (dist+fC c x),nI (jq res r+2),?_⟩;refine aO (gw (v:=nI (dist+fC c x)) (loc':=jO a b p q (nI res) bi (.str [c]) (nI dist) (nI mn) (nI i) (nI (dist+fC c x)) idl) (eN (x:=nI dist) (y:=nI (fC c x)) rfl (eP (vs:= [.str [c],.str [x]]) ?_ rfl (XZ k V Z)) rfl) rfl) ?_
 ·have:ev (BK (k+1)) [some (bq (done++r::rs))] (.sub (.a 0) (.a 11)) (jO a b p q (nI res) bi (.str [c]) (nI dist) (nI mn) (nI i) su idl)=some (.str [x]):=dB rfl rfl (uo g u);simp only[af,(id jW),this,aj,af,aJ];rfl
 refine aO (gw (v:=nI r) (loc':=jO a b p q (nI res) bi (.str [c]) (nI r) (nI mn) (nI i) (nI (dist+fC c x)) idl) (dB (x:=.ref 0) (y:=nI i) rfl rfl ?_) rfl) ?_
 ·have J:(i:Int)< (bq (done++r::rs)).length:=by simp[bq];lia
  have U:(bq (done++r::rs)).length<=cB:=by simp[bq,cB]at X⊢;(clear J B A g hi u Z V L;lia)
  simp only[nI,(id pb),bo,uC,aj,af,ll,if_pos U,J,aX,and_self,if_true,bK];exact A
 refine aO (gw (v:=nI (jq res r+2)) (loc':=jO a b p q (nI res) bi (.str [c]) (nI r) (nI mn) (nI i) (nI (dist+fC c x)) (nI (jq res r+2))) (eN (x:=nI (jq res r)) (y:=nI 2) (D6 rfl rfl) rfl rfl) rfl)<|aO (gw (v:=nI res') (loc':=jO a b p q (nI res') bi (.str [c]) (nI r) (nI mn) (nI i) (nI (dist+fC c x)) (nI (jq res r+2))) (cA B<|D6 rfl rfl) rfl)<|aO (loc':=jO a b p q (nI res') bi (.str [c]) (nI r) (nI mn) (nI i) (nI (dist+fC c x)) (nI (jq res r+2))) (st':= [some (bq (done++ [res']++rs))]) ?_ ?_
 ·have e:=qr (C:=BK (k+1)) (st:= [some (bq (done++r::rs))]) (loc:=jO a b p q (nI res') bi (.str [c]) (nI r) (nI mn) (nI i) (nI (dist+fC c x)) (nI (jq res r+2))) (e:=.a 6) (c:=.a 5) (ix:=.a 11) (v:=nI res') (n:=0) (k:=i) (l:=bq (done++r::rs)) rfl rfl rfl rfl ⟨by exact aX i,by simp[bq];lia,by simp[bq,cB]at X⊢;lia⟩;refine bp e ?_;have:(bq (done++r::rs)).set (i:Int).toNat (nI res')=bq (done++ [res']++rs):=by
   refine ab (bK ..) ?_;simp[bq,nI,<-hi]
  refine ab this ?_;rfl
 ·by_cases T:res'<mn
  ·exact ab (if_pos T)<|aO (eu (a:=.bool true) (r:=true) (cc (x:=nI res') (y:=nI mn) rfl rfl (by simp only[nI,(id cb)];exact ab (decide_eq_true (fh.mpr T)) rfl)) rfl (aO (gw (v:=nI res') rfl rfl) rfl)) rfl
  ·exact ab (if_neg T)<|aO (eu (a:=.bool false) (r:=false) (cc (x:=nI res') (y:=nI mn) rfl rfl (by simp only[nI,(id cb)];exact ab (decide_eq_false (by lia)) rfl)) rfl rfl) rfl
theorem SJ(k:Nat){a b:List Nat}{p q bi:AV}{c:Nat}(L:a.length<=100)(V:gX c):∀(as rs done:List Nat) (i res dist mn:Nat) (ix su idl:AV),(∀x∈as,gX x)->a.drop i=as->done.length=i->rs.length=as.length->(done++rs).length<=100->
 ∃C U K I,iP (.bX 11) (λloc st=>dh (BK (k+1)) i1 loc st) ((gZ i as.length).map λ(i:Nat)=>nI i) (jO a b p q (nI res) bi (.str [c]) (nI dist) (nI mn) ix su idl) [some (bq (done++rs))]=
  some (.next,jO a b p q (nI (mw fC c as rs dist res mn).2.1) bi (.str [c]) C (nI (mw fC c as rs dist res mn).2.2) U K I,[some (bq (done++(mw fC c as rs dist res mn).1))]):=by
 intro G
 induction G with
 |nil=>
  intro rs done i res dist mn ix su idl z z z X z;have:rs= []:=dD X;subst this;exact⟨nI dist,ix,su,idl,rfl⟩
 |cons x as P=>
  intro H done i res dist mn ix su idl E u hi X B;rcases H with _|⟨r,rs⟩
  ·injection X
  ·refine ej (WW k (a:=a) (b:=b) (p:=p) (q:=q) (bi:=bi) (ix:=ix) (su:=su) (idl:=idl) (c:=c) (x:=x) (res:=res) (dist:=dist) (mn:=mn) (i:=i) (r:=r) (ar:=as) (done:=done) (rs:=rs) L V (E x aH) u hi B) λM D f=>?_;have A:a.drop (i+1)=as:=by refine cA dJ (ab u ?_);rfl
   refine JG (P rs (done++ [jq (jq res r+2) (dist+fC c x)]) (i+1) (jq (jq res r+2) (dist+fC c x)) r (if jq (jq res r+2) (dist+fC c x)<mn then jq (jq res r+2) (dist+fC c x)else mn) (nI i) M D
    (λy F=>E y (ax _ F)) A (by simp;omega+splitDisjunctions) (by simpa using X) (by simp at B⊢;omega+splitDisjunctions)) λN Oz O J j=>?_
   refine⟨N,Oz,O,J,?_⟩;refine ab bu<|ab uu<|ab bI<|bf (loc1:=jO a b p q (nI res) bi (.str [c]) (nI dist) (nI mn) (nI i) su idl) rfl f<|bp j ?_;simp only[(id CJ),tJ,DB]
noncomputable def Bf(n:Nat):List Nat:=(aG n).map λi=>(i+1)*2
noncomputable def uQ(sub:Nat->Nat->Nat)(a b:List Nat):Nat:=if 8< (b.length-a.length)*2 then 9 else oV sub a b 0 (Bf a.length) 0
noncomputable def Te(sub:Nat->Nat->Nat)(a b:List Nat):Nat:=if a.isEmpty||b.isEmpty then(a.length+b.length)*2 else if b.length<a.length then uQ sub b a else uQ sub a b
noncomputable def Td(sub:Nat->Nat->Nat)(a b:List Nat):Nat:=Te sub (a.take (a.length-jR a.reverse b.reverse)) (b.take (b.length-jR a.reverse b.reverse))
noncomputable def yN(sub:Nat->Nat->Nat)(a b:List Nat):Nat:=if a=b then 0 else Td sub (a.drop (jR a b)) (b.drop (jR a b))
noncomputable def o1:List CS:= [.cI (.bX 8) (.sub (.a 1) (.a 7)),
 .Cf 9 6 (.f .Mult (.a 7) (.n 1)),
 .cI (.bX 10) (.d 9223372036854775807),
 .m (.bX 11) (.j [(.len (.a 0))]) i1,
 .ite (.cmp .Gt (.a 10) (.a 2))
  [.ret (.f .Add (.a 2) (.d 1))]
  []]
theorem Jv{C:dC}{st:St}{loc l1 l2:Loc}{i j:Nat}{e:CE}{v:AV}(h:ev C st e loc=some v)(J:ek loc i v=some l1)(U:ek l1 j v=some l2):mY C (.Cf i j e) loc st=some (.next,l2,st):=by simp[(id oM),h,J,U]
theorem AJ{C:dC}{st:St}{loc:Loc}{e:CE}{n:Nat}(h:ev C st e loc=some (nI n))(Q:n<=cB):ev C st (.j [e]) loc=some (.lst ((gZ 0 n).map λ(i:Nat)=>nI i)):=by have e1:=yW n Q;have e2:ev C st (.j [e]) loc=(do return .lst (<-lx (<-so C st [e] loc))):=rfl;refine ab e2 ?_;simp only[af,(id jW),h,aj,af,aJ];simp only[nI]at*;refine ab e1 (ab E7 ?_);rfl
theorem Gg(sub:Nat->Nat->Nat)(c:Nat):∀(as rs:List Nat) (d r m:Nat),rs.length=as.length->(mw sub c as rs d r m).1.length=as.length:=by
 intro G
 induction G with
 |nil=>
  intro rs d r m h;rfl
 |cons x as P=>
  intro H d r m h;rcases H with _|⟨y,rs⟩
  ·injection h
  ·simp[(id CJ),P rs _ _ _ (by simpa using h)]
theorem TC(k:Nat){a b:List Nat}{p q:AV}(L:a.length<=100)(O:b.length<=100)(N:∀x∈a,gX x)(X:∀x∈b,gX x):∀(bs:List Nat) (i:Nat) (B:List Nat) (res:Nat) (bi M dist mn ix su idl:AV),b.drop i=bs->B.length=a.length->
 ∃loc' st',iP (.bX 7) (λloc st=>dh (BK (k+1)) o1 loc st) ((gZ i bs.length).map λ(i:Nat)=>nI i) (jO a b p q (nI res) bi M dist mn ix su idl) [some (bq B)]=some (.ret (nI (oV fC a bs i B res)),loc',st')\/
  (iP (.bX 7) (λloc st=>dh (BK (k+1)) o1 loc st) ((gZ i bs.length).map λ(i:Nat)=>nI i) (jO a b p q (nI res) bi M dist mn ix su idl) [some (bq B)]=some (.next,loc',st')/\ev (BK (k+1)) st' (.a 6) loc'=some (nI (oV fC a bs i B res))):=by
 intro G
 induction G with
 |nil=>
  exactλi B res bi M dist mn ix su idl z z=>⟨_,_,.inr ⟨rfl,rfl⟩⟩
 |cons c bs P=>
  intro i B res bi M dist mn ix su idl u d;have g:a.length<=cB:=by simp[cB];lia
  have E:b.length<=cB:=by simp[cB];lia
  have V:gX c:=X c (gu (ab u<|aH));have A:b.drop (i+1)=bs:=by refine cA dJ (ab u ?_);rfl
  refine JG (SJ k (a:=a) (b:=b) (p:=p) (q:=q) (bi:=nI i) (c:=c) L V a B [] 0 (i*2) (i*2) FG ix su idl N rfl rfl d (by simp;lia)) λZ U K I f=>?_;generalize S:mw fC c a B (i*2) (i*2) FG=Q at f;have D:Q.1.length=a.length:=cA S<|Gg _ _ _ _ _ _ _ d;have C:oV fC a (c::bs) i B res=if 8<Q.2.2 then 9 else oV fC a bs (i+1) Q.1 Q.2.1:=by simp only[(id KV),S]
  have W:∀R,dh (BK (k+1)) [.ite (.cmp .Gt (.a 10) (.a 2)) [.ret (.f .Add (.a 2) (.d 1))] []] (jO a b p q (nI Q.2.1) (nI i) (.str [c]) Z (nI Q.2.2) U K I) [some (bq Q.1)]=R->
   dh (BK (k+1)) o1 (jO a b p q (nI res) (nI i) M dist mn ix su idl) [some (bq B)]=R:=by
   refineλR Y=>aO (gw (v:=.str [c]) (loc':=jO a b p q (nI res) (nI i) (.str [c]) dist mn ix su idl) (dB (x:=.str b) (y:=nI i) rfl rfl (uo E u)) rfl) ?_;have J:binI .Mult (i:Nat) 2=some ((i*2:Nat):Int):=by delta binI;simp only;refine ab (if_pos (.inr (.inl (by decide)))) ?_;push_cast;rfl
   exact aO (Jv (v:=nI (i*2)) (l1:=jO a b p q (nI res) (nI i) (.str [c]) (nI (i*2)) mn ix su idl) (l2:=jO a b p q (nI (i*2)) (nI i) (.str [c]) (nI (i*2)) mn ix su idl) (eN (x:=nI i) (y:=.int 2) rfl rfl (by simp only[nI,(id cw),J,aK])) rfl rfl)<|aO (gw (v:=nI FG) (loc':=jO a b p q (nI (i*2)) (nI i) (.str [c]) (nI (i*2)) (nI FG) ix su idl) rfl rfl)<|aO (gT (a:=.lst ((gZ 0 a.length).map λ(i:Nat)=>nI i)) (l:=(gZ 0 a.length).map λ(i:Nat)=>nI i) (AJ (by simp[(id fD),(id mN),g,jO,nI]) g) (jN (by simp;exact g)) f)<|Y
  refine ab C (ab bu (ab uu (ab bI ?_)));by_cases T:8<Q.2.2
  ·refine ab (if_pos T) ?_;have F:=W _ (iB (eu (a:=.bool true) (r:=true) (cc (x:=nI Q.2.2) (y:=.int 8) rfl rfl (by simp only[nI,(id cb)];exact ab (decide_eq_true (by lia)) rfl)) rfl (iB (ra (v:=nI 9) rfl rfl))));refine⟨jO a b p q (nI Q.2.1) (nI i) (.str [c]) Z (nI Q.2.2) U K I,[some (bq Q.1)],.inl ?_⟩
   ·exact(vg.2 ..).trans (tZ (show cT (jO a b p q (nI res) bi M dist mn ix su idl) (.bX 7) (nI i)=some (jO a b p q (nI res) (nI i) M dist mn ix su idl)from rfl) (tZ F rfl))
  ·refine ab (if_neg T) ?_;have F:=W _ (aO (eu (a:=.bool false) (r:=false) (cc (x:=nI Q.2.2) (y:=.int 8) rfl rfl (by simp only[nI,(id cb)];exact ab (decide_eq_false (by lia)) rfl)) rfl rfl) rfl);refine ej (P (i+1) Q.1 Q.2.1 (nI i) (.str [c]) Z (nI Q.2.2) U K I A D) λloc' st' j=>⟨loc',st',?_⟩;refine ak j (λj=>?_) λH=>aN H λj t=>?_
   ·exact .inl (bf (loc1:=jO a b p q (nI res) (nI i) M dist mn ix su idl) rfl F j)
   ·exact .inr ⟨bf (loc1:=jO a b p q (nI res) (nI i) M dist mn ix su idl) rfl F j,t⟩
noncomputable def Vp:List CS:= [.ite (.cmp .Gt (.f .Mult (.f .Sub (.len (.a 1)) (.len (.a 0))) (.n 1)) (.a 2))
 [.ret (.f .Add (.a 2) (.d 1))]
 [],
 .new 5 (.G [(.n 1),(.f .Mult (.n 1) (.f .Add (.len (.a 0)) (.d 1))),(.n 1)]),
 .cI (.bX 6) (.d 0),
 .m (.bX 7) (.j [(.len (.a 1))]) o1,
 .ret (.a 6)]
theorem Ws(n:Nat):rF 2 ((n+1)*2:Nat) 2=n:=by
 rcases n with _|n
 ·rfl
 ·delta rF;have e:(((n+1+1)*2:Nat):Int)-2-1=1+n*2:=by lia
  refine ab (if_pos (by lia)) (ab e (ab (BV 1 n (by decide)) ?_));show((0:Int)+n+1).toNat=n+1;refine ab (BW ..) ?_;rfl
theorem GY(n:Nat)(Q:n<=100):lx [.int 2,.int ((n+1:Nat)*2:Nat),.int 2]=some (bq (Bf n)):=by show(if(0:Int)<2/\(2:Int)<=1000/\((((n+1)*2:Nat):Int))-2<=cB/\Xv 2<=2^31/\(((n+1)*2:Nat):Int).natAbs<=2^31 then some ((gV 2 2 (rF 2 ((n+1)*2:Nat) 2)).map AV.int)else none)=_;refine ab (if_pos ⟨by decide,by decide,by show _<=(10000:Int);lia,by decide,by lia⟩) ?_;have e:rF 2 ((n+1)*2:Nat) 2=n:=Ws n;refine ab e ?_;congr 1;unfold gV bq Bf;refine ab fi (ab fi ?_);apply jn;intro i z;simp only[Function.comp_apply];congr 1;refine ab (Xg ..) (ab (tO ..) ?_);rfl
theorem Ae(k:Nat){a b:List Nat}{p q:AV}(L:a.length<=50)(O:b.length<=50)(I:a.length<=b.length)(N:∀x∈a,gX x)(X:∀x∈b,gX x):
 eC (BK (k+1)) Vp [.str a,.str b,.int 8,p,q,.c,.c,.c,.c,.c,.c,.c,.c,.c] [] (nI (uQ fC a b)):=by
 have G:a.length<=cB:=by simp[cB];lia
 have E:b.length<=cB:=by simp[cB];lia
 have C:∀(st:St) (U T:AV),ev (BK (k+1)) st (.len (.a 0)) [.str a,.str b,.int 8,p,q,U,T,.c,.c,.c,.c,.c,.c,.c]=some (nI a.length):=λst U T=>by simp[(id fD),(id mN),G,nI]
 have D:∀(st:St) (U T:AV),ev (BK (k+1)) st (.len (.a 1)) [.str a,.str b,.int 8,p,q,U,T,.c,.c,.c,.c,.c,.c,.c]=some (nI b.length):=λst U T=>by simp[(id fD),(id mN),E,nI]
 have J:binI .Mult ((b.length:Nat)- (a.length:Nat):Int) 2=some (((b.length-a.length)*2:Nat):Int):=by delta binI;simp only;refine ab (if_pos (.inr (.inl (by decide)))) ?_;congr 1;push_cast;lia
 have e1:ev (BK (k+1)) [] (.f .Mult (.f .Sub (.len (.a 1)) (.len (.a 0))) (.n 1)) [.str a,.str b,.int 8,p,q,.c,.c,.c,.c,.c,.c,.c,.c,.c]=some (nI ((b.length-a.length)*2)):=
  eN (oO (D _ _ _) (C _ _ _)) rfl (by simp only[nI,(id cw),J,aK])
 delta uQ;by_cases Z:8< (b.length-a.length)*2
 ·exact ab (if_pos Z)<|.oq (cc (y:=.int 8) e1 rfl (by simp only[nI,(id cb)];exact ab (decide_eq_true (by exact HP Z)) rfl))<|.ret rfl rfl
 ·refine ab (if_neg Z)<|.jo (cc (y:=.int 8) e1 rfl (by simp only[nI,(id cb)];exact ab (decide_eq_false (by lia)) rfl)) ?_;have A:binI .Mult 2 ((a.length:Nat)+1:Int)=some (((a.length+1)*2:Nat):Int):=by
   delta binI;simp only;refine ab (if_pos (.inr (.inr (by decide)))) ?_;congr 1;push_cast;exact bR 2 (↑a.length+1)
  refine .next (iO (l:=bq (Bf a.length)) (loc':= [.str a,.str b,.int 8,p,q,.ref 0,.c,.c,.c,.c,.c,.c,.c,.c]) ?_ rfl rfl) ?_
  ·have e2:ev (BK (k+1)) [] (.f .Mult (.n 1) (.f .Add (.len (.a 0)) (.d 1))) [.str a,.str b,.int 8,p,q,.c,.c,.c,.c,.c,.c,.c,.c,.c]=some (.int ((a.length+1)*2:Nat)):=
    eN (x:=.int 2) rfl (oN (C _ _ _) rfl) (by simp only[(id cw),A,aK])
   have c:ev (BK (k+1)) [] (.G [(.n 1),(.f .Mult (.n 1) (.f .Add (.len (.a 0)) (.d 1))),(.n 1)]) [.str a,.str b,.int 8,p,q,.c,.c,.c,.c,.c,.c,.c,.c,.c]=
    (do return .lst (<-lx (<-so (BK (k+1)) [] [(.n 1),(.f .Mult (.n 1) (.f .Add (.len (.a 0)) (.d 1))),(.n 1)] [.str a,.str b,.int 8,p,q,.c,.c,.c,.c,.c,.c,.c,.c,.c]))):=rfl
   have F:ev (BK (k+1)) [] (.n 1) [.str a,.str b,.int 8,p,q,.c,.c,.c,.c,.c,.c,.c,.c,.c]=some (.int 2):=rfl;refine ab c ?_;simp only[af,(id jW),e2,F,aj,af,aJ,GY a.length (by lia)]
  ·refine .cI (x:=.int 0) (loc':=jO a b p q (nI 0) .c .c .c .c .c .c .c) rfl rfl<|ej (TC k (a:=a) (b:=b) (p:=p) (q:=q) (by lia) (by lia) N X b 0 (Bf a.length) 0 .c .c .c .c .c .c .c rfl (by simp[Bf])) λloc' st' g=>?_;have B:ev (BK (k+1)) [some (bq (Bf a.length))] (.j [(.len (.a 1))]) (jO a b p q (nI 0) .c .c .c .c .c .c .c)=some (.lst ((gZ 0 b.length).map λ(i:Nat)=>nI i)):=AJ (by simp[(id fD),(id mN),E,jO,nI]) E;have n:fQ [some (bq (Bf a.length))] (.lst ((gZ 0 b.length).map λ(i:Nat)=>nI i))=some ((gZ 0 b.length).map λ(i:Nat)=>nI i):=jN (by simp;exact E);refine ak g (λg=>?_) λH=>aN H λg j=>?_
   ·exact⟨_,_,iB (gT B n g)⟩
   ·exact .next (gT B n g) (.ret j rfl)
theorem Sk{C:dC}{st:St}{loc:Loc}{a:CE}{l:List CE}{x:AV}(J:ev C st a loc=some x)(U:cU st x=some true):ev C st (.bor (a::l)) loc=some (.bool true):=by simp[(id fD),(id Ju),J,U]
theorem XR(k:Nat){a b:List Nat}(L:a.length<=30)(O:b.length<=30)(N:∀x∈a,gX x)(X:∀x∈b,gX x):(BK (k+2)).O 1 [.str a,.str b,.int 8]=some (nI (yN fC a b)):=by
 have g:a.length<=cB:=by simp[cB];lia
 have E:b.length<=cB:=by simp[cB];lia
 refine ab TN<|eC.run rfl ?_;delta yN;by_cases I:a=b
 ·exact ab (if_pos I)<|.oq (cc (r:=true) rfl rfl (by simp[(id cb),(id jJ),I]))<|.ret rfl rfl
 refine ab (if_neg I)<|.jo (cc (r:=false) rfl rfl (ky I))<|.cI (x:=.int 0) (loc':=loc1 a b (.int (0:Nat)) .c) rfl rfl ?_;have w1:=PW (k+1) a b g E a b 0 200 rfl rfl (bz _) (bz _) (by lia);rw[B8]at w1;refine .next (rb w1) ?_;have D:∀(a b:List Nat),jR a b<=a.length/\jR a b<=b.length:=by
  intro a
  induction a with
  |nil=>exactλb=>⟨aV 0,bz _⟩
  |cons x a R=>
   intro b;cases b with
   |nil=>exact⟨bz _,aV 0⟩
   |cons y b=>
    simp only[(id xj)];split
    ·have:=R b;simp;exact And.comm.mp (id (And.symm this))
    ·simp
 have B:=D a b;generalize jR a b=p at*;refine .cI (x:=.str (a.drop p)) (loc':=loc1 (a.drop p) b (.int p) .c) (qt rfl rfl B.1 g) rfl<|.cI (x:=.str (b.drop p)) (loc':=loc1 (a.drop p) (b.drop p) (.int p) .c) (qt rfl rfl B.2 E) rfl ?_;have J:(a.drop p).length<=30:=by refine ab bB ?_;lia
 have F:(b.drop p).length<=30:=by refine ab bB ?_;lia
 have T:∀x∈a.drop p,gX x:=λx Z=>N x (gu Z);have U:∀x∈b.drop p,gX x:=λx Z=>X x (gu Z);generalize a.drop p=a1 at*;generalize b.drop p=b1 at*;delta Td;have M:a1.length<=cB:=by simp[cB];lia
 have H:b1.length<=cB:=by simp[cB];lia
 refine .cI (x:=.int 0) (loc':=loc1 a1 b1 (.int p) (.int (-((0:Nat):Int)))) rfl rfl ?_;have w2:=PX (k+1) a1 b1 (.int p) M H a1.reverse b1.reverse 0 200 rfl rfl (bz _) (bz _) (by simp;lia);rw[B8]at w2;refine .next (rb w2) ?_;generalize jR a1.reverse b1.reverse=q at*;refine .cI (x:=.str (a1.take (a1.length-q))) (loc':=loc1 (a1.take (a1.length-q)) b1 (.int p) (.int (-(q:Int)))) (rh M rfl rfl) rfl<|.cI (x:=.str (b1.take (b1.length-q))) (loc':=loc1 (a1.take (a1.length-q)) (b1.take (b1.length-q)) (.int p) (.int (-(q:Int)))) (rh H rfl rfl) rfl ?_;have i:(a1.take (a1.length-q)).length<=30:=by refine ab br ?_;lia
 have j:(b1.take (b1.length-q)).length<=30:=by refine ab br ?_;lia
 have P:∀x∈a1.take (a1.length-q),gX x:=λx Z=>T x (iX Z);have Q:∀x∈b1.take (b1.length-q),gX x:=λx Z=>U x (iX Z);generalize a1.take (a1.length-q)=a2 at*;generalize b1.take (b1.length-q)=b2 at*;delta Te;have K:a2.length<=cB:=by simp[cB];lia
 have A:b2.length<=cB:=by simp[cB];lia
 have u:ev (BK (k+1)) [] (.B (.a 0)) (loc1 a2 b2 (.int p) (.int (-(q:Int))))=some (.bool a2.isEmpty):=by have:=vc (C:=BK (k+1)) (st:= []) (loc:=loc1 a2 b2 (.int p) (.int (-(q:Int)))) (e:=.a 0) (x:=.str a2) rfl (hU K);simpa using this
 have n2:ev (BK (k+1)) [] (.B (.a 1)) (loc1 a2 b2 (.int p) (.int (-(q:Int))))=some (.bool b2.isEmpty):=by have:=vc (C:=BK (k+1)) (st:= []) (loc:=loc1 a2 b2 (.int p) (.int (-(q:Int)))) (e:=.a 1) (x:=.str b2) rfl (hU A);simpa using this
 have l0:∀(a b:List Nat),a.length<=cB->ev (BK (k+1)) [] (.len (.a 0)) (loc1 a b (.int p) (.int (-(q:Int))))=some (nI a.length):=λa b h=>by simp[(id fD),(id mN),h,loc1,nI]
 have l1:∀(a b:List Nat),b.length<=cB->ev (BK (k+1)) [] (.len (.a 1)) (loc1 a b (.int p) (.int (-(q:Int))))=some (nI b.length):=λa b h=>by simp[(id fD),(id mN),h,loc1,nI]
 by_cases G:(a2.isEmpty||b2.isEmpty)=true
 ·refine ab (if_pos G)<|.oq (by
   cases h1:a2.isEmpty with
   |true=>rw[h1]at u;exact Sk u rfl
   |false=>
    rw[h1]at u G;rw[show b2.isEmpty=true by simpa using G]at n2;exact vd u rfl n2 rfl) ?_
  refine .ret (eN (x:=.int 2) (y:=.int ((a2.length:Nat)+(b2.length:Nat))) rfl (oN (l0 _ _ K) (l1 _ _ A)) ?_) rfl;simp only[nI,(id cw)];delta binI;simp only;refine ab (if_pos (.inr (.inr (by decide)))) ?_;simp only[aK];congr 2;push_cast;lia
 ·refine ab (if_neg G) ?_;have S:a2.isEmpty=false:=by cases h:a2.isEmpty<;>simp_all
  have W:b2.isEmpty=false:=by cases h:b2.isEmpty<;>simp_all
  rw[S]at u;rw[W]at n2;refine .jo (vd u rfl n2 rfl)<|.jo (vd (cc (r:=false) (y:=.int 40) (l0 _ _ K) rfl (by simp only[nI,(id cb)];exact ab (decide_eq_false (by lia)) rfl)) rfl (cc (r:=false) (y:=.int 40) (l1 _ _ A) rfl (by simp only[nI,(id cb)];exact ab (decide_eq_false (by lia)) rfl)) rfl) ?_;by_cases V:b2.length<a2.length
  ·exact ab (if_pos V)<|.oq (cc (l1 _ _ A) (l0 _ _ K) (by simp only[nI,(id cb)];exact ab (decide_eq_true (by lia)) rfl))<|.cI (x:=.tup [.str b2,.str a2]) (loc':=loc1 b2 a2 (.int p) (.int (-(q:Int)))) rfl rfl<|Ae k (by lia) (by lia) (by lia) Q P
  ·exact ab (if_neg V)<|.jo (cc (l1 _ _ A) (l0 _ _ K) (by simp only[nI,(id cb)];exact ab (decide_eq_false (by lia)) rfl))<|Ae k (by lia) (by lia) (by lia) P Q
noncomputable def KZ(c:Nat):List Nat:=match c with
 |0=> [0]
 |1=> [0,2]
 |2=> [0]
 |3=> [1]
 |4=> [0]
 |5=> [1]
 |6=> [0]
 |_=> [0,2]
noncomputable def K0(c:Nat):List Nat:=match c with
 |0=> [0]
 |1=> [0,2]
 |2=> [1]
 |3=> [0]
 |4=> [1]
 |5=> [0]
 |6=> [0,2]
 |_=> [0]
noncomputable def EA(p c:Nat):List Nat:=(KZ c).map (3*p+·)
noncomputable def EB(p c:Nat):List Nat:=(K0 c).map (3*p+·)
noncomputable def UA(c:Nat):Nat:=match c with
 |0=>0
 |1=>0
 |2=>1
 |3=>1
 |_=>2
noncomputable def Uv(c:Nat):Bool:=c==2||c==3
noncomputable def zf(c:Nat->Nat)(x y:Nat):Nat:=if x==y then 0 else if x/3==y/3&&(x% 3 !=2)&&(y% 3 !=2)&&Uv (c (x/3))then 1 else 2
noncomputable def Nv(c0 c m o:Nat)(p:Nat):Nat:=match p with
 |0=>c0
 |1=>c
 |2=>m
 |_=>o
noncomputable def QY(c0 c m o:Nat):Bool:=yN (zf (Nv c0 c m o)) (EA 0 c0++(EA 1 c++(EA 2 m++EA 3 o))) (EB 0 c0++(EB 1 c++(EB 2 m++EB 3 o)))==UA c0+UA c+UA m+UA o
theorem OF:((aG 8).all λc0=>(aG 8).all λc=>(aG 8).all λm=>(aG 8).all λo=>QY c0 c m o)=true:=by decide+kernel
section
variable{φ:Nat->Nat}{sub sub':Nat->Nat->Nat}{S:Nat->Prop}
theorem Bb(hi:∀x y,S x->S y->φ x=φ y->x=y):∀{a b:List Nat},(∀x∈a,S x)->(∀x∈b,S x)->jR (a.map φ) (b.map φ)=jR a b:=by
 intro G
 induction G with
 |nil=>
  intro b Z Z;rcases b with⟨⟩<;>rfl
 |cons x a P=>
  intro H L O;rcases H with _|⟨y,b⟩
  ·exact rfl
  ·have R:=P (λz M=>L z (ax _ M)) λz M=>O z (ax _ M);simp only[bI,(id xj)];by_cases h:x=y
   ·exact ab (if_pos h) (ab (if_pos (congrArg _ h)) (ab R rfl))
   ·exact ab (if_neg h) (ab (if_neg λe=>h (hi x y (L x aH) (O y aH) e)) rfl)
theorem OJ(hi:∀x y,S x->S y->φ x=φ y->x=y):∀{a b:List Nat},(∀x∈a,S x)->(∀x∈b,S x)->a.map φ=b.map φ->a=b:=by
 intro G
 induction G with
 |nil=>
  intro H Z Z h;rcases H with _|⟨y,b⟩
  ·exact rfl
  ·injection h
 |cons x a P=>
  intro H L O h;rcases H with _|⟨y,b⟩
  ·injection h
  ·simp only[bI,List.cons.injEq]at h;exact ab (hi x y (L x aH) (O y aH) h.1) (ab (P (λz M=>L z (ax _ M)) (λz M=>O z (ax _ M)) h.2) rfl)
theorem Gh(A:∀x y,S x->S y->sub' (φ x) (φ y)=sub x y){c:Nat}(V:S c):∀{a B:List Nat} {d r m:Nat},(∀x∈a,S x)->mw sub' (φ c) (a.map φ) B d r m=mw sub c a B d r m:=by
 intro G
 induction G with
 |nil=>
  intro B d r m Z;rfl
 |cons x a P=>
  intro H d r m L;rcases H with _|⟨y,B⟩
  ·rfl
  ·simp only[bI,(id CJ),A c x V (L x aH),P (λz M=>L z (ax _ M))]
theorem GN(A:∀x y,S x->S y->sub' (φ x) (φ y)=sub x y){a:List Nat}(L:∀x∈a,S x):∀{b:List Nat} {i:Nat} {B:List Nat} {r:Nat},(∀x∈b,S x)->oV sub' (a.map φ) (b.map φ) i B r=oV sub a b i B r:=by
 intro G
 induction G with
 |nil=>
  intro i B r Z;exact rfl
 |cons c b P=>
  intro i B r O;simp only[bI,(id KV),Gh A (O c aH) L];exact congrArg _ (P λz M=>O z (ax _ M))
theorem Af(G:∀x y,S x->S y->sub' (φ x) (φ y)=sub x y){a b:List Nat}(L:∀x∈a,S x)(O:∀x∈b,S x):uQ sub' (a.map φ) (b.map φ)=uQ sub a b:=by delta uQ;exact ab (aY ..) (ab (aY ..) (ab (GN G L O) rfl))
theorem Ks(hi:∀x y,S x->S y->φ x=φ y->x=y)(G:∀x y,S x->S y->sub' (φ x) (φ y)=sub x y){a b:List Nat}(L:∀x∈a,S x)(O:∀x∈b,S x):yN sub' (a.map φ) (b.map φ)=yN sub a b:=by
 delta yN;by_cases h:a=b
 ·exact ab (if_pos h) (ab (if_pos (congrArg _ h)) rfl)
 refine ab (if_neg h) (ab (if_neg λe=>h (OJ hi L O e)) (ab (Bb hi L O) (cA zF (cA zF ?_))));have J:∀x∈a.drop (jR a b),S x:=λx Z=>L x (gu Z);have F:∀x∈b.drop (jR a b),S x:=λx Z=>O x (gu Z);generalize a.drop (jR a b)=a1 at*;generalize b.drop (jR a b)=b1 at*;delta Td;refine cA uA (cA uA (ab (Bb hi (a:=a1.reverse) (b:=b1.reverse) (λx Z=>J x (uB.mp Z)) (λx Z=>F x (uB.mp Z))) (ab (aY ..) (ab (aY ..) (cA nz (cA nz ?_))))));have i:∀x∈a1.take (a1.length-jR a1.reverse b1.reverse),S x:=λx Z=>J x (iX Z);have j:∀x∈b1.take (b1.length-jR a1.reverse b1.reverse),S x:=λx Z=>F x (iX Z);generalize a1.take (a1.length-jR a1.reverse b1.reverse)=a2 at*;generalize b1.take (b1.length-jR a1.reverse b1.reverse)=b2 at*;delta Te;have e1:(a2.map φ).isEmpty=a2.isEmpty:=by rcases a2 with⟨⟩<;>rfl
 have e2:(b2.map φ).isEmpty=b2.isEmpty:=by rcases b2 with⟨⟩<;>rfl
 exact ab e1 (ab e2 (ab (aY ..) (ab (aY ..) (ab (Af G i j) (ab (Af G j i) rfl)))))
end
set_option genInjectivity false in
structure iy where
 L:Nat
 x:Nat
 t:Nat
noncomputable def iy.mark(P:iy):List Nat:=match P.t with
 |0=> [P.L]
 |1=> [P.x]
 |2=> [P.x]
 |_=> [P.L,P.x]
noncomputable def iy.str(P:iy)(b:Bool):List Nat:=if b then P.mark else[P.L]
noncomputable def iy.pZ(P:iy):Nat:=match P.t with
 |0=>0
 |1=>1
 |_=>2
noncomputable def yi(t:Nat)(u v:Bool):Nat:=match t with
 |0=>0
 |1=>bif u then(bif v then 0 else 3)else(bif v then 2 else 0)
 |2=>bif u then(bif v then 0 else 5)else(bif v then 4 else 0)
 |_=>bif u then(bif v then 1 else 7)else(bif v then 6 else 0)
noncomputable def iy.cfg(P:iy)(u v:Bool):Nat:=yi P.t u v
noncomputable def iy.c0(P:iy)(u v:Bool):Nat:=if(P.t=1\/P.t=2)/\u=true/\v=true then P.x else P.L
noncomputable def iy.code(P:iy)(u v:Bool)(r:Nat):Nat:=if r=0 then P.c0 u v else P.x
structure sg (P Q:iy):Prop where
 LL:fC P.L Q.L=2
 Lx:fC P.L Q.x=2
 xL:fC P.x Q.L=2
 xx:fC P.x Q.x=2
structure iy.Ok (P:iy):Prop where
 t:P.t<4
 s:P.t≠0->fC P.L P.x=(if P.t=1 then 1 else 2)/\fC P.x P.L=(if P.t=1 then 1 else 2)
theorem xC(c:Nat):fC c c=0:=by simp[fC]
theorem iy.IZ(P:iy)(u v:Bool):P.cfg u v<8:=by show yi P.t u v<8;generalize P.t=t;rcases t with _|_|_|t<;>rcases u with _|_<;>rcases v with _|_<;>exact dT rfl
theorem iy.pr(P:iy)(m:P.t<4)(u v:Bool):UA (P.cfg u v)=if u !=v then P.pZ else 0:=by obtain⟨L,x,t⟩:=P;refine Tj (M:=λt=>∀u v,UA (iy.cfg ⟨L,x,t⟩ u v)=if u !=v then iy.pZ ⟨L,x,t⟩else 0) m ?_ ?_ ?_ ?_ u v<;>(intro u v;cases u<;>cases v<;>rfl)
noncomputable def vW(c r:Nat):Bool:=r==0||(r==1&&(ME 2 c&&ME c 5))||(r==2&&(c==1||c==6||c==7))
def xJ(c r:Nat):Prop:=vW c r=true
section
variable{P:Nat->iy}{u v:Nat->Bool}
noncomputable def C0(P:Nat->iy)(u v:Nat->Bool)(x:Nat):Nat:=(P (x/3)).code (u (x/3)) (v (x/3)) (x% 3)
noncomputable def cf(P:Nat->iy)(u v:Nat->Bool)(p:Nat):Nat:=(P p).cfg (u p) (v p)
def qS(P:Nat->iy)(u v:Nat->Bool)(x:Nat):Prop:=x/3<4/\xJ (cf P u v (x/3)) (x% 3)
theorem DZ(Q:iy)(a b:Bool)(r:Nat):Q.code a b r=Q.L\/Q.code a b r=Q.x:=by
 unfold iy.code iy.c0;by_cases h:r=0
 ·refine ab (if_pos h) ?_;split
  ·exact .inr rfl
  ·exact .inl rfl
 ·exact ab (if_neg h)<|.inr rfl
noncomputable def wT(t:Nat)(u v:Bool)(r:Nat):Bool:= !(r==0)||((t==1||t==2)&&(u&&v))
theorem yp(Q:iy)(a b:Bool)(r:Nat):Q.code a b r=bif wT Q.t a b r then Q.x else Q.L:=by
 unfold iy.code iy.c0 wT;rcases h:r==0 with _|_
 ·refine ab (if_neg (not_eq_of_beq_eq_false h)) ?_;rfl
 ·refine ab (if_pos (by simpa using h)) ?_;rcases a with⟨⟩<;>rcases b with⟨⟩<;>simp
noncomputable def YH(t:Nat)(u v:Bool)(r s:Nat):Bool:= !(vW (yi t u v) r&&(vW (yi t u v) s&& !(r==s)))||((wT t u v r !=wT t u v s)&&(!(t==0)&&((!(r==2)&&(!(s==2)&&Uv (yi t u v)))==(t==1))))
theorem OQ:((aG 4).all λt=> [false,true].all λu=> [false,true].all λv=>(aG 3).all λr=>(aG 3).all λs=>YH t u v r s)=true:=by decide+kernel
theorem lE(u:Bool):u∈ [false,true]:=by rcases u with⟨⟩<;>decide
theorem Bv{c r:Nat}(h:vW c r=true):r<3:=by
 rcases r with _|_|_|r
 ·decide
 ·decide
 ·decide
 ·exact(aB h).elim
theorem C1(Q:iy)(N:Q.Ok)(a b:Bool){r s:Nat}(G:xJ (Q.cfg a b) r)(A:xJ (Q.cfg a b) s)(L:r≠s):fC (Q.code a b r) (Q.code a b s)=if r≠2/\s≠2/\Uv (Q.cfg a b)=true then 1 else 2:=by
 have J:=aq.mp (aq.mp (aq.mp (aq.mp (aq.mp OQ Q.t (aT.mpr N.t)) a (lE a)) b (lE b)) r (aT.mpr (Bv G))) s (aT.mpr (Bv A));have G:vW (yi Q.t a b) r=true:=G;have A:vW (yi Q.t a b) s=true:=A;dsimp only[YH]at J;simp only[G,A,beq_false_of_ne L]at J;have S:=ba J;have Y:Q.t≠0:=by simpa using(ba S.2).1
 refine aN (N.s Y) λf j=>?_;have O:(if r≠2/\s≠2/\Uv (Q.cfg a b)=true then 1 else 2)=(if Q.t=1 then 1 else 2):=by
  have X:(r≠2/\s≠2/\Uv (Q.cfg a b)=true)↔Q.t=1:=by rewrite[<-beq_iff_eq (a:=Q.t)];refine cA (eq_of_beq (ba S.2).2) ?_;simp[iy.cfg]
  simp only[X]
 simp only[O,yp,yp];cases hw:wT Q.t a b r<;>cases hv:wT Q.t a b s
 ·rw[hw,hv]at S;cases S.1
 ·exact f
 ·exact j
 ·rw[hw,hv]at S;cases S.1
theorem Ez(m:∀p,p<4->(P p).Ok)(hA:∀p q,p<4->q<4->p≠q->sg (P p) (P q))(x y:Nat)(Z:qS P u v x)(F:qS P u v y):fC (C0 P u v x) (C0 P u v y)=zf (cf P u v) x y:=by
 by_cases C:x=y
 ·subst C;refine ab (xC ..) ?_;simp[zf]
 ·have O:(x==y)=false:=by simpa using C
  delta zf;refine ab O ?_;simp only[bx,if_false];by_cases B:x/3=y/3
  ·have G:x% 3≠y% 3:=by lia
   have:=C1 (P (x/3)) (m _ Z.1) (u (x/3)) (v (x/3)) Z.2 (B▸F.2) G;delta C0;refine cA B (ab this ?_);have J:(x/3==x/3)=true:=by simp
   refine ab J ?_;simp only[kW,au,bne_iff_ne,ne_eq,cf];by_cases hh:x% 3≠2/\y% 3≠2/\Uv ((P (x/3)).cfg (u (x/3)) (v (x/3)))=true
   ·refine ab (if_pos hh) (ab (if_pos ⟨⟨hh.1,hh.2.1⟩,hh.2.2⟩) ?_);rfl
   ·refine ab (if_neg hh) (ab (if_neg λq=>hh ⟨q.1.1,q.1.2,q.2⟩) ?_);rfl
  ·have J:(x/3==y/3)=false:=by simpa using B
   refine ab J ?_;simp only[mE,bx,if_false];have A:=hA _ _ Z.1 F.1 B;delta C0;refine ak (DZ (P (x/3)) (u (x/3)) (v (x/3)) (x% 3)) (λe1=>?_) λe1=>?_<;>refine ak (DZ (P (y/3)) (u (y/3)) (v (y/3)) (y% 3)) (λe2=>?_) λe2=>?_<;>refine ab e1 (ab e2 ?_)
   ·exact A.LL
   ·exact A.Lx
   ·exact A.xL
   ·exact A.xx
theorem OW(m:∀p,p<4->(P p).Ok)(hA:∀p q,p<4->q<4->p≠q->sg (P p) (P q))(x y:Nat)(Z:qS P u v x)(F:qS P u v y)(h:C0 P u v x=C0 P u v y):x=y:=by
 have:=Ez m hA x y Z F;rw[h,xC]at this;by_cases C:x=y
 ·exact C
 ·exfalso;have O:(x==y)=false:=beq_false_of_ne C;delta zf at this;rw[O]at this;simp only[bx,if_false]at this;split at this<;>injection this
theorem EC:((aG 8).all λc=>(KZ c++K0 c).all λr=>BY r 3&&vW c r)=true:=by decide+kernel
theorem mA{p c x:Nat}(B:p<4)(V:c<8)(h:x∈EA p c\/x∈EB p c){I:Prop}(N:x/3=p->xJ c (x% 3)->I):I:=by
 refine aN (?_:x/3=p/\xJ c (x% 3)) N;have S:∀r,r∈KZ c++K0 c->(3*p+r)/3=p/\xJ c ((3*p+r)% 3):=λr G=>by
  have J:=ba (aq.mp (aq.mp EC c (aT.mpr V)) r G);have U:r<3:=dT J.1;exact ab (show(3*p+r)/3=p by lia)<|ab (show(3*p+r)% 3=r by lia)<|⟨rfl,J.2⟩
 refine ak h (λh=>?_) λh=>?_
 ·exact aC (dZ.mp h) λr G e=>e▸S r (fo _ G)
 ·exact aC (dZ.mp h) λr G e=>e▸S r (kH _ G)
theorem TF(p r:Nat)(G:r<3):C0 P u v (3*p+r)=(P p).code (u p) (v p) r:=by delta C0;exact ab (show(3*p+r)/3=p by lia) (ab (show(3*p+r)% 3=r by lia) rfl)
noncomputable def T6(t:Nat)(b:Bool):List Bool:=bif b then(match t with
 |0=> [false]
 |1=> [true]
 |2=> [true]
 |_=> [false,true])else[false]
theorem LI(Q:iy)(N:Q.t<4)(b:Bool):Q.str b=(T6 Q.t b).map λw=>bif w then Q.x else Q.L:=by
 obtain⟨L,x,t⟩:=Q;rcases b with⟨⟩
 ·rfl
 ·rcases t with _|_|_|_|A
  ·rfl
  ·rfl
  ·rfl
  ·rfl
  ·exact absurd N (by lia)
theorem Bj:((aG 4).all λt=> [false,true].all λu=> [false,true].all λv=>((KZ (yi t u v)).map (wT t u v)==T6 t u)&&((K0 (yi t u v)).map (wT t u v)==T6 t v))=true:=by decide+kernel
theorem Pt{p:Nat}(Q:(P p).t<4):(EA p (cf P u v p)).map (C0 P u v)=(P p).str (u p)/\(EB p (cf P u v p)).map (C0 P u v)=(P p).str (v p):=by
 have S:∀l:List Nat,(∀r∈l,r<3)->(l.map (3*p+·)).map (C0 P u v)=(l.map (wT (P p).t (u p) (v p))).map λw=>bif w then(P p).x else(P p).L:=λl X=>by
  refine ab fi<|ab fi<|jn λr G=>?_;show C0 P u v (3*p+r)=_;refine ab (TF p r (X r G)) (ab (yp ..) ?_);rfl
 have U:∀r,r∈KZ (cf P u v p)++K0 (cf P u v p)->r<3:=λr G=>dT (ba (aq.mp (aq.mp EC (cf P u v p) (aT.mpr (iy.IZ _ _ _))) r G)).1;exact ab (LI _ Q ..)<|ab (LI _ Q ..)<|cA (eq_of_beq (ba (aq.mp (aq.mp (aq.mp Bj _ (aT.mpr Q)) _ (lE (u p))) _ (lE (v p)))).1)<|cA (eq_of_beq (ba (aq.mp (aq.mp (aq.mp Bj _ (aT.mpr Q)) _ (lE (u p))) _ (lE (v p)))).2)<|⟨S _ λr G=>U r (fo _ G),S _ λr G=>U r (kH _ G)⟩
noncomputable def km(P:Nat->iy)(u:Nat->Bool):List Nat:=(P 0).str (u 0)++((P 1).str (u 1)++((P 2).str (u 2)++(P 3).str (u 3)))
noncomputable def TG(P:Nat->iy)(u v:Nat->Bool)(p:Nat):Nat:=if u p !=v p then(P p).pZ else 0
theorem Gn(m:∀p,p<4->(P p).Ok)(hA:∀p q,p<4->q<4->p≠q->sg (P p) (P q)):yN fC (km P u) (km P v)=TG P u v 0+TG P u v 1+TG P u v 2+TG P u v 3:=by
 have V:∀p,cf P u v p<8:=λp=>iy.IZ _ _ _;have h:=aq.mp (aq.mp (aq.mp (aq.mp OF _ (aT.mpr (V 0))) _ (aT.mpr (V 1))) _ (aT.mpr (V 2))) _ (aT.mpr (V 3));dsimp only[QY]at h;rw[beq_iff_eq]at h;have A:∀x y,qS P u v x->qS P u v y->zf (Nv (cf P u v 0) (cf P u v 1) (cf P u v 2) (cf P u v 3)) x y=zf (cf P u v) x y:=by
  intro x y Z F;have:Nv (cf P u v 0) (cf P u v 1) (cf P u v 2) (cf P u v 3) (x/3)=cf P u v (x/3):=by
   have:=Z.1;generalize x/3=p at*;refine Tj this ?_ ?_ ?_ ?_
   ·rfl
   ·rfl
   ·rfl
   ·rfl
  delta zf;exact ab this rfl
 have C:∀x∈EA 0 (cf P u v 0)++(EA 1 (cf P u v 1)++(EA 2 (cf P u v 2)++EA 3 (cf P u v 3))),qS P u v x:=by
  intro x Z;simp only[dw]at Z;refine ak Z (λZ=>?_) λH=>ak H (λZ=>?_) λg=>ak g (λZ=>?_) λZ=>?_
  ·exact mA (by decide) (V 0) (.inl Z) λe q=>⟨by lia,ab e<|q⟩
  ·exact mA (by decide) (V 1) (.inl Z) λe q=>⟨by lia,ab e<|q⟩
  ·exact mA (by decide) (V 2) (.inl Z) λe q=>⟨by lia,ab e<|q⟩
  ·exact mA (by decide) (V 3) (.inl Z) λe q=>⟨by lia,ab e<|q⟩
 have I:∀x∈EB 0 (cf P u v 0)++(EB 1 (cf P u v 1)++(EB 2 (cf P u v 2)++EB 3 (cf P u v 3))),qS P u v x:=by
  intro x Z;simp only[dw]at Z;refine ak Z (λZ=>?_) λH=>ak H (λZ=>?_) λg=>ak g (λZ=>?_) λZ=>?_
  ·exact mA (by decide) (V 0) (.inr Z) λe q=>⟨by lia,ab e<|q⟩
  ·exact mA (by decide) (V 1) (.inr Z) λe q=>⟨by lia,ab e<|q⟩
  ·exact mA (by decide) (V 2) (.inr Z) λe q=>⟨by lia,ab e<|q⟩
  ·exact mA (by decide) (V 3) (.inr Z) λe q=>⟨by lia,ab e<|q⟩
 have T:=Ks (φ:=C0 P u v) (sub:=zf (Nv (cf P u v 0) (cf P u v 1) (cf P u v 2) (cf P u v 3))) (sub':=fC) (S:=qS P u v) (OW m hA) (λx y Z F=>ab (A x y Z F)<|Ez m hA x y Z F) C I;simp only[h]at T;have s:=λp (B:p<4)=>Pt (P:=P) (u:=u) (v:=v) (p:=p) (m p B).t;have e1:km P u=(EA 0 (cf P u v 0)++(EA 1 (cf P u v 1)++(EA 2 (cf P u v 2)++EA 3 (cf P u v 3)))).map (C0 P u v):=by simp only[km,ed,(s 0 (by decide)).1,(s 1 (by decide)).1,(s 2 (by decide)).1,(s 3 (by decide)).1]
 have e2:km P v=(EB 0 (cf P u v 0)++(EB 1 (cf P u v 1)++(EB 2 (cf P u v 2)++EB 3 (cf P u v 3)))).map (C0 P u v):=by simp only[km,ed,(s 0 (by decide)).2,(s 1 (by decide)).2,(s 2 (by decide)).2,(s 3 (by decide)).2]
 simp only[e1,e2,T];have D:=λp (B:p<4)=>iy.pr (P p) (m p B).t (u p) (v p);simp only[TG,cf,D 0 (by decide),D 1 (by decide),D 2 (by decide),D 3 (by decide)]
end
theorem Pb{k:Nat}{args:List AV}:(BK (k+1)).O 18 args=iR (BK k) Yr args:=rfl
noncomputable def cE(f:Nat->AV):List AV:= [f 0,f 1,f 2,f 3,f 4]
section
variable{O M:Nat->Nat}{mk lt:Nat->List Nat}
noncomputable def pc(O M:Nat->Nat)(mk lt:Nat->List Nat)(s p:Nat):List Nat:=if O p<=O s/\O s<=M p then mk p else lt p
noncomputable def YA:List CS:= [.aug 6 .Add (.N (.C .LtE .LtE (.sub (.a 0) (.a 7)) (.a 5) (.sub (.a 1) (.a 7))) (.sub (.a 2) (.a 7)) (.sub (.a 3) (.a 7)))]
noncomputable def BM(O M:Nat->Nat)(mk lt:Nat->List Nat)(st nm G:AV):Loc:= [.lst (cE λi=>nI (O i)),.lst (cE λi=>nI (M i)),.lst (cE λi=>.str (mk i)),.lst (cE λi=>.str (lt i)),.ref 0,st,nm,G]
theorem zl(k:Nat){s p:Nat}{x:List Nat}{st:St}(A:p<5)(T:(mk p).length<=5)(X:(lt p).length<=5)(Z:x.length<=30):
 dh (BK k) YA (BM O M mk lt (nI (O s)) (.str x) (nI p)) st=some (.next,BM O M mk lt (nI (O s)) (.str (x++pc O M mk lt s p)) (nI p),st):=by
 have g:∀(f:Nat->AV),gF st (.lst (cE f)) (nI p)=some (f p):=by
  refineλf=>MO A ?_ ?_ ?_ ?_ ?_
  ·rfl
  ·rfl
  ·rfl
  ·rfl
  ·rfl
 have le:∀(a b:Nat),fk st .LtE (nI a) (nI b)=some (decide (a<=b)):=λa b=>by
  simp only[nI,(id cb)];congr 1;exact decide_eq_decide.mpr eG
 have H:ev (BK k) st (.N (.C .LtE .LtE (.sub (.a 0) (.a 7)) (.a 5) (.sub (.a 1) (.a 7))) (.sub (.a 2) (.a 7)) (.sub (.a 3) (.a 7))) (BM O M mk lt (nI (O s)) (.str x) (nI p))=some (.str (pc O M mk lt s p)):=by
  delta pc;by_cases J:O p<=O s
  ·by_cases U:O s<=M p
   ·exact ab (if_pos ⟨J,U⟩)<|Jz (rf (r:=true) (dB rfl rfl (g _)) rfl (ab (le ..) (ab (decide_eq_true J) rfl)) (dB rfl rfl (g _)) (ab (le ..) (ab (decide_eq_true U) rfl))) rfl (dB rfl rfl (g _))
   ·exact ab (if_neg λq=>U q.2)<|Cy (rf (r:=false) (dB rfl rfl (g _)) rfl (ab (le ..) (ab (decide_eq_true J) rfl)) (dB rfl rfl (g _)) (ab (le ..) (ab (decide_eq_false U) rfl))) rfl (dB rfl rfl (g _))
  ·exact ab (if_neg λq=>J q.1)<|Cy (uZ (dB rfl rfl (g _)) rfl (ab (le ..) (ab (decide_eq_false J) rfl))) rfl (dB rfl rfl (g _))
 have B:(pc O M mk lt s p).length<=5:=by
  delta pc;split
  ·exact T
  ·exact X
 refine aO (fW (x:=.str x) (v:=.str (pc O M mk lt s p)) (y:=.str (x++pc O M mk lt s p)) rfl H rfl ?_ rfl) rfl;have:x.length+(pc O M mk lt s p).length<=cB:=by simp[cB];lia
 exact if_pos this
noncomputable def pR(O M:Nat->Nat)(mk lt:Nat->List Nat)(s:Nat):List Nat:=pc O M mk lt s 1++(pc O M mk lt s 2++(pc O M mk lt s 3++pc O M mk lt s 4))
theorem ry(k:Nat){s:Nat}{st0 nm G:AV}{l:List AV}(T:∀p,p<5->(mk p).length<=5)(X:∀p,p<5->(lt p).length<=5)(g:l.length<=10):
 dh (BK k) [.cI (.bX 6) (.l []),.m (.bX 7) (.j [(.d 1),(.d 5)]) YA,.app 4 (.a 6)] (BM O M mk lt (nI (O s)) nm G) [some l]=some (.next,BM O M mk lt (nI (O s)) (.str (pR O M mk lt s)) (nI 4),[some (l++ [.str (pR O M mk lt s)])]):=by
 have B:∀p,p<5->(pc O M mk lt s p).length<=5:=λp h=>by
  delta pc;split
  ·exact T p h
  ·exact X p h
 have J:=B 1 (by decide);have U:=B 2 (by decide);have S:=B 3 (by decide);refine aO (gw (v:=.str []) (loc':=BM O M mk lt (nI (O s)) (.str []) G) rfl rfl) ?_;refine aO (gT (a:=.lst [nI 1,nI 2,nI 3,nI 4]) (l:= [nI 1,nI 2,nI 3,nI 4]) rfl rfl (bf (loc1:=BM O M mk lt (nI (O s)) (.str []) (nI 1)) rfl (zl k (by decide) (T 1 (by decide)) (X 1 (by decide)) (cj.mp rfl))
  (bf (loc1:=BM O M mk lt (nI (O s)) (.str ([]++pc O M mk lt s 1)) (nI 2)) rfl (zl k (by decide) (T 2 (by decide)) (X 2 (by decide)) (by simp;lia))
  (bf (loc1:=BM O M mk lt (nI (O s)) (.str ([]++pc O M mk lt s 1++pc O M mk lt s 2)) (nI 3)) rfl (zl k (by decide) (T 3 (by decide)) (X 3 (by decide)) (by simp;lia))
  (bf (loc1:=BM O M mk lt (nI (O s)) (.str ([]++pc O M mk lt s 1++pc O M mk lt s 2++pc O M mk lt s 3)) (nI 4)) rfl (zl k (by decide) (T 4 (by decide)) (X 4 (by decide)) (by simp;lia)) fX))))) ?_
 have e: []++pc O M mk lt s 1++pc O M mk lt s 2++pc O M mk lt s 3++pc O M mk lt s 4=pR O M mk lt s:=by simp[pR]
 exact ab e<|aO (jK (n:=0) (l:=l) (v:=.str (pR O M mk lt s)) rfl rfl rfl (by simp[cB];lia)) rfl
theorem OK(k:Nat)(T:∀p,p<5->(mk p).length<=5)(X:∀p,p<5->(lt p).length<=5):
 (BK (k+1)).O 18 [.lst (cE λi=>nI (O i)),.lst (cE λi=>nI (M i)),.lst (cE λi=>.str (mk i)),.lst (cE λi=>.str (lt i))]=some (.lst (cE λs=>.str (pR O M mk lt s))):=by
 simp only[Pb];refine eC.run rfl<|.next (iO (l:= []) (loc':=BM O M mk lt .c .c .c) rfl rfl rfl) ?_;refine .sx (a:=.lst (cE λi=>nI (O i))) (L:=cE λi=>nI (O i)) rfl rfl (bf (loc1:=BM O M mk lt (nI (O 0)) .c .c) rfl (ry k (st0:=.c) T X (cj.mp rfl))
  (bf (loc1:=BM O M mk lt (nI (O 1)) (.str (pR O M mk lt 0)) (nI 4)) rfl (ry k (st0:=.c) T X (by simp)) (bf (loc1:=BM O M mk lt (nI (O 2)) (.str (pR O M mk lt 1)) (nI 4)) rfl (ry k (st0:=.c) T X (by simp))
  (bf (loc1:=BM O M mk lt (nI (O 3)) (.str (pR O M mk lt 2)) (nI 4)) rfl (ry k (st0:=.c) T X (by simp)) (bf (loc1:=BM O M mk lt (nI (O 4)) (.str (pR O M mk lt 3)) (nI 4)) rfl (ry k (st0:=.c) T X (by simp)) fX))))) ?_
 exact .next (ji (n:=0) (l:=cE λs=>.str (pR O M mk lt s)) (l':=cE λs=>.str (pR O M mk lt s)) (st':= [none]) (loc':= [.lst (cE λi=>nI (O i)),.lst (cE λi=>nI (M i)),.lst (cE λi=>.str (mk i)),.lst (cE λi=>.str (lt i)),.lst (cE λs=>.str (pR O M mk lt s)),nI (O 4),.str (pR O M mk lt 4),nI 4]) rfl rfl rfl rfl)<|.ret rfl rfl
end
theorem Pc{k:Nat}{args:List AV}:(BK (k+1)).O 19 args=iR (BK k) Sl args:=rfl
noncomputable def Rc:List AV:= [.ref 0,.ref 1,.ref 2,.ref 3,.ref 4]
noncomputable def LG(r:Nat->List AV):St:= [some (r 0),some (r 1),some (r 2),some (r 3),some (r 4),some Rc]
noncomputable def sE(nm:Nat->List Nat)(n2 x y:AV):Loc:= [.lst (cE λi=>.str (nm i)),.ref 5,n2,x,y]
noncomputable def Y0:List CS:= [.K (.sub (.a 1) (.a 3)) (.a 4) (.call 1 [(.sub (.a 0) (.a 3)),(.sub (.a 0) (.a 4)),(.d 8)]),
 .K (.sub (.a 1) (.a 4)) (.a 3) (.sub (.sub (.a 1) (.a 3)) (.a 4))]
theorem jd{st:St}{f:Nat->AV}:∀{p:Nat},p<5->gF st (.lst (cE f)) (nI p)=some (f p):=λ{p} B=>MO B rfl rfl rfl rfl rfl
theorem zc{r:Nat->List AV}:∀{p:Nat},p<5->((LG r)[p]?).join=some (r p):=λ{p} B=>MO B rfl rfl rfl rfl rfl
theorem EL{r:Nat->List AV}:∀{p:Nat},p<5->gF (LG r) (.ref 5) (nI p)=some (.ref p):=λ{p} B=>MO B rfl rfl rfl rfl rfl
theorem EM{r:Nat->List AV}{l:List AV}:∀{p:Nat},p<5->(LG r).set p (some l)=LG λi=>if i=p then l else r i:=λ{p} B=>MO B rfl rfl rfl rfl rfl
theorem Pu{st:St}{x i:Nat}{l:List AV}{v:AV}(h:jX st (.ref x)=some l)(hi:i<l.length)(V:l.length<=cB)(D:l[i]? =some v):gF st (.ref x) (nI i)=some v:=by have J:(i:Int)<l.length:=fh.mpr hi;simp only[nI,(id pb),show(st[x]?).join=some l from h,aj,af,ll,if_pos V,J,aX,and_self,if_true,bK,D]
theorem Ud(k:Nat){nm:Nat->List Nat}{r:Nat->List AV}{n2:AV}{x y w:Nat}(Z:x<5)(F:y<x)(G:∀i,i<5->(r i).length=5)(N:(BK k).O 1 [.str (nm x),.str (nm y),.int 8]=some (nI w)):
 dh (BK k) Y0 (sE nm n2 (nI x) (nI y)) (LG r)=some (.next,sE nm n2 (nI x) (nI y),LG λi=>if i=y then(r y).set x (nI w)else if i=x then(r x).set y (nI w)else r i):=by
 have A:y<5:=BZ F Z;have O:∀st,ev (BK k) st (.sub (.a 0) (.a 3)) (sE nm n2 (nI x) (nI y))=some (.str (nm x)):=λst=>dB rfl rfl (jd Z);have e1:∀st,ev (BK k) st (.sub (.a 0) (.a 4)) (sE nm n2 (nI x) (nI y))=some (.str (nm y)):=λst=>dB rfl rfl (jd A);have ex:∀r,ev (BK k) (LG r) (.sub (.a 1) (.a 3)) (sE nm n2 (nI x) (nI y))=some (.ref x):=λr=>dB rfl rfl (EL Z);have C:∀r,ev (BK k) (LG r) (.sub (.a 1) (.a 4)) (sE nm n2 (nI x) (nI y))=some (.ref y):=λr=>dB rfl rfl (EL A);have B:=G x Z;have D:=G y A;refine aO (qr (n:=x) (k:=y) (l:=r x) (v:=nI w) (eP (vs:= [.str (nm x),.str (nm y),.int 8]) (by simp only[af,(id jW),O,e1,aj,af,aJ];rfl) rfl N) (ex r) rfl (zc Z) ⟨by exact aX y,by lia,by refine ab B ?_;decide⟩) ?_;refine ab (bK ..) (ab (EM Z) ?_);have L:y≠x:=jb F;refine aO (qr (n:=y) (k:=x) (l:=r y) (v:=nI w) (dB (x:=.ref x) (y:=nI y) (ex _) rfl ?_) (C _) rfl (ab (zc A) (ab (if_neg L) rfl)) ⟨by exact aX x,by lia,by refine ab D ?_;decide⟩) ?_
 ·have X:((r x).set y (nI w)).length=5:=ab lK<|B;have U:jX (LG λi=>if i=x then(r x).set y (nI w)else r i) (.ref x)=some ((r x).set y (nI w)):=by
   show((LG _)[x]?).join=_;exact ab (zc Z) (ab (if_pos rfl) rfl)
  exact Pu U (et A (id (dN X))) (by refine ab X ?_;decide) (ab (fI (et A (id (dN B)))) rfl)
 ·refine ab (bK ..) (ab (EM A) ?_);rfl
theorem Ui(k:Nat){nm:Nat->List Nat}{W:Nat->Nat->Nat}(N:∀x y,y<x->x<5->(BK k).O 1 [.str (nm x),.str (nm y),.int 8]=some (nI (W x y))):
 (BK (k+1)).O 19 [.lst (cE λi=>.str (nm i))]=some (.lst (cE λx=>.lst (cE λy=>nI (if y<x then W x y else if x<y then W y x else 0)))):=by
 refine ab Pc<|eC.run rfl<|.next (loc':=sE nm .c .c .c) (st':=LG λz=>cE λz=>nI 0) rfl ?_;have T:=λ(r:Nat->List AV) (n2:AV) (x y:Nat) (Z:x<5) (F:y<x) (G:∀i,i<5->(r i).length=5)=>Ud k (nm:=nm) (r:=r) (n2:=n2) (w:=W x y) Z F G (N x y F Z);have X:∀(r:Nat->List AV) (x y w:Nat),(∀i,i<5->(r i).length=5)->x<5->y<5->∀i,i<5->((λi=>if i=y then(r y).set x (nI w)else if i=x then(r x).set y (nI w)else r i) i).length=5:=by
  intro r x y w h Z F i hi;simp only;split
  ·exact ab lK<|h y F
  ·split
   ·exact ab lK<|h x Z
   ·exact h i hi
 have J:∀i,i<5->((λz=>cE λz=>nI 0:Nat->List AV) i).length=5:=λz z=>rfl;have t1:=T _ .c 1 0 (by decide) (by decide) J;have A:=X _ 1 0 (W 1 0) J (by decide) (by decide);have t2:=T _ .c 2 0 (by decide) (by decide) A;have C:=X _ 2 0 (W 2 0) A (by decide) (by decide);have t3:=T _ .c 2 1 (by decide) (by decide) C;have g:=X _ 2 1 (W 2 1) C (by decide) (by decide);have Y:=T _ .c 3 0 (by decide) (by decide) g;have s:=X _ 3 0 (W 3 0) g (by decide) (by decide);have B:=T _ .c 3 1 (by decide) (by decide) s;have D:=X _ 3 1 (W 3 1) s (by decide) (by decide);have t6:=T _ .c 3 2 (by decide) (by decide) D;have E:=X _ 3 2 (W 3 2) D (by decide) (by decide);have t7:=T _ .c 4 0 (by decide) (by decide) E;have H:=X _ 4 0 (W 4 0) E (by decide) (by decide);have K:=T _ .c 4 1 (by decide) (by decide) H;have I:=X _ 4 1 (W 4 1) H (by decide) (by decide);have t9:=T _ .c 4 2 (by decide) (by decide) I;have M:=X _ 4 2 (W 4 2) I (by decide) (by decide);have X0:=T _ .c 4 3 (by decide) (by decide) M;refine .sx (a:=.lst [nI 0,nI 1,nI 2,nI 3,nI 4]) (L:= [nI 0,nI 1,nI 2,nI 3,nI 4]) rfl rfl
  (bf (loc1:=sE nm .c (nI 0) .c) (loc2:=sE nm .c (nI 0) .c) rfl (aO (gT (a:=.lst []) (l:= []) rfl rfl fX) rfl)
  (bf (loc1:=sE nm .c (nI 1) .c) (loc2:=sE nm .c (nI 1) (nI 0)) rfl (aO (gT (a:=.lst [nI 0]) (l:= [nI 0]) rfl rfl (bf (loc1:=sE nm .c (nI 1) (nI 0)) rfl t1 fX)) rfl)
  (bf (loc1:=sE nm .c (nI 2) (nI 0)) (loc2:=sE nm .c (nI 2) (nI 1)) rfl (aO (gT (a:=.lst [nI 0,nI 1]) (l:= [nI 0,nI 1]) rfl rfl (bf (loc1:=sE nm .c (nI 2) (nI 0)) rfl t2 (bf (loc1:=sE nm .c (nI 2) (nI 1)) rfl t3 fX))) rfl)
  (bf (loc1:=sE nm .c (nI 3) (nI 1)) (loc2:=sE nm .c (nI 3) (nI 2)) rfl (aO (gT (a:=.lst [nI 0,nI 1,nI 2]) (l:= [nI 0,nI 1,nI 2]) rfl rfl (bf (loc1:=sE nm .c (nI 3) (nI 0)) rfl Y (bf (loc1:=sE nm .c (nI 3) (nI 1)) rfl B (bf (loc1:=sE nm .c (nI 3) (nI 2)) rfl t6 fX)))) rfl)
  (bf (loc1:=sE nm .c (nI 4) (nI 2)) (loc2:=sE nm .c (nI 4) (nI 3)) rfl (aO (gT (a:=.lst [nI 0,nI 1,nI 2,nI 3]) (l:= [nI 0,nI 1,nI 2,nI 3]) rfl rfl (bf (loc1:=sE nm .c (nI 4) (nI 0)) rfl t7 (bf (loc1:=sE nm .c (nI 4) (nI 1)) rfl K (bf (loc1:=sE nm .c (nI 4) (nI 2)) rfl t9 (bf (loc1:=sE nm .c (nI 4) (nI 3)) rfl X0 fX))))) rfl)
    fX))))) ?_
 exact .next (ji (n:=5) (l:=Rc) (l':=cE λx=>.lst (cE λy=>nI (if y<x then W x y else if x<y then W y x else 0))) (st':= [none,none,none,none,none,none]) (loc':= [.lst (cE λi=>.str (nm i)),.lst (cE λx=>.lst (cE λy=>nI (if y<x then W x y else if x<y then W y x else 0))),.c,nI 4,nI 3]) rfl rfl rfl rfl)<|.ret rfl rfl
theorem Pe{k:Nat}{args:List AV}:(BK (k+1)).O 21 args=iR (BK k) Yt args:=rfl
theorem yE(v:Nat):∀l:List Nat,CH (nI v) (bq l)=some (decide (v∈l)):=by
 intro G
 induction G with
 |nil=>
  exact rfl
 |cons a l A=>
  have R:=A;simp only[bq,bI,(id VJ),nI,(id NJ)]at R⊢;simp only[aj,af,R,aJ];congr 1;by_cases h:v=a
  ·subst h;simp
  ·have:((a:Int)==(v:Int))=false:=by simp;exact Nat.ToInt.of_diseq rfl rfl λB=>h (id (dN B))
   refine ab this ?_;simp[h]
theorem eU{f:AV->Option (Option AV)}{a x:AV}{b:Bool}{l r:List AV}(h:f a=some (if b then some x else none))(U:gm f l=some r):gm f (a::l)=some ((if b then[x]else[])++r):=by
 rcases b with⟨⟩
 ·exact(ql.2 ..).trans (tZ h U)
 ·exact(ql.2 ..).trans (tZ h (tZ U rfl))
noncomputable def cond(A:Nat->List Nat)(u x v:Nat):Bool:=decide (v∈A u) !=decide (v∈A x)
noncomputable def mf(A:Nat->List Nat)(pr:Nat->Nat)(u x:Nat):Nat:=(if cond A u x 1 then pr 0 else 0)+((if cond A u x 2 then pr 1 else 0)+((if cond A u x 3 then pr 2 else 0)+(if cond A u x 4 then pr 3 else 0)))
noncomputable def qw(f:Nat->AV):List AV:= [f 0,f 1,f 2,f 3]
noncomputable def xd(D:AV)(w:Nat->Int)(pr:Nat->Nat)(A:Nat->List Nat)(u l5 x c:AV):Loc:= [D,.lst (cE λi=>.int (w i)),.lst (qw λi=>nI (pr i)),.lst (cE λi=>.lst (bq (A i))),u,l5,.c,.ref 1,x,c]
noncomputable def XI:CE:=.E (.z (.sub (.a 2) (.f .Sub (.a 6) (.d 1))) (.bX 6) (.j [(.d 1),(.d 5)]) (.cmp .NotEq (.cmp .In (.a 6) (.sub (.a 3) (.a 4))) (.cmp .In (.a 6) (.sub (.a 3) (.a 8)))))
section
variable{k:Nat}{D l5 c:AV}{w:Nat->Int}{pr:Nat->Nat}{A:Nat->List Nat}{st:St}
theorem NL{C:dC}{loc:Loc}{a:CE}{L:List AV}{n:Nat}(h:ev C st a loc=some (.lst L))(U:∃I,dM L=some I/\I.sum=(n:Int)):ev C st (.E a) loc=some (nI n):=by refine aC U λI e1 e2=>?_;show((ev C st a loc).bind λv=>(jX st v).bind λl=>(dM l).bind λI=>some (AV.int I.sum))=_;refine ab h ?_;show((dM L).bind _)=_;exact ab e1<|congrArg (λi=>some (AV.int i)) e2
theorem zh{c:Bool}{v n:Nat}{L:List AV}(h:∃I,dM L=some I/\I.sum=(n:Int)):∃I,dM ((if c then[nI v]else[])++L)=some I/\I.sum=(((if c then v else 0)+n:Nat):Int):=by
 refine aC h λI e1 e2=>?_;rcases c with _|_
 ·exact⟨I,e1,ab e2<|congrArg gQ (B8 n).symm⟩
 ·exact⟨v::I,by show((dM L).map _)=_;refine ab e1 ?_;rfl,by refine ab List.sum_cons (ab e2 ?_);rfl⟩
theorem WQ{u x:Nat}(N:u<5)(Z:x<5):ev (BK k) st XI (xd D w pr A (nI u) l5 (nI x) c)=some (nI (mf A pr u x)):=by
 have P:∀v:Nat,v=1\/v=2\/v=3\/v=4->(do
  let loc'<-cT (xd D w pr A (nI u) l5 (nI x) c) (.bX 6) (nI v)
  if<-cU st (<-ev (BK k) st (.cmp .NotEq (.cmp .In (.a 6) (.sub (.a 3) (.a 4))) (.cmp .In (.a 6) (.sub (.a 3) (.a 8)))) loc')then return some (<-ev (BK k) st (.sub (.a 2) (.f .Sub (.a 6) (.d 1))) loc')else return none:Option (Option AV))=some (if cond A u x v then some (nI (pr (v-1)))else none):=by
  intro v J;have O:cT (xd D w pr A (nI u) l5 (nI x) c) (.bX 6) (nI v)=some [D,.lst (cE λi=>.int (w i)),.lst (qw λi=>nI (pr i)),.lst (cE λi=>.lst (bq (A i))),nI u,l5,nI v,.ref 1,nI x,c]:=rfl;refine ab O ?_;generalize S: [D,.lst (cE λi=>.int (w i)),.lst (qw λi=>nI (pr i)),.lst (cE λi=>.lst (bq (A i))),nI u,l5,nI v,.ref 1,nI x,c]=loc;have E:ev (BK k) st (.sub (.a 3) (.a 4)) loc=some (.lst (bq (A u))):=by subst S;exact dB rfl rfl (jd N)
  have F:ev (BK k) st (.sub (.a 3) (.a 8)) loc=some (.lst (bq (A x))):=by subst S;exact dB rfl rfl (jd Z)
  have V:ev (BK k) st (.a 6) loc=some (nI v):=by subst S;rfl
  have i1:ev (BK k) st (.cmp .In (.a 6) (.sub (.a 3) (.a 4))) loc=some (.bool (decide (v∈A u))):=cc V E (by have:=yE v (A u);simp only[nI]at this;exact Option.mem_def.mp this)
  have o:ev (BK k) st (.cmp .In (.a 6) (.sub (.a 3) (.a 8))) loc=some (.bool (decide (v∈A x))):=cc V F (by have:=yE v (A x);simp only[nI]at this;simp only[(id cb),nI,this])
  have K:ev (BK k) st (.cmp .NotEq (.cmp .In (.a 6) (.sub (.a 3) (.a 4))) (.cmp .In (.a 6) (.sub (.a 3) (.a 8)))) loc=some (.bool (cond A u x v)):=cc i1 o (by simp only[(id cb),(id jJ),aK,cond];rfl);have G:ev (BK k) st (.sub (.a 2) (.f .Sub (.a 6) (.d 1))) loc=some (nI (pr (v-1))):=by
   subst S
   (refine ak J (λH=>?_) λg=>ak g (λT=>?_) λI=>ak I (λj=>?_) λW=>?_;subst H;rotate_left;subst T;rotate_left;subst j;rotate_left;subst W;rotate_right 3)<;>rfl
  simp only[aj,af,K,(id lY),G,aJ];cases cond A u x v<;>rfl
 have B:=rg (C:=BK k) (st:=st) (loc:=xd D w pr A (nI u) l5 (nI x) c) (e:=.sub (.a 2) (.f .Sub (.a 6) (.d 1))) (t:=.bX 6) (it:=.j [(.d 1),(.d 5)]) (c:=.cmp .NotEq (.cmp .In (.a 6) (.sub (.a 3) (.a 4))) (.cmp .In (.a 6) (.sub (.a 3) (.a 8)))) (v:=.lst [nI 1,nI 2,nI 3,nI 4]) (l:= [nI 1,nI 2,nI 3,nI 4])
  (r:=(if cond A u x 1 then[nI (pr 0)]else[])++((if cond A u x 2 then[nI (pr 1)]else[])++((if cond A u x 3 then[nI (pr 2)]else[])++((if cond A u x 4 then[nI (pr 3)]else[])++ [])))) rfl rfl
    (eU (P 1 (.inl rfl)) (eU (P 2 (.inr (.inl rfl))) (eU (P 3 (.inr (.inr (.inl rfl)))) (eU (l:= []) (r:= []) (P 4 (.inr (.inr (.inr rfl)))) rfl))))
 exact NL B (zh (zh (zh (zh ⟨[],rfl,rfl⟩))))
theorem yD{c:Bool}{a:Nat}(h:a<=2):(if c then a else 0)<=2:=by
 rcases c with _|_
 ·exact bz 2
 ·exact h
theorem Px(B:∀i,pr i<=2)(u x:Nat):mf A pr u x<=8:=iY (yD (B 0)) (iY (yD (B 1)) (iY (yD (B 2)) (yD (B 3))))
noncomputable def iS(A:Nat->List Nat)(w:Nat->Int)(pr:Nat->Nat)(x:Nat):Int:=0+w 0*mf A pr 0 x+w 1*mf A pr 1 x+w 2*mf A pr 2 x+w 3*mf A pr 3 x+w 4*mf A pr 4 x
theorem Ue{u x:Nat}{c:Int}{u0:AV}(N:u<5)(Z:x<5)(B:∀i,pr i<=2):dh (BK k) [.aug 9 .Add (.f .Mult (.sub (.a 1) (.a 4)) XI)] (xd D w pr A (nI u) l5 (nI x) (.int c)) st=some (.next,xd D w pr A (nI u) l5 (nI x) (.int (c+w u*mf A pr u x)),st):=by
 have G:=Px (A:=A) B u x;have J:binI .Mult (w u) (mf A pr u x:Nat)=some (w u*(mf A pr u x:Nat)):=by
  delta binI;simp only;rw[if_pos (.inr (.inl (by have:((mf A pr u x:Nat):Int).natAbs=mf A pr u x:=by rfl
                                                 rw[this];lia)))]
 refine aO (fW (x:=.int c) (v:=.int (w u*(mf A pr u x:Nat))) (y:=.int (c+w u*mf A pr u x)) rfl (eN (x:=.int (w u)) (y:=nI (mf A pr u x)) (dB rfl rfl (jd N)) (WQ N Z) ?_) rfl rfl rfl) rfl;simp only[nI,(id cw),J,aK]
noncomputable def Zf:List CS:= [.cI (.bX 9) (.d 0),
 .m (.bX 4) (.j [(.d 5)])
  [.aug 9 .Add (.f .Mult (.sub (.a 1) (.a 4)) XI)],
 .app 7 (.a 9)]
theorem OT{x:Nat}{u0 c0:AV}{l:List AV}(Z:x<5)(B:∀i,pr i<=2)(X:l.length<=10):dh (BK k) Zf (xd D w pr A u0 l5 (nI x) c0) [none,some l]=some (.next,xd D w pr A (nI 4) l5 (nI x) (.int (iS A w pr x)),[none,some (l++ [.int (iS A w pr x)])]):=by
 refine aO (gw (v:=.int 0) (loc':=xd D w pr A u0 l5 (nI x) (.int 0)) rfl rfl) ?_;have T:=λ(u:Nat) (c:Int) (N:u<5)=>Ue (k:=k) (D:=D) (l5:=l5) (w:=w) (pr:=pr) (A:=A) (st:= [none,some l]) (u:=u) (x:=x) (c:=c) (u0:=u0) N Z B;refine aO (gT (a:=.lst [nI 0,nI 1,nI 2,nI 3,nI 4]) (l:= [nI 0,nI 1,nI 2,nI 3,nI 4]) rfl rfl (bf (loc1:=xd D w pr A (nI 0) l5 (nI x) (.int 0)) rfl (T 0 _ (by decide)) (bf (loc1:=xd D w pr A (nI 1) l5 (nI x) _) rfl (T 1 _ (by decide)) (bf (loc1:=xd D w pr A (nI 2) l5 (nI x) _) rfl (T 2 _ (by decide))
  (bf (loc1:=xd D w pr A (nI 3) l5 (nI x) _) rfl (T 3 _ (by decide)) (bf (loc1:=xd D w pr A (nI 4) l5 (nI x) _) rfl (T 4 _ (by decide)) fX)))))) ?_
 exact aO (jK (n:=1) (l:=l) (v:=.int (iS A w pr x)) rfl rfl rfl (by simp[cB];lia)) rfl
def DH(D:AV)(A:Nat->List Nat):Prop:=∀(k:Nat) (W P:AV),∃u l5,∀(l:List CS) (v:AV),eC (BK k) l [D,W,P,.lst (cE λi=>.lst (bq (A i))),u,l5,.c,.c,.c,.c] [none] v->
 eC (BK k) (.new 3 (.list [(.list [])]):: .m (.bX 4) (.j [(.d 1),(.d 5)])
  [.cI (.bX 5) (.Cq (.z (.a 6) (.bX 6) (.j [(.a 4)]) (.cmp .Eq (.sub (.a 0) (.a 6)) (.f .Sub (.sub (.a 0) (.a 4)) (.d 1))))),
   .app 3 (.f .Add (.sub (.a 3) (.a 5)) (.list [(.a 4)]))]:: .q 3::l) [D,W,P,.c,.c,.c,.c,.c,.c,.c] [] v
theorem NC(hA:DH D A)(B:∀i,pr i<=2):(BK (k+1)).O 21 [D,.lst (cE λi=>.int (w i)),.lst (qw λi=>nI (pr i))]=some (.lst (cE λx=>.int (iS A w pr x))):=by
 refine ab Pe<|eC.run rfl<|ej (hA k (.lst (cE λi=>.int (w i))) (.lst (qw λi=>nI (pr i)))) λu l5 h=>h _ _<|.next (iO (l:= []) (loc':=xd D w pr A u l5 .c .c) rfl rfl rfl) ?_;have T:=λ(x:Nat) (u0 c0:AV) (l:List AV) (Z:x<5) (X:l.length<=10)=>OT (k:=k) (D:=D) (l5:=l5) (w:=w) (pr:=pr) (A:=A) (x:=x) (u0:=u0) (c0:=c0) (l:=l) Z B X;refine .sx (a:=.lst [nI 0,nI 1,nI 2,nI 3,nI 4]) (L:= [nI 0,nI 1,nI 2,nI 3,nI 4]) rfl rfl (bf (loc1:=xd D w pr A u l5 (nI 0) .c) rfl (T 0 _ _ _ (by decide) (cj.mp rfl)) (bf (loc1:=xd D w pr A (nI 4) l5 (nI 1) _) rfl (T 1 _ _ _ (by decide) (by simp)) (bf (loc1:=xd D w pr A (nI 4) l5 (nI 2) _) rfl (T 2 _ _ _ (by decide) (by simp))
  (bf (loc1:=xd D w pr A (nI 4) l5 (nI 3) _) rfl (T 3 _ _ _ (by decide) (by simp)) (bf (loc1:=xd D w pr A (nI 4) l5 (nI 4) _) rfl (T 4 _ _ _ (by decide) (by simp)) fX))))) ?_
 exact .next (ji (n:=1) (l:=cE λx=>.int (iS A w pr x)) (l':=cE λx=>.int (iS A w pr x)) (st':= [none,none]) (loc':= [D,.lst (cE λi=>.int (w i)),.lst (qw λi=>nI (pr i)),.lst (cE λi=>.lst (bq (A i))),nI 4,l5,.c,.lst (cE λx=>.int (iS A w pr x)),nI 4,.int (iS A w pr 4)]) rfl rfl rfl rfl)<|.ret rfl rfl
end
noncomputable def fU(a b d:Nat):Nat->List Nat
 |0=> []
 |1=> [1]
 |2=>if a=1 then[2]else[1,2]
 |3=>(if b=1 then[]else if b=2 then(if a=1 then[2]else[1])else[1,2])++ [3]
 |_=>(if d=1 then[]else if d=2 then(if b=1 then[3]else if a=1 then[2]else[1])else if d=3 then(if b=2 then(if a=1 then[2,3]else[1,3])else[1,2])else[1,2,3])++ [4]
noncomputable def wC(a b d:Nat):AV:=.lst [.int 0,.int 1,nI a,nI b,nI d]
def fq(a b d:Nat):Prop:=1<=a/\a<=2/\1<=b/\b<=a+1/\1<=d/\d<=b+1
theorem tB{Q:Nat->Nat->Nat->Prop}(h:Q 1 1 1/\Q 1 1 2/\Q 1 2 1/\Q 1 2 2/\Q 1 2 3/\Q 2 1 1/\Q 2 1 2/\Q 2 2 1/\Q 2 2 2/\Q 2 2 3/\Q 2 3 1/\Q 2 3 2/\Q 2 3 3/\Q 2 3 4){a b d:Nat}(G:fq a b d):Q a b d:=by
 refine ew λY=>QM G λJ U S N O X=>?_;clear G;obtain⟨P,F,t,L,Z,R,A,q8,M,B,C,D,E,K⟩:=h;refine Y ?_;clear Y;refine ak ((show a=1\/a=2 by lia)) (λH=>?_) λg=>?_;subst H;rotate_left;subst g;rotate_right
 ·refine ak ((show b=1\/b=2 by lia)) (λH=>?_) λg=>?_;subst H;rotate_left;subst g;rotate_right
  ·(refine ak ((show d=1\/d=2 by lia)) (λH=>?_) λg=>?_;refine ab H ?_;rotate_left;refine ab g ?_;rotate_right)<;>assumption
  ·(refine ak ((show d=1\/d=2\/d=3 by lia)) (λH=>?_) λg=>ak g (λT=>?_) λI=>?_;refine ab H ?_;rotate_left;refine ab T ?_;rotate_left;refine ab I ?_;rotate_right 2)<;>assumption
 ·refine ak ((show b=1\/b=2\/b=3 by lia)) (λH=>?_) λg=>ak g (λT=>?_) λI=>?_;subst H;rotate_left;subst T;rotate_left;subst I;rotate_right 2
  ·(refine ak ((show d=1\/d=2 by lia)) (λH=>?_) λg=>?_;refine ab H ?_;rotate_left;refine ab g ?_;rotate_right)<;>assumption
  ·(refine ak ((show d=1\/d=2\/d=3 by lia)) (λH=>?_) λg=>ak g (λT=>?_) λI=>?_;refine ab H ?_;rotate_left;refine ab T ?_;rotate_left;refine ab I ?_;rotate_right 2)<;>assumption
  ·(refine ak ((show d=1\/d=2\/d=3\/d=4 by lia)) (λH=>?_) λg=>ak g (λT=>?_) λI=>ak I (λj=>?_) λW=>?_;refine ab H ?_;rotate_left;refine ab T ?_;rotate_left;refine ab j ?_;rotate_left;refine ab W ?_;rotate_right 3)<;>assumption
noncomputable def Wq(a b d:Nat):Nat:=if d=1 then 0 else if d=2 then(if b=1 then 3 else if a=1 then 2 else 1)else if d=3 then(if b=2 then 3 else 2)else 3
noncomputable def XJ:CS:=.m (.bX 4) (.j [(.d 1),(.d 5)])
 [.cI (.bX 5) (.Cq (.z (.a 6) (.bX 6) (.j [(.a 4)]) (.cmp .Eq (.sub (.a 0) (.a 6)) (.f .Sub (.sub (.a 0) (.a 4)) (.d 1))))),
  .app 3 (.f .Add (.sub (.a 3) (.a 5)) (.list [(.a 4)]))]
def U0(a b d:Nat):Prop:=∀(k:Nat) (W P:AV),mY (BK k) XJ [wC a b d,W,P,.ref 0,.c,.c,.c,.c,.c,.c] [some [.lst []]]=
 some (.next,[wC a b d,W,P,.ref 0,nI 4,nI (Wq a b d),.c,.c,.c,.c],[some (cE λi=>.lst (bq (fU a b d i)))])
theorem Nc{a b d:Nat}(h:fq a b d):U0 a b d:=by refine tB ⟨?_,?_,?_,?_,?_,?_,?_,?_,?_,?_,?_,?_,?_,?_⟩ h<;>(intro k W P;kernel_rfl)
theorem AS:∀L:List (List Nat),dU (L.map λl=>.lst (bq l))=true:=by
 intro G
 induction G with
 |nil=>
  exact rfl
 |cons a r R=>
  simp[(id mz),(id qC),iH,R]
theorem Ic{a b d:Nat}(h:fq a b d):DH (wC a b d) (fU a b d):=λk W P=>⟨nI 4,nI (Wq a b d),λl v Y=>
 .next (iO (l:= [.lst []]) (loc':= [wC a b d,W,P,.ref 0,.c,.c,.c,.c,.c,.c]) rfl rfl rfl) (.next (Nc h k W P) (.next (ji (n:=0) (l:=cE λi=>.lst (bq (fU a b d i))) (l':=cE λi=>.lst (bq (fU a b d i))) (st':= [none]) rfl rfl
  (iD _ (AS [fU a b d 0,fU a b d 1,fU a b d 2,fU a b d 3,fU a b d 4])) rfl) Y))⟩
theorem Pf{k:Nat}{args:List AV}:(BK (k+1)).O 22 args=iR (BK k) Xn args:=rfl
theorem cN{f:AV->Option (Option AV)}{a x:AV}{l r:List AV}(h:f a=some (some x))(U:gm f l=some r):gm f (a::l)=some (x::r):=by exact(ql.2 ..).trans (tZ h (tZ U rfl))
theorem FX:∀(l m:List Int),l.length=m.length->Ap (l.map .int) (m.map .int)=some (decide (l=m)):=by
 intro G
 induction G with
 |nil=>
  intro H h;rcases H with _|⟨b,m⟩
  ·exact rfl
  ·injection h
 |cons a l P=>
  intro H h;rcases H with _|⟨b,m⟩
  ·injection h
  ·have R:=P m (iZ h);simp only[bI,(id QK),(id NJ),aj,af,R,aJ];congr 1;by_cases J:a=b
   ·subst J;simp
   ·simp[J]
theorem Jr(l m:List Int):D0 (l.map .int) (m.map .int)=some (decide (l=m)):=by
 delta D0;by_cases h:l.length=m.length
 ·exact ab (if_pos (by simpa using h)) (ab (FX l m h) rfl)
 ·exact ab (if_neg (by simpa using h)) (ab (decide_eq_false λe=>h (by exact ab e rfl)) rfl)
theorem D1{st:St}(l m:List Int):qp st (.lst (l.map .int)) (.lst (m.map .int))=some (decide (l=m)):=by show(do D0 (<-jX st (.lst (l.map .int))) (<-jX st (.lst (m.map .int))))=_;simp only[(id Nf),aj,af,Jr]
noncomputable def QS(c:Nat->Int):List Int:= [c 0,c 1,c 2,c 3,c 4]
noncomputable def lS(c:Nat->Int):Int:= [c 1,c 2,c 3,c 4].foldl (λm b=>if b<m then b else m) (c 0)
noncomputable def yd(c:Nat->Int):List Nat:=(if c 0==lS c then[0]else[])++((if c 1==lS c then[1]else[])++((if c 2==lS c then[2]else[])++((if c 3==lS c then[3]else[])++(if c 4==lS c then[4]else[]))))
noncomputable def Uj(w:Nat->Int)(D:Nat->Nat->Nat)(x:Nat):Int:=w 0*D x 0+(w 1*D x 1+(w 2*D x 2+(w 3*D x 3+(w 4*D x 4+0))))
section
variable{k:Nat}{w c:Nat->Int}{D:Nat->Nat->Nat}{T:List Nat}
noncomputable def vD(D:Nat->Nat->Nat)(w c:Nat->Int)(T:List Nat)(x u:AV):Loc:= [.lst (cE λx=>.lst (cE λy=>nI (D x y))),.lst (cE λi=>.int (w i)),.lst (cE λx=>.int (c x)),.lst (bq T),x,u]
noncomputable def Xr:CE:=.E (.comp (.f .Mult (.sub (.a 1) (.a 5)) (.sub (.sub (.a 0) (.a 4)) (.a 5))) (.bX 5) (.j [(.d 5)]))
theorem WR{x:Nat}{u:AV}(Z:x<5)(R:∀x y,D x y<=100):ev (BK k) [] Xr (vD D w c T (nI x) u)=some (.int (Uj w D x)):=by
 have P:∀i:Nat,i<5->(do return some (<-ev (BK k) [] (.f .Mult (.sub (.a 1) (.a 5)) (.sub (.sub (.a 0) (.a 4)) (.a 5))) (<-cT (vD D w c T (nI x) u) (.bX 5) (nI i))):Option (Option AV))=some (some (.int (w i*D x i))):=by
  intro i hi;have O:cT (vD D w c T (nI x) u) (.bX 5) (nI i)=some (vD D w c T (nI x) (nI i)):=rfl;rw[O];have I:ev (BK k) [] (.sub (.a 1) (.a 5)) (vD D w c T (nI x) (nI i))=some (.int (w i)):=dB rfl rfl (jd hi);have Q:ev (BK k) [] (.sub (.sub (.a 0) (.a 4)) (.a 5)) (vD D w c T (nI x) (nI i))=some (nI (D x i)):=dB (dB rfl rfl (jd Z)) rfl (jd hi);have J:binI .Mult (w i) (D x i:Nat)=some (w i*(D x i:Nat)):=by
   have:=R x i;delta binI;simp only;rw[if_pos (.inr (.inl (by have:((D x i:Nat):Int).natAbs=D x i:=by rfl
                                                              rw[this];lia)))]
  have K:ev (BK k) [] (.f .Mult (.sub (.a 1) (.a 5)) (.sub (.sub (.a 0) (.a 4)) (.a 5))) (vD D w c T (nI x) (nI i))=some (.int (w i*D x i)):=eN I Q (by simp only[nI,(id cw),J,aK]);simp only[aj,af,K,aJ]
 have B:=mr (C:=BK k) (st:= []) (loc:=vD D w c T (nI x) u) (t:=.bX 5) (it:=.j [(.d 5)]) (v:=.lst [nI 0,nI 1,nI 2,nI 3,nI 4]) (l:= [nI 0,nI 1,nI 2,nI 3,nI 4]) (r:= [.int (w 0*D x 0),.int (w 1*D x 1),.int (w 2*D x 2),.int (w 3*D x 3),.int (w 4*D x 4)]) rfl rfl
  (cN (P 0 (by decide)) (cN (P 1 (by decide)) (cN (P 2 (by decide)) (cN (P 3 (by decide)) (cN (l:= []) (r:= []) (P 4 (by decide)) rfl)))))
 have e:ev (BK k) [] Xr (vD D w c T (nI x) u)=(do return .int (<-dM (<-jX [] (<-ev (BK k) [] (.comp (.f .Mult (.sub (.a 1) (.a 5)) (.sub (.sub (.a 0) (.a 4)) (.a 5))) (.bX 5) (.j [(.d 5)])) (vD D w c T (nI x) u)))).sum):=rfl;rw[e,B];rfl
theorem Ih(R:∀x y,D x y<=100)(G:∀x,x<5->Uj w D x=c x):(BK (k+1)).O 22 [.lst (cE λx=>.lst (cE λy=>nI (D x y))),.lst (cE λi=>.int (w i)),.lst (cE λx=>.int (c x)),.lst (bq T)]=some (.bool (decide (yd c=T))):=by
 refine ab Pf<|eC.run rfl ?_;have S: [AV.lst (cE λx=>.lst (cE λy=>nI (D x y))),.lst (cE λi=>.int (w i)),.lst (cE λx=>.int (c x)),.lst (bq T)]++bw (Xn.y-Xn.p) .c=vD D w c T .c .c:=rfl;refine ab S ?_;have f:∀x,x<5->(do return some (<-ev (BK k) [] Xr (<-cT (vD D w c T .c .c) (.bX 4) (nI x))):Option (Option AV))=some (some (.int (c x))):=by intro x Z;have O:cT (vD D w c T .c .c) (.bX 4) (nI x)=some (vD D w c T (nI x) .c):=rfl;refine ab O ?_;simp only[aj,af,WR Z R,G x Z,aJ]
 have M:=mr (C:=BK k) (st:= []) (loc:=vD D w c T .c .c) (e:=Xr) (t:=.bX 4) (it:=.j [(.d 5)]) (v:=.lst [nI 0,nI 1,nI 2,nI 3,nI 4]) (l:= [nI 0,nI 1,nI 2,nI 3,nI 4]) (r:=(QS c).map .int) rfl rfl
  (cN (f 0 (by decide)) (cN (f 1 (by decide)) (cN (f 2 (by decide)) (cN (f 3 (by decide)) (cN (l:= []) (r:= []) (f 4 (by decide)) rfl)))))
 refine .jo (cc (r:=false) (y:=.lst ((QS c).map .int)) M rfl (by simp only[(id cb),D1,decide_true,aK,Bool.not_true])) ?_;have j:∀x,x<5->(do
  let loc'<-cT (vD D w c T .c .c) (.bX 4) (nI x)
  if<-cU [] (<-ev (BK k) [] (.cmp .Eq (.sub (.a 2) (.a 4)) (.R (.a 2))) loc')then return some (<-ev (BK k) [] (.a 4) loc')else return none:Option (Option AV))=some (if c x==lS c then some (nI x)else none):=by
  intro x Z;have O:cT (vD D w c T .c .c) (.bX 4) (nI x)=some (vD D w c T (nI x) .c):=rfl;refine ab O ?_;have I:ev (BK k) [] (.sub (.a 2) (.a 4)) (vD D w c T (nI x) .c)=some (.int (c x)):=dB rfl rfl (jd Z);have Q:ev (BK k) [] (.R (.a 2)) (vD D w c T (nI x) .c)=some (.int (lS c)):=rfl;have K:ev (BK k) [] (.cmp .Eq (.sub (.a 2) (.a 4)) (.R (.a 2))) (vD D w c T (nI x) .c)=some (.bool (c x==lS c)):=cc I Q rfl;have J:ev (BK k) [] (.a 4) (vD D w c T (nI x) .c)=some (nI x):=rfl;simp only[aj,af,K,(id lY),J,aJ];cases c x==lS c<;>rfl
 have H:=rg (C:=BK k) (st:= []) (loc:=vD D w c T .c .c) (e:=.a 4) (t:=.bX 4) (it:=.j [(.d 5)]) (c:=.cmp .Eq (.sub (.a 2) (.a 4)) (.R (.a 2))) (v:=.lst [nI 0,nI 1,nI 2,nI 3,nI 4]) (l:= [nI 0,nI 1,nI 2,nI 3,nI 4]) rfl rfl
  (eU (j 0 (by decide)) (eU (j 1 (by decide)) (eU (j 2 (by decide)) (eU (j 3 (by decide)) (eU (l:= []) (r:= []) (j 4 (by decide)) rfl)))))
 have q:(if c 0==lS c then[nI 0]else[])++((if c 1==lS c then[nI 1]else[])++((if c 2==lS c then[nI 2]else[])++((if c 3==lS c then[nI 3]else[])++((if c 4==lS c then[nI 4]else[])++ []))))=((yd c).map gQ).map .int:=by delta yd;cases c 0==lS c<;>cases c 1==lS c<;>cases c 2==lS c<;>cases c 3==lS c<;>cases c 4==lS c<;>rfl
 rw[q]at H;have F:bq T=(T.map gQ).map .int:=by simp[bq]
 refine .ret (cc (y:=.lst (bq T)) H rfl ?_) rfl;simp only[(id cb),F,D1];congr 1;refine decide_eq_decide.mpr ⟨λh=>?_,λh=>ab h rfl⟩;exact List.map_inj_right (λa b e=>Uo e)|>.mp h
theorem NZ(l:List Int):∀a:Int,l.foldl (λm x=>if x<m then x else m) a<=a/\(∀x∈l,l.foldl (λm x=>if x<m then x else m) a<=x)/\(l.foldl (λm x=>if x<m then x else m) a=a\/l.foldl (λm x=>if x<m then x else m) a∈l):=by
 have s:∀a b:Int,(if b<a then b else a)<=a/\(if b<a then b else a)<=b/\((if b<a then b else a)=a\/(if b<a then b else a)=b):=λa b=>by
  by_cases q:b<a
  ·exact ab (if_pos q)<|⟨aF q,g9 b,.inr rfl⟩
  ·exact ab (if_neg q)<|⟨g9 a,HQ.mp q,.inl rfl⟩
 induction l with
 |nil=>exactλa=>⟨g9 a,(λx h=>nomatch h),.inl rfl⟩
 |cons b l R=>
  refineλa=>eY (R (if b<a then b else a)) λJ U S=>eY (s a b) λi B C=>⟨gr J i,λx Z=>ak (aS.mp Z) (λe=>ab e<|gr J B) (U x),?_⟩;exact S.elim (λe=>C.elim (λq=>.inl (e.trans q)) λq=>.inr (aS.mpr (.inl (e.trans q)))) λh=>.inr (ax _ h)
theorem Gz(c:Nat->Int):(∀x,x<5->lS c<=c x)/\∃x,x<5/\lS c=c x:=by
 refine eY (NZ [c 1,c 2,c 3,c 4] (c 0)) λJ U S=>⟨λx Z=>?_,?_⟩
 ·rcases x with _|_|_|_|_|x
  ·exact J
  ·exact U _ (.head _)
  ·exact U _ (.tail _ (.head _))
  ·exact U _ (.tail _ (.tail _ (.head _)))
  ·exact U _ (.tail _ (.tail _ (.tail _ (.head _))))
  ·exact absurd Z (i5.mpr (Qd 5 x))
 ·exact S.elim (λe=>⟨0,by decide,e⟩) λh=>(aS.mp h).elim (λe=>⟨1,by decide,e⟩) λh=>(aS.mp h).elim (λe=>⟨2,by decide,e⟩) λh=>(aS.mp h).elim (λe=>⟨3,by decide,e⟩) λh=>⟨4,by decide,bS.mp h⟩
end
theorem O3{k:Nat}{args:List AV}:(BK (k+1)).O 11 args=iR (BK k) QQ args:=rfl
theorem O5{k:Nat}{args:List AV}:(BK (k+1)).O 12 args=iR (BK k) ML args:=rfl
noncomputable def xa(ch:Nat):List Nat:=match RO (ch:Int)with
 |some x=>x
 |none=>gE [ch]
noncomputable def n9(m:List Nat):List Nat:=m.flatMap λ(ch:Nat)=>if DR.contains (ch:Int)then[]else xa ch
noncomputable def nf(c:Nat):Nat:=if c==70||c==72||c==83||c==84 then c+32 else c
def Lw(c:Nat):Prop:=gE [c]= [nf c]
noncomputable def signs(p:Nat):List Nat:= [dY iK p,dY iK p-32,dY Em p,dY HC p,dY ic p,dY ic (4+p),dY ic (8+p),dY ic (12+p)]++(aG 10).map λi=>dY lO i+dY iK p-97
noncomputable def yC:List Nat:=(aG 27).map (dY lP)
theorem Gw:((aG 4).all λp=>(signs p).all λc=>gE [c]== [nf c])=true:=by decide+kernel
theorem Ky:(yC.all λc=>gE [c]== [nf c])=true:=by decide+kernel
theorem zS:((aG 4).all λp=>(aG 4).all λq=>p==q||((signs p).all λx=>(signs q).all λy=>nf x !=nf y))=true:=by decide+kernel
theorem Ce:((aG 4).all λp=>(signs p).all λx=>yC.all λy=>nf x !=nf y)=true:=by decide+kernel
theorem CX:((aG 27).all λi=>(aG 27).all λj=>i==j||nf (dY lP i) !=nf (dY lP j))=true:=by decide+kernel
theorem A9:((aG 4).all λp=>(signs p++yC).all λc=>c !=92&&c !=34&&c !=40&&c !=41)=true:=by decide+kernel
theorem CB:((aG 4).all λp=>n9 [dY iK p-32]== [dY iK p]&&n9 [dY Em p]== [dY iK p,dY HC p]&&(yC.all λh=>n9 [dY iK p,h]== [dY iK p])&&((aG 10).all λi=>n9 [dY lO i+dY iK p-97]== [dY iK p])&&
 ((aG 4).all λj=>n9 [dY iK p,dY ic (4*j+p)]== [dY iK p,dY ic (4*j+p)]))=true:=by decide+kernel
theorem WU(k:Nat)(c:Nat):(BK (k+1)).O 11 [.str [c]]=some (.bool (DR.contains (c:Int))):=by simp only[O3];exact eC.run rfl (.ret rfl rfl)
theorem Wc(k:Nat){c:Nat}(h:gX c):(BK (k+1)).O 12 [.str [c]]=some (.str (xa c)):=by
 simp only[O5];refine eC.run rfl ?_;have e:∀st loc,ev (BK k) st (.xb (.Ad (.a 0))) (.str [c]::loc)=some (match RO (c:Int)with|some x=>.str x|none=>.none):=λst loc=>rfl;delta xa;rcases hb:RO (c:Int)with _|x
 ·refine .cI (x:=.none) (loc':= [.str [c],.none]) (ab (show[AV.str [c]]++bw (ML.y-ML.p) AV.c=.str [c]:: [.c]from rfl) (bp (e ..) (ab hb rfl))) rfl<|.jo rfl ?_;have h:(gE [c]).length<=cB:=h;exact .ret (by simp[(id fD),h]) rfl
 ·exact .cI (x:=.str x) (loc':= [.str [c],.str x]) (ab (show[AV.str [c]]++bw (ML.y-ML.p) AV.c=.str [c]:: [.c]from rfl) (bp (e ..) (ab hb rfl))) rfl<|.oq rfl<|.ret rfl rfl
noncomputable def JN:CE:=.join (.z (.call 12 [(.a 15)]) (.bX 15) (.a 7) (.B (.call 11 [(.a 15)])))
noncomputable def Eb(m:List Nat):List (List Nat):=m.flatMap λ(c:Nat)=>if DR.contains (c:Int)then[]else[xa c]
theorem CA(m:List Nat):(Eb m).flatten=n9 m:=by
 induction m with
 |nil=>rfl
 |cons c m R=>
  simp only[Eb,n9,tK,List.flatten_append]at R⊢;refine ab R ?_;cases DR.contains (c:Int)<;>simp
theorem NY{k:Nat}{st:St}{loc:Loc}{m:List Nat}(X:15<loc.length)(V:loc[7]? =some (.str m))(T:m.length<=5)(A:∀c∈m,gX c)(P:(n9 m).length<=cB):ev (BK (k+1)) st JN loc=some (.str (n9 m)):=by
 have B:∀m:List Nat,(∀c∈m,gX c)->gm (λv=>do
  let loc'<-cT loc (.bX 15) v
  if<-cU st (<-ev (BK (k+1)) st (.B (.call 11 [(.a 15)])) loc')then return some (<-ev (BK (k+1)) st (.call 12 [(.a 15)]) loc')else return none) (m.map λc=>.str [c])=some ((Eb m).map .str):=by
  intro m
  induction m with
  |nil=>intro z;rfl
  |cons c m R=>
   intro h;have O:cT loc (.bX 15) (.str [c])=some (loc.set 15 (.str [c])):=by simp[(id sj),ek,X]
   have D:ev (BK (k+1)) st (.a 15) (loc.set 15 (.str [c]))=some (.str [c]):=by simp[(id fD),X]
   have E:ev (BK (k+1)) st (.call 11 [(.a 15)]) (loc.set 15 (.str [c]))=some (.bool (DR.contains (c:Int))):=eP (vs:= [.str [c]]) (by simp only[af,(id jW),D,aj,af,aJ]) rfl (WU k c);have K:ev (BK (k+1)) st (.call 12 [(.a 15)]) (loc.set 15 (.str [c]))=some (.str (xa c)):=eP (vs:= [.str [c]]) (by simp only[af,(id jW),D,aj,af,aJ]) rfl (Wc k (h c aH));have J:(do
    let loc'<-cT loc (.bX 15) (.str [c])
    if<-cU st (<-ev (BK (k+1)) st (.B (.call 11 [(.a 15)])) loc')then return some (<-ev (BK (k+1)) st (.call 12 [(.a 15)]) loc')else return none:Option (Option AV))=some (if !(DR.contains (c:Int))then some (.str (xa c))else none):=by
    simp only[aj,O,af,(vc E (show cU st (.bool (DR.contains (c:Int)))=some _ from rfl)),(id lY),K,aJ];cases DR.contains (c:Int)<;>rfl
   refine bp (eU J (R λd u=>h d (ax _ u))) ?_;congr 1;simp only[Eb,tK];cases DR.contains (c:Int)<;>rfl
 have n:ev (BK (k+1)) st (.a 7) loc=some (.str m):=by simp[(id fD),V]
 have F:=rg (C:=BK (k+1)) (e:=.call 12 [(.a 15)]) (c:=.B (.call 11 [(.a 15)])) n (show fQ st (.str m)=some (m.map λc=>.str [c])by
  have:m.length<=cB:=by simp[cB];lia
  simp[(id yK),this]) (B m A)
 have e:ev (BK (k+1)) st JN loc=(do
  let l<-pa (<-jX st (<-ev (BK (k+1)) st (.z (.call 12 [(.a 15)]) (.bX 15) (.a 7) (.B (.call 11 [(.a 15)]))) loc))
  if l.flatten.length<=cB then return .str l.flatten else none):=rfl
 refine bp e (ab F ?_);simp only[(id Nf),aj,af,EO,CA,if_pos P,aJ]
noncomputable def xD(p:Nat)(c s:Int):iy:=
 if c.fmod 5=0 then⟨dY iK p,dY iK p-32,1⟩
 else if c.fmod 5=1 then⟨dY iK p,dY lP (Oy p c s),3⟩
 else if c.fmod 5=2 then⟨dY iK p,dY lO (Oz c)+dY iK p-97,2⟩
 else if c.fmod 5=3 then⟨dY iK p,dY Em p,2⟩
 else⟨dY iK p,dY ic (MN p c),3⟩
noncomputable def yy(p:Nat)(c:Int):iy:=
 if c.fmod 5=0 then⟨dY iK p,dY HC p,0⟩
 else if c.fmod 5=1 then⟨dY iK p,dY HC p,0⟩
 else if c.fmod 5=2 then⟨dY iK p,dY HC p,0⟩
 else if c.fmod 5=3 then⟨dY iK p,dY HC p,3⟩
 else⟨dY iK p,dY ic (MN p c),3⟩
theorem Wd(p:Nat)(c s:Int):(Tp p c s).1=(xD p c s).mark:=by
 unfold Tp xD
 (repeat' split)<;>rfl
theorem We(p:Nat)(c s:Int):(Tp p c s).2=(yy p c).mark:=by
 unfold Tp yy
 (repeat' split)<;>rfl
theorem wG(p:Nat)(c s:Int):(xD p c s).L=dY iK p/\(yy p c).L=dY iK p:=by
 constructor
 ·delta xD
  (repeat' split)<;>rfl
 ·delta yy
  (repeat' split)<;>rfl
theorem jf(p:Nat):dY iK p∈signs p:=by simp[signs]
theorem Rg(p:Nat):dY iK p-32∈signs p:=by simp[signs]
theorem Rf(p:Nat):dY Em p∈signs p:=by simp[signs]
theorem Bh(p:Nat):dY HC p∈signs p:=by simp[signs]
theorem Rd(p i:Nat)(h:i<10):dY lO i+dY iK p-97∈signs p:=kH _ (dZ.mpr ⟨i,aT.mpr h,rfl⟩)
theorem EH(p j:Nat)(h:j<4):dY ic (4*j+p)∈signs p:=by
 refine Tj h ?_ ?_ ?_ ?_
 ·simp[signs]
 ·simp[signs]
 ·simp[signs]
 ·simp[signs]
theorem pX(i:Nat)(h:i<27):dY lP i∈yC:=dZ.mpr ⟨i,aT.mpr h,rfl⟩
theorem kT(p:Nat)(c s:Int):Oy p c s<27:=(je (x:=4*(c.fdiv 5).fmod 6+p+s) (n:=27) (by decide)).2
theorem yL(c:Int):Oz c<10:=(je (x:=c.fdiv 5) (n:=10) (by decide)).2
theorem vC(p:Nat)(c:Int){I:Prop}(N:∀j,j<4->MN p c=4*j+p->I):I:=N (((c.fdiv 5).fmod 4).toNat) ((je (x:=c.fdiv 5) (n:=4) (by decide)).2) rfl
theorem S8{x y p q:Int}(Y:0<=p)(J:p<4)(U:0<=q)(S:q<4)(h:4*x+p=4*y+q):p=q:=by lia
theorem S7{a b u v r s:Int}(J:27*u+r=a+s)(U:27*v+r=b+s)(S:a<b+27)(d:b<a+27):a=b:=by lia
theorem VO{p q:Nat}{x y u v r s:Int}(B:p<4)(D:q<4)(h:p≠q)(A:0<=x)(a1:x<6)(b0:0<=y)(b1:y<6)(J:27*u+r=4*x+p+s)(U:27*v+r=4*y+q+s):False:=
 h (Uo (S8 (aX p) (fh.mpr B) (aX q) (fh.mpr D) (S7 J U (by lia) (by lia))))
theorem S0{p q:Nat}(B:p<4)(D:q<4)(h:p≠q)(c d s:Int):Oy p c s≠Oy q d s:=by refine aN (je (x:=4*(c.fdiv 5).fmod 6+p+s) (n:=27) (by decide)) λe1 z=>aN (je (x:=4*(d.fdiv 5).fmod 6+q+s) (n:=27) (by decide)) λe2 z=>?_;have A:0<=(c.fdiv 5).fmod 6:=bQ _ (by decide);have a1:(c.fdiv 5).fmod 6<6:=cJ _ (by decide);have b0:0<=(d.fdiv 5).fmod 6:=bQ _ (by decide);have b1:(d.fdiv 5).fmod 6<6:=cJ _ (by decide);intro Z;delta Oy at Z;have J:=kG (4*(c.fdiv 5).fmod 6+p+s) 27;have U:=kG (4*(d.fdiv 5).fmod 6+q+s) 27;rw[e1,Z]at J;rw[e2]at U;generalize(c.fdiv 5).fmod 6=x at*;generalize(d.fdiv 5).fmod 6=y at*;generalize(4*x+p+s).fdiv 27=u at*;generalize(4*y+q+s).fdiv 27=v at*;exact VO B D h A a1 b0 b1 J U
theorem kZ{p x:Nat}(B:p<4)(h:x∈signs p):Lw x:=by have:=aq.mp (aq.mp Gw p (aT.mpr B)) x h;exact beq_iff_eq.mp this
theorem Ep{x:Nat}(h:x∈yC):Lw x:=beq_iff_eq.mp (aq.mp Ky x h)
theorem ub{x y:Nat}(Z:Lw x)(F:Lw y)(h:nf x≠nf y):fC x y=2:=by unfold Lw at Z F;delta fC;exact ab (if_neg (λe=>h (by exact ab e rfl))) (ab Z (ab F (ab (if_neg (by simpa using h)) rfl)))
theorem sV{p q x y:Nat}(B:p<4)(D:q<4)(L:p≠q)(Z:x∈signs p)(F:y∈signs q):nf x≠nf y:=by
 have:=aq.mp (aq.mp zS p (aT.mpr B)) q (aT.mpr D);refine ak (jm.mp this) (λh=>?_) λh=>?_
 ·exact absurd (beq_iff_eq.mp h) L
 ·exact bne_iff_ne.mp (aq.mp (aq.mp h x Z) y F)
theorem zR{p x y:Nat}(B:p<4)(Z:x∈signs p)(F:y∈yC):nf x≠nf y:=
 bne_iff_ne.mp (aq.mp (aq.mp (aq.mp Ce p (aT.mpr B)) x Z) y F)
theorem Wg{i j:Nat}(hi:i<27)(Y:j<27)(h:i≠j):nf (dY lP i)≠nf (dY lP j):=by
 have:=aq.mp (aq.mp CX i (aT.mpr hi)) j (aT.mpr Y);refine ak (jm.mp this) (λh'=>?_) λh'=>?_
 ·exact absurd (beq_iff_eq.mp h') h
 ·exact bne_iff_ne.mp h'
set_option tactic.hygienic true in
theorem vU{p:Nat}(B:p<4)(c s:Int):(xD p c s).x∈signs p\/(c.fmod 5=1/\(xD p c s).x=dY lP (Oy p c s)):=by
 delta xD;split
 ·exact .inl (Rg p)
 ·split
  ·rename_i h;exact .inr ⟨h,rfl⟩
  ·split
   ·exact .inl (Rd p _ (yL c))
   ·split
    ·exact .inl (Rf p)
    ·exact vC p c λj J U=>.inl (ab U<|EH p j J)
theorem vi{p:Nat}(c:Int):(yy p c).x∈signs p:=by
 delta yy;split
 ·exact Bh p
 ·split
  ·exact Bh p
  ·split
   ·exact Bh p
   ·split
    ·exact Bh p
    ·exact vC p c λj J U=>ab U<|EH p j J
theorem Py{p q:Nat}(B:p<4)(D:q<4)(L:p≠q)(c d s:Int):sg (xD p c s) (xD q d s):=by
 have A:=(wG p c s).1;have C:=(wG q d s).1;have wp:=kZ B (jf p);have E:=kZ D (jf q);have Z:Lw (xD p c s).x:=by
  refine ak (vU B c s) (λh=>?_) λH=>aN H λz h=>?_
  ·exact kZ B h
  ·exact ab h<|Ep (pX _ (kT p c s))
 have F:Lw (xD q d s).x:=by
  refine ak (vU D d s) (λh=>?_) λH=>aN H λz h=>?_
  ·exact kZ D h
  ·exact ab h<|Ep (pX _ (kT q d s))
 refine⟨?_,?_,?_,?_⟩
 ·exact ab A<|ab C<|ub wp E (sV B D L (jf p) (jf q))
 ·refine ab A<|ub wp F<|ak (vU D d s) (λh=>?_) λH=>aN H λz h=>?_
  ·exact sV B D L (jf p) h
  ·exact ab h<|zR B (jf p) (pX _ (kT q d s))
 ·refine ab C<|ub Z E<|ak (vU B c s) (λh=>?_) λH=>aN H λz h=>?_
  ·exact sV B D L h (jf q)
  ·exact ab h<|(zR D (jf q) (pX _ (kT p c s))).symm
 ·refine ub Z F<|ak (vU B c s) (λh=>?_) λH=>aN H λz h=>?_<;>refine ak (vU D d s) (λh'=>?_) λH=>aN H λz h'=>?_
  ·exact sV B D L h h'
  ·exact ab h'<|zR B h (pX _ (kT q d s))
  ·exact ab h<|(zR D h' (pX _ (kT p c s))).symm
  ·exact ab h<|ab h'<|Wg (kT p c s) (kT q d s) (S0 B D L c d s)
theorem NR{p q:Nat}(B:p<4)(D:q<4)(L:p≠q)(c d:Int):sg (yy p c) (yy q d):=by
 have A:=(wG p c 0).2;have C:=(wG q d 0).2;have wp:=kZ B (jf p);have E:=kZ D (jf q);have Z:=kZ B (vi (p:=p) c);have F:=kZ D (vi (p:=q) d);refine⟨?_,?_,?_,?_⟩
 ·exact ab A<|ab C<|ub wp E (sV B D L (jf p) (jf q))
 ·exact ab A<|ub wp F (sV B D L (jf p) (vi d))
 ·exact ab C<|ub Z E (sV B D L (vi c) (jf q))
 ·exact ub Z F (sV B D L (vi c) (vi d))
theorem OU:((aG 4).all λp=>([dY Em p,dY HC p,dY ic p,dY ic (4+p),dY ic (8+p),dY ic (12+p)]++(aG 10).map λi=>dY lO i+dY iK p-97).all λx=>nf x !=dY iK p)=true:=by decide+kernel
theorem KY:((aG 4).all λp=>nf (dY iK p-32)==dY iK p&&nf (dY iK p)==dY iK p&&dY iK p !=dY iK p-32)=true:=by decide+kernel
theorem Vz{p x:Nat}(B:p<4)(h:x∈ [dY Em p,dY HC p,dY ic p,dY ic (4+p),dY ic (8+p),dY ic (12+p)]++(aG 10).map λi=>dY lO i+dY iK p-97)(Z:x∈signs p):fC (dY iK p) x=2/\fC x (dY iK p)=2:=by have J:=bne_iff_ne.mp (aq.mp (aq.mp OU p (aT.mpr B)) x h);have U:=aq.mp KY p (aT.mpr B);simp only[au,beq_iff_eq]at U;have w1:=kZ B (jf p);have w2:=kZ B Z;exact⟨ub w1 w2 (ab U.1.2<|λe=>J e.symm),ub w2 w1 (ab U.1.2<|J)⟩
theorem LH{p j:Nat}(h:j<4):dY ic (4*j+p)∈ [dY Em p,dY HC p,dY ic p,dY ic (4+p),dY ic (8+p),dY ic (12+p)]++(aG 10).map λi=>dY lO i+dY iK p-97:=by
 refine Tj h ?_ ?_ ?_ ?_
 ·simp
 ·simp
 ·simp
 ·simp
theorem X5{p:Nat}(B:p<4)(c s:Int):(xD p c s).Ok:=by
 have w1:=kZ B (jf p);delta xD;split
 ·have U:=aq.mp KY p (aT.mpr B);simp only[au,beq_iff_eq,bne_iff_ne,ne_eq]at U;have w2:=kZ B (Rg p);unfold Lw at w1 w2;refine⟨show 1<4 by decide,λz=>⟨?_,?_⟩⟩
  ·delta fC;exact ab (if_neg U.2) (ab w1 (ab w2 (ab U.1.1 (ab U.1.2 (ab (if_pos rfl) (ab (if_pos rfl) rfl))))))
  ·delta fC;exact ab (if_neg λe=>U.2 e.symm) (ab w1 (ab w2 (ab U.1.1 (ab U.1.2 (ab (if_pos rfl) (ab (if_pos rfl) rfl))))))
 ·split
  ·have w2:=Ep (pX _ (kT p c s));have:=zR B (jf p) (pX _ (kT p c s));exact⟨show 3<4 by decide,λz=>⟨ub w1 w2 this,ub w2 w1 this.symm⟩⟩
  ·split
   ·exact⟨show 2<4 by decide,λz=>Vz B (kH _ (dZ.mpr ⟨_,aT.mpr (yL c),rfl⟩)) (Rd p _ (yL c))⟩
   ·split
    ·exact⟨show 2<4 by decide,λz=>Vz B (by simp) (Rf p)⟩
    ·exact vC p c λj J U=>ab U<|⟨show 3<4 by decide,λz=>Vz B (LH J) (EH p j J)⟩
theorem XK{p:Nat}(B:p<4)(c:Int):(yy p c).Ok:=by
 delta yy;split
 ·exact⟨show 0<4 by decide,λh=>absurd rfl h⟩
 ·split
  ·exact⟨show 0<4 by decide,λh=>absurd rfl h⟩
  ·split
   ·exact⟨show 0<4 by decide,λh=>absurd rfl h⟩
   ·split
    ·exact⟨show 3<4 by decide,λz=>Vz B (by simp) (Bh p)⟩
    ·exact vC p c λj J U=>ab U<|⟨show 3<4 by decide,λz=>Vz B (LH J) (EH p j J)⟩
theorem K1{p x:Nat}(B:p<4)(h:x∈signs p\/x∈yC):x≠92/\x≠34/\x≠40/\x≠41:=by have:=aq.mp (aq.mp A9 p (aT.mpr B)) x (dw.mpr h);simp only[au,bne_iff_ne,ne_eq]at this;exact⟨this.1.1.1,this.1.1.2,this.1.2,this.2⟩
theorem oS{c:Nat}(h:Lw c):gX c:=by delta gX;delta Lw at h;refine ab h ?_;show 1<=cB;decide
theorem Es{P:iy}{x:Nat}(h:x∈P.mark):x=P.L\/x=P.x:=by
 delta iy.mark at h;generalize P.t=t at h;rcases t with _|_|_|t
 ·exact .inl (bS.mp h)
 ·exact .inr (bS.mp h)
 ·exact .inr (bS.mp h)
 ·exact(aS.mp h).elim .inl λh=>.inr (bS.mp h)
theorem Er{p:Nat}(B:p<4)(c s:Int):∀x∈(xD p c s).mark,x∈signs p\/x∈yC:=by
 refineλx Z=>ak (Es Z) (λH=>?_) λg=>?_;refine ab H ?_;rotate_left;refine ab g ?_;rotate_right
 ·exact ab ((wG p c s).1)<|.inl (jf p)
 ·refine ak (vU B c s) (λh=>?_) λH=>aN H λz h=>?_
  ·exact .inl h
  ·exact ab h<|.inr (pX _ (kT p c s))
theorem JL{p:Nat}(B:p<4)(c:Int):∀x∈(yy p c).mark,x∈signs p:=by
 refineλx Z=>ak (Es Z) (λH=>?_) λg=>?_;refine ab H ?_;rotate_left;refine ab g ?_;rotate_right
 ·exact ab ((wG p c 0).2)<|jf p
 ·exact vi c
theorem oT(P:iy):P.mark.length<=2/\1<=P.mark.length:=by delta iy.mark;generalize P.t=t;rcases t with _|_|_|t<;>exact⟨dT rfl,dT rfl⟩
theorem K4:∀{l:List Nat},(∀x∈l,x≠92/\x≠34/\x≠40/\x≠41)->Quiet l:=by
 intro G
 induction G with
 |nil=>
  exactλz=>iQ
 |cons c l P=>
  exactλh=>Aw (h c aH) λa b d e=>C3 a b d e (P λx Z=>h x (ax _ Z))
theorem KA{p:Nat}(B:p<4)(c s:Int):∀x∈(xD p c s).mark,gX x:=λx Z=>by
 refine ak (Er B c s x Z) (λh=>?_) λh=>?_
 ·exact oS (kZ B h)
 ·exact oS (Ep h)
theorem Gx{p:Nat}(B:p<4)(c s:Int):n9 (xD p c s).mark=(yy p c).mark:=by
 have:=aq.mp CB p (aT.mpr B);simp only[au,beq_iff_eq]at this;refine aN this λo1 O=>aN o1 λH d=>aN H λg S=>aN g λJ U=>?_;unfold xD yy;split
 ·exact J
 ·split
  ·exact beq_iff_eq.mp (aq.mp S _ (pX _ (kT p c s)))
  ·split
   ·exact beq_iff_eq.mp (aq.mp d _ (aT.mpr (yL c)))
   ·split
    ·exact U
    ·exact vC p c λj f A=>ab A<|beq_iff_eq.mp (aq.mp O _ (aT.mpr f))
theorem Cz(p:Nat)(c:Int):(yy p c).mark.take 1= [(yy p c).L]:=by
 delta yy
 (repeat' split)<;>rfl
theorem EP(p:Nat)(c s:Int):(xD p c s).pZ=if c.fmod 5=0 then 1 else 2:=by
 delta xD;split
 ·rfl
 ·(repeat' split)<;>rfl
set_option tactic.hygienic true in
theorem NS(p:Nat)(c:Int):(yy p c).pZ=if c.fmod 5=3\/c.fmod 5=4 then 2 else 0:=by
 delta yy;split
 ·rename_i h;refine ab (if_neg (by lia)) ?_;rfl
 ·split
  ·rename_i h;refine ab (if_neg (by lia)) ?_;rfl
  ·split
   ·rename_i h;refine ab (if_neg (by lia)) ?_;rfl
   ·split
    ·rename_i h;refine ab (if_pos (Or.symm (Or.inr h))) ?_;rfl
    ·refine ab (if_pos (by lia)) ?_;rfl
noncomputable def KS(a b d:Nat):List Bool:=true::true::(bw (2-a) false++true::(bw (a+1-b) false++true::(bw (b+1-d) false++true::bw (d+1) false)))
theorem Jg:∀(n:Nat) (g:Int),(cl n g).map (·.1)=bw n false:=by
 intro G
 induction G with
 |zero=>
  exactλg=>rfl
 |succ n R=>
  intro g;simp[(id RY),R,HJ]
theorem CT(a b d:Nat)(m0 m1 m2 m3:List Nat)(g:Int):(iG a b d m0 m1 m2 m3 g).map (·.1)=KS a b d:=by simp[iG,KS,Jg]
noncomputable def OI(a b d:Nat)(u:Nat):Nat:=(kY true 0 (KS a b d)).getD u 0
noncomputable def MI(a b d:Nat)(u:Nat):Nat:=(kC (KS a b d) (OI a b d u) (kY false 0 (KS a b d))).getD 0
noncomputable def subB(a b d v u:Nat):Bool:=decide (OI a b d v<=OI a b d u)&&decide (OI a b d u<=MI a b d v)
noncomputable def zb:List (Nat×Nat×Nat):= [(1,1,1),(1,1,2),(1,2,1),(1,2,2),(1,2,3),(2,1,1),(2,1,2),(2,2,1),(2,2,2),(2,2,3),(2,3,1),(2,3,2),(2,3,3),(2,3,4)]
theorem xt{a b d:Nat}(h:fq a b d):(a,b,d)∈zb:=tB (Q:=λa b d=>(a,b,d)∈zb) (by refine⟨?_,?_,?_,?_,?_,?_,?_,?_,?_,?_,?_,?_,?_,?_⟩<;>decide) h
noncomputable def UB(a b d:Nat):Bool:=(KS a b d).length==10&&yf (KS a b d)&& !yf ((KS a b d).drop 1++ [true])&&(kY true 0 (KS a b d)== [OI a b d 0,OI a b d 1,OI a b d 2,OI a b d 3,OI a b d 4])&&((kY true 0 (KS a b d)).all λi=>decide (i+1<10))&&
 ((aG 5).all λu=>kC (KS a b d) (OI a b d u) (kY false 0 (KS a b d))==some (MI a b d u)&&decide (OI a b d u<10)&&decide (MI a b d u<10))&&
 ((aG 5).all λu=>(aG 5).all λv=>v==0||(subB a b d v u==(fU a b d u).contains v))&&((aG 5).all λu=>subB a b d 0 u)&&
 ((aG 5).all λu=>(aG 5).all λv=>((decide (OI a b d v<OI a b d u))&&decide (OI a b d u<=MI a b d v))==(subB a b d v u&&v !=u))
theorem Pp:(zb.all λq=>UB q.1 q.2.1 q.2.2)=true:=by decide+kernel
noncomputable def sA(a b d v u:Nat):Bool:=v==0||(fU a b d u).contains v
noncomputable def Hf(J U S d:Nat):Nat->Nat
 |0=>2
 |1=>J
 |2=>U
 |3=>S
 |_=>d
noncomputable def jG(f:Nat->Bool):Bool:=f 0&&f 1&&f 2&&f 3&&f 4
noncomputable def yc(f:Nat->Bool):Bool:=f 0||f 1||f 2||f 3||f 4
theorem ig{f:Nat->Bool}(h:jG f=true){x:Nat}(Z:x<5):f x=true:=by
 simp only[jG,au]at h;refine MO Z ?_ ?_ ?_ ?_ ?_
 ·exact h.1.1.1.1
 ·exact h.1.1.1.2
 ·exact h.1.1.2
 ·exact h.1.2
 ·exact h.2
theorem qT{f:Nat->Bool}(h:∀x,x<5->f x=true):jG f=true:=by simp[jG,h]
theorem mU{f:Nat->Bool}:yc f=true↔∃x,x<5/\f x=true:=by
 constructor
 ·intro h;simp only[yc,fy]at h;refine ak h (λH=>ak H (λg=>ak g (λT=>ak T (λh=>?_) λh=>?_) λh=>?_) λh=>?_) λh=>?_
  ·exact⟨0,by decide,h⟩
  ·exact⟨1,by decide,h⟩
  ·exact⟨2,by decide,h⟩
  ·exact⟨3,by decide,h⟩
  ·exact⟨4,by decide,h⟩
 ·refineλo1=>aC o1 λx Z h=>?_;refine MO (M:=λx=>f x=true->yc f=true) Z ?_ ?_ ?_ ?_ ?_ h<;>(intro h;simp[yc,h])
noncomputable def imp(a b:Bool):Bool:= !a||b
theorem sy{a b:Bool}(h:imp a b=true)(L:a=true):b=true:=by subst L;exact h
noncomputable def jY(s:Nat->Nat->Bool)(H:Nat->Nat)(x:Nat):Bool:=BY 0 (H x)&&jG λu=> !(s x u&&x !=u&&H u==2)
noncomputable def Ml(s:Nat->Nat->Bool)(H:Nat->Nat):Bool:=jG λv=>jG λu=>imp (s v u) (ME (H u) (H v))&&(s v u||s u v||H v==0||H u==0)
noncomputable def Yu(s:Nat->Nat->Bool)(H:Nat->Nat)(m:Nat):Bool:=jG λv=>if s v m then BY 0 (H v)else BY (H v) 2
noncomputable def Yv(s:Nat->Nat->Bool)(H:Nat->Nat)(A:Nat->Bool):Bool:=jG λx=>imp (yc λm=>jY s H m&&jG λv=>s v x==s v m||H v==1|| !A v) (yc λy=>jY s H y&&jG λv=>s v x==s v y|| !A v)
noncomputable def zX:List Bool:= [true,false]
noncomputable def RK(t1 t2 t3 Y:Bool):Nat->Bool
 |0=>true
 |1=>t1
 |2=>t2
 |3=>t3
 |_=>Y
noncomputable def QR(s:Nat->Nat->Bool)(H:Nat->Nat):Bool:=imp (Ml s H) ((yc λm=>jY s H m)&&(jG λm=>imp (jY s H m) (Yu s H m))&&zX.all λt1=>zX.all λt2=>zX.all λt3=>zX.all λY=>Yv s H (RK t1 t2 t3 Y))
noncomputable def UC(s:Nat->Nat->Bool):Bool:=(jG λv=>jG λu=>imp (s v u) (jG λz=>imp (s u z) (s v z))&&(s v u||s u v||jG λz=> !(s v z&&s u z)))&&(jG λv=>v==0|| !s v 0)&&
 (jG λx=>jG λy=>imp (jG λv=>s v x==s v y) (x==y))&&(jG λu=>s 0 u)
noncomputable def r3:List Nat:= [0,1,2]
theorem L5:(zb.all λq=>UC (sA q.1 q.2.1 q.2.2)&&r3.all λJ=>r3.all λU=>r3.all λS=>r3.all λd=>QR (sA q.1 q.2.1 q.2.2) (Hf J U S d))=true:=by decide+kernel
theorem Pw{A a1 a2 a3 a4 b0 b1 b2 b3 f w0 w1 w2 w3 w4:Int}(z:A+b0=0)(h:1<=w0)(J:a1+b1<=w1)(U:a2+b2<=w2)(S:a3+b3<=w3)(d:a4+f<=w4):A+a1+a2+a3+a4+(b0+b1+b2+b3+f)<w0+w1+w2+w3+w4:=by lia
theorem N3{A B S:Int}(q:¬2*B<S)(h:B+A<S):2*A<S:=by lia
theorem Y8{Q V G P m1 m2 m3 O:Int}(J:m1<=Q)(U:m2<=V)(S:m3<=G)(d:O<=P):Q+V+G+P=m1+m2+m3+O↔(((Q=m1/\V=m2)/\G=m3)/\P=O):=by
 constructor
 ·exactλe=>⟨⟨⟨by lia,by lia⟩,by lia⟩,by lia⟩
 ·exactλe=>ab e.1.1.1 (ab e.1.1.2 (ab e.1.2 (ab e.2 rfl)))
noncomputable def iw(b:Bool)(w:Int):Int:=if b then w else 0
noncomputable def Wt(s:Nat->Nat->Bool)(w:Nat->Int)(v:Nat):Int:=iw (s v 0) (w 0)+iw (s v 1) (w 1)+iw (s v 2) (w 2)+iw (s v 3) (w 3)+iw (s v 4) (w 4)
noncomputable def j9(w:Nat->Int):Int:=w 0+w 1+w 2+w 3+w 4
noncomputable def kX(t W:Int):Nat:=if 2*t<W then 0 else if 2*t=W then 1 else 2
noncomputable def sO(s:Nat->Nat->Bool)(w:Nat->Int)(v x:Nat):Int:=if s v x then j9 w-Wt s w v else Wt s w v
noncomputable def HH(s:Nat->Nat->Bool)(w:Nat->Int):Nat->Nat:=Hf (kX (Wt s w 1) (j9 w)) (kX (Wt s w 2) (j9 w)) (kX (Wt s w 3) (j9 w)) (kX (Wt s w 4) (j9 w))
structure Fw (w:Nat->Int):Prop where
 w0:1<=w 0
 w1:0<=w 1
 w2:0<=w 2
 w3:0<=w 3
 w4:0<=w 4
theorem rK(s:Nat->Nat->Bool)(w:Nat->Int)(v x:Nat):iw (s v 0 !=s v x) (w 0)+iw (s v 1 !=s v x) (w 1)+iw (s v 2 !=s v x) (w 2)+iw (s v 3 !=s v x) (w 3)+iw (s v 4 !=s v x) (w 4)=sO s w v x:=by
 delta sO;have e:∀u,iw (s v u !=s v x) (w u)=if s v x then w u-iw (s v u) (w u)else iw (s v u) (w u):=by intro u;cases s v x<;>cases s v u<;>simp[iw]
 simp only[e];unfold j9 Wt;cases s v x
 ·rfl
 ·simp;lia
theorem Ag{a b d:Nat}(w:Nat->Int)(pr:Nat->Nat)(x:Nat):iS (fU a b d) w pr x=pr 0*sO (sA a b d) w 1 x+pr 1*sO (sA a b d) w 2 x+pr 2*sO (sA a b d) w 3 x+pr 3*sO (sA a b d) w 4 x:=by
 have V:∀u v,v≠0->cond (fU a b d) u x v=(sA a b d v u !=sA a b d v x):=by
  intro u v D;have Y:(v==0)=false:=by simpa using D
  unfold cond sA;simp only[Y,iW,iW];rfl
 have Q:∀(u:Nat) (c:Bool) (p:Nat),w u*((if c then p else 0:Nat):Int)=p*iw c (w u):=by
  intro u c p;rcases c with⟨⟩
  ·simp[iw]
  ·simp[iw,bR]
 have e:∀u,w u*(mf (fU a b d) pr u x:Int)=pr 0*iw (sA a b d 1 u !=sA a b d 1 x) (w u)+(pr 1*iw (sA a b d 2 u !=sA a b d 2 x) (w u)+(pr 2*iw (sA a b d 3 u !=sA a b d 3 x) (w u)+pr 3*iw (sA a b d 4 u !=sA a b d 4 x) (w u))):=by intro u;delta mf;refine ab (V u 1 (by decide)) (ab (V u 2 (by decide)) (ab (V u 3 (by decide)) (ab (V u 4 (by decide)) ?_)));simp only[Int.natCast_add,nk,Q]
 delta iS;simp only[e,<-rK,<-rK,<-rK,<-rK];simp only[nk];lia
noncomputable def jM(G:Nat->Bool):List Nat:=(if G 0 then[0]else[])++((if G 1 then[1]else[])++((if G 2 then[2]else[])++((if G 3 then[3]else[])++(if G 4 then[4]else[]))))
theorem s9{G H:Nat->Bool}(h:∀x,x<5->G x=H x):jM G=jM H:=by delta jM;exact ab (h 0 (by decide)) (ab (h 1 (by decide)) (ab (h 2 (by decide)) (ab (h 3 (by decide)) (ab (h 4 (by decide)) rfl))))
theorem Nd{c:Nat->Int}{G:Nat->Bool}{m:Nat}(T:m<5)(J:∀x,x<5->c m<=c x)(U:∀x,x<5->(c x=c m↔G x=true)):yd c=jM G:=by
 refine ew λY=>?_;obtain⟨P,y,F,t⟩:=Gz c;refine Y ?_;clear Y;have e:lS c=c m:=by have:=P m T;have:=J y F;lia
 have f:yd c=jM λx=>c x==lS c:=rfl;refine ab f<|s9 λx Z=>ab e ?_;rewrite[lG,beq_iff_eq];exact U x Z
theorem rm(t W:Int):kX t W∈r3:=by
 unfold kX r3;split
 ·exact dQ rfl
 ·split<;>simp
theorem CF{A B W:Int}(h:A<=B):kX A W<=kX B W:=by
 delta kX;by_cases J:2*A<W
 ·exact ab (if_pos J)<|bz _
 ·refine ab (if_neg J) (ab (if_neg (show¬2*B<W by lia)) ?_);by_cases U:2*B=W
  ·exact ab (if_pos U)<|ab (if_pos (by lia))<|aV _
  ·refine ab (if_neg U) ?_;split<;>decide
theorem kD{a b d:Nat}(h:fq a b d)(w:Nat->Int):UC (sA a b d)=true/\QR (sA a b d) (HH (sA a b d) w)=true:=by have q:=aq.mp L5 _ (xt h);simp only[au]at q;refine⟨q.1,?_⟩;exact aq.mp (aq.mp (aq.mp (aq.mp q.2 _ (rm _ _)) _ (rm _ _)) _ (rm _ _)) _ (rm _ _)
section
variable{a b d:Nat}(h:fq a b d){w:Nat->Int}(hw:Fw w)
include h
theorem Pj{v u z:Nat}(D:v<5)(N:u<5)(M:z<5)(J:sA a b d v u=true)(U:sA a b d u z=true):sA a b d v z=true:=by have q:=(kD h λZ=>0).1;simp only[UC,au]at q;have P:=ig (ig q.1.1.1 D) N;simp only[au]at P;exact sy (ig (sy P.1 J) M) U
theorem Ph{v u z:Nat}(D:v<5)(N:u<5)(M:z<5)(J:sA a b d v u=false)(U:sA a b d u v=false):sA a b d v z=true->sA a b d u z=false:=by have q:=(kD h λZ=>0).1;simp only[UC,au]at q;have P:=ig (ig q.1.1.1 D) N;simp only[au,J,U,zz]at P;intro e;simpa[e]using(ig P.2 M)
theorem Lr{v:Nat}(D:v<5)(Y:v≠0):sA a b d v 0=false:=by have q:=(kD h λz=>0).1;simp only[UC,au]at q;have Y:(v==0)=false:=beq_false_of_ne Y;simpa[Y]using(ig q.1.1.2 D)
theorem WC{x y:Nat}(Z:x<5)(F:y<5)(e:∀v,v<5->sA a b d v x=sA a b d v y):x=y:=by have q:=(kD h λz=>0).1;simp only[UC,au]at q;have:=sy (ig (ig q.1.2 Z) F) (qT λv D=>ab (e v D)<|beq_self_eq_true _);simpa using this
include hw
theorem zP:0<j9 w:=by obtain⟨Y,J,U,S,A⟩:=hw;delta j9;lia
theorem DJ{v:Nat}(D:v<5):HH (sA a b d) w v=kX (Wt (sA a b d) w v) (j9 w):=by
 refine MO D ?_ ?_ ?_ ?_ ?_
 ·
  have e:Wt (sA a b d) w 0=j9 w:=rfl;have:=zP h hw;refine ab e ?_;delta kX;refine ab (if_neg (by lia)) (ab (if_neg (by lia)) ?_);rfl
 ·rfl
 ·rfl
 ·rfl
 ·rfl
theorem Mm:Ml (sA a b d) (HH (sA a b d) w)=true:=by
 refine qT λv D=>qT λu N=>ab (DJ h hw D) (ab (DJ h hw N) ?_);refine ab (au ..) ?_;have A:∀z,z<5->0<=w z:=by
  refineλz M=>MO M ?_ ?_ ?_ ?_ ?_
  ·have:=hw.w0;exact aF this
  ·exact hw.w1
  ·exact hw.w2
  ·exact hw.w3
  ·exact hw.w4
 constructor
 ·by_cases e:sA a b d v u=true
  ·refine ab e ?_;have le:∀z,z<5->iw (sA a b d u z) (w z)<=iw (sA a b d v z) (w z):=by
    intro z M;by_cases e2:sA a b d u z=true
    ·exact ab e2<|ab (Pj h D N M e e2)<|g9 _
    ·have:=A z M;have e2:sA a b d u z=false:=by simpa using e2
     refine ab e2 ?_;cases sA a b d v z
     ·simp[iw]
     ·exact this
   have P:Wt (sA a b d) w u<=Wt (sA a b d) w v:=eF (eF (eF (eF (le 0 (by decide)) (le 1 (by decide))) (le 2 (by decide))) (le 3 (by decide))) (le 4 (by decide));exact ab Nat.ble_eq<|CF P
  ·have:sA a b d v u=false:=by simpa using e
   refine ab this ?_;rfl
 ·by_cases e:sA a b d v u=true
  ·refine ab e ?_;rfl
  by_cases e2:sA a b d u v=true
  ·refine ab e2 ?_;simp
  have e:sA a b d v u=false:=by simpa using e
  have e2:sA a b d u v=false:=by simpa using e2
  refine ab e (ab e2 ?_);simp only[zz,fy,beq_iff_eq];have le:∀z,z<5->iw (sA a b d v z) (w z)+iw (sA a b d u z) (w z)<=w z:=by
   intro z M;have:=A z M;by_cases c:sA a b d v z=true
   ·refine ab c (ab (Ph h D N M e e2 c) ?_);simp[iw]
   ·have c:sA a b d v z=false:=by simpa using c
    refine ab c ?_;cases sA a b d u z
    ·exact this
    ·simp[iw]
  have B:v≠0:=λq=>by subst q;exact(aB e.symm).elim
  have G:u≠0:=λq=>by subst q;exact(aB e2.symm).elim
  have J:iw (sA a b d v 0) (w 0)+iw (sA a b d u 0) (w 0)=0:=by refine ab (Lr h D B) (ab (Lr h N G) ?_);rfl
  have y:Wt (sA a b d) w v+Wt (sA a b d) w u<j9 w:=Pw J hw.w0 (le 1 (by decide)) (le 2 (by decide)) (le 3 (by decide)) (le 4 (by decide));by_cases q:2*Wt (sA a b d) w v<j9 w
  ·exact .inl (if_pos q)
  ·exact .inr (if_pos (N3 q y))
theorem yz:(yc λm=>jY (sA a b d) (HH (sA a b d) w) m)=true/\(∀m,m<5->jY (sA a b d) (HH (sA a b d) w) m=true->Yu (sA a b d) (HH (sA a b d) w) m=true)/\∀t1 t2 t3 Y,Yv (sA a b d) (HH (sA a b d) w) (RK t1 t2 t3 Y)=true:=by
 have q:=sy (kD h w).2 (Mm h hw);simp only[au]at q;have O:∀t:Bool,t∈zX:=by intro t;rcases t with⟨⟩<;>exact dQ rfl
 refine⟨q.1.1,λm T Q=>sy (ig q.1.2 T) Q,λt1 t2 t3 Y=>?_⟩;exact aq.mp (aq.mp (aq.mp (aq.mp q.2 _ (O t1)) _ (O t2)) _ (O t3)) _ (O Y)
theorem ET{m:Nat}(T:m<5)(Q:jY (sA a b d) (HH (sA a b d) w) m=true){v x:Nat}(D:v<5):sO (sA a b d) w v m<=sO (sA a b d) w v x/\(sO (sA a b d) w v x=sO (sA a b d) w v m↔sA a b d v x=sA a b d v m\/HH (sA a b d) w v=1):=by
 have q:=ig ((yz h hw).2.1 m T Q) D;clear T;rw[DJ h hw D]at q⊢;clear D;delta sO;generalize Wt (sA a b d) w v=A at*;unfold kX at q⊢;cases h1:sA a b d v m<;>cases h2:sA a b d v x<;>rw[h1]at q<;>simp only[bx,if_false,if_true,Xw]at q⊢
 ·simp
 ·by_cases f:2*A<j9 w
  ·exact ab (if_pos f)<|⟨by grind,⟨λz=>by lia,λe=>absurd e (by decide)⟩⟩
  ·by_cases j:2*A=j9 w
   ·simp only[if_neg f,if_pos j];exact⟨by lia,⟨λz=>.inr trivial,λz=>by lia⟩⟩
   ·rw[if_neg f,if_neg j]at q;lia
 ·by_cases f:2*A<j9 w
  ·rw[if_pos f]at q;omega+splitDisjunctions
  ·by_cases j:2*A=j9 w
   ·simp only[if_neg f,if_pos j];exact⟨by grind,⟨λz=>.inr trivial,λz=>by grind⟩⟩
   ·simp only[if_neg f,if_neg j];exact⟨by grind,⟨λz=>by(clear f q h2 h1 Q hw h;lia),λe=>absurd e (by decide)⟩⟩
 ·simp
noncomputable def sh(s:Nat->Nat->Bool)(H:Nat->Nat)(A:Nat->Bool)(x:Nat):Bool:=yc λy=>jY s H y&&jG λv=>s v x==s v y|| !A v
noncomputable def yb(pr:Nat->Nat):Nat->Bool:=RK (pr 0 !=0) (pr 1 !=0) (pr 2 !=0) (pr 3 !=0)
theorem GC{p:Nat}{A B:Int}(h:A<=B):(p:Int)*A<=p*B/\((p:Int)*B=p*A↔p=0\/B=A):=by
 constructor
 ·exact wd h (aX p)
 ·constructor
  ·intro e;by_cases C:p=0
   ·exact .inl C
   ·exact .inr (Int.eq_of_mul_eq_mul_left (Int.ofNat_ne_zero.mpr C) e)
  ·refineλo1=>ak o1 (λH=>?_) λg=>?_;refine ab H ?_;rotate_left;subst g;rotate_right
   ·simp
   ·rfl
theorem qo(pr:Nat->Nat){m x:Nat}(T:m<5)(Q:jY (sA a b d) (HH (sA a b d) w) m=true):iS (fU a b d) w pr m<=iS (fU a b d) w pr x/\
 (iS (fU a b d) w pr x=iS (fU a b d) w pr m↔(jG λv=>sA a b d v x==sA a b d v m||HH (sA a b d) w v==1|| !yb pr v)=true):=by
 have F:=λ(v:Nat) (D:v<5) (p:Nat)=>GC h hw (p:=p) ((λ(v:Nat) (D:v<5)=>ET h hw T Q (v:=v) (x:=x) D) v D).1;have f1:=F 1 (by decide) (pr 0);have f2:=F 2 (by decide) (pr 1);have f3:=F 3 (by decide) (pr 2);have A:=F 4 (by decide) (pr 3);have g:∀v,v<5->∀p:Nat,((sA a b d v x==sA a b d v m||HH (sA a b d) w v==1|| !(p !=0))=true↔(p:Int)*sO (sA a b d) w v x=p*sO (sA a b d) w v m):=by
  intro v D p;simp only[(F v D p).2,((λ(v:Nat) (D:v<5)=>ET h hw T Q (v:=v) (x:=x) D) v D).2];simp only[fy,beq_iff_eq,bne,Bool.not_not];constructor
  ·refineλr=>ak r (λq=>?_) λq=>?_
   ·exact .inr q
   ·exact .inl q
  ·refineλj=>ak j (λq=>?_) λq=>?_
   ·exact .inr q
   ·exact .inl q
 have e:(jG λv=>sA a b d v x==sA a b d v m||HH (sA a b d) w v==1|| !yb pr v)=((sA a b d 1 x==sA a b d 1 m||HH (sA a b d) w 1==1|| !(pr 0 !=0))&&(sA a b d 2 x==sA a b d 2 m||HH (sA a b d) w 2==1|| !(pr 1 !=0))&&(sA a b d 3 x==sA a b d 3 m||HH (sA a b d) w 3==1|| !(pr 2 !=0))&&(sA a b d 4 x==sA a b d 4 m||HH (sA a b d) w 4==1|| !(pr 3 !=0))):=by delta jG;rfl
 simp only[Ag,Ag,e];simp only[au];simp only[g 1 (by decide),g 2 (by decide),g 3 (by decide),g 4 (by decide)];exact⟨eF (eF (eF f1.1 f2.1) f3.1) A.1,Y8 f1.1 f2.1 f3.1 A.1⟩
theorem qU(pr:Nat->Nat):yd (iS (fU a b d) w pr)=jM (sh (sA a b d) (HH (sA a b d) w) (yb pr)):=by
 refine aC (mU.mp (yz h hw).1) λm T Q=>?_;have C:=λx=>qo h hw pr (x:=x) T Q;refine Nd T (λx z=>(C x).1) λx Z=>?_;rw[(C x).2];constructor
 ·exactλq=>sy (ig ((yz h hw).2.2 _ _ _ _) Z) (mU.mpr ⟨m,T,ab Q<|q⟩)
 ·refineλq=>aC (mU.mp q) λy F q=>?_;rw[au]at q;have c:=qo h hw pr (x:=x) F q.1;have A:=(qo h hw pr (x:=m) F q.1).1;have o:=(C y).1;rw[<-(C x).2];have:iS (fU a b d) w pr x=iS (fU a b d) w pr y:=c.2.mpr (qT λv D=>by
   have:=ig q.2 D;simp only[fy]at this⊢;refine ak this (λg=>?_) λg=>?_
   ·exact .inl (.inl g)
   ·exact .inr g)
  lia
omit hw in
theorem Dh{H:Nat->Nat}{A:Nat->Bool}(L:∀v,v<5->A v=true):jM (sh (sA a b d) H A)=jM (jY (sA a b d) H):=by
 refine s9 λx Z=>?_;rw[lG];constructor
 ·refineλq=>aC (mU.mp q) λy F q=>?_;rw[au]at q;have:x=y:=WC h Z F λv D=>by
   have:=ig q.2 D;simpa[L v D]using this
  exact ab this<|q.1
 ·refineλq=>mU.mpr ⟨x,Z,by exact ab q<|ab (kW ..)<|qT λv z=>by refine ab (beq_self_eq_true ..) ?_;rfl⟩
end
section
variable{P:Nat->iy}{a b d:Nat}{w:Nat->Int}
structure qR (P:Nat->iy):Prop where
 ok:∀p,p<4->(P p).Ok
 apart:∀p q,p<4->q<4->p≠q->sg (P p) (P q)
 low:∀p,p<4->∀x∈(P p).mark,gX x
 Th:∀p,p<4->gX (P p).L
theorem Bc(Q:iy):Q.pZ<=2:=by
 delta iy.pZ;generalize Q.t=t;rcases t with _|_|t
 ·exact bz 2
 ·exact nu 1
 ·exact aV 2
theorem uk(Q:iy)(u:Bool):(Q.str u).length<=2:=by
 rcases u with⟨⟩
 ·exact cj.mp rfl
 ·exact(oT Q).1
theorem um(m:qR P){p:Nat}(B:p<4)(u:Bool):∀x∈(P p).str u,gX x:=by
 delta iy.str;rcases u with⟨⟩
 ·intro x Z;simp at Z;exact ab Z<|m.Th p B
 ·exact m.low p B
theorem AU(P:Nat->iy)(u:Nat->Bool):(km P u).length<=30:=by
 delta km;have Y:=uk (P 0) (u 0);have J:=uk (P 1) (u 1);have U:=uk (P 2) (u 2);have S:=uk (P 3) (u 3)
 simp only[cK];lia
theorem AW(m:qR P)(u:Nat->Bool):∀x∈km P u,gX x:=by
 intro x Z;simp only[km,dw]at Z;refine ak Z (λh=>?_) λH=>ak H (λh=>?_) λg=>ak g (λh=>?_) λh=>?_
 ·exact um m (by decide) _ x h
 ·exact um m (by decide) _ x h
 ·exact um m (by decide) _ x h
 ·exact um m (by decide) _ x h
noncomputable def under(a b d s p:Nat):Bool:=sA a b d (p+1) s
noncomputable def yR(P:Nat->iy)(a b d s:Nat):List Nat:=km P (under a b d s)
noncomputable def ot(P:Nat->iy)(p:Nat):Nat:=(P p).pZ
noncomputable def DD(P:Nat->iy)(a b d x y:Nat):Nat:=mf (fU a b d) (ot P) y x
theorem qm(u x p:Nat):cond (fU a b d) u x (p+1)=(under a b d u p !=under a b d x p):=by
 unfold cond under sA;have Y:(p+1==0)=false:=by rfl
 simp only[Y,iW,iW];rfl
theorem Kt(m:qR P)(x y:Nat):yN fC (yR P a b d x) (yR P a b d y)=DD P a b d x y:=by
 refine ab (Gn m.ok m.apart) ?_;have e:∀p,TG P (under a b d x) (under a b d y) p=if cond (fU a b d) y x (p+1)then ot P p else 0:=by refineλp=>ab (qm ..) ?_;unfold TG ot;cases under a b d x p<;>cases under a b d y p<;>rfl
 refine ab (e ..) (ab (e ..) (ab (e ..) (ab (e ..) ?_)));show _=(if cond (fU a b d) y x (0+1)then ot P 0 else 0)+((if cond (fU a b d) y x (1+1)then ot P 1 else 0)+((if cond (fU a b d) y x (2+1)then ot P 2 else 0)+(if cond (fU a b d) y x (3+1)then ot P 3 else 0)));exact ab (zH ..) (ab (zH ..) rfl)
theorem Na(x y:Nat):DD P a b d x y=DD P a b d y x:=by
 have e:∀p,cond (fU a b d) y x p=cond (fU a b d) x y p:=by intro p;delta cond;cases decide (p∈fU a b d y)<;>cases decide (p∈fU a b d x)<;>rfl
 unfold DD mf;exact ab (e ..) (ab (e ..) (ab (e ..) (ab (e ..) rfl)))
theorem M9(x:Nat):DD P a b d x x=0:=by
 have e:∀p,cond (fU a b d) x x p=false:=by intro p;delta cond;cases decide (p∈fU a b d x)<;>rfl
 unfold DD mf;refine ab (e ..) (ab (e ..) (ab (e ..) (ab (e ..) ?_)));rfl
theorem U3(x y:Nat):DD P a b d x y<=100:=by
 have e:∀p (c:Bool),(if c then ot P p else 0)<=2:=by
  intro p c;rcases c with⟨⟩
  ·exact dT rfl
  ·exact Bc (P p)
 have Y:=e 0 (cond (fU a b d) y x 1);have J:=e 1 (cond (fU a b d) y x 2);have U:=e 2 (cond (fU a b d) y x 3);have S:=e 3 (cond (fU a b d) y x 4)
 unfold DD mf;lia
noncomputable def lT(P:Nat->iy)(a b d:Nat):AV:=.lst (cE λs=>.str (yR P a b d s))
noncomputable def Bx(P:Nat->iy)(a b d:Nat):AV:=.lst (cE λx=>.lst (cE λy=>nI (DD P a b d x y)))
noncomputable def wV(w:Nat->Int):AV:=.lst (cE λi=>.int (w i))
noncomputable def Rb(P:Nat->iy):AV:=.lst (qw λp=>nI (ot P p))
noncomputable def Ah(P:Nat->iy)(a b d:Nat)(w:Nat->Int):AV:=.lst (cE λx=>.int (iS (fU a b d) w (ot P) x))
theorem PV(k:Nat)(m:qR P):(BK (k+3)).O 19 [lT P a b d]=some (Bx P a b d):=by
 have h:=Ui (k+2) (nm:=yR P a b d) (W:=λx y=>DD P a b d x y) λx y z z=>ab (XR k (a:=yR P a b d x) (b:=yR P a b d y) (AU _ _) (AU _ _) (AW m _) (AW m _)) (ab (Kt m ..) rfl);refine ab h ?_;congr 2;have e:(λx=>AV.lst (cE λy=>nI (if y<x then DD P a b d x y else if x<y then DD P a b d y x else 0)))=λx=>.lst (cE λy=>nI (DD P a b d x y)):=by
  funext x;congr 2;funext y;congr 1;split
  ·rfl
  ·split
   ·exact Na _ _
   ·have:x=y:=by lia
    exact ab this<|ab (M9 ..) rfl
 exact congrArg _ e
theorem Ji(k:Nat)(h:fq a b d):(BK (k+1)).O 21 [wC a b d,wV w,Rb P]=some (Ah P a b d w):=
 NC (Ic h) λi=>Bc (P i)
theorem Fz(k:Nat)(T:List Nat):(BK (k+1)).O 22 [Bx P a b d,wV w,Ah P a b d w,.lst (bq T)]=some (.bool (decide (yd (iS (fU a b d) w (ot P))=T))):=by refine Ih U3 λx z=>?_;unfold Uj iS DD;lia
noncomputable def XF(n p t:Nat):CE:=.call 22 [(.call 19 [(.a n)]),(.a 19),(.call 21 [(.a 2),(.a 19),(.a p)]),(.a t)]
theorem Ig(k:Nat){st:St}{loc:Loc}{n p t:Nat}{T:List Nat}(m:qR P)(h:fq a b d)(Q:ev (BK (k+3)) st (.a n) loc=some (lT P a b d))(o:ev (BK (k+3)) st (.a 19) loc=some (wV w))(U:ev (BK (k+3)) st (.a 2) loc=some (wC a b d))
 (B:ev (BK (k+3)) st (.a p) loc=some (Rb P))(A:ev (BK (k+3)) st (.a t) loc=some (.lst (bq T))):ev (BK (k+3)) st (XF n p t) loc=some (.bool (decide (yd (iS (fU a b d) w (ot P))=T))):=by
 have e1:ev (BK (k+3)) st (.call 19 [.a n]) loc=some (Bx P a b d):=eP (vs:= [lT P a b d]) (by simp only[af,(id jW),Q,aj,af,aJ]) rfl (PV k m);have e2:ev (BK (k+3)) st (.call 21 [(.a 2),(.a 19),(.a p)]) loc=some (Ah P a b d w):=eP (vs:= [wC a b d,wV w,Rb P]) (by simp only[af,(id jW),U,o,B,aj,af,aJ]) rfl (Ji (k+2) h);refine eP (vs:= [Bx P a b d,wV w,Ah P a b d w,.lst (bq T)]) (by simp only[af,(id jW),e1,e2,o,A,aj,af,aJ]) ?_ (Fz (k+2) T);have:dU (bq T)=true:=iH T;simp only[(id mz),(id qC),this,Bx,wV,Ah,cE,nI,nx]
end
noncomputable def kN(f:Nat->AV)(i:Nat)(v:AV):Nat->AV:=λj=>if j=i then v else f j
noncomputable def LF(f:Nat->AV):Loc:=(aG 29).map f
theorem iI{f:Nat->AV}{i j:Nat}{v:AV}(h:j≠i):kN f i v j=f j:=if_neg h
theorem eW{f:Nat->AV}{i:Nat}{v:AV}:kN f i v i=v:=if_pos rfl
noncomputable def Zc:AV->Bool
 | .c=>true
 |_=>false
theorem Ku{f:Nat->AV}{i:Nat}(hi:i<29):(LF f)[i]? =some (f i):=by simp[LF,hi]
theorem ec{f:Nat->AV}{i:Nat}{v:AV}(hi:i<29):ek (LF f) i v=some (LF (kN f i v)):=by
 delta ek;refine ab (if_pos (hi)) ?_;congr 1;refine List.ext_getElem (by simp[LF]) λn J U=>?_;simp only[LF,List.getElem_set,uz,mG,kN];by_cases e:n=i
 ·subst e;rfl
 ·exact ab (if_neg e) (ab (if_neg λq=>e q.symm) rfl)
theorem fu{C:dC}{st:St}{f:Nat->AV}{i:Nat}{v:AV}(hi:i<29)(h:f i=v)(Q:Zc v=false):ev C st (.a i) (LF f)=some v:=by
 have e:ev C st (.a i) (LF f)=match(LF f)[i]? with
  |none=>none
  |some .c=>none
  |some v=>some v:=rfl
 refine ab e (ab (Ku hi) (ab h ?_));rcases v with⟨⟩<;>first|rfl|rcases Q with⟨⟩
theorem Aq{C:dC}{st:St}{loc:Loc}{x y:CE}{p q:Bool}(J:ev C st x loc=some (.bool p))(U:ev C st y loc=some (.bool q)):ev C st (.band [x,y]) loc=some (.bool (p&&q)):=by
 rcases p with⟨⟩
 ·exact mq J rfl
 ·exact yu J rfl U rfl
theorem El{st:St}(x y:Nat):fk st .LtE (nI x) (nI y)=some (decide (x<=y)):=by simp only[nI,(id cb)];congr 1;exact decide_eq_decide.mpr eG
theorem QZ{st:St}(x y:Nat):fk st .Lt (nI x) (nI y)=some (decide (x<y)):=by simp only[nI,(id cb)];congr 1;exact decide_eq_decide.mpr fh
theorem Sj{C:dC}{st:St}{loc:Loc}{x y z:CE}{p q r:Nat}(J:ev C st x loc=some (nI p))(U:ev C st y loc=some (nI q))(S:ev C st z loc=some (nI r)):ev C st (.C .LtE .LtE x y z) loc=some (.bool (decide (p<=q)&&decide (q<=r))):=by
 by_cases h:p<=q
 ·exact ab (decide_eq_true h)<|ab (kW ..)<|rf J U (ab (El ..) (ab (decide_eq_true h) rfl)) S (El _ _)
 ·exact ab (decide_eq_false h)<|ab (mE ..)<|uZ J U (ab (El ..) (ab (decide_eq_false h) rfl))
theorem NN{C:dC}{st:St}{loc:Loc}{x y z:CE}{p q r:Nat}(J:ev C st x loc=some (nI p))(U:ev C st y loc=some (nI q))(S:ev C st z loc=some (nI r)):ev C st (.C .Lt .LtE x y z) loc=some (.bool (decide (p<q)&&decide (q<=r))):=by
 by_cases h:p<q
 ·exact ab (decide_eq_true h)<|ab (kW ..)<|rf J U (ab (QZ ..) (ab (decide_eq_true h) rfl)) S (El _ _)
 ·exact ab (decide_eq_false h)<|ab (mE ..)<|uZ J U (ab (QZ ..) (ab (decide_eq_false h) rfl))
noncomputable def A8(c:Nat->Bool)(g:Nat->AV):List AV:=(if c 0 then[g 0]else[])++((if c 1 then[g 1]else[])++((if c 2 then[g 2]else[])++((if c 3 then[g 3]else[])++((if c 4 then[g 4]else[])++ []))))
theorem yx{C:dC}{st:St}{f:Nat->AV}{i:Nat}{e t:CE}{c:Nat->Bool}{g:Nat->AV}(hi:i<29)(J:∀u,u<5->ev C st t (LF (kN f i (nI u)))=some (.bool (c u)))(U:∀u,u<5->ev C st e (LF (kN f i (nI u)))=some (g u)):
 ev C st (.z e (.bX i) (.j [(.d 5)]) t) (LF f)=some (.lst (A8 c g)):=by
 have P:∀u:Nat,u<5->(do
  let loc'<-cT (LF f) (.bX i) (nI u)
  if<-cU st (<-ev C st t loc')then return some (<-ev C st e loc')else return none:Option (Option AV))=some (if c u then some (g u)else none):=by
  intro u N;have O:cT (LF f) (.bX i) (nI u)=some (LF (kN f i (nI u))):=ec hi;simp only[aj,O,af,J u N,(id lY),U u N,aJ];cases c u<;>rfl
 exact rg (v:=.lst [nI 0,nI 1,nI 2,nI 3,nI 4]) (l:= [nI 0,nI 1,nI 2,nI 3,nI 4]) rfl rfl
  (eU (P 0 (by decide)) (eU (P 1 (by decide)) (eU (P 2 (by decide)) (eU (P 3 (by decide)) (eU (l:= []) (r:= []) (P 4 (by decide)) rfl)))))
theorem m9{b:Bool}{x:Int}{l:List AV}{ns:List Int}(h:dM l=some ns):dM ((if b then[.int x]else[])++l)=some ((if b then[x]else[])++ns):=by
 rcases b with⟨⟩
 ·exact h
 ·show(dM l).map (x::·)=_;refine ab h ?_;rfl
theorem LR(b:Bool)(x:Int)(ns:List Int):((if b then[x]else[])++ns).sum=iw b x+ns.sum:=by
 rcases b with⟨⟩
 ·simp[iw]
 ·rfl
theorem ve{C:dC}{st:St}{loc:Loc}{e:CE}{c:Nat->Bool}{w:Nat->Int}(h:ev C st e loc=some (.lst (A8 c λu=>.int (w u)))):ev C st (.E e) loc=some (.int (iw (c 0) (w 0)+iw (c 1) (w 1)+iw (c 2) (w 2)+iw (c 3) (w 3)+iw (c 4) (w 4))):=by
 have e1:ev C st (.E e) loc=(do return .int (<-dM (<-jX st (<-ev C st e loc))).sum):=rfl;have e2:dM (A8 c λu=>.int (w u))=some ((if c 0 then[w 0]else[])++((if c 1 then[w 1]else[])++((if c 2 then[w 2]else[])++((if c 3 then[w 3]else[])++((if c 4 then[w 4]else[])++ []))))):=
  m9 (m9 (m9 (m9 (m9 rfl))))
 refine ab e1 (ab h ?_);simp only[(id Nf),aj,af,e2,LR,aJ];congr 2;show _+(_+(_+(_+(_+0))))=_;lia
section
variable{k:Nat}{ps:Nat->Nat}{a b d:Nat}{w:Nat->Int}{cs:List Int}{f:Nat->AV}{st:St}
structure kr (ps:Nat->Nat) (a b d:Nat) (w:Nat->Int) (cs:List Int) (f:Nat->AV):Prop where
 f1:f 1=.lst (cs.map .int)
 QQ:f 11=.lst (cE λi=>nI (ps (OI a b d i)))
 ML:f 12=.lst (cE λi=>nI (ps (MI a b d i)))
 Sl:f 19=wV w
 mono:∀i j,i<10->j<10->(ps i<=ps j↔i<=j)
theorem kr.upd(h:kr ps a b d w cs f){i:Nat}(v:AV)(hi:i=20\/i=21\/i=22\/i=23\/i=24):kr ps a b d w cs (kN f i v):=
 ⟨ab (iI (by lia))<|h.f1,ab (iI (by lia))<|h.QQ,ab (iI (by lia))<|h.ML,ab (iI (by lia))<|h.Sl,h.mono⟩
theorem za(h:fq a b d):UB a b d=true:=by have q:=aq.mp Pp (a,b,d) (xt h);exact q
theorem LQ(h:fq a b d){v u:Nat}(D:v<5)(N:u<5):subB a b d v u=sA a b d v u:=by
 have q:=za h;simp only[UB,au]at q;have P:=aq.mp (aq.mp q.1.1.2 u (aT.mpr N)) v (aT.mpr D);have F:=aq.mp q.1.2 u (aT.mpr N);delta sA;by_cases e:v=0
 ·subst e;refine ab F ?_;rfl
 ·have e:(v==0)=false:=beq_false_of_ne e;rw[e,zz]at P⊢;exact beq_iff_eq.mp P
theorem Hb(h:fq a b d){v u:Nat}(D:v<5)(N:u<5):(decide (OI a b d v<OI a b d u)&&decide (OI a b d u<=MI a b d v))=(sA a b d v u&&v !=u):=by have q:=za h;simp only[UB,au]at q;exact cA (LQ h D N)<|beq_iff_eq.mp (aq.mp (aq.mp q.2 u (aT.mpr N)) v (aT.mpr D))
theorem AG(h:fq a b d){u:Nat}(N:u<5):OI a b d u<10/\MI a b d u<10:=by have q:=za h;simp only[UB,au]at q;have P:=aq.mp q.1.1.1.2 u (aT.mpr N);simp only[au,decide_eq_true_eq]at P;exact⟨P.1.2,P.2⟩
theorem LP(h:fq a b d)(B:∀i j,i<10->j<10->(ps i<=ps j↔i<=j)){v u:Nat}(D:v<5)(N:u<5):(decide (ps (OI a b d v)<=ps (OI a b d u))&&decide (ps (OI a b d u)<=ps (MI a b d v)))=sA a b d v u:=by refine cA (LQ h D N) ?_;rewrite[decide_eq_decide.mpr (B _ _ (AG h D).1 (AG h N).1),decide_eq_decide.mpr (B _ _ (AG h N).1 (AG h D).2)];rfl
theorem Ha(h:fq a b d)(B:∀i j,i<10->j<10->(ps i<=ps j↔i<=j)){v u:Nat}(D:v<5)(N:u<5):(decide (ps (OI a b d v)<ps (OI a b d u))&&decide (ps (OI a b d u)<=ps (MI a b d v)))=(sA a b d v u&&v !=u):=by
 refine cA (Hb h D N) ?_;rewrite[decide_eq_decide.mpr (B _ _ (AG h N).1 (AG h D).2)];have e:ps (OI a b d v)<ps (OI a b d u)↔OI a b d v<OI a b d u:=by rw[<-jE,<-jE,B _ _ (AG h N).1 (AG h D).1]
 rw[decide_eq_decide.mpr e]
theorem vj{C:dC}{i j x:Nat}{g:Nat->AV}(hi:i<29)(Y:j<29)(J:f i=.lst (cE g))(U:f j=nI x)(Z:x<5):ev C st (.sub (.a i) (.a j)) (LF f)=some (g x):=
 dB (fu hi J rfl) (fu Y U rfl) (jd Z)
noncomputable def Yk:CE:=.E (.z (.sub (.a 19) (.a 20)) (.bX 20) (.j [(.d 5)]) (.C .LtE .LtE (.sub (.a 11) (.a 22)) (.sub (.a 11) (.a 20)) (.sub (.a 12) (.a 22))))
theorem W7(h:fq a b d)(P:kr ps a b d w cs f){v:Nat}(D:v<5)(A:f 22=nI v):ev (BK k) st Yk (LF f)=some (.int (Wt (sA a b d) w v)):=by
 refine ve (c:=λu=>sA a b d v u) (w:=w) (yx (by decide) (λu N=>?_) λu N=>?_)
 ·have m:=P.upd (nI u) (.inl rfl);exact cA (LP h P.mono D N)<|Sj (vj (g:=λi=>nI (ps (OI a b d i))) (by decide) (by decide) m.QQ A D) (vj (g:=λi=>nI (ps (OI a b d i))) (by decide) (by decide) m.QQ eW N) (vj (g:=λi=>nI (ps (MI a b d i))) (by decide) (by decide) m.ML A D)
 ·exact vj (by decide) (by decide) (P.upd (nI u) (.inl rfl)).Sl eW N
noncomputable def lH(w:Nat->Int)(a b d v:Nat):Nat:=kX (Wt (sA a b d) w v) (j9 w)
noncomputable def bH:List CS:= [.cI (.bX 23) Yk,.app 21 (.call 20 [(.a 23),(.E (.a 19)),(.sub (.a 1) (.d 10))])]
theorem AM{c:Bool}{x:Int}(h:0<=x):0<=iw c x/\iw c x<=x:=by
 rcases c with⟨⟩
 ·exact⟨g9 _,h⟩
 ·exact⟨h,g9 _⟩
theorem Qn(o:Fw w)(s:Nat->Nat->Bool)(v:Nat):0<=Wt s w v/\Wt s w v<=j9 w:=by
 have Y:0<=w 0:=by have:=o.w0;exact aF this
 have q0:=AM (c:=s v 0) Y;have P:=AM (c:=s v 1) o.w1;have F:=AM (c:=s v 2) o.w2;have t:=AM (c:=s v 3) o.w3;have L:=AM (c:=s v 4) o.w4
 exact⟨gO (gO (gO (gO q0.1 P.1) F.1) t.1) L.1,eF (eF (eF (eF q0.2 P.2) F.2) t.2) L.2⟩
theorem WX(h:fq a b d)(o:Fw w)(hW:j9 w<2^110)(V:cs.length=11)(P:kr ps a b d w cs f)(F:f 21=.ref 0){v:Nat}(D:v<5)(A:f 22=nI v){l:List AV}(X:l.length<=10):
 dh (BK (k+9)) bH (LF f) [some l]=some (.next,LF (kN f 23 (.int (Wt (sA a b d) w v))),[some (l++ [nI (lH w a b d v)])]):=by
 refine aO (gw (W7 h P D A) (ec (by decide))) ?_;have m:=P.upd (.int (Wt (sA a b d) w v)) (.inr (.inr (.inr (.inl rfl))));generalize H:kN f 23 (.int (Wt (sA a b d) w v))=g at*;have B:ev (BK (k+9)) [some l] (.a 23) (LF g)=some (.int (Wt (sA a b d) w v)):=fu (by decide) (cA H<|eW) rfl;have E:ev (BK (k+9)) [some l] (.E (.a 19)) (LF g)=some (.int (j9 w)):=(ve (C:=BK (k+9)) (st:= [some l]) (loc:=LF g) (e:=.a 19) (c:=λz=>true) (w:=w) (fu (by decide) m.Sl rfl));have I:ev (BK (k+9)) [some l] (.sub (.a 1) (.d 10)) (LF g)=some (.int (cs[10]'(by lia))):=
  dB (fu (by decide) m.f1 rfl) rfl (pd (i:=10) (by lia) (by refine ab V ?_;decide));clear m
 have N:=SD k (w:=Wt (sA a b d) w v) (W:=j9 w) (g:=cs[10]'(by lia)) (Qn o (sA a b d) v).1 (Qn o (sA a b d) v).2 (zP h o) hW;have G:(AV.int (if 2*Wt (sA a b d) w v<j9 w then 0 else if 2*Wt (sA a b d) w v=j9 w then 1 else 2))=nI (lH w a b d v):=by
  unfold lH kX nI;split
  ·rfl
  ·split<;>rfl
 simp only[G]at N;exact aO (jK (n:=0) (l:=l) (eP (C:=BK (k+9)) (st:= [some l]) (loc:=LF g) (f:=20) (l:= [(.a 23),(.E (.a 19)),(.sub (.a 1) (.d 10))]) (vs:= [.int (Wt (sA a b d) w v),.int (j9 w),.int (cs[10]'(by lia))]) (by simp only[af,(id jW),B,E,I,aj,af,aJ]) rfl N) (fu (by decide) (cA H<|F) rfl) rfl (by simp[cB];lia)) rfl
noncomputable def bT:List CS:= [.ite (.band [(.cmp .Gt (.sub (.a 21) (.a 22)) (.d 0)),(.cmp .Eq (.z (.a 20) (.bX 20) (.j [(.d 5)]) (.band [(.C .Lt .LtE (.sub (.a 11) (.a 22)) (.sub (.a 11) (.a 20)) (.sub (.a 12) (.a 22))),(.cmp .Eq (.sub (.a 21) (.a 20)) (.d 2))])) (.list []))])
 [.app 24 (.a 22)]
 []]
theorem Sh{c:Nat->Bool}{g:Nat->AV}:qp st (.lst (A8 c g)) (.lst [])=some (jG λu=> !c u):=by show D0 (A8 c g) []=some (!c 0&& !c 1&& !c 2&& !c 3&& !c 4);delta A8;cases c 0<;>cases c 1<;>cases c 2<;>cases c 3<;>cases c 4<;>rfl
theorem WY(h:fq a b d){H:Nat->Nat}(P:kr ps a b d w cs f)(F:f 21=.lst (cE λv=>nI (H v)))(E:f 24=.ref 1){v:Nat}(D:v<5)(A:f 22=nI v){l:List AV}(X:l.length<=10):
 dh (BK k) bT (LF f) [none,some l]=some (.next,LF f,[none,some (l++if jY (sA a b d) H v then[nI v]else[])]):=by
 have B:=yx (C:=BK k) (st:= [none,some l]) (f:=f) (i:=20) (e:=.a 20) (t:=.band [(.C .Lt .LtE (.sub (.a 11) (.a 22)) (.sub (.a 11) (.a 20)) (.sub (.a 12) (.a 22))),(.cmp .Eq (.sub (.a 21) (.a 20)) (.d 2))]) (c:=λu=>(sA a b d v u&&v !=u)&&(H u==2)) (g:=nI) (by decide) (λu N=>by
  refine cA (Ha h P.mono D N)<|Aq (NN (vj (g:=λi=>nI (ps (OI a b d i))) (by decide) (by decide) (P.upd (nI u) (.inl rfl)).QQ A D) (vj (g:=λi=>nI (ps (OI a b d i))) (by decide) (by decide) (P.upd (nI u) (.inl rfl)).QQ eW N) (vj (g:=λi=>nI (ps (MI a b d i))) (by decide) (by decide) (P.upd (nI u) (.inl rfl)).ML A D)) (cc (y:=.int 2) (vj (g:=λi=>nI (H i)) (by decide) (by decide) F eW N) rfl ?_);show some ((H u:Int)==2)=_;congr 1;lia) (λu N=>fu (by decide) eW rfl)
 have I:ev (BK k) [none,some l] (.cmp .Gt (.sub (.a 21) (.a 22)) (.d 0)) (LF f)=some (.bool (BY 0 (H v))):=cc (y:=.int 0) (vj (g:=λi=>nI (H i)) (by decide) (by decide) F A D) rfl (by show some (decide ((0:Int)< (H v:Int)))=_;congr 1;rewrite[lG];exact ab decide_eq_true_eq<|ab Xw<|Int.natCast_pos)
 refine aO (eu (r:=jY (sA a b d) H v) (Aq I (cc (op:=.Eq) (e:=.list []) (y:=.lst []) B rfl Sh)) rfl ?_) rfl;by_cases Q:jY (sA a b d) H v=true
 ·exact ab Q<|bp (if_pos rfl)<|ab (if_pos rfl)<|aO (jK (n:=1) (l:=l) (fu (by decide) A rfl) (fu (by decide) E rfl) rfl (by simp[cB];lia)) rfl
 ·have Q:jY (sA a b d) H v=false:=by simpa using Q
  refine ab Q (bp (if_neg (by simp)) (ab (if_neg (by simp)) (ab (ik ..) ?_)));rfl
structure HE (ps:Nat->Nat) (a b d:Nat) (w:Nat->Int) (cs:List Int) (f:Nat->AV):Prop where
 e:kr ps a b d w cs f
 r:f 21=.ref 0
structure TE (ps:Nat->Nat) (a b d:Nat) (w:Nat->Int) (cs:List Int) (H:Nat->Nat) (f:Nat->AV):Prop where
 e:kr ps a b d w cs f
 h:f 21=.lst (cE λv=>nI (H v))
 r:f 24=.ref 1
noncomputable def fH(a b d:Nat)(w:Nat->Int)(f:Nat->AV)(v:Nat):Nat->AV:=kN (kN f 22 (nI v)) 23 (.int (Wt (sA a b d) w v))
noncomputable def fT(f:Nat->AV)(v:Nat):Nat->AV:=kN f 22 (nI v)
theorem w9{i v:Nat}(U:i≠22)(S:i≠23):fH a b d w f v i=f i:=by delta fH;exact ab (iI S) (ab (iI U) rfl)
theorem HE.step(h:HE ps a b d w cs f)(v:Nat):HE ps a b d w cs (fH a b d w f v):=
 ⟨(h.e.upd _ (.inr (.inr (.inl rfl)))).upd _ (.inr (.inr (.inr (.inl rfl)))),ab (w9 (by decide) (by decide))<|h.r⟩
theorem TE.step{H:Nat->Nat}(h:TE ps a b d w cs H f)(v:Nat):TE ps a b d w cs H (fT f v):=
 ⟨h.e.upd _ (.inr (.inr (.inl rfl))),h.h,h.r⟩
theorem Y9(h:fq a b d)(o:Fw w)(hW:j9 w<2^110)(V:cs.length=11)(P:HE ps a b d w cs f){v:Nat}(D:v<5){l:List AV}(X:l.length<=10){L:List AV}:
 iP (.bX 22) (λloc st=>dh (BK (k+9)) bH loc st) (nI v::L) (LF f) [some l]=iP (.bX 22) (λloc st=>dh (BK (k+9)) bH loc st) L (LF (fH a b d w f v)) [some (l++ [nI (lH w a b d v)])]:=
 bf (ec (by decide)) (WX h o hW V (P.e.upd _ (.inr (.inr (.inl rfl)))) P.r D eW X) rfl
theorem Za(h:fq a b d){H:Nat->Nat}(P:TE ps a b d w cs H f){v:Nat}(D:v<5){l:List AV}(X:l.length<=10){L:List AV}:
 iP (.bX 22) (λloc st=>dh (BK k) bT loc st) (nI v::L) (LF f) [none,some l]=iP (.bX 22) (λloc st=>dh (BK k) bT loc st) L (LF (fT f v)) [none,some (l++if jY (sA a b d) H v then[nI v]else[])]:=
 bf (ec (by decide)) (WY h (P.e.upd _ (.inr (.inr (.inl rfl)))) P.h P.r D eW X) rfl
theorem N6{c:Bool}{x:AV}:(if c then[x]else[]).length<=1:=by rcases c with⟨⟩<;>exact cj.mp rfl
theorem XT{H:Nat->Nat}(q:∀v,v<5->H v<=2):fk st .In (.int 9) (.lst (cE λv=>nI (H v)))=some false:=by
 have e:=yE 9 [H 0,H 1,H 2,H 3,H 4];have e2:fk st .In (.int 9) (.lst (cE λv=>nI (H v)))=CH (nI 9) (bq [H 0,H 1,H 2,H 3,H 4]):=rfl;refine ab e2 (ab e ?_);rw[decide_eq_false];intro T;have q0:=q 0 (by decide);have P:=q 1 (by decide);have F:=q 2 (by decide);have t:=q 3 (by decide);have L:=q 4 (by decide)
 simp only[aS,dy,or_false]at T;lia
theorem qv{g g':Nat->AV}(h:∀v,v<5->g v=g' v):cE g=cE g':=by delta cE;exact ab (h 0 (by decide)) (ab (h 1 (by decide)) (ab (h 2 (by decide)) (ab (h 3 (by decide)) (ab (h 4 (by decide)) rfl))))
theorem U4(v:Nat):HH (sA a b d) w v<=2:=by
 have q:∀t W,kX t W<=2:=λt W=>by
  delta kX;split
  ·decide
  ·split<;>decide
 show Hf _ _ _ _ v<=2;rcases v with _|_|_|_|v
 ·exact aV 2
 all_goals exact q _ _
noncomputable def nh(a b d:Nat)(w:Nat->Int):List Nat:=jM (jY (sA a b d) (HH (sA a b d) w))
theorem JK(G:Nat->Bool):((((([]++if G 0 then[nI 0]else[])++if G 1 then[nI 1]else[])++if G 2 then[nI 2]else[])++if G 3 then[nI 3]else[])++if G 4 then[nI 4]else[])=bq (jM G):=by delta jM;cases G 0<;>cases G 1<;>cases G 2<;>cases G 3<;>cases G 4<;>rfl
theorem V5(h:fq a b d)(o:Fw w)(hW:j9 w<2^110)(V:cs.length=11)(P:kr ps a b d w cs f):∃K,(∀i,i≠21->i≠22->i≠23->i≠24->K i=f i)/\K 24=.lst (bq (nh a b d w))/\∀(l:List CS) (v:AV),eC (BK (k+9)) l (LF K) [none,none] v->
 eC (BK (k+9)) (.new 21 (.list []):: .m (.bX 22) (.j [(.d 5)]) bH:: .q 21:: .ite (.cmp .In (.d 9) (.a 21)) [.ret (.v false)] []:: .new 24 (.list []):: .m (.bX 22) (.j [(.d 5)]) bT:: .q 24::l) (LF f) [] v:=by
 let H:=HH (sA a b d) w;let I:=kN f 21 (.ref 0);let g5:=fH a b d w (fH a b d w (fH a b d w (fH a b d w (fH a b d w I 0) 1) 2) 3) 4;let E:=kN g5 21 (.lst (cE λv=>nI (H v)));let t:=kN E 24 (.ref 1);let F:=fT (fT (fT (fT (fT t 0) 1) 2) 3) 4;let N:=kN F 24 (.lst (bq (nh a b d w)));have O:HE ps a b d w cs I:=⟨P.upd _ (.inr (.inl rfl)),eW⟩;have S:=O.step 0;have W:=S.step 1;have R:=W.step 2;have Y:=R.step 3;have Z:=Y.step 4;have A:∀i,i≠21->i≠22->i≠23->g5 i=f i:=λi u n2 M=>by
  show fH a b d w (fH a b d w (fH a b d w (fH a b d w (fH a b d w I 0) 1) 2) 3) 4 i=_;exact ab (w9 n2 M)<|ab (w9 n2 M)<|ab (w9 n2 M)<|ab (w9 n2 M)<|ab (w9 n2 M)<|iI u
 have j:TE ps a b d w cs H t:=⟨(Z.e.upd _ (.inr (.inl rfl))).upd _ (.inr (.inr (.inr (.inr rfl)))),(iI (f:=E) (by decide)).trans eW,eW⟩;have m:=j.step 0;have p:=m.step 1;have q:=p.step 2;have r:=q.step 3;have te5:=r.step 4;refine⟨N,λi u n2 M B=>?_,eW,λl v X=>?_⟩
 ·show kN (fT (fT (fT (fT (fT t 0) 1) 2) 3) 4) 24 _ i=_;refine ab (iI B) ?_;delta fT;refine ab (iI n2) (ab (iI n2) (ab (iI n2) (ab (iI n2) (ab (iI n2) ?_))));show kN (kN g5 21 _) 24 _ i=_;exact ab (iI B)<|ab (iI u)<|A i u n2 M
 refine .next (iO (l:= []) (loc':=LF I) rfl rfl (ec (by decide))) ?_;have T:=λ(f:Nat->AV) (P:HE ps a b d w cs f) (v:Nat) (D:v<5) (l L:List AV) (X:l.length<=10)=>Y9 (k:=k) h o hW V P D X (L:=L);refine .sx (a:=.lst [nI 0,nI 1,nI 2,nI 3,nI 4]) (L:= [nI 0,nI 1,nI 2,nI 3,nI 4]) (loc':=LF g5) (st':= [some (cE λv=>nI (lH w a b d v))]) rfl rfl
  ((T _ O 0 (by decide) _ _ (cj.mp rfl)).trans ((T _ S 1 (by decide) _ _ (by simp)).trans ((T _ W 2 (by decide) _ _ (by simp)).trans ((T _ R 3 (by decide) _ _ (by simp)).trans ((T _ Y 4 (by decide) _ _ (by simp)).trans rfl))))) ?_
 have ef:(cE λv=>nI (lH w a b d v))=cE λv=>nI (H v):=qv λv D=>by
  show nI _=nI (HH (sA a b d) w v);refine ab (DJ h o D) ?_;rfl
 refine ab ef<|.next (ji (n:=0) (l:=cE λv=>nI (H v)) (l':=cE λv=>nI (H v)) (st':= [none]) (fu (by decide) Z.r rfl) rfl rfl (ec (by decide)))<|.jo (cc (x:=.int 9) (y:=.lst (cE λv=>nI (H v))) rfl (fu (by decide) (f:=E) eW rfl) (XT λv z=>U4 v))<|.next (iO (l:= []) (loc':=LF t) rfl rfl (ec (by decide))) ?_;have U:=λ(f:Nat->AV) (P:TE ps a b d w cs H f) (v:Nat) (D:v<5) (l L:List AV) (X:l.length<=10)=>Za (k:=k+9) h P D X (L:=L);have e1:∀(c:Bool) (x:AV) (l:List AV) (n:Nat),l.length<=n->(l++if c then[x]else[]).length<=n+1:=λc x l n Q=>by
  refine ab cK ?_;have:=N6 (c:=c) (x:=x);exact iY Q this
 let G:=jY (sA a b d) H;have J:([]:List AV).length<=0:=aV _;have z1:=e1 (G 0) (nI 0) _ _ J;have C:=e1 (G 1) (nI 1) _ _ z1;have g:=e1 (G 2) (nI 2) _ _ C;have s:=e1 (G 3) (nI 3) _ _ g;refine .sx (a:=.lst [nI 0,nI 1,nI 2,nI 3,nI 4]) (L:= [nI 0,nI 1,nI 2,nI 3,nI 4]) (loc':=LF F) (st':= [none,some (bq (nh a b d w))]) rfl rfl
  ((U _ j 0 (by decide) _ _ (by decide)).trans ((U _ m 1 (by decide) _ _ (aP z1 (by decide))).trans ((U _ p 2 (by decide) _ _ (aP C (by decide))).trans ((U _ q 3 (by decide) _ _ (aP g (by decide))).trans ((U _ r 4 (by decide) _ _ (aP s (by decide))).trans ?_))))) ?_
 ·have e:=JK G;show some (Fl.next,LF F,[none,some ((((([]++if G 0 then[nI 0]else[])++if G 1 then[nI 1]else[])++if G 2 then[nI 2]else[])++if G 3 then[nI 3]else[])++if G 4 then[nI 4]else[])])=_;refine ab e ?_;rfl
 refine .next (ji (n:=1) (l:=bq (nh a b d w)) (l':=bq (nh a b d w)) (st':= [none,none]) (loc':=LF N) (fu (by decide) te5.r rfl) rfl (iD _ (iH _)) (ec (by decide))) X
end
noncomputable def Wu:Nat->List Nat->List Nat
 |_,[]=> []
 |n+1,_::r=>Wu n r
 |0,c::r=>if(c::r).take 5=qq then Wu 4 r else c::Wu 0 r
noncomputable def rp(l:List Nat):List Nat:=Wu 0 l
theorem Bg:∀(n:Nat) (l:List Nat),Wu n l=rp (l.drop n)
 |0,_=>rfl
 |_+1,[]=>rfl
 |n+1,_::r=>Bg n r
theorem Lf:rp []= []:=rfl
theorem yZ{c:Nat}{r:List Nat}(h:(c::r).take 5≠qq):rp (c::r)=c::rp r:=if_neg h
theorem Le{l:List Nat}(h:l.take 5=qq):rp l=rp (l.drop 5):=by
 rcases l with _|⟨c,r⟩
 ·injection h
 ·exact(if_pos h).trans (Bg 4 r)
theorem EG:∀(n:Nat) (l:List Nat),(∀k,k<n->(l.drop k).take 5≠qq)->rp l=l.take n++rp (l.drop n):=by
 intro G
 induction G with
 |zero=>
  exactλl z=>rfl
 |succ n P=>
  intro H h;rcases H with _|⟨c,r⟩
  ·rfl
  ·simp only[yZ (h 0 (MY n)),List.take_succ_cons,List.drop_succ_cons,da,P r λk I=>h (k+1) (Fh I 1)]
theorem IH{x:bj}{k:Nat}:UP x (strOf qq) x.length k↔(x.cps.toList.drop k).take 5=qq:=by
 have X:(strOf qq).length=5:=rfl;have Q:x.cps.toList.length=x.length:=by rfl
 delta UP;refine ab (StrLaws.subAt_eq ..) (ab X ?_);constructor
 ·exactλh=>eq_of_beq h.2
 ·refineλh=>⟨?_,beq_iff_eq.mpr h⟩;have:=congrArg dp h;rw[br,bB,Q]at this;have O:qq.length=5:=rfl;lia
theorem OB(x:bj):∀(B:List Nat) (a f:Nat),StrLaws.ChainG x (strOf qq) x.length a B f->(∀k,f<=k->¬UP x (strOf qq) x.length k)->(xV ⟨#[]⟩ (Xh x 5 a B)).cps.toList=rp (x.cps.toList.drop a):=by
 intro G
 induction G with
 |nil=>
  intro a f h Q;subst h;have X:x.cps.toList.length=x.length:=by rfl
  exact ab (Qi ..) (ab (EG (x.cps.toList.drop f).length _ (λk z=>ab dJ<|λq=>Q (f+k) (ja f k) (IH.mpr q))) (ab oe (ab Lf (ab (ik ..) (ab bB (ab X rfl))))))
 |cons c r A=>
  refineλa f h Q=>ej (StrLaws.partsFrom_ne x 5 (c+5) r) λp q e=>?_;have R:=A (c+5) f h.2.2.2 Q;show(xV ⟨#[]⟩ (wj x a c::Xh x 5 (c+5) r)).cps.toList=_;rw[e]at R⊢;show(wj x a c++⟨#[]⟩++xV ⟨#[]⟩ (p::q)).cps.toList=_;refine ab (EG (c-a) _ (λk I=>ab dJ<|λq=>h.2.2.1 (a+k) (ja a k) (Nat.add_lt_of_lt_sub' I) (IH.mpr q))) (ab dJ (ab (show a+(c-a)=c by exact tP h.1) (ab (Le (IH.mp h.2.1)) (ab dJ (cA R ?_)))));simp only[bj.cps_append,Array.toList_append,Qi];simp
theorem OZ(x:List Nat):tv x qq []=rp x:=by
 refine aC (StrLaws.occ_tight (strOf x) (strOf qq) (by decide)) λf D Q=>?_;have Z:(strOf x).cps.toList=x:=by rfl
 have S:=OB (strOf x) _ 0 f D Q;unfold tv Txt.replace;rcases ho:qa (strOf x) (strOf qq) 0 (strOf x).length ((strOf x).length+1)with _|⟨c,r⟩
 ·rw[ho]at S;refine ab (if_pos (show([]:List Nat).isEmpty=true from rfl)) (ab Z (cA S ?_));show x=(wj (strOf x) 0 (strOf x).length).cps.toList;exact ab (StrLaws.sub_whole (strOf x)) (ab Z rfl)
 ·rw[ho]at S;exact ab (if_neg (ne_true_of_eq_false rfl))<|ab (Qh ..)<|ab (StrLaws.partsBetween_eq ..)<|S
def DI(b:lA):Prop:=(b.1=true/\∀x∈b.2,x≠34/\x≠92)\/(b.1=false/\∃i,b.2=JJ i)
theorem nS{c:Nat}{r:List Nat}(h:c≠34):rp (c::r)=c::rp r:=yZ λq=>h (by have:=congrArg List.head? q;simpa[qq]using this)
theorem Lg:∀{t r:List Nat},(∀x∈t,x≠34/\x≠92)->rp (t++r)=t++rp r:=by
 intro G
 induction G with
 |nil=>
  intro r z;exact rfl
 |cons c t P=>
  intro r h;exact ab da (ab (nS (h c aH).1) (ab (P λx Z=>h x (ax _ Z)) (ab da rfl)))
theorem Ld:∀{bs:List lA},(∀b∈bs,DI b)->(34::aR bs).take 5≠qq:=by
 intro G
 induction G with
 |nil=>
  exactλz=>ib (not_eq_of_beq_eq_false rfl)
 |cons C bs P=>
  rcases C with⟨k,t⟩;intro h;have O:=h _ aH;clear h;simp only[dj];refineλq=>ak O (λH=>aN H λJ U=>?_) λg=>aN g λJ z=>?_;clear H;clear O
  ·have J:k=true:=J;subst J;rcases t with _|⟨c,t⟩
   ·rcases bs with _|⟨b,bs⟩
    ·exact absurd q (by decide)
    ·rw[dj]at q;have:=(yg b.1).1;simp[qq,pQ]at q this;exact this q.1
   ·have:=(U c aH).2;simp[qq,pQ]at q;exact this q.1
  ·have J:k=false:=J;subst J;simp[qq,pQ]at q
theorem F2(i:Nat):JJ i= []\/JJ i= [92,41]\/JJ i=qq\/JJ i= [92,92]\/JJ i= [92,34]:=by
 rcases i with _|_|_|_|i
 ·exact .inl rfl
 ·exact .inr (.inl rfl)
 ·exact .inr (.inr (.inl rfl))
 ·exact .inr (.inr (.inr (.inl rfl)))
 ·exact .inr (.inr (.inr (.inr rfl)))
theorem O1:∀{bs:List lA},(∀b∈bs,DI b)->rp (aR bs)=aR (eV bs):=by
 intro G
 induction G with
 |nil=>
  exactλz=>Lf
 |cons C bs P=>
  rcases C with⟨k,t⟩;intro h;have O:=h _ aH;have U:∀b∈bs,DI b:=λb O=>h b (ax _ O);clear h;have e:eV ((k,t)::bs)=(k,wF t)::eV bs:=rfl;simp only[e,dj,dj,nS (yg k).2,<-(P U)];congr 1;have A:(∀x∈t,x≠34/\x≠92)->rp (t++aR bs)=wF t++rp (aR bs):=λB=>by
   have L:t≠qq:=λe=>by subst e;exact(B 34 (dQ rfl)).1 rfl
   delta wF;exact ab (if_neg L)<|Lg B
  rcases O with⟨_,B⟩|⟨_,i,hi⟩
  ·exact A B
  ·have hi:t=JJ i:=hi;refine ak (F2 i) (λe=>?_) λH=>ak H (λe=>?_) λg=>ak g (λe=>?_) λT=>ak T (λe=>?_) λe=>?_<;>simp only[e]at hi<;>subst hi
   ·exact A (λx Z=>nomatch Z)
   ·show rp (92::41::aR bs)= [92,41]++rp (aR bs);refine ab (nS (by decide)) (ab (nS (by decide)) ?_);rfl
   ·refine bp (Le (List.take_left (l₁:=qq))) (ab (show wF qq= []from rfl) ?_);congr 1
   ·show rp (92::92::aR bs)= [92,92]++rp (aR bs);refine ab (nS (by decide)) (ab (nS (by decide)) ?_);rfl
   ·show rp (92::34::aR bs)= [92,34]++rp (aR bs);refine ab (nS (by decide)) (ab (yZ (Ld U)) ?_);rfl
theorem Hh:∀(bs M:List lA),(kY true M.length (bs.map (·.1))).map (λi=>AV.str (((M++bs)[i]?).getD (true,[])).2)=(bs.filter (·.1)).map λb=>.str b.2:=by
 intro G
 induction G with
 |nil=>
  exactλM=>rfl
 |cons C bs A=>
  rcases C with⟨k,t⟩;intro M;have R:=A (M++ [(k,t)]);rw[cK,pM,tJ]at R;have R:(kY true (M.length+1) (bs.map (·.1))).map (λi=>AV.str (((M++(k,t)::bs)[i]?).getD (true,[])).2)=(bs.filter (·.1)).map λb=>.str b.2:=R;rcases k with⟨⟩
  ·show(kY true (M.length+1) (bs.map (·.1))).map _=_;refine ab R ?_;rfl
  ·show _::(kY true (M.length+1) (bs.map (·.1))).map _=_;refine ab R ?_;show AV.str (((M++(true,t)::bs)[M.length]?).getD (true,[])).2::_=_;refine ab (bG (aV _)) (ab (oC ..) ?_);rfl
theorem LV(bs:List lA):(kY true 0 (bs.map (·.1))).map (λi=>AV.str ((bs[i]?).getD (true,[])).2)=(bs.filter (·.1)).map λb=>.str b.2:=Hh bs []
theorem uM:∀(n:Nat) (g:Int),∀b∈cl n g,b.1=false/\∃i,b.2=JJ i:=by
 intro G
 induction G with
 |zero=>
  exactλg b h=>absurd h dy
 |succ n R=>
  intro g b h;rw[RY.2]at h;refine ak (aS.mp h) (λH=>?_) λh=>?_;subst H
  ·exact⟨rfl,_,rfl⟩
  ·exact R _ b h
theorem pq(n:Nat)(g:Int):(eV (cl n g)).filter (·.1)= []:=by rw[ow];intro b O;delta eV at O;refine aC (dZ.mp O) λc V o1=>?_;subst o1;simp[(uM n g c V).1]
section
variable{a b d:Nat}{m0 m1 m2 m3:List Nat}{g:Int}
def uF(m:List Nat):Prop:=∀x∈m,x≠92/\x≠34/\x≠40/\x≠41
theorem AO{q:lA->Prop}(Y:q (true,[]))(h:∀m,m=m0\/m=m1\/m=m2\/m=m3->q (true,m))(V:∀n g,∀c∈cl n g,q c):∀c∈iG a b d m0 m1 m2 m3 g,q c:=by
 intro c R;delta iG at R;simp only[aS,dw]at R;refine ak R (λH=>?_) λG=>ak G (λT=>?_) λI=>ak I (λe=>?_) λj=>ak j (λW=>?_) λB=>ak B (λe=>?_) λA=>ak A (λF=>?_) λC=>ak C (λe=>?_) λD=>ak D (λE=>?_) λe=>?_;subst H;rotate_left;subst T;rotate_left 2;subst W;rotate_left 2;subst F;rotate_left 2;subst E;rotate_right 7
 ·exact Y
 ·exact h _ (.inl rfl)
 ·exact V _ _ c e
 ·exact h _ (.inr (.inl rfl))
 ·exact V _ _ c e
 ·exact h _ (.inr (.inr (.inl rfl)))
 ·exact V _ _ c e
 ·exact h _ (.inr (.inr (.inr rfl)))
 ·exact V _ _ c e
theorem Gp(h:∀m,m=m0\/m=m1\/m=m2\/m=m3->uF m):∀c∈iG a b d m0 m1 m2 m3 g,DI c:=
 AO (.inl ⟨rfl,λx Z=>nomatch Z⟩) (λm T=>.inl ⟨rfl,λx Z=>⟨(h m T x Z).2.1,(h m T x Z).1⟩⟩) λn g c V=>.inr (uM n g c V)
theorem Gq(h:∀m,m=m0\/m=m1\/m=m2\/m=m3->uF m):∀c∈iG a b d m0 m1 m2 m3 g,mK c.2:=
 AO (q:=λc=>mK c.2) (.inl iQ) (λm T=>.inl (K4 (h m T))) λn g c V=>by
  obtain⟨_,i,e⟩:=uM n g c V;exact ab e<|Sn i
theorem pz{m:List Nat}(h:uF m):wF m=m:=by delta wF;rw[if_neg];intro e;subst e;exact(h 34 (dQ rfl)).2.1 rfl
theorem CU(h:∀m,m=m0\/m=m1\/m=m2\/m=m3->uF m):((eV (iG a b d m0 m1 m2 m3 g)).filter (·.1)).map (λb=>AV.str b.2)= [.str [],.str m0,.str m1,.str m2,.str m3]:=by have e:∀x y:List lA,eV (x++y)=eV x++eV y:=λx y=>ed;have e1:∀(k:Bool) (t:List Nat) (y:List lA),eV ((k,t)::y)=(k,wF t)::eV y:=λk t y=>rfl;have e2:∀(t:List Nat) (y:List lA),Xf (λx:lA=>x.1) ((true,t)::y)=(true,t)::Xf (λx:lA=>x.1) y:=λt y=>rfl;delta iG;refine ab (e1 ..) (ab (e1 ..) (ab (e ..) (ab (e1 ..) (ab (e ..) (ab (e1 ..) (ab (e ..) (ab (e1 ..) (ab (e2 ..) (ab (e2 ..) (ab (r7 ..) (ab (pq ..) (ab (jC ..) (ab (e2 ..) (ab (r7 ..) (ab (pq ..) (ab (jC ..) (ab (e2 ..) (ab (r7 ..) (ab (pq ..) (ab (jC ..) (ab (e2 ..) (ab (pq ..) (ab (pz (h m0 (.inl rfl))) (ab (pz (h m1 (.inr (.inl rfl)))) (ab (pz (h m2 (.inr (.inr (.inl rfl))))) (ab (pz (h m3 (.inr (.inr (.inr rfl))))) ?_))))))))))))))))))))))))));rfl
end
structure YZ (a b d:Nat):Prop where
 len:(KS a b d).length=10
 Y1:yf (KS a b d)=true
 XY:yf ((KS a b d).drop 1++ [true])=false
 opens:kY true 0 (KS a b d)= [OI a b d 0,OI a b d 1,OI a b d 2,OI a b d 3,OI a b d 4]
 last:∀i∈kY true 0 (KS a b d),i+1<10
 KC:∀u,u<5->kC (KS a b d) (OI a b d u) (kY false 0 (KS a b d))=some (MI a b d u)
theorem Zh{a b d:Nat}(h:fq a b d):YZ a b d:=by
 have q:=za h;simp only[UB,au,beq_iff_eq,fv]at q;refine aN q λr z=>?_;rcases r with⟨⟨⟨⟨⟨⟨⟨P,F⟩,t⟩,L⟩,Z⟩,R⟩,_⟩,_⟩;refine⟨P,F,t,L,λi hi=>?_,λu N=>?_⟩
 ·have:=aq.mp Z i hi;simpa using this
 ·have:=aq.mp R u (aT.mpr N);simp only[au,beq_iff_eq]at this;exact this.1.1
structure XE (k:Nat) (a b d:Nat) (m0 m1 m2 m3:List Nat) (x y:List Nat) (ps:Nat->Nat):Prop where
 cz:(BK (k+4)).O 10 [.str x]=some (.bool true)
 XY:(BK (k+4)).O 10 [.str (x.drop 1++x.take 1)]=some (.bool false)
 strip:(BK (k+4)).O 9 [.str x]=some (.str y)
 yY:tv x qq []=y
 read:(BK (k+4)).O 17 [.str y]=some (.tup [.lst (cE λi=>nI (ps (OI a b d i))),.lst (cE λi=>nI (ps (MI a b d i))),.lst [.str [],.str m0,.str m1,.str m2,.str m3]])
 mono:∀i j,i<10->j<10->(ps i<=ps j↔i<=j)
 ne:1<=x.length
theorem GV(k:Nat){a b d:Nat}{m0 m1 m2 m3:List Nat}{g:Int}(G:fq a b d)(h:∀m,m=m0\/m=m1\/m=m2\/m=m3->uF m)(X:(aR (iG a b d m0 m1 m2 m3 g)).length<=200):
 XE k a b d m0 m1 m2 m3 (aR (iG a b d m0 m1 m2 m3 g)) (aR (eV (iG a b d m0 m1 m2 m3 g))) (bt (eV (iG a b d m0 m1 m2 m3 g))):=by
 have F:=Zh G;have I:=CT a b d m0 m1 m2 m3 g;have Q:=Gq (a:=a) (b:=b) (d:=d) (g:=g) h;have C:=Gp (a:=a) (b:=b) (d:=d) (g:=g) h;have T:=CU (a:=a) (b:=b) (d:=d) (g:=g) h;have H:∃r,iG a b d m0 m1 m2 m3 g=(true,[])::r:=⟨_,rfl⟩;generalize iG a b d m0 m1 m2 m3 g=bs at*;have B:bs.length=10:=by refine cA F.len (cA I (ab (aY ..) ?_));rfl
 have V:(aR bs).length<=cB:=aP X (by decide);have A:(eV bs).map (·.1)=KS a b d:=by refine ab (uS ..) (ab I ?_);rfl
 have U:(eV bs).length=10:=by rewrite[<-F.len,<-A,aY];rfl
 refine⟨?_,?_,LJ (k+2) bs Q V (by lia),?_,?_,?_,?_⟩
 ·refine ab (yj (k+1) bs Q V (by lia)) (ab I (ab F.Y1 ?_));rfl
 ·refine aI H λr e=>?_;have e1:(aR bs).drop 1++(aR bs).take 1=aR (r++ [(true,[])]):=by
   refine ab e (ab (iC ..) ?_);rfl
  have e2:(r++ [((true,[]):lA)]).map (·.1)=(KS a b d).drop 1++ [true]:=by refine cA I (ab e ?_);simp
  rewrite[e1,yj (k+1) (r++ [(true,[])]) ?_ ?_ ?_,e2,F.XY]
  ·rfl
  ·refineλc V=>ak (dw.mp V) (λq=>?_) λq=>?_
   ·exact Q c (ab e<|ax _ q)
   ·exact ab (bS.mp q)<|.inl iQ
  ·refine cA e1 (ab cK (ab bB (ab br ?_)))
   (clear e2 e1 e U A B H T C Q I X F h G;omega+splitDisjunctions)
  ·rw[e]at B;simp at B⊢;lia
 ·refine ab (OZ ..) (ab (O1 C) ?_);rfl
 ·have R:=TK k (eV bs) (uT Q) (by have:=Ai bs;simp[cB]at V⊢;(clear U A V B H T C Q I F h G;lia)) (by lia) (by refine ab A (ab U ?_);exact F.last);refine ab R (ab (LV ..) (ab T (ab A (ab F.opens ?_))));congr 3;have M:gU (eV bs) [OI a b d 0,OI a b d 1,OI a b d 2,OI a b d 3,OI a b d 4]= [bt (eV bs) (MI a b d 0),bt (eV bs) (MI a b d 1),bt (eV bs) (MI a b d 2),bt (eV bs) (MI a b d 3),bt (eV bs) (MI a b d 4)]:=by
   delta gU;refine ab A ?_;simp only[tK,List.flatMap_nil,F.KC 0 (by decide),F.KC 1 (by decide),F.KC 2 (by decide),F.KC 3 (by decide),F.KC 4 (by decide)];rfl
  refine ab M ?_;rfl
 ·exactλi j hi Y=>Ba (by lia) (by lia)
 ·refine aI H λr e=>ab e (ab (dj ..) ?_);simp
section
variable{P:Nat->iy}{ps:Nat->Nat}{a b d:Nat}{w:Nat->Int}
noncomputable def BN(P:Nat->iy):Nat->List Nat
 |0=> []
 |p+1=>(P p).mark
noncomputable def Eo(P:Nat->iy):Nat->List Nat
 |0=> []
 |p+1=> [(P p).L]
theorem OM(h:fq a b d)(B:∀i j,i<10->j<10->(ps i<=ps j↔i<=j)){s:Nat}(G:s<5):pR (λi=>ps (OI a b d i)) (λi=>ps (MI a b d i)) (BN P) (Eo P) s=yR P a b d s:=by
 have e:∀p,p<4->pc (λi=>ps (OI a b d i)) (λi=>ps (MI a b d i)) (BN P) (Eo P) s (p+1)=(P p).str (under a b d s p):=by intro p A;have q:=LP h B (show p+1<5 by exact Nat.add_lt_of_lt_sub A) G;unfold pc under iy.str;refine cA q ?_;simp only[au,decide_eq_true_eq];rfl
 unfold pR yR km;exact ab (e 0 (by decide)) (ab (e 1 (by decide)) (ab (e 2 (by decide)) (ab (e 3 (by decide)) rfl)))
theorem AX(k:Nat)(h:fq a b d)(B:∀i j,i<10->j<10->(ps i<=ps j↔i<=j)):(BK (k+1)).O 18 [.lst (cE λi=>nI (ps (OI a b d i))),.lst (cE λi=>nI (ps (MI a b d i))),.lst (cE λi=>.str (BN P i)),.lst (cE λi=>.str (Eo P i))]=some (lT P a b d):=by
 have J:∀p,p<5->(BN P p).length<=5:=by
  intro p z;rcases p with _|p
  ·exact bz _
  ·exact aP (oT (P p)).1 (by decide)
 have U:∀p,p<5->(Eo P p).length<=5:=by
  intro p z;rcases p with _|p
  ·exact bz _
  ·exact(by decide:1<=5)
 refine ab (OK k (O:=λi=>ps (OI a b d i)) (M:=λi=>ps (MI a b d i)) J U) ?_;delta lT;exact ab (qv λs G=>congrArg AV.str (OM h B G)) rfl
theorem GU{Q:iy}(h:Q.pZ=0)(u v:Bool):Q.str u=Q.str v:=by
 have e:Q.mark= [Q.L]:=by
  delta iy.pZ at h;delta iy.mark;generalize Q.t=t at h⊢;rcases t with _|_|t
  ·rfl
  ·exact absurd h (oh 0)
  ·exact absurd h (oh 1)
 rcases u with⟨⟩<;>rcases v with⟨⟩<;>simp[iy.str,e]
theorem xo(m:qR P)(x y:Nat):yR P a b d x=yR P a b d y↔(jG λv=>sA a b d v x==sA a b d v y|| !yb (ot P) v)=true:=by
 have e:∀p,p<4->((sA a b d (p+1) x==sA a b d (p+1) y|| !(ot P p !=0))=true↔((if cond (fU a b d) y x (p+1)then ot P p else 0)=0)):=by refineλp z=>ab (qm ..) ?_;delta under;cases sA a b d (p+1) x<;>cases sA a b d (p+1) y<;>simp
 have B:(jG λv=>sA a b d v x==sA a b d v y|| !yb (ot P) v)=((sA a b d 1 x==sA a b d 1 y|| !(ot P 0 !=0))&&(sA a b d 2 x==sA a b d 2 y|| !(ot P 1 !=0))&&(sA a b d 3 x==sA a b d 3 y|| !(ot P 2 !=0))&&(sA a b d 4 x==sA a b d 4 y|| !(ot P 3 !=0))):=by have O:(sA a b d 0 x==sA a b d 0 y|| !yb (ot P) 0)=true:=rfl;delta jG;simp only[O,kW];rfl
 refine ab B ?_;simp only[au];rw[e 0 (by decide),e 1 (by decide),e 2 (by decide),e 3 (by decide)];constructor
 ·intro Q;have Y:DD P a b d x y=0:=by
   refine cA (Kt m ..) (ab Q ?_);delta yN;exact ab (if_pos rfl) rfl
  unfold DD mf at Y;simp only[Nat.add_eq_zero_iff]at Y;exact⟨⟨⟨Y.1,Y.2.1⟩,Y.2.2.1⟩,Y.2.2.2⟩
 ·refineλo1=>aN o1 λr S=>aN r λH U=>aN H λY J=>?_;have es:∀p,p<4->(if cond (fU a b d) y x (p+1)then ot P p else 0)=0->(P p).str (under a b d x p)=(P p).str (under a b d y p):=by
   intro p z h;rw[qm]at h;by_cases N:under a b d x p=under a b d y p
   ·exact ab N rfl
   ·refine GU ?_ _ _;rw[if_pos]at h
    ·exact h
    ·cases J:under a b d x p<;>cases U:under a b d y p<;>rw[J,U]at N<;>first|rfl|exact absurd rfl N
  unfold yR km;exact ab (es 0 (by decide) Y) (ab (es 1 (by decide) J) (ab (es 2 (by decide) U) (ab (es 3 (by decide) S) rfl)))
theorem N7(x:List Nat):∀l:List (List Nat),CH (.str x) (l.map .str)=some (decide (x∈l)):=by
 intro G
 induction G with
 |nil=>
  exact rfl
 |cons y l A=>
  have R:=A;simp only[bI,(id VJ),(id NJ),aj,af,R,aJ];congr 1;by_cases h:x=y
  ·subst h;simp
  ·have U:¬y=x:=λe=>h e.symm;simp[h,U]
theorem Ax(G:Nat->Bool):jM G=(aG 5).filter G:=by
 have k:∀(a:Nat) (t l:List Nat),l=t.filter G->(if G a then[a]else[])++l=(a::t).filter G:=λa t l e=>by
  refine ab e (ab MU ?_);rcases G a with _|_<;>rfl
 have z:(if G 4 then[4]else[])= [4].filter G:=by refine ab MU ?_;rfl
 exact k 0 [1,2,3,4] _ (k 1 [2,3,4] _ (k 2 [3,4] _ (k 3 [4] _ z)))
theorem sq{G:Nat->Bool}{y:Nat}:y∈jM G↔y<5/\G y=true:=by refine ab (Ax ..) ?_;rw[Qa,aT]
theorem F3(G:Nat->Bool):(jM G).length<=5:=ab (Ax ..)<|List.length_filter_le _ _
theorem GQ(G:Nat->Bool):A8 G nI=bq (jM G):=by unfold jM A8;cases G 0<;>cases G 1<;>cases G 2<;>cases G 3<;>cases G 4<;>rfl
noncomputable def RL:CE:=.z (.a 27) (.bX 27) (.j [(.d 5)]) (.cmp .In (.sub (.a 18) (.a 27)) (.comp (.sub (.a 18) (.a 22)) (.bX 22) (.a 24)))
theorem Ii{C:dC}{st:St}{f:Nat->AV}(m:qR P)(B:f 18=lT P a b d)(E:f 24=.lst (bq (nh a b d w))):ev C st RL (LF f)=some (.lst (bq (jM (sh (sA a b d) (HH (sA a b d) w) (yb (ot P)))))):=by
 refine cA (GQ ..)<|yx (by decide) (λx Z=>?_) λu N=>fu (by decide) eW rfl;have H:kN f 27 (nI x) 18=lT P a b d:=B;have U:ev C st (.comp (.sub (.a 18) (.a 22)) (.bX 22) (.a 24)) (LF (kN f 27 (nI x)))=some (.lst (((nh a b d w).map λy=>yR P a b d y).map .str)):=by refine mr (l:=bq (nh a b d w)) (fu (by decide) E rfl) (jN (by have:=F3 (jY (sA a b d) (HH (sA a b d) w));unfold nh bq;simp[cB];lia))<|ab fi<|wW λy F=>?_;have O:cT (LF (kN f 27 (nI x))) (.bX 22) (.int (y:Nat))=some (LF (kN (kN f 27 (nI x)) 22 (nI y))):=ec (by decide);have D:ev C st (.sub (.a 18) (.a 22)) (LF (kN (kN f 27 (nI x)) 22 (nI y)))=some (.str (yR P a b d y)):=vj (g:=λs=>.str (yR P a b d s)) (by decide) (by decide) B eW ((sq.mp F).1);simp only[O,D,aj,af,aJ];rfl
 refine cc (vj (g:=λs=>.str (yR P a b d s)) (by decide) (by decide) H eW Z) U ?_;have e:fk st .In (.str (yR P a b d x)) (.lst (((nh a b d w).map λy=>yR P a b d y).map .str))=CH (.str (yR P a b d x)) (((nh a b d w).map λy=>yR P a b d y).map .str):=rfl;refine ab e (ab (N7 ..) ?_);congr 1;rewrite[lG];refine ab decide_eq_true_eq ?_;rewrite[dZ];delta sh;rw[mU];constructor
 ·exactλS=>aC S λy F e=>aN (sq.mp F) λG F=>⟨y,G,ab (au ..)<|⟨F,(xo m x y).mp e.symm⟩⟩
 ·refineλc=>aC c λy A q=>?_;simp only[au]at q;exact⟨y,sq.mpr ⟨A,q.1⟩,((xo m x y).mpr q.2).symm⟩
end
noncomputable def uI(L:List Int)(i:Nat):Int:=L.getD i 0
noncomputable def PT(L:List Int)(s:Int)(p:Nat):iy:=xD p (uI L (1+p)) s
noncomputable def PF(L:List Int)(p:Nat):iy:=yy p (uI L (1+p))
theorem U7(L:List Int)(s:Int):qR (PT L s) where
 ok p hp:=X5 hp _ _
 apart p q hp hq hne:=Py hp hq hne _ _ _
 low p hp:=KA hp _ _
 Th p hp:=by have:(PT L s p).L=dY iK p:=(wG p _ s).1;exact ab this<|oS (kZ hp (jf p))
theorem U5(L:List Int):qR (PF L) where
 ok p hp:=XK hp _
 apart p q hp hq hne:=NR hp hq hne _ _
 low p hp x hx:=oS (kZ hp (JL hp _ x hx))
 Th p hp:=by have:(PF L p).L=dY iK p:=(wG p _ 0).2;exact ab this<|oS (kZ hp (jf p))
theorem U6(L:List Int)(s:Int)(p:Nat):(PT L s p).L=(PF L p).L:=ab (show(PT L s p).L=dY iK p from(wG p _ s).1) (ab (show(PF L p).L=dY iK p from(wG p _ 0).2) rfl)
theorem Tn(L:List Int)(s:Int)(i:Nat):Eo (PT L s) i=Eo (PF L) i:=by
 rcases i with _|p
 ·rfl
 ·simp only[Eo,U6]
theorem Cp{p:Nat}(B:p<4)(L:List Int)(s:Int):uF (PT L s p).mark:=λx Z=>K1 B (Er B _ _ x Z)
section
variable{C:dC}{st:St}{f:Nat->AV}{cs:List Int}
theorem LK(V:cs.length=11){i:Nat}(hi:i<11):gF st (.lst (cs.map .int)) (.int i)=some (.int (uI cs i)):=by refine ab (pd (et hi (id (dN V))) (by refine ab V ?_;decide)) ?_;congr 2;simp[uI,V,hi]
theorem rd(V:cs.length=11)(J:f 1=.lst (cs.map .int)){e:CE}{i:Nat}(Z:ev C st e (LF f)=some (.int (i:Nat)))(hi:i<11):ev C st (.sub (.a 1) e) (LF f)=some (.int (uI cs i)):=
 dB (fu (by decide) J rfl) Z (LK V hi)
theorem vb{i:Nat}{e:CE}{g:Nat->AV}(hi:i<29)(h:∀p,p<4->ev C st e (LF (kN f i (nI p)))=some (g p)):ev C st (.comp e (.bX i) (.j [(.d 4)])) (LF f)=some (.lst (qw g)):=by
 have P:∀p:Nat,p<4->(do return some (<-ev C st e (<-cT (LF f) (.bX i) (nI p))):Option (Option AV))=some (some (g p)):=by intro p B;have O:cT (LF f) (.bX i) (nI p)=some (LF (kN f i (nI p))):=ec hi;simp only[aj,O,af,h p B,aJ]
 exact mr (v:=.lst [nI 0,nI 1,nI 2,nI 3]) (l:= [nI 0,nI 1,nI 2,nI 3]) (r:=qw g) rfl rfl
  (cN (P 0 (by decide)) (cN (P 1 (by decide)) (cN (P 2 (by decide)) (cN (l:= []) (r:= []) (P 3 (by decide)) rfl))))
theorem Av{A B:Nat->List Nat}(d:f 4=.lst (qw λp=>.tup [.str (A p),.str (B p)])):
 ev C st (.comp (.a 7) (.many [7,8]) (.a 4)) (LF f)=some (.lst (qw λp=>.str (A p)))/\ev C st (.comp (.a 8) (.many [7,8]) (.a 4)) (LF f)=some (.lst (qw λp=>.str (B p))):=by
 have O:∀p,cT (LF f) (.many [7,8]) (.tup [.str (A p),.str (B p)])=some (LF (kN (kN f 7 (.str (A p))) 8 (.str (B p)))):=by intro p;show(ek (LF f) 7 (.str (A p))).bind (λl=>(ek l 8 (.str (B p))).bind λl=>some l)=_;exact ab (ec (by decide)) (ab (af ..) (ab (ec (by decide)) (ab (af ..) rfl)))
 have V:∀p,(do return some (<-ev C st (.a 7) (<-cT (LF f) (.many [7,8]) (.tup [.str (A p),.str (B p)]))):Option (Option AV))=some (some (.str (A p))):=by intro p;rfl
 have Z:∀p,(do return some (<-ev C st (.a 8) (<-cT (LF f) (.many [7,8]) (.tup [.str (A p),.str (B p)]))):Option (Option AV))=some (some (.str (B p))):=by intro p;rfl
 exact⟨mr (r:=qw λp=>.str (A p)) (fu (by decide) d rfl) rfl (cN (V 0) (cN (V 1) (cN (V 2) (cN (l:= []) (r:= []) (V 3) rfl)))),
  mr (r:=qw λp=>.str (B p)) (fu (by decide) d rfl) rfl (cN (Z 0) (cN (Z 1) (cN (Z 2) (cN (l:= []) (r:= []) (Z 3) rfl))))⟩
theorem FZ:∀l:List (List Nat),Ap (l.map .str) (l.map .str)=some true:=by
 intro G
 induction G with
 |nil=>
  exact rfl
 |cons a l R=>
  simp only[bI,(id QK),(id NJ),aj,af,R,aJ];simp
theorem Eu(g:Nat->List Nat):fk st .NotEq (.lst (cE λi=>.str (g i))) (.lst (cE λi=>.str (g i)))=some false:=by refine ab (show fk st .NotEq (.lst ([g 0,g 1,g 2,g 3,g 4].map .str)) (.lst ([g 0,g 1,g 2,g 3,g 4].map .str))=(D0 ([g 0,g 1,g 2,g 3,g 4].map .str) ([g 0,g 1,g 2,g 3,g 4].map .str)).map (!·)from rfl) ?_;delta D0;refine ab (if_pos rfl) (ab (FZ ..) ?_);rfl
theorem D5{e:CE}{g:Nat->List Nat}(h:ev C st e (LF f)=some (.lst (qw λp=>.str (g (p+1)))))(Y:g 0= []):ev C st (.f .Add (.list [(.l [])]) e) (LF f)=some (.lst (cE λi=>.str (g i))):=by refine eN (x:=.lst [.str []]) rfl h ?_;show _=some (AV.lst [.str (g 0),_,_,_,_]);refine ab Y ?_;rfl
theorem Au{i:Nat}{e it:CE}{g g':Nat->AV}(hi:i<29)(D:ev C st it (LF f)=some (.lst (cE g)))(h:∀p,p<5->ev C st e (LF (kN f i (g p)))=some (g' p)):ev C st (.comp e (.bX i) it) (LF f)=some (.lst (cE g')):=by
 have P:∀p:Nat,p<5->(do return some (<-ev C st e (<-cT (LF f) (.bX i) (g p))):Option (Option AV))=some (some (g' p)):=by intro p B;have O:cT (LF f) (.bX i) (g p)=some (LF (kN f i (g p))):=ec hi;simp only[aj,O,af,h p B,aJ]
 exact mr (l:=cE g) (r:=cE g') D rfl
  (cN (P 0 (by decide)) (cN (P 1 (by decide)) (cN (P 2 (by decide)) (cN (P 3 (by decide)) (cN (l:= []) (r:= []) (P 4 (by decide)) rfl)))))
noncomputable def W3(cs:List Int):Nat->Int
 |0=>1+(uI cs 5).fmod (10^30)
 |u+1=>(uI cs (6+u)).fmod (10^30)
theorem Rl{loc:Loc}:ev C st (.f .Pow (.d 10) (.d 30)) loc=some (.int (10^30)):=by refine eN rfl rfl ?_;show(binI .Pow 10 30).map AV.int=_;rfl
theorem Dp(V:cs.length=11)(J:f 1=.lst (cs.map .int)):ev C st (.f .Add (.list [(.f .Add (.d 1) (.f .Mod (.sub (.a 1) (.d 5)) (.f .Pow (.d 10) (.d 30))))]) (.comp (.f .Mod (.sub (.a 1) (.f .Add (.d 6) (.a 20))) (.f .Pow (.d 10) (.d 30))) (.bX 20) (.j [(.d 4)]))) (LF f)=some (wV (W3 cs)):=by
 have Q:(10:Int)^30≠0:=by decide
 have e1:ev C st (.f .Add (.d 1) (.f .Mod (.sub (.a 1) (.d 5)) (.f .Pow (.d 10) (.d 30)))) (LF f)=some (.int (1+(uI cs 5).fmod (10^30))):=oN rfl (oP (rd V J (i:=5) rfl (by decide)) Rl Q);have e2:=vb (C:=C) (st:=st) (f:=f) (i:=20) (e:=.f .Mod (.sub (.a 1) (.f .Add (.d 6) (.a 20))) (.f .Pow (.d 10) (.d 30))) (g:=λu=>.int (W3 cs (u+1))) (by decide) (λu N=>by
  have L:ev C st (.f .Add (.d 6) (.a 20)) (LF (kN f 20 (nI u)))=some (.int ((6+u:Nat):Int)):=by rfl
  exact oP (rd (f:=kN f 20 (nI u)) V J L (by lia)) Rl Q)
 have O:ev C st (.list [(.f .Add (.d 1) (.f .Mod (.sub (.a 1) (.d 5)) (.f .Pow (.d 10) (.d 30))))]) (LF f)=some (.lst [.int (1+(uI cs 5).fmod (10^30))]):=by show(so C st _ (LF f)).map AV.lst=_;simp only[aK,af,(id jW),e1,aj,af,aJ,aK]
 exact eN O e2 rfl
theorem T7{a b c d e:Int}(J:a<10^30)(U:b<10^30)(S:c<10^30)(A:d<10^30)(O:e<10^30):1+a+b+c+d+e<2^110:=by lia
theorem PU(cs:List Int):Fw (W3 cs)/\j9 (W3 cs)<2^110:=by
 have Y:∀x:Int,0<=x.fmod (10^30)/\x.fmod (10^30)<10^30:=λx=>⟨bQ _ (by decide),cJ _ (by decide)⟩;have q0:=Y (uI cs 5);have P:=Y (uI cs 6);have F:=Y (uI cs 7);have t:=Y (uI cs 8);have L:=Y (uI cs 9)
 refine⟨⟨Int.le_add_of_nonneg_right q0.1,P.1,F.1,t.1,L.1⟩,?_⟩;exact T7 q0.2 P.2 F.2 t.2 L.2
theorem xk{P:Nat->iy}{t0 t1 t2 t3 Y:Int}(V:cs.length=11)(J:f 1=.lst (cs.map .int))(m:∀p,gF st (.lst [.int t0,.int t1,.int t2,.int t3,.int Y]) (.int ((uI cs (1+p)).fmod 5))=some (nI (ot P p))):
 ev C st (.comp (.sub (.list [(.d t0),(.d t1),(.d t2),(.d t3),(.d Y)]) (.f .Mod (.sub (.a 1) (.f .Add (.d 1) (.a 5))) (.d 5))) (.bX 5) (.j [(.d 4)])) (LF f)=some (Rb P):=by
 refine vb (by decide) λp B=>?_;have L:ev C st (.f .Add (.d 1) (.a 5)) (LF (kN f 5 (nI p)))=some (.int ((1+p:Nat):Int)):=by rfl
 exact dB rfl (oP (rd (f:=kN f 5 (nI p)) V J L (by lia)) rfl (by decide)) (m p)
theorem Ea{P:Int->Prop}{x:Int}(h:P 0/\P 1/\P 2/\P 3/\P 4):P (x.fmod 5):=by
 have Y:0<=x.fmod 5:=bQ _ (by decide);have J:x.fmod 5<5:=cJ _ (by decide);generalize x.fmod 5=y at*;refine ak ((show y=0\/y=1\/y=2\/y=3\/y=4 by lia)) (λH=>?_) λg=>ak g (λT=>?_) λI=>ak I (λj=>?_) λW=>ak W (λB=>?_) λA=>?_;refine ab H ?_;rotate_left;refine ab T ?_;rotate_left;refine ab j ?_;rotate_left;refine ab B ?_;rotate_left;refine ab A ?_;rotate_right 4
 ·exact h.1
 ·exact h.2.1
 ·exact h.2.2.1
 ·exact h.2.2.2.1
 ·exact h.2.2.2.2
theorem Hm(cs:List Int)(s:Int)(p:Nat):gF st (.lst [.int 1,.int 2,.int 2,.int 2,.int 2]) (.int ((uI cs (1+p)).fmod 5))=some (nI (ot (PT cs s) p)):=by
 have e:ot (PT cs s) p=if(uI cs (1+p)).fmod 5=0 then 1 else 2:=EP p _ s
 exact ab e<|Ea (P:=λy=>gF st (.lst [.int 1,.int 2,.int 2,.int 2,.int 2]) (.int y)=some (nI (if y=0 then 1 else 2))) ⟨rfl,rfl,rfl,rfl,rfl⟩
theorem Ga(cs:List Int)(p:Nat):gF st (.lst [.int 0,.int 0,.int 0,.int 2,.int 2]) (.int ((uI cs (1+p)).fmod 5))=some (nI (ot (PF cs) p)):=by
 have e:ot (PF cs) p=if(uI cs (1+p)).fmod 5=3\/(uI cs (1+p)).fmod 5=4 then 2 else 0:=NS p _
 exact ab e<|Ea (P:=λy=>gF st (.lst [.int 0,.int 0,.int 0,.int 2,.int 2]) (.int y)=some (nI (if y=3\/y=4 then 2 else 0))) ⟨rfl,rfl,rfl,rfl,rfl⟩
end
theorem OG{f:Nat->AV}{i j:Nat}{x y:AV}(hi:i<29)(Y:j<29):cT (LF f) (.many [i,j]) (.tup [x,y])=some (LF (kN (kN f i x) j y)):=by show(ek (LF f) i x).bind (λl=>(ek l j y).bind λl=>some l)=_;exact ab (ec hi) (ab (af ..) (ab (ec Y) (ab (af ..) rfl)))
theorem OH{f:Nat->AV}{i j l:Nat}{x y z:AV}(hi:i<29)(Y:j<29)(X:l<29):cT (LF f) (.many [i,j,l]) (.tup [x,y,z])=some (LF (kN (kN (kN f i x) j y) l z)):=by show(ek (LF f) i x).bind (λq=>(ek q j y).bind λq=>(ek q l z).bind λq=>some q)=_;exact ab (ec hi) (ab (af ..) (ab (ec Y) (ab (af ..) (ab (ec X) (ab (af ..) rfl)))))
theorem mZ{C:dC}{st:St}{loc:Loc}{f:Nat}{e:CE}{x v:AV}(h:ev C st e loc=some x)(Q:dU [x]=true)(N:C.O f [x]=some v):ev C st (.call f [e]) loc=some v:=
 eP (vs:= [x]) (by simp only[af,(id jW),h,aj,af,aJ]) Q N
theorem Ar{C:dC}{st:St}{loc:Loc}{f:Nat}{e1 e2 c:CE}{x y z v:AV}(J:ev C st e1 loc=some x)(U:ev C st e2 loc=some y)(S:ev C st c loc=some z)(Q:dU [x,y,z]=true)(N:C.O f [x,y,z]=some v):ev C st (.call f [e1,e2,c]) loc=some v:=
 eP (vs:= [x,y,z]) (by simp only[af,(id jW),J,U,S,aj,af,aJ]) Q N
theorem As{C:dC}{st:St}{loc:Loc}{f:Nat}{e1 e2 c F:CE}{x y z u v:AV}(J:ev C st e1 loc=some x)(U:ev C st e2 loc=some y)(S:ev C st c loc=some z)(d:ev C st F loc=some u)(Q:dU [x,y,z,u]=true)(N:C.O f [x,y,z,u]=some v):ev C st (.call f [e1,e2,c,F]) loc=some v:=
 eP (vs:= [x,y,z,u]) (by simp only[af,(id jW),J,U,S,d,aj,af,aJ]) Q N
theorem Jx{C:dC}{st:St}{loc:Loc}{e:CE}{p:Bool}(h:ev C st e loc=some (.bool p)):ev C st (.cmp .IsNot e (.v p)) loc=some (.bool false):=by refine cc (y:=.bool p) h rfl ?_;clear h;rcases p with⟨⟩<;>rfl
theorem NP{C:dC}{st:St}{loc:Loc}{x y:CE}(J:ev C st x loc=some (.bool false))(U:ev C st y loc=some (.bool false)):ev C st (.bor [x,y]) loc=some (.bool false):=vd J rfl U rfl
theorem Si{C:dC}{st:St}{loc:Loc}{e1 e2:CE}{x y:List Nat}(J:ev C st e1 loc=some (.str x))(U:ev C st e2 loc=some (.str y))(h:x.length+y.length<=cB):ev C st (.f .Add e1 e2) loc=some (.str (x++y)):=
 eN J U (if_pos h)
theorem NQ{C:dC}{st:St}{loc:Loc}{e:CE}{x:List Nat}(h:ev C st e loc=some (.str x))(V:x.length<=cB){y:List Nat}(F:tv x qq []=y):ev C st (.yY e qq []) loc=some (.str y):=by
 subst F;have e1:ev C st (.yY e qq []) loc=((ev C st e loc).bind jH).bind λx=>if x.length<=cB/\([]:List Nat).length<=10/\qq≠ []then some (.str (tv x qq []))else none:=rfl
 refine ab e1 (ab h ?_);show(if x.length<=cB/\([]:List Nat).length<=10/\qq≠ []then some (AV.str (tv x qq []))else none)=_;exact ab (if_pos ⟨V,by decide,List.getLast?_isSome.mp rfl⟩) rfl
theorem Jy{C:dC}{st:St}{loc:Loc}{e:CE}{x y:List Nat}(h:ev C st e loc=some (.str x))(V:x.length<=cB)(F:x.take 1=y):ev C st (.A e (.d 1)) loc=some (.str y):=by subst F;exact JD (p:=1) h rfl V
theorem Lu{C:dC}{st:St}{loc:Loc}{e1 e2:CE}{x:List Nat}(J:ev C st e1 loc=some (.str x))(U:ev C st e2 loc=some (.str x)):ev C st (.cmp .NotEq e1 e2) loc=some (.bool false):=
 cc J U (by show(some (x==x)).map (!·)=_;refine ab (beq_self_eq_true ..) ?_;rfl)
theorem Kn(ns:List Int)(hn:ns.length<=63):iR (BK 20) D9 [.lst (ns.map .int)]=some (.bool true):=by
 refine ew λY=>Nu 19 ns hn λL V O13=>Jj 19 (uI L 0) λa b d C a1 a2 b1 b2 d1 d2 O14=>aI (dW (show 0<=a by exact aF a1)) λa o1=>?_;subst o1;refine aI (dW (show 0<=b by exact aF b1)) λb r=>?_;subst r;refine aI (dW (show 0<=d by exact aF d1)) λd o3=>?_;subst o3;refine Y ?_;clear Y;have G:fq a b d:=⟨eG.mp a1,eG.mp a2,eG.mp b1,eG.mp b2,eG.mp d1,eG.mp d2⟩;have F:=U7 L (C.fmod 27);have q:=U5 L;have N:∀p,p<4->uF (PT L (C.fmod 27) p).mark:=λp B=>Cp B L _;have u:∀p,p<4->n9 (PT L (C.fmod 27) p).mark=(PF L p).mark:=λp B=>Gx B _ _;have A:∀p,(PF L p).mark.take 1= [(PF L p).L]:=λp=>Cz p _;have hlt:∀i,Eo (PT L (C.fmod 27)) i=Eo (PF L) i:=Tn L _;have O15:∀p:Nat,p<4->(BK 20).O 15 [.int p,.int (uI L (1+p)),.int (C.fmod 27)]=some (.tup [.str (PT L (C.fmod 27) p).mark,.str (PF L p).mark]):=λp B=>by
  refine ab (To 19 p (uI L (1+p)) (C.fmod 27) B) (ab (Wd ..) (ab (We ..) ?_));rfl
 have hpos:∀p,ot (PT L (C.fmod 27)) p≠0:=λp=>by
  refine ab (show ot (PT L (C.fmod 27)) p=_ from EP p _ _) ?_;split<;>decide
 have hpT:=λp=>Hm (st:= [none,none]) L (C.fmod 27) p;have hpF:=λp=>Ga (st:= [none,none]) L p;generalize PT L (C.fmod 27)=P at*;generalize PF L=Q at*;have ml:∀p,(P p).mark.length<=5:=λp=>aP (oT (P p)).1 (by decide);refine Tf 19 (a:=a) (b:=b) (d:=d) (C.fdiv 27) G.1 G.2.1 G.2.2.1 G.2.2.2.1 G.2.2.2.2.1 G.2.2.2.2.2 (ml 0) (ml 1) (ml 2) (ml 3) λO16 h=>?_;clear ml;have R:=GV 16 (g:=C.fdiv 27) G (m0:=(P 0).mark) (m1:=(P 1).mark) (m2:=(P 2).mark) (m3:=(P 3).mark) (by
  refineλm o4=>ak o4 (λH=>?_) λu2=>ak u2 (λu3=>?_) λI=>ak I (λu5=>?_) λW=>?_;subst H;rotate_left;subst u3;rotate_left;subst u5;rotate_left;subst W;rotate_right 3
  ·exact N 0 (by decide)
  ·exact N 1 (by decide)
  ·exact N 2 (by decide)
  ·exact N 3 (by decide)) h
 generalize bt (eV (iG a b d (P 0).mark (P 1).mark (P 2).mark (P 3).mark (C.fdiv 27)))=ps at*;generalize aR (eV (iG a b d (P 0).mark (P 1).mark (P 2).mark (P 3).mark (C.fdiv 27)))=y at*;generalize aR (iG a b d (P 0).mark (P 1).mark (P 2).mark (P 3).mark (C.fdiv 27))=x at*;have hxc:x.length<=cB:=aP h (by decide);refine eC.run rfl ?_;let f0:Nat->AV:=λi=>if i=0 then .lst (ns.map .int)else .c
 have S: [AV.lst (ns.map .int)]++bw (D9.y-D9.p) AV.c=LF f0:=rfl;refine ab S ?_;clear S;refine .cI (mZ (fu (i:=0) (by decide) rfl rfl) ?_ O13) (ec (by decide)) ?_
 ·show dU [.lst (ns.map .int)]=true;simp only[(id mz),(id qC),mx,nx]
 refine .cI (mZ (rd V (i:=0) rfl rfl (by decide)) rfl O14) (OG (by decide) (by decide)) ?_;clear O14;refine .cI (vb (g:=λp=>.tup [.str (P p).mark,.str (Q p).mark]) (by decide) λp B=>?_) (ec (by decide)) ?_
 ·have v5:∀(st:St) (f:Nat->AV),ev (BK 20) st (.a 5) (LF (kN f 5 (nI p)))=some (.int (p:Nat)):=λst f=>fu (by decide) eW rfl;refine Ar (v5 _ _) (rd V rfl (i:=1+p) ?_ (by lia)) (oP (fu (by decide) rfl rfl) rfl (by decide)) rfl (O15 p B);refine ab (oN (x:=1) rfl (v5 _ _)) ?_;rfl
 refine .cI (Av rfl).1 (ec (by decide)) ?_;refine .cI (Ar (x:=wC a b d) (fu (i:=2) (by decide) rfl rfl) (fu (i:=6) (by decide) rfl rfl) (D4 (fu (i:=3) (by decide) rfl rfl) rfl (by decide)) rfl O16) (ec (by decide)) ?_;have v9:∀(st:St) (f:Nat->AV),ev (BK 20) st (.a 9) (LF (kN f 9 (.str x)))=some (.str x):=λst f=>fu (by decide) eW rfl;refine .jo (NP (Jx (mZ (v9 _ _) rfl R.cz)) (Jx (mZ (Si (qt (s:=1) (v9 _ _) rfl ?_ hxc) (JD (p:=1) (v9 _ _) rfl hxc) ?_) rfl R.XY))) ?_
 ·exact R.ne
 ·refine ab bB (ab br ?_);(clear v9 R h O16 O15 hlt u hpF A q hpT hpos N F G d2 d1 b2 b1 a2 a1 O13 V hn;omega+splitDisjunctions)
 refine .cI (mZ (v9 _ _) rfl R.strip) (ec (by decide)) ?_;have v9b:∀(st:St) (f:Nat->AV),ev (BK 20) st (.a 9) (LF (kN (kN f 9 (.str x)) 10 (.str y)))=some (.str x):=λst f=>fu (by decide) ((iI (by decide)).trans eW) rfl;have v10:∀(st:St) (f:Nat->AV),ev (BK 20) st (.a 10) (LF (kN f 10 (.str y)))=some (.str y):=λst f=>fu (by decide) eW rfl;refine .jo (Lu (v10 _ _) (NQ (v9b [] _) hxc R.yY))<|.cI (mZ (v10 _ _) rfl R.read) (OH (by decide) (by decide) (by decide))<|.jo (cc (fu (i:=13) (v:=.lst (cE λi=>.str (BN P i))) (by decide) rfl rfl) (D5 (g:=BN P) (fu (i:=6) (by decide) rfl rfl) rfl) (Eu _)) ?_;refine .cI (Au (g:=λi=>.str (BN P i)) (g':=λi=>.str (BN Q i)) (i:=7) (it:=.a 13) (e:=JN) (by decide) (fu (by decide) rfl rfl) λp B=>?_) (ec (by decide)) ?_
 ·have e:n9 (BN P p)=BN Q p:=by
   rcases p with _|p
   ·rfl
   ·exact u p (qe.mp B)
  have X:∀(P:Nat->iy),(BN P p).length<=5:=λP=>by
   rcases p with _|p
   ·exact bz _
   ·exact aP (oT (P p)).1 (by decide)
  simp only[<-e];refine NY (k:=19) (by simp[LF]) ((Ku (by decide)).trans (congrArg some eW)) (X P) (λc V=>?_) (ab e<|aP (X Q) (by decide));rcases p with _|p
  ·exact nomatch V
  ·exact F.low p (qe.mp B) c V
 refine .jo (cc (fu (i:=14) (v:=.lst (cE λi=>.str (BN Q i))) (by decide) eW rfl) (D5 (g:=BN Q) (Av rfl).2 rfl) (Eu _))<|.cI (Au (g:=λi=>.str (BN Q i)) (g':=λi=>.str (Eo Q i)) (i:=7) (it:=.a 14) (e:=.A (.a 7) (.d 1)) (by decide) (fu (by decide) eW rfl) λp B=>?_) (ec (by decide)) ?_;clear B
 ·have e:(BN Q p).take 1=Eo Q p:=by
   rcases p with _|p
   ·rfl
   ·exact A p
  have X:(BN Q p).length<=5:=by
   rcases p with _|p
   ·exact bz _
   ·exact aP (oT (Q p)).1 (by decide)
  exact Jy (fu (by decide) eW rfl) (aP X (by decide)) e
 have hltV:(AV.lst (cE λi=>.str (Eo Q i)))=.lst (cE λi=>.str (Eo P i)):=congrArg _ (qv λi z=>congrArg AV.str (hlt i).symm);refine .cI (As (fu (i:=11) (by decide) rfl rfl) (fu (i:=12) (by decide) rfl rfl) (fu (i:=13) (by decide) rfl rfl) (fu (i:=16) (v:=.lst (cE λi=>.str (Eo P i))) (by decide) (eW.trans hltV) rfl) rfl (AX 19 (P:=P) (ps:=ps) G R.mono)) (ec (by decide))<|.cI (As (fu (i:=11) (by decide) rfl rfl) (fu (i:=12) (by decide) rfl rfl) (fu (i:=14) (by decide) rfl rfl) (fu (i:=16) (by decide) rfl rfl) rfl (AX 19 (P:=Q) (ps:=ps) G R.mono)) (ec (by decide)) ?_;refine .cI (Dp V rfl) (ec (by decide)) ?_;have o:=PU L;generalize W3 L=w at*;have fin:∀f,kr ps a b d w L f->f 2=wC a b d->f 17=lT P a b d->f 18=lT Q a b d->eC (BK 20) (D9.body.drop 16) (LF f) [] (.bool true):=by
  refineλf hf j g17 g18=>gB (V5 (k:=11) G o.1 o.2 V hf) λK Z E l=>l _ _ ?_;have J:K 1=.lst (L.map .int):=(Z 1 (by decide) (by decide) (by decide) (by decide)).trans hf.f1;have U:K 2=wC a b d:=(Z 2 (by decide) (by decide) (by decide) (by decide)).trans j;have M:K 17=lT P a b d:=(Z 17 (by decide) (by decide) (by decide) (by decide)).trans g17;have h18:K 18=lT Q a b d:=(Z 18 (by decide) (by decide) (by decide) (by decide)).trans g18;have h19:K 19=wV w:=(Z 19 (by decide) (by decide) (by decide) (by decide)).trans hf.Sl;clear l Z;refine .cI (xk (P:=P) V J hpT) (ec (by decide)) ?_;have A1:=Ig 17 (st:= [none,none]) (loc:=LF (kN K 25 (Rb P))) (n:=17) (p:=25) (t:=24) (w:=w) (T:=nh a b d w) F G (fu (by decide) M rfl) (fu (by decide) h19 rfl) (fu (by decide) U rfl) (fu (by decide) eW rfl) (fu (by decide) E rfl);have E1:yd (iS (fU a b d) w (ot P))=nh a b d w:=by
   refine ab (qU G o.1 (ot P))<|Dh G λv D=>?_;have O:∀p,(ot P p !=0)=true:=λp=>by simpa using hpos p
   rcases v with _|_|_|_|_|v_
   ·rfl
   ·exact O 0
   ·exact O 1
   ·exact O 2
   ·exact O 3
   ·exact absurd D (by lia)
  rw[decide_eq_true E1]at A1;refine .jo (vc A1 rfl)<|.cI (Ii (w:=w) q (f:=kN K 25 (Rb P)) h18 E) (ec (by decide))<|.cI (xk (P:=Q) V J hpF) (ec (by decide)) ?_;have A2:=Ig 17 (st:= [none,none]) (loc:=LF (kN (kN (kN K 25 (Rb P)) 26 (.lst (bq (jM (sh (sA a b d) (HH (sA a b d) w) (yb (ot Q))))))) 28 (Rb Q))) (n:=18) (p:=28) (t:=26) (w:=w) (T:=jM (sh (sA a b d) (HH (sA a b d) w) (yb (ot Q)))) q G (fu (by decide) h18 rfl) (fu (by decide) h19 rfl) (fu (by decide) U rfl) (fu (by decide) eW rfl) (fu (by decide) rfl rfl);simp only[decide_eq_true (qU G o.1 (ot Q))]at A2;exact .ret A2 rfl
 exact fin _ ⟨rfl,rfl,rfl,rfl,R.mono⟩ rfl rfl rfl
theorem Ux:PySem.Challenge.rw_uc0054_01.Holds:=Wb Kn
end Mine.Internal
theorem PySem.Challenge.cw_uc0054_01_holds : PySem.Challenge.rw_uc0054_01.Holds :=
 Mine.Internal.Ux
