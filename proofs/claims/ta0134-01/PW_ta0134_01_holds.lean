import PyProof.Rows.All
import Wide.All
import OpenK.AllK
import Wide.FinOn
import KE.KRevIter
import KE.KSetDisp
import KE.KItem
import KE.KNest
import KE.BitLaws
import OpenK.XOpen
import OpenK.ZHead
import Lean
import PySem.Challenge.RW_ta0134_01
set_option Elab.async false
set_option maxRecDepth 100000
set_option tactic.hygienic false
set_option linter.all false
set_option genSizeOf false
set_option genInjectivity false
set_option genCtorIdx false
set_option bootstrap.genMatcherCode false
open PySem renaming Addr->ao,Around->m7,AutoSeq1.wpAny_loadPart'->aor,BindsTo->zE,BoolOp->vX,Builtin.Int.intBits->i_,Builtin.List.listTooLong->anT,Builtin.Range.rangeSize->an7,Builtin.Range.small->zw,Builtin.Re.reRawNat->aoE,Builtin.Re.reRunToEnd->aoF,Builtin.SmallTypes.iterAll->aop,Builtin.SmallTypes.newRecord->aoq,Builtin.SmallTypes.nextOf->tx,Builtin.Str.occurrences->K9,Builtin.bitAnd->D3,Builtin.divisionGoesByPylong->tr,Calls.Name_function_global->anO,Calls.loadGlobal_builtin->anQ,Calls.loadGlobal_global->anP,Challenge.pw_ta0134_01->KL,Challenge.rw_ta0134_01->anN,CmpOp->eR,Code.quiet_builtin->Lx,Comprehension->m9,Const->vV,DictEntry->e7,Drawn->zc,Env->cn,ExceptHandler->Eo,Expr->aJ,Expr.Attribute.elim->zv,Expr.Call.elim->YQ,Expr.Constant.elim->anZ,Expr.Name->LJ,Expr.Name.elim->YO,Expr.Slice.elim->Ea,Expr.Subscript.elim->Zc,Expr.Tuple.elim->YP,F.entry_dict_get->aow,F.entry_type_call->aos,F.mro_object->aoy,F.plainAttrs_list->Zr,F.plainAttrs_str->Es,F.slot_dict_get->Zl,F.slot_list_index->aoH,F.slot_list_reverse->aou,F.slot_str_format_m->aoG,F.slot_tuple_getitem->an0,F.slot_tuple_iterator_next->aoa,Float64.add->KC,Float64.cmp->og,Float64.cmpInt->ts,Float64.decode->y6,Float64.div->Yo,Float64.divmod->Yl,Float64.fmod->Yk,Float64.halfEven->Kx,Float64.isInf->KD,Float64.isZero->DL,Float64.mul->Yn,Float64.neg->y_,Float64.ofBin->y9,Float64.ofFrac->vM,Float64.ofInt->vN,Float64.pack->y7,Float64.roundMag->y5,Float64.sgn->gw,Float64.shift->pE,Float64.sub->Ym,Float64.zero->Kz,Flow->m5,Flow.next->ri,FuncData->Em,GenState->zb,Heap->aX,Heap.ExtBut->pM,Heap.FlyingW->K0,Heap.Ns.of_isNs->vR,Heap.SameBut->hU,Heap.SameBut.update->tA,Heap.get?->D1,Heap.get?_push_at->LB,Heap.get?_push_of_some->dy,Heap.get?_push_size->d0,Heap.get?_update_self->Eh,Heap.lt_size->dI,Heap.size_push->er,IsZip->zq,Keyword->vZ,NameKind->lZ,NameKind.cell->Ek,NameKind.free->tB,NoneBooked->tu,Obj->fe,Obj.mapSeq->zz,OldK.staticOf_congr->an6,Operator->iM,OsState->eS,Params->dj,Pos->cP,Program->KZ,Result->Ej,Scope->bW,Sem->bj,Sem.pure->DS,Sem.wrap_wrap->KN,Shared->aU,Sre.Seen->nd,Stmt->bx,Stmt.Assign.elim->aoo,Str->ai,Str.mk->Eu,Str.ofString->ep,Thread->DR,Txt.join->aot,Txt.lower->Lw,Txt.replace->aov,Value->aq,Value.int->KP,Value.isInt->pO,Value.none->jM,Value.ref->hP,Value.ref.inj->YH,Value.str->Lz,Value.type->D7,W.BT.get_set->tk,W.BT.set_node->tf,W.CodeHd->zM,W.Fast.te14364793385576792824->anL,W.SharedT->oh,W.abs_get->m6,W.builtinNamed->YC,W.defOf->tp,W.look_both->ec,W.namesMeet->KY,W.piece_app->tm,W.segGoT->m3,W.segRunT->rf,W.segRun_of->tn,W.stepT->tj,W.tabObj->wd,W.topFrame->vQ,World->dg,argBest->DM,argsOk->wb,arm_eval_Call_Name'->aoj,arm_eval_Constant->Yp,arm_exec_Assign->Lm,arm_execs_cons->LF,assign->l0,assignEach->ou,assignInOrder->Lg,binaryOp->kp,bindArgs->rh,bindName->pK,builtinsNs->zj,cLine->rk,cStatics->DT,call->KX,callWith->rp,call_meets->D4,cellsFrom->gz,checkBuiltinCall->Zj,checkTypeCall->Zi,closureFor->zB,codeAmong->Zx,codeAny->v8,codeAny_of_tree->Ei,compareChain->YL,compareOp->kr,dictDisplay->Yt,eval->bG,evalArgs->v_,evalEach->iQ,evalEachOpt->KV,evalOpt->Lc,evalPairs->Yr,exec->fF,execs->fG,firstIter->Lr,functionCode->Zy,getItem->La,getMethod->Lo,handleBy->Ep,hashInt->te,holding->d_,importedModules->KW,intKind->tl,isSubtype->Lu,isSubtype_type->wa,isTrue->iq,letOwnedTupleGo->Ld,mainGlobals->k0,methodCall->Lq,methodCallForm->Za,methodCallPos->Zb,mkText->zJ,model->a5,newFunctionEnv->Lk,newTuple->D9,noteFrame->Zh,operate->zu,pushCells->Lj,pushCells_keeps->v9,pyHashByItsType.reduced->ans,pyIter->tw,pyNext->m8,rawHash->KH,rawInt->gy,richCompare->K6,seqIndex?->v5,setFlight->Lv,setItem->zF,sizeLine->kq,sizeLine_eq->vW,size_pos_of_not_empty->aoc,sliceBounds->rn,sliceRange->YS,spliced->vY,standAt->dZ,storeName->Lf,subDict->KI,swappedStores->zH,swapsWith->Y9,swapsWithSole->tC,sysModules->th,treeTable->jK,truthOfDropped->YI,truthy->tv,typeIs_str->Lb,typeLookup->rg,typeLookup_type->k1,unbindBehindTheSuite->aon,unpackItems->zA,unsupported->DP,updateSeq->YY,valueAt->Ly,wpAny->aO,wpAny_alloc->Y8,wpAny_bind->aB,wpAny_call->Ln,wpAny_callSpecial?_slot->YX,wpAny_call_entry->zx,wpAny_field->ot,wpAny_fieldsOf->LD,wpAny_holding->dT,wpAny_isSubtype_exc->aox,wpAny_ite_split->D5,wpAny_listItems->Zn,wpAny_listPart->Zm,wpAny_loadPart_at->LA,wpAny_mkStrs->Zw,wpAny_mkText->D2,wpAny_mono->hS,wpAny_newObjAsIs_type->aoS,wpAny_newObj_type->ku,wpAny_onRaise->Y1,wpAny_point->Lp,wpAny_pure->bl,wpAny_pyIter_list->Ed,wpAny_pyIter_listiter->an9,wpAny_pyIter_revIter->an8,wpAny_pyIter_tuple->YU,wpAny_pyNext_list_end->YW,wpAny_pyNext_list_item->YV,wpAny_pyNext_tuple_item->an_,wpAny_release->zt,wpAny_rule->tq,wpAny_seqItems->Ee,wpAny_setField_rec->Le,wpAny_sharingNotTold_none->anU,wpAny_specialOf->YN,wpAny_standAt->ko,wpAny_truthy_bool->YJ,wpAny_typeOf->Zg,wpAny_updateSeq->YZ
open List renaming Pairwise.nil->aoh,all_append->zG,all_cons->anH,all_eq_true->b9,all_map->YK,any_append->ZG,any_cons->D6,any_eq_false->apa,any_eq_true->K8,any_toArray->K_,append_assoc->eb,append_cons->Er,append_nil->ea,append_toArray->anS,cons.inj->kn,contains_cons->Zd,contains_iff_mem->oo,contains_nil->Ze,drop_drop->YB,drop_eq_getElem_cons->KJ,drop_eq_nil_of_le->Zp,drop_of_length_le->anz,drop_zero->aoe,eq_nil_of_length_eq_zero->zr,filterMap_cons->Eb,filter_cons->vS,filter_eq_nil_iff->anr,find?_cons->anB,findIdx?_cons->aof,flatten_cons->zl,foldr_cons->anK,forIn_cons->kZ,forall_mem_cons->Y_,getElem?_append_left->vU,getElem?_append_right->pN,getElem?_concat_length->D8,getElem?_eq_getElem->tD,getElem?_eq_none_iff->Ec,getElem?_eq_some_iff->jL,getElem?_inj->Ef,getElem?_map->Et,getElem?_set_ne->Eg,getElem?_set_self->Y0,getElem?_toArray->ra,isEmpty_iff->k2,length->O,length_append->e2,length_cons->gx,length_drop->aoP,length_eq_zero_iff->DZ,length_filter_le->Ey,length_map->gg,length_nil->ze,length_reverse->aom,length_set->zy,length_take->En,length_take_le->Zv,lookup->Y3,lookup_append->El,lookup_cons->gY,map->Zz,map_append->vP,map_congr_left->YD,map_cons->lY,map_drop->ZF,map_map->v3,map_reverse->LI,map_take->ZE,mem_append->bB,mem_append_cons_self->anu,mem_append_left->bL,mem_append_right->aW,mem_cons->dM,mem_cons_of_mem->c7,mem_cons_self->cV,mem_filter->Ew,mem_filterMap->pL,mem_map->iP,mem_of_getElem?->eK,mem_of_getLast?->aod,mem_of_mem_drop->nc,mem_of_mem_take->m_,mem_range->a4,mem_singleton->ek,mem_toArray->DU,nodup_append->rl,nodup_cons->Yv,not_mem_nil->dS,range->aw,range'->kk,range'_succ->Ys,range_eq_range'->anv,range_succ_eq_map->anV,replicate->hQ,replicate_succ->YG,reverse_cons->D0,set_append_left->Y5,set_append_right->Lh,set_set->Y2,size_toArray->hT,sum_cons->ZH,take_append_drop->ti,take_append_length->we,take_append_of_le_length->aoZ,take_left->aoQ,take_length->ov,take_nil->anM,take_of_length_le->Y4,take_take->ao0,zipWith->pJ,zip_map_right->ao1
open Nat renaming ToInt.of_diseq->aoX,add->gu,add_add_add_comm->anJ,add_assoc->m1,add_comm->iO,add_le_add->vL,add_le_add_left->oe,add_le_add_right->pF,add_left_cancel->aok,add_left_comm->ao_,add_lt_add_left->LH,add_lt_add_right->anE,add_lt_of_lt_sub'->anw,add_mul->pP,add_mul_div_left->Yy,add_mul_mod_self_left->anG,add_pos_left->ao4,add_right_comm->zg,add_sub_cancel'->aoM,add_sub_cancel_left->Zq,add_zero->rb,beq->aL,beq_refl->q_,ble->aZ,ble_eq->DI,ble_eq_true_of_le->dD,blt->bE,blt_eq->cg,div->vF,div_add_mod->ao5,div_div_eq_div_mul->oq,div_eq_of_lt->om,div_le_self->aoN,div_lt_iff_lt_mul->td,div_lt_of_lt_mul->LC,div_one->zK,div_pos->DG,eq_of_beq_eq_true->dE,eq_of_mul_eq_mul_left->aoY,land->Yw,le_add_left->jJ,le_add_right->gK,le_add_right_of_le->zL,le_antisymm->DX,le_of_add_le_add_right->aoU,le_of_add_right_le->ao6,le_of_ble_eq_true->b8,le_of_eq->fV,le_of_lt->ik,le_of_lt_succ->vT,le_of_not_lt->zC,le_of_pred_lt->aoV,le_of_sub_eq_zero->aoA,le_of_succ_le->jN,le_refl->bH,le_succ->hg,le_succ_of_le->ip,le_trans->bA,log2->kY,log2_lt->K4,lt_add_one->anx,lt_div_mul_add->aoW,lt_irrefl->hu,lt_log2_self->ani,lt_of_add_right_lt->DO,lt_of_le_of_lt->gf,lt_of_lt_of_eq->anW,lt_of_lt_of_le->eo,lt_of_not_le->Yd,lt_of_sub_eq_succ->Zs,lt_of_succ_le->anR,lt_of_succ_lt_succ->Zk,lt_one_iff->KG,lt_or_ge->DW,lt_succ_iff_lt_or_eq->anq,lt_succ_of_le->DY,lt_succ_of_lt->kl,lt_succ_self->km,lt_trans->ZC,min_eq_left->zD,min_eq_right->anh,mod->lW,mod_eq_of_lt->zp,mod_lt->dN,mod_mul_right_div_self->ano,mod_mul_right_mod->anp,mul->gd,mul_add_div->Yz,mul_add_mod->anI,mul_assoc->aoR,mul_comm->y4,mul_le_mul_left->vI,mul_le_mul_right->vJ,mul_one->vK,mul_pos->Yh,ne_of_gt->hM,ne_of_lt->il,not_le_of_lt->anC,not_lt->ez,not_lt_zero->zo,not_succ_le_self->Ll,not_succ_le_zero->apb,one_mul->y8,one_pos->LG,pow->e1,pow_add->ki,pow_le_pow_right->q9,pow_succ'->Yx,pow_zero->DK,strongRecOn->anY,sub->gX,sub_add_cancel->anj,sub_eq_iff_eq_add->apc,sub_le_sub_right->aoB,sub_pos_of_lt->anF,sub_self->KA,succ->i9,succ.inj->zm,succ_add->K7,succ_add_eq_add_succ->zf,succ_inj->zh,succ_le_of_lt->aoT,succ_le_succ->Ex,succ_mul->LK,succ_pos->fp,testBit->YA,testBit_div_two_pow->aoL,toNat_testBit->apf,two_pow_pos->kX,zero_add->hO,zero_le->Zf,zero_mul->wc
open Int renaming add_assoc->anD,add_comm->Ky,ediv_emod_unique->ao9,eq_ofNat_of_zero_le->YT,fdiv_eq_ediv_of_nonneg->za,fmod_eq_emod_of_nonneg->zN,le_of_lt->vO,le_refl->DN,le_trans->zi,lt_of_le_of_lt->ant,lt_of_lt_of_le->Yj,mul_add->KQ,mul_comm->DV,natAbs_mul->ape,natAbs_neg->ZD,natCast_add->KU,natCast_nonneg->m2,negSucc_lt_zero->Yi,neg_fdiv_neg->ao7,neg_fmod_neg->ao8,neg_sub->DJ,not_le->Yg,not_lt->K5,ofNat.inj->aoO,ofNat_inj->anm,ofNat_le->vG,ofNat_lt->q8,ofNat_ne_zero->ao3,ofNat_sub->ank,sub_le_sub_right->anl,sub_neg_of_lt->ang,sub_nonneg_of_le->Ye,toNat->Zo,toNat_natCast->aob,toNat_sub->vH,zero_add->KS,zero_mul->KR
open Option renaming any_eq_true->anA,bind->Y7,bind_eq_some_iff->rm,bind_some->gM,isNone_iff_eq_none->zk,isSome_iff_exists->KO,isSome_none->aoC,map_eq_none_iff->v7,map_eq_some_iff->hR,map_some->apd,none->aa,some->B,some.inj->ak
open Bool renaming and_eq_true->jH,and_eq_true_iff->bF,eq_false_iff->YF,eq_iff_iff->DH,false->aj,false_and->aoz,false_eq_true->aoD,false_ne_true->hN,noConfusion->y3,or_eq_false_iff->aoI,or_eq_true->lX,or_false->Ls,or_true->Zt,rec->zI,true->S,true_and->aoi
open Classical renaming byContradiction->aol,choose->LL,choose_spec->wg,em->Li,propDecidable->Zu
open Array renaming getElem?_eq_getElem->aoJ,getElem?_mapIdx->YE,getElem_mem->aoK,toList_inj->ZA
open _root_ renaming Array->fE,Bool->aF,DecidableEq->Yu,Eq.symm->oj,Eq.trans->Y,ForInStep->pH,ForInStep.yield->m4,Int->ah,List->H,Nat->J,Ne.symm->rd,Option->U,Ordering->pG,PUnit->zd,PUnit.unit->kj,Prod.fst->Y6,Prod.mk.inj->bc,Prod.mk.injEq->ao2,Pure.pure->tg,PyProof.Rows.subscriptTail->D_,String->b1,UInt64->jI,UInt64.ofNat->gv,Unit->gL,absurd->aS,beq_eq_false_iff_ne->DQ,beq_false_of_ne->ro,beq_iff_eq->cI,beq_self_eq_true->oi,bind_pure->YM,congrArg->aM,congrFun->pI,decide_eq_false->l1,decide_eq_true->gJ,decide_eq_true_eq->Kw,dif_neg->ja,if_false->YR,if_neg->a6,if_pos->bC,le_of_eq_of_le->an1,ne_of_beq_false->aog,not_or->rj,of_decide_eq_true->iN,or_false->jO
open PySem PySem.W PyProof.Rows PySem.SeqAt
namespace Mine.Internal
local macro_rules | `(tactic| lk) => `(tactic| kernel_rfl)
noncomputable section
theorem bw{p:Prop}(h:aj=S):p:=aS h y3
theorem nn{A:Type}{a:A}{p:Prop}(h:aa=B a):p:=nomatch h
theorem cq{p q G:Prop}(h:p/\q)(k:p->q->G):G:=k h.1 h.2
theorem ff{p q r G:Prop}(h:p/\q/\r)(k:p->q->r->G):G:=k h.1 h.2.1 h.2.2
theorem pR{p q r s G:Prop}(h:p/\q/\r/\s)(k:p->q->r->s->G):G:=k h.1 h.2.1 h.2.2.1 h.2.2.2
theorem GC{p q r s t G:Prop}(h:p/\q/\r/\s/\t)(k:p->q->r->s->t->G):G:=k h.1 h.2.1 h.2.2.1 h.2.2.2.1 h.2.2.2.2
theorem a7{A:Sort _}{p:A->Prop}{G:Prop}(h:∃x,p x)(k:∀x,p x->G):G:=let ⟨x,h⟩:=h;k x h
theorem av{A:Sort _}{p q:A->Prop}{G:Prop}(h:∃x,p x/\q x)(k:∀x,p x->q x->G):G:=a7 h λ x h=>k x h.1 h.2
theorem gF{A:Sort _}{p q r:A->Prop}{G:Prop}(h:∃x,p x/\q x/\r x)(k:∀x,p x->q x->r x->G):G:=a7 h λ x h=>k x h.1 h.2.1 h.2.2
theorem Ar{A:Sort _}{p q r s:A->Prop}{G:Prop}(h:∃x,p x/\q x/\r x/\s x)(k:∀x,p x->q x->r x->s x->G):G:=a7 h λ x h=>k x h.1 h.2.1 h.2.2.1 h.2.2.2
theorem t7{A:Sort _}{p q r s t:A->Prop}{G:Prop}(h:∃x,p x/\q x/\r x/\s x/\t x)(k:∀x,p x->q x->r x->s x->t x->G):G:=a7 h λ x h=>k x h.1 h.2.1 h.2.2.1 h.2.2.2.1 h.2.2.2.2
theorem f5{A Bq:Sort _}{p:A->Bq->Prop}{G:Prop}(h:∃x y,p x y)(k:∀x y,p x y->G):G:=let ⟨x,y,h⟩:=h;k x y h
theorem eM{A Bq:Sort _}{p q:A->Bq->Prop}{G:Prop}(h:∃x y,p x y/\q x y)(k:∀x y,p x y->q x y->G):G:=f5 h λ x y h=>k x y h.1 h.2
theorem e4{A Bq:Sort _}{p q r:A->Bq->Prop}{G:Prop}(h:∃x y,p x y/\q x y/\r x y)(k:∀x y,p x y->q x y->r x y->G):G:=f5 h λ x y h=>k x y h.1 h.2.1 h.2.2
theorem eg{A Bq:Sort _}{p q r s:A->Bq->Prop}{G:Prop}(h:∃x y,p x y/\q x y/\r x y/\s x y)(k:∀x y,p x y->q x y->r x y->s x y->G):G:=f5 h λ x y h=>k x y h.1 h.2.1 h.2.2.1 h.2.2.2
theorem la{A Bq:Sort _}{p q r s t:A->Bq->Prop}{G:Prop}(h:∃x y,p x y/\q x y/\r x y/\s x y/\t x y)(k:∀x y,p x y->q x y->r x y->s x y->t x y->G):G:=f5 h λ x y h=>k x y h.1 h.2.1 h.2.2.1 h.2.2.2.1 h.2.2.2.2
theorem me{A Bq C:Sort _}{p:A->Bq->C->Prop}{G:Prop}(h:∃x y z,p x y z)(k:∀x y z,p x y z->G):G:=let ⟨x,y,z,h⟩:=h;k x y z h
theorem oL{A Bq C:Sort _}{p q:A->Bq->C->Prop}{G:Prop}(h:∃x y z,p x y z/\q x y z)(k:∀x y z,p x y z->q x y z->G):G:=me h λ x y z h=>k x y z h.1 h.2
theorem t8{A Bq C:Sort _}{p q r:A->Bq->C->Prop}{G:Prop}(h:∃x y z,p x y z/\q x y z/\r x y z)(k:∀x y z,p x y z->q x y z->r x y z->G):G:=me h λ x y z h=>k x y z h.1 h.2.1 h.2.2
theorem O5{A Bq C:Sort _}{p q r s:A->Bq->C->Prop}{G:Prop}(h:∃x y z,p x y z/\q x y z/\r x y z/\s x y z)(k:∀x y z,p x y z->q x y z->r x y z->s x y z->G):G:=me h λ x y z h=>k x y z h.1 h.2.1 h.2.2.1 h.2.2.2
theorem rS{A Bq C:Sort _}{p q r s t:A->Bq->C->Prop}{G:Prop}(h:∃x y z,p x y z/\q x y z/\r x y z/\s x y z/\t x y z)(k:∀x y z,p x y z->q x y z->r x y z->s x y z->t x y z->G):G:=me h λ x y z h=>k x y z h.1 h.2.1 h.2.2.1 h.2.2.2.1 h.2.2.2.2
theorem hx{A Bq C D:Sort _}{p:A->Bq->C->D->Prop}{G:Prop}(h:∃x y z w,p x y z w)(k:∀x y z w,p x y z w->G):G:=h.elim λ x h=>h.elim λ y h=>h.elim λ z h=>h.elim λ w h=>k x y z w h
theorem GJ{A Bq C D:Sort _}{p q r:A->Bq->C->D->Prop}{G:Prop}(h:∃x y z w,p x y z w/\q x y z w/\r x y z w)(k:∀x y z w,p x y z w->q x y z w->r x y z w->G):G:=hx h λ x y z w h=>k x y z w h.1 h.2.1 h.2.2
theorem GK{A Bq C D:Sort _}{p q r s:A->Bq->C->D->Prop}{G:Prop}(h:∃x y z w,p x y z w/\q x y z w/\r x y z w/\s x y z w)(k:∀x y z w,p x y z w->q x y z w->r x y z w->s x y z w->G):G:=hx h λ x y z w h=>k x y z w h.1 h.2.1 h.2.2.1 h.2.2.2
theorem NK{A Bq C D:Sort _}{p q r s t:A->Bq->C->D->Prop}{G:Prop}(h:∃x y z w,p x y z w/\q x y z w/\r x y z w/\s x y z w/\t x y z w)(k:∀x y z w,p x y z w->q x y z w->r x y z w->s x y z w->t x y z w->G):G:=hx h λ x y z w h=>k x y z w h.1 h.2.1 h.2.2.1 h.2.2.2.1 h.2.2.2.2
theorem bh{A Bq:Sort _}{p:A->Bq->Prop}(a:A)(b:Bq)(h:p a b):∃x y,p x y:=⟨a,b,h⟩theorem e_{A Bq C:Sort _}{p:A->Bq->C->Prop}(a:A)(b:Bq)(c:C)(h:p a b c):∃x y z,p x y z:=(bh a b ⟨c,h⟩)theorem hV{A Bq C D:Sort _}{p:A->Bq->C->D->Prop}(a:A)(b:Bq)(c:C)(d:D)(h:p a b c d):∃x y z w,p x y z w:=(e_ a b c ⟨d,h⟩)theorem E2{A Bq C D E:Sort _}{p:A->Bq->C->D->E->Prop}(a:A)(b:Bq)(c:C)(d:D)(e:E)(h:p a b c d e):∃x y z w u,p x y z w u:=(hV a b c d ⟨e,h⟩)theorem E3{A Bq C D E F:Sort _}{p:A->Bq->C->D->E->F->Prop}(a:A)(b:Bq)(c:C)(d:D)(e:E)(f:F)(h:p a b c d e f):∃x y z w u v,p x y z w u v:=(E2 a b c d e ⟨f,h⟩)theorem pU{A Bq C D E F G:Sort _}{p:A->Bq->C->D->E->F->G->Prop}(a:A)(b:Bq)(c:C)(d:D)(e:E)(f:F)(g:G)(h:p a b c d e f g):∃x y z w u v t,p x y z w u v t:=(E3 a b c d e f ⟨g,h⟩)
@[elab_as_elim] theorem L{A:Sort _}{a b:A}{P:A->Prop}(h:a=b)(k:P b):P a:=h▸k
@[elab_as_elim] theorem ax{A:Sort _}{a b:A}{P:A->Prop}(h:a=b)(k:P a):P b:=h▸k
class inductive AllP{A:Type}(P:A->Prop):H A->Prop
 |nil:AllP P []
 |cons {a l} :P a->AllP P l->AllP P (a::l)theorem AllP.mem{A:Type}{P:A->Prop}{l:H A}(h:AllP P l):∀a∈l,P a:=by induction h with|nil=>exact λ u q=>aS q dS|cons p _ i=>exact λ b q=>(dM.mp q).elim (λ e=>L e p) (i b)theorem dO(b:aF){G:Prop}(t:b=S->G)(f:b=aj->G):G:=match b,t,f with|true,t,_=>t rfl|false,_,f=>f rfl
theorem wy(b:aF){G:Prop}(f:b=aj->G)(t:b=S->G):G:=dO b t f
theorem eD{A:Type _}(o:U A){G:Prop}(n:o=aa->G)(s:∀a,o=B a->G):G:=match o,n,s with|none,n,_=>n rfl|some a,_,s=>s a rfl
theorem rY{A:Type _}(o:U A){G:Prop}(s:∀a,o=B a->G)(n:o=aa->G):G:=eD o n s
theorem bo(h:(a&&b)=S):a=S/\b=true:=bF.mp h
theorem eV{A:Type}{l:H A} :∃β,l=l++β:=⟨[],(ea l).symm⟩theorem w0{A:Type}{l:H A}{p:A->Prop} :∃e,l=l++e/\∀a,a∈e->p a:=⟨[],(ea l).symm,λ u h=>aS h dS⟩theorem h6{A:Type}{l r:H A}{a:A} :(l++a::r)[O l]?=B a:=L (pN (bH _)) (L (KA ..) rfl)theorem oT{A:Type}{l r:H A}{a b:A} :(l++a::r).set (O l) b=l++b::r:=L (Lh _ _ (bH _)) (L (KA ..) rfl)theorem oR{A:Type}{l:H A}{a:A}(h:l[i]?=B a):i<O l:=(jL.mp h).1
theorem iD{A:Type}{l r:H A}{i:J}{a:A}(h:l[i]?=B a):(l++r)[i]?=B a:=Y (vU (oR h)) h
theorem ux{A:Type}{l r:H A}{a b:A}(h:l[i]?=B a):(l++r).set i b=l.set i b++r:=Y5 _ _ (oR h)theorem mw{A:Type}{l t:H A}(e:l.drop i=t):l[i]?=t.head? /\l.drop (i+1)=t.tail:=⟨by simp[<-e,List.head?_drop],by simp[<-e,List.tail_drop]⟩
theorem GL{A:Type}{p:ai->aF}(n:ai):∀l:H (ai×A),(l.filter λ q=>p q.1).lookup n=match p n with|true=>l.lookup n|false=>aa
 |[]=>by cases p n<;>rfl
 |(m,a)::l=>by
  obtain i:=GL n l;rw[vS];dsimp only[gY];cases G:n==m with
  |true=>
   refine(cI.mp G)▸?_;cases h:p n with
   |true=>rw[bC rfl,gY,oi]|false=>rw[a6 hN,i,h]
  |false=>refine ax i ?_;induction p m with|true=>rw[bC rfl,gY,G]|false=>rw[a6 hN]theorem O6{A:Type}{p:ai->aF}{l:H (ai×A)}{a:A}(e:(l.filter λ q=>p q.1).lookup n=B a):p n=S/\l.lookup n=B a:=by rw[GL]at e;cases h:p n with|true=>rw[h]at e;exact⟨rfl,e⟩|false=>rw[h]at e;exact nn e
structure fi(s s':aU):Prop where
 toks:s.toks<=s'.toks
 size:s.heap.objs.size<=s'.heap.objs.size
 gone:∀b,b<s.heap.objs.size->s.heap.get? b=aa->s'.heap.get? b=aa
theorem fi.refl(s:aU):fi s s:=⟨bH _,bH _,λ u u e=>e⟩theorem fi.trans(a:fi s t)(b:fi t u):fi s u:=⟨bA a.toks b.toks,bA a.size b.size,λ c l e=>b.gone c (eo l a.size) (a.gone c l e)⟩theorem fi.fresh(s:aU):fi s {s with toks:=s.toks+1} :=⟨hg _,bH _,λ u u e=>e⟩theorem fi.alloc(s:aU)(o:fe):fi s {s with heap:=s.heap.push o} :=⟨bH _,by show _<=(s.heap.push o).objs.size;rw[er];exact hg _,λ b l e=>Y (Heap.get?_push_ne s.heap b o (il l)) e⟩
theorem fi.update(s:aU)(a:ao)(f:fe->fe)(h:(s.heap.get? a).isSome):fi s {s with heap:=s.heap.update a f} :=⟨bH _,by show _<=(s.heap.update a f).objs.size;rw[Heap.size_update];exact bH _,λ b l e=>by
 exact Y (Heap.get?_update_other s.heap f (by rintro rfl;rw[e]at h;exact bw h)) e⟩
set_option tactic.hygienic true in
theorem GN(h:Runs M z p t f s e s'):fi s s':=by induction h with|done|raise|yield=>exact .refl _|fresh _ g=>exact(fi.fresh _).trans g|alloc _ g=>exact(fi.alloc _ _).trans g|update c _ g=>exact(fi.update _ _ _ c).trans g|call _ _ I i=>exact I.trans i|resumeFresh _ _ _ _ I i=>exact fi.trans ⟨I.toks,I.size,I.gone⟩ ⟨i.toks,i.size,i.gone⟩|resumeSuspended _ _ _ _ I i=>exact fi.trans ⟨I.toks,I.size,I.gone⟩ ⟨i.toks,i.size,i.gone⟩|segRet _ _ I i=>exact I.trans i|segGen _ _ I i=>exact fi.trans I ⟨i.toks,i.size,i.gone⟩|segSuspGen _ _ _ _ I i=>exact fi.trans I ⟨i.toks,i.size,i.gone⟩|_=>rename_i g;exact⟨g.toks,g.size,g.gone⟩
theorem adB(h:Wakes M z p g r s R s'):fi s s':=by
 delta Wakes at h;revert h;rcases s.gens[g]? with _|st
 ·exact False.elim
 ·cases st with
  |fresh c=>
   cases r with
   |send v=>
    cases v with
    |none=>exact λ h=>eg h λ u u W u u w=>w▸have:=GN W;⟨this.toks,this.size,this.gone⟩|_=>exact λ h=>ax h.2 (.refl _)
   |throw x=>exact λ h=>L h.2 ⟨bH _,bH _,λ u u e=>e⟩
  |suspended=>exact λ h=>eg h λ u u W u u w=>w▸have:=GN W;⟨this.toks,this.size,this.gone⟩|_=>exact λ h=>ax h.2 (.refl _)
theorem adC{X:Type}{Q:X->cP->aU->Prop}(M:Model)(b:Ctx)(t:bj X)(C:aU)(p:cP)(s:aU)(V:fi C s)(h:Sem.wp M b t Q E p s):
  Sem.wp M b t (λ a p s'=>Q a p s'/\fi C s') (λ e p s'=>E e p s'/\fi C s') p s:=by
 revert h;induction t generalizing p s with|pure x=>exact λ h=>⟨h,V⟩|raise v=>exact λ h=>⟨h,V⟩|unsupported|finish|yield|fork|await|register=>exact id|fresh k i=>exact i _ _ _ (V.trans (.fresh _))|alloc _ k i=>exact i _ _ _ (V.trans (.alloc _ _))|rule _ k i| «at» _ k i|loadIfAlive _ k i|point _ k i|ask k i|os _ _ k i|handled _ k i|newGen _ k i|stack k i|thread k i=>exact i _ _ _ ⟨V.toks,V.size,V.gone⟩|load a _ k i|genState a k i=>exact λ z=>av z λ o j h=>⟨o,j,i _ _ _ V h⟩|update a _ f k i=>exact λ z=>cq z λ d h=>⟨d,i _ _ _ (V.trans (.update _ _ _ d)) h⟩|choose _ _ k i=>exact λ z=>cq z λ d h=>⟨d,i _ _ _ ⟨V.toks,V.size,V.gone⟩ h⟩|call c h g l k i=>exact λ z=>eM z λ r s' W h=>(bh r s' ⟨W,i r p s' (V.trans (GN W)) h⟩)|resume g r l k i=>exact λ z=>eM z λ P s' w h=>(bh P s' ⟨w,i _ _ _ (V.trans (adB w)) h⟩)
theorem GP{X:Type}{t:bj X}{Q:X->aU->Prop}(h:aO M A t Q E s):
  aO M A t (λ a s'=>Q a s'/\fi s s') (λ e s'=>E e s'/\fi s s') s:=
 λ z p q=>adC M z t s p s (.refl _) (h z p q)
theorem g4{X:Type}{t:bj X}{Q:X->aU->Prop}{E:aq->aU->Prop}(h:aO M A t (λ a s'=>fi s s'->Q a s') (λ e s'=>fi s s'->E e s') s):aO M A t Q E s:=
 hS (GP h) (λ u u y=>y.1 y.2) λ u u y=>y.1 y.2
theorem ac8{X:Type}(M:Model)(z:Ctx)(t:bj X)(p:cP)(s:aU)(h:Sem.wp M z t (λ u u u=>False) (λ u u u=>False) p s):False:=by induction t generalizing p s with|pure x=>exact h|raise v=>exact h|unsupported|finish|yield|fork|await|register=>exact h|fresh k i|alloc _ k i=>exact i _ _ _ h|rule _ k i| «at» _ k i|loadIfAlive _ k i|point _ k i|ask k i|os _ _ k i|handled _ k i|newGen _ k i|stack k i|thread k i=>exact i _ _ _ h|load a _ k i|genState a k i=>exact av h λ o j=>i _ _ _|update a _ f k i|choose _ _ k i=>exact i _ _ _ h.2|call c h' g l k i=>exact eM h λ r s' Q=>i r p s'|resume g r l k i=>exact eM h λ E s' b=>i _ _ _
abbrev cb(X Yq:H ao):Prop:=∀b∈X,b∈Yq
abbrev fX(h h':aX)(X Yq:H ao):Prop:=∀b o,h.get? b=B o->b∉X->h'.get? b=B o/\b∉Yq
inductive D where
 |none|bool (b:aF)|int (i:ah)|aR (u:jI)|str (s:ai)
 |ty (n:b1)|bi (n:b1)|obj (a:ao)
 |ae (xs:H D)|aD (xs:H D)|exc (c:b1)(xs:H D)noncomputable def D.ctorIdx(e:D):Nat:=D.casesOn (motive_1:=λ u=>J) e 0 (λ u=>1) (λ u=>2) (λ u=>3) (λ u=>4) (λ u=>5) (λ u=>6) (λ u=>7) (λ u=>8) (λ u=>9) (λ u u=>10)
inductive V where
 |d (x:D)|aH (i:J)noncomputable def V.ctorIdx(e:V):Nat:=V.casesOn (motive:=λ u=>J) e (λ u=>0) (λ u=>1)
inductive fu where
 |list (xs:H D)(i:J)|e3 (j i:J)|aD (xs:H D)(i:J)|str (s:ai)(i:J)|ji (a:ah)(n:J)|rev (xs:H D)(k:J)
 |enu (j k:J)|zip (js:H J)(t:J)noncomputable def fu.ctorIdx(e:fu):Nat:=fu.casesOn (motive:=λ u=>J) e (λ u u=>0) (λ u u=>1) (λ u u=>2) (λ u u=>3) (λ u u=>4) (λ u u=>5) (λ u u=>6) (λ u u=>7)
inductive cj where
 |ae (xs:H D)|fY (es:H (ai×V))|fld (es:H (ai×V))|inst (c:ao)(j:J)|it (k:fu)|hX (a b:ah)|gD (n:J)|jj|cX
 |tab (p line col:J)(q:ai)noncomputable def cj.ctorIdx(e:cj):Nat:=cj.casesOn (motive:=λ u=>J) e (λ u=>0) (λ u=>1) (λ u=>2) (λ u u=>3) (λ u=>4) (λ u u=>5) (λ u=>6) 7 8 (λ u u u u=>9)abbrev aE:=H cj
def IsL(h:aX)(a:ao)(vs:H aq):Prop:=∃n,h.get? a=B {cls:=.type "list",data:=.seq vs.toArray n}def IsT(h:aX)(a:ao)(vs:H aq):Prop:=∃n,h.get? a=B {cls:=.type "tuple",data:=.seq vs.toArray n}theorem IsL.isList(x:IsL h a vs):h.IsList a vs.toArray:=a7 x λ n e=>⟨_,e,rfl,n,rfl⟩theorem IsT.isTup(x:IsT h a vs):IsTup h a vs.toArray:=a7 x λ n e=>⟨_,e,rfl,n,rfl⟩theorem IsT.iV(x:IsT h a vs):h.IsTuple a vs.toArray:=a7 x λ n e=>⟨_,e,rfl,n,rfl⟩
class inductive bQ{Sq T:Type}(R:Sq->T->Prop):H Sq->H T->Prop
 |nil:bQ R [] []
 |cons {a b as bs} :R a b->bQ R as bs->bQ R (a::as) (b::bs)
class inductive aV(X:H ao)(h:aX):aq->D->Prop
 |none:aV X h .none .none
 |bool (b):aV X h (.bool b) (.bool b)
 |int (i t):aV X h (.int i t) (.int i)
 |aR (u t):t≠0->aV X h (.float u t) (.aR u)
 |str (s t):aV X h (.str s t) (.str s)
 |ty (n):aV X h (.type n) (.ty n)
 |bi (n):aV X h (.builtin n) (.bi n)
 |obj {a o} :a∉X->h.get? a=B o->aV X h (.ref a) (.obj a)
 |ae {a vs xs} :a∉X->IsL h a vs->bQ (aV X h) vs xs->aV X h (.ref a) (.ae xs)
 |aD {a vs xs} :a∉X->IsT h a vs->bQ (aV X h) vs xs->aV X h (.ref a) (.aD xs)
 |exc {a c o ws t vs xs} :a∉X->h.get? a=B o->o.cls=.type c->o.data=.fields ws->ws[0]?=B (.ref t)->t∉X->h.TupAt t vs->bQ (aV X h) vs xs->aV X h (.ref a) (.exc c xs)abbrev bT(X:H ao)(h:aX):H aq->H D->Prop:=bQ (aV X h)theorem bQ.ind{P:H aq->H D->Prop}(n:P [] [])(c:∀v vs x xs,aV X h v x->bT X h vs xs->P vs xs->P (v::vs) (x::xs))(r:bT X h vs xs):P vs xs:=by induction r with|nil=>exact n|cons a r i=>exact c _ _ _ _ a r i
theorem bQ.length{Sq T:Type}{R:Sq->T->Prop}{as:H Sq}{bs:H T}(r:bQ R as bs):O as=O bs:=by induction r with|nil=>rfl|cons _ _ i=>exact aM i9 i
theorem bQ.append(r:bT X h vs xs)(s:bT X h Q y):bT X h (vs++Q) (xs++y):=r.ind (P:=λ vs xs=>bT X h (vs++Q) (xs++y)) s λ u u u u a u=>.cons a
theorem bQ.get{i:J}(r:bT X h vs xs):xs[i]?=B x->∃v,vs[i]?=B v/\aV X h v x:=by refine r.ind (P:=λ vs xs=>∀i:J,xs[i]?=B x->∃v,vs[i]?=B v/\aV X h v x) (λ u=>nn) (λ v vs y xs a u I i e=>?_) i;induction i with|zero=>exact⟨v,rfl,ax (ak e) a⟩|succ i=>exact I i e
theorem bQ.nt(r:bT X h vs (d::ds)):∃v u,vs=v::u/\aV X h v d/\bT X h u ds:=by cases r with|cons r R=>exact(bh _ _ ⟨rfl,r,R⟩)
theorem bQ.drop(n:J)(r:bT X h vs xs):bT X h (vs.drop n) (xs.drop n):=r.ind (P:=λ vs xs=>∀n:J,bT X h (vs.drop n) (xs.drop n)) (λ n=>by induction n<;>exact .nil) (λ u u u u a r i n=>by
 induction n with
 |zero=>exact .cons a r|succ n=>exact i n) n
theorem bQ.reverse(r:bT X h vs xs):bT X h vs.reverse xs.reverse:=r.ind (P:=λ vs xs=>bT X h vs.reverse xs.reverse) .nil λ u u u u a u i=>L D0 (L D0 (i.append (.cons a .nil)))
theorem aV.mono{v:aq}{x:D}(r:aV X h v x)(k:fX h h' X Yq):aV Yq h' v x:=
 have A:∀{a o},a∉X->h.get? a=B o->a∉Yq/\h'.get? a=B o:=λ n e=>(k _ _ e n).symm
 aV.rec (motive_1:=λ v x u=>aV Yq h' v x) (motive_2:=λ vs xs u=>bQ (aV Yq h') vs xs) .none .bool .int .aR .str .ty .bi (λ n e=>.obj (A n e).1 (A n e).2)
   (λ n ⟨j,e⟩ _ r=>.ae (A n e).1 ⟨j,(A n e).2⟩ r) (λ n ⟨j,e⟩ _ r=>.aD (A n e).1 ⟨j,(A n e).2⟩ r) (λ n e c d w b ⟨o,j,E,q⟩ _ r=>.exc (A n e).1 (A n e).2 c d w (A b E).1 ⟨o,j,(A b E).2,q⟩ r) .nil (λ u u a r=>.cons a r) r
theorem bQ.mono{vs:H aq}{xs:H D}(r:bT X h vs xs)(k:fX h h' X Yq):bT Yq h' vs xs:=r.ind (P:=λ vs xs=>bT Yq h' vs xs) .nil λ u u u u a u i=>.cons (a.mono k) i
def NI(X:H ao)(h:aX)(v:aq)(d:D):Prop:=match d with|.none=>v=.none|.bool b=>v=.bool b|.int i=>∃t,v=.int i t|.aR u=>∃t,v=.float u t/\t≠0|.str s=>∃t,v=.str s t|.ty n=>v=.type n|.bi n=>v=.builtin n|.obj a=>v=.ref a/\a∉X/\∃o,h.get? a=B o|.ae xs=>∃a vs,v=.ref a/\a∉X/\IsL h a vs/\bT X h vs xs|.aD xs=>∃a vs,v=.ref a/\a∉X/\IsT h a vs/\bT X h vs xs|.exc c xs=>∃a o W t vs,v=.ref a/\a∉X/\h.get? a=B o/\o.cls=.type c/\o.data=.fields W/\W[0]?=B (.ref t)/\t∉X/\h.TupAt t vs/\bT X h vs xs
theorem aV.inv(r:aV X h v d):NI X h v d:=by cases r with|none=>rfl|bool=>rfl|int _ t=>exact⟨t,rfl⟩|aR _ t n=>exact⟨t,rfl,n⟩|str _ t=>exact⟨t,rfl⟩|ty=>rfl|bi=>rfl|obj n e=>exact⟨rfl,n,_,e⟩|ae n e r=>exact(bh _ _ ⟨rfl,n,e,r⟩)|aD n e r=>exact(bh _ _ ⟨rfl,n,e,r⟩)|exc n e c d w b q r=>exact(E2 _ _ _ _ _ ⟨rfl,n,e,c,d,w,b,q,r⟩)
def a9(X:H ao)(α:H ao)(h:aX)(v:aq):V->Prop
 |.d x=>aV X h v x|.aH i=>∃a,α[i]?=B a/\v=.ref a
class inductive oK(P:dj)(X:H ao)(α:H ao)(h:aX):H e7->H (ai×V)->Prop
 |nil:oK P X α h [] []
 |cons {k t v x es xs} :a9 X α h v x->oK P X α h es xs->oK P X α h (⟨PyData.keyHash P k,.str k t,v⟩::es) ((k,x)::xs)
def iz(X α:H ao)(h:aX)(a:ao):fu->Prop
 |.list xs i=>∃l vs,h.IsListIter a l i/\l∉X/\IsL h l vs/\bT X h vs xs|.e3 j i=>∃l,α[j]?=B l/\h.IsListIter a l i|.aD xs i=>∃l vs,h.IsTupleIter a l i/\l∉X/\IsT h l vs/\bT X h vs xs|.str s i=>∃t,h.IsStrIter a "str_ascii_iterator" s t i\/h.IsStrIter a "str_iterator" s t i|.ji x n=>IsRangeIter h a x n 1|.rev xs k=>∃l vs,h.IsRevIter a l ((k:ah)- 1)/\k<=O xs/\l∉X/\IsL h l vs/\bT X h vs xs|.enu j k=>∃b o,α[j]?=B b/\IsEnum h a b k o|.zip js t=>∃(T I:ao)(bs:H ao),(js.map λ j=>α[j]?)=bs.map B/\α[t]?=B I/\T∉X/\zq h a T I .none/\h.get? T=B {cls:=.type "tuple",data:=.seq (bs.map hP).toArray}
def md(X:H ao)(h:aX)(a:ao)(l C:J)(q:ai):Prop:=
 ∃vs:fE aq,h.get? a=B {cls:=.none,data:=.fields vs} /\(vs= #[]\/∃c o f t,vs= #[gy l,gy C,.ref c]/\c∉X/\h.get? c=B o/\o.data=.fields f/\f[1]?=B (.str q t))
def d2(P:dj)(X:H ao)(α:H ao)(h:aX)(a:ao):cj->Prop
 |.ae xs=>∃vs,IsL h a vs/\bT X h vs xs|.fY es=>∃(E:fE e7)(n:J)(_:gL),h.get? a=B ⟨.type "dict",aa,.dict E n, #[]⟩/\oK P X α h E.toList es|.fld es=>∃m,h.Ns1 a m/\h.ExactDictFk a/\(∀n,es.lookup n=aa->m n=aa)/\∀n v,es.lookup n=B v->∃u,m n=B u/\a9 X α h u v|.inst c j=>∃b,α[j]?=B b/\h.get? a=B ⟨.ref c,B b,.plain, #[]⟩|.it k=>iz X α h a k|.hX x y=>∃t u v,IsRange h a x y 1 t u v|.gD n=>∃vs:H aq,O vs=n/\h.get? a=B {cls:=.type "tuple",data:=.seq vs.toArray}|.jj=>∃o,h.get? a=B o/\o.cls=.type "re.Match"|.cX=>a<h.objs.size|.tab p l C q=>a=p/\md X h a l C q
class inductive c0(P:dj)(X:H ao)(α:H ao)(h:aX):H ao->aE->Prop
 |nil:c0 P X α h [] []
 |cons {a as m ms} :d2 P X α h a m->c0 P X α h as ms->c0 P X α h (a::as) (m::ms)theorem map_some{α aA:H ao}{js:H J}{bs:H ao}(e:(js.map λ j=>α[j]?)=bs.map B)(T:∀j b,j∈js->α[j]?=B b->aA[j]?=B b):(js.map λ j=>aA[j]?)=bs.map some:=ax e (YD λ j D=>av (iP.mp (ax e (List.mem_map_of_mem D))) λ b u q=>L (T j b D q.symm) q)theorem get_append{α p:H ao}{j:J}(e:α[j]?=B b):(α++p)[j]?=B b:=by rw[vU (jL.mp e).1];exact e
theorem NJ{α p:H ao}{js:H J}{bs:H ao}(e:(js.map λ j=>α[j]?)=bs.map B):(js.map λ j=>(α++p)[j]?)=bs.map some:=map_some e λ j b u=>get_append
theorem md.mono{a:ao}{l c:J}{q:ai}(r:md X h a l c q)(d:h'.get? a=h.get? a)(k:fX h h' X Yq):md Yq h' a l c q:=by refine av r λ vs e r=>(⟨vs,Y d e,r.imp id λ z=>NK z λ c o f t R E s D eT=>(hV c o f t ⟨R,(k _ _ s E).2,(k _ _ s E).1,D,eT⟩)⟩)theorem d2.there(r:d2 P X α h a m)(N:m≠ .cX):∃o,h.get? a=B o:=by induction m with|ae xs=>exact av r λ vs D u=>(a7 D λ n e=>⟨_,e⟩)|fY es=>exact oL r λ E n R e u=>⟨_,e⟩|inst c j=>exact av r λ b u e=>⟨_,e⟩|fld es=>exact av r λ u w u=>(oL w λ o u u e u=>⟨_,e⟩)|hX x y=>exact me r λ u u u e=>⟨_,e⟩|gD n=>exact av r λ u u e=>⟨_,e⟩|jj=>exact av r λ u e u=>⟨_,e⟩|cX=>exact aS rfl N|tab p l c q=>obtain⟨_,_,e,_⟩:=r;exact⟨_,e⟩|it k=>induction k with|list xs i=>refine eM r λ l vs W u=>?_;obtain⟨o,e,_⟩:=W;exact⟨_,e⟩|e3 j i=>obtain⟨l,_,⟨o,e,_⟩⟩:=r;exact⟨_,e⟩|aD xs i=>exact eM r λ l vs C u=>(av C λ o e u=>⟨_,e⟩)|str s i=>obtain⟨t,⟨o,e,_⟩|⟨o,e,_⟩⟩:=r<;>exact⟨_,e⟩|ji x n=>exact⟨_,r⟩|rev xs k=>exact eM r λ l vs Q u=>(av Q λ o e u=>⟨_,e⟩)|enu j k=>exact eM r λ b d u e=>⟨_,e⟩|zip js t=>exact rS r λ u u u u u u e u=>⟨_,e⟩
theorem d2.lt(r:d2 P X α h a m):a<h.objs.size:=by
 by_cases e:m=.cX
 ·subst e;exact r
 ·exact a7 (r.there e) λ o=>dI
noncomputable def Aq:V->U J
 |.d _=>aa|.aH i=>B i
def NL:cj->H J
 |.ae _|.hX _ _|.gD _|.jj|.cX|.tab _ _ _ _=>[]|.fY es|.fld es=>es.filterMap λ e=>Aq e.2|.inst _ j=>[j]|.it k=>match k with|.e3 j _=>[j]|.enu j _=>[j]|.zip js t=>t::js|_=>[]theorem a9.mf{X Yq α aA:H ao}(r:a9 X α h v x)(k:fX h h' X Yq)(T:∀j b,Aq x=B j->α[j]?=B b->aA[j]?=B b):a9 Yq aA h' v x:=by induction x with|d x=>exact aV.mono r k|aH i=>exact av r λ a c e=>⟨a,T i a rfl c,e⟩theorem a9.mono{X Yq α aA:H ao}(r:a9 X α h v x)(k:fX h h' X Yq)(T:∃p,aA=α++p):a9 Yq aA h' v x:=r.mf k λ j b u e=>a7 T λ p q=>q▸get_append e
theorem oK.mf(r:oK P X α h es xs)(k:fX h h' X Yq):(∀j b,j∈xs.filterMap (λ e=>Aq e.2)->α[j]?=B b->aA[j]?=B b)->oK P Yq aA h' es xs:=by induction r with|nil=>exact λ u=>.nil|cons a _ i=>exact λ T=>.cons (a.mf k λ j b q=>T j b (pL.mpr ⟨_,cV,q⟩)) (i λ j b q=>T j b (av (pL.mp q) λ p W l=>pL.mpr ⟨p,c7 _ W,l⟩))
theorem d2.mf{h h':aX}(r:d2 P X α h a m)(D:h.objs.size<=h'.objs.size)(d:h'.get? a=h.get? a)(k:fX h h' X Yq)(T:∀j b,j∈NL m->α[j]?=B b->aA[j]?=B b):d2 P Yq aA h' a m:=by
 induction m with
 |ae xs=>obtain⟨vs,⟨n,e⟩,r⟩:=r;exact⟨vs,⟨n,Y d e⟩,r.mono k⟩|fY es=>exact oL r λ E n F e r=>(e_ E n F ⟨Y d e,r.mf k T⟩)|fld es=>exact Ar r λ m N G q1 K=>⟨m,N.at λ o e=>Y d e,G.at λ o e=>Y d e,q1,λ n v e=>av (K n v e) λ u M iW=>⟨u,M,iW.mf k λ j b q=>T j b (pL.mpr ⟨_,mem_of_lookup e,q⟩)⟩⟩|inst c j=>exact av r λ b R f=>⟨b,T j b cV R,Y d f⟩|hX x y=>exact me r λ t u v e=>(e_ t u v (Y d e))|gD n=>exact av r λ vs n e=>⟨vs,n,Y d e⟩|jj=>exact av r λ o e c=>⟨o,Y d e,c⟩|cX=>exact eo r D|tab p l c q=>exact⟨r.1,r.2.mono d k⟩
 |it q=>
  induction q with
  |list xs i=>obtain⟨l,vs,⟨o,e,Q⟩,z,⟨n,w⟩,V⟩:=r;exact(bh l vs ⟨⟨o,Y d e,Q⟩,(k _ _ w z).2,⟨n,(k _ _ w z).1⟩,V.mono k⟩)|e3 j i=>obtain⟨l,z,⟨o,e,Q⟩⟩:=r;exact⟨l,T j l cV z,⟨o,Y d e,Q⟩⟩|aD xs i=>obtain⟨l,vs,⟨o,e,Q⟩,z,⟨n,w⟩,V⟩:=r;exact(bh l vs ⟨⟨o,Y d e,Q⟩,(k _ _ w z).2,⟨n,(k _ _ w z).1⟩,V.mono k⟩)
  |str s i=>
   obtain⟨t,⟨o,e,Q⟩|⟨o,e,Q⟩⟩:=r
   ·exact⟨t,.inl ⟨o,Y d e,Q⟩⟩
   ·exact⟨t,.inr ⟨o,Y d e,Q⟩⟩
  |ji x n=>exact Y d r|rev xs i=>exact la r λ l vs W dk z g V=>(av W λ o e Q=>a7 g λ n w=>(bh l vs ⟨⟨o,Y d e,Q⟩,dk,(k _ _ w z).2,⟨n,(k _ _ w z).1⟩,V.mono k⟩))|enu j i=>exact eM r λ b A R f=>(bh b A ⟨T j b cV R,Y d f⟩)|zip js t=>exact rS r λ TI I bs R f C k7 eT=>(e_ TI I bs ⟨map_some R λ j b q=>T j b (c7 _ q),T t I cV f,(k _ _ eT C).2,Y d k7,(k _ _ eT C).1⟩)theorem d2.mono{h h':aX}(r:d2 P X α h a m)(s:h.objs.size<=h'.objs.size)(c:h'.get? a=h.get? a)(k:fX h h' X Yq)(T:∃p,aA=α++p):d2 P Yq aA h' a m:=r.mf s c k λ j b u e=>a7 T λ p q=>q▸get_append e
theorem d2.keeps(r:d2 P X α h a m)(s:h.objs.size<=h'.objs.size)(k:∀b o,h.get? b=B o->h'.get? b=B o):d2 P X α h' a m:=by
 by_cases e:m=.cX
 ·subst e;exact eo r s
 ·exact r.mono s (by obtain⟨o,e⟩:=r.there e;simp[e,k _ _ e]) (λ b o e n=>⟨k _ _ e,n⟩) eV
structure a_(F W α:H ao)(h:aX)(aA:H ao)(h':aX):Prop where
 size:h.objs.size<=h'.objs.size
 ext:∃β,aA=α++β/\∀a∈β,h.objs.size<=a
 same:∀b o,h.get? b=B o->b∉F->b∉W->b∉α->h'.get? b=B o
 slot:∀b o,h.get? b=B o->b∉W->b∉α->∃kz,h'.get? b=B {o with slots:=kz}
theorem a_.refl(F W α:H ao)(h:aX):a_ F W α h α h:=
 ⟨bH _,⟨[],by simp,by simp⟩,λ u u e u u u=>e,λ u o e u u=>⟨o.slots,e⟩⟩theorem a_.mem(x:a_ F W α h aA h')(e:h.get? b=B o)(n:b∉α):b∉aA:=by refine av x.ext λ p w g=>L w ?_;rw[bB,rj];exact⟨n,λ q=>aS (dI e) (ez.mpr (g b q))⟩
theorem a_.trans(x:a_ F W α h aA h')(y:a_ F W aA h' T h''):a_ F W α h T h'':=by
 refine⟨bA x.size y.size,av x.ext λ p t g=>?_,λ b o e f w n=>y.same b o (x.same b o e f w n) f w (x.mem e n),λ b o e w n=>a7 (x.slot b o e w n) λ m j=>a7 (y.slot b _ j w (x.mem e n)) λ s E=>(⟨s,E⟩)⟩;subst t;refine av y.ext λ q i u=>L i ⟨p++q,eb ..,λ a c=>?_⟩;rcases bB.mp c with c|c
 ·exact g a c
 ·exact bA x.size (u a c)
theorem a_.weaken(x:a_ F W α h aA h')(G:cb F A)(t:cb W u):a_ A u α h aA h':=
 ⟨x.size,x.ext,λ b o e f w n=>x.same b o e (λ q=>f (G b q)) (λ q=>w (t b q)) n,λ b o e w n=>x.slot b o e (λ q=>w (t b q)) n⟩
theorem a_.push(h:aX)(o:fe):a_ F W α h α (h.push o):=
 ⟨L (er ..) (hg _),⟨[],by simp,by simp⟩,λ u u e u u u=>dy _ e,λ u o e u u=>⟨o.slots,dy _ e⟩⟩
theorem a_.of_keeps(k:∀b o,h.get? b=B o->h'.get? b=B o)(s:h.objs.size<=h'.objs.size):a_ F W α h α h':=
 ⟨s,⟨[],by simp,by simp⟩,λ b o e u u u=>k b o e,λ b o e u u=>⟨o.slots,k b o e⟩⟩noncomputable def l6:Obj:=⟨.none,aa,.freed, #[]⟩def hide(h:aX)(X:H ao):Heap:=⟨h.objs.mapIdx λ i o=>if X.contains i then l6 else o,h.life⟩
theorem FH(h:aX)(X:H ao)(b:ao):(hide h X).get? b=if b∈X then aa else h.get? b:=by
 by_cases m:b∈X
 ·rw[bC m]
  delta hide D1;rw[YE,oo.mpr m];rcases h.objs[b]? with _|_<;>rfl
 ·rw[a6 m]
  delta hide D1;rw[YE,YF.mpr λ q=>m (oo.mp q)];rcases h.objs[b]? with _|_<;>rfl
theorem As:(hide h X).get? b=B o ↔ b∉X/\h.get? b=B o:=by rw[FH];by_cases m:b∈X<;>exact Option.ite_none_left_eq_some
theorem t5(m:b∈X\/h.get? b=aa):(hide h X).get? b=none:=by
 rw[FH];rcases m with m|m
 ·exact(bC m)
 ·rw[m];split<;>rfl
abbrev oM(F:H ao)(h:aX)(e:cn):Prop:=e.scope.kind≠ .module/\∃l o,e.frame=B l/\l∈F/\h.get? l=B o/\∀vs,o.data≠ .fields vs
theorem oM.e{e:cn}(q:oM F h e){G:Prop}(k:∀l o,e.scope.kind≠ .module->e.frame=B l->l∈F->h.get? l=B o->(∀vs,o.data≠ .fields vs)->G):G:=eg q.2 λ l o=>k l o q.1
structure bX where
 prog:KZ
 w:dg
 T:H ao
 K:aX
 h₀:aX
structure bD where
 A:m7
 l:H cn
 P:H ao
 F:H ao
 W:H ao
structure aG(g:bX)(x:bD)(α:H ao)(σ:aE)(h:aX):Prop where
 base:g.K.StaysIn h
 big:g.h₀.objs.size<=h.objs.size
 b2:∀a,a∈x.P\/a∈α->g.K.get? a=aa/\g.h₀.objs.size<=a
 alive:∀a∈x.P,∃o,h.get? a=B o
 dv:α.Nodup
 c8:∀a∈α,a∉x.P
 bM:c0 g.w.params (x.P++α) α h α σ
 fr:∀e∈x.l,oM x.F h e
 old:OldK g.h₀ h
set_option genInjectivity true in
inductive Res(γ:Type) where
 |ok (a:γ)|exc (c:b1)(as:H D)noncomputable def Res.ctorIdx{γ:Type}(e:Res γ):Nat:=Res.casesOn (motive:=λ u=>J) e (λ u=>0) (λ u u=>1)def Ev(γ:Type):=aE->U (Res γ×aE)noncomputable def Ev.ret{γ:Type}(a:γ):Ev γ:=λ σ=>B (.ok a,σ)noncomputable def Ev.au{γ:Type} :Ev γ:=λ u=>aa
noncomputable def Ev.raise{γ:Type}(c:b1)(as:H D):Ev γ:=λ σ=>B (.exc c as,σ)noncomputable def Ev.bind{γ δ:Type}(m:Ev γ)(f:γ->Ev δ):Ev δ:=λ σ=>match m σ with|some (.ok a,af)=>f a af|some (.exc c as,af)=>B (.exc c as,af)|none=>aa
def Ev.of{γ:Type} :U γ->Ev γ
 |some a=>.ret a|none=>.au
noncomputable abbrev cT(s:aU)(h:aX)(t:J):Shared:={s with heap:=h,toks:=t}
@[reducible] noncomputable def fJ(x:bD)(o:H ao):bD:={x with P:=o++x.P}noncomputable def kA(l:H cn):H Addr:=l.filterMap (·.frame)
inductive ExcAt(g:bX)(x:bD)(lo:J)(α:H ao)(σ:aE)(h:aX)(e:ao)(cl:b1)(as:H D):Prop
 |mk (Sq:H ao) (t:ao) (vs:H aq) (a:∀b∈Sq,lo<=b) (I:aG g (fJ x Sq) α σ h) (p3:e∈Sq) (oN:t∈Sq) (lb:∀b∈Sq,b∉x.P) (rs:bT ((Sq++x.P)++α) h vs as)
  (k:(h.get? e=B {cls:=.type cl,data:=.fields #[.ref t,.none,.none,.none,.bool aj,.none] } /\h.get? t=B {cls:=.type "tuple",data:=.seq vs.toArray})\/(K0 (hide h (kA x.l++Sq)) x.l e (.type cl) (.ref t) h/\h.TupAt t vs))theorem ExcAt.low{lo u:J}{α:H ao}{cl:b1}(l:u<=lo)(q:ExcAt g x lo α σ h e cl as):ExcAt g x u α σ h e cl as:=match q with|⟨Sq,t,vs,a,I,c,d,n,r,k⟩=>⟨Sq,t,vs,λ b s=>bA l (a b s),I,c,d,n,r,k⟩
def gk(g:bX)(x:bD){β γ:Type}(post:H ao->aX->β->γ->Prop)(α:H ao)(s:aU)(o:Res γ)(af:aE)(Q:β->aU->Prop):Prop:=
 ∀b r h' t aA,o=.ok r->a_ x.F x.W α s.heap aA h'->aG g x aA af h'->1<=t->post aA h' b r->Q b (cT s h' t)
def eC(g:bX)(x:bD){γ:Type}(α:H ao)(s:aU)(o:Res γ)(af:aE)(E:aq->aU->Prop):Prop:=
 ∀e cl as h' t aA,o=.exc cl as->a_ x.F x.W α s.heap aA h'->1<=t->ExcAt g x s.heap.objs.size aA af h' e cl as->E (.ref e) (cT s h' t)theorem eC.ok{γ:Type}{a:γ} :eC g x α s (.ok a) af E:=λ u u u u u u h=>nomatch h
theorem gk.exc{β γ:Type}{post:H ao->aX->β->γ->Prop}{Q:β->aU->Prop} :gk g x post α s (.exc cl as) af Q:=λ u u u u u h=>nomatch h
theorem gk.ok{β γ:Type}{post:H ao->aX->β->γ->Prop}{a:γ}{Q:β->aU->Prop}(k:∀b h' t aA,a_ x.F x.W α s.heap aA h'->aG g x aA af h'->1<=t->post aA h' b a->Q b (cT s h' t)):gk g x post α s (.ok a) af Q:=λ b u h' t aA h st I T p=>k b h' t aA st I T (Res.ok.inj h▸p)
def ag(g:bX)(x:bD){β γ:Type}(pre:H ao->aX->Prop)(post:H ao->aX->β->γ->Prop)(t:bj β)(m:Ev γ):Prop:=
 ∀(α:H ao)(σ:aE)(s:aU)(o:Res γ)(af:aE),aG g x α σ s.heap->1<=s.toks->pre α s.heap->m σ=B (o,af)->
  ∀(Q:β->aU->Prop)(E:aq->aU->Prop),gk g x post α s o af Q->eC g x α s o af E->aO (a5 g.prog g.w) x.A t Q E s
section
variable {g:bX}{x:bD}{β nu γ δ:Type}theorem ag.pure(h:∀α h',pre α h'->post α h' b a):ag g x pre post (tg b:bj β) (.ret a):=by intro α σ s o af I t p e Q E G u;cases e;exact bl (G b a s.heap s.toks α rfl (.refl ..) I t (h _ _ p))theorem ag.au:ag g x pre post t .au:=λ u u u u u u u u=>nn
theorem ag.bind{k:γ->Ev δ}
  (W:ag g x pre mid t m)(n:∀b a,ag g x (λ α h=>mid α h b a) post (f b) (k a)):ag g x pre post (t>>=f) (m.bind k):=by
 intro α σ s o af I D p e Q E G c;unfold Ev.bind at e;refine eD (m σ) (λ R=>?_) λ r R=>?_
 ·rw[R]at e;exact nn e
 ·
  obtain⟨r,y⟩:=r;rw[R]at e;refine aB (W α σ s r y I D p R _ E (λ b a h' C aA P st F i M=>?_) λ z cl as h' C aA P st i X=>?_)
  ·subst P
   exact n b a aA y _ o af F i M e Q E (λ b r h'' j T l K=>G b r h'' j T l (st.trans K))
    λ z cl as h'' j T l K v X=>c z cl as h'' j T l (st.trans K) v (X.low st.size)
  ·subst P
   cases e;exact c z cl as h' C aA rfl st i X
theorem ag.mono(h:ag g x pre post t m)(u:∀α h,pre' α h->pre α h)
  (G:∀α h b a,post α h b a->post' α h b a):ag g x pre' post' t m:=λ α σ s o af I D p e Q E q y=>h α σ s o af I D (u _ _ p) e Q E (λ b r h' C aA i st F T P=>q b r h' C aA i st F T (G _ _ _ _ P)) y
def kB(x:bD)(K:H ao->aX->Prop):Prop:=∀α h aA h',a_ x.F x.W α h aA h'->K α h->K aA h'
theorem ag.frame{K:H ao->aX->Prop}(h:ag g x pre post t m)(n:kB x K):
  ag g x (λ α h=>pre α h/\K α h) (λ α h b a=>post α h b a/\K α h) t m:=λ α σ s o af I D p e Q E q=>h α σ s o af I D p.1 e Q E (λ b r h' C aA j st F T R=>q b r h' C aA j st F T ⟨R,n _ _ _ _ st p.2⟩)
theorem ag.holding(h:ag g x pre post t m):ag g x pre post (d_ vs t) m:=
 λ α σ s o af I T p e Q E q y=>dT (h α σ s o af I T p e Q E q y)
theorem ag.standAt(h:ag g x pre post (k ()) m):ag g x pre post (dZ p>>=k) m:=
 λ α σ s o af I t P e Q E q y=>aB (ko (h α σ s o af I t P e Q E q y))
theorem ag.rule(h:ag g x pre post (k ()) m):ag g x pre post (rule p>>=k) m:=
 λ α σ s o af I t P e Q E q y=>aB (tq (h α σ s o af I t P e Q E q y))
theorem ag.of_wp
  (h:∀α σ s,aG g x α σ s.heap->1<=s.toks->pre α s.heap->∀(Q:β->aU->Prop)(E:aq->aU->Prop),
    (∀b h' T,(∀b o,s.heap.get? b=B o->h'.get? b=B o)->s.heap.objs.size<=h'.objs.size->post α h' b a->Q b (cT s h' T))->aO (a5 g.prog g.w) x.A t Q E s)
  (y:∀α σ h h',aG g x α σ h->(∀b o,h.get? b=B o->h'.get? b=B o)->h.objs.size<=h'.objs.size->aG g x α σ h'):ag g x pre post t (.ret a):=by
 intro α σ s f af I D p e Q E q u;cases e;exact g4 (h α σ s I D p _ _ λ b h' T k P l R=>q b a h' T α rfl (.of_keeps k P) (y _ _ _ _ I k P) (bA D R.toks) l)
end
theorem a_.outer{x:bD}(st:a_ x.F x.W α h aA h')(G:cb x.F x.P)(u:cb x.W x.P):
  fX h h' (x.P++α) (x.P++aA):=by
 intro b o e n;rw[bB,rj]at n ⊢;exact⟨st.same b o e (λ q=>n.1 (G b q)) (λ q=>n.1 (u b q)) n.2,n.1,st.mem e n.2⟩theorem c0.keeps(r:c0 P X α h as ms)(Q:h.objs.size<=h'.objs.size)(k:∀b o,h.get? b=B o->h'.get? b=B o):c0 P X α h' as ms:=by induction r with|nil=>exact .nil|cons a _ i=>exact .cons (a.keeps Q k) i
theorem aG.keeps(I:aG g x α σ h)(k:∀b o,h.get? b=B o->h'.get? b=B o)(s:h.objs.size<=h'.objs.size):aG g x α σ h' where
 big:=bA I.big s
 base:=λ b o e=>k b o (I.base b o e)
 b2:=I.b2
 alive:=λ a f=>a7 (I.alive a f) λ o e=>⟨o,k _ _ e⟩
 dv:=I.dv
 c8:=I.c8
 bM:=I.bM.keeps s k
 fr:=λ e y=>have z:=I.fr e y;⟨z.1,eg z.2 λ l o b c d r=>(bh l o ⟨b,c,k _ _ d,r⟩)⟩
 old:=I.old.step_keeps k
theorem ag.wp{β γ:Type}{post:H ao->aX->β->γ->Prop}{t:bj β}{a:γ}
  (h:∀α σ s,aG g x α σ s.heap->1<=s.toks->pre α s.heap->∀(Q:β->aU->Prop)(E:aq->aU->Prop),
    (∀b h' T,(∀b o,s.heap.get? b=B o->h'.get? b=B o)->s.heap.objs.size<=h'.objs.size->post α h' b a->Q b (cT s h' T))->aO (a5 g.prog g.w) x.A t Q E s):ag g x pre post t (.ret a):=
 .of_wp h λ u u u u I=>I.keeps
noncomputable def bR{β:Type}(b:aF)(o:U β):U β:=match b with|true=>o|false=>aa
noncomputable def oO{γ β:Type}(q:U (Res γ×aE))(f:γ->aE->U β):U β:=match q with|none=>aa|some p=>match p.1 with|.ok a=>f a p.2|.exc _ _=>aa
noncomputable def hA{β:Type}(v:V)(f:J->U β):U β:=match v with|.aH j=>f j|.d _=>aa
noncomputable def jU{β:Type}(m:U cj)(f:H D->U β):U β:=match m with|none=>aa|some m=>match m with|.ae xs=>f xs|_=>aa
theorem bN{β:Type}{o:U β}{r:β}(e:bR b o=B r){G:Prop}(k:b=S->o=B r->G):G:=by induction b with|true=>exact k rfl e|false=>exact nn e
theorem t6{γ β:Type}{q:U (Res γ×aE)}{f:γ->aE->U β}{r:β}(e:oO q f=B r){G:Prop}(k:∀a σ,q=B (.ok a,σ)->f a σ=B r->G):G:=by induction q with|none=>exact nn e|some p=>obtain⟨o,σ⟩:=p;induction o with|ok a=>exact k a σ rfl e|exc=>exact nn e
theorem eh{β:Type}{o:U β}(h:b=S):bR b o=o:=L h rfl
theorem wL{γ β:Type}{q:U (Res γ×aE)}{f:γ->aE->U β}{a:γ}(h:q=B (.ok a,σ)):oO q f=f a σ:=L h rfl
theorem rT{β:Type}{f:H D->U β}(h:m=B (.ae xs)):jU m f=f xs:=L h rfl
theorem ab_{β:Type}(j:J)(f:J->U β):hA (.aH j) f=f j:=rfl
theorem nv{β:Type}{f:J->U β}{r:β}(e:hA v f=B r){G:Prop}(k:∀j,v=.aH j->f j=B r->G):G:=by induction v with|aH j=>exact k j rfl e|d _=>exact nn e
theorem oP{β:Type}{f:H D->U β}{r:β}(e:jU m f=B r){G:Prop}(k:∀xs,m=B (.ae xs)->f xs=B r->G):G:=by induction m with|none=>exact nn e|some m=>induction m with|ae xs=>exact k xs rfl e|_=>exact nn e
noncomputable def hi{β:Type}(v:V)(f:D->U β):U β:=match v with|.d d=>f d|.aH _=>aa
theorem iA{β:Type}{f:D->U β}{r:β}(e:hi v f=B r){G:Prop}(k:∀d,v=.d d->f d=B r->G):G:=by induction v with|d d=>exact k d rfl e|aH _=>exact nn e
theorem b3{α β:Type}{o:U α}{f:α->U β}{r:β}(e:o.bind f=B r){G:Prop}(k:∀a,o=B a->f a=B r->G):G:=by induction o with|none=>exact nn e|some a=>exact k a rfl e
theorem gE{A Bq:Type}{o:U A}{f:A->Bq}{r:Bq}(e:o.map f=B r){G:Prop}(k:∀a,o=B a->f a=r->G):G:=match o,e,k with|some a,e,k=>k a rfl (ak e)|none,e,_=>nn e
theorem l_(h:(!b)=S):b=false:=by induction b with|false=>rfl|true=>exact bw h
theorem Ev.mg{γ δ:Type}{m:Ev γ}{k:γ->Ev δ}{r:δ}(e:m.bind k σ=B (.ok r,af)){G:Prop}(c:∀a V,m σ=B (.ok a,V)->k a V=B (.ok r,af)->G):G:=by
 unfold Ev.bind at e;refine eD (m σ) (λ h=>?_) λ q h=>?_
 ·rw[h]at e;exact nn e
 ·
  obtain⟨o,V⟩:=q;rw[h]at e;induction o with|ok a=>exact c a V h e|exc c as=>cases e
theorem Ev.aT{γ δ:Type}{m:Ev γ}{k:γ->Ev δ}{r:δ}(e:m.bind k σ=B (.ok r,af)):∃a V,m σ=B (.ok a,V)/\k a V=B (.ok r,af):=
 Ev.mg e λ a V h e=>(bh a V ⟨h,e⟩)theorem aT{γ δ:Type}{m:Ev γ}{k:γ->Ev δ}{a:γ}(h:m σ=B (.ok a,af)):m.bind k σ=k a af:=by unfold Ev.bind;rw[h]theorem jk{γ δ:Type}{m:Ev γ}{k:γ->Ev δ}(h:m σ=B (.exc c as,af)):m.bind k σ=B (.exc c as,af):=by unfold Ev.bind;rw[h]
theorem Ev.NM{γ δ:Type}{m:Ev γ}{k:γ->Ev δ}{q:Res δ×aE}(e:m.bind k σ=B q){G:Prop}(K:∀a V,m σ=B (.ok a,V)->k a V=B q->G)(n:∀c as V,m σ=B (.exc c as,V)->(.exc c as,V)=q->G):G:=by
 unfold Ev.bind at e;refine eD (m σ) (λ h=>?_) λ p h=>?_
 ·rw[h]at e;exact nn e
 ·
  obtain⟨o,V⟩:=p;rw[h]at e;induction o with|ok a=>exact K a V h e|exc c as=>exact n c as V h (ak e)noncomputable def hB{A:Type}(f:ai->U A)(d:D):U A:=match d with|.str z=>f z|_=>aa
noncomputable def iX{A:Type}(f:ah->U A)(d:D):U A:=match d with|.int i=>f i|_=>aa
theorem mh{A:Type}{f:ai->U A}{r:A}(e:hB f d=B r){G:Prop}(k:∀z,d=.str z->f z=B r->G):G:=by
 rcases d with _|_|_|_|z|_|_|_|_|_|⟨_,_⟩;case str=>exact k z rfl e
 all_goals exact nn e
theorem p4{A:Type}{f:ah->U A}{r:A}(e:iX f d=B r){G:Prop}(k:∀i,d=.int i->f i=B r->G):G:=by
 rcases d with _|_|i|_|_|_|_|_|_|_|⟨_,_⟩;case int=>exact k i rfl e
 all_goals exact nn e
abbrev az:=H (ai×V)abbrev kC:=H (ai×D)
structure hh(g:bX)(gl:kC):Prop where
 ex:∃jl Au,g.K.Ns k0 jl/\g.K.Ns zj Au/\
  ∀n d,gl.lookup n=B d->(∃v,jl n=B v/\aV [] g.K v d)\/(jl n=aa/\∃v,Au n=B v/\aV [] g.K v d)
structure eW(g:bX)(x:bD)(n:J):Prop where
 cY:cb x.F x.P
 eu:cb x.W x.P
 frames:x.A.frames=B x.l
 handled:0<n->x.A.handled=aa
 depth:x.A.depth+n<recursionLimit
 units:x.A.units+8*n+200<rk
 nolimit:g.K.NoLimit
theorem eW.u(ok:eW g x n):x.A.units+200<cLine:=gf (pF (gK ..) _) ok.units
noncomputable def iB:U lZ->aF
 |some .cell|some .free=>S|_=>aj
abbrev FI(x:bD)(α:H ao)(h:aX)(ρ:az)(n:ai)(V:U aq):Prop:=∀v,ρ.lookup n=B v->∃u,V=B u/\a9 (x.P++α) α h u v
structure bt(g:bX)(x:bD)(env:cn)(ρ:az)(α:H ao)(h:aX):Prop where
 fv:env.scope.kind=.function
 gl:env.globals=k0
 cc:env.builtins=zj
 fK:env.locals∈x.P
 ns:∃m,h.Ns env.locals m/\∀n v,ρ.lookup n=B v->env.kindOf n=B .local->∃u,m n=B u/\a9 (x.P++α) α h u v
 lg:∀n,iB (env.kindOf n)=S->∃c,env.cells.lookup n=B c/\c∈x.P/\c∉x.F/\c≠env.locals/\∃nx,h.IsCell c nx/\FI x α h ρ n nx
 ap:∀n FJ c,iB (env.kindOf n)=S->iB (env.kindOf FJ)=S->env.cells.lookup n=B c->env.cells.lookup FJ=B c->n=FJ
theorem bt.jV(R:bt g x env ρ α h)(A:iB (env.kindOf n)=S){G:Prop}(k:∀c v,env.cells.lookup n=B c->c∈x.P->c∉x.F->c≠env.locals->h.IsCell c v->(FI x α h ρ n v)->G):G:=
 t7 (R.lg n A) λ c W j w I r=>av r λ v P d=>k c v W j w I P d
def Quiet(x:bD)(env:cn):Prop:=env.locals∉x.W/\∀n c,iB (env.kindOf n)=S->env.cells.lookup n=B c->c∉x.W
theorem bt.jW(G:cb x.F x.P)(y:cb x.W x.P)(q:Quiet x env):
  ∀α σ h aA h',aG g x α σ h->a_ x.F x.W α h aA h'->bt g x env ρ α h->bt g x env ρ aA h':=by
 intro α σ h aA h' I st R;obtain K:=st.outer G y;have T:∃β,aA=α++β:=av st.ext λ β e w=>⟨β,e⟩;have N:=λ a d z=>I.c8 a z d;refine⟨R.fv,R.gl,R.cc,R.fK,?_,?_,R.ap⟩
 ·refine av R.ns λ m b f=>t8 b λ o es E i l r=>?_
  obtain⟨P,e⟩:=st.slot _ _ i q.1 (N _ R.fK);exact⟨m,(e_ _ es E ⟨e,l,r⟩),λ n v k Q=>av (f n v k Q) λ u X p=>⟨u,X,p.mono K T⟩⟩
 ·refine λ n V=>R.jV V λ c A W j s C D F=>av D λ o i l=>?_
  obtain⟨P,e⟩:=st.slot _ _ i (q.2 n c V W) (N _ j);exact⟨c,W,j,s,C,A,⟨_,e,l⟩,λ v k=>av (F v k) λ u X p=>⟨u,X,p.mono K T⟩⟩
theorem ag.envs{K:H ao->aX->Prop}(ok:eW g x n)(q:Quiet x env)
  (h:ag g x (λ α h=>bt g x env ρ α h/\K α h) post t m)(k:kB x K):ag g x (λ α h=>bt g x env ρ α h/\K α h) (λ α h b a=>post α h b a/\bt g x env ρ α h/\K α h) t m:=λ α σ s o af I D p e Q E G=>h α σ s o af I D p e Q E (λ b r h' C aA i st F T P=>G b r h' C aA i st F T ⟨P,bt.jW ok.cY ok.eu q _ _ _ _ _ I st p.1,k _ _ _ _ st p.2⟩)
theorem ag.NN{K:H ao->aX->Prop}{mid:H ao->aX->e->r->Prop}(ok:eW g x n)(q:Quiet x env)(l:kB x K)
  (W:ag g x (λ α h=>bt g x env ρ α h/\K α h) mid t m)(j:∀b a,ag g x (λ α h=>bt g x env ρ α h/\K α h/\mid α h b a) post (f b) (k a)):
  ag g x (λ α h=>bt g x env ρ α h/\K α h) post (t>>=f) (m.bind k):=
 (ag.envs ok q W l).bind λ b a=>(j b a).mono (λ u u p=>⟨p.2.1,p.2.2,p.1⟩) λ u u u u y=>y
def NO:vV->Ev V
 |.none=>.ret (.d .none)|.bool b=>.ret (.d (.bool b))|.int i=>.ret (.d (.int i))|.float u=>.ret (.d (.aR u))|.str s=>.ret (.d (.str s))|_=>.au
def p5(g:kC)(s:bW)(ρ:az)(n:ai):Ev V:=match n==("__debug__" :ai),n==("__classdict__" :ai),s.names.lookup n with|true,_,_=>.ret (.d (.bool S))|false,aj,B .local|false,aj,B .cell|false,aj,B .free=>.of (ρ.lookup n)|false,_,B .globalImplicit=>.of ((g.lookup n).map V.d)|_,_,_=>.au
def fa(p:bW)(env:cn):Prop:=∀n,(p.names.lookup n=env.kindOf n)\/(p.names.lookup n=B .free/\env.kindOf n=B .cell)abbrev dA(x:bD):H ao->aX->aq->V->Prop:=λ α h v r=>a9 (x.P++α) α h v r
theorem aca{K:H ao->aX->Prop}(c:vV):ag g x (λ α h=>bt g x env ρ α h/\K α h) (dA x) (constValue env c) (NO c):=by induction c with|none=>exact ag.pure λ w w w=>.none|bool b=>exact ag.pure λ w w w=>.bool b|int i=>exact ag.wp λ α σ s I T p Q E G=>wpAny_mkInt (G _ s.heap _ (λ w w e=>e) (bH _) (.int _ _))|float u=>exact ag.wp λ α σ s I T p Q E G=>(λ w w w=>G _ s.heap _ (λ w w e=>e) (bH _) (.aR _ _ (hM T)))|str t=>exact ag.wp λ α σ s I T p Q E G=>D2 (G _ s.heap _ (λ w w e=>e) (bH _) (.str _ _))|bytes _=>exact .au|ellipsis=>exact .au|complex _ _=>exact .au
theorem NP(I:aG g x α σ h)(r:aV [] g.K v d):aV (x.P++α) h v d:=
 r.mono λ b o e u=>⟨I.base b o e,by
  rw[bB];exact λ q=>nn (ax ((I.b2 b q).1) e)⟩
theorem acb{K:H ao->aX->Prop}(G:hh g y)(cM:fa q env)(W:cP):
  ag g x (λ α h=>bt g x env ρ α h/\K α h) (dA x) (bG (.Name nm W) env) (p5 y q ρ nm):=by
 unfold p5;cases F:nm==("__debug__")with
 |true=>refine ag.wp λ α σ s I dm p Q E M=>?_;show aO _ _ (do dZ W;if nm==("__debug__")then debugConstant else loadName env nm) _ _ _;exact L F (aB (ko (aB (tq (bl (M _ s.heap s.toks (λ w w e=>e) (bH _) (.bool _)))))))
 |false=>
  have l:(nm==("__classdict__"))=aj->(env.kindOf nm=B .local\/iB (env.kindOf nm)=S)->ag g x (λ α h=>bt g x env ρ α h/\K α h) (dA x) (bG (.Name nm W) env) (.of (ρ.lookup nm)):=by
   intro T j;cases D:ρ.lookup nm with
   |none=>exact .au
   |some v=>
    refine ag.wp λ α σ s I dm p Q E M=>wpAny_Name ?_ F;have R:=p.1;rcases j with cL|A
    ·exact av R.ns λ m da t=>av (t nm v D cL) λ u mi a=>wpAny_loadName_local R.fv cL da mi (M u s.heap s.toks (λ w w e=>e) (bH _) a)
    ·refine R.jV A λ c nx c5 z z z fw ei=>av (ei v D) λ u b a=>?_
     subst b;have o:=M u s.heap s.toks (λ w w e=>e) (bH _) a;refine eD (env.kindOf nm) (λ P=>?_) λ cH P=>?_
     ·rw[P]at A;exact bw A
     ·
      induction cH with|cell=>exact wpAny_loadName_cell R.fv P c5 fw o|free=>exact wpAny_loadName_free R.fv P c5 fw o T|_=>rw[P]at A;exact bw A
  have X:q.names.lookup nm=B .globalImplicit->ag g x (λ α h=>bt g x env ρ α h/\K α h) (dA x) (bG (.Name nm W) env) (.of ((y.lookup nm).map V.d)):=by
   intro n;cases D:y.lookup nm with
   |none=>exact .au
   |some d=>
    refine ag.wp λ α σ s I dm p Q E M=>?_;have R:=p.1;have hj:env.kindOf nm=B .globalImplicit:=by
     rcases cM nm with e|⟨e,_⟩
     ·rw[<-e,n]
     ·rw[n]at e;exact aS e (by decide)
    refine e4 G.ex λ jl Au acd nb t=>?_;have i:=R.gl▸acd.keeps I.base;refine anO R.fv hj ?_ F;rcases t nm d D with⟨v,e,r⟩|⟨hC,v,e,r⟩
    ·exact anP i e (M v s.heap s.toks (λ w w e=>e) (bH _) (NP I r))
    ·exact anQ i hC (L R.cc (nb.keeps I.base)) e (M v s.heap s.toks (λ w w e=>e) (bH _) (NP I r))
  obtain FK:∀k,q.names.lookup nm=B k->(k=.local\/k=.cell\/k=.free)->(env.kindOf nm=B .local\/iB (env.kindOf nm)=S):=by
   intro k n hkk;rcases cM nm with e|⟨_,e⟩
   ·rw[<-e,n]
    rcases hkk with rfl|rfl|rfl<;>trivial
   ·right;rw[e];rfl
  cases n:q.names.lookup nm with
  |none=>cases nm==("__classdict__")<;>exact .au
  |some k=>
   cases T:nm==("__classdict__")with
   |true=>
    induction k with
    |globalImplicit=>exact X n|_=>exact .au
   |false=>induction k with| «local»=>exact l T (FK _ n (.inl rfl))|cell=>exact l T (FK _ n (.inr (.inl rfl)))|free=>exact l T (FK _ n (.inr (.inr rfl)))|globalImplicit=>exact X n|_=>exact .au
noncomputable def rv(n:ah):Bool:= !KD (vN n)theorem nb(h:(!b)=S):¬b=true:=by induction b<;>trivial
noncomputable def a8{γ:Type}(b:aF)(x:U γ):U γ:=match b with|true=>x|false=>aa
theorem dn{p:Type}{x:U p}{d:p}(e:a8 b x=B d):b=S/\x=B d:=by induction b with|true=>exact⟨rfl,e⟩|false=>exact nn e
def tK(o:iM)(a b:ah):U D:=match o with|.Add=>B (.int (a+b))|.Sub=>B (.int (a-b))|.Mult=>a8 (aZ (i_ a) 64||Nat.ble (i_ b) 64) (B (.int (a*b)))|.FloorDiv=>a8 (!(b==0)&&!tr a b) (B (.int (a.fdiv b)))|.Mod=>a8 (!(b==0)) (B (.int (a.fmod b)))|.Div=>a8 (!(b==0)&&!KD (vM (decide (a<0) !=decide (b<0)) a.natAbs b.natAbs)) (B (.aR (vM (decide (a<0) !=decide (b<0)) a.natAbs b.natAbs)))|.Pow=>a8 (decide (0<=b)&&(!(b==0)&&(!(a==0||a==1)&&(!(a== -1)&&!Builtin.Int.intTooBig ((i_ a:J)*b))))) (B (.int (a^b.toNat)))|.LShift=>a8 (decide (0<=b)&&decide ((i_ a:ah)+b<=1000000)) (B (.int (a*2^b.toNat)))|.RShift=>a8 (decide (0<=b)) (B (.int (a.fdiv (2^b.toNat))))|.BitAnd=>B (.int (D3 a b))|.BitOr=>B (.int (Builtin.bitOr a b))|.BitXor=>B (.int (Builtin.bitXor a b))|_=>aa
def nf(o:iM)(a b:jI):U D:=match o with|.Add=>B (.aR (KC a b))|.Sub=>B (.aR (Ym a b))|.Mult=>B (.aR (Yn a b))|.Div=>a8 (!DL b) (B (.aR (Yo a b)))|.Mod=>a8 (!DL b) (B (.aR (Yl a b).2))|_=>aa
noncomputable def mixed:iM->aF
 |.Add|.Sub|.Mult|.Div=>S|_=>aj
noncomputable def isAdd:iM->aF
 |.Add=>S|_=>aj
theorem FP(h:isAdd o=S):o=.Add:=by induction o<;>first|rfl|exact bw h
noncomputable def NQ:iM->aF
 |.Mult=>S|_=>aj
noncomputable def mj(n:J):Bool:=aZ n 16777216
theorem FQ(h:mj n=S):n<=sizeLine:=L vW (b8 h)
def binI(o:iM)(a:ah):D->U D
 |.int b=>tK o a b|.aR b=>a8 (mixed o&&rv a) (nf o (vN a) b)|_=>aa
def FR(o:iM)(a:jI):D->U D
 |.aR b=>nf o a b|.int b=>a8 (mixed o&&rv b) (nf o a (vN b))|_=>aa
def FT(o:iM)(a:ai):D->U D
 |.str b=>a8 (isAdd o&&mj (a.length+b.length)) (B (.str (a++b)))|_=>aa
def FU(o:iM)(a:H D):D->U D
 |.ae b=>a8 (isAdd o&&mj (O a+O b)) (B (.ae (a++b)))|.int k=>a8 (NQ o&&(decide (0<=k)&&decide (k<=1000000)&&aL (O a) 1)) (B (.ae (hQ k.toNat a).flatten))|_=>aa
def FV(o:iM)(a:H D):D->U D
 |.aD b=>a8 (isAdd o&&(aZ 1 (O a)&&aZ 1 (O b)&&mj (O a+O b))) (B (.aD (a++b)))|_=>aa
def fW(o:iM):D->D->U D
 |.int a,y=>binI o a y|.aR a,y=>FR o a y|.str a,y=>FT o a y|.ae a,y=>FU o a y|.aD a,y=>FV o a y|_,_=>aa
theorem ace{a b:ah}(q:¬b<0)(h:Q (.int (a.fdiv (2^b.toNat)) s.toks) {s with toks:=s.toks+1}):aO (a5 prog w) A (kp .RShift (.int a t) (.int b u)) Q E s:=by
 by_cases D:b>=(i_ a)
 ·with_reducible apply AutoIntOps.rshift_1 q D
  obtain e:a.fdiv (2^b.toNat)=if a<0 then-1 else 0:=by
   obtain R:i_ a<=b.toNat:=by lia
   obtain c:a.natAbs<2^b.toNat:=by
    unfold i_ at R;by_cases z:a=0
    ·refine L z ?_;exact Nat.pow_pos (by decide)
    ·rw[((beq_int_false z))]at R
     exact(K4 (Int.natAbs_ne_zero.mpr z)).mp (anR R)
   apply Y (za _ (vO (Int.pow_pos (by decide))));split
   ·rename_i C
    exact Int.ediv_eq_neg_one_of_neg_of_le C (by lia)
   ·exact Int.ediv_eq_zero_of_lt (by lia) (by lia)
  rw[<-e];exact h
 ·with_reducible apply AutoIntOps.rshift_2 q D
  exact h
theorem acf(e:tK o a b=B d)(T:1<=s.toks)(h:∀v D,aV [] ⟨#[],{}⟩ v d->Q v {s with toks:=D}):aO (a5 prog w) A (kp o (.int a t) (.int b u)) Q E s:=by
 have k:∀{i:ah}(q:B _=B d)(t D),Q (.int i t) {s with toks:=D} :=λ q t D=>h _ _ (ax (ak q) (.int _ _));rcases o with _|_|_|_|_|_|_|_|_|_|_|_|_;case Add=>(with_reducible refine AutoIntOps.add_0 ?_);exact k e _ _
 case Sub=>(with_reducible refine AutoIntOps.sub_0 ?_);exact k e _ _
 case Mult=>
  have q:=dn e
  (with_reducible refine AutoIntOps.mul_0 ?_ (((lX _ _).mp q.1).elim (λ q=>IntMulOk.of_left (b8 q)) λ q=>IntMulOk.of_right (b8 q)));exact k q.2 _ _
 case FloorDiv=>
  have q:=dn e;have q1:=bo q.1
  (with_reducible refine AutoIntOps.floordiv_1 (nb q1.1) (nb q1.2) ?_);exact k q.2 _ _
 case Mod=>
  have q:=dn e
  (with_reducible refine AutoIntOps.mod_1 (nb q.1) ?_);exact k q.2 _ _
 case Div=>
  have q:=dn e;have q1:=bo q.1
  (with_reducible refine AutoIntOps.truediv_2 (nb q1.1) (nb q1.2) ?_);exact h _ _ (ax (ak q.2) (.aR _ _ (hM T)))
 case Pow=>
  have q:=dn e;have q1:=bo q.1;have R:=bo q1.2;have f:=bo R.2;have x:=bo f.2
  (with_reducible refine AutoIntOps.pow_4 (iN q1.1) (nb R.1) (nb f.1) (nb x.1) (nb x.2) ?_);exact k q.2 _ _
 case LShift=>
  have q:=dn e;have q1:=bo q.1
  (with_reducible refine lshift_int (iN q1.1) (zi (iN q1.2) (by lia)) ?_);exact k q.2 _ _
 case RShift=>
  have q:=dn e
  (with_reducible refine ace (K5.mpr (iN q.1)) ?_);exact k q.2 _ _
 case BitAnd=>(with_reducible refine and_int ?_);exact k e _ _
 case BitOr=>(with_reducible refine or_int ?_);exact k e _ _
 case BitXor=>(with_reducible refine xor_int ?_);exact k e _ _
 all_goals exact nn e
theorem acg(e:nf o a b=B d)(T:1<=s.toks)(h:∀v D,aV [] ⟨#[],{}⟩ v d->Q v {s with toks:=D}):aO (a5 prog w) A (kp o (.float a t) (.float b u)) Q E s:=by
 have k:∀{i:jI}(q:B _=B d) D,Q (.float i s.toks) {s with toks:=D} :=λ q D=>h _ _ (ax (ak q) (.aR _ _ (hM T)));rcases o with _|_|_|_|_|_|_|_|_|_|_|_|_;case Add=>(with_reducible refine AutoFloatOps.add_0 ?_);exact k e _
 case Sub=>(with_reducible refine AutoFloatOps.sub_0 ?_);exact k e _
 case Mult=>(with_reducible refine AutoFloatOps.mul_0 ?_);exact k e _
 case Div=>
  have q:=dn e
  (with_reducible refine AutoFloatOps.truediv_1 (nb q.1) ?_);exact k q.2 _
 case Mod=>
  have q:=dn e
  (with_reducible refine AutoFloatOps.mod_1 (nb q.1) ?_);exact k q.2 _
 all_goals exact nn e
theorem ach(p:mixed o=S)(M:rv b=S)(e:nf o a (vN b)=B d)(T:1<=s.toks)(h:∀v F,aV [] ⟨#[],{}⟩ v d->Q v {s with toks:=F}):
  aO (a5 prog w) A (kp o (.float a t) (.int b u)) Q E s:=by
 have k:∀{i:jI}(q:B _=B d) F,Q (.float i s.toks) {s with toks:=F} :=λ q F=>h _ _ (ax (ak q) (.aR _ _ (hM T)));have n:=nb M;rcases o with _|_|_|_|_|_|_|_|_|_|_|_|_;case Add=>(with_reducible refine AutoFloatOps.add_fi_1 n ?_);exact k e _
 case Sub=>(with_reducible refine AutoFloatOps.sub_fi_1 n ?_);exact k e _
 case Mult=>(with_reducible refine AutoFloatOps.mul_fi_1 n ?_);exact k e _
 case Div=>
  have q:=dn e
  (with_reducible refine AutoFloatOps.truediv_fi_2 n (nb q.1) ?_);exact k q.2 _
 all_goals exact bw p
theorem aci(p:mixed o=S)(M:rv a=S)(e:nf o (vN a) b=B d)(T:1<=s.toks)(h:∀v F,aV [] ⟨#[],{}⟩ v d->Q v {s with toks:=F}):
  aO (a5 prog w) A (kp o (.int a t) (.float b u)) Q E s:=by
 have k:∀{i:jI}(q:B _=B d) F,Q (.float i s.toks) {s with toks:=F} :=λ q F=>h _ _ (ax (ak q) (.aR _ _ (hM T)));have n:=nb M;rcases o with _|_|_|_|_|_|_|_|_|_|_|_|_;case Add=>(with_reducible refine AutoFloatOps.add_if_1 n ?_);exact k e _
 case Sub=>(with_reducible refine AutoFloatOps.sub_if_1 n ?_);exact k e _
 case Mult=>(with_reducible refine AutoFloatOps.mul_if_1 n ?_);exact k e _
 case Div=>
  have q:=dn e
  (with_reducible refine AutoFloatOps.truediv_if_2 n (nb q.1) ?_);exact k q.2 _
 all_goals exact bw p
theorem acj{vs W:H aq}(z:IsL s.heap l vs)(q:IsL s.heap b W)(I:O vs+O W<=kq)
  (h:Q (.ref s.heap.objs.size) {s with heap:=s.heap.push {cls:=.type "list",data:=.seq (vs++W).toArray} }):aO (a5 prog w) A (kp .Add (.ref l) (.ref b)) Q E s:=by
 refine a7 z λ n i=>?_;obtain⟨N,G⟩:=q;refine concat_meets (⟨_,i,rfl⟩) (⟨_,G,rfl⟩) noFill_list_add seq_list_add PySem.F.slot_list_add PySem.F.entry_list_add (PySem.F.args_list_add_2 _ _) (list_addW l b vs.toArray W.toArray n N aa aa #[] #[] (kdl_size I)) ⟨i,G,?_⟩;rw[((anS ..))];exact h
theorem ack(z:IsT s.heap l vs)(q:IsT s.heap b W)(X:vs≠ [])(j:W≠ [])(I:O vs+O W<=kq)
  (h:Q (.ref s.heap.objs.size) {s with heap:=s.heap.push {cls:=.type "tuple",data:=.seq (vs++W).toArray} }):aO (a5 prog w) A (kp .Add (.ref l) (.ref b)) Q E s:=by
 refine a7 z λ n i=>a7 q λ N G=>concat_meets (⟨_,i,rfl⟩) (⟨_,G,rfl⟩) noFill_tuple_add seq_tuple_add PySem.F.slot_tuple_add PySem.F.entry_tuple_add (PySem.F.args_tuple_add_2 _ _) (tuple_addW2 l b vs.toArray W.toArray n N aa aa #[] #[] ?_ ?_ (kdl_size I)) ?_
 ·simpa using X
 ·simpa using j
 ·refine⟨i,G,?_⟩
  rw[((anS ..))];exact h
theorem NR(z:IsL s.heap l vs)(p:0<=x)(W:O vs=1)(j:x<=1000000)
  (h:Q (.ref s.heap.objs.size) {s with heap:=s.heap.push {cls:=.type "list",data:=.seq (hQ x.toNat vs).flatten.toArray} }):aO (a5 prog w) A (kp .Mult (.ref l) (.int x u)) Q E s:=by
 refine a7 z λ k z=>?_;obtain t1:s.TypeIs (.ref l) "list" :=⟨_,z,rfl⟩;refine wpAny_binaryOp_repeat_ref rfl t1 (λ s'=>typeIs_int s' x u) noFill_list_mul F.fills_int_mul F.slot_int_rmul repeat_list F.slot_int_index.lookup (D4 F.slot_int_rmul rfl F.entry_int_rmul (F.args_int_rmul_2 _ _) (int___rmul___int_list x u l vs.toArray k) ⟨z,rfl,⟨_,z,rfl⟩,D4 F.slot_list_mul t1 F.entry_list_mul (F.args_list_mul_2 _ _) (AutoListH.list___mul___list_int_3 l vs.toArray k x u ?_ ?_ ?_) ?_⟩)
 ·simp[Builtin.List.listFitsIndex];lia
 ·simp[W];lia
 ·simp[anT,kq,W];lia
 refine⟨z,?_⟩;obtain e:=by exact array_of_toList (aM Array.toList (listMul_foldl_if vs.toArray x.toNat))
 rw[e];exact h
theorem bQ.flatten(r:bT X h vs xs):∀k:J,bT X h (hQ k vs).flatten (hQ k xs).flatten
 |0=>.nil|k+1=>by simpa [YG]using r.append (r.flatten k)
theorem aV.acm(r:aV [] ⟨#[],{}⟩ v d):aV X h v d:=
 r.mono λ b o e u=>by have:(⟨#[],{}⟩:aX).get? b=Option.none:=rfl;rw[this]at e;exact nn e
theorem c0.lt(r:c0 P X α h as m):∀a∈as,a<h.objs.size:=by
 induction r with
 |nil=>intro a c;cases c
 |cons a _ i=>
  intro b q;rcases dM.mp q with rfl|q
  ·exact a.lt
  ·exact i b q
theorem aG.ny(I:aG g x α σ h)(c:a∈x.P++α):a<h.objs.size:=by
 rcases bB.mp c with q|q
 ·exact a7 (I.alive _ q) λ o=>dI
 ·exact I.bM.lt _ q
theorem aG.fresh(I:aG g x α σ h):h.objs.size∉x.P++α:=λ q=>aS (I.ny q) (hu _)abbrev NS(x:bD):H ao->aX->aq->D->Prop:=λ α h v r=>aV (x.P++α) h v r
inductive RD(X:H ao)(h:aX):aq->D->Prop
 |rep {v d} :aV X h v d->RD X h v d
 |ae {a vs xs} :IsL h a vs->bT X h vs xs->RD X h (.ref a) (.ae xs)def RDI(X:H ao)(h:aX)(v:aq)(d:D):Prop:=match d with|.ae xs=>∃a vs,v=.ref a/\IsL h a vs/\bT X h vs xs|d=>NI X h v d
theorem RD.inv(r:RD X h v d):RDI X h v d:=by
 rcases r with r|⟨e,r⟩
 ·obtain r:=r.inv
  rcases d with _|b|i|u|s|n|n|a|xs|xs|⟨c,xs⟩;case ae=>exact eg r λ a vs e _ l r=>(bh a vs ⟨e,l,r⟩)
  all_goals exact r
 ·exact(bh _ _ ⟨rfl,e,r⟩)theorem RD.ml(r:RD X h v (.ae xs)):∃a vs,v=.ref a/\IsL h a vs/\bT X h vs xs:=r.inv
theorem Av(D:aG g x α σ h)(o:fe)(r:bT (x.P++α) h v d):bT (x.P++α) (h.push o) v d:=
 r.mono λ u u e n=>⟨dy _ e,n⟩
def hl(x:bD)(α:H ao)(s:aU)(Q:aq->aU->Prop)(d:D):Prop:=
 ∀(b:aq)(h':aX)(T:J),(∀b o,s.heap.get? b=B o->h'.get? b=B o)->s.heap.objs.size<=h'.objs.size->aV (x.P++α) h' b d->Q b (cT s h' T)theorem hl.plain(h:hl x α s Q d):∀v t,aV [] ⟨#[],{}⟩ v d->Q v {s with toks:=t} :=λ v t r=>h v s.heap t (λ u u e=>e) (bH _) r.acm
theorem hl.FW(h:hl x α s Q (.ae xs))(I:aG g x α σ s.heap)(r:bT (x.P++α) s.heap vs xs):
  Q (.ref s.heap.objs.size) {s with heap:=s.heap.push {cls:=.type "list",data:=.seq vs.toArray} } :=
 h _ _ s.toks (λ u u=>dy _) (L (er ..) (hg _)) (.ae I.fresh ⟨0,d0 _ rfl⟩ (Av I _ r))
theorem hl.NT(h:hl x α s Q (.aD xs))(I:aG g x α σ s.heap)(r:bT (x.P++α) s.heap vs xs):
  Q (.ref s.heap.objs.size) {s with heap:=s.heap.push {cls:=.type "tuple",data:=.seq vs.toArray} } :=
 h _ _ s.toks (λ u u=>dy _) (L (er ..) (gK s.heap.objs.size 1)) (.aD I.fresh ⟨0,d0 _ rfl⟩ (Av I _ r))theorem RD.bool(r:RD X h v (.bool a)):v=.bool a:=r.inv
theorem RD.int(r:RD X h v (.int a)):∃t,v=.int a t:=r.inv
theorem RD.aR(r:RD X h v (.aR a)):∃t,v=.float a t/\t≠0:=r.inv
theorem RD.str(r:RD X h v (.str a)):∃t,v=.str a t:=r.inv
theorem RD.t9(r:RD X h v (.aD xs)):∃a vs,v=.ref a/\IsT h a vs/\bT X h vs xs:=eg r.inv λ a vs e _ l r=>(bh a vs ⟨e,l,r⟩)
theorem acn{g:bX}(T:1<=s.toks)(h:hl x α s Q d)(P:RD (x.P++α) s.heap v (.int a))(p:RD (x.P++α) s.heap u b)(e:binI o a b=B d):aO (a5 g.prog g.w) x.A (kp o v u) Q E s:=by
 refine a7 P.int λ t W=>L W ?_;rcases b with _|_|b|b|_|_|_|_|_|_|⟨_,_⟩;case int=>obtain⟨t,rfl⟩:=p.int;have j:tK o a b=B d:=e;with_reducible exact acf j T h.plain
 case aR=>refine av p.aR λ t w z=>L w ?_;obtain⟨q,e⟩:=dn e;obtain⟨q1,R⟩:=bF.mp q;with_reducible exact aci q1 R e T h.plain
 all_goals exact nn e
theorem aco{g:bX}(T:1<=s.toks)(h:hl x α s Q d)(K:RD (x.P++α) s.heap v (.aR a))(p:RD (x.P++α) s.heap u b)(e:FR o a b=B d):aO (a5 g.prog g.w) x.A (kp o v u) Q E s:=by
 refine av K.aR λ t w z=>L w ?_;rcases b with _|_|b|b|_|_|_|_|_|_|⟨_,_⟩;case aR=>refine av p.aR λ t W z=>L W ?_;have j:nf o a b=B d:=e;with_reducible exact acg j T h.plain
 case int=>refine a7 p.int λ t P=>L P ?_;obtain⟨q,e⟩:=dn e;refine cq (bF.mp q) λ q1 R=>?_;with_reducible exact ach q1 R e T h.plain
 all_goals exact nn e
theorem acp{g:bX}(h:hl x α s Q d)(p:RD (x.P++α) s.heap v (.str a))(P:RD (x.P++α) s.heap u b)(e:FT o a b=B d):aO (a5 g.prog g.w) x.A (kp o v u) Q E s:=by
 refine a7 p.str λ t w=>L w ?_;rcases b with _|_|_|_|b|_|_|_|_|_|⟨_,_⟩;case str=>refine a7 P.str λ t W=>L W ?_;obtain⟨q,f⟩:=dn e;clear e;refine cq (bF.mp q) λ q1 R=>L (FP q1) ?_;obtain rfl:=ak f;with_reducible exact add_str (λ C T=>h.plain _ T (.str _ _)) (FQ R)
 all_goals exact nn e
theorem acq(I:aG g x α σ s.heap)(G:hl x α s Q d)(P:RD (x.P++α) s.heap v (.ae a))(p:RD (x.P++α) s.heap u b)(e:FU o a b=B d):aO (a5 g.prog g.w) x.A (kp o v u) Q E s:=by
 refine e4 P.ml λ l vs w z m=>L w ?_;rcases b with _|_|k|_|_|_|_|_|b|_|⟨_,_⟩;case ae=>refine e4 p.ml λ n T W h r=>L W ?_;obtain⟨q,f⟩:=dn e;clear e;refine cq (bF.mp q) λ q1 R=>L (FP q1) ?_;obtain rfl:=ak f;with_reducible exact acj z h (L m.length (L r.length (FQ R))) (G.FW I (m.append r))
 case int=>refine a7 p.int λ t N=>L N ?_;obtain⟨q,f⟩:=dn e;clear e;refine cq (bF.mp q) λ q1 R=>?_;obtain⟨R,X⟩:=bF.mp R;obtain⟨y,j⟩:=bF.mp R;refine L (show o=.Mult from by induction o<;>first|rfl|exact bw q1) ?_;obtain rfl:=ak f;with_reducible exact NR z (iN y) (L m.length (dE X)) (iN j) (G.FW I (m.flatten _))
 all_goals exact nn e
theorem acr(I:aG g x α σ s.heap)(G:hl x α s Q d)(P:RD (x.P++α) s.heap v (.aD a))(V:RD (x.P++α) s.heap u b)(e:FV o a b=B d):aO (a5 g.prog g.w) x.A (kp o v u) Q E s:=by
 refine e4 P.t9 λ l vs w c R=>L w ?_;rcases b with _|_|_|_|_|_|_|_|_|b|⟨_,_⟩;case aD=>refine e4 V.t9 λ n A W h r=>L W ?_;obtain⟨q,f⟩:=dn e;clear e;obtain⟨q1,T⟩:=bF.mp q;obtain⟨T,j⟩:=bF.mp T;obtain⟨p,X⟩:=bF.mp T;obtain p:=b8 p;obtain X:=b8 X;refine L (FP q1) ?_;obtain rfl:=ak f;with_reducible exact ack c h (λ z=>by subst z;have:=R.length;simp at this;lia) (λ z=>by subst z;have:=r.length;simp at this;lia) (L R.length (L r.length (FQ j))) (G.NT I (R.append r))
 all_goals exact nn e
theorem acs(o:iM)(v u:aq)(a b:D):
  ag g x (λ α h=>RD (x.P++α) h v a/\RD (x.P++α) h u b) (NS x) (kp o v u) (.of (fW o a b)):=by
 cases e:fW o a b with
 |none=>exact .au
 |some d=>
  refine ag.wp λ α σ s I t p Q E G=>?_;obtain⟨P,R⟩:=p;obtain G:hl x α s Q d:=G;rcases a with _|_|a|a|a|_|_|_|a|a|⟨_,_⟩;case int=>have j:binI o a b=B d:=e;with_reducible exact acn t G P R j
  case aR=>have j:FR o a b=B d:=e;with_reducible exact aco t G P R j
  case str=>have j:FT o a b=B d:=e;with_reducible exact acp G P R j
  case ae=>have j:FU o a b=B d:=e;with_reducible exact acq I G P R j
  case aD=>have j:FV o a b=B d:=e;with_reducible exact acr I G P R j
  all_goals exact nn e
mutual
noncomputable def g5:J->D->D->U aF
 |0,_,_=>aa
 |n+1,d,e=>match d with
  |.none=>match e with|.none=>B S|_=>aa
  |.bool a=>match e with|.bool b=>B (a==b)|_=>aa
  |.int a=>match e with|.int b=>B (a==b)|.aR b=>B (ts b a==B .eq)|_=>aa
  |.str a=>match e with|.str b=>B (a==b)|_=>aa
  |.aR a=>match e with|.aR b=>a8 (og a b==B .eq) (B S)|.int b=>B (ts a b==B .eq)|_=>aa
  |.ae a=>match e with|.ae b=>jm n a b|_=>aa
  |.aD a=>match e with|.aD b=>jm n a b|_=>aa
  |_=>aa
noncomputable def jm:J->H D->H D->U aF
 |0,_,_=>aa|n+1,xs,fg=>match xs,fg with|[],[]=>B S|[],_::_=>B aj|_::_,[]=>B aj|x::xs,y::fg=>match g5 n x y,jm n xs fg with|some a,B b=>B (a&&b)|_,_=>aa
end
theorem NU(e:jm (n+1) (x::xs) (y::fg)=B c){G:Prop}(k:∀a b,g5 n x y=B a->jm n xs fg=B b->(a&&b)=c->G):G:=
 by
 refine eD _ (λ W=>?_) λ a W=>eD _ (λ h=>?_) λ b h=>k a b W h ?_
 all_goals
  have e:(match g5 n x y,jm n xs fg with|some a,B b=>B _|_,_=>aa)=B c:=e;rw[W]at e
 ·exact nn e
 ·rw[h]at e;exact nn e
 ·rw[h]at e;exact ak e
inductive kD(n:J):D->D->aF->Prop
 |none:kD n .none .none S
 |bool (a b:aF):kD n (.bool a) (.bool b) (a==b)
 |int (a b:ah):kD n (.int a) (.int b) (a==b)
 |NV (a:ah) (b:jI):kD n (.int a) (.aR b) (ts b a==B .eq)
 |str (a b:ai):kD n (.str a) (.str b) (a==b)
 |aR (a b:jI):(og a b==B .eq)=S->kD n (.aR a) (.aR b) S
 |NW (a:jI) (b:ah):kD n (.aR a) (.int b) (ts a b==B .eq)
 |ae {xs fg:H D} {b:aF} :jm n xs fg=B b->kD n (.ae xs) (.ae fg) b
 |aD {xs fg:H D} {b:aF} :jm n xs fg=B b->kD n (.aD xs) (.aD fg) b
theorem Aw(q:g5 (n+1) d e=B b):kD n d e b:=by
 obtain z:∀{c:aF}{d e:D},B c=B b->kD n d e c->kD n d e b:=λ h=>ax (ak h);rcases d with _|a|a|a|a|_|_|_|a|a|⟨_,_⟩;case none=>cases e with|none=>exact z q .none|_=>exact nn q
 case bool=>cases e with|bool b=>exact z q (.bool a b)|_=>exact nn q
 case int=>cases e with|int b=>exact z q (.int a b)|aR b=>exact z q (.NV a b)|_=>exact nn q
 case str=>cases e with|str b=>exact z q (.str a b)|_=>exact nn q
 case aR=>cases e with|aR b=>exact z (dn q).2 (.aR a b (dn q).1)|int b=>exact z q (.NW a b)|_=>exact nn q
 case ae=>cases e with|ae b=>exact .ae q|_=>exact nn q
 case aD=>cases e with|aD b=>exact .aD q|_=>exact nn q
 all_goals exact nn q
theorem FX{h:aX}{vs ws:H aq}(e:h.get? a=B {cls:=c,data:=.seq vs.toArray m})(E:h.get? a=B {cls:=c,data:=.seq ws.toArray n}):vs=ws:=by obtain q:=ak (Y e.symm E);injection q with _ _ q;injection q with q;exact aM Array.toList q
theorem NX(n:J):(∀(v:aq)(d e:D)(b:aF),aV X h v d->aV X h v e->g5 n d e=B b->b=S)/\
  (∀(vs:H aq)(d e:H D)(b:aF),bT X h vs d->bT X h vs e->jm n d e=B b->b=S):=by
 induction n with
 |zero=>exact⟨λ _ _ _ _ _ _ e=>nn e,λ _ _ _ _ _ _ e=>nn e⟩
 |succ n i=>
  refine⟨λ v d e b R r q=>?_,λ vs d e b R r q=>?_⟩
  ·have k:=λ xs V b q vs K m=>i.2 vs xs V b K m q
   refine kD.rec (λ _ _=>rfl) (λ a b R r=>cI.mpr (Value.bool.inj (Y R.symm r)))
    (λ a b R r=>a7 R λ t W=>a7 r λ T j=>cI.mpr (Value.int.inj (Y W.symm j)).1)
    (λ a b R r=>a7 R λ t W=>av r λ T j _=>nomatch W.symm.trans j)
    (λ a b R r=>a7 R λ t W=>a7 r λ T j=>cI.mpr (Value.str.inj (Y W.symm j)).1)
    (λ a b _ _ _=>rfl)
    (λ a b R r=>av R λ t W _=>a7 r λ T j=>nomatch W.symm.trans j)
    (λ q R r=>?_) (λ q R r=>?_) (Aw q) R.inv r.inv
   ·exact eg R λ a vs E _ l K=>eg r λ c w f _ o m=>a7 l λ N W=>a7 o λ P j=>k _ _ _ q vs K (FX (YH (Y E.symm f)▸W) j▸m)
   ·exact eg R λ a vs E _ l K=>eg r λ c w f _ o m=>a7 l λ N W=>a7 o λ P j=>k _ _ _ q vs K (FX (YH (Y E.symm f)▸W) j▸m)
  ·rcases R with _|⟨a,as⟩
   ·rcases r with _|_
    exact(ak q).symm
   ·rcases r with _|⟨c,cs⟩
    exact NU q λ x y E f u=>ax u (L (i.1 _ _ _ _ a c E) (L (i.2 _ _ _ _ as cs f) rfl))
theorem EqAt.aR(r:t≠0)(X:u≠0)(q:tu s.heap)(h:(og a b==B .eq)=S):EqAt A s (.float a t) (.float b u) true:=λ prog w E Q G=>by
 refine D5 (λ y=>aB (tq (bl G))) (λ y=>?_);obtain l:aO (a5 prog w) A (do YI (<-K6 .Eq (.float a t) (.float b u))) Q E s:=by exact aB (AutoFloatOps.eq_0 (ax h.symm (YJ G)))
 refine aB (wpAny_ite (L (show(t==0||u==0)=aj by simp[r,X]) ?_));have f:∀z:aF,aO (a5 prog w) A (if z=S then(pure S)else(do YI (<-K6 .Eq (.float a t) (.float b u)))) Q E s:=by intro z;induction z with|true=>exact bl G|false=>exact l
 refine D5 (λ z=>bl (f S)) λ z=>D5 (λ z=>bl (f aj)) λ z=>?_;exact aB (anU q (aB (anU q (aB (tq (aB (wpAny_askSetting (bl (f _)))))))))
theorem NY(M:(a==b)=aj)
  (N:∀(u v:jI)(t T:Tok),¬(a=.float u t/\b=.float v T))(h:RcAt A s a b c)(G:Q c s):aO (a5 prog w) A (eqBool a b) Q E s:=by
 refine dT (D5 (λ m=>aS m (L M hN)) (λ z=>?_));obtain l:aO _ A (do YI (<-K6 .Eq a b)) Q E s:=aB (h prog w E _ (YJ G));induction a with
 |float u t=>induction b with
  |float v T=>exact aS ⟨rfl,rfl⟩ (N u v t T)|_=>exact l
 |_=>exact l
theorem EqAt.acu:EqAt A s (.float a t) (.int b u) (ts a b==B .eq):=λ prog w E Q h=>NY rfl (λ z z z z=>by simp) (λ prog w E Q=>eq_fi) h
theorem EqAt.if:EqAt A s (.int b u) (.float a t) (ts a b==B .eq):=λ prog w E Q h=>NY rfl (λ z z z z=>(of_decide_eq_false rfl)) (λ prog w E Q=>eq_if) h
theorem FY:∀(n:J)(xs V:H D)(c:aF),jm n xs V=B c->∃p:J->aF,c=((aw (min (O xs) (O V))).all p&&O xs==O V)/\
  ∀j x y,xs[j]?=B x->V[j]?=B y->∃m,m<n/\g5 m x y=B (p j)
 |0,_,_,_,e=>nn e|n+1,[],[],c,e=>ax (ak e) ⟨λ u=>S,by rfl,λ j x y h u=>by simp at h⟩|n+1,[],_::_,c,e=>ax (ak e) ⟨λ u=>S,by rfl,λ j x y h u=>by simp at h⟩|n+1,_::_,[],c,e=>ax (ak e) ⟨λ u=>S,by rfl,λ j x y u h=>by simp at h⟩
 |n+1,x::xs,y::V,c,e=>by
  refine NU e λ a b E f A=>(av (FY n xs V b f) λ p v z=>⟨λ j=>j.casesOn a p,?_,λ j I K W k=>?_⟩)
  ·simp only[<-A,v]
   simp only[gx,Nat.succ_min_succ,anV,anH,YK,Bool.and_assoc];congr 2;simp
  ·induction j with|zero=>exact⟨n,km n,ak W▸ak k▸E⟩|succ j=>exact av (z j I K W k) λ m q r=>(⟨m,kl q,r⟩)
theorem bQ.at'(r:bT X h vs xs)(s:i<O vs):∃x,xs[i]?=B x/\aV X h vs[i] x:=by
 have z:=r.length;have K:xs[i]?=B (xs[i]'(anW s z)):=by simp
 exact av (r.get K) λ v e R=>⟨_,K,(by simpa [s]using e)▸R⟩
def t_(A:m7)(s:aU)(n:J)(X:H ao):Prop:=
 ∀(d e:D)(b:aF)(v u:aq),g5 n d e=B b->aV X s.heap v d->aV X s.heap u e->EqAt A s v u b
theorem NZ(i:∀m,m<n->t_ A.in1 s m X)(C:A.units<rk)
  (e:jm n xs fg=B b)(z:IsL s.heap l vs)(R:bT X s.heap vs xs)(E:IsL s.heap r W)(D:bT X s.heap W fg):
  RcAt A s (.ref l) (.ref r) b/\RcNeAt A s (.ref l) (.ref r) (!b):=by
 refine av (FY _ _ _ _ e) λ p w v=>L w ?_;have N:=R.length;obtain P:=D.length;by_cases h:O xs=O fg
 ·obtain u:((aw (min (O xs) (O fg))).all p&&O xs==O fg)=(aw vs.toArray.size).all p:=by simp[h,N]
  have a:∀j F (k:j<W.toArray.size),EqAt A.in1 s vs.toArray[j] W.toArray[j] (p j):=by exact λ j F k=>av (R.at' _) λ x K c=>(av (D.at' _) λ y Q G=>av (v j x y K Q) λ m t q=>(i m t _ _ _ _ _ q c G))
  exact L u ⟨RcAt.lists z.isList E.isList (by simp;lia) C a,RcNeAt.lists z.isList E.isList (by simp;lia) C a⟩
 ·have u:((aw (min (O xs) (O fg))).all p&&O xs==O fg)=false:=by simp[h]
  refine L u ?_;obtain M:(vs.toArray.size !=W.toArray.size)=true:=by simp;lia
  exact⟨RcAt.lists_lengths z.isList E.isList M C,RcNeAt.lists_lengths z.isList E.isList M C⟩
theorem N0(i:∀m,m<n->t_ A.in1 s m X)(h:A.units<rk)
  (e:jm n xs fg=B b)(z:IsT s.heap l vs)(R:bT X s.heap vs xs)(E:IsT s.heap r w)(D:bT X s.heap w fg):
  RcAt A s (.ref l) (.ref r) b/\RcNeAt A s (.ref l) (.ref r) (!b):=by
 refine av (FY _ _ _ _ e) λ p W u=>L W ?_;obtain a:∀j C (k:j<w.toArray.size),EqAt A.in1 s vs.toArray[j] w.toArray[j] (p j):=by exact λ j C k=>av (R.at' _) λ x K v=>(av (D.at' _) λ y Q G=>av (u j x y K Q) λ m t q=>(i m t _ _ _ _ _ q v G))
 exact L (show((aw _).all p&&O xs==O fg)=((aw _).all p&&vs.toArray.size==w.toArray.size) by simp[R.length,D.length]) ⟨RcAt.tuples z.iV E.iV h a,RcNeAt.tuples z.iV E.iV h a⟩theorem un(h:u+n<c)(k:m<n):u+1+m<c:=gf (L (K7 u m) (oe k u)) h
theorem FZ:∀(n:J)(A:m7)(s:aU),tu s.heap->A.units+n<rk->t_ A s n X:=by
 intro n;induction n using anY with
 |_ n P=>
  intro A s w C d e b v u q r R;rcases n with _|n;case zero=>exact nn q
  case succ=>
   obtain p:=λ m x=>P m (kl x) A.in1 s w (un C (kl x));have i:=r.inv;have I:=R.inv;obtain g:=gf (gK ..) C;induction Aw q with
   |none=>exact i▸I▸EqAt.same _|bool a b=>exact L i (L I (EqAt.bool_bool a b))|int a b=>let ⟨t,W⟩:=i;let ⟨T,j⟩:=I;exact L W (L j (EqAt.int_int a t b T))|NV a b=>let ⟨t,W⟩:=i;let ⟨T,j,_⟩:=I;exact L W (L j EqAt.if)|str a b=>let ⟨t,W⟩:=i;let ⟨T,j⟩:=I;exact L W (L j (EqAt.str_str a t b T))|aR a b G=>let ⟨t,W,N⟩:=i;let ⟨T,j,V⟩:=I;exact L W (L j (EqAt.aR N V w G))|NW a b=>let ⟨t,W,_⟩:=i;let ⟨T,j⟩:=I;exact L W (L j EqAt.acu)
   |ae Q=>
    obtain⟨a,vs,E,_,o,k⟩:=i;obtain⟨c,D,f,_,l,K⟩:=I;by_cases h:a=c
    ·rw[(NX _).1 _ _ _ _ r (Y E (h▸f.symm)▸R) q,E,f,h]
     exact EqAt.same _
    ·rw[E,f]
     exact EqAt.of_refs h (NZ p g Q o k l K).1
   |aD Q=>
    obtain⟨a,vs,E,_,o,k⟩:=i;obtain⟨c,D,f,_,l,K⟩:=I;by_cases h:a=c
    ·rw[(NX _).1 _ _ _ _ r (Y E (h▸f.symm)▸R) q,E,f,h]
     exact EqAt.same _
    ·rw[E,f]
     exact EqAt.of_refs h (N0 p g Q o k l K).1
noncomputable def mm:D->aF
 |.none|.bool _|.int _|.str _=>S|_=>aj
noncomputable def dOf(v:aq):U D:=match v with|.none=>B .none|.bool b=>B (.bool b)|.int i _=>B (.int i)|.str s _=>B (.str s)|_=>aa
theorem aV.N1(r:aV X h v d):dOf v=cond (Internal.mm d) (B d) Option.none:=by cases r<;>rfl
theorem aV.mm(r:aV X h v d)(R:aV X h v wM)(l:mm d=S):wM=d:=
 have e:=(Y r.N1 (aM (λ b=>cond b _ _) l)).symm.trans R.N1
 dO _ (λ h=>ak ((Y e (aM (λ b=>cond b _ _) h)).symm)) λ h=>nn (Y e (aM (λ b=>cond b _ _) h)).symm
theorem bQ.mm(r:bT X h vs xs):bT X h vs y->xs.all Internal.mm=S->y=xs:=
 r.ind (P:=λ vs xs=>∀y,bT X h vs y->xs.all Internal.mm=S->y=xs) (λ y q u=>zr q.length.symm) (λ v vs x xs a u i y q h=>by
  cases q with
  |cons b q=>rw[a.mm b (bo h).1,i _ q (bo h).2]) y
def F0(d:D):Bool:=match d with|.ae xs=>xs.all mm|_=>mm d
theorem aV.simp(r:aV X h v d)(R:aV X h v i)(l:F0 d=S)(e:g5 n d y=B b)(E:g5 n i y=B c):i=d:=by
 rcases d with _|_|_|_|_|_|_|_|xs|_|⟨_,_⟩;case ae=>cases n with|zero=>exact nn e|succ n=>cases Aw e with|ae=>cases Aw E with|ae=>refine eg r.inv λ u u N u W k=>?_;obtain⟨_,A⟩:=W;refine eg R.inv λ u u T u w K=>?_;obtain⟨_,j⟩:=w;injection N.symm.trans T with h;exact aM D.ae (k.mm ((FX (h▸A) j).symm▸K) l)
 all_goals exact r.mm R l
def jX(n:J)(bS:H D)(cG:D):U Bool:=bS.rec (motive:=λ u=>D->U aF) (λ u=>B aj) (λ x xs dF y=>bR (F0 x) ((g5 n x y).bind λ a=>(dF y).map (a|| ·))) cG
theorem wN(M:t_ A s n X)(R:aV X s.heap x y):
  ∀(vs:H aq)(xs:H D)(c:aF),bT X s.heap vs xs->jX n xs y=B c->∃e:aq->aF,vs.any e=c/\∀v∈vs,EqAt A s v x (e v)/\∃d,aV X s.heap v d/\F0 d=S/\g5 n d y=B (e v)
 :=by
  intro vs;induction vs with
  |nil=>intro xs c r q;cases r;exact⟨λ w=>aj,ak q,λ w h=>aS h dS⟩
  |cons v vs I=>
   intro xs c r q;rcases r with _|⟨a,r⟩;refine bN q λ b q=>b3 q λ mn E q=>(av (hR.mp q) λ c4 g V=>av (I _ c4 r g) λ e j f=>?_);have one:∀{u},u∈vs->u=v->e u=mn:=λ{u} C F=>by obtain⟨_,d,W,G,i⟩:=f u C;exact ak (((aV.simp a (ax F W) b E i)▸i).symm.trans E)
   obtain k:∀u∈vs,(if u=v then mn else e u)=e u:=λ u C=>by
    by_cases F:u=v
    ·rw[bC F,one C F]
    ·exact(a6 F)
   refine⟨λ u=>if u=v then mn else e u,?_,λ u C=>?_⟩
   ·simp[D6,bC rfl,<-V,<-j]
    congr 1;rw[DH,K8,K8];exact⟨λ z=>av z λ u C h=>⟨u,C,ax (k u C) h⟩,λ z=>av z λ u C h=>⟨u,C,L (k u C) h⟩⟩
   ·dsimp only
    by_cases F:u=v
    ·exact L (bC F) (L F ⟨M _ _ _ _ _ E a R,_,a,b,E⟩)
    ·exact L (a6 F) (f u ((dM.mp C).resolve_left F))noncomputable def g6:Nat:=60
noncomputable def N2(o:eR)(a b:ah):U Bool:=match o with|.Lt=>B (decide (a<b))|.LtE=>B (decide (a<=b))|.Gt=>B (decide (b<a))|.GtE=>B (decide (b<=a))|.Eq=>B (a==b)|.NotEq=>B (a !=b)|_=>aa
noncomputable def rx(o:eR)(a b:jI):U Bool:=match o with|.Lt=>B (og a b==B .lt)|.LtE=>B (og a b==B .lt||Float64.cmp a b==B .eq)|.Gt=>B (og a b==B .gt)|.GtE=>B (og a b==B .gt||Float64.cmp a b==B .eq)|.Eq=>B (og a b==B .eq)|.NotEq=>B (og a b !=B .eq)|_=>aa
noncomputable def acv(o:eR)(a b:ai):U Bool:=match o with|.Lt=>B (decide (a.cps.toList<b.cps.toList))|.Eq=>B (a==b)|.NotEq=>B (a !=b)|.In=>B (!(K9 b a 0 b.length 1).isEmpty)|.NotIn=>B (!(!(K9 b a 0 b.length 1).isEmpty))|_=>aa
noncomputable def isNone:D->aF
 |.none=>S|_=>aj
def F1(o:eR)(a b:D):U Bool:=match o with|.Eq=>g5 g6 a b|.NotEq=>(g5 g6 a b).map (!·)|_=>aa
def F2(o:eR)(xs:H D)(a:D):U Bool:=match o with|.In=>jX g6 xs a|.NotIn=>(jX g6 xs a).map (!·)|_=>aa
def F3(o:eR)(a:D):U Bool:=match o with|.Is=>B (isNone a)|.IsNot=>B (!isNone a)|_=>aa
noncomputable def F4(o:eR)(a b:b1):U Bool:=match o with|.Is=>B (D7 a==D7 b)|.IsNot=>B (!(D7 a==D7 b))|_=>aa
noncomputable def F5:eR->aF
 |.Eq|.NotEq=>S|_=>aj
def iv(o:eR)(a b:D):U Bool:=match b with
 |.none=>F3 o a|.int y=>match a with|.int x=>N2 o x y|.aR x=>(match o with|.Eq=>B (ts x y==B .eq)|_=>aa)|_=>aa
 |.aR y=>match a with|.aR x=>rx o x y|.int x=>(match o with|.Eq=>B (ts y x==B .eq)|_=>aa)|_=>aa
 |.str y=>match a with|.str x=>acv o x y|_=>aa
 |.bool y=>match a with|.bool x=>(match o with|.Eq=>B (x==y)|.NotEq=>B (x !=y)|_=>aa)|_=>aa
 |.ty y=>match a with|.ty x=>F4 o x y|_=>aa
 |.ae y=>match F5 o with|true=>F1 o a b|false=>F2 o y a
 |.aD y=>match F5 o with|true=>F1 o a b|false=>F2 o y a
 |_=>aa
theorem aV.zero(r:aV X h v d):aV [] h v d:=r.mono λ u u e u=>⟨e,dS⟩theorem bQ.zero(r:bT X h v d):bT [] h v d:=r.mono λ u u e u=>⟨e,dS⟩theorem RD.zero(r:RD X h v d):aV [] h v d:=by induction r with|rep r=>exact r.zero|ae a r=>exact .ae dS a r.zero
theorem N3(e:N2 o a b=B c)(h:Q (.bool c) s):aO (a5 prog w) A (kr o (.int a t) (.int b u)) Q E s:=by obtain z:∀{x},B x=B c->Q _ s:=λ e=>L (ak e) h;induction o with|Eq=>exact PyProof.Rows.eq_int (z e)|NotEq=>exact PyProof.Rows.ne_int (z e)|Lt=>exact PyProof.Rows.lt_int (z e)|LtE=>exact PySem.P.le_int (z e)|Gt=>exact PyProof.Rows.gt_int (z e)|GtE=>exact PySem.P.ge_int (z e)|_=>exact nn e
theorem N4(e:rx o a b=B c)(h:Q (.bool c) s):aO (a5 prog w) A (kr o (.float a t) (.float b u)) Q E s:=by obtain z:∀{x},B x=B c->Q _ s:=λ e=>L (ak e) h;induction o with|Eq=>exact AutoFloatOps.eq_0 (z e)|NotEq=>exact AutoFloatOps.ne_0 (z e)|Lt=>exact AutoFloatOps.lt_0 (z e)|LtE=>exact AutoFloatOps.le_0 (z e)|Gt=>exact AutoFloatOps.gt_0 (z e)|GtE=>exact AutoFloatOps.ge_0 (z e)|_=>exact nn e
theorem acw(r:aV X u v a)(e:F3 o a=B c)(h:Q (.bool c) s):aO (a5 prog w) A (kr o v .none) Q E s:=by
 obtain k:(v==jM)=isNone a:=by cases r<;>rfl
 unfold F3 at e;induction o<;>dsimp only at e<;>cases e
 ·exact is_none (L k h)
 ·exact isNot_none (L k h)
theorem acx(e:F4 o a b=B c)(h:Q (.bool c) s):aO (a5 prog w) A (kr o (.type a) (.type b)) Q E s:=by
 unfold F4 at e;induction o<;>dsimp only at e<;>cases e
 ·exact bl h
 ·exact isnot_type h
theorem N5(I:∀b,g5 g6 a y=B b->RcAt A s v u b/\RcNeAt A s v u (!b))(g:∀b,jX g6 fg a=B b->Q (.bool b) s->aO (a5 prog w) A (kr .In v u) Q E s)
  (C:∀b,jX g6 fg a=B b->Q (.bool !b) s->aO (a5 prog w) A (kr .NotIn v u) Q E s)(e:(match F5 o with|true=>F1 o a y|false=>F2 o fg a)=B c)(h:Q (.bool c) s):aO (a5 prog w) A (kr o v u) Q E s:=by
 induction o with|Eq=>exact(I c e).1 prog w E Q h|NotEq=>exact gE e λ b q p=>(I b q).2 prog w E Q (p▸h)|In=>exact g c e h|NotIn=>exact gE e λ b q p=>C b q (p▸h)|_=>exact nn e
theorem acy(l:tu s.heap)(X:A.units+200<rk)(r:aV [] s.heap v a)(R:aV [] s.heap u b)(e:iv o a b=B c)
  (h:Q (.bool c) s):aO (a5 prog w) A (kr o v u) Q E s:=by
 rcases b with _|y|y|y|y|y|_|_|C|C|⟨_,_⟩;case none=>refine L R.inv ?_;exact acw r e h
 case int=>
  refine a7 R.inv λ _ wO=>?_;refine L wO ?_;cases a with
  |int x=>obtain⟨_,rfl⟩:=r.inv;exact N3 e h|aR x=>refine av r.inv λ u N u=>?_;refine L N ?_;rcases o with _|_<;>dsimp only[iv]at e<;>cases e;exact eq_fi h
  |_=>exact nn e
 case aR=>
  refine av R.inv λ _ W _=>?_;refine L W ?_;rcases a with _|_|x|x|_|_|_|_|_|_|⟨_,_⟩;case aR=>refine av r.inv λ u t u=>?_;refine L t ?_;exact N4 e h
  case int=>obtain⟨_,rfl⟩:=r.inv;rcases o with _|_<;>dsimp only[iv]at e<;>cases e;exact eq_if h
  all_goals exact nn e
 case str=>
  obtain⟨_,rfl⟩:=R.inv;rcases a with _|_|_|_|x|_|_|_|_|_|⟨_,_⟩
  case str=>obtain⟨_,rfl⟩:=r.inv;exact(by
    obtain z:∀{x},B x=B c->Q _ s:=λ e=>L (ak e) h;induction o with
    |Eq=>exact PyProof.Rows.eq_str (z e)|NotEq=>exact PyProof.Rows.ne_str (z e)|Lt=>exact PyProof.Rows.lt_str (z e)|In=>exact PyProof.Rows.in_str (z e)|NotIn=>exact PyProof.Rows.notIn_str (z e)|_=>exact nn e)
  all_goals exact nn e
 case bool=>
  refine L R.inv ?_;rcases a with _|x|_|_|_|_|_|_|_|_|⟨_,_⟩
  case bool=>
   refine L r.inv ?_;rcases o with _|_<;>dsimp only[iv]at e<;>cases e
   ·exact PyProof.Rows.eq_bool h
   ·exact PyProof.Rows.ne_bool h
  all_goals exact nn e
 case ty=>refine L R.inv ?_;cases a with|ty x=>refine L r.inv ?_;exact acx e h|_=>exact nn e
 case ae=>exact(by
   refine eg R.inv λ F G I z d k=>?_;subst I;have i:∀m,m<=60->t_ A.in1 s m []:=λ m p=>FZ m A.in1 s l (un X (gf p (by decide)));refine N5 (λ b q=>?_) (λ b q h=>?_) (λ b q h=>?_) e h
   ·rcases a with _|_|_|_|_|_|_|_|xs|_|⟨_,_⟩
    case ae=>refine eg r.inv λ cW us D z P K=>?_;subst D;exact NZ (λ m p=>i m (ip (ik p))) (gf (gK ..) X) q P K d k
    all_goals exact nn q
   ·obtain⟨f,M,g⟩:=wN (i 60 (bH _)) r _ _ _ k q
    exact in_listAt f d.isList (λ y T=>(g y (DU.mp T)).1) (L K_ (L M h))
   ·obtain⟨f,M,g⟩:=wN (i 60 (bH _)) r _ _ _ k q
    exact notIn_listAt f d.isList (λ y T=>(g y (DU.mp T)).1) (L K_ (L M h)))
 case aD=>exact(by
   refine eg R.inv λ F G V z d k=>?_;subst V;have i:∀m,m<=60->t_ A.in1 s m []:=λ m p=>FZ m A.in1 s l (un X (gf p (by decide)));refine N5 (λ b q=>?_) (λ b q h=>?_) (λ b q h=>?_) e h
   ·rcases a with _|_|_|_|_|_|_|_|_|xs|⟨_,_⟩
    case aD=>refine eg r.inv λ cW us W z P K=>?_;subst W;exact N0 (λ m p=>i m (ip (ik p))) (gf (gK ..) X) q P K d k
    all_goals exact nn q
   ·obtain⟨f,M,g⟩:=wN (i 60 (bH _)) r _ _ _ k q
    exact in_tupleAt f d.iV (λ y T=>(g y (DU.mp T)).1) (L K_ (L M h))
   ·obtain⟨f,M,g⟩:=wN (i 60 (bH _)) r _ _ _ k q
    exact notIn_tupleAt f d.iV (λ y T=>(g y (DU.mp T)).1) (L K_ (L M h)))
 all_goals exact nn e
def Ev.read:V->Ev D
 |.d d=>.ret d|.aH i=>λ σ=>match σ[i]? with|some (.ae xs)=>B (.ok (.ae xs),σ)|_=>aa
def Ev.ofD:U D->Ev V
 |some d=>.ret (.d d)|none=>.au
structure Base(g:bX):Prop where
 booked:tu g.K
 sys:th<g.h₀.objs.size
theorem wQ(b:tu k)(s:k.StaysIn h):tu h:=av b λ m n e=>⟨m,n.keeps s,e⟩theorem c0.get{i:J}(r:c0 P X α h as M)(e:as[i]?=B a):∃m,M[i]?=B m/\d2 P X α h a m:=by induction r generalizing i with|nil=>exact nn e|cons m _ I=>induction i with|zero=>exact⟨_,rfl,ax (ak e) m⟩|succ i=>exact I e
theorem aG.look(I:aG g x α σ h){i:J}(c:α[i]?=B a)(p:σ[i]?=B m):d2 g.w.params (x.P++α) α h a m:=
 av (I.bM.get c) λ u e r=>
 ax (ak (Y e.symm p)) r
theorem ag.ghost(u:∀α h,pre α h->a9 (x.P++α) α h v a)
  (h:∀d,ag g x (λ α h=>pre α h/\RD (x.P++α) h v d) post t (k d)):ag g x pre post t ((Ev.read a).bind k):=by
 intro α σ s o af I T p e Q E G y;obtain r:=u _ _ p;induction a with|d d=>exact h d α σ s o af I T ⟨p,.rep r⟩ e Q E G y|aH i=>refine av r λ a c w=>?_;subst w;refine av (I.bM.get c) λ m K M=>?_;unfold Ev.bind Ev.read at e;dsimp only at e;rw[K]at e;induction m with|ae xs=>exact av M λ vs z R=>(h _ α σ s o af I T ⟨p,.ae z R⟩ e Q E G y)|_=>exact nn e
theorem ag.toV(h:ag g x pre (NS x) t (.of o)):ag g x pre (dA x) t (Ev.ofD o):=by induction o with|none=>exact .au|some d=>intro α σ s f af I T p e Q E G y;cases e;exact h α σ s _ _ I T p rfl Q E (λ b r h' C aA i=>by injection i with i;subst i;exact G b _ h' C aA rfl) eC.ok
theorem ag.release(h:ag g x pre post (k ()) m):ag g x pre post (release vs ks>>=k) m:=
 λ α σ s o af I t P e Q E q y=>aB (zt (h α σ s o af I t P e Q E q y))
theorem ag.operate(h:ag g x pre post t m):ag g x pre post (zu vs t) m:=
 λ α σ s o af I T p e Q E q z=>aB (dT (hS (h α σ s o af I T p e Q E q z) (λ u u y=>aB (zt (bl y))) λ u u y=>y))
theorem ag.post{post post':H ao->aX->e->q->Prop}(h:ag g x pre post t m)(G:∀α h b a,post α h b a->post' α h b a):ag g x pre post' t m:=
 h.mono (λ u u p=>p) G
theorem ag.pre{pre pre':H ao->aX->Prop}{post:H ao->aX->e->p->Prop}(h:ag g x pre post t m)(v:∀α h,pre' α h->pre α h):ag g x pre' post t m:=
 h.mono v λ u u u u y=>y
theorem ag.N6{pre:H ao->aX->Prop}{mid:H ao->aX->e->q->Prop}{s u:Type}{post:H ao->aX->s->u->Prop}{f:e->s}{k:q->u}(h:ag g x pre mid t m)
  (G:∀α h b a,mid α h b a->post α h (f b) (k a)):ag g x pre post (t>>=λ b=>(tg (f b):bj s)) (m.bind λ a=>.ret (k a)):=
 h.bind λ b a=>ag.pure λ α h p=>G α h b a p
def nz:D->U aF
 |.none=>B aj|.bool b=>B b|.int i=>B (i !=0)|.aR u=>B (!DL u)|.str s=>a8 (aZ s.length 16777216) (B ((s.length:ah) !=0))|.ae xs=>a8 (aZ (O xs) 16777216) (B (!xs.isEmpty))|.aD xs=>a8 (aZ (O xs) 16777216) (B (!xs.isEmpty))|_=>aa
theorem N7(r:bT X h vs xs):vs.toArray.isEmpty=xs.isEmpty:=by cases r<;>rfl
theorem N8(r:aV X s.heap v d)(e:nz d=B c)(h:∀t,Q c {s with toks:=t}):aO (a5 prog w) A (tv v) Q E s:=by cases r with|none=>obtain rfl:=ak e;exact truthy_none (h _)|bool b=>exact L (ak e) (YJ (h _))|int i=>obtain rfl:=ak e;exact PyProof.Rows.truthy_int (h _)|aR u=>obtain rfl:=ak e;exact AutoFloatOps.truthy_0 (h _)|str u=>obtain⟨q,e⟩:=dn e;obtain rfl:=ak e;obtain q:=b8 q;exact PySem.P.truthy_str (by lia) (h _)|ae _ a r=>obtain⟨q,e⟩:=dn e;cases e;have q:=b8 q;have:=r.length;refine wpAny_truthy_list a.isList (by simp;lia) ?_;rw[N7 r];exact h _|aD _ a r=>obtain⟨q,e⟩:=dn e;cases e;have q:=b8 q;have:=r.length;refine truthy_tuple a.isTup (by simp;lia) ?_;rw[N7 r];exact h _|_=>exact nn e
theorem N9(w:∀α h,pre α h->RD (x.P++α) h v d):
  ag g x pre (λ u u b c=>b=c) (tv v) (.of (nz d)):=by
 cases e:nz d with|none=>exact .au|some c=>exact ag.wp λ α σ s I T p Q E G=>N8 (w _ _ p).zero e λ t=>G c s.heap t (λ u u e=>e) (bH _) rfl
theorem N_(Bq:Base g)(ok:eW g x n)(o:eR)(y:∀α h,pre α h->RD (x.P++α) h v a/\RD (x.P++α) h u b):
  ag g x pre (λ w w r c=>r=.bool c) (kr o v u) (.of (iv o a b)):=by
 cases e:iv o a b with|none=>exact .au|some c=>exact ag.wp λ α σ s I t p Q E G=>acy (wQ Bq.booked I.base) ok.u (y _ _ p).1.zero (y _ _ p).2.zero e (G _ s.heap s.toks (λ w w e=>e) (bH _) rfl)abbrev bp(g:bX)(x:bD)(env:cn)(ρ:az):H ao->aX->Prop:=λ α h=>bt g x env ρ α h
structure cU(g:bX)(x:bD)(env:cn)(n:J):Prop where
 base:Base g
 ok:eW g x n
 q:Quiet x env
section
variable {g:bX}{x:bD}{env:cn}{ρ:az}{n:J}{β γ nu oQ:Type}
theorem ag.cv{post:H ao->aX->nu->oQ->Prop}(y:cU g x env n)
  (W:ag g x (bp g x env ρ) mid t m)(j:∀b a,ag g x (λ α h=>bp g x env ρ α h/\mid α h b a) post (f b) (k a)):ag g x (bp g x env ρ) post (t>>=f) (m.bind k):=
 (ag.NN y.ok y.q (λ u u u u u u=>trivial) (W.pre λ u u p=>p.1) λ b a=>(j b a).pre λ u u p=>⟨p.1,p.2.2⟩).pre λ u u p=>⟨p,trivial⟩
theorem ag.hk{K:H ao->aX->Prop}{mid:H ao->aX->β->γ->Prop}{post:H ao->aX->nu->oQ->Prop}(y:cU g x env n)(l:kB x K)
  (W:ag g x (bp g x env ρ) mid t m)(j:∀b a,ag g x (λ α h=>(bp g x env ρ α h/\K α h)/\mid α h b a) post (f b) (k a)):ag g x (λ α h=>bp g x env ρ α h/\K α h) post (t>>=f) (m.bind k):=
 ag.NN y.ok y.q l (W.pre λ u u p=>p.1) λ b a=>(j b a).pre λ u u p=>⟨⟨p.1,p.2.1⟩,p.2.2⟩
theorem ag.hj{K R:H ao->aX->Prop}{mid:H ao->aX->β->γ->Prop}{post:H ao->aX->nu->oQ->Prop}(y:cU g x env n)(l:kB x K)
  (W:ag g x R mid t m)(j:∀b a,ag g x (λ α h=>(bp g x env ρ α h/\K α h)/\mid α h b a) post (f b) (k a)):ag g x (λ α h=>(bp g x env ρ α h/\K α h)/\R α h) post (t>>=f) (m.bind k):=by
 obtain C:ag g x (λ α h=>(bp g x env ρ α h/\K α h)/\R α h) (λ α h b a=>(bp g x env ρ α h/\K α h)/\mid α h b a) t m:=by exact λ α σ s o af I D p e Q E G z=>W α σ s o af I D p.2 e Q E (λ b r h' F aA i st M T P=>G b r h' F aA i st M T ⟨⟨bt.jW y.ok.cY y.ok.eu y.q _ _ _ _ _ I st p.1.1,l _ _ _ _ st p.1.2⟩,P⟩) z
 exact C.bind j
abbrev TE(g:bX)(x:bD)(env:cn)(ρ:az)(t:bj aq)(m:Ev V):Prop:=ag g x (bp g x env ρ) (dA x) t m
abbrev Oa:H ao->aX->aF->aF->Prop:=λ u u b c=>b=c
abbrev TB(g:bX)(x:bD)(env:cn)(ρ:az)(t:bj aF)(m:Ev aF):Prop:=ag g x (bp g x env ρ) Oa t m
theorem cU.hn(y:cU g x env n)(v:aq)(a:V):kB x λ α h=>a9 (x.P++α) α h v a:=λ u u u u st r=>r.mono (st.outer y.ok.cY y.ok.eu) (av st.ext λ β e u=>⟨β,e⟩)def kE(o:iM)(m M:Ev V):Ev V:=m.bind λ a=>M.bind λ b=>(Ev.read a).bind λ d=>(Ev.read b).bind λ D=>Ev.ofD (fW o d D)
theorem F6(y:cU g x env n)(h:TE g x env ρ (bG l env) m)(E:TE g x env ρ (bG r env) M):
  TE g x env ρ (bG (.BinOp l o r P) env) (kE o m M):=ag.cv y h λ v a=>ag.hk y (y.hn v a) E.holding λ u b=>ag.standAt (ag.operate (ag.ghost (λ w w p=>p.1.2) λ d=>ag.ghost (λ w w p=>p.1.2) λ D=>(acs o v u d D).toV.pre λ w w p=>⟨p.1.2,p.2⟩))def lh(o:UnaryOp)(d:D):U D:=match o with|.Not=>(nz d).map λ b=>.bool (!b)|.USub=>iX (λ i=>B (.int (-i))) d|.Invert=>iX (λ i=>B (.int (Builtin.bitNot i))) d|_=>aa
theorem acz(f:UnaryOp)(z:∀α h,pre α h->RD (x.P++α) h v d):ag g x pre (dA x) (unaryOp f v) (Ev.ofD (lh f d)):=by cases e:lh f d with|none=>exact .au|some c=>refine ag.wp λ α σ s I T p Q E G=>?_;obtain r:=z _ _ p;have o:∀{v t},aV _ s.heap v c->Q v (cT s s.heap t):=(G _ s.heap _ (λ u u e=>e) (bH _));induction f with|Not=>exact gE e λ b k e=>PyProof.Rows.not_of (N8 r.zero k λ t=>o (ax e (.bool _)))|Invert=>exact p4 e λ i q e=>let ⟨_,ev⟩:=(q▸r).int;ev▸PyProof.Rows.invert_int (o (ak e▸.int _ _))|USub=>exact p4 e λ i q e=>let ⟨_,ev⟩:=(q▸r).int;ev▸PyProof.Rows.neg_int (o (ak e▸.int _ _))|UAdd=>exact nn e
def Ax(o:UnaryOp)(m:Ev V):Ev V:=m.bind λ a=>(Ev.read a).bind λ d=>Ev.ofD (lh o d)theorem Ay(y:cU g x env n)(h:TE g x env ρ (bG e env) m):TE g x env ρ (bG (.UnaryOp o e P) env) (Ax o m):=ag.cv y h λ v a=>ag.standAt (ag.holding (ag.ghost (λ u u p=>p.2) λ d=>acz o λ u u p=>p.2))
noncomputable def ua:vX->aF->aF
 |.And,b=> !b|.Or,b=>b
def Az(o:vX)(bS:H (Ev V)):Ev V:=bS.rec (motive:=λ u=>Ev V) (.au) (λ m M dF=>match M with
  |[]=>m
  |_::_=>m.bind λ a=>(Ev.read a).bind λ d=>(Ev.of (nz d)).bind λ b=>match ua o b with
   |true=>.ret a|false=>dF)
theorem acA(p:cP)(o:vX)(t T:bj aq)(ay:H (bj aq)):boolOp p o (t::T::ay)=(do let v<-t;dZ p;let b<-d_ [v] (tv v);if ua o b=S then pure v else boolOp p o (T::ay)):=by
 obtain k:∀{f g:aq->aF->bj aq},(∀v b,f v b=g v b)->(t>>=λ v=>dZ p>>=λ u=>d_ [v] (tv v)>>=f v)=(t>>=λ v=>dZ p>>=λ u=>d_ [v] (tv v)>>=g v):=λ h=>by exact L (funext λ v=>funext (h v)) rfl
 induction o with|And=>exact k λ v b=>by induction b<;>rfl|Or=>exact k λ v b=>by induction b<;>rfl
theorem ag.ite{pre:H ao->aX->Prop}{post:H ao->aX->β->γ->Prop}(W:ag g x pre post t m)(j:ag g x pre post u k):
  ag g x (λ α h=>pre α h/\b=c) post (if b=S then t else u) (match c with|true=>m|false=>k):=by
 intro α σ s o af I T p e Q E G y;obtain⟨p,rfl⟩:=p;induction b with|true=>exact W α σ s o af I T p e Q E G y|false=>exact j α σ s o af I T p e Q E G y
theorem acB(y:cU g x env n)(h:bQ (TE g x env ρ) ay M):TE g x env ρ (boolOp P o ay) (Az o M):=by induction h with|nil=>exact .au| @cons t m ay M a as i=>induction as with|nil=>exact a| @cons C Q T q f as=>refine L (acA ..) (ag.cv y a λ v a=>ag.standAt (ag.ghost (λ u u p=>p.2) λ d=>ag.hj y (y.hn v a) (N9 λ u u p=>p).holding λ b c=>(ag.pre (ag.ite (ag.pure λ u u p=>p.2) (i.pre λ u u p=>p.1)) λ u u p=>⟨p.1,aM _ p.2⟩)))theorem acC(y:cU g x env n)(h:bQ (TE g x env ρ) (iQ es env) m):TE g x env ρ (bG (.BoolOp o es p) env) (Az o m):=acB y h
theorem Ob(b:aF):a9 X α h (.bool b) (.d (.bool b)):=aV.bool b
def mq(o:eR)(a:V)(r:Ev V)(k:V->aF->Ev γ):Ev γ:=r.bind λ b=>(Ev.read a).bind λ d=>(Ev.read b).bind λ D=>(Ev.of (iv o d D)).bind λ c=>k b c
def AA(a:V):H eR->H (Ev V)->Ev V
 |[],_=>.au|_::_,[]=>.au
 |f::o,r::R=>match o,R with
  |[],[]=>mq f a r λ u c=>.ret (.d (.bool c))|_::_,_::_=>mq f a r λ b c=>match c with|true=>AA b o R|false=>.ret (.d (.bool c))
  |_,_=>.au
def wR(a:V):H eR->H (Ev V)->Ev aF
 |[],_=>.au|_::_,[]=>.au
 |d::o,r::R=>match o,R with
  |[],[]=>mq d a r λ u c=>.ret c|_::_,_::_=>mq d a r λ b c=>match c with|true=>wR b o R|false=>.ret aj
  |_,_=>.au
theorem AB(y:cU g x env n)(o:eR){f:aq->aq->bj β}(w:aq->bj aq->bj aq)
  (d:∀u,w u=zu [v,u]\/w u=d_ [v,u])(h:TE g x env ρ t m)
  (E:∀u b c,ag g x (λ α h=>bp g x env ρ α h/\a9 (x.P++α) α h u b) post (f u (.bool c)) (k b c))(P:cP):
  ag g x (λ α h=>bp g x env ρ α h/\a9 (x.P++α) α h v a) post (do let u<-d_ [v] t;dZ P;let c<-w u (kr o v u);f u c) (mq o a m k):=by
 refine ag.hk y (y.hn v a) h.holding λ u b=>ag.standAt (ag.ghost (λ z z p=>p.1.2) λ D=>ag.ghost (λ z z p=>p.1.2) λ N=>?_);obtain K:ag g x _ _ (w u (kr o v u)) (.of (iv o D N)):=by
  rcases d u with e|e<;>rw[e]
  ·exact(N_ y.base y.ok o λ z z p=>p).operate
  ·exact(N_ y.base y.ok o λ z z p=>p).holding
 refine ag.pre (ag.hj y (y.hn u b) K λ r c=>?_) (λ z z p=>⟨⟨p.1.1.1.1,p.1.1.2⟩,p.1.2,p.2⟩);intro α σ s i af I T p;obtain⟨p,rfl⟩:=p;exact E u b c α σ s i af I T p
theorem Oc(p:cP)(v:aq)(o:eR)(t:bj aq):YL p v [o] [t]=(d_ [v] t>>=λ u=>dZ p>>=λ w=>zu [v,u] (kr o v u)>>=λ c=>pure c):=by show(d_ [v] t>>=λ u=>dZ p>>=λ w=>zu [v,u] (kr o v u))=_;exact L (funext λ u=>aM (λ k=>dZ p>>=λ w=>k) (YM _).symm) rfl
theorem acD(y:cU g x env n)(o:H eR):∀{ay:H (bj aq)}{m:H (Ev V)}{v:aq}{a:V},bQ (TE g x env ρ) ay m->
  ag g x (λ α h=>bp g x env ρ α h/\a9 (x.P++α) α h v a) (dA x) (YL P v o ay) (AA a o m):=by
 induction o with
 |nil=>exact λ u=>.au
 |cons d o j=>
  intro ay m v a h;induction h with
  |nil=>exact .au
  |cons R W=>
   rcases o with _|⟨K,o⟩
   ·induction W with|nil=>exact L (Oc P v d _) (AB y d _ (λ u=>.inl rfl) R (λ u b c=>ag.pure λ w w w=>Ob _) P)|cons=>exact .au
   ·induction W with|nil=>exact .au|cons z W=>refine AB y d _ (λ u=>.inr rfl) R (λ u b c=>ag.release (λ α σ s f af I t p e Q E G i=>aB (dT (bl ?_)))) P;induction c with|true=>exact j (.cons z W) α σ s f af I t p e Q E G i|false=>exact ag.pure (pre:=λ α h=>bp g x env ρ α h/\a9 _ α h u b) (λ w w w=>Ob _) α σ s f af I t p e Q E G i
theorem acE(y:cU g x env n)(o:H eR):∀{ay:H (bj aq)}{m:H (Ev V)}{v:aq}{a:V},bQ (TE g x env ρ) ay m->
  ag g x (λ α h=>bp g x env ρ α h/\a9 (x.P++α) α h v a) Oa (testChain P v o ay) (wR a o m):=by
 induction o with
 |nil=>exact λ u=>.au
 |cons d o j=>
  intro ay m v a h;induction h with
  |nil=>exact .au
  |cons R W=>
   rcases o with _|⟨K,o⟩
   ·induction W with|nil=>exact AB y d _ (λ u=>.inl rfl) R (λ u b c=>(ag.pure λ w w w=>rfl).holding) P|cons=>exact .au
   ·induction W with|nil=>exact .au|cons z W=>refine AB y d _ (λ u=>.inr rfl) R (λ u b c=>ag.release (λ α σ s f af I t p e Q E G i=>aB (dT (bl ?_)))) P;induction c with|true=>exact j (.cons z W) α σ s f af I t p e Q E G i|false=>exact ag.pure (pre:=λ α h=>bp g x env ρ α h/\a9 _ α h u b) (λ w w w=>rfl) α σ s f af I t p e Q E G i
noncomputable def hY(e:aJ):Bool:= !(aL e.ctorIdx 7)
theorem F7(i:H eR):∀(es:H aJ)(ay:H (bj aq)),es.all hY=S->markedEach i es ay=ay:=by
 induction i with
 |nil=>exact λ u u u=>rfl
 |cons o i I=>
  intro es ay h;rcases i with _|⟨T,os⟩
  ·rcases es with _|⟨e,_|_⟩
   ·rfl
   ·rcases ay with _|⟨t,_|_⟩
    ·rfl
    ·exact aM (λ t=>[t]) ((by
      cases e with
      |Set=>exact bw ((bo h).1)|_=>exact rfl (a:=t)))
    ·rfl
   ·rcases ay with _|_<;>rfl
  ·rcases es with _|⟨e,es⟩
   ·rfl
   ·rcases ay with _|⟨t,ay⟩
    ·rfl
    ·exact aM _ (I es ay (bo h).2)def Od(l:Ev V)(o:H eR)(m:H (Ev V)):Ev V:=l.bind λ a=>AA a o m
theorem acF(y:cU g x env n)(b:es.all hY=S)(z:TE g x env ρ (bG l env) m)(h:bQ (TE g x env ρ) (iQ es env) M):
  TE g x env ρ (bG (.Compare l o es p) env) (Od m o M):=by
 simp[arm_eval_Compare,F7 _ _ _ b];exact ag.cv y z λ v a=>acD y o h
def wU(a:V):Ev Bool:=λ σ=>match a with|.d d=>Ev.of (nz d) σ|.aH i=>(σ[i]? :U cj).bind λ m=>match m with|.ae xs=>Ev.of (nz (.ae xs)) σ|.jj=>B (.ok S,σ)|_=>aa
theorem acG(y:∀α h,pre α h->a9 (x.P++α) α h v a):ag g x pre (λ u u b c=>b=c) (tv v) (wU a):=by obtain dflt:=ag.ghost y (λ d=>(N9 λ u u p=>p.2));intro α σ s f af I t p e Q E G z;induction a with|d d=>exact dflt α σ s f af I t p e Q E G z|aH i=>refine b3 e λ m j e=>?_;induction m with|ae xs=>refine dflt α σ s f af I t p ?_ Q E G z;delta Ev.bind Ev.read;dsimp only;exact L j e|jj=>obtain k:=bc (ak e);refine av (y _ _ p) λ l R w=>L w (av (I.look R j) λ o T A=>?_);obtain N:s.TypeIs (.ref l) "re.Match" :=⟨o,T,A⟩;refine aB (wpAny_callSpecial?_none N (by rw[k1];lk) ?_);refine aB (YN N (show rg _ "__len__" =pure aa from by rw[k1];lk) ?_);exact bl (G S S s.heap s.toks α k.1.symm (.refl ..) (ax k.2 I) t rfl)|_=>exact nn e
def ub(m:Ev V):Ev Bool:=m.bind wU
theorem acH(y:cU g x env n)(z:iq e env t=(do let v<-t;dZ e.pos;d_ [v] (tv v)))(h:TE g x env ρ t m):TB g x env ρ (iq e env t) (ub m):=L z (ag.cv y h λ v a=>ag.standAt (acG λ u u p=>p.2).holding)
theorem acI(y:cU g x env n)(b:es.all hY=S)(z:TE g x env ρ (bG l env) m)(h:bQ (TE g x env ρ) (iQ es env) M):
  TB g x env ρ (iq (.Compare l o es p) env t) (m.bind λ a=>wR a o M):=by
 simp[arm_isTrue_Compare,F7 _ _ _ b];exact ag.cv y z λ v a=>acE y o h
def fL{γ:Type}(t:Ev aF)(a b:Ev γ):Ev γ:=t.bind λ c=>match c with|true=>a|false=>b
theorem Oe(y:cU g x env n)(h:TB g x env ρ t m)(d:ag g x (bp g x env ρ) post u a)(q:ag g x (bp g x env ρ) post w b):
  ag g x (bp g x env ρ) post (do if<-t then u else w) (fL m a b):=
 ag.cv y h λ b c=>(ag.ite d q)
theorem Of(y:cU g x env n)(h:TB g x env ρ (iq t env (bG t env)) m)(c:TE g x env ρ (bG a env) M)(q:TE g x env ρ (bG b env) v):
  TE g x env ρ (bG (.IfExp t a b p) env) (fL m M v):=Oe y h c q
def wV(o:vX)(bS:H (Ev aF)):Ev Bool:=bS.rec (motive:=λ u=>Ev aF) (.ret (o==.And)) (λ m M dF=>m.bind λ b=>match ua o b with
  |true=>.ret b|false=>dF)theorem acJ(o:vX)(e:aJ)(es:H aJ)(env:cn):allTrue o (e::es) env=(iq e env (bG e env)>>=λ b=>if ua o b=S then pure b else allTrue o es env):=by apply Y (arm_allTrue_cons ..);congr 1;funext b;induction o<;>induction b<;>rfl
theorem acK(y:cU g x env n)(h:bQ (λ e m=>TB g x env ρ (iq e env (bG e env)) m) es M):TB g x env ρ (iq (.BoolOp o es P) env t) (wV o M):=(show TB g x env ρ (allTrue o es env) _ from by
  induction h with
  |nil=>exact ag.pure λ u u u=>rfl
  |cons a _ i=>
   exact L (acJ ..) (ag.cv y a λ b c=>ag.pre (ag.ite (ag.pure λ u u p=>p.2) (i.pre λ u u p=>p.1)) λ u u p=>⟨p,aM _ p.2⟩))
end
class inductive bU(X α:H ao)(h:aX):H aq->H V->Prop
 |nil:bU X α h [] []
 |cons {v vs a as} :a9 X α h v a->bU X α h vs as->bU X α h (v::vs) (a::as)theorem bU.length(r:bU X α h vs xs):O vs=O xs:=by induction r with|nil=>rfl|cons _ _ i=>exact aM i9 i
noncomputable def fx:H V->U (H D)
 |[]=>B []|a::as=>match a with|.d d=>(fx as).map (d:: ·)|.aH _=>aa
theorem bU.fx(r:bU X α h vs xs)(e:fx xs=B ds):bT X h vs ds:=by
 induction r generalizing ds with
 |nil=>exact ak e▸.nil
 | @cons v vs a as r o I=>
  induction a with
  |aH i=>exact nn e
  |d d=>
   dsimp only[Internal.fx]at e;refine eD (Internal.fx as) (λ E=>?_) λ D E=>?_
   ·rw[E]at e;exact nn e
   ·rw[E]at e;exact ak e▸.cons r (I E)theorem bU.mono{X Yq α aA:H ao}(r:bU X α h vs xs)(k:fX h h' X Yq)(T:∃β,aA=α++β):bU Yq aA h' vs xs:=by induction r with|nil=>exact .nil|cons a _ i=>exact .cons (a.mono k T) i
theorem wW(G:cb x.F x.P)(t:cb x.W x.P)(v:H aq)(d:H V):kB x λ α h=>bU (x.P++α) α h v d:=
 λ u u u u st r=>r.mono (st.outer G t) (av st.ext λ β e u=>⟨β,e⟩)
noncomputable def cE:H (Ev V)->Ev (H V)
 |[]=>.ret []|m::M=>m.bind λ a=>(cE M).bind λ as=>.ret (a::as)abbrev Og(x:bD):H ao->aX->H aq->H V->Prop:=λ α h v r=>bU (x.P++α) α h v r
section
variable {g:bX}{x:bD}{env:cn}{ρ:az}{n:J}{β γ nu oQ:Type}theorem cU.AD(y:cU g x env n)(v:H aq)(a:H V):kB x λ α h=>bU (x.P++α) α h v a:=wW y.ok.cY y.ok.eu v a
theorem F8{K k:H ao->aX->Prop}(W:kB x K)(j:kB x k):kB x λ α h=>K α h/\k α h:=λ u u u u st p=>⟨W _ _ _ _ st p.1,j _ _ _ _ st p.2⟩theorem uc(y:cU g x env n)(h:bQ (TE g x env ρ) ay M):ag g x (bp g x env ρ) (Og x) (vY (ay.map λ t=>(aj,t))) (cE M):=by induction h with|nil=>exact ag.pure λ u u u=>.nil| @cons t m ay M h b i=>refine(?_:ag g x _ _ (t>>=λ v=>d_ [v] (vY _)>>=λ vs=>pure (v::vs)) _);exact ag.cv y h λ v a=>ag.hk y (y.hn v a) i.holding λ vs as=>ag.pure λ α h p=>.cons p.1.2 p.2
noncomputable abbrev fM:=kdsPlain
theorem ud(es:H aJ)(env:cn)(h:es.all fM=S):starEach es env=(iQ es env).map λ t=>(aj,t):=kds_star es h
noncomputable def Oh{T:Type}(z:T):=λ a b c d f g h i j k l m n o (e:aJ)=>PySem.Expr.casesOn (motive_1:=λ u=>T) e a (λ u u u=>z) b c (λ u u u u=>z) d f (λ u u u=>z) g (λ u u u u=>z) (λ u u u u u=>z) (λ u u u u=>z) (λ u u=>z) (λ u u=>z) (λ u u=>z) h i (λ u u u u=>z) (λ u u=>z) j k l (λ u u=>z) m n o (λ u u u u=>z)noncomputable def stK{T:Type}(z:T):=λ a b c d f g h i j k (e:bx)=>Stmt.casesOn (motive_2:=λ u=>T) e a (λ u u u u u u u u u u=>z) b c d f (λ u u u u u u u=>z) (λ u u u u=>z) (λ u u u u u=>z) g (λ u u u u u=>z) (λ u u u u=>z) h (λ u u u=>z) (λ u u u=>z) (λ u u u=>z) i j (λ u u u u u=>z) (λ u u u=>z) (λ u u=>z) (λ u u u u=>z) (λ u u=>z) (λ u u=>z) k (λ u=>z) (λ u=>z) (λ u=>z)noncomputable def hZ{A:Type}(e:aJ)(f:ai->A)(z:A):A:=if h:e.ctorIdx=23 then YO e h λ n u=>f n else z
noncomputable def rU{A:Type}(e:aJ)(f:H aJ->A)(z:A):A:=if h:e.ctorIdx=25 then YP e h λ es u u=>f es else z
noncomputable def wX{A:Type}(e:aJ)(f:aJ->H aJ->H vZ->A)(z:A):A:=if h:e.ctorIdx=16 then YQ e h λ g as ks u=>f g as ks else z
noncomputable def F9{A:Type}(e:aJ)(f:vV->A)(z:A):A:=if h:e.ctorIdx=19 then anZ e h λ c u u=>f c else z
section
variable {A:Type}{e:aJ}{z:A}{P:A->Prop}
theorem mr(k:∀n p,e=.Name n p->P (f n))(K:P z):P (hZ e f z):=by
 by_cases h:e.ctorIdx=23
 ·exact YO (motive_1:=λ E=>e=E->P (hZ E f z)) e h k rfl
 ·exact(aM P (ja h)).mpr K
theorem wY(k:∀es c p,e=.Tuple es c p->P (f es))(K:P z):P (rU e f z):=by
 by_cases h:e.ctorIdx=25
 ·exact YP (motive_1:=λ E=>e=E->P (rU E f z)) e h k rfl
 ·exact(aM P (ja h)).mpr K
theorem F_(k:∀g as ks p,e=.Call g as ks p->P (f g as ks))(K:P z):P (wX e f z):=by
 by_cases h:e.ctorIdx=16
 ·exact YQ (motive_1:=λ E=>e=E->P (wX E f z)) e h k rfl
 ·exact(aM P (ja h)).mpr K
theorem acL(k:∀c n p,e=.Constant c n p->P (f c))(K:P z):P (F9 e f z):=by
 by_cases h:e.ctorIdx=19
 ·exact anZ (motive_1:=λ E=>e=E->P (F9 E f z)) e h k rfl
 ·exact(aM P (ja h)).mpr K
end
theorem ue(p:cP)(ay:H (bj aq)):backTo p (ay.map λ t=>(aj,t))=ay.map λ t=>(aj,t):=by apply Y v3;rfl
theorem c0.mono(r:c0 P X α h as ms)(Q:h.objs.size<=h'.objs.size)(c:∀a∈as,h'.get? a=h.get? a)(k:fX h h' X Yq)(T:∃β,aA=α++β):c0 P Yq aA h' as ms:=by induction r with|nil=>exact .nil|cons a _ i=>exact .cons (a.mono Q (c _ (cV ..)) k T) (i λ b q=>c b (c7 _ q))theorem c0.append(r:c0 P X α h as m)(R:c0 P X α h bs N):c0 P X α h (as++bs) (m++N):=by induction r with|nil=>exact R|cons a _ i=>exact .cons a i
theorem c0.length(r:c0 P X α h as ms):O as=O ms:=by induction r with|nil=>rfl|cons _ _ i=>exact zh.mpr i
theorem aG.more(I:aG g x α σ h)(k:∀b o,h.get? b=B o->h'.get? b=B o)(s:h.objs.size<=h'.objs.size)(G:∀a,a<h.objs.size->h.get? a=aa->h'.get? a=aa)
  (u:(∀b o,h.get? b=B o->b∉x.P++α->h'.get? b=B o/\b∉x.P++(α++ [h.objs.size]))->d2 g.w.params (x.P++(α++ [h.objs.size])) (α++ [h.objs.size]) h' h.objs.size m):aG g x (α++ [h.objs.size]) (σ++ [m]) h':=by
 obtain j:=I.keeps k s;have F:=I.fresh;rw[bB,rj]at F;obtain d:∀b o,h.get? b=B o->b∉x.P++α->h'.get? b=B o/\b∉x.P++(α++ [h.objs.size]):=λ b o e n=>⟨k _ _ e,by
  rw[<-eb,bB,rj];exact⟨n,λ r=>hu _ (ek.mp r▸dI e)⟩⟩
 have N:∀{p:ao->Prop},(∀a∈α,p a)->p h.objs.size->∀a∈α++ [h.objs.size],p a:=λ W l a c=>(bB.mp c).elim (W a) λ q=>L (ek.mp q) l;refine⟨j.base,j.big,λ a c=>c.elim (λ q=>I.b2 a (.inl q)) (N (λ a q=>I.b2 a (.inr q)) ⟨(by
   cases e:g.K.get? h.objs.size with
   |none=>rfl|some o=>exact aS (dI (I.base _ _ e)) (hu _)),I.big⟩ a),j.alive,?_,N I.c8 F.1,?_,j.fr,j.old⟩
 ·rw[rl]
  exact⟨I.dv,Yv.mpr ⟨dS,List.nodup_nil⟩,λ a c b r q=>F.2 (ek.mp r▸q▸c)⟩
 ·refine c0.append (I.bM.mono s (λ a c=>?_) d ⟨_,rfl⟩) (.cons (u d) .nil)
  cases E:h.get? a with|some o=>exact k a o E|none=>exact G a (I.bM.lt a c) E
theorem aG.grow(I:aG g x α σ h)(o:fe)(m:cj)
  (p:d2 g.w.params (x.P++(α++ [h.objs.size])) (α++ [h.objs.size]) (h.push o) h.objs.size m):aG g x (α++ [h.objs.size]) (σ++ [m]) (h.push o):=
 I.more (λ u u=>dy _) (L (er ..) (hg _)) (λ u l e=>Y (Heap.get?_push_ne _ _ _ (il l)) e) λ u=>p
theorem a_.grow(h:aX)(o:fe):a_ F W α h (α++ [h.objs.size]) (h.push o):=
 ⟨L (er ..) (hg _),⟨[h.objs.size],rfl,λ a c=>by refine L (ek.mp c) ?_;exact bH _⟩,λ u u e u u u=>dy _ e,λ u o e u u=>⟨o.slots,dy _ e⟩⟩noncomputable def dc{γ:Type}(xs:H γ):Bool:=aZ (O xs) 16777216
def AE(bf:aF)(as:H V):Ev V:=match fx as with|none=>.au|some xs=>match dc xs with|false=>.au|true=>match bf with|false=>.ret (.d (.ae xs))|true=>λ σ=>B (.ok (.aH (O σ)),σ++ [.ae xs])def AF(as:H V):Ev V:=match fx as with|none=>.au|some xs=>match dc xs with|false=>.au|true=>.ret (.d (.aD xs))
theorem acM(bf:aF)(v:∀α h,pre α h->bU (x.P++α) α h vs as):ag g x pre (dA x) (newList vs) (AE bf as):=by
 unfold AE;cases e:fx as with
 |none=>exact .au
 |some xs=>
  dsimp only;cases M:dc xs with
  |false=>exact .au
  |true=>
   have G:∀α h,pre α h->vs.toArray.size<=sizeLine:=λ α h p=>by rw[hT,(((v _ _ p).fx e).length)];exact b8 M
   induction bf with
   |false=>exact ag.wp λ α σ s I t p Q E K=>ku (K _ _ s.toks (λ u u=>dy _) (L (er ..) (hg _)) (aV.ae I.fresh ⟨0,d0 _ rfl⟩ (Av I _ ((v _ _ p).fx e)))) (G _ _ p)
   |true=>
    intro α σ s f af I t p w Q E K y;cases w;refine ku (K _ _ _ s.toks _ rfl (.grow _ _) (I.grow _ _ ?_) t ⟨s.heap.objs.size,?_,rfl⟩) (G _ _ p)
    ·refine⟨vs,⟨0,d0 _ rfl⟩,((v _ _ p).fx e).mono λ b o e n=>⟨dy _ e,?_⟩⟩
     rw[<-eb,bB,rj];exact⟨n,λ q=>aS (dI e) (ax ((ek.mp q).symm) (hu _))⟩
    ·rw[<-I.bM.length];exact D8
theorem acN(v:∀α h,pre α h->bU (x.P++α) α h vs as):ag g x pre (dA x) (D9 vs) (AF as):=by
 unfold AF;cases e:fx as with
 |none=>exact .au
 |some xs=>
  dsimp only;cases K:dc xs with
  |false=>exact .au
  |true=>
   have G:∀α h,pre α h->vs.toArray.size<=sizeLine:=λ α h p=>by rw[hT,(((v _ _ p).fx e).length)];exact b8 K
   exact ag.wp λ α σ s I t p Q E M=>ku (M _ _ s.toks (λ u u=>dy _) (L (er ..) (gK s.heap.objs.size 1)) (aV.aD I.fresh ⟨0,d0 _ rfl⟩ (Av I _ ((v _ _ p).fx e)))) (G _ _ p)def Oi(bf:aF)(m:H (Ev V)):Ev V:=(cE m).bind λ as=>AE bf as
def uf(m:H (Ev V)):Ev V:=(cE m).bind λ as=>AF as
theorem acO(y:cU g x env n)(bf:aF)(b:es.all fM=S)(h:bQ (TE g x env ρ) (iQ es env) m):TE g x env ρ (bG (.List es W) env) (Oi bf m):=by simp[arm_eval_List,ud _ _ b,ue];exact ag.standAt (ag.cv y (uc y h) λ vs as=>acM bf λ u u p=>p.2)theorem acP(y:cU g x env n)(b:es.all fM=S)(h:bQ (TE g x env ρ) (iQ es env) m):TE g x env ρ (bG (.Tuple es c W) env) (uf m):=by simp[arm_eval_Tuple,ud _ _ b,ue];exact ag.standAt (ag.cv y (uc y h) λ vs as=>acN λ u u p=>p.2)
end
noncomputable def ug(k:ah):Bool:=decide (-9223372036854775808<=k)&&decide (k<9223372036854775808)def uh(xs:H D)(k:ah):U D:=a8 (ug k) ((v5 k (O xs)).bind λ j=>xs[j]?)
def fh(o:D)(i:D):U D:=match i with
 |.int k=>match o with
  |.ae xs=>uh xs k|.aD xs=>uh xs k|.str s=>(a8 (ug k) (((v5 k s.length).bind λ j=>s.cps[j]?).map λ c=>.str ⟨#[c]⟩))|_=>aa
 |_=>aa
theorem Ga(h:ug k=S): -9223372036854775808<=k/\k<9223372036854775808:=by unfold ug at h;simpa using h
theorem acQ(z:IsL s.heap l vs)(P:ug k=S)(D:v5 k (O vs)=B j)(m:vs[j]?=B v)(h:Q v s):
  aO (a5 prog w) A (La (.ref l) (.int k t)) Q E s:=by
 refine cq (Ga P) λ W R=>?_;dsimp only[v5]at D;by_cases e:k<0
 ·simp only[e,if_true]at D
  split at D
  ·rename_i C
   obtain rfl:=ak D;exact wpAny_getItem_list_neg z.isList e (by simp;lia) (by assumption) (by simpa using m) h
  ·exact nn D
 ·simp only[e,YR]at D
  split at D
  ·rename_i C
   obtain rfl:=ak D;exact wpAny_getItem_list z.isList (K5.mp e) (by assumption) (by simpa using m) h
  ·exact nn D
theorem acR(R:RD X s.heap o a)(W:RD X s.heap i b)(e:fh a b=B d)(h:∀v t,aV X s.heap v d->Q v {s with toks:=t}):
  (∃T id,s.TypeIs o T/\rg (.type T) "__getitem__" =pure (B (.builtin id)))/\aO (a5 prog w) A (La o i) Q E s:=by
 cases b with
 |int k=>
  obtain⟨t,rfl⟩:=W.int;cases a with
  |ae xs=>obtain⟨l,vs,rfl,z,r⟩:=R.ml;obtain⟨q,f⟩:=dn e;obtain⟨j,y,D⟩:=rm.mp f;obtain⟨v,m,V⟩:=r.get D;exact⟨(bh ("list") _ ⟨z.isList.typeIs,slot_list_getitem.lookup⟩),acQ z q (L r.length y) m (h v s.toks V)⟩|aD xs=>obtain⟨l,vs,rfl,z,r⟩:=R.t9;obtain⟨q,f⟩:=dn e;obtain⟨j,y,D⟩:=rm.mp f;obtain⟨v,m,V⟩:=r.get D;refine cq (Ga q) λ C P=>⟨bh _ _ ⟨z.isTup.typeIs,an0.lookup⟩,PyProof.Rows.getItem_tuple (j:=j) z.isTup ?_ ?_ ?_ ?_ (h v s.toks V)⟩;all_goals first|assumption|(simp;rw[r.length];exact y)|(simpa using m)
  |str x=>obtain⟨u,rfl⟩:=R.str;obtain⟨q,f⟩:=dn e;refine av (hR.mp f) λ c y D=>?_;subst D;obtain⟨C,P⟩:=Ga q;refine⟨bh _ _ ⟨Lb s x u,F.slot_str_getitem.lookup⟩,PyProof.Rows.getItem_str ?_ y (h _ _ (.str _ _))⟩;lia|_=>exact nn e
 |_=>exact nn e
section
variable {g:bX}{x:bD}{env:cn}{ρ:az}{n:J}{β γ nu oQ:Type}
set_option tactic.hygienic true in
theorem Gb
  (h:(∃T id,s.TypeIs o T/\rg (.type T) "__getitem__" =pure (B (.builtin id)))/\aO (a5 prog w) A (La o i) Q E s):
  aO (a5 prog w) A (D_ v y o i) Q E s:=by
 obtain⟨⟨T,id,N,z⟩,R⟩:=h;obtain b:∃j,subscripted y aj o i=zu j _:=by cases y<;>first|exact⟨_,rfl⟩|(rename_i st _;cases st<;>exact⟨_,rfl⟩)
 exact a7 b λ j=>tail_any N z R
theorem Oj(v y:aJ)(p:cP)(env:cn):bG (.Subscript v y p) env=(do let o<-bG v env;let i<-d_ [o] (bG y env);dZ p;D_ v y o i):=L (arm_eval_Subscript ..) rfl
noncomputable def p6(e:aJ):Bool:= !(aL e.ctorIdx 26)noncomputable def p7{A:Type}(e:aJ)(f:aJ->ai->cP->A)(z:A):A:=if h:e.ctorIdx=20 then zv e h λ o nm p=>f o nm p else z
noncomputable def ui{A:Type}(e:aJ)(f:U aJ->U aJ->U aJ->A)(z:A):A:=if h:e.ctorIdx=26 then Ea e h λ a b c u=>f a b c else z
theorem acS{A:Type}{z:A}{P:A->Prop}{f:aJ->ai->cP->A}(k:∀o nm p,e=.Attribute o nm p->P (f o nm p))(K:P z):P (p7 e f z):=by
 by_cases h:e.ctorIdx=20
 ·exact zv (motive_1:=λ j=>e=j->P (p7 j f z)) e h k rfl
 ·exact(aM P (ja h)).mpr K
theorem acT{A:Type}{z:A}{P:A->Prop}{f:U aJ->U aJ->U aJ->A}(k:∀a b c p,e=.Slice a b c p->P (f a b c))(K:p6 e=S->P z):P (ui e f z):=by
 by_cases h:e.ctorIdx=26
 ·exact Ea (motive_1:=λ j=>e=j->P (ui j f z)) e h k rfl
 ·refine(aM P (ja h)).mpr (K ?_)
  show(!(aL e.ctorIdx 26))=S;exact L (YF.mpr λ q=>h (dE q)) rfl
theorem acU{A Bq:Type}{z:A}{M:Bq}{P:A->Bq->Prop}{f:ai->A}{F:ai->Bq}(k:∀n p,e=.Name n p->P (f n) (F n))(K:P z M):P (hZ e f z) (hZ e F M):=by
 by_cases h:e.ctorIdx=23
 ·exact YO (motive_1:=λ j=>e=j->P (hZ j f z) (hZ j F M)) e h k rfl
 ·exact(congr (aM P (ja h)) (ja h)).mpr K
theorem acV{A Bq:Type}{z:A}{M:Bq}{P:A->Bq->Prop}{f:aJ->ai->cP->A}{F:aJ->ai->cP->Bq}(k:∀o n p,e=.Attribute o n p->P (f o n p) (F o n p))(K:P z M):P (p7 e f z) (p7 e F M):=by
 by_cases h:e.ctorIdx=20
 ·exact zv (motive_1:=λ j=>e=j->P (p7 j f z) (p7 j F M)) e h k rfl
 ·exact(congr (aM P (ja h)) (ja h)).mpr K
theorem acW{A Bq:Type}{z:A}{M:Bq}{P:A->Bq->Prop}{f:U aJ->U aJ->U aJ->A}{F:U aJ->U aJ->U aJ->Bq}(k:∀a b c,P (f a b c) (F a b c))(K:P z M):P (ui e f z) (ui e F M):=by
 by_cases h:e.ctorIdx=26
 ·exact Ea e h λ a b c p=>k a b c
 ·exact(congr (aM P (ja h)) (ja h)).mpr K
noncomputable def AG:D->U (U ah)
 |.none=>B aa|.int i=>B (B i)|_=>aa
noncomputable def uj(xs:H D)(i:H J):H D:=i.filterMap (xs[·]?)
def acX(xs:H D)(lo dk st:U ah):U D:=
 a8 (!(st==B 0)&&dc xs) (B (.ae (uj xs (YS (rn lo dk st (O xs)).1 (rn lo dk st (O xs)).2.1 (rn lo dk st (O xs)).2.2))))noncomputable def AH(s:ai)(lo dk:U ah):H Nat:=Builtin.Str.strSliceIndices lo dk 1 s.length
def acY(s:ai)(lo dk st:U ah):U D:=match st with|some _=>aa|none=>a8 (dc ((AH s lo dk).filterMap (s.cps[·]?))) (B (.str (bif (O (AH s lo dk))==s.length then s else⟨((AH s lo dk).filterMap (s.cps[·]?)).toArray⟩)))
def acZ(xs:H D)(lo dk st:U ah):U D:=match lo with
 |some a=>match dk,st with
  |none,aa=>a8 (decide (1<=a)&&decide (a<=O xs)&&dc xs) (B (.aD (xs.drop a.toNat)))|_,_=>aa
 |none=>aa
def jn(o lo dk st:D):U D:=(AG lo).bind λ lo=>(AG dk).bind λ dk=>(AG st).bind λ st=>match o with|.ae xs=>acX xs lo dk st|.str s=>acY s lo dk st|.aD xs=>acZ xs lo dk st|_=>aa
theorem bQ.picked(r:bT X h vs xs):∀I:H J,bT X h (I.filterMap (vs.toArray[·]?)) (uj xs I)
 |[]=>.nil
 |i::I=>by
  unfold uj;dsimp only[Eb,Eb];cases e:xs[i]? with
  |none=>
   have:vs.toArray[i]?=none:=by obtain this:=r.length;rw[ra,Ec];rw[Ec]at e;exact an1 this e
   exact L this (r.picked I)
  |some d=>refine av (r.get e) λ v k R=>?_;rw[ra,k];exact .cons R (r.picked I)
theorem part_of(r:RD X h v d)(e:AG d=B p):IsPart v p/\∃q:U (ah×Tok),v=partValue q/\q.map (·.1)=p:=by
 have r:=r.inv;rcases d with _|b|i|u|s|n|n|a|xs|xs|⟨c,xs⟩;case none=>have z:=r;exact ax (ak e) (z▸⟨.none,aa,rfl,rfl⟩)
 case int=>exact a7 r λ t z=>ax (ak e) (z▸⟨.int _ _,B (i,t),rfl,rfl⟩)
 all_goals exact nn e
section
variable {A:m7}{α:H ao}{σ:aE}{s:aU}{Q:aq->aU->Prop}{E:aq->aU->Prop}{o l u t:aq}{kz:ao}{d:D}{lo dk st:U ah}def ac0(g:bX)(A:m7)(s:aU)(Q:aq->aU->Prop)(E:aq->aU->Prop)(o:aq)(kz:ao):Prop:=(∃T id,s.TypeIs o T/\rg (.type T) "__getitem__" =pure (B (.builtin id)))/\aO (a5 g.prog g.w) A (La o (.ref kz)) Q E s
theorem ac1(I:aG g x α σ s.heap)(f:s.heap.IsSliceOf kz l u t)
  (r:RD (x.P++α) s.heap o a)(h1:RD (x.P++α) s.heap l b)(eE:RD (x.P++α) s.heap u c)(dP:RD (x.P++α) s.heap t e)(v:jn a b c e=B d)(G:hl x α s Q d):ac0 g A s Q E o kz:=by
 refine b3 v λ lo nA v=>b3 v λ dk nB v=>b3 v λ st y v=>?_;obtain⟨mu,ac2,T,i⟩:=part_of h1 nA;obtain⟨rV,g7,j,X⟩:=part_of eE nB;obtain⟨Gc,V,y,C⟩:=part_of dP y;cases a with
 |ae xs=>exact(by
   refine e4 r.ml λ k vs w D R=>L w ?_;obtain v:=dn v;obtain q:=bF.mp v.1;obtain h:vs.toArray.size=O xs:=R.length;refine⟨bh _ _ ⟨D.isList.typeIs,slot_list_getitem.lookup⟩,wpAny_getItem_list_slice D.isList f mu rV Gc (λ z=>by rw[z]at q;exact aS q.1 (by trivial)) ?_ (L h (b8 q.2))⟩;unfold slicePick;exact L h (((ak v.2).symm▸G).FW I (R.picked _)))
 |str z=>exact(by
   obtain⟨dm,rfl⟩:=r.str;cases st with
   |some _=>exact nn v|none=>
   obtain v:=dn v;cases V with
   |some _=>exact nomatch C
   |none=>
   refine⟨bh _ _ ⟨Lb s z dm,F.slot_str_getitem.lookup⟩,wpAny_getItem_str_slice (T▸j▸y▸f) rfl ?_⟩;delta sliceMade slicePicked;refine L i (L X ?_);show Made.post (if (1==1&&O (AH z lo dk)==z.length)=S then _ else _) Q s;rw[<-ak v.2]at G;cases K:(O _==z.length)with
   |true=>exact G _ s.heap s.toks (λ u u e=>e) (bH _) (L K (.str _ _))
   |false=>
    refine⟨?_,G _ s.heap _ (λ u u e=>e) (bH _) (L K (.str _ _))⟩;rw[vW];exact b8 v.1)
 |aD xs=>exact(by
   refine e4 r.t9 λ k vs W N R=>L W ?_;cases lo with
   |none=>exact nn v|some a=>
   cases dk with
   |some _=>exact nn v|none=>
   cases st with
   |some _=>exact nn v|none=>
   cases g7 with
   |some _=>exact nomatch X
   |none=>
   cases V with
   |some _=>exact nomatch C
   |none=>
   cases ac2 with
   |none=>exact nn i|some z=>
   obtain v:=dn v;obtain q:=bF.mp v.1;obtain q1:=bF.mp q.1;obtain P:=iN q1.1;obtain M:=iN q1.2;obtain⟨m,p⟩:=YT (zi (by decide) P);rw[<-ak v.2,p]at G;rw[p]at P M;exact⟨bh _ _ ⟨N.isTup.typeIs,an0.lookup⟩,getItem_tuple_from N.isTup ((show z=((m:ah),z.2)from Prod.ext (Y (ak i) p) rfl)▸(T▸j▸y▸f)) (vG.mp P) (L hT (L R.length (vG.mp M))) (G.NT I (R.drop m)) (L hT (L R.length (b8 q.2)))⟩)
 |_=>exact nn v
end
def wZ:U (Ev V)->Ev V
 |none=>.ret (.d .none)|some m=>m
inductive h2{Sq T:Type}(R:Sq->T->Prop):U Sq->U T->Prop
 |none:h2 R aa aa
 |some {a b} :R a b->h2 R (B a) (B b)theorem h2.inv{Sq T:Type}{R:Sq->T->Prop}{o b}(h:h2 R o (B b)):∃a,o=B a/\R a b:=by cases h with|some h=>exact⟨_,rfl,h⟩theorem h2.no{Sq T:Type}{R:Sq->T->Prop}{o}(h:h2 R o aa):o=Option.none:=by cases h;rfl
theorem Gd(h:h2 (TE g x env ρ) t m):TE g x env ρ (valueOrNone t) (wZ m):=by cases h with|none=>exact ag.pure λ u u u=>.none|some h=>exact h
theorem ag.ex{Sq:Type}{pre:Sq->H ao->aX->Prop}{post:H ao->aX->β->γ->Prop}(h:∀s,ag g x (pre s) post t m):ag g x (λ α h=>∃s,pre s α h) post t m:=
 λ α σ s f af I T p=>a7 p λ z p=>h z α σ s f af I T p
def Ol(m:Ev V)(M bf i:U (Ev V)):Ev V:=m.bind λ a=>((wZ M).bind λ b=>(wZ bf).bind λ c=>(wZ i).bind λ e=>.ret (b,c,e)).bind λ p=>(Ev.read a).bind λ a=>(Ev.read p.1).bind λ b=>(Ev.read p.2.1).bind λ c=>(Ev.read p.2.2).bind λ e=>Ev.ofD (jn a b c e)
def ac3(x:bD)(α:H ao)(h:aX)(i:aq)(r:V×V×V)(w:aq×aq×aq×ao):Prop:=
 i=.ref w.2.2.2/\h.IsSliceOf w.2.2.2 w.1 w.2.1 w.2.2.1/\a9 (x.P++α) α h w.1 r.1/\a9 (x.P++α) α h w.2.1 r.2.1/\a9 (x.P++α) α h w.2.2.1 r.2.2
theorem ac4(y:cU g x env n){lo dk st:U aJ}(j:TE g x env ρ (bG value env) m)
  (f:h2 (TE g x env ρ) (Lc lo env) M)(X:h2 (TE g x env ρ) (Lc dk env) bf)(k:h2 (TE g x env ρ) (Lc st env) P):TE g x env ρ (bG (.Subscript value (.Slice lo dk st p) W) env) (Ol m M bf P):=by
 refine L (Oj ..) (ag.cv y j λ v a=>ag.hk y (y.hn v a) (ag.cv y (Gd f) λ l b=>ag.hk y (y.hn l b) (Gd X).holding λ u c=>ag.pre (ag.hk y (F8 (y.hn l b) (y.hn u c)) (Gd k).holding λ t e=>ag.wp λ α σ s I T p Q E G=>ku (G _ _ s.toks (λ z z=>dy _) (L (er ..) (hg _)) ⟨(l,u,t,s.heap.objs.size),rfl,.new ..,p.1.2.1.mono (λ z z e n=>⟨dy _ e,n⟩) eV,p.1.2.2.mono (λ z z e n=>⟨dy _ e,n⟩) eV,p.2.mono (λ z z e n=>⟨dy _ e,n⟩) eV⟩) (by show 3<=kq+2;decide)) (λ z z p=>⟨p.1.1,p.1.2,p.2⟩)).holding λ i r=>ag.standAt (ag.pre (ag.ex (pre:=λ w α h=>a9 _ α h v a/\ac3 x α h i r w) λ w=>?_) (λ z z p=>a7 p.2 λ w h=>⟨w,p.1.2,h⟩)));refine ag.ghost (λ z z p=>p.1) λ D=>ag.ghost (v:=w.1) (λ z z p=>p.1.2.2.2.1) λ N=>ag.ghost (v:=w.2.1) (λ z z p=>p.1.1.2.2.2.2.1) λ C=>ag.ghost (v:=w.2.2.1) (λ z z p=>p.1.1.1.2.2.2.2.2) λ R=>ag.toV ?_;cases F:jn D N C R with|none=>exact .au|some d=>refine ag.wp λ α σ s I T p Q E G=>?_;obtain⟨⟨⟨⟨⟨AI,rfl,q,_⟩,K⟩,eE⟩,dP⟩,Ge⟩:=p;exact Gb (ac1 I q K eE dP Ge F G)
end
theorem Om(K:OldK E h)(c:E.objs.size<=a)(P:∀b o,b≠a->h.get? b=B o->h'.get? b=B o):OldK E h':=by
 have N:∀b o,E.get? b=B o->b≠a:=λ b o e=>il (eo (dI e) c);refine⟨λ b o e=>?_,λ b o e=>a7 (K.there b o e) λ T p=>⟨T,P b _ (N b o e) p⟩⟩;obtain nb:=N b o e;rcases K.old b o e with x|⟨t,A,vs,m,l,x⟩|⟨rfl,A,⟨T,es,n,p,r⟩,z⟩
 ·exact .inl (P _ _ nb x)
 ·exact .inr (.inl ⟨t,A,vs,m,l,P _ _ nb x⟩)
 ·exact .inr (.inr ⟨rfl,A,(e_ T es n ⟨P _ _ nb p,r⟩),λ k=>L (an6 (Y (P _ _ nb p) p.symm) k) (z k)⟩)
theorem Gf(K:OldK E h){Sq:ao->Prop}(c:∀a,Sq a->E.objs.size<=a)(P:∀b o,¬Sq b->h.get? b=B o->h'.get? b=B o):OldK E h':=by
 have N:∀b o,E.get? b=B o->¬Sq b:=λ b o e q=>aS (dI e) (ez.mpr (c b q));refine⟨λ b o e=>?_,λ b o e=>a7 (K.there b o e) λ T p=>⟨T,P b _ (N b o e) p⟩⟩;obtain nb:=N b o e;rcases K.old b o e with x|⟨t,A,vs,m,l,x⟩|⟨rfl,A,⟨T,es,n,p,r⟩,z⟩
 ·exact .inl (P _ _ nb x)
 ·exact .inr (.inl ⟨t,A,vs,m,l,P _ _ nb x⟩)
 ·exact .inr (.inr ⟨rfl,A,(e_ T es n ⟨P _ _ nb p,r⟩),λ k=>L (an6 (Y (P _ _ nb p) p.symm) k) (z k)⟩)
theorem c0.Oo{Sq:ao->Prop}(Q:h.objs.size<=h'.objs.size)(y:∀a,Sq a->a∈X)(k:∀b o,¬Sq b->h.get? b=B o->h'.get? b=B o)
  {as:H ao}{ms:aE}(r:c0 P X α h as ms)(l:∀(i:J)(a:ao),as[i]?=B a->Sq a->ms[i]?=B .cX):c0 P X α h' as ms:=by
 induction r with
 |nil=>exact .nil
 | @cons a as m ms r R I=>
  refine .cons ?_ (I λ i b e q=>l (i+1) b e q);by_cases e:m=.cX
  ·subst e;exact eo r Q
  ·obtain N:=λ q=>e (ak (l 0 a rfl q))
   exact r.mono Q (a7 (r.there e) λ o e=>Y (k _ _ N e) e.symm) (λ b o e n=>⟨k _ _ (λ q=>n (y b q)) e,n⟩) eV
theorem c0.set(Q:h.objs.size<=h'.objs.size)(K:∀b o,h.get? b=B o->b∉X->h'.get? b=B o)(k:∀b o,b≠a->h.get? b=B o->h'.get? b=B o)(p:d2 P X α h' a m)
  {ms:aE}{i:J}(r:c0 P X α h as ms)(N:as.Nodup)(e:as[i]?=B a):c0 P X α h' as (ms.set i m):=by
 have one:∀{b q},b≠a->d2 P X α h b q->d2 P X α h' b q:=λ{b q} nb r=>by
  by_cases E:q=.cX
  ·subst E;exact eo r Q
  ·exact r.mono Q (a7 (r.there E) λ o e=>Y (k _ _ nb e) e.symm) (λ b o e n=>⟨K _ _ e n,n⟩) eV
 have all:∀{as:H ao}{ms:aE},c0 P X α h as ms->(∀c∈as,c≠a)->c0 P X α h' as ms:=λ{as ms} r=>by induction r with|nil=>exact λ u=>.nil|cons r _ I=>exact λ n=>.cons (one (n _ cV) r) (I λ c A=>n c (c7 _ A))
 induction r generalizing i with|nil=>exact nn e|cons r R I=>have N:=Yv.mp N;induction i with|zero=>obtain e:=ak e;exact .cons (L e p) (all R λ c A z=>N.1 (e▸z▸A))|succ i=>exact .cons (one (λ z=>N.1 (z▸eK e)) r) (I N.2 e)
theorem aG.upd(I:aG g x α σ h)(G:cb x.F x.P)(f:α[i]?=B a)(k:∀b o,b≠a->h.get? b=B o->h'.get? b=B o)(s:h.objs.size<=h'.objs.size)
  (w:d2 g.w.params (x.P++α) α h' a m):aG g x α (σ.set i m) h'/\a_ x.F x.W α h α h':=by
 have A:=eK f;have p:=I.c8 a A;refine⟨⟨?_,bA I.big s,I.b2,λ b v=>a7 (I.alive b v) λ o e=>⟨o,k b o (λ z=>p (z▸v)) e⟩,I.dv,I.c8,c0.set s (λ b o e n=>k b o (λ z=>n (L z (aW _ A))) e) k w I.bM I.dv f,λ e y=>(I.fr e y).e λ l o q b c d r=>⟨q,l,o,b,c,k _ _ (λ z=>p (z▸G l c)) d,r⟩,Om I.old (I.b2 a (.inr A)).2 k⟩,⟨s,w0,?_,?_⟩⟩
 ·refine λ b o e=>k b o (λ z=>?_) (I.base b o e)
  subst z;rw[(I.b2 b (.inr A)).1]at e;exact nn e
 ·intro b o e u u n;exact k b o (λ z=>n (L z A)) e
 ·intro b o e u n;exact⟨o.slots,k b o (λ z=>n (L z A)) e⟩
theorem aG.cX(I:aG g x α σ h)(G:cb x.F x.P){Sq:ao->Prop}(y:∀a,Sq a->a∈α)(E:∀(i:J)(a:ao),α[i]?=B a->Sq a->σ[i]?=B .cX)(k:∀b o,¬Sq b->h.get? b=B o->h'.get? b=B o)(P:h.objs.size<=h'.objs.size):
  aG g x α σ h'/\a_ x.F x.W α h α h':=by
 have N:=λ b s q=>I.c8 b (y b q) s;refine⟨⟨?_,bA I.big P,I.b2,λ b s=>a7 (I.alive b s) λ o e=>⟨o,k b o (N b s) e⟩,I.dv,I.c8,I.bM.Oo P (λ a q=>aW _ (y a q)) k E,λ e f=>(I.fr e f).e λ l o q b c d r=>⟨q,l,o,b,c,k _ _ (N l (G l c)) d,r⟩,Gf I.old (λ a q=>(I.b2 a (.inr (y a q))).2) k⟩,⟨P,w0,?_,?_⟩⟩
 ·refine λ b o e=>k b o (λ z=>?_) (I.base b o e)
  rw[(I.b2 b (.inr (y b z))).1]at e;exact nn e
 ·intro b o e u u n;exact k b o (λ z=>n (y b z)) e
 ·intro b o e u n;exact⟨o.slots,k b o (λ z=>n (y b z)) e⟩
theorem aG.Gg(I:aG g x α σ h)(G:cb x.F x.P)(d:α[i]?=B a)(p:d2 g.w.params (x.P++α) α h a m):aG g x α (σ.set i m) h:=
 (I.upd G d (λ u u u e=>e) (bH _) p).1
theorem aG.kill(I:aG g x α σ h)(G:cb x.F x.P)(c:α[i]?=B a):aG g x α (σ.set i .cX) h:=
 I.Gg G c (I.bM.lt _ (eK c))
theorem aG.put(I:aG g x α σ h)(G:cb x.F x.P)(d:α[i]?=B a)(c:hU a h h')(p:(fX h h' (x.P++α) (x.P++α))->d2 g.w.params (x.P++α) α h' a m):aG g x α (σ.set i m) h'/\a_ x.F x.W α h α h':=
 I.upd G d (λ b o q e=>Y (c.2 b q) e) (fV c.1.symm) (p λ b o e n=>⟨Y (c.2 b λ q=>n (L q (aW _ (eK d)))) e,n⟩)
theorem aG.gone(I:aG g x α σ h)(G:cb x.F x.P)(c:α[i]?=B a)(k:∀b o,b≠a->h.get? b=B o->h'.get? b=B o)(s:h.objs.size<=h'.objs.size):aG g x α (σ.set i .cX) h'/\a_ x.F x.W α h α h':=
 I.upd G c k s (eo (I.ny (aW _ (eK c))) s)
theorem aG.new(I:aG g x α σ h)(o:fe)(m:cj)(e:d2 g.w.params (x.P++(α++ [h.objs.size])) (α++ [h.objs.size]) (h.push o) h.objs.size m):
  aG g x (α++ [h.objs.size]) (σ++ [m]) (h.push o)/\a_ x.F x.W α h (α++ [h.objs.size]) (h.push o)/\a9 (x.P++(α++ [h.objs.size])) (α++ [h.objs.size]) (h.push o) (.ref h.objs.size) (.aH (O σ)):=
 ⟨I.grow o m e,.grow _ _,⟨h.objs.size,ax I.bM.length D8,rfl⟩⟩theorem uk{x:bD}{h:aX}(e:h.get? b=B o)(n:b∉x.P++α):b∉x.P++(α++ [h.objs.size]):=by rw[<-eb,bB,rj];exact⟨n,λ q=>aS (dI e) (L (ek.mp q) (hu _))⟩theorem rW{x:bD}{h:aX}(o:fe):∀b T,h.get? b=B T->b∉x.P++α->(h.push o).get? b=B T/\b∉x.P++(α++ [h.objs.size]):=by refine λ b T e n=>⟨dy _ e,?_⟩;rw[<-eb,bB,rj];exact⟨n,λ q=>aS (dI e) (L (ek.mp q) (hu _))⟩noncomputable def rX(m:cj):Ev V:=λ σ=>B (.ok (.aH (O σ)),σ++ [m])
noncomputable def Oq:D->U fu
 |.ae xs=>B (.list xs 0)|.aD xs=>B (.aD xs 0)|.str s=>B (.str s 0)|_=>aa
noncomputable def Ot:fu->aF
 |.zip .. |.enu .. |.rev .. =>S|_=>aj
def Ou(j:J)(m:cj):Ev V:=λ σ=>match m with|.ae _=>rX (.it (.e3 j 0)) σ|.it k=>bR (Ot k) (B (.ok (.aH j),σ))|.hX a b=>bR (zw a b 1) (rX (.it (.ji a (b-a).toNat)) σ)|_=>aa
def g8(v:V):Ev V:=λ σ=>match v with|.d d=>(Oq d).bind λ k=>rX (.it k) σ|.aH j=>(σ[j]? :U cj).bind λ m=>Ou j m σ
theorem AJ(h:(σ[j]? :U cj)=B m):g8 (.aH j) σ=Ou j m σ:=by show(σ[j]?).bind _=_;exact L h rfl
theorem ac5(e:g8 a σ=B (o,af)){G:Prop}(K:∀d k,a=.d d->Oq d=B k->o=.ok (.aH (O σ))->σ++ [.it k]=af->G)(C:∀j k,a=.aH j->σ[j]?=B (.it k)->Ot k=S->o=.ok (.aH j)->σ=af->G)
  (n:∀j xs,a=.aH j->σ[j]?=B (.ae xs)->o=.ok (.aH (O σ))->σ++ [.it (.e3 j 0)]=af->G)(y:∀j b c,a=.aH j->σ[j]?=B (.hX b c)->zw b c 1=S->o=.ok (.aH (O σ))->σ++ [.it (.ji b (c-b).toNat)]=af->G):G:=by
 have z:∀{r:Res V}{g:aE},B _=B _->o=r/\g=af:=λ e=>have p:=bc (ak e);⟨p.1.symm,p.2⟩;induction a with|d d=>exact b3 e λ k h e=>K d k rfl h (z e).1 (z e).2|aH j=>refine b3 e λ m h e=>?_;induction m with|ae xs=>exact n j xs rfl h (z e).1 (z e).2|it k=>exact bN e λ f e=>C j k rfl h f (z e).1 (z e).2|hX b c=>exact bN e λ f e=>y j b c rfl h f (z e).1 (z e).2|_=>exact nn e
theorem Ov(a b:ah):an7 a b 1=((b-a).toNat:ah):=by unfold an7;simp;split<;>lia
theorem AK(w:∀α h,pre α h->a9 (x.P++α) α h v a):ag g x pre (dA x) (tw v) (g8 a):=by
 intro α σ s C af I G p e Q E K he;obtain r:=w _ _ p;have m:∀(o:fe) k,d2 g.w.params _ _ _ s.heap.objs.size _->C=.ok _->σ++ [.it k]=af->Q _ _:=λ o k q f es=>
  have z:=I.new o _ q
  K _ _ _ s.toks _ f z.2.1 (ax es z.1) G z.2.2
 refine ac5 e (λ d k y T f es=>?_) (λ j k X V D f es=>?_) (λ j xs X V f es=>?_) λ j b c X V D f es=>?_
 ·rw[y]at r
  obtain r:=(r).inv;rcases d with _|_|_|_|z|_|_|_|xs|xs|⟨_,_⟩;case ae=>obtain⟨l,vs,ev,N,R,A⟩:=r;rw[ev];exact Ed R.isList (m _ (.list xs 0) (a7 R λ n e=>(bh l vs ⟨⟨_,d0 _ rfl,rfl,rfl⟩,uk e N,⟨n,dy _ e⟩,A.mono (rW _)⟩)) f (ak T▸es))
  case aD=>obtain⟨l,vs,ev,N,R,A⟩:=r;rw[ev];exact YU R.iV (m _ (.aD xs 0) (a7 R λ n e=>(bh l vs ⟨⟨_,d0 _ rfl,rfl,rfl⟩,uk e N,⟨n,dy _ e⟩,A.mono (rW _)⟩)) f (ak T▸es))
  case str=>exact a7 r λ t ev=>L ev (dO _ (λ P=>wpAny_pyIter_ascii P (m _ (.str z 0) ⟨t,.inl ⟨_,d0 _ rfl,rfl,rfl⟩⟩ f (ak T▸es))) λ P=>wpAny_pyIter_wide P (m _ (.str z 0) ⟨t,.inr ⟨_,d0 _ rfl,rfl,rfl⟩⟩ f (ak T▸es)))
  all_goals exact nn T
 ·rw[X]at r
  refine av r λ a P ev=>?_;obtain M:=I.look P V;have F:=K _ _ _ s.toks _ f (.refl ..) (ax es I) G ⟨a,P,rfl⟩;refine L ev ?_;rcases k with⟨_,_⟩|⟨_,_⟩|⟨_,_⟩|⟨_,_⟩|⟨_,_⟩|⟨xs,k⟩|⟨i,k⟩|⟨js,t⟩;case zip=>exact rS M λ TI TO bs u u u W u=>wpAny_pyIter_zip W F
  case enu=>exact eM M λ b old u W=>wpAny_pyIter_enum W F
  case rev=>exact eM M λ l vs W u=>an8 W F
  all_goals exact bw D
 ·rw[X]at r
  obtain⟨a,P,ev⟩:=r;exact av (I.look P V) λ vs R A=>L ev (Ed R.isList (m _ (.e3 j 0) ⟨a,get_append P,⟨_,d0 _ rfl,rfl,rfl⟩⟩ f es))
 ·rw[X]at r
  exact av r λ a P ev=>(me (I.look P V) λ t u v d1=>(L ev (wpAny_pyIter_range d1 D (L (Ov ..) (m {cls:=.type "range_iterator",data:=.fields #[gy b,gy _,gy 1] } (.ji b (c-b).toNat) (d0 _ rfl) f es)))))
theorem ac6{j:J}(I:aG g x α σ s.heap)(f:α[j]?=B a)(n:σ[j]?=B (.it k))(h:Q (.ref a) s):
  aO (a5 g.prog g.w) A (tw (.ref a)) Q E s:=by
 obtain m:=I.look f n;induction k with
 |list xs i=>exact eM m λ l vs d u=>an9 d h|e3 j i=>exact av m λ l u d=>an9 d h|aD xs i=>exact eM m λ l vs d u=>wpAny_pyIter_tupleiter d h
 |str z i=>
  obtain⟨t,d|d⟩:=m
  ·exact wpAny_pyIter_striter_ascii d h
  ·exact wpAny_pyIter_striter_wide d h
 |ji b c=>exact wpAny_pyIter_rangeiter m h|rev xs k=>exact eM m λ l vs d u=>an8 d h|enu i k=>exact eM m λ b P u d=>wpAny_pyIter_enum d h|zip js t=>exact rS m λ V K bs u u u d u=>wpAny_pyIter_zip d h
noncomputable def ownsTuple(n:b1):Bool:=["enumerate","zip","dict_itemiterator","dict_reverseitemiterator","odict_iterator","itertools.zip_longest","itertools.pairwise"].contains n
theorem Ow(t:aJ)(i:s.heap.get? r=B o)(C:o.cls=.type ty)
  (V:ownsTuple ty=aj)(h:Q () s):aO M A (Ld t (.ref r) v) Q E s:=by
 have k:aO M A (match((hP r,v):aq×aq)with
   |(.ref r,.ref a)=>(do
    let o<-load r
    match o.cls,o.data with
    |.type n,.fields vs=>
     if ["enumerate","zip","dict_itemiterator","dict_reverseitemiterator","odict_iterator","itertools.zip_longest","itertools.pairwise"].contains n&&vs[0]?==B (gy a)then
      rule "for.unpacks-the-owned-tuple"
      updateField r 0 .none
    |_,_=>pure ():bj gL)
   |_=>(pure ():bj gL)) Q E s:=by
  induction v with
  |ref a=>
   refine aB (wpAny_load i (L C ?_));cases l:o.data with
   |fields vs=>have b:(["enumerate","zip","dict_itemiterator","dict_reverseitemiterator","odict_iterator","itertools.zip_longest","itertools.pairwise"].contains ty)=false:=V;exact((L b (bl h)):aO M A (if (["enumerate","zip","dict_itemiterator","dict_reverseitemiterator","odict_iterator","itertools.zip_longest","itertools.pairwise"].contains ty&&vs[0]?==B _)=S then _ else _) Q E s)|_=>exact bl h
  |_=>exact bl h
 rcases t with _|_<;>first|exact bl h|exact k
noncomputable def stepK:fu->U (U (D×fu))
 |.list xs i=>B ((xs[i]?).map λ d=>(d,.list xs (i+1)))|.aD xs i=>B ((xs[i]?).map λ d=>(d,.aD xs (i+1)))|.str s i=>B ((s.cps[i]?).map λ c=>(.str ⟨#[c]⟩,.str s (i+1)))
 |.ji a n=>match n with
  |0=>B aa|m+1=>B (B (.int a,.ji (a+1) m))
 |.rev xs k=>match k with
  |0=>B aa|m+1=>B ((xs[m]?).map λ d=>(d,.rev xs m))
 |_=>aa
theorem w1{a:ao}(r:bT X h vs xs){i:J} :(xs[i]?=aa->vs.toArray[i]?=aa):=by intro e;rw[ra,Ec];exact an1 r.length ((Ec).mp e)
theorem AL{A Bq:Type}{o:U A}{f:A->Bq}{p:Bq}(e:B (o.map f)=B (B p)){G:Prop}(k:∀a,o=B a->f a=p->G):G:=by
 rcases o with _|a
 ·exact nn (ak e)
 ·exact k a rfl (ak (ak e))
theorem Ox(G:a∈X)(r:iz X α s.heap a k)(e:stepK k=B (B (d,I)))
  (h:∀v h' t,hU a s.heap h'->iz X α h' a I->(∀Yq,(cb Yq X)->aV Yq h' v d)->aV X h' v d->Q (B v) {s with heap:=h',toks:=t}):aO (a5 prog w) A (m8 (.ref a)) Q E s:=by
 have K:∀{h'},hU a s.heap h'->fX s.heap h' X X:=λ f b o e n=>⟨Y (f.2 b (λ z=>n (L z G))) e,n⟩;have sub:∀{h' v d},aV X h' v d->∀Yq,(cb Yq X)->aV Yq h' v d:=λ r Yq M=>r.mono λ b o e n=>⟨e,λ z=>n (M b z)⟩;induction k with
 |list xs i=>refine eg r λ l vs y g x P=>AL e λ D F e=>?_;obtain⟨rfl,rfl⟩:=bc e;refine av (P.get F) λ v T W=>YV y x.isList (ra.trans T) λ h' V f=>?_;have R:=W.mono (K f);exact x.elim λ n j=>h v h' s.toks f (bh l vs ⟨V,g,⟨n,(K f _ _ j g).1⟩,P.mono (K f)⟩) (sub R) R|aD xs i=>refine eg r λ l vs y g x P=>AL e λ D F e=>?_;obtain⟨rfl,rfl⟩:=bc e;refine av (P.get F) λ v T W=>an_ y x.iV (ra.trans T) λ h' V f=>?_;have R:=W.mono (K f);exact x.elim λ n j=>h v h' s.toks f (bh l vs ⟨V,g,⟨n,(K f _ _ j g).1⟩,P.mono (K f)⟩) (sub R) R|str z i=>refine AL e λ c F e=>?_;obtain⟨rfl,rfl⟩:=bc e;exact r.elim λ t C=>C.elim (λ C=>wpAny_pyNext_ascii_item C F λ h' V f=>h _ h' _ f ⟨t,.inl V⟩ (λ u u=>.str _ _) (.str _ _)) λ C=>wpAny_pyNext_wide_item C F λ h' V f=>h _ h' _ f ⟨t,.inr V⟩ (λ u u=>.str _ _) (.str _ _)
 |ji b n=>
  rcases n with _|m
  ·exact nn (ak e)
  ·obtain⟨rfl,rfl⟩:=bc (ak (ak e))
   refine wpAny_pyNext_range_item r (by lia) λ h' V f=>h _ h' _ f ?_ (λ u u=>.int _ _) (.int _ _);rw[(show(((m+1:J):ah)- 1)=m by lia)]at V;exact V
 |rev xs k=>
  rcases k with _|m;case zero=>exact nn (ak e)
  case succ=>refine la r λ l vs y N g x P=>AL e λ D F e=>?_;obtain⟨rfl,rfl⟩:=bc e;refine av (P.get F) λ v T W=>?_;rw[(show(((m+1:J):ah)- 1)=m by lia)]at y;refine wpAny_pyNext_rev_item y x.isList (ra.trans T) λ h' V f=>?_;have R:=W.mono (K f);exact x.elim λ n j=>h v h' s.toks f (bh l vs ⟨V,jN N,g,⟨n,(K f _ _ j g).1⟩,P.mono (K f)⟩) (sub R) R
 |_=>exact nn e
theorem ac7(f:A.handled=aa)(r:iz X α s.heap a k)(e:stepK k=B aa)
  (h:∀h' t,pM a s.heap h'->Q aa {s with heap:=h',toks:=t}):aO (a5 prog w) A (m8 (.ref a)) Q E s:=by
 induction k with
 |list xs i=>refine eg r λ l vs u g x R=>YW f u x.isList (w1 (a:=a) R (v7.mp (ak e))) λ h'=>h h' s.toks|aD xs i=>refine eg r λ l vs u g x R=>wpAny_pyNext_tuple_end f u x.iV (w1 (a:=a) R (v7.mp (ak e))) λ h'=>h h' s.toks|str z i=>have F:=v7.mp (ak e);exact r.elim λ t d=>d.elim (λ d=>wpAny_pyNext_ascii_end f d F λ h' c=>h h' s.toks c) λ d=>wpAny_pyNext_wide_end f d F λ h' c=>h h' s.toks c
 |ji b n=>
  induction n with
  |zero=>exact wpAny_pyNext_range_end f r (Int.ofNat_zero_le _) λ h'=>h h' s.toks|succ m=>exact nn (ak e).symm
 |rev xs k=>
  induction k with
  |zero=>exact la r λ l vs u o g x R=>(wpAny_pyNext_rev_end f u λ h' c=>h h' s.toks c)|succ m=>exact la r λ l vs u o g x R=>aS o (ez.mpr (Ec.mp (v7.mp (ak e))))
 |_=>exact nn e
theorem Oy(h:aO M A (m8 v) (λ r s'=>∃x,r=B x/\P x s') (λ u u=>False) s):
  aO M A (tx v) P E s:=λ z p q=>by
 obtain h:=h z p q;dsimp only[m8]at h;unfold tx;rw[Sem.wp_bind']at h ⊢;rw[Sem.wp_attempt]at h;refine Sem.wp_mono M z _ (λ r V s' Q=>?_) (λ e V s' c=>?_) p s h
 ·induction r with|none=>exact aS Q (by trivial)|some x=>exact av Q λ y e d=>L (ak e) d
 ·replace he:=c
  refine(ac8 M z _ V s' (Sem.wp_mono M z _ (λ b p s h=>?_) (λ u u u h=>h) V s' ((Sem.wp_bind' ..).mp c))).elim;induction b with|true=>exact av h λ y e u=>(nn e)|false=>exact h
noncomputable def inner:fu->aF
 |.list .. |.aD .. |.str .. =>S|_=>aj
section
variable {prog:KZ}{w:dg}{A:m7}{X α:H ao}{s:aU}{E:aq->aU->Prop}{a:ao}
theorem ac9(T:a∈X)(r:iz X α s.heap a k)(e:stepK k=B (B (d,cH)))
  (h:∀v h' t,hU a s.heap h'->iz X α h' a cH->aV X h' v d->Q v {s with heap:=h',toks:=t}):aO (a5 prog w) A (tx (.ref a)) Q E s:=
 Oy (Ox T r e λ v h' t b R u V=>⟨v,rfl,h v h' t b R V⟩)
theorem Oz(f:A.handled=aa)(h:s.heap.IsTupleIter it t i)(p:s.heap.IsTuple t I)(K:I[i]?=aa)
  (y:∀h' e,pM it s.heap h'->(∃o,h'.get? e=B o/\o.cls=.type "StopIteration")->E (.ref e) {s with heap:=h'}):aO (a5 prog w) A (tx (.ref it)) Q E s:=by
 refine gF (id h) λ o j C l=>?_;obtain⟨k,u,_,n,v⟩:=p;refine aB (YX h.typeIs aoa
  (zx aoa h.typeIs F.entry_tuple_iterator_next ?_ (F.args_tuple_iterator_next_1 _)))
 refine((aB (ot j l (x:=.ref t) rfl ?_)):aO _ _ (field _ 0>>=_) _ _ s);refine aB (ot j l rfl ?_);refine aB (Ee u v ?_);simp[aob,K];refine aB (tq (aB (wpAny_setField j l (aoc rfl) (aB (aB (m:=firstArgMember _ _) (wpAny_of_eq (a:=jM) rfl (ku (aB (wpAny_handled ?_)) (by size_fits))))))));first|rw[f]|rw[f]
 exact λ c P b=>y _ _ (((tA ..).extBut.push _).push _) ⟨_,d0 _ rfl,rfl⟩
theorem ac_(f:A.handled=aa)(u:inner k=S)(r:iz X α s.heap a k)(e:stepK k=B aa)
  (h:∀h' e,pM a s.heap h'->(∃o,h'.get? e=B o/\o.cls=.type "StopIteration")->E (.ref e) {s with heap:=h'}):aO (a5 prog w) A (tx (.ref a)) Q E s:=by
 induction k with|list xs i=>refine eg r λ l vs u b x R=>wpAny_nextOf_list_end f u x.isList (w1 (a:=a) R (v7.mp (ak e))) h|aD xs i=>refine eg r λ l vs u b x R=>Oz f u x.iV (w1 (a:=a) R (v7.mp (ak e))) h|str z i=>have F:=v7.mp (ak e);exact r.elim λ t d=>d.elim (λ d=>wpAny_nextOf_ascii_end f d F h) λ d=>wpAny_nextOf_wide_end f d F h|_=>exact bw u
theorem OA(T:a∈X)(r:iz X α s.heap a k)(e:stepK k=B (B (d,cH)))
  (h:∀v h' t,hU a s.heap h'->s.toks<=t->iz X α h' a cH->aV X h' v d->Q (B v) {s with heap:=h',toks:=t}):aO (a5 prog w) A (m8 (.ref a)) Q E s:=
 g4 (Ox T r e λ v h' t a b u c g=>h v h' t a g.toks b c)
theorem ada(T:a∈X)(r:iz X α s.heap a k)(e:stepK k=B (B (d,cH)))
  (h:∀v h' t,hU a s.heap h'->s.toks<=t->iz X α h' a cH->aV X h' v d->Q v {s with heap:=h',toks:=t}):aO (a5 prog w) A (tx (.ref a)) Q E s:=
 g4 (ac9 T r e λ v h' t a b c g=>h v h' t a g.toks b c)
theorem OB(f:A.handled=aa)(r:iz X α s.heap a k)(e:stepK k=B aa)
  (h:∀h' t,pM a s.heap h'->s.toks<=t->s.heap.objs.size<=h'.objs.size->Q aa {s with heap:=h',toks:=t}):aO (a5 prog w) A (m8 (.ref a)) Q E s:=
 g4 (ac7 f r e λ h' t a g=>h h' t a g.toks g.size)
theorem adb(f:A.handled=aa)(t:inner k=S)(r:iz X α s.heap a k)(e:stepK k=B aa)
  (h:∀h' e,pM a s.heap h'->s.heap.objs.size<=h'.objs.size->(∃o,h'.get? e=B o/\o.cls=.type "StopIteration")->E (.ref e) {s with heap:=h'}):aO (a5 prog w) A (tx (.ref a)) Q E s:=
 g4 (ac_ f t r e λ h' e a b g=>h h' e a g.size b)
end
noncomputable def w2{A:Type}(m:U cj)(f:fu->U A):U A:=m.bind λ m=>match m with|.it k=>f k|_=>aa
theorem AM{A:Type}{f:fu->U A}{r:A}(e:w2 m f=B r){G:Prop}(k:∀i,m=B (.it i)->f i=B r->G):G:=
 b3 e λ m h e=>by induction m with|it i=>exact k i h e|_=>exact nn e
theorem jY{A:Type}{f:fu->U A}(h:m=B (.it i)):w2 m f=f i:=L h rfl
noncomputable def ade(j:J)(σ:aE)(R:aE->U (U (H D)×aE))(q:U (D×fu)):U (U (H D)×aE):=match q with|none=>B (aa,σ.set j .cX)|some p=>(R (σ.set j (.it p.2))).map λ r=>(r.1.map (p.1:: ·),r.2)def h3(js:H J):aE->U (U (H D)×aE):=js.rec (λ σ=>B (B [],σ)) λ j u I σ=>w2 σ[j]? λ k=>bR (inner k) ((stepK k).bind (ade j σ I))
theorem Gh(e:h3 (j::js) σ=B (r,af)){G:Prop}(u:∀k,σ[j]?=B (.it k)->inner k=S->stepK k=B aa->r=aa->σ.set j .cX=af->G)
  (C:∀k d K R,σ[j]?=B (.it k)->inner k=S->stepK k=B (B (d,K))->h3 js (σ.set j (.it K))=B (R,af)->R.map (d:: ·)=r->G):G:=
 AM e λ k h e=>bN e λ s e=>b3 e λ q b e=>match q,b,e with|none,b,e=>have p:=bc (ak e);u k h s b p.1.symm p.2|some (d,K),b,e=>gE e λ R E v=>have p:=bc v;C k d K R.1 h s b (Y E (aM (λ t=>B (R.1,t)) p.2)) p.1
theorem OC:∀{js:H J}{σ af:aE}{r:U (H D)},h3 js σ=B (r,af)->O af=O σ
 |[],_,_,_,e=>(bc (ak e)).2▸rfl|_::_,_,_,_,e=>Gh e (λ u u u u u E=>E▸zy) λ u u u u u u u e u=>Y (OC e) zy
theorem set_same{A:Type}{l:H A}{a:A}(h:l[i]?=B a):l.set i a=l:=by refine a7 (jL.mp h) λ s w=>?_;exact ax w (List.set_getElem_self s)
section
variable {g:bX}{x:bD}{α:H ao}{β:Type}noncomputable def adf(t:ao)(k:J)(v:aq):bj (pH (U PySem.Fin×gL)):=seqItems? (.ref t)>>=λ r=>match r with|some K=>YY t (λ xs=>xs.setIfInBounds k v)>>=λ u=>letGo [K.getD k .none]>>=λ u=>pure (.yield (aa,()))|none=>(DP "internal:zip.__next__" :bj gL)>>=λ u=>pure (.yield (aa,()))
structure OD(g:bX)(x:bD)(α:H ao)(z TI TO:ao)(mv t n:J)(σ:aE)(h:aX)(vs done:H aq)(ds:H D):Prop where
 I:aG g x α σ h
 fy:zq h z TI TO .ellipsis
 jo:h.get? TO=B {cls:=.type "tuple",data:=.seq vs.toArray}
 cD:bT (x.P++α) h done ds
 OE:σ[t]?=B (.gD n)
 AN:σ[mv]?=B .cX
theorem adg(api:g.prog=prog)(hw:g.w=w)(fq:A.handled=aa)(iC:cb x.F x.P){nn:J}
  (hf:∀it k st (Q:pH (U PySem.Fin×gL)->aU->Prop)(E:aq->aU->Prop)(s:aU),aO (a5 prog w) A (tx it) (λ v s1=>aO (a5 prog w) A (adf I k v) Q E s1) (λ e s1=>aO (a5 prog w) A (setField (.ref z) 0 .none) (λ u s2=>E e s2) E s1) s->aO (a5 prog w) A (f (it,k) st) Q E s)
  (fZ:α[t]?=B I)(V:α[mv]?=B z)(htz:I≠z)(da:nn<=1000):
  ∀(js:H J)(bs:H ao)(σ af:aE)(s:aU)(done K:H aq)(P:H D)(r:U (H D)),(js.map λ j=>α[j]?)=bs.map B->1<=s.toks->OD g x α z TI I mv t nn σ s.heap (done++K) done P->
   O K=O js->O (done++K)=nn->h3 js σ=B (r,af)->
   (∀h' F vs ds,r=B ds->a_ x.F x.W α s.heap α h'->OD g x α z TI I mv t nn af h' (done++vs) (done++vs) (P++ds)->O vs=O js->1<=F->Q (aa,()) (cT s h' F))->
   (∀h' F e,r=aa->a_ x.F x.W α s.heap α h'->aG g x α af h'->(∃o,h'.get? e=B o/\o.cls=.type "StopIteration")->1<=F->E (.ref e) (cT s h' F))->
   aO (a5 prog w) A (forIn ((bs.map hP).zipIdx (O done)) (aa,()) f) Q E s
 :=by
  intro js;induction js with
  |nil=>
   intro bs σ af s done K P r N F y cL p e dp he;induction bs with
   |cons=>exact nomatch N
   |nil=>have e:=bc (ak e);have:=zr cL;exact bl (dp s.heap s.toks [] [] e.1.symm (.refl ..) (by rw[this]at y;rw[ea]at y;rw[ea,ea];exact ax e.2 y) rfl F)
  |cons j js w3=>
   intro bs σ af s done K P r N F y cL p e dp he;induction bs with
   |nil=>exact nomatch N
   |cons b bs=>
   obtain N:=kn N;have h:=N.1;induction K with
   |nil=>exact nomatch cL
   |cons o K=>
   obtain bm:=aW _ (eK h);have sep:∀{i:J}{c:ao}{m:cj}{k:fu},σ[j]?=B _->σ[i]?=B m->m≠ .it k->α[i]?=B c->j≠i/\c≠b:=λ{i c m k} c5 cw cZ fw=>
    have q:j≠i:=λ q=>cZ (ak (Y cw.symm (q▸c5)))
    ⟨q,λ OF=>q ((Ef (jL.mp h).1 y.I.dv).mp (Y h (ax OF fw.symm)))⟩
   rw[lY,List.zipIdx_cons,kZ];refine Gh e (λ k em dk es jZ w4=>?_) λ k d cH p8 em dk es e jZ=>?_
   ·refine av (y.I.bM.get h) λ m Gi nC=>?_
    rw[<-ak (Y em.symm Gi)]at nC;have iY:=sep em y.AN (λ q=>nomatch q) V;refine aB (hf _ _ _ _ _ _ (adb fq dk nC es λ h' ex hj w5 hex=>?_));have AO:=hj _ _ iY.2 y.fy;obtain hD:=y.I.upd iC h (m:=.cX) hj w5 (eo (y.I.ny bm) w5);refine Le AO (aoc rfl) λ cw w6 X=>?_;have X:hU z h' cw:=X;have OG:=fV X.1.symm;obtain G:=hD.1.upd iC V (m:=.cX) (λ b o q=>(X.2 b q).trans) OG (eo (hD.1.ny (aW _ (eK V))) OG);rw[set_same (show(σ.set j .cX)[mv]?=B .cX by rw[Eg iY.1];exact y.AN),w4]at G;refine av hex λ AP Gj w7=>?_;have hez:ex≠z:=λ q=>by rw[q,AO]at Gj;rw[<-ak Gj]at w7;injection w7 with q;exact aS q (by decide)
    exact he cw s.toks ex jZ (hD.2.trans G.2) G.1 ⟨AP,Y (X.2 _ hez) Gj,w7⟩ F
   ·refine av (y.I.bM.get h) λ m Gi nC=>?_
    simp[<-ak (Y em.symm Gi)]at nC;obtain iY:=sep em y.AN (λ q=>nomatch q) V;obtain st:=sep em y.OE (λ q=>nomatch q) fZ;refine aB (hf _ _ _ _ _ _ (ada bm nC es λ v c5 w8 dd OH mr' g9=>?_));have W:∀R o,R≠b->s.heap.get? R=B o->c5.get? R=B o:=λ R o q=>Y (dd.2 R q);have hD:=y.I.upd iC h (m:=.it cH) W (fV dd.1.symm) mr';have Gk:=W _ _ st.2 y.jo;have lim:(done++o::K).toArray.size<=sizeLine:=L hT (L p (bA da (by decide)));refine aB (Ee Gk rfl (aB (YZ Gk rfl (aB (wpAny_letGo (bl ?_))) lim (L Array.size_setIfInBounds (ip lim)))));obtain us:=tA ..;have Gl:(c5.update I (zz λ xs=>xs.setIfInBounds (O done) v)).get? I=B {cls:=.type "tuple",data:=.seq ((done++ [v])++K).toArray} :=by refine Y (Eh _ Gk rfl) ?_;simp[zz]
    generalize (c5.update I _)=cw at us Gl;have C:∀R o,R≠I->c5.get? R=B o->cw.get? R=B o:=λ R o q=>Y (us.2 R q);have M:O ((done++ [v])++K)=nn:=by rw[<-p];simp
    have G:=hD.1.upd iC fZ (m:=.gD nn) C (fV us.1.symm) ⟨_,M,Gl⟩;have um:(σ.set j (.it cH))[t]?=B _:=L (Eg st.1) y.OE;rw[set_same um]at G;refine L (show O done+1=(done++ [v]).length by rw[e2];rfl) ?_;obtain ap:∀{A:Type} l a (m:H A),l++a::m=(l++ [a])++m:=λ l a m=>L (eb ..) rfl;exact w3 bs _ af (cT s cw w8) _ K _ p8 N.2 (bA F OH) ⟨G.1,C _ _ (rd htz) (W _ _ iY.2 y.fy),Gl,(y.cD.mono (λ R o e n=>⟨C _ _ (λ q=>n (q▸aW _ (eK fZ))) (W _ _ (λ q=>n (q▸bm)) e),n⟩)).append (.cons (g9.mono λ R o e n=>⟨C _ _ (λ q=>n (q▸aW _ (eK fZ))) e,n⟩) .nil),um,L (Eg iY.1) y.AN⟩ (zm cL) M e (λ h' j0 vs ds d1 s3 adh OI T=>dp h' j0 (v::vs) (d::ds) (ax jZ (L (d1 ..) rfl)) ((hD.2.trans G.2).trans s3) (L (ap done v vs) (L (ap P d ds) adh)) (aM i9 OI) T) λ h' j0 ex d1 s3 eX hex T=>he h' j0 ex (ax (jZ ..) (L d1 rfl)) ((hD.2.trans G.2).trans s3) eX hex T
end
noncomputable def Gm{A:Type}(m:U cj)(f:J->U A):U A:=m.bind λ m=>match m with|.gD n=>f n|_=>aa
theorem adi{A:Type}{f:J->U A}{r:A}(e:Gm m f=B r){G:Prop}(k:∀n,m=B (.gD n)->f n=B r->G):G:=
 b3 e λ m h e=>by induction m with|gD n=>exact k n h e|_=>exact nn e
theorem OJ{A:Type}{f:J->U A}(h:m=B (.gD n)):Gm m f=f n:=L h rfl
noncomputable def Gn(j:J)(js:H J)(t:J)(p:U (H D)×aE):U D×aE:=match p.1 with|some ds=>(B (.aD ds),p.2.set j (.it (.zip js t)))|none=>(aa,p.2)def AQ(j:J)(js:H J)(t:J)(σ:aE):U (U D×aE):=bR (!js.isEmpty&&aZ (O js) 1000) (Gm σ[t]? λ n=>bR (n==O js) ((h3 js (σ.set j .cX)).map (Gn j js t)))
theorem OK(e:AQ j js t σ=B r){G:Prop}(h:∀p,js≠ []->O js<=1000->σ[t]?=B (.gD (O js))->h3 js (σ.set j .cX)=B p->Gn j js t p=r->G):G:=
 bN e λ W e=>adi e λ n k e=>bN e λ v e=>gE e λ p I e=>h p (λ q=>by rw[q]at W;exact bw (bo W).1) (b8 (bo W).2) (ax (eq_of_beq v) k) I e
theorem AR{X:Type}{t u:bj X}{Q:X->aU->Prop}(e:t=u)(h:aO M A u Q E s):aO M A t Q E s:=L e h
theorem adj(fq:A.handled=aa)(iC:cb x.F x.P)(h4:cb x.W x.P){bs:H ao}{Q:aq->aU->Prop}
  (fZ:α[t]?=B M)(R:α[mv]?=B z)(X:mv≠t)(AS:js≠ [])(da:O js<=1000)(cv:(js.map λ j=>α[j]?)=bs.map B)(I:aG g x α σ s.heap)(D:1<=s.toks)
  (C:zq s.heap z W M .none)(F:s.heap.get? W=B {cls:=.type "tuple",data:=.seq (bs.map hP).toArray})(N:W∉x.P++α)(G:σ[t]?=B (.gD (O js)))(e:h3 js (σ.set mv .cX)=B (r,af))
  (dp:∀h' D vs ds T,r=B ds->a_ x.F x.W α s.heap α h'->aG g x α af h'->af[mv]?=B .cX->zq h' z W M (gy (T:J))->T∉x.P++α->h'.get? W=B {cls:=.type "tuple",data:=.seq (bs.map hP).toArray} ->h'.get? T=B {cls:=.type "tuple",data:=.seq vs.toArray} ->bT (x.P++α) h' vs ds->1<=D->Q (.ref T) (cT s h' D))
  (he:∀h' D e,r=aa->a_ x.F x.W α s.heap α h'->aG g x α af h'->(∃o,h'.get? e=B o/\o.cls=.type "StopIteration")->1<=D->E (.ref e) (cT s h' D)):
  aO (a5 g.prog g.w) A (Builtin.«zip.__next__» ⟨[.ref z],[]⟩) (λ fin s'=>∃v,fin=.done (.ret v)/\Q v s') E s:=by
 obtain hbl:=by have:=aM O cv;simpa using this.symm
 obtain TOz:M≠z:=λ q=>X ((Ef (jL.mp R).1 I.dv).mp (Y R (ax q fZ.symm)));refine av (I.look fZ G) λ vs0 AU hTO=>?_;have OL:z∈x.P++α:=aW _ (eK R);refine((aB (ot C rfl (x:=.bool aj) rfl ?_)):aO _ _ (field _ 2>>=_) _ _ _);refine aB (ot C rfl (x:=.ref W) rfl ?_);refine aB (Ee F rfl ?_);have ne:(bs.map hP).toArray.isEmpty=false:=by
  induction bs with
  |nil=>cases js with|nil=>exact aS rfl AS|cons=>simp at hbl
  |cons=>simp
 dsimp only;refine L ne (aB (aB (ot C rfl (x:=.none) rfl (bl (aB (tq (aB (ot C rfl (x:=.ref M) rfl (aB (Le C (by simp) λ a d w=>?_))))))))));have K:∀b o,b≠z->s.heap.get? b=B o->a.get? b=B o:=λ b o q=>Y (w.2 b q);refine cq (I.gone iC R K (fV w.1.symm)) λ hD OM=>?_;obtain TIz:W≠z:=λ q=>N (L q OL);obtain jz1:(σ.set mv .cX)[mv]?=B .cX:=by exact(Y0 (ax I.bM.length (oR R)))
 refine aB (adg rfl rfl fq iC ?_ fZ R TOz da js bs _ af {s with heap:=a} [] vs0 [] r cv D ⟨hD,d,K _ _ TOz hTO,.nil,(L (Eg X) G),jz1⟩ AU (by simpa using AU) e ?_ (λ l i ex d1 st=>he l i ex d1 (OM.trans st)))
 ·refine λ it k st Q E s h=>aB (Y1 (aB (hS h (λ v s1 c5=>bl (AR ?_ c5)) λ u u h=>h)))
  show(seqItems? _>>=_)=_;congr 1;funext r;cases r
  ·rfl
  ·dsimp only
 ·intro l i vs ds d1 st ⟨eF,w6,hT2,cD,jt2,ON⟩ OI adk
  refine aB (Ee hT2 rfl (aB (wpAny_newTuple (aB ?_) (by show vs.length<=kq;rw[vW];lia))));obtain OO:∀b o,l.get? b=B o->(l.push {cls:=.type "tuple",data:=.seq vs.toArray}).get? b=B o:=λ u u=>dy _;refine aB (Le (OO _ _ w6) (by simp) λ OP m p=>Le m (by simp) λ Gp P f=>?_);obtain p:hU z (l.push {cls:=.type "tuple",data:=.seq vs.toArray}) OP:=p;obtain f:hU z OP Gp:=f;have up:∀c o,c≠z->l.get? c=B o->Gp.get? c=B o:=λ c o gG e=>(f.2 c gG).trans ((p.2 c gG).trans (OO _ _ e));have OQ:=hM (dI w6);obtain⟨lj,uo⟩:=eF.gone iC R up (by simp only[f.1,p.1,(er ..)];lia);rw[set_same ON]at lj;obtain Gq:=by exact st.same _ _ (K _ _ TIz F) (λ q=>N (bL _ (iC _ q))) (λ q=>N (bL _ (h4 _ q))) (λ q=>N (aW _ q))
  refine bl ⟨_,rfl,dp Gp i vs ds l.objs.size d1 ((OM.trans st).trans uo) lj ON P eF.fresh (up _ _ TIz Gq) ((f.2 _ OQ).trans ((p.2 _ OQ).trans (d0 _ rfl))) (cD.mono λ c o e n=>⟨up c o (λ q=>n (L q OL)) e,n⟩) adk⟩def nD(j i k:J)(σ:aE)(xs:H D):U (U D×aE):=match xs[k]? with|some d=>B (B (.aD [.int k,d]),(σ.set i (.it (.aD xs (k+1)))).set j (.it (.enu i (k+1))))|none=>bR (k==O xs) (B (aa,(σ.set i .cX).set j .cX))noncomputable def tupK{A:Type}(k:fu)(f:H D->J->U A):U A:=match k with|.aD xs q=>f xs q|_=>aa
def Gr(j i k:J)(σ:aE):U (U D×aE):=w2 σ[i]? λ q=>tupK q λ xs q=>bR (q==k) (nD j i k σ xs)noncomputable def AV(j l i:J)(σ:aE)(o:U D):U D×aE:=match o with|some d=>(B d,σ.set j (.it (.e3 l (i+1))))|none=>(aa,σ.set j .cX)noncomputable def uq(j:J)(σ:aE)(q:U (D×fu)):U D×aE:=match q with|some p=>(B p.1,σ.set j (.it p.2))|none=>(aa,σ.set j .cX)def nextK(j:J)(k:fu)(σ:aE):U (U D×aE):=match k with|.zip js t=>AQ j js t σ|.enu i n=>Gr j i n σ|.e3 l i=>jU σ[l]? λ xs=>B (AV j l i σ xs[i]?)|k=>(stepK k).map (uq j σ)def gH(j:J)(σ:aE):U (U D×aE):=w2 σ[j]? λ k=>nextK j k σ
theorem Gs(e:gH j σ=B r){G:Prop}(z:∀js t,σ[j]?=B (.it (.zip js t))->AQ j js t σ=B r->G)(E:∀i n,σ[j]?=B (.it (.enu i n))->Gr j i n σ=B r->G)
  (li:∀l i xs,σ[j]?=B (.it (.e3 l i))->σ[l]?=B (.ae xs)->AV j l i σ xs[i]?=r->G)(p:∀k q,σ[j]?=B (.it k)->stepK k=B q->uq j σ q=r->(∀m,nextK j k m=(stepK k).map (uq j m))->G):G:=
 have f:=λ k V h e=>gE ((V σ).symm.trans e) λ q es e=>p k q h es e V
 AM e λ k h e=>by induction k with|zip js t=>exact z js t h e|enu i n=>exact E i n h e|e3 l i=>exact oP e λ xs a e=>li l i xs h a (ak e)|_=>exact f _ (λ u=>rfl) h e
theorem adl(e:AV j l i σ o=(B d,af)){G:Prop}(k:o=B d->σ.set j (.it (.e3 l (i+1)))=af->G):G:=match o,e,k with|some _,e,k=>k (aM B (ak (bc e).1)) (bc e).2|none,e,_=>nn ((bc e).1)
theorem adm{o:U D}(e:AV j l i σ o=(aa,af)):o=aa/\σ.set j .cX=af:=match o,e with
 |some _,e=>nomatch (bc e).1
 |none,e=>⟨rfl,(bc e).2⟩
theorem adn(e:uq j σ q=(B d,af)){G:Prop}(k:∀K,q=B (d,K)->σ.set j (.it K)=af->G):G:=by
 rcases q with _|⟨_,K⟩
 ·exact nn (bc e).1
 ·exact k K (aM (λ d=>B (d,K)) (ak (bc e).1)) (bc e).2
theorem ado(e:nD j i k σ xs=B (B d,af)){G:Prop}(h:∀K,xs[k]?=B K->D.aD [.int k,K]=d->(σ.set i (.it (.aD xs (k+1)))).set j (.it (.enu i (k+1)))=af->G):G:=by
 unfold nD at e;refine rY (xs[k]?) (λ K M=>?_) λ M=>?_
 ·rw[M]at e;exact h K M (ak (bc (ak e)).1) (bc (ak e)).2
 ·rw[M]at e;exact bN e λ u e=>nn ((bc (ak e)).1)
theorem adp(e:nD j i k σ xs=B (aa,af)):k=O xs/\(σ.set i .cX).set j .cX=af:=by
 unfold nD at e;refine rY (xs[k]?) (λ d K=>?_) λ K=>?_
 ·rw[K]at e;exact nomatch (bc (ak e)).1
 ·rw[K]at e;exact bN e λ h e=>⟨eq_of_beq h,(bc (ak e)).2⟩
theorem Gu(e:Gr j i k σ=B r){G:Prop}(h:∀xs,σ[i]?=B (.it (.aD xs k))->nD j i k σ xs=B r->G):G:=
 AM e λ q W e=>by induction q with|aD xs q=>exact bN e λ l=>h xs (ax (eq_of_beq l) W)|_=>exact nn e
noncomputable def w9(e:aJ):Bool:=aL e.ctorIdx 25
noncomputable def owner:cj->aF
 |.it (.zip ..)|.it (.enu ..)=>S|_=>aj
def TurnOk(g:bX)(x:bD)(α:H ao)(af:aE)(s:aU)(d:D)(Q:aq->aU->Prop):Prop:=
 ∀v h' t,a_ x.F x.W α s.heap α h'->aG g x α af h'->1<=t->aV (x.P++α) h' v d->Q v (cT s h' t)
def OR(g:bX)(x:bD)(α:H ao)(af:aE)(s:aU)(Q:U aq->aU->Prop):Prop:=
 ∀h' t,a_ x.F x.W α s.heap α h'->aG g x α af h'->1<=t->Q aa (cT s h' t)
theorem adq(r:iz X α h a k)(E:owner (.it k)=aj){GG:Prop}(K:∀o ty,h.get? a=B o->o.cls=.type ty->ownsTuple ty=aj->GG):GG:=by
 induction k with
 |list xs i=>refine eM r λ l vs N u=>?_;obtain⟨o,e,c,_⟩:=N;exact K o _ e c rfl|e3 j i=>obtain⟨l,_,⟨o,e,c,_⟩⟩:=r;exact K o _ e c rfl|aD xs i=>exact eM r λ l vs W u=>(gF W λ o e c u=>K o _ e c rfl)|str z i=>obtain⟨t,⟨o,e,c,_⟩|⟨o,e,c,_⟩⟩:=r<;>exact K o _ e c rfl|ji b n=>exact K _ _ r rfl rfl|rev xs k=>exact eM r λ l vs w u=>(gF w λ o e c u=>K o _ e c rfl)|enu i k=>cases E
 |zip js t=>cases E
def Turn(g:bX)(A:m7)(t:aJ)(a:ao)(Q:aq->aU->Prop)(E:aq->aU->Prop)(s:aU):Prop:=
 aO (a5 g.prog g.w) A (m8 (.ref a)) (λ r s'=>∃v,r=B v/\aO (a5 g.prog g.w) A (Ld t (.ref a) v) (λ u f=>Q v f) E s') E s
theorem ads(G:cb x.F x.P)(t:aJ)
  (I:aG g x α σ s.heap)(T:1<=s.toks)(h:α[j]?=B a)(n:σ[j]?=B (.it k))(l:owner (.it cH)=aj)(e:stepK k=B (B (d,cH)))(M:TurnOk g x α (σ.set j (.it cH)) s d Q):Turn g A t a Q E s:=
 OA (aW _ (eK h)) (I.look h n) e λ v h' u b p r R=>
  adq r l λ u u V f w=>
  have i:=I.put G h (m:=.it cH) b λ u=>r
  ⟨v,rfl,Ow t V f w (M v h' _ i.2 i.1 (bA T p) R)⟩
theorem OS(m:A.handled=aa)(y:cb x.F x.P)(z:cb x.W x.P){bs:H ao}
  (I:aG g x α σ s.heap)(D:1<=s.toks)(c:α[j]?=B a)(W:σ[j]?=B (.it (.zip js t)))(h:(js.map λ j=>α[j]?)=bs.map B)(b:α[t]?=B TO)(n:P∉x.P++α)(f:zq s.heap a P TO .none)(k:s.heap.get? P=B {cls:=.type "tuple",data:=.seq (bs.map hP).toArray})(e:AQ j js t σ=B (r,af))
  (X:∀h' i vs ds V T,r=B (.aD ds)->V.set j (.it (.zip js t))=af->a_ x.F x.W α s.heap α h'->aG g x α V h'->zq h' a P TO (gy (T:J))->T∉x.P++α->h'.get? P=B {cls:=.type "tuple",data:=.seq (bs.map hP).toArray} ->h'.get? T=B {cls:=.type "tuple",data:=.seq vs.toArray} ->bT (x.P++α) h' vs ds->1<=i->Q (B (.ref T)) (cT s h' i))
  (he:r=aa->OR g x α af s Q):aO (a5 g.prog g.w) A (m8 (.ref a)) Q E s:=by
 refine OK e λ p M f3 l k7 d=>?_;obtain w:s.TypeIs (.ref a) "zip" :=⟨_,f,rfl⟩;refine aB (wpAny_attempt (YX w F.slot_zip_next
  (zx F.slot_zip_next w F.entry_zip_next ?_ (F.args_zip_next_1 _))))
 obtain⟨q,V⟩:=p;refine adj (A:=A.in1) m y z b c (λ q=>by rw[q,l]at W;exact nomatch ak W) M f3 h I D f k n l k7 (λ h' i vs ds T R st C apj N ur G Gv cD v=>?_) λ h' i ex R st C u v=>?_
 ·subst R
  exact bl (X h' i vs ds V T (bc d).1.symm (bc d).2 st C N ur G Gv cD v)
 ·subst R
  exact av u λ o dw nE=>(aB (wpAny_isInstance ⟨o,dw,nE⟩ isSubtype_stop (bl (he (bc d).1.symm h' i st (ax ((bc d).2) C) v))))
theorem OT(g:A.handled=aa)(it l:ao)(M:l≠it)(I:fE aq):
  Draws prog w A it [it,l] I.size (λ i v=>I[i]?=B v) (λ i h=>h.IsTupleIter it l i/\h.IsTuple l I) where
 live:=λ u u st=>av st.1 λ o j u=>⟨o,j⟩
 frame:=λ u u u st n=>⟨st.1.at λ o e=>n it cV o e,st.2.at λ o e=>n l (aod rfl) o e⟩
 item:=λ i s Q E t st C=>Oy (an_ st.1 st.2 (x:=I[i]) (by simp) λ h' b K=>
  ⟨_,rfl,C _ h' s.toks (by simp) ⟨b,st.2.extBut K.extBut M⟩ K⟩)
 done:=λ s Q E st=>Oz g st.1 st.2 (Array.getElem?_size)
theorem adt(G:cb x.F x.P)(t:aJ)
  (I:aG g x α σ s.heap)(T:1<=s.toks)(f:α[j]?=B a)(R:σ[j]?=B (.it (.e3 l i)))(z:σ[l]?=B (.ae xs))(e:xs[i]?=B d)(K:TurnOk g x α (σ.set j (.it (.e3 l (i+1)))) s d Q):Turn g A t a Q E s:=by
 refine av (I.look f R) λ k w P=>(av (I.look w z) λ vs y r=>av (r.get e) λ v V W=>(YV P y.isList (by simpa using V) λ h' h b=>⟨v,rfl,gF (id h) λ o X D u=>(Ow t X D rfl ?_)⟩));obtain C:=I.put G f (m:=.it (.e3 l _)) b λ u=>⟨k,w,h⟩;exact K v h' s.toks C.2 C.1 T (W.mono λ c o e n=>⟨Y (b.2 c λ q=>n (L q (aW _ (eK f)))) e,n⟩)def ll(t:aJ)(σ:aE)(j:J):Bool:=match σ[j]? with|some m=> !owner m||w9 t|none=>aj
theorem OU{d:D}(q:stepK k=B (B (d,cH))):owner (.it cH)=aj/\inner cH=inner k:=by
 induction k with
 |list xs i=>exact gE (ak q) λ u u e=>(bc e).2▸⟨rfl,rfl⟩|aD xs i=>exact gE (ak q) λ u u e=>(bc e).2▸⟨rfl,rfl⟩|str z i=>exact gE (ak q) λ u u e=>(bc e).2▸⟨rfl,rfl⟩
 |ji b n=>induction n with
  |zero=>exact nn (ak q)|succ n=>exact(bc (ak (ak q))).2▸⟨rfl,rfl⟩
 |rev xs k=>induction k with
  |zero=>exact nn (ak q)|succ n=>exact gE (ak q) λ u u e=>(bc e).2▸⟨rfl,rfl⟩
 |_=>exact nn q
theorem OV(f:ll t σ j=S)(h:σ[j]?=B m)(i:owner m=S):∃e c pos,t=.Tuple e c pos:=by unfold ll at f;rw[h]at f;dsimp only at f;rw[i]at f;exact YP t (dE f) λ es c p=>(e_ es c p rfl)
theorem turn(fq:A.handled=aa)(G:cb x.F x.P)(h4:cb x.W x.P)(h:aJ)
  (I:aG g x α σ s.heap)(dm:1<=s.toks)(f:α[j]?=B a)(e:gH j σ=B (B d,af))(w_:ll h σ j=S)(dp:TurnOk g x α af s d Q):
  aO (a5 g.prog g.w) A (m8 (.ref a)) (λ r s'=>∃v,r=B v/\aO (a5 g.prog g.w) A (Ld h (.ref a) v) (λ u s''=>Q v s'') E s') E s:=by
 refine Gs e (λ js t P e=>?_) (λ i n P e=>?_) (λ l i xs P V e=>adl e λ hj es=>adt G h I dm f P V hj (L es dp)) λ k q P es e u=>adn e λ cH eq nF=>ads G h I dm f P (OU (Y es (aM B eq))).1 (Y es (aM B eq)) (L nF dp)
 ·obtain⟨W,c,pos,rfl⟩:=OV w_ P rfl
  refine rS (I.look f P) λ TI TO bs C fZ N fy hTI=>(OS fq G h4 I dm f P C fZ N fy hTI e (λ h' j0 vs ds gO T d1 es st eX AO ur Gq Gv cD D=>⟨_,rfl,wpAny_letOwnedTupleGo_zip AO λ cw w6 X=>?_⟩) λ q=>nomatch q);obtain eF:=eX.put G f (m:=.it (.zip js t)) X λ out=>(e_ TI TO bs ⟨C,fZ,N,w6,(out _ _ Gq N).1⟩);obtain K:fX h' cw _ _:=λ b o e n=>⟨Y (X.2 b λ q=>n (L q (aW _ (eK f)))) e,n⟩;exact dp _ cw j0 (st.trans eF.2) (ax es eF.1) D (L (ak d1) (.aD ur ⟨0,(K _ _ Gv ur).1⟩ (cD.mono K)))
 ·obtain⟨W,c,pos,rfl⟩:=OV w_ P rfl
  refine eM (I.look f P) λ b old w hen=>(Gu e λ xs xa e=>ado e λ uu ho xb F=>?_);subst xb;subst F;refine eg (I.look w xa) λ l vs hit V jo rs=>?_;have y:i≠j:=λ q=>by rw[q,P]at xa;exact nomatch ak xa
  have ab:a≠b:=λ q=>y ((Ef (jL.mp w).1 I.dv).mp (Y w (q▸f.symm)));have Gw:a∈x.P++α:=aW _ (eK f);have OW:b∈x.P++α:=aW _ (eK w);refine av (rs.get ho) λ v0 M rv0=>?_;refine g4 (wpAny_pyNext_enum_itemD (OT (A:=A.in1) fq b l (λ q=>V (q▸OW)) vs.toArray) hen ⟨hit,jo.iV⟩ (L hT ((jL.mp M).1)) ab (by simp[ab,rd (λ q=>V (q▸Gw):l≠a)])
   λ h5 h' tk0 Gx he Gy hTT w5 hkp OX=>?_)
  refine⟨_,rfl,wpAny_letOwnedTupleGo_enum he λ cw w7 X=>?_⟩;have X:hU a h' cw:=X;have K:=λ rZ o q1 jb e=>Y (X.2 rZ q1) (hkp rZ o q1 jb e);have idx:∀{xc:J}{c:ao},α[xc]?=B c->(c=a->xc=j)/\(c=b->xc=i):=λ{xc c} e=>⟨λ q=>(Ef (jL.mp e).1 I.dv).mp (Y e (q▸f.symm)),λ q=>(Ef (jL.mp e).1 I.dv).mp (Y e (q▸w.symm))⟩;obtain⟨eF,st⟩:=((I.kill G f).kill G w).cX G (Sq:=λ c=>c=a\/c=b) (h':=cw) (λ c q=>q.elim (λ z=>z▸eK f) λ z=>z▸eK w) (λ xc c e q=>by
   rcases q with q|q
   ·cases((idx e).1 q);rw[Eg y];exact Y0 (I.bM.length▸(jL.mp f).1)
   ·cases((idx e).2 q);simp[(I.bM.length▸(jL.mp w).1)]) (λ rZ o q e=>K rZ o (λ z=>q (.inl z)) (λ z=>q (.inr z)) e) (show s.heap.objs.size<=cw.objs.size by simp only[X.1,w5];exact hg _)
  have p:∀c o,s.heap.get? c=B o->c∉x.P++α->cw.get? c=B o/\c∉x.P++α:=λ c o e n=>⟨K c o (λ q=>n (L q Gw)) (λ q=>n (L q OW)) e,n⟩;obtain⟨ur,jo⟩:=jo;obtain iZ:=(eF.Gg G w (m:=.it (.aD xs (n+1))) (bh l vs ⟨(Gy.1.at λ o e=>Y (X.2 b (rd ab)) e),V,⟨ur,(p _ _ jo V).1⟩,rs.mono p⟩)).Gg G f (m:=.it (.enu i (n+1))) (bh b h5 ⟨w,w7⟩);obtain w4:((((σ.set j .cX).set i .cX).set i (.it (.aD xs (n+1)))).set j (.it (.enu i (n+1))))=(σ.set i (.it (.aD xs (n+1)))).set j (.it (.enu i (n+1))):=by rw[Y2,List.set_comm _ _ (rd y),Y2]
  rw[w4]at iZ;obtain adu:=by rw[ra,M]at Gx;exact(ak Gx).symm
  subst adu;refine dp _ cw (tk0+1) st iZ (bA dm OX.toks) (.aD I.fresh ⟨0,Y (X.2 _ (hM (I.ny Gw))) hTT⟩ (.cons (.int _ _) (.cons (rv0.mono p) .nil)))
theorem OY(f:A.handled=aa)(G:cb x.F x.P)(d:cb x.W x.P)
  (I:aG g x α σ s.heap)(T:1<=s.toks)(h:α[j]?=B a)(e:gH j σ=B (aa,af))(K:OR g x α af s Q):aO (a5 g.prog g.w) A (m8 (.ref a)) Q E s:=Gs e (λ js t o e=>rS (I.look h o) λ u u u v r N X m=>
     OS f G d I T h o v r N X m e (λ u u u u u u=>nn) λ u=>K) (λ i n o e=>(by
       refine eM (I.look h o) λ b D w R=>(Gu e λ xs F e=>?_);obtain c:=adp e;refine eg (I.look w F) λ l vs P z jo V=>g4 (wpAny_pyNext_enum_endD (OT (A:=A.in1) f b l (λ q=>z (L q (aW _ (eK w)))) vs.toArray) R ⟨(show n=vs.toArray.size by rw[hT,V.length];exact c.1)▸P,jo.iV⟩ λ h' M W=>?_);obtain p:=I.gone G w M W.size;exact K h' s.toks p.2 (ax c.2 (p.1.kill G h)) T)) (λ l i xs o z e=>have q:=adm e;(by
         refine av (I.look h o) λ AW y P=>(av (I.look y z) λ vs lp V=>g4 (YW f P lp.isList (w1 (a:=a) V q.1) λ h' M W=>?_));obtain p:=I.gone G h M W.size;exact(q.2▸K) h' s.toks p.2 p.1 T)) λ k q o es e u=>have q:=(show q=aa/\σ.set j .cX=af from match q,e with
           |some _,e=>nomatch (bc e).1
           |none,e=>⟨rfl,(bc e).2⟩);(OB f (I.look h o) (Y es (aM B q.1)) λ h' u dd r iY=>
             have C:=I.gone G h dd iY
             (q.2▸K) h' _ C.2 C.1 (bA T r))
@[reducible] noncomputable def cF(x:bD)(W:H ao):bD:={x with W:=W}theorem aG.cF(I:aG g x α σ h):aG g (cF x W) α σ h:=⟨I.base,I.big,I.b2,I.alive,I.dv,I.c8,I.bM,I.fr,I.old⟩theorem aG.dG(I:aG g (Internal.cF x W) α σ h):aG g x α σ h:=⟨I.base,I.big,I.b2,I.alive,I.dv,I.c8,I.bM,I.fr,I.old⟩theorem bt.cF(R:bt g x env ρ α h):bt g (Internal.cF x W) env ρ α h:=⟨R.fv,R.gl,R.cc,R.fK,R.ns,R.lg,R.ap⟩theorem bt.dG(R:bt g (Internal.cF x W) env ρ α h):bt g x env ρ α h:=⟨R.fv,R.gl,R.cc,R.fK,R.ns,R.lg,R.ap⟩theorem a_.cF(t:cb x.W W)(st:a_ x.F x.W α h aA h'):a_ (Internal.cF x W).F (Internal.cF x W).W α h aA h':=st.weaken (λ u q=>q) t
theorem ExcAt.cF{lo:J}{e:ao}{cl:b1}(q:ExcAt g x lo α σ h e cl as):ExcAt g (Internal.cF x W) lo α σ h e cl as:=
 match q with|⟨Sq,t,vs,a,I,r,R,dP,u,jq⟩=>⟨Sq,t,vs,a,⟨I.base,I.big,I.b2,I.alive,I.dv,I.c8,I.bM,I.fr,I.old⟩,r,R,dP,u,jq⟩
theorem ExcAt.dG{lo:J}(q:ExcAt g (Internal.cF x W) lo α σ h e cl as):ExcAt g x lo α σ h e cl as:=
 q.rec λ Sq t vs a I r R dP u jq=>⟨Sq,t,vs,a,⟨I.base,I.big,I.b2,I.alive,I.dv,I.c8,I.bM,I.fr,I.old⟩,r,R,dP,u,jq⟩
theorem aG.own(I:aG g x α σ h)(y:l∈x.P)(j:hU l h h'){o:fe}(m:h'.get? l=B o)(n:∀vs,o.data≠ .fields vs):aG g x α σ h':=by
 have k:∀b o,b≠l->h.get? b=B o->h'.get? b=B o:=λ b o q=>Y (j.2 b q);obtain s:=fV j.1.symm;refine⟨?_,bA I.big s,I.b2,?_,I.dv,I.c8,?_,?_,Om I.old (I.b2 l (.inl y)).2 k⟩
 ·refine λ b o e=>k b o (λ z=>?_) (I.base b o e)
  subst z;rw[(I.b2 b (.inl y)).1]at e;exact nn e
 ·intro b u
  by_cases e:b=l
  ·exact⟨o,L e m⟩
  ·exact a7 (I.alive b u) λ T E=>⟨T,k b T e E⟩
 ·refine I.bM.Oo s (λ a q=>bL _ (q▸y)) k λ i a e q=>?_
  subst q;exact aS y (I.c8 _ (eK e))
 ·refine λ e P=>(I.fr e P).e λ G T q b c d r=>?_
  by_cases z:G=l
  ·exact⟨q,G,o,b,c,L z m,n⟩
  ·exact⟨q,G,T,b,c,k _ _ z d,r⟩
theorem a_.own{x:bD}(y:l∈x.W)(c:hU l h h'):a_ x.F x.W α h α h':=
 ⟨fV c.1.symm,w0,λ b o e u w u=>Y (c.2 b (λ q=>w (L q y))) e,λ b o e w u=>⟨o.slots,Y (c.2 b (λ q=>w (L q y))) e⟩⟩def Gz(s:bW)(env:cn)(nm:ai):Prop:=env.kindOf nm=B .local\/(env.kindOf nm=B .cell/\s.names.lookup nm=B .cell)def p9(x:bD)(s:bW)(env:cn):Prop:=env.locals∈x.W/\∀n c,s.names.lookup n=B .cell->env.cells.lookup n=B c->c∈x.W
theorem lookup_cons{ρ:az}{n m:ai} :Y3 n ((m,a)::ρ)=if n=m then B a else ρ.lookup n:=by
 dsimp only[gY];by_cases e:n=m
 ·subst e;simp
 ·rw[a6 e]
  rw[((ro e))]
theorem AX(Gx:cb x.W x.P)(w:p9 x sc env)(P:Gz sc env nm):
  ag g x (λ α h=>bp g x env ρ α h/\a9 (x.P++α) α h v a) (λ α h z z=>bp g x env ((nm,a)::ρ) α h) (Lf env nm v) (.ret ()):=by
 intro α σ s out af I dm p e Q E dp he;cases e;obtain⟨R,g9⟩:=p;have k:∀{l:ao}{h':aX},l∈x.P->hU l s.heap h'->fX s.heap h' _ (x.P++α):=λ lp f b o e n=>⟨Y (f.2 b (λ q=>n (bL _ (L q lp)))) e,n⟩;rcases P with P|⟨P,hks⟩
 ·refine av R.ns λ m da hm=>(wpAny_storeName_local P da (λ h' F f=>t8 (id F) λ o es c3 dw hd z=>(dp _ _ h' _ α rfl (.own w.1 f) (I.own R.fK f dw (by rw[hd];intro vs q;cases q)) (ip dm) ⟨R.fv,R.gl,R.cc,R.fK,⟨_,F,λ N V d G=>?_⟩,λ N C=>?_,R.ap⟩)) (L R.fv rfl))
  ·rw[lookup_cons]at d
   by_cases e:N=nm
   ·rw[bC e]at d;exact ax (ak d) ⟨v,(bC e),g9.mono (k R.fK f) eV⟩
   ·rw[a6 e]at d
    exact av (hm N V d G) λ u X t=>(⟨u,by simp[e,X],t.mono (k R.fK f) eV⟩)
  ·refine R.jV C λ c nx D j i K xd ei=>av xd λ xe T W=>⟨c,D,j,i,K,nx,⟨xe,Y (f.2 c K) T,W⟩,λ V d=>?_⟩
   have d:=lookup_cons▸d;have e:N≠nm:=by rintro rfl;rw[P]at C;exact bw C
   rw[a6 e]at d;exact av (ei V d) λ u X t=>(⟨u,X,t.mono (k R.fK f) eV⟩)
 ·obtain M:iB (env.kindOf nm)=true:=L P rfl
  refine R.jV M λ c nx D j i K A ei=>wpAny_storeName_cell R.fv P D A (λ h' y f=>av (id y) λ o dw hd=>(dp _ _ h' s.toks α rfl (.own (w.2 nm c hks D) f) (I.own j f dw (by rw[hd];intro vs q;cases q)) dm ⟨R.fv,R.gl,R.cc,R.fK,?_,λ N C=>?_,R.ap⟩))
  ·refine av R.ns λ m w18 hm=>oL w18 λ adv es c3 hoL r=>(⟨m,(e_ adv es c3 ⟨Y (f.2 _ (rd K)) hoL,r⟩),λ N V d G=>?_⟩)
   rw[lookup_cons]at d;have e:N≠nm:=by rintro rfl;rw[P]at G;exact aS G (by decide)
   rw[a6 e]at d;exact av (hm N V d G) λ u X t=>(⟨u,X,t.mono (k j f) eV⟩)
  ·by_cases e:N=nm
   ·refine L e ⟨c,D,j,i,K,B v,y,λ V d=>?_⟩
    rw[lookup_cons,bC rfl]at d;exact ax (ak d) ⟨v,rfl,g9.mono (k j f) eV⟩
   ·refine R.jV C λ c' vo' fs gB k2' kF xd p_=>av xd λ xe T W=>⟨c',fs,gB,k2',kF,vo',⟨xe,Y (f.2 c' (λ q=>e (R.ap N nm c' C M fs (L q D)))) T,W⟩,λ V d=>?_⟩
    rw[lookup_cons,a6 e]at d;exact av (p_ V d) λ u X t=>(⟨u,X,t.mono (k j f) eV⟩)
theorem r0(r:cb x.W x.P)(w:p9 x q env)(n:Gz q env nm):
  ag g x (λ α h=>bp g x env ρ α h/\a9 (x.P++α) α h v a) (λ α h u u=>bp g x env ((nm,a)::ρ) α h) (pK env nm v) (.ret ()):=λ α σ s o af I t p e Q E G y=>bindName_ (AX r w n α σ s o af I t p e Q E G y)
section
variable {prog:KZ}{w:dg}{A:m7}{E:aq->aU->Prop}
theorem OZ(M:l≠it):∀(n i:J)(s:aU)(Q:H aq->aU->Prop),s.heap.IsListIter it l i->s.heap.IsList l I->i+n<=I.size->
  (∀h',h'.IsListIter it l (i+n)->hU it s.heap h'->Q ((I.toList.drop i).take n) {s with heap:=h'})->aO (a5 prog w) A (draw (.ref it) n) Q E s
 |0,i,s,Q,o,_,_,C=>by exact bl (C s.heap o (Heap.SameBut.refl ..))|n+1,i,s,Q,o,q,m,C=>by have W:=(DO m);refine aB (YV o q (x:=I[i]) (by simp) λ z k e=>aB (dT (OZ M n _ _ _ k (q.extBut e.extBut M) (by lia) λ p a c=>bl ?_)));obtain this:=C p (L (show i+(n+1)=i+1+n by exact oj (zf i n)) a) (e.trans c);rw[(show I.toList.drop i=I[i]::I.toList.drop (i+1) by simp[KJ,W])]at this;exact this
theorem adw(f:A.handled=aa)(q:s.heap.IsList t items)
  (C:∀h',pM s.heap.objs.size s.heap h'->Q items.toList {s with heap:=h'}):aO (a5 prog w) A (zA (.ref t) items.size aa) Q E s:=by
 have W:=av q λ o j u=>il (dI j);apply aB;unfold notIterableAtAll;refine aB (YN q.typeIs slot_list_iter.lookup (bl (aB (dT (Ed q (aB (dT (OZ W items.size 0 _ _ ⟨_,d0 _ rfl,rfl,rfl⟩ (q.push _) (by lia) λ z k p=>?_))))))));obtain K:List.take items.size (List.drop 0 items.toList)=items.toList:=by rw[aoe];exact Y4 (by simp)
 refine L K (AR (a6 (by simp)) (aB (dT (YW f k ((q.push _).extBut p.extBut W) (by simp) λ r y=>bl (C r λ b o v e=>y b o v (p.extBut b o v (dy _ e)))))))
end
noncomputable def uv(z:ai)(i n:J):H D:=n.rec (motive:=λ u=>J->H D) (λ u=>[]) (λ u I i=>.str ⟨#[z.cps.getD i 0]⟩::I (i+1)) i
theorem GA(z:ai):∀n i,O (uv z i n)=n
 |0,_=>rfl|n+1,i=>aM i9 (GA z n _)theorem O0{h h':aX}{z:ai}{n:J} :∀{i:J}{vs:H aq},bT X h vs (uv z i n)->bT Yq h' vs (uv z i n):=by induction n with|zero=>exact λ r=>L (zr r.length) .nil|succ n I=>intro i vs r;cases r with|cons a r=>exact .cons (a7 a.inv λ t e=>L e (.str _ _)) (I r)
theorem adx(n:J):∀(i:J)(s:aU)(Q:H aq->aU->Prop),iz [it] [] s.heap it (.str z i)->i+n<=z.cps.size->
  (∀vs h' t,iz [it] [] h' it (.str z (i+n))->hU it s.heap h'->bT [] h' vs (uv z i n)->Q vs {s with heap:=h',toks:=t})->aO (a5 prog w) A (draw (.ref it) n) Q E s:=by
 induction n with
 |zero=>exact λ i s Q r u C=>bl (C [] s.heap s.toks r (Heap.SameBut.refl ..) .nil)
 |succ n I=>
  intro i s Q r l C;obtain es:stepK (.str z i)=B (B (.str ⟨#[z.cps.getD i 0]⟩,.str z (i+1))):=by refine(?_:B _=_);simp[(DO l)]
  exact aB (OA (ek.mpr rfl) r es λ v a t b u G V=>aB (dT (I _ _ _ G (by lia) λ vs p T R d F=>bl (C _ p T (L (show i+(n+1)=i+1+n by lia) R) (b.trans d) (.cons (a7 V.inv λ t e=>L e (.str _ _)) F)))))
theorem ady(f:A.handled=aa)
  (C:∀vs h' k,(∀b o,s.heap.get? b=B o->h'.get? b=B o)->bT [] h' vs (uv z 0 z.cps.size)->Q vs {s with heap:=h',toks:=k}):aO (a5 prog w) A (zA (.str z t) z.cps.size aa) Q E s:=by
 refine aB (bl ?_);obtain rest:∀s1 o,o.isFreed=aj->s1={s with heap:=s.heap.push o} ->iz [s.heap.objs.size] [] s1.heap s.heap.objs.size (.str z 0)->
   aO (a5 prog w) A (do let items<-d_ [.ref s.heap.objs.size] (draw _ z.cps.size)
                              if O items<z.cps.size then
                               rule "unpack.too-few";raiseError "ValueError" s!"not enough values to unpack (expected {z.cps.size}, got {List.length items})"
                              if (<-d_ items (m8 _)).isSome then
                               rule "unpack.too-many";raiseError "ValueError" s!"too many values to unpack (expected {z.cps.size})"
                              return items) Q E s1:=by
  intro s1 o j W r;subst W;refine aB (dT (adx z.cps.size 0 _ _ r (by lia) λ vs a n R p F=>L (a6 (by rw[F.length,GA];exact hu _)) ?_));rw[hO]at R;refine aB (dT (OB f R (by
   refine(?_:B _=_);simp) λ q T y u u=>?_))
  obtain N:=λ b V e=>il (dI e);exact bl (C vs q T (λ b V e=>y b V (N b V e) (Y (p.2 b (N b V e)) (dy _ e))) (O0 F))
 cases d:z.cps.all _ with|true=>exact aB (dT (wpAny_pyIter_ascii d (rest _ {cls:=.type "str_ascii_iterator",data:=.fields #[.str z t,.int 0 0] } rfl rfl ⟨t,.inl ⟨_,d0 _ rfl,rfl,rfl⟩⟩)))|false=>exact aB (dT (wpAny_pyIter_wide d (rest _ {cls:=.type "str_iterator",data:=.fields #[.str z t,.int 0 0] } rfl rfl ⟨t,.inr ⟨_,d0 _ rfl,rfl,rfl⟩⟩)))def hE(d:D)(n:J):U (H D):=match d with|.aD xs=>bR (O xs==n) (B xs)|.ae xs=>bR (O xs==n) (B xs)|.str z=>bR (z.cps.size==n) (B (uv z 0 n))|_=>aa
section
variable {g:bX}{x:bD}{env:cn}{ρ:az}{β γ nu oQ:Type}{α:H ao}{σ:aE}{h h':aX}theorem GB(y:pM h.objs.size h h'):∀b o,h.get? b=B o->h'.get? b=B o:=λ b o e=>y b o (il (dI e)) e
theorem O1(j:A.handled=aa)(N:s.heap.IsTuple T vs.toArray)(V:n=vs.length)
  (C:∀h',(∀b o,s.heap.get? b=B o->h'.get? b=B o)->s.heap.objs.size<=h'.objs.size->Q vs (cT s h' s.toks)):aO (a5 g.prog g.w) A (zA (.ref T) n aa) Q E s:=by
 obtain e:n=vs.toArray.size:=by trivial
 exact L e (g4 (wpAny_unpackItems_tuple j N λ h' y G=>C h' (GB y) G.size))
theorem O2(f:x.A.handled=aa)(u:∀α h,pre α h->aV (x.P++α) h v d):
  ag g x pre (λ α h vs ds=>bT (x.P++α) h vs ds/\O ds=n) (zA v n aa) (.of (hE d n)):=by
 cases e:hE d n with
 |none=>exact .au
 |some ds=>
  refine ag.wp λ α σ s I F p Q E G=>?_;have r:=(u _ _ p).inv;rcases d with _|_|_|_|z|_|_|_|xs|xs|⟨_,_⟩;case aD=>refine bN e λ R e=>?_;obtain⟨a,vs,rfl,N,q,P⟩:=r;have R:=cI.mp R;exact O1 f q.iV (by rw[P.length,R]) λ h' k V=>G vs h' s.toks k V (ak e▸⟨P.mono λ b o e n=>⟨k b o e,n⟩,R⟩)
  case ae=>refine bN e λ R e=>?_;obtain⟨a,vs,rfl,N,c,P⟩:=r;have R:=cI.mp R;exact L (show n=vs.toArray.size by rw[hT,P.length,R]) (g4 (adw f c.isList λ h' y T=>G vs h' s.toks (GB y) T.size (ak e▸⟨P.mono λ b o e n=>⟨GB y b o e,n⟩,R⟩)))
  case str=>refine bN e λ R e=>?_;obtain⟨t,rfl⟩:=r;obtain rfl:=cI.mp R;exact g4 (ady f λ r h' k K D T=>G r h' k K T.size (ak e▸⟨O0 D,GA z _ _⟩))
  all_goals exact nn e
noncomputable def dU(s:bW)(n:ai):Bool:=match s.names.lookup n with|some .local|some .cell=>S|_=>aj
theorem oS(C:fa s env)(h:dU s n=S):Gz s env n:=by
 unfold dU at h;rcases C n with e|⟨e,_⟩
 ·rw[e]at h
  refine eD (env.kindOf n) (λ o=>?_) λ k o=>?_
  ·rw[o]at h;exact bw h
  ·rw[o]at h;induction k<;>first|exact .inl o|exact .inr ⟨o,Y e o⟩|exact bw h
 ·rw[e]at h;exact bw h
def nameOf(e:aJ):U Str:=hZ e B aa
def bindNames(s:bW)(bS:H aJ)(cG:H V)(dJ:az):U az:=bS.rec (motive:=λ u=>H V->az->U az) (λ as ρ=>match as with
  |[]=>B ρ|_::_=>aa) (λ e es dF as ρ=>match as with
  |[]=>aa|a::as=>(nameOf e).bind λ n=>bR (dU s n) (dF as ((n,a)::ρ))) cG dJ
def lq(s:bW)(t:aJ)(d:D)(ρ:az):U az:=hZ t (λ n=>bR (dU s n) (B ((n,.d d)::ρ))) (rU t (λ es=>(hE d (O es)).bind λ ds=>bindNames s es (ds.map V.d) ρ) aa)theorem AY(h:nameOf e=B n):∃p,e=.Name n p:=mr (P:=λ o=>o=B n->∃p,e=.Name n p) (λ m p q h=>⟨p,ax (ak h) q⟩) nn h
theorem uw(e:bindNames s es as ρ=B ar){G:Prop}(K:es=[]->as=[]->ρ=ar->G)
  (k:∀n p F a X,es=.Name n p::F->as=a::X->dU s n=S->bindNames s F X ((n,a)::ρ)=B ar->G):G:=by
 rcases es with _|⟨t,es⟩<;>rcases as with _|⟨a,as⟩
 ·exact K rfl rfl (ak e)
 ·exact nn e
 ·exact nn e
 ·exact b3 e λ n W e=>bN e λ j e=>a7 (AY W) λ p u=>k n p es a as (ax u rfl) rfl j e
theorem O3(e:lq s t d ρ=B ar){G:Prop}(k:∀n p,t=.Name n p->dU s n=S->(n,.d d)::ρ=ar->G)(K:∀es c p ds,t=.Tuple es c p->hE d (O es)=B ds->bindNames s es (ds.map V.d) ρ=B ar->G):G:=
 mr (P:=λ o=>o=B ar->G) (λ n p q e=>bN e λ h e=>k n p q h (ak e)) (wY (P:=λ o=>o=B ar->G) (λ es c p q e=>b3 e λ ds W j=>K es c p ds q W j) λ e=>nn e) e
theorem bU.nt(r:bU X α h vs (a::as)):∃v u,vs=v::u/\a9 X α h v a/\bU X α h u as:=by cases r with|cons r n=>exact(bh _ _ ⟨rfl,r,n⟩)theorem bU.both(r:bU X α h (v::vs) (a::as)):a9 X α h v a/\bU X α h vs as:=by cases r with|cons r n=>exact⟨r,n⟩theorem bU.bad(r:bU X α h [] (a::as)){G:Prop} :G:=nomatch r
theorem adz(s:cb x.W x.P)(G:cb x.F x.P)(w:p9 x y env)(C:fa y env):
  ∀(es:H aJ)(vs:H aq)(as:H V)(ρ ar:az),bindNames y es as ρ=B ar->
   ag g x (λ α h=>bp g x env ρ α h/\bU (x.P++α) α h vs as) (λ α h z z=>bp g x env ar α h) (Lg ((ou es env).map (·.2)) vs) (.ret ()):=by
 intro es;induction es with
 |nil=>exact λ vs as ρ ar e=>uw e (λ z z o=>ag.pure λ z z p=>ax o p.1) λ z z z z z q=>nomatch q
 |cons t es i=>
  refine λ vs as ρ ar e=>uw e (λ q=>nomatch q) λ n p F a X q1 Q b j=>?_;obtain⟨rfl,rfl⟩:=kn q1;refine L Q ?_;induction vs with
  |nil=>exact λ z z z z z z z p=>eM p.2.nt λ z z q z=>nomatch q
  |cons v vs=>refine ag.bind (m:=.ret _) (ag.holding (ag.standAt ((ag.frame (r0 s w (oS C b)) (wW G s vs X)).pre λ α h p=>e4 p.2.nt λ u T q r P=>cq (kn q) λ W M=>?_))) λ z z=>i vs X _ ar j;exact L W (L M ⟨⟨p.1,r⟩,P⟩)
theorem adA:∀{as:H V}{s:bW}{ρ ar:az},bindNames s es as ρ=B ar->O (ou es env)=O es/\(ou es env).findIdx? (·.1)=aa/\O as=O es:=by
 induction es with
 |nil=>exact λ e=>uw e (λ u q u=>L q ⟨rfl,rfl,rfl⟩) λ u u u u u q=>nomatch q
 |cons t es i=>intro as s ρ ar e;refine uw e (λ q=>nomatch q) λ n p F a X q1 Q b j=>?_;obtain⟨rfl,rfl⟩:=kn q1;obtain h:=i j;refine⟨aM i9 h.1,?_,L Q (aM i9 h.2.2)⟩;show List.findIdx? _ ((aj,l0 _ env)::ou es env)=aa;rw[aof,h.2.1];rfl
theorem bQ.vs{vs:H aq}(r:bT X h vs ds):bU X α h vs (ds.map V.d):=by induction ds generalizing vs with|nil=>cases r;exact .nil|cons d ds i=>cases r with|cons a r=>exact .cons a (i r)
theorem O4(l:x.A.handled=aa)(y:cb x.W x.P)(G:cb x.F x.P)(w:p9 x f env)(C:fa f env)(q:Quiet {x with W:=[] } env)(e:lq f t d ρ=B ar):
  ag g x (λ α h=>bp g x env ρ α h/\aV (x.P++α) h v d) (λ α h u u=>bp g x env ar α h) (l0 t env v) (.ret ()):=by
 refine O3 e (λ n p N m o=>?_) λ es c p ds N R k=>?_
 ·rw[N,<-o]
  exact ag.standAt (r0 (a:=.d d) y w (oS C m))
 ·obtain h:=adA k
  refine L N (ag.standAt ?_);unfold unpack;rw[h.1,h.2.1];intro α σ s V af I D p e Q E K he;obtain e:=bc (ak e);exact aB (dT ((R▸(O2 (x:={x with W:=[] }) l λ u u p=>p)) α σ s _ σ I.cF D p.2 rfl _ _ (gk.ok λ vs h' el aA st F i M=>adz y G w C es vs _ ρ ar k aA σ _ _ σ F.dG i ⟨(bt.jW (x:={x with W:=[] }) G (λ u q=>nomatch q) q α σ s.heap aA h' I.cF st p.1.cF).dG,M.1.vs⟩ rfl Q E (λ b r h'' j T dw X eF z P=>K b _ h'' j T e.1.symm ((st.weaken (λ u q=>q) λ u q=>nomatch q).trans X) (ax e.2 eF) z P) eC.ok) eC.ok))
end
def xf(e:az->aJ->Ev aF)(ρ:az)(b:aF)(l:H aJ):Ev Bool:=l.rec (motive:=λ u=>aF->Ev aF) (λ b=>.ret b) (λ c u I b=>match b with|true=>(e ρ c).bind I|false=>I aj) b
def oU(j:J)(v:V):Ev Unit:=λ σ=>jU σ[j]? λ xs=>hi v λ d=>bR (dc xs) (B (.ok (),σ.set j (.ae (xs++ [d]))))
theorem O7(e:oU j v σ=B (o,af)){G:Prop}(k:∀xs d,σ[j]?=B (.ae xs)->v=.d d->dc xs=S->(.ok (),σ.set j (.ae (xs++ [d])))=(o,af)->G):G:=
 oP e λ xs h e=>iA e λ d l e=>bN e λ f e=>k xs d h l f (ak e)theorem AZ(h:σ[j]?=B (.ae xs))(f:dc xs=S):oU j (.d d) σ=B (.ok (),σ.set j (.ae (xs++ [d]))):=Y (rT h) (eh f)theorem adD{r:Type}{k:gL->Ev r}{q:Res r×aE}(e:(oU j v).bind k σ=B q){GG:Prop}(K:∀u V,oU j v σ=B (.ok u,V)->k u V=B q->GG):GG:=by unfold Ev.bind at e;cases h:oU j v σ with|none=>rw[h]at e;exact nn e|some p=>obtain⟨o,V⟩:=p;rw[h]at e;cases o with|ok u=>exact K u V h e|exc=>exact O7 h λ w w w w w q=>nomatch aM Y6 q
def adE(ρ:az)(ok:aF)(k:D->Ev az)(q:U D×aE):U (Res az×aE):=match q.1 with|none=>B (.ok ρ,q.2)|some d=>bR ok (k d q.2)def uy(t:aJ)(body:D->az->Ev az)(j n:J):az->Ev az:=n.rec (λ u=>.au) λ u I ρ σ=>(gH j σ).bind (adE ρ (ll t σ j) λ d=>(body d ρ).bind I)
theorem adF(h:gH j σ=B (aa,af)):uy t b j (n+1) ρ σ=B (.ok ρ,af):=
 aM (λ o=>Y7 o _) h
theorem O8(h:gH j σ=B (B d,af))(f:ll t σ j=S):uy t b j (n+1) ρ σ=(b d ρ).bind (uy t b j n) af:=
 Y (aM (λ o=>Y7 o _) h) (eh f)def xg(m:Ev az)(ρ:az)(ok:aF):Ev az:=match ok with|true=>m|false=>.ret ρ
def A0(s:bW)(e:az->aJ->Ev aF)(g:m9)(inner:az->Ev az)(d:D)(ρ:az):Ev az:=λ σ=>(lq s g.target d ρ).bind λ R=>(xf e R S g.ifs).bind (xg (inner R) R) σ
theorem O9{inner:az->Ev az}(h:lq s g.target d ρ=B R):A0 s e g inner d ρ σ=(xf e R S g.ifs).bind (xg (inner R) R) σ:=
 aM (λ o=>Y7 o λ R=>(xf e R S g.ifs).bind (xg (inner R) R) σ) h
def adG(f:J->Ev az)(v:V):Ev az:=match v with|.aH j=>f j|.d _=>.au
def GQ(E:az->aJ->Ev V)(e:aJ)(f:J)(r:J->az->Ev az)(G:H m9)(ρ:az):Ev az:=match G with|[]=>(E ρ e).bind λ v=>(oU f v).bind λ u=>.ret ρ|g::_=>λ σ=>bR (hY g.iter) (((E ρ g.iter).bind λ a=>(g8 a).bind (adG λ j=>r j ρ)) σ)def nG(s:bW)(N:J)(E:az->aJ->Ev V)(h:az->aJ->Ev aF)(e:aJ)(f:J)(l:H m9):J->az->Ev az:=l.rec (λ u u=>.au) λ g G R j ρ σ=>bR (!(g.is_async !=0)) (uy g.target (A0 s h g (GQ E e f R G)) j N ρ σ)
theorem GR(y:cU g x env n)(h:∀e,TB g x env ρ (iq e env (bG e env)) (E ρ e)):
  ∀(b:aF)(cs:H aJ),TB g x env ρ (forIn cs b λ c r=>if r=S then(iq c env (bG c env)>>=λ ok=>pure (m4 ok))else pure (m4 r)) (xf E ρ b cs)
 |b,[]=>by induction b<;>exact ag.pure λ u u u=>rfl|true,c::cs=>by rw[kZ,bC rfl,bind_assoc];refine ag.cv y (h c) λ b c'=>?_;intro α σ s o af I t p;obtain⟨p,rfl⟩:=p;exact GR y h b cs α σ s o af I t p|false,c::cs=>by exact L (kZ ..) (GR y h aj cs)noncomputable def r1(e:aJ)(g:H m9)(s:bW)(p:cP)(d:J)(it acc:aq)(c:cn):bj Fin:=match g[d+1]? with|some G=>bG G.iter c>>=λ x=>dZ G.iter.pos>>=λ u=>(if (G.is_async !=0)=S then foldedIterable G.iter x else foldedSetIterable G.iter c x)>>=λ x=>d_ [x] (if (G.is_async !=0)=S then asyncIter x else tw x)>>=λ i=>runOwn (.compStart (.ListComp e g s p) (d+1) i acc c) c>>=λ u=>again (.compLoop (.ListComp e g s p) d it acc c)|none=>(bG e c>>=λ v=>call (.builtin "list.append") [acc,v]>>=λ u=>pure ())>>=λ u=>again (.compLoop (.ListComp e g s p) d it acc c)
def O_(e:aJ)(g:H m9)(s:bW)(p:cP)(d:J)(it acc:aq)(c:cn)(ok:aF):bj Fin:=
 if ok=S then r1 e g s p d it acc c else again (.compLoop (.ListComp e g s p) d it acc c)noncomputable def adH(cs:H aJ)(C:cn):bj Bool:=forIn cs S λ c r=>if r=S then(iq c C (bG c C)>>=λ ok=>pure (m4 ok))else pure (m4 r)
theorem adI{G:m9}(h:g[d]?=B G)(f:(G.is_async !=0)=aj):
  compTurn (.ListComp e g s p) d it acc c=(dZ G.iter.pos>>=λ u=>m8 it>>=λ r=>match r with
   |none=>pure (.done .next)|some v=>Ld G.target it v>>=λ u=>l0 G.target c v>>=λ u=>adH G.ifs c>>=O_ e g s p d it acc c):=by
 dsimp only[compTurn];rw[h];dsimp only;rw[f];congr 1;funext _;refine(a6 hN).trans ?_;congr 1;funext r;induction r with
 |none=>rfl
 |some v=>
  dsimp only;congr 1;funext _;congr 1;funext _;congr 1;funext ok;unfold O_;induction ok with
  |false=>rfl
  |true=>
   unfold r1;induction g[d+1]? with
   |none=>rfl
   |some l=>
    dsimp only;induction(l.is_async !=0)with
    |true=>rfl|false=>rfl
theorem adJ(z:IsL s.heap l vs)(h:O vs<=kq)
  (C:∀h',IsL h' l (vs++ [v])->hU l s.heap h'->Q .none {s with heap:=h'}):aO (a5 prog w) A (call (.builtin "list.append") [.ref l,v]) Q E s:=by
 refine a7 (id z) λ n i=>(zx slot_list_append z.isList.typeIs entry_list_append ((aB (YZ i rfl (bl ⟨.none,rfl,C _ ⟨n+1,Y (Eh _ i rfl) ?_⟩ (tA ..)⟩) (kdl_size h) (by simp;omega))):aO _ _ (YY l _>>=λ u=>ret .none) _ _ s) (args_list_append _ _));simp[zz]
section
variable {g:bX}{x:bD}{env:cn}{ρ:az}{n:J}{β γ nu oQ:Type}{α:H ao}{σ af:aE}
theorem Pa(G:cb x.F x.P)(I:aG g x α σ s.heap)(h:α[j]?=B acc)(r:a9 (x.P++α) α s.heap v a)(e:oU j a σ=B (.ok (),af))
  (K:∀h',a_ x.F x.W α s.heap α h'->aG g x α af h'->Q .none (cT s h' s.toks)):aO (a5 g.prog g.w) A (call (.builtin "list.append") [.ref acc,v]) Q E s:=by
 refine av (I.bM.get h) λ m M V=>(O7 e λ xs d F k N l=>?_);subst k;obtain rfl:=ak (Y M.symm F);obtain rfl:=aM Prod.snd l;refine av V λ vs w R=>adJ w (L R.length (b8 N)) λ h' C f=>?_;obtain p:∀c o,s.heap.get? c=B o->c∉x.P++α->h'.get? c=B o/\c∉x.P++α:=λ c o e n=>⟨Y (f.2 c (λ q=>n (L q (aW _ (eK h))))) e,n⟩;have W:aV _ s.heap v d:=r;obtain i:=I.upd G h (m:=.ae _) (λ b o q e=>Y (f.2 b q) e) (fV f.1.symm) ⟨_,C,(R.mono p).append (.cons (W.mono p) .nil)⟩;exact K h' i.2 i.1
theorem a_.get(st:a_ F W α h aA h'){j:J}(e:α[j]?=B a):aA[j]?=B a:=av st.ext λ β w u=>L w (get_append e)
structure A1(g:bX)(x:bD)(sc:bW)(env:cn)(n:J)(own:H ao)(iE:az->aJ->Ev V)(h7:az->aJ->Ev aF):Prop where
 y:cU g x env n
 cM:fa sc env
 uz:cb own x.P
 w:p9 (Internal.cF x (own++x.W)) sc env
 pos:0<n
 Pb:∀ρ e,TE g x env ρ (bG e env) (iE ρ e)
 adK:∀ρ e,TB g x env ρ (iq e env (bG e env)) (h7 ρ e)
@[reducible] def a3(x:bD)(o:H ao):bD:=Internal.cF x (o++x.W)
theorem GS(h:ag g x (bp g x env ρ) post t m)(I:aG g (a3 x o) α σ s.heap)(D:1<=s.toks)(R:bp g (a3 x o) env ρ α s.heap)
  (y:cU g x env n)(e:m σ=B (.ok r,af))(G:∀b h' T aA,a_ (a3 x o).F (a3 x o).W α s.heap aA h'->aG g (a3 x o) aA af h'->1<=T->bp g (a3 x o) env ρ aA h'->post aA h' b r->Q b (cT s h' T)):aO (a5 g.prog g.w) x.A t Q E s:=
 h α σ s _ af I.dG D (bt.dG R) e Q E (gk.ok λ b h' T aA st C i p=>by
  exact G b h' T aA (st.cF λ u q=>aW _ q) C.cF i (bt.cF (bt.jW y.ok.cY y.ok.eu y.q _ _ _ _ _ I.dG st (bt.dG R))) p) eC.ok
theorem Pc(e:nG p N v r E f (G::a) j ρ σ=B q):
  (G.is_async !=0)=aj/\∃k,σ[j]?=B (.it k):=
 bN e λ c e=>⟨l_ c,by
  induction N with
  |zero=>exact nn e|succ=>exact b3 e λ u Q u=>AM Q λ k h u=>⟨k,h⟩⟩
theorem Pd{d j:J}(In:aG g x α σ s.heap)(q:α[j]?=B I)(o:σ[j]?=B (.it k))(T:G[d]?=B X)(c:(X.is_async !=0)=aj)
  (h:v8 (a5 g.prog g.w) A (.compLoop (.ListComp e G i p) d (.ref I) acc env) R s):v8 (a5 g.prog g.w) A (.compStart (.ListComp e G i p) d (.ref I) acc env) R s:=by
 refine Ei (Y1 ?_);unfold compStart;refine L T ?_;rw[a6 (λ q:((B X).elim aj λ x=>x.is_async !=0)=S=>bw (c.symm.trans q))];exact D5 (λ z=>bl ⟨rfl,h⟩) λ z=>aB (tq (aB (ko (aB (ac6 In q o (bl ⟨rfl,h⟩))))))theorem GU(h:hY e=S)(env:cn)(v:aq):foldedSetIterable e env v=pure v:=by rcases e with _|_<;>first|rfl|exact bw h
def GV(g:bX)(x:bD)(R:Ej->aU->Prop)(F:Fin)(s:aU):Prop:=match F with|.done f=>R (.ok f) s|.again c=>c.quiet=S/\v8 (a5 g.prog g.w) x.A c R s
theorem adL(h:aO (a5 g.prog g.w) x.A (compTurn (.ListComp e G i p) d I acc env) (GV g x R) (λ u u=>False) s):
  v8 (a5 g.prog g.w) x.A (.compLoop (.ListComp e G i p) d I acc env) R s:=by
 apply Ei;exact Y1 (hS h (λ f u y=>match f,y with
  |.done _,y=>y|.again _,y=>y) λ u u y=>y.elim)
def GW(g:bX)(x:bD)(o:H ao)(env:cn)(f:J)(acc:ao)(code:aq->Code)(j:J)(run:az->Ev az):Prop:=
 ∀(ρ ar:az)(α:H ao)(σ af:aE)(s:aU)(I:ao)(R:Ej->aU->Prop),run ρ σ=B (.ok ar,af)->aG g (a3 x o) α σ s.heap->1<=s.toks->bp g (a3 x o) env ρ α s.heap->α[j]?=B I->α[f]?=B acc->
     (∀h' t aA,a_ (a3 x o).F (a3 x o).W α s.heap aA h'->aG g (a3 x o) aA af h'->1<=t->bp g (a3 x o) env ar aA h'->R (.ok .next) (cT s h' t))->v8 (a5 g.prog g.w) x.A (code (.ref I)) R s
theorem adM{m:Ev az}(h:b=S)(e:xg m ρ b σ=q):m σ=q:=by subst h;exact e
theorem adN{m:Ev az}(h:b=aj)(e:xg m ρ b σ=B (.ok ar,af)):ρ=ar/\σ=af:=by subst h;have e:=bc (ak e);exact⟨Res.ok.inj e.1,e.2⟩theorem adO(h:G[d+1]?=aa):r1 e G s p d it acc env=((bG e env>>=λ v=>call (.builtin "list.append") [acc,v]>>=λ u=>pure ())>>=λ u=>again (.compLoop (.ListComp e G s p) d it acc env)):=by unfold r1;exact L h rfl
theorem adP{l:m9}(h:G[d+1]?=B l)(c:(l.is_async !=0)=aj)(b:hY l.iter=S):r1 e G s P d it acc env=(bG l.iter env>>=λ x=>dZ l.iter.pos>>=λ u=>d_ [x] (tw x)>>=λ i=>
  runOwn (.compStart (.ListComp e G s P) (d+1) i acc env) env>>=λ u=>again (.compLoop (.ListComp e G s P) d it acc env)):=by
 unfold r1;refine L h ?_;dsimp only;refine L c ?_;simp only[GU b,pure_bind];rfl
theorem adQ(c:A1 g x sc env n o iE h7)(jr:G[depth+1]?=f.head?)(hd:G.drop (depth+1)=f)
  (w3:∀j,GW g x o env A2 acc (λ I=>.compLoop (.ListComp T G i P) (depth+1) I (.ref acc) env) j (nG sc N iE h7 T A2 f j))
  (e:GQ iE T A2 (nG sc N iE h7 T A2 f) f ρ σ=B (.ok ar,af))(In:aG g (a3 x o) α σ s.heap)(dm:1<=s.toks)(r2:bp g (a3 x o) env ρ α s.heap)(hy:α[A2]?=B acc)
  (hq:∀h' el aA,a_ (a3 x o).F (a3 x o).W α s.heap aA h'->aG g (a3 x o) aA af h'->1<=el->bp g (a3 x o) env ar aA h'->aO (a5 g.prog g.w) x.A (again (.compLoop (.ListComp T G i P) depth it (.ref acc) env)) Q E (cT s h' el)):
  aO (a5 g.prog g.w) x.A (r1 T G i P depth it (.ref acc) env) Q E s:=by
 have sub:∀b∈x.W,b∈o++x.W:=λ b=>aW _;have K:∀{ρ α σ h aA h'},aG g (a3 x o) α σ h->a_ x.F x.W α h aA h'->bp g (a3 x o) env ρ α h->bp g (a3 x o) env ρ aA h':=λ I st R=>bt.cF (bt.jW c.y.ok.cY c.y.ok.eu c.y.q _ _ _ _ _ I.dG st (bt.dG R));rcases f with _|⟨GX,gs'⟩
 ·refine L (adO jr) (Ev.mg e λ a q jT GY=>Ev.mg GY λ u V GZ dQ=>?_)
  have dQ:=bc (ak dQ);exact aB (aB (GS (c.Pb _ T) In dm r2 c.y jT λ v fw qa l k y t xh g9=>aB (Pa c.y.ok.cY y.dG (k.get hy) g9 GZ λ ei A lj=>bl (hq ei qa l (k.trans (A.cF sub)) (dQ.2▸lj.cF) t (Res.ok.inj dQ.1▸K y A xh)))))
 ·refine bN e λ ens eT=>Ev.mg eT λ a q jT GY=>Ev.mg GY λ adR V GZ dQ=>?_
  induction adR with
  |d _=>exact nn dQ|aH adS=>
  obtain⟨m,cH,hk'⟩:=Pc dQ;refine L (adP jr m ens) (aB (GS (c.Pb ρ GX.iter) In dm r2 c.y jT λ v fw qa l k y t xh g9=>aB (ko (aB (dT (AK (λ z z p=>p) l q _ _ V y.dG t g9 GZ _ _ (gk.ok λ it' ei lr uA A lj nH di=>av di λ eX X xi=>L xi ?_) eC.ok))))));refine aB (wpAny_runOwn (codeAny_mono (Pd lj X hk' jr m (w3 adS ρ ar uA V af _ eX (λ r s'=>match r with
    |.ok _=>aO _ x.A _ Q E s'|.error _=>False) dQ lj.cF nH (K y A xh) X ((k.trans (A.cF sub)).get hy) λ kG A3 A4 G0 xj xk adT=>hq kG A3 A4 ((k.trans (A.cF sub)).trans G0) xj xk adT)) λ r s' d1=>?_))
  exact match r,d1 with|.ok _,d1=>d1|.error _,d1=>d1.elim
theorem adU(c:A1 g x u env n o w F):
  ∀(a:H m9)(D:J),G.drop D=a->∀(j:J),GW g x o env W acc (λ I=>.compLoop (.ListComp E G i p) D I (.ref acc) env) j (nG u N w F E W a j):=by
 have sub:∀b∈x.W,b∈o++x.W:=λ b=>aW _;have K:∀{ρ α σ h aA h'},aG g (a3 x o) α σ h->a_ x.F x.W α h aA h'->bp g (a3 x o) env ρ α h->bp g (a3 x o) env ρ aA h':=λ I st R=>bt.cF (bt.jW c.y.ok.cY c.y.ok.eu c.y.q _ _ _ _ _ I.dG st (bt.dG R));intro a;induction a with
 |nil=>intro D hd j ρ ar α σ af s I R e;exact nn e
 |cons X a M=>
  intro D hd j;have C:=mw hd;have key:(X.is_async !=0)=aj->∀k,GW g x o env W acc (λ I=>.compLoop (.ListComp E G i p) D I (.ref acc) env) j (uy X.target (A0 u F X (GQ w E W (nG u N w F E W a) a)) j k):=by
   intro hy k;induction k with
   |zero=>intro ρ ar α σ af s I R e;exact nn e
   |succ k ihk=>
    refine λ ρ ar α σ af s I R e In dm r2 xl l hq=>b3 e λ q qb e=>adL (L (adI C.1 hy) ?_);obtain⟨r,V⟩:=q;induction r with
    |none=>have e:=bc (ak e);exact aB (λ Pe adV A5=>aB (OY (c.y.ok.handled c.pos) c.y.ok.cY c.y.ok.eu In.dG dm xl qb λ h' el st eX t=>bl (hq h' el α (st.cF sub) (e.2▸eX.cF) t (Res.ok.inj e.1▸K In st r2))))
    |some d=>
     refine bN e λ xm e=>Ev.mg e λ Pf oV ho iw=>b3 ho λ uB nA ho=>Ev.mg ho λ ok qc k7 eT=>λ Pe adV A5=>(aB (hS (turn (c.y.ok.handled c.pos) c.y.ok.cY c.y.ok.eu X.target In.dG dm xl qb xm (Q:=λ v s'=>aO _ x.A _ (GV g x R) _ s') (λ v c5 t1 m hD w8 g9=>aB (O4 (x:=a3 x o) (c.y.ok.handled c.pos) (λ b q=>(bB.mp q).elim (c.uz b) (c.y.ok.eu b)) c.y.ok.cY c.w c.cM ⟨by simp,λ z z z z=>by simp⟩ nA α V _ _ V hD.cF w8 ⟨K In m r2,g9⟩ rfl _ _ (λ b r cw h8 h9 dw mx eF i0 fN=>aB (GS (GR c.y (c.adK uB) S X.ifs) eF i0 fN c.y k7 λ b cZ t3 xn my fO T R3 P=>?_)) eC.ok))) (λ r s' cG=>av cG λ v e nI=>L e (aB nI)) λ z z y=>y)) Pe _ A5;have st:=((m.cF sub).trans mx).trans my;have go:=λ fw qa adW r3 iZ tk4 xh=>
      have A:=st.trans r3
      (bl ⟨rfl,ihk Pf ar adW oV af _ I R iw iZ tk4 xh (A.get xl) (A.get l) λ h' el aA G1 eX t r4=>hq h' el aA (A.trans G1) eX t r4⟩:aO (a5 g.prog g.w) x.A (again _) (GV g x R) (λ z z=>False) (cT s fw qa))
     exact(λ f k=>by
       induction b with
       |false=>exact f rfl|true=>exact k rfl) (λ h=>cq (adN (Y P.symm h) eT) λ c5 cw=>go cZ t3 xn (.refl ..) (cw▸fO) T (c5▸R3)) λ h=>adQ c (mw C.2).1 C.2 (M (D+1) C.2) (adM (Y P.symm h) eT) fO T R3 (st.get l) go
  exact λ ρ ar α σ af s I R e=>bN e λ hy=>key (l_ hy) N ρ ar α σ af s I R
theorem adX(c:A1 g x p env n o u h)
  (a:H m9)(d:J)(l:G.drop d=a)(j:J)(ρ ar:az)(α:H ao)(σ af:aE)(s:aU)(I:ao)(R:Ej->aU->Prop)(e:nG p N u h E f a j ρ σ=B (.ok ar,af))(In:aG g (a3 x o) α σ s.heap)(T:1<=s.toks)(r:bp g (a3 x o) env ρ α s.heap)(q:α[j]?=B I)(k:α[f]?=B acc)
  (m:∀h' t aA,a_ (a3 x o).F (a3 x o).W α s.heap aA h'->aG g (a3 x o) aA af h'->1<=t->bp g (a3 x o) env ar aA h'->R (.ok .next) (cT s h' t)):v8 (a5 g.prog g.w) x.A (.compLoop (.ListComp E G i P) d (.ref I) (.ref acc) env) R s:=
 adU c a d l j ρ ar α σ af s I R e In T r q k m
end
noncomputable def wz:H (ai×lZ)->aF
 |[]=>S|(n,_)::r=> !(r.any λ p=>p.1==n)&&wz r
theorem uC{l:H (ai×lZ)} :wz l=S->(n,k)∈l->l.lookup n=B k:=by induction l with|nil=>exact λ u h=>aS h dS|cons p r I=>refine λ h s=>L gY ((dM.mp s).elim (λ e=>e▸L (BEq.rfl:(n==n)=S) rfl) λ i=>dO (n==p.1) (λ q=>?_) λ q=>L q (I (bo h).2 i));have h:=(bo h).1;rw[K8.mpr ⟨_,i,q⟩]at h;exact bw h
noncomputable def mz(C:H (ai×ao)):H (ai×lZ)->H (ai×ao)->U (H (ai×ao))
 |[],acc=>B acc
 |(n,k)::r,acc=>match k==.free with
  |true=>match C.lookup n with
   |some c=>mz C r ((n,c)::acc)|none=>aa
  |false=>mz C r acc
theorem adY{C:H (ai×ao)}{f:ai×lZ->H (ai×ao)->bj (pH (H (ai×ao)))}(W:∀{p c r},(p.2==.free)=S->C.lookup p.1=B c->f p r=pure (.yield ((p.1,c)::r)))(j:∀{p r},(p.2==.free)=aj->f p r=pure (.yield r)):∀{acc},mz C n acc=B cl->forIn n acc f=(pure cl:bj _):=by
 induction n with
 |nil=>exact λ e=>ak e▸List.forIn_nil ..
 |cons p r i=>
  intro acc e;dsimp only[mz]at e;refine L (kZ ..) (dO (p.2==.free) (λ h=>eD (C.lookup p.1) (λ A=>?_) λ c A=>?_) λ h=>?_)
  ·rw[h,A]at e;exact nn e
  ·rw[h,A]at e;exact L (W h A) (i e)
  ·rw[h]at e;exact L (j h) (i e)
theorem adZ(e:mz env.cells s.names []=B cl):zB s env=pure cl:=by
 dsimp only[zB];rw[adY (λ h A=>?_) (λ h=>?_) e]
 ·rfl
 ·rw[bC h];unfold cellOf;rw[A];rfl
 ·exact a6 (h▸hN)theorem ad0{C:H (ai×ao)} :∀{acc},(∀n,(n,tB)∈N->(C.lookup n).isSome=S)->∃cl,mz C N acc=B cl:=by induction N with|nil=>exact λ u=>⟨_,rfl⟩|cons p r i=>intro acc h;dsimp only[mz];have w:=λ n (e:(n,tB)∈r)=>h n (c7 _ e);refine dO (p.2==.free) (λ o=>L o (a7 (KO.mp (h p.1 ?_)) λ c A=>L A (i w))) λ o=>L o (i w);rw[<-cI.mp o];exact cV
theorem Pg{acc:H (ai×ao)}{P:U ao->Prop}{v:lZ}(t:n=m->P (B c))(q:P (acc.lookup n)\/(n,v)∈(m,k)::r):P (Y3 n ((m,c)::acc))\/(n,v)∈r:=
 L gY (dO (n==m) (λ s=>L s (.inl (t (cI.mp s)))) λ s=>L s (q.imp_right λ h=>(dM.mp h).elim (λ e=>aS (bc e).1 (aog s)) id))theorem Ph{v:lZ}(o:(k==v)=aj)(q:p\/(n,v)∈(m,k)::r):p\/(n,v)∈r:=q.imp_right λ h=>(dM.mp h).elim (λ e=>aS (bc e).2.symm (aog o)) id
theorem Pj{C:H (ai×ao)} :∀{acc},mz C N acc=B cl->acc.lookup n=C.lookup n\/(n,tB)∈N->cl.lookup n=C.lookup n:=by
 induction N with
 |nil=>exact λ e q=>ak e▸q.resolve_right dS
 |cons p r i=>
  intro acc e q;dsimp only[mz]at e;refine dO (p.2==.free) (λ h=>eD (C.lookup p.1) (λ A=>?_) λ c A=>?_) λ h=>?_
  ·rw[h,A]at e;exact nn e
  ·rw[h,A]at e;exact i e (Pg (P:=(· =C.lookup n)) (λ e=>e▸A.symm) q)
  ·rw[h]at e;exact i e (Ph h q)theorem A6:∀{k acc},(n,Ek)∉N->(gz k N acc).lookup n=acc.lookup n:=by induction N with|nil=>exact λ u=>rfl|cons p r i=>intro k acc q;dsimp only[gz];have w:=λ h=>q (c7 _ h);refine dO _ (λ o=>L (bC o) (Y (i w) (Y gY (dO (n==p.1) (λ s=>(q ?_).elim) λ s=>L s rfl)))) λ o=>L (a6 (o▸hN)) (i w);rw[cI.mp s,<-cI.mp o];exact cV
theorem xo:∀{k acc},j<=k->(∃c,acc.lookup n=B c/\j<=c)\/(n,Ek)∈N->∃c,(gz k N acc).lookup n=B c/\j<=c:=by induction N with|nil=>exact λ u q=>q.resolve_right dS|cons p r i=>intro k acc E q;dsimp only[gz];exact dO _ (λ h=>L (bC h) (i (ip E) (Pg (P:=λ o=>∃c,o=B c/\j<=c) (λ u=>⟨k,rfl,E⟩) q))) λ h=>L (a6 (h▸hN)) (i E (Ph h q))def bk(n:J)(m:cj):Bool:=(NL m).all λ j=>bE j n
theorem Pk{α:H ao}(e:(α++p)[j]?=B b)(h:bE j (O α)=S):α[j]?=B b:=by rw[vU (Z.blt_iff.mp h)]at e;exact e
theorem d2.cut(r:d2 P X (α++p) h a m)(ok:bk (O α) m=S)(s:h.objs.size<=h'.objs.size)(c:h'.get? a=h.get? a)(k:fX h h' X Yq):d2 P Yq α h' a m:=r.mf s c k λ j b q e=>Pk e (b9.mp ok j q)
theorem c0.cut(s:h.objs.size<=h'.objs.size)(k:fX h h' X Yq){as:H ao} :
  ∀{bs:H ao}{m:aE},c0 P X (α++e) h (as++bs) m->(∀a∈as,h'.get? a=h.get? a)->(m.take (O as)).all (bk (O α))=S->c0 P Yq α h' as (m.take (O as)):=by
 induction as with|nil=>intro u u u u u;exact .nil|cons a as i=>intro bs m r c ok;rcases r with _|⟨r,R⟩;obtain ok:=bo ok;exact .cons (r.cut ok.1 s (c a cV) k) (i R (λ b q=>c b (c7 _ q)) ok.2)
theorem c0.ad1(s:h.objs.size<=h'.objs.size)(k:∀b o,h.get? b=B o->h'.get? b=B o)(K:∀b o,h.get? b=B o->b∉X->b∉Yq)
  (r:c0 P X α h as ms):c0 P Yq α h' as ms:=by
 induction r with
 |nil=>exact .nil
 | @cons a as m ms r R i=>
  refine .cons ?_ i;by_cases e:m=.cX
  ·subst e;exact eo r s
  ·exact r.mono s (a7 (r.there e) λ o e=>Y (k _ _ e) e.symm) (λ b o e n=>⟨k _ _ e,K _ _ e n⟩) eV
theorem aG.Pl(I:aG g x α σ h)(l:h.objs.size<=a):g.K.get? a=none:=eD _ id λ o e=>aS (dI (I.base _ _ e)) (ez.mpr l)
theorem aG.fJ{W:H ao}(I:aG g x α σ h)(fresh:∀b∈W,h.objs.size<=b)(l:∀b∈W,∃o,h'.get? b=B o)(k:∀b o,h.get? b=B o->h'.get? b=B o)(s:h.objs.size<=h'.objs.size):aG g (Internal.fJ x W) α σ h':=
 have j:=I.keeps k s
 ⟨j.base,j.big,λ a c=>c.elim (λ c=>(bB.mp c).elim (λ c=>⟨I.Pl (fresh a c),bA I.big (fresh a c)⟩) λ c=>I.b2 a (.inl c)) λ c=>I.b2 a (.inr c),λ a c=>(bB.mp c).elim (l a) (j.alive a),j.dv,λ a c q=>(bB.mp q).elim (λ q=>aS (I.bM.lt a c) (ez.mpr (fresh a q))) (I.c8 a c),c0.ad1 s k (λ b o e n q=>(bB.mp q).elim (λ q=>(bB.mp q).elim (λ q=>aS (dI e) (ez.mpr (fresh b q))) λ q=>n (bL _ q)) λ q=>n (aW _ q)) I.bM,j.fr,j.old⟩
theorem aG.cut{W:H ao}{h'':aX}(I:aG g (Internal.fJ x W) (α++p) σ h')(G:cb x.F x.P)(ok:(σ.take (O α)).all (bk (O α))=S)(y:∀b∈W,b∉x.P/\b∉α)(same:∀b,b∉W->h''.get? b=h'.get? b)(s:h'.objs.size<=h''.objs.size):
  aG g x α (σ.take (O α)) h'':=by
 have N:=λ b u q=>(y b q).1 u;refine⟨?_,bA I.big s,λ a h=>I.b2 a (h.imp (aW _) λ q=>bL _ q),λ a h=>a7 (I.alive a (aW _ h)) λ o e=>⟨o,Y (same a (N a h)) e⟩,(rl.mp I.dv).1,λ a h q=>I.c8 a (bL _ h) (aW _ q),?_,λ e z=>(I.fr e z).e λ l o q b c d r=>⟨q,l,o,b,c,Y (same l (N l (G l c))) d,r⟩,?_⟩
 ·refine λ b o e=>Y (same b λ q=>?_) (I.base b o e)
  rw[(I.b2 b (.inl (bL _ q))).1]at e;exact nn e
 ·exact c0.cut s (λ b o e n=>⟨Y (same b (λ q=>n (bL _ (bL _ q)))) e,λ q=>n ((bB.mp q).elim (λ q=>bL _ (aW _ q)) λ q=>aW _ (bL _ q))⟩) I.bM (λ a h=>same a λ q=>(y a q).2 h) ok
 ·refine Gf I.old (λ a q=>(I.b2 a (.inl (bL _ q))).2) λ b o q=>(same b q).trans
noncomputable def uD(s:bW)(ρ:az):az:=ρ.filter λ p=>s.names.lookup p.1==B tB
theorem G2(e:(uD s ρ).lookup n=B v):s.names.lookup n=B .free/\ρ.lookup n=B v:=
 have q:=O6 (p:=λ m=>s.names.lookup m==B tB) e
 ⟨eq_of_beq q.1,q.2⟩theorem ad2{f:ai×lZ->ai×lZ}(M:∀p,(f p).1=p.1/\(p.2=(f p).2\/p.2=.free/\(f p).2=.cell)){l:H (ai×lZ)} :l.lookup n=(l.map f).lookup n\/l.lookup n=B .free/\(l.map f).lookup n=B .cell:=by induction l with|nil=>exact .inl rfl|cons p r i=>rw[lY,gY,gY,(M p).1];exact dO (n==p.1) (λ h=>L h ((M p).2.imp (aM B) λ q=>⟨aM B q.1,aM B q.2⟩)) λ h=>L h i
theorem G3(s:bW)(env:cn)(A:c.scope=relabel s env):fa s c:=by intro n;unfold Env.kindOf;refine L A (ad2 λ p=>?_);dsimp only;refine(Li _).elim (λ h=>L (bC h) ⟨rfl,.inr ⟨eq_of_beq (bo (bo h).1).1,rfl⟩⟩) λ h=>L (a6 h) ⟨rfl,.inl rfl⟩theorem A7:∀(n:H (ai×lZ)){k:J}{acc:H (ai×ao)},gz k n acc=gz k n []++acc:=by intro n;induction n with|nil=>exact rfl|cons p r i=>intro k acc;dsimp only[gz];exact(Li _).elim (λ h=>L (bC h) (L (bC h) (Y i (L (i (acc:=[_])) (eb .. ▸rfl))))) λ h=>L (a6 h) (L (a6 h) i)
noncomputable def compEnv(s:bW)(cl:H (ai×ao))(C:ao)(env:cn):Env:=
 {scope:=relabel s env,locals:=C,globals:=env.globals,cells:=gz (C+1) s.names cl,qual:=env.qual,func:=aa,code:=env.code,frame:=env.frame,builtins:=env.builtins}noncomputable def uE(h:aX)(s:bW):Heap:=Lj (h.push {cls:=.type "dict",data:=.dict #[] }) s.names
noncomputable def h_(s:bW)(C:ao):H Addr:=C::(gz (C+1) s.names []).map (·.2)
theorem ad3
  (h:∀c,{c with scope:=relabel p env} =compEnv p cl s.heap.objs.size env->c.locals=s.heap.objs.size->Q c {s with heap:=uE s.heap p}):aO M A (Lk p env.globals cl [] env.qual aa .none (B env)) Q E s:=by
 dsimp only[Lk];exact aB (Y8 (aB (wpAny_layCells _ (λ name k C=>by cases r:k==Ek<;>rfl) _ _ _ _ (L (er ..) (aB (bl (bl (h _ rfl rfl))))))))
theorem A8:∀(n:H (ai×lZ))(h:aX),h.objs.size<=(Lj h n).objs.size
 |[],h=>bH _
 |(m,q)::r,h=>by
  dsimp only[Lj];split
  ·exact bA (by rw[er];exact hg _) (A8 r _)
  ·exact A8 r h
def nJ(s C:bW):Bool:=wz C.names&&(C.kind==.function)&&C.names.all λ p=> !(p.2==.free)||iB (s.names.lookup p.1)
theorem r5(ok:nJ s c=S)(C:fa s env)(h:c.names.lookup m=B .free):iB (env.kindOf m)=true:=by
 obtain⟨_,v⟩:=bF.mp ok;rcases C m with e|⟨_,e⟩
 ·rw[<-e];exact(b9.mp v _ (mem_of_lookup h))
 ·exact L e rfl
theorem G4(s:bW):∀b o,h.get? b=B o->(uE h s).get? b=B o:=λ b o e=>v9 _ _ _ _ (dy _ e)theorem Pm(s:bW):h.objs.size+1<=(uE h s).objs.size:=bA (by simp only[er];exact bH _) (A8 s.names (h.push {cls:=.type "dict",data:=.dict #[] }))theorem r6(s:bW):CellsOk (uE h s) (h.objs.size+1) (gz (h.objs.size+1) s.names []):=by obtain ok:=cellsFrom_ok s.names (h.push {cls:=.type "dict",data:=.dict #[] }) _ [] ⟨λ u u e=>(aS e dS),aoh⟩ (L (er ..) (bH _));rw[er]at ok;exact ok
theorem xp{h:aX}(s:bW):∀b∈h_ s h.objs.size,h.objs.size<=b:=by
 intro b q;rcases dM.mp q with rfl|q
 ·exact bH _
 ·exact av (iP.mp q) λ p u w=>ax w (jN ((r6 s).empty p.1 p.2 u).2)
theorem ad4(ok:nJ sc C=S)(D:fa sc env)(I:aG g x α σ h)(iC:cb x.F x.P)(R:bt g x env ρ α h)(X:mz env.cells C.names []=B cl):
  bt g (fJ x (h_ C h.objs.size)) (compEnv C cl h.objs.size env) (uD C ρ) α (uE h C):=by
 refine cq (bF.mp ok) λ G ok3=>?_;obtain⟨y,a⟩:=bF.mp G;obtain uF:∀b o,h.get? b=B o->b∉x.P++α->(uE h C).get? b=B o/\b∉(h_ C h.objs.size++x.P)++α:=by
  refine λ b o e n=>⟨G4 C b o e,λ q=>?_⟩;simp only[bB]at q n;rcases q with(q|q)|q
  ·exact aS (dI e) (ez.mpr (xp C b q))
  ·exact n (.inl q)
  ·exact n (.inr q)
 obtain i:fa C (compEnv C cl h.objs.size env):=G3 C env rfl;have E:∀m,C.names.lookup m=B .cell->∃c,(compEnv C cl h.objs.size env).cells.lookup m=B c/\(m,c)∈gz (h.objs.size+1) C.names []:=by refine λ m r=>av (xo (bH _) (.inr (mem_of_lookup r))) λ c W w=>(⟨c,?_,mem_of_lookup W⟩);show(gz _ C.names cl).lookup m=B c;rw[A7,El,W];rfl
 have s:∀m,C.names.lookup m=B .free->(compEnv C cl h.objs.size env).cells.lookup m=env.cells.lookup m:=by intro m r;show(gz _ C.names cl).lookup m=_;rw[A6 (λ q=>by rw[uC y q]at r;exact nomatch r),Pj X (.inr (mem_of_lookup r))]
 have K:∀m,iB ((compEnv C cl h.objs.size env).kindOf m)=S->C.names.lookup m=B .cell\/C.names.lookup m=B .free:=by
  intro m r;rcases i m with e|⟨e,_⟩
  ·rw[<-e]at r
   cases Q:C.names.lookup m with|none=>rw[Q]at r;exact bw r|some k=>rw[Q]at r;induction k<;>first|exact .inl rfl|exact .inr rfl|exact bw r
  ·exact .inr e
 refine⟨(by show C.kind=.function;simpa using a),R.gl,R.cc,bL _ (cV ..),⟨λ w=>aa,(Heap.Ns.new h _).keeps (v9 _ _),λ m v T Q=>?_⟩,λ m r=>?_,λ m M c r V e l=>?_⟩
 ·obtain N:=(G2 T).1
  rcases i m with e|⟨_,e⟩
  ·rw[N]at e;rw[<-e]at Q;exact aS Q (by decide)
  ·rw[e]at Q;exact aS Q (by decide)
 ·rcases K m r with A|N
  ·refine av (E m A) λ c W j=>?_
   have ce:=(r6 C).empty m c j;refine⟨c,W,bL _ (c7 _ (iP.mpr ⟨_,j,rfl⟩)),λ q=>a7 (I.alive c (iC c q)) λ o e=>aS (dI e) (ez.mpr (jN ce.2)),λ q=>?_,aa,ce.1,λ v T=>?_⟩
   ·obtain ho:=ce.2
    rw[q]at ho;exact Ll _ ho
   ·have:=(G2 T).1
    rw[A]at this;exact nomatch this
  ·exact R.jV (r5 ok D N) λ c nx W j t cZ p ei=>⟨c,Y (s m N) W,aW _ j,t,λ q=>hu _ (q▸p.lt),nx,p.keeps (G4 C),λ v T=>av (ei v (G2 T).2) λ u mi iW=>(⟨u,mi,iW.mono uF eV⟩)⟩
 ·rcases K m r with A|N
  ·refine av (E m A) λ gG W j=>?_
   rw[e]at W;obtain rfl:=ak W;rcases K M V with f|P
   ·refine av (E M f) λ j1 d t=>?_
    rw[l]at d;obtain rfl:=ak d;exact name_of_addr (r6 C).apart j t
   ·refine R.jV (r5 ok D P) λ j1 nx F gB z z p z=>?_
    rw[s M P,F]at l;obtain rfl:=ak l;exact aS (eo p.lt (jN ((r6 C).empty m _ j).2)) (hu _)
  ·refine R.jV (r5 ok D N) λ gG nx F gB z z p z=>?_
   rw[s m N,F]at e;obtain rfl:=ak e;rcases K M V with f|P
   ·refine av (E M f) λ j1 d t=>?_
    rw[l]at d;obtain rfl:=ak d;exact aS (eo p.lt (jN ((r6 C).empty M _ t).2)) (hu _)
   ·rw[s M P]at l
    exact R.ap m M _ (r5 ok D N) (r5 ok D P) F l
noncomputable def G5(bf:aF)(n:J)(xs:H D)(σ:aE):Res V×aE:=match bf with|false=>(.ok (.d (.ae xs)),σ)|true=>(.ok (.aH n),σ++ [.ae xs])def ad5(bf:aF)(N:J)(c:bW)(first:Ev V)(E:az->aJ->Ev V)(h:az->aJ->Ev aF)(e:aJ)(g:H m9)(ρ:az):Ev V:=λ σ=>oO (first σ) λ a b=>oO (g8 a b) λ v p=>hA v λ j=>oO (nG c N E h e (O p) g j (uD c ρ) (p++ [.ae []])) λ u i=>jU i[O p]? λ xs=>bR ((i.take (O σ)).all (bk (O σ))) (B (G5 bf (O σ) xs (i.take (O σ))))def jt(bf:aF)(N:J)(s c:bW)(first:Ev V)(E:az->aJ->Ev V)(h:az->aJ->Ev aF)(e:aJ)(g:H m9)(ρ:az):Ev V:=λ σ=>match g with|[]=>aa|G::a=>bR (nJ s c&&hY G.iter) (ad5 bf N c first E h e (G::a) ρ σ)
theorem Pn(e:jt bf N s c first u h E g ρ σ=B (o,af)){G:Prop}
  (k:∀X d a b j p V i xs,g=X::d->(nJ s c&&hY X.iter)=S->first σ=B (.ok a,b)->g8 a b=B (.ok (.aH j),p)->nG c N u h E (O p) (X::d) j (uD c ρ) (p++ [.ae []])=B (.ok V,i)->i[O p]?=B (.ae xs)->(i.take (O σ)).all (bk (O σ))=S->
    G5 bf (O σ) xs (i.take (O σ))=(o,af)->G):G:=by
 rcases g with _|⟨X,d⟩
 ·exact nn e
 ·exact bN e λ ok e=>t6 e λ a b R e=>t6 e λ v p f e=>nv e λ j A e=>t6 e λ V i W e=>oP e λ xs F e=>bN e λ m e=>k X d a b j p V i xs rfl ok R (A▸f) W F m (ak e)
theorem ad6(ok:(nJ s c&&hY g.iter)=S)(E:first σ=B (.ok a,b))(f:g8 a b=B (.ok (.aH j),p))(V:nG c N u h e (O p) (g::G) j (uD c ρ) (p++ [.ae []])=B (.ok W,i))(F:i[O p]?=B (.ae xs))(m:(i.take σ.length).all (bk σ.length)=S):
  jt bf N s c first u h e (g::G) ρ σ=B (G5 bf (O σ) xs (i.take (O σ))):=
 Y (eh ok) (Y (wL E) (Y (wL f) (Y (ab_ _ _) (Y (wL V) (Y (rT F) (eh m))))))
theorem Po(e:jt bf N s c first v h E g ρ σ=B (o,af)):∃r,o=.ok r:=
 Pn e λ u u u u u u u u u u u u u u u u q=>by induction bf<;>exact⟨_,(aM Y6 q).symm⟩
theorem ad7(y:cU g x env n)(ok:nJ t C=S)(F:fa t env)(I:aG g x α σ h)(R:bt g x env ρ α h)(j:mz env.cells C.names []=B cl):
  cU g (fJ x (h_ C h.objs.size)) (compEnv C cl h.objs.size env) n/\p9 (Internal.cF (fJ x (h_ C h.objs.size)) (h_ C h.objs.size++(fJ x (h_ C h.objs.size)).W)) C (compEnv C cl h.objs.size env):=by
 refine cq (bF.mp ok) λ D Q=>?_;obtain⟨s,a⟩:=bF.mp D;have w:=λ b r=>a7 (I.alive b (y.ok.eu b r)) λ o=>dI;have E:∀m,C.names.lookup m=B .cell->∃c,(compEnv C cl h.objs.size env).cells.lookup m=B c/\(m,c)∈gz (h.objs.size+1) C.names []:=by refine λ m p=>av (xo (bH _) (.inr (mem_of_lookup p))) λ c X u=>(⟨c,?_,mem_of_lookup X⟩);show(gz _ C.names cl).lookup m=B c;rw[A7,El,X];rfl
 refine⟨⟨y.base,⟨λ b r=>aW _ (y.ok.cY b r),λ b r=>aW _ (y.ok.eu b r),y.ok.frames,y.ok.handled,y.ok.depth,y.ok.units,y.ok.nolimit⟩,⟨λ q=>hu _ (w _ q),λ m c p e q=>?_⟩⟩,⟨bL _ (cV ..),λ m c p e=>?_⟩⟩
 ·obtain K:C.names.lookup m=B .cell\/C.names.lookup m=B .free:=by
   rcases(G3 C env rfl:fa C (compEnv C cl h.objs.size env)) m with e|⟨e,_⟩
   ·rw[<-e]at p
    cases P:C.names.lookup m with|none=>rw[P]at p;exact bw p|some k=>rw[P]at p;induction k<;>first|exact .inl rfl|exact .inr rfl|exact bw p
   ·exact .inr e
  rcases K with A|M
  ·refine av (E m A) λ T X l=>?_
   rw[e]at X;obtain rfl:=ak X;exact aS (w _ q) (ez.mpr (jN ((r6 C).empty m _ l).2))
  ·have f:(gz _ C.names cl).lookup m=B c:=e
   rw[A6 (λ q=>by rw[uC s q]at M;exact aS M (by decide)),Pj j (.inr (mem_of_lookup M))]at f;exact y.q.2 m c (r5 ok F M) f q
 ·refine av (E m p) λ T X l=>?_
  rw[e]at X;exact L (ak X) (bL _ (c7 _ (iP.mpr ⟨_,l,rfl⟩)))theorem a_.Pp{F W α s own:H ao}(st:a_ F (own++W) α h (α++s) h')(fresh:∀b∈own,h.objs.size<=b):a_ F W α h α h':=by have nb:∀b o,h.get? b=B o->b∉own:=λ b o e q=>aS (dI e) (ez.mpr (fresh b q));exact⟨st.size,w0,λ b o e f w n=>st.same b o e f (λ q=>(bB.mp q).elim (nb b o e) w) n,λ b o e w n=>st.slot b o e (λ q=>(bB.mp q).elim (nb b o e) w) n⟩theorem a_.ad8{F W α e o:H ao}{acc:ao}(st:a_ F (o++W) α h (α++e) h')(fresh:∀b∈o,h.objs.size<=b)(c:h.objs.size<=acc):a_ F W α h (α++ [acc]) h':=by obtain s:=st.Pp fresh;exact⟨s.size,⟨[acc],rfl,λ a q=>L (ek.mp q) c⟩,s.same,s.slot⟩
theorem G6(h:∀a,f≠ .ref a)(first:H aq)(ay:H (bj aq)):
  rp P f first (ay.map λ t=>(aj,t)) []=(d_ (f::first) (v_ f S (ay.map λ t=>(aj,t)) [])>>=λ a=>dZ P>>=λ u=>call f (first++a.pos) a.kw>>=λ r=>d_ [r] point>>=λ u=>pure r):=by
 obtain e:(ay.map λ t=>(aj,t)).any (·.1)=false:=by induction ay with|nil=>rfl|cons t ay i=>exact i
 dsimp only[rp];rw[(show keeperOf f=pure .machine from by
   induction f<;>first|rfl|exact aS rfl (h _)),e];rfl
theorem Pq(f:aq)(ay:H (bj aq))(ks:H (ai×bj aq)):v_ f S (ay.map λ t=>(aj,t)) (ks.map λ p=>(B p.1,p.2))=
  (vY (ay.map λ t=>(aj,t))>>=λ vs=>d_ vs (evalAll (ks.map (·.2))>>=λ u=>pure ⟨vs,(ks.map (·.1)).zip u⟩)):=by
 dsimp only[v_];refine L (show(ks.map λ p=>(B p.1,p.2)).all _=S by simp) (L (Y List.filterMap_map (pI List.filterMap_eq_map' ks):(ks.map λ p=>(B p.1,p.2)).filterMap (λ q:U ai×bj aq=>q.1)=ks.map _) (L v3 ?_));rcases ay with _|⟨t,_|⟨T,ay⟩⟩
 all_goals
  refine aM (bind _) (funext λ vs=>?_);show d_ _ _=_;refine ax ((ea ..).symm) ?_;rfl
theorem evalArgs_plain(f:aq)(ay:H (bj aq)):v_ f S (ay.map λ t=>(aj,t)) []=(vY (ay.map λ t=>(aj,t))>>=λ vs=>d_ vs (pure ⟨vs,[]⟩)):=Y (Pq f ay []) rfl
def xq:D->U ah
 |.str s=>a8 (aZ s.length 16777216) (B (s.length:ah))|.ae xs=>a8 (dc xs) (B (O xs:ah))|.aD xs=>a8 (dc xs) (B (O xs:ah))|_=>aa
noncomputable def xr:D->U ah
 |.str s=>match s.cps.toList with
  |[c]=>B (c:ah)|_=>aa
 |_=>aa
noncomputable def one{A Bq:Type}(l:H A)(f:A->U Bq):U Bq:=match l with|[a]=>f a|_=>aa
theorem j2{A Bq:Type}{l:H A}{f:A->U Bq}{r:Bq}(e:one l f=B r){G:Prop}(k:∀a,l=[a]->f a=B r->G):G:=by
 rcases l with _|⟨a,_|_⟩
 ·exact nn e
 ·exact k a rfl e
 ·exact nn e
noncomputable def two{A Bq:Type}(l:H A)(f:A->A->U Bq):U Bq:=match l with|[a,b]=>f a b|_=>aa
theorem nK{A Bq:Type}{l:H A}{f:A->A->U Bq}{r:Bq}(e:two l f=B r){G:Prop}(k:∀a b,l=[a,b]->f a b=B r->G):G:=by
 rcases l with _|⟨a,_|⟨b,_|⟨c,l⟩⟩⟩
 ·exact nn e
 ·exact nn e
 ·exact k a b rfl e
 ·exact nn e
def Pr:D->U D:=iX λ i=>a8 (decide (0<=i)&&decide (i<=0x10FFFF)) (B (.str ⟨#[i.toNat]⟩))
def e5(f:D->U D):H V->Ev V
 |[a]=>(Ev.read a).bind λ d=>Ev.ofD (f d)|_=>.au
def A9(f:ah->Ev V)(a:V):Ev V:=match a with
 |.d d=>match d with
  |.int i=>f i|_=>.au
 |.aH _=>.au
def Pt(f:H D->Ev V)(a:V):Ev V:=match a with
 |.d d=>match d with
  |.ae xs=>f xs|_=>.au
 |.aH _=>.au
def A_(as:H V):Ev V:=match as with|[]=>.au|a::t=>match t with|[]=>A9 (λ b=>rX (.hX 0 b)) a|b::t=>match t with|[]=>A9 (λ a=>A9 (λ b=>rX (.hX a b)) b) a|_::_=>.au
def Pu(as:H V):Ev V:=match as with|[]=>.au|a::t=>match t with|[]=>Pt (λ xs=>rX (.it (.rev xs (O xs)))) a|_::_=>.au
def eN(g:bX)(x:bD)(F:aq)(m:H V->Ev V):Prop:=∀vs as,ag g x (λ α h=>bU (x.P++α) α h vs as) (dA x) (call F vs) (m as)
theorem oW(G:∀v d r,f d=B r->∀α σ s,aG g x α σ s.heap->1<=s.toks->RD (x.P++α) s.heap v d->∀(Q:aq->aU->Prop)(E:aq->aU->Prop),
   hl x α s Q r->aO (a5 g.prog g.w) x.A (call F [v]) Q E s):eN g x F (e5 f):=by
 intro vs as;rcases as with _|⟨a,as⟩;case nil=>exact .au
 case cons=>
  rcases as with _|⟨_,_⟩;case cons=>exact .au
  case nil=>
   rcases vs with _|⟨v,vs⟩;case nil=>intro α σ s o af I t p;exact nomatch p
   case cons=>
    rcases vs with _|⟨_,_⟩;case cons=>intro α σ s o af I t p;cases p with|cons _ q=>exact nomatch q
    case nil=>refine ag.ghost (λ α h p=>by cases p with|cons r _=>exact r) λ d=>ag.toV ?_;cases e:f d with|none=>exact .au|some r=>exact ag.wp λ α σ s I t p=>G v d r e α σ s I t p.2
def Pw(g:bX)(x:bD)(r:D)(F v:aq):Prop:=∀(s:aU)(Q:aq->aU->Prop)(E:aq->aU->Prop),(∀v t,aV [] ⟨#[],{}⟩ v r->Q v {s with toks:=t})->aO (a5 g.prog g.w) x.A (call F [v]) Q E s
theorem Px(h:∀z t r,f z=B r->Pw g x r F (.str z t)):eN g x F (e5 (hB f)):=
 oW (λ v d r e α σ s I T p Q E G=>by
  rcases d with _|_|_|_|z|_|_|_|_|_|⟨_,_⟩;case str=>obtain⟨t,rfl⟩:=p.str;exact h z t r e s Q E G.plain
  all_goals exact nn e)
theorem Ba(h:∀i t r,f i=B r->Pw g x r F (.int i t)):eN g x F (e5 (iX f)):=
 oW (λ v d r e α σ s I T p Q E G=>by
  rcases d with _|_|i|_|_|_|_|_|_|_|⟨_,_⟩;case int=>obtain⟨t,rfl⟩:=p.int;exact h i t r e s Q E G.plain
  all_goals exact nn e)
theorem Py:eN g x (.builtin "len") (e5 (λ d=>(xq d).map D.int)):=
 oW (λ v d r e α σ s I T p Q E h=>by
  refine av (hR.mp e) λ i R w=>?_;subst w;rcases d with _|_|_|_|z|_|_|_|xs|xs|⟨_,_⟩;case str=>obtain⟨t,rfl⟩:=p.str;obtain⟨q,f⟩:=dn (R);obtain rfl:=ak f;have q:=b8 q;exact P.len_str (by lia) (h _ s.heap _ (λ u u e=>e) (bH _) (.int _ _))
  case ae=>obtain⟨l,W,rfl,y,n⟩:=p.ml;obtain⟨q,f⟩:=dn R;cases f;have q:=b8 q;have a:=n.length;refine Calls.call_len_list y.isList (by simp;lia) ?_;simp[hT,a];exact h _ s.heap _ (λ u u e=>e) (bH _) (.int _ _)
  case aD=>obtain⟨l,W,rfl,N,n⟩:=p.t9;obtain⟨q,f⟩:=dn R;cases f;have q:=b8 q;have a:=n.length;refine PyProof.Rows.len_tuple N.isTup (by simp;lia) ?_;simp[hT,a];exact h _ s.heap _ (λ u u e=>e) (bH _) (.int _ _)
  all_goals exact nn R)
theorem Pz:eN g x (.builtin "ord") (e5 (λ d=>(xr d).map D.int)):=
 oW (λ v d r e α σ s I T p Q E h=>by
  refine av (hR.mp e) λ i R w=>?_;subst w;rcases d with _|_|_|_|z|_|_|_|_|_|⟨_,_⟩
  case str=>
   obtain⟨t,rfl⟩:=p.str;obtain⟨C⟩:=z;obtain⟨l⟩:=C;rcases l with _|⟨c,l⟩;case nil=>exact nn R
   case cons=>
    rcases l with _|⟨_,_⟩;case cons=>exact nn R
    case nil=>obtain rfl:=ak R;exact P.ord_of_char (h _ s.heap _ (λ u u e=>e) (bH _) (.int _ _))
  all_goals exact nn R)
theorem G7(w:∀α h,pre α h->a9 (x.P++α) α h v a)(M:∀i t,v=.int i t->ag g x pre (dA x) c (f i)):ag g x pre (dA x) c (A9 f a):=by
 rcases a with d|i
 ·rcases d with _|b|i|u|s|n|n|a|xs|xs|⟨c,xs⟩
  case int=>exact λ α σ s o af I T p=>a7 (aV.inv (w _ _ p)) λ t e=>M i t e α σ s o af I T p
  all_goals exact .au
 ·exact .au
theorem ad9(u:∀α h,pre α h->a9 (x.P++α) α h v a)(M:∀xs,ag g x (λ α h=>pre α h/\aV (x.P++α) h v (.ae xs)) (dA x) c (f xs)):ag g x pre (dA x) c (Pt f a):=by induction a with|aH=>exact .au|d d=>cases d with|ae xs=>exact(M xs).pre λ α h p=>⟨p,u α h p⟩|_=>exact .au
theorem qd(p:bU X α h [v] [a]):a9 X α h v a:=by cases p;assumption
theorem r7(p:bU X α h [v,u] [a,b]):a9 X α h u b:=by cases p with|cons _ q=>exact qd q
theorem oX(p:bU X α h [v,u] [a,b]):a9 X α h v a:=by cases p;assumption
theorem uG(p:bU X α h vs [a]):∃v,vs=[v]:=by cases p with|cons r q=>cases q;exact⟨_,rfl⟩theorem Bb(p:bU X α h vs [a,b]):∃v u,vs=[v,u]:=by cases p with|cons r q=>obtain⟨u,rfl⟩:=uG q;exact(bh _ _ rfl)theorem G8(h:∀v,ag g x (λ α h=>bU (x.P++α) α h [v] [a]) (dA x) (call F [v]) m):ag g x (λ α h=>bU (x.P++α) α h vs [a]) (dA x) (call F vs) m:=by intro α σ s o af I t p;obtain⟨v,rfl⟩:=uG p;exact h v α σ s o af I t p
theorem r8(h:∀v u,ag g x (λ α h=>bU (x.P++α) α h [v,u] [a,b]) (dA x) (call F [v,u]) m):ag g x (λ α h=>bU (x.P++α) α h vs [a,b]) (dA x) (call F vs) m:=by intro α σ s o af I t p;refine f5 (Bb p) λ v u w=>?_;subst w;exact h v u α σ s o af I t p
theorem ad_(p:bU X α h [v,u,w] [a,b,c]):a9 X α h v a:=by cases p;assumption
theorem PA{vs:H aq}{as:H V}(p:bU X α h (v::vs) (a::as)):bU X α h vs as:=by cases p;assumption
theorem PB(h:∀v u w,ag g x (λ α h=>bU (x.P++α) α h [v,u,w] [a,b,c]) (dA x) (call F [v,u,w]) m):ag g x (λ α h=>bU (x.P++α) α h vs [a,b,c]) (dA x) (call F vs) m:=by
 intro α σ s o af I t p;refine me ((show∃v u w,vs=[v,u,w]from by
   cases p with
   |cons r q=>refine f5 (Bb q) λ u w W=>?_;refine L W ?_;exact(e_ _ _ _ rfl))) λ v u w n=>?_
 subst n;exact h v u w α σ s o af I t p
theorem PC(h:∀(s:aU)(Q:aq->aU->Prop)(E:aq->aU->Prop),(∀t0 t1 T t,s.toks<=t->Q (.ref s.heap.objs.size) (cT s (s.heap.push {cls:=.type "range",data:=.fields #[.int a t0,.int b t1,.int 1 T] }) t))->aO (a5 g.prog g.w) x.A c Q E s):ag g x pre (dA x) c (rX (.hX a b)):=by intro α σ s o af I t u e Q E G u;cases e;refine h s Q E λ t0 t1 T i n=>(ff (I.new {cls:=.type "range",data:=.fields #[.int a t0,.int b t1,.int 1 T] } (.hX a b) (e_ _ _ _ (d0 _ rfl))) λ C st r=>?_);exact G _ _ _ i _ rfl st C (bA t n) r
theorem aea:eN g x (.type "reversed") Pu:=by
 intro vs as
 match as with
 |[]=>exact .au|_::_::_=>exact .au|[a]=>
 refine G8 λ v=>ad9 (λ u u=>qd) λ xs=>?_;intro α σ s o af I t p e Q E G y;cases e;refine eg p.2.inv λ l W w N h r=>L w (call_reversed_list h.isList ((show(W.toArray.size-1)=(O xs:ah)- 1 by rw[hT,r.length]).symm▸a7 h λ n e=>(ff (I.new (revObj l _) (.it (.rev xs _)) (bh l W ⟨⟨_,d0 _ rfl,rfl,rfl⟩,bH _,uk e N,⟨n,dy _ e⟩,r.mono (rW _)⟩)) λ i st R=>?_)));exact G _ _ _ s.toks _ rfl st i t R
noncomputable def aeb{A:Type}(m:U cj)(f:ah->ah->U A):U A:=m.bind λ m=>match m with|.hX a b=>f a b|_=>aa
def PD(as:H V):Ev V:=λ σ=>one as λ a=>hA a λ i=>aeb σ[i]? λ a b=>bR (zw a b 1&&aZ (b-a).toNat 16777216) (B (.ok (.d (.ae ((aw (b-a).toNat).map λ(i:J)=>D.int (a+i)))),σ))
theorem aec{X:H ao}{h:aX}{a:ah}{acc:fE aq}{n:J}(R:ItemsOf (λ i v=>∃t,v=.int (a+i*1) t) acc n):bT X h acc.toList ((aw n).map λ(i:J)=>D.int (a+i)):=by
 obtain K:∀k vs j,O vs=k->(∀i v,vs[i]?=B v->∃t,v=KP (a+(j+i:J)) t)->bT X h vs ((kk j k).map λ(i:J)=>D.int (a+i)):=by intro k;induction k with|zero=>intro vs j z u;rw[zr z];exact .nil|succ k I=>intro vs j z l;induction vs with|nil=>simp at z|cons v vs=>refine a7 (l 0 v rfl) λ t W=>L W (.cons (aV.int _ t) (I vs _ (by simpa using z) λ i w e=>?_));obtain⟨t,rfl⟩:=l (i+1) w e;exact⟨t,ax (show j+1+i=j+(i+1) by exact zf j i) rfl⟩
 obtain this:=K n acc.toList 0 R.1 λ i v e=>by obtain⟨t,rfl⟩:=R.2 i v (by simpa using e);exact⟨t,rfl⟩
 rwa [<-anv]at this
theorem aed(f:x.A.handled=aa):eN g x (.type "list") PD:=by
 intro vs as;intro α σ s o af I D p e Q E K d;refine j2 e λ n z R=>nv R λ i q R=>(λ e k=>b3 e λ m h e=>by
   induction m with
   |hX a b=>exact k a b h e|_=>exact nn e) R λ a b M R=>bN R λ ok dQ=>?_
 subst z q;obtain y:=bc (ak dQ);obtain⟨v,rfl⟩:=uG p;refine av (qd p) λ l c W=>L W ?_;obtain⟨N,V⟩:=bo ok;refine me (I.look c M) λ t u w X=>g4 (call_list_range f X N (Ov a b) (bA (b8 V) (by decide)) λ h' T A c' k C j G=>?_);obtain P:=G.size;exact K _ _ h' T α y.1.symm (.of_keeps k P) (ax y.2 (I.keeps k P)) (bA D G.toks) (aV.ae I.fresh ⟨c',C⟩ (aec j))
noncomputable def intD:D->U D
 |.int i=>B (.int i)|.bool b=>B (.int (if b then 1 else 0))
 |.aR u=>match y6 u with
  |.fin b_ m e=>B (.int (Float64.truncOf b_ m e))|_=>aa
 |_=>aa
def PE:D->U D:=iX λ i=>B (.int (if i<0 then-i else i))def uH:D->U D:=iX λ i=>a8 (bE i.natAbs.log2 1920) (B (.str (toString i)))
theorem str_int{g:bX}(e:uH (.int i)=B r)(h:∀v T,aV [] ⟨#[],{}⟩ v r->Q v {s with toks:=T}):aO (a5 g.prog g.w) A (call (.type "str") [.int i t]) Q E s:=
 have e:=dn e
 P.str_of_int (cg.mp e.1) (h _ _ (ax (ak e.2) (.str _ _)))
def Bc(a b:D):U D:=match a with
 |.int a=>match b with
  |.int b=>a8 (!(b==0)&&!tr a b) (B (.aD [.int (a.fdiv b),.int (a.fmod b)]))|_=>aa
 |_=>aa
def G9(f:D->D->U D):H V->Ev V
 |[a,b]=>(Ev.read a).bind λ d=>(Ev.read b).bind λ e=>Ev.ofD (f d e)|_=>.au
theorem aee(G:∀v u d D r,f d D=B r->∀α σ s,aG g x α σ s.heap->1<=s.toks->RD (x.P++α) s.heap v d->RD (x.P++α) s.heap u D->∀(Q:aq->aU->Prop)(E:aq->aU->Prop),
   hl x α s Q r->aO (a5 g.prog g.w) x.A (call F [v,u]) Q E s):eN g x F (G9 f):=by
 intro vs as
 match as with|[]=>exact .au|[_]=>exact .au|_::_::_::_=>exact .au|[a,b]=>refine r8 λ v u=>(ag.ghost (λ α h=>oX) λ d=>ag.ghost (λ α h p=>by obtain⟨p,_⟩:=p;cases p with|cons _ q=>cases q with|cons r _=>exact r) λ D=>ag.toV ?_);cases e:f d D with|none=>exact .au|some r=>exact ag.wp λ α σ s I t p=>G v u d D r e α σ s I t p.1.2 p.2
theorem aef:eN g x (.builtin "divmod") (G9 Bc):=
 aee (λ v u d D r e α σ s I T p P Q E h=>by
  rcases d with _|_|a|_|_|_|_|_|_|_|⟨_,_⟩
  case int=>
   rcases D with _|_|b|_|_|_|_|_|_|_|⟨_,_⟩;case int=>obtain⟨t,rfl⟩:=p.int;obtain⟨C,rfl⟩:=P.int;obtain⟨q,f⟩:=dn e;obtain rfl:=ak f;obtain⟨q1,R⟩:=bF.mp q;exact PyProof.Rows.divmod_int (bi_ine.mp q1) (h _ _ _ (λ w w=>dy _) (L (er ..) (hg _)) (.aD I.fresh ⟨0,d0 _ rfl⟩ (.cons (.int _ _) (.cons (.int _ _) .nil)))) (.inl (by simpa using R))
   all_goals exact nn e
  all_goals exact nn e)
noncomputable def oY:H D->U (H ah)
 |[]=>B []|.int i::xs=>(oY xs).map (i:: ·)|_::_=>aa
def lu:D->U D
 |.ae xs=>(oY xs).map λ i=>.int (preSum (λ j=>(i[j]?).getD 0) (O i))|_=>aa
theorem aeg:∀{I:H ah}{vs:H aq},oY xs=B I->bT X h vs xs->O vs=O I/\∀(j:J)(v:aq),vs[j]?=B v->∃t,v=KP ((I[j]?).getD 0) t:=by
 induction xs with
 |nil=>intro I vs e r;rw[<-ak e,zr r.length];exact⟨rfl,λ j v h=>nn h⟩
 |cons x xs g=>
  intro I vs e r;rcases x with _|b|i|u|s|n|n|a|xs|xs|⟨c,xs⟩
  case int=>
   refine e4 r.nt λ v P w a R=>L w (a7 a.inv λ t W=>L W (gE e λ js E N=>ax N ?_));obtain h:=g E R;refine⟨aM i9 h.1,λ j v k=>?_⟩;rcases j with _|j
   ·exact⟨t,(ak k).symm⟩
   ·exact h.2 j v k
  all_goals exact nn e
theorem aeh(f:x.A.handled=aa):eN g x (.builtin "sum") (e5 lu):=
 oW (λ v d r e α σ s I D p Q E G=>by
  rcases d with _|_|_|_|_|_|_|_|xs|_|⟨_,_⟩
  case ae=>
   refine e4 p.ml λ l w W h R=>L W (av (hR.mp e) λ c T j3=>?_);subst j3;obtain⟨X,m⟩:=aeg T R;refine g4 (call_sum_walkG (Ed h.isList ⟨s.heap.objs.size,[s.heap.objs.size,l],[s.heap.objs.size],w.toArray.size,_,_,(λ j=>(c[j]?).getD 0),rfl,Walks.list (A:=x.A.in1) f s.heap.objs.size l (by obtain⟨_,e⟩:=h;exact il (dI e)) w.toArray,
     ⟨⟨_,d0 _ rfl,rfl,rfl⟩,h.isList.push _⟩,?_,?_,?_⟩))
   ·intro b q
    rw[er ..];simp at q;rcases q with rfl|rfl
    ·exact km _
    ·exact a7 h λ u e=>kl (dI e)
   ·exact λ i v n=>m i v (by simpa using n)
   ·exact λ h' t C k P=>L (show w.toArray.size=O c by rw[hT,X]) (G _ h' t (λ b o e=>k b o (by simp;exact il (dI e)) (dy _ e)) P.size (.int _ _))
  all_goals exact nn e)
inductive f6 where
 |next|brk|cont|ret (a:V)noncomputable def f6.ctorIdx(e:f6):Nat:=f6.casesOn (motive:=λ u=>J) e 0 1 2 (λ u=>3)
def nL(X α:H ao)(h:aX):m5->f6->Prop
 |.next,.next=>True|.brk,.brk=>True|.cont,.cont=>True|.ret v,.ret a=>a9 X α h v a|_,_=>False
abbrev cy:=Ev (f6×az)
structure dq(g:bX)(x:bD)(sc:bW)(env:cn)(n:J)(own:H ao):Prop where
 y:cU g x env n
 cM:fa sc env
 uz:cb own x.P
 w:p9 (Internal.cF x (own++x.W)) sc env
 top:∃outer aN,x.l=env::outer/\env.frame=B aN
abbrev Bd(g:bX)(x y:bD)(env:cn):H ao->aX->m5->f6×az->Prop:=λ α h f r=>nL (x.P++α) α h f r.1/\bp g y env r.2 α h
abbrev c9(g:bX)(x:bD)(own:H ao)(env:cn)(ρ:az)(t:bj m5)(m:cy):Prop:=
 ag g (a3 x own) (bp g (a3 x own) env ρ) (Bd g x (a3 x own) env) t m
section
variable {g:bX}{x:bD}{sc:bW}{env:cn}{ρ:az}{n:J}{own:H ao}{β γ nu oQ:Type}theorem dq.h4(c:dq g x sc env n own):∀b∈(a3 x own).W,b∈(a3 x own).P:=λ b q=>(bB.mp q).elim (c.uz b) (c.y.ok.eu b)
theorem dq.r9(c:dq g x sc env n own){α σ h aA h'}(I:aG g (a3 x own) α σ h)(st:a_ x.F x.W α h aA h')(R:bp g (a3 x own) env ρ α h):bp g (a3 x own) env ρ aA h':=
 bt.cF (bt.jW c.y.ok.cY c.y.ok.eu c.y.q _ _ _ _ _ I.dG st (bt.dG R))
theorem ag.lift(c:dq g x sc env n own){post:H ao->aX->β->γ->Prop}(h:ag g x (bp g x env ρ) post t m):
  ag g (a3 x own) (bp g (a3 x own) env ρ) (λ α h b r=>bp g (a3 x own) env ρ α h/\post α h b r) t m:=by
 refine λ α σ s o af I D R e Q E G y=>h α σ s o af I.dG D (bt.dG R) e Q E (λ b r h' C aA i st F T p=>G b r h' C aA i (st.cF λ u q=>aW _ q) F.cF T ⟨c.r9 I st R,p⟩) λ z cl as h' C aA i st T X=>y z cl as h' C aA i (st.cF λ u q=>aW _ q) T X.cF
def oZ(ρ:az):cy:=.ret (.next,ρ)def b5(m:cy)(k:az->cy):cy:=m.bind λ r=>match r.1 with|.next=>k r.2|f=>.ret (f,r.2)theorem qe:c9 g x own env ρ (fG [] env) (oZ ρ):=ag.pure λ u u p=>⟨trivial,p⟩
theorem o1{st:bx}(W:c9 g x own env ρ (fF st env) m)(j:∀ar,c9 g x own env ar (fG rest env) (k ar)):c9 g x own env ρ (fG (st::rest) env) (b5 m k):=by
 refine W.bind λ f r=>?_;obtain⟨F,ar⟩:=r;intro α σ s o af I t p e Q E h y;induction f<;>induction F<;>first|exact p.1.elim|skip
 ·exact j ar α σ s o af I t p.2 e Q E h y
 all_goals
  cases e;exact bl (h _ _ s.heap s.toks α rfl (.refl ..) I t ⟨p.1,p.2⟩)noncomputable def qf(e:aJ):Bool:= !(aL e.ctorIdx 8|| (aL e.ctorIdx 9||Nat.beq e.ctorIdx 10))theorem xt(h:qf e=S)(t:U aJ)(l:J):Y9 e t l env=pure false:=by rcases e with _|_<;>first|exact rfl (a:=pure aj)|exact bw h
def kH(m:Ev V)(ρ:az):cy:=m.bind λ u=>.ret (.next,ρ)
theorem Be(c:dq g x sc env n own)(V:qf e=S)(h:TE g x env ρ (bG e env) m):c9 g x own env ρ (fF (.Expr e P) env) (kH m ρ):=by
 intro α σ s o af I t R;obtain u:interactive env=false:=by unfold interactive;exact L R.fv rfl
 refine L (exec_Expr env e P u (xt V ..)) ?_;revert α σ s o af;refine ag.standAt ((ag.lift c h).bind λ v a=>?_);intro α σ s o af I t p e Q E G y;cases e;exact wpAny_dropValue (G _ _ s.heap s.toks α rfl (.refl ..) I t ⟨trivial,p.1⟩)def lx(m:Ev V)(ρ:az):cy:=m.bind λ a=>.ret (.ret a,ρ)theorem xu(c:dq g x sc env n own)(h:TE g x env ρ (bG e env) m):c9 g x own env ρ (fF (.Return (B e) P) env) (lx m ρ):=ag.standAt ((ag.lift c h).bind λ v a=>ag.pure λ u u p=>⟨p.2,p.1⟩)
theorem PF(c:dq g x sc env n own)(h:TB g x env ρ (iq t env (bG t env)) m)(f:c9 g x own env ρ (fG a env) M)(q:c9 g x own env ρ (fG b env) v):
  c9 g x own env ρ (fF (.If t a b p) env) (fL m M v):=ag.standAt ((ag.lift c h).bind λ b d=>ag.ite f q)def fb(sc:bW)(nm:ai)(m:Ev V)(ρ:az):cy:=match dU sc nm with|true=>m.bind λ a=>.ret (.next,(nm,a)::ρ)|false=>.au
theorem aei(c:dq g x sc env n own)(V:qf e=S)(h:TE g x env ρ (bG e env) m):c9 g x own env ρ (fF (.Assign [.Name nm p] e W) env) (fb sc nm m ρ):=by
 unfold fb;cases es:dU sc nm with
 |false=>exact .au
 |true=>
  obtain E:fF (.Assign [.Name nm p] e W) env=(dZ W>>=λ u=>bG e env>>=λ v=>(dZ p>>=λ u=>pK env nm v)>>=λ u=>pure ri):=by
   dsimp only[Lm];obtain this:tC [.Name nm p] e W.line env=pure false:=by unfold tC;exact xt V ..
   refine L this ?_;congr 1
  refine L E (ag.standAt ((ag.lift c h).bind λ v a=>?_));have k:ag g _ _ (Bd g x _ env)
    ((dZ p>>=λ u=>pK env nm v)>>=λ u=>pure ri) ((Ev.ret _).bind λ u=>.ret (f6.next,(nm,a)::ρ)):=
   (ag.standAt ((r0 c.h4 c.w (oS c.cM es)))).bind λ u u=>ag.pure λ u u p=>⟨trivial,p⟩
  exact k
end
section
variable {g:bX}{x:bD}{α:H ao}{σ:aE}{h h':aX}theorem xv{h:aX}(f:∀e∈l,oM F h e)(q:b∈kA l):b∈F/\∃o,h.get? b=B o/\∀vs,o.data≠ .fields vs:=by refine av (pL.mp q) λ e y M=>(f e y).e λ X o k W j v I=>?_;rw[W]at M;exact ax (ak M) ⟨j,o,v,I⟩
theorem Bf:∀{l:H cn},(∀e∈l,oM F h e)->(∀b∈kA l,b∈X)->h.FunFrames (hide h X) l
 |[],_,_=>trivial|e::l,f,G=>by exact(f e (cV ..)).e λ A o k W j v I=>⟨k,(bh A o ⟨W,t5 (.inl (G A (pL.mpr ⟨e,cV ..,W⟩))),v,I⟩),Bf (λ e y=>f e (c7 _ y)) λ b q=>G b (av (pL.mp q) λ E y M=>(pL.mpr ⟨E,c7 _ y,M⟩))⟩theorem G_:(hide h X).StaysIn h:=λ u u e=>(As.mp e).2
theorem PG{P:ao->Prop}(W:P a)(j:P b)(v:P c):∀x∈[a,b,c],P x:=Y_.mpr ⟨W,Y_.mpr ⟨j,Y_.mpr ⟨v,λ u h=>aS h dS⟩⟩⟩
theorem aG.after(I:aG g (Internal.fJ x Sq) α σ h)(v:cb x.F x.P)(w:(hide h (kA x.l++Sq)).StaysIn h')(u:h.UpToSlots h')(V:h.objs.size<=h'.objs.size)(G:∀b,b<h.objs.size->h.get? b=aa->h'.get? b=aa)
  (y:∀b∈Sq,b∉x.P)(z:e∈Sq)(oN:t∈Sq)(he:h'.get? e=B AP)(fZ:h'.get? t=B xw)(N:h'.get? T=B Ha)(F:Ha.data=.fields ay)(d:(hide h (kA x.l++Sq)).get? T=aa):
  aG g (Internal.fJ x [e,t,T]) α σ h'/\(∀b∈[e,t,T],b∈Sq\/h.objs.size<=b)/\(∀b∈[e,t,T],b∉x.P)/\(fX h h' ((Sq++x.P)++α) (([e,t,T]++x.P)++α)):=by
 have c9:T∈Sq\/h.objs.size<=T:=by
  by_cases m:T∈kA x.l++Sq
  ·rcases bB.mp m with m|m
   ·obtain⟨_,o,E,j⟩:=xv I.fr m
    obtain⟨W,s⟩:=u _ _ E j;rw[N]at s;obtain rfl:=ak s;exact aS F (j ay)
   ·exact .inl m
  ·rw[FH,a6 m]at d
   by_cases l:T<h.objs.size
   ·rw[G T l d]at N;exact nn N
   ·exact .inr (zC l)
 have C:∀b∈[e,t,T],b∈Sq\/h.objs.size<=b:=PG (.inl z) (.inl oN) c9;have xx:∀{b o},h.get? b=B o->¬h.objs.size<=b:=λ e l=>aS (dI e) (ez.mpr l);have D:=λ b r q=>(C b r).elim (λ m=>y b m q) λ l=>a7 (I.alive b (aW _ q)) λ o E=>xx E l;have f:=λ b r=>v b (xv I.fr r).1;have K:=λ b o E M Q=>w b o (As.mpr ⟨λ q=>(bB.mp q).elim Q M,E⟩);have i:fX h h' _ (([e,t,T]++x.P)++α):=λ b o E n=>
  have M:=λ q=>n (bL _ (bL _ q));have Q:=λ q=>n (bL _ (aW _ q))
  ⟨K b o E M λ q=>Q (f b q),λ q=>(bB.mp q).elim (λ q=>(bB.mp q).elim (λ q=>(C b q).elim M (xx E)) Q) λ q=>n (aW _ q)⟩
 have A:∀{a o},a∈Sq++x.P->g.K.get? a≠B o:=λ q E=>nn ((I.b2 _ (.inl q)).1.symm.trans E);exact⟨⟨λ b o E=>K b o (I.base b o E) (λ q=>A (bL _ q) E) λ q=>A (aW _ (f b q)) E,bA I.big V,
  λ a c=>c.elim (λ c=>(bB.mp c).elim (λ c=>(C a c).elim (λ m=>I.b2 a (.inl (bL _ m))) λ l=>⟨I.Pl l,bA I.big l⟩) λ c=>I.b2 a (.inl (aW _ c))) λ c=>I.b2 a (.inr c),
  λ a c=>(bB.mp c).elim (PG (P:=λ a=>∃o,h'.get? a=B o) ⟨_,he⟩ ⟨_,fZ⟩ ⟨_,N⟩ a) λ c=>(Li _).elim (λ m=>av (xv I.fr m).2 λ o E j=>a7 (u _ _ E j) λ W s=>⟨_,s⟩) λ m=>a7 (I.alive a (aW _ c)) λ o E=>⟨o,K a o E (λ q=>y a q c) m⟩,
  I.dv,λ a c q=>(bB.mp q).elim (λ q=>(C a q).elim (λ m=>I.c8 a c (bL _ m)) λ l=>aS (I.bM.lt a c) (ez.mpr l)) λ q=>I.c8 a c (aW _ q),
  c0.mono I.bM V (λ a c=>eD _ (λ E=>Y (G a (I.bM.lt a c) E) E.symm) λ o E=>Y (K a o E (λ q=>I.c8 a c (bL _ q)) λ q=>I.c8 a c (aW _ (f a q))) E.symm) i eV,
  λ qb R=>(I.fr qb R).e λ X o k c5 cw cZ p=>a7 (u _ _ cZ p) λ W s=>⟨k,X,_,c5,cw,s,p⟩,
  Gf I.old (Sq:=λ b=>b∈Sq\/b∈kA x.l) (λ a q=>(I.b2 a (.inl (q.elim (bL _) λ q=>aW _ (f a q)))).2) λ b o n E=>K b o E (λ q=>n (.inl q)) λ q=>n (.inr q)⟩,C,D,i⟩
theorem a_.after{Sq F W s:H ao}(st:a_ F W s E α h)(lo:∀b∈Sq,E.objs.size<=b)(V:∀b∈kA x.l,b∈F/\∃o,h.get? b=B o/\∀vs,o.data≠ .fields vs)(k:(hide h (kA x.l++Sq)).StaysIn h')(u:h.UpToSlots h')(P:h.objs.size<=h'.objs.size):a_ F W s E α h':=by
 have N:∀b o,E.get? b=B o->b∉Sq:=λ b o e q=>aS (dI e) (ez.mpr (lo b q));refine⟨bA st.size P,st.ext,λ b o e f w n=>?_,λ b o e w n=>?_⟩
 ·refine k b o (As.mpr ⟨λ q=>?_,st.same b o e f w n⟩)
  rcases bB.mp q with q|q
  ·exact f (V b q).1
  ·exact N b o e q
 ·refine a7 (st.slot b o e w n) λ Q R=>?_
  by_cases m:b∈kA x.l
  ·obtain⟨_,T,i,v⟩:=V b m
   rw[R]at i;obtain rfl:=ak i;exact a7 (u _ _ R v) λ t D=>⟨t,D⟩
  ·exact⟨Q,k b _ (As.mpr ⟨λ q=>(bB.mp q).elim m (N b o e),R⟩)⟩
inductive kI(g:bX)(x:bD)(lo:J)(α:H ao)(σ:aE)(h:aX)(e:ao)(cl:b1)(as:H D):Prop
 |mk (Sq:H ao) (t:ao) (vs:H aq) (a:∀b∈Sq,lo<=b) (I:aG g (fJ x Sq) α σ h) (p3:e∈Sq) (oN:t∈Sq) (lb:∀b∈Sq,b∉x.P) (rs:bT ((Sq++x.P)++α) h vs as)
  (k:K0 (hide h (kA x.l++Sq)) x.l e (.type cl) (.ref t) h/\h.TupAt t vs)theorem kI.exc{lo:J}(q:kI g x lo α σ h e cl as):ExcAt g x lo α σ h e cl as:=match q with|⟨Sq,t,vs,a,b,c,d,e,f,r⟩=>⟨Sq,t,vs,a,b,c,d,e,f,.inr r⟩
theorem ExcAt.go(I:aG g (Internal.fJ x Sq) α σ h)(v:cb x.F x.P)(lo:∀b∈Sq,n.objs.size<=b)(y:∀b∈Sq,b∉x.P)(i:e∈Sq)(m:t∈Sq)(D:bT ((Sq++x.P)++α) h vs as)
  (st:a_ F W s n α h)(d:cb x.F F)(z:∀b∈l',b∈x.l)(f:K0 (hide h (kA x.l++Sq)) l' e (.type cl) (.ref t) h')(aD:h'.TupAt t vs)(u:h.UpToSlots h')(V:h.objs.size<=h'.objs.size)(G:∀b,b<h.objs.size->h.get? b=aa->h'.get? b=aa):
  a_ F W s n α h'/\kI g {x with l:=l'} n.objs.size α σ h' e cl as:=by
 obtain⟨K,gB,kF,AP,ws,T,Ha,ay,X,f2,aej,f4,aek,ael,p,A,aem⟩:=id f;exact e4 (id aD) λ xw Hb t1 h8 t3=>(pR (aG.after I v K u V G y i m X t1 p A aek) λ j C N o=>⟨st.after lo (λ b q=>⟨d b (xv I.fr q).1,(xv I.fr q).2⟩) K u V,[e,t,T],t,vs,λ b r=>(C b r).elim (lo b) λ l=>bA st.size l,⟨j.base,j.big,j.b2,j.alive,j.dv,j.c8,j.bM,λ Q P=>j.fr Q (z Q P),j.old⟩,cV,by simp,N,D.mono o,⟨G_,t5 (.inl anu),Bf (λ Q P=>j.fr Q (z Q P)) λ b r=>bL _ r,AP,ws,T,Ha,ay,X,f2,aej,f4,t5 (.inl (by simp)),ael,p,A,aem⟩,aD⟩)
theorem aen(z:x.l=env::o)(V:x.A.frames=B x.l)(N:env.frame=B X)(p:cb x.F x.P)
  (st:a_ F W v n α s.heap)(c:cb x.F F)(q:ExcAt g x n.objs.size α σ s.heap e cl as)
  (D:∀h',a_ F W v n α h'->ExcAt g {x with l:=o} n.objs.size α σ h' e cl as->Q () (cT s h' s.toks)):aO M x.A (leaving env (.ref e)) Q E s:=by
 obtain⟨Sq,t,vs,lo,I,w,T,y,r,k⟩:=q;have i:=λ h' f aD j R G=>by exact cq (ExcAt.go (l':=o) I p lo y w T r st c (λ b=>L z (c7 _)) f aD j R G) λ a b=>D h' a b.exc
 rcases k with⟨A,m⟩|⟨f,aD⟩
 ·exact g4 (wpAny_leaving_firstW (a0:=.ref t) (Y V (by rw[z])) ((aM _ z).mp (Bf I.fr λ b d=>bL _ d)) N A G_ (t5 (.inl (aW _ w))) rfl rfl rfl λ h' lp P=>pR lp λ C xy kF K=>ff xy λ u u gB=>i h' ⟨C,t5 (.inl (aW _ w)),gB,kF⟩ (Heap.TupAt.of_slots (bh _ _ ⟨m,rfl,rfl⟩) K) K P.size P.gone)
 ·exact g4 (wpAny_leaves_onW (Y V (by rw[z])) N ((aM (λ l=>K0 _ l e _ _ s.heap) z).mp f) λ h' C K P=>i h' C (aD.of_slots K) K P.size P.gone)
end
noncomputable def eY(fd:Em)(a l:ao):Env:=newEnv fd.scope l fd.globals (gz (l+1) fd.scope.names fd.closure) (fd.qualname++ ".<locals>.") (B a) fd.code aa fd.builtins
noncomputable def o2(h:aX)(s:bW):Heap:=Lj (h.push {cls:=.type "frame",data:=.dict #[] }) s.names
@[reducible] noncomputable def xA(x:bD)(env:cn)(o:H ao)(X:ao):bD:={A:=x.A.deeper env,l:=env::x.l,P:=o++x.P,F:=X::x.F,W:=x.W}
structure ly(g:bX)(a:ao)(fd:Em)(body:H bx):Prop where
 there:∃o,g.K.get? a=B o/\o.data=.func fd
 code:g.K.CodeRec fd.code fd.qualname
 body:fd.body=.stmts body
 co:fd.scope.isCoroutine=aj
 gen:fd.scope.isGenerator=aj
 kind:fd.scope.kind=.function
 glob:fd.globals=k0
 cc:fd.builtins=zj
 keys:wz fd.scope.names=S
theorem xB(s:bW):∀b o,h.get? b=B o->(o2 h s).get? b=B o:=λ b o e=>v9 _ _ _ _ (dy _ e)theorem PH(s:bW):h.objs.size+1<=(o2 h s).objs.size:=bA (by simp only[er];exact bH _) (A8 s.names (h.push {cls:=.type "frame",data:=.dict #[] }))theorem xC(s:bW):CellsOk (o2 h s) (h.objs.size+1) (gz (h.objs.size+1) s.names []):=by obtain ok:=cellsFrom_ok s.names (h.push {cls:=.type "frame",data:=.dict #[] }) _ [] ⟨λ u u e=>(aS e dS),aoh⟩ (L (er ..) (bH _));rw[er]at ok;exact ok
def r_(x:bD)(s:bW)(cl:H (ai×ao))(ρ:az)(α:H ao)(h:aX):Prop:=
 (∀n v,ρ.lookup n=B v->s.names.lookup n=B .free)/\
 (∀n,s.names.lookup n=B .free->∃c,cl.lookup n=B c/\c∈x.P/\c∉x.F/\c∉x.W/\∃V,h.IsCell c V/\FI x α h ρ n V)/\
 (∀n N c,s.names.lookup n=B .free->s.names.lookup N=B .free->cl.lookup n=B c->cl.lookup N=B c->n=N)theorem Bg(fd:Em)(a l:ao)(n:ai):(eY fd a l).kindOf n=fd.scope.names.lookup n:=rfl
theorem aeo(fd:Em)(a l:ao):fa fd.scope (eY fd a l):=λ n=>.inl rfl
theorem aep(F:ly g a fd body)(I:aG g x α σ h)(iC:cb x.F x.P)(C:r_ x fd.scope fd.closure ρ α h):
  bt g (xA x (eY fd a h.objs.size) (h_ fd.scope h.objs.size) h.objs.size) (eY fd a h.objs.size) ρ α (o2 h fd.scope):=by
 refine ff C λ G V A5=>?_;obtain uF:∀b o,h.get? b=B o->b∉x.P++α->(o2 h fd.scope).get? b=B o/\b∉(h_ fd.scope h.objs.size++x.P)++α:=by
  refine λ b o e n=>⟨xB fd.scope b o e,λ q=>?_⟩;simp only[bB]at q n;rcases q with(q|q)|q
  ·exact aS (dI e) (ez.mpr (xp fd.scope b q))
  ·exact n (.inl q)
  ·exact n (.inr q)
 have E:∀m,fd.scope.names.lookup m=B .cell->∃c,(eY fd a h.objs.size).cells.lookup m=B c/\(m,c)∈gz (h.objs.size+1) fd.scope.names []:=by refine λ m r=>av (xo (bH _) (.inr (mem_of_lookup r))) λ c W w=>(⟨c,?_,mem_of_lookup W⟩);show(gz _ fd.scope.names fd.closure).lookup m=B c;rw[A7,El,W];rfl
 have s:∀m,fd.scope.names.lookup m=B .free->(eY fd a h.objs.size).cells.lookup m=fd.closure.lookup m:=by exact λ m r=>(A6 (λ q=>by rw[uC F.keys q]at r;exact nomatch r))
 have K:∀m,iB ((eY fd a h.objs.size).kindOf m)=S->fd.scope.names.lookup m=B .cell\/fd.scope.names.lookup m=B .free:=by intro m r;simp only[Bg]at r;cases Q:fd.scope.names.lookup m with|none=>rw[Q]at r;exact bw r|some k=>rw[Q]at r;induction k<;>first|exact .inl rfl|exact .inr rfl|exact bw r
 refine⟨F.kind,F.glob,F.cc,bL _ (cV ..),⟨λ w=>aa,(Heap.Ns.new h _).keeps (v9 _ _),λ m v l Q=>?_⟩,λ m r=>?_,λ m M c r R e T=>?_⟩
 ·simp only[Bg,G m v l]at Q;exact aS Q (by decide)
 ·rcases K m r with A|N
  ·obtain⟨c,W,j⟩:=E m A
   have y:=(xC fd.scope).empty m c j;refine⟨c,W,bL _ (c7 _ (iP.mpr ⟨_,j,rfl⟩)),λ q=>?_,λ q=>Ll _ (q▸y.2),aa,y.1,λ v l=>?_⟩
   ·rcases dM.mp q with q|q
    ·have i:=y.2
     rw[q]at i;exact Ll _ i
    ·exact a7 (I.alive c (iC c q)) λ o e=>aS (dI e) (ez.mpr (jN y.2))
   ·obtain this:=G m v l
    rw[A]at this;exact nomatch this
  ·obtain⟨c,W,j,t,_,X,p,ei⟩:=V m N
   refine⟨c,Y (s m N) W,aW _ j,λ q=>?_,λ q=>aS p.lt (L q (hu _)),X,p.keeps (xB fd.scope),λ v l=>av (ei v l) λ u mi iW=>(⟨u,mi,iW.mono uF eV⟩)⟩;rcases dM.mp q with q|q
   ·exact aS p.lt (L q (hu _))
   ·exact t q
 ·rcases K m r with A|N
  ·refine av (E m A) λ gG W j=>?_
   rw[e]at W;obtain rfl:=ak W;rcases K M R with f|P
   ·refine av (E M f) λ z d t=>?_
    rw[T]at d;obtain rfl:=ak d;exact name_of_addr (xC fd.scope).apart j t
   ·obtain⟨z,D,gB,_,_,X,p,_⟩:=V M P
    rw[s M P,D]at T;obtain rfl:=ak T;exact aS (eo p.lt (jN ((xC fd.scope).empty m _ j).2)) (hu _)
  ·obtain⟨gG,D,gB,_,_,X,p,_⟩:=V m N
   rw[s m N,D]at e;obtain rfl:=ak e;rcases K M R with f|P
   ·refine av (E M f) λ z d t=>?_
    rw[T]at d;obtain rfl:=ak d;exact aS (eo p.lt (jN ((xC fd.scope).empty M _ t).2)) (hu _)
   ·exact A5 m M _ N P D ((s M P)▸T)
theorem aeq(F:ly g a fd body)(I:aG g x α σ h):aG g (xA x (eY fd a h.objs.size) (h_ fd.scope h.objs.size) h.objs.size) α σ (o2 h fd.scope):=by
 have j:=aG.fJ (h':=o2 h fd.scope) I (xp fd.scope) ((by
   intro b s;rcases dM.mp s with rfl|s
   ·exact⟨_,v9 _ _ _ _ (d0 _ rfl)⟩
   ·refine av (iP.mp s) λ p v j3=>ax j3 ?_
    exact av (((xC fd.scope).empty p.1 p.2 v).1) λ o e u=>(⟨o,e⟩))) (xB fd.scope) (jN (PH fd.scope))
 refine⟨j.base,j.big,j.b2,j.alive,j.dv,j.c8,j.bM,λ e y=>?_,j.old⟩;rcases dM.mp y with rfl|y
 ·refine⟨?_,h.objs.size,{cls:=.type "frame",data:=.dict #[] },rfl,cV ..,v9 _ _ _ _ (d0 _ rfl),λ vs q=>by cases q⟩
  show fd.scope.kind≠ .module;rw[F.kind];intro q;cases q
 ·exact(j.fr e y).e λ l o q b c d r=>⟨q,l,o,b,c7 _ c,d,r⟩
theorem aer(F:ly g a fd body)(Bq:Base g)(ok:eW g x (n+1))(I:aG g x α σ h)(C:r_ x fd.scope fd.closure ρ α h):
  dq g (xA x (eY fd a h.objs.size) (h_ fd.scope h.objs.size) h.objs.size) fd.scope (eY fd a h.objs.size) n (h_ fd.scope h.objs.size):=by
 have w:=λ b r=>a7 (I.alive b (ok.eu b r)) λ o=>dI;refine⟨⟨Bq,⟨λ b r=>?_,λ b r=>aW _ (ok.eu b r),?_,λ u=>ok.handled (fp n),L (K7 x.A.depth n) ok.depth,gf (pF ((m1 x.A.units 3 _).symm▸oe (iO _ 3▸oe (show 3<=8 by decide) _) _) _) ok.units,ok.nolimit⟩,⟨λ q=>hu _ (w _ q),λ m c p e q=>?_⟩⟩,aeo fd a _,λ b r=>bL _ r,⟨bL _ (cV ..),λ m c p e=>?_⟩,(bh _ _ ⟨rfl,rfl⟩)⟩
 ·rcases dM.mp r with rfl|r
  ·exact bL _ (cV ..)
  ·exact aW _ (ok.cY b r)
 ·show Option.map _ x.A.frames=_
  exact L ok.frames rfl
 ·simp only[Bg]at p
  obtain cs:(eY fd a h.objs.size).cells=gz _ fd.scope.names fd.closure:=rfl;refine eD (fd.scope.names.lookup m) (λ E=>?_) λ k E=>?_
  ·rw[E]at p;exact bw p
  ·
   rw[E]at p;induction k with|cell=>refine av (xo (acc:=fd.closure) (bH (h.objs.size+1)) (.inr (mem_of_lookup E))) λ P W j=>?_;rw[cs,W]at e;obtain rfl:=ak e;exact aS (w _ q) (ez.mpr (jN j))|free=>refine t7 (C.2.1 m E) λ P W u u K u=>?_;rw[cs,A6 (λ q=>by rw[uC F.keys q]at E;exact nomatch E),W]at e;obtain rfl:=ak e;exact K q|_=>exact bw p
 ·obtain cs:(eY fd a h.objs.size).cells=gz _ fd.scope.names fd.closure:=rfl
  refine av (xo (acc:=[]) (bH (h.objs.size+1)) (.inr (mem_of_lookup p))) λ P W u=>?_;rw[cs,A7,El,W]at e;have rfl:=ak e;exact bL _ (c7 _ (iP.mpr ⟨_,mem_of_lookup W,rfl⟩))
class inductive c1(X α:H ao)(h:aX):H (ai×aq)->H (ai×V)->Prop
 |nil:c1 X α h [] []
 |cons {n v a bs as} :a9 X α h v a->c1 X α h bs as->c1 X α h ((n,v)::bs) ((n,a)::as)theorem c1.nt{v:aq}{a:V}{bs:H (ai×aq)}{as:H (ai×V)}(r:c1 X α h ((n,v)::bs) ((N,a)::as)):n=N/\a9 X α h v a/\c1 X α h bs as:=by cases r with|cons a r=>exact⟨rfl,a,r⟩theorem c1.mono{X Yq α aA:H ao}(r:c1 X α h bs as)(k:fX h h' X Yq)(T:∃e,aA=α++e):c1 Yq aA h' bs as:=by induction r with|nil=>exact .nil|cons a _ i=>exact .cons (a.mono k T) i
theorem bU.zip{N:H ai}(r:bU X α h vs as):c1 X α h (N.zip vs) (N.zip as):=by
 induction r generalizing N with
 |nil=>simp;exact .nil
 |cons a _ i=>
  rcases N with _|⟨n,N⟩
  ·exact .nil
  ·exact .cons a i
theorem aes(G:cb x.F x.P)(y:cb x.W x.P)(w:p9 x q env)(C:fa q env):∀(bs:H (ai×aq))(as:H (ai×V))(ρ:az),(as.all λ p=>dU q p.1)=S->
  ag g x (λ α h=>bp g x env ρ α h/\c1 (x.P++α) α h bs as) (λ α h u u=>bp g x env (as.reverse++ρ) α h) (forIn bs kj λ(p:ai×aq) u=>(Lf env p.1 p.2>>=λ u=>pure (m4 kj):bj (pH zd))) (.ret ())
 :=by
  intro bs;induction bs with
  |nil=>
   intro as ρ u;induction as with
   |nil=>exact ag.pure λ u u p=>p.1|cons=>exact λ u u u u u u u p=>nomatch p.2
  |cons b bs j=>
   intro as ρ c;induction as with
   |nil=>exact λ u u u u u u u p=>nomatch p.2
   |cons a as=>
   obtain⟨N,a⟩:=a;refine L (kZ ..) ?_;have c:=bF.mp c;intro α σ s o af I D p e Q E d R;obtain e:=bc (ak e);exact ff p.2.nt λ n r X=>aB (aB ((ag.frame (AX y w (oS C (n▸c.1))) (λ u u u u st r=>r.mono (st.outer G y) (av st.ext λ k e u=>⟨k,e⟩):kB x λ α h=>c1 _ α h bs as)) α σ s _ σ I D ⟨⟨p.1,r⟩,X⟩ rfl _ _ (λ b u h' el aA dw K F t l=>bl (j as _ c.2 aA σ _ _ σ F t l rfl _ _ (λ b u h'' i T m W A z P=>d b _ h'' i T e.1.symm (K.trans W) (ax e.2 A) z (L (D0 ..) (L (eb ..) (ax n P)))) eC.ok)) eC.ok))
theorem aet
  (h:aO M A (forIn b kj λ(p:ai×aq) u=>(Lf (eY fd a s.heap.objs.size) p.1 p.2>>=λ u=>pure (m4 kj):bj (pH zd))) (λ u s'=>Q (eY fd a s.heap.objs.size) s') E {s with heap:=o2 s.heap fd.scope}):
  aO M A (Lk fd.scope fd.globals fd.closure b (fd.qualname++ ".<locals>.") (B a) fd.code aa fd.builtins) Q E s:=by
 dsimp only[Lk];exact aB (Y8 (aB (wpAny_layCells _ (λ name k c=>by cases r:k==Ek<;>rfl) _ _ _ _ (L (er ..) (aB (hS h (λ u u=>bl) λ u u y=>y))))))
theorem aG.shrink(j:aG g x (α++p) σ h)(r:cb x2.P x.P)(f:∀e∈x2.l,oM x2.F h e)
  (ok:(σ.take (O α)).all (bk (O α))=S):aG g x2 α (σ.take (O α)) h:=by
 refine⟨j.base,j.big,λ a c=>j.b2 a (c.imp (r a) λ q=>bL _ q),λ a c=>j.alive a (r a c),(rl.mp j.dv).1,λ a c q=>j.c8 a (bL _ c) (r a q),c0.cut (bH _) (λ b o e n=>⟨e,λ q=>n ?_⟩) j.bM (λ u u=>rfl) ok,f,j.old⟩;rcases bB.mp q with q|q
 ·exact bL _ (r b q)
 ·exact aW _ (bL _ q)
theorem aG.Hc(j:aG g x (α++p) σ h)(r:cb x2.P x.P)(f:∀e∈x2.l,oM x2.F h e)
  (ok:(σ.take (O α)).all (bk (O α))=S)(c:acc∈p)(t:d2 g.w.params (x2.P++(α++ [acc])) (α++ [acc]) h acc m):aG g x2 (α++ [acc]) (σ.take (O α)++ [m]) h:=by
 have K:=j.shrink r f ok;have A:=λ q=>(rl.mp j.dv).2.2 acc q acc c rfl;refine⟨K.base,K.big,?_,K.alive,?_,?_,?_,K.fr,K.old⟩
 ·intro a q
  rcases q with q|q
  ·exact K.b2 a (.inl q)
  ·rcases bB.mp q with q|q
   ·exact K.b2 a (.inr q)
   ·rw[ek.mp q];exact j.b2 acc (.inr (aW _ c))
 ·rw[rl]
  exact⟨K.dv,by simp,λ a Q b z=>by refine L (ek.mp z) ?_;rintro rfl;exact A Q⟩
 ·intro a q
  rcases bB.mp q with q|q
  ·exact K.c8 a q
  ·rw[ek.mp q];exact(λ q=>j.c8 acc (aW _ c) (r _ q))
 ·obtain C:c0 g.w.params (x2.P++(α++ [acc])) α h α _:=by
   refine c0.cut (bH _) (λ b o e n=>⟨e,λ q=>n ?_⟩) j.bM (λ u u=>rfl) ok;rcases bB.mp q with q|q
   ·exact bL _ (r b q)
   ·rcases bB.mp q with q|q
    ·exact aW _ (bL _ q)
    ·simp only[ek.mp q];exact aW _ (aW _ c)
  exact(C.mono (bH _) (λ u u=>rfl) (λ b o e nb=>⟨e,nb⟩) ⟨_,rfl⟩).append (.cons t .nil)
theorem a_.aeu{F W α s own:H ao}(st:a_ (l::F) (own++W) α h (α++s) h')(fresh:∀b∈own,h.objs.size<=b)(x:h.objs.size<=l):a_ F W α h α h':=by
 have nb:∀b o,h.get? b=B o->b∉own:=λ b o e q=>aS (dI e) (ez.mpr (fresh b q));refine⟨st.size,w0,λ b o e f w n=>st.same b o e (λ q=>?_) (λ q=>(bB.mp q).elim (nb b o e) w) n,λ b o e w n=>st.slot b o e (λ q=>(bB.mp q).elim (nb b o e) w) n⟩;rcases dM.mp q with q|q
 ·exact aS (dI e) (ez.mpr (L q x))
 ·exact f q
theorem a_.PI{F W e o:H ao}(st:a_ (l::F) (o++W) α h (α++u) h')(fresh:∀b∈o,h.objs.size<=b)(w:h.objs.size<=l)(t:∃p,e=α++p/\∀b∈p,h.objs.size<=b):a_ F W α h e h':=
 let s:=st.aeu fresh w;⟨s.size,t,s.same,s.slot⟩
theorem aev{α:H ao}(W:O α<=k)(j:k<=O (α++h))(g:∀b∈h,n<=b):∃e p,α++h=e++p/\O e=k/\(∃r,e=α++r/\∀b∈r,n<=b)/\∀b∈p,n<=b:=
 (bh _ _ ⟨(ti ..).symm,L En (zD j),⟨h.take _,L List.take_append (L (Y4 W) rfl),λ b q=>g b (m_ q)⟩,λ b q=>g b (by rw[List.drop_append,anz W]at q;exact nc q)⟩)
theorem a_.Hd{acc:ao}(st:a_ F W α h p h')(c:h.objs.size<=acc):a_ F W α h (p++ [acc]) h':=
 av st.ext λ r e g=>⟨st.size,⟨r++ [acc],L e (L (eb ..) rfl),λ a q=>(bB.mp q).elim (g a) λ q=>L (ek.mp q) c⟩,st.same,st.slot⟩
set_option genCtorIdx true in
inductive Mode where|plain|fresh|keep
noncomputable def Mode.len(bf:Mode)(σ i:aE):Nat:=match bf with|.keep=>O i|_=>O σ
def PJ(bf:Mode)(k:J)(j:aE)(a:V):U (Res V×aE):=match a with|.d d=>B (.ok (.d d),j.take k)|.aH i=>match bE i k with|true=>B (.ok (.aH i),j.take k)|false=>jU j[i]? λ xs=>match bf with|.fresh=>B (.ok (.aH k),j.take k++ [.ae xs])|_=>B (.ok (.d (.ae xs)),j.take k)def mA(bf:Mode)(k:J)(o:Res (f6×az))(i:aE):U (Res V×aE):=match o with|.exc c as=>B (.exc c as,i.take k)|.ok r=>match r.1 with|.ret a=>PJ bf k i a|_=>B (.ok (.d .none),i.take k)def uI(bf:Mode)(k:J)(o:Res (f6×az))(i:aE):U (Res V×aE):=bR ((i.take k).all (bk k)) (mA bf k o i)def ia(bf:Mode)(m:cy):Ev V:=λ σ=>(m σ).bind λ q=>uI bf (bf.len σ q.2) q.1 q.2
theorem o3(h:m σ=B (o,oV)):ia bf m σ=uI bf (bf.len σ oV) o oV:=by unfold ia;rw[h];rfl
theorem Bh(h:m σ=B (o,τ))(z:τ.length=σ.length)(E:τ.all (bk (O τ))=S):ia .plain m σ=mA .plain τ.length o τ:=by apply Y (o3 h);show uI .plain (O σ) o τ=_;exact ax z (eh (L ov E))theorem xD(h:m σ=B (o,σ))(E:σ.all (bk (O σ))=S):ia .plain m σ=mA .plain (O σ) o σ:=Bh h rfl E
theorem Bi:mA .plain σ.length (.ok (.ret (.d d),ρ)) σ=B (.ok (.d d),σ):=by delta mA PJ;dsimp only;rw[ov]theorem Bj:mA .plain σ.length (.ok (.next,ρ)) σ=B (.ok (.d .none),σ):=by unfold mA;dsimp only;rw[ov]
theorem aew(e:mA bf k (.ok (f,ρ)) j=B (o,af)){G:Prop}(s:∀d,f=.ret (.d d)->o=.ok (.d d)->j.take k=af->G)(C:∀i,f=.ret (.aH i)->bE i k=S->o=.ok (.aH i)->j.take k=af->G)
  (m:∀i xs,f=.ret (.aH i)->k<=i->j[i]?=B (.ae xs)->(o=.ok (.d (.ae xs))/\j.take k=af\/o=.ok (.aH k)/\j.take k++ [.ae xs]=af)->G)(K:(∀a,f≠ .ret a)->o=.ok (.d .none)->j.take k=af->G):G:=by
 have z:∀{r:Res V}{g:aE},B _=B _->o=r/\g=af:=λ e=>have p:=bc (ak e);⟨p.1.symm,p.2⟩;induction f with
 |ret a=>
  induction a with
  |d d=>exact s d rfl (z e).1 (z e).2
  |aH i=>
   refine dO (bE i k) (λ h=>?_) λ h=>?_
   ·
    obtain e:(match bE i k with|true=>B _|false=>_)=B _:=e;rw[h]at e;exact C i rfl h (z e).1 (z e).2
   ·
    obtain e:(match bE i k with|true=>B _|false=>jU j[i]? _)=B _:=e;rw[h]at e;refine oP e λ xs M e=>m i xs rfl (zC λ q=>bw (Y h.symm (cg.mpr q))) M ?_;induction bf with
    |fresh=>exact .inr (z e)|_=>exact .inl (z e)
 |next=>exact K (λ u h=>nomatch h) (z e).1 (z e).2|brk=>exact K (λ u h=>nomatch h) (z e).1 (z e).2|cont=>exact K (λ u h=>nomatch h) (z e).1 (z e).2
noncomputable def valOf:m5->aq
 |.ret v=>v|_=>.none
theorem aex{lo:J}(m:PK.P=W++x.P)(I:aG g PK (p++s) j h)(R:∀e∈x.l,oM x.F h e)
  (T:(j.take (O p)).all (bk (O p))=S)(F:∀b∈s,lo<=b)(P:nL ((W++x.P)++(p++s)) (p++s) h f X)(e:mA bf (O p) (.ok (X,ρ)) j=B (k,af)):
  ∃r t,k=.ok r/\(∀b∈t,lo<=b)/\aG g x (p++t) af h/\a9 (x.P++(p++t)) (p++t) h (valOf f) r:=by
 have K:cb x.P PK.P:=λ b=>L m (aW _);have w:aG g x (p++ []) _ h:=L (ea p) (aG.shrink I K R T);have N:∀b o,h.get? b=B o->b∉(W++x.P)++(p++s)->h.get? b=B o/\b∉x.P++(p++ []):=L (ea p) (λ b u e n=>
   ⟨e,λ q=>n ((bB.mp q).elim (λ q=>bL _ (aW _ q)) λ q=>aW _ (bL _ q))⟩)
 have Q:∀b∈([]),lo<=b:=λ u q=>aS q dS;refine aew e (λ d M E es=>?_) (λ i M z E es=>?_) (λ i xs M z hj E=>?_) λ M E es=>?_
 ·have P:=M▸P
  induction f with|ret v=>exact(bh _ ([]) ⟨E,Q,ax es w,aV.mono P N⟩)|_=>exact P.elim
 ·rw[M]at P
  induction f with|ret v=>exact av P λ b y ev=>((bh _ _ ⟨E,Q,ax es w,b,L (ea p) (Pk y z),ev⟩))|_=>exact P.elim
 ·rw[M]at P
  induction f with
  |ret v=>
   refine av P λ b y ev=>?_;have V:=eK ((pN z).symm.trans y);refine av (I.bM.get y) λ aey l A=>?_;rw[<-ak (Y hj.symm l),m]at A;refine av A λ vs C D=>L ev ?_;rcases E with E|E
   ·refine(bh _ _ ⟨E.1,Q,ax E.2 w,aV.ae (λ q=>?_) C (D.mono N)⟩)
    rw[ea]at q;exact(bB.mp q).elim (λ q=>I.c8 b (aW _ V) (K b q)) λ q=>(rl.mp I.dv).2.2 b q b V rfl
   ·refine(bh _ ([b]) ⟨E.1,λ c q=>L (ek.mp q) (F b V),ax E.2 (aG.Hc I K R T V ⟨vs,C,D.mono λ c o e n=>⟨e,λ q=>n ?_⟩⟩),b,D8,rfl⟩)
    exact(bB.mp q).elim (λ q=>bL _ (aW _ q)) λ q=>aW _ ((bB.mp q).elim (bL _) λ q=>aW _ (L (ek.mp q) V))
  |_=>exact P.elim
 ·refine(bh _ ([]) ⟨E,Q,ax es w,?_⟩)
  induction f with
  |ret v=>induction X with
   |ret a=>exact aS rfl (M a)|_=>exact P.elim
  |_=>exact aV.none
theorem Bk(bf:Mode)(F:ly g a fd body)(Bq:Base g)(ok:eW g x (n+1))
  (xE:∀α σ s,aG g x α σ s.heap->pre α s.heap->zE s fd ⟨vs,kw⟩ T/\c1 (x.P++α) α s.heap T bs/\r_ x fd.scope fd.closure ck α s.heap)(dd:(bs.all λ p=>dU fd.scope p.1)=S)
  (d:∀h5 P W,(∃l,P=eY fd a l)->h5.l=P::x.l->(cb x.P h5.P)->h5.W=x.W->dq g h5 fd.scope P n W->c9 g h5 W P (bs.reverse++ck) (fG body P) m):
  ag g x pre (dA x) (call (.ref a) vs kw) (ia bf m):=by
 refine λ α σ s out af I dm p e Q E dp z=>b3 e λ⟨o,D⟩ em e=>?_;obtain K:=xE α σ s I p;refine av F.there λ Bl dw hd=>?_;have cut:∀{β:H ao},(∀b∈β,s.heap.objs.size<=b)->O (α++β)=O D->∃G δ,α++β=G++δ/\O G=bf.len σ D/\(∃ε,G=α++ε/\∀b∈ε,s.heap.objs.size<=b)/\∀b∈δ,s.heap.objs.size<=b:=λ{β} i c5=>by
  obtain V:=I.bM.length;obtain cw:=e2.symm▸gK ..;refine aev ?_ ?_ i<;>cases bf
  ·exact fV V
  ·exact fV V
  ·exact bA cw (fV c5)
  ·exact bA (fV V.symm) cw
  ·exact bA (fV V.symm) cw
  ·exact fV c5.symm
 refine Ln (codeAny_call_function (gf (gK ..) ok.depth) (I.base _ _ dw) hd F.co F.gen F.body (F.code.keeps I.base) (K.1 _ _ _ _ (aet ?_)));generalize R:h_ fd.scope s.heap.objs.size=W;generalize h:eY fd a s.heap.objs.size=env;obtain w:=R▸h▸aeq F I;obtain cQ:=R▸h▸aep F I ok.cY K.2.2;have M:=R▸h▸aer F Bq ok I K.2.2;obtain fresh:=R▸xp fd.scope;have kp1:∀b o,s.heap.get? b=B o->b∉x.P++α->(o2 s.heap fd.scope).get? b=B o/\b∉(W++x.P)++α:=λ b o e n=>⟨xB fd.scope b o e,λ q=>n ((bB.mp q).elim (λ q=>(bB.mp q).elim (λ q=>aS (dI e) (ez.mpr (fresh b q))) (bL _)) (aW _))⟩;obtain N:a_ (s.heap.objs.size::x.F) (W++x.W) α s.heap α _:=.of_keeps (xB fd.scope) (jN (PH fd.scope));refine(aes (x:=a3 {xA x env W s.heap.objs.size with A:=x.A.in1} W) M.y.ok.cY M.h4 M.w M.cM T bs ck dd) α σ (cT s _ s.toks) _ σ ⟨w.base,w.big,w.b2,w.alive,w.dv,w.c8,w.bM,w.fr,w.old⟩ dm ⟨⟨cQ.fv,cQ.gl,cQ.cc,cQ.fK,cQ.ns,cQ.lg,cQ.ap⟩,K.2.1.mono kp1 eV⟩ rfl _ _ (λ b r cw h8 h9 ho2 mx X i0 fN=>⟨ok.nolimit.keeps X.base,codeAny_func ?_⟩) eC.ok;have PL:∀{h':aX}{aA af y},aG g y aA af h'->(∀e∈x.l,e∈y.l)->∀e∈x.l,oM x.F h' e:=λ j cL e z=>by exact(I.fr e z).e λ aez o0 u a1 a2 u u=>(j.fr e (cL e z)).e λ l o k mn u aeA aeB=>⟨k,aez,o,a1,a2,ak (Y mn.symm a1)▸aeA,aeB⟩
 refine d (xA x env W s.heap.objs.size) env W ⟨_,h.symm⟩ rfl (λ b=>aW _) rfl M h9 σ (cT s cw h8) o D ⟨X.base,X.big,X.b2,X.alive,X.dv,X.c8,X.bM,X.fr,X.old⟩ i0 ⟨fN.fv,fN.gl,fN.cc,fN.fK,fN.ns,fN.lg,fN.ap⟩ em _ _ (λ f r cZ t3 xn He my fO o4 di=>?_) (λ i1 cl as cZ t3 xn He my o4 mB=>?_)
 ·have C:=(N.trans mx).trans my
  refine av C.ext λ β c i=>?_;rw[c]at fO di C;refine eg (cut i fO.bM.length) λ G δ c Hf xi PM=>(av xi λ ε xF aeC=>?_);rw[c]at fO di C;simp only[He,<-Hf]at e;refine bN e λ jZ e=>(eg (aex rfl fO (PL fO λ e z=>c7 _ z) jZ PM di.1 e) λ v PN o5 fw iZ g9=>?_);obtain fin:=dp _ v cZ t3 (G++PN) o5 (a_.PI (L c C) fresh (bH _) ⟨ε++PN,L xF (L (eb ..) rfl),λ b q=>(bB.mp q).elim (aeC b) (fw b)⟩) iZ o4 g9;induction f<;>exact fin
 ·refine aen rfl M.y.ok.frames (h▸rfl:env.frame=B s.heap.objs.size) M.y.ok.cY ((N.trans mx).trans my) (λ b cv=>cv) ((ExcAt.dG mB).low (bA N.size mx.size)) λ fw r3 aeD=>(av r3.ext λ β c i=>?_)
  obtain⟨Sq,t,vs',lo,j,p3,oN,lb,rs,cH⟩:=aeD;rw[c]at j rs r3;refine eg (cut i j.bM.length) λ G δ c Hf xF PM=>?_;rw[c]at j rs;simp only[He,<-Hf]at e;refine bN e λ jZ e=>?_;obtain e:=bc (ak e);exact z i1 cl as fw t3 G e.1.symm (r3.PI fresh (bH _) xF) o4 (ax e.2 ⟨Sq,t,vs',lo,aG.shrink j (λ b cv=>(bB.mp cv).elim (bL _) λ cv=>aW _ (aW _ cv)) (PL j λ e z=>z) jZ,p3,oN,λ b cv q=>lb b cv (aW _ q),rs.mono λ b o e n=>⟨e,λ q=>n ((bB.mp q).elim (λ q=>bL _ ((bB.mp q).elim (bL _) λ q=>aW _ (aW _ q))) λ q=>aW _ (bL _ q))⟩,cH⟩)abbrev bV:=H V->H (ai×V)->Ev V
structure cK(g:bX)(a:ao)(n:J)(C:bV):Prop where
 there:∃o fd,g.K.get? a=B o/\o.data=.func fd
 call:∀(x:bD),eW g x n->∀vs as qg ks,ag g x (λ α h=>bU (x.P++α) α h vs as/\c1 (x.P++α) α h qg ks) (dA x) (call (.ref a) vs qg) (C as ks)theorem aeE(y:cU g x env n)(h:bQ (TE g x env ρ) ay m):ag g x (bp g x env ρ) (Og x) (evalAll ay) (cE m):=by induction h with|nil=>exact ag.pure λ u u u=>.nil|cons a _ i=>exact ag.cv y a λ v b=>ag.hk y (y.hn v b) i.holding λ vs bs=>ag.pure λ u u p=>.cons p.1.2 p.2
theorem bU.append(r:bU X α h vs as)(s:bU X α h u bs):bU X α h (vs++u) (as++bs):=by induction r with|nil=>exact s|cons a _ i=>exact .cons a i
theorem PO
  (h:aO M A (v_ (.ref a) S args k) (λ x m=>(m.heap.get? a=B o/\o.data=.func fd)/\aO M A (call (.ref a) (first++x.pos) x.kw) Q E m) E s):
  aO M A (rp p (.ref a) first args k) Q E s:=callWith_function_kw h
def ju(C:bV)(f:H V)(m:H (Ev V))(n:H ai)(k:H (Ev V)):Ev V:=(cE m).bind λ as=>(cE k).bind λ ks=>C (f++as) (n.zip ks)
theorem Hg(y:cU g x env n){ks:H (ai×bj aq)}(h:bQ (TE g x env ρ) ay m)(o:bQ (TE g x env ρ) (ks.map (·.2)) k)(first:H aq)(F:H V):
  ag g x (λ α h=>bp g x env ρ α h/\bU (x.P++α) α h first F) (λ α h (r:Args)(q:H V×H V)=>bU (x.P++α) α h (first++r.pos) (F++q.1)/\c1 (x.P++α) α h r.kw ((ks.map (·.1)).zip q.2))
   (v_ f S (ay.map λ t=>(aj,t)) (ks.map λ p=>(B p.1,p.2))) ((cE m).bind λ as=>(cE k).bind λ bs=>.ret (as,bs)):=by
 simp only[Pq];exact ag.hk y (y.AD first F) (uc y h) λ vs as=>ag.holding (ag.pre (ag.hk y (F8 (y.AD first F) (y.AD vs as)) (aeE y o) λ P bs=>ag.pure λ u u p=>⟨p.1.2.1.append p.1.2.2,p.2.zip⟩) λ u u p=>⟨p.1.1,p.1.2,p.2⟩)theorem PQ(C:bV)(f:H V)(m:H (Ev V))(n:H ai)(k:H (Ev V)):ju C f m n k=((cE m).bind λ as=>(cE k).bind λ bs=>.ret (as,bs)).bind λ q=>C (f++q.1) (n.zip q.2):=by unfold ju;funext σ;dsimp only[Ev.bind];induction cE m σ with|none=>rfl|some q=>obtain⟨o,W⟩:=q;induction o with|exc=>rfl|ok as=>dsimp only;induction cE k W with|none=>rfl|some q=>obtain⟨o,i⟩:=q;induction o<;>rfl
theorem aeF(y:cU g x env n)(A:cK g a n C){ks:H (ai×bj aq)}{k:H (Ev V)}(h:bQ (TE g x env ρ) ay M)(G:bQ (TE g x env ρ) (ks.map (·.2)) k)(first:H aq)(f:H V):
  ag g x (λ α h=>bp g x env ρ α h/\bU (x.P++α) α h first f) (dA x) (rp N (.ref a) first (ay.map λ t=>(aj,t)) (ks.map λ p=>(B p.1,p.2))) (ju C f M (ks.map (·.1)) k):=by
 refine eM A.there λ o fd l u=>?_;obtain m:=Hg y h G first f
 refine L (PQ ..) ?_;intro α σ s P af I w p e Q E dp d;apply PO (o:=o) (fd:=fd);generalize ((cE M).bind λ as=>(cE k).bind λ bs=>Ev.ret _)=ev at m e;dsimp only[Ev.bind]at e;refine eD (ev σ) (λ R=>?_) λ r R=>?_
 ·rw[R]at e;exact nn e
 ·
  obtain⟨r,z⟩:=r;rw[R]at e;refine m α σ s r z I w p R _ _ (λ b q h' D aA W st F i di=>?_) λ c cl as h' D aA W st i X=>?_
  ·subst W
   refine⟨⟨F.base _ _ l,u⟩,?_⟩;exact A.call x y.ok _ _ _ _ aA z _ P af F i di e Q E (λ b r h'' j T l K=>dp b r h'' j T l (st.trans K))
    λ c cl as h'' j T l K v X=>d c cl as h'' j T l (st.trans K) v (X.low st.size)
  ·subst W
   cases e;exact d c cl as h' D aA rfl st i X
def nM(bf:Mode)(n:H ai)(m:az->cy):bV:=λ as ks=>match ks with
 |[]=>match(O as)==O n with
  |true=>ia bf (m (n.zip as).reverse)|false=>.au
 |_::_=>.au
theorem Hh(M:∀n,s.names.lookup n≠B .free):r_ x s cl [] α h:=
 ⟨λ u u e=>(nn e),λ n e=>aS e (M n),λ n u u e=>aS e (M n)⟩noncomputable def E9(s:bW):Bool:=s.names.all λ p=> !(p.2==.free)theorem Hi(h:E9 s=S)(n:ai):s.names.lookup n≠B .free:=λ e=>by obtain this:=b9.mp h _ (mem_of_lookup e);simp at this
noncomputable def eO(k:ai):H (ai×V)->U V
 |[]=>aa|(n,a)::es=>if n=k then B a else eO k es
noncomputable def fc(es:H (ai×V))(k:ai)(v:V):H (ai×V):=
 if es.any (λ e=>e.1=k)then es.map (λ e=>if e.1=k then(e.1,v)else e)else es++ [(k,v)]def Rg(es m:H (ai×V)):H (ai×V):=m.foldl (λ acc e=>fc acc e.1 e.2) es
noncomputable def mD(es:H (ai×V)):Bool:=decide (es.map (·.1)).Nodup
theorem c1.keys(r:c1 X α h k es):k.map (·.1)=es.map (·.1):=by induction r with|nil=>rfl|cons _ _ i=>simp[i]theorem c1.length(r:c1 X α h k es):O k=O es:=by simpa using (aM O r.keys)
theorem c1.opt(r:c1 X α h j6 es):h2 (a9 X α h) (Ly j6 k) (eO k es):=by
 induction r with
 |nil=>exact .none
 | @cons n v b es as R o i=>
  dsimp only[eO];unfold Ly;refine L anB ((Li (n=k)).elim (λ V=>?_) λ V=>?_)
  ·rw[bC V,gJ V];exact .some R
  ·rw[a6 V,l1 V];exact i
theorem c1.look(r:c1 X α h j6 es)(e:eO k es=B a):∃v,Ly j6 k=B v/\a9 X α h v a:=(e▸r.opt).inv
theorem c1.HW(r:c1 X α h j6 es)(e:eO k es=aa):Ly j6 k=none:=(e▸r.opt).no
theorem c1.append(r:c1 X α h j6 es)(R:c1 X α h k e):c1 X α h (j6++k) (es++e):=by induction r with|nil=>exact R|cons a _ i=>exact .cons a i
theorem c1.put(r:c1 X α h j6 es)(R:a9 X α h v a):c1 X α h (stored j6 k v) (fc es k a):=by
 obtain E:j6.any (λ o=>decide (o.1=k))=es.any (λ e=>decide (e.1=k)):=by induction r with|nil=>rfl|cons _ _ i=>simp[i]
 delta stored fc;refine L E ?_;split
 ·rename_i q
  clear q E;induction r with
  |nil=>exact .nil
  | @cons n u b es as p P i=>
   simp only[lY];by_cases V:n=k
   ·rw[bC V,bC V];exact .cons R i
   ·rw[a6 V,a6 V];exact .cons p i
 ·exact r.append (.cons R .nil)theorem c1.agd(R:c1 X α h M m):∀{k:H (ai×aq)}{es:H (ai×V)},c1 X α h k es->c1 X α h (merged k M) (Rg es m):=by induction R with|nil=>exact λ r=>r| @cons n v a es as W _ i=>exact λ r=>i (r.put W)
theorem qr:(strKind prog w).is k v=S ↔ ∃t,v=.str k t:=by
 constructor
 ·exact Value.isStrOf_shape
 ·rintro ⟨t,rfl⟩
  exact isStrOf_self k t
theorem age{X:H ao}(r:oK w.params X α h es xs):∃K,Pairs (strKind prog w) es K/\c1 X α h K xs/\∀e∈es,∃k,(strKind prog w).is k e.key=S/\e.hash=(strKind prog w).hash k:=by
 induction r with
 |nil=>exact⟨[],.nil,.nil,λ u h=>aS h dS⟩
 | @cons k t v x es xs R _ i=>
  refine gF i λ K p P d=>(⟨(k,v)::K,.cons (qr.mpr ⟨t,rfl⟩) rfl p,.cons R P,λ e y=>?_⟩);rcases dM.mp y with rfl|y
  ·exact⟨k,qr.mpr ⟨t,rfl⟩,rfl⟩
  ·exact d e y
theorem HX(N:mD es=S)(r:d2 w.params X α h a (.fY es)):∃k,h.DictOf (strKind prog w) a k/\c1 X α h k es:=oL r λ E n u i r=>gF (age r) λ k P p d=>⟨k,(e_ _ E n ⟨i,⟨rfl,rfl,rfl⟩,rfl,λ e x=>d e (x.val),P,L p.keys (iN N)⟩),p⟩theorem entry_eq{e:e7}(a:e.hash=x)(b:e.key=y)(c:e.val=z):e=⟨x,y,z⟩:=a▸b▸c▸rfl
theorem c1.inv(r:c1 X α h (Rh::k) xs):∃a as,xs=(Rh.1,a)::as/\a9 X α h Rh.2 a/\c1 X α h k as:=by cases r with|cons a r=>exact(bh _ _ ⟨rfl,a,r⟩)theorem agf(p:Pairs (strKind prog w) es j6):∀{xs:H (ai×V)},(∀e∈es,∃k,(strKind prog w).is k e.key=S/\e.hash=(strKind prog w).hash k)->c1 X α h j6 xs->oK w.params X α h es xs:=by induction p with|nil=>intro xs u r;cases r;exact .nil| @cons e o es j6 a b p i=>exact λ k r=>e4 r.inv λ v as q R n=>a7 (qr.mp a) λ t E=>av (k e cV) λ P C m=>a7 (qr.mp C) λ D T=>L q (L (entry_eq (Y m (aM _ (Value.str.inj (Y T.symm E)).1)) E b) (.cons R (i (λ e x=>k e (c7 _ x)) n)))theorem Ri(d:h.DictOf (strKind prog w) a k)(r:c1 X α h k es):d2 w.params X α h a (.fY es):=by refine rS d λ o E n i W A P R=>cq R λ u f=>?_;obtain⟨C,l,b⟩:=W;obtain⟨c,D,T,s⟩:=o;subst C l b A;exact(e_ E n () ⟨i,agf u (λ e x=>P e (by simpa using x)) r⟩)noncomputable def nQ{β:Type}(m:U cj)(f:H (ai×V)->U β):U β:=m.bind λ m=>match m with|.fY es=>f es|_=>aa
theorem HY{p:Type}{f:H (ai×V)->U p}{r:p}(e:nQ m f=B r){G:Prop}(k:∀es,m=B (.fY es)->f es=B r->G):G:=
 b3 e λ m h e=>by induction m with|fY es=>exact k es h e|_=>exact nn e
def xY(e:aJ):U Str:=F9 e (λ c=>match c with
  |.str k=>B k|_=>aa) aa
theorem HZ(h:xY e=B k):∃z p,e=.Constant (.str k) z p:=acL (P:=λ o=>o=B k->∃z p,e=.Constant _ z p) (λ c z p q h=>by
 rcases c with _|_|_|_|_|_|_|_;case str=>exact(bh z p (ax (ak h) q))
 all_goals exact nn h) nn h
def Hl(bS:H (U aJ)):U (H ai):=bS.rec (motive:=λ u=>U (H ai)) (B []) (λ e ks dF=>e.bind λ e=>(xY e).bind λ k=>(dF).map (k:: ·))def PS(ks:H ai)(m:H (Ev V)):Ev V:=λ σ=>oO (cE m (σ++ [.fY []])) λ as i=>nQ i[O σ]? λ es=>bR es.isEmpty (B (.ok (.aH (O σ)),i.set (O σ) (.fY (Rg [] (ks.zip as)))))
theorem Rj(env:cn):∀es:H aJ,O (iQ es env)=O es
 |[]=>rfl|_::es=>aM _ (Rj env es)def H0(g:bX)(x:bD)(env:cn)(ρ:az)(K:bj aq)(k:ai):Prop:=ag g x (bp g x env ρ) (λ u u v (u:gL)=>∃t,v=Lz k t) K (.ret ())theorem agg(c:vV)(k:ai)(h:c=.str k)(z:J)(p:cP):H0 g x env ρ (bG (.Constant c z p) env) k:=by subst h;exact ag.wp λ α σ s I t p Q E G=>D2 (G _ s.heap _ (λ u u e=>e) (bH _) ⟨_,rfl⟩)
theorem agh(y:cU g x env n):∀{ks:H ai}{z:H (bj aq)},bQ (H0 g x env ρ) z ks->∀{ay:H (bj aq)}{M:H (Ev V)},bQ (TE g x env ρ) ay M->O ks=O ay->
  ag g x (bp g x env ρ) (λ α h vs as=>∃K:H (ai×aq),Carries (strKind g.prog g.w) vs K/\c1 (x.P++α) α h K (ks.zip as)) (Yr (z.zip ay)) (cE M):=by
 intro ks z E;induction E with
 |nil=>
  intro ay M N h;induction N with
  |nil=>exact ag.pure λ u u u=>⟨[],trivial,.nil⟩|cons=>exact nomatch h
 | @cons c k z ks Q T i=>
  intro ay M N b;induction N with
  |nil=>exact nomatch b
  | @cons t m ay M q w=>
  obtain e:cE (m::M)=(Ev.ret _).bind λ u=>m.bind λ a=>(cE M).bind λ as=>.ret (a::as):=rfl;refine L e (ag.cv y Q λ A u=>?_);intro α σ s o af I D p;obtain⟨R,t0,rfl⟩:=p;obtain l:ag g x _ (λ α h vs as=>∃K:H _,Carries _ vs K/\c1 _ α h K ((k::ks).zip as)) (d_ [Lz k t0] t>>=λ v=>d_ [Lz k t0,v] (Yr _)>>=λ r=>pure ((Lz k t0,v)::r)) (m.bind λ a=>(cE M).bind λ as=>.ret (a::as)):=by refine ag.cv y q.holding λ v a=>(ag.hk y (y.hn v a) (i w (zm b)).holding λ vs as=>ag.pure λ α h p=>?_);obtain⟨⟨_,W⟩,K,X,j⟩:=p;exact⟨(k,v)::K,⟨qr.mpr ⟨t0,rfl⟩,rfl,X⟩,.cons W j⟩
  exact l α σ s o af I D R
theorem Rk:∀{K:H (U aJ)}{ks:H ai},Hl K=B ks->∃y:H (bj aq),KV K env=y.map B/\bQ (H0 g x env ρ) y ks
 |[],ks,e=>⟨[],rfl,ax (ak e) .nil⟩|none::_,_,e=>nn e
 |some k::K,ks,e=>b3 (o:=xY k) e λ z E e=>gE e λ zs f e=>
  f5 (HZ E) λ q p l=>
  av (Rk f) λ y h j=>
  ⟨bG k env::y,aM _ h,ax e (.cons (L l (agg _ _ rfl q p)) j)⟩theorem bQ.wrap(P:cP)(h:bQ (TE g x env ρ) ay ms):bQ (TE g x env ρ) (ay.map λ v=>(do let x<-v;dZ P;pure x:bj aq)) ms:=by induction h with|nil=>exact .nil|cons a _ i=>exact .cons (λ α σ s o af I t p e Q E G z=>aB (hS (a α σ s o af I t p e Q E G z) (λ u u y=>aB (ko (bl y))) λ u u y=>y)) i
theorem aeJ(y:cU g x env n)(G:Hl k=B ks)(l:bQ (TE g x env ρ) (iQ values env) b)(c:O values=O ks)(d:0<O ks)(z:O ks<=15):
  TE g x env ρ (bG (.Dict k values p) env) (PS ks b):=by
 refine λ α σ s o af I f R e Q E dp he=>av (Rk (g:=g) (x:=x) (env:=env) (ρ:=ρ) G) λ K fs A=>?_;generalize h:((iQ values env).map λ v=>(do let x<-v;dZ p;pure x))=ay;have C:=h▸Y (gg _) (Y (Rj env values) c);have P:O (K.zip ay)=O ks:=by simp only[List.length_zip,C,bQ.length A,Nat.min_self]
 refine t6 e λ as i f3 e=>HY e λ es ho e=>bN e λ iw e=>?_;obtain e:=bc (ak e);refine wpAny_Dict_pairs (knd:=strKind g.prog g.w) (L h (L fs (L List.zip_map_left rfl))) (λ q=>by rw[q]at P;exact aS P (il d)) (bA (fV P) z) ?_;obtain mo:d2 g.w.params _ _ (s.heap.push {cls:=.type "dict",data:=.dict #[] }) s.heap.objs.size (.fY []):=(e_ _ _ () ⟨d0 _ rfl,.nil⟩);have r:=I.new _ _ mo;obtain t:=I.bM.length▸h6;refine agh y A (h▸bQ.wrap p l) C.symm _ _ (cT s (s.heap.push {cls:=.type "dict",data:=.dict #[] }) s.toks) _ i r.1 f (bt.jW y.ok.cY y.ok.eu y.q _ _ _ _ _ I r.2.1 R) f3 _ _ (gk.ok λ vs cw h8 h9 W D T di=>av di λ X nE BO=>(av W.ext λ β w Bp=>?_)) eC.ok;subst w;obtain t:=iD t;refine av (HX (prog:=g.prog) rfl (D.look t ((k2.mp iw)▸ho))) λ F a m=>?_;cases m;refine⟨X,nE,a,λ h' u M=>?_⟩;obtain j:=D.put y.ok.cY t M λ o=>Ri u (c1.agd (BO.mono o eV) .nil);exact dp _ _ h' _ _ e.1.symm ((r.2.1.trans W).trans j.2) (ax e.2 j.1) (bA T (gK _ _)) ⟨_,t,rfl⟩def uL(nm:ai)(args:H aJ)(k:H vZ):U (ai×ai):=bR (nm==("replace" :ai)&&k.isEmpty) (two args λ a b=>(xY a).bind λ x=>(xY b).map λ y=>(x,y))def Rl(a b:ai):D->U D:=hB λ z=>bR (aZ (z.length+(z.length+1)*b.length) 16777216) (B (.str (aov z a b)))def Hm(a b:ai)(r:V):Ev V:=(Ev.read r).bind λ d=>Ev.ofD (Rl a b d)theorem agi{x:ai}(h:Q (.builtin "str.replace",[.str x t]) s):aO M A (Lo (.str x t) "replace" p) Q E s:=by with_reducible exact GM.of _ (Lb _ _ _) PySem.F.slot_str_replace PySem.F.type_str_replace GM.noRef h
theorem agj(Bq:Base g)(I:aG g x α σ s.heap)(D:1<=s.toks)(h:aL A.endLine pos.line=S)(t1 T:bj aq)(W:t1=zJ a)(j:T=zJ b)
  (K:z.length+(z.length+1)*b.length<=16777216)(G:hl x α s Q (.str (aov z a b))):aO (a5 g.prog g.w) x.A (Lq o "replace" A pos env (.str z t) 2 ([t1,T].map λ t=>(aj,t)) []) Q E s:=by
 subst W j;dsimp only[Lq];refine L (rfl:Za 2 _ []=S) (aB (dT ?_));unfold calleeOf;apply agi;have w:Zb S o env A pos=pure pos:=bC (cI.mpr (dE h));dsimp only;refine L w (aB (bl ?_));rw[G6 (λ y e=>by cases e),evalArgs_plain];have sp:vY ([zJ a,zJ b].map λ t=>(aj,t))=(zJ a>>=λ v=>d_ [v] (zJ b>>=λ u=>d_ [u] (pure ([]))>>=λ r=>pure (u::r))>>=λ R=>pure (v::R)):=by simp[vY]
 exact L sp (aB (dT (aB (aB (D2 (aB (dT (aB (D2 (aB (dT (bl (bl (bl (dT (bl (aB (ko (aB (SC.replaceA (hM D) (Nat.succ_ne_zero _) (il (km _)) K (λ C k=>aB (dT (Lp (bl (G _ s.heap k (λ y y e=>e) (bH _) (.str _ _)))))) (wQ Bq.booked I.base)))))))))))))))))))))
theorem aeK(y:cU g x env n)(Bq:Base g)(P:uL nm args k=B (a,b))(i:attributeBase o nm env (bG o env)=bG o env)(w:aL A.endLine W.line=S)(h:TE g x env ρ (bG o env) m):
  TE g x env ρ (bG (.Call (.Attribute o nm A) args k W) env) (m.bind (Hm a b)):=by
 refine bN P λ X P=>nK P λ i1 nA c P=>b3 P λ agk j P=>gE P λ rZ l f=>?_;obtain⟨V,R⟩:=bo X;obtain f:=bc f;obtain rfl:=cI.mp V;refine L (k2.mp R) (L c (f5 (HZ j) λ T K C=>(f5 (HZ l) λ G D F=>?_)));simp only[C,F,f.1,f.2,arm_eval_Call,i];refine ag.cv y h λ v r=>ag.standAt (ag.ghost (λ u u p=>p.2) λ d=>ag.toV ?_);cases e:Rl a b d with
 |none=>exact .au|some wM=>
 exact mh e λ z M e=>bN e λ q e=>ak e▸ag.wp λ α σ s I N p Q E dp=>by exact a7 ((M▸p.2:RD _ s.heap v _).str) λ t ev=>L ev (agj Bq I N w _ _ rfl rfl (b8 q) dp)
inductive o6 where
 |bi (id:b1)|fn (a:ao)noncomputable def o6.ctorIdx(e:o6):Nat:=o6.casesOn (motive:=λ u=>J) e (λ u=>0) (λ u=>1)
noncomputable def o6.val:o6->aq
 |.bi id=>.builtin id|.fn a=>.ref a
structure Cfg where
 gl:kC
 ct:ao->U bV
 bi:b1->H V->Ev V
 ty:b1->H V->Ev V
 ms:aE->V->ai->U o6
 attr:V->ai->Ev V
 item:V->V->Ev V
 set:V->V->V->Ev gL
 o7:V->V->Ev gL
 setattr:V->ai->V->Ev gL
 del:V->V->Ev gL
 loops:aF
 bf:cP->aF
 fuel:J
section
variable {g:bX}{x:bD}{env:cn}{ρ:az}{n:J}
def xG(g:bX)(a:ao)(n:J)(C:bV):Prop:=
 ∀(x:bD)(env:cn)(ρ:az),cU g x env n->∀(P:cP)(ay:H (bj aq))(m:H (Ev V))(ks:H (ai×bj aq))(k:H (Ev V)),bQ (TE g x env ρ) ay m->bQ (TE g x env ρ) (ks.map (·.2)) k->∀(first:H aq)(f:H V),
  ag g x (λ α h=>bp g x env ρ α h/\bU (x.P++α) α h first f) (dA x) (rp P (.ref a) first (ay.map λ t=>(aj,t)) (ks.map λ p=>(B p.1,p.2))) (ju C f m (ks.map (·.1)) k)theorem cK.w(h:cK g a n C):xG g a n C:=λ u u u y u u u u u=>aeF y h
structure gP(g:bX)(c:Cfg)(n:J):Prop where
 loops:c.loops=S->0<n
 G:hh g c.gl
 ct:∀a C,c.ct a=B C->xG g a n C
 bi:∀id (x:bD),eW g x n->eN g x (.builtin id) (c.bi id)
 ty:∀id (x:bD),eW g x n->eN g x (.type id) (c.ty id)
 ms:∀(x:bD) α σ (s:aU) v r nm t,eW g x n->aG g x α σ s.heap->a9 (x.P++α) α s.heap v r->c.ms σ r nm=B t->(∀a,t=.fn a->∃C,c.ct a=B C)/\∀cJ (Q:aq×H aq->aU->Prop) E,Q (t.val,[v]) s->aO (a5 g.prog g.w) x.A (Lo v nm cJ) Q E s
 attr:∀(x:bD),eW g x n->∀v a nm,ag g x (λ α h=>a9 (x.P++α) α h v a) (dA x) (getAttr v nm S) (c.attr a nm)
 item:∀(x:bD),eW g x n->∀v a u b (value slice:aJ),p6 slice=S->ag g x (λ α h=>a9 (x.P++α) α h v a/\a9 (x.P++α) α h u b) (dA x) (D_ value slice v u) (c.item a b)
 set:∀(x:bD),eW g x n->∀v a u b w d,ag g x (λ α h=>a9 (x.P++α) α h v a/\a9 (x.P++α) α h u b/\a9 (x.P++α) α h w d) (λ z z z z=>True) (zF v u w) (c.set a b d)
 o7:∀(x:bD),eW g x n->∀v a w d kz,ag g x (λ α h=>a9 (x.P++α) α h v a/\a9 (x.P++α) α h w d/\h.IsSliceOf kz .none .none .none) (λ z z z z=>True) (zF v (.ref kz) w) (c.o7 a d)
 setattr:∀(x:bD),eW g x n->∀v a nm w d,ag g x (λ α h=>a9 (x.P++α) α h v a/\a9 (x.P++α) α h w d) (λ z z z z=>True) (setAttr v nm w) (c.setattr a nm d)
 del:∀(x:bD),eW g x n->∀v a u b,ag g x (λ α h=>a9 (x.P++α) α h v a/\a9 (x.P++α) α h u b) (λ z z z z=>True) (delItem v u) (c.del a b)
end
def hr(m:Ev V):Ev V×Ev Bool:=(m,ub m)def sa:Ev V×Ev Bool:=(.au,.au)def PR(l:H vZ):U (H ai):=l.rec (B []) λ k u I=>k.arg.bind λ n=>I.map (n:: ·)
noncomputable def uJ:vZ->aJ
 |⟨_,e,_⟩=>e
noncomputable def Bm(e:aJ):Bool:=if h:e.ctorIdx=16 then YQ e h λ f as ks u=> !(aL f.ctorIdx 23&&(as.isEmpty&&ks.isEmpty))else S
def uK(c:Cfg)(f:V)(m:H (Ev V))(N:H ai)(k:H (Ev V)):Ev V:=match f with
 |.d (.bi id)=>match k with|[]=>(cE m).bind (c.bi id)|_::_=>.au
 |.d (.ty id)=>match k with|[]=>(cE m).bind (c.ty id)|_::_=>.au
 |.d (.obj a)=>match c.ct a with|some C=>ju C [] m N k|none=>.au
 |_=>.au
def qh(c:Cfg)(r:V)(nm:ai)(m:H (Ev V))(N:H ai)(k:H (Ev V)):Ev V:=λ σ=>match c.ms σ r nm with
 |some (.bi id)=>match k with|[]=>((cE m).bind λ as=>c.bi id (r::as)) σ|_::_=>aa
 |some (.fn a)=>match c.ct a with|some C=>ju C [r] m N k σ|none=>aa
 |none=>aa
def i2(b:aF)(o:Ev V×Ev aF):Ev V×Ev Bool:=match b with|true=>o|false=>sa
def Hj{α:Type}(k:U α)(f:α->Ev V×Ev aF):Ev V×Ev Bool:=match k with|some a=>f a|none=>sa
def Hk(c:Cfg)(I:bW->az->aJ->Ev V×Ev aF)(q:bW)(ρ:az)(e:aJ):Ev V×Ev Bool:=Oh sa
   (λ d es u=>(Az d (es.map λ e=>(I q ρ e).1),wV d (es.map λ e=>(I q ρ e).2)))
   (λ l d r u=>hr (kE d (I q ρ l).1 (I q ρ r).1))
   (λ d a u=>match d with
   |.Not=>(Ax .Not (I q ρ a).1,(((I q ρ a).2).bind λ b=>.ret (!b)))|d=>hr (Ax d (I q ρ a).1))
   (λ t a b u=>(fL (I q ρ t).2 (I q ρ a).1 (I q ρ b).1,fL (I q ρ t).2 (I q ρ a).2 (I q ρ b).2))
   (λ y w u=>Hj (Hl y) λ ks=>i2 (aL (O w) (O ks)&&(bE 0 (O ks)&&aZ (O ks) 15)) (hr (PS ks (w.map λ e=>(I q ρ e).1))))
   (λ E G C p=>match G with
   |[]=>sa|X::m=>i2 c.loops (hr (jt (c.bf p) c.fuel q C (I q ρ X.iter).1 (λ ρ e=>(I C ρ e).1) (λ ρ e=>(I C ρ e).2) E (X::m) ρ)))
   (λ l i es u=>i2 (es.all hY) (Od (I q ρ l).1 i (es.map λ e=>(I q ρ e).1),(I q ρ l).1.bind λ a=>wR a i (es.map λ e=>(I q ρ e).1)))
   (λ f args K P=>i2 (args.all fM) (Hj (PR K) λ j=>hZ f (λ u=>hr ((I q ρ f).1.bind λ F=>uK c F (args.map λ e=>(I q ρ e).1) j (K.map λ k=>(I q ρ (uJ k)).1)))
   (p7 f (λ o nm A=>i2 (Bm o&&(bE (O args+O K) 20&&aL A.endLine P.line)) (match uL nm args K with
     |some ab=>hr ((I q ρ o).1.bind (Hm ab.1 ab.2))|none=>hr ((I q ρ o).1.bind λ r=>qh c r nm (args.map λ e=>(I q ρ e).1) j (K.map λ k=>(I q ρ (uJ k)).1)))) sa)))
   (λ k u u=>hr (NO k))
   (λ o nm u=>i2 (Bm o) (hr ((I q ρ o).1.bind λ a=>c.attr a nm)))
   (λ v s u=>ui s (λ lo h st=>hr (Ol (I q ρ v).1 (lo.map λ e=>(I q ρ e).1) (h.map λ e=>(I q ρ e).1) (st.map λ e=>(I q ρ e).1))) (hr ((I q ρ v).1.bind λ a=>(I q ρ s).1.bind λ b=>c.item a b)))
   (λ nm u=>hr (p5 c.gl q ρ nm))
   (λ es p=>i2 (es.all fM) (hr (Oi (c.bf p) (es.map λ e=>(I q ρ e).1))))
   (λ es u u=>i2 (es.all fM) (hr (uf (es.map λ e=>(I q ρ e).1)))) e
def ba(c:Cfg)(n:J):bW->az->aJ->Ev V×Ev Bool:=n.rec (λ u u u=>sa) λ u=>Hk c
theorem bQ.evalEach(f:aJ->Ev V)(h:∀e,TE g x env ρ (bG e env) (f e)):∀es:H aJ,bQ (TE g x env ρ) (iQ es env) (es.map f)
 |[]=>.nil|e::es=>.cons (h e) (bQ.evalEach f h es)
theorem bQ.tests(f:aJ->Ev aF)(h:∀e,TB g x env ρ (iq e env (bG e env)) (f e)):∀es:H aJ,bQ (λ e m=>TB g x env ρ (iq e env (bG e env)) m) es (es.map f)
 |[]=>.nil|e::es=>.cons (h e) (bQ.tests f h es)
theorem h2.evalOpt(f:aJ->Ev V)(h:∀e,TE g x env ρ (bG e env) (f e)):∀o:U aJ,h2 (TE g x env ρ) (Lc o env) (o.map f)
 |Option.none=>h2.none|Option.some e=>h2.some (h e)
noncomputable def Bn(p:cP)(env:cn):H ai->H vZ->H (ai×bj aq)
 |n::N,k::ks=>(n,do let v<-bG (uJ k) env;dZ p;pure v)::Bn p env N ks|_,_=>[]
theorem PT(P:cP)(env:cn):∀(ks:H vZ)(N:H ai),PR ks=B N->backToKw P (keywordEach ks env)=(Bn P env N ks).map (λ p=>(B p.1,p.2))/\(Bn P env N ks).map (·.1)=N/\(Bn P env N ks).map (·.2)=ks.map λ k=>(do let v<-bG (uJ k) env;dZ P;pure v)
 |[],N,e=>by obtain rfl:=ak e;exact⟨rfl,rfl,rfl⟩
 |⟨B a,v,p⟩::ks,N,e=>by
  refine av (hR.mp e) λ q E w=>ax w (ff (PT P env ks q E) λ h j y=>(⟨?_,?_,?_⟩))
  ·show(B a,_)::backToKw P _=_
   exact L h rfl;first|rfl|done
  ·show a::_=_;rw[j]
  ·show _::_=_::_;simp only[y]
 |⟨aa,_,_⟩::_,_,e=>nn e
theorem bQ.qg(P:cP)(f:aJ->Ev V)(h:∀e,TE g x env ρ (bG e env) (f e)):∀ks:H vZ,bQ (TE g x env ρ) (ks.map λ k=>(do let v<-bG (uJ k) env;dZ P;pure v)) (ks.map λ k=>f (uJ k))
 |[]=>.nil
 |k::ks=>.cons (by
   exact λ α σ s o af I t p e Q E G z=>aB (hS (h _ α σ s o af I t p e Q E G z) (λ u u y=>λ c C b=>y) λ u u y=>y)) (bQ.qg P f h ks)
theorem Hn(h:Bm o=S)(nm:ai)(t:bj aq):attributeBase o nm env t=t:=by
 cases o with
 |Call f as ks p=>
  cases f with
  |Name id q=>
   rcases as with _|⟨a,as⟩
   ·rcases ks with _|⟨k,ks⟩
    ·exact bw h
    ·exact rfl
   ·exact rfl
  |_=>exact rfl (a:=t)
 |_=>exact rfl (a:=t)
theorem Ho(y:cU g x env n)(u:∀a,f≠ .ref a){C:H V->Ev V}(h:bQ (TE g x env ρ) ay j)(first:H aq)(F:H V)
  (X:eN g x f C):
  ag g x (λ α h=>bp g x env ρ α h/\bU (x.P++α) α h first F) (dA x) (rp b f first (ay.map λ t=>(aj,t)) []) ((cE j).bind λ as=>C (F++as)):=by
 simp only[G6 u,evalArgs_plain];obtain c:ag g x (λ α h=>bp g x env ρ α h/\bU _ α h first F) (λ α h (a:Args) as=>a.kw=[]/\bU _ α h (first++a.pos) (F++as)) (d_ (f::first) (vY _>>=λ vs=>d_ vs (pure ⟨vs,[]⟩))) _:=by exact λ α σ s o af I D p e Q E G z=>dT (aB (uc y h α σ s o af I D p.1 e _ _ (λ vs r h' K aA i st M T l=>dT (bl (G _ r h' K aA i st M T ⟨rfl,(y.AD first F _ _ _ _ st p.2).append l⟩))) z))
 refine c.bind λ a as=>?_;obtain⟨l,kw⟩:=a;intro α σ s o af I D p e Q E G z;obtain⟨k,p⟩:=p;exact L k (aB (λ d R A=>aB (X _ _ α σ s o af I D p e _ _ (λ v r h' K aA i st M T AI=>aB (dT (Lp (λ d R A=>G v r h' K aA i st M T AI)))) z)))
theorem aeG(K:gP g c n)(y:cU g x env n){ks:H (ai×bj aq)}(h:bQ (TE g x env ρ) ay m)(E:bQ (TE g x env ρ) (ks.map (·.2)) k):
  ag g x (λ α h=>bp g x env ρ α h/\a9 (x.P++α) α h F f) (dA x) (rp P F [] (ay.map λ t=>(aj,t)) (ks.map λ p=>(B p.1,p.2))) (uK c f m (ks.map (·.1)) k):=by
 induction f with
 |aH=>exact .au|d d=>
 intro α σ s o af I T p;rcases d with _|_|_|_|_|id|id|a|_|_|⟨_,_⟩
 case bi=>
  obtain rfl:=p.2.inv;cases k with
  |cons=>intro e;exact nn e
  |nil=>
   have:ks=[]:=by cases ks with|nil=>rfl|cons=>cases E
   subst this;exact Ho y (λ u e=>by cases e) h [] [] (K.bi id x y.ok) α σ s o af I T ⟨p.1,.nil⟩
 case ty=>
  obtain rfl:=p.2.inv;cases k with
  |cons=>intro e;exact nn e
  |nil=>
   have:ks=[]:=by cases ks with|nil=>rfl|cons=>cases E
   subst this;exact Ho y (λ u e=>by cases e) h [] [] (K.ty id x y.ok) α σ s o af I T ⟨p.1,.nil⟩
 case obj=>refine cq p.2.inv λ w _=>L w ?_;unfold uK;dsimp only;cases D:c.ct a with|none=>intro e;exact nn e|some C=>exact K.ct a C D x env ρ y P ay m ks k h E [] [] α σ s o af I T ⟨p.1,.nil⟩
 all_goals intro e;exact nn e
theorem aeH(K:gP g c n)(y:cU g x env n){ks:H (ai×bj aq)}(h:bQ (TE g x env ρ) ay m)(R:bQ (TE g x env ρ) (ks.map (·.2)) v)
  (w:k<20)(l:aL A.endLine pos.line=S):
  ag g x (λ α h=>bp g x env ρ α h/\a9 (x.P++α) α h F f) (dA x) (Lq o nm A pos env F k (ay.map λ t=>(aj,t)) (ks.map λ p=>(B p.1,p.2))) (qh c f nm m (ks.map (·.1)) v):=by
 intro α σ s i af I D p e Q E G z;have T:Za k (ay.map λ t=>(aj,t)) (ks.map λ p=>(B p.1,p.2))=true:=by unfold Za;simp only[(show(ay.map λ t=>(aj,t)).all (λ q:aF×bj aq=> !q.1)=S by simp),(show(ks.map λ p=>(B p.1,p.2)).all (λ q:U ai×bj aq=>q.1.isSome)=S by simp)];simp only[aoi,Kw];split<;>lia
 dsimp only[Lq];refine T.symm▸?_;unfold qh at e;cases r:c.ms σ f nm with
 |none=>rw[r]at e;exact nn e|some t=>
 rw[r]at e;obtain⟨V,X⟩:=K.ms x α σ s F f nm t y.ok I p.2 r;refine aB (dT (X _ _ _ ?_));obtain b:Zb S o env A pos=pure pos:=by unfold Zb;have:=dE l;simp[this]
 refine L b ?_;induction t with
 |bi id=>
  dsimp only at e;induction v with
  |cons=>exact nn e
  |nil=>
   obtain this:ks=[]:=by cases ks with|nil=>rfl|cons=>cases R
   exact L this (Ho y (λ u e=>by cases e) h [F] [f] (K.bi id x y.ok) α σ s i af I D ⟨p.1,.cons p.2 .nil⟩ e Q E G z)
 |fn a=>dsimp only at e;refine a7 (V a rfl) λ C N=>?_;rw[N]at e;exact K.ct a C N x env ρ y pos ay m ks v h R [F] [f] α σ s i af I D ⟨p.1,.cons p.2 .nil⟩ e Q E G z
theorem Hr(h:a<=b)(e:bk a m=S):bk b m=true:=b9.mpr λ j D=>Z.blt_iff.mpr (eo (Z.blt_iff.mp (b9.mp e j D)) h)
theorem aeL{σ:aE}(e:σ.all (bk a)=S):σ.all (bk (a+1))=true:=
 b9.mpr λ m h=>Hr (hg a) (b9.mp e m h)
theorem PX(bf:aF)(da:0<n)(y:cU g x env n)(cM:fa sc env)
  (l:TE g x env ρ (Lr G env) first)
  (T:∀(h5:bD)(P:cn),cU g h5 P n->fa X P->∀ρ e,TE g h5 P ρ (bG e P) (iE ρ e)/\TB g h5 P ρ (iq e P (bG e P)) (h7 ρ e)):
  ∀(α:H ao)(σ:aE)(s:aU)(r:V)(af:aE),aG g x α σ s.heap->1<=s.toks->bp g x env ρ α s.heap->jt bf N sc X first iE h7 elt G ρ σ=B (.ok r,af)->∀(Q:aq->aU->Prop)(E:aq->aU->Prop)(use:U (aq->bj gL)),
   (∀acc C K ei lr aA f m,C∈K->(∀b∈K,s.heap.objs.size<=b)->a_ x.F x.W α s.heap aA ei->aG g (Internal.fJ x K) aA af ei->a9 ((K++x.P)++aA) aA ei acc r->af.all (bk (O aA))=S->ei.Ns C m->1<=lr->compPost (a5 g.prog g.w) x.A E use Q acc C (.ok f) (cT s ei lr))->
   aO (a5 g.prog g.w) x.A (comprehension (.ListComp elt G X pos) X env (firstIterPos G pos) (newList []) (firstAsync G) (Lr G env) use) Q E s:=by
 intro α σ s r af I dm R e Q E use hk;refine Pn e λ qk o8 a PY j aeM aeN oV xs xI PZ f3 iw nB exs jZ o5=>?_;subst xI;have ok:=(bF.mp PZ).1;have P8:=(bF.mp ok).1;have P9:=(bF.mp P8).1;obtain⟨P_,lz,Hs⟩:=Pc nB;obtain hfr:∀m,(m,tB)∈X.names->(env.cells.lookup m).isSome=true:=by exact λ m hm=>av (R.lg m (r5 ok cM (uC P9 hm))) λ c c5 u=>L c5 rfl
 obtain⟨cl,xJ⟩:=ad0 hfr;refine(show firstAsync (qk::o8)=aj by cases qk;exact P_).symm▸(wpAny_comprehension_free (use:=use) rfl (GU ((bF.mp PZ).2) env) (adZ xJ) (by simpa using ((bF.mp P8).2)) (λ p hp cL=>ax (cL ..) (uC P9 hp)) (l α σ s _ PY I dm R f3 _ _ (gk.ok λ v1 c5 t1 xK i hD w8 g9=>?_) eC.ok));have cQ:=bt.jW y.ok.cY y.ok.eu y.q _ _ _ _ _ I i R;refine AK (g:=g) (x:=x) (pre:=λ α h=>a9 _ α h v1 a) (v:=v1) (a:=a) (λ u u p=>p) xK PY _ _ aeM hD w8 g9 iw _ _ (gk.ok λ it cw h8 h9 D eF i0 di=>av di λ aeO hIa Ht=>L Ht (ku (ff (eF.new {cls:=.type "list",data:=.seq ([]).toArray} (.ae []) ⟨[],⟨0,d0 _ rfl⟩,.nil⟩) λ fO M rv3=>?_) (by show 0<=kq;omega))) eC.ok;have R3:=bt.jW y.ok.cY y.ok.eu y.q _ _ _ _ _ eF M (bt.jW y.ok.cY y.ok.eu y.q _ _ _ _ _ hD D cQ);refine av rv3 λ acc Qa aeP=>?_;obtain aeQ:acc=cw.objs.size:=by injection aeP with q;exact q.symm
 generalize hh3:cw.push {cls:=.type "list",data:=.seq ([]).toArray} =cZ at fO M R3 ⊢;refine ad3 (s:=cT s cZ h8) λ P hce hCl=>L hce ?_;obtain Hu:=xp (h:=cZ) X;obtain Qb:=G4 (h:=cZ) X;obtain iZ:=fO.fJ Hu ((by
   intro b z;rcases dM.mp z with rfl|z
   ·exact⟨_,v9 _ _ _ _ (d0 _ rfl)⟩
   ·refine av (iP.mp z) λ p hp j3=>ax j3 ?_
    exact av (((r6 X).empty p.1 p.2 hp).1) λ o e u=>(⟨o,e⟩))) Qb (jN (Pm X))
 obtain⟨xH,aeR⟩:=ad7 y ok cM fO R3 xJ;obtain Hv:fa X (compEnv X cl cZ.objs.size env):=G3 X env rfl;obtain Hw:A1 g _ X _ n _ iE h7:=
  ⟨xH,Hv,λ b z=>bL _ z,aeR,da,λ ρ e=>(T _ _ xH Hv ρ e).1,λ ρ e=>(T _ _ xH Hv ρ e).2⟩
 obtain Qc:=get_append hIa;subst aeQ;refine Pd (g:=g) (x:=fJ x _) (s:=cT s _ h8) iZ Qc Hs rfl P_ (adX Hw _ 0 rfl j _ aeN _ _ oV _ aeO _ nB iZ.cF i0 (ad4 ok cM fO y.ok.cY R3 xJ).cF Qc Qa λ ei lr uA uo lj nH kJ=>av kJ.ns λ m Bo u=>L hCl ?_);have t:=(((((i.trans D).trans M).weaken (λ u q=>q) (λ b=>aW _)).trans (.of_keeps Qb (jN (Pm X)))).trans uo);obtain A:=λ b z=>bA (bA i.size (bA D.size M.size)) (Hu b z);refine av t.ext λ β Hx Bp=>?_;subst Hx;have len:=I.bM.length.symm;rw[len]at jZ o5;obtain Qd:cZ.objs.size∈h_ X cZ.objs.size:=cV ..;have F:=uo.get Qa;refine av (lj.bM.get F) λ aey Hy nC=>?_;have Hy:=exs▸Hy;cases Hy;refine av nC λ vs w41 rs=>?_;obtain⟨nn,lp⟩:=w41;have d:cw.objs.size∉x.P++α:=λ q=>aS (I.ny q) (ez.mpr (bA i.size D.size));obtain aeS:=λ q=>by obtain q:=Hu _ q;rw[<-hh3,er]at q;exact Ll _ q
 have k:cw.objs.size∈β:=by
  rcases bB.mp (eK F)with q|q
  ·exact aS (aW _ q) d
  ·exact q
 obtain Br:=lj.dG;induction bf with
 |false=>
  cases o5;have W:=aG.shrink (x2:=Internal.fJ x (h_ X cZ.objs.size)) Br (λ b z=>z) Br.fr jZ;refine hk (.ref cw.objs.size) cZ.objs.size (h_ X cZ.objs.size) ei lr α .next m Qd A (t.Pp A) W (aV.ae (λ q=>?_) ⟨nn,lp⟩ (rs.mono λ b o e nb=>⟨e,λ q=>nb ?_⟩)) (by simpa [len]using jZ) Bo nH
  ·rcases bB.mp q with q|q
   ·rcases bB.mp q with q|q
    ·exact aeS q
    ·exact d (bL _ q)
   ·exact d (aW _ q)
  ·rcases bB.mp q with q|q
   ·exact bL _ q
   ·exact aW _ (bL _ q)
 |true=>
  cases o5;have W:=aG.Hc (x2:=Internal.fJ x (h_ X cZ.objs.size)) (m:=.ae xs) Br (λ b z=>z) Br.fr jZ k ⟨vs,⟨nn,lp⟩,rs.mono λ b o e nb=>⟨e,λ q=>nb (by
   rcases bB.mp q with q|q
   ·exact bL _ q
   ·rcases bB.mp q with q|q
    ·exact aW _ (bL _ q)
    ·rw[ek.mp q];exact aW _ (aW _ k))⟩⟩
  refine hk (.ref cw.objs.size) cZ.objs.size (h_ X cZ.objs.size) ei lr (α++ [cw.objs.size]) .next m Qd A (t.ad8 A (bA i.size D.size)) W ⟨cw.objs.size,by simp,rfl⟩ ?_ Bo nH
  simpa [len,show∀n,bk n (.ae xs)=S from λ n=>rfl,zG]using aeL jZ
theorem a_.one(st:a_ F W α h aA h')(V:h.objs.size<=C)(c:hU C h' h''):a_ F W α h aA h'':=
 have N:∀{b o},h.get? b=B o->b≠C:=λ e q=>ez.mpr V (ax q (dI e))
 ⟨bA st.size (fV c.1.symm),st.ext,λ b o e f w n=>Y (c.2 b (N e)) (st.same b o e f w n),λ b o e w n=>a7 (st.slot b o e w n) λ s q=>⟨s,Y (c.2 b (N e)) q⟩⟩
theorem PV(bf:aF)(F:0<n)(y:cU g x env n)(K:fa p env)
  (k:TE g x env ρ (Lr G env) first)
  (h:∀(X:bD)(c:cn),cU g X c n->fa W c->∀ρ e,TE g X c ρ (bG e c) (v ρ e)/\TB g X c ρ (iq e c (bG e c)) (w ρ e)):
  TE g x env ρ (bG (.ListComp T G W M) env) (jt bf N p W first v w T G ρ):=by
 intro α σ s a af I dm R e Q E dp he;obtain⟨r,rfl⟩:=Po e;refine PX bf F y K k h α σ s r af I dm R e Q E aa λ acc C own ei lr aA f m V fresh st j A ok D P=>⟨m,D,λ kG l=>?_⟩;obtain t:=Y4 (fV j.bM.length.symm);obtain xj:=aG.cut (h':=ei) (L (ea ..) j) y.ok.cY (ax t.symm ok)
  (λ b u=>⟨λ q=>aS (I.ny (bL _ q)) (ez.mpr (fresh b u)),λ q=>j.c8 b q (bL _ u)⟩) (λ b q=>l.2 b λ z=>q (L z V)) (fV l.1.symm)
 apply dp acc r kG lr aA rfl (st.one (fresh C V) l) (ax t xj) P;induction r with|aH i=>exact A|d d=>exact aV.mono A λ b o e nb=>⟨Y (l.2 b λ z=>nb (L z (bL _ (bL _ V)))) e,λ q=>nb ((bB.mp q).elim (λ q=>bL _ (aW _ q)) (aW _))⟩abbrev qi(g:bX)(x:bD)(env:cn)(ρ:az)(e:aJ)(o:Ev V×Ev aF):Prop:=TE g x env ρ (bG e env) o.1/\TB g x env ρ (iq e env (bG e env)) o.2
theorem qj(h:b=S->qi g x env ρ e o):qi g x env ρ e (i2 b o):=by induction b with|false=>exact⟨.au,.au⟩|true=>exact h rfl
theorem PU{α:Type}{k:U α}{f:α->Ev V×Ev aF}(h:∀a,k=B a->qi g x env ρ e (f a)):qi g x env ρ e (Hj k f):=by induction k with|none=>exact⟨.au,.au⟩|some a=>exact h a rfl
theorem i3(y:cU g x env n)(h:TE g x env ρ (bG e env) m)(z:iq e env (bG e env)=(do let v<-bG e env;dZ e.pos;d_ [v] (tv v))):qi g x env ρ e (hr m):=⟨h,acH y z h⟩
theorem f7(K:gP g c n):∀(N:J)(j:bW)(ρ:az)(e:aJ)(x:bD)(env:cn),cU g x env n->fa j env->qi g x env ρ e (ba c N j ρ e)
 |0,_,_,_,_,_,_,_=>⟨.au,.au⟩
 |N+1,j,ρ,e,x,env,y,cM=>by
  have uM:=f7 K N;have i:=λ e=>(uM j ρ e x env y cM).1;have it:=λ e=>(uM j ρ e x env y cM).2;have d:=bQ.evalEach _ i;have m:∀e,qi g x env ρ e sa:=λ e=>⟨.au,.au⟩;cases e with
  |Constant k z p=>exact i3 y (L (Yp ..) ((aca k).pre λ w w p=>⟨p,trivial⟩)) rfl|Name nm p=>exact i3 y ((acb K.G cM p).pre λ w w p=>⟨p,trivial⟩) rfl|BinOp l op r p=>exact i3 y (F6 y (i l) (i r)) rfl
  |UnaryOp op a p=>
   exact match op with
   |.Not=>⟨Ay y (i a),ag.N6 (it a) λ u u u u=>aM _⟩|.Invert=>i3 y (Ay y (i a)) rfl|.UAdd=>i3 y (Ay y (i a)) rfl|.USub=>i3 y (Ay y (i a)) rfl
  |BoolOp op es p=>exact⟨acC y (d es),acK y (bQ.tests _ it es)⟩|Compare l ops es p=>exact qj λ h=>⟨acF y h (i l) (d es),acI y h (i l) (d es)⟩|IfExp t a b p=>exact⟨Of y (it t) (i a) (i b),Oe y (it t) (it a) (it b)⟩|Tuple es k p=>exact qj λ h=>i3 y (acP y h (d es)) rfl|List es p=>exact qj λ h=>i3 y (acO y _ h (d es)) rfl
  |Subscript v s p=>
   have gen:p6 s=S->qi g x env ρ (.Subscript v s p) (hr ((ba c N j ρ v).1.bind λ a=>(ba c N j ρ s).1.bind λ b=>c.item a b)):=λ hsl=>i3 y (Oj .. ▸
     ag.cv y (i v) λ Hp a=>ag.hk y (y.hn Hp a) (i s).holding λ u b=>ag.standAt ((K.item x y.ok Hp a u b v s hsl).pre λ w w p=>⟨p.1.2,p.2⟩)) rfl
   exact acT (λ lo dk st q e=>L e (i3 y (ac4 y (i v) (h2.evalOpt _ i lo) (h2.evalOpt _ i dk) (h2.evalOpt _ i st)) rfl)) gen
  |ListComp elt G Hq p=>
   exact match G with
   |[]=>m _
   |qk::o8=>qj λ cL=>i3 y (PV _ (K.loops cL) y cM
     (match qk with|.mk .. =>i _) λ h5 aeI xH sk' ar oy=>uM Hq ar oy h5 aeI xH sk') rfl
  |Attribute o nm p=>exact qj λ h=>i3 y ((by
    simp only[arm_eval_Attribute,Hn h];exact ag.cv y (i o) λ v a=>ag.standAt λ α σ s out af I dm p e Q E dp he=>(aB (ag.holding (K.attr x y.ok v a nm) α σ s out af I dm p.2 e _ _ (λ r p8 h' el aA dw st eX j0 di=>aB (wpAny_letTemporaryGo (bl (dp r p8 h' el aA dw st eX j0 di)))) he)))) rfl
  |Dict keys V p=>
   exact PU λ ks hk=>qj λ jr=>
    have X:=bo jr;have D:=bo X.2
    i3 y (aeJ y hk (d V) (dE X.1) (cg.mp D.1) (b8 D.2)) rfl
  |Call f args R p=>
   refine qj λ h=>PU λ T hk=>?_;have fs:=PT p env R T hk;have a1:backTo p (starEach args env)=(iQ args env).map λ t=>(aj,t):=L (ud args env h) (L (ue ..) rfl);have PW:=fs.2.2▸bQ.qg p _ i R;refine mr (λ nm q e=>?_) (acS (λ o nm q e=>?_) (m _))<;>subst e
   ·skip
    refine i3 y ?_ rfl;simp[aoj,a1,fs.1];exact ag.cv y (i _) λ v a=>by
     obtain this:=aeG K y (d args) PW
     rwa [fs.2.1]at this
   ·skip
    refine qj λ nE=>?_;obtain X:=bo nE;obtain D:=bo X.2;cases d1:uL nm args R with
    |some ab=>exact i3 y (aeK y y.base d1 (Hn X.1 nm _) D.2 (i o)) rfl
    |none=>
     refine i3 y ?_ rfl;simp[arm_eval_Call,Hn X.1,a1,fs.1];exact ag.cv y (i o) λ v a=>ag.standAt (by
      obtain this:=aeH K y (d args) PW (cg.mp D.1) D.2
      rwa [fs.2.1]at this)
  |_=>exact m _
theorem bt.Hd(G:cb x.F x.P)(y:cb x.W x.P)(q:Quiet x env)(I:aG g x α σ h)(st:a_ x.F x.W α h aA h')(fresh:∀b∈N,h.objs.size<=b)(R:bt g x env ρ α h):bt g (fJ x N) env ρ aA h':=by
 have K:fX h h' _ _:=λ b o e nb=>by
  refine cq (st.outer G y b o e nb) λ W j=>(⟨W,λ q=>?_⟩);rcases bB.mp q with q|q
  ·rcases bB.mp q with q|q
   ·exact aS (dI e) (ez.mpr (fresh b q))
   ·exact j (bL _ q)
  ·exact j (aW _ q)
 have T:∃β,aA=α++β:=av st.ext λ β e w=>⟨β,e⟩;have E:=λ a d z=>I.c8 a z d;refine⟨R.fv,R.gl,R.cc,aW _ R.fK,?_,?_,R.ap⟩
 ·refine av R.ns λ m f P=>t8 f λ o es Q i l r=>?_
  obtain⟨A,e⟩:=st.slot _ _ i q.1 (E _ R.fK);exact⟨m,(e_ _ es Q ⟨e,l,r⟩),λ n v k C=>av (P n v k C) λ u X p=>⟨u,X,p.mono K T⟩⟩
 ·refine λ n V=>R.jV V λ c D W j s F M ei=>av M λ o i l=>?_
  obtain⟨A,e⟩:=st.slot _ _ i (q.2 n c V W) (E _ j);exact⟨c,W,aW _ j,s,F,D,⟨_,e,l⟩,λ v k=>av (ei v k) λ u X p=>⟨u,X,p.mono K T⟩⟩
theorem bt.aeT(R:bt g (fJ x N) env ρ α h)(l:bt g x env ck s P)(d:hU C h h')(V:C∈N)(y:∀b∈N,b∉x.P):bt g x env ρ α h':=by
 have same:=λ b a=>d.2 b λ q=>y C V (q▸a);have K:fX h h' ((N++x.P)++α) (x.P++α):=λ b o e nb=>by simp only[bB,rj]at nb ⊢;exact⟨Y (d.2 b λ q=>nb.1.1 (L q V)) e,nb.1.2,nb.2⟩
 refine⟨R.fv,R.gl,R.cc,l.fK,av R.ns λ m W f=>t8 W λ o es j i E r=>(⟨m,(e_ _ es j ⟨Y (same _ l.fK) i,E,r⟩),λ n v k T=>av (f n v k T) λ u X p=>⟨u,X,p.mono K eV⟩⟩),λ n A=>R.jV A λ c G D z t I M ei=>av M λ o i E=>gF (l.lg n A) λ en F Q w=>?_,R.ap⟩;rw[D]at F;obtain rfl:=ak F;exact⟨c,D,Q,t,I,G,⟨_,Y (same _ Q) i,E⟩,λ v k=>av (ei v k) λ u X p=>⟨u,X,p.mono K eV⟩⟩
theorem Qe(c:dq g x s env n o)(V:Y9 e (B (.Name nm p)) W.line env=pure aj)(h:TE g x env ρ (bG e env) m):c9 g x o env ρ (fF (.Assign [.Name nm p] e W) env) (fb s nm m ρ):=by
 unfold fb;cases es:dU s nm with
 |false=>exact .au
 |true=>
  obtain E:fF (.Assign [.Name nm p] e W) env=(dZ W>>=λ u=>bG e env>>=λ v=>(dZ p>>=λ u=>pK env nm v)>>=λ u=>pure ri):=by
   dsimp only[Lm];obtain this:tC [.Name nm p] e W.line env=pure false:=by exact V
   refine L this ?_;congr 1
  refine L E (ag.standAt ((ag.lift c h).bind λ v a=>?_));have k:ag g _ _ (Bd g x _ env)
    ((dZ p>>=λ u=>pK env nm v)>>=λ u=>pure ri) ((Ev.ret _).bind λ u=>.ret (f6.next,(nm,a)::ρ)):=
   (ag.standAt ((r0 c.h4 c.w (oS c.cM es)))).bind λ u u=>ag.pure λ u u p=>⟨trivial,p⟩
  exact k
theorem aeU(bf:aF)(da:0<n)(c:dq g x sc env n A)
  (i:TE g x env ρ (Lr G env) first)
  (h:∀(h5:bD)(T:cn),cU g h5 T n->fa X T->∀ρ e,TE g h5 T ρ (bG e T) (iE ρ e)/\TB g h5 T ρ (iq e T (bG e T)) (h7 ρ e)):
  c9 g x A env ρ (fF (.Assign [.Name nm p] (.ListComp t G X q) d) env) (fb sc nm (jt bf N sc X first iE h7 t G ρ) ρ):=by
 generalize y:(env.blockKind==.function&&env.kindOf nm==B .local&&p.line==q.line&&!(X.names.any λ(n,k)=>n==nm&&(k==.local||k==.cell)))=b;obtain Qf:Y9 (.ListComp t G X q) (B (.Name nm p)) d.line env=pure b:=y.symm▸rfl;induction b with
 |false=>exact Qe c Qf (PV bf da c.y c.cM i h)|true=>
 unfold fb;cases es:dU sc nm with
 |false=>exact .au|true=>
 intro α σ s out af I dm R e Q E dp he;dsimp only[Ev.bind]at e;cases em:jt bf N sc X first iE h7 t G ρ σ with
 |none=>rw[em]at e;exact nn e|some z=>
 obtain⟨o,gO⟩:=z;rw[em]at e;refine a7 (Po em) λ r Hx=>?_;subst Hx;cases e;simp only[Lm];obtain this:tC [.Name nm p] (.ListComp t G X q) d.line env=pure true:=by exact Qf
 refine L this ?_;show aO _ _ (dZ d>>=λ j=>(comprehension _ X env _ _ _ _ _>>=λ j=>pure _)>>=λ j=>pure ri) Q E s;refine aB (ko (aB (aB ?_)));have r4:=bt.dG R;have eX:=I.dG;refine PX bf da c.y c.cM i h α σ s r af eX dm r4 em _ E _ λ acc C new ei lr aA f m hF fresh st V g9 ok Bo nH=>?_;have lb:∀b∈new,b∉x.P:=λ b y q=>aS (eX.ny (bL _ q)) (ez.mpr (fresh b y));obtain kJ:=bt.Hd c.y.ok.cY c.y.ok.eu c.y.q eX st fresh r4;obtain k:=ag.standAt (k:=λ j=>pK env nm acc) (r0 (λ b y=>aW _ (c.h4 b y):∀b∈(a3 (Internal.fJ x new) A).W,b∈(a3 _ A).P) c.w (oS c.cM es));refine k aA af _ _ af ⟨V.base,V.big,V.b2,V.alive,V.dv,V.c8,V.bM,V.fr,V.old⟩ nH ⟨⟨kJ.fv,kJ.gl,kJ.cc,kJ.fK,kJ.ns,kJ.lg,kJ.ap⟩,g9⟩ rfl _ _ (gk.ok λ u kG A3 A4 v M xk a=>av v.ext λ β w34 Bp=>?_) eC.ok;subst w34;have aeV:kG.Ns C m:=by exact oL Bo λ Qg nF c3 hoC ql=>((e_ Qg nF c3 ⟨v.same C Qg hoC (λ q=>lb C hF (c.y.ok.cY C q)) (λ q=>lb C hF (c.h4 C q)) (λ q=>V.c8 C q (bL _ hF)),ql⟩))
 refine⟨m,aeV,λ nN l=>bl (bl ?_)⟩;have l:hU C kG nN:=l;have len:=M.bM.length.symm;have D:=V.bM.length.symm;have aeW:=by simp only[D,e2]at len;exact DZ.mp (oj (aok len))
 subst aeW;rw[ea]at M a v;have Hz:=by obtain k:=aG.cut (h':=kG) (h'':=nN) (L (ea ..) ⟨M.base,M.big,M.b2,M.alive,M.dv,M.c8,M.bM,M.fr,M.old⟩) c.y.ok.cY (by rw[<-D,ov];rw[D];exact ok) (λ b y=>⟨lb b y,λ q=>V.c8 b q (bL _ y)⟩) (λ b nb=>l.2 b λ q=>nb (L q hF)) (fV l.1.symm);rw[<-D,ov]at k;exact k
 obtain stF:a_ (a3 x A).F (a3 x A).W α s.heap aA nN:=by have a2:=(st.cF λ j q=>aW _ q).trans v;exact⟨bA a2.size (fV l.1.symm),a2.ext,λ b o e f w n=>Y (l.2 b λ q=>aS (dI e) (ez.mpr (L q (fresh C hF)))) (a2.same b o e f w n),λ b o e w n=>a7 (a2.slot b o e w n) λ kz oy=>⟨kz,Y (l.2 b λ q=>aS (dI e) (ez.mpr (L q (fresh C hF)))) oy⟩⟩
 exact dp .next _ nN A3 aA rfl stF Hz.cF xk ⟨trivial,bt.cF ((⟨a.fv,a.gl,a.cc,a.fK,a.ns,a.lg,a.ap⟩:bt g (Internal.fJ x new) env _ aA kG).aeT r4 l hF lb)⟩noncomputable def HA{A:Type}(e:aJ)(f:aJ->ai->A)(z:A):A:=if h:e.ctorIdx=20 then zv e h λ o nm u=>f o nm else z
noncomputable def xM{A:Type}(e:aJ)(f:aJ->aJ->A)(z:A):A:=if h:e.ctorIdx=21 then Zc e h λ o i u=>f o i else z
noncomputable def Bs(e:aJ):Bool:=if h:e.ctorIdx=26 then Ea e h λ lo s st u=>lo.isNone&&(s.isNone&&st.isNone)else aj
theorem aeX{A:Type}{z:A}{P:A->Prop}{f:aJ->ai->A}(k:∀o nm p,e=.Attribute o nm p->P (f o nm))(K:P z):P (HA e f z):=by
 by_cases h:e.ctorIdx=20
 ·exact zv (motive_1:=λ E=>e=E->P (HA E f z)) e h k rfl
 ·exact(aM P (ja h)).mpr K
theorem HB{A:Type}{z:A}{P:A->Prop}{f:aJ->aJ->A}(k:∀o i p,e=.Subscript o i p->P (f o i))(K:P z):P (xM e f z):=by
 by_cases h:e.ctorIdx=21
 ·exact Zc (motive_1:=λ E=>e=E->P (xM E f z)) e h k rfl
 ·exact(aM P (ja h)).mpr K
theorem aeY(q:Bs e=S){G:Prop}(k:∀p,e=.Slice aa aa aa p->G):G:=by
 by_cases h:e.ctorIdx=26
 ·exact Ea (motive_1:=λ E=>e=E->Bs E=S->G) e h (λ lo s st p q h=>by
   have h:=h;have W:=bo h;have j:=bo W.2;exact k p (L q (L (zk.mp W.1) (L (zk.mp j.1) (L (zk.mp j.2) rfl))))) rfl q
 ·exact bw ((ja h).symm.trans q)
def sb(c:Cfg)(N:J)(s:bW)(ρ:az)(t:aJ)(a:V):Ev az:=hZ t (λ n=>match dU s n with|true=>.ret ((n,a)::ρ)|false=>.au) (HA t (λ o nm=>(ba c N s ρ o).1.bind λ l=>(c.setattr l nm a).bind λ u=>.ret ρ)
 (xM t (λ o i=>match p6 i with
   |true=>(ba c N s ρ o).1.bind λ l=>(ba c N s ρ i).1.bind λ I=>(c.set l I a).bind λ u=>.ret ρ
   |false=>match Bs i with
    |true=>(ba c N s ρ o).1.bind λ l=>(c.o7 l a).bind λ u=>.ret ρ|false=>.au) .au))def qm(c:Cfg)(N:J)(s:bW)(l:H aJ):H V->az->Ev az:=l.rec (λ as ρ=>match as with|[]=>.ret ρ|_::_=>.au) λ t u I as ρ=>match as with|a::as=>(sb c N s ρ t a).bind λ ar=>I as ar|[]=>.au
theorem ag.Qh(c:dq g x v env n o){K:H ao->aX->Prop}{post:H ao->aX->w->a->Prop}(h:ag g x (λ α h=>bp g x env ρ α h/\K α h) post t m):
  ag g (a3 x o) (λ α h=>bp g (a3 x o) env ρ α h/\K α h) (λ α h b r=>bp g (a3 x o) env ρ α h/\post α h b r) t m:=by
 intro α σ s f af I D p e Q E G y;refine h α σ s f af I.dG D ⟨bt.dG p.1,p.2⟩ e Q E (λ b r h' C aA i st F T P=>G b r h' C aA i (st.cF λ u q=>aW _ q) F.cF T ⟨c.r9 I st p.1,P⟩) λ z cl as h' C aA i st T X=>y z cl as h' C aA i (st.cF λ u q=>aW _ q) T X.cF
theorem Qi(K:gP g c n)(N:J)(y:cU g x env n)(C:fa q env){v:aq}(dk:p6 i=S):
  ag g x (λ α h=>bp g x env ρ α h/\a9 (x.P++α) α h v a) (λ u u u u=>True) (l0 (.Subscript o i W) env v) ((ba c N q ρ o).1.bind λ l=>(ba c N q ρ i).1.bind λ t=>c.set l t a):=by
 have z:=λ e=>(f7 K N q ρ e x env y C).1;refine ag.hk y (y.hn v a) (z o).holding λ R l=>(ag.pre (ag.hk y (F8 (y.hn v a) (y.hn R l)) (z i).holding λ m t=>ag.standAt ?_) λ u u p=>⟨p.1.1,p.1.2,p.2⟩);have k:=(ag.holding (vs:=[v,R,m]) (K.set x y.ok R l m t v a)).pre (pre':=λ α h=>(bp g x env ρ α h/\a9 _ α h v a/\a9 _ α h R l)/\a9 _ α h m t) λ u u p=>⟨p.1.2.2,p.2,p.1.2.1⟩;intro α σ s f af I D p e Q E G b;exact aB (k α σ s f af I D p e _ _ (λ r X h' F aA w st d P di=>zt (G _ X h' F aA w st d P trivial)) b)
theorem aeZ(K:gP g c n)(N:J)(y:cU g x env n)(D:fa w env){v:aq} :
  ag g x (λ α h=>bp g x env ρ α h/\a9 (x.P++α) α h v a) (λ u u u u=>True) (l0 (.Subscript o (.Slice aa aa aa q) P) env v) ((ba c N w ρ o).1.bind λ l=>c.o7 l a):=by
 refine ag.hk y (y.hn v a) ((λ e=>(f7 K N w ρ e x env y D).1) o).holding λ R l=>?_;intro α σ s f af I F p e Q E G z;refine aB (dT (aB (bl (aB (dT (bl (aB (dT (bl (ku (aB (ko ?_)) (by show 3<=kq+2;decide)))))))))));obtain k:=λ b V=>dy _;obtain t:a_ x.F x.W α s.heap α (s.heap.push {cls:=.type "slice",dict:=aa,data:=.fields [jM,jM,jM].toArray}):=.push ..;exact aB (dT ((K.o7 x y.ok R l v a s.heap.objs.size) α σ (cT s (s.heap.push {cls:=.type "slice",dict:=aa,data:=.fields [jM,jM,jM].toArray}) s.toks) f af (I.keeps k (L (er ..) (hg _))) F ⟨p.2.mono (λ b V e n=>⟨k b V e,n⟩) eV,p.1.2.mono (λ b V e n=>⟨k b V e,n⟩) eV,.new ..⟩ e _ _ (λ r X h' C aA i st M T W=>zt (G _ X h' C aA i (t.trans st) M T trivial)) λ d cl as h' C aA i st T m=>z d cl as h' C aA i (t.trans st) T (m.low t.size)))
theorem ae0(K:gP g c n)(N:J)(y:cU g x env n)(C:fa q env){v:aq} :
  ag g x (λ α h=>bp g x env ρ α h/\a9 (x.P++α) α h v a) (λ u u u u=>True) (l0 (.Attribute o nm P) env v) ((ba c N q ρ o).1.bind λ l=>c.setattr l nm a):=by
 refine ag.hk y (y.hn v a) ((λ e=>(f7 K N q ρ e x env y C).1) o).holding λ R l=>ag.standAt ?_;have k:=(ag.holding (vs:=[v,R]) (K.setattr x y.ok R l nm v a)).pre (pre':=λ α h=>(bp g x env ρ α h/\a9 _ α h v a)/\a9 _ α h R l) λ u u p=>⟨p.2,p.1.2⟩;intro α σ s f af I T p e Q E G z;exact aB (k α σ s f af I T p e _ _ (λ r X h' D aA i st F t m=>zt (G _ X h' D aA i st F t trivial)) z)theorem Ev.assoc{e p r:Type}(m:Ev e)(k:e->Ev p)(l:p->Ev r):(m.bind k).bind l=m.bind λ a=>(k a).bind l:=by funext σ;dsimp only[Ev.bind];induction m σ with|none=>rfl|some q=>obtain⟨o,V⟩:=q;induction o<;>rfl
theorem Qj(C:dq g x w env n W)(K:gP g c n)(N:J)(t:aJ):
  ag g (a3 x W) (λ α h=>bp g (a3 x W) env ρ α h/\a9 (x.P++α) α h v a) (λ α h u ar=>bp g (a3 x W) env ar α h) (l0 t env v) (sb c N w ρ t a):=by
 have l:∀{t:bj gL}{m:Ev gL},ag g x (λ α h=>bp g x env ρ α h/\a9 (x.P++α) α h v a) (λ u u u u=>True) t m->
   ag g (a3 x W) (λ α h=>bp g (a3 x W) env ρ α h/\a9 (x.P++α) α h v a) (λ α h u ar=>bp g (a3 x W) env ar α h) t (m.bind λ u=>.ret ρ):=by
  intro t m h;obtain k:=(ag.Qh C h).bind (post:=λ α h u ar=>bp g _ env ar α h) λ u u=>ag.pure λ u u p=>p.1;rw[bind_pure_unit]at k;exact k
 refine mr (λ nm p q=>?_) (aeX (λ o nm p q=>?_) (HB (λ o i p q=>?_) .au))<;>refine L q ?_
 ·cases es:dU w nm with|false=>exact .au|true=>apply ag.standAt;intro α σ s j af I T p e Q E G y;cases e;exact r0 C.h4 C.w (oS C.cM es) α σ s _ σ I T p rfl Q E (λ b r h' D aA V=>G b _ h' D aA rfl) eC.ok
 ·obtain k:=l (ae0 K N C.y C.cM)
  rw[Ev.assoc]at k;exact k
 ·cases d:p6 i with|true=>obtain k:=l (Qi K N C.y C.cM d);simp[Ev.assoc]at k;exact k|false=>cases R:Bs i with|false=>exact .au|true=>refine aeY R λ q e=>L e ?_;obtain k:=l (aeZ K N C.y C.cM);simp[Ev.assoc]at k;exact k
theorem HC(h:fM t=S)(ay:H aJ):ou (t::ay) env=(aj,l0 t env)::ou ay env:=by
 rcases t with⟨_,_,_⟩|⟨_,_,_⟩|⟨_,_,_,_⟩|⟨_,_,_⟩|⟨_,_,_,_⟩|⟨_,_,_,_⟩|⟨_,_,_⟩|⟨_,_,_⟩|⟨_,_,_,_⟩|⟨_,_,_,_⟩|⟨_,_,_,_,_⟩|⟨_,_,_,_⟩|⟨_,_⟩|⟨_,_⟩|⟨_,_⟩|⟨_,_,_,_⟩|⟨_,_,_,_⟩|⟨_,_,_,_⟩|⟨_,_⟩|⟨_,_,_⟩|⟨_,_,_⟩|⟨_,_,_⟩|⟨_,_⟩|⟨_,_⟩|⟨_,_⟩|⟨_,_,_⟩|⟨_,_,_,_⟩;case Starred=>exact bw h
 all_goals rfl
theorem ae1(h:es.all fM=S):O (ou es env)=O es/\(ou es env).findIdx? (·.1)=none:=by induction es with|nil=>exact⟨rfl,rfl⟩|cons t es i=>obtain h:=bo h;obtain i:=i h.2;exact L (HC h.1 es) ⟨aM i9 i.1,L aof (L i.2 rfl)⟩
theorem Qk(C:dq g x q env n o)(K:gP g c n)(N:J)(ay:H aJ):∀(vs:H aq)(as:H V)(ρ:az),ay.all fM=S->
  ag g (a3 x o) (λ α h=>bp g (a3 x o) env ρ α h/\bU (x.P++α) α h vs as) (λ α h u ar=>bp g (a3 x o) env ar α h) (Lg ((ou ay env).map (·.2)) vs) (qm c N q ay as ρ):=by
 induction ay with
 |nil=>
  intro vs as ρ u;induction as with
  |nil=>exact ag.pure λ u u p=>p.1|cons=>exact .au
 |cons t ay i=>
  intro vs as ρ h;cases as with
  |nil=>exact .au|cons a as=>
  induction vs with|nil=>exact λ α σ s f af I T p=>p.2.bad|cons v vs=>obtain h:=bo h;rw[HC h.1];exact((ag.frame (Qj C K N t) (wW (x:=a3 x o) C.y.ok.cY C.h4 vs as)).pre λ α h p=>⟨⟨p.1,p.2.both.1⟩,p.2.both.2⟩).holding.bind λ u ar=>i vs as ar h.2
noncomputable def nameIn(k:ai->aF)(l:J)(e:aJ):U Str:=PySem.swappedStores.match_8 (λ u=>U ai) e (λ id p=>if (k id&&p.line==l)=S then B id else aa) λ u=>aa
def Ql(k:ai->aF)(ay vs:H aJ):U (U (H ai)):=
 if (!(O ay==2||List.length ay==3)||List.length vs !=O ay)=S then B aa
 else if (vs.any λ e=>PySem.swappedStores.match_5 (λ u=>aF) e (λ u v=>S) λ u=>aj)=S then B aa
 else
  let n:=ay.filterMap (nameIn k ((ay.head?.map (·.pos.line)).getD 0))
  if (O n !=O ay||List.length n.eraseDups !=O n)=S then B aa
  else if vs.all (foldedForSure 8)=S then B aa
  else if vs.all (constantsAlone 8)=S then aa
  else B (B n)def Bt(s:bW):H aJ->H aJ->U (U (H ai)):=Ql λ id=>s.names.lookup id==B .local
def gQ(b:aF)(m:cy):cy:=match b with|true=>m|false=>.au
def sd{A:Type}(o:U A)(f:A->cy):cy:=match o with|some a=>f a|none=>.au
def Bu(v:V)(f:D->cy):cy:=match v with|.d d=>f d|.aH _=>.au
def uN(e:aJ):U (H aJ):=rU e B aa
def lA(m:Ev az):cy:=m.bind λ ar=>.ret (.next,ar)
def se(c:Cfg)(N:J)(s:bW)(ay vs:H aJ)(ρ:az):cy:=gQ (vs.all fM&&(bE (O vs) 100&&aL (O ay) (O vs))) (sd (Bt s ay vs) λ w=>match w with
 |none=>(cE (vs.map λ e=>(ba c N s ρ e).1)).bind λ as=>lA (qm c N s ay as ρ)|some n=>gQ (n.all (dU s)) ((cE (vs.map λ e=>(ba c N s ρ e).1)).bind λ as=>.ret (.next,(n.reverse.zip as.reverse).reverse++ρ)))def Qm(c:Cfg)(N:J)(s:bW)(ay:H aJ)(m:Ev V)(ρ:az):cy:=m.bind λ a=>Bu a λ d=>lA ((Ev.of (hE d (O ay))).bind λ ds=>qm c N s ay (ds.map V.d) ρ)
def xN(c:Cfg)(N:J)(s:bW)(t e:aJ)(ρ:az):cy:=rU t (λ ay=>gQ (ay.all fM&&c.loops) (match uN e with
  |some vs=>se c N s ay vs ρ|none=>Qm c N s ay (ba c N s ρ e).1 ρ))
 (hZ t (λ nm=>fb s nm (ba c N s ρ e).1 ρ) (gQ (aL t.ctorIdx 20||Nat.beq t.ctorIdx 21) ((ba c N s ρ e).1.bind λ a=>lA (sb c N s ρ t a))))
theorem Qn(s:fa p env)(id:ai):(env.kindOf id==B .local)=(p.names.lookup id==B .local):=by
 rcases s id with e|⟨E,f⟩
 ·rw[e]
 ·rw[E,f];rfl
theorem Bv{A Bq:Type}{c:aF}{f:A->Bq}{a r:A}{X:U A}{Yq:Bq}(e:(if c=S then B a else X)=B r)(k:X=B r->Yq=f r):(if c=S then f a else Yq)=f r:=match c,e,k with|true,e,_=>aM f (ak e)|false,e,k=>k e
theorem ae2{A Bq:Type}{f:A->Bq}{a b r:A}{z:Bq}(e:(if C=S then B a else if d=S then B a else if q=S then B a else if mC=S then B a else if c=S then aa else B b)=B r):
  (if C=S then f a else if d=S then f a else if q=S then f a else if mC=S then f a else if c=S then z else f b)=f r:=
 Bv e λ e=>Bv e λ e=>Bv e λ e=>Bv e λ e=>by induction c with|false=>exact aM f (ak e)|true=>exact nn e
theorem ae3(e:Bt s ay vs=B (B N)):O N=O ay:=by
 obtain k:∀{c C r A l:aF}{n:H ai},(if c=S then B aa else if C=S then B aa else if (O n !=O ay||r)=S then B aa else if A=S then B aa else if l=S then aa else B (B n))=B (B N)->O N=O ay:=λ{c C r A l n} e=>by
  induction c with
  |true=>exact nn (ak e)|false=>
  induction C with
  |true=>exact nn (ak e)|false=>
  cases h:(O n !=O ay||r)with
  |true=>rw[h]at e;exact nn (ak e)|false=>
  rw[h]at e;induction A with
  |true=>exact nn (ak e)|false=>
  induction l with
  |true=>exact nn e|false=>
  exact(ak (ak e))▸aol λ q=>by rw[bne_iff_ne.mpr q]at h;exact y3 h
 exact k e
theorem ae4(s:fa q env)(h:env.scope.kind=.function)(e:Bt q ay vs=B r):zH [.Tuple ay k p] (.Tuple vs cH HD) env=pure r:=by refine Y ?_ (ae2 (z:=DP "assign.tuple-of-constant-expressions:order-of-the-stores") (L (funext (Qn s)) e:Ql (λ id=>env.kindOf id==B .local) ay vs=B r));unfold zH;dsimp only;refine L (show env.blockKind=.function by unfold Env.blockKind;rw[h];rfl) (L (show _=aj from rfl) (L (Ls ..) ?_));rfl
theorem ae5(c:dq g x q env n o)(N:H ai):∀(vs:H aq)(as:H V)(ρ:az),N.all (dU q)=S->O N=O as->
  ag g (a3 x o) (λ α h=>bp g (a3 x o) env ρ α h/\bU (x.P++α) α h vs as) (λ α h u u=>bp g (a3 x o) env ((N.zip as).reverse++ρ) α h) (Lg (N.map λ n=>pK env n) vs) (.ret ()):=by
 induction N with
 |nil=>
  intro vs as ρ u z;induction as with
  |nil=>exact ag.pure λ u u p=>p.1|cons=>exact nomatch z
 |cons nm N i=>
  intro vs as ρ h z;cases as with
  |nil=>exact nomatch z
  |cons a as=>
  induction vs with|nil=>exact λ α σ s f af I t p=>p.2.bad|cons v vs=>have h:=bo h;exact L (show(((nm::N).zip _).reverse++ρ)=(N.zip as).reverse++((nm,a)::ρ) by simp only[List.zip_cons_cons,D0,eb];rfl) (((ag.frame (r0 c.h4 c.w (oS c.cM h.1)) (wW (x:=a3 x o) c.y.ok.cY c.h4 vs as)).pre λ α h p=>⟨⟨p.1,p.2.both.1⟩,p.2.both.2⟩).holding.bind λ u u=>i vs as _ h.2 (Nat.add_right_cancel z))theorem bU.rev(r:bU X α h vs as):bU X α h vs.reverse as.reverse:=by induction vs generalizing as with|nil=>cases r;exact .nil|cons v vs i=>cases r with|cons a r=>simp[D0];exact(i r).append (.cons a .nil)def Qo(x:bD)(n:J)(α:H ao)(h:aX)(v:aq)(as:H V):Prop:=∃T P,v=.ref T/\IsT h T P/\O P=n/\bU (x.P++α) α h P as
theorem ae6(y:cU g x env n)(c:es.all fM=S)(d:es.length<100)(h:bQ (TE g x env ρ) (iQ es env) ms):
  ag g x (bp g x env ρ) (Qo x (O es)) (bG (.Tuple es k p) env) (cE ms):=by
 simp[arm_eval_Tuple,ud es env c,ue];apply ag.standAt;intro α σ s o af I D R e Q E G z;obtain q:=by
  have:∀es:H aJ,O (iQ es env)=O es:=λ es=>by induction es with|nil=>rfl|cons e es i=>show O _+1=_;rw[i];rfl
  exact this es
 obtain t:=by exact q▸h.length.symm
 obtain r:∀{ms:H _}{σ af:aE}{as:H V},cE ms σ=B (.ok as,af)->O as=O ms:=by intro ms;induction ms with|nil=>intro σ af as e;cases e;rfl|cons m ms i=>intro σ af as e;refine eM (Ev.aT e) λ a X u f=>(eM (Ev.aT f) λ bs j v F=>?_);cases F;exact zh.mpr (i v)
 refine aB ((uc y h) α σ s o af I D R e _ E (λ vs as h' C aA N st w T P=>?_) z);subst N;obtain l:O vs=O es:=L P.length (L (r e) (L t rfl));refine ku ?_ (by show vs.toArray.size<=kq;simp[hT,l,vW];lia);obtain K:=λ b W=>dy _;exact G _ as _ C aA rfl (st.trans (.push ..)) (w.keeps K (L (er ..) (hg _))) T (bh _ vs ⟨rfl,⟨0,d0 _ rfl⟩,l,P.mono (λ b W e n=>⟨K b W e,n⟩) eV⟩)theorem xO(h:tC [t] e p.line env=pure aj):fF (.Assign [t] e p) env=(dZ p>>=λ u=>bG e env>>=λ v=>zH [t] e env>>=λ w=>assignStores env v w ((ou [t] env).map (·.2))):=by simp only[Lm,h];rfl
theorem Bw(h:(!(aL t.ctorIdx 23))=S)(l:J):tC [t] e l env=pure false:=by
 by_cases A:qf e=S
 ·exact xt A _ _
 ·cases e with
  |ListComp=>rcases t with _|_<;>first|exact rfl (a:=pure aj)|exact bw h
  |SetComp=>rcases t with _|_<;>first|exact rfl (a:=pure aj)|exact bw h
  |DictComp=>rcases t with _|_<;>first|exact rfl (a:=pure aj)|exact bw h
  |_=>exact aS rfl A
theorem j4(h:b=S->c9 g x o env ρ t m):c9 g x o env ρ t (gQ b m):=match b,h with|false,_=>.au|true,h=>h rfl
theorem HE{A:Type}{o:U A}{f:A->cy}(h:∀a,o=B a->c9 g x W env ρ t (f a)):c9 g x W env ρ t (sd o f):=match o,h with|none,_=>.au|some a,h=>h a rfl
theorem ae7(h:uN e=aa)(ay:H aJ)(k:J)(p:cP):zH [.Tuple ay k p] e env=pure none:=by cases e with|Tuple=>exact aS h nofun|_=>exact rfl (a:=pure aa)theorem xP:c9 g x o env ρ t (fb s nm .au ρ):=by unfold fb;cases dU s nm<;>exact .au
theorem ae8{b:aF}{o:Ev V×Ev aF}(h:b=S->c9 g x W env ρ t (fb s nm o.1 ρ)):c9 g x W env ρ t (fb s nm (i2 b o).1 ρ):=match b,h with|false,_=>xP|true,h=>h rfl
theorem ae9(C:dq g x s env n o)(K:gP g c n)(nm:ai)(p:cP)(e:aJ)(P:cP):∀N,c9 g x o env ρ (fF (.Assign [.Name nm p] e P) env) (fb s nm (ba c N s ρ e).1 ρ)
 |0=>xP
 |N+1=>by
  obtain gen:qf e=S->c9 g x o env ρ (fF (.Assign [.Name nm p] e P) env) (fb s nm (ba c (N+1) s ρ e).1 ρ):=λ A=>Qe C (xt A ..) (f7 K _ s ρ e x env C.y C.cM).1;rcases e with⟨_,_,_⟩|⟨_,_,_⟩|⟨_,_,_,_⟩|⟨_,_,_⟩|⟨_,_,_,_⟩|⟨_,_,_,_⟩|⟨_,_,_⟩|⟨_,_,_⟩|⟨E,G,W,q⟩|⟨_,_,_,_⟩|⟨_,_,_,_,_⟩|⟨_,_,_,_⟩|⟨_,_⟩|⟨_,_⟩|⟨_,_⟩|⟨_,_,_,_⟩|⟨_,_,_,_⟩|⟨_,_,_,_⟩|⟨_,_⟩|⟨_,_,_⟩|⟨_,_,_⟩|⟨_,_,_⟩|⟨_,_⟩|⟨_,_⟩|⟨_,_⟩|⟨_,_,_⟩|⟨_,_,_,_⟩
  case ListComp=>
   exact match G with
   |[]=>xP
   |X::b=>ae8 λ h=>aeU _ (K.loops h) C
     (match X with|.mk .. =>(f7 K N s ρ _ x env C.y C.cM).1) λ I m y i ar j=>f7 K N W ar j I m y i
  case SetComp=>exact xP
  case DictComp=>exact xP
  all_goals exact gen rfl
theorem HF{t:bj gL}(h:ag g (a3 x o) pre (λ α h u ar=>bp g (a3 x o) env ar α h) t m):
  ag g (a3 x o) pre (Bd g x (a3 x o) env) (t>>=λ u=>pure ri) (lA m):=h.bind λ u u=>ag.pure λ u u p=>⟨trivial,p⟩theorem Qp(h:ay.all fM=S):l0 (.Tuple ay k p) env v=(dZ p>>=λ u=>d_ [v] (zA v (O ay) aa)>>=λ P=>Lg ((ou ay env).map (·.2)) P):=by obtain l:=ae1 h;simp[arm_assign_Tuple];unfold unpack;exact L l.1 (L l.2 rfl)
theorem Qq(c:dq g x w env n o)(W:0<n):ag g (a3 x o) (λ α h=>bp g (a3 x o) env ρ α h/\Qo x k α h v as)
  (λ α h P (u:gL)=>(bp g (a3 x o) env ρ α h/\bU (x.P++α) α h P as)/\O P=k) (zA v k aa) (.ret ()):=by
 intro α σ s f af I t p e Q E G y;cases e;obtain⟨R,T,P,rfl,N,z,X⟩:=p;refine O1 (c.y.ok.handled W) N.iV z.symm λ h' K V=>?_;obtain st:a_ x.F x.W α s.heap α h':=.of_keeps K V;exact G P _ h' s.toks α rfl (st.cF λ u q=>aW _ q) (I.keeps K V) t ⟨⟨c.r9 I st R,X.mono (λ b A e n=>⟨K b A e,n⟩) eV⟩,z⟩theorem ae_(C:dq g x r env n W)(K:gP g c n)(h:c.loops=S)(N:J)(y:ay.all fM=S):c9 g x W env ρ (fF (.Assign [.Tuple ay k p] (.Tuple vs Q HD) X) env) (se c N r ay vs ρ):=by refine j4 λ A=>HE λ w z=>?_;obtain G:=bo A;obtain i:=bo G.2;have a:=dE i.2;have E:=ag.lift C (ae6 (k:=Q) (p:=HD) C.y G.1 (cg.mp i.1) (bQ.evalEach _ (λ e=>(f7 K N r ρ e x env C.y C.cM).1) vs));refine L (xO rfl) λ α σ s o af I T R=>L (ae4 C.cM R.fv z) ?_;revert α σ s o af I T R;induction w with|none=>refine ag.standAt (E.bind λ v as=>HF (t:=l0 _ env v) ?_);rw[Qp y,a];exact ag.standAt ((ag.holding (Qq C (K.loops h))).bind λ P u=>(Qk C K N ay P as ρ y).pre λ u u p=>p.1)|some j=>refine j4 λ D=>ag.standAt (E.bind λ v as=>ag.rule ?_);obtain f:=Y (ae3 z) a;exact L f ((Qq C (K.loops h)).bind λ P u=>ag.bind (λ α σ s o af I T q=>ae5 C j.reverse P.reverse as.reverse ρ (L List.all_reverse D) (by simp[aom,f,<-q.2,q.1.2.length]) α σ s o af I T ⟨q.1.1,q.1.2.rev⟩) λ u u=>ag.pure λ u u p=>⟨trivial,p⟩)theorem Qr(C:dq g x s env n o)(K:gP g c n)(N:J)(h:fM t=S)(W:zH [t] e env=pure aa)(j:tC [t] e P.line env=pure aj):c9 g x o env ρ (fF (.Assign [t] e P) env) ((ba c N s ρ e).1.bind λ a=>lA (sb c N s ρ t a)):=by rw[xO j,W,HC h];exact ag.standAt ((ag.lift C (f7 K N s ρ e x env C.y C.cM).1).bind λ v a=>HF (Qj C K N t))
theorem afa{t:aJ}(h:(aL t.ctorIdx 20||Nat.beq t.ctorIdx 21)=S){G:Prop}(k:∀o nm p,t=.Attribute o nm p->G)(K:∀o i p,t=.Subscript o i p->G):G:=
 ((lX ..).mp h).elim (λ h=>zv (motive_1:=λ e=>t=e->G) t (dE h) (λ o i p q=>k o i p q) rfl) λ h=>Zc (motive_1:=λ e=>t=e->G) t (dE h) K rfl
theorem Qs(C:dq g x s env n X)(K:gP g c n)(N:J)(t e:aJ)(W:cP):c9 g x X env ρ (fF (.Assign [t] e W) env) (xN c N s t e ρ):=by
 refine wY (λ ay k p q=>?_) (mr (λ nm p q=>?_) (j4 λ h=>afa h (λ o nm p q=>?_) λ o i p q=>?_))<;>refine L q ?_
 ·refine j4 λ R=>?_
  have R:=bo R;cases y:uN e with
  |none=>exact(by
    rw[xO (Bw rfl _),ae7 y];refine ag.standAt ((ag.lift C (f7 K N s ρ e x env C.y C.cM).1).bind λ v a=>?_);induction a with
    |aH u=>exact .au
    |d d=>
     exact HF (t:=l0 _ env v) (L (Qp R.1) (ag.standAt ((ag.Qh C ((O2 (C.y.ok.handled (K.loops R.2)) λ u u p=>p.2).post λ u u u u q=>q.1.vs).holding).bind λ vs ds=>Qk C K N ay vs _ ρ R.1))))
  |some vs=>refine f5 (wY (P:=λ o=>o=B vs->∃k p,e=.Tuple vs k p) (λ es k p q y=>(bh k p (ax (ak y) q))) nn y) λ E V w=>?_;subst w;exact ae_ C K R.2 N R.1
 ·exact ae9 C K nm p e W N
 ·exact Qr C K N rfl rfl (Bw rfl _)
 ·exact Qr C K N rfl rfl (Bw rfl _)
theorem Qt(I:aG g x α σ h)(p:Heap.MadeExc h h' e cl vs)(P:h.objs.size<=h'.objs.size)(G:∀b,b<h.objs.size->h.get? b=aa->h'.get? b=aa)(R:bT (x.P++α) h vs as):
  ExcAt g x h.objs.size α σ h' e cl as:=by
 refine gF p.there λ t y i u=>?_;have f:∀b o,h.get? b=aa->h'.get? b=B o->h.objs.size<=b:=λ b o W j=>by refine zC λ l=>?_;rw[G b l W]at j;exact nn j
 have lo:∀b∈[e,t],h.objs.size<=b:=by
  intro b r;simp only[dM,dS,jO]at r;rcases r with rfl|rfl
  ·exact f _ _ p.new y
  ·exact f _ _ i u
 obtain E:∀b∈[e,t],∃o,h'.get? b=B o:=by
  intro b r;simp only[dM,dS,jO]at r;rcases r with rfl|rfl
  ·exact⟨_,y⟩
  ·exact⟨_,u⟩
 refine⟨[e,t],t,vs,lo,I.fJ lo E p.keeps P,cV,(aod rfl),λ b r q=>a7 (I.alive b q) λ o s=>aS (dI s) (ez.mpr (lo b r)),R.mono λ b o s n=>⟨p.keeps b o s,λ q=>?_⟩,.inl ⟨y,u⟩⟩;rcases bB.mp q with q|q
 ·rcases bB.mp q with q|q
  ·exact aS (dI s) (ez.mpr (lo b q))
  ·exact n (bL _ q)
 ·exact n (aW _ q)
structure afb(cls:b1):Prop where
 call:∃newId afc,ExcCallFacts cls newId afc
 raise:ExcRaiseFacts cls
 exc:∃N I,ExcClass cls N I
 self:Lu (.type cls) (.type cls)=pure S
noncomputable def nO:H String:=["ValueError","AssertionError","ZeroDivisionError"]
theorem Qu(h:nO.contains cls=S):afb cls:=by
 simp only[nO,Zd,Ze,Ls,lX,cI]at h;rcases h with rfl|rfl|rfl
 ·exact⟨(bh _ _ PySem.F.excCall_ValueError),PySem.F.excRaise_ValueError,(bh _ _ excClass_ValueError),by rw[wa];lk⟩
 ·exact⟨(bh _ _ PySem.F.excCall_AssertionError),PySem.F.excRaise_AssertionError,(bh _ _ excClass_AssertionError),by rw[wa];lk⟩
 ·exact⟨(bh _ _ PySem.F.excCall_ZeroDivisionError),PySem.F.excRaise_ZeroDivisionError,(bh _ _ excClass_ZeroDivisionError),by rw[wa];lk⟩
def HG(g:kC)(s:bW)(nm:ai)(k:b1->cy):cy:=gQ (!(nm==("__debug__" :ai))&&s.names.lookup nm==B .globalImplicit) (match g.lookup nm with
 |some d=>match d with
  |.ty T=>gQ (nO.contains T) (k T)|_=>.au
 |none=>.au)
def Qv(c:Cfg)(N:J)(s:bW)(ρ:az)(e:aJ):cy:=gQ c.loops (wX e (λ f args k=>sd (nameOf f) λ nm=>gQ (args.all fM&&(bE (O args) 100&&k.isEmpty)) (HG c.gl s nm λ C=>(cE (args.map λ e=>(ba c N s ρ e).1)).bind λ as=>sd (fx as) λ ds=>.raise C ds))
 (hZ e (λ nm=>HG c.gl s nm λ C=>.raise C []) .au))
theorem HH(G:hh g y)(V:y.lookup nm=B (.ty T))(o:q.names.lookup nm=B .globalImplicit)(l:(nm==("__debug__" :ai))=aj)(C:fa q env)
  (I:aG g x α σ s.heap)(R:bt g x env ρ α s.heap)(h:Q (.type T) s):aO (a5 g.prog g.w) A (bG (.Name nm p) env) Q E s:=by
 obtain K:env.kindOf nm=B .globalImplicit:=by
  rcases C nm with e|⟨e,_⟩
  ·rw[<-e,o]
  ·rw[o]at e;exact aS e (by decide)
 refine e4 G.ex λ m w N nb t=>?_;have n:=R.gl▸N.keeps I.base;refine anO R.fv K ?_ l;rcases t nm _ V with⟨v,e,r⟩|⟨M,v,e,r⟩
 ·exact anP n (Y e (aM B r.inv)) h
 ·exact anQ n M (L R.cc (nb.keeps I.base)) (Y e (aM B r.inv)) h
theorem Qw(h:∀T,(nm==("__debug__" :ai))=aj->s.names.lookup nm=B .globalImplicit->G.lookup nm=B (.ty T)->nO.contains T=S->c9 g x o env ρ t (k T)):c9 g x o env ρ t (HG G s nm k):=by refine j4 λ W=>?_;obtain W:=bo W;cases R:G.lookup nm with|none=>exact .au|some d=>cases d with|ty T=>exact j4 (h T (l_ W.1) (cI.mp W.2) R)|_=>exact .au
theorem Qx:∀{m:H (Ev V)}{σ af:aE}{as:H V},cE m σ=B (.ok as,af)->O as=O m
 |[],_,_,_,e=>Res.ok.inj (bc (ak e)).1▸rfl|_::_,_,_,_,e=>Ev.mg e λ u u u e=>Ev.mg e λ u u h e=>Res.ok.inj (bc (ak e)).1▸aM i9 (Qx h)
theorem afd(C:dq g x w env n W){y:kC}(G:hh g y)(f:x.A.handled=aa){nm:ai}{p P:cP}{cls:b1}(l:(nm==("__debug__" :ai))=aj)(E:w.names.lookup nm=B .globalImplicit)(T:y.lookup nm=B (.ty cls))(A:nO.contains cls=S){α:H ao}{σ:aE}{s:aU}(I:aG g x α σ s.heap)(R:bt g x env ρ α s.heap):
  aO (a5 g.prog g.w) x.A (fF (.Raise (B (.Name nm p)) aa P) env) (λ u u=>False) (λ ev s'=>∃e h',ev=.ref e/\s'=cT s h' s.toks/\a_ x.F x.W α s.heap α h'/\ExcAt g x s.heap.objs.size α σ h' e cls []) s:=by
 obtain ok:=Qu A;refine f5 ok.call λ N i F=>(f5 ok.exc λ z b j=>aB (ko (aB (aB (HH G T E l C.cM I R (aB (ko (bl (aB (bl ?_))))))))));dsimp only;refine aB (dT (aB (aB (bl (ok.raise.isExc.symm▸bl (aB (g4 (wpAny_call_exc F (λ h' e q o=>gF q.there λ t h u u=>?_) (Zf _)))))))));obtain v:(cT s h' s.toks).TypeIs (.ref e) cls:=⟨_,h,rfl⟩;refine aB (wpAny_isInstance v ok.raise.isExc (bl (aB (bl (aB (dT (aB (Zg v (aB (call_issubclass (issubclass_self j ok.self) (bl (aB (aB (ot h rfl rfl (bl (aB (wpAny_handled (f.symm▸?_))))))))))))))))))
 first
  |exact wpAny_throw ((bh e h' ⟨rfl,rfl,.of_keeps q.keeps o.size,Qt I q o.size o.gone .nil⟩))
  |exact aB _
theorem afe(D:dq g x sc env n o)(K:gP g c n)(N:J)(e:aJ)(P:cP):c9 g x o env ρ (fF (.Raise (B e) aa P) env) (Qv c N sc ρ e):=by
 refine j4 λ r=>?_;have fq:=D.y.ok.handled (K.loops r);have sub:∀b∈x.W,b∈o++x.W:=λ b=>aW _;refine F_ (λ f args qg p h=>?_) (mr (λ nm p h=>?_) .au)<;>subst h
 ·skip
  refine HE λ nm da=>j4 λ X=>Qw λ C l A aff v=>?_;obtain⟨np,rfl⟩:=AY da;obtain g1:=bo X;obtain g2:=bo g1.2;refine L (k2.mp g2.2) ?_;have ok:=Qu v;refine f5 ok.call λ w V F=>λ α σ s k af I G R e Q E dp h=>aB (ko (wpAny_raiseStmt_made ok.raise fq (aB (aB (HH K.G aff A l D.cM I.dG (bt.dG R) ?_)))));simp only[ud args env g1.1,ue];show aO _ _ (rp p _ [] ((iQ args env).map λ t=>(aj,t)) []) _ _ _;rw[G6 (λ u e=>by cases e) [],evalArgs_plain];refine aB (dT (aB ?_));obtain T:=uc D.y (bQ.evalEach _ (λ e=>(f7 K N sc ρ e x env D.y D.cM).1) args) α σ s;refine Ev.NM e (λ as i d e=>?_) λ cl es i d e=>?_
  ·refine T _ i I.dG G (bt.dG R) d _ _ (λ vs as' cw m q j W eF z rs=>?_) eC.ok
   simp[<-Res.ok.inj j]at rs;cases a:fx as with
   |none=>rw[a]at e;exact nn e|some ds=>
   rw[a]at e;obtain e:=bc (ak e);have cL:O vs<100:=by simp[rs.length,Qx d,gg];exact cg.mp g2.1
   exact dT (bl (aB (ko (aB (g4 (wpAny_call_exc F (λ h' M hm sf=>gF hm.there λ t hea u u=>(aB (dT (Lp (bl (aB (ko (bl (bh M t ⟨rfl,hea,h M C ds h' m q e.1.symm ((W.trans (.of_keeps hm.keeps sf.size)).cF sub) z (ax e.2 (((Qt eF hm sf.size sf.gone (rs.fx a)).low W.size).cF))⟩))))))))) (L vW (bA (ik cL) (by decide)))))))))
  ·refine T _ i I.dG G (bt.dG R) d _ _ gk.exc λ M Qy nF cw m q j W z mB=>?_
   obtain e:=bc e;obtain j:=Res.exc.inj j;exact h M Qy nF cw m q (ax e.1 (L j.1 (L j.2 rfl))) (W.cF sub) z (ax e.2 mB.cF)
 ·skip
  refine Qw λ C l A X v α σ s k af I G R e Q E dp h=>hS (afd D K.G fq l A X v I.dG (bt.dG R)) (λ u u y=>y.elim) λ ev s' y=>eg y λ d h' f3 ho st mB=>?_;obtain e:=bc (ak e);exact L f3 (L ho (h d C [] h' s.toks α e.1.symm (st.cF sub) G (ax e.2 mB.cF)))
def TQ(g:bX)(x:bD)(o:H ao)(env:cn)(ρ:az)(t:bj m5)(m:cy):Prop:=
 ∀(α:H ao)(σ:aE)(s:aU)(i:Res (f6×az))(af:aE),aG g (a3 x o) α σ s.heap->1<=s.toks->bp g (a3 x o) env ρ α s.heap->m σ=B (i,af)->
  ∀(Q:m5->aU->Prop)(E:aq->aU->Prop),
   (∀f r h' T aA,i=.ok r->a_ (a3 x o).F (a3 x o).W α s.heap aA h'->aG g (a3 x o) aA af h'->1<=T->nL (x.P++aA) aA h' f r.1/\bp g (a3 x o) env r.2 aA h'->Q f (cT s h' T))->
   (∀e cl as h' T aA,i=.exc cl as->a_ x.F x.W α s.heap aA h'->1<=T->ExcAt g x s.heap.objs.size aA af h' e cl as->E (.ref e) (cT s h' T))->
   aO (a5 g.prog g.w) x.A t Q E s
def Qz(t e:aJ):Bool:=hZ t (λ u=>qf e) (xM t (λ u i=>p6 i&&qf e) aj)
theorem afg{m:Ev p}{k:p->Ev t}(h:∀a σ,∃r,k a σ=B (.ok r,σ))(e:m.bind k σ=B (.exc cl as,af)):m σ=B (.exc cl as,af):=by
 unfold Ev.bind at e;cases E:m σ with
 |none=>rw[E]at e;exact nn e
 |some q=>
  obtain⟨o,V⟩:=q;rw[E]at e;induction o with
  |ok a=>obtain⟨r,P⟩:=h a V;dsimp only at e;rw[P]at e;cases e
  |exc=>cases e;rfl
theorem TQ.of(h:c9 g x o env ρ t m)(p:m=q.bind k)(n:∀a σ,∃r,k a σ=B (.ok r,σ))(v:t=u>>=f)(T:ag g x (bp g x env ρ) post u q):TQ g x o env ρ t m:=by
 intro α σ s i af I D R K Q E G y;rcases i with r|⟨cl,as⟩
 ·exact h α σ s _ af I D R K Q E G eC.ok
 ·exact L v (aB (T α σ s _ af I.dG D (bt.dG R) (afg n (ax p K)) _ E gk.exc λ e c A h' C aA j=>y e c A h' C aA (by injection j with W l;rw[W,l])))
theorem afh(C:dq g x s env n W)(K:gP g c n)(N:J)(t e:aJ)(X:cP)(r:Qz t e=S):TQ g x W env ρ (fF (.Assign [t] e X) env) (xN c N s t e ρ):=by
 have I:=(f7 K N s ρ e x env C.y C.cM).1;have y:=Qs (ρ:=ρ) C K N t e X;refine mr (P:=λ b=>b=S->TQ g x W env ρ _ _) (λ nm p q r=>?_) (HB (P:=λ b=>b=S->TQ g x W env ρ _ _) (λ o i p q r=>?_) λ h=>bw h) r<;>subst q
 ·refine wy (dU s nm) (λ es=>?_) λ es=>?_
  ·
   exact L (show xN c N s _ e ρ=.au by show fb _ _ _ _=_;unfold fb;rw[es]) (λ z z z z z z z z=>nn)
  ·
   exact .of y (k:=λ a=>.ret _) (by show fb _ _ _ _=_;unfold fb;rw[es]) (λ a σ=>⟨_,rfl⟩)
    (L (xO (by unfold tC;exact xt r ..)) (L (bind_assoc ..) rfl)) (ag.standAt I)
 ·have A:=(bo r).1
  have E:∀a,sb c N s ρ (.Subscript o i p) a=(ba c N s ρ o).1.bind λ l=>(ba c N s ρ i).1.bind λ w=>(c.set l w a).bind λ z=>.ret ρ:=λ a=>by show(match p6 i with|true=>_|false=>_)=_;exact L A rfl
  refine .of (u:=dZ X>>=λ z=>bG e env>>=λ v=>l0 (.Subscript o i p) env v) y (k:=λ z=>.ret (.next,ρ)) ?_ (λ a σ=>⟨_,rfl⟩)
   (f:=λ z=>pure ri) ?_ (ag.standAt (ag.cv C.y I λ v a=>Qi K N C.y C.cM A))
  ·show((ba c N s ρ e).1.bind λ a=>lA _)=_
   unfold lA;simp[E,Ev.assoc];rfl
  ·rw[xO (Bw rfl _),show zH [.Subscript o i p] e env=pure aa from rfl]
   simp only[bind_assoc];rfl
noncomputable def dropName(n:ai)(ρ:az):az:=ρ.filter λ p=> !(p.1==n)
theorem Bx{n m:ai} :∀{ρ:az},(dropName n ρ).lookup m=B v->m≠n/\ρ.lookup m=B v
 |[],e=>nn e
 |(k,a)::ρ,e=>by
  unfold dropName at e;rw[vS]at e;refine L lookup_cons ?_;by_cases h:(!(k==n))=S
  ·rw[bC h,lookup_cons]at e
   by_cases p:m=k
   ·subst p
    rw[bC rfl]at e ⊢;exact⟨(bne_iff_ne.mp h),e⟩
   ·rw[a6 p]at e ⊢
    exact Bx e
  ·rw[a6 h]at e
   obtain⟨W,j⟩:=Bx e;have p:m≠k:=by rintro rfl;exact h (by simpa using W)
   exact L (a6 p) ⟨W,j⟩
theorem name_goes(w:env.locals∈x.W)(P:env.kindOf nm=B .local)(I:aG g x α σ s.heap)(R:bt g x env ρ α s.heap)
  (C:∀h',a_ x.F x.W α s.heap α h'->aG g x α σ h'->bt g x env (dropName nm ρ) α h'->(fX s.heap h' (x.P++α) (x.P++α))->Q () (cT s h' (s.toks+1))):
  aO (a5 g.prog g.w) A (do pK env nm .none;aon env nm pos) Q E s:=by
 refine av R.ns λ m F f=>(wpAny_nameGoes_keeps P F (L R.fv rfl) λ h' v h d=>?_);have k:fX s.heap h' _ (x.P++α):=λ b o e n=>⟨Y (d.2 b (λ q=>n (bL _ (L q R.fK)))) e,n⟩;exact t8 (id h) λ o es c3 i l z=>(C h' (.own w d) (I.own R.fK d i (by rw[l];intro vs q;cases q)) ⟨R.fv,R.gl,R.cc,R.fK,⟨_,h,λ T V a G=>cq (Bx a) λ W j=>(av (f T V j G) λ u X r=>⟨u,by simp[W,X],r.mono k eV⟩)⟩,λ T K=>R.jV K λ c M W j t y xd ei=>av xd λ xe N p=>⟨c,W,j,t,y,M,⟨xe,Y (d.2 c y) N,p⟩,λ V a=>av (ei V (Bx a).2) λ u X r=>(⟨u,X,r.mono k eV⟩)⟩,R.ap⟩ k)
theorem aG.free(I:aG g (Internal.fJ x Sq) α σ h):aG g x α σ h:=by
 refine⟨I.base,I.big,λ a c=>I.b2 a (c.imp (aW _) id),λ a c=>I.alive a (aW _ c),I.dv,λ a c q=>I.c8 a c (aW _ q),c0.mono I.bM (bH _) (λ u u=>rfl) (λ b o e n=>⟨e,λ q=>n ?_⟩) eV,I.fr,I.old⟩;rcases bB.mp q with q|q
 ·exact bL _ (aW _ q)
 ·exact aW _ q
structure HI(X T:b1)(b:aF):Prop where
 exc:Lu (.type T) (.type "BaseException")=pure S
 Hb:Lu (.type ((Manifest.find? T).elim "type" λ x=>x.metatype)) (.type "tuple")=pure aj
 sub:Lu (.type X) (.type T)=pure b
theorem afi(F:nO.contains X=S)(N:nO.contains T=S):HI X T (X==T):=by
 simp only[nO,Zd,Ze,Ls,lX,cI]at F N;rcases N with rfl|rfl|rfl
 ·refine⟨PySem.F.isExc_ValueError,PySem.F.notTuple_ValueError,?_⟩
  rcases F with rfl|rfl|rfl<;> (rw[wa];lk)
 ·refine⟨PySem.F.isExc_AssertionError,PySem.F.notTuple_AssertionError,?_⟩
  rcases F with rfl|rfl|rfl<;> (rw[wa];lk)
 ·refine⟨PySem.F.isExc_ZeroDivisionError,PySem.F.notTuple_ZeroDivisionError,?_⟩
  rcases F with rfl|rfl|rfl<;> (rw[wa];lk)
theorem afj(c:x.l=env::v)(V:x.A.frames=B x.l)(p:env.frame=B A)(iC:cb x.F x.P)
  (st:a_ F W w o α s.heap)(d:cb x.F F)(q:ExcAt g x o.objs.size α σ s.heap e cl as)
  (xQ:∀h',a_ F W w o α h'->kI g x o.objs.size α σ h' e cl as->Q () (cT s h' s.toks)):aO M x.A (Zh (.ref e) env) (λ u C=>aO M x.A (Lv (.ref e) aa) Q E C) E s:=by
 obtain⟨Sq,t,vs,lo,I,p3,oN,lb,rs,k⟩:=q;obtain i:=λ h' f aD j iY G=>by exact cq (ExcAt.go (l':=x.l) I iC lo lb p3 oN rs st d (λ b q=>q) f aD j iY G) (xQ h')
 obtain R:=Bf I.fr λ b=>bL _;have D:(hide s.heap (kA x.l++Sq)).get? e=none:=t5 (.inl (aW _ p3));generalize xE:hide s.heap _=Bq at i R D k;rw[c]at i R;have t0:s.heap.TupAt t vs:=by
  rcases k with⟨c5,cw⟩|⟨f,aD⟩
  ·exact(bh _ _ ⟨cw,rfl,rfl⟩)
  ·exact aD
 obtain a:aO M x.A (Zh _ env) (λ u C=>∃h',C=cT s h' s.toks/\Heap.HeldW Bq _ e (.type cl) _ A h'/\s.heap.UpToSlots h') (λ u u=>False) s:=by
  rcases k with⟨c5,cw⟩|⟨f,aD⟩
  ·unfold Zh
   exact L p (aB (ot c5 rfl rfl (wpAny_entryW (a0:=.ref t) (Y V (by rw[c])) R p c5 (ax xE G_) D rfl (Nat.one_lt_succ_succ [jM,jM,Value.bool aj,jM].length) rfl λ h' afk=>(pR afk λ fs gB kF afl=>⟨h',rfl,⟨fs,D,gB,kF⟩,afl⟩))))
  ·exact wpAny_looks_onW (Y V (by rw[c])) p (ax c f) λ h' fq j=>⟨h',rfl,fq,j⟩
 refine hS (GP a) (λ u C y=>?_) λ u u y=>y.1.elim;obtain⟨⟨cw,rfl,fq,j⟩,sf⟩:=y;exact g4 (wpAny_landsW fq λ cZ f r z=>i cZ f ((t0.of_slots j).of_slots r) (j.trans r) (bA sf.size z.size) λ b l e=>z.gone b (eo l sf.size) (sf.gone b l e))
theorem QA(z:x.l=env::w)(K:cb x.F x.P)
  (st:a_ F W v o α s.heap)(c:cb x.F F)(q:kI g x o.objs.size α σ s.heap e cl as)
  (C:∀h',a_ F W v o α h'->kI g x o.objs.size α σ h' e cl as->Q () (cT s h' s.toks)):aO M A (Lv (.ref e) aa) Q E s:=by
 obtain⟨Sq,t,vs,lo,I,y,R,N,r,i,aD⟩:=q;exact g4 (lands_againW i λ h' f u G=>cq (ExcAt.go (l':=x.l) I K lo N y R r st c (λ b q=>q) f (aD.of_slots u) u G.size G.gone) λ a b=>C h' a b)def QB(t:U aJ)(f:ai->cy):cy:=match t with|some t=>sd (nameOf t) f|none=>.au
def QC(d:U D)(f:b1->cy):cy:=match d with
 |some d=>match d with
  |.ty T=>f T|_=>.au
 |none=>.au
def afm(sc:bW)(iF:az->H bx->cy)(cl:b1)(as:H D)(bound:U ai)(body:H bx)(ρ:az):cy:=match bound with|none=>iF ρ body|some n=>gQ (sc.names.lookup n==B .local) ((iF ((n,.d (.exc cl as))::ρ) body).bind λ r=>.ret (r.1,dropName n r.2))
noncomputable def qn(G:kC)(sc:bW)(iF:az->H bx->cy)(cl:b1)(as:H D):H Eo->az->cy
 |[],_=>.au
 |.ExceptHandler t bound body _::rest,ρ=>QB t λ nm=>gQ (!(nm==("__debug__" :ai))&&sc.names.lookup nm==B .globalImplicit) (QC (G.lookup nm) λ T=>gQ (!body.isEmpty&&(nO.contains T&&nO.contains cl)) (match cl==T with
  |false=>qn G sc iF cl as rest ρ|true=>afm sc iF cl as bound body ρ))theorem HJ(e:gQ b m σ=B q){G:Prop}(k:b=S->m σ=B q->G):G:=match b,e,k with|true,e,k=>k rfl e|false,e,_=>nn e
theorem afn(e:QB t f σ=B q){G:Prop}(k:∀nm p,t=B (.Name nm p)->f nm σ=B q->G):G:=by
 induction t with
 |none=>exact nn e
 |some t=>
  refine eD (nameOf t) (λ h=>?_) λ nm h=>?_
  ·
   obtain e:sd _ f σ=B q:=e;rw[h]at e;exact nn e
  ·
   obtain⟨p,rfl⟩:=AY h;exact k nm p rfl e
theorem afo(e:QC d f σ=B q){G:Prop}(k:∀T,d=B (.ty T)->f T σ=B q->G):G:=by induction d with|none=>exact nn e|some d=>cases d with|ty T=>exact k T rfl e|_=>exact nn e
noncomputable def uO{γ:Type}(m:Ev γ):Ev γ:=λ σ=>match m σ with|some (.ok r,af)=>B (.ok r,af)|_=>aa
def qo(G:kC)(sc:bW)(iF:az->H bx->cy)(m:cy)(c:H Eo)(ρ:az):cy:=λ σ=>match m σ with|some (.ok r,V)=>B (.ok r,V)|some (.exc cl as,V)=>uO (qn G sc iF cl as c ρ) V|none=>aa
section
variable {g:bX}{x:bD}{sc:bW}{env:cn}{n:J}{own:H ao}{α:H ao}
@[reducible] noncomputable def marked(x:bD)(e:ao):bD:={x with A:=x.A.mark (B (.ref e)) }abbrev nP(g:bX)(A:m7){X:Type}(t:bj X)(Q:X->aU->Prop)(s:aU):Prop:=aO (a5 g.prog g.w) A t Q (λ u u=>False) s
theorem nP.up{X:Type}{t:bj X}{Q:X->aU->Prop}(h:nP g A t Q s):aO (a5 g.prog g.w) A t Q E s:=hS h (λ u u y=>y) λ u u y=>y.elim
section
variable {X T:b1}{b:aF}{e:ao}{t:aJ}{By:bx}{iF:H bx}{pos:cP}{rest:H Eo}{Q:m5->aU->Prop}{E:aq->aU->Prop}{s:aU}
theorem QD(C:HI X T b)(h:nP g (x.A.mark (B (.ref e))) (bG t env) (λ c s=>c=.type T/\s.TypeIs (.ref e) X/\match(generalizing:=false) b with
  |true=>nP g (x.A.mark (B (.ref e))) (Lv (.ref e) aa) (λ u s=>nP g (x.A.mark (B (.ref e))) (fG (By::iF) env) Q s) s|false=>aO (a5 g.prog g.w) x.A (Ep (.ref e) env rest) Q E s) s):aO (a5 g.prog g.w) x.A (Ep (.ref e) env (.ExceptHandler (B t) aa (By::iF) pos::rest)) Q E s:=
 wpAny_handleBy_builtin C.exc C.Hb C.sub (hS h (λ c s y=>⟨y.1,y.2.1,by
  have y:=y.2.2;induction b with
  |true=>exact hS y (λ u u z=>z.up) λ u u z=>z.elim|false=>exact y⟩) λ u u y=>y.elim)
theorem QE{n:ai}(C:HI X T b)(h:nP g (x.A.mark (B (.ref e))) (bG t env) (λ c s=>c=.type T/\s.TypeIs (.ref e) X/\match(generalizing:=false) b with
  |true=>nP g (x.A.mark (B (.ref e))) (Lv (.ref e) aa) (λ u s=>nP g (x.A.mark (B (.ref e))) (Lf env n (.ref e)) (λ u s=>nP g (x.A.mark (B (.ref e))) (fG (By::iF) env) (λ f s=>aO (a5 g.prog g.w) x.A (do pK env n .none;aon env n pos) (λ u=>Q f) E s) s) s) s|false=>aO (a5 g.prog g.w) x.A (Ep (.ref e) env rest) Q E s) s):aO (a5 g.prog g.w) x.A (Ep (.ref e) env (.ExceptHandler (B t) (B n) (By::iF) pos::rest)) Q E s:=
 wpAny_handleBy_builtin_as C.exc C.Hb C.sub (hS h (λ c s y=>⟨y.1,y.2.1,by
  have y:=y.2.2;induction b with
  |true=>exact hS y (λ u u z=>hS z (λ u u z=>z.up) λ u u z=>z.elim) λ u u z=>z.elim|false=>exact y⟩) λ u u y=>y.elim)
end
section
variable {σ:aE}{h:aX}{lo:J}{e:ao}{cl:b1}{as:H D}{ρ:az}theorem kI.inv(q:kI g x lo α σ h e cl as):aG g x α σ h:=match q with|⟨_,_,_,_,I,_,_,_,_,_⟩=>I.free
theorem kI.ty(q:kI g x lo α σ h e cl as)(s:aU)(t:J):(cT s h t).TypeIs (.ref e) cl:=match q with|⟨_,_,_,_,_,_,_,_,_,k⟩=>a7 k.1.there λ o h=>⟨o,h.1,h.2⟩theorem kI.rep(q:kI g x lo α σ h e cl as):a9 (x.P++α) α h (.ref e) (.d (.exc cl as)):=by obtain⟨Sq,t,vs,lo,I,v,m,N,R,F,aD⟩:=q;refine eg F.first λ j w V i u G=>?_;obtain f:=λ b r q=>(bB.mp q).elim (N b r) λ q=>I.c8 b q (bL _ r);exact aV.exc (f e v) V i u G (f t m) aD (R.mono λ b o p nb=>⟨p,λ q=>nb ((bB.mp q).elim (λ q=>bL _ (aW _ q)) (aW _))⟩)theorem aG.mark(I:aG g x α σ h):aG g (a3 (marked x e) own) α σ h:=⟨I.base,I.big,I.b2,I.alive,I.dv,I.c8,I.bM,I.fr,I.old⟩theorem aG.unmark(I:aG g (a3 (marked x e) own) α σ h):aG g (a3 x own) α σ h:=⟨I.base,I.big,I.b2,I.alive,I.dv,I.c8,I.bM,I.fr,I.old⟩theorem bt.mark(R:bt g x env ρ α h):bt g (a3 (marked x e) own) env ρ α h:=⟨R.fv,R.gl,R.cc,R.fK,R.ns,R.lg,R.ap⟩theorem bt.unmark(R:bt g (a3 (marked x e) own) env ρ α h):bt g (a3 x own) env ρ α h:=⟨R.fv,R.gl,R.cc,R.fK,R.ns,R.lg,R.ap⟩
end
theorem nL.mono(k:fX h h' X X)(p:nL X α h f r):nL X α h' f r:=by
 induction f with
 |ret v=>induction r with
  |ret=>exact a9.mono p k ⟨[],(ea _).symm⟩|_=>exact p
 |_=>induction r<;>exact p
theorem QF(G:hh g gl)(c:dq g x sc env n own)(d:x.l=env::i)(hf:env.frame=B l)
  (V:∀ρ body,c9 g (marked x e) own env ρ (fG body env) (iF ρ body))(QG:aG g (a3 x own) w R o)(R0:bp g (a3 x own) env ρ w o)(Q:m5->aU->Prop)(E:aq->aU->Prop):
  ∀(dd:H Eo)(σ:aE)(s:aU),qn gl sc iF cl as dd ρ σ=B (.ok r,af)->a_ x.F x.W w o α s.heap->kI g x o.objs.size α σ s.heap e cl as->1<=s.toks->
   (∀f h' el aA,a_ (a3 x own).F (a3 x own).W w o aA h'->aG g (a3 x own) aA af h'->1<=el->nL (x.P++aA) aA h' f r.1/\bp g (a3 x own) env r.2 aA h'->Q f (cT s h' el))->
   aO (a5 g.prog g.w) x.A (Ep (.ref e) env dd) Q E s
 |[],_,_,h=>nn h
 |.ExceptHandler t bound body pos::rest,σ,s,h=>by
  refine λ st q M j=>afn h λ nm p fZ h=>HJ h λ D h=>afo h λ T jo h=>HJ h λ P h=>?_;obtain D:=bo D;obtain P:=bo P;have C:=afi (bo P.2).2 (bo P.2).1;have cQ:∀{h},a_ x.F x.W w o α h->bt g x env ρ α h:=λ st=>bt.jW c.y.ok.cY c.y.ok.eu c.y.q _ _ _ _ _ QG.dG st (bt.dG R0);have sub:∀b∈x.W,b∈own++x.W:=λ b=>aW _;have N:∀{A:m7}{xR:aq->aU->Prop},xR _ s->nP g A (bG (.Name nm p) env) xR s:=(HH G jo (cI.mp D.2) (l_ D.1) c.cM q.inv (cQ st));rcases body with _|⟨QH,bs⟩;case nil=>exact bw P.1
  refine L fZ (wy (cl==T) (λ y=>?_) λ y=>?_)
  ·
   rw[y]at h C;obtain next:=QF G c d hf V QG R0 Q E rest σ s h st q M j
   cases bound with|none=>exact QD C (N ⟨rfl,q.ty s s.toks,next⟩)|some bn=>exact QE C (N ⟨rfl,q.ty s s.toks,next⟩)
  ·
   rw[y]at h C;cases bound with|none=>exact QD C (N ⟨rfl,q.ty s s.toks,QA d c.y.ok.cY st (λ b y=>y) q λ h' I K=>V ρ _ α σ (cT s h' s.toks) _ af K.inv.mark M (cQ I).mark h _ _ (gk.ok λ f cw h8 k mx fO i0 m=>j f cw h8 k ((I.cF sub).trans mx) fO.unmark i0 (⟨m.1,m.2.unmark⟩)) eC.ok⟩)|some bn=>refine HJ h λ D h=>Ev.mg h λ dP qc cZ fw=>?_;obtain eq:=bc (ak fw);have z:=cI.mp (Y (Qn c.cM bn) D);exact QE C (N ⟨rfl,q.ty s s.toks,QA d c.y.ok.cY st (λ b y=>y) q λ h' I K=>AX (x:=a3 (marked x e) own) c.h4 c.w (.inl z) α σ (cT s h' s.toks) _ σ K.inv.mark M ⟨(cQ I).mark,K.rep⟩ rfl _ _ (λ u v ei lr uA dw uo lj nH kJ=>V _ _ uA σ (cT s ei lr) _ qc lj nH kJ cZ _ _ (gk.ok λ f kG A3 A4 G0 xj xk m=>name_goes c.w.1 z xj.unmark m.2.unmark λ nN st7 Hz afp a=>(j f nN _ A4 ((((I.cF sub).trans uo).trans G0).trans st7) (ax eq.2 Hz) (ip xk) (ax (Res.ok.inj eq.1) ⟨m.1.mono a,afp⟩))) eC.ok) eC.ok⟩)
theorem afq(G:hh g y)(c:dq g x sc env n own)(z:x.l=env::u)(N:env.frame=B l)
  (V:∀e ρ body,c9 g (marked x e) own env ρ (fG body env) (iF ρ body))(v:TQ g x own env ρ (fF b env) m):
  c9 g x own env ρ (fF (.Try [b] (d::dd) [] [] pos) env) (qo y sc iF m (d::dd) ρ):=by
 intro α σ s out af I dm R K Q E M he;unfold qo at K;cases A:m σ with
 |none=>rw[A]at K;exact nn K|some q=>
 obtain⟨o,W⟩:=q;rw[A]at K;refine wpAny_Try_except (aB (v α σ s o W I dm R A _ _ (λ f r h' C aA j st a i p=>?_) (λ e cl as h' C aA j st i mB=>?_)))
 ·subst j
  cases K;induction f with|next=>exact bl (bl (M .next r h' C aA rfl st a i p))|_=>exact bl (M _ r h' C aA rfl st a i p)
 ·subst j
  dsimp only at K;unfold uO at K;cases k:qn y sc iF cl as _ ρ W with
  |none=>rw[k]at K;exact nn K|some q=>
  obtain⟨o,oV⟩:=q;rw[k]at K;induction o with
  |exc=>exact nn K|ok r=>
  cases K;exact afj (x:=x) z c.y.ok.frames N c.y.ok.cY st (λ b v=>v) mB λ cw D jb=>(QF G c z N (V e) I R Q E _ W _ k D jb i λ f cZ t3 F w fO P p=>M f r cZ t3 F rfl w fO P p)
end
noncomputable def uP:Str:="plain"
def gcV(k:J)(ok:aF)(n:ai)(v:V):U (ai×V):=v.rec (λ d=>B (n,.d d)) λ i=>(bE i k).rec ((ok&&n==uP).rec aa (B (n,.aH k))) (B (n,.aH i))def xS(M:az)(k:J)(ok:aF)(ρ:az):az:=M.filterMap λ p=>(ρ.lookup p.1).bind (gcV k ok p.1)def HK(k:J)(ρ:az)(σ:aE):U (J×H D):=(ρ.lookup uP).bind λ v=>v.rec (λ u=>aa) λ i=>(bE i k).rec (jU σ[i]? λ xs=>B (i,xs)) aa
def fP(M:az)(k:J)(ρ:az)(σ:aE):U (az×aE):=match(σ.take k).all (bk k)with
 |false=>aa|true=>match HK k ρ σ with|some q=>B (xS M k S ρ,σ.take k++ [.ae q.2])|none=>B (xS M k aj ρ,σ.take k)def Bz(M:az)(m:J)(next:az->cy)(r:f6×az):cy:=λ σ=>match r.1 with|.next=>(fP M m r.2 σ).bind λ q=>next q.1 q.2|.cont=>(fP M m r.2 σ).bind λ q=>next q.1 q.2|.brk=>B (.ok (.next,r.2),σ)|.ret a=>B (.ok (.ret a,r.2),σ)def afr(sc:bW)(t:aJ)(body:az->cy)(j:J)(M:az)(m:J)(f:az->cy)(ρ:az):cy:=λ σ=>(gH j σ).bind λ q=>match q.1 with|none=>B (.ok (.next,ρ),q.2)|some d=>bR (ll t σ j) ((lq sc t d ρ).bind λ R=>oO (body R q.2) (Bz M m f))def gR(sc:bW)(t:aJ)(body:az->cy)(j:J)(M:az)(m n:J):az->cy:=n.rec (λ u=>.au) λ u=>afr sc t body j M m
theorem QI(e:gR sc t body j M m (k+1) ρ σ=B (o,af)){G:Prop}(K:gH j σ=B (aa,af)->o=.ok (.next,ρ)->G)
  (C:∀d V R r i,gH j σ=B (B d,V)->ll t σ j=S->lq sc t d ρ=B R->body R V=B (.ok r,i)->Bz M m (gR sc t body j M m k) r i=B (o,af)->G):G:=
 b3 e λ q h e=>by
 rcases q with⟨_|d,V⟩
 ·have p:=bc (ak e)
  exact K (ax p.2 h) p.1.symm
 ·exact bN e λ W e=>b3 e λ R l e=>t6 e λ r i v e=>C d V R r i h W l v e
theorem QJ(h:gH j σ=B (aa,gO)):gR sc t body j M m (k+1) ρ σ=B (.ok (.next,ρ),gO):=by show(gH j σ).bind _=_;exact L h rfl
theorem QK(h:gH j σ=B (B d,gO))(l:ll t σ j=S)(v:lq sc t d ρ=B R)(I:body R gO=B (.ok r,oV)):gR sc t body j M m (k+1) ρ σ=Bz M m (gR sc t body j M m k) r oV:=by show(gH j σ).bind _=_;refine L h ?_;show bR _ _=_;simp[l,v];exact wL I
theorem BA(h:gH j σ=B (B d,gO))(l:ll t σ j=S)(v:lq sc t d ρ=B R)(I:body R gO=B (.ok (.next,f),i))(P:fP M m f i=B (s,qc)):gR sc t body j M m (k+1) ρ σ=gR sc t body j M m k s qc:=by refine L (QK h l v I) ?_;show(fP M m f i).bind _=_;exact L P rfl
theorem QL{next:az->cy}(e:Bz M m next r σ=B (o,af)){G:Prop}(k:∀f i,(r.1=.next\/r.1=.cont)->fP M m r.2 σ=B (f,i)->next f i=B (o,af)->G)(K:r.1=.brk->o=.ok (.next,r.2)->σ=af->G)(E:∀a,r.1=.ret a->o=.ok (.ret a,r.2)->σ=af->G):G:=by
 obtain⟨F,ρ⟩:=r;rcases F with _|_|_|a
 ·exact b3 e λ q=>k q.1 q.2 (.inl rfl)
 ·obtain p:=bc (ak e)
  exact K rfl p.1.symm p.2
 ·exact b3 e λ q=>k q.1 q.2 (.inr rfl)
 ·obtain p:=bc (ak e)
  exact E a rfl p.1.symm p.2
def j5(M:az)(k:J)(r:U (Res (f6×az)×aE)):U (Res (f6×az)×aE):=match r with
 |some (.ok (.next,ρ),σ)=>match fP M k ρ σ with
  |some (ar,af)=>B (.ok (.next,ar),af)|none=>B (.ok (.next,ρ),σ)
 |r=>r
def sg(sc:bW)(N:J)(t i:aJ)(m:Ev V)(body:az->cy)(ρ:az):cy:=λ h=>bR (hY i) (j5 ρ (O h) (oO (m.bind g8 h) λ v σ=>hA v λ j=>gR sc t body j ρ (O σ) N ρ σ))
theorem QM(W:hY i=S)(h:(m.bind g8) e=B (.ok (.aH j),gO)):sg sc N t i m body ρ e=j5 ρ (O e) (gR sc t body j ρ gO.length N ρ gO):=
 Y (eh W) (aM _ (wL h))
theorem afs(e:j5 M k r=B (o,σ)){G:Prop}(K:r=B (o,σ)->G)(C:∀R V f,r=B (.ok (.next,R),V)->o=.ok (.next,f)->fP M k R V=B (f,σ)->G):G:=by
 rcases r with _|⟨⟨F,R⟩|⟨c,as⟩,V⟩
 ·exact nn e
 ·rcases F with _|_|_|a
  ·obtain e:(match fP M k R V with|some (ar,af)=>B _|none=>B _)=B _:=e
   refine eD (fP M k R V) (λ h=>?_) λ q h=>?_
   ·rw[h]at e;exact K e
   ·rw[h]at e
    obtain p:=bc (ak e);exact C R V q.1 rfl p.1.symm (Y h (aM (λ t=>B (q.1,t)) p.2))
  ·exact K e
  ·exact K e
  ·exact K e
 ·exact K e
theorem QN:∀{k:J}{ρ:az}{σ:aE},gR sc t body j M m k ρ σ=B (o,af)->∃f ar,o=.ok (f,ar)
 |0,_,_,e=>nn e|_+1,_,_,e=>QI e (λ u h=>(bh _ _ h)) λ u u u u u u u u u e=>QL e (λ u u u u=>QN) (λ u h u=>(bh _ _ h)) λ u u h u=>(bh _ _ h)
theorem aft{l:az}(h:l.lookup n=B v):(n,v)∈l:=by
 induction l with
 |nil=>exact nn h
 |cons p l i=>
  rw[gY]at h;refine dO (n==p.1) (λ e=>?_) λ e=>?_
  ·rw[e]at h;refine ax (ak h) ?_;rw[cI.mp e];exact cV
  ·rw[e]at h;exact c7 _ (i h)
theorem BB(h:(xS M k ok ρ).lookup n=B v):(ρ.lookup n=B v/\∀i,v=.aH i->i<k)\/(ok=S/\n=uP/\v=.aH k/\∃i,ρ.lookup n=B (.aH i)/\k<=i):=by
 refine av (pL.mp (aft h)) λ p u w=>b3 w λ F e w=>?_;rcases F with d|i
 ·have q:=bc (ak w)
  rw[q.1,q.2]at e;exact .inl ⟨e,λ j E=>nomatch q.2.trans E⟩
 ·revert w
  refine dO (bE i k) (λ s=>?_) λ s=>?_
  ·show(zI (motive:=λ u=>U _) _ _ _)=_->_
   refine L s ?_;intro w;have q:=bc (ak w);rw[q.1,q.2]at e;exact .inl ⟨e,λ j E=>by cases q.2.trans E;exact cg.mp s⟩
  ·show(zI (motive:=λ u=>U _) _ _ _)=_->_
   refine L s (dO (ok&&p.1==uP) (λ l=>?_) λ l=>?_)
   ·show(zI (motive:=λ u=>U _) _ _ _)=_->_
    rw[l];intro w;have q:=bc (ak w);rw[q.1]at e l;have l:=bo l;exact .inr ⟨l.1,cI.mp l.2,q.2.symm,i,e,zC λ q=>bw (Y s.symm (cg.mpr q))⟩
   ·show(zI (motive:=λ u=>U _) _ _ _)=_->_
    rw[l];exact nn
theorem bt.lets(R:bt g x env ρ α h)(f:∀u n v,ar.lookup n=B v->(∀V,ρ.lookup n=B V->a9 (x.P++α) α h u V)->a9 (x.P++aA) aA h u v)(d:∀n v,ar.lookup n=B v->∃V,ρ.lookup n=B V):bt g x env ar aA h:=by
 refine⟨R.fv,R.gl,R.cc,R.fK,?_,λ n o=>?_,R.ap⟩
 ·refine av R.ns λ m p q=>(⟨m,p,λ n v k o=>?_⟩)
  obtain⟨V,e⟩:=d n v k;exact av (q n V e o) λ u W j=>(⟨u,W,f u n v k λ r w=>by rw[e]at w;obtain rfl:=ak w;exact j⟩)
 ·refine R.jV o λ c X W j w I P i=>(⟨c,W,j,w,I,X,P,λ v k=>?_⟩)
  obtain⟨V,e⟩:=d n v k;exact av (i V e) λ u s A=>(⟨u,s,f u n v k λ r w=>by rw[e]at w;obtain rfl:=ak w;exact A⟩)
theorem afu{σ:aE}(e:HK k ρ σ=B (i,xs)):ρ.lookup uP=B (.aH i)/\k<=i/\σ[i]?=B (.ae xs):=by
 refine b3 e λ v z e=>?_;rcases v with _|I
 ·exact nn e
 ·revert e
  refine dO (bE I k) (λ h=>?_) λ h=>?_
  ·show(zI (motive:=λ u=>U _) _ _ _)=_->_
   rw[h];exact nn
  ·show(zI (motive:=λ u=>U _) _ _ _)=_->_
   refine L h (λ e=>oP e λ y K e=>?_);have p:=bc (ak e);exact⟨p.1▸z,p.1▸zC λ q=>bw (Y h.symm (cg.mpr q)),p.1▸ax p.2 K⟩
theorem afv(e:fP M k ρ σ=B (ar,af)){G:Prop}(K:(σ.take k).all (bk k)=S->ar=xS M k aj ρ->af=σ.take k->G)(C:∀i xs,(σ.take k).all (bk k)=S->ρ.lookup uP=B (.aH i)->k<=i->σ[i]?=B (.ae xs)->ar=xS M k S ρ->af=σ.take k++ [.ae xs]->G):G:=by
 unfold fP at e;cases h:(σ.take k).all _ with
 |false=>rw[h]at e;exact nn e|true=>
 rw[h]at e;refine eD (HK k ρ σ) (λ E=>?_) λ q E=>?_
 ·
  rw[E]at e;obtain p:=bc (ak e);exact K h p.1.symm p.2.symm
 ·
  rw[E]at e;obtain p:=bc (ak e);obtain z:=afu E;exact C q.1 q.2 h z.1 z.2.1 z.2.2 p.1.symm p.2.symm
theorem QO{x:bD}{h:aX}(t:∀a∈γ,a∈β):∀b o,h.get? b=B o->b∉x.P++(α++β)->h.get? b=B o/\b∉x.P++(α++γ):=λ b u e n=>⟨e,λ q=>n ((bB.mp q).elim (bL _) λ q=>aW _ ((bB.mp q).elim (bL _) λ q=>aW _ (t b q)))⟩theorem QP{x:bD}(t:∀a∈γ,a∈β)(k:∀i,v=.aH i->i<O α)(r:a9 (x.P++(α++β)) (α++β) h u v):a9 (x.P++(α++γ)) (α++γ) h u v:=by induction v with|d=>exact aV.mono r (QO t)|aH i=>exact av r λ a c e=>⟨a,by rw[vU (k i rfl)]at c ⊢;exact c,e⟩def afw(g:bX)(x:bD)(env:cn)(α β:H ao)(ar:az)(af:aE)(h:aX):Prop:=∃γ,(∀a∈γ,a∈β)/\aG g x (α++γ) af h/\bt g x env ar (α++γ) h
theorem QQ(I:aG g x (α++β) σ h)(R:bt g x env ρ (α++β) h)(e:fP N (O α) ρ σ=B (ar,af)):afw g x env α β ar af h:=by
 refine afv e (λ o E f=>?_) λ i xs o z s K E f=>?_
 ·simp[E,f]
  exact⟨[],(λ w q=>nomatch q),L (ea ..) (aG.shrink I (λ b q=>q) I.fr o),R.lets (λ u n v k P=>(BB k).elim (λ q=>QP (λ w q=>nomatch q) q.2 (P v q.1)) λ q=>bw q.1) λ n v k=>(BB k).elim (λ q=>⟨v,q.1⟩) λ q=>bw q.1⟩
 ·simp[E,f]
  have c:=by exact I.bM.length▸(jL.mp K).1
  obtain M:=tD c;refine av (I.bM.get M) λ m p V=>?_;simp[<-ak (Y K.symm p)]at V;generalize (α++β)[i]=a at V M;have A:=eK ((pN s).symm.trans M);have t:∀b∈[a],b∈β:=λ b q=>L (ek.mp q) A;exact av V λ vs W l=>(⟨[a],t,aG.Hc I (λ b q=>q) I.fr o A ⟨vs,W,l.mono (QO t)⟩,R.lets (λ u n v k P=>(BB k).elim (λ q=>QP t q.2 (P v q.1)) λ⟨_,E,f,j,y,_⟩=>av ((E▸P) _ z) λ b r d=>(L f ⟨a,D8,Y d (aM hP (ak (Y r.symm M)))⟩)) λ n v k=>(BB k).elim (λ q=>⟨v,q.1⟩) λ⟨_,_,_,j,y,_⟩=>⟨_,y⟩⟩)
section
variable {g:bX}{x:bD}{sc:bW}{env:cn}{n:J}{own:H ao}{β γ nu oQ:Type}
inductive BC(g:bX)(x:bD)(own:H ao)(env:cn)(α:H ao)(s:aU)(q:U (Res (f6×az)×aE))(F:J->az->cy)(k:J)(s':aU):Prop
 |mk (uB:az) (xK:H ao) (gO:aE) (c5:aX) (t1:J) (hC:s'=cT s c5 t1) (st:a_ (a3 x own).F (a3 x own).W α s.heap xK c5) (I:aG g (a3 x own) xK gO c5) (dm:1<=t1) (R:bp g (a3 x own) env uB xK c5) (e:F k uB gO=q)
theorem BC.qk(st:a_ (a3 x own).F (a3 x own).W α s.heap j h)(I:aG g (a3 x own) j u h)(K:1<=T)(R:bp g (a3 x own) env t j h)(E:fP M (O α) t u=B (HL,G))(e:F k HL G=q):
  ∃m,m<k+1/\BC g x own env α s q F m (cT s h T):=by
 refine av st.ext λ β w i=>?_;subst w;exact gF (QQ I R E) λ γ v N r=>(⟨k,km _,HL,α++γ,G,h,T,rfl,⟨st.size,⟨γ,rfl,λ a q=>i a (v a q)⟩,st.same,st.slot⟩,N,K,r,e⟩)
def apk(g:bX)(x:bD)(env:cn)(t:aJ)(body:H bx)(j:aU->Prop)(R:Ej->aU->Prop)(N:aq->aU->Prop)(v:aq)(s':aU):Prop:=
 aO (a5 g.prog g.w) x.A (l0 t env v) (λ u y=>aO (a5 g.prog g.w) x.A (fG body env) (λ f s=>match f with
          |.next|.cont=>j s|.brk=>R (.ok .next) s|.ret v=>R (.ok (.ret v)) s) N y) N s'
theorem afx(K:0<n)(c:dq g x sc env n own)(cv:∀ρ,c9 g x own env ρ (fG body env) (BD ρ))(M:az)(k:J)(ρ ar:az)(sh:f6)(α:H ao)(σ af:aE)(s:aU)(I:ao)(R:Ej->aU->Prop)
   (e:gR sc t BD j M (O α) k ρ σ=B (.ok (sh,ar),af))(In:aG g (a3 x own) α σ s.heap)(dm:1<=s.toks)(r2:bp g (a3 x own) env ρ α s.heap)(xl:α[j]?=B I)
   (q:∀f h' D aA,a_ (a3 x own).F (a3 x own).W α s.heap aA h'->aG g (a3 x own) aA af h'->1<=D->nL (x.P++aA) aA h' f sh->bp g (a3 x own) env ar aA h'->R (.ok f) (cT s h' D)):
   v8 (a5 g.prog g.w) x.A (.forLoop t (.ref I) body [] env) R s:=by
 refine codeAny_forLoop_any (BC g x own env α s _ _) (λ k s' dd=>?_) k ⟨ρ,α,σ,s.heap,s.toks,rfl,.refl ..,In,dm,r2,e⟩;obtain⟨uB,l,gO,c5,t1,rfl,p,Q,o,R0,e⟩:=dd;obtain A:=p.get xl;obtain sub:∀b∈x.W,b∈own++x.W:=λ b=>aW _;induction k with
 |zero=>exact nn e|succ k=>
 refine QI e (λ w E=>?_) λ d i z r qc w xm nA afy xT=>?_
 ·obtain E:=bc (Res.ok.inj E)
  exact OY (c.y.ok.handled K) c.y.ok.cY c.y.ok.eu Q.dG o A w λ h' D st eX j0=>wpAny_execs_nil (q .next h' D l (p.trans (st.cF sub)) eX.cF j0 (L E.1 trivial) (L E.2 (c.r9 Q st R0)))
 ·generalize notedBy _ x.A env _=N
  refine hS (turn (c.y.ok.handled K) c.y.ok.cY c.y.ok.eu t Q.dG o A w xm (λ v cw h8 C eF i0 g9=>O4 (x:=a3 x own) (c.y.ok.handled K) c.h4 c.y.ok.cY c.w c.cM ⟨by simp,λ u u u u=>by simp⟩ nA l i _ _ i eF.cF i0 ⟨c.r9 Q C R0,g9⟩ rfl _ _ (λ b p8 cZ t3 xn dw my fO o4 R3=>cv z xn i (cT s cZ t3) _ qc fO o4 R3 afy _ _ (gk.ok λ f fw qa m r3 iZ T G=>?_) eC.ok) eC.ok)) (λ _ _ z15=>av z15 λ v e nI=>L e nI) λ u u y=>y;have X:=((p.trans (C.cF sub)).trans my).trans r3;obtain P:=G.1;refine QL xT (λ HL apl h xI e=>?_) (λ h E es=>?_) λ a h E es=>?_
  ·rcases h with h|h<;>rw[h]at P<;>induction f<;>first|exact(BC.qk X iZ T G.2 xI e)|exact P.elim
  ·have E:=bc (Res.ok.inj E)
   rw[h]at P;cases f with|brk=>exact q .next fw qa m X (es▸iZ) T (L E.1 trivial) (L E.2 G.2)|_=>exact P.elim
  ·obtain E:=bc (Res.ok.inj E)
   rw[h]at P;cases f with|ret v=>exact q _ fw qa m X (ax es iZ) T (L E.1 P) (L E.2 G.2)|_=>exact P.elim
theorem afz(da:0<n)(c:dq g x sc env n own)(hm:TE g x env ρ (bG i env) m)(cv:∀ρ,c9 g x own env ρ (fG body env) (BD ρ)):
  c9 g x own env ρ (fF (.For t i body [] w) env) (sg sc N t i m BD ρ):=by
 refine λ α σ s o af I dm p e Q E G he=>bN e λ dd e=>?_;have M:∀{o:Res _}{af:aE},oO (m.bind g8 σ) (λ v σ=>hA v λ j=>gR sc t BD j ρ (O σ) N ρ σ)=B (o,af)->∀{Q:m5->aU->Prop},(∀f r h' C aA,o=.ok r->a_ (a3 x own).F (a3 x own).W α s.heap aA h'->aG g _ aA af h'->1<=C->(nL (x.P++aA) aA h' f r.1/\bp g _ env r.2 aA h')->Q f (cT s h' C))->
   aO _ x.A (fF (.For t i body [] w) env) Q E s:=λ{o af} e {Q} G=>by
  refine t6 e λ it X y e=>nv e λ j um e=>(f5 (QN e) λ sh ar k=>?_);rw[k]at e;refine aB (ko (aB (Ev.mg y λ a d i1 y=>((ag.lift c hm) α σ s _ d I dm p i1 _ _ (gk.ok λ v fw qa l R iZ z P=>?_) eC.ok))));rw[GU dd];refine aB (bl (aB (ko (aB (dT (AK (λ u u p=>p) l d _ _ X iZ.dG z P.2 y _ _ (λ it' p8 ei lr uA ho5 A K nH pi=>?_) eC.ok))))));simp[<-Res.ok.inj ho5,um]at pi;refine av pi λ D hI' Ht=>L Ht (wpAny_runOwn (codeAny_mono (afx da c cv ρ N ρ ar sh uA X af _ D (λ r s'=>match r with|.ok f=>Q f s'|.error _=>False) (L K.bM.length e) K.cF nH (c.r9 iZ A P.1) hI' λ f h' C aA G1 D T BE r4=>G f _ h' C aA k ((R.trans (A.cF λ b q=>aW _ q)).trans G1) D T ⟨BE,r4⟩) λ r s' h=>?_));exact match r,h with|.ok _,h=>h|.error _,h=>h.elim
 refine afs e (λ e=>M e G) λ uB X Pf f3 k xI=>M f3 λ f r h' C aA dw st D T P=>?_;rw[<-Res.ok.inj dw]at P;refine av st.ext λ β w20 Bp=>?_;subst w20;exact gF (QQ D P.2 (L I.bM.length xI)) λ γ xF K kJ=>(G f _ h' C _ k ⟨st.size,⟨γ,rfl,λ a q=>Bp a (xF a q)⟩,st.same,st.slot⟩ K T ⟨by induction f<;>first|trivial|exact P.1.elim,kJ⟩)
end
def BF(c:Cfg)(N:J)(s:bW)(ρ:az)(o i:aJ):cy:=
 (ba c N s ρ o).1.bind λ l=>(ba c N s ρ i).1.bind λ I=>(c.del l I).bind λ u=>.ret (.next,ρ)noncomputable def HM{A:Type}(s:bx)(f:H aJ->aJ->A)(z:A):A:=if h:s.ctorIdx=5 then aoo s h λ ay e u=>f ay e else z
theorem afA{A:Type}{z:A}{P:A->Prop}{f:H aJ->aJ->A}(k:∀ay e p,s=.Assign ay e p->P (f ay e))(K:P z):P (HM s f z):=by
 by_cases h:s.ctorIdx=5
 ·exact aoo (motive_2:=λ E=>s=E->P (HM E f z)) s h k rfl
 ·exact(aM P (ja h)).mpr K
noncomputable def xU{A Bq:Type}(l:H A)(f:A->Bq)(z:Bq):Bq:=match l with|[a]=>f a|_=>z
theorem BG{A Bq:Type}{l:H A}{f:A->Bq}{z:Bq}{P:Bq->Prop}(k:∀a,l=[a]->P (f a))(K:P z):P (xU l f z):=by
 rcases l with _|⟨a,_|⟨_,_⟩⟩
 ·exact K
 ·exact k a rfl
 ·exact K
def afB(c:Cfg)(M:J)(p:bW)(s:az->H bx->cy)(ρ:az)(body:H bx)(h:H Eo):cy:=
 xU body (λ st=>HM st (λ ay e=>xU ay (λ t=>gQ (Qz t e) (qo c.gl p s (xN c M p t e ρ) h ρ)) .au) .au) .au
def afC(c I:Cfg)(M:J)(s:bW)(run:Cfg->az->H bx->cy)(ρ:az)(st:bx):cy:=stK .au
   (λ u u u u u u u u u u=>.au)
   (λ u u u u u u u u u u u=>.au)
   (λ v u=>match v with
  |some e=>lx (ba c M s ρ e).1 ρ
  |none=>.ret (.ret (.d .none),ρ))
   (λ ay u=>xU ay (λ t=>xM t (λ o i=>BF c M s ρ o i) .au) .au)
   (λ ay e u=>xU ay (λ t=>xN c M s t e ρ) .au)
   (λ t it body A u=>gQ A.isEmpty (gQ c.loops (sg s c.fuel t it (ba c M s ρ it).1 (λ ρ=>run c ρ body) ρ)))
   (λ t a b u=>fL (ba c M s ρ t).2 (run c ρ a) (run c ρ b))
   (λ e C u=>gQ C.isNone (sd e λ e=>Qv c M s ρ e))
   (λ body h A f u=>gQ (!h.isEmpty&&(A.isEmpty&&f.isEmpty)) (afB c M s (run I) ρ body h))
   (λ e u=>gQ (qf e) (kH (ba c M s ρ e).1 ρ)) st
noncomputable def b4(c C:Cfg)(M:J)(s:bW):J->az->H bx->cy
 |0,_,_=>.au|_+1,ρ,[]=>oZ ρ|N+1,ρ,st::rest=>b5 (afC c C M s (λ c=>b4 c C M s N) ρ st) λ ar=>b4 c C M s N ar rest
theorem afD(C:dq g x q env n X)(K:gP g c n)(N:J):c9 g x X env ρ (fF (.Delete [.Subscript o i p] W) env) (BF c N q ρ o i):=by
 have y:=λ e=>(f7 K N q ρ e x env C.y C.cM).1;obtain T:ag g x _ (λ u u u u=>True) (PySem.delete (.Subscript o i p) env) _:=by exact ag.cv C.y (y o) λ R l=>(ag.hk C.y (C.y.hn R l) (y i).holding λ m t=>ag.standAt (λ α σ s f af I D p e Q E G z=>aB (((ag.holding (K.del x C.y.ok R l m t)).pre (pre':=λ α h=>(bp g x env ρ α h/\a9 _ α h R l)/\a9 _ α h m t) λ u u p=>⟨p.1.2,p.2⟩) α σ s f af I D p e _ _ (λ r A h' F aA k st v j a=>zt (G _ A h' F aA k st v j trivial)) z)))
 obtain V:BF c N q ρ o i=((ba c N q ρ o).1.bind λ l=>(ba c N q ρ i).1.bind λ t=>c.del l t).bind λ u=>.ret (.next,ρ):=by unfold BF;simp[Ev.assoc]
 obtain w:fF (.Delete [.Subscript o i p] W) env=(dZ W>>=λ u=>PySem.delete (.Subscript o i p) env>>=λ u=>pure ri):=by simp only[arm_exec_Delete,arm_deleteEach_cons,arm_deleteEach_nil];simp only[bind_assoc,pure_bind]
 simp only[V,w];exact ag.standAt ((ag.lift C T).bind λ u u=>ag.pure λ u u p=>⟨trivial,p.1⟩)
theorem dq.mark(c:dq g x s env n own)(e:ao):dq g (marked x e) s env 0 own:=by
 refine⟨⟨c.y.base,⟨c.y.ok.cY,c.y.ok.eu,c.y.ok.frames,λ h=>aS h (hu 0),?_,?_,c.y.ok.nolimit⟩,c.y.q⟩,c.cM,c.uz,c.w,c.top⟩
 ·obtain this:=c.y.ok.depth
  exact DO this
 ·obtain this:=c.y.ok.units
  show x.A.units+8*0+200<_;lia
theorem qp:c9 g x o env ρ t .au:=.au
theorem lB(m:gP g r 0)(M:J)(N:J):∀(c:Cfg)(n:J)(x:bD)(W:H ao)(env:cn)(ρ:az)(body:H bx),gP g c n->dq g x s env n W->c9 g x W env ρ (fG body env) (b4 c r M s N ρ body):=by
 induction N with
 |zero=>exact λ _ _ _ _ _ _ _ _ _=>qp
 |succ N I=>
  intro c n x W env ρ body K C;induction body with
  |nil=>exact qe
  |cons st rest=>exact o1 ((by
    have y:=λ e=>(f7 K M s ρ e x env C.y C.cM).1;rcases st with⟨_,_,_,_,_,_,_,_,_,_⟩|⟨_,_,_,_,_,_,_,_,_,_⟩|⟨_,_,_,_,_,_,_,_,_,_,_⟩|⟨v,p⟩|⟨ay,p⟩|⟨ay,e,p⟩|⟨_,_,_,_,_,_,_⟩|⟨_,_,_,_⟩|⟨_,_,_,_,_⟩|⟨t,R,body,A,p⟩|⟨_,_,_,_,_⟩|⟨_,_,_,_⟩|⟨t,a,b,p⟩|⟨_,_,_⟩|⟨_,_,_⟩|⟨_,_,_⟩|⟨e,w,p⟩|⟨body,k,A,f,p⟩|⟨_,_,_,_,_⟩|⟨_,_,_⟩|⟨_,_⟩|⟨_,_,_,_⟩|⟨_,_⟩|⟨_,_⟩|⟨e,p⟩|⟨_⟩|⟨_⟩|⟨_⟩;case Expr=>exact j4 λ V=>Be C V (y e)
    case Return=>rcases v with _|e
                 ·exact(ag.pure λ u u p=>⟨aV.none,p⟩)
                 ·exact xu C (y e)
    case If=>exact PF C ((λ e=>(f7 K M s ρ e x env C.y C.cM).2) t) ((λ c n x=>I c n x W env) c n x ρ a K C) ((λ c n x=>I c n x W env) c n x ρ b K C)
    case Assign=>exact BG (λ t q=>L q (Qs C K M t e p)) qp
    case For=>exact j4 λ E=>j4 λ P=>L (k2.mp E) (afz (K.loops P) C (y R) λ ρ=>(λ c n x=>I c n x W env) c n x ρ body K C)
    case Raise=>exact j4 λ F=>HE λ e Q=>Q▸zk.mp F▸afe C K M e p
    case Delete=>exact BG (λ t q=>HB (λ o i HD G=>L q (L G (afD C K M))) qp) qp
    case Try=>
     refine j4 λ T=>?_;have X:=bo T;have j:=bo X.2;rw[k2.mp j.1,k2.mp j.2];rcases k with _|⟨h,k⟩
     ·exact bw X.1
     refine BG (λ b afE=>afA (λ ay e q q1=>BG (λ t jb=>?_) qp) qp) qp;subst afE q1 jb;exact j4 λ fZ=>eM C.top λ z l X j=>afq K.G C X j (λ e ρ body=>(λ c n x=>I c n x W env) r 0 _ ρ body m (C.mark e)) (afh C K M _ _ _ fZ)
    all_goals exact qp)) λ ar=>I c n x W env ar rest K C
noncomputable def QR:D->aF
 |.int _=>S|_=>aj
noncomputable def QS:D->aF
 |.aR _=>S|_=>aj
def tM(ds:H D):Bool:=(ds.all QR||ds.all QS)&&!ds.isEmpty
def ry(o:eR)(ds:H D)(i j:J):Bool:=match ds[i]?,ds[j]? with|some a,B b=>(iv o a b).getD aj|_,_=>aj
def l4(o:eR)(ds:H D):U D:=bR (tM ds) ds[DM (ry o ds) (O ds-1)]?
def QT(vs:H aq)(ds:H D):Prop:=O vs=O ds/\((∀(i:J)(v:aq)(d:D),vs[i]?=B v->ds[i]?=B d->∃k t,v=.int k t/\d=.int k)\/(∀(i:J)(v:aq)(d:D),vs[i]?=B v->ds[i]?=B d->∃u t,v=.float u t/\d=.aR u))
theorem afF(h:QR d=S):∃i,d=.int i:=by
 rcases d with _|_|i|_|⟨_,_⟩|_|_|_;case int=>exact⟨i,rfl⟩
 all_goals exact bw h
theorem afG(h:QS d=S):∃i,d=.aR i:=by
 rcases d with _|_|_|i|_|_|_|_|_|_|⟨_,_⟩;case aR=>exact⟨i,rfl⟩
 all_goals exact bw h
theorem QU(r:bT X h vs ds)(e:tM ds=S):QT vs ds:=by
 have a:∀{i:J}{v:aq}{d:D},vs[i]?=B v->ds[i]?=B d->aV X h v d:=λ m l=>av (r.get l) λ V s R=>ak (Y s.symm m)▸R;refine⟨r.length,(Bool.or_eq_true_iff.mp (bF.mp e).1).imp (λ E i v d m l=>?_) λ E i v d m l=>?_⟩
 ·obtain⟨k,rfl⟩:=afF (b9.mp E d (eK l))
  obtain⟨t,rfl⟩:=(a m l).inv;exact(bh k t ⟨rfl,rfl⟩)
 ·obtain⟨k,rfl⟩:=afG (b9.mp E d (eK l))
  exact av ((a m l).inv) λ t w u=>L w (bh k t ⟨rfl,rfl⟩)
theorem QV{g:bX}(k:o=.Gt\/o=.Lt)(N:QT vs ds):CmpOf g.prog g.w A o (λ i v=>vs.toArray[i]?=B v) (ry o ds):=by
 intro i j V w s Q E x F h;have z:=N.1;obtain N:=N.2;have G:=by simpa using x
 have C:=by simpa using F
 have li:=z▸(jL.mp G).1;have l:=z▸(jL.mp C).1;obtain d:=tD li;obtain D:=tD l;unfold ry at h;rw[d,D]at h;dsimp only at h;refine L ((show K6 o V w=kr o V w by rcases k with rfl|rfl<;>rfl)) ?_;rcases N with N|N
 ·obtain⟨a,t,rfl,R⟩:=N i V _ G d
  obtain⟨b,u,rfl,f⟩:=N j w _ C D;rw[R,f]at h;cases e:iv o (.int a) (.int b)with
  |none=>rcases k with rfl|rfl<;>cases e
  |some c=>rw[e]at h;exact N3 e h
 ·obtain⟨a,t,rfl,R⟩:=N i V _ G d
  obtain⟨b,u,rfl,f⟩:=N j w _ C D;rw[R,f]at h;cases e:iv o (.aR a) (.aR b)with
  |none=>rcases k with rfl|rfl<;>cases e
  |some c=>rw[e]at h;exact N4 e h
noncomputable def afH:eR->b1
 |.Gt=> "max"|_=> "min"
theorem xV(e:l4 o ds=B d):tM ds=S/\ds[DM (ry o ds) (O ds-1)]?=B d:=bN e λ h e=>⟨h,e⟩theorem QW(r:bT X h vs ds)(e:l4 o ds=B d)(k:vs.toArray[DM (ry o ds) (vs.toArray.size-1)]?=B v):aV X h v d:=by refine av (r.get (xV e).2) λ V W j=>?_;rw[hT,r.length,ra,W]at k;exact ax (ak k) j
theorem QX(e:tM ds=S):0<O ds:=match ds,(bF.mp e).2 with|_::_,_=>fp _
def QY(g:bX)(x:bD)(c:eR)(Q:aq->aU->Prop)(it:aq)(s:aU):Prop:=∃I f W n P St K,it=.ref I/\Walks g.prog g.w x.A.in1 I f W n P St/\St 0 s.heap/\(∀b∈f,b<s.heap.objs.size)/\0<n/\CmpOf g.prog g.w x.A.in1 c P K/\
   ∀v h' T,P (DM K (n-1)) v->(∀b o,b∉W->s.heap.get? b=B o->h'.get? b=B o)->Q v {s with heap:=h',toks:=T}def afI(x:bD)(α:H ao)(s:aU)(d:D)(r:aq)(s':aU):Prop:=∃h' t,s'=cT s h' t/\(∀b o,s.heap.get? b=B o->h'.get? b=B o)/\aV (x.P++α) s.heap r d
theorem QZ{g:bX}{K:bj aq}(G:hl x α s Q d)(h:aO (a5 g.prog g.w) x.A K (afI x α s d) (λ u u=>False) s):aO (a5 g.prog g.w) x.A K Q E s:=
 hS (GP h) (λ r u y=>by
  obtain⟨⟨h',t,rfl,k,R⟩,P⟩:=y;exact G r h' t k P.size (R.mono λ b o e n=>⟨k b o e,n⟩)) λ u u y=>y.1.elim
theorem Q3(f:x.A.handled=aa)(i:c=.Gt\/c=.Lt)(r:bT (x.P++α) s.heap vs ds)(e:l4 c ds=B d)(G:hl x α s Q d){K:bj aq}
  (l:∀(q:aq->aU->Prop)(E:aq->aU->Prop),aO (a5 g.prog g.w) x.A.in1 (tw (.ref s.heap.objs.size)) (QY g x c q) E {s with heap:=s.heap.push {cls:=.type "tuple",data:=.seq vs.toArray} } ->aO (a5 g.prog g.w) x.A K q E s)(E:aq->aU->Prop):aO (a5 g.prog g.w) x.A K Q E s:=by
 obtain h:IsT (s.heap.push {cls:=.type "tuple",data:=.seq vs.toArray}) s.heap.objs.size vs:=⟨0,d0 _ rfl⟩;obtain V:=er ..;refine QZ G (l _ _ (YU h.iV (pU (s.heap.objs.size+1) _ _ vs.toArray.size _ _ _ ⟨ax V rfl,Walks.tuple (A:=x.A.in1) f (s.heap.objs.size+1) s.heap.objs.size (il (km _)) vs.toArray,⟨?_,IsT.iV (a7 h λ n M=>⟨n,dy _ M⟩)⟩,?_,?_,QV i (QU r (xV e).1),λ v h' T P k=>(bh h' T ⟨rfl,λ b o p=>k b o (by simp;exact il (kl (dI p))) (dy _ (dy _ p)),QW r e P⟩)⟩)))
 ·rw[<-V];exact⟨_,d0 _ rfl,rfl,rfl⟩
 ·intro b u
  rw[er,er];simp at u;rcases u with rfl|rfl
  ·exact km _
  ·exact kl (km _)
 ·simp[hT,r.length];exact QX (xV e).1
theorem afJ(f:x.A.handled=aa)(i:c=.Gt\/c=.Lt)(w:IsL s.heap l vs)(r:bT (x.P++α) s.heap vs ds)(e:l4 c ds=B d)(G:hl x α s Q d){K:bj aq}
  (m:∀(q:aq->aU->Prop)(E:aq->aU->Prop),aO (a5 g.prog g.w) x.A.in1 (tw (.ref l)) (QY g x c q) E s->aO (a5 g.prog g.w) x.A K q E s)(E:aq->aU->Prop):aO (a5 g.prog g.w) x.A K Q E s:=by
 have h:=a7 w λ u=>dI;refine QZ G (m _ _ (Ed w.isList (pU s.heap.objs.size _ _ vs.toArray.size _ _ _ ⟨rfl,Walks.list (A:=x.A.in1) f s.heap.objs.size l (il h) vs.toArray,⟨⟨_,d0 _ rfl,rfl,rfl⟩,w.isList.push _⟩,?_,?_,QV i (QU r (xV e).1),λ v h' T n k=>(bh h' T ⟨rfl,λ b o p=>k b o (by simp;exact il (dI p)) (dy _ p),QW r e n⟩)⟩)))
 ·intro b t
  rw[er];simp at t;rcases t with rfl|rfl
  ·exact km _
  ·exact kl h
 ·simp[hT,r.length];exact QX (xV e).1
def Q4(o:eR)(d:D):U D:=match d with|.ae ds=>l4 o ds|_=>aa
def BH(o:eR):H V->Ev V
 |[a]=>(Ev.read a).bind λ d=>Ev.ofD (Q4 o d)|[a,b]=>Ev.ofD ((fx [a,b]).bind (l4 o))|[a,b,c]=>Ev.ofD ((fx [a,b,c]).bind (l4 o))|_=>.au
theorem Q5(h:∀α s ds d,bT (x.P++α) s.heap vs ds->l4 o ds=B d->∀(Q:aq->aU->Prop)(E:aq->aU->Prop),hl x α s Q d->aO (a5 g.prog g.w) x.A (call F vs) Q E s):
  ag g x (λ α h=>bU (x.P++α) α h vs as) (dA x) (call F vs) (Ev.ofD ((fx as).bind (l4 o))):=by
 cases e:(fx as).bind _ with|none=>exact .au|some d=>exact b3 e λ ds y e=>ag.wp λ α σ s I t p Q E G=>h α s ds d (p.fx y) e Q E G
theorem Q6(f:x.A.handled=aa)(i:o=.Gt\/o=.Lt):eN g x (.builtin (afH o)) (BH o):=by
 intro vs as
 match as with
 |[]=>exact .au
 |[a]=>
  refine G8 λ v=>ag.ghost (λ α h=>qd) λ d=>ag.toV ?_;cases e:Q4 o d with
  |none=>exact .au
  |some r=>
   refine ag.wp λ α σ s I T p Q E G=>?_;rcases d with _|_|_|_|_|_|_|_|ds|_|⟨_,_⟩;case ae=>exact e4 p.2.ml λ l V W y R=>L W (afJ f i y R e G (λ t E h=>i.elim (λ q=>by rw[q]at h ⊢;exact call_max_walk h) λ q=>by rw[q]at h ⊢;exact call_min_walk h) E)
   all_goals exact nn e
 |[a,b]=>exact r8 λ v u=>Q5 λ α s ds d R e Q E G=>Q3 f i R e G (λ t E h=>i.elim (λ q=>by rw[q]at h ⊢;exact call_max_two h) λ q=>by rw[q]at h ⊢;exact call_min_two h) E|[a,b,c]=>exact PB λ v u w=>Q5 λ α s ds d R e Q E G=>Q3 f i R e G (λ t E h=>i.elim (λ q=>by rw[q]at h ⊢;exact call_max_three h) λ q=>by rw[q]at h ⊢;exact call_min_three h) E|_::_::_::_::_=>exact .au
theorem afK(vs:H aq):Builtin.«zip.__new__» ⟨.type "zip" ::vs,[]⟩=(aop vs>>=λ i=>D9 i>>=λ a=>D9 (i.map λ u=>jM)>>=λ b=>aoq (.type "zip") [.none,.bool aj,.bool aj,a,b]>>=λ r=>ret r):=by rfl
def HN(I:fE aq)(l:H aq):bj (H aq):=l.rec (motive:=λ u=>fE aq->bj (H aq)) (λ I=>pure I.toList) (λ v u F I=>d_ I.toList (tw v)>>=λ i=>F (I.push i)) I
theorem afL(vs:H aq):aop vs=HN #[] vs:=by
 have k:∀vs I,(forIn vs I (λ v r=>(d_ r.toList (tw v)>>=λ i=>pure (m4 (r.push i)):bj _))>>=λ r=>pure r.toList)=HN I vs:=by intro vs;induction vs with|nil=>intro I;rfl|cons v vs g=>intro I;rw[kZ,bind_assoc,bind_assoc];congr 1;funext i;exact g _
 exact k vs #[]def afM{β:Type}(v:V)(f:J->Ev β):Ev β:=match v with|.aH j=>f j|.d _=>.au
def HO(bS:H V):Ev (H J):=bS.rec (motive:=λ u=>Ev (H J)) (.ret []) (λ a as dF=>(g8 a).bind λ v=>afM v λ j=>(dF).bind λ js=>.ret (j::js))noncomputable def Q7(js:H J):Ev V:=λ σ=>B (.ok (.aH (O σ+1)),(σ++ [.gD (O js)])++ [.it (.zip js (O σ))])
def o9(as:H V):Ev V:=match aL (O as) 2|| (aL (O as) 3||Nat.beq (O as) 4)with
 |true=>(HO as).bind Q7|false=>.au
theorem ag.mapR{e p q:Type}{pre:H ao->aX->Prop}{post:H ao->aX->e->p->Prop}{post':H ao->aX->e->q->Prop}{t:bj e}{m:Ev p}{f:p->q}(h:ag g x pre post t m)(u:∀α h b a,post α h b a->post' α h b (f a)):ag g x pre post' t (m.bind λ a=>.ret (f a)):=by
 obtain this:=ag.N6 (f:=id) h u
 rwa [show(t>>=λ b=>(tg (id b):bj e))=t from YM t]at this
def BI(α:H ao)(i:H aq)(js:H J):Prop:=∃bs:H ao,i=bs.map hP/\(js.map λ j=>α[j]?)=bs.map B
theorem afN(G:cb x.F x.P)(t:cb x.W x.P):∀(vs:H aq)(as:H V)(I:fE aq)(s:H J),
  ag g x (λ α h=>bU (x.P++α) α h vs as/\BI α I.toList s) (λ α h r js=>O js=O as/\BI α r (s++js)) (HN I vs) (HO as)
 :=by
  intro vs;induction vs with
  |nil=>
   intro as I s;induction as with
   |nil=>exact ag.pure λ α h p=>⟨rfl,L (ea ..) p.2⟩|cons=>exact λ u u u u u u u p=>nomatch p.1
  |cons v vs l=>
   intro as I s;induction as with
   |nil=>exact λ u u u u u u u p=>nomatch p.1
   |cons a as=>
   refine ag.bind (((AK λ u u p=>p).holding.frame (λ α h aA h' st q=>⟨wW G t vs as _ _ _ _ st q.1,av q.2 λ bs W k=>av st.ext λ u e u=>⟨bs,W,L e (NJ k)⟩⟩:kB x λ α h=>bU _ α h vs as/\BI α I.toList s)).pre λ α h p=>?_) λ i w=>?_
   ·cases p.1 with|cons r n=>exact⟨r,n,p.2⟩
   ·induction w with
    |d=>exact .au
    |aH j=>
     refine((l as _ (s++ [j])).mapR λ α h b js p=>⟨aM _ p.1,?_⟩).pre λ α h p=>⟨p.2.1,?_⟩
     ·exact av p.2.2 λ bs W k=>(av p.1 λ b y e=>⟨bs++ [b],L (e ..) (L Array.toList_push (L W (L vP rfl))),L (vP ..) (L vP (L k (aM (λ o=>bs.map B++ [o]) y)))⟩)
     ·rw[Er];exact p.2
noncomputable def afO(i:H aq):bj Fin:=D9 i>>=λ a=>D9 (i.map λ u=>jM)>>=λ b=>aoq (.type "zip") [.none,.bool aj,.bool aj,a,b]>>=λ r=>ret r
def Q8(x:bD)(α:H ao)(h:aX)(f:Fin)(r:V):Prop:=∃z,f=.done (.ret (.ref z))/\a9 (x.P++α) α h (.ref z) r/\∃o,h.get? z=B o/\o.cls=.type "zip"
theorem afP(z:js.length<=4):ag g x (λ α u=>BI α v js) (Q8 x) (afO v) (Q7 js):=by
 intro α σ s o af I T p e Q E K y;refine av p λ bs W h=>L W ?_;obtain e:=bc (ak e);have t:O (bs.map hP)=O js:=by obtain this:=aM O h;rw[gg,gg]at this;rw[gg];exact this.symm
 obtain a:∀P:H aq,O P=O js->sizeOk (.seq P.toArray):=λ P X=>by show P.toArray.size<=kq;rw[hT,X];exact bA z (by decide)
 obtain b:=Y (gg λ u=>jM) t;refine aB (ku (aB (ku (aB ?_) (a _ b))) (a _ t));show aO _ _ (newObj _ (.fields #[.none,.bool aj,.bool aj,.ref s.heap.objs.size,.ref _])) _ E _;refine ku (bl ?_) (by show 5<=kq+2;decide);obtain j:=(I.keeps (h':=s.heap.push {cls:=.type "tuple",data:=.seq (bs.map hP).toArray}) (λ u u=>dy _) (L (er ..) (hg _))).new {cls:=.type "tuple",data:=.seq ((bs.map hP).map λ u=>jM).toArray} (.gD _) ⟨_,b,d0 _ rfl⟩;obtain i:(s.heap.push {cls:=.type "tuple",data:=.seq (bs.map hP).toArray}).get? s.heap.objs.size=B _:=d0 _ rfl;obtain G:=dy {cls:=.type "tuple",data:=.seq ((bs.map hP).map λ u=>jM).toArray} i;obtain w:=j.1.new {cls:=.type "zip",data:=.fields #[.none,.bool aj,.bool aj,.ref s.heap.objs.size,.ref (s.heap.push {cls:=.type "tuple",data:=.seq (bs.map hP).toArray}).objs.size] } (.it (.zip js (O σ))) (e_ s.heap.objs.size _ bs ⟨L (eb ..) (NJ h),ax I.bM.length (iD h6),uk G (uk i I.fresh),d0 _ rfl,dy _ G⟩);obtain r:=w.2.2;simp only[e2]at r;exact K _ _ _ s.toks _ e.1.symm ((a_.push ..).trans (j.2.1.trans w.2.1)) (ax e.2 w.1) T ⟨_,rfl,r,_,d0 _ rfl,rfl⟩
theorem afQ(G:cb x.F x.P)(t:cb x.W x.P)(vs:H aq)(as:H V):
  ag g x (λ α h=>bU (x.P++α) α h vs as) (Q8 x) (Builtin.«zip.__new__» ⟨.type "zip" ::vs,[]⟩) (o9 as):=by
 unfold o9;cases z:aL _ 2|| (aL _ 3||Nat.beq _ 4)with
 |false=>exact .au|true=>
 obtain i:O as<=4:=by simp[lX,Nat.beq_eq]at z;lia
 rw[afK,afL];refine ag.bind ((afN G t vs as #[] []).pre λ α h p=>⟨p,[],rfl,rfl⟩) λ v js=>?_;intro α σ s o af I T p;exact afP (L p.1 i) α σ s o af I T p.2
theorem afR(a b c:aq):Zi "zip" ⟨[a,b,c],[]⟩=pure ():=by lk
theorem afS(a b c:aq):Zj "zip.__new__" ⟨[.type "zip",a,b,c],[]⟩=pure ():=by lk
theorem afT(a b c d:aq):Zi "zip" ⟨[a,b,c,d],[]⟩=pure ():=by lk
theorem afU(a b c d:aq):Zj "zip.__new__" ⟨[.type "zip",a,b,c,d],[]⟩=pure ():=by lk
theorem afV(a b c d:aq):wb "object.__init__" ⟨[a,b,c,d],[]⟩:=by unfold wb;lk
theorem afW(a b c d e:aq):wb "object.__init__" ⟨[a,b,c,d,e],[]⟩:=by unfold wb;lk
theorem afX(G:cb x.F x.P)(u:cb x.W x.P):eN g x (.type "zip") o9:=by
 intro vs as;intro α σ s k af I D p e Q E K y;obtain j:(aL _ 2|| (aL _ 3||Nat.beq _ 4))=true:=by
  cases h:aL _ 2|| (aL _ 3||Nat.beq _ 4)with
  |true=>rfl|false=>unfold o9 at e;rw[h]at e;exact nn e
 obtain f:Zi "zip" ⟨vs,[]⟩=pure _/\Zj "zip.__new__" ⟨.type "zip" ::vs,[]⟩=pure _/\∀obj,wb "object.__init__" ⟨obj::vs,[]⟩:=by
  rw[<-p.length]at j;rcases vs with _|⟨a,_|⟨b,_|⟨c,_|⟨d,_|⟨wM,vs⟩⟩⟩⟩⟩
  ·exact bw j
  ·exact bw j
  ·exact⟨F.typeCall_zip_2 _ _,F.newCall_zip_2 _ _,λ obj=>F.args_object_init_3 obj _ _⟩
  ·exact⟨afR _ _ _,afS _ _ _,λ obj=>afV obj _ _ _⟩
  ·exact⟨afT _ _ _ _,afU _ _ _ _,λ obj=>afW obj _ _ _ _⟩
  ·exact bw j
 refine ff f λ V m w=>(callType_newIn F.called_zip rfl V m w F.entry_zip_new (λ A R s h=>h) (afQ (x:={x with A:=x.A.in1.in1}) G u vs as α σ s k af ⟨I.base,I.big,I.b2,I.alive,I.dv,I.c8,I.bM,I.fr,I.old⟩ D p e _ _ (λ n r h' C aA l st i T W=>?_) λ M cl X h' C aA l st T N=>?_))
 ·obtain⟨z,rfl,q,o,c5,cw⟩:=W
  exact⟨⟨o,c5,cw⟩,K _ r h' C aA l st ⟨i.base,i.big,i.b2,i.alive,i.dv,i.c8,i.bM,i.fr,i.old⟩ T q⟩
 ·apply y M cl X h' C aA l st T
  obtain⟨Sq,t,v,a,I,h1,eE,dP,Ge,jq⟩:=N;exact⟨Sq,t,v,a,⟨I.base,I.big,I.b2,I.alive,I.dv,I.c8,I.bM,I.fr,I.old⟩,h1,eE,dP,Ge,jq⟩theorem ctt(h:∀b,Q b s):aO M A (Builtin.SmallTypes.calledThroughType v) Q E s:=aB (wpAny_stack_any λ st=>bl (h _))
set_option maxRecDepth 100000 in
theorem afY(l:ao)(items:fE aq)(n:J)(fY:U ao)(o:fE (U aq)):
  Meets (Builtin.«enumerate.__new__» ⟨[.type "enumerate",.ref l],[]⟩) (λ u R s=>s.heap.get? l=B {cls:=.type "tuple",dict:=fY,data:=.seq items n,slots:=o} /\
   R (.ok (.ret (.ref (s.heap.push {cls:=.type "tuple_iterator",data:=.fields #[.ref l,.int 0 0] }).objs.size)))
    {s with heap:=(s.heap.push {cls:=.type "tuple_iterator",data:=.fields #[.ref l,.int 0 0] }).push {cls:=.type "enumerate",data:=.fields #[.none,.bool aj,.ref s.heap.objs.size,gy 0,.none,.none] } }):=
 .of_wp λ prog w A R s h=>by
  obtain⟨z,h⟩:=h;have I:=sub_enumerate;have y:Heap.IsTuple s.heap l items:=⟨_,z,rfl,n,rfl⟩;wp_walk using aor z,ctt;intro b;induction b
  all_goals
   wp_walk using aor z,YU y
   exact⟨_,rfl,h⟩noncomputable def BJ{A:Type}(f:H D->U A)(d:D):U A:=match d with|.aD xs=>f xs|_=>aa
theorem HP{A:Type}{f:H D->U A}{r:A}(e:BJ f d=B r){G:Prop}(k:∀xs,d=.aD xs->f xs=B r->G):G:=by
 rcases d with _|_|_|_|_|_|_|_|_|xs|⟨_,_⟩;case aD=>exact k xs rfl e
 all_goals exact nn e
def xW(as:H V):Ev V:=λ σ=>one as λ a=>hi a (BJ λ xs=>B (.ok (.aH (O σ+1)),(σ++ [.it (.aD xs 0)])++ [.it (.enu (O σ) 0)]))
section
variable {g:bX}{x:bD}
theorem afZ:eN g x (.type "enumerate") xW:=by
 intro vs as;intro α σ s o af I t p e Q E h z;refine j2 e λ V y R=>iA R λ d j R=>HP R λ xs F dQ=>?_;subst y j F;obtain u:=bc (ak dQ);obtain⟨v,rfl⟩:=uG p;obtain r:=qd p;refine eg r.inv λ l w ev N W P=>?_;obtain⟨n,M⟩:=W;refine L ev ?_
 ·skip
  refine callType_new PySem.F.called_enumerate rfl (PySem.F.typeCall_enumerate_1 _) (PySem.F.newCall_enumerate_1 _) (λ obj=>PySem.F.args_object_init_2 obj _) PySem.F.entry_enumerate_new (afY l w.toArray n aa #[]) ⟨M,?_⟩;obtain m:d2 g.w.params _ _ (s.heap.push {cls:=.type "tuple_iterator",data:=.fields #[.ref l,.int 0 0] }) s.heap.objs.size (.it (.aD xs 0)):=
   (bh l w ⟨⟨_,d0 _ rfl,rfl,rfl⟩,uk M N,⟨n,dy _ M⟩,P.mono (rW _)⟩)
  obtain q:=I.new _ _ m;obtain i:=q.1.new {cls:=.type "enumerate",data:=.fields #[.none,.bool aj,.ref s.heap.objs.size,gy 0,.none,.none] } (.it (.enu (O σ) 0)) (bh s.heap.objs.size .none ⟨ax I.bM.length (iD h6),d0 _ rfl⟩);obtain r:=i.2.2;simp only[e2]at r;exact⟨⟨_,d0 _ rfl,rfl⟩,h _ _ _ _ _ u.1.symm (q.2.1.trans i.2.1) (ax u.2 i.1) t r⟩def HQ(as:H V):Ev V:=λ σ=>match one as λ a=>hA a λ i=>jU σ[i]? B with|some xs=>bR (dc xs) (B (.ok (.aH (O σ)),σ++ [.ae xs]))|none=>PD as σ
theorem af0(j:x.A.handled=aa):eN g x (.type "list") HQ:=by
 intro vs as;intro α σ s o af I t p e Q E K y;unfold HQ at e;refine eD (one as λ a=>hA a λ i=>jU σ[i]? B) (λ h=>?_) λ xs h=>?_
 ·rw[h]at e;exact aed j vs as α σ s o af I t p e Q E K y
 ·
  simp[h]at e;refine bN e λ N R=>j2 h λ d z f=>nv f λ i q f=>oP f λ X M f=>?_;obtain u:=bc (ak R);rw[ak f]at M;subst z q;obtain⟨v,rfl⟩:=uG p;exact av (qd p) λ l c w=>L w (av (I.look c M) λ T W r=>a7 W λ n R=>g4 (call_list_seq l (.inl rfl) R rfl rfl (λ h' c' k V G=>K _ _ h' s.toks _ u.1.symm ((a_.of_keeps k G.size).Hd (bH _)) (ax u.2 (I.more k G.size G.gone λ b=>⟨T,⟨c',V⟩,r.mono b⟩)) t ⟨_,ax I.bM.length h6,rfl⟩) (L hT (L r.length (b8 N)))))
end
def HR(d:D)(t:b1):U D:=match d with|.bool _=>bR (t=="bool") (B (.bool S))|.aR _=>bR (t=="float") (B (.bool S))|_=>aa
def af1(as:H V):Ev V:=match as with
 |[a,b]=>match b with
  |.d d=>match d with
   |.ty t=>(Ev.read a).bind λ d=>Ev.ofD (HR d t)|_=>.au
  |.aH _=>.au
 |_=>.au
noncomputable def wq:D->U b1
 |.none=>B "NoneType"|.str _=>B "str"|.ae _=>B "list"|_=>aa
noncomputable def af2:D->U D
 |.none=>B (.str "None")|_=>aa
noncomputable def Q9:H String:=["ValueError","AssertionError"]def af3(f:ai->U D)(xs:H D):U D:=match xs with|[]=>aa|x::t=>match t with|[]=>hB f x|_::_=>aa
def BK:D->U D
 |.int i=>uH (.int i)|.exc c xs=>af3 (λ s=>bR (Q9.contains c) (B (.str s))) xs|_=>aa
def BL:D->U D:=iX λ i=>B (.int (i_ i))def lC:D->U D:=hB λ s=>a8 (aZ s.length 5592405) (B (.str (Lw s)))def Q_:D->U D:=hB λ s=>a8 (aZ s.length 5592405) (B (.str (PySem.Txt.upper s)))
theorem af4:eN g x (.type "type") (e5 (λ d=>(wq d).map D.ty)):=
 oW (λ v d r e α σ s I T p Q E h=>by
  refine av (hR.mp e) λ t R j3=>?_;subst j3;cases d with
  |none=>
   cases(ak R);obtain rfl:=p.inv;refine Ln (Ei (bl ⟨Lx _ (by decide+kernel),codeAny_builtin aos ?_⟩));repeat wp_step
   exact(h _ s.heap s.toks (λ u u e=>e) (bH _) (.ty _))
  |str z=>
   obtain rfl:=ak R;obtain⟨t,rfl⟩:=p.str;refine Ln (Ei (bl ⟨Lx _ (by decide+kernel),codeAny_builtin aos ?_⟩));repeat wp_step
   exact(h _ s.heap s.toks (λ u u e=>e) (bH _) (.ty _))
  |ae xs=>obtain rfl:=ak R;refine e4 p.ml λ l V w W n=>L w ?_;obtain⟨N,M⟩:=W;obtain⟨q,G,d,t,os⟩:=s;exact call_type_obj M rfl (h _ q t (λ u u e=>e) (bH _) (.ty _))|_=>exact nn R)
theorem Ra:eN g x (.builtin "int.bit_length") (e5 BL):=
 Ba λ u u u e u u u h=>call_int_bit_length (h _ _ (ax (ak e) (.int _ _)))
theorem Rb(X:x.A.units+2<rk):eN g x (.type "str") (e5 BK):=
 oW (λ v d r e α σ s I F p Q E G=>by
  rcases d with _|_|i|_|_|_|_|_|_|_|⟨c,xs⟩;case int=>obtain⟨t,rfl⟩:=p.int;exact str_int e G.plain
  case exc=>
   obtain⟨a,o,T,t,vs,rfl,N,A,j,b,M,f,R,n⟩:=((show aV (x.P++α) s.heap v (.exc c xs) by cases p;assumption).inv);cases xs with
   |nil=>exact nn e|cons y C=>
   induction C with
   |cons=>exact nn e|nil=>
   rcases y with _|_|_|_|z|_|_|_|_|_|⟨_,_⟩
   case str=>
    refine bN e λ V e=>(e4 n.nt λ v k W D q=>?_);subst W;obtain⟨u,rfl⟩:=D.inv;obtain rfl:=DZ.mp q.length;obtain K:s.heap.ExcAt a c _:=(bh o T ⟨A,j,b,M⟩);obtain h:=G (.str z u) s.heap s.toks (λ w w e=>e) (bH _) (ak e▸.str _ _);simp only[Q9,Zd,Ze,Ls,lX,cI]at V;rcases V with rfl|rfl
    ·exact P.str_of_exc_one PySem.F.excStr_ValueError X K R h
    ·exact P.str_of_exc_one PySem.F.excStr_AssertionError X K R h
   all_goals exact nn e
  all_goals exact nn e)
section
open AutoSeq1 (wpAny_loadPart')noncomputable def B5(I:fE aq)(x:aq):J->U Fin×gL->bj (pH (U Fin×gL)):=λ i u=>match I[i]? with|some y=>eqBool y x>>=λ b=>if b=S then(retInt i>>=λ r=>pure (ForInStep.done (B r,())))else pure (m4 (aa,()))|none=>pure (m4 (aa,()))
theorem ahn{e:aq->aF}{j:J}(D:j<items.size)(o:e items[j]=S)(l:∀m (p:m<items.size),m<j->e items[m]=aj)
  (z:∀y,y∈items->EqAt A s y x (e y))(C:Q (B (.done (.ret (.int j s.toks))),()) {s with toks:=s.toks+1}):∀(k i m:J),j-i=k->i<=j->j<i+m->aO (a5 prog w) A (forIn (kk i m) (aa,()) (B5 items x)) Q E s:=by
 intro k;induction k with
 |zero=>
  intro i m n t p;cases(DX t (aoA n));rcases m with _|m
  ·exact aS p (hu _)
  rw[Ys,kZ];apply aB;dsimp only[B5];refine(aoJ D).symm▸aB (z _ (aoK D) prog w _ _ ?_);exact o.symm▸aB (aB (wpAny_mkInt (bl (bl (bl C)))))
 |succ k g=>
  intro i m n t p;have h:i<items.size:=gf ‹_› ‹_›;rcases m with _|m
  ·exact aS p (ez.mpr t)
  rw[Ys,kZ];apply aB;dsimp only[B5];refine(aoJ h)▸aB (z _ (aoK h) prog w _ _ ?_);exact(l i h (Zs n)).symm▸(bl (g _ m (aM Nat.pred n) (Zs n) (L (K7 i m) p)))
set_option maxRecDepth 100000 in
theorem agc(l:ao)(I:fE aq)(n:J)(d:U ao)(E:fE (U aq))(x:aq)(e:aq->aF)(j:J)(D:j<I.size)
  (o:e I[j]=S)(k:∀m (p:m<I.size),m<j->e I[m]=aj):
  Meets (Builtin.«tuple.index» ⟨[.ref l,x],[]⟩)
   (λ A R s=>s.heap.get? l=B {cls:=.type "tuple",dict:=d,data:=.seq I n,slots:=E} /\(∀y,y∈I->EqAt A.in1 s y x (e y))/\R (.ok (.ret (.int j s.toks))) {s with toks:=s.toks+1}):=by
 intro prog w A R s h;refine ff h λ z a h=>?_;dsimp only[Builtin.«tuple.index»];simp-iota only[Std.Legacy.Range.forIn_eq_forIn_range'];repeat (first|refine wpAny_loadPart' z ?_|wp_step)
 refine AR ?_ (ahn D o k a ?_ j 0 ((min I.size I.size-0+1-1)/1) rfl (Zf _) (by lia))
 ·show(forIn (kk 0 _) _ _:bj _)=forIn _ _ _
  congr 1;funext i r;unfold B5;cases I[i]? <;>rfl
 ·exact bl h
end
def qq:H V->Ev V
 |[a,v]=>match a with
  |.aH i=>(oU i v).bind λ u=>.ret (.d .none)|.d _=>.au
 |_=>.au
def BM:H V->Ev V
 |[a]=>match a with
  |.aH i=>λ σ=>match σ[i]? with
   |some (.ae xs)=>match dc xs with
    |true=>B (.ok (.d .none),σ.set i (.ae xs.reverse))|false=>aa
   |_=>aa
  |.d _=>.au
 |_=>.au
noncomputable def uQ:H D->U (H ai)
 |[]=>B []|.str s::xs=>(uQ xs).map (s:: ·)|_::_=>aa
def xX(s:ai):D->U D
 |.ae xs=>(uQ xs).bind λ o=>a8 (JoinOk s o) (B (.str (aot s o)))|_=>aa
def Rc:H V->Ev V
 |[a,b]=>match a with
  |.d (.str s)=>(Ev.read b).bind λ d=>Ev.ofD (xX s d)|_=>.au
 |_=>.au
noncomputable def BN(x y:ai):U D:=match K9 x y 0 x.length 1 with|i::_=>B (.int (i:J))|[]=>aa
def o_(y:D)(bS:H D):U Nat:=bS.rec (motive:=λ u=>U J) (aa) (λ x xs dF=>match g5 g6 x y with
  |some S=>B 0|some aj=>(dF).map (· +1)|none=>aa)
def af5:H V->Ev V
 |[a,b]=>(Ev.read a).bind λ d=>(Ev.read b).bind λ D=>match d with
  |.str x=>match D with
   |.str y=>Ev.ofD (BN x y)|_=>.au
  |_=>.au
 |_=>.au
def Rd:H V->Ev V
 |[a,b]=>(Ev.read a).bind λ y=>(Ev.read b).bind λ d=>match y with
  |.aD xs=>match jX g6 xs d with
   |some S=>Ev.ofD ((o_ d xs).map λ j=>D.int (j:J))|_=>.au
  |_=>.au
 |_=>.au
def af6:H V->Ev V
 |[a,b]=>(Ev.read a).bind λ y=>(Ev.read b).bind λ d=>match y with
  |.ae xs=>match jX g6 xs d,dc xs with
   |some S,S=>Ev.ofD ((o_ d xs).map λ j=>D.int (j:J))|_,_=>.au
  |_=>.au
 |_=>.au
theorem af7(h:cb x.F x.P):eN g x (.builtin "list.append") qq:=by
 intro vs as
 match as with
 |[]=>exact .au|[_]=>exact .au|_::_::_::_=>exact .au|[a,b]=>
 induction a with
 |d=>exact .au|aH i=>
 intro α σ s o af I t p e Q E G y;refine f5 (Bb p) λ v u w=>?_;subst w;refine av ((oX p)) λ l z W=>L W (adD e λ D V r e=>?_);cases e;exact Pa h I z (r7 p) r λ h' st C=>G .none _ h' s.toks α rfl st C t aV.none
theorem af8(K:cb x.F x.P):eN g x (.builtin "list.reverse") BM:=by
 intro vs as
 match as with
 |[]=>exact .au|_::_::_=>exact .au|[a]=>
 induction a with
 |d=>exact .au|aH i=>
 intro α σ s f af I t p e Q E u z;obtain⟨v,rfl⟩:=uG p;refine av ((qd p)) λ l h w=>L w (av (I.bM.get h) λ m y V=>?_);obtain e:(match σ[i]? with
   |some (.ae xs)=>match dc xs with
    |true=>B _|false=>aa
   |_=>aa:U _)=B _:=e
 rw[y]at e;induction m with
 |ae xs=>
  dsimp only at e;cases G:dc xs with
  |false=>rw[G]at e;exact nn e|true=>
  rw[G]at e;cases e;refine av V λ R W r=>?_;obtain⟨N,M⟩:=W;refine D4 aou ⟨_,M,rfl⟩ PySem.F.entry_list_reverse (PySem.F.args_list_reverse_1 _) (AutoSeq1.list_reverse_list_0 l R.toArray N (L hT (L r.length (b8 G)))) ⟨M,?_⟩;obtain j:(s.heap.update l (zz λ x=>x.reverse)).get? l=B {cls:=.type "list",data:=.seq R.reverse.toArray N} :=by rw[Eh _ M rfl,mapSeq_reverse]
  obtain c:=tA ..;exact cq (I.upd K h (m:=.ae xs.reverse) (λ b o q e=>Y (c.2 b q) e) (fV c.1.symm) ⟨_,⟨N,j⟩,(r.mono (λ b o e n=>⟨Y (c.2 b (λ q=>n (L q (aW _ (eK h))))) e,n⟩)).reverse⟩) λ C st=>(u .none _ _ s.toks α rfl st C t aV.none)
 |_=>exact nn e
theorem af9:∀{ss:H ai}{vs:H aq},uQ xs=B ss->bT X h vs xs->∃l:H (ai×Tok),vs=strValues l/\l.map (·.1)=ss:=by
 induction xs with
 |nil=>intro ss vs e r;exact⟨[],zr r.length,ak e⟩
 |cons x xs I=>
  intro ss vs e r;rcases x with _|b|i|u|s|n|n|a|xs|xs|⟨c,xs⟩;case str=>refine gE e λ y E w=>ax w (e4 r.nt λ v P ev a r=>a7 a.inv λ t N=>av (I E r) λ l W j=>?_);simp[ev,N,W];exact⟨(s,t)::l,rfl,aM _ j⟩
  all_goals exact nn e
theorem af_:eN g x (.builtin "str.join") Rc:=by
 intro vs as
 match as with
 |[]=>exact .au|[_]=>exact .au|_::_::_::_=>exact .au|[a,b]=>
 induction a with
 |aH=>exact .au|d a=>
 rcases a with _|_|_|_|n|_|_|_|_|_|⟨_,_⟩
 case str=>
  refine r8 λ v u=>(ag.ghost (λ α h=>r7) λ d=>ag.toV ?_);cases e:xX n d with
  |none=>exact .au
  |some r=>
   refine ag.wp λ α σ s I D p Q E G=>?_;obtain⟨P,R⟩:=p;refine a7 ((oX P).inv) λ t M=>L M ?_;rcases d with _|_|_|_|_|_|_|_|xs|_|⟨_,_⟩;case ae=>refine av (rm.mp e) λ X T f=>?_;obtain⟨ok,y⟩:=dn f;obtain rfl:=ak y;refine e4 R.ml λ l A W z V=>L W (av (af9 T V) λ i o j=>?_);subst o;exact SC.join z.isList j ok λ C k=>G _ s.heap k (λ w w e=>e) (bH _) (.str _ _)
   all_goals exact nn e
 all_goals exact .au
theorem aga{A:m7}{s:aU}{n:J}{e:aq->aF} :∀{xs:H D}{vs:H aq}{j:J},o_ y xs=B j->bT X s.heap vs xs->(∀v∈vs,∃d,aV X s.heap v d/\g5 g6 d y=B (e v))->(∀v∈vs,∀d,aV X s.heap v d->∀b,g5 g6 d y=B b->b=e v)->
   ∃h:j<O vs,e vs[j]=S/\∀m (p:m<O vs),m<j->e vs[m]=aj
 :=by
  intro xs;induction xs with
  |nil=>exact λ h=>nn h
  |cons x xs i=>
   intro vs j h r k u;cases r with
   | @cons v vs _ _ a r=>
   dsimp only[o_]at h;cases E:g5 g6 x y with
   |none=>rw[E]at h;exact nn h|some b=>
   obtain q:=u v (cV ..) x a b E;rw[E]at h;induction b with|true=>exact ax (ak h) ⟨fp _,q.symm,λ m p W=>aS W (zo _)⟩|false=>refine av (hR.mp h) λ o C w=>ax w (av (i C r (λ v l=>k v (c7 _ l)) λ v l=>u v (c7 _ l)) λ g G c=>(⟨Nat.succ_lt_succ g,G,λ m p W=>?_⟩));induction m with|zero=>exact q.symm|succ m=>exact c m _ (Zk W)
theorem HU{k:D->D->Ev V}{ev:H V->Ev V}(f:∀a b,ev [a,b]=(Ev.read a).bind λ d=>(Ev.read b).bind λ N=>k d N)(i:∀as,(∀a b,as≠ [a,b])->ev as=.au)
  (h:∀v u d N,ag g x (λ α h=>RD (x.P++α) h v d/\RD (x.P++α) h u N) (dA x) (call F [v,u]) (k d N)):eN g x F ev:=by
 intro vs as
 match as with
 |[]=>rw[i _ (λ w w q=>by cases q)];exact .au|[_]=>rw[i _ (λ w w q=>by cases q)];exact .au|_::_::_::_=>rw[i _ (λ w w q=>by cases q)];exact .au|[a,b]=>
 simp[f];exact r8 λ v u=>(ag.ghost (λ α h=>oX) λ d=>ag.ghost (λ α h p=>by cases p.1 with|cons _ r=>cases r with|cons r _=>exact r) λ N=>((h v u d N).pre λ w w p=>⟨p.1.2,p.2⟩))
theorem HV{ev:H V->Ev V}(h:ev []=.au)(W:∀a,ev [a]=.au)(v:∀a b c d,ev (a::b::c::d)=.au):∀as,(∀a b,as≠ [a,b])->ev as=.au
 |[],_=>h|[a],_=>W a|[a,b],n=>aS rfl (n a b)|a::b::c::d,_=>v a b c d
theorem Rf(q:tu s.heap)(C:A.units+60<rk)(t:aV X s.heap u y)(R:bT X s.heap vs xs)(z:jX g6 xs y=B S)(D:o_ y xs=B j):
  ∃e:aq->aF,(∀v∈vs,EqAt A s v u (e v))/\∃h:j<O vs,e vs[j]=S/\∀m (x:m<O vs),m<j->e vs[m]=false:=by
 refine av (wN (FZ g6 A s q C) t vs xs S R z) λ e w f=>(⟨e,λ v k=>(f v k).1,aga (n:=0) (A:=A) D R (λ v k=>gF ((f v k).2) λ d a w b=>⟨d,a,b⟩) λ v k d W b p=>?_⟩);obtain⟨_,i,r,F,E⟩:=f v k;exact ak (((aV.simp r W F E p)▸p).symm.trans E)
theorem agb(Bq:Base g)(X:x.A.units+200<rk):eN g x (.builtin "tuple.index") Rd:=by
 refine λ vs as=>HU (λ a b=>rfl) (HV rfl (λ w=>rfl) λ w w w w=>rfl) (λ v u c d=>?_) vs as;rcases c with _|_|_|_|_|_|_|_|_|xs|⟨_,_⟩
 case aD=>
  dsimp only;cases k:jX g6 xs d with
  |none=>exact .au|some b=>
  induction b with
  |false=>exact .au|true=>
  cases e:(o_ d xs).map λ j=>D.int _ with
  |none=>exact .au
  |some r=>
   refine av (hR.mp e) λ j C W=>ax W (ag.wp λ α σ s I t p Q E G=>(e4 p.1.t9 λ l R i z n=>L i ?_));obtain⟨N,M⟩:=z;obtain⟨f,F,V,P,K⟩:=Rf (A:=x.A.in1) (wQ Bq.booked I.base) (un X (by decide)) p.2.zero (n.mono λ b o e w=>⟨e,dS⟩) k C;exact D4 PySem.F.slot_tuple_index ⟨_,M,rfl⟩ PySem.F.entry_tuple_index (PySem.F.args_tuple_index_2 _ _) (agc l R.toArray N aa #[] u f j _ P λ m q h=>K m _ h)
    ⟨M,λ y T=>F y (by simpa using T),G _ s.heap _ (λ w w e=>e) (bH _) (.int _ _)⟩
 all_goals exact .au
abbrev Tab:=ao->U (H (ah×ai))
noncomputable def tT(k:ah):H (ah×ai)->U ai
 |[]=>aa|(n,s)::es=>if n=k then B s else tT k es
def E8(g:bX)(tab:Tab):Prop:=∀a K,tab a=B K->(a==th)=aj/\∃f,g.K.MapOf (tl g.prog g.w) a f/\∀k,match tT k K with|some s=>∃t,f k=B (.str s t)|none=>f k=aa
noncomputable def uR{A:Type}(f:ao->U A)(d:D):U A:=match d with|.obj o=>f o|_=>aa
theorem BP{A:Type}{f:ao->U A}{r:A}(e:uR f d=B r){G:Prop}(k:∀o,d=.obj o->f o=B r->G):G:=by
 rcases d with _|_|_|_|_|_|_|o|_|_|⟨_,_⟩;case obj=>exact k o rfl e
 all_goals exact nn e
def H2(k:ah)(K:H (ah×ai)):D:=match tT k K with|some s=>.str s|none=>.none
def xZ(tab:Tab)(a b:V):Ev V:=match hi a (uR tab)with
 |some K=>(Ev.read b).bind λ d=>Ev.ofD (iX (λ k=>B (H2 k K)) d)|none=>.au
def H3(a b d:V):Ev V:=λ σ=>match hA a λ i=>nQ σ[i]? B with|some es=>bR (mD es) (((Ev.read b).bind λ D=>Ev.of (hB (λ k=>B ((eO k es).getD d)) D)) σ)|none=>aa
def Rm(tab:Tab)(as:H V):Ev V:=match as with|[a,b,d]=>H3 a b d|[a,b]=>xZ tab a b|_=>.au
def Rn(a b:V):Ev V:=(Ev.read a).bind λ d=>(Ev.read b).bind λ D=>Ev.ofD (fh d D)def lD(a b:V):Ev V:=λ σ=>match hA a λ i=>nQ σ[i]? B with|some es=>bR (mD es) (((Ev.read b).bind λ d=>Ev.of (hB (λ k=>eO k es) d)) σ)|none=>Rn a b σ
theorem agl{K:Type}[Yu K]{knd:KeyKind prog w K}{k h:aX}{f:K->U aq}(m:k.MapOf knd a f)(s:k.StaysIn h):h.MapOf knd a f:=
 oL m λ o es e i r=>(e_ o es e ⟨s a o i,r⟩)theorem agm(Bq:Base g)(I:aG g x α σ h)(c:a∈α):(a==th)=false:=by cases e:a==th with|false=>rfl|true=>exact aS (ax (cI.mp e) ((I.b2 a (.inr c)).2)) (Nat.not_le.mpr Bq.sys)
theorem Ro{v u:aq}{K:H ao->aX->Prop}
  (h:∀k z,f k=B z->∀T α σ s,aG g x α σ s.heap->K α s.heap->∀l R,v=.ref l->u=.str k T->l∈α->s.heap.DictOf (strKind g.prog g.w) l R->c1 (x.P++α) α s.heap R es->∀(Q:aq->aU->Prop)(E:aq->aU->Prop),(∀M T,a9 (x.P++α) α s.heap M z->Q M (cT s s.heap T))->aO (a5 g.prog g.w) x.A t Q E s):
  ag g x (λ α h=>a9 (x.P++α) α h u b/\K α h/\∃l R,v=.ref l/\l∈α/\h.DictOf (strKind g.prog g.w) l R/\c1 (x.P++α) α h R es) (dA x) t ((Ev.read b).bind λ d=>Ev.of (hB f d)):=
 ag.ghost (λ y y p=>p.1) λ d=>by
  cases i:hB f d with
  |none=>exact .au|some z=>
  exact ag.wp λ α σ s I y p Q E G=>mh i λ k n c=>eg p.1.2.2 λ l R ev j o r=>
   a7 ((n▸p.2).str) λ T V=>
   h k z c T α σ s I p.1.2.1 l R ev V j o r Q E λ M y=>G M s.heap _ (λ y y e=>e) (bH _)
theorem Rp(I:aG g x α σ h)(r:a9 (x.P++α) α h v a)(e:hA a (λ i=>nQ σ[i]? B)=B es)(n:mD es=S):∃l k,v=.ref l/\l∈α/\h.DictOf (strKind g.prog g.w) l k/\c1 (x.P++α) α h k es:=
 nv e λ i E e=>HY e λ F K e=>by exact av (E▸r) λ l z ev=>(av (HX n (I.look z ((ak e)▸K))) λ k m R=>(bh l k ⟨ev,eK z,m,R⟩))
theorem agn(Bq:Base g)(T:E8 g tab):eN g x (.builtin "dict.get") (Rm tab):=by
 intro vs as
 match as with
 |[]=>exact .au|[_]=>exact .au|_::_::_::_::_=>exact .au
 |[a,b]=>
  show ag g x _ _ _ (xZ tab a b);unfold xZ;cases n:hi a _ with
  |none=>exact .au
  |some R=>
   refine r8 λ v u=>ag.ghost (λ α h=>r7) λ N=>ag.toV ?_;cases X:iX _ N with
   |none=>exact .au|some d=>
   exact ag.wp λ α σ s I D p Q E G=>p4 X λ k A j=>iA n λ uu C n=>BP n λ o F q=>by
    obtain⟨M,rV⟩:=p;refine a7 ((A▸rV).int) λ t wO=>?_;refine L wO ?_;rw[C,F]at M;obtain⟨rfl,nR,_,W⟩:=(oX M).inv;obtain⟨h0,f,hm,hf⟩:=T o R q;obtain P:=agl hm I.base;refine call_meetsIn Zl P.typeIs aow (PySem.F.args_dict_get_2 _ _) (meets_dict_get _ o (by show pO k (.int k t)=S;exact isInt_self k t) h0) ⟨f,P,?_⟩;obtain c:=hf k;rw[<-ak j]at G;unfold H2 at G;refine eD (tT k R) (λ j=>?_) λ z j=>?_
    ·
     rw[j]at c G;exact c.symm▸G .none s.heap _ (λ y y e=>e) (bH _) aV.none
    ·
     rw[j]at c G;obtain⟨el,c⟩:=c;exact L c (G _ s.heap _ (λ y y e=>e) (bH _) (aV.str _ _))
 |[a,b,d]=>
  refine PB λ v u w=>?_;intro α σ s V af I D p e Q E G he;obtain e:H3 a b d σ=B _:=e;unfold H3 at e;refine eD (hA a λ i=>nQ σ[i]? B) (λ m=>?_) λ es m=>?_
  ·rw[m]at e;exact nn e
  ·
   rw[m]at e;exact bN e λ dv e=>Ro (K:=λ α h=>a9 (x.P++α) α h w d) (λ k z ago t α σ s I dP l R ev agp AW m r Q E G=>by
    subst ev agp;refine call_meetsIn Zl m.mapOf.typeIs aow (PySem.F.args_dict_get_3 _ _ _) (meets_dict_get_default _ l (qr.mpr ⟨t,rfl⟩) (agm Bq I AW) w) ⟨_,m.mapOf,?_⟩;rw[<-ak ago]at G;refine eD (eO k es) (λ j=>?_) λ a j=>?_
    ·
     rw[j]at G;exact L (r.HW j) (G w _ dP)
    ·
     rw[j]at G;refine av (r.look j) λ z W cw=>L W ?_;exact G z _ cw) α σ s V af I D ⟨oX (PA p),r7 (PA p),Rp I (ad_ p) m dv⟩ e Q E G he
theorem Rq(v:aq)(a:V)(u:aq)(b:V)(q y:aJ):ag g x (λ α h=>a9 (x.P++α) α h v a/\a9 (x.P++α) α h u b) (dA x) (D_ q y v u) (lD a b):=by
 have dflt:ag g x (λ α h=>a9 (x.P++α) α h v a/\a9 (x.P++α) α h u b) (dA x) (D_ q y v u) (Rn a b):=by refine ag.ghost (λ w w p=>p.1) λ D=>ag.ghost (λ w w p=>p.1.2) λ N=>ag.toV ?_;cases e:fh D N with|none=>exact .au|some d=>exact ag.wp λ α σ s I T p Q E G=>Gb (acR p.1.2 p.2 e λ v t r=>G v s.heap t (λ w w e=>e) (bH _) r)
 intro α σ s o af I T p e Q E G c;unfold lD at e;refine eD (hA a λ i=>nQ σ[i]? B) (λ m=>?_) λ es m=>?_
 ·rw[m]at e;exact dflt α σ s o af I T p e Q E G c
 ·
  rw[m]at e;exact bN e λ n e=>Ro (K:=λ w w=>True) (λ k z f t α σ s I w l R ev W w m A Q E G=>by
   subst ev W;refine av (A.look f) λ M X j=>?_;exact Gb ⟨(bh _ _ ⟨m.mapOf.typeIs,PySem.F.slot_dict_getitem.lookup⟩),wpAny_getItem_of (qr.mpr ⟨t,rfl⟩) m.mapOf X (G M _ j)⟩) α σ s o af I T ⟨p.2,trivial,Rp I p.1 m n⟩ e Q E G c
theorem si(K:ClsAt h C N M){G:Prop}(k:∀nm q bs s sub c d t D m y T,h.get? C=B (excClassObj nm q C N bs [.type "object"] S s sub aj c d t D m y T "object.__new__")->G):G:=
 hx K.obj λ nm q bs s r=>hx r λ sub c d t r=>hx r λ D m y T h=>k nm q bs s sub c d t D m y T h
structure oB(g:bX)(C N:ao)(jv:ai->U aq):Prop where
 cls:ClsAt g.K C N jv
 ga:jv "__getattribute__" =aa
 gt:jv "__getattr__" =aa
 agq:jv "__setattr__" =aa
 hd:jv "_headers" =aa
noncomputable def nS:Str:="_headers"
noncomputable def H4{A:Type}(m:U cj)(f:ao->J->U A):U A:=m.bind λ m=>match m with|.inst c j=>f c j|_=>aa
theorem Rr{A:Type}{f:ao->J->U A}{r:A}(e:H4 m f=B r){G:Prop}(k:∀c j,m=B (.inst c j)->f c j=B r->G):G:=
 b3 e λ m h e=>by induction m with|inst c j=>exact k c j h e|_=>exact nn e
noncomputable def H5{A:Type}(m:U cj)(f:H (ai×V)->U A):U A:=m.bind λ m=>match m with|.fld es=>f es|_=>aa
theorem Rt{A:Type}{f:H (ai×V)->U A}{r:A}(e:H5 m f=B r){G:Prop}(k:∀es,m=B (.fld es)->f es=B r->G):G:=
 b3 e λ m h e=>by induction m with|fld es=>exact k es h e|_=>exact nn e
noncomputable def x1{A:Type}(f:H D->U A)(d:D):U A:=match d with|.ae xs=>f xs|_=>aa
theorem BQ{A:Type}{f:H D->U A}{r:A}(e:x1 f d=B r){G:Prop}(k:∀xs,d=.ae xs->f xs=B r->G):G:=by
 rcases d with _|_|_|_|_|_|_|_|xs|_|⟨_,_⟩;case ae=>exact k xs rfl e
 all_goals exact nn e
def H6{A:Type}(C:ao)(a:V)(nm:ai)(σ:aE)(f:J->H (ai×V)->U A):U A:=hA a λ i=>H4 σ[i]? λ c j=>bR (nm==nS&&c==C) (H5 σ[j]? λ es=>f j es)def agr(C:ao)(a:V)(nm:ai):Ev V:=λ σ=>H6 C a nm σ λ u es=>(es.lookup nS).bind λ v=>hA v λ k=>B (.ok (.aH k),σ)def Ru(C:ao)(a:V)(nm:ai)(v:V):Ev Unit:=λ σ=>H6 C a nm σ λ j es=>bR (es.all λ p=>p.1==nS) (B (.ok (),σ.set j (.fld [(nS,v)])))def BR(a w:V):Ev Unit:=λ σ=>hA a λ i=>jU σ[i]? λ xs=>hi w λ w=>x1 (λ y=>bR (dc xs&&aZ (O xs+O y) 16777216) (B (.ok (),σ.set i (.ae y)))) w
theorem Rv{A:Type}{f:J->H (ai×V)->U A}{r:A}(e:H6 C a nm σ f=B r){G:Prop}(k:∀i j es,a=.aH i->σ[i]?=B (.inst C j)->nm="_headers" ->σ[j]?=B (.fld es)->f j es=B r->G):G:=
 nv e λ i p e=>Rr e λ c j W e=>bN e λ h e=>Rt e λ es v e=>k i j es p (ax (eq_of_beq (bo h).2) W) (eq_of_beq (bo h).1) v e
theorem c0.look(R:c0 P X α h as M){i:J}(c:as[i]?=B a)(p:M[i]?=B m):d2 P X α h a m:=
 av (R.get c) λ u e r=>
 ax (ak (Y e.symm p)) r
theorem instFk_of{i j:J}(R:c0 P X α h α σ)(t:σ[i]?=B (.inst C j))(D:σ[j]?=B (.fld es))(d:α[i]?=B a):
  ∃b m,α[j]?=B b/\h.get? a=B ⟨.ref C,B b,.plain, #[]⟩/\h.InstFk a C m/\(∀n,es.lookup n=aa->m n=aa)/\∀n v,es.lookup n=B v->∃u,m n=B u/\a9 X α h u v:=by
 refine av (R.look d t) λ b r E=>(Ar (R.look r D) λ m G N q1 Q=>(bh b m ⟨r,E,⟨_,E,rfl,λ c=>by simp,.inr ⟨b,rfl,λ q=>gF N λ o e c w=>?_,G,N⟩⟩,q1,Q⟩));rw[q,E]at e;simp only[<-ak e]at c;exact nomatch c
theorem Rw:rg (.type "object") "_headers" =pure none:=by rw[k1];lk
theorem Rx{y:ai}(n:y≠ "_headers"):∀es:H (ai×V),es.all (λ p=>p.1==nS)=S->es.lookup y=aa
 |[],_=>rfl|p::es,h=>by obtain h:=bo h;rw[gY,show(y==p.1)=aj from L (eq_of_beq h.1) (ro n)];exact Rx n es h.2
theorem ags(x:Within m ["_headers"])(N:h.Ns1 b (λ y=>if y="_headers" then B w else m y))(E:h.ExactDictFk b)(r:a9 X α h w d):d2 P X α h b (.fld [(nS,d)]):=by
 have Ry:∀n,([(nS,d)]:H _).lookup n=if n="_headers" then B d else none:=λ n=>by
  dsimp only[gY];by_cases e:n="_headers"
  ·rw[bC e,cI.mpr (show n=nS from e)]
  ·rw[a6 e,ro (show n≠nS from e)];rfl
 refine⟨_,N,E,λ n V=>?_,λ n v V=>?_⟩
 ·rw[Ry]at V
  by_cases e:n="_headers"
  ·rw[bC e]at V;exact nn V.symm
  ·rw[a6 e];exact aol λ y=>e (ek.mp (x n y))
 ·rw[Ry]at V
  by_cases e:n="_headers"
  ·rw[bC e]at V ⊢;exact⟨w,rfl,ax (ak V) r⟩
  ·rw[a6 e]at V;exact nn V
theorem agt{o:fe}(h:o.cls=c)(j:o.data=agu)(v:o.slots=s)(I:o.dict=d):o=⟨c,d,agu,s⟩:=ax h (ax j (ax v (ax I rfl)))
theorem agv(iC:cb x.F x.P)(K:oB g C N jv)(v:aq)(a:V)(nm:ai)(w:aq)(d:V):ag g x (λ α h=>a9 (x.P++α) α h v a/\a9 (x.P++α) α h w d) (λ u u u u=>True) (setAttr v nm w) (Ru C a nm d):=by
 intro α σ s out af I dm p e Q E dp he;refine Rv e λ i j es i1 dk qb fz e=>bN e λ hk e=>?_;obtain R:=bc (ak e);subst i1 qb;obtain⟨⟨a,X,rfl⟩,r⟩:=p;refine la (instFk_of I.bM dk fz X) λ b m A k W q1 jb=>si (K.cls.keeps I.base) λ nm q bs sn sub col x3 lz fs gB kF p_ hF=>?_;have ne:a≠C:=λ q=>by refine si K.cls λ c c c c c c c c c c c c l=>?_;have:=(I.b2 a (.inr (eK X))).1;rw[q,l]at this;exact nn this.symm
 have D:Within m ["_headers"]:=λ y x4=>by
  by_cases e:y="_headers"
  ·rw[e];exact List.mem_singleton_self _
  ·exact aS (q1 y (Rx e es hk)) x4
 refine g4 (store_attrFk PySem.F.store_object hF (K.cls.keeps I.base).ns K.agq K.hd Rw ne W (λ h' T agw z g_ F=>t7 (g_ _ k) λ apm g1 g2 g3 agx agy=>?_) D (by rw[vW];decide));have M:=Y (Y g1 (aM B (agt g2 g3 agx (agy b rfl)))) (oj k);have uF:∀f o,f≠b->s.heap.get? f=B o->h'.get? f=B o:=λ f o G e=>by
  by_cases n:f=a
  ·rw[n]at e ⊢;exact Y M e
  ·exact z f o n (λ o0 apn hC xb=>by
    exact ak ((ak (Y (oj k) hC)).symm▸xb)▸G) e
 refine Ar agw λ k8 oy u u t=>?_;rw[<-ak ((Y M k).symm.trans oy)]at t;rcases t with⟨P,_⟩|⟨wM,t,_,G,pa⟩
 ·exact nomatch P
 ·rw[<-ak t]at G pa
  obtain eX:=I.upd iC A (h':=h') uF F.size (ags D G pa (r.mono (λ f o e n=>⟨uF f o (λ q=>n (L q (aW _ (eK A)))) e,n⟩) eV));exact dp _ _ h' T α R.1.symm eX.2 (ax R.2 eX.1) (bA dm F.toks) trivial
theorem agz{vs us:H aq}(e:s.heap.get? l=B {cls:=.type "list",data:=.seq vs.toArray N})(o:s.heap.get? k=B {cls:=.type "list",data:=.seq us.toArray nR})(b:s.heap.IsSliceOf R .none .none .none)(T:l≠k)
  (V:O vs<=kq) (t:O vs+O us<=kq) (G:∀h',hU l s.heap h'->IsL h' l us->Q () (cT s h' s.toks)):aO (a5 prog w) A (zF (.ref l) (.ref R) (.ref k)) Q E s:=by
 obtain n:s.heap.IsList l vs.toArray:=⟨_,e,rfl,N,rfl⟩;refine gF (id b) λ os h I P=>?_;obtain r:s.TypeIs (.ref R) "slice" :=⟨os,h,I⟩;refine dT (aB (wpAny_sequenceKey n.typeIs rfl ?_));refine aB (YX n.typeIs slot_list_setitem
  (zx slot_list_setitem n.typeIs entry_list_setitem ?_ (args_list_setitem _ _ _)))
 refine((aB (aB (YN r slice_no_index ?_))):aO _ _ _ _ _ s);refine bl (aB (Zg r ?_));refine aB (aB (ot h P rfl (aB (Zm .none (aB (ot h P rfl (aB (Zm .none (aB (ot h P rfl (aB (Zm .none (bl (L (show Builtin.List.listSameRef (.ref l) (.ref k)=aj from ro T) (aB (aB (Zg (⟨_,o,rfl⟩) ?_)))))))))))))))));first|refine aB (Zn o rfl (bl ?_))|refine(Zn o rfl ?_)
 refine aB (Zn e rfl (L (show anT _=aj from l1 (ez.mpr t)) ?_));obtain F:vs.toArray.extract 0 (Zo 0)++us.toArray++vs.toArray.extract (max 0 (O vs:ah)).toNat vs.toArray.size=us.toArray:=by simp
 refine aB (m:=YY l _) (YZ e rfl (aB (wpAny_letGo (bl ⟨_,rfl,bl (G _ (tA ..) ?_)⟩))) (L hT V) (L F (bA (bA (jJ ..) t) (hg _))));obtain j:=(PySem.IsL.update e λ xs:fE aq=>xs.extract 0 _++us.toArray++xs.extract (max 0 (O vs:ah)).toNat xs.size);rw[F]at j;exact⟨_,j⟩
theorem agA(K:cb x.F x.P)(v:aq)(a:V)(w:aq)(d:V)(P:ao):
  ag g x (λ α h=>a9 (x.P++α) α h v a/\a9 (x.P++α) α h w d/\h.IsSliceOf P .none .none .none) (λ u u u u=>True) (zF v (.ref P) w) (BR a d):=by
 intro α σ s o af I T p e Q E M he;obtain⟨N,X,b⟩:=p;refine nv e λ i c e=>oP e λ xs f e=>iA e λ wM j e=>BQ e λ A F e=>bN e λ jr e=>?_;obtain y:=bc (ak e);subst c j F;refine av N λ l z D=>L D ?_;obtain⟨g1,g2⟩:=bo jr;refine av (I.look z f) λ vs W R=>?_;obtain⟨Rz,hC⟩:=W;refine eg (aV.inv X) λ k us r agB G t=>L r ?_;obtain⟨nR,xT⟩:=G;refine agz hC xT b (λ q=>agB (q▸aW _ (eK z))) (L R.length (b8 g1)) (L R.length (L t.length (b8 g2))) λ h' n up=>?_;obtain C:=I.put K z n (m:=.ae A) λ o=>⟨_,up,t.mono o⟩;exact M _ _ _ s.toks α y.1.symm C.2 (ax y.2 C.1) T trivial
structure ix(g:bX)(jv:ai->U aq)(nm:ai)(f:ao):Prop where
 H7:jv nm=B (.ref f)
 fn:∃o,g.K.get? f=B o/\o.cls=.type "function"
 obj:∃y,rg (.type "object") nm=pure y
def sj(C:ao)(σ:aE)(a:V)(nm:ai):Bool:=(hA a λ i=>H4 σ[i]? λ c j=>bR (c==C) (H5 σ[j]? λ es=>bR (es.lookup nm).isNone (B ()))).isSome
def uS(C:ao)(nm:ai)(c:bV)(a:V)(as:H V):Ev Unit:=λ σ=>bR (sj C σ a nm) (((c (a::as) []).bind λ u=>.ret ()) σ)theorem BS(R:c0 P X α h α σ)(e:sj C σ a nm=S)(r:a9 X α h v a){GG:Prop}(k:∀l m,v=.ref l->h.InstFk l C m->m nm=aa->GG):GG:=by refine a7 (KO.mp e) λ u e=>(nv e λ i p e=>Rr e λ c j s e=>bN e λ A e=>Rt e λ es D e=>bN e λ W w=>?_);subst p;exact av r λ l z ev=>(la (instFk_of R (eq_of_beq A▸s) D z) λ b m w w V q1 w=>k l m ev V (q1 nm (zk.mp W)))
theorem R1(K:oB g C N X)(I:aG g x α σ s.heap)(j:s.heap.InstFk l C m)(G:Q k s):
  aO M A (sequenceKey (.ref l) k nm) Q E s:=by
 refine si (K.cls.keeps I.base) λ n q bs p sub c d r D o y T V=>(gF j λ t e h u=>?_);repeat (first|(with_reducible apply LA e;rw[h])|(with_reducible refine aox V ?_)|wp_step)
 exact G
theorem R2(K:oB g C N F)(M:ix g F nm f)(A:cK g f n c)(ok:eW g x n)(v:aq)(a:V)(G:H aq)(bs:H V):
  ag g x (λ α h=>a9 (x.P++α) α h v a/\bU (x.P++α) α h G bs) (λ u u r u=>r≠aa) (callSpecial? v nm G) (uS C nm c a bs):=by
 intro α σ s i af I dm p e Q E dp he;refine bN e λ dk e=>(BS I.bM dk p.1 λ l m W j u=>?_);subst W;obtain⟨fq,GX,d,t,os⟩:=s;exact wpAny_callSpecial?_own (si (K.cls.keeps I.base) λ X q bs sn sub k x3 lz fs gB kF p_ hF=>(av M.fn λ o P A=>a7 M.obj λ y x4=>gF j λ agC hj R u=>((pU agC o X q N bs _ (pU _ sn sub _ k x3 lz (pU fs gB kF p_ _ F y ⟨hj,R,hF,(K.cls.keeps I.base).ns,M.H7,I.base _ _ P,A,aoy,x4⟩)))))) (ag.mapR (post':=λ u u u u=>True) (A.call x ok _ _ [] []) (λ u u u u u=>trivial) α σ ⟨fq,GX,d,t,os⟩ i af I dm ⟨.cons p.1 p.2,.nil⟩ e _ E (λ b r h' el aA P st eX T u=>dp _ r h' el aA P st eX T λ q=>nomatch q) he)
theorem agE(K:oB g C N X)(M:ix g X "__setitem__" f)(A:cK g f n c)(ok:eW g x n)(v:aq)(a:V)(u:aq)(b:V)(w:aq)(d:V):
  ag g x (λ α h=>a9 (x.P++α) α h v a/\a9 (x.P++α) α h u b/\a9 (x.P++α) α h w d) (λ z z z z=>True) (zF v u w) (uS C "__setitem__" c a [b,d]):=by
 intro α σ s o af I T p e Q E G y;refine BS I.bM (bN e λ h z=>h) p.1 λ l m W j z=>?_;subst W;refine dT (aB (R1 K I j (aB (R2 K M A ok _ a [u,w] [b,d] α σ s o af I T ⟨p.1,.cons p.2.1 (.cons p.2.2 .nil)⟩ e _ _ (λ r R h' D aA i st F t P=>?_) y))));induction r with|none=>exact aS rfl P|some r=>exact bl (G _ _ h' D aA i st F t trivial)theorem aG.BU(I:aG g x α σ h):aG g {x with A:=A} α σ h:=⟨I.base,I.big,I.b2,I.alive,I.dv,I.c8,I.bM,I.fr,I.old⟩
theorem ExcAt.BU{lo:J}(q:ExcAt g {x with A:=A} lo α σ h e cl as):ExcAt g x lo α σ h e cl as:=
 q.rec λ Sq t vs l I r R dP u jq=>⟨Sq,t,vs,l,⟨I.base,I.big,I.b2,I.alive,I.dv,I.c8,I.bM,I.fr,I.old⟩,r,R,dP,u,jq⟩noncomputable def qs(C:ao)(vs:H aq):Code:=.builtin "type.__call__" ⟨.ref C::vs,[]⟩theorem agF(C:ao)(vs:H aq):(qs C vs).weight=1:=rfl
theorem agG(C:ao)(vs:H aq):(qs C vs).cUnits=1:=rfl
theorem agH(C:ao)(vs:H aq):(qs C vs).envs=[]:=rfl
theorem eW.agI(ok:eW g x (n+1))(C:ao)(vs:H aq):eW g {x with A:=x.A.under (qs C vs) } n:=by
 refine⟨ok.cY,ok.eu,?_,λ u=>ok.handled (fp n),?_,?_,ok.nolimit⟩
 ·show pushEnvs (qs C vs).envs x.A.frames=_
  rw[agH];exact ok.frames
 ·obtain this:=ok.depth
  show x.A.depth+(qs C vs).weight+n<_;rw[agF];lia
 ·obtain this:=ok.units
  show x.A.units+(qs C vs).cUnits+8*n+200<_;rw[agG];lia
section
variable {prog:KZ}{w:dg}{A:m7}{E:aq->aU->Prop}{h:aX}{ga:fE zb}{d:zc}{t:J}{os:eS}
theorem agJ(K:ClsAt h C N m)(z:m "__init__" =B (.ref f))(l:h.get? f=B o)(I:o.cls=.type "function")
  (G:aO (a5 prog w) (A.under (qs C rest)) (call (.ref f) (.ref (h.objs.size+1)::rest)) (λ r s'=>r=.none/\Q (.ref (h.objs.size+1)) s') E
    ⟨(h.push {cls:=.type "dict",data:=.dict #[] }).push {cls:=.ref C,dict:=B h.objs.size,data:=.plain},ga,d,t,os⟩):
  aO (a5 prog w) A (call (.ref C) rest) Q E ⟨h,ga,d,t,os⟩:=by
 refine hx K.obj λ nm q bs sn r=>hx r λ sub a x3 lz r=>hx r λ fs gB kF p_ V=>?_;have f1:=tc_lookup;have f2:=tc_bind (.ref C);have jo:(⟨h,ga,d,t,os⟩:aU).TypeIs (.ref C) "type" :=⟨_,V,rfl⟩;refine Ln (Ei ?_);show aO _ _ (callAny (.ref C) _) _ _ _;repeat (any_goals (first|assumption|with_reducible refine LA V ?_|wp_step))
 refine⟨rfl,codeAny_call_builtin_at (Lx _ (by decide+kernel)) entry_typeCall (wpAny_check_type_call_sub V ?_)⟩;have F:=PySem.F.objNew;repeat (first|with_reducible refine LA V ?_|with_reducible refine wpAny_madeBy_exc V ?_|wp_step)
 refine codeAny_call_builtin_code (Lx _ F.quiet) (wpAny_check_obj_new F V (codeAny_obj_new F V K.ns z ?_));generalize g:(h.push {cls:=.type "dict",data:=.dict #[] }).push {cls:=.ref C,dict:=B h.objs.size,data:=.plain} =j at G ⊢;have x:∀b o,h.get? b=B o->j.get? b=B o:=λ b o e=>g▸dy _ (dy _ e);have g2:j.get? (h.objs.size+1)=B {cls:=.ref C,dict:=B h.objs.size,data:=.plain} :=by subst g;heap_get
 have v:(hP C:: [D7 "object"]).contains (.ref C)=true:=by simp
 have P:rg (.type "object") "__init__" =pure (B (.builtin "object.__init__")):=by rw[k1,builtinLookup_eq_fast];lk
 show aO _ _ _ _ _ _;unfold isInstance;repeat (first|with_reducible refine LA g2 ?_|(with_reducible refine aox (x _ _ V) ?_;rw[v])|wp_step)
 show aO _ _ (rg (.ref C) _) _ _ _;refine wpAny_typeLookup_exc (x _ _ V) (K.ns.keeps x) aoy P ?_;rw[z];refine dT (aB (wpAny_bindSpecial_def (s:=⟨j,ga,d,t,os⟩) (x _ _ l) I ?_))
 first
  |refine aB (hS G (λ r s' R=>?_) λ u u y=>y)|refine bl (aB (hS G (λ r s' R=>?_) λ u u y=>y))
 obtain⟨rfl,xQ⟩:=R;wp_walk;exact xQ
end
def R4(j:J)(p:Res V×aE):U (Res V×aE):=match p.1 with
 |.ok a=>hi a λ d=>(match d with
  |.none=>B (.ok (.aH j),p.2)|_=>aa)
 |.exc cl es=>B (.exc cl es,p.2)def BV(C:ao)(c:bV):bV:=λ as ks σ=>bR ks.isEmpty ((c (.aH (O σ+1)::as) [] (σ++ [.fld []]++ [.inst C (O σ)])).bind (R4 (O σ+1)))
theorem R5(e:R4 j (r,gO)=B q){G:Prop}(k:r=.ok (.d .none)->(.ok (.aH j),gO)=q->G)(K:∀cl es,r=.exc cl es->(.exc cl es,gO)=q->G):G:=by
 induction r with
 |exc cl es=>exact K cl es rfl (ak e)
 |ok a=>
  refine iA e λ d h e=>?_;rcases d with _|_|_|_|_|_|_|_|_|_|⟨_,_⟩;case none=>exact k (aM Res.ok h) (ak e)
  all_goals exact nn e
theorem aG.agK(I:aG g x α σ f)(C:ao):aG g x (α++ [f.objs.size]++ [f.objs.size+1]) (σ++ [.fld []]++ [.inst C (O σ)]) ((f.push {cls:=.type "dict",data:=.dict #[] }).push {cls:=.ref C,dict:=B f.objs.size,data:=.plain})/\a_ x.F x.W α f (α++ [f.objs.size]++ [f.objs.size+1]) ((f.push {cls:=.type "dict",data:=.dict #[] }).push {cls:=.ref C,dict:=B f.objs.size,data:=.plain})/\(α++ [f.objs.size]++ [f.objs.size+1])[O σ+1]?=B (f.objs.size+1)/\
  ∀b o,f.get? b=B o->b∉x.P++α->((f.push {cls:=.type "dict",data:=.dict #[] }).push {cls:=.ref C,dict:=B f.objs.size,data:=.plain}).get? b=B o/\b∉x.P++(α++ [f.objs.size]++ [f.objs.size+1]):=by
 obtain p:=I.new {cls:=.type "dict",data:=.dict #[] } (.fld []) ⟨λ u=>aa,Heap.Ns1.of_empty (e_ _ _ _ ⟨LB rfl rfl,rfl,λ e y=>aS y (Array.not_mem_empty e),λ u=>rfl⟩),⟨_,LB rfl rfl,rfl,rfl⟩,λ u u=>rfl,λ u u e=>nn e⟩;obtain W:=p.1.new {cls:=.ref C,dict:=B f.objs.size,data:=.plain} (.inst C (O σ)) ⟨f.objs.size,ax I.bM.length (iD h6),LB rfl rfl⟩;obtain i:=λ b o e n=>rW (α:=α++ [f.objs.size]) {cls:=.ref C,dict:=B f.objs.size,data:=.plain} b o (rW {cls:=.type "dict",data:=.dict #[] } b o e n).1 (rW {cls:=.type "dict",data:=.dict #[] } b o e n).2;rw[(er ..)]at W i;refine⟨W.1,p.2.1.trans W.2.1,?_,i⟩;obtain m:=h6;rw[e2]at m;rw[<-I.bM.length];exact m
theorem agL(K:oB g C N X)(M:ix g X "__init__" f)(F:cK g f n c)(ok:eW g x (n+1)):eN g x (.ref C) (λ as=>BV C c as []):=by
 intro vs as;intro α σ s k af I G p e Q E r y;refine av M.fn λ o i q=>b3 e λ z R e=>(agJ (K.cls.keeps I.base) M.H7 (I.base _ _ i) q ?_);obtain W:=I.agK C;refine F.call {x with A:=x.A.under _} (ok.agI C vs) _ (.aH _::as) [] [] _ _ {s with heap:=_} z.1 z.2 W.1.BU G ⟨.cons ⟨_,W.2.2.1,rfl⟩ (bU.mono (aA:=α++ [s.heap.objs.size]++ [s.heap.objs.size+1]) p W.2.2.2 ⟨[s.heap.objs.size]++ [s.heap.objs.size+1],eb ..⟩),.nil⟩ R _ _ (λ v a h' D aA i st b T P=>?_) λ l cl es h' D aA i st T V=>?_
 ·refine R5 e (λ m e=>?_) λ cl es m=>nomatch i.symm.trans m
  simp[Res.ok.inj (Y i.symm m)]at P;obtain e:=bc e;exact L (aV.inv P) (av st.ext λ β j u=>(⟨rfl,r _ _ h' D aA e.1.symm (W.2.1.trans st) (e.2▸b.BU) T ⟨_,L j (iD W.2.2.1),rfl⟩⟩))
 ·refine R5 e (λ m=>nomatch i.symm.trans m) λ Qy nF m e=>?_
  have e:=bc e;exact y l cl es h' D aA (Y e.1.symm (Y m.symm i)) (W.2.1.trans st) T (ExcAt.low W.2.1.size (ax e.2 V.BU))
theorem H8{A Bq:Type}{f:A->Bq}{q:Bq->aF}(h:∀a,q (f a)=aj):∀l:H A,(l.map f).any q=aj
 |[]=>rfl|a::l=>by refine(?_:(q _|| (l.map f).any q)=aj);rw[h,H8 h l];rfl
theorem agM(K:oB g C N m)(M:ix g m "__init__" f)(G:cK g f n c):xG g C (n+1) (BV C c):=by
 intro x env ρ y P ay ms ks l h R first F
 simp[PQ];obtain i:∀(b:Args)(q:H V×H V),ag g x (λ α h=>bU _ α h _ _/\c1 (x.P++α) α h b.kw ((ks.map (·.1)).zip q.2)) _ (call _ _ b.kw) (BV C c _ ((ks.map _).zip q.2)):=λ b q=>by
  generalize (ks.map _).zip q.2=W;induction W with
  |cons=>exact .au
  |nil=>induction b.2 with
   |cons=>exact λ u u u u u u u p=>nomatch p.2
   |nil=>exact λ α σ s o af I D p=>agL K M G y.ok _ _ α σ s o af I D p.1
 refine ag.bind (Hg y h R first F).holding λ b q=>ag.standAt ?_;intro α σ s o af I D p e Q E X he;refine si (K.cls.keeps I.base) λ nm OF bs sn sub col x3 lz fs gB kF p_ hF=>?_;rw[H8 (λ u=>rfl),H8 (λ u=>rfl)];exact aB (wpAny_keeperOf_exc hF (aB (i b q α σ s o af I D p e _ _ (λ v r h'' j T dw a k z AI=>aB (dT (Lp (bl (X v r h'' j T dw a k z AI))))) he)))noncomputable def pV:fE Nat:= #[14,10,4,1,1,22,0,31,16,127,0,13,7,22,0,31,16,127,0,1]noncomputable def l8:fE Nat:= #[14,14,4,1,1,9,4294966783,0,0,2147483648,0,0,0,0,0,13,11,9,4294966783,0,0,2147483648,0,0,0,0,0,1]noncomputable def nT(c:J):Bool:=aZ c 31||c==127
noncomputable def eZ(c:J):Bool:=c<256&&([4294966783,0,0,2147483648,0,0,0,0].getD (c/32) 0).testBit (c% 32)
section
open Sre
structure x5(code:fE J)(body:J)(p:J->aF):Prop where
 first:∀c sn,∃qt,inSet code c code.size 5 S sn=.ok (p c,qt)
 again:∀c sn,∃qt,inSet code c code.size (body+2) S sn=.ok (p c,qt)
 h0:ops[code.getD 0 0]?=B .INFO
 c5:1+code.getD 1 0=body
 cw:code.getD 2 0=4
 cZ:code.getD 3 0=1
 H9:ops[code.getD body 0]?=B .IN
 succ:ops[code.getD (body+(1+code.getD (body+1) 0)) 0]?=B .SUCCESS
 size:body+(1+code.getD (body+1) 0)<code.size
noncomputable def BW(c:J)(s:nd):Except b1 (aF×nd):=if (decide (0<=c)&&decide (c<=31))=S then .ok (S,s.add 22)else if (c==127)=S then .ok (S,(s.add 22).add 16)else .ok (aj,((s.add 22).add 16).add 0)theorem R6(c:J)(s:nd):(inSet pV c pV.size 5 S s,inSet pV c pV.size 13 S s)=(BW c s,BW c s):=rfl
theorem R7(c:J)(N:nd):∃s,BW c N=.ok (nT c,s):=by delta BW nT;cases h:aZ c 31 with|true=>exact⟨_,bC ((gJ (b8 h)))⟩|false=>refine L (a6 (by rw[l1 λ q=>bw (Y h.symm (dD q)),Bool.and_false];exact hN)) ?_;induction c==127 with|true=>exact⟨_,rfl⟩|false=>exact⟨_,rfl⟩def BX(i c:J)(s:nd):Except b1 (aF×nd):=if (decide (c<256)&&(l8.getD (i+(1+c/32)) 0).testBit (c% 32))=S then .ok (S,s.add 9)else .ok (aj,(s.add 9).add 0)theorem R8(c:J)(s:nd):(inSet l8 c l8.size 5 S s,inSet l8 c l8.size 17 S s)=(BX 5 c s,BX 17 c s):=rfl
theorem R9(i c:J)(N:nd)(t:∀k,k<8->l8.getD (i+(1+k)) 0=[4294966783,0,0,2147483648,0,0,0,0].getD k 0):∃s,BX i c N=.ok (eZ c,s):=by
 obtain e:eZ c=(decide _&&(l8.getD (i+(1+c/32)) 0).testBit _):=by
  unfold eZ;by_cases h:c<256
  ·rw[t _ (LC h)]
  ·rw[l1 h,aoz,aoz]
 unfold BX;refine ax e ?_;induction eZ c with|true=>exact⟨_,rfl⟩|false=>exact⟨_,rfl⟩
theorem admit{code:fE J}(o:x5 code body p)(m:Sre.M)(r:m.code=code)(z:m.lim=m.text.size):∀(f s:J)(N:nd),m.lim+1-s<=f->
  ∃E,M.admitted m f s N=.ok (aa,E)/\((m.text.toList.drop s).any p=aj)\/∃k,M.admitted m f s N=.ok (B k,E)/\k<m.lim/\p (m.text.getD k 0)=S/\((m.text.toList.drop s).any p=S)
 :=by
  have nil:∀{s},m.lim<=s->(m.text.toList.drop s).any p=false:=λ h=>L (Zp (bA (fV z.symm) h)) rfl;intro f;induction f with
  |zero=>exact λ s N h=>⟨N,.inl ⟨rfl,nil (jN (aoA (Nat.le_zero.mp h)))⟩⟩
  |succ f i=>
   intro s N h;dsimp only[M.admitted];by_cases b:s>=m.lim
   ·exact L (bC b) ⟨N,.inl ⟨rfl,nil b⟩⟩
   ·refine L (a6 b) ?_
    have b:=Yd b;refine a7 (o.first _ N) λ E e=>r.symm▸(e.symm▸?_);have l:(m.text.toList.drop s).any p=(p (m.text.getD s 0)|| (m.text.toList.drop (s+1)).any p):=by have q:=anW b z;refine L (KJ q) ?_;simp[Array.getD,q]
    refine L l ?_;cases u:p _ with|true=>exact⟨E,.inr ⟨s,rfl,b,u,rfl⟩⟩|false=>exact i _ E (aoB h 1)noncomputable def mE(code t:fE J)(e l b c d:J)(f:H Sre.Frame)(w:J)(a:U aF)(s:nd):Sre.M:=⟨code,t,t.size,l,e,aj,aj,b,c,d,S,Array.replicate (2*0) aa, -1, -1, #[],aa,f,w,a,s,aa⟩
theorem agN{m F uT:Sre.M}(h:m.outcome=aa)(e:m.step=F)(W:F.outcome=aa)(E:F.step=uT):M.runFor 4 m=M.runFor 2 uT:=by
 conv=>lhs;dsimp only[M.runFor]
 rw[h,e,W,E];rfl
theorem agO{code:fE J}(o:x5 code body p)(h:k<t.size)(u:p (t.getD k 0)=S)(N:nd):
  (((mE code t t.size 0 body 0 0 [] 0 aa N).attemptAt k S).runFor 4).outcome=B .matched:=by
 refine a7 (o.again (t.getD k 0) (N.add (code.getD body 0))) λ qt e=>?_;rw[u]at e;have I:itemWidth code body=1+code.getD (body+1) 0:=by unfold itemWidth;exact L o.H9 rfl
 have ac:accepts code body (t.getD k 0) (N.add (code.getD body 0))=.ok (S,qt):=by dsimp only[accepts];exact L o.H9 e
 have f:(mE code t t.size k body k k [{wait:=.nextStart,pc:=body,pos:=k,outermost:=S}] 1 aa N).step=mE code t t.size k (body+(1+code.getD (body+1) 0)) (k+1) k [{wait:=.nextStart,pc:=body,pos:=k,outermost:=S}] 1 aa qt:=by dsimp only[M.step,mE];simp only[aoC,aoD,YR,bC (gf (gK ..) o.size)];unfold M.exec M.word;simp only[rb,o.H9,a6 (anC h),ac,I]
 have W:(mE code t t.size k (body+(1+code.getD (body+1) 0)) (k+1) k [{wait:=.nextStart,pc:=body,pos:=k,outermost:=S}] 1 aa qt).step=mE code t t.size k (body+(1+code.getD (body+1) 0)) (k+1) (k+1) [{wait:=.nextStart,pc:=body,pos:=k,outermost:=S}] 1 (B S) (qt.add (code.getD (body+(1+code.getD (body+1) 0)) 0)):=by dsimp only[M.step,mE];simp only[aoC,aoD,YR,bC o.size];delta M.exec M.word M.say;simp only[rb,o.succ];rfl
 exact Y (aM M.outcome (agN rfl f rfl W)) rfl
theorem agP(n:J)(m:Sre.M)(h:(m.runFor 4).outcome.isSome=S):Builtin.Re.reDrive (n+1) m=pure (m.runFor 4):=Y (bC h) rfl
theorem agQ{m:M}(f:m.hasFirstSet=S)(h:M.admitted m (m.lim+1-s) s m.seen=.ok (aa,N)):m.attemptFrom s S=M.say {m with seen:=N} false:=by unfold M.attemptFrom;exact L f (L h rfl)
theorem agR{code:fE J}{body:J}{p:J->aF}(o:x5 code body p)(t:fE J):
  (((forSearch code t 0 0 t.size aj).runFor 4).outcome=B .failed/\t.toList.any p=aj)\/(((forSearch code t 0 0 t.size aj).runFor 4).outcome=B .matched/\t.toList.any p=S):=by
 obtain g:header code=(1,body):=by unfold header;simp only[o.h0,o.c5,o.cZ]
 generalize T:(if (header code).2==0 then{}else({} :nd).add 14)=s;obtain e:forSearch code t 0 0 t.size aj=(if decide _||decide _ then
   M.say _ aj
   else M.attemptFrom (mE code t _ 0 (header code).2 0 0 [] 0 aa s) 0 S):=by
  exact ax T rfl
 rw[e,g];by_cases d:t.size=0
 ·left
  obtain this:=Array.eq_empty_of_size_eq_zero d;exact L this ⟨rfl,rfl⟩
 ·obtain gm:=l1 (zo t.size)
  rw[gm,(l1 (by lia)),a6 y3];refine L (a6 (ne_true_of_eq_false gm)) ?_;have F:(mE code t t.size 0 body 0 0 [] 0 aa s).hasFirstSet=true:=by delta M.hasFirstSet mE;dsimp only;rw[o.h0,o.cw];rfl
  rcases admit o (mE code t t.size 0 body 0 0 [] 0 aa s) rfl rfl _ 0 s (bH _)with⟨E,⟨r,R⟩|⟨k,r,R,dP,u⟩⟩
  ·exact .inl ⟨aM (λ m=>(M.runFor 4 m).outcome) (agQ F r),R⟩
  ·exact .inr ⟨Y (aM _ ((by
    dsimp only[M.attemptFrom];exact L F (L r rfl)))) (agO o R dP E),u⟩
end
structure tQ(g:bX)(a:ao)(code:fE J):Prop where
 ex:∃o ws t xw items n,g.K.get? a=B o/\o.cls=.type "re.Pattern" /\o.dict=aa/\o.data=.fields ws/\aoE (ws.getD 2 .none)=0/\aoE (ws.getD 6 .none)=0/\ws.getD 5 .none=.ref t/\
  g.K.get? t=B xw/\xw.data=.seq items n/\(items.map Builtin.Re.reRawOf).map (·.toNat)=code
theorem R_:Slot "re.Pattern" "search" "re.Pattern.search" :=
 .of (owner:="re.Pattern") (n:="search") (by rw[k1];lk) (by decide+kernel) (by decide+kernel) (by decide+kernel)
  (by first|exact .inl _|exact .inr (by decide+kernel)) (by rw[wa];lk)theorem agS(a b:aq):wb "re.Pattern.search" ⟨[a,b],[]⟩:=by unfold wb;lk
theorem H_(c:J->aF)(nm:J->b1)(h:Q ⟨⟩ s):∀l:H J,
  aO M A (forIn (m:=bj) l (⟨⟩:zd) λ i u=>if c i then(do rule (nm i);pure (.yield ⟨⟩))else pure (.yield ⟨⟩)) Q E s
 |[]=>bl h|i::l=>by refine AR (kZ ..) (aB ?_);induction c i with|true=>exact aB (tq (bl (H_ c nm h l)))|false=>exact bl (H_ c nm h l)
theorem agT(i:(m.runFor 4).outcome=B .failed/\Q aa s\/(m.runFor 4).outcome=B .matched/\Q (B (m.runFor 4)) s):
  aO M A (aoF m) Q E s:=by
 unfold aoF;refine L (agP _ m (by rcases i with⟨h,_⟩|⟨h,_⟩<;>rw[h]<;>rfl)) ?_;generalize m.runFor 4=R at i;refine aB (bl (aB ?_));obtain f:aO M A (match R.outcome with
   |some .matched=>pure (B R)|some .failed=>pure aa|some (.stuck why)=>DP s!"_sre:{why}"|none=>DP "internal:sre:no-outcome") Q E s:=by
  rcases i with⟨h,q⟩|⟨h,q⟩<;>rw[h]<;>exact bl q
 exact H_ _ _ f _
theorem agU(v:aq):Builtin.Re.reNamed "re.Pattern.search" "search" ["string","pos","endpos"] 1 [v] []=pure [B v,aa,aa]:=rfl
noncomputable def agV(b:aF)(σ:aE):Res V×aE:=match b with|true=>(.ok (.aH (O σ)),σ++ [.jj])|false=>(.ok (.d .none),σ)def uU(r:ao->U (J->aF))(as:H V):Ev V:=λ σ=>two as λ a b=>(hi a (uR r)).bind λ p=>hi b (hB λ s=>bR (aZ s.cps.size 9223372036854775807) (B (agV (s.cps.toList.any p) σ)))
theorem agW
  (h:∀o:fe,o.cls=.type "re.Match" /\o.isFreed=aj->Q (.ref (s.heap.objs.size+1)) {s with heap:=(s.heap.push {cls:=.type "tuple",data:=.seq [gy m.start,gy m.handed].toArray}).push o}):
  aO M A (Builtin.Re.reNewMatch v u 0 p l m) Q E s:=aB (ku (ku (L (er ..) (h _ ⟨rfl,rfl⟩)) (by show 6<=kq+2;decide)) (by show 2<=kq;decide))
theorem agX(R:∀a p,z a=B p->∃code body,x5 code body p/\tQ g a code):eN g x (.builtin "re.Pattern.search") (uU z):=by
 intro vs as;intro α σ s l af I F p e Q E G he;refine nK e λ a b c T=>b3 T λ pr h T=>iA h λ agk P h=>BP h λ r V h=>iA T λ rZ C T=>mh T λ str es T=>bN T λ M dQ=>?_;subst c P V C es;obtain⟨v,u,rfl⟩:=Bb p;refine eM (R r _ h) λ code body D N=>(hx N.ex λ o ws t xw w=>la w λ i n c5 cw Ia fw K=>GC K λ ei kG nN agY W=>cq W λ Ib k=>cq ((oX p).inv) λ y _=>L y (a7 ((r7 p).inv) λ i0 q=>L q ?_));obtain j:=I.base _ _ c5;refine zx R_ ⟨o,j,cw⟩ (entryFor_of_tree rfl) (aB (aB (wpAny_of_eq (agU _) ((aB (LD j fw ?_)):aO _ _ _ _ _ _)))) (agS _ _);refine L kG ?_;show aO _ _ (Builtin.Re.reRawItems _>>=_) _ _ _;refine ax nN.symm (aB (aB (Ee (I.base _ _ agY) Ib (bl (bl (?_:aO _ _ (Builtin.Re.reAnswer _ (Sre.forSearch _ str.cps _ (min _ str.cps.size) (min _ str.cps.size) aj)) _ _ _))))));refine L k ?_;refine L ei ?_;obtain x6:min (Zo 0) str.cps.size=0:=Nat.zero_min _;rw[x6,(anh (b8 M):min (Zo (2^63-1)) str.cps.size=str.cps.size)];refine aB (agT ?_);rcases agR D str.cps with⟨f,da⟩|⟨f,dd⟩
 ·refine .inl ⟨f,?_⟩
  rw[da]at dQ;obtain T:=bc (ak dQ);exact bl ⟨_,rfl,G .none _ s.heap s.toks α T.1.symm (.refl ..) (ax T.2 I) F aV.none⟩
 ·refine .inr ⟨f,?_⟩
  rw[dd]at dQ;have T:=bc (ak dQ);generalize (Sre.forSearch code str.cps 0 0 str.cps.size aj).runFor 4=m;refine aB (agW λ o A=>?_);obtain X:=(I.keeps (λ b k8=>dy _) (L (er ..) (hg _))).new o .jj ⟨_,LB rfl A.2,A.1⟩;rw[er]at X;exact bl ⟨_,rfl,G _ _ _ s.toks _ T.1.symm ((.push .. :a_ x.F x.W α s.heap α (s.heap.push {cls:=.type "tuple",data:=.seq [gy m.start,gy m.handed].toArray})).trans X.2.1) (ax T.2 X.1) F X.2.2⟩noncomputable def Sa:Str:="Header names/values must be of type str (got {0})"
noncomputable def uV:Str:="Header names/values must be of type str (got None)"
theorem agZ(t T:Tok):Builtin.«str.format» ⟨[.str Sa t,.str "None" T],[]⟩=(mkStr uV>>=λ v=>pure (.done (.ret v))):=by lk
def uW(a:V):U Str:=hi a (hB B)theorem ag0(e:uW a=B s):a=.d (.str s):=iA e λ d h e=>mh e λ z f e=>L h (L f (L (ak e) rfl))theorem Ic(r:a9 X α h v a)(e:uW a=B s):∃t,v=.str s t:=by exact aV.inv (((ag0 e)▸r))def Sb(as:H V):Ev V:=λ σ=>two as λ a b=>(uW a).bind λ x=>(uW b).bind λ y=>bR (x==Sa&&y==("None" :ai)) (B (.ok (.d (.str uV)),σ))
def mF{A:Type}(d:D)(f:J->U A):U A:=iX (λ i=>match i with
 |.ofNat k=>f k|.negSucc _=>aa) d
theorem nU{A:Type}{f:J->U A}{r:A}(e:mF d f=B r){G:Prop}(k:∀n:J,d=.int n->f n=B r->G):G:=by
 rcases d with _|_|i|_|_|_|_|_|_|_|⟨_,_⟩;case int=>cases i with|ofNat n=>exact k n rfl e|negSucc n=>exact nn e
 all_goals exact nn e
def ag1(i:J)(xs:H D)(b v:V)(σ:aE):U (Res gL×aE):=hi b λ b=>mF b λ k=>hi v λ d=>bR (bE k (O xs)&&aZ (O xs) 16777216) (B (.ok (),σ.set i (.ae (xs.set k d))))def qu(a b v:V):Ev Unit:=λ σ=>hA a λ i=>match uW b with|some k=>nQ σ[i]? λ es=>(bR (mD es&&aZ (O es) 16777216) (B (.ok (),σ.set i (.fY (fc es k v)))))|none=>jU σ[i]? λ xs=>ag1 i xs b v σ
theorem bQ.set(r:aV X h v d){vs:H aq}(q:bT X h vs xs)(k:J):bT X h (vs.set k v) (xs.set k d):=
 q.ind (P:=λ vs xs=>∀k:J,bT X h (vs.set k v) (xs.set k d)) (λ u=>.nil) (λ u u u u a as i k=>by
  induction k with
  |zero=>exact .cons r as|succ k=>exact .cons a (i k)) k
theorem ag2:eN g x (.builtin "str.format") Sb:=by intro vs as;intro α σ s o af I t p e Q E G c;refine nK e λ a b y e=>b3 e λ X z e=>b3 e λ i q e=>bN e λ h e=>?_;obtain u:=bc (ak e);subst y;refine e4 p.nt λ _ vs w r p=>L w (e4 p.nt λ _ vs W V p=>L W ?_);cases p;obtain⟨_,rfl⟩:=Ic r z;refine a7 (Ic V q) λ _ T=>L T ?_;obtain h:=bo h;rw[eq_of_beq h.1,eq_of_beq h.2];exact zx aoG rfl PySem.F.entry_str_format_m (L (agZ ..) (aB (wpAny_mkStr (bl ⟨_,rfl,G _ _ s.heap _ α u.1.symm (.refl ..) (ax u.2 I) (ip t) (aV.str _ _)⟩) (by decide)))) (KFm.args_2 _ _)
theorem Sd(K:cb x.F x.P)(v:aq)(a:V)(u:aq)(b:V)(w:aq)(d:V):
  ag g x (λ α h=>a9 (x.P++α) α h v a/\a9 (x.P++α) α h u b/\a9 (x.P++α) α h w d) (λ z z z z=>True) (zF v u w) (qu a b d):=by
 intro α σ s o af I F p e Q E M he;obtain⟨mu,X,A⟩:=p;refine nv e λ i xa R=>?_;subst xa;refine av mu λ l c w26=>L w26 (rY (uW b) (λ k r=>?_) λ r=>?_)
 ·
  rw[r]at R;refine HY R λ es D e=>bN e λ T e=>?_;obtain y:=bc (ak e);refine cq (bo T) λ G j=>(av (HX (prog:=g.prog) G (I.look c D)) λ j6 hd BO=>?_);obtain⟨t,rfl⟩:=Ic X r;refine wpAny_setItem_pairs (qr.mpr ⟨t,rfl⟩) hd (λ h' n dd=>?_) (L BO.length (b8 j));obtain C:=I.put K c dd λ o=>Ri n ((BO.mono o eV).put (A.mono o eV));exact M _ _ h' _ α y.1.symm C.2 (ax y.2 C.1) (ip F) trivial
 ·
  simp[r]at R;refine oP R λ xs D e=>iA e λ rZ nA e=>nU e λ k xT e=>iA e λ uu xb e=>bN e λ T e=>?_;obtain y:=bc (ak e);subst nA xT xb;obtain⟨G,j⟩:=bo T;refine av (I.look c D) λ vs q P=>?_;obtain⟨N,hC⟩:=q;obtain hk:=P.length▸cg.mp G;refine a7 ((X).inv) λ _ w77=>L w77 ?_;obtain big:=P.length▸b8 j;refine ki_setAt hC (m2 k) (by show _<2^63;lia) (by show _<_;exact q8.mpr hk) ?_;obtain em:(zz (·.setIfInBounds (Int.ofNat k).toNat w)) (W.listOf vs.toArray N)={cls:=.type "list",data:=.seq (vs.set k w).toArray N} :=by simp[zz]
  obtain C:=I.put K c (m:=.ae _) (tA ..) λ o=>⟨_,⟨N,L (Eh _ hC (aM _ em)) (L em rfl)⟩,(P.mono o).set (aV.mono A o) k⟩;exact M _ _ _ s.toks α y.1.symm C.2 (ax y.2 C.1) F trivial
noncomputable def qv:Pos:=⟨0,0,0,0⟩def rR:PySem.Expr:=.Constant .none 0 qv
structure SP where
 es:H aJ
 bs:H (H bx)
 p:cP
 nm:Str:=""
 z7:Arguments:=⟨[],[],aa,[],[],aa,[]⟩
 sc:Scope:=KL.main.scope
 dd:H ExceptHandler:=[]
def jf:bx->SP:=stK {es:=[],bs:=[],p:=qv}
   (λ n a b u u u s u u p=>⟨[],[b],p,n,a,s,[]⟩)
   (λ n u u b u u s u u u p=>{es:=[],bs:=[b],p:=p,nm:=n,sc:=s})
   (λ e p=>{es:=e.toList,bs:=[],p:=p})
   (λ u u=>{es:=[],bs:=[],p:=qv})
   (λ ay e p=>{es:=e::ay,bs:=[],p:=p})
   (λ t i b o p=>{es:=[i,t],bs:=[b,o],p:=p})
   (λ t b o p=>{es:=[t],bs:=[b,o],p:=p})
   (λ u u u=>{es:=[],bs:=[],p:=qv})
   (λ b h o f p=>{es:=[],bs:=[b,o,f],p:=p,dd:=h})
   (λ e p=>{es:=[e],bs:=[],p:=p})
structure ag3 where
 es:H aJ
 p:cP
 sc:Scope:=KL.main.scope
 o8:H Comprehension:=[]
 ks:H (U aJ):=[]
 nm:Str:=""
 c:Const:=.none
 z:Nat:=0
def fI:aJ->ag3:=Oh {es:=[],p:=qv}
   (λ u es p=>{es:=es,p:=p})
   (λ l u r p=>{es:=[l,r],p:=p})
   (λ u u u=>{es:=[],p:=qv})
   (λ t a b p=>{es:=[t,a,b],p:=p})
   (λ ks vs p=>{es:=vs,p:=p,ks:=ks})
   (λ e g s p=>{es:=[e],p:=p,sc:=s,o8:=g})
   (λ l u R p=>{es:=l::R,p:=p})
   (λ f as u p=>{es:=f::as,p:=p})
   (λ c z p=>{es:=[],p:=p,c:=c,z:=z})
   (λ u u u=>{es:=[],p:=qv})
   (λ v i p=>{es:=[v,i],p:=p})
   (λ n p=>{es:=[],p:=p,nm:=n})
   (λ u u=>{es:=[],p:=qv})
   (λ es u p=>{es:=es,p:=p})def hz(k:J)(s:bx):PySem.Expr:=(jf s).es.getD k rR
def sB(k:J)(s:bx):H Stmt:=(jf s).bs.getD k []def iu(k:J)(e:aJ):PySem.Expr:=(fI e).es.getD k rR
def bP:bx->H Stmt:=sB 0
def bz(s:bx):Scope:=(jf s).sc
def eU(s:bx):H Str:=(jf s).z7.args.map (·.arg)def tU(s:bx):H Str:=(jf s).z7.kwonlyargs.map (·.arg)def ML(s:bx):Str:=(jf s).nm
noncomputable def aY(k:J):Stmt:=KL.main.body.getD k (.Pass ⟨0,0,0,0⟩)def clsAt(k j:J):Stmt:=(bP (aY k)).getD j (.Pass ⟨0,0,0,0⟩)
noncomputable def BY(p:cP):Bool:=(aL p.line 147&&aL p.col 15)|| (aL p.line 183&&aL p.col 54)|| (aL p.line 231&&aL p.col 15)|| (aL p.line 268&&(aL p.col 19||Nat.beq p.col 23))||
 (aL p.line 284&&aL p.col 12)|| (aL p.line 290&&aL p.col 20)noncomputable def gZ:Addr:=319
noncomputable def BZ:Addr:=123
noncomputable def rD:Addr:=134
noncomputable def tR:Addr:=191
noncomputable def tS:Addr:=196
noncomputable def tP:Addr:=211
noncomputable def nV:Addr:=218
noncomputable def l7:Addr:=232
noncomputable def nh:Addr:=237
noncomputable def uX:Addr:=266
noncomputable def x7:Addr:=276
noncomputable def x8:Addr:=309
noncomputable def Se:Addr:=94
noncomputable def Sf:Addr:=101
noncomputable def Ie:Addr:=133
inductive Kind where|plain (bf:Mode)|opt (bf:Mode)|kw
def wA:H (ao×Kind×bx):=[(45,.plain .plain,aY 6),(52,.plain .plain,aY 7),(59,.plain .plain,aY 8),(66,.plain .plain,aY 9),(73,.plain .plain,aY 10),
 (80,.plain .plain,aY 13),(108,.plain .plain,aY 17),(115,.plain .plain,aY 18),(179,.plain .plain,aY 23),(186,.plain .plain,aY 24),
 (tP,.opt .keep,clsAt 28 0),(nV,.kw,clsAt 28 1),(l7,.plain .plain,clsAt 28 3),(nh,.plain .plain,clsAt 28 4),(uX,.opt .plain,clsAt 28 8),(x7,.plain .fresh,clsAt 28 10),(x8,.plain .plain,clsAt 28 15),
 (330,.plain .plain,aY 30),(335,.plain .plain,aY 31),(340,.plain .plain,aY 32),(345,.plain .plain,aY 33),(350,.plain .plain,aY 34),(355,.plain .plain,aY 35),(360,.plain .plain,aY 36),(365,.plain .plain,aY 37),(370,.plain .plain,aY 38)]noncomputable def ag4:kC:=[("_wall",.obj 38),("ONE_THIRD",.aR 0x3fd5555555555555),("ONE_SIXTH",.aR 0x3fc5555555555555),("TWO_THIRD",.aR 0x3fe5555555555555),("rgb_to_hls",.obj 45),("hls_to_rgb",.obj 52),("_v",.obj 59),("rgb_to_hsv",.obj 66),("hsv_to_rgb",.obj 73),("_DIV_LIMIT",.int 4000),("_div2n1n",.obj 80),("_div3n2n",.obj 87)]def ag6:kC:=[("_int2digits",.obj 94),("_digits2int",.obj 101),("_divmod_pos",.obj 108),("int_divmod",.obj 115),("b1_set",.obj BZ),("in_table_b1",.obj Ie),("b3_exceptions",.obj rD),("map_table_b3",.obj 179),("in_table_c11",.obj 186),("_name_disallowed_re",.obj tR),("_value_disallowed_re",.obj tS),("Headers",.obj gZ)]noncomputable def ag7:kC:=[("_law_figures",.obj 330),("_law_rows",.obj 335),("_law_vote",.obj 340),("_law_read",.obj 345),("_law_chair",.obj 350),("_law_light",.obj 355),("_law_told",.obj 360),("_law_waves",.obj 365),("law",.obj 370),("max",.bi "max"),("min",.bi "min"),("len",.bi "len")]noncomputable def ag8:kC:=[("ord",.bi "ord"),("chr",.bi "chr"),("divmod",.bi "divmod"),("abs",.bi "abs"),("sum",.bi "sum"),("isinstance",.bi "isinstance"),("repr",.bi "repr"),("int",.ty "int"),("str",.ty "str"),("list",.ty "list"),("range",.ty "range"),("reversed",.ty "reversed")]noncomputable def ag9:kC:=[("enumerate",.ty "enumerate"),("zip",.ty "zip"),("type",.ty "type"),("bool",.ty "bool"),("float",.ty "float"),("ValueError",.ty "ValueError"),("AssertionError",.ty "AssertionError"),("ZeroDivisionError",.ty "ZeroDivisionError")]def ee:kC:=ag4++ag6++ag7++ag8++ag9
def mG(a:ao):U (J->aF):=match a==tR with|true=>B nT|false=>match a==tS with|true=>B eZ|false=>aa
noncomputable def coI:vV->ah
 |.int i=>i|_=>0
noncomputable def coS:vV->ai
 |.str s=>s|_=> ""
def Am(k:U aJ):Int:=coI (fI (k.getD rR)).c
def An(v:aJ):Str:=coS (fI v).c
def rC:H (ah×ai):=(((fI (hz 0 (aY 22))).ks.map Am).zip ((fI (hz 0 (aY 22))).es.map An))def ni(a:ao):U (H (ah×ai)):=match a==rD with|true=>B rC|false=>aa
def Ig(as:H V):Ev V:=λ σ=>match e5 uH as σ with|some r=>B r|none=>e5 BK as σ
def biL:H (b1×(H V->Ev V)):=[("len",e5 λ d=>(xq d).map D.int),("ord",e5 λ d=>(xr d).map D.int),("chr",e5 Pr),("divmod",G9 Bc),("abs",e5 PE),("sum",e5 lu),("max",BH .Gt),("min",BH .Lt),("isinstance",af1),("repr",e5 af2),("int.bit_length",e5 BL),("list.append",qq),("list.reverse",BM),("str.join",Rc),("str.lower",e5 lC),("str.upper",e5 Q_),("str.index",af5),("tuple.index",Rd),("list.index",af6),("dict.get",Rm ni),("str.format",Sb),("re.Pattern.search",uU mG)]def tyL:H (b1×(H V->Ev V)):=[("int",e5 intD),("str",Ig),("list",HQ),("range",A_),("reversed",Pu),("enumerate",xW),("zip",o9),("type",e5 λ d=>(wq d).map D.ty)]def Ih(id:b1):U (H V->Ev V):=biL.lookup id
def Sg(id:b1):U (H V->Ev V):=tyL.lookup id
def nW(m:U (H V->Ev V))(as:H V):Ev V:=match m with|some f=>f as|none=>.au
noncomputable def Sh:H (b1×ai×b1):=[("str","join","str.join"),("str","lower","str.lower"),("str","upper","str.upper"),("str","index","str.index"),("str","format","str.format"),
 ("list","append","list.append"),("list","reverse","list.reverse"),("list","index","list.index"),("tuple","index","tuple.index"),("int","bit_length","int.bit_length"),("re.Pattern","search","re.Pattern.search"),("dict","get","dict.get")]def rB:H (ai×ao):=[("_convert_string_type",nV),("get",uX),("values",x7),("setdefault",x8)]def Si(T:b1)(nm:ai):U String:=(Sh.find? λ p=>p.1==T&&p.2.1==nm).map (·.2.2)
def uY(σ:aE)(a:V):U String:=match a with
 |.d d=>match d with
  |.str _=>B "str"|.ae _=>B "list"|.aD _=>B "tuple"|.int _=>B "int"
  |.obj a=>match mG a with
   |some _=>B "re.Pattern"
   |none=>match ni a with
    |some _=>B "dict"|none=>aa
  |_=>aa
 |.aH i=>match σ[i]? with|some (.ae _)=>B "list"|some (.fY _)=>B "dict"|_=>aa
def uZ(σ:aE)(a:V)(nm:ai):U o6:=match uY σ a with|some T=>(Si T nm).map .bi|none=>match sj gZ σ a nm with|true=>(rB.lookup nm).map .fn|false=>aa
def u0(ct:ao->U bV)(σ:aE)(a:V)(nm:ai):U o6:=match uZ σ a nm with
 |some (.fn f)=>match ct f with
  |some _=>B (.fn f)|none=>aa
 |t=>t
def ag_(ct:ao->U bV)(a b v:V):Ev Unit:=λ σ=>match sj gZ σ a "__setitem__" with
 |true=>match ct l7 with
  |some c=>uS gZ "__setitem__" c a [b,v] σ|none=>aa
 |false=>qu a b v σ
def aha(ct:ao->U bV)(a b:V):Ev Unit:=match ct nh with|some c=>uS gZ "__delitem__" c a [b]|none=>.au
def eG(ct:ao->U bV):Cfg where
 gl:=ee
 ct:=ct
 bi:=λ id=>nW (Ih id)
 ty:=λ id=>nW (Sg id)
 ms:=u0 ct
 attr:=agr gZ
 item:=lD
 set:=ag_ ct
 o7:=BR
 setattr:=Ru gZ
 del:=aha ct
 loops:=S
 bf:=BY
 fuel:=1000
def fj:Cfg where
 gl:=ee
 ct:=λ u=>aa
 bi:=λ u u=>.au
 ty:=λ id=>nW ([("str",e5 BK)].lookup id)
 ms:=λ u u u=>aa
 attr:=λ u u=>.au
 item:=λ u u=>.au
 set:=λ u u u=>.au
 o7:=λ u u=>.au
 setattr:=λ u u u=>.au
 del:=λ u u=>.au
 loops:=aj
 bf:=λ u=>aj
 fuel:=0
def lE(k:Kind)(st:bx)(m:az->cy):bV:=λ as ks=>match k with
 |.plain bf=>nM bf (eU st) m as ks
 |.opt bf=>match aL (O as+1) (O (eU st))with
  |true=>nM bf (eU st) m (as++ [.d .none]) ks|false=>nM bf (eU st) m as ks
 |.kw=>match(O as)==O (eU st)&&ks.map (·.1)==tU st with|true=>ia .plain (m ((eU st).zip as++ks).reverse)|false=>.au
noncomputable def dB(n:J)(bS:J)(cG:J):H D:=bS.rec (motive:=λ u=>J->H D) (λ u=>[]) (λ c dF x=>.int (x% 2^n:J)::dF (x/2^n)) cG
noncomputable def aQ(a:J):Nat:=if a==0 then 0 else a.log2+1
def b6(a n:J):Nat:=(aQ a+n-1)/n
noncomputable def lF:Str:="_int2digits.<locals>.inner"
noncomputable def mH:Str:="_digits2int.<locals>.inner"
noncomputable def u1(p l c:J)(q:ai)(o:U cj):Bool:=match o with
 |some m=>match m with
  |.tab P l' c' Q=>P==p&&(l'==l&&(c'==c&&Q==q))|_=>aj
 |none=>aj
theorem B0(h:u1 p l c q o=S):o=B (.tab p l c q):=by
 rcases o with _|m
 ·exact bw h
 ·induction m with|tab P l' c' Q=>have W:=bo h;have j:=bo W.2;have v:=bo j.2;simp[eq_of_beq W.1,eq_of_beq j.1,eq_of_beq v.1,eq_of_beq v.2]|_=>exact bw h
def B1(a n:J):cy:=λ σ=>bR (aZ 1 n&&(aZ n 1000&&(aZ (b6 a n) 32&&(σ.all (bk (O σ))&&u1 89 121 4 lF σ[0]?)))) (B (.ok (.ret (.aH (O σ)),[]),σ++ [.ae (dB n (b6 a n) a)]))def mI:bV:=λ as ks σ=>bR ks.isEmpty (two as λ a b=>hi a λ a=>mF a λ a=>hi b λ b=>mF b λ n=>ia .plain (B1 a n) σ)
noncomputable def mJ:H D->U (H J)
 |[]=>B []|d::ds=>mF d λ n=>(mJ ds).map (n:: ·)
theorem x9:∀{xs:H D}{ds:H J},mJ xs=B ds->xs=ds.map λ d=>D.int (d:J)
 |[],_,h=>ax (ak h) rfl|_::_,_,h=>nU h λ n e h=>gE h λ y W j=>L e (L (x9 W) (ax j rfl))def fA(n:J)(bS:H J):Nat:=bS.rec (motive:=λ u=>J) (0) (λ d ds dF=>dF*2^n+d)
def sk(σ:aE):V->U (H D)
 |.aH i=>jU (σ[i]? :U cj) B|.d d=>x1 B d
def B2(D:V)(n:J):cy:=λ σ=>bR (aZ n 1000&&(σ.all (bk (O σ))&&u1 96 136 4 mH σ[1]?)) (((sk σ D).bind mJ).bind λ ds=>bR (aZ (O ds) 32&&ds.all λ x=>bE x (2^n)) (B (.ok (.ret (.d (.int (fA n ds:J))),[]),σ)))def lG:bV:=λ as ks σ=>bR ks.isEmpty (two as λ d b=>hi b λ b=>mF b λ n=>ia .plain (B2 d n) σ)noncomputable def u2:H Nat:=[173,847,6150,6155,6156,6157,8203,8204,8205,8288,65279]++(aw 16).map (65024+ ·)
def Ii:Cfg where
 gl:=ee
 ct:=λ u=>aa
 bi:=λ id=>nW ([("ord",e5 λ d=>(xr d).map D.int)].lookup id)
 ty:=λ u u=>.au
 ms:=λ u u u=>aa
 attr:=λ u u=>.au
 item:=λ u u=>.au
 set:=λ u u u=>.au
 o7:=λ u u=>.au
 setattr:=λ u u u=>.au
 del:=λ u u=>.au
 loops:=aj
 bf:=λ u=>aj
 fuel:=0
def Sj(a b:V):Ev V:=λ σ=>hi b (uR λ o=>bR (o==BZ) (hi a λ a=>mF a λ c=>B (.ok (.d (.bool (u2.contains c))),σ)))def Sk:aJ->PySem.Expr:=iu 0
def Sl:PySem.Expr:=(hz 0) ((bP (aY 21)).getD 0 (.Pass ⟨0,0,0,0⟩))def ahb(ρ:az):cy:=b5 (lx ((ba Ii 30 (bz (aY 21)) ρ (Sk Sl)).1.bind λ a=>(ba Ii 30 (bz (aY 21)) ρ ((iu 1) Sl)).1.bind λ b=>Sj a b) ρ) oZ
def Sm:bV:=lE (.plain .plain) (aY 21) ahb
def bK:aE:=[.tab 89 121 4 lF,.tab 96 136 4 mH]def u3(σ:aE):Bool:=aL (O σ) 2&&(u1 89 121 4 lF σ[0]?&&u1 96 136 4 mH σ[1]?)
noncomputable def nX:cj->aF
 |.cX=>aj|_=>S
noncomputable def fB:V->aF
 |.d _=>S|.aH _=>aj
def fk(C:bV):bV:=λ as ks σ=>(as.all fB&&(ks.isEmpty&&(u3 (σ.take 2)&&(σ.drop 2).all nX))).rec (C as ks σ) ((C as [] bK).bind λ q=>bR (u3 q.2) (q.1.rec (λ v=>v.rec (λ d=>B (.ok (.d d),σ)) λ u=>aa) λ c es=>B (.exc c es,σ)))def Sn(a:ao):U bV:=match a==Se with|true=>B (fk mI)|false=>match a==Sf with|true=>B (fk lG)|false=>match a==Ie with|true=>B (fk Sm)|false=>aa
noncomputable def sv:H J->J
 |[]=>0|c::cs=>gd (e1 2 c) (i9 (gd 2 (sv cs)))def codeOf(s:ai):Nat:=sv s.cps.toList
theorem Cq(c a:J):∀i,i<=c->(gd (e1 2 c) (i9 (gd 2 a))).testBit i=decide (i=c):=by
 refine λ i s=>Y Nat.testBit_two_pow_mul ?_;by_cases h:i=c
 ·refine L h ?_
  simp
 ·simp[h];lia
theorem T5:∀{as bs:H J},sv as=sv bs->as=bs
 |[],[],_=>rfl|[],b::bs,h=>by have h:=h;exact aS h (il (Yh (kX _) (fp _)))|a::as,[],h=>by have h:=h;exact aS h (hM (Yh (kX _) (fp _)))
 |a::as,b::bs,h=>by
  obtain h:gd (e1 2 a) (i9 (gd 2 (sv as)))=gd (e1 2 b) (i9 (gd 2 (sv bs))):=h;obtain e:a=b:=by
   rcases Nat.lt_trichotomy a b with q|q|q
   ·obtain W:=Cq a _ a (bH _)
    rw[h,Cq b _ a (ik ‹_›)]at W;simp at W;exact W
   ·exact q
   ·have W:=Cq b (sv bs) b (bH _)
    rw[<-h,Cq a _ b (ik ‹_›)]at W;simp at W;exact W.symm
  subst e;have:=aoY (kX a) h;exact L (T5 (aoY (by decide) (zm this))) rfl
theorem ph(a b:ai):aL (codeOf a) (codeOf b)=(a==b):=by cases h:a==b with|true=>rw[cI.mp h];exact q_ _|false=>cases q:aL _ _ with|false=>rfl|true=>have:=ZA.mp (T5 (dE q));rw[(show a=b by cases a;exact aM Eu this)]at h;simp at h
noncomputable def ie{h:Type}(n:ai):H (ai×h)->U h
 |[]=>aa|(m,b)::l=>bif aL (codeOf n) (codeOf m)then B b else ie n l
theorem mM{h:Type}(n:ai):∀l:H (ai×h),ie n l=l.lookup n
 |[]=>rfl|(m,b)::l=>by show(bif aL _ _ then B b else ie n l)=_;dsimp only[gY];rw[ph,mM n l];cases n==m<;>rfl
def qE(a b:ai):Bool:=aL (codeOf a) (codeOf b)def sx(s:bW)(n:ai):Bool:=match ie n s.names with|some .local|some .cell=>S|_=>aj
theorem Cr(s:bW)(n:ai):sx s n=dU s n:=by
 delta sx dU;exact L (mM ..) rfl
 try (cases s.names.lookup n with
  |none=>rfl|some k=>induction k<;>rfl)noncomputable def rq{α:Type}(n:J)(f:J->α):α:=Nat.rec (motive:=λ u=>α) (f 0) (λ k u=>f (i9 k)) n
theorem tE{α:Type}(n:J)(f:J->α):rq n f=f n:=by induction n<;>rfl
theorem k3{α:Type}(b:aF)(x y:α):(bif b then x else y)=if b=S then x else y:=by induction b<;>rfl
def kv(k p:J)(c:J->J)(n:J):Nat:=bif aZ p n then gu k (rq (vF n p) c)else c n
def LM:J->Nat:=kv 1024 (e1 2 1024) (kv 512 (e1 2 512) (kv 256 (e1 2 256) (kv 128 (e1 2 128) (kv 64 (e1 2 64) (kv 32 (e1 2 32) (kv 16 65536 (kv 8 256 (kv 4 16 (kv 2 4 (kv 1 2 λ u=>0))))))))))def Ez(b:J)(c:J->J):Prop:=∀n,n≠0->n<2^b->2^c n<=n/\n<2^(c n+1)
theorem l2(u:p=2^k)(r:b=k+k)(h:Ez k c):Ez b (kv k p c):=by
 intro n e V;subst u r;unfold kv;cases A:aZ _ n with
 |false=>
  have:¬2^k<=n:=λ q=>by rw[dD q]at A;exact aS A y3
  exact h n e (Yd this)
 |true=>
  refine L (show(bif S then gu k _ else c n)=k+c _ by rw[tE];rfl) ?_;obtain⟨W,j⟩:=h _ (Nat.pos_iff_ne_zero.mp (DG (b8 A) (kX _))) (by
   rw[td (kX _),<-ki];exact V)
  constructor
  ·rw[ki,y4]
   exact(Nat.le_div_iff_mul_le (kX _)).mp W
  ·rw[m1,ki,y4]
   exact(td (kX _)).mp j
def pQ(n:J):Nat:=bif bE n (e1 2 2048)then(bif aL n 0 then 0 else LM n)else kY n
theorem zO(n:J):pQ n=kY n:=by
 unfold pQ;cases h:bE n _ with
 |false=>rfl
 |true=>
  cases e:aL n 0 with
  |true=>rw[dE e];rfl
  |false=>
   have N:n≠0:=λ q=>by rw[q]at e;exact aS e y3
   exact cq ((show Ez 2048 LM from l2 rfl rfl (l2 rfl rfl (l2 rfl rfl (l2 rfl rfl (l2 rfl rfl (l2 rfl rfl (l2 rfl rfl (l2 rfl rfl (l2 rfl rfl (l2 rfl rfl (l2 rfl rfl (λ n e V=>⟨Nat.pos_of_ne_zero e,V⟩)))))))))))) n N (cg.mp h)) λ W j=>((Nat.log2_eq_iff N).mpr ⟨W,j⟩).symm
def zP(n d:J):Nat:=rq (vF n d) λ q=>rq (gd 2 (lW n d)) λ r=>bif bE d r|| (aL r d&&aL (lW q 2) 1)then i9 q else q
theorem blt_eq(a b:J):bE a b=decide (a<b):=by rw[DH,cg,Kw]theorem LN(a b:J):aZ a b=decide (a<=b):=by rw[DH,DI,Kw]theorem rr(a b:J):aL a b=(a==b):=by rw[DH,Nat.beq_eq,cI]theorem LO(n d:J):zP n d=Kx n d:=by unfold zP;simp only[tE,tE,k3,blt_eq,rr,rr];dsimp only[Kx];refine(?_:(if (decide (d<2*(n% d))|| (2*(n% d)==d&&(n/d)% 2==1))=S then n/d+1 else n/d)=_);dsimp only
noncomputable def ir:Nat:=4503599627370496
theorem LP:1<=ir:=by decide
def zQ(n d E c:J):Nat:=gu (gd (gX (gu E 74) c) ir) (bif aZ E (gu c 1000)then zP (gd n (e1 2 (gX (gu c 1000) E))) d else zP n (gd d (e1 2 (gX E (gu c 1000)))))noncomputable def zR(n d E:J):Bool:=bif aZ E 1000 then aZ d (gd n (e1 2 (gX 1000 E)))else aZ (gd d (e1 2 (gX E 1000))) n
def LQ(n d:J):Nat:=rq (gX (gu (pQ n) 1000) (pQ d)) λ E=>bif zR n d E then zQ n d E 52 else zQ n d E 53
def l3(n d:J):Nat:=bif aL n 0 then 0 else bif aZ (gu (pQ d) 0) (gu (pQ n) 900)&&(aZ (pQ n) (gu (pQ d) 900)&&bE 0 d)then LQ n d else y5 n d
theorem wh(h:aZ a b=aj):b<a:=Yd λ q=>bw (Y h.symm (dD q))theorem wi(n d E K:J):pE n d ((K:ah)- E)=bif aZ E K then(n*2^(K-E),d)else(n,d*2^(E-K)):=by unfold pE;cases h:aZ E K with|true=>rw[bC (Ye (vG.mpr (b8 h))),vH];rfl|false=>rw[a6 (Yg.mpr (ang (q8.mpr (wh h)))),DJ,vH];rfl
theorem LR(E c:J): -((E:ah)- 1000-c)=((c+1000:J):ah)- E:=by simp only[Int.sub_sub,DJ,Ky];rfl
theorem LS(n d E:J):(zR n d E=S) ↔ (pE n d (-((E:ah)- 1000))).1>=(pE n d (-((E:ah)- 1000))).2:=by simp only[DJ,show 1000=((1000:J):ah)from rfl,wi];unfold zR;cases aZ E 1000<;>exact Iff.of_eq DI
theorem ZI{n d E c a b:J}(g:0<d)(v:a+1000=E+b)(A:c<=53)(l:n<2^(a+1))(ld:2^b<=d):(pE n d (-((E:ah)- 1000-c))).1/(pE n d (-((E:ah)- 1000-c))).2<2^55:=by
 rw[LR,wi];obtain u:∀{k j:J},a+1+k<=55+(b+j)->n*2^k<2^55*(d*2^j):=λ h=>eo (Nat.mul_lt_mul_of_pos_right l (kX _)) (bA (ax (ki ..) (q9 (by decide) h)) (by rw[ki,ki];exact vI _ (vJ _ ld)));cases h:aZ E _ with
 |true=>
  apply (td g).mpr;obtain this:=u (k:=c+1000-E) (j:=0) (by have:=b8 h;lia)
  rwa [DK,vK]at this
 |false=>
  apply (td (Yh g (kX _))).mpr;obtain this:=u (k:=0) (j:=E-(c+1000)) (by lia)
  rwa [DK,vK]at this
theorem LU(g:0<d)(h:kY n+1000=E+kY d)(G:E<=1900)(A:c<=53):
  zQ n d E c=min Float64.infMag (((max ((E:ah)- 1000-c) (-1074))+1074).toNat*2^52+Kx (pE n d (-(max ((E:ah)- 1000-c) (-1074)))).1 (pE n d (-(max ((E:ah)- 1000-c) (-1074)))).2):=by
 rw[Int.max_eq_left (by lia),show E-1000-c+1074=((E+74:J):ah)- c by lia,vH];rw[anh (bA (vL (vJ _ (bA (Nat.sub_le ..) (pF G 74))) (bA ((by
   unfold Kx;dsimp only;split<;>lia)) (ZI g h A ani (Nat.log2_self_le (hM g))))) (by decide)),LR,wi]
 unfold zQ;simp only[LO,LO];cases aZ E _<;>rfl
theorem rt(n d:J):l3 n d=y5 n d:=by
 unfold l3;refine L (zO ..) (L (zO ..) ?_);rw[k3,k3,LN,LN,blt_eq,rr];by_cases e:n=0
 ·subst e
  exact Y (bC (by decide)) ((show y5 0 d=0 by unfold y5;rw[bC (by decide)])).symm
 have P:(n==0)=false:=by simpa using e
 refine L P (L (a6 hN) ?_);split
 ·next R=>
  simp[jH,Kw]at R;obtain⟨G,i,g⟩:=R;unfold LQ;rw[tE,k3,zO,zO];have iu:gX _ _=kY n+1000-kY d:=rfl;refine L iu ?_;have u:kY n+1000=kY n+1000-kY d+kY d:=(anj (bA G (oe (by decide) _))).symm;generalize kY n+1000-kY d=E at*;have p:E<=1900:=by lia
  unfold y5;refine L P (Y ?_ (a6 hN).symm);dsimp only;refine L ((show((kY n)- (kY d))=(E:ah)- 1000 by lia)) ?_;by_cases h:zR n d E=S
  ·rw[bC h,bC ((LS n d E).mp h)]
   exact LU g u p (by decide)
  ·rw[a6 h,a6 (λ q=>h ((LS n d E).mpr q))]
   exact LU g u p (by decide)
 ·rfl
noncomputable def gN:Nat:=9223372036854775808
def jP(a:J):Nat:=lW (vF a ir) 2048
def e8(a:J):Bool:= !aL (jP a) 2047
def eL(a:J):Nat:=bif aL (jP a) 0 then lW a ir else gu ir (lW a ir)def dz(a:J):Nat:=bif aL (jP a) 0 then 1 else jP a
def b_(a:J):Bool:=aL (vF a gN) 1
def ow(s:aF)(m:J):Nat:=bif s then gu gN m else m
theorem EA:2^63=gN:=rfl
theorem LV(x:jI):b_ x.toNat=(x.toNat/2^63==1):=by unfold b_;exact L (rr ..) rfl
theorem ZJ(x:jI):jP x.toNat=x.toNat/2^52% 2048:=L (show 2^52=ir from rfl) rfl
theorem iR(h:e8 x.toNat=S):y6 x=.fin (b_ x.toNat) (eL x.toNat) ((dz x.toNat:ah)- 1075):=by
 unfold e8 at h;rw[rr]at h;delta y6 eL dz;rw[k3,k3,rr,LV,<-ZJ];obtain W:¬((jP x.toNat==2047)=S):=by intro q;rw[q]at h;exact bw h
 rw[a6 W];by_cases e:(jP x.toNat==0)=S
 ·rw[bC e,bC e,bC e];rfl
 ·rw[a6 e,a6 e,a6 e];rfl
theorem tF(s:aF)(m:J):y7 s m=gv (ow s m):=by delta y7 ow;induction s with|true=>rw[EA];rfl|false=>rw[a6 hN,hO];rfl
def tG(s:aF)(n h:J):Nat:=ow s (bif aZ 2150 h then l3 (gd n (e1 2 (gX h 2150))) 1 else l3 n (e1 2 (gX 2150 h)))theorem ZK(s:aF)(n h K:J):y7 s (y5 (pE n 1 ((h:ah)- K)).1 (pE n 1 ((h:ah)- K)).2)=gv (ow s (bif aZ K h then l3 (gd n (e1 2 (gX h K))) 1 else l3 n (e1 2 (gX K h)))):=by simp only[wi,rt,rt,<-tF];induction aZ K h with|true=>rfl|false=>exact aM (λ k=>y7 s _) (y8 _)theorem EB(s:aF)(n h:J)(x:e=(h:ah)- 2150):y9 s n e=gv (tG s n h):=by refine L x ?_;delta y9 vM tG;exact ZK ..
def LW(a b:J):Nat:=tG (b_ a !=b_ b) (gd (eL a) (eL b)) (gu (dz a) (dz b))def wj(s z:aF)(n h:J):Nat:=bif aL n 0 then ow z 0 else tG s n h
def zS(s:aF)(p:J)(t:aF)(q h:J):Nat:=bif s==t then wj s s (gu p q) h else bif aZ q p then wj s aj (gX p q) h else wj t aj (gX q p) h
theorem tH(s z:aF)(n h:J)(R:g=(h:ah)- 2150):(if (gw s n==0)=S then Kz z else y9 (decide (gw s n<0)) (gw s n).natAbs g)=gv (wj s z n h):=by
 unfold wj;rcases n with _|n;case zero=>simp only[show aL 0 0=S from rfl,cond_true,<-tF];rcases s with _|_<;>exact bC rfl
 case succ=>
  rw[show aL _ 0=aj from rfl,cond_false,<-EB s _ h R];rcases s with _|_;case false=>exact a6 hN
  case true=>refine(?_:(if (Int.negSucc n==0)=S then _ else y9 (decide (Int.negSucc n<0)) _ g)=_);rw[gJ (Yi n)];exact a6 hN
theorem LX(h:q<=p):gw aj p+gw S q=gw aj (p-q):=(ank h).symm
theorem LY(h:q<=p):gw aj q+gw S p=gw S (p-q):=by show q-p= -((p-q:J):ah);simp[ank h,DJ]
theorem ZL(s:aF)(p:J)(t:aF)(q R:J)(T:g=(R:ah)- 2150):(if (gw s p+gw t q==0)=S then Kz (s&&t)else y9 (decide (gw s p+gw t q<0)) (gw s p+gw t q).natAbs g)=gv (zS s p t q R):=by
 unfold zS;induction s<;>cases t
 ·exact tH aj aj _ R T
 ·refine L (show _=aj from rfl) ?_
  cases h:aZ q p with|true=>rw[LX (b8 h)];exact tH aj aj _ R T|false=>rw[LY (ik (wh h))];exact tH S aj _ R T
 ·refine L (Ky ..) ?_
  cases h:aZ q p with|true=>rw[LY (b8 h)];exact tH S aj _ R T|false=>rw[LX (ik (wh h))];exact tH aj aj _ R T
 ·exact L Int.neg_add.symm (tH S S _ R T)def tI(a b:J)(t:aF):Nat:=bif aZ (dz a) (dz b)then zS (b_ a) (eL a) t (gd (eL b) (e1 2 (gX (dz b) (dz a)))) (gu (dz a) 1075)else zS (b_ a) (gd (eL a) (e1 2 (gX (dz a) (dz b)))) t (eL b) (gu (dz b) 1075)theorem EC(a b:J):((a:ah)- 1075)- ((b:ah)- 1075)=(a:ah)- b:=by lia
theorem LZ(x:J):(x:ah)- 1075=((x+1075:J):ah)- 2150:=by lia
theorem ED(s:aF)(p x:J)(t:aF)(q y:J):Float64.align s p ((x:ah)- 1075) t q ((y:ah)- 1075)=bif aZ x y then(gw s p,gw t (q*2^(y-x)),(x:ah)- 1075)else(gw s (p*2^(x-y)),gw t q,(y:ah)- 1075):=by
 obtain k:∀{z:J}{m:ah},m=z-1075->(gw s (p*2^((x-1075)- m).toNat),gw t (q*2^((y-1075)- m).toNat),m)=(gw s (p*2^(x-z)),gw t (q*2^(y-z)),(z:ah)- 1075):=λ e=>by simp only[e,EC,EC,vH,vH]
 cases h:aZ x y with|true=>exact Y (k (Int.min_eq_left (anl (vG.mpr (b8 h)) 1075))) (L (KA ..) (L (vK ..) rfl))|false=>exact Y (k (Int.min_eq_right (anl (vG.mpr (ik (wh h))) 1075))) (L (KA ..) (L (vK ..) rfl))
theorem L0(x y:J)(t:aF):(match Float64.align (b_ x) (eL x) ((dz x:ah)- 1075) t (eL y) ((dz y:ah)- 1075)with
  |(p,q,g)=>if (p+q==0)=S then Kz (b_ x&&t)else y9 (decide (p+q<0)) (p+q).natAbs g)=gv (tI x y t):=by
 rw[ED];unfold tI;cases aZ _ _<;>exact ZL _ _ _ _ _ (LZ _)theorem L1(h:e8 x.toNat=S)(Q:e8 y.toNat=S):KC x y=gv (tI x.toNat y.toNat (b_ y.toNat)):=by unfold KC;rw[iR h,iR Q];exact L0 x.toNat y.toNat _
theorem EE:gN=ir*2048:=rfl
theorem EF(h:0<n):aL n 0=false:=match n,h with|_+1,_=>rfl
def k4(a:J):Bool:=aL (lW a gN) 0
theorem L2(a:J):k4 a=aL (eL a) 0:=by delta k4 eL;refine L (show lW a gN=a% ir+ir*jP a by show a% gN=_;rw[EE,Nat.mod_mul];rfl) ?_;induction jP a with|zero=>rfl|succ k=>exact Y (EF (eo LP (bA (vI ir (fp k)) (jJ ..)))) (EF (eo LP (gK ..))).symm
theorem zT(h:e8 x.toNat=S):DL x=k4 x.toNat:=by unfold DL;rw[L2,iR h];cases eL x.toNat<;>rfl
theorem L3(h:k4 a=aj):¬(eL a==0)=true:=by rw[<-rr,<-L2,h];exact hN
def EG(a b:J):Nat:=ow (b_ a !=b_ b) (bif aZ (dz b) (dz a)then l3 (gd (eL a) (e1 2 (gX (dz a) (dz b)))) (eL b)else l3 (eL a) (gd (eL b) (e1 2 (gX (dz b) (dz a)))))noncomputable def zU(p q:J):Ordering:=bif bE p q then .lt else bif aL p q then .eq else .gt
def EH(s:aF)(p:J)(t:aF)(q:J):Ordering:=match s,t with|false,aj=>zU p q|true,S=>zU q p|false,S=>bif aL (gu p q) 0 then .eq else .gt|true,aj=>bif aL (gu p q) 0 then .eq else .lt
def ru(a b:J):Ordering:=bif aZ (dz a) (dz b)then EH (b_ a) (eL a) (b_ b) (gd (eL b) (e1 2 (gX (dz b) (dz a))))else EH (b_ a) (gd (eL a) (e1 2 (gX (dz a) (dz b)))) (b_ b) (eL b)theorem L4{a b:ah}(h:a<b ↔ p<q)(j:a=b ↔ p=q):compare a b=zU p q:=by unfold zU;cases d:bE p q with|true=>exact bC (h.mpr (cg.mp d))|false=>apply Y (a6 λ z=>bw (Y d.symm (cg.mpr (h.mp z))));cases x:aL p q with|true=>exact bC (j.mpr (dE x))|false=>exact a6 λ z=>bw (Y x.symm (L (j.mp z) (q_ _)))theorem ZM(s:aF)(p:J)(t:aF)(q:J):compare (gw s p) (gw t q)=EH s p t q:=match s,t,p,q with|false,aj,_,_=>L4 q8 anm|true,S,_,_=>L4 (Int.neg_lt_neg_iff.trans q8) (Int.neg_inj.trans (anm.trans eq_comm))|false,S,0,0=>rfl|false,S,_+1,0=>rfl|false,S,_,_+1=>rfl|true,aj,0,0=>rfl|true,aj,_+1,q=>Y (bC (Yj (Yi _) (m2 q))) (by show _=(bif aL (_+1+q) 0 then Ordering.eq else .lt);rw[EF (eo (fp _) (gK ..))];rfl)|true,aj,0,q+1=>Y (bC (Int.natCast_pos.mpr (fp q))) rfl
theorem EI(h:e8 x.toNat=S)(Q:e8 y.toNat=S):og x y=B (ru x.toNat y.toNat):=by unfold og;rw[iR h,iR Q];dsimp only;refine L (ED ..) ?_;unfold ru;cases aZ _ _<;>exact aM B (ZM ..)def EJ(a b:J):Nat:=bif aZ (dz a) (dz b)then tG (b_ a) (lW (eL a) (gd (eL b) (e1 2 (gX (dz b) (dz a))))) (gu (dz a) 1075)else tG (b_ a) (lW (gd (eL a) (e1 2 (gX (dz a) (dz b)))) (eL b)) (gu (dz b) 1075)
noncomputable def isLt:pG->aF
 |.lt=>S|_=>aj
noncomputable def isEq:pG->aF
 |.eq=>S|_=>aj
noncomputable def EK:pG->aF
 |.gt=>S|_=>aj
theorem EL(o:pG):((B o:U pG)==B .lt)=isLt o:=by induction o<;>rfl
theorem ZN(o:pG):((B o:U pG)==B .eq)=isEq o:=by induction o<;>rfl
theorem ZO(o:pG):((B o:U pG)==B .gt)=EK o:=by induction o<;>rfl
def EM(b m:J):Nat:=bif k4 m then ow (b_ b) 0 else bif isLt (ru b 0) !=isLt (ru m 0)then tI m b (b_ b)else m
theorem ZP(K:e8 x.toNat=S)(Q:e8 y.toNat=S)(p:k4 y.toNat=aj)(E:m=Yk x y)(e:e8 m.toNat=S):(Yl x y).2=gv (EM y.toNat m.toNat):=by
 unfold Yl;dsimp only;refine E▸?_;obtain j:(Kz aj).toNat=0:=rfl;obtain f:=rfl;unfold EM;rw[k3,k3,zT e];unfold Float64.lt;refine L (EI Q f) (L (EI e f) (L (EL ..) (L (EL ..) (L j ?_))));by_cases h:k4 m.toNat=S
 ·rw[bC h,bC h]
  apply Y (a6 (by decide+kernel));rw[j,tF];unfold Float64.signBit;rw[LV]
 ·rw[a6 h,a6 h]
  by_cases z:(isLt (ru y.toNat 0) !=isLt (ru m.toNat 0))=S
  ·rw[bC z,bC z]
   exact L1 e Q
  ·rw[a6 z,a6 z]
   exact UInt64.ofNat_toNat.symm
theorem neg_toNat(y:jI):(y^^^y7 S 0).toNat=y.toNat^^^2^63:=by congr 1
theorem ZQ(a:J):(a^^^2^63)% gN=a% gN:=by dsimp only[<-EA];rw[Nat.xor_mod_two_pow,Nat.xor_zero]theorem ZR(a:J):(a^^^2^63)/gN=(a/gN)^^^1:=by dsimp only[<-EA];rw[Nat.xor_div_two_pow]theorem L5(a:J):jP a=a% gN/ir:=by dsimp only[EE];rw[ano];rfl
theorem L6(a:J):lW a ir=a% gN% ir:=by show a% ir=_;dsimp only[EE];rw[anp]theorem ZS(h:a% gN=b% gN):jP a=jP b/\eL a=eL b/\dz a=dz b/\e8 a=e8 b:=by delta eL dz e8;rw[(show jP a=jP b by rw[L5,L5,h]),(show lW a ir=lW b ir by rw[L6,L6,h])];exact⟨rfl,rfl,rfl,rfl⟩
def zV:ah->J
 |.ofNat n=>l3 n 1|.negSucc n=>ow S (l3 (i9 n) 1)theorem EN(i:ah):vN i=gv (zV i):=by delta vN vM;rw[tF];induction i with|ofNat n=>rw[<-rt];rfl|negSucc n=>rw[gJ (Yi n),<-rt];rfl
theorem L7(h:e8 x.toNat=S):KD x=false:=by unfold KD;rw[iR h]def zW(i:ah):Bool:=bif e8 (gv (zV i)).toNat then S else rv i
theorem L8(i:ah):zW i=rv i:=by
 unfold zW;rw[k3];split
 ·next h=>unfold rv;rw[EN,L7 h];rfl
 ·rfl
def k5(n:J):U D:=rq n λ n=>B (.aR (gv n))theorem tJ(n:J):k5 n=B (.aR (gv n)):=tE _ _
def wk(o:iM)(x y:jI):U D:=bif e8 x.toNat&&e8 y.toNat then match o with|.Add=>k5 (tI x.toNat y.toNat (b_ y.toNat))|.Sub=>k5 (tI x.toNat y.toNat (!b_ y.toNat))|.Mult=>k5 (LW x.toNat y.toNat)|.Div=>bif k4 y.toNat then aa else k5 (EG x.toNat y.toNat)|.Mod=>bif k4 y.toNat then aa else bif e8 (gv (EJ x.toNat y.toNat)).toNat then k5 (EM y.toNat (gv (EJ x.toNat y.toNat)).toNat)else nf .Mod x y|_=>aa
 else nf o x y
theorem EO(o:iM)(x y:jI):wk o x y=nf o x y:=by
 unfold wk;rw[k3];split
 ·next h=>
  refine cq (bF.mp h) λ K Q=>?_;induction o with
  |Add=>show k5 _=B _;rw[tJ,L1 K Q]
  |Sub=>show k5 _=B _;rw[tJ,(show Ym x y=gv _ from by
    have e:y_ y=y^^^y7 S 0:=by unfold y_;rw[(show Float64.isNaN y=aj by unfold Float64.isNaN;rw[iR Q]),a6 hN]
    refine pR (ZS (show(y_ y).toNat% gN=y.toNat% gN by rw[e,neg_toNat,ZQ])) λ u l z p=>?_;obtain t:b_ (y_ y).toNat= !b_ y.toNat:=by
     unfold b_;rw[show vF (y_ y).toNat gN=(y_ y).toNat/gN from rfl,show vF y.toNat gN=y.toNat/gN from rfl,e,neg_toNat,ZR];obtain j:y.toNat/gN<2:=by rw[td (by decide)];have:=y.toNat_lt;exact this
     rcases anq.mp j with q|q
     ·exact L (KG.mp q) rfl
     ·exact L q rfl
    delta Ym KC;simp only[iR K,iR (Y p Q),t,l,z];exact L0 x.toNat y.toNat _)]
  |Mult=>show k5 _=B _;rw[tJ,(show Yn x y=gv (LW x.toNat y.toNat)from by
    unfold Yn;rw[iR K,iR Q];exact EB _ _ _ (by show _=((dz x.toNat+dz y.toNat):ah)- 2150;lia))]
  |Div=>
   refine(?_:(bif k4 y.toNat then aa else k5 _)=a8 _ _);refine L (zT Q) ?_;cases d:k4 y.toNat with
   |true=>rfl
   |false=>rw[(show Yo x y=gv (EG x.toNat y.toNat)from by
     unfold Yo;rw[iR K,iR Q];dsimp only;rw[a6 (L3 d),EC,wi];delta vM EG;simp only[tF,rt,rt];cases aZ _ _<;>rfl),<-tJ];rfl
  |Mod=>
   cases d:k4 y.toNat with
   |true=>show aa=a8 _ _;rw[zT Q,d];rfl
   |false=>
    cases r:e8 (gv _).toNat with
    |false=>rfl
    |true=>
     refine(?_:k5 _=a8 _ _);simp only[zT Q,d,tJ,ZP K Q d ((show Yk x y=gv _ from by
       unfold Yk;rw[iR K,iR Q];dsimp only;rw[a6 (L3 d),ED];unfold EJ;cases aZ _ _<;>exact EB _ _ _ (LZ _))).symm r];rfl
  |_=>rfl
 ·rfl
def zX(a b:ah):Nat:=ow (decide (a<0) !=decide (b<0)) (l3 a.natAbs b.natAbs)theorem ZT(a b:ah):vM (decide (a<0) !=decide (b<0)) a.natAbs b.natAbs=gv (zX a b):=by delta vM zX;simp[tF,rt]def ZU(o:iM)(a b:ah):U D:=match o with|.Div=>bif e8 (gv (zX a b)).toNat then(bif b==0 then aa else k5 (zX a b))else tK .Div a b|o=>tK o a b
def aI(o:iM):D->D->U D
 |.int a,y=>match y with
  |.int b=>ZU o a b|.aR b=>a8 (mixed o&&zW a) (wk o (gv (zV a)) b)|_=>aa
 |.aR a,y=>match y with
  |.aR b=>wk o a b|.int b=>a8 (mixed o&&zW b) (wk o a (gv (zV b)))|_=>aa
 |a,y=>fW o a y
theorem L9(o:iM)(a b:D):aI o a b=fW o a b:=by
 rcases a with _|_|a|a|_|_|_|_|_|_|⟨_,_⟩
 case int=>
  rcases b with _|_|b|b|_|_|_|_|_|_|⟨_,_⟩
  case int=>exact(by
    induction o with
    |Div=>
     show(bif e8 (gv _).toNat then _ else tK .Div a b)=_;cases h:e8 (gv _).toNat with
     |false=>rfl|true=>show _=a8 _ _;rw[ZT,L7 h,tJ];cases b==0<;>rfl
    |_=>rfl)
  case aR=>show a8 _ _=a8 _ _;rw[L8,EO,EN]
  all_goals rfl
 case aR=>
  rcases b with _|_|b|b|_|_|_|_|_|_|⟨_,_⟩;case aR=>exact EO o a b
  case int=>show a8 _ _=a8 _ _;rw[L8,EO,EN]
  all_goals rfl
 all_goals rfl
def zY(b:eR)(o:pG):U Bool:=match b with|.Lt=>B (isLt o)|.LtE=>B (isLt o||isEq o)|.Gt=>B (EK o)|.GtE=>B (EK o||isEq o)|.Eq=>B (isEq o)|.NotEq=>B (!isEq o)|_=>aa
def cp(o:eR)(a b:D):U Bool:=match b with
 |.aR y=>match a with
  |.aR x=>bif e8 x.toNat&&e8 y.toNat then zY o (ru x.toNat y.toNat)else rx o x y|a=>iv o a (.aR y)
 |b=>iv o a b
theorem zZ(o:eR)(a b:D):cp o a b=iv o a b:=by
 rcases b with _|_|_|y|_|_|_|_|_|_|⟨_,_⟩
 case aR=>
  rcases a with _|_|_|x|_|_|_|_|_|_|⟨_,_⟩;case aR=>show(bif e8 x.toNat&&e8 y.toNat then zY o _ else rx o x y)=rx o x y;cases h:e8 x.toNat&&e8 y.toNat with|false=>rfl|true=>obtain⟨K,Q⟩:=bF.mp h;show zY o _=rx o x y;delta zY rx bne;refine L (EI K Q) ?_;rw[EL,ZN,ZO];try rfl
  all_goals rfl
 all_goals rfl
def tL(d:D):U D:=match d with|.aR u=>bif e8 u.toNat then rq (bif aZ 1075 (dz u.toNat)then gd (eL u.toNat) (e1 2 (gX (dz u.toNat) 1075))else vF (eL u.toNat) (e1 2 (gX 1075 (dz u.toNat)))) λ n=>B (.int (match b_ u.toNat with|true=> -(n:ah)|false=>(n:ah)))else intD d|d=>intD d
theorem ZV(d:D):tL d=intD d:=by
 rcases d with _|_|_|u|_|_|_|_|_|_|⟨_,_⟩
 case aR=>
  unfold tL;dsimp only;rw[k3];split
  ·next h=>
   rw[tE,k3];show _=(match y6 u with
    |.fin b_ m e=>B _|_=>aa)
   refine(iR h).symm▸?_;congr 2;delta Float64.truncOf Float64.ceilOf Float64.floorOf;generalize eL u.toNat=m;generalize dz u.toNat=E;cases h:aZ 1075 E with
   |true=>
    have p:(E:ah)- 1075>=0:=Ye (vG.mpr (b8 h));rw[bC p,bC p,show((E:ah)- 1075).toNat=E-1075 from vH E 1075];have e:((m*2^(E-1075):J):ah)=m*2^(E-1075):=L (Int.natCast_mul ..) rfl;rcases b_ u.toNat with _|_;case true=>exact aM Int.neg e
    case false=>exact e
   |false=>
    have p:¬(E:ah)- 1075>=0:=Yg.mpr (ang (q8.mpr (wh h)));rw[a6 p,a6 p,DJ,show(1075-(E:ah)).toNat=1075-E from vH 1075 E];have e:((m:ah)).fdiv (2^(1075-E))=((m/2^(1075-E):J):ah):=by rw[show 2^(1075-E)=((2^(1075-E):J):ah) by rw[Int.natCast_pow];rfl,za _ (m2 _)];rfl
    rcases b_ u.toNat with _|_;case true=>exact aM Int.neg e.symm
    case false=>exact e.symm
  ·rfl
 all_goals rfl
def EP(o:eR)(ds:H D)(i j:J):Bool:=match ds[i]?,ds[j]? with
 |some a,B b=>match cp o a b with
  |some c=>c|none=>aj
 |_,_=>aj
def pS(o:eR)(ds:H D):U D:=match tM ds with|true=>ds[DM (EP o ds) (O ds-1)]?|false=>aa
theorem ER(o:eR)(ds:H D):pS o ds=l4 o ds:=by
 obtain e:EP o ds=ry o ds:=by funext i j;delta EP ry;induction ds[i]? with|none=>rfl|some a=>induction ds[j]? with|none=>rfl|some b=>dsimp only;refine L (zZ ..) ?_;cases iv o a b<;>rfl
 delta pS l4;refine L e ?_
 (cases tM ds<;>rfl)abbrev cz:=H (ai×D)
structure hI where
 mN:H (ai×(H D->U D))
 jw:H (ai×(D->H D->U D))
noncomputable def aiR:vV->U D
 |.none=>B .none|.bool b=>B (.bool b)|.int i=>B (.int i)|.float u=>B (.aR u)|.str s=>B (.str s)|_=>aa
def Cs(n:ai):Bool:=qE n "__debug__" ||qE n "__classdict__"
def T6(s:bW)(pr:cz)(n:ai):U D:=bif Cs n then aa else match ie n s.names with|some .local|some .cell|some .free=>ie n pr|some .globalImplicit=>ie n ee|_=>aa
noncomputable def j_(f:aJ->U D):H aJ->U (H D)
 |[]=>B []|e::es=>(f e).bind λ d=>(j_ f es).map (d:: ·)
noncomputable def sy(o:vX):H (U D)->U D
 |[]=>aa|m::M=>match M with|[]=>m|_::_=>m.bind λ d=>(nz d).bind λ b=>match ua o b with|true=>B d|false=>sy o M
noncomputable def Ct(o:vX):H (U aF)->U aF
 |[]=>B (o==.And)|m::M=>m.bind λ b=>match ua o b with|true=>B b|false=>Ct o M
def yl(a:D):H eR->H (U D)->U aF
 |[],_=>aa|_::_,[]=>aa
 |d::o,r::R=>match o,R with
  |[],[]=>r.bind λ b=>cp d a b|_::_,_::_=>r.bind λ b=>(cp d a b).bind λ c=>match c with|true=>yl b o R|false=>B aj
  |_,_=>aa
noncomputable def Cu(f:aJ->U D):U aJ->U D
 |none=>B .none|some e=>f e
noncomputable def qF(s:bW):H aJ->H D->cz->U cz
 |[],ds,pr=>match ds with
  |[]=>B pr|_::_=>aa
 |e::es,ds,pr=>match ds with|[]=>aa|d::ds=>(nameOf e).bind λ n=>bR (sx s n) (qF s es ds ((n,d)::pr))
noncomputable def pj(s:bW):H aJ->H D->cz->(cz->U D)->U D
 |[],ds,pr,k=>match ds with
  |[]=>k pr|_::_=>aa
 |e::es,ds,pr,k=>match ds with|[]=>aa|d::ds=>(nameOf e).bind λ n=>bR (sx s n) (pj s es ds ((n,d)::pr) k)theorem aiS{A Bq:Type}{o:U A}{k:A->U Bq} :(bR b o).bind k=bR b (o.bind k):=match b with|true=>rfl|false=>rfl
theorem IL(s:bW):∀(es:H aJ)(ds:H D)(pr:cz)(k:cz->U D),pj s es ds pr k=(qF s es ds pr).bind k
 |[],[],_,_=>rfl|[],_::_,_,_=>rfl|_::_,[],_,_=>rfl|e::es,d::ds,pr,k=>by refine(?_:(nameOf e).bind _=((nameOf e).bind _).bind k);induction nameOf e with|none=>rfl|some n=>exact((aM _ (IL s es ds _ k)).trans aiS.symm)
theorem Cv(e:qF s es ds pr=B p){G:Prop}(K:es=[]->ds=[]->pr=p->G)
  (k:∀t E d D n,es=t::E->ds=d::D->nameOf t=B n->dU s n=S->qF s E D ((n,d)::pr)=B p->G):G:=by
 rcases es with _|⟨t,es⟩<;>rcases ds with _|⟨d,ds⟩
 ·exact K rfl rfl (ak e)
 ·exact nn e
 ·exact nn e
 ·exact b3 e λ n h e=>bN e λ j e=>k t es d ds n rfl rfl h (ax (Cr s n) j) e
noncomputable def IM:H ai->H D->(H (ai×D)->U D)->U D
 |[],ds,k=>match ds with
  |[]=>k []|_::_=>aa
 |n::N,ds,k=>match ds with|[]=>aa|d::ds=>IM N ds λ l=>k ((n,d)::l)
theorem T7:∀{N:H ai}{ds:H D}{k:H (ai×D)->U D}{d:D},IM N ds k=B d->O N=O ds/\k (N.zip ds)=B d
 |[],[],_,_,e=>⟨rfl,e⟩|[],_::_,_,_,e=>nn e|_::_,[],_,_,e=>nn e|n::N,a::ds,k,d,e=>by exact cq (T7 (k:=λ l=>k ((n,a)::l)) e) λ h j=>⟨(zh.mpr h),j⟩
def sz(s:bW)(t:aJ)(d:D)(pr:cz):U cz:=hZ t (λ n=>match sx s n with
  |true=>B ((n,d)::pr)|false=>aa) (rU t (λ es=>(hE d (O es)).bind λ ds=>qF s es ds pr) aa)
noncomputable def sA(e:cz->aJ->U aF)(pr:cz):aF->H aJ->U aF
 |b,[]=>B b|true,c::cs=>(e pr c).bind λ b=>sA e pr b cs|false,_::cs=>sA e pr aj cs
noncomputable def hs(s:bW)(E:cz->aJ->U D)(N:cz->aJ->U aF)(e:aJ)(g:m9)(pr:cz):H D->U (H D)
 |[]=>B []|d::ds=>(sz s g.target d pr).bind λ p=>(sA N p S g.ifs).bind λ ok=>match ok with|true=>(E p e).bind λ v=>(hs s E N e g pr ds).map (v:: ·)|false=>hs s E N e g pr ds
def T8(s:bW)(n:ai):Bool:=(ie n s.names).rec aj λ k=>k.rec aj aj S aj aj
def n2(s:bW)(pr:cz):cz:=pr.filter λ p=>T8 s p.1
noncomputable def pk(a:ah):J->H D
 |0=>[]|n+1=>.int a::pk (a+1) n
def T9:H D->U (H D)
 |[.int b]=>match zw 0 b 1 with
  |true=>B (pk 0 (b-0).toNat)|false=>aa
 |[.int a,.int b]=>match zw a b 1 with
  |true=>B (pk a (b-a).toNat)|false=>aa
 |_=>aa
noncomputable def lL:D->U (H D)
 |.ae xs=>B xs|.aD xs=>B xs|.str s=>B (s.cps.toList.map λ c=>.str ⟨#[c]⟩)|_=>aa
noncomputable def sC:H (H D)->U (H D×H (H D))
 |[]=>B ([],[])|l::g=>match l with|[]=>aa|d::t=>match sC g with|some p=>B (d::p.1,t::p.2)|none=>aa
noncomputable def vc:J->H (H D)->U (H D)
 |0,_=>aa|n+1,l=>match sC l with|some p=>(vc n p.2).map (.aD p.1:: ·)|none=>B []
noncomputable def IP:J->H D->H D
 |_,[]=>[]|k,d::ds=>.aD [.int k,d]::IP (k+1) ds
noncomputable def IQ:H D->U (H (H D))
 |[]=>B []|d::ds=>(lL d).bind λ xs=>(IQ ds).map (xs:: ·)
def ym(ds:H D):U (H D):=match aL (O ds) 2|| (aL (O ds) 3||Nat.beq (O ds) 4)with
 |true=>(IQ ds).bind (vc 1000)|false=>aa
def T_(ds:H D):U (H D):=one ds (BJ λ xs=>B (IP 0 xs))
def yn(k:J)(t:aJ)(ds:H D):U (H D):=match k with
 |0=>T9 ds
 |k+1=>match w9 t with
  |true=>match k with
   |0=>ym ds|_=>T_ ds
  |false=>aa
def vd(nm:ai):U Nat:=bif qE nm "range" then B 0 else bif qE nm "zip" then B 1 else bif qE nm "enumerate" then B 2 else aa
def Cw(s:bW)(n:ai):Bool:=match ie n s.names with|some .globalImplicit=>S|_=>aj
def yo(s:bW)(e:aJ):U (J×aJ×H aJ):=wX e (λ f args K=>hZ f (λ nm=>(vd nm).bind λ k=>bR (args.all fM&&K.isEmpty) (bR (Cw s nm) (B (k,f,args)))) aa) aa
def kM(r:U D):U D×U Bool:=(r,r.bind nz)noncomputable def sD:U D×U Bool:=(aa,aa)def kN(b:aF)(x:U D×U aF):U D×U Bool:=match b with|true=>x|false=>sD
noncomputable def bJ(P:hI):J->bW->cz->aJ->U D×U aF
 |0,_,_,_=>sD
 |N+1,w,pr,e=>match e with
  |.Constant k _ _=>kM (aiR k)|.Name nm _=>kM (T6 w pr nm)|.BinOp l i r _=>kM ((bJ P N w pr l).1.bind λ a=>(bJ P N w pr r).1.bind λ b=>aI i a b)
  |.UnaryOp i a _=>match i with
   |.Not=>((bJ P N w pr a).1.bind (lh .Not),(bJ P N w pr a).2.map not)|i=>kM ((bJ P N w pr a).1.bind (lh i))
  |.BoolOp i es _=>(sy i (es.map λ e=>(bJ P N w pr e).1),Ct i (es.map λ e=>(bJ P N w pr e).2))|.Compare l j es _=>kN (es.all hY) (((bJ P N w pr l).1.bind λ a=>yl a j (es.map λ e=>(bJ P N w pr e).1)).map D.bool,(bJ P N w pr l).1.bind λ a=>yl a j (es.map λ e=>(bJ P N w pr e).1))|.IfExp t a b _=>((bJ P N w pr t).2.bind λ c=>match c with|true=>(bJ P N w pr a).1|false=>(bJ P N w pr b).1,(bJ P N w pr t).2.bind λ c=>match c with|true=>(bJ P N w pr a).2|false=>(bJ P N w pr b).2)|.Tuple es _ _=>kN (es.all fM) (kM ((j_ (λ e=>(bJ P N w pr e).1) es).bind λ xs=>a8 (dc xs) (B (.aD xs))))|.List es p=>kN (es.all fM&&!(BY p)) (kM ((j_ (λ e=>(bJ P N w pr e).1) es).bind λ xs=>a8 (dc xs) (B (.ae xs))))|.Subscript v s _=>ui s (λ lo h st=>kM ((bJ P N w pr v).1.bind λ a=>(Cu (λ e=>(bJ P N w pr e).1) lo).bind λ b=>(Cu (λ e=>(bJ P N w pr e).1) h).bind λ c=>(Cu (λ e=>(bJ P N w pr e).1) st).bind λ e=>jn a b c e)) (kM ((bJ P N w pr v).1.bind λ a=>(bJ P N w pr s).1.bind λ b=>fh a b))
  |.ListComp E x C p=>match x with
   |[G]=>kN (!(G.is_async !=0)&&(nJ w C&&(hY G.iter&&!(BY p)))) (match N with
    |0=>sD
    |M+1=>kM ((match yo w G.iter with
     |some q=>(bJ P M w pr q.2.1).1.bind λ u=>(j_ (λ e=>(bJ P M w pr e).1) q.2.2).bind (yn q.1 G.target)|none=>(bJ P (M+1) w pr G.iter).1.bind lL).bind λ xs=>match bE (O xs) 1000 with
     |true=>(hs C (λ pr e=>(bJ P (M+1) C pr e).1) (λ pr e=>(bJ P (M+1) C pr e).2) E G (n2 C pr) xs).map D.ae|false=>aa))
   |_=>sD
  |.Call f args K W=>kN (args.all fM&&K.isEmpty) (hZ f (λ nm=>kN (Cw w nm) (kM ((bJ P N w pr (.Name nm W)).1.bind λ u=>(ie nm P.mN).bind λ g=>(j_ (λ e=>(bJ P N w pr e).1) args).bind g)))
   (p7 f (λ o nm A=>kN (Bm o&&(bE (O args) 20&&aL A.endLine W.line)) (kM ((ie nm P.jw).bind λ g=>(bJ P N w pr o).1.bind λ d=>(j_ (λ e=>(bJ P N w pr e).1) args).bind (g d)))) sD))
  |_=>sD
def aiT(P:hI)(M:J)(s:bW)(pr:cz)(ay vs:H aJ)(k:cz->U D):U D:=bR (vs.all fM&&(bE (O vs) 100&&aL (O ay) (O vs))) ((Bt s ay vs).bind λ w=>match w with
 |none=>(j_ (λ e=>(bJ P M s pr e).1) vs).bind λ ds=>pj s ay ds pr k|some n=>bR (n.all (sx s)) ((j_ (λ e=>(bJ P M s pr e).1) vs).bind λ ds=>IM n ds λ l=>k (l++pr)))def aiU(s:bW)(pr:cz)(ay:H aJ)(o:U D)(k:cz->U D):U D:=o.bind λ d=>(hE d (O ay)).bind λ ds=>pj s ay ds pr k
def pSs(P:hI)(M:J)(s:bW)(R:cz->H bx->(cz->U D)->U D)(pr:cz)(b:H bx)(k:cz->U D):U D:=match b with
 |[]=>k pr
 |st::rest=>stK aa
    (λ u u u u u u u u u u=>aa)
    (λ u u u u u u u u u u u=>aa)
    (λ v u=>match v with
    |some e=>(bJ P M s pr e).1|none=>aa)
    (λ u u=>aa)
    (λ ay e u=>match ay with
    |[t]=>hZ t (λ nm=>bR (sx s nm) ((bJ P M s pr e).1.bind λ d=>R ((nm,d)::pr) rest k))
     (rU t (λ ay=>bR (ay.all fM) (match uN e with
       |some vs=>aiT P M s pr ay vs λ p=>R p rest k|none=>aiU s pr ay (bJ P M s pr e).1 λ p=>R p rest k)) aa)
    |_=>aa)
    (λ u u u u u=>aa)
    (λ t a b u=>(bJ P M s pr t).2.bind λ c=>match c with
    |true=>R pr a λ p=>R p rest k|false=>R pr b λ p=>R p rest k)
    (λ u u u=>aa)
    (λ u u u u u=>aa)
    (λ u u=>aa) st
def jx(P:hI)(M:J)(s:bW)(n:J):cz->H bx->(cz->U D)->U D:=n.rec (λ u u u=>aa) λ u=>pSs P M s
def ka(P:hI)(st:bx)(ds:H D):U D:=match aL (O ds) (O (eU st))with
 |true=>jx P 30 (bz st) 60 ((eU st).zip ds).reverse (bP st) λ u=>B .none|false=>aa
def bY(σ:aE):Prop:=u3 (σ.take 2)=S/\(σ.drop 2).all nX=S/\σ.all (bk (O σ))=S
def RR{A Bq:Type}(i:A->Bq)(o:U A)(m:Ev Bq):Prop:=∀a,o=B a->∀σ,bY σ->m σ=B (.ok (i a),σ)abbrev cQ(o:U D)(m:Ev V):Prop:=RR V.d o m
abbrev fN(o:U aF)(m:Ev aF):Prop:=RR (λ b=>b) o m
theorem kO(h:o=B d)(σ:aE):Ev.ofD o σ=B (.ok (.d d),σ):=L h rfl
section
variable {A Bq IS B' C:Type}{i:A->Bq}{j:IS->B'}{o:U A}{m:Ev Bq}{f:A->U IS}{k:Bq->Ev B'}theorem RR.bind(h:RR i o m)(n:∀a,RR j (f a) (k (i a))):RR j (o.bind f) (m.bind k):=λ c e σ g=>b3 e λ a W l=>Y (aT (h a W σ g)) (n a c l σ g)theorem RR.bindMap{f:A->U C}(h:RR i o m)(n:∀a,RR j ((f a).map l) (k (i a))):RR j ((o.bind f).map l) (m.bind k):=λ c e σ g=>gE e λ q e E=>b3 e λ a W P=>Y (aT (h a W σ g)) (n a c (L P (E.symm▸rfl)) σ g)theorem RR.map{f:A->IS}(h:RR i o m)(n:∀a,k (i a)=.ret (j (f a))):RR j (o.map f) (m.bind k):=λ c e σ g=>gE e λ a W l=>Y (aT (h a W σ g)) (L (n ..) (L l rfl))theorem RR.ret(a:A):RR i (B a) (.ret (i a)):=λ c e σ u=>ax (ak e) rfl
theorem RR.none:RR i aa m:=λ u=>nn
theorem RR.of(o:U A):RR (λ b=>b) o (.of o):=λ c e σ u=>L e rfl
theorem RR.if(h:b=S->RR i o m)(h':b=aj->RR i T M):RR i (match(generalizing:=false) b with|true=>o|false=>T) (match(generalizing:=false) b with|true=>m|false=>M):=match b,h,h' with|true,h,_=>h rfl|false,_,h=>h rfl
theorem RR.cD{k:D->Ev Bq}(h:RR i o (k d)):RR i o ((Ev.read (.d d)).bind k):=h
end
theorem RR.Ua{A Bq:Type}{i:A->Bq}(o:U A):RR i o ((Ev.of o).bind λ c=>.ret (i c)):=λ c e σ u=>L e rfl
theorem cQ.none:cQ aa m:=RR.none
theorem fN.none:fN aa m:=RR.none
theorem cQ.of(o:U D):cQ o (Ev.ofD o):=λ d e σ u=>kO e σ
theorem Ub(h:cQ a M):cQ (a.bind (lh b)) (Ax b M):=h.bind λ u=>cQ.of _
theorem aiV{os:H (U D)}(h:bQ cQ os M):cQ (sy b os) (Az b M):=by induction h with|nil=>exact .none|cons h c I=>induction c with|nil=>exact h|cons=>exact h.bind λ u=>.cD ((RR.of _).bind λ u=>.if (λ u=>.ret _) λ u=>I)theorem aiW{os:H (U aF)}(h:bQ fN os M):fN (Ct c os) (wV c M):=by induction h with|nil=>exact .ret _|cons h _ I=>exact h.bind λ b=>.if (λ u=>.ret b) λ u=>I
theorem Uc{A Bq:Type}{i:A->Bq}{k:V->aF->Ev Bq}{f:D->aF->U A}(h:cQ o m)(n:∀b c,RR i (f b c) (k (.d b) c)):RR i (o.bind λ b=>(cp g a b).bind (f b)) (mq g (.d a) m k):=
 h.bind λ b=>.cD (.cD (ax (zZ g a b) ((RR.of _).bind (n b))))theorem RR.aiX{A Bq C:Type}{i:A->Bq}{l:C->A}{o:U C}{m:Ev Bq}(h:RR (λ c=>i (l c)) o m):RR i (o.map l) m:=λ u e=>gE e λ a W n=>ax n (h a W)
theorem ve(h:∀e,cQ (f e) (g e)):∀(es:H aJ)(ds:H D),j_ f es=B ds->∀σ,bY σ->cE (es.map g) σ=B (.ok (ds.map V.d),σ)
 |[],ds,e,σ,_=>by refine ax (ak e) ?_;rfl|a::es,ds,e,σ,R=>by refine av (rm.mp e) λ d W e=>(av (hR.mp e) λ F l w=>ax w ?_);show(Ev.bind _ _) σ=_;rw[aT (h a d W σ R),aT (ve h es F l σ R)];rfl
theorem Cx:∀ds:H D,fx (ds.map V.d)=B ds
 |[]=>rfl|d::ds=>by show(fx _).map _=_;exact L (Cx ds) rfl
theorem yp{Sq T N:Type}{R:Sq->T->Prop}{f:N->Sq}{g:N->T}(h:∀u,R (f u) (g u)):∀P:H N,bQ R (P.map f) (P.map g)
 |[]=>.nil|u::P=>.cons (h u) (yp h P)def dt(pr:cz)(ρ:az):Prop:=∀n d,pr.lookup n=B d->ρ.lookup n=B (.d d)theorem dt.cons(h:dt pr ρ)(n:ai)(d:D):dt ((n,d)::pr) ((n,.d d)::ρ):=by intro m e p;rw[gY]at p ⊢;cases q:m==n with|true=>rw[q]at p;refine L (ak p) ?_;rfl|false=>rw[q]at p;exact h m e p
theorem aiY:∀{es:H aJ}{ds:H D}{pr P:cz}{ρ:az},qF s es ds pr=B P->dt pr ρ->∃ar,bindNames s es (ds.map V.d) ρ=B ar/\dt P ar:=by
 intro es;induction es with
 |nil=>intro ds pr P ρ e h;exact Cv e (λ u q p=>⟨ρ,L q rfl,ax p h⟩) λ u u u u u q=>nomatch q
 |cons t es I=>intro ds pr P ρ e h;refine Cv e (λ q=>nomatch q) λ T E d F n q1 Q W b e=>?_;obtain⟨rfl,rfl⟩:=kn q1;refine av (I e (h.cons n d)) λ ar X l=>(⟨ar,?_,l⟩);rw[Q,<-X];show(nameOf t).bind _=_;exact L W (eh b)
theorem aiZ{G:Prop}(e:sz s t d pr=B g)(K:∀n p,t=.Name n p->dU s n=S->(n,d)::pr=g->G)(E:∀es c p ds,t=.Tuple es c p->hE d (O es)=B ds->qF s es ds pr=B g->G):G:=
 mr (P:=λ o=>o=B g->G) (λ n p q e=>bN e λ h e=>K n p q (ax (Cr s n) h) (ak e)) (wY (P:=λ o=>o=B g->G) (λ es c p q e=>b3 e λ ds W l=>E es c p ds q W l) λ e=>nn e) e
theorem ai0(e:sz s t d pr=B P)(h:dt pr ρ){GG:Prop}(K:∀ar,lq s t d ρ=B ar->dt P ar->GG):GG:=
 aiZ e (λ n p q b Q=>K _ (L q (eh b)) (ax Q (h.cons n d))) λ es u u ds q W l=>
  av (aiY l h) λ ar v I=>
  K ar (by rw[q];show(hE d _).bind _=_;rw[W];exact v) I
theorem bY.len:∀{σ:aE},bY σ->2<=O σ
 |[],h=>bw h.1|[_],h=>bw h.1|_::_::_,_=>jJ ..
theorem bY.Cy(h:bY σ)(n:l.all nX=S)(R:l.all (bk (O σ+O l))=S):bY (σ++l):=by
 refine⟨?_,?_,?_⟩
 ·rw[aoZ h.len];exact h.1
 ·rw[List.drop_append_of_le_length h.len,zG,h.2.1,n];rfl
 ·simp only[zG,e2,R,Bool.and_true]
  exact b9.mpr λ x K=>Hr (gK ..) (b9.mp h.2.2 x K)
theorem bY.push(h:bY σ)(n:nX m=S)(R:bk (O σ+1) m=S):bY (σ++ [m]):=
 h.Cy (by show(nX m&&S)=S;rw[n];rfl) (by show(bk (O σ+1) m&&S)=S;rw[R];rfl)
class inductive lM(b:aF)(k:J):aE->J->H D->Prop
 |nil {τ j fC} :gH j τ=B (aa,fC)->fC.take k=τ.take k->fC.length=τ.length->lM b k τ j []
 |cons {τ j d fC xs} :(∃m,τ[j]?=B m/\(!owner m||b)=S)->gH j τ=B (B d,fC)->fC.take k=τ.take k->fC.length=τ.length->bY fC->lM b k fC j xs->lM b k τ j (d::xs)
theorem Ud{α:Type}(h:cH<=k){a b:H α}(e:a.take k=b.take k):a.take cH=b.take cH:=by
 obtain this:=aM (List.take cH) e
 rwa [ao0,ao0,zD h]at this
theorem lM.less(h:cH<=k)(x:lM b k g j xs):lM b cH g j xs:=by induction x with|nil a b c=>exact .nil a (Ud h b) c|cons a b c d e _ i=>exact .cons a b (Ud h c) d e i
theorem Ue:∀{js:H J}{σ af:aE}{r:U (H D)},h3 js σ=B (r,af)->h3 js (σ++ext)=B (r,af++ext)
 |[],_,_,_,e=>by obtain p:=bc (ak e);rw[<-p.1,<-p.2];rfl
 |j::js,σ,af,r,e=>Gh e (λ k h s f E P=>Y (jY (iD h)) (Y (eh s) (by
   rw[f,<-P,E];exact aM (λ t=>B _) (ux h)))) λ k d K R h s f e E=>Y (jY (iD h)) (Y (eh s) (by
   rw[f,<-E];show(h3 js _).map _=_;rw[ux h,Ue e];rfl))
theorem IT(e:gH j σ=B r):gH j (σ++ext)=B (r.1,r.2++ext):=
 Gs e (λ js t o e=>OK e λ p u W P v Q=>Y (jY (iD o)) (Y (eh (by
   refine L (dD W) ?_;induction js with
   |nil=>exact aS rfl u|cons=>rfl)) (Y (OJ (iD P)) (Y (eh (oi _)) (by
   rw[ux o,Ue (af:=p.2) v,<-Q];obtain⟨q,V⟩:=p;induction q with
   |none=>rfl
   |some ds=>
    refine aM (λ t=>B (B _,t)) (Y5 _ _ ?_);simp[OC v];exact oR o)))))
  (λ i n o e=>Gu e λ xs s e=>Y (jY (iD o)) (Y (jY (iD s)) (Y (eh (oi n)) (by
    have E:∀m M:cj,((σ++ext).set i m).set j M=(σ.set i m).set j M++ext:=λ m M=>by rw[ux s,Y5 _ _ (L zy (oR o))]
    unfold nD at e ⊢;cases K:xs[n]? with
    |some d=>rw[K]at e;rw[<-ak e];exact aM (λ t=>B _) (E _ _)|none=>rw[K]at e;exact bN e λ h e=>Y (eh h) (ax (ak e) (aM (λ t=>B _) (E _ _)))))))
  (λ l i xs o z e=>Y (jY (iD o)) (Y (rT (iD z)) (by
    refine ax e ?_;cases xs[i]? <;>exact aM (λ t=>B (_,t)) (ux o))))
  λ k q o es e X=>Y (jY (iD o)) (Y (X _) (by
   rw[es,<-e];induction q<;>exact aM (λ t=>B (_,t)) (ux o)))
noncomputable def vf:fu->aF
 |.list .. |.aD .. |.str .. |.ji .. |.rev .. =>S|_=>aj
class inductive n3:fu->H D->Prop
 |nil {k} :vf k=S->stepK k=B aa->n3 k []
 |cons {k cH d ds} :vf k=S->stepK k=B (B (d,cH))->n3 cH ds->n3 k (d::ds)theorem n3.plain(h:n3 k ds):vf k=true:=by induction h<;>assumption
theorem yq(h:vf k=S):(owner (.it k)=aj/\∀n,bk n (.it k)=S)/\∀j g,nextK j k g=(stepK k).map (uq j g):=by induction k<;>first|exact⟨⟨rfl,λ u=>rfl⟩,λ u u=>rfl⟩|exact bw h
theorem Ug(h:(g:H cj)[j]?=B (.it k))(p:vf k=S)(e:stepK k=B q):gH j g=B (uq j g q):=
 Y (jY h) (Y ((yq p).2 j g) (aM _ e))theorem sE{A:Type}{σ l l':H A} :(σ++l).take (O σ)=(σ++l').take (O σ):=Y we we.symm
theorem sF{A:Type}{σ l l':H A}(h:O l=O l'):O (σ++l)=O (σ++l'):=by simp only[e2,h]theorem Uh(g:bY σ){k:fu}{ds:H D}(h:n3 k ds):lM b (O σ) (σ++ [.it k]) (O σ) ds:=by induction h with|nil p e=>exact .nil (fC:=σ++ [.cX]) (Y (Ug h6 p e) (aM (λ t=>B (aa,t)) oT)) sE (sF rfl)| @cons k K d ds p e s i=>exact .cons (fC:=σ++ [.it K]) ⟨.it k,h6,L ((yq p).1.1) rfl⟩ (Y (Ug h6 p e) (aM (λ t=>B (B d,t)) oT)) sE (sF rfl) (g.push rfl ((yq s.plain).1.2 _)) i
theorem Cz{A:Type}{f:J->fu}{g:A->D}{xs:H A}(h:∀i,vf (f i)=S)(d:∀i,stepK (f i)=B ((xs[i]?).map λ a=>(g a,f (i+1)))):∀(l:H A)(i:J),xs.drop i=l->n3 (f i) (l.map g)
 |[],i,e=>.nil (h i) (L (d ..) (L ((mw e).1) rfl))|_::t,i,e=>.cons (h i) (L (d ..) (L ((mw e).1) rfl)) (Cz h d t _ (mw e).2)
theorem Ui:∀(n:J)(a:ah),n3 (.ji a n) (pk a n)
 |0,a=>.nil rfl rfl|n+1,a=>.cons rfl rfl (Ui n _)def vg(b:aF)(σ:aE)(q:U (Res V×aE))(xs:H D):Prop:=∃j g,q=B (.ok (.aH j),g)/\bY g/\g.take (O σ)=σ/\O σ<=O g/\lM b (O σ) g j xs
theorem qG{A:Type}{σ l:H A} :O σ<=O (σ++l):=L e2 (gK ..)
theorem Uj(e:lL v=B xs){GG:Prop}(K:∀k,(n3 k xs/\inner k=S)->(∀σ,g8 (.d v) σ=B (.ok (.aH (O σ)),σ++ [.it k]))->GG):GG:=by
 rcases v with _|_|_|_|s|_|_|_|y|y|⟨_,_⟩
 case ae=>exact K _ ⟨ak e▸(by
   obtain this:=Cz (f:=.list y) (g:=id) (λ u=>rfl) (λ u=>rfl) _ 0 rfl
   rwa [List.map_id]at this),rfl⟩ (λ u=>rfl)
 case aD=>exact K _ ⟨ak e▸(by
   obtain this:=Cz (f:=.aD y) (g:=id) (λ u=>rfl) (λ u=>rfl) _ 0 rfl
   rwa [List.map_id]at this),rfl⟩ (λ u=>rfl)
 case str=>exact K _ ⟨ak e▸(Cz (λ u=>rfl) (λ i=>L Array.getElem?_toList rfl) _ 0 rfl),rfl⟩ (λ u=>rfl)
 all_goals exact nn e
theorem Uk(h:zw a b 1=S)(g:bY σ):vg apu σ (g8 (.aH (O σ)) (σ++ [.hX a b])) (pk a (b-a).toNat):=by obtain G:bY (σ++ [.hX a b]):=g.push rfl rfl;exact(bh _ _ ⟨Y (AJ h6) (eh h),G.push rfl rfl,L (eb ..) we,bA qG qG,(Uh G (Ui (b-a).toNat a)).less qG⟩)
section
variable {A:Type}{σ r:H A}{a b c:A}theorem vh:(σ++a::b::r)[O σ+1]?=B b:=L (pN (gK ..)) (L (Zq ..) rfl)theorem CA:(σ++a::b::r).set (O σ+1) c=σ++a::c::r:=L (Lh _ _ (gK ..)) (L (Zq ..) rfl)
end
theorem Ul:gH (O σ+1) (σ++ [.it (.aD xs i),.it (.enu (O σ) i)])=nD (O σ+1) (O σ) i (σ++ [.it (.aD xs i),.it (.enu (O σ) i)]) xs:=Y (jY vh) (Y (jY h6) (eh (oi i)))
theorem Um(g:bY σ)(i:J):bY (σ++ [.it (.aD xs i),.it (.enu (O σ) i)]):=g.Cy rfl (by
 show(S&&((bE _ (O σ+2)&&S)&&S))=S;rw[cg.mpr (Nat.lt_add_of_pos_right (fp 1))];rfl)
theorem Un(g:bY σ):∀(l:H D)(i:J),xs.drop i=l->i+O l=O xs->lM S (O σ) (σ++ [.it (.aD xs i),.it (.enu (O σ) i)]) (O σ+1) (IP i l)
 |[],i,e,h=>.nil (fC:=σ++ [.cX,.cX]) (Y Ul (by
   unfold nD;exact L ((mw e).1) (Y (eh (cI.mpr h)) (aM _ (L oT (L CA rfl)))))) sE (sF rfl)
 |d::t,i,e,h=>.cons (fC:=σ++ [.it _,.it _]) ⟨_,vh,rfl⟩ (Y Ul (by
   unfold nD;exact L ((mw e).1) (aM (λ t=>B _) (L oT (L CA rfl))))) sE (sF rfl) (Um g _) (Un g t _ (mw e).2 (Y (zf ..) h))noncomputable def gS(ks:H fu):aE:=ks.map cj.it
theorem sG(ks:H fu):O (gS ks)=O ks:=gg ..
def yr(k:fu)(l:H D):Prop:=n3 k l/\inner k=S
theorem ai1(h:inner k=S):h3 (A.length::js) (A++ .it k::Bq)=(stepK k).bind λ q=>match q with
  |none=>B (aa,A++ .cX::Bq)|some p=>(h3 js ((A++ [.it p.2])++Bq)).map λ r=>(r.1.map (p.1:: ·),r.2):=
 Y (jY h6) (Y (eh h) (aM _ (funext λ q=>by
  induction q with
  |none=>exact aM (λ t=>B _) oT|some p=>exact aM (λ t=>(h3 js t).map λ r=>(r.1.map (p.1:: ·),r.2)) (Y oT (Er ..)))))
def Uo(ks:H fu)(A Bq:aE):U (H D×H (H D))->Prop
 |some p=>∃k,bQ yr k p.2/\O k=O ks/\h3 (kk (O A) (O ks)) (A++(gS ks++Bq))=B (B p.1,A++(gS k++Bq))|none=>∃l':aE,O l'=O ks/\h3 (kk (O A) (O ks)) (A++(gS ks++Bq))=B (aa,A++(l'++Bq))
theorem ai2(g:bQ yr ks l):∀A:aE,Uo ks A Bq (sC l):=by
 induction g with
 |nil=>exact λ u=>⟨[],.nil,rfl,rfl⟩
 | @cons k u ks l h j i=>
  intro A;obtain⟨s,n⟩:=h;obtain st:=ai1 (A:=A) (Bq:=gS ks++Bq) (js:=kk (O A+1) (O ks)) n;cases s with
  |nil v e=>exact⟨.cX::gS ks,aM _ (sG ks),Y st (L e rfl)⟩
  | @cons _ K d t v e s=>
   obtain i:=i _;rw[e]at st;have st:h3 (kk (O A) (O (k::ks))) (A++(gS (k::ks)++Bq))=(h3 (kk (O (A++ [cj.it K])) (O ks)) ((A++ [.it K])++(gS ks++Bq))).map λ r=>(r.1.map (d:: ·),r.2):=by rw[e2];exact st
   show Uo _ _ _ (match sC l with|some p=>B _|none=>aa);revert i;induction sC l with|some p=>refine λ i=>gF i λ q o f w=>?_;rw[w]at st;exact⟨K::q,.cons ⟨s,(OU e).2.trans n⟩ o,aM (· +1) f,Y st (aM (λ t=>B _) (Er ..).symm)⟩|none=>exact λ i=>av i λ l' o f=>⟨.it K::l',aM _ o,(f▸st).trans (aM (λ t=>B _) (Er ..).symm)⟩
theorem Up(g:bY σ)(h:bQ yr ks m)(D:js=kk (O σ) (O ks))(p:t=O (σ++gS ks)):bY ((σ++gS ks)++ [.gD (O js),.it (.zip js t)]):=by
 obtain s:∀n,(gS ks).all nX=S/\(gS ks).all (bk n)=true:=λ n=>by clear D p;induction h with|nil=>exact⟨rfl,rfl⟩|cons h d i=>exact⟨i.1,by show(bk n _&&_)=S;rw[(yq h.1.plain).1.2];exact i.2⟩
 apply (g.Cy (s 0).1 (s _).2).Cy rfl;have l:∀j,j<O (σ++gS ks)+1->bE j _=true:=λ j q=>cg.mpr (kl q);refine(?_:(S&&((bE t (O _+2)&&(js.all λ j=>bE j (O _+2)))&&S))=S);rw[l t (ax p (km _)),b9.mpr λ j q=>l j ?_]
 ·rfl
 ·rw[e2,sG];exact kl (List.mem_range'_1.mp (ax D q)).2
theorem ai3(g:bY σ)(y:(!js.isEmpty&&aZ (O js) 1000)=S):∀(N:J){ks:H fu}{m:H (H D)}{xs:H D},vc N m=B xs->bQ yr ks m->js=kk (O σ) (O ks)->t=O (σ++gS ks)->lM S (O σ) ((σ++gS ks)++ [.gD (O js),.it (.zip js t)]) (t+1) xs
 :=by
  intro N;induction N with
  |zero=>exact λ e=>nn e
  |succ N I=>
   intro ks m xs e E F v;obtain s:=ai2 E σ;have x:∀{q:U _}{C:aE},h3 (kk _ _) _=B _->gH (t+1) ((σ++gS ks)++ [.gD (O js),.it (.zip js t)])=B (Gn (t+1) js t (q,C)):=λ d=>by rw[<-F]at d;refine L v (Y (jY vh) (Y (eh y) (Y (OJ h6) (Y (eh (oi _)) ?_))));rw[CA,eb,d];rfl
   have o:∀l l':aE,O l=O l'->∀a b j n:cj,((σ++l)++ [a,b]).take _=((σ++l')++ [j,n]).take _/\O ((σ++l)++ [a,b])=O ((σ++l')++ [j,n]):=λ l l' h a b j n=>by rw[eb,eb];exact⟨sE,sF (L e2 (L e2 (L h rfl)))⟩
   obtain e:(match sC m with
    |some p=>(vc N p.2).map _|none=>B [])=B xs:=e
   cases d:sC m with
   |none=>rw[d]at e s;refine av s λ l' u z=>?_;obtain f:=o l' _ (Y u (sG ks).symm) _ .cX _ _;exact ak e▸.nil (fC:=(σ++l')++ [.gD _,.cX]) (Y (x z) (aM (λ t=>B (aa,t)) (eb ..).symm)) f.1 f.2
   |some p=>
    rw[d]at e s;refine gF s λ k u z P=>(gE e λ V R T=>ax T ?_);obtain f:=o (gS k) (gS ks) (L (sG ..) (L (sG ..) (L z rfl))) (.gD (O js)) (.it (.zip js t)) (.gD (O js)) (.it (.zip js t));have i:=z▸F;obtain Q:t=O (σ++gS k):=by rw[v,e2,e2,sG,sG,z]
    refine .cons (fC:=(σ++gS k)++ [.gD (O js),.it (.zip js t)]) ⟨.it (.zip js t),?_,rfl⟩ (Y (x P) (aM (λ t=>B (B (D.aD p.1),t)) ?_)) f.1 f.2 (Up g u i Q) (I R u i Q)
    ·rw[v];exact vh
    ·rw[<-eb,Q,CA]
theorem Uq:∀{ds:H D}{l:H (H D)},IQ ds=B l->∃ks,bQ yr ks l/\O ks=O ds/\∀σ:aE,HO (ds.map V.d) σ=B (.ok (kk (O σ) (O ks)),σ++gS ks)
 |[],_,e=>ax (ak e) ⟨[],.nil,rfl,λ σ=>aM _ (ea σ).symm⟩|d::ds,l,e=>b3 e λ xs h e=>gE e λ g j e=>by refine Uj h λ k K y=>(gF (Uq j) λ ks i I M=>⟨k::ks,ax e (.cons K i),aM _ I,λ σ=>Y (aT (y σ)) (Y (aT (M _)) ?_)⟩);simp only[e2,eb];rfl
theorem ai4(h:(aL n 2|| (aL n 3||Nat.beq n 4))=S){GG:Prop}(k:∀m,n=m+1->aZ (m+1) 1000=S->GG):GG:=by
 rcases n with _|_|_|_|_|n
 ·exact bw h
 ·exact bw h
 ·exact k 1 rfl rfl
 ·exact k 2 rfl rfl
 ·exact k 3 rfl rfl
 ·exact bw h
theorem ai5(e:ym ds=B xs)(g:bY σ):∃a W,o9 (ds.map V.d) σ=B (.ok a,W)/\vg S σ (g8 a W) xs:=by
 unfold ym at e;cases h:aL _ 2|| (aL _ 3||Nat.beq _ 4)with
 |false=>rw[h]at e;exact nn e|true=>
 rw[h]at e;refine b3 e λ l X j=>(gF (Uq X) λ ks i I K=>ai4 h λ m n N=>(bh _ ((σ++gS ks)++ [.gD _,.it (.zip _ _)]) ⟨?_,_,_,Y (AJ vh) rfl,Up g i rfl rfl,L (eb ..) we,bA qG qG,ai3 g (L List.length_range' (L (I ..) (L n (L N rfl)))) 1000 j i rfl rfl⟩));unfold o9;exact L (gg ..) (L (h ..) (Y (aT (K σ)) (aM (λ t=>B _) (eb ..))))
theorem ai6(e:T_ ds=B xs)(g:bY σ):∃a W,xW (ds.map V.d) σ=B (.ok a,W)/\vg S σ (g8 a W) xs:=by
 refine j2 e λ a E e=>HP e λ y o e=>?_;subst E o
 ·refine(bh _ (σ++ [.it _,.it (.enu _ 0)]) ⟨?_,_,_,Y (AJ vh) rfl,Um g 0,we,qG,ak e▸Un g y 0 rfl (hO _)⟩)
  show B _=_;exact L (eb ..) rfl
theorem Ur(e:(n2 s pr).lookup n=B d):s.names.lookup n=B .free/\pr.lookup n=B d:=
 have q:=O6 e
 ⟨(λ h=>by
    unfold T8 at h;rw[mM]at h;revert h;rcases s.names.lookup n with _|k
    ·exact bw
    ·cases k<;>first|exact bw|exact λ u=>rfl) q.1,q.2⟩theorem dt.free(h:dt pr ρ):dt (n2 s pr) (uD s ρ):=by intro n d e;obtain q:=Ur e;exact Y (GL (p:=λ m=>s.names.lookup m==B tB) n ρ) (L q.1 (h n d q.2))def Us(s:bW)(pr:cz):Prop:=∀n d,pr.lookup n=B d->dU s n=aj
theorem Ut(h:dU s n=aj)(d:dU s m=S):(n==m)=false:=by cases q:n==m with|false=>rfl|true=>exact bw (Y h.symm (L (cI.mp q) d))theorem dt.keep(h:dt pr ρ)(l:Us s pr)(k:∀n,dU s n=aj->ar.lookup n=ρ.lookup n):dt pr ar:=λ n d e=>Y (k n (l n d e)) (h n d e)
theorem IU(N:∀pr ρ,dt pr ρ->∀e,fN (p pr e) (E ρ e))(h:dt pr ρ):∀(cs:H aJ)(b ok:aF),sA p pr b cs=B ok->∀σ,bY σ->xf E ρ b cs σ=B (.ok ok,σ)
 |[],S,ok,e,σ,_=>aM (λ b=>B ((.ok b:Res aF),σ)) (ak e)|[],aj,ok,e,σ,_=>aM (λ b=>B ((.ok b:Res aF),σ)) (ak e)|c::cs,S,ok,e,σ,R=>b3 e λ b W e=>Y (aT (N pr ρ h c b W σ R)) (IU N h cs b ok e σ R)|_::cs,aj,ok,e,σ,R=>IU N h cs aj ok e σ R
theorem ai7{iE:az->aJ->Ev V}(ai8:∀pr ρ,dt pr ρ->∀e,cQ (ai9 pr e) (iE ρ e))(jo:∀pr ρ,dt pr ρ->∀e,fN (pt pr e) (h7 ρ e))(lo:Us P pr):
  ∀(ds o:H D),hs P ai9 pt E G pr ds=B o->∀(N:J)(i:aE)(j:J)(ρ:az)(acc:H D),lM (w9 G.target) k i j ds->bY i->O i=aN->dt pr ρ->O acc+O ds<16777216->O ds<N->
   ∃ar fC,uy G.target (A0 P h7 G λ R=>(iE R E).bind λ v=>(oU aN v).bind λ u=>.ret R) j N ρ (i++ [.ae acc])=B (.ok ar,fC++ [.ae (acc++o)])/\fC.take k=i.take k/\O fC=aN
 :=by
  intro ds;induction ds with
  |nil=>
   intro o e N i j ρ acc dr g x s z Q;induction N with
   |zero=>exact aS Q (zo _)|succ N=>
   cases dr with
   |nil C T f=>refine(bh ρ _ ⟨Y (adF (IT C)) ?_,T,Y f x⟩);rw[<-ak e,ea]
  |cons d ds I=>
   intro o e N i j ρ acc dr g x s z Q;induction N with
   |zero=>exact aS Q (zo _)|succ N=>
   cases dr with
   | @cons _ _ _ W _ h0 C T f F d1=>
    refine av h0 λ m hm dw=>?_;have w_:ll G.target (i++ [.ae acc]) j=true:=by unfold ll;rw[iD hm];exact dw
    refine b3 e λ K f3 e=>b3 e λ ok M e=>(ai0 f3 s λ R mn s1=>?_);have s2:=s.keep lo λ n=>(λ e h=>O3 e (λ m p u dd q=>ax q (L gY (L (Ut h dd) rfl))) λ es c p ds u u M=>(show∀{es:H aJ}{as:H V}{ρ ar:az},bindNames P es as ρ=B ar->dU P n=aj->ar.lookup n=ρ.lookup n from by
      intro es;induction es with
      |nil=>exact λ e u=>uw e (λ u u q=>ax q rfl) λ u u u u u q=>nomatch q
      |cons t es I=>
       intro as ρ ar e h;refine uw e (λ q=>nomatch q) λ m p nF a as' q1 jb dd oy=>?_;obtain⟨rfl,rfl⟩:=kn q1;simp[I oy h,gY,Ut h dd]) M h) mn
    have g2:bY (W++ [.ae acc]):=F.push rfl rfl;obtain Uu:=IU jo s1 G.ifs S ok M _ g2;have z:O acc+1+O ds<16777216:=L (zg ..) z;have Q:=Zk Q;induction ok with|false=>exact e4 (I o e N W j R acc d1 F (Y f x) s2 (gf (pF (hg _) _) z) Q) λ ar fC h1 eE dP=>((bh ar fC ⟨Y (O8 (IT C) w_) (Y (aT (af:=W++ [.ae acc]) ((O9 mn).trans (aT Uu))) h1),Y eE T,dP⟩))|true=>exact b3 e λ v iw e=>gE e λ w k7 eT=>(e4 (I w k7 N W j R _ d1 F (Y f x) s2 (L e2 z) Q) λ ar fC h1 eE dP=>ax eT (L (show acc++v::w=(acc++ [v])++w from Er ..) (bh ar fC ⟨Y (O8 (IT C) w_) (Y (aT (af:=W++ [.ae _]) ((O9 mn).trans ((aT Uu).trans (Y (aT (ai8 K R s1 E v iw _ g2)) (ax (Y f x) (aT (Y (AZ h6 (dD (ik (gf (bA (hg _) (gK ..)) z)))) (aM (λ t=>B _) oT)))))))) h1),Y eE T,dP⟩)))
theorem Uv(bf:aF)(v:∀pr ρ,dt pr ρ->∀e,cQ (p pr e) (u ρ e))(q:∀pr ρ,dt pr ρ->∀e,fN (P pr e) (N ρ e)){first:Ev V}
  (k:dt pr ρ)(l:(g.is_async !=0)=aj)(C:nJ sc0 s=S)(X:hY g.iter=S)(h:bY σ)
  (M:∃a W,first σ=B (.ok a,W)/\vg (w9 g.target) σ (g8 a W) xs)(z:O xs<1000)
  (e:hs s p P E g (n2 s pr) xs=B o):jt bf 1000 sc0 s first u N E [g] ρ σ=match bf with
    |false=>B (.ok (.d (.ae o)),σ)|true=>B (.ok (.aH (O σ)),σ++ [.ae o]):=by
 obtain⟨a,W,F,j,i,m,t,G,Q,R⟩:=M;refine e4 (ai7 v q ((by
   intro n d e;unfold dU;exact L ((Ur e).1) rfl)) xs o e 1000 i j _ [] R t rfl k.free (by show 0+O xs<16777216;rw[hO];exact ZC z (by decide)) z) λ ar fC w T dP=>?_
 have cl:nG s 1000 u N E _ [g] j _ _=B _:=
  Y (eh (aM _ l)) w
 have f:(fC++ [cj.ae o]).take (O σ)=σ:=by rw[aoZ (L dP Q),T,G]
 apply Y (f▸(ad6 (L C (L X rfl)) F m cl (ax dP h6) (L f h.2.2)));induction bf<;>rfl
structure i4(P:hI)(c:Cfg):Prop where
 gl:c.gl=ee
 bf:c.bf=BY
 loops:c.loops=S
 fuel:c.fuel=1000
 item:c.item=lD
 src:∀k nm,vd nm=B k->∃ty f,ee.lookup nm=B (.ty ty)/\c.ty ty=f/\match k with|0=>f=A_|1=>f=o9|_=>f=xW
 mN:∀nm f,P.mN.lookup nm=B f->∃pl,ee.lookup nm=B pl/\∀ds d,f ds=B d->∀σ,bY σ->∀ms,cE ms σ=B (.ok (ds.map V.d),σ)->uK c (.d pl) ms [] [] σ=B (.ok (.d d),σ)
 jw:∀nm g,P.jw.lookup nm=B g->(nm==ep "replace")=aj/\∀r ds d,g r ds=B d->∀σ,bY σ->∀ms,cE ms σ=B (.ok (ds.map V.d),σ)->qh c (.d r) nm ms [] [] σ=B (.ok (.d d),σ)def jy(p:U D×U aF)(o:Ev V×Ev aF):Prop:=cQ p.1 o.1/\fN p.2 o.2
theorem kb:jy sD o:=⟨.none,.none⟩theorem mO(h:cQ a m):jy (kM a) (hr m):=⟨h,h.bind λ d=>RR.of _⟩theorem IV(h:b=S->jy p o):jy (kN b p) o:=match b,h with|true,h=>h rfl|false,_=>kb
theorem Uw(h:jy p o):jy (kN b p) (i2 b o):=match b with|true=>h|false=>kb
theorem ai_(h:jy p o):jy (kN (b&&S) p) (i2 b o):=match b with|true=>h|false=>kb
theorem aja(h:d=S->jy p o):jy (kN (b&&d) p) (i2 b o):=match b,d,h with|true,S,h=>h rfl|true,aj,_=>kb|false,_,_=>kb
theorem ajb:jy (kN (b&&aj) p) o:=match b with|true=>kb|false=>kb
theorem IW(h:∀e,cQ (f e) (g e)):∀o:U aJ,cQ (Cu f o) (wZ (o.map g))
 |none=>.ret _|some e=>h e
theorem Ux{m:H V->Ev V}(h:dc xs=S->m (xs.map V.d)=.ret (.d d)):cQ (a8 (dc xs) (B d)) (m (xs.map V.d)):=λ c e σ u=>by obtain⟨W,j⟩:=dn e;rw[h W,<-ak j];rfl
theorem ajc{m M I d:Ev V}(h:cQ a m)(q:cQ b M)(A:cQ c I)(x:cQ e d):cQ (a.bind λ a=>b.bind λ b=>c.bind λ c=>e.bind λ e=>jn a b c e) (m.bind λ a=>(M.bind λ b=>I.bind λ c=>d.bind λ e=>.ret (b,c,e)).bind λ p=>
 (Ev.read a).bind λ a=>(Ev.read p.1).bind λ b=>(Ev.read p.2.1).bind λ c=>(Ev.read p.2.2).bind λ e=>Ev.ofD (jn a b c e)):=by
 simp[Ev.assoc];exact h.bind λ a=>q.bind λ b=>A.bind λ c=>x.bind λ e=>cQ.of _
theorem Uy(h:Cw s n=S):s.names.lookup n=B .globalImplicit:=by unfold Cw at h;rw[mM]at h;cases e:s.names.lookup n with|none=>rw[e]at h;exact bw h|some k=>rw[e]at h;induction k<;>first|rfl|exact bw h
theorem ajd(h:yo s e=B q){G:Prop}(k:∀nm p W,e=.Call (.Name nm p) q.2.2 [] W->q.2.1=.Name nm p->q.2.2.all fM=S->s.names.lookup nm=B .globalImplicit->vd nm=B q.1->G):G:=
 F_ (P:=λ o=>o=B q->G) (λ f args g W x h=>mr (P:=λ o=>o=B q->G) (λ nm p M h=>b3 h λ i n h=>bN h λ X h=>bN h λ j h=>by
  have X:=bo X;exact((ak h).symm▸k) nm p W (L x (L M (L (k2.mp X.2) rfl))) M X.1 (Uy j) n) nn h) nn h
theorem aje(h:T9 ds=B xs)(R:bY σ):∃a W,A_ (ds.map V.d) σ=B (.ok a,W)/\vg b σ (g8 a W) xs:=by
 rcases ds with _|⟨x,ds⟩;case nil=>exact nn h
 case cons=>
 rcases x with _|_|a|_|_|_|_|_|_|_|⟨_,_⟩
 case int=>
  rcases ds with _|⟨y,ds⟩;case nil=>exact bN h λ d h=>(bh _ _ ⟨rfl,ax (ak h) (Uk d R)⟩)
  case cons=>
  rcases y with _|_|b|_|⟨_,_⟩|_|_|_;case int=>induction ds with|nil=>exact bN h λ d h=>(bh _ _ ⟨rfl,ax (ak h) (Uk d R)⟩)|cons=>exact nn h
  all_goals exact nn h
 all_goals exact nomatch ds<;>exact nn h
section
variable {P:hI}{c:Cfg}(K:i4 P c)
include K
theorem ajf(n:s.names.lookup nm=B .globalImplicit)(I:∀e,cQ (bJ P N s pr e).1 (ba c N s ρ e).1)(args:H aJ):
  cQ ((bJ P N s pr (.Name nm W)).1.bind λ u=>(ie nm P.mN).bind λ g=>(j_ (λ e=>(bJ P N s pr e).1) args).bind g) ((ba c N s ρ (.Name nm p)).1.bind λ pl=>uK c pl (args.map λ e=>(ba c N s ρ e).1) [] []):=
 λ d e σ R=>b3 e λ pl h e=>b3 e λ g j e=>b3 e λ ds v M=>by
  refine av (K.mN nm g (ax (mM nm P.mN) j)) λ F T k=>?_;obtain E:=match N,h with
   |0,h=>nn h
   |N+1,h=>by
    obtain h:(bif Cs nm then aa else match ie nm s.names with
     |some .local|some .cell|some .free=>ie nm pr|some .globalImplicit=>ie nm ee|_=>aa)=B pl:=h
    rw[mM,n]at h;refine dO (Cs nm) (λ i=>?_) λ i=>?_
    ·rw[i]at h;exact nn h
    ·
     rw[i]at h;obtain h:ie nm ee=B pl:=h;rw[mM,T]at h;exact(ak h).symm
  exact Y (aT (E▸I _ pl (by induction N<;>exact h) σ R)) (k ds d M σ R _ (ve I args ds v σ R))
theorem ajg(i:cQ o m)(all:∀es:H aJ,RR (Zz V.d) (j_ f es) (cE (es.map g))):
  jy (kN b (kM ((ie nm P.jw).bind λ h=>o.bind λ d=>(j_ f args).bind (h d)))) (i2 b (match uL nm args []with
    |some ab=>hr (m.bind (Hm ab.1 ab.2))|none=>hr (m.bind λ r=>qh c r nm (args.map g) [] []))):=match b with
 |false=>kb
 |true=>by
  cases p:ie nm P.jw with
  |none=>exact⟨.none,.none⟩
  |some h=>
   obtain⟨M,E⟩:=K.jw nm h (ax (mM nm P.jw) p);obtain n:uL nm args []=none:=by unfold uL;exact L M rfl
   exact L n (mO (i.bind λ r d e σ R=>b3 e λ ds v I=>E r ds d I σ R _ (all args ds v σ R)))
theorem ajh(dd:dt pr ρ)(I:∀e,cQ (bJ P (M+1) r pr e).1 (ba c (M+1) r ρ e).1)(A:∀e,cQ (bJ P M r pr e).1 (ba c M r ρ e).1)(R:bY σ)
  (h:(match yo r it with
       |some q=>(bJ P M r pr q.2.1).1.bind λ u=>(j_ (λ e=>(bJ P M r pr e).1) q.2.2).bind (yn q.1 t)|none=>(bJ P (M+1) r pr it).1.bind lL)=B xs):∃a W,(ba c (M+1) r ρ it).1 σ=B (.ok a,W)/\vg (w9 t) σ (g8 a W) xs:=by
 refine eD (yo r it) (λ E=>?_) λ q E=>?_
 ·
  have h:=E▸h;exact b3 h λ v w N=>(bh _ σ ⟨I _ v w σ R,Uj N λ u s h=>
    (bh _ _ ⟨h σ,R.push rfl ((yq s.1.plain).1.2 _),we,qG,Uh R s.1⟩)⟩)
 ·
  rw[E]at h;refine b3 h λ pl w h=>b3 h λ ds C g=>ajd E λ nm p F q1 l m o Q=>(e4 (K.src _ _ Q) λ ty f t1 h8 T=>?_);obtain n:(ba c M r ρ (.Name nm p)).1 σ=B _:=by
   induction M with
   |zero=>rw[l]at w;exact nn w
   |succ M=>
    refine((L K.gl ?_):p5 c.gl r ρ nm σ=_);unfold p5;obtain⟨nR,pa⟩:=(show(nm==ep "__debug__")=aj/\(nm==ep "__classdict__")=aj from by
      unfold vd qE at Q;rw[ph,ph,ph]at Q;refine dO (nm==ep "range") (λ X=>?_) λ X=>?_
      ·rw[cI.mp X];exact⟨rfl,rfl⟩
      ·
       refine dO (nm==ep "zip") (λ j=>?_) λ j=>?_
       ·rw[cI.mp j];exact⟨rfl,rfl⟩
       ·
        refine dO (nm==ep "enumerate") (λ w=>?_) λ w=>?_
        ·rw[cI.mp w];exact⟨rfl,rfl⟩
        ·
         rw[X,j,w]at Q;exact nn Q)
    simp[nR,pa,o];exact L t1 rfl
  obtain first:(ba c (M+1) r ρ it).1 σ=f _ σ:=by rw[q1];show(i2 _ (hr _)).1 σ=_;exact L m (Y (aT n) (Y (aT (ve A q.2.2 ds C σ R)) (L h8 rfl)))
  exact first.symm▸match q.1,g,T with|0,g,T=>T▸aje g R|1,g,T=>T▸bN g λ b g=>L b (ai5 g R)|k+2,g,T=>L T (bN g λ b g=>L b (ai6 g R))
theorem aji(b:dt pr ρ)(I:∀e,cQ (bJ P (M+1) s pr e).1 (ba c (M+1) s ρ e).1)(j:∀e,cQ (bJ P M s pr e).1 (ba c M s ρ e).1)
  (i:∀(s:bW)(pr:cz)(ρ:az),dt pr ρ->∀e,jy (bJ P (M+1) s pr e) (ba c (M+1) s ρ e))(G:(g.is_async !=0)=aj)(k:nJ s C=S)(v:hY g.iter=S):
  cQ ((match yo s g.iter with
         |some q=>(bJ P M s pr q.2.1).1.bind λ u=>(j_ (λ e=>(bJ P M s pr e).1) q.2.2).bind (yn q.1 g.target)|none=>(bJ P (M+1) s pr g.iter).1.bind lL).bind λ xs=>bR (bE (O xs) 1000) ((hs C (λ pr e=>(bJ P (M+1) C pr e).1) (λ pr e=>(bJ P (M+1) C pr e).2) E g (n2 C pr) xs).map D.ae)) (jt aj 1000 s C (ba c (M+1) s ρ g.iter).1 (λ ρ e=>(ba c (M+1) C ρ e).1) (λ ρ e=>(ba c (M+1) C ρ e).2) E [g] ρ):=by
 exact λ d e σ R=>b3 e λ xs W e=>bN e λ z e=>gE e λ o l m=>m▸
  (Uv aj (λ pr ρ h e=>(i C pr ρ h e).1) (λ pr ρ h e=>(i C pr ρ h e).2) b G k v R (ajh K b I j R W) (cg.mp z) l)
theorem jz:∀(N:J)(q:bW)(pr:cz)(ρ:az),dt pr ρ->∀e,jy (bJ P N q pr e) (ba c N q ρ e):=by
 intro N;induction N using anY with
 |ind N uM=>
 cases N with
 |zero=>exact λ u u u u u=>kb|succ N=>
 intro q pr ρ g e;show jy _ (Hk c (ba c N) q ρ e);obtain m:=uM N (km N);have I:=λ e=>(m q pr ρ g e).1;have R:=λ e=>(m q pr ρ g e).2;have all:=ve I;cases e with
 |Constant k _ _=>exact mO (match k with
   |.none|.bool _|.int _|.float _|.str _=>.ret _|.bytes _|.ellipsis|.complex _ _=>.none)
 |Name nm p=>exact mO (L K.gl ((by
   delta T6 Cs qE;rw[ph,ph];unfold p5;cases X:nm==ep "__debug__" with
   |true=>exact cQ.none
   |false=>
    cases n:nm==ep "__classdict__" with
    |true=>exact cQ.none
    |false=>
     rw[mM,mM,mM];obtain F:∀d,pr.lookup nm=B d->∀σ:aE,Ev.of (ρ.lookup nm) σ=B _:=λ d e σ=>L (g nm d e) rfl;induction q.names.lookup nm with
     |none=>exact cQ.none
     |some k=>
      induction k<;>first|exact cQ.none|exact λ d e σ u=>F d e σ|skip
      intro d e σ u;obtain e:ee.lookup nm=B d:=e;exact L e rfl)))
 |BinOp l j r p=>exact mO ((I l).bind λ x=>(I r).bind λ y=>L (L9 j x y) (cQ.of _))
 |UnaryOp j a p=>exact match j with
  |.Not=>⟨Ub (I a),(R a).map λ u=>rfl⟩|.Invert|.UAdd|.USub=>mO (Ub (I a))
 |BoolOp j es p=>exact⟨aiV (yp I es),aiW (yp R es)⟩
 |Compare l i es p=>exact Uw ⟨(I l).bindMap λ a=>((show∀{os:H _}{E:H _} a,bQ cQ os E->RR _ (yl a i os) (AA (.d a) i E)from by
   induction i with
   |nil=>exact λ _ _=>.none
   |cons j i m=>
    intro os E a h;rcases h with _|⟨h,g⟩
    ·induction i<;>exact .none
    rcases g with _|⟨n,g⟩
    ·rcases i with _|⟨o,i⟩
     ·exact h.bind λ b=>.cD (.cD (ax (zZ j a b) (RR.Ua _)))
     ·exact .none
    ·rcases i with _|⟨o,i⟩
     ·exact .none
     ·refine Uc h λ b c=>?_
      rcases c with _|_
      ·exact .ret _
      ·exact m b (.cons n g)) a (yp I es)).aiX,(I l).bind λ a=>(show∀{os:H _}{E:H _} a,bQ cQ os E->fN (yl a i os) (wR (.d a) i E)from by
        induction i with
        |nil=>exact λ u u=>.none
        |cons j i m=>
         intro os E a h;cases h with
         |nil=>induction i<;>exact .none|cons h g=>
         cases g with
         |nil=>induction i with
          |nil=>exact h.bind λ b=>.cD (.cD (ax (zZ j a b) (RR.Ua _)))|cons=>exact .none
         |cons n g=>induction i with
          |nil=>exact .none|cons=>exact Uc h λ b u=>.if (λ u=>m b (.cons n g)) λ u=>.ret _) a (yp I es)⟩
 |IfExp t a b p=>exact⟨(R t).bind λ u=>.if (λ u=>I a) λ u=>I b,(R t).bind λ u=>.if (λ u=>R a) λ u=>R b⟩
 |Tuple es _ _=>exact Uw (mO (RR.bind (all es) λ xs=>Ux (λ h=>by
   unfold AF;rw[Cx];dsimp only;rw[h])))
 |List es p=>exact aja λ h=>mO (K.bf▸l_ h▸RR.bind (all es) λ xs=>Ux (λ h=>by
   dsimp only[AE];rw[Cx];dsimp only;rw[h]))
 |Subscript v s p=>exact acW (λ lo dk st=>mO (ajc (I v) (IW I lo) (IW I dk) (IW I st))) (mO ((I v).bind λ a=>(I s).bind λ b=>L K.item (cQ.of _)))
 |ListComp elt G Hq p=>
  cases G with
  |nil=>exact kb|cons qk o8=>
  induction o8 with
  |cons=>exact kb|nil=>
  obtain ev:Hk c (ba c N) q ρ (.ListComp elt [qk] Hq p)=i2 c.loops _:=rfl;simp[ev,K.loops,K.bf,K.fuel];induction N with
  |zero=>exact IV λ u=>kb|succ M=>
  refine IV λ jr=>?_;obtain X:=bo jr;obtain n:=bo X.2;obtain cZ:=bo n.2;exact L (l_ cZ.2) (mO (aji K g I (λ e=>(uM M (kl (km M)) q pr ρ g e).1) m (l_ X.1) n.1 cZ.1))
 |Call f args qg pos=>
  induction qg with
  |cons=>exact ajb|nil=>
  exact ai_ (acU (λ nm p e=>L e (IV λ jr=>mO (ajf K (Uy jr) I args))) (acV (λ o nm apos e=>by subst e;exact ajg K (I o) all) kb))
 |_=>exact kb
end
def MK(g:bX)(fd:Em)(st:bx):Kind->Prop
 |.plain _=>∀(s:aU),g.K.StaysIn s.heap->∀vs:H aq,O vs=O (eU st)->zE s fd ⟨vs,[]⟩ ((eU st).zip vs)
 |.opt _=>(∀(s:aU),g.K.StaysIn s.heap->∀vs:H aq,O vs=O (eU st)->zE s fd ⟨vs,[]⟩ ((eU st).zip vs))/\
   ∀(s:aU),g.K.StaysIn s.heap->∀vs:H aq,O vs+1=O (eU st)->zE s fd ⟨vs,[]⟩ ((eU st).zip (vs++ [.none]))
 |.kw=>∀(vs:H aq)(k:H (ai×aq)),O vs=O (eU st)->k.map (·.1)=tU st->rh fd ⟨vs,k⟩=pure ((eU st).zip vs++k)
structure eB(g:bX)(a:ao)(k:Kind)(st:bx):Prop where
 ex:∃fd,ly g a fd (bP st)/\fd.scope=bz st/\MK g fd st k
 free:E9 (bz st)=S
 ahc:(eU st++tU st).all (dU (bz st))=S
theorem B3{n:H ai}(h:n.all (dU s)=S)(as:H V):((n.zip as).all λ p=>dU s p.1)=true:=by rw[b9]at h ⊢;exact λ p u=>h p.1 (List.of_mem_zip u).1
theorem mK{st:bx}(F:eB g a k st)(Bq:Base g)
  (f:∀ρ M e W,dq g M (bz st) e n W->c9 g M W e ρ (fG (bP st) e) (m ρ)):cK g a (n+1) (lE k st m):=by
 refine gF F.ex λ fd N G r=>?_;obtain i:=F.free;obtain A:=F.ahc;rw[zG,jH]at A;obtain⟨E,X⟩:=A;rw[<-G]at i E X f;refine⟨av N.there λ o a b=>(bh o fd ⟨a,b⟩),λ x ok vs as K ks=>?_⟩;have go:∀bf l bs,(bs.all λ p=>dU fd.scope p.1)=S->
   (∀α σ s,aG g x α σ s.heap->bU (x.P++α) α s.heap vs as/\c1 (x.P++α) α s.heap K ks->zE s fd ⟨vs,K⟩ l/\c1 (x.P++α) α s.heap l bs)->
   ag g x (λ α h=>bU (x.P++α) α h vs as/\c1 (x.P++α) α h K ks) (dA x) (KX (.ref a) vs K) (ia bf (m bs.reverse)):=by
  refine λ bf l bs R w=>Bk bf N Bq ok (λ α σ s I p=>⟨(w α σ s I p).1,(w α σ s I p).2,Hh (Hi i)⟩) R λ M e W u u u u c=>?_;rw[ea];exact f _ M e W c
 have plain:∀bf,(∀s,g.K.StaysIn s.heap->∀vs:H aq,O vs=O (eU st)->zE s fd ⟨vs,[]⟩ ((eU st).zip vs))->
   ag g x (λ α h=>bU (x.P++α) α h vs as/\c1 (x.P++α) α h K ks) (dA x) (KX (.ref a) vs K) (nM bf (eU st) m as ks):=by
  intro bf r;unfold nM;cases ks with
  |cons=>exact .au
  |nil=>
   cases z:O as==O _ with
   |false=>exact .au
   |true=>
    intro α σ s j af I t p;obtain v:K=[]:=by obtain⟨_,q⟩:=p;cases q;rfl
    obtain P:O vs=O (eU st):=by rw[p.1.length];simpa using z
    exact go bf _ _ (B3 E as) (λ α σ s I p=>L v ⟨r s I.base vs P,p.1.zip⟩) α σ s j af I t p
 cases k with
 |plain bf=>exact plain bf r
 |opt bf=>
  show ag g x _ _ _ (match aL _ _ with
   |true=>nM bf _ m _ ks|false=>nM bf _ m as ks)
  cases z:aL _ _ with
  |false=>exact plain bf r.1
  |true=>
   have z:=dE z;dsimp only[nM];cases ks with
   |cons=>exact .au
   |nil=>
    refine L (show(O _==O _)=S by simp[z]) ?_;intro α σ s j af I t p;have v:K=[]:=by obtain⟨_,q⟩:=p;cases q;rfl
    obtain P:=p.1.length.symm▸z;exact go bf _ _ (B3 E _) (λ α σ s I p=>L v ⟨r.2 s I.base vs P,(p.1.append (.cons (show a9 _ _ _ .none (.d .none)from aV.none) .nil)).zip⟩) α σ s j af I t p
 |kw=>
  show ag g x _ _ _ (match _==O _&&ks.map _==tU st with
   |true=>ia .plain _|false=>.au)
  cases z:O as==O _&&ks.map _==tU st with
  |false=>exact .au
  |true=>
   obtain⟨C,Q⟩:=bF.mp z;have C:=by simpa using C
   have Q:=by simpa using Q
   intro α σ s j af I t p;have P:=p.1.length.symm▸C;have T:=p.2.keys.symm▸Q;refine go .plain _ _ ?_ (λ α σ s I p=>⟨.of_eq (r vs K P T),p.1.zip.append p.2⟩) α σ s j af I t p;rw[zG,jH];refine⟨B3 E as,?_⟩;rw[b9]at X ⊢;exact λ p hp=>X p.1 (ax Q (iP.mpr ⟨p,hp,rfl⟩))
structure B4(T:b1)(nm:ai)(id:b1):Prop where
 c2:PlainAttrs T
 slot:Slot T nm id
 ty:typeOf (.builtin id)=pure (.type "method_descriptor")
theorem nj{A Bq:Type}[BEq A][LawfulBEq A]{k:A}{b:Bq} :∀{l:H (A×Bq)},l.lookup k=B b->(k,b)∈l
 |[],e=>nn e
 |(m,c)::l,e=>by
  dsimp only[gY]at e;refine dO (k==m) (λ h=>?_) λ h=>?_
  ·
   rw[h]at e;rw[cI.mp h,ak e];exact cV
  ·
   rw[h]at e;exact c7 _ (nj e)
theorem Sr:∀p∈Sh,B4 p.1 p.2.1 p.2.2:=
 AllP.mem (.cons ⟨Es,F.slot_str_join,F.type_str_join⟩ (.cons ⟨Es,F.slot_str_lower,F.type_str_lower⟩ (.cons ⟨Es,F.slot_str_upper,F.type_str_upper⟩
  (.cons ⟨Es,F.slot_str_index,F.type_str_index⟩ (.cons ⟨Es,aoG,F.type_str_format_m⟩ (.cons ⟨Zr,F.slot_list_append,F.type_list_append⟩ (.cons ⟨Zr,aou,F.type_list_reverse⟩
  (.cons ⟨Zr,aoH,F.type_list_index⟩ (.cons ⟨F.plainAttrs_tuple,F.slot_tuple_index,F.type_tuple_index⟩ (.cons ⟨F.plainAttrs_int,F.slot_int_bit_length,F.type_int_bit_length⟩ (.cons ⟨⟨⟨"object.__getattribute__",by rw[k1];lk,by decide+kernel⟩,by rw[k1];lk⟩,R_,rfl⟩
  (.cons ⟨F.plainAttrs_dict,Zl,F.type_dict_get⟩ .nil))))))))))))theorem ahf{id:b1}(e:Si T nm=B id):B4 T nm id:=by refine av (hR.mp e) λ p h w=>ax w ?_;obtain j:=List.find?_some h;obtain⟨a,b⟩:=bF.mp j;simp[<-(by simpa using a),<-(by simpa using b)];exact Sr p (List.mem_of_find?_eq_some h)
structure gn(g:bX):Prop where
 base:Base g
 gl:hh g ee
 cls:∃N jv,oB g gZ N jv/\(∀nm f,rB.lookup nm=B f->ix g jv nm f)/\ix g jv "__init__" tP/\ix g jv "__setitem__" l7/\ix g jv "__delitem__" nh
 pV:tQ g tR pV
 l8:tQ g tS l8
 tab:E8 g ni
 fns:∀a k st,wA.lookup a=B (k,st)->eB g a k st
 hand:∀a c n,Sn a=B c->12<=n->cK g a (n+1) c
theorem Ss(G:gn g):∀a p,mG a=B p->∃code body,x5 code body p/\tQ g a code:=by
 intro a p e;unfold mG at e;refine dO (a==tR) (λ h=>?_) λ h=>?_
 ·
  rw[h]at e;refine ax (ak e) ?_;exact(bh _ _ ⟨⟨λ c s=>(bc (R6 c s)).1▸R7 c s,λ c s=>(bc (R6 c s)).2▸R7 c s,rfl,rfl,rfl,rfl,rfl,rfl,by decide⟩,L (cI.mp h) G.pV⟩)
 ·
  rw[h]at e;refine dO (a==tS) (λ j=>?_) λ j=>?_
  ·
   rw[j]at e;exact ax (ak e) (bh _ _ ⟨⟨λ c s=>(bc (R8 c s)).1▸R9 5 c s (by decide),λ c s=>(bc (R8 c s)).2▸R9 17 c s (by decide),rfl,rfl,rfl,rfl,rfl,rfl,by decide⟩,L (cI.mp j) G.l8⟩)
  ·rw[j]at e;exact nn e
theorem ahg(G:gn g){s:aU}(I:aG g x α σ s.heap)(r:a9 (x.P++α) α s.heap v a)(e:uY σ a=B T):s.TypeIs v T/\∀b,v=.ref b->∃o,s.heap.get? b=B o/\o.dict=none:=by
 have A:∀{b:ao}{o:fe}{T:b1},s.heap.get? b=B o->o.cls=.type T->o.dict=aa->s.TypeIs (.ref b) T/\∀c,hP b=.ref c->∃o,s.heap.get? c=B o/\o.dict=none:=
  λ W j w=>⟨⟨_,W,j⟩,λ c e=>by injection e with e;subst e;exact⟨_,W,w⟩⟩
 induction a with
 |aH i=>
  refine av r λ l n N=>L N (av (I.bM.get n) λ m q X=>?_);unfold uY at e;dsimp only at e;rw[q]at e;induction m with
  |ae xs=>injection e with e;subst e;exact av X λ u C u=>(a7 C λ u h=>A h rfl rfl)
  |fY es=>injection e with e;subst e;exact oL X λ u u u h u=>A h rfl rfl
  |_=>exact nn e
 |d d=>
  rcases d with _|_|z|_|z|_|_|o|z|z|⟨_,_⟩;case str=>obtain rfl:=ak e;obtain⟨_,rfl⟩:=r.inv;exact⟨Lb _ _ _,λ u e=>by cases e⟩
  case int=>obtain rfl:=ak e;obtain⟨_,rfl⟩:=r.inv;exact⟨typeIs_int _ _ _,λ u e=>by cases e⟩
  case ae=>refine ax (ak e) ?_;refine eg r.inv λ u u y u E u=>?_;subst y;exact a7 E λ u h=>A h rfl rfl
  case aD=>refine ax (ak e) ?_;refine eg r.inv λ u u P u M u=>?_;subst P;exact a7 M λ u h=>A h rfl rfl
  case obj=>
   refine cq r.inv λ xy _=>L xy ?_;unfold uY at e;dsimp only at e;refine rY (mG o) (λ p W=>?_) λ W=>?_
   ·
    rw[W]at e;exact ax (ak e) (eM (Ss G o p W) λ u u u R=>(hx R.ex λ k k k k K=>eg K λ k k W j w k=>A (I.base _ _ W) j w))
   ·
    rw[W]at e;refine eD (ni o) (λ j=>?_) λ V j=>?_
    ·rw[j]at e;exact nn e
    ·
     rw[j]at e;refine ax (ak e) ?_;obtain⟨_,f,t,_⟩:=G.tab o V j;exact t8 t λ Bl u u w Q u=>(ff Q λ D F u=>A (I.base _ _ w) D F)
  all_goals exact nn e
theorem Su(G:gn g)(I:aG g x α σ s.heap)(R:a9 (x.P++α) α s.heap v r)(e:uZ σ r nm=B t):
  ∀p (Q:aq×H aq->aU->Prop) E,Q (t.val,[v]) s->aO (a5 g.prog g.w) x.A (Lo v nm p) Q E s:=by
 unfold uZ at e;refine rY (uY σ r) (λ T h=>?_) λ h=>?_
 ·
  rw[h]at e;obtain⟨id,W,rfl⟩:=hR.mp e;obtain M:=ahf W;exact cq (ahg G I R h) λ k b=>λ p Q E=>getMethod_builtin k M.c2 M.slot M.ty b
 ·
  rw[h]at e;cases z:sj gZ σ r nm with
  |false=>rw[z]at e;exact nn e
  |true=>
   refine av (hR.mp (z▸e)) λ f W w=>?_;subst w;exact e4 G.cls λ N D K M u=>(λ p Q E=>(λ K M I r e c=>by
     refine BS I.bM e r λ l m a j d=>?_;subst a;exact si (K.cls.keeps I.base) λ n q bs P sub C F lz fs gB kF p_ V=>(av M.fn λ o i A=>a7 M.obj λ y X=>method_ofFk V (K.cls.keeps I.base).ns K.ga K.gt M.H7 (I.base _ _ i) A X j d c)) K (M _ _ W) I R z)theorem x_(r:c0 P X α h (a::as) (m::ms)):d2 P X α h a m/\c0 P X α h as ms:=by cases r with|cons r q=>exact⟨r,q⟩
theorem So{l:H ao}(h:O l=2):∃p q,l=[p,q]:=by
 rcases l with _|⟨p,_|⟨q,_|⟨r,t⟩⟩⟩
 ·cases h
 ·cases h
 ·exact(bh p q rfl)
 ·cases h
theorem Sp(h:u3 σ=S):σ=bK:=by
 rcases σ with _|⟨a,_|⟨b,_|_⟩⟩
 ·exact bw h
 ·exact bw h
 ·have h:=bo (bo h).2
  rw[ak (B0 h.1),ak (B0 h.2)];rfl
 ·exact bw h
theorem ahd{as:H V}(r:bU X α h vs as)(l:as.all fB=S)(k:∀b o,h.get? b=B o->b∉X->b∉Yq):bU Yq aA h vs as:=by induction r with|nil=>exact .nil| @cons v vs a as r E I=>obtain l:=bo l;refine .cons ?_ (I l.2);induction a with|d d=>exact aV.mono r λ b o e n=>⟨e,k b o e n⟩|aH i=>exact bw l.1
theorem ya{A p P e:H ao} :b∈(A++(p++P))++e ↔ b∈(A++P)++(e++p):=by by_cases W:b∈A<;>by_cases j:b∈p<;>by_cases h:b∈P<;>by_cases I:b∈e<;>simp[h,I]
theorem aG.live(I:aG g x (p++r) (bK++j) h)(z:O p=2)(n:j.all nX=S):∀b∈r,∃o,h.get? b=B o:=by
 intro b s;obtain⟨i,t,e⟩:=List.getElem_of_mem s;obtain E:(p++r)[2+i]?=B b:=by simp[pN _,z,Zq,tD t,e]
 refine av (I.bM.get E) λ m K M=>?_;have f:j[i]?=B m:=by rw[<-((pN (by show 2<=2+i;exact gK ..)).symm.trans K)];congr 1;exact Nat.eq_sub_of_add_eq' rfl
 refine M.there λ q=>?_;subst q;have:=b9.mp n _ (eK f);exact bw this
theorem aG.inner(I:aG g x (s++t) (bK++i) h)(z:O s=2)(Q:i.all nX=S):aG g {x with P:=t++x.P} s bK h:=by
 have N:=rl.mp I.dv;obtain F:=I.bM;refine⟨I.base,I.big,λ b r=>?_,λ b r=>?_,N.1,λ b r q=>?_,?_,I.fr,I.old⟩
 ·rcases r with r|r
  ·rcases bB.mp r with r|r
   ·exact I.b2 b (.inr (aW _ r))
   ·exact I.b2 b (.inl r)
  ·exact I.b2 b (.inr (bL _ r))
 ·rcases bB.mp r with r|r
  ·exact(I.live z Q) b r
  ·exact I.alive b r
 ·rcases bB.mp q with q|q
  ·exact N.2.2 b r b q rfl
  ·exact I.c8 b (bL _ r) q
 ·refine f5 (So z) λ p q w=>?_
  subst w
  ·obtain⟨R,F⟩:=x_ F
   obtain T:=(x_ F).1;obtain k:∀b o,h.get? b=B o->b∉x.P++([p,q]++t)->h.get? b=B o/\b∉(t++x.P)++ [p,q]:=by exact λ b o e n=>⟨e,λ W=>n ((ya (A:=[])).mp W)⟩
   exact .cons ⟨R.1,R.2.mono rfl k⟩ (.cons ⟨T.1,T.2.mono rfl k⟩ .nil)
theorem c0.ahe:∀{p:H ao}{s:aE},O p=O s->c0 P X α h (p++q) (s++τ)->c0 P X α h q τ:=by
 intro p;induction p with
 |nil=>intro s e r;induction s with
  |nil=>exact r|cons=>cases e
 |cons a p I=>intro s e r;induction s with
  |nil=>cases e
  |cons m s=>exact I (zm e) (x_ r).2
theorem aG.outer(I:aG g x (s++t) (bK++τ) h)(z:O s=2)(C:cb x.F x.P)(u:cb x.W x.P)(st:a_ x.F x.W s h s h')(y:∀b∈Sq,h.objs.size<=b)
  (l:∀b∈t,∃o,h.get? b=B o)(j:aG g (Internal.fJ {x with P:=t++x.P} Sq) s bK h'):aG g (Internal.fJ x Sq) (s++t) (bK++τ) h':=by
 have a:∀b o,h.get? b=B o->b∉s->(b∈t\/b∉x.P)->h'.get? b=B o:=by intro b o e n q;have N:=q.elim (λ q=>I.c8 b (aW _ q)) id;exact st.same b o e (λ f=>N (C b f)) (λ f=>N (u b f)) n
 refine⟨j.base,j.big,λ b r=>?_,λ b r=>?_,I.dv,λ b r q=>?_,?_,j.fr,j.old⟩
 ·apply j.b2 b
  rcases r with r|r
  ·rcases bB.mp r with r|r
   ·exact .inl (bL _ r)
   ·exact .inl (aW _ (aW _ r))
  ·rcases bB.mp r with r|r
   ·exact .inr r
   ·exact .inl (aW _ (bL _ r))
 ·apply j.alive b
  rcases bB.mp r with r|r
  ·exact bL _ r
  ·exact aW _ (aW _ r)
 ·rcases bB.mp r with r|r
  ·rcases bB.mp q with q|q
   ·exact j.c8 b r (bL _ q)
   ·exact j.c8 b r (aW _ (aW _ q))
  ·rcases bB.mp q with q|q
   ·exact aS ((λ b r=>I.ny (aW _ (aW _ r))) b r) (ez.mpr (y b q))
   ·exact I.c8 b (aW _ r) q
 ·obtain js:=j.bM
  obtain low:c0 g.w.params ((Sq++x.P)++(s++t)) _ h' t τ:=by
   refine(c0.ahe z I.bM).mono st.size (λ b r=>a7 (l b r) λ o e=>L e (a b o e (λ q=>(rl.mp I.dv).2.2 b q b r rfl) (.inl r))) (λ b o e n=>⟨a b o e (λ q=>n (aW _ (bL _ q))) (.inr λ q=>n (bL _ q)),λ q=>?_⟩) eV;rw[eb]at q;rcases bB.mp q with q|q
   ·exact aS (dI e) (ez.mpr (y b q))
   ·exact n q
  refine f5 (So z) λ p q w=>?_;subst w
  ·obtain⟨R,js⟩:=x_ js
   obtain T:=(x_ js).1;obtain k:∀b o,h'.get? b=B o->b∉(Sq++(t++x.P))++ [p,q]->h'.get? b=B o/\b∉(Sq++x.P)++([p,q]++t):=λ b o e n=>⟨e,λ q=>n (ya.mpr q)⟩;exact .cons ⟨R.1,R.2.mono rfl k⟩ (.cons ⟨T.1,T.2.mono rfl k⟩ low)
theorem yb(K:cK g a n C):cK g a n (fk C):=by
 refine⟨K.there,λ x ok vs as k ks=>?_⟩;intro α σ s m af I M p e Q E N c;delta fk at e;revert e;refine wy (as.all fB&&(ks.isEmpty&&(u3 (σ.take 2)&&(σ.drop 2).all nX))) (λ h=>?_) λ h=>?_
 ·rw[h];exact λ e=>K.call x ok vs as k ks α σ s m af I M p e Q E N c
 rw[h];intro e;obtain⟨g1,h⟩:=bF.mp h;obtain⟨g2,h⟩:=bF.mp h;obtain⟨g3,G⟩:=bF.mp h;obtain lz:=k2.mp g2;subst lz;obtain⟨mu,rV⟩:=p;have fs:k=[]:=by cases rV;rfl
 subst fs;obtain V:σ=bK++σ.drop 2:=by simp[<-(Sp g3),ti]
 generalize σ.drop 2=τ at V G;subst V;obtain R:=(ti ..).symm;have z:O (α.take 2)=2:=by rw[En,I.bM.length];rfl
 generalize α.take 2=h9 at R z;generalize α.drop 2=y at R;subst R;have l:=I.live z G;refine b3 e λ r nB e=>bN e λ h7 e=>?_;obtain⟨o,gO⟩:=r;have w:=Sp h7;subst w;have same:∀{aA:H ao}{h':aX},a_ x.F x.W h9 s.heap aA h'->O aA=2->aA=h9:=by intro aA h' st q;refine av st.ext λ β W u=>?_;subst W;rw[(DZ.mp (by rw[e2]at q;lia):β=[]),ea]
 have up:∀{h':aX},a_ x.F x.W h9 s.heap h9 h'->a_ x.F x.W (h9++y) s.heap (h9++y) h':=λ st=>⟨st.size,⟨[],by simp,λ a q=>(nomatch q)⟩,λ b o e f w n=>st.same b o e f w λ q=>n (bL _ q),λ b o e w n=>st.slot b o e w λ q=>n (bL _ q)⟩;refine K.call {x with P:=y++x.P} (⟨λ b q=>aW _ (ok.cY b q),λ b q=>aW _ (ok.eu b q),ok.frames,ok.handled,ok.depth,ok.units,ok.nolimit⟩) vs as [] [] h9 bK s o bK (I.inner z G) M ⟨ahd mu g1 (λ b o u n q=>n ((ya (A:=[])).mp q)),.nil⟩ nB Q E (λ b r h' D aA X st eX T F=>?_) (λ i1 cl es h' D aA X st T mB=>?_)
 ·subst X
  cases(same st eX.bM.length);induction r with|aH i=>exact nn e|d d=>cases e;apply N b _ h' D _ rfl (up st) (aG.outer (Sq:=[]) I z ok.cY ok.eu st (λ b q=>(nomatch q)) l eX) T;have F:aV _ h' b d:=F;exact F.mono λ b o e n=>⟨e,λ q=>n ((ya (A:=[])).mpr q)⟩
 ·subst X
  cases e;obtain⟨Sq,t,us,lo,j,p3,oN,lb,rs,cH⟩:=mB;cases(same st j.bM.length);refine c i1 cl es h' D _ rfl (up st) T ⟨Sq,t,us,lo,(aG.outer I z ok.cY ok.eu st lo l j),p3,oN,λ b cv q=>lb b cv (aW _ q),rs.mono λ b o e n=>⟨e,λ q=>n (ya.mpr q)⟩,cH⟩theorem yc{id:b1}{F:b1->aq}(h:AllP (λ p=>eN g x (F p.1) p.2) l):eN g x (F id) (nW (l.lookup id)):=by intro vs as;cases e:l.lookup id with|none=>exact .au|some f=>exact h.mem _ (nj e) vs as
theorem ahh(h:x.A.units+200<rk):eN g x (.type "str") Ig:=by
 intro vs as;intro α σ s o af I t p e;unfold Ig at e;refine rY (e5 uH as σ) (λ r E=>?_) λ E=>?_
 ·rw[E]at e;exact(Ba λ u u u e u u u=>str_int e) vs as α σ s o af I t p (Y E e)
 ·rw[E]at e;exact Rb (by lia) vs as α σ s o af I t p e
def qw(g:bX)(n:J)(ct:ao->U bV):Prop:=∀a C,ct a=B C->xG g a n C/\(a≠gZ->cK g a n C)
theorem nY(G:gn g)(da:0<n)(h:qw g n ct):gP g (eG ct) n:=by
 refine la G.cls λ N jv K M x6 uT ahi=>?_;refine⟨λ z=>da,G.gl,λ a C e=>(h a C e).1,λ id x ok=>have fq:=ok.handled da
   have mi:=ok.u
   yc (.cons Py (.cons Pz (.cons ((Ba λ i t r e s Q E c=>by
     obtain e:=dn e;exact P.chr_of_int (by rw[aoI];lia) (c _ _ (ax (ak e.2) (.str _ _))))) (.cons aef (.cons ((Ba λ u u u e u u u c=>PyProof.Rows.call_abs_int λ u u=>c _ _ (ax (ak e) (.int _ _)))) (.cons (aeh fq) (.cons (Q6 fq (.inl rfl)) (.cons (Q6 fq (.inr rfl))
    (.cons ((by
       intro vs as
       match as with
       |[]=>exact .au|[_]=>exact .au|_::_::_::_=>exact .au|[a,b]=>
       induction b with
       |aH=>exact .au|d bd=>
       rcases bd with _|_|_|_|_|t|_|_|_|_|⟨_,_⟩
       case ty=>
        refine r8 λ v u=>(ag.ghost (λ α h=>oX) λ d=>ag.toV ?_);cases e:HR d t with
        |none=>exact .au
        |some r=>
         refine ag.wp λ α σ s I T p Q E c=>L ((r7 p.1).inv) ?_;rcases d with _|b|_|b|_|_|_|_|_|_|⟨_,_⟩;case bool=>exact bN e λ h7 e=>L (cI.mp h7) (L p.2.bool (call_isinstance_yes rfl meta_bool rfl (c _ s.heap s.toks (λ w w e=>e) (bH _) (ak e▸.bool _))))
         case aR=>refine bN e λ h7 e=>L (cI.mp h7) (av p.2.aR λ w Ij w=>L Ij ?_);exact call_isinstance_yes rfl meta_float rfl (c _ s.heap s.toks (λ w w e=>e) (bH _) (ak e▸.bool _))
         all_goals exact nn e
       all_goals exact .au)) (.cons (oW (λ v d r e α σ s I T p Q E c=>by
         cases d with
         |none=>obtain rfl:=ak e;refine L p.inv ?_;exact P.repr_of_none (c _ s.heap _ (λ u u e=>e) (bH _) (.str _ _))
         |_=>exact nn e)) (.cons Ra (.cons (af7 ok.cY) (.cons (af8 ok.cY) (.cons af_ (.cons ((Px λ u u u e u u u c=>have e:=dn e;SCL.lower (b8 e.1) λ u=>c _ _ (ax (ak e.2) (.str _ _)))) (.cons ((Px λ u u u e u u u c=>have e:=dn e;SCL.upper (b8 e.1) λ u=>c _ _ (ax (ak e.2) (.str _ _)))) (.cons ((by
           refine HU (λ a b=>rfl) (HV rfl (λ w=>rfl) λ w w w w=>rfl) (λ v u Ik db=>?_);rcases Ik with _|_|_|_|z|_|_|_|_|_|⟨_,_⟩
           case str=>
            rcases db with _|_|_|_|y|_|_|_|_|_|⟨_,_⟩;case str=>apply ag.toV;cases e:BN z y with|none=>exact .au|some r=>refine ag.wp λ α σ s I T p Q E c=>?_;obtain⟨t,rfl⟩:=p.1.str;obtain⟨el,rfl⟩:=p.2.str;unfold BN at e;cases o5:K9 z y 0 z.length 1 with|nil=>rw[o5]at e;exact nn e|cons i rest=>rw[o5]at e;obtain rfl:=ak e;exact SC.index o5 (c _ s.heap _ (λ w w e=>e) (bH _) (.int _ _))
            all_goals exact .au
           all_goals exact .au)) (.cons (agb G.base mi)
    (.cons ((by
       refine HU (λ a b=>rfl) (HV rfl (λ w=>rfl) λ w w w w=>rfl) (λ v u Ik db=>?_);rcases Ik with _|_|_|_|_|_|_|_|xs|_|⟨_,_⟩
       case ae=>
        dsimp only;cases i1:jX g6 xs db with
        |none=>exact .au|some b=>
        induction b with
        |false=>exact .au|true=>
        cases xm:dc xs with
        |false=>exact .au|true=>
        cases e:(o_ db xs).map λ j=>D.int _ with
        |none=>exact .au
        |some r=>
         refine av (hR.mp e) λ j um ahj=>?_;refine ax ahj ?_;refine ag.wp λ α σ s I T p Q E c=>(e4 p.1.ml λ l ws ahk ahl rs=>?_);refine L ahk ?_;obtain⟨Rz,hC⟩:=ahl;obtain⟨f,c5,cw,cZ,fw⟩:=Rf (A:=x.A.in1) (wQ G.base.booked I.base) (un mi (by decide)) p.2.zero (rs.mono λ b o e w=>⟨e,dS⟩) i1 um;obtain fz:(j:ah)<2^63-1:=by have:=rs.length;have:=b8 xm;lia
         exact D4 aoH ⟨_,hC,rfl⟩ PySem.F.entry_list_index (PySem.F.args_list_index_2 _ _) (list_indexAt l ws.toArray Rz aa #[] u f j _ fz (cZ) λ m hm hlt=>fw m _ hlt)
          ⟨hC,λ y x4=>c5 y (by simpa using x4),c _ s.heap _ (λ w w e=>e) (bH _) (.int _ _)⟩
       all_goals exact .au)) (.cons (agn G.base G.tab) (.cons ag2 (.cons (agX (Ss G)) .nil)))))))))))))))))))))),λ id x ok=>yc (.cons ((oW (λ v d r e α σ s I T p Q E c=>by
         have z:∀{i:ah},B _=B r->∀t T,Q (.int i t) {s with toks:=T} :=λ e w w=>c.plain _ _ (ax (ak e) (.int _ _));rcases d with _|b|i|u|_|_|_|_|_|_|⟨_,_⟩;case int=>obtain⟨t,rfl⟩:=p.int;exact PySem.call_int_int (z e _ _)
         case bool=>refine L p.bool ?_;exact PySem.call_int_bool (z e _ _)
         case aR=>refine av p.aR λ t Ij w=>?_;refine L Ij ?_;obtain e:(match y6 u with|.fin b_ m e=>B _|_=>aa)=B r:=e;cases hd:y6 u with|fin b_ m ex=>rw[hd]at e;exact PySem.call_int_float hd (z e _ _)|_=>rw[hd]at e;exact nn e
         all_goals exact nn e))) (.cons (ahh ok.u) (.cons (af0 (ok.handled da)) (.cons ((by
           intro vs as
           match as with
           |[]=>exact .au|[a]=>exact G8 λ v=>G7 (λ w w=>qd) λ b t ev=>L ev (PC λ s Q E c=>call_range_1 (c _ _ _ _ (ip (hg _))))|[a,b]=>exact r8 λ v u=>G7 (λ w w=>oX) λ a t f3=>G7 (λ w w=>r7) λ b el ho=>f3▸ho▸PC λ s Q E c=>call_range_2 (c _ _ _ _ (gK _ _))|_::_::_::_=>exact .au)) (.cons (aea) (.cons (afZ) (.cons (afX ok.cY ok.eu) (.cons (af4) .nil)))))))),λ x α σ s v r nm t ok I g9 e=>?_,
  λ x ok v a nm=>(by
    intro α σ s R af I T p e Q E c he;refine Rv e λ i j es i1 dk qb fz e=>b3 e λ Hp hk e=>nv e λ k ev e=>?_;obtain iE:=bc (ak e);subst i1 qb ev;refine av p λ a hy w44=>?_;refine L w44 ?_;refine la (instFk_of I.bM dk fz hy) λ b m cv w V w jb=>?_;obtain⟨u,mi,ahm,hu',rfl⟩:=jb nS _ hk;refine si (K.cls.keeps I.base) λ nm q bs sn sub col x3 lz fs gB kF p_ hF=>?_;exact load_attrFk hF (K.cls.keeps I.base).ns K.ga K.hd Rw V mi rfl (c _ _ s.heap _ α iE.1.symm (.refl ..) (ax iE.2 I) (ip T) ⟨ahm,hu',rfl⟩)),λ x ok v a u b X slice z=>Rq v a u b X slice,λ x ok v a u b w d=>?_,λ x ok v a w d kz=>agA ok.cY v a w d kz,
  λ x ok v a nm w d=>agv ok.cY K v a nm w d,λ x ok v a u b=>?_⟩
 ·obtain e:(match uZ σ r nm with
   |some (.fn f)=>match ct f with
    |some _=>B _|none=>aa
   |t=>t)=B t:=e
  refine eD (uZ σ r nm) (λ em=>?_) λ el em=>?_
  ·rw[em]at e;exact nn e
  ·
   rw[em]at e;induction el with
   |bi id=>refine ax (ak e) ?_;exact⟨λ a e=>(nomatch e),Su G I g9 em⟩
   |fn f=>
    dsimp only at e;refine eD (ct f) (λ F=>?_) λ C F=>?_
    ·rw[F]at e;exact nn e
    ·rw[F]at e;refine ax (ak e) ?_;exact⟨λ a e=>by injection e with e;subst e;exact⟨_,F⟩,Su G I g9 em⟩
 ·intro α σ s R af I T p e
  obtain e:(match sj gZ σ a "__setitem__" with
   |true=>match ct l7 with
    |some W=>uS gZ "__setitem__" W a [b,d] σ|none=>aa
   |false=>qu a b d σ:U _)=B _:=e
  refine wy (sj gZ σ a "__setitem__") (λ dk=>?_) λ dk=>?_
  ·
   rw[dk]at e;exact Sd ok.cY v a u b w d α σ s R af I T p e
  ·
   rw[dk]at e;refine eD (ct l7) (λ F=>?_) λ W F=>?_
   ·rw[F]at e;exact nn e
   ·
    rw[F]at e;exact agE K uT ((h _ _ F).2 (by decide)) ok v a u b w d α σ s R af I T p e
 ·show ag g x _ _ _ (match ct nh with
   |some W=>uS gZ "__delitem__" W a [b]|none=>.au)
  cases F:ct nh with
  |none=>exact .au
  |some W=>exact(by
    intro α σ s R af I T p e Q E c he;refine BS I.bM (bN e λ h w=>h) p.1 λ l m w43 V w=>?_;subst w43;refine dT (aB (R1 K I V (aB (R2 K ahi ((h _ _ F).2 (by decide)) ok _ a [u] [b] α σ s R af I T ⟨p.1,.cons p.2 .nil⟩ e _ _ (λ r p8 h' el aA dw st eX j0 di=>?_) he))));induction r with
    |none=>exact aS rfl di|some r=>exact bl (c () () h' el aA dw st eX j0 trivial))theorem nZ(G:gn g)(n:J):gP g fj n:=⟨λ e=>(bw e),G.gl,λ u u e=>(nn e),λ u u u u u=>.au,λ id x ok=>yc (.cons (Rb (gf (oe (by decide) _) ok.u)) .nil),λ u u u u u u u u u u u e=>(nn e),λ u u u u u=>.au,λ u u u u u u u u u=>.au,λ u u u u u u u u=>.au,λ u u u u u u u=>.au,λ u u u u u u u=>.au,λ u u u u u u=>.au⟩noncomputable def fQ(pr:cz):az:=pr.map λ p=>(p.1,V.d p.2)theorem ajj(h:b=S):(match(generalizing:=false) b with|true=>m|false=>.au:Ev az)=m:=L h rfl
theorem gdS(h:b=S):gQ b m=m:=L h rfl
inductive Ends(pr:cz)(ρ:az)(k:cz->U D)(d:D)(σ:aE):U (Res (f6×az)×aE)->Prop
 |ret {ar} :Ends pr ρ k d σ (B (.ok (.ret (.d d),ar),σ))
 |next {IX ar} :dt IX ar->(ρ=fQ pr->ar=fQ IX)->k IX=B d->Ends pr ρ k d σ (B (.ok (.next,ar),σ))theorem Ends.go{pr p:cz}{ρ ar:az}{k:cz->U D}{d:D}{σ:aE}{m:cy}{f:az->cy}(h:m σ=B (.ok (.next,ar),σ))(i:ρ=fQ pr->ar=fQ p)(e:Ends p ar k d σ (f ar σ)):Ends pr ρ k d σ (b5 m f σ):=by refine L (show b5 m f σ=f ar σ from aT h) ?_;generalize f ar σ=q at e;cases e with|ret=>exact .ret|next a b c=>exact .next a (λ q=>b (i q)) c
theorem Uz(h:m σ=B (.ok ar,σ)):lA m σ=B (.ok (.next,ar),σ):=aT h
section
variable {P:hI}{c en:Cfg}(K:i4 P c)
include K
theorem UN:∀{ay:H aJ}{ds:H D}{pr f:cz}{ρ:az},qF s ay ds pr=B f->dt pr ρ->∀{GG:Prop},(∀ar,qm c M s ay (ds.map V.d) ρ σ=B (.ok ar,σ)->dt f ar->(ρ=fQ pr->ar=fQ f)->GG)->GG:=by
 intro ay;induction ay with
 |nil=>intro ds pr f ρ e h GG k;exact Cv e (λ u q p=>k ρ (L q rfl) (p▸h) (p▸id)) λ u u u u u q=>nomatch q
 |cons t ay i=>intro ds pr f ρ e h GG k;refine Cv e (λ q=>nomatch q) λ T E d F n q1 Q W b j=>?_;obtain⟨rfl,rfl⟩:=kn q1;obtain⟨p,rfl⟩:=AY W;exact i j (h.cons n d) λ ar X l v=>k ar (L Q (Y (aT (pI (ajj b) σ)) X)) l λ q=>v (aM _ q)
theorem IY(h:dt pr ρ):∀(N:H (ai×D)),dt (N++pr) (N.map (λ p=>(p.1,V.d p.2))++ρ)
 |[]=>h|(n,d)::N=>(IY h N).cons n d
theorem zip_map(n:H ai)(ds:H D):(n.reverse.zip (ds.map V.d).reverse).reverse=((n.reverse.zip ds.reverse).reverse).map λ p=>(p.1,V.d p.2):=by refine ax LI ?_;rw[ao1,LI];congr 1
theorem UO:∀(N:J)(pr:cz)(ρ:az)(b:H bx)(k:cz->U D)(d:D)(σ:aE),jx P M s N pr b k=B d->dt pr ρ->bY σ->Ends pr ρ k d σ (b4 c en M s N ρ b σ):=by
 intro N;induction N with
 |zero=>intro pr ρ b k d σ e;exact nn e|succ N I=>
 intro pr ρ b k d σ e i R;have x:=λ e=>(jz K M s _ _ i e).1;induction b with
 |nil=>exact .next i id e|cons st rest=>
 rcases st with⟨_,_,_,_,_,_,_,_,_,_⟩|⟨_,_,_,_,_,_,_,_,_,_⟩|⟨_,_,_,_,_,_,_,_,_,_,_⟩|⟨v,p⟩|⟨_,_⟩|⟨ay,E,p⟩|⟨_,_,_,_,_,_,_⟩|⟨_,_,_,_⟩|⟨_,_,_,_,_⟩|⟨_,_,_,_,_⟩|⟨_,_,_,_,_⟩|⟨_,_,_,_⟩|⟨t,a,b,p⟩|⟨_,_,_⟩|⟨_,_,_⟩|⟨_,_,_⟩|⟨_,_,_⟩|⟨_,_,_,_,_⟩|⟨_,_,_,_,_⟩|⟨_,_,_⟩|⟨_,_⟩|⟨_,_,_,_⟩|⟨_,_⟩|⟨_,_⟩|⟨_,_⟩
 case Return=>
  rcases v with _|E;case none=>exact nn e
  case some=>obtain h:=aT (x E d e σ R);exact L (show b4 c en M s (N+1) ρ (.Return (B E) p::rest) σ=_ from aT h) .ret
 case If=>
  refine b3 e λ q W e=>?_;obtain t1:=(jz K M s pr ρ i t).2 q W σ R;have Q:∀y,jx P M s N pr y _=B d->fL (ba c M s ρ t).2 _ _ σ=b4 c en M s N ρ y σ->Ends pr ρ k d σ _:=λ y l z=>by
   obtain r:=I pr ρ y _ d σ l i R;rw[<-z]at r;have f:∀q,fL (ba c M s ρ t).2 _ _ σ=q->Ends pr ρ _ d σ q->Ends pr ρ k d σ (b4 c en M s _ ρ _ σ):=λ q dp r=>by induction r with|ret=>exact L (show b4 c en M s (N+1) ρ (.If t a b p::rest) σ=_ from aT dp) .ret|next a b c=>exact .go dp b (I _ _ rest k d σ c a R)
   exact f _ rfl r
  exact match q,e,t1 with|true,e,t1=>Q a e (aT t1)|false,e,t1=>Q b e (aT t1)
 case Assign=>
  cases ay with
  |nil=>exact nn e|cons t ay=>
  induction ay with
  |cons=>exact nn e|nil=>
  refine mr (P:=λ o=>o=B d->Ends pr ρ k d σ _) (λ nm q u e=>?_) (wY (P:=λ o=>o=B d->Ends pr ρ k d σ _) (λ ay Hw q u e=>?_) λ e=>nn e) e<;>refine L u ?_
  ·skip
   refine bN e λ A e=>b3 e λ a W l=>(.go (m:=fb s nm (ba c M s ρ E).1 ρ) (ar:=(nm,.d a)::ρ) ?_ (λ q=>L q rfl) (I _ _ rest k d σ l (i.cons nm a) R));unfold fb;rw[<-Cr,A];exact aT (x E a W σ R)
  ·skip
   refine bN e λ da e=>?_;have f:∀{m:cy}{g ar},(match uN E with|some vs=>se c M s ay vs ρ|none=>Qm c M s ay (ba c M s ρ E).1 ρ)=m->m σ=B _->dt g ar->(ρ=fQ pr->ar=fQ g)->jx P M s N g rest k=B d->Ends pr ρ k d σ (b4 c en M s (N+1) ρ (.Assign [.Tuple ay Hw q] E p::rest) σ):=λ{m g ar} hm h a b c'=>by refine .go (m:=gQ _ _) (ar:=ar) ?_ b (I g ar rest k d σ c' a R);rw[da,K.loops];exact Y (pI hm σ) h
   refine eD (uN E) (λ u=>?_) λ vs u=>?_
   ·
    rw[u]at e f;refine b3 e λ a W e=>b3 e λ ds l e=>?_;rw[IL]at e;exact b3 e λ g z e=>(UN K z i λ ar X c4 C=>f rfl (Y (aT (x E a W σ R)) (Uz (Y (aT (l▸rfl)) X))) c4 C e)
   ·
    rw[u]at e f;refine bN e λ nI e=>b3 e λ w hw e=>?_;induction w with
    |none=>refine b3 e λ ds W e=>?_;rw[IL]at e;exact b3 e λ g l e=>UN K l i λ ar X c4 C=>f (show se c M s ay vs ρ=(cE _).bind λ as=>lA (qm c M s ay as ρ) by unfold se;rw[nI,hw];rfl) (Y (aT (ve x vs ds W σ R)) (Uz X)) c4 C e
    |some j=>
     refine bN e λ A e=>b3 e λ ds W e=>cq (T7 e) λ cL e=>?_;have T:(j.reverse.zip ds.reverse).reverse=j.zip ds:=by show(pJ Prod.mk j.reverse ds.reverse).reverse=_;rw[<-List.reverse_zipWith cL,List.reverse_reverse];rfl
     have T:=T▸zip_map K j ds;refine f (ar:=(j.reverse.zip (ds.map V.d).reverse).reverse++ρ) (show se c M s ay vs ρ=gQ _ _ by unfold se;rw[nI,hw];rfl) (Y (pI (gdS (ax A (aM j.all (funext λ n=>(Cr s n).symm)))) σ) (aT (ve x vs ds W σ R))) (L T (IY K i _)) (λ q=>?_) e;rw[T,q];exact(vP ..).symm
 all_goals exact nn e
theorem IZ(N:J)(pr:cz)(ρ:az)(b:H bx)(k:cz->U D)(d:D)(σ:aE)(e:jx P M s N pr b k=B d)(f:dt pr ρ)(R:bY σ):
  (∃ar,b4 c en M s N ρ b σ=B (.ok (.ret (.d d),ar),σ))\/∃p ar,b4 c en M s N ρ b σ=B (.ok (.next,ar),σ)/\(dt p ar/\(ρ=fQ pr->ar=fQ p))/\k p=B d:=by
 obtain h:=UO K N pr ρ b k d σ e f R;generalize b4 c en M s N ρ b σ=q at h;induction h with|ret=>exact .inl ⟨_,rfl⟩|next a b c=>exact .inr (bh _ _ ⟨rfl,⟨a,b⟩,c⟩)
theorem UP{st:bx}(e:ka P st ds=B d)(R:bY σ):lE (.plain .plain) st (λ ρ=>b4 c en 30 (bz st) 60 ρ (bP st)) (ds.map V.d) [] σ=B (.ok (.d d),σ):=by
 refine bN e λ z e=>?_;obtain s:=by obtain k:=IY K (pr:=[]) (λ u u=>nn) ((eU st).zip ds).reverse;rw[ea,ea,LI]at k;exact ao1▸k
 delta lE nM;dsimp only;refine L (show(O _==O _)=S by rw[gg];exact cI.mpr (dE z)) ?_;obtain h:=UO K 60 _ _ _ _ d σ e s R;generalize G:b4 c en 30 _ 60 ((eU st).zip _).reverse _ σ=q at h;induction h with|ret=>exact Y (xD G R.2.2) Bi|next a b c=>exact Y (xD G R.2.2) (Y Bj (ax (ak c) rfl))
end
def sH(σ:aE):Bool:=u3 (σ.take 2)&&((σ.drop 2).all nX&&σ.all (bk (O σ)))theorem UQ(h:sH σ=S):bY σ:=cq (bF.mp h) λ W j=>cq (bF.mp j) λ j v=>⟨W,j,v⟩def cx(f:H D->U D):bV:=λ as ks σ=>bR ks.isEmpty ((fx as).bind λ ds=>bR (sH σ) ((f ds).map λ d=>(.ok (.d d),σ)))
theorem UR:∀{as:H V}{ds:H D},fx as=B ds->as=ds.map V.d
 |[],ds,e=>by refine ax (ak e) ?_;rfl|a::as,ds,e=>by induction a with|aH i=>exact nn e|d d=>exact av (hR.mp e) λ F h w=>ax w (L (UR h) rfl)
theorem ys(e:cx f as ks σ=B (r,af)){G:Prop}(k:∀ds d,as=ds.map V.d->ks=[]->bY σ->f ds=B d->r=.ok (.d d)->af=σ->G):G:=
 bN e λ h e=>b3 e λ ds j e=>bN e λ v e=>gE e λ d I e=>have p:=bc e;k ds d (UR j) (k2.mp h) (UQ v) I p.1.symm p.2.symm
theorem sI(h:f ds=B d)(g:sH σ=S):cx f (ds.map V.d) [] σ=B (.ok (.d d),σ):=by show(fx _).bind _=_;simp[Cx,gM,g,h];rfl
theorem cK.less(K:cK g a n C)(h:∀as ks σ r,ajk as ks σ=B r->C as ks σ=B r):cK g a n ajk:=
 ⟨K.there,λ x ok vs as k ks α σ s o af I t p e=>K.call x ok vs as k ks α σ s o af I t p (h as ks σ _ e)⟩theorem kP(G:gn g)(V:0<n)(h:qw g n ct)(K:i4 P (eG ct)){st:bx}(M:wA.lookup a=B (.plain .plain,st))(b:∀ds d,f ds=B d->ka P st ds=B d):cK g a (n+1) (cx f):=by refine cK.less (mK (G.fns a _ st M) G.base λ ρ x E o c=>lB (nZ G 0) 30 60 _ _ _ _ _ _ _ (nY G V h) c) λ as ks σ r e=>?_;obtain⟨r,af⟩:=r;refine ys e λ ds d T i R W s D=>?_;subst T i s D;exact UP K (b ds d W) R
def pick(h:aX)(p:ao->aF):Heap:=⟨h.objs.mapIdx λ i o=>if p i then o else l6,h.life⟩theorem Sv(h:aX)(p:ao->aF)(b:ao):(pick h p).get? b=if p b then h.get? b else none:=by delta pick D1;refine L (YE) ?_;cases e:h.objs[b]? with|none=>simp|some o=>cases m:p b<;>rfl
theorem Il:(pick h p).get? b=B o ↔ p b=S/\h.get? b=B o:=by refine L (Sv ..) ?_;cases m:p b<;>exact Option.ite_none_right_eq_some
noncomputable def B6(g:bX)(l:H ao)(i:ao):Bool:=(g.K.get? i).isSome||l.contains i
def ext(g:bX)(h:aX)(l:H ao):bX:={g with K:=pick h (B6 g l) }
theorem yd(I:aG g x α σ h)(e:g.K.get? b=B o):(ext g h l).K.get? b=B o:=
 Il.mpr ⟨by unfold B6;rw[e];rfl,I.base b o e⟩
theorem B7(q:b∈l)(e:h.get? b=B o):(ext g h l).K.get? b=B o:=
 Il.mpr ⟨by unfold B6;rw[oo.mpr q,Zt],e⟩
theorem aG.aho(I:aG g x α σ h)(z:∀a∈l,a∉x.P/\a∉α):aG (ext g h l) x α σ h:=by
 refine⟨λ b o e=>(Il.mp e).2,I.big,λ a c=>⟨?_,(I.b2 a c).2⟩,I.alive,I.dv,I.c8,I.bM,I.fr,I.old⟩;show(pick h _).get? a=aa;rw[Sv,a6];unfold B6;refine L ((I.b2 a c).1) ?_;obtain this:l.contains a=false:=by rw[YF];intro q;rw[oo]at q;exact c.elim (z a q).1 (z a q).2
 rw[this];exact hN
theorem aG.sl(I:aG g x α σ h)(j:aG (ext g h l) X aA af h'):aG g X aA af h':=by refine⟨λ b o e=>j.base b o (yd I e),j.big,λ a c=>⟨?_,(j.b2 a c).2⟩,j.alive,j.dv,j.c8,j.bM,j.fr,j.old⟩;cases e:g.K.get? a with|none=>rfl|some o=>have q:=(j.b2 a c).1;rw[yd I e]at q;exact nomatch q
theorem ExcAt.sl{lo:J}(I:aG g x α σ h)(q:ExcAt (ext g h l) X lo aA af h' e cl as):ExcAt g X lo aA af h' e cl as:=
 match q with|⟨Sq,t,vs,a,j,r,R,dP,u,jq⟩=>⟨Sq,t,vs,a,I.sl j,r,R,dP,u,jq⟩theorem Im(I:aG g x α σ h)(Bq:Base g):Base (ext g h l):=⟨wQ Bq.booked λ b o e=>yd I e,Bq.sys⟩
theorem Sw(I:aG g x α σ h)(G:hh g gl):hh (ext g h l) gl:=by
 refine e4 G.ex λ m M N P q=>?_;have k:∀b o,g.K.get? b=B o->(ext g h l).K.get? b=B o:=λ b o=>yd I;refine⟨m,M,N.keeps k,P.keeps k,λ n d e=>?_⟩;rcases q n d e with⟨v,E,r⟩|⟨p,v,E,r⟩
 ·exact .inl ⟨v,E,r.mono λ b o e u=>⟨k b o e,by simp⟩⟩
 ·exact .inr ⟨p,v,E,r.mono λ b o e u=>⟨k b o e,by simp⟩⟩
theorem ag.sl{h q:Type}{pre:H ao->aX->Prop}{post:H ao->aX->h->q->Prop}{t:bj h}{m:Ev q}{o:Res q}(T:ag (ext g s.heap l) x pre post t m)(I:aG g x α σ s.heap)(z:∀a∈l,a∉x.P/\a∉α)(D:1<=s.toks)(p:pre α s.heap)(e:m σ=B (o,af)):
  ∀(Q:h->aU->Prop)(E:aq->aU->Prop),
   (∀b r h' C aA,o=.ok r->a_ x.F x.W α s.heap aA h'->aG g x aA af h'->1<=C->post aA h' b r->Q b (cT s h' C))->
   (∀e cl as h' C aA,o=.exc cl as->a_ x.F x.W α s.heap aA h'->1<=C->ExcAt g x s.heap.objs.size aA af h' e cl as->E (.ref e) (cT s h' C))->aO (a5 g.prog g.w) x.A t Q E s:=λ Q E G y=>T α σ s o af (I.aho z) D p e Q E (λ b r h' C aA i st j=>G b r h' C aA i st (I.sl j)) λ c cl as h' C aA i st k X=>y c cl as h' C aA i st k (X.sl I)
theorem bt.clo(R:bt g x env ρ α h)(q:Quiet x env)(y:∀m v,ck.lookup m=B v->s.names.lookup m=B .free/\ρ.lookup m=B v)
  (A:∀m,s.names.lookup m=B .free->iB (env.kindOf m)=S/\env.cells.lookup m=cl.lookup m):r_ x s cl ck α h:=⟨λ m v e=>(y m v e).1,λ m e=>cq (A m e) λ k K=>R.jV k λ c V W j w I P d=>⟨c,ax K W,j,w,q.2 m c k W,V,P,λ v e=>d v (y m v e).2⟩,λ m M c e E W j=>cq (A m e) λ k K=>cq (A M E) λ Q t=>R.ap m M c k Q (L K W) (L t j)⟩
theorem ahp(y:cU g x env n)(v:∃o fd,g.K.get? f=B o/\o.data=.func fd)(h:bQ (TE g x env ρ) ay M)
  (hF:∀vs as,ag g x (λ α h=>bp g x env ρ α h/\bU (x.P++α) α h vs as) (dA x) (call (.ref f) vs []) (C as)):
  TE g x env ρ (rp pos (.ref f) [] (ay.map λ t=>(aj,t)) []) ((cE M).bind C):=by
 refine eM v λ o fd i hd=>?_;obtain k:=Hg (ks:=[]) y h .nil [] [];intro α σ s l af I G p e Q E dp P;apply PO (o:=o) (fd:=fd);obtain w:ag g x (λ α h=>bp g x env ρ α h/\bU _ α h [] []) (λ α h r q=>bU _ α h r.pos q/\r.kw=[]) (v_ _ S _ []) (cE M):=by
  refine λ α σ s l af I G p e Q E dp P=>eD (cE M σ) (λ R=>?_) λ r R=>?_
  ·rw[R]at e;exact nn e
  ·
   obtain⟨r,W⟩:=r;obtain⟨rfl,rfl⟩:=by rw[R]at e;simpa using e
   clear e;induction r with
   |ok as=>
    refine k α σ s _ W I G p (by unfold Ev.bind;rw[R];rfl) Q E (gk.ok λ b h' D aA st N T di=>?_) eC.ok;obtain⟨mu,A⟩:=di;refine dp b as h' D aA rfl st N T ⟨mu,?_⟩;revert A;intro A;cases hk:b.kw with
    |nil=>rfl|cons=>simp only[hk]at A;exact nomatch A
   |exc c as=>refine k α σ s _ W I G p (by unfold Ev.bind;rw[R]) Q E gk.exc λ d cl as h' D aA i st T X=>?_;cases i;exact P d _ _ h' D aA rfl st T X
 unfold Ev.bind at e;refine eD (cE M σ) (λ R=>?_) λ r R=>?_
 ·rw[R]at e;exact nn e
 ·
  obtain⟨r,z⟩:=r;rw[R]at e;refine w α σ s r z I G ⟨p,.nil⟩ R _ _ (λ b q h' D aA d1 st N T di=>?_) λ d cl as h' D aA d1 st T X=>?_
  ·subst d1
   refine⟨⟨N.base _ _ i,hd⟩,?_⟩;obtain⟨ahq,qx⟩:=b;obtain⟨mu,rfl⟩:=di;exact hF ahq q aA z _ l af N T ⟨(bt.jW y.ok.cY y.ok.eu y.q _ _ _ _ _ I st p),mu⟩ e Q E (λ b r h'' j V i K=>dp b r h'' j V i (st.trans K))
    λ d cl as h'' j V i K m X=>P d cl as h'' j V i (st.trans K) m (X.low st.size)
  ·subst d1
   cases e;exact P d cl as h' D aA rfl st T X
theorem ahr(K:gP g c n)(y:cU g x env n)(D:fa p env)(m:args.all fM=S)(X:(ba c N p ρ (.Name nm q)).1=.ret (.d (.obj f)))(w:∃o fd,g.K.get? f=B o/\o.data=.func fd)
  (V:∀vs as,ag g x (λ α h=>bp g x env ρ α h/\bU (x.P++α) α h vs as) (dA x) (call (.ref f) vs []) (C as)):
  TE g x env ρ (bG (.Call (.Name nm q) args [] P) env) ((cE (args.map λ e=>(ba c N p ρ e).1)).bind C):=by
 have a:=λ e=>(f7 K N p ρ e x env y D).1;simp[aoj,(show backTo P (starEach args env)=(iQ args env).map λ t=>(aj,t) by rw[ud args env m,ue])];refine λ α σ s j af I F R e Q E G A=>aB ((X▸a _) α σ s _ σ I F R rfl _ _ (gk.ok λ v h' el aA st u k di=>cq (aV.inv di) λ W _=>L W ?_) eC.ok);refine ahp y w (bQ.evalEach _ a args) V aA σ _ j af u k (bt.jW y.ok.cY y.ok.eu y.q _ _ _ _ _ I st R) e Q E (λ b r h'' i T l M=>G b r h'' i T l (st.trans M))
  λ i1 cl as h'' i T l M z mB=>A i1 cl as h'' i T l (st.trans M) z (mB.low st.size)def j7(a b:V):Bool:=@decide (a=b) (Zu _)theorem qy(a:V):j7 a a=true:=@gJ _ (Zu _) rfl
def agree(ck ρ:az):Bool:=ck.all λ p=>match ρ.lookup p.1 with|some v=>j7 v p.2|none=>aj
theorem Sx(h:agree ck ρ=S)(e:ck.lookup m=B v):ρ.lookup m=B v:=by have h:=b9.mp h _ (nj e);cases q:ρ.lookup m with|none=>rw[q]at h;exact bw h|some u=>rw[q]at h;rw[(@iN _ (Zu _) h)]def biI(id:b1):U (H V->Ev V):=[("len",e5 λ d=>(xq d).map D.int),("int.bit_length",e5 BL)].lookup id
def msI(_:aE)(a:V)(nm:ai):U o6:=match a with
 |.d d=>match d with
  |.int _=>bR (nm==("bit_length" :ai)) (B (.bi "int.bit_length"))|_=>aa
 |.aH _=>aa
def bI:Cfg where
 gl:=ee
 ct:=λ u=>aa
 bi:=λ id=>nW (biI id)
 ty:=λ u u=>.au
 ms:=msI
 attr:=λ u u=>.au
 item:=lD
 set:=qu
 o7:=λ u u=>.au
 setattr:=λ u u u=>.au
 del:=λ u u=>.au
 loops:=aj
 bf:=λ u=>aj
 fuel:=0
theorem ahs(M:B4 "int" nm "int.bit_length"):∀p (Q:aq×H aq->aU->Prop) E,Q (.builtin "int.bit_length",[.int i t]) s->aO (a5 prog w) A (Lo (.int i t) nm p) Q E s:=λ p Q E=>getMethod_builtin rfl M.c2 M.slot M.ty (λ u e=>by cases e)
theorem pb(G:hh g ee)(n:J):gP g bI n:=by
 refine⟨λ e=>(bw e),G,λ z z e=>(nn e),λ id x ok=>yc (.cons Py (.cons Ra .nil)),λ z z z z z=>.au,λ x α σ s v r nm t ok I R e=>?_,λ z z z z z=>.au,λ x ok v a u b V y z=>Rq v a u b V y,λ x ok v a u b w d=>Sd ok.cY v a u b w d,λ z z z z z z z=>.au,λ z z z z z z z=>.au,λ z z z z z z=>.au⟩;obtain e:=e;induction r with
 |aH=>exact nn e|d d=>
 rcases d with _|_|i|_|_|_|_|_|_|_|⟨_,_⟩
 case int=>
  refine bN e λ h e=>(a7 R.inv λ T W=>L W ?_);exact ax (ak e) (L (cI.mp h) ⟨λ a e=>(nomatch e),λ p Q E K=>ahs (show B4 "int" (ep "bit_length") "int.bit_length" from Sr _ (by
    exact .tail _ (.tail _ (.tail _ (.tail _ (.tail _ (.tail _ (.tail _ (.tail _ (.tail _ (.head _))))))))))) p Q E K⟩)
 all_goals exact nn e
theorem Sy(env:cn):∀(l r:H bx),fG (l++r) env=(fG l env>>=λ f=>match f with|.next=>fG r env|f=>pure f)
 |[],r=>by rfl|st::l,r=>by dsimp only[List.cons_append];rw[LF,LF,Sy env l r,bind_assoc];congr 1;funext f;induction f<;>rfl
theorem Sz(W:c9 g x o env ρ (fG l env) m)(j:∀ar,c9 g x o env ar (fG r env) (k ar)):c9 g x o env ρ (fG (l++r) env) (b5 m k):=by
 refine L (Sy ..) (W.bind λ f r α σ s i af I t p e Q E h y=>?_);obtain P:∀{f:m5},B _=B (i,af)->nL _ α s.heap f r.1->aO (a5 g.prog g.w) x.A _ Q E s:=λ e K=>
  have q:=bc (ak e)
  bl (h _ r s.heap s.toks α q.1.symm (.refl ..) (ax q.2 I) t ⟨K,p.2⟩)
 obtain⟨F,ar⟩:=r;obtain K:=p.1;induction F with
 |next=>induction f with
  |next=>exact j ar α σ s i af I t p.2 e Q E h y|_=>exact K.elim
 |brk=>induction f<;>first|exact P e K|exact K.elim
 |cont=>induction f<;>first|exact P e K|exact K.elim
 |ret=>induction f<;>first|exact P e K|exact K.elim
def B8(g:bX)(f n:J)(s:bW)(cl:H (ai×ao))(ck:az)(C:H V->Ev V):Prop:=
 ∀x,eW g x n->∀vs as,ag g x (λ α h=>bU (x.P++α) α h vs as/\r_ x s cl ck α h) (dA x) (call (.ref f) vs []) (C as)
def ib(s:bW)(ck:az)(f:J)(C:H V->Ev V)(ρ:az)(e:aJ):Ev V:=wX e (λ h args ks=>hZ h (λ nm=>match ks with
 |[]=>match agree ck ρ&&(args.all fM&&(nm==("inner" :ai)))with
   |true=>(cE (args.map λ e=>(ba bI 30 s ρ e).1)).bind C|false=>.au
 |_=>.au) .au) .au
theorem B9(G:hh g ee)(y:cU g x env n)(D:fa s env)(t:∃o fd,g.K.get? f=B o/\o.data=.func fd)(a:ck.lookup (ep "inner")=B (.d (.obj f)))(E:iB (s.names.lookup (ep "inner"))=S)
  (i:∀m v,ck.lookup m=B v->I.names.lookup m=B .free)(A:∀m,I.names.lookup m=B .free->iB (env.kindOf m)=S/\env.cells.lookup m=cl.lookup m)
  (Sq:B8 g f n I cl ck C)(e:aJ):TE g x env ρ (bG e env) (ib s ck f C ρ e):=by
 refine F_ (λ h args ks P b=>mr (λ nm q V=>?_) .au) .au;subst b V;rcases ks with _|⟨_,_⟩
 ·skip
  refine(?_);cases j:agree ck ρ&&(args.all fM&&(nm==("inner")))with
  |false=>exact .au|true=>obtain⟨W,l⟩:=bF.mp j;obtain⟨K,w⟩:=bF.mp l;obtain w:=cI.mp w;refine L w (ahr (pb G n) y D K (?_:p5 ee s ρ "inner" =_) t λ vs as=>(Sq x y.ok vs as).pre λ α h p=>⟨p.2,p.1.clo y.q (λ m v e=>⟨i m v e,Sx W e⟩) A⟩);obtain R:(("inner")==("__debug__" :ai))=false:=rfl;obtain Q:(("inner")==("__classdict__" :ai))=false:=rfl;obtain u:=Sx W a;unfold p5;rw[R,Q];cases z:s.names.lookup _ with|none=>rw[z]at E;exact bw E|some k=>rw[z]at E;induction k with|cell=>dsimp only;rw[u];rfl|free=>dsimp only;rw[u];rfl|_=>exact bw E
 ·exact .au
noncomputable def gm(f:D->U D):H D->U D:=λ ds=>match ds with|[]=>aa|a::ds=>match ds with|[]=>f a|_::_=>aa
noncomputable def vi(f:D->D->U D):H D->U D:=λ ds=>match ds with|[]=>aa|a::ds=>match ds with|[]=>aa|b::ds=>match ds with|[]=>f a b|_::_=>aa
def qH(o:eR):H D->U D:=λ ds=>match ds with
 |[]=>aa
 |a::ds=>match ds with
  |[]=>match a with
   |.ae xs=>pS o xs|_=>aa
  |b::ds=>match ds with|[]=>pS o [a,b]|c::ds=>match ds with|[]=>pS o [a,b,c]|_::_=>aa
def ajl(a b:D):U D:=match b with|.ty t=>HR a t|_=>aa
def ajm(d:D):U D:=(xq d).map D.int
def ajn(d:D):U D:=(xr d).map D.int
def I0:H (ai×(H D->U D)):=[("max",qH .Gt),("min",qH .Lt),("int",gm tL),("len",gm ajm),("abs",gm PE),("sum",gm lu),("ord",gm ajn),("chr",gm Pr),("divmod",vi Bc),("isinstance",vi ajl)]
def I1:D->H D->U D:=λ r ds=>match ds with
 |[]=>match r with
  |.int i=>BL (.int i)|_=>aa
 |_::_=>aa
def I2:H (ai×(D->H D->U D)):=[("bit_length",I1)]def hb(ext:H (ai×(H D->U D))):hI:=⟨ext++I0,I2⟩def P0:hI:=hb []theorem sJ(h:gm f ds=B d):∃a,ds=[a]/\f a=B d:=by match ds,h with|[a],h=>exact⟨a,rfl,h⟩
theorem US(h:vi f ds=B d):∃a b,ds=[a,b]/\f a b=B d:=by
 rcases ds with _|⟨a,_|⟨b,_|_⟩⟩
 ·exact nn h
 ·exact nn h
 ·exact(bh a b ⟨rfl,h⟩)
 ·exact nn h
def CB(c:Cfg)(F:D)(f:H D->U D):Prop:=∀ds d,f ds=B d->∀σ,bY σ->∀m,cE m σ=B (.ok (ds.map V.d),σ)->uK c (.d F) m [] [] σ=B (.ok (.d d),σ)theorem pn{id:b1}(h:∀ds d,f ds=B d->∀σ,nW (Ih id) (ds.map V.d) σ=B (.ok (.d d),σ)):CB (eG ct) (.bi id) f:=λ ds d e σ R m p=>Y (aT p) (h ds d e σ)theorem UT{id:b1}(h:∀ds d,f ds=B d->∀σ,nW (Sg id) (ds.map V.d) σ=B (.ok (.d d),σ)):CB (eG ct) (.ty id) f:=λ ds d e σ R m p=>Y (aT p) (h ds d e σ)theorem qI(h:g a=B d)(σ:aE):e5 g [.d a] σ=B (.ok (.d d),σ):=kO h σ
theorem UU(h:qH o ds=B d)(σ:aE):BH o (ds.map V.d) σ=B (.ok (.d d),σ):=by
 rcases ds with _|⟨a,_|⟨b,_|⟨c,_|_⟩⟩⟩
 ·exact nn h
 ·rcases a with _|_|_|_|_|_|_|_|xs|_|⟨_,_⟩
  case ae=>have h:pS o xs=B d:=h;rw[ER]at h;exact kO h σ
  all_goals exact nn h
 ·obtain h:pS o [a,b]=B d:=h
  rw[ER]at h;exact kO h σ
 ·obtain h:pS o [a,b,c]=B d:=h
  rw[ER]at h;exact kO h σ
 ·exact nn h
theorem UW:∀p∈I0,∃f,ee.lookup p.1=B f/\CB (eG ct) f p.2:=
 AllP.mem (.cons ⟨.bi "max",rfl,pn λ ds d e σ=>UU e σ⟩ (.cons ⟨.bi "min",rfl,pn λ ds d e σ=>UU e σ⟩ (.cons ⟨.ty "int",rfl,UT λ ds d e σ=>by obtain⟨a,rfl,h⟩:=sJ e;exact qI (by rw[<-ZV];exact h) σ⟩ (.cons ⟨.bi "len",rfl,pn λ ds d e σ=>by obtain⟨a,rfl,h⟩:=sJ e;exact qI h σ⟩ (.cons ⟨.bi "abs",rfl,pn λ ds d e σ=>by obtain⟨a,rfl,h⟩:=sJ e;exact qI h σ⟩ (.cons ⟨.bi "sum",rfl,pn λ ds d e σ=>by obtain⟨a,rfl,h⟩:=sJ e;exact qI h σ⟩ (.cons ⟨.bi "ord",rfl,pn λ ds d e σ=>by obtain⟨a,rfl,h⟩:=sJ e;exact qI h σ⟩ (.cons ⟨.bi "chr",rfl,pn λ ds d e σ=>by obtain⟨a,rfl,h⟩:=sJ e;exact qI h σ⟩ (.cons ⟨.bi "divmod",rfl,pn λ ds d e σ=>by refine eM (US e) λ a b w h=>?_;refine L w ?_;exact kO h σ⟩ (.cons ⟨.bi "isinstance",rfl,pn λ ds d e σ=>by
  refine eM (US e) λ a b j3 h=>L j3 ?_;rcases b with _|_|_|_|_|t|_|_|_|_|⟨_,_⟩;case ty=>show Ev.ofD _ σ=_;exact kO h σ
  all_goals exact nn h⟩ .nil))))))))))
theorem UX:∀k nm,vd nm=B k->∃ty f,ee.lookup nm=B (.ty ty)/\(eG ct).ty ty=f/\match k with
  |0=>f=A_|1=>f=o9|_=>f=xW:=by
 intro k nm h;unfold vd qE at h;rw[ph,ph,ph]at h;refine dO (nm==("range")) (λ W=>?_) λ W=>?_
 ·
  rw[W]at h;refine ax (ak h) ?_;exact L (cI.mp W) ⟨"range",_,rfl,rfl,rfl⟩
 ·
  rw[W]at h;refine dO (nm==("zip")) (λ j=>?_) λ j=>?_
  ·
   rw[j]at h;exact ax (ak h) (L (cI.mp j) ⟨"zip",_,rfl,rfl,rfl⟩)
  ·
   rw[j]at h;refine dO (nm==("enumerate")) (λ v=>?_) λ v=>?_
   ·
    rw[v]at h;exact ax (ak h) (L (cI.mp v) ⟨"enumerate",_,rfl,rfl,rfl⟩)
   ·rw[v]at h;exact nn h
theorem mP{ext:H (ai×(H D->U D))}(h:∀p∈ext,∃a,ee.lookup p.1=B (.obj a)/\ct a=B (cx p.2)):i4 (hb ext) (eG ct):=by
 refine⟨rfl,rfl,rfl,rfl,rfl,UX,λ nm f e=>?_,λ nm g e=>?_⟩
 ·obtain s:=nj e
  rcases bB.mp s with q|q
  ·exact av (h _ q) λ a W j=>(⟨_,W,(by
    refine λ ds d e σ R m s=>(?_:(match ct a with|some C=>ju C [] m [] []|none=>.au) σ=_);refine L j (Y (aT s) (sI e ?_));unfold sH;simp only[R.1,R.2.1,R.2.2];rfl)⟩)
  ·exact UW _ q
 ·obtain s:=nj e
  obtain s:(nm,g)∈I2:=s;unfold I2 at s;simp[dM,dS,jO,ao2]at s;refine cq s λ w F=>L w (L F ⟨rfl,λ r ds d e σ R m s=>?_⟩);induction ds with
  |cons=>exact nn e
  |nil=>
   rcases r with _|_|i|_|_|_|_|_|_|_|⟨_,_⟩;case int=>exact Y (aT s) (qI e σ)
   all_goals exact nn e
noncomputable def cS:H (U D)->U (H D)
 |[]=>B []|o::os=>o.bind λ d=>(cS os).map (d:: ·)def Vv(r:D)(ds:H D):U D:=hB (λ s=>one ds λ d=>xX s d) r
def Vw(r:D)(ds:H D):U D:=hB (λ s=>bR ds.isEmpty (lC (.str s))) r
def Jl(xs:H D)(d:D):U D:=(jX g6 xs d).bind λ b=>bR b ((o_ d xs).map λ j=>D.int (j:J))def aj1(r:D)(ds:H D):U D:=one ds λ d=>match r with|.str x=>hB (BN x) d|.aD xs=>Jl xs d|.ae xs=>bR (dc xs) (Jl xs d)|_=>aa
def Vx(r:D)(ds:H D):U D:=uR (λ o=>(ni o).bind λ K=>one ds (iX λ k=>B (H2 k K))) r
def Jm:H (ai×(D->H D->U D)):=[("join",Vv),("lower",Vw),("upper",(λ r ds=>hB (λ s=>bR ds.isEmpty (Q_ (.str s))) r)),("index",aj1),("get",Vx)]def fl(ext:H (ai×(H D->U D))):hI:=⟨(hb ext).mN,(hb ext).jw++Jm⟩
theorem sM(id:b1)(h:∀σ,u0 ct σ (.d r) nm=B (.bi id)){ds:H D}(v:nW (Ih id) (.d r::ds.map V.d) σ=B (.ok (.d d),σ))(e:cE m σ=B (.ok (ds.map V.d),σ)):
  qh (eG ct) (.d r) nm m [] [] σ=B (.ok (.d d),σ):=by
 show(match u0 ct σ _ nm with
  |some (.bi id)=>((cE m).bind λ as=>nW _ _) σ|some (.fn a)=>(match ct a with|some C=>ju C [.d r] m [] [] σ|none=>aa)|none=>aa)=_
 exact L (h σ) (Y (aT e) v)def aj2(ct:ao->U bV)(p:ai×(D->H D->U D)):Prop:=(p.1==ep "replace")=aj/\∀r ds d,p.2 r ds=B d->∀σ,bY σ->∀m,cE m σ=B (.ok (ds.map V.d),σ)->qh (eG ct) (.d r) p.1 m [] [] σ=B (.ok (.d d),σ)
theorem Vy(e:Jl xs y=B d):jX g6 xs y=B S/\(o_ y xs).map (λ j=>D.int (j:J))=B d:=
 b3 e λ u h e=>bN e λ W e=>⟨ax W h,e⟩
theorem sN{ext:H (ai×(H D->U D))}(h:∀p∈ext,∃a,ee.lookup p.1=B (.obj a)/\ct a=B (cx p.2)):i4 (fl ext) (eG ct):=by
 obtain Bq:=mP h;refine⟨rfl,rfl,rfl,rfl,rfl,UX,Bq.mN,λ nm g e=>?_⟩;obtain e:((hb ext).jw++Jm).lookup nm=B g:=e;rw[El]at e;refine rY ((hb ext).jw.lookup nm) (λ G v=>?_) λ v=>?_
 ·rw[v]at e;exact Bq.jw nm g (Y v e)
 ·rw[v]at e;exact(show AllP (aj2 ct) Jm from by
   refine .cons ⟨rfl,λ r ds d e σ u M t=>mh e λ n m e=>j2 e λ x E e=>?_⟩ (.cons ⟨rfl,λ r ds d e σ u M t=>mh e λ s m e=>bN e λ E dQ=>?_⟩ (.cons ⟨rfl,λ r ds d e σ u M t=>mh e λ s m e=>bN e λ E dQ=>?_⟩ (.cons ⟨rfl,λ r ds d e σ u M t=>j2 e λ x E e=>?_⟩ (.cons ⟨rfl,λ r ds d e σ u M t=>BP e λ o m e=>b3 e λ K i e=>j2 e λ x E e=>p4 e λ k F dQ=>?_⟩ .nil))))
   ·subst m E;exact sM "str.join" (ds:=[x]) (λ σ=>rfl) (kO e σ) t
   ·rw[k2.mp E]at t;subst m;exact sM "str.lower" (ds:=[]) (λ σ=>rfl) (kO dQ σ) t
   ·rw[k2.mp E]at t;subst m;exact sM "str.upper" (ds:=[]) (λ σ=>rfl) (kO dQ σ) t
   ·subst E
    rcases r with _|_|_|_|z|_|_|_|xs|xs|⟨_,_⟩;case str=>exact mh e λ y P e=>by subst P;exact sM "str.index" (ds:=[.str y]) (λ σ=>rfl) (kO e σ) t
    case aD=>
     obtain q:=Vy e;refine sM "tuple.index" (λ σ=>rfl) ?_ t;show(match jX g6 xs x with
      |some S=>Ev.ofD _|_=>.au:Ev V) σ=_
     rw[q.1];exact kO q.2 σ
    case ae=>
     exact bN e λ h e=>by
      obtain q:=Vy e;refine sM "list.index" (λ σ=>rfl) ?_ t;show(match jX g6 xs x,dc xs with
       |some S,S=>Ev.ofD _|_,_=>.au:Ev V) σ=_
      rw[q.1,h];exact kO q.2 σ
    all_goals exact nn e
   ·subst m E F
    have f:=by unfold ni at i;cases q:o==rD with|true=>exact cI.mp q|false=>rw[q]at i;exact nn i
    rw[f]at i ⊢;refine sM "dict.get" (λ σ=>rfl) ?_ t;refine(?_:xZ ni (.d (.obj rD)) (.d (.int k)) σ=_);unfold xZ;rw[show hi (.d (.obj rD)) (uR ni)=B K from i,<-ak dQ];rfl).mem _ (nj e)def aj3(a:D):U D:=(cp .Eq a (.str " ")).map D.bool
def CO(ds:H D):U D:=one ds aj3
def CP(a:D):U D:=((cS [(xr a).map D.int]).bind (Vx (.obj rD))).bind λ r=>(cp .IsNot r .none).bind λ c=>match c with|true=>B r|false=>(Vw a [])def yC(ds:H D):U D:=one ds CP
section
variable {g:bX}(G:gn g)
include G
theorem Vz(ct:ao->U bV):i4 (fl []) (eG ct):=sN λ p h=>aS h dS
theorem aj4(n:J)(V:1<=n):cK g 186 (n+1) (cx CO):=kP G (by assumption) (λ a C=>nn) (Vz G _) rfl λ ds d e=>j2 e λ a h e=>L h (Y ((rfl)) e)theorem aj5(n:J)(V:1<=n):cK g 179 (n+1) (cx yC):=kP G (by assumption) (λ a C=>nn) (Vz G _) rfl λ ds d e=>j2 e λ a h e=>L h (Y ((rfl)) e)
end
def UY(x X x2:D):U D:=(aI .Mod x2 (.aR 0x3ff0000000000000)).bind λ z=>
  (cp .Lt z (.aR 0x3fc5555555555555)).bind λ G=>match G with
  |true=>((((aI .Sub X x).bind λ p=>aI .Mult p z).bind λ b=>aI .Mult b (.aR 0x4018000000000000)).bind λ E=>aI .Add x E)|false=>((cp .Lt z (.aR 0x3fe0000000000000)).bind λ A=>match A with
  |true=>(B X)|false=>((cp .Lt z (.aR 0x3fe5555555555555)).bind λ k=>match k with
  |true=>((((aI .Sub X x).bind λ I=>(aI .Sub (.aR 0x3fe5555555555555) z).bind λ y=>aI .Mult I y).bind λ K=>aI .Mult K (.aR 0x4018000000000000)).bind λ w=>aI .Add x w)|false=>(B x)))noncomputable def gq(f:D->D->D->U D):H D->U D:=λ ds=>match ds with|[]=>aa|a::ds=>match ds with|[]=>aa|b::ds=>match ds with|[]=>aa|c::ds=>match ds with|[]=>f a b c|_::_=>aa
def qJ:H D->U D:=gq UY
def P1:hI:=hb [("_v",qJ)]
def yt(x X x2:D):U D:=(qH .Gt [x,X,x2]).bind λ z=>
  (qH .Lt [x,X,x2]).bind λ G=>
  (aI .Add z G).bind λ UZ=>
  (aI .Sub z G).bind λ b=>
  (aI .Div UZ (.aR 0x4000000000000000)).bind λ p=>
  (cp .Eq G z).bind λ ajo=>match ajo with
  |true=>(B (.aD [(.aR 0x0000000000000000),p,(.aR 0x0000000000000000)]))|false=>((cp .LtE p (.aR 0x3fe0000000000000)).bind λ ajp=>match ajp with
  |true=>((aI .Div b UZ).bind λ w=>
  ((aI .Sub z x).bind λ I=>aI .Div I b).bind λ U0=>
  ((aI .Sub z X).bind λ E=>aI .Div E b).bind λ y=>
  ((aI .Sub z x2).bind λ a=>aI .Div a b).bind λ M=>
  (cp .Eq x z).bind λ Q=>match Q with
  |true=>((aI .Sub M y).bind λ h=>
  ((aI .Div h (.aR 0x4018000000000000)).bind λ V=>aI .Mod V (.aR 0x3ff0000000000000)).bind λ c=>
  B (.aD [c,p,w]))
  |false=>((cp .Eq X z).bind λ q=>match q with
  |true=>(((aI .Add (.aR 0x4000000000000000) U0).bind λ N=>aI .Sub N M).bind λ P=>
  ((aI .Div P (.aR 0x4018000000000000)).bind λ R=>aI .Mod R (.aR 0x3ff0000000000000)).bind λ d=>
  B (.aD [d,p,w]))
  |false=>(((aI .Add (.aR 0x4010000000000000) y).bind λ i=>aI .Sub i U0).bind λ e=>
  ((aI .Div e (.aR 0x4018000000000000)).bind λ s=>aI .Mod s (.aR 0x3ff0000000000000)).bind λ W=>
  B (.aD [W,p,w]))))
  |false=>((((aI .Sub (.aR 0x4000000000000000) z).bind λ j=>aI .Sub j G).bind λ A=>aI .Div b A).bind λ g=>
  ((aI .Sub z x).bind λ t=>aI .Div t b).bind λ T=>
  ((aI .Sub z X).bind λ C=>aI .Div C b).bind λ f=>
  ((aI .Sub z x2).bind λ k=>aI .Div k b).bind λ r=>
  (cp .Eq x z).bind λ F=>match F with
  |true=>((aI .Sub r f).bind λ u=>
  ((aI .Div u (.aR 0x4018000000000000)).bind λ v=>aI .Mod v (.aR 0x3ff0000000000000)).bind λ l=>
  B (.aD [l,p,g]))
  |false=>((cp .Eq X z).bind λ m=>match m with
  |true=>(((aI .Add (.aR 0x4000000000000000) T).bind λ n=>aI .Sub n r).bind λ K=>
  ((aI .Div K (.aR 0x4018000000000000)).bind λ o=>aI .Mod o (.aR 0x3ff0000000000000)).bind λ z44=>
  B (.aD [z44,p,g]))
  |false=>(((aI .Add (.aR 0x4010000000000000) f).bind λ z47=>aI .Sub z47 T).bind λ z46=>
  ((aI .Div z46 (.aR 0x4018000000000000)).bind λ z49=>aI .Mod z49 (.aR 0x3ff0000000000000)).bind λ z48=>
  B (.aD [z48,p,g])))))
def yu(x X x2:D):U D:=(qH .Gt [x,X,x2]).bind λ z=>
  (qH .Lt [x,X,x2]).bind λ G=>
  (aI .Sub z G).bind λ E=>
  (cp .Eq G z).bind λ d=>match d with
  |true=>(B (.aD [(.aR 0x0000000000000000),(.aR 0x0000000000000000),z]))|false=>((aI .Div E z).bind λ p=>
  ((aI .Sub z x).bind λ k=>aI .Div k E).bind λ A=>
  ((aI .Sub z X).bind λ K=>aI .Div K E).bind λ w=>
  ((aI .Sub z x2).bind λ y=>aI .Div y E).bind λ I=>
  (cp .Eq x z).bind λ P=>match P with
  |true=>((aI .Sub I w).bind λ M=>
  ((aI .Div M (.aR 0x4018000000000000)).bind λ Q=>aI .Mod Q (.aR 0x3ff0000000000000)).bind λ a=>
  B (.aD [a,p,z]))
  |false=>((cp .Eq X z).bind λ h=>match h with
  |true=>(((aI .Add (.aR 0x4000000000000000) A).bind λ T=>aI .Sub T I).bind λ c=>
  ((aI .Div c (.aR 0x4018000000000000)).bind λ R=>aI .Mod R (.aR 0x3ff0000000000000)).bind λ q=>
  B (.aD [q,p,z]))
  |false=>(((aI .Add (.aR 0x4010000000000000) w).bind λ b=>aI .Sub b A).bind λ N=>
  ((aI .Div N (.aR 0x4018000000000000)).bind λ e=>aI .Mod e (.aR 0x3ff0000000000000)).bind λ V=>
  B (.aD [V,p,z]))))
def yv(X x x2:D):U D:=(cp .Eq x (.aR 0x0000000000000000)).bind λ u=>match u with
  |true=>(B (.aD [x2,x2,x2]))|false=>(((cS [aI .Mult X (.aR 0x4018000000000000)]).bind (gm tL)).bind λ G=>
  ((aI .Mult X (.aR 0x4018000000000000)).bind λ b=>aI .Sub b G).bind λ R=>
  ((aI .Sub (.aR 0x3ff0000000000000) x).bind λ A=>aI .Mult x2 A).bind λ p=>
  (((aI .Mult x R).bind λ K=>aI .Sub (.aR 0x3ff0000000000000) K).bind λ w=>aI .Mult x2 w).bind λ k=>
  ((((aI .Sub (.aR 0x3ff0000000000000) R).bind λ M=>aI .Mult x M).bind λ E=>aI .Sub (.aR 0x3ff0000000000000) E).bind λ y=>aI .Mult x2 y).bind λ I=>
  (aI .Mod G (.int 6)).bind λ z=>
  (cp .Eq z (.int 0)).bind λ Q=>match Q with
  |true=>(B (.aD [x2,I,p]))|false=>((cp .Eq z (.int 1)).bind λ h=>match h with
  |true=>(B (.aD [k,x2,p]))|false=>((cp .Eq z (.int 2)).bind λ c=>match c with
  |true=>(B (.aD [p,x2,I]))|false=>((cp .Eq z (.int 3)).bind λ T=>match T with
  |true=>(B (.aD [p,k,x2]))|false=>((cp .Eq z (.int 4)).bind λ q=>match q with
  |true=>(B (.aD [I,p,x2]))|false=>((cp .Eq z (.int 5)).bind λ P=>match P with
  |true=>(B (.aD [x2,p,k]))|false=>(B .none)))))))
def vj(X x x2:D):U D:=(cp .Eq x2 (.aR 0x0000000000000000)).bind λ u=>match u with
  |true=>(B (.aD [x,x,x]))|false=>((cp .LtE x (.aR 0x3fe0000000000000)).bind λ G=>match G with
  |true=>(((aI .Add (.aR 0x3ff0000000000000) x2).bind λ b=>aI .Mult x b).bind λ E=>
  ((aI .Mult (.aR 0x4000000000000000) x).bind λ A=>aI .Sub A E).bind λ p=>
  (cS [(cS [B p,B E,aI .Add X (.aR 0x3fd5555555555555)]).bind (qJ),qJ [p,E,X],(cS [B p,B E,aI .Sub X (.aR 0x3fd5555555555555)]).bind (qJ)]).bind λ k=>a8 (dc k) (B (.aD k)))
  |false=>(((aI .Add x x2).bind λ K=>(aI .Mult x x2).bind λ I=>aI .Sub K I).bind λ w=>
  ((aI .Mult (.aR 0x4000000000000000) x).bind λ P=>aI .Sub P w).bind λ z=>
  (cS [(cS [B z,B w,aI .Add X (.aR 0x3fd5555555555555)]).bind (qJ),qJ [z,w,X],(cS [B z,B w,aI .Sub X (.aR 0x3fd5555555555555)]).bind (qJ)]).bind λ M=>a8 (dc M) (B (.aD M))))theorem ajq(a b c:D):ka P1 (aY 7) [a,b,c]=vj a b c:=rfl
noncomputable def kQ(f:D->U D):H D->U (H D)
 |[]=>B []|d::ds=>(f d).bind λ v=>(kQ f ds).map (v:: ·)def U1(f:D->U D)(d:D):U D:=(lL d).bind λ xs=>match bE (O xs) 1000 with|true=>(kQ f xs).map D.ae|false=>aa
def P2:hI:=hb [("rgb_to_hls",gq yt),("hls_to_rgb",gq vj),("rgb_to_hsv",gq yu),("hsv_to_rgb",gq yv)]def U2(d:D)(k:D->D->D->U D):U D:=(hE d 3).bind λ ds=>match ds with|[]=>aa|a::ds=>match ds with|[]=>aa|b::ds=>match ds with|[]=>aa|c::ds=>match ds with|[]=>k a b c|_::_=>aa
def litE(low one:D):U D:=(aI .Mult (.int 64) one).bind λ a=>(aI .Mult (.int 8) low).bind λ b=>aI .Sub a b
def ajr(one:D):U D:=(((cS [((aI .Pow (.int 2) (.int 21)).bind λ b=>aI .Mult one b).bind λ a=>aI .Add a (.int 1)]).bind (gm tL)).bind λ a=>aI .FloorDiv a (.int 2)).bind λ a=>(aI .LShift (.int 48) (.int 20)).bind λ b=>aI .Mod a b
def U3(low u M g m p:D):U D:=
 ((cS [fh p (.int 0),fh p (.int 1),fh p (.int 2)]).bind (gq yu)).bind λ r=>U2 r λ h X v=>
 ((cS [fh p (.int 0),fh p (.int 1),fh p (.int 2)]).bind (gq yt)).bind λ r=>U2 r λ t l s=>
 ((U1 (litE low) p).bind λ a=>((cS [aI .Mult h (.int 48),aI .Mult t (.int 48),aI .Mult X M,aI .Mult v (.int 8),aI .Mult l (.int 16),aI .Mult s m]).bind λ xs=>a8 (dc xs) (B (.ae xs))).bind λ b=>aI .Add a b).bind λ told=>
 U1 ajr told
def litS(P low u t:D):U D:=(cS [aI .Add low u,(aI .Mult (.int 2) low).bind λ a=>aI .Add a u]).bind λ xs=>match xs with
 |[]=>aa
 |m::xs=>match xs with
  |[]=>aa
  |g::xs=>match xs with
   |[]=>((cS [B g,aI .Sub (.int 16) g]).bind (qH .Lt)).bind λ s=>
    ((aI .Mod t (.int 2)).bind λ a=>cp .Eq a (.int 0)).bind λ c=>match c with
    |true=>((cS [((aI .Mult (.int 48) t).bind λ b=>aI .Add P b).bind λ a=>aI .Div a (.int 48),aI .Div u m,aI .Div m (.int 8)]).bind (gq yv)).bind λ p=>U3 low u m g s p|false=>((cS [((aI .Mult (.int 48) t).bind λ b=>aI .Sub P b).bind λ a=>aI .Div a (.int 48),aI .Div g (.int 16),aI .Div u s]).bind (gq vj)).bind λ p=>U3 low u m g s p
   |_::_=>aa
theorem litS_eq(a b c d:D):ka P2 (aY 35) [a,b,c,d]=litS a b c d:=by lk
noncomputable def mQ:J->H J
 |0=>[1,0,0]|1=>[1,1,0]|2=>[0,1,0]|3=>[0,1,1]|4=>[0,0,1]|_=>[1,0,1]noncomputable def I3(m:J)(a b:J):Nat:=8*a+m*b-m*a
def U4(p l u:J):H Nat:=(match aZ (p% 8) 3 with
  |true=>((mQ (p/8)).zip (mQ (match p% 8 with|0=>(p/8+5)% 6|_=>(p/8+1)% 6))).map λ q=>u*I3 (p% 8) q.1 q.2|false=>((mQ ((p/8+1)% 6)).zip (mQ (p/8))).map λ q=>u*I3 (8-p% 8) q.1 q.2)++ [p,p,u,l+u,2*l+u,u]def CC(p l u:J):D:=.ae ((U4 p l u).map λ n=>.int ((n*1048576:J):ah))noncomputable def places:H Nat:=(aw 48).filter λ p=> !aL (p% 8) 4
noncomputable def bq{α h:Type} :H α->(α->h)->H h
 |[],_=>[]|x::xs,f=>f x::bq xs f
noncomputable def br{α h:Type} :H α->(α->h)->H h
 |[],_=>[]|x::xs,f=>f x::br xs f
theorem bg{α e:Type}{f g:α->e} :∀{xs:H α},bq xs f=br xs g->∀{x:α},x∈xs->f x=g x
 |[],_,_,h=>by cases h
 |y::V,h,x,K=>by
  obtain⟨W,j⟩:=kn h;rcases dM.mp K with rfl|q
  ·exact W
  ·exact bg j q
theorem ajs:bq (aw 4) (λ t=>bq (aw 5) λ l=>bq places λ p=>bq [1,2,3,4] λ u=>litS (.int (p:J)) (.int (l:J)) (.int (u:J)) (.int (t:J)))=br (aw 4) λ w=>br (aw 5) λ l=>br places λ p=>br [1,2,3,4] λ u=>B (CC p l u):=by lk
theorem ajt(h:p∈places)(z:l<5)(X:u∈[1,2,3,4])(q:t<4):litS (.int (p:J)) (.int (l:J)) (.int (u:J)) (.int (t:J))=B (CC p l u):=bg (bg (bg (bg ajs (a4.mpr q)) (a4.mpr z)) h) X
noncomputable def d4(l:H (ao×bV))(a:ao):U bV:=l.lookup a
theorem hJ(h:∀p∈l,cK g p.1 n p.2):qw g n (d4 l):=by
 intro a C e;have q:(a,C)∈l:=by
  clear h;unfold d4 at e;induction l with
  |nil=>exact nn e
  |cons p l i=>
   rw[gY]at e;refine dO (a==p.1) (λ G=>?_) λ G=>?_
   ·rw[G]at e;refine ax (ak e) ?_;rw[cI.mp G];exact cV
   ·rw[G]at e;exact c7 _ (i e)
 exact⟨(h _ q).w,λ u=>h _ q⟩def mR(bS:J)(cG:H J):H Nat:=cG.rec (motive:=λ u=>J->H J) (λ u=>[]) (λ b bs dF x=>x% b::dF (x/b)) bS
noncomputable def bb(N:H J):H D:=N.map λ n=>.int (n:J)def lN(k:J)(ds:H D):U D:=two ds λ a b=>mF a λ x=>BJ (λ bs=>(mJ bs).bind λ n=>bR (aZ (O n) k&&n.all λ b=>bE 0 b&&bE b 1000) (B (.ae (bb (mR x n))))) b
noncomputable def I4(f:J->U D)(n:H J):U D:=match n with|[]=>aa|a::t=>match t with|[]=>f a|_::_=>aa
def CD(f:J->J->U D)(n:H J):U D:=match n with|[]=>aa|a::t=>I4 (f a) t
def CE(f:J->J->J->U D)(n:H J):U D:=match n with|[]=>aa|a::t=>CD (f a) t
def U5(f:J->J->J->J->U D)(n:H J):U D:=match n with|[]=>aa|a::t=>CE (f a) t
theorem U6(h:I4 f n=B d){G:Prop}(k:∀a,n=[a]->f a=B d->G):G:=by
 rcases n with _|⟨a,_|_⟩
 ·exact nn h
 ·exact k a rfl h
 ·exact nn h
theorem I5(h:CD f n=B d){G:Prop}(k:∀a b,n=[a,b]->f a b=B d->G):G:=by induction n with|nil=>exact nn h|cons a t=>exact U6 h λ b e=>k a b (ax e rfl)theorem I6(h:CE f n=B d){G:Prop}(k:∀a b c,n=[a,b,c]->f a b c=B d->G):G:=by induction n with|nil=>exact nn h|cons a t=>exact I5 h λ b c e=>k a b c (ax e rfl)theorem aju(h:U5 f n=B d){G:Prop}(k:∀a b c e,n=[a,b,c,e]->f a b c e=B d->G):G:=by induction n with|nil=>exact nn h|cons a t=>exact I6 h λ b c e q=>k a b c e (ax q rfl)def sL(f:H J->U D)(ds:H D):U D:=(mJ ds).bind f
theorem vk(h:sL f ds=B d){G:Prop}(k:∀n,ds=bb n->f n=B d->G):G:=b3 h λ n W=>k n (x9 W)
theorem U7(h:lN k ds=B d){G:Prop}(c:∀(x:J)(n:H J),ds=[.int (x:J),.aD (bb n)]->O n<=k->(∀b∈n,0<b/\b<1000)->d=.ae (bb (mR x n))->G):G:=
 nK h λ a b e h=>nU h λ x E h=>HP h λ bs s h=>b3 h λ n W h=>bN h λ j h=>c x n (L e (L E (L s (L (x9 W) rfl)))) (b8 (bo j).1) (λ b r=>have q:=bo (b9.mp (bo j).2 b r);⟨cg.mp q.1,cg.mp q.2⟩) (ak h).symm
def CF(F:H D->U D)(x z:D):U D:=(cp .Eq z (.aD [])).bind λ c=>match c with|true=>B (.ae [])|false=>((cS [(fh z (.int 0)).bind λ b=>aI .Mod x b]).bind λ xs=>a8 (dc xs) (B (.ae xs))).bind λ a=>((cS [(fh z (.int 0)).bind λ b=>aI .FloorDiv x b,jn z (.int 1) .none .none]).bind F).bind λ b=>aI .Add a b
theorem ajv(F:H D->U D)(a b:D):ka (hb [("_law_figures",F)]) (aY 30) [a,b]=CF F a b:=rfl
theorem I7{a b:J}(h:0<b):aI .Mod (.int a) (.int b)=B (.int (a% b:J)):=by show a8 _ _=_;rw[(show((b:ah)==0)=aj by simp;exact hM ‹_›),zN _ (m2 b)];rfl
theorem I8{a b:J}(h:0<b)(j:b<2^64):aI .FloorDiv (.int a) (.int b)=B (.int (a/b:J)):=by
 show a8 _ _=_;obtain e:=ro (ao3.mpr (hM h));obtain E:tr a b=false:=by
  dsimp only[tr];simp only[e];obtain this:(b:ah).natAbs.log2<64:=by simp[Int.natAbs_natCast];exact(K4 (hM h)).mpr j
  rw[l1 (by lia)];rfl
 simp only[e,E,za _ (m2 b)];rfl
theorem U8:∀(x:J)(n:H J),O (mR x n)=O n
 |_,[]=>rfl|x,b::bs=>aM (· +1) (U8 _ bs)theorem ajw(F:H D->U D)(x:J):CF F (.int x) (.aD (bb []))=B (.ae []):=rfl
theorem ajx{F:H D->U D}(h:0<b)(j:b<1000)(z:bs.length<1000)(G:F [.int (x/b:J),.aD (bb bs)]=B (.ae (bb (mR (x/b) bs)))):CF F (.int x) (.aD (bb (b::bs)))=B (.ae (bb (mR x (b::bs)))):=by
 obtain it:fh (.aD _) (.int 0)=B _:=by
  show uh _ _=_;obtain s:v5 0 (O (bb (b::bs)))=B 0:=by delta v5 bb;simp
  unfold uh;exact L s rfl
 obtain m:jn (.aD _) (.int 1) .none .none=B _:=by
  show a8 _ _=_;obtain f:dc (bb (b::bs))=true:=by delta dc bb;simp;lia
  rw[f,(show decide (1<=(O _:ah))=S by unfold bb;simp;exact(Z.leB_iff 1 _).mp rfl)];rfl
 unfold CF;refine L it (L m ?_);show((cS [aI .Mod (.int x) (.int b)]).bind _).bind _=_;refine L (I7 h) ?_;show((cS [aI .FloorDiv (.int x) (.int b),B _]).bind F).bind _=_;refine L (I8 h (by lia)) ?_;show(F [.int _,.aD _]).bind _=_;refine L G ?_;show a8 _ _=_;obtain f:mj (1+O (bb (mR _ bs)))=true:=by delta mj bb;simp[gg,U8,DI];lia
 exact L (f ..) rfl
theorem I9(ms:H J):mJ (bb ms)=B ms:=by induction ms with|nil=>rfl|cons m ms i=>show(mJ (bb ms)).map _=_;rw[i];rfl
theorem I_(h:n.length<=k)(j:(n.all λ b=>bE 0 b&&bE b 1000)=S):lN k [.int (x:J),.aD (bb n)]=B (.ae (bb (mR x n))):=by show(mJ _).bind _=_;exact L (I9 ..) (eh (bF.mpr ⟨dD h,j⟩))
theorem CG(G:gn g):∀(k n:J),k<500->1<=n->cK g 330 (n+1+k) (cx (lN k))
 |0,n,_,V=>by refine kP G (ct:=d4 []) V (hJ (by simp)) (P:=hb []) (mP (by simp)) rfl λ ds d e=>(U7 e λ x N j3 h u w=>?_);subst j3;subst w;refine L (DZ.mp (Nat.eq_zero_of_le_zero h)) ?_;lk
 |k+1,n,o,V=>by
  refine kP G (ct:=d4 [(330,cx (lN k))]) (by lia) (hJ λ p v=>?_) (P:=hb [("_law_figures",lN k)]) (mP λ p v=>?_) rfl λ ds d e=>?_
  ·rw[ek.mp v];exact(CG G k n (ik ‹_›) V)
  ·rw[ek.mp v];exact⟨330,rfl,rfl⟩
  ·refine U7 e λ x N W h j i=>?_
   subst W;subst i;apply Y (ajv ..);induction N with|nil=>exact ajw _ _|cons b bs=>obtain⟨q1,q⟩:=j b cV;exact ajx q1 q (eo (anR h) (bA (ik o) (by decide))) (I_ (Nat.le_of_succ_le_succ h) (b9.mpr λ c A=>have r:=j c (c7 _ A);bF.mpr ⟨cg.mpr r.1,cg.mpr r.2⟩))noncomputable def yw:H Nat:=[4,2,3,4,8,256,256,256]def ajy(k:J):hI:=hb [("_law_figures",lN k)]noncomputable def U9(x a b c d e f g h:D):cz:=[("third",h),("second",g),("first",f),("place",e),("spot",d),("voter",c),("turned",b),("kind",a),("x",x)]
theorem ajz(x a b c d e f g h:D)(F:H D->U D)(G:F [x,.aD (bb yw)]=B (.ae [a,b,c,d,e,f,g,h])):
  ka (hb [("_law_figures",F)]) (aY 31) [x]=jx (hb [("_law_figures",F)]) 30 (bz (aY 31)) 59 (U9 x a b c d e f g h) ((bP (aY 31)).drop 1) λ u=>B .none:=by
 simp only[(show ka (hb [("_law_figures",F)]) (aY 31) [x]=(F [x,.aD (bb yw)]).bind λ d=>(hE d 8).bind λ ds=>pj (bz (aY 31)) ([("kind" :ai),"turned","voter","spot","place","first","second","third"].map λ n=>LJ n ⟨0,0,0,0⟩) ds [("x",x)] λ pr=>jx (hb [("_law_figures",F)]) 30 (bz (aY 31)) 59 pr ((bP (aY 31)).drop 1) λ u=>B .none by lk),G];lk
def ajA(only s p lamp:D):U D:=((cp .Eq lamp s).bind λ c=>match c with
 |true=>aI .LShift (.int 1) p|false=>B (.int 0)).bind λ b=>aI .BitXor only b
def ajB(k v f s t G M:D):U D:=((cS [B (.ae [f,s,t]),B G,(jn M v .none .none).bind λ a=>(jn M .none v .none).bind λ b=>aI .Add a b,B (.ae [f,f,f])]).bind λ xs=>a8 (dc xs) (B (.aD xs))).bind λ a=>fh a k
def ajC(u p f:D):U D:=(cS [aI .Mult (.int 255) u,(aI .Mod p (.int 2)).bind λ b=>aI .Mult (.int 255) b,B f]).bind λ xs=>a8 (dc xs) (B (.ae xs))def U_(k u v sp p f s t:D):U D:=((fh (.aD [.int 170,.int 204,.int 240]) v).bind λ a=>(aI .Mult (.int 255) u).bind λ b=>aI .BitXor a b).bind λ only=>((kQ (ajA only sp p) [.int 0,.int 1,.int 2]).map D.ae).bind λ G=>(ajC u p f).bind λ M=>ajB k v f s t G M
theorem ajD(F:H D->U D)(x k u v sp p f s t:D):(jx (hb [("_law_figures",F)]) 30 (bz (aY 31)) 59 (U9 x k u v sp p f s t) ((bP (aY 31)).drop 1) λ w=>B .none)=U_ k u v sp p f s t:=by lk
noncomputable def ajE(v u:J):Nat:=Nat.xor (match v with|0=>170|1=>204|_=>240) (255*u)noncomputable def Va(u p f:J):H Nat:=[255*u,255*(p% 2),f]def CH(k u v sp p f s t:J):H Nat:=match k with|0=>[f,s,t]|1=>(aw 3).map λ lamp=>Nat.xor (ajE v u) (match aL lamp sp with|true=>2^p|false=>0)|2=>(Va u p f).drop v++(Va u p f).take v|_=>[f,f,f]theorem ajF(f s t:J):bq (aw 4) (λ k=>bq (aw 2) λ u=>bq (aw 3) λ v=>bq (aw 4) λ sp=>bq (aw 8) λ p=>U_ (.int (k:J)) (.int (u:J)) (.int (v:J)) (.int (sp:J)) (.int (p:J)) (.int (f:J)) (.int (s:J)) (.int (t:J)))=br (aw 4) λ k=>br (aw 2) λ u=>br (aw 3) λ v=>br (aw 4) λ sp=>br (aw 8) λ p=>B (.ae (bb (CH k u v sp p f s t))):=by lk
def yx(x:J):H Nat:=match mR x yw with|[k,u,v,sp,p,f,s,t]=>CH k u v sp p f s t|_=>[]def CI(ds:H D):U D:=one ds λ a=>mF a λ x=>B (.ae (bb (yx x)))
theorem Vb(x:J){G:Prop}(K:∀k u v sp p f s t,mR x yw=[k,u,v,sp,p,f,s,t]->k<4->u<2->v<3->sp<4->p<8->f<256->s<256->t<256->G):G:=
 K _ _ _ _ _ _ _ _ rfl (dN _ (by decide)) (dN _ (by decide)) (dN _ (by decide)) (dN _ (by decide)) (dN _ (by decide)) (dN _ (by decide)) (dN _ (by decide)) (dN _ (by decide))
theorem ajG(G:gn g)(n:J)(V:1<=n):cK g 335 (n+10) (cx CI):=by
 refine kP G (ct:=d4 [(330,cx (lN 8))]) (fp _) (hJ λ p h=>?_) (P:=ajy 8) (mP λ p h=>?_) rfl λ ds d e=>?_
 ·rw[ek.mp h];exact CG G 8 n (jJ ..) V
 ·rw[ek.mp h];exact⟨330,rfl,rfl⟩
 ·refine j2 e λ a E e=>nU e λ x i e=>?_
  subst E i;refine ax (ak e) (Vb x λ k u v sp j f s t e W l w I Q z z z=>?_);obtain K:lN 8 [.int x,.aD (bb yw)]=B (.ae [.int k,.int u,.int v,.int sp,.int j,.int f,.int s,.int t]):=by rw[I_ (by decide) rfl,e];rfl
  show ka (hb [("_law_figures",lN 8)]) _ [.int x]=_;rw[ajz _ _ _ _ _ _ _ _ _ _ K,ajD];unfold yx;exact L e (bg (bg (bg (bg (bg (ajF f s t) (a4.mpr W)) (a4.mpr l)) (a4.mpr w)) (a4.mpr I)) (a4.mpr Q))def ajH(r m p:D):U D:=((((aI .RShift r p).bind λ a=>aI .BitAnd a (.int 1)).bind λ b=>aI .Mult (.int 2) b).bind λ a=>aI .Sub a (.int 1)).bind λ a=>((((aI .BitAnd p m).bind λ b=>fh (.aD [.int 0,.int 1,.int 1,.int 0,.int 1,.int 0,.int 0,.int 1]) b).bind λ b=>aI .Mult (.int 2) b).bind λ b=>aI .Sub (.int 1) b).bind λ b=>aI .Mult a b
def Vc(r:D):U D:=(kQ (λ m=>(cS [(kQ (ajH r m) (pk 0 8)).map D.ae]).bind (gm lu)) (pk 0 8)).map D.ae
theorem ajI(a:D):ka P0 (aY 37) [a]=Vc a:=by lk
noncomputable def FC(n:J):Bool:=match n with|1|2|4|7=>S|_=>aj
noncomputable def oJ(b:aF):Int:=match b with|true=>1|false=> -1
def gC(r m:J):Int:=(aw 8).foldr (λ p s=>oJ (YA r p)*oJ (!FC (Yw p m))+s) 0
def Ja(r:J):H Int:=(aw 8).map (gC r)def CJ(ds:H D):U D:=sL (I4 λ r=>a8 (bE r 256) (B (.ae ((Ja r).map D.int)))) ds
theorem ajJ(G:gn g)(n:J)(h:1<=n):cK g 365 (n+1) (cx CJ):=by refine kP G h (ct:=d4 []) (hJ (by simp)) (P:=P0) (mP (by simp)) rfl λ ds d e=>(vk e λ u w E=>?_);subst w;refine U6 E λ r W f=>?_;subst W;obtain⟨X,j⟩:=dn f;obtain rfl:=ak j;exact Y (ajI ..) (bg (show bq (aw 256) (λ r=>Vc (.int (r:J)))=br (aw 256) λ r=>B (.ae ((Ja r).map D.int))from by lk) (a4.mpr (cg.mp X)))def Vd:hI:=hb [("rgb_to_hls",gq yt),("hls_to_rgb",gq vj),("rgb_to_hsv",gq yu),("hsv_to_rgb",gq yv)]
noncomputable def Jb:J->D
 |1=>.int 0|3=>.int 1048576|2=>.int 2097152|6=>.int 3145728|4=>.int 4194304|5=>.int 5242880|_=>.none
theorem ajK:bq (aw 8) (λ c=>bq (aw 5) λ l=>bq [1,2,3,4] λ u=>ka Vd (aY 36) [.int (c:J),.int (l:J),.int (u:J)])=br (aw 8) λ c=>br (aw 5) λ w=>br [1,2,3,4] λ w=>B (Jb c):=by lk
def Jc(ds:H D):U D:=sL (CE λ c l u=>a8 (bE c 8&&(bE l 5&&(aZ 1 u&&aZ u 4))) (B (Jb c))) ds
def Jd(ds:H D):U D:=sL (U5 λ p l u t=>a8 (bE p 48&&(!aL (p% 8) 4&&(bE l 5&&(aZ 1 u&&(aZ u 4&&bE t 4))))) (B (CC p l u))) ds
theorem four(h:aZ 1 u=S)(j:aZ u 4=S):u∈[1,2,3,4]:=by
 rcases u with _|_|_|_|_|u
 ·exact bw h
 ·decide
 ·decide
 ·decide
 ·decide
 ·exact bw j
theorem Ve(h:gq f ds=B d){GG:Prop}(k:∀a b c,ds=[a,b,c]->f a b c=B d->GG):GG:=by
 rcases ds with _|⟨a,_|⟨b,_|⟨c,_|⟨_,_⟩⟩⟩⟩
 ·exact nn h
 ·exact nn h
 ·exact nn h
 ·exact k a b c rfl h
 ·exact nn h
section
variable {g:bX}(G:gn g)
include G
theorem CK{st:bx}(V:1<=n)(M:wA.lookup a=B (.plain .plain,st))(e:∀a b c,ka P0 st [a,b,c]=f a b c):cK g a (n+1) (cx (gq f)):=
 kP G V (ct:=d4 []) (hJ (by simp)) (P:=P0) (mP (by simp)) M λ ds d h=>by refine Ve h λ a b c w h=>L w ?_;rw[e];exact h
theorem ajL(h:1<=n):cK g 45 (n+1) (cx (gq yt)):=CK G h rfl (λ a b c=>rfl)theorem call_v(h:1<=n):cK g 59 (n+1) (cx (gq UY)):=CK G h rfl (λ a b c=>rfl)theorem ajM(h:1<=n):cK g 66 (n+1) (cx (gq yu)):=CK G h rfl (λ a b c=>rfl)theorem ajN(h:1<=n):cK g 73 (n+1) (cx (gq yv)):=CK G h rfl (λ a b c=>rfl)
theorem ajO(V:1<=n):cK g 52 (n+2) (cx (gq vj)):=
 kP G (fp _) (ct:=d4 [(59,cx qJ)]) (hJ λ p u=>L (ek.mp u) (call_v G V)) (P:=P1) (mP λ p u=>L (ek.mp u) ⟨59,rfl,rfl⟩) rfl λ ds d h=>by refine Ve h λ a b c w h=>L w ?_;rw[ajq];exact h
def Vf:H (ao×bV):=[(45,cx (gq yt)),(52,cx (gq vj)),(66,cx (gq yu)),(73,cx (gq yv))]
theorem Vg(h:1<=n):qw g (n+2) (d4 Vf):=
 hJ (AllP.mem (.cons (ajL G (by lia)) (.cons (ajO G h) (.cons (ajM G (by lia)) (.cons (ajN G (by lia)) .nil)))))
theorem Vh:i4 Vd (eG (d4 Vf)):=
 mP (AllP.mem (.cons ⟨45,rfl,rfl⟩ (.cons ⟨52,rfl,rfl⟩ (.cons ⟨66,rfl,rfl⟩ (.cons ⟨73,rfl,rfl⟩ .nil)))))theorem ajP(n:J)(V:1<=n):cK g 360 (n+3) (cx Jc):=by refine kP G (fp _) (Vg G V) (Vh G) rfl λ ds d e=>(vk e λ w W E=>L W (I6 E λ c l u o f=>L o ?_));obtain⟨h,j⟩:=dn f;exact ax (ak j) (cq (bF.mp h) λ a h=>cq (bF.mp h) λ A h=>cq (bF.mp h) λ p X=>bg (bg (bg ajK (a4.mpr (cg.mp a))) (a4.mpr (cg.mp A))) (four p X))theorem ajQ(n:J)(V:1<=n):cK g 355 (n+3) (cx Jd):=by refine kP G (ao4 V 2) (Vg G V) (Vh G) rfl λ ds d e=>(vk e λ w W E=>L W (aju E λ p l u t R f=>L R ?_));obtain⟨h,j⟩:=dn f;refine ax (ak j) ?_;obtain⟨a,h⟩:=bF.mp h;obtain⟨A,h⟩:=bF.mp h;obtain⟨q,h⟩:=bF.mp h;obtain⟨X,h⟩:=bF.mp h;obtain⟨k,v⟩:=bF.mp h;refine Y (litS_eq ..) (ajt ?_ (cg.mp q) (four X k) (cg.mp v));unfold places;rw[Ew];exact⟨a4.mpr (cg.mp a),A⟩
end
noncomputable abbrev ew:Pos:=⟨0,0,0,0⟩def d8:Stmt:=(bP (aY 15)).getD 1 (.Pass ew)def eP:Stmt:=(bP (aY 16)).getD 0 (.Pass ew)def dx:bx->PySem.Expr:=hz 0
def qz(s:bx):Pos:=(jf s).p
def stI(k:J):Stmt:=(bP d8).getD k (.Pass ew)def mL(k:J):Stmt:=(bP eP).getD k (.Pass ew)def ic:aJ->PySem.Expr:=iu 0
def lH:aJ->PySem.Expr:=iu 1
def Io(e:aJ):Pos:=(fI e).p
def j8:PySem.Expr:=dx (mL 3)theorem aht:bP eP=(bP eP).take 3++ [.Return (B (.BinOp (.BinOp (ic (ic j8)) .LShift (lH (ic j8)) (Io (ic j8))) .Add (lH j8) (Io j8))) (qz (mL 3))]:=rfl
noncomputable def ye:H Str:=["x","L","R"]noncomputable def yf:H Str:=["L","R"]
def ahu(ck:az)(f:J)(C:H V->Ev V)(ρ:az):cy:=
 b5 (b4 bI bI 30 (bz d8) 30 ρ ((bP d8).take 5)) λ ρ=>b5 (kH (ib (bz d8) ck f C ρ (dx (stI 5))) ρ) λ ρ=>b5 (kH (ib (bz d8) ck f C ρ (dx (stI 6))) ρ) oZ
def ahv(ck:az)(f:J)(C:H V->Ev V)(ρ:az):cy:=
 b5 (b4 bI bI 30 (bz eP) 30 ρ ((bP eP).take 3)) λ ρ=>b5 (lx (kE .Add (kE .LShift (ib (bz eP) ck f C ρ (ic (ic j8))) (ba bI 30 (bz eP) ρ (lH (ic j8))).1) (ib (bz eP) ck f C ρ (lH j8))) ρ) oZ
def B_(n:H ai)(m:az->cy)(ck:az)(as:H V):Ev V:=match(O as)==O n with|true=>ia .plain (m ((n.zip as).reverse++ck))|false=>.au
noncomputable def u4(ck:az)(f:J):J->H V->Ev V
 |0=>λ u=>.au|d+1=>B_ ye (ahu ck f (u4 ck f d)) ck
noncomputable def yg(ck:az)(f:J):J->H V->Ev V
 |0=>λ u=>.au|d+1=>B_ yf (ahv ck f (yg ck f d)) ck
theorem SH:∀(N:H (ai×lZ))(k:J)(acc:H (ai×ao)),(N.all λ p=> !(p.2==.cell))=S->gz k N acc=acc
 |[],_,_,_=>rfl|(n,K)::r,k,acc,h=>by obtain⟨W,j⟩:=bF.mp h;dsimp only[gz];exact L (show(K==Ek)=aj by simpa using W) (SH r k acc j)
theorem SW{st:bx}(F:ly g f fd (bP st))(G:fd.scope=bz st)(q:∀vs:H aq,O vs=N.length->rh fd ⟨vs,[]⟩=pure (N.zip vs))(A:(N.all (dU (bz st)))=S)(y:((bz st).names.all λ p=> !(p.2==.cell))=S)(Bq:Base g)
  (b:∀X e o ρ,(∀m,(bz st).names.lookup m=B .free->iB (e.kindOf m)=S/\e.cells.lookup m=fd.closure.lookup m)->dq g X (bz st) e n o->c9 g X o e ρ (fG (bP st) e) (m ρ)):
  B8 g f (n+1) (bz st) fd.closure ck (B_ N m ck):=by
 intro x ok vs as;unfold B_;cases z:O as==O N with
 |false=>exact .au
 |true=>
  refine λ α σ s i af I t p=>Bk .plain F Bq ok (pre:=λ α h=>bU _ α h vs as/\r_ x _ fd.closure ck α h) (λ α σ s I p=>⟨.of_eq (q vs (by rw[p.1.length];simpa using z)),p.1.zip,L G p.2⟩) (L G (B3 A as)) (λ X e o v u u u c=>?_) α σ s i af I t p;obtain⟨l,rfl⟩:=v;refine b X _ o _ (λ m r=>⟨?_,?_⟩) (ax G c)
  ·simp[Bg,G,r];rfl
  ·show(gz _ fd.scope.names fd.closure).lookup m=_
   rw[G,SH _ _ _ y]theorem Ca(st:bx)(ck:az)(h:(ck.all λ p=>(bz st).names.lookup p.1==B .free)=S):∀m v,ck.lookup m=B v->(bz st).names.lookup m=B .free:=λ m v e=>cI.mp (b9.mp h _ (nj e))
theorem SX(F:ly g f fd (bP d8))(I:fd.scope=bz d8)(q:∀vs:H aq,O vs=O ye->rh fd ⟨vs,[]⟩=pure (ye.zip vs))(Bq:Base g)(G:hh g ee)(s:ck.lookup (ep "inner")=B (.d (.obj f)))
  (h:(ck.all λ p=>(bz d8).names.lookup p.1==B .free)=S):∀d,(∀x,eW g x d->True)->B8 g f d (bz d8) fd.closure ck (u4 ck f d)
 |0,_=>λ u u u u=>.au|d+1,_=>by refine SW F I q rfl rfl Bq λ X E W ρ A c=>L (show bP d8=(bP d8).take 5++ [.Expr (dx (stI 5)) (qz (stI 5)),.Expr (dx (stI 6)) (qz (stI 6))]from rfl) ?_;have t:∀ρ e,TE g X E ρ (bG e E) (ib (bz d8) ck f (u4 ck f d) ρ e):=λ ρ=>B9 G c.y c.cM (av F.there λ o a b=>(bh o fd ⟨a,b⟩)) s rfl (Ca d8 ck h) A (SX F I q Bq G s h d λ u u=>trivial);exact Sz (lB (pb G 0) 30 30 bI d X W E ρ _ (pb G d) c) λ ρ=>(o1 (Be c rfl (t ρ _)) λ ρ=>o1 (Be c rfl (t ρ _)) λ ρ=>qe)
theorem SY(F:ly g f fd (bP eP))(I:fd.scope=bz eP)(q:∀vs:H aq,O vs=O yf->rh fd ⟨vs,[]⟩=pure (yf.zip vs))(Bq:Base g)(G:hh g ee)(s:ck.lookup (ep "inner")=B (.d (.obj f)))
  (h:(ck.all λ p=>(bz eP).names.lookup p.1==B .free)=S):∀d,(∀x,eW g x d->True)->B8 g f d (bz eP) fd.closure ck (yg ck f d)
 |0,_=>λ u u u u=>.au|d+1,_=>by refine SW F I q rfl rfl Bq λ X e W ρ A c=>L aht ?_;obtain t:=λ ρ=>B9 G c.y c.cM (av F.there λ o a b=>(bh o fd ⟨a,b⟩)) s rfl (Ca eP ck h) A (SY F I q Bq G s h d λ u u=>trivial);refine Sz (lB (pb G 0) 30 30 bI d X W e ρ _ (pb G d) c) λ ρ=>(o1 (xu c (F6 c.y (F6 c.y (t ρ _) (f7 (pb G d) 30 _ ρ _ X e c.y c.cM).1) (t ρ _))) λ ρ=>qe)abbrev gp:=bz d8
abbrev hG:=bz eP
noncomputable def lI(i:J)(n:ah)(f:J):az:=[("a_digits",.aH i),("n",.d (.int n)),("inner",.d (.obj f))]def hH(x aN R:ah)(i:J)(n:ah)(f:J):az:=("R",.d (.int R))::("L",.d (.int aN))::("x",.d (.int x))::lI i n f
def yh:bx->H Stmt:=sB 0
def u5(e:aJ):H PySem.Expr:=(fI e).es.tail
theorem Ip(e:b5 m k σ=B q){G:Prop}(n:∀ρ V,m σ=B (.ok (.next,ρ),V)->k ρ V=B q->G)(s:∀F ρ V,F≠ .next->m σ=B (.ok (F,ρ),V)->(.ok (F,ρ),V)=q->G)(x:∀c as V,m σ=B (.exc c as,V)->(.exc c as,V)=q->G):G:=
 Ev.NM e (λ r V h e=>by
  obtain⟨F,ρ⟩:=r;rcases F with _|_|_|a
  ·exact n ρ V h e
  ·exact s .brk ρ V nofun h (ak e)
  ·exact s .cont ρ V nofun h (ak e)
  ·exact s (.ret a) ρ V nofun h (ak e)) x
theorem ahw(h:m σ=B (.ok (F,ρ),gO))(n:F≠ .next):b5 m k σ=B (.ok (F,ρ),gO):=by
 apply Y (aT h);rcases F with _|_|_|a
 ·exact aS rfl n
 all_goals rfl
theorem cR{st:bx}{σ af:aE}(h:b4 c C M s (N+2) ρ [st] σ=B (.ok (.next,ar),af)):b4 c C M s (N+2) ρ (st::rest) σ=b4 c C M s (N+1) ar rest af:=
 Ip h (λ T V W j=>have p:=bc (ak j);Y (aT W) ((bc (Res.ok.inj p.1)).2▸p.2▸rfl)) (λ F T V n W q=>aS (bc (Res.ok.inj (bc q).1)).1 n) λ c as V W q=>nomatch (bc q).1
theorem Iq{st:bx}{σ af:aE}(h:b4 c C M s (N+2) ρ [st] σ=B (.ok (.ret v,ar),af)):b4 c C M s (N+2) ρ (st::rest) σ=B (.ok (.ret v,ar),af):=
 Ip h (λ T V W j=>nomatch (bc (Res.ok.inj (bc (ak j)).1)).1) (λ F T V n W q=>ahw (Y W (aM B q)) nofun) λ c as V W q=>nomatch (bc q).1
theorem Ir{st:bx}{cl:b1}{as:H D}(h:b4 c C M s (N+2) ρ [st] σ=B (.exc cl as,af)):b4 c C M s (N+2) ρ (st::rest) σ=B (.exc cl as,af):=
 Ip h (λ T V W j=>nomatch (bc (ak j)).1) (λ F T V n W q=>nomatch (bc q).1) λ c as V W q=>jk (Y W (aM B q))
section
variable (x aN R n:ah)(i f:J)(σ:aE)theorem S0:(ba bI 30 gp (hH x aN R i n f) (dx (stI 0))).2 σ=B (.ok (aN+1==R),σ):=rfl
theorem ahx:b4 bI bI 30 gp 29 (hH x aN R i n f) (yh (stI 0)) σ=(b5 (((qu (.aH i) (.d (.int aN)) (.d (.int x))).bind λ u=>Ev.ret (hH x aN R i n f)).bind λ ar=>.ret (.next,ar)) λ ar=>b4 bI bI 30 gp 28 ar ((yh (stI 0)).drop 1)) σ:=rfl
theorem ahy(ρ:az):b4 bI bI 30 gp 28 ρ ((yh (stI 0)).drop 1) σ=B (.ok (.ret (.d .none),ρ),σ):=rfl
theorem S1:b4 bI bI 30 gp 30 (hH x aN R i n f) [stI 0] σ=(b5 (fL (ba bI 30 gp (hH x aN R i n f) (dx (stI 0))).2 (b4 bI bI 30 gp 29 (hH x aN R i n f) (yh (stI 0))) (b4 bI bI 30 gp 29 (hH x aN R i n f) [])) λ ar=>b4 bI bI 30 gp 29 ar []) σ:=rfl
theorem ahz:b4 bI bI 30 gp 29 (hH x aN R i n f) [stI 1] σ=B (.ok (.next,("mid",.d (.int ((aN+R).fdiv (2^1))))::hH x aN R i n f),σ):=rfl
theorem ahA(mid:ah):b4 bI bI 30 gp 28 (("mid",.d (.int mid))::hH x aN R i n f) [stI 2] σ=(b5 ((Ev.ofD (fW .Mult (.int (mid-aN)) (.int n))).bind λ a=>.ret (.next,("shift",a)::("mid",.d (.int mid))::hH x aN R i n f)) λ ar=>b4 bI bI 30 gp 27 ar []) σ:=rfl
theorem ahB(mid s:ah):b4 bI bI 30 gp 27 (("shift",.d (.int s))::("mid",.d (.int mid))::hH x aN R i n f) [stI 3] σ=(b5 ((Ev.ofD (fW .RShift (.int x) (.int s))).bind λ a=>.ret (.next,("upper",a)::("shift",.d (.int s))::("mid",.d (.int mid))::hH x aN R i n f)) λ ar=>b4 bI bI 30 gp 26 ar []) σ:=rfl
theorem ahC(mid s u:ah):b4 bI bI 30 gp 26 (("upper",.d (.int u))::("shift",.d (.int s))::("mid",.d (.int mid))::hH x aN R i n f) [stI 4] σ=(b5 (((Ev.ofD (fW .LShift (.int u) (.int s))).bind λ b=>(Ev.read b).bind λ D=>Ev.ofD (fW .BitXor (.int x) D)).bind λ a=>.ret (.next,("lower",a)::("upper",.d (.int u))::("shift",.d (.int s))::("mid",.d (.int mid))::hH x aN R i n f)) λ ar=>b4 bI bI 30 gp 25 ar []) σ:=rfl
theorem S2:(bP d8).take 5=[stI 0,stI 1,stI 2,stI 3,stI 4]:=rfl
end
theorem u6(k:J):i_ (k:ah)=aQ k:=by
 delta i_ aQ;obtain this:((k:ah)==0)=(k==0):=by induction k with|zero=>rfl|succ k=>exact L (show((↑(k+1):ah)==0)=aj by simp;exact bi_ine.mp rfl) rfl
 exact L this rfl
theorem u7(h:k<2^b):aQ k<=b:=by
 unfold aQ;split
 ·exact Zf _
 ·next e=>exact(K4 (by simpa using e)).mpr h
theorem Cb(k:J):k<2^aQ k:=by
 unfold aQ;split
 ·next h0=>have:=by simpa using h0
           refine L this ?_;decide
 ·next h0=>exact ani
theorem sm(a b:J):Int.fdiv (a:ah) (b:ah)=((a/b:J):ah):=L (za _ (m2 b)) rfl
theorem ahD(x s:J):x&&&(x/2^s*2^s)=x/2^s*2^s:=by
 apply Nat.eq_of_testBit_eq;intro i;simp only[Nat.testBit_and,Nat.testBit_mul_two_pow,aoL];by_cases h:s<=i
 ·simp[h]
 ·simp[h]theorem ahE(x s:J):Builtin.bitXor (x:ah) ((x/2^s*2^s:J):ah)=((x% 2^s:J):ah):=by rw[bitXor_and];obtain e:D3 x (x/2^s*2^s:J)=((x&&&(x/2^s*2^s)):ah):=rfl;simp only[e,ahD];have h:=Nat.div_add_mod' x (2^s);generalize x/2^s*2^s=y at*;generalize x% 2^s=r at*;refine ax h ?_;lia
theorem pd(n:J):∀(c x:J),O (dB n c x)=c
 |0,_=>rfl|c+1,x=>aM _ (pd n c _)
theorem S3(n:J):∀(c C x:J),dB n (c+C) x=dB n c (x% 2^(c*n))++dB n C (x/2^(c*n))
 |0,C,x=>by rw[hO,wc,DK,zK];rfl|c+1,C,x=>by refine L (show c+1+C=(c+C)+1 by exact zg c 1 C) (?_:_::dB n _ _=_::(dB n c _++dB n C _));simp only[S3 n c C _,(show 2^((c+1)*n)=2^n*2^(c*n) by rw[<-ki];rw[pP];lia),anp,ano,oq]def jq(x aN R mid d3 up lo:ah)(i:J)(n:ah)(f:J):az:=("lower",.d (.int lo))::("upper",.d (.int up))::("shift",.d (.int d3))::("mid",.d (.int mid))::hH x aN R i n f
section
variable (x aN R mid d3 up lo n:ah)(i f:J)(σ:aE)theorem S4:agree (lI i n f) (jq x aN R mid d3 up lo i n f)=true:=by simp only[(show agree (lI i n f) (jq x aN R mid d3 up lo i n f)=(j7 (.aH i) (.aH i)&&(j7 (.d (.int n)) (.d (.int n))&&(j7 (.d (.obj f)) (.d (.obj f))&&S))) by lk),qy];rfl
theorem ahF(C:H V->Ev V)(ck ρ:az):ib gp ck f C ρ (dx (stI 5))=(match agree ck ρ&&S with
  |true=>(cE ((u5 (dx (stI 5))).map λ e=>(ba bI 30 gp ρ e).1)).bind C|false=>.au):=rfl
theorem ahG(C:H V->Ev V)(ck ρ:az):ib gp ck f C ρ (dx (stI 6))=(match agree ck ρ&&S with
  |true=>(cE ((u5 (dx (stI 6))).map λ e=>(ba bI 30 gp ρ e).1)).bind C|false=>.au):=rfl
theorem bind_some{e p:Type}{m:Ev e}{k:e->Ev p}{σ af:aE}{a:e}(h:m σ=B (.ok a,af)):m.bind k σ=k a af:=by unfold Ev.bind;rw[h]theorem u9(A:ib s ck f C ρ e=(match agree ck ρ&&S with|true=>(cE m).bind C|false=>.au))(c:agree ck ρ=S)(h:cE m σ=B (.ok as,σ)):ib s ck f C ρ e σ=C as σ:=by rw[A,c];exact bind_some h
theorem ahH(C:H V->Ev V):ib gp (lI i n f) f C (jq x aN R mid d3 up lo i n f) (dx (stI 5)) σ=C [.d (.int lo),.d (.int aN),.d (.int mid)] σ:=u9 f σ (ahF ..) (S4 ..) rfl
theorem ahI(C:H V->Ev V):ib gp (lI i n f) f C (jq x aN R mid d3 up lo i n f) (dx (stI 6)) σ=C [.d (.int up),.d (.int mid),.d (.int R)] σ:=u9 f σ (ahG ..) (S4 ..) rfl
theorem pe{σ af:aE}(h:m σ=B (.ok (.next,ρ),af)):b5 m k σ=k ρ af:=by unfold b5;rw[bind_some h]theorem qA{σ af:aE}(h:m σ=B (.ok (.ret v,ρ),af)):b5 m k σ=B (.ok (.ret v,ρ),af):=by unfold b5;rw[bind_some h];rfl
theorem Cc{e:Type}{a b:Ev e}{σ af:aE}(h:t σ=B (.ok S,af)):fL t a b σ=a af:=by unfold fL;rw[bind_some h]theorem It{e:Type}{a b:Ev e}{σ af:aE}(h:t σ=B (.ok aj,af)):fL t a b σ=b af:=by unfold fL;rw[bind_some h]
theorem take_one(h:(aN+1==R)=S)(b:qu (.aH i) (.d (.int aN)) (.d (.int x)) σ=B (.ok (),af)):b4 bI bI 30 gp 30 (hH x aN R i n f) ((bP d8).take 5) σ=B (.ok (.ret (.d .none),hH x aN R i n f),af):=by
 refine L S2 (Iq (Y (S1 ..) ?_));rw[qA];rw[Cc (Y (S0 ..) (L h rfl)),ahx,pe (af:=af)]
 ·exact ahy ..
 ·rw[bind_some (af:=af)]
  ·rfl
  ·exact L (bind_some b) rfl
end
theorem S5(m k:J)(h:(m+k)/2=aN):((m:ah)+(k:J)).fdiv (2^1)=(aN:J):=Y (sm _ 2) (aM _ h)theorem S6(a b:J):((a+b:J):ah)- a=b:=by rw[KU,Ky,Int.add_sub_cancel]theorem S7{a b:J}(h:b<2^64):fW .Mult (.int a) (.int b)=B (.int (a*b:J)):=by show a8 _ _=_;simp[u6,u6,dD (u7 h),Zt];rfl
theorem ahJ{a s:J} :fW .RShift (.int a) (.int s)=B (.int (a/2^s:J)):=
 aM (λ q=>B _) (Y (aM _ rfl) (sm a _))theorem Iu(h:aQ a+s<=1000000):fW .LShift (.int a) (.int s)=B (.int (a*2^s:J)):=by show a8 _ _=_;exact L (u6 ..) (L (gJ (vG.mpr h)) rfl)theorem ahK{x s:J} :fW .BitXor (.int x) (.int (x/2^s*2^s:J))=B (.int (x% 2^s:J)):=aM (λ q=>B _) (ahE x s)
theorem S8(C:c≠1)(h:1<=c)(j:c<=2*P){G:Prop}(k:∀a b,c=a+b->1<=a->1<=b->a<=P->b<=P->(∀aN,(aN+(aN+(a+b)))/2=aN+a)->G):G:=
 have e:=aoM (aoN c 2)
 k _ _ e.symm (DG (Nat.lt_of_le_of_ne h (rd C)) (by decide)) (anF (Nat.div_lt_self h (by decide))) (Nat.div_le_of_le_mul j) (by lia) λ aN=>by rw[e,<-m1,<-Nat.two_mul,Yz (by decide)]
theorem xx(aN:J)(c:1<=a)(q:1<=b):((aN:ah)+1==((aN+(a+b):J):ah))=false:=
 ro λ h=>aS (aok (aoO h)) (il (vL c q))
theorem ahL(x aN a b n i f:J)(σ:aE)(h:1<=a)(r:1<=b)(e:(aN+(aN+(a+b)))/2=aN+a)(V:n<2^64)(K:aQ (x/2^(a*n))+a*n<=1000000):
  b4 bI bI 30 gp 30 (hH x aN (aN+(a+b):J) i n f) ((bP d8).take 5) σ=B (.ok (.next,jq x aN (aN+(a+b):J) (aN+a:J) (a*n:J) (x/2^(a*n):J) (x% 2^(a*n):J) i n f),σ):=by
 dsimp only[S2];rw[cR (Y (S1 ..) (Y (pe (Y (It (Y (S0 ..) (L (xx aN h r) rfl))) rfl)) rfl)),cR (Y (ahz ..) (L (S5 _ _ e) rfl)),cR (Y (ahA ..) (L (S6 ..) (L (S7 V) rfl))),cR (Y (ahB ..) (L (ahJ ..) rfl))];exact Y (ahC ..) (L (Iu K) (Y (aM (λ q=>b5 ((Ev.ofD q).bind _) _ σ) ahK) rfl))
theorem S9(M:F=.ret (.d .none)\/F=.next)(h:m σ=B (.ok (F,ρ),g))(z:g.length=σ.length)(E:g.all (bk (O σ))=S):ia .plain m σ=B (.ok (.d .none),g):=by
 rcases M with rfl|rfl
 ·exact Y (Bh h z (z▸E)) Bi
 ·exact Y (Bh h z (z▸E)) Bj
theorem Iv{σ:aE}(h:σ.all (bk (O σ))=S):(σ.set i (.ae xs)).all (bk (O σ))=true:=by
 rw[b9]at h ⊢;intro m e;rcases List.mem_or_eq_of_mem_set e with W|rfl
 ·exact h m W
 ·rfl
noncomputable def put(xs y:H D)(aN:J):H D:=xs.take aN++(y++xs.drop (aN+O y))theorem ahM(h:aN+y.length<=O xs):O (put xs y aN)=O xs:=by unfold put;simp[e2,e2,En,aoP,zD (bA _ h),<-m1,aoM h]theorem ahN(h:aN<=O xs):put (put xs A aN) Bq (aN+O A)=put xs (A++Bq) aN:=by unfold put;rw[<-eb _ A,e2,<-m1,(show aN+O A=O (xs.take aN++A) by rw[e2,En,zD h]),aoQ,List.drop_length_add_append,YB,eb,eb]
theorem S_(n i f:J){xs:H D}(E:σ.all (bk (O σ))=S)(s:σ[i]?=B (.ae xs))(h:aN+1<=O xs)(q:O xs<=32):
  u4 (lI i n f) f (d+1) [.d (.int x),.d (.int aN),.d (.int (aN+1:J))] σ=B (.ok (.d .none),σ.set i (.ae (put xs [.int x] aN))):=L (show put xs [.int x] aN=xs.set aN _ from(Y List.set_eq_take_append_cons_drop (bC h)).symm) (Y (pI rfl σ) (S9 (.inl rfl) (qA (take_one _ _ _ _ _ _ _ (oi _) (Y (rT s) (eh (L (cg.mpr h) (L (dD (bA q (by decide))) rfl)))))) (zy ..) (Iv E)))theorem Ta(h:x<2^(1*n)):dB n 1 x=[.int x]:=by rw[y8]at h;show[D.int _]=_;exact L (zp h) rfl
theorem Tb(h:aQ x<=b*n)(m:a+b<=32)(V:n<=1000):aQ x+a*n<=1000000:=
 bA (pF h _) (bA (pP b a n▸Nat.mul_le_mul (iO b a▸m) V) (by decide))
theorem Iw(n i f:J)(k:n<=1000):∀(d x aN c:J)(σ:aE)(xs:H D),σ.all (bk (O σ))=S->σ[i]?=B (.ae xs)->aN+c<=O xs->O xs<=32->1<=c->c<=2^d->x<2^(c*n)->
  u4 (lI i n f) f (d+1) [.d (.int x),.d (.int aN),.d (.int (aN+c:J))] σ=B (.ok (.d .none),σ.set i (.ae (put xs (dB n c x) aN)))
 |0,x,aN,c,σ,xs,E,s,h,q,G,y,K=>by obtain rfl:=DX y G;rw[Ta K];exact S_ n i f E s h q
 |d+1,x,aN,c,σ,xs,E,s,h,q,G,y,K=>by
  by_cases C:c=1
  ·subst C
   rw[Ta K];exact S_ n i f E s h q
  refine S8 C G (ax Yx y) λ a b e l T P Q r=>?_;subst e;obtain j:=((td (kX _)).mpr (by rw[<-ki,<-pP,iO b];exact K));obtain o:=pd n a _;obtain m:=bA (bA (jJ ..) h) q;rw[<-m1]at h;obtain g:=bA (gK ..) h;obtain z:=ahM (o.symm▸g);obtain I:=Iw n i f k d _ _ b _ _ (L zy (Iv E)) (Y0 (oR s)) (ax z.symm h) (ax z.symm q) T Q j;obtain p:=ahN (bA (gK aN a) g);rw[o,<-S3]at p;rw[Y2,p,m1]at I;exact Y rfl (S9 (.inr rfl) (Y (pe (ahL x aN a b n i f σ l T (r aN) (gf k (by decide)) (Tb (u7 j) m k)))
   (Y (pe (by unfold kH;rw[bind_some (Y (ahH ..) (Iw n i f k d _ aN a σ xs E s g q l P (dN _ (kX _))))];rfl))
   (Y (pe (by unfold kH;rw[bind_some ((ahI ..).trans I)];rfl)) rfl))) (zy ..) (Iv E))noncomputable def lJ(bO:V)(n:ah)(f:J):az:=[("digits",bO),("n",.d (.int n)),("inner",.d (.obj f))]def kK(aN R:ah)(bO:V)(n:ah)(f:J):az:=("R",.d (.int R))::("L",.d (.int aN))::lJ bO n f
def dP(aN R mid d3:ah)(bO:V)(n:ah)(f:J):az:=("shift",.d (.int d3))::("mid",.d (.int mid))::kK aN R bO n f
section
variable (aN R mid d3 n:ah)(bO:V)(f:J)(σ:aE)theorem Tc:(ba bI 30 hG (kK aN R bO n f) (dx (mL 0))).2 σ=B (.ok (aN+1==R),σ):=rfl
theorem Td:b4 bI bI 30 hG 30 (kK aN R bO n f) [mL 0] σ=(b5 (fL (ba bI 30 hG (kK aN R bO n f) (dx (mL 0))).2 (b4 bI bI 30 hG 29 (kK aN R bO n f) (yh (mL 0))) (b4 bI bI 30 hG 29 (kK aN R bO n f) [])) λ ar=>b4 bI bI 30 hG 29 ar []) σ:=rfl
theorem ahO:b4 bI bI 30 hG 29 (kK aN R bO n f) [mL 1] σ=B (.ok (.next,("mid",.d (.int ((aN+R).fdiv (2^1))))::kK aN R bO n f),σ):=rfl
theorem ahP:b4 bI bI 30 hG 28 (("mid",.d (.int mid))::kK aN R bO n f) [mL 2] σ=(b5 ((Ev.ofD (fW .Mult (.int (mid-aN)) (.int n))).bind λ a=>.ret (.next,("shift",a)::("mid",.d (.int mid))::kK aN R bO n f)) λ ar=>b4 bI bI 30 hG 27 ar []) σ:=rfl
theorem Te:(bP eP).take 3=[mL 0,mL 1,mL 2]:=rfl
theorem Tf:agree (lJ bO n f) (dP aN R mid d3 bO n f)=true:=by simp only[(show agree (lJ bO n f) (dP aN R mid d3 bO n f)=(j7 bO bO&&(j7 (.d (.int n)) (.d (.int n))&&(j7 (.d (.obj f)) (.d (.obj f))&&S))) by lk),qy];rfl
theorem ahQ(C:H V->Ev V)(ck ρ:az):ib hG ck f C ρ (ic (ic j8))=(match agree ck ρ&&S with
  |true=>(cE ((u5 (ic (ic j8))).map λ e=>(ba bI 30 hG ρ e).1)).bind C|false=>.au):=rfl
theorem ahR(C:H V->Ev V)(ck ρ:az):ib hG ck f C ρ (lH j8)=(match agree ck ρ&&S with
  |true=>(cE ((u5 (lH j8)).map λ e=>(ba bI 30 hG ρ e).1)).bind C|false=>.au):=rfl
theorem ahS(C:H V->Ev V):ib hG (lJ bO n f) f C (dP aN R mid d3 bO n f) (ic (ic j8)) σ=C [.d (.int mid),.d (.int R)] σ:=u9 f σ (ahQ ..) (Tf ..) rfl
theorem ahT(C:H V->Ev V):ib hG (lJ bO n f) f C (dP aN R mid d3 bO n f) (lH j8) σ=C [.d (.int aN),.d (.int mid)] σ:=u9 f σ (ahR ..) (Tf ..) rfl
theorem ahU(h:(aN+1==R)=S)(b:lD bO (.d (.int aN)) σ=B (.ok a,af)):b4 bI bI 30 hG 30 (kK aN R bO n f) ((bP eP).take 3) σ=B (.ok (.ret a,kK aN R bO n f),af):=by refine L Te (Iq (Y (Td ..) ?_));rw[qA];rw[Cc (Y (Tc ..) (L h rfl)),(show b4 bI bI 30 hG 29 _ _=(b5 (lx _ _) λ ar=>b4 bI bI 30 hG 28 ar [])from rfl),qA];unfold lx;exact L (bind_some b) rfl
theorem ahV{aN a b n:J}(h:1<=a)(q:1<=b)(e:(aN+(aN+(a+b)))/2=aN+a)(V:n<2^64):
  b4 bI bI 30 hG 30 (kK aN (aN+(a+b):J) bO n f) ((bP eP).take 3) σ=B (.ok (.next,dP aN (aN+(a+b):J) (aN+a:J) (a*n:J) bO n f),σ):=by
 dsimp only[Te];rw[cR (Y (Td ..) (Y (pe (Y (It (Y (Tc ..) (L (xx aN h q) rfl))) rfl)) rfl)),cR (Y (ahO ..) (L (S5 _ _ e) rfl))];exact Y (ahP ..) (L (S6 ..) (L (S7 V) rfl))
end
theorem Iy(h:m σ=B (.ok (.ret (.d d),ρ),σ))(E:σ.all (bk (O σ))=S):ia .plain m σ=B (.ok (.d d),σ):=Y (xD h E) Bi
theorem Tg(n:J):∀xs y:H J,fA n (xs++y)=fA n y*2^(O xs*n)+fA n xs
 |[],y=>by rw[ze,wc,DK,vK];rfl|x::xs,y=>by apply Y (aM (λ z=>z*2^n+x) (Tg n xs y));simp[show fA n (x::xs)=fA n xs*2^n+x from rfl,gx,pP _,y8,ki,pP,aoR];exact m1 _ _ x
theorem Th(n:J):∀xs:H J,(∀x∈xs,x<2^n)->fA n xs<2^(O xs*n)
 |[],_=>L ze (L (wc ..) LG)
 |x::xs,h=>by
  simp[gx];simp[pP (O xs),y8,ki]
  calc fA n xs*2^n+x<fA n xs*2^n+2^n:=(LH (h x cV) (fA n xs*2^n))
   _=(fA n xs+1)*2^n:=by simp only[pP];lia
   _<=2^(O xs*n)*2^n:=vJ _ (Th n xs λ y m=>h y (c7 _ m))
theorem Ti(W:m σ=B (.ok (.d a),σ))(j:M σ=B (.ok (.d b),σ))(h:fW o a b=B d):kE o m M σ=B (.ok (.d d),σ):=
 Y (bind_some W) (Y (bind_some j) (pI (aM Ev.ofD h) σ))theorem Tj(h:m σ=B (.ok v,af)):lx m ρ σ=B (.ok (.ret v,ρ),af):=Y (bind_some h) rfl
theorem Tn{n f:J}{ds:H J}(h:σ.all (bk (O σ))=S)(w:aN<O ds)(l:lD bO (.d (.int (aN:J))) σ=B (.ok (.d (.int (ds[aN]:J))),σ)):
  yg (lJ bO n f) f (d+1) [.d (.int aN),.d (.int (aN+1:J))] σ=B (.ok (.d (.int (fA n ((ds.drop aN).take 1):J))),σ):=L (show fA n _=ds[aN] by rw[KJ w];exact Y (aM (· +_) (wc _)) (hO _)) (Y rfl (Iy (qA (ahU _ _ _ _ _ _ (oi _) l)) h))
theorem Iz(n f:J)(bO:V)(ds:H J)(σ:aE)(j:n<=1000)(p:O ds<=32)(g:∀x∈ds,x<2^n)(E:σ.all (bk (O σ))=S)(l:∀aN (h:aN<O ds),lD bO (.d (.int (aN:J))) σ=B (.ok (.d (.int (ds[aN]:J))),σ)):
  ∀(d aN c:J),aN+c<=O ds->1<=c->c<=2^d->
  yg (lJ bO n f) f (d+1) [.d (.int aN),.d (.int (aN+c:J))] σ=B (.ok (.d (.int (fA n ((ds.drop aN).take c):J))),σ)
 |0,aN,c,w,G,y=>by obtain rfl:=DX y G;exact Tn E w (l aN w)
 |d+1,aN,c,w,G,y=>by
  by_cases C:c=1
  ·subst C;exact Tn E w (l aN w)
  refine S8 C G (ax Yx y) λ a b e k q P z r=>?_;subst e;obtain o:=bA (bA (jJ ..) w) p;rw[<-m1]at w;obtain i:=bA (gK ..) w;obtain I:=Iz n f bO ds σ j p g E l d _ b w q z;rw[m1]at I;refine L ((show fA n _=fA n ((ds.drop (aN+a)).take b)*2^(a*n)+fA n ((ds.drop aN).take a)from by
    simp only[List.take_add,YB,Tg,En,aoP,zD (Nat.le_sub_of_add_le' i)])) ?_
  exact Y rfl (Iy (Y (pe (ahV bO f σ k q (r aN) (gf j (by decide))))
   (qA (Tj (Ti (Ti (Y (ahS ..) I) rfl (Iu (Tb (u7 (eo (Th n _ λ x m=>g x (nc (m_ m))) (q9 (by decide) (vJ _ (Zv ..))))) o j))) (Y (ahT ..) (Iz n f bO ds σ j p g E l d aN a i k P)) (aM B (aM D.int (KU ..).symm)))))) E)def ajR(a b n:D):U D:=jx P0 30 (bz (aY 13)) 59 [("n",n),("b",b),("a",a)] ((bP (aY 13)).drop 1) λ u=>B .none
theorem ajS(a b n:D):ka P0 (aY 13) [a,b,n]=(((I1 a []).bind λ x=>aI .Sub x n).bind λ x=>cp .LtE x (.int 4000)).bind λ c=>match c with|true=>vi Bc [a,b]|false=>ajR a b n:=rfl
def mS(ds:H D):U D:=sL (CE λ a b n=>a8 (bE 0 b&&(aZ (aQ b) 1000&&aZ (aQ a) (n+4000))) (B (.aD [.int (a/b:J),.int (a% b:J)]))) ds
theorem ajT(W:0<b)(h:aQ b<=1000)(w:aQ a<=n+4000):ka P0 (aY 13) [.int (a:J),.int (b:J),.int (n:J)]=B (.aD [.int (a/b:J),.int (a% b:J)]):=by
 dsimp only[ajS];obtain e:I1 (.int a) []=B _:=by show B _=_;rw[u6]
 obtain E:cp .LtE (.int _) (.int 4000)=B true:=by show B (decide (((aQ a)- (n:ah))<=4000))=_;rw[gJ (by lia)]
 rw[e,gM,(show aI .Sub _ _=B _ by rw[L9];rfl),gM,E];show a8 _ _=_;rw[(show((!((b:ah)==0))&&!tr a b)=S from by
   obtain e:=ro (ao3.mpr (hM W));obtain f:tr a b=false:=by
    dsimp only[tr];simp only[e];obtain this:(b:ah).natAbs.log2<=1000:=by unfold aQ at h;rw[a6 (by simp;lia)]at h;exact ik ‹_›
    rw[l1 (by lia)];rfl
   rw[e,f];rfl),sm,zN _ (m2 b)];rfl
abbrev CL:Scope:=bz (aY 17)def fD(k:J):Stmt:=(bP (aY 17)).getD k (.Pass ew)def f9:bx->H Stmt:=sB 0
def iG:bx->PySem.Expr:=hz 1
def Vi(gT fR fS:bV):Cfg:=eG (d4 [(80,gT),(94,fR),(101,fS)])noncomputable def rQ3(o n a b:D):az:=[("r",.d (.int 0)),("a_digits",.d o),("n",.d n),("b",.d b),("a",.d a)]noncomputable def ey(r o n a b:D):az:=[("q_digits",.aH 2),("r",.d r),("a_digits",.d o),("n",.d n),("b",.d b),("a",.d a)]abbrev t0:cj:=.tab 89 121 4 lF
abbrev t1:cj:=.tab 96 136 4 mH
abbrev gU(gT fR fS:bV):=b4 (Vi gT fR fS) fj 30 CL
section
variable (gT fR fS:bV)(a b n r d:ah)(ds dK:H D)(v:V)(k:J)theorem q_0:gU gT fR fS 60 [("b",.d (.int b)),("a",.d (.int a))] [fD 0] bK=B (.ok (.next,[("n",.d (.int (i_ b))),("b",.d (.int b)),("a",.d (.int a))]),bK):=rfl
theorem q_1:gU gT fR fS 59 [("n",.d (.int n)),("b",.d (.int b)),("a",.d (.int a))] [fD 1] bK=(b5 ((fR [.d (.int a),.d (.int n)] []).bind λ v=>.ret (.next,[("a_digits",v),("n",.d (.int n)),("b",.d (.int b)),("a",.d (.int a))])) λ ρ=>gU gT fR fS 58 ρ []) bK:=rfl
theorem q_3:gU gT fR fS 57 (rQ3 (.ae ds) (.int n) (.int a) (.int b)) [fD 3] bK=B (.ok (.next,ey (.int 0) (.ae ds) (.int n) (.int a) (.int b)),[t0,t1,.ae []]):=rfl
theorem q_4(ρ:az)(h:ρ=ey (.int 0) (.ae ds) (.int n) (.int a) (.int b)):gU gT fR fS 56 ρ [fD 4] [t0,t1,.ae []]=(b5 (λ u=>j5 ρ 3 (gR CL (iG (fD 4)) (λ ρ=>gU gT fR fS 55 ρ (f9 (fD 4))) 3 ρ 4 1000 ρ [t0,t1,.ae [],.it (.rev ds (O ds))])) λ ar=>gU gT fR fS 55 ar []) [t0,t1,.ae []]:=by subst h;lk
theorem q_A:gU gT fR fS 55 (("a_digit",.d (.int d))::ey (.int r) (.ae ds) (.int n) (.int a) (.int b)) (f9 (fD 4))=(b5 ((ju gT [] [kE .Add (kE .LShift (.ret (.d (.int r))) (.ret (.d (.int n)))) (.ret (.d (.int d))),.ret (.d (.int b)),.ret (.d (.int n))] [] []).bind λ A=>Bu A λ e=>lA ((Ev.of (hE e 2)).bind λ es=>qm (Vi gT fR fS) 30 CL [.Name "q_digit" ew,.Name "r" ew] (es.map V.d) (("a_digit",.d (.int d))::ey (.int r) (.ae ds) (.int n) (.int a) (.int b)))) λ ar=>gU gT fR fS 54 ar ((f9 (fD 4)).drop 1)):=by lk
theorem q_B(q s:ah):gU gT fR fS 54 (("r",.d (.int s))::("q_digit",.d (.int q))::("a_digit",.d (.int d))::ey (.int r) (.ae ds) (.int n) (.int a) (.int b)) ((f9 (fD 4)).drop 1) [t0,t1,.ae dK,.it (.rev ds k)]=(b5 (kH (qq [.aH 2,.d (.int q)]) (("r",.d (.int s))::("q_digit",.d (.int q))::("a_digit",.d (.int d))::ey (.int r) (.ae ds) (.int n) (.int a) (.int b))) λ ar=>gU gT fR fS 53 ar []) [t0,t1,.ae dK,.it (.rev ds k)]:=rfl
theorem q_C(q s:ah):fP (ey (.int 0) (.ae ds) (.int n) (.int a) (.int b)) 4 (("r",.d (.int s))::("q_digit",.d (.int q))::("a_digit",.d (.int d))::ey (.int r) (.ae ds) (.int n) (.int a) (.int b)) [t0,t1,.ae dK,.it (.rev ds k)]=B (ey (.int s) (.ae ds) (.int n) (.int a) (.int b),[t0,t1,.ae dK,.it (.rev ds k)]):=rfl
theorem q_5:gU gT fR fS 55 (ey (.int r) (.ae ds) (.int n) (.int a) (.int b)) [fD 5] [t0,t1,.ae dK]=(b5 (kH (BM [.aH 2]) (ey (.int r) (.ae ds) (.int n) (.int a) (.int b))) λ ar=>gU gT fR fS 54 ar []) [t0,t1,.ae dK]:=rfl
theorem q_6:gU gT fR fS 54 (ey (.int r) (.ae ds) (.int n) (.int a) (.int b)) [fD 6] [t0,t1,.ae dK]=(b5 ((fS [.aH 2,.d (.int n)] []).bind λ v=>.ret (.next,("q",v)::ey (.int r) (.ae ds) (.int n) (.int a) (.int b))) λ ρ=>gU gT fR fS 53 ρ []) [t0,t1,.ae dK]:=rfl
theorem q_7(q:ah):gU gT fR fS 53 (("q",.d (.int q))::ey (.int r) (.ae ds) (.int n) (.int a) (.int b)) [fD 7] [t0,t1,.ae dK]=B (.ok (.ret (.d (.aD [.int q,.int r])),("q",.d (.int q))::ey (.int r) (.ae ds) (.int n) (.int a) (.int b)),[t0,t1,.ae dK]):=rfl
end
theorem Vj(n:J):∀(c x k:J),k<c->(dB n c x)[k]?=B (.int (x/2^(k*n)% 2^n:J))
 |0,_,_,h=>by lia|c+1,x,0,_=>by rw[wc,DK,zK];rfl|c+1,x,k+1,h=>by refine(?_:(dB n c _)[k]?=_);rw[Vj n c _ k (vT ‹_›),oq,<-ki,show n+k*n=(k+1)*n by rw[pP];lia]theorem q_E(n a b R:ah)(ds dK:H D):j5 (ey (.int 0) (.ae ds) (.int n) (.int a) (.int b)) 3 (B (.ok (.next,ey (.int R) (.ae ds) (.int n) (.int a) (.int b)),[t0,t1,.ae dK,.cX]))=B (.ok (.next,ey (.int R) (.ae ds) (.int n) (.int a) (.int b)),[t0,t1,.ae dK]):=rfl
theorem ajU(h:O dK<1000000):BM [.aH 2] [t0,t1,.ae dK]=B (.ok (.d .none),[t0,t1,.ae dK.reverse]):=by
 show(match dc dK with
   |true=>B _|false=>aa)=_
 exact L (show dc dK=S by unfold dc;rw[DI];lia) rfl
theorem Vk(h:a<=b):aQ a<=aQ b:=u7 (gf h (Cb b))
section
variable (fR fS:bV){a b:J}(cv:0<b)(da:aQ b<=1000)
include cv da
theorem ajV(ds dK:H D)(k r d:J)(E:r<b)(l:d<2^aQ b)(G:O dK<1000000):
  gU (cx mS) fR fS 55 (((("a_digit" :ai),V.d (.int (d:J))):ai×V)::ey (.int (r:J)) (.ae ds) (.int (aQ b:J)) (.int (a:J)) (.int (b:J))) (f9 (fD 4)) [t0,t1,.ae dK,.it (.rev ds k)]=
   B (.ok (.next,((("r" :ai),V.d (.int ((r*2^aQ b+d)% b:J))):ai×V)::("q_digit",.d (.int ((r*2^aQ b+d)/b:J)))::("a_digit",.d (.int (d:J)))::ey (.int (r:J)) (.ae ds) (.int (aQ b:J)) (.int (a:J)) (.int (b:J))),[t0,t1,.ae (dK++ [D.int ((r*2^aQ b+d)/b:J)]),.it (.rev ds k)]):=by
 obtain h:=Vk (ik E);obtain I:aQ _<=aQ b+4000:=by
  apply u7
  calc r*2^aQ b+d<r*2^aQ b+2^aQ b:=(LH l _)
   _=(r+1)*2^aQ b:=by rw[pP];lia
   _<=2^aQ b*2^aQ b:=vJ _ (bA (Cb r) (q9 (by decide) h))
   _=2^(aQ b+aQ b):=(ki ..).symm
   _<=2^(aQ b+4000):=q9 (by decide) (by lia)
 obtain c:mS [.int (r*2^aQ b+d:J),.int b,.int (aQ b)]=B _:=by show a8 _ _=_;simp only[cg.mpr cv,dD da,dD I];rfl
 obtain e:cE [kE .Add _ (.ret (.d (.int d))),.ret _,.ret _] [t0,t1,.ae dK,.it _]=B _:=by
  show(Ev.bind _ _) _=_;rw[aT (a:=V.d _) (af:=[t0,t1,.ae dK,.it _])]
  ·rfl
  ·unfold kE
   rw[aT (a:=V.d (.int _)) (af:=[t0,t1,.ae dK,.it _])]
   ·show Ev.ofD (fW .Add (.int _) (.int d)) _=_
    exact L (rfl:fW .Add _ _=B _) rfl
   ·show Ev.ofD (fW .LShift (.int r) (.int (aQ b))) _=_
    exact L (Iu (by lia)) rfl
 obtain call:ju (cx mS) [] [kE .Add (kE .LShift (.ret (.d _)) (.ret (.d _))) _,.ret _,.ret _] [] [] [t0,t1,.ae dK,.it _]=B (.ok (.d (.aD [.int ((r*2^aQ b+d)/b:J),.int ((r*2^aQ b+d)% b:J)])),[t0,t1,.ae dK,.it (.rev ds k)]):=by exact Y (aT e) (sI c rfl)
 rw[q_A];unfold b5;rw[aT (a:=(f6.next,((("r"),V.d (.int ((r*2^aQ b+d)% b:J))):ai×V)::("q_digit",.d (.int ((r*2^aQ b+d)/b:J)))::("a_digit",.d (.int d))::ey (.int r) (.ae ds) (.int (aQ b)) (.int a) (.int b))) (af:=[t0,t1,.ae dK,.it (.rev ds k)])]
 ·dsimp only
  dsimp only[q_B];unfold b5;rw[aT (a:=(f6.next,((("r"),V.d (.int ((r*2^aQ b+d)% b:J))):ai×V)::("q_digit",.d (.int ((r*2^aQ b+d)/b:J)))::("a_digit",.d (.int d))::ey (.int r) (.ae ds) (.int (aQ b)) (.int a) (.int b))) (af:=[t0,t1,.ae (dK++ [D.int ((r*2^aQ b+d)/b:J)]),.it (.rev ds k)])]
  ·rfl
  ·unfold kH
   exact L (aT (aT (AZ rfl (by unfold dc;rw[DI];lia)))) rfl
 ·rw[aT call];lk
theorem ajW(c:J)(F:c<=32)(M:az)(p:M=ey (.int 0) (.ae (dB (aQ b) c a)) (.int (aQ b:J)) (.int (a:J)) (.int (b:J))):∀(k N:J)(dK:H J),k<=c->k<N->O dK+k=c->(∀x∈dK,x<2^aQ b)->fA (aQ b) dK.reverse=a/2^(k*aQ b)/b->
  ∃Q:H J,O Q=c/\(∀x∈Q,x<2^aQ b)/\fA (aQ b) Q.reverse=a/b/\
   gR CL (iG (fD 4)) (λ ρ=>gU (cx mS) fR fS 55 ρ (f9 (fD 4))) 3 M 4 N (ey (.int (a/2^(k*aQ b)% b:J)) (.ae (dB (aQ b) c a)) (.int (aQ b:J)) (.int (a:J)) (.int (b:J))) [t0,t1,.ae (bb dK),.it (.rev (dB (aQ b) c a) k)]=
    B (.ok (.next,ey (.int (a% b:J)) (.ae (dB (aQ b) c a)) (.int (aQ b:J)) (.int (a:J)) (.int (b:J))),[t0,t1,.ae (bb Q),.cX]):=by
 intro k;induction k with
 |zero=>
  intro N dK u R z f l;rcases N with _|N
  ·exact aS R (hu _)
  rw[wc,zK]at l;refine⟨dK,z,f,l,?_⟩;rw[wc,zK];rfl
 |succ k i=>
  intro N dK E R z f l;rcases N with _|N
  ·exact aS R (zo _)
  obtain P:=dN _ cv;obtain w:=dN _ (kX _);have C:a/2^(k*aQ b)=a/2^((k+1)*aQ b)*2^aQ b+a/2^(k*aQ b)% 2^aQ b:=by
   obtain e:a/2^((k+1)*aQ b)=a/2^(k*aQ b)/2^aQ b:=by rw[oq,<-ki,LK]
   obtain h:=ao5 _ _;rw[y4 _]at h;rw[e];exact h.symm
  obtain T:=ajV fR fS cv da (a:=a) (dB (aQ b) c a) (bb dK) k (a/2^((k+1)*aQ b)% b) (a/2^(k*aQ b)% 2^aQ b) P w (L (gg ..) (gf (bA (ao6 (fV z)) F) (by decide)));generalize m:a/2^((k+1)*aQ b)=A at*;generalize G:a/2^(k*aQ b)% 2^aQ b=o at*;obtain V:(A% b*2^aQ b+o)% b=a/2^(k*aQ b)% b:=by rw[C,Nat.add_mod,Nat.mul_mod,Nat.mod_mod,<-Nat.mul_mod,<-Nat.add_mod]
  obtain g:A/b*2^aQ b+(A% b*2^aQ b+o)/b=a/2^(k*aQ b)/b:=by
   obtain j:a/2^(k*aQ b)=(A% b*2^aQ b+o)+b*(A/b*2^aQ b):=by
    have:A*2^aQ b=b*(A/b*2^aQ b)+A% b*2^aQ b:=by rw[<-aoR,<-pP,<-((ao5 A b).symm)]
    rw[C,this,m1,iO]
   rw[j,Yy _ _ cv];exact iO ..
  obtain⟨Q,y,W,dP,t⟩:=i N (dK++ [(A% b*2^aQ b+o)/b]) (jN E) (Zk R) (L e2 (Y (m1 ..) (Y (aM _ (iO 1 k)) z))) (λ x K=>by
   rcases bB.mp K with q|q
   ·exact f x q
   ·rw[ek.mp q];exact((td cv).mpr (eo (LH w _) (ax (LK ..) (L (y4 ..) (vI _ P)))))) (by
   refine L List.reverse_append ?_;show fA _ dK.reverse*2^aQ b+(A% b*2^aQ b+o)/b=_;rw[l];exact g)
  refine⟨Q,y,W,dP,?_⟩;rw[(show bb _=bb dK++ [D.int ((A% b*2^aQ b+o)/b:J)] by unfold bb;simp)]at t;refine Y (BA ((by
    show(B _).map _=_;exact L (Vj _ c a k E) rfl)) rfl ((by lk) ..) T ?_) t
  rw[p,q_C,V]
end
theorem yy{ds:H D}(g:bY σ)(h:C (ds.map V.d) [] bK=B (.ok (.d d),bK)):fk C (ds.map V.d) [] σ=B (.ok (.d d),σ):=by unfold fk;rw[(YK.symm▸b9.mpr λ u u=>rfl:(ds.map V.d).all fB=S),g.1,g.2.1];exact L h rfl
theorem ajX{ds:H D}(g:bY σ)(h:C (ds.map V.d) [] bK=B (.exc cl es,bK)):fk C (ds.map V.d) [] σ=B (.exc cl es,σ):=by unfold fk;rw[(YK.symm▸b9.mpr λ u u=>rfl:(ds.map V.d).all fB=S),g.1,g.2.1];exact L h rfl
theorem yz(G:gn g)(W:0<n)(h:qw g n ct){st:bx}(M:wA.lookup a=B (.plain .plain,st))
  (k:∀ds d,f ds=B d->O ds=O (eU st)/\∃ar i,b4 (eG ct) fj 30 (bz st) 60 ((eU st).zip (ds.map V.d)).reverse (bP st) bK=B (.ok (.ret (.d d),ar),i)/\i.take 2=bK):cK g a (n+1) (cx f):=by
 refine cK.less (yb (mK (G.fns a _ st M) G.base λ ρ x o X c=>lB (nZ G 0) 30 60 _ _ _ _ _ _ _ (nY G W h) c)) λ as ks σ r e=>?_;obtain⟨r,af⟩:=r;refine ys e λ ds d A l R D u F=>?_;subst A l u F;obtain⟨z,ar,i,m,v⟩:=k ds d D;apply yy R;delta lE nM;refine L (show(O _==O _)=S by rw[gg];exact cI.mpr z) (Y (o3 m) ?_);show bR _ (B _)=_;exact L v rfl
theorem Vl(h:1<=n)(j:n<=1000)(v:b6 a n<=32)(g:bY σ):fk mI [.d (.int (a:J)),.d (.int (n:J))] [] σ=B (.ok (.d (.ae (dB n (b6 a n) a))),σ):=by refine yy (ds:=[.int a,.int n]) g ((?_:ia .plain _ bK=_));delta ia B1;simp only[dD h,dD j,dD v];rfl
theorem Vm(W:n<=1000)(h:σ.all (bk (O σ))=S)(p:u1 96 136 4 mH σ[1]?=S)(l:sk σ bO=B (bb m))(z:O m<=32)(b:∀x∈m,x<2^n):ia .plain (B2 bO n) σ=B (.ok (.d (.int (fA n m:J))),σ):=by refine Iy (ρ:=[]) (Y (eh (by simp only[dD W,h,p];rfl)) (L l ?_)) h;show(mJ _).bind _=_;exact L (I9 ..) (eh (L (dD z) (b9.mpr λ x K=>cg.mpr (b x K))))theorem ajY(h:n<=1000)(z:O m<=32)(b:∀x∈m,x<2^n):fk lG [.aH 2,.d (.int (n:J))] [] [t0,t1,.ae (bb m)]=B (.ok (.d (.int (fA n m:J))),[t0,t1,.ae (bb m)]):=Vm h rfl rfl rfl z b
def yA(ds:H D):U D:=sL (CD λ a b=>a8 (bE 0 b&&(aZ (aQ b) 1000&&aZ (b6 a (aQ b)) 32)) (B (.aD [.int (a/b:J),.int (a% b:J)]))) ds
theorem yB(h:1<=n):a<2^(b6 a n*n):=
 eo (Cb a) (q9 (by decide) (aoU (aoV (aoW h))))theorem Vn(G:gn g)(h:12<=n):cK g 94 (n+1) (fk mI):=G.hand 94 _ n rfl h
theorem Vo(G:gn g)(h:12<=n):cK g 101 (n+1) (fk lG):=G.hand 101 _ n rfl h
theorem Je(G:gn g)(h:12<=n):cK g 108 (n+2) (cx yA):=by
 refine yz G (fp _) (ct:=d4 [(80,cx mS),(94,fk mI),(101,fk lG)]) (hJ (AllP.mem (.cons (kP G (Nat.one_le_of_lt h) (ct:=d4 []) (hJ (by simp)) (P:=P0) (mP (by simp)) rfl λ ds d e=>by
   refine vk e λ u w E=>?_;refine L w (I6 E λ a b n z f=>L z ?_);obtain⟨W,j⟩:=dn f;refine ax (ak j) (cq (bF.mp W) λ A W=>?_);exact cq (bF.mp W) λ c p=>ajT (cg.mp A) (b8 c) (b8 p)) (.cons (Vn G h) (.cons (Vo G h) .nil))))) rfl λ ds d e=>?_
 refine vk e λ u Q E=>L Q (I5 E λ a b i f=>L i ?_);obtain⟨W,j⟩:=dn f;refine ax (ak j) ?_;obtain⟨A,W⟩:=bF.mp W;exact cq (bF.mp W) λ c p=>⟨rfl,(λ r h C=>by
   have R:1<=aQ b:=by unfold aQ;rw[a6 (by simp;exact hM ‹_›)];lia
   obtain s1:gU (cx mS) _ (fk lG) 59 [("n",.d (.int (aQ b))),("b",.d (.int b)),("a",.d (.int a))] [fD 1] bK=B (.ok (.next,[("a_digits",.d (.ae (dB (aQ b) (b6 a (aQ b)) a))),("n",.d (.int (aQ b))),("b",.d (.int b)),("a",.d (.int a))]),bK):=by
    apply Y (q_1 ..);unfold b5;rw[aT (a:=(f6.next,[(("a_digits" :ai),V.d (.ae (dB (aQ b) (b6 a (aQ b)) a))),("n",.d (.int (aQ b))),("b",.d (.int b)),("a",.d (.int a))])) (af:=bK)]
    ·rfl
    ·exact L (aT (Vl R h C (⟨rfl,rfl,rfl⟩))) rfl
   obtain I:fA (aQ b) ([]).reverse=a/2^(b6 a (aQ b)*aQ b)/b:=by rw[om (yB R),Nat.zero_div];rfl
   refine Ar (ajW (fk mI) (fk lG) r h (b6 a (aQ b)) C _ rfl (b6 a (aQ b)) 1000 [] (bH _) (by lia) (by simp) (by simp) I) λ q N o m l=>?_;rw[(L (om (yB R)) (L (Nat.zero_mod ..) rfl):a/2^(b6 a (aQ b)*aQ b)% b=0)]at l;obtain s:gU (cx mS) (fk mI) (fk lG) 56 (ey (.int 0) (.ae (dB (aQ b) (b6 a (aQ b)) a)) (.int (aQ b)) (.int a) (.int b)) [fD 4] [t0,t1,.ae []]=B (.ok (.next,ey (.int (a% b:J)) (.ae (dB (aQ b) (b6 a (aQ b)) a)) (.int (aQ b)) (.int a) (.int b)),[t0,t1,.ae (bb q)]):=by rw[(q_4 (cx mS) (fk mI) (fk lG) (a:=a) (b:=b) (n:=(aQ b)) (ds:=dB (aQ b) (b6 a (aQ b)) a) _ rfl),pd];exact Y (aT (a:=(f6.next,ey (.int (a% b:J)) (.ae (dB (aQ b) (b6 a (aQ b)) a)) (.int (aQ b)) (.int a) (.int b))) (af:=[t0,t1,.ae (bb q)]) (Y (aM (j5 _ 3) l) (q_E ..))) rfl
   obtain K:∀F:H D,gU (cx mS) (fk mI) (fk lG) 55 (ey (.int (a% b:J)) (.ae F) (.int (aQ b)) (.int a) (.int b)) [fD 5] [t0,t1,.ae (bb q)]=B (.ok (.next,ey (.int (a% b:J)) (.ae F) (.int (aQ b)) (.int a) (.int b)),[t0,t1,.ae (bb q.reverse)]):=by
    intro F;dsimp only[q_5];delta b5 kH;rw[aT (a:=(f6.next,ey (.int (a% b:J)) (.ae F) (.int (aQ b)) (.int a) (.int b))) (af:=[t0,t1,.ae (bb q.reverse)])]
    ·rfl
    ·rw[aT (ajU (show O (bb q)<1000000 by unfold bb;rw[gg];lia)),(show(bb q).reverse=bb q.reverse by unfold bb;rw[LI])];rfl
   obtain T:∀F:H D,gU (cx mS) (fk mI) (fk lG) 54 (ey (.int (a% b:J)) (.ae F) (.int (aQ b)) (.int a) (.int b)) [fD 6] [t0,t1,.ae (bb q.reverse)]=B (.ok (.next,((("q"),V.d (.int (a/b:J))):ai×V)::ey (.int (a% b:J)) (.ae F) (.int (aQ b)) (.int a) (.int b)),[t0,t1,.ae (bb q.reverse)]):=by
    refine λ F=>Y (q_6 ..) ?_;unfold b5;rw[aT (a:=(f6.next,((("q"),V.d (.int (a/b:J))):ai×V)::ey (.int (a% b:J)) (.ae F) (.int (aQ b)) (.int a) (.int b))) (af:=[t0,t1,.ae (bb q.reverse)])]
    ·rfl
    ·rw[aT (ajY h (by rw[aom];lia) (λ x M=>o x (List.mem_reverse.mp M))),m];rfl
   refine L (show bP (aY 17)=[fD 0,fD 1,fD 2,fD 3,fD 4,fD 5,fD 6,fD 7]from by lk) ?_;have k:=q_0 (cx mS) (fk mI) (fk lG) (a:=a) (b:=b);rw[(u6 b)]at k;exact(bh _ _ ⟨Y (cR k) (Y (cR s1) (Y (cR ((by lk) ..)) (Y (cR (q_3 ..)) (Y (cR s) (Y (cR (K _)) (Y (cR (T _)) (q_7 ..))))))),rfl⟩)) (cg.mp A) (b8 c) (b8 p)⟩def VA(c:J):D:=.bool (u2.contains c)def Jn(ds:H D):U D:=one ds (hB λ s=>one s.cps.toList λ c=>B (VA c))
theorem V0(g:bY σ)(h:(σ:H cj)[l]?=B (.ae xs)):∀(t:H D)(i:J),xs.drop i=t->lM b (O σ) (σ++ [.it (.e3 l i)]) (O σ) t
 |[],i,e=>.nil (fC:=σ++ [.cX]) (Y (jY h6) (Y (rT (iD h)) (L ((mw e).1) (aM (λ t=>B (aa,t)) oT)))) sE (sF rfl)|d::t,i,e=>.cons (fC:=σ++ [.it _]) ⟨_,h6,rfl⟩ (Y (jY h6) (Y (rT (iD h)) (L ((mw e).1) (aM (λ t=>B (B d,t)) oT)))) sE (sF rfl) (g.push (m:=.it (.e3 l _)) rfl (bF.mpr ⟨cg.mpr (kl (oR h)),rfl⟩)) (V0 g h t _ (mw e).2)
theorem C0{u:az->aJ->Ev V}{N:az->aJ->Ev aF}(bf:aF)(v:∀pr ρ,dt pr ρ->∀e,cQ (p pr e) (u ρ e))(q:∀pr ρ,dt pr ρ->∀e,fN (P pr e) (N ρ e))
  (b:dt pr ρ)(c:(g.is_async !=0)=aj)(A:nJ sc0 s=S)(W:hY g.iter=S)(h:bY σ)
  (M:first σ=B (.ok (.aH l),σ))(K:(σ:H cj)[l]?=B (.ae xs))(z:xs.length<1000)
  (e:hs s p P E g (n2 s pr) xs=B o):jt bf 1000 sc0 s first u N E [g] ρ σ=match bf with
    |false=>B (.ok (.d (.ae o)),σ)|true=>B (.ok (.aH (O σ)),σ++ [.ae o]):=
 Uv bf v q b c A W h (bh _ _ ⟨M,_,_,Y (AJ K) rfl,h.push rfl (bF.mpr ⟨cg.mpr (kl (oR K)),rfl⟩),we,qG,V0 h K xs 0 rfl⟩) z e
noncomputable def jB(f:D->U aF)(g:D->U D):H D->U (H D)
 |[]=>B []|d::ds=>(f d).bind λ ok=>match ok with|true=>(g d).bind λ v=>(jB f g ds).map (v:: ·)|false=>jB f g ds
theorem yE(t:G.ifs=[c]):
  ∀xs:H D,(∀d∈xs,∃p,sz s G.target d pr=B p/\E p c=f d/\u p e=g d)->hs s u E e G pr xs=jB f g xs
 |[],_=>rfl
 |d::ds,h=>by
  refine gF (h d (cV ..)) λ p W j w=>?_;show((sz s G.target d pr).bind λ p=>(sA E p S G.ifs).bind λ ok=>match ok with
   |true=>(u p e).bind λ v=>(hs s u E e G pr ds).map _|false=>hs s u E e G pr ds)=_
  rw[W,t,(yE t ds λ d l=>h d (c7 _ l))];show((E p c).bind λ b=>sA E p b []).bind _=_;rw[j,w];show _=(f d).bind λ ok=>match ok with|true=>(g d).bind λ v=>(jB f g ds).map _|false=>jB f g ds
  induction f d with|none=>rfl|some b=>induction b<;>rfl
abbrev Jo:Scope:=bz (aY 33)def f_(k:J):Stmt:=(bP (aY 33)).getD k (.Pass ew)def VB:aJ->PySem.Expr:=iu 1
def mV:aJ->PySem.Expr:=iu 0
def gb(e:aJ):Comprehension:=(fI e).o8.getD 0 ⟨e,e,[],0⟩def d5(e:aJ):Scope:=(fI e).sc
def VC:Cfg:=eG (d4 [(133,cx Jn),(186,cx CO),(179,cx yC)])def yD:hI:=fl [("in_table_b1",Jn),("in_table_c11",CO),("map_table_b3",yC)]def sO:PySem.Expr:=ic (VB (dx (f_ 2)))abbrev Jp:H D->U (H D):=hs (d5 sO) (λ pr e=>(bJ yD 27 (d5 sO) pr e).1) (λ pr e=>(bJ yD 27 (d5 sO) pr e).2) (mV sO) (gb sO) []noncomputable def cA(c:J):D:=.str ⟨#[c]⟩noncomputable def aK(cs:H J):D:=.str ⟨cs.toArray⟩def j3(c:J):Bool:=(cp .Eq (cA c) (.str " ")).getD aj
def lO(c:J):D:=.aD [VA c,.bool (j3 c)]def i5(cs:H J):D:=.ae (cs.map lO)abbrev jA:=b4 VC fj 30 Jo
section
variable (a b c d e:J)theorem aj6:jA 60 [("text",.d (aK [a,b]))] [f_ 0] bK=B (.ok (.next,[("held",.d (i5 [a,b])),("text",.d (aK [a,b]))]),bK):=rfl
theorem aj7:jA 60 [("text",.d (aK [a,b,c]))] [f_ 0] bK=B (.ok (.next,[("held",.d (i5 [a,b,c])),("text",.d (aK [a,b,c]))]),bK):=rfl
theorem aj8:jA 60 [("text",.d (aK [a,b,c,d]))] [f_ 0] bK=B (.ok (.next,[("held",.d (i5 [a,b,c,d])),("text",.d (aK [a,b,c,d]))]),bK):=by lk
theorem aj9:jA 60 [("text",.d (aK [a,b,c,d,e]))] [f_ 0] bK=B (.ok (.next,[("held",.d (i5 [a,b,c,d,e])),("text",.d (aK [a,b,c,d,e]))]),bK):=by lk
theorem aj_(t:V):jA 59 [("held",.d (i5 [a,b])),("text",t)] [f_ 1] bK=B (.ok (.next,[("odd",.d (.ae [])),("held",.d (i5 [a,b])),("text",t)]),bK):=by lk
theorem aka(t:V):jA 59 [("held",.d (i5 [a,b,c])),("text",t)] [f_ 1] bK=B (.ok (.next,[("odd",.d (.ae [])),("held",.d (i5 [a,b,c])),("text",t)]),bK):=by lk
theorem akb(t:V):jA 59 [("held",.d (i5 [a,b,c,d])),("text",t)] [f_ 1] bK=B (.ok (.next,[("odd",.d (.ae [])),("held",.d (i5 [a,b,c,d])),("text",t)]),bK):=by lk
theorem akc(t:V):jA 59 [("held",.d (i5 [a,b,c,d,e])),("text",t)] [f_ 1] bK=B (.ok (.next,[("odd",.d (.ae [])),("held",.d (i5 [a,b,c,d,e])),("text",t)]),bK):=by lk
end
theorem akd(t h o:D):jx yD 30 Jo 58 [("odd",o),("held",h),("text",t)] [f_ 2] (λ u=>aa)=(cS [((ym [t,h]).bind λ xs=>match bE (O xs) 1000 with|true=>(Jp xs).map D.ae|false=>aa).bind λ a=>aI .Add a o]).bind (Vv (.str "")):=by lk
def sP(d:D):U Bool:=match d with|.aD [_,p]=>cp .Eq p (.aD [.bool aj,.bool aj])|_=>aa
def vl(d:D):U D:=match d with|.aD [s,_]=>yC [s]|_=>aa
theorem ake(xs:H D)(h:∀d∈xs,∃s p,d=.aD [s,p]):Jp xs=jB sP vl xs:=by refine yE (c:=(gb sO).ifs.getD 0 sO) rfl xs λ d l=>(f5 (h d l) λ s p w=>?_);subst w;exact⟨[("pair",p),("sign",s)],rfl,rfl,rfl⟩def sQ(c:J):Bool:=u2.contains c||j3 c
def mW:H J->U (H D)
 |[]=>B []|c::cs=>match sQ c with|true=>mW cs|false=>(CP (cA c)).bind λ v=>(mW cs).map (v:: ·)theorem akf(E c4:aF):cp .Eq (.aD [.bool E,.bool c4]) (.aD [.bool aj,.bool aj])=B (!(E||c4)):=by induction E<;>induction c4<;>lk
theorem VD:∀cs:H J,jB sP vl (cs.map λ c=>.aD [cA c,lO c])=mW cs
 |[]=>rfl
 |c::cs=>by
  obtain E:jB sP vl ((c::cs).map λ c=>.aD [cA c,lO c])=(sP (.aD [cA c,lO c])).bind λ ok=>match ok with|true=>(vl (.aD [cA c,lO c])).bind λ v=>(jB sP vl (cs.map λ c=>.aD [cA c,lO c])).map (v:: ·)|false=>jB sP vl (cs.map λ c=>.aD [cA c,lO c]):=rfl
  obtain f:sP (.aD [cA c,lO c])=B (!(sQ c)):=akf _ _;rw[E,f,VD cs];show _=(match sQ c with
   |true=>mW cs|false=>(CP _).bind λ v=>(mW cs).map _)
  cases sQ c<;>rfl
theorem akg(cs:H J):Jp (cs.map λ c=>.aD [cA c,lO c])=mW cs:=by rw[ake _ λ d h=>?_,VD];exact av (iP.mp h) λ c u w=>ax w (bh _ _ rfl)def CQ(cs:H J):U D:=(mW cs).bind λ vs=>xX "" (.ae vs)
theorem VE:∀(n:J)(cs:H J),O cs<n->vc n [cs.map cA,cs.map lO]=B (cs.map λ c=>.aD [cA c,lO c])
 |0,_,h=>by lia|n+1,[],_=>rfl|n+1,c::cs,h=>by exact((L (VE n cs (by simpa using h)) rfl):(vc n [cs.map cA,cs.map lO]).map _=_)
theorem Jq:∀{cs:H J}{vs:H D},mW cs=B vs->O vs<=O cs
 |[],_,e=>ax (ak e) (bH _)
 |c::cs,vs,e=>by
  revert e;dsimp only[mW];refine dO (sQ c) (λ q=>?_) λ q=>?_<;>rw[q]<;>intro e
  ·exact ip (Jq e)
  ·exact av (rm.mp e) λ v W e=>(av (hR.mp e) λ R h w=>ax w (Ex (Jq h)))def CR(ds:H D):U D:=one ds (hB λ s=>bR (aZ 2 (O s.cps.toList)&&aZ (O s.cps.toList) 5) (CQ s.cps.toList))
theorem akh(z:O cs<=5)(h:CQ cs=B r):∃ar,jA 58 [("odd",.d (.ae [])),("held",.d (i5 cs)),("text",.d (aK cs))] [f_ 2] bK=B (.ok (.ret (.d r),ar),bK):=by
 rcases IZ (show i4 yD VC from sN (AllP.mem (.cons ⟨133,rfl,rfl⟩ (.cons ⟨186,rfl,rfl⟩ (.cons ⟨179,rfl,rfl⟩ .nil))))) 58 _ _ _ _ r bK ((show jx yD 30 Jo 58 [("odd",.ae []),("held",i5 cs),("text",aK cs)] [f_ 2] (λ u=>aa)=B r from by
   rw[akd];obtain E:ym [aK cs,i5 cs]=B _:=VE 1000 cs (by lia);refine av (rm.mp h) λ vs W j=>?_;obtain k:=Jq W;refine L E ?_;dsimp only[gM];rw[gg];rw[cg.mpr (by lia)];rw[akg,W];show(cS [(aI .Add (.ae vs) (.ae []))]).bind _=_;exact L ((show aI .Add _ _=B (.ae vs)from by
     show a8 (S&&mj (O vs+0)) _=_;rw[ea,rb,show mj _=S from ?_]
     ·rfl
     ·unfold mj
      exact dD (by lia))) j)) ((((show dt [] []from λ u u e=>nn e).cons _ _).cons _ _).cons _ _) (⟨rfl,rfl,rfl⟩)with⟨ar,e⟩|⟨_,_,_,_,e⟩
 ·exact⟨ar,e⟩
 ·exact nn e
theorem aki(j:2<=O cs)(P:O cs<=5)(h:jA 58 [("odd",.d (.ae [])),("held",.d (i5 cs)),("text",.d (aK cs))] [f_ 2] bK=B (.ok (.ret (.d r),ar),bK)):jA 60 [("text",.d (aK cs))] (bP (aY 33)) bK=B (.ok (.ret (.d r),ar),bK):=by
 rcases cs with _|⟨a,_|⟨b,_|⟨c,_|⟨d,_|⟨e,_|⟨f,t⟩⟩⟩⟩⟩⟩
 ·simp at j
 ·simp at j
 ·exact(show jA 60 [("text",.d _)] [f_ 0,f_ 1,f_ 2] bK=B _ from Y (cR (aj6 a b)) (Y (cR (aj_ a b _)) h))
 ·exact(show jA 60 [("text",.d _)] [f_ 0,f_ 1,f_ 2] bK=B _ from Y (cR (aj7 a b c)) (Y (cR (aka a b c _)) h))
 ·exact(show jA 60 [("text",.d _)] [f_ 0,f_ 1,f_ 2] bK=B _ from Y (cR (aj8 a b c d)) (Y (cR (akb a b c d _)) h))
 ·exact(show jA 60 [("text",.d _)] [f_ 0,f_ 1,f_ 2] bK=B _ from Y (cR (aj9 a b c d e)) (Y (cR (akc a b c d e _)) h))
 ·simp at P
theorem akj(G:gn g)(V:12<=n):cK g 345 (n+2) (cx CR):=by
 refine yz G (fp _) (ct:=d4 [(133,cx Jn),(186,cx CO),(179,cx yC)]) (hJ (AllP.mem (.cons ((by
   refine cK.less (G.hand 133 _ n rfl V) λ as ks σ r e=>?_;obtain⟨r,af⟩:=r;refine ys e λ ds d E f R h t D=>?_;subst E f t D;exact j2 h λ a E h=>mh h λ s f h=>j2 h λ c C h=>by
    rw[E,f,(show s=⟨#[c]⟩from by
      induction s with
      |mk a=>exact aM Eu (ZA.mp C)),<-ak h]
    exact yy R rfl)) (.cons (aj4 G n (by lia)) (.cons (aj5 G n (by lia)) .nil))))) rfl λ ds d e=>?_
 refine j2 e λ a E e=>mh e λ s f e=>bN e λ h j=>?_;subst E f;have o:=b8 (bo h).1;have A:=b8 (bo h).2;obtain i:s=⟨s.cps.toList.toArray⟩:=by cases s;rfl
 generalize s.cps.toList=cs at i o A j;exact L i (a7 (akh A j) λ ar P=>⟨rfl,ar,bK,aki o A P,rfl⟩)noncomputable def cN(cs:H J):Str:=⟨cs.toArray⟩
theorem VT:∀g:H (H J),uQ (g.map aK)=B (g.map cN)
 |[]=>rfl|l::g=>by show(uQ _).map _=_;exact L (VT g) rfl
theorem VU(a b:H J):cN a++cN b=cN (a++b):=by show Eu (a.toArray++b.toArray)=Eu (a++b).toArray;simp
theorem VV:∀l:H (H J),Str.join "" (l.map cN)=cN l.flatten
 |[]=>rfl|[x]=>by show cN x=cN (x++ []);rw[ea]
 |x::y::l=>by
  show cN x++ "" ++Str.join "" ((y::l).map cN)=_;rw[(VV (y::l))];obtain this:cN x++("")=cN x:=by obtain this:=VU x [];rw[ea]at this;exact this
  rw[this,VU];rfl
theorem VW(cs:H J):(cN cs).length=O cs:=by rfl
theorem VX:∀g:H (H J),((g.map cN).map (·.length)).sum=O g.flatten
 |[]=>rfl|l::g=>by simp only[lY,lY,ZH,VX g,VW,zl,e2]def iK(c:J):U (H J):=(sQ c).rec ((CP (cA c)).bind (hB λ s=>B s.cps.toList)) (B [])
noncomputable def ih:H J->U (H J)
 |[]=>B []|c::cs=>(iK c).bind λ l=>(ih cs).map (l++ ·)
theorem CZ:∀{a b x y:H J},ih a=B x->ih b=B y->ih (a++b)=B (x++y)
 |[],_,_,_,e,h=>ax (ak e) h|c::a,b,x,y,e,h=>by refine av (rm.mp e) λ l W e=>(av (hR.mp e) λ z j w=>ax w ?_);show((iK c).bind λ l=>(ih (a++b)).map _)=_;simp only[W,CZ j h,eb];rfl
theorem VY:∀{cs r:H J},ih cs=B r->∃g:H (H J),mW cs=B (g.map aK)/\g.flatten=r
 |[],_,e=>ax (ak e) ⟨[],rfl,rfl⟩
 |c::cs,r,e=>by
  refine av (rm.mp e) λ l h e=>(av (hR.mp e) λ z j w=>ax w (av (VY j) λ g v W=>ax W ?_));unfold iK at h;dsimp only[mW];revert h;refine dO (sQ c) (λ q=>?_) λ q=>?_
  ·rw[q];exact λ h=>ax (ak h) ⟨g,v,rfl⟩
  ·refine L q (λ h=>b3 h λ d Q h=>mh h λ s f h=>⟨s.cps.toList::g,?_,ax (ak h) rfl⟩)
   rw[Q,v,f];rfl
theorem VZ(h:ih cs=B r)(Q:O r<=1000)(j:2<=O cs)(P:O cs<=5):CR [aK cs]=B (aK r):=by
 show a8 _ _=_;rw[dD j,dD P];exact(show CQ cs=B _ from by
   refine av (VY h) λ l W w=>?_;subst w;unfold CQ;simp only[W,gM,(show xX "" (.ae _)=B (aK l.flatten)from by
     show((uQ _).bind _)=_;rw[VT,gM];obtain e:JoinOk "" (l.map cN)=true:=by unfold JoinOk;rw[StrLaws.joinTotal,VX];obtain this:(("" :ai)).length=0:=rfl;rw[this];unfold PySem.Builtin.Str.tooLong;exact L vW (L (l1 (by lia)) rfl)
     rw[e];obtain E:aot "" (l.map cN)=Str.join "" (l.map cN):=StrLaws.glued_eq_join _ _;rw[E,VV];rfl)])noncomputable def Jr(c d:J):Nat:=match d% 4 with|0=>c|1=>c-32|2=>(match c with|102=>8497|105=>8464|_=>8466)|_=>119808+52*([0,1,2,4,7,8,9,10,11,12].getD (d/4) 0)+c-97
noncomputable def VQ:H Nat:=[102,105,108]
noncomputable def sW:H J->H J->aF
 |[],[]=>S|a::as,b::bs=>aL a b&&sW as bs|_,_=>aj
theorem vn:∀{as bs:H J},sW as bs=S->as=bs
 |[],[],_=>rfl|[],_::_,h=>bw h|_::_,[],h=>bw h|a::as,b::bs,h=>by obtain⟨W,j⟩:=bF.mp h;rw[dE W,vn j]def yL(c:J)(l:H J):Bool:=(iK c).rec aj λ r=>sW r l
theorem Jt(h:yL c l=S):iK c=B l:=by
 unfold yL at h;revert h;rcases iK c with _|r
 ·exact bw
 ·exact λ h=>aM B (vn h)noncomputable def sR:H Nat:=[0,8,10,31,127,9,32,172,174,846,848,6149,6151,6154,6158,8202,8206,8287,8289,65023,65040,65278,65280]noncomputable def pq:H Nat:=[173,847,6150,6155,6156,6157,8203,8204,8205,8288,65279,65024,65025,65026,65027,65028,65029,65030,65031,65032,65033,65034,65035,65036,65037,65038,65039]noncomputable def lQ(l:H J):H Nat:=l.filter λ c=> !(aL c 32)abbrev kR:Scope:=bz (aY 32)def fm(k:J):Stmt:=(bP (aY 32)).getD k (.Pass ew)noncomputable def yF:H Nat:=[6,12,8,6,2,28,4,46,40,40,40]abbrev ht(C:bV):=b4 (eG (d4 [(330,C)])) fj 30 kR
noncomputable def nmV:H Str:=["who","ahead","lack","order","pair","strewn","spot","mark","first","second","third"]def yG(x w:D):az:=[("marks",.d (.ae (bb sR))),("nothing",.d (.ae (bb pq))),("words",.d w),("x",.d x)]def VF(a b c d e f g h i j k x w:D):az:=("third",.d k)::("second",.d j)::("first",.d i)::("mark",.d h)::("spot",.d g)::("strewn",.d f)::("pair",.d e)::("order",.d d)::("lack",.d c)::("ahead",.d b)::("who",.d a)::yG x w
def gr(a b c d e f g h i j k x w:D):az:=("signs",.aH 3)::("read",.aH 4)::VF a b c d e f g h i j k x w
def sS:aE:=[t0,t1,.hX 65024 65040]def fT(Sq R:H D):aE:=[t0,t1,.hX 65024 65040,.ae Sq,.ae R]def n4(ss:ai)(ds:H D)(j l:J)(Sq R:H D):aE:=[t0,t1,.hX 65024 65040,.ae Sq,.ae R,.it (.str ss j),.it (.aD ds l),.gD 2,.it (.zip [5,6] 7)]
section
variable (C:bV)(a b c d e f g h i j k x w:D)theorem v_0:ht C 60 [("words",.d w),("x",.d x)] [fm 0] bK=B (.ok (.next,[("nothing",.d (.ae (bb pq))),("words",.d w),("x",.d x)]),sS):=rfl
theorem v_1:ht C 59 [("nothing",.d (.ae (bb pq))),("words",.d w),("x",.d x)] [fm 1] sS=B (.ok (.next,yG x w),sS):=rfl
theorem v_2:ht C 58 (yG x w) [fm 2] sS=(b5 ((C [.d x,.d (.aD (bb yF))] []).bind λ A=>Bu A λ e=>lA ((Ev.of (hE e 11)).bind λ es=>qm (eG (d4 [(330,C)])) 30 kR (nmV.map λ n=>LJ n ew) (es.map V.d) (yG x w))) λ ar=>ht C 57 ar []) sS:=by lk
end
def iH(c d:J):Nat:=match bE c 60000 with|true=>Jr c d|false=>c
noncomputable def iI(c:J):H Nat:=match aL c 64257 with|true=>[102,105]|false=>match aL c 64258 with|true=>[102,108]|false=>[c]noncomputable def fo:H Nat:=[102,105,108,64257,64258]noncomputable def kc{α β:Type}(xs:H α)(f:α->β):H β:=xs.map f
theorem n5{α r:Type}{xs:H α}{f g:α->r}(h:kc xs f=kc xs g){x:α}(K:x∈xs):f x=g x:=by
 induction xs with
 |nil=>cases K
 |cons y V I=>
  obtain⟨W,l⟩:=kn h;rcases dM.mp K with rfl|q
  ·exact W
  ·exact I l q
def VG(c D:J)(ρ:az):az:=("dress",.d (.int (D:J)))::("sign",.d (cA c))::ρ
def VH{Bq:Type}(r:U (Res (f6×az)×aE))(k:az->aE->U Bq):U Bq:=r.bind λ q=>q.1.rec (λ p=>p.1.rec (k p.2 q.2) aa aa λ u=>aa) λ u u=>aa
theorem akk{Bq:Type}{k:az->aE->U Bq}{z:Bq}(e:VH r k=B z){G:Prop}(K:∀ρ σ,r=B (.ok (.next,ρ),σ)->k ρ σ=B z->G):G:=by
 rcases r with _|⟨⟨f,ρ⟩|_,σ⟩
 ·exact nn e
 ·rcases f with _|_|_|_
  ·exact K ρ σ rfl e
  all_goals exact nn e
 ·exact nn e
def CS(C:bV)(ρ:az)(c D:J)(σ:aE):U (az×aE):=VH (ht C 55 (VG c D ρ) (f9 (fm 4)) σ) λ l m=>fP ρ 9 l m
section
variable (C:bV)(a b c d e f g h i j k x w:D)(ss:ai)(ds:H D)(p q:J)(s0 s1 lP h1:D)theorem yH:lq kR (iG (fm 4)) (.aD [s0,s1]) (gr a b c d e f g h i j k x w)=B (((("dress" :ai),V.d s1):ai×V)::("sign",V.d s0)::gr a b c d e f g h i j k x w):=rfl
theorem VI:kc fo (λ y=>kc (aw 40) λ z=>CS C (gr a b c d e f g h i j k x w) y z (n4 ss ds p q [] []))=kc fo λ y=>kc (aw 40) λ z=>B (gr a b c d e f g h i j k x w,n4 ss ds p q [cA (iH y z)] [aK (iI y)]):=by lk
theorem VJ:kc fo (λ y=>kc (aw 40) λ z=>CS C (gr a b c d e f g h i j k x w) y z (n4 ss ds p q [s0] [lP]))=kc fo λ y=>kc (aw 40) λ z=>B (gr a b c d e f g h i j k x w,n4 ss ds p q [s0,cA (iH y z)] [lP,aK (iI y)]):=by lk
theorem t_2:kc fo (λ y=>kc (aw 40) λ z=>CS C (gr a b c d e f g h i j k x w) y z (n4 ss ds p q [s0,s1] [lP,h1]))=kc fo λ y=>kc (aw 40) λ z=>B (gr a b c d e f g h i j k x w,n4 ss ds p q [s0,s1,cA (iH y z)] [lP,h1,aK (iI y)]):=by lk
end
noncomputable def qK(o:J):H Nat:=[[102,108,105],[102,105,108],[105,102,108],[105,108,102],[108,105,102],[108,102,105]].getD o []def eI:D:=.aD ((aw 6).map λ o=>aK (qK o))def kd(o p:J):H Nat:=match p with|0=>qK o|_=>[[64258,105],[64257,108],[105,64258],[105,108,102],[108,105,102],[108,64257]].getD o []def n6:bx->PySem.Expr:=hz 0
section
variable (C:bV)(a b c f g h i j k x:D)abbrev VK(o p:J):az:=gr a b c (.int (o:J)) (.int (p:J)) f g h i j k x eI
theorem akl:(bq (aw 6) λ o=>bq (aw 2) λ p=>((ba (eG (d4 [(330,C)])) 30 kR (VK a b c f g h i j k x o p) (n6 (fm 4))).1.bind g8) (fT [] []))=br (aw 6) λ o=>br (aw 2) λ p=>B (.ok (.aH 8),n4 (cN (kd o p)) [i,j,k] 0 0 [] []):=by lk
theorem v_I(l:o<6)(u:p<2):((ba (eG (d4 [(330,C)])) 30 kR (VK a b c f g h i j k x o p) (n6 (fm 4))).1.bind g8) (fT [] [])=B (.ok (.aH 8),n4 (cN (kd o p)) [i,j,k] 0 0 [] []):=bg (bg (akl C a b c f g h i j k x) (a4.mpr l)) (a4.mpr u)
end
theorem yI(W:gH 8 σ=B (B (.aD [cA y,.int (z:J)]),gO))(l:ll (iG (fm 4)) σ 8=S)(v:lq kR (iG (fm 4)) (.aD [cA y,.int (z:J)]) ρ=B (VG y z ρ))(h:CS C ρ y z gO=B (ρ,qc)):gR kR (iG (fm 4)) (λ ρ=>ht C 55 ρ (f9 (fm 4))) 8 ρ 9 (N+1) ρ σ=gR kR (iG (fm 4)) (λ ρ=>ht C 55 ρ (f9 (fm 4))) 8 ρ 9 N ρ qc:=
 akk h λ m n e=>BA W l v e
section
variable (C:bV)(a b c d e f g h i j k x w:D)(qL qM CT bS cG dJ N:J)(Sq R:H D)abbrev qN:az:=gr a b c d e f g h i j k x w
noncomputable abbrev VL(bS cG dJ:J):H D:=[.int (bS:J),.int (cG:J),.int (dJ:J)]theorem l_3(p:qL∈fo)(W:qM∈fo)(l:CT∈fo)(K:bS<40)(D:cG<40)(m:dJ<40):j5 (qN a b c d e f g h i j k x w) 5 (gR kR (iG (fm 4)) (λ ρ=>ht C 55 ρ (f9 (fm 4))) 8 (qN a b c d e f g h i j k x w) 9 1000 (qN a b c d e f g h i j k x w) (n4 (cN [qL,qM,CT]) (VL bS cG dJ) 0 0 [] []))=B (.ok (.next,qN a b c d e f g h i j k x w),fT [cA (iH qL bS),cA (iH qM cG),cA (iH CT dJ)] [aK (iI qL),aK (iI qM),aK (iI CT)]):=by rw[yI rfl rfl (yH ..) (n5 (n5 (VI C a b c d e f g h i j k x w _ _ 1 1) p) (a4.mpr K)),yI rfl rfl (yH ..) (n5 (n5 (VJ C a b c d e f g h i j k x w _ _ 2 2 _ _) W) (a4.mpr D)),yI (rfl ..) rfl (yH ..) (n5 (n5 (t_2 C a b c d e f g h i j k x w _ _ 3 3 _ _ _ _) l) (a4.mpr m))];exact rfl ..
theorem l_2(p:qL∈fo)(W:qM∈fo)(K:bS<40)(D:cG<40):j5 (qN a b c d e f g h i j k x w) 5 (gR kR (iG (fm 4)) (λ ρ=>ht C 55 ρ (f9 (fm 4))) 8 (qN a b c d e f g h i j k x w) 9 1000 (qN a b c d e f g h i j k x w) (n4 (cN [qL,qM]) (VL bS cG dJ) 0 0 [] []))=B (.ok (.next,qN a b c d e f g h i j k x w),fT [cA (iH qL bS),cA (iH qM cG)] [aK (iI qL),aK (iI qM)]):=by rw[yI rfl rfl (yH ..) (n5 (n5 (VI C a b c d e f g h i j k x w _ _ 1 1) p) (a4.mpr K)),yI rfl rfl (yH ..) (n5 (n5 (VJ C a b c d e f g h i j k x w _ _ 2 2 _ _) W) (a4.mpr D))];exact rfl ..
end
def dV(m:J):H Nat:=(sR.drop m).take 1
def iJ(s P:H J)(sp st:J):H Nat:=s.take sp++((pq.drop st).take 1++(P++s.drop sp))def sT(P:H J)(ρ:az):az:=("put",.d (.ae (P.map cA)))::ρ
def qO(T P:H J)(ρ:az):az:=("text",.d (aK T))::sT P ρ
section
variable (C:bV)(a b c d e f g h i j k x w:D)(s0 s1 s2 m:J)(Sq R:H D)theorem v_5:bq (aw 46) (λ z=>ht C 55 (gr a b c d e f g (.int (z:J)) i j k x w) [fm 5] (fT Sq R))=br (aw 46) λ z=>B (.ok (.next,sT (dV z) (gr a b c d e f g (.int (z:J)) i j k x w)),fT Sq R):=by lk
theorem akm:bq (aw 4) (λ y=>bq (aw 28) λ z=>ht C 54 (sT [m] (gr a b c d e (.int (z:J)) (.int (y:J)) h i j k x w)) [fm 6] (fT [cA s0,cA s1,cA s2] R))=br (aw 4) λ y=>br (aw 28) λ z=>B (.ok (.next,qO (iJ [s0,s1,s2] [m] y z) [m] (gr a b c d e (.int (z:J)) (.int (y:J)) h i j k x w)),fT [cA s0,cA s1,cA s2] R):=by lk
theorem akn:bq (aw 4) (λ y=>bq (aw 28) λ z=>ht C 54 (sT [] (gr a b c d e (.int (z:J)) (.int (y:J)) h i j k x w)) [fm 6] (fT [cA s0,cA s1,cA s2] R))=br (aw 4) λ y=>br (aw 28) λ z=>B (.ok (.next,qO (iJ [s0,s1,s2] [] y z) [] (gr a b c d e (.int (z:J)) (.int (y:J)) h i j k x w)),fT [cA s0,cA s1,cA s2] R):=by lk
theorem ako:bq (aw 4) (λ y=>bq (aw 28) λ z=>ht C 54 (sT [m] (gr a b c d e (.int (z:J)) (.int (y:J)) h i j k x w)) [fm 6] (fT [cA s0,cA s1] R))=br (aw 4) λ y=>br (aw 28) λ z=>B (.ok (.next,qO (iJ [s0,s1] [m] y z) [m] (gr a b c d e (.int (z:J)) (.int (y:J)) h i j k x w)),fT [cA s0,cA s1] R):=by lk
theorem akp:bq (aw 4) (λ y=>bq (aw 28) λ z=>ht C 54 (sT [] (gr a b c d e (.int (z:J)) (.int (y:J)) h i j k x w)) [fm 6] (fT [cA s0,cA s1] R))=br (aw 4) λ y=>br (aw 28) λ z=>B (.ok (.next,qO (iJ [s0,s1] [] y z) [] (gr a b c d e (.int (z:J)) (.int (y:J)) h i j k x w)),fT [cA s0,cA s1] R):=by lk
end
def akq(s:bx):H PySem.Expr:=(fI (hz 0 s)).es
def e32(n:J):PySem.Expr:=(akq (fm 7)).getD n (.Name "" ew)def vm(W A:J):D:=aK ((([97,66,67,65,98,99].drop W).take 1)++(([9,0,31,127,32].drop A).take 1))def ig(R:H (H J))(P:H J)(sp:J):H Nat:=lQ ((R.take sp).flatten++(P++(R.drop sp).flatten))def dW(o p:J):H (H J):=(kd o p).map iI
section
variable (C:bV)(a b c d e f g h i j k x w:D)(Sq R:H D)(P T:H J)abbrev lR(ρ:az)(n:J):=(ba (eG (d4 [(330,C)])) 29 kR ρ (e32 n)).1
theorem v_7(ρ:az)(σ:aE){a b c:D}(p:lR C ρ 0 σ=B (.ok (.d a),σ))(W:lR C ρ 1 σ=B (.ok (.d b),σ))(l:lR C ρ 2 σ=B (.ok (.d c),σ)):ht C 53 ρ [fm 7] σ=B (.ok (.ret (.d (.aD [a,b,c])),ρ),σ):=by
 obtain h:uf [lR C ρ 0,lR C ρ 1,lR C ρ 2] σ=B _:=by
  obtain q:(cE [lR C ρ 1,lR C ρ 2]) σ=B _:=by
   apply Y (aT W);obtain Q:(cE [lR C ρ 2]) σ=B _:=by exact Y (aT l) rfl
   exact Y (aT Q) rfl
  exact Y (aT (Y (aT p) (Y (aT q) rfl))) rfl
 exact Y rfl (Y (aT (af:=σ) (Y (aT h) rfl)) rfl)theorem n_0:bq (aw 6) (λ y=>bq (aw 12) λ z=>lR C (qO T P (gr (.int (y:J)) (.int (z:J)) c d e f g h i j k x w)) 0 (fT Sq R))=br (aw 6) λ y=>br (aw 12) λ z=>B (.ok (.d (vm y z)),fT Sq R):=rfl
theorem n_1:bq (aw 8) (λ z=>lR C (qO T P (gr a b (.int (z:J)) d e f g h i j k x w)) 1 (fT Sq R))=br (aw 8) λ z=>B (.ok (.d (match aL z 0 with|true=>.none|false=>aK T)),fT Sq R):=rfl
theorem n_2:bq (aw 6) (λ o=>bq (aw 2) λ p=>bq (aw 4) λ y=>bq (aw 24) λ m=>lR C (qO T (dV m) (gr a b c d e f (.int (y:J)) h i j k x w)) 2 (fT Sq ((dW o p).map aK)))=br (aw 6) λ o=>br (aw 2) λ p=>br (aw 4) λ y=>br (aw 24) λ m=>B (.ok (.d (aK (ig (dW o p) (dV m) y))),fT Sq ((dW o p).map aK)):=by lk
end
def hc(o p:J)(zs:H J):H Nat:=pJ iH (kd o p) zs
theorem ssA:(bq (aw 6) λ o=>bq (aw 2) λ p=>(kd o p).all fo.contains&&(aZ 2 (O (kd o p))&&aZ (O (kd o p)) 3))=br (aw 6) λ u=>br (aw 2) λ u=>true:=rfl
theorem yJ(i:o<6)(u:p<2):(∀y∈kd o p,y∈fo)/\2<=O (kd o p)/\O (kd o p)<=3:=
 have h:=bo (bg (bg ssA (a4.mpr i)) (a4.mpr u));have j:=bo h.2
 ⟨λ y Q=>oo.mp (b9.mp h.1 y Q),b8 j.1,b8 j.2⟩
theorem VM(h:o<6)(u:p<2):(∃y t F,kd o p=[y,t,F]/\y∈fo/\t∈fo/\F∈fo)\/∃y t,kd o p=[y,t]/\y∈fo/\t∈fo:=by
 refine ff (yJ h u) λ m D n=>?_;generalize kd o p=l at*;rcases l with _|⟨y,_|⟨t,_|⟨F,_|_⟩⟩⟩
 ·exact aS D (by decide)
 ·exact aS D (by simp)
 ·exact .inr (bh y t ⟨rfl,m _ (.head _),m _ (.tail _ (.head _))⟩)
 ·exact .inl (e_ y t F ⟨rfl,m _ (.head _),m _ (.tail _ (.head _)),m _ (.tail _ (.tail _ (.head _)))⟩)
 ·exact aS n (by simp)noncomputable def CU(m:J):Nat:=match bE m 23 with|true=>m|false=>23
theorem VN(m:J):dV m=dV (CU m)/\CU m<24:=by
 unfold CU;cases h:bE m 23 with
 |true=>exact⟨rfl,by have:=cg.mp h;exact kl ‹_›⟩
 |false=>
  have:23<=m:=by
   rcases DW m 23 with q|q
   ·rw[cg.mpr q]at h;exact aS h (by decide)
   ·exact q
  refine⟨?_,show 23<24 by decide⟩;dsimp only[dV];rw[Zp this,Zp (by decide)]def sU(a b c o p st sp m:J)(zs:H J):D:=.aD [vm a b,match aL c 0 with|true=>.none|false=>aK (iJ (hc o p zs) (dV m) sp st),aK (ig (dW o p) (dV m) sp)]
section
variable (C:bV){a b c o p st sp m bS cG dJ x:J}abbrev sV(a b c o p st sp m bS cG dJ x:J):az:=gr (.int (a:J)) (.int (b:J)) (.int (c:J)) (.int (o:J)) (.int (p:J)) (.int (st:J)) (.int (sp:J)) (.int (m:J)) (.int (bS:J)) (.int (cG:J)) (.int (dJ:J)) (.int (x:J)) eI
theorem akr(i:o<6)(u:p<2)(k:bS<40)(K:cG<40)(n:dJ<40):ht C 56 (sV a b c o p st sp m bS cG dJ x) [fm 4] (fT [] [])=B (.ok (.next,sV a b c o p st sp m bS cG dJ x),fT ((hc o p [bS,cG,dJ]).map cA) ((dW o p).map aK)):=by
 obtain e:sg kR 1000 (iG _) (n6 (fm 4)) (ba _ 30 kR (sV a b c o p st sp m bS cG dJ x) _).1 (λ ρ=>ht C 55 ρ _) (sV a b c o p st sp m bS cG dJ x) (fT [] [])=B (.ok (.next,sV a b c o p st sp m bS cG dJ x),fT ((hc o p [bS,cG,dJ]).map cA) ((dW o p).map aK)):=by
  refine Y (QM rfl (v_I C _ _ _ _ _ _ _ _ _ _ i u)) ?_;delta hc dW;rcases VM i u with⟨y,t,F,h,q,W,j⟩|⟨y,t,h,q,W⟩
  ·exact L h (l_3 C _ _ _ _ _ _ _ _ _ _ _ _ _ y t F bS cG dJ q W j k K n)
  ·exact L h (l_2 C _ _ _ _ _ _ _ _ _ _ _ _ _ y t bS cG dJ q W k K)
 exact Y (aT e) rfl
theorem v_text(d:sp<4)(r:st<28)(i:o<6)(u:p<2)(N:T=iJ (hc o p [bS,cG,dJ]) (dV m) sp st)(R:H D):ht C 54 (sT (dV m) (sV a b c o p st sp m bS cG dJ x)) [fm 6] (fT ((hc o p [bS,cG,dJ]).map cA) R)=B (.ok (.next,qO T (dV m) (sV a b c o p st sp m bS cG dJ x)),fT ((hc o p [bS,cG,dJ]).map cA) R):=by
 subst N;unfold hc;rcases VM i u with⟨y,v,F,h,_⟩|⟨y,v,h,_⟩<;>rw[h]<;>rcases(show dV m=[]\/∃t,dV m=[t]from by
   unfold dV;rcases sR.drop m with _|⟨t,l⟩
   ·exact .inl rfl
   ·exact .inr ⟨t,rfl⟩)with q|⟨t,q⟩<;>rw[q]
 ·exact bg (bg (akn C _ _ _ _ _ _ _ _ _ _ _ _ _ _ _) (a4.mpr d)) (a4.mpr r)
 ·exact bg (bg (akm C _ _ _ _ _ _ _ _ _ _ _ _ _ _ _ _) (a4.mpr d)) (a4.mpr r)
 ·exact bg (bg (akp C _ _ _ _ _ _ _ _ _ _ _ _ _ _) (a4.mpr d)) (a4.mpr r)
 ·exact bg (bg (ako C _ _ _ _ _ _ _ _ _ _ _ _ _ _ _) (a4.mpr d)) (a4.mpr r)
end
section
variable {a b c o p st sp m bS cG dJ x:J}theorem aks(h:F [.int (x:J),.aD (bb yF)]=B (.ae (bb [a,b,c,o,p,st,sp,m,bS,cG,dJ]))):ht (cx F) 58 (yG (.int (x:J)) eI) [fm 2] sS=B (.ok (.next,VF (.int (a:J)) (.int (b:J)) (.int (c:J)) (.int (o:J)) (.int (p:J)) (.int (st:J)) (.int (sp:J)) (.int (m:J)) (.int (bS:J)) (.int (cG:J)) (.int (dJ:J)) (.int (x:J)) eI),sS):=by rw[v_2];unfold b5;dsimp only[Ev.bind];refine L (sI h rfl) ?_;lk
theorem akt(G:F [.int (x:J),.aD (bb yF)]=B (.ae (bb [a,b,c,o,p,st,sp,m,bS,cG,dJ])))(g:a<6)(q:b<12)(A:c<8)(h:o<6)(u:p<2)(r:st<28)(f:sp<4)(s:m<46)(k:bS<40)(K:cG<40)(n:dJ<40):∃ar i,ht (cx F) 60 [("words",.d eI),("x",.d (.int (x:J)))] (bP (aY 32)) bK=B (.ok (.ret (.d (sU a b c o p st sp m [bS,cG,dJ])),ar),i)/\i.take 2=bK:=by
 refine cq (VN m) λ M E=>?_;generalize N:iJ _ _ sp st=T;obtain e:=bg (bg (bg (bg (n_2 _ _ _ _ _ _ _ _ _ _ _ _ eI _ T) (a4.mpr h)) (a4.mpr u)) (a4.mpr f)) (a4.mpr E);rw[<-M]at e;obtain j:sU a b c o p st sp m [bS,cG,dJ]=.aD [vm a b,match aL c 0 with|true=>.none|false=>aK T,aK _]:=by unfold sU;rw[N]
 refine L j ?_;obtain run:=Y (cR (v_0 _ _ eI)) (Y (cR (v_1 ..)) (Y (cR (aks G)) (Y (cR ((by lk) ..)) (Y (cR (akr _ h u k K n)) (Y (cR (bg (v_5 _ _ _ _ _ _ _ _ _ _ _ _ _ _ _) (a4.mpr s))) (Y (cR (v_text _ f r h u N.symm _)) (v_7 _ _ _ (bg (bg (n_0 _ _ _ _ _ _ _ _ _ _ _ eI _ _ _ T) (a4.mpr g)) (a4.mpr q)) (bg (n_1 _ _ _ _ _ _ _ _ _ _ _ (.int x) eI _ _ _ T) (a4.mpr A)) e)))))));exact(bh _ _ ⟨run,rfl⟩)
end
noncomputable def yK(ds:H D):U (H (H J)):=match ds with|[]=>B []|d::ds=>match d with|.str s=>(yK ds).map (s.cps.toList:: ·)|_=>aa
noncomputable def CV(as bs:H (H J)):Bool:=match as with|[]=>bs.isEmpty|a::as=>match bs with|[]=>aj|b::bs=>sW a b&&CV as bs
theorem aku:∀{as bs:H (H J)},CV as bs=S->as=bs:=by
 intro as;induction as with
 |nil=>intro bs h;cases bs with
  |nil=>rfl|cons=>exact bw h
 |cons a as i=>intro bs h;cases bs with|nil=>exact bw h|cons b bs=>obtain⟨W,j⟩:=bF.mp h;rw[vn W,i j]def VO:H (H J):=(aw 6).map qK
def CW(w:D):Bool:=match w with
 |.aD ds=>match yK ds with
  |some l=>CV l VO|none=>aj
 |_=>aj
theorem akv(h:CW w=S):w=eI:=by
 cases w with
 |aD ds=>
  obtain h:(match yK ds with|some l=>CV l VO|none=>aj)=true:=h;refine eD (yK ds) (λ e=>?_) λ l e=>?_
  ·rw[e]at h;exact bw h
  ·
   rw[e]at h;rw[(show∀{ds:H D}{l:H _},yK ds=B l->ds=l.map aK from by
     intro ds;induction ds with
     |nil=>intro l h;refine ax (ak h) ?_;rfl
     |cons d ds i=>
      intro l h;cases d with
      |str s=>exact av (hR.mp h) λ ks W N=>ax N (L (i W) rfl)|_=>exact nn h) e,aku h];rfl
 |_=>exact bw h
def CX(x:J):U D:=match mR x yF with|[a,b,c,o,p,st,sp,m,bS,cG,dJ]=>B (sU a b c o p st sp m [bS,cG,dJ])|_=>aa
def CY(ds:H D):U D:=two ds λ a w=>mF a λ x=>bR (CW w) (CX x)
theorem VP(x:J){G:Prop}(K:∀a b c o p st sp m bS cG dJ,mR x yF=[a,b,c,o,p,st,sp,m,bS,cG,dJ]->a<6->b<12->c<8->o<6->p<2->st<28->sp<4->m<46->bS<40->cG<40->dJ<40->G):G:=
 K _ _ _ _ _ _ _ _ _ _ _ rfl (dN _ (by decide)) (dN _ (by decide)) (dN _ (by decide)) (dN _ (by decide)) (dN _ (by decide)) (dN _ (by decide)) (dN _ (by decide)) (dN _ (by decide)) (dN _ (by decide)) (dN _ (by decide)) (dN _ (by decide))
theorem akw(G:gn g)(V:1<=n):cK g 340 (n+13) (cx CY):=by
 refine yz G (fp _) (ct:=d4 [(330,cx (lN 11))]) (hJ λ p h=>?_) rfl λ ds d e=>?_
 ·rw[ek.mp h];exact CG G 11 n (jJ ..) V
 ·refine nK e λ a w E e=>nU e λ x f e=>bN e λ W dQ=>?_
  subst E f;cases akv W;refine VP x λ a b c o p st sp m bS cG dJ M i q A j h r k s K D P=>?_;unfold CX at dQ;obtain rfl:=ak (M▸dQ);exact⟨rfl,akt (Y (I_ (by decide) rfl) (ax M rfl)) i q A j h r k s K D P⟩
theorem Js:∀{l:H J}{R:H (H J)},l.map iK=R.map B->ih l=B R.flatten
 |[],[],_=>rfl|[],_::_,h=>by cases h|_::_,[],h=>by cases h|c::l,r::R,h=>by obtain⟨W,j⟩:=kn h;show((iK c).bind λ x=>(ih l).map _)=_;rw[W,Js j];rfl
theorem akx(h:y∈fo)(fy:z<40):iK (iH y z)=B (iI y):=by
 have f:∀c,c∈VQ->iH c z=Jr c z->iI c=[c]->iK (iH c z)=B (iI c):=λ c A e E=>by rw[e,E];exact Jt (b9.mp (b9.mp (show(VQ.all λ c=>(aw 40).all λ d=>yL (Jr c d) [c])=S from by lk) c A) z (a4.mpr fy))
 simp only[fo,dM,dS,jO]at h;rcases h with rfl|rfl|rfl|rfl|rfl
 ·exact f _ (by decide) rfl rfl
 ·exact f _ (by decide) rfl rfl
 ·exact f _ (by decide) rfl rfl
 ·lk
 ·lk
theorem Ju(a b:H J):lQ (a++b)=lQ a++lQ b:=List.filter_append ..
theorem aky(h:y∈fo):lQ (iI y)=iI y:=by simp[fo,dM,dS,jO]at h;rcases h with rfl|rfl|rfl|rfl|rfl<;>rfl
theorem Jv:∀{V:H J},(∀y∈V,y∈fo)->lQ (V.map iI).flatten=(V.map iI).flatten
 |[],_=>rfl|y::V,h=>by simp[lY,zl,Ju,aky (h y cV),Jv λ y Q=>h y (c7 _ Q)]
theorem VR:∀{V zs:H J},(∀y∈V,y∈fo)->(∀z∈zs,z<40)->O V<=O zs->(pJ iH V zs).map iK=(V.map iI).map B
 |[],_,_,_,_=>rfl|_::_,[],_,_,h=>by simp at h|y::V,z::zs,W,j,v=>by show iK _::(pJ iH V zs).map iK=_;simp only[akx (W y cV) (j z cV),VR (λ y Q=>W y (c7 _ Q)) (λ z fy=>j z (c7 _ fy)) (vT v)];rfl
section
variable {o p st sp m:J}{zs:H J}(dw:o<6)(hp:p<2)(fy:∀z∈zs,z<40)(cL:zs.length=3)
include dw hp fy cL
theorem akz:ih (iJ (hc o p zs) (dV m) sp st)=B (ig (dW o p) (dV m) sp):=by
 refine ff (yJ dw hp) λ W j v=>?_;obtain e:=VR W fy (le_of_le_of_eq v (id (oj cL)));obtain a:ih ((hc o p zs).take sp)=B (((dW o p).take sp).flatten):=by apply Js;delta hc dW;simp only[ZE,e,ZE]
 obtain b:ih ((hc o p zs).drop sp)=B (((dW o p).drop sp).flatten):=by apply Js;delta hc dW;simp only[ZF,e,ZF]
 obtain n:lQ ((dW o p).take sp).flatten=((dW o p).take sp).flatten:=by exact ZE▸Jv λ y Q=>W y (m_ Q)
 obtain N:lQ ((dW o p).drop sp).flatten=((dW o p).drop sp).flatten:=by unfold dW;exact ZF▸Jv λ y Q=>W y (nc Q)
 delta iJ ig;simp only[Ju,Ju,n,N];have:=CZ a (CZ ((show ih ((pq.drop st).take 1)=B []from by
   obtain h:∀c∈(pq.drop st).take 1,iK c=B []:=λ c A=>Jt (b9.mp (show(pq.all λ c=>yL c [])=S from rfl) c (nc (m_ A)));generalize (pq.drop st).take 1=l at h;induction l with
   |nil=>rfl
   |cons c l i=>
    show((iK c).bind _)=_;rw[h c cV,i λ c A=>h c (c7 _ A)];rfl)) (CZ ((show ih (dV m)=B (lQ (dV m))from by
      unfold dV;have h:∀c∈(sR.drop m).take 1,iK c=B _:=λ c A=>Jt (b9.mp (show(sR.all λ c=>yL c (lQ [c]))=S from rfl) c (nc (m_ A)));have cL:O ((sR.drop m).take 1)<=1:=by simp;exact Nat.min_le_left 1 _
      generalize (sR.drop m).take 1=l at h cL;rcases l with _|⟨c,_|⟨d,l⟩⟩
      ·rfl
      ·show((iK c).bind _)=_
       refine L (h c cV) ?_;show B (lQ [c]++ [])=_;rw[ea]
      ·simp at cL)) b))
 exact this
omit dw hp fy cL in
theorem akA{a b c d n:J}(e:a+d=n)(cv:b<=1)(nE:c<=1)(cw:2<=n)(cZ:n<=3):2<=a+(b+(c+d))/\a+(b+(c+d))<=5:=
 ⟨bA (e▸cw) (oe (bA (jJ d c) (jJ _ b)) a),bA (oe (vL cv (pF nE d)) a) (by rw[ao_ a,ao_ a,e];exact oe (oe cZ 1) 1)⟩
omit fy in
theorem akB:2<=(iJ (hc o p zs) (dV m) sp st).length/\(iJ (hc o p zs) (dV m) sp st).length<=5:=by have h:=yJ dw hp;have fw:(hc o p zs).length=(kd o p).length:=(List.length_zipWith ..).trans (zD (bA h.2.2 (fV cL.symm)));have a:=aM O (ti sp (hc o p zs));rw[e2]at a;unfold iJ;rw[e2,e2,e2];exact akA (n:=(hc o p zs).length) a (Zv ..) (Zv ..) (fw▸h.2.1) (fw▸h.2.2)
end
theorem VS:∀{V zs:H J},(∀y∈V,y∈fo)->(∀z∈zs,z<40)->∀c∈pJ iH V zs,eZ c=aj
 |[],_,_,_,c,h=>by cases h|_::_,[],_,_,c,h=>by cases h
 |y::V,z::zs,W,j,c,h=>by
  rcases dM.mp h with rfl|q
  ·have:=b9.mp (b9.mp (show(fo.all λ y=>(aw 40).all λ z=> !(eZ (iH y z)))=S from rfl) y (W y cV)) z (a4.mpr (j z cV))
   simpa using this
  ·exact VS (λ y Q=>W y (c7 _ Q)) (λ z fy=>j z (c7 _ fy)) c q
theorem akC{o p st sp m:J}(dw:o<6)(hp:p<2)(fy:∀z∈zs,z<40):(iJ (hc o p zs) (dV m) sp st).any eZ=(dV m).any eZ:=by
 obtain W:∀c∈hc o p zs,eZ c=false:=VS (yJ dw hp).1 fy;obtain f:∀l:H J,(∀c∈l,eZ c=aj)->l.any eZ=false:=λ l h=>by rw[apa];exact λ c A=>by rw[h c A];decide
 unfold iJ;rw[ZG,ZG,ZG,f _ λ c A=>W c (m_ A),f _ λ c A=>W c (nc A),f _ λ c A=>?_]
 ·simp
 ·have:=b9.mp (show(pq.all λ c=> !(eZ c))=S from rfl) c (nc (m_ A))
  simpa using this
abbrev sX:Stmt:=clsAt 28 1
abbrev ke:=b4 (eG λ u=>aa) fj 30 (bz sX)def du:bV:=lE .kw sX λ ρ=>ke 60 ρ (bP sX)def V7(k:J):Stmt:=(bP sX).getD k (.Pass ew)def kS:bx->H Stmt:=sB 0
def C1(k:J):Stmt:=(kS (V7 0)).getD k (.Pass ew)def C2(b:aF):Addr:=match b with|true=>tR|false=>tS
noncomputable def ql(b:aF)(s:V)(a:V):az:=[("name",.d (.bool b)),("value",s),("self",a)]def yM(b:aF)(s:V)(a:V):az:=("regex",.d (.obj (C2 b)))::ql b s a
noncomputable def kT:Str:="Control characters not allowed in headers"
theorem V8(b:aF)(s:ai)(a:V)(σ:aE):ke 60 (ql b (.d (.str s)) a) (bP sX) σ=(b5 (b5 (fL (ub (uU mG [.d (.obj (C2 b)),.d (.str s)])) (ke 57 (yM b (.d (.str s)) a) (kS (C1 1))) (ke 57 (yM b (.d (.str s)) a) [])) λ ar=>ke 57 ar [C1 2]) λ ar=>ke 59 ar [V7 1]) σ:=by induction b<;>lk
theorem akD(b:aF)(a:V)(σ:aE):ke 60 (ql b (.d .none) a) (bP sX) σ=B (.exc "AssertionError" [.str uV],σ):=rfl
def C3(b:aF):J->Bool:=match b with|true=>nT|false=>eZ
theorem V9(b:aF)(h:s.cps.size<=1000000)(σ:aE):uU mG [.d (.obj (C2 b)),.d (.str s)] σ=match s.cps.toList.any (C3 b)with
  |true=>B (.ok (.aH (O σ)),σ++ [.jj])|false=>B (.ok (.d .none),σ):=by
 show(mG _).bind _=_;exact(show mG (C2 b)=B (C3 b) by induction b<;>rfl).symm▸Y (eh (dD (bA h (by decide)))) (by cases s.cps.toList.any _<;>rfl)theorem yN(h:m σ=B (.ok (.ret v,ρ),af)):b5 m k σ=B (.ok (.ret v,ρ),af):=by unfold b5;rw[aT h];rfl
theorem C4{α:Type}(a b:H α):(a++b).take (O a)=a:=aoQ
theorem Jw(b:aF)(g:bY σ)(c:s.cps.size<=1000000)(h:s.cps.toList.any (C3 b)=S):du [a,.d (.str s)] [("name",.d (.bool b))] σ=B (.exc "ValueError" [.str kT],σ):=by
 obtain e:ub (uU mG [.d _,.d _]) σ=B _:=by
  refine Y (aT (a:=.aH (O σ)) (af:=σ++ [.jj]) ?_) ?_
  ·rw[V9 b c,h]
  ·unfold wU
   dsimp only;obtain this:((σ++ [cj.jj]):H cj)[O σ]?=B .jj:=by rw[pN (bH _)];simp
   exact L this rfl
 obtain E:ke 60 (ql b _ a) _ σ=B _:=by rw[V8];delta b5 fL;unfold Ev.bind;exact L e (Y ((show ke 57 (yM b (.d (.str s)) a) (kS (C1 1)) _=B (.exc "ValueError" [.str kT],(σ++ [.jj]))from rfl)) rfl)
 refine Y (o3 E) (Y (eh (by show((σ++ [cj.jj]).take (O σ)).all _=S;rw[C4];exact g.2.2)) ?_);show B (_,(σ++ [cj.jj]).take (O σ))=_;rw[C4]
theorem C5(b:aF)(g:bY σ)(c:s.cps.size<=1000000)(h:s.cps.toList.any (C3 b)=aj):du [a,.d (.str s)] [("name",.d (.bool b))] σ=B (.ok (.d (.str s)),σ):=by
 obtain e:ub (uU mG [.d _,.d _]) σ=B _:=by refine Y (aT (a:=.d .none) (af:=σ) ?_) rfl;rw[V9 b c,h]
 obtain E:ke 60 (ql b (.d (.str s)) a) _ σ=B _:=by
  refine Y (V8 ..) (yN (Y ?_ ((show(b5 (ke 57 (yM b _ a) []) λ ar=>ke 57 ar [C1 2]) σ=B (.ok (.ret _,yM b (.d (.str s)) a),σ)from rfl))));delta b5 fL;apply Y (b:=((fL _ _ _).bind _) σ) rfl;unfold Ev.bind;obtain this:fL _ _ _ σ=ke 57 _ [] σ:=by unfold fL;exact Y (aT e) rfl
  exact L this rfl
 exact Y (xD E g.2.2) Bi
theorem akE(b:aF)(g:bY σ):du [a,.d .none] [("name",.d (.bool b))] σ=B (.exc "AssertionError" [.str uV],σ):=by show ia .plain (ke 60 (ql b (.d .none) a) (bP sX)) σ=_;exact Y (xD (akD ..) g.2.2) (by dsimp only[mA];rw[ov])def b7(Bq:H D)(y:cj)(rest:aE):aE:=t0::t1:: .ae Bq::y:: .fld [("_headers",.aH 2)]:: .inst 319 4::rest
def sY:bx->PySem.Expr:=hz 0
def V_:bx->PySem.Expr:=hz 1
noncomputable def c6(i:J):H Nat:=[[97],[66],[67],[65],[98],[99],[97,32],[66,32],[67,32],[65,32],[98,32],[99,32]].getD i []noncomputable def C6(i:J):Nat:=[0,1,2,0,1,2,3,4,5,3,4,5].getD i 0
noncomputable def mX(i:J):H Nat:=[[97],[98],[99],[97],[98],[99],[97,32],[98,32],[99,32],[97,32],[98,32],[99,32]].getD i []theorem Jx:bq (aw 12) (λ i=>lC (aK (c6 i)))=br (aw 12) λ i=>B (aK (mX i)):=rfl
theorem Wa:bq (aw 12) (λ i=>bq (aw 12) λ j=>cp .NotEq (aK (mX i)) (aK (mX j)))=br (aw 12) λ i=>br (aw 12) λ j=>B (!(aL (C6 i) (C6 j))):=rfl
abbrev Ent:=J×H J
def aP(e:Ent):D:=.aD [aK (c6 e.1),aK e.2]def d6(j:J)(e:Ent):Bool:= !(aL (C6 e.1) (C6 j))abbrev dX(es:H Ent)(j:J):H D:=(es.filter (d6 j)).map aP
theorem bY.ae(g:bY (b7 Bq y rest)):bY (b7 B' y rest):=g
abbrev mY:Stmt:=clsAt 28 4
def qP(k:J):Stmt:=(bP mY).getD k (.Pass ew)abbrev qQ(C:bV):Cfg:=eG (d4 [(nV,C)])abbrev qR(C:bV):=b4 (qQ C) fj 30 (bz mY)noncomputable def ps(nm kf:D):az:=[("name",.d nm),("name",.d kf),("self",.aH 5)]abbrev jC:PySem.Expr:=sY (qP 1)
section
variable (C:bV)(Bq:H D)(y:cj)(rest:aE)(nm kf:D)theorem d_0:bq (aw 12) (λ i=>(qR C 60 [("name",.d (aK (c6 i))),("self",.aH 5)] [qP 0]) (b7 Bq y rest))=br (aw 12) λ i=>(b5 ((C [.aH 5,.d (aK (mX i))] [("name",.d (.bool S))]).bind λ v=>.ret (.next,[("name",v),("name",.d (aK (c6 i))),("self",.aH 5)])) λ ar=>qR C 59 ar []) (b7 Bq y rest):=rfl
theorem d_1:(qR C 59 (ps nm kf) [qP 1]) (b7 Bq y rest)=(b5 ((jt aj 1000 (bz mY) (d5 jC) (ba (qQ C) 29 (bz mY) (ps nm kf) (gb jC).iter).1 (λ ρ e=>(ba (qQ C) 29 (d5 jC) ρ e).1) (λ ρ e=>(ba (qQ C) 29 (d5 jC) ρ e).2) (mV jC) [gb jC] (ps nm kf)).bind λ a=>(sb (qQ C) 30 (bz mY) (ps nm kf) (V_ (qP 1)) a).bind λ ar=>.ret (.next,ar)) λ ar=>qR C 58 ar []) (b7 Bq y rest):=by lk
theorem d_2(a:V):(sb (qQ C) 30 (bz mY) (ps nm kf) (V_ (qP 1)) a) (b7 Bq y rest)=((BR (.aH 2) a).bind λ u=>(.ret (ps nm kf):Ev az)) (b7 Bq y rest):=rfl
theorem d_3:(ba (qQ C) 29 (bz mY) (ps nm kf) (gb jC).iter).1 (b7 Bq y rest)=B (.ok (.aH 2),b7 Bq y rest):=rfl
end
theorem Wb:bP mY=[qP 0,qP 1]:=rfl
def Wc(nm:D)(d:D):U Bool:=match d with|.aD [n,_]=>(lC n).bind λ l=>cp .NotEq l nm|_=>aa
noncomputable def akF(nm kf:D):cz:=[("name",nm),("name",kf)]theorem akG(nm kf:D)(xs:H D)(h:∀d∈xs,∃s p,d=.aD [s,p]):hs (d5 jC) (λ pr e=>(bJ (fl []) 29 (d5 jC) pr e).1) (λ pr e=>(bJ (fl []) 29 (d5 jC) pr e).2) (mV jC) (gb jC) (n2 (d5 jC) (akF nm kf)) xs=jB (Wc nm) B xs:=yE (c:=(gb jC).ifs.getD 0 jC) rfl xs λ d l=>(f5 (h d l) λ s p w=>L w ⟨[("kv",.aD [s,p]),("name",nm),("name",kf)],rfl,rfl,rfl⟩)
theorem Jy(f:D->U aF)(F:j<12)(M:∀e:Ent,e.1<12->f (aP e)=B (d6 j e)):∀es:H Ent,(∀e∈es,e.1<12)->jB f B (es.map aP)=B ((es.filter (d6 j)).map aP)
 |[],_=>rfl|e::es,h=>by show(f _).bind _=_;rw[M e (h e cV),Jy f F M es λ e x=>h e (c7 _ x),vS];cases d6 j e<;>rfl
theorem akH(D:j<12)(e:Ent)(h:e.1<12):Wc (aK (mX j)) (aP e)=B (d6 j e):=by show((lC _).bind _)=_;exact L (bg Jx (a4.mpr h)) (bg (bg Wa (a4.mpr h)) (a4.mpr D))theorem Jz(D:j<12)(g:bY σ):du [a,.d (aK (c6 j))] [("name",.d (.bool S))] σ=B (.ok (.d (aK (c6 j))),σ)/\du [a,.d (aK (mX j))] [("name",.d (.bool S))] σ=B (.ok (.d (aK (mX j))),σ):=by obtain h:=b9.mp (show(aw 12).all (λ i=> !((mX i).any nT)&&!((c6 i).any nT))=S from rfl) j (a4.mpr D);obtain k:=b9.mp (show(aw 12).all (λ i=>aZ (O (c6 i)) 2&&aZ (O (mX i)) 2)=S from rfl) j (a4.mpr D);simp only[jH,Bool.not_eq_true']at h k;exact⟨C5 S g (bA (b8 k.1) (by decide)) h.2,C5 S g (bA (b8 k.2) (by decide)) h.1⟩def jD:bV:=lE (.plain .plain) mY λ ρ=>qR du 60 ρ (bP mY)theorem Wd:i4 (fl []) (qQ du):=sN λ p h=>by cases h
theorem gc(h:m σ=B (.ok (.next,ρ),af)):b5 m k σ=k ρ af:=by unfold b5;rw[aT h]
theorem akI(h:j<12){es:H Ent}(x:∀e∈es,e.1<12)(z:O es<1000)(g:bY (b7 (es.map aP) y rest)):jD [.aH 5,.d (aK (c6 j))] [] (b7 (es.map aP) y rest)=B (.ok (.d .none),b7 ((es.filter (d6 j)).map aP) y rest):=by
 obtain E:=by exact Y (bg (d_0 du _ y rest) (a4.mpr h)) (Y (gc (af:=b7 _ y rest) (Y (aT (Jz h g).2) rfl)) rfl)
 obtain c:=C0 aj
  (λ pr ρ s e=>(jz Wd 29 _ pr ρ s e).1) (λ pr ρ s e=>(jz Wd 29 _ pr ρ s e).2)
  (((show dt [] [("self",.aH 5)]from λ u u e=>nn e).cons _ _).cons _ _) rfl (by lk) rfl g (d_3 du _ y rest _ _) rfl (by simpa using z)
  (Y (akG _ _ _ λ d l=>by refine av (iP.mp l) λ e u w=>?_;subst w;exact(bh _ _ rfl)) (Jy _ h (akH h) es x))
 obtain b:BR (.aH 2) (.d (.ae _)) (b7 _ y rest)=B _:=by show bR _ (B ((.ok ():Res gL),(b7 (es.map aP) y rest).set 2 (.ae ((es.filter (d6 j)).map aP))))=_;obtain n:=Ey (d6 j) es;unfold dc;rw[gg,gg,dD (by lia),dD (by lia)];rfl
 obtain R:=by refine Y (d_1 ..) (Y (gc (ρ:=ps (aK (mX j)) (aK (c6 j))) (af:=b7 ((es.filter (d6 j)).map aP) y rest) ((aT c).trans ((aT ((d_2 ..).trans ((aT b).trans rfl))).trans rfl))) rfl)
 obtain r:qR du 60 [("name",.d (aK (c6 j))),("self",.aH 5)] (bP mY) (b7 (es.map aP) y rest)=B (.ok (.next,ps (aK (mX j)) (aK (c6 j))),b7 ((es.filter (d6 j)).map aP) y rest):=by exact L Wb (Y (cR E) R)
 exact Y (Bh r rfl (bY.ae (B':=(es.filter (d6 j)).map aP) g).2.2) Bj
theorem C7(h:m σ=B (.exc c as,af)):b5 m k σ=B (.exc c as,af):=by delta b5 Ev.bind;exact L h rfl
noncomputable def pv(a b:J):H Nat:=([97,66,67,65,98,99].drop a).take 1++([9,0,31,127].drop b).take 1
noncomputable def JA(a b:J):H Nat:=([97,98,99,97,98,99].drop a).take 1++([9,0,31,127].drop b).take 1
section
variable (C:bV)(Bq:H D)(y:cj)(rest:aE)theorem akJ:bq (aw 6) (λ a=>bq (aw 4) λ b=>(qR C 60 [("name",.d (aK (pv a b))),("self",.aH 5)] [qP 0]) (b7 Bq y rest))=br (aw 6) λ a=>br (aw 4) λ b=>(b5 ((C [.aH 5,.d (aK (JA a b))] [("name",.d (.bool S))]).bind λ v=>.ret (.next,[("name",v),("name",.d (aK (pv a b))),("self",.aH 5)])) λ ar=>qR C 59 ar []) (b7 Bq y rest):=by lk
end
theorem C8(h:σ.all (bk (O σ))=S)(c:b1)(as:H D):uI bf σ.length (.exc c as) σ=B (.exc c as,σ):=by apply Y (eh (ov.symm▸h));dsimp only[mA];exact L ov rfl
abbrev vo:Stmt:=clsAt 28 3
def qS(k:J):Stmt:=(bP vo).getD k (.Pass ew)abbrev We(C Q:bV):Cfg:=eG (d4 [(nh,Q),(nV,C)])abbrev sZ(C Q:bV):=b4 (We C Q) fj 30 (bz vo)def exV:bx->PySem.Expr:=hz 0
def akK:J->aJ->PySem.Expr:=iu
noncomputable def n7(v nm:D):az:=[("val",.d v),("name",.d nm),("self",.aH 5)]abbrev akL(k:J):PySem.Expr:=akK k (VB (exV (qS 1)))abbrev qT(C Q:bV)(v nm:D)(k:J):=(ba (We C Q) 28 (bz vo) (n7 v nm) (akL k)).1
section
variable (C Q:bV)(Bq:H D)(y:cj)(rest:aE)(nm v:D)theorem Wf:(sZ C Q 59 (n7 v nm) [qS 1]) (b7 Bq y rest)=(b5 (kH ((cE [uf [qT C Q v nm 0,qT C Q v nm 1]]).bind λ as=>qq (.aH 2::as)) (n7 v nm)) λ ar=>sZ C Q 58 ar []) (b7 Bq y rest):=by lk
theorem Wg:qT C Q v nm 0 (b7 Bq y rest)=C [.aH 5,.d nm] [("name",.d (.bool S))] (b7 Bq y rest):=rfl
theorem Wh:qT C Q v nm 1 (b7 Bq y rest)=C [.aH 5,.d v] [("name",.d (.bool aj))] (b7 Bq y rest):=rfl
end
theorem Wi:bP vo=[qS 0,qS 1]:=rfl
def pw:bV:=lE (.plain .plain) vo λ ρ=>sZ du jD 60 ρ (bP vo)theorem akM(h:Bq.length<1000000):qq [.aH 2,.d v] (b7 Bq y rest)=B (.ok (.d .none),b7 (Bq++ [v]) y rest):=Y (aT (AZ rfl (by unfold dc;exact dD (by lia)))) rfl
section
variable {j:J}(fz:j<12){es:H Ent}(he:∀e∈es,e.1<12)(cL:es.length<1000){y:cj}{rest:aE}(g:bY (b7 (es.map aP) y rest))
include fz he cL g
theorem akN(v:D):sZ du jD 60 (n7 v (aK (c6 j))) [qS 0] (b7 (es.map aP) y rest)=B (.ok (.next,n7 v (aK (c6 j))),b7 (dX es j) y rest):=by refine Y (gc (af:=b7 _ y rest) (Y (aT (Y (aT (akI fz he cL g)) rfl)) rfl)) rfl
theorem Wj(r:sZ du jD 59 (n7 v (aK (c6 j))) [qS 1] (b7 (dX es j) y rest)=B (o,σ)):pw [.aH 5,.d (aK (c6 j)),.d v] [] (b7 (es.map aP) y rest)=uI .plain (O rest+6) o σ:=by
 obtain r:=by exact Wi.symm▸Y (cR (akN fz he cL g v)) r
 exact Y (o3 r) rfl
theorem akO(h:cs.any eZ=aj)(k:O cs<=1000):pw [.aH 5,.d (aK (c6 j)),.d (aK cs)] [] (b7 (es.map aP) y rest)=B (.ok (.d .none),b7 ((es.filter (d6 j)++ [(j,cs)]).map aP) y rest):=by
 obtain l:=Ey (d6 j) es;have G:bY (b7 (dX es j) y rest):=g;obtain t:uf [qT du jD (aK cs) (aK (c6 j)) 0,qT du jD (aK cs) (aK (c6 j)) 1] (b7 (dX es j) y rest)=B (.ok (.d (aP (j,cs))),b7 (dX es j) y rest):=by exact Y (aT (Y (aT (Y (Wg du jD (dX es j) y rest (aK (c6 j)) (aK cs)) (Jz fz G).1)) (Y (aT (Y (aT ((Wh du jD (dX es j) y rest (aK (c6 j)) (aK cs)).trans (C5 aj G (show cs.toArray.size<=1000000 by simp;lia) h))) rfl)) rfl))) rfl
 obtain e:sZ du jD 59 (n7 (aK cs) (aK (c6 j))) [qS 1] (b7 (dX es j) y rest)=B (.ok (.next,n7 (aK cs) (aK (c6 j))),b7 ((es.filter (d6 j)++ [(j,cs)]).map aP) y rest):=by refine Y (Wf ..) (Y (gc (ρ:=n7 (aK cs) (aK (c6 j))) (af:=b7 ((es.filter (d6 j)++ [(j,cs)]).map aP) y rest) ?_) rfl);obtain a:=akM (Bq:=dX es j) (by rw[gg];lia);rw[show dX es j++ [aP (j,cs)]=(es.filter (d6 j)++ [(j,cs)]).map aP by simp]at a;exact Y (aT ((aT ((aT t).trans rfl:(cE [uf [qT du jD (aK cs) (aK (c6 j)) 0,qT du jD (aK cs) (aK (c6 j)) 1]]) (b7 (dX es j) y rest)=B (.ok [.d (aP (j,cs))],b7 (dX es j) y rest))).trans a)) rfl
 exact Y (Wj fz he cL g e) ((Y (eh (ov▸g.2.2)) Bj):uI .plain (O (b7 ((es.filter (d6 j)++ [(j,cs)]).map aP) y rest)) _ _=_)
theorem Wk(h:du [.aH 5,.d v] [("name",.d (.bool aj))] (b7 (dX es j) y rest)=B (.exc c as,b7 (dX es j) y rest)):pw [.aH 5,.d (aK (c6 j)),.d v] [] (b7 (es.map aP) y rest)=B (.exc c as,b7 (dX es j) y rest):=by
 have G:bY (b7 (dX es j) y rest):=g;obtain e:=by exact Y (Wf ..) (C7 (jk (jk (jk (jk (Y (aT (Y (Wg du jD (dX es j) y rest (aK (c6 j)) v) (Jz fz G).1)) (jk (jk (Y (Wh du jD (dX es j) y rest (aK (c6 j)) v) h)))))))))
 exact Y (Wj fz he cL g e) (C8 G.2.2 _ _)
end
theorem akP(h:a<6)(q:b<4)(v:D)(g:bY (b7 Bq y rest)):pw [.aH 5,.d (aK (pv a b)),.d v] [] (b7 Bq y rest)=B (.exc "ValueError" [.str kT],b7 Bq y rest):=by
 obtain e:sZ du jD 60 (n7 v _) [qS 0] (b7 Bq y rest)=B _:=by
  exact C7 (jk (jk ((by
    refine cq (bF.mp (b9.mp (b9.mp (show(aw 6).all (λ a=>(aw 4).all λ b=>(JA a b).any nT&&aZ (O (JA a b)) 2)=S from rfl) a (a4.mpr h)) b (a4.mpr q))) λ W k=>?_;obtain e:=by exact Y (bg (bg (akJ du Bq y rest) (a4.mpr h)) (a4.mpr q)) (C7 (jk (Jw S g (bA (b8 k) (b8 rfl)) W)))
    obtain r:=by exact Wb▸Ir e
    exact Y (o3 r) (C8 g.2.2 _ _)))))
 obtain r:=by exact Wi.symm▸Ir e
 exact Y (o3 r) (C8 g.2.2 _ _)abbrev qU:Stmt:=clsAt 28 10
abbrev vp:Cfg:=eG (d4 [])abbrev JB:=b4 vp fj 30 (bz qU)def Wl:bx->PySem.Expr:=hz 0
def qVl:Stmt:=(bP qU).getD 0 (.Pass ew)abbrev kU:PySem.Expr:=Wl qVl
def C9:bV:=lE (.plain .fresh) qU λ ρ=>JB 60 ρ (bP qU)theorem w_0(Bq:H D)(y:cj)(rest:aE):(JB 60 [("self",.aH 5)] (bP qU)) (b7 Bq y rest)=(b5 (lx (jt S 1000 (bz qU) (d5 kU) (ba vp 29 (bz qU) [("self",.aH 5)] (gb kU).iter).1 (λ ρ e=>(ba vp 29 (d5 kU) ρ e).1) (λ ρ e=>(ba vp 29 (d5 kU) ρ e).2) (mV kU) [gb kU] [("self",.aH 5)]) [("self",.aH 5)]) λ ar=>JB 59 ar []) (b7 Bq y rest):=by lk
theorem w_1(Bq:H D)(y:cj)(rest:aE):(ba vp 29 (bz qU) [("self",.aH 5)] (gb kU).iter).1 (b7 Bq y rest)=B (.ok (.aH 2),b7 Bq y rest):=rfl
theorem JC(t:X.ifs=[]):
  ∀xs:H D,(∀d∈xs,∃p,sz s X.target d pr=B p/\E p e=g d)->hs s E N e X pr xs=kQ g xs
 |[],_=>rfl
 |d::ds,h=>by
  refine av (h d (cV ..)) λ p W w=>?_;show((sz s X.target d pr).bind λ p=>(sA N p S X.ifs).bind λ ok=>match ok with
   |true=>(E p e).bind λ v=>(hs s E N e X pr ds).map _|false=>hs s E N e X pr ds)=_
  rw[W,gM,t,(JC t ds λ d l=>h d (c7 _ l))];exact L w rfl
noncomputable def C_(d:D):U D:=match d with|.aD [_,v]=>B v|_=>aa
theorem JD:∀es:H Ent,kQ C_ (es.map aP)=B (es.map λ e=>aK e.2)
 |[]=>rfl|e::es=>by show(C_ _).bind _=_;exact L (JD es) rfl
theorem akQ(xs:H D)(h:∀d∈xs,∃s p,d=.aD [s,p]):hs (d5 kU) (λ pr e=>(bJ (fl []) 29 (d5 kU) pr e).1) (λ pr e=>(bJ (fl []) 29 (d5 kU) pr e).2) (mV kU) (gb kU) (n2 (d5 kU) []) xs=kQ C_ xs:=by refine JC rfl xs λ d l=>(f5 (h d l) λ s p w=>?_);subst w;exact⟨[("v",p),("k",s)],rfl,rfl⟩theorem Wm:i4 (fl []) vp:=sN λ p h=>by cases h
theorem Wn{es:H Ent}(z:O es<1000)(g:bY (b7 (es.map aP) y rest)):C9 [.aH 5] [] (b7 (es.map aP) y rest)=B (.ok (.aH (O rest+6)),b7 (es.map aP) y rest++ [.ae (es.map λ e=>aK e.2)]):=by
 obtain c:=C0 S
  (λ pr ρ s e=>(jz Wm 29 _ pr ρ s e).1) (λ pr ρ s e=>(jz Wm 29 _ pr ρ s e).2)
  (show dt [] [("self",.aH 5)]from λ u u e=>nn e) rfl rfl rfl g (w_1 _ y rest) rfl (by simpa using z)
  (Y (akQ _ λ d l=>by refine av (iP.mp l) λ e u w=>?_;subst w;exact(bh _ _ rfl)) (JD es))
 obtain r:=by exact Y (w_0 ..) (yN (Y (aT c) rfl))
 obtain E:bE _ (O _)=false:=by rw[show O (b7 (es.map aP) y rest)=O rest+6 from rfl];cases h:bE _ _ with|false=>rfl|true=>exact aS (cg.mp h) (hu _)
 obtain f:((b7 _ y rest++ [cj.ae (es.map λ e=>aK e.2)]):H cj)[O rest+6]?=B (.ae (es.map λ e=>aK e.2)):=by rw[show O rest+6=O (b7 _ y rest)from rfl,pN (bH _)];simp
 refine Y (o3 r) (Y (eh (by show((b7 _ y rest++ [_]).take (b7 _ y rest).length).all _=S;rw[C4];exact g.2.2)) ?_);show(match bE _ _ with|true=>_|false=>jU _ _)=_;refine ax E.symm (Y (rT f) ?_);show B _=_;exact L (C4 ..) rfl
abbrev JE:Stmt:=clsAt 28 0
abbrev i6:Stmt:=clsAt 28 8
abbrev JF:Stmt:=clsAt 28 15
def Wo:bV:=lE (.opt .keep) JE λ ρ=>b4 (eG (d4 [(nV,du)])) fj 30 (bz JE) 60 ρ (bP JE)def vq:bV:=lE (.opt .plain) i6 λ ρ=>b4 (eG (d4 [(nV,du)])) fj 30 (bz i6) 60 ρ (bP i6)def JG:bV:=lE (.plain .plain) JF λ ρ=>b4 (eG (d4 [(uX,vq),(nV,du)])) fj 30 (bz JF) 60 ρ (bP JF)def Wp:bV:=BV gZ Wo
def Dc:H (ao×bV):=[(340,cx CY),(345,cx CR),(gZ,Wp),(l7,pw),(x7,C9),(x8,JG),(uX,vq)]
section
variable {g:bX}(G:gn g){n:J}(da:0<n)
include G da
theorem JH:cK g nV (n+1) du:=mK (G.fns _ _ _ rfl) G.base λ u u u u c=>lB (nZ G 0) 30 60 _ _ _ _ _ _ _ (nY G da (hJ (l:=[]) λ p h=>by cases h)) c
theorem JI:qw g (n+1) (d4 [(nV,du)]):=hJ λ p h=>L (ek.mp h) (JH G da)theorem akR:cK g nh (n+2) jD:=mK (G.fns _ _ _ rfl) G.base λ u u u u c=>lB (nZ G 0) 30 60 _ _ _ _ _ _ _ (nY G (fp _) (JI G da)) c
theorem Wq:cK g uX (n+2) vq:=mK (G.fns _ _ _ rfl) G.base λ u u u u c=>lB (nZ G 0) 30 60 _ _ _ _ _ _ _ (nY G (fp _) (JI G da)) c
theorem akS:cK g tP (n+2) Wo:=mK (G.fns _ _ _ rfl) G.base λ u u u u c=>lB (nZ G 0) 30 60 _ _ _ _ _ _ _ (nY G (fp _) (JI G da)) c
theorem akT:cK g x7 (n+1) C9:=mK (G.fns _ _ _ rfl) G.base λ u u u u c=>lB (nZ G 0) 30 60 _ _ _ _ _ _ _ (nY G da (hJ λ p h=>by cases h)) c
theorem akU:cK g l7 (n+3) pw:=mK (G.fns _ _ _ rfl) G.base λ u u u u c=>lB (nZ G 0) 30 60 _ _ _ _ _ _ _ (nY G (fp _) (hJ (AllP.mem (.cons (akR G da) (.cons (JH G (fp _)) .nil))))) c
theorem akV:cK g x8 (n+3) JG:=mK (G.fns _ _ _ rfl) G.base λ u u u u c=>lB (nZ G 0) 30 60 _ _ _ _ _ _ _ (nY G (fp _) (hJ (AllP.mem (.cons (Wq G da) (.cons (JH G (fp _)) .nil))))) c
theorem akW:qw g (n+13) (d4 Dc):=by
 refine λ a C e=>la G.cls λ N X K M m o b=>?_;obtain q:(a,C)∈Dc:=by
  revert e;unfold d4;generalize Dc=l;intro e;induction l with
  |nil=>exact nn e
  |cons p l i=>
   rw[gY]at e;refine dO (a==p.1) (λ I=>?_) λ I=>?_
   ·rw[I]at e;refine ax (ak e) ?_;rw[cI.mp I];exact cV
   ·rw[I]at e;exact c7 _ (i e)
 have f:∀{a C},cK g a _ C->xG g a _ C/\(a≠gZ->cK g a (n+13) C):=λ h=>⟨h.w,λ u=>h⟩;unfold Dc at q;simp[dM,dS,jO,ao2]at q;rcases q with⟨rfl,rfl⟩|⟨rfl,rfl⟩|⟨rfl,rfl⟩|⟨rfl,rfl⟩|⟨rfl,rfl⟩|⟨rfl,rfl⟩|⟨rfl,rfl⟩
 ·exact f (akw G da)
 ·exact f (akj G (Nat.le_add_of_sub_le da))
 ·exact⟨agM K m (akS G (by lia)),λ h=>aS rfl h⟩
 ·exact f (akU G (by lia))
 ·exact f (akT G (fp _))
 ·exact f (akV G (by lia))
 ·exact f (Wq G (fp _))
end
abbrev d9:Scope:=bz (aY 34)def cO(k:J):Stmt:=(bP (aY 34)).getD k (.Pass ew)def ctK(K:J->bV):H (ao×bV):=[(340,K 0),(345,K 1),(gZ,K 2),(l7,K 3),(x7,K 4),(x8,K 5),(uX,K 6)]abbrev px(K:J->bV):Cfg:=eG (d4 (ctK K))abbrev cB(K:J->bV):=b4 (px K) fj 30 d9
abbrev eQ(K:J->bV)(N:J)(ρ:az)(e:aJ):=ba (px K) N d9 ρ e
def dH(k:J):Stmt:=(f9 (cO 3)).getD k (.Pass ew)noncomputable def dR(s:aF):Nat:=match s with|false=>3|true=>8
noncomputable def fU(s:aF):Nat:=match s with|false=>8|true=>9
def cC(s:aF)(Bq Yq:H D)(M:H (ai×V))(xs:H D)(k:J)(Q:H D):aE:=b7 Bq (.ae Yq) (.fY M:: .it (.list xs k)::(match s with|false=>[]|true=>[.ae Q]))def cm(cJ:J)(cl:D):az:=[("plain",.aH cJ),("box",.aH 5),("means",.aH 6),("begun",.aH 2),("refused",.d (.str kT)),("words",.d eI),("cells",.d cl)]noncomputable def Wr(nm t r x:D)(ρ:az):az:=("read",.d r)::("text",.d t)::("name",.d nm)::("x",.d x)::ρ
noncomputable def s6:Str:="ValueError: Control characters not allowed in headers"
noncomputable def qV:Str:="AssertionError: Header names/values must be of type str (got None)"
def dC(nm t r x:D)(ρ:az):az:=("due",.d (.str s6))::("told",.d (.str ""))::Wr nm t r x ρ
noncomputable def eJ(a:U (U D))(n:J)(ρ:az):az:=match a with|none=>ρ|some aa=>("plain",.aH n)::ρ|some (B d)=>("due",.d d)::("plain",.aH n)::ρ
noncomputable def Dd(e:U D)(ρ:az):az:=match e with|none=>ρ|some d=>("told",.d d)::ρ
def hK:bx->PySem.Expr:=hz 0
def ifO:bx->H Stmt:=sB 1
def s7(k:J):Stmt:=(kS (dH 2)).getD k (.Pass ew)def vr:Stmt:=(ifO (s7 1)).getD 0 (.Pass ew)def yO(k:J):Stmt:=(kS vr).getD k (.Pass ew)def vt(s:bx):H ExceptHandler:=(jf s).dd
def lS:J->aJ->PySem.Expr:=iu
abbrev jE:PySem.Expr:=sY (s7 0)
section
variable (K:J->bV)(s:aF)(Bq Yq Q P:H D)(M:H (ai×V))(xs:H D)(k:J)(cJ:J)(cl x nm t r:D)(σ:aE)theorem b_0:cB K 56 (("x",.d x)::cm cJ cl) [dH 0] σ=(b5 ((K 0 [.d x,.d eI] []).bind λ a=>Bu a λ e=>lA ((Ev.of (hE e 3)).bind λ es=>qm (px K) 30 d9 (([("name" :ai),"text","read"]).map λ n=>LJ n ew) (es.map V.d) (("x",.d x)::cm cJ cl))) λ ar=>cB K 55 ar []) σ:=by lk
theorem Ws(ρ:az):cB K 54 ρ [dH 2] σ=(b5 (fL (eQ K 30 ρ (hK (dH 2))).2 (cB K 53 ρ (kS (dH 2))) (cB K 53 ρ [])) λ ar=>cB K 53 ar []) σ:=rfl
theorem i_0(ρ:az):cB K 53 ρ [s7 0] σ=(b5 (fb d9 "plain" (jt S 1000 d9 (d5 jE) (eQ K 29 ρ (gb jE).iter).1 (λ ρ e=>(ba (px K) 29 (d5 jE) ρ e).1) (λ ρ e=>(ba (px K) 29 (d5 jE) ρ e).2) (mV jE) [gb jE] ρ) ρ) λ ar=>cB K 52 ar []) σ:=by lk
theorem Wt(n:J)(cs:H J):cB K 52 (eJ (B aa) n (dC nm (aK cs) r x (cm cJ cl))) [s7 1] σ=(b5 (b5 (fL (eQ K 30 (eJ (B aa) n (dC nm (aK cs) r x (cm cJ cl))) (hK vr)).2 (cB K 50 (eJ (B aa) n (dC nm (aK cs) r x (cm cJ cl))) (kS vr)) (cB K 50 (eJ (B aa) n (dC nm (aK cs) r x (cm cJ cl))) [])) λ ar=>cB K 50 ar []) λ ar=>cB K 51 ar []) σ:=rfl
theorem j_1:cB K 49 (eJ (B (B (.str ""))) (fU s) (dC nm t r x (cm cJ cl))) [yO 1] (cC s Bq Yq M xs k Q++ [.ae P])=(b5 (kH (qq [.aH (fU s),.d (.aD [nm,t])]) (eJ (B (B (.str ""))) (fU s) (dC nm t r x (cm cJ cl)))) λ ar=>cB K 48 ar []) (cC s Bq Yq M xs k Q++ [.ae P]):=by induction s<;>lk
theorem Wu(a:U (U D))(n:J)(ext:aE):cB K 53 (eJ a n (dC nm t r x (cm cJ cl))) [dH 3] (cC s Bq Yq M xs k Q++ext)=(b5 (qo ee d9 (λ ρ body=>b4 fj fj 30 d9 52 ρ body) ((((K 3 [.aH 5,.d nm,.d t] []).bind λ u=>(.ret ():Ev gL)).bind λ u=>(.ret (eJ a n (dC nm t r x (cm cJ cl))):Ev az)).bind λ ar=>.ret (.next,ar)) (vt (dH 3)) (eJ a n (dC nm t r x (cm cJ cl)))) λ ar=>cB K 52 ar []) (cC s Bq Yq M xs k Q++ext):=by rcases a with _|_|d<;>induction s<;>lk
theorem Wv(a:U (U D))(n:J):uO (qn ee d9 (λ ρ body=>b4 fj fj 30 d9 52 ρ body) "ValueError" [.str kT] (vt (dH 3)) (eJ a n (dC nm t r x (cm cJ cl)))) σ=B (.ok (.next,Dd (B (.str s6)) (eJ a n (dC nm t r x (cm cJ cl)))),σ):=by rcases a with _|_|d<;>lk
theorem h_a(a:U (U D))(n:J):uO (qn ee d9 (λ ρ body=>b4 fj fj 30 d9 52 ρ body) "AssertionError" [.str uV] (vt (dH 3)) (eJ a n (dC nm t r x (cm cJ cl)))) σ=B (.ok (.next,Dd (B (.str qV)) (eJ a n (dC nm t r x (cm cJ cl)))),σ):=by rcases a with _|_|d<;>lk
abbrev qW(e:U D)(a:U (U D))(n:J)(nm t r x:D)(cJ:J)(cl:D):az:=Dd e (eJ a n (dC nm t r x (cm cJ cl)))theorem b_4(e:U D)(a:U (U D))(n:J)(ext:aE):cB K 52 (qW e a n nm t r x cJ cl) [dH 4] (cC s Bq Yq M xs k Q++ext)=(b5 ((K 4 [.aH 5] []).bind λ v=>.ret (.next,("shown",v)::qW e a n nm t r x cJ cl)) λ ar=>cB K 51 ar []) (cC s Bq Yq M xs k Q++ext):=by rcases a with _|_|d<;>induction e<;>induction s<;>lk
end
theorem De:kS (dH 2)=[s7 0,s7 1]/\kS vr=[yO 0,yO 1]:=⟨rfl,rfl⟩noncomputable def Df(a:U (U D))(cJ n:J):Nat:=match a with|none=>cJ|some _=>n
abbrev lT:PySem.Expr:=hK (dH 5)abbrev kV:PySem.Expr:=iu 1 (lS 2 lT)
section
variable (K:J->bV)(cJ:J)(cl x nm t r:D)(σ:aE)(a:U (U D))(e:U D)(n j:J)abbrev gV(j:J)(e:U D)(a:U (U D))(n:J)(nm t r x:D)(cJ:J)(cl:D):az:=("shown",.aH j)::qW e a n nm t r x cJ cl
theorem u_1:(eQ K 29 (gV j e a n nm t r x cJ cl) (lS 1 lT)).2 σ=mq .NotEq (.aH 2) (.ret (.aH (Df a cJ n))) (λ u c=>.ret c) σ:=by rcases a with _|_|d<;>induction e<;>lk
theorem u_2:(eQ K 29 (gV j e a n nm t r x cJ cl) (lS 2 lT)).2 σ=mq .NotEq (.aH j) (jt aj 1000 d9 (d5 kV) (eQ K 27 (gV j e a n nm t r x cJ cl) (gb kV).iter).1 (λ ρ e=>(ba (px K) 27 (d5 kV) ρ e).1) (λ ρ e=>(ba (px K) 27 (d5 kV) ρ e).2) (mV kV) [gb kV] (gV j e a n nm t r x cJ cl)) (λ u c=>.ret c) σ:=by lk
theorem akX:(eQ K 27 (gV j e a n nm t r x cJ cl) (gb kV).iter).1 σ=B (.ok (.aH (Df a cJ n)),σ):=by rcases a with _|_|d<;>induction e<;>lk
theorem akY:(eQ K 29 (gV j e a n nm .none r x cJ cl) (lS 3 lT)).2 σ=B (.ok aj,σ):=by rcases a with _|_|d<;>induction e<;>lk
theorem akZ(cs:H J):(eQ K 29 (gV j e a n nm (aK cs) r x cJ cl) (lS 3 lT)).2 σ=wV .And [(K 1 [.d (aK cs)] []).bind λ v=>mq .NotEq v (.ret (.d r)) λ u c=>.ret c] σ:=by rcases a with _|_|d<;>induction e<;>lk
end
theorem ak0(cs:H J)(n:J)(h:4<=n):g5 n (aK cs) (aK cs)=B true:=by obtain⟨n,rfl⟩:∃m,n=m+1:=⟨n-1,by lia⟩;refine(?_:B _=_);rw[oi]
theorem Ww{α:Type}(f:α->D)(M:∀x n,4<=n->g5 n (f x) (f x)=B S)(es:H α)(h:O es<=50):iv .NotEq (.ae (es.map f)) (.ae (es.map f))=B false:=by
 show(jm 59 _ _).map _=_;exact L ((show∀(es:H α) n,O es+5<=n->jm n (es.map f) (es.map f)=B S from by
   intro es n h;induction es generalizing n with
   |nil=>induction n with
    |zero=>exact aS h (apb _)|succ=>rfl
   |cons e es i=>
    rcases n with _|n
    ·exact aS h (apb _)
    show(match g5 n _ _,jm n _ _ with
     |some a,B b=>B _|_,_=>aa)=_
    rw[M e n (by lia),i n (vT ‹_›)];rfl) es 59 (by lia)) rfl
theorem JJ(h:r σ=B (.ok b,σ))(k:Ev.read a σ=B (.ok d,σ))(v:Ev.read b σ=B (.ok db,σ))(I:iv o d db=B c):mq o a r (λ u c=>.ret c) σ=B (.ok c,σ):=Y (aT h) (Y (aT k) (Y (aT v) (L I rfl)))theorem Dg{σ:aE}(h:(σ:H cj)[i]?=B (.ae xs)):Ev.read (.aH i) σ=B (.ok (.ae xs),σ):=by unfold Ev.read;dsimp only;exact L h rfl
theorem ak1{K:J->bV}{σ:aE}(h:(σ:H cj)[j]?=B (.ae xs)):qh (px K) (.aH j) "append" [.ret v] [] [] σ=qq [.aH j,v] σ:=by
 obtain e:u0 _ σ (.aH j) "append" =B _:=by delta u0 uZ uY;dsimp only;exact L h rfl
 show(match u0 _ σ _ "append" with
  |some (.bi id)=>_|some (.fn a)=>_|none=>_)=_
 exact L e rfl
theorem Wx(h:(σ:H cj)[j]?=B (.ae xs))(cL:xs.length<1000000):qq [.aH j,.d v] σ=B (.ok (.d .none),σ.set j (.ae (xs++ [v]))):=Y (aT (AZ h (by unfold dc;exact dD (by lia)))) rfl
theorem qX(K:J->bV):i4 (fl []) (px K):=sN λ p h=>aS h dS
theorem ak2(xs:H D)(h:∀d∈xs,∃s p,d=.aD [s,p]):hs (d5 kV) (λ pr e=>(bJ (fl []) 27 (d5 kV) pr e).1) (λ pr e=>(bJ (fl []) 27 (d5 kV) pr e).2) (mV kV) (gb kV) (n2 (d5 kV) []) xs=kQ C_ xs:=by refine JC rfl xs λ d l=>(f5 (h d l) λ s p w=>?_);subst w;exact⟨[("pair",.aD [s,p])],rfl,rfl⟩theorem JK(ρ:az):dt [] ρ:=λ u u=>nn
section
variable {K:J->bV}{cJ:J}{cl nm t r x:D}{a:U (U D)}{e:U D}{n:J}{es:H Ent}(cL:es.length<=50)
include cL
theorem ak3(g:bY σ)(p:(eQ K 29 (gV j e a n nm t r x cJ cl) (lS 0 lT)).2 σ=B (.ok aj,σ))(y:(σ:H cj)[2]?=B (.ae (es.map aP)))(w:(σ:H cj)[Df a cJ n]?=B (.ae (es.map aP)))(z:(σ:H cj)[j]?=B (.ae (es.map λ e=>aK e.2)))
  (b:t=.none\/∃cs R,t=aK cs/\r=aK R/\K 1 [.d (aK cs)] [] σ=B (.ok (.d r),σ)):cB K 51 (gV j e a n nm t r x cJ cl) [dH 5] σ=B (.ok (.next,gV j e a n nm t r x cJ cl),σ):=by
 have c:=C0 aj (sc0:=d9)
  (λ pr ρ s e=>(jz (qX K) 27 _ pr ρ s e).1) (λ pr ρ s e=>(jz (qX K) 27 _ pr ρ s e).2) (ρ:=gV j e a n nm t r x cJ cl)
  (JK _) rfl rfl rfl g (akX K cJ cl x nm t r σ a e n j) w (by simp;lia)
  (Y (ak2 _ λ d l=>by refine av (iP.mp l) λ e u W=>?_;subst W;exact(bh _ _ rfl)) (JD es))
 obtain A:(eQ K 29 (gV j e a n nm t r x cJ cl) (lS 3 lT)).2 σ=B (.ok aj,σ):=by
  rcases b with rfl|⟨cs,R,rfl,rfl,h⟩
  ·exact akY ..
  ·apply Y (akZ ..)
   obtain q:((K 1 [.d _] []).bind λ v=>mq .NotEq v (.ret (.d (aK R))) λ u c=>.ret c) σ=B (.ok aj,σ):=by refine Y (aT h) (JJ rfl rfl rfl ?_);show B _=_;rw[bne_self_eq_false]
   exact Y (aT q) rfl
 exact Y (gc (af:=σ) (Y (aT (Y (aT p) (Y (aT ((u_1 ..).trans (JJ rfl (Dg y) (Dg w) (Ww aP (λ e n h=>by
   obtain⟨n,rfl⟩:∃m,n=m+4:=⟨n-4,((apc h).mp rfl)⟩;refine(?_:B _=_);rw[oi,oi];rfl) es cL)))) (Y (aT ((u_2 ..).trans (JJ c (Dg z) rfl (Ww _ (λ e=>ak0 e.2) es cL)))) (Y (aT A) rfl))):wV .Or [(eQ K 29 (gV j e a n nm t r x cJ cl) (lS 0 lT)).2,(eQ K 29 (gV j e a n nm t r x cJ cl) (lS 1 lT)).2,(eQ K 29 (gV j e a n nm t r x cJ cl) (lS 2 lT)).2,(eQ K 29 (gV j e a n nm t r x cJ cl) (lS 3 lT)).2] σ=B (.ok aj,σ))) rfl)) rfl
end
def vals(es:H Ent):H D:=es.map λ e=>aK e.2
theorem Wy{σ ext:aE}{i:J}(h:(σ:H cj)[i]?=B m):((σ++ext:aE):H cj)[i]?=B m:=by rw[vU (jL.mp h).1];exact h
theorem JL{m:cj} :((σ++ [m]:aE):H cj)[O σ]?=B m:=by rw[pN (bH _)];simp
theorem ak4{m R:cj} :(σ++ [m]:aE).set (O σ) R=σ++ [R]:=by rw[Lh _ _ (bH _)];simp
section
variable {K:J->bV}{cJ:J}{cl nm t r x:D}{a:U (U D)}{e:U D}{n:J}{es:H Ent}{s:aF}{Yq Q xs:H D}{M:H (ai×V)}{k:J}{ext:aE}
theorem Dh(z:O es<=50)(R:σ=cC s (es.map aP) Yq M xs k Q++ext)(g:bY σ)
  (u:∀j σ,(eQ K 29 (gV j e a n nm t r x cJ cl) (lS 0 lT)).2 σ=B (.ok aj,σ))(v:(σ:H cj)[Df a cJ n]?=B (.ae (es.map aP)))
  (o:K 4 [.aH 5] [] σ=B (.ok (.aH (O σ)),σ++ [.ae (vals es)]))
  (w:t=.none\/∃cs l,t=aK cs/\r=aK l/\∀σ,bY σ->K 1 [.d (aK cs)] [] σ=B (.ok (.d r),σ)):cB K 52 (qW e a n nm t r x cJ cl) [dH 4,dH 5,dH 6] σ=B (.ok (.next,gV (O σ) e a n nm t r x cJ cl),σ++ [.ae (vals es++ [.str ""])]):=by
 obtain G:bY (σ++ [.ae _]):=g.push rfl rfl;obtain E:=by obtain q:=b_4 K s (es.map aP) Yq Q M xs k cJ cl x nm t r e a n ext;simp[<-R]at q;exact Y q (Y (gc (af:=σ++ [.ae _]) (Y (aT o) rfl)) rfl)
 obtain eT:=ak3 z G (u ..) (Wy (L R rfl)) (Wy v) JL (by
  rcases w with h|⟨cs,l,W,P,h⟩
  ·exact .inl h
  ·exact .inr (bh cs l ⟨W,P,h _ G⟩))
 obtain jT:cB K 50 (gV _ e a n nm t r x cJ cl) [dH 6] (σ++ [.ae _])=B _:=by refine Y (gc (ρ:=gV σ.length e a n nm t r x cJ cl) (af:=σ++ [.ae (vals es++ [.str ""])]) ?_) rfl;obtain p:=Y (ak1 (JL (m:=.ae (vals es)))) (Wx JL (by unfold vals;simp;lia));rw[ak4]at p;exact Y (aT p) rfl
 exact Y (cR E) (Y (cR eT) jT)theorem ak5(h:K 0 [.d x,.d eI] [] σ=B (.ok (.d (.aD [nm,t,r])),σ)):cB K 56 (("x",.d x)::cm cJ cl) [dH 0] σ=B (.ok (.next,Wr nm t r x (cm cJ cl)),σ):=Y (b_0 ..) (Y (gc (af:=σ) (Y (aT h) rfl)) rfl)
end
noncomputable abbrev yP(nm:D):cz:=[("name",nm)]theorem JM:bq (aw 12) (λ i=>(bJ (fl []) 30 d9 (yP (aK (c6 i))) (hK (dH 2))).2)=br (aw 12) λ u=>B true:=rfl
theorem ak6:bq (aw 6) (λ a=>bq (aw 4) λ b=>(bJ (fl []) 30 d9 (yP (aK (pv a b))) (hK (dH 2))).2)=br (aw 6) λ u=>br (aw 4) λ u=>B false:=rfl
theorem Wz(h:ρ.lookup n=B (.d d)):dt [(n,d)] ρ:=by
 intro m e p;dsimp only[gY]at p;refine dO (m==n) (λ q=>?_) λ q=>?_
 ·rw[q]at p;refine ax (ak p) ?_;rw[cI.mp q];exact h
 ·rw[q]at p;exact nn p
section
variable {K:J->bV}{cJ:J}{cl nm t r x:D}theorem JN(ρ:az):dt (yP nm) (dC nm t r x ρ):=Wz rfl
theorem ak7(h:a<6)(q:b<4)(g:bY σ):cB K 54 (dC (aK (pv a b)) t r x (cm cJ cl)) [dH 2] σ=B (.ok (.next,dC (aK (pv a b)) t r x (cm cJ cl)),σ):=Y (Ws ..) (Y (gc (af:=σ) (Y (aT ((jz (qX K) 30 d9 _ _ (JN _) _).2 aj (bg (bg ak6 (a4.mpr h)) (a4.mpr q)) σ g)) rfl)) rfl)
end
abbrev su:PySem.Expr:=hK vr
abbrev qY:PySem.Expr:=Sk su
abbrev WW:H D->U (H D):=hs (d5 qY) (λ pr e=>(bJ (fl []) 28 (d5 qY) pr e).1) (λ pr e=>(bJ (fl []) 28 (d5 qY) pr e).2) (mV qY) (gb qY) []def vu(d:D):U Bool:=(bJ (fl []) 28 (d5 qY) [("sign",d)] ((gb qY).ifs.getD 0 qY)).2
theorem ak8(t:D):(bJ (fl []) 30 d9 [("text",t)] su).2=((lL t).bind λ xs=>match bE (O xs) 1000 with
  |true=>(WW xs).map D.ae|false=>aa).bind λ l=>cp .Eq l (.ae []):=by lk
theorem ak9(xs:H D):WW xs=jB vu B xs:=yE rfl xs λ d h=>(⟨[("sign",d)],rfl,rfl,rfl⟩)def n8(c:J):Bool:=(vu (cA c)).rec aj λ b=>b==eZ c
theorem ak_(h:n8 c=S):vu (cA c)=B (eZ c):=by
 unfold n8 at h;revert h;rcases vu _ with _|b
 ·exact bw
 ·exact λ h=>aM B (cI.mp h)
theorem WY:∀cs:H J,(∀c∈cs,n8 c=S)->jB vu B (cs.map cA)=B ((cs.filter eZ).map cA)
 |[],_=>rfl|c::cs,h=>by show(vu _).bind _=_;rw[ak_ (h c cV),WY cs λ c A=>h c (c7 _ A),vS];cases eZ c<;>rfl
theorem ala(h:∀c∈cs,n8 c=S)(z:O cs<1000):(bJ (fl []) 30 d9 [("text",aK cs)] su).2=B (!(cs.any eZ)):=by
 obtain E:lL (aK cs)=B (cs.map cA):=rfl;simp[ak8,E,gM,gg,cg.mpr z];rw[ak9,WY cs h];obtain f:cs.any eZ= !(cs.filter eZ).isEmpty:=by induction cs with|nil=>rfl|cons c cs i=>simp[D6,vS,i (λ c A=>h c (c7 _ A)) (by simp at z;exact ik ‹_›) rfl];cases eZ c<;>rfl
 rw[f];cases cs.filter eZ<;>rfl
theorem alb{o p st sp m:J}(i:o<6)(v:p<2)(d:∀z∈zs,z<40):∀c∈iJ (hc o p zs) (dV m) sp st,n8 c=true:=by
 have b:∀{V zs:H J},(∀y∈V,y∈fo)->(∀z∈zs,z<40)->∀c∈pJ iH V zs,n8 c=true:=by
  intro V;induction V with
  |nil=>intro zs u u c h;cases h
  |cons y V I=>
   intro zs W j c h;cases zs with
   |nil=>cases h
   |cons z zs=>
    rcases dM.mp h with rfl|q
    ·exact b9.mp (b9.mp (show(fo.all λ y=>(aw 40).all λ z=>n8 _)=S from rfl) y (W y cV)) z (a4.mpr (j z cV))
    ·exact I (λ y R=>W y (c7 _ R)) (λ z d=>j z (c7 _ d)) c q
 have W:=b (yJ i v).1 d;intro c h;rcases bB.mp h with q|q
 ·exact W c (m_ q)
 ·rcases bB.mp q with q|q
  ·exact b9.mp rfl c (nc (m_ q))
  ·rcases bB.mp q with q|q
   ·exact b9.mp rfl c (nc (m_ q))
   ·exact W c (nc q)theorem keys_map(es:H (ai×V))(k:ai)(v:V):(es.map λ e=>if e.1=k then(e.1,v)else e).map (·.1)=es.map (·.1):=by refine Y v3 (YD λ e u=>(?_:(if e.1=k then _ else e).1=e.1));split<;>rfl
theorem HW(h:es.any (λ e=>decide (e.1=k))=aj):eO k es=none:=by induction es with|nil=>rfl|cons e es i=>simp only[D6,aoI]at h;dsimp only[eO];rw[a6 (by simpa using h.1),i h.2]
theorem alc:eO cH (es++ [(k,v)])=match eO cH es with
  |some a=>B a|none=>if k=cH then B v else none:=by
 induction es with
 |nil=>rfl
 |cons e es i=>
  obtain⟨n,a⟩:=e;show(if n=cH then B a else eO cH (es++ [(k,v)]))=match(if n=cH then B a else eO cH es)with
   |some a=>B a|none=>if k=cH then B v else aa
  by_cases h:n=cH
  ·rw[bC h,bC h]
  ·rw[a6 h,a6 h,i]
theorem ald:eO cH (es.map λ e=>if e.1=k then(e.1,v)else e)=if cH=k then(eO cH es).map λ u=>v else eO cH es:=by
 induction es with
 |nil=>split<;>rfl
 |cons e es i=>
  refine L lY ?_;by_cases W:e.1=k
  ·rw[bC W]
   show(if e.1=cH then B v else eO cH _)=if cH=k then(if e.1=cH then B e.2 else eO cH es).map _ else if e.1=cH then B e.2 else eO cH es
   rw[i];by_cases h:e.1=cH
   ·obtain this:=Y h.symm W
    rw[bC h,bC this,bC h];rfl
   ·obtain this:¬cH=k:=λ q=>h (Y W q.symm)
    rw[a6 h,a6 this,a6 this,a6 h]
  ·rw[a6 W]
   show(if e.1=cH then B e.2 else eO cH _)=if cH=k then(if e.1=cH then B e.2 else eO cH es).map _ else if e.1=cH then B e.2 else eO cH es
   rw[i];by_cases h:e.1=cH
   ·rw[bC h,a6 (λ q=>W (L h q)),bC h]
   ·rw[a6 h,a6 h]
theorem WZ(es:H (ai×V))(k K:ai)(v:V):eO K (fc es k v)=if K=k then B v else eO K es:=by
 unfold fc;cases h:es.any _ with
 |true=>
  rw[bC rfl,ald];by_cases q:K=k
  ·rw[bC q,bC q]
   obtain⟨a,e⟩:=(show∃a,eO k es=B a from by
     induction es with
     |nil=>exact bw h
     |cons e es i=>
      by_cases q:e.1=k
      ·exact⟨e.2,by dsimp only[eO];rw[bC q]⟩
      ·simp only[D6,l1 q]at h
       obtain⟨b,e⟩:=i h;exact⟨b,by dsimp only[eO];rw[a6 q,e]⟩)
   rw[q,e];rfl
  ·rw[a6 q,a6 q]
 |false=>
  rw[a6 hN,alc];by_cases q:K=k
  ·rw[bC q,q,HW h]
   exact Y (bC rfl) rfl
  ·rw[a6 q,a6 (λ e=>q e.symm)]
   cases eO K es<;>rfl
theorem ale(h:mD es=S)(k:ai)(v:V):mD (fc es k v)=true:=by
 unfold mD at h ⊢;rw[decide_eq_true_iff]at h ⊢;unfold fc;cases q:es.any _ with
 |true=>rw[bC rfl,keys_map];exact h
 |false=>
  rw[a6 hN,vP];refine rl.mpr ⟨h,by simp,?_⟩;intro a c b r e;obtain r:=by simpa using r
  subst r;obtain⟨p,u,rfl⟩:=iP.mp c;exact(apa.mp q p u) (by simpa using e)theorem alf(es:H (ai×V))(k:ai)(v:V):O (fc es k v)<=O es+1:=by unfold fc;split<;>simp
theorem alg(h:∀e∈es,fB e.2=S)(k:ai)(l:fB v=S):∀e∈fc es k v,fB e.2=true:=by
 unfold fc;intro e x;split at x
 ·refine av (iP.mp x) λ p u w=>ax w ?_
  split
  ·exact l
  ·exact h p u
 ·rcases bB.mp x with q|q
  ·exact h e q
  ·rw[ek.mp q];exact l
theorem alh{G:Prop}(h:fB v=S)(q:Aq v=B j):G:=by induction v with|d d=>exact nn q|aH i=>exact bw h
theorem yQ(h:∀e∈M,fB e.2=S)(n:J):bk n (.fY M)=true:=b9.mpr λ j x=>av (pL.mp x) λ e u q=>alh (h e u) q
theorem qZ(s:aF)(Bq Yq:H D)(h:∀e∈M,fB e.2=S)(xs:H D)(k:J)(Q:H D):bY (cC s Bq Yq M xs k Q):=by
 obtain f:=(yQ h);refine⟨by cases s<;>rfl,by cases s<;>rfl,?_⟩;cases s
 ·show(bk 8 t0&&(bk 8 t1&&(bk 8 _&&(bk 8 _&&(bk 8 _&&(bk 8 _&&(bk 8 _&&(bk 8 _&&S))))))))=S
  exact L (f ..) rfl
 ·show(bk 9 t0&&(bk 9 t1&&(bk 9 _&&(bk 9 _&&(bk 9 _&&(bk 9 _&&(bk 9 _&&(bk 9 _&&(bk 9 _&&S)))))))))=S
  exact L (f ..) rfl
def dY(i:J):bV:=match i with|0=>cx CY|1=>cx CR|2=>Wp|3=>pw|4=>C9|5=>JG|_=>vq
def W_(nm:D)(d:D):U Bool:=match d with|.aD [n,_]=>(lC n).bind λ l=>(lC nm).bind λ l'=>cp .NotEq l l'|_=>aa
theorem ali(nm:D)(xs:H D)(h:∀d∈xs,∃s p,d=.aD [s,p]):hs (d5 jE) (λ pr e=>(bJ (fl []) 29 (d5 jE) pr e).1) (λ pr e=>(bJ (fl []) 29 (d5 jE) pr e).2) (mV jE) (gb jE) (n2 (d5 jE) (yP nm)) xs=jB (W_ nm) B xs:=yE (c:=(gb jE).ifs.getD 0 jE) rfl xs λ d l=>(f5 (h d l) λ s p w=>L w ⟨[("pair",.aD [s,p]),("name",nm)],rfl,rfl,rfl⟩)theorem alj(fz:j<12)(e:Ent)(he:e.1<12):W_ (aK (c6 j)) (aP e)=B (d6 j e):=by show((lC _).bind λ l=>(lC _).bind λ l'=>cp .NotEq l l')=_;rw[bg Jx (a4.mpr he),bg Jx (a4.mpr fz)];exact bg (bg Wa (a4.mpr he)) (a4.mpr fz)
section
variable {K:J->bV}{cl t r x:D}{s:aF}{es:H Ent}{Yq Q xs:H D}{M:H (ai×V)}{k j:J}
theorem plain_at(dd:(s=aj->Yq=es.map aP)/\(s=S->Q=es.map aP)):((cC s (es.map aP) Yq M xs k Q:aE):H cj)[dR s]?=B (.ae (es.map aP)):=by
 cases s
 ·exact L (dd.1 rfl) rfl
 ·exact L (dd.2 rfl) rfl
theorem alk(Bq:H D):O (cC s Bq Yq M xs k Q:aE)=fU s:=by induction s<;>rfl
theorem Di(Bq P:H D):((cC s Bq Yq M xs k Q++ [.ae P]:aE):H cj)[fU s]?=B (.ae P):=by induction s<;>rfl
theorem JO(fz:j<12)(he:∀e∈es,e.1<12)(cL:O es<=50)(dd:(s=aj->Yq=es.map aP)/\(s=S->Q=es.map aP))(e0:∀e∈M,fB e.2=S):cB K 53 (dC (aK (c6 j)) t r x (cm (dR s) cl)) [s7 0] (cC s (es.map aP) Yq M xs k Q)=B (.ok (.next,eJ (B aa) (fU s) (dC (aK (c6 j)) t r x (cm (dR s) cl))),cC s (es.map aP) Yq M xs k Q++ [.ae (dX es j)]):=by
 obtain c:=C0 S
  (λ pr ρ s e=>(jz (qX K) 29 _ pr ρ s e).1) (λ pr ρ s e=>(jz (qX K) 29 _ pr ρ s e).2)
  (JN _) rfl (by lk) rfl (qZ s _ Yq e0 xs k Q) (first:=(eQ K 29 _ (gb jE).iter).1) (by lk) (plain_at dd) (by simp;lia)
  (Y (ali _ _ λ d h=>by refine av (iP.mp h) λ e u w=>?_;subst w;exact(bh _ _ rfl)) (Jy _ fz (alj fz) es he))
 dsimp only at c;simp[alk]at c;exact Y (i_0 ..) (Y (gc (af:=cC s _ Yq M xs k Q++ [.ae _]) (Y (aT c) rfl)) rfl)
theorem Xa(g:bY σ)(h:∀c∈cs,n8 c=S)(P:O cs<=5):(eQ K 30 (eJ (B aa) n (dC nm (aK cs) r x ρ)) (hK vr)).2 σ=B (.ok (!(cs.any eZ)),σ):=
 (jz (qX K) 30 d9 [("text",aK cs)] _ (Wz rfl) _).2 _ (ala h (by lia)) σ g
theorem JP(g:bY σ)(V:(bJ (fl []) 30 d9 (yP nm) (hK (dH 2))).2=B S)(h:cB K 53 (dC nm t r x ρ) (kS (dH 2)) σ=B (.ok (.next,ar),af)):cB K 54 (dC nm t r x ρ) [dH 2] σ=B (.ok (.next,ar),af):=Y (Ws ..) (Y (gc (af:=af) (Y (aT ((jz (qX K) 30 d9 _ _ (JN ρ) _).2 S V σ g)) h)) rfl)
section
variable (fz:j<12)(he:∀e∈es,e.1<12)(cL:es.length<=50)(dd:(s=aj->Yq=es.map aP)/\(s=S->Q=es.map aP))(e0:∀e∈M,fB e.2=S)
include fz he cL dd e0
theorem alm:cB K 54 (dC (aK (c6 j)) .none r x (cm (dR s) cl)) [dH 2] (cC s (es.map aP) Yq M xs k Q)=B (.ok (.next,eJ (B (B (.str qV))) (fU s) (dC (aK (c6 j)) .none r x (cm (dR s) cl))),cC s (es.map aP) Yq M xs k Q++ [.ae (dX es j)]):=JP (qZ s _ Yq e0 xs k Q) (bg JM (a4.mpr fz)) (L De.1 (Y (cR (JO fz he cL dd e0)) rfl))theorem aln(A:∀c∈cs,n8 c=S)(P:O cs<=5)(h:cs.any eZ=S):cB K 54 (dC (aK (c6 j)) (aK cs) r x (cm (dR s) cl)) [dH 2] (cC s (es.map aP) Yq M xs k Q)=B (.ok (.next,eJ (B aa) (fU s) (dC (aK (c6 j)) (aK cs) r x (cm (dR s) cl))),cC s (es.map aP) Yq M xs k Q++ [.ae (dX es j)]):=by refine JP (qZ s _ Yq e0 xs k Q) (bg JM (a4.mpr fz)) (L De.1 (Y (cR (JO fz he cL dd e0)) ?_));obtain c:=Xa ((qZ s _ Yq e0 xs k Q).push rfl rfl:bY (cC s _ Yq M xs k Q++ [.ae _])) A P;rw[h]at c;exact Y (Wt ..) (Y (gc (af:=cC s _ Yq M xs k Q++ [.ae _]) (Y (gc (af:=cC s _ Yq M xs k Q++ [.ae _]) (Y (aT c) rfl)) rfl)) rfl)
theorem alo(A:∀c∈cs,n8 c=S)(P:O cs<=5)(h:cs.any eZ=aj)(o:mD M=S)(p:O M<=1000):cB K 54 (dC (aK (c6 j)) (aK cs) r x (cm (dR s) cl)) [dH 2] (cC s (es.map aP) Yq M xs k Q)=B (.ok (.next,eJ (B (B (.str ""))) (fU s) (dC (aK (c6 j)) (aK cs) r x (cm (dR s) cl))),cC s (es.map aP) Yq (fc M (cN cs) (.d r)) xs k Q++ [.ae ((es.filter (d6 j)++ [(j,cs)]).map aP)]):=by
 refine JP (qZ s _ Yq e0 xs k Q) (bg JM (a4.mpr fz)) (L De.1 (Y (cR (JO fz he cL dd e0)) ?_));have c:=Xa (K:=K) (r:=r) (x:=x) (n:=fU s) (ρ:=cm (dR s) cl) (nm:=aK (c6 j)) ((qZ s _ Yq e0 xs k Q).push rfl rfl:bY (cC s (es.map aP) Yq M xs k Q++ [.ae (dX es j)])) A P;rw[h]at c;have X:qu (.aH 6) (.d (aK cs)) (.d r) (cC s (es.map aP) Yq M xs k Q++ [.ae (dX es j)])=B (.ok (),cC s (es.map aP) Yq (fc M (cN cs) (.d r)) xs k Q++ [.ae (dX es j)]):=by
  obtain this:qu (.aH 6) (.d (aK cs)) _ (cC s _ Yq M xs k Q++ [.ae _])=match mD M&&aZ _ 16777216 with|true=>B (.ok _,cC s _ Yq (fc M (cN cs) _) xs k Q++ [.ae _])|false=>none:=by induction s<;>rfl
  rw[this,o,dD (by omega)];rfl
 have e:cB K 50 (eJ (B aa) (fU s) (dC (aK (c6 j)) (aK cs) r x (cm (dR s) cl))) [yO 0] (cC s (es.map aP) Yq M xs k Q++ [.ae (dX es j)])=B (.ok (.next,eJ (B (B (.str ""))) (fU s) (dC (aK (c6 j)) (aK cs) r x (cm (dR s) cl))),cC s (es.map aP) Yq (fc M (cN cs) (.d r)) xs k Q++ [.ae (dX es j)]):=by exact Y (gc (ρ:=eJ (B (B (.str ""))) (fU s) (dC (aK (c6 j)) (aK cs) r x (cm (dR s) cl))) (af:=cC s (es.map aP) Yq (fc M (cN cs) (.d r)) xs k Q++ [.ae (dX es j)]) (Y (aT ((aT ((aT X).trans rfl)).trans rfl)) rfl)) rfl
 obtain a:=Wx (Di (es.map aP) (dX es j)) (by have:=Ey (d6 j) es;simp;omega);obtain m:(cC s (es.map aP) Yq (fc M (cN cs) (.d r)) xs k Q++ [.ae (dX es j)]:aE).set (fU s) (.ae (dX es j++ [.aD [aK (c6 j),aK cs]]))=cC s (es.map aP) Yq (fc M (cN cs) (.d r)) xs k Q++ [.ae ((es.filter (d6 j)++ [(j,cs)]).map aP)]:=by refine L vP ?_;induction s<;>rfl
 rw[m]at a;have E:cB K 49 (eJ (B (B (.str ""))) (fU s) (dC (aK (c6 j)) (aK cs) r x (cm (dR s) cl))) [yO 1] (cC s (es.map aP) Yq (fc M (cN cs) (.d r)) xs k Q++ [.ae (dX es j)])=B (.ok (.next,eJ (B (B (.str ""))) (fU s) (dC (aK (c6 j)) (aK cs) r x (cm (dR s) cl))),cC s (es.map aP) Yq (fc M (cN cs) (.d r)) xs k Q++ [.ae ((es.filter (d6 j)++ [(j,cs)]).map aP)]):=by exact L (j_1 ..) (Y (gc (ρ:=eJ (B (B (.str ""))) (fU s) (dC (aK (c6 j)) (aK cs) r x (cm (dR s) cl))) (af:=cC s (es.map aP) Yq (fc M (cN cs) (.d r)) xs k Q++ [.ae ((es.filter (d6 j)++ [(j,cs)]).map aP)]) ((aT a).trans rfl)) rfl)
 refine Y (Wt ..) (Y (gc (ρ:=eJ (B (B (.str ""))) (fU s) (dC (aK (c6 j)) (aK cs) r x (cm (dR s) cl))) (af:=cC s (es.map aP) Yq (fc M (cN cs) (.d r)) xs k Q++ [.ae ((es.filter (d6 j)++ [(j,cs)]).map aP)]) ((gc (ρ:=eJ (B (B (.str ""))) (fU s) (dC (aK (c6 j)) (aK cs) r x (cm (dR s) cl))) (af:=cC s (es.map aP) Yq (fc M (cN cs) (.d r)) xs k Q++ [.ae ((es.filter (d6 j)++ [(j,cs)]).map aP)]) ((aT c).trans ?_)).trans rfl)) rfl);exact L (De.2 ..) (Y (cR e) E)
end
end
noncomputable def Xb(a b:J):H Nat:=(([97,66,67,65,98,99].drop a).take 1)++(([9,0,31,127,32].drop b).take 1)noncomputable def Xc(a b:J):Nat:=match aL b 4 with|true=>a+6|false=>a
theorem alp:((aw 6).all λ a=>(aw 12).all λ b=>match bE b 4 with
  |true=>sW (Xb a b) (pv a b)|false=>sW (Xb a b) (c6 (Xc a b))&&bE (Xc a b) 12)=true:=rfl
theorem alq(c:a<6)(r:b<12):(b<4/\vm a b=aK (pv a b))\/∃j,j<12/\vm a b=aK (c6 j):=by
 obtain h:=b9.mp (b9.mp alp a (a4.mpr c)) b (a4.mpr r);refine dO (bE b 4) (λ q=>?_) λ q=>?_
 ·
  rw[q]at h;exact .inl ⟨cg.mp q,aM aK (vn h)⟩
 ·
  rw[q]at h;exact cq (bF.mp h) λ W k=>.inr ⟨_,cg.mp k,aM aK (vn W)⟩theorem Xd(h:∀e∈M,fB e.2=S)(Bq:H D)(ext:aE):((cC s Bq Yq M xs k Q++ext:aE).take 8).all (bk 8)=true:=by show(bk 8 t0&&(bk 8 t1&&(bk 8 _&&(bk 8 _&&(bk 8 _&&(bk 8 _&&(bk 8 _&&(bk 8 _&&S))))))))=S;rw[yQ h];rfl
theorem alr(h:∀e∈M,fB e.2=S)(Bq v:H D)(i n:J)(e:U D):fP (cm 3 cl) 8 (gV i e aa n nm t r x (dR s) cl) (cC s Bq Yq M xs k Q++ [.ae v])=B (cm (dR s) cl,cC s Bq Yq M xs k Q):=by unfold fP;rw[Xd h];induction e<;>induction s<;>lk
theorem JQ(h:∀e∈M,fB e.2=S)(Bq v:H D)(i:J)(e d:U D):fP (cm 3 cl) 8 (gV i e (B d) (fU s) nm t r x (dR s) cl) (cC s Bq Yq M xs k Q++ [.ae P]++ [.ae v])=B (cm 8 cl,cC S Bq Yq M xs k P):=by unfold fP;refine L (eb ..) ?_;rw[Xd h];induction e<;>induction d<;>induction s<;>lk
theorem Dj(Bq:H D)(h:∀e∈M,fB e.2=S)(P:H D):bY (cC s Bq Yq M xs k Q++ [.ae P]):=(qZ s Bq Yq h xs k Q).push rfl rfl
noncomputable def JR(s:aF)(Q:H D):aE:=match s with|false=>[]|true=>[.ae Q]theorem s8(Bq:H D)(ext:aE):cC s Bq Yq M xs k Q++ext=b7 Bq (.ae Yq) (.fY M:: .it (.list xs k)::(JR s Q++ext)):=by induction s<;>rfl
theorem Dk{ext:aE}(h:es.length<=50)(g:bY (cC s (es.map aP) Yq M xs k Q++ext)):dY 4 [.aH 5] [] (cC s (es.map aP) Yq M xs k Q++ext)=B (.ok (.aH (O (cC s (es.map aP) Yq M xs k Q++ext))),(cC s (es.map aP) Yq M xs k Q++ext)++ [.ae (vals es)]):=
 by exact Wn (by lia) g
theorem als(a:U (U D)){ext:aE}(h:pw [.aH 5,.d nm,.d t] [] (cC s Bq Yq M xs k Q++ext)=B (.ok (.d .none),cC s B' Yq M xs k Q++ext)):cB dY 53 (eJ a n (dC nm t r x (cm (dR s) cl))) [dH 3] (cC s Bq Yq M xs k Q++ext)=B (.ok (.next,qW aa a n nm t r x (dR s) cl),cC s B' Yq M xs k Q++ext):=by
 refine Y (Wu ..) (Y (gc (af:=cC s B' Yq M xs k Q++ext) ?_) rfl);unfold qo;obtain q:((((dY 3 [.aH 5,.d nm,.d t] []).bind λ u=>(.ret _:Ev gL)).bind λ u=>(.ret _)).bind λ ar=>(.ret _:cy)) _=B _:=
  Y (aT (Y (aT (Y (aT h) rfl)) rfl)) rfl
 exact L q rfl
theorem JS(a:U (U D)){ext:aE}(h:pw [.aH 5,.d nm,.d t] [] (cC s Bq Yq M xs k Q++ext)=B (.exc c as,cC s B' Yq M xs k Q++ext))
  (f:∀σ,uO (qn ee d9 (λ ρ body=>b4 fj fj 30 d9 52 ρ body) c as (vt (dH 3)) (eJ a n (dC nm t r x (cm (dR s) cl)))) σ=B (.ok (.next,Dd (B told) (eJ a n (dC nm t r x (cm (dR s) cl)))),σ)):cB dY 53 (eJ a n (dC nm t r x (cm (dR s) cl))) [dH 3] (cC s Bq Yq M xs k Q++ext)=B (.ok (.next,qW (B told) a n nm t r x (dR s) cl),cC s B' Yq M xs k Q++ext):=by
 refine Y (Wu ..) (Y (gc (af:=cC s B' Yq M xs k Q++ext) ?_) rfl);unfold qo;obtain q:=
  jk (jk (jk h))
 exact L q (f _)
theorem Dl(k:dY 0 [.d x,.d eI] [] σ=B (.ok (.d (.aD [nm,t,r])),σ))
  (j:cB dY 54 (dC nm t r x (cm (dR s) cl)) [dH 2] σ=B (.ok (.next,eJ a n (dC nm t r x (cm (dR s) cl))),G))(y:cB dY 53 (eJ a n (dC nm t r x (cm (dR s) cl))) [dH 3] G=B (.ok (.next,qW e a n nm t r x (dR s) cl),E))
  (I:cB dY 52 (qW e a n nm t r x (dR s) cl) [dH 4,dH 5,dH 6] E=B (.ok (.next,h),p)):cB dY 56 (("x",.d x)::cm (dR s) cl) (f9 (cO 3)) σ=B (.ok (.next,h),p):=L (show f9 _=[dH 0,dH 1,dH 2,dH 3,dH 4,dH 5,dH 6]from rfl) (Y (cR (ak5 k)) (Y (cR rfl) (Y (cR j) (Y (cR y) I))))def JT(r:H J):Prop:=∃o p sp m,o<6/\p<2/\sp<4/\m<24/\(dV m).any eZ=aj/\r=ig (dW o p) (dV m) sp
def Xe(M:H (ai×V))(cs:H J):Prop:=∃r,JT r/\ih cs=B r/\2<=O cs/\O cs<=5/\eO (cN cs) M=B (.d (aK r))noncomputable def yR:H Nat:=[102,108,105]noncomputable def jF:H Ent:=[(3,[108,105,102]),(4,[73,70,76]),(2,[102,105,108]),(0,[105,108,102])]def q2:H (ai×V):=[(cN [108,105,102],.d (aK [108,105,102])),(cN [73,70,76],.d (aK [105,102,108])),(cN [102,105,108],.d (aK [102,105,108])),(cN [105,108,102],.d (aK [105,108,102])),(cN [102,108,105],.d (aK [102,108,105]))]
structure pz(c:J)(s:aF)(es:H Ent)(M:H (ai×V))(Yq Q:H D):Prop where
 he:∀e∈es,e.1<12
 cL:es.length<=c
 dd:(s=aj->Yq=es.map aP)/\(s=S->Q=es.map aP)
 e0:∀e∈M,fB e.2=S
 hk:mD M=S
 hm:M.length<=c+1
 da:5<=M.length
 fy:s=aj->es=jF/\M=q2
 fZ:∀cs,(cs=yR\/∃e∈es,e.2=cs)->Xe M cs
theorem alu(es:H (ai×V))(k:ai)(v:V):O es<=O (fc es k v):=by unfold fc;split<;>simp
theorem alv(h:cN a=cN b):a=b:=by have:(cN a).cps.toList=(cN b).cps.toList:=ax h rfl;exact this
theorem alw:(bq (aw 6) λ o=>bq (aw 2) λ p=>bq (aw 46) λ m=>bq (aw 4) λ sp=>aZ (O (ig (dW o p) (dV m) sp)) 1000)=br (aw 6) λ u=>br (aw 2) λ u=>br (aw 46) λ u=>br (aw 4) λ u=>true:=rfl
theorem JU(h:o<6)(u:p<2)(e:m<46)(b:sp<4):O (ig (dW o p) (dV m) sp)<=1000:=b8 (bg (bg (bg (bg alw (a4.mpr h)) (a4.mpr u)) (a4.mpr e)) (a4.mpr b))theorem Dm(g:bY σ):sH σ=true:=by unfold sH;simp only[g.1,g.2.1,g.2.2];rfl
theorem alx(I:pz c s es M Yq Q)(nE:c<=20)(x:J){G:Prop}(K:∀s' nF Xf xR Xg Xh,pz (c+1) s' nF Xf Yq xR->cB dY 56 (("x",.d (.int (x:J)))::cm (dR s) cl) (f9 (cO 3)) (cC s (es.map aP) Yq M xs k Q)=B (.ok (.next,Xg),Xh)->fP (cm 3 cl) 8 Xg Xh=B (cm (dR s') cl,cC s' (nF.map aP) Yq Xf xs k xR)->G):G:=by
 refine VP x λ a b P o p st sp m T V C hf hy cv hn0 dw hp fZ dd hm lz fs gB=>?_;have fy:∀z∈[T,V,C],z<40:=by intro z fy;simp only[dM,dS,jO]at fy;rcases fy with rfl|rfl|rfl<;>assumption
 have g:=qZ s (es.map aP) Yq I.e0 xs k Q;have AU:CY [.int x,eI]=B (sU a b P o p st sp m [T,V,C]):=by show a8 (CW eI) (CX x)=_;unfold CX;rw[(show CW eI=S from by lk),hf];rfl
 obtain⟨x6,uT⟩:=VN m;have Cn:ih (iJ _ _ sp st)=B (ig _ (dV m) sp):=akz dw hp fy rfl;have w:=akB (st:=st) (sp:=sp) (m:=m) (zs:=[T,V,C]) dw hp rfl;have aly:=akC (st:=st) (sp:=sp) (m:=m) dw hp fy;have Xi:=alb (st:=st) (sp:=sp) (m:=m) dw hp fy;have hrl:=JU dw hp hm dd;generalize d1:ig _ _ sp=R at*;have l:=sI AU (Dm g);generalize hcs:iJ _ _ sp st=cs at*;have jo:sU a b P o p st sp m [T,V,C]=.aD [vm a b,match aL P 0 with|true=>.none|false=>aK cs,aK R]:=by unfold sU;rw[hcs,d1];try rfl
 rw[jo]at l;generalize A:(match aL P 0 with|true=>D.none|false=>aK cs)=t at*;have cZ:t=.none\/∃cs rl',t=aK cs/\aK R=aK rl'/\∀σ,bY σ->dY 1 [.d (aK cs)] [] σ=B (.ok (.d (aK R)),σ):=by cases q:aL P 0 with|true=>rw[q]at A;exact .inl A.symm|false=>rw[q]at A;exact .inr ⟨cs,R,A.symm,rfl,λ σ g=>sI (VZ Cn hrl w.1 w.2) (Dm g)⟩
 rcases alq hy cv with⟨Xj,X⟩|⟨j,y,X⟩
 ·rw[X]at l
  refine K s es M Q _ _ ⟨I.he,ip I.cL,I.dd,I.e0,I.hk,ip I.hm,I.da,I.fy,I.fZ⟩ (Dl l (ak7 hy Xj g) ?_ (Dh (n:=0) (e:=B (.str s6)) (by have:=I.cL;lia) (ea _).symm g (λ u u=>(by lk) ..) (plain_at I.dd) ?_ cZ)) (alr I.e0 _ _ _ _ _)
  ·have q:=JS (t:=t) (r:=aK R) (x:=.int x) (cl:=cl) (Yq:=Yq) (M:=M) (xs:=xs) (k:=k) (Q:=Q) aa (n:=0) (Bq:=es.map aP) (B':=es.map aP) (ext:=[]) (c:="ValueError") (as:=[.str kT]) (told:=.str s6) (by
    refine L (s8 ..) ?_;exact akP hy Xj t (ax (s8 ..) (L (ea ..) g))) (λ σ=>Wv (dR s) cl (.int x) (aK (pv a b)) t (aK R) σ aa 0)
   rw[ea]at q;exact q
  ·have q:=Dk (s:=s) (es:=es) (Yq:=Yq) (M:=M) (xs:=xs) (k:=k) (Q:=Q) (ext:=[]) (by have:=I.cL;lia) (by rw[ea];exact g)
   rw[ea]at q;exact q
 ·rw[X]at l
  have apv:O es<=20:=by have:=I.cL;lia
  have F:O es<=50:=by lia
  have hl2:=Ey (d6 j) es;have Xk:∀e∈es.filter (d6 j),e.1<12:=λ e h=>I.he e (Ew.mp h).1;have Xl:bY (cC s (es.map aP) Yq M xs k Q++ [.ae (dX es j)]):=Dj _ I.e0 _;have f:bY (cC s (dX es j) Yq M xs k Q++ [.ae (dX es j)]):=Dj _ I.e0 _;have eF:pz (c+1) S (es.filter (d6 j)) M Yq (dX es j):=.mk Xk (by have:=I.cL;lia) ⟨(λ h=>by cases h),λ u=>rfl⟩ I.e0 I.hk (ip I.hm) I.da (λ h=>by cases h) (λ cs h=>I.fZ cs (h.imp_right λ⟨e,W,E⟩=>⟨e,(Ew.mp W).1,E⟩));cases q:aL P 0 with
  |true=>rw[q]at A;subst A;refine K S (es.filter (d6 j)) M (dX es j) _ _ eF (Dl l (a:=B (B (.str qV))) (n:=fU s) (alm y I.he F I.dd I.e0) (e:=B (.str qV)) (JS (B (B (.str qV))) (c:="AssertionError") (as:=[.str uV]) (told:=.str qV) ?_ (λ σ=>h_a ..)) (Dh (ext:=[.ae (dX es j)]) (a:=B (B (.str qV))) (n:=fU s) (e:=B (.str qV)) (by lia) rfl f (λ u u=>(by lk) ..) (Di ..) (Dk (by lia) f) cZ)) (JQ I.e0 _ _ _ _ _);exact Wk y I.he (by lia) (ax (s8 ..) Xl) (akE aj (ax (s8 ..) f))
  |false=>
   rw[q]at A;subst A;cases N:cs.any eZ with
   |true=>refine K S (es.filter (d6 j)) M (dX es j) _ _ eF (Dl l (a:=B aa) (n:=fU s) (aln y I.he F I.dd I.e0 Xi w.2 N) (e:=B (.str s6)) (JS (B aa) (c:="ValueError") (as:=[.str kT]) (told:=.str s6) ?_ (λ σ=>Wv ..)) (Dh (ext:=[.ae (dX es j)]) (a:=B aa) (n:=fU s) (e:=B (.str s6)) (by lia) rfl f (λ u u=>(by lk) ..) (Di ..) (Dk (by lia) f) cZ)) (JQ I.e0 _ _ _ _ _);exact Wk y I.he (by lia) (ax (s8 ..) Xl) (Jw aj (s:=cN cs) (ax (s8 ..) f) (show cs.toArray.size<=1000000 by simp;lia) N)
   |false=>
    have i:=alg I.e0 (cN cs) (v:=.d (aK R)) rfl;have Xm:bY (cC s ((es.filter (d6 j)++ [(j,cs)]).map aP) Yq (fc M (cN cs) (.d (aK R))) xs k Q++ [.ae ((es.filter (d6 j)++ [(j,cs)]).map aP)]):=Dj _ i _;have hlA:O (es.filter (d6 j)++ [(j,cs)])<=O es+1:=by rw[e2];show _+1<=_;lia
    have fO:pz (c+1) S (es.filter (d6 j)++ [(j,cs)]) (fc M (cN cs) (.d (aK R))) Yq ((es.filter (d6 j)++ [(j,cs)]).map aP):=by
     refine .mk (λ e h=>?_) (by have:=I.cL;lia) ⟨(λ h=>by cases h),λ u=>rfl⟩ i (ale I.hk _ _) (bA (alf ..) (Ex I.hm)) (bA I.da (alu ..)) (λ h=>by cases h) (λ ds h=>?_)
     ·rcases bB.mp h with h|h
      ·exact Xk e h
      ·rw[ek.mp h];exact y
     ·by_cases hd:ds=cs
      ·refine L hd ?_
       exact⟨R,(⟨o,p,sp,CU m,dw,hp,dd,uT,(ax x6 (ax aly (L N rfl))),(ax x6 (L d1 rfl))⟩),Cn,w.1,w.2,L (WZ ..) (L (bC rfl) rfl)⟩
      ·have h:ds=yR\/∃e∈es,e.2=ds:=by
        rcases h with h|⟨e,W,E⟩
        ·exact .inl h
        ·rcases bB.mp W with W|W
         ·exact .inr ⟨e,(Ew.mp W).1,E⟩
         ·rw[ek.mp W]at E
          exact aS E.symm hd
       exact t7 (I.fZ ds h) λ p8 W E fw ei kG=>⟨p8,W,E,fw,ei,L (WZ ..) (L (a6 λ q=>hd (alv q)) (L kG rfl))⟩
    refine K S (es.filter (d6 j)++ [(j,cs)]) (fc M (cN cs) (.d (aK R))) ((es.filter (d6 j)++ [(j,cs)]).map aP) _ _ fO (Dl l (a:=B (B (.str ""))) (n:=fU s) (alo y I.he F I.dd I.e0 Xi w.2 N I.hk (by have:=I.hm;lia)) (e:=aa) (als (B (B (.str ""))) ?_) (Dh (ext:=[.ae ((es.filter (d6 j)++ [(j,cs)]).map aP)]) (a:=B (B (.str ""))) (n:=fU s) (e:=aa) (by lia) rfl Xm (λ u u=>(by lk) ..) (Di ..) (Dk (by lia) Xm) cZ)) (JQ i _ _ _ _ _);exact akO y I.he (by lia) (ax (s8 ..) (Dj _ i _)) N (by lia)theorem alz(K:J->bV)(ρ:az)(σ:aE):cB K 57 ρ [cO 3] σ=b5 (sg d9 1000 (iG (cO 3)) (n6 (cO 3)) (eQ K 30 ρ (n6 (cO 3))).1 (λ ρ=>cB K 56 ρ (f9 (cO 3))) ρ) (λ ar=>cB K 56 ar []) σ:=rfl
def JV(s:aF)(Bq Yq:H D)(M:H (ai×V))(Q:H D):aE:=b7 Bq (.ae Yq) (.fY M:: .cX::JR s Q)def n9(s:aF)(Bq Yq:H D)(M:H (ai×V))(Q:H D):aE:=b7 Bq (.ae Yq) (.fY M::JR s Q)noncomputable def JW(s:aF):Nat:=match s with|false=>3|true=>7
theorem alA(K:∀e∈M,fB e.2=S):j5 (cm 3 cl) 7 (B (.ok (.next,cm (dR s) cl),JV s Bq Yq M Q))=B (.ok (.next,cm (JW s) cl),n9 s Bq Yq M Q):=by
 obtain h:((JV s Bq Yq M Q).take 7).all _=true:=by show(bk 7 t0&&(bk 7 t1&&(bk 7 _&&(bk 7 _&&(bk 7 _&&(bk 7 _&&(bk 7 _&&S)))))))=S;rw[yQ K];rfl
 obtain e:fP _ 7 _ _=B (cm _ cl,n9 s Bq Yq M Q):=by unfold fP;refine L h ?_;induction s<;>lk
 unfold j5;dsimp only;exact L e rfl
theorem alB(n:J):∀(k c:J)(s:aF)(es:H Ent)(M:H (ai×V))(Q:H D)(N:J),pz c s es M Yq Q->n+k=cells.length->c+n<=20->n<N->∀{G:Prop},(∀s' e p q,pz (c+n) s' e p Yq q->gR d9 (iG (cO 3)) (λ ρ=>cB dY 56 ρ (f9 (cO 3))) 7 (cm 3 cl) 8 N (cm (dR s) cl) (cC s (es.map aP) Yq M (bb cells) k Q)=B (.ok (.next,cm (dR s') cl),JV s' (e.map aP) Yq p q)->G)->G:=by
 induction n with
 |zero=>
  intro k c s es M Q N I o u R G K;obtain⟨N,rfl⟩:∃m,N=m+1:=⟨N-1,((apc R).mp rfl)⟩;apply K s es M Q I;obtain a:O (bb cells)=O cells:=gg ..;obtain h:(bb cells)[k]?=none:=List.getElem?_eq_none (by rw[a];lia);exact QJ ((by
    show(B _).map _=_;refine L h ?_;induction s<;>rfl))
 |succ n i=>
  intro k c s es M Q N I o A R G K;obtain⟨N,rfl⟩:∃m,N=m+1:=⟨N-1,by lia⟩;have W:k<O cells:=by lia
  obtain h:(bb cells)[k]?=B _:=by unfold bb;rw[Et,tD W];rfl
  exact alx (k:=k+1) I (ao6 A) cells[k] λ s1 E v w r x y T f=>i _ _ s1 E v w N y (by lia) (by lia) (Nat.succ_lt_succ_iff.mp R) λ s' e p q F b=>K s' e p q (L (show c+(n+1)=c+1+n by exact oj (zf c n)) F) (Y (BA ((by
    show(B _).map _=_;refine L h ?_;induction s<;>rfl)) (by
      induction s<;>lk) rfl T f) b)noncomputable def upN(l:H J):H Nat:=l.map (· - 32)def Dn(i:J):H Nat:=match aL (i% 2) 0 with|true=>qK i|false=>upN (qK i)def i7:H D:=(aw 6).map λ i=>.aD [aK (Dn i),cA (48+i)]def c_(Bq Yq:H D)(M:H (ai×V))(Q V:H D):aE:=b7 Bq (.ae Yq) [.fY M,.ae Q,.fld [("_headers",.aH 10)],.inst 319 8,.ae i7,.ae V]theorem vv(Bq Yq Q W:H D)(h:∀e∈M,fB e.2=S):bY (c_ Bq Yq M Q W):=by refine⟨rfl,rfl,?_⟩;show(bk 12 t0&&(bk 12 t1&&(bk 12 _&&(bk 12 _&&(bk 12 _&&(bk 12 _&&(bk 12 _&&(bk 12 _&&(bk 12 _&&(bk 12 _&&(bk 12 _&&(bk 12 _&&S))))))))))))=S;rw[yQ h];rfl
def e6(k:J):Stmt:=(bP i6).getD k (.Pass ew)abbrev s9(C:bV):Cfg:=eG (d4 [(nV,C)])abbrev gW(C:bV):=b4 (s9 C) fj 30 (bz i6)noncomputable def q3(nm df:D):az:=[("default",.d df),("name",.d nm),("self",.aH 9)]def gI(s nm df:D):az:=("name",.d s)::q3 nm df
def n_(s:ai)(bS:J)(cG:J):U Nat:=bS.rec (motive:=λ u=>J->U J) (λ u=>aa) (λ n dF i=>match cN (qK i)==s with
  |true=>B i|false=>dF (i+1)) cG
abbrev Dp(C:bV)(ρ:az)(e:aJ):=(ba (s9 C) 29 (bz i6) ρ e).1
def vw(e:aJ):H PySem.Expr:=(fI e).es.tail
section
variable (C:bV)(Bq Yq Q W:H D)(M:H (ai×V))(nm df:D)(s:ai)theorem g_0:gW C 60 (q3 nm df) [e6 0] (c_ Bq Yq M Q W)=(b5 ((ju C [.aH 9] [Dp C (q3 nm df) ((vw (sY (e6 0))).getD 0 (.Name "" ew))] ["name"] [.ret (.d (.bool S))]).bind λ v=>.ret (.next,("name",v)::q3 nm df)) λ ar=>gW C 59 ar []) (c_ Bq Yq M Q W):=rfl
theorem alC(ρ:az)(σ:aE):gW C 59 ρ [e6 1] σ=b5 (sg (bz i6) 1000 (iG (e6 1)) (n6 (e6 1)) (ba (s9 C) 30 (bz i6) ρ (n6 (e6 1))).1 (λ ρ=>gW C 58 ρ (f9 (e6 1))) ρ) (λ ar=>gW C 58 ar []) σ:=rfl
theorem alD:((ba (s9 C) 30 (bz i6) (gI (.str s) nm df) (n6 (e6 1))).1.bind g8) (c_ Bq Yq M Q W)=B (.ok (.aH 12),c_ Bq Yq M Q W++ [.it (.e3 10 0)]):=rfl
theorem alE:bq (aw 6) (λ i=>gH 12 (c_ Bq Yq M Q W++ [.it (.e3 10 i)]))=br (aw 6) λ i=>B (B (.aD [aK (Dn i),cA (48+i)]),c_ Bq Yq M Q W++ [.it (.e3 10 (i+1))]):=rfl
def q4(i:J)(s nm df:D):az:=("v",.d (cA (48+i)))::("k",.d (aK (Dn i)))::gI s nm df
theorem Xn(i:J):lq (bz i6) (iG (e6 1)) (.aD [aK (Dn i),cA (48+i)]) (gI (.str s) nm df)=B (q4 i (.str s) nm df):=rfl
def Dq:Stmt:=(f9 (e6 1)).getD 0 (.Pass ew)theorem alF(σ:aE):bq (aw 6) (λ i=>(ba (s9 C) 30 (bz i6) (q4 i (.str s) nm df) (hK Dq)).2 σ)=br (aw 6) λ i=>B (.ok (cN (qK i)==s),σ):=rfl
theorem Xo(ρ:az)(σ:aE):gW C 58 ρ (f9 (e6 1)) σ=b5 (fL (ba (s9 C) 30 (bz i6) ρ (hK Dq)).2 (gW C 57 ρ (kS Dq)) (gW C 57 ρ [])) (λ ar=>gW C 57 ar []) σ:=rfl
theorem alG(i:J)(σ:aE):gW C 57 (q4 i (.str s) nm df) (kS Dq) σ=B (.ok (.ret (.d (cA (48+i))),q4 i (.str s) nm df),σ):=rfl
theorem alH(h:∀e∈M,fB e.2=S)(i j:J)(n:D):fP (gI (.str s) nm df) 13 (q4 i (.str s) n df) (c_ Bq Yq M Q W++ [.it (.e3 10 j)])=B (gI (.str s) (.str s) df,c_ Bq Yq M Q W++ [.it (.e3 10 j)]):=by unfold fP;refine L (((vv Bq Yq Q W h).push rfl rfl).2.2) ?_;lk
theorem alI(h:∀e∈M,fB e.2=S)(n:D):j5 (gI (.str s) nm df) 12 (B (.ok (.next,gI (.str s) n df),c_ Bq Yq M Q W++ [.cX]))=B (.ok (.next,gI (.str s) (.str s) df),c_ Bq Yq M Q W):=by
 have e:((c_ Bq Yq M Q W++ [.cX]:aE).take 12).all _=true:=(vv Bq Yq Q W h).2.2;obtain q:fP _ 12 _ _=B (gI _ _ df,c_ Bq Yq M Q W):=by unfold fP;refine L e ?_;lk
 unfold j5;dsimp only;exact L q rfl
theorem alJ(σ:aE):gW C 58 (gI (.str s) nm df) [e6 2] σ=B (.ok (.ret (.d df),gI (.str s) nm df),σ):=rfl
theorem Xp(h:∀e∈M,fB e.2=S):∀(n i N:J)(o:D),n+i=6->n<N->∃(ar:az)(m:cj)(K:D),gR (bz i6) (iG (e6 1)) (λ ρ=>gW C 58 ρ (f9 (e6 1))) 12 (gI (.str s) nm df) 13 N (gI (.str s) o df) (c_ Bq Yq M Q W++ [.it (.e3 10 i)])=match n_ s n i with
  |some k=>B (.ok (.ret (.d (cA (48+k))),ar),c_ Bq Yq M Q W++ [m])|none=>B (.ok (.next,gI (.str s) K df),c_ Bq Yq M Q W++ [.cX])
 |0,i,N,o,v,R=>by
  obtain⟨N,rfl⟩:∃m,N=m+1:=⟨N-1,by lia⟩;obtain rfl:i=6:=by lia
  exact(e_ ([]) .cX o (L (QJ rfl) rfl))
 |n+1,i,N,o,v,R=>by
  obtain⟨N,rfl⟩:∃m,N=m+1:=⟨N-1,by lia⟩;obtain c:i<6:=by lia
  obtain t:=bg (alF C o df s _) (a4.mpr c);obtain u:=bg (alE Bq Yq Q W M) (a4.mpr c);cases q:cN _==s with
  |true=>
   rw[q]at t;obtain b:gW C 58 _ _ _=B (.ok _,c_ Bq Yq M Q W++ [.it (.e3 10 (i+1))]):=by exact L (Xo ..) (yN (Y (aT t) (alG ..)))
   refine(e_ (q4 i (.str s) o df) (.it (.e3 10 (i+1))) o (Y (QK u rfl (Xn ..) b) ?_));obtain E:n_ s (n+1) i=B i:=by show(match cN _==s with|true=>B i|false=>n_ s n _)=_;exact L q rfl
   rw[E];try rfl
  |false=>
   rw[q]at t;have b:gW C 58 (q4 i (.str s) o df) (f9 (e6 1)) (c_ Bq Yq M Q W++ [.it (.e3 10 (i+1))])=B (.ok (.next,q4 i (.str s) o df),c_ Bq Yq M Q W++ [.it (.e3 10 (i+1))]):=by exact L (Xo ..) (Y (gc (af:=c_ Bq Yq M Q W++ [.it _]) (Y (aT t) rfl)) rfl)
   refine me (Xp h n (i+1) N (.str s) (by lia) (by lia)) λ ar m K r=>((e_ ar m K ?_));have E:n_ s (n+1) i=n_ s n (i+1):=by show(match cN (qK i)==s with|true=>B i|false=>n_ s n (i+1))=_;exact L q rfl
   exact L (E ..) (Y (BA u rfl (Xn o df s i) b (alH Bq Yq Q W M nm df s h i (i+1) o)) r)
end
theorem Xq:bP i6=[e6 0,e6 1,e6 2]:=rfl
theorem alK(h:∀e∈M,fB e.2=S)(b:lC (.str z)=B (.str s))(c:s.cps.size<=1000000)(A:s.cps.toList.any nT=aj):vq [.aH 9,.d (.str z),.d df] [] (c_ Bq Yq M Q W)=B (.ok (.d (match n_ s 6 0 with|some k=>cA (48+k)|none=>df)),c_ Bq Yq M Q W):=by
 obtain g:=vv Bq Yq Q W h;obtain N:gW du 60 (q3 _ df) [e6 0] (c_ Bq Yq M Q W)=B (.ok (.next,gI _ _ df),c_ Bq Yq M Q W):=by
  refine Y (gc (af:=c_ Bq Yq M Q W) ?_) rfl;obtain a:Dp du (q3 (.str z) df) ((vw (sY (e6 0))).getD 0 _) _=B _:=by show Ev.ofD _ _=_;exact L b rfl
  obtain q:ju du [.aH 9] [Dp du _ ((vw _).getD 0 (.Name "" ew))] ["name"] [.ret _] (c_ Bq Yq M Q W)=B _:=by obtain E:=Y (aT a) rfl;exact Y (aT E) (C5 S g c A)
  exact Y (aT q) rfl
 refine me (Xp du Bq Yq Q W M (.str z) df s h 6 0 1000 (.str z) (K7 5 0) (Zs rfl)) λ ar m n r=>?_;obtain f:=QM (body:=λ ρ=>gW du 58 ρ _) (by lk) (alD du Bq Yq Q W M _ df s);obtain F:∃j i,gW du 60 _ _ _=B (.ok (.ret (.d (match n_ s 6 0 with|some k=>cA (48+k)|none=>df)),j),i)/\i.take 12=c_ Bq Yq M Q W:=by
  have f:sg _ 1000 _ (n6 (e6 1)) (ba (s9 du) 30 (bz i6) (gI (.str s) (.str z) df) (n6 (e6 1))).1 (λ ρ=>gW du 58 ρ (f9 (e6 1))) (gI (.str s) (.str z) df) (c_ Bq Yq M Q W)=j5 (gI (.str s) (.str z) df) 12 (gR (bz i6) (iG (e6 1)) (λ ρ=>gW du 58 ρ (f9 (e6 1))) 12 (gI (.str s) (.str z) df) 13 1000 (gI (.str s) (.str z) df) (c_ Bq Yq M Q W++ [.it (.e3 10 0)])):=f;rw[r]at f;refine L Xq ?_;cases q:n_ s 6 0 with
  |some k=>
   rw[q]at f;obtain E:gW du 59 (gI (.str s) (.str z) df) [e6 1,e6 2] (c_ Bq Yq M Q W)=B (.ok (.ret (.d (cA (48+k))),ar),c_ Bq Yq M Q W++ [m]):=by exact Iq (Y (alC ..) (yN (Y f rfl)))
   exact(bh ar _ ⟨Y (cR N) E,rfl⟩)
  |none=>
   rw[q]at f;simp[alI Bq Yq Q W M (.str z) df s h n]at f;have E:gW du 59 (gI (.str s) (.str z) df) [e6 1] (c_ Bq Yq M Q W)=B (.ok (.next,gI (.str s) (.str s) df),c_ Bq Yq M Q W):=by exact Y (gc f) rfl
   exact(bh _ _ ⟨Y (cR N) (Y (cR E) (alJ ..)),rfl⟩)
 refine eM F λ j i e l=>Y (o3 e) ?_;show bR ((i.take 12).all _) (B (_,i.take 12))=_;exact L l (eh g.2.2)
theorem alL(h:∀e∈M,fB e.2=S)(b:lC (.str z)=B (.str s))(c:s.cps.size<=1000000)(A:s.cps.toList.any nT=S):vq [.aH 9,.d (.str z),.d df] [] (c_ Bq Yq M Q W)=B (.exc "ValueError" [.str kT],c_ Bq Yq M Q W):=by
 obtain g:=vv Bq Yq Q W h;have E:gW du 60 (q3 (.str z) df) [e6 0] (c_ Bq Yq M Q W)=B (.exc "ValueError" [.str kT],c_ Bq Yq M Q W):=by
  refine L (g_0 ..) (C7 (jk ?_));have a:Dp du (q3 (.str z) df) ((vw (sY (e6 0))).getD 0 (.Name "" ew)) (c_ Bq Yq M Q W)=B (.ok (.d (.str s)),c_ Bq Yq M Q W):=by show Ev.ofD _ _=_;exact L (b ..) rfl
  exact Y (aT (Y (aT a) rfl)) (Jw S g c A)
 obtain r:=by exact Xq.symm▸Ir E
 exact Y (o3 r) (C8 g.2.2 _ _)def JX:D:=.ae ([48,49,50,51,52,53,48,49,50,51,52,53].map cA)noncomputable def yS(l:H (ai×D)):H (ai×V):=l.map λ p=>(p.1,.d p.2)
theorem Xr:∀{M:H (ai×V)},(∀e∈M,fB e.2=S)->∃l,M=yS l/\O l=O M
 |[],_=>⟨[],rfl,rfl⟩|e::M,h=>by refine av (Xr λ e x=>h e (c7 _ x)) λ l W j=>?_;obtain⟨k,v⟩:=e;induction v with|d d=>exact⟨(k,d)::l,aM _ W,by simp only[gx,j,gx]⟩|aH i=>exact bw (h _ cV)def ij(Bq Yq:H D)(M:H (ai×V))(Q:H D)(s:H D):aE:=b7 Bq (.ae Yq) [.fY M,.ae Q,.fld [("_headers",.aH 10)],.inst 319 8,.ae s]def Dr(cl:D):az:=("orders",.aH 9)::cm 7 cl
def yT(cl:D):az:=("laid",.d JX)::Dr cl
section
variable (Bq Yq Q:H D)(cl:D)
theorem p_4(X:H (ai×D))(h:5<=O X)(n:O X<=10):cB dY 56 (cm 7 cl) [cO 4] (n9 S Bq Yq (yS X) Q)=B (.ok (.next,Dr cl),ij Bq Yq (yS X) Q []):=by
 rcases X with _|⟨a,_|⟨b,_|⟨c,_|⟨d,_|⟨e,_|⟨f,_|⟨g,_|⟨i,_|⟨j,_|⟨k,_|⟨l,m⟩⟩⟩⟩⟩⟩⟩⟩⟩⟩⟩<;>first
  |(exfalso;done)
  |(exfalso;simp at n;done)
  |lk
theorem p_5(X:H (ai×D))(h:5<=O X)(n:O X<=10):cB dY 55 (Dr cl) [cO 5] (ij Bq Yq (yS X) Q [])=B (.ok (.next,yT cl),ij Bq Yq (yS X) Q i7):=by
 rcases X with _|⟨a,_|⟨b,_|⟨c,_|⟨d,_|⟨e,_|⟨f,_|⟨g,_|⟨i,_|⟨j,_|⟨k,_|⟨l,m⟩⟩⟩⟩⟩⟩⟩⟩⟩⟩⟩<;>first
  |(exfalso;simp at h;done)
  |(exfalso;simp at n;done)
  |lk
end
noncomputable def oa:H Ent->H J
 |[]=>yR|[e]=>e.2|_::e::es=>oa (e::es)
theorem Xs:∀es:H Ent,oa es=yR\/∃e∈es,e.2=oa es
 |[]=>.inl rfl|[e]=>.inr ⟨e,cV,rfl⟩|_::e::es=>(Xs (e::es)).imp id λ z=>av z λ x h j=>⟨x,c7 _ h,j⟩def Xu:aJ->PySem.Expr:=iu 0
def Xv:aJ->PySem.Expr:=iu 1
abbrev jT:PySem.Expr:=sY (cO 6)abbrev ob(o m sp:J):D:=aK (ig (dW o 0) (dV m) sp)def Xw(l cl:D):az:=("last",.d l)::yT cl
def lU(iL l cl:D):az:=("due",.d iL)::Xw l cl
def s_(Xx iL l cl:D):az:=("told",.d Xx)::lU iL l cl
def kg(o m:J):D:=match aL m 5 with|true=>.str kT|false=>match aL m 6||Nat.beq m 23 with|true=>cA (48+o)|false=>.str "none"
noncomputable def JY(o m:J):Nat:=match aL m 6||Nat.beq m 23 with|true=>o|false=>0
def alM(s:bx):PySem.Expr:=hz 0 ((sB 0 s).headD s)abbrev cl8:PySem.Expr:=alM (cO 8)abbrev Ds:PySem.Expr:=(vw cl8).getD 0 (.Name "" ew)abbrev JZ:PySem.Expr:=(vw Ds).getD 0 (.Name "" ew)
section
variable (K:J->bV)(Bq Yq Q:H D)(M:H (ai×V))(cl l iL Xx:D)(σ:aE)(es:H Ent)theorem z_6(ρ:az):cB K 54 ρ [cO 6] σ=(b5 (fb d9 "last" ((eQ K 29 ρ (Xu jT)).1.bind λ a=>(eQ K 29 ρ (Xv jT)).1.bind λ b=>lD a b) ρ) λ ar=>cB K 53 ar []) σ:=rfl
theorem alN:(eQ K 29 (yT cl) (Xu jT)).1 σ=B (.ok (.aH 6),σ):=rfl
theorem alO(h:O es<=9):(eQ K 29 (yT cl) (Xv jT)).1 (ij Bq Yq M (es.map aP) i7)=B (.ok (.d (aK (oa es))),ij Bq Yq M (es.map aP) i7):=by
 rcases es with _|⟨a,_|⟨b,_|⟨c,_|⟨d,_|⟨e,_|⟨f,_|⟨g,_|⟨i,_|⟨j,_|⟨k,l⟩⟩⟩⟩⟩⟩⟩⟩⟩⟩<;>first
  |(exfalso;simp at h;done)
  |lk
theorem z_7:bq (aw 6) (λ o=>bq (aw 24) λ m=>bq (aw 4) λ sp=>cB K 53 (Xw (ob o m sp) cl) [cO 7] σ)=br (aw 6) λ o=>br (aw 24) λ m=>br (aw 4) λ sp=>B (.ok (.next,lU (kg o m) (ob o m sp) cl),σ):=by lk
theorem z_8:cB K 52 (lU iL l cl) [cO 8] (ij Bq Yq M Q i7)=(b5 (qo ee d9 (λ ρ body=>b4 fj fj 30 d9 51 ρ body) (fb d9 "told" (ju (K 6) [.aH 9] [(eQ K 29 (lU iL l cl) Ds).1,.ret (.d (.str "none"))] [] []) (lU iL l cl)) (vt (cO 8)) (lU iL l cl)) λ ar=>cB K 51 ar []) (ij Bq Yq M Q i7):=by lk
theorem alP:(eQ K 28 (lU iL l cl) JZ).1 (ij Bq Yq M Q i7)=((kE .Add (.ret (.d (.ae [.str "fli"]))) (K 4 [.aH 5] [])).bind λ a=>lD a (.d (.int (-1)))) (ij Bq Yq M Q i7):=rfl
theorem alQ:uO (qn ee d9 (λ ρ body=>b4 fj fj 30 d9 51 ρ body) "ValueError" [.str kT] (vt (cO 8)) (lU iL l cl)) σ=B (.ok (.next,s_ (.str kT) iL l cl),σ):=rfl
end
def yU:J->aJ->PySem.Expr:=iu
abbrev dQ:PySem.Expr:=Wl (cO 9)theorem z_9(K:J->bV)(ρ:az)(σ:aE):cB K 51 ρ [cO 9] σ=(b5 (lx (fL (eQ K 29 ρ (yU 0 dQ)).2 (eQ K 29 ρ (yU 1 dQ)).1 (eQ K 29 ρ (yU 2 dQ)).1) ρ) λ ar=>cB K 50 ar []) σ:=rfl
def Xy:hI:=⟨I0++ [(("str" :ai),gm uH)],(fl []).jw⟩theorem alR:bq (aw 6) (λ o=>bq (aw 24) λ m=>(bJ Xy 29 d9 [("told",kg o m),("due",kg o m),("laid",JX)] (yU 0 dQ)).2)=br (aw 6) λ u=>br (aw 24) λ u=>B true:=by lk
theorem alS:bq (aw 6) (λ o=>bq (aw 24) λ m=>bq (aw 4) λ sp=>(bJ (fl []) 29 d9 [("last",ob o m sp),("words",eI)] (yU 1 dQ)).1)=br (aw 6) λ o=>br (aw 24) λ m=>br (aw 4) λ u=>B (.int (JY o m:J)):=by lk
def J0(c:J):Bool:= !(c==0x3A3)&&sW (PySem.Unicode.lowerOf c) [c]
theorem alT(h:∀c∈cs,J0 c=S):Lw (cN cs)=cN cs:=by
 unfold Lw;rw[PyProof.Rows.placed_single _ _ id λ i c A=>by
  obtain f:=by simpa using A
  obtain⟨W,j⟩:=bF.mp (h c (eK A));unfold PySem.Unicode.lowerAt;refine L f ?_;simp[(show(c==0x3A3)=aj by simpa using W)];exact vn j]
 show Eu (Array.map id cs.toArray)=_;rw[Array.map_id];rfl
theorem alU(i:o<6)(e:m<24)(b:sp<4):lC (ob o m sp)=B (ob o m sp):=by
 obtain E:=JU i (show 0<2 by decide) (ZC e (by decide)) b;show a8 (aZ (cN _).length 5592405) (B (D.str (Lw (cN _))))=_;rw[alT ((by
   intro c A;have f:∀{g:H _},(∀l∈g,l∈dW o 0)->c∈g.flatten->J0 c=true:=λ h q=>by exact av (List.mem_flatten.mp q) λ l W j=>(b9.mp (b9.mp (b9.mp (show((aw 6).all λ o=>(dW o 0).all λ l=>l.all J0)=S from rfl) o (a4.mpr i)) l (h l W)) c j)
   rcases bB.mp ((Ew.mp A).1)with q|q
   ·exact f (λ l=>m_) q
   ·rcases bB.mp q with q|q
    ·exact b9.mp rfl c (nc (m_ q))
    ·exact f (λ l=>nc) q)),VW,dD (by lia)];rfl
theorem alV:((aw 6).all λ o=>(aw 24).all λ m=>(aw 4).all λ sp=>(dV m).any eZ|| ((ig (dW o 0) (dV m) sp).any nT==aL m 5))=true:=rfl
theorem alW:bq (aw 6) (λ o=>bq (aw 24) λ m=>bq (aw 4) λ sp=>n_ (cN (ig (dW o 0) (dV m) sp)) 6 0)=br (aw 6) λ o=>br (aw 24) λ m=>br (aw 4) λ u=>(match aL m 6||Nat.beq m 23 with|true=>B o|false=>aa):=rfl
theorem alX:(bq (aw 6) λ o=>bq (aw 2) λ p=>bq (aw 4) λ sp=>bE ((dW o p).take sp).flatten.length 4)=br (aw 6) λ o=>br (aw 2) λ p=>br (aw 4) λ sp=>true:=rfl
theorem alY:(bq (aw 6) λ o=>bq (aw 2) λ p=>bq (aw 4) λ sp=>((dW o p).take sp).flatten)=br (aw 6) λ o=>br (aw 2) λ p=>br (aw 4) λ sp=>((dW o 0).take ((dW o p).take sp).flatten.length).flatten:=rfl
theorem alZ:(bq (aw 6) λ o=>bq (aw 2) λ p=>bq (aw 4) λ sp=>((dW o p).drop sp).flatten)=br (aw 6) λ o=>br (aw 2) λ p=>br (aw 4) λ sp=>((dW o 0).drop ((dW o p).take sp).flatten.length).flatten:=rfl
theorem al0(i:o<6)(u:p<2)(b:sp<4)(P:H J){GG:Prop}(k:∀s,s<4->ig (dW o p) P sp=ig (dW o 0) P s->GG):GG:=
 have h:=a4.mpr i;have j:=a4.mpr u;have v:=a4.mpr b
 k ((dW o p).take sp).flatten.length (cg.mp (bg (bg (bg alX h) j) v)) (aM lQ (congr (aM HAppend.hAppend (bg (bg (bg alY h) j) v)) (aM _ (bg (bg (bg alZ h) j) v))))
theorem J1:∀{pr:cz},(∀p∈pr,ρ.lookup p.1=B (.d p.2))->dt pr ρ
 |[],_=>JK ρ
 |(n,d)::pr,h=>λ m e r=>by
  dsimp only[gY]at r;refine dO (m==n) (λ q=>?_) λ q=>?_
  ·rw[q]at r;refine ax (ak r) ?_;rw[cI.mp q];exact h _ cV
  ·rw[q]at r;exact J1 (λ p u=>h p (c7 _ u)) m e r
theorem al1(es:H Ent)(h:O es<=9):((fW .Add (.ae [.str "fli"]) (.ae (vals es))).bind λ l=>fh l (.int (-1)))=B (aK (oa es)):=by
 rcases es with _|⟨a,_|⟨b,_|⟨c,_|⟨d,_|⟨e,_|⟨f,_|⟨g,_|⟨i,_|⟨j,_|⟨k,l⟩⟩⟩⟩⟩⟩⟩⟩⟩⟩<;>first
  |(exfalso;simp at h;done)
  |lk
theorem Xz(h:o=B d):Ev.ofD o σ=B (.ok (.d d),σ):=by subst h;rfl
theorem XF(b:dU s nm=S)(h:m σ=B (.ok v,af)):fb s nm m ρ σ=B (.ok (.next,(nm,v)::ρ),af):=by unfold fb;exact L b (Y (aT h) rfl)theorem al2(b:dU s nm=S)(h:m σ=B (.exc c as,af)):fb s nm m ρ σ=B (.exc c as,af):=by unfold fb;exact L b (jk h)theorem XG:dU d9 "told" =true:=by lk
theorem al3(h:∀e∈M,fB e.2=S)(Bq:H D):bY (ij Bq Yq M Q i7):=by refine⟨rfl,rfl,?_⟩;show(bk 11 t0&&(bk 11 t1&&(bk 11 _&&(bk 11 _&&(bk 11 _&&(bk 11 _&&(bk 11 _&&(bk 11 _&&(bk 11 _&&(bk 11 _&&(bk 11 _&&S)))))))))))=S;rw[yQ h];rfl
theorem al4(I:pz c S es M Yq Q)(A:c<=9)(j:o<6)(e:m<24)(f:sp<4)(P:(dV m).any eZ=aj)(n:ih (oa es)=B (ig (dW o 0) (dV m) sp))(R:2<=O (oa es))(T:O (oa es)<=5):cB dY 52 (lU iL l cl) [cO 8] (ij (es.map aP) Yq M (es.map aP) i7)=B (.ok (.next,s_ (kg o m) iL l cl),c_ (es.map aP) Yq M (es.map aP) (vals es)):=by
 obtain E:O es<=9:=by have:=I.cL;lia
 obtain z:=JU j (show 0<2 by decide) (ZC e (by decide)) f;obtain p:(eQ dY 28 (lU iL l cl) JZ).1 (ij (es.map aP) Yq M (es.map aP) i7)=B _:=by
  refine L (alP ..) (av (rm.mp (al1 es E)) λ d V g=>?_);obtain b:kE .Add (.ret _) _ _=B _:=by exact(aT ((Wn (es:=es) (by lia) (y:=.ae Yq) (rest:=[.fY M,.ae _,.fld [("_headers",.aH 10)],.inst 319 8,.ae i7]) (al3 (Yq:=Yq) (Q:=es.map aP) I.e0 _)))).trans (Y (aT (m:=Ev.read (.d _)) (a:=.ae [.str "fli"]) (af:=c_ _ Yq M _ _) rfl) (Y (aT (Dg (σ:=c_ _ Yq M _ _) (i:=11) rfl)) (Xz V)))
  exact Y (aT b) (Xz g)
 obtain r:(eQ dY 29 _ Ds).1 _=B _:=by exact Y (aT ((aT p).trans rfl:cE [(eQ dY 28 (lU iL l cl) JZ).1] (ij (es.map aP) Yq M (es.map aP) i7)=B (.ok [.d (aK (oa es))],c_ (es.map aP) Yq M (es.map aP) (vals es)))) (sI (ds:=[aK (oa es)]) (VZ n z R T) (Dm (vv (es.map aP) Yq (es.map aP) (vals es) I.e0)))
 obtain C:ju (dY 6) [.aH 9] [(eQ dY 29 (lU iL l cl) Ds).1,.ret (.d (.str "none"))] [] [] (ij (es.map aP) Yq M (es.map aP) i7)=dY 6 [.aH 9,.d (ob o m sp),.d (.str "none")] [] (c_ (es.map aP) Yq M (es.map aP) (vals es)):=by exact Y (aT ((aT r).trans rfl)) rfl
 obtain F:=alU j e f;obtain h:=b9.mp (b9.mp (b9.mp alV o (a4.mpr j)) m (a4.mpr e)) sp (a4.mpr f);rw[P]at h;obtain h:=cI.mp h;refine L (z_8 ..) (Y (gc (ρ:=s_ (kg o m) iL l cl) (af:=c_ (es.map aP) Yq M (es.map aP) (vals es)) ?_) rfl);unfold qo;cases q:aL m 5 with
 |true=>rw[q]at h;obtain k:=alL I.e0 F (show(ig (dW o 0) (dV m) sp).toArray.size<=1000000 by simp;lia) h;rw[al2 XG (Y C k)];dsimp only;refine L (alQ ..) ?_;unfold kg;exact L q rfl
 |false=>
  rw[q]at h;obtain k:=alK (s:=cN (ig (dW o 0) (dV m) sp)) (df:=.str "none") (Bq:=es.map aP) (Yq:=Yq) (Q:=es.map aP) (W:=vals es) I.e0 F (show(ig (dW o 0) (dV m) sp).toArray.size<=1000000 by simp;lia) h;obtain k:dY 6 [.aH 9,.d (ob o m sp),.d (.str "none")] [] (c_ (es.map aP) Yq M (es.map aP) (vals es))=B (.ok (.d (kg o m)),c_ (es.map aP) Yq M (es.map aP) (vals es)):=by refine Y k (L (bg (bg (bg alW (a4.mpr j)) (a4.mpr e)) (a4.mpr f)) ?_);unfold kg;refine L q ?_;cases aL m 6||Nat.beq m 23<;>rfl
  rw[XF XG (Y C k)];rfl
theorem al5(I:pz c S es M Yq Q)(i:o<6)(s:m<24)(b:sp<4)(W:H D):cB dY 51 (s_ (kg o m) (kg o m) (ob o m sp) cl) [cO 9] (c_ (es.map aP) Yq M (es.map aP) W)=B (.ok (.ret (.d (.int (JY o m:J))),s_ (kg o m) (kg o m) (ob o m sp) cl),c_ (es.map aP) Yq M (es.map aP) W):=by
 obtain g:=vv _ Yq _ W I.e0;obtain t:=(jz ((show i4 Xy (eG (d4 _))from by
   obtain Bq:=sN λ p u=>aS u dS;refine⟨Bq.gl,Bq.bf,Bq.loops,Bq.fuel,Bq.item,Bq.src,λ nm f e=>?_,Bq.jw⟩;rcases bB.mp (nj e)with q|q
   ·exact UW _ q
   ·refine cq (bc (ek.mp q)) λ v C=>L v (L C ?_)
    exact⟨.ty "str",rfl,UT λ ds d e σ=>by
     refine av (sJ e) λ a w h=>L w ?_;show(match e5 uH [.d a] σ with|some r=>B r|none=>e5 BK [.d a] σ)=_;rw[qI h]⟩)) 29 d9 [("told",kg o m),("due",kg o m),("laid",JX)] (s_ _ _ _ cl) (J1 λ p u=>by
  simp only[dM,dS,jO]at u;rcases u with rfl|rfl|rfl<;>lk) _).2 S (bg (bg alR (a4.mpr i)) (a4.mpr s)) _ g
 obtain a:=(jz (qX dY) 29 d9 [("last",ob o m sp),("words",eI)] (s_ _ _ _ cl) (J1 λ p u=>by
  simp only[dM,dS,jO]at u;rcases u with rfl|rfl<;>lk) _).1 _ (bg (bg (bg alS (a4.mpr i)) (a4.mpr s)) (a4.mpr b)) _ g
 exact Y (z_9 ..) (yN (Y (aT ((aT t).trans a)) rfl))theorem al6(Bq Yq Q W:H D)(M:H (ai×V)):(c_ Bq Yq M Q W).take 2=bK:=rfl
theorem al7(I:pz c S es M Yq Q)(A:c<=9){G:Prop}(K:∀i ar af,i<6->cB dY 56 (cm 7 cl) [cO 4,cO 5,cO 6,cO 7,cO 8,cO 9] (n9 S (es.map aP) Yq M Q)=B (.ok (.ret (.d (.int (i:J))),ar),af)->af.take 2=bK->G):G:=by
 refine(λ I K=>by
   refine t7 (I.fZ _ (Xs es)) λ R t W j v u=>?_;refine NK t λ o p sp m h x f q r=>cq r λ k e=>al0 h x f (dV m) λ s N E=>?_;rw[E]at e;subst e;exact K o m s h q N k W j v u) I λ o m sp h q f k W j P g=>av (Xr I.e0) λ l w V=>?_
 obtain C:=I.dd.2 rfl;subst C;obtain a:=I.da;have b:=I.hm;obtain D:cB dY 56 _ [cO 4] (n9 S _ Yq M _)=B (.ok (.next,Dr cl),ij (es.map aP) Yq M (es.map aP) []):=by rw[w];exact p_4 _ _ _ _ l (by lia) (by lia)
 obtain eT:cB dY 55 _ [cO 5] (ij _ Yq M _ [])=B (.ok (.next,yT cl),ij (es.map aP) Yq M (es.map aP) i7):=by rw[w];exact p_5 _ _ _ _ l (by lia) (by lia)
 refine K _ _ _ ?_ (Y (cR D) (Y (cR eT) (Y (cR ((by
   refine Y (z_6 ..) (Y (gc (af:=ij _ Yq M _ i7) ?_) rfl);refine XF rfl (Y (aT (alN dY cl _)) (Y (aT (alO dY _ Yq M cl es (by have:=I.cL;exact bA ‹_› ‹_›))) (Y (eh I.hk) ?_)));show Ev.of (eO _ M) _=_;exact L g rfl))) (Y (cR (bg (bg (bg (z_7 dY cl _) (a4.mpr h)) (a4.mpr q)) (a4.mpr f))) (Y (cR (al4 I A h q f k W j P)) (al5 I h q f _)))))) (al6 ..)
 unfold JY;cases aL m 6||Nat.beq m 23<;>simp<;>assumption
noncomputable def rK:H Nat:=[1,9,8,72,64,65]def g0:H Nat:=rK.flatMap λ a=>rK.flatMap λ b=>rK.map λ c=>a+2*b+4*c
noncomputable def dh(l i:J):Nat:=l/2^i% 2
def et(l i:J):Int:=2*(dh l i:ah)- 1
theorem tY(l i:J):dh l i=0\/dh l i=1:=by have:dh l i<2:=dN _ (by decide);lia
def b0{α:Type}(f:α->ah)(bS:H α):Int:=bS.rec (motive:=λ u=>ah) (0) (λ a l dF=>f a+dF)
theorem iT:∀{l:H α},(∀a∈l,f a=g a)->b0 f l=b0 g l
 |[],_=>rfl|a::l,h=>by show f a+b0 f l=g a+b0 g l;rw[h a cV,iT λ b q=>h b (c7 _ q)]
theorem p0(f g:α->ah):∀l:H α,b0 (λ a=>f a+g a) l=b0 f l+b0 g l
 |[]=>rfl|a::l=>by refine(?_:f a+g a+b0 _ l=f a+b0 f l+(g a+b0 g l));rw[p0 f g l];lia
theorem p1(c:ah)(f:α->ah):∀l:H α,b0 (λ a=>c*f a) l=c*b0 f l
 |[]=>by show 0=c*0;exact oj (Int.mul_zero c)|a::l=>by refine(?_:c*f a+b0 _ l=c*(f a+b0 f l));simp[p1 c f l,KQ]
theorem z_:∀l:H α,b0 (λ u=>(0:ah)) l=0
 |[]=>rfl|_::l=>by show 0+b0 _ l=0;rw[z_ l];rfl
theorem Fq(f:α->h->ah):∀(l:H α)(m:H h),b0 (λ a=>b0 (f a) m) l=b0 (λ b=>b0 (λ a=>f a b) l) m
 |[],m=>(z_ m).symm|a::l,m=>by refine(?_:b0 _ m+b0 _ l=b0 (λ b=>f a b+b0 _ l) m);rw[Fq f l m,<-p0]theorem aaQ(f:α->ah)(g:h->ah)(l:H α)(m:H h):b0 f l*b0 g m=b0 (λ a=>b0 (λ b=>f a*g b) m) l:=by rw[DV,<-p1];refine iT λ a u=>?_;simp[p1,DV]theorem aaR(c:ah)(f:α->ah)(l:H α):b0 (λ a=>f a*c) l=b0 f l*c:=by rw[DV,<-p1];exact iT λ m u=>DV _ _
theorem aaS(w a b c d:ah):w*((a*c)*(b*d))=w*(c*d)*(a*b):=by ac_rfl
theorem Ng[Yu α](f:α->ah)(p:α):∀{W:H α},W.Nodup->p∈W->b0 (λ q=>(if q=p then 1 else 0)*f q) W=f p
 |[],_,h=>by cases h
 |u::W,V,h=>by
  show(if u=p then 1 else 0)*f u+b0 (λ q=>(if q=p then 1 else 0)*f q) W=f p;obtain⟨X,j⟩:=Yv.mp V;by_cases e:u=p
  ·refine ax e ?_
   obtain z:b0 (λ q=>(if q=u then 1 else 0)*f q) W=0:=by refine Y (iT λ q G=>?_) (z_ W);rw[a6 (λ e=>X (by rw[<-e];exact G)),KR]
   rw[z,bC rfl,Int.one_mul,Int.add_zero]
  ·obtain r:p∈W:=by
    rcases dM.mp h with q|q
    ·exact aS q.symm e
    ·exact q
   rw[a6 e,KR,Ng f p j r,KS]
theorem Nh[Yu α][BEq α][LawfulBEq α](f:α->ah)(V:W.Nodup):∀{M:H α},(∀p∈M,p∈W)->b0 f M=b0 (λ q=>(M.count q:ah)*f q) W
 |[],_=>by refine Y ((z_ W).symm) (iT λ q u=>?_);show 0=0*f q;rw[KR]
 |p::M,h=>by
  show f p+b0 f M=_;rw[Nh f V λ q G=>h q (c7 _ G),<-Ng f p V (h p cV),<-p0];refine iT λ q u=>?_;rw[List.count_cons];by_cases e:q=p
  ·refine L e ?_
   rw[KU,Int.add_mul];lia
  ·rw[a6 e,a6 (by simpa using λ h=>e h.symm),KR,KS]
   dsimp only[rb]noncomputable def tZ:H (J×J):=(aw 8).flatMap λ i=>(aw 8).map λ j=>(i,j)noncomputable def Aa(n:J):Bool:=match n with|1|2|4|7=>S|_=>aj
def Ab(i m:J):Int:=match Aa (Yw i m)with|true=> -1|false=>1
noncomputable def jh:J->ah
 |0=>27|1=> -9|2=> -9|3=>3|4=> -9|5=>3|6=>3|_=> -1
def fH(x:J->ah)(m:J):Int:=b0 (λ i=>x i*Ab i m) (aw 8)def wC(i j:J):Int:=b0 (λ m=>jh m*(Ab i m*Ab j m)) (aw 8)
theorem aaT(x y:J->ah):b0 (λ m=>jh m*(fH x m*fH y m)) (aw 8)=b0 (λ i=>b0 (λ j=>wC i j*(x i*y j)) (aw 8)) (aw 8):=by
 obtain e:b0 (λ m=>jh m*(fH x m*fH y m)) _=b0 (λ m=>b0 (λ i=>b0 _ _) _) (aw 8):=by refine iT λ m u=>?_;unfold fH;rw[aaQ,<-p1];exact iT λ i u=>ax (p1 ..) (iT λ j u=>(aaS _ _ _ _ _))
 rw[e,Fq];exact iT λ i u=>(Y (Fq ..) (iT λ j u=>(aaR _ _ _)))
theorem aaU(f:J->J->ah):b0 (λ i=>b0 (λ j=>f i j) (aw 8)) (aw 8)=b0 (λ q:J×J=>f q.1 q.2) tZ:=by
 have A:∀(l m:H _),b0 (λ q:J×J=>f q.1 q.2) (l++m)=b0 (λ q:J×J=>f q.1 q.2) l+b0 (λ q:J×J=>f q.1 q.2) m:=by intro l m;induction l with|nil=>show _=0+_;rw[KS];rfl|cons a l g=>show f a.1 a.2+b0 _ (l++m)=f a.1 a.2+b0 _ l+b0 _ m;rw[g];exact oj (anD _ _ _)
 obtain all:∀I:H J,b0 (λ i=>b0 (λ j=>f i j) (aw 8)) I=b0 (λ q:J×J=>f q.1 q.2) (I.flatMap λ i=>(aw 8).map λ j=>(i,j)):=by intro I;induction I with|nil=>rfl|cons i I g=>simp[List.flatMap_cons,A,<-g];rfl
 exact all _
def Ni:H (J×J):=g0.map λ m=>(m% 8,m/8% 8)def Nj:H (J×J):=g0.map λ m=>(m/8% 8,m/64)def Nk:H (J×J):=g0.map λ m=>(m/64,m% 8)theorem Fs(h:∀p∈M,p∈tZ)(A:∀q∈tZ,wC q.1 q.2=8*(M.count q:ah))(x y:J->ah):b0 (λ m=>jh m*(fH x m*fH y m)) (aw 8)=8*b0 (λ q:J×J=>x q.1*y q.2) M:=by rw[aaT,aaU _,Nh _ (by decide+kernel) h,<-p1];refine iT λ q G=>?_;rw[A q G,Int.mul_assoc]def oH(s l n m:J):Bool:=aL (dh s (m% 8)) (dh l (m/8% 8))&&aL (dh l (m/8% 8)) (dh n (m/64))def k_(l D n:J):Nat:=O (g0.filter (oH l D n))theorem aaV(l D n m:J):4*(if oH l D n m=S then(1:ah)else 0)=1+(et l (m% 8)*et D (m/8% 8)+(et D (m/8% 8)*et n (m/64)+et n (m/64)*et l (m% 8))):=by delta oH et;rcases tY l _ with a|a<;>rcases tY D _ with b|b<;>rcases tY n _ with c|c<;>rw[a,b,c]<;>rfl
theorem Nl(p:J->aF):∀l:H J,b0 (λ m=>if p m=S then(1:ah)else 0) l=(O (l.filter p):ah)
 |[]=>rfl
 |a::l=>by
  show _+b0 _ l=_;simp[Nl p l,vS];split
  ·simp[gx];lia
  ·lia
theorem Ac{α h:Type}(f:h->ah)(g:α->h):∀l:H α,b0 f (l.map g)=b0 (λ a=>f (g a)) l
 |[]=>rfl|a::l=>by show f _+b0 f _=_;rw[Ac f g l];rfl
theorem Nm{α:Type}(c:ah):∀l:H α,b0 (λ u=>c) l=c*(O l:ah)
 |[]=>by show 0=c*0;lia|a::l=>by show c+b0 _ l=_;simp[Nm c l,gx,KU,KQ];lia
theorem aaW(l D n:J):b0 (λ m=>jh m*(fH (et l) m*fH (et D) m+(fH (et D) m*fH (et n) m+fH (et n) m*fH (et l) m))) (aw 8)=32*((k_ l D n:ah)- 54):=by
 obtain e:b0 (λ m=>jh m*(fH (et l) m*fH (et D) m+(fH (et D) m*fH (et n) m+fH (et n) m*fH (et l) m))) _=b0 (λ m=>jh m*(fH (et l) m*fH (et D) m)) _+(b0 (λ m=>jh m*(fH (et D) m*fH (et n) m)) _+b0 (λ m=>jh m*(fH (et n) m*fH (et l) m)) (aw 8)):=by rw[<-p0,<-p0];refine iT λ m u=>?_;simp only[KQ,KQ]
 obtain r:4*(k_ l D n)=216+(b0 (λ m=>et l _*et D _) g0+(b0 (λ m=>et D _*et n _) g0+b0 (λ m=>et n _*et l _) g0)):=by unfold k_;rw[<-Nl,<-p1];rw[iT λ m u=>aaV l D n m,p0,p0,p0,Nm];rw[(show(1*(O g0:ah))=216 by decide+kernel)]
 rw[e,Fs (by decide+kernel) (show∀q∈tZ,wC q.1 q.2=8*(Ni.count q:ah)from by decide+kernel),Fs (by decide+kernel) (show∀q∈tZ,wC q.1 q.2=8*(Nj.count q:ah)from by decide+kernel),Fs (by decide+kernel) (show∀q∈tZ,wC q.1 q.2=8*(Nk.count q:ah)from by decide+kernel)];delta Ni Nj Nk;simp only[Ac,Ac,Ac];lia
noncomputable def wD:J->J
 |0=>0|1=>7|2=>1|3=>6|4=>2|5=>5|6=>3|_=>4
noncomputable def rL:J->J
 |0=>0|7=>1|1=>2|6=>3|2=>4|5=>5|3=>6|_=>7
def t2:H (J×J×J):=g0.map λ m=>(3*rL (m% 8),3*rL (m/8% 8)+1,3*rL (m/64)+2)noncomputable def aaX:H (H (J×J×J)):=[[],[],[],[(3,1,2)],[(3,4,2),(0,4,2)],[(0,4,5),(0,1,5),(3,1,5)],[(6,4,2),(6,1,5)],[(3,7,2),(0,7,5)],[(0,4,8),(3,1,8)],[(9,7,2),(9,4,2),(9,7,8),(9,4,8),(9,7,5),(9,1,8),(9,1,5)],[(3,10,2),(6,10,2),(9,10,8),(0,10,8),(0,10,5),(3,10,8),(6,10,8),(6,10,5)],[(6,10,11),(6,1,11),(3,1,11),(6,4,11),(6,7,11),(3,7,11),(0,4,11),(0,7,11),(9,7,11)],[(12,4,2),(12,7,11),(12,4,8),(12,7,5),(12,10,8),(12,1,5)],[(3,13,2),(6,13,11),(9,13,8),(0,13,5),(3,13,8),(6,13,5)],[(6,10,14),(3,1,14),(6,4,14),(3,7,14),(0,4,14),(9,7,14)],[(15,13,2),(15,10,2),(15,13,14),(15,10,14),(15,13,11),(15,1,14),(15,1,11),(15,4,2),(15,4,14),(15,7,14),(15,7,11),(15,13,8),(15,10,8),(15,13,5),(15,1,5)],[(3,16,2),(15,16,14),(6,16,14),(6,16,11),(3,16,14),(9,16,2),(12,16,2),(0,16,14),(0,16,11),(9,16,14),(12,16,14),(12,16,11),(9,16,8),(12,16,8),(0,16,5),(12,16,5)],[(12,16,17),(12,7,17),(9,7,17),(12,4,17),(0,4,17),(12,1,17),(9,1,17),(12,10,17),(12,13,17),(9,13,17),(0,10,17),(0,13,17),(3,1,17),(3,13,17),(6,10,17),(6,13,17),(15,13,17)],[(18,10,2),(18,1,11),(18,16,2),(18,4,2),(18,16,14),(18,16,11),(18,7,11),(18,1,17),(18,10,8),(18,10,17),(18,13,17),(18,1,5)],[(3,19,2),(15,19,2),(15,19,14),(6,19,11),(15,19,11),(9,19,2),(0,19,11),(9,19,8),(12,19,17),(9,19,17),(0,19,17),(0,19,5)],[(0,4,20),(0,16,20),(9,7,20),(9,16,20),(12,16,20),(0,10,20),(9,1,20),(15,13,20),(15,10,20),(6,10,20),(15,1,20),(3,1,20)],[(21,19,2),(21,4,2),(21,19,14),(21,4,14),(21,19,11),(21,7,14),(21,16,14),(21,7,11),(21,19,8),(21,4,8),(21,19,17),(21,19,20),(21,4,20),(21,19,5),(21,7,20),(21,16,20),(21,7,5),(21,13,8),(21,10,8),(21,13,17),(21,13,20),(21,10,20),(21,13,5),(21,1,20),(21,1,5)],[(3,22,2),(18,22,2),(15,22,14),(6,22,14),(6,22,11),(3,22,14),(18,22,14),(18,22,11),(9,22,8),(12,22,8),(12,22,17),(21,22,20),(0,22,20),(0,22,5),(9,22,20),(12,22,20),(12,22,5),(3,22,8),(18,22,8),(18,22,17),(15,22,20),(6,22,20),(6,22,5),(3,22,20),(18,22,20),(18,22,5)],[(18,22,23),(18,1,23),(3,1,23),(18,10,23),(18,13,23),(3,13,23),(6,10,23),(6,13,23),(15,13,23),(18,16,23),(18,7,23),(3,7,23),(18,4,23),(18,19,23),(3,19,23),(6,4,23),(6,19,23),(15,19,23),(12,16,23),(12,7,23),(9,7,23),(12,4,23),(12,19,23),(9,19,23),(0,4,23),(0,19,23),(21,19,23)]]def Nn(bS:H (H (J×J×J)))(cG:J):Bool:=bS.rec (motive:=λ u=>J->aF) (λ u=>S) (λ ay rest dF d=>ay.all (λ t=>aZ t.1 d&&aZ t.2.1 d&&aZ t.2.2 d&&t2.contains t)&&dF (d+1)) cG
noncomputable def c4(v i:J):Nat:=lW (Nat.shiftRight v i) 2
def t4(v:J)(bS:H (J×J×J)):Bool:=bS.rec (motive:=λ u=>aF) (aj) (λ t l dF=>(aL (c4 v t.1) (c4 v t.2.1)&&aL (c4 v t.2.1) (c4 v t.2.2))||dF)def Ad(v:J):Nat:=c4 v 0+2*c4 v 6+4*c4 v 12+8*c4 v 18+16*c4 v 21+32*c4 v 15+64*c4 v 9+128*c4 v 3
def Ae(v:J):Nat:=c4 v 1+2*c4 v 7+4*c4 v 13+8*c4 v 19+16*c4 v 22+32*c4 v 16+64*c4 v 10+128*c4 v 4
def Af(v:J):Nat:=c4 v 2+2*c4 v 8+4*c4 v 14+8*c4 v 20+16*c4 v 23+32*c4 v 17+64*c4 v 11+128*c4 v 5
noncomputable def never(l D n:J):Bool:=((aL 0 l||Nat.beq 0 D||Nat.beq 0 n)&&(aL 255 l||Nat.beq 255 D||Nat.beq 255 n))|| (aL l D&&aL D n&&(aL 170 l||Nat.beq 204 l||Nat.beq 240 l||Nat.beq 85 l||Nat.beq 51 l||Nat.beq 15 l))def Ft(bS:H (H (J×J×J)))(cG:J)(dJ:J):Bool:=bS.rec (motive:=λ u=>J->J->aF) (λ u v=>never (Ad v) (Ae v) (Af v)) (λ ay rest dF d v=>(t4 v ay||dF (d+1) v)&&(t4 (gu v (e1 2 d)) ay||dF (d+1) (gu v (e1 2 d)))) cG dJ
def gi(l D n t:J):Nat:=match t% 3 with|0=>dh l (wD (t/3))|1=>dh D (wD (t/3))|_=>dh n (wD (t/3))theorem Ag(v i:J):c4 v i=v/2^i% 2:=by show(v>>>i)% 2=_;exact L (Nat.shiftRight_eq_div_pow ..) rfl
def oI(l D n d v:J):Prop:=v<2^d/\∀t,t<d->c4 v t=gi l D n t
theorem oI.Np(h:oI l cW n d v)(r:gi l cW n d=0):oI l cW n (d+1) v:=by
 refine⟨eo h.1 (q9 (by decide) (hg d)),λ t p=>?_⟩;rcases DW t d with q|q
 ·exact h.2 t q
 ·rw[DX (vT p) q,r,Ag,om h.1]
theorem oI.Nq(h:oI l cW n d v)(r:gi l cW n d=1):oI l cW n (d+1) (gu v (e1 2 d)):=by
 obtain e:gu v _=v+2^d:=rfl;refine L e ⟨L (Nat.pow_succ ..) (L (Nat.mul_two ..) (anE h.1 _)),λ t p=>?_⟩;rcases DW t d with q|q
 ·rw[<-h.2 t q,Ag,Ag]
  obtain E:2^d=2^t*(2*2^(d-t-1)):=by rw[<-Yx,<-ki,Nat.succ_eq_add_one,anj (anF q),Nat.add_sub_of_le (ik q)]
  rw[E,Yy _ _ (kX t),anG]
 ·obtain this:=DX (vT p) q
  subst this;rw[r,Ag,Nat.add_div_right _ (kX t),om h.1]
theorem Fu(h:oI l cW n (d+1) v)(V:∀t∈t2,¬(gi l cW n t.1=gi l cW n t.2.1/\gi l cW n t.2.1=gi l cW n t.2.2)):∀{ay:H (J×J×J)},ay.all (λ t=>aZ t.1 d&&aZ t.2.1 d&&aZ t.2.2 d&&t2.contains t)=S->t4 v ay=aj
 |[],_=>rfl
 |t::ay,i=>by
  rw[anH,jH,jH,jH,jH]at i;obtain⟨⟨⟨⟨o,P⟩,c⟩,q⟩,A⟩:=i;show((aL _ _&&aL _ _)||t4 v ay)=aj;rw[Fu h V A,h.2 _ (DY (b8 o)),h.2 _ (DY (b8 P)),h.2 _ (DY (b8 c))];cases e:(aL _ _&&aL _ _)with
  |false=>rfl|true=>rw[jH]at e;exact aS ⟨dE e.1,dE e.2⟩ (V t (oo.mp q))theorem Ah(h:n<2):n=0\/n=1:=(anq.mp h).imp_left KG.mp
theorem Fv(V:∀t∈t2,¬(gi l cW n t.1=gi l cW n t.2.1/\gi l cW n t.2.1=gi l cW n t.2.2)):∀(T:H (H (J×J×J)))(d v:J),Nn T d=S->oI l cW n d v->Ft T d v=S->∃F,oI l cW n (d+O T) F/\never (Ad F) (Ae F) (Af F)=S
 |[],d,v,_,s,h=>⟨v,s,h⟩
 |ay::rest,d,v,i,s,h=>by
  obtain i:(ay.all (λ t=>aZ t.1 d&&aZ t.2.1 d&&aZ t.2.2 d&&t2.contains t)&&Nn rest (d+1))=true:=i;rw[jH]at i;obtain h:((t4 v ay||Ft rest _ v)&&(t4 _ ay||Ft rest _ _))=true:=h;rw[jH]at h;refine L ((zf ..).symm) ?_;rcases Ah ((show gi l cW n d<2 from by
    unfold gi;generalize d% 3=z;rcases z with _|_|z<;>exact dN _ (by decide)))with b|b
  ·have q:=h.1
   rw[Fu (s.Np b) V i.1]at q;exact Fv V rest _ v i.2 (s.Np b) q
  ·have q:=h.2
   rw[Fu (s.Nq b) V i.1]at q;exact Fv V rest _ _ i.2 (s.Nq b) q
theorem Ai(h:(aw n).all p=S)(s:i<n):p i=true:=b9.mp h i (a4.mpr s)
theorem of_bits(h:l<256):dh l 0+2*dh l 1+4*dh l 2+8*dh l 3+16*dh l 4+32*dh l 5+64*dh l 6+128*dh l 7=l:=
 dE (Ai (p:=λ l=>aL (dh l 0+2*dh l 1+4*dh l 2+8*dh l 3+16*dh l 4+32*dh l 5+64*dh l 6+128*dh l 7) l) (by decide+kernel) h)theorem Fw(h:q<8):wD (rL q)=q:=dE (Ai (p:=λ q=>aL (wD _) q) (by decide+kernel) h)theorem bB0(l D n:J)(h:q<8):gi l D n (3*rL q)=dh l q:=by unfold gi;rw[Nat.mul_mod_right,Nat.mul_div_cancel_left _ (by decide),Fw h];rfl
theorem bB1(s l n:J)(h:q<8):gi s l n (3*rL q+1)=dh l q:=by unfold gi;rw[anI,Yz (by decide),rb,Fw h];rfl
theorem bB2(s D l:J)(h:q<8):gi s D l (3*rL q+2)=dh l q:=by unfold gi;rw[anI,Yz (by decide),rb,Fw h];rfl
theorem Nr(h:m∈g0):m/64<8:=by
 obtain this:(g0.all λ m=>bE (m/64) 8)=true:=by decide+kernel
 have:=b9.mp this m h;exact eo (km _) (b8 this)
theorem Nt:k_ l cW n=0 ↔ ∀m∈g0,oH l cW n m=false:=by
 unfold k_;rw[DZ,anr];constructor
 ·intro h m p
  cases e:oH l cW n m with|false=>rfl|true=>exact aS e (h m p)
 ·intro h m p
  rw[h m p];decide
theorem aaY(u:gj<256)(W:cW<256)(j:ft<256)(h:k_ gj cW ft=0):never gj cW ft=true:=by
 have V:∀t∈t2,¬(gi gj cW ft t.1=gi gj cW ft t.2.1/\gi gj cW ft t.2.1=gi gj cW ft t.2.2):=by refine λ t p=>av (iP.mp p) λ m q e=>?_;subst e;have r:=Nt.mp h m q;rw[bB0 gj cW ft (dN _ (by decide)),bB1 gj cW ft (dN _ (by decide)),bB2 gj cW ft (Nr q)];rintro ⟨a,b⟩;unfold oH at r;rw[a,b,q_]at r;cases r
 refine av (Fv V aaX 0 0 (by decide+kernel) ⟨by decide,λ t p=>aS p (zo _)⟩ (by decide+kernel)) λ v s o=>?_;have s:∀t,t<24->c4 v t=gi gj cW ft t:=s.2;have g:Ad v=gj:=by unfold Ad;simp only[s _ (by decide:0<24),s _ (by decide:6<24),s _ (by decide:12<24),s _ (by decide:18<24),s _ (by decide:21<24),s _ (by decide:15<24),s _ (by decide:9<24),s _ (by decide:3<24)];exact of_bits u
 have G:Ae v=cW:=by unfold Ae;simp only[s _ (by decide:1<24),s _ (by decide:7<24),s _ (by decide:13<24),s _ (by decide:19<24),s _ (by decide:22<24),s _ (by decide:16<24),s _ (by decide:10<24),s _ (by decide:4<24)];exact of_bits W
 have i:Af v=ft:=by unfold Af;simp only[s _ (by decide:2<24),s _ (by decide:8<24),s _ (by decide:14<24),s _ (by decide:20<24),s _ (by decide:23<24),s _ (by decide:17<24),s _ (by decide:11<24),s _ (by decide:5<24)];exact of_bits j
 rw[g,G,i]at o;exact o
theorem Fx(i:J):dh 0 i=0:=by unfold dh;rw[Nat.zero_div]theorem Fy(h:i<8):dh 255 i=1:=dE (Ai (p:=λ i=>aL _ 1) (by decide+kernel) h)
theorem aaZ(h:¬(x=y/\y=z)):(aL x y&&aL y z)=false:=by
 cases e:(aL x y&&aL y z)with
 |false=>rfl|true=>rw[jH]at e;exact aS ⟨dE e.1,dE e.2⟩ h
theorem aa0(h:never l cW ft=S):k_ l cW ft=0:=by
 unfold never at h;rw[lX]at h;rcases h with h|h
 ·rw[Nt]
  refine λ m r=>aaZ ?_;rw[jH]at h;refine cq h λ a b=>?_;obtain A:0=l\/0=cW\/0=ft:=by
   rw[lX,lX]at a;rcases a with(a|a)|a
   ·exact .inl (dE a)
   ·exact .inr (.inl (dE a))
   ·exact .inr (.inr (dE a))
  obtain f:255=l\/255=cW\/255=ft:=by
   rw[lX,lX]at b;rcases b with(b|b)|b
   ·exact .inl (dE b)
   ·exact .inr (.inl (dE b))
   ·exact .inr (.inr (dE b))
  rintro ⟨p,q⟩;have x:=f.elim (λ e=>e▸Fy (dN m (by decide))) λ a=>Y p (a.elim (λ e=>e▸Fy (dN _ (by decide))) λ e=>Y q (e▸Fy (Nr r)));exact nomatch (A.elim (λ e=>e▸Fx _) λ a=>Y p (a.elim (λ e=>e▸Fx _) λ e=>Y q (e▸Fx _)):dh l _=0).symm.trans x
 ·rw[jH,jH]at h
  obtain⟨⟨a,b⟩,c⟩:=h;have a:=dE a;have b:=dE b;subst a;subst b;simp only[lX]at c;rcases c with((((c|c)|c)|c)|c)|c<;>have c:=dE c<;>subst c<;>decide+kernel
def codeN(l D n m:J):Nat:=dh l (m% 8)+2*dh D (m/8% 8)+4*dh n (m/64)theorem Fz(l i:J):dh l i<=1:=vT (dN _ (by decide))theorem FA(l D n m:J):codeN l D n m<8:=gf (vL (vL (Fz ..) (vI 2 (Fz ..))) (vI 4 (Fz ..))) (by decide)def cntK(k:J)(bS:H J):Nat:=bS.rec (motive:=λ u=>J) (0) (λ c l dF=>(if c=k then 1 else 0)+dF)def Aj(bS:H J):Nat:=bS.rec (motive:=λ u=>J) (0) (λ c l dF=>2^(8*c)+dF)theorem Nu(k c:J)(l:H J):cntK k (c::l)=(if c=k then 1 else 0)+cntK k l:=rfl
theorem aa1(c:J)(l:H J):Aj (c::l)=2^(8*c)+Aj l:=rfl
noncomputable def nr(f:J->J):Nat:=f 0+256*(f 1+256*(f 2+256*(f 3+256*(f 4+256*(f 5+256*(f 6+256*f 7))))))theorem rM(h:z=X+Yq):(a+b)+256*z=(a+256*X)+(b+256*Yq):=by simp only[h,Nat.mul_add,anJ]theorem aa2(f g:J->J):nr (λ k=>f k+g k)=nr f+nr g:=rM (rM (rM (rM (rM (rM (rM rfl))))))
theorem Nv:∀C:H J,(∀c∈C,c<8)->Aj C=nr λ k=>cntK k C
 |[],_=>rfl|c::l,h=>by simp[aa1,Nv l λ x M=>h x (c7 _ M),<-dE (b9.mp (show((aw 8).all λ c=>aL (nr λ k=>if c=k then 1 else 0) (2^(8*c)))=S from by decide+kernel) c (a4.mpr (h c cV))),<-aa2];rfl
theorem Nw(k:J):∀C:H J,cntK k C<=O C
 |[]=>bH _|c::l=>bA (fV (iO _ _)) (vL (Nw k l) (by split<;>decide))theorem rN(h:a<256):(a+256*X)/256=X:=L (Yy _ _ (by decide)) (L (om h) (L (hO ..) rfl))theorem rO(h:a<256)(F:X<n):a+256*X<256*n:=by lia
theorem aa3(h:∀k,f k<256):nr f% 256=f 0/\nr f/72057594037927936=f 7/\nr f<18446744073709551616:=by
 refine⟨?_,?_,rO (h 0) (rO (h 1) (rO (h 2) (rO (h 3) (rO (h 4) (rO (h 5) (rO (h 6) (h 7)))))))⟩
 ·unfold nr
  rw[anG,zp (h 0)]
 ·simp only[show 72057594037927936=256*256*256*256*256*256*256 from rfl,<-oq,<-oq,<-oq,<-oq,<-oq,<-oq]
  unfold nr;simp[rN (h 0),rN (h 1),rN (h 2),rN (h 3),rN (h 4),rN (h 5),rN (h 6)]def wF(l D n:J):H Nat:=g0.map (codeN l D n)theorem aa4(l D n m:J):oH l D n m=(aL (codeN l D n m) 0||Nat.beq (codeN l D n m) 7):=by delta oH codeN;rcases tY l _ with a|a<;>rcases tY D _ with b|b<;>rcases tY n _ with c|c<;>rw[a,b,c]<;>rfl
theorem Nx(l D n:J):∀M:H J,cntK 0 (M.map (codeN l D n))+cntK 7 (M.map (codeN l D n))=O (M.filter (oH l D n))
 |[]=>rfl|m::M=>by rw[lY,vS,Nu,Nu,anJ,Nx l D n M,dE (Ai (p:=λ c=>aL ((if c=0 then 1 else 0)+(if c=7 then 1 else 0)) (match(aL c 0||Nat.beq c 7)with|true=>1|false=>0)) rfl (FA ..)),aa4];induction aL _ 0||Nat.beq _ 7 with|true=>rw[bC rfl];exact iO ..|false=>rw[a6 hN];exact hO _
def rP(l D n:J):Nat:=Aj (wF l D n)
theorem Ny(l D n:J):rP l D n% 256+rP l D n/72057594037927936=k_ l D n/\rP l D n<18446744073709551616:=by
 obtain i:=Nv (wF l D n) (λ c h=>by
  refine av (iP.mp h) λ m u e=>?_;rw[<-e];exact FA _ _ _ _)
 obtain I:O (wF l D n)=216:=by unfold wF;rw[gg];decide+kernel
 refine ff (aa3 λ k=>gf (Nw k _) (by rw[I];decide)) λ M N d=>?_;unfold rP;refine L i ?_;rw[M,N];exact⟨Nx l D n g0,d⟩theorem aa5(l i:J):et l i=oJ (YA l i):=by delta et dh;refine L Nat.testBit_eq_decide_div_mod_eq ?_;rcases Ah (dN _ (by decide))with e|e<;>rw[e]<;>rfl
theorem aa6(i m:J):Ab i m=oJ (!FC (Yw i m)):=by show(match Aa _ with|true=>(-1)|false=>1)=oJ (!Aa _);cases Aa _<;>rfl
theorem Nz{α:Type}(f:α->ah):∀l:H α,l.foldr (λ a s=>f a+s) 0=b0 f l
 |[]=>rfl|a::l=>L anK (L (Nz f l) rfl)theorem FD(l m:J):gC l m=fH (et l) m:=Y (Nz ..) (iT λ i u=>by simp only[aa5,aa6])theorem aa7(l D n:J):b0 (λ m=>jh m*(gC l m*gC D m+(gC D m*gC n m+gC n m*gC l m))) (aw 8)=32*((k_ l D n:ah)- 54):=ax (aaW l D n) (iT λ m u=>by simp[FD,FD,FD])def Vp(d:D)(k:D->D->U D):U D:=(hE d 2).bind λ ds=>match ds with|[]=>aa|a::ds=>match ds with|[]=>aa|b::ds=>match ds with|[]=>k a b|_::_=>aa
def CM(os:H (U D)):U D:=(cS os).bind λ xs=>a8 (dc xs) (B (.aD xs))def Jf(F f:H D->U D)(a b:D):U D:=(cp .Eq b (.int 0)).bind λ c=>match c with|true=>aa|false=>(cp .Lt b (.int 0)).bind λ c=>match c with|true=>((cS [lh .USub a,lh .USub b]).bind F).bind λ r=>Vp r λ q r=>CM [B q,lh .USub r]|false=>(cp .Lt a (.int 0)).bind λ c=>match c with|true=>((cS [lh .Invert a,B b]).bind F).bind λ r=>Vp r λ q r=>CM [lh .Invert q,(lh .Invert r).bind λ z=>aI .Add b z]|false=>f [a,b]
def mT(k:J)(a b:ah):Bool:= !(b==0)&&((match k with
 |0=>decide (0<=a)&&decide (0<b)|1=>decide (0<b)|_=>S)&&(aZ (aQ b.natAbs) 1000&&aZ (b6 a.natAbs (aQ b.natAbs)) 32))def mU(k:J)(ds:H D):U D:=two ds λ a b=>iX (λ a=>iX (λ b=>a8 (mT k a b) (B (.aD [.int (a.fdiv b),.int (a.fmod b)]))) b) a
theorem ajZ(h:a<=b):b6 a n<=b6 b n:=Nat.div_le_div_right (aoB (pF (Vk h) n) 1)theorem Vq(a b:ah):(-a).fdiv (-b)=a.fdiv b/\ -((-a).fmod (-b))=a.fmod b:=⟨ao7 a b,L (ao8 ..) (L (Int.neg_neg ..) rfl)⟩theorem Vr{a b:ah}(r:0<b): -((-a-1).fdiv b)- 1=a.fdiv b/\b+(-((-a-1).fmod b)- 1)=a.fmod b:=by have e:∀x:ah,x.fdiv b=x/b/\x.fmod b=x% b:=λ x=>⟨za _ (vO r),zN _ (vO r)⟩;have h:=(ao9 (a:= -a-1) (q:= -(a/b)- 1) r).mpr ⟨by rw[Int.mul_sub,Int.mul_neg];have:=Int.mul_ediv_add_emod a b;lia,Ye (Int.le_sub_one_of_lt (Int.emod_lt_of_pos a r)),ant (Int.sub_le_self _ (Int.emod_nonneg a (Int.ne_of_gt r))) (Int.sub_lt_self _ Int.one_pos)⟩;simp[(e _).1,(e _).2,h.1,h.2];clear h e;exact⟨by lia,by lia⟩
theorem Jg(h:mT k a b=S)(G:∀A f:ah,mT (k-1) A f=S->k≠0->F [.int A,.int f]=B (.aD [.int (A.fdiv f),.int (A.fmod f)]))(s:∀A f:J,0<f->aQ f<=1000->b6 A (aQ f)<=32->d [.int (A:J),.int (f:J)]=B (.aD [.int (A/f:J),.int (A% f:J)])):
  Jf F d (.int a) (.int b)=B (.aD [.int (a.fdiv b),.int (a.fmod b)]):=by
 refine cq (bo h) λ e h=>?_;obtain⟨W,h⟩:=bo h;obtain⟨j,v⟩:=bo h;have P:=l_ e;have I:b≠0:=λ q=>bw (Y P.symm (cI.mpr q));unfold Jf;refine L (show cp .Eq (.int b) (.int 0)=B aj from aM B P) (Y (b:=(match decide _ with|true=>_|false=>_)) rfl ?_);by_cases r:b<0
 ·refine L (gJ r) (Y (b:=(F [.int _,.int _]).bind _) rfl ?_)
  obtain ok:k≠0/\mT (k-1) (-a) (-b)=true:=by
   unfold mT;simp only[ro λ q=>I (Int.neg_eq_zero.mp q),ZD,ZD,j,v];rcases k with _|_|_|k
   ·exact aS (iN (bo W).2) (Int.lt_asymm r)
   ·exact aS (iN W) (Int.lt_asymm r)
   ·exact⟨nofun,L (gJ (Int.neg_pos_of_neg r)) rfl⟩
   ·exact⟨nofun,rfl⟩
  refine L (G _ _ ok.2 ok.1) (Y (b:=CM [B _,B _]) rfl ?_);rw[(Vq a b).1,(Vq a b).2];rfl
 ·refine L (l1 r) (Y (b:=(match decide _ with|true=>_|false=>_)) rfl ?_)
  have R:=(Int.le_iff_lt_or_eq.mp (K5.mp r)).resolve_right (rd I);by_cases c:a<0
  ·refine L (gJ c) (Y (b:=(F [.int _,.int b]).bind _) rfl ?_)
   obtain ok:k≠0/\mT (k-1) (-a-1) b=true:=by
    unfold mT;rw[P,j,dD (bA (ajZ (by lia)) (b8 v))];rcases k with _|_|_|k
    ·exact aS (iN (bo W).1) (Yg.mpr c)
    ·exact⟨nofun,L (gJ (by lia)) (L (gJ R) rfl)⟩
    ·exact⟨nofun,L (gJ R) rfl⟩
    ·exact⟨nofun,rfl⟩
   refine L (G _ _ ok.2 ok.1) (Y (b:=CM [B (.int (-((-a-1).fdiv b)- 1)),B (.int (b+(-((-a-1).fmod b)- 1)))]) rfl ?_);rw[(Vr R).1,(Vr R).2];rfl
  ·simp[l1 c]
   obtain⟨A,rfl⟩:=YT (K5.mp c);obtain⟨f,rfl⟩:=YT (vO R);apply Y (s A f (q8.mp R) (b8 j) (b8 v));rw[sm,zN _ (m2 f)];rfl
theorem Jh(h:0<b)(W:aQ b<=1000)(j:b6 a (aQ b)<=32):yA [.int (a:J),.int (b:J)]=B (.aD [.int (a/b:J),.int (a% b:J)]):=by show a8 _ _=_;simp only[cg.mpr h,dD W,dD j];rfl
theorem Ji(h:mT k a b=S):mU k [.int a,.int b]=B (.aD [.int (a.fdiv b),.int (a.fmod b)]):=by show a8 _ _=_;exact L h rfl
theorem Jj(h:mU k ds=B d){GG:Prop}(K:∀a b,ds=[.int a,.int b]->mT k a b=S->d=.aD [.int (a.fdiv b),.int (a.fmod b)]->GG):GG:=
 nK h λ x y e h=>p4 h λ a E h=>p4 h λ b p h=>cq (dn h) λ W j=>K a b (L e (L E (L p rfl))) W ((ak j).symm)theorem Vs{a A:ao}(W:cK g a n c)(k:cK g A n C):qw g n (d4 [(a,c),(A,C)]):=hJ λ p h=>by cases h with|head=>exact W|tail _ h=>cases h with|head=>exact k|tail _ h=>exact aS h dS
theorem Vt:i4 (hb [("int_divmod",f),("_divmod_pos",F)]) (eG (d4 [(115,cx f),(108,cx F)])):=mP λ p h=>by cases h with|head=>exact⟨115,rfl,rfl⟩|tail _ h=>cases h with|head=>exact⟨108,rfl,rfl⟩|tail _ h=>exact aS h dS
theorem Vu(G:gn g)(V:12<=n):∀k,cK g 115 (n+3+k) (cx (mU k))
 |0=>kP G (fp _) (ct:=d4 [(108,cx yA)]) (hJ λ p v=>L (ek.mp v) (Je G V)) (mP λ p v=>L (ek.mp v) ⟨108,rfl,rfl⟩) rfl λ ds d e=>by
  refine Jj e λ a b c X T=>?_;subst c;refine L T ?_;obtain K:ka (hb [("_divmod_pos",yA)]) (aY 18) [.int a,.int b]=Jf (λ u=>aa) yA (.int a) (.int b):=by lk
  exact Y K (Jg X (λ u u u h=>aS rfl h) λ A f=>Jh)
 |k+1=>kP G (ao4 (fp _) k) (Vs (Vu G V k) (by have h:=Je G (n:=n+1+k) (by lia);rwa [show n+1+k+2=n+3+k by exact zg _ k 2]at h)) Vt rfl λ ds d e=>by refine Jj e λ a b w X W=>?_;subst w;exact L W (Jg X (λ u u h u=>Ji h) λ A f=>Jh)def CN(a b:ah)(σ:aE):U (Res V×aE):=match b==0 with|true=>B (.exc "ZeroDivisionError" [],σ)|false=>bR (mT 2 a b) (B (.ok (.d (.aD [.int (a.fdiv b),.int (a.fmod b)])),σ))def Jk:bV:=λ as ks σ=>bR (ks.isEmpty&&sH σ) (two as λ a b=>hi a (iX λ a=>hi b (iX λ b=>CN a b σ)))
theorem aj0(G:gn g)(V:12<=n):cK g 115 (n+5) Jk:=by
 refine cK.less (yb (mK (G.fns 115 _ _ rfl) G.base λ ρ I o W c=>lB (nZ G 0) 30 60 _ _ _ _ _ _ _ (nY G (show 0<n+4 by exact Nat.zero_lt_succ _) (Vs (Vu G V 1) (Je G (zL V)))) c)) λ as ks σ r e=>(bN e λ R e=>nK e λ x y w e=>iA e λ s F e=>p4 e λ a z e=>iA e λ t P e=>p4 e λ b p E=>L (k2.mp (bo R).1) ?_);subst w F z P p;have g:=UQ (bo R).2;unfold CN at E;refine dO (b==0) (λ q=>?_) λ q=>?_
 ·
  rw[q]at E;rw[<-ak E,eq_of_beq q];exact ajX (ds:=[.int a,.int 0]) g rfl
 ·
  rw[q]at E;exact bN E λ X E=>(ax (ak E) (yy (ds:=[.int a,.int b]) g (UP Vt (Jg X (λ u u h u=>Ji h) λ A f=>Jh) ⟨rfl,rfl,rfl⟩)))
theorem J4:∀pr:cz,dt pr (fQ pr)
 |[]=>JK _|(n,d)::pr=>(J4 pr).cons n d
section
variable {P:hI}{c en:Cfg}(K:i4 P c)
include K
theorem ama(h:∀k,jx P M s N pr b k=k f)(T:bY σ):b4 c en M s N (fQ pr) b σ=B (.ok (.next,fQ f),σ):=by
 classical
 have one:∀d:D,(∃ar,b4 c en M s N (fQ pr) b σ=B (.ok (.ret (.d d),ar),σ))\/b4 c en M s N (fQ pr) b σ=B (.ok (.next,fQ f),σ):=by
  intro d;rcases IZ K N pr _ b (λ p=>if p=f then B d else aa) d σ (L (h ..) (bC rfl)) (J4 pr) T with r|⟨Q,j,e,V,dP⟩
  ·exact .inl r
  ·refine .inr ?_
   by_cases q:Q=f
   ·rw[e,V.2 rfl,q]
   ·rw[a6 q]at dP;exact nn dP
 rcases one (.int 0)with⟨_,r⟩|r
 ·rcases one (.int 1)with⟨_,R⟩|R
  ·rw[r]at R;exact nomatch R
  ·exact R
 ·exact r
theorem amb(h:jx P M s N pr b (λ u=>aa)=B d)(R:bY σ):∃ar,b4 c en M s N (fQ pr) b σ=B (.ok (.ret (.d d),ar),σ):=by
 rcases IZ K N pr _ b _ d σ h (J4 pr) R with r|⟨_,_,_,_,dP⟩
 ·exact r
 ·exact nn dP
end
def yV(ds:H D):U D:=sL (CD λ a n=>a8 (aZ 1 n&&(aZ n 1000&&aZ (b6 a n) 32)) (B (.ae (dB n (b6 a n) a)))) ds
def vx(ds:H D):U D:=two ds λ a b=>mF b λ n=>x1 (λ xs=>(mJ xs).bind λ m=>bR (aZ n 1000&&(aZ (O m) 32&&m.all λ x=>bE x (2^n))) (B (.int (fA n m:J)))) a
theorem amc(G:gn g)(V:12<=n):cK g 101 (n+1) (cx vx):=cK.less (Vo G V) λ as ks σ r e=>by obtain⟨r,af⟩:=r;refine ys e λ ds d E f R h s D=>?_;subst E f s D;exact nK h λ a b E h=>nU h λ n f h=>BQ h λ xs s h=>b3 h λ m D h=>bN h λ q j=>by simp only[E,f,s,x9 D,<-ak j];exact yy R (Vm (b8 (bo q).1) rfl rfl rfl (b8 (bo (bo q).2).1) (λ x M=>cg.mp (b9.mp (bo (bo q).2).2 x M)))abbrev lV:=J->H D->U D
noncomputable def J5(F:lV):H (ai×(H D->U D)):=[("_law_figures",F 1),("_law_rows",F 2),("_digits2int",F 3),("_int2digits",F 4),("_law_chair",F 5),("_law_light",F 6),("_law_told",F 7),("_law_waves",F 8)]def kh(F:lV):hI:=⟨("int_divmod",F 0)::(fl (J5 F)).mN,(fl (J5 F)).jw⟩def FL(ch:H D->U D):lV:=λ i=>match i with|0=>mU 2|1=>lN 6|2=>CI|3=>vx|4=>yV|5=>ch|6=>Jd|7=>Jc|_=>CJ
def XJ(ch:H D->U D):H (ao×bV):=[(115,Jk),(330,cx (lN 6)),(335,cx CI),(101,cx vx),(94,cx yV),(350,cx ch),(355,cx Jd),(360,cx Jc),(365,cx CJ)]abbrev J6(ch:H D->U D):Cfg:=eG (d4 (XJ ch))theorem amd(h:ct 115=B Jk):CB (eG ct) (.obj 115) (mU 2):=by refine λ ds d e σ R m p=>Jj e λ a b w X W=>?_;subst w;refine L W ?_;show(match ct 115 with|some C=>ju C [] m [] []|none=>.au) σ=_;refine L h ?_;show((cE m).bind _) σ=_;refine Y (aT p) (Y (eh (Dm R)) ?_);show CN a b σ=_;unfold CN;exact L (l_ (bo X).1) (eh X)
theorem XK(ch:H D->U D):i4 (kh (FL ch)) (J6 ch):=by
 have Bq:i4 (fl (J5 (FL ch))) (J6 ch):=sN (AllP.mem (.cons ⟨330,rfl,rfl⟩ (.cons ⟨335,rfl,rfl⟩ (.cons ⟨101,rfl,rfl⟩ (.cons ⟨94,rfl,rfl⟩ (.cons ⟨350,rfl,rfl⟩ (.cons ⟨355,rfl,rfl⟩ (.cons ⟨360,rfl,rfl⟩ (.cons ⟨365,rfl,rfl⟩ .nil)))))))));refine⟨Bq.gl,Bq.bf,Bq.loops,Bq.fuel,Bq.item,Bq.src,λ nm f e=>?_,Bq.jw⟩;obtain e:Y3 nm (("int_divmod",mU 2)::(fl _).mN)=B f:=e;dsimp only[gY]at e;refine dO (nm==("int_divmod")) (λ q=>?_) λ q=>?_
 ·
  rw[q]at e;exact ax (ak e) (L (cI.mp q) ⟨.obj 115,rfl,amd rfl⟩)
 ·
  rw[q]at e;exact Bq.mN nm f e
abbrev i8:Scope:=bz (aY 38)def lw(k:J):Stmt:=(bP (aY 38)).getD k (.Pass ew)abbrev yW(ch:H D->U D):=b4 (J6 ch) fj 30 i8
noncomputable def ame:H Str:=Zz ep ["script","told","cells","words","low","more","turns","sign","same","shift","up","move","above","rows","packed","quotient","rule","back","chair","painted","lit","half","red","green","blue","lights","mixes","tally","hues","rings","orders","left","waves","cross","never","often","due"]def hL(vs:H D):cz:=(ame.zip vs).reverse
noncomputable def Du(l:H ai):H PySem.Expr:=l.map λ n=>LJ n ⟨0,0,0,0⟩def jG(f:D->U D)(xs:H D):U D:=match bE (O xs) 1000 with|true=>(kQ f xs).map D.ae|false=>aa
def vy:D:=.aD (bb [178179,81,273,10006008331,113991150666,111163487,34838852,76052373])def Dv(x:D):U D:=(aI .Pow (.int 10) (.int 15)).bind λ b=>aI .Mod x b
def yX(s k:D):U D:=(fh vy k).bind λ a=>((cS [((jn s k (.int 60) (.int 8)).bind lL).bind (jG Dv)]).bind (gm lu)).bind λ b=>aI .Add a b
abbrev eT:PySem.Expr:=sY (lw 5)def XM(F:lV)(xs:H D):U D:=match bE (O xs) 1000 with|true=>(hs (d5 eT) (λ pr e=>(bJ (kh F) 29 (d5 eT) pr e).1) (λ pr e=>(bJ (kh F) 29 (d5 eT) pr e).2) (mV eT) (gb eT) [] xs).map D.ae|false=>aa
noncomputable def yY:D:=.int 281474976710656
section
variable (F:lV)(k:cz->U D)(s t c w lo mo bZ b_ g_ d3 up cf ab rw b2 g7 iW qx cr a b:D)(ch:H D->U D)abbrev SL(F:lV)(N:J)(pr:cz)(st:bx)(k:cz->U D):U D:=jx (kh F) 30 i8 N pr [st] k
theorem x_1:SL F 59 (hL [s,vy]) (lw 1) k=((kQ (yX s) (pk 0 8)).map D.ae).bind λ c=>k (hL [s,vy,c]):=by lk
end
section
variable (F:lV)(k:cz->U D)(s t w lo mo bZ b_ g_ d3 up cf ab rw b2 g7 iW qx cr a b en gG j1 pA mC pB pC pD:D)(ch:H D->U D)(x:J)
noncomputable abbrev J7(x:J)(en gG pA mC pB pC pD:D):D:=.ae [en,gG,.int (x:J),pA,mC,pB,pC,pD]noncomputable def Dw(b_ x:J):Int:=(1-2*(b_:ah))*((x:ah)+1)theorem x_4:bq (aw 4) (λ mo=>bq (aw 2) λ b_=>bq (aw 7) λ d3=>SL F 56 (hL [s,t,J7 x en gG pA mC pB pC pD,w,lo,.int (mo:J),bZ,.int (b_:J),g_,.int (d3:J)]) (lw 4) k)=br (aw 4) λ mo=>br (aw 2) λ b_=>br (aw 7) λ d3=>k (hL [s,t,J7 x en gG pA mC pB pC pD,w,lo,.int (mo:J),bZ,.int (b_:J),g_,.int (d3:J),.int ((mo:ah)+1),.int ((d3:ah)- 3),.int (Dw b_ x)]):=by lk
theorem x_5:bq (aw 2) (λ i=>SL F 55 (hL [s,t,.ae [en,gG,j1,pA,mC,pB,pC,pD],w,lo,mo,bZ,b_,.int (i:J),d3,up,cf,ab]) (lw 5) k)=br (aw 2) λ i=>(((cS [F 2 [en],F 2 [match aL i 0 with|true=>en|false=>gG]]).bind (yn 1 (gb eT).target)).bind (XM F)).bind λ r=>k (hL [s,t,.ae [en,gG,j1,pA,mC,pB,pC,pD],w,lo,mo,bZ,b_,.int (i:J),d3,up,cf,ab,r]):=by lk
theorem x_6(c:D):SL F 54 (hL [s,t,c,w,lo,mo,bZ,b_,g_,d3,up,cf,ab,rw]) (lw 6) k=((aI .Mult ab yY).bind λ a=>(F 3 [rw,.int 16]).bind λ b=>aI .Add a b).bind λ p=>k (hL [s,t,c,w,lo,mo,bZ,b_,g_,d3,up,cf,ab,rw,p]):=rfl
theorem x_7(c:D):SL F 53 (hL [s,t,c,w,lo,mo,bZ,b_,g_,d3,up,cf,ab,rw,b2]) (lw 7) k=(F 0 [b2,yY]).bind λ d=>(hE d 2).bind λ ds=>pj i8 (Du ["quotient","rule"]) ds (hL [s,t,c,w,lo,mo,bZ,b_,g_,d3,up,cf,ab,rw,b2]) k:=rfl
theorem amf(c:D):((hE (.aD [g7,iW]) 2).bind λ ds=>pj i8 (Du ["quotient","rule"]) ds (hL [s,t,c,w,lo,mo,bZ,b_,g_,d3,up,cf,ab,rw,b2]) k)=k (hL [s,t,c,w,lo,mo,bZ,b_,g_,d3,up,cf,ab,rw,b2,g7,iW]):=rfl
theorem x_8(c:D):SL F 52 (hL [s,t,c,w,lo,mo,bZ,b_,g_,d3,up,cf,ab,rw,b2,g7,iW]) (lw 8) k=(F 4 [iW,.int 16]).bind λ d=>k (hL [s,t,c,w,lo,mo,bZ,b_,g_,d3,up,cf,ab,rw,b2,g7,iW,d]):=rfl
theorem x_9:SL F 51 (hL [s,t,.ae [en,gG,j1,pA,mC,pB,pC,pD],w,lo,mo,bZ,b_,g_,d3,up,cf,ab,rw,b2,g7,iW,qx]) (lw 9) k=(F 5 [.ae [pA,mC,pB,pC,pD],w]).bind λ d=>k (hL [s,t,.ae [en,gG,j1,pA,mC,pB,pC,pD],w,lo,mo,bZ,b_,g_,d3,up,cf,ab,rw,b2,g7,iW,qx,d]):=by lk
theorem J8(N j:J)(pr:cz)(D:j=10\/j=24\/j=27)(h:(bJ (kh F) 30 i8 pr (hK (lw j))).2=B aj):SL F (N+3) pr (lw j) k=k pr:=by
 obtain e:SL F (N+3) pr (lw j) k=(bJ (kh F) 30 i8 pr (hK (lw j))).2.bind λ c=>match c with|true=>jx (kh F) 30 i8 (N+2) pr (kS (lw j)) k|false=>k pr:=by rcases D with rfl|rfl|rfl<;>lk
 rw[e,h];rfl
def vz(F:lV)(ab rw:D)(p r:ah)(g7 qx l:D):U Bool:=Ct .Or [B aj,cp .NotEq (.aD [g7,qx]) (.aD [ab,rw]),cp .Eq l (.ae [.int 0]),(F 0 [.int (-p),.int (-281474976710656)]).bind λ a=>cp .NotEq a (.aD [ab,.int (-r)])]
variable (i p r:ah)abbrev vA(s t c w lo mo bZ b_ g_ d3 up cf ab rw b2 g7 iW qx cr:D):cz:=hL [s,t,c,w,lo,mo,bZ,b_,g_,d3,up,cf,ab,rw,b2,g7,iW,qx,cr]theorem amg(c:D):(bJ (kh F) 30 i8 (vA s t c w lo mo bZ b_ g_ d3 up cf ab rw (.int p) g7 (.int r) (.ae []) (.int i)) (hK (lw 10))).2=vz F ab rw p r g7 (.ae [.int 0,.int 0,.int 0]) (.ae []):=rfl
theorem amh(c:D):(bJ (kh F) 30 i8 (vA s t c w lo mo bZ b_ g_ d3 up cf ab rw (.int p) g7 (.int r) (.ae [en]) (.int i)) (hK (lw 10))).2=vz F ab rw p r g7 (.ae [en,.int 0,.int 0]) (.ae [en]):=by lk
theorem ami(c:D):(bJ (kh F) 30 i8 (vA s t c w lo mo bZ b_ g_ d3 up cf ab rw (.int p) g7 (.int r) (.ae [en,gG]) (.int i)) (hK (lw 10))).2=vz F ab rw p r g7 (.ae [en,gG,.int 0]) (.ae [gG]):=by lk
theorem amj(c:D):(bJ (kh F) 30 i8 (vA s t c w lo mo bZ b_ g_ d3 up cf ab rw (.int p) g7 (.int r) (.ae [en,gG,j1]) (.int i)) (hK (lw 10))).2=vz F ab rw p r g7 (.ae [en,gG,j1]) (.ae [j1]):=by lk
end
noncomputable abbrev J9(m:J):D:=.int ((m:ah)+1)
noncomputable abbrev yZ(s:J):D:=.int ((s:ah)- 3)abbrev mZ(lo bZ up cf rw cr:D)(v:J->D):cz:=vA (v 0) (v 1) (v 2) eI lo (v 4) bZ (v 5) (v 6) (v 7) up cf (v 8) rw (v 9) (v 10) (v 11) (v 12) cr
noncomputable def ta(o s:J):Nat:=(8*o+45+s)% 48
def q5:D:=.ae ((aw 6).map λ o=>.ae (bb (mQ o)))def J_(i:J):D:=.ae (bb ((mQ i).map (8* ·)))def XN:D:=.ae (bb (hQ 16 0))def y0(F:lV)(r:D)(h lamp:ah):U D:=((((F 4 [r,.int 1]).bind λ a=>aI .Add a XN).bind λ o=>jn o (.int h) (.int (h+8)) .none).bind lL).bind (jG λ d=>aI .LShift d (.int lamp))def Ka(cD de cc m:D):U D:=(((((aI .Mod m (.int 8)).bind λ i=>fh cD i).bind λ a=>(((aI .FloorDiv m (.int 8)).bind λ x=>aI .Mod x (.int 8)).bind λ i=>fh de i).bind λ b=>aI .Add a b).bind λ a=>((aI .FloorDiv m (.int 64)).bind λ i=>fh cc i).bind λ b=>aI .Add a b).bind λ s=>aI .Mult (.int 8) s).bind λ t=>aI .LShift (.int 1) t
def amk:D:=.ae ((aw 8).map Jb)def aml:D:=q5
def Dx(w:ah)(a b c:D):U D:=((((aI .Mult a b).bind λ x=>(aI .Mult b c).bind λ y=>aI .Add x y).bind λ x=>(aI .Mult c a).bind λ y=>aI .Add x y).bind λ s=>aI .Mult (.int w) s)
section
variable (F:lV)(k:cz->U D)(lo bZ up cf rw cr c2 hf cD de cc apw ej ty mi gs lf wv cs oc of lP h1 eE:D)(v:J->D)(ch:H D->U D)theorem amm:bq (aw 7) (λ s=>SL F 49 (mZ lo bZ up (yZ s) rw cr v) (lw 11) k)=br (aw 7) λ s=>((cS ((aw 6).map λ o=>F 6 [.int (ta o s:J),lo,up,bZ])).map D.ae).bind λ d=>k (("painted",d)::mZ lo bZ up (yZ s) rw cr v):=by lk
def amn(up p:D):U D:=(cS [((aI .LShift up (.int 22)).bind λ b=>cp .Gt p b).map D.bool]).bind (gm tL)def XO(up d:D):U D:=((jn d .none (.int 3) .none).bind lL).bind (jG (amn up))theorem amo(p:H D):SL F 48 (("painted",.ae p)::mZ lo bZ up cf rw cr v) (lw 12) k=(jG (XO up) p).bind λ d=>k (("lit",d)::("painted",.ae p)::mZ lo bZ up cf rw cr v):=by lk
theorem amq:bq (aw 6) (λ i=>SL F 47 (("lit",q5)::("painted",c2)::mZ lo bZ up cf rw (.int (i:J)) v) (lw 13) k)=br (aw 6) λ i=>k (("half",J_ i)::("lit",q5)::("painted",c2)::mZ lo bZ up cf rw (.int (i:J)) v):=rfl
theorem amr(h W j:ah):SL F 46 (("half",.ae [.int h,.int W,.int j])::("lit",q5)::("painted",c2)::mZ lo bZ up cf (.ae [lP,h1,eE]) cr v) (lw 14) k=((cS [y0 F lP h 0,y0 F h1 W 1,y0 F eE j 2]).map D.ae).bind λ d=>(hE d 3).bind λ ds=>pj i8 (Du ["red","green","blue"]) ds (("half",.ae [.int h,.int W,.int j])::("lit",q5)::("painted",c2)::mZ lo bZ up cf (.ae [lP,h1,eE]) cr v) k:=by lk
abbrev vB(lo bZ up cf rw cr:D)(v:J->D)(c2 hf cD de cc:D):cz:=("blue",cc)::("green",de)::("red",cD)::("half",hf)::("lit",q5)::("painted",c2)::mZ lo bZ up cf rw cr v
theorem ams:(((B (.ae [cD,de,cc])).bind λ d=>(hE d 3).bind λ ds=>pj i8 (Du ["red","green","blue"]) ds (("half",hf)::("lit",q5)::("painted",c2)::mZ lo bZ up cf rw cr v) k):U D)=k (vB lo bZ up cf rw cr v c2 hf cD de cc):=rfl
theorem amt:SL (FL ch) 45 (vB lo bZ up cf rw cr v c2 hf cD de cc) (lw 15) k=k (("lights",.ae (bb rK))::vB lo bZ up cf rw cr v c2 hf cD de cc):=rfl
theorem amu:yW ch 44 (fQ (("lights",.ae (bb rK))::vB lo bZ up cf rw cr v c2 hf cD de cc)) [lw 16] bK=B (.ok (.next,fQ (("mixes",.ae (bb g0))::("lights",.ae (bb rK))::vB lo bZ up cf rw cr v c2 hf cD de cc)),bK):=by lk
abbrev y1(lo bZ up cf rw cr:D)(v:J->D)(c2 hf cD de cc ej:D):cz:=("mixes",ej)::("lights",.ae (bb rK))::vB lo bZ up cf rw cr v c2 hf cD de cc
theorem amv(m:H D):SL F 43 (y1 lo bZ up cf rw cr v c2 hf cD de cc (.ae m)) (lw 17) k=((cS [(cS [jG (Ka cD de cc) m]).bind (gm lu),B (.int 8)]).bind (F 4)).bind λ d=>k (("tally",d)::y1 lo bZ up cf rw cr v c2 hf cD de cc (.ae m)):=by lk
theorem amw:SL F 42 (("tally",ty)::y1 lo bZ up cf rw cr v c2 hf cD de cc ej) (lw 18) k=((cS ((aw 8).map λ c=>F 7 [.int (c:J),lo,up])).map D.ae).bind λ d=>k (("hues",d)::("tally",ty)::y1 lo bZ up cf rw cr v c2 hf cD de cc ej):=by lk
abbrev Dy(lo bZ up cf rw cr:D)(v:J->D)(c2 hf cD de cc ej ty:D):cz:=("hues",amk)::("tally",ty)::y1 lo bZ up cf rw cr v c2 hf cD de cc ej
def Dz(t:J->J)(c:J):D:=.ae (bb ((aw c).map t))noncomputable def Kb(t:J->J)(c:J):Int:=match aL c 0 with|true=>0|false=>match aL c 8 with|true=>0+(t 0:ah)+(t 7:ah)|false=>0+(t 0:ah)theorem amx(t:J->J):bq (aw 9) (λ c=>SL F 41 (Dy lo bZ up cf rw cr v c2 hf cD de cc ej (Dz t c)) (lw 19) k)=br (aw 9) λ c=>k (("rings",.int (Kb t c))::Dy lo bZ up cf rw cr v c2 hf cD de cc ej (Dz t c)):=rfl
abbrev vC(lo bZ up cf rw cr:D)(v:J->D)(c2 hf cD de cc ej ty gs:D):cz:=("orders",aml)::("rings",gs)::Dy lo bZ up cf rw cr v c2 hf cD de cc ej ty
end
def Kc(r lamp:D):U D:=((aI .Mult (.int 8) lamp).bind λ s=>aI .RShift r s).bind λ x=>aI .BitAnd x (.int 255)noncomputable def tb(a:J->D):D:=.ae ((aw 8).map a)def Kd(gj cW ft:ah):U D:=sy .Or [sy .And [(cp .In (.int 0) (.ae [.int gj,.int cW,.int ft])).map D.bool,(cp .In (.int 255) (.ae [.int gj,.int cW,.int ft])).map D.bool],sy .And [((cp .Eq (.int gj) (.int cW)).bind λ c=>match c with|true=>cp .Eq (.int cW) (.int ft)|false=>B aj).map D.bool,(cp .In (.int gj) (.aD (bb [170,204,240,85,51,15]))).map D.bool]]noncomputable def XQ(r:J):D:=match aL r 0 with|true=>.none|false=>.aD [.int (216/r:J),.int (216% r:J)]def XR(o s:J):H Nat:=pJ (I3 (match aZ s 3 with|true=>3-s|false=>s-3)) (mQ o) (mQ (match aZ s 3 with|true=>(o+5)% 6|false=>(o+1)% 6))def XS(lo up:D)(xs:H J)(p:J):U D:=(((cS (xs.map λ x=>aI .Mult up (.int (x:J)))).map D.ae).bind λ a=>aI .Add a (.ae [.int (p:J),.int (p:J)])).bind λ a=>((cS [B up,aI .Add lo up,(aI .Mult (.int 2) lo).bind λ x=>aI .Add x up,B up]).bind λ xs=>a8 (dc xs) (B (.ae xs))).bind λ b=>aI .Add a b
def XT(r:D):U D:=(lL r).bind (jG λ one=>aI .LShift one (.int 20))
section
variable (F:lV)(k:cz->U D)(lo bZ up cf rw cr c2 hf cD de cc ej ty gs lf wv cs oc of lP h1 eE gj cW ft:D)(v:J->D)(ch:H D->U D)theorem amy:SL F 40 (("rings",gs)::Dy lo bZ up cf rw cr v c2 hf cD de cc ej ty) (lw 20) k=k (vC lo bZ up cf rw cr v c2 hf cD de cc ej ty gs):=by lk
theorem amz:bq (aw 6) (λ i=>SL F 39 (vC lo bZ up cf (.ae [lP,h1,eE]) (.int (i:J)) v c2 hf cD de cc ej ty gs) (lw 21) k)=br (aw 6) λ i=>((cS (pJ (λ r a=>Kc r (.int (a:J))) [lP,h1,eE] (mQ i))).map D.ae).bind λ d=>k (("left",d)::vC lo bZ up cf (.ae [lP,h1,eE]) (.int (i:J)) v c2 hf cD de cc ej ty gs):=by lk
theorem amA:SL F 38 (("left",.ae [gj,cW,ft])::vC lo bZ up cf rw cr v c2 hf cD de cc ej ty gs) (lw 22) k=((cS [F 8 [gj],F 8 [cW],F 8 [ft]]).map D.ae).bind λ d=>k (("waves",d)::("left",.ae [gj,cW,ft])::vC lo bZ up cf rw cr v c2 hf cD de cc ej ty gs):=rfl
abbrev Ke(lo bZ up cf rw cr:D)(v:J->D)(c2 hf cD de cc ej ty gs lf wv:D):cz:=("waves",wv)::("left",lf)::vC lo bZ up cf rw cr v c2 hf cD de cc ej ty gs
theorem amB(a b c:J->D):SL F 37 (Ke lo bZ up cf rw cr v c2 hf cD de cc ej ty gs lf (.ae [tb a,tb b,tb c])) (lw 23) k=((cS [(cS ((aw 8).map λ m=>Dx (jh m) (a m) (b m) (c m))).map D.ae]).bind (gm lu)).bind λ d=>k (("cross",d)::Ke lo bZ up cf rw cr v c2 hf cD de cc ej ty gs lf (.ae [tb a,tb b,tb c])):=by lk
abbrev DA(lo bZ up cf rw cr:D)(v:J->D)(c2 hf cD de cc ej ty gs lf wv cs:D):cz:=("cross",cs)::Ke lo bZ up cf rw cr v c2 hf cD de cc ej ty gs lf wv
theorem amC(r:ah):(bJ (kh F) 30 i8 (DA lo bZ up cf rw cr v c2 hf cD de cc ej ty (.int r) lf wv cs) (hK (lw 24))).2=(F 0 [cs,.int 32]).bind λ a=>cp .NotEq a (.aD [.int (r-54),.int 0]):=rfl
theorem amD(gj cW ft:ah):SL F 35 (DA lo bZ up cf rw cr v c2 hf cD de cc ej ty gs (.ae [.int gj,.int cW,.int ft]) wv cs) (lw 25) k=(Kd gj cW ft).bind λ d=>k (("never",d)::DA lo bZ up cf rw cr v c2 hf cD de cc ej ty gs (.ae [.int gj,.int cW,.int ft]) wv cs):=rfl
abbrev Kf(lo bZ up cf rw cr:D)(v:J->D)(c2 hf cD de cc ej ty gs lf wv cs oc:D):cz:=("never",oc)::DA lo bZ up cf rw cr v c2 hf cD de cc ej ty gs lf wv cs
theorem amE:bq (aw 217) (λ r=>yW ch 34 (fQ (Kf lo bZ up cf rw cr v c2 hf cD de cc ej ty (.int (r:J)) lf wv cs oc)) [lw 26] bK)=br (aw 217) λ r=>B (.ok (.next,fQ (("often",XQ r)::Kf lo bZ up cf rw cr v c2 hf cD de cc ej ty (.int (r:J)) lf wv cs oc)),bK):=rfl
abbrev DB(lo bZ up cf rw cr:D)(v:J->D)(c2 hf cD de cc ej ty gs lf wv cs oc of:D):cz:=("often",of)::Kf lo bZ up cf rw cr v c2 hf cD de cc ej ty gs lf wv cs oc
theorem amF:bq (aw 217) (λ r=>(bJ (kh F) 30 i8 (DB lo bZ up cf rw cr v c2 hf cD de cc ej ty (.int (r:J)) lf wv cs (.bool (aL r 0)) (XQ r)) (hK (lw 27))).2)=br (aw 217) λ u=>B false:=by lk
theorem amG:bq (aw 7) (λ s=>SL F 32 (DB lo bZ up (yZ s) rw cr v c2 hf cD de cc ej ty gs lf wv cs oc of) (lw 28) k)=br (aw 7) λ s=>((cS ((aw 6).map λ o=>XS lo up (XR o s) (ta o s))).map D.ae).bind λ d=>k (("due",d)::DB lo bZ up (yZ s) rw cr v c2 hf cD de cc ej ty gs lf wv cs oc of):=by lk
theorem amH(ds:H D):SL F 31 (("due",.ae ds)::DB lo bZ up cf rw cr v c2 hf cD de cc ej ty gs lf wv cs oc of) (lw 29) k=sy .And [((jG XT ds).bind λ b=>cp .Eq c2 b).map D.bool,B (.bool S)]:=by lk
end
theorem XU(a b:ah):aI .Add (.int a) (.int b)=B (.int (a+b)):=rfl
theorem DC(a:ah){b:ah}(h:aZ (i_ b) 64=S):aI .Mult (.int a) (.int b)=B (.int (a*b)):=by show a8 _ _=_;rw[h,Zt];rfl
theorem amI(b:ah)(h:aZ (i_ a) 64=S):aI .Mult (.int a) (.int b)=B (.int (a*b)):=by show a8 _ _=_;exact L h rfl
theorem Kg:∀zs:H ah,oY (zs.map D.int)=B zs
 |[]=>rfl|z::zs=>by show(oY _).map _=_;exact L (Kg zs) rfl
theorem Kh(zs:H ah):lu (.ae (zs.map D.int))=B (.int zs.sum):=by show(oY _).map _=_;rw[Kg];show B (D.int (preSum (λ j=>zs.getD j 0) _))=_;rw[preSum_getD,ov]
theorem XW{α:Type}{u w:α->D} :∀{l:H α},(∀x∈l,f (u x)=B (w x))->kQ f (l.map u)=B (l.map w)
 |[],_=>rfl|x::l,h=>by show(f _).bind _=_;rw[h x cV,XW λ y Q=>h y (c7 _ Q)];rfl
theorem Ki{α:Type}{u w:α->D}{l:H α}(z:O l<1000)(h:∀x∈l,f (u x)=B (w x)):jG f (l.map u)=B (.ae (l.map w)):=by unfold jG;rw[gg,cg.mpr z,XW h];rfl
noncomputable def Kj(k l:J):H Nat:=YS (rn (B (k:ah)) (B 60) (B 8) l).1 (rn (B (k:ah)) (B 60) (B 8) l).2.1 (rn (B (k:ah)) (B 60) (B 8) l).2.2
theorem XX(N:H ah):∀I:H J,uj (N.map D.int) I=(I.filterMap (N[·]?)).map D.int
 |[]=>rfl|i::I=>by obtain g:=XX N I;unfold uj at g ⊢;rw[Eb,Eb,Et];cases h:N[i]? with|none=>exact g|some n=>rw[apd];rw[g];rfl
theorem XY:∀V:H ah,∃n:J,(V.map (·.fmod 1000000000000000)).sum=(n:ah)/\n<=1000000000000000*O V
 |[]=>⟨0,rfl,bH _⟩
 |y::V=>by
  refine av (XY V) λ n h j=>⟨(y% 1000000000000000).toNat+n,?_,?_⟩
  ·rw[lY,ZH,h,zN _ (by decide)];lia
  ·rw[gx];lia
noncomputable def Kk(k:J):Nat:=[178179,81,273,10006008331,113991150666,111163487,34838852,76052373].getD k 0
theorem q6{N:H ah}(z:O N<=63)(h:k<8){GG:Prop}(K:∀(c:J),c<2^60->yX (.ae (N.map D.int)) (.int (k:J))=B (.int (c:J))->GG):GG:=by
 obtain W:=b8 (b9.mp (b9.mp (show((aw 64).all λ l=>(aw 8).all λ k=>aZ (O (Kj k l)) 8)=S from rfl) _ (a4.mpr (Ex ‹_›))) k (a4.mpr h));obtain j:=cg.mp (b9.mp (show((aw 8).all λ k=>bE (Kk k) 1000000000000)=S from rfl) k (a4.mpr h));obtain Q:=List.length_filterMap_le _ _;obtain s:jn (.ae _) (.int k) (.int 60) (.int 8)=B (.ae (((Kj k _).filterMap _).map D.int)):=by rw[<-XX];show a8 _ _=_;exact L (gg ..) (L (show dc (N.map D.int)=S by unfold dc;rw[gg];exact dD (by lia)) rfl)
 generalize (Kj k _).filterMap _=V at s Q;refine av (XY V) λ n e f=>K (Kk k+n) (by lia) ?_;unfold yX;rw[bg (show bq (aw 8) (λ k=>fh vy (.int k))=br _ λ k=>B (.int (Kk k))from rfl) (a4.mpr h),s];show((cS [jG Dv _]).bind _).bind _=_;refine L (Ki (by lia) λ y u=>(show Dv (.int y)=B (.int (y.fmod 1000000000000000))from rfl):jG Dv _=B _) ?_;show(lu (.ae _)).bind _=_;obtain E:(V.map λ y=>D.int _)=(V.map _).map D.int:=v3.symm;rw[E,Kh,e];rfl
theorem amJ{n:H ah}(h:O n<=63){G:Prop}(K:∀(C P c q A l x M:J),c<2^60->kQ (yX (.ae (n.map D.int))) (pk 0 8)=B [.int (C:J),.int (P:J),.int (c:J),.int (q:J),.int (A:J),.int (l:J),.int (x:J),.int (M:J)]->G):G:=by refine q6 h (k:=0) (by decide) λ C u e=>q6 h (k:=1) (by decide) λ P u W=>q6 h (k:=2) (by decide) λ c F j=>q6 h (k:=3) (by decide) λ q u v=>q6 h (k:=4) (by decide) λ A u I=>q6 h (k:=5) (by decide) λ l u Q=>q6 h (k:=6) (by decide) λ x u d=>q6 h (k:=7) (by decide) λ M u r=>K C P c q A l x M F ?_;generalize yX _=f at*;show(f (.int (0:J))).bind (λ a=>((f (.int (1:J))).bind λ a=>((f (.int (2:J))).bind λ a=>((f (.int (3:J))).bind λ a=>((f (.int (4:J))).bind λ a=>((f (.int (5:J))).bind λ a=>((f (.int (6:J))).bind λ a=>((f (.int (7:J))).bind λ a=>(B []).map _).map _).map _).map _).map _).map _).map _).map _)=_;rw[e,W,j,v,I,Q,d,r];rfl
theorem amK:((aw 2).all λ u=>(aw 3).all λ v=>(aw 4).all λ sp=>(aw 8).all λ p=>(aw 3).all λ l=>bE ((CH 1 u v sp p 0 0 0).getD l 0) 256)=true:=rfl
theorem XZ(x:J){GG:Prop}(K:∀a b c,yx x=[a,b,c]->a<256->b<256->c<256->GG):GG:=by
 refine Vb x λ k u v sp P f s t e W j w I Q M i r=>?_;have E:yx x=CH k u v sp P f s t:=by unfold yx;rw[e]
 have A:∀{n k:J}{p:J->aF},(aw n).all p=S->k<n->p k=true:=λ h q=>b9.mp h _ (a4.mpr q);rcases k with _|_|_|k
 ·exact K f s t E M i r
 ·have h:=λ l q=>cg.mp (b9.mp (A (A (A (A amK j) w) I) Q) l (a4.mpr q))
  exact K _ _ _ E (h 0 (by decide)) (h 1 (by decide)) (h 2 (by decide))
 ·have o:255*u<256:=by lia
  have d:255*(P% 2)<256:=by lia
  rcases v with _|_|_|v
  ·exact K _ _ _ E o d M
  ·exact K _ _ _ E d M o
  ·exact K _ _ _ E M o d
  ·exact aS w (ez.mpr (jJ 3 v))
 ·exact K f f f E M M M
theorem amL(F:lV)(a0 a A b E c4:J):(((cS [B (.ae (bb [a0,a,A])),B (.ae (bb [b,E,c4]))]).bind (yn 1 (gb eT).target)).bind (XM F))=B (.ae (bb [a0+256*b,a+256*E,A+256*c4])):=rfl
theorem tc(V:1<=n)(h:a<2^(k*n)):b6 a n<=k:=
 vT ((td V).mpr (L (LK k n) (eo (Nat.sub_lt (Nat.add_pos_right _ V) LG) (pF (u7 h) n))))
theorem amM(V:1<=n)(h:k<b6 a n):2^(k*n)<=a:=by
 rcases DW a (2^(k*n))with q|q
 ·have:=tc V q;lia
 ·exact q
theorem X0:aQ 281474976710656=49:=rfl
theorem amN(h:n<=1000)(j:O m<=32)(v:∀x∈m,x<2^n):vx [.ae (bb m),.int (n:J)]=B (.int (fA n m:J)):=by show(mJ _).bind _=_;exact L (I9 ..) (eh (bF.mpr ⟨dD h,bF.mpr ⟨dD j,b9.mpr λ x K=>cg.mpr (v x K)⟩⟩))theorem Kl(h:1<=n)(j:n<=1000)(v:b6 a n<=32):yV [.int (a:J),.int (n:J)]=B (.ae (dB n (b6 a n) a)):=by show a8 _ _=_;simp only[dD h,dD j,dD v];rfl
theorem X1(h:b≠0)(W:aQ b.natAbs<=1000)(j:b6 a.natAbs (aQ b.natAbs)<=32):mU 2 [.int a,.int b]=B (.aD [.int (a.fdiv b),.int (a.fmod b)]):=by apply Ji;unfold mT;rw[((beq_int_false h)),dD W,dD j];rfl
theorem amO{x b_:J}(h:x<2^60)(b:b_<2):(Dw b_ x).natAbs<=2^60:=by unfold Dw;rw[ape,(show(1-2*(b_:ah)).natAbs=1 by rcases Ah b with rfl|rfl<;>rfl),y8];exact h
section
variable {ab:ah}{R:J}(vD:ab.natAbs<=2^60)(hq:R<281474976710656)
include hq
theorem X2:(ab*281474976710656+(R:ah)).fdiv 281474976710656=ab/\(ab*281474976710656+(R:ah)).fmod 281474976710656=(R:ah):=by rw[za _ (by decide),zN _ (by decide)];exact(ao9 (by decide)).mpr ⟨L (Ky ..) (L (DV ..) rfl),m2 _,q8.mpr hq⟩
include vD
theorem X3:b6 (ab*281474976710656+(R:ah)).natAbs 49<=32:=
 tc (by decide) (gf (Int.natAbs_add_le _ _) (gf (vL (L (ape ..) (vJ _ vD)) (ik hq)) (by decide)))theorem amP:mU 2 [.int (ab*281474976710656+(R:ah)),yY]=B (.aD [.int ab,.int (R:J)]):=by refine cq (X2 (ab:=ab) hq) λ h j=>?_;obtain k:=X1 (b:=281474976710656) (by decide) (show aQ 281474976710656<=1000 by rw[X0];decide) (show b6 _ (aQ 281474976710656)<=32 by rw[X0];exact X3 vD hq);rw[h,j]at k;exact k
theorem amQ:mU 2 [.int (-(ab*281474976710656+(R:ah))),.int (-281474976710656)]=B (.aD [.int ab,.int (-(R:ah))]):=by refine cq (X2 (ab:=ab) hq) λ h j=>?_;have k:=X1 (a:= -(ab*281474976710656+R)) (b:= -281474976710656) (by decide) (by simp[(rfl)];decide) (L (ZD ..) (X3 vD hq));rw[ao7,h,ao8,j]at k;exact k
end
noncomputable def kW(r N T:J):Nat:=((0*65536+T)*65536+N)*65536+r
theorem amR(a:ah)(r N T:ah):cp .NotEq (.aD [.int a,.ae [.int r,.int N,.int T]]) (.aD [.int a,.ae [.int r,.int N,.int T]])=B false:=by show B _=_;simp
theorem amS(a b:ah):cp .NotEq (.aD [.int a,.int b]) (.aD [.int a,.int b])=B false:=by show B _=_;simp
theorem Km(h:r≠0):cp .Eq (.ae [.int (r:J)]) (.ae [.int 0])=B false:=by show B _=_;exact L (show((r:ah)==0)=aj by simp;omega) rfl
theorem DD(h:b=.ae [.int y,.int N,.int T])(j:cp .Eq l (.ae [.int 0])=B aj)(v:F 0 [.int (-p),.int (-281474976710656)]=B (.aD [.int ab,.int (-r)])):vz F (.int ab) (.ae [.int y,.int N,.int T]) p r (.int ab) b l=B false:=by unfold vz;simp[h,amR,j,v,gM,amS];rfl
theorem Kn(h:r<65536):(x*65536+r)% 65536=r:=L (iO ..) (L (Nat.add_mul_mod_self_right ..) (L (zp h) rfl))theorem X4(h:r<65536):(x*65536+r)/65536=x:=L (iO ..) (L (Nat.add_mul_div_right _ _ (by decide)) (L (om h) (L (hO ..) rfl)))
theorem X5(e:r<65536)(W:N<65536)(j:T<65536):kW r N T<281474976710656:=
 have s:∀{a b n:J},a<n->b<65536->a*65536+b<n*65536:=λ h k=>eo (LH k _) (ax (LK ..) (vJ 65536 h))
 s (s (s LG j) W) e
theorem test10(s t c w lo m v b_ y Q l M:D)(vD:ab.natAbs<=2^60)(q:r<65536)(W:N<65536)(j:eE<65536):
  (bJ (kh (FL ch)) 30 i8 (vA s t c w lo m v b_ y Q l M (.int ab) (.ae (bb [r,N,eE])) (.int (ab*281474976710656+(kW r N eE:ah))) (.int ab) (.int (kW r N eE:J)) (.ae (dB 16 (b6 (kW r N eE) 16) (kW r N eE))) (.int i)) (hK (lw 10))).2=B false:=by
 obtain hq:=X5 q W j;obtain p:=amQ vD hq;obtain A:b6 _ 16<=3:=tc (by decide) hq;obtain lo1:∀k,k<b6 _ 16->2^(k*16)<=kW r N eE:=λ k=>amM (by decide);obtain x:kW r N eE<2^(b6 _ 16*16):=yB (by decide);generalize b6 _ 16=n at*;refine ff ((show kW r N eE% 65536=r/\kW r N eE/65536% 65536=N/\kW r N eE/65536/65536% 65536=eE from by
   unfold kW;exact L (X4 q) (L (X4 W) ⟨Kn q,Kn W,Kn j⟩))) λ E V f=>?_
 generalize kW r N eE=R at*
 match n,A with
 |0,_=>obtain rfl:=KG.mp x;exact Y (amg ..) (DD (ax E (ax V (ax f rfl))) rfl p)
 |1,_=>
  refine ff ((show R% 65536≠0/\R/65536% 65536=0/\R/65536/65536% 65536=0 from by
    rw[zp x,om x];exact⟨hM (lo1 0 (by decide)),rfl,rfl⟩)) λ o u z=>?_
  rw[V]at u;rw[f]at z;obtain e:dB 16 1 R=[.int r]:=ax E rfl;refine L e (Y (amh ..) (DD ?_ (Km (ax E o)) p));rw[u,z];rfl
 |2,_=>
  obtain⟨u,z⟩:=(show R/65536% 65536≠0/\R/65536/65536% 65536=0 from by
    obtain x:R/65536<65536:=LC x;rw[zp x,om x];exact⟨hM (DG (lo1 1 (by decide)) (by decide)),rfl⟩)
  rw[f]at z;have e:dB 16 2 R=[.int r,.int N]:=E.symm▸V.symm▸rfl;exact L e (Y (ami ..) (DD (L z rfl) (Km (ax V u)) p))
 |3,_=>
  have z:=(show R/65536/65536% 65536≠0 from by
    rw[oq,zp (LC hq)];exact hM (DG (lo1 2 (by decide)) (by decide)))
  have e:dB 16 3 R=[.int r,.int N,.int eE]:=ax E (ax V (ax f rfl));exact L e (Y (amj ..) (DD rfl (Km (ax f z)) p))
 |_+4,h=>exact aS h (by lia)
theorem DE{α:Type}{f:α->U D}{g:α->D} :∀{l:H α},(∀x∈l,f x=B (g x))->cS (l.map f)=B (l.map g)
 |[],_=>rfl|x::l,h=>by show(f x).bind _=_;rw[h x cV,DE λ y Q=>h y (c7 _ Q)];rfl
def X6(lo m s:J):H D:=(aw 6).map λ o=>CC (ta o s) lo (m+1)theorem amT:bq (aw 5) (λ lo=>bq (aw 4) λ m=>bq (aw 7) λ s=>jG (XO (J9 m)) (X6 lo m s))=br (aw 5) λ u=>br (aw 4) λ u=>br (aw 7) λ u=>B q5:=rfl
theorem amU{p:J->aF}(e:l.map p=[S,S,S]){G:Prop}(k:∀a b c,l=[a,b,c]->p a=S->p b=S->p c=S->G):G:=by
 have h:O l=3:=(gg p).symm.trans (aM O e);rcases l with _|⟨a,_|⟨b,_|⟨c,_|_⟩⟩⟩
 ·exact aS h (by simp)
 ·exact aS h (by simp)
 ·exact aS h (by simp)
 ·have E:=kn e
  have f:=kn E.2;exact k a b c rfl E.1 f.1 (kn f.2).1
 ·exact aS h (by simp)
theorem amV(h:i<6){GG:Prop}(k:∀a b c,mQ i=[a,b,c]->a<2->b<2->c<2->GG):GG:=
 amU (bg (show bq _ (λ i=>(mQ i).map λ j=>bE j 2)=br _ λ u=>[S,S,S]from rfl) (a4.mpr h)) λ a b c e W l v=>k a b c e (cg.mp W) (cg.mp l) (cg.mp v)
theorem Ko(n:J):∀(c x:J),dB n c x=(aw c).map λ i=>.int (x/2^(n*i)% 2^n:J)
 |0,_=>rfl|c+1,x=>by simp only[anV,lY,v3];show D.int _::dB n c _=_;rw[Ko n c,Nat.mul_zero,zK];congr 1;refine YD λ i u=>(?_:D.int _=D.int (x/2^(n*(i+1))% 2^n:J));simp only[oq,<-ki,Nat.mul_add,vK,iO]noncomputable def X7(h l:J):H Nat:=YS (rn (B (8*(h:ah))) (B (8*(h:ah)+8)) aa l).1 (rn (B (8*(h:ah))) (B (8*(h:ah)+8)) aa l).2.1 (rn (B (8*(h:ah))) (B (8*(h:ah)+8)) aa l).2.2
theorem amW:bq (aw 2) (λ h=>bq (aw 17) λ l=>X7 h (l+16))=br (aw 2) λ h=>br (aw 17) λ u=>(aw 8).map (8*h+ ·):=rfl
def q7(l lamp:J)(i:J):D:=.int (dh l i*2^lamp:J)theorem amX:(bq (aw 2) λ v=>bq (aw 3) λ l=>aI .LShift (.int (v:J)) (.int (l:J)))=br (aw 2) λ v=>br (aw 3) λ l=>B (.int (v*2^l:J)):=rfl
theorem Kp{r h lamp:J}(E:r<65536)(g:h<2)(z:lamp<3):y0 (FL ch) (.int (r:J)) (8*(h:ah)) (lamp:J)=B (.ae ((aw 8).map (q7 (r/2^(8*h)% 256) lamp))):=by
 obtain C:b6 r 1<=16:=tc (by decide) E;unfold y0;obtain f:FL ch 4 [.int r,.int 1]=B _:=Kl (n:=1) (by decide) (by decide) (by lia);refine L f ?_;dsimp only[gM];obtain T:O (dB 1 _ r++bb (hQ 16 0))=b6 r 1+16:=L e2 (L (pd ..) rfl);obtain A:aI .Add (.ae _) XN=B _:=by show a8 (S&&mj (O _+16)) (B (D.ae (dB 1 (b6 r 1) r++bb _)))=_;rw[pd,show mj _=S from dD (by lia)];rfl
 rw[A];dsimp only[gM];obtain a:∀j,j<16->(dB 1 _ r++bb _)[j]?=B _:=by
  intro j F;rcases DW j (b6 r 1)with q|q
  ·rw[vU (L (pd ..) q),Ko,Et,List.getElem?_range q,apd,y8,Nat.pow_one]
  ·rw[pN (L (pd ..) q),pd]
   rw[(om (eo (yB (by decide):r<2^(b6 r 1*1)) (q9 (by decide) (by lia))))];unfold bb;rw[Et,List.getElem?_replicate,bC (Nat.sub_lt_of_lt F)];rfl
 generalize dB 1 _ r++bb _=X at T a;obtain m:jn (.ae X) (.int _) (.int _) .none=B _:=by
  show a8 _ (B (D.ae (uj X (X7 h _))))=_;rw[(show dc X=S by unfold dc;rw[T];exact dD (by lia)),T,(bg (bg amW (a4.mpr g)) (a4.mpr (show b6 r 1<17 by exact DY C)))];show B (D.ae (((aw 8).map _).filterMap _))=_;obtain this:∀l:H J,(∀i∈l,i<8)->(l.map (8*h+ ·)).filterMap (X[·]?)=l.map λ i=>.int (r/2^(8*h+i)% 2:J):=by intro l;induction l with|nil=>intro u;rfl|cons i l I=>intro z;rw[lY,Eb,a _ (by have:=z i cV;lia),lY];rw[I λ j F=>z j (c7 _ F)]
  exact L (this _ λ i s=>a4.mp s) rfl
 rw[m];show jG _ ((aw 8).map λ i=>D.int _)=_;refine Ki (by decide) λ i s=>(Y (bg (bg amX (a4.mpr (dN _ (by decide)))) (a4.mpr z)) ?_);delta q7 dh;obtain e:r/2^(8*h)% 256/2^i% 2=r/2^(8*h+i)% 2:=by rw[<-apf,<-apf,show 256=2^8 from rfl,Nat.testBit_mod_two_pow,gJ (a4.mp s),aoi,aoL,iO]
 exact L e rfl
theorem Kq(f:J->D)(h:j<8):fh (.ae ((aw 8).map f)) (.int (j:J))=B (f j):=
 bg (f:=λ j:J=>fh _ (.int j)) (g:=λ j=>B _) rfl (a4.mpr h)theorem amY:(bq (aw 8) λ c=>(aI .Mult (.int 8) (.int (c:J))).bind λ t=>aI .LShift (.int 1) t)=br (aw 8) λ c=>B (.int (2^(8*c):J)):=rfl
theorem amZ(f:H D->U D)(h:x=B a)(k:g a=B b):((cS [(cS [x]).bind (gm g),B v]).bind f)=f [b,v]:=by refine L h ?_;show((cS [g a,B v]).bind f)=_;exact L k rfl
theorem am0(l F n:J):((cS [(cS [jG (Ka (.ae ((aw 8).map (q7 l 0))) (.ae ((aw 8).map (q7 F 1))) (.ae ((aw 8).map (q7 n 2)))) (bb g0)]).bind (gm lu),B (.int 8)]).bind yV)=B (.ae (dB 8 (b6 (rP l F n) 8) (rP l F n))):=by
 obtain s:lu (.ae (g0.map λ m=>.int _))=B (.int (rP l F n)):=by
  obtain a:(g0.map λ m=>D.int (2^(8*codeN l F n m):J))=((wF l F n).map λ c=>((2^(8*c):J):ah)).map D.int:=by rfl
  rw[a,Kh];rfl
 exact Y (amZ yV (Ki (by rw[(show O g0=216 from rfl)];decide) λ m h=>(by
   unfold Ka;obtain d:aI .Mod _ (.int 8)=B _:=I7 (b:=8) (by decide);refine L (I7 (b:=8) (by decide)) (L (I8 (b:=8) (by decide) (by decide)) (L (I8 (by decide) (by decide)) ?_));rw[gM,gM,gM,d,gM,Kq _ (dN _ (by decide)),Kq _ (dN _ (by decide)),Kq _ (show m/64<8 by exact LC (cg.mp (b9.mp (show(g0.all λ m=>bE m 512)=S from rfl) m h))),gM,gM];obtain e:aI .Add (q7 l 0 _) (q7 F 1 _)=B (.int (dh l (m% 8)*2^0+dh F (m/8% 8)*2^1:J)):=rfl;obtain E:aI .Add (.int (dh l _*2^0+dh F _*2^1:J)) (q7 n 2 _)=B (.int (codeN l F n m)):=by show B (D.int (dh l _*2^0+dh F _*2^1+dh n _*2^2:J))=_;unfold codeN;rw[vK,y4 _ _,y4 _ (2^2)]
   simp only[e,gM,gM,E];exact bg amY (a4.mpr (FA l F n m)))) s) (Kl (by decide) (by decide) (bA (tc (k:=8) (by decide) (Ny l F n).2) (by decide)))
theorem am1(h:T<2^64):b6 T 8<9/\(.ae (dB 8 (b6 T 8) T):D)=Dz (λ i=>T/2^(8*i)% 256) (b6 T 8)/\Kb (λ i=>T/2^(8*i)% 256) (b6 T 8)=((T% 256+T/72057594037927936:J):ah):=by
 obtain A:b6 T 8<=8:=tc (by decide) h;obtain u:T<2^(b6 T 8*8):=yB (by decide);refine⟨Ex ‹_›,?_,?_⟩
 ·delta Dz bb
  simp only[Ko,v3];rfl
 ·dsimp only[Kb]
  generalize b6 T 8=c at A u;have e:T/2^(8*0)% 256=T% 256:=by rw[zK]
  obtain E:T/2^(8*7)% 256=T/72057594037927936:=by lia
  have lo:=λ q=>by have:=eo u (q9 (by decide) (Nat.mul_le_of_le_div 8 c 56 q));exact om this
  rcases(show c=0\/(c≠0/\c<=7)\/c=8 by lia)with rfl|⟨q1,Q⟩|rfl
  ·obtain this:=u
   refine L (KG.mp u) ?_;rfl
  ·rw[show aL c 0=aj from by cases q:aL c 0 with|false=>rfl|true=>exact aS (dE q) q1,show aL c 8=aj from by cases q:aL c 8 with|false=>rfl|true=>have:=dE q;lia]
   dsimp only;rw[e,lo Q];exact KS ↑(T% 256)
  ·refine(?_)
   rw[e,E];lia
theorem X8(n:J):D3 (n:ah) 255=((n% 256:J):ah):=by show((n&&&(2^8-1):J):ah)=_;exact L (Nat.and_two_pow_sub_one_eq_mod ..) rfl
theorem Kr(r:J)(h:a<2):Kc (.int (r:J)) (.int (a:J))=B (.int (r/2^(8*a)% 256:J)):=by
 rcases((Ah h))with rfl|rfl
 ·show B (D.int (D3 ((r:ah).fdiv (1:J)) 255))=_
  rw[sm,X8]
 ·show B (D.int (D3 ((r:ah).fdiv (256:J)) 255))=_
  rw[sm,X8]
theorem X9(f:J->ah)(h:∀p,f p=1\/f p= -1):∀l:H J,∃n:J,n<=2*O l/\l.foldr (λ p s=>f p+s) 0=(n:ah)- O l
 |[]=>⟨0,bH _,rfl⟩
 |p::l=>by
  refine av (X9 f h l) λ n W j=>?_;simp[anK,j,gx];rcases h p with q|q
  ·exact⟨n+2,by lia,by rw[q];lia⟩
  ·exact⟨n,by lia,by rw[q];lia⟩
theorem Ks(l m:J):aZ (i_ (gC l m)) 64=true:=by
 obtain s1:∀b,oJ b=1\/oJ b= -1:=λ b=>by induction b<;>trivial
 obtain⟨n,W,h⟩:=X9 (λ p=>oJ _*oJ (!FC _)) (λ p=>by
  rcases s1 (YA l p)with a|a<;>rcases s1 _ with b|b<;>rw[a,b]<;>decide) _
 have e:gC l m=n-8:=h;exact L e (b9.mp (show(aw 17).all (λ n=>aZ (i_ (n-8)) 64)=S by lk) n (a4.mpr (Ex ‹_›)))theorem am2(h:m<8)(l D n:J):Dx (jh m) (.int (gC l m)) (.int (gC D m)) (.int (gC n m))=B (.int (jh m*(gC l m*gC D m+(gC D m*gC n m+gC n m*gC l m)))):=by unfold Dx;simp[DC _ (Ks D m),DC _ (Ks n m),DC _ (Ks l m),gM,gM,XU,gM,gM,XU,gM,amI _ (b9.mp (show((aw 8).all λ m=>aZ (i_ (jh m)) 64)=S from rfl) m (a4.mpr h)),anD]
theorem X_{α:Type}(f:α->ah):∀l:H α,(l.map f).sum=b0 f l
 |[]=>rfl|a::l=>L lY (L ZH (L (X_ f l) rfl))theorem am3(l F n:J):((cS [(cS ((aw 8).map λ m=>Dx (jh m) (.int (gC l m)) (.int (gC F m)) (.int (gC n m)))).map D.ae]).bind (gm lu))=B (.int (32*((k_ l F n:ah)- 54))):=by rw[DE λ m h=>am2 (a4.mp h) l F n];rw[<-aa7,<-X_,<-Kh];rfl
theorem Kt(h:l<256):CJ [.int (l:J)]=B (tb λ m=>.int (gC l m)):=by show a8 _ _=_;refine L (cg.mpr h) ?_;unfold Ja;exact L (v3 ..) rfl
theorem am4:bq (aw 217) (λ r=>(mU 2 [.int (32*((r:ah)- 54)),.int 32]).bind λ a=>cp .NotEq a (.aD [.int ((r:ah)- 54),.int 0]))=br (aw 217) λ u=>B false:=rfl
theorem am5{r:J}(h:r<217):((mU 2 [.int (32*((r:ah)- 54)),.int 32]).bind λ a=>cp .NotEq a (.aD [.int ((r:ah)- 54),.int 0]))=B false:=bg am4 (a4.mpr h)theorem DF(a b:J):((a:ah)==(b:ah))=aL b a:=by cases h:aL b a with|true=>rw[dE h];rw[BEq.rfl]|false=>have:=Nat.ne_of_beq_eq_false h;simp;exact aoX rfl rfl λ J3=>this (id (oj J3))theorem Yb(x l D n:J):cp .In (.int (x:J)) (.ae [.int (l:J),.int (D:J),.int (n:J)])=B (aL x l|| (aL x D|| (aL x n||false))):=by simp only[<-DF];rfl
theorem am6(e:l<256)(W:cW<256)(j:n<256):never l cW n=aL (k_ l cW n) 0:=by cases h:never l cW n with|true=>rw[aa0 h];rfl|false=>cases q:aL _ 0 with|false=>rfl|true=>rw[aaY e W j (dE q)]at h;exact aS h (by decide)def Yc(lo m s:J):H D:=(aw 6).map λ o=>.ae (bb (U4 (ta o s) lo (m+1)))theorem am7:bq (aw 5) (λ lo=>bq (aw 4) λ m=>bq (aw 7) λ s=>cS ((aw 6).map λ o=>XS (.int (lo:J)) (J9 m) (XR o s) (ta o s)))=br (aw 5) λ lo=>br (aw 4) λ m=>br (aw 7) λ s=>B (Yc lo m s):=rfl
theorem am8:bq (aw 5) (λ lo=>bq (aw 4) λ m=>bq (aw 7) λ s=>((jG XT (Yc lo m s)).bind λ b=>cp .Eq (.ae (X6 lo m s)) b))=br (aw 5) λ u=>br (aw 4) λ u=>br (aw 7) λ u=>B true:=rfl
def XH(r:U (Res (f6×az)×aE)):U (D×aE):=r.bind λ q=>q.1.rec (λ p=>p.1.rec aa aa aa λ v=>v.rec (λ d=>B (d,q.2.take 2)) λ u=>aa) λ u u=>aa
theorem al8(h:XH r=B (d,s)){GG:Prop}(k:∀ar af,r=B (.ok (.ret (.d d),ar),af)->af.take 2=s->GG):GG:=by
 rcases r with _|⟨⟨f,ρ⟩|_,σ⟩
 ·exact nn h
 ·rcases f with _|_|_|v
  case ret=>
   rcases v with d|_
   ·have e:=bc (ak h);exact k ρ σ (ax e.1 rfl) e.2
   ·exact nn h
  all_goals exact nn h
 ·exact nn h
def J2(cl:D):az:=[("refused",.d (.str kT)),("words",.d eI),("cells",.d cl)]def XI(cl:D):az:=("begun",.aH 2)::J2 cl
section
variable (cl:D)theorem a_0:cB dY 60 [("words",.d eI),("cells",.d cl)] [cO 0] bK=B (.ok (.next,J2 cl),bK):=rfl
theorem J3:cB dY 59 (J2 cl) [cO 1] bK=B (.ok (.next,XI cl),[t0,t1,.ae (jF.map aP)]):=rfl
theorem a_2:cB dY 58 (XI cl) [cO 2] [t0,t1,.ae (jF.map aP)]=B (.ok (.next,cm 3 cl),n9 aj (jF.map aP) (jF.map aP) q2 []):=by lk
theorem al9:XH (cB dY 56 (cm 3 cl) [cO 4,cO 5,cO 6,cO 7,cO 8,cO 9] (n9 aj (jF.map aP) (jF.map aP) q2 []))=B (.int (3:J),bK):=by lk
end
theorem Dt(C:H J)(P:O C=5):∃i ar af,i<6/\cB dY 60 [("words",.d eI),("cells",.d (.ae (bb C)))] (bP (aY 34)) bK=B (.ok (.ret (.d (.int (i:J))),ar),af)/\af.take 2=bK:=by
 refine alB (cl:=.ae (bb C)) 5 0 4 aj jF q2 [] 1000 (by
   obtain k:∀(cs r:H J),JT r->ih cs=B r->2<=O cs->O cs<=5->eO _ q2=B _->Xe q2 cs:=λ cs r a b c d e=>⟨r,a,b,c,d,e⟩;obtain w:∀o,o<6->JT _:=λ o h=>(hV o 0 0 23 ⟨h,by decide,by decide,by decide,rfl,rfl⟩);refine⟨by decide,by decide,⟨λ u=>rfl,λ h=>bw h⟩,by decide,rfl,by decide,by decide,λ u=>⟨rfl,rfl⟩,λ cs h=>?_⟩;obtain h:cs=yR\/cs=[108,105,102]\/cs=[73,70,76]\/cs=[102,105,108]\/cs=[105,108,102]:=by
    rcases h with h|⟨e,W,rfl⟩
    ·exact .inl h
    ·unfold jF at W
     simp only[dM,dS,jO]at W;rcases W with rfl|rfl|rfl|rfl
     ·exact .inr (.inl rfl)
     ·exact .inr (.inr (.inl rfl))
     ·exact .inr (.inr (.inr (.inl rfl)))
     ·exact .inr (.inr (.inr (.inr rfl)))
   rcases h with rfl|rfl|rfl|rfl|rfl
   ·exact k _ _ (w 0 (by decide)) rfl (by decide) (by decide) rfl
   ·exact k _ _ (w 4 (by decide)) rfl (by decide) (by decide) rfl
   ·exact k _ _ (w 2 (by decide)) rfl (by decide) (by decide) (by lk)
   ·exact k _ _ (w 1 (by decide)) (by lk) (by decide) (by decide) (by lk)
   ·exact k _ _ (w 3 (by decide)) (by lk) (by decide) (by decide) (by lk)) (zh.mp (aM i9 (id (oj P)))) (jJ ..) (jJ ..) λ s es M Q I e=>?_
 have f:cB dY 57 (cm 3 (.ae (bb C))) [cO 3] (n9 aj (jF.map aP) (jF.map aP) q2 [])=B (.ok (.next,cm (JW s) (.ae (bb C))),n9 s (es.map aP) (jF.map aP) M Q):=by refine L (alz ..) (Y (gc ?_) rfl);show j5 (cm 3 (.ae (bb C))) 7 (gR d9 (iG (cO 3)) (λ ρ=>cB dY 56 ρ (f9 (cO 3))) 7 (cm 3 (.ae (bb C))) 8 1000 (cm (dR aj) (.ae (bb C))) (cC aj (jF.map aP) (jF.map aP) q2 (bb C) 0 []))=_;exact L (e ..) (alA I.e0)
 have go:∀i ar af,i<6->cB dY 56 (cm (JW s) (.ae (bb C))) [cO 4,cO 5,cO 6,cO 7,cO 8,cO 9] (n9 s (es.map aP) (jF.map aP) M Q)=B (.ok (.ret (.d (.int (i:J))),ar),af)->af.take 2=bK->∃i ar af,i<6/\cB dY 60 [("words",.d eI),("cells",.d (.ae (bb C)))] (bP (aY 34)) bK=B (.ok (.ret (.d (.int (i:J))),ar),af)/\af.take 2=bK:=by exact λ i ar af t h p=>ax (show bP (aY 34)=[cO 0,cO 1,cO 2,cO 3,cO 4,cO 5,cO 6,cO 7,cO 8,cO 9]from by lk).symm (e_ i ar af ⟨t,Y (cR (a_0 _)) (Y (cR (J3 _)) (Y (cR (a_2 _)) (Y (cR f) h))),p⟩)
 cases s with|true=>exact al7 I (jJ ..) go|false=>obtain⟨rfl,rfl⟩:=I.fy rfl;exact al8 (al9 (.ae (bb C))) λ ar af=>go 3 ar af (by decide)
theorem al_:∃F:H D->U D,(∀{g:bX},gn g->∀{n:J},0<n->cK g 350 (n+14) (cx F))/\∀c:H J,O c=5->∃i,i<6/\F [.ae (bb c),eI]=B (.int (i:J)):=by
 classical
 let F:H D->U D:=λ ds=>if h:∃c:H J,O c=5/\ds=[.ae (bb c),eI]then B (.int (LL (Dt _ (wg h).1):J))else aa
 obtain K:∀ds,(h:∃c:H J,O c=5/\ds=[.ae _,eI])->F ds=B _:=λ ds h=>dif_pos h;refine⟨F,λ{g} G {n} W=>?_,λ c P=>?_⟩
 ·refine yz G (fp _) (akW G W) rfl λ ds d e=>?_
  by_cases h:∃c:H J,O c=5/\ds=[.ae (bb c),eI]
  ·rw[K ds h]at e
   refine ax (ak e) (e4 (wg (Dt _ (wg h).1)) λ ar af u l v=>((λ I s=>?_:∀I:H D,I=[.ae _,eI]->O I=O _/\∃ar k,b4 _ fj 30 _ 60 ((eU _).zip (I.map V.d)).reverse (bP (aY 34)) bK=B (.ok (.ret (.d (.int (LL (Dt (LL h) (wg h).1):J))),ar),k)/\k.take 2=bK) ds ((wg h).2)));subst s;exact⟨rfl,ar,af,l,v⟩
  ·rw[show F ds=aa from ja h]at e;exact nn e
 ·have h:∃C:H J,O C=5/\ [D.ae (bb c),eI]=[.ae (bb C),eI]:=⟨c,P,rfl⟩
  exact⟨_,eM (wg (Dt (LL h) (wg h).1)) λ u u X u=>X,K _ h⟩
theorem ahW
  (C:∀c h' t,s.toks<=t->(∀b o,s.heap.get? b=B o->h'.get? b=B o)->s.heap.objs.size<=c->c<h'.objs.size->h'.CodeRec (.ref c) q->Q (.ref c) {s with heap:=h',toks:=t}):
  aO M A (newCode ctx name q f v P N F x i g w (B fd)) Q E s:=by
 refine λ z p r=>(aB (Zw λ j=>?_):aO M A _ Q E _) z p r;have K:∀(h:aX) o,(∀b o,s.heap.get? b=B o->h.get? b=B o)->∀b k8,s.heap.get? b=B k8->(h.push o).get? b=B k8:=λ h o k b k8 e=>dy _ (k b k8 e);have y:∀b o,s.heap.get? b=B o->s.heap.get? b=B o:=λ u u e=>e;have d:∀(h:aX) o,h.objs.size< (h.push o).objs.size:=λ h o=>L (er ..) (km _);have ks:∀{h:aX}{o n},n<=h.objs.size->n<=(h.push o).objs.size:=λ k=>bA k (ik (d ..));induction w with|none=>intro z p r;show Q _ _;dsimp only;exact C _ _ _ (ip (ip (zL (gK _ 3)))) (K _ _ (K _ _ (K _ _ (K _ _ y)))) (ks (ks (ks (bH _)))) (d ..) (hV _ _ _ _ ⟨rfl,d0 _ rfl,rfl,rfl⟩)|some l=>refine aB (aoS (aB (Y8 (aB (Zw λ a=>aB (aoS (aB (Zw λ b=>?_))))))));intro z p r;show Q _ _;dsimp only;exact C _ _ _ (ip (ip (zL (zL (zL (gK _ 3)))))) (K _ _ (K _ _ (K _ _ (K _ _ (K _ _ (K _ _ y)))))) (ks (ks (ks (ks (ks (bH _)))))) (d ..) (hV _ _ _ _ ⟨rfl,d0 _ rfl,rfl,rfl⟩)
theorem ahX
  (nE:env.code=.ref c)(C:zM s.heap c P)(w:s.heap.get? P=B (wd l))(fZ:TriplesOk l.toList)(a:Zx W l.toList=aa)
  (xQ:∀c' h' F,s.toks<=F->pM P s.heap h'->s.heap.objs.size<=c'->c'<h'.objs.size->h'.CodeRec (.ref c') q->h'.get? P=B (wd (l++ #[gy W.line,gy W.col,.ref c']))->Q (.ref c') {s with heap:=h',toks:=F}):
  aO M A (Zy env W f name q p j body) Q E s:=by
 refine hx C λ o vs z apo r=>hx r λ V OX inF m R=>t7 R λ tt dw Ia hd Ia I=>GC I λ y cw nN Ib N=>cq N λ k AS=>?_;delta Zy codeAt;refine L nE (aB (LD dw hd (ax y.symm (aB (LD w rfl ?_)))));rw[a,cw,nN,Ib,k];refine aB (ahW λ c' h' F d n g X i=>?_);have T:=n _ _ w;refine aB (wpAny_updateFieldsOfTheText T rfl ?_);obtain D:(Obj.mapFields (λ vs=>if (Zx W vs.toList).isSome=S then vs else vs++ #[gy W.line,gy W.col,.ref c']) _)=wd (l++ #[gy W.line,gy W.col,.ref c']):=by rw[Obj.mapFields,a];rfl
 obtain h:=Eh _ T (aM _ D);rw[D]at h;refine aB (LD h rfl ?_);rw[show(l++ #[gy W.line,gy W.col,hP c']).toList=l.toList++ [gy W.line,gy W.col,.ref c'] by simp,codeAmong_snoc _ fZ a];refine bl (xQ _ _ _ d (λ b k8 cv e=>((tA ..).extBut b k8 cv (n b k8 e))) g (L (Heap.size_after_update ..) X) (GJ i λ c₂ u v t K G x=>?_) h);injection K with K;subst K;exact(hV _ u v t ⟨rfl,(tA ..).extBut _ _ (hM (eo (dI w) g)) G,x⟩)
theorem ahY
  (G:env.code=.ref c)(C:zM s.heap c P)(T:md X s.heap P W.line W.col qualname)(IA:∀b∈X,b<s.heap.objs.size)
  (j:∀c' h' D,s.toks<=D->pM P s.heap h'->s.heap.objs.size<=h'.objs.size->h'.CodeRec (.ref c') qualname->c'∉X->md X h' P W.line W.col qualname->Q (.ref c') {s with heap:=h',toks:=D}):
  aO M A (Zy env W f name qualname p i body) Q E s:=by
 refine av T λ vs y R=>?_;rcases R with rfl|⟨x,m,n,t0,rfl,V,hC,uu,q0⟩
 ·refine ahX G C y trivial rfl λ c' h' D d hj I F h z=>?_
  have k:c'∉X:=λ q=>aS (IA c' q) (ez.mpr I);refine j c' h' D d hj (ik (gf I F)) h k (GJ h λ c₂ o v t N g r=>?_);injection N with N;subst N;exact⟨_,z,.inr (hV _ o v t ⟨Array.empty_append,k,g,r⟩)⟩
 ·exact wpAny_functionCode_hit G (C.code y (by trivial)) (c':=.ref x) (by simp[Zx,gy]) (j x s.heap s.toks (bH _) (λ u u u e=>e) (bH _) (hV x m n t0 ⟨rfl,hC,uu,q0⟩) V ⟨_,y,.inr (hV x m n t0 ⟨rfl,V,hC,uu,q0⟩)⟩)
theorem md.up{l c:J}{q:ai}(T:md X h P l c q)(k:∀b o,h.get? b=B o->h'.get? b=B o):md X h' P l c q:=
 av T λ vs e a=>
 ⟨vs,k _ _ e,a.imp id λ z=>GK z λ c o f t E g s D=>(hV c o f t ⟨E,g,k _ _ s,D⟩)⟩
theorem ahZ
  (n:zB g env=pure k)(N:env.globals=k0)(jr:s.heap.Ns k0 jl)(f:env.code=.ref c)(C:zM s.heap c P)(T:md X s.heap P p.line p.col qual)(IA:∀b∈X,b<s.heap.objs.size)(y:k≠ [])(hgP:k0≠P)(cv:s.heap.BuiltinsAt jl P)
  (h:∀c' ctv doc pm h' G,s.toks<=G->pM P s.heap h'->s.heap.objs.size<=h'.objs.size->h'.CodeRec (.ref c') qual->c'∉X->md X h' P p.line p.col qual->Q (.ref h'.objs.size) {s with heap:=h'.push (fnMade name qual R body g k doc pm c' ctv),toks:=G}):
  aO M A (makeFunction name qual R (.stmts body) g env [] [] [] p p.line) Q E s:=by
 refine L (makeFunction_eq ..) (L List.zip_nil_right ?_);simp[List.filterMap_nil,List.isEmpty_nil,if_true,D];refine la cv λ bm Bl hbm r Ia u v=>pR v λ hbo w F d=>?_;unfold makeTail;rw[n,N];refine aB (bl (L (show k.isEmpty=aj by cases k;exact aS rfl y;rfl) ?_));dsimp only;refine aB (wpAny_newTextTuple ?_);generalize fq:s.heap.push {cls:=.type "tuple",data:=.seq (Zz _ _).toArray} =c5;have K:∀b o,s.heap.get? b=B o->c5.get? b=B o:=λ b o e=>ax fq (dy _ e);have iY:s.heap.objs.size<=c5.objs.size:=ax fq (L (er ..) (hg _));refine aB (ahY f (C.keeps K) (T.up K) (λ b q=>eo (IA b q) iY) λ c' h' G j hj I i l W=>?_);obtain z:=(jr.keeps K).extBut hj hgP;have m:=λ b o hb' e=>hj b o hb' (K b o e);refine aB (wpAny_builtinsFor z hbm r (m _ _ u hbo) w F d (aB (wpAny_nsGet z ?_)));cases apq:docOf body with|none=>exact aB (bl (ku (h c' _ .none _ h' G j m (bA iY I) i l W) (by size_fits)))|some t=>exact aB (D2 (ku (h c' _ _ _ h' _ (ip j) m (bA iY I) i l W) (by size_fits)))
theorem To(c:dq g x sc env n X){nm q:ai}{p:Arguments}{body:H bx}{G:bW}{A:cP}{k:H (ai×ao)}{cAd P:ao}{i:J}
  (dp:qualnameIn env nm nm=q)(hd0:p.defaults=[])(Hs:p.kw_defaults=[])(ha':annTrees p aa env=[])(xJ:zB G env=pure k)(AS:k≠ [])(j:env.code=.ref cAd)(C:zM g.K cAd P)(hge:env.globals=k0)
  (xE:∃jl,g.K.Ns k0 jl/\g.K.BuiltinsAt jl P)(Gy:dU sc nm=S)
  {α:H ao}{σ:aE}{s:aU}(I:aG g (a3 x X) α σ s.heap)(dm:1<=s.toks)(R:bp g (a3 x X) env ρ α s.heap)(V:σ[i]?=B (.tab P A.line A.col q)){Q:m5->aU->Prop}{E:aq->aU->Prop}
  (h:∀f c' t D pm h' el aA,a_ (a3 x X).F (a3 x X).W α s.heap aA h'->aG g (a3 x X) aA σ h'->1<=el->bp g (a3 x X) env ((nm,.d (.obj f))::ρ) aA h'->h'.get? f=B (fnMade nm q p body G k D pm c' t)->h'.CodeRec (.ref c') q->
    f∉x.P++aA->c'∉x.P++aA->Q .next (cT s h' el)):
  aO (a5 g.prog g.w) x.A (fF (.FunctionDef nm p body [] aa [] G aa nm A) env) Q E s:=by
 refine av xE λ jl nR pa=>?_;obtain⟨a,hy,em⟩:∃a,α[i]?=B a/\d2 g.w.params _ α s.heap a _:=by have cL:=I.bM.length▸oR V;exact⟨_,tD cL,I.look (tD cL) V⟩
 obtain⟨rfl,T⟩:=em;obtain ah0:k0≠a:=λ q=>by refine oL nR λ o es c3 e r=>?_;rw[q,(I.b2 _ (.inr (eK hy))).1]at e;exact nn e
 refine nestDef_K hd0 Hs ha' (L dp ?_);have lt:∀b∈(a3 x X).P++α,b<s.heap.objs.size:=λ b=>I.ny;refine ahZ xJ hge (nR.keeps I.base) j (C.keeps I.base) T lt AS ah0 ?_ λ c' t D pm h' el ht' hj iY rc so tab=>?_
 ·exact la pa λ bm Bl f3 ho iw k7 N=>cq N λ eT r=>((bh bm Bl ⟨f3,ho,iw,k7,I.base _ _ eT,r⟩))
 generalize w:fnMade nm q p body G k D pm c' t=Cd;obtain⟨hD,l⟩:=I.dG.upd (h':=h'.push Cd) c.y.ok.cY hy (m:=.tab a A.line A.col q) (λ b o n e=>dy _ (hj b o n e)) (L (er ..) (zL iY)) ⟨rfl,(tab.up λ u u e=>dy Cd e)⟩;rw[(set_same V)]at hD;replace hD:aG g (a3 x X) α σ _:=hD.cF;obtain hf:=d0 _ (aM _ w.symm);have qB:h'.objs.size∉(a3 x X).P++α:=λ cv=>aS (lt _ cv) (ez.mpr iY);refine(AX (a:=.d _) c.h4 c.w (oS c.cM Gy)) α σ {s with heap:=h'.push Cd,toks:=el} (.ok _) σ hD (bA dm ht') ⟨(c.r9 I l R),aV.obj qB hf⟩ rfl _ _ (λ b r cw h8 h9 dw M eF i0 fN=>?_) eC.ok;obtain⟨f1,f2⟩:=M.outer c.y.ok.cY c.h4 _ _ hf qB;refine GJ rc λ c₂ y v z K ah1 ah2=>?_;injection K with K;subst K;exact cq (M.outer c.y.ok.cY c.h4 _ _ (dy Cd ah1) so) λ g1 g2=>h _ c' t D pm cw h8 h9 ((l.cF λ u q=>aW _ q).trans M) eF i0 fN (L w f1) (hV c' y v z ⟨rfl,g1,ah2⟩) f2 g2
noncomputable abbrev eA:Program:=KL
noncomputable abbrev jQ:U Value:=B (.ref 6)
noncomputable abbrev ng(bd:H bx)(ev:cn)(q0:cP)(t:bj Fin)(q:cP):Thread:=⟨t,.body bd ev,q,[vQ q0]⟩
def aC(w:dg)(bd:H bx)(ev:cn)(q0:cP){α:Type}(n:J)(s:oh)(q:cP)(t:bj α)(a:α)(s':oh)(Q:cP):Prop:=
 ∀(K:α->bj Fin)(h:aq->bj Fin)(a8:aF->aF)(l:H aq->H aq),m3 jK eA w 28 jQ 1 n s (ng bd ev q0 (t.wrap K h a8 l) q)=B (s',ng bd ev q0 (K a) Q)
theorem Mt:∀{n m:J}{s s1:oh}{t t1:DR}{r:U (oh×DR)},
  m3 iS p w N a b n s t=B (s1,t1)->m3 iS p w N a b m s1 t1=r->m3 iS p w N a b (n+m) s t=r
 |0,m,s,s1,t,t1,r,h,k=>by obtain⟨rfl,rfl⟩:=h;rw[hO];exact k|n+1,m,s,s1,t,t1,r,h,k=>by rw[show n+1+m=n+m+1 by exact zg n 1 m];dsimp only[m3]at h ⊢;cases y:endAt b t with|some f=>rw[y]at h;exact nn h|none=>rw[y]at h;cases o:stepOk N a t with|false=>rw[o]at h;exact nn h|true=>have h:=o▸h;cases c:tj _ p w s t with|none=>rw[c]at h;exact nn h|some x=>obtain⟨V,T⟩:=x;rw[c]at h;exact Mt h k
theorem Mu:∀{n m:J}{s s1:oh}{t t1:DR}{r:U (m5×oh×Code×cP)},
  m3 iS p w N a b n s t=B (s1,t1)->rf iS p w N a b m s1 t1=r->rf iS p w N a b (n+m) s t=r
 |0,m,s,s1,t,t1,r,h,k=>by refine cq (bc (ak h)) λ W q=>?_;refine L W ?_;refine L q ?_;rw[hO];exact k|n+1,m,s,s1,t,t1,r,h,k=>by rw[show n+1+m=n+m+1 by lia];dsimp only[m3]at h;dsimp only[rf];cases y:endAt b t with|some f=>rw[y]at h;exact nn h|none=>rw[y]at h;cases o:stepOk N a t with|false=>rw[o]at h;exact nn h|true=>have h:=o▸h;cases c:tj _ p w s t with|none=>rw[c]at h;exact nn h|some x=>obtain⟨V,T⟩:=x;rw[c]at h;exact Mu h k
theorem aC.pure(a:α):aC w bd ev q0 0 s q (tg a:bj α) a s q:=λ u u u u=>rfl
theorem aC.bind(W:aC w bd ev q0 n s q t a s1 q1)(j:aC w bd ev q0 m s1 q1 (f a) b s2 jb):aC w bd ev q0 (n+m) s q (t>>=f) b s2 jb:=λ K h a8 l=>by simp only[Sem.bind_eq_wrap',KN];exact Mt (W _ _ _ _) (j K h a8 l)theorem aC.keep(h:aC w bd ev q0 n s q t a s1 q1):aC w bd ev q0 n s q (t.keep vs) a s1 q1:=λ K R a8 l=>by simp only[Sem.keep_eq_wrap,KN];exact h _ _ _ _
theorem aC.holding(h:aC w bd ev q0 n s q t a s1 q1):aC w bd ev q0 n s q (d_ vs t) a s1 q1:=by
 unfold d_;generalize List.filter _ vs=l;rcases l with _|_
 ·exact h
 ·exact h.keep
theorem aC.onRaise(h:aC w bd ev q0 n s q t a s1 q1):aC w bd ev q0 n s q (t.onRaise l) a s1 q1:=λ K R a8 o=>by simp only[Sem.onRaise_eq_wrap,KN];exact h _ _ _ _
theorem aC.of_eq(h:aC w bd ev q0 n s q t a s1 q1)(e:T=t):aC w bd ev q0 n s q T a s1 q1:=L e h
theorem aC.rule(x:b1):aC w bd ev q0 1 s q (PySem.rule x) () s q:=λ u u u u=>rfl
theorem aC.at(p:cP):aC w bd ev q0 1 s q (dZ p) () s p:=λ u u u u=>rfl
theorem aC.load{os:eS}(Q:bE a N=S)(i:T.get a=B o)(z:alive o=B o):
  aC w bd ev q0 1 ⟨T,N,li,g,d,k,os⟩ q (loadPart a p) o ⟨T,N,li,g,d,k,os⟩ q:=λ K h a8 l=>by
 refine(?_:(match tj _ eA w ⟨T,N,li,g,d,k,os⟩ (ng bd ev q0 (.load a p λ x=>(DS x).wrap K h a8 l) q)with|some (s',t)=>m3 jK eA w 28 jQ 1 0 s' t|none=>aa)=_);unfold tj;dsimp only;refine L Q (L i ?_);dsimp only;refine L z ?_;rfl
theorem aC.update{os:eS}(r:aZ 28 a=S)(Q:bE a N=S)(i:T.get a=B o)(z:alive o=B o):
  aC w bd ev q0 1 ⟨T,N,li,g,d,k,os⟩ q (updatePart a p f) () ⟨T.set a f,N,li,g,d,k,os⟩ q:=λ K h a8 l=>by
 show(match stepOk 28 jQ (ng bd ev q0 (.update a p f λ x=>(DS x).wrap K h a8 l) q)with
  |false=>aa|true=>match tj (denote jK) eA w ⟨T,N,li,g,d,k,os⟩ (ng bd ev q0 (.update a p f λ x=>(DS x).wrap K h a8 l) q)with|some (s',t)=>m3 jK eA w 28 jQ 1 0 s' t|none=>aa)=_
 obtain e:stepOk 28 jQ (ng bd ev q0 (.update a p f λ x=>(DS x).wrap K h a8 l) q)=true:=by show(S&&(aZ 28 a||a==mainNs||a==DT||jQ==B _))=S;exact L r rfl
 refine L e ?_;unfold tj;dsimp only;refine L Q (L i ?_);dsimp only;refine L z ?_;rfl
theorem aC.alloc{os:eS}(h:((T.ins N o).get N).isSome=S):
  aC w bd ev q0 1 ⟨T,N,li,g,d,k,os⟩ q (PySem.alloc o) N ⟨T.ins N o,N+1,li,g,d,k,os⟩ q:=λ K R a8 l=>by
 refine(?_:(match tj _ eA w ⟨T,N,li,g,d,k,os⟩ (ng bd ev q0 (.alloc o λ x=>(DS x).wrap K R a8 l) q)with|some (s',t)=>m3 jK eA w 28 jQ 1 0 s' t|none=>aa)=_);unfold tj;dsimp only;refine L h ?_;rfl
theorem wo(f g:fe->fe):∀(T:BT)(a:J),(T.set a f).set a g=T.set a λ o=>g (f o)
 |.nil,_=>rfl
 |.node v l r,a=>by
  rw[tf,tf v l r a λ o=>g _];by_cases h:a=0
  ·subst h;rw[bC rfl,bC rfl,tf,bC rfl]
  ·rw[a6 h,a6 h]
   by_cases p:a% 2=1
   ·rw[bC p,bC p,tf,a6 h,bC p,wo]
   ·rw[a6 p,a6 p,tf,a6 h,a6 p,wo]
theorem ES:∀(T:BT)(a:J){o:fe},T.get a=B o->f o=g o->T.set a f=T.set a g
 |.nil,_,_,_,_=>rfl
 |.node v l r,a,o,h,e=>by
  rw[BT.get_node]at h;simp[tf,tf];by_cases q:a=0
  ·rw[bC q]at h ⊢;rw[bC q];refine L (ak h) ?_;rw[e]
  ·rw[a6 q]at h ⊢;rw[a6 q]
   by_cases p:a% 2=1
   ·rw[bC p]at h ⊢;rw[bC p,ES l _ h e]
   ·rw[a6 p]at h ⊢;rw[a6 p,ES r _ h e]theorem ox{T:BT}(f:fe->fe)(h:T.get a=B o):(T.set a f).get a=B (f o):=by rw[tk,bC rfl,h];rfl
theorem tN{T:BT}(f:fe->fe)(h:b≠a):(T.set a f).get b=T.get b:=by rw[tk,a6 h]noncomputable def cu(es:H e7)(c3:J):Obj:={cls:=.type "dict",data:=.dict es.toArray c3}
section
variable {w:dg}{bd:H bx}{ev:cn}{q0:cP}{α β:Type}{n m:J}{s s1 s2:oh}{q q1 jb:cP}
variable {T:BT}{N k:J}{li:Life}{g:fE zb}{dr:zc}{os:eS}{d:ao}{es:H e7}{c3:J}
theorem aC.entries(h:bE d N=S)(e:T.get d=B (cu es c3)):aC w bd ev q0 1 ⟨T,N,li,g,dr,k,os⟩ q (dictEntries d p) es.toArray ⟨T,N,li,g,dr,k,os⟩ q:=
 aC.bind (m:=0) (aC.load h e rfl) (aC.pure _)
theorem aC.L_(h:bE d N=S)(e:T.get d=B (cu es c3)):aC w bd ev q0 1 ⟨T,N,li,g,dr,k,os⟩ q (dictEpoch d p) c3 ⟨T,N,li,g,dr,k,os⟩ q:=
 aC.bind (m:=0) (aC.load h e rfl) (aC.pure _)
theorem aC.find(Q:bE d N=S)(p:T.get d=B (cu es c3))(o:∀e∈es,e.hash≠h):
  aC w bd ev q0 1 ⟨T,N,li,g,dr,k,os⟩ q (dictFind d (.int i t) h) aa ⟨T,N,li,g,dr,k,os⟩ q:=aC.holding (aC.bind (m:=0) (aC.entries Q p) (L ((show placesWithHash es.toArray.size _ h=[]from by
    dsimp only[placesWithHash];rw[anr];refine λ i u=>L ra ?_;cases e:es[i]? with
    |none=>simp|some x=>simpa using o x (eK e))) (aC.pure _)))
theorem aC.keys(p:aZ 28 d=S)(Q:bE d N=S)(h:T.get d=B (cu es c3))(G:O es<16777216):
  aC w bd ev q0 3 ⟨T,N,li,g,dr,k,os⟩ q (updateDictKeys d (·.push e) P) () ⟨T.set d (λ u=>cu (es++ [e]) (c3+1)),N,li,g,dr,k,os⟩ q:=by
 refine aC.bind (m:=2) (aC.load Q h rfl) (aC.bind (m:=1) (aC.update p Q h rfl) (L (ES T d h (aM (λ x=>(⟨.type "dict",aa,.dict x _, #[]⟩:fe)) (List.push_toArray es e)):T.set d _=T.set d (λ u=>cu _ _)) (aC.bind (m:=0) (aC.load Q (ox _ h) rfl) ?_)));obtain this:(cu (es++ [e]) _).data.pastItsLine=none:=by apply a6;simp;exact ik ‹_›
 exact L this (aC.pure _)theorem ZW{P:dg->Prop}(r:b1)(h:∀w b,P (World.withFollow w r b))(w:dg):P w:=byRow2 r (λ w=>h w aj) (λ w=>h w S) w
theorem ZX(w:dg)(b:aF)(i:ah)(t:Tok)(K:ah->bj Fin)(h:aq->bj Fin)(a8:aF->aF)(l:H aq->H aq):
  m3 jK eA (w.withFollow "special-get-raises" b) 28 jQ 1 5 ⟨T,N,li,g,dr,k,os⟩ (ng bd ev q0 ((pyHash (.int i t)).wrap K h a8 l) q)=B (⟨T,N,li,g,dr,k+1,os⟩,ng bd ev q0 ((ans (KH i)).wrap K h a8 l) q):=by
 induction b<;>lk
theorem ZY(i:ah):ans (KH i)=pure (te i):=by obtain h:=rawHash_range i;apply Y (bC (L (gJ h.1) (L (gJ h.2) rfl)));rfl
theorem aC.hash(i:ah)(t:Tok):aC w bd ev q0 5 ⟨T,N,li,g,dr,k,os⟩ q (pyHash (.int i t)) (te i) ⟨T,N,li,g,dr,k+1,os⟩ q:=λ K h a8 l=>by obtain e:=ZW (P:=λ w=>m3 jK eA w 28 jQ 1 5 ⟨T,N,li,g,dr,k,os⟩ _=B _) "special-get-raises" (λ w b=>ZX w b i t K h a8 l) w;rw[ZY]at e;exact e
theorem aC.set(h:aZ 28 d=S)(Q:bE d N=S)(r:T.get d=B (cu es c3))(o:∀e∈es,e.hash≠te i)(G:O es<16777216):
  aC w bd ev q0 10 ⟨T,N,li,g,dr,k,os⟩ q (dictSet d (.int i t) (.str v ET)) () ⟨T.set d (λ u=>cu (es++ [⟨te i,.int i t,.str v ET⟩]) (c3+1)),N,li,g,dr,k+1,os⟩ q:=aC.holding (aC.bind (m:=5) (aC.hash i t) (aC.holding (aC.bind (m:=4) (aC.find Q r o) (aC.bind (m:=3) (aC.rule _) (aC.keys h Q r G)))))
theorem aC.put(p:aZ 28 d=S)(Q:bE d N=S)(r:T.get d=B (cu es c3))(o:∀e∈es,e.hash≠h)(G:O es<16777216):
  aC w bd ev q0 4 ⟨T,N,li,g,dr,k,os⟩ q (dictPut d h (.int i t) (.str v ET)) () ⟨T.set d (λ u=>cu (es++ [⟨h,.int i t,.str v ET⟩]) (c3+1)),N,li,g,dr,k,os⟩ q:=aC.bind (m:=3) (aC.find Q r o) (aC.keys p Q r G)
end
theorem wm:∀(T:BT)(a:J),T.get a=B o->T.set a (λ u=>o)=T
 |.nil,_,_=>rfl
 |.node v l r,a,h=>by
  rw[BT.get_node]at h;rw[tf];by_cases e:a=0
  ·rw[bC e]at h ⊢;refine L (ak h) ?_;rfl
  ·rw[a6 e]at h ⊢
   by_cases p:a% 2=1
   ·rw[bC p]at h ⊢;rw[wm l _ h]
   ·rw[a6 p]at h ⊢;rw[wm r _ h]
theorem EU(h:0<=i)(W:i<2^60):te i=i:=by
 obtain e:KH i=i:=by unfold KH;simp only[((Int.natAbs_of_nonneg h))];rw[a6 (show¬i<0 by exact Int.not_lt_of_ge h)];rw[(Int.emod_eq_of_lt h (by have:(2^61-1)=2305843009213693951:=rfl;lia))];rw[(show(i== -1)=aj by simp;lia)];rfl
 unfold te;refine L e ?_;rw[(show(i== -1)=aj by simp;lia)];rfl
def asc(lo:ah)(l:H (ah×ai)):Bool:=l.rec (motive:=λ u=>ah->aF) (λ u=>S) (λ q u I lo=>decide (lo<q.1)&&(decide (q.1<2^60)&&I q.1)) lo
def d7(t:J)(l:H (ah×ai)):H DictEntry:=l.rec (motive:=λ u=>J->H e7) (λ u=>[]) (λ q u I t=>⟨q.1,.int q.1 t,.str q.2 (t+1)⟩::I (t+3)) t
noncomputable def k6(lo:ah):H (ah×ai)->ah
 |[]=>lo|(i,_)::r=>k6 i r
theorem jR:∀(t:J)(p:H (ah×ai)),O (d7 t p)=O p
 |_,[]=>rfl|t,(i,s)::r=>aM _ (jR _ r)theorem l5{lo i:ah}(h:asc lo ((i,s)::r)=S):lo<i/\i<2^60/\asc i r=true:=cq (bF.mp h) λ a b=>cq (bF.mp b) λ b c=>⟨iN a,iN b,c⟩def below(es:H e7)(lo:ah):Prop:=∀e∈es,e.hash<=lo
theorem Ma{lo i:ah}(h:below es lo)(t:lo<i):below (es++ [⟨i,k,v⟩]) i:=by
 intro e x;rcases bB.mp x with x|x
 ·exact vO (ant (h e x) t)
 ·rw[ek]at x;exact L x (DN _)theorem Mb{lo i:ah}(h:below es lo)(t:lo<i):∀e∈es,e.hash≠i:=λ e x q=>by have:=h e x;lia
noncomputable def Mc(ev:cn)(P:cP)(p:ah×ai)(a b:J×cP):bj aq×bj Value:=(bG (.Constant (.int p.1) a.1 a.2) ev,do let x<-bG (.Constant (.str p.2) b.1 b.2) ev;dZ P;pure x)
class inductive gA(ev:cn)(pos:cP):H (bj aq×bj aq)->H (ah×ai)->Prop
 |nil:gA ev pos [] []
 |cons {p a b ay di} :gA ev pos ay di->gA ev pos (Mc ev pos p a b::ay) (p::di)
section
variable {w:dg}{bd:H bx}{ev:cn}{q0:cP}{α β:Type}{n m:J}{s s1 s2:oh}{q q1 jb:cP}
variable {T:BT}{N k:J}{li:Life}{g:fE zb}{dr:zc}{os:eS}{d:ao}{es:H e7}{c3:J}theorem aC.Md{z p}(e:cn):aC w bd ev q0 1 ⟨T,N,li,g,dr,k,os⟩ q (bG (.Constant (.int i) z p) e) (.int i k) ⟨T,N,li,g,dr,k+1,os⟩ q:=λ K h a8 l=>by simp[Yp];rfl
theorem aC.Me{z p}(e:cn):aC w bd ev q0 1 ⟨T,N,li,g,dr,k,os⟩ q (bG (.Constant (.str i) z p) e) (.str i k) ⟨T,N,li,g,dr,k+1,os⟩ q:=λ K h a8 l=>by simp[Yp];rfl
theorem EV:∀{lo:ah}{di:H (ah×ai)},asc lo di=S->below (d7 t di) (k6 lo di)
 |lo,[],_=>λ e x=>by cases x
 |lo,(i,s)::r,h=>by
  refine ff (l5 h) λ W j v=>?_;intro e x;obtain M:∀{lo:ah}{di:H (ah×ai)},asc lo di=S->lo<=k6 lo di:=by intro lo di;induction di generalizing lo with|nil=>intro u;exact DN _|cons p r I=>intro h;exact ff (l5 h) λ a b c=>vO (Yj a (I c))
  rcases dM.mp x with rfl|x
  ·exact M v
  ·exact EV v e x
theorem aC.long(c:gA ev q ay P):∀{lo:ah}{T:BT}{k:J}{es:H e7}{c3:J},aZ 28 d=S->bE d N=S->T.get d=B (cu es c3)->0<=lo->asc lo P=S->below es lo->O es+O P<16777216->
  aC w bd ev q0 (13*O P) ⟨T,N,li,g,dr,k,os⟩ q (forIn ay kj λ p u=>(do let K<-p.1;let C<-d_ [K] p.2;d_ [K,C] (dictSet d K C);tg (m4 kj):bj (pH zd))) kj
   ⟨T.set d (λ u=>cu (es++d7 k P) (c3+O P)),N,li,g,dr,k+3*O P,os⟩ q:=by
 induction c with
 |nil=>intro lo T k es c3 h Q e _ _ _ _;simp only[show d7 k []=[]from rfl,ea,ze,rb];exact L (wm T d e) (aC.pure _)
 | @cons p a b ay P c I=>
  intro lo T k es c3 h Q e A R r G;refine ff (l5 R) λ W X x=>?_;obtain j:=EU (by lia) X;simp[gx]at G;refine L (kZ ..) (L (gx.symm▸iO .. :13*O _=13+13*O P) (aC.bind (s1:=⟨T.set d (λ u=>cu (es++ [⟨p.1,.int p.1 k,.str p.2 (k+1)⟩]) (c3+1)),N,li,g,dr,k+1+1+1,os⟩) (q1:=q) (a:=.yield kj) ?_ ?_))
  ·refine aC.bind (m:=12) (aC.Md (z:=a.1) (p:=a.2) ev) (aC.bind (m:=10) (aC.holding (aC.bind (m:=1) (aC.Me ev) (aC.bind (m:=0) (aC.at q) (aC.pure _)))) ?_)
   obtain this:=aC.set (v:=p.2) h Q e (L j (Mb r W)) (DO G);rw[j]at this;exact aC.bind (m:=0) (aC.holding this) (aC.pure _)
  ·obtain I:=I (k:=k+1+1+1) h Q (ox (λ u=>cu (es++ [⟨p.1,.int p.1 k,.str p.2 (k+1)⟩]) (c3+1)) e) (by lia) x (Ma r W) (by simp;lia)
   rw[wo]at I;simp only[(show es++ [⟨p.1,.int p.1 k,.str p.2 _⟩]++d7 _ P=es++d7 k ((p.1,p.2)::P) by rw[eb];rfl),(gx.symm▸zf c3 _:c3+1+O P=c3+O ((p.1,p.2)::P)),(show k+1+1+1+3*O P=k+3*O ((p.1,p.2)::P) by simp[gx];lia)]at I;exact I
end
section
variable {w:dg}{bd:H bx}{ev:cn}{q0:cP}{α β:Type}{n m:J}{s s1 s2:oh}{q q1 jb:cP}
variable {T:BT}{N k:J}{li:Life}{g:fE zb}{dr:zc}{os:eS}{d:ao}{es:H e7}{c3:J}def hv(t:J)(l:H (ah×ai)):H DictEntry:=l.rec (motive:=λ u=>J->H e7) (λ u=>[]) (λ q u I t=>⟨q.1,.int q.1 t,.str q.2 (t+1)⟩::I (t+2)) t
theorem EW:∀(t:J)(p:H (ah×ai)),O (hv t p)=O p
 |_,[]=>rfl|t,(i,s)::r=>aM _ (EW _ r)def z0(t:J)(l:H (ah×ai)):H (aq×aq):=l.rec (motive:=λ u=>J->H (aq×aq)) (λ u=>[]) (λ q u I t=>(.int q.1 t,.str q.2 (t+1))::I (t+2)) t
theorem aC.ZZ(c:gA ev q ay P):∀{k:J},aC w bd ev q0 (3*O P) ⟨T,N,li,g,dr,k,os⟩ q (Yr ay) (z0 k P) ⟨T,N,li,g,dr,k+2*O P,os⟩ q:=by induction c with|nil=>exact aC.pure _| @cons p a b ay P c i=>intro k;rw[(gx.symm▸iO .. :3*O _=3+3*O P),(show k+2*O _=k+1+1+2*O P by simp[gx];lia)];exact L (show 3+3*O P=1+(2+(3*O P+0)) by lia) (aC.bind (aC.Md ev) (aC.bind (aC.holding (aC.bind (m:=1) (aC.Me ev) (aC.bind (m:=0) (aC.at q) (aC.pure _)))) (aC.bind (aC.holding i) (aC.pure _))))
theorem aC.stores:∀{p:H (ah×ai)}{t:J}{lo:ah}{T:BT}{k:J}{es:H e7}{c3:J},aZ 28 d=S->bE d N=S->T.get d=B (cu es c3)->0<=lo->asc lo p=S->below es lo->O es+O p<16777216->
  aC w bd ev q0 (10*O p) ⟨T,N,li,g,dr,k,os⟩ q (forIn (z0 t p) kj λ(x:aq×aq) u=>(do dictSet d x.1 x.2;tg (m4 kj):bj (pH zd))) kj
   ⟨T.set d (λ u=>cu (es++hv t p) (c3+O p)),N,li,g,dr,k+O p,os⟩ q
 |[],t,lo,T,k,es,c3,h,Q,e,_,_,_,_=>by simp only[show hv t []=[]from rfl,ea,ze,rb];exact L (wm T d e) (aC.pure _)|(i,s)::p,t,lo,T,k,es,c3,h,Q,e,y,c,r,G=>by refine ff (l5 c) λ W l v=>?_;obtain j:=EU (by lia) l;simp[gx]at G;rw[show z0 t _=_::z0 _ p from rfl,kZ];refine L (gx.symm▸iO .. :10*O _=10+10*O p) (aC.bind (aC.bind (m:=0) (j▸(aC.set h Q e (L j (Mb r W)) (DO G))) (aC.pure _)) ?_);obtain I:=aC.stores (t:=t+2) (k:=k+1) h Q (ox (λ u=>cu (es++ [⟨i,.int i t,.str s (t+1)⟩]) (c3+1)) e) (by lia) v (Ma r W) (by simp;lia);rw[wo]at I;simp only[(show es++ [⟨i,.int i t,.str s _⟩]++hv _ p=es++hv t ((i,s)::p) by rw[eb];rfl),(show c3+1+O p=c3+O ((i,s)::p) by simp[gx];lia),(show k+1+O p=k+O ((i,s)::p) by simp[gx];lia)]at I;exact I
theorem aC.turns{sub:ao} :∀{rest done:H e7}{T:BT}{es:H e7}{c3:J},all=done++rest->(∀e∈all,∃i t s u,e=⟨i,.int i t,.str s u⟩)->sub≠d->aZ 28 d=S->bE d N=S->bE sub N=S->T.get d=B (cu es c3)->T.get sub=B (cu all eps)->
  (∀e∈rest,∀E∈es,E.hash≠e.hash)->rest.Pairwise (λ a b=>a.hash≠b.hash)->O es+O rest<16777216->
  aC w bd ev q0 (6*O rest) ⟨T,N,li,g,dr,k,os⟩ q (forIn (kk (O done) (O rest)) kj λ i z=>(do
    let B e:=(<-dictEntries sub)[i]? |unsupported "dict.changed-during-merge"
    d_ [e.key,e.val] do
     dictPut d e.hash e.key e.val
    if (<-dictEpoch sub) !=eps then DP "dict.changed-during-merge"
    tg (m4 kj):bj (pH zd))) kj
   ⟨T.set d (λ z=>cu (es++rest) (c3+O rest)),N,li,g,dr,k,os⟩ q
 |[],done,T,es,c3,_,_,_,p,Q,_,v,_,_,_,_=>by exact L ze (L (ea ..) (L (rb ..) (L (wm T d v) (aC.pure _))))
 |e::rest,done,T,es,c3,c,h,M,p,Q,r,v,j,l,y,G=>by
  refine hx (h e (L c anu)) λ i t s u W=>?_;subst W;simp[gx]at G;refine L gx ?_;rw[Ys,kZ,show 6*(O rest+1)=6+6*O rest by lia];refine aC.bind (s1:=⟨T.set d (λ z=>cu (es++ [⟨i,.int i t,.str s u⟩]) (c3+1)),N,li,g,dr,k,os⟩) (q1:=q) (a:=.yield kj) ?_ ?_
  ·refine aC.bind (m:=5) (aC.entries r j) (L (show all.toArray[O done]?=B ⟨i,.int i t,.str s u⟩ by rw[c];simp) ?_)
   dsimp only;exact aC.bind (m:=1) (aC.holding (aC.put p Q v (l _ cV) (by lia))) (aC.bind (m:=0) (aC.L_ r (Y (tN _ M) (j))) (L (a6 (by simp)) (aC.pure _)))
  ·rw[List.pairwise_cons]at y
   obtain I:=aC.turns (done:=done++ [⟨i,.int i t,.str s u⟩]) (T:=T.set d (λ z=>cu _ _)) (by rw[c];simp) h M p Q r (ox _ v) (Y (tN _ M) j)
    (λ e o E D=>by
      rcases bB.mp D with q|q
      ·exact l e (c7 _ o) E q
      ·rw[ek]at q;refine L q ?_;exact y.1 e o) y.2 (by simp;lia)
   rw[wo]at I;rw[(show es++ [⟨i,.int i t,.str s u⟩]++rest=es++⟨i,.int i t,.str s u⟩::rest by rw[eb];rfl),(zg ..),(show O (done++ [(⟨i,.int i t,.str s u⟩:e7)])=O done+1 by simp)]at I;exact I
end
section
variable {w:dg}{bd:H bx}{ev:cn}{q0:cP}{α β:Type}{n m:J}{s s1 s2:oh}{q q1 jb:cP}
variable {T:BT}{N k:J}{li:Life}{g:fE zb}{dr:zc}{os:eS}{d:ao}{es:H e7}{c3:J}
theorem aC.wq(h:bE d N=S)(e:T.get d=B (cu es c3)):aC w bd ev q0 1 ⟨T,N,li,g,dr,k,os⟩ q (typeOf (.ref d)) (.type "dict") ⟨T,N,li,g,dr,k,os⟩ q:=
 aC.bind (m:=0) (aC.load h e rfl) (aC.pure _)theorem aC.Z0(h:bE d N=S)(e:T.get d=B (cu es c3)):aC w bd ev q0 1 ⟨T,N,li,g,dr,k,os⟩ q (isInstance (.ref d) (.type "dict")) S ⟨T,N,li,g,dr,k,os⟩ q:=aC.bind (m:=0) (aC.wq h e) (aC.pure _)theorem aC.Z1(h:bE d N=S)(e:T.get d=B (cu es c3)):aC w bd ev q0 1 ⟨T,N,li,g,dr,k,os⟩ q (specialOf (.ref d) "__iter__") (B (.builtin "dict.__iter__")) ⟨T,N,li,g,dr,k,os⟩ q:=aC.bind (m:=0) (aC.wq h e) (aC.pure _)
theorem aC.merge{sub:ao}(K:∀e∈all,∃i t s u,e=⟨i,.int i t,.str s u⟩)(M:sub≠d)(p:aZ 28 d=S)(W:(sub==th)=aj)(Q:bE d N=S)(h:bE sub N=S)(r:T.get d=B (cu es c3))(j:T.get sub=B (cu all eps))
  (c:es≠ [])(l:∀e∈all,∀E∈es,E.hash≠e.hash)(v:all.Pairwise (λ a b=>a.hash≠b.hash))(G:O es+O all<16777216):
  aC w bd ev q0 (5+6*O all) ⟨T,N,li,g,dr,k,os⟩ q (mergeMapping d (.ref sub) aj) () ⟨T.set d (λ z=>cu (es++all) (c3+O all)),N,li,g,dr,k,os⟩ q:=by
 refine L (show 5+6*O all=2+(1+(1+(1+(6*O all+0)))) by lia) (L (show 2+(1+(1+(1+(6*O all+0))))=1+(1+(0+(1+(1+(1+(6*O all+0)))))) by lia) (aC.bind (aC.Z0 h j) (aC.bind (aC.Z1 h j) (aC.bind (aC.pure _) ?_))));have x:(B (Value.builtin "dict.__iter__")==B (Value.builtin "dict.__iter__"))=true:=rfl;refine L x ?_;dsimp only;refine L (a6 (W.symm▸hN)) (aC.bind (aC.entries Q r) (L (show es.toArray.isEmpty=aj by cases es with|nil=>exact aS rfl c|cons=>rfl) (aC.bind (aC.entries h j) (aC.bind (aC.L_ h j) (aC.bind ((aC.turns (done:=[]) rfl K M p Q h r j l v G).of_eq (L anv ?_)) (aC.pure _))))));rfl
theorem aC.newD(h:((T.ins N (cu [] 0)).get N).isSome=S):aC w bd ev q0 1 ⟨T,N,li,g,dr,k,os⟩ q (PySem.alloc {cls:=.type "dict",data:=.dict #[] }) N ⟨T.ins N (cu [] 0),N+1,li,g,dr,k,os⟩ q:=aC.alloc h
theorem wt(h:((T.ins N o).get N).isSome=S):(T.ins N o).get N=B o:=by rw[BT.get_ins o T N h,bC rfl]theorem z1{a:ao}(e:((T.ins N o).get N).isSome=S)(h:a≠N):(T.ins N o).get a=T.get a:=by rw[BT.get_ins o T N e,a6 h]theorem gA.length(c:gA ev q ay di):O ay=O di:=by induction c with|nil=>rfl|cons _ i=>exact zh.mpr i
theorem aC.Mf{lo:ah}(c:gA ev q ay p)(z:¬O p<=15)(h:aZ 28 N=S)(r:((T.ins N (cu [] 0)).get N).isSome=S)(t:0<=lo)(f:asc lo p=S)(G:O p<16777216):
  aC w bd ev q0 (2+13*O p) ⟨T,N,li,g,dr,k,os⟩ q (KI ay) N ⟨(T.ins N (cu [] 0)).set N (λ u=>cu (d7 k p) (O p)),N+1,li,g,dr,k+3*O p,os⟩ q:=L (show 2+13*O p=1+((1+(13*O p+0))+0) by lia) (aC.bind (aC.newD r) (aC.bind (aC.holding (L (a6 (c.length.symm▸z)) (aC.bind (aC.rule _) (aC.bind ((hO ..)▸(aC.long c h (L cg (bH _)) (wt r) t f (λ e x=>by cases x) (anw G))) (aC.pure _))))) (aC.pure _)))
theorem aC.Z2{lo:ah}(c:gA ev q ay p)(z:O p<=15)(h:aZ 28 N=S)(r:((T.ins N (cu [] 0)).get N).isSome=S)(t:0<=lo)(f:asc lo p=S)(G:O p<16777216):
  aC w bd ev q0 (1+13*O p) ⟨T,N,li,g,dr,k,os⟩ q (KI ay) N ⟨(T.ins N (cu [] 0)).set N (λ u=>cu (hv k p) (O p)),N+1,li,g,dr,k+3*O p,os⟩ q:=by
 refine L (show 1+13*O p=1+((3*O p+(10*O p+0))+0) by lia) (aC.bind (aC.newD r) (aC.bind (a:=()) (aC.holding (L (bC (L c.length z)) (aC.bind (aC.ZZ c) (aC.holding ?_)))) (aC.pure _)));obtain this:=aC.stores h (L cg (anx N)) (wt r) t f (λ e x=>by cases x) (anw G);simp only[hO]at this;exact aC.bind ((show k+2*O p+O p=k+3*O p by lia)▸this) (aC.pure _)
end
abbrev kx:=H (bj aq×bj aq)abbrev Mg:=(U (bj aq)×bj aq)->(U ao×kx)->bj (pH (U ao×kx))noncomputable def e9(ay:kx):H (U (bj aq)×bj aq):=ay.map λ p=>(B p.1,p.2)
structure rz(f:Mg)(F:kx->U ao->bj (U ao)):Prop where
 more:∀p main run,run.length+1<17->f (B p.1,p.2) (main,run)=pure (.yield (main,run++ [p]))
 full:∀p main run,run.length+1=17->f (B p.1,p.2) (main,run)=(F (run++ [p]) main>>=λ m=>pure (.yield (m,[])))
 Z3:∀run,run≠ []->F run aa=(KI run>>=λ a=>pure (B a))
 Mh:∀run d,run≠ []->∃fq:aq->bj gL,F run (B d)=(d_ [.ref d] (KI run)>>=λ sub=>(d_ [.ref d,.ref sub] (mergeMapping d (.ref sub) aj)).onRaise fq>>=λ u=>pure (B d))
theorem rz.gather{F}(h:rz f F)(m:U ao):∀(ay run:kx)(rest:H (U (bj aq)×bj aq)),O run+O ay<17->forIn (e9 ay++rest) (m,run) f=forIn rest (m,run++ay) f
 |[],run,rest,_=>by simp[e9]|p::ay,run,rest,z=>by show forIn ((B p.1,p.2)::(e9 ay++rest)) _ _=_;rw[kZ,h.more p m run (by simp at z;lia),pure_bind];simpa using (h.gather m ay (run++ [p]) rest (by simp at z ⊢;lia))
theorem rz.chunk{F}(h:rz f F)(M:U ao)(ay:kx)(rest:H (U (bj aq)×bj aq))(z:O ay=17):forIn (e9 ay++rest) (M,[]) f=(F ay M>>=λ m=>forIn rest (m,[]) f):=by
 obtain e:ay=ay.take 16++ [ay[16]'(by lia)]:=by
  conv=>lhs;rw[<-ti 16 ay]
  rw[KJ _,anz (fV z)]
 obtain l:O (ay.take 16)=16:=by simp;lia
 obtain E:e9 ay++rest=e9 (ay.take 16)++(B (ay[16]'(by lia)).1,(ay[16]'(by lia)).2)::rest:=by
  conv=>lhs;rw[e]
  unfold e9;rw[vP,eb];rfl
 rw[E,h.gather M _ [] _ (by rw[l];decide),kZ,List.nil_append,h.full _ M _ (zh.mpr l),<-e,bind_assoc];rfl
class inductive tO(ev:cn)(q:cP):H kx->H (H (ah×ai))->Prop
 |nil:tO ev q [] []
 |cons {ay c Mi cs} :gA ev q ay c->tO ev q Mi cs->tO ev q (ay::Mi) (c::cs)def Mj(d:ao)(T:BT)(N k:J)(es:H e7)(c:H (ah×ai)):BT:=((T.ins N (cu [] 0)).set N (λ u=>cu (d7 k c) (O c))).set d (λ u=>cu (es++d7 k c) (O es+O c))def EX(d:ao)(T:BT)(N k:J)(es:H e7)(cs:H (H (ah×ai))):BT:=cs.rec (motive:=λ u=>BT->J->J->H e7->BT) (λ T u u u=>T) (λ c u R T N k es=>R (Mj d T N k es c) (N+1) (k+3*O c) (es++d7 k c)) T N k es
def EY(d:ao)(T:BT)(N k:J)(es:H e7)(cs:H (H (ah×ai))):Bool:=cs.rec (motive:=λ u=>BT->J->J->H e7->aF) (λ u u u u=>S) (λ c u R T N k es=>((T.ins N (cu [] 0)).get N).isSome&&R (Mj d T N k es c) (N+1) (k+3*O c) (es++d7 k c)) T N k es
def jS(bS:J)(cG:H (H (ah×ai))):H DictEntry:=cG.rec (motive:=λ u=>J->H e7) (λ u=>[]) (λ c cs dF k=>d7 k c++dF (k+3*O c)) bS
theorem Mk:∀(t:J)(p:H (ah×ai)),∀e∈d7 t p,∃i t s u,e=⟨i,.int i t,.str s u⟩
 |_,[],e,h=>by cases h
 |t,(i,s)::r,e,h=>by
  rcases dM.mp h with rfl|h
  ·exact(hV _ _ _ _ rfl)
  ·exact Mk _ r e h
theorem Ml:∀{lo:ah}{P:H (ah×ai)},asc lo P=S->∀e∈d7 t P,lo<e.hash:=by
 intro lo P;induction P generalizing lo t with
 |nil=>intro u e x;cases x
 |cons p r i=>
  refine λ h e x=>ff (l5 h) λ W u v=>?_;rcases dM.mp x with rfl|x
  ·exact W
  ·exact Int.lt_trans W (i v e x)theorem Z4:∀{lo:ah}{P:H (ah×ai)},asc lo P=S->(d7 t P).Pairwise (λ a b=>a.hash≠b.hash):=by intro lo P;induction P generalizing lo t with|nil=>intro u;exact .nil|cons p r i=>exact λ h=>ff (l5 h) λ W u v=>(.cons (λ e x=>by have:=Ml v e x;exact Int.ne_of_lt this) (i v))theorem z2:∀{lo:ah},asc lo (P++q)=S->asc lo P=S/\asc (k6 lo P) q=true:=by induction P with|nil=>intro lo h;exact⟨rfl,h⟩|cons p r i=>intro lo h;refine ff (l5 h) λ W j v=>?_;obtain⟨a,b⟩:=i v;refine⟨?_,b⟩;show(decide _&&(decide _&&asc p.1 r))=S;simp only[gJ W,gJ j,a];rfl
theorem z3:∀{lo:ah},asc lo di=S->lo<=k6 lo di:=by induction di with|nil=>intro lo u;exact DN _|cons p r i=>intro lo h;exact ff (l5 h) λ a b c=>vO (Yj a (i c))
theorem Mm{lo:ah}(h:below es lo)(c:asc lo p=S):below (es++d7 t p) (k6 lo p):=by
 intro e x;rcases bB.mp x with x|x
 ·exact zi (h e x) (z3 c)
 ·exact EV c e x
theorem aC.chunk{os:eS}{F}(h:rz f F){lo:ah}(c:gA ev q ay p)(z:O p=17)(r:aZ 28 d=S)(Q:bE d N=S)(t:T.get d=B (cu es (O es)))
  (s:((T.ins N (cu [] 0)).get N).isSome=S)(v:0<=lo)(i:asc lo p=S)(x:below es lo)(j:es≠ [])(G:O es+O p<16777216):
  aC w bd ev q0 330 ⟨T,N,li,g,dr,k,os⟩ q (F ay (B d)) (B d) ⟨((T.ins N (cu [] 0)).set N (λ u=>cu (d7 k p) (O p))).set d (λ u=>cu (es++d7 k p) (O es+O p)),N+1,li,g,dr,k+3*O p,os⟩ q:=by
 obtain M:ay≠ []:=by intro e;have:=c.length;rw[e,z]at this;exact aS this (by decide)
 refine a7 (h.Mh ay d M) λ n E=>L E ?_;obtain y:=by rw[cg]at Q;exact Q
 obtain V:=il y;obtain W:=b8 r;obtain X:((T.ins N _).set N (λ u=>cu _ 17)).get d=B _:=by rw[tN _ V,z1 s V];exact t
 obtain m:=aC.merge (Mk k p) (rd V) r (by rw[DQ];unfold th;lia) (L cg (kl ‹_›)) (L cg (anx N)) X (ox _ (wt s)) j
  (λ e a l D=>by have:=Ml i e a;have:=x l D;lia) (Z4 i) (by rw[jR];assumption)
 rw[jR,z]at m;exact L z (L (show 330=(2+13*17)+((5+6*17)+0)from rfl) (aC.bind (aC.holding (z▸(aC.Mf c (by lia) (dD (by lia)) s v i (Nat.lt_of_add_left_lt G)))) (aC.bind (aC.onRaise (aC.holding m)) (aC.pure _))))
theorem aC.Z5{os:eS}{F}(h:rz f F){cs:H (H (ah×ai))}(c:tO ev q t cs):∀{lo:ah}{T:BT}{N k:J}{es:H e7},
  (∀c∈cs,O c=17)->aZ 28 d=S->bE d N=S->T.get d=B (cu es (O es))->EY d T N k es cs=S->0<=lo->asc lo cs.flatten=S->below es lo->es≠ []->O es+17*O cs<16777216->
  aC w bd ev q0 n ⟨EX d T N k es cs,N+O cs,li,g,dr,k+51*O cs,os⟩ q (forIn rest (B d,[]) f) r s' q->
  aC w bd ev q0 (330*O cs+n) ⟨T,N,li,g,dr,k,os⟩ q (forIn ((t.map e9).flatten++rest) (B d,[]) f) r s' q:=by
 induction c with
 |nil=>intro lo T N k es _ _ _ _ _ _ _ _ _ _ E;rw[ze,hO];exact E
 | @cons ay c t cs A K I=>
  intro lo T N k es z e Q s p v m b i G E;obtain j:=z c cV;obtain y:=by rw[cg]at Q;exact Q
  obtain V:=il y;obtain⟨l,p⟩:=bF.mp p;obtain⟨a,o⟩:=z2 m;simp[gx]at G;obtain I:=I (T:=((T.ins N _).set N _).set d _) (λ x M=>z x (c7 _ M)) e (by rw[cg];lia)
   (by rw[ox _ (L (tN _ V) (L (z1 l V) s))];simp[jR]) p (zi v (z3 a)) o (Mm b a) (by simp[i]) (by simp[jR];lia)
   (by
     rw[(show N+1+O cs=N+O (c::cs) by simp[gx];lia),(show k+3*O c+51*O cs=k+51*O (c::cs) by simp[gx];lia)];exact E)
  exact L (show((ay::t).map e9).flatten++rest=e9 ay++((t.map e9).flatten++rest) by simp) (L (h.chunk _ ay _ (A.length.trans j)) (L (show 330*O (c::cs)+n=330+(330*O cs+n) by rw[gx];lia) (aC.bind (aC.chunk h A j e Q s l v a b i (by lia)) I)))abbrev wu(T:BT)(N k:J)(c:H (ah×ai)):BT:=(T.ins N (cu [] 0)).set N (λ u=>cu (d7 k c) (O c))abbrev pT(T:BT)(N k:J)(c:H (ah×ai))(cs:H (H (ah×ai))):BT:=EX N (wu T N k c) (N+1) (k+51) (d7 k c) cs
def rA(T:BT)(N k:J)(c cl:H (ah×ai))(cs:H (H (ah×ai))):BT:=
 ((pT T N k c cs).ins (N+1+O cs) (cu [] 0)).set (N+1+O cs) (λ u=>cu (hv (k+51+51*O cs) cl) (O cl))|>.set N
   (λ u=>cu (d7 k c++jS (k+51) cs++hv (k+51+51*O cs) cl) (O c+17*O cs+O cl))
def Z6(T:BT)(N k:J)(c:H (ah×ai))(cs:H (H (ah×ai))):Bool:=
 ((T.ins N (cu [] 0)).get N).isSome&&(EY N (wu T N k c) (N+1) (k+51) (d7 k c) cs&&
   (((pT T N k c cs).ins (N+1+O cs) (cu [] 0)).get (N+1+O cs)).isSome)
theorem Mn:∀{cs:H (H (ah×ai))}{T:BT}{N k:J}{es:H e7},(∀c∈cs,O c=17)->@LT.lt J instLTNat d N->T.get d=B (cu es (O es))->EY d T N k es cs=S->
  (EX d T N k es cs).get d=B (cu (es++jS k cs) (O es+17*O cs))
 |[],T,N,k,es,_,_,h,_=>L (ea es) h
 |c::cs,T,N,k,es,z,Q,h,e=>by
  obtain⟨s,e⟩:=bF.mp e;obtain V:=il Q;obtain this:=Mn (T:=((T.ins N _).set N _).set d _) (λ x K=>z x (c7 _ K)) (kl Q)
   (by rw[ox _ (L (tN _ V) (L (z1 s V) h))];simp[jR]) e
  apply Y this;simp only[(show es++d7 k c++jS _ cs=es++jS k (c::cs) by rw[eb];rfl),(show O (es++d7 k c)+17*O cs=O es+17*O (c::cs) by simp[jR,(z c cV)];exact zg ..)]
theorem Mo:∀{cs:H (H (ah×ai))}{k:J}{lo:ah}{es:H e7},asc lo cs.flatten=S->below es lo->below (es++jS k cs) (k6 lo cs.flatten)
 |[],k,lo,es,_,h=>L (ea es) h
 |c::cs,k,lo,es,f,h=>by
  obtain⟨a,A⟩:=z2 f;obtain this:=Mo A (Mm h a);obtain e:es++d7 k c++jS (k+3*O c) cs=es++jS k (c::cs):=L (eb ..) rfl;obtain E:k6 (k6 lo c) cs.flatten=k6 lo (c++cs.flatten):=by clear this e f h a A;induction c generalizing lo with|nil=>rfl|cons p r i=>exact i _
  rw[e,E]at this;exact this
theorem Mp:∀{cs:H (H (ah×ai))}{k:J},(∀c∈cs,O c=17)->O (jS k cs)=17*O cs
 |[],_,_=>rfl|c::cs,k,h=>by refine(?_:O (d7 k c++jS _ cs)=_);rw[e2,jR,Mp (λ x K=>h x (c7 _ K)),h c cV];exact iO ..
theorem Mq:∀(t:J)(p:H (ah×ai)),∀e∈hv t p,∃i t s u,e=⟨i,.int i t,.str s u⟩
 |_,[],e,h=>by cases h
 |t,(i,s)::r,e,h=>by
  rcases dM.mp h with rfl|h
  ·exact(hV _ _ _ _ rfl)
  ·exact Mq _ r e h
theorem Mr:∀{lo:ah}{P:H (ah×ai)},asc lo P=S->∀e∈hv t P,lo<e.hash:=by
 intro lo P;induction P generalizing lo t with
 |nil=>intro u e x;cases x
 |cons p r i=>
  refine λ h e x=>ff (l5 h) λ W u v=>?_;rcases dM.mp x with rfl|x
  ·exact W
  ·exact Int.lt_trans W (i v e x)theorem Z7:∀{lo:ah}{P:H (ah×ai)},asc lo P=S->(hv t P).Pairwise (λ a b=>a.hash≠b.hash):=by intro lo P;induction P generalizing lo t with|nil=>intro u;exact .nil|cons p r i=>exact λ h=>ff (l5 h) λ W u v=>(.cons (λ e x=>by have:=Mr v e x;exact Int.ne_of_lt this) (i v))
section
variable {w:dg}{bd:H bx}{ev:cn}{q0:cP}{q:cP}{li:Life}{g:fE zb}{dr:zc}{os:eS}{d:ao}
theorem aC.display(x:gA ev q i C)(c5:tO ev q t cs)(j:gA ev q o cl)(l:O C=17)(K:∀c∈cs,O c=17)(E:O cl=4)(apg:O cs<1000)
  (v:aZ 28 N=S)(hy:asc 0 (C++(cs.flatten++cl))=S)(ok:Z6 T N k C cs=S):
  aC w bd ev q0 (223+(330*O cs+82)) ⟨T,N,li,g,dr,k,os⟩ q (Yt (e9 i++((t.map e9).flatten++e9 o))) (.ref N) ⟨rA T N k C cl cs,N+O cs+2,li,g,dr,k+51+51*O cs+12,os⟩ q:=by
 refine cq (bF.mp ok) λ fs ok=>?_;obtain⟨gB,y⟩:=bF.mp ok;obtain⟨a0,A⟩:=z2 hy;obtain⟨Q,R⟩:=z2 A;have aph:=b8 v;have z:=z3 a0;have V:∀(f:Mg) F,rz f F->aC w bd ev q0 (223+(330*O cs+82)) ⟨T,N,li,g,dr,k,os⟩ q
   (forIn (e9 i++((t.map e9).flatten++e9 o)) (aa,([])) f>>=λ s=>F s.2 s.1>>=λ r=>match r with|some d=>tg (hP d)|none=>newDict) (.ref N) ⟨rA T N k C cl cs,N+O cs+2,li,g,dr,k+51+51*O cs+12,os⟩ q:=by
  intro f F h;rw[h.chunk aa i _ (L x.length (L l rfl)),h.Z3 i (by intro e;have:=x.length;rw[e,l]at this;cases this)];have s1:=aC.Mf (w:=w) (bd:=bd) (q0:=q0) (li:=li) (g:=g) (dr:=dr) (os:=os) (k:=k) (lo:=0) x (by lia) v fs (DN _) a0 (by lia);rw[l]at s1;have Ms:(wu T N k C).get N=B (cu _ (O (d7 k C))):=L (ox _ (wt fs)) (L (jR ..) rfl);have I:below (d7 k C) _:=EV a0;have G:N≠N+1+O cs:=by lia
  have g1:(((pT T N k C cs).ins (N+1+O cs) (cu [] 0)).set (N+1+cs.length) (λ u=>cu (hv (k+51+51*cs.length) cl) cl.length)).get N=B (cu (d7 k C++jS (k+51) cs) ((d7 k C).length+17*cs.length)):=by rw[tN _ G,z1 y G];exact(Mn (d:=N) (cs:=cs) (N:=N+1) (k:=k+51) K (km N) Ms gB)
  have g2:(((pT T N k C cs).ins _ _).set _ (λ u=>cu _ cl.length)).get _=B (cu (hv (k+51+51*cs.length) cl) cl.length):=
   ox _ (wt y)
  have X:=aC.merge (w:=w) (bd:=bd) (ev:=ev) (q0:=q0) (q:=q) (li:=li) (g:=g) (dr:=dr) (os:=os) (k:=k+51+51*cs.length+3*cl.length) (N:=N+1+cs.length+1) (d:=N) (sub:=N+1+cs.length) (all:=hv _ cl) (eps:=cl.length) (Mq _ cl) (rd G) v (by rw[DQ];unfold th;lia) (by rw[cg];lia) (by rw[cg];lia) g1 g2
   (by intro e;have:=aM O e;simp[jR,l]at this) (λ e he oy Z8=>by have:=Mr R e he;have:=Mo (k:=k+51) Q I oy Z8;lia) (Z7 R) (by
     have:=Mp (k:=k+51) K;rw[e2,jR,EW,this];lia)
  rw[EW,jR,l]at X;obtain⟨fq,Z9⟩:=h.Mh o N (by intro e;have:=j.length;rw[e,E]at this;cases this);have fin:aC w bd ev q0 82 ⟨pT T N k C cs,N+1+cs.length,li,g,dr,k+51+51*cs.length,os⟩ q (F o (B N)) (B N) ⟨rA T N k C cl cs,N+cs.length+2,li,g,dr,k+51+51*cs.length+12,os⟩ q:=by
   refine L Z9 (L (L (E ..) rfl:82=(1+13*cl.length)+((5+6*cl.length)+0)) (aC.bind (aC.holding (aC.Z2 (w:=w) (bd:=bd) (ev:=ev) (q0:=q0) (q:=q) (li:=li) (g:=g) (dr:=dr) (os:=os) (k:=k+51+51*cs.length) (T:=pT T N k C cs) (N:=N+1+cs.length) (lo:=k6 _ cs.flatten) j (by lia) (dD (by lia)) y (zi z (z3 Q)) R (by lia))) (aC.bind (s1:=⟨rA T N k C cl cs,N+cs.length+2,li,g,dr,k+51+51*cs.length+12,os⟩) (q1:=q) (a:=()) (aC.onRaise (aC.holding ?_)) (aC.pure _))));have iw:N+1+cs.length+1=N+cs.length+2:=by lia
   have k7:3*cl.length=12:=L (E ..) rfl;rw[iw,k7]at X;rw[k7,iw,(show rA T N k C cl cs=(((pT T N k C cs).ins _ _).set _ _).set N _ by unfold rA;rw[l])];exact L l X
  have ch:=aC.Z5 (w:=w) (bd:=bd) (ev:=ev) (q0:=q0) (q:=q) (li:=li) (g:=g) (dr:=dr) (os:=os) (d:=N) h (lo:=k6 0 C) (T:=wu T N k C) (N:=N+1) (k:=k+51) (es:=d7 k C) (rest:=e9 o) (n:=0) (r:=(B N,o)) (s':=⟨pT T N k C cs,N+1+cs.length,li,g,dr,k+51+51*cs.length,os⟩)
   c5 K v (L cg (km N)) Ms gB z Q I (by intro e;have:=aM O e;rw[jR,l]at this;cases this) (by rw[jR];lia) (by
    have e:=h.gather (B N) o [] [] (by rw[j.length,E];decide);rw[ea]at e;refine L e ?_;exact aC.pure _)
  rw[bind_assoc,bind_assoc];simp only[pure_bind];refine L (show 223+(330*cs.length+82)=(2+13*17)+((330*cs.length+0)+(82+0)) by lia) ?_;rw[show wu T N k C=(T.ins N (cu [] 0)).set N (λ u=>cu (d7 k C) 17)from ax l rfl]at ch;refine aC.bind s1 (aC.bind ch (aC.bind fin (aC.pure _)))
 unfold Yt
 extract_lets D
 refine V _ D ⟨?_,?_,?_,?_⟩
 ·intro p m run cL
  have M:((run++ [(p.1,p.2)]).length==17)=false:=by simp;lia
  dsimp only;rw[M];rfl
 ·intro p m run cL
  have M:((run++ [(p.1,p.2)]).length==17)=true:=by simp;lia
  dsimp only;rw[M];rfl
 ·intro run d1
  have:run.isEmpty=false:=by cases run with|nil=>exact aS rfl d1|cons=>rfl
  dsimp only[D];rw[this];rfl
 ·intro run d d1
  have:run.isEmpty=false:=by cases run with|nil=>exact aS rfl d1|cons=>rfl
  dsimp only[D];rw[this];exact⟨_,rfl⟩
end
noncomputable def je:Life:={}def z6(s:bx):Arguments:=(jf s).z7
def E_(st:bx)(q:ai)(g:ao)(C:H (ai×ao))(d k D m:aq)(a:U ao)(c ct:aq)(b:ao):FuncData:=⟨ML st,q,z6 st,.stmts (bP st),bz st,g,C,d,k,D,m,a,c,ct,b⟩noncomputable def ef(s:b1)(t:J):Value:=.str (ep s) t
def ma(P:dj)(e:b1×J×aq):DictEntry:=⟨PyData.keyHash P (ep e.1),ef e.1 e.2.1,e.2.2⟩def k9(P:dj)(es:H (b1×J×aq))(n:J):Obj:=⟨.type "dict",aa,.dict (es.map (ma P)).toArray n, #[]⟩def oD(P:dj)(o:fe)(u:H (J×aq))(es:H (b1×J×aq))(n:J):Obj:=match o.data with|.dict a _=>⟨.type "dict",aa,.dict (u.foldl (λ l q=>(l.modify q.1 λ e=>⟨e.hash,e.key,q.2⟩)) a.toList++es.map (ma P)).toArray n, #[]⟩|_=>o
def aaO(bS:J)(cG:H (b1×Manifest.BuiltinName)):H (b1×J×aq):=cG.rec (motive:=λ u=>J->H (b1×J×aq)) (λ u=>[]) (λ e l dF t=>(e.1,t,builtinAtStartup e.1 e.2)::dF (t+1)) bS
def Fd(p s:b1)(bS:J)(cG:H b1):H (b1×J×aq):=cG.rec (motive:=λ u=>J->H (b1×J×aq)) (λ u=>[]) (λ n l dF t=>(n,t,.builtin (p++n++s))::dF (t+1)) bS
noncomputable def MM(t:J):H b1->H aq
 |[]=>[]|s::l=>ef s t::MM (t+1) l
noncomputable def rE(vs:H aq):Obj:=⟨.type "tuple",aa,.seq vs.toArray 0, #[]⟩def ay(t:J)(l:H b1):Obj:=rE (MM t l)noncomputable def Fe:Obj:=⟨.none,aa,.fields #[], #[]⟩noncomputable def iS(l:H (J×J×J)):Obj:=⟨.none,aa,.fields (l.flatMap λ q=>[.int q.1 0,.int q.2.1 0,.ref q.2.2]).toArray, #[]⟩def co(nm:ai)(q:b1)(t l ac k f r:J)(b:aF)(z:J)(xs:H aq)(u:J):Obj:=⟨.type "code",aa,.fields ([.str nm t,ef q (t+1),ef "/claim/cut.py" (t+2),.int l 0,.int ac 0,.int 0 0,.int k 0,.int f 0,.ref r,.bool b,.int z 0,.ref (r+1)]++xs++ [.int u 0,.int l 0,ef "/claim/cut.py" (u+1)]).toArray, #[]⟩
structure jg where
 s:bx
 a:J
 t:J
 n:b1
 q:b1
 d:aF
 x:H b1
 y:H b1
noncomputable def z8(i:jg):Nat:=bif i.x.isEmpty then i.a+2 else i.a+4
noncomputable def Ff(i:jg):Nat:=i.t+3+O i.x+O i.y
def rF(f:J->bx)(p:b1)(k a t:J)(l:H (b1×aF×H b1×H b1)):H jg:=l.rec (motive:=λ u=>J->J->J->H jg) (λ u u u=>[]) (λ q u I k a t=>let i:jg:=⟨f k,bif q.2.1 then a+1 else a,t,q.1,p++q.1,q.2.1,q.2.2.1,q.2.2.2⟩;i::I (k+1) (z8 i+3) (Ff i+3)) k a t
def aaP(i:jg):Obj:=co (ML i.s) i.q i.t (jf i.s).p.line (z6 i.s).args.length (z6 i.s).kwonlyargs.length ((z6 i.s).kwarg.elim 3 λ u=>11) i.a S 276 (bif i.x.isEmpty then [.none,.none,.none,.ref (i.a+2)]else [.none,.ref (i.a+2),.ref (i.a+3),.ref (i.a+4)]) (Ff i)def rG(m:b1)(mt:J)(i:jg):H Obj:=(bif i.d then [rE [.none]]else [])++ [ay 0 [],Fe]++(bif i.x.isEmpty then []else [ay (i.t+3) i.x,ay (i.t+3+O i.x) i.y])++ [⟨.none,aa,.func (E_ i.s i.q 0 [] .none .none .none .none aa .none .none 0), #[]⟩,aaP i,⟨.type "function",aa,.func (E_ i.s i.q 3 [] (bif i.d then .ref (i.a-1)else .none) .none .none (ef m mt) aa (.ref (z8 i+1)) .none 0), #[]⟩]def tV(i:jg):b1×J×Value:=(i.n,Ff i+2,.ref (z8 i+2))def pY(i:jg):J×J×Nat:=((jf i.s).p.line,(jf i.s).p.col,z8 i+1)
noncomputable def rH:J->H J->H aq
 |_,[]=>[]|t,n::l=>.int n t::rH (t+1) l
noncomputable def li(l:H aq)(n:J):Obj:=⟨.type "list",aa,.seq l.toArray n, #[]⟩def zs(l:H J):Obj:=rE (l.map λ(n:J)=>.int n 0)noncomputable def b2(o:fe):Value:=match o.data with|.dict a _=>Builtin.packed (Builtin.flatEntries a)|_=>.none
noncomputable def mb(n:J):H fe->BT->BT
 |[],T=>T|o::l,T=>mb (n+1) l (T.ins n o)
noncomputable def nk:H (J×fe)->BT->BT
 |[],T=>T|q::l,T=>nk l (T.set q.1 λ u=>q.2)noncomputable def oE{α:Type}(bS:J)(cG:H α):H (H α):=bS.rec (motive:=λ u=>H α->H (H α)) (λ u=>[]) (λ m dF l=>l.take 17::dF (l.drop 17)) cG
def pW:H (ah×ai):=rC.take 17
def l9:H (H (ah×ai)):=oE 37 (rC.drop 17)def oC:H (ah×ai):=(rC.drop 17).drop (17*37)def MN(P:dj):Obj:=k9 P ([("__name__",165,ef "__main__" 164),("__doc__",166,.none),("__package__",167,.none),("__loader__",168,.builtin "__main__.__loader__#opaque"),("__spec__",169,.none),("__annotations__",170,.ref 6),("__builtins__",171,.ref 4),("__file__",173,ef "/claim/cut.py" 172),("__cached__",174,.none),("_sre",275,.ref 12)]) 10
noncomputable def Fg(P:dj):Obj:=⟨.type "module",(B 0),.plain, #[]⟩def Fh(P:dj):Obj:=k9 P ([("__name__",247,ef "_sre" 246),("__doc__",248,.none),("__package__",250,ef "" 249),("__loader__",251,.ref 14),("__spec__",252,.ref 26)]++Fd "_sre." "" 253 ["compile","template","getcodesize","ascii_iscased","unicode_iscased","ascii_tolower","unicode_tolower"]++ [("MAGIC",261,.int 20230612 260),("CODESIZE",263,.int 4 262),("MAXREPEAT",265,.int 4294967295 264),("MAXGROUPS",267,.int 1073741823 266),("copyright",269,ef " SRE 2.2.2 Copyright (c) 1997-2002 by Secret Labs AB " 268)]) 17
def MO(P:dj):Obj:=k9 P ([("__module__",189,ef "_frozen_importlib" 186),("__firstlineno__",190,.int 971 187),("__doc__",191,.builtin "_frozen_importlib.BuiltinImporter.__doc__:str#opaque"),("_ORIGIN",192,ef "built-in" 188)]++Fd "_frozen_importlib.BuiltinImporter." "#opaque" 193 ["find_spec","create_module","exec_module","get_code","get_source","is_package","load_module"]++ [("__static_attributes__",200,.ref 15),("__dict__",202,.ref 16),("__weakref__",204,.ref 17)]) 14
def MP(P:dj):Obj:=k9 P ([("__module__",227,ef "_frozen_importlib" 217),("__firstlineno__",228,.int 562 218),("__doc__",229,.builtin "_frozen_importlib.ModuleSpec.__doc__:str#opaque")]++Fd "_frozen_importlib.ModuleSpec." "#opaque" 230 ["__init__","__repr__","__eq__","cached","parent","has_location"]++ [("__static_attributes__",236,.ref 23),("__dict__",238,.ref 24),("__weakref__",240,.ref 25),("__hash__",241,.none)]) 13
def tW(s:b1)(t r:J)(x y:aq):Obj:=⟨.type "getset_descriptor",aa,.fields #[ef s t,.ref r,x,y], #[]⟩def MQ(P:dj):BT:=mb 0 [k9 P (("__name__",1,ef "builtins" 160)::(aaO 1 Manifest.builtinsNames).tail) 159,k9 P ([("builtins",162,.ref 4),("__main__",163,.ref 5),("_sre",244,.ref 12)]) 3,⟨.none,aa,(.dict #[ma P ("\x69mport.loaded._sre",183,(.bool S)),ma P ("class._frozen_importlib.BuiltinImporter",185,(.ref 14)),ma P ("watched.\x69mport",206,(.ref 18)),ma P ("class._frozen_importlib.ModuleSpec",216,(.ref 22)),ma P ("sys.modules.booked-epoch",245,(.int 3 0)),ma P ("\x69mport.later-laid._sre",270,(.bool S)),ma P ("watched.library",272,(.ref 27)),ma P ("watched.library-objects",0,(ef "\x0c" 0)),ma P ("watched.library-deep._sre",273,(ef "\x04\x00\x00\x0b\x04\x00\x00\x0b\x04\x00\x00\x03\x04\x00\x00\x0b\x08\x04dict\x02" 0))] 9), #[]⟩,MN P,Fg P,⟨.type "module",(B 3),.plain, #[]⟩,k9 P [] 0,ay 0 [],Fe,co "<module>" "<module>" 176 1 0 0 0 7 aj 175 [.none,.none,.none,.none] 179,⟨(.type "frame"),aa,.plain, #[(B (.ref 9)),(B (.ref 3)),(B (.ref 3)),aa,(B (ef "__main__" 164)),aa,(B (.ref 0))]⟩,Fh P,⟨.type "module",(B 11),.plain, #[]⟩,MO P,⟨(.type "type"),aa,(.cls ⟨(ep "BuiltinImporter"),[(.type "object")],[(.ref 14),(.type "object")],13,(ep "BuiltinImporter"),S,[],[],aj,aa,aj⟩), #[]⟩,ay 0 [],tW "__dict__" 201 14 (.builtin "function.__dict__") (.builtin "function.__dict__#set"),tW "__weakref__" 203 14 (.builtin "ExceptionGroup.__weakref__") .none,⟨.none,aa,(.seq #[(.int 13 0),b2 (MO P),(.bool S),(.bool S),(ef "" 205),(.int 21 0),b2 (MP P),(.bool S),(.bool S),(ef "" 242)] 1), #[]⟩,⟨(.type "list"),aa,(.seq #[] 0), #[]⟩,k9 P ([("name",208,ef "_sre" 207),("loader",209,.ref 14),("origin",210,ef "built-in" 184),("loader_state",211,.none),("submodule_search_locations",212,.none),("_uninitialized_submodules",213,.ref 19),("_set_fileattr",214,.bool aj),("_cached",215,.none),("_initializing",243,.bool aj)]) 9,MP P,⟨(.type "type"),aa,(.cls ⟨(ep "ModuleSpec"),[(.type "object")],[(.ref 22),(.type "object")],21,(ep "ModuleSpec"),S,[],[],aj,aa,aj⟩), #[]⟩,ay 219 ["_cached","_set_fileattr","_uninitialized_submodules","loader","loader_state","name","origin","submodule_search_locations"],tW "__dict__" 237 22 (.builtin "function.__dict__") (.builtin "function.__dict__#set"),tW "__weakref__" 239 22 (.builtin "ExceptionGroup.__weakref__") .none,⟨(.ref 22),(B 20),.plain, #[]⟩,⟨.none,aa,(.seq #[(.int 11 0),b2 (Fh P),(.bool S),(.bool aj),(ef "_sre" 271)] 0), #[]⟩] (.nil)def MR(P:dj):BT:=nk [(11,oD P (Fh P) ([(3,"__loader__"),(4,"__spec__"),(6,"template"),(7,"getcodesize"),(8,"ascii_iscased"),(9,"unicode_iscased"),(10,"ascii_tolower"),(11,"unicode_tolower")].map λ q=>(q.1,.builtin ("off-the-table:_sre." ++q.2++ ":shared#opaque"))) [] 17)] (MQ P)def MS(P:dj):BT:=mb 28 [ay 0 [],Fe,co "<module>" "<module>" 277 1 0 0 0 28 aj 276 [.none,.none,.none,.none] 280,⟨(.type "frame"),aa,.plain, #[(B (.ref 30)),(B (.ref 3)),(B (.ref 3)),aa,(B (ef "__main__" 164)),aa,(B (.ref 0))]⟩] (MR P)def z9(w:dg)(os:eS):SharedT:=⟨MS w.params,32,je, #[],⟨0,0,0,0⟩,282,os⟩def oF:H jg:=rF aY "" 1 32 282 [("_wall",aj,["k"],[])]++rF aY "" 6 39 303 [("rgb_to_hls",aj,["r","g","b","maxc","minc","sumc","rangec","l","s","rc","gc","bc","h"],[]),("hls_to_rgb",aj,["h","l","s","m2","m1"],[]),("_v",aj,["m1","m2","hue"],[]),("rgb_to_hsv",aj,["r","g","b","maxc","minc","rangec","v","s","rc","gc","bc","h"],[]),("hsv_to_rgb",aj,["h","s","v","i","f","p","q","t"],[])]def MT(P:dj):Obj:=oD P (MN P) [(0,ef "cpy313.colorsys" 289)] (("_wall",288,.ref 38)::("ONE_THIRD",294,.float 4599676419421066581 293)::("ONE_SIXTH",298,.float 4595172819793696085 297)::("TWO_THIRD",302,.float 4604180019048437077 301)::oF.tail.map tV) 19
def MU(P:dj):BT:=mb 32 ((oF.take 1).flatMap (rG "__main__" 164)++oF.tail.flatMap (rG "cpy313.colorsys" 289)) (nk [(3,MT P),(29,iS (oF.map pY))] (MS P))def MV(w:dg)(os:eS):SharedT:=⟨MU w.params,74,je, #[],⟨0,0,0,0⟩,374,os⟩def rI:H jg:=rF aY "" 13 74 378 [("_div2n1n",aj,["a","b","n","pad","half_n","mask","b1","b2","q1","r","q2"],[]),("_div3n2n",aj,["a12","a3","b","b1","b2","n","q","r"],[]),("_int2digits",aj,["a","n"],["n","a_digits","inner"]),("_digits2int",aj,["digits","n"],["digits","n","inner"]),("_divmod_pos",aj,["a","b","n","a_digits","r","q_digits","a_digit","q_digit","q"],[]),("int_divmod",aj,["a","b","q","r"],[])]def MW(P:dj):Obj:=oD P (MT P) [(0,ef "cpy313.stringprep" 456)] (("_DIV_LIMIT",377,.int 4000 376)::rI.map tV) 26
def Fi(P:dj):Obj:=co "_int2digits" "_int2digits" 409 118 2 0 3 88 S 276 [.none,.ref 90,.ref 91,.ref 92] 417
def Fj(P:dj):Obj:=co "_digits2int" "_digits2int" 420 134 2 0 3 95 S 276 [.none,.ref 97,.ref 98,.ref 99] 428
def MX(P:dj):BT:=mb 74 (rI.flatMap (rG "cpy313._pylong" 374)) (nk [(3,MW P),(29,iS ((oF++rI).map pY))] (MU P))def Fk(w:dg)(os:eS):SharedT:=⟨MX w.params,116,je, #[],⟨0,0,0,0⟩,458,os⟩def MY(P:dj):Obj:=oD P (MW P) [] ([("b1_set",517,.ref 123)]) 27
noncomputable def Fl(P:dj):Obj:=⟨.type "set",aa,(.set ([(65024,474),(65025,475),(65026,476),(65027,477),(65028,478),(65029,479),(6150,460),(65030,480),(65031,481),(65032,482),(65033,483),(6155,461),(6156,462),(6157,463),(8203,464),(8204,465),(8205,466),(65034,484),(65035,485),(65036,486),(65037,487),(65038,488),(65039,489),(173,458),(847,459),(8288,467),(65279,468)].map λ(q:J×J)=>((q.1:ah),KP q.1 q.2)).toArray 29 ⟨127, #[0,1,2,3,4,5,6,7,8,9,10,11,12,13,14,15,16,17,18,19,20,21,22,45,79,96,127], #[],0, !(P.followText "set-order"),2,S⟩), #[]⟩noncomputable def MZ:H Nat:=[173,847,6150,6155,6156,6157,8203,8204,8205,8288,65279]def M0(P:dj):BT:=mb 116 [li (rH 458 MZ) 0,⟨(.type "range"),aa,(.fields #[(.int 65024 469),(.int 65040 470),(.int 1 471)]), #[]⟩,li (rH 474 (kk 65024 16)) 18,⟨(.type "range_iterator"),aa,(.fields #[(.int 65040 0),(.int 0 0),(.int 1 0)]), #[]⟩,ay 0 [],⟨(.type "StopIteration"),aa,(.fields #[(.ref 120),.none,.none,.none,(.bool aj),.none]), #[]⟩,li (rH 458 MZ++rH 474 (kk 65024 16)) 0,Fl P,⟨(.type "list_iterator"),aa,(.fields #[.none,(.int 27 0)]), #[]⟩,ay 0 [],⟨(.type "StopIteration"),aa,(.fields #[(.ref 125),.none,.none,.none,(.bool aj),.none]), #[]⟩] (nk [(3,MY P)] (MX P))def Fm(w:dg)(os:eS):SharedT:=⟨M0 w.params,127,je, #[],⟨0,0,0,0⟩,518,os⟩def tX:H jg:=rF aY "" 21 127 518 [("in_table_b1",aj,["code"],[])]def M1(P:dj):Obj:=oD P (MY P) [] (tX.map tV) 28
def Fn(P:dj):BT:=mb 127 (tX.flatMap (rG "cpy313.stringprep" 456)) (nk [(3,M1 P),(29,iS ((oF++rI++tX).map pY))] (M0 P))def M3(w:dg)(os:eS):SharedT:=⟨Fn w.params,134,je, #[],⟨0,0,0,0⟩,525,os⟩def M4(P:dj):Obj:=oD P (M1 P) [] ([("b3_exceptions",2475,.ref 134)]) 29
def MG(P:dj):Obj:=cu (d7 525 pW++jS 576 l9++hv 2463 oC) 650
def M5(P:dj):BT:=mb 134 ([MG P]++(aw 37).map (λ i=>cu (d7 (576+51*i) (l9.getD i [])) 17)++ [cu (hv 2463 oC) 4]) (nk [(3,M4 P)] (Fn P))def M6(w:dg)(os:eS):SharedT:=⟨M5 w.params,173,je, #[],⟨0,0,0,0⟩,2476,os⟩def wB:H jg:=rF aY "" 23 173 2476 [("map_table_b3",aj,["code","r"],[]),("in_table_c11",aj,["code"],[])]def M7(P:dj):Obj:=oD P (M4 P) [(0,ef "cpy313.wsgiref.headers" 2491)] (wB.map tV++ [("_name_disallowed_re",2518,.ref 191),("_value_disallowed_re",2552,.ref 196)]) 33
noncomputable def E4:H Nat:=[14,10,4,1,1,22,0,31,16,127,0,13,7,22,0,31,16,127,0,1]def MA(P:dj):Obj:=⟨(.type "re.Pattern"),aa,(.fields #[(ef "[\\x00-\\x1F\\x7F]" 2494),(.int 32 2517),(.int 0 0),.none,.none,(.ref 190),(.int 0 0)]), #[]⟩noncomputable def E5:H Nat:=[14,14,4,1,1,9,4294966783,0,0,2147483648,0,0,0,0,0,13,11,9,4294966783,0,0,2147483648,0,0,0,0,0,1]def MB(P:dj):Obj:=⟨(.type "re.Pattern"),aa,(.fields #[(ef "[\\x00-\\x08\\x0A-\\x1F\\x7F]" 2520),(.int 32 2551),(.int 0 0),.none,.none,(.ref 195),(.int 0 0)]), #[]⟩def M8(P:dj):BT:=mb 173 (wB.flatMap (rG "cpy313.stringprep" 456)++ [li (rH 2496 E4) 0,k9 P [] 0,rE [.none],zs E4,MA P,li (rH 2522 E5) 0,k9 P [] 0,rE [.none],zs E5,MB P]) (nk [(3,M7 P),(29,iS ((oF++rI++tX++wB).map pY))] (M5 P))def M9(w:dg)(os:eS):SharedT:=⟨M8 w.params,197,je, #[],⟨0,0,0,0⟩,2553,os⟩def M_(P:dj):Obj:=oD P (M7 P) [] ([("Headers",2709,.ref 319)]) 34
def Fo:H jg:=rF (clsAt 28) "Headers." 0 204 2565 [("__init__",S,["self","headers","k","v"],[]),("_convert_string_type",aj,["self","value","name","regex"],[]),("__len__",aj,["self"],[]),("__setitem__",aj,["self","name","val"],[]),("__delitem__",aj,[],[]),("__getitem__",aj,["self","name"],[]),("__contains__",aj,["self","name"],[]),("get_all",aj,["self","name"],[]),("get",S,["self","name","default","k","v"],[]),("keys",aj,[],[]),("values",aj,[],[]),("items",aj,["self"],[]),("__repr__",aj,["self"],[]),("__str__",aj,[],[]),("__bytes__",aj,["self"],[]),("setdefault",aj,["self","name","value","result"],[]),("add_header",aj,["self","_name","_value","_params"],[])]def Na(l:H (b1×J×aq)):H (b1×J×aq):=("__module__",2560,ef "cpy313.wsgiref.headers" 2491)::l++("__firstlineno__",2564,.int 180 2563)::Fo.map tV++ [("__static_attributes__",2702,.ref 317)]def Nb(P:dj):BT:=mb 197 ([ay 0 [],⟨(.type "builtin_function_or_method"),aa,(.fields #[(.builtin "type.__prepare__"),(.type "type")]), #[]⟩,k9 P (Na [("__qualname__",2562,ef "Headers" 2561)]) 21,ay 0 [],iS (Fo.map pY),co "Headers" "Headers" 2555 180 0 0 0 200 aj 276 [.none,.none,.none,.none] 2558,⟨(.type "frame"),aa,.plain, #[(B (.ref 202)),(B (.ref 3)),(B (.ref 199)),aa,(B (ef "cpy313.wsgiref.headers" 2491)),aa,(B (.ref 0))]⟩]++Fo.flatMap (rG "cpy313.wsgiref.headers" 2491)++ [ay 2701 ["_headers"],k9 P (Na []++ [("__dict__",2704,.ref 320),("__weakref__",2706,.ref 321),("__doc__",2707,.none)]) 4,⟨(.type "type"),aa,(.cls ⟨(ep "Headers"),[(.type "object")],[(.ref 319),(.type "object")],318,(ep "Headers"),S,[],[],aj,aa,aj⟩), #[aa,aa,(B (ef "Headers" 2553)),(B (ef "Headers" 2561)),(B (.builtin "object.__new__")),(B (.bool S))]⟩,tW "__dict__" 2703 319 (.builtin "function.__dict__") (.builtin "function.__dict__#set"),tW "__weakref__" 2705 319 (.builtin "ExceptionGroup.__weakref__") .none,⟨(.type "super"),aa,(.fields #[(.ref 319),(.ref 319),(.ref 319)]), #[]⟩,⟨(.type "builtin_function_or_method"),aa,(.fields #[(.builtin "object.__init_subclass__"),(.ref 319)]), #[]⟩]) (nk [(3,M_ P),(29,iS ((oF++rI++tX++wB).map pY++ [(180,0,202)]))] (M8 P))def Nc(w:dg)(os:eS):SharedT:=⟨Nb w.params,324,je, #[],⟨0,0,0,0⟩,2710,os⟩def Fp:H jg:=rF aY "" 30 324 2712 [("_law_figures",aj,["x","bases"],[]),("_law_rows",aj,[],[]),("_law_vote",aj,[],[]),("_law_read",aj,[],[]),("_law_chair",aj,[],[]),("_law_light",aj,[],[]),("_law_told",aj,[],[]),("_law_waves",aj,[],[]),("law",aj,[],[])]def z4(P:dj):BT:=mb 324 (Fp.flatMap (rG "law_ta0134_01" 2710)) (nk [(3,oD P (M_ P) [(0,ef "law_ta0134_01" 2710)] (Fp.map tV) 43),(29,iS ((oF++rI++tX++wB).map pY++(180,0,202)::Fp.map pY))] (Nb P))def Nd(w:dg)(os:eS):SharedT:=⟨z4 w.params,371,je, #[],⟨0,0,0,0⟩,2768,os⟩def hW:Env:={scope:=eA.main.scope,locals:=mainNs,globals:=mainNs,cells:=[],code:=.ref 30,frame:=B 31}
noncomputable abbrev ky:Pos:=⟨0,0,0,0⟩abbrev rJ:H Stmt:=behindTheImports eA
abbrev iy:Code:=.body rJ hW
def mc(i n:J):H Stmt:=(rJ.drop i).take n
abbrev nq(i n:J)(p:cP):Thread:=piecesOf (mc i n) hW iy p [vQ ky]abbrev oG(w:dg)(n:J)(s:oh)(t:DR):=rf jK eA w 28 jQ 1 n s t
def oz(P:dj):BT:=((z4 P).set 89 λ u=>l6).set 96 λ u=>l6
def ed(P:dj):Heap:=absHeap (oz P) 371 je
def H1(P:dj):Heap:=absHeap (z4 P) 371 je
def Nf(P:dj):Heap:=absHeap (MQ P) 28 je
def pZ(P:dj):Heap:=absHeap (MR P) 28 je
def NA(k:U aJ):U PySem.Expr:=B (.Constant (.int (Am k)) (fI (k.getD rR)).z (fI (k.getD rR)).p)def NB(v:aJ):PySem.Expr:=.Constant (.str (An v)) (fI v).z (fI v).p
def FE(ev:cn)(q:cP):H (U aJ)->H aJ->kx:=pJ λ k v=>Mc ev q (Am k,An v) ((fI (k.getD rR)).z,(fI (k.getD rR)).p) ((fI v).z,(fI v).p)
theorem NC(ev:cn)(q:cP):∀(ks:H (U aJ))(vs:H aJ),
  (KV (ks.map NA) ev).zip ((iQ (vs.map NB) ev).map λ v=>(do let x<-v;dZ q;pure x:bj aq))=e9 (FE ev q ks vs)/\gA ev q (FE ev q ks vs) ((ks.map Am).zip (vs.map An))
 |[],_=>⟨rfl,.nil⟩|_::_,[]=>⟨rfl,.nil⟩|k::ks,v::vs=>have h:=NC ev q ks vs;⟨aM _ h.1,.cons h.2⟩theorem gA.take:∀{ay:kx}{p:H (ah×ai)}(n:J),gA ev q ay p->gA ev q (ay.take n) (p.take n):=by intro ay p n c;induction c generalizing n with|nil=>exact L anM (L anM .nil)|cons c i=>induction n with|zero=>exact .nil|succ n=>exact .cons (i n)
theorem gA.drop:∀{ay:kx}{p:H (ah×ai)}(n:J),gA ev q ay p->gA ev q (ay.drop n) (p.drop n)
 |_,_,0,c=>(((λ a=>c) ∘ λ a=>ev) ev)|_,_,_+1,.nil=>by simp;exact .nil|_,_,n+1,.cons c=>c.drop n
theorem gA.oE:∀(m:J){ay:kx}{p:H (ah×ai)},gA ev q ay p->tO ev q (oE m ay) (oE m p)
 |0,_,_,_=>.nil|m+1,_,_,c=>.cons (c.take 17) (gA.oE m (c.drop 17))
theorem E7{α:Type} :∀(m:J)(l:H α),l=(oE m l).flatten++l.drop (17*m)
 |0,l=>(List.self_eq_append_left.mpr rfl)|m+1,l=>by refine(?_:_=(_::oE m _).flatten++_);dsimp only[zl];rw[eb,show 17*(m+1)=17+17*m by lia,<-YB,<-(E7 m _),ti]theorem FF(a b:kx):e9 (a++b)=e9 a++e9 b:=by simp[e9]
theorem ND:∀(l:H kx),e9 l.flatten=(l.map e9).flatten
 |[]=>rfl|a::l=>L zl (L (FF ..) (L (ND l) rfl))def wG(s:bx):H (U aJ):=(fI (hz 0 s)).ks
def wH(s:bx):H PySem.Expr:=(fI (hz 0 s)).es
theorem MF:(O pW==17&&(l9.all λ c=>O c==17)&&O oC==4&&O l9==37&&asc 0 (pW++(l9.flatten++oC)))=true:=rfl
def NF(s:bx):Str:=(fI (hz 1 s)).nm
def NG(s:bx):Pos:=(fI (hz 1 s)).p
def Ao(s:bx):Pos:=(fI (hz 0 s)).p
def NH(s:bx):Pos:=(jf s).p
def Ap(st:bx)(ev:cn)(v:aq):bj Flow:=(dZ (NG st)>>=λ u=>pK ev (NF st) v)>>=λ u=>pure ri
def wI(st:bx)(ev:cn):bj Value:=dZ (NH st)>>=λ u=>dZ (Ao st)>>=λ u=>Yt ((KV (wG st) ev).zip ((iQ (wH st) ev).map λ v=>do let x<-v;dZ (Ao st);pure x))theorem abf(nm:ai)(p:cP)(ks:H (U aJ))(vs:H aJ)(d a:cP)(ev:cn):fF (.Assign [.Name nm p] (.Dict ks vs d) a) ev=wI (.Assign [.Name nm p] (.Dict ks vs d) a) ev>>=Ap (.Assign [.Name nm p] (.Dict ks vs d) a) ev:=by apply Y rfl;obtain h:=rfl;obtain j:=rfl;delta wI Ap;rfl
theorem abg(w:dg)(os:eS):oG w 12525 (M3 w os) (nq 21 1 ⟨167,0,168,30⟩)=B (.next,M6 w os,iy,⟨169,0,169,13⟩):=by
 refine cq (bF.mp MF) λ h y=>?_;obtain⟨h,I⟩:=bF.mp h;obtain⟨h,P⟩:=bF.mp h;obtain⟨W,j⟩:=bF.mp h;have b:=bc (show(wG (aY 22),wH (aY 22))=((wG (aY 22)).map NA,(wH (aY 22)).map NB)from by lk);have pr:=NC hW (Ao (aY 22)) (wG (aY 22)) (wH (aY 22));generalize FE hW _ _ _=ay at pr;have c:=pr.2;have d:=aC.display (w:=w) (bd:=rJ) (q0:=ky) (li:=je) (g:= #[]) (dr:=⟨0,0,0,0⟩) (os:=os) (T:=Fn w.params) (N:=134) (k:=525)
  (c.take 17) ((c.drop 17).oE 37) ((c.drop 17).drop _) (cI.mp W) (λ c A=>cI.mp (b9.mp j c A)) (cI.mp P) (by show O l9<1000;decide) rfl y ((by lk))
 have e:e9 (ay.take 17)++(((oE 37 (ay.drop 17)).map e9).flatten++e9 ((ay.drop 17).drop (17*37)))=e9 ay:=by rw[<-ND,<-FF,<-E7,<-FF,ti]
 rw[e,<-(Y (congr (aM (λ ks vs=>(KV ks hW).zip _) b.1) b.2) pr.1)]at d;have K:=(cI.mp I);have l:aC w rJ hW ky _ _ ⟨167,0,168,30⟩ (wI _ hW) _ ⟨rA _ 134 525 pW oC l9,173,je, #[],⟨0,0,0,0⟩,2475,os⟩ _:=
  aC.bind (aC.at _) (aC.bind (aC.at _) d)
 have M:fF (aY 22) hW=wI (aY 22) hW>>=Ap (aY 22) hW:=by have:=abf (NF (aY 22)) (NG (aY 22)) (wG (aY 22)) (wH (aY 22)) (Ao (aY 22)) (NH (aY 22)) hW;exact this
 have E:nq 21 1 ⟨167,0,168,30⟩=ng rJ hW ky ((wI (aY 22) hW).wrap (λ v=>(Ap (aY 22) hW v).wrap (λ f=>match f with|.next=>(fG [] hW).wrap doneF deadEnd id id|f=>doneF f) deadEnd id id) deadEnd id id) ⟨167,0,168,30⟩:=by show(⟨(fG (mc 21 1) hW).wrap doneF deadEnd id id,iy,⟨167,0,168,30⟩,[vQ ky]⟩:DR)=_;refine L (show mc 21 1=[aY 22] by lk) ?_;rw[execs_cons_wrap,M,Sem.bind_eq_wrap',KN];rfl
 refine L E (Mu (m:=8) (l _ _ _ _) ?_);lk
theorem jc(h:bE a 371=S)(g:(oz P).get a=B o)(A:alive o=B o):(ed P).get? a=B o:=Y (m6 (cg.mp h) g) A
theorem EZ(h:(ed P).get? b=B o):(H1 P).get? b=B o:=by
 by_cases q:b<371
 ·obtain y:=by exact KO.mp (b9.mp (show((aw 371).all λ i=>((z4 P).get i).isSome)=S by lk) b (a4.mpr q))
  obtain⟨k8,e⟩:=y;by_cases c:b=96
  ·have E:(oz P).get b=B l6:=by unfold oz;rw[tk,bC c,<-c,tk,a6 (by rw[c];decide),e];rfl
   rw[show(ed P).get? b=alive l6 from m6 q E]at h;exact nn h
  ·by_cases R:b=89
   ·obtain E:(oz P).get b=B l6:=by unfold oz;rw[tk,a6 c,tk,bC R,<-R,e];rfl
    rw[show(ed P).get? b=alive l6 from m6 q E]at h;exact nn h
   ·obtain E:(oz P).get b=B k8:=by unfold oz;rw[tk,a6 c,tk,a6 R,e]
    rw[show(ed P).get? b=alive k8 from m6 q E]at h;exact Y (m6 q e) h
 ·exact nn (ax (abs_get_none q) h)
noncomputable def Mv:aq->J
 |.float _ t=>t|.int _ t=>t|_=>0
noncomputable def Z_(t:J):D->U aq
 |.obj b=>B (.ref b)|.aR x=>B (.float x t)|.int j=>B (.int j t)|.ty n=>B (.type n)|.bi n=>B (.builtin n)|_=>aa
noncomputable def aaa(h:aX)(t:J):D->aF
 |.obj b=>(h.get? b).isSome|.aR _=> !(t==0)|_=>S
def Mw(h:aX)(v:aq)(d:D):Bool:=Z_ (Mv v) d==B v&&aaa h (Mv v) d
theorem Mx(e:Mw h v d=S):aV [] h v d:=by
 obtain R:=eq_of_beq (bo e).1;obtain f:=(bo e).2;rcases d with _|_|j|x|_|n|n|b|_|_|⟨_,_⟩;case obj=>exact a7 (KO.mp f) λ o i=>ak R▸.obj dS i
 case aR=>exact ak R▸.aR _ _ λ q=>by rw[q]at f;exact bw f
 case int=>exact ak R▸.int _ _
 case ty=>exact ak R▸.ty _
 case bi=>exact ak R▸.bi _
 all_goals exact nn R
def aab(P:dj):Bool:=(ed P).isNs k0&&((ed P).isNs zj&&ee.all λ p=>(((ed P).nsMap k0 p.1).orElse λ u=>(ed P).nsMap zj p.1).any λ v=>Mw (ed P) v p.2)theorem E0(P:dj):aab P=true:=by lk
theorem My{q:Type} :∀{l:H (ai×q)}{n:ai}{b:q},l.lookup n=B b->(n,b)∈l:=by
 intro l n b h;induction l with
 |nil=>exact nn h
 |cons p l i=>
  obtain⟨m,c⟩:=p;dsimp only[gY]at h;refine dO (n==m) (λ e=>?_) λ e=>?_
  ·rw[e]at h;refine L (ak h) ?_;rw[cI.mp e];exact cV
  ·rw[e]at h;exact c7 _ (i h)theorem aac{A:Type}{o q:U A}{v:A}(h:(o.orElse λ u=>q)=B v):o=B v\/o=aa/\q=B v:=match o,h with|some _,h=>.inl h|none,h=>.inr ⟨rfl,h⟩
theorem wx(k:g.K=ed g.w.params):hh g ee:=by
 obtain e:=bo (E0 g.w.params);obtain E:=bo e.2;refine⟨(ed g.w.params).nsMap k0,(ed g.w.params).nsMap zj,?_,?_,λ n d V=>?_⟩
 ·rw[k];exact vR e.1
 ·rw[k];exact vR E.1
 obtain this:=b9.mp E.2 _ (My V);exact av ((anA _ _).mp this) λ v l this=>L k ((aac l).imp (λ h=>⟨v,h,Mx this⟩) λ h=>⟨h.1,v,h.2,Mx this⟩)
noncomputable abbrev oA:Addr:=318
def E1:H (ai×ao):=[("__init__",tP),("__setitem__",l7),("__delitem__",nh)]noncomputable def aad:Obj:=excClassObj "Headers" "Headers" 319 318 [.type "object"] [.type "object"] S [] [] aj aa aa aa aa (B (.str "Headers" 2553)) (B (.str "Headers" 2561)) (B (.bool S)) "object.__new__"
def aae(K:aX)(p:ai×ao):Bool:=K.nsMap oA p.1==B (.ref p.2)&&(K.get? p.2).any λ o=>o.cls==.type "function"
def Mz(K:aX):Bool:=K.isNs oA&&((K.nsMap oA "__getattribute__").isNone&&((K.nsMap oA "__getattr__").isNone&&((K.nsMap oA "__setattr__").isNone&&((K.nsMap oA "_headers").isNone&&(rB++E1).all (aae K)))))theorem aaf(P:dj):Mz (ed P)=true:=by lk
theorem aag{K:aX}(k:g.K=K)(e:Mz K=S)(l:K.get? 319=B aad):∃N M,oB g gZ N M/\(∀nm f,rB.lookup nm=B f->ix g M nm f)/\ix g M "__init__" tP/\ix g M "__setitem__" l7/\ix g M "__delitem__" nh:=by
 subst k;obtain⟨R,e⟩:=bF.mp e;obtain⟨E,e⟩:=bF.mp e;obtain⟨s,e⟩:=bF.mp e;obtain⟨D,e⟩:=bF.mp e;obtain⟨eT,jT⟩:=bF.mp e;rw[zk]at E s D eT;have m:∀nm f,(nm,f)∈rB++E1->ix g (g.K.nsMap oA) nm f:=by exact λ nm f q=>cq (cq (bF.mp (b9.mp jT _ q)) λ a b=>(av ((anA _ _).mp b) λ o i A=>⟨cI.mp a,o,i,cI.mp A⟩)) λ a b=>(⟨a,b,(show∀p∈rB++E1,∃y,rg _ p.1=pure y from AllP.mem (.cons ⟨aa,by rw[k1];lk⟩ (.cons ⟨aa,by rw[k1];lk⟩ (.cons ⟨aa,by rw[k1];lk⟩ (.cons ⟨aa,by rw[k1];lk⟩ (.cons ⟨B (.builtin "object.__init__"),by rw[k1];lk⟩ (.cons ⟨aa,by rw[k1];lk⟩ (.cons ⟨aa,by rw[k1];lk⟩ .nil)))))))) (nm,f) q⟩)
 obtain W:ClsAt g.K gZ oA _:=by exact⟨(pU _ _ _ _ _ aa aa (E2 aa aa _ _ _ l)),vR R⟩
 exact(bh oA _ ⟨(⟨W,E,s,D,eT⟩),(λ nm f h=>m nm f (bL _ (My h))),m _ _ (aW _ (.head _)),m _ _ (aW _ (.tail _ (.head _))),m _ _ (aW _ (.tail _ (.tail _ (.head _))))⟩)theorem aah(h:g.K=ed g.w.params):∃N m,oB g gZ N m/\(∀nm f,rB.lookup nm=B f->ix g m nm f)/\ix g m "__init__" tP/\ix g m "__setitem__" l7/\ix g m "__delitem__" nh:=aag h (aaf _) ((λ P=>jc rfl (by lk) rfl) _)theorem aai(h:g.K=ed g.w.params):tQ g tR pV:=by refine⟨(E3 _ _ 190 _ _ _ ⟨h.symm▸jc rfl (show _=B (MA g.w.params) by lk) rfl,rfl,rfl,rfl,?_,?_,rfl,h.symm▸jc rfl (show _=B (zs E4) by lk) rfl,rfl,?_⟩)⟩<;>lk
theorem aaj(h:g.K=ed g.w.params):tQ g tS l8:=by refine⟨(E3 _ _ 195 _ _ _ ⟨h.symm▸jc rfl (show _=B (MB g.w.params) by lk) rfl,rfl,rfl,rfl,?_,?_,rfl,h.symm▸jc rfl (show _=B (zs E5) by lk) rfl,rfl,?_⟩)⟩<;>lk
class inductive jd:H e7->H (ah×ai)->Prop
 |nil:jd [] []
 |cons {i s a b t di} :jd t di->jd (⟨i,.int i a,.str s b⟩::t) ((i,s)::di)theorem jd.append(x:jd t p)(y:jd u q):jd (t++u) (p++q):=by induction x with|nil=>exact y|cons _ i=>exact .cons i
theorem E6:∀(t:J)(p:H (ah×ai)),jd (d7 t p) p
 |_,[]=>.nil|t,(i,s)::r=>.cons (E6 _ r)
theorem MC:∀(t:J)(p:H (ah×ai)),jd (hv t p) p
 |_,[]=>.nil|t,(i,s)::r=>.cons (MC _ r)
theorem MD:∀(k:J)(cs:H (H (ah×ai))),jd (jS k cs) cs.flatten
 |_,[]=>.nil|k,c::cs=>L zl ((E6 k c).append (MD _ cs))
set_option tactic.hygienic true in
theorem jd.find(x:jd t p)(k:ah):
  match tT k p with
  |some s=>∃u,(t.find? λ(e:e7)=>(tl prog w).is k e.key).map (λ(e:e7)=>e.val)=B (.str s u)|none=>(t.find? λ(e:e7)=>(tl prog w).is k e.key).map (λ(e:e7)=>e.val)=none:=by
 induction x with
 |nil=>exact rfl
 |cons x I=>
  rename_i i s a b t p;refine L anB ?_;obtain R:(tl prog w).is k (KP i a)=(i==k):=rfl;refine L R ?_;dsimp only[tT];by_cases h:i=k
  ·rw[bC h,h,oi];exact⟨b,rfl⟩
  ·rw[a6 h,DQ.mpr h];exact I
set_option tactic.hygienic true in
theorem jd.keys{t:H e7}{p:H (ah×ai)}(x:jd t p):∀{lo:ah},0<=lo->asc lo p=S->∀e∈t,∃k,(tl prog w).is k e.key=S/\e.hash=(tl prog w).hash k:=by
 induction x with
 |nil=>intro u u u e y;exact aS y dS
 |cons x I=>
  rename_i i s a b t p;intro lo q h e y;refine ff (l5 h) λ W j v=>?_;rcases dM.mp y with rfl|y
  ·exact⟨i,by show _=S;exact beq_int_true rfl,(EU (by lia) j).symm⟩
  ·exact I (by lia) v e y
theorem ME:pW++l9.flatten++oC=rC:=by delta pW l9 oC;rw[eb,<-E7,ti]
theorem aak(l:g.K=ed g.w.params):E8 g ni:=by
 intro a K e;unfold ni at e;refine wy (a==rD) (λ c=>?_) λ c=>?_
 ·rw[c]at e;exact nn e
 ·
  rw[c]at e;refine ax (ak e) ?_;refine L (cI.mp c) ?_;obtain u:jd (d7 525 pW++jS 576 l9++hv 2463 oC) rC:=by exact ax ME (((E6 _ _).append (MD _ _)).append (MC _ _))
  obtain h:asc 0 rC=true:=by have:=(bF.mp MF).2;rw[<-ME];exact this
  refine⟨rfl,λ k=>((d7 525 pW++jS 576 l9++hv 2463 oC).find? λ e=>(tl g.prog g.w).is k e.key).map _,(e_ (MG g.w.params) _ 650 ⟨?_,⟨rfl,rfl,rfl⟩,rfl,λ e x=>u.keys (DN 0) h e (DU.mp x),λ k=>?_⟩),λ k=>u.find k⟩
  ·rw[l];exact jc rfl (by lk) rfl
  ·unfold findBy
   rw[List.find?_toArray]def aal(st:bx):Bool:= !(bz st).isCoroutine&&(!(bz st).isGenerator&&(aL (bz st).kind.ctorIdx 1&&(wz (bz st).names&&(E9 (bz st)&&(eU st++tU st).all (dU (bz st))))))def fdOf(st:bx)(q:ai)(d m:aq)(c:J):FuncData:=E_ st q 3 [] d .none .none m aa (.ref c) .none 0
noncomputable def MH(o:fe):U Value:=match o.data with|.fields vs=>vs[1]?|_=>aa
def Fb(P:dj)(b:J):U Obj:=((oz P).get b).bind alive
theorem MI(l:bE b 371=S)(h:Fb P b=B o):(ed P).get? b=B o:=b3 h λ u W j=>Y (m6 (cg.mp l) W) j
def MJ(P:dj)(a:J)(st:bx):U fe×U aq×Bool:=(Fb P (a+1),(Fb P a).bind MH,aal st)
section
variable {g:bX}(bu:g.K=ed g.w.params)
include bu
theorem z5{st:bx}(l:bE (a+1) 371=S)(e:MJ g.w.params a st=(B ⟨.type "function",aa,.func (fdOf st q d m a), #[]⟩,B (.str q t),S))(b:MK g (fdOf st q d m a) st k):eB g (a+1) k st:=by
 obtain R:=bc e;have i:=bc R.2;refine b3 i.1 λ o j E=>?_;obtain⟨vs,h,n⟩:∃vs,o.data=.fields vs/\vs[1]?=B _:=by unfold MH at E;cases h:o.data with|fields vs=>rw[h]at E;exact⟨vs,rfl,E⟩|_=>rw[h]at E;exact nn E
 have c:=i.2;obtain⟨C,c⟩:=bo c;obtain⟨P,c⟩:=bo c;obtain⟨r,c⟩:=bo c;obtain⟨A,c⟩:=bo c;obtain⟨Q,x⟩:=bo c;refine⟨⟨fdOf st q d m a,⟨⟨_,L bu (MI l R.1),rfl⟩,(hV a o vs t ⟨rfl,L bu (MI (cg.mpr (Nat.lt_of_succ_lt (cg.mp l))) j),h,n⟩),rfl,l_ C,l_ P,?_,rfl,rfl,A⟩,rfl,b⟩,Q,x⟩;show(bz st).kind=_;revert r;cases(bz st).kind<;>first|exact λ u=>rfl|exact bw
omit bu in
theorem pX{vs:H aq}{n:J}(e:vs.length=n)(h:n<=4):∃x y z u,vs=[x,y,z,u].take n:=by
 refine⟨vs[0]?.getD .none,vs[1]?.getD .none,vs[2]?.getD .none,vs[3]?.getD .none,e▸?_⟩
 iterate 4 (cases vs with
  |nil=>rfl|cons x vs=>?_)
 cases vs with|nil=>rfl|cons x vs=>exact aS h (e▸anC (jJ 5 vs.length))
omit bu in
theorem Fc{vs:H aq}(h:vs.length=2):∃a b,vs=[a,b]:=hx (pX h (by decide)) λ x y u u e=>⟨x,y,e⟩
omit bu in
theorem aam{vs:H aq}(h:vs.length=3):∃a b c,vs=[a,b,c]:=hx (pX h (by decide)) λ x y z u e=>⟨x,y,z,e⟩
theorem gh{st:bx}(q:ai)(m:b1)(u t:Tok)(n:J)(l:bE (a+1) 371=S)(h:n<=4)
  (e:(MJ g.w.params a st,O (eU st),λ x y z v:aq=>rh (fdOf st q .none (.str (ep m) u) a) ⟨[x,y,z,v].take n,[]⟩)=((B ⟨.type "function",aa,.func (fdOf st q .none (.str (ep m) u) a), #[]⟩,B (.str q t),S),n,λ x y z v=>pure ((eU st).zip ([x,y,z,v].take n)))):eB g (a+1) (.plain bf) st:=
 have E:=bc e;have f:=bc E.2
 z5 bu l E.1 λ s Sq vs k=>by exact hx (pX (Y k f.1) h) λ x y z v w=>L w (.of_eq (pI (pI (pI (pI f.2 x) y) z) v))theorem aan:eB g 45 (.plain .plain) (aY 6):=gh bu "rgb_to_hls" "cpy313.colorsys" 289 304 3 rfl (by decide) (by lk)theorem aao:eB g 52 (.plain .plain) (aY 7):=gh bu "hls_to_rgb" "cpy313.colorsys" 289 323 3 rfl (by decide) (by lk)theorem aap:eB g 59 (.plain .plain) (aY 8):=gh bu "_v" "cpy313.colorsys" 289 334 3 rfl (by decide) (by lk)theorem aaq:eB g 66 (.plain .plain) (aY 9):=gh bu "rgb_to_hsv" "cpy313.colorsys" 289 343 3 rfl (by decide) (by lk)theorem aar:eB g 73 (.plain .plain) (aY 10):=gh bu "hsv_to_rgb" "cpy313.colorsys" 289 361 3 rfl (by decide) (by lk)theorem aas:eB g 80 (.plain .plain) (aY 13):=gh bu "_div2n1n" "cpy313._pylong" 374 379 3 rfl (by decide) (by lk)theorem aat:eB g 108 (.plain .plain) (aY 17):=gh bu "_divmod_pos" "cpy313._pylong" 374 432 2 rfl (by decide) (by lk)theorem aau:eB g 115 (.plain .plain) (aY 18):=gh bu "int_divmod" "cpy313._pylong" 374 447 2 rfl (by decide) (by lk)theorem aav:eB g 179 (.plain .plain) (aY 23):=gh bu "map_table_b3" "cpy313.stringprep" 456 2477 1 rfl (by decide) (by lk)theorem aaw:eB g 186 (.plain .plain) (aY 24):=gh bu "in_table_c11" "cpy313.stringprep" 456 2485 1 rfl (by decide) (by lk)
theorem aax:eB g 211 (.opt .keep) (clsAt 28 0):=by
 obtain N:g.K.get? 204=B (rE [.none]):=L bu (jc rfl (by lk) rfl);have a:O (eU (clsAt 28 0))=2:=rfl;refine z5 bu (q:="Headers.__init__") (d:=(.ref 204)) (m:=.str (ep "cpy313.wsgiref.headers") 2491) (t:=2566) rfl (by lk) ⟨λ s Sq vs h=>?_,λ s Sq vs h=>?_⟩
 ·obtain⟨x,y,z,v,rfl⟩:=pX (Y h a) (by decide)
  exact .of_defaults rfl (Sq _ _ N) rfl rfl rfl
 ·obtain⟨x,y,z,v,rfl⟩:=pX (zm (Y h a)) (by decide)
  exact .of_defaults rfl (Sq _ _ N) rfl rfl rfl
theorem aay:eB g 218 (.kw) (clsAt 28 1):=by
 refine z5 bu (q:="Headers._convert_string_type") (d:=.none) (m:=.str (ep "cpy313.wsgiref.headers") 2491) (t:=2576) rfl (by lk) λ vs k l h=>(hx (pX (Y l rfl) (by decide)) λ x y z v W=>L W ?_);rcases k with _|⟨p,r⟩;case nil=>exact aS h (by decide)
 case cons=>cases r with
  |cons=>exact nomatch (kn h).2
  |nil=>obtain⟨n,w⟩:=p;obtain rfl:=(kn h).1;lk
theorem aaz:eB g 232 (.plain .plain) (clsAt 28 3):=gh bu "Headers.__setitem__" "cpy313.wsgiref.headers" 2491 2593 3 rfl (by decide) (by lk)theorem aaA:eB g 237 (.plain .plain) (clsAt 28 4):=gh bu "Headers.__delitem__" "cpy313.wsgiref.headers" 2491 2602 2 rfl (by decide) (by lk)
theorem aaB:eB g 266 (.opt .plain) (clsAt 28 8):=by
 obtain N:g.K.get? 259=B (rE [.none]):=L bu (jc rfl (by lk) rfl);have a:O (eU (clsAt 28 8))=3:=rfl;refine z5 bu (q:="Headers.get") (d:=(.ref 259)) (m:=.str (ep "cpy313.wsgiref.headers") 2491) (t:=2632) rfl (by lk) ⟨λ s Sq vs h=>?_,λ s Sq vs h=>?_⟩
 ·obtain⟨x,y,z,v,rfl⟩:=pX (Y h a) (by decide)
  exact .of_defaults rfl (Sq _ _ N) rfl rfl rfl
 ·obtain⟨x,y,z,v,rfl⟩:=pX (zm (Y h a)) (by decide)
  exact .of_defaults rfl (Sq _ _ N) rfl rfl rfl
theorem aaC:eB g 276 (.plain .fresh) (clsAt 28 10):=gh bu "Headers.values" "cpy313.wsgiref.headers" 2491 2649 1 rfl (by decide) (by lk)theorem aaD:eB g 309 (.plain .plain) (clsAt 28 15):=gh bu "Headers.setdefault" "cpy313.wsgiref.headers" 2491 2682 3 rfl (by decide) (by lk)theorem aaE:eB g 330 (.plain .plain) (aY 30):=gh bu "_law_figures" "law_ta0134_01" 2710 2713 2 rfl (by decide) (by lk)theorem aaF:eB g 335 (.plain .plain) (aY 31):=gh bu "_law_rows" "law_ta0134_01" 2710 2721 1 rfl (by decide) (by lk)theorem aaG:eB g 340 (.plain .plain) (aY 32):=gh bu "_law_vote" "law_ta0134_01" 2710 2727 2 rfl (by decide) (by lk)theorem aaH:eB g 345 (.plain .plain) (aY 33):=gh bu "_law_read" "law_ta0134_01" 2710 2733 1 rfl (by decide) (by lk)theorem aaI:eB g 350 (.plain .plain) (aY 34):=gh bu "_law_chair" "law_ta0134_01" 2710 2739 2 rfl (by decide) (by lk)theorem aaJ:eB g 355 (.plain .plain) (aY 35):=gh bu "_law_light" "law_ta0134_01" 2710 2745 4 rfl (by decide) (by lk)theorem aaK:eB g 360 (.plain .plain) (aY 36):=gh bu "_law_told" "law_ta0134_01" 2710 2751 3 rfl (by decide) (by lk)theorem aaL:eB g 365 (.plain .plain) (aY 37):=gh bu "_law_waves" "law_ta0134_01" 2710 2757 1 rfl (by decide) (by lk)theorem aaM:eB g 370 (.plain .plain) (aY 38):=gh bu "law" "law_ta0134_01" 2710 2763 1 rfl (by decide) (by lk)theorem aaN:∀a k st,wA.lookup a=B (k,st)->eB g a k st:=λ a k st h=>AllP.mem (P:=λ p:ao×Kind×bx=>eB g p.1 p.2.1 p.2.2) (.cons (aan bu) (.cons (aao bu) (.cons (aap bu) (.cons (aaq bu) (.cons (aar bu) (.cons (aas bu) (.cons (aat bu) (.cons (aau bu) (.cons (aav bu) (.cons (aaw bu) (.cons (aax bu) (.cons (aay bu) (.cons (aaz bu) (.cons (aaA bu) (.cons (aaB bu) (.cons (aaC bu) (.cons (aaD bu) (.cons (aaE bu) (.cons (aaF bu) (.cons (aaG bu) (.cons (aaH bu) (.cons (aaI bu) (.cons (aaJ bu) (.cons (aaK bu) (.cons (aaL bu) (.cons (aaM bu) .nil)))))))))))))))))))))))))) _ (nj h)
end
def Ce(m M:Ev V):Ev V:=m.bind λ a=>M.bind λ b=>(Ev.read a).bind λ d=>(Ev.read b).bind λ D=>λ σ=>match d,fW .Mult d D with|.ae _,B (.ae xs)=>B (.ok (.aH (O σ)),σ++ [.ae xs])|_,_=>aa
theorem ah3(v u:aq)(a b:D):ag g x (λ α h=>RD (x.P++α) h v a/\RD (x.P++α) h u b) (dA x) (kp .Mult v u) (λ σ=>match a,fW .Mult a b with
  |.ae _,B (.ae xs)=>B (.ok (.aH (O σ)),σ++ [.ae xs])|_,_=>aa):=by
 rcases a with _|_|_|_|_|_|_|_|a|_|⟨_,_⟩
 case ae=>
  rcases b with _|_|k|_|_|_|_|_|k|_|⟨_,_⟩
  case int=>
   intro α σ s f af I T p e Q E G P;refine e4 p.1.ml λ l vs w z m=>L w (a7 p.2.int λ t W=>L W (eD (fW .Mult (.ae a) (.int k)) (λ r=>?_) λ d r=>?_))
   ·rw[r]at e;exact nn e
   ·
    have i:=r;refine cq (dn i) λ q i=>(cq (bF.mp q) λ q1 R=>?_);obtain⟨R,X⟩:=bF.mp R;obtain⟨y,j⟩:=bF.mp R;obtain rfl:=ak i;rw[r]at e;cases e;refine NR z (iN y) (L m.length (dE X)) (iN j) (G _ _ _ s.toks _ rfl (.grow _ _) (I.grow _ _ ?_) T ⟨s.heap.objs.size,?_,rfl⟩)
    ·refine⟨_,⟨0,d0 _ rfl⟩,(m.flatten _).mono λ b o e n=>⟨dy _ e,?_⟩⟩
     rw[<-eb,bB,rj];exact⟨n,λ c=>aS (dI e) (L (ek.mp c) (hu _))⟩
    ·rw[<-I.bM.length];exact D8
  all_goals intro α σ s f af I T p e;exact nn e
 all_goals intro α σ s f af I T p e;exact nn e
theorem ah4(y:cU g x env n)(h:TE g x env ρ (bG l env) m)(E:TE g x env ρ (bG r env) M):TE g x env ρ (bG (.BinOp l .Mult r P) env) (Ce m M):=ag.cv y h λ v a=>ag.hk y (y.hn v a) E.holding λ u b=>ag.standAt (ag.operate (ag.ghost (λ w w p=>p.1.2) λ d=>ag.ghost (λ w w p=>p.1.2) λ D=>(ah3 v u d D).pre λ w w p=>⟨p.1.2,p.2⟩))theorem eW.low(ok:eW g x n)(h:m<=n):eW g x m:=⟨ok.cY,ok.eu,ok.frames,λ q=>ok.handled (eo q h),gf (oe h _) ok.depth,gf (pF (oe (vI 8 h) _) _) ok.units,ok.nolimit⟩theorem dq.low(c:dq g x s env n own)(h:m<=n):dq g x s env m own:=⟨⟨c.y.base,c.y.ok.low h,c.y.q⟩,c.cM,c.uz,c.w,c.top⟩theorem dq.ext(c:dq g x s env n own)(I:aG g (a3 x own) α σ h):dq (Internal.ext g h l) x s env n own:=⟨⟨Im I c.y.base,⟨c.y.ok.cY,c.y.ok.eu,c.y.ok.frames,c.y.ok.handled,c.y.ok.depth,c.y.ok.units,c.y.ok.nolimit.keeps λ b o e=>yd I e⟩,c.y.q⟩,c.cM,c.uz,c.w,c.top⟩def j9:FuncData:=fdOf (aY 15) "_int2digits" .none (.str (ep "cpy313._pylong") 374) 93
def pf:FuncData:=fdOf (aY 16) "_digits2int" .none (.str (ep "cpy313._pylong") 374) 100
section
variable {g:bX}(bu:g.K=ed g.w.params)
include bu
theorem ah5:g.K.get? 94=B ⟨.type "function",aa,.func j9, #[]⟩:=L bu (jc rfl (by lk) rfl)theorem Tp:g.K.get? 93=B (Fi g.w.params):=L bu (jc rfl (by lk) rfl)theorem ah6:g.K.get? 101=B ⟨.type "function",aa,.func pf, #[]⟩:=L bu (jc rfl (by lk) rfl)theorem Tq:g.K.get? 100=B (Fj g.w.params):=L bu (jc rfl (by lk) rfl)theorem ah7:zM g.K 93 89:=(pU _ _ _ _ _ _ _ (bh _ _ ⟨Tp bu,rfl,rfl,rfl,rfl,rfl,rfl,rfl,rfl,by decide⟩))theorem ah8:zM g.K 100 96:=(pU _ _ _ _ _ _ _ (bh _ _ ⟨Tq bu,rfl,rfl,rfl,rfl,rfl,rfl,rfl,rfl,by decide⟩))
theorem ah9:ly g 94 j9 (bP (aY 15)):=
 ⟨⟨_,ah5 bu,rfl⟩,(hV 93 _ _ 410 ⟨rfl,Tp bu,rfl,rfl⟩),rfl,rfl,rfl,rfl,rfl,rfl,rfl⟩
theorem ah_:ly g 101 pf (bP (aY 16)):=
 ⟨⟨_,ah6 bu,rfl⟩,(hV 100 _ _ 421 ⟨rfl,Tq bu,rfl,rfl⟩),rfl,rfl,rfl,rfl,rfl,rfl,rfl⟩theorem aia:∃m,g.K.Ns k0 m/\g.K.BuiltinsAt m 89:=L bu ⟨_,vR ((bo (E0 g.w.params)).1),4,Fg g.w.params,by lk,by decide,by decide,by decide,jc rfl (by lk) rfl,rfl,rfl,rfl⟩theorem aib:∃m,g.K.Ns k0 m/\g.K.BuiltinsAt m 96:=L bu ⟨_,vR ((bo (E0 g.w.params)).1),4,Fg g.w.params,by lk,by decide,by decide,by decide,jc rfl (by lk) rfl,rfl,rfl,rfl⟩
end
abbrev ha:Scope:=bz (aY 15)def eH(k:J):Stmt:=(bP (aY 15)).getD k (.Pass ew)def Cf(s:bx):Stmt:=(sB 0 s).headD s
def sq(s:bx):Arguments:=(jf s).z7
def Tr(s:bx):Pos:=(jf s).p
theorem aic:bP (aY 15)=[eH 0,d8,eH 2,eH 3]:=rfl
theorem aid:eH 0=.Assign [.Name "a_digits" ((fI (hz 1 (eH 0))).p)] (.BinOp (ic (dx (eH 0))) .Mult (lH (dx (eH 0))) (Io (dx (eH 0)))) (qz (eH 0)):=rfl
theorem aie:d8=.FunctionDef "inner" (sq d8) (bP d8) [] aa [] (bz d8) aa "inner" (Tr d8):=rfl
theorem aif:eH 2=.If (dx (eH 2)) [.Expr (dx (Cf (eH 2))) (qz (Cf (eH 2)))] [] (qz (eH 2)):=rfl
theorem aih:eH 3=.Return (B (dx (eH 3))) (qz (eH 3)):=rfl
def u_(g:V):Ev V:=(Ev.read g).bind λ d=>Ev.ofD ((xq d).map D.int)theorem Ts(h:Ev.read g σ=B (.ok (.ae xs),σ))(M:dc xs=S):u_ g σ=B (.ok (.d (.int (O xs:J))),σ):=by unfold u_;refine L (bind_some h) ?_;show Ev.ofD (Option.map D.int (a8 _ _)) σ=_;exact L M rfl
noncomputable def yi(l:J):H (ai×ao):=[("n",l+1),("inner",l+3),("a_digits",l+2)]theorem aii(l:J):zB (bz d8) (eY j9 94 l)=pure (yi l):=rfl
noncomputable def lK(a n:J):az:=[("n",.d (.int n)),("a",.d (.int a))]def Tt(a n k:J):az:=("a_digits",.aH k)::lK a n
def n0(a n k f:J):az:=("inner",.d (.obj f))::Tt a n k
section
variable (a n k f:J)(σ:aE)theorem aij:(ba bI 30 ha (lK a n) (ic (dx (eH 0)))).1 σ=B (.ok (.d (.ae [.int 0])),σ):=rfl
theorem aik:(ba bI 30 ha (lK a n) (lH (dx (eH 0)))).1 σ=(Ev.ofD (fW .FloorDiv (.int ((i_ a:ah)+(n:ah)- 1)) (.int n))) σ:=rfl
theorem ail:(ba bI 30 ha (n0 a n k f) (dx (eH 2))).2 σ=B (.ok (!((a:ah)==0)),σ):=rfl
theorem o_args(h:u_ (.aH k) σ=B (.ok v,σ)):cE ((u5 (dx (Cf (eH 2)))).map λ e=>(ba bI 30 ha (n0 a n k f) e).1) σ=B (.ok [.d (.int a),.d (.int 0),v],σ):=by rw[(show cE _ σ=((((u_ _).bind λ v=>(cE []).bind λ as=>.ret _).bind λ as=>.ret _).bind λ as=>.ret _) σ by lk)];dsimp only[Ev.bind];exact L h rfl
theorem aim:lx (ba bI 30 ha (n0 a n k f) (dx (eH 3))).1 (n0 a n k f) σ=B (.ok (.ret (.aH k),n0 a n k f),σ):=rfl
end
theorem ain(h:B1 a n σ=B (r,af)):1<=n/\n<=1000/\b6 a n<=32/\σ.all (bk (O σ))=S/\σ[0]?=B (.tab 89 121 4 lF)/\r=.ok (.ret (.aH (O σ)),[])/\af=σ++ [.ae (dB n (b6 a n) a)]:=
 bN h λ R e=>
  have p:=bc (ak e);have W:=bo R;have j:=bo W.2;have v:=bo j.2;have I:=bo v.2
  ⟨b8 W.1,b8 j.1,b8 v.1,I.1,B0 I.2,p.1.symm,p.2.symm⟩theorem IB{a:J}(h:a≠0):((a:ah)==0)=false:=ro λ q=>h (aoO q)
theorem aio{a b:J}(h:1<=b)(j:b<2^64):fW .FloorDiv (.int a) (.int b)=B (.int (a/b:J)):=by
 show a8 _ _=_;obtain G:=hM h;obtain e:tr a b=false:=by refine Y (aM (·&&_) (l1 ?_)) rfl;show¬(if _=S then 0 else b.log2/30+1)>300;exact L (IB G) (Nat.not_lt_of_le (bA (aoT (gf (aoN ..) ((K4 G).mpr j))) (by decide)))
 simp only[IB G,e,sm];rfl
theorem bt.nil(R:bt g x env ρ α h):bt g x env [] α h:=
 ⟨R.fv,R.gl,R.cc,R.fK,av R.ns λ m a u=>⟨m,a,λ n v e=>nn e⟩,λ n A=>R.jV A λ c V W j q w I z=>⟨c,W,j,q,w,V,I,λ v e=>nn e⟩,R.ap⟩theorem bt.Cg(R:bt g x env ρ α h):bt G x env ρ α h:=⟨R.fv,R.gl,R.cc,R.fK,R.ns,R.lg,R.ap⟩def IC(n k f:J)(ρ:az):cy:=b5 (fL (ba bI 30 ha ρ (dx (eH 2))).2 (b5 (kH (ib ha (lI k n f) f (u4 (lI k n f) f 6) ρ (dx (Cf (eH 2)))) ρ) oZ) (oZ ρ)) λ ρ=>b5 (lx (ba bI 30 ha ρ (dx (eH 3))).1 ρ) oZ
theorem Tu{xs:H D}(h:O xs<=32):dc xs=true:=dD (bA h (by decide))theorem aip(h:fg.length=O xs):put xs fg 0=fg:=by unfold put;simp only[hO,h,List.drop_length,ea];rfl
theorem aiq(a n k f:J)(σ:aE)(E:σ.all (bk (O σ))=S)(W:1<=n)(j:n<=1000)(v:b6 a n<=32)(h:σ[k]?=B (.ae (hQ (b6 a n) (.int 0)))):
  IC n k f (n0 a n k f) σ=B (.ok (.ret (.aH k),n0 a n k f),σ.set k (.ae (dB n (b6 a n) a))):=by
 refine Y (pe ?_) (qA (aim a n k f _));by_cases c:a=0
 ·subst c
  rw[(show b6 0 n=0 from om (L (show aQ 0=0 from rfl) (L (hO ..) (Nat.sub_lt W LG))))]at h ⊢;rw[show dB n 0 0=hQ 0 _ from rfl,set_same h];rfl
 ·obtain l:=List.length_replicate
  obtain D:=Iw n k f j 5 a 0 _ σ _ E h (L l (L (hO ..) (bH _))) (L l v) ((show 1<=b6 a n from DG (Nat.le_sub_of_add_le (ax (iO 1 _) (pF ((by
    unfold aQ;rw[a6 (mt eq_of_beq c)];exact jJ ..)) n))) W)) v (eo (Cb a) (q9 (by decide) (aoU (aoV (aoW W)))))
  rw[aip (by rw[l,pd]),hO]at D;exact Y (Cc (Y (ail a n k f σ) (L (IB c) rfl))) (Y (pe (Y (bind_some (Y (u9 f σ rfl ((by
    simp only[(show agree (lI k n f) (n0 a n k f)=(j7 (.aH k) (.aH k)&&(j7 (.d (.int n)) (.d (.int n))&&(j7 (.d (.obj f)) (.d (.obj f))&&S))) by lk),qy,qy,qy];rfl) ..) (o_args a n k f σ (l▸(Ts (show Ev.read _ σ=B _ by unfold Ev.read;dsimp only;rw[h]) (Tu (L l v)))))) D)) rfl)) rfl)
theorem Tv{s:bW}{l:H ai}(h:(s.names.all λ p=> !(p.2==tB)||l.contains p.1)=S):∀m,s.names.lookup m=B .free->m∈l:=by
 intro m e;rcases((lX ..).mp (b9.mp h _ (nj e)))with q|q
 ·simp at q
 ·exact oo.mp q
noncomputable def Tw:H Str:=["n","inner","a_digits"]
theorem hcI(X:J):∀m,(bz d8).names.lookup m=B .free->iB ((eY j9 94 X).kindOf m)=S/\(eY j9 94 X).cells.lookup m=(yi X).lookup m:=by
 intro m e;obtain h:=Tv (l:=Tw) rfl m e;unfold Tw at h;simp[dM,dS,jO]at h;rcases h with rfl|rfl|rfl
 ·exact⟨rfl,rfl⟩
 ·exact⟨rfl,rfl⟩
 ·exact⟨rfl,rfl⟩
theorem air(bu:g.K=ed g.w.params)(Bq:Base g)(G:hh g ee)(c:dq g x ha (eY j9 94 X) n o)(da:6<=n)(a m:J):c9 g x o (eY j9 94 X) (lK a m) (fG (bP (aY 15)) (eY j9 94 X)) (B1 a m):=by
 intro α σ s out af I dm R e Q E dp he;refine GC (ain e) λ c5 cw cZ d1 dP=>ff dP λ h0 xy xi=>?_;subst xy;subst xi;refine L aic ?_;have Tx:=pb G n;have Tz:c9 g x o (eY j9 94 X) (lK a m) (fF (eH 0) (eY j9 94 X)) (fb ha "a_digits" (Ce (ba bI 30 ha (lK a m) (ic (dx (eH 0)))).1 (ba bI 30 ha (lK a m) (lH (dx (eH 0)))).1) (lK a m)):=by exact L aid (aei c rfl (ah4 c.y (f7 Tx 30 ha _ _ _ _ c.y c.cM).1 (f7 Tx 30 ha _ _ _ _ c.y c.cM).1))
 have f3:fb ha "a_digits" (Ce (ba bI 30 ha (lK a m) (ic (dx (eH 0)))).1 (ba bI 30 ha (lK a m) (lH (dx (eH 0)))).1) (lK a m) σ=B (.ok (.next,Tt a m (O σ)),σ++ [.ae (hQ (b6 a m) (.int 0))]):=by
  have st:dU ha "a_digits" =true:=by lk
  unfold fb;refine L st ?_;dsimp only;rw[bind_some (af:=σ++ [.ae (hQ (b6 a m) (.int 0))]) (a:=V.aH (O σ))]
  ·rfl
  unfold Ce;rw[bind_some (aij ..)];have nB:(ba bI 30 ha (lK a m) (lH (dx (eH 0)))).1 σ=B (.ok (.d (.int (b6 a m:J))),σ):=by rw[aik,u6,show(aQ a:ah)+(m:ah)- 1=((aQ a+m-1:J):ah) by lia,aio c5 (by lia)];rfl
  rw[bind_some nB,bind_some (af:=σ) (a:=D.ae [.int 0]) rfl];apply Y (bind_some (m:=Ev.read (V.d (.int (b6 a m:J)))) (af:=σ) (a:=D.int (b6 a m:J)) rfl);have nA:fW .Mult (.ae [.int 0]) (.int (b6 a m:J))=B (.ae (hQ (b6 a m) (.int 0))):=by
   show a8 (NQ .Mult&&(decide (0<=((b6 a m:J):ah))&&decide (((b6 a m:J):ah)<=1000000)&&aL 1 1)) (B (D.ae (hQ ((b6 a m:J):ah).toNat [D.int 0]).flatten))=_;rw[gJ (m2 _),gJ (by lia)];dsimp only[aob];have:∀k,(hQ k [D.int 0]).flatten=hQ k (D.int 0):=by intro k;induction k with|zero=>rfl|succ k w3=>rw[YG,zl,w3,YG];rfl
   exact L (this ..) rfl
  exact L (nA ..) rfl
 refine L (LF ..) (aB (Tz α σ s _ _ I dm R f3 _ _ (gk.ok λ f h' el aA st eX j0 F=>?_) eC.ok));obtain⟨BE,cQ⟩:=F;induction f<;>first|exact BE.elim|skip
 clear BE Tz f3;dsimp only;rw[LF];have h0':(σ++ [cj.ae (hQ (b6 a m) (.int 0))])[0]?=B (.tab 89 121 4 lF):=by rw[vU (jL.mp h0).1];exact h0
 refine L (aie ..) (aB (To c (q:=lF) (nm:="inner") (s:=cT s h' el) (cAd:=93) (P:=89) (i:=0) (by lk) (by lk) (by lk) (by lk) (aii X) (by intro q;cases q) rfl (ah7 bu) rfl (aia bu) (by lk) eX j0 cQ h0' λ f c' r M pm h h8 h9 mx eF i0 fN hf j qB so=>?_));dsimp only;have cL:∀b∈[f,c'],b∉(a3 x o).P/\b∉h9:=by
  intro b cv;simp only[dM,dS,jO]at cv;rcases cv with rfl|rfl
  ·exact⟨λ q=>qB (bL _ q),λ q=>qB (aW _ q)⟩
  ·exact⟨λ q=>so (bL _ q),λ q=>so (aW _ q)⟩
 have sr:=Sw (l:=[f,c']) eF G;have ais:=Im (l:=[f,c']) eF Bq;have j1:=c.ext (l:=[f,c']) eF;have T:(Internal.ext g h [f,c']).K.get? f=B (fnMade "inner" lF (sq d8) (bP d8) (bz d8) (yi X) M pm c' r):=B7 (by simp) hf;refine GK j λ c₂ TR v t N y z W=>?_;cases N;have hc2:(Internal.ext g h [f,c']).K.get? c'=B TR:=B7 (by simp) y;have ID:ly (Internal.ext g h [f,c']) f (fnX "inner" lF (sq d8) (bP d8) (bz d8) (yi X) .none .none M pm aa (.ref c') r) (bP d8):=
  ⟨⟨_,T,rfl⟩,⟨c',TR,v,t,rfl,hc2,z,W⟩,rfl,by lk,by lk,by lk,rfl,rfl,by lk⟩
 have IE:∀vs:H aq,O vs=O ye->rh (fnX "inner" lF (sq d8) (bP d8) (bz d8) (yi X) .none .none M pm aa (.ref c') r) ⟨vs,[]⟩=pure (ye.zip vs):=by intro vs nI;obtain⟨a,b,d,rfl⟩:=aam nI;lk
 have A:((lI (O σ) m f).all λ p=>(bz d8).names.lookup p.1==B .free)=true:=by lk
 have Sq:=SX (ck:=lI (O σ) m f) ID rfl IE ais sr rfl A 6 λ u u=>trivial;have C:=j1.low da;have yj:=pb sr 6;have su:c9 (Internal.ext g h [f,c']) x o (eY j9 94 X) (n0 a m (O σ) f) (fG [eH 2,eH 3] (eY j9 94 X)) (IC m (O σ) f (n0 a m (O σ) f)):=by
  unfold IC;refine o1 ?_ λ ρ=>o1 ?_ λ ρ=>qe
  ·refine L (aif ..) (PF C (f7 yj 30 ha _ _ _ _ C.y C.cM).2 (o1 (Be C (by lk) ?_) λ ρ=>qe) qe)
   exact B9 sr C.y C.cM ⟨_,_,T,rfl⟩ rfl (by lk) (Ca d8 _ A) (hcI X) Sq _
  ·exact L (aih ..) (xu C (f7 yj 30 ha _ _ _ _ C.y C.cM).1)
 have hr':(σ++ [cj.ae (hQ (b6 a m) (.int 0))]).all (bk (O (σ++ [cj.ae (hQ (b6 a m) (.int 0))])))=true:=by rw[zG,jH];refine⟨?_,rfl⟩;rw[b9]at d1 ⊢;intro mo hm;exact Hr (by simp) (d1 mo hm)
 have ev:=aiq a m (O σ) f (σ++ [cj.ae (hQ (b6 a m) (.int 0))]) hr' c5 cw cZ (by simp);refine ag.sl su eF cL i0 fN.Cg ev Q E (gk.ok λ b h' el aA my fO o4 F=>?_) eC.ok;have w4:(σ++ [cj.ae (hQ (b6 a m) (.int 0))]).set (O σ) (.ae (dB m (b6 a m) a))=σ++ [.ae (dB m (b6 a m) a)]:=by rw[Lh _ _ (bH _)];simp
 rw[w4]at fO;exact dp b _ h' el aA rfl ((st.trans mx).trans my) fO o4 ⟨F.1,bt.nil (bt.Cg F.2)⟩abbrev pg:Scope:=bz (aY 16)def kL(k:J):Stmt:=(bP (aY 16)).getD k (.Pass ew)def IF:aJ->PySem.Expr:=iu 0
def IG:aJ->PySem.Expr:=iu 1
def TS:aJ->PySem.Expr:=iu 2
noncomputable def IH(l:J):H (ai×ao):=[("n",l+2),("inner",l+3),("digits",l+1)]noncomputable def TU(bO:V)(n:J):az:=[("n",.d (.int n)),("digits",bO)]def qC(bO:V)(n f:J):az:=("inner",.d (.obj f))::TU bO n
section
variable (bO:V)(n f:J)(σ:aE)theorem ait(h:u_ bO σ=B (.ok v,σ)):cE ((u5 (IG (dx (kL 1)))).map λ e=>(ba bI 30 pg (qC bO n f) e).1) σ=B (.ok [.d (.int 0),v],σ):=by rw[(show cE _ σ=(((u_ bO).bind λ v=>(cE []).bind λ as=>.ret _).bind λ as=>.ret _) σ by lk)];unfold Ev.bind;exact L h rfl
end
theorem II(h:sk σ bO=B xs):bO=.d (.ae xs)\/∃i:J,bO=.aH i/\(σ:H cj)[i]?=B (.ae xs):=by induction bO with|aH i=>exact oP h λ y e K=>.inr ⟨i,rfl,ak K▸e⟩|d d=>exact BQ h λ y e K=>.inl (L e ((ak K)▸rfl))
theorem TV(h:sk σ bO=B xs):Ev.read bO σ=B (.ok (.ae xs),σ):=by
 rcases II h with rfl|⟨i,rfl,e⟩
 ·rfl
 ·unfold Ev.read
  dsimp only;exact L e rfl
theorem aiu(h:sk σ bO=B xs):wU bO σ=Ev.of (nz (.ae xs)) σ:=by
 rcases II h with rfl|⟨i,rfl,e⟩
 ·rfl
 ·unfold wU
  dsimp only;exact L e rfl
theorem aiv(h:sk σ bO=B xs)(b:D):lD bO (.d b) σ=Ev.ofD (fh (.ae xs) b) σ:=by
 have k:((Ev.read bO).bind λ y=>(Ev.read (.d b)).bind λ N=>Ev.ofD (fh y N)) σ=Ev.ofD (fh (.ae xs) b) σ:=by exact L (bind_some (TV h)) rfl
 rcases II h with rfl|⟨i,rfl,e⟩
 ·exact k
 ·refine ax k ?_
  unfold lD;exact L (show(hA (.aH i) λ i=>nQ σ[i]? B)=aa from(show nQ σ[i]? B=aa by rw[e];rfl)) rfl
theorem aiw(h:B2 bO n σ=B (r,af)){GG:Prop}(k:∀(ds:H J),n<=1000->σ.all (bk (O σ))=S->σ[1]?=B (.tab 96 136 4 mH)->sk σ bO=B (ds.map λ d=>D.int (d:J))->O ds<=32->(∀x∈ds,x<2^n)->r=.ok (.ret (.d (.int (fA n ds:J))),[])->af=σ->GG):GG:=
 bN h λ R e=>b3 e λ ds l e=>bN e λ b e=>b3 l λ xs E i=>
  have p:=bc (ak e);have W:=bo R;have j:=bo W.2;have v:=bo b
  k ds (b8 W.1) j.1 (B0 j.2) (ax (x9 i) E) (b8 v.1) (λ x K=>cg.mp (b9.mp v.2 x K)) p.1.symm p.2.symm
def TY(bO:V)(n f:J)(ρ:az):cy:=b5 (lx (fL (ba bI 30 pg ρ (IF (dx (kL 1)))).2 (ib pg (lJ bO n f) f (yg (lJ bO n f) f 6) ρ (IG (dx (kL 1)))) (ba bI 30 pg ρ (TS (dx (kL 1)))).1) ρ) oZ
theorem aix{ds:H J}(h:O ds<=32)(w:aN<O ds):fh (.ae (ds.map λ d=>D.int (d:J))) (.int (aN:J))=B (.int (ds[aN]:J)):=by
 obtain s:v5 aN (O (ds.map λ d=>D.int _))=B aN:=by exact L (gg ..) (bC (bF.mpr ⟨gJ (m2 aN),gJ (q8.mpr w)⟩))
 show uh _ _=_;unfold uh;rw[s,show ug aN=S from bF.mpr ⟨gJ (zi (by decide) (m2 aN)),gJ (q8.mpr (eo w (bA h (by decide))))⟩];exact Y (Et ..) (aM _ (tD w))noncomputable def TZ:H Str:=["n","inner","digits"]
theorem aiy(bu:g.K=ed g.w.params)(Bq:Base g)(G:hh g ee)(c:dq g x pg (eY pf 101 X) n o)(da:6<=n)(bO:V)(m:J):c9 g x o (eY pf 101 X) (TU bO m) (fG (bP (aY 16)) (eY pf 101 X)) (B2 bO m):=by
 intro α σ s out af I dm R e Q E dp he;refine aiw e λ ds cw d1 h0 hd cZ dd w16 w17=>?_;subst w16;subst w17;rw[(show bP _=[eP,kL 1]from by lk),(show eP=.FunctionDef "inner" (sq eP) (bP eP) [] aa [] (bz eP) aa "inner" (Tr eP)from by lk)];refine aB (To c (q:=mH) (s:=s) (cAd:=100) (P:=96) (i:=1) rfl rfl (by lk) (by lk) ((show zB _ _=pure (IH X)from by lk)) (by intro q;cases q) rfl (ah8 bu) rfl (aib bu) (by lk) I dm R h0 λ f c' r D pm v h8 h9 mx eF i0 fN hf j qB so=>?_);obtain cL:∀b∈[f,c'],b∉(a3 x o).P/\b∉h9:=by
  intro b cv;simp only[dM,dS,jO]at cv;rcases cv with rfl|rfl
  ·exact⟨λ q=>qB (bL _ q),λ q=>qB (aW _ q)⟩
  ·exact⟨λ q=>so (bL _ q),λ q=>so (aW _ q)⟩
 obtain sr:=Sw (l:=[f,c']) eF G;obtain k:(Internal.ext g v [f,c']).K.get? f=B _:=B7 (by simp) hf;refine GK j λ c₂ w T z M y W A=>?_;injection M with M;subst M;obtain ID:ly (Internal.ext g v [f,c']) f (fnX "inner" mH (sq eP) (bP eP) (bz eP) (IH X) .none .none D pm aa (.ref c') r) (bP eP):=
  ⟨⟨_,k,rfl⟩,(hV c' w T z ⟨rfl,(B7 (by simp) y),W,A⟩),rfl,by lk,by lk,by lk,rfl,rfl,by lk⟩
 obtain IE:∀vs:H aq,O vs=O yf->rh (fnX "inner" mH (sq eP) (bP eP) (bz eP) (IH X) .none .none D pm aa (.ref c') r) ⟨vs,[]⟩=pure (yf.zip vs):=by refine λ vs nI=>f5 (Fc nI) λ a b w29=>L w29 ?_;lk
 have F:((lJ bO m f).all λ p=>(bz eP).names.lookup p.1==B .free)=true:=by lk
 obtain C:=(c.ext (l:=[f,c']) eF).low da;obtain yj:=pb sr 6;obtain su:c9 (Internal.ext g v [f,c']) x o (eY pf 101 X) (qC bO m f) (fG [kL 1] (eY pf 101 X)) (TY bO m f (qC bO m f)):=by
  exact o1 (L (show kL 1=.Return (B (.IfExp (IF (dx (kL 1))) (IG (dx (kL 1))) (TS (dx (kL 1))) ((fI (dx (kL 1))).p))) (qz (kL 1))from by lk) (xu C (Of C.y (f7 yj 30 pg _ _ _ _ C.y C.cM).2 (B9 sr C.y C.cM (bh _ _ ⟨k,rfl⟩) rfl (by lk) (Ca eP _ F) ((by
    intro m e;obtain h:=Tv (l:=TZ) rfl m e;unfold TZ at h;simp only[dM,dS,jO]at h;rcases h with rfl|rfl|rfl
    ·exact⟨by lk,by lk⟩
    ·exact⟨by lk,by lk⟩
    ·exact⟨by lk,by lk⟩)) (SY (ck:=lJ bO m f) ID rfl IE (Im (l:=[f,c']) eF Bq) sr rfl F 6 λ u u=>trivial) _) (f7 yj 30 pg _ _ _ _ C.y C.cM).1))) λ ρ=>qe
 refine ag.sl su eF cL i0 fN.Cg ((show TY bO m f (qC bO m f) af=B (.ok (.ret (.d (.int (fA m ds))),qC bO m f),af)from by
   obtain lm:=gg ..;have sh:=Tu (L lm cZ);obtain t:(ba bI 30 pg (qC bO m f) _).2 af=B _:=by refine Y ((show(ba bI 30 pg (qC bO m f) (IF (dx (kL 1)))).2 af=(ub (.ret bO)) af from by lk) ..) (Y (aiu hd) ?_);show Ev.of (a8 (dc _) _) af=_;rw[sh];rfl
   refine qA (Tj ?_);induction ds with
   |nil=>exact Y (It t) rfl
   |cons d ds=>
    obtain u:=Iz m f bO (d::ds) af cw cZ dd d1 (λ X lp=>by rw[aiv hd,aix cZ lp];rfl) 5 0 (O (d::ds)) (fV (hO _)) (fp _) cZ;rw[hO,aoe,ov]at u;exact Y (Cc t) (Y (u9 f af rfl ((by
      simp only[(show agree (lJ bO m f) (qC bO m f)=(j7 bO bO&&(j7 (.d (.int m)) (.d (.int m))&&(j7 (.d (.obj f)) (.d (.obj f))&&S))) by lk),qy,qy,qy];rfl) ..) (ait bO m f af (lm▸(Ts (TV hd) sh)))) u))) Q E (gk.ok λ b h' el aA my fO o4 di=>?_) eC.ok
 exact dp b _ h' el aA rfl (mx.trans my) fO o4 ⟨di.1,bt.nil (bt.Cg di.2)⟩theorem T1(G:hh g ee)(n:J):gP g Ii n:=⟨λ e=>(bw e),G,λ u u e=>(nn e),λ id x ok=>yc (.cons Pz .nil),λ u u u u u=>.au,λ u u u u u u u u u u u e=>(nn e),λ u u u u u=>.au,λ u u u u u u u u u=>.au,λ u u u u u u u u=>.au,λ u u u u u u u=>.au,λ u u u u u u u=>.au,λ u u u u u u=>.au⟩def qD(P:dj):H (ah×aq):=match(Fl P).data with|.set es _ _=>es.toList|_=>[]
noncomputable def va:aq->J
 |.int k _=>k.toNat|_=>0
section
variable {g:bX}(bu:g.K=ed g.w.params)
include bu
theorem aiz:g.K.SetOf (tl g.prog g.w) BZ (λ i=>(qD g.w.params).any λ e=>pO i e.2) 27:=by
 refine(hV (Fl g.w.params) _ _ _ ⟨?_,⟨rfl,rfl,rfl⟩,rfl,?_,λ k=>K8.trans Iff.rfl,by decide,rfl,rfl⟩)
 ·rw[bu];exact jc rfl (by lk) rfl
 ·obtain K:∀e∈(qD g.w.params),(∃k,pO k e.2=S/\e.1=te k)/\e.2.scannable=true:=by have:((qD g.w.params).all λ e=>pO (va e.2) e.2&&(e.1==te (va e.2)&&e.2.scannable))=true:=rfl;intro e x;have h:=bo (b9.mp this e x);have j:=bo h.2;exact⟨⟨_,h.1,cI.mp j.1⟩,j.2⟩
  exact K
end
theorem aiA(P:dj)(c:J):((qD P).any λ e=>pO (c:ah) e.2)=u2.contains c:=by
 obtain e:∀l:H J,(l.any λ k=>pO c (.int k 0))=l.contains c:=by
  intro l;induction l with
  |nil=>rfl
  |cons k l i=>
   apply Y D6;congr 1;show(k==(c:ah))=(c==k);by_cases h:c=k
   ·subst h;simp
   ·simp[DQ.mpr h,DQ.mpr ((aoX rfl rfl λ a=>h (id (oj a))))]
 obtain E:((qD P).any λ e=>pO c e.2)=(((qD P).map λ e=>va e.2).any λ k=>pO c (.int k 0)):=by
  obtain this:∀l:H (ah×aq),(l.all λ e=>match e.2 with|.int k _=>decide (0<=k)|_=>aj)=S->(l.any λ e=>pO c e.2)=l.any ((λ k:J=>pO c (.int k 0)) ∘ λ e=>va e.2):=by intro l;induction l with|nil=>intro u;rfl|cons a l i=>intro h;have h:=bo h;show(_||l.any _)=(_||l.any _);rw[i h.2];congr 1;have W:=h.1;obtain⟨a,v⟩:=a;dsimp only at W ⊢;cases v with|int k t=>show _=(k.toNat==(c:ah));exact L (Int.toNat_of_nonneg (iN W)) rfl|_=>exact bw W
  exact this _ rfl
 simp only[E,e];obtain p:=by have:(((qD P).map λ e=>va e.2).all λ k=>u2.contains k)=true:=rfl;exact λ k n=>oo.mp (b9.mp this k n)
 obtain Q:∀k∈u2,k∈((qD P).map λ e=>va e.2):=by exact λ k n=>oo.mp (b9.mp rfl k n)
 rw[DH,oo,oo];exact⟨p c,Q c⟩
theorem aiB(bu:g.K=ed g.w.params)(y:cU g x env n)(j: [r].all hY=S)(m:TE g x env ρ (bG l env) M)(V:TE g x env ρ (bG r env) W):
  TE g x env ρ (bG (.Compare l [.In] [r] P) env) (M.bind λ a=>W.bind λ b=>Sj a b):=by
 simp[arm_eval_Compare,F7 _ _ _ j];refine ag.cv y m λ v a=>?_;have e:YL P v [CmpOp.In] (iQ [r] env)=(d_ [v] (bG r env)>>=λ u=>dZ P>>=λ z=>zu [v,u] (kr .In v u)>>=λ c=>pure c):=Oc P v .In _;refine ax e.symm (ag.hk y (y.hn v a) V.holding λ u b=>ag.standAt ?_);simp[YM];apply ag.operate;intro α σ s X af I dm p e Q E G he;refine iA e λ d A R=>BP R λ o C R=>bN R λ i R=>iA R λ gm D R=>nU R λ c F dQ=>?_;subst A C D F;obtain f:=bc (ak dQ);obtain⟨⟨_,N⟩,eE⟩:=p;refine a7 (aV.inv N) λ t1 wO=>L wO ?_;obtain⟨rfl,_⟩:=aV.inv eE;refine L (eq_of_beq i) ?_;obtain Sq:s.heap.SetOf _ BZ _ 27:=by exact(λ h k=>hx h λ x y z w h=>k x y z w h.1 h.2) (aiz bu) λ o es c3 t i q=>(⟨o,es,c3,t,I.base _ _ i,q⟩)
 exact wpAny_inSet_of (by show _=S;exact beq_int_true rfl) rfl Sq (L (aiA ..) (G _ _ s.heap _ α f.1.symm (.refl ..) (ax f.2 I) (jJ ..) (.bool _)))
section
variable {g:bX}(bu:g.K=ed g.w.params)
include bu
theorem aiC:eB g 133 (.plain .plain) (aY 21):=gh bu "in_table_b1" "cpy313.stringprep" 456 519 1 rfl (by decide) (by lk)theorem aiD(Bq:Base g)(G:hh g ee)(n:J):cK g 133 (n+1) Sm:=by refine mK (aiC bu) Bq λ ρ x e o c=>(o1 (xu c (aiB bu c.y rfl (f7 (T1 G n) 30 _ ρ _ x e c.y c.cM).1 (f7 (T1 G n) 30 _ ρ _ x e c.y c.cM).1)) λ ρ=>qe)
theorem aiE(Bq:Base g)(G:hh g ee)(V:6<=n):cK g 94 (n+1) mI:=by
 obtain F:=ah9 bu;refine⟨av F.there λ o a b=>(bh o j9 ⟨a,b⟩),λ x ok vs as k ks=>?_⟩;intro α σ s f af I T p e Q E M y;refine bN e λ X e=>nK e λ l v1 z e=>iA e λ uu N e=>nU e λ a i e=>iA e λ gm A e=>nU e λ m q dQ=>?_;obtain rfl:=k2.mp X;subst z N i A q;obtain⟨P,C⟩:=p;cases C;obtain r:rh j9 ⟨vs,[]⟩=pure _:=by refine f5 (Fc P.length) λ u v W=>?_;subst W;lk
 exact Bk .plain F Bq ok (pre:=λ α h=>bU _ α h vs [.d _,.d _]) (bs:=(["a","n"]:H ai).zip [.d _,.d _]) (λ α σ s I p=>⟨.of_eq r,p.zip,Hh (Hi rfl)⟩) rfl (λ h5 R D j w w w c=>a7 j λ w t=>L t (air bu Bq G (ax t c) V a m)) α σ s f af I T P dQ Q E M y
theorem aiF(Bq:Base g)(G:hh g ee)(V:6<=n):cK g 101 (n+1) lG:=by
 obtain F:=ah_ bu;refine⟨av F.there λ o a b=>(bh o pf ⟨a,b⟩),λ x ok vs as k ks=>?_⟩;intro α σ s f af I T p e Q E M y;refine bN e λ X e=>nK e λ D j z e=>iA e λ gm A e=>nU e λ m N dQ=>?_;obtain rfl:=k2.mp X;subst z A N;obtain⟨P,C⟩:=p;cases C;obtain q:rh pf ⟨vs,[]⟩=pure _:=by refine f5 (Fc P.length) λ u v W=>?_;subst W;lk
 exact Bk .plain F Bq ok (pre:=λ α h=>bU _ α h vs [D,.d _]) (bs:=(["digits","n"]:H ai).zip [D,.d _]) (λ α σ s I p=>⟨.of_eq q,p.zip,Hh (Hi rfl)⟩) rfl (λ l R r i w w w c=>a7 i λ w t=>L t (aiy bu Bq G (ax t c) V D m)) α σ s f af I T P dQ Q E M y
end
theorem aa8(w:dg)(os:eS):oG w 265 (z9 w os) (nq 0 10 ⟨0,0,0,0⟩)=B (.next,MV w os,iy,⟨69,0,89,24⟩):=by lk
theorem aa9(w:dg)(os:eS):oG w 238 (MV w os) (nq 10 9 ⟨69,0,89,24⟩)=B (.next,Fk w os,iy,⟨165,0,165,8⟩):=by lk
theorem Ak: @rf=@PySem.W.Fast.tw10110043849684766642:=PySem.W.Fast.te10110043849684766642
theorem Al:jK=PySem.W.Fast.tw14364793385576792824:=anL
abbrev rQ(w:dg):Prop:=∀os,oG w 999 (Fk w os) (nq 19 1 ⟨165,0,165,8⟩)=B (.next,Fm w os,iy,⟨166,0,166,6⟩)theorem aa_(w:dg):rQ ((w.withFollow "special-get-raises" aj).withFollow "set-order" aj):=λ os=>by show rf _ _ _ _ _ _ _ _ _=_;rw[Ak,Al];lk
theorem aba(w:dg):rQ ((w.withFollow "special-get-raises" S).withFollow "set-order" aj):=λ os=>by show rf _ _ _ _ _ _ _ _ _=_;rw[Ak,Al];lk
theorem abb(w:dg):rQ ((w.withFollow "special-get-raises" aj).withFollow "set-order" S):=λ os=>by show rf _ _ _ _ _ _ _ _ _=_;rw[Ak,Al];lk
theorem abc(w:dg):rQ ((w.withFollow "special-get-raises" S).withFollow "set-order" S):=λ os=>by show rf _ _ _ _ _ _ _ _ _=_;rw[Ak,Al];lk
theorem abd(w:dg)(os:eS):oG w 999 (Fk w os) (nq 19 1 ⟨165,0,165,8⟩)=B (.next,Fm w os,iy,⟨166,0,166,6⟩):=
 byRow2 (P:=rQ) "set-order" (λ w=>by
  have:=byRow2 (P:=λ w=>rQ (w.withFollow "set-order" aj)) "special-get-raises" aa_ aba w;exact this) (λ w=>by
  have:=byRow2 (P:=λ w=>rQ (w.withFollow "set-order" S)) "special-get-raises" abb abc w;exact this) w os
theorem abe(w:dg)(os:eS):oG w 30 (Fm w os) (nq 20 1 ⟨166,0,166,6⟩)=B (.next,M3 w os,iy,⟨167,0,168,30⟩):=by lk
theorem abh(w:dg)(os:eS):oG w 215 (M6 w os) (nq 22 5 ⟨169,0,169,13⟩)=B (.next,M9 w os,iy,⟨179,0,179,20⟩):=by lk
theorem abi(w:dg)(os:eS):oG w 729 (M9 w os) (nq 27 1 ⟨179,0,179,20⟩)=B (.next,Nc w os,iy,⟨180,0,254,16⟩):=by lk
theorem abj(w:dg)(os:eS):oG w 248 (Nc w os) (nq 28 10 ⟨180,0,254,16⟩)=B (.next,Nd w os,iy,⟨339,0,375,192⟩):=by lk
theorem abk(w:dg):(λ os=>(fenceModules? eA ⟨Nf w.params, #[],⟨0,0,0,0⟩,276,os⟩).map (λ s=>(s.heap,s.gens,s.drawn,s.toks)))=λ u=>B (pZ w.params, #[],⟨0,0,0,0⟩,276):=by lk
theorem abl(w:dg):importEnds jK (opening eA) w 799 (start (opening eA)).1 (start (opening eA)).2=B ⟨Nf w.params, #[],⟨0,0,0,0⟩,276,(start (opening eA)).1.os⟩:=by rw[PySem.W.Fast.te10274390034422433532,anL];lk
theorem abm(w:dg)(os:eS):topGo jK eA w 28 jQ 12 ⟨pZ w.params, #[],⟨0,0,0,0⟩,276,os⟩ (topStub eA)=B ((z9 w os).abs,⟨denote jK iy,iy,ky,[vQ ky]⟩):=by lk
theorem abn(w:dg)(os:eS):segRun jK eA w 28 jQ 1 1 (z9 w os).abs (blockOf rJ hW iy ky [vQ ky])=B (.next,(z9 w os).abs,iy,ky):=rfl
theorem fin_run(w:dg)(os:eS):topRun jK eA w 28 jQ 2 (Nd w os).abs ⟨doneF .next,iy,⟨339,0,375,192⟩,[vQ ky]⟩=B ⟨H1 w.params, #[],⟨0,0,0,0⟩,2768,os⟩:=by lk
noncomputable abbrev FG:Nat:=40000
theorem abo(w:dg)(os:eS):topRun jK eA w 28 jQ (12+(1+(265+(238+(999+(30+(12525+(215+(729+(248+2)))))))))) ⟨pZ w.params, #[],⟨0,0,0,0⟩,276,os⟩ (topStub eA)=B ⟨H1 w.params, #[],⟨0,0,0,0⟩,2768,os⟩:=go_top (abm w os) (piece_block (abn w os) (L (aM (λ b=>restOf b hW iy ky [vQ ky]) (show rJ=mc 0 10++(mc 10 9++(mc 19 1++(mc 20 1++(mc 21 1++(mc 22 5++(mc 27 1++(mc 28 10++ [])))))))from rfl)) (tm (tn (aa8 w os)) (tm (tn (aa9 w os)) (tm (tn (abd w os)) (tm (tn (abe w os)) (tm (tn (abg w os)) (tm (tn (abh w os)) (tm (tn (abi w os)) (tm (tn (abj w os)) (fin_run w os)))))))))))
theorem abp:∀w:dg,(fencedOpening jK eA w FG).map (λ s=>(s.heap,s.gens,s.drawn,s.toks))=B (pZ w.params, #[],⟨0,0,0,0⟩,276):=
 open_cut abl rfl abk
def iU:Program:={eA with main:={eA.main with body:=[aY 38] } }def p2:H Str:=(eA.boundNames.filter λ n=>n !=("law" :ai))++ [("__annotations__" :ai)]theorem abq(w:dg)(os:eS):(staticsOk (KW eA.main.body) (pZ w.params) (H1 w.params)&&namesBound eA (H1 w.params)&&gensDone ⟨H1 w.params, #[],⟨0,0,0,0⟩,2768,os⟩&&laidKept (pZ w.params) (H1 w.params))=true:=by lk
abbrev rowL:OpenRow:=anN.row
noncomputable def wJ(s:aU):H (U fe)×Nat:=(s.heap.objs.toList.map B,s.toks)def wK(w:dg):H (U fe)×Nat:=((H1 w.params).objs.toList.map B,2768)
theorem abr(w:dg):(λ os=>((staticsOk (KW eA.main.body) (pZ w.params) (H1 w.params)&&namesBound eA (H1 w.params)&&gensDone ⟨H1 w.params, #[],⟨0,0,0,0⟩,2768,os⟩&&laidKept (pZ w.params) (H1 w.params)),
  openSeen iU p2 (KW eA.main.body) (λ u=>S) S ⟨H1 w.params, #[],⟨0,0,0,0⟩,2768,os⟩,wJ (⟨H1 w.params, #[],⟨0,0,0,0⟩,2768,os⟩:aU)))=λ u=>(S,openGood iU p2,wK w):=by
 funext os;rw[abq w os,(show openSeen iU p2 _ _ S ⟨H1 w.params, #[],⟨0,0,0,0⟩,2768,os⟩=openGood iU p2 from by lk)];rfl
theorem abt:LeftO eA iU p2 (λ u=>S) wJ wK FG:=
 LeftO.of_pieces abp (λ w=>by lk) abo rfl abr
set_option maxHeartbeats 8000000 in
theorem abu(P:rowL.wellSaid=S)(call:∀d kwd,tp iU rowL.name=B (d,kwd)->WalkX iU p2 (λ u u=>True) wJ wK rowL.toRowW d kwd λ f vs=>KX f vs):rowL.Holds:=by
 have h:(tp iU rowL.name).isSome=true:=rfl;have l:tp iU rowL.name=B (((tp iU rowL.name).get h).1,((tp iU rowL.name).get h).2):=(Option.some_get h).symm;refine holds_openX (r:=rowL) (q:=iU) (loose:=p2) (Xt:=λ u=>S) (XP:=λ u u=>True) (Yf:=wJ) (Ya:=wK) (d:=((tp iU rowL.name).get h).1) (kwd:=((tp iU rowL.name).get h).2) (N:=FG) abt (λ u u=>trivial) (λ u u u u u=>trivial) l ?hp ?hk (λ s u=>recFacts_nil rfl) (by rfl) P ?ok ⟨rfl,rfl,rfl,rfl,rfl,by decide+kernel⟩ ?hw (call _ _ l);case ok=>decide+kernel
 case hw=>w_witness2
 case hp=>rfl
 case hk=>rfl
abbrev lawL:OpenLaw:=anN
theorem abv:(sreFenced lawL.prog.main)=true:=by lk
theorem abw:((moduleNames lawL.prog.main.body).isEmpty||lookedIntoSs (moduleNames lawL.prog.main.body) lawL.prog.main.body)=true:=rfl
theorem abx:(namesResolve lawL.prog)=true:=by lk
theorem aby:(lawL.prog.boundNames.all (λ n=> !worldNames.contains n))=true:=rfl
theorem abz:(noRoadLSs {strict:= !(KW lawL.prog.main.body).all cThrough.contains,foot:=aa,bare:=(["vars","dir","locals"]:H ai).filter (readsOut lawL.prog lawL.prog.main.body) } lawL.prog.main.body)=true:=by lk
theorem abA:(KY lawL.prog lawL.prog.main.body λ u n=>attrL n)=true:=by lk
theorem abB:(rowL.loose.isEmpty)=true:=rfl
theorem abC:(rowL.makers.isEmpty)=true:=rfl
theorem abD:((rowL.records.isEmpty||rowL.raises.all λ ct=>ct.1 !=.builtin "AttributeError"&&ct.1 !=.builtin "TypeError"))=true:=rfl
theorem abE:((rowL.raises.all λ ct=>match ct.1 with|.builtin n=> !rowL.prog.boundNames.contains (ep n)&&!ofTheWorld.contains n|.own _=>S))=true:=rfl
theorem abF:(decide (rowL.records.map (·.1)).Nodup)=true:=rfl
theorem abG:((rowL.records.all λ x=> !x.1.opensWith "__"&&!YC x.1&&rowL.prog.boundNames.contains x.1&&x.2.all λ f=> !f.1.opensWith "__"))=true:=rfl
theorem abH:(rowL.toRowW.solid)=true:=by lk
theorem abI:(rowL.pre.litsOk)=true:=by lk
theorem abJ:(rowL.post.litsOk)=true:=by lk
theorem abK:(rowL.raises.all (·.2.litsOk))=true:=rfl
theorem abL:(rowL.mutates.all (λ i=>match rowL.args[i]? with|some s=> !s.arms.any WShape.isObj|none=>aj))=true:=rfl
theorem abM:(rowL.within.all (λ i=>decide (i<O rowL.args)))=true:=rfl
theorem abN:(rowL.same.all (λ i=>decide (i<O rowL.args)))=true:=rfl
theorem abO:(rowL.prog.boundNames.contains rowL.name)=true:=rfl
theorem abP:(!startupNames.contains rowL.name)=true:=rfl
theorem abQ:(decide (lawL.foot<=O (behindTheImports lawL.prog)))=true:=rfl
theorem abR:(lawL.footing.all footLine)=true:=by lk
theorem abS:(noClassBlock lawL.prog lawL.footing)=true:=by lk
theorem abT:(lawL.most.all (λ n=>decide (63<=n)))=true:=rfl
theorem abU:(lawL.bound.all (λ n=>decide (2^63<=n)))=true:=rfl
theorem abV:(noRoadLSs {strict:=S,foot:=B lawL.bound',writes:=lawL.writes,may:=lawL.may} lawL.footing)=true:=by lk
theorem abW:(defStands lawL.about lawL.above)=true:=by lk
theorem abX:(lawL.namesIt)=true:=by lk
theorem abY:((["type","isinstance","issubclass","getattr","hasattr"]:H ai).all (λ n=>lawL.about !=[n]))=true:=rfl
theorem abZ:(lawL.bound'.all (λ n=> !YC n||lawL.about==[n]|| !lawL.reads n))=true:=by lk
theorem ab0:((!lawL.writes|| (lawL.prog.main.body.flatMap importedNames).all λ n=> !lawL.reads n))=true:=rfl
theorem ab1:((lawL.prog.main.body.flatMap importedNames).all (λ n=> !lawL.reads n|| (drawsOf n lawL.prog.main.body).all λ m=>m.2 !=("attrgetter" :ai)&&m.2 !=("methodcaller" :ai)))=true:=by lk
theorem ab2:(KY lawL.prog lawL.footing (λ s n=>(!(["type","isinstance","issubclass","getattr","hasattr"]:H ai).contains n||s.names.lookup n==B .globalImplicit)&&(lawL.may !=B n||s.kind==.module||s.names.lookup n==B .globalImplicit)))=true:=by lk
theorem ab3:(lawL.own.contains lawL.name)=true:=rfl
theorem ab4:(O lawL.own.eraseDups==O lawL.own)=true:=rfl
theorem ab5:(lawL.own.all (λ n=> !YC n))=true:=rfl
theorem ab6:(KY lawL.prog lawL.above (λ u n=> !lawL.own.contains n))=true:=by lk
theorem ab7:(KY lawL.prog lawL.footing λ s n=>s.kind==.module||s.names.lookup n !=B .globalExplicit)=true:=by lk
theorem ab8:lawL.wellSaid=true:=ec (ec (ec (ec (ec (ec (ec (ec (ec (ec (ec (ec (ec (ec (ec (ec (ec (ec ((ec (ec ((ec (ec (ec (ec (ec (ec (ec (ec (ec (ec (ec (ec (ec ((ec (ec (ec (ec (ec abv abw) abx) aby) abz) abA)) abB) abC) abD) abE) abF) abG) abH) abI) abJ) abK) abL) abM) abN)) abO) abP)) abQ) abR) abS) abT) abU) abV) abW) abX) abY) abZ) ab0) ab1) ab2) ab3) ab4) ab5) ab6) ab7
theorem ab9(call:∀d kwd,tp iU rowL.name=B (d,kwd)->WalkX iU p2 (λ u u=>True) wJ wK rowL.toRowW d kwd λ f vs=>KX f vs):PySem.Challenge.rw_ta0134_01.Holds:=holds_law ab8 λ s=>abu s call
def Ci:Heap:=⟨(hQ 10 l6).toArray,{}⟩
theorem T2(b:ao):Ci.get? b=none:=by
 have:∀b,b<10->Ci.get? b=none:=by decide
 by_cases h:b<10
 ·exact this b h
 ·have:Ci.objs[b]?=none:=Array.getElem?_eq_none (zC h)
  unfold D1;exact L this rfl
def n1(w:dg):bX:=⟨rowL.prog,w,[],ed w.params,Ci⟩noncomputable def vb:bD:=⟨callerA,[],[],[],[]⟩
theorem Cj(w:dg):Base (n1 w):=⟨(show tu (ed w.params)from by
  exact cq (bF.mp (show((ed w.params).isNs DT&&((ed w.params).nsMap DT sharingNotToldKey).isNone)=S by lk)) λ e E=>⟨_,vR e,by simpa using E⟩),show th<10 by decide⟩
theorem aiG(w:dg):eW (n1 w) vb 40:=⟨λ u h=>h,λ u h=>h,rfl,λ u=>rfl,by decide,by decide,(show(ed w.params).NoLimit from by
  exact cq (bF.mp (show((ed w.params).isNs DT&&((ed w.params).nsMap DT _).isNone)=S by lk)) λ e E=>⟨_,vR e,by simpa using E⟩)⟩
theorem aiH(w:dg):gn (n1 w):=by
 have k:(n1 w).K=ed (n1 w).w.params:=rfl;refine⟨Cj w,wx k,aah k,aai k,aaj k,aak k,aaN k,λ a c n e V=>?_⟩;unfold Sn at e;revert e;refine dO (a==Se) (λ h=>?_) λ h=>?_<;>rw[h]
 ·exact λ e=>ak e▸cI.mp h▸yb (aiE k (Cj w) (wx k) (by lia))
 refine dO (a==Sf) (λ h=>?_) λ h=>?_<;>rw[h]
 ·exact λ e=>ak e▸cI.mp h▸yb (aiF k (Cj w) (wx k) (by lia))
 refine dO (a==Ie) (λ h=>?_) λ h=>?_<;>rw[h]
 ·exact λ e=>ak e▸cI.mp h▸yb (aiD k (Cj w) (wx k) n)
 ·exact nn
theorem ints_rep(r:IntsAre vs N):bT X h vs (N.map D.int):=by induction r with|nil=>exact .nil|cons n t _ i=>exact .cons (.int n t) i
theorem IJ(P:dj):(H1 P).get? 89=B (wd #[])/\(H1 P).get? 96=B (wd #[])/\(H1 P).get? 93=B (Fi P)/\(H1 P).get? 100=B (Fj P):=
 ⟨Y (m6 (o:=wd #[]) (show 89<371 by decide) (by lk)) rfl,Y (m6 (o:=wd #[]) (show 96<371 by decide) (by lk)) rfl,Y (m6 (o:=Fi P) (show 93<371 by decide) (by lk)) rfl,Y (m6 (o:=Fj P) (show 100<371 by decide) (by lk)) rfl⟩
theorem aiI{s:aU}(d:(H1 w.params).StaysIn s.heap)(I:10<=s.heap.objs.size):aG (n1 w) vb [89,96] bK s.heap:=by
 refine pR (IJ w.params) λ t1 t f f=>?_;obtain⟨n,N⟩:=(show(ed w.params).get? 89=aa/\(ed w.params).get? 96=aa from⟨Y (m6 (o:=l6) (show 89<371 by decide) (by lk)) rfl,Y (m6 (o:=l6) (show 96<371 by decide) (by lk)) rfl⟩);refine⟨λ b o e=>d b o (EZ e),I,λ a c=>?_,λ a c=>(nomatch c),by decide,λ a u h=>(nomatch h),.cons ⟨rfl, #[],d _ _ t1,.inl rfl⟩ (.cons ⟨rfl, #[],d _ _ t,.inl rfl⟩ .nil),λ e x=>(aS x dS),⟨λ b o e=>?_,λ b o e=>?_⟩⟩
 ·rcases c with c|c
  ·exact nomatch c
  ·simp[dM,dS,jO]at c
   rcases c with rfl|rfl
   ·exact⟨n,by show 10<=89;lia⟩
   ·exact⟨N,by show 10<=96;lia⟩
 ·rw[show(n1 w).h₀.get? b=aa from T2 b]at e;cases e
 ·rw[show(n1 w).h₀.get? b=aa from T2 b]at e;exact nn e
theorem aiJ(b:(H1 P).StaysIn h):isCodeTable h 89/\isCodeTable h 96:=pR (IJ P) λ u u t T=>(⟨(e_ 93 _ _ ⟨b _ _ t,rfl,rfl,rfl⟩),(e_ 100 _ _ ⟨b _ _ T,rfl,rfl,rfl⟩)⟩)
theorem aiK(d:(H1 w.params).StaysIn h)(st:a_ [] [] [89,96] h aA h')(I:aG (n1 w) vb aA af h')(p:af[0]?=B (.tab 89 121 4 lF))(W:af[1]?=B (.tab 96 136 4 mH)):OldK h h':=by
 refine pR (IJ w.params) λ t1 t u u=>?_;obtain⟨C,f⟩:=aiJ d;refine av st.ext λ r T u=>?_;subst T;have iS:∀(i:J) a (l c) q,([89,96]++r)[i]?=B a->af[i]?=B (.tab a l c q)->∃vs,h'.get? a=B {cls:=.none,data:=.fields vs} :=by refine λ i a l c q z es=>av (I.bM.get z) λ m E M=>?_;rw[es]at E;obtain rfl:=ak E;obtain⟨_,vs,e,_⟩:=M;exact⟨vs,e⟩
 obtain⟨v,K⟩:=iS 0 89 _ _ _ rfl p;obtain⟨V,n⟩:=iS 1 96 _ _ _ rfl W;have k:∀b o,h.get? b=B o->asItWas h h' b o:=by
  intro b o e;by_cases P:b=89
  ·subst P
   rw[d _ _ t1]at e;obtain rfl:=ak e;exact .inr (.inl ⟨C,rfl, #[],v,rfl,by rw[K];simp⟩)
  ·by_cases c4:b=96
   ·subst c4
    rw[d _ _ t]at e;obtain rfl:=ak e;exact .inr (.inl ⟨f,rfl, #[],V,rfl,by rw[n];simp⟩)
   ·exact .inl (st.same b o e (λ q=>by cases q) (λ q=>by cases q) (by simp[P,c4]))
 refine⟨k,λ b o e=>?_⟩;rcases k b o e with q|⟨_,_,_,_,_,q⟩|⟨_,_,⟨_,_,_,q,_⟩,_⟩
 ·exact⟨_,q⟩
 ·exact⟨_,q⟩
 ·exact⟨_,q⟩theorem T3{h:aX}(x:h.Ns a m)(y:h.Ns a M)(n:ai):m n=M n:=by refine O5 x λ o es r W j u v=>(O5 y λ T e E c q u A=>?_);rw[W]at c;obtain rfl:=ak c;rw[j]at q;injection q with q;subst q;rw[<-v,<-A]
set_option tactic.hygienic true in
theorem law_fin(Yq:∃C:bV,(∀g,gn g->cK g 370 40 C)/\∀l:H ah,l.length<=63->∃af,C [.d (.ae (l.map D.int))] [] bK=B (.ok (.d (.bool S)),af)/\af[0]?=B (.tab 89 121 4 lF)/\af[1]?=B (.tab 96 136 4 mH)):PySem.Challenge.rw_ta0134_01.Holds:=by
 refine ab9 λ d kwd hd=>?_;intro w Ck yk jl Au G y IK o pm cd doc apr aps dw hdd hcd apt Cm jr args vals as aN aiL aiM Cn hwl hlo
 wrow_args aiL aiM Cn hwl hlo
 rename_i ns _ _ _ _ _ _ _ AW vs _ lp _ _ _ hints _ hlen _;have hy1:Ck.heap.objs.toList.map B=(H1 w.params).objs.toList.map some:=aM Y6 y;have hy2:Ck.toks=2768:=aM Prod.snd y;have OH:=X.script_toks aN hy2;have aiN:=X.script_obj aN lp;have hC:Ck.heap.objs=(H1 w.params).objs:=by have:=List.map_inj_right (f:=B) (λ u u e=>ak e)|>.mp hy1;exact ZA.mp this
 have Co:(H1 w.params).StaysIn yk.heap:=by intro b o e;refine aN.keeps b o ?_;unfold D1 at e ⊢;rw[hC];exact e
 have w5:yk.heap.objs.size=372:=by have:=(X.script_at aN).2;rw[this,show Ck.heap.objs.size=371 by rw[hC];lk]
 have hla:AW=371:=by rw[(X.script_at aN).1,hC];lk
 have T4:d.name=rowL.name:=defOf_name hd;have hfa:IK=370:=by
  have nR:=G.T.g;have gl:=wx (g:=n1 w) rfl;obtain⟨mg',mb',q1,_,aiO⟩:=gl.ex;have e:ee.lookup (ep "law")=B (.obj 370):=by lk
  rcases aiO _ _ e with⟨v,f3,r⟩|⟨f3,_⟩
  ·have ho:jl (ep "law")=B v:=(T3 nR (q1.keeps λ b o e=>Co b o (EZ e)) _).trans f3
   rw[T4]at Cm;have iw:jl (ep "law")=B (.ref IK):=Cm;rw[ho]at iw;exact YH ((ak iw).symm.trans r.inv.1)
  ·have ho:jl (ep "law")=none:=(T3 nR (q1.keeps λ b o e=>Co b o (EZ e)) _).trans f3
   rw[T4]at Cm;have iw:jl (ep "law")=B (.ref IK):=Cm;exact nn (ho.symm.trans iw)
 subst hfa hla;have I:=aiI Co (by lia);obtain⟨C,hF,Yq⟩:=Yq;obtain⟨af,aiP,h0,c5⟩:=Yq ns (by lia);have K:=hF _ (aiH w);have aiQ:371∉vb.P++ [89,96]:=by decide
 have Cp:aV (vb.P++ [89,96]) yk.heap (.ref 371) (.ae (ns.map D.int)):=.ae aiQ ⟨0,aiN⟩ (ints_rep hints);refine K.call vb (aiG w) [.ref 371] [.d (.ae (ns.map D.int))] [] [] [89,96] bK yk _ af I (by lia) ⟨.cons Cp .nil,.nil⟩ aiP _ _ (λ b r h' el aA dw st eX j0 di=>?_) eC.ok;cases dw;obtain rfl:b=.bool true:=aV.inv di;refine⟨.inl ⟨.bool S,.bool S,[],rfl,λ cls=>rfl,.bool S,by lk,λ u=>⟨.nil,λ a hy=>by cases hy⟩⟩,aiK Co st eX h0 c5,rfl,λ o8 hgs=>?_⟩;have:o8∈yk.gens:=hgs;rw[jr]at this;simp at this
theorem good0:bY bK:=⟨rfl,rfl,rfl⟩theorem st(h:∀k,SL (FL ch) N pr s k=k p):yW ch N (fQ pr) [s] bK=B (.ok (.next,fQ p),bK):=ama (XK ch) h good0
abbrev vE(ch:H D->U D)(N:J)(pr:cz)(b:H bx):Prop:=∃ar,yW ch N (fQ pr) b bK=B (.ok (.ret (.d (.bool S)),ar),bK)theorem Ku(h:yW ch (N+2) (fQ pr) [s] bK=B (.ok (.next,fQ p),bK))(q:vE ch (N+1) p b):vE ch (N+2) pr (s::b):=q.elim λ ar g=>⟨ar,Y (cR h) g⟩theorem go(h:∀k,SL (FL ch) (N+2) pr s k=k p)(q:vE ch (N+1) p b):vE ch (N+2) pr (s::b):=Ku (st h) q
theorem Kv(h:a=B x)(j:b=B y)(v:c=B z):cS [a,b,c]=B [x,y,z]:=h▸j▸v▸rfl
theorem od{f:D->U D}(e:l=o.bind f)(h:o=B x):l=f x:=Y e (L h rfl)theorem y2{f:D->U D}(e:l=(o.map D.ae).bind f)(h:o=B x):l=f (.ae x):=Y e (L h rfl)
theorem am9(v:J->D){lo M p Q i R N T:J}(W:lo<5)(j:M<4)(cZ:p<4)(I:Q<7)(P:i<6)(lz:R<65536)(fs:N<65536)(gB:T<65536):
  vE ch 49 (mZ (.int (lo:J)) (.int (p:J)) (J9 M) (yZ Q) (.ae (bb [R,N,T])) (.int (i:J)) v) [lw 11,lw 12,lw 13,lw 14,lw 15,lw 16,lw 17,lw 18,lw 19,lw 20,lw 21,lw 22,lw 23,lw 24,lw 25,lw 26,lw 27,lw 28,lw 29]:=by
 have F:=a4.mpr W;have E:=a4.mpr j;have m:=a4.mpr I;have X:=a4.mpr P;refine amV P λ a0 A g C q0 q1 G=>?_;have fq:J_ i=.ae [.int (8*a0),.int (8*A),.int (8*g)]:=by unfold J_;exact L C rfl
 have QH:=Kp (ch:=ch) (lamp:=0) lz q0 (by decide);have mn:=Kp (ch:=ch) (lamp:=1) fs q1 (by decide);have c4:=Kp (ch:=ch) (lamp:=2) gB G (by decide);have am_:=Y (aM (λ l=>cS (pJ (λ r a=>Kc r (.int (a:J))) [.int R,.int N,.int T] l)) C) (Kv (Kr R q0) (Kr N q1) (Kr T G));have n:R/2^(8*a0)% 256<256:=dN _ (by decide);have K:N/2^(8*A)% 256<256:=dN _ (by decide);have pa:T/2^(8*g)% 256<256:=dN _ (by decide);generalize R/2^(8*a0)% 256=s0 at*;generalize N/2^(8*A)% 256=s1 at*;generalize T/2^(8*g)% 256=V at*;have mf:=Ny s0 s1 V;refine ff (am1 mf.2) λ t1 h8 t3=>?_;have Cp:=(show k_ s0 s1 V<217 from DY (Ey _ g0));have nC:=a4.mpr Cp;refine go (λ k=>y2 (bg (amm ..) m) ((by
   refine DE λ o dw=>?_;obtain⟨A,g⟩:=bF.mp (b9.mp (b9.mp (show((aw 7).all λ Q=>(aw 6).all λ o=>bE (ta o Q) 48&&!aL (ta o Q% 8) 4)=S from by lk) Q (a4.mpr I)) o dw);refine(?_:a8 _ _=_);simp only[A,g,cg.mpr W,dD (show M+1<=4 by assumption),cg.mpr cZ];rfl))) (go (λ k=>od (amo ..) (bg (bg (bg amT F) E) m)) (go (λ k=>bg (amq ..) X) (L fq (go (λ k=>Y (y2 (amr ..) (Kv QH mn c4)) (ams ..)) (go (λ k=>amt ..) (Ku (amu ..) (go (λ k=>od (amv ..) (Y (am0 s0 s1 V) (aM B h8))) (go (λ k=>od (amw ..) ((by
     rw[DE λ c C=>?_]
     ·rfl
     ·refine(?_:a8 _ _=_)
      simp only[cg.mpr (a4.mp C),cg.mpr W,dD (show M+1<=4 by exact aoT j)];rfl))) (go (λ k=>bg (amx ..) (a4.mpr t1)) ?_)))))))))
 rw[t3,mf.1];exact go (λ k=>amy ..) (go (λ k=>y2 (bg (amz ..) X) am_) (go (λ k=>y2 (amA ..) (Kv (Kt n) (Kt K) (Kt pa))) (go (λ k=>od (amB ..) (am3 s0 s1 V)) (go (λ k=>J8 (FL ch) k 33 24 _ (.inr (.inl rfl)) (Y (amC ..) (am5 Cp))) (go (λ k=>od (amD ..) (Y ((show Kd s0 s1 V=B (.bool (never s0 s1 V))from by
   obtain t:cp .In (.int s0) (.aD (bb [170,204,240,85,51,15]))=B (aL 170 s0|| (aL 204 s0|| (aL 240 s0|| (aL 85 s0|| (aL 51 s0|| (aL 15 s0||false)))))):=by
    obtain s:∀x:J,(x==(s0:ah))=aL x s0:=λ x=>by rw[DF];cases h:aL s0 x with|true=>rw[dE h,q_]|false=>cases q:aL x s0 with|true=>rw[dE q,q_]at h;exact aS h y3|false=>rfl
    simp only[<-s];rfl
   have gG:cp .Eq (.int s0) (.int s1)=B (aL s0 s1):=by
    rw[show cp .Eq _ _=B _ from rfl,DF];cases h:aL s0 s1 with
    |true=>rw[dE h,q_]
    |false=>
     cases q:aL s1 s0 with
     |true=>rw[dE q,q_]at h;cases h
     |false=>rfl
   obtain j1:cp .Eq _ _=B (aL s1 V):=by
    rw[show cp .Eq (.int s1) (.int V)=B _ from rfl,DF];cases h:aL s1 V with
    |true=>rw[dE h,q_]
    |false=>
     cases q:aL V s1 with
     |true=>rw[dE q,q_]at h;cases h
     |false=>rfl
   delta Kd never;refine L (Yb 0 s0 s1 V) (L (Yb 255 s0 s1 V) (L gG (L j1 (L t ?_))));generalize aL s0 s1=a;generalize aL s1 V=b;obtain f3:∀x y z:aF,(x|| (y|| (z||false)))=(x||y||z):=by decide
   rw[f3,f3,(show∀x y z u v w:aF,(x|| (y|| (z|| (u|| (v|| (w||false))))))=(x||y||z||u||v||w) by decide)];generalize (aL 0 s0||Nat.beq 0 s1||Nat.beq 0 V)=c;generalize (aL 255 s0||Nat.beq 255 s1||Nat.beq 255 V)=d;generalize (aL 170 s0||Nat.beq 204 s0||Nat.beq 240 s0||Nat.beq 85 s0||Nat.beq 51 s0||Nat.beq 15 s0)=e;induction a<;>induction b<;>induction c<;>induction d<;>induction e<;>rfl)) (aM (λ b=>B (D.bool b)) (am6 n K pa)))) (Ku (bg (amE ..) nC) (go (λ k=>J8 (FL ch) k 30 27 _ (.inr (.inr rfl)) (bg (amF ..) nC)) (go (λ k=>y2 (bg (amG ..) m) (bg (bg (bg am7 F) E) m)) (amb (XK ch) (Y (amH ..) (L (bg (bg (bg am8 F) E) m) rfl)) good0)))))))))noncomputable def vOf(s t c m b_ y Q ab b2 q r b:D)(j:J):D:=match j with|0=>s|1=>t|2=>c|4=>m|5=>b_|6=>y|7=>Q|8=>ab|9=>b2|10=>q|11=>r|_=>b
theorem ana(s t:D)(u:∀c:H J,O c=5->∃i,i<6/\ch [.ae (bb c),eI]=B (.int (i:J))){C P d z A Q f M lo V p b_ y W:J}(K:d<2^60)(c5:lo<5)(j:V<4)(cZ:p<4)(X:b_<2)(hm:y<2)(I:W<7):
  vE ch 56 (hL [s,t,J7 d (.int (C:J)) (.int (P:J)) (.int (z:J)) (.int (A:J)) (.int (Q:J)) (.int (f:J)) (.int (M:J)),eI,.int (lo:J),.int (V:J),.int (p:J),.int (b_:J),.int (y:J),.int (W:J)]) [lw 4,lw 5,lw 6,lw 7,lw 8,lw 9,lw 10,lw 11,lw 12,lw 13,lw 14,lw 15,lw 16,lw 17,lw 18,lw 19,lw 20,lw 21,lw 22,lw 23,lw 24,lw 25,lw 26,lw 27,lw 28,lw 29]:=by
 refine XZ C λ a0 N g i1 ew mu rV=>XZ (match aL y 0 with|true=>C|false=>P) λ G E c4 e Gc anb anc=>?_;have ane:CI [match aL y 0 with|true=>.int C|false=>.int P]=B (.ae (bb [G,E,c4])):=by cases q:aL y 0<;>rw[q]at e<;>exact aM (λ l=>B (D.ae _)) e
 have eT:=amL (FL ch) a0 N g G E c4;rw[<-(aM (λ l=>B (D.ae _)) i1),<-ane]at eT;have w:∀{a b:J},a<256->b<256->a+256*b<65536:=λ h k=>eo (anE h _) (ax (iO ..) (vI 256 k));have v:=w ew Gc;have F:=w mu anb;have o:=w rV anc;have m:=amO K X;apply go (λ k=>bg (bg (bg (x_4 ..) (a4.mpr j)) (a4.mpr X)) (a4.mpr I));generalize Dw b_ d=ab at*;generalize a0+256*G=r at*;generalize N+256*E=R at*;generalize g+256*c4=T at*;refine go (λ k=>od (bg (x_5 ..) (a4.mpr hm)) eT) ?_;have hq:=X5 v F o;have vi:vx [.ae (bb [r,R,T]),.int 16]=B _:=amN (n:=16) (by decide) (by simp) λ x K=>by simp[dM,dS,jO]at K;rcases K with rfl|rfl|rfl<;>assumption
 have jT:((aI .Mult (.int ab) yY).bind λ a=>(vx [.ae (bb [r,R,T]),.int 16]).bind λ b=>aI .Add a b)=B (.int (ab*281474976710656+(kW r R T))):=by rw[vi,show aI .Mult _ yY=B _ from DC ab rfl];rfl
 exact go (λ k=>od (x_6 ..) jT) (av (u [z,A,Q,f,M] rfl) λ i dk nB=>go (λ k=>Y (od (x_7 ..) (amP m hq)) (amf ..)) (go (λ k=>od (x_8 ..) (Kl (n:=16) (by decide) (by decide) (bA (tc (k:=3) (by decide) hq) (by decide)))) (go (λ k=>od (x_9 ..) nB) (go (λ k=>J8 _ k 47 10 _ (.inl rfl) (test10 _ _ _ _ _ _ _ _ _ _ _ _ m v F o)) (am9 (vOf _ _ _ _ _ _ _ _ _ _ _ _) c5 j cZ I dk v F o)))))def anf(ds:H D):U D:=one ds (x1 λ xs=>(oY xs).bind λ n=>bR (aZ (O n) 63) (B (.bool S)))
theorem ints_of:∀{xs:H D}{n:H ah},oY xs=B n->xs=n.map D.int
 |[],_,e=>by refine ax (ak e) ?_;rfl
 |x::xs,n,e=>by
  rcases x with _|_|i|_|_|_|_|_|_|_|⟨_,_⟩;case int=>exact av (hR.mp e) λ js E w=>ax w (L (ints_of E) rfl)
  all_goals cases e
theorem law_holds:PySem.Challenge.rw_ta0134_01.Holds:=by
 refine av al_ λ ch W j=>law_fin ⟨cx anf,λ g G=>(by
   refine yz G (by decide) (ct:=d4 (XJ ch)) (hJ (AllP.mem (.cons (aj0 G (by decide)) (.cons (CG G 6 32 (by decide) (by decide)) (.cons (ajG G 29 (by decide)) (.cons (amc G (by decide)) (.cons (cK.less (Vn G (by decide)) λ as ks σ r e=>by
     obtain⟨r,af⟩:=r;refine ys e λ ds d E f R W s F=>?_;subst E f s F;refine vk W λ u w E=>L w (I5 E λ a n A f=>L A ?_);obtain⟨q,j⟩:=dn f;refine ax (ak j) ?_;obtain⟨P,q⟩:=bF.mp q;exact cq (bF.mp q) λ b p=>Vl (b8 P) (b8 b) (b8 p) R) (.cons ((W G) (by decide)) (.cons (ajQ G 36 (by decide)) (.cons (ajP G 36 (by decide)) (.cons (ajJ G 38 (by decide)) .nil))))))))))) rfl λ ds d e=>?_
   refine j2 e λ a E e=>BQ e λ xs f e=>b3 e λ N s e=>bN e λ W dQ=>?_;subst E f;refine ax (ak dQ) ?_;cases ints_of s;exact a7 ((by
     refine amJ (b8 W) λ K Q C t M m x v I e=>?_;exact a7 (ana _ vy j I (dN C (by decide)) (dN _ (by decide)) (dN _ (by decide)) (dN _ (by decide)) (dN _ (by decide)) (dN _ (by decide))) λ ar g=>L (show bP _=(aw 30).map lw from rfl) ⟨ar,Y (cR rfl) (Y (cR (st λ k=>Y (x_1 _ k _) (aM (λ o=>(o.map D.ae).bind λ c=>k (hL [.ae (N.map D.int),vy,c])) e))) (Y (cR rfl) (Y (cR rfl) g)))⟩)) λ ar h=>⟨rfl,ar,bK,h,rfl⟩),λ l z=>⟨bK,sI (ds:=[.ae _]) ?_ rfl,rfl,rfl⟩⟩
 show(oY _).bind _=_;exact L (Kg ..) (eh (dD z))
end
end Mine.Internal
theorem PySem.Challenge.cw_ta0134_01_holds : PySem.Challenge.rw_ta0134_01.Holds :=
Mine.Internal.law_holds
